import JvmDerived
import JvmDerived.Pilot.@@N@@Statement
import JvmDerived.Pilot.@@N@@Code
set_option linter.unusedVariables false
set_option linter.unusedSimpArgs false
namespace Jvm.RoadKit
open Sem ClassFile Op Lib Jvm.Stand Jvm.Free Jvm.LawKit
section New
variable {p : Program} {l : Launch} {e : Env} {R : Room} {s : State} {m : MethodId} {args : Array Value} {below : List Frame} {meth : Method} {c : Code} {T : State} {locs : List Loc} {cells slots : Nat}
theorem retI (X : Stand p l e R s m args below meth c T locs cells slots) (hx : p.tables.exec = Jvm.exec) {pc : Nat} {Ls : Array Slot} {z : Int32} {rest : List Value} (hret : meth.sig.returnType = some .int) (hd : decode c.code pc = .ok (.ireturn, 1)) {fs : List Frame}
    (hl : ∀ (f : JFrame) (acts : List Action), f.method = m → f.locked = none → f.entered = [] → (doReturn e (T.setTop f) acts (some (.int z))).1 = T.setFrames fs) : Steps p.tables e below (T.setTop (mkF m pc Ls (.int z :: rest))) (T.setFrames fs) := by
  have hm' : T.vm.method? m = some meth := X.method'
  have hn : narrow .int (.int z) = .int z := rfl
  show Steps p.tables e below (T.setTop { method := m, pc := pc, locals := Ls, stack := _ :: rest, locked := none }) _
  jvm_step X.here [X.here.top, hx, hd, hm', hret, hn]
  first | (intro acts; rw [hl _ acts rfl rfl rfl]) | rw [hl _ _ rfl rfl rfl]
  exact Steps.refl _
end New
end Jvm.RoadKit
namespace Jvm.Pilot.@@N@@
open Jvm Jvm.ClassFile Sem Op Lib Jvm.Free Jvm.Stand Jvm.LawKit Jvm.RoadKit Bundle Jvm.Pilot.@@N@@.Jvm.D
/-- from the state A the run comes to the frame f over T -/
abbrev Go (tb : Tables) (e : Env) (below : List Frame) (A T : State) (f : JFrame) : Prop := ∀ t, Steps tb e below (T.setTop f) t → Steps tb e below A t

theorem own_sta {args : Array Value} {s : State} {C n d K : String} {a0 : Array Value} (h : (Jvm.Cond.exactly (Term.static C n d) K).value args s none s [] = some true) (hi : (Jvm.Cond.initialized C).before args s = true) (hl : (Jvm.Cond.laysStatic C n d).before args s = true) :
    ∃ a, Sta s s.heap C n d (.ref a) ∧ Exa s s.heap a K ∧ (Term.static C n d).eval args s none [] s = some (.ref a) := by
  obtain ⟨a, e⟩ := exa_v h
  exact ⟨a, Sta.start e (Or.inr ⟨hi, hl⟩), Exa.start e h, e⟩
theorem own_fld {args : Array Value} {s : State} {t : Term} {a : Addr} {C n d : String} {z : Int32} (et : t.eval args s none [] s = some (.ref a)) (h : (Jvm.Cond.eq (Term.field t C n d) (Term.int z)).value args s none s [] = some true) : Fld s s.heap a C n d (.int z) := by
  obtain ⟨x, y, e1, e2, k1, k2⟩ := cmp_v (Or.inl h)
  cases (Term.int_eval z).symm.trans e2
  obtain ⟨u, rfl⟩ : ∃ u, x = .int u := k2
  have q : u = z := gotT (Cond.eq_ints e1 (Term.int_eval z)) h
  subst q
  simp only [Term.eval, et] at e1
  exact Fld.start e1

def own_ord (a i t b : Addr) : Int32 := if a = i then 1 else if a = t then 1 else if a = b then 1 else 0
theorem own_mod8 (x : Int32) : ((x &&& (2147483647 : Int32)) % (8 : Int32)) = 0 ∨ ((x &&& (2147483647 : Int32)) % (8 : Int32)) = 1 ∨ ((x &&& (2147483647 : Int32)) % (8 : Int32)) = 2 ∨ ((x &&& (2147483647 : Int32)) % (8 : Int32)) = 3 ∨ ((x &&& (2147483647 : Int32)) % (8 : Int32)) = 4 ∨ ((x &&& (2147483647 : Int32)) % (8 : Int32)) = 5 ∨ ((x &&& (2147483647 : Int32)) % (8 : Int32)) = 6 ∨ ((x &&& (2147483647 : Int32)) % (8 : Int32)) = 7 := by
  have h := (c_and x 2147483647 (by decide)).1
  have e := (c_irem (x &&& (2147483647 : Int32)) 8 8 rfl).1 h
  simp only [← Int32.toInt_inj, e, show (0 : Int32).toInt = 0 from rfl, show (1 : Int32).toInt = 1 from rfl, show (2 : Int32).toInt = 2 from rfl, show (3 : Int32).toInt = 3 from rfl, show (4 : Int32).toInt = 4 from rfl, show (5 : Int32).toInt = 5 from rfl, show (6 : Int32).toInt = 6 from rfl, show (7 : Int32).toInt = 7 from rfl]
  omega
theorem pd_0 : parseMethodDescriptor "()Z" = some ⟨[], some .boolean⟩ := by decide +kernel
theorem d1_0 : decode prog_146_method_10_code 0 = .ok (.aload_n 0, 1) := by decide +kernel
theorem d1_1 : decode prog_146_method_10_code 1 = .ok (.getstatic 3, 3) := by decide +kernel
theorem d1_4 : decode prog_146_method_10_code 4 = .ok (.if_acmp .eq 17, 3) := by decide +kernel
theorem d1_7 : decode prog_146_method_10_code 7 = .ok (.aload_n 0, 1) := by decide +kernel
theorem d1_8 : decode prog_146_method_10_code 8 = .ok (.getstatic 7, 3) := by decide +kernel
theorem d1_11 : decode prog_146_method_10_code 11 = .ok (.if_acmp .eq 10, 3) := by decide +kernel
theorem d1_14 : decode prog_146_method_10_code 14 = .ok (.aload_n 0, 1) := by decide +kernel
theorem d1_15 : decode prog_146_method_10_code 15 = .ok (.getstatic 10, 3) := by decide +kernel
theorem d1_18 : decode prog_146_method_10_code 18 = .ok (.if_acmp .ne 7, 3) := by decide +kernel
theorem d1_21 : decode prog_146_method_10_code 21 = .ok (.iconst 1, 1) := by decide +kernel
theorem d1_22 : decode prog_146_method_10_code 22 = .ok (.goto 4, 3) := by decide +kernel
theorem d1_25 : decode prog_146_method_10_code 25 = .ok (.iconst 0, 1) := by decide +kernel
theorem d1_26 : decode prog_146_method_10_code 26 = .ok (.ireturn, 1) := by decide +kernel
theorem pn_ord : plainName "com/example/plain_snapshot/plainsnapshot/sql/Type" = true := by first | (simp [plainName, overriddenIn]; done) | decide +kernel
theorem ef_ord (m : MethodId) (a0 : Addr) : entryFrame m #[(.ref a0)] 1 = mkF m 0 #[.val (.ref a0)] [] := by first | (simp [entryFrame, mkF, argsToLocals, Value.category]; done) | rfl
def Q_ord (Z : State) (a0 : Addr) (r_INT : Addr) (r_TEXT : Addr) (r_BOOLEAN : Addr) (h0 : Heap) (n0 : Nat) (v : Option Value) (h : Heap) (L : List Loc) : Prop := v = some (.int (own_ord a0 r_INT r_TEXT r_BOOLEAN)) ∧ Fr n0 L ∧ h = h0
set_option maxRecDepth 65536 in
set_option maxHeartbeats 40000000 in
theorem rm_ord (l : Launch) (Z : State) (a0 : Array Value) (hw : ∀ d ∈ tables_1, d.before a0 Z = true) (ws : List Jvm.Cond) (a0 : Addr) (r_INT : Addr) (r_TEXT : Addr) (r_BOOLEAN : Addr) (h0 : Heap) (n0 : Nat) (S_INT : Sta Z h0 "com/example/plain_snapshot/plainsnapshot/sql/Type" "INT" "Lcom/example/plain_snapshot/plainsnapshot/sql/Type;" (.ref r_INT)) (S_TEXT : Sta Z h0 "com/example/plain_snapshot/plainsnapshot/sql/Type" "TEXT" "Lcom/example/plain_snapshot/plainsnapshot/sql/Type;" (.ref r_TEXT)) (S_BOOLEAN : Sta Z h0 "com/example/plain_snapshot/plainsnapshot/sql/Type" "BOOLEAN" "Lcom/example/plain_snapshot/plainsnapshot/sql/Type;" (.ref r_BOOLEAN)) :
    MetFree l (⟨"com/example/plain_snapshot/plainsnapshot/sql/Type", "isOrdered", "()Z"⟩ : MethodName) (head1 (Jvm.Cond.code (⟨"com/example/plain_snapshot/plainsnapshot/sql/Type", "isOrdered", "()Z"⟩ : MethodName) prog_146_method_10_code 1 (some .boolean) :: ws) ({ frames := 0, cells := 0, slots := 0, locals := 0 } : Room)) (fun a U => a = #[(.ref a0)] ∧ Z.Warmed39 U.vm ∧ U.heap = h0) (fun _ _ _ _ _ => True) (fun _ U o U' => ∃ v L, o = .returned v ∧ Q_ord Z a0 r_INT r_TEXT r_BOOLEAN h0 n0 v U'.heap L ∧ FrameEnd U o U' L ({ frames := 0, cells := 0, slots := 0, locals := 0 } : Room).cells ({ frames := 0, cells := 0, slots := 0, locals := 0 } : Room).slots) := by
  refine MetFree.of_bodySF (plainFor_of_name pn_ord) hisR ?_
  intro p e s m args below meth c s₁ Bd hml0 hP hK
  obtain ⟨rfl, hZ, hh⟩ := hP
  have hx := Bd.exec
  have hby := Bd.bytes
  have hml : c.maxLocals = 1 := hml0
  have hown : s.vm.findClass "com/example/plain_snapshot/plainsnapshot/sql/Type" = some m.cls := findClass_of_methodNamed Bd.named
  have hnm := (name_of_methodNamed Bd.named Bd.method).1
  have X0 : Stand p l e ({ frames := 0, cells := 0, slots := 0, locals := 0 } : Room) s m #[(.ref a0)] below meth c s₁ [] 0 0 := Stand.of_body Bd
  have e0 : s₁.heap = h0 := by rw [← hh, Bd.state]; rfl
  have N0 := Fr.nil n0
  have pre0 : Go p.tables e below (s₁.setTop (entryFrame m #[(.ref a0)] 1)) s₁ (mkF m 0 #[.val (.ref a0)] []) := fun t k => castTop (ef_ord m a0) k
  have pre1 : Go p.tables e below (s₁.setTop (entryFrame m #[(.ref a0)] 1)) s₁ (mkF m 1 #[.val (.ref a0)] [(.ref a0)]) := fun t k => pre0 t (by
      refine XS.aloadN X0.here hx rfl (hb hby d1_0) rfl rfl ?_
      exact k)
  obtain ⟨T2, X2, e2, st2⟩ := getS2 X0 hx hZ hown (host := "") (Or.inl (hw _ (List.mem_of_getElem? (i := 27) rfl))) Via.refl e0 S_INT (g := (mkF m 1 #[.val (.ref a0)] [(.ref a0)])) rfl (hb hby d1_1)
  have pre2 : Go p.tables e below (s₁.setTop (entryFrame m #[(.ref a0)] 1)) T2 (mkF m 4 #[.val (.ref a0)] [(.ref r_INT), (.ref a0)]) := fun t k => pre1 t (st2 _ k)
  by_cases hc3 : a0 = r_INT
  · -- hc3: True
    have pre4 : Go p.tables e below (s₁.setTop (entryFrame m #[(.ref a0)] 1)) T2 (mkF m 26 #[.val (.ref a0)] [(.int (1 : Int32))]) := fun t k => pre2 t (by
        refine Jvm.RoadKit.acmp (g := (mkF m 4 #[.val (.ref a0)] [(.ref r_INT), (.ref a0)])) X2 hx rfl rfl rfl (pc0 := 4) (pc' := 21) (same := true) rfl (hb hby d1_4) rfl (decide_eq_true (congrArg Value.ref hc3)) (by decide) (by decide) ?_
        show Steps p.tables e below (T2.setTop (mkF m 21 #[.val (.ref a0)] [])) _
        refine XS.iconst X2.here hx rfl (hb hby d1_21) ?_
        show Steps p.tables e below (T2.setTop (mkF m 22 #[.val (.ref a0)] [(.int (1 : Int32))])) _
        refine XS.goto X2.here hx rfl (pc0 := 22) (pc' := 26) rfl (hb hby d1_22) (by decide) (by decide) ?_
        exact k)
    obtain ⟨fs, hr, hrun, hended, hW, hsame⟩ := X2.leave (v := some (.int (1 : Int32))) (fun h => by rw [Bd.returns] at h; cases h) (BodyLoose.notSynchronized Bd)
    refine ⟨_, _, pre4 _ ?_, hrun, hended, _, _, rfl, ?_, ⟨_, rfl⟩, hW, hsame.mono (Nat.le_of_ble_eq_true rfl) (Nat.le_of_ble_eq_true rfl)⟩
    · exact retN X2 hx (t := .boolean) Bd.returns (by simp) (hb hby d1_26) hr
    · show Q_ord Z a0 r_INT r_TEXT r_BOOLEAN h0 n0 _ T2.heap _
      rw [e2]
      exact ⟨by simp [own_ord, hc3], N0, rfl⟩
  · -- hc3: False
    have pre5 : Go p.tables e below (s₁.setTop (entryFrame m #[(.ref a0)] 1)) T2 (mkF m 8 #[.val (.ref a0)] [(.ref a0)]) := fun t k => pre2 t (by
        refine Jvm.RoadKit.acmp (g := (mkF m 4 #[.val (.ref a0)] [(.ref r_INT), (.ref a0)])) X2 hx rfl rfl rfl (pc0 := 4) (pc' := 7) (same := false) rfl (hb hby d1_4) rfl (decide_eq_false fun q => hc3 (Value.ref.inj q)) (by decide) (by decide) ?_
        show Steps p.tables e below (T2.setTop (mkF m 7 #[.val (.ref a0)] [])) _
        refine XS.aloadN X2.here hx rfl (hb hby d1_7) rfl rfl ?_
        exact k)
    obtain ⟨T6, X6, e6, st6⟩ := getS2 X2 hx hZ hown (host := "") (Or.inl (hw _ (List.mem_of_getElem? (i := 28) rfl))) Via.refl e2 S_TEXT (g := (mkF m 8 #[.val (.ref a0)] [(.ref a0)])) rfl (hb hby d1_8)
    have pre6 : Go p.tables e below (s₁.setTop (entryFrame m #[(.ref a0)] 1)) T6 (mkF m 11 #[.val (.ref a0)] [(.ref r_TEXT), (.ref a0)]) := fun t k => pre5 t (st6 _ k)
    by_cases hc7 : a0 = r_TEXT
    · -- hc7: True
      have pre8 : Go p.tables e below (s₁.setTop (entryFrame m #[(.ref a0)] 1)) T6 (mkF m 26 #[.val (.ref a0)] [(.int (1 : Int32))]) := fun t k => pre6 t (by
          refine Jvm.RoadKit.acmp (g := (mkF m 11 #[.val (.ref a0)] [(.ref r_TEXT), (.ref a0)])) X6 hx rfl rfl rfl (pc0 := 11) (pc' := 21) (same := true) rfl (hb hby d1_11) rfl (decide_eq_true (congrArg Value.ref hc7)) (by decide) (by decide) ?_
          show Steps p.tables e below (T6.setTop (mkF m 21 #[.val (.ref a0)] [])) _
          refine XS.iconst X6.here hx rfl (hb hby d1_21) ?_
          show Steps p.tables e below (T6.setTop (mkF m 22 #[.val (.ref a0)] [(.int (1 : Int32))])) _
          refine XS.goto X6.here hx rfl (pc0 := 22) (pc' := 26) rfl (hb hby d1_22) (by decide) (by decide) ?_
          exact k)
      obtain ⟨fs, hr, hrun, hended, hW, hsame⟩ := X6.leave (v := some (.int (1 : Int32))) (fun h => by rw [Bd.returns] at h; cases h) (BodyLoose.notSynchronized Bd)
      refine ⟨_, _, pre8 _ ?_, hrun, hended, _, _, rfl, ?_, ⟨_, rfl⟩, hW, hsame.mono (Nat.le_of_ble_eq_true rfl) (Nat.le_of_ble_eq_true rfl)⟩
      · exact retN X6 hx (t := .boolean) Bd.returns (by simp) (hb hby d1_26) hr
      · show Q_ord Z a0 r_INT r_TEXT r_BOOLEAN h0 n0 _ T6.heap _
        rw [e6]
        exact ⟨by simp [own_ord, hc3, hc7], N0, rfl⟩
    · -- hc7: False
      have pre9 : Go p.tables e below (s₁.setTop (entryFrame m #[(.ref a0)] 1)) T6 (mkF m 15 #[.val (.ref a0)] [(.ref a0)]) := fun t k => pre6 t (by
          refine Jvm.RoadKit.acmp (g := (mkF m 11 #[.val (.ref a0)] [(.ref r_TEXT), (.ref a0)])) X6 hx rfl rfl rfl (pc0 := 11) (pc' := 14) (same := false) rfl (hb hby d1_11) rfl (decide_eq_false fun q => hc7 (Value.ref.inj q)) (by decide) (by decide) ?_
          show Steps p.tables e below (T6.setTop (mkF m 14 #[.val (.ref a0)] [])) _
          refine XS.aloadN X6.here hx rfl (hb hby d1_14) rfl rfl ?_
          exact k)
      obtain ⟨T10, X10, e10, st10⟩ := getS2 X6 hx hZ hown (host := "") (Or.inl (hw _ (List.mem_of_getElem? (i := 29) rfl))) Via.refl e6 S_BOOLEAN (g := (mkF m 15 #[.val (.ref a0)] [(.ref a0)])) rfl (hb hby d1_15)
      have pre10 : Go p.tables e below (s₁.setTop (entryFrame m #[(.ref a0)] 1)) T10 (mkF m 18 #[.val (.ref a0)] [(.ref r_BOOLEAN), (.ref a0)]) := fun t k => pre9 t (st10 _ k)
      by_cases hc11 : a0 = r_BOOLEAN
      · -- hc11: True
        have pre12 : Go p.tables e below (s₁.setTop (entryFrame m #[(.ref a0)] 1)) T10 (mkF m 26 #[.val (.ref a0)] [(.int (1 : Int32))]) := fun t k => pre10 t (by
            refine Jvm.RoadKit.acmp (g := (mkF m 18 #[.val (.ref a0)] [(.ref r_BOOLEAN), (.ref a0)])) X10 hx rfl rfl rfl (pc0 := 18) (pc' := 21) (same := true) rfl (hb hby d1_18) rfl (decide_eq_true (congrArg Value.ref hc11)) (by decide) (by decide) ?_
            show Steps p.tables e below (T10.setTop (mkF m 21 #[.val (.ref a0)] [])) _
            refine XS.iconst X10.here hx rfl (hb hby d1_21) ?_
            show Steps p.tables e below (T10.setTop (mkF m 22 #[.val (.ref a0)] [(.int (1 : Int32))])) _
            refine XS.goto X10.here hx rfl (pc0 := 22) (pc' := 26) rfl (hb hby d1_22) (by decide) (by decide) ?_
            exact k)
        obtain ⟨fs, hr, hrun, hended, hW, hsame⟩ := X10.leave (v := some (.int (1 : Int32))) (fun h => by rw [Bd.returns] at h; cases h) (BodyLoose.notSynchronized Bd)
        refine ⟨_, _, pre12 _ ?_, hrun, hended, _, _, rfl, ?_, ⟨_, rfl⟩, hW, hsame.mono (Nat.le_of_ble_eq_true rfl) (Nat.le_of_ble_eq_true rfl)⟩
        · exact retN X10 hx (t := .boolean) Bd.returns (by simp) (hb hby d1_26) hr
        · show Q_ord Z a0 r_INT r_TEXT r_BOOLEAN h0 n0 _ T10.heap _
          rw [e10]
          exact ⟨by simp [own_ord, hc3, hc7, hc11], N0, rfl⟩
      · -- hc11: False
        have pre13 : Go p.tables e below (s₁.setTop (entryFrame m #[(.ref a0)] 1)) T10 (mkF m 26 #[.val (.ref a0)] [(.int (0 : Int32))]) := fun t k => pre10 t (by
            refine Jvm.RoadKit.acmp (g := (mkF m 18 #[.val (.ref a0)] [(.ref r_BOOLEAN), (.ref a0)])) X10 hx rfl rfl rfl (pc0 := 18) (pc' := 25) (same := false) rfl (hb hby d1_18) rfl (decide_eq_false fun q => hc11 (Value.ref.inj q)) (by decide) (by decide) ?_
            show Steps p.tables e below (T10.setTop (mkF m 25 #[.val (.ref a0)] [])) _
            refine XS.iconst X10.here hx rfl (hb hby d1_25) ?_
            exact k)
        obtain ⟨fs, hr, hrun, hended, hW, hsame⟩ := X10.leave (v := some (.int (0 : Int32))) (fun h => by rw [Bd.returns] at h; cases h) (BodyLoose.notSynchronized Bd)
        refine ⟨_, _, pre13 _ ?_, hrun, hended, _, _, rfl, ?_, ⟨_, rfl⟩, hW, hsame.mono (Nat.le_of_ble_eq_true rfl) (Nat.le_of_ble_eq_true rfl)⟩
        · exact retN X10 hx (t := .boolean) Bd.returns (by simp) (hb hby d1_26) hr
        · show Q_ord Z a0 r_INT r_TEXT r_BOOLEAN h0 n0 _ T10.heap _
          rw [e10]
          exact ⟨by simp [own_ord, hc3, hc7, hc11], N0, rfl⟩
theorem pn_law : plainName "com/example/plain_snapshot/plainsnapshot/sql/TypeIsOrderedPinLaw" = true := by first | (simp [plainName, overriddenIn]; done) | decide +kernel
theorem ef_law (m : MethodId) (x0 : Int32) : entryFrame m #[(.int x0)] maxLocals = mkF m 0 #[.val (.int x0), .unset, .unset, .unset] [] := by first | (simp [entryFrame, mkF, argsToLocals, Value.category, maxLocals]; done) | rfl
def Q_law (Z : State) (x0 : Int32) (r_INT : Addr) (r_TEXT : Addr) (r_BOOLEAN : Addr) (r_XID : Addr) (r_CID : Addr) (r_TID : Addr) (r_SNAPSHOT : Addr) (r_UNKNOWN : Addr) (h0 : Heap) (n0 : Nat) (v : Option Value) (h : Heap) (L : List Loc) : Prop := v = some (.int 1) ∧ Fr n0 L
set_option maxRecDepth 65536 in
set_option maxHeartbeats 40000000 in
theorem rm_law (l : Launch) (Z : State) (a0 : Array Value) (hw : ∀ d ∈ tables_1, d.before a0 Z = true) (ws : List Jvm.Cond) (x0 : Int32) (r_INT : Addr) (r_TEXT : Addr) (r_BOOLEAN : Addr) (r_XID : Addr) (r_CID : Addr) (r_TID : Addr) (r_SNAPSHOT : Addr) (r_UNKNOWN : Addr) (h0 : Heap) (n0 : Nat) (Z0 : n0 ≤ h0.size) (O0 : Old Z n0 h0) (S_INT : Sta Z Z.heap "com/example/plain_snapshot/plainsnapshot/sql/Type" "INT" "Lcom/example/plain_snapshot/plainsnapshot/sql/Type;" (.ref r_INT)) (S_TEXT : Sta Z Z.heap "com/example/plain_snapshot/plainsnapshot/sql/Type" "TEXT" "Lcom/example/plain_snapshot/plainsnapshot/sql/Type;" (.ref r_TEXT)) (S_BOOLEAN : Sta Z Z.heap "com/example/plain_snapshot/plainsnapshot/sql/Type" "BOOLEAN" "Lcom/example/plain_snapshot/plainsnapshot/sql/Type;" (.ref r_BOOLEAN)) (S_XID : Sta Z Z.heap "com/example/plain_snapshot/plainsnapshot/sql/Type" "XID" "Lcom/example/plain_snapshot/plainsnapshot/sql/Type;" (.ref r_XID)) (S_CID : Sta Z Z.heap "com/example/plain_snapshot/plainsnapshot/sql/Type" "CID" "Lcom/example/plain_snapshot/plainsnapshot/sql/Type;" (.ref r_CID)) (S_TID : Sta Z Z.heap "com/example/plain_snapshot/plainsnapshot/sql/Type" "TID" "Lcom/example/plain_snapshot/plainsnapshot/sql/Type;" (.ref r_TID)) (S_SNAPSHOT : Sta Z Z.heap "com/example/plain_snapshot/plainsnapshot/sql/Type" "SNAPSHOT" "Lcom/example/plain_snapshot/plainsnapshot/sql/Type;" (.ref r_SNAPSHOT)) (S_UNKNOWN : Sta Z Z.heap "com/example/plain_snapshot/plainsnapshot/sql/Type" "UNKNOWN" "Lcom/example/plain_snapshot/plainsnapshot/sql/Type;" (.ref r_UNKNOWN)) (E_INT : Exa Z Z.heap r_INT "com/example/plain_snapshot/plainsnapshot/sql/Type") (E_TEXT : Exa Z Z.heap r_TEXT "com/example/plain_snapshot/plainsnapshot/sql/Type") (E_BOOLEAN : Exa Z Z.heap r_BOOLEAN "com/example/plain_snapshot/plainsnapshot/sql/Type") (E_XID : Exa Z Z.heap r_XID "com/example/plain_snapshot/plainsnapshot/sql/Type") (E_CID : Exa Z Z.heap r_CID "com/example/plain_snapshot/plainsnapshot/sql/Type") (E_TID : Exa Z Z.heap r_TID "com/example/plain_snapshot/plainsnapshot/sql/Type") (E_SNAPSHOT : Exa Z Z.heap r_SNAPSHOT "com/example/plain_snapshot/plainsnapshot/sql/Type") (E_UNKNOWN : Exa Z Z.heap r_UNKNOWN "com/example/plain_snapshot/plainsnapshot/sql/Type") (F_INT : Fld Z Z.heap r_INT "java/lang/Enum" "ordinal" "I" (.int (0 : Int32))) (F_TEXT : Fld Z Z.heap r_TEXT "java/lang/Enum" "ordinal" "I" (.int (1 : Int32))) (F_BOOLEAN : Fld Z Z.heap r_BOOLEAN "java/lang/Enum" "ordinal" "I" (.int (2 : Int32))) (F_XID : Fld Z Z.heap r_XID "java/lang/Enum" "ordinal" "I" (.int (3 : Int32))) (F_CID : Fld Z Z.heap r_CID "java/lang/Enum" "ordinal" "I" (.int (4 : Int32))) (F_TID : Fld Z Z.heap r_TID "java/lang/Enum" "ordinal" "I" (.int (5 : Int32))) (F_SNAPSHOT : Fld Z Z.heap r_SNAPSHOT "java/lang/Enum" "ordinal" "I" (.int (6 : Int32))) (F_UNKNOWN : Fld Z Z.heap r_UNKNOWN "java/lang/Enum" "ordinal" "I" (.int (7 : Int32))) :
    MetFree l x (head1 (Jvm.Cond.code x code maxLocals ret :: ws) room_1) (fun a U => a = #[(.int x0)] ∧ Z.Warmed39 U.vm ∧ U.heap = h0) (fun _ _ _ _ _ => True) (fun _ U o U' => ∃ v L, o = .returned v ∧ Q_law Z x0 r_INT r_TEXT r_BOOLEAN r_XID r_CID r_TID r_SNAPSHOT r_UNKNOWN h0 n0 v U'.heap L ∧ FrameEnd U o U' L room_1.cells room_1.slots) := by
  refine MetFree.of_bodySF (plainFor_of_name pn_law) hisR ?_
  intro p e s m args below meth c s₁ Bd hml0 hP hK
  obtain ⟨rfl, hZ, hh⟩ := hP
  have hx := Bd.exec
  have hby := Bd.bytes
  have hml : c.maxLocals = 4 := hml0
  have hown : s.vm.findClass "com/example/plain_snapshot/plainsnapshot/sql/TypeIsOrderedPinLaw" = some m.cls := findClass_of_methodNamed Bd.named
  have hnm := (name_of_methodNamed Bd.named Bd.method).1
  have X0 : Stand p l e room_1 s m #[(.int x0)] below meth c s₁ [] 0 0 := Stand.of_body Bd
  have e0 : s₁.heap = h0 := by rw [← hh, Bd.state]; rfl
  have N0 := Fr.nil n0
  have pre0 : Go p.tables e below (s₁.setTop (entryFrame m #[(.int x0)] maxLocals)) s₁ (mkF m 0 #[.val (.int x0), .unset, .unset, .unset] []) := fun t k => castTop (ef_law m x0) k
  obtain ⟨w1, hw1⟩ : ∃ z : Int32, z = ((x0 &&& (2147483647 : Int32)) % (8 : Int32)) := ⟨_, rfl⟩
  have pre2 : Go p.tables e below (s₁.setTop (entryFrame m #[(.int x0)] maxLocals)) s₁ (mkF m 10 #[.val (.int x0), .val (.int w1), .unset, .unset] [(.int (8 : Int32))]) := fun t k => pre0 t (by
      refine XS.iloadN X0.here hx rfl (hb hby at_0) rfl ?_
      show Steps p.tables e below (s₁.setTop (mkF m 1 #[.val (.int x0), .unset, .unset, .unset] [(.int x0)])) _
      refine X0.ldcInt hx hown (mvT hZ (hw _ (List.mem_of_getElem? (i := 0) rfl))) (g := (mkF m 1 #[.val (.int x0), .unset, .unset, .unset] [(.int x0)])) rfl (hb hby at_1) _ ?_
      show Steps p.tables e below (s₁.setTop (mkF m 3 #[.val (.int x0), .unset, .unset, .unset] [(.int (2147483647 : Int32)), (.int x0)])) _
      refine XS.iand X0.here hx rfl (hb hby at_3) rfl ?_
      show Steps p.tables e below (s₁.setTop (mkF m 4 #[.val (.int x0), .unset, .unset, .unset] [(.int (x0 &&& (2147483647 : Int32)))])) _
      refine XS.bipush X0.here hx rfl (hb hby at_4) ?_
      show Steps p.tables e below (s₁.setTop (mkF m 6 #[.val (.int x0), .unset, .unset, .unset] [(.int (8 : Int32)), (.int (x0 &&& (2147483647 : Int32)))])) _
      refine iremM X0 hx (g := (mkF m 6 #[.val (.int x0), .unset, .unset, .unset] [(.int (8 : Int32)), (.int (x0 &&& (2147483647 : Int32)))])) rfl (hb hby at_6) rfl (by decide) ?_
      show Steps p.tables e below (s₁.setTop (mkF m 7 #[.val (.int x0), .unset, .unset, .unset] [(.int ((x0 &&& (2147483647 : Int32)) % (8 : Int32)))])) _
      refine XS.istoreN X0.here hx rfl (x := w1) (rest := []) (hb hby at_7) (by subst hw1; rfl) (l' := #[.val (.int x0), .val (.int w1), .unset, .unset]) rfl ?_
      show Steps p.tables e below (s₁.setTop (mkF m 8 #[.val (.int x0), .val (.int w1), .unset, .unset] [])) _
      refine XS.bipush X0.here hx rfl (hb hby at_8) ?_
      exact k)
  obtain ⟨T3, h3, k3, X3, e3, E3, A3, O3, st3⟩ := newR X0 hx hZ hown (hw _ (List.mem_of_getElem? (i := 1) rfl)) (hw _ (List.mem_of_getElem? (i := 2) rfl)) e0 (g := (mkF m 10 #[.val (.int x0), .val (.int w1), .unset, .unset] [(.int (8 : Int32))])) rfl (hb hby at_10) rfl (by decide) (cap := 8) (by decide) (by decide) (by decide) (by decide)
  obtain ⟨b3, ga3⟩ : ∃ z, z = h0.size := ⟨_, rfl⟩
  rw [← ga3] at A3 st3
  have g4 : n0 ≤ b3 := Nat.le_trans Z0 (Nat.le_of_eq ga3.symm)
  have f5 : n0 ≤ h3.size := Nat.le_trans Z0 E3.1
  have f6 : Old Z n0 h3 := O0.ext E3
  have f7 : Arv Z h3 b3 k3 (.object "com/example/plain_snapshot/plainsnapshot/sql/Type") (8 : Int32) [.null, .null, .null, .null, .null, .null, .null, .null] .null := (Arv.new A3 (by decide)).pad (pad_rep [] .null 8)
  have pre3 : Go p.tables e below (s₁.setTop (entryFrame m #[(.int x0)] maxLocals)) T3 (mkF m 13 #[.val (.int x0), .val (.int w1), .unset, .unset] [(.ref b3)]) := fun t k => pre2 t (st3 _ k)
  have pre8 : Go p.tables e below (s₁.setTop (entryFrame m #[(.int x0)] maxLocals)) T3 (mkF m 15 #[.val (.int x0), .val (.int w1), .unset, .unset] [(.int (0 : Int32)), (.ref b3), (.ref b3)]) := fun t k => pre3 t (by
      refine XS.dup X3.here hx rfl (hb hby at_13) rfl rfl ?_
      show Steps p.tables e below (T3.setTop (mkF m 14 #[.val (.int x0), .val (.int w1), .unset, .unset] [(.ref b3), (.ref b3)])) _
      refine XS.iconst X3.here hx rfl (hb hby at_14) ?_
      exact k)
  obtain ⟨T9, X9, e9, st9⟩ := getS2 X3 hx hZ hown (host := "") (Or.inl (hw _ (List.mem_of_getElem? (i := 3) rfl))) Via.refl e3 (S_INT.ext f6.2) (g := (mkF m 15 #[.val (.int x0), .val (.int w1), .unset, .unset] [(.int (0 : Int32)), (.ref b3), (.ref b3)])) rfl (hb hby at_15)
  have pre9 : Go p.tables e below (s₁.setTop (entryFrame m #[(.int x0)] maxLocals)) T9 (mkF m 18 #[.val (.int x0), .val (.int w1), .unset, .unset] [(.ref r_INT), (.int (0 : Int32)), (.ref b3), (.ref b3)]) := fun t k => pre8 t (st9 _ k)
  obtain ⟨c10, Ar10, q10, S10, M10, H10, G10⟩ := f7
  have hin10 : ¬ ((0 : Int32) < 0 ∨ c10.slots.size ≤ ((0 : Int32)).toNatClampNeg) := inb_of S10 ⟨by decide, by decide⟩
  obtain ⟨T10, h10, X10, e10, W10, st10⟩ := stR X9 hx hZ e9 Ar10 (j := (0 : Int32)) hin10 rfl (Sto.ofV Ar10 q10 O3 (Ins.self (E_INT.ext f6.2))) (g := (mkF m 18 #[.val (.int x0), .val (.int w1), .unset, .unset] [(.ref r_INT), (.int (0 : Int32)), (.ref b3), (.ref b3)])) rfl rfl (hb hby at_18)
  have fa10 : Arv Z h10 b3 k3 (.object "com/example/plain_snapshot/plainsnapshot/sql/Type") (8 : Int32) [(.ref r_INT), .null, .null, .null, .null, .null, .null, .null] .null := Arv.set Ar10 q10 S10 M10 H10 G10 rfl W10 0 rfl (Nat.le_of_ble_eq_true rfl)
  have N10 := Fr.snoc X10 N0 g4
  have f11 : n0 ≤ h10.size := Nat.le_trans f5 (Keep.of_wr W10).1
  have f12 : Old Z n0 h10 := f6.wr W10 g4
  have pre10 : Go p.tables e below (s₁.setTop (entryFrame m #[(.int x0)] maxLocals)) T10 (mkF m 19 #[.val (.int x0), .val (.int w1), .unset, .unset] [(.ref b3)]) := fun t k => pre9 t (st10 _ k)
  have pre13 : Go p.tables e below (s₁.setTop (entryFrame m #[(.int x0)] maxLocals)) T10 (mkF m 21 #[.val (.int x0), .val (.int w1), .unset, .unset] [(.int (1 : Int32)), (.ref b3), (.ref b3)]) := fun t k => pre10 t (by
      refine XS.dup X10.here hx rfl (hb hby at_19) rfl rfl ?_
      show Steps p.tables e below (T10.setTop (mkF m 20 #[.val (.int x0), .val (.int w1), .unset, .unset] [(.ref b3), (.ref b3)])) _
      refine XS.iconst X10.here hx rfl (hb hby at_20) ?_
      exact k)
  obtain ⟨T14, X14, e14, st14⟩ := getS2 X10 hx hZ hown (host := "") (Or.inl (hw _ (List.mem_of_getElem? (i := 7) rfl))) Via.refl e10 (S_TEXT.ext f12.2) (g := (mkF m 21 #[.val (.int x0), .val (.int w1), .unset, .unset] [(.int (1 : Int32)), (.ref b3), (.ref b3)])) rfl (hb hby at_21)
  have pre14 : Go p.tables e below (s₁.setTop (entryFrame m #[(.int x0)] maxLocals)) T14 (mkF m 24 #[.val (.int x0), .val (.int w1), .unset, .unset] [(.ref r_TEXT), (.int (1 : Int32)), (.ref b3), (.ref b3)]) := fun t k => pre13 t (st14 _ k)
  obtain ⟨c15, Ar15, q15, S15, M15, H15, G15⟩ := fa10
  have hin15 : ¬ ((1 : Int32) < 0 ∨ c15.slots.size ≤ ((1 : Int32)).toNatClampNeg) := inb_of S15 ⟨by decide, by decide⟩
  obtain ⟨T15, h15, X15, e15, W15, st15⟩ := stR X14 hx hZ e14 Ar15 (j := (1 : Int32)) hin15 rfl (Sto.ofV Ar15 q15 O3 (Ins.self (E_TEXT.ext f12.2))) (g := (mkF m 24 #[.val (.int x0), .val (.int w1), .unset, .unset] [(.ref r_TEXT), (.int (1 : Int32)), (.ref b3), (.ref b3)])) rfl rfl (hb hby at_24)
  have fa15 : Arv Z h15 b3 k3 (.object "com/example/plain_snapshot/plainsnapshot/sql/Type") (8 : Int32) [(.ref r_INT), (.ref r_TEXT), .null, .null, .null, .null, .null, .null] .null := Arv.set Ar15 q15 S15 M15 H15 G15 rfl W15 1 rfl (Nat.le_of_ble_eq_true rfl)
  have N15 := Fr.snoc X15 N10 g4
  have f16 : n0 ≤ h15.size := Nat.le_trans f11 (Keep.of_wr W15).1
  have f17 : Old Z n0 h15 := f12.wr W15 g4
  have pre15 : Go p.tables e below (s₁.setTop (entryFrame m #[(.int x0)] maxLocals)) T15 (mkF m 25 #[.val (.int x0), .val (.int w1), .unset, .unset] [(.ref b3)]) := fun t k => pre14 t (st15 _ k)
  have pre18 : Go p.tables e below (s₁.setTop (entryFrame m #[(.int x0)] maxLocals)) T15 (mkF m 27 #[.val (.int x0), .val (.int w1), .unset, .unset] [(.int (2 : Int32)), (.ref b3), (.ref b3)]) := fun t k => pre15 t (by
      refine XS.dup X15.here hx rfl (hb hby at_25) rfl rfl ?_
      show Steps p.tables e below (T15.setTop (mkF m 26 #[.val (.int x0), .val (.int w1), .unset, .unset] [(.ref b3), (.ref b3)])) _
      refine XS.iconst X15.here hx rfl (hb hby at_26) ?_
      exact k)
  obtain ⟨T19, X19, e19, st19⟩ := getS2 X15 hx hZ hown (host := "") (Or.inl (hw _ (List.mem_of_getElem? (i := 9) rfl))) Via.refl e15 (S_BOOLEAN.ext f17.2) (g := (mkF m 27 #[.val (.int x0), .val (.int w1), .unset, .unset] [(.int (2 : Int32)), (.ref b3), (.ref b3)])) rfl (hb hby at_27)
  have pre19 : Go p.tables e below (s₁.setTop (entryFrame m #[(.int x0)] maxLocals)) T19 (mkF m 30 #[.val (.int x0), .val (.int w1), .unset, .unset] [(.ref r_BOOLEAN), (.int (2 : Int32)), (.ref b3), (.ref b3)]) := fun t k => pre18 t (st19 _ k)
  obtain ⟨c20, Ar20, q20, S20, M20, H20, G20⟩ := fa15
  have hin20 : ¬ ((2 : Int32) < 0 ∨ c20.slots.size ≤ ((2 : Int32)).toNatClampNeg) := inb_of S20 ⟨by decide, by decide⟩
  obtain ⟨T20, h20, X20, e20, W20, st20⟩ := stR X19 hx hZ e19 Ar20 (j := (2 : Int32)) hin20 rfl (Sto.ofV Ar20 q20 O3 (Ins.self (E_BOOLEAN.ext f17.2))) (g := (mkF m 30 #[.val (.int x0), .val (.int w1), .unset, .unset] [(.ref r_BOOLEAN), (.int (2 : Int32)), (.ref b3), (.ref b3)])) rfl rfl (hb hby at_30)
  have fa20 : Arv Z h20 b3 k3 (.object "com/example/plain_snapshot/plainsnapshot/sql/Type") (8 : Int32) [(.ref r_INT), (.ref r_TEXT), (.ref r_BOOLEAN), .null, .null, .null, .null, .null] .null := Arv.set Ar20 q20 S20 M20 H20 G20 rfl W20 2 rfl (Nat.le_of_ble_eq_true rfl)
  have N20 := Fr.snoc X20 N15 g4
  have f21 : n0 ≤ h20.size := Nat.le_trans f16 (Keep.of_wr W20).1
  have f22 : Old Z n0 h20 := f17.wr W20 g4
  have pre20 : Go p.tables e below (s₁.setTop (entryFrame m #[(.int x0)] maxLocals)) T20 (mkF m 31 #[.val (.int x0), .val (.int w1), .unset, .unset] [(.ref b3)]) := fun t k => pre19 t (st20 _ k)
  have pre23 : Go p.tables e below (s₁.setTop (entryFrame m #[(.int x0)] maxLocals)) T20 (mkF m 33 #[.val (.int x0), .val (.int w1), .unset, .unset] [(.int (3 : Int32)), (.ref b3), (.ref b3)]) := fun t k => pre20 t (by
      refine XS.dup X20.here hx rfl (hb hby at_31) rfl rfl ?_
      show Steps p.tables e below (T20.setTop (mkF m 32 #[.val (.int x0), .val (.int w1), .unset, .unset] [(.ref b3), (.ref b3)])) _
      refine XS.iconst X20.here hx rfl (hb hby at_32) ?_
      exact k)
  obtain ⟨T24, X24, e24, st24⟩ := getS2 X20 hx hZ hown (host := "") (Or.inl (hw _ (List.mem_of_getElem? (i := 11) rfl))) Via.refl e20 (S_XID.ext f22.2) (g := (mkF m 33 #[.val (.int x0), .val (.int w1), .unset, .unset] [(.int (3 : Int32)), (.ref b3), (.ref b3)])) rfl (hb hby at_33)
  have pre24 : Go p.tables e below (s₁.setTop (entryFrame m #[(.int x0)] maxLocals)) T24 (mkF m 36 #[.val (.int x0), .val (.int w1), .unset, .unset] [(.ref r_XID), (.int (3 : Int32)), (.ref b3), (.ref b3)]) := fun t k => pre23 t (st24 _ k)
  obtain ⟨c25, Ar25, q25, S25, M25, H25, G25⟩ := fa20
  have hin25 : ¬ ((3 : Int32) < 0 ∨ c25.slots.size ≤ ((3 : Int32)).toNatClampNeg) := inb_of S25 ⟨by decide, by decide⟩
  obtain ⟨T25, h25, X25, e25, W25, st25⟩ := stR X24 hx hZ e24 Ar25 (j := (3 : Int32)) hin25 rfl (Sto.ofV Ar25 q25 O3 (Ins.self (E_XID.ext f22.2))) (g := (mkF m 36 #[.val (.int x0), .val (.int w1), .unset, .unset] [(.ref r_XID), (.int (3 : Int32)), (.ref b3), (.ref b3)])) rfl rfl (hb hby at_36)
  have fa25 : Arv Z h25 b3 k3 (.object "com/example/plain_snapshot/plainsnapshot/sql/Type") (8 : Int32) [(.ref r_INT), (.ref r_TEXT), (.ref r_BOOLEAN), (.ref r_XID), .null, .null, .null, .null] .null := Arv.set Ar25 q25 S25 M25 H25 G25 rfl W25 3 rfl (Nat.le_of_ble_eq_true rfl)
  have N25 := Fr.snoc X25 N20 g4
  have f26 : n0 ≤ h25.size := Nat.le_trans f21 (Keep.of_wr W25).1
  have f27 : Old Z n0 h25 := f22.wr W25 g4
  have pre25 : Go p.tables e below (s₁.setTop (entryFrame m #[(.int x0)] maxLocals)) T25 (mkF m 37 #[.val (.int x0), .val (.int w1), .unset, .unset] [(.ref b3)]) := fun t k => pre24 t (st25 _ k)
  have pre28 : Go p.tables e below (s₁.setTop (entryFrame m #[(.int x0)] maxLocals)) T25 (mkF m 39 #[.val (.int x0), .val (.int w1), .unset, .unset] [(.int (4 : Int32)), (.ref b3), (.ref b3)]) := fun t k => pre25 t (by
      refine XS.dup X25.here hx rfl (hb hby at_37) rfl rfl ?_
      show Steps p.tables e below (T25.setTop (mkF m 38 #[.val (.int x0), .val (.int w1), .unset, .unset] [(.ref b3), (.ref b3)])) _
      refine XS.iconst X25.here hx rfl (hb hby at_38) ?_
      exact k)
  obtain ⟨T29, X29, e29, st29⟩ := getS2 X25 hx hZ hown (host := "") (Or.inl (hw _ (List.mem_of_getElem? (i := 13) rfl))) Via.refl e25 (S_CID.ext f27.2) (g := (mkF m 39 #[.val (.int x0), .val (.int w1), .unset, .unset] [(.int (4 : Int32)), (.ref b3), (.ref b3)])) rfl (hb hby at_39)
  have pre29 : Go p.tables e below (s₁.setTop (entryFrame m #[(.int x0)] maxLocals)) T29 (mkF m 42 #[.val (.int x0), .val (.int w1), .unset, .unset] [(.ref r_CID), (.int (4 : Int32)), (.ref b3), (.ref b3)]) := fun t k => pre28 t (st29 _ k)
  obtain ⟨c30, Ar30, q30, S30, M30, H30, G30⟩ := fa25
  have hin30 : ¬ ((4 : Int32) < 0 ∨ c30.slots.size ≤ ((4 : Int32)).toNatClampNeg) := inb_of S30 ⟨by decide, by decide⟩
  obtain ⟨T30, h30, X30, e30, W30, st30⟩ := stR X29 hx hZ e29 Ar30 (j := (4 : Int32)) hin30 rfl (Sto.ofV Ar30 q30 O3 (Ins.self (E_CID.ext f27.2))) (g := (mkF m 42 #[.val (.int x0), .val (.int w1), .unset, .unset] [(.ref r_CID), (.int (4 : Int32)), (.ref b3), (.ref b3)])) rfl rfl (hb hby at_42)
  have fa30 : Arv Z h30 b3 k3 (.object "com/example/plain_snapshot/plainsnapshot/sql/Type") (8 : Int32) [(.ref r_INT), (.ref r_TEXT), (.ref r_BOOLEAN), (.ref r_XID), (.ref r_CID), .null, .null, .null] .null := Arv.set Ar30 q30 S30 M30 H30 G30 rfl W30 4 rfl (Nat.le_of_ble_eq_true rfl)
  have N30 := Fr.snoc X30 N25 g4
  have f31 : n0 ≤ h30.size := Nat.le_trans f26 (Keep.of_wr W30).1
  have f32 : Old Z n0 h30 := f27.wr W30 g4
  have pre30 : Go p.tables e below (s₁.setTop (entryFrame m #[(.int x0)] maxLocals)) T30 (mkF m 43 #[.val (.int x0), .val (.int w1), .unset, .unset] [(.ref b3)]) := fun t k => pre29 t (st30 _ k)
  have pre33 : Go p.tables e below (s₁.setTop (entryFrame m #[(.int x0)] maxLocals)) T30 (mkF m 45 #[.val (.int x0), .val (.int w1), .unset, .unset] [(.int (5 : Int32)), (.ref b3), (.ref b3)]) := fun t k => pre30 t (by
      refine XS.dup X30.here hx rfl (hb hby at_43) rfl rfl ?_
      show Steps p.tables e below (T30.setTop (mkF m 44 #[.val (.int x0), .val (.int w1), .unset, .unset] [(.ref b3), (.ref b3)])) _
      refine XS.iconst X30.here hx rfl (hb hby at_44) ?_
      exact k)
  obtain ⟨T34, X34, e34, st34⟩ := getS2 X30 hx hZ hown (host := "") (Or.inl (hw _ (List.mem_of_getElem? (i := 15) rfl))) Via.refl e30 (S_TID.ext f32.2) (g := (mkF m 45 #[.val (.int x0), .val (.int w1), .unset, .unset] [(.int (5 : Int32)), (.ref b3), (.ref b3)])) rfl (hb hby at_45)
  have pre34 : Go p.tables e below (s₁.setTop (entryFrame m #[(.int x0)] maxLocals)) T34 (mkF m 48 #[.val (.int x0), .val (.int w1), .unset, .unset] [(.ref r_TID), (.int (5 : Int32)), (.ref b3), (.ref b3)]) := fun t k => pre33 t (st34 _ k)
  obtain ⟨c35, Ar35, q35, S35, M35, H35, G35⟩ := fa30
  have hin35 : ¬ ((5 : Int32) < 0 ∨ c35.slots.size ≤ ((5 : Int32)).toNatClampNeg) := inb_of S35 ⟨by decide, by decide⟩
  obtain ⟨T35, h35, X35, e35, W35, st35⟩ := stR X34 hx hZ e34 Ar35 (j := (5 : Int32)) hin35 rfl (Sto.ofV Ar35 q35 O3 (Ins.self (E_TID.ext f32.2))) (g := (mkF m 48 #[.val (.int x0), .val (.int w1), .unset, .unset] [(.ref r_TID), (.int (5 : Int32)), (.ref b3), (.ref b3)])) rfl rfl (hb hby at_48)
  have fa35 : Arv Z h35 b3 k3 (.object "com/example/plain_snapshot/plainsnapshot/sql/Type") (8 : Int32) [(.ref r_INT), (.ref r_TEXT), (.ref r_BOOLEAN), (.ref r_XID), (.ref r_CID), (.ref r_TID), .null, .null] .null := Arv.set Ar35 q35 S35 M35 H35 G35 rfl W35 5 rfl (Nat.le_of_ble_eq_true rfl)
  have N35 := Fr.snoc X35 N30 g4
  have f36 : n0 ≤ h35.size := Nat.le_trans f31 (Keep.of_wr W35).1
  have f37 : Old Z n0 h35 := f32.wr W35 g4
  have pre35 : Go p.tables e below (s₁.setTop (entryFrame m #[(.int x0)] maxLocals)) T35 (mkF m 49 #[.val (.int x0), .val (.int w1), .unset, .unset] [(.ref b3)]) := fun t k => pre34 t (st35 _ k)
  have pre38 : Go p.tables e below (s₁.setTop (entryFrame m #[(.int x0)] maxLocals)) T35 (mkF m 52 #[.val (.int x0), .val (.int w1), .unset, .unset] [(.int (6 : Int32)), (.ref b3), (.ref b3)]) := fun t k => pre35 t (by
      refine XS.dup X35.here hx rfl (hb hby at_49) rfl rfl ?_
      show Steps p.tables e below (T35.setTop (mkF m 50 #[.val (.int x0), .val (.int w1), .unset, .unset] [(.ref b3), (.ref b3)])) _
      refine XS.bipush X35.here hx rfl (hb hby at_50) ?_
      exact k)
  obtain ⟨T39, X39, e39, st39⟩ := getS2 X35 hx hZ hown (host := "") (Or.inl (hw _ (List.mem_of_getElem? (i := 17) rfl))) Via.refl e35 (S_SNAPSHOT.ext f37.2) (g := (mkF m 52 #[.val (.int x0), .val (.int w1), .unset, .unset] [(.int (6 : Int32)), (.ref b3), (.ref b3)])) rfl (hb hby at_52)
  have pre39 : Go p.tables e below (s₁.setTop (entryFrame m #[(.int x0)] maxLocals)) T39 (mkF m 55 #[.val (.int x0), .val (.int w1), .unset, .unset] [(.ref r_SNAPSHOT), (.int (6 : Int32)), (.ref b3), (.ref b3)]) := fun t k => pre38 t (st39 _ k)
  obtain ⟨c40, Ar40, q40, S40, M40, H40, G40⟩ := fa35
  have hin40 : ¬ ((6 : Int32) < 0 ∨ c40.slots.size ≤ ((6 : Int32)).toNatClampNeg) := inb_of S40 ⟨by decide, by decide⟩
  obtain ⟨T40, h40, X40, e40, W40, st40⟩ := stR X39 hx hZ e39 Ar40 (j := (6 : Int32)) hin40 rfl (Sto.ofV Ar40 q40 O3 (Ins.self (E_SNAPSHOT.ext f37.2))) (g := (mkF m 55 #[.val (.int x0), .val (.int w1), .unset, .unset] [(.ref r_SNAPSHOT), (.int (6 : Int32)), (.ref b3), (.ref b3)])) rfl rfl (hb hby at_55)
  have fa40 : Arv Z h40 b3 k3 (.object "com/example/plain_snapshot/plainsnapshot/sql/Type") (8 : Int32) [(.ref r_INT), (.ref r_TEXT), (.ref r_BOOLEAN), (.ref r_XID), (.ref r_CID), (.ref r_TID), (.ref r_SNAPSHOT), .null] .null := Arv.set Ar40 q40 S40 M40 H40 G40 rfl W40 6 rfl (Nat.le_of_ble_eq_true rfl)
  have N40 := Fr.snoc X40 N35 g4
  have f41 : n0 ≤ h40.size := Nat.le_trans f36 (Keep.of_wr W40).1
  have f42 : Old Z n0 h40 := f37.wr W40 g4
  have pre40 : Go p.tables e below (s₁.setTop (entryFrame m #[(.int x0)] maxLocals)) T40 (mkF m 56 #[.val (.int x0), .val (.int w1), .unset, .unset] [(.ref b3)]) := fun t k => pre39 t (st40 _ k)
  have pre43 : Go p.tables e below (s₁.setTop (entryFrame m #[(.int x0)] maxLocals)) T40 (mkF m 59 #[.val (.int x0), .val (.int w1), .unset, .unset] [(.int (7 : Int32)), (.ref b3), (.ref b3)]) := fun t k => pre40 t (by
      refine XS.dup X40.here hx rfl (hb hby at_56) rfl rfl ?_
      show Steps p.tables e below (T40.setTop (mkF m 57 #[.val (.int x0), .val (.int w1), .unset, .unset] [(.ref b3), (.ref b3)])) _
      refine XS.bipush X40.here hx rfl (hb hby at_57) ?_
      exact k)
  obtain ⟨T44, X44, e44, st44⟩ := getS2 X40 hx hZ hown (host := "") (Or.inl (hw _ (List.mem_of_getElem? (i := 19) rfl))) Via.refl e40 (S_UNKNOWN.ext f42.2) (g := (mkF m 59 #[.val (.int x0), .val (.int w1), .unset, .unset] [(.int (7 : Int32)), (.ref b3), (.ref b3)])) rfl (hb hby at_59)
  have pre44 : Go p.tables e below (s₁.setTop (entryFrame m #[(.int x0)] maxLocals)) T44 (mkF m 62 #[.val (.int x0), .val (.int w1), .unset, .unset] [(.ref r_UNKNOWN), (.int (7 : Int32)), (.ref b3), (.ref b3)]) := fun t k => pre43 t (st44 _ k)
  obtain ⟨c45, Ar45, q45, S45, M45, H45, G45⟩ := fa40
  have hin45 : ¬ ((7 : Int32) < 0 ∨ c45.slots.size ≤ ((7 : Int32)).toNatClampNeg) := inb_of S45 ⟨by decide, by decide⟩
  obtain ⟨T45, h45, X45, e45, W45, st45⟩ := stR X44 hx hZ e44 Ar45 (j := (7 : Int32)) hin45 rfl (Sto.ofV Ar45 q45 O3 (Ins.self (E_UNKNOWN.ext f42.2))) (g := (mkF m 62 #[.val (.int x0), .val (.int w1), .unset, .unset] [(.ref r_UNKNOWN), (.int (7 : Int32)), (.ref b3), (.ref b3)])) rfl rfl (hb hby at_62)
  have fa45 : Arv Z h45 b3 k3 (.object "com/example/plain_snapshot/plainsnapshot/sql/Type") (8 : Int32) [(.ref r_INT), (.ref r_TEXT), (.ref r_BOOLEAN), (.ref r_XID), (.ref r_CID), (.ref r_TID), (.ref r_SNAPSHOT), (.ref r_UNKNOWN)] .null := Arv.set Ar45 q45 S45 M45 H45 G45 rfl W45 7 rfl (Nat.le_of_ble_eq_true rfl)
  have N45 := Fr.snoc X45 N40 g4
  have f46 : n0 ≤ h45.size := Nat.le_trans f41 (Keep.of_wr W45).1
  have f47 : Old Z n0 h45 := f42.wr W45 g4
  have pre45 : Go p.tables e below (s₁.setTop (entryFrame m #[(.int x0)] maxLocals)) T45 (mkF m 63 #[.val (.int x0), .val (.int w1), .unset, .unset] [(.ref b3)]) := fun t k => pre44 t (st45 _ k)
  have pre48 : Go p.tables e below (s₁.setTop (entryFrame m #[(.int x0)] maxLocals)) T45 (mkF m 66 #[.val (.int x0), .val (.int w1), .val (.ref b3), .unset] [(.int (8 : Int32))]) := fun t k => pre45 t (by
      refine XS.astoreN X45.here hx rfl (hb hby at_63) rfl rfl (l' := #[.val (.int x0), .val (.int w1), .val (.ref b3), .unset]) rfl ?_
      show Steps p.tables e below (T45.setTop (mkF m 64 #[.val (.int x0), .val (.int w1), .val (.ref b3), .unset] [])) _
      refine XS.bipush X45.here hx rfl (hb hby at_64) ?_
      exact k)
  obtain ⟨T49, h49, k49, X49, e49, E49, A49, st49⟩ := newP X45 hx hZ (hw _ (List.mem_of_getElem? (i := 21) rfl)) e45 (g := (mkF m 66 #[.val (.int x0), .val (.int w1), .val (.ref b3), .unset] [(.int (8 : Int32))])) rfl (hb hby at_66) rfl (by decide) (cap := 8) (by decide) (by decide) (by decide) (by decide)
  obtain ⟨b49, ga49⟩ : ∃ z, z = h45.size := ⟨_, rfl⟩
  rw [← ga49] at A49 st49
  have ne50 : b3 ≠ b49 := Nat.ne_of_lt (Nat.lt_of_lt_of_le fa45.lt (Nat.le_of_eq ga49.symm))
  have g51 : n0 ≤ b49 := Nat.le_trans f46 (Nat.le_of_eq ga49.symm)
  have f52 : n0 ≤ h49.size := Nat.le_trans f46 E49.1
  have f53 : Old Z n0 h49 := f47.ext E49
  have f54 : Arv Z h49 b3 k3 (.object "com/example/plain_snapshot/plainsnapshot/sql/Type") (8 : Int32) [(.ref r_INT), (.ref r_TEXT), (.ref r_BOOLEAN), (.ref r_XID), (.ref r_CID), (.ref r_TID), (.ref r_SNAPSHOT), (.ref r_UNKNOWN)] .null := fa45.ext E49
  have f55 : Arv Z h49 b49 k49 .boolean (8 : Int32) [(.int (0 : Int32)), (.int (0 : Int32)), (.int (0 : Int32)), (.int (0 : Int32)), (.int (0 : Int32)), (.int (0 : Int32)), (.int (0 : Int32)), (.int (0 : Int32))] (.int (0 : Int32)) := (Arv.new A49 (by decide)).pad (pad_rep [] (.int (0 : Int32)) 8)
  have pre49 : Go p.tables e below (s₁.setTop (entryFrame m #[(.int x0)] maxLocals)) T49 (mkF m 68 #[.val (.int x0), .val (.int w1), .val (.ref b3), .unset] [(.ref b49)]) := fun t k => pre48 t (st49 _ k)
  have pre56 : Go p.tables e below (s₁.setTop (entryFrame m #[(.int x0)] maxLocals)) T49 (mkF m 71 #[.val (.int x0), .val (.int w1), .val (.ref b3), .unset] [(.int (1 : Int32)), (.int (0 : Int32)), (.ref b49), (.ref b49)]) := fun t k => pre49 t (by
      refine XS.dup X49.here hx rfl (hb hby at_68) rfl rfl ?_
      show Steps p.tables e below (T49.setTop (mkF m 69 #[.val (.int x0), .val (.int w1), .val (.ref b3), .unset] [(.ref b49), (.ref b49)])) _
      refine XS.iconst X49.here hx rfl (hb hby at_69) ?_
      show Steps p.tables e below (T49.setTop (mkF m 70 #[.val (.int x0), .val (.int w1), .val (.ref b3), .unset] [(.int (0 : Int32)), (.ref b49), (.ref b49)])) _
      refine XS.iconst X49.here hx rfl (hb hby at_70) ?_
      exact k)
  obtain ⟨c57, Ar57, q57, S57, M57, H57, G57⟩ := f55
  have hin57 : ¬ ((0 : Int32) < 0 ∨ c57.slots.size ≤ ((0 : Int32)).toNatClampNeg) := inb_of S57 ⟨by decide, by decide⟩
  obtain ⟨T57, h57, X57, e57, W57, st57⟩ := stZ X49 hx hZ e49 Ar57 (j := (0 : Int32)) hin57 (g := (mkF m 71 #[.val (.int x0), .val (.int w1), .val (.ref b3), .unset] [(.int (1 : Int32)), (.int (0 : Int32)), (.ref b49), (.ref b49)])) rfl rfl (hb hby at_71)
  have fa57 : Arv Z h57 b49 k49 .boolean (8 : Int32) [(.int (nar .boolean (1 : Int32))), (.int (0 : Int32)), (.int (0 : Int32)), (.int (0 : Int32)), (.int (0 : Int32)), (.int (0 : Int32)), (.int (0 : Int32)), (.int (0 : Int32))] (.int (0 : Int32)) := Arv.set Ar57 q57 S57 M57 H57 G57 (fits_nar_bool _) W57 0 rfl (Nat.le_of_ble_eq_true rfl)
  have N57 := Fr.snoc X57 N45 g51
  have f58 : n0 ≤ h57.size := Nat.le_trans f52 (Keep.of_wr W57).1
  have f59 : Old Z n0 h57 := f53.wr W57 g51
  have f60 : Arv Z h57 b3 k3 (.object "com/example/plain_snapshot/plainsnapshot/sql/Type") (8 : Int32) [(.ref r_INT), (.ref r_TEXT), (.ref r_BOOLEAN), (.ref r_XID), (.ref r_CID), (.ref r_TID), (.ref r_SNAPSHOT), (.ref r_UNKNOWN)] .null := f54.other W57 ne50
  have pre57 : Go p.tables e below (s₁.setTop (entryFrame m #[(.int x0)] maxLocals)) T57 (mkF m 72 #[.val (.int x0), .val (.int w1), .val (.ref b3), .unset] [(.ref b49)]) := fun t k => pre56 t (st57 _ k)
  have pre61 : Go p.tables e below (s₁.setTop (entryFrame m #[(.int x0)] maxLocals)) T57 (mkF m 75 #[.val (.int x0), .val (.int w1), .val (.ref b3), .unset] [(.int (1 : Int32)), (.int (1 : Int32)), (.ref b49), (.ref b49)]) := fun t k => pre57 t (by
      refine XS.dup X57.here hx rfl (hb hby at_72) rfl rfl ?_
      show Steps p.tables e below (T57.setTop (mkF m 73 #[.val (.int x0), .val (.int w1), .val (.ref b3), .unset] [(.ref b49), (.ref b49)])) _
      refine XS.iconst X57.here hx rfl (hb hby at_73) ?_
      show Steps p.tables e below (T57.setTop (mkF m 74 #[.val (.int x0), .val (.int w1), .val (.ref b3), .unset] [(.int (1 : Int32)), (.ref b49), (.ref b49)])) _
      refine XS.iconst X57.here hx rfl (hb hby at_74) ?_
      exact k)
  obtain ⟨c62, Ar62, q62, S62, M62, H62, G62⟩ := fa57
  have hin62 : ¬ ((1 : Int32) < 0 ∨ c62.slots.size ≤ ((1 : Int32)).toNatClampNeg) := inb_of S62 ⟨by decide, by decide⟩
  obtain ⟨T62, h62, X62, e62, W62, st62⟩ := stZ X57 hx hZ e57 Ar62 (j := (1 : Int32)) hin62 (g := (mkF m 75 #[.val (.int x0), .val (.int w1), .val (.ref b3), .unset] [(.int (1 : Int32)), (.int (1 : Int32)), (.ref b49), (.ref b49)])) rfl rfl (hb hby at_75)
  have fa62 : Arv Z h62 b49 k49 .boolean (8 : Int32) [(.int (nar .boolean (1 : Int32))), (.int (nar .boolean (1 : Int32))), (.int (0 : Int32)), (.int (0 : Int32)), (.int (0 : Int32)), (.int (0 : Int32)), (.int (0 : Int32)), (.int (0 : Int32))] (.int (0 : Int32)) := Arv.set Ar62 q62 S62 M62 H62 G62 (fits_nar_bool _) W62 1 rfl (Nat.le_of_ble_eq_true rfl)
  have N62 := Fr.snoc X62 N57 g51
  have f63 : n0 ≤ h62.size := Nat.le_trans f58 (Keep.of_wr W62).1
  have f64 : Old Z n0 h62 := f59.wr W62 g51
  have f65 : Arv Z h62 b3 k3 (.object "com/example/plain_snapshot/plainsnapshot/sql/Type") (8 : Int32) [(.ref r_INT), (.ref r_TEXT), (.ref r_BOOLEAN), (.ref r_XID), (.ref r_CID), (.ref r_TID), (.ref r_SNAPSHOT), (.ref r_UNKNOWN)] .null := f60.other W62 ne50
  have pre62 : Go p.tables e below (s₁.setTop (entryFrame m #[(.int x0)] maxLocals)) T62 (mkF m 76 #[.val (.int x0), .val (.int w1), .val (.ref b3), .unset] [(.ref b49)]) := fun t k => pre61 t (st62 _ k)
  have pre66 : Go p.tables e below (s₁.setTop (entryFrame m #[(.int x0)] maxLocals)) T62 (mkF m 79 #[.val (.int x0), .val (.int w1), .val (.ref b3), .unset] [(.int (1 : Int32)), (.int (2 : Int32)), (.ref b49), (.ref b49)]) := fun t k => pre62 t (by
      refine XS.dup X62.here hx rfl (hb hby at_76) rfl rfl ?_
      show Steps p.tables e below (T62.setTop (mkF m 77 #[.val (.int x0), .val (.int w1), .val (.ref b3), .unset] [(.ref b49), (.ref b49)])) _
      refine XS.iconst X62.here hx rfl (hb hby at_77) ?_
      show Steps p.tables e below (T62.setTop (mkF m 78 #[.val (.int x0), .val (.int w1), .val (.ref b3), .unset] [(.int (2 : Int32)), (.ref b49), (.ref b49)])) _
      refine XS.iconst X62.here hx rfl (hb hby at_78) ?_
      exact k)
  obtain ⟨c67, Ar67, q67, S67, M67, H67, G67⟩ := fa62
  have hin67 : ¬ ((2 : Int32) < 0 ∨ c67.slots.size ≤ ((2 : Int32)).toNatClampNeg) := inb_of S67 ⟨by decide, by decide⟩
  obtain ⟨T67, h67, X67, e67, W67, st67⟩ := stZ X62 hx hZ e62 Ar67 (j := (2 : Int32)) hin67 (g := (mkF m 79 #[.val (.int x0), .val (.int w1), .val (.ref b3), .unset] [(.int (1 : Int32)), (.int (2 : Int32)), (.ref b49), (.ref b49)])) rfl rfl (hb hby at_79)
  have fa67 : Arv Z h67 b49 k49 .boolean (8 : Int32) [(.int (nar .boolean (1 : Int32))), (.int (nar .boolean (1 : Int32))), (.int (nar .boolean (1 : Int32))), (.int (0 : Int32)), (.int (0 : Int32)), (.int (0 : Int32)), (.int (0 : Int32)), (.int (0 : Int32))] (.int (0 : Int32)) := Arv.set Ar67 q67 S67 M67 H67 G67 (fits_nar_bool _) W67 2 rfl (Nat.le_of_ble_eq_true rfl)
  have N67 := Fr.snoc X67 N62 g51
  have f68 : n0 ≤ h67.size := Nat.le_trans f63 (Keep.of_wr W67).1
  have f69 : Old Z n0 h67 := f64.wr W67 g51
  have f70 : Arv Z h67 b3 k3 (.object "com/example/plain_snapshot/plainsnapshot/sql/Type") (8 : Int32) [(.ref r_INT), (.ref r_TEXT), (.ref r_BOOLEAN), (.ref r_XID), (.ref r_CID), (.ref r_TID), (.ref r_SNAPSHOT), (.ref r_UNKNOWN)] .null := f65.other W67 ne50
  have pre67 : Go p.tables e below (s₁.setTop (entryFrame m #[(.int x0)] maxLocals)) T67 (mkF m 80 #[.val (.int x0), .val (.int w1), .val (.ref b3), .unset] [(.ref b49)]) := fun t k => pre66 t (st67 _ k)
  have pre71 : Go p.tables e below (s₁.setTop (entryFrame m #[(.int x0)] maxLocals)) T67 (mkF m 83 #[.val (.int x0), .val (.int w1), .val (.ref b3), .unset] [(.int (0 : Int32)), (.int (3 : Int32)), (.ref b49), (.ref b49)]) := fun t k => pre67 t (by
      refine XS.dup X67.here hx rfl (hb hby at_80) rfl rfl ?_
      show Steps p.tables e below (T67.setTop (mkF m 81 #[.val (.int x0), .val (.int w1), .val (.ref b3), .unset] [(.ref b49), (.ref b49)])) _
      refine XS.iconst X67.here hx rfl (hb hby at_81) ?_
      show Steps p.tables e below (T67.setTop (mkF m 82 #[.val (.int x0), .val (.int w1), .val (.ref b3), .unset] [(.int (3 : Int32)), (.ref b49), (.ref b49)])) _
      refine XS.iconst X67.here hx rfl (hb hby at_82) ?_
      exact k)
  obtain ⟨c72, Ar72, q72, S72, M72, H72, G72⟩ := fa67
  have hin72 : ¬ ((3 : Int32) < 0 ∨ c72.slots.size ≤ ((3 : Int32)).toNatClampNeg) := inb_of S72 ⟨by decide, by decide⟩
  obtain ⟨T72, h72, X72, e72, W72, st72⟩ := stZ X67 hx hZ e67 Ar72 (j := (3 : Int32)) hin72 (g := (mkF m 83 #[.val (.int x0), .val (.int w1), .val (.ref b3), .unset] [(.int (0 : Int32)), (.int (3 : Int32)), (.ref b49), (.ref b49)])) rfl rfl (hb hby at_83)
  have fa72 : Arv Z h72 b49 k49 .boolean (8 : Int32) [(.int (nar .boolean (1 : Int32))), (.int (nar .boolean (1 : Int32))), (.int (nar .boolean (1 : Int32))), (.int (nar .boolean (0 : Int32))), (.int (0 : Int32)), (.int (0 : Int32)), (.int (0 : Int32)), (.int (0 : Int32))] (.int (0 : Int32)) := Arv.set Ar72 q72 S72 M72 H72 G72 (fits_nar_bool _) W72 3 rfl (Nat.le_of_ble_eq_true rfl)
  have N72 := Fr.snoc X72 N67 g51
  have f73 : n0 ≤ h72.size := Nat.le_trans f68 (Keep.of_wr W72).1
  have f74 : Old Z n0 h72 := f69.wr W72 g51
  have f75 : Arv Z h72 b3 k3 (.object "com/example/plain_snapshot/plainsnapshot/sql/Type") (8 : Int32) [(.ref r_INT), (.ref r_TEXT), (.ref r_BOOLEAN), (.ref r_XID), (.ref r_CID), (.ref r_TID), (.ref r_SNAPSHOT), (.ref r_UNKNOWN)] .null := f70.other W72 ne50
  have pre72 : Go p.tables e below (s₁.setTop (entryFrame m #[(.int x0)] maxLocals)) T72 (mkF m 84 #[.val (.int x0), .val (.int w1), .val (.ref b3), .unset] [(.ref b49)]) := fun t k => pre71 t (st72 _ k)
  have pre76 : Go p.tables e below (s₁.setTop (entryFrame m #[(.int x0)] maxLocals)) T72 (mkF m 87 #[.val (.int x0), .val (.int w1), .val (.ref b3), .unset] [(.int (0 : Int32)), (.int (4 : Int32)), (.ref b49), (.ref b49)]) := fun t k => pre72 t (by
      refine XS.dup X72.here hx rfl (hb hby at_84) rfl rfl ?_
      show Steps p.tables e below (T72.setTop (mkF m 85 #[.val (.int x0), .val (.int w1), .val (.ref b3), .unset] [(.ref b49), (.ref b49)])) _
      refine XS.iconst X72.here hx rfl (hb hby at_85) ?_
      show Steps p.tables e below (T72.setTop (mkF m 86 #[.val (.int x0), .val (.int w1), .val (.ref b3), .unset] [(.int (4 : Int32)), (.ref b49), (.ref b49)])) _
      refine XS.iconst X72.here hx rfl (hb hby at_86) ?_
      exact k)
  obtain ⟨c77, Ar77, q77, S77, M77, H77, G77⟩ := fa72
  have hin77 : ¬ ((4 : Int32) < 0 ∨ c77.slots.size ≤ ((4 : Int32)).toNatClampNeg) := inb_of S77 ⟨by decide, by decide⟩
  obtain ⟨T77, h77, X77, e77, W77, st77⟩ := stZ X72 hx hZ e72 Ar77 (j := (4 : Int32)) hin77 (g := (mkF m 87 #[.val (.int x0), .val (.int w1), .val (.ref b3), .unset] [(.int (0 : Int32)), (.int (4 : Int32)), (.ref b49), (.ref b49)])) rfl rfl (hb hby at_87)
  have fa77 : Arv Z h77 b49 k49 .boolean (8 : Int32) [(.int (nar .boolean (1 : Int32))), (.int (nar .boolean (1 : Int32))), (.int (nar .boolean (1 : Int32))), (.int (nar .boolean (0 : Int32))), (.int (nar .boolean (0 : Int32))), (.int (0 : Int32)), (.int (0 : Int32)), (.int (0 : Int32))] (.int (0 : Int32)) := Arv.set Ar77 q77 S77 M77 H77 G77 (fits_nar_bool _) W77 4 rfl (Nat.le_of_ble_eq_true rfl)
  have N77 := Fr.snoc X77 N72 g51
  have f78 : n0 ≤ h77.size := Nat.le_trans f73 (Keep.of_wr W77).1
  have f79 : Old Z n0 h77 := f74.wr W77 g51
  have f80 : Arv Z h77 b3 k3 (.object "com/example/plain_snapshot/plainsnapshot/sql/Type") (8 : Int32) [(.ref r_INT), (.ref r_TEXT), (.ref r_BOOLEAN), (.ref r_XID), (.ref r_CID), (.ref r_TID), (.ref r_SNAPSHOT), (.ref r_UNKNOWN)] .null := f75.other W77 ne50
  have pre77 : Go p.tables e below (s₁.setTop (entryFrame m #[(.int x0)] maxLocals)) T77 (mkF m 88 #[.val (.int x0), .val (.int w1), .val (.ref b3), .unset] [(.ref b49)]) := fun t k => pre76 t (st77 _ k)
  have pre81 : Go p.tables e below (s₁.setTop (entryFrame m #[(.int x0)] maxLocals)) T77 (mkF m 91 #[.val (.int x0), .val (.int w1), .val (.ref b3), .unset] [(.int (0 : Int32)), (.int (5 : Int32)), (.ref b49), (.ref b49)]) := fun t k => pre77 t (by
      refine XS.dup X77.here hx rfl (hb hby at_88) rfl rfl ?_
      show Steps p.tables e below (T77.setTop (mkF m 89 #[.val (.int x0), .val (.int w1), .val (.ref b3), .unset] [(.ref b49), (.ref b49)])) _
      refine XS.iconst X77.here hx rfl (hb hby at_89) ?_
      show Steps p.tables e below (T77.setTop (mkF m 90 #[.val (.int x0), .val (.int w1), .val (.ref b3), .unset] [(.int (5 : Int32)), (.ref b49), (.ref b49)])) _
      refine XS.iconst X77.here hx rfl (hb hby at_90) ?_
      exact k)
  obtain ⟨c82, Ar82, q82, S82, M82, H82, G82⟩ := fa77
  have hin82 : ¬ ((5 : Int32) < 0 ∨ c82.slots.size ≤ ((5 : Int32)).toNatClampNeg) := inb_of S82 ⟨by decide, by decide⟩
  obtain ⟨T82, h82, X82, e82, W82, st82⟩ := stZ X77 hx hZ e77 Ar82 (j := (5 : Int32)) hin82 (g := (mkF m 91 #[.val (.int x0), .val (.int w1), .val (.ref b3), .unset] [(.int (0 : Int32)), (.int (5 : Int32)), (.ref b49), (.ref b49)])) rfl rfl (hb hby at_91)
  have fa82 : Arv Z h82 b49 k49 .boolean (8 : Int32) [(.int (nar .boolean (1 : Int32))), (.int (nar .boolean (1 : Int32))), (.int (nar .boolean (1 : Int32))), (.int (nar .boolean (0 : Int32))), (.int (nar .boolean (0 : Int32))), (.int (nar .boolean (0 : Int32))), (.int (0 : Int32)), (.int (0 : Int32))] (.int (0 : Int32)) := Arv.set Ar82 q82 S82 M82 H82 G82 (fits_nar_bool _) W82 5 rfl (Nat.le_of_ble_eq_true rfl)
  have N82 := Fr.snoc X82 N77 g51
  have f83 : n0 ≤ h82.size := Nat.le_trans f78 (Keep.of_wr W82).1
  have f84 : Old Z n0 h82 := f79.wr W82 g51
  have f85 : Arv Z h82 b3 k3 (.object "com/example/plain_snapshot/plainsnapshot/sql/Type") (8 : Int32) [(.ref r_INT), (.ref r_TEXT), (.ref r_BOOLEAN), (.ref r_XID), (.ref r_CID), (.ref r_TID), (.ref r_SNAPSHOT), (.ref r_UNKNOWN)] .null := f80.other W82 ne50
  have pre82 : Go p.tables e below (s₁.setTop (entryFrame m #[(.int x0)] maxLocals)) T82 (mkF m 92 #[.val (.int x0), .val (.int w1), .val (.ref b3), .unset] [(.ref b49)]) := fun t k => pre81 t (st82 _ k)
  have pre86 : Go p.tables e below (s₁.setTop (entryFrame m #[(.int x0)] maxLocals)) T82 (mkF m 96 #[.val (.int x0), .val (.int w1), .val (.ref b3), .unset] [(.int (0 : Int32)), (.int (6 : Int32)), (.ref b49), (.ref b49)]) := fun t k => pre82 t (by
      refine XS.dup X82.here hx rfl (hb hby at_92) rfl rfl ?_
      show Steps p.tables e below (T82.setTop (mkF m 93 #[.val (.int x0), .val (.int w1), .val (.ref b3), .unset] [(.ref b49), (.ref b49)])) _
      refine XS.bipush X82.here hx rfl (hb hby at_93) ?_
      show Steps p.tables e below (T82.setTop (mkF m 95 #[.val (.int x0), .val (.int w1), .val (.ref b3), .unset] [(.int (6 : Int32)), (.ref b49), (.ref b49)])) _
      refine XS.iconst X82.here hx rfl (hb hby at_95) ?_
      exact k)
  obtain ⟨c87, Ar87, q87, S87, M87, H87, G87⟩ := fa82
  have hin87 : ¬ ((6 : Int32) < 0 ∨ c87.slots.size ≤ ((6 : Int32)).toNatClampNeg) := inb_of S87 ⟨by decide, by decide⟩
  obtain ⟨T87, h87, X87, e87, W87, st87⟩ := stZ X82 hx hZ e82 Ar87 (j := (6 : Int32)) hin87 (g := (mkF m 96 #[.val (.int x0), .val (.int w1), .val (.ref b3), .unset] [(.int (0 : Int32)), (.int (6 : Int32)), (.ref b49), (.ref b49)])) rfl rfl (hb hby at_96)
  have fa87 : Arv Z h87 b49 k49 .boolean (8 : Int32) [(.int (nar .boolean (1 : Int32))), (.int (nar .boolean (1 : Int32))), (.int (nar .boolean (1 : Int32))), (.int (nar .boolean (0 : Int32))), (.int (nar .boolean (0 : Int32))), (.int (nar .boolean (0 : Int32))), (.int (nar .boolean (0 : Int32))), (.int (0 : Int32))] (.int (0 : Int32)) := Arv.set Ar87 q87 S87 M87 H87 G87 (fits_nar_bool _) W87 6 rfl (Nat.le_of_ble_eq_true rfl)
  have N87 := Fr.snoc X87 N82 g51
  have f88 : n0 ≤ h87.size := Nat.le_trans f83 (Keep.of_wr W87).1
  have f89 : Old Z n0 h87 := f84.wr W87 g51
  have f90 : Arv Z h87 b3 k3 (.object "com/example/plain_snapshot/plainsnapshot/sql/Type") (8 : Int32) [(.ref r_INT), (.ref r_TEXT), (.ref r_BOOLEAN), (.ref r_XID), (.ref r_CID), (.ref r_TID), (.ref r_SNAPSHOT), (.ref r_UNKNOWN)] .null := f85.other W87 ne50
  have pre87 : Go p.tables e below (s₁.setTop (entryFrame m #[(.int x0)] maxLocals)) T87 (mkF m 97 #[.val (.int x0), .val (.int w1), .val (.ref b3), .unset] [(.ref b49)]) := fun t k => pre86 t (st87 _ k)
  have pre91 : Go p.tables e below (s₁.setTop (entryFrame m #[(.int x0)] maxLocals)) T87 (mkF m 101 #[.val (.int x0), .val (.int w1), .val (.ref b3), .unset] [(.int (0 : Int32)), (.int (7 : Int32)), (.ref b49), (.ref b49)]) := fun t k => pre87 t (by
      refine XS.dup X87.here hx rfl (hb hby at_97) rfl rfl ?_
      show Steps p.tables e below (T87.setTop (mkF m 98 #[.val (.int x0), .val (.int w1), .val (.ref b3), .unset] [(.ref b49), (.ref b49)])) _
      refine XS.bipush X87.here hx rfl (hb hby at_98) ?_
      show Steps p.tables e below (T87.setTop (mkF m 100 #[.val (.int x0), .val (.int w1), .val (.ref b3), .unset] [(.int (7 : Int32)), (.ref b49), (.ref b49)])) _
      refine XS.iconst X87.here hx rfl (hb hby at_100) ?_
      exact k)
  obtain ⟨c92, Ar92, q92, S92, M92, H92, G92⟩ := fa87
  have hin92 : ¬ ((7 : Int32) < 0 ∨ c92.slots.size ≤ ((7 : Int32)).toNatClampNeg) := inb_of S92 ⟨by decide, by decide⟩
  obtain ⟨T92, h92, X92, e92, W92, st92⟩ := stZ X87 hx hZ e87 Ar92 (j := (7 : Int32)) hin92 (g := (mkF m 101 #[.val (.int x0), .val (.int w1), .val (.ref b3), .unset] [(.int (0 : Int32)), (.int (7 : Int32)), (.ref b49), (.ref b49)])) rfl rfl (hb hby at_101)
  have fa92 : Arv Z h92 b49 k49 .boolean (8 : Int32) [(.int (nar .boolean (1 : Int32))), (.int (nar .boolean (1 : Int32))), (.int (nar .boolean (1 : Int32))), (.int (nar .boolean (0 : Int32))), (.int (nar .boolean (0 : Int32))), (.int (nar .boolean (0 : Int32))), (.int (nar .boolean (0 : Int32))), (.int (nar .boolean (0 : Int32)))] (.int (0 : Int32)) := Arv.set Ar92 q92 S92 M92 H92 G92 (fits_nar_bool _) W92 7 rfl (Nat.le_of_ble_eq_true rfl)
  have N92 := Fr.snoc X92 N87 g51
  have f93 : n0 ≤ h92.size := Nat.le_trans f88 (Keep.of_wr W92).1
  have f94 : Old Z n0 h92 := f89.wr W92 g51
  have f95 : Arv Z h92 b3 k3 (.object "com/example/plain_snapshot/plainsnapshot/sql/Type") (8 : Int32) [(.ref r_INT), (.ref r_TEXT), (.ref r_BOOLEAN), (.ref r_XID), (.ref r_CID), (.ref r_TID), (.ref r_SNAPSHOT), (.ref r_UNKNOWN)] .null := f90.other W92 ne50
  have pre92 : Go p.tables e below (s₁.setTop (entryFrame m #[(.int x0)] maxLocals)) T92 (mkF m 102 #[.val (.int x0), .val (.int w1), .val (.ref b3), .unset] [(.ref b49)]) := fun t k => pre91 t (st92 _ k)
  have pre96 : Go p.tables e below (s₁.setTop (entryFrame m #[(.int x0)] maxLocals)) T92 (mkF m 103 #[.val (.int x0), .val (.int w1), .val (.ref b3), .val (.ref b49)] []) := fun t k => pre92 t (by
      refine XS.astoreN X92.here hx rfl (hb hby at_102) rfl rfl (l' := #[.val (.int x0), .val (.int w1), .val (.ref b3), .val (.ref b49)]) rfl ?_
      exact k)
  have hq0 := own_mod8 x0
  rw [← hw1] at hq0
  clear hw1
  rcases (hq0) with rfl | rfl | rfl | rfl | rfl | rfl | rfl | rfl
  · -- w1 = (0 : Int32)
    have pre97 : Go p.tables e below (s₁.setTop (entryFrame m #[(.int x0)] maxLocals)) T92 (mkF m 105 #[.val (.int x0), .val (.int (0 : Int32)), .val (.ref b3), .val (.ref b49)] [(.int (0 : Int32)), (.ref b3)]) := fun t k => pre96 t (by
        refine XS.aloadN X92.here hx rfl (hb hby at_103) rfl rfl ?_
        show Steps p.tables e below (T92.setTop (mkF m 104 #[.val (.int x0), .val (.int (0 : Int32)), .val (.ref b3), .val (.ref b49)] [(.ref b3)])) _
        refine XS.iloadN X92.here hx rfl (hb hby at_104) rfl ?_
        exact k)
    obtain ⟨c98, Ar98, q98, S98, M98, H98, G98⟩ := f95
    have hin98 : ¬ ((0 : Int32) < 0 ∨ c98.slots.size ≤ ((0 : Int32)).toNatClampNeg) := inb_of S98 ⟨by decide, by decide⟩
    have pre98 : Go p.tables e below (s₁.setTop (entryFrame m #[(.int x0)] maxLocals)) T92 (mkF m 106 #[.val (.int x0), .val (.int (0 : Int32)), .val (.ref b3), .val (.ref b49)] [(.ref r_INT)]) := fun t k => pre97 t (X92.aaload hx (j := (0 : Int32)) (v := (.ref r_INT)) (by rw [e92]; exact Ar98.1) (State.isArrayOf_alike hZ.alike Ar98.2.1) rfl Ar98.2.2 hin98 (H98.at hin98 rfl) (g := (mkF m 105 #[.val (.int x0), .val (.int (0 : Int32)), .val (.ref b3), .val (.ref b49)] [(.int (0 : Int32)), (.ref b3)])) rfl rfl (hb hby at_105) _ k)
    obtain ⟨cq99, kq99, q99a, q99b, q99c⟩ := isOf hZ e92 (E_INT.ext f94.2)
    obtain ⟨_, _, ⟨T99, L99, k99, n99⟩, -, X99, ⟨Lc99, hQ99, l99, y99, z99⟩, st99⟩ := X92.virtualBack hx (y := (⟨"com/example/plain_snapshot/plainsnapshot/sql/Type", "isOrdered", "()Z"⟩ : MethodName)) (z := (⟨"com/example/plain_snapshot/plainsnapshot/sql/Type", "isOrdered", "()Z"⟩ : MethodName)) hown (mvT hZ (hw _ (List.mem_of_getElem? (i := 22) rfl))) (mvT hZ (hw _ (List.mem_of_getElem? (i := 23) rfl))) (notFace_of_selects (args := #[]) (mvT hZ (hw _ (List.mem_of_getElem? (i := 25) rfl)))) (mvT hZ (hw _ (List.mem_of_getElem? (i := 25) rfl))) (mvT hZ (hw _ (List.mem_of_getElem? (i := 24) rfl))) (by decide) (backOf (W := 0) (rm_ord l Z a0 hw [] r_INT r_INT r_TEXT r_BOOLEAN h92 n0 (S_INT.ext f94.2) (S_TEXT.ext f94.2) (S_BOOLEAN.ext f94.2)) hZ (hw _ (List.mem_of_getElem? (i := 26) rfl)) (hw _ (List.mem_of_getElem? (i := 4) rfl)) (by decide) (by decide)) q99a q99c (g := (mkF m 106 #[.val (.int x0), .val (.int (0 : Int32)), .val (.ref b3), .val (.ref b49)] [(.ref r_INT)])) rfl (by rw [hml]; rfl) (Steps.refl _) (argsL := []) (rest := []) (lenOf pd_0 rfl) rfl (by show 2 * 0 + _ ≤ _; exact Nat.le_of_eq rfl) (hb hby at_106) (fun _ _ => ⟨rfl, e92, (by decide : 2 + 0 ≤ _), (by decide : 16 + 0 ≤ _)⟩)
    dsimp only [Pt.U, Pt.locs, Pt.cells, Pt.slots] at X99 l99 y99 z99 st99 hQ99
    subst l99 y99 z99
    obtain ⟨rfl, N99q, e99⟩ := hQ99
    have N99 := Fr.app N92 N99q
    have pre99 : Go p.tables e below (s₁.setTop (entryFrame m #[(.int x0)] maxLocals)) T99 (mkF m 109 #[.val (.int x0), .val (.int (0 : Int32)), .val (.ref b3), .val (.ref b49)] [(.int (own_ord r_INT r_INT r_TEXT r_BOOLEAN))]) := fun t k => pre98 t (st99.trans k)
    have pre100 : Go p.tables e below (s₁.setTop (entryFrame m #[(.int x0)] maxLocals)) T99 (mkF m 111 #[.val (.int x0), .val (.int (0 : Int32)), .val (.ref b3), .val (.ref b49)] [(.int (0 : Int32)), (.ref b49), (.int (own_ord r_INT r_INT r_TEXT r_BOOLEAN))]) := fun t k => pre99 t (by
        refine XS.aloadN X99.here hx rfl (hb hby at_109) rfl rfl ?_
        show Steps p.tables e below (T99.setTop (mkF m 110 #[.val (.int x0), .val (.int (0 : Int32)), .val (.ref b3), .val (.ref b49)] [(.ref b49), (.int (own_ord r_INT r_INT r_TEXT r_BOOLEAN))])) _
        refine XS.iloadN X99.here hx rfl (hb hby at_110) rfl ?_
        exact k)
    obtain ⟨c101, Ar101, q101, S101, M101, H101, G101⟩ := fa92
    have hin101 : ¬ ((0 : Int32) < 0 ∨ c101.slots.size ≤ ((0 : Int32)).toNatClampNeg) := inb_of S101 ⟨by decide, by decide⟩
    have pre101 : Go p.tables e below (s₁.setTop (entryFrame m #[(.int x0)] maxLocals)) T99 (mkF m 112 #[.val (.int x0), .val (.int (0 : Int32)), .val (.ref b3), .val (.ref b49)] [(.int (nar .boolean (1 : Int32))), (.int (own_ord r_INT r_INT r_TEXT r_BOOLEAN))]) := fun t k => pre100 t (X99.baloadBooleans hx (j := (0 : Int32)) (v := (.int (nar .boolean (1 : Int32)))) (by rw [e99]; exact Ar101.1) (State.isArrayOf_alike hZ.alike Ar101.2.1) Ar101.2.2 hin101 (H101.at hin101 rfl) (g := (mkF m 111 #[.val (.int x0), .val (.int (0 : Int32)), .val (.ref b3), .val (.ref b49)] [(.int (0 : Int32)), (.ref b49), (.int (own_ord r_INT r_INT r_TEXT r_BOOLEAN))])) rfl rfl (hb hby at_111) _ k)
    by_cases hc102 : (own_ord r_INT r_INT r_TEXT r_BOOLEAN) = (nar .boolean (1 : Int32))
    · -- hc102: True
      have pre103 : Go p.tables e below (s₁.setTop (entryFrame m #[(.int x0)] maxLocals)) T99 (mkF m 120 #[.val (.int x0), .val (.int (0 : Int32)), .val (.ref b3), .val (.ref b49)] [(.int (1 : Int32))]) := fun t k => pre101 t (by
          refine XS.icmpNo X99.here hx rfl (hb hby at_112) rfl (teq hc102).2 ?_
          show Steps p.tables e below (T99.setTop (mkF m 115 #[.val (.int x0), .val (.int (0 : Int32)), .val (.ref b3), .val (.ref b49)] [])) _
          refine XS.iconst X99.here hx rfl (hb hby at_115) ?_
          show Steps p.tables e below (T99.setTop (mkF m 116 #[.val (.int x0), .val (.int (0 : Int32)), .val (.ref b3), .val (.ref b49)] [(.int (1 : Int32))])) _
          refine XS.goto X99.here hx rfl (pc0 := 116) (pc' := 120) rfl (hb hby at_116) (by decide) (by decide) ?_
          exact k)
      obtain ⟨fs, hr, hrun, hended, hW, hsame⟩ := X99.leave (v := some (.int (1 : Int32))) (fun h => by rw [Bd.returns] at h; cases h) (BodyLoose.notSynchronized Bd)
      refine ⟨_, _, pre103 _ ?_, hrun, hended, _, _, rfl, ?_, ⟨_, rfl⟩, hW, hsame.mono (Nat.le_of_ble_eq_true rfl) (Nat.le_of_ble_eq_true rfl)⟩
      · exact retN X99 hx (t := .boolean) Bd.returns (by simp) (hb hby at_120) hr
      · show Q_law Z x0 r_INT r_TEXT r_BOOLEAN r_XID r_CID r_TID r_SNAPSHOT r_UNKNOWN h0 n0 _ T99.heap _
        rw [e99]
        exact ⟨rfl, N99⟩
    · -- hc102: False
      have pre104 : Go p.tables e below (s₁.setTop (entryFrame m #[(.int x0)] maxLocals)) T99 (mkF m 120 #[.val (.int x0), .val (.int (0 : Int32)), .val (.ref b3), .val (.ref b49)] [(.int (0 : Int32))]) := fun t k => pre101 t (by
          refine XS.icmpYes X99.here hx rfl (pc0 := 112) (pc' := 119) rfl (hb hby at_112) rfl (feq hc102).2 (by decide) (by decide) ?_
          show Steps p.tables e below (T99.setTop (mkF m 119 #[.val (.int x0), .val (.int (0 : Int32)), .val (.ref b3), .val (.ref b49)] [])) _
          refine XS.iconst X99.here hx rfl (hb hby at_119) ?_
          exact k)
      obtain ⟨fs, hr, hrun, hended, hW, hsame⟩ := X99.leave (v := some (.int (0 : Int32))) (fun h => by rw [Bd.returns] at h; cases h) (BodyLoose.notSynchronized Bd)
      refine ⟨_, _, pre104 _ ?_, hrun, hended, _, _, rfl, ?_, ⟨_, rfl⟩, hW, hsame.mono (Nat.le_of_ble_eq_true rfl) (Nat.le_of_ble_eq_true rfl)⟩
      · exact retN X99 hx (t := .boolean) Bd.returns (by simp) (hb hby at_120) hr
      · show Q_law Z x0 r_INT r_TEXT r_BOOLEAN r_XID r_CID r_TID r_SNAPSHOT r_UNKNOWN h0 n0 _ T99.heap _
        rw [e99]
        exfalso
        apply hc102
        rw [own_ord, if_pos rfl]
        rfl
  · -- w1 = (1 : Int32)
    have pre105 : Go p.tables e below (s₁.setTop (entryFrame m #[(.int x0)] maxLocals)) T92 (mkF m 105 #[.val (.int x0), .val (.int (1 : Int32)), .val (.ref b3), .val (.ref b49)] [(.int (1 : Int32)), (.ref b3)]) := fun t k => pre96 t (by
        refine XS.aloadN X92.here hx rfl (hb hby at_103) rfl rfl ?_
        show Steps p.tables e below (T92.setTop (mkF m 104 #[.val (.int x0), .val (.int (1 : Int32)), .val (.ref b3), .val (.ref b49)] [(.ref b3)])) _
        refine XS.iloadN X92.here hx rfl (hb hby at_104) rfl ?_
        exact k)
    obtain ⟨c106, Ar106, q106, S106, M106, H106, G106⟩ := f95
    have hin106 : ¬ ((1 : Int32) < 0 ∨ c106.slots.size ≤ ((1 : Int32)).toNatClampNeg) := inb_of S106 ⟨by decide, by decide⟩
    have pre106 : Go p.tables e below (s₁.setTop (entryFrame m #[(.int x0)] maxLocals)) T92 (mkF m 106 #[.val (.int x0), .val (.int (1 : Int32)), .val (.ref b3), .val (.ref b49)] [(.ref r_TEXT)]) := fun t k => pre105 t (X92.aaload hx (j := (1 : Int32)) (v := (.ref r_TEXT)) (by rw [e92]; exact Ar106.1) (State.isArrayOf_alike hZ.alike Ar106.2.1) rfl Ar106.2.2 hin106 (H106.at hin106 rfl) (g := (mkF m 105 #[.val (.int x0), .val (.int (1 : Int32)), .val (.ref b3), .val (.ref b49)] [(.int (1 : Int32)), (.ref b3)])) rfl rfl (hb hby at_105) _ k)
    obtain ⟨cq107, kq107, q107a, q107b, q107c⟩ := isOf hZ e92 (E_TEXT.ext f94.2)
    obtain ⟨_, _, ⟨T107, L107, k107, n107⟩, -, X107, ⟨Lc107, hQ107, l107, y107, z107⟩, st107⟩ := X92.virtualBack hx (y := (⟨"com/example/plain_snapshot/plainsnapshot/sql/Type", "isOrdered", "()Z"⟩ : MethodName)) (z := (⟨"com/example/plain_snapshot/plainsnapshot/sql/Type", "isOrdered", "()Z"⟩ : MethodName)) hown (mvT hZ (hw _ (List.mem_of_getElem? (i := 22) rfl))) (mvT hZ (hw _ (List.mem_of_getElem? (i := 23) rfl))) (notFace_of_selects (args := #[]) (mvT hZ (hw _ (List.mem_of_getElem? (i := 25) rfl)))) (mvT hZ (hw _ (List.mem_of_getElem? (i := 25) rfl))) (mvT hZ (hw _ (List.mem_of_getElem? (i := 24) rfl))) (by decide) (backOf (W := 0) (rm_ord l Z a0 hw [] r_TEXT r_INT r_TEXT r_BOOLEAN h92 n0 (S_INT.ext f94.2) (S_TEXT.ext f94.2) (S_BOOLEAN.ext f94.2)) hZ (hw _ (List.mem_of_getElem? (i := 26) rfl)) (hw _ (List.mem_of_getElem? (i := 4) rfl)) (by decide) (by decide)) q107a q107c (g := (mkF m 106 #[.val (.int x0), .val (.int (1 : Int32)), .val (.ref b3), .val (.ref b49)] [(.ref r_TEXT)])) rfl (by rw [hml]; rfl) (Steps.refl _) (argsL := []) (rest := []) (lenOf pd_0 rfl) rfl (by show 2 * 0 + _ ≤ _; exact Nat.le_of_eq rfl) (hb hby at_106) (fun _ _ => ⟨rfl, e92, (by decide : 2 + 0 ≤ _), (by decide : 16 + 0 ≤ _)⟩)
    dsimp only [Pt.U, Pt.locs, Pt.cells, Pt.slots] at X107 l107 y107 z107 st107 hQ107
    subst l107 y107 z107
    obtain ⟨rfl, N107q, e107⟩ := hQ107
    have N107 := Fr.app N92 N107q
    have pre107 : Go p.tables e below (s₁.setTop (entryFrame m #[(.int x0)] maxLocals)) T107 (mkF m 109 #[.val (.int x0), .val (.int (1 : Int32)), .val (.ref b3), .val (.ref b49)] [(.int (own_ord r_TEXT r_INT r_TEXT r_BOOLEAN))]) := fun t k => pre106 t (st107.trans k)
    have pre108 : Go p.tables e below (s₁.setTop (entryFrame m #[(.int x0)] maxLocals)) T107 (mkF m 111 #[.val (.int x0), .val (.int (1 : Int32)), .val (.ref b3), .val (.ref b49)] [(.int (1 : Int32)), (.ref b49), (.int (own_ord r_TEXT r_INT r_TEXT r_BOOLEAN))]) := fun t k => pre107 t (by
        refine XS.aloadN X107.here hx rfl (hb hby at_109) rfl rfl ?_
        show Steps p.tables e below (T107.setTop (mkF m 110 #[.val (.int x0), .val (.int (1 : Int32)), .val (.ref b3), .val (.ref b49)] [(.ref b49), (.int (own_ord r_TEXT r_INT r_TEXT r_BOOLEAN))])) _
        refine XS.iloadN X107.here hx rfl (hb hby at_110) rfl ?_
        exact k)
    obtain ⟨c109, Ar109, q109, S109, M109, H109, G109⟩ := fa92
    have hin109 : ¬ ((1 : Int32) < 0 ∨ c109.slots.size ≤ ((1 : Int32)).toNatClampNeg) := inb_of S109 ⟨by decide, by decide⟩
    have pre109 : Go p.tables e below (s₁.setTop (entryFrame m #[(.int x0)] maxLocals)) T107 (mkF m 112 #[.val (.int x0), .val (.int (1 : Int32)), .val (.ref b3), .val (.ref b49)] [(.int (nar .boolean (1 : Int32))), (.int (own_ord r_TEXT r_INT r_TEXT r_BOOLEAN))]) := fun t k => pre108 t (X107.baloadBooleans hx (j := (1 : Int32)) (v := (.int (nar .boolean (1 : Int32)))) (by rw [e107]; exact Ar109.1) (State.isArrayOf_alike hZ.alike Ar109.2.1) Ar109.2.2 hin109 (H109.at hin109 rfl) (g := (mkF m 111 #[.val (.int x0), .val (.int (1 : Int32)), .val (.ref b3), .val (.ref b49)] [(.int (1 : Int32)), (.ref b49), (.int (own_ord r_TEXT r_INT r_TEXT r_BOOLEAN))])) rfl rfl (hb hby at_111) _ k)
    by_cases hc110 : (own_ord r_TEXT r_INT r_TEXT r_BOOLEAN) = (nar .boolean (1 : Int32))
    · -- hc110: True
      have pre111 : Go p.tables e below (s₁.setTop (entryFrame m #[(.int x0)] maxLocals)) T107 (mkF m 120 #[.val (.int x0), .val (.int (1 : Int32)), .val (.ref b3), .val (.ref b49)] [(.int (1 : Int32))]) := fun t k => pre109 t (by
          refine XS.icmpNo X107.here hx rfl (hb hby at_112) rfl (teq hc110).2 ?_
          show Steps p.tables e below (T107.setTop (mkF m 115 #[.val (.int x0), .val (.int (1 : Int32)), .val (.ref b3), .val (.ref b49)] [])) _
          refine XS.iconst X107.here hx rfl (hb hby at_115) ?_
          show Steps p.tables e below (T107.setTop (mkF m 116 #[.val (.int x0), .val (.int (1 : Int32)), .val (.ref b3), .val (.ref b49)] [(.int (1 : Int32))])) _
          refine XS.goto X107.here hx rfl (pc0 := 116) (pc' := 120) rfl (hb hby at_116) (by decide) (by decide) ?_
          exact k)
      obtain ⟨fs, hr, hrun, hended, hW, hsame⟩ := X107.leave (v := some (.int (1 : Int32))) (fun h => by rw [Bd.returns] at h; cases h) (BodyLoose.notSynchronized Bd)
      refine ⟨_, _, pre111 _ ?_, hrun, hended, _, _, rfl, ?_, ⟨_, rfl⟩, hW, hsame.mono (Nat.le_of_ble_eq_true rfl) (Nat.le_of_ble_eq_true rfl)⟩
      · exact retN X107 hx (t := .boolean) Bd.returns (by simp) (hb hby at_120) hr
      · show Q_law Z x0 r_INT r_TEXT r_BOOLEAN r_XID r_CID r_TID r_SNAPSHOT r_UNKNOWN h0 n0 _ T107.heap _
        rw [e107]
        exact ⟨rfl, N107⟩
    · -- hc110: False
      have pre112 : Go p.tables e below (s₁.setTop (entryFrame m #[(.int x0)] maxLocals)) T107 (mkF m 120 #[.val (.int x0), .val (.int (1 : Int32)), .val (.ref b3), .val (.ref b49)] [(.int (0 : Int32))]) := fun t k => pre109 t (by
          refine XS.icmpYes X107.here hx rfl (pc0 := 112) (pc' := 119) rfl (hb hby at_112) rfl (feq hc110).2 (by decide) (by decide) ?_
          show Steps p.tables e below (T107.setTop (mkF m 119 #[.val (.int x0), .val (.int (1 : Int32)), .val (.ref b3), .val (.ref b49)] [])) _
          refine XS.iconst X107.here hx rfl (hb hby at_119) ?_
          exact k)
      obtain ⟨fs, hr, hrun, hended, hW, hsame⟩ := X107.leave (v := some (.int (0 : Int32))) (fun h => by rw [Bd.returns] at h; cases h) (BodyLoose.notSynchronized Bd)
      refine ⟨_, _, pre112 _ ?_, hrun, hended, _, _, rfl, ?_, ⟨_, rfl⟩, hW, hsame.mono (Nat.le_of_ble_eq_true rfl) (Nat.le_of_ble_eq_true rfl)⟩
      · exact retN X107 hx (t := .boolean) Bd.returns (by simp) (hb hby at_120) hr
      · show Q_law Z x0 r_INT r_TEXT r_BOOLEAN r_XID r_CID r_TID r_SNAPSHOT r_UNKNOWN h0 n0 _ T107.heap _
        rw [e107]
        exfalso
        apply hc110
        rw [own_ord, if_neg (Fld.ne F_TEXT F_INT (fun q => absurd (Value.int.inj q) (by decide))), if_pos rfl]
        rfl
  · -- w1 = (2 : Int32)
    have pre113 : Go p.tables e below (s₁.setTop (entryFrame m #[(.int x0)] maxLocals)) T92 (mkF m 105 #[.val (.int x0), .val (.int (2 : Int32)), .val (.ref b3), .val (.ref b49)] [(.int (2 : Int32)), (.ref b3)]) := fun t k => pre96 t (by
        refine XS.aloadN X92.here hx rfl (hb hby at_103) rfl rfl ?_
        show Steps p.tables e below (T92.setTop (mkF m 104 #[.val (.int x0), .val (.int (2 : Int32)), .val (.ref b3), .val (.ref b49)] [(.ref b3)])) _
        refine XS.iloadN X92.here hx rfl (hb hby at_104) rfl ?_
        exact k)
    obtain ⟨c114, Ar114, q114, S114, M114, H114, G114⟩ := f95
    have hin114 : ¬ ((2 : Int32) < 0 ∨ c114.slots.size ≤ ((2 : Int32)).toNatClampNeg) := inb_of S114 ⟨by decide, by decide⟩
    have pre114 : Go p.tables e below (s₁.setTop (entryFrame m #[(.int x0)] maxLocals)) T92 (mkF m 106 #[.val (.int x0), .val (.int (2 : Int32)), .val (.ref b3), .val (.ref b49)] [(.ref r_BOOLEAN)]) := fun t k => pre113 t (X92.aaload hx (j := (2 : Int32)) (v := (.ref r_BOOLEAN)) (by rw [e92]; exact Ar114.1) (State.isArrayOf_alike hZ.alike Ar114.2.1) rfl Ar114.2.2 hin114 (H114.at hin114 rfl) (g := (mkF m 105 #[.val (.int x0), .val (.int (2 : Int32)), .val (.ref b3), .val (.ref b49)] [(.int (2 : Int32)), (.ref b3)])) rfl rfl (hb hby at_105) _ k)
    obtain ⟨cq115, kq115, q115a, q115b, q115c⟩ := isOf hZ e92 (E_BOOLEAN.ext f94.2)
    obtain ⟨_, _, ⟨T115, L115, k115, n115⟩, -, X115, ⟨Lc115, hQ115, l115, y115, z115⟩, st115⟩ := X92.virtualBack hx (y := (⟨"com/example/plain_snapshot/plainsnapshot/sql/Type", "isOrdered", "()Z"⟩ : MethodName)) (z := (⟨"com/example/plain_snapshot/plainsnapshot/sql/Type", "isOrdered", "()Z"⟩ : MethodName)) hown (mvT hZ (hw _ (List.mem_of_getElem? (i := 22) rfl))) (mvT hZ (hw _ (List.mem_of_getElem? (i := 23) rfl))) (notFace_of_selects (args := #[]) (mvT hZ (hw _ (List.mem_of_getElem? (i := 25) rfl)))) (mvT hZ (hw _ (List.mem_of_getElem? (i := 25) rfl))) (mvT hZ (hw _ (List.mem_of_getElem? (i := 24) rfl))) (by decide) (backOf (W := 0) (rm_ord l Z a0 hw [] r_BOOLEAN r_INT r_TEXT r_BOOLEAN h92 n0 (S_INT.ext f94.2) (S_TEXT.ext f94.2) (S_BOOLEAN.ext f94.2)) hZ (hw _ (List.mem_of_getElem? (i := 26) rfl)) (hw _ (List.mem_of_getElem? (i := 4) rfl)) (by decide) (by decide)) q115a q115c (g := (mkF m 106 #[.val (.int x0), .val (.int (2 : Int32)), .val (.ref b3), .val (.ref b49)] [(.ref r_BOOLEAN)])) rfl (by rw [hml]; rfl) (Steps.refl _) (argsL := []) (rest := []) (lenOf pd_0 rfl) rfl (by show 2 * 0 + _ ≤ _; exact Nat.le_of_eq rfl) (hb hby at_106) (fun _ _ => ⟨rfl, e92, (by decide : 2 + 0 ≤ _), (by decide : 16 + 0 ≤ _)⟩)
    dsimp only [Pt.U, Pt.locs, Pt.cells, Pt.slots] at X115 l115 y115 z115 st115 hQ115
    subst l115 y115 z115
    obtain ⟨rfl, N115q, e115⟩ := hQ115
    have N115 := Fr.app N92 N115q
    have pre115 : Go p.tables e below (s₁.setTop (entryFrame m #[(.int x0)] maxLocals)) T115 (mkF m 109 #[.val (.int x0), .val (.int (2 : Int32)), .val (.ref b3), .val (.ref b49)] [(.int (own_ord r_BOOLEAN r_INT r_TEXT r_BOOLEAN))]) := fun t k => pre114 t (st115.trans k)
    have pre116 : Go p.tables e below (s₁.setTop (entryFrame m #[(.int x0)] maxLocals)) T115 (mkF m 111 #[.val (.int x0), .val (.int (2 : Int32)), .val (.ref b3), .val (.ref b49)] [(.int (2 : Int32)), (.ref b49), (.int (own_ord r_BOOLEAN r_INT r_TEXT r_BOOLEAN))]) := fun t k => pre115 t (by
        refine XS.aloadN X115.here hx rfl (hb hby at_109) rfl rfl ?_
        show Steps p.tables e below (T115.setTop (mkF m 110 #[.val (.int x0), .val (.int (2 : Int32)), .val (.ref b3), .val (.ref b49)] [(.ref b49), (.int (own_ord r_BOOLEAN r_INT r_TEXT r_BOOLEAN))])) _
        refine XS.iloadN X115.here hx rfl (hb hby at_110) rfl ?_
        exact k)
    obtain ⟨c117, Ar117, q117, S117, M117, H117, G117⟩ := fa92
    have hin117 : ¬ ((2 : Int32) < 0 ∨ c117.slots.size ≤ ((2 : Int32)).toNatClampNeg) := inb_of S117 ⟨by decide, by decide⟩
    have pre117 : Go p.tables e below (s₁.setTop (entryFrame m #[(.int x0)] maxLocals)) T115 (mkF m 112 #[.val (.int x0), .val (.int (2 : Int32)), .val (.ref b3), .val (.ref b49)] [(.int (nar .boolean (1 : Int32))), (.int (own_ord r_BOOLEAN r_INT r_TEXT r_BOOLEAN))]) := fun t k => pre116 t (X115.baloadBooleans hx (j := (2 : Int32)) (v := (.int (nar .boolean (1 : Int32)))) (by rw [e115]; exact Ar117.1) (State.isArrayOf_alike hZ.alike Ar117.2.1) Ar117.2.2 hin117 (H117.at hin117 rfl) (g := (mkF m 111 #[.val (.int x0), .val (.int (2 : Int32)), .val (.ref b3), .val (.ref b49)] [(.int (2 : Int32)), (.ref b49), (.int (own_ord r_BOOLEAN r_INT r_TEXT r_BOOLEAN))])) rfl rfl (hb hby at_111) _ k)
    by_cases hc118 : (own_ord r_BOOLEAN r_INT r_TEXT r_BOOLEAN) = (nar .boolean (1 : Int32))
    · -- hc118: True
      have pre119 : Go p.tables e below (s₁.setTop (entryFrame m #[(.int x0)] maxLocals)) T115 (mkF m 120 #[.val (.int x0), .val (.int (2 : Int32)), .val (.ref b3), .val (.ref b49)] [(.int (1 : Int32))]) := fun t k => pre117 t (by
          refine XS.icmpNo X115.here hx rfl (hb hby at_112) rfl (teq hc118).2 ?_
          show Steps p.tables e below (T115.setTop (mkF m 115 #[.val (.int x0), .val (.int (2 : Int32)), .val (.ref b3), .val (.ref b49)] [])) _
          refine XS.iconst X115.here hx rfl (hb hby at_115) ?_
          show Steps p.tables e below (T115.setTop (mkF m 116 #[.val (.int x0), .val (.int (2 : Int32)), .val (.ref b3), .val (.ref b49)] [(.int (1 : Int32))])) _
          refine XS.goto X115.here hx rfl (pc0 := 116) (pc' := 120) rfl (hb hby at_116) (by decide) (by decide) ?_
          exact k)
      obtain ⟨fs, hr, hrun, hended, hW, hsame⟩ := X115.leave (v := some (.int (1 : Int32))) (fun h => by rw [Bd.returns] at h; cases h) (BodyLoose.notSynchronized Bd)
      refine ⟨_, _, pre119 _ ?_, hrun, hended, _, _, rfl, ?_, ⟨_, rfl⟩, hW, hsame.mono (Nat.le_of_ble_eq_true rfl) (Nat.le_of_ble_eq_true rfl)⟩
      · exact retN X115 hx (t := .boolean) Bd.returns (by simp) (hb hby at_120) hr
      · show Q_law Z x0 r_INT r_TEXT r_BOOLEAN r_XID r_CID r_TID r_SNAPSHOT r_UNKNOWN h0 n0 _ T115.heap _
        rw [e115]
        exact ⟨rfl, N115⟩
    · -- hc118: False
      have pre120 : Go p.tables e below (s₁.setTop (entryFrame m #[(.int x0)] maxLocals)) T115 (mkF m 120 #[.val (.int x0), .val (.int (2 : Int32)), .val (.ref b3), .val (.ref b49)] [(.int (0 : Int32))]) := fun t k => pre117 t (by
          refine XS.icmpYes X115.here hx rfl (pc0 := 112) (pc' := 119) rfl (hb hby at_112) rfl (feq hc118).2 (by decide) (by decide) ?_
          show Steps p.tables e below (T115.setTop (mkF m 119 #[.val (.int x0), .val (.int (2 : Int32)), .val (.ref b3), .val (.ref b49)] [])) _
          refine XS.iconst X115.here hx rfl (hb hby at_119) ?_
          exact k)
      obtain ⟨fs, hr, hrun, hended, hW, hsame⟩ := X115.leave (v := some (.int (0 : Int32))) (fun h => by rw [Bd.returns] at h; cases h) (BodyLoose.notSynchronized Bd)
      refine ⟨_, _, pre120 _ ?_, hrun, hended, _, _, rfl, ?_, ⟨_, rfl⟩, hW, hsame.mono (Nat.le_of_ble_eq_true rfl) (Nat.le_of_ble_eq_true rfl)⟩
      · exact retN X115 hx (t := .boolean) Bd.returns (by simp) (hb hby at_120) hr
      · show Q_law Z x0 r_INT r_TEXT r_BOOLEAN r_XID r_CID r_TID r_SNAPSHOT r_UNKNOWN h0 n0 _ T115.heap _
        rw [e115]
        exfalso
        apply hc118
        rw [own_ord, if_neg (Fld.ne F_BOOLEAN F_INT (fun q => absurd (Value.int.inj q) (by decide))), if_neg (Fld.ne F_BOOLEAN F_TEXT (fun q => absurd (Value.int.inj q) (by decide))), if_pos rfl]
        rfl
  · -- w1 = (3 : Int32)
    have pre121 : Go p.tables e below (s₁.setTop (entryFrame m #[(.int x0)] maxLocals)) T92 (mkF m 105 #[.val (.int x0), .val (.int (3 : Int32)), .val (.ref b3), .val (.ref b49)] [(.int (3 : Int32)), (.ref b3)]) := fun t k => pre96 t (by
        refine XS.aloadN X92.here hx rfl (hb hby at_103) rfl rfl ?_
        show Steps p.tables e below (T92.setTop (mkF m 104 #[.val (.int x0), .val (.int (3 : Int32)), .val (.ref b3), .val (.ref b49)] [(.ref b3)])) _
        refine XS.iloadN X92.here hx rfl (hb hby at_104) rfl ?_
        exact k)
    obtain ⟨c122, Ar122, q122, S122, M122, H122, G122⟩ := f95
    have hin122 : ¬ ((3 : Int32) < 0 ∨ c122.slots.size ≤ ((3 : Int32)).toNatClampNeg) := inb_of S122 ⟨by decide, by decide⟩
    have pre122 : Go p.tables e below (s₁.setTop (entryFrame m #[(.int x0)] maxLocals)) T92 (mkF m 106 #[.val (.int x0), .val (.int (3 : Int32)), .val (.ref b3), .val (.ref b49)] [(.ref r_XID)]) := fun t k => pre121 t (X92.aaload hx (j := (3 : Int32)) (v := (.ref r_XID)) (by rw [e92]; exact Ar122.1) (State.isArrayOf_alike hZ.alike Ar122.2.1) rfl Ar122.2.2 hin122 (H122.at hin122 rfl) (g := (mkF m 105 #[.val (.int x0), .val (.int (3 : Int32)), .val (.ref b3), .val (.ref b49)] [(.int (3 : Int32)), (.ref b3)])) rfl rfl (hb hby at_105) _ k)
    obtain ⟨cq123, kq123, q123a, q123b, q123c⟩ := isOf hZ e92 (E_XID.ext f94.2)
    obtain ⟨_, _, ⟨T123, L123, k123, n123⟩, -, X123, ⟨Lc123, hQ123, l123, y123, z123⟩, st123⟩ := X92.virtualBack hx (y := (⟨"com/example/plain_snapshot/plainsnapshot/sql/Type", "isOrdered", "()Z"⟩ : MethodName)) (z := (⟨"com/example/plain_snapshot/plainsnapshot/sql/Type", "isOrdered", "()Z"⟩ : MethodName)) hown (mvT hZ (hw _ (List.mem_of_getElem? (i := 22) rfl))) (mvT hZ (hw _ (List.mem_of_getElem? (i := 23) rfl))) (notFace_of_selects (args := #[]) (mvT hZ (hw _ (List.mem_of_getElem? (i := 25) rfl)))) (mvT hZ (hw _ (List.mem_of_getElem? (i := 25) rfl))) (mvT hZ (hw _ (List.mem_of_getElem? (i := 24) rfl))) (by decide) (backOf (W := 0) (rm_ord l Z a0 hw [] r_XID r_INT r_TEXT r_BOOLEAN h92 n0 (S_INT.ext f94.2) (S_TEXT.ext f94.2) (S_BOOLEAN.ext f94.2)) hZ (hw _ (List.mem_of_getElem? (i := 26) rfl)) (hw _ (List.mem_of_getElem? (i := 4) rfl)) (by decide) (by decide)) q123a q123c (g := (mkF m 106 #[.val (.int x0), .val (.int (3 : Int32)), .val (.ref b3), .val (.ref b49)] [(.ref r_XID)])) rfl (by rw [hml]; rfl) (Steps.refl _) (argsL := []) (rest := []) (lenOf pd_0 rfl) rfl (by show 2 * 0 + _ ≤ _; exact Nat.le_of_eq rfl) (hb hby at_106) (fun _ _ => ⟨rfl, e92, (by decide : 2 + 0 ≤ _), (by decide : 16 + 0 ≤ _)⟩)
    dsimp only [Pt.U, Pt.locs, Pt.cells, Pt.slots] at X123 l123 y123 z123 st123 hQ123
    subst l123 y123 z123
    obtain ⟨rfl, N123q, e123⟩ := hQ123
    have N123 := Fr.app N92 N123q
    have pre123 : Go p.tables e below (s₁.setTop (entryFrame m #[(.int x0)] maxLocals)) T123 (mkF m 109 #[.val (.int x0), .val (.int (3 : Int32)), .val (.ref b3), .val (.ref b49)] [(.int (own_ord r_XID r_INT r_TEXT r_BOOLEAN))]) := fun t k => pre122 t (st123.trans k)
    have pre124 : Go p.tables e below (s₁.setTop (entryFrame m #[(.int x0)] maxLocals)) T123 (mkF m 111 #[.val (.int x0), .val (.int (3 : Int32)), .val (.ref b3), .val (.ref b49)] [(.int (3 : Int32)), (.ref b49), (.int (own_ord r_XID r_INT r_TEXT r_BOOLEAN))]) := fun t k => pre123 t (by
        refine XS.aloadN X123.here hx rfl (hb hby at_109) rfl rfl ?_
        show Steps p.tables e below (T123.setTop (mkF m 110 #[.val (.int x0), .val (.int (3 : Int32)), .val (.ref b3), .val (.ref b49)] [(.ref b49), (.int (own_ord r_XID r_INT r_TEXT r_BOOLEAN))])) _
        refine XS.iloadN X123.here hx rfl (hb hby at_110) rfl ?_
        exact k)
    obtain ⟨c125, Ar125, q125, S125, M125, H125, G125⟩ := fa92
    have hin125 : ¬ ((3 : Int32) < 0 ∨ c125.slots.size ≤ ((3 : Int32)).toNatClampNeg) := inb_of S125 ⟨by decide, by decide⟩
    have pre125 : Go p.tables e below (s₁.setTop (entryFrame m #[(.int x0)] maxLocals)) T123 (mkF m 112 #[.val (.int x0), .val (.int (3 : Int32)), .val (.ref b3), .val (.ref b49)] [(.int (nar .boolean (0 : Int32))), (.int (own_ord r_XID r_INT r_TEXT r_BOOLEAN))]) := fun t k => pre124 t (X123.baloadBooleans hx (j := (3 : Int32)) (v := (.int (nar .boolean (0 : Int32)))) (by rw [e123]; exact Ar125.1) (State.isArrayOf_alike hZ.alike Ar125.2.1) Ar125.2.2 hin125 (H125.at hin125 rfl) (g := (mkF m 111 #[.val (.int x0), .val (.int (3 : Int32)), .val (.ref b3), .val (.ref b49)] [(.int (3 : Int32)), (.ref b49), (.int (own_ord r_XID r_INT r_TEXT r_BOOLEAN))])) rfl rfl (hb hby at_111) _ k)
    by_cases hc126 : (own_ord r_XID r_INT r_TEXT r_BOOLEAN) = (nar .boolean (0 : Int32))
    · -- hc126: True
      have pre127 : Go p.tables e below (s₁.setTop (entryFrame m #[(.int x0)] maxLocals)) T123 (mkF m 120 #[.val (.int x0), .val (.int (3 : Int32)), .val (.ref b3), .val (.ref b49)] [(.int (1 : Int32))]) := fun t k => pre125 t (by
          refine XS.icmpNo X123.here hx rfl (hb hby at_112) rfl (teq hc126).2 ?_
          show Steps p.tables e below (T123.setTop (mkF m 115 #[.val (.int x0), .val (.int (3 : Int32)), .val (.ref b3), .val (.ref b49)] [])) _
          refine XS.iconst X123.here hx rfl (hb hby at_115) ?_
          show Steps p.tables e below (T123.setTop (mkF m 116 #[.val (.int x0), .val (.int (3 : Int32)), .val (.ref b3), .val (.ref b49)] [(.int (1 : Int32))])) _
          refine XS.goto X123.here hx rfl (pc0 := 116) (pc' := 120) rfl (hb hby at_116) (by decide) (by decide) ?_
          exact k)
      obtain ⟨fs, hr, hrun, hended, hW, hsame⟩ := X123.leave (v := some (.int (1 : Int32))) (fun h => by rw [Bd.returns] at h; cases h) (BodyLoose.notSynchronized Bd)
      refine ⟨_, _, pre127 _ ?_, hrun, hended, _, _, rfl, ?_, ⟨_, rfl⟩, hW, hsame.mono (Nat.le_of_ble_eq_true rfl) (Nat.le_of_ble_eq_true rfl)⟩
      · exact retN X123 hx (t := .boolean) Bd.returns (by simp) (hb hby at_120) hr
      · show Q_law Z x0 r_INT r_TEXT r_BOOLEAN r_XID r_CID r_TID r_SNAPSHOT r_UNKNOWN h0 n0 _ T123.heap _
        rw [e123]
        exact ⟨rfl, N123⟩
    · -- hc126: False
      have pre128 : Go p.tables e below (s₁.setTop (entryFrame m #[(.int x0)] maxLocals)) T123 (mkF m 120 #[.val (.int x0), .val (.int (3 : Int32)), .val (.ref b3), .val (.ref b49)] [(.int (0 : Int32))]) := fun t k => pre125 t (by
          refine XS.icmpYes X123.here hx rfl (pc0 := 112) (pc' := 119) rfl (hb hby at_112) rfl (feq hc126).2 (by decide) (by decide) ?_
          show Steps p.tables e below (T123.setTop (mkF m 119 #[.val (.int x0), .val (.int (3 : Int32)), .val (.ref b3), .val (.ref b49)] [])) _
          refine XS.iconst X123.here hx rfl (hb hby at_119) ?_
          exact k)
      obtain ⟨fs, hr, hrun, hended, hW, hsame⟩ := X123.leave (v := some (.int (0 : Int32))) (fun h => by rw [Bd.returns] at h; cases h) (BodyLoose.notSynchronized Bd)
      refine ⟨_, _, pre128 _ ?_, hrun, hended, _, _, rfl, ?_, ⟨_, rfl⟩, hW, hsame.mono (Nat.le_of_ble_eq_true rfl) (Nat.le_of_ble_eq_true rfl)⟩
      · exact retN X123 hx (t := .boolean) Bd.returns (by simp) (hb hby at_120) hr
      · show Q_law Z x0 r_INT r_TEXT r_BOOLEAN r_XID r_CID r_TID r_SNAPSHOT r_UNKNOWN h0 n0 _ T123.heap _
        rw [e123]
        exfalso
        apply hc126
        rw [own_ord, if_neg (Fld.ne F_XID F_INT (fun q => absurd (Value.int.inj q) (by decide))), if_neg (Fld.ne F_XID F_TEXT (fun q => absurd (Value.int.inj q) (by decide))), if_neg (Fld.ne F_XID F_BOOLEAN (fun q => absurd (Value.int.inj q) (by decide)))]
        rfl
  · -- w1 = (4 : Int32)
    have pre129 : Go p.tables e below (s₁.setTop (entryFrame m #[(.int x0)] maxLocals)) T92 (mkF m 105 #[.val (.int x0), .val (.int (4 : Int32)), .val (.ref b3), .val (.ref b49)] [(.int (4 : Int32)), (.ref b3)]) := fun t k => pre96 t (by
        refine XS.aloadN X92.here hx rfl (hb hby at_103) rfl rfl ?_
        show Steps p.tables e below (T92.setTop (mkF m 104 #[.val (.int x0), .val (.int (4 : Int32)), .val (.ref b3), .val (.ref b49)] [(.ref b3)])) _
        refine XS.iloadN X92.here hx rfl (hb hby at_104) rfl ?_
        exact k)
    obtain ⟨c130, Ar130, q130, S130, M130, H130, G130⟩ := f95
    have hin130 : ¬ ((4 : Int32) < 0 ∨ c130.slots.size ≤ ((4 : Int32)).toNatClampNeg) := inb_of S130 ⟨by decide, by decide⟩
    have pre130 : Go p.tables e below (s₁.setTop (entryFrame m #[(.int x0)] maxLocals)) T92 (mkF m 106 #[.val (.int x0), .val (.int (4 : Int32)), .val (.ref b3), .val (.ref b49)] [(.ref r_CID)]) := fun t k => pre129 t (X92.aaload hx (j := (4 : Int32)) (v := (.ref r_CID)) (by rw [e92]; exact Ar130.1) (State.isArrayOf_alike hZ.alike Ar130.2.1) rfl Ar130.2.2 hin130 (H130.at hin130 rfl) (g := (mkF m 105 #[.val (.int x0), .val (.int (4 : Int32)), .val (.ref b3), .val (.ref b49)] [(.int (4 : Int32)), (.ref b3)])) rfl rfl (hb hby at_105) _ k)
    obtain ⟨cq131, kq131, q131a, q131b, q131c⟩ := isOf hZ e92 (E_CID.ext f94.2)
    obtain ⟨_, _, ⟨T131, L131, k131, n131⟩, -, X131, ⟨Lc131, hQ131, l131, y131, z131⟩, st131⟩ := X92.virtualBack hx (y := (⟨"com/example/plain_snapshot/plainsnapshot/sql/Type", "isOrdered", "()Z"⟩ : MethodName)) (z := (⟨"com/example/plain_snapshot/plainsnapshot/sql/Type", "isOrdered", "()Z"⟩ : MethodName)) hown (mvT hZ (hw _ (List.mem_of_getElem? (i := 22) rfl))) (mvT hZ (hw _ (List.mem_of_getElem? (i := 23) rfl))) (notFace_of_selects (args := #[]) (mvT hZ (hw _ (List.mem_of_getElem? (i := 25) rfl)))) (mvT hZ (hw _ (List.mem_of_getElem? (i := 25) rfl))) (mvT hZ (hw _ (List.mem_of_getElem? (i := 24) rfl))) (by decide) (backOf (W := 0) (rm_ord l Z a0 hw [] r_CID r_INT r_TEXT r_BOOLEAN h92 n0 (S_INT.ext f94.2) (S_TEXT.ext f94.2) (S_BOOLEAN.ext f94.2)) hZ (hw _ (List.mem_of_getElem? (i := 26) rfl)) (hw _ (List.mem_of_getElem? (i := 4) rfl)) (by decide) (by decide)) q131a q131c (g := (mkF m 106 #[.val (.int x0), .val (.int (4 : Int32)), .val (.ref b3), .val (.ref b49)] [(.ref r_CID)])) rfl (by rw [hml]; rfl) (Steps.refl _) (argsL := []) (rest := []) (lenOf pd_0 rfl) rfl (by show 2 * 0 + _ ≤ _; exact Nat.le_of_eq rfl) (hb hby at_106) (fun _ _ => ⟨rfl, e92, (by decide : 2 + 0 ≤ _), (by decide : 16 + 0 ≤ _)⟩)
    dsimp only [Pt.U, Pt.locs, Pt.cells, Pt.slots] at X131 l131 y131 z131 st131 hQ131
    subst l131 y131 z131
    obtain ⟨rfl, N131q, e131⟩ := hQ131
    have N131 := Fr.app N92 N131q
    have pre131 : Go p.tables e below (s₁.setTop (entryFrame m #[(.int x0)] maxLocals)) T131 (mkF m 109 #[.val (.int x0), .val (.int (4 : Int32)), .val (.ref b3), .val (.ref b49)] [(.int (own_ord r_CID r_INT r_TEXT r_BOOLEAN))]) := fun t k => pre130 t (st131.trans k)
    have pre132 : Go p.tables e below (s₁.setTop (entryFrame m #[(.int x0)] maxLocals)) T131 (mkF m 111 #[.val (.int x0), .val (.int (4 : Int32)), .val (.ref b3), .val (.ref b49)] [(.int (4 : Int32)), (.ref b49), (.int (own_ord r_CID r_INT r_TEXT r_BOOLEAN))]) := fun t k => pre131 t (by
        refine XS.aloadN X131.here hx rfl (hb hby at_109) rfl rfl ?_
        show Steps p.tables e below (T131.setTop (mkF m 110 #[.val (.int x0), .val (.int (4 : Int32)), .val (.ref b3), .val (.ref b49)] [(.ref b49), (.int (own_ord r_CID r_INT r_TEXT r_BOOLEAN))])) _
        refine XS.iloadN X131.here hx rfl (hb hby at_110) rfl ?_
        exact k)
    obtain ⟨c133, Ar133, q133, S133, M133, H133, G133⟩ := fa92
    have hin133 : ¬ ((4 : Int32) < 0 ∨ c133.slots.size ≤ ((4 : Int32)).toNatClampNeg) := inb_of S133 ⟨by decide, by decide⟩
    have pre133 : Go p.tables e below (s₁.setTop (entryFrame m #[(.int x0)] maxLocals)) T131 (mkF m 112 #[.val (.int x0), .val (.int (4 : Int32)), .val (.ref b3), .val (.ref b49)] [(.int (nar .boolean (0 : Int32))), (.int (own_ord r_CID r_INT r_TEXT r_BOOLEAN))]) := fun t k => pre132 t (X131.baloadBooleans hx (j := (4 : Int32)) (v := (.int (nar .boolean (0 : Int32)))) (by rw [e131]; exact Ar133.1) (State.isArrayOf_alike hZ.alike Ar133.2.1) Ar133.2.2 hin133 (H133.at hin133 rfl) (g := (mkF m 111 #[.val (.int x0), .val (.int (4 : Int32)), .val (.ref b3), .val (.ref b49)] [(.int (4 : Int32)), (.ref b49), (.int (own_ord r_CID r_INT r_TEXT r_BOOLEAN))])) rfl rfl (hb hby at_111) _ k)
    by_cases hc134 : (own_ord r_CID r_INT r_TEXT r_BOOLEAN) = (nar .boolean (0 : Int32))
    · -- hc134: True
      have pre135 : Go p.tables e below (s₁.setTop (entryFrame m #[(.int x0)] maxLocals)) T131 (mkF m 120 #[.val (.int x0), .val (.int (4 : Int32)), .val (.ref b3), .val (.ref b49)] [(.int (1 : Int32))]) := fun t k => pre133 t (by
          refine XS.icmpNo X131.here hx rfl (hb hby at_112) rfl (teq hc134).2 ?_
          show Steps p.tables e below (T131.setTop (mkF m 115 #[.val (.int x0), .val (.int (4 : Int32)), .val (.ref b3), .val (.ref b49)] [])) _
          refine XS.iconst X131.here hx rfl (hb hby at_115) ?_
          show Steps p.tables e below (T131.setTop (mkF m 116 #[.val (.int x0), .val (.int (4 : Int32)), .val (.ref b3), .val (.ref b49)] [(.int (1 : Int32))])) _
          refine XS.goto X131.here hx rfl (pc0 := 116) (pc' := 120) rfl (hb hby at_116) (by decide) (by decide) ?_
          exact k)
      obtain ⟨fs, hr, hrun, hended, hW, hsame⟩ := X131.leave (v := some (.int (1 : Int32))) (fun h => by rw [Bd.returns] at h; cases h) (BodyLoose.notSynchronized Bd)
      refine ⟨_, _, pre135 _ ?_, hrun, hended, _, _, rfl, ?_, ⟨_, rfl⟩, hW, hsame.mono (Nat.le_of_ble_eq_true rfl) (Nat.le_of_ble_eq_true rfl)⟩
      · exact retN X131 hx (t := .boolean) Bd.returns (by simp) (hb hby at_120) hr
      · show Q_law Z x0 r_INT r_TEXT r_BOOLEAN r_XID r_CID r_TID r_SNAPSHOT r_UNKNOWN h0 n0 _ T131.heap _
        rw [e131]
        exact ⟨rfl, N131⟩
    · -- hc134: False
      have pre136 : Go p.tables e below (s₁.setTop (entryFrame m #[(.int x0)] maxLocals)) T131 (mkF m 120 #[.val (.int x0), .val (.int (4 : Int32)), .val (.ref b3), .val (.ref b49)] [(.int (0 : Int32))]) := fun t k => pre133 t (by
          refine XS.icmpYes X131.here hx rfl (pc0 := 112) (pc' := 119) rfl (hb hby at_112) rfl (feq hc134).2 (by decide) (by decide) ?_
          show Steps p.tables e below (T131.setTop (mkF m 119 #[.val (.int x0), .val (.int (4 : Int32)), .val (.ref b3), .val (.ref b49)] [])) _
          refine XS.iconst X131.here hx rfl (hb hby at_119) ?_
          exact k)
      obtain ⟨fs, hr, hrun, hended, hW, hsame⟩ := X131.leave (v := some (.int (0 : Int32))) (fun h => by rw [Bd.returns] at h; cases h) (BodyLoose.notSynchronized Bd)
      refine ⟨_, _, pre136 _ ?_, hrun, hended, _, _, rfl, ?_, ⟨_, rfl⟩, hW, hsame.mono (Nat.le_of_ble_eq_true rfl) (Nat.le_of_ble_eq_true rfl)⟩
      · exact retN X131 hx (t := .boolean) Bd.returns (by simp) (hb hby at_120) hr
      · show Q_law Z x0 r_INT r_TEXT r_BOOLEAN r_XID r_CID r_TID r_SNAPSHOT r_UNKNOWN h0 n0 _ T131.heap _
        rw [e131]
        exfalso
        apply hc134
        rw [own_ord, if_neg (Fld.ne F_CID F_INT (fun q => absurd (Value.int.inj q) (by decide))), if_neg (Fld.ne F_CID F_TEXT (fun q => absurd (Value.int.inj q) (by decide))), if_neg (Fld.ne F_CID F_BOOLEAN (fun q => absurd (Value.int.inj q) (by decide)))]
        rfl
  · -- w1 = (5 : Int32)
    have pre137 : Go p.tables e below (s₁.setTop (entryFrame m #[(.int x0)] maxLocals)) T92 (mkF m 105 #[.val (.int x0), .val (.int (5 : Int32)), .val (.ref b3), .val (.ref b49)] [(.int (5 : Int32)), (.ref b3)]) := fun t k => pre96 t (by
        refine XS.aloadN X92.here hx rfl (hb hby at_103) rfl rfl ?_
        show Steps p.tables e below (T92.setTop (mkF m 104 #[.val (.int x0), .val (.int (5 : Int32)), .val (.ref b3), .val (.ref b49)] [(.ref b3)])) _
        refine XS.iloadN X92.here hx rfl (hb hby at_104) rfl ?_
        exact k)
    obtain ⟨c138, Ar138, q138, S138, M138, H138, G138⟩ := f95
    have hin138 : ¬ ((5 : Int32) < 0 ∨ c138.slots.size ≤ ((5 : Int32)).toNatClampNeg) := inb_of S138 ⟨by decide, by decide⟩
    have pre138 : Go p.tables e below (s₁.setTop (entryFrame m #[(.int x0)] maxLocals)) T92 (mkF m 106 #[.val (.int x0), .val (.int (5 : Int32)), .val (.ref b3), .val (.ref b49)] [(.ref r_TID)]) := fun t k => pre137 t (X92.aaload hx (j := (5 : Int32)) (v := (.ref r_TID)) (by rw [e92]; exact Ar138.1) (State.isArrayOf_alike hZ.alike Ar138.2.1) rfl Ar138.2.2 hin138 (H138.at hin138 rfl) (g := (mkF m 105 #[.val (.int x0), .val (.int (5 : Int32)), .val (.ref b3), .val (.ref b49)] [(.int (5 : Int32)), (.ref b3)])) rfl rfl (hb hby at_105) _ k)
    obtain ⟨cq139, kq139, q139a, q139b, q139c⟩ := isOf hZ e92 (E_TID.ext f94.2)
    obtain ⟨_, _, ⟨T139, L139, k139, n139⟩, -, X139, ⟨Lc139, hQ139, l139, y139, z139⟩, st139⟩ := X92.virtualBack hx (y := (⟨"com/example/plain_snapshot/plainsnapshot/sql/Type", "isOrdered", "()Z"⟩ : MethodName)) (z := (⟨"com/example/plain_snapshot/plainsnapshot/sql/Type", "isOrdered", "()Z"⟩ : MethodName)) hown (mvT hZ (hw _ (List.mem_of_getElem? (i := 22) rfl))) (mvT hZ (hw _ (List.mem_of_getElem? (i := 23) rfl))) (notFace_of_selects (args := #[]) (mvT hZ (hw _ (List.mem_of_getElem? (i := 25) rfl)))) (mvT hZ (hw _ (List.mem_of_getElem? (i := 25) rfl))) (mvT hZ (hw _ (List.mem_of_getElem? (i := 24) rfl))) (by decide) (backOf (W := 0) (rm_ord l Z a0 hw [] r_TID r_INT r_TEXT r_BOOLEAN h92 n0 (S_INT.ext f94.2) (S_TEXT.ext f94.2) (S_BOOLEAN.ext f94.2)) hZ (hw _ (List.mem_of_getElem? (i := 26) rfl)) (hw _ (List.mem_of_getElem? (i := 4) rfl)) (by decide) (by decide)) q139a q139c (g := (mkF m 106 #[.val (.int x0), .val (.int (5 : Int32)), .val (.ref b3), .val (.ref b49)] [(.ref r_TID)])) rfl (by rw [hml]; rfl) (Steps.refl _) (argsL := []) (rest := []) (lenOf pd_0 rfl) rfl (by show 2 * 0 + _ ≤ _; exact Nat.le_of_eq rfl) (hb hby at_106) (fun _ _ => ⟨rfl, e92, (by decide : 2 + 0 ≤ _), (by decide : 16 + 0 ≤ _)⟩)
    dsimp only [Pt.U, Pt.locs, Pt.cells, Pt.slots] at X139 l139 y139 z139 st139 hQ139
    subst l139 y139 z139
    obtain ⟨rfl, N139q, e139⟩ := hQ139
    have N139 := Fr.app N92 N139q
    have pre139 : Go p.tables e below (s₁.setTop (entryFrame m #[(.int x0)] maxLocals)) T139 (mkF m 109 #[.val (.int x0), .val (.int (5 : Int32)), .val (.ref b3), .val (.ref b49)] [(.int (own_ord r_TID r_INT r_TEXT r_BOOLEAN))]) := fun t k => pre138 t (st139.trans k)
    have pre140 : Go p.tables e below (s₁.setTop (entryFrame m #[(.int x0)] maxLocals)) T139 (mkF m 111 #[.val (.int x0), .val (.int (5 : Int32)), .val (.ref b3), .val (.ref b49)] [(.int (5 : Int32)), (.ref b49), (.int (own_ord r_TID r_INT r_TEXT r_BOOLEAN))]) := fun t k => pre139 t (by
        refine XS.aloadN X139.here hx rfl (hb hby at_109) rfl rfl ?_
        show Steps p.tables e below (T139.setTop (mkF m 110 #[.val (.int x0), .val (.int (5 : Int32)), .val (.ref b3), .val (.ref b49)] [(.ref b49), (.int (own_ord r_TID r_INT r_TEXT r_BOOLEAN))])) _
        refine XS.iloadN X139.here hx rfl (hb hby at_110) rfl ?_
        exact k)
    obtain ⟨c141, Ar141, q141, S141, M141, H141, G141⟩ := fa92
    have hin141 : ¬ ((5 : Int32) < 0 ∨ c141.slots.size ≤ ((5 : Int32)).toNatClampNeg) := inb_of S141 ⟨by decide, by decide⟩
    have pre141 : Go p.tables e below (s₁.setTop (entryFrame m #[(.int x0)] maxLocals)) T139 (mkF m 112 #[.val (.int x0), .val (.int (5 : Int32)), .val (.ref b3), .val (.ref b49)] [(.int (nar .boolean (0 : Int32))), (.int (own_ord r_TID r_INT r_TEXT r_BOOLEAN))]) := fun t k => pre140 t (X139.baloadBooleans hx (j := (5 : Int32)) (v := (.int (nar .boolean (0 : Int32)))) (by rw [e139]; exact Ar141.1) (State.isArrayOf_alike hZ.alike Ar141.2.1) Ar141.2.2 hin141 (H141.at hin141 rfl) (g := (mkF m 111 #[.val (.int x0), .val (.int (5 : Int32)), .val (.ref b3), .val (.ref b49)] [(.int (5 : Int32)), (.ref b49), (.int (own_ord r_TID r_INT r_TEXT r_BOOLEAN))])) rfl rfl (hb hby at_111) _ k)
    by_cases hc142 : (own_ord r_TID r_INT r_TEXT r_BOOLEAN) = (nar .boolean (0 : Int32))
    · -- hc142: True
      have pre143 : Go p.tables e below (s₁.setTop (entryFrame m #[(.int x0)] maxLocals)) T139 (mkF m 120 #[.val (.int x0), .val (.int (5 : Int32)), .val (.ref b3), .val (.ref b49)] [(.int (1 : Int32))]) := fun t k => pre141 t (by
          refine XS.icmpNo X139.here hx rfl (hb hby at_112) rfl (teq hc142).2 ?_
          show Steps p.tables e below (T139.setTop (mkF m 115 #[.val (.int x0), .val (.int (5 : Int32)), .val (.ref b3), .val (.ref b49)] [])) _
          refine XS.iconst X139.here hx rfl (hb hby at_115) ?_
          show Steps p.tables e below (T139.setTop (mkF m 116 #[.val (.int x0), .val (.int (5 : Int32)), .val (.ref b3), .val (.ref b49)] [(.int (1 : Int32))])) _
          refine XS.goto X139.here hx rfl (pc0 := 116) (pc' := 120) rfl (hb hby at_116) (by decide) (by decide) ?_
          exact k)
      obtain ⟨fs, hr, hrun, hended, hW, hsame⟩ := X139.leave (v := some (.int (1 : Int32))) (fun h => by rw [Bd.returns] at h; cases h) (BodyLoose.notSynchronized Bd)
      refine ⟨_, _, pre143 _ ?_, hrun, hended, _, _, rfl, ?_, ⟨_, rfl⟩, hW, hsame.mono (Nat.le_of_ble_eq_true rfl) (Nat.le_of_ble_eq_true rfl)⟩
      · exact retN X139 hx (t := .boolean) Bd.returns (by simp) (hb hby at_120) hr
      · show Q_law Z x0 r_INT r_TEXT r_BOOLEAN r_XID r_CID r_TID r_SNAPSHOT r_UNKNOWN h0 n0 _ T139.heap _
        rw [e139]
        exact ⟨rfl, N139⟩
    · -- hc142: False
      have pre144 : Go p.tables e below (s₁.setTop (entryFrame m #[(.int x0)] maxLocals)) T139 (mkF m 120 #[.val (.int x0), .val (.int (5 : Int32)), .val (.ref b3), .val (.ref b49)] [(.int (0 : Int32))]) := fun t k => pre141 t (by
          refine XS.icmpYes X139.here hx rfl (pc0 := 112) (pc' := 119) rfl (hb hby at_112) rfl (feq hc142).2 (by decide) (by decide) ?_
          show Steps p.tables e below (T139.setTop (mkF m 119 #[.val (.int x0), .val (.int (5 : Int32)), .val (.ref b3), .val (.ref b49)] [])) _
          refine XS.iconst X139.here hx rfl (hb hby at_119) ?_
          exact k)
      obtain ⟨fs, hr, hrun, hended, hW, hsame⟩ := X139.leave (v := some (.int (0 : Int32))) (fun h => by rw [Bd.returns] at h; cases h) (BodyLoose.notSynchronized Bd)
      refine ⟨_, _, pre144 _ ?_, hrun, hended, _, _, rfl, ?_, ⟨_, rfl⟩, hW, hsame.mono (Nat.le_of_ble_eq_true rfl) (Nat.le_of_ble_eq_true rfl)⟩
      · exact retN X139 hx (t := .boolean) Bd.returns (by simp) (hb hby at_120) hr
      · show Q_law Z x0 r_INT r_TEXT r_BOOLEAN r_XID r_CID r_TID r_SNAPSHOT r_UNKNOWN h0 n0 _ T139.heap _
        rw [e139]
        exfalso
        apply hc142
        rw [own_ord, if_neg (Fld.ne F_TID F_INT (fun q => absurd (Value.int.inj q) (by decide))), if_neg (Fld.ne F_TID F_TEXT (fun q => absurd (Value.int.inj q) (by decide))), if_neg (Fld.ne F_TID F_BOOLEAN (fun q => absurd (Value.int.inj q) (by decide)))]
        rfl
  · -- w1 = (6 : Int32)
    have pre145 : Go p.tables e below (s₁.setTop (entryFrame m #[(.int x0)] maxLocals)) T92 (mkF m 105 #[.val (.int x0), .val (.int (6 : Int32)), .val (.ref b3), .val (.ref b49)] [(.int (6 : Int32)), (.ref b3)]) := fun t k => pre96 t (by
        refine XS.aloadN X92.here hx rfl (hb hby at_103) rfl rfl ?_
        show Steps p.tables e below (T92.setTop (mkF m 104 #[.val (.int x0), .val (.int (6 : Int32)), .val (.ref b3), .val (.ref b49)] [(.ref b3)])) _
        refine XS.iloadN X92.here hx rfl (hb hby at_104) rfl ?_
        exact k)
    obtain ⟨c146, Ar146, q146, S146, M146, H146, G146⟩ := f95
    have hin146 : ¬ ((6 : Int32) < 0 ∨ c146.slots.size ≤ ((6 : Int32)).toNatClampNeg) := inb_of S146 ⟨by decide, by decide⟩
    have pre146 : Go p.tables e below (s₁.setTop (entryFrame m #[(.int x0)] maxLocals)) T92 (mkF m 106 #[.val (.int x0), .val (.int (6 : Int32)), .val (.ref b3), .val (.ref b49)] [(.ref r_SNAPSHOT)]) := fun t k => pre145 t (X92.aaload hx (j := (6 : Int32)) (v := (.ref r_SNAPSHOT)) (by rw [e92]; exact Ar146.1) (State.isArrayOf_alike hZ.alike Ar146.2.1) rfl Ar146.2.2 hin146 (H146.at hin146 rfl) (g := (mkF m 105 #[.val (.int x0), .val (.int (6 : Int32)), .val (.ref b3), .val (.ref b49)] [(.int (6 : Int32)), (.ref b3)])) rfl rfl (hb hby at_105) _ k)
    obtain ⟨cq147, kq147, q147a, q147b, q147c⟩ := isOf hZ e92 (E_SNAPSHOT.ext f94.2)
    obtain ⟨_, _, ⟨T147, L147, k147, n147⟩, -, X147, ⟨Lc147, hQ147, l147, y147, z147⟩, st147⟩ := X92.virtualBack hx (y := (⟨"com/example/plain_snapshot/plainsnapshot/sql/Type", "isOrdered", "()Z"⟩ : MethodName)) (z := (⟨"com/example/plain_snapshot/plainsnapshot/sql/Type", "isOrdered", "()Z"⟩ : MethodName)) hown (mvT hZ (hw _ (List.mem_of_getElem? (i := 22) rfl))) (mvT hZ (hw _ (List.mem_of_getElem? (i := 23) rfl))) (notFace_of_selects (args := #[]) (mvT hZ (hw _ (List.mem_of_getElem? (i := 25) rfl)))) (mvT hZ (hw _ (List.mem_of_getElem? (i := 25) rfl))) (mvT hZ (hw _ (List.mem_of_getElem? (i := 24) rfl))) (by decide) (backOf (W := 0) (rm_ord l Z a0 hw [] r_SNAPSHOT r_INT r_TEXT r_BOOLEAN h92 n0 (S_INT.ext f94.2) (S_TEXT.ext f94.2) (S_BOOLEAN.ext f94.2)) hZ (hw _ (List.mem_of_getElem? (i := 26) rfl)) (hw _ (List.mem_of_getElem? (i := 4) rfl)) (by decide) (by decide)) q147a q147c (g := (mkF m 106 #[.val (.int x0), .val (.int (6 : Int32)), .val (.ref b3), .val (.ref b49)] [(.ref r_SNAPSHOT)])) rfl (by rw [hml]; rfl) (Steps.refl _) (argsL := []) (rest := []) (lenOf pd_0 rfl) rfl (by show 2 * 0 + _ ≤ _; exact Nat.le_of_eq rfl) (hb hby at_106) (fun _ _ => ⟨rfl, e92, (by decide : 2 + 0 ≤ _), (by decide : 16 + 0 ≤ _)⟩)
    dsimp only [Pt.U, Pt.locs, Pt.cells, Pt.slots] at X147 l147 y147 z147 st147 hQ147
    subst l147 y147 z147
    obtain ⟨rfl, N147q, e147⟩ := hQ147
    have N147 := Fr.app N92 N147q
    have pre147 : Go p.tables e below (s₁.setTop (entryFrame m #[(.int x0)] maxLocals)) T147 (mkF m 109 #[.val (.int x0), .val (.int (6 : Int32)), .val (.ref b3), .val (.ref b49)] [(.int (own_ord r_SNAPSHOT r_INT r_TEXT r_BOOLEAN))]) := fun t k => pre146 t (st147.trans k)
    have pre148 : Go p.tables e below (s₁.setTop (entryFrame m #[(.int x0)] maxLocals)) T147 (mkF m 111 #[.val (.int x0), .val (.int (6 : Int32)), .val (.ref b3), .val (.ref b49)] [(.int (6 : Int32)), (.ref b49), (.int (own_ord r_SNAPSHOT r_INT r_TEXT r_BOOLEAN))]) := fun t k => pre147 t (by
        refine XS.aloadN X147.here hx rfl (hb hby at_109) rfl rfl ?_
        show Steps p.tables e below (T147.setTop (mkF m 110 #[.val (.int x0), .val (.int (6 : Int32)), .val (.ref b3), .val (.ref b49)] [(.ref b49), (.int (own_ord r_SNAPSHOT r_INT r_TEXT r_BOOLEAN))])) _
        refine XS.iloadN X147.here hx rfl (hb hby at_110) rfl ?_
        exact k)
    obtain ⟨c149, Ar149, q149, S149, M149, H149, G149⟩ := fa92
    have hin149 : ¬ ((6 : Int32) < 0 ∨ c149.slots.size ≤ ((6 : Int32)).toNatClampNeg) := inb_of S149 ⟨by decide, by decide⟩
    have pre149 : Go p.tables e below (s₁.setTop (entryFrame m #[(.int x0)] maxLocals)) T147 (mkF m 112 #[.val (.int x0), .val (.int (6 : Int32)), .val (.ref b3), .val (.ref b49)] [(.int (nar .boolean (0 : Int32))), (.int (own_ord r_SNAPSHOT r_INT r_TEXT r_BOOLEAN))]) := fun t k => pre148 t (X147.baloadBooleans hx (j := (6 : Int32)) (v := (.int (nar .boolean (0 : Int32)))) (by rw [e147]; exact Ar149.1) (State.isArrayOf_alike hZ.alike Ar149.2.1) Ar149.2.2 hin149 (H149.at hin149 rfl) (g := (mkF m 111 #[.val (.int x0), .val (.int (6 : Int32)), .val (.ref b3), .val (.ref b49)] [(.int (6 : Int32)), (.ref b49), (.int (own_ord r_SNAPSHOT r_INT r_TEXT r_BOOLEAN))])) rfl rfl (hb hby at_111) _ k)
    by_cases hc150 : (own_ord r_SNAPSHOT r_INT r_TEXT r_BOOLEAN) = (nar .boolean (0 : Int32))
    · -- hc150: True
      have pre151 : Go p.tables e below (s₁.setTop (entryFrame m #[(.int x0)] maxLocals)) T147 (mkF m 120 #[.val (.int x0), .val (.int (6 : Int32)), .val (.ref b3), .val (.ref b49)] [(.int (1 : Int32))]) := fun t k => pre149 t (by
          refine XS.icmpNo X147.here hx rfl (hb hby at_112) rfl (teq hc150).2 ?_
          show Steps p.tables e below (T147.setTop (mkF m 115 #[.val (.int x0), .val (.int (6 : Int32)), .val (.ref b3), .val (.ref b49)] [])) _
          refine XS.iconst X147.here hx rfl (hb hby at_115) ?_
          show Steps p.tables e below (T147.setTop (mkF m 116 #[.val (.int x0), .val (.int (6 : Int32)), .val (.ref b3), .val (.ref b49)] [(.int (1 : Int32))])) _
          refine XS.goto X147.here hx rfl (pc0 := 116) (pc' := 120) rfl (hb hby at_116) (by decide) (by decide) ?_
          exact k)
      obtain ⟨fs, hr, hrun, hended, hW, hsame⟩ := X147.leave (v := some (.int (1 : Int32))) (fun h => by rw [Bd.returns] at h; cases h) (BodyLoose.notSynchronized Bd)
      refine ⟨_, _, pre151 _ ?_, hrun, hended, _, _, rfl, ?_, ⟨_, rfl⟩, hW, hsame.mono (Nat.le_of_ble_eq_true rfl) (Nat.le_of_ble_eq_true rfl)⟩
      · exact retN X147 hx (t := .boolean) Bd.returns (by simp) (hb hby at_120) hr
      · show Q_law Z x0 r_INT r_TEXT r_BOOLEAN r_XID r_CID r_TID r_SNAPSHOT r_UNKNOWN h0 n0 _ T147.heap _
        rw [e147]
        exact ⟨rfl, N147⟩
    · -- hc150: False
      have pre152 : Go p.tables e below (s₁.setTop (entryFrame m #[(.int x0)] maxLocals)) T147 (mkF m 120 #[.val (.int x0), .val (.int (6 : Int32)), .val (.ref b3), .val (.ref b49)] [(.int (0 : Int32))]) := fun t k => pre149 t (by
          refine XS.icmpYes X147.here hx rfl (pc0 := 112) (pc' := 119) rfl (hb hby at_112) rfl (feq hc150).2 (by decide) (by decide) ?_
          show Steps p.tables e below (T147.setTop (mkF m 119 #[.val (.int x0), .val (.int (6 : Int32)), .val (.ref b3), .val (.ref b49)] [])) _
          refine XS.iconst X147.here hx rfl (hb hby at_119) ?_
          exact k)
      obtain ⟨fs, hr, hrun, hended, hW, hsame⟩ := X147.leave (v := some (.int (0 : Int32))) (fun h => by rw [Bd.returns] at h; cases h) (BodyLoose.notSynchronized Bd)
      refine ⟨_, _, pre152 _ ?_, hrun, hended, _, _, rfl, ?_, ⟨_, rfl⟩, hW, hsame.mono (Nat.le_of_ble_eq_true rfl) (Nat.le_of_ble_eq_true rfl)⟩
      · exact retN X147 hx (t := .boolean) Bd.returns (by simp) (hb hby at_120) hr
      · show Q_law Z x0 r_INT r_TEXT r_BOOLEAN r_XID r_CID r_TID r_SNAPSHOT r_UNKNOWN h0 n0 _ T147.heap _
        rw [e147]
        exfalso
        apply hc150
        rw [own_ord, if_neg (Fld.ne F_SNAPSHOT F_INT (fun q => absurd (Value.int.inj q) (by decide))), if_neg (Fld.ne F_SNAPSHOT F_TEXT (fun q => absurd (Value.int.inj q) (by decide))), if_neg (Fld.ne F_SNAPSHOT F_BOOLEAN (fun q => absurd (Value.int.inj q) (by decide)))]
        rfl
  · -- w1 = (7 : Int32)
    have pre153 : Go p.tables e below (s₁.setTop (entryFrame m #[(.int x0)] maxLocals)) T92 (mkF m 105 #[.val (.int x0), .val (.int (7 : Int32)), .val (.ref b3), .val (.ref b49)] [(.int (7 : Int32)), (.ref b3)]) := fun t k => pre96 t (by
        refine XS.aloadN X92.here hx rfl (hb hby at_103) rfl rfl ?_
        show Steps p.tables e below (T92.setTop (mkF m 104 #[.val (.int x0), .val (.int (7 : Int32)), .val (.ref b3), .val (.ref b49)] [(.ref b3)])) _
        refine XS.iloadN X92.here hx rfl (hb hby at_104) rfl ?_
        exact k)
    obtain ⟨c154, Ar154, q154, S154, M154, H154, G154⟩ := f95
    have hin154 : ¬ ((7 : Int32) < 0 ∨ c154.slots.size ≤ ((7 : Int32)).toNatClampNeg) := inb_of S154 ⟨by decide, by decide⟩
    have pre154 : Go p.tables e below (s₁.setTop (entryFrame m #[(.int x0)] maxLocals)) T92 (mkF m 106 #[.val (.int x0), .val (.int (7 : Int32)), .val (.ref b3), .val (.ref b49)] [(.ref r_UNKNOWN)]) := fun t k => pre153 t (X92.aaload hx (j := (7 : Int32)) (v := (.ref r_UNKNOWN)) (by rw [e92]; exact Ar154.1) (State.isArrayOf_alike hZ.alike Ar154.2.1) rfl Ar154.2.2 hin154 (H154.at hin154 rfl) (g := (mkF m 105 #[.val (.int x0), .val (.int (7 : Int32)), .val (.ref b3), .val (.ref b49)] [(.int (7 : Int32)), (.ref b3)])) rfl rfl (hb hby at_105) _ k)
    obtain ⟨cq155, kq155, q155a, q155b, q155c⟩ := isOf hZ e92 (E_UNKNOWN.ext f94.2)
    obtain ⟨_, _, ⟨T155, L155, k155, n155⟩, -, X155, ⟨Lc155, hQ155, l155, y155, z155⟩, st155⟩ := X92.virtualBack hx (y := (⟨"com/example/plain_snapshot/plainsnapshot/sql/Type", "isOrdered", "()Z"⟩ : MethodName)) (z := (⟨"com/example/plain_snapshot/plainsnapshot/sql/Type", "isOrdered", "()Z"⟩ : MethodName)) hown (mvT hZ (hw _ (List.mem_of_getElem? (i := 22) rfl))) (mvT hZ (hw _ (List.mem_of_getElem? (i := 23) rfl))) (notFace_of_selects (args := #[]) (mvT hZ (hw _ (List.mem_of_getElem? (i := 25) rfl)))) (mvT hZ (hw _ (List.mem_of_getElem? (i := 25) rfl))) (mvT hZ (hw _ (List.mem_of_getElem? (i := 24) rfl))) (by decide) (backOf (W := 0) (rm_ord l Z a0 hw [] r_UNKNOWN r_INT r_TEXT r_BOOLEAN h92 n0 (S_INT.ext f94.2) (S_TEXT.ext f94.2) (S_BOOLEAN.ext f94.2)) hZ (hw _ (List.mem_of_getElem? (i := 26) rfl)) (hw _ (List.mem_of_getElem? (i := 4) rfl)) (by decide) (by decide)) q155a q155c (g := (mkF m 106 #[.val (.int x0), .val (.int (7 : Int32)), .val (.ref b3), .val (.ref b49)] [(.ref r_UNKNOWN)])) rfl (by rw [hml]; rfl) (Steps.refl _) (argsL := []) (rest := []) (lenOf pd_0 rfl) rfl (by show 2 * 0 + _ ≤ _; exact Nat.le_of_eq rfl) (hb hby at_106) (fun _ _ => ⟨rfl, e92, (by decide : 2 + 0 ≤ _), (by decide : 16 + 0 ≤ _)⟩)
    dsimp only [Pt.U, Pt.locs, Pt.cells, Pt.slots] at X155 l155 y155 z155 st155 hQ155
    subst l155 y155 z155
    obtain ⟨rfl, N155q, e155⟩ := hQ155
    have N155 := Fr.app N92 N155q
    have pre155 : Go p.tables e below (s₁.setTop (entryFrame m #[(.int x0)] maxLocals)) T155 (mkF m 109 #[.val (.int x0), .val (.int (7 : Int32)), .val (.ref b3), .val (.ref b49)] [(.int (own_ord r_UNKNOWN r_INT r_TEXT r_BOOLEAN))]) := fun t k => pre154 t (st155.trans k)
    have pre156 : Go p.tables e below (s₁.setTop (entryFrame m #[(.int x0)] maxLocals)) T155 (mkF m 111 #[.val (.int x0), .val (.int (7 : Int32)), .val (.ref b3), .val (.ref b49)] [(.int (7 : Int32)), (.ref b49), (.int (own_ord r_UNKNOWN r_INT r_TEXT r_BOOLEAN))]) := fun t k => pre155 t (by
        refine XS.aloadN X155.here hx rfl (hb hby at_109) rfl rfl ?_
        show Steps p.tables e below (T155.setTop (mkF m 110 #[.val (.int x0), .val (.int (7 : Int32)), .val (.ref b3), .val (.ref b49)] [(.ref b49), (.int (own_ord r_UNKNOWN r_INT r_TEXT r_BOOLEAN))])) _
        refine XS.iloadN X155.here hx rfl (hb hby at_110) rfl ?_
        exact k)
    obtain ⟨c157, Ar157, q157, S157, M157, H157, G157⟩ := fa92
    have hin157 : ¬ ((7 : Int32) < 0 ∨ c157.slots.size ≤ ((7 : Int32)).toNatClampNeg) := inb_of S157 ⟨by decide, by decide⟩
    have pre157 : Go p.tables e below (s₁.setTop (entryFrame m #[(.int x0)] maxLocals)) T155 (mkF m 112 #[.val (.int x0), .val (.int (7 : Int32)), .val (.ref b3), .val (.ref b49)] [(.int (nar .boolean (0 : Int32))), (.int (own_ord r_UNKNOWN r_INT r_TEXT r_BOOLEAN))]) := fun t k => pre156 t (X155.baloadBooleans hx (j := (7 : Int32)) (v := (.int (nar .boolean (0 : Int32)))) (by rw [e155]; exact Ar157.1) (State.isArrayOf_alike hZ.alike Ar157.2.1) Ar157.2.2 hin157 (H157.at hin157 rfl) (g := (mkF m 111 #[.val (.int x0), .val (.int (7 : Int32)), .val (.ref b3), .val (.ref b49)] [(.int (7 : Int32)), (.ref b49), (.int (own_ord r_UNKNOWN r_INT r_TEXT r_BOOLEAN))])) rfl rfl (hb hby at_111) _ k)
    by_cases hc158 : (own_ord r_UNKNOWN r_INT r_TEXT r_BOOLEAN) = (nar .boolean (0 : Int32))
    · -- hc158: True
      have pre159 : Go p.tables e below (s₁.setTop (entryFrame m #[(.int x0)] maxLocals)) T155 (mkF m 120 #[.val (.int x0), .val (.int (7 : Int32)), .val (.ref b3), .val (.ref b49)] [(.int (1 : Int32))]) := fun t k => pre157 t (by
          refine XS.icmpNo X155.here hx rfl (hb hby at_112) rfl (teq hc158).2 ?_
          show Steps p.tables e below (T155.setTop (mkF m 115 #[.val (.int x0), .val (.int (7 : Int32)), .val (.ref b3), .val (.ref b49)] [])) _
          refine XS.iconst X155.here hx rfl (hb hby at_115) ?_
          show Steps p.tables e below (T155.setTop (mkF m 116 #[.val (.int x0), .val (.int (7 : Int32)), .val (.ref b3), .val (.ref b49)] [(.int (1 : Int32))])) _
          refine XS.goto X155.here hx rfl (pc0 := 116) (pc' := 120) rfl (hb hby at_116) (by decide) (by decide) ?_
          exact k)
      obtain ⟨fs, hr, hrun, hended, hW, hsame⟩ := X155.leave (v := some (.int (1 : Int32))) (fun h => by rw [Bd.returns] at h; cases h) (BodyLoose.notSynchronized Bd)
      refine ⟨_, _, pre159 _ ?_, hrun, hended, _, _, rfl, ?_, ⟨_, rfl⟩, hW, hsame.mono (Nat.le_of_ble_eq_true rfl) (Nat.le_of_ble_eq_true rfl)⟩
      · exact retN X155 hx (t := .boolean) Bd.returns (by simp) (hb hby at_120) hr
      · show Q_law Z x0 r_INT r_TEXT r_BOOLEAN r_XID r_CID r_TID r_SNAPSHOT r_UNKNOWN h0 n0 _ T155.heap _
        rw [e155]
        exact ⟨rfl, N155⟩
    · -- hc158: False
      have pre160 : Go p.tables e below (s₁.setTop (entryFrame m #[(.int x0)] maxLocals)) T155 (mkF m 120 #[.val (.int x0), .val (.int (7 : Int32)), .val (.ref b3), .val (.ref b49)] [(.int (0 : Int32))]) := fun t k => pre157 t (by
          refine XS.icmpYes X155.here hx rfl (pc0 := 112) (pc' := 119) rfl (hb hby at_112) rfl (feq hc158).2 (by decide) (by decide) ?_
          show Steps p.tables e below (T155.setTop (mkF m 119 #[.val (.int x0), .val (.int (7 : Int32)), .val (.ref b3), .val (.ref b49)] [])) _
          refine XS.iconst X155.here hx rfl (hb hby at_119) ?_
          exact k)
      obtain ⟨fs, hr, hrun, hended, hW, hsame⟩ := X155.leave (v := some (.int (0 : Int32))) (fun h => by rw [Bd.returns] at h; cases h) (BodyLoose.notSynchronized Bd)
      refine ⟨_, _, pre160 _ ?_, hrun, hended, _, _, rfl, ?_, ⟨_, rfl⟩, hW, hsame.mono (Nat.le_of_ble_eq_true rfl) (Nat.le_of_ble_eq_true rfl)⟩
      · exact retN X155 hx (t := .boolean) Bd.returns (by simp) (hb hby at_120) hr
      · show Q_law Z x0 r_INT r_TEXT r_BOOLEAN r_XID r_CID r_TID r_SNAPSHOT r_UNKNOWN h0 n0 _ T155.heap _
        rw [e155]
        exfalso
        apply hc158
        rw [own_ord, if_neg (Fld.ne F_UNKNOWN F_INT (fun q => absurd (Value.int.inj q) (by decide))), if_neg (Fld.ne F_UNKNOWN F_TEXT (fun q => absurd (Value.int.inj q) (by decide))), if_neg (Fld.ne F_UNKNOWN F_BOOLEAN (fun q => absurd (Value.int.inj q) (by decide)))]
        rfl
set_option maxRecDepth 65536 in
set_option maxHeartbeats 40000000 in
theorem comes_1 {Post : Tables → Env → Array Value → State → Outcome → State → Prop} (hpost : ∀ tb e args s v u, (limb_1_1.after args s (.returned v) u = true ∧ limb_1_2.after args s (.returned v) u = true ∧ True) → FrameEnd s (.returned v) u (Jvm.fieldLocs frame_1_writes args s ++ Jvm.arrayLocs frame_1_arrays args s ++ Jvm.staticLocs frame_1_statics s) 16 128 → Post tb e args s (.returned v) u) :
    ArmFor flags0 classFile x code maxLocals ret World_1 tables_1 room_1 Calls_1 rest_1 Pre_1 Post := by
  intro l hfl _ _ p e ha hc hk s m args below hf hA hF happ hP
  obtain ⟨hcalls, hrest, hpre⟩ := hP
  obtain ⟨-, -, -, hnamed, -, -, -, hat⟩ := (Spec.applies_iff hf).mp happ
  obtain ⟨hg, hn⟩ := and_e (Cond.before_iff.mp (show (Jvm.Cond.and given_1 narrow_1).before args s = true from hpre))
  obtain ⟨gc, gt0⟩ := and_e hg
  obtain ⟨w0, rfl⟩ : ∃ w0 : Value, args = #[w0] := by
    have hs : args.size = 1 := by simpa [Cond.value, given_1] using gc
    obtain ⟨L⟩ := args
    match L, hs with
    | [w0], _ => exact ⟨w0, rfl⟩
  have hw := fun d (hd : d ∈ tables_1) => atoms_spec (ws := Jvm.Cond.code x code maxLocals ret :: tables_1) hat d (List.mem_cons_of_mem _ hd)
  have hfit : Fit s := fun {y c} hc i hi => by
    obtain ⟨ha, rfl⟩ := Array.getElem?_eq_some_iff.mp hc
    have q := List.all_eq_true.mp ((Array.all_eq_true_iff_forall_mem.mp hF) _ (Array.getElem_mem ha)) i (List.mem_range.mpr hi)
    simpa [Array.getElem?_eq_getElem hi] using q
  obtain ⟨i0, ei0⟩ := is_v gt0
  obtain rfl : w0 = (.int i0) := Option.some.inj ei0
  obtain ⟨nc0, nt0⟩ := and_e hn
  obtain ⟨nc1, nt1⟩ := and_e nt0
  obtain ⟨nc2, nt2⟩ := and_e nt1
  obtain ⟨nc3, nt3⟩ := and_e nt2
  obtain ⟨nc4, nt4⟩ := and_e nt3
  obtain ⟨nc5, nt5⟩ := and_e nt4
  obtain ⟨nc6, nt6⟩ := and_e nt5
  obtain ⟨nc7, nt7⟩ := and_e nt6
  obtain ⟨nc8, nt8⟩ := and_e nt7
  obtain ⟨nc9, nt9⟩ := and_e nt8
  obtain ⟨nc10, nt10⟩ := and_e nt9
  obtain ⟨nc11, nt11⟩ := and_e nt10
  obtain ⟨nc12, nt12⟩ := and_e nt11
  obtain ⟨nc13, nt13⟩ := and_e nt12
  obtain ⟨nc14, nt14⟩ := and_e nt13
  obtain ⟨r_INT, S_INT, E_INT, ev_INT⟩ := own_sta (a0 := #[]) nc0 (hw _ (List.mem_of_getElem? (i := 4) rfl)) (hw _ (List.mem_of_getElem? (i := 5) rfl))
  obtain ⟨r_TEXT, S_TEXT, E_TEXT, ev_TEXT⟩ := own_sta (a0 := #[]) nc1 (hw _ (List.mem_of_getElem? (i := 4) rfl)) (hw _ (List.mem_of_getElem? (i := 8) rfl))
  obtain ⟨r_BOOLEAN, S_BOOLEAN, E_BOOLEAN, ev_BOOLEAN⟩ := own_sta (a0 := #[]) nc2 (hw _ (List.mem_of_getElem? (i := 4) rfl)) (hw _ (List.mem_of_getElem? (i := 10) rfl))
  obtain ⟨r_XID, S_XID, E_XID, ev_XID⟩ := own_sta (a0 := #[]) nc3 (hw _ (List.mem_of_getElem? (i := 4) rfl)) (hw _ (List.mem_of_getElem? (i := 12) rfl))
  obtain ⟨r_CID, S_CID, E_CID, ev_CID⟩ := own_sta (a0 := #[]) nc4 (hw _ (List.mem_of_getElem? (i := 4) rfl)) (hw _ (List.mem_of_getElem? (i := 14) rfl))
  obtain ⟨r_TID, S_TID, E_TID, ev_TID⟩ := own_sta (a0 := #[]) nc5 (hw _ (List.mem_of_getElem? (i := 4) rfl)) (hw _ (List.mem_of_getElem? (i := 16) rfl))
  obtain ⟨r_SNAPSHOT, S_SNAPSHOT, E_SNAPSHOT, ev_SNAPSHOT⟩ := own_sta (a0 := #[]) nc6 (hw _ (List.mem_of_getElem? (i := 4) rfl)) (hw _ (List.mem_of_getElem? (i := 18) rfl))
  obtain ⟨r_UNKNOWN, S_UNKNOWN, E_UNKNOWN, ev_UNKNOWN⟩ := own_sta (a0 := #[]) nc7 (hw _ (List.mem_of_getElem? (i := 4) rfl)) (hw _ (List.mem_of_getElem? (i := 20) rfl))
  have F_XID_ordinal := own_fld ev_XID nc8
  have F_INT_ordinal := own_fld ev_INT nc9
  have F_TEXT_ordinal := own_fld ev_TEXT nc10
  have F_BOOLEAN_ordinal := own_fld ev_BOOLEAN nc11
  have F_SNAPSHOT_ordinal := own_fld ev_SNAPSHOT nc12
  have F_UNKNOWN_ordinal := own_fld ev_UNKNOWN nc13
  have F_CID_ordinal := own_fld ev_CID nc14
  have F_TID_ordinal := own_fld ev_TID nt14
  obtain ⟨n, o, h1, h2, h3, _, L, rfl, ⟨rfl, N⟩, hq⟩ := rm_law l s _ hw tables_1 i0 r_INT r_TEXT r_BOOLEAN r_XID r_CID r_TID r_SNAPSHOT r_UNKNOWN s.heap s.heap.size (Nat.le_refl _) (Old.start s) S_INT S_TEXT S_BOOLEAN S_XID S_CID S_TID S_SNAPSHOT S_UNKNOWN E_INT E_TEXT E_BOOLEAN E_XID E_CID E_TID E_SNAPSHOT E_UNKNOWN F_INT_ordinal F_TEXT_ordinal F_BOOLEAN_ordinal F_XID_ordinal F_CID_ordinal F_TID_ordinal F_SNAPSHOT_ordinal F_UNKNOWN_ordinal p e ha hc hk s m _ below hf ((Spec.applies_iff_loose hf).mp happ).1 ⟨rfl, State.Warmed39.refl s, rfl⟩ trivial
  refine ⟨n, _, h1, h2, h3, hpost _ _ _ _ _ _ ⟨Cond.after_iff.mpr rfl, Cond.after_iff.mpr (eq_i res_at (Term.int_eval (1)) rfl), trivial⟩ ⟨hq.1, hq.2.1, (hq.2.2.sift fun y hy => Or.inr (N y hy)).mono (by decide) (by decide)⟩⟩
theorem main_1_1 : Claimed_1_1 := comes_1 fun _ _ _ _ _ _ h hF => ⟨h.1, hF⟩
theorem main_1_2 : Claimed_1_2 := comes_1 fun _ _ _ _ _ _ h hF => ⟨h.2.1, hF⟩
end Jvm.Pilot.@@N@@
namespace Jvm.Pilot.@@N@@
open Jvm Jvm.ClassFile Sem Op Lib Jvm.Free Jvm.Stand Jvm.Pilot.@@N@@.Jvm.D
/-! MADE BY PROGRAM (witnessworld.py) out of the Statement's table words and the real class files: 15 classes; the members and pool entries that the words name. The judged class is class 1, her method 1. -/
namespace start1
open Jvm.ClassFile
def u (s : String) : CpInfo := .utf8 (stringToUtf16 s)
/-- a pool by its gaps: so many unusable entries, then the entry; so many at the end -/
def gap : Nat → List CpInfo → List CpInfo
  | 0, r => r
  | n + 1, r => .unusable :: gap n r
def poolList (es : List (Nat × CpInfo)) (last : Nat) : List CpInfo := es.foldr (fun e r => gap e.1 (e.2 :: r)) (gap last [])
def pool (es : List (Nat × CpInfo)) (last : Nat) : Array CpInfo := ⟨poolList es last⟩
def fileOf (pool : Array CpInfo) (this : Nat) (attrs : Array Attribute := #[]) (ms : Array MethodInfo := #[]) (fl : Nat := 33) (sup : Nat := 0) (ifs : Array Nat := #[]) (fds : Array FieldInfo := #[]) : ClassFile where
  minorVersion := 0
  majorVersion := 65
  constantPool := pool
  accessFlags := fl
  thisClass := this
  superClass := sup
  interfaces := ifs
  fields := fds
  methods := ms
  attributes := attrs
def plain (name : String) (sup : Option ClassId) : Class where
  name := name
  kind := .ordinary
  loader := none
  accessFlags := 33
  super := sup
  interfaces := #[]
  cf := none
  fields := #[]
  methods := #[]
  instanceTypes := #[]
  staticTypes := #[]
  resolved := #[]
  callSites := []
  init := .initialized
  statics := none
  mirror := none

def pool0 : Array CpInfo := pool [(5, u "<init>"), (0, u "()V"), (1, .class_ 10), (1, u "java/lang/Object")] 113

def k0m0 : Method := { name := "<init>", desc := "()V", sig := { parameters := [], returnType := none }, accessFlags := 1, code := none }
/-- java/lang/Object -/
def k0 : Class := { plain "java/lang/Object" none with
  accessFlags := 33
  interfaces := #[]
  cf := some (fileOf pool0 8 #[] #[{ accessFlags := 1, nameIndex := 5, descriptorIndex := 6, attributes := #[] }] 33 0 #[] #[])
  fields := #[]
  methods := #[k0m0]
  instanceTypes := #[]
  staticTypes := #[]
  resolved := Array.replicate 124 none
  statics := none }

def pool1 : Array CpInfo := pool [(2, .class_ 4), (1, u "java/lang/Object"), (0, u "<init>"), (0, u "()V"), (0, .integer 2147483647), (0, .class_ 9), (0, u "com/example/plain_snapshot/plainsnapshot/sql/Type"), (0, .fieldref 8 11), (0, .nameAndType 12 13), (0, u "INT"), (0, u "Lcom/example/plain_snapshot/plainsnapshot/sql/Type;"), (0, .fieldref 8 15), (0, .nameAndType 16 13), (0, u "TEXT"), (0, .fieldref 8 18), (0, .nameAndType 19 13), (0, u "BOOLEAN"), (0, .fieldref 8 21), (0, .nameAndType 22 13), (0, u "XID"), (0, .fieldref 8 24), (0, .nameAndType 25 13), (0, u "CID"), (0, .fieldref 8 27), (0, .nameAndType 28 13), (0, u "TID"), (0, .fieldref 8 30), (0, .nameAndType 31 13), (0, u "SNAPSHOT"), (0, .fieldref 8 33), (0, .nameAndType 34 13), (0, u "UNKNOWN"), (0, .methodref 8 36), (0, .nameAndType 37 38), (0, u "isOrdered"), (0, u "()Z"), (0, .class_ 40), (0, u "com/example/plain_snapshot/plainsnapshot/sql/TypeIsOrderedPinLaw"), (2, u "law"), (0, u "(I)Z")] 7

def k1m0 : Method := { name := "<init>", desc := "()V", sig := { parameters := [], returnType := none }, accessFlags := 1, code := none }
def k1c1 : Code := { maxStack := 4, maxLocals := 4, code := code, exceptionTable := #[], attributes := #[] }
def k1m1 : Method := { name := "law", desc := "(I)Z", sig := { parameters := [.int], returnType := some .boolean }, accessFlags := 9, code := some k1c1 }
/-- com/example/plain_snapshot/plainsnapshot/sql/TypeIsOrderedPinLaw -/
def k1 : Class := { plain "com/example/plain_snapshot/plainsnapshot/sql/TypeIsOrderedPinLaw" (some 0) with
  accessFlags := 49
  interfaces := #[]
  cf := some (fileOf pool1 39 #[] #[{ accessFlags := 1, nameIndex := 5, descriptorIndex := 6, attributes := #[] }, { accessFlags := 9, nameIndex := 43, descriptorIndex := 44, attributes := #[] }] 49 2 #[] #[])
  fields := #[]
  methods := #[k1m0, k1m1]
  instanceTypes := #[]
  staticTypes := #[]
  resolved := Array.replicate 52 none
  statics := none }

def pool2 : Array CpInfo := pool [(1, .class_ 2), (0, u "java/lang/constant/Constable"), (0, .class_ 4), (0, u "java/lang/Object")] 6

/-- java/lang/constant/Constable -/
def k2 : Class := { plain "java/lang/constant/Constable" (some 0) with
  accessFlags := 1537
  interfaces := #[]
  cf := some (fileOf pool2 1 #[] #[] 1537 3 #[] #[])
  fields := #[]
  methods := #[]
  instanceTypes := #[]
  staticTypes := #[]
  resolved := Array.replicate 11 none
  statics := none }

def pool3 : Array CpInfo := pool [(1, .class_ 2), (0, u "java/lang/Comparable"), (0, .class_ 4), (0, u "java/lang/Object")] 7

/-- java/lang/Comparable -/
def k3 : Class := { plain "java/lang/Comparable" (some 0) with
  accessFlags := 1537
  interfaces := #[]
  cf := some (fileOf pool3 1 #[] #[] 1537 3 #[] #[])
  fields := #[]
  methods := #[]
  instanceTypes := #[]
  staticTypes := #[]
  resolved := Array.replicate 12 none
  statics := none }

def pool4 : Array CpInfo := pool [(1, .class_ 2), (0, u "java/io/Serializable"), (0, .class_ 4), (0, u "java/lang/Object")] 2

/-- java/io/Serializable -/
def k4 : Class := { plain "java/io/Serializable" (some 0) with
  accessFlags := 1537
  interfaces := #[]
  cf := some (fileOf pool4 1 #[] #[] 1537 3 #[] #[])
  fields := #[]
  methods := #[]
  instanceTypes := #[]
  staticTypes := #[]
  resolved := Array.replicate 7 none
  statics := none }

def pool5 : Array CpInfo := pool [(2, .class_ 4), (1, u "java/lang/Enum"), (0, u "name"), (0, u "Ljava/lang/String;"), (2, u "ordinal"), (0, u "I"), (1, .class_ 14), (1, u "java/lang/Object"), (4, u "hash"), (86, .class_ 108), (1, u "java/lang/Enum$EnumDesc"), (2, .class_ 112), (0, u "java/lang/constant/Constable"), (0, .class_ 114), (0, u "java/lang/Comparable"), (0, .class_ 116), (0, u "java/io/Serializable")] 87

/-- java/lang/Enum -/
def k5 : Class := { plain "java/lang/Enum" (some 0) with
  accessFlags := 1057
  interfaces := #[2, 3, 4]
  cf := some (fileOf pool5 2 #[.nestMembers #[106]] #[] 1057 12 #[111, 113, 115] #[{ accessFlags := 18, nameIndex := 5, descriptorIndex := 6, attributes := #[] }, { accessFlags := 18, nameIndex := 9, descriptorIndex := 10, attributes := #[] }, { accessFlags := 2, nameIndex := 19, descriptorIndex := 10, attributes := #[] }])
  fields := #[{ name := "name", type := (.object "java/lang/String"), accessFlags := 18, slot := 0, constantValue := 0 }, { name := "ordinal", type := .int, accessFlags := 18, slot := 1, constantValue := 0 }, { name := "hash", type := .int, accessFlags := 2, slot := 2, constantValue := 0 }]
  methods := #[]
  instanceTypes := #[(.object "java/lang/String"), .int, .int]
  staticTypes := #[]
  resolved := Array.replicate 204 none
  statics := none }

def pool6 : Array CpInfo := pool [(1, .class_ 2), (0, u "com/example/plain_snapshot/plainsnapshot/sql/Type"), (0, .fieldref 1 4), (0, .nameAndType 5 6), (0, u "INT"), (0, u "Lcom/example/plain_snapshot/plainsnapshot/sql/Type;"), (0, .fieldref 1 8), (0, .nameAndType 9 6), (0, u "TEXT"), (0, .fieldref 1 11), (0, .nameAndType 12 6), (0, u "BOOLEAN"), (2, u "XID"), (2, u "CID"), (2, u "TID"), (2, u "SNAPSHOT"), (2, u "UNKNOWN"), (2, u "$VALUES"), (0, u "[Lcom/example/plain_snapshot/plainsnapshot/sql/Type;"), (6, .class_ 40), (1, u "java/lang/Enum"), (8, u "typeName"), (0, u "Ljava/lang/String;"), (2, u "DECLARED"), (0, u "Ljava/util/Map;"), (53, u "()Z"), (48, u "isOrdered")] 103

def k6c0 : Code := { maxStack := 2, maxLocals := 1, code := prog_146_method_10_code, exceptionTable := #[], attributes := #[] }
def k6m0 : Method := { name := "isOrdered", desc := "()Z", sig := { parameters := [], returnType := some .boolean }, accessFlags := 0, code := some k6c0 }
/-- com/example/plain_snapshot/plainsnapshot/sql/Type -/
def k6 : Class := { plain "com/example/plain_snapshot/plainsnapshot/sql/Type" (some 5) with
  accessFlags := 16433
  interfaces := #[]
  cf := some (fileOf pool6 1 #[] #[{ accessFlags := 0, nameIndex := 157, descriptorIndex := 108, attributes := #[] }] 16433 38 #[] #[{ accessFlags := 16409, nameIndex := 5, descriptorIndex := 6, attributes := #[] }, { accessFlags := 16409, nameIndex := 9, descriptorIndex := 6, attributes := #[] }, { accessFlags := 16409, nameIndex := 12, descriptorIndex := 6, attributes := #[] }, { accessFlags := 16409, nameIndex := 15, descriptorIndex := 6, attributes := #[] }, { accessFlags := 16409, nameIndex := 18, descriptorIndex := 6, attributes := #[] }, { accessFlags := 16409, nameIndex := 21, descriptorIndex := 6, attributes := #[] }, { accessFlags := 16409, nameIndex := 24, descriptorIndex := 6, attributes := #[] }, { accessFlags := 16409, nameIndex := 27, descriptorIndex := 6, attributes := #[] }, { accessFlags := 26, nameIndex := 53, descriptorIndex := 54, attributes := #[] }, { accessFlags := 18, nameIndex := 49, descriptorIndex := 50, attributes := #[] }, { accessFlags := 4122, nameIndex := 30, descriptorIndex := 31, attributes := #[] }])
  fields := #[{ name := "INT", type := (.object "com/example/plain_snapshot/plainsnapshot/sql/Type"), accessFlags := 16409, slot := 0, constantValue := 0 }, { name := "TEXT", type := (.object "com/example/plain_snapshot/plainsnapshot/sql/Type"), accessFlags := 16409, slot := 1, constantValue := 0 }, { name := "BOOLEAN", type := (.object "com/example/plain_snapshot/plainsnapshot/sql/Type"), accessFlags := 16409, slot := 2, constantValue := 0 }, { name := "XID", type := (.object "com/example/plain_snapshot/plainsnapshot/sql/Type"), accessFlags := 16409, slot := 3, constantValue := 0 }, { name := "CID", type := (.object "com/example/plain_snapshot/plainsnapshot/sql/Type"), accessFlags := 16409, slot := 4, constantValue := 0 }, { name := "TID", type := (.object "com/example/plain_snapshot/plainsnapshot/sql/Type"), accessFlags := 16409, slot := 5, constantValue := 0 }, { name := "SNAPSHOT", type := (.object "com/example/plain_snapshot/plainsnapshot/sql/Type"), accessFlags := 16409, slot := 6, constantValue := 0 }, { name := "UNKNOWN", type := (.object "com/example/plain_snapshot/plainsnapshot/sql/Type"), accessFlags := 16409, slot := 7, constantValue := 0 }, { name := "DECLARED", type := (.object "java/util/Map"), accessFlags := 26, slot := 8, constantValue := 0 }, { name := "typeName", type := (.object "java/lang/String"), accessFlags := 18, slot := 3, constantValue := 0 }, { name := "$VALUES", type := (.array (.object "com/example/plain_snapshot/plainsnapshot/sql/Type")), accessFlags := 4122, slot := 9, constantValue := 0 }]
  methods := #[k6m0]
  instanceTypes := #[(.object "java/lang/String"), .int, .int, (.object "java/lang/String")]
  staticTypes := #[(.object "com/example/plain_snapshot/plainsnapshot/sql/Type"), (.object "com/example/plain_snapshot/plainsnapshot/sql/Type"), (.object "com/example/plain_snapshot/plainsnapshot/sql/Type"), (.object "com/example/plain_snapshot/plainsnapshot/sql/Type"), (.object "com/example/plain_snapshot/plainsnapshot/sql/Type"), (.object "com/example/plain_snapshot/plainsnapshot/sql/Type"), (.object "com/example/plain_snapshot/plainsnapshot/sql/Type"), (.object "com/example/plain_snapshot/plainsnapshot/sql/Type"), (.object "java/util/Map"), (.array (.object "com/example/plain_snapshot/plainsnapshot/sql/Type"))]
  resolved := Array.replicate 261 none
  statics := some 0 }

def pool7 : Array CpInfo := pool [(1, u "java/lang/Cloneable"), (0, .class_ 1), (0, u "java/lang/Object"), (0, .class_ 3)] 3

/-- java/lang/Cloneable -/
def k7 : Class := { plain "java/lang/Cloneable" (some 0) with
  accessFlags := 1537
  interfaces := #[]
  cf := some (fileOf pool7 2 #[] #[] 1537 4 #[] #[])
  fields := #[]
  methods := #[]
  instanceTypes := #[]
  staticTypes := #[]
  resolved := Array.replicate 8 none
  statics := none }

/-- the primitive boolean -/
def k8 : Class := { plain "boolean" none with kind := .primitive 'Z', accessFlags := 0x411 }
/-- [Z -/
def k9 : Class := { plain "[Z" (some 0) with kind := .array 8 .boolean, interfaces := #[7, 4], accessFlags := 1041 }

/-- the primitive byte -/
def k10 : Class := { plain "byte" none with kind := .primitive 'B', accessFlags := 0x411 }
/-- [B -/
def k11 : Class := { plain "[B" (some 0) with kind := .array 10 .byte, interfaces := #[7, 4], accessFlags := 1041 }

/-- the primitive int -/
def k12 : Class := { plain "int" none with kind := .primitive 'I', accessFlags := 0x411 }
/-- [I -/
def k13 : Class := { plain "[I" (some 0) with kind := .array 12 .int, interfaces := #[7, 4], accessFlags := 1041 }

/-- [Lcom/example/plain_snapshot/plainsnapshot/sql/Type; -/
def k14 : Class := { plain "[Lcom/example/plain_snapshot/plainsnapshot/sql/Type;" (some 0) with kind := .array 6 (.object "com/example/plain_snapshot/plainsnapshot/sql/Type"), interfaces := #[7, 4], accessFlags := 1041 }

def heap : Heap := #[{ cls := 6, slots := #[.ref 1, .ref 2, .ref 3, .ref 4, .ref 5, .ref 6, .ref 7, .ref 8, .null, .null], vm := .statics 6 },
  { cls := 6, slots := #[.null, .int 0, .int 0, .null], vm := .none },
  { cls := 6, slots := #[.null, .int 1, .int 0, .null], vm := .none },
  { cls := 6, slots := #[.null, .int 2, .int 0, .null], vm := .none },
  { cls := 6, slots := #[.null, .int 3, .int 0, .null], vm := .none },
  { cls := 6, slots := #[.null, .int 4, .int 0, .null], vm := .none },
  { cls := 6, slots := #[.null, .int 5, .int 0, .null], vm := .none },
  { cls := 6, slots := #[.null, .int 6, .int 0, .null], vm := .none },
  { cls := 6, slots := #[.null, .int 7, .int 0, .null], vm := .none }]
def classes : Array Class := #[k0, k1, k2, k3, k4, k5, k6, k7, k8, k9, k10, k11, k12, k13, k14]
def interned : List (Array UInt16 × Addr) := []
def slotsUsed : Nat := 42
def theMethod : MethodId := ⟨1, 1⟩
def args0 : Array Value := #[.int 5]
def aboutOver (below : List Frame) : State where
  vm := { classes := classes, interned := interned.toArray }
  heap := heap
  slotsUsed := slotsUsed
  threads := #[{ frames := .invoking theMethod args0 :: below }]
def below0 : List Frame := [.native { method := ⟨0, 0⟩, args := #[] }]
def about1 : State := aboutOver below0
def p0 : Program := .bare "" "" ""
def e0 : Env := launch0.env 0 0 0
theorem w_frames : about1.frames = Frame.invoking theMethod args0 :: below0 := rfl
set_option maxRecDepth 65536 in
theorem w_args : argsFit about1.vm theMethod args0 = true := by decide +kernel
set_option maxRecDepth 65536 in
theorem w_heap : heapFits about1 = true := by decide +kernel
set_option maxRecDepth 65536 in
theorem w_runnable : about1.curStatus? = some .runnable := by decide +kernel
set_option maxRecDepth 65536 in
theorem w_alone : about1.alone = true := by decide +kernel
set_option maxRecDepth 65536 in
theorem w_named : about1.methodNamed? x = some theMethod := by decide +kernel
set_option maxRecDepth 65536 in
theorem w_hears : about1.hears theMethod below0 = true := by decide +kernel
set_option maxRecDepth 65536 in
theorem w_ripe : about1.ripe theMethod args0 below0 = true := by decide +kernel
theorem w_running : about1.status = .running := rfl
set_option maxRecDepth 65536 in
theorem w_room : about1.hasRoom e0.platform room_1 = true :=
  launch0.hasRoom_least _ room_1 (by decide +kernel) (by decide +kernel) (by decide +kernel) (by decide +kernel) (by decide +kernel) (by decide +kernel)
theorem allAtoms_all (ts : List Jvm.Cond) (a : Array Jvm.Value) (st : Jvm.State) : (allAtoms ts).before a st = ts.all (fun c => c.before a st) := by
  induction ts with
  | nil => rfl
  | cons c t ih =>
    show (Jvm.Cond.and c (allAtoms t)).before a st = _
    rw [Jvm.Cond.before_and, ih, List.all_cons]
def words1 : List Jvm.Cond := Jvm.Cond.code x code maxLocals ret :: tables_1
/-- a 'code' word, met by the world's own term for the bytes: nothing is compared byte by byte -/
theorem code_word {y : MethodName} {bytes : ByteArray} {mx : Nat} {rt : Option FieldType} {a : Array Value} {s : State} {m : MethodId} {meth : Method} {c : Code} (h1 : s.methodNamed? y = some m) (h2 : s.vm.method? m = some meth) (h3 : meth.code = some c) (h4 : c.code = bytes)
    (h5 : (c.maxLocals == mx && c.exceptionTable.isEmpty && decide (c.maxStack ≤ mostOperands) && decide (meth.sig.returnType = rt) && !meth.locks && decide (parseMethodDescriptor y.desc = some meth.sig)) = true) : (Jvm.Cond.code y bytes mx rt).before a s = true := by
  simp only [Bool.and_eq_true, beq_iff_eq, Bool.not_eq_true', decide_eq_true_eq] at h5
  obtain ⟨⟨⟨⟨⟨g1, g2⟩, g3⟩, g4⟩, g5⟩, g6⟩ := h5
  simp [Cond.before, Cond.holds, Cond.value, h1, h2, h3, h4, g1, g2, g3, g4, g5, g6]
def isCode : Jvm.Cond → Bool
  | .code _ _ _ _ => true
  | _ => false
theorem all_split {L : List Jvm.Cond} {P : Jvm.Cond → Bool} (h1 : L.all (fun c => isCode c || P c) = true) (h2 : ∀ c ∈ L.filter isCode, P c = true) : L.all P = true := by
  refine List.all_eq_true.mpr fun c hc => ?_
  have h := List.all_eq_true.mp h1 c hc
  rcases Bool.eq_false_or_eq_true (isCode c) with hi | hi
  · exact h2 c (List.mem_filter.mpr ⟨hc, hi⟩)
  · simpa [hi] using h
set_option maxRecDepth 65536 in
theorem w_c0 : (Jvm.Cond.code x code maxLocals ret).before args0 about1 = true := code_word (m := ⟨1, 1⟩) (meth := k1m1) (c := k1c1) (by decide +kernel) rfl rfl rfl (by decide +kernel)
set_option maxRecDepth 65536 in
theorem w_c1 : (Jvm.Cond.code ({ cls := "com/example/plain_snapshot/plainsnapshot/sql/Type", name := "isOrdered", desc := "()Z" } : Jvm.MethodName) prog_146_method_10_code (1 : Nat) (Option.some Jvm.ClassFile.FieldType.boolean)).before args0 about1 = true := code_word (m := ⟨6, 0⟩) (meth := k6m0) (c := k6c0) (by decide +kernel) rfl rfl rfl (by decide +kernel)
def codes1 : List Jvm.Cond := [Jvm.Cond.code x code maxLocals ret, Jvm.Cond.code ({ cls := "com/example/plain_snapshot/plainsnapshot/sql/Type", name := "isOrdered", desc := "()Z" } : Jvm.MethodName) prog_146_method_10_code (1 : Nat) (Option.some Jvm.ClassFile.FieldType.boolean)]
set_option maxRecDepth 65536 in
theorem codes_eq : words1.filter isCode = codes1 := rfl
theorem w_codes : ∀ c ∈ words1.filter isCode, c.before args0 about1 = true := by
  rw [codes_eq]
  intro c hc
  simp only [codes1, List.mem_cons, List.not_mem_nil, or_false] at hc
  rcases hc with rfl | rfl
  · exact w_c0
  · exact w_c1
set_option maxRecDepth 65536 in
theorem w_t1 : (words1.take 24).all (fun c => isCode c || c.before args0 about1) = true := by decide +kernel
set_option maxRecDepth 65536 in
theorem w_t2 : (words1.drop 24).all (fun c => isCode c || c.before args0 about1) = true := by decide +kernel
theorem w_tables : (allAtoms (Jvm.Cond.code x code maxLocals ret :: tables_1)).before args0 about1 = true := by
  rw [allAtoms_all]
  show words1.all (fun c => c.before args0 about1) = true
  refine all_split ?_ w_codes
  rw [← List.take_append_drop 24 words1, List.all_append, w_t1, w_t2]
  rfl
set_option maxRecDepth 65536 in
theorem w_case : (Jvm.Cond.and given_1 narrow_1).before args0 about1 = true := by decide +kernel
theorem w_applies : (headSpec (Jvm.Cond.code x code maxLocals ret :: tables_1) room_1).applies x e0.platform about1 = true :=
  (Spec.applies_iff w_frames).mpr ⟨w_running, w_runnable, w_alone, w_named, w_hears, w_ripe, w_room, w_tables⟩
theorem atStart : AtStart classFile x code maxLocals ret World_1 tables_1 room_1 Calls_1 rest_1 Pre_1 launch0 p0 e0 about1 theMethod args0 below0 :=
  ⟨lists_1, trivial, launch0.admits_env _ _ _, launch0.least_env, fairChoices_fair.cas, fairChoices_fair.clock, w_frames, w_args, w_heap, w_applies, trivial, trivial, w_case⟩
end start1
theorem witness_1 : WitnessClaimed_1 := ⟨start1.p0, start1.e0, start1.about1, start1.theMethod, start1.args0, start1.below0, start1.atStart⟩
end Jvm.Pilot.@@N@@
