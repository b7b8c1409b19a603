import JvmDerived
import JvmDerived.Pilot.@@N@@Statement
import JvmDerived.Pilot.@@N@@Code
set_option linter.unusedVariables false
set_option linter.unusedSimpArgs false
namespace Jvm.RoadKit
open Sem ClassFile Op Lib Jvm.Stand Jvm.Free Jvm.LawKit
section New
variable {p : Program} {l : Launch} {e : Env} {R : Room} {s : State} {m : MethodId} {args : Array Value} {below : List Frame} {meth : Method} {c : Code} {T : State} {locs : List Loc} {cells slots : Nat}
theorem retI (X : Stand p l e R s m args below meth c T locs cells slots) (hx : p.tables.exec = Jvm.exec) {pc : Nat} {Ls : Array Slot} {z : Int32} {rest : List Value} (hret : meth.sig.returnType = some .int) (hd : decode c.code pc = .ok (.ireturn, 1)) {fs : List Frame}
    (hl : ∀ (f : JFrame) (acts : List Action), f.method = m → f.locked = none → f.entered = [] → (doReturn e (T.setTop f) acts (some (.int z))).1 = T.setFrames fs) : Steps p.tables e below (T.setTop (mkF m pc Ls (.int z :: rest))) (T.setFrames fs) := by
  have hm' : T.vm.method? m = some meth := X.method'
  have hn : narrow .int (.int z) = .int z := rfl
  show Steps p.tables e below (T.setTop { method := m, pc := pc, locals := Ls, stack := _ :: rest, locked := none }) _
  jvm_step X.here [X.here.top, hx, hd, hm', hret, hn]
  first | (intro acts; rw [hl _ acts rfl rfl rfl]) | rw [hl _ _ rfl rfl rfl]
  exact Steps.refl _
end New
end Jvm.RoadKit
namespace Jvm.Pilot.@@N@@
open Jvm Jvm.ClassFile Sem Op Lib Jvm.Free Jvm.Stand Jvm.LawKit Jvm.RoadKit Bundle Jvm.Pilot.@@N@@.Jvm.D
/-- from the state A the run comes to the frame f over T -/
abbrev Go (tb : Tables) (e : Env) (below : List Frame) (A T : State) (f : JFrame) : Prop := ∀ t, Steps tb e below (T.setTop f) t → Steps tb e below A t

theorem own_sta {args : Array Value} {s : State} {C n d K : String} {a0 : Array Value} (h : (Jvm.Cond.exactly (Term.static C n d) K).value args s none s [] = some true) (hi : (Jvm.Cond.initialized C).before args s = true) (hl : (Jvm.Cond.laysStatic C n d).before args s = true) :
    ∃ a, Sta s s.heap C n d (.ref a) ∧ Exa s s.heap a K ∧ (Term.static C n d).eval args s none [] s = some (.ref a) := by
  obtain ⟨a, e⟩ := exa_v h
  exact ⟨a, Sta.start e (Or.inr ⟨hi, hl⟩), Exa.start e h, e⟩
theorem own_fld {args : Array Value} {s : State} {t : Term} {a : Addr} {C n d : String} {z : Int32} (et : t.eval args s none [] s = some (.ref a)) (h : (Jvm.Cond.eq (Term.field t C n d) (Term.int z)).value args s none s [] = some true) : Fld s s.heap a C n d (.int z) := by
  obtain ⟨x, y, e1, e2, k1, k2⟩ := cmp_v (Or.inl h)
  cases (Term.int_eval z).symm.trans e2
  obtain ⟨u, rfl⟩ : ∃ u, x = .int u := k2
  have q : u = z := gotT (Cond.eq_ints e1 (Term.int_eval z)) h
  subst q
  simp only [Term.eval, et] at e1
  exact Fld.start e1

def own_pick (r_INT : Addr) (r_TEXT : Addr) (r_BOOLEAN : Addr) (r_XID : Addr) (r_CID : Addr) (r_TID : Addr) (r_SNAPSHOT : Addr) (r_UNKNOWN : Addr) (p : Int32) : Addr := if p = 0 then r_INT else if p = 1 then r_TEXT else if p = 2 then r_BOOLEAN else if p = 3 then r_XID else if p = 4 then r_CID else if p = 5 then r_TID else if p = 6 then r_SNAPSHOT else r_UNKNOWN
def own_fits (a b u : Addr) : Int32 := if a = b then 1 else if a = u then 1 else 0
theorem own_pick_exa {Z : State} {h : Heap} {C : String} {r_INT r_TEXT r_BOOLEAN r_XID r_CID r_TID r_SNAPSHOT r_UNKNOWN : Addr} (E_INT : Exa Z h r_INT C) (E_TEXT : Exa Z h r_TEXT C) (E_BOOLEAN : Exa Z h r_BOOLEAN C) (E_XID : Exa Z h r_XID C) (E_CID : Exa Z h r_CID C) (E_TID : Exa Z h r_TID C) (E_SNAPSHOT : Exa Z h r_SNAPSHOT C) (E_UNKNOWN : Exa Z h r_UNKNOWN C) (p : Int32) : Exa Z h (own_pick r_INT r_TEXT r_BOOLEAN r_XID r_CID r_TID r_SNAPSHOT r_UNKNOWN p) C := by
  unfold own_pick
  repeat (first | assumption | split)
theorem own_and7 (x : Int32) : (x &&& 7) = 0 ∨ (x &&& 7) = 1 ∨ (x &&& 7) = 2 ∨ (x &&& 7) = 3 ∨ (x &&& 7) = 4 ∨ (x &&& 7) = 5 ∨ (x &&& 7) = 6 ∨ (x &&& 7) = 7 := by
  have h := c_mask x 7 3 (by decide) (by decide)
  simp only [← Int32.toInt_inj, h, show (0 : Int32).toInt = 0 from rfl, show (1 : Int32).toInt = 1 from rfl, show (2 : Int32).toInt = 2 from rfl, show (3 : Int32).toInt = 3 from rfl, show (4 : Int32).toInt = 4 from rfl, show (5 : Int32).toInt = 5 from rfl, show (6 : Int32).toInt = 6 from rfl, show (7 : Int32).toInt = 7 from rfl]
  omega
theorem own_ord {Z : State} {h : Heap} {r_INT r_TEXT r_BOOLEAN r_XID r_CID r_TID r_SNAPSHOT r_UNKNOWN : Addr} (F_INT : Fld Z h r_INT "java/lang/Enum" "ordinal" "I" (.int (0 : Int32))) (F_TEXT : Fld Z h r_TEXT "java/lang/Enum" "ordinal" "I" (.int (1 : Int32))) (F_BOOLEAN : Fld Z h r_BOOLEAN "java/lang/Enum" "ordinal" "I" (.int (2 : Int32))) (F_XID : Fld Z h r_XID "java/lang/Enum" "ordinal" "I" (.int (3 : Int32))) (F_CID : Fld Z h r_CID "java/lang/Enum" "ordinal" "I" (.int (4 : Int32))) (F_TID : Fld Z h r_TID "java/lang/Enum" "ordinal" "I" (.int (5 : Int32))) (F_SNAPSHOT : Fld Z h r_SNAPSHOT "java/lang/Enum" "ordinal" "I" (.int (6 : Int32))) (F_UNKNOWN : Fld Z h r_UNKNOWN "java/lang/Enum" "ordinal" "I" (.int (7 : Int32))) (x : Int32) : Fld Z h (own_pick r_INT r_TEXT r_BOOLEAN r_XID r_CID r_TID r_SNAPSHOT r_UNKNOWN (x &&& 7)) "java/lang/Enum" "ordinal" "I" (.int (x &&& 7)) := by
  rcases own_and7 x with q | q | q | q | q | q | q | q <;> rw [q] <;> assumption
theorem own_law {Z : State} {h : Heap} {r_INT r_TEXT r_BOOLEAN r_XID r_CID r_TID r_SNAPSHOT r_UNKNOWN : Addr} (F_INT : Fld Z h r_INT "java/lang/Enum" "ordinal" "I" (.int (0 : Int32))) (F_TEXT : Fld Z h r_TEXT "java/lang/Enum" "ordinal" "I" (.int (1 : Int32))) (F_BOOLEAN : Fld Z h r_BOOLEAN "java/lang/Enum" "ordinal" "I" (.int (2 : Int32))) (F_XID : Fld Z h r_XID "java/lang/Enum" "ordinal" "I" (.int (3 : Int32))) (F_CID : Fld Z h r_CID "java/lang/Enum" "ordinal" "I" (.int (4 : Int32))) (F_TID : Fld Z h r_TID "java/lang/Enum" "ordinal" "I" (.int (5 : Int32))) (F_SNAPSHOT : Fld Z h r_SNAPSHOT "java/lang/Enum" "ordinal" "I" (.int (6 : Int32))) (F_UNKNOWN : Fld Z h r_UNKNOWN "java/lang/Enum" "ordinal" "I" (.int (7 : Int32))) (x y : Int32) : own_fits (own_pick r_INT r_TEXT r_BOOLEAN r_XID r_CID r_TID r_SNAPSHOT r_UNKNOWN (x &&& 7)) (own_pick r_INT r_TEXT r_BOOLEAN r_XID r_CID r_TID r_SNAPSHOT r_UNKNOWN (y &&& 7)) r_UNKNOWN = (if (x &&& 7) = (y &&& 7) then (1 : Int32) else (if (x &&& 7) = 7 then (1 : Int32) else (0 : Int32))) := by
  have o1 := own_ord F_INT F_TEXT F_BOOLEAN F_XID F_CID F_TID F_SNAPSHOT F_UNKNOWN x
  have o2 := own_ord F_INT F_TEXT F_BOOLEAN F_XID F_CID F_TID F_SNAPSHOT F_UNKNOWN y
  unfold own_fits
  by_cases c1 : (x &&& 7) = (y &&& 7)
  · rw [if_pos c1, if_pos (by rw [c1])]
  · rw [if_neg c1, if_neg (Fld.ne o1 o2 fun q => c1 (Value.int.inj q))]
    by_cases c2 : (x &&& 7) = 7
    · rw [if_pos c2, c2, if_pos (by rfl)]
    · rw [if_neg c2, if_neg (Fld.ne o1 F_UNKNOWN fun q => c2 (Value.int.inj q))]
theorem pd_0 : parseMethodDescriptor "(I)Lcom/example/plain_snapshot/plainsnapshot/sql/Type;" = some ⟨[.int], some (.object "com/example/plain_snapshot/plainsnapshot/sql/Type")⟩ := by decide +kernel
theorem pd_1 : parseMethodDescriptor "(Lcom/example/plain_snapshot/plainsnapshot/sql/Type;)Z" = some ⟨[(.object "com/example/plain_snapshot/plainsnapshot/sql/Type")], some .boolean⟩ := by decide +kernel
theorem d1_0 : decode method_2_code 0 = .ok (.iload_n 0, 1) := by decide +kernel
theorem d1_1 : decode method_2_code 1 = .ok (.ifCond .ne 10, 3) := by decide +kernel
theorem d1_4 : decode method_2_code 4 = .ok (.getstatic 7, 3) := by decide +kernel
theorem d1_7 : decode method_2_code 7 = .ok (.astore_n 1, 1) := by decide +kernel
theorem d1_8 : decode method_2_code 8 = .ok (.goto 80, 3) := by decide +kernel
theorem d1_11 : decode method_2_code 11 = .ok (.iload_n 0, 1) := by decide +kernel
theorem d1_12 : decode method_2_code 12 = .ok (.iconst 1, 1) := by decide +kernel
theorem d1_13 : decode method_2_code 13 = .ok (.if_icmp .ne 10, 3) := by decide +kernel
theorem d1_16 : decode method_2_code 16 = .ok (.getstatic 13, 3) := by decide +kernel
theorem d1_19 : decode method_2_code 19 = .ok (.astore_n 1, 1) := by decide +kernel
theorem d1_20 : decode method_2_code 20 = .ok (.goto 68, 3) := by decide +kernel
theorem d1_23 : decode method_2_code 23 = .ok (.iload_n 0, 1) := by decide +kernel
theorem d1_24 : decode method_2_code 24 = .ok (.iconst 2, 1) := by decide +kernel
theorem d1_25 : decode method_2_code 25 = .ok (.if_icmp .ne 10, 3) := by decide +kernel
theorem d1_28 : decode method_2_code 28 = .ok (.getstatic 16, 3) := by decide +kernel
theorem d1_31 : decode method_2_code 31 = .ok (.astore_n 1, 1) := by decide +kernel
theorem d1_32 : decode method_2_code 32 = .ok (.goto 56, 3) := by decide +kernel
theorem d1_35 : decode method_2_code 35 = .ok (.iload_n 0, 1) := by decide +kernel
theorem d1_36 : decode method_2_code 36 = .ok (.iconst 3, 1) := by decide +kernel
theorem d1_37 : decode method_2_code 37 = .ok (.if_icmp .ne 10, 3) := by decide +kernel
theorem d1_40 : decode method_2_code 40 = .ok (.getstatic 19, 3) := by decide +kernel
theorem d1_43 : decode method_2_code 43 = .ok (.astore_n 1, 1) := by decide +kernel
theorem d1_44 : decode method_2_code 44 = .ok (.goto 44, 3) := by decide +kernel
theorem d1_47 : decode method_2_code 47 = .ok (.iload_n 0, 1) := by decide +kernel
theorem d1_48 : decode method_2_code 48 = .ok (.iconst 4, 1) := by decide +kernel
theorem d1_49 : decode method_2_code 49 = .ok (.if_icmp .ne 10, 3) := by decide +kernel
theorem d1_52 : decode method_2_code 52 = .ok (.getstatic 22, 3) := by decide +kernel
theorem d1_55 : decode method_2_code 55 = .ok (.astore_n 1, 1) := by decide +kernel
theorem d1_56 : decode method_2_code 56 = .ok (.goto 32, 3) := by decide +kernel
theorem d1_59 : decode method_2_code 59 = .ok (.iload_n 0, 1) := by decide +kernel
theorem d1_60 : decode method_2_code 60 = .ok (.iconst 5, 1) := by decide +kernel
theorem d1_61 : decode method_2_code 61 = .ok (.if_icmp .ne 10, 3) := by decide +kernel
theorem d1_64 : decode method_2_code 64 = .ok (.getstatic 25, 3) := by decide +kernel
theorem d1_67 : decode method_2_code 67 = .ok (.astore_n 1, 1) := by decide +kernel
theorem d1_68 : decode method_2_code 68 = .ok (.goto 20, 3) := by decide +kernel
theorem d1_71 : decode method_2_code 71 = .ok (.iload_n 0, 1) := by decide +kernel
theorem d1_72 : decode method_2_code 72 = .ok (.bipush 6, 2) := by decide +kernel
theorem d1_74 : decode method_2_code 74 = .ok (.if_icmp .ne 10, 3) := by decide +kernel
theorem d1_77 : decode method_2_code 77 = .ok (.getstatic 28, 3) := by decide +kernel
theorem d1_80 : decode method_2_code 80 = .ok (.astore_n 1, 1) := by decide +kernel
theorem d1_81 : decode method_2_code 81 = .ok (.goto 7, 3) := by decide +kernel
theorem d1_84 : decode method_2_code 84 = .ok (.getstatic 31, 3) := by decide +kernel
theorem d1_87 : decode method_2_code 87 = .ok (.astore_n 1, 1) := by decide +kernel
theorem d1_88 : decode method_2_code 88 = .ok (.aload_n 1, 1) := by decide +kernel
theorem d1_89 : decode method_2_code 89 = .ok (.areturn, 1) := by decide +kernel
theorem pn_pick : plainName "com/example/plain_snapshot/plainsnapshot/sql/TypeFitsPinLaw" = true := by first | (simp [plainName, overriddenIn]; done) | decide +kernel
theorem ef_pick (m : MethodId) (p0 : Int32) : entryFrame m #[(.int p0)] 2 = mkF m 0 #[.val (.int p0), .unset] [] := by first | (simp [entryFrame, mkF, argsToLocals, Value.category]; done) | rfl
def Q_pick (Z : State) (p0 : Int32) (r_INT : Addr) (r_TEXT : Addr) (r_BOOLEAN : Addr) (r_XID : Addr) (r_CID : Addr) (r_TID : Addr) (r_SNAPSHOT : Addr) (r_UNKNOWN : Addr) (h0 : Heap) (n0 : Nat) (v : Option Value) (h : Heap) (L : List Loc) : Prop := v = some (.ref (own_pick r_INT r_TEXT r_BOOLEAN r_XID r_CID r_TID r_SNAPSHOT r_UNKNOWN p0)) ∧ Fr n0 L ∧ h = h0
set_option maxRecDepth 65536 in
set_option maxHeartbeats 40000000 in
theorem rm_pick (l : Launch) (Z : State) (a0 : Array Value) (hw : ∀ d ∈ tables_1, d.before a0 Z = true) (ws : List Jvm.Cond) (p0 : Int32) (r_INT : Addr) (r_TEXT : Addr) (r_BOOLEAN : Addr) (r_XID : Addr) (r_CID : Addr) (r_TID : Addr) (r_SNAPSHOT : Addr) (r_UNKNOWN : Addr) (h0 : Heap) (n0 : Nat) (S_INT : Sta Z h0 "com/example/plain_snapshot/plainsnapshot/sql/Type" "INT" "Lcom/example/plain_snapshot/plainsnapshot/sql/Type;" (.ref r_INT)) (S_TEXT : Sta Z h0 "com/example/plain_snapshot/plainsnapshot/sql/Type" "TEXT" "Lcom/example/plain_snapshot/plainsnapshot/sql/Type;" (.ref r_TEXT)) (S_BOOLEAN : Sta Z h0 "com/example/plain_snapshot/plainsnapshot/sql/Type" "BOOLEAN" "Lcom/example/plain_snapshot/plainsnapshot/sql/Type;" (.ref r_BOOLEAN)) (S_XID : Sta Z h0 "com/example/plain_snapshot/plainsnapshot/sql/Type" "XID" "Lcom/example/plain_snapshot/plainsnapshot/sql/Type;" (.ref r_XID)) (S_CID : Sta Z h0 "com/example/plain_snapshot/plainsnapshot/sql/Type" "CID" "Lcom/example/plain_snapshot/plainsnapshot/sql/Type;" (.ref r_CID)) (S_TID : Sta Z h0 "com/example/plain_snapshot/plainsnapshot/sql/Type" "TID" "Lcom/example/plain_snapshot/plainsnapshot/sql/Type;" (.ref r_TID)) (S_SNAPSHOT : Sta Z h0 "com/example/plain_snapshot/plainsnapshot/sql/Type" "SNAPSHOT" "Lcom/example/plain_snapshot/plainsnapshot/sql/Type;" (.ref r_SNAPSHOT)) (S_UNKNOWN : Sta Z h0 "com/example/plain_snapshot/plainsnapshot/sql/Type" "UNKNOWN" "Lcom/example/plain_snapshot/plainsnapshot/sql/Type;" (.ref r_UNKNOWN)) :
    MetFree l (⟨"com/example/plain_snapshot/plainsnapshot/sql/TypeFitsPinLaw", "pick", "(I)Lcom/example/plain_snapshot/plainsnapshot/sql/Type;"⟩ : MethodName) (head1 (Jvm.Cond.code (⟨"com/example/plain_snapshot/plainsnapshot/sql/TypeFitsPinLaw", "pick", "(I)Lcom/example/plain_snapshot/plainsnapshot/sql/Type;"⟩ : MethodName) method_2_code 2 (some (.object "com/example/plain_snapshot/plainsnapshot/sql/Type")) :: ws) ({ frames := 0, cells := 0, slots := 0, locals := 0 } : Room)) (fun a U => a = #[(.int p0)] ∧ Z.Warmed39 U.vm ∧ U.heap = h0) (fun _ _ _ _ _ => True) (fun _ U o U' => ∃ v L, o = .returned v ∧ Q_pick Z p0 r_INT r_TEXT r_BOOLEAN r_XID r_CID r_TID r_SNAPSHOT r_UNKNOWN h0 n0 v U'.heap L ∧ FrameEnd U o U' L ({ frames := 0, cells := 0, slots := 0, locals := 0 } : Room).cells ({ frames := 0, cells := 0, slots := 0, locals := 0 } : Room).slots) := by
  refine MetFree.of_bodySF (plainFor_of_name pn_pick) hisR ?_
  intro p e s m args below meth c s₁ Bd hml0 hP hK
  obtain ⟨rfl, hZ, hh⟩ := hP
  have hx := Bd.exec
  have hby := Bd.bytes
  have hml : c.maxLocals = 2 := hml0
  have hown : s.vm.findClass "com/example/plain_snapshot/plainsnapshot/sql/TypeFitsPinLaw" = some m.cls := findClass_of_methodNamed Bd.named
  have hnm := (name_of_methodNamed Bd.named Bd.method).1
  have X0 : Stand p l e ({ frames := 0, cells := 0, slots := 0, locals := 0 } : Room) s m #[(.int p0)] below meth c s₁ [] 0 0 := Stand.of_body Bd
  have e0 : s₁.heap = h0 := by rw [← hh, Bd.state]; rfl
  have N0 := Fr.nil n0
  have pre0 : Go p.tables e below (s₁.setTop (entryFrame m #[(.int p0)] 2)) s₁ (mkF m 0 #[.val (.int p0), .unset] []) := fun t k => castTop (ef_pick m p0) k
  have pre1 : Go p.tables e below (s₁.setTop (entryFrame m #[(.int p0)] 2)) s₁ (mkF m 1 #[.val (.int p0), .unset] [(.int p0)]) := fun t k => pre0 t (by
      refine XS.iloadN X0.here hx rfl (hb hby d1_0) rfl ?_
      exact k)
  by_cases hc2 : p0 = (0 : Int32)
  · -- hc2: True
    have pre3 : Go p.tables e below (s₁.setTop (entryFrame m #[(.int p0)] 2)) s₁ (mkF m 4 #[.val (.int p0), .unset] []) := fun t k => pre1 t (by
        refine XS.ifNo X0.here hx rfl (hb hby d1_1) rfl ((if0 _ _).trans (teq hc2).2) ?_
        exact k)
    obtain ⟨T4, X4, e4, st4⟩ := getS2 X0 hx hZ hown (host := "") (Or.inl (hw _ (List.mem_of_getElem? (i := 4) rfl))) Via.refl e0 S_INT (g := (mkF m 4 #[.val (.int p0), .unset] [])) rfl (hb hby d1_4)
    have pre4 : Go p.tables e below (s₁.setTop (entryFrame m #[(.int p0)] 2)) T4 (mkF m 7 #[.val (.int p0), .unset] [(.ref r_INT)]) := fun t k => pre3 t (st4 _ k)
    have pre5 : Go p.tables e below (s₁.setTop (entryFrame m #[(.int p0)] 2)) T4 (mkF m 89 #[.val (.int p0), .val (.ref r_INT)] [(.ref r_INT)]) := fun t k => pre4 t (by
        refine XS.astoreN X4.here hx rfl (hb hby d1_7) rfl rfl (l' := #[.val (.int p0), .val (.ref r_INT)]) rfl ?_
        show Steps p.tables e below (T4.setTop (mkF m 8 #[.val (.int p0), .val (.ref r_INT)] [])) _
        refine XS.goto X4.here hx rfl (pc0 := 8) (pc' := 88) rfl (hb hby d1_8) (by decide) (by decide) ?_
        show Steps p.tables e below (T4.setTop (mkF m 88 #[.val (.int p0), .val (.ref r_INT)] [])) _
        refine XS.aloadN X4.here hx rfl (hb hby d1_88) rfl rfl ?_
        exact k)
    obtain ⟨fs, hr, hrun, hended, hW, hsame⟩ := X4.leave (v := some (.ref r_INT)) (fun h => by rw [Bd.returns] at h; cases h) (BodyLoose.notSynchronized Bd)
    refine ⟨_, _, pre5 _ ?_, hrun, hended, _, _, rfl, ?_, ⟨_, rfl⟩, hW, hsame.mono (Nat.le_of_ble_eq_true rfl) (Nat.le_of_ble_eq_true rfl)⟩
    · exact retOut X4 hx Bd.returns rfl (Or.inr (Or.inr (Or.inr (Or.inr ⟨rfl, rfl, rfl⟩)))) (hb hby d1_89) hr
    · show Q_pick Z p0 r_INT r_TEXT r_BOOLEAN r_XID r_CID r_TID r_SNAPSHOT r_UNKNOWN h0 n0 _ T4.heap _
      rw [e4]
      exact ⟨by simp [own_pick, hc2], N0, rfl⟩
  · -- hc2: False
    have pre6 : Go p.tables e below (s₁.setTop (entryFrame m #[(.int p0)] 2)) s₁ (mkF m 13 #[.val (.int p0), .unset] [(.int (1 : Int32)), (.int p0)]) := fun t k => pre1 t (by
        refine XS.ifYes X0.here hx rfl (pc0 := 1) (pc' := 11) rfl (hb hby d1_1) rfl ((if0 _ _).trans (feq hc2).2) (by decide) (by decide) ?_
        show Steps p.tables e below (s₁.setTop (mkF m 11 #[.val (.int p0), .unset] [])) _
        refine XS.iloadN X0.here hx rfl (hb hby d1_11) rfl ?_
        show Steps p.tables e below (s₁.setTop (mkF m 12 #[.val (.int p0), .unset] [(.int p0)])) _
        refine XS.iconst X0.here hx rfl (hb hby d1_12) ?_
        exact k)
    by_cases hc7 : p0 = (1 : Int32)
    · -- hc7: True
      have pre8 : Go p.tables e below (s₁.setTop (entryFrame m #[(.int p0)] 2)) s₁ (mkF m 16 #[.val (.int p0), .unset] []) := fun t k => pre6 t (by
          refine XS.icmpNo X0.here hx rfl (hb hby d1_13) rfl (teq hc7).2 ?_
          exact k)
      obtain ⟨T9, X9, e9, st9⟩ := getS2 X0 hx hZ hown (host := "") (Or.inl (hw _ (List.mem_of_getElem? (i := 18) rfl))) Via.refl e0 S_TEXT (g := (mkF m 16 #[.val (.int p0), .unset] [])) rfl (hb hby d1_16)
      have pre9 : Go p.tables e below (s₁.setTop (entryFrame m #[(.int p0)] 2)) T9 (mkF m 19 #[.val (.int p0), .unset] [(.ref r_TEXT)]) := fun t k => pre8 t (st9 _ k)
      have pre10 : Go p.tables e below (s₁.setTop (entryFrame m #[(.int p0)] 2)) T9 (mkF m 89 #[.val (.int p0), .val (.ref r_TEXT)] [(.ref r_TEXT)]) := fun t k => pre9 t (by
          refine XS.astoreN X9.here hx rfl (hb hby d1_19) rfl rfl (l' := #[.val (.int p0), .val (.ref r_TEXT)]) rfl ?_
          show Steps p.tables e below (T9.setTop (mkF m 20 #[.val (.int p0), .val (.ref r_TEXT)] [])) _
          refine XS.goto X9.here hx rfl (pc0 := 20) (pc' := 88) rfl (hb hby d1_20) (by decide) (by decide) ?_
          show Steps p.tables e below (T9.setTop (mkF m 88 #[.val (.int p0), .val (.ref r_TEXT)] [])) _
          refine XS.aloadN X9.here hx rfl (hb hby d1_88) rfl rfl ?_
          exact k)
      obtain ⟨fs, hr, hrun, hended, hW, hsame⟩ := X9.leave (v := some (.ref r_TEXT)) (fun h => by rw [Bd.returns] at h; cases h) (BodyLoose.notSynchronized Bd)
      refine ⟨_, _, pre10 _ ?_, hrun, hended, _, _, rfl, ?_, ⟨_, rfl⟩, hW, hsame.mono (Nat.le_of_ble_eq_true rfl) (Nat.le_of_ble_eq_true rfl)⟩
      · exact retOut X9 hx Bd.returns rfl (Or.inr (Or.inr (Or.inr (Or.inr ⟨rfl, rfl, rfl⟩)))) (hb hby d1_89) hr
      · show Q_pick Z p0 r_INT r_TEXT r_BOOLEAN r_XID r_CID r_TID r_SNAPSHOT r_UNKNOWN h0 n0 _ T9.heap _
        rw [e9]
        exact ⟨by simp [own_pick, hc2, hc7], N0, rfl⟩
    · -- hc7: False
      have pre11 : Go p.tables e below (s₁.setTop (entryFrame m #[(.int p0)] 2)) s₁ (mkF m 25 #[.val (.int p0), .unset] [(.int (2 : Int32)), (.int p0)]) := fun t k => pre6 t (by
          refine XS.icmpYes X0.here hx rfl (pc0 := 13) (pc' := 23) rfl (hb hby d1_13) rfl (feq hc7).2 (by decide) (by decide) ?_
          show Steps p.tables e below (s₁.setTop (mkF m 23 #[.val (.int p0), .unset] [])) _
          refine XS.iloadN X0.here hx rfl (hb hby d1_23) rfl ?_
          show Steps p.tables e below (s₁.setTop (mkF m 24 #[.val (.int p0), .unset] [(.int p0)])) _
          refine XS.iconst X0.here hx rfl (hb hby d1_24) ?_
          exact k)
      by_cases hc12 : p0 = (2 : Int32)
      · -- hc12: True
        have pre13 : Go p.tables e below (s₁.setTop (entryFrame m #[(.int p0)] 2)) s₁ (mkF m 28 #[.val (.int p0), .unset] []) := fun t k => pre11 t (by
            refine XS.icmpNo X0.here hx rfl (hb hby d1_25) rfl (teq hc12).2 ?_
            exact k)
        obtain ⟨T14, X14, e14, st14⟩ := getS2 X0 hx hZ hown (host := "") (Or.inl (hw _ (List.mem_of_getElem? (i := 25) rfl))) Via.refl e0 S_BOOLEAN (g := (mkF m 28 #[.val (.int p0), .unset] [])) rfl (hb hby d1_28)
        have pre14 : Go p.tables e below (s₁.setTop (entryFrame m #[(.int p0)] 2)) T14 (mkF m 31 #[.val (.int p0), .unset] [(.ref r_BOOLEAN)]) := fun t k => pre13 t (st14 _ k)
        have pre15 : Go p.tables e below (s₁.setTop (entryFrame m #[(.int p0)] 2)) T14 (mkF m 89 #[.val (.int p0), .val (.ref r_BOOLEAN)] [(.ref r_BOOLEAN)]) := fun t k => pre14 t (by
            refine XS.astoreN X14.here hx rfl (hb hby d1_31) rfl rfl (l' := #[.val (.int p0), .val (.ref r_BOOLEAN)]) rfl ?_
            show Steps p.tables e below (T14.setTop (mkF m 32 #[.val (.int p0), .val (.ref r_BOOLEAN)] [])) _
            refine XS.goto X14.here hx rfl (pc0 := 32) (pc' := 88) rfl (hb hby d1_32) (by decide) (by decide) ?_
            show Steps p.tables e below (T14.setTop (mkF m 88 #[.val (.int p0), .val (.ref r_BOOLEAN)] [])) _
            refine XS.aloadN X14.here hx rfl (hb hby d1_88) rfl rfl ?_
            exact k)
        obtain ⟨fs, hr, hrun, hended, hW, hsame⟩ := X14.leave (v := some (.ref r_BOOLEAN)) (fun h => by rw [Bd.returns] at h; cases h) (BodyLoose.notSynchronized Bd)
        refine ⟨_, _, pre15 _ ?_, hrun, hended, _, _, rfl, ?_, ⟨_, rfl⟩, hW, hsame.mono (Nat.le_of_ble_eq_true rfl) (Nat.le_of_ble_eq_true rfl)⟩
        · exact retOut X14 hx Bd.returns rfl (Or.inr (Or.inr (Or.inr (Or.inr ⟨rfl, rfl, rfl⟩)))) (hb hby d1_89) hr
        · show Q_pick Z p0 r_INT r_TEXT r_BOOLEAN r_XID r_CID r_TID r_SNAPSHOT r_UNKNOWN h0 n0 _ T14.heap _
          rw [e14]
          exact ⟨by simp [own_pick, hc2, hc7, hc12], N0, rfl⟩
      · -- hc12: False
        have pre16 : Go p.tables e below (s₁.setTop (entryFrame m #[(.int p0)] 2)) s₁ (mkF m 37 #[.val (.int p0), .unset] [(.int (3 : Int32)), (.int p0)]) := fun t k => pre11 t (by
            refine XS.icmpYes X0.here hx rfl (pc0 := 25) (pc' := 35) rfl (hb hby d1_25) rfl (feq hc12).2 (by decide) (by decide) ?_
            show Steps p.tables e below (s₁.setTop (mkF m 35 #[.val (.int p0), .unset] [])) _
            refine XS.iloadN X0.here hx rfl (hb hby d1_35) rfl ?_
            show Steps p.tables e below (s₁.setTop (mkF m 36 #[.val (.int p0), .unset] [(.int p0)])) _
            refine XS.iconst X0.here hx rfl (hb hby d1_36) ?_
            exact k)
        by_cases hc17 : p0 = (3 : Int32)
        · -- hc17: True
          have pre18 : Go p.tables e below (s₁.setTop (entryFrame m #[(.int p0)] 2)) s₁ (mkF m 40 #[.val (.int p0), .unset] []) := fun t k => pre16 t (by
              refine XS.icmpNo X0.here hx rfl (hb hby d1_37) rfl (teq hc17).2 ?_
              exact k)
          obtain ⟨T19, X19, e19, st19⟩ := getS2 X0 hx hZ hown (host := "") (Or.inl (hw _ (List.mem_of_getElem? (i := 7) rfl))) Via.refl e0 S_XID (g := (mkF m 40 #[.val (.int p0), .unset] [])) rfl (hb hby d1_40)
          have pre19 : Go p.tables e below (s₁.setTop (entryFrame m #[(.int p0)] 2)) T19 (mkF m 43 #[.val (.int p0), .unset] [(.ref r_XID)]) := fun t k => pre18 t (st19 _ k)
          have pre20 : Go p.tables e below (s₁.setTop (entryFrame m #[(.int p0)] 2)) T19 (mkF m 89 #[.val (.int p0), .val (.ref r_XID)] [(.ref r_XID)]) := fun t k => pre19 t (by
              refine XS.astoreN X19.here hx rfl (hb hby d1_43) rfl rfl (l' := #[.val (.int p0), .val (.ref r_XID)]) rfl ?_
              show Steps p.tables e below (T19.setTop (mkF m 44 #[.val (.int p0), .val (.ref r_XID)] [])) _
              refine XS.goto X19.here hx rfl (pc0 := 44) (pc' := 88) rfl (hb hby d1_44) (by decide) (by decide) ?_
              show Steps p.tables e below (T19.setTop (mkF m 88 #[.val (.int p0), .val (.ref r_XID)] [])) _
              refine XS.aloadN X19.here hx rfl (hb hby d1_88) rfl rfl ?_
              exact k)
          obtain ⟨fs, hr, hrun, hended, hW, hsame⟩ := X19.leave (v := some (.ref r_XID)) (fun h => by rw [Bd.returns] at h; cases h) (BodyLoose.notSynchronized Bd)
          refine ⟨_, _, pre20 _ ?_, hrun, hended, _, _, rfl, ?_, ⟨_, rfl⟩, hW, hsame.mono (Nat.le_of_ble_eq_true rfl) (Nat.le_of_ble_eq_true rfl)⟩
          · exact retOut X19 hx Bd.returns rfl (Or.inr (Or.inr (Or.inr (Or.inr ⟨rfl, rfl, rfl⟩)))) (hb hby d1_89) hr
          · show Q_pick Z p0 r_INT r_TEXT r_BOOLEAN r_XID r_CID r_TID r_SNAPSHOT r_UNKNOWN h0 n0 _ T19.heap _
            rw [e19]
            exact ⟨by simp [own_pick, hc2, hc7, hc12, hc17], N0, rfl⟩
        · -- hc17: False
          have pre21 : Go p.tables e below (s₁.setTop (entryFrame m #[(.int p0)] 2)) s₁ (mkF m 49 #[.val (.int p0), .unset] [(.int (4 : Int32)), (.int p0)]) := fun t k => pre16 t (by
              refine XS.icmpYes X0.here hx rfl (pc0 := 37) (pc' := 47) rfl (hb hby d1_37) rfl (feq hc17).2 (by decide) (by decide) ?_
              show Steps p.tables e below (s₁.setTop (mkF m 47 #[.val (.int p0), .unset] [])) _
              refine XS.iloadN X0.here hx rfl (hb hby d1_47) rfl ?_
              show Steps p.tables e below (s₁.setTop (mkF m 48 #[.val (.int p0), .unset] [(.int p0)])) _
              refine XS.iconst X0.here hx rfl (hb hby d1_48) ?_
              exact k)
          by_cases hc22 : p0 = (4 : Int32)
          · -- hc22: True
            have pre23 : Go p.tables e below (s₁.setTop (entryFrame m #[(.int p0)] 2)) s₁ (mkF m 52 #[.val (.int p0), .unset] []) := fun t k => pre21 t (by
                refine XS.icmpNo X0.here hx rfl (hb hby d1_49) rfl (teq hc22).2 ?_
                exact k)
            obtain ⟨T24, X24, e24, st24⟩ := getS2 X0 hx hZ hown (host := "") (Or.inl (hw _ (List.mem_of_getElem? (i := 20) rfl))) Via.refl e0 S_CID (g := (mkF m 52 #[.val (.int p0), .unset] [])) rfl (hb hby d1_52)
            have pre24 : Go p.tables e below (s₁.setTop (entryFrame m #[(.int p0)] 2)) T24 (mkF m 55 #[.val (.int p0), .unset] [(.ref r_CID)]) := fun t k => pre23 t (st24 _ k)
            have pre25 : Go p.tables e below (s₁.setTop (entryFrame m #[(.int p0)] 2)) T24 (mkF m 89 #[.val (.int p0), .val (.ref r_CID)] [(.ref r_CID)]) := fun t k => pre24 t (by
                refine XS.astoreN X24.here hx rfl (hb hby d1_55) rfl rfl (l' := #[.val (.int p0), .val (.ref r_CID)]) rfl ?_
                show Steps p.tables e below (T24.setTop (mkF m 56 #[.val (.int p0), .val (.ref r_CID)] [])) _
                refine XS.goto X24.here hx rfl (pc0 := 56) (pc' := 88) rfl (hb hby d1_56) (by decide) (by decide) ?_
                show Steps p.tables e below (T24.setTop (mkF m 88 #[.val (.int p0), .val (.ref r_CID)] [])) _
                refine XS.aloadN X24.here hx rfl (hb hby d1_88) rfl rfl ?_
                exact k)
            obtain ⟨fs, hr, hrun, hended, hW, hsame⟩ := X24.leave (v := some (.ref r_CID)) (fun h => by rw [Bd.returns] at h; cases h) (BodyLoose.notSynchronized Bd)
            refine ⟨_, _, pre25 _ ?_, hrun, hended, _, _, rfl, ?_, ⟨_, rfl⟩, hW, hsame.mono (Nat.le_of_ble_eq_true rfl) (Nat.le_of_ble_eq_true rfl)⟩
            · exact retOut X24 hx Bd.returns rfl (Or.inr (Or.inr (Or.inr (Or.inr ⟨rfl, rfl, rfl⟩)))) (hb hby d1_89) hr
            · show Q_pick Z p0 r_INT r_TEXT r_BOOLEAN r_XID r_CID r_TID r_SNAPSHOT r_UNKNOWN h0 n0 _ T24.heap _
              rw [e24]
              exact ⟨by simp [own_pick, hc2, hc7, hc12, hc17, hc22], N0, rfl⟩
          · -- hc22: False
            have pre26 : Go p.tables e below (s₁.setTop (entryFrame m #[(.int p0)] 2)) s₁ (mkF m 61 #[.val (.int p0), .unset] [(.int (5 : Int32)), (.int p0)]) := fun t k => pre21 t (by
                refine XS.icmpYes X0.here hx rfl (pc0 := 49) (pc' := 59) rfl (hb hby d1_49) rfl (feq hc22).2 (by decide) (by decide) ?_
                show Steps p.tables e below (s₁.setTop (mkF m 59 #[.val (.int p0), .unset] [])) _
                refine XS.iloadN X0.here hx rfl (hb hby d1_59) rfl ?_
                show Steps p.tables e below (s₁.setTop (mkF m 60 #[.val (.int p0), .unset] [(.int p0)])) _
                refine XS.iconst X0.here hx rfl (hb hby d1_60) ?_
                exact k)
            by_cases hc27 : p0 = (5 : Int32)
            · -- hc27: True
              have pre28 : Go p.tables e below (s₁.setTop (entryFrame m #[(.int p0)] 2)) s₁ (mkF m 64 #[.val (.int p0), .unset] []) := fun t k => pre26 t (by
                  refine XS.icmpNo X0.here hx rfl (hb hby d1_61) rfl (teq hc27).2 ?_
                  exact k)
              obtain ⟨T29, X29, e29, st29⟩ := getS2 X0 hx hZ hown (host := "") (Or.inl (hw _ (List.mem_of_getElem? (i := 22) rfl))) Via.refl e0 S_TID (g := (mkF m 64 #[.val (.int p0), .unset] [])) rfl (hb hby d1_64)
              have pre29 : Go p.tables e below (s₁.setTop (entryFrame m #[(.int p0)] 2)) T29 (mkF m 67 #[.val (.int p0), .unset] [(.ref r_TID)]) := fun t k => pre28 t (st29 _ k)
              have pre30 : Go p.tables e below (s₁.setTop (entryFrame m #[(.int p0)] 2)) T29 (mkF m 89 #[.val (.int p0), .val (.ref r_TID)] [(.ref r_TID)]) := fun t k => pre29 t (by
                  refine XS.astoreN X29.here hx rfl (hb hby d1_67) rfl rfl (l' := #[.val (.int p0), .val (.ref r_TID)]) rfl ?_
                  show Steps p.tables e below (T29.setTop (mkF m 68 #[.val (.int p0), .val (.ref r_TID)] [])) _
                  refine XS.goto X29.here hx rfl (pc0 := 68) (pc' := 88) rfl (hb hby d1_68) (by decide) (by decide) ?_
                  show Steps p.tables e below (T29.setTop (mkF m 88 #[.val (.int p0), .val (.ref r_TID)] [])) _
                  refine XS.aloadN X29.here hx rfl (hb hby d1_88) rfl rfl ?_
                  exact k)
              obtain ⟨fs, hr, hrun, hended, hW, hsame⟩ := X29.leave (v := some (.ref r_TID)) (fun h => by rw [Bd.returns] at h; cases h) (BodyLoose.notSynchronized Bd)
              refine ⟨_, _, pre30 _ ?_, hrun, hended, _, _, rfl, ?_, ⟨_, rfl⟩, hW, hsame.mono (Nat.le_of_ble_eq_true rfl) (Nat.le_of_ble_eq_true rfl)⟩
              · exact retOut X29 hx Bd.returns rfl (Or.inr (Or.inr (Or.inr (Or.inr ⟨rfl, rfl, rfl⟩)))) (hb hby d1_89) hr
              · show Q_pick Z p0 r_INT r_TEXT r_BOOLEAN r_XID r_CID r_TID r_SNAPSHOT r_UNKNOWN h0 n0 _ T29.heap _
                rw [e29]
                exact ⟨by simp [own_pick, hc2, hc7, hc12, hc17, hc22, hc27], N0, rfl⟩
            · -- hc27: False
              have pre31 : Go p.tables e below (s₁.setTop (entryFrame m #[(.int p0)] 2)) s₁ (mkF m 74 #[.val (.int p0), .unset] [(.int (6 : Int32)), (.int p0)]) := fun t k => pre26 t (by
                  refine XS.icmpYes X0.here hx rfl (pc0 := 61) (pc' := 71) rfl (hb hby d1_61) rfl (feq hc27).2 (by decide) (by decide) ?_
                  show Steps p.tables e below (s₁.setTop (mkF m 71 #[.val (.int p0), .unset] [])) _
                  refine XS.iloadN X0.here hx rfl (hb hby d1_71) rfl ?_
                  show Steps p.tables e below (s₁.setTop (mkF m 72 #[.val (.int p0), .unset] [(.int p0)])) _
                  refine XS.bipush X0.here hx rfl (hb hby d1_72) ?_
                  exact k)
              by_cases hc32 : p0 = (6 : Int32)
              · -- hc32: True
                have pre33 : Go p.tables e below (s₁.setTop (entryFrame m #[(.int p0)] 2)) s₁ (mkF m 77 #[.val (.int p0), .unset] []) := fun t k => pre31 t (by
                    refine XS.icmpNo X0.here hx rfl (hb hby d1_74) rfl (teq hc32).2 ?_
                    exact k)
                obtain ⟨T34, X34, e34, st34⟩ := getS2 X0 hx hZ hown (host := "") (Or.inl (hw _ (List.mem_of_getElem? (i := 16) rfl))) Via.refl e0 S_SNAPSHOT (g := (mkF m 77 #[.val (.int p0), .unset] [])) rfl (hb hby d1_77)
                have pre34 : Go p.tables e below (s₁.setTop (entryFrame m #[(.int p0)] 2)) T34 (mkF m 80 #[.val (.int p0), .unset] [(.ref r_SNAPSHOT)]) := fun t k => pre33 t (st34 _ k)
                have pre35 : Go p.tables e below (s₁.setTop (entryFrame m #[(.int p0)] 2)) T34 (mkF m 89 #[.val (.int p0), .val (.ref r_SNAPSHOT)] [(.ref r_SNAPSHOT)]) := fun t k => pre34 t (by
                    refine XS.astoreN X34.here hx rfl (hb hby d1_80) rfl rfl (l' := #[.val (.int p0), .val (.ref r_SNAPSHOT)]) rfl ?_
                    show Steps p.tables e below (T34.setTop (mkF m 81 #[.val (.int p0), .val (.ref r_SNAPSHOT)] [])) _
                    refine XS.goto X34.here hx rfl (pc0 := 81) (pc' := 88) rfl (hb hby d1_81) (by decide) (by decide) ?_
                    show Steps p.tables e below (T34.setTop (mkF m 88 #[.val (.int p0), .val (.ref r_SNAPSHOT)] [])) _
                    refine XS.aloadN X34.here hx rfl (hb hby d1_88) rfl rfl ?_
                    exact k)
                obtain ⟨fs, hr, hrun, hended, hW, hsame⟩ := X34.leave (v := some (.ref r_SNAPSHOT)) (fun h => by rw [Bd.returns] at h; cases h) (BodyLoose.notSynchronized Bd)
                refine ⟨_, _, pre35 _ ?_, hrun, hended, _, _, rfl, ?_, ⟨_, rfl⟩, hW, hsame.mono (Nat.le_of_ble_eq_true rfl) (Nat.le_of_ble_eq_true rfl)⟩
                · exact retOut X34 hx Bd.returns rfl (Or.inr (Or.inr (Or.inr (Or.inr ⟨rfl, rfl, rfl⟩)))) (hb hby d1_89) hr
                · show Q_pick Z p0 r_INT r_TEXT r_BOOLEAN r_XID r_CID r_TID r_SNAPSHOT r_UNKNOWN h0 n0 _ T34.heap _
                  rw [e34]
                  exact ⟨by simp [own_pick, hc2, hc7, hc12, hc17, hc22, hc27, hc32], N0, rfl⟩
              · -- hc32: False
                have pre36 : Go p.tables e below (s₁.setTop (entryFrame m #[(.int p0)] 2)) s₁ (mkF m 84 #[.val (.int p0), .unset] []) := fun t k => pre31 t (by
                    refine XS.icmpYes X0.here hx rfl (pc0 := 74) (pc' := 84) rfl (hb hby d1_74) rfl (feq hc32).2 (by decide) (by decide) ?_
                    exact k)
                obtain ⟨T37, X37, e37, st37⟩ := getS2 X0 hx hZ hown (host := "") (Or.inl (hw _ (List.mem_of_getElem? (i := 24) rfl))) Via.refl e0 S_UNKNOWN (g := (mkF m 84 #[.val (.int p0), .unset] [])) rfl (hb hby d1_84)
                have pre37 : Go p.tables e below (s₁.setTop (entryFrame m #[(.int p0)] 2)) T37 (mkF m 87 #[.val (.int p0), .unset] [(.ref r_UNKNOWN)]) := fun t k => pre36 t (st37 _ k)
                have pre38 : Go p.tables e below (s₁.setTop (entryFrame m #[(.int p0)] 2)) T37 (mkF m 89 #[.val (.int p0), .val (.ref r_UNKNOWN)] [(.ref r_UNKNOWN)]) := fun t k => pre37 t (by
                    refine XS.astoreN X37.here hx rfl (hb hby d1_87) rfl rfl (l' := #[.val (.int p0), .val (.ref r_UNKNOWN)]) rfl ?_
                    show Steps p.tables e below (T37.setTop (mkF m 88 #[.val (.int p0), .val (.ref r_UNKNOWN)] [])) _
                    refine XS.aloadN X37.here hx rfl (hb hby d1_88) rfl rfl ?_
                    exact k)
                obtain ⟨fs, hr, hrun, hended, hW, hsame⟩ := X37.leave (v := some (.ref r_UNKNOWN)) (fun h => by rw [Bd.returns] at h; cases h) (BodyLoose.notSynchronized Bd)
                refine ⟨_, _, pre38 _ ?_, hrun, hended, _, _, rfl, ?_, ⟨_, rfl⟩, hW, hsame.mono (Nat.le_of_ble_eq_true rfl) (Nat.le_of_ble_eq_true rfl)⟩
                · exact retOut X37 hx Bd.returns rfl (Or.inr (Or.inr (Or.inr (Or.inr ⟨rfl, rfl, rfl⟩)))) (hb hby d1_89) hr
                · show Q_pick Z p0 r_INT r_TEXT r_BOOLEAN r_XID r_CID r_TID r_SNAPSHOT r_UNKNOWN h0 n0 _ T37.heap _
                  rw [e37]
                  exact ⟨by simp [own_pick, hc2, hc7, hc12, hc17, hc22, hc27, hc32], N0, rfl⟩
theorem d2_0 : decode prog_146_method_8_code 0 = .ok (.aload_n 0, 1) := by decide +kernel
theorem d2_1 : decode prog_146_method_8_code 1 = .ok (.aload_n 1, 1) := by decide +kernel
theorem d2_2 : decode prog_146_method_8_code 2 = .ok (.if_acmp .eq 10, 3) := by decide +kernel
theorem d2_5 : decode prog_146_method_8_code 5 = .ok (.aload_n 0, 1) := by decide +kernel
theorem d2_6 : decode prog_146_method_8_code 6 = .ok (.getstatic 25, 3) := by decide +kernel
theorem d2_9 : decode prog_146_method_8_code 9 = .ok (.if_acmp .ne 7, 3) := by decide +kernel
theorem d2_12 : decode prog_146_method_8_code 12 = .ok (.iconst 1, 1) := by decide +kernel
theorem d2_13 : decode prog_146_method_8_code 13 = .ok (.goto 4, 3) := by decide +kernel
theorem d2_16 : decode prog_146_method_8_code 16 = .ok (.iconst 0, 1) := by decide +kernel
theorem d2_17 : decode prog_146_method_8_code 17 = .ok (.ireturn, 1) := by decide +kernel
theorem pn_fits : plainName "com/example/plain_snapshot/plainsnapshot/sql/Type" = true := by first | (simp [plainName, overriddenIn]; done) | decide +kernel
theorem ef_fits (m : MethodId) (a0 : Addr) (a1 : Addr) : entryFrame m #[(.ref a0), (.ref a1)] 2 = mkF m 0 #[.val (.ref a0), .val (.ref a1)] [] := by first | (simp [entryFrame, mkF, argsToLocals, Value.category]; done) | rfl
def Q_fits (Z : State) (a0 : Addr) (a1 : Addr) (r_UNKNOWN : Addr) (h0 : Heap) (n0 : Nat) (v : Option Value) (h : Heap) (L : List Loc) : Prop := v = some (.int (own_fits a0 a1 r_UNKNOWN)) ∧ Fr n0 L ∧ h = h0
set_option maxRecDepth 65536 in
set_option maxHeartbeats 40000000 in
theorem rm_fits (l : Launch) (Z : State) (a0 : Array Value) (hw : ∀ d ∈ tables_1, d.before a0 Z = true) (ws : List Jvm.Cond) (a0 : Addr) (a1 : Addr) (r_UNKNOWN : Addr) (h0 : Heap) (n0 : Nat) (S_UNKNOWN : Sta Z h0 "com/example/plain_snapshot/plainsnapshot/sql/Type" "UNKNOWN" "Lcom/example/plain_snapshot/plainsnapshot/sql/Type;" (.ref r_UNKNOWN)) :
    MetFree l (⟨"com/example/plain_snapshot/plainsnapshot/sql/Type", "fits", "(Lcom/example/plain_snapshot/plainsnapshot/sql/Type;)Z"⟩ : MethodName) (head1 (Jvm.Cond.code (⟨"com/example/plain_snapshot/plainsnapshot/sql/Type", "fits", "(Lcom/example/plain_snapshot/plainsnapshot/sql/Type;)Z"⟩ : MethodName) prog_146_method_8_code 2 (some .boolean) :: ws) ({ frames := 0, cells := 0, slots := 0, locals := 0 } : Room)) (fun a U => a = #[(.ref a0), (.ref a1)] ∧ Z.Warmed39 U.vm ∧ U.heap = h0) (fun _ _ _ _ _ => True) (fun _ U o U' => ∃ v L, o = .returned v ∧ Q_fits Z a0 a1 r_UNKNOWN h0 n0 v U'.heap L ∧ FrameEnd U o U' L ({ frames := 0, cells := 0, slots := 0, locals := 0 } : Room).cells ({ frames := 0, cells := 0, slots := 0, locals := 0 } : Room).slots) := by
  refine MetFree.of_bodySF (plainFor_of_name pn_fits) hisR ?_
  intro p e s m args below meth c s₁ Bd hml0 hP hK
  obtain ⟨rfl, hZ, hh⟩ := hP
  have hx := Bd.exec
  have hby := Bd.bytes
  have hml : c.maxLocals = 2 := hml0
  have hown : s.vm.findClass "com/example/plain_snapshot/plainsnapshot/sql/Type" = some m.cls := findClass_of_methodNamed Bd.named
  have hnm := (name_of_methodNamed Bd.named Bd.method).1
  have X0 : Stand p l e ({ frames := 0, cells := 0, slots := 0, locals := 0 } : Room) s m #[(.ref a0), (.ref a1)] below meth c s₁ [] 0 0 := Stand.of_body Bd
  have e0 : s₁.heap = h0 := by rw [← hh, Bd.state]; rfl
  have N0 := Fr.nil n0
  have pre0 : Go p.tables e below (s₁.setTop (entryFrame m #[(.ref a0), (.ref a1)] 2)) s₁ (mkF m 0 #[.val (.ref a0), .val (.ref a1)] []) := fun t k => castTop (ef_fits m a0 a1) k
  have pre1 : Go p.tables e below (s₁.setTop (entryFrame m #[(.ref a0), (.ref a1)] 2)) s₁ (mkF m 2 #[.val (.ref a0), .val (.ref a1)] [(.ref a1), (.ref a0)]) := fun t k => pre0 t (by
      refine XS.aloadN X0.here hx rfl (hb hby d2_0) rfl rfl ?_
      show Steps p.tables e below (s₁.setTop (mkF m 1 #[.val (.ref a0), .val (.ref a1)] [(.ref a0)])) _
      refine XS.aloadN X0.here hx rfl (hb hby d2_1) rfl rfl ?_
      exact k)
  by_cases hc2 : a0 = a1
  · -- hc2: True
    have pre3 : Go p.tables e below (s₁.setTop (entryFrame m #[(.ref a0), (.ref a1)] 2)) s₁ (mkF m 17 #[.val (.ref a0), .val (.ref a1)] [(.int (1 : Int32))]) := fun t k => pre1 t (by
        refine Jvm.RoadKit.acmp (g := (mkF m 2 #[.val (.ref a0), .val (.ref a1)] [(.ref a1), (.ref a0)])) X0 hx rfl rfl rfl (pc0 := 2) (pc' := 12) (same := true) rfl (hb hby d2_2) rfl (decide_eq_true (congrArg Value.ref hc2)) (by decide) (by decide) ?_
        show Steps p.tables e below (s₁.setTop (mkF m 12 #[.val (.ref a0), .val (.ref a1)] [])) _
        refine XS.iconst X0.here hx rfl (hb hby d2_12) ?_
        show Steps p.tables e below (s₁.setTop (mkF m 13 #[.val (.ref a0), .val (.ref a1)] [(.int (1 : Int32))])) _
        refine XS.goto X0.here hx rfl (pc0 := 13) (pc' := 17) rfl (hb hby d2_13) (by decide) (by decide) ?_
        exact k)
    obtain ⟨fs, hr, hrun, hended, hW, hsame⟩ := X0.leave (v := some (.int (1 : Int32))) (fun h => by rw [Bd.returns] at h; cases h) (BodyLoose.notSynchronized Bd)
    refine ⟨_, _, pre3 _ ?_, hrun, hended, _, _, rfl, ?_, ⟨_, rfl⟩, hW, hsame.mono (Nat.le_of_ble_eq_true rfl) (Nat.le_of_ble_eq_true rfl)⟩
    · exact retN X0 hx (t := .boolean) Bd.returns (by simp) (hb hby d2_17) hr
    · show Q_fits Z a0 a1 r_UNKNOWN h0 n0 _ s₁.heap _
      rw [e0]
      exact ⟨by simp [own_fits, hc2], N0, rfl⟩
  · -- hc2: False
    have pre4 : Go p.tables e below (s₁.setTop (entryFrame m #[(.ref a0), (.ref a1)] 2)) s₁ (mkF m 6 #[.val (.ref a0), .val (.ref a1)] [(.ref a0)]) := fun t k => pre1 t (by
        refine Jvm.RoadKit.acmp (g := (mkF m 2 #[.val (.ref a0), .val (.ref a1)] [(.ref a1), (.ref a0)])) X0 hx rfl rfl rfl (pc0 := 2) (pc' := 5) (same := false) rfl (hb hby d2_2) rfl (decide_eq_false fun q => hc2 (Value.ref.inj q)) (by decide) (by decide) ?_
        show Steps p.tables e below (s₁.setTop (mkF m 5 #[.val (.ref a0), .val (.ref a1)] [])) _
        refine XS.aloadN X0.here hx rfl (hb hby d2_5) rfl rfl ?_
        exact k)
    obtain ⟨T5, X5, e5, st5⟩ := getS2 X0 hx hZ hown (host := "") (Or.inl (hw _ (List.mem_of_getElem? (i := 14) rfl))) Via.refl e0 S_UNKNOWN (g := (mkF m 6 #[.val (.ref a0), .val (.ref a1)] [(.ref a0)])) rfl (hb hby d2_6)
    have pre5 : Go p.tables e below (s₁.setTop (entryFrame m #[(.ref a0), (.ref a1)] 2)) T5 (mkF m 9 #[.val (.ref a0), .val (.ref a1)] [(.ref r_UNKNOWN), (.ref a0)]) := fun t k => pre4 t (st5 _ k)
    by_cases hc6 : a0 = r_UNKNOWN
    · -- hc6: True
      have pre7 : Go p.tables e below (s₁.setTop (entryFrame m #[(.ref a0), (.ref a1)] 2)) T5 (mkF m 17 #[.val (.ref a0), .val (.ref a1)] [(.int (1 : Int32))]) := fun t k => pre5 t (by
          refine Jvm.RoadKit.acmp (g := (mkF m 9 #[.val (.ref a0), .val (.ref a1)] [(.ref r_UNKNOWN), (.ref a0)])) X5 hx rfl rfl rfl (pc0 := 9) (pc' := 12) (same := true) rfl (hb hby d2_9) rfl (decide_eq_true (congrArg Value.ref hc6)) (by decide) (by decide) ?_
          show Steps p.tables e below (T5.setTop (mkF m 12 #[.val (.ref a0), .val (.ref a1)] [])) _
          refine XS.iconst X5.here hx rfl (hb hby d2_12) ?_
          show Steps p.tables e below (T5.setTop (mkF m 13 #[.val (.ref a0), .val (.ref a1)] [(.int (1 : Int32))])) _
          refine XS.goto X5.here hx rfl (pc0 := 13) (pc' := 17) rfl (hb hby d2_13) (by decide) (by decide) ?_
          exact k)
      obtain ⟨fs, hr, hrun, hended, hW, hsame⟩ := X5.leave (v := some (.int (1 : Int32))) (fun h => by rw [Bd.returns] at h; cases h) (BodyLoose.notSynchronized Bd)
      refine ⟨_, _, pre7 _ ?_, hrun, hended, _, _, rfl, ?_, ⟨_, rfl⟩, hW, hsame.mono (Nat.le_of_ble_eq_true rfl) (Nat.le_of_ble_eq_true rfl)⟩
      · exact retN X5 hx (t := .boolean) Bd.returns (by simp) (hb hby d2_17) hr
      · show Q_fits Z a0 a1 r_UNKNOWN h0 n0 _ T5.heap _
        rw [e5]
        exact ⟨by simp [own_fits, hc2, hc6], N0, rfl⟩
    · -- hc6: False
      have pre8 : Go p.tables e below (s₁.setTop (entryFrame m #[(.ref a0), (.ref a1)] 2)) T5 (mkF m 17 #[.val (.ref a0), .val (.ref a1)] [(.int (0 : Int32))]) := fun t k => pre5 t (by
          refine Jvm.RoadKit.acmp (g := (mkF m 9 #[.val (.ref a0), .val (.ref a1)] [(.ref r_UNKNOWN), (.ref a0)])) X5 hx rfl rfl rfl (pc0 := 9) (pc' := 16) (same := false) rfl (hb hby d2_9) rfl (decide_eq_false fun q => hc6 (Value.ref.inj q)) (by decide) (by decide) ?_
          show Steps p.tables e below (T5.setTop (mkF m 16 #[.val (.ref a0), .val (.ref a1)] [])) _
          refine XS.iconst X5.here hx rfl (hb hby d2_16) ?_
          exact k)
      obtain ⟨fs, hr, hrun, hended, hW, hsame⟩ := X5.leave (v := some (.int (0 : Int32))) (fun h => by rw [Bd.returns] at h; cases h) (BodyLoose.notSynchronized Bd)
      refine ⟨_, _, pre8 _ ?_, hrun, hended, _, _, rfl, ?_, ⟨_, rfl⟩, hW, hsame.mono (Nat.le_of_ble_eq_true rfl) (Nat.le_of_ble_eq_true rfl)⟩
      · exact retN X5 hx (t := .boolean) Bd.returns (by simp) (hb hby d2_17) hr
      · show Q_fits Z a0 a1 r_UNKNOWN h0 n0 _ T5.heap _
        rw [e5]
        exact ⟨by simp [own_fits, hc2, hc6], N0, rfl⟩
theorem pn_law : plainName "com/example/plain_snapshot/plainsnapshot/sql/TypeFitsPinLaw" = true := by first | (simp [plainName, overriddenIn]; done) | decide +kernel
theorem ef_law (m : MethodId) (x0 : Int32) (x1 : Int32) : entryFrame m #[(.int x0), (.int x1)] maxLocals = mkF m 0 #[.val (.int x0), .val (.int x1), .unset, .unset, .unset, .unset, .unset] [] := by first | (simp [entryFrame, mkF, argsToLocals, Value.category, maxLocals]; done) | rfl
def Q_law (Z : State) (x0 : Int32) (x1 : Int32) (r_INT : Addr) (r_TEXT : Addr) (r_BOOLEAN : Addr) (r_XID : Addr) (r_CID : Addr) (r_TID : Addr) (r_SNAPSHOT : Addr) (r_UNKNOWN : Addr) (h0 : Heap) (n0 : Nat) (v : Option Value) (h : Heap) (L : List Loc) : Prop := v = some (.int 1) ∧ Fr n0 L
set_option maxRecDepth 65536 in
set_option maxHeartbeats 40000000 in
theorem rm_law (l : Launch) (Z : State) (a0 : Array Value) (hw : ∀ d ∈ tables_1, d.before a0 Z = true) (ws : List Jvm.Cond) (x0 : Int32) (x1 : Int32) (r_INT : Addr) (r_TEXT : Addr) (r_BOOLEAN : Addr) (r_XID : Addr) (r_CID : Addr) (r_TID : Addr) (r_SNAPSHOT : Addr) (r_UNKNOWN : Addr) (h0 : Heap) (n0 : Nat) (Z0 : n0 ≤ h0.size) (S_INT : Sta Z h0 "com/example/plain_snapshot/plainsnapshot/sql/Type" "INT" "Lcom/example/plain_snapshot/plainsnapshot/sql/Type;" (.ref r_INT)) (S_TEXT : Sta Z h0 "com/example/plain_snapshot/plainsnapshot/sql/Type" "TEXT" "Lcom/example/plain_snapshot/plainsnapshot/sql/Type;" (.ref r_TEXT)) (S_BOOLEAN : Sta Z h0 "com/example/plain_snapshot/plainsnapshot/sql/Type" "BOOLEAN" "Lcom/example/plain_snapshot/plainsnapshot/sql/Type;" (.ref r_BOOLEAN)) (S_XID : Sta Z h0 "com/example/plain_snapshot/plainsnapshot/sql/Type" "XID" "Lcom/example/plain_snapshot/plainsnapshot/sql/Type;" (.ref r_XID)) (S_CID : Sta Z h0 "com/example/plain_snapshot/plainsnapshot/sql/Type" "CID" "Lcom/example/plain_snapshot/plainsnapshot/sql/Type;" (.ref r_CID)) (S_TID : Sta Z h0 "com/example/plain_snapshot/plainsnapshot/sql/Type" "TID" "Lcom/example/plain_snapshot/plainsnapshot/sql/Type;" (.ref r_TID)) (S_SNAPSHOT : Sta Z h0 "com/example/plain_snapshot/plainsnapshot/sql/Type" "SNAPSHOT" "Lcom/example/plain_snapshot/plainsnapshot/sql/Type;" (.ref r_SNAPSHOT)) (S_UNKNOWN : Sta Z h0 "com/example/plain_snapshot/plainsnapshot/sql/Type" "UNKNOWN" "Lcom/example/plain_snapshot/plainsnapshot/sql/Type;" (.ref r_UNKNOWN)) (E_INT : Exa Z h0 r_INT "com/example/plain_snapshot/plainsnapshot/sql/Type") (E_TEXT : Exa Z h0 r_TEXT "com/example/plain_snapshot/plainsnapshot/sql/Type") (E_BOOLEAN : Exa Z h0 r_BOOLEAN "com/example/plain_snapshot/plainsnapshot/sql/Type") (E_XID : Exa Z h0 r_XID "com/example/plain_snapshot/plainsnapshot/sql/Type") (E_CID : Exa Z h0 r_CID "com/example/plain_snapshot/plainsnapshot/sql/Type") (E_TID : Exa Z h0 r_TID "com/example/plain_snapshot/plainsnapshot/sql/Type") (E_SNAPSHOT : Exa Z h0 r_SNAPSHOT "com/example/plain_snapshot/plainsnapshot/sql/Type") (E_UNKNOWN : Exa Z h0 r_UNKNOWN "com/example/plain_snapshot/plainsnapshot/sql/Type") (F_INT : Fld Z h0 r_INT "java/lang/Enum" "ordinal" "I" (.int (0 : Int32))) (F_TEXT : Fld Z h0 r_TEXT "java/lang/Enum" "ordinal" "I" (.int (1 : Int32))) (F_BOOLEAN : Fld Z h0 r_BOOLEAN "java/lang/Enum" "ordinal" "I" (.int (2 : Int32))) (F_XID : Fld Z h0 r_XID "java/lang/Enum" "ordinal" "I" (.int (3 : Int32))) (F_CID : Fld Z h0 r_CID "java/lang/Enum" "ordinal" "I" (.int (4 : Int32))) (F_TID : Fld Z h0 r_TID "java/lang/Enum" "ordinal" "I" (.int (5 : Int32))) (F_SNAPSHOT : Fld Z h0 r_SNAPSHOT "java/lang/Enum" "ordinal" "I" (.int (6 : Int32))) (F_UNKNOWN : Fld Z h0 r_UNKNOWN "java/lang/Enum" "ordinal" "I" (.int (7 : Int32))) :
    MetFree l x (head1 (Jvm.Cond.code x code maxLocals ret :: ws) room_1) (fun a U => a = #[(.int x0), (.int x1)] ∧ Z.Warmed39 U.vm ∧ U.heap = h0) (fun _ _ _ _ _ => True) (fun _ U o U' => ∃ v L, o = .returned v ∧ Q_law Z x0 x1 r_INT r_TEXT r_BOOLEAN r_XID r_CID r_TID r_SNAPSHOT r_UNKNOWN h0 n0 v U'.heap L ∧ FrameEnd U o U' L room_1.cells room_1.slots) := by
  refine MetFree.of_bodySF (plainFor_of_name pn_law) hisR ?_
  intro p e s m args below meth c s₁ Bd hml0 hP hK
  obtain ⟨rfl, hZ, hh⟩ := hP
  have hx := Bd.exec
  have hby := Bd.bytes
  have hml : c.maxLocals = 7 := hml0
  have hown : s.vm.findClass "com/example/plain_snapshot/plainsnapshot/sql/TypeFitsPinLaw" = some m.cls := findClass_of_methodNamed Bd.named
  have hnm := (name_of_methodNamed Bd.named Bd.method).1
  have X0 : Stand p l e room_1 s m #[(.int x0), (.int x1)] below meth c s₁ [] 0 0 := Stand.of_body Bd
  have e0 : s₁.heap = h0 := by rw [← hh, Bd.state]; rfl
  have N0 := Fr.nil n0
  have pre0 : Go p.tables e below (s₁.setTop (entryFrame m #[(.int x0), (.int x1)] maxLocals)) s₁ (mkF m 0 #[.val (.int x0), .val (.int x1), .unset, .unset, .unset, .unset, .unset] []) := fun t k => castTop (ef_law m x0 x1) k
  obtain ⟨w1, hw1⟩ : ∃ z : Int32, z = (x0 &&& (7 : Int32)) := ⟨_, rfl⟩
  obtain ⟨w2, hw2⟩ : ∃ z : Int32, z = (x1 &&& (7 : Int32)) := ⟨_, rfl⟩
  have pre3 : Go p.tables e below (s₁.setTop (entryFrame m #[(.int x0), (.int x1)] maxLocals)) s₁ (mkF m 11 #[.val (.int x0), .val (.int x1), .val (.int w1), .val (.int w2), .unset, .unset, .unset] [(.int w1)]) := fun t k => pre0 t (by
      refine XS.iloadN X0.here hx rfl (hb hby at_0) rfl ?_
      show Steps p.tables e below (s₁.setTop (mkF m 1 #[.val (.int x0), .val (.int x1), .unset, .unset, .unset, .unset, .unset] [(.int x0)])) _
      refine XS.bipush X0.here hx rfl (hb hby at_1) ?_
      show Steps p.tables e below (s₁.setTop (mkF m 3 #[.val (.int x0), .val (.int x1), .unset, .unset, .unset, .unset, .unset] [(.int (7 : Int32)), (.int x0)])) _
      refine XS.iand X0.here hx rfl (hb hby at_3) rfl ?_
      show Steps p.tables e below (s₁.setTop (mkF m 4 #[.val (.int x0), .val (.int x1), .unset, .unset, .unset, .unset, .unset] [(.int (x0 &&& (7 : Int32)))])) _
      refine XS.istoreN X0.here hx rfl (x := w1) (rest := []) (hb hby at_4) (by subst hw1; rfl) (l' := #[.val (.int x0), .val (.int x1), .val (.int w1), .unset, .unset, .unset, .unset]) rfl ?_
      show Steps p.tables e below (s₁.setTop (mkF m 5 #[.val (.int x0), .val (.int x1), .val (.int w1), .unset, .unset, .unset, .unset] [])) _
      refine XS.iloadN X0.here hx rfl (hb hby at_5) rfl ?_
      show Steps p.tables e below (s₁.setTop (mkF m 6 #[.val (.int x0), .val (.int x1), .val (.int w1), .unset, .unset, .unset, .unset] [(.int x1)])) _
      refine XS.bipush X0.here hx rfl (hb hby at_6) ?_
      show Steps p.tables e below (s₁.setTop (mkF m 8 #[.val (.int x0), .val (.int x1), .val (.int w1), .unset, .unset, .unset, .unset] [(.int (7 : Int32)), (.int x1)])) _
      refine XS.iand X0.here hx rfl (hb hby at_8) rfl ?_
      show Steps p.tables e below (s₁.setTop (mkF m 9 #[.val (.int x0), .val (.int x1), .val (.int w1), .unset, .unset, .unset, .unset] [(.int (x1 &&& (7 : Int32)))])) _
      refine XS.istoreN X0.here hx rfl (x := w2) (rest := []) (hb hby at_9) (by subst hw2; rfl) (l' := #[.val (.int x0), .val (.int x1), .val (.int w1), .val (.int w2), .unset, .unset, .unset]) rfl ?_
      show Steps p.tables e below (s₁.setTop (mkF m 10 #[.val (.int x0), .val (.int x1), .val (.int w1), .val (.int w2), .unset, .unset, .unset] [])) _
      refine XS.iloadN X0.here hx rfl (hb hby at_10) rfl ?_
      exact k)
  obtain ⟨_, _, ⟨T4, L4, k4, n4⟩, -, X4, ⟨Lc4, hQ4, l4, y4, z4⟩, st4⟩ := Jvm.LawKit.callS X0 hx (y := (⟨"com/example/plain_snapshot/plainsnapshot/sql/TypeFitsPinLaw", "pick", "(I)Lcom/example/plain_snapshot/plainsnapshot/sql/Type;"⟩ : MethodName)) hown (mvT hZ (hw _ (List.mem_of_getElem? (i := 0) rfl))) (mvT hZ (hw _ (List.mem_of_getElem? (i := 1) rfl))) (mvT hZ (hw _ (List.mem_of_getElem? (i := 2) rfl))) (mvT hZ (hw _ (List.mem_of_getElem? (i := 3) rfl))) (by decide) (backOf (W := 0) (rm_pick l Z a0 hw [] w1 r_INT r_TEXT r_BOOLEAN r_XID r_CID r_TID r_SNAPSHOT r_UNKNOWN h0 n0 S_INT S_TEXT S_BOOLEAN S_XID S_CID S_TID S_SNAPSHOT S_UNKNOWN) hZ (hw _ (List.mem_of_getElem? (i := 3) rfl)) (hw _ (List.mem_of_getElem? (i := 2) rfl)) (by decide) (by decide)) (g := (mkF m 11 #[.val (.int x0), .val (.int x1), .val (.int w1), .val (.int w2), .unset, .unset, .unset] [(.int w1)])) rfl (by rw [hml]; rfl) (argsL := [(.int w1)]) (rest := []) (lenOf pd_0 rfl) rfl (by show 2 * 0 + _ ≤ _; exact Nat.le_of_eq rfl) (hb hby at_11) (fun _ _ => ⟨rfl, e0, (by decide : 0 + 0 ≤ _), (by decide : 0 + 0 ≤ _)⟩)
  dsimp only [Pt.U, Pt.locs, Pt.cells, Pt.slots] at X4 l4 y4 z4 st4 hQ4
  subst l4 y4 z4
  obtain ⟨rfl, N4q, e4⟩ := hQ4
  obtain ⟨t4, ht4⟩ : ∃ z : Addr, z = (own_pick r_INT r_TEXT r_BOOLEAN r_XID r_CID r_TID r_SNAPSHOT r_UNKNOWN w1) := ⟨_, rfl⟩
  have Et4 : Exa Z h0 t4 "com/example/plain_snapshot/plainsnapshot/sql/Type" := by rw [ht4]; exact own_pick_exa E_INT E_TEXT E_BOOLEAN E_XID E_CID E_TID E_SNAPSHOT E_UNKNOWN _
  rw [← ht4] at st4
  have N4 := Fr.app N0 N4q
  have pre4 : Go p.tables e below (s₁.setTop (entryFrame m #[(.int x0), (.int x1)] maxLocals)) T4 (mkF m 14 #[.val (.int x0), .val (.int x1), .val (.int w1), .val (.int w2), .unset, .unset, .unset] [(.ref t4)]) := fun t k => pre3 t (st4 _ k)
  have pre5 : Go p.tables e below (s₁.setTop (entryFrame m #[(.int x0), (.int x1)] maxLocals)) T4 (mkF m 17 #[.val (.int x0), .val (.int x1), .val (.int w1), .val (.int w2), .val (.ref t4), .unset, .unset] [(.int w2)]) := fun t k => pre4 t (by
      refine XS.astore X4.here hx rfl (hb hby at_14) rfl rfl (l' := #[.val (.int x0), .val (.int x1), .val (.int w1), .val (.int w2), .val (.ref t4), .unset, .unset]) rfl ?_
      show Steps p.tables e below (T4.setTop (mkF m 16 #[.val (.int x0), .val (.int x1), .val (.int w1), .val (.int w2), .val (.ref t4), .unset, .unset] [])) _
      refine XS.iloadN X4.here hx rfl (hb hby at_16) rfl ?_
      exact k)
  obtain ⟨_, _, ⟨T6, L6, k6, n6⟩, -, X6, ⟨Lc6, hQ6, l6, y6, z6⟩, st6⟩ := Jvm.LawKit.callS X4 hx (y := (⟨"com/example/plain_snapshot/plainsnapshot/sql/TypeFitsPinLaw", "pick", "(I)Lcom/example/plain_snapshot/plainsnapshot/sql/Type;"⟩ : MethodName)) hown (mvT hZ (hw _ (List.mem_of_getElem? (i := 0) rfl))) (mvT hZ (hw _ (List.mem_of_getElem? (i := 1) rfl))) (mvT hZ (hw _ (List.mem_of_getElem? (i := 2) rfl))) (mvT hZ (hw _ (List.mem_of_getElem? (i := 3) rfl))) (by decide) (backOf (W := 0) (rm_pick l Z a0 hw [] w2 r_INT r_TEXT r_BOOLEAN r_XID r_CID r_TID r_SNAPSHOT r_UNKNOWN h0 n0 S_INT S_TEXT S_BOOLEAN S_XID S_CID S_TID S_SNAPSHOT S_UNKNOWN) hZ (hw _ (List.mem_of_getElem? (i := 3) rfl)) (hw _ (List.mem_of_getElem? (i := 2) rfl)) (by decide) (by decide)) (g := (mkF m 17 #[.val (.int x0), .val (.int x1), .val (.int w1), .val (.int w2), .val (.ref t4), .unset, .unset] [(.int w2)])) rfl (by rw [hml]; rfl) (argsL := [(.int w2)]) (rest := []) (lenOf pd_0 rfl) rfl (by show 2 * 0 + _ ≤ _; exact Nat.le_of_eq rfl) (hb hby at_17) (fun _ _ => ⟨rfl, e4, (by decide : 0 + 0 ≤ _), (by decide : 0 + 0 ≤ _)⟩)
  dsimp only [Pt.U, Pt.locs, Pt.cells, Pt.slots] at X6 l6 y6 z6 st6 hQ6
  subst l6 y6 z6
  obtain ⟨rfl, N6q, e6⟩ := hQ6
  obtain ⟨t6, ht6⟩ : ∃ z : Addr, z = (own_pick r_INT r_TEXT r_BOOLEAN r_XID r_CID r_TID r_SNAPSHOT r_UNKNOWN w2) := ⟨_, rfl⟩
  have Et6 : Exa Z h0 t6 "com/example/plain_snapshot/plainsnapshot/sql/Type" := by rw [ht6]; exact own_pick_exa E_INT E_TEXT E_BOOLEAN E_XID E_CID E_TID E_SNAPSHOT E_UNKNOWN _
  rw [← ht6] at st6
  have N6 := Fr.app N4 N6q
  have pre6 : Go p.tables e below (s₁.setTop (entryFrame m #[(.int x0), (.int x1)] maxLocals)) T6 (mkF m 20 #[.val (.int x0), .val (.int x1), .val (.int w1), .val (.int w2), .val (.ref t4), .unset, .unset] [(.ref t6)]) := fun t k => pre5 t (st6 _ k)
  have pre7 : Go p.tables e below (s₁.setTop (entryFrame m #[(.int x0), (.int x1)] maxLocals)) T6 (mkF m 24 #[.val (.int x0), .val (.int x1), .val (.int w1), .val (.int w2), .val (.ref t4), .val (.ref t6), .unset] [(.int w2), (.int w1)]) := fun t k => pre6 t (by
      refine XS.astore X6.here hx rfl (hb hby at_20) rfl rfl (l' := #[.val (.int x0), .val (.int x1), .val (.int w1), .val (.int w2), .val (.ref t4), .val (.ref t6), .unset]) rfl ?_
      show Steps p.tables e below (T6.setTop (mkF m 22 #[.val (.int x0), .val (.int x1), .val (.int w1), .val (.int w2), .val (.ref t4), .val (.ref t6), .unset] [])) _
      refine XS.iloadN X6.here hx rfl (hb hby at_22) rfl ?_
      show Steps p.tables e below (T6.setTop (mkF m 23 #[.val (.int x0), .val (.int x1), .val (.int w1), .val (.int w2), .val (.ref t4), .val (.ref t6), .unset] [(.int w1)])) _
      refine XS.iloadN X6.here hx rfl (hb hby at_23) rfl ?_
      exact k)
  obtain ⟨T8, L8, w9, X8, e8, N8, hw9, pre8⟩ : ∃ (T8 : State) (L8 : List Loc) (w9 : Int32), Stand p l e room_1 s m #[(.int x0), (.int x1)] below meth c T8 L8 0 0 ∧ T8.heap = h0 ∧ Fr n0 L8 ∧ w9 = (if w1 = w2 then (1 : Int32) else (if w1 = (7 : Int32) then (1 : Int32) else (0 : Int32))) ∧ Go p.tables e below (s₁.setTop (entryFrame m #[(.int x0), (.int x1)] maxLocals)) T8 (mkF m 38 #[.val (.int x0), .val (.int x1), .val (.int w1), .val (.int w2), .val (.ref t4), .val (.ref t6), .unset] [(.int w9)]) := by
    by_cases hc10 : w1 = w2
    · -- hc10: True
      have pre11 : Go p.tables e below (s₁.setTop (entryFrame m #[(.int x0), (.int x1)] maxLocals)) T6 (mkF m 38 #[.val (.int x0), .val (.int x1), .val (.int w1), .val (.int w2), .val (.ref t4), .val (.ref t6), .unset] [(.int (1 : Int32))]) := fun t k => pre7 t (by
          refine XS.icmpYes X6.here hx rfl (pc0 := 24) (pc' := 33) rfl (hb hby at_24) rfl (teq hc10).1 (by decide) (by decide) ?_
          show Steps p.tables e below (T6.setTop (mkF m 33 #[.val (.int x0), .val (.int x1), .val (.int w1), .val (.int w2), .val (.ref t4), .val (.ref t6), .unset] [])) _
          refine XS.iconst X6.here hx rfl (hb hby at_33) ?_
          show Steps p.tables e below (T6.setTop (mkF m 34 #[.val (.int x0), .val (.int x1), .val (.int w1), .val (.int w2), .val (.ref t4), .val (.ref t6), .unset] [(.int (1 : Int32))])) _
          refine XS.goto X6.here hx rfl (pc0 := 34) (pc' := 38) rfl (hb hby at_34) (by decide) (by decide) ?_
          exact k)
      refine ⟨_, _, _, X6, e6, N6, ?_, pre11⟩
      · exact (if_pos hc10).symm
    · -- hc10: False
      have pre12 : Go p.tables e below (s₁.setTop (entryFrame m #[(.int x0), (.int x1)] maxLocals)) T6 (mkF m 30 #[.val (.int x0), .val (.int x1), .val (.int w1), .val (.int w2), .val (.ref t4), .val (.ref t6), .unset] [(.int (7 : Int32)), (.int w1)]) := fun t k => pre7 t (by
          refine XS.icmpNo X6.here hx rfl (hb hby at_24) rfl (feq hc10).1 ?_
          show Steps p.tables e below (T6.setTop (mkF m 27 #[.val (.int x0), .val (.int x1), .val (.int w1), .val (.int w2), .val (.ref t4), .val (.ref t6), .unset] [])) _
          refine XS.iloadN X6.here hx rfl (hb hby at_27) rfl ?_
          show Steps p.tables e below (T6.setTop (mkF m 28 #[.val (.int x0), .val (.int x1), .val (.int w1), .val (.int w2), .val (.ref t4), .val (.ref t6), .unset] [(.int w1)])) _
          refine XS.bipush X6.here hx rfl (hb hby at_28) ?_
          exact k)
      by_cases hc13 : w1 = (7 : Int32)
      · -- hc13: True
        have pre14 : Go p.tables e below (s₁.setTop (entryFrame m #[(.int x0), (.int x1)] maxLocals)) T6 (mkF m 38 #[.val (.int x0), .val (.int x1), .val (.int w1), .val (.int w2), .val (.ref t4), .val (.ref t6), .unset] [(.int (1 : Int32))]) := fun t k => pre12 t (by
            refine XS.icmpNo X6.here hx rfl (hb hby at_30) rfl (teq hc13).2 ?_
            show Steps p.tables e below (T6.setTop (mkF m 33 #[.val (.int x0), .val (.int x1), .val (.int w1), .val (.int w2), .val (.ref t4), .val (.ref t6), .unset] [])) _
            refine XS.iconst X6.here hx rfl (hb hby at_33) ?_
            show Steps p.tables e below (T6.setTop (mkF m 34 #[.val (.int x0), .val (.int x1), .val (.int w1), .val (.int w2), .val (.ref t4), .val (.ref t6), .unset] [(.int (1 : Int32))])) _
            refine XS.goto X6.here hx rfl (pc0 := 34) (pc' := 38) rfl (hb hby at_34) (by decide) (by decide) ?_
            exact k)
        refine ⟨_, _, _, X6, e6, N6, ?_, pre14⟩
        · exact ((if_neg hc10).trans (if_pos hc13)).symm
      · -- hc13: False
        have pre15 : Go p.tables e below (s₁.setTop (entryFrame m #[(.int x0), (.int x1)] maxLocals)) T6 (mkF m 38 #[.val (.int x0), .val (.int x1), .val (.int w1), .val (.int w2), .val (.ref t4), .val (.ref t6), .unset] [(.int (0 : Int32))]) := fun t k => pre12 t (by
            refine XS.icmpYes X6.here hx rfl (pc0 := 30) (pc' := 37) rfl (hb hby at_30) rfl (feq hc13).2 (by decide) (by decide) ?_
            show Steps p.tables e below (T6.setTop (mkF m 37 #[.val (.int x0), .val (.int x1), .val (.int w1), .val (.int w2), .val (.ref t4), .val (.ref t6), .unset] [])) _
            refine XS.iconst X6.here hx rfl (hb hby at_37) ?_
            exact k)
        refine ⟨_, _, _, X6, e6, N6, ?_, pre15⟩
        · exact ((if_neg hc10).trans (if_neg hc13)).symm
  have pre16 : Go p.tables e below (s₁.setTop (entryFrame m #[(.int x0), (.int x1)] maxLocals)) T8 (mkF m 44 #[.val (.int x0), .val (.int x1), .val (.int w1), .val (.int w2), .val (.ref t4), .val (.ref t6), .val (.int w9)] [(.ref t6), (.ref t4)]) := fun t k => pre8 t (by
      refine XS.istore X8.here hx rfl (hb hby at_38) rfl (l' := #[.val (.int x0), .val (.int x1), .val (.int w1), .val (.int w2), .val (.ref t4), .val (.ref t6), .val (.int w9)]) rfl ?_
      show Steps p.tables e below (T8.setTop (mkF m 40 #[.val (.int x0), .val (.int x1), .val (.int w1), .val (.int w2), .val (.ref t4), .val (.ref t6), .val (.int w9)] [])) _
      refine XS.aload X8.here hx rfl (hb hby at_40) rfl rfl ?_
      show Steps p.tables e below (T8.setTop (mkF m 42 #[.val (.int x0), .val (.int x1), .val (.int w1), .val (.int w2), .val (.ref t4), .val (.ref t6), .val (.int w9)] [(.ref t4)])) _
      refine XS.aload X8.here hx rfl (hb hby at_42) rfl rfl ?_
      exact k)
  obtain ⟨cq17, kq17, q17a, q17b, q17c⟩ := isOf hZ e8 Et4
  obtain ⟨_, _, ⟨T17, L17, k17, n17⟩, -, X17, ⟨Lc17, hQ17, l17, y17, z17⟩, st17⟩ := X8.virtualBack hx (y := (⟨"com/example/plain_snapshot/plainsnapshot/sql/Type", "fits", "(Lcom/example/plain_snapshot/plainsnapshot/sql/Type;)Z"⟩ : MethodName)) (z := (⟨"com/example/plain_snapshot/plainsnapshot/sql/Type", "fits", "(Lcom/example/plain_snapshot/plainsnapshot/sql/Type;)Z"⟩ : MethodName)) hown (mvT hZ (hw _ (List.mem_of_getElem? (i := 9) rfl))) (mvT hZ (hw _ (List.mem_of_getElem? (i := 10) rfl))) (notFace_of_selects (args := #[]) (mvT hZ (hw _ (List.mem_of_getElem? (i := 12) rfl)))) (mvT hZ (hw _ (List.mem_of_getElem? (i := 12) rfl))) (mvT hZ (hw _ (List.mem_of_getElem? (i := 11) rfl))) (by decide) (backOf (W := 0) (rm_fits l Z a0 hw [] t4 t6 r_UNKNOWN h0 n0 S_UNKNOWN) hZ (hw _ (List.mem_of_getElem? (i := 13) rfl)) (hw _ (List.mem_of_getElem? (i := 5) rfl)) (by decide) (by decide)) q17a q17c (g := (mkF m 44 #[.val (.int x0), .val (.int x1), .val (.int w1), .val (.int w2), .val (.ref t4), .val (.ref t6), .val (.int w9)] [(.ref t6), (.ref t4)])) rfl (by rw [hml]; rfl) (Steps.refl _) (argsL := [(.ref t6)]) (rest := []) (lenOf pd_1 rfl) rfl (by show 2 * 0 + _ ≤ _; exact Nat.le_of_eq rfl) (hb hby at_44) (fun _ _ => ⟨rfl, e8, (by decide : 0 + 0 ≤ _), (by decide : 0 + 0 ≤ _)⟩)
  dsimp only [Pt.U, Pt.locs, Pt.cells, Pt.slots] at X17 l17 y17 z17 st17 hQ17
  subst l17 y17 z17
  obtain ⟨rfl, N17q, e17⟩ := hQ17
  have N17 := Fr.app N8 N17q
  have pre17 : Go p.tables e below (s₁.setTop (entryFrame m #[(.int x0), (.int x1)] maxLocals)) T17 (mkF m 47 #[.val (.int x0), .val (.int x1), .val (.int w1), .val (.int w2), .val (.ref t4), .val (.ref t6), .val (.int w9)] [(.int (own_fits t4 t6 r_UNKNOWN))]) := fun t k => pre16 t (st17.trans k)
  have pre18 : Go p.tables e below (s₁.setTop (entryFrame m #[(.int x0), (.int x1)] maxLocals)) T17 (mkF m 49 #[.val (.int x0), .val (.int x1), .val (.int w1), .val (.int w2), .val (.ref t4), .val (.ref t6), .val (.int w9)] [(.int w9), (.int (own_fits t4 t6 r_UNKNOWN))]) := fun t k => pre17 t (by
      refine XS.iload X17.here hx rfl (hb hby at_47) rfl ?_
      exact k)
  by_cases hc19 : (own_fits t4 t6 r_UNKNOWN) = w9
  · -- hc19: True
    have pre20 : Go p.tables e below (s₁.setTop (entryFrame m #[(.int x0), (.int x1)] maxLocals)) T17 (mkF m 57 #[.val (.int x0), .val (.int x1), .val (.int w1), .val (.int w2), .val (.ref t4), .val (.ref t6), .val (.int w9)] [(.int (1 : Int32))]) := fun t k => pre18 t (by
        refine XS.icmpNo X17.here hx rfl (hb hby at_49) rfl (teq hc19).2 ?_
        show Steps p.tables e below (T17.setTop (mkF m 52 #[.val (.int x0), .val (.int x1), .val (.int w1), .val (.int w2), .val (.ref t4), .val (.ref t6), .val (.int w9)] [])) _
        refine XS.iconst X17.here hx rfl (hb hby at_52) ?_
        show Steps p.tables e below (T17.setTop (mkF m 53 #[.val (.int x0), .val (.int x1), .val (.int w1), .val (.int w2), .val (.ref t4), .val (.ref t6), .val (.int w9)] [(.int (1 : Int32))])) _
        refine XS.goto X17.here hx rfl (pc0 := 53) (pc' := 57) rfl (hb hby at_53) (by decide) (by decide) ?_
        exact k)
    obtain ⟨fs, hr, hrun, hended, hW, hsame⟩ := X17.leave (v := some (.int (1 : Int32))) (fun h => by rw [Bd.returns] at h; cases h) (BodyLoose.notSynchronized Bd)
    refine ⟨_, _, pre20 _ ?_, hrun, hended, _, _, rfl, ?_, ⟨_, rfl⟩, hW, hsame.mono (Nat.le_of_ble_eq_true rfl) (Nat.le_of_ble_eq_true rfl)⟩
    · exact retN X17 hx (t := .boolean) Bd.returns (by simp) (hb hby at_57) hr
    · show Q_law Z x0 x1 r_INT r_TEXT r_BOOLEAN r_XID r_CID r_TID r_SNAPSHOT r_UNKNOWN h0 n0 _ T17.heap _
      rw [e17]
      exact ⟨rfl, N17⟩
  · -- hc19: False
    have pre21 : Go p.tables e below (s₁.setTop (entryFrame m #[(.int x0), (.int x1)] maxLocals)) T17 (mkF m 57 #[.val (.int x0), .val (.int x1), .val (.int w1), .val (.int w2), .val (.ref t4), .val (.ref t6), .val (.int w9)] [(.int (0 : Int32))]) := fun t k => pre18 t (by
        refine XS.icmpYes X17.here hx rfl (pc0 := 49) (pc' := 56) rfl (hb hby at_49) rfl (feq hc19).2 (by decide) (by decide) ?_
        show Steps p.tables e below (T17.setTop (mkF m 56 #[.val (.int x0), .val (.int x1), .val (.int w1), .val (.int w2), .val (.ref t4), .val (.ref t6), .val (.int w9)] [])) _
        refine XS.iconst X17.here hx rfl (hb hby at_56) ?_
        exact k)
    obtain ⟨fs, hr, hrun, hended, hW, hsame⟩ := X17.leave (v := some (.int (0 : Int32))) (fun h => by rw [Bd.returns] at h; cases h) (BodyLoose.notSynchronized Bd)
    refine ⟨_, _, pre21 _ ?_, hrun, hended, _, _, rfl, ?_, ⟨_, rfl⟩, hW, hsame.mono (Nat.le_of_ble_eq_true rfl) (Nat.le_of_ble_eq_true rfl)⟩
    · exact retN X17 hx (t := .boolean) Bd.returns (by simp) (hb hby at_57) hr
    · show Q_law Z x0 x1 r_INT r_TEXT r_BOOLEAN r_XID r_CID r_TID r_SNAPSHOT r_UNKNOWN h0 n0 _ T17.heap _
      rw [e17]
      exfalso
      apply hc19
      rw [hw9, ht4, ht6]
      subst hw2 hw1
      exact own_law F_INT F_TEXT F_BOOLEAN F_XID F_CID F_TID F_SNAPSHOT F_UNKNOWN _ _
set_option maxRecDepth 65536 in
set_option maxHeartbeats 40000000 in
theorem comes_1 {Post : Tables → Env → Array Value → State → Outcome → State → Prop} (hpost : ∀ tb e args s v u, (limb_1_1.after args s (.returned v) u = true ∧ limb_1_2.after args s (.returned v) u = true ∧ True) → FrameEnd s (.returned v) u (Jvm.fieldLocs frame_1_writes args s ++ Jvm.arrayLocs frame_1_arrays args s ++ Jvm.staticLocs frame_1_statics s) 0 0 → Post tb e args s (.returned v) u) :
    ArmFor flags0 classFile x code maxLocals ret World_1 tables_1 room_1 Calls_1 rest_1 Pre_1 Post := by
  intro l hfl _ _ p e ha hc hk s m args below hf hA hF happ hP
  obtain ⟨hcalls, hrest, hpre⟩ := hP
  obtain ⟨-, -, -, hnamed, -, -, -, hat⟩ := (Spec.applies_iff hf).mp happ
  obtain ⟨hg, hn⟩ := and_e (Cond.before_iff.mp (show (Jvm.Cond.and given_1 narrow_1).before args s = true from hpre))
  obtain ⟨gc, gt0⟩ := and_e hg
  obtain ⟨ga0, gt1⟩ := and_e gt0
  obtain ⟨w0, w1, rfl⟩ : ∃ w0 w1 : Value, args = #[w0, w1] := by
    have hs : args.size = 2 := by simpa [Cond.value, given_1] using gc
    obtain ⟨L⟩ := args
    match L, hs with
    | [w0, w1], _ => exact ⟨w0, w1, rfl⟩
  have hw := fun d (hd : d ∈ tables_1) => atoms_spec (ws := Jvm.Cond.code x code maxLocals ret :: tables_1) hat d (List.mem_cons_of_mem _ hd)
  have hfit : Fit s := fun {y c} hc i hi => by
    obtain ⟨ha, rfl⟩ := Array.getElem?_eq_some_iff.mp hc
    have q := List.all_eq_true.mp ((Array.all_eq_true_iff_forall_mem.mp hF) _ (Array.getElem_mem ha)) i (List.mem_range.mpr hi)
    simpa [Array.getElem?_eq_getElem hi] using q
  obtain ⟨i0, ei0⟩ := is_v ga0
  obtain rfl : w0 = (.int i0) := Option.some.inj ei0
  obtain ⟨i1, ei1⟩ := is_v gt1
  obtain rfl : w1 = (.int i1) := Option.some.inj ei1
  obtain ⟨nc0, nt0⟩ := and_e hn
  obtain ⟨nc1, nt1⟩ := and_e nt0
  obtain ⟨nc2, nt2⟩ := and_e nt1
  obtain ⟨nc3, nt3⟩ := and_e nt2
  obtain ⟨nc4, nt4⟩ := and_e nt3
  obtain ⟨nc5, nt5⟩ := and_e nt4
  obtain ⟨nc6, nt6⟩ := and_e nt5
  obtain ⟨nc7, nt7⟩ := and_e nt6
  obtain ⟨nc8, nt8⟩ := and_e nt7
  obtain ⟨nc9, nt9⟩ := and_e nt8
  obtain ⟨nc10, nt10⟩ := and_e nt9
  obtain ⟨nc11, nt11⟩ := and_e nt10
  obtain ⟨nc12, nt12⟩ := and_e nt11
  obtain ⟨nc13, nt13⟩ := and_e nt12
  obtain ⟨nc14, nt14⟩ := and_e nt13
  obtain ⟨r_INT, S_INT, E_INT, ev_INT⟩ := own_sta (a0 := #[]) nc0 (hw _ (List.mem_of_getElem? (i := 5) rfl)) (hw _ (List.mem_of_getElem? (i := 6) rfl))
  obtain ⟨r_XID, S_XID, E_XID, ev_XID⟩ := own_sta (a0 := #[]) nc1 (hw _ (List.mem_of_getElem? (i := 5) rfl)) (hw _ (List.mem_of_getElem? (i := 8) rfl))
  obtain ⟨r_UNKNOWN, S_UNKNOWN, E_UNKNOWN, ev_UNKNOWN⟩ := own_sta (a0 := #[]) nc4 (hw _ (List.mem_of_getElem? (i := 5) rfl)) (hw _ (List.mem_of_getElem? (i := 15) rfl))
  obtain ⟨r_SNAPSHOT, S_SNAPSHOT, E_SNAPSHOT, ev_SNAPSHOT⟩ := own_sta (a0 := #[]) nc6 (hw _ (List.mem_of_getElem? (i := 5) rfl)) (hw _ (List.mem_of_getElem? (i := 17) rfl))
  obtain ⟨r_TEXT, S_TEXT, E_TEXT, ev_TEXT⟩ := own_sta (a0 := #[]) nc7 (hw _ (List.mem_of_getElem? (i := 5) rfl)) (hw _ (List.mem_of_getElem? (i := 19) rfl))
  obtain ⟨r_CID, S_CID, E_CID, ev_CID⟩ := own_sta (a0 := #[]) nc10 (hw _ (List.mem_of_getElem? (i := 5) rfl)) (hw _ (List.mem_of_getElem? (i := 21) rfl))
  obtain ⟨r_TID, S_TID, E_TID, ev_TID⟩ := own_sta (a0 := #[]) nc12 (hw _ (List.mem_of_getElem? (i := 5) rfl)) (hw _ (List.mem_of_getElem? (i := 23) rfl))
  obtain ⟨r_BOOLEAN, S_BOOLEAN, E_BOOLEAN, ev_BOOLEAN⟩ := own_sta (a0 := #[]) nc14 (hw _ (List.mem_of_getElem? (i := 5) rfl)) (hw _ (List.mem_of_getElem? (i := 26) rfl))
  have F_INT_ordinal := own_fld ev_INT nc2
  have F_XID_ordinal := own_fld ev_XID nc3
  have F_UNKNOWN_ordinal := own_fld ev_UNKNOWN nc5
  have F_SNAPSHOT_ordinal := own_fld ev_SNAPSHOT nc8
  have F_TEXT_ordinal := own_fld ev_TEXT nc9
  have F_CID_ordinal := own_fld ev_CID nc11
  have F_TID_ordinal := own_fld ev_TID nc13
  have F_BOOLEAN_ordinal := own_fld ev_BOOLEAN nt14
  obtain ⟨n, o, h1, h2, h3, _, L, rfl, ⟨rfl, N⟩, hq⟩ := rm_law l s _ hw tables_1 i0 i1 r_INT r_TEXT r_BOOLEAN r_XID r_CID r_TID r_SNAPSHOT r_UNKNOWN s.heap s.heap.size (Nat.le_refl _) S_INT S_TEXT S_BOOLEAN S_XID S_CID S_TID S_SNAPSHOT S_UNKNOWN E_INT E_TEXT E_BOOLEAN E_XID E_CID E_TID E_SNAPSHOT E_UNKNOWN F_INT_ordinal F_TEXT_ordinal F_BOOLEAN_ordinal F_XID_ordinal F_CID_ordinal F_TID_ordinal F_SNAPSHOT_ordinal F_UNKNOWN_ordinal p e ha hc hk s m _ below hf ((Spec.applies_iff_loose hf).mp happ).1 ⟨rfl, State.Warmed39.refl s, rfl⟩ trivial
  refine ⟨n, _, h1, h2, h3, hpost _ _ _ _ _ _ ⟨Cond.after_iff.mpr rfl, Cond.after_iff.mpr (eq_i res_at (Term.int_eval (1)) rfl), trivial⟩ ⟨hq.1, hq.2.1, (hq.2.2.sift fun y hy => Or.inr (N y hy)).mono (by decide) (by decide)⟩⟩
theorem main_1_1 : Claimed_1_1 := comes_1 fun _ _ _ _ _ _ h hF => ⟨h.1, hF⟩
theorem main_1_2 : Claimed_1_2 := comes_1 fun _ _ _ _ _ _ h hF => ⟨h.2.1, hF⟩
end Jvm.Pilot.@@N@@
namespace Jvm.Pilot.@@N@@
open Jvm Jvm.ClassFile Sem Op Lib Jvm.Free Jvm.Stand Jvm.Pilot.@@N@@.Jvm.D
/-! MADE BY PROGRAM (witnessworld.py) out of the Statement's table words and the real class files: 12 classes; the members and pool entries that the words name. The judged class is class 1, her method 2. -/
namespace start1
open Jvm.ClassFile
def u (s : String) : CpInfo := .utf8 (stringToUtf16 s)
/-- a pool by its gaps: so many unusable entries, then the entry; so many at the end -/
def gap : Nat → List CpInfo → List CpInfo
  | 0, r => r
  | n + 1, r => .unusable :: gap n r
def poolList (es : List (Nat × CpInfo)) (last : Nat) : List CpInfo := es.foldr (fun e r => gap e.1 (e.2 :: r)) (gap last [])
def pool (es : List (Nat × CpInfo)) (last : Nat) : Array CpInfo := ⟨poolList es last⟩
def fileOf (pool : Array CpInfo) (this : Nat) (attrs : Array Attribute := #[]) (ms : Array MethodInfo := #[]) (fl : Nat := 33) (sup : Nat := 0) (ifs : Array Nat := #[]) (fds : Array FieldInfo := #[]) : ClassFile where
  minorVersion := 0
  majorVersion := 65
  constantPool := pool
  accessFlags := fl
  thisClass := this
  superClass := sup
  interfaces := ifs
  fields := fds
  methods := ms
  attributes := attrs
def plain (name : String) (sup : Option ClassId) : Class where
  name := name
  kind := .ordinary
  loader := none
  accessFlags := 33
  super := sup
  interfaces := #[]
  cf := none
  fields := #[]
  methods := #[]
  instanceTypes := #[]
  staticTypes := #[]
  resolved := #[]
  callSites := []
  init := .initialized
  statics := none
  mirror := none

def pool0 : Array CpInfo := pool [(5, u "<init>"), (0, u "()V"), (1, .class_ 10), (1, u "java/lang/Object")] 113

def k0m0 : Method := { name := "<init>", desc := "()V", sig := { parameters := [], returnType := none }, accessFlags := 1, code := none }
/-- java/lang/Object -/
def k0 : Class := { plain "java/lang/Object" none with
  accessFlags := 33
  interfaces := #[]
  cf := some (fileOf pool0 8 #[] #[{ accessFlags := 1, nameIndex := 5, descriptorIndex := 6, attributes := #[] }] 33 0 #[] #[])
  fields := #[]
  methods := #[k0m0]
  instanceTypes := #[]
  staticTypes := #[]
  resolved := Array.replicate 124 none
  statics := none }

def pool1 : Array CpInfo := pool [(2, .class_ 4), (1, u "java/lang/Object"), (0, u "<init>"), (0, u "()V"), (0, .fieldref 8 9), (0, .class_ 10), (0, .nameAndType 11 12), (0, u "com/example/plain_snapshot/plainsnapshot/sql/Type"), (0, u "INT"), (0, u "Lcom/example/plain_snapshot/plainsnapshot/sql/Type;"), (0, .fieldref 8 14), (0, .nameAndType 15 12), (0, u "TEXT"), (0, .fieldref 8 17), (0, .nameAndType 18 12), (0, u "BOOLEAN"), (0, .fieldref 8 20), (0, .nameAndType 21 12), (0, u "XID"), (0, .fieldref 8 23), (0, .nameAndType 24 12), (0, u "CID"), (0, .fieldref 8 26), (0, .nameAndType 27 12), (0, u "TID"), (0, .fieldref 8 29), (0, .nameAndType 30 12), (0, u "SNAPSHOT"), (0, .fieldref 8 32), (0, .nameAndType 33 12), (0, u "UNKNOWN"), (0, .methodref 35 36), (0, .class_ 37), (0, .nameAndType 38 39), (0, u "com/example/plain_snapshot/plainsnapshot/sql/TypeFitsPinLaw"), (0, u "pick"), (0, u "(I)Lcom/example/plain_snapshot/plainsnapshot/sql/Type;"), (0, .methodref 8 41), (0, .nameAndType 42 43), (0, u "fits"), (0, u "(Lcom/example/plain_snapshot/plainsnapshot/sql/Type;)Z"), (3, u "law"), (0, u "(II)Z")] 2

def k1m0 : Method := { name := "<init>", desc := "()V", sig := { parameters := [], returnType := none }, accessFlags := 2, code := none }
def k1c1 : Code := { maxStack := 2, maxLocals := 2, code := method_2_code, exceptionTable := #[], attributes := #[] }
def k1m1 : Method := { name := "pick", desc := "(I)Lcom/example/plain_snapshot/plainsnapshot/sql/Type;", sig := { parameters := [.int], returnType := some (.object "com/example/plain_snapshot/plainsnapshot/sql/Type") }, accessFlags := 10, code := some k1c1 }
def k1c2 : Code := { maxStack := 2, maxLocals := 7, code := code, exceptionTable := #[], attributes := #[] }
def k1m2 : Method := { name := "law", desc := "(II)Z", sig := { parameters := [.int, .int], returnType := some .boolean }, accessFlags := 9, code := some k1c2 }
/-- com/example/plain_snapshot/plainsnapshot/sql/TypeFitsPinLaw -/
def k1 : Class := { plain "com/example/plain_snapshot/plainsnapshot/sql/TypeFitsPinLaw" (some 0) with
  accessFlags := 49
  interfaces := #[]
  cf := some (fileOf pool1 35 #[] #[{ accessFlags := 2, nameIndex := 5, descriptorIndex := 6, attributes := #[] }, { accessFlags := 10, nameIndex := 38, descriptorIndex := 39, attributes := #[] }, { accessFlags := 9, nameIndex := 47, descriptorIndex := 48, attributes := #[] }] 49 2 #[] #[])
  fields := #[]
  methods := #[k1m0, k1m1, k1m2]
  instanceTypes := #[]
  staticTypes := #[]
  resolved := Array.replicate 51 none
  statics := none }

def pool2 : Array CpInfo := pool [(1, .class_ 2), (0, u "java/lang/constant/Constable"), (0, .class_ 4), (0, u "java/lang/Object")] 6

/-- java/lang/constant/Constable -/
def k2 : Class := { plain "java/lang/constant/Constable" (some 0) with
  accessFlags := 1537
  interfaces := #[]
  cf := some (fileOf pool2 1 #[] #[] 1537 3 #[] #[])
  fields := #[]
  methods := #[]
  instanceTypes := #[]
  staticTypes := #[]
  resolved := Array.replicate 11 none
  statics := none }

def pool3 : Array CpInfo := pool [(1, .class_ 2), (0, u "java/lang/Comparable"), (0, .class_ 4), (0, u "java/lang/Object")] 7

/-- java/lang/Comparable -/
def k3 : Class := { plain "java/lang/Comparable" (some 0) with
  accessFlags := 1537
  interfaces := #[]
  cf := some (fileOf pool3 1 #[] #[] 1537 3 #[] #[])
  fields := #[]
  methods := #[]
  instanceTypes := #[]
  staticTypes := #[]
  resolved := Array.replicate 12 none
  statics := none }

def pool4 : Array CpInfo := pool [(1, .class_ 2), (0, u "java/io/Serializable"), (0, .class_ 4), (0, u "java/lang/Object")] 2

/-- java/io/Serializable -/
def k4 : Class := { plain "java/io/Serializable" (some 0) with
  accessFlags := 1537
  interfaces := #[]
  cf := some (fileOf pool4 1 #[] #[] 1537 3 #[] #[])
  fields := #[]
  methods := #[]
  instanceTypes := #[]
  staticTypes := #[]
  resolved := Array.replicate 7 none
  statics := none }

def pool5 : Array CpInfo := pool [(2, .class_ 4), (1, u "java/lang/Enum"), (0, u "name"), (0, u "Ljava/lang/String;"), (2, u "ordinal"), (0, u "I"), (1, .class_ 14), (1, u "java/lang/Object"), (4, u "hash"), (86, .class_ 108), (1, u "java/lang/Enum$EnumDesc"), (2, .class_ 112), (0, u "java/lang/constant/Constable"), (0, .class_ 114), (0, u "java/lang/Comparable"), (0, .class_ 116), (0, u "java/io/Serializable")] 87

/-- java/lang/Enum -/
def k5 : Class := { plain "java/lang/Enum" (some 0) with
  accessFlags := 1057
  interfaces := #[2, 3, 4]
  cf := some (fileOf pool5 2 #[.nestMembers #[106]] #[] 1057 12 #[111, 113, 115] #[{ accessFlags := 18, nameIndex := 5, descriptorIndex := 6, attributes := #[] }, { accessFlags := 18, nameIndex := 9, descriptorIndex := 10, attributes := #[] }, { accessFlags := 2, nameIndex := 19, descriptorIndex := 10, attributes := #[] }])
  fields := #[{ name := "name", type := (.object "java/lang/String"), accessFlags := 18, slot := 0, constantValue := 0 }, { name := "ordinal", type := .int, accessFlags := 18, slot := 1, constantValue := 0 }, { name := "hash", type := .int, accessFlags := 2, slot := 2, constantValue := 0 }]
  methods := #[]
  instanceTypes := #[(.object "java/lang/String"), .int, .int]
  staticTypes := #[]
  resolved := Array.replicate 204 none
  statics := none }

def pool6 : Array CpInfo := pool [(1, .class_ 2), (0, u "com/example/plain_snapshot/plainsnapshot/sql/Type"), (2, u "INT"), (0, u "Lcom/example/plain_snapshot/plainsnapshot/sql/Type;"), (2, u "TEXT"), (2, u "BOOLEAN"), (2, u "XID"), (2, u "CID"), (2, u "TID"), (2, u "SNAPSHOT"), (0, .fieldref 1 26), (0, .nameAndType 27 6), (0, u "UNKNOWN"), (2, u "$VALUES"), (0, u "[Lcom/example/plain_snapshot/plainsnapshot/sql/Type;"), (6, .class_ 40), (1, u "java/lang/Enum"), (8, u "typeName"), (0, u "Ljava/lang/String;"), (2, u "DECLARED"), (0, u "Ljava/util/Map;"), (98, u "fits"), (0, u "(Lcom/example/plain_snapshot/plainsnapshot/sql/Type;)Z")] 106

def k6c0 : Code := { maxStack := 2, maxLocals := 2, code := prog_146_method_8_code, exceptionTable := #[], attributes := #[] }
def k6m0 : Method := { name := "fits", desc := "(Lcom/example/plain_snapshot/plainsnapshot/sql/Type;)Z", sig := { parameters := [(.object "com/example/plain_snapshot/plainsnapshot/sql/Type")], returnType := some .boolean }, accessFlags := 0, code := some k6c0 }
/-- com/example/plain_snapshot/plainsnapshot/sql/Type -/
def k6 : Class := { plain "com/example/plain_snapshot/plainsnapshot/sql/Type" (some 5) with
  accessFlags := 16433
  interfaces := #[]
  cf := some (fileOf pool6 1 #[] #[{ accessFlags := 0, nameIndex := 153, descriptorIndex := 154, attributes := #[] }] 16433 38 #[] #[{ accessFlags := 16409, nameIndex := 5, descriptorIndex := 6, attributes := #[] }, { accessFlags := 16409, nameIndex := 9, descriptorIndex := 6, attributes := #[] }, { accessFlags := 16409, nameIndex := 12, descriptorIndex := 6, attributes := #[] }, { accessFlags := 16409, nameIndex := 15, descriptorIndex := 6, attributes := #[] }, { accessFlags := 16409, nameIndex := 18, descriptorIndex := 6, attributes := #[] }, { accessFlags := 16409, nameIndex := 21, descriptorIndex := 6, attributes := #[] }, { accessFlags := 16409, nameIndex := 24, descriptorIndex := 6, attributes := #[] }, { accessFlags := 16409, nameIndex := 27, descriptorIndex := 6, attributes := #[] }, { accessFlags := 26, nameIndex := 53, descriptorIndex := 54, attributes := #[] }, { accessFlags := 18, nameIndex := 49, descriptorIndex := 50, attributes := #[] }, { accessFlags := 4122, nameIndex := 30, descriptorIndex := 31, attributes := #[] }])
  fields := #[{ name := "INT", type := (.object "com/example/plain_snapshot/plainsnapshot/sql/Type"), accessFlags := 16409, slot := 0, constantValue := 0 }, { name := "TEXT", type := (.object "com/example/plain_snapshot/plainsnapshot/sql/Type"), accessFlags := 16409, slot := 1, constantValue := 0 }, { name := "BOOLEAN", type := (.object "com/example/plain_snapshot/plainsnapshot/sql/Type"), accessFlags := 16409, slot := 2, constantValue := 0 }, { name := "XID", type := (.object "com/example/plain_snapshot/plainsnapshot/sql/Type"), accessFlags := 16409, slot := 3, constantValue := 0 }, { name := "CID", type := (.object "com/example/plain_snapshot/plainsnapshot/sql/Type"), accessFlags := 16409, slot := 4, constantValue := 0 }, { name := "TID", type := (.object "com/example/plain_snapshot/plainsnapshot/sql/Type"), accessFlags := 16409, slot := 5, constantValue := 0 }, { name := "SNAPSHOT", type := (.object "com/example/plain_snapshot/plainsnapshot/sql/Type"), accessFlags := 16409, slot := 6, constantValue := 0 }, { name := "UNKNOWN", type := (.object "com/example/plain_snapshot/plainsnapshot/sql/Type"), accessFlags := 16409, slot := 7, constantValue := 0 }, { name := "DECLARED", type := (.object "java/util/Map"), accessFlags := 26, slot := 8, constantValue := 0 }, { name := "typeName", type := (.object "java/lang/String"), accessFlags := 18, slot := 3, constantValue := 0 }, { name := "$VALUES", type := (.array (.object "com/example/plain_snapshot/plainsnapshot/sql/Type")), accessFlags := 4122, slot := 9, constantValue := 0 }]
  methods := #[k6m0]
  instanceTypes := #[(.object "java/lang/String"), .int, .int, (.object "java/lang/String")]
  staticTypes := #[(.object "com/example/plain_snapshot/plainsnapshot/sql/Type"), (.object "com/example/plain_snapshot/plainsnapshot/sql/Type"), (.object "com/example/plain_snapshot/plainsnapshot/sql/Type"), (.object "com/example/plain_snapshot/plainsnapshot/sql/Type"), (.object "com/example/plain_snapshot/plainsnapshot/sql/Type"), (.object "com/example/plain_snapshot/plainsnapshot/sql/Type"), (.object "com/example/plain_snapshot/plainsnapshot/sql/Type"), (.object "com/example/plain_snapshot/plainsnapshot/sql/Type"), (.object "java/util/Map"), (.array (.object "com/example/plain_snapshot/plainsnapshot/sql/Type"))]
  resolved := Array.replicate 261 none
  statics := some 0 }

def pool7 : Array CpInfo := pool [(1, u "java/lang/Cloneable"), (0, .class_ 1), (0, u "java/lang/Object"), (0, .class_ 3)] 3

/-- java/lang/Cloneable -/
def k7 : Class := { plain "java/lang/Cloneable" (some 0) with
  accessFlags := 1537
  interfaces := #[]
  cf := some (fileOf pool7 2 #[] #[] 1537 4 #[] #[])
  fields := #[]
  methods := #[]
  instanceTypes := #[]
  staticTypes := #[]
  resolved := Array.replicate 8 none
  statics := none }

/-- the primitive byte -/
def k8 : Class := { plain "byte" none with kind := .primitive 'B', accessFlags := 0x411 }
/-- [B -/
def k9 : Class := { plain "[B" (some 0) with kind := .array 8 .byte, interfaces := #[7, 4], accessFlags := 1041 }

/-- the primitive int -/
def k10 : Class := { plain "int" none with kind := .primitive 'I', accessFlags := 0x411 }
/-- [I -/
def k11 : Class := { plain "[I" (some 0) with kind := .array 10 .int, interfaces := #[7, 4], accessFlags := 1041 }

def heap : Heap := #[{ cls := 6, slots := #[.ref 1, .ref 2, .ref 3, .ref 4, .ref 5, .ref 6, .ref 7, .ref 8, .null, .null], vm := .statics 6 },
  { cls := 6, slots := #[.null, .int 0, .int 0, .null], vm := .none },
  { cls := 6, slots := #[.null, .int 1, .int 0, .null], vm := .none },
  { cls := 6, slots := #[.null, .int 2, .int 0, .null], vm := .none },
  { cls := 6, slots := #[.null, .int 3, .int 0, .null], vm := .none },
  { cls := 6, slots := #[.null, .int 4, .int 0, .null], vm := .none },
  { cls := 6, slots := #[.null, .int 5, .int 0, .null], vm := .none },
  { cls := 6, slots := #[.null, .int 6, .int 0, .null], vm := .none },
  { cls := 6, slots := #[.null, .int 7, .int 0, .null], vm := .none }]
def classes : Array Class := #[k0, k1, k2, k3, k4, k5, k6, k7, k8, k9, k10, k11]
def interned : List (Array UInt16 × Addr) := []
def slotsUsed : Nat := 42
def theMethod : MethodId := ⟨1, 2⟩
def args0 : Array Value := #[.int 5, .int 6]
def aboutOver (below : List Frame) : State where
  vm := { classes := classes, interned := interned.toArray }
  heap := heap
  slotsUsed := slotsUsed
  threads := #[{ frames := .invoking theMethod args0 :: below }]
def below0 : List Frame := [.native { method := ⟨0, 0⟩, args := #[] }]
def about1 : State := aboutOver below0
def p0 : Program := .bare "" "" ""
def e0 : Env := launch0.env 0 0 0
theorem w_frames : about1.frames = Frame.invoking theMethod args0 :: below0 := rfl
set_option maxRecDepth 65536 in
theorem w_args : argsFit about1.vm theMethod args0 = true := by decide +kernel
set_option maxRecDepth 65536 in
theorem w_heap : heapFits about1 = true := by decide +kernel
set_option maxRecDepth 65536 in
theorem w_runnable : about1.curStatus? = some .runnable := by decide +kernel
set_option maxRecDepth 65536 in
theorem w_alone : about1.alone = true := by decide +kernel
set_option maxRecDepth 65536 in
theorem w_named : about1.methodNamed? x = some theMethod := by decide +kernel
set_option maxRecDepth 65536 in
theorem w_hears : about1.hears theMethod below0 = true := by decide +kernel
set_option maxRecDepth 65536 in
theorem w_ripe : about1.ripe theMethod args0 below0 = true := by decide +kernel
theorem w_running : about1.status = .running := rfl
set_option maxRecDepth 65536 in
theorem w_room : about1.hasRoom e0.platform room_1 = true :=
  launch0.hasRoom_least _ room_1 (by decide +kernel) (by decide +kernel) (by decide +kernel) (by decide +kernel) (by decide +kernel) (by decide +kernel)
theorem allAtoms_all (ts : List Jvm.Cond) (a : Array Jvm.Value) (st : Jvm.State) : (allAtoms ts).before a st = ts.all (fun c => c.before a st) := by
  induction ts with
  | nil => rfl
  | cons c t ih =>
    show (Jvm.Cond.and c (allAtoms t)).before a st = _
    rw [Jvm.Cond.before_and, ih, List.all_cons]
def words1 : List Jvm.Cond := Jvm.Cond.code x code maxLocals ret :: tables_1
/-- a 'code' word, met by the world's own term for the bytes: nothing is compared byte by byte -/
theorem code_word {y : MethodName} {bytes : ByteArray} {mx : Nat} {rt : Option FieldType} {a : Array Value} {s : State} {m : MethodId} {meth : Method} {c : Code} (h1 : s.methodNamed? y = some m) (h2 : s.vm.method? m = some meth) (h3 : meth.code = some c) (h4 : c.code = bytes)
    (h5 : (c.maxLocals == mx && c.exceptionTable.isEmpty && decide (c.maxStack ≤ mostOperands) && decide (meth.sig.returnType = rt) && !meth.locks && decide (parseMethodDescriptor y.desc = some meth.sig)) = true) : (Jvm.Cond.code y bytes mx rt).before a s = true := by
  simp only [Bool.and_eq_true, beq_iff_eq, Bool.not_eq_true', decide_eq_true_eq] at h5
  obtain ⟨⟨⟨⟨⟨g1, g2⟩, g3⟩, g4⟩, g5⟩, g6⟩ := h5
  simp [Cond.before, Cond.holds, Cond.value, h1, h2, h3, h4, g1, g2, g3, g4, g5, g6]
def isCode : Jvm.Cond → Bool
  | .code _ _ _ _ => true
  | _ => false
theorem all_split {L : List Jvm.Cond} {P : Jvm.Cond → Bool} (h1 : L.all (fun c => isCode c || P c) = true) (h2 : ∀ c ∈ L.filter isCode, P c = true) : L.all P = true := by
  refine List.all_eq_true.mpr fun c hc => ?_
  have h := List.all_eq_true.mp h1 c hc
  rcases Bool.eq_false_or_eq_true (isCode c) with hi | hi
  · exact h2 c (List.mem_filter.mpr ⟨hc, hi⟩)
  · simpa [hi] using h
set_option maxRecDepth 65536 in
theorem w_c0 : (Jvm.Cond.code x code maxLocals ret).before args0 about1 = true := code_word (m := ⟨1, 2⟩) (meth := k1m2) (c := k1c2) (by decide +kernel) rfl rfl rfl (by decide +kernel)
set_option maxRecDepth 65536 in
theorem w_c1 : (Jvm.Cond.code ({ cls := "com/example/plain_snapshot/plainsnapshot/sql/TypeFitsPinLaw", name := "pick", desc := "(I)Lcom/example/plain_snapshot/plainsnapshot/sql/Type;" } : Jvm.MethodName) method_2_code (2 : Nat) (Option.some (Jvm.ClassFile.FieldType.object "com/example/plain_snapshot/plainsnapshot/sql/Type"))).before args0 about1 = true := code_word (m := ⟨1, 1⟩) (meth := k1m1) (c := k1c1) (by decide +kernel) rfl rfl rfl (by decide +kernel)
set_option maxRecDepth 65536 in
theorem w_c2 : (Jvm.Cond.code ({ cls := "com/example/plain_snapshot/plainsnapshot/sql/Type", name := "fits", desc := "(Lcom/example/plain_snapshot/plainsnapshot/sql/Type;)Z" } : Jvm.MethodName) prog_146_method_8_code (2 : Nat) (Option.some Jvm.ClassFile.FieldType.boolean)).before args0 about1 = true := code_word (m := ⟨6, 0⟩) (meth := k6m0) (c := k6c0) (by decide +kernel) rfl rfl rfl (by decide +kernel)
def codes1 : List Jvm.Cond := [Jvm.Cond.code x code maxLocals ret, Jvm.Cond.code ({ cls := "com/example/plain_snapshot/plainsnapshot/sql/TypeFitsPinLaw", name := "pick", desc := "(I)Lcom/example/plain_snapshot/plainsnapshot/sql/Type;" } : Jvm.MethodName) method_2_code (2 : Nat) (Option.some (Jvm.ClassFile.FieldType.object "com/example/plain_snapshot/plainsnapshot/sql/Type")), Jvm.Cond.code ({ cls := "com/example/plain_snapshot/plainsnapshot/sql/Type", name := "fits", desc := "(Lcom/example/plain_snapshot/plainsnapshot/sql/Type;)Z" } : Jvm.MethodName) prog_146_method_8_code (2 : Nat) (Option.some Jvm.ClassFile.FieldType.boolean)]
set_option maxRecDepth 65536 in
theorem codes_eq : words1.filter isCode = codes1 := rfl
theorem w_codes : ∀ c ∈ words1.filter isCode, c.before args0 about1 = true := by
  rw [codes_eq]
  intro c hc
  simp only [codes1, List.mem_cons, List.not_mem_nil, or_false] at hc
  rcases hc with rfl | rfl | rfl
  · exact w_c0
  · exact w_c1
  · exact w_c2
set_option maxRecDepth 65536 in
theorem w_t1 : (words1.take 24).all (fun c => isCode c || c.before args0 about1) = true := by decide +kernel
set_option maxRecDepth 65536 in
theorem w_t2 : (words1.drop 24).all (fun c => isCode c || c.before args0 about1) = true := by decide +kernel
theorem w_tables : (allAtoms (Jvm.Cond.code x code maxLocals ret :: tables_1)).before args0 about1 = true := by
  rw [allAtoms_all]
  show words1.all (fun c => c.before args0 about1) = true
  refine all_split ?_ w_codes
  rw [← List.take_append_drop 24 words1, List.all_append, w_t1, w_t2]
  rfl
set_option maxRecDepth 65536 in
theorem w_case : (Jvm.Cond.and given_1 narrow_1).before args0 about1 = true := by decide +kernel
theorem w_applies : (headSpec (Jvm.Cond.code x code maxLocals ret :: tables_1) room_1).applies x e0.platform about1 = true :=
  (Spec.applies_iff w_frames).mpr ⟨w_running, w_runnable, w_alone, w_named, w_hears, w_ripe, w_room, w_tables⟩
theorem atStart : AtStart classFile x code maxLocals ret World_1 tables_1 room_1 Calls_1 rest_1 Pre_1 launch0 p0 e0 about1 theMethod args0 below0 :=
  ⟨lists_1, trivial, launch0.admits_env _ _ _, launch0.least_env, fairChoices_fair.cas, fairChoices_fair.clock, w_frames, w_args, w_heap, w_applies, trivial, trivial, w_case⟩
end start1
theorem witness_1 : WitnessClaimed_1 := ⟨start1.p0, start1.e0, start1.about1, start1.theMethod, start1.args0, start1.below0, start1.atStart⟩
end Jvm.Pilot.@@N@@
