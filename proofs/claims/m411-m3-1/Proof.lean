import JvmDerived
import JvmDerived.Pilot.@@N@@Statement
import JvmDerived.Pilot.@@N@@Code
set_option linter.unusedVariables false
set_option linter.unusedSimpArgs false
namespace Jvm.RoadKit
open Sem ClassFile Op Lib Jvm.Stand Jvm.Free Jvm.LawKit
section New
variable {p : Program} {l : Launch} {e : Env} {R : Room} {s : State} {m : MethodId} {args : Array Value} {below : List Frame} {meth : Method} {c : Code} {T : State} {locs : List Loc} {cells slots : Nat}
theorem retI (X : Stand p l e R s m args below meth c T locs cells slots) (hx : p.tables.exec = Jvm.exec) {pc : Nat} {Ls : Array Slot} {z : Int32} {rest : List Value} (hret : meth.sig.returnType = some .int) (hd : decode c.code pc = .ok (.ireturn, 1)) {fs : List Frame}
    (hl : ∀ (f : JFrame) (acts : List Action), f.method = m → f.locked = none → f.entered = [] → (doReturn e (T.setTop f) acts (some (.int z))).1 = T.setFrames fs) : Steps p.tables e below (T.setTop (mkF m pc Ls (.int z :: rest))) (T.setFrames fs) := by
  have hm' : T.vm.method? m = some meth := X.method'
  have hn : narrow .int (.int z) = .int z := rfl
  show Steps p.tables e below (T.setTop { method := m, pc := pc, locals := Ls, stack := _ :: rest, locked := none }) _
  jvm_step X.here [X.here.top, hx, hd, hm', hret, hn]
  first | (intro acts; rw [hl _ acts rfl rfl rfl]) | rw [hl _ _ rfl rfl rfl]
  exact Steps.refl _
end New
end Jvm.RoadKit
namespace Jvm.Pilot.@@N@@
open Jvm Jvm.ClassFile Sem Op Lib Jvm.Free Jvm.Stand Jvm.LawKit Jvm.RoadKit Bundle Jvm.Pilot.@@N@@.Jvm.D
theorem mgE {A : Type} {l : List A} {a : A} (i : Nat) (h : l[i]? = some a) : a ∈ l := List.mem_of_getElem? h

theorem own_fe {args : Array Value} {s : State} {t : Term} {a : Addr} {C n d : String} {k : Int32} (ev : t.eval args s none [] s = some (.ref a)) (h : (Jvm.Cond.eq (.field t C n d) (.int k)).value args s none s [] = some true) : Fld s s.heap a C n d (.int k) := by
  obtain ⟨x, y, h1, h2, k1, k2⟩ := cmp_v (Or.inl h)
  have h3 : y = .int k := (Option.some.inj ((Term.int_eval k).symm.trans h2)).symm
  subst h3
  obtain ⟨z, rfl⟩ := k2
  have h4 : z = k := by simpa [Cond.value, h1, h2] using h
  subst h4
  rw [fld_at ev] at h1
  exact Fld.start h1

theorem d1_0 : decode prog_61_method_4_code 0 = .ok (.aload_n 0, 1) := by decide +kernel
theorem d1_1 : decode prog_61_method_4_code 1 = .ok (.getstatic 3, 3) := by decide +kernel
theorem d1_4 : decode prog_61_method_4_code 4 = .ok (.if_acmp .eq 10, 3) := by decide +kernel
theorem d1_7 : decode prog_61_method_4_code 7 = .ok (.aload_n 0, 1) := by decide +kernel
theorem d1_8 : decode prog_61_method_4_code 8 = .ok (.getstatic 7, 3) := by decide +kernel
theorem d1_11 : decode prog_61_method_4_code 11 = .ok (.if_acmp .ne 7, 3) := by decide +kernel
theorem d1_14 : decode prog_61_method_4_code 14 = .ok (.iconst 1, 1) := by decide +kernel
theorem d1_15 : decode prog_61_method_4_code 15 = .ok (.goto 4, 3) := by decide +kernel
theorem d1_18 : decode prog_61_method_4_code 18 = .ok (.iconst 0, 1) := by decide +kernel
theorem d1_19 : decode prog_61_method_4_code 19 = .ok (.ireturn, 1) := by decide +kernel
theorem pn_com_example_transnum_transnum_model_MessageType_Status : plainName "com/example/transnum/transnum/model/MessageType$Status" = true := by first | (simp [plainName, overriddenIn]; done) | decide +kernel
theorem ef_1 (m : MethodId) (x0 : Addr) : entryFrame m #[(.ref x0)] 1 = mkF m 0 #[.val (.ref x0)] [] := by first | (simp [entryFrame, mkF, argsToLocals, Value.category]; done) | rfl
def r1 (a1 : Addr) (s_MANDATORY : Addr) (s_OPTIONAL : Addr) : Int32 := (if a1 = s_MANDATORY then (1 : Int32) else (if a1 = s_OPTIONAL then (1 : Int32) else (0 : Int32)))
def Q1 (Z : State) (a1 : Addr) (s_MANDATORY : Addr) (s_OPTIONAL : Addr) (h0 : Heap) (n0 : Nat) (v : Option Value) (h : Heap) (L : List Loc) : Prop := v = some (.int (r1 a1 s_MANDATORY s_OPTIONAL)) ∧ Fr n0 L ∧ h = h0
set_option maxRecDepth 65536 in
set_option maxHeartbeats 40000000 in
theorem rm1 (l : Launch) (Z : State) (a0 : Array Value) (hw : ∀ d ∈ tables_1, d.before a0 Z = true) (ws : List Jvm.Cond) (a1 : Addr) (s_MANDATORY : Addr) (s_OPTIONAL : Addr) (h0 : Heap) (n0 : Nat) (Z0 : n0 ≤ h0.size) (S_MANDATORY : Sta Z h0 "com/example/transnum/transnum/model/MessageType$Status" "MANDATORY" "Lcom/example/transnum/transnum/model/MessageType$Status;" (.ref s_MANDATORY)) (S_OPTIONAL : Sta Z h0 "com/example/transnum/transnum/model/MessageType$Status" "OPTIONAL" "Lcom/example/transnum/transnum/model/MessageType$Status;" (.ref s_OPTIONAL)) :
    MetFree l (⟨"com/example/transnum/transnum/model/MessageType$Status", "allowed", "()Z"⟩ : MethodName) (head1 (Jvm.Cond.code (⟨"com/example/transnum/transnum/model/MessageType$Status", "allowed", "()Z"⟩ : MethodName) prog_61_method_4_code 1 (some .boolean) :: ws) ({ frames := 0, cells := 0, slots := 0, locals := 0 } : Room)) (fun a U => a = #[(.ref a1)] ∧ Z.Warmed39 U.vm ∧ U.heap = h0) (fun _ _ _ _ _ => True) (fun _ U o U' => ∃ v L, o = .returned v ∧ Q1 Z a1 s_MANDATORY s_OPTIONAL h0 n0 v U'.heap L ∧ FrameEnd U o U' L ({ frames := 0, cells := 0, slots := 0, locals := 0 } : Room).cells ({ frames := 0, cells := 0, slots := 0, locals := 0 } : Room).slots) := by
  refine MetFree.of_bodySF (plainFor_of_name pn_com_example_transnum_transnum_model_MessageType_Status) hisR ?_
  intro p e s m args below meth c s₁ Bd hml0 hP hK
  obtain ⟨rfl, hZ, hh⟩ := hP
  have hx := Bd.exec
  have hby := Bd.bytes
  have hml : c.maxLocals = 1 := hml0
  have hown : s.vm.findClass "com/example/transnum/transnum/model/MessageType$Status" = some m.cls := findClass_of_methodNamed Bd.named
  have hnm := (name_of_methodNamed Bd.named Bd.method).1
  have X0 : Stand p l e ({ frames := 0, cells := 0, slots := 0, locals := 0 } : Room) s m #[(.ref a1)] below meth c s₁ [] 0 0 := Stand.of_body Bd
  have e0 : s₁.heap = h0 := by rw [← hh, Bd.state]; rfl
  have N0 := Fr.nil n0
  have pre0 : ∀ t, Steps p.tables e below (s₁.setTop (mkF m 0 #[.val (.ref a1)] [])) t → Steps p.tables e below (s₁.setTop (entryFrame m #[(.ref a1)] 1)) t := fun t k => castTop (ef_1 m a1) k
  have pre1 : ∀ t, Steps p.tables e below (s₁.setTop (mkF m 1 #[.val (.ref a1)] [(.ref a1)])) t → Steps p.tables e below (s₁.setTop (entryFrame m #[(.ref a1)] 1)) t := fun t kt => by
    refine pre0 t ?_
    refine XS.aloadN X0.here hx rfl (hb hby d1_0) rfl rfl ?_
    show Steps p.tables e below (s₁.setTop (mkF m 1 #[.val (.ref a1)] [(.ref a1)])) _
    exact kt
  obtain ⟨T2, X2, e2, st2⟩ := getS2 X0 hx hZ hown (host := "") (Or.inl (hw _ (mgE 8 rfl))) Via.refl e0 S_MANDATORY (g := (mkF m 1 #[.val (.ref a1)] [(.ref a1)])) rfl (hb hby d1_1)
  have pre3 : ∀ t, Steps p.tables e below (T2.setTop (mkF m 4 #[.val (.ref a1)] [(.ref s_MANDATORY), (.ref a1)])) t → Steps p.tables e below (s₁.setTop (entryFrame m #[(.ref a1)] 1)) t := fun t kt => pre1 t (st2 t kt)
  by_cases ha4 : a1 = s_MANDATORY
  · skip
    have pre4 : ∀ t, Steps p.tables e below (T2.setTop (mkF m 19 #[.val (.ref a1)] [(.int (1 : Int32))])) t → Steps p.tables e below (s₁.setTop (entryFrame m #[(.ref a1)] 1)) t := fun t kt => by
      refine pre3 t ?_
      refine Jvm.RoadKit.acmp (g := (mkF m 4 #[.val (.ref a1)] [(.ref s_MANDATORY), (.ref a1)])) X2 hx rfl rfl rfl (pc0 := 4) (pc' := 14) (same := true) rfl (hb hby d1_4) rfl (decide_eq_true (congrArg Value.ref ha4)) (by decide) (by decide) ?_
      show Steps p.tables e below (T2.setTop (mkF m 14 #[.val (.ref a1)] [])) _
      refine XS.iconst X2.here hx rfl (hb hby d1_14) ?_
      show Steps p.tables e below (T2.setTop (mkF m 15 #[.val (.ref a1)] [(.int (1 : Int32))])) _
      refine XS.goto X2.here hx rfl (pc0 := 15) (pc' := 19) rfl (hb hby d1_15) (by decide) (by decide) ?_
      show Steps p.tables e below (T2.setTop (mkF m 19 #[.val (.ref a1)] [(.int (1 : Int32))])) _
      exact kt
    obtain ⟨fs, hr, hrun, hended, hW, hsame⟩ := X2.leave (v := some (.int (1 : Int32))) (fun h => by rw [Bd.returns] at h; cases h)
    refine ⟨_, _, pre4 _ ?_, hrun, hended, _, _, rfl, ?_, ⟨_, rfl⟩, hW, hsame.mono (by decide) (by decide)⟩
    · exact retN X2 hx (t := .boolean) Bd.returns (by simp) (hb hby d1_19) hr
    · show Q1 Z a1 s_MANDATORY s_OPTIONAL h0 n0 _ T2.heap _
      rw [e2]
      exact ⟨by first | rfl | (simp only [r1, if_pos ha4]), N0, rfl⟩
  · skip
    have pre5 : ∀ t, Steps p.tables e below (T2.setTop (mkF m 8 #[.val (.ref a1)] [(.ref a1)])) t → Steps p.tables e below (s₁.setTop (entryFrame m #[(.ref a1)] 1)) t := fun t kt => by
      refine pre3 t ?_
      refine Jvm.RoadKit.acmp (g := (mkF m 4 #[.val (.ref a1)] [(.ref s_MANDATORY), (.ref a1)])) X2 hx rfl rfl rfl (pc0 := 4) (pc' := 7) (same := false) rfl (hb hby d1_4) rfl (decide_eq_false fun q => ha4 (Value.ref.inj q)) (by decide) (by decide) ?_
      show Steps p.tables e below (T2.setTop (mkF m 7 #[.val (.ref a1)] [])) _
      refine XS.aloadN X2.here hx rfl (hb hby d1_7) rfl rfl ?_
      show Steps p.tables e below (T2.setTop (mkF m 8 #[.val (.ref a1)] [(.ref a1)])) _
      exact kt
    obtain ⟨T6, X6, e6, st6⟩ := getS2 X2 hx hZ hown (host := "") (Or.inl (hw _ (mgE 11 rfl))) Via.refl e2 S_OPTIONAL (g := (mkF m 8 #[.val (.ref a1)] [(.ref a1)])) rfl (hb hby d1_8)
    have pre7 : ∀ t, Steps p.tables e below (T6.setTop (mkF m 11 #[.val (.ref a1)] [(.ref s_OPTIONAL), (.ref a1)])) t → Steps p.tables e below (s₁.setTop (entryFrame m #[(.ref a1)] 1)) t := fun t kt => pre5 t (st6 t kt)
    by_cases ha11 : a1 = s_OPTIONAL
    · skip
      have pre8 : ∀ t, Steps p.tables e below (T6.setTop (mkF m 19 #[.val (.ref a1)] [(.int (1 : Int32))])) t → Steps p.tables e below (s₁.setTop (entryFrame m #[(.ref a1)] 1)) t := fun t kt => by
        refine pre7 t ?_
        refine Jvm.RoadKit.acmp (g := (mkF m 11 #[.val (.ref a1)] [(.ref s_OPTIONAL), (.ref a1)])) X6 hx rfl rfl rfl (pc0 := 11) (pc' := 14) (same := true) rfl (hb hby d1_11) rfl (decide_eq_true (congrArg Value.ref ha11)) (by decide) (by decide) ?_
        show Steps p.tables e below (T6.setTop (mkF m 14 #[.val (.ref a1)] [])) _
        refine XS.iconst X6.here hx rfl (hb hby d1_14) ?_
        show Steps p.tables e below (T6.setTop (mkF m 15 #[.val (.ref a1)] [(.int (1 : Int32))])) _
        refine XS.goto X6.here hx rfl (pc0 := 15) (pc' := 19) rfl (hb hby d1_15) (by decide) (by decide) ?_
        show Steps p.tables e below (T6.setTop (mkF m 19 #[.val (.ref a1)] [(.int (1 : Int32))])) _
        exact kt
      obtain ⟨fs, hr, hrun, hended, hW, hsame⟩ := X6.leave (v := some (.int (1 : Int32))) (fun h => by rw [Bd.returns] at h; cases h)
      refine ⟨_, _, pre8 _ ?_, hrun, hended, _, _, rfl, ?_, ⟨_, rfl⟩, hW, hsame.mono (by decide) (by decide)⟩
      · exact retN X6 hx (t := .boolean) Bd.returns (by simp) (hb hby d1_19) hr
      · show Q1 Z a1 s_MANDATORY s_OPTIONAL h0 n0 _ T6.heap _
        rw [e6]
        exact ⟨by first | rfl | (simp only [r1, if_neg ha4, if_pos ha11]), N0, rfl⟩
    · skip
      have pre9 : ∀ t, Steps p.tables e below (T6.setTop (mkF m 19 #[.val (.ref a1)] [(.int (0 : Int32))])) t → Steps p.tables e below (s₁.setTop (entryFrame m #[(.ref a1)] 1)) t := fun t kt => by
        refine pre7 t ?_
        refine Jvm.RoadKit.acmp (g := (mkF m 11 #[.val (.ref a1)] [(.ref s_OPTIONAL), (.ref a1)])) X6 hx rfl rfl rfl (pc0 := 11) (pc' := 18) (same := false) rfl (hb hby d1_11) rfl (decide_eq_false fun q => ha11 (Value.ref.inj q)) (by decide) (by decide) ?_
        show Steps p.tables e below (T6.setTop (mkF m 18 #[.val (.ref a1)] [])) _
        refine XS.iconst X6.here hx rfl (hb hby d1_18) ?_
        show Steps p.tables e below (T6.setTop (mkF m 19 #[.val (.ref a1)] [(.int (0 : Int32))])) _
        exact kt
      obtain ⟨fs, hr, hrun, hended, hW, hsame⟩ := X6.leave (v := some (.int (0 : Int32))) (fun h => by rw [Bd.returns] at h; cases h)
      refine ⟨_, _, pre9 _ ?_, hrun, hended, _, _, rfl, ?_, ⟨_, rfl⟩, hW, hsame.mono (by decide) (by decide)⟩
      · exact retN X6 hx (t := .boolean) Bd.returns (by simp) (hb hby d1_19) hr
      · show Q1 Z a1 s_MANDATORY s_OPTIONAL h0 n0 _ T6.heap _
        rw [e6]
        exact ⟨by first | rfl | (simp only [r1, if_neg ha4, if_neg ha11]), N0, rfl⟩
theorem pn_com_example_transnum_transnum_model_StatusAllowedPinLaw : plainName "com/example/transnum/transnum/model/StatusAllowedPinLaw" = true := by first | (simp [plainName, overriddenIn]; done) | decide +kernel
theorem pd___Z : parseMethodDescriptor "()Z" = some ⟨[], some .boolean⟩ := by decide +kernel
theorem ef_0 (m : MethodId) (x0 : Int32) : entryFrame m #[(.int x0)] maxLocals = mkF m 0 #[.val (.int x0), .unset, .unset, .unset] [] := by first | (simp [entryFrame, mkF, argsToLocals, Value.category, maxLocals]; done) | rfl
def Q0 (Z : State) (p1 : Int32) (s_MANDATORY : Addr) (s_OPTIONAL : Addr) (s_NOT_ALLOWED : Addr) (s_NEVER_SENT : Addr) (h0 : Heap) (n0 : Nat) (v : Option Value) (h : Heap) (L : List Loc) : Prop := v = some (.int 1) ∧ Fr n0 L
set_option maxRecDepth 65536 in
set_option maxHeartbeats 40000000 in
theorem rm0 (l : Launch) (Z : State) (a0 : Array Value) (hw : ∀ d ∈ tables_1, d.before a0 Z = true) (ws : List Jvm.Cond) (p1 : Int32) (s_MANDATORY : Addr) (s_OPTIONAL : Addr) (s_NOT_ALLOWED : Addr) (s_NEVER_SENT : Addr) (h0 : Heap) (n0 : Nat) (Z0 : n0 ≤ h0.size) (S_MANDATORY : Sta Z h0 "com/example/transnum/transnum/model/MessageType$Status" "MANDATORY" "Lcom/example/transnum/transnum/model/MessageType$Status;" (.ref s_MANDATORY)) (S_OPTIONAL : Sta Z h0 "com/example/transnum/transnum/model/MessageType$Status" "OPTIONAL" "Lcom/example/transnum/transnum/model/MessageType$Status;" (.ref s_OPTIONAL)) (E_s_MANDATORY : Exa Z h0 s_MANDATORY "com/example/transnum/transnum/model/MessageType$Status") (E_s_OPTIONAL : Exa Z h0 s_OPTIONAL "com/example/transnum/transnum/model/MessageType$Status") (S_NOT_ALLOWED : Sta Z h0 "com/example/transnum/transnum/model/MessageType$Status" "NOT_ALLOWED" "Lcom/example/transnum/transnum/model/MessageType$Status;" (.ref s_NOT_ALLOWED)) (E_s_NOT_ALLOWED : Exa Z h0 s_NOT_ALLOWED "com/example/transnum/transnum/model/MessageType$Status") (S_NEVER_SENT : Sta Z h0 "com/example/transnum/transnum/model/MessageType$Status" "NEVER_SENT" "Lcom/example/transnum/transnum/model/MessageType$Status;" (.ref s_NEVER_SENT)) (E_s_NEVER_SENT : Exa Z h0 s_NEVER_SENT "com/example/transnum/transnum/model/MessageType$Status") (dNOT_ALLOWED_MANDATORY : s_NOT_ALLOWED ≠ s_MANDATORY) (dNOT_ALLOWED_OPTIONAL : s_NOT_ALLOWED ≠ s_OPTIONAL) (dNEVER_SENT_MANDATORY : s_NEVER_SENT ≠ s_MANDATORY) (dNEVER_SENT_OPTIONAL : s_NEVER_SENT ≠ s_OPTIONAL) :
    MetFree l x (head1 (Jvm.Cond.code x code maxLocals ret :: ws) room_1) (fun a U => a = #[(.int p1)] ∧ Z.Warmed39 U.vm ∧ U.heap = h0) (fun _ _ _ _ _ => True) (fun _ U o U' => ∃ v L, o = .returned v ∧ Q0 Z p1 s_MANDATORY s_OPTIONAL s_NOT_ALLOWED s_NEVER_SENT h0 n0 v U'.heap L ∧ FrameEnd U o U' L room_1.cells room_1.slots) := by
  refine MetFree.of_bodySF (plainFor_of_name pn_com_example_transnum_transnum_model_StatusAllowedPinLaw) hisR ?_
  intro p e s m args below meth c s₁ Bd hml0 hP hK
  obtain ⟨rfl, hZ, hh⟩ := hP
  have hx := Bd.exec
  have hby := Bd.bytes
  have hml : c.maxLocals = 4 := hml0
  have hown : s.vm.findClass "com/example/transnum/transnum/model/StatusAllowedPinLaw" = some m.cls := findClass_of_methodNamed Bd.named
  have hnm := (name_of_methodNamed Bd.named Bd.method).1
  have X0 : Stand p l e room_1 s m #[(.int p1)] below meth c s₁ [] 0 0 := Stand.of_body Bd
  have e0 : s₁.heap = h0 := by rw [← hh, Bd.state]; rfl
  have N0 := Fr.nil n0
  have pre0 : ∀ t, Steps p.tables e below (s₁.setTop (mkF m 0 #[.val (.int p1), .unset, .unset, .unset] [])) t → Steps p.tables e below (s₁.setTop (entryFrame m #[(.int p1)] maxLocals)) t := fun t k => castTop (ef_0 m p1) k
  by_cases hc5 : (p1 &&& (3 : Int32)) = (0 : Int32)
  · skip
    have pre1 : ∀ t, Steps p.tables e below (s₁.setTop (mkF m 8 #[.val (.int p1), .val (.int (p1 &&& (3 : Int32))), .unset, .unset] [])) t → Steps p.tables e below (s₁.setTop (entryFrame m #[(.int p1)] maxLocals)) t := fun t kt => by
      refine pre0 t ?_
      refine XS.iloadN X0.here hx rfl (hb hby at_0) rfl ?_
      show Steps p.tables e below (s₁.setTop (mkF m 1 #[.val (.int p1), .unset, .unset, .unset] [(.int p1)])) _
      refine XS.iconst X0.here hx rfl (hb hby at_1) ?_
      show Steps p.tables e below (s₁.setTop (mkF m 2 #[.val (.int p1), .unset, .unset, .unset] [(.int (3 : Int32)), (.int p1)])) _
      refine XS.iand X0.here hx rfl (hb hby at_2) rfl ?_
      show Steps p.tables e below (s₁.setTop (mkF m 3 #[.val (.int p1), .unset, .unset, .unset] [(.int (p1 &&& (3 : Int32)))])) _
      refine XS.istoreN X0.here hx rfl (hb hby at_3) rfl (l' := #[.val (.int p1), .val (.int (p1 &&& (3 : Int32))), .unset, .unset]) rfl ?_
      show Steps p.tables e below (s₁.setTop (mkF m 4 #[.val (.int p1), .val (.int (p1 &&& (3 : Int32))), .unset, .unset] [])) _
      refine XS.iloadN X0.here hx rfl (hb hby at_4) rfl ?_
      show Steps p.tables e below (s₁.setTop (mkF m 5 #[.val (.int p1), .val (.int (p1 &&& (3 : Int32))), .unset, .unset] [(.int (p1 &&& (3 : Int32)))])) _
      refine XS.ifNo X0.here hx rfl (hb hby at_5) rfl ((if0 _ _).trans (teq hc5).2) ?_
      show Steps p.tables e below (s₁.setTop (mkF m 8 #[.val (.int p1), .val (.int (p1 &&& (3 : Int32))), .unset, .unset] [])) _
      exact kt
    obtain ⟨T2, X2, e2, st2⟩ := getS2 X0 hx hZ hown (host := "") (Or.inl (hw _ (mgE 0 rfl))) Via.refl e0 S_MANDATORY (g := (mkF m 8 #[.val (.int p1), .val (.int (p1 &&& (3 : Int32))), .unset, .unset] [])) rfl (hb hby at_8)
    have pre3 : ∀ t, Steps p.tables e below (T2.setTop (mkF m 11 #[.val (.int p1), .val (.int (p1 &&& (3 : Int32))), .unset, .unset] [(.ref s_MANDATORY)])) t → Steps p.tables e below (s₁.setTop (entryFrame m #[(.int p1)] maxLocals)) t := fun t kt => pre1 t (st2 t kt)
    have pre4 : ∀ t, Steps p.tables e below (T2.setTop (mkF m 52 #[.val (.int p1), .val (.int (p1 &&& (3 : Int32))), .val (.ref s_MANDATORY), .val (.int (1 : Int32))] [(.ref s_MANDATORY)])) t → Steps p.tables e below (s₁.setTop (entryFrame m #[(.int p1)] maxLocals)) t := fun t kt => by
      refine pre3 t ?_
      refine XS.astoreN X2.here hx rfl (hb hby at_11) rfl rfl (l' := #[.val (.int p1), .val (.int (p1 &&& (3 : Int32))), .val (.ref s_MANDATORY), .unset]) rfl ?_
      show Steps p.tables e below (T2.setTop (mkF m 12 #[.val (.int p1), .val (.int (p1 &&& (3 : Int32))), .val (.ref s_MANDATORY), .unset] [])) _
      refine XS.iconst X2.here hx rfl (hb hby at_12) ?_
      show Steps p.tables e below (T2.setTop (mkF m 13 #[.val (.int p1), .val (.int (p1 &&& (3 : Int32))), .val (.ref s_MANDATORY), .unset] [(.int (1 : Int32))])) _
      refine XS.istoreN X2.here hx rfl (hb hby at_13) rfl (l' := #[.val (.int p1), .val (.int (p1 &&& (3 : Int32))), .val (.ref s_MANDATORY), .val (.int (1 : Int32))]) rfl ?_
      show Steps p.tables e below (T2.setTop (mkF m 14 #[.val (.int p1), .val (.int (p1 &&& (3 : Int32))), .val (.ref s_MANDATORY), .val (.int (1 : Int32))] [])) _
      refine XS.goto X2.here hx rfl (pc0 := 14) (pc' := 51) rfl (hb hby at_14) (by decide) (by decide) ?_
      show Steps p.tables e below (T2.setTop (mkF m 51 #[.val (.int p1), .val (.int (p1 &&& (3 : Int32))), .val (.ref s_MANDATORY), .val (.int (1 : Int32))] [])) _
      refine XS.aloadN X2.here hx rfl (hb hby at_51) rfl rfl ?_
      show Steps p.tables e below (T2.setTop (mkF m 52 #[.val (.int p1), .val (.int (p1 &&& (3 : Int32))), .val (.ref s_MANDATORY), .val (.int (1 : Int32))] [(.ref s_MANDATORY)])) _
      exact kt
    obtain ⟨cq5, kq5, q5a, q5b, q5c⟩ := isOf hZ e2 E_s_MANDATORY
    obtain ⟨_, _, ⟨T5, L5, k5, n5⟩, -, X5, ⟨Lc5, hQ5, l5, y5, z5⟩, st5⟩ := X2.virtualBack hx (y := (⟨"com/example/transnum/transnum/model/MessageType$Status", "allowed", "()Z"⟩ : MethodName)) (z := (⟨"com/example/transnum/transnum/model/MessageType$Status", "allowed", "()Z"⟩ : MethodName)) hown (mvT hZ (hw _ (mgE 3 rfl))) (mvT hZ (hw _ (mgE 4 rfl))) (notFace_of_selects (args := #[]) (mvT hZ (hw _ (mgE 6 rfl)))) (mvT hZ (hw _ (mgE 6 rfl))) (mvT hZ (hw _ (mgE 5 rfl))) (by decide) (backOf (W := 0) (rm1 l Z a0 hw [] s_MANDATORY s_MANDATORY s_OPTIONAL h0 n0 Z0 S_MANDATORY S_OPTIONAL) hZ (hw _ (mgE 7 rfl)) (hw _ (mgE 1 rfl)) (by decide) (by decide)) q5a q5c (g := (mkF m 52 #[.val (.int p1), .val (.int (p1 &&& (3 : Int32))), .val (.ref s_MANDATORY), .val (.int (1 : Int32))] [(.ref s_MANDATORY)])) rfl (by rw [hml]; rfl) (Steps.refl _) (argsL := []) (rest := []) (lenOf pd___Z rfl) rfl (by show 2 * 0 + _ ≤ _; exact Nat.le_of_eq rfl) (hb hby at_52) (fun _ _ => ⟨rfl, e2, (by decide : 0 + 0 ≤ _), (by decide : 0 + 0 ≤ _)⟩)
    dsimp only [Pt.U, Pt.locs, Pt.cells, Pt.slots] at X5 l5 y5 z5 st5 hQ5
    subst l5 y5 z5
    obtain ⟨rfl, N5q, e5⟩ := hQ5
    have pre6 : ∀ t, Steps p.tables e below (T5.setTop (mkF m 55 #[.val (.int p1), .val (.int (p1 &&& (3 : Int32))), .val (.ref s_MANDATORY), .val (.int (1 : Int32))] [(.int (r1 s_MANDATORY s_MANDATORY s_OPTIONAL))])) t → Steps p.tables e below (s₁.setTop (entryFrame m #[(.int p1)] maxLocals)) t := fun t kt => pre4 t (st5.trans kt)
    have N5 := Fr.app N0 N5q
    have hc56 : (r1 s_MANDATORY s_MANDATORY s_OPTIONAL) = (1 : Int32) := by simp [r1, dNOT_ALLOWED_MANDATORY, dNOT_ALLOWED_OPTIONAL, dNEVER_SENT_MANDATORY, dNEVER_SENT_OPTIONAL]
    have pre7 : ∀ t, Steps p.tables e below (T5.setTop (mkF m 64 #[.val (.int p1), .val (.int (p1 &&& (3 : Int32))), .val (.ref s_MANDATORY), .val (.int (1 : Int32))] [(.int (1 : Int32))])) t → Steps p.tables e below (s₁.setTop (entryFrame m #[(.int p1)] maxLocals)) t := fun t kt => by
      refine pre6 t ?_
      refine XS.iloadN X5.here hx rfl (hb hby at_55) rfl ?_
      show Steps p.tables e below (T5.setTop (mkF m 56 #[.val (.int p1), .val (.int (p1 &&& (3 : Int32))), .val (.ref s_MANDATORY), .val (.int (1 : Int32))] [(.int (1 : Int32)), (.int (r1 s_MANDATORY s_MANDATORY s_OPTIONAL))])) _
      refine XS.icmpNo X5.here hx rfl (hb hby at_56) rfl (teq hc56).2 ?_
      show Steps p.tables e below (T5.setTop (mkF m 59 #[.val (.int p1), .val (.int (p1 &&& (3 : Int32))), .val (.ref s_MANDATORY), .val (.int (1 : Int32))] [])) _
      refine XS.iconst X5.here hx rfl (hb hby at_59) ?_
      show Steps p.tables e below (T5.setTop (mkF m 60 #[.val (.int p1), .val (.int (p1 &&& (3 : Int32))), .val (.ref s_MANDATORY), .val (.int (1 : Int32))] [(.int (1 : Int32))])) _
      refine XS.goto X5.here hx rfl (pc0 := 60) (pc' := 64) rfl (hb hby at_60) (by decide) (by decide) ?_
      show Steps p.tables e below (T5.setTop (mkF m 64 #[.val (.int p1), .val (.int (p1 &&& (3 : Int32))), .val (.ref s_MANDATORY), .val (.int (1 : Int32))] [(.int (1 : Int32))])) _
      exact kt
    obtain ⟨fs, hr, hrun, hended, hW, hsame⟩ := X5.leave (v := some (.int (1 : Int32))) (fun h => by rw [Bd.returns] at h; cases h)
    refine ⟨_, _, pre7 _ ?_, hrun, hended, _, _, rfl, ?_, ⟨_, rfl⟩, hW, hsame.mono (by decide) (by decide)⟩
    · exact retN X5 hx (t := .boolean) Bd.returns (by simp) (hb hby at_64) hr
    · show Q0 Z p1 s_MANDATORY s_OPTIONAL s_NOT_ALLOWED s_NEVER_SENT h0 n0 _ T5.heap _
      rw [e5]
      exact ⟨rfl, N5⟩
  · skip
    by_cases hc19 : (p1 &&& (3 : Int32)) = (1 : Int32)
    · skip
      have pre8 : ∀ t, Steps p.tables e below (s₁.setTop (mkF m 22 #[.val (.int p1), .val (.int (p1 &&& (3 : Int32))), .unset, .unset] [])) t → Steps p.tables e below (s₁.setTop (entryFrame m #[(.int p1)] maxLocals)) t := fun t kt => by
        refine pre0 t ?_
        refine XS.iloadN X0.here hx rfl (hb hby at_0) rfl ?_
        show Steps p.tables e below (s₁.setTop (mkF m 1 #[.val (.int p1), .unset, .unset, .unset] [(.int p1)])) _
        refine XS.iconst X0.here hx rfl (hb hby at_1) ?_
        show Steps p.tables e below (s₁.setTop (mkF m 2 #[.val (.int p1), .unset, .unset, .unset] [(.int (3 : Int32)), (.int p1)])) _
        refine XS.iand X0.here hx rfl (hb hby at_2) rfl ?_
        show Steps p.tables e below (s₁.setTop (mkF m 3 #[.val (.int p1), .unset, .unset, .unset] [(.int (p1 &&& (3 : Int32)))])) _
        refine XS.istoreN X0.here hx rfl (hb hby at_3) rfl (l' := #[.val (.int p1), .val (.int (p1 &&& (3 : Int32))), .unset, .unset]) rfl ?_
        show Steps p.tables e below (s₁.setTop (mkF m 4 #[.val (.int p1), .val (.int (p1 &&& (3 : Int32))), .unset, .unset] [])) _
        refine XS.iloadN X0.here hx rfl (hb hby at_4) rfl ?_
        show Steps p.tables e below (s₁.setTop (mkF m 5 #[.val (.int p1), .val (.int (p1 &&& (3 : Int32))), .unset, .unset] [(.int (p1 &&& (3 : Int32)))])) _
        refine XS.ifYes X0.here hx rfl (pc0 := 5) (pc' := 17) rfl (hb hby at_5) rfl ((if0 _ _).trans (feq hc5).2) (by decide) (by decide) ?_
        show Steps p.tables e below (s₁.setTop (mkF m 17 #[.val (.int p1), .val (.int (p1 &&& (3 : Int32))), .unset, .unset] [])) _
        refine XS.iloadN X0.here hx rfl (hb hby at_17) rfl ?_
        show Steps p.tables e below (s₁.setTop (mkF m 18 #[.val (.int p1), .val (.int (p1 &&& (3 : Int32))), .unset, .unset] [(.int (p1 &&& (3 : Int32)))])) _
        refine XS.iconst X0.here hx rfl (hb hby at_18) ?_
        show Steps p.tables e below (s₁.setTop (mkF m 19 #[.val (.int p1), .val (.int (p1 &&& (3 : Int32))), .unset, .unset] [(.int (1 : Int32)), (.int (p1 &&& (3 : Int32)))])) _
        refine XS.icmpNo X0.here hx rfl (hb hby at_19) rfl (teq hc19).2 ?_
        show Steps p.tables e below (s₁.setTop (mkF m 22 #[.val (.int p1), .val (.int (p1 &&& (3 : Int32))), .unset, .unset] [])) _
        exact kt
      obtain ⟨T9, X9, e9, st9⟩ := getS2 X0 hx hZ hown (host := "") (Or.inl (hw _ (mgE 15 rfl))) Via.refl e0 S_OPTIONAL (g := (mkF m 22 #[.val (.int p1), .val (.int (p1 &&& (3 : Int32))), .unset, .unset] [])) rfl (hb hby at_22)
      have pre10 : ∀ t, Steps p.tables e below (T9.setTop (mkF m 25 #[.val (.int p1), .val (.int (p1 &&& (3 : Int32))), .unset, .unset] [(.ref s_OPTIONAL)])) t → Steps p.tables e below (s₁.setTop (entryFrame m #[(.int p1)] maxLocals)) t := fun t kt => pre8 t (st9 t kt)
      have pre11 : ∀ t, Steps p.tables e below (T9.setTop (mkF m 52 #[.val (.int p1), .val (.int (p1 &&& (3 : Int32))), .val (.ref s_OPTIONAL), .val (.int (1 : Int32))] [(.ref s_OPTIONAL)])) t → Steps p.tables e below (s₁.setTop (entryFrame m #[(.int p1)] maxLocals)) t := fun t kt => by
        refine pre10 t ?_
        refine XS.astoreN X9.here hx rfl (hb hby at_25) rfl rfl (l' := #[.val (.int p1), .val (.int (p1 &&& (3 : Int32))), .val (.ref s_OPTIONAL), .unset]) rfl ?_
        show Steps p.tables e below (T9.setTop (mkF m 26 #[.val (.int p1), .val (.int (p1 &&& (3 : Int32))), .val (.ref s_OPTIONAL), .unset] [])) _
        refine XS.iconst X9.here hx rfl (hb hby at_26) ?_
        show Steps p.tables e below (T9.setTop (mkF m 27 #[.val (.int p1), .val (.int (p1 &&& (3 : Int32))), .val (.ref s_OPTIONAL), .unset] [(.int (1 : Int32))])) _
        refine XS.istoreN X9.here hx rfl (hb hby at_27) rfl (l' := #[.val (.int p1), .val (.int (p1 &&& (3 : Int32))), .val (.ref s_OPTIONAL), .val (.int (1 : Int32))]) rfl ?_
        show Steps p.tables e below (T9.setTop (mkF m 28 #[.val (.int p1), .val (.int (p1 &&& (3 : Int32))), .val (.ref s_OPTIONAL), .val (.int (1 : Int32))] [])) _
        refine XS.goto X9.here hx rfl (pc0 := 28) (pc' := 51) rfl (hb hby at_28) (by decide) (by decide) ?_
        show Steps p.tables e below (T9.setTop (mkF m 51 #[.val (.int p1), .val (.int (p1 &&& (3 : Int32))), .val (.ref s_OPTIONAL), .val (.int (1 : Int32))] [])) _
        refine XS.aloadN X9.here hx rfl (hb hby at_51) rfl rfl ?_
        show Steps p.tables e below (T9.setTop (mkF m 52 #[.val (.int p1), .val (.int (p1 &&& (3 : Int32))), .val (.ref s_OPTIONAL), .val (.int (1 : Int32))] [(.ref s_OPTIONAL)])) _
        exact kt
      obtain ⟨cq12, kq12, q12a, q12b, q12c⟩ := isOf hZ e9 E_s_OPTIONAL
      obtain ⟨_, _, ⟨T12, L12, k12, n12⟩, -, X12, ⟨Lc12, hQ12, l12, y12, z12⟩, st12⟩ := X9.virtualBack hx (y := (⟨"com/example/transnum/transnum/model/MessageType$Status", "allowed", "()Z"⟩ : MethodName)) (z := (⟨"com/example/transnum/transnum/model/MessageType$Status", "allowed", "()Z"⟩ : MethodName)) hown (mvT hZ (hw _ (mgE 3 rfl))) (mvT hZ (hw _ (mgE 4 rfl))) (notFace_of_selects (args := #[]) (mvT hZ (hw _ (mgE 6 rfl)))) (mvT hZ (hw _ (mgE 6 rfl))) (mvT hZ (hw _ (mgE 5 rfl))) (by decide) (backOf (W := 0) (rm1 l Z a0 hw [] s_OPTIONAL s_MANDATORY s_OPTIONAL h0 n0 Z0 S_MANDATORY S_OPTIONAL) hZ (hw _ (mgE 7 rfl)) (hw _ (mgE 1 rfl)) (by decide) (by decide)) q12a q12c (g := (mkF m 52 #[.val (.int p1), .val (.int (p1 &&& (3 : Int32))), .val (.ref s_OPTIONAL), .val (.int (1 : Int32))] [(.ref s_OPTIONAL)])) rfl (by rw [hml]; rfl) (Steps.refl _) (argsL := []) (rest := []) (lenOf pd___Z rfl) rfl (by show 2 * 0 + _ ≤ _; exact Nat.le_of_eq rfl) (hb hby at_52) (fun _ _ => ⟨rfl, e9, (by decide : 0 + 0 ≤ _), (by decide : 0 + 0 ≤ _)⟩)
      dsimp only [Pt.U, Pt.locs, Pt.cells, Pt.slots] at X12 l12 y12 z12 st12 hQ12
      subst l12 y12 z12
      obtain ⟨rfl, N12q, e12⟩ := hQ12
      have pre13 : ∀ t, Steps p.tables e below (T12.setTop (mkF m 55 #[.val (.int p1), .val (.int (p1 &&& (3 : Int32))), .val (.ref s_OPTIONAL), .val (.int (1 : Int32))] [(.int (r1 s_OPTIONAL s_MANDATORY s_OPTIONAL))])) t → Steps p.tables e below (s₁.setTop (entryFrame m #[(.int p1)] maxLocals)) t := fun t kt => pre11 t (st12.trans kt)
      have N12 := Fr.app N0 N12q
      have hc56 : (r1 s_OPTIONAL s_MANDATORY s_OPTIONAL) = (1 : Int32) := by simp [r1, dNOT_ALLOWED_MANDATORY, dNOT_ALLOWED_OPTIONAL, dNEVER_SENT_MANDATORY, dNEVER_SENT_OPTIONAL]
      have pre14 : ∀ t, Steps p.tables e below (T12.setTop (mkF m 64 #[.val (.int p1), .val (.int (p1 &&& (3 : Int32))), .val (.ref s_OPTIONAL), .val (.int (1 : Int32))] [(.int (1 : Int32))])) t → Steps p.tables e below (s₁.setTop (entryFrame m #[(.int p1)] maxLocals)) t := fun t kt => by
        refine pre13 t ?_
        refine XS.iloadN X12.here hx rfl (hb hby at_55) rfl ?_
        show Steps p.tables e below (T12.setTop (mkF m 56 #[.val (.int p1), .val (.int (p1 &&& (3 : Int32))), .val (.ref s_OPTIONAL), .val (.int (1 : Int32))] [(.int (1 : Int32)), (.int (r1 s_OPTIONAL s_MANDATORY s_OPTIONAL))])) _
        refine XS.icmpNo X12.here hx rfl (hb hby at_56) rfl (teq hc56).2 ?_
        show Steps p.tables e below (T12.setTop (mkF m 59 #[.val (.int p1), .val (.int (p1 &&& (3 : Int32))), .val (.ref s_OPTIONAL), .val (.int (1 : Int32))] [])) _
        refine XS.iconst X12.here hx rfl (hb hby at_59) ?_
        show Steps p.tables e below (T12.setTop (mkF m 60 #[.val (.int p1), .val (.int (p1 &&& (3 : Int32))), .val (.ref s_OPTIONAL), .val (.int (1 : Int32))] [(.int (1 : Int32))])) _
        refine XS.goto X12.here hx rfl (pc0 := 60) (pc' := 64) rfl (hb hby at_60) (by decide) (by decide) ?_
        show Steps p.tables e below (T12.setTop (mkF m 64 #[.val (.int p1), .val (.int (p1 &&& (3 : Int32))), .val (.ref s_OPTIONAL), .val (.int (1 : Int32))] [(.int (1 : Int32))])) _
        exact kt
      obtain ⟨fs, hr, hrun, hended, hW, hsame⟩ := X12.leave (v := some (.int (1 : Int32))) (fun h => by rw [Bd.returns] at h; cases h)
      refine ⟨_, _, pre14 _ ?_, hrun, hended, _, _, rfl, ?_, ⟨_, rfl⟩, hW, hsame.mono (by decide) (by decide)⟩
      · exact retN X12 hx (t := .boolean) Bd.returns (by simp) (hb hby at_64) hr
      · show Q0 Z p1 s_MANDATORY s_OPTIONAL s_NOT_ALLOWED s_NEVER_SENT h0 n0 _ T12.heap _
        rw [e12]
        exact ⟨rfl, N12⟩
    · skip
      by_cases hc33 : (p1 &&& (3 : Int32)) = (2 : Int32)
      · skip
        have pre15 : ∀ t, Steps p.tables e below (s₁.setTop (mkF m 36 #[.val (.int p1), .val (.int (p1 &&& (3 : Int32))), .unset, .unset] [])) t → Steps p.tables e below (s₁.setTop (entryFrame m #[(.int p1)] maxLocals)) t := fun t kt => by
          refine pre0 t ?_
          refine XS.iloadN X0.here hx rfl (hb hby at_0) rfl ?_
          show Steps p.tables e below (s₁.setTop (mkF m 1 #[.val (.int p1), .unset, .unset, .unset] [(.int p1)])) _
          refine XS.iconst X0.here hx rfl (hb hby at_1) ?_
          show Steps p.tables e below (s₁.setTop (mkF m 2 #[.val (.int p1), .unset, .unset, .unset] [(.int (3 : Int32)), (.int p1)])) _
          refine XS.iand X0.here hx rfl (hb hby at_2) rfl ?_
          show Steps p.tables e below (s₁.setTop (mkF m 3 #[.val (.int p1), .unset, .unset, .unset] [(.int (p1 &&& (3 : Int32)))])) _
          refine XS.istoreN X0.here hx rfl (hb hby at_3) rfl (l' := #[.val (.int p1), .val (.int (p1 &&& (3 : Int32))), .unset, .unset]) rfl ?_
          show Steps p.tables e below (s₁.setTop (mkF m 4 #[.val (.int p1), .val (.int (p1 &&& (3 : Int32))), .unset, .unset] [])) _
          refine XS.iloadN X0.here hx rfl (hb hby at_4) rfl ?_
          show Steps p.tables e below (s₁.setTop (mkF m 5 #[.val (.int p1), .val (.int (p1 &&& (3 : Int32))), .unset, .unset] [(.int (p1 &&& (3 : Int32)))])) _
          refine XS.ifYes X0.here hx rfl (pc0 := 5) (pc' := 17) rfl (hb hby at_5) rfl ((if0 _ _).trans (feq hc5).2) (by decide) (by decide) ?_
          show Steps p.tables e below (s₁.setTop (mkF m 17 #[.val (.int p1), .val (.int (p1 &&& (3 : Int32))), .unset, .unset] [])) _
          refine XS.iloadN X0.here hx rfl (hb hby at_17) rfl ?_
          show Steps p.tables e below (s₁.setTop (mkF m 18 #[.val (.int p1), .val (.int (p1 &&& (3 : Int32))), .unset, .unset] [(.int (p1 &&& (3 : Int32)))])) _
          refine XS.iconst X0.here hx rfl (hb hby at_18) ?_
          show Steps p.tables e below (s₁.setTop (mkF m 19 #[.val (.int p1), .val (.int (p1 &&& (3 : Int32))), .unset, .unset] [(.int (1 : Int32)), (.int (p1 &&& (3 : Int32)))])) _
          refine XS.icmpYes X0.here hx rfl (pc0 := 19) (pc' := 31) rfl (hb hby at_19) rfl (feq hc19).2 (by decide) (by decide) ?_
          show Steps p.tables e below (s₁.setTop (mkF m 31 #[.val (.int p1), .val (.int (p1 &&& (3 : Int32))), .unset, .unset] [])) _
          refine XS.iloadN X0.here hx rfl (hb hby at_31) rfl ?_
          show Steps p.tables e below (s₁.setTop (mkF m 32 #[.val (.int p1), .val (.int (p1 &&& (3 : Int32))), .unset, .unset] [(.int (p1 &&& (3 : Int32)))])) _
          refine XS.iconst X0.here hx rfl (hb hby at_32) ?_
          show Steps p.tables e below (s₁.setTop (mkF m 33 #[.val (.int p1), .val (.int (p1 &&& (3 : Int32))), .unset, .unset] [(.int (2 : Int32)), (.int (p1 &&& (3 : Int32)))])) _
          refine XS.icmpNo X0.here hx rfl (hb hby at_33) rfl (teq hc33).2 ?_
          show Steps p.tables e below (s₁.setTop (mkF m 36 #[.val (.int p1), .val (.int (p1 &&& (3 : Int32))), .unset, .unset] [])) _
          exact kt
        obtain ⟨T16, X16, e16, st16⟩ := getS2 X0 hx hZ hown (host := "") (Or.inl (hw _ (mgE 13 rfl))) Via.refl e0 S_NOT_ALLOWED (g := (mkF m 36 #[.val (.int p1), .val (.int (p1 &&& (3 : Int32))), .unset, .unset] [])) rfl (hb hby at_36)
        have pre17 : ∀ t, Steps p.tables e below (T16.setTop (mkF m 39 #[.val (.int p1), .val (.int (p1 &&& (3 : Int32))), .unset, .unset] [(.ref s_NOT_ALLOWED)])) t → Steps p.tables e below (s₁.setTop (entryFrame m #[(.int p1)] maxLocals)) t := fun t kt => pre15 t (st16 t kt)
        have pre18 : ∀ t, Steps p.tables e below (T16.setTop (mkF m 52 #[.val (.int p1), .val (.int (p1 &&& (3 : Int32))), .val (.ref s_NOT_ALLOWED), .val (.int (0 : Int32))] [(.ref s_NOT_ALLOWED)])) t → Steps p.tables e below (s₁.setTop (entryFrame m #[(.int p1)] maxLocals)) t := fun t kt => by
          refine pre17 t ?_
          refine XS.astoreN X16.here hx rfl (hb hby at_39) rfl rfl (l' := #[.val (.int p1), .val (.int (p1 &&& (3 : Int32))), .val (.ref s_NOT_ALLOWED), .unset]) rfl ?_
          show Steps p.tables e below (T16.setTop (mkF m 40 #[.val (.int p1), .val (.int (p1 &&& (3 : Int32))), .val (.ref s_NOT_ALLOWED), .unset] [])) _
          refine XS.iconst X16.here hx rfl (hb hby at_40) ?_
          show Steps p.tables e below (T16.setTop (mkF m 41 #[.val (.int p1), .val (.int (p1 &&& (3 : Int32))), .val (.ref s_NOT_ALLOWED), .unset] [(.int (0 : Int32))])) _
          refine XS.istoreN X16.here hx rfl (hb hby at_41) rfl (l' := #[.val (.int p1), .val (.int (p1 &&& (3 : Int32))), .val (.ref s_NOT_ALLOWED), .val (.int (0 : Int32))]) rfl ?_
          show Steps p.tables e below (T16.setTop (mkF m 42 #[.val (.int p1), .val (.int (p1 &&& (3 : Int32))), .val (.ref s_NOT_ALLOWED), .val (.int (0 : Int32))] [])) _
          refine XS.goto X16.here hx rfl (pc0 := 42) (pc' := 51) rfl (hb hby at_42) (by decide) (by decide) ?_
          show Steps p.tables e below (T16.setTop (mkF m 51 #[.val (.int p1), .val (.int (p1 &&& (3 : Int32))), .val (.ref s_NOT_ALLOWED), .val (.int (0 : Int32))] [])) _
          refine XS.aloadN X16.here hx rfl (hb hby at_51) rfl rfl ?_
          show Steps p.tables e below (T16.setTop (mkF m 52 #[.val (.int p1), .val (.int (p1 &&& (3 : Int32))), .val (.ref s_NOT_ALLOWED), .val (.int (0 : Int32))] [(.ref s_NOT_ALLOWED)])) _
          exact kt
        obtain ⟨cq19, kq19, q19a, q19b, q19c⟩ := isOf hZ e16 E_s_NOT_ALLOWED
        obtain ⟨_, _, ⟨T19, L19, k19, n19⟩, -, X19, ⟨Lc19, hQ19, l19, y19, z19⟩, st19⟩ := X16.virtualBack hx (y := (⟨"com/example/transnum/transnum/model/MessageType$Status", "allowed", "()Z"⟩ : MethodName)) (z := (⟨"com/example/transnum/transnum/model/MessageType$Status", "allowed", "()Z"⟩ : MethodName)) hown (mvT hZ (hw _ (mgE 3 rfl))) (mvT hZ (hw _ (mgE 4 rfl))) (notFace_of_selects (args := #[]) (mvT hZ (hw _ (mgE 6 rfl)))) (mvT hZ (hw _ (mgE 6 rfl))) (mvT hZ (hw _ (mgE 5 rfl))) (by decide) (backOf (W := 0) (rm1 l Z a0 hw [] s_NOT_ALLOWED s_MANDATORY s_OPTIONAL h0 n0 Z0 S_MANDATORY S_OPTIONAL) hZ (hw _ (mgE 7 rfl)) (hw _ (mgE 1 rfl)) (by decide) (by decide)) q19a q19c (g := (mkF m 52 #[.val (.int p1), .val (.int (p1 &&& (3 : Int32))), .val (.ref s_NOT_ALLOWED), .val (.int (0 : Int32))] [(.ref s_NOT_ALLOWED)])) rfl (by rw [hml]; rfl) (Steps.refl _) (argsL := []) (rest := []) (lenOf pd___Z rfl) rfl (by show 2 * 0 + _ ≤ _; exact Nat.le_of_eq rfl) (hb hby at_52) (fun _ _ => ⟨rfl, e16, (by decide : 0 + 0 ≤ _), (by decide : 0 + 0 ≤ _)⟩)
        dsimp only [Pt.U, Pt.locs, Pt.cells, Pt.slots] at X19 l19 y19 z19 st19 hQ19
        subst l19 y19 z19
        obtain ⟨rfl, N19q, e19⟩ := hQ19
        have pre20 : ∀ t, Steps p.tables e below (T19.setTop (mkF m 55 #[.val (.int p1), .val (.int (p1 &&& (3 : Int32))), .val (.ref s_NOT_ALLOWED), .val (.int (0 : Int32))] [(.int (r1 s_NOT_ALLOWED s_MANDATORY s_OPTIONAL))])) t → Steps p.tables e below (s₁.setTop (entryFrame m #[(.int p1)] maxLocals)) t := fun t kt => pre18 t (st19.trans kt)
        have N19 := Fr.app N0 N19q
        have hc56 : (r1 s_NOT_ALLOWED s_MANDATORY s_OPTIONAL) = (0 : Int32) := by simp [r1, dNOT_ALLOWED_MANDATORY, dNOT_ALLOWED_OPTIONAL, dNEVER_SENT_MANDATORY, dNEVER_SENT_OPTIONAL]
        have pre21 : ∀ t, Steps p.tables e below (T19.setTop (mkF m 64 #[.val (.int p1), .val (.int (p1 &&& (3 : Int32))), .val (.ref s_NOT_ALLOWED), .val (.int (0 : Int32))] [(.int (1 : Int32))])) t → Steps p.tables e below (s₁.setTop (entryFrame m #[(.int p1)] maxLocals)) t := fun t kt => by
          refine pre20 t ?_
          refine XS.iloadN X19.here hx rfl (hb hby at_55) rfl ?_
          show Steps p.tables e below (T19.setTop (mkF m 56 #[.val (.int p1), .val (.int (p1 &&& (3 : Int32))), .val (.ref s_NOT_ALLOWED), .val (.int (0 : Int32))] [(.int (0 : Int32)), (.int (r1 s_NOT_ALLOWED s_MANDATORY s_OPTIONAL))])) _
          refine XS.icmpNo X19.here hx rfl (hb hby at_56) rfl (teq hc56).2 ?_
          show Steps p.tables e below (T19.setTop (mkF m 59 #[.val (.int p1), .val (.int (p1 &&& (3 : Int32))), .val (.ref s_NOT_ALLOWED), .val (.int (0 : Int32))] [])) _
          refine XS.iconst X19.here hx rfl (hb hby at_59) ?_
          show Steps p.tables e below (T19.setTop (mkF m 60 #[.val (.int p1), .val (.int (p1 &&& (3 : Int32))), .val (.ref s_NOT_ALLOWED), .val (.int (0 : Int32))] [(.int (1 : Int32))])) _
          refine XS.goto X19.here hx rfl (pc0 := 60) (pc' := 64) rfl (hb hby at_60) (by decide) (by decide) ?_
          show Steps p.tables e below (T19.setTop (mkF m 64 #[.val (.int p1), .val (.int (p1 &&& (3 : Int32))), .val (.ref s_NOT_ALLOWED), .val (.int (0 : Int32))] [(.int (1 : Int32))])) _
          exact kt
        obtain ⟨fs, hr, hrun, hended, hW, hsame⟩ := X19.leave (v := some (.int (1 : Int32))) (fun h => by rw [Bd.returns] at h; cases h)
        refine ⟨_, _, pre21 _ ?_, hrun, hended, _, _, rfl, ?_, ⟨_, rfl⟩, hW, hsame.mono (by decide) (by decide)⟩
        · exact retN X19 hx (t := .boolean) Bd.returns (by simp) (hb hby at_64) hr
        · show Q0 Z p1 s_MANDATORY s_OPTIONAL s_NOT_ALLOWED s_NEVER_SENT h0 n0 _ T19.heap _
          rw [e19]
          exact ⟨rfl, N19⟩
      · skip
        have pre22 : ∀ t, Steps p.tables e below (s₁.setTop (mkF m 45 #[.val (.int p1), .val (.int (p1 &&& (3 : Int32))), .unset, .unset] [])) t → Steps p.tables e below (s₁.setTop (entryFrame m #[(.int p1)] maxLocals)) t := fun t kt => by
          refine pre0 t ?_
          refine XS.iloadN X0.here hx rfl (hb hby at_0) rfl ?_
          show Steps p.tables e below (s₁.setTop (mkF m 1 #[.val (.int p1), .unset, .unset, .unset] [(.int p1)])) _
          refine XS.iconst X0.here hx rfl (hb hby at_1) ?_
          show Steps p.tables e below (s₁.setTop (mkF m 2 #[.val (.int p1), .unset, .unset, .unset] [(.int (3 : Int32)), (.int p1)])) _
          refine XS.iand X0.here hx rfl (hb hby at_2) rfl ?_
          show Steps p.tables e below (s₁.setTop (mkF m 3 #[.val (.int p1), .unset, .unset, .unset] [(.int (p1 &&& (3 : Int32)))])) _
          refine XS.istoreN X0.here hx rfl (hb hby at_3) rfl (l' := #[.val (.int p1), .val (.int (p1 &&& (3 : Int32))), .unset, .unset]) rfl ?_
          show Steps p.tables e below (s₁.setTop (mkF m 4 #[.val (.int p1), .val (.int (p1 &&& (3 : Int32))), .unset, .unset] [])) _
          refine XS.iloadN X0.here hx rfl (hb hby at_4) rfl ?_
          show Steps p.tables e below (s₁.setTop (mkF m 5 #[.val (.int p1), .val (.int (p1 &&& (3 : Int32))), .unset, .unset] [(.int (p1 &&& (3 : Int32)))])) _
          refine XS.ifYes X0.here hx rfl (pc0 := 5) (pc' := 17) rfl (hb hby at_5) rfl ((if0 _ _).trans (feq hc5).2) (by decide) (by decide) ?_
          show Steps p.tables e below (s₁.setTop (mkF m 17 #[.val (.int p1), .val (.int (p1 &&& (3 : Int32))), .unset, .unset] [])) _
          refine XS.iloadN X0.here hx rfl (hb hby at_17) rfl ?_
          show Steps p.tables e below (s₁.setTop (mkF m 18 #[.val (.int p1), .val (.int (p1 &&& (3 : Int32))), .unset, .unset] [(.int (p1 &&& (3 : Int32)))])) _
          refine XS.iconst X0.here hx rfl (hb hby at_18) ?_
          show Steps p.tables e below (s₁.setTop (mkF m 19 #[.val (.int p1), .val (.int (p1 &&& (3 : Int32))), .unset, .unset] [(.int (1 : Int32)), (.int (p1 &&& (3 : Int32)))])) _
          refine XS.icmpYes X0.here hx rfl (pc0 := 19) (pc' := 31) rfl (hb hby at_19) rfl (feq hc19).2 (by decide) (by decide) ?_
          show Steps p.tables e below (s₁.setTop (mkF m 31 #[.val (.int p1), .val (.int (p1 &&& (3 : Int32))), .unset, .unset] [])) _
          refine XS.iloadN X0.here hx rfl (hb hby at_31) rfl ?_
          show Steps p.tables e below (s₁.setTop (mkF m 32 #[.val (.int p1), .val (.int (p1 &&& (3 : Int32))), .unset, .unset] [(.int (p1 &&& (3 : Int32)))])) _
          refine XS.iconst X0.here hx rfl (hb hby at_32) ?_
          show Steps p.tables e below (s₁.setTop (mkF m 33 #[.val (.int p1), .val (.int (p1 &&& (3 : Int32))), .unset, .unset] [(.int (2 : Int32)), (.int (p1 &&& (3 : Int32)))])) _
          refine XS.icmpYes X0.here hx rfl (pc0 := 33) (pc' := 45) rfl (hb hby at_33) rfl (feq hc33).2 (by decide) (by decide) ?_
          show Steps p.tables e below (s₁.setTop (mkF m 45 #[.val (.int p1), .val (.int (p1 &&& (3 : Int32))), .unset, .unset] [])) _
          exact kt
        obtain ⟨T23, X23, e23, st23⟩ := getS2 X0 hx hZ hown (host := "") (Or.inl (hw _ (mgE 9 rfl))) Via.refl e0 S_NEVER_SENT (g := (mkF m 45 #[.val (.int p1), .val (.int (p1 &&& (3 : Int32))), .unset, .unset] [])) rfl (hb hby at_45)
        have pre24 : ∀ t, Steps p.tables e below (T23.setTop (mkF m 48 #[.val (.int p1), .val (.int (p1 &&& (3 : Int32))), .unset, .unset] [(.ref s_NEVER_SENT)])) t → Steps p.tables e below (s₁.setTop (entryFrame m #[(.int p1)] maxLocals)) t := fun t kt => pre22 t (st23 t kt)
        have pre25 : ∀ t, Steps p.tables e below (T23.setTop (mkF m 52 #[.val (.int p1), .val (.int (p1 &&& (3 : Int32))), .val (.ref s_NEVER_SENT), .val (.int (0 : Int32))] [(.ref s_NEVER_SENT)])) t → Steps p.tables e below (s₁.setTop (entryFrame m #[(.int p1)] maxLocals)) t := fun t kt => by
          refine pre24 t ?_
          refine XS.astoreN X23.here hx rfl (hb hby at_48) rfl rfl (l' := #[.val (.int p1), .val (.int (p1 &&& (3 : Int32))), .val (.ref s_NEVER_SENT), .unset]) rfl ?_
          show Steps p.tables e below (T23.setTop (mkF m 49 #[.val (.int p1), .val (.int (p1 &&& (3 : Int32))), .val (.ref s_NEVER_SENT), .unset] [])) _
          refine XS.iconst X23.here hx rfl (hb hby at_49) ?_
          show Steps p.tables e below (T23.setTop (mkF m 50 #[.val (.int p1), .val (.int (p1 &&& (3 : Int32))), .val (.ref s_NEVER_SENT), .unset] [(.int (0 : Int32))])) _
          refine XS.istoreN X23.here hx rfl (hb hby at_50) rfl (l' := #[.val (.int p1), .val (.int (p1 &&& (3 : Int32))), .val (.ref s_NEVER_SENT), .val (.int (0 : Int32))]) rfl ?_
          show Steps p.tables e below (T23.setTop (mkF m 51 #[.val (.int p1), .val (.int (p1 &&& (3 : Int32))), .val (.ref s_NEVER_SENT), .val (.int (0 : Int32))] [])) _
          refine XS.aloadN X23.here hx rfl (hb hby at_51) rfl rfl ?_
          show Steps p.tables e below (T23.setTop (mkF m 52 #[.val (.int p1), .val (.int (p1 &&& (3 : Int32))), .val (.ref s_NEVER_SENT), .val (.int (0 : Int32))] [(.ref s_NEVER_SENT)])) _
          exact kt
        obtain ⟨cq26, kq26, q26a, q26b, q26c⟩ := isOf hZ e23 E_s_NEVER_SENT
        obtain ⟨_, _, ⟨T26, L26, k26, n26⟩, -, X26, ⟨Lc26, hQ26, l26, y26, z26⟩, st26⟩ := X23.virtualBack hx (y := (⟨"com/example/transnum/transnum/model/MessageType$Status", "allowed", "()Z"⟩ : MethodName)) (z := (⟨"com/example/transnum/transnum/model/MessageType$Status", "allowed", "()Z"⟩ : MethodName)) hown (mvT hZ (hw _ (mgE 3 rfl))) (mvT hZ (hw _ (mgE 4 rfl))) (notFace_of_selects (args := #[]) (mvT hZ (hw _ (mgE 6 rfl)))) (mvT hZ (hw _ (mgE 6 rfl))) (mvT hZ (hw _ (mgE 5 rfl))) (by decide) (backOf (W := 0) (rm1 l Z a0 hw [] s_NEVER_SENT s_MANDATORY s_OPTIONAL h0 n0 Z0 S_MANDATORY S_OPTIONAL) hZ (hw _ (mgE 7 rfl)) (hw _ (mgE 1 rfl)) (by decide) (by decide)) q26a q26c (g := (mkF m 52 #[.val (.int p1), .val (.int (p1 &&& (3 : Int32))), .val (.ref s_NEVER_SENT), .val (.int (0 : Int32))] [(.ref s_NEVER_SENT)])) rfl (by rw [hml]; rfl) (Steps.refl _) (argsL := []) (rest := []) (lenOf pd___Z rfl) rfl (by show 2 * 0 + _ ≤ _; exact Nat.le_of_eq rfl) (hb hby at_52) (fun _ _ => ⟨rfl, e23, (by decide : 0 + 0 ≤ _), (by decide : 0 + 0 ≤ _)⟩)
        dsimp only [Pt.U, Pt.locs, Pt.cells, Pt.slots] at X26 l26 y26 z26 st26 hQ26
        subst l26 y26 z26
        obtain ⟨rfl, N26q, e26⟩ := hQ26
        have pre27 : ∀ t, Steps p.tables e below (T26.setTop (mkF m 55 #[.val (.int p1), .val (.int (p1 &&& (3 : Int32))), .val (.ref s_NEVER_SENT), .val (.int (0 : Int32))] [(.int (r1 s_NEVER_SENT s_MANDATORY s_OPTIONAL))])) t → Steps p.tables e below (s₁.setTop (entryFrame m #[(.int p1)] maxLocals)) t := fun t kt => pre25 t (st26.trans kt)
        have N26 := Fr.app N0 N26q
        have hc56 : (r1 s_NEVER_SENT s_MANDATORY s_OPTIONAL) = (0 : Int32) := by simp [r1, dNOT_ALLOWED_MANDATORY, dNOT_ALLOWED_OPTIONAL, dNEVER_SENT_MANDATORY, dNEVER_SENT_OPTIONAL]
        have pre28 : ∀ t, Steps p.tables e below (T26.setTop (mkF m 64 #[.val (.int p1), .val (.int (p1 &&& (3 : Int32))), .val (.ref s_NEVER_SENT), .val (.int (0 : Int32))] [(.int (1 : Int32))])) t → Steps p.tables e below (s₁.setTop (entryFrame m #[(.int p1)] maxLocals)) t := fun t kt => by
          refine pre27 t ?_
          refine XS.iloadN X26.here hx rfl (hb hby at_55) rfl ?_
          show Steps p.tables e below (T26.setTop (mkF m 56 #[.val (.int p1), .val (.int (p1 &&& (3 : Int32))), .val (.ref s_NEVER_SENT), .val (.int (0 : Int32))] [(.int (0 : Int32)), (.int (r1 s_NEVER_SENT s_MANDATORY s_OPTIONAL))])) _
          refine XS.icmpNo X26.here hx rfl (hb hby at_56) rfl (teq hc56).2 ?_
          show Steps p.tables e below (T26.setTop (mkF m 59 #[.val (.int p1), .val (.int (p1 &&& (3 : Int32))), .val (.ref s_NEVER_SENT), .val (.int (0 : Int32))] [])) _
          refine XS.iconst X26.here hx rfl (hb hby at_59) ?_
          show Steps p.tables e below (T26.setTop (mkF m 60 #[.val (.int p1), .val (.int (p1 &&& (3 : Int32))), .val (.ref s_NEVER_SENT), .val (.int (0 : Int32))] [(.int (1 : Int32))])) _
          refine XS.goto X26.here hx rfl (pc0 := 60) (pc' := 64) rfl (hb hby at_60) (by decide) (by decide) ?_
          show Steps p.tables e below (T26.setTop (mkF m 64 #[.val (.int p1), .val (.int (p1 &&& (3 : Int32))), .val (.ref s_NEVER_SENT), .val (.int (0 : Int32))] [(.int (1 : Int32))])) _
          exact kt
        obtain ⟨fs, hr, hrun, hended, hW, hsame⟩ := X26.leave (v := some (.int (1 : Int32))) (fun h => by rw [Bd.returns] at h; cases h)
        refine ⟨_, _, pre28 _ ?_, hrun, hended, _, _, rfl, ?_, ⟨_, rfl⟩, hW, hsame.mono (by decide) (by decide)⟩
        · exact retN X26 hx (t := .boolean) Bd.returns (by simp) (hb hby at_64) hr
        · show Q0 Z p1 s_MANDATORY s_OPTIONAL s_NOT_ALLOWED s_NEVER_SENT h0 n0 _ T26.heap _
          rw [e26]
          exact ⟨rfl, N26⟩
set_option maxRecDepth 65536 in
set_option maxHeartbeats 40000000 in
theorem comes_1 {Post : Tables → Env → Array Value → State → Outcome → State → Prop} (hpost : ∀ tb e args s v u, (limb_1_1.after args s (.returned v) u = true ∧ limb_1_2.after args s (.returned v) u = true ∧ True) → FrameEnd s (.returned v) u (Jvm.fieldLocs frame_1_writes args s ++ Jvm.arrayLocs frame_1_arrays args s ++ Jvm.staticLocs frame_1_statics s) 0 0 → Post tb e args s (.returned v) u) :
    ArmFor flags0 classFile x code maxLocals ret World_1 tables_1 room_1 Calls_1 rest_1 Pre_1 Post := by
  intro l hfl _ _ p e ha hc hk s m args below hf hA hF happ hP
  obtain ⟨hcalls, hrest, hpre⟩ := hP
  obtain ⟨-, -, -, hnamed, -, -, -, hat⟩ := (Spec.applies_iff hf).mp happ
  obtain ⟨hg, hn⟩ := and_e (Cond.before_iff.mp (show (Jvm.Cond.and given_1 narrow_1).before args s = true from hpre))
  obtain ⟨g1, g2⟩ := and_e hg
  obtain ⟨w0, rfl⟩ : ∃ w0 : Value, args = #[w0] := by
    have hs : args.size = 1 := by simpa [Cond.value, given_1] using g1
    obtain ⟨L⟩ := args
    match L, hs with
    | [w0], _ => exact ⟨w0, rfl⟩
  have hw := fun d (hd : d ∈ tables_1) => atoms_spec (ws := Jvm.Cond.code x code maxLocals ret :: tables_1) hat d (List.mem_cons_of_mem _ hd)
  have hfit : Fit s := fun {y c} hc i hi => by
    obtain ⟨ha, rfl⟩ := Array.getElem?_eq_some_iff.mp hc
    have q := List.all_eq_true.mp ((Array.all_eq_true_iff_forall_mem.mp hF) _ (Array.getElem_mem ha)) i (List.mem_range.mpr hi)
    simpa [Array.getElem?_eq_getElem hi] using q
  obtain ⟨i0, ei0⟩ := is_v g2
  obtain rfl : w0 = (.int i0) := Option.some.inj ei0
  obtain ⟨g3, g4⟩ := and_e hn
  obtain ⟨g5, g6⟩ := and_e g4
  obtain ⟨g7, g8⟩ := and_e g6
  obtain ⟨g9, g10⟩ := and_e g8
  obtain ⟨g11, g12⟩ := and_e g10
  obtain ⟨g13, g14⟩ := and_e g12
  obtain ⟨g15, g16⟩ := and_e g14
  obtain ⟨s_MANDATORY, ev_s_MANDATORY⟩ := exa_v g3
  have E_s_MANDATORY := Exa.start ev_s_MANDATORY g3
  have S_MANDATORY := Sta.start ev_s_MANDATORY (Or.inr ⟨(hw _ (mgE 1 rfl)), (hw _ (mgE 2 rfl))⟩)
  obtain ⟨s_NEVER_SENT, ev_s_NEVER_SENT⟩ := exa_v g5
  have E_s_NEVER_SENT := Exa.start ev_s_NEVER_SENT g5
  have S_NEVER_SENT := Sta.start ev_s_NEVER_SENT (Or.inr ⟨(hw _ (mgE 1 rfl)), (hw _ (mgE 10 rfl))⟩)
  obtain ⟨s_OPTIONAL, ev_s_OPTIONAL⟩ := exa_v g11
  have E_s_OPTIONAL := Exa.start ev_s_OPTIONAL g11
  have S_OPTIONAL := Sta.start ev_s_OPTIONAL (Or.inr ⟨(hw _ (mgE 1 rfl)), (hw _ (mgE 12 rfl))⟩)
  obtain ⟨s_NOT_ALLOWED, ev_s_NOT_ALLOWED⟩ := exa_v g15
  have E_s_NOT_ALLOWED := Exa.start ev_s_NOT_ALLOWED g15
  have S_NOT_ALLOWED := Sta.start ev_s_NOT_ALLOWED (Or.inr ⟨(hw _ (mgE 1 rfl)), (hw _ (mgE 14 rfl))⟩)
  have F_ordinal_s_NEVER_SENT := own_fe ev_s_NEVER_SENT g7
  have F_ordinal_s_MANDATORY := own_fe ev_s_MANDATORY g9
  have F_ordinal_s_OPTIONAL := own_fe ev_s_OPTIONAL g13
  have F_ordinal_s_NOT_ALLOWED := own_fe ev_s_NOT_ALLOWED g16
  obtain ⟨n, o, h1, h2, h3, _, L, rfl, ⟨rfl, N⟩, hq⟩ := rm0 l s _ hw tables_1 i0 s_MANDATORY s_OPTIONAL s_NOT_ALLOWED s_NEVER_SENT s.heap s.heap.size (Nat.le_refl _) S_MANDATORY S_OPTIONAL E_s_MANDATORY E_s_OPTIONAL S_NOT_ALLOWED E_s_NOT_ALLOWED S_NEVER_SENT E_s_NEVER_SENT (Fld.ne F_ordinal_s_NOT_ALLOWED F_ordinal_s_MANDATORY (by decide)) (Fld.ne F_ordinal_s_NOT_ALLOWED F_ordinal_s_OPTIONAL (by decide)) (Fld.ne F_ordinal_s_NEVER_SENT F_ordinal_s_MANDATORY (by decide)) (Fld.ne F_ordinal_s_NEVER_SENT F_ordinal_s_OPTIONAL (by decide)) p e ha hc hk s m _ below hf ((Spec.applies_iff_loose hf).mp happ).1 ⟨rfl, State.Warmed39.refl s, rfl⟩ trivial
  refine ⟨n, _, h1, h2, h3, hpost _ _ _ _ _ _ ⟨Cond.after_iff.mpr rfl, Cond.after_iff.mpr (eq_i res_at (Term.int_eval (1)) rfl), trivial⟩ ⟨hq.1, hq.2.1, (hq.2.2.sift fun y hy => Or.inr (N y hy)).mono (by decide) (by decide)⟩⟩
theorem main_1_1 : Claimed_1_1 := comes_1 fun _ _ _ _ _ _ h hF => ⟨h.1, hF⟩
theorem main_1_2 : Claimed_1_2 := comes_1 fun _ _ _ _ _ _ h hF => ⟨h.2.1, hF⟩
end Jvm.Pilot.@@N@@
namespace Jvm.Pilot.@@N@@
open Jvm Jvm.ClassFile Sem Op Lib Jvm.Free Jvm.Stand Jvm.Pilot.@@N@@.Jvm.D
/-! MADE BY PROGRAM (witnessworld.py) out of the Statement's table words and the real class files: 12 classes; the members and pool entries that the words name. The judged class is class 1, her method 1. -/
namespace start1
open Jvm.ClassFile
def u (s : String) : CpInfo := .utf8 (stringToUtf16 s)
/-- a pool by its gaps: so many unusable entries, then the entry; so many at the end -/
def gap : Nat → List CpInfo → List CpInfo
  | 0, r => r
  | n + 1, r => .unusable :: gap n r
def poolList (es : List (Nat × CpInfo)) (last : Nat) : List CpInfo := es.foldr (fun e r => gap e.1 (e.2 :: r)) (gap last [])
def pool (es : List (Nat × CpInfo)) (last : Nat) : Array CpInfo := ⟨poolList es last⟩
def fileOf (pool : Array CpInfo) (this : Nat) (attrs : Array Attribute := #[]) (ms : Array MethodInfo := #[]) (fl : Nat := 33) (sup : Nat := 0) (ifs : Array Nat := #[]) (fds : Array FieldInfo := #[]) : ClassFile where
  minorVersion := 0
  majorVersion := 65
  constantPool := pool
  accessFlags := fl
  thisClass := this
  superClass := sup
  interfaces := ifs
  fields := fds
  methods := ms
  attributes := attrs
def plain (name : String) (sup : Option ClassId) : Class where
  name := name
  kind := .ordinary
  loader := none
  accessFlags := 33
  super := sup
  interfaces := #[]
  cf := none
  fields := #[]
  methods := #[]
  instanceTypes := #[]
  staticTypes := #[]
  resolved := #[]
  callSites := []
  init := .initialized
  statics := none
  mirror := none

def pool0 : Array CpInfo := pool [(5, u "<init>"), (0, u "()V"), (1, .class_ 10), (1, u "java/lang/Object")] 113

def k0m0 : Method := { name := "<init>", desc := "()V", sig := { parameters := [], returnType := none }, accessFlags := 1, code := none }
/-- java/lang/Object -/
def k0 : Class := { plain "java/lang/Object" none with
  accessFlags := 33
  interfaces := #[]
  cf := some (fileOf pool0 8 #[] #[{ accessFlags := 1, nameIndex := 5, descriptorIndex := 6, attributes := #[] }] 33 0 #[] #[])
  fields := #[]
  methods := #[k0m0]
  instanceTypes := #[]
  staticTypes := #[]
  resolved := Array.replicate 124 none
  statics := none }

def pool1 : Array CpInfo := pool [(2, .class_ 4), (1, u "java/lang/Object"), (0, u "<init>"), (0, u "()V"), (0, .fieldref 8 9), (0, .class_ 10), (0, .nameAndType 11 12), (0, u "com/example/transnum/transnum/model/MessageType$Status"), (0, u "MANDATORY"), (0, u "Lcom/example/transnum/transnum/model/MessageType$Status;"), (0, .fieldref 8 14), (0, .nameAndType 15 12), (0, u "OPTIONAL"), (0, .fieldref 8 17), (0, .nameAndType 18 12), (0, u "NOT_ALLOWED"), (0, .fieldref 8 20), (0, .nameAndType 21 12), (0, u "NEVER_SENT"), (0, .methodref 8 23), (0, .nameAndType 24 25), (0, u "allowed"), (0, u "()Z"), (0, .class_ 27), (0, u "com/example/transnum/transnum/model/StatusAllowedPinLaw"), (2, u "law"), (0, u "(I)Z")] 7

def k1m0 : Method := { name := "<init>", desc := "()V", sig := { parameters := [], returnType := none }, accessFlags := 2, code := none }
def k1c1 : Code := { maxStack := 2, maxLocals := 4, code := code, exceptionTable := #[], attributes := #[] }
def k1m1 : Method := { name := "law", desc := "(I)Z", sig := { parameters := [.int], returnType := some .boolean }, accessFlags := 9, code := some k1c1 }
/-- com/example/transnum/transnum/model/StatusAllowedPinLaw -/
def k1 : Class := { plain "com/example/transnum/transnum/model/StatusAllowedPinLaw" (some 0) with
  accessFlags := 49
  interfaces := #[]
  cf := some (fileOf pool1 26 #[] #[{ accessFlags := 2, nameIndex := 5, descriptorIndex := 6, attributes := #[] }, { accessFlags := 9, nameIndex := 30, descriptorIndex := 31, attributes := #[] }] 49 2 #[] #[])
  fields := #[]
  methods := #[k1m0, k1m1]
  instanceTypes := #[]
  staticTypes := #[]
  resolved := Array.replicate 39 none
  statics := none }

def pool2 : Array CpInfo := pool [(1, .class_ 2), (0, u "java/lang/constant/Constable"), (0, .class_ 4), (0, u "java/lang/Object")] 6

/-- java/lang/constant/Constable -/
def k2 : Class := { plain "java/lang/constant/Constable" (some 0) with
  accessFlags := 1537
  interfaces := #[]
  cf := some (fileOf pool2 1 #[] #[] 1537 3 #[] #[])
  fields := #[]
  methods := #[]
  instanceTypes := #[]
  staticTypes := #[]
  resolved := Array.replicate 11 none
  statics := none }

def pool3 : Array CpInfo := pool [(1, .class_ 2), (0, u "java/lang/Comparable"), (0, .class_ 4), (0, u "java/lang/Object")] 7

/-- java/lang/Comparable -/
def k3 : Class := { plain "java/lang/Comparable" (some 0) with
  accessFlags := 1537
  interfaces := #[]
  cf := some (fileOf pool3 1 #[] #[] 1537 3 #[] #[])
  fields := #[]
  methods := #[]
  instanceTypes := #[]
  staticTypes := #[]
  resolved := Array.replicate 12 none
  statics := none }

def pool4 : Array CpInfo := pool [(1, .class_ 2), (0, u "java/io/Serializable"), (0, .class_ 4), (0, u "java/lang/Object")] 2

/-- java/io/Serializable -/
def k4 : Class := { plain "java/io/Serializable" (some 0) with
  accessFlags := 1537
  interfaces := #[]
  cf := some (fileOf pool4 1 #[] #[] 1537 3 #[] #[])
  fields := #[]
  methods := #[]
  instanceTypes := #[]
  staticTypes := #[]
  resolved := Array.replicate 7 none
  statics := none }

def pool5 : Array CpInfo := pool [(2, .class_ 4), (1, u "java/lang/Enum"), (0, u "name"), (0, u "Ljava/lang/String;"), (2, u "ordinal"), (0, u "I"), (1, .class_ 14), (1, u "java/lang/Object"), (4, u "hash"), (86, .class_ 108), (1, u "java/lang/Enum$EnumDesc"), (2, .class_ 112), (0, u "java/lang/constant/Constable"), (0, .class_ 114), (0, u "java/lang/Comparable"), (0, .class_ 116), (0, u "java/io/Serializable")] 87

/-- java/lang/Enum -/
def k5 : Class := { plain "java/lang/Enum" (some 0) with
  accessFlags := 1057
  interfaces := #[2, 3, 4]
  cf := some (fileOf pool5 2 #[.nestMembers #[106]] #[] 1057 12 #[111, 113, 115] #[{ accessFlags := 18, nameIndex := 5, descriptorIndex := 6, attributes := #[] }, { accessFlags := 18, nameIndex := 9, descriptorIndex := 10, attributes := #[] }, { accessFlags := 2, nameIndex := 19, descriptorIndex := 10, attributes := #[] }])
  fields := #[{ name := "name", type := (.object "java/lang/String"), accessFlags := 18, slot := 0, constantValue := 0 }, { name := "ordinal", type := .int, accessFlags := 18, slot := 1, constantValue := 0 }, { name := "hash", type := .int, accessFlags := 2, slot := 2, constantValue := 0 }]
  methods := #[]
  instanceTypes := #[(.object "java/lang/String"), .int, .int]
  staticTypes := #[]
  resolved := Array.replicate 204 none
  statics := none }

def pool6 : Array CpInfo := pool [(1, .class_ 2), (0, u "com/example/transnum/transnum/model/MessageType$Status"), (0, .fieldref 1 4), (0, .nameAndType 5 6), (0, u "MANDATORY"), (0, u "Lcom/example/transnum/transnum/model/MessageType$Status;"), (0, .fieldref 1 8), (0, .nameAndType 9 6), (0, u "OPTIONAL"), (2, u "NOT_ALLOWED"), (2, u "NEVER_SENT"), (2, u "$VALUES"), (0, u "[Lcom/example/transnum/transnum/model/MessageType$Status;"), (6, .class_ 28), (1, u "java/lang/Enum"), (8, u "symbol"), (0, u "Ljava/lang/String;"), (42, u "allowed"), (0, u "()Z"), (8, .class_ 92), (0, u "com/example/transnum/transnum/model/MessageType")] 16

def k6c0 : Code := { maxStack := 2, maxLocals := 1, code := prog_61_method_4_code, exceptionTable := #[], attributes := #[] }
def k6m0 : Method := { name := "allowed", desc := "()Z", sig := { parameters := [], returnType := some .boolean }, accessFlags := 1, code := some k6c0 }
/-- com/example/transnum/transnum/model/MessageType$Status -/
def k6 : Class := { plain "com/example/transnum/transnum/model/MessageType$Status" (some 5) with
  accessFlags := 16433
  interfaces := #[]
  cf := some (fileOf pool6 1 #[.nestHost 91] #[{ accessFlags := 1, nameIndex := 81, descriptorIndex := 82, attributes := #[] }] 16433 26 #[] #[{ accessFlags := 16409, nameIndex := 5, descriptorIndex := 6, attributes := #[] }, { accessFlags := 16409, nameIndex := 9, descriptorIndex := 6, attributes := #[] }, { accessFlags := 16409, nameIndex := 12, descriptorIndex := 6, attributes := #[] }, { accessFlags := 16409, nameIndex := 15, descriptorIndex := 6, attributes := #[] }, { accessFlags := 18, nameIndex := 37, descriptorIndex := 38, attributes := #[] }, { accessFlags := 4122, nameIndex := 18, descriptorIndex := 19, attributes := #[] }])
  fields := #[{ name := "MANDATORY", type := (.object "com/example/transnum/transnum/model/MessageType$Status"), accessFlags := 16409, slot := 0, constantValue := 0 }, { name := "OPTIONAL", type := (.object "com/example/transnum/transnum/model/MessageType$Status"), accessFlags := 16409, slot := 1, constantValue := 0 }, { name := "NOT_ALLOWED", type := (.object "com/example/transnum/transnum/model/MessageType$Status"), accessFlags := 16409, slot := 2, constantValue := 0 }, { name := "NEVER_SENT", type := (.object "com/example/transnum/transnum/model/MessageType$Status"), accessFlags := 16409, slot := 3, constantValue := 0 }, { name := "symbol", type := (.object "java/lang/String"), accessFlags := 18, slot := 3, constantValue := 0 }, { name := "$VALUES", type := (.array (.object "com/example/transnum/transnum/model/MessageType$Status")), accessFlags := 4122, slot := 4, constantValue := 0 }]
  methods := #[k6m0]
  instanceTypes := #[(.object "java/lang/String"), .int, .int, (.object "java/lang/String")]
  staticTypes := #[(.object "com/example/transnum/transnum/model/MessageType$Status"), (.object "com/example/transnum/transnum/model/MessageType$Status"), (.object "com/example/transnum/transnum/model/MessageType$Status"), (.object "com/example/transnum/transnum/model/MessageType$Status"), (.array (.object "com/example/transnum/transnum/model/MessageType$Status"))]
  resolved := Array.replicate 109 none
  statics := some 0 }

def pool7 : Array CpInfo := pool [(1, u "java/lang/Cloneable"), (0, .class_ 1), (0, u "java/lang/Object"), (0, .class_ 3)] 3

/-- java/lang/Cloneable -/
def k7 : Class := { plain "java/lang/Cloneable" (some 0) with
  accessFlags := 1537
  interfaces := #[]
  cf := some (fileOf pool7 2 #[] #[] 1537 4 #[] #[])
  fields := #[]
  methods := #[]
  instanceTypes := #[]
  staticTypes := #[]
  resolved := Array.replicate 8 none
  statics := none }

/-- the primitive byte -/
def k8 : Class := { plain "byte" none with kind := .primitive 'B', accessFlags := 0x411 }
/-- [B -/
def k9 : Class := { plain "[B" (some 0) with kind := .array 8 .byte, interfaces := #[7, 4], accessFlags := 1041 }

/-- the primitive int -/
def k10 : Class := { plain "int" none with kind := .primitive 'I', accessFlags := 0x411 }
/-- [I -/
def k11 : Class := { plain "[I" (some 0) with kind := .array 10 .int, interfaces := #[7, 4], accessFlags := 1041 }

def heap : Heap := #[{ cls := 6, slots := #[.ref 1, .ref 2, .ref 3, .ref 4, .null], vm := .statics 6 },
  { cls := 6, slots := #[.null, .int 0, .int 0, .null], vm := .none },
  { cls := 6, slots := #[.null, .int 1, .int 0, .null], vm := .none },
  { cls := 6, slots := #[.null, .int 2, .int 0, .null], vm := .none },
  { cls := 6, slots := #[.null, .int 3, .int 0, .null], vm := .none }]
def classes : Array Class := #[k0, k1, k2, k3, k4, k5, k6, k7, k8, k9, k10, k11]
def interned : List (Array UInt16 × Addr) := []
def slotsUsed : Nat := 21
def theMethod : MethodId := ⟨1, 1⟩
def args0 : Array Value := #[.int 1]
def aboutOver (below : List Frame) : State where
  vm := { classes := classes, interned := interned.toArray }
  heap := heap
  slotsUsed := slotsUsed
  threads := #[{ frames := .invoking theMethod args0 :: below }]
def below0 : List Frame := [.native { method := ⟨0, 0⟩, args := #[] }]
def about1 : State := aboutOver below0
def p0 : Program := .bare "" "" ""
def e0 : Env := launch0.env 0 0 0
theorem w_frames : about1.frames = Frame.invoking theMethod args0 :: below0 := rfl
set_option maxRecDepth 65536 in
theorem w_args : argsFit about1.vm theMethod args0 = true := by decide +kernel
set_option maxRecDepth 65536 in
theorem w_heap : heapFits about1 = true := by decide +kernel
set_option maxRecDepth 65536 in
theorem w_runnable : about1.curStatus? = some .runnable := by decide +kernel
set_option maxRecDepth 65536 in
theorem w_alone : about1.alone = true := by decide +kernel
set_option maxRecDepth 65536 in
theorem w_named : about1.methodNamed? x = some theMethod := by decide +kernel
set_option maxRecDepth 65536 in
theorem w_hears : about1.hears theMethod below0 = true := by decide +kernel
set_option maxRecDepth 65536 in
theorem w_ripe : about1.ripe theMethod args0 below0 = true := by decide +kernel
theorem w_running : about1.status = .running := rfl
set_option maxRecDepth 65536 in
theorem w_room : about1.hasRoom e0.platform room_1 = true :=
  launch0.hasRoom_least _ room_1 (by decide +kernel) (by decide +kernel) (by decide +kernel) (by decide +kernel) (by decide +kernel) (by decide +kernel)
theorem allAtoms_all (ts : List Jvm.Cond) (a : Array Jvm.Value) (st : Jvm.State) : (allAtoms ts).before a st = ts.all (fun c => c.before a st) := by
  induction ts with
  | nil => rfl
  | cons c t ih =>
    show (Jvm.Cond.and c (allAtoms t)).before a st = _
    rw [Jvm.Cond.before_and, ih, List.all_cons]
def words1 : List Jvm.Cond := Jvm.Cond.code x code maxLocals ret :: tables_1
/-- a 'code' word, met by the world's own term for the bytes: nothing is compared byte by byte -/
theorem code_word {y : MethodName} {bytes : ByteArray} {mx : Nat} {rt : Option FieldType} {a : Array Value} {s : State} {m : MethodId} {meth : Method} {c : Code} (h1 : s.methodNamed? y = some m) (h2 : s.vm.method? m = some meth) (h3 : meth.code = some c) (h4 : c.code = bytes)
    (h5 : (c.maxLocals == mx && c.exceptionTable.isEmpty && decide (c.maxStack ≤ mostOperands) && decide (meth.sig.returnType = rt) && !meth.locks && decide (parseMethodDescriptor y.desc = some meth.sig)) = true) : (Jvm.Cond.code y bytes mx rt).before a s = true := by
  simp only [Bool.and_eq_true, beq_iff_eq, Bool.not_eq_true', decide_eq_true_eq] at h5
  obtain ⟨⟨⟨⟨⟨g1, g2⟩, g3⟩, g4⟩, g5⟩, g6⟩ := h5
  simp [Cond.before, Cond.holds, Cond.value, h1, h2, h3, h4, g1, g2, g3, g4, g5, g6]
def isCode : Jvm.Cond → Bool
  | .code _ _ _ _ => true
  | _ => false
theorem all_split {L : List Jvm.Cond} {P : Jvm.Cond → Bool} (h1 : L.all (fun c => isCode c || P c) = true) (h2 : ∀ c ∈ L.filter isCode, P c = true) : L.all P = true := by
  refine List.all_eq_true.mpr fun c hc => ?_
  have h := List.all_eq_true.mp h1 c hc
  rcases Bool.eq_false_or_eq_true (isCode c) with hi | hi
  · exact h2 c (List.mem_filter.mpr ⟨hc, hi⟩)
  · simpa [hi] using h
set_option maxRecDepth 65536 in
theorem w_c0 : (Jvm.Cond.code x code maxLocals ret).before args0 about1 = true := code_word (m := ⟨1, 1⟩) (meth := k1m1) (c := k1c1) (by decide +kernel) rfl rfl rfl (by decide +kernel)
set_option maxRecDepth 65536 in
theorem w_c1 : (Jvm.Cond.code ({ cls := "com/example/transnum/transnum/model/MessageType$Status", name := "allowed", desc := "()Z" } : Jvm.MethodName) prog_61_method_4_code (1 : Nat) (Option.some Jvm.ClassFile.FieldType.boolean)).before args0 about1 = true := code_word (m := ⟨6, 0⟩) (meth := k6m0) (c := k6c0) (by decide +kernel) rfl rfl rfl (by decide +kernel)
def codes1 : List Jvm.Cond := [Jvm.Cond.code x code maxLocals ret, Jvm.Cond.code ({ cls := "com/example/transnum/transnum/model/MessageType$Status", name := "allowed", desc := "()Z" } : Jvm.MethodName) prog_61_method_4_code (1 : Nat) (Option.some Jvm.ClassFile.FieldType.boolean)]
set_option maxRecDepth 65536 in
theorem codes_eq : words1.filter isCode = codes1 := rfl
theorem w_codes : ∀ c ∈ words1.filter isCode, c.before args0 about1 = true := by
  rw [codes_eq]
  intro c hc
  simp only [codes1, List.mem_cons, List.not_mem_nil, or_false] at hc
  rcases hc with rfl | rfl
  · exact w_c0
  · exact w_c1
set_option maxRecDepth 65536 in
theorem w_t1 : words1.all (fun c => isCode c || c.before args0 about1) = true := by decide +kernel
theorem w_tables : (allAtoms (Jvm.Cond.code x code maxLocals ret :: tables_1)).before args0 about1 = true := by
  rw [allAtoms_all]
  show words1.all (fun c => c.before args0 about1) = true
  refine all_split ?_ w_codes
  rw [w_t1]
set_option maxRecDepth 65536 in
theorem w_case : (Jvm.Cond.and given_1 narrow_1).before args0 about1 = true := by decide +kernel
theorem w_applies : (headSpec (Jvm.Cond.code x code maxLocals ret :: tables_1) room_1).applies x e0.platform about1 = true :=
  (Spec.applies_iff w_frames).mpr ⟨w_running, w_runnable, w_alone, w_named, w_hears, w_ripe, w_room, w_tables⟩
theorem atStart : AtStart classFile x code maxLocals ret World_1 tables_1 room_1 Calls_1 rest_1 Pre_1 launch0 p0 e0 about1 theMethod args0 below0 :=
  ⟨lists_1, trivial, launch0.admits_env _ _ _, launch0.least_env, fairChoices_fair.cas, fairChoices_fair.clock, w_frames, w_args, w_heap, w_applies, trivial, trivial, w_case⟩
end start1
theorem witness_1 : WitnessClaimed_1 := ⟨start1.p0, start1.e0, start1.about1, start1.theMethod, start1.args0, start1.below0, start1.atStart⟩
end Jvm.Pilot.@@N@@
