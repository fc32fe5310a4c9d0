import JvmDerived
import JvmDerived.Pilot.@@N@@Statement
import JvmDerived.Pilot.@@N@@Code
set_option linter.unusedVariables false
set_option linter.unusedSimpArgs false
namespace Jvm.RoadKit
open Sem ClassFile Op Lib Jvm.Stand Jvm.Free Jvm.LawKit
section New
variable {p : Program} {l : Launch} {e : Env} {R : Room} {s : State} {m : MethodId} {args : Array Value} {below : List Frame} {meth : Method} {c : Code} {T : State} {locs : List Loc} {cells slots : Nat}
theorem retI (X : Stand p l e R s m args below meth c T locs cells slots) (hx : p.tables.exec = Jvm.exec) {pc : Nat} {Ls : Array Slot} {z : Int32} {rest : List Value} (hret : meth.sig.returnType = some .int) (hd : decode c.code pc = .ok (.ireturn, 1)) {fs : List Frame}
    (hl : ∀ (f : JFrame) (acts : List Action), f.method = m → f.locked = none → f.entered = [] → (doReturn e (T.setTop f) acts (some (.int z))).1 = T.setFrames fs) : Steps p.tables e below (T.setTop (mkF m pc Ls (.int z :: rest))) (T.setFrames fs) := by
  have hm' : T.vm.method? m = some meth := X.method'
  have hn : narrow .int (.int z) = .int z := rfl
  show Steps p.tables e below (T.setTop { method := m, pc := pc, locals := Ls, stack := _ :: rest, locked := none }) _
  jvm_step X.here [X.here.top, hx, hd, hm', hret, hn]
  first | (intro acts; rw [hl _ acts rfl rfl rfl]) | rw [hl _ _ rfl rfl rfl]
  exact Steps.refl _
end New
end Jvm.RoadKit
namespace Jvm.Pilot.@@N@@
open Jvm Jvm.ClassFile Sem Op Lib Jvm.Free Jvm.Stand Jvm.LawKit Jvm.RoadKit Bundle Jvm.Pilot.@@N@@.Jvm.D
theorem mgE {A : Type} {l : List A} {a : A} (i : Nat) (h : l[i]? = some a) : a ∈ l := List.mem_of_getElem? h

theorem own_fe {args : Array Value} {s : State} {t : Term} {a : Addr} {C n d : String} {k : Int32} (ev : t.eval args s none [] s = some (.ref a)) (h : (Jvm.Cond.eq (.field t C n d) (.int k)).value args s none s [] = some true) : Fld s s.heap a C n d (.int k) := by
  obtain ⟨x, y, h1, h2, k1, k2⟩ := cmp_v (Or.inl h)
  have h3 : y = .int k := (Option.some.inj ((Term.int_eval k).symm.trans h2)).symm
  subst h3
  obtain ⟨z, rfl⟩ := k2
  have h4 : z = k := by simpa [Cond.value, h1, h2] using h
  subst h4
  rw [fld_at ev] at h1
  exact Fld.start h1

theorem d1_0 : decode prog_45_method_4_code 0 = .ok (.aload_n 0, 1) := by decide +kernel
theorem d1_1 : decode prog_45_method_4_code 1 = .ok (.getstatic 7, 3) := by decide +kernel
theorem d1_4 : decode prog_45_method_4_code 4 = .ok (.if_acmp .ne 7, 3) := by decide +kernel
theorem d1_7 : decode prog_45_method_4_code 7 = .ok (.iconst 1, 1) := by decide +kernel
theorem d1_8 : decode prog_45_method_4_code 8 = .ok (.goto 4, 3) := by decide +kernel
theorem d1_11 : decode prog_45_method_4_code 11 = .ok (.iconst 0, 1) := by decide +kernel
theorem d1_12 : decode prog_45_method_4_code 12 = .ok (.ireturn, 1) := by decide +kernel
theorem pn_com_example_entgelt_entgelt_model_FacilityElement : plainName "com/example/entgelt/entgelt/model/FacilityElement" = true := by first | (simp [plainName, overriddenIn]; done) | decide +kernel
theorem ef_1 (m : MethodId) (x0 : Addr) : entryFrame m #[(.ref x0)] 1 = mkF m 0 #[.val (.ref x0)] [] := by first | (simp [entryFrame, mkF, argsToLocals, Value.category]; done) | rfl
def r1 (a1 : Addr) (s_DIRECT_TRUNKED_TRANSPORT : Addr) : Int32 := (if a1 = s_DIRECT_TRUNKED_TRANSPORT then (1 : Int32) else (0 : Int32))
def Q1 (Z : State) (a1 : Addr) (s_DIRECT_TRUNKED_TRANSPORT : Addr) (h0 : Heap) (n0 : Nat) (v : Option Value) (h : Heap) (L : List Loc) : Prop := v = some (.int (r1 a1 s_DIRECT_TRUNKED_TRANSPORT)) ∧ Fr n0 L ∧ h = h0
set_option maxRecDepth 65536 in
set_option maxHeartbeats 40000000 in
theorem rm1 (l : Launch) (Z : State) (a0 : Array Value) (hw : ∀ d ∈ tables_1, d.before a0 Z = true) (ws : List Jvm.Cond) (a1 : Addr) (s_DIRECT_TRUNKED_TRANSPORT : Addr) (h0 : Heap) (n0 : Nat) (Z0 : n0 ≤ h0.size) (S_DIRECT_TRUNKED_TRANSPORT : Sta Z h0 "com/example/entgelt/entgelt/model/FacilityElement" "DIRECT_TRUNKED_TRANSPORT" "Lcom/example/entgelt/entgelt/model/FacilityElement;" (.ref s_DIRECT_TRUNKED_TRANSPORT)) :
    MetFree l (⟨"com/example/entgelt/entgelt/model/FacilityElement", "isMeasured", "()Z"⟩ : MethodName) (head1 (Jvm.Cond.code (⟨"com/example/entgelt/entgelt/model/FacilityElement", "isMeasured", "()Z"⟩ : MethodName) prog_45_method_4_code 1 (some .boolean) :: ws) ({ frames := 0, cells := 0, slots := 0, locals := 0 } : Room)) (fun a U => a = #[(.ref a1)] ∧ Z.Warmed39 U.vm ∧ U.heap = h0) (fun _ _ _ _ _ => True) (fun _ U o U' => ∃ v L, o = .returned v ∧ Q1 Z a1 s_DIRECT_TRUNKED_TRANSPORT h0 n0 v U'.heap L ∧ FrameEnd U o U' L ({ frames := 0, cells := 0, slots := 0, locals := 0 } : Room).cells ({ frames := 0, cells := 0, slots := 0, locals := 0 } : Room).slots) := by
  refine MetFree.of_bodySF (plainFor_of_name pn_com_example_entgelt_entgelt_model_FacilityElement) hisR ?_
  intro p e s m args below meth c s₁ Bd hml0 hP hK
  obtain ⟨rfl, hZ, hh⟩ := hP
  have hx := Bd.exec
  have hby := Bd.bytes
  have hml : c.maxLocals = 1 := hml0
  have hown : s.vm.findClass "com/example/entgelt/entgelt/model/FacilityElement" = some m.cls := findClass_of_methodNamed Bd.named
  have hnm := (name_of_methodNamed Bd.named Bd.method).1
  have X0 : Stand p l e ({ frames := 0, cells := 0, slots := 0, locals := 0 } : Room) s m #[(.ref a1)] below meth c s₁ [] 0 0 := Stand.of_body Bd
  have e0 : s₁.heap = h0 := by rw [← hh, Bd.state]; rfl
  have N0 := Fr.nil n0
  have pre0 : ∀ t, Steps p.tables e below (s₁.setTop (mkF m 0 #[.val (.ref a1)] [])) t → Steps p.tables e below (s₁.setTop (entryFrame m #[(.ref a1)] 1)) t := fun t k => castTop (ef_1 m a1) k
  have pre1 : ∀ t, Steps p.tables e below (s₁.setTop (mkF m 1 #[.val (.ref a1)] [(.ref a1)])) t → Steps p.tables e below (s₁.setTop (entryFrame m #[(.ref a1)] 1)) t := fun t kt => by
    refine pre0 t ?_
    refine XS.aloadN X0.here hx rfl (hb hby d1_0) rfl rfl ?_
    show Steps p.tables e below (s₁.setTop (mkF m 1 #[.val (.ref a1)] [(.ref a1)])) _
    exact kt
  obtain ⟨T2, X2, e2, st2⟩ := getS2 X0 hx hZ hown (host := "") (Or.inl (hw _ (mgE 9 rfl))) Via.refl e0 S_DIRECT_TRUNKED_TRANSPORT (g := (mkF m 1 #[.val (.ref a1)] [(.ref a1)])) rfl (hb hby d1_1)
  have pre3 : ∀ t, Steps p.tables e below (T2.setTop (mkF m 4 #[.val (.ref a1)] [(.ref s_DIRECT_TRUNKED_TRANSPORT), (.ref a1)])) t → Steps p.tables e below (s₁.setTop (entryFrame m #[(.ref a1)] 1)) t := fun t kt => pre1 t (st2 t kt)
  by_cases ha4 : a1 = s_DIRECT_TRUNKED_TRANSPORT
  · skip
    have pre4 : ∀ t, Steps p.tables e below (T2.setTop (mkF m 12 #[.val (.ref a1)] [(.int (1 : Int32))])) t → Steps p.tables e below (s₁.setTop (entryFrame m #[(.ref a1)] 1)) t := fun t kt => by
      refine pre3 t ?_
      refine Jvm.RoadKit.acmp (g := (mkF m 4 #[.val (.ref a1)] [(.ref s_DIRECT_TRUNKED_TRANSPORT), (.ref a1)])) X2 hx rfl rfl rfl (pc0 := 4) (pc' := 7) (same := true) rfl (hb hby d1_4) rfl (decide_eq_true (congrArg Value.ref ha4)) (by decide) (by decide) ?_
      show Steps p.tables e below (T2.setTop (mkF m 7 #[.val (.ref a1)] [])) _
      refine XS.iconst X2.here hx rfl (hb hby d1_7) ?_
      show Steps p.tables e below (T2.setTop (mkF m 8 #[.val (.ref a1)] [(.int (1 : Int32))])) _
      refine XS.goto X2.here hx rfl (pc0 := 8) (pc' := 12) rfl (hb hby d1_8) (by decide) (by decide) ?_
      show Steps p.tables e below (T2.setTop (mkF m 12 #[.val (.ref a1)] [(.int (1 : Int32))])) _
      exact kt
    obtain ⟨fs, hr, hrun, hended, hW, hsame⟩ := X2.leave (v := some (.int (1 : Int32))) (fun h => by rw [Bd.returns] at h; cases h)
    refine ⟨_, _, pre4 _ ?_, hrun, hended, _, _, rfl, ?_, ⟨_, rfl⟩, hW, hsame.mono (by decide) (by decide)⟩
    · exact retN X2 hx (t := .boolean) Bd.returns (by simp) (hb hby d1_12) hr
    · show Q1 Z a1 s_DIRECT_TRUNKED_TRANSPORT h0 n0 _ T2.heap _
      rw [e2]
      exact ⟨by first | rfl | (simp only [r1, if_pos ha4]), N0, rfl⟩
  · skip
    have pre5 : ∀ t, Steps p.tables e below (T2.setTop (mkF m 12 #[.val (.ref a1)] [(.int (0 : Int32))])) t → Steps p.tables e below (s₁.setTop (entryFrame m #[(.ref a1)] 1)) t := fun t kt => by
      refine pre3 t ?_
      refine Jvm.RoadKit.acmp (g := (mkF m 4 #[.val (.ref a1)] [(.ref s_DIRECT_TRUNKED_TRANSPORT), (.ref a1)])) X2 hx rfl rfl rfl (pc0 := 4) (pc' := 11) (same := false) rfl (hb hby d1_4) rfl (decide_eq_false fun q => ha4 (Value.ref.inj q)) (by decide) (by decide) ?_
      show Steps p.tables e below (T2.setTop (mkF m 11 #[.val (.ref a1)] [])) _
      refine XS.iconst X2.here hx rfl (hb hby d1_11) ?_
      show Steps p.tables e below (T2.setTop (mkF m 12 #[.val (.ref a1)] [(.int (0 : Int32))])) _
      exact kt
    obtain ⟨fs, hr, hrun, hended, hW, hsame⟩ := X2.leave (v := some (.int (0 : Int32))) (fun h => by rw [Bd.returns] at h; cases h)
    refine ⟨_, _, pre5 _ ?_, hrun, hended, _, _, rfl, ?_, ⟨_, rfl⟩, hW, hsame.mono (by decide) (by decide)⟩
    · exact retN X2 hx (t := .boolean) Bd.returns (by simp) (hb hby d1_12) hr
    · show Q1 Z a1 s_DIRECT_TRUNKED_TRANSPORT h0 n0 _ T2.heap _
      rw [e2]
      exact ⟨by first | rfl | (simp only [r1, if_neg ha4]), N0, rfl⟩
theorem pn_com_example_entgelt_entgelt_model_FacilityElementIsMeasuredPinLaw : plainName "com/example/entgelt/entgelt/model/FacilityElementIsMeasuredPinLaw" = true := by first | (simp [plainName, overriddenIn]; done) | decide +kernel
theorem pd___Z : parseMethodDescriptor "()Z" = some ⟨[], some .boolean⟩ := by decide +kernel
theorem ef_0 (m : MethodId) (x0 : Int32) : entryFrame m #[(.int x0)] maxLocals = mkF m 0 #[.val (.int x0), .unset, .unset, .unset] [] := by first | (simp [entryFrame, mkF, argsToLocals, Value.category, maxLocals]; done) | rfl
def Q0 (Z : State) (p1 : Int32) (s_ENTRANCE_FACILITY : Addr) (s_DIRECT_TRUNKED_TRANSPORT : Addr) (s_MULTIPLEXING : Addr) (h0 : Heap) (n0 : Nat) (v : Option Value) (h : Heap) (L : List Loc) : Prop := v = some (.int 1) ∧ Fr n0 L
set_option maxRecDepth 65536 in
set_option maxHeartbeats 40000000 in
theorem rm0 (l : Launch) (Z : State) (a0 : Array Value) (hw : ∀ d ∈ tables_1, d.before a0 Z = true) (ws : List Jvm.Cond) (p1 : Int32) (s_ENTRANCE_FACILITY : Addr) (s_DIRECT_TRUNKED_TRANSPORT : Addr) (s_MULTIPLEXING : Addr) (h0 : Heap) (n0 : Nat) (Z0 : n0 ≤ h0.size) (S_ENTRANCE_FACILITY : Sta Z h0 "com/example/entgelt/entgelt/model/FacilityElement" "ENTRANCE_FACILITY" "Lcom/example/entgelt/entgelt/model/FacilityElement;" (.ref s_ENTRANCE_FACILITY)) (S_DIRECT_TRUNKED_TRANSPORT : Sta Z h0 "com/example/entgelt/entgelt/model/FacilityElement" "DIRECT_TRUNKED_TRANSPORT" "Lcom/example/entgelt/entgelt/model/FacilityElement;" (.ref s_DIRECT_TRUNKED_TRANSPORT)) (E_s_ENTRANCE_FACILITY : Exa Z h0 s_ENTRANCE_FACILITY "com/example/entgelt/entgelt/model/FacilityElement") (E_s_DIRECT_TRUNKED_TRANSPORT : Exa Z h0 s_DIRECT_TRUNKED_TRANSPORT "com/example/entgelt/entgelt/model/FacilityElement") (S_MULTIPLEXING : Sta Z h0 "com/example/entgelt/entgelt/model/FacilityElement" "MULTIPLEXING" "Lcom/example/entgelt/entgelt/model/FacilityElement;" (.ref s_MULTIPLEXING)) (E_s_MULTIPLEXING : Exa Z h0 s_MULTIPLEXING "com/example/entgelt/entgelt/model/FacilityElement") (dENTRANCE_FACILITY : s_ENTRANCE_FACILITY ≠ s_DIRECT_TRUNKED_TRANSPORT) (dMULTIPLEXING : s_MULTIPLEXING ≠ s_DIRECT_TRUNKED_TRANSPORT) :
    MetFree l x (head1 (Jvm.Cond.code x code maxLocals ret :: ws) room_1) (fun a U => a = #[(.int p1)] ∧ Z.Warmed39 U.vm ∧ U.heap = h0) (fun _ _ _ _ _ => True) (fun _ U o U' => ∃ v L, o = .returned v ∧ Q0 Z p1 s_ENTRANCE_FACILITY s_DIRECT_TRUNKED_TRANSPORT s_MULTIPLEXING h0 n0 v U'.heap L ∧ FrameEnd U o U' L room_1.cells room_1.slots) := by
  refine MetFree.of_bodySF (plainFor_of_name pn_com_example_entgelt_entgelt_model_FacilityElementIsMeasuredPinLaw) hisR ?_
  intro p e s m args below meth c s₁ Bd hml0 hP hK
  obtain ⟨rfl, hZ, hh⟩ := hP
  have hx := Bd.exec
  have hby := Bd.bytes
  have hml : c.maxLocals = 4 := hml0
  have hown : s.vm.findClass "com/example/entgelt/entgelt/model/FacilityElementIsMeasuredPinLaw" = some m.cls := findClass_of_methodNamed Bd.named
  have hnm := (name_of_methodNamed Bd.named Bd.method).1
  have X0 : Stand p l e room_1 s m #[(.int p1)] below meth c s₁ [] 0 0 := Stand.of_body Bd
  have e0 : s₁.heap = h0 := by rw [← hh, Bd.state]; rfl
  have N0 := Fr.nil n0
  have pre0 : ∀ t, Steps p.tables e below (s₁.setTop (mkF m 0 #[.val (.int p1), .unset, .unset, .unset] [])) t → Steps p.tables e below (s₁.setTop (entryFrame m #[(.int p1)] maxLocals)) t := fun t k => castTop (ef_0 m p1) k
  have pre1 : ∀ t, Steps p.tables e below (s₁.setTop (mkF m 7 #[.val (.int p1), .val (.int ((p1 &&& (2147483647 : Int32)) % (3 : Int32))), .unset, .unset] [])) t → Steps p.tables e below (s₁.setTop (entryFrame m #[(.int p1)] maxLocals)) t := fun t kt => by
    refine pre0 t ?_
    refine XS.iloadN X0.here hx rfl (hb hby at_0) rfl ?_
    show Steps p.tables e below (s₁.setTop (mkF m 1 #[.val (.int p1), .unset, .unset, .unset] [(.int p1)])) _
    refine X0.ldcInt hx hown (mvT hZ (hw _ (mgE 0 rfl))) (g := (mkF m 1 #[.val (.int p1), .unset, .unset, .unset] [(.int p1)])) rfl (hb hby at_1) _ ?_
    show Steps p.tables e below (s₁.setTop (mkF m 3 #[.val (.int p1), .unset, .unset, .unset] [(.int (2147483647 : Int32)), (.int p1)])) _
    refine XS.iand X0.here hx rfl (hb hby at_3) rfl ?_
    show Steps p.tables e below (s₁.setTop (mkF m 4 #[.val (.int p1), .unset, .unset, .unset] [(.int (p1 &&& (2147483647 : Int32)))])) _
    refine XS.iconst X0.here hx rfl (hb hby at_4) ?_
    show Steps p.tables e below (s₁.setTop (mkF m 5 #[.val (.int p1), .unset, .unset, .unset] [(.int (3 : Int32)), (.int (p1 &&& (2147483647 : Int32)))])) _
    have hnz5 : ¬ ((3 : Int32) = (0 : Int32)) := by decide
    refine iremM X0 hx rfl (hb hby at_5) rfl hnz5 ?_
    show Steps p.tables e below (s₁.setTop (mkF m 6 #[.val (.int p1), .unset, .unset, .unset] [(.int ((p1 &&& (2147483647 : Int32)) % (3 : Int32)))])) _
    refine XS.istoreN X0.here hx rfl (hb hby at_6) rfl (l' := #[.val (.int p1), .val (.int ((p1 &&& (2147483647 : Int32)) % (3 : Int32))), .unset, .unset]) rfl ?_
    show Steps p.tables e below (s₁.setTop (mkF m 7 #[.val (.int p1), .val (.int ((p1 &&& (2147483647 : Int32)) % (3 : Int32))), .unset, .unset] [])) _
    exact kt
  obtain ⟨kk, h_kk⟩ : ∃ z, z = ((p1 &&& (2147483647 : Int32)) % (3 : Int32)) := ⟨_, rfl⟩
  rw [← h_kk] at pre1
  by_cases hc8 : kk = (0 : Int32)
  · skip
    have pre2 : ∀ t, Steps p.tables e below (s₁.setTop (mkF m 11 #[.val (.int p1), .val (.int kk), .unset, .unset] [])) t → Steps p.tables e below (s₁.setTop (entryFrame m #[(.int p1)] maxLocals)) t := fun t kt => by
      refine pre1 t ?_
      refine XS.iloadN X0.here hx rfl (hb hby at_7) rfl ?_
      show Steps p.tables e below (s₁.setTop (mkF m 8 #[.val (.int p1), .val (.int kk), .unset, .unset] [(.int kk)])) _
      refine XS.ifNo X0.here hx rfl (hb hby at_8) rfl ((if0 _ _).trans (teq hc8).2) ?_
      show Steps p.tables e below (s₁.setTop (mkF m 11 #[.val (.int p1), .val (.int kk), .unset, .unset] [])) _
      exact kt
    subst hc8
    obtain ⟨T3, X3, e3, st3⟩ := getS2 X0 hx hZ hown (host := "") (Or.inl (hw _ (mgE 1 rfl))) Via.refl e0 S_ENTRANCE_FACILITY (g := (mkF m 11 #[.val (.int p1), .val (.int (0 : Int32)), .unset, .unset] [])) rfl (hb hby at_11)
    have pre4 : ∀ t, Steps p.tables e below (T3.setTop (mkF m 14 #[.val (.int p1), .val (.int (0 : Int32)), .unset, .unset] [(.ref s_ENTRANCE_FACILITY)])) t → Steps p.tables e below (s₁.setTop (entryFrame m #[(.int p1)] maxLocals)) t := fun t kt => pre2 t (st3 t kt)
    have pre5 : ∀ t, Steps p.tables e below (T3.setTop (mkF m 46 #[.val (.int p1), .val (.int (0 : Int32)), .val (.ref s_ENTRANCE_FACILITY), .val (.int (0 : Int32))] [(.ref s_ENTRANCE_FACILITY)])) t → Steps p.tables e below (s₁.setTop (entryFrame m #[(.int p1)] maxLocals)) t := fun t kt => by
      refine pre4 t ?_
      refine XS.astoreN X3.here hx rfl (hb hby at_14) rfl rfl (l' := #[.val (.int p1), .val (.int (0 : Int32)), .val (.ref s_ENTRANCE_FACILITY), .unset]) rfl ?_
      show Steps p.tables e below (T3.setTop (mkF m 15 #[.val (.int p1), .val (.int (0 : Int32)), .val (.ref s_ENTRANCE_FACILITY), .unset] [])) _
      refine XS.goto X3.here hx rfl (pc0 := 15) (pc' := 34) rfl (hb hby at_15) (by decide) (by decide) ?_
      show Steps p.tables e below (T3.setTop (mkF m 34 #[.val (.int p1), .val (.int (0 : Int32)), .val (.ref s_ENTRANCE_FACILITY), .unset] [])) _
      refine XS.iloadN X3.here hx rfl (hb hby at_34) rfl ?_
      show Steps p.tables e below (T3.setTop (mkF m 35 #[.val (.int p1), .val (.int (0 : Int32)), .val (.ref s_ENTRANCE_FACILITY), .unset] [(.int (0 : Int32))])) _
      refine XS.iconst X3.here hx rfl (hb hby at_35) ?_
      show Steps p.tables e below (T3.setTop (mkF m 36 #[.val (.int p1), .val (.int (0 : Int32)), .val (.ref s_ENTRANCE_FACILITY), .unset] [(.int (1 : Int32)), (.int (0 : Int32))])) _
      refine XS.icmpYes X3.here hx rfl (pc0 := 36) (pc' := 43) rfl (hb hby at_36) rfl (feq (by decide : ¬ ((0 : Int32) = (1 : Int32)))).2 (by decide) (by decide) ?_
      show Steps p.tables e below (T3.setTop (mkF m 43 #[.val (.int p1), .val (.int (0 : Int32)), .val (.ref s_ENTRANCE_FACILITY), .unset] [])) _
      refine XS.iconst X3.here hx rfl (hb hby at_43) ?_
      show Steps p.tables e below (T3.setTop (mkF m 44 #[.val (.int p1), .val (.int (0 : Int32)), .val (.ref s_ENTRANCE_FACILITY), .unset] [(.int (0 : Int32))])) _
      refine XS.istoreN X3.here hx rfl (hb hby at_44) rfl (l' := #[.val (.int p1), .val (.int (0 : Int32)), .val (.ref s_ENTRANCE_FACILITY), .val (.int (0 : Int32))]) rfl ?_
      show Steps p.tables e below (T3.setTop (mkF m 45 #[.val (.int p1), .val (.int (0 : Int32)), .val (.ref s_ENTRANCE_FACILITY), .val (.int (0 : Int32))] [])) _
      refine XS.aloadN X3.here hx rfl (hb hby at_45) rfl rfl ?_
      show Steps p.tables e below (T3.setTop (mkF m 46 #[.val (.int p1), .val (.int (0 : Int32)), .val (.ref s_ENTRANCE_FACILITY), .val (.int (0 : Int32))] [(.ref s_ENTRANCE_FACILITY)])) _
      exact kt
    obtain ⟨cq6, kq6, q6a, q6b, q6c⟩ := isOf hZ e3 E_s_ENTRANCE_FACILITY
    obtain ⟨_, _, ⟨T6, L6, k6, n6⟩, -, X6, ⟨Lc6, hQ6, l6, y6, z6⟩, st6⟩ := X3.virtualBack hx (y := (⟨"com/example/entgelt/entgelt/model/FacilityElement", "isMeasured", "()Z"⟩ : MethodName)) (z := (⟨"com/example/entgelt/entgelt/model/FacilityElement", "isMeasured", "()Z"⟩ : MethodName)) hown (mvT hZ (hw _ (mgE 4 rfl))) (mvT hZ (hw _ (mgE 5 rfl))) (notFace_of_selects (args := #[]) (mvT hZ (hw _ (mgE 7 rfl)))) (mvT hZ (hw _ (mgE 7 rfl))) (mvT hZ (hw _ (mgE 6 rfl))) (by decide) (backOf (W := 0) (rm1 l Z a0 hw [] s_ENTRANCE_FACILITY s_DIRECT_TRUNKED_TRANSPORT h0 n0 Z0 S_DIRECT_TRUNKED_TRANSPORT) hZ (hw _ (mgE 8 rfl)) (hw _ (mgE 2 rfl)) (by decide) (by decide)) q6a q6c (g := (mkF m 46 #[.val (.int p1), .val (.int (0 : Int32)), .val (.ref s_ENTRANCE_FACILITY), .val (.int (0 : Int32))] [(.ref s_ENTRANCE_FACILITY)])) rfl (by rw [hml]; rfl) (Steps.refl _) (argsL := []) (rest := []) (lenOf pd___Z rfl) rfl (by show 2 * 0 + _ ≤ _; exact Nat.le_of_eq rfl) (hb hby at_46) (fun _ _ => ⟨rfl, e3, (by decide : 0 + 0 ≤ _), (by decide : 0 + 0 ≤ _)⟩)
    dsimp only [Pt.U, Pt.locs, Pt.cells, Pt.slots] at X6 l6 y6 z6 st6 hQ6
    subst l6 y6 z6
    obtain ⟨rfl, N6q, e6⟩ := hQ6
    have pre7 : ∀ t, Steps p.tables e below (T6.setTop (mkF m 49 #[.val (.int p1), .val (.int (0 : Int32)), .val (.ref s_ENTRANCE_FACILITY), .val (.int (0 : Int32))] [(.int (r1 s_ENTRANCE_FACILITY s_DIRECT_TRUNKED_TRANSPORT))])) t → Steps p.tables e below (s₁.setTop (entryFrame m #[(.int p1)] maxLocals)) t := fun t kt => pre5 t (st6.trans kt)
    have N6 := Fr.app N0 N6q
    have hc50 : (r1 s_ENTRANCE_FACILITY s_DIRECT_TRUNKED_TRANSPORT) = (0 : Int32) := by simp [r1, dENTRANCE_FACILITY, dMULTIPLEXING]
    have pre8 : ∀ t, Steps p.tables e below (T6.setTop (mkF m 58 #[.val (.int p1), .val (.int (0 : Int32)), .val (.ref s_ENTRANCE_FACILITY), .val (.int (0 : Int32))] [(.int (1 : Int32))])) t → Steps p.tables e below (s₁.setTop (entryFrame m #[(.int p1)] maxLocals)) t := fun t kt => by
      refine pre7 t ?_
      refine XS.iloadN X6.here hx rfl (hb hby at_49) rfl ?_
      show Steps p.tables e below (T6.setTop (mkF m 50 #[.val (.int p1), .val (.int (0 : Int32)), .val (.ref s_ENTRANCE_FACILITY), .val (.int (0 : Int32))] [(.int (0 : Int32)), (.int (r1 s_ENTRANCE_FACILITY s_DIRECT_TRUNKED_TRANSPORT))])) _
      refine XS.icmpNo X6.here hx rfl (hb hby at_50) rfl (teq hc50).2 ?_
      show Steps p.tables e below (T6.setTop (mkF m 53 #[.val (.int p1), .val (.int (0 : Int32)), .val (.ref s_ENTRANCE_FACILITY), .val (.int (0 : Int32))] [])) _
      refine XS.iconst X6.here hx rfl (hb hby at_53) ?_
      show Steps p.tables e below (T6.setTop (mkF m 54 #[.val (.int p1), .val (.int (0 : Int32)), .val (.ref s_ENTRANCE_FACILITY), .val (.int (0 : Int32))] [(.int (1 : Int32))])) _
      refine XS.goto X6.here hx rfl (pc0 := 54) (pc' := 58) rfl (hb hby at_54) (by decide) (by decide) ?_
      show Steps p.tables e below (T6.setTop (mkF m 58 #[.val (.int p1), .val (.int (0 : Int32)), .val (.ref s_ENTRANCE_FACILITY), .val (.int (0 : Int32))] [(.int (1 : Int32))])) _
      exact kt
    obtain ⟨fs, hr, hrun, hended, hW, hsame⟩ := X6.leave (v := some (.int (1 : Int32))) (fun h => by rw [Bd.returns] at h; cases h)
    refine ⟨_, _, pre8 _ ?_, hrun, hended, _, _, rfl, ?_, ⟨_, rfl⟩, hW, hsame.mono (by decide) (by decide)⟩
    · exact retN X6 hx (t := .boolean) Bd.returns (by simp) (hb hby at_58) hr
    · show Q0 Z p1 s_ENTRANCE_FACILITY s_DIRECT_TRUNKED_TRANSPORT s_MULTIPLEXING h0 n0 _ T6.heap _
      rw [e6]
      exact ⟨rfl, N6⟩
  · skip
    by_cases hc20 : kk = (1 : Int32)
    · skip
      have pre9 : ∀ t, Steps p.tables e below (s₁.setTop (mkF m 23 #[.val (.int p1), .val (.int kk), .unset, .unset] [])) t → Steps p.tables e below (s₁.setTop (entryFrame m #[(.int p1)] maxLocals)) t := fun t kt => by
        refine pre1 t ?_
        refine XS.iloadN X0.here hx rfl (hb hby at_7) rfl ?_
        show Steps p.tables e below (s₁.setTop (mkF m 8 #[.val (.int p1), .val (.int kk), .unset, .unset] [(.int kk)])) _
        refine XS.ifYes X0.here hx rfl (pc0 := 8) (pc' := 18) rfl (hb hby at_8) rfl ((if0 _ _).trans (feq hc8).2) (by decide) (by decide) ?_
        show Steps p.tables e below (s₁.setTop (mkF m 18 #[.val (.int p1), .val (.int kk), .unset, .unset] [])) _
        refine XS.iloadN X0.here hx rfl (hb hby at_18) rfl ?_
        show Steps p.tables e below (s₁.setTop (mkF m 19 #[.val (.int p1), .val (.int kk), .unset, .unset] [(.int kk)])) _
        refine XS.iconst X0.here hx rfl (hb hby at_19) ?_
        show Steps p.tables e below (s₁.setTop (mkF m 20 #[.val (.int p1), .val (.int kk), .unset, .unset] [(.int (1 : Int32)), (.int kk)])) _
        refine XS.icmpNo X0.here hx rfl (hb hby at_20) rfl (teq hc20).2 ?_
        show Steps p.tables e below (s₁.setTop (mkF m 23 #[.val (.int p1), .val (.int kk), .unset, .unset] [])) _
        exact kt
      subst hc20
      obtain ⟨T10, X10, e10, st10⟩ := getS2 X0 hx hZ hown (host := "") (Or.inl (hw _ (mgE 13 rfl))) Via.refl e0 S_DIRECT_TRUNKED_TRANSPORT (g := (mkF m 23 #[.val (.int p1), .val (.int (1 : Int32)), .unset, .unset] [])) rfl (hb hby at_23)
      have pre11 : ∀ t, Steps p.tables e below (T10.setTop (mkF m 26 #[.val (.int p1), .val (.int (1 : Int32)), .unset, .unset] [(.ref s_DIRECT_TRUNKED_TRANSPORT)])) t → Steps p.tables e below (s₁.setTop (entryFrame m #[(.int p1)] maxLocals)) t := fun t kt => pre9 t (st10 t kt)
      have pre12 : ∀ t, Steps p.tables e below (T10.setTop (mkF m 46 #[.val (.int p1), .val (.int (1 : Int32)), .val (.ref s_DIRECT_TRUNKED_TRANSPORT), .val (.int (1 : Int32))] [(.ref s_DIRECT_TRUNKED_TRANSPORT)])) t → Steps p.tables e below (s₁.setTop (entryFrame m #[(.int p1)] maxLocals)) t := fun t kt => by
        refine pre11 t ?_
        refine XS.astoreN X10.here hx rfl (hb hby at_26) rfl rfl (l' := #[.val (.int p1), .val (.int (1 : Int32)), .val (.ref s_DIRECT_TRUNKED_TRANSPORT), .unset]) rfl ?_
        show Steps p.tables e below (T10.setTop (mkF m 27 #[.val (.int p1), .val (.int (1 : Int32)), .val (.ref s_DIRECT_TRUNKED_TRANSPORT), .unset] [])) _
        refine XS.goto X10.here hx rfl (pc0 := 27) (pc' := 34) rfl (hb hby at_27) (by decide) (by decide) ?_
        show Steps p.tables e below (T10.setTop (mkF m 34 #[.val (.int p1), .val (.int (1 : Int32)), .val (.ref s_DIRECT_TRUNKED_TRANSPORT), .unset] [])) _
        refine XS.iloadN X10.here hx rfl (hb hby at_34) rfl ?_
        show Steps p.tables e below (T10.setTop (mkF m 35 #[.val (.int p1), .val (.int (1 : Int32)), .val (.ref s_DIRECT_TRUNKED_TRANSPORT), .unset] [(.int (1 : Int32))])) _
        refine XS.iconst X10.here hx rfl (hb hby at_35) ?_
        show Steps p.tables e below (T10.setTop (mkF m 36 #[.val (.int p1), .val (.int (1 : Int32)), .val (.ref s_DIRECT_TRUNKED_TRANSPORT), .unset] [(.int (1 : Int32)), (.int (1 : Int32))])) _
        refine XS.icmpNo X10.here hx rfl (hb hby at_36) rfl (teq (by decide : (1 : Int32) = (1 : Int32))).2 ?_
        show Steps p.tables e below (T10.setTop (mkF m 39 #[.val (.int p1), .val (.int (1 : Int32)), .val (.ref s_DIRECT_TRUNKED_TRANSPORT), .unset] [])) _
        refine XS.iconst X10.here hx rfl (hb hby at_39) ?_
        show Steps p.tables e below (T10.setTop (mkF m 40 #[.val (.int p1), .val (.int (1 : Int32)), .val (.ref s_DIRECT_TRUNKED_TRANSPORT), .unset] [(.int (1 : Int32))])) _
        refine XS.goto X10.here hx rfl (pc0 := 40) (pc' := 44) rfl (hb hby at_40) (by decide) (by decide) ?_
        show Steps p.tables e below (T10.setTop (mkF m 44 #[.val (.int p1), .val (.int (1 : Int32)), .val (.ref s_DIRECT_TRUNKED_TRANSPORT), .unset] [(.int (1 : Int32))])) _
        refine XS.istoreN X10.here hx rfl (hb hby at_44) rfl (l' := #[.val (.int p1), .val (.int (1 : Int32)), .val (.ref s_DIRECT_TRUNKED_TRANSPORT), .val (.int (1 : Int32))]) rfl ?_
        show Steps p.tables e below (T10.setTop (mkF m 45 #[.val (.int p1), .val (.int (1 : Int32)), .val (.ref s_DIRECT_TRUNKED_TRANSPORT), .val (.int (1 : Int32))] [])) _
        refine XS.aloadN X10.here hx rfl (hb hby at_45) rfl rfl ?_
        show Steps p.tables e below (T10.setTop (mkF m 46 #[.val (.int p1), .val (.int (1 : Int32)), .val (.ref s_DIRECT_TRUNKED_TRANSPORT), .val (.int (1 : Int32))] [(.ref s_DIRECT_TRUNKED_TRANSPORT)])) _
        exact kt
      obtain ⟨cq13, kq13, q13a, q13b, q13c⟩ := isOf hZ e10 E_s_DIRECT_TRUNKED_TRANSPORT
      obtain ⟨_, _, ⟨T13, L13, k13, n13⟩, -, X13, ⟨Lc13, hQ13, l13, y13, z13⟩, st13⟩ := X10.virtualBack hx (y := (⟨"com/example/entgelt/entgelt/model/FacilityElement", "isMeasured", "()Z"⟩ : MethodName)) (z := (⟨"com/example/entgelt/entgelt/model/FacilityElement", "isMeasured", "()Z"⟩ : MethodName)) hown (mvT hZ (hw _ (mgE 4 rfl))) (mvT hZ (hw _ (mgE 5 rfl))) (notFace_of_selects (args := #[]) (mvT hZ (hw _ (mgE 7 rfl)))) (mvT hZ (hw _ (mgE 7 rfl))) (mvT hZ (hw _ (mgE 6 rfl))) (by decide) (backOf (W := 0) (rm1 l Z a0 hw [] s_DIRECT_TRUNKED_TRANSPORT s_DIRECT_TRUNKED_TRANSPORT h0 n0 Z0 S_DIRECT_TRUNKED_TRANSPORT) hZ (hw _ (mgE 8 rfl)) (hw _ (mgE 2 rfl)) (by decide) (by decide)) q13a q13c (g := (mkF m 46 #[.val (.int p1), .val (.int (1 : Int32)), .val (.ref s_DIRECT_TRUNKED_TRANSPORT), .val (.int (1 : Int32))] [(.ref s_DIRECT_TRUNKED_TRANSPORT)])) rfl (by rw [hml]; rfl) (Steps.refl _) (argsL := []) (rest := []) (lenOf pd___Z rfl) rfl (by show 2 * 0 + _ ≤ _; exact Nat.le_of_eq rfl) (hb hby at_46) (fun _ _ => ⟨rfl, e10, (by decide : 0 + 0 ≤ _), (by decide : 0 + 0 ≤ _)⟩)
      dsimp only [Pt.U, Pt.locs, Pt.cells, Pt.slots] at X13 l13 y13 z13 st13 hQ13
      subst l13 y13 z13
      obtain ⟨rfl, N13q, e13⟩ := hQ13
      have pre14 : ∀ t, Steps p.tables e below (T13.setTop (mkF m 49 #[.val (.int p1), .val (.int (1 : Int32)), .val (.ref s_DIRECT_TRUNKED_TRANSPORT), .val (.int (1 : Int32))] [(.int (r1 s_DIRECT_TRUNKED_TRANSPORT s_DIRECT_TRUNKED_TRANSPORT))])) t → Steps p.tables e below (s₁.setTop (entryFrame m #[(.int p1)] maxLocals)) t := fun t kt => pre12 t (st13.trans kt)
      have N13 := Fr.app N0 N13q
      have hc50 : (r1 s_DIRECT_TRUNKED_TRANSPORT s_DIRECT_TRUNKED_TRANSPORT) = (1 : Int32) := by simp [r1, dENTRANCE_FACILITY, dMULTIPLEXING]
      have pre15 : ∀ t, Steps p.tables e below (T13.setTop (mkF m 58 #[.val (.int p1), .val (.int (1 : Int32)), .val (.ref s_DIRECT_TRUNKED_TRANSPORT), .val (.int (1 : Int32))] [(.int (1 : Int32))])) t → Steps p.tables e below (s₁.setTop (entryFrame m #[(.int p1)] maxLocals)) t := fun t kt => by
        refine pre14 t ?_
        refine XS.iloadN X13.here hx rfl (hb hby at_49) rfl ?_
        show Steps p.tables e below (T13.setTop (mkF m 50 #[.val (.int p1), .val (.int (1 : Int32)), .val (.ref s_DIRECT_TRUNKED_TRANSPORT), .val (.int (1 : Int32))] [(.int (1 : Int32)), (.int (r1 s_DIRECT_TRUNKED_TRANSPORT s_DIRECT_TRUNKED_TRANSPORT))])) _
        refine XS.icmpNo X13.here hx rfl (hb hby at_50) rfl (teq hc50).2 ?_
        show Steps p.tables e below (T13.setTop (mkF m 53 #[.val (.int p1), .val (.int (1 : Int32)), .val (.ref s_DIRECT_TRUNKED_TRANSPORT), .val (.int (1 : Int32))] [])) _
        refine XS.iconst X13.here hx rfl (hb hby at_53) ?_
        show Steps p.tables e below (T13.setTop (mkF m 54 #[.val (.int p1), .val (.int (1 : Int32)), .val (.ref s_DIRECT_TRUNKED_TRANSPORT), .val (.int (1 : Int32))] [(.int (1 : Int32))])) _
        refine XS.goto X13.here hx rfl (pc0 := 54) (pc' := 58) rfl (hb hby at_54) (by decide) (by decide) ?_
        show Steps p.tables e below (T13.setTop (mkF m 58 #[.val (.int p1), .val (.int (1 : Int32)), .val (.ref s_DIRECT_TRUNKED_TRANSPORT), .val (.int (1 : Int32))] [(.int (1 : Int32))])) _
        exact kt
      obtain ⟨fs, hr, hrun, hended, hW, hsame⟩ := X13.leave (v := some (.int (1 : Int32))) (fun h => by rw [Bd.returns] at h; cases h)
      refine ⟨_, _, pre15 _ ?_, hrun, hended, _, _, rfl, ?_, ⟨_, rfl⟩, hW, hsame.mono (by decide) (by decide)⟩
      · exact retN X13 hx (t := .boolean) Bd.returns (by simp) (hb hby at_58) hr
      · show Q0 Z p1 s_ENTRANCE_FACILITY s_DIRECT_TRUNKED_TRANSPORT s_MULTIPLEXING h0 n0 _ T13.heap _
        rw [e13]
        exact ⟨rfl, N13⟩
    · skip
      have pre16 : ∀ t, Steps p.tables e below (s₁.setTop (mkF m 30 #[.val (.int p1), .val (.int kk), .unset, .unset] [])) t → Steps p.tables e below (s₁.setTop (entryFrame m #[(.int p1)] maxLocals)) t := fun t kt => by
        refine pre1 t ?_
        refine XS.iloadN X0.here hx rfl (hb hby at_7) rfl ?_
        show Steps p.tables e below (s₁.setTop (mkF m 8 #[.val (.int p1), .val (.int kk), .unset, .unset] [(.int kk)])) _
        refine XS.ifYes X0.here hx rfl (pc0 := 8) (pc' := 18) rfl (hb hby at_8) rfl ((if0 _ _).trans (feq hc8).2) (by decide) (by decide) ?_
        show Steps p.tables e below (s₁.setTop (mkF m 18 #[.val (.int p1), .val (.int kk), .unset, .unset] [])) _
        refine XS.iloadN X0.here hx rfl (hb hby at_18) rfl ?_
        show Steps p.tables e below (s₁.setTop (mkF m 19 #[.val (.int p1), .val (.int kk), .unset, .unset] [(.int kk)])) _
        refine XS.iconst X0.here hx rfl (hb hby at_19) ?_
        show Steps p.tables e below (s₁.setTop (mkF m 20 #[.val (.int p1), .val (.int kk), .unset, .unset] [(.int (1 : Int32)), (.int kk)])) _
        refine XS.icmpYes X0.here hx rfl (pc0 := 20) (pc' := 30) rfl (hb hby at_20) rfl (feq hc20).2 (by decide) (by decide) ?_
        show Steps p.tables e below (s₁.setTop (mkF m 30 #[.val (.int p1), .val (.int kk), .unset, .unset] [])) _
        exact kt
      obtain ⟨T17, X17, e17, st17⟩ := getS2 X0 hx hZ hown (host := "") (Or.inl (hw _ (mgE 11 rfl))) Via.refl e0 S_MULTIPLEXING (g := (mkF m 30 #[.val (.int p1), .val (.int kk), .unset, .unset] [])) rfl (hb hby at_30)
      have pre18 : ∀ t, Steps p.tables e below (T17.setTop (mkF m 33 #[.val (.int p1), .val (.int kk), .unset, .unset] [(.ref s_MULTIPLEXING)])) t → Steps p.tables e below (s₁.setTop (entryFrame m #[(.int p1)] maxLocals)) t := fun t kt => pre16 t (st17 t kt)
      have pre19 : ∀ t, Steps p.tables e below (T17.setTop (mkF m 46 #[.val (.int p1), .val (.int kk), .val (.ref s_MULTIPLEXING), .val (.int (0 : Int32))] [(.ref s_MULTIPLEXING)])) t → Steps p.tables e below (s₁.setTop (entryFrame m #[(.int p1)] maxLocals)) t := fun t kt => by
        refine pre18 t ?_
        refine XS.astoreN X17.here hx rfl (hb hby at_33) rfl rfl (l' := #[.val (.int p1), .val (.int kk), .val (.ref s_MULTIPLEXING), .unset]) rfl ?_
        show Steps p.tables e below (T17.setTop (mkF m 34 #[.val (.int p1), .val (.int kk), .val (.ref s_MULTIPLEXING), .unset] [])) _
        refine XS.iloadN X17.here hx rfl (hb hby at_34) rfl ?_
        show Steps p.tables e below (T17.setTop (mkF m 35 #[.val (.int p1), .val (.int kk), .val (.ref s_MULTIPLEXING), .unset] [(.int kk)])) _
        refine XS.iconst X17.here hx rfl (hb hby at_35) ?_
        show Steps p.tables e below (T17.setTop (mkF m 36 #[.val (.int p1), .val (.int kk), .val (.ref s_MULTIPLEXING), .unset] [(.int (1 : Int32)), (.int kk)])) _
        refine XS.icmpYes X17.here hx rfl (pc0 := 36) (pc' := 43) rfl (hb hby at_36) rfl (feq hc20).2 (by decide) (by decide) ?_
        show Steps p.tables e below (T17.setTop (mkF m 43 #[.val (.int p1), .val (.int kk), .val (.ref s_MULTIPLEXING), .unset] [])) _
        refine XS.iconst X17.here hx rfl (hb hby at_43) ?_
        show Steps p.tables e below (T17.setTop (mkF m 44 #[.val (.int p1), .val (.int kk), .val (.ref s_MULTIPLEXING), .unset] [(.int (0 : Int32))])) _
        refine XS.istoreN X17.here hx rfl (hb hby at_44) rfl (l' := #[.val (.int p1), .val (.int kk), .val (.ref s_MULTIPLEXING), .val (.int (0 : Int32))]) rfl ?_
        show Steps p.tables e below (T17.setTop (mkF m 45 #[.val (.int p1), .val (.int kk), .val (.ref s_MULTIPLEXING), .val (.int (0 : Int32))] [])) _
        refine XS.aloadN X17.here hx rfl (hb hby at_45) rfl rfl ?_
        show Steps p.tables e below (T17.setTop (mkF m 46 #[.val (.int p1), .val (.int kk), .val (.ref s_MULTIPLEXING), .val (.int (0 : Int32))] [(.ref s_MULTIPLEXING)])) _
        exact kt
      obtain ⟨cq20, kq20, q20a, q20b, q20c⟩ := isOf hZ e17 E_s_MULTIPLEXING
      obtain ⟨_, _, ⟨T20, L20, k20, n20⟩, -, X20, ⟨Lc20, hQ20, l20, y20, z20⟩, st20⟩ := X17.virtualBack hx (y := (⟨"com/example/entgelt/entgelt/model/FacilityElement", "isMeasured", "()Z"⟩ : MethodName)) (z := (⟨"com/example/entgelt/entgelt/model/FacilityElement", "isMeasured", "()Z"⟩ : MethodName)) hown (mvT hZ (hw _ (mgE 4 rfl))) (mvT hZ (hw _ (mgE 5 rfl))) (notFace_of_selects (args := #[]) (mvT hZ (hw _ (mgE 7 rfl)))) (mvT hZ (hw _ (mgE 7 rfl))) (mvT hZ (hw _ (mgE 6 rfl))) (by decide) (backOf (W := 0) (rm1 l Z a0 hw [] s_MULTIPLEXING s_DIRECT_TRUNKED_TRANSPORT h0 n0 Z0 S_DIRECT_TRUNKED_TRANSPORT) hZ (hw _ (mgE 8 rfl)) (hw _ (mgE 2 rfl)) (by decide) (by decide)) q20a q20c (g := (mkF m 46 #[.val (.int p1), .val (.int kk), .val (.ref s_MULTIPLEXING), .val (.int (0 : Int32))] [(.ref s_MULTIPLEXING)])) rfl (by rw [hml]; rfl) (Steps.refl _) (argsL := []) (rest := []) (lenOf pd___Z rfl) rfl (by show 2 * 0 + _ ≤ _; exact Nat.le_of_eq rfl) (hb hby at_46) (fun _ _ => ⟨rfl, e17, (by decide : 0 + 0 ≤ _), (by decide : 0 + 0 ≤ _)⟩)
      dsimp only [Pt.U, Pt.locs, Pt.cells, Pt.slots] at X20 l20 y20 z20 st20 hQ20
      subst l20 y20 z20
      obtain ⟨rfl, N20q, e20⟩ := hQ20
      have pre21 : ∀ t, Steps p.tables e below (T20.setTop (mkF m 49 #[.val (.int p1), .val (.int kk), .val (.ref s_MULTIPLEXING), .val (.int (0 : Int32))] [(.int (r1 s_MULTIPLEXING s_DIRECT_TRUNKED_TRANSPORT))])) t → Steps p.tables e below (s₁.setTop (entryFrame m #[(.int p1)] maxLocals)) t := fun t kt => pre19 t (st20.trans kt)
      have N20 := Fr.app N0 N20q
      have hc50 : (r1 s_MULTIPLEXING s_DIRECT_TRUNKED_TRANSPORT) = (0 : Int32) := by simp [r1, dENTRANCE_FACILITY, dMULTIPLEXING]
      have pre22 : ∀ t, Steps p.tables e below (T20.setTop (mkF m 58 #[.val (.int p1), .val (.int kk), .val (.ref s_MULTIPLEXING), .val (.int (0 : Int32))] [(.int (1 : Int32))])) t → Steps p.tables e below (s₁.setTop (entryFrame m #[(.int p1)] maxLocals)) t := fun t kt => by
        refine pre21 t ?_
        refine XS.iloadN X20.here hx rfl (hb hby at_49) rfl ?_
        show Steps p.tables e below (T20.setTop (mkF m 50 #[.val (.int p1), .val (.int kk), .val (.ref s_MULTIPLEXING), .val (.int (0 : Int32))] [(.int (0 : Int32)), (.int (r1 s_MULTIPLEXING s_DIRECT_TRUNKED_TRANSPORT))])) _
        refine XS.icmpNo X20.here hx rfl (hb hby at_50) rfl (teq hc50).2 ?_
        show Steps p.tables e below (T20.setTop (mkF m 53 #[.val (.int p1), .val (.int kk), .val (.ref s_MULTIPLEXING), .val (.int (0 : Int32))] [])) _
        refine XS.iconst X20.here hx rfl (hb hby at_53) ?_
        show Steps p.tables e below (T20.setTop (mkF m 54 #[.val (.int p1), .val (.int kk), .val (.ref s_MULTIPLEXING), .val (.int (0 : Int32))] [(.int (1 : Int32))])) _
        refine XS.goto X20.here hx rfl (pc0 := 54) (pc' := 58) rfl (hb hby at_54) (by decide) (by decide) ?_
        show Steps p.tables e below (T20.setTop (mkF m 58 #[.val (.int p1), .val (.int kk), .val (.ref s_MULTIPLEXING), .val (.int (0 : Int32))] [(.int (1 : Int32))])) _
        exact kt
      obtain ⟨fs, hr, hrun, hended, hW, hsame⟩ := X20.leave (v := some (.int (1 : Int32))) (fun h => by rw [Bd.returns] at h; cases h)
      refine ⟨_, _, pre22 _ ?_, hrun, hended, _, _, rfl, ?_, ⟨_, rfl⟩, hW, hsame.mono (by decide) (by decide)⟩
      · exact retN X20 hx (t := .boolean) Bd.returns (by simp) (hb hby at_58) hr
      · show Q0 Z p1 s_ENTRANCE_FACILITY s_DIRECT_TRUNKED_TRANSPORT s_MULTIPLEXING h0 n0 _ T20.heap _
        rw [e20]
        exact ⟨rfl, N20⟩
set_option maxRecDepth 65536 in
set_option maxHeartbeats 40000000 in
theorem comes_1 {Post : Tables → Env → Array Value → State → Outcome → State → Prop} (hpost : ∀ tb e args s v u, (limb_1_1.after args s (.returned v) u = true ∧ limb_1_2.after args s (.returned v) u = true ∧ True) → FrameEnd s (.returned v) u (Jvm.fieldLocs frame_1_writes args s ++ Jvm.arrayLocs frame_1_arrays args s ++ Jvm.staticLocs frame_1_statics s) 0 0 → Post tb e args s (.returned v) u) :
    ArmFor flags0 classFile x code maxLocals ret World_1 tables_1 room_1 Calls_1 rest_1 Pre_1 Post := by
  intro l hfl _ _ p e ha hc hk s m args below hf hA hF happ hP
  obtain ⟨hcalls, hrest, hpre⟩ := hP
  obtain ⟨-, -, -, hnamed, -, -, -, hat⟩ := (Spec.applies_iff hf).mp happ
  obtain ⟨hg, hn⟩ := and_e (Cond.before_iff.mp (show (Jvm.Cond.and given_1 narrow_1).before args s = true from hpre))
  obtain ⟨g1, g2⟩ := and_e hg
  obtain ⟨w0, rfl⟩ : ∃ w0 : Value, args = #[w0] := by
    have hs : args.size = 1 := by simpa [Cond.value, given_1] using g1
    obtain ⟨L⟩ := args
    match L, hs with
    | [w0], _ => exact ⟨w0, rfl⟩
  have hw := fun d (hd : d ∈ tables_1) => atoms_spec (ws := Jvm.Cond.code x code maxLocals ret :: tables_1) hat d (List.mem_cons_of_mem _ hd)
  have hfit : Fit s := fun {y c} hc i hi => by
    obtain ⟨ha, rfl⟩ := Array.getElem?_eq_some_iff.mp hc
    have q := List.all_eq_true.mp ((Array.all_eq_true_iff_forall_mem.mp hF) _ (Array.getElem_mem ha)) i (List.mem_range.mpr hi)
    simpa [Array.getElem?_eq_getElem hi] using q
  obtain ⟨i0, ei0⟩ := is_v g2
  obtain rfl : w0 = (.int i0) := Option.some.inj ei0
  obtain ⟨g3, g4⟩ := and_e hn
  obtain ⟨g5, g6⟩ := and_e g4
  obtain ⟨g7, g8⟩ := and_e g6
  obtain ⟨g9, g10⟩ := and_e g8
  obtain ⟨g11, g12⟩ := and_e g10
  obtain ⟨s_ENTRANCE_FACILITY, ev_s_ENTRANCE_FACILITY⟩ := exa_v g3
  have E_s_ENTRANCE_FACILITY := Exa.start ev_s_ENTRANCE_FACILITY g3
  have S_ENTRANCE_FACILITY := Sta.start ev_s_ENTRANCE_FACILITY (Or.inr ⟨(hw _ (mgE 2 rfl)), (hw _ (mgE 3 rfl))⟩)
  obtain ⟨s_DIRECT_TRUNKED_TRANSPORT, ev_s_DIRECT_TRUNKED_TRANSPORT⟩ := exa_v g5
  have E_s_DIRECT_TRUNKED_TRANSPORT := Exa.start ev_s_DIRECT_TRUNKED_TRANSPORT g5
  have S_DIRECT_TRUNKED_TRANSPORT := Sta.start ev_s_DIRECT_TRUNKED_TRANSPORT (Or.inr ⟨(hw _ (mgE 2 rfl)), (hw _ (mgE 10 rfl))⟩)
  obtain ⟨s_MULTIPLEXING, ev_s_MULTIPLEXING⟩ := exa_v g11
  have E_s_MULTIPLEXING := Exa.start ev_s_MULTIPLEXING g11
  have S_MULTIPLEXING := Sta.start ev_s_MULTIPLEXING (Or.inr ⟨(hw _ (mgE 2 rfl)), (hw _ (mgE 12 rfl))⟩)
  have F_ordinal_s_ENTRANCE_FACILITY := own_fe ev_s_ENTRANCE_FACILITY g7
  have F_ordinal_s_DIRECT_TRUNKED_TRANSPORT := own_fe ev_s_DIRECT_TRUNKED_TRANSPORT g9
  have F_ordinal_s_MULTIPLEXING := own_fe ev_s_MULTIPLEXING g12
  obtain ⟨n, o, h1, h2, h3, _, L, rfl, ⟨rfl, N⟩, hq⟩ := rm0 l s _ hw tables_1 i0 s_ENTRANCE_FACILITY s_DIRECT_TRUNKED_TRANSPORT s_MULTIPLEXING s.heap s.heap.size (Nat.le_refl _) S_ENTRANCE_FACILITY S_DIRECT_TRUNKED_TRANSPORT E_s_ENTRANCE_FACILITY E_s_DIRECT_TRUNKED_TRANSPORT S_MULTIPLEXING E_s_MULTIPLEXING (Fld.ne F_ordinal_s_ENTRANCE_FACILITY F_ordinal_s_DIRECT_TRUNKED_TRANSPORT (by decide)) (Fld.ne F_ordinal_s_MULTIPLEXING F_ordinal_s_DIRECT_TRUNKED_TRANSPORT (by decide)) p e ha hc hk s m _ below hf ((Spec.applies_iff_loose hf).mp happ).1 ⟨rfl, State.Warmed39.refl s, rfl⟩ trivial
  refine ⟨n, _, h1, h2, h3, hpost _ _ _ _ _ _ ⟨Cond.after_iff.mpr rfl, Cond.after_iff.mpr (eq_i res_at (Term.int_eval (1)) rfl), trivial⟩ ⟨hq.1, hq.2.1, (hq.2.2.sift fun y hy => Or.inr (N y hy)).mono (by decide) (by decide)⟩⟩
theorem main_1_1 : Claimed_1_1 := comes_1 fun _ _ _ _ _ _ h hF => ⟨h.1, hF⟩
theorem main_1_2 : Claimed_1_2 := comes_1 fun _ _ _ _ _ _ h hF => ⟨h.2.1, hF⟩
end Jvm.Pilot.@@N@@
namespace Jvm.Pilot.@@N@@
open Jvm Jvm.ClassFile Sem Op Lib Jvm.Free Jvm.Stand Jvm.Pilot.@@N@@.Jvm.D
/-! MADE BY PROGRAM (witnessworld.py) out of the Statement's table words and the real class files: 12 classes; the members and pool entries that the words name. The judged class is class 1, her method 1. -/
namespace start1
open Jvm.ClassFile
def u (s : String) : CpInfo := .utf8 (stringToUtf16 s)
/-- a pool by its gaps: so many unusable entries, then the entry; so many at the end -/
def gap : Nat → List CpInfo → List CpInfo
  | 0, r => r
  | n + 1, r => .unusable :: gap n r
def poolList (es : List (Nat × CpInfo)) (last : Nat) : List CpInfo := es.foldr (fun e r => gap e.1 (e.2 :: r)) (gap last [])
def pool (es : List (Nat × CpInfo)) (last : Nat) : Array CpInfo := ⟨poolList es last⟩
def fileOf (pool : Array CpInfo) (this : Nat) (attrs : Array Attribute := #[]) (ms : Array MethodInfo := #[]) (fl : Nat := 33) (sup : Nat := 0) (ifs : Array Nat := #[]) (fds : Array FieldInfo := #[]) : ClassFile where
  minorVersion := 0
  majorVersion := 65
  constantPool := pool
  accessFlags := fl
  thisClass := this
  superClass := sup
  interfaces := ifs
  fields := fds
  methods := ms
  attributes := attrs
def plain (name : String) (sup : Option ClassId) : Class where
  name := name
  kind := .ordinary
  loader := none
  accessFlags := 33
  super := sup
  interfaces := #[]
  cf := none
  fields := #[]
  methods := #[]
  instanceTypes := #[]
  staticTypes := #[]
  resolved := #[]
  callSites := []
  init := .initialized
  statics := none
  mirror := none

def pool0 : Array CpInfo := pool [(5, u "<init>"), (0, u "()V"), (1, .class_ 10), (1, u "java/lang/Object")] 113

def k0m0 : Method := { name := "<init>", desc := "()V", sig := { parameters := [], returnType := none }, accessFlags := 1, code := none }
/-- java/lang/Object -/
def k0 : Class := { plain "java/lang/Object" none with
  accessFlags := 33
  interfaces := #[]
  cf := some (fileOf pool0 8 #[] #[{ accessFlags := 1, nameIndex := 5, descriptorIndex := 6, attributes := #[] }] 33 0 #[] #[])
  fields := #[]
  methods := #[k0m0]
  instanceTypes := #[]
  staticTypes := #[]
  resolved := Array.replicate 124 none
  statics := none }

def pool1 : Array CpInfo := pool [(2, .class_ 4), (1, u "java/lang/Object"), (0, u "<init>"), (0, u "()V"), (0, .integer 2147483647), (0, .fieldref 9 10), (0, .class_ 11), (0, .nameAndType 12 13), (0, u "com/example/entgelt/entgelt/model/FacilityElement"), (0, u "ENTRANCE_FACILITY"), (0, u "Lcom/example/entgelt/entgelt/model/FacilityElement;"), (0, .fieldref 9 15), (0, .nameAndType 16 13), (0, u "DIRECT_TRUNKED_TRANSPORT"), (0, .fieldref 9 18), (0, .nameAndType 19 13), (0, u "MULTIPLEXING"), (0, .methodref 9 21), (0, .nameAndType 22 23), (0, u "isMeasured"), (0, u "()Z"), (0, .class_ 25), (0, u "com/example/entgelt/entgelt/model/FacilityElementIsMeasuredPinLaw"), (2, u "law"), (0, u "(I)Z")] 3

def k1m0 : Method := { name := "<init>", desc := "()V", sig := { parameters := [], returnType := none }, accessFlags := 2, code := none }
def k1c1 : Code := { maxStack := 2, maxLocals := 4, code := code, exceptionTable := #[], attributes := #[] }
def k1m1 : Method := { name := "law", desc := "(I)Z", sig := { parameters := [.int], returnType := some .boolean }, accessFlags := 9, code := some k1c1 }
/-- com/example/entgelt/entgelt/model/FacilityElementIsMeasuredPinLaw -/
def k1 : Class := { plain "com/example/entgelt/entgelt/model/FacilityElementIsMeasuredPinLaw" (some 0) with
  accessFlags := 49
  interfaces := #[]
  cf := some (fileOf pool1 24 #[] #[{ accessFlags := 2, nameIndex := 5, descriptorIndex := 6, attributes := #[] }, { accessFlags := 9, nameIndex := 28, descriptorIndex := 29, attributes := #[] }] 49 2 #[] #[])
  fields := #[]
  methods := #[k1m0, k1m1]
  instanceTypes := #[]
  staticTypes := #[]
  resolved := Array.replicate 33 none
  statics := none }

def pool2 : Array CpInfo := pool [(1, .class_ 2), (0, u "java/lang/constant/Constable"), (0, .class_ 4), (0, u "java/lang/Object")] 6

/-- java/lang/constant/Constable -/
def k2 : Class := { plain "java/lang/constant/Constable" (some 0) with
  accessFlags := 1537
  interfaces := #[]
  cf := some (fileOf pool2 1 #[] #[] 1537 3 #[] #[])
  fields := #[]
  methods := #[]
  instanceTypes := #[]
  staticTypes := #[]
  resolved := Array.replicate 11 none
  statics := none }

def pool3 : Array CpInfo := pool [(1, .class_ 2), (0, u "java/lang/Comparable"), (0, .class_ 4), (0, u "java/lang/Object")] 7

/-- java/lang/Comparable -/
def k3 : Class := { plain "java/lang/Comparable" (some 0) with
  accessFlags := 1537
  interfaces := #[]
  cf := some (fileOf pool3 1 #[] #[] 1537 3 #[] #[])
  fields := #[]
  methods := #[]
  instanceTypes := #[]
  staticTypes := #[]
  resolved := Array.replicate 12 none
  statics := none }

def pool4 : Array CpInfo := pool [(1, .class_ 2), (0, u "java/io/Serializable"), (0, .class_ 4), (0, u "java/lang/Object")] 2

/-- java/io/Serializable -/
def k4 : Class := { plain "java/io/Serializable" (some 0) with
  accessFlags := 1537
  interfaces := #[]
  cf := some (fileOf pool4 1 #[] #[] 1537 3 #[] #[])
  fields := #[]
  methods := #[]
  instanceTypes := #[]
  staticTypes := #[]
  resolved := Array.replicate 7 none
  statics := none }

def pool5 : Array CpInfo := pool [(2, .class_ 4), (1, u "java/lang/Enum"), (0, u "name"), (0, u "Ljava/lang/String;"), (2, u "ordinal"), (0, u "I"), (1, .class_ 14), (1, u "java/lang/Object"), (4, u "hash"), (86, .class_ 108), (1, u "java/lang/Enum$EnumDesc"), (2, .class_ 112), (0, u "java/lang/constant/Constable"), (0, .class_ 114), (0, u "java/lang/Comparable"), (0, .class_ 116), (0, u "java/io/Serializable")] 87

/-- java/lang/Enum -/
def k5 : Class := { plain "java/lang/Enum" (some 0) with
  accessFlags := 1057
  interfaces := #[2, 3, 4]
  cf := some (fileOf pool5 2 #[.nestMembers #[106]] #[] 1057 12 #[111, 113, 115] #[{ accessFlags := 18, nameIndex := 5, descriptorIndex := 6, attributes := #[] }, { accessFlags := 18, nameIndex := 9, descriptorIndex := 10, attributes := #[] }, { accessFlags := 2, nameIndex := 19, descriptorIndex := 10, attributes := #[] }])
  fields := #[{ name := "name", type := (.object "java/lang/String"), accessFlags := 18, slot := 0, constantValue := 0 }, { name := "ordinal", type := .int, accessFlags := 18, slot := 1, constantValue := 0 }, { name := "hash", type := .int, accessFlags := 2, slot := 2, constantValue := 0 }]
  methods := #[]
  instanceTypes := #[(.object "java/lang/String"), .int, .int]
  staticTypes := #[]
  resolved := Array.replicate 204 none
  statics := none }

def pool6 : Array CpInfo := pool [(1, .class_ 2), (0, u "com/example/entgelt/entgelt/model/FacilityElement"), (2, u "ENTRANCE_FACILITY"), (0, u "Lcom/example/entgelt/entgelt/model/FacilityElement;"), (0, .fieldref 1 8), (0, .nameAndType 9 6), (0, u "DIRECT_TRUNKED_TRANSPORT"), (2, u "MULTIPLEXING"), (2, u "$VALUES"), (0, u "[Lcom/example/entgelt/entgelt/model/FacilityElement;"), (6, .class_ 25), (1, u "java/lang/Enum"), (33, u "()Z"), (78, u "isMeasured")] 25

def k6c0 : Code := { maxStack := 2, maxLocals := 1, code := prog_45_method_4_code, exceptionTable := #[], attributes := #[] }
def k6m0 : Method := { name := "isMeasured", desc := "()Z", sig := { parameters := [], returnType := some .boolean }, accessFlags := 1, code := some k6c0 }
/-- com/example/entgelt/entgelt/model/FacilityElement -/
def k6 : Class := { plain "com/example/entgelt/entgelt/model/FacilityElement" (some 5) with
  accessFlags := 16433
  interfaces := #[]
  cf := some (fileOf pool6 1 #[] #[{ accessFlags := 1, nameIndex := 138, descriptorIndex := 59, attributes := #[] }] 16433 23 #[] #[{ accessFlags := 16409, nameIndex := 5, descriptorIndex := 6, attributes := #[] }, { accessFlags := 16409, nameIndex := 9, descriptorIndex := 6, attributes := #[] }, { accessFlags := 16409, nameIndex := 12, descriptorIndex := 6, attributes := #[] }, { accessFlags := 4122, nameIndex := 15, descriptorIndex := 16, attributes := #[] }])
  fields := #[{ name := "ENTRANCE_FACILITY", type := (.object "com/example/entgelt/entgelt/model/FacilityElement"), accessFlags := 16409, slot := 0, constantValue := 0 }, { name := "DIRECT_TRUNKED_TRANSPORT", type := (.object "com/example/entgelt/entgelt/model/FacilityElement"), accessFlags := 16409, slot := 1, constantValue := 0 }, { name := "MULTIPLEXING", type := (.object "com/example/entgelt/entgelt/model/FacilityElement"), accessFlags := 16409, slot := 2, constantValue := 0 }, { name := "$VALUES", type := (.array (.object "com/example/entgelt/entgelt/model/FacilityElement")), accessFlags := 4122, slot := 3, constantValue := 0 }]
  methods := #[k6m0]
  instanceTypes := #[(.object "java/lang/String"), .int, .int]
  staticTypes := #[(.object "com/example/entgelt/entgelt/model/FacilityElement"), (.object "com/example/entgelt/entgelt/model/FacilityElement"), (.object "com/example/entgelt/entgelt/model/FacilityElement"), (.array (.object "com/example/entgelt/entgelt/model/FacilityElement"))]
  resolved := Array.replicate 164 none
  statics := some 0 }

def pool7 : Array CpInfo := pool [(1, u "java/lang/Cloneable"), (0, .class_ 1), (0, u "java/lang/Object"), (0, .class_ 3)] 3

/-- java/lang/Cloneable -/
def k7 : Class := { plain "java/lang/Cloneable" (some 0) with
  accessFlags := 1537
  interfaces := #[]
  cf := some (fileOf pool7 2 #[] #[] 1537 4 #[] #[])
  fields := #[]
  methods := #[]
  instanceTypes := #[]
  staticTypes := #[]
  resolved := Array.replicate 8 none
  statics := none }

/-- the primitive byte -/
def k8 : Class := { plain "byte" none with kind := .primitive 'B', accessFlags := 0x411 }
/-- [B -/
def k9 : Class := { plain "[B" (some 0) with kind := .array 8 .byte, interfaces := #[7, 4], accessFlags := 1041 }

/-- the primitive int -/
def k10 : Class := { plain "int" none with kind := .primitive 'I', accessFlags := 0x411 }
/-- [I -/
def k11 : Class := { plain "[I" (some 0) with kind := .array 10 .int, interfaces := #[7, 4], accessFlags := 1041 }

def heap : Heap := #[{ cls := 6, slots := #[.ref 1, .ref 2, .ref 3, .null], vm := .statics 6 },
  { cls := 6, slots := #[.null, .int 0, .int 0], vm := .none },
  { cls := 6, slots := #[.null, .int 1, .int 0], vm := .none },
  { cls := 6, slots := #[.null, .int 2, .int 0], vm := .none }]
def classes : Array Class := #[k0, k1, k2, k3, k4, k5, k6, k7, k8, k9, k10, k11]
def interned : List (Array UInt16 × Addr) := []
def slotsUsed : Nat := 13
def theMethod : MethodId := ⟨1, 1⟩
def args0 : Array Value := #[.int 1]
def aboutOver (below : List Frame) : State where
  vm := { classes := classes, interned := interned.toArray }
  heap := heap
  slotsUsed := slotsUsed
  threads := #[{ frames := .invoking theMethod args0 :: below }]
def below0 : List Frame := [.native { method := ⟨0, 0⟩, args := #[] }]
def about1 : State := aboutOver below0
def p0 : Program := .bare "" "" ""
def e0 : Env := launch0.env 0 0 0
theorem w_frames : about1.frames = Frame.invoking theMethod args0 :: below0 := rfl
set_option maxRecDepth 65536 in
theorem w_args : argsFit about1.vm theMethod args0 = true := by decide +kernel
set_option maxRecDepth 65536 in
theorem w_heap : heapFits about1 = true := by decide +kernel
set_option maxRecDepth 65536 in
theorem w_runnable : about1.curStatus? = some .runnable := by decide +kernel
set_option maxRecDepth 65536 in
theorem w_alone : about1.alone = true := by decide +kernel
set_option maxRecDepth 65536 in
theorem w_named : about1.methodNamed? x = some theMethod := by decide +kernel
set_option maxRecDepth 65536 in
theorem w_hears : about1.hears theMethod below0 = true := by decide +kernel
set_option maxRecDepth 65536 in
theorem w_ripe : about1.ripe theMethod args0 below0 = true := by decide +kernel
theorem w_running : about1.status = .running := rfl
set_option maxRecDepth 65536 in
theorem w_room : about1.hasRoom e0.platform room_1 = true :=
  launch0.hasRoom_least _ room_1 (by decide +kernel) (by decide +kernel) (by decide +kernel) (by decide +kernel) (by decide +kernel) (by decide +kernel)
theorem allAtoms_all (ts : List Jvm.Cond) (a : Array Jvm.Value) (st : Jvm.State) : (allAtoms ts).before a st = ts.all (fun c => c.before a st) := by
  induction ts with
  | nil => rfl
  | cons c t ih =>
    show (Jvm.Cond.and c (allAtoms t)).before a st = _
    rw [Jvm.Cond.before_and, ih, List.all_cons]
def words1 : List Jvm.Cond := Jvm.Cond.code x code maxLocals ret :: tables_1
/-- a 'code' word, met by the world's own term for the bytes: nothing is compared byte by byte -/
theorem code_word {y : MethodName} {bytes : ByteArray} {mx : Nat} {rt : Option FieldType} {a : Array Value} {s : State} {m : MethodId} {meth : Method} {c : Code} (h1 : s.methodNamed? y = some m) (h2 : s.vm.method? m = some meth) (h3 : meth.code = some c) (h4 : c.code = bytes)
    (h5 : (c.maxLocals == mx && c.exceptionTable.isEmpty && decide (c.maxStack ≤ mostOperands) && decide (meth.sig.returnType = rt) && !meth.locks && decide (parseMethodDescriptor y.desc = some meth.sig)) = true) : (Jvm.Cond.code y bytes mx rt).before a s = true := by
  simp only [Bool.and_eq_true, beq_iff_eq, Bool.not_eq_true', decide_eq_true_eq] at h5
  obtain ⟨⟨⟨⟨⟨g1, g2⟩, g3⟩, g4⟩, g5⟩, g6⟩ := h5
  simp [Cond.before, Cond.holds, Cond.value, h1, h2, h3, h4, g1, g2, g3, g4, g5, g6]
def isCode : Jvm.Cond → Bool
  | .code _ _ _ _ => true
  | _ => false
theorem all_split {L : List Jvm.Cond} {P : Jvm.Cond → Bool} (h1 : L.all (fun c => isCode c || P c) = true) (h2 : ∀ c ∈ L.filter isCode, P c = true) : L.all P = true := by
  refine List.all_eq_true.mpr fun c hc => ?_
  have h := List.all_eq_true.mp h1 c hc
  rcases Bool.eq_false_or_eq_true (isCode c) with hi | hi
  · exact h2 c (List.mem_filter.mpr ⟨hc, hi⟩)
  · simpa [hi] using h
set_option maxRecDepth 65536 in
theorem w_c0 : (Jvm.Cond.code x code maxLocals ret).before args0 about1 = true := code_word (m := ⟨1, 1⟩) (meth := k1m1) (c := k1c1) (by decide +kernel) rfl rfl rfl (by decide +kernel)
set_option maxRecDepth 65536 in
theorem w_c1 : (Jvm.Cond.code ({ cls := "com/example/entgelt/entgelt/model/FacilityElement", name := "isMeasured", desc := "()Z" } : Jvm.MethodName) prog_45_method_4_code (1 : Nat) (Option.some Jvm.ClassFile.FieldType.boolean)).before args0 about1 = true := code_word (m := ⟨6, 0⟩) (meth := k6m0) (c := k6c0) (by decide +kernel) rfl rfl rfl (by decide +kernel)
def codes1 : List Jvm.Cond := [Jvm.Cond.code x code maxLocals ret, Jvm.Cond.code ({ cls := "com/example/entgelt/entgelt/model/FacilityElement", name := "isMeasured", desc := "()Z" } : Jvm.MethodName) prog_45_method_4_code (1 : Nat) (Option.some Jvm.ClassFile.FieldType.boolean)]
set_option maxRecDepth 65536 in
theorem codes_eq : words1.filter isCode = codes1 := rfl
theorem w_codes : ∀ c ∈ words1.filter isCode, c.before args0 about1 = true := by
  rw [codes_eq]
  intro c hc
  simp only [codes1, List.mem_cons, List.not_mem_nil, or_false] at hc
  rcases hc with rfl | rfl
  · exact w_c0
  · exact w_c1
set_option maxRecDepth 65536 in
theorem w_t1 : words1.all (fun c => isCode c || c.before args0 about1) = true := by decide +kernel
theorem w_tables : (allAtoms (Jvm.Cond.code x code maxLocals ret :: tables_1)).before args0 about1 = true := by
  rw [allAtoms_all]
  show words1.all (fun c => c.before args0 about1) = true
  refine all_split ?_ w_codes
  rw [w_t1]
set_option maxRecDepth 65536 in
theorem w_case : (Jvm.Cond.and given_1 narrow_1).before args0 about1 = true := by decide +kernel
theorem w_applies : (headSpec (Jvm.Cond.code x code maxLocals ret :: tables_1) room_1).applies x e0.platform about1 = true :=
  (Spec.applies_iff w_frames).mpr ⟨w_running, w_runnable, w_alone, w_named, w_hears, w_ripe, w_room, w_tables⟩
theorem atStart : AtStart classFile x code maxLocals ret World_1 tables_1 room_1 Calls_1 rest_1 Pre_1 launch0 p0 e0 about1 theMethod args0 below0 :=
  ⟨lists_1, trivial, launch0.admits_env _ _ _, launch0.least_env, fairChoices_fair.cas, fairChoices_fair.clock, w_frames, w_args, w_heap, w_applies, trivial, trivial, w_case⟩
end start1
theorem witness_1 : WitnessClaimed_1 := ⟨start1.p0, start1.e0, start1.about1, start1.theMethod, start1.args0, start1.below0, start1.atStart⟩
end Jvm.Pilot.@@N@@
