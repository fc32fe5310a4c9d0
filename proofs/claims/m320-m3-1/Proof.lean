import JvmDerived
import JvmDerived.Pilot.@@N@@Statement
import JvmDerived.Pilot.@@N@@Code
set_option linter.unusedVariables false
set_option linter.unusedSimpArgs false
namespace Jvm.RoadKit
open Sem ClassFile Op Lib Jvm.Stand Jvm.Free Jvm.LawKit
section New
variable {p : Program} {l : Launch} {e : Env} {R : Room} {s : State} {m : MethodId} {args : Array Value} {below : List Frame} {meth : Method} {c : Code} {T : State} {locs : List Loc} {cells slots : Nat}
theorem retI (X : Stand p l e R s m args below meth c T locs cells slots) (hx : p.tables.exec = Jvm.exec) {pc : Nat} {Ls : Array Slot} {z : Int32} {rest : List Value} (hret : meth.sig.returnType = some .int) (hd : decode c.code pc = .ok (.ireturn, 1)) {fs : List Frame}
    (hl : ∀ (f : JFrame) (acts : List Action), f.method = m → f.locked = none → f.entered = [] → (doReturn e (T.setTop f) acts (some (.int z))).1 = T.setFrames fs) : Steps p.tables e below (T.setTop (mkF m pc Ls (.int z :: rest))) (T.setFrames fs) := by
  have hm' : T.vm.method? m = some meth := X.method'
  have hn : narrow .int (.int z) = .int z := rfl
  show Steps p.tables e below (T.setTop { method := m, pc := pc, locals := Ls, stack := _ :: rest, locked := none }) _
  jvm_step X.here [X.here.top, hx, hd, hm', hret, hn]
  first | (intro acts; rw [hl _ acts rfl rfl rfl]) | rw [hl _ _ rfl rfl rfl]
  exact Steps.refl _
theorem retJ (X : Stand p l e R s m args below meth c T locs cells slots) (hx : p.tables.exec = Jvm.exec) {pc : Nat} {Ls : Array Slot} {z : Int64} {rest : List Value} (hret : meth.sig.returnType = some .long) (hd : decode c.code pc = .ok (.lreturn, 1)) {fs : List Frame}
    (hl : ∀ (f : JFrame) (acts : List Action), f.method = m → f.locked = none → f.entered = [] → (doReturn e (T.setTop f) acts (some (.long z))).1 = T.setFrames fs) : Steps p.tables e below (T.setTop (mkF m pc Ls (.long z :: rest))) (T.setFrames fs) := by
  have hm' : T.vm.method? m = some meth := X.method'
  have hn : narrow .long (.long z) = .long z := rfl
  show Steps p.tables e below (T.setTop { method := m, pc := pc, locals := Ls, stack := _ :: rest, locked := none }) _
  jvm_step X.here [X.here.top, hx, hd, hm', hret, hn]
  first | (intro acts; rw [hl _ acts rfl rfl rfl]) | rw [hl _ _ rfl rfl rfl]
  exact Steps.refl _
end New
end Jvm.RoadKit
namespace Jvm.Pilot.@@N@@
open Jvm Jvm.ClassFile Sem Op Lib Jvm.Free Jvm.Stand Jvm.LawKit Jvm.RoadKit Bundle Jvm.Pilot.@@N@@.Jvm.D
theorem mgE {A : Type} {l : List A} {a : A} (i : Nat) (h : l[i]? = some a) : a ∈ l := List.mem_of_getElem? h

theorem own_fe {args : Array Value} {s : State} {t : Term} {a : Addr} {C n d : String} {k : Int32} (ev : t.eval args s none [] s = some (.ref a)) (h : (Jvm.Cond.eq (.field t C n d) (.int k)).value args s none s [] = some true) : Fld s s.heap a C n d (.int k) := by
  obtain ⟨x, y, h1, h2, k1, k2⟩ := cmp_v (Or.inl h)
  have h3 : y = .int k := (Option.some.inj ((Term.int_eval k).symm.trans h2)).symm
  subst h3
  obtain ⟨z, rfl⟩ := k2
  have h4 : z = k := by simpa [Cond.value, h1, h2] using h
  subst h4
  rw [fld_at ev] at h1
  exact Fld.start h1

theorem own_feL {args : Array Value} {s : State} {t : Term} {a : Addr} {C n d : String} {k : Int64} (ev : t.eval args s none [] s = some (.ref a)) (h : (Jvm.Cond.eq (.field t C n d) (.long k)).value args s none s [] = some true) : Fld s s.heap a C n d (.long k) := by
  obtain ⟨x, y, h1, h2, k1, k2⟩ := cmp_v (Or.inl h)
  have h3 : y = .long k := (Option.some.inj ((long_at k).symm.trans h2)).symm
  subst h3
  obtain ⟨z, rfl⟩ := k2
  have h4 : z = k := by simpa [Cond.value, h1, h2] using h
  subst h4
  rw [fld_at ev] at h1
  exact Fld.start h1

theorem own_nsE {Z : State} {h : Heap} {a : Addr} {C : String} (F : Exa Z h a C) : ∃ cell : Cell, h[a]? = some cell ∧ cell.vm.isStatics = false := by obtain ⟨cell, k, h1, h2, h3, h4, -⟩ := F; exact ⟨cell, h1, h4⟩
theorem own_stk {Z : State} {h h' : Heap} {C n d : String} {v : Value} {ws : List Addr} (F : Sta Z h C n d v) (K : Keep h h' ws) (q : ∀ x ∈ ws, ∃ cell : Cell, h[x]? = some cell ∧ cell.vm.isStatics = false) : Sta Z h' C n d v := by
  obtain ⟨cf, i, k, f, st, cell, h1, h2, h3, h4, h5, h6, h7⟩ := F
  refine ⟨cf, i, k, f, st, cell, h1, h2, h3, h4, K.2.1 st cell h5 fun hm => ?_, h6, h7⟩
  obtain ⟨c', e1, e2⟩ := q st hm
  cases h5.symm.trans e1
  rw [h6] at e2; cases e2

theorem d2_0 : decode jdk_30_method_1_code 0 = .ok (.aload_n 0, 1) := by decide +kernel
theorem d2_1 : decode jdk_30_method_1_code 1 = .ok (.invokespecial 1, 3) := by decide +kernel
theorem d2_4 : decode jdk_30_method_1_code 4 = .ok (.return_, 1) := by decide +kernel
theorem pn_java_lang_Record : plainName "java/lang/Record" = true := by first | (simp [plainName, overriddenIn]; done) | decide +kernel
theorem ef_2 (m : MethodId) (x0 : Addr) : entryFrame m #[(.ref x0)] 1 = mkF m 0 #[.val (.ref x0)] [] := by first | (simp [entryFrame, mkF, argsToLocals, Value.category]; done) | rfl
def Q2 (Z : State) (a1 : Addr) (h0 : Heap) (n0 : Nat) (v : Option Value) (h : Heap) (L : List Loc) : Prop := v = none ∧ Fr n0 L ∧ h = h0
set_option maxRecDepth 65536 in
set_option maxHeartbeats 40000000 in
theorem rm2 (l : Launch) (Z : State) (a0 : Array Value) (hw : ∀ d ∈ tables_1, d.before a0 Z = true) (ws : List Jvm.Cond) (a1 : Addr) (h0 : Heap) (n0 : Nat) (Z0 : n0 ≤ h0.size)  :
    MetFree l (⟨"java/lang/Record", "<init>", "()V"⟩ : MethodName) (head1 (Jvm.Cond.code (⟨"java/lang/Record", "<init>", "()V"⟩ : MethodName) jdk_30_method_1_code 1 none :: ws) ({ frames := 1, cells := 0, slots := 0, locals := 12 } : Room)) (fun a U => a = #[(.ref a1)] ∧ Z.Warmed39 U.vm ∧ U.heap = h0) (fun _ _ _ _ _ => True) (fun _ U o U' => ∃ v L, o = .returned v ∧ Q2 Z a1 h0 n0 v U'.heap L ∧ FrameEnd U o U' L ({ frames := 1, cells := 0, slots := 0, locals := 12 } : Room).cells ({ frames := 1, cells := 0, slots := 0, locals := 12 } : Room).slots) := by
  refine MetFree.of_bodySF (plainFor_of_name pn_java_lang_Record) hisR ?_
  intro p e s m args below meth c s₁ Bd hml0 hP hK
  obtain ⟨rfl, hZ, hh⟩ := hP
  have hx := Bd.exec
  have hby := Bd.bytes
  have hml : c.maxLocals = 1 := hml0
  have hown : s.vm.findClass "java/lang/Record" = some m.cls := findClass_of_methodNamed Bd.named
  have hnm := (name_of_methodNamed Bd.named Bd.method).1
  have X0 : Stand p l e ({ frames := 1, cells := 0, slots := 0, locals := 12 } : Room) s m #[(.ref a1)] below meth c s₁ [] 0 0 := Stand.of_body Bd
  have e0 : s₁.heap = h0 := by rw [← hh, Bd.state]; rfl
  have N0 := Fr.nil n0
  have pre0 : ∀ t, Steps p.tables e below (s₁.setTop (mkF m 0 #[.val (.ref a1)] [])) t → Steps p.tables e below (s₁.setTop (entryFrame m #[(.ref a1)] 1)) t := fun t k => castTop (ef_2 m a1) k
  have pre1 : ∀ t, Steps p.tables e below (s₁.setTop (mkF m 1 #[.val (.ref a1)] [(.ref a1)])) t → Steps p.tables e below (s₁.setTop (entryFrame m #[(.ref a1)] 1)) t := fun t kt => by
    refine pre0 t ?_
    refine XS.aloadN X0.here hx rfl (hb hby d2_0) rfl rfl ?_
    show Steps p.tables e below (s₁.setTop (mkF m 1 #[.val (.ref a1)] [(.ref a1)])) _
    exact kt
  obtain ⟨T2, X2, e2, st2⟩ := initO X0 hx hZ hown (hw _ (mgE 14 rfl)) (hw _ (mgE 15 rfl)) (hw _ (mgE 16 rfl)) e0 (g := (mkF m 1 #[.val (.ref a1)] [(.ref a1)])) rfl (by rw [hml]; rfl) rfl (hb hby d2_1) (by decide) (W := 0) (by show 2 * 0 + _ ≤ _; exact Nat.le_of_eq rfl) (by decide)
  have pre3 : ∀ t, Steps p.tables e below (T2.setTop (mkF m 4 #[.val (.ref a1)] [])) t → Steps p.tables e below (s₁.setTop (entryFrame m #[(.ref a1)] 1)) t := fun t kt => pre1 t (st2 t kt)
  obtain ⟨fs, hr, hrun, hended, hW, hsame⟩ := X2.leave (v := none) (fun _ => rfl)
  refine ⟨_, _, pre3 _ ?_, hrun, hended, _, _, rfl, ?_, ⟨_, rfl⟩, hW, hsame.mono (by decide) (by decide)⟩
  · exact X2.returnOut hx Bd.returns (hb hby d2_4) hr
  · show Q2 Z a1 h0 n0 _ T2.heap _
    rw [e2]
    exact ⟨rfl, N0, rfl⟩
theorem d1_0 : decode prog_34_method_1_code 0 = .ok (.aload_n 0, 1) := by decide +kernel
theorem d1_1 : decode prog_34_method_1_code 1 = .ok (.invokespecial 1, 3) := by decide +kernel
theorem d1_4 : decode prog_34_method_1_code 4 = .ok (.aload_n 0, 1) := by decide +kernel
theorem d1_5 : decode prog_34_method_1_code 5 = .ok (.iload_n 1, 1) := by decide +kernel
theorem d1_6 : decode prog_34_method_1_code 6 = .ok (.putfield 7, 3) := by decide +kernel
theorem d1_9 : decode prog_34_method_1_code 9 = .ok (.aload_n 0, 1) := by decide +kernel
theorem d1_10 : decode prog_34_method_1_code 10 = .ok (.iload_n 2, 1) := by decide +kernel
theorem d1_11 : decode prog_34_method_1_code 11 = .ok (.putfield 13, 3) := by decide +kernel
theorem d1_14 : decode prog_34_method_1_code 14 = .ok (.aload_n 0, 1) := by decide +kernel
theorem d1_15 : decode prog_34_method_1_code 15 = .ok (.iload_n 3, 1) := by decide +kernel
theorem d1_16 : decode prog_34_method_1_code 16 = .ok (.putfield 16, 3) := by decide +kernel
theorem d1_19 : decode prog_34_method_1_code 19 = .ok (.return_, 1) := by decide +kernel
theorem pn_com_example_commonroom_commonroom_http_Limits_Pace : plainName "com/example/commonroom/commonroom/http/Limits$Pace" = true := by first | (simp [plainName, overriddenIn]; done) | decide +kernel
theorem pd___V : parseMethodDescriptor "()V" = some ⟨[], none⟩ := by decide +kernel
theorem ef_1 (m : MethodId) (x0 : Addr) (x1 : Int32) (x2 : Int32) (x3 : Int32) : entryFrame m #[(.ref x0), (.int x1), (.int x2), (.int x3)] 4 = mkF m 0 #[.val (.ref x0), .val (.int x1), .val (.int x2), .val (.int x3)] [] := by first | (simp [entryFrame, mkF, argsToLocals, Value.category]; done) | rfl
def Q1 (Z : State) (a1 : Addr) (p2 : Int32) (p3 : Int32) (p4 : Int32) (u_graceMillis_a1 : Value) (u_bytesPerSecond_a1 : Value) (u_mostAheadMillis_a1 : Value) (h0 : Heap) (n0 : Nat) (v : Option Value) (h : Heap) (L : List Loc) : Prop := v = none ∧ Fr n0 L ∧ Keep h0 h [a1] ∧ Exa Z h a1 "com/example/commonroom/commonroom/http/Limits$Pace" ∧ Fld Z h a1 "com/example/commonroom/commonroom/http/Limits$Pace" "bytesPerSecond" "I" (.int p3) ∧ Fld Z h a1 "com/example/commonroom/commonroom/http/Limits$Pace" "graceMillis" "I" (.int p2) ∧ Fld Z h a1 "com/example/commonroom/commonroom/http/Limits$Pace" "mostAheadMillis" "I" (.int p4)
set_option maxRecDepth 65536 in
set_option maxHeartbeats 40000000 in
theorem rm1 (l : Launch) (Z : State) (a0 : Array Value) (hw : ∀ d ∈ tables_1, d.before a0 Z = true) (ws : List Jvm.Cond) (a1 : Addr) (p2 : Int32) (p3 : Int32) (p4 : Int32) (u_graceMillis_a1 : Value) (u_bytesPerSecond_a1 : Value) (u_mostAheadMillis_a1 : Value) (h0 : Heap) (n0 : Nat) (Z0 : n0 ≤ h0.size) (E_a1 : Exa Z h0 a1 "com/example/commonroom/commonroom/http/Limits$Pace") (F_graceMillis_a1 : Fld Z h0 a1 "com/example/commonroom/commonroom/http/Limits$Pace" "graceMillis" "I" u_graceMillis_a1) (g_a1 : n0 ≤ a1) (F_bytesPerSecond_a1 : Fld Z h0 a1 "com/example/commonroom/commonroom/http/Limits$Pace" "bytesPerSecond" "I" u_bytesPerSecond_a1) (F_mostAheadMillis_a1 : Fld Z h0 a1 "com/example/commonroom/commonroom/http/Limits$Pace" "mostAheadMillis" "I" u_mostAheadMillis_a1) :
    MetFree l (⟨"com/example/commonroom/commonroom/http/Limits$Pace", "<init>", "(III)V"⟩ : MethodName) (head1 (Jvm.Cond.code (⟨"com/example/commonroom/commonroom/http/Limits$Pace", "<init>", "(III)V"⟩ : MethodName) prog_34_method_1_code 4 none :: ws) ({ frames := 2, cells := 0, slots := 0, locals := 24 } : Room)) (fun a U => a = #[(.ref a1), (.int p2), (.int p3), (.int p4)] ∧ Z.Warmed39 U.vm ∧ U.heap = h0) (fun _ _ _ _ _ => True) (fun _ U o U' => ∃ v L, o = .returned v ∧ Q1 Z a1 p2 p3 p4 u_graceMillis_a1 u_bytesPerSecond_a1 u_mostAheadMillis_a1 h0 n0 v U'.heap L ∧ FrameEnd U o U' L ({ frames := 2, cells := 0, slots := 0, locals := 24 } : Room).cells ({ frames := 2, cells := 0, slots := 0, locals := 24 } : Room).slots) := by
  refine MetFree.of_bodySF (plainFor_of_name pn_com_example_commonroom_commonroom_http_Limits_Pace) hisR ?_
  intro p e s m args below meth c s₁ Bd hml0 hP hK
  obtain ⟨rfl, hZ, hh⟩ := hP
  have hx := Bd.exec
  have hby := Bd.bytes
  have hml : c.maxLocals = 4 := hml0
  have hown : s.vm.findClass "com/example/commonroom/commonroom/http/Limits$Pace" = some m.cls := findClass_of_methodNamed Bd.named
  have hnm := (name_of_methodNamed Bd.named Bd.method).1
  have X0 : Stand p l e ({ frames := 2, cells := 0, slots := 0, locals := 24 } : Room) s m #[(.ref a1), (.int p2), (.int p3), (.int p4)] below meth c s₁ [] 0 0 := Stand.of_body Bd
  have e0 : s₁.heap = h0 := by rw [← hh, Bd.state]; rfl
  have N0 := Fr.nil n0
  have pre0 : ∀ t, Steps p.tables e below (s₁.setTop (mkF m 0 #[.val (.ref a1), .val (.int p2), .val (.int p3), .val (.int p4)] [])) t → Steps p.tables e below (s₁.setTop (entryFrame m #[(.ref a1), (.int p2), (.int p3), (.int p4)] 4)) t := fun t k => castTop (ef_1 m a1 p2 p3 p4) k
  have pre1 : ∀ t, Steps p.tables e below (s₁.setTop (mkF m 1 #[.val (.ref a1), .val (.int p2), .val (.int p3), .val (.int p4)] [(.ref a1)])) t → Steps p.tables e below (s₁.setTop (entryFrame m #[(.ref a1), (.int p2), (.int p3), (.int p4)] 4)) t := fun t kt => by
    refine pre0 t ?_
    refine XS.aloadN X0.here hx rfl (hb hby d1_0) rfl rfl ?_
    show Steps p.tables e below (s₁.setTop (mkF m 1 #[.val (.ref a1), .val (.int p2), .val (.int p3), .val (.int p4)] [(.ref a1)])) _
    exact kt
  obtain ⟨_, _, ⟨T2, L2, k2, n2⟩, -, X2, ⟨Lc2, hQ2, l2, y2, z2⟩, st2⟩ := X0.specialBack hx (y := (⟨"java/lang/Record", "<init>", "()V"⟩ : MethodName)) rfl hown (mvT hZ (hw _ (mgE 9 rfl))) (mvT hZ (hw _ (mgE 10 rfl))) (mvT hZ (hw _ (mgE 13 rfl))) (by decide) (backOf (W := 0) (rm2 l Z a0 hw [] a1 h0 n0 Z0 ) hZ (hw _ (mgE 13 rfl)) (hw _ (mgE 12 rfl)) (by decide) (by decide)) (g := (mkF m 1 #[.val (.ref a1), .val (.int p2), .val (.int p3), .val (.int p4)] [(.ref a1)])) rfl (by rw [hml]; rfl) (Steps.refl _) (a := a1) (argsL := []) (rest := []) (lenOf pd___V rfl) rfl (by show 2 * 0 + _ ≤ _; exact Nat.le_of_eq rfl) (hb hby d1_1) (fun _ _ => ⟨rfl, e0, (by decide : 0 + 0 ≤ _), (by decide : 0 + 0 ≤ _)⟩)
  dsimp only [Pt.U, Pt.locs, Pt.cells, Pt.slots] at X2 l2 y2 z2 st2 hQ2
  subst l2 y2 z2
  obtain ⟨rfl, N2q, e2⟩ := hQ2
  have pre3 : ∀ t, Steps p.tables e below (T2.setTop (mkF m 4 #[.val (.ref a1), .val (.int p2), .val (.int p3), .val (.int p4)] [])) t → Steps p.tables e below (s₁.setTop (entryFrame m #[(.ref a1), (.int p2), (.int p3), (.int p4)] 4)) t := fun t kt => pre1 t (st2.trans kt)
  have N2 := Fr.app N0 N2q
  have pre4 : ∀ t, Steps p.tables e below (T2.setTop (mkF m 6 #[.val (.ref a1), .val (.int p2), .val (.int p3), .val (.int p4)] [(.int p2), (.ref a1)])) t → Steps p.tables e below (s₁.setTop (entryFrame m #[(.ref a1), (.int p2), (.int p3), (.int p4)] 4)) t := fun t kt => by
    refine pre3 t ?_
    refine XS.aloadN X2.here hx rfl (hb hby d1_4) rfl rfl ?_
    show Steps p.tables e below (T2.setTop (mkF m 5 #[.val (.ref a1), .val (.int p2), .val (.int p3), .val (.int p4)] [(.ref a1)])) _
    refine XS.iloadN X2.here hx rfl (hb hby d1_5) rfl ?_
    show Steps p.tables e below (T2.setTop (mkF m 6 #[.val (.ref a1), .val (.int p2), .val (.int p3), .val (.int p4)] [(.int p2), (.ref a1)])) _
    exact kt
  obtain ⟨T5, h5, X5, e5, W5, st5⟩ := putF X2 hx hZ hown (host := "") (Or.inl (hw _ (mgE 17 rfl))) Via.refl e2 F_graceMillis_a1 E_a1 (Or.inr ⟨(hw _ (mgE 18 rfl)), rfl, hnm⟩) (hw _ (mgE 4 rfl)) (ty := .int) (by decide) rfl rfl (g := (mkF m 6 #[.val (.ref a1), .val (.int p2), .val (.int p3), .val (.int p4)] [(.int p2), (.ref a1)])) rfl rfl (hb hby d1_6)
  have F6_5 := E_a1.wr W5
  have F8_5 := F_bytesPerSecond_a1.other W5 (Or.inr (slot_ne (Or.inr (hw _ (mgE 20 rfl))) (Or.inr (hw _ (mgE 18 rfl))) (by decide) (t := .int) (t' := .int) (by decide) (by decide)))
  have F9_5 := F_mostAheadMillis_a1.other W5 (Or.inr (slot_ne (Or.inr (hw _ (mgE 22 rfl))) (Or.inr (hw _ (mgE 18 rfl))) (by decide) (t := .int) (t' := .int) (by decide) (by decide)))
  have Fw5 := F_graceMillis_a1.same W5
  have K5 : Keep h0 h5 [a1] := (Keep.refl h0 [a1]).wr W5 (Or.inl (mgE 0 rfl))
  have pre10 : ∀ t, Steps p.tables e below (T5.setTop (mkF m 9 #[.val (.ref a1), .val (.int p2), .val (.int p3), .val (.int p4)] [])) t → Steps p.tables e below (s₁.setTop (entryFrame m #[(.ref a1), (.int p2), (.int p3), (.int p4)] 4)) t := fun t kt => pre4 t (st5 t kt)
  have N5 := Fr.snoc X5 N2 g_a1
  have pre11 : ∀ t, Steps p.tables e below (T5.setTop (mkF m 11 #[.val (.ref a1), .val (.int p2), .val (.int p3), .val (.int p4)] [(.int p3), (.ref a1)])) t → Steps p.tables e below (s₁.setTop (entryFrame m #[(.ref a1), (.int p2), (.int p3), (.int p4)] 4)) t := fun t kt => by
    refine pre10 t ?_
    refine XS.aloadN X5.here hx rfl (hb hby d1_9) rfl rfl ?_
    show Steps p.tables e below (T5.setTop (mkF m 10 #[.val (.ref a1), .val (.int p2), .val (.int p3), .val (.int p4)] [(.ref a1)])) _
    refine XS.iloadN X5.here hx rfl (hb hby d1_10) rfl ?_
    show Steps p.tables e below (T5.setTop (mkF m 11 #[.val (.ref a1), .val (.int p2), .val (.int p3), .val (.int p4)] [(.int p3), (.ref a1)])) _
    exact kt
  obtain ⟨T12, h12, X12, e12, W12, st12⟩ := putF X5 hx hZ hown (host := "") (Or.inl (hw _ (mgE 19 rfl))) Via.refl e5 F8_5 F6_5 (Or.inr ⟨(hw _ (mgE 20 rfl)), rfl, hnm⟩) (hw _ (mgE 4 rfl)) (ty := .int) (by decide) rfl rfl (g := (mkF m 11 #[.val (.ref a1), .val (.int p2), .val (.int p3), .val (.int p4)] [(.int p3), (.ref a1)])) rfl rfl (hb hby d1_11)
  have F13_12 := F6_5.wr W12
  have F14_12 := Fw5.other W12 (Or.inr (slot_ne (Or.inr (hw _ (mgE 18 rfl))) (Or.inr (hw _ (mgE 20 rfl))) (by decide) (t := .int) (t' := .int) (by decide) (by decide)))
  have F16_12 := F9_5.other W12 (Or.inr (slot_ne (Or.inr (hw _ (mgE 22 rfl))) (Or.inr (hw _ (mgE 20 rfl))) (by decide) (t := .int) (t' := .int) (by decide) (by decide)))
  have Fw12 := F8_5.same W12
  have K12 : Keep h0 h12 [a1] := K5.wr W12 (Or.inl (mgE 0 rfl))
  have pre17 : ∀ t, Steps p.tables e below (T12.setTop (mkF m 14 #[.val (.ref a1), .val (.int p2), .val (.int p3), .val (.int p4)] [])) t → Steps p.tables e below (s₁.setTop (entryFrame m #[(.ref a1), (.int p2), (.int p3), (.int p4)] 4)) t := fun t kt => pre11 t (st12 t kt)
  have N12 := Fr.snoc X12 N5 g_a1
  have pre18 : ∀ t, Steps p.tables e below (T12.setTop (mkF m 16 #[.val (.ref a1), .val (.int p2), .val (.int p3), .val (.int p4)] [(.int p4), (.ref a1)])) t → Steps p.tables e below (s₁.setTop (entryFrame m #[(.ref a1), (.int p2), (.int p3), (.int p4)] 4)) t := fun t kt => by
    refine pre17 t ?_
    refine XS.aloadN X12.here hx rfl (hb hby d1_14) rfl rfl ?_
    show Steps p.tables e below (T12.setTop (mkF m 15 #[.val (.ref a1), .val (.int p2), .val (.int p3), .val (.int p4)] [(.ref a1)])) _
    refine XS.iloadN X12.here hx rfl (hb hby d1_15) rfl ?_
    show Steps p.tables e below (T12.setTop (mkF m 16 #[.val (.ref a1), .val (.int p2), .val (.int p3), .val (.int p4)] [(.int p4), (.ref a1)])) _
    exact kt
  obtain ⟨T19, h19, X19, e19, W19, st19⟩ := putF X12 hx hZ hown (host := "") (Or.inl (hw _ (mgE 21 rfl))) Via.refl e12 F16_12 F13_12 (Or.inr ⟨(hw _ (mgE 22 rfl)), rfl, hnm⟩) (hw _ (mgE 4 rfl)) (ty := .int) (by decide) rfl rfl (g := (mkF m 16 #[.val (.ref a1), .val (.int p2), .val (.int p3), .val (.int p4)] [(.int p4), (.ref a1)])) rfl rfl (hb hby d1_16)
  have F20_19 := F13_12.wr W19
  have F21_19 := F14_12.other W19 (Or.inr (slot_ne (Or.inr (hw _ (mgE 18 rfl))) (Or.inr (hw _ (mgE 22 rfl))) (by decide) (t := .int) (t' := .int) (by decide) (by decide)))
  have F22_19 := Fw12.other W19 (Or.inr (slot_ne (Or.inr (hw _ (mgE 20 rfl))) (Or.inr (hw _ (mgE 22 rfl))) (by decide) (t := .int) (t' := .int) (by decide) (by decide)))
  have Fw19 := F16_12.same W19
  have K19 : Keep h0 h19 [a1] := K12.wr W19 (Or.inl (mgE 0 rfl))
  have pre24 : ∀ t, Steps p.tables e below (T19.setTop (mkF m 19 #[.val (.ref a1), .val (.int p2), .val (.int p3), .val (.int p4)] [])) t → Steps p.tables e below (s₁.setTop (entryFrame m #[(.ref a1), (.int p2), (.int p3), (.int p4)] 4)) t := fun t kt => pre18 t (st19 t kt)
  have N19 := Fr.snoc X19 N12 g_a1
  obtain ⟨fs, hr, hrun, hended, hW, hsame⟩ := X19.leave (v := none) (fun _ => rfl)
  refine ⟨_, _, pre24 _ ?_, hrun, hended, _, _, rfl, ?_, ⟨_, rfl⟩, hW, hsame.mono (by decide) (by decide)⟩
  · exact X19.returnOut hx Bd.returns (hb hby d1_19) hr
  · show Q1 Z a1 p2 p3 p4 u_graceMillis_a1 u_bytesPerSecond_a1 u_mostAheadMillis_a1 h0 n0 _ T19.heap _
    rw [e19]
    exact ⟨rfl, N19, K19, F20_19, F22_19, F21_19, Fw19⟩
theorem d5_0 : decode prog_34_method_5_code 0 = .ok (.aload_n 0, 1) := by decide +kernel
theorem d5_1 : decode prog_34_method_5_code 1 = .ok (.getfield 7, 3) := by decide +kernel
theorem d5_4 : decode prog_34_method_5_code 4 = .ok (.ireturn, 1) := by decide +kernel
theorem ef_5 (m : MethodId) (x0 : Addr) : entryFrame m #[(.ref x0)] 1 = mkF m 0 #[.val (.ref x0)] [] := by first | (simp [entryFrame, mkF, argsToLocals, Value.category]; done) | rfl
def Q5 (Z : State) (a1 : Addr) (w_graceMillis_a1 : Int32) (h0 : Heap) (n0 : Nat) (v : Option Value) (h : Heap) (L : List Loc) : Prop := v = some (.int w_graceMillis_a1) ∧ Fr n0 L ∧ h = h0
set_option maxRecDepth 65536 in
set_option maxHeartbeats 40000000 in
theorem rm5 (l : Launch) (Z : State) (a0 : Array Value) (hw : ∀ d ∈ tables_1, d.before a0 Z = true) (ws : List Jvm.Cond) (a1 : Addr) (w_graceMillis_a1 : Int32) (h0 : Heap) (n0 : Nat) (Z0 : n0 ≤ h0.size) (F_graceMillis_a1 : Fld Z h0 a1 "com/example/commonroom/commonroom/http/Limits$Pace" "graceMillis" "I" (.int w_graceMillis_a1)) :
    MetFree l (⟨"com/example/commonroom/commonroom/http/Limits$Pace", "graceMillis", "()I"⟩ : MethodName) (head1 (Jvm.Cond.code (⟨"com/example/commonroom/commonroom/http/Limits$Pace", "graceMillis", "()I"⟩ : MethodName) prog_34_method_5_code 1 (some .int) :: ws) ({ frames := 0, cells := 0, slots := 0, locals := 0 } : Room)) (fun a U => a = #[(.ref a1)] ∧ Z.Warmed39 U.vm ∧ U.heap = h0) (fun _ _ _ _ _ => True) (fun _ U o U' => ∃ v L, o = .returned v ∧ Q5 Z a1 w_graceMillis_a1 h0 n0 v U'.heap L ∧ FrameEnd U o U' L ({ frames := 0, cells := 0, slots := 0, locals := 0 } : Room).cells ({ frames := 0, cells := 0, slots := 0, locals := 0 } : Room).slots) := by
  refine MetFree.of_bodySF (plainFor_of_name pn_com_example_commonroom_commonroom_http_Limits_Pace) hisR ?_
  intro p e s m args below meth c s₁ Bd hml0 hP hK
  obtain ⟨rfl, hZ, hh⟩ := hP
  have hx := Bd.exec
  have hby := Bd.bytes
  have hml : c.maxLocals = 1 := hml0
  have hown : s.vm.findClass "com/example/commonroom/commonroom/http/Limits$Pace" = some m.cls := findClass_of_methodNamed Bd.named
  have hnm := (name_of_methodNamed Bd.named Bd.method).1
  have X0 : Stand p l e ({ frames := 0, cells := 0, slots := 0, locals := 0 } : Room) s m #[(.ref a1)] below meth c s₁ [] 0 0 := Stand.of_body Bd
  have e0 : s₁.heap = h0 := by rw [← hh, Bd.state]; rfl
  have N0 := Fr.nil n0
  have pre0 : ∀ t, Steps p.tables e below (s₁.setTop (mkF m 0 #[.val (.ref a1)] [])) t → Steps p.tables e below (s₁.setTop (entryFrame m #[(.ref a1)] 1)) t := fun t k => castTop (ef_5 m a1) k
  have pre1 : ∀ t, Steps p.tables e below (s₁.setTop (mkF m 1 #[.val (.ref a1)] [(.ref a1)])) t → Steps p.tables e below (s₁.setTop (entryFrame m #[(.ref a1)] 1)) t := fun t kt => by
    refine pre0 t ?_
    refine XS.aloadN X0.here hx rfl (hb hby d5_0) rfl rfl ?_
    show Steps p.tables e below (s₁.setTop (mkF m 1 #[.val (.ref a1)] [(.ref a1)])) _
    exact kt
  obtain ⟨T2, X2, e2, st2⟩ := getF X0 hx hZ hown (host := "") (Or.inl (hw _ (mgE 17 rfl))) Via.refl e0 F_graceMillis_a1 (g := (mkF m 1 #[.val (.ref a1)] [(.ref a1)])) rfl rfl (hb hby d5_1)
  have pre3 : ∀ t, Steps p.tables e below (T2.setTop (mkF m 4 #[.val (.ref a1)] [(.int w_graceMillis_a1)])) t → Steps p.tables e below (s₁.setTop (entryFrame m #[(.ref a1)] 1)) t := fun t kt => pre1 t (st2 t kt)
  obtain ⟨fs, hr, hrun, hended, hW, hsame⟩ := X2.leave (v := some (.int w_graceMillis_a1)) (fun h => by rw [Bd.returns] at h; cases h)
  refine ⟨_, _, pre3 _ ?_, hrun, hended, _, _, rfl, ?_, ⟨_, rfl⟩, hW, hsame.mono (by decide) (by decide)⟩
  · exact retI X2 hx Bd.returns (hb hby d5_4) hr
  · show Q5 Z a1 w_graceMillis_a1 h0 n0 _ T2.heap _
    rw [e2]
    exact ⟨by first | rfl | (simp only []), N0, rfl⟩
theorem d7_0 : decode prog_34_method_7_code 0 = .ok (.aload_n 0, 1) := by decide +kernel
theorem d7_1 : decode prog_34_method_7_code 1 = .ok (.getfield 16, 3) := by decide +kernel
theorem d7_4 : decode prog_34_method_7_code 4 = .ok (.ireturn, 1) := by decide +kernel
theorem ef_7 (m : MethodId) (x0 : Addr) : entryFrame m #[(.ref x0)] 1 = mkF m 0 #[.val (.ref x0)] [] := by first | (simp [entryFrame, mkF, argsToLocals, Value.category]; done) | rfl
def Q7 (Z : State) (a1 : Addr) (w_mostAheadMillis_a1 : Int32) (h0 : Heap) (n0 : Nat) (v : Option Value) (h : Heap) (L : List Loc) : Prop := v = some (.int w_mostAheadMillis_a1) ∧ Fr n0 L ∧ h = h0
set_option maxRecDepth 65536 in
set_option maxHeartbeats 40000000 in
theorem rm7 (l : Launch) (Z : State) (a0 : Array Value) (hw : ∀ d ∈ tables_1, d.before a0 Z = true) (ws : List Jvm.Cond) (a1 : Addr) (w_mostAheadMillis_a1 : Int32) (h0 : Heap) (n0 : Nat) (Z0 : n0 ≤ h0.size) (F_mostAheadMillis_a1 : Fld Z h0 a1 "com/example/commonroom/commonroom/http/Limits$Pace" "mostAheadMillis" "I" (.int w_mostAheadMillis_a1)) :
    MetFree l (⟨"com/example/commonroom/commonroom/http/Limits$Pace", "mostAheadMillis", "()I"⟩ : MethodName) (head1 (Jvm.Cond.code (⟨"com/example/commonroom/commonroom/http/Limits$Pace", "mostAheadMillis", "()I"⟩ : MethodName) prog_34_method_7_code 1 (some .int) :: ws) ({ frames := 0, cells := 0, slots := 0, locals := 0 } : Room)) (fun a U => a = #[(.ref a1)] ∧ Z.Warmed39 U.vm ∧ U.heap = h0) (fun _ _ _ _ _ => True) (fun _ U o U' => ∃ v L, o = .returned v ∧ Q7 Z a1 w_mostAheadMillis_a1 h0 n0 v U'.heap L ∧ FrameEnd U o U' L ({ frames := 0, cells := 0, slots := 0, locals := 0 } : Room).cells ({ frames := 0, cells := 0, slots := 0, locals := 0 } : Room).slots) := by
  refine MetFree.of_bodySF (plainFor_of_name pn_com_example_commonroom_commonroom_http_Limits_Pace) hisR ?_
  intro p e s m args below meth c s₁ Bd hml0 hP hK
  obtain ⟨rfl, hZ, hh⟩ := hP
  have hx := Bd.exec
  have hby := Bd.bytes
  have hml : c.maxLocals = 1 := hml0
  have hown : s.vm.findClass "com/example/commonroom/commonroom/http/Limits$Pace" = some m.cls := findClass_of_methodNamed Bd.named
  have hnm := (name_of_methodNamed Bd.named Bd.method).1
  have X0 : Stand p l e ({ frames := 0, cells := 0, slots := 0, locals := 0 } : Room) s m #[(.ref a1)] below meth c s₁ [] 0 0 := Stand.of_body Bd
  have e0 : s₁.heap = h0 := by rw [← hh, Bd.state]; rfl
  have N0 := Fr.nil n0
  have pre0 : ∀ t, Steps p.tables e below (s₁.setTop (mkF m 0 #[.val (.ref a1)] [])) t → Steps p.tables e below (s₁.setTop (entryFrame m #[(.ref a1)] 1)) t := fun t k => castTop (ef_7 m a1) k
  have pre1 : ∀ t, Steps p.tables e below (s₁.setTop (mkF m 1 #[.val (.ref a1)] [(.ref a1)])) t → Steps p.tables e below (s₁.setTop (entryFrame m #[(.ref a1)] 1)) t := fun t kt => by
    refine pre0 t ?_
    refine XS.aloadN X0.here hx rfl (hb hby d7_0) rfl rfl ?_
    show Steps p.tables e below (s₁.setTop (mkF m 1 #[.val (.ref a1)] [(.ref a1)])) _
    exact kt
  obtain ⟨T2, X2, e2, st2⟩ := getF X0 hx hZ hown (host := "") (Or.inl (hw _ (mgE 21 rfl))) Via.refl e0 F_mostAheadMillis_a1 (g := (mkF m 1 #[.val (.ref a1)] [(.ref a1)])) rfl rfl (hb hby d7_1)
  have pre3 : ∀ t, Steps p.tables e below (T2.setTop (mkF m 4 #[.val (.ref a1)] [(.int w_mostAheadMillis_a1)])) t → Steps p.tables e below (s₁.setTop (entryFrame m #[(.ref a1)] 1)) t := fun t kt => pre1 t (st2 t kt)
  obtain ⟨fs, hr, hrun, hended, hW, hsame⟩ := X2.leave (v := some (.int w_mostAheadMillis_a1)) (fun h => by rw [Bd.returns] at h; cases h)
  refine ⟨_, _, pre3 _ ?_, hrun, hended, _, _, rfl, ?_, ⟨_, rfl⟩, hW, hsame.mono (by decide) (by decide)⟩
  · exact retI X2 hx Bd.returns (hb hby d7_4) hr
  · show Q7 Z a1 w_mostAheadMillis_a1 h0 n0 _ T2.heap _
    rw [e2]
    exact ⟨by first | rfl | (simp only []), N0, rfl⟩
theorem d8_0 : decode prog_34_method_6_code 0 = .ok (.aload_n 0, 1) := by decide +kernel
theorem d8_1 : decode prog_34_method_6_code 1 = .ok (.getfield 13, 3) := by decide +kernel
theorem d8_4 : decode prog_34_method_6_code 4 = .ok (.ireturn, 1) := by decide +kernel
theorem ef_8 (m : MethodId) (x0 : Addr) : entryFrame m #[(.ref x0)] 1 = mkF m 0 #[.val (.ref x0)] [] := by first | (simp [entryFrame, mkF, argsToLocals, Value.category]; done) | rfl
def Q8 (Z : State) (a1 : Addr) (w_bytesPerSecond_a1 : Int32) (h0 : Heap) (n0 : Nat) (v : Option Value) (h : Heap) (L : List Loc) : Prop := v = some (.int w_bytesPerSecond_a1) ∧ Fr n0 L ∧ h = h0
set_option maxRecDepth 65536 in
set_option maxHeartbeats 40000000 in
theorem rm8 (l : Launch) (Z : State) (a0 : Array Value) (hw : ∀ d ∈ tables_1, d.before a0 Z = true) (ws : List Jvm.Cond) (a1 : Addr) (w_bytesPerSecond_a1 : Int32) (h0 : Heap) (n0 : Nat) (Z0 : n0 ≤ h0.size) (F_bytesPerSecond_a1 : Fld Z h0 a1 "com/example/commonroom/commonroom/http/Limits$Pace" "bytesPerSecond" "I" (.int w_bytesPerSecond_a1)) :
    MetFree l (⟨"com/example/commonroom/commonroom/http/Limits$Pace", "bytesPerSecond", "()I"⟩ : MethodName) (head1 (Jvm.Cond.code (⟨"com/example/commonroom/commonroom/http/Limits$Pace", "bytesPerSecond", "()I"⟩ : MethodName) prog_34_method_6_code 1 (some .int) :: ws) ({ frames := 0, cells := 0, slots := 0, locals := 0 } : Room)) (fun a U => a = #[(.ref a1)] ∧ Z.Warmed39 U.vm ∧ U.heap = h0) (fun _ _ _ _ _ => True) (fun _ U o U' => ∃ v L, o = .returned v ∧ Q8 Z a1 w_bytesPerSecond_a1 h0 n0 v U'.heap L ∧ FrameEnd U o U' L ({ frames := 0, cells := 0, slots := 0, locals := 0 } : Room).cells ({ frames := 0, cells := 0, slots := 0, locals := 0 } : Room).slots) := by
  refine MetFree.of_bodySF (plainFor_of_name pn_com_example_commonroom_commonroom_http_Limits_Pace) hisR ?_
  intro p e s m args below meth c s₁ Bd hml0 hP hK
  obtain ⟨rfl, hZ, hh⟩ := hP
  have hx := Bd.exec
  have hby := Bd.bytes
  have hml : c.maxLocals = 1 := hml0
  have hown : s.vm.findClass "com/example/commonroom/commonroom/http/Limits$Pace" = some m.cls := findClass_of_methodNamed Bd.named
  have hnm := (name_of_methodNamed Bd.named Bd.method).1
  have X0 : Stand p l e ({ frames := 0, cells := 0, slots := 0, locals := 0 } : Room) s m #[(.ref a1)] below meth c s₁ [] 0 0 := Stand.of_body Bd
  have e0 : s₁.heap = h0 := by rw [← hh, Bd.state]; rfl
  have N0 := Fr.nil n0
  have pre0 : ∀ t, Steps p.tables e below (s₁.setTop (mkF m 0 #[.val (.ref a1)] [])) t → Steps p.tables e below (s₁.setTop (entryFrame m #[(.ref a1)] 1)) t := fun t k => castTop (ef_8 m a1) k
  have pre1 : ∀ t, Steps p.tables e below (s₁.setTop (mkF m 1 #[.val (.ref a1)] [(.ref a1)])) t → Steps p.tables e below (s₁.setTop (entryFrame m #[(.ref a1)] 1)) t := fun t kt => by
    refine pre0 t ?_
    refine XS.aloadN X0.here hx rfl (hb hby d8_0) rfl rfl ?_
    show Steps p.tables e below (s₁.setTop (mkF m 1 #[.val (.ref a1)] [(.ref a1)])) _
    exact kt
  obtain ⟨T2, X2, e2, st2⟩ := getF X0 hx hZ hown (host := "") (Or.inl (hw _ (mgE 19 rfl))) Via.refl e0 F_bytesPerSecond_a1 (g := (mkF m 1 #[.val (.ref a1)] [(.ref a1)])) rfl rfl (hb hby d8_1)
  have pre3 : ∀ t, Steps p.tables e below (T2.setTop (mkF m 4 #[.val (.ref a1)] [(.int w_bytesPerSecond_a1)])) t → Steps p.tables e below (s₁.setTop (entryFrame m #[(.ref a1)] 1)) t := fun t kt => pre1 t (st2 t kt)
  obtain ⟨fs, hr, hrun, hended, hW, hsame⟩ := X2.leave (v := some (.int w_bytesPerSecond_a1)) (fun h => by rw [Bd.returns] at h; cases h)
  refine ⟨_, _, pre3 _ ?_, hrun, hended, _, _, rfl, ?_, ⟨_, rfl⟩, hW, hsame.mono (by decide) (by decide)⟩
  · exact retI X2 hx Bd.returns (hb hby d8_4) hr
  · show Q8 Z a1 w_bytesPerSecond_a1 h0 n0 _ T2.heap _
    rw [e2]
    exact ⟨by first | rfl | (simp only []), N0, rfl⟩
theorem d6_0 : decode jdk_2799_method_7_code 0 = .ok (.aload_n 0, 1) := by decide +kernel
theorem d6_1 : decode jdk_2799_method_7_code 1 = .ok (.getfield 44, 3) := by decide +kernel
theorem d6_4 : decode jdk_2799_method_7_code 4 = .ok (.dup2, 1) := by decide +kernel
theorem d6_5 : decode jdk_2799_method_7_code 5 = .ok (.lstore_n 3, 1) := by decide +kernel
theorem d6_6 : decode jdk_2799_method_7_code 6 = .ok (.lconst 1, 1) := by decide +kernel
theorem d6_7 : decode jdk_2799_method_7_code 7 = .ok (.lcmp, 1) := by decide +kernel
theorem d6_8 : decode jdk_2799_method_7_code 8 = .ok (.ifCond .ne 5, 3) := by decide +kernel
theorem d6_13 : decode jdk_2799_method_7_code 13 = .ok (.lload_n 1, 1) := by decide +kernel
theorem d6_14 : decode jdk_2799_method_7_code 14 = .ok (.aload_n 0, 1) := by decide +kernel
theorem d6_15 : decode jdk_2799_method_7_code 15 = .ok (.getfield 52, 3) := by decide +kernel
theorem d6_18 : decode jdk_2799_method_7_code 18 = .ok (.dup2, 1) := by decide +kernel
theorem d6_19 : decode jdk_2799_method_7_code 19 = .ok (.lstore 5, 2) := by decide +kernel
theorem d6_21 : decode jdk_2799_method_7_code 21 = .ok (.lcmp, 1) := by decide +kernel
theorem d6_22 : decode jdk_2799_method_7_code 22 = .ok (.ifCond .le 7, 3) := by decide +kernel
theorem d6_29 : decode jdk_2799_method_7_code 29 = .ok (.lload_n 1, 1) := by decide +kernel
theorem d6_30 : decode jdk_2799_method_7_code 30 = .ok (.lload 5, 2) := by decide +kernel
theorem d6_32 : decode jdk_2799_method_7_code 32 = .ok (.lneg, 1) := by decide +kernel
theorem d6_33 : decode jdk_2799_method_7_code 33 = .ok (.lcmp, 1) := by decide +kernel
theorem d6_34 : decode jdk_2799_method_7_code 34 = .ok (.ifCond .ge 7, 3) := by decide +kernel
theorem d6_41 : decode jdk_2799_method_7_code 41 = .ok (.lload_n 1, 1) := by decide +kernel
theorem d6_42 : decode jdk_2799_method_7_code 42 = .ok (.lload_n 3, 1) := by decide +kernel
theorem d6_43 : decode jdk_2799_method_7_code 43 = .ok (.lmul, 1) := by decide +kernel
theorem d6_44 : decode jdk_2799_method_7_code 44 = .ok (.lreturn, 1) := by decide +kernel
theorem pn_java_util_concurrent_TimeUnit : plainName "java/util/concurrent/TimeUnit" = true := by first | (simp [plainName, overriddenIn]; done) | decide +kernel
theorem ef_6ms (m : MethodId) (x0 : Addr) (x1 : Int64) : entryFrame m #[(.ref x0), (.long x1)] 7 = mkF m 0 #[.val (.ref x0), .val (.long x1), .second, .unset, .unset, .unset, .unset] [] := by first | (simp [entryFrame, mkF, argsToLocals, Value.category]; done) | rfl
def Q6ms (Z : State) (a1 : Addr) (q2 : Int64) (h0 : Heap) (n0 : Nat) (v : Option Value) (h : Heap) (L : List Loc) : Prop := v = some (.long (q2 * (1000000 : Int64))) ∧ Fr n0 L ∧ h = h0
set_option maxRecDepth 65536 in
set_option maxHeartbeats 40000000 in
theorem rm6ms (l : Launch) (Z : State) (a0 : Array Value) (hw : ∀ d ∈ tables_1, d.before a0 Z = true) (ws : List Jvm.Cond) (a1 : Addr) (q2 : Int64) (h0 : Heap) (n0 : Nat) (Z0 : n0 ≤ h0.size) (F_scale_a1 : Fld Z h0 a1 "java/util/concurrent/TimeUnit" "scale" "J" (.long (1000000 : Int64))) (F_maxNanos_a1 : Fld Z h0 a1 "java/util/concurrent/TimeUnit" "maxNanos" "J" (.long (9223372036854 : Int64))) (hA : ¬ ((0 : Int32) < (lcmpW q2 (9223372036854 : Int64)))) (hB : ¬ ((lcmpW q2 (-(9223372036854 : Int64))) < (0 : Int32))) :
    MetFree l (⟨"java/util/concurrent/TimeUnit", "toNanos", "(J)J"⟩ : MethodName) (head1 (Jvm.Cond.code (⟨"java/util/concurrent/TimeUnit", "toNanos", "(J)J"⟩ : MethodName) jdk_2799_method_7_code 7 (some .long) :: ws) ({ frames := 0, cells := 0, slots := 0, locals := 0 } : Room)) (fun a U => a = #[(.ref a1), (.long q2)] ∧ Z.Warmed39 U.vm ∧ U.heap = h0) (fun _ _ _ _ _ => True) (fun _ U o U' => ∃ v L, o = .returned v ∧ Q6ms Z a1 q2 h0 n0 v U'.heap L ∧ FrameEnd U o U' L ({ frames := 0, cells := 0, slots := 0, locals := 0 } : Room).cells ({ frames := 0, cells := 0, slots := 0, locals := 0 } : Room).slots) := by
  refine MetFree.of_bodySF (plainFor_of_name pn_java_util_concurrent_TimeUnit) hisR ?_
  intro p e s m args below meth c s₁ Bd hml0 hP hK
  obtain ⟨rfl, hZ, hh⟩ := hP
  have hx := Bd.exec
  have hby := Bd.bytes
  have hml : c.maxLocals = 7 := hml0
  have hown : s.vm.findClass "java/util/concurrent/TimeUnit" = some m.cls := findClass_of_methodNamed Bd.named
  have hnm := (name_of_methodNamed Bd.named Bd.method).1
  have X0 : Stand p l e ({ frames := 0, cells := 0, slots := 0, locals := 0 } : Room) s m #[(.ref a1), (.long q2)] below meth c s₁ [] 0 0 := Stand.of_body Bd
  have e0 : s₁.heap = h0 := by rw [← hh, Bd.state]; rfl
  have N0 := Fr.nil n0
  have pre0 : ∀ t, Steps p.tables e below (s₁.setTop (mkF m 0 #[.val (.ref a1), .val (.long q2), .second, .unset, .unset, .unset, .unset] [])) t → Steps p.tables e below (s₁.setTop (entryFrame m #[(.ref a1), (.long q2)] 7)) t := fun t k => castTop (ef_6ms m a1 q2) k
  have pre1 : ∀ t, Steps p.tables e below (s₁.setTop (mkF m 1 #[.val (.ref a1), .val (.long q2), .second, .unset, .unset, .unset, .unset] [(.ref a1)])) t → Steps p.tables e below (s₁.setTop (entryFrame m #[(.ref a1), (.long q2)] 7)) t := fun t kt => by
    refine pre0 t ?_
    refine XS.aloadN X0.here hx rfl (hb hby d6_0) rfl rfl ?_
    show Steps p.tables e below (s₁.setTop (mkF m 1 #[.val (.ref a1), .val (.long q2), .second, .unset, .unset, .unset, .unset] [(.ref a1)])) _
    exact kt
  obtain ⟨T2, X2, e2, st2⟩ := getF X0 hx hZ hown (host := "") (Or.inl (hw _ (mgE 39 rfl))) Via.refl e0 F_scale_a1 (g := (mkF m 1 #[.val (.ref a1), .val (.long q2), .second, .unset, .unset, .unset, .unset] [(.ref a1)])) rfl rfl (hb hby d6_1)
  have pre3 : ∀ t, Steps p.tables e below (T2.setTop (mkF m 4 #[.val (.ref a1), .val (.long q2), .second, .unset, .unset, .unset, .unset] [(.long (1000000 : Int64))])) t → Steps p.tables e below (s₁.setTop (entryFrame m #[(.ref a1), (.long q2)] 7)) t := fun t kt => pre1 t (st2 t kt)
  have hc8 : ¬ ((lcmpW (1000000 : Int64) (1 : Int64)) = (0 : Int32)) := by decide
  have pre4 : ∀ t, Steps p.tables e below (T2.setTop (mkF m 15 #[.val (.ref a1), .val (.long q2), .second, .val (.long (1000000 : Int64)), .second, .unset, .unset] [(.ref a1), (.long q2)])) t → Steps p.tables e below (s₁.setTop (entryFrame m #[(.ref a1), (.long q2)] 7)) t := fun t kt => by
    refine pre3 t ?_
    jvm_step X2.here [X2.here.top, hx, (hb hby d6_4), Value.category]
    show Steps p.tables e below (T2.setTop (mkF m 5 #[.val (.ref a1), .val (.long q2), .second, .unset, .unset, .unset, .unset] [(.long (1000000 : Int64)), (.long (1000000 : Int64))])) _
    refine XS.lstoreN X2.here hx rfl (hb hby d6_5) rfl (l' := #[.val (.ref a1), .val (.long q2), .second, .val (.long (1000000 : Int64)), .second, .unset, .unset]) rfl ?_
    show Steps p.tables e below (T2.setTop (mkF m 6 #[.val (.ref a1), .val (.long q2), .second, .val (.long (1000000 : Int64)), .second, .unset, .unset] [(.long (1000000 : Int64))])) _
    refine XS.lconst X2.here hx rfl (hb hby d6_6) ?_
    show Steps p.tables e below (T2.setTop (mkF m 7 #[.val (.ref a1), .val (.long q2), .second, .val (.long (1000000 : Int64)), .second, .unset, .unset] [(.long (1 : Int64)), (.long (1000000 : Int64))])) _
    refine XS.lcmp X2.here hx rfl (hb hby d6_7) rfl ?_
    show Steps p.tables e below (T2.setTop (mkF m 8 #[.val (.ref a1), .val (.long q2), .second, .val (.long (1000000 : Int64)), .second, .unset, .unset] [(.int (lcmpW (1000000 : Int64) (1 : Int64)))])) _
    refine XS.ifYes X2.here hx rfl (pc0 := 8) (pc' := 13) rfl (hb hby d6_8) rfl ((if0 _ _).trans (feq hc8).2) (by decide) (by decide) ?_
    show Steps p.tables e below (T2.setTop (mkF m 13 #[.val (.ref a1), .val (.long q2), .second, .val (.long (1000000 : Int64)), .second, .unset, .unset] [])) _
    refine XS.lloadN X2.here hx rfl (hb hby d6_13) rfl ?_
    show Steps p.tables e below (T2.setTop (mkF m 14 #[.val (.ref a1), .val (.long q2), .second, .val (.long (1000000 : Int64)), .second, .unset, .unset] [(.long q2)])) _
    refine XS.aloadN X2.here hx rfl (hb hby d6_14) rfl rfl ?_
    show Steps p.tables e below (T2.setTop (mkF m 15 #[.val (.ref a1), .val (.long q2), .second, .val (.long (1000000 : Int64)), .second, .unset, .unset] [(.ref a1), (.long q2)])) _
    exact kt
  obtain ⟨T5, X5, e5, st5⟩ := getF X2 hx hZ hown (host := "") (Or.inl (hw _ (mgE 41 rfl))) Via.refl e2 F_maxNanos_a1 (g := (mkF m 15 #[.val (.ref a1), .val (.long q2), .second, .val (.long (1000000 : Int64)), .second, .unset, .unset] [(.ref a1), (.long q2)])) rfl rfl (hb hby d6_15)
  have pre6 : ∀ t, Steps p.tables e below (T5.setTop (mkF m 18 #[.val (.ref a1), .val (.long q2), .second, .val (.long (1000000 : Int64)), .second, .unset, .unset] [(.long (9223372036854 : Int64)), (.long q2)])) t → Steps p.tables e below (s₁.setTop (entryFrame m #[(.ref a1), (.long q2)] 7)) t := fun t kt => pre4 t (st5 t kt)
  have hc22 : ¬ ((0 : Int32) < (lcmpW q2 (9223372036854 : Int64))) := hA
  have hc34 : ¬ ((lcmpW q2 (-(9223372036854 : Int64))) < (0 : Int32)) := hB
  have pre7 : ∀ t, Steps p.tables e below (T5.setTop (mkF m 44 #[.val (.ref a1), .val (.long q2), .second, .val (.long (1000000 : Int64)), .second, .val (.long (9223372036854 : Int64)), .second] [(.long (q2 * (1000000 : Int64)))])) t → Steps p.tables e below (s₁.setTop (entryFrame m #[(.ref a1), (.long q2)] 7)) t := fun t kt => by
    refine pre6 t ?_
    jvm_step X5.here [X5.here.top, hx, (hb hby d6_18), Value.category]
    show Steps p.tables e below (T5.setTop (mkF m 19 #[.val (.ref a1), .val (.long q2), .second, .val (.long (1000000 : Int64)), .second, .unset, .unset] [(.long (9223372036854 : Int64)), (.long (9223372036854 : Int64)), (.long q2)])) _
    refine XS.lstore X5.here hx rfl (hb hby d6_19) rfl (l' := #[.val (.ref a1), .val (.long q2), .second, .val (.long (1000000 : Int64)), .second, .val (.long (9223372036854 : Int64)), .second]) rfl ?_
    show Steps p.tables e below (T5.setTop (mkF m 21 #[.val (.ref a1), .val (.long q2), .second, .val (.long (1000000 : Int64)), .second, .val (.long (9223372036854 : Int64)), .second] [(.long (9223372036854 : Int64)), (.long q2)])) _
    refine XS.lcmp X5.here hx rfl (hb hby d6_21) rfl ?_
    show Steps p.tables e below (T5.setTop (mkF m 22 #[.val (.ref a1), .val (.long q2), .second, .val (.long (1000000 : Int64)), .second, .val (.long (9223372036854 : Int64)), .second] [(.int (lcmpW q2 (9223372036854 : Int64)))])) _
    refine XS.ifYes X5.here hx rfl (pc0 := 22) (pc' := 29) rfl (hb hby d6_22) rfl ((if0 _ _).trans (flt hc22).2.2.2) (by decide) (by decide) ?_
    show Steps p.tables e below (T5.setTop (mkF m 29 #[.val (.ref a1), .val (.long q2), .second, .val (.long (1000000 : Int64)), .second, .val (.long (9223372036854 : Int64)), .second] [])) _
    refine XS.lloadN X5.here hx rfl (hb hby d6_29) rfl ?_
    show Steps p.tables e below (T5.setTop (mkF m 30 #[.val (.ref a1), .val (.long q2), .second, .val (.long (1000000 : Int64)), .second, .val (.long (9223372036854 : Int64)), .second] [(.long q2)])) _
    refine XS.lload X5.here hx rfl (hb hby d6_30) rfl ?_
    show Steps p.tables e below (T5.setTop (mkF m 32 #[.val (.ref a1), .val (.long q2), .second, .val (.long (1000000 : Int64)), .second, .val (.long (9223372036854 : Int64)), .second] [(.long (9223372036854 : Int64)), (.long q2)])) _
    refine XS.lneg X5.here hx rfl (hb hby d6_32) rfl ?_
    show Steps p.tables e below (T5.setTop (mkF m 33 #[.val (.ref a1), .val (.long q2), .second, .val (.long (1000000 : Int64)), .second, .val (.long (9223372036854 : Int64)), .second] [(.long (-(9223372036854 : Int64))), (.long q2)])) _
    refine XS.lcmp X5.here hx rfl (hb hby d6_33) rfl ?_
    show Steps p.tables e below (T5.setTop (mkF m 34 #[.val (.ref a1), .val (.long q2), .second, .val (.long (1000000 : Int64)), .second, .val (.long (9223372036854 : Int64)), .second] [(.int (lcmpW q2 (-(9223372036854 : Int64))))])) _
    refine XS.ifYes X5.here hx rfl (pc0 := 34) (pc' := 41) rfl (hb hby d6_34) rfl ((if0 _ _).trans (flt hc34).2.1) (by decide) (by decide) ?_
    show Steps p.tables e below (T5.setTop (mkF m 41 #[.val (.ref a1), .val (.long q2), .second, .val (.long (1000000 : Int64)), .second, .val (.long (9223372036854 : Int64)), .second] [])) _
    refine XS.lloadN X5.here hx rfl (hb hby d6_41) rfl ?_
    show Steps p.tables e below (T5.setTop (mkF m 42 #[.val (.ref a1), .val (.long q2), .second, .val (.long (1000000 : Int64)), .second, .val (.long (9223372036854 : Int64)), .second] [(.long q2)])) _
    refine XS.lloadN X5.here hx rfl (hb hby d6_42) rfl ?_
    show Steps p.tables e below (T5.setTop (mkF m 43 #[.val (.ref a1), .val (.long q2), .second, .val (.long (1000000 : Int64)), .second, .val (.long (9223372036854 : Int64)), .second] [(.long (1000000 : Int64)), (.long q2)])) _
    refine XS.lmul X5.here hx rfl (hb hby d6_43) rfl ?_
    show Steps p.tables e below (T5.setTop (mkF m 44 #[.val (.ref a1), .val (.long q2), .second, .val (.long (1000000 : Int64)), .second, .val (.long (9223372036854 : Int64)), .second] [(.long (q2 * (1000000 : Int64)))])) _
    exact kt
  obtain ⟨fs, hr, hrun, hended, hW, hsame⟩ := X5.leave (v := some (.long (q2 * (1000000 : Int64)))) (fun h => by rw [Bd.returns] at h; cases h)
  refine ⟨_, _, pre7 _ ?_, hrun, hended, _, _, rfl, ?_, ⟨_, rfl⟩, hW, hsame.mono (by decide) (by decide)⟩
  · exact retJ X5 hx Bd.returns (hb hby d6_44) hr
  · show Q6ms Z a1 q2 h0 n0 _ T5.heap _
    rw [e5]
    exact ⟨by first | rfl | (simp only []), N0, rfl⟩
theorem d6_25 : decode jdk_2799_method_7_code 25 = .ok (.ldc2_w 50, 3) := by decide +kernel
theorem d6_28 : decode jdk_2799_method_7_code 28 = .ok (.lreturn, 1) := by decide +kernel
theorem ef_6s (m : MethodId) (x0 : Addr) (x1 : Int64) : entryFrame m #[(.ref x0), (.long x1)] 7 = mkF m 0 #[.val (.ref x0), .val (.long x1), .second, .unset, .unset, .unset, .unset] [] := by first | (simp [entryFrame, mkF, argsToLocals, Value.category]; done) | rfl
def Q6s (Z : State) (a1 : Addr) (q2 : Int64) (h0 : Heap) (n0 : Nat) (v : Option Value) (h : Heap) (L : List Loc) : Prop := v = some (.long (9223372036854775807 : Int64)) ∧ Fr n0 L ∧ h = h0
set_option maxRecDepth 65536 in
set_option maxHeartbeats 40000000 in
theorem rm6s (l : Launch) (Z : State) (a0 : Array Value) (hw : ∀ d ∈ tables_1, d.before a0 Z = true) (ws : List Jvm.Cond) (a1 : Addr) (q2 : Int64) (h0 : Heap) (n0 : Nat) (Z0 : n0 ≤ h0.size) (F_scale_a1 : Fld Z h0 a1 "java/util/concurrent/TimeUnit" "scale" "J" (.long (1000000000 : Int64))) (F_maxNanos_a1 : Fld Z h0 a1 "java/util/concurrent/TimeUnit" "maxNanos" "J" (.long (9223372036 : Int64))) (hA : (0 : Int32) < (lcmpW q2 (9223372036 : Int64))) :
    MetFree l (⟨"java/util/concurrent/TimeUnit", "toNanos", "(J)J"⟩ : MethodName) (head1 (Jvm.Cond.code (⟨"java/util/concurrent/TimeUnit", "toNanos", "(J)J"⟩ : MethodName) jdk_2799_method_7_code 7 (some .long) :: ws) ({ frames := 0, cells := 0, slots := 0, locals := 0 } : Room)) (fun a U => a = #[(.ref a1), (.long q2)] ∧ Z.Warmed39 U.vm ∧ U.heap = h0) (fun _ _ _ _ _ => True) (fun _ U o U' => ∃ v L, o = .returned v ∧ Q6s Z a1 q2 h0 n0 v U'.heap L ∧ FrameEnd U o U' L ({ frames := 0, cells := 0, slots := 0, locals := 0 } : Room).cells ({ frames := 0, cells := 0, slots := 0, locals := 0 } : Room).slots) := by
  refine MetFree.of_bodySF (plainFor_of_name pn_java_util_concurrent_TimeUnit) hisR ?_
  intro p e s m args below meth c s₁ Bd hml0 hP hK
  obtain ⟨rfl, hZ, hh⟩ := hP
  have hx := Bd.exec
  have hby := Bd.bytes
  have hml : c.maxLocals = 7 := hml0
  have hown : s.vm.findClass "java/util/concurrent/TimeUnit" = some m.cls := findClass_of_methodNamed Bd.named
  have hnm := (name_of_methodNamed Bd.named Bd.method).1
  have X0 : Stand p l e ({ frames := 0, cells := 0, slots := 0, locals := 0 } : Room) s m #[(.ref a1), (.long q2)] below meth c s₁ [] 0 0 := Stand.of_body Bd
  have e0 : s₁.heap = h0 := by rw [← hh, Bd.state]; rfl
  have N0 := Fr.nil n0
  have pre0 : ∀ t, Steps p.tables e below (s₁.setTop (mkF m 0 #[.val (.ref a1), .val (.long q2), .second, .unset, .unset, .unset, .unset] [])) t → Steps p.tables e below (s₁.setTop (entryFrame m #[(.ref a1), (.long q2)] 7)) t := fun t k => castTop (ef_6s m a1 q2) k
  have pre1 : ∀ t, Steps p.tables e below (s₁.setTop (mkF m 1 #[.val (.ref a1), .val (.long q2), .second, .unset, .unset, .unset, .unset] [(.ref a1)])) t → Steps p.tables e below (s₁.setTop (entryFrame m #[(.ref a1), (.long q2)] 7)) t := fun t kt => by
    refine pre0 t ?_
    refine XS.aloadN X0.here hx rfl (hb hby d6_0) rfl rfl ?_
    show Steps p.tables e below (s₁.setTop (mkF m 1 #[.val (.ref a1), .val (.long q2), .second, .unset, .unset, .unset, .unset] [(.ref a1)])) _
    exact kt
  obtain ⟨T2, X2, e2, st2⟩ := getF X0 hx hZ hown (host := "") (Or.inl (hw _ (mgE 39 rfl))) Via.refl e0 F_scale_a1 (g := (mkF m 1 #[.val (.ref a1), .val (.long q2), .second, .unset, .unset, .unset, .unset] [(.ref a1)])) rfl rfl (hb hby d6_1)
  have pre3 : ∀ t, Steps p.tables e below (T2.setTop (mkF m 4 #[.val (.ref a1), .val (.long q2), .second, .unset, .unset, .unset, .unset] [(.long (1000000000 : Int64))])) t → Steps p.tables e below (s₁.setTop (entryFrame m #[(.ref a1), (.long q2)] 7)) t := fun t kt => pre1 t (st2 t kt)
  have hc8 : ¬ ((lcmpW (1000000000 : Int64) (1 : Int64)) = (0 : Int32)) := by decide
  have pre4 : ∀ t, Steps p.tables e below (T2.setTop (mkF m 15 #[.val (.ref a1), .val (.long q2), .second, .val (.long (1000000000 : Int64)), .second, .unset, .unset] [(.ref a1), (.long q2)])) t → Steps p.tables e below (s₁.setTop (entryFrame m #[(.ref a1), (.long q2)] 7)) t := fun t kt => by
    refine pre3 t ?_
    jvm_step X2.here [X2.here.top, hx, (hb hby d6_4), Value.category]
    show Steps p.tables e below (T2.setTop (mkF m 5 #[.val (.ref a1), .val (.long q2), .second, .unset, .unset, .unset, .unset] [(.long (1000000000 : Int64)), (.long (1000000000 : Int64))])) _
    refine XS.lstoreN X2.here hx rfl (hb hby d6_5) rfl (l' := #[.val (.ref a1), .val (.long q2), .second, .val (.long (1000000000 : Int64)), .second, .unset, .unset]) rfl ?_
    show Steps p.tables e below (T2.setTop (mkF m 6 #[.val (.ref a1), .val (.long q2), .second, .val (.long (1000000000 : Int64)), .second, .unset, .unset] [(.long (1000000000 : Int64))])) _
    refine XS.lconst X2.here hx rfl (hb hby d6_6) ?_
    show Steps p.tables e below (T2.setTop (mkF m 7 #[.val (.ref a1), .val (.long q2), .second, .val (.long (1000000000 : Int64)), .second, .unset, .unset] [(.long (1 : Int64)), (.long (1000000000 : Int64))])) _
    refine XS.lcmp X2.here hx rfl (hb hby d6_7) rfl ?_
    show Steps p.tables e below (T2.setTop (mkF m 8 #[.val (.ref a1), .val (.long q2), .second, .val (.long (1000000000 : Int64)), .second, .unset, .unset] [(.int (lcmpW (1000000000 : Int64) (1 : Int64)))])) _
    refine XS.ifYes X2.here hx rfl (pc0 := 8) (pc' := 13) rfl (hb hby d6_8) rfl ((if0 _ _).trans (feq hc8).2) (by decide) (by decide) ?_
    show Steps p.tables e below (T2.setTop (mkF m 13 #[.val (.ref a1), .val (.long q2), .second, .val (.long (1000000000 : Int64)), .second, .unset, .unset] [])) _
    refine XS.lloadN X2.here hx rfl (hb hby d6_13) rfl ?_
    show Steps p.tables e below (T2.setTop (mkF m 14 #[.val (.ref a1), .val (.long q2), .second, .val (.long (1000000000 : Int64)), .second, .unset, .unset] [(.long q2)])) _
    refine XS.aloadN X2.here hx rfl (hb hby d6_14) rfl rfl ?_
    show Steps p.tables e below (T2.setTop (mkF m 15 #[.val (.ref a1), .val (.long q2), .second, .val (.long (1000000000 : Int64)), .second, .unset, .unset] [(.ref a1), (.long q2)])) _
    exact kt
  obtain ⟨T5, X5, e5, st5⟩ := getF X2 hx hZ hown (host := "") (Or.inl (hw _ (mgE 41 rfl))) Via.refl e2 F_maxNanos_a1 (g := (mkF m 15 #[.val (.ref a1), .val (.long q2), .second, .val (.long (1000000000 : Int64)), .second, .unset, .unset] [(.ref a1), (.long q2)])) rfl rfl (hb hby d6_15)
  have pre6 : ∀ t, Steps p.tables e below (T5.setTop (mkF m 18 #[.val (.ref a1), .val (.long q2), .second, .val (.long (1000000000 : Int64)), .second, .unset, .unset] [(.long (9223372036 : Int64)), (.long q2)])) t → Steps p.tables e below (s₁.setTop (entryFrame m #[(.ref a1), (.long q2)] 7)) t := fun t kt => pre4 t (st5 t kt)
  have hc22 : (0 : Int32) < (lcmpW q2 (9223372036 : Int64)) := hA
  have pre7 : ∀ t, Steps p.tables e below (T5.setTop (mkF m 28 #[.val (.ref a1), .val (.long q2), .second, .val (.long (1000000000 : Int64)), .second, .val (.long (9223372036 : Int64)), .second] [(.long (9223372036854775807 : Int64))])) t → Steps p.tables e below (s₁.setTop (entryFrame m #[(.ref a1), (.long q2)] 7)) t := fun t kt => by
    refine pre6 t ?_
    jvm_step X5.here [X5.here.top, hx, (hb hby d6_18), Value.category]
    show Steps p.tables e below (T5.setTop (mkF m 19 #[.val (.ref a1), .val (.long q2), .second, .val (.long (1000000000 : Int64)), .second, .unset, .unset] [(.long (9223372036 : Int64)), (.long (9223372036 : Int64)), (.long q2)])) _
    refine XS.lstore X5.here hx rfl (hb hby d6_19) rfl (l' := #[.val (.ref a1), .val (.long q2), .second, .val (.long (1000000000 : Int64)), .second, .val (.long (9223372036 : Int64)), .second]) rfl ?_
    show Steps p.tables e below (T5.setTop (mkF m 21 #[.val (.ref a1), .val (.long q2), .second, .val (.long (1000000000 : Int64)), .second, .val (.long (9223372036 : Int64)), .second] [(.long (9223372036 : Int64)), (.long q2)])) _
    refine XS.lcmp X5.here hx rfl (hb hby d6_21) rfl ?_
    show Steps p.tables e below (T5.setTop (mkF m 22 #[.val (.ref a1), .val (.long q2), .second, .val (.long (1000000000 : Int64)), .second, .val (.long (9223372036 : Int64)), .second] [(.int (lcmpW q2 (9223372036 : Int64)))])) _
    refine XS.ifNo X5.here hx rfl (hb hby d6_22) rfl ((if0 _ _).trans (tlt hc22).2.2.2) ?_
    show Steps p.tables e below (T5.setTop (mkF m 25 #[.val (.ref a1), .val (.long q2), .second, .val (.long (1000000000 : Int64)), .second, .val (.long (9223372036 : Int64)), .second] [])) _
    refine X5.ldc2Long hx hown (mvT hZ (hw _ (mgE 86 rfl))) (g := (mkF m 25 #[.val (.ref a1), .val (.long q2), .second, .val (.long (1000000000 : Int64)), .second, .val (.long (9223372036 : Int64)), .second] [])) rfl (hb hby d6_25) _ ?_
    show Steps p.tables e below (T5.setTop (mkF m 28 #[.val (.ref a1), .val (.long q2), .second, .val (.long (1000000000 : Int64)), .second, .val (.long (9223372036 : Int64)), .second] [(.long (9223372036854775807 : Int64))])) _
    exact kt
  obtain ⟨fs, hr, hrun, hended, hW, hsame⟩ := X5.leave (v := some (.long (9223372036854775807 : Int64))) (fun h => by rw [Bd.returns] at h; cases h)
  refine ⟨_, _, pre7 _ ?_, hrun, hended, _, _, rfl, ?_, ⟨_, rfl⟩, hW, hsame.mono (by decide) (by decide)⟩
  · exact retJ X5 hx Bd.returns (hb hby d6_28) hr
  · show Q6s Z a1 q2 h0 n0 _ T5.heap _
    rw [e5]
    exact ⟨by first | rfl | (simp only []), N0, rfl⟩
theorem d9_0 : decode prog_41_method_2_code 0 = .ok (.aload_n 0, 1) := by decide +kernel
theorem d9_1 : decode prog_41_method_2_code 1 = .ok (.aload_n 0, 1) := by decide +kernel
theorem d9_2 : decode prog_41_method_2_code 2 = .ok (.getfield 23, 3) := by decide +kernel
theorem d9_5 : decode prog_41_method_2_code 5 = .ok (.putfield 43, 3) := by decide +kernel
theorem d9_8 : decode prog_41_method_2_code 8 = .ok (.aload_n 0, 1) := by decide +kernel
theorem d9_9 : decode prog_41_method_2_code 9 = .ok (.lconst 0, 1) := by decide +kernel
theorem d9_10 : decode prog_41_method_2_code 10 = .ok (.putfield 46, 3) := by decide +kernel
theorem d9_13 : decode prog_41_method_2_code 13 = .ok (.return_, 1) := by decide +kernel
theorem pn_com_example_commonroom_commonroom_http_Patience : plainName "com/example/commonroom/commonroom/http/Patience" = true := by first | (simp [plainName, overriddenIn]; done) | decide +kernel
theorem ef_9 (m : MethodId) (x0 : Addr) : entryFrame m #[(.ref x0)] 1 = mkF m 0 #[.val (.ref x0)] [] := by first | (simp [entryFrame, mkF, argsToLocals, Value.category]; done) | rfl
def Q9 (Z : State) (a1 : Addr) (w_mostAheadNanos_a1 : Int64) (w_bytesPerSecond_a1 : Int64) (w_graceNanos_a1 : Int64) (u_leftNanos_a1 : Value) (u_waitedNanos_a1 : Value) (h0 : Heap) (n0 : Nat) (v : Option Value) (h : Heap) (L : List Loc) : Prop := v = none ∧ Fr n0 L ∧ Keep h0 h [a1] ∧ Exa Z h a1 "com/example/commonroom/commonroom/http/Patience" ∧ Fld Z h a1 "com/example/commonroom/commonroom/http/Patience" "bytesPerSecond" "J" (.long w_bytesPerSecond_a1) ∧ Fld Z h a1 "com/example/commonroom/commonroom/http/Patience" "graceNanos" "J" (.long w_graceNanos_a1) ∧ Fld Z h a1 "com/example/commonroom/commonroom/http/Patience" "leftNanos" "J" (.long w_graceNanos_a1) ∧ Fld Z h a1 "com/example/commonroom/commonroom/http/Patience" "mostAheadNanos" "J" (.long w_mostAheadNanos_a1) ∧ Fld Z h a1 "com/example/commonroom/commonroom/http/Patience" "waitedNanos" "J" (.long (0 : Int64))
set_option maxRecDepth 65536 in
set_option maxHeartbeats 40000000 in
theorem rm9 (l : Launch) (Z : State) (a0 : Array Value) (hw : ∀ d ∈ tables_1, d.before a0 Z = true) (ws : List Jvm.Cond) (a1 : Addr) (w_mostAheadNanos_a1 : Int64) (w_bytesPerSecond_a1 : Int64) (w_graceNanos_a1 : Int64) (u_leftNanos_a1 : Value) (u_waitedNanos_a1 : Value) (h0 : Heap) (n0 : Nat) (Z0 : n0 ≤ h0.size) (F_mostAheadNanos_a1 : Fld Z h0 a1 "com/example/commonroom/commonroom/http/Patience" "mostAheadNanos" "J" (.long w_mostAheadNanos_a1)) (F_bytesPerSecond_a1 : Fld Z h0 a1 "com/example/commonroom/commonroom/http/Patience" "bytesPerSecond" "J" (.long w_bytesPerSecond_a1)) (F_graceNanos_a1 : Fld Z h0 a1 "com/example/commonroom/commonroom/http/Patience" "graceNanos" "J" (.long w_graceNanos_a1)) (E_a1 : Exa Z h0 a1 "com/example/commonroom/commonroom/http/Patience") (F_leftNanos_a1 : Fld Z h0 a1 "com/example/commonroom/commonroom/http/Patience" "leftNanos" "J" u_leftNanos_a1) (g_a1 : n0 ≤ a1) (F_waitedNanos_a1 : Fld Z h0 a1 "com/example/commonroom/commonroom/http/Patience" "waitedNanos" "J" u_waitedNanos_a1) :
    MetFree l (⟨"com/example/commonroom/commonroom/http/Patience", "renew", "()V"⟩ : MethodName) (head1 (Jvm.Cond.code (⟨"com/example/commonroom/commonroom/http/Patience", "renew", "()V"⟩ : MethodName) prog_41_method_2_code 1 none :: ws) ({ frames := 0, cells := 0, slots := 0, locals := 0 } : Room)) (fun a U => a = #[(.ref a1)] ∧ Z.Warmed39 U.vm ∧ U.heap = h0) (fun _ _ _ _ _ => True) (fun _ U o U' => ∃ v L, o = .returned v ∧ Q9 Z a1 w_mostAheadNanos_a1 w_bytesPerSecond_a1 w_graceNanos_a1 u_leftNanos_a1 u_waitedNanos_a1 h0 n0 v U'.heap L ∧ FrameEnd U o U' L ({ frames := 0, cells := 0, slots := 0, locals := 0 } : Room).cells ({ frames := 0, cells := 0, slots := 0, locals := 0 } : Room).slots) := by
  refine MetFree.of_bodySF (plainFor_of_name pn_com_example_commonroom_commonroom_http_Patience) hisR ?_
  intro p e s m args below meth c s₁ Bd hml0 hP hK
  obtain ⟨rfl, hZ, hh⟩ := hP
  have hx := Bd.exec
  have hby := Bd.bytes
  have hml : c.maxLocals = 1 := hml0
  have hown : s.vm.findClass "com/example/commonroom/commonroom/http/Patience" = some m.cls := findClass_of_methodNamed Bd.named
  have hnm := (name_of_methodNamed Bd.named Bd.method).1
  have X0 : Stand p l e ({ frames := 0, cells := 0, slots := 0, locals := 0 } : Room) s m #[(.ref a1)] below meth c s₁ [] 0 0 := Stand.of_body Bd
  have e0 : s₁.heap = h0 := by rw [← hh, Bd.state]; rfl
  have N0 := Fr.nil n0
  have pre0 : ∀ t, Steps p.tables e below (s₁.setTop (mkF m 0 #[.val (.ref a1)] [])) t → Steps p.tables e below (s₁.setTop (entryFrame m #[(.ref a1)] 1)) t := fun t k => castTop (ef_9 m a1) k
  have pre1 : ∀ t, Steps p.tables e below (s₁.setTop (mkF m 2 #[.val (.ref a1)] [(.ref a1), (.ref a1)])) t → Steps p.tables e below (s₁.setTop (entryFrame m #[(.ref a1)] 1)) t := fun t kt => by
    refine pre0 t ?_
    refine XS.aloadN X0.here hx rfl (hb hby d9_0) rfl rfl ?_
    show Steps p.tables e below (s₁.setTop (mkF m 1 #[.val (.ref a1)] [(.ref a1)])) _
    refine XS.aloadN X0.here hx rfl (hb hby d9_1) rfl rfl ?_
    show Steps p.tables e below (s₁.setTop (mkF m 2 #[.val (.ref a1)] [(.ref a1), (.ref a1)])) _
    exact kt
  obtain ⟨T2, X2, e2, st2⟩ := getF X0 hx hZ hown (host := "") (Or.inl (hw _ (mgE 43 rfl))) Via.refl e0 F_graceNanos_a1 (g := (mkF m 2 #[.val (.ref a1)] [(.ref a1), (.ref a1)])) rfl rfl (hb hby d9_2)
  have pre3 : ∀ t, Steps p.tables e below (T2.setTop (mkF m 5 #[.val (.ref a1)] [(.long w_graceNanos_a1), (.ref a1)])) t → Steps p.tables e below (s₁.setTop (entryFrame m #[(.ref a1)] 1)) t := fun t kt => pre1 t (st2 t kt)
  obtain ⟨T4, h4, X4, e4, W4, st4⟩ := putF X2 hx hZ hown (host := "") (Or.inl (hw _ (mgE 64 rfl))) Via.refl e2 F_leftNanos_a1 E_a1 (Or.inl (hw _ (mgE 65 rfl))) (hw _ (mgE 1 rfl)) (ty := .long) (by decide) rfl rfl (g := (mkF m 5 #[.val (.ref a1)] [(.long w_graceNanos_a1), (.ref a1)])) rfl rfl (hb hby d9_5)
  have F5_4 := F_mostAheadNanos_a1.other W4 (Or.inr (slot_ne (Or.inr (hw _ (mgE 51 rfl))) (Or.inl (hw _ (mgE 65 rfl))) (by decide) (t := .long) (t' := .long) (by decide) (by decide)))
  have F6_4 := F_bytesPerSecond_a1.other W4 (Or.inr (slot_ne (Or.inr (hw _ (mgE 58 rfl))) (Or.inl (hw _ (mgE 65 rfl))) (by decide) (t := .long) (t' := .long) (by decide) (by decide)))
  have F7_4 := F_graceNanos_a1.other W4 (Or.inr (slot_ne (Or.inr (hw _ (mgE 44 rfl))) (Or.inl (hw _ (mgE 65 rfl))) (by decide) (t := .long) (t' := .long) (by decide) (by decide)))
  have F8_4 := E_a1.wr W4
  have F10_4 := F_waitedNanos_a1.other W4 (Or.inr (slot_ne (Or.inl (hw _ (mgE 67 rfl))) (Or.inl (hw _ (mgE 65 rfl))) (by decide) (t := .long) (t' := .long) (by decide) (by decide)))
  have Fw4 := F_leftNanos_a1.same W4
  have K4 : Keep h0 h4 [a1] := (Keep.refl h0 [a1]).wr W4 (Or.inl (mgE 0 rfl))
  have pre11 : ∀ t, Steps p.tables e below (T4.setTop (mkF m 8 #[.val (.ref a1)] [])) t → Steps p.tables e below (s₁.setTop (entryFrame m #[(.ref a1)] 1)) t := fun t kt => pre3 t (st4 t kt)
  have N4 := Fr.snoc X4 N0 g_a1
  have pre12 : ∀ t, Steps p.tables e below (T4.setTop (mkF m 10 #[.val (.ref a1)] [(.long (0 : Int64)), (.ref a1)])) t → Steps p.tables e below (s₁.setTop (entryFrame m #[(.ref a1)] 1)) t := fun t kt => by
    refine pre11 t ?_
    refine XS.aloadN X4.here hx rfl (hb hby d9_8) rfl rfl ?_
    show Steps p.tables e below (T4.setTop (mkF m 9 #[.val (.ref a1)] [(.ref a1)])) _
    refine XS.lconst X4.here hx rfl (hb hby d9_9) ?_
    show Steps p.tables e below (T4.setTop (mkF m 10 #[.val (.ref a1)] [(.long (0 : Int64)), (.ref a1)])) _
    exact kt
  obtain ⟨T13, h13, X13, e13, W13, st13⟩ := putF X4 hx hZ hown (host := "") (Or.inl (hw _ (mgE 66 rfl))) Via.refl e4 F10_4 F8_4 (Or.inl (hw _ (mgE 67 rfl))) (hw _ (mgE 1 rfl)) (ty := .long) (by decide) rfl rfl (g := (mkF m 10 #[.val (.ref a1)] [(.long (0 : Int64)), (.ref a1)])) rfl rfl (hb hby d9_10)
  have F14_13 := F5_4.other W13 (Or.inr (slot_ne (Or.inr (hw _ (mgE 51 rfl))) (Or.inl (hw _ (mgE 67 rfl))) (by decide) (t := .long) (t' := .long) (by decide) (by decide)))
  have F15_13 := F6_4.other W13 (Or.inr (slot_ne (Or.inr (hw _ (mgE 58 rfl))) (Or.inl (hw _ (mgE 67 rfl))) (by decide) (t := .long) (t' := .long) (by decide) (by decide)))
  have F16_13 := F7_4.other W13 (Or.inr (slot_ne (Or.inr (hw _ (mgE 44 rfl))) (Or.inl (hw _ (mgE 67 rfl))) (by decide) (t := .long) (t' := .long) (by decide) (by decide)))
  have F17_13 := F8_4.wr W13
  have F18_13 := Fw4.other W13 (Or.inr (slot_ne (Or.inl (hw _ (mgE 65 rfl))) (Or.inl (hw _ (mgE 67 rfl))) (by decide) (t := .long) (t' := .long) (by decide) (by decide)))
  have Fw13 := F10_4.same W13
  have K13 : Keep h0 h13 [a1] := K4.wr W13 (Or.inl (mgE 0 rfl))
  have pre20 : ∀ t, Steps p.tables e below (T13.setTop (mkF m 13 #[.val (.ref a1)] [])) t → Steps p.tables e below (s₁.setTop (entryFrame m #[(.ref a1)] 1)) t := fun t kt => pre12 t (st13 t kt)
  have N13 := Fr.snoc X13 N4 g_a1
  obtain ⟨fs, hr, hrun, hended, hW, hsame⟩ := X13.leave (v := none) (fun _ => rfl)
  refine ⟨_, _, pre20 _ ?_, hrun, hended, _, _, rfl, ?_, ⟨_, rfl⟩, hW, hsame.mono (by decide) (by decide)⟩
  · exact X13.returnOut hx Bd.returns (hb hby d9_13) hr
  · show Q9 Z a1 w_mostAheadNanos_a1 w_bytesPerSecond_a1 w_graceNanos_a1 u_leftNanos_a1 u_waitedNanos_a1 h0 n0 _ T13.heap _
    rw [e13]
    exact ⟨rfl, N13, K13, F17_13, F15_13, F16_13, F18_13, F14_13, Fw13⟩

theorem own_in (x : Int32) : ¬ ((0 : Int32) < (lcmpW (x.toInt64) (9223372036854 : Int64))) ∧ ¬ ((lcmpW (x.toInt64) (-(9223372036854 : Int64))) < (0 : Int32)) := by
  have r := rng32 x
  have e1 : (9223372036854 : Int64).toInt = 9223372036854 := by decide
  have e2 : (-(9223372036854 : Int64)).toInt = -9223372036854 := by decide
  rw [lw_gt, lw_lt, Int64.lt_iff_toInt_lt, Int64.lt_iff_toInt_lt, c_i2l, e1, e2]
  omega

theorem d4_0 : decode prog_41_method_1_code 0 = .ok (.aload_n 0, 1) := by decide +kernel
theorem d4_1 : decode prog_41_method_1_code 1 = .ok (.invokespecial 1, 3) := by decide +kernel
theorem d4_4 : decode prog_41_method_1_code 4 = .ok (.aload_n 0, 1) := by decide +kernel
theorem d4_5 : decode prog_41_method_1_code 5 = .ok (.getstatic 7, 3) := by decide +kernel
theorem d4_8 : decode prog_41_method_1_code 8 = .ok (.aload_n 1, 1) := by decide +kernel
theorem d4_9 : decode prog_41_method_1_code 9 = .ok (.invokevirtual 13, 3) := by decide +kernel
theorem d4_12 : decode prog_41_method_1_code 12 = .ok (.i2l, 1) := by decide +kernel
theorem d4_13 : decode prog_41_method_1_code 13 = .ok (.invokevirtual 19, 3) := by decide +kernel
theorem d4_16 : decode prog_41_method_1_code 16 = .ok (.putfield 23, 3) := by decide +kernel
theorem d4_19 : decode prog_41_method_1_code 19 = .ok (.aload_n 0, 1) := by decide +kernel
theorem d4_20 : decode prog_41_method_1_code 20 = .ok (.getstatic 7, 3) := by decide +kernel
theorem d4_23 : decode prog_41_method_1_code 23 = .ok (.aload_n 1, 1) := by decide +kernel
theorem d4_24 : decode prog_41_method_1_code 24 = .ok (.invokevirtual 29, 3) := by decide +kernel
theorem d4_27 : decode prog_41_method_1_code 27 = .ok (.i2l, 1) := by decide +kernel
theorem d4_28 : decode prog_41_method_1_code 28 = .ok (.invokevirtual 19, 3) := by decide +kernel
theorem d4_31 : decode prog_41_method_1_code 31 = .ok (.putfield 32, 3) := by decide +kernel
theorem d4_34 : decode prog_41_method_1_code 34 = .ok (.aload_n 0, 1) := by decide +kernel
theorem d4_35 : decode prog_41_method_1_code 35 = .ok (.aload_n 1, 1) := by decide +kernel
theorem d4_36 : decode prog_41_method_1_code 36 = .ok (.invokevirtual 35, 3) := by decide +kernel
theorem d4_39 : decode prog_41_method_1_code 39 = .ok (.i2l, 1) := by decide +kernel
theorem d4_40 : decode prog_41_method_1_code 40 = .ok (.putfield 38, 3) := by decide +kernel
theorem d4_43 : decode prog_41_method_1_code 43 = .ok (.aload_n 0, 1) := by decide +kernel
theorem d4_44 : decode prog_41_method_1_code 44 = .ok (.invokevirtual 40, 3) := by decide +kernel
theorem d4_47 : decode prog_41_method_1_code 47 = .ok (.return_, 1) := by decide +kernel
theorem pd___I : parseMethodDescriptor "()I" = some ⟨[], some .int⟩ := by decide +kernel
theorem pd__J_J : parseMethodDescriptor "(J)J" = some ⟨[.long], some .long⟩ := by decide +kernel
theorem ef_4 (m : MethodId) (x0 : Addr) (x1 : Addr) : entryFrame m #[(.ref x0), (.ref x1)] 2 = mkF m 0 #[.val (.ref x0), .val (.ref x1)] [] := by first | (simp [entryFrame, mkF, argsToLocals, Value.category]; done) | rfl
def Q4 (Z : State) (a1 : Addr) (a2 : Addr) (s_MILLISECONDS : Addr) (w_graceMillis_a2 : Int32) (u_graceNanos_a1 : Value) (w_mostAheadMillis_a2 : Int32) (u_mostAheadNanos_a1 : Value) (w_bytesPerSecond_a2 : Int32) (u_bytesPerSecond_a1 : Value) (u_leftNanos_a1 : Value) (u_waitedNanos_a1 : Value) (h0 : Heap) (n0 : Nat) (v : Option Value) (h : Heap) (L : List Loc) : Prop := v = none ∧ Fr n0 L ∧ Keep h0 h [a1] ∧ Exa Z h a1 "com/example/commonroom/commonroom/http/Patience" ∧ Fld Z h a1 "com/example/commonroom/commonroom/http/Patience" "bytesPerSecond" "J" (.long (w_bytesPerSecond_a2.toInt64)) ∧ Fld Z h a1 "com/example/commonroom/commonroom/http/Patience" "graceNanos" "J" (.long ((w_graceMillis_a2.toInt64) * (1000000 : Int64))) ∧ Fld Z h a1 "com/example/commonroom/commonroom/http/Patience" "leftNanos" "J" (.long ((w_graceMillis_a2.toInt64) * (1000000 : Int64))) ∧ Fld Z h a1 "com/example/commonroom/commonroom/http/Patience" "mostAheadNanos" "J" (.long ((w_mostAheadMillis_a2.toInt64) * (1000000 : Int64))) ∧ Fld Z h a1 "com/example/commonroom/commonroom/http/Patience" "waitedNanos" "J" (.long (0 : Int64))
set_option maxRecDepth 65536 in
set_option maxHeartbeats 40000000 in
theorem rm4 (l : Launch) (Z : State) (a0 : Array Value) (hw : ∀ d ∈ tables_1, d.before a0 Z = true) (ws : List Jvm.Cond) (a1 : Addr) (a2 : Addr) (s_MILLISECONDS : Addr) (w_graceMillis_a2 : Int32) (u_graceNanos_a1 : Value) (w_mostAheadMillis_a2 : Int32) (u_mostAheadNanos_a1 : Value) (w_bytesPerSecond_a2 : Int32) (u_bytesPerSecond_a1 : Value) (u_leftNanos_a1 : Value) (u_waitedNanos_a1 : Value) (h0 : Heap) (n0 : Nat) (Z0 : n0 ≤ h0.size) (S_MILLISECONDS : Sta Z h0 "java/util/concurrent/TimeUnit" "MILLISECONDS" "Ljava/util/concurrent/TimeUnit;" (.ref s_MILLISECONDS)) (F_graceMillis_a2 : Fld Z h0 a2 "com/example/commonroom/commonroom/http/Limits$Pace" "graceMillis" "I" (.int w_graceMillis_a2)) (E_a2 : Exa Z h0 a2 "com/example/commonroom/commonroom/http/Limits$Pace") (F_scale_s_MILLISECONDS : Fld Z h0 s_MILLISECONDS "java/util/concurrent/TimeUnit" "scale" "J" (.long (1000000 : Int64))) (F_maxNanos_s_MILLISECONDS : Fld Z h0 s_MILLISECONDS "java/util/concurrent/TimeUnit" "maxNanos" "J" (.long (9223372036854 : Int64))) (E_s_MILLISECONDS : Exa Z h0 s_MILLISECONDS "java/util/concurrent/TimeUnit") (E_a1 : Exa Z h0 a1 "com/example/commonroom/commonroom/http/Patience") (F_graceNanos_a1 : Fld Z h0 a1 "com/example/commonroom/commonroom/http/Patience" "graceNanos" "J" u_graceNanos_a1) (g_a1 : n0 ≤ a1) (ne_a2_a1 : a2 ≠ a1) (ne_s_MILLISECONDS_a1 : s_MILLISECONDS ≠ a1) (F_mostAheadMillis_a2 : Fld Z h0 a2 "com/example/commonroom/commonroom/http/Limits$Pace" "mostAheadMillis" "I" (.int w_mostAheadMillis_a2)) (F_mostAheadNanos_a1 : Fld Z h0 a1 "com/example/commonroom/commonroom/http/Patience" "mostAheadNanos" "J" u_mostAheadNanos_a1) (F_bytesPerSecond_a2 : Fld Z h0 a2 "com/example/commonroom/commonroom/http/Limits$Pace" "bytesPerSecond" "I" (.int w_bytesPerSecond_a2)) (F_bytesPerSecond_a1 : Fld Z h0 a1 "com/example/commonroom/commonroom/http/Patience" "bytesPerSecond" "J" u_bytesPerSecond_a1) (F_leftNanos_a1 : Fld Z h0 a1 "com/example/commonroom/commonroom/http/Patience" "leftNanos" "J" u_leftNanos_a1) (F_waitedNanos_a1 : Fld Z h0 a1 "com/example/commonroom/commonroom/http/Patience" "waitedNanos" "J" u_waitedNanos_a1) :
    MetFree l (⟨"com/example/commonroom/commonroom/http/Patience", "<init>", "(Lcom/example/commonroom/commonroom/http/Limits$Pace;)V"⟩ : MethodName) (head1 (Jvm.Cond.code (⟨"com/example/commonroom/commonroom/http/Patience", "<init>", "(Lcom/example/commonroom/commonroom/http/Limits$Pace;)V"⟩ : MethodName) prog_41_method_1_code 2 none :: ws) ({ frames := 1, cells := 0, slots := 0, locals := 19 } : Room)) (fun a U => a = #[(.ref a1), (.ref a2)] ∧ Z.Warmed39 U.vm ∧ U.heap = h0) (fun _ _ _ _ _ => True) (fun _ U o U' => ∃ v L, o = .returned v ∧ Q4 Z a1 a2 s_MILLISECONDS w_graceMillis_a2 u_graceNanos_a1 w_mostAheadMillis_a2 u_mostAheadNanos_a1 w_bytesPerSecond_a2 u_bytesPerSecond_a1 u_leftNanos_a1 u_waitedNanos_a1 h0 n0 v U'.heap L ∧ FrameEnd U o U' L ({ frames := 1, cells := 0, slots := 0, locals := 19 } : Room).cells ({ frames := 1, cells := 0, slots := 0, locals := 19 } : Room).slots) := by
  refine MetFree.of_bodySF (plainFor_of_name pn_com_example_commonroom_commonroom_http_Patience) hisR ?_
  intro p e s m args below meth c s₁ Bd hml0 hP hK
  obtain ⟨rfl, hZ, hh⟩ := hP
  have hx := Bd.exec
  have hby := Bd.bytes
  have hml : c.maxLocals = 2 := hml0
  have hown : s.vm.findClass "com/example/commonroom/commonroom/http/Patience" = some m.cls := findClass_of_methodNamed Bd.named
  have hnm := (name_of_methodNamed Bd.named Bd.method).1
  have X0 : Stand p l e ({ frames := 1, cells := 0, slots := 0, locals := 19 } : Room) s m #[(.ref a1), (.ref a2)] below meth c s₁ [] 0 0 := Stand.of_body Bd
  have e0 : s₁.heap = h0 := by rw [← hh, Bd.state]; rfl
  have N0 := Fr.nil n0
  have pre0 : ∀ t, Steps p.tables e below (s₁.setTop (mkF m 0 #[.val (.ref a1), .val (.ref a2)] [])) t → Steps p.tables e below (s₁.setTop (entryFrame m #[(.ref a1), (.ref a2)] 2)) t := fun t k => castTop (ef_4 m a1 a2) k
  have pre1 : ∀ t, Steps p.tables e below (s₁.setTop (mkF m 1 #[.val (.ref a1), .val (.ref a2)] [(.ref a1)])) t → Steps p.tables e below (s₁.setTop (entryFrame m #[(.ref a1), (.ref a2)] 2)) t := fun t kt => by
    refine pre0 t ?_
    refine XS.aloadN X0.here hx rfl (hb hby d4_0) rfl rfl ?_
    show Steps p.tables e below (s₁.setTop (mkF m 1 #[.val (.ref a1), .val (.ref a2)] [(.ref a1)])) _
    exact kt
  obtain ⟨T2, X2, e2, st2⟩ := initO X0 hx hZ hown (hw _ (mgE 26 rfl)) (hw _ (mgE 15 rfl)) (hw _ (mgE 16 rfl)) e0 (g := (mkF m 1 #[.val (.ref a1), .val (.ref a2)] [(.ref a1)])) rfl (by rw [hml]; rfl) rfl (hb hby d4_1) (by decide) (W := 0) (by show 2 * 0 + _ ≤ _; exact Nat.le_of_eq rfl) (by decide)
  have pre3 : ∀ t, Steps p.tables e below (T2.setTop (mkF m 4 #[.val (.ref a1), .val (.ref a2)] [])) t → Steps p.tables e below (s₁.setTop (entryFrame m #[(.ref a1), (.ref a2)] 2)) t := fun t kt => pre1 t (st2 t kt)
  have pre4 : ∀ t, Steps p.tables e below (T2.setTop (mkF m 5 #[.val (.ref a1), .val (.ref a2)] [(.ref a1)])) t → Steps p.tables e below (s₁.setTop (entryFrame m #[(.ref a1), (.ref a2)] 2)) t := fun t kt => by
    refine pre3 t ?_
    refine XS.aloadN X2.here hx rfl (hb hby d4_4) rfl rfl ?_
    show Steps p.tables e below (T2.setTop (mkF m 5 #[.val (.ref a1), .val (.ref a2)] [(.ref a1)])) _
    exact kt
  obtain ⟨T5, X5, e5, st5⟩ := getS2 X2 hx hZ hown (host := "") (Or.inl (hw _ (mgE 27 rfl))) Via.refl e2 S_MILLISECONDS (g := (mkF m 5 #[.val (.ref a1), .val (.ref a2)] [(.ref a1)])) rfl (hb hby d4_5)
  have pre6 : ∀ t, Steps p.tables e below (T5.setTop (mkF m 8 #[.val (.ref a1), .val (.ref a2)] [(.ref s_MILLISECONDS), (.ref a1)])) t → Steps p.tables e below (s₁.setTop (entryFrame m #[(.ref a1), (.ref a2)] 2)) t := fun t kt => pre4 t (st5 t kt)
  have pre7 : ∀ t, Steps p.tables e below (T5.setTop (mkF m 9 #[.val (.ref a1), .val (.ref a2)] [(.ref a2), (.ref s_MILLISECONDS), (.ref a1)])) t → Steps p.tables e below (s₁.setTop (entryFrame m #[(.ref a1), (.ref a2)] 2)) t := fun t kt => by
    refine pre6 t ?_
    refine XS.aloadN X5.here hx rfl (hb hby d4_8) rfl rfl ?_
    show Steps p.tables e below (T5.setTop (mkF m 9 #[.val (.ref a1), .val (.ref a2)] [(.ref a2), (.ref s_MILLISECONDS), (.ref a1)])) _
    exact kt
  obtain ⟨cq8, kq8, q8a, q8b, q8c⟩ := isOf hZ e5 E_a2
  obtain ⟨_, _, ⟨T8, L8, k8, n8⟩, -, X8, ⟨Lc8, hQ8, l8, y8, z8⟩, st8⟩ := X5.virtualBack hx (y := (⟨"com/example/commonroom/commonroom/http/Limits$Pace", "graceMillis", "()I"⟩ : MethodName)) (z := (⟨"com/example/commonroom/commonroom/http/Limits$Pace", "graceMillis", "()I"⟩ : MethodName)) hown (mvT hZ (hw _ (mgE 29 rfl))) (mvT hZ (hw _ (mgE 30 rfl))) (notFace_of_selects (args := #[]) (mvT hZ (hw _ (mgE 32 rfl)))) (mvT hZ (hw _ (mgE 32 rfl))) (mvT hZ (hw _ (mgE 31 rfl))) (by decide) (backOf (W := 2) (rm5 l Z a0 hw [] a2 w_graceMillis_a2 h0 n0 Z0 F_graceMillis_a2) hZ (hw _ (mgE 33 rfl)) (hw _ (mgE 5 rfl)) (by decide) (by decide)) q8a q8c (g := (mkF m 9 #[.val (.ref a1), .val (.ref a2)] [(.ref a2), (.ref s_MILLISECONDS), (.ref a1)])) rfl (by rw [hml]; rfl) (Steps.refl _) (argsL := []) (rest := [(.ref s_MILLISECONDS), (.ref a1)]) (lenOf pd___I rfl) rfl (by show 2 * 0 + _ ≤ _; exact Nat.le_of_eq rfl) (hb hby d4_9) (fun _ _ => ⟨rfl, e5, (by decide : 0 + 0 ≤ _), (by decide : 0 + 0 ≤ _)⟩)
  dsimp only [Pt.U, Pt.locs, Pt.cells, Pt.slots] at X8 l8 y8 z8 st8 hQ8
  subst l8 y8 z8
  obtain ⟨rfl, N8q, e8⟩ := hQ8
  have pre9 : ∀ t, Steps p.tables e below (T8.setTop (mkF m 12 #[.val (.ref a1), .val (.ref a2)] [(.int w_graceMillis_a2), (.ref s_MILLISECONDS), (.ref a1)])) t → Steps p.tables e below (s₁.setTop (entryFrame m #[(.ref a1), (.ref a2)] 2)) t := fun t kt => pre7 t (st8.trans kt)
  have N8 := Fr.app N0 N8q
  have pre10 : ∀ t, Steps p.tables e below (T8.setTop (mkF m 13 #[.val (.ref a1), .val (.ref a2)] [(.long (w_graceMillis_a2.toInt64)), (.ref s_MILLISECONDS), (.ref a1)])) t → Steps p.tables e below (s₁.setTop (entryFrame m #[(.ref a1), (.ref a2)] 2)) t := fun t kt => by
    refine pre9 t ?_
    refine XS.i2l X8.here hx rfl (hb hby d4_12) rfl ?_
    show Steps p.tables e below (T8.setTop (mkF m 13 #[.val (.ref a1), .val (.ref a2)] [(.long (w_graceMillis_a2.toInt64)), (.ref s_MILLISECONDS), (.ref a1)])) _
    exact kt
  obtain ⟨cq11, kq11, q11a, q11b, q11c⟩ := isOf hZ e8 E_s_MILLISECONDS
  obtain ⟨_, _, ⟨T11, L11, k11, n11⟩, -, X11, ⟨Lc11, hQ11, l11, y11, z11⟩, st11⟩ := X8.virtualBack hx (y := (⟨"java/util/concurrent/TimeUnit", "toNanos", "(J)J"⟩ : MethodName)) (z := (⟨"java/util/concurrent/TimeUnit", "toNanos", "(J)J"⟩ : MethodName)) hown (mvT hZ (hw _ (mgE 34 rfl))) (mvT hZ (hw _ (mgE 35 rfl))) (notFace_of_selects (args := #[]) (mvT hZ (hw _ (mgE 37 rfl)))) (mvT hZ (hw _ (mgE 37 rfl))) (mvT hZ (hw _ (mgE 36 rfl))) (by decide) (backOf (W := 1) (rm6ms l Z a0 hw [] s_MILLISECONDS (w_graceMillis_a2.toInt64) h0 n0 Z0 F_scale_s_MILLISECONDS F_maxNanos_s_MILLISECONDS ((own_in _).1) ((own_in _).2)) hZ (hw _ (mgE 38 rfl)) (hw _ (mgE 28 rfl)) (by decide) (by decide)) q11a q11c (g := (mkF m 13 #[.val (.ref a1), .val (.ref a2)] [(.long (w_graceMillis_a2.toInt64)), (.ref s_MILLISECONDS), (.ref a1)])) rfl (by rw [hml]; rfl) (Steps.refl _) (argsL := [(.long (w_graceMillis_a2.toInt64))]) (rest := [(.ref a1)]) (lenOf pd__J_J rfl) rfl (by show 2 * 0 + _ ≤ _; exact Nat.le_of_eq rfl) (hb hby d4_13) (fun _ _ => ⟨rfl, e8, (by decide : 0 + 0 ≤ _), (by decide : 0 + 0 ≤ _)⟩)
  dsimp only [Pt.U, Pt.locs, Pt.cells, Pt.slots] at X11 l11 y11 z11 st11 hQ11
  subst l11 y11 z11
  obtain ⟨rfl, N11q, e11⟩ := hQ11
  have pre12 : ∀ t, Steps p.tables e below (T11.setTop (mkF m 16 #[.val (.ref a1), .val (.ref a2)] [(.long ((w_graceMillis_a2.toInt64) * (1000000 : Int64))), (.ref a1)])) t → Steps p.tables e below (s₁.setTop (entryFrame m #[(.ref a1), (.ref a2)] 2)) t := fun t kt => pre10 t (st11.trans kt)
  have N11 := Fr.app N8 N11q
  obtain ⟨T13, h13, X13, e13, W13, st13⟩ := putF X11 hx hZ hown (host := "") (Or.inl (hw _ (mgE 43 rfl))) Via.refl e11 F_graceNanos_a1 E_a1 (Or.inr ⟨(hw _ (mgE 44 rfl)), rfl, hnm⟩) (hw _ (mgE 1 rfl)) (ty := .long) (by decide) rfl rfl (g := (mkF m 16 #[.val (.ref a1), .val (.ref a2)] [(.long ((w_graceMillis_a2.toInt64) * (1000000 : Int64))), (.ref a1)])) rfl rfl (hb hby d4_16)
  have F14_13 := Sta.wr W13 S_MILLISECONDS
  have F16_13 := E_a2.wr W13
  have F17_13 := F_scale_s_MILLISECONDS.other W13 (Or.inl ne_s_MILLISECONDS_a1)
  have F18_13 := F_maxNanos_s_MILLISECONDS.other W13 (Or.inl ne_s_MILLISECONDS_a1)
  have F19_13 := E_s_MILLISECONDS.wr W13
  have F20_13 := E_a1.wr W13
  have F22_13 := F_mostAheadMillis_a2.other W13 (Or.inl ne_a2_a1)
  have F23_13 := F_mostAheadNanos_a1.other W13 (Or.inr (slot_ne (Or.inr (hw _ (mgE 51 rfl))) (Or.inr (hw _ (mgE 44 rfl))) (by decide) (t := .long) (t' := .long) (by decide) (by decide)))
  have F24_13 := F_bytesPerSecond_a2.other W13 (Or.inl ne_a2_a1)
  have F25_13 := F_bytesPerSecond_a1.other W13 (Or.inr (slot_ne (Or.inr (hw _ (mgE 58 rfl))) (Or.inr (hw _ (mgE 44 rfl))) (by decide) (t := .long) (t' := .long) (by decide) (by decide)))
  have F26_13 := F_leftNanos_a1.other W13 (Or.inr (slot_ne (Or.inl (hw _ (mgE 65 rfl))) (Or.inr (hw _ (mgE 44 rfl))) (by decide) (t := .long) (t' := .long) (by decide) (by decide)))
  have F27_13 := F_waitedNanos_a1.other W13 (Or.inr (slot_ne (Or.inl (hw _ (mgE 67 rfl))) (Or.inr (hw _ (mgE 44 rfl))) (by decide) (t := .long) (t' := .long) (by decide) (by decide)))
  have Fw13 := F_graceNanos_a1.same W13
  have K13 : Keep h0 h13 [a1] := (Keep.refl h0 [a1]).wr W13 (Or.inl (mgE 0 rfl))
  have Z13 : n0 ≤ h13.size := Nat.le_trans Z0 (Keep.of_wr W13).1
  have pre28 : ∀ t, Steps p.tables e below (T13.setTop (mkF m 19 #[.val (.ref a1), .val (.ref a2)] [])) t → Steps p.tables e below (s₁.setTop (entryFrame m #[(.ref a1), (.ref a2)] 2)) t := fun t kt => pre12 t (st13 t kt)
  have N13 := Fr.snoc X13 N11 g_a1
  have pre29 : ∀ t, Steps p.tables e below (T13.setTop (mkF m 20 #[.val (.ref a1), .val (.ref a2)] [(.ref a1)])) t → Steps p.tables e below (s₁.setTop (entryFrame m #[(.ref a1), (.ref a2)] 2)) t := fun t kt => by
    refine pre28 t ?_
    refine XS.aloadN X13.here hx rfl (hb hby d4_19) rfl rfl ?_
    show Steps p.tables e below (T13.setTop (mkF m 20 #[.val (.ref a1), .val (.ref a2)] [(.ref a1)])) _
    exact kt
  obtain ⟨T30, X30, e30, st30⟩ := getS2 X13 hx hZ hown (host := "") (Or.inl (hw _ (mgE 27 rfl))) Via.refl e13 F14_13 (g := (mkF m 20 #[.val (.ref a1), .val (.ref a2)] [(.ref a1)])) rfl (hb hby d4_20)
  have pre31 : ∀ t, Steps p.tables e below (T30.setTop (mkF m 23 #[.val (.ref a1), .val (.ref a2)] [(.ref s_MILLISECONDS), (.ref a1)])) t → Steps p.tables e below (s₁.setTop (entryFrame m #[(.ref a1), (.ref a2)] 2)) t := fun t kt => pre29 t (st30 t kt)
  have pre32 : ∀ t, Steps p.tables e below (T30.setTop (mkF m 24 #[.val (.ref a1), .val (.ref a2)] [(.ref a2), (.ref s_MILLISECONDS), (.ref a1)])) t → Steps p.tables e below (s₁.setTop (entryFrame m #[(.ref a1), (.ref a2)] 2)) t := fun t kt => by
    refine pre31 t ?_
    refine XS.aloadN X30.here hx rfl (hb hby d4_23) rfl rfl ?_
    show Steps p.tables e below (T30.setTop (mkF m 24 #[.val (.ref a1), .val (.ref a2)] [(.ref a2), (.ref s_MILLISECONDS), (.ref a1)])) _
    exact kt
  obtain ⟨cq33, kq33, q33a, q33b, q33c⟩ := isOf hZ e30 F16_13
  obtain ⟨_, _, ⟨T33, L33, k33, n33⟩, -, X33, ⟨Lc33, hQ33, l33, y33, z33⟩, st33⟩ := X30.virtualBack hx (y := (⟨"com/example/commonroom/commonroom/http/Limits$Pace", "mostAheadMillis", "()I"⟩ : MethodName)) (z := (⟨"com/example/commonroom/commonroom/http/Limits$Pace", "mostAheadMillis", "()I"⟩ : MethodName)) hown (mvT hZ (hw _ (mgE 45 rfl))) (mvT hZ (hw _ (mgE 46 rfl))) (notFace_of_selects (args := #[]) (mvT hZ (hw _ (mgE 48 rfl)))) (mvT hZ (hw _ (mgE 48 rfl))) (mvT hZ (hw _ (mgE 47 rfl))) (by decide) (backOf (W := 2) (rm7 l Z a0 hw [] a2 w_mostAheadMillis_a2 h13 n0 Z13 F22_13) hZ (hw _ (mgE 49 rfl)) (hw _ (mgE 5 rfl)) (by decide) (by decide)) q33a q33c (g := (mkF m 24 #[.val (.ref a1), .val (.ref a2)] [(.ref a2), (.ref s_MILLISECONDS), (.ref a1)])) rfl (by rw [hml]; rfl) (Steps.refl _) (argsL := []) (rest := [(.ref s_MILLISECONDS), (.ref a1)]) (lenOf pd___I rfl) rfl (by show 2 * 0 + _ ≤ _; exact Nat.le_of_eq rfl) (hb hby d4_24) (fun _ _ => ⟨rfl, e30, (by decide : 0 + 0 ≤ _), (by decide : 0 + 0 ≤ _)⟩)
  dsimp only [Pt.U, Pt.locs, Pt.cells, Pt.slots] at X33 l33 y33 z33 st33 hQ33
  subst l33 y33 z33
  obtain ⟨rfl, N33q, e33⟩ := hQ33
  have pre34 : ∀ t, Steps p.tables e below (T33.setTop (mkF m 27 #[.val (.ref a1), .val (.ref a2)] [(.int w_mostAheadMillis_a2), (.ref s_MILLISECONDS), (.ref a1)])) t → Steps p.tables e below (s₁.setTop (entryFrame m #[(.ref a1), (.ref a2)] 2)) t := fun t kt => pre32 t (st33.trans kt)
  have N33 := Fr.app N13 N33q
  have pre35 : ∀ t, Steps p.tables e below (T33.setTop (mkF m 28 #[.val (.ref a1), .val (.ref a2)] [(.long (w_mostAheadMillis_a2.toInt64)), (.ref s_MILLISECONDS), (.ref a1)])) t → Steps p.tables e below (s₁.setTop (entryFrame m #[(.ref a1), (.ref a2)] 2)) t := fun t kt => by
    refine pre34 t ?_
    refine XS.i2l X33.here hx rfl (hb hby d4_27) rfl ?_
    show Steps p.tables e below (T33.setTop (mkF m 28 #[.val (.ref a1), .val (.ref a2)] [(.long (w_mostAheadMillis_a2.toInt64)), (.ref s_MILLISECONDS), (.ref a1)])) _
    exact kt
  obtain ⟨cq36, kq36, q36a, q36b, q36c⟩ := isOf hZ e33 F19_13
  obtain ⟨_, _, ⟨T36, L36, k36, n36⟩, -, X36, ⟨Lc36, hQ36, l36, y36, z36⟩, st36⟩ := X33.virtualBack hx (y := (⟨"java/util/concurrent/TimeUnit", "toNanos", "(J)J"⟩ : MethodName)) (z := (⟨"java/util/concurrent/TimeUnit", "toNanos", "(J)J"⟩ : MethodName)) hown (mvT hZ (hw _ (mgE 34 rfl))) (mvT hZ (hw _ (mgE 35 rfl))) (notFace_of_selects (args := #[]) (mvT hZ (hw _ (mgE 37 rfl)))) (mvT hZ (hw _ (mgE 37 rfl))) (mvT hZ (hw _ (mgE 36 rfl))) (by decide) (backOf (W := 1) (rm6ms l Z a0 hw [] s_MILLISECONDS (w_mostAheadMillis_a2.toInt64) h13 n0 Z13 F17_13 F18_13 ((own_in _).1) ((own_in _).2)) hZ (hw _ (mgE 38 rfl)) (hw _ (mgE 28 rfl)) (by decide) (by decide)) q36a q36c (g := (mkF m 28 #[.val (.ref a1), .val (.ref a2)] [(.long (w_mostAheadMillis_a2.toInt64)), (.ref s_MILLISECONDS), (.ref a1)])) rfl (by rw [hml]; rfl) (Steps.refl _) (argsL := [(.long (w_mostAheadMillis_a2.toInt64))]) (rest := [(.ref a1)]) (lenOf pd__J_J rfl) rfl (by show 2 * 0 + _ ≤ _; exact Nat.le_of_eq rfl) (hb hby d4_28) (fun _ _ => ⟨rfl, e33, (by decide : 0 + 0 ≤ _), (by decide : 0 + 0 ≤ _)⟩)
  dsimp only [Pt.U, Pt.locs, Pt.cells, Pt.slots] at X36 l36 y36 z36 st36 hQ36
  subst l36 y36 z36
  obtain ⟨rfl, N36q, e36⟩ := hQ36
  have pre37 : ∀ t, Steps p.tables e below (T36.setTop (mkF m 31 #[.val (.ref a1), .val (.ref a2)] [(.long ((w_mostAheadMillis_a2.toInt64) * (1000000 : Int64))), (.ref a1)])) t → Steps p.tables e below (s₁.setTop (entryFrame m #[(.ref a1), (.ref a2)] 2)) t := fun t kt => pre35 t (st36.trans kt)
  have N36 := Fr.app N33 N36q
  obtain ⟨T38, h38, X38, e38, W38, st38⟩ := putF X36 hx hZ hown (host := "") (Or.inl (hw _ (mgE 50 rfl))) Via.refl e36 F23_13 F20_13 (Or.inr ⟨(hw _ (mgE 51 rfl)), rfl, hnm⟩) (hw _ (mgE 1 rfl)) (ty := .long) (by decide) rfl rfl (g := (mkF m 31 #[.val (.ref a1), .val (.ref a2)] [(.long ((w_mostAheadMillis_a2.toInt64) * (1000000 : Int64))), (.ref a1)])) rfl rfl (hb hby d4_31)
  have F41_38 := F16_13.wr W38
  have F45_38 := F20_13.wr W38
  have F46_38 := Fw13.other W38 (Or.inr (slot_ne (Or.inr (hw _ (mgE 44 rfl))) (Or.inr (hw _ (mgE 51 rfl))) (by decide) (t := .long) (t' := .long) (by decide) (by decide)))
  have F49_38 := F24_13.other W38 (Or.inl ne_a2_a1)
  have F50_38 := F25_13.other W38 (Or.inr (slot_ne (Or.inr (hw _ (mgE 58 rfl))) (Or.inr (hw _ (mgE 51 rfl))) (by decide) (t := .long) (t' := .long) (by decide) (by decide)))
  have F51_38 := F26_13.other W38 (Or.inr (slot_ne (Or.inl (hw _ (mgE 65 rfl))) (Or.inr (hw _ (mgE 51 rfl))) (by decide) (t := .long) (t' := .long) (by decide) (by decide)))
  have F52_38 := F27_13.other W38 (Or.inr (slot_ne (Or.inl (hw _ (mgE 67 rfl))) (Or.inr (hw _ (mgE 51 rfl))) (by decide) (t := .long) (t' := .long) (by decide) (by decide)))
  have Fw38 := F23_13.same W38
  have K38 : Keep h0 h38 [a1] := K13.wr W38 (Or.inl (mgE 0 rfl))
  have Z38 : n0 ≤ h38.size := Nat.le_trans Z13 (Keep.of_wr W38).1
  have pre53 : ∀ t, Steps p.tables e below (T38.setTop (mkF m 34 #[.val (.ref a1), .val (.ref a2)] [])) t → Steps p.tables e below (s₁.setTop (entryFrame m #[(.ref a1), (.ref a2)] 2)) t := fun t kt => pre37 t (st38 t kt)
  have N38 := Fr.snoc X38 N36 g_a1
  have pre54 : ∀ t, Steps p.tables e below (T38.setTop (mkF m 36 #[.val (.ref a1), .val (.ref a2)] [(.ref a2), (.ref a1)])) t → Steps p.tables e below (s₁.setTop (entryFrame m #[(.ref a1), (.ref a2)] 2)) t := fun t kt => by
    refine pre53 t ?_
    refine XS.aloadN X38.here hx rfl (hb hby d4_34) rfl rfl ?_
    show Steps p.tables e below (T38.setTop (mkF m 35 #[.val (.ref a1), .val (.ref a2)] [(.ref a1)])) _
    refine XS.aloadN X38.here hx rfl (hb hby d4_35) rfl rfl ?_
    show Steps p.tables e below (T38.setTop (mkF m 36 #[.val (.ref a1), .val (.ref a2)] [(.ref a2), (.ref a1)])) _
    exact kt
  obtain ⟨cq55, kq55, q55a, q55b, q55c⟩ := isOf hZ e38 F41_38
  obtain ⟨_, _, ⟨T55, L55, k55, n55⟩, -, X55, ⟨Lc55, hQ55, l55, y55, z55⟩, st55⟩ := X38.virtualBack hx (y := (⟨"com/example/commonroom/commonroom/http/Limits$Pace", "bytesPerSecond", "()I"⟩ : MethodName)) (z := (⟨"com/example/commonroom/commonroom/http/Limits$Pace", "bytesPerSecond", "()I"⟩ : MethodName)) hown (mvT hZ (hw _ (mgE 52 rfl))) (mvT hZ (hw _ (mgE 53 rfl))) (notFace_of_selects (args := #[]) (mvT hZ (hw _ (mgE 55 rfl)))) (mvT hZ (hw _ (mgE 55 rfl))) (mvT hZ (hw _ (mgE 54 rfl))) (by decide) (backOf (W := 1) (rm8 l Z a0 hw [] a2 w_bytesPerSecond_a2 h38 n0 Z38 F49_38) hZ (hw _ (mgE 56 rfl)) (hw _ (mgE 5 rfl)) (by decide) (by decide)) q55a q55c (g := (mkF m 36 #[.val (.ref a1), .val (.ref a2)] [(.ref a2), (.ref a1)])) rfl (by rw [hml]; rfl) (Steps.refl _) (argsL := []) (rest := [(.ref a1)]) (lenOf pd___I rfl) rfl (by show 2 * 0 + _ ≤ _; exact Nat.le_of_eq rfl) (hb hby d4_36) (fun _ _ => ⟨rfl, e38, (by decide : 0 + 0 ≤ _), (by decide : 0 + 0 ≤ _)⟩)
  dsimp only [Pt.U, Pt.locs, Pt.cells, Pt.slots] at X55 l55 y55 z55 st55 hQ55
  subst l55 y55 z55
  obtain ⟨rfl, N55q, e55⟩ := hQ55
  have pre56 : ∀ t, Steps p.tables e below (T55.setTop (mkF m 39 #[.val (.ref a1), .val (.ref a2)] [(.int w_bytesPerSecond_a2), (.ref a1)])) t → Steps p.tables e below (s₁.setTop (entryFrame m #[(.ref a1), (.ref a2)] 2)) t := fun t kt => pre54 t (st55.trans kt)
  have N55 := Fr.app N38 N55q
  have pre57 : ∀ t, Steps p.tables e below (T55.setTop (mkF m 40 #[.val (.ref a1), .val (.ref a2)] [(.long (w_bytesPerSecond_a2.toInt64)), (.ref a1)])) t → Steps p.tables e below (s₁.setTop (entryFrame m #[(.ref a1), (.ref a2)] 2)) t := fun t kt => by
    refine pre56 t ?_
    refine XS.i2l X55.here hx rfl (hb hby d4_39) rfl ?_
    show Steps p.tables e below (T55.setTop (mkF m 40 #[.val (.ref a1), .val (.ref a2)] [(.long (w_bytesPerSecond_a2.toInt64)), (.ref a1)])) _
    exact kt
  obtain ⟨T58, h58, X58, e58, W58, st58⟩ := putF X55 hx hZ hown (host := "") (Or.inl (hw _ (mgE 57 rfl))) Via.refl e55 F50_38 F45_38 (Or.inr ⟨(hw _ (mgE 58 rfl)), rfl, hnm⟩) (hw _ (mgE 1 rfl)) (ty := .long) (by decide) rfl rfl (g := (mkF m 40 #[.val (.ref a1), .val (.ref a2)] [(.long (w_bytesPerSecond_a2.toInt64)), (.ref a1)])) rfl rfl (hb hby d4_40)
  have F65_58 := F45_38.wr W58
  have F66_58 := F46_38.other W58 (Or.inr (slot_ne (Or.inr (hw _ (mgE 44 rfl))) (Or.inr (hw _ (mgE 58 rfl))) (by decide) (t := .long) (t' := .long) (by decide) (by decide)))
  have F68_58 := Fw38.other W58 (Or.inr (slot_ne (Or.inr (hw _ (mgE 51 rfl))) (Or.inr (hw _ (mgE 58 rfl))) (by decide) (t := .long) (t' := .long) (by decide) (by decide)))
  have F71_58 := F51_38.other W58 (Or.inr (slot_ne (Or.inl (hw _ (mgE 65 rfl))) (Or.inr (hw _ (mgE 58 rfl))) (by decide) (t := .long) (t' := .long) (by decide) (by decide)))
  have F72_58 := F52_38.other W58 (Or.inr (slot_ne (Or.inl (hw _ (mgE 67 rfl))) (Or.inr (hw _ (mgE 58 rfl))) (by decide) (t := .long) (t' := .long) (by decide) (by decide)))
  have Fw58 := F50_38.same W58
  have K58 : Keep h0 h58 [a1] := K38.wr W58 (Or.inl (mgE 0 rfl))
  have Z58 : n0 ≤ h58.size := Nat.le_trans Z38 (Keep.of_wr W58).1
  have pre73 : ∀ t, Steps p.tables e below (T58.setTop (mkF m 43 #[.val (.ref a1), .val (.ref a2)] [])) t → Steps p.tables e below (s₁.setTop (entryFrame m #[(.ref a1), (.ref a2)] 2)) t := fun t kt => pre57 t (st58 t kt)
  have N58 := Fr.snoc X58 N55 g_a1
  have pre74 : ∀ t, Steps p.tables e below (T58.setTop (mkF m 44 #[.val (.ref a1), .val (.ref a2)] [(.ref a1)])) t → Steps p.tables e below (s₁.setTop (entryFrame m #[(.ref a1), (.ref a2)] 2)) t := fun t kt => by
    refine pre73 t ?_
    refine XS.aloadN X58.here hx rfl (hb hby d4_43) rfl rfl ?_
    show Steps p.tables e below (T58.setTop (mkF m 44 #[.val (.ref a1), .val (.ref a2)] [(.ref a1)])) _
    exact kt
  obtain ⟨cq75, kq75, q75a, q75b, q75c⟩ := isOf hZ e58 F65_58
  obtain ⟨_, _, ⟨T75, L75, k75, n75⟩, -, X75, ⟨Lc75, hQ75, l75, y75, z75⟩, st75⟩ := X58.virtualBack hx (y := (⟨"com/example/commonroom/commonroom/http/Patience", "renew", "()V"⟩ : MethodName)) (z := (⟨"com/example/commonroom/commonroom/http/Patience", "renew", "()V"⟩ : MethodName)) hown (mvT hZ (hw _ (mgE 59 rfl))) (mvT hZ (hw _ (mgE 60 rfl))) (notFace_of_selects (args := #[]) (mvT hZ (hw _ (mgE 62 rfl)))) (mvT hZ (hw _ (mgE 62 rfl))) (mvT hZ (hw _ (mgE 61 rfl))) (by decide) (backOf (W := 0) (rm9 l Z a0 hw [] a1 ((w_mostAheadMillis_a2.toInt64) * (1000000 : Int64)) (w_bytesPerSecond_a2.toInt64) ((w_graceMillis_a2.toInt64) * (1000000 : Int64)) u_leftNanos_a1 u_waitedNanos_a1 h58 n0 Z58 F68_58 Fw58 F66_58 F65_58 F71_58 g_a1 F72_58) hZ (hw _ (mgE 63 rfl)) (hw _ (mgE 2 rfl)) (by decide) (by decide)) q75a q75c (g := (mkF m 44 #[.val (.ref a1), .val (.ref a2)] [(.ref a1)])) rfl (by rw [hml]; rfl) (Steps.refl _) (argsL := []) (rest := []) (lenOf pd___V rfl) rfl (by show 2 * 0 + _ ≤ _; exact Nat.le_of_eq rfl) (hb hby d4_44) (fun _ _ => ⟨rfl, e58, (by decide : 0 + 0 ≤ _), (by decide : 0 + 0 ≤ _)⟩)
  dsimp only [Pt.U, Pt.locs, Pt.cells, Pt.slots] at X75 l75 y75 z75 st75 hQ75
  subst l75 y75 z75
  obtain ⟨rfl, N75q, K75, Q75_0, Q75_1, Q75_2, Q75_3, Q75_4, Q75_5⟩ := hQ75
  have KK75 : Keep h0 T75.heap [a1] := Keep.trans K58 K75 (allS (Or.inl (mgE 0 rfl)) all0)
  have pre90 : ∀ t, Steps p.tables e below (T75.setTop (mkF m 47 #[.val (.ref a1), .val (.ref a2)] [])) t → Steps p.tables e below (s₁.setTop (entryFrame m #[(.ref a1), (.ref a2)] 2)) t := fun t kt => pre74 t (st75.trans kt)
  have N75 := Fr.app N58 N75q
  obtain ⟨fs, hr, hrun, hended, hW, hsame⟩ := X75.leave (v := none) (fun _ => rfl)
  refine ⟨_, _, pre90 _ ?_, hrun, hended, _, _, rfl, ?_, ⟨_, rfl⟩, hW, hsame.mono (by decide) (by decide)⟩
  · exact X75.returnOut hx Bd.returns (hb hby d4_47) hr
  · show Q4 Z a1 a2 s_MILLISECONDS w_graceMillis_a2 u_graceNanos_a1 w_mostAheadMillis_a2 u_mostAheadNanos_a1 w_bytesPerSecond_a2 u_bytesPerSecond_a1 u_leftNanos_a1 u_waitedNanos_a1 h0 n0 _ T75.heap _
    exact ⟨rfl, N75, KK75, Q75_0, Q75_1, Q75_2, Q75_3, Q75_4, Q75_5⟩
theorem d10_0 : decode prog_41_method_3_code 0 = .ok (.aload_n 0, 1) := by decide +kernel
theorem d10_1 : decode prog_41_method_3_code 1 = .ok (.getfield 43, 3) := by decide +kernel
theorem d10_4 : decode prog_41_method_3_code 4 = .ok (.lreturn, 1) := by decide +kernel
theorem ef_10 (m : MethodId) (x0 : Addr) : entryFrame m #[(.ref x0)] 1 = mkF m 0 #[.val (.ref x0)] [] := by first | (simp [entryFrame, mkF, argsToLocals, Value.category]; done) | rfl
def Q10 (Z : State) (a1 : Addr) (w_leftNanos_a1 : Int64) (h0 : Heap) (n0 : Nat) (v : Option Value) (h : Heap) (L : List Loc) : Prop := v = some (.long w_leftNanos_a1) ∧ Fr n0 L ∧ h = h0
set_option maxRecDepth 65536 in
set_option maxHeartbeats 40000000 in
theorem rm10 (l : Launch) (Z : State) (a0 : Array Value) (hw : ∀ d ∈ tables_1, d.before a0 Z = true) (ws : List Jvm.Cond) (a1 : Addr) (w_leftNanos_a1 : Int64) (h0 : Heap) (n0 : Nat) (Z0 : n0 ≤ h0.size) (F_leftNanos_a1 : Fld Z h0 a1 "com/example/commonroom/commonroom/http/Patience" "leftNanos" "J" (.long w_leftNanos_a1)) :
    MetFree l (⟨"com/example/commonroom/commonroom/http/Patience", "leftNanos", "()J"⟩ : MethodName) (head1 (Jvm.Cond.code (⟨"com/example/commonroom/commonroom/http/Patience", "leftNanos", "()J"⟩ : MethodName) prog_41_method_3_code 1 (some .long) :: ws) ({ frames := 0, cells := 0, slots := 0, locals := 0 } : Room)) (fun a U => a = #[(.ref a1)] ∧ Z.Warmed39 U.vm ∧ U.heap = h0) (fun _ _ _ _ _ => True) (fun _ U o U' => ∃ v L, o = .returned v ∧ Q10 Z a1 w_leftNanos_a1 h0 n0 v U'.heap L ∧ FrameEnd U o U' L ({ frames := 0, cells := 0, slots := 0, locals := 0 } : Room).cells ({ frames := 0, cells := 0, slots := 0, locals := 0 } : Room).slots) := by
  refine MetFree.of_bodySF (plainFor_of_name pn_com_example_commonroom_commonroom_http_Patience) hisR ?_
  intro p e s m args below meth c s₁ Bd hml0 hP hK
  obtain ⟨rfl, hZ, hh⟩ := hP
  have hx := Bd.exec
  have hby := Bd.bytes
  have hml : c.maxLocals = 1 := hml0
  have hown : s.vm.findClass "com/example/commonroom/commonroom/http/Patience" = some m.cls := findClass_of_methodNamed Bd.named
  have hnm := (name_of_methodNamed Bd.named Bd.method).1
  have X0 : Stand p l e ({ frames := 0, cells := 0, slots := 0, locals := 0 } : Room) s m #[(.ref a1)] below meth c s₁ [] 0 0 := Stand.of_body Bd
  have e0 : s₁.heap = h0 := by rw [← hh, Bd.state]; rfl
  have N0 := Fr.nil n0
  have pre0 : ∀ t, Steps p.tables e below (s₁.setTop (mkF m 0 #[.val (.ref a1)] [])) t → Steps p.tables e below (s₁.setTop (entryFrame m #[(.ref a1)] 1)) t := fun t k => castTop (ef_10 m a1) k
  have pre1 : ∀ t, Steps p.tables e below (s₁.setTop (mkF m 1 #[.val (.ref a1)] [(.ref a1)])) t → Steps p.tables e below (s₁.setTop (entryFrame m #[(.ref a1)] 1)) t := fun t kt => by
    refine pre0 t ?_
    refine XS.aloadN X0.here hx rfl (hb hby d10_0) rfl rfl ?_
    show Steps p.tables e below (s₁.setTop (mkF m 1 #[.val (.ref a1)] [(.ref a1)])) _
    exact kt
  obtain ⟨T2, X2, e2, st2⟩ := getF X0 hx hZ hown (host := "") (Or.inl (hw _ (mgE 64 rfl))) Via.refl e0 F_leftNanos_a1 (g := (mkF m 1 #[.val (.ref a1)] [(.ref a1)])) rfl rfl (hb hby d10_1)
  have pre3 : ∀ t, Steps p.tables e below (T2.setTop (mkF m 4 #[.val (.ref a1)] [(.long w_leftNanos_a1)])) t → Steps p.tables e below (s₁.setTop (entryFrame m #[(.ref a1)] 1)) t := fun t kt => pre1 t (st2 t kt)
  obtain ⟨fs, hr, hrun, hended, hW, hsame⟩ := X2.leave (v := some (.long w_leftNanos_a1)) (fun h => by rw [Bd.returns] at h; cases h)
  refine ⟨_, _, pre3 _ ?_, hrun, hended, _, _, rfl, ?_, ⟨_, rfl⟩, hW, hsame.mono (by decide) (by decide)⟩
  · exact retJ X2 hx Bd.returns (hb hby d10_4) hr
  · show Q10 Z a1 w_leftNanos_a1 h0 n0 _ T2.heap _
    rw [e2]
    exact ⟨by first | rfl | (simp only []), N0, rfl⟩
theorem d11_0 : decode prog_41_method_5_code 0 = .ok (.aload_n 0, 1) := by decide +kernel
theorem d11_1 : decode prog_41_method_5_code 1 = .ok (.dup, 1) := by decide +kernel
theorem d11_2 : decode prog_41_method_5_code 2 = .ok (.getfield 43, 3) := by decide +kernel
theorem d11_5 : decode prog_41_method_5_code 5 = .ok (.lload_n 1, 1) := by decide +kernel
theorem d11_6 : decode prog_41_method_5_code 6 = .ok (.lsub, 1) := by decide +kernel
theorem d11_7 : decode prog_41_method_5_code 7 = .ok (.putfield 43, 3) := by decide +kernel
theorem d11_10 : decode prog_41_method_5_code 10 = .ok (.aload_n 0, 1) := by decide +kernel
theorem d11_11 : decode prog_41_method_5_code 11 = .ok (.dup, 1) := by decide +kernel
theorem d11_12 : decode prog_41_method_5_code 12 = .ok (.getfield 46, 3) := by decide +kernel
theorem d11_15 : decode prog_41_method_5_code 15 = .ok (.lload_n 1, 1) := by decide +kernel
theorem d11_16 : decode prog_41_method_5_code 16 = .ok (.ladd, 1) := by decide +kernel
theorem d11_17 : decode prog_41_method_5_code 17 = .ok (.putfield 46, 3) := by decide +kernel
theorem d11_20 : decode prog_41_method_5_code 20 = .ok (.return_, 1) := by decide +kernel
theorem ef_11 (m : MethodId) (x0 : Addr) (x1 : Int64) : entryFrame m #[(.ref x0), (.long x1)] 3 = mkF m 0 #[.val (.ref x0), .val (.long x1), .second] [] := by first | (simp [entryFrame, mkF, argsToLocals, Value.category]; done) | rfl
def Q11 (Z : State) (a1 : Addr) (q2 : Int64) (w_mostAheadNanos_a1 : Int64) (w_bytesPerSecond_a1 : Int64) (w_leftNanos_a1 : Int64) (w_waitedNanos_a1 : Int64) (h0 : Heap) (n0 : Nat) (v : Option Value) (h : Heap) (L : List Loc) : Prop := v = none ∧ Fr n0 L ∧ Keep h0 h [a1] ∧ Exa Z h a1 "com/example/commonroom/commonroom/http/Patience" ∧ Fld Z h a1 "com/example/commonroom/commonroom/http/Patience" "bytesPerSecond" "J" (.long w_bytesPerSecond_a1) ∧ Fld Z h a1 "com/example/commonroom/commonroom/http/Patience" "leftNanos" "J" (.long (w_leftNanos_a1 - q2)) ∧ Fld Z h a1 "com/example/commonroom/commonroom/http/Patience" "mostAheadNanos" "J" (.long w_mostAheadNanos_a1) ∧ Fld Z h a1 "com/example/commonroom/commonroom/http/Patience" "waitedNanos" "J" (.long (w_waitedNanos_a1 + q2))
set_option maxRecDepth 65536 in
set_option maxHeartbeats 40000000 in
theorem rm11 (l : Launch) (Z : State) (a0 : Array Value) (hw : ∀ d ∈ tables_1, d.before a0 Z = true) (ws : List Jvm.Cond) (a1 : Addr) (q2 : Int64) (w_mostAheadNanos_a1 : Int64) (w_bytesPerSecond_a1 : Int64) (w_leftNanos_a1 : Int64) (w_waitedNanos_a1 : Int64) (h0 : Heap) (n0 : Nat) (Z0 : n0 ≤ h0.size) (F_mostAheadNanos_a1 : Fld Z h0 a1 "com/example/commonroom/commonroom/http/Patience" "mostAheadNanos" "J" (.long w_mostAheadNanos_a1)) (F_bytesPerSecond_a1 : Fld Z h0 a1 "com/example/commonroom/commonroom/http/Patience" "bytesPerSecond" "J" (.long w_bytesPerSecond_a1)) (F_leftNanos_a1 : Fld Z h0 a1 "com/example/commonroom/commonroom/http/Patience" "leftNanos" "J" (.long w_leftNanos_a1)) (E_a1 : Exa Z h0 a1 "com/example/commonroom/commonroom/http/Patience") (g_a1 : n0 ≤ a1) (F_waitedNanos_a1 : Fld Z h0 a1 "com/example/commonroom/commonroom/http/Patience" "waitedNanos" "J" (.long w_waitedNanos_a1)) :
    MetFree l (⟨"com/example/commonroom/commonroom/http/Patience", "waited", "(J)V"⟩ : MethodName) (head1 (Jvm.Cond.code (⟨"com/example/commonroom/commonroom/http/Patience", "waited", "(J)V"⟩ : MethodName) prog_41_method_5_code 3 none :: ws) ({ frames := 0, cells := 0, slots := 0, locals := 0 } : Room)) (fun a U => a = #[(.ref a1), (.long q2)] ∧ Z.Warmed39 U.vm ∧ U.heap = h0) (fun _ _ _ _ _ => True) (fun _ U o U' => ∃ v L, o = .returned v ∧ Q11 Z a1 q2 w_mostAheadNanos_a1 w_bytesPerSecond_a1 w_leftNanos_a1 w_waitedNanos_a1 h0 n0 v U'.heap L ∧ FrameEnd U o U' L ({ frames := 0, cells := 0, slots := 0, locals := 0 } : Room).cells ({ frames := 0, cells := 0, slots := 0, locals := 0 } : Room).slots) := by
  refine MetFree.of_bodySF (plainFor_of_name pn_com_example_commonroom_commonroom_http_Patience) hisR ?_
  intro p e s m args below meth c s₁ Bd hml0 hP hK
  obtain ⟨rfl, hZ, hh⟩ := hP
  have hx := Bd.exec
  have hby := Bd.bytes
  have hml : c.maxLocals = 3 := hml0
  have hown : s.vm.findClass "com/example/commonroom/commonroom/http/Patience" = some m.cls := findClass_of_methodNamed Bd.named
  have hnm := (name_of_methodNamed Bd.named Bd.method).1
  have X0 : Stand p l e ({ frames := 0, cells := 0, slots := 0, locals := 0 } : Room) s m #[(.ref a1), (.long q2)] below meth c s₁ [] 0 0 := Stand.of_body Bd
  have e0 : s₁.heap = h0 := by rw [← hh, Bd.state]; rfl
  have N0 := Fr.nil n0
  have pre0 : ∀ t, Steps p.tables e below (s₁.setTop (mkF m 0 #[.val (.ref a1), .val (.long q2), .second] [])) t → Steps p.tables e below (s₁.setTop (entryFrame m #[(.ref a1), (.long q2)] 3)) t := fun t k => castTop (ef_11 m a1 q2) k
  have pre1 : ∀ t, Steps p.tables e below (s₁.setTop (mkF m 2 #[.val (.ref a1), .val (.long q2), .second] [(.ref a1), (.ref a1)])) t → Steps p.tables e below (s₁.setTop (entryFrame m #[(.ref a1), (.long q2)] 3)) t := fun t kt => by
    refine pre0 t ?_
    refine XS.aloadN X0.here hx rfl (hb hby d11_0) rfl rfl ?_
    show Steps p.tables e below (s₁.setTop (mkF m 1 #[.val (.ref a1), .val (.long q2), .second] [(.ref a1)])) _
    refine XS.dup X0.here hx rfl (hb hby d11_1) rfl rfl ?_
    show Steps p.tables e below (s₁.setTop (mkF m 2 #[.val (.ref a1), .val (.long q2), .second] [(.ref a1), (.ref a1)])) _
    exact kt
  obtain ⟨T2, X2, e2, st2⟩ := getF X0 hx hZ hown (host := "") (Or.inl (hw _ (mgE 64 rfl))) Via.refl e0 F_leftNanos_a1 (g := (mkF m 2 #[.val (.ref a1), .val (.long q2), .second] [(.ref a1), (.ref a1)])) rfl rfl (hb hby d11_2)
  have pre3 : ∀ t, Steps p.tables e below (T2.setTop (mkF m 5 #[.val (.ref a1), .val (.long q2), .second] [(.long w_leftNanos_a1), (.ref a1)])) t → Steps p.tables e below (s₁.setTop (entryFrame m #[(.ref a1), (.long q2)] 3)) t := fun t kt => pre1 t (st2 t kt)
  have pre4 : ∀ t, Steps p.tables e below (T2.setTop (mkF m 7 #[.val (.ref a1), .val (.long q2), .second] [(.long (w_leftNanos_a1 - q2)), (.ref a1)])) t → Steps p.tables e below (s₁.setTop (entryFrame m #[(.ref a1), (.long q2)] 3)) t := fun t kt => by
    refine pre3 t ?_
    refine XS.lloadN X2.here hx rfl (hb hby d11_5) rfl ?_
    show Steps p.tables e below (T2.setTop (mkF m 6 #[.val (.ref a1), .val (.long q2), .second] [(.long q2), (.long w_leftNanos_a1), (.ref a1)])) _
    refine XS.lsub X2.here hx rfl (hb hby d11_6) rfl ?_
    show Steps p.tables e below (T2.setTop (mkF m 7 #[.val (.ref a1), .val (.long q2), .second] [(.long (w_leftNanos_a1 - q2)), (.ref a1)])) _
    exact kt
  obtain ⟨T5, h5, X5, e5, W5, st5⟩ := putF X2 hx hZ hown (host := "") (Or.inl (hw _ (mgE 64 rfl))) Via.refl e2 F_leftNanos_a1 E_a1 (Or.inl (hw _ (mgE 65 rfl))) (hw _ (mgE 1 rfl)) (ty := .long) (by decide) rfl rfl (g := (mkF m 7 #[.val (.ref a1), .val (.long q2), .second] [(.long (w_leftNanos_a1 - q2)), (.ref a1)])) rfl rfl (hb hby d11_7)
  have F6_5 := F_mostAheadNanos_a1.other W5 (Or.inr (slot_ne (Or.inr (hw _ (mgE 51 rfl))) (Or.inl (hw _ (mgE 65 rfl))) (by decide) (t := .long) (t' := .long) (by decide) (by decide)))
  have F7_5 := F_bytesPerSecond_a1.other W5 (Or.inr (slot_ne (Or.inr (hw _ (mgE 58 rfl))) (Or.inl (hw _ (mgE 65 rfl))) (by decide) (t := .long) (t' := .long) (by decide) (by decide)))
  have F9_5 := E_a1.wr W5
  have F10_5 := F_waitedNanos_a1.other W5 (Or.inr (slot_ne (Or.inl (hw _ (mgE 67 rfl))) (Or.inl (hw _ (mgE 65 rfl))) (by decide) (t := .long) (t' := .long) (by decide) (by decide)))
  have Fw5 := F_leftNanos_a1.same W5
  have K5 : Keep h0 h5 [a1] := (Keep.refl h0 [a1]).wr W5 (Or.inl (mgE 0 rfl))
  have pre11 : ∀ t, Steps p.tables e below (T5.setTop (mkF m 10 #[.val (.ref a1), .val (.long q2), .second] [])) t → Steps p.tables e below (s₁.setTop (entryFrame m #[(.ref a1), (.long q2)] 3)) t := fun t kt => pre4 t (st5 t kt)
  have N5 := Fr.snoc X5 N0 g_a1
  have pre12 : ∀ t, Steps p.tables e below (T5.setTop (mkF m 12 #[.val (.ref a1), .val (.long q2), .second] [(.ref a1), (.ref a1)])) t → Steps p.tables e below (s₁.setTop (entryFrame m #[(.ref a1), (.long q2)] 3)) t := fun t kt => by
    refine pre11 t ?_
    refine XS.aloadN X5.here hx rfl (hb hby d11_10) rfl rfl ?_
    show Steps p.tables e below (T5.setTop (mkF m 11 #[.val (.ref a1), .val (.long q2), .second] [(.ref a1)])) _
    refine XS.dup X5.here hx rfl (hb hby d11_11) rfl rfl ?_
    show Steps p.tables e below (T5.setTop (mkF m 12 #[.val (.ref a1), .val (.long q2), .second] [(.ref a1), (.ref a1)])) _
    exact kt
  obtain ⟨T13, X13, e13, st13⟩ := getF X5 hx hZ hown (host := "") (Or.inl (hw _ (mgE 66 rfl))) Via.refl e5 F10_5 (g := (mkF m 12 #[.val (.ref a1), .val (.long q2), .second] [(.ref a1), (.ref a1)])) rfl rfl (hb hby d11_12)
  have pre14 : ∀ t, Steps p.tables e below (T13.setTop (mkF m 15 #[.val (.ref a1), .val (.long q2), .second] [(.long w_waitedNanos_a1), (.ref a1)])) t → Steps p.tables e below (s₁.setTop (entryFrame m #[(.ref a1), (.long q2)] 3)) t := fun t kt => pre12 t (st13 t kt)
  have pre15 : ∀ t, Steps p.tables e below (T13.setTop (mkF m 17 #[.val (.ref a1), .val (.long q2), .second] [(.long (w_waitedNanos_a1 + q2)), (.ref a1)])) t → Steps p.tables e below (s₁.setTop (entryFrame m #[(.ref a1), (.long q2)] 3)) t := fun t kt => by
    refine pre14 t ?_
    refine XS.lloadN X13.here hx rfl (hb hby d11_15) rfl ?_
    show Steps p.tables e below (T13.setTop (mkF m 16 #[.val (.ref a1), .val (.long q2), .second] [(.long q2), (.long w_waitedNanos_a1), (.ref a1)])) _
    refine XS.ladd X13.here hx rfl (hb hby d11_16) rfl ?_
    show Steps p.tables e below (T13.setTop (mkF m 17 #[.val (.ref a1), .val (.long q2), .second] [(.long (w_waitedNanos_a1 + q2)), (.ref a1)])) _
    exact kt
  obtain ⟨T16, h16, X16, e16, W16, st16⟩ := putF X13 hx hZ hown (host := "") (Or.inl (hw _ (mgE 66 rfl))) Via.refl e13 F10_5 F9_5 (Or.inl (hw _ (mgE 67 rfl))) (hw _ (mgE 1 rfl)) (ty := .long) (by decide) rfl rfl (g := (mkF m 17 #[.val (.ref a1), .val (.long q2), .second] [(.long (w_waitedNanos_a1 + q2)), (.ref a1)])) rfl rfl (hb hby d11_17)
  have F17_16 := F6_5.other W16 (Or.inr (slot_ne (Or.inr (hw _ (mgE 51 rfl))) (Or.inl (hw _ (mgE 67 rfl))) (by decide) (t := .long) (t' := .long) (by decide) (by decide)))
  have F18_16 := F7_5.other W16 (Or.inr (slot_ne (Or.inr (hw _ (mgE 58 rfl))) (Or.inl (hw _ (mgE 67 rfl))) (by decide) (t := .long) (t' := .long) (by decide) (by decide)))
  have F19_16 := Fw5.other W16 (Or.inr (slot_ne (Or.inl (hw _ (mgE 65 rfl))) (Or.inl (hw _ (mgE 67 rfl))) (by decide) (t := .long) (t' := .long) (by decide) (by decide)))
  have F20_16 := F9_5.wr W16
  have Fw16 := F10_5.same W16
  have K16 : Keep h0 h16 [a1] := K5.wr W16 (Or.inl (mgE 0 rfl))
  have pre22 : ∀ t, Steps p.tables e below (T16.setTop (mkF m 20 #[.val (.ref a1), .val (.long q2), .second] [])) t → Steps p.tables e below (s₁.setTop (entryFrame m #[(.ref a1), (.long q2)] 3)) t := fun t kt => pre15 t (st16 t kt)
  have N16 := Fr.snoc X16 N5 g_a1
  obtain ⟨fs, hr, hrun, hended, hW, hsame⟩ := X16.leave (v := none) (fun _ => rfl)
  refine ⟨_, _, pre22 _ ?_, hrun, hended, _, _, rfl, ?_, ⟨_, rfl⟩, hW, hsame.mono (by decide) (by decide)⟩
  · exact X16.returnOut hx Bd.returns (hb hby d11_20) hr
  · show Q11 Z a1 q2 w_mostAheadNanos_a1 w_bytesPerSecond_a1 w_leftNanos_a1 w_waitedNanos_a1 h0 n0 _ T16.heap _
    rw [e16]
    exact ⟨rfl, N16, K16, F20_16, F18_16, F19_16, F17_16, Fw16⟩
theorem d13_0 : decode jdk_29_method_70_code 0 = .ok (.lload_n 0, 1) := by decide +kernel
theorem d13_1 : decode jdk_29_method_70_code 1 = .ok (.lload_n 2, 1) := by decide +kernel
theorem d13_2 : decode jdk_29_method_70_code 2 = .ok (.lcmp, 1) := by decide +kernel
theorem d13_3 : decode jdk_29_method_70_code 3 = .ok (.ifCond .gt 7, 3) := by decide +kernel
theorem d13_6 : decode jdk_29_method_70_code 6 = .ok (.lload_n 0, 1) := by decide +kernel
theorem d13_7 : decode jdk_29_method_70_code 7 = .ok (.goto 4, 3) := by decide +kernel
theorem d13_10 : decode jdk_29_method_70_code 10 = .ok (.lload_n 2, 1) := by decide +kernel
theorem d13_11 : decode jdk_29_method_70_code 11 = .ok (.lreturn, 1) := by decide +kernel
theorem ef_13 (m : MethodId) (x0 : Int64) (x1 : Int64) : entryFrame m #[(.long x0), (.long x1)] 4 = mkF m 0 #[.val (.long x0), .second, .val (.long x1), .second] [] := by first | (simp [entryFrame, mkF, argsToLocals, Value.category]; done) | rfl
def r13 (q1 : Int64) (q2 : Int64) : Int64 := (if (0 : Int32) < (lcmpW q1 q2) then q2 else q1)
def Q13 (Z : State) (q1 : Int64) (q2 : Int64) (h0 : Heap) (n0 : Nat) (v : Option Value) (h : Heap) (L : List Loc) : Prop := v = some (.long (r13 q1 q2)) ∧ Fr n0 L ∧ h = h0
set_option maxRecDepth 65536 in
set_option maxHeartbeats 40000000 in
theorem rm13 (l : Launch) (Z : State) (a0 : Array Value) (hw : ∀ d ∈ tables_1, d.before a0 Z = true) (ws : List Jvm.Cond) (q1 : Int64) (q2 : Int64) (h0 : Heap) (n0 : Nat) (Z0 : n0 ≤ h0.size)  :
    MetFree l (⟨"java/lang/Math", "min", "(JJ)J"⟩ : MethodName) (head1 (Jvm.Cond.code (⟨"java/lang/Math", "min", "(JJ)J"⟩ : MethodName) jdk_29_method_70_code 4 (some .long) :: ws) ({ frames := 0, cells := 0, slots := 0, locals := 0 } : Room)) (fun a U => a = #[(.long q1), (.long q2)] ∧ Z.Warmed39 U.vm ∧ U.heap = h0) (fun _ _ _ _ _ => True) (fun _ U o U' => ∃ v L, o = .returned v ∧ Q13 Z q1 q2 h0 n0 v U'.heap L ∧ FrameEnd U o U' L ({ frames := 0, cells := 0, slots := 0, locals := 0 } : Room).cells ({ frames := 0, cells := 0, slots := 0, locals := 0 } : Room).slots) := by
  refine MetFree.of_bodySF (Jvm.Free.JP.mathPlain rfl (by decide +kernel)) hisR ?_
  intro p e s m args below meth c s₁ Bd hml0 hP hK
  obtain ⟨rfl, hZ, hh⟩ := hP
  have hx := Bd.exec
  have hby := Bd.bytes
  have hml : c.maxLocals = 4 := hml0
  have hown : s.vm.findClass "java/lang/Math" = some m.cls := findClass_of_methodNamed Bd.named
  have hnm := (name_of_methodNamed Bd.named Bd.method).1
  have X0 : Stand p l e ({ frames := 0, cells := 0, slots := 0, locals := 0 } : Room) s m #[(.long q1), (.long q2)] below meth c s₁ [] 0 0 := Stand.of_body Bd
  have e0 : s₁.heap = h0 := by rw [← hh, Bd.state]; rfl
  have N0 := Fr.nil n0
  have pre0 : ∀ t, Steps p.tables e below (s₁.setTop (mkF m 0 #[.val (.long q1), .second, .val (.long q2), .second] [])) t → Steps p.tables e below (s₁.setTop (entryFrame m #[(.long q1), (.long q2)] 4)) t := fun t k => castTop (ef_13 m q1 q2) k
  by_cases hc3 : (0 : Int32) < (lcmpW q1 q2)
  · skip
    have pre1 : ∀ t, Steps p.tables e below (s₁.setTop (mkF m 11 #[.val (.long q1), .second, .val (.long q2), .second] [(.long q2)])) t → Steps p.tables e below (s₁.setTop (entryFrame m #[(.long q1), (.long q2)] 4)) t := fun t kt => by
      refine pre0 t ?_
      refine XS.lloadN X0.here hx rfl (hb hby d13_0) rfl ?_
      show Steps p.tables e below (s₁.setTop (mkF m 1 #[.val (.long q1), .second, .val (.long q2), .second] [(.long q1)])) _
      refine XS.lloadN X0.here hx rfl (hb hby d13_1) rfl ?_
      show Steps p.tables e below (s₁.setTop (mkF m 2 #[.val (.long q1), .second, .val (.long q2), .second] [(.long q2), (.long q1)])) _
      refine XS.lcmp X0.here hx rfl (hb hby d13_2) rfl ?_
      show Steps p.tables e below (s₁.setTop (mkF m 3 #[.val (.long q1), .second, .val (.long q2), .second] [(.int (lcmpW q1 q2))])) _
      refine XS.ifYes X0.here hx rfl (pc0 := 3) (pc' := 10) rfl (hb hby d13_3) rfl ((if0 _ _).trans (tlt hc3).2.2.1) (by decide) (by decide) ?_
      show Steps p.tables e below (s₁.setTop (mkF m 10 #[.val (.long q1), .second, .val (.long q2), .second] [])) _
      refine XS.lloadN X0.here hx rfl (hb hby d13_10) rfl ?_
      show Steps p.tables e below (s₁.setTop (mkF m 11 #[.val (.long q1), .second, .val (.long q2), .second] [(.long q2)])) _
      exact kt
    obtain ⟨fs, hr, hrun, hended, hW, hsame⟩ := X0.leave (v := some (.long q2)) (fun h => by rw [Bd.returns] at h; cases h)
    refine ⟨_, _, pre1 _ ?_, hrun, hended, _, _, rfl, ?_, ⟨_, rfl⟩, hW, hsame.mono (by decide) (by decide)⟩
    · exact retJ X0 hx Bd.returns (hb hby d13_11) hr
    · show Q13 Z q1 q2 h0 n0 _ s₁.heap _
      rw [e0]
      exact ⟨by first | rfl | (simp only [r13, if_pos hc3]), N0, rfl⟩
  · skip
    have pre2 : ∀ t, Steps p.tables e below (s₁.setTop (mkF m 11 #[.val (.long q1), .second, .val (.long q2), .second] [(.long q1)])) t → Steps p.tables e below (s₁.setTop (entryFrame m #[(.long q1), (.long q2)] 4)) t := fun t kt => by
      refine pre0 t ?_
      refine XS.lloadN X0.here hx rfl (hb hby d13_0) rfl ?_
      show Steps p.tables e below (s₁.setTop (mkF m 1 #[.val (.long q1), .second, .val (.long q2), .second] [(.long q1)])) _
      refine XS.lloadN X0.here hx rfl (hb hby d13_1) rfl ?_
      show Steps p.tables e below (s₁.setTop (mkF m 2 #[.val (.long q1), .second, .val (.long q2), .second] [(.long q2), (.long q1)])) _
      refine XS.lcmp X0.here hx rfl (hb hby d13_2) rfl ?_
      show Steps p.tables e below (s₁.setTop (mkF m 3 #[.val (.long q1), .second, .val (.long q2), .second] [(.int (lcmpW q1 q2))])) _
      refine XS.ifNo X0.here hx rfl (hb hby d13_3) rfl ((if0 _ _).trans (flt hc3).2.2.1) ?_
      show Steps p.tables e below (s₁.setTop (mkF m 6 #[.val (.long q1), .second, .val (.long q2), .second] [])) _
      refine XS.lloadN X0.here hx rfl (hb hby d13_6) rfl ?_
      show Steps p.tables e below (s₁.setTop (mkF m 7 #[.val (.long q1), .second, .val (.long q2), .second] [(.long q1)])) _
      refine XS.goto X0.here hx rfl (pc0 := 7) (pc' := 11) rfl (hb hby d13_7) (by decide) (by decide) ?_
      show Steps p.tables e below (s₁.setTop (mkF m 11 #[.val (.long q1), .second, .val (.long q2), .second] [(.long q1)])) _
      exact kt
    obtain ⟨fs, hr, hrun, hended, hW, hsame⟩ := X0.leave (v := some (.long q1)) (fun h => by rw [Bd.returns] at h; cases h)
    refine ⟨_, _, pre2 _ ?_, hrun, hended, _, _, rfl, ?_, ⟨_, rfl⟩, hW, hsame.mono (by decide) (by decide)⟩
    · exact retJ X0 hx Bd.returns (hb hby d13_11) hr
    · show Q13 Z q1 q2 h0 n0 _ s₁.heap _
      rw [e0]
      exact ⟨by first | rfl | (simp only [r13, if_neg hc3]), N0, rfl⟩
theorem d12_0 : decode prog_41_method_6_code 0 = .ok (.getstatic 61, 3) := by decide +kernel
theorem d12_3 : decode prog_41_method_6_code 3 = .ok (.lload_n 1, 1) := by decide +kernel
theorem d12_4 : decode prog_41_method_6_code 4 = .ok (.invokevirtual 19, 3) := by decide +kernel
theorem d12_7 : decode prog_41_method_6_code 7 = .ok (.aload_n 0, 1) := by decide +kernel
theorem d12_8 : decode prog_41_method_6_code 8 = .ok (.getfield 38, 3) := by decide +kernel
theorem d12_11 : decode prog_41_method_6_code 11 = .ok (.ldiv, 1) := by decide +kernel
theorem d12_12 : decode prog_41_method_6_code 12 = .ok (.ldc2_w 64, 3) := by decide +kernel
theorem d12_15 : decode prog_41_method_6_code 15 = .ok (.aload_n 0, 1) := by decide +kernel
theorem d12_16 : decode prog_41_method_6_code 16 = .ok (.getfield 46, 3) := by decide +kernel
theorem d12_19 : decode prog_41_method_6_code 19 = .ok (.lmul, 1) := by decide +kernel
theorem d12_20 : decode prog_41_method_6_code 20 = .ok (.invokestatic 66, 3) := by decide +kernel
theorem d12_23 : decode prog_41_method_6_code 23 = .ok (.lstore_n 3, 1) := by decide +kernel
theorem d12_24 : decode prog_41_method_6_code 24 = .ok (.aload_n 0, 1) := by decide +kernel
theorem d12_25 : decode prog_41_method_6_code 25 = .ok (.lconst 0, 1) := by decide +kernel
theorem d12_26 : decode prog_41_method_6_code 26 = .ok (.putfield 46, 3) := by decide +kernel
theorem d12_29 : decode prog_41_method_6_code 29 = .ok (.aload_n 0, 1) := by decide +kernel
theorem d12_30 : decode prog_41_method_6_code 30 = .ok (.aload_n 0, 1) := by decide +kernel
theorem d12_31 : decode prog_41_method_6_code 31 = .ok (.getfield 32, 3) := by decide +kernel
theorem d12_34 : decode prog_41_method_6_code 34 = .ok (.aload_n 0, 1) := by decide +kernel
theorem d12_35 : decode prog_41_method_6_code 35 = .ok (.getfield 43, 3) := by decide +kernel
theorem d12_38 : decode prog_41_method_6_code 38 = .ok (.lload_n 3, 1) := by decide +kernel
theorem d12_39 : decode prog_41_method_6_code 39 = .ok (.ladd, 1) := by decide +kernel
theorem d12_40 : decode prog_41_method_6_code 40 = .ok (.invokestatic 66, 3) := by decide +kernel
theorem d12_43 : decode prog_41_method_6_code 43 = .ok (.putfield 43, 3) := by decide +kernel
theorem d12_46 : decode prog_41_method_6_code 46 = .ok (.return_, 1) := by decide +kernel
theorem pd__JJ_J : parseMethodDescriptor "(JJ)J" = some ⟨[.long, .long], some .long⟩ := by decide +kernel
theorem ef_12 (m : MethodId) (x0 : Addr) (x1 : Int64) : entryFrame m #[(.ref x0), (.long x1)] 5 = mkF m 0 #[.val (.ref x0), .val (.long x1), .second, .unset, .unset] [] := by first | (simp [entryFrame, mkF, argsToLocals, Value.category]; done) | rfl
def Q12 (Z : State) (a1 : Addr) (q2 : Int64) (s_SECONDS : Addr) (w_bytesPerSecond_a1 : Int64) (w_waitedNanos_a1 : Int64) (w_mostAheadNanos_a1 : Int64) (w_leftNanos_a1 : Int64) (h0 : Heap) (n0 : Nat) (v : Option Value) (h : Heap) (L : List Loc) : Prop := v = none ∧ Fr n0 L ∧ Keep h0 h [a1] ∧ Exa Z h a1 "com/example/commonroom/commonroom/http/Patience" ∧ Fld Z h a1 "com/example/commonroom/commonroom/http/Patience" "bytesPerSecond" "J" (.long w_bytesPerSecond_a1) ∧ Fld Z h a1 "com/example/commonroom/commonroom/http/Patience" "leftNanos" "J" (.long (r13 w_mostAheadNanos_a1 (w_leftNanos_a1 + (r13 ((9223372036854775807 : Int64) / w_bytesPerSecond_a1) ((4 : Int64) * w_waitedNanos_a1))))) ∧ Fld Z h a1 "com/example/commonroom/commonroom/http/Patience" "mostAheadNanos" "J" (.long w_mostAheadNanos_a1) ∧ Fld Z h a1 "com/example/commonroom/commonroom/http/Patience" "waitedNanos" "J" (.long (0 : Int64))
set_option maxRecDepth 65536 in
set_option maxHeartbeats 40000000 in
theorem rm12 (l : Launch) (Z : State) (a0 : Array Value) (hw : ∀ d ∈ tables_1, d.before a0 Z = true) (ws : List Jvm.Cond) (a1 : Addr) (q2 : Int64) (s_SECONDS : Addr) (w_bytesPerSecond_a1 : Int64) (w_waitedNanos_a1 : Int64) (w_mostAheadNanos_a1 : Int64) (w_leftNanos_a1 : Int64) (h0 : Heap) (n0 : Nat) (Z0 : n0 ≤ h0.size) (S_SECONDS : Sta Z h0 "java/util/concurrent/TimeUnit" "SECONDS" "Ljava/util/concurrent/TimeUnit;" (.ref s_SECONDS)) (F_scale_s_SECONDS : Fld Z h0 s_SECONDS "java/util/concurrent/TimeUnit" "scale" "J" (.long (1000000000 : Int64))) (F_maxNanos_s_SECONDS : Fld Z h0 s_SECONDS "java/util/concurrent/TimeUnit" "maxNanos" "J" (.long (9223372036 : Int64))) (E_s_SECONDS : Exa Z h0 s_SECONDS "java/util/concurrent/TimeUnit") (F_bytesPerSecond_a1 : Fld Z h0 a1 "com/example/commonroom/commonroom/http/Patience" "bytesPerSecond" "J" (.long w_bytesPerSecond_a1)) (F_waitedNanos_a1 : Fld Z h0 a1 "com/example/commonroom/commonroom/http/Patience" "waitedNanos" "J" (.long w_waitedNanos_a1)) (E_a1 : Exa Z h0 a1 "com/example/commonroom/commonroom/http/Patience") (g_a1 : n0 ≤ a1) (ne_s_SECONDS_a1 : s_SECONDS ≠ a1) (F_mostAheadNanos_a1 : Fld Z h0 a1 "com/example/commonroom/commonroom/http/Patience" "mostAheadNanos" "J" (.long w_mostAheadNanos_a1)) (F_leftNanos_a1 : Fld Z h0 a1 "com/example/commonroom/commonroom/http/Patience" "leftNanos" "J" (.long w_leftNanos_a1)) (hM : (0 : Int32) < (lcmpW q2 (9223372036 : Int64))) (hZ0 : ¬ (w_bytesPerSecond_a1 = (0 : Int64))) :
    MetFree l (⟨"com/example/commonroom/commonroom/http/Patience", "moved", "(J)V"⟩ : MethodName) (head1 (Jvm.Cond.code (⟨"com/example/commonroom/commonroom/http/Patience", "moved", "(J)V"⟩ : MethodName) prog_41_method_6_code 5 none :: ws) ({ frames := 1, cells := 0, slots := 0, locals := 18 } : Room)) (fun a U => a = #[(.ref a1), (.long q2)] ∧ Z.Warmed39 U.vm ∧ U.heap = h0) (fun _ _ _ _ _ => True) (fun _ U o U' => ∃ v L, o = .returned v ∧ Q12 Z a1 q2 s_SECONDS w_bytesPerSecond_a1 w_waitedNanos_a1 w_mostAheadNanos_a1 w_leftNanos_a1 h0 n0 v U'.heap L ∧ FrameEnd U o U' L ({ frames := 1, cells := 0, slots := 0, locals := 18 } : Room).cells ({ frames := 1, cells := 0, slots := 0, locals := 18 } : Room).slots) := by
  refine MetFree.of_bodySF (plainFor_of_name pn_com_example_commonroom_commonroom_http_Patience) hisR ?_
  intro p e s m args below meth c s₁ Bd hml0 hP hK
  obtain ⟨rfl, hZ, hh⟩ := hP
  have hx := Bd.exec
  have hby := Bd.bytes
  have hml : c.maxLocals = 5 := hml0
  have hown : s.vm.findClass "com/example/commonroom/commonroom/http/Patience" = some m.cls := findClass_of_methodNamed Bd.named
  have hnm := (name_of_methodNamed Bd.named Bd.method).1
  have X0 : Stand p l e ({ frames := 1, cells := 0, slots := 0, locals := 18 } : Room) s m #[(.ref a1), (.long q2)] below meth c s₁ [] 0 0 := Stand.of_body Bd
  have e0 : s₁.heap = h0 := by rw [← hh, Bd.state]; rfl
  have N0 := Fr.nil n0
  have pre0 : ∀ t, Steps p.tables e below (s₁.setTop (mkF m 0 #[.val (.ref a1), .val (.long q2), .second, .unset, .unset] [])) t → Steps p.tables e below (s₁.setTop (entryFrame m #[(.ref a1), (.long q2)] 5)) t := fun t k => castTop (ef_12 m a1 q2) k
  obtain ⟨T1, X1, e1, st1⟩ := getS2 X0 hx hZ hown (host := "") (Or.inl (hw _ (mgE 85 rfl))) Via.refl e0 S_SECONDS (g := (mkF m 0 #[.val (.ref a1), .val (.long q2), .second, .unset, .unset] [])) rfl (hb hby d12_0)
  have pre2 : ∀ t, Steps p.tables e below (T1.setTop (mkF m 3 #[.val (.ref a1), .val (.long q2), .second, .unset, .unset] [(.ref s_SECONDS)])) t → Steps p.tables e below (s₁.setTop (entryFrame m #[(.ref a1), (.long q2)] 5)) t := fun t kt => pre0 t (st1 t kt)
  have pre3 : ∀ t, Steps p.tables e below (T1.setTop (mkF m 4 #[.val (.ref a1), .val (.long q2), .second, .unset, .unset] [(.long q2), (.ref s_SECONDS)])) t → Steps p.tables e below (s₁.setTop (entryFrame m #[(.ref a1), (.long q2)] 5)) t := fun t kt => by
    refine pre2 t ?_
    refine XS.lloadN X1.here hx rfl (hb hby d12_3) rfl ?_
    show Steps p.tables e below (T1.setTop (mkF m 4 #[.val (.ref a1), .val (.long q2), .second, .unset, .unset] [(.long q2), (.ref s_SECONDS)])) _
    exact kt
  obtain ⟨cq4, kq4, q4a, q4b, q4c⟩ := isOf hZ e1 E_s_SECONDS
  obtain ⟨_, _, ⟨T4, L4, k4, n4⟩, -, X4, ⟨Lc4, hQ4, l4, y4, z4⟩, st4⟩ := X1.virtualBack hx (y := (⟨"java/util/concurrent/TimeUnit", "toNanos", "(J)J"⟩ : MethodName)) (z := (⟨"java/util/concurrent/TimeUnit", "toNanos", "(J)J"⟩ : MethodName)) hown (mvT hZ (hw _ (mgE 34 rfl))) (mvT hZ (hw _ (mgE 35 rfl))) (notFace_of_selects (args := #[]) (mvT hZ (hw _ (mgE 37 rfl)))) (mvT hZ (hw _ (mgE 37 rfl))) (mvT hZ (hw _ (mgE 36 rfl))) (by decide) (backOf (W := 0) (rm6s l Z a0 hw [] s_SECONDS q2 h0 n0 Z0 F_scale_s_SECONDS F_maxNanos_s_SECONDS (hM)) hZ (hw _ (mgE 38 rfl)) (hw _ (mgE 28 rfl)) (by decide) (by decide)) q4a q4c (g := (mkF m 4 #[.val (.ref a1), .val (.long q2), .second, .unset, .unset] [(.long q2), (.ref s_SECONDS)])) rfl (by rw [hml]; rfl) (Steps.refl _) (argsL := [(.long q2)]) (rest := []) (lenOf pd__J_J rfl) rfl (by show 2 * 0 + _ ≤ _; exact Nat.le_of_eq rfl) (hb hby d12_4) (fun _ _ => ⟨rfl, e1, (by decide : 0 + 0 ≤ _), (by decide : 0 + 0 ≤ _)⟩)
  dsimp only [Pt.U, Pt.locs, Pt.cells, Pt.slots] at X4 l4 y4 z4 st4 hQ4
  subst l4 y4 z4
  obtain ⟨rfl, N4q, e4⟩ := hQ4
  have pre5 : ∀ t, Steps p.tables e below (T4.setTop (mkF m 7 #[.val (.ref a1), .val (.long q2), .second, .unset, .unset] [(.long (9223372036854775807 : Int64))])) t → Steps p.tables e below (s₁.setTop (entryFrame m #[(.ref a1), (.long q2)] 5)) t := fun t kt => pre3 t (st4.trans kt)
  have N4 := Fr.app N0 N4q
  have pre6 : ∀ t, Steps p.tables e below (T4.setTop (mkF m 8 #[.val (.ref a1), .val (.long q2), .second, .unset, .unset] [(.ref a1), (.long (9223372036854775807 : Int64))])) t → Steps p.tables e below (s₁.setTop (entryFrame m #[(.ref a1), (.long q2)] 5)) t := fun t kt => by
    refine pre5 t ?_
    refine XS.aloadN X4.here hx rfl (hb hby d12_7) rfl rfl ?_
    show Steps p.tables e below (T4.setTop (mkF m 8 #[.val (.ref a1), .val (.long q2), .second, .unset, .unset] [(.ref a1), (.long (9223372036854775807 : Int64))])) _
    exact kt
  obtain ⟨T7, X7, e7, st7⟩ := getF X4 hx hZ hown (host := "") (Or.inl (hw _ (mgE 57 rfl))) Via.refl e4 F_bytesPerSecond_a1 (g := (mkF m 8 #[.val (.ref a1), .val (.long q2), .second, .unset, .unset] [(.ref a1), (.long (9223372036854775807 : Int64))])) rfl rfl (hb hby d12_8)
  have pre8 : ∀ t, Steps p.tables e below (T7.setTop (mkF m 11 #[.val (.ref a1), .val (.long q2), .second, .unset, .unset] [(.long w_bytesPerSecond_a1), (.long (9223372036854775807 : Int64))])) t → Steps p.tables e below (s₁.setTop (entryFrame m #[(.ref a1), (.long q2)] 5)) t := fun t kt => pre6 t (st7 t kt)
  have pre9 : ∀ t, Steps p.tables e below (T7.setTop (mkF m 16 #[.val (.ref a1), .val (.long q2), .second, .unset, .unset] [(.ref a1), (.long (4 : Int64)), (.long ((9223372036854775807 : Int64) / w_bytesPerSecond_a1))])) t → Steps p.tables e below (s₁.setTop (entryFrame m #[(.ref a1), (.long q2)] 5)) t := fun t kt => by
    refine pre8 t ?_
    have hnz11 : ¬ (w_bytesPerSecond_a1 = (0 : Int64)) := hZ0
    refine XS.ldiv X7.here hx rfl (hb hby d12_11) rfl hnz11 ?_
    show Steps p.tables e below (T7.setTop (mkF m 12 #[.val (.ref a1), .val (.long q2), .second, .unset, .unset] [(.long ((9223372036854775807 : Int64) / w_bytesPerSecond_a1))])) _
    refine X7.ldc2Long hx hown (mvT hZ (hw _ (mgE 87 rfl))) (g := (mkF m 12 #[.val (.ref a1), .val (.long q2), .second, .unset, .unset] [(.long ((9223372036854775807 : Int64) / w_bytesPerSecond_a1))])) rfl (hb hby d12_12) _ ?_
    show Steps p.tables e below (T7.setTop (mkF m 15 #[.val (.ref a1), .val (.long q2), .second, .unset, .unset] [(.long (4 : Int64)), (.long ((9223372036854775807 : Int64) / w_bytesPerSecond_a1))])) _
    refine XS.aloadN X7.here hx rfl (hb hby d12_15) rfl rfl ?_
    show Steps p.tables e below (T7.setTop (mkF m 16 #[.val (.ref a1), .val (.long q2), .second, .unset, .unset] [(.ref a1), (.long (4 : Int64)), (.long ((9223372036854775807 : Int64) / w_bytesPerSecond_a1))])) _
    exact kt
  obtain ⟨T10, X10, e10, st10⟩ := getF X7 hx hZ hown (host := "") (Or.inl (hw _ (mgE 66 rfl))) Via.refl e7 F_waitedNanos_a1 (g := (mkF m 16 #[.val (.ref a1), .val (.long q2), .second, .unset, .unset] [(.ref a1), (.long (4 : Int64)), (.long ((9223372036854775807 : Int64) / w_bytesPerSecond_a1))])) rfl rfl (hb hby d12_16)
  have pre11 : ∀ t, Steps p.tables e below (T10.setTop (mkF m 19 #[.val (.ref a1), .val (.long q2), .second, .unset, .unset] [(.long w_waitedNanos_a1), (.long (4 : Int64)), (.long ((9223372036854775807 : Int64) / w_bytesPerSecond_a1))])) t → Steps p.tables e below (s₁.setTop (entryFrame m #[(.ref a1), (.long q2)] 5)) t := fun t kt => pre9 t (st10 t kt)
  have pre12 : ∀ t, Steps p.tables e below (T10.setTop (mkF m 20 #[.val (.ref a1), .val (.long q2), .second, .unset, .unset] [(.long ((4 : Int64) * w_waitedNanos_a1)), (.long ((9223372036854775807 : Int64) / w_bytesPerSecond_a1))])) t → Steps p.tables e below (s₁.setTop (entryFrame m #[(.ref a1), (.long q2)] 5)) t := fun t kt => by
    refine pre11 t ?_
    refine XS.lmul X10.here hx rfl (hb hby d12_19) rfl ?_
    show Steps p.tables e below (T10.setTop (mkF m 20 #[.val (.ref a1), .val (.long q2), .second, .unset, .unset] [(.long ((4 : Int64) * w_waitedNanos_a1)), (.long ((9223372036854775807 : Int64) / w_bytesPerSecond_a1))])) _
    exact kt
  obtain ⟨_, _, ⟨T13, L13, k13, n13⟩, -, X13, ⟨Lc13, hQ13, l13, y13, z13⟩, st13⟩ := Jvm.LawKit.callS X10 hx (y := (⟨"java/lang/Math", "min", "(JJ)J"⟩ : MethodName)) hown (mvT hZ (hw _ (mgE 88 rfl))) (mvT hZ (hw _ (mgE 89 rfl))) (mvT hZ (hw _ (mgE 90 rfl))) (mvT hZ (hw _ (mgE 91 rfl))) (by decide) (backOf (W := 0) (rm13 l Z a0 hw [] ((9223372036854775807 : Int64) / w_bytesPerSecond_a1) ((4 : Int64) * w_waitedNanos_a1) h0 n0 Z0 ) hZ (hw _ (mgE 91 rfl)) (hw _ (mgE 90 rfl)) (by decide) (by decide)) (g := (mkF m 20 #[.val (.ref a1), .val (.long q2), .second, .unset, .unset] [(.long ((4 : Int64) * w_waitedNanos_a1)), (.long ((9223372036854775807 : Int64) / w_bytesPerSecond_a1))])) rfl (by rw [hml]; rfl) (argsL := [(.long ((9223372036854775807 : Int64) / w_bytesPerSecond_a1)), (.long ((4 : Int64) * w_waitedNanos_a1))]) (rest := []) (lenOf pd__JJ_J rfl) rfl (by show 2 * 0 + _ ≤ _; exact Nat.le_of_eq rfl) (hb hby d12_20) (fun _ _ => ⟨rfl, e10, (by decide : 0 + 0 ≤ _), (by decide : 0 + 0 ≤ _)⟩)
  dsimp only [Pt.U, Pt.locs, Pt.cells, Pt.slots] at X13 l13 y13 z13 st13 hQ13
  subst l13 y13 z13
  obtain ⟨rfl, N13q, e13⟩ := hQ13
  have pre14 : ∀ t, Steps p.tables e below (T13.setTop (mkF m 23 #[.val (.ref a1), .val (.long q2), .second, .unset, .unset] [(.long (r13 ((9223372036854775807 : Int64) / w_bytesPerSecond_a1) ((4 : Int64) * w_waitedNanos_a1)))])) t → Steps p.tables e below (s₁.setTop (entryFrame m #[(.ref a1), (.long q2)] 5)) t := fun t kt => pre12 t (st13 t kt)
  have N13 := Fr.app N4 N13q
  have pre15 : ∀ t, Steps p.tables e below (T13.setTop (mkF m 26 #[.val (.ref a1), .val (.long q2), .second, .val (.long (r13 ((9223372036854775807 : Int64) / w_bytesPerSecond_a1) ((4 : Int64) * w_waitedNanos_a1))), .second] [(.long (0 : Int64)), (.ref a1)])) t → Steps p.tables e below (s₁.setTop (entryFrame m #[(.ref a1), (.long q2)] 5)) t := fun t kt => by
    refine pre14 t ?_
    refine XS.lstoreN X13.here hx rfl (hb hby d12_23) rfl (l' := #[.val (.ref a1), .val (.long q2), .second, .val (.long (r13 ((9223372036854775807 : Int64) / w_bytesPerSecond_a1) ((4 : Int64) * w_waitedNanos_a1))), .second]) rfl ?_
    show Steps p.tables e below (T13.setTop (mkF m 24 #[.val (.ref a1), .val (.long q2), .second, .val (.long (r13 ((9223372036854775807 : Int64) / w_bytesPerSecond_a1) ((4 : Int64) * w_waitedNanos_a1))), .second] [])) _
    refine XS.aloadN X13.here hx rfl (hb hby d12_24) rfl rfl ?_
    show Steps p.tables e below (T13.setTop (mkF m 25 #[.val (.ref a1), .val (.long q2), .second, .val (.long (r13 ((9223372036854775807 : Int64) / w_bytesPerSecond_a1) ((4 : Int64) * w_waitedNanos_a1))), .second] [(.ref a1)])) _
    refine XS.lconst X13.here hx rfl (hb hby d12_25) ?_
    show Steps p.tables e below (T13.setTop (mkF m 26 #[.val (.ref a1), .val (.long q2), .second, .val (.long (r13 ((9223372036854775807 : Int64) / w_bytesPerSecond_a1) ((4 : Int64) * w_waitedNanos_a1))), .second] [(.long (0 : Int64)), (.ref a1)])) _
    exact kt
  obtain ⟨T16, h16, X16, e16, W16, st16⟩ := putF X13 hx hZ hown (host := "") (Or.inl (hw _ (mgE 66 rfl))) Via.refl e13 F_waitedNanos_a1 E_a1 (Or.inl (hw _ (mgE 67 rfl))) (hw _ (mgE 1 rfl)) (ty := .long) (by decide) rfl rfl (g := (mkF m 26 #[.val (.ref a1), .val (.long q2), .second, .val (.long (r13 ((9223372036854775807 : Int64) / w_bytesPerSecond_a1) ((4 : Int64) * w_waitedNanos_a1))), .second] [(.long (0 : Int64)), (.ref a1)])) rfl rfl (hb hby d12_26)
  have F21_16 := F_bytesPerSecond_a1.other W16 (Or.inr (slot_ne (Or.inr (hw _ (mgE 58 rfl))) (Or.inl (hw _ (mgE 67 rfl))) (by decide) (t := .long) (t' := .long) (by decide) (by decide)))
  have F23_16 := E_a1.wr W16
  have F24_16 := F_mostAheadNanos_a1.other W16 (Or.inr (slot_ne (Or.inr (hw _ (mgE 51 rfl))) (Or.inl (hw _ (mgE 67 rfl))) (by decide) (t := .long) (t' := .long) (by decide) (by decide)))
  have F25_16 := F_leftNanos_a1.other W16 (Or.inr (slot_ne (Or.inl (hw _ (mgE 65 rfl))) (Or.inl (hw _ (mgE 67 rfl))) (by decide) (t := .long) (t' := .long) (by decide) (by decide)))
  have Fw16 := F_waitedNanos_a1.same W16
  have K16 : Keep h0 h16 [a1] := (Keep.refl h0 [a1]).wr W16 (Or.inl (mgE 0 rfl))
  have Z16 : n0 ≤ h16.size := Nat.le_trans Z0 (Keep.of_wr W16).1
  have pre26 : ∀ t, Steps p.tables e below (T16.setTop (mkF m 29 #[.val (.ref a1), .val (.long q2), .second, .val (.long (r13 ((9223372036854775807 : Int64) / w_bytesPerSecond_a1) ((4 : Int64) * w_waitedNanos_a1))), .second] [])) t → Steps p.tables e below (s₁.setTop (entryFrame m #[(.ref a1), (.long q2)] 5)) t := fun t kt => pre15 t (st16 t kt)
  have N16 := Fr.snoc X16 N13 g_a1
  have pre27 : ∀ t, Steps p.tables e below (T16.setTop (mkF m 31 #[.val (.ref a1), .val (.long q2), .second, .val (.long (r13 ((9223372036854775807 : Int64) / w_bytesPerSecond_a1) ((4 : Int64) * w_waitedNanos_a1))), .second] [(.ref a1), (.ref a1)])) t → Steps p.tables e below (s₁.setTop (entryFrame m #[(.ref a1), (.long q2)] 5)) t := fun t kt => by
    refine pre26 t ?_
    refine XS.aloadN X16.here hx rfl (hb hby d12_29) rfl rfl ?_
    show Steps p.tables e below (T16.setTop (mkF m 30 #[.val (.ref a1), .val (.long q2), .second, .val (.long (r13 ((9223372036854775807 : Int64) / w_bytesPerSecond_a1) ((4 : Int64) * w_waitedNanos_a1))), .second] [(.ref a1)])) _
    refine XS.aloadN X16.here hx rfl (hb hby d12_30) rfl rfl ?_
    show Steps p.tables e below (T16.setTop (mkF m 31 #[.val (.ref a1), .val (.long q2), .second, .val (.long (r13 ((9223372036854775807 : Int64) / w_bytesPerSecond_a1) ((4 : Int64) * w_waitedNanos_a1))), .second] [(.ref a1), (.ref a1)])) _
    exact kt
  obtain ⟨T28, X28, e28, st28⟩ := getF X16 hx hZ hown (host := "") (Or.inl (hw _ (mgE 50 rfl))) Via.refl e16 F24_16 (g := (mkF m 31 #[.val (.ref a1), .val (.long q2), .second, .val (.long (r13 ((9223372036854775807 : Int64) / w_bytesPerSecond_a1) ((4 : Int64) * w_waitedNanos_a1))), .second] [(.ref a1), (.ref a1)])) rfl rfl (hb hby d12_31)
  have pre29 : ∀ t, Steps p.tables e below (T28.setTop (mkF m 34 #[.val (.ref a1), .val (.long q2), .second, .val (.long (r13 ((9223372036854775807 : Int64) / w_bytesPerSecond_a1) ((4 : Int64) * w_waitedNanos_a1))), .second] [(.long w_mostAheadNanos_a1), (.ref a1)])) t → Steps p.tables e below (s₁.setTop (entryFrame m #[(.ref a1), (.long q2)] 5)) t := fun t kt => pre27 t (st28 t kt)
  have pre30 : ∀ t, Steps p.tables e below (T28.setTop (mkF m 35 #[.val (.ref a1), .val (.long q2), .second, .val (.long (r13 ((9223372036854775807 : Int64) / w_bytesPerSecond_a1) ((4 : Int64) * w_waitedNanos_a1))), .second] [(.ref a1), (.long w_mostAheadNanos_a1), (.ref a1)])) t → Steps p.tables e below (s₁.setTop (entryFrame m #[(.ref a1), (.long q2)] 5)) t := fun t kt => by
    refine pre29 t ?_
    refine XS.aloadN X28.here hx rfl (hb hby d12_34) rfl rfl ?_
    show Steps p.tables e below (T28.setTop (mkF m 35 #[.val (.ref a1), .val (.long q2), .second, .val (.long (r13 ((9223372036854775807 : Int64) / w_bytesPerSecond_a1) ((4 : Int64) * w_waitedNanos_a1))), .second] [(.ref a1), (.long w_mostAheadNanos_a1), (.ref a1)])) _
    exact kt
  obtain ⟨T31, X31, e31, st31⟩ := getF X28 hx hZ hown (host := "") (Or.inl (hw _ (mgE 64 rfl))) Via.refl e28 F25_16 (g := (mkF m 35 #[.val (.ref a1), .val (.long q2), .second, .val (.long (r13 ((9223372036854775807 : Int64) / w_bytesPerSecond_a1) ((4 : Int64) * w_waitedNanos_a1))), .second] [(.ref a1), (.long w_mostAheadNanos_a1), (.ref a1)])) rfl rfl (hb hby d12_35)
  have pre32 : ∀ t, Steps p.tables e below (T31.setTop (mkF m 38 #[.val (.ref a1), .val (.long q2), .second, .val (.long (r13 ((9223372036854775807 : Int64) / w_bytesPerSecond_a1) ((4 : Int64) * w_waitedNanos_a1))), .second] [(.long w_leftNanos_a1), (.long w_mostAheadNanos_a1), (.ref a1)])) t → Steps p.tables e below (s₁.setTop (entryFrame m #[(.ref a1), (.long q2)] 5)) t := fun t kt => pre30 t (st31 t kt)
  have pre33 : ∀ t, Steps p.tables e below (T31.setTop (mkF m 40 #[.val (.ref a1), .val (.long q2), .second, .val (.long (r13 ((9223372036854775807 : Int64) / w_bytesPerSecond_a1) ((4 : Int64) * w_waitedNanos_a1))), .second] [(.long (w_leftNanos_a1 + (r13 ((9223372036854775807 : Int64) / w_bytesPerSecond_a1) ((4 : Int64) * w_waitedNanos_a1)))), (.long w_mostAheadNanos_a1), (.ref a1)])) t → Steps p.tables e below (s₁.setTop (entryFrame m #[(.ref a1), (.long q2)] 5)) t := fun t kt => by
    refine pre32 t ?_
    refine XS.lloadN X31.here hx rfl (hb hby d12_38) rfl ?_
    show Steps p.tables e below (T31.setTop (mkF m 39 #[.val (.ref a1), .val (.long q2), .second, .val (.long (r13 ((9223372036854775807 : Int64) / w_bytesPerSecond_a1) ((4 : Int64) * w_waitedNanos_a1))), .second] [(.long (r13 ((9223372036854775807 : Int64) / w_bytesPerSecond_a1) ((4 : Int64) * w_waitedNanos_a1))), (.long w_leftNanos_a1), (.long w_mostAheadNanos_a1), (.ref a1)])) _
    refine XS.ladd X31.here hx rfl (hb hby d12_39) rfl ?_
    show Steps p.tables e below (T31.setTop (mkF m 40 #[.val (.ref a1), .val (.long q2), .second, .val (.long (r13 ((9223372036854775807 : Int64) / w_bytesPerSecond_a1) ((4 : Int64) * w_waitedNanos_a1))), .second] [(.long (w_leftNanos_a1 + (r13 ((9223372036854775807 : Int64) / w_bytesPerSecond_a1) ((4 : Int64) * w_waitedNanos_a1)))), (.long w_mostAheadNanos_a1), (.ref a1)])) _
    exact kt
  obtain ⟨_, _, ⟨T34, L34, k34, n34⟩, -, X34, ⟨Lc34, hQ34, l34, y34, z34⟩, st34⟩ := Jvm.LawKit.callS X31 hx (y := (⟨"java/lang/Math", "min", "(JJ)J"⟩ : MethodName)) hown (mvT hZ (hw _ (mgE 88 rfl))) (mvT hZ (hw _ (mgE 89 rfl))) (mvT hZ (hw _ (mgE 90 rfl))) (mvT hZ (hw _ (mgE 91 rfl))) (by decide) (backOf (W := 1) (rm13 l Z a0 hw [] w_mostAheadNanos_a1 (w_leftNanos_a1 + (r13 ((9223372036854775807 : Int64) / w_bytesPerSecond_a1) ((4 : Int64) * w_waitedNanos_a1))) h16 n0 Z16 ) hZ (hw _ (mgE 91 rfl)) (hw _ (mgE 90 rfl)) (by decide) (by decide)) (g := (mkF m 40 #[.val (.ref a1), .val (.long q2), .second, .val (.long (r13 ((9223372036854775807 : Int64) / w_bytesPerSecond_a1) ((4 : Int64) * w_waitedNanos_a1))), .second] [(.long (w_leftNanos_a1 + (r13 ((9223372036854775807 : Int64) / w_bytesPerSecond_a1) ((4 : Int64) * w_waitedNanos_a1)))), (.long w_mostAheadNanos_a1), (.ref a1)])) rfl (by rw [hml]; rfl) (argsL := [(.long w_mostAheadNanos_a1), (.long (w_leftNanos_a1 + (r13 ((9223372036854775807 : Int64) / w_bytesPerSecond_a1) ((4 : Int64) * w_waitedNanos_a1))))]) (rest := [(.ref a1)]) (lenOf pd__JJ_J rfl) rfl (by show 2 * 0 + _ ≤ _; exact Nat.le_of_eq rfl) (hb hby d12_40) (fun _ _ => ⟨rfl, e31, (by decide : 0 + 0 ≤ _), (by decide : 0 + 0 ≤ _)⟩)
  dsimp only [Pt.U, Pt.locs, Pt.cells, Pt.slots] at X34 l34 y34 z34 st34 hQ34
  subst l34 y34 z34
  obtain ⟨rfl, N34q, e34⟩ := hQ34
  have pre35 : ∀ t, Steps p.tables e below (T34.setTop (mkF m 43 #[.val (.ref a1), .val (.long q2), .second, .val (.long (r13 ((9223372036854775807 : Int64) / w_bytesPerSecond_a1) ((4 : Int64) * w_waitedNanos_a1))), .second] [(.long (r13 w_mostAheadNanos_a1 (w_leftNanos_a1 + (r13 ((9223372036854775807 : Int64) / w_bytesPerSecond_a1) ((4 : Int64) * w_waitedNanos_a1))))), (.ref a1)])) t → Steps p.tables e below (s₁.setTop (entryFrame m #[(.ref a1), (.long q2)] 5)) t := fun t kt => pre33 t (st34 t kt)
  have N34 := Fr.app N16 N34q
  obtain ⟨T36, h36, X36, e36, W36, st36⟩ := putF X34 hx hZ hown (host := "") (Or.inl (hw _ (mgE 64 rfl))) Via.refl e34 F25_16 F23_16 (Or.inl (hw _ (mgE 65 rfl))) (hw _ (mgE 1 rfl)) (ty := .long) (by decide) rfl rfl (g := (mkF m 43 #[.val (.ref a1), .val (.long q2), .second, .val (.long (r13 ((9223372036854775807 : Int64) / w_bytesPerSecond_a1) ((4 : Int64) * w_waitedNanos_a1))), .second] [(.long (r13 w_mostAheadNanos_a1 (w_leftNanos_a1 + (r13 ((9223372036854775807 : Int64) / w_bytesPerSecond_a1) ((4 : Int64) * w_waitedNanos_a1))))), (.ref a1)])) rfl rfl (hb hby d12_43)
  have F41_36 := F21_16.other W36 (Or.inr (slot_ne (Or.inr (hw _ (mgE 58 rfl))) (Or.inl (hw _ (mgE 65 rfl))) (by decide) (t := .long) (t' := .long) (by decide) (by decide)))
  have F42_36 := Fw16.other W36 (Or.inr (slot_ne (Or.inl (hw _ (mgE 67 rfl))) (Or.inl (hw _ (mgE 65 rfl))) (by decide) (t := .long) (t' := .long) (by decide) (by decide)))
  have F43_36 := F23_16.wr W36
  have F44_36 := F24_16.other W36 (Or.inr (slot_ne (Or.inr (hw _ (mgE 51 rfl))) (Or.inl (hw _ (mgE 65 rfl))) (by decide) (t := .long) (t' := .long) (by decide) (by decide)))
  have Fw36 := F25_16.same W36
  have K36 : Keep h0 h36 [a1] := K16.wr W36 (Or.inl (mgE 0 rfl))
  have pre46 : ∀ t, Steps p.tables e below (T36.setTop (mkF m 46 #[.val (.ref a1), .val (.long q2), .second, .val (.long (r13 ((9223372036854775807 : Int64) / w_bytesPerSecond_a1) ((4 : Int64) * w_waitedNanos_a1))), .second] [])) t → Steps p.tables e below (s₁.setTop (entryFrame m #[(.ref a1), (.long q2)] 5)) t := fun t kt => pre35 t (st36 t kt)
  have N36 := Fr.snoc X36 N34 g_a1
  obtain ⟨fs, hr, hrun, hended, hW, hsame⟩ := X36.leave (v := none) (fun _ => rfl)
  refine ⟨_, _, pre46 _ ?_, hrun, hended, _, _, rfl, ?_, ⟨_, rfl⟩, hW, hsame.mono (by decide) (by decide)⟩
  · exact X36.returnOut hx Bd.returns (hb hby d12_46) hr
  · show Q12 Z a1 q2 s_SECONDS w_bytesPerSecond_a1 w_waitedNanos_a1 w_mostAheadNanos_a1 w_leftNanos_a1 h0 n0 _ T36.heap _
    rw [e36]
    exact ⟨rfl, N36, K36, F43_36, F41_36, Fw36, F44_36, F42_36⟩

theorem own_minM (x : Int64) : r13 ((9223372036854775807 : Int64) / ((1 : Int32).toInt64)) x = x := by
  have e : (9223372036854775807 : Int64) / ((1 : Int32).toInt64) = (9223372036854775807 : Int64) := by decide
  rw [e]
  unfold r13
  by_cases h : (0 : Int32) < lcmpW (9223372036854775807 : Int64) x
  · rw [if_pos h]
  · rw [if_neg h]
    have h2 := mt (lw_gt (9223372036854775807 : Int64) x).mpr h
    rw [Int64.lt_iff_toInt_lt, show (9223372036854775807 : Int64).toInt = 9223372036854775807 from by decide] at h2
    have r := rng64 x
    exact Int64.toInt_inj.mp (by rw [show (9223372036854775807 : Int64).toInt = 9223372036854775807 from by decide]; omega)

theorem pn_com_example_commonroom_commonroom_http_PatienceWaitedPinLaw : plainName "com/example/commonroom/commonroom/http/PatienceWaitedPinLaw" = true := by first | (simp [plainName, overriddenIn]; done) | decide +kernel
theorem pd__III_V : parseMethodDescriptor "(III)V" = some ⟨[.int, .int, .int], none⟩ := by decide +kernel
theorem pd__Lcom_example_commonroom_commonroom_http_Limits_Pace__V : parseMethodDescriptor "(Lcom/example/commonroom/commonroom/http/Limits$Pace;)V" = some ⟨[(.object "com/example/commonroom/commonroom/http/Limits$Pace")], none⟩ := by decide +kernel
theorem pd___J : parseMethodDescriptor "()J" = some ⟨[], some .long⟩ := by decide +kernel
theorem pd__J_V : parseMethodDescriptor "(J)V" = some ⟨[.long], none⟩ := by decide +kernel
theorem ef_0 (m : MethodId) (x0 : Int32) (x1 : Int32) (x2 : Int64) (x3 : Int64) : entryFrame m #[(.int x0), (.int x1), (.long x2), (.long x3)] maxLocals = mkF m 0 #[.val (.int x0), .val (.int x1), .val (.long x2), .second, .val (.long x3), .second, .unset, .unset, .unset, .unset, .unset, .unset, .unset, .unset, .unset] [] := by first | (simp [entryFrame, mkF, argsToLocals, Value.category, maxLocals]; done) | rfl
def Q0 (Z : State) (p1 : Int32) (p2 : Int32) (q3 : Int64) (q4 : Int64) (s_MILLISECONDS : Addr) (s_SECONDS : Addr) (h0 : Heap) (n0 : Nat) (v : Option Value) (h : Heap) (L : List Loc) : Prop := v = some (.int 1) ∧ Fr n0 L
set_option maxRecDepth 65536 in
set_option maxHeartbeats 40000000 in
theorem rm0 (l : Launch) (Z : State) (a0 : Array Value) (hw : ∀ d ∈ tables_1, d.before a0 Z = true) (ws : List Jvm.Cond) (p1 : Int32) (p2 : Int32) (q3 : Int64) (q4 : Int64) (s_MILLISECONDS : Addr) (s_SECONDS : Addr) (h0 : Heap) (n0 : Nat) (Z0 : n0 ≤ h0.size) (S_MILLISECONDS : Sta Z h0 "java/util/concurrent/TimeUnit" "MILLISECONDS" "Ljava/util/concurrent/TimeUnit;" (.ref s_MILLISECONDS)) (F_scale_s_MILLISECONDS : Fld Z h0 s_MILLISECONDS "java/util/concurrent/TimeUnit" "scale" "J" (.long (1000000 : Int64))) (F_maxNanos_s_MILLISECONDS : Fld Z h0 s_MILLISECONDS "java/util/concurrent/TimeUnit" "maxNanos" "J" (.long (9223372036854 : Int64))) (E_s_MILLISECONDS : Exa Z h0 s_MILLISECONDS "java/util/concurrent/TimeUnit") (S_SECONDS : Sta Z h0 "java/util/concurrent/TimeUnit" "SECONDS" "Ljava/util/concurrent/TimeUnit;" (.ref s_SECONDS)) (F_scale_s_SECONDS : Fld Z h0 s_SECONDS "java/util/concurrent/TimeUnit" "scale" "J" (.long (1000000000 : Int64))) (F_maxNanos_s_SECONDS : Fld Z h0 s_SECONDS "java/util/concurrent/TimeUnit" "maxNanos" "J" (.long (9223372036 : Int64))) (E_s_SECONDS : Exa Z h0 s_SECONDS "java/util/concurrent/TimeUnit") :
    MetFree l x (head1 (Jvm.Cond.code x code maxLocals ret :: ws) room_1) (fun a U => a = #[(.int p1), (.int p2), (.long q3), (.long q4)] ∧ Z.Warmed39 U.vm ∧ U.heap = h0) (fun _ _ _ _ _ => True) (fun _ U o U' => ∃ v L, o = .returned v ∧ Q0 Z p1 p2 q3 q4 s_MILLISECONDS s_SECONDS h0 n0 v U'.heap L ∧ FrameEnd U o U' L room_1.cells room_1.slots) := by
  refine MetFree.of_bodySF (plainFor_of_name pn_com_example_commonroom_commonroom_http_PatienceWaitedPinLaw) hisR ?_
  intro p e s m args below meth c s₁ Bd hml0 hP hK
  obtain ⟨rfl, hZ, hh⟩ := hP
  have hx := Bd.exec
  have hby := Bd.bytes
  have hml : c.maxLocals = 15 := hml0
  have hown : s.vm.findClass "com/example/commonroom/commonroom/http/PatienceWaitedPinLaw" = some m.cls := findClass_of_methodNamed Bd.named
  have hnm := (name_of_methodNamed Bd.named Bd.method).1
  have X0 : Stand p l e room_1 s m #[(.int p1), (.int p2), (.long q3), (.long q4)] below meth c s₁ [] 0 0 := Stand.of_body Bd
  have e0 : s₁.heap = h0 := by rw [← hh, Bd.state]; rfl
  have N0 := Fr.nil n0
  have pre0 : ∀ t, Steps p.tables e below (s₁.setTop (mkF m 0 #[.val (.int p1), .val (.int p2), .val (.long q3), .second, .val (.long q4), .second, .unset, .unset, .unset, .unset, .unset, .unset, .unset, .unset, .unset] [])) t → Steps p.tables e below (s₁.setTop (entryFrame m #[(.int p1), (.int p2), (.long q3), (.long q4)] maxLocals)) t := fun t k => castTop (ef_0 m p1 p2 q3 q4) k
  obtain ⟨T1, h1, X1, e1, E1, A1, D1, -, st1⟩ := newO X0 hx hZ hown (hw _ (mgE 0 rfl)) (hw _ (mgE 1 rfl)) (hw _ (mgE 2 rfl)) e0 (g := (mkF m 0 #[.val (.int p1), .val (.int p2), .val (.long q3), .second, .val (.long q4), .second, .unset, .unset, .unset, .unset, .unset, .unset, .unset, .unset, .unset] [])) rfl (hb hby at_0) (by decide) (by decide)
  obtain ⟨b1, g1⟩ : ∃ z, z = h0.size := ⟨_, rfl⟩
  rw [← g1] at A1 D1 st1
  have ne_s_MILLISECONDS_b1 : s_MILLISECONDS ≠ b1 := Nat.ne_of_lt (Nat.lt_of_lt_of_le F_scale_s_MILLISECONDS.lt (Nat.le_of_eq g1.symm))
  have ne_s_SECONDS_b1 : s_SECONDS ≠ b1 := Nat.ne_of_lt (Nat.lt_of_lt_of_le F_scale_s_SECONDS.lt (Nat.le_of_eq g1.symm))
  have g_b1 : n0 ≤ b1 := Nat.le_trans Z0 (Nat.le_of_eq g1.symm)
  have Z1 : n0 ≤ h1.size := Nat.le_trans Z0 E1.1
  have F2_1 := Sta.ext E1 S_MILLISECONDS
  have F3_1 := F_scale_s_MILLISECONDS.ext E1
  have F4_1 := F_maxNanos_s_MILLISECONDS.ext E1
  have F5_1 := E_s_MILLISECONDS.ext E1
  have F6_1 := Sta.ext E1 S_SECONDS
  have F7_1 := F_scale_s_SECONDS.ext E1
  have F8_1 := F_maxNanos_s_SECONDS.ext E1
  have F9_1 := E_s_SECONDS.ext E1
  have F_graceNanos_b1 : Fld Z h1 b1 "com/example/commonroom/commonroom/http/Patience" "graceNanos" "J" (.long (0 : Int64)) := D1 (Or.inr (hw _ (mgE 44 rfl))) (ty := .long) (by decide)
  have F_mostAheadNanos_b1 : Fld Z h1 b1 "com/example/commonroom/commonroom/http/Patience" "mostAheadNanos" "J" (.long (0 : Int64)) := D1 (Or.inr (hw _ (mgE 51 rfl))) (ty := .long) (by decide)
  have F_bytesPerSecond_b1 : Fld Z h1 b1 "com/example/commonroom/commonroom/http/Patience" "bytesPerSecond" "J" (.long (0 : Int64)) := D1 (Or.inr (hw _ (mgE 58 rfl))) (ty := .long) (by decide)
  have F_leftNanos_b1 : Fld Z h1 b1 "com/example/commonroom/commonroom/http/Patience" "leftNanos" "J" (.long (0 : Int64)) := D1 (Or.inl (hw _ (mgE 65 rfl))) (ty := .long) (by decide)
  have F_waitedNanos_b1 : Fld Z h1 b1 "com/example/commonroom/commonroom/http/Patience" "waitedNanos" "J" (.long (0 : Int64)) := D1 (Or.inl (hw _ (mgE 67 rfl))) (ty := .long) (by decide)
  have pre10 : ∀ t, Steps p.tables e below (T1.setTop (mkF m 3 #[.val (.int p1), .val (.int p2), .val (.long q3), .second, .val (.long q4), .second, .unset, .unset, .unset, .unset, .unset, .unset, .unset, .unset, .unset] [(.ref b1)])) t → Steps p.tables e below (s₁.setTop (entryFrame m #[(.int p1), (.int p2), (.long q3), (.long q4)] maxLocals)) t := fun t kt => pre0 t (st1 t kt)
  have pre11 : ∀ t, Steps p.tables e below (T1.setTop (mkF m 4 #[.val (.int p1), .val (.int p2), .val (.long q3), .second, .val (.long q4), .second, .unset, .unset, .unset, .unset, .unset, .unset, .unset, .unset, .unset] [(.ref b1), (.ref b1)])) t → Steps p.tables e below (s₁.setTop (entryFrame m #[(.int p1), (.int p2), (.long q3), (.long q4)] maxLocals)) t := fun t kt => by
    refine pre10 t ?_
    refine XS.dup X1.here hx rfl (hb hby at_3) rfl rfl ?_
    show Steps p.tables e below (T1.setTop (mkF m 4 #[.val (.int p1), .val (.int p2), .val (.long q3), .second, .val (.long q4), .second, .unset, .unset, .unset, .unset, .unset, .unset, .unset, .unset, .unset] [(.ref b1), (.ref b1)])) _
    exact kt
  obtain ⟨T12, h12, X12, e12, E12, A12, D12, -, st12⟩ := newO X1 hx hZ hown (hw _ (mgE 3 rfl)) (hw _ (mgE 4 rfl)) (hw _ (mgE 5 rfl)) e1 (g := (mkF m 4 #[.val (.int p1), .val (.int p2), .val (.long q3), .second, .val (.long q4), .second, .unset, .unset, .unset, .unset, .unset, .unset, .unset, .unset, .unset] [(.ref b1), (.ref b1)])) rfl (hb hby at_4) (by decide) (by decide)
  obtain ⟨b12, g12⟩ : ∃ z, z = h1.size := ⟨_, rfl⟩
  rw [← g12] at A12 D12 st12
  have ne_s_MILLISECONDS_b12 : s_MILLISECONDS ≠ b12 := Nat.ne_of_lt (Nat.lt_of_lt_of_le F3_1.lt (Nat.le_of_eq g12.symm))
  have ne_s_SECONDS_b12 : s_SECONDS ≠ b12 := Nat.ne_of_lt (Nat.lt_of_lt_of_le F7_1.lt (Nat.le_of_eq g12.symm))
  have ne_b1_b12 : b1 ≠ b12 := Nat.ne_of_lt (Nat.lt_of_lt_of_le A1.lt (Nat.le_of_eq g12.symm))
  have g_b12 : n0 ≤ b12 := Nat.le_trans Z1 (Nat.le_of_eq g12.symm)
  have Z12 : n0 ≤ h12.size := Nat.le_trans Z1 E12.1
  have F13_12 := Sta.ext E12 F2_1
  have F14_12 := F3_1.ext E12
  have F15_12 := F4_1.ext E12
  have F16_12 := F5_1.ext E12
  have F17_12 := Sta.ext E12 F6_1
  have F18_12 := F7_1.ext E12
  have F19_12 := F8_1.ext E12
  have F20_12 := F9_1.ext E12
  have F21_12 := A1.ext E12
  have F22_12 := F_graceNanos_b1.ext E12
  have F23_12 := F_mostAheadNanos_b1.ext E12
  have F24_12 := F_bytesPerSecond_b1.ext E12
  have F25_12 := F_leftNanos_b1.ext E12
  have F26_12 := F_waitedNanos_b1.ext E12
  have F_graceMillis_b12 : Fld Z h12 b12 "com/example/commonroom/commonroom/http/Limits$Pace" "graceMillis" "I" (.int (0 : Int32)) := D12 (Or.inr (hw _ (mgE 18 rfl))) (ty := .int) (by decide)
  have F_bytesPerSecond_b12 : Fld Z h12 b12 "com/example/commonroom/commonroom/http/Limits$Pace" "bytesPerSecond" "I" (.int (0 : Int32)) := D12 (Or.inr (hw _ (mgE 20 rfl))) (ty := .int) (by decide)
  have F_mostAheadMillis_b12 : Fld Z h12 b12 "com/example/commonroom/commonroom/http/Limits$Pace" "mostAheadMillis" "I" (.int (0 : Int32)) := D12 (Or.inr (hw _ (mgE 22 rfl))) (ty := .int) (by decide)
  have pre27 : ∀ t, Steps p.tables e below (T12.setTop (mkF m 7 #[.val (.int p1), .val (.int p2), .val (.long q3), .second, .val (.long q4), .second, .unset, .unset, .unset, .unset, .unset, .unset, .unset, .unset, .unset] [(.ref b12), (.ref b1), (.ref b1)])) t → Steps p.tables e below (s₁.setTop (entryFrame m #[(.int p1), (.int p2), (.long q3), (.long q4)] maxLocals)) t := fun t kt => pre11 t (st12 t kt)
  have pre28 : ∀ t, Steps p.tables e below (T12.setTop (mkF m 11 #[.val (.int p1), .val (.int p2), .val (.long q3), .second, .val (.long q4), .second, .unset, .unset, .unset, .unset, .unset, .unset, .unset, .unset, .unset] [(.int p2), (.int (1 : Int32)), (.int p1), (.ref b12), (.ref b12), (.ref b1), (.ref b1)])) t → Steps p.tables e below (s₁.setTop (entryFrame m #[(.int p1), (.int p2), (.long q3), (.long q4)] maxLocals)) t := fun t kt => by
    refine pre27 t ?_
    refine XS.dup X12.here hx rfl (hb hby at_7) rfl rfl ?_
    show Steps p.tables e below (T12.setTop (mkF m 8 #[.val (.int p1), .val (.int p2), .val (.long q3), .second, .val (.long q4), .second, .unset, .unset, .unset, .unset, .unset, .unset, .unset, .unset, .unset] [(.ref b12), (.ref b12), (.ref b1), (.ref b1)])) _
    refine XS.iloadN X12.here hx rfl (hb hby at_8) rfl ?_
    show Steps p.tables e below (T12.setTop (mkF m 9 #[.val (.int p1), .val (.int p2), .val (.long q3), .second, .val (.long q4), .second, .unset, .unset, .unset, .unset, .unset, .unset, .unset, .unset, .unset] [(.int p1), (.ref b12), (.ref b12), (.ref b1), (.ref b1)])) _
    refine XS.iconst X12.here hx rfl (hb hby at_9) ?_
    show Steps p.tables e below (T12.setTop (mkF m 10 #[.val (.int p1), .val (.int p2), .val (.long q3), .second, .val (.long q4), .second, .unset, .unset, .unset, .unset, .unset, .unset, .unset, .unset, .unset] [(.int (1 : Int32)), (.int p1), (.ref b12), (.ref b12), (.ref b1), (.ref b1)])) _
    refine XS.iloadN X12.here hx rfl (hb hby at_10) rfl ?_
    show Steps p.tables e below (T12.setTop (mkF m 11 #[.val (.int p1), .val (.int p2), .val (.long q3), .second, .val (.long q4), .second, .unset, .unset, .unset, .unset, .unset, .unset, .unset, .unset, .unset] [(.int p2), (.int (1 : Int32)), (.int p1), (.ref b12), (.ref b12), (.ref b1), (.ref b1)])) _
    exact kt
  obtain ⟨_, _, ⟨T29, L29, k29, n29⟩, -, X29, ⟨Lc29, hQ29, l29, y29, z29⟩, st29⟩ := X12.specialBack hx (y := (⟨"com/example/commonroom/commonroom/http/Limits$Pace", "<init>", "(III)V"⟩ : MethodName)) rfl hown (mvT hZ (hw _ (mgE 6 rfl))) (mvT hZ (hw _ (mgE 7 rfl))) (mvT hZ (hw _ (mgE 8 rfl))) (by decide) (backOf (W := 3) (rm1 l Z a0 hw [] b12 p1 (1 : Int32) p2 (.int (0 : Int32)) (.int (0 : Int32)) (.int (0 : Int32)) h12 n0 Z12 A12 F_graceMillis_b12 g_b12 F_bytesPerSecond_b12 F_mostAheadMillis_b12) hZ (hw _ (mgE 8 rfl)) (hw _ (mgE 5 rfl)) (by decide) (by decide)) (g := (mkF m 11 #[.val (.int p1), .val (.int p2), .val (.long q3), .second, .val (.long q4), .second, .unset, .unset, .unset, .unset, .unset, .unset, .unset, .unset, .unset] [(.int p2), (.int (1 : Int32)), (.int p1), (.ref b12), (.ref b12), (.ref b1), (.ref b1)])) rfl (by rw [hml]; rfl) (Steps.refl _) (a := b12) (argsL := [(.int p1), (.int (1 : Int32)), (.int p2)]) (rest := [(.ref b12), (.ref b1), (.ref b1)]) (lenOf pd__III_V rfl) rfl (by show 2 * 0 + _ ≤ _; exact Nat.le_of_eq rfl) (hb hby at_11) (fun _ _ => ⟨rfl, e12, (by decide : 2 + 0 ≤ _), (by decide : 8 + 0 ≤ _)⟩)
  dsimp only [Pt.U, Pt.locs, Pt.cells, Pt.slots] at X29 l29 y29 z29 st29 hQ29
  subst l29 y29 z29
  obtain ⟨rfl, N29q, K29, Q29_0, Q29_1, Q29_2, Q29_3⟩ := hQ29
  have F30_29 := own_stk F13_12 K29 (allS (own_nsE A12) all0)
  have F31_29 := F14_12.keep K29 (ninS ne_s_MILLISECONDS_b12 nin0)
  have F32_29 := F15_12.keep K29 (ninS ne_s_MILLISECONDS_b12 nin0)
  have F33_29 := F16_12.keep K29
  have F34_29 := own_stk F17_12 K29 (allS (own_nsE A12) all0)
  have F35_29 := F18_12.keep K29 (ninS ne_s_SECONDS_b12 nin0)
  have F36_29 := F19_12.keep K29 (ninS ne_s_SECONDS_b12 nin0)
  have F37_29 := F20_12.keep K29
  have F38_29 := F21_12.keep K29
  have F39_29 := F22_12.keep K29 (ninS ne_b1_b12 nin0)
  have F40_29 := F23_12.keep K29 (ninS ne_b1_b12 nin0)
  have F41_29 := F24_12.keep K29 (ninS ne_b1_b12 nin0)
  have F42_29 := F25_12.keep K29 (ninS ne_b1_b12 nin0)
  have F43_29 := F26_12.keep K29 (ninS ne_b1_b12 nin0)
  have Z29 : n0 ≤ T29.heap.size := Nat.le_trans Z12 K29.1
  have pre48 : ∀ t, Steps p.tables e below (T29.setTop (mkF m 14 #[.val (.int p1), .val (.int p2), .val (.long q3), .second, .val (.long q4), .second, .unset, .unset, .unset, .unset, .unset, .unset, .unset, .unset, .unset] [(.ref b12), (.ref b1), (.ref b1)])) t → Steps p.tables e below (s₁.setTop (entryFrame m #[(.int p1), (.int p2), (.long q3), (.long q4)] maxLocals)) t := fun t kt => pre28 t (st29.trans kt)
  have N29 := Fr.app N0 N29q
  obtain ⟨_, _, ⟨T49, L49, k49, n49⟩, -, X49, ⟨Lc49, hQ49, l49, y49, z49⟩, st49⟩ := X29.specialBack hx (y := (⟨"com/example/commonroom/commonroom/http/Patience", "<init>", "(Lcom/example/commonroom/commonroom/http/Limits$Pace;)V"⟩ : MethodName)) rfl hown (mvT hZ (hw _ (mgE 23 rfl))) (mvT hZ (hw _ (mgE 24 rfl))) (mvT hZ (hw _ (mgE 25 rfl))) (by decide) (backOf (W := 1) (rm4 l Z a0 hw [] b1 b12 s_MILLISECONDS p1 (.long (0 : Int64)) p2 (.long (0 : Int64)) (1 : Int32) (.long (0 : Int64)) (.long (0 : Int64)) (.long (0 : Int64)) T29.heap n0 Z29 F30_29 Q29_2 Q29_0 F31_29 F32_29 F33_29 F38_29 F39_29 g_b1 (Ne.symm ne_b1_b12) ne_s_MILLISECONDS_b1 Q29_3 F40_29 Q29_1 F41_29 F42_29 F43_29) hZ (hw _ (mgE 25 rfl)) (hw _ (mgE 2 rfl)) (by decide) (by decide)) (g := (mkF m 14 #[.val (.int p1), .val (.int p2), .val (.long q3), .second, .val (.long q4), .second, .unset, .unset, .unset, .unset, .unset, .unset, .unset, .unset, .unset] [(.ref b12), (.ref b1), (.ref b1)])) rfl (by rw [hml]; rfl) (Steps.refl _) (a := b1) (argsL := [(.ref b12)]) (rest := [(.ref b1)]) (lenOf pd__Lcom_example_commonroom_commonroom_http_Limits_Pace__V rfl) rfl (by show 2 * 0 + _ ≤ _; exact Nat.le_of_eq rfl) (hb hby at_14) (fun _ _ => ⟨rfl, rfl, (by decide : 2 + 0 ≤ _), (by decide : 8 + 0 ≤ _)⟩)
  dsimp only [Pt.U, Pt.locs, Pt.cells, Pt.slots] at X49 l49 y49 z49 st49 hQ49
  subst l49 y49 z49
  obtain ⟨rfl, N49q, K49, Q49_0, Q49_1, Q49_2, Q49_3, Q49_4, Q49_5⟩ := hQ49
  have F54_49 := own_stk F34_29 K49 (allS (own_nsE F38_29) all0)
  have F55_49 := F35_29.keep K49 (ninS ne_s_SECONDS_b1 nin0)
  have F56_49 := F36_29.keep K49 (ninS ne_s_SECONDS_b1 nin0)
  have F57_49 := F37_29.keep K49
  have Z49 : n0 ≤ T49.heap.size := Nat.le_trans Z29 K49.1
  have pre68 : ∀ t, Steps p.tables e below (T49.setTop (mkF m 17 #[.val (.int p1), .val (.int p2), .val (.long q3), .second, .val (.long q4), .second, .unset, .unset, .unset, .unset, .unset, .unset, .unset, .unset, .unset] [(.ref b1)])) t → Steps p.tables e below (s₁.setTop (entryFrame m #[(.int p1), (.int p2), (.long q3), (.long q4)] maxLocals)) t := fun t kt => pre48 t (st49.trans kt)
  have N49 := Fr.app N29 N49q
  have pre69 : ∀ t, Steps p.tables e below (T49.setTop (mkF m 29 #[.val (.int p1), .val (.int p2), .val (.long q3), .second, .val (.long q4), .second, .val (.ref b1), .val (.long ((p1.toInt64) * (1000000 : Int64))), .second, .unset, .unset, .unset, .unset, .unset, .unset] [(.ref b1)])) t → Steps p.tables e below (s₁.setTop (entryFrame m #[(.int p1), (.int p2), (.long q3), (.long q4)] maxLocals)) t := fun t kt => by
    refine pre68 t ?_
    refine XS.astore X49.here hx rfl (hb hby at_17) rfl rfl (l' := #[.val (.int p1), .val (.int p2), .val (.long q3), .second, .val (.long q4), .second, .val (.ref b1), .unset, .unset, .unset, .unset, .unset, .unset, .unset, .unset]) rfl ?_
    show Steps p.tables e below (T49.setTop (mkF m 19 #[.val (.int p1), .val (.int p2), .val (.long q3), .second, .val (.long q4), .second, .val (.ref b1), .unset, .unset, .unset, .unset, .unset, .unset, .unset, .unset] [])) _
    refine XS.iloadN X49.here hx rfl (hb hby at_19) rfl ?_
    show Steps p.tables e below (T49.setTop (mkF m 20 #[.val (.int p1), .val (.int p2), .val (.long q3), .second, .val (.long q4), .second, .val (.ref b1), .unset, .unset, .unset, .unset, .unset, .unset, .unset, .unset] [(.int p1)])) _
    refine XS.i2l X49.here hx rfl (hb hby at_20) rfl ?_
    show Steps p.tables e below (T49.setTop (mkF m 21 #[.val (.int p1), .val (.int p2), .val (.long q3), .second, .val (.long q4), .second, .val (.ref b1), .unset, .unset, .unset, .unset, .unset, .unset, .unset, .unset] [(.long (p1.toInt64))])) _
    refine X49.ldc2Long hx hown (mvT hZ (hw _ (mgE 68 rfl))) (g := (mkF m 21 #[.val (.int p1), .val (.int p2), .val (.long q3), .second, .val (.long q4), .second, .val (.ref b1), .unset, .unset, .unset, .unset, .unset, .unset, .unset, .unset] [(.long (p1.toInt64))])) rfl (hb hby at_21) _ ?_
    show Steps p.tables e below (T49.setTop (mkF m 24 #[.val (.int p1), .val (.int p2), .val (.long q3), .second, .val (.long q4), .second, .val (.ref b1), .unset, .unset, .unset, .unset, .unset, .unset, .unset, .unset] [(.long (1000000 : Int64)), (.long (p1.toInt64))])) _
    refine XS.lmul X49.here hx rfl (hb hby at_24) rfl ?_
    show Steps p.tables e below (T49.setTop (mkF m 25 #[.val (.int p1), .val (.int p2), .val (.long q3), .second, .val (.long q4), .second, .val (.ref b1), .unset, .unset, .unset, .unset, .unset, .unset, .unset, .unset] [(.long ((p1.toInt64) * (1000000 : Int64)))])) _
    refine XS.lstore X49.here hx rfl (hb hby at_25) rfl (l' := #[.val (.int p1), .val (.int p2), .val (.long q3), .second, .val (.long q4), .second, .val (.ref b1), .val (.long ((p1.toInt64) * (1000000 : Int64))), .second, .unset, .unset, .unset, .unset, .unset, .unset]) rfl ?_
    show Steps p.tables e below (T49.setTop (mkF m 27 #[.val (.int p1), .val (.int p2), .val (.long q3), .second, .val (.long q4), .second, .val (.ref b1), .val (.long ((p1.toInt64) * (1000000 : Int64))), .second, .unset, .unset, .unset, .unset, .unset, .unset] [])) _
    refine XS.aload X49.here hx rfl (hb hby at_27) rfl rfl ?_
    show Steps p.tables e below (T49.setTop (mkF m 29 #[.val (.int p1), .val (.int p2), .val (.long q3), .second, .val (.long q4), .second, .val (.ref b1), .val (.long ((p1.toInt64) * (1000000 : Int64))), .second, .unset, .unset, .unset, .unset, .unset, .unset] [(.ref b1)])) _
    exact kt
  obtain ⟨cq70, kq70, q70a, q70b, q70c⟩ := isOf hZ rfl Q49_0
  obtain ⟨_, _, ⟨T70, L70, k70, n70⟩, -, X70, ⟨Lc70, hQ70, l70, y70, z70⟩, st70⟩ := X49.virtualBack hx (y := (⟨"com/example/commonroom/commonroom/http/Patience", "leftNanos", "()J"⟩ : MethodName)) (z := (⟨"com/example/commonroom/commonroom/http/Patience", "leftNanos", "()J"⟩ : MethodName)) hown (mvT hZ (hw _ (mgE 69 rfl))) (mvT hZ (hw _ (mgE 70 rfl))) (notFace_of_selects (args := #[]) (mvT hZ (hw _ (mgE 72 rfl)))) (mvT hZ (hw _ (mgE 72 rfl))) (mvT hZ (hw _ (mgE 71 rfl))) (by decide) (backOf (W := 0) (rm10 l Z a0 hw [] b1 ((p1.toInt64) * (1000000 : Int64)) T49.heap n0 Z49 Q49_3) hZ (hw _ (mgE 73 rfl)) (hw _ (mgE 2 rfl)) (by decide) (by decide)) q70a q70c (g := (mkF m 29 #[.val (.int p1), .val (.int p2), .val (.long q3), .second, .val (.long q4), .second, .val (.ref b1), .val (.long ((p1.toInt64) * (1000000 : Int64))), .second, .unset, .unset, .unset, .unset, .unset, .unset] [(.ref b1)])) rfl (by rw [hml]; rfl) (Steps.refl _) (argsL := []) (rest := []) (lenOf pd___J rfl) rfl (by show 2 * 0 + _ ≤ _; exact Nat.le_of_eq rfl) (hb hby at_29) (fun _ _ => ⟨rfl, rfl, (by decide : 2 + 0 ≤ _), (by decide : 8 + 0 ≤ _)⟩)
  dsimp only [Pt.U, Pt.locs, Pt.cells, Pt.slots] at X70 l70 y70 z70 st70 hQ70
  subst l70 y70 z70
  obtain ⟨rfl, N70q, e70⟩ := hQ70
  have pre71 : ∀ t, Steps p.tables e below (T70.setTop (mkF m 32 #[.val (.int p1), .val (.int p2), .val (.long q3), .second, .val (.long q4), .second, .val (.ref b1), .val (.long ((p1.toInt64) * (1000000 : Int64))), .second, .unset, .unset, .unset, .unset, .unset, .unset] [(.long ((p1.toInt64) * (1000000 : Int64)))])) t → Steps p.tables e below (s₁.setTop (entryFrame m #[(.int p1), (.int p2), (.long q3), (.long q4)] maxLocals)) t := fun t kt => pre69 t (st70.trans kt)
  have N70 := Fr.app N49 N70q
  have hc35 : (lcmpW ((p1.toInt64) * (1000000 : Int64)) ((p1.toInt64) * (1000000 : Int64))) = (0 : Int32) := (lw_eq _ _).mpr rfl
  have pre72 : ∀ t, Steps p.tables e below (T70.setTop (mkF m 48 #[.val (.int p1), .val (.int p2), .val (.long q3), .second, .val (.long q4), .second, .val (.ref b1), .val (.long ((p1.toInt64) * (1000000 : Int64))), .second, .val (.int (1 : Int32)), .unset, .unset, .unset, .unset, .unset] [(.long q3), (.ref b1)])) t → Steps p.tables e below (s₁.setTop (entryFrame m #[(.int p1), (.int p2), (.long q3), (.long q4)] maxLocals)) t := fun t kt => by
    refine pre71 t ?_
    refine XS.lload X70.here hx rfl (hb hby at_32) rfl ?_
    show Steps p.tables e below (T70.setTop (mkF m 34 #[.val (.int p1), .val (.int p2), .val (.long q3), .second, .val (.long q4), .second, .val (.ref b1), .val (.long ((p1.toInt64) * (1000000 : Int64))), .second, .unset, .unset, .unset, .unset, .unset, .unset] [(.long ((p1.toInt64) * (1000000 : Int64))), (.long ((p1.toInt64) * (1000000 : Int64)))])) _
    refine XS.lcmp X70.here hx rfl (hb hby at_34) rfl ?_
    show Steps p.tables e below (T70.setTop (mkF m 35 #[.val (.int p1), .val (.int p2), .val (.long q3), .second, .val (.long q4), .second, .val (.ref b1), .val (.long ((p1.toInt64) * (1000000 : Int64))), .second, .unset, .unset, .unset, .unset, .unset, .unset] [(.int (lcmpW ((p1.toInt64) * (1000000 : Int64)) ((p1.toInt64) * (1000000 : Int64))))])) _
    refine XS.ifNo X70.here hx rfl (hb hby at_35) rfl ((if0 _ _).trans (teq hc35).2) ?_
    show Steps p.tables e below (T70.setTop (mkF m 38 #[.val (.int p1), .val (.int p2), .val (.long q3), .second, .val (.long q4), .second, .val (.ref b1), .val (.long ((p1.toInt64) * (1000000 : Int64))), .second, .unset, .unset, .unset, .unset, .unset, .unset] [])) _
    refine XS.iconst X70.here hx rfl (hb hby at_38) ?_
    show Steps p.tables e below (T70.setTop (mkF m 39 #[.val (.int p1), .val (.int p2), .val (.long q3), .second, .val (.long q4), .second, .val (.ref b1), .val (.long ((p1.toInt64) * (1000000 : Int64))), .second, .unset, .unset, .unset, .unset, .unset, .unset] [(.int (1 : Int32))])) _
    refine XS.goto X70.here hx rfl (pc0 := 39) (pc' := 43) rfl (hb hby at_39) (by decide) (by decide) ?_
    show Steps p.tables e below (T70.setTop (mkF m 43 #[.val (.int p1), .val (.int p2), .val (.long q3), .second, .val (.long q4), .second, .val (.ref b1), .val (.long ((p1.toInt64) * (1000000 : Int64))), .second, .unset, .unset, .unset, .unset, .unset, .unset] [(.int (1 : Int32))])) _
    refine XS.istore X70.here hx rfl (hb hby at_43) rfl (l' := #[.val (.int p1), .val (.int p2), .val (.long q3), .second, .val (.long q4), .second, .val (.ref b1), .val (.long ((p1.toInt64) * (1000000 : Int64))), .second, .val (.int (1 : Int32)), .unset, .unset, .unset, .unset, .unset]) rfl ?_
    show Steps p.tables e below (T70.setTop (mkF m 45 #[.val (.int p1), .val (.int p2), .val (.long q3), .second, .val (.long q4), .second, .val (.ref b1), .val (.long ((p1.toInt64) * (1000000 : Int64))), .second, .val (.int (1 : Int32)), .unset, .unset, .unset, .unset, .unset] [])) _
    refine XS.aload X70.here hx rfl (hb hby at_45) rfl rfl ?_
    show Steps p.tables e below (T70.setTop (mkF m 47 #[.val (.int p1), .val (.int p2), .val (.long q3), .second, .val (.long q4), .second, .val (.ref b1), .val (.long ((p1.toInt64) * (1000000 : Int64))), .second, .val (.int (1 : Int32)), .unset, .unset, .unset, .unset, .unset] [(.ref b1)])) _
    refine XS.lloadN X70.here hx rfl (hb hby at_47) rfl ?_
    show Steps p.tables e below (T70.setTop (mkF m 48 #[.val (.int p1), .val (.int p2), .val (.long q3), .second, .val (.long q4), .second, .val (.ref b1), .val (.long ((p1.toInt64) * (1000000 : Int64))), .second, .val (.int (1 : Int32)), .unset, .unset, .unset, .unset, .unset] [(.long q3), (.ref b1)])) _
    exact kt
  obtain ⟨cq73, kq73, q73a, q73b, q73c⟩ := isOf hZ e70 Q49_0
  obtain ⟨_, _, ⟨T73, L73, k73, n73⟩, -, X73, ⟨Lc73, hQ73, l73, y73, z73⟩, st73⟩ := X70.virtualBack hx (y := (⟨"com/example/commonroom/commonroom/http/Patience", "waited", "(J)V"⟩ : MethodName)) (z := (⟨"com/example/commonroom/commonroom/http/Patience", "waited", "(J)V"⟩ : MethodName)) hown (mvT hZ (hw _ (mgE 74 rfl))) (mvT hZ (hw _ (mgE 75 rfl))) (notFace_of_selects (args := #[]) (mvT hZ (hw _ (mgE 77 rfl)))) (mvT hZ (hw _ (mgE 77 rfl))) (mvT hZ (hw _ (mgE 76 rfl))) (by decide) (backOf (W := 0) (rm11 l Z a0 hw [] b1 q3 ((p2.toInt64) * (1000000 : Int64)) ((1 : Int32).toInt64) ((p1.toInt64) * (1000000 : Int64)) (0 : Int64) T49.heap n0 Z49 Q49_4 Q49_1 Q49_3 Q49_0 g_b1 Q49_5) hZ (hw _ (mgE 78 rfl)) (hw _ (mgE 2 rfl)) (by decide) (by decide)) q73a q73c (g := (mkF m 48 #[.val (.int p1), .val (.int p2), .val (.long q3), .second, .val (.long q4), .second, .val (.ref b1), .val (.long ((p1.toInt64) * (1000000 : Int64))), .second, .val (.int (1 : Int32)), .unset, .unset, .unset, .unset, .unset] [(.long q3), (.ref b1)])) rfl (by rw [hml]; rfl) (Steps.refl _) (argsL := [(.long q3)]) (rest := []) (lenOf pd__J_V rfl) rfl (by show 2 * 0 + _ ≤ _; exact Nat.le_of_eq rfl) (hb hby at_48) (fun _ _ => ⟨rfl, e70, (by decide : 2 + 0 ≤ _), (by decide : 8 + 0 ≤ _)⟩)
  dsimp only [Pt.U, Pt.locs, Pt.cells, Pt.slots] at X73 l73 y73 z73 st73 hQ73
  subst l73 y73 z73
  obtain ⟨rfl, N73q, K73, Q73_0, Q73_1, Q73_2, Q73_3, Q73_4⟩ := hQ73
  have F78_73 := own_stk F54_49 K73 (allS (own_nsE Q49_0) all0)
  have F79_73 := F55_49.keep K73 (ninS ne_s_SECONDS_b1 nin0)
  have F80_73 := F56_49.keep K73 (ninS ne_s_SECONDS_b1 nin0)
  have F81_73 := F57_49.keep K73
  have Z73 : n0 ≤ T73.heap.size := Nat.le_trans Z49 K73.1
  have pre92 : ∀ t, Steps p.tables e below (T73.setTop (mkF m 51 #[.val (.int p1), .val (.int p2), .val (.long q3), .second, .val (.long q4), .second, .val (.ref b1), .val (.long ((p1.toInt64) * (1000000 : Int64))), .second, .val (.int (1 : Int32)), .unset, .unset, .unset, .unset, .unset] [])) t → Steps p.tables e below (s₁.setTop (entryFrame m #[(.int p1), (.int p2), (.long q3), (.long q4)] maxLocals)) t := fun t kt => pre72 t (st73.trans kt)
  have N73 := Fr.app N70 N73q
  have pre93 : ∀ t, Steps p.tables e below (T73.setTop (mkF m 53 #[.val (.int p1), .val (.int p2), .val (.long q3), .second, .val (.long q4), .second, .val (.ref b1), .val (.long ((p1.toInt64) * (1000000 : Int64))), .second, .val (.int (1 : Int32)), .unset, .unset, .unset, .unset, .unset] [(.ref b1)])) t → Steps p.tables e below (s₁.setTop (entryFrame m #[(.int p1), (.int p2), (.long q3), (.long q4)] maxLocals)) t := fun t kt => by
    refine pre92 t ?_
    refine XS.aload X73.here hx rfl (hb hby at_51) rfl rfl ?_
    show Steps p.tables e below (T73.setTop (mkF m 53 #[.val (.int p1), .val (.int p2), .val (.long q3), .second, .val (.long q4), .second, .val (.ref b1), .val (.long ((p1.toInt64) * (1000000 : Int64))), .second, .val (.int (1 : Int32)), .unset, .unset, .unset, .unset, .unset] [(.ref b1)])) _
    exact kt
  obtain ⟨cq94, kq94, q94a, q94b, q94c⟩ := isOf hZ rfl Q73_0
  obtain ⟨_, _, ⟨T94, L94, k94, n94⟩, -, X94, ⟨Lc94, hQ94, l94, y94, z94⟩, st94⟩ := X73.virtualBack hx (y := (⟨"com/example/commonroom/commonroom/http/Patience", "leftNanos", "()J"⟩ : MethodName)) (z := (⟨"com/example/commonroom/commonroom/http/Patience", "leftNanos", "()J"⟩ : MethodName)) hown (mvT hZ (hw _ (mgE 69 rfl))) (mvT hZ (hw _ (mgE 70 rfl))) (notFace_of_selects (args := #[]) (mvT hZ (hw _ (mgE 72 rfl)))) (mvT hZ (hw _ (mgE 72 rfl))) (mvT hZ (hw _ (mgE 71 rfl))) (by decide) (backOf (W := 0) (rm10 l Z a0 hw [] b1 (((p1.toInt64) * (1000000 : Int64)) - q3) T73.heap n0 Z73 Q73_2) hZ (hw _ (mgE 73 rfl)) (hw _ (mgE 2 rfl)) (by decide) (by decide)) q94a q94c (g := (mkF m 53 #[.val (.int p1), .val (.int p2), .val (.long q3), .second, .val (.long q4), .second, .val (.ref b1), .val (.long ((p1.toInt64) * (1000000 : Int64))), .second, .val (.int (1 : Int32)), .unset, .unset, .unset, .unset, .unset] [(.ref b1)])) rfl (by rw [hml]; rfl) (Steps.refl _) (argsL := []) (rest := []) (lenOf pd___J rfl) rfl (by show 2 * 0 + _ ≤ _; exact Nat.le_of_eq rfl) (hb hby at_53) (fun _ _ => ⟨rfl, rfl, (by decide : 2 + 0 ≤ _), (by decide : 8 + 0 ≤ _)⟩)
  dsimp only [Pt.U, Pt.locs, Pt.cells, Pt.slots] at X94 l94 y94 z94 st94 hQ94
  subst l94 y94 z94
  obtain ⟨rfl, N94q, e94⟩ := hQ94
  have pre95 : ∀ t, Steps p.tables e below (T94.setTop (mkF m 56 #[.val (.int p1), .val (.int p2), .val (.long q3), .second, .val (.long q4), .second, .val (.ref b1), .val (.long ((p1.toInt64) * (1000000 : Int64))), .second, .val (.int (1 : Int32)), .unset, .unset, .unset, .unset, .unset] [(.long (((p1.toInt64) * (1000000 : Int64)) - q3))])) t → Steps p.tables e below (s₁.setTop (entryFrame m #[(.int p1), (.int p2), (.long q3), (.long q4)] maxLocals)) t := fun t kt => pre93 t (st94.trans kt)
  have N94 := Fr.app N73 N94q
  have hc61 : (lcmpW (((p1.toInt64) * (1000000 : Int64)) - q3) (((p1.toInt64) * (1000000 : Int64)) - q3)) = (0 : Int32) := (lw_eq _ _).mpr rfl
  have pre96 : ∀ t, Steps p.tables e below (T94.setTop (mkF m 75 #[.val (.int p1), .val (.int p2), .val (.long q3), .second, .val (.long q4), .second, .val (.ref b1), .val (.long ((p1.toInt64) * (1000000 : Int64))), .second, .val (.int (1 : Int32)), .val (.int (1 : Int32)), .unset, .unset, .unset, .unset] [(.long q4), (.ref b1)])) t → Steps p.tables e below (s₁.setTop (entryFrame m #[(.int p1), (.int p2), (.long q3), (.long q4)] maxLocals)) t := fun t kt => by
    refine pre95 t ?_
    refine XS.lload X94.here hx rfl (hb hby at_56) rfl ?_
    show Steps p.tables e below (T94.setTop (mkF m 58 #[.val (.int p1), .val (.int p2), .val (.long q3), .second, .val (.long q4), .second, .val (.ref b1), .val (.long ((p1.toInt64) * (1000000 : Int64))), .second, .val (.int (1 : Int32)), .unset, .unset, .unset, .unset, .unset] [(.long ((p1.toInt64) * (1000000 : Int64))), (.long (((p1.toInt64) * (1000000 : Int64)) - q3))])) _
    refine XS.lloadN X94.here hx rfl (hb hby at_58) rfl ?_
    show Steps p.tables e below (T94.setTop (mkF m 59 #[.val (.int p1), .val (.int p2), .val (.long q3), .second, .val (.long q4), .second, .val (.ref b1), .val (.long ((p1.toInt64) * (1000000 : Int64))), .second, .val (.int (1 : Int32)), .unset, .unset, .unset, .unset, .unset] [(.long q3), (.long ((p1.toInt64) * (1000000 : Int64))), (.long (((p1.toInt64) * (1000000 : Int64)) - q3))])) _
    refine XS.lsub X94.here hx rfl (hb hby at_59) rfl ?_
    show Steps p.tables e below (T94.setTop (mkF m 60 #[.val (.int p1), .val (.int p2), .val (.long q3), .second, .val (.long q4), .second, .val (.ref b1), .val (.long ((p1.toInt64) * (1000000 : Int64))), .second, .val (.int (1 : Int32)), .unset, .unset, .unset, .unset, .unset] [(.long (((p1.toInt64) * (1000000 : Int64)) - q3)), (.long (((p1.toInt64) * (1000000 : Int64)) - q3))])) _
    refine XS.lcmp X94.here hx rfl (hb hby at_60) rfl ?_
    show Steps p.tables e below (T94.setTop (mkF m 61 #[.val (.int p1), .val (.int p2), .val (.long q3), .second, .val (.long q4), .second, .val (.ref b1), .val (.long ((p1.toInt64) * (1000000 : Int64))), .second, .val (.int (1 : Int32)), .unset, .unset, .unset, .unset, .unset] [(.int (lcmpW (((p1.toInt64) * (1000000 : Int64)) - q3) (((p1.toInt64) * (1000000 : Int64)) - q3)))])) _
    refine XS.ifNo X94.here hx rfl (hb hby at_61) rfl ((if0 _ _).trans (teq hc61).2) ?_
    show Steps p.tables e below (T94.setTop (mkF m 64 #[.val (.int p1), .val (.int p2), .val (.long q3), .second, .val (.long q4), .second, .val (.ref b1), .val (.long ((p1.toInt64) * (1000000 : Int64))), .second, .val (.int (1 : Int32)), .unset, .unset, .unset, .unset, .unset] [])) _
    refine XS.iconst X94.here hx rfl (hb hby at_64) ?_
    show Steps p.tables e below (T94.setTop (mkF m 65 #[.val (.int p1), .val (.int p2), .val (.long q3), .second, .val (.long q4), .second, .val (.ref b1), .val (.long ((p1.toInt64) * (1000000 : Int64))), .second, .val (.int (1 : Int32)), .unset, .unset, .unset, .unset, .unset] [(.int (1 : Int32))])) _
    refine XS.goto X94.here hx rfl (pc0 := 65) (pc' := 69) rfl (hb hby at_65) (by decide) (by decide) ?_
    show Steps p.tables e below (T94.setTop (mkF m 69 #[.val (.int p1), .val (.int p2), .val (.long q3), .second, .val (.long q4), .second, .val (.ref b1), .val (.long ((p1.toInt64) * (1000000 : Int64))), .second, .val (.int (1 : Int32)), .unset, .unset, .unset, .unset, .unset] [(.int (1 : Int32))])) _
    refine XS.istore X94.here hx rfl (hb hby at_69) rfl (l' := #[.val (.int p1), .val (.int p2), .val (.long q3), .second, .val (.long q4), .second, .val (.ref b1), .val (.long ((p1.toInt64) * (1000000 : Int64))), .second, .val (.int (1 : Int32)), .val (.int (1 : Int32)), .unset, .unset, .unset, .unset]) rfl ?_
    show Steps p.tables e below (T94.setTop (mkF m 71 #[.val (.int p1), .val (.int p2), .val (.long q3), .second, .val (.long q4), .second, .val (.ref b1), .val (.long ((p1.toInt64) * (1000000 : Int64))), .second, .val (.int (1 : Int32)), .val (.int (1 : Int32)), .unset, .unset, .unset, .unset] [])) _
    refine XS.aload X94.here hx rfl (hb hby at_71) rfl rfl ?_
    show Steps p.tables e below (T94.setTop (mkF m 73 #[.val (.int p1), .val (.int p2), .val (.long q3), .second, .val (.long q4), .second, .val (.ref b1), .val (.long ((p1.toInt64) * (1000000 : Int64))), .second, .val (.int (1 : Int32)), .val (.int (1 : Int32)), .unset, .unset, .unset, .unset] [(.ref b1)])) _
    refine XS.lload X94.here hx rfl (hb hby at_73) rfl ?_
    show Steps p.tables e below (T94.setTop (mkF m 75 #[.val (.int p1), .val (.int p2), .val (.long q3), .second, .val (.long q4), .second, .val (.ref b1), .val (.long ((p1.toInt64) * (1000000 : Int64))), .second, .val (.int (1 : Int32)), .val (.int (1 : Int32)), .unset, .unset, .unset, .unset] [(.long q4), (.ref b1)])) _
    exact kt
  obtain ⟨cq97, kq97, q97a, q97b, q97c⟩ := isOf hZ e94 Q73_0
  obtain ⟨_, _, ⟨T97, L97, k97, n97⟩, -, X97, ⟨Lc97, hQ97, l97, y97, z97⟩, st97⟩ := X94.virtualBack hx (y := (⟨"com/example/commonroom/commonroom/http/Patience", "waited", "(J)V"⟩ : MethodName)) (z := (⟨"com/example/commonroom/commonroom/http/Patience", "waited", "(J)V"⟩ : MethodName)) hown (mvT hZ (hw _ (mgE 74 rfl))) (mvT hZ (hw _ (mgE 75 rfl))) (notFace_of_selects (args := #[]) (mvT hZ (hw _ (mgE 77 rfl)))) (mvT hZ (hw _ (mgE 77 rfl))) (mvT hZ (hw _ (mgE 76 rfl))) (by decide) (backOf (W := 0) (rm11 l Z a0 hw [] b1 q4 ((p2.toInt64) * (1000000 : Int64)) ((1 : Int32).toInt64) (((p1.toInt64) * (1000000 : Int64)) - q3) ((0 : Int64) + q3) T73.heap n0 Z73 Q73_3 Q73_1 Q73_2 Q73_0 g_b1 Q73_4) hZ (hw _ (mgE 78 rfl)) (hw _ (mgE 2 rfl)) (by decide) (by decide)) q97a q97c (g := (mkF m 75 #[.val (.int p1), .val (.int p2), .val (.long q3), .second, .val (.long q4), .second, .val (.ref b1), .val (.long ((p1.toInt64) * (1000000 : Int64))), .second, .val (.int (1 : Int32)), .val (.int (1 : Int32)), .unset, .unset, .unset, .unset] [(.long q4), (.ref b1)])) rfl (by rw [hml]; rfl) (Steps.refl _) (argsL := [(.long q4)]) (rest := []) (lenOf pd__J_V rfl) rfl (by show 2 * 0 + _ ≤ _; exact Nat.le_of_eq rfl) (hb hby at_75) (fun _ _ => ⟨rfl, e94, (by decide : 2 + 0 ≤ _), (by decide : 8 + 0 ≤ _)⟩)
  dsimp only [Pt.U, Pt.locs, Pt.cells, Pt.slots] at X97 l97 y97 z97 st97 hQ97
  subst l97 y97 z97
  obtain ⟨rfl, N97q, K97, Q97_0, Q97_1, Q97_2, Q97_3, Q97_4⟩ := hQ97
  have F102_97 := own_stk F78_73 K97 (allS (own_nsE Q73_0) all0)
  have F103_97 := F79_73.keep K97 (ninS ne_s_SECONDS_b1 nin0)
  have F104_97 := F80_73.keep K97 (ninS ne_s_SECONDS_b1 nin0)
  have F105_97 := F81_73.keep K97
  have Z97 : n0 ≤ T97.heap.size := Nat.le_trans Z73 K97.1
  have pre115 : ∀ t, Steps p.tables e below (T97.setTop (mkF m 78 #[.val (.int p1), .val (.int p2), .val (.long q3), .second, .val (.long q4), .second, .val (.ref b1), .val (.long ((p1.toInt64) * (1000000 : Int64))), .second, .val (.int (1 : Int32)), .val (.int (1 : Int32)), .unset, .unset, .unset, .unset] [])) t → Steps p.tables e below (s₁.setTop (entryFrame m #[(.int p1), (.int p2), (.long q3), (.long q4)] maxLocals)) t := fun t kt => pre96 t (st97.trans kt)
  have N97 := Fr.app N94 N97q
  have pre116 : ∀ t, Steps p.tables e below (T97.setTop (mkF m 80 #[.val (.int p1), .val (.int p2), .val (.long q3), .second, .val (.long q4), .second, .val (.ref b1), .val (.long ((p1.toInt64) * (1000000 : Int64))), .second, .val (.int (1 : Int32)), .val (.int (1 : Int32)), .unset, .unset, .unset, .unset] [(.ref b1)])) t → Steps p.tables e below (s₁.setTop (entryFrame m #[(.int p1), (.int p2), (.long q3), (.long q4)] maxLocals)) t := fun t kt => by
    refine pre115 t ?_
    refine XS.aload X97.here hx rfl (hb hby at_78) rfl rfl ?_
    show Steps p.tables e below (T97.setTop (mkF m 80 #[.val (.int p1), .val (.int p2), .val (.long q3), .second, .val (.long q4), .second, .val (.ref b1), .val (.long ((p1.toInt64) * (1000000 : Int64))), .second, .val (.int (1 : Int32)), .val (.int (1 : Int32)), .unset, .unset, .unset, .unset] [(.ref b1)])) _
    exact kt
  obtain ⟨cq117, kq117, q117a, q117b, q117c⟩ := isOf hZ rfl Q97_0
  obtain ⟨_, _, ⟨T117, L117, k117, n117⟩, -, X117, ⟨Lc117, hQ117, l117, y117, z117⟩, st117⟩ := X97.virtualBack hx (y := (⟨"com/example/commonroom/commonroom/http/Patience", "leftNanos", "()J"⟩ : MethodName)) (z := (⟨"com/example/commonroom/commonroom/http/Patience", "leftNanos", "()J"⟩ : MethodName)) hown (mvT hZ (hw _ (mgE 69 rfl))) (mvT hZ (hw _ (mgE 70 rfl))) (notFace_of_selects (args := #[]) (mvT hZ (hw _ (mgE 72 rfl)))) (mvT hZ (hw _ (mgE 72 rfl))) (mvT hZ (hw _ (mgE 71 rfl))) (by decide) (backOf (W := 0) (rm10 l Z a0 hw [] b1 ((((p1.toInt64) * (1000000 : Int64)) - q3) - q4) T97.heap n0 Z97 Q97_2) hZ (hw _ (mgE 73 rfl)) (hw _ (mgE 2 rfl)) (by decide) (by decide)) q117a q117c (g := (mkF m 80 #[.val (.int p1), .val (.int p2), .val (.long q3), .second, .val (.long q4), .second, .val (.ref b1), .val (.long ((p1.toInt64) * (1000000 : Int64))), .second, .val (.int (1 : Int32)), .val (.int (1 : Int32)), .unset, .unset, .unset, .unset] [(.ref b1)])) rfl (by rw [hml]; rfl) (Steps.refl _) (argsL := []) (rest := []) (lenOf pd___J rfl) rfl (by show 2 * 0 + _ ≤ _; exact Nat.le_of_eq rfl) (hb hby at_80) (fun _ _ => ⟨rfl, rfl, (by decide : 2 + 0 ≤ _), (by decide : 8 + 0 ≤ _)⟩)
  dsimp only [Pt.U, Pt.locs, Pt.cells, Pt.slots] at X117 l117 y117 z117 st117 hQ117
  subst l117 y117 z117
  obtain ⟨rfl, N117q, e117⟩ := hQ117
  have pre118 : ∀ t, Steps p.tables e below (T117.setTop (mkF m 83 #[.val (.int p1), .val (.int p2), .val (.long q3), .second, .val (.long q4), .second, .val (.ref b1), .val (.long ((p1.toInt64) * (1000000 : Int64))), .second, .val (.int (1 : Int32)), .val (.int (1 : Int32)), .unset, .unset, .unset, .unset] [(.long ((((p1.toInt64) * (1000000 : Int64)) - q3) - q4))])) t → Steps p.tables e below (s₁.setTop (entryFrame m #[(.int p1), (.int p2), (.long q3), (.long q4)] maxLocals)) t := fun t kt => pre116 t (st117.trans kt)
  have N117 := Fr.app N97 N117q
  have hc91 : (lcmpW ((((p1.toInt64) * (1000000 : Int64)) - q3) - q4) ((((p1.toInt64) * (1000000 : Int64)) - q3) - q4)) = (0 : Int32) := (lw_eq _ _).mpr rfl
  have pre119 : ∀ t, Steps p.tables e below (T117.setTop (mkF m 106 #[.val (.int p1), .val (.int p2), .val (.long q3), .second, .val (.long q4), .second, .val (.ref b1), .val (.long ((p1.toInt64) * (1000000 : Int64))), .second, .val (.int (1 : Int32)), .val (.int (1 : Int32)), .val (.int (1 : Int32)), .unset, .unset, .unset] [(.long (9223372036854775807 : Int64)), (.ref b1)])) t → Steps p.tables e below (s₁.setTop (entryFrame m #[(.int p1), (.int p2), (.long q3), (.long q4)] maxLocals)) t := fun t kt => by
    refine pre118 t ?_
    refine XS.lload X117.here hx rfl (hb hby at_83) rfl ?_
    show Steps p.tables e below (T117.setTop (mkF m 85 #[.val (.int p1), .val (.int p2), .val (.long q3), .second, .val (.long q4), .second, .val (.ref b1), .val (.long ((p1.toInt64) * (1000000 : Int64))), .second, .val (.int (1 : Int32)), .val (.int (1 : Int32)), .unset, .unset, .unset, .unset] [(.long ((p1.toInt64) * (1000000 : Int64))), (.long ((((p1.toInt64) * (1000000 : Int64)) - q3) - q4))])) _
    refine XS.lloadN X117.here hx rfl (hb hby at_85) rfl ?_
    show Steps p.tables e below (T117.setTop (mkF m 86 #[.val (.int p1), .val (.int p2), .val (.long q3), .second, .val (.long q4), .second, .val (.ref b1), .val (.long ((p1.toInt64) * (1000000 : Int64))), .second, .val (.int (1 : Int32)), .val (.int (1 : Int32)), .unset, .unset, .unset, .unset] [(.long q3), (.long ((p1.toInt64) * (1000000 : Int64))), (.long ((((p1.toInt64) * (1000000 : Int64)) - q3) - q4))])) _
    refine XS.lsub X117.here hx rfl (hb hby at_86) rfl ?_
    show Steps p.tables e below (T117.setTop (mkF m 87 #[.val (.int p1), .val (.int p2), .val (.long q3), .second, .val (.long q4), .second, .val (.ref b1), .val (.long ((p1.toInt64) * (1000000 : Int64))), .second, .val (.int (1 : Int32)), .val (.int (1 : Int32)), .unset, .unset, .unset, .unset] [(.long (((p1.toInt64) * (1000000 : Int64)) - q3)), (.long ((((p1.toInt64) * (1000000 : Int64)) - q3) - q4))])) _
    refine XS.lload X117.here hx rfl (hb hby at_87) rfl ?_
    show Steps p.tables e below (T117.setTop (mkF m 89 #[.val (.int p1), .val (.int p2), .val (.long q3), .second, .val (.long q4), .second, .val (.ref b1), .val (.long ((p1.toInt64) * (1000000 : Int64))), .second, .val (.int (1 : Int32)), .val (.int (1 : Int32)), .unset, .unset, .unset, .unset] [(.long q4), (.long (((p1.toInt64) * (1000000 : Int64)) - q3)), (.long ((((p1.toInt64) * (1000000 : Int64)) - q3) - q4))])) _
    refine XS.lsub X117.here hx rfl (hb hby at_89) rfl ?_
    show Steps p.tables e below (T117.setTop (mkF m 90 #[.val (.int p1), .val (.int p2), .val (.long q3), .second, .val (.long q4), .second, .val (.ref b1), .val (.long ((p1.toInt64) * (1000000 : Int64))), .second, .val (.int (1 : Int32)), .val (.int (1 : Int32)), .unset, .unset, .unset, .unset] [(.long ((((p1.toInt64) * (1000000 : Int64)) - q3) - q4)), (.long ((((p1.toInt64) * (1000000 : Int64)) - q3) - q4))])) _
    refine XS.lcmp X117.here hx rfl (hb hby at_90) rfl ?_
    show Steps p.tables e below (T117.setTop (mkF m 91 #[.val (.int p1), .val (.int p2), .val (.long q3), .second, .val (.long q4), .second, .val (.ref b1), .val (.long ((p1.toInt64) * (1000000 : Int64))), .second, .val (.int (1 : Int32)), .val (.int (1 : Int32)), .unset, .unset, .unset, .unset] [(.int (lcmpW ((((p1.toInt64) * (1000000 : Int64)) - q3) - q4) ((((p1.toInt64) * (1000000 : Int64)) - q3) - q4)))])) _
    refine XS.ifNo X117.here hx rfl (hb hby at_91) rfl ((if0 _ _).trans (teq hc91).2) ?_
    show Steps p.tables e below (T117.setTop (mkF m 94 #[.val (.int p1), .val (.int p2), .val (.long q3), .second, .val (.long q4), .second, .val (.ref b1), .val (.long ((p1.toInt64) * (1000000 : Int64))), .second, .val (.int (1 : Int32)), .val (.int (1 : Int32)), .unset, .unset, .unset, .unset] [])) _
    refine XS.iconst X117.here hx rfl (hb hby at_94) ?_
    show Steps p.tables e below (T117.setTop (mkF m 95 #[.val (.int p1), .val (.int p2), .val (.long q3), .second, .val (.long q4), .second, .val (.ref b1), .val (.long ((p1.toInt64) * (1000000 : Int64))), .second, .val (.int (1 : Int32)), .val (.int (1 : Int32)), .unset, .unset, .unset, .unset] [(.int (1 : Int32))])) _
    refine XS.goto X117.here hx rfl (pc0 := 95) (pc' := 99) rfl (hb hby at_95) (by decide) (by decide) ?_
    show Steps p.tables e below (T117.setTop (mkF m 99 #[.val (.int p1), .val (.int p2), .val (.long q3), .second, .val (.long q4), .second, .val (.ref b1), .val (.long ((p1.toInt64) * (1000000 : Int64))), .second, .val (.int (1 : Int32)), .val (.int (1 : Int32)), .unset, .unset, .unset, .unset] [(.int (1 : Int32))])) _
    refine XS.istore X117.here hx rfl (hb hby at_99) rfl (l' := #[.val (.int p1), .val (.int p2), .val (.long q3), .second, .val (.long q4), .second, .val (.ref b1), .val (.long ((p1.toInt64) * (1000000 : Int64))), .second, .val (.int (1 : Int32)), .val (.int (1 : Int32)), .val (.int (1 : Int32)), .unset, .unset, .unset]) rfl ?_
    show Steps p.tables e below (T117.setTop (mkF m 101 #[.val (.int p1), .val (.int p2), .val (.long q3), .second, .val (.long q4), .second, .val (.ref b1), .val (.long ((p1.toInt64) * (1000000 : Int64))), .second, .val (.int (1 : Int32)), .val (.int (1 : Int32)), .val (.int (1 : Int32)), .unset, .unset, .unset] [])) _
    refine XS.aload X117.here hx rfl (hb hby at_101) rfl rfl ?_
    show Steps p.tables e below (T117.setTop (mkF m 103 #[.val (.int p1), .val (.int p2), .val (.long q3), .second, .val (.long q4), .second, .val (.ref b1), .val (.long ((p1.toInt64) * (1000000 : Int64))), .second, .val (.int (1 : Int32)), .val (.int (1 : Int32)), .val (.int (1 : Int32)), .unset, .unset, .unset] [(.ref b1)])) _
    refine X117.ldc2Long hx hown (mvT hZ (hw _ (mgE 79 rfl))) (g := (mkF m 103 #[.val (.int p1), .val (.int p2), .val (.long q3), .second, .val (.long q4), .second, .val (.ref b1), .val (.long ((p1.toInt64) * (1000000 : Int64))), .second, .val (.int (1 : Int32)), .val (.int (1 : Int32)), .val (.int (1 : Int32)), .unset, .unset, .unset] [(.ref b1)])) rfl (hb hby at_103) _ ?_
    show Steps p.tables e below (T117.setTop (mkF m 106 #[.val (.int p1), .val (.int p2), .val (.long q3), .second, .val (.long q4), .second, .val (.ref b1), .val (.long ((p1.toInt64) * (1000000 : Int64))), .second, .val (.int (1 : Int32)), .val (.int (1 : Int32)), .val (.int (1 : Int32)), .unset, .unset, .unset] [(.long (9223372036854775807 : Int64)), (.ref b1)])) _
    exact kt
  obtain ⟨cq120, kq120, q120a, q120b, q120c⟩ := isOf hZ e117 Q97_0
  obtain ⟨_, _, ⟨T120, L120, k120, n120⟩, -, X120, ⟨Lc120, hQ120, l120, y120, z120⟩, st120⟩ := X117.virtualBack hx (y := (⟨"com/example/commonroom/commonroom/http/Patience", "moved", "(J)V"⟩ : MethodName)) (z := (⟨"com/example/commonroom/commonroom/http/Patience", "moved", "(J)V"⟩ : MethodName)) hown (mvT hZ (hw _ (mgE 80 rfl))) (mvT hZ (hw _ (mgE 81 rfl))) (notFace_of_selects (args := #[]) (mvT hZ (hw _ (mgE 83 rfl)))) (mvT hZ (hw _ (mgE 83 rfl))) (mvT hZ (hw _ (mgE 82 rfl))) (by decide) (backOf (W := 0) (rm12 l Z a0 hw [] b1 (9223372036854775807 : Int64) s_SECONDS ((1 : Int32).toInt64) (((0 : Int64) + q3) + q4) ((p2.toInt64) * (1000000 : Int64)) ((((p1.toInt64) * (1000000 : Int64)) - q3) - q4) T97.heap n0 Z97 F102_97 F103_97 F104_97 F105_97 Q97_1 Q97_4 Q97_0 g_b1 ne_s_SECONDS_b1 Q97_3 Q97_2 (by decide) (by decide)) hZ (hw _ (mgE 84 rfl)) (hw _ (mgE 2 rfl)) (by decide) (by decide)) q120a q120c (g := (mkF m 106 #[.val (.int p1), .val (.int p2), .val (.long q3), .second, .val (.long q4), .second, .val (.ref b1), .val (.long ((p1.toInt64) * (1000000 : Int64))), .second, .val (.int (1 : Int32)), .val (.int (1 : Int32)), .val (.int (1 : Int32)), .unset, .unset, .unset] [(.long (9223372036854775807 : Int64)), (.ref b1)])) rfl (by rw [hml]; rfl) (Steps.refl _) (argsL := [(.long (9223372036854775807 : Int64))]) (rest := []) (lenOf pd__J_V rfl) rfl (by show 2 * 0 + _ ≤ _; exact Nat.le_of_eq rfl) (hb hby at_106) (fun _ _ => ⟨rfl, e117, (by decide : 2 + 0 ≤ _), (by decide : 8 + 0 ≤ _)⟩)
  dsimp only [Pt.U, Pt.locs, Pt.cells, Pt.slots] at X120 l120 y120 z120 st120 hQ120
  subst l120 y120 z120
  obtain ⟨rfl, N120q, K120, Q120_0, Q120_1, Q120_2, Q120_3, Q120_4⟩ := hQ120
  have Z120 : n0 ≤ T120.heap.size := Nat.le_trans Z97 K120.1
  have pre138 : ∀ t, Steps p.tables e below (T120.setTop (mkF m 109 #[.val (.int p1), .val (.int p2), .val (.long q3), .second, .val (.long q4), .second, .val (.ref b1), .val (.long ((p1.toInt64) * (1000000 : Int64))), .second, .val (.int (1 : Int32)), .val (.int (1 : Int32)), .val (.int (1 : Int32)), .unset, .unset, .unset] [])) t → Steps p.tables e below (s₁.setTop (entryFrame m #[(.int p1), (.int p2), (.long q3), (.long q4)] maxLocals)) t := fun t kt => pre119 t (st120.trans kt)
  have N120 := Fr.app N117 N120q
  have pre139 : ∀ t, Steps p.tables e below (T120.setTop (mkF m 131 #[.val (.int p1), .val (.int p2), .val (.long q3), .second, .val (.long q4), .second, .val (.ref b1), .val (.long ((p1.toInt64) * (1000000 : Int64))), .second, .val (.int (1 : Int32)), .val (.int (1 : Int32)), .val (.int (1 : Int32)), .unset, .unset, .unset] [(.long (((((p1.toInt64) * (1000000 : Int64)) - q3) - q4) + ((4 : Int64) * (q3 + q4)))), (.long ((p2.toInt64) * (1000000 : Int64)))])) t → Steps p.tables e below (s₁.setTop (entryFrame m #[(.int p1), (.int p2), (.long q3), (.long q4)] maxLocals)) t := fun t kt => by
    refine pre138 t ?_
    refine XS.iloadN X120.here hx rfl (hb hby at_109) rfl ?_
    show Steps p.tables e below (T120.setTop (mkF m 110 #[.val (.int p1), .val (.int p2), .val (.long q3), .second, .val (.long q4), .second, .val (.ref b1), .val (.long ((p1.toInt64) * (1000000 : Int64))), .second, .val (.int (1 : Int32)), .val (.int (1 : Int32)), .val (.int (1 : Int32)), .unset, .unset, .unset] [(.int p2)])) _
    refine XS.i2l X120.here hx rfl (hb hby at_110) rfl ?_
    show Steps p.tables e below (T120.setTop (mkF m 111 #[.val (.int p1), .val (.int p2), .val (.long q3), .second, .val (.long q4), .second, .val (.ref b1), .val (.long ((p1.toInt64) * (1000000 : Int64))), .second, .val (.int (1 : Int32)), .val (.int (1 : Int32)), .val (.int (1 : Int32)), .unset, .unset, .unset] [(.long (p2.toInt64))])) _
    refine X120.ldc2Long hx hown (mvT hZ (hw _ (mgE 68 rfl))) (g := (mkF m 111 #[.val (.int p1), .val (.int p2), .val (.long q3), .second, .val (.long q4), .second, .val (.ref b1), .val (.long ((p1.toInt64) * (1000000 : Int64))), .second, .val (.int (1 : Int32)), .val (.int (1 : Int32)), .val (.int (1 : Int32)), .unset, .unset, .unset] [(.long (p2.toInt64))])) rfl (hb hby at_111) _ ?_
    show Steps p.tables e below (T120.setTop (mkF m 114 #[.val (.int p1), .val (.int p2), .val (.long q3), .second, .val (.long q4), .second, .val (.ref b1), .val (.long ((p1.toInt64) * (1000000 : Int64))), .second, .val (.int (1 : Int32)), .val (.int (1 : Int32)), .val (.int (1 : Int32)), .unset, .unset, .unset] [(.long (1000000 : Int64)), (.long (p2.toInt64))])) _
    refine XS.lmul X120.here hx rfl (hb hby at_114) rfl ?_
    show Steps p.tables e below (T120.setTop (mkF m 115 #[.val (.int p1), .val (.int p2), .val (.long q3), .second, .val (.long q4), .second, .val (.ref b1), .val (.long ((p1.toInt64) * (1000000 : Int64))), .second, .val (.int (1 : Int32)), .val (.int (1 : Int32)), .val (.int (1 : Int32)), .unset, .unset, .unset] [(.long ((p2.toInt64) * (1000000 : Int64)))])) _
    refine XS.lload X120.here hx rfl (hb hby at_115) rfl ?_
    show Steps p.tables e below (T120.setTop (mkF m 117 #[.val (.int p1), .val (.int p2), .val (.long q3), .second, .val (.long q4), .second, .val (.ref b1), .val (.long ((p1.toInt64) * (1000000 : Int64))), .second, .val (.int (1 : Int32)), .val (.int (1 : Int32)), .val (.int (1 : Int32)), .unset, .unset, .unset] [(.long ((p1.toInt64) * (1000000 : Int64))), (.long ((p2.toInt64) * (1000000 : Int64)))])) _
    refine XS.lloadN X120.here hx rfl (hb hby at_117) rfl ?_
    show Steps p.tables e below (T120.setTop (mkF m 118 #[.val (.int p1), .val (.int p2), .val (.long q3), .second, .val (.long q4), .second, .val (.ref b1), .val (.long ((p1.toInt64) * (1000000 : Int64))), .second, .val (.int (1 : Int32)), .val (.int (1 : Int32)), .val (.int (1 : Int32)), .unset, .unset, .unset] [(.long q3), (.long ((p1.toInt64) * (1000000 : Int64))), (.long ((p2.toInt64) * (1000000 : Int64)))])) _
    refine XS.lsub X120.here hx rfl (hb hby at_118) rfl ?_
    show Steps p.tables e below (T120.setTop (mkF m 119 #[.val (.int p1), .val (.int p2), .val (.long q3), .second, .val (.long q4), .second, .val (.ref b1), .val (.long ((p1.toInt64) * (1000000 : Int64))), .second, .val (.int (1 : Int32)), .val (.int (1 : Int32)), .val (.int (1 : Int32)), .unset, .unset, .unset] [(.long (((p1.toInt64) * (1000000 : Int64)) - q3)), (.long ((p2.toInt64) * (1000000 : Int64)))])) _
    refine XS.lload X120.here hx rfl (hb hby at_119) rfl ?_
    show Steps p.tables e below (T120.setTop (mkF m 121 #[.val (.int p1), .val (.int p2), .val (.long q3), .second, .val (.long q4), .second, .val (.ref b1), .val (.long ((p1.toInt64) * (1000000 : Int64))), .second, .val (.int (1 : Int32)), .val (.int (1 : Int32)), .val (.int (1 : Int32)), .unset, .unset, .unset] [(.long q4), (.long (((p1.toInt64) * (1000000 : Int64)) - q3)), (.long ((p2.toInt64) * (1000000 : Int64)))])) _
    refine XS.lsub X120.here hx rfl (hb hby at_121) rfl ?_
    show Steps p.tables e below (T120.setTop (mkF m 122 #[.val (.int p1), .val (.int p2), .val (.long q3), .second, .val (.long q4), .second, .val (.ref b1), .val (.long ((p1.toInt64) * (1000000 : Int64))), .second, .val (.int (1 : Int32)), .val (.int (1 : Int32)), .val (.int (1 : Int32)), .unset, .unset, .unset] [(.long ((((p1.toInt64) * (1000000 : Int64)) - q3) - q4)), (.long ((p2.toInt64) * (1000000 : Int64)))])) _
    refine X120.ldc2Long hx hown (mvT hZ (hw _ (mgE 92 rfl))) (g := (mkF m 122 #[.val (.int p1), .val (.int p2), .val (.long q3), .second, .val (.long q4), .second, .val (.ref b1), .val (.long ((p1.toInt64) * (1000000 : Int64))), .second, .val (.int (1 : Int32)), .val (.int (1 : Int32)), .val (.int (1 : Int32)), .unset, .unset, .unset] [(.long ((((p1.toInt64) * (1000000 : Int64)) - q3) - q4)), (.long ((p2.toInt64) * (1000000 : Int64)))])) rfl (hb hby at_122) _ ?_
    show Steps p.tables e below (T120.setTop (mkF m 125 #[.val (.int p1), .val (.int p2), .val (.long q3), .second, .val (.long q4), .second, .val (.ref b1), .val (.long ((p1.toInt64) * (1000000 : Int64))), .second, .val (.int (1 : Int32)), .val (.int (1 : Int32)), .val (.int (1 : Int32)), .unset, .unset, .unset] [(.long (4 : Int64)), (.long ((((p1.toInt64) * (1000000 : Int64)) - q3) - q4)), (.long ((p2.toInt64) * (1000000 : Int64)))])) _
    refine XS.lloadN X120.here hx rfl (hb hby at_125) rfl ?_
    show Steps p.tables e below (T120.setTop (mkF m 126 #[.val (.int p1), .val (.int p2), .val (.long q3), .second, .val (.long q4), .second, .val (.ref b1), .val (.long ((p1.toInt64) * (1000000 : Int64))), .second, .val (.int (1 : Int32)), .val (.int (1 : Int32)), .val (.int (1 : Int32)), .unset, .unset, .unset] [(.long q3), (.long (4 : Int64)), (.long ((((p1.toInt64) * (1000000 : Int64)) - q3) - q4)), (.long ((p2.toInt64) * (1000000 : Int64)))])) _
    refine XS.lload X120.here hx rfl (hb hby at_126) rfl ?_
    show Steps p.tables e below (T120.setTop (mkF m 128 #[.val (.int p1), .val (.int p2), .val (.long q3), .second, .val (.long q4), .second, .val (.ref b1), .val (.long ((p1.toInt64) * (1000000 : Int64))), .second, .val (.int (1 : Int32)), .val (.int (1 : Int32)), .val (.int (1 : Int32)), .unset, .unset, .unset] [(.long q4), (.long q3), (.long (4 : Int64)), (.long ((((p1.toInt64) * (1000000 : Int64)) - q3) - q4)), (.long ((p2.toInt64) * (1000000 : Int64)))])) _
    refine XS.ladd X120.here hx rfl (hb hby at_128) rfl ?_
    show Steps p.tables e below (T120.setTop (mkF m 129 #[.val (.int p1), .val (.int p2), .val (.long q3), .second, .val (.long q4), .second, .val (.ref b1), .val (.long ((p1.toInt64) * (1000000 : Int64))), .second, .val (.int (1 : Int32)), .val (.int (1 : Int32)), .val (.int (1 : Int32)), .unset, .unset, .unset] [(.long (q3 + q4)), (.long (4 : Int64)), (.long ((((p1.toInt64) * (1000000 : Int64)) - q3) - q4)), (.long ((p2.toInt64) * (1000000 : Int64)))])) _
    refine XS.lmul X120.here hx rfl (hb hby at_129) rfl ?_
    show Steps p.tables e below (T120.setTop (mkF m 130 #[.val (.int p1), .val (.int p2), .val (.long q3), .second, .val (.long q4), .second, .val (.ref b1), .val (.long ((p1.toInt64) * (1000000 : Int64))), .second, .val (.int (1 : Int32)), .val (.int (1 : Int32)), .val (.int (1 : Int32)), .unset, .unset, .unset] [(.long ((4 : Int64) * (q3 + q4))), (.long ((((p1.toInt64) * (1000000 : Int64)) - q3) - q4)), (.long ((p2.toInt64) * (1000000 : Int64)))])) _
    refine XS.ladd X120.here hx rfl (hb hby at_130) rfl ?_
    show Steps p.tables e below (T120.setTop (mkF m 131 #[.val (.int p1), .val (.int p2), .val (.long q3), .second, .val (.long q4), .second, .val (.ref b1), .val (.long ((p1.toInt64) * (1000000 : Int64))), .second, .val (.int (1 : Int32)), .val (.int (1 : Int32)), .val (.int (1 : Int32)), .unset, .unset, .unset] [(.long (((((p1.toInt64) * (1000000 : Int64)) - q3) - q4) + ((4 : Int64) * (q3 + q4)))), (.long ((p2.toInt64) * (1000000 : Int64)))])) _
    exact kt
  obtain ⟨_, _, ⟨T140, L140, k140, n140⟩, -, X140, ⟨Lc140, hQ140, l140, y140, z140⟩, st140⟩ := Jvm.LawKit.callS X120 hx (y := (⟨"java/lang/Math", "min", "(JJ)J"⟩ : MethodName)) hown (mvT hZ (hw _ (mgE 93 rfl))) (mvT hZ (hw _ (mgE 89 rfl))) (mvT hZ (hw _ (mgE 90 rfl))) (mvT hZ (hw _ (mgE 91 rfl))) (by decide) (backOf (W := 0) (rm13 l Z a0 hw [] ((p2.toInt64) * (1000000 : Int64)) (((((p1.toInt64) * (1000000 : Int64)) - q3) - q4) + ((4 : Int64) * (q3 + q4))) T120.heap n0 Z120 ) hZ (hw _ (mgE 91 rfl)) (hw _ (mgE 90 rfl)) (by decide) (by decide)) (g := (mkF m 131 #[.val (.int p1), .val (.int p2), .val (.long q3), .second, .val (.long q4), .second, .val (.ref b1), .val (.long ((p1.toInt64) * (1000000 : Int64))), .second, .val (.int (1 : Int32)), .val (.int (1 : Int32)), .val (.int (1 : Int32)), .unset, .unset, .unset] [(.long (((((p1.toInt64) * (1000000 : Int64)) - q3) - q4) + ((4 : Int64) * (q3 + q4)))), (.long ((p2.toInt64) * (1000000 : Int64)))])) rfl (by rw [hml]; rfl) (argsL := [(.long ((p2.toInt64) * (1000000 : Int64))), (.long (((((p1.toInt64) * (1000000 : Int64)) - q3) - q4) + ((4 : Int64) * (q3 + q4))))]) (rest := []) (lenOf pd__JJ_J rfl) rfl (by show 2 * 0 + _ ≤ _; exact Nat.le_of_eq rfl) (hb hby at_131) (fun _ _ => ⟨rfl, rfl, (by decide : 2 + 0 ≤ _), (by decide : 8 + 0 ≤ _)⟩)
  dsimp only [Pt.U, Pt.locs, Pt.cells, Pt.slots] at X140 l140 y140 z140 st140 hQ140
  subst l140 y140 z140
  obtain ⟨rfl, N140q, e140⟩ := hQ140
  have pre141 : ∀ t, Steps p.tables e below (T140.setTop (mkF m 134 #[.val (.int p1), .val (.int p2), .val (.long q3), .second, .val (.long q4), .second, .val (.ref b1), .val (.long ((p1.toInt64) * (1000000 : Int64))), .second, .val (.int (1 : Int32)), .val (.int (1 : Int32)), .val (.int (1 : Int32)), .unset, .unset, .unset] [(.long (r13 ((p2.toInt64) * (1000000 : Int64)) (((((p1.toInt64) * (1000000 : Int64)) - q3) - q4) + ((4 : Int64) * (q3 + q4)))))])) t → Steps p.tables e below (s₁.setTop (entryFrame m #[(.int p1), (.int p2), (.long q3), (.long q4)] maxLocals)) t := fun t kt => pre139 t (st140 t kt)
  have N140 := Fr.app N120 N140q
  have pre142 : ∀ t, Steps p.tables e below (T140.setTop (mkF m 138 #[.val (.int p1), .val (.int p2), .val (.long q3), .second, .val (.long q4), .second, .val (.ref b1), .val (.long ((p1.toInt64) * (1000000 : Int64))), .second, .val (.int (1 : Int32)), .val (.int (1 : Int32)), .val (.int (1 : Int32)), .val (.long (r13 ((p2.toInt64) * (1000000 : Int64)) (((((p1.toInt64) * (1000000 : Int64)) - q3) - q4) + ((4 : Int64) * (q3 + q4))))), .second, .unset] [(.ref b1)])) t → Steps p.tables e below (s₁.setTop (entryFrame m #[(.int p1), (.int p2), (.long q3), (.long q4)] maxLocals)) t := fun t kt => by
    refine pre141 t ?_
    refine XS.lstore X140.here hx rfl (hb hby at_134) rfl (l' := #[.val (.int p1), .val (.int p2), .val (.long q3), .second, .val (.long q4), .second, .val (.ref b1), .val (.long ((p1.toInt64) * (1000000 : Int64))), .second, .val (.int (1 : Int32)), .val (.int (1 : Int32)), .val (.int (1 : Int32)), .val (.long (r13 ((p2.toInt64) * (1000000 : Int64)) (((((p1.toInt64) * (1000000 : Int64)) - q3) - q4) + ((4 : Int64) * (q3 + q4))))), .second, .unset]) rfl ?_
    show Steps p.tables e below (T140.setTop (mkF m 136 #[.val (.int p1), .val (.int p2), .val (.long q3), .second, .val (.long q4), .second, .val (.ref b1), .val (.long ((p1.toInt64) * (1000000 : Int64))), .second, .val (.int (1 : Int32)), .val (.int (1 : Int32)), .val (.int (1 : Int32)), .val (.long (r13 ((p2.toInt64) * (1000000 : Int64)) (((((p1.toInt64) * (1000000 : Int64)) - q3) - q4) + ((4 : Int64) * (q3 + q4))))), .second, .unset] [])) _
    refine XS.aload X140.here hx rfl (hb hby at_136) rfl rfl ?_
    show Steps p.tables e below (T140.setTop (mkF m 138 #[.val (.int p1), .val (.int p2), .val (.long q3), .second, .val (.long q4), .second, .val (.ref b1), .val (.long ((p1.toInt64) * (1000000 : Int64))), .second, .val (.int (1 : Int32)), .val (.int (1 : Int32)), .val (.int (1 : Int32)), .val (.long (r13 ((p2.toInt64) * (1000000 : Int64)) (((((p1.toInt64) * (1000000 : Int64)) - q3) - q4) + ((4 : Int64) * (q3 + q4))))), .second, .unset] [(.ref b1)])) _
    exact kt
  obtain ⟨cq143, kq143, q143a, q143b, q143c⟩ := isOf hZ e140 Q120_0
  obtain ⟨_, _, ⟨T143, L143, k143, n143⟩, -, X143, ⟨Lc143, hQ143, l143, y143, z143⟩, st143⟩ := X140.virtualBack hx (y := (⟨"com/example/commonroom/commonroom/http/Patience", "leftNanos", "()J"⟩ : MethodName)) (z := (⟨"com/example/commonroom/commonroom/http/Patience", "leftNanos", "()J"⟩ : MethodName)) hown (mvT hZ (hw _ (mgE 69 rfl))) (mvT hZ (hw _ (mgE 70 rfl))) (notFace_of_selects (args := #[]) (mvT hZ (hw _ (mgE 72 rfl)))) (mvT hZ (hw _ (mgE 72 rfl))) (mvT hZ (hw _ (mgE 71 rfl))) (by decide) (backOf (W := 0) (rm10 l Z a0 hw [] b1 (r13 ((p2.toInt64) * (1000000 : Int64)) (((((p1.toInt64) * (1000000 : Int64)) - q3) - q4) + (r13 ((9223372036854775807 : Int64) / ((1 : Int32).toInt64)) ((4 : Int64) * (((0 : Int64) + q3) + q4))))) T120.heap n0 Z120 Q120_2) hZ (hw _ (mgE 73 rfl)) (hw _ (mgE 2 rfl)) (by decide) (by decide)) q143a q143c (g := (mkF m 138 #[.val (.int p1), .val (.int p2), .val (.long q3), .second, .val (.long q4), .second, .val (.ref b1), .val (.long ((p1.toInt64) * (1000000 : Int64))), .second, .val (.int (1 : Int32)), .val (.int (1 : Int32)), .val (.int (1 : Int32)), .val (.long (r13 ((p2.toInt64) * (1000000 : Int64)) (((((p1.toInt64) * (1000000 : Int64)) - q3) - q4) + ((4 : Int64) * (q3 + q4))))), .second, .unset] [(.ref b1)])) rfl (by rw [hml]; rfl) (Steps.refl _) (argsL := []) (rest := []) (lenOf pd___J rfl) rfl (by show 2 * 0 + _ ≤ _; exact Nat.le_of_eq rfl) (hb hby at_138) (fun _ _ => ⟨rfl, e140, (by decide : 2 + 0 ≤ _), (by decide : 8 + 0 ≤ _)⟩)
  dsimp only [Pt.U, Pt.locs, Pt.cells, Pt.slots] at X143 l143 y143 z143 st143 hQ143
  subst l143 y143 z143
  obtain ⟨rfl, N143q, e143⟩ := hQ143
  have pre144 : ∀ t, Steps p.tables e below (T143.setTop (mkF m 141 #[.val (.int p1), .val (.int p2), .val (.long q3), .second, .val (.long q4), .second, .val (.ref b1), .val (.long ((p1.toInt64) * (1000000 : Int64))), .second, .val (.int (1 : Int32)), .val (.int (1 : Int32)), .val (.int (1 : Int32)), .val (.long (r13 ((p2.toInt64) * (1000000 : Int64)) (((((p1.toInt64) * (1000000 : Int64)) - q3) - q4) + ((4 : Int64) * (q3 + q4))))), .second, .unset] [(.long (r13 ((p2.toInt64) * (1000000 : Int64)) (((((p1.toInt64) * (1000000 : Int64)) - q3) - q4) + (r13 ((9223372036854775807 : Int64) / ((1 : Int32).toInt64)) ((4 : Int64) * (((0 : Int64) + q3) + q4))))))])) t → Steps p.tables e below (s₁.setTop (entryFrame m #[(.int p1), (.int p2), (.long q3), (.long q4)] maxLocals)) t := fun t kt => pre142 t (st143.trans kt)
  have N143 := Fr.app N140 N143q
  have hc144 : (lcmpW (r13 ((p2.toInt64) * (1000000 : Int64)) (((((p1.toInt64) * (1000000 : Int64)) - q3) - q4) + (r13 ((9223372036854775807 : Int64) / ((1 : Int32).toInt64)) ((4 : Int64) * (((0 : Int64) + q3) + q4))))) (r13 ((p2.toInt64) * (1000000 : Int64)) (((((p1.toInt64) * (1000000 : Int64)) - q3) - q4) + ((4 : Int64) * (q3 + q4))))) = (0 : Int32) := (lw_eq _ _).mpr (by rw [own_minM, Int64.zero_add])
  have pre145 : ∀ t, Steps p.tables e below (T143.setTop (mkF m 179 #[.val (.int p1), .val (.int p2), .val (.long q3), .second, .val (.long q4), .second, .val (.ref b1), .val (.long ((p1.toInt64) * (1000000 : Int64))), .second, .val (.int (1 : Int32)), .val (.int (1 : Int32)), .val (.int (1 : Int32)), .val (.long (r13 ((p2.toInt64) * (1000000 : Int64)) (((((p1.toInt64) * (1000000 : Int64)) - q3) - q4) + ((4 : Int64) * (q3 + q4))))), .second, .val (.int (1 : Int32))] [(.int (1 : Int32))])) t → Steps p.tables e below (s₁.setTop (entryFrame m #[(.int p1), (.int p2), (.long q3), (.long q4)] maxLocals)) t := fun t kt => by
    refine pre144 t ?_
    refine XS.lload X143.here hx rfl (hb hby at_141) rfl ?_
    show Steps p.tables e below (T143.setTop (mkF m 143 #[.val (.int p1), .val (.int p2), .val (.long q3), .second, .val (.long q4), .second, .val (.ref b1), .val (.long ((p1.toInt64) * (1000000 : Int64))), .second, .val (.int (1 : Int32)), .val (.int (1 : Int32)), .val (.int (1 : Int32)), .val (.long (r13 ((p2.toInt64) * (1000000 : Int64)) (((((p1.toInt64) * (1000000 : Int64)) - q3) - q4) + ((4 : Int64) * (q3 + q4))))), .second, .unset] [(.long (r13 ((p2.toInt64) * (1000000 : Int64)) (((((p1.toInt64) * (1000000 : Int64)) - q3) - q4) + ((4 : Int64) * (q3 + q4))))), (.long (r13 ((p2.toInt64) * (1000000 : Int64)) (((((p1.toInt64) * (1000000 : Int64)) - q3) - q4) + (r13 ((9223372036854775807 : Int64) / ((1 : Int32).toInt64)) ((4 : Int64) * (((0 : Int64) + q3) + q4))))))])) _
    refine XS.lcmp X143.here hx rfl (hb hby at_143) rfl ?_
    show Steps p.tables e below (T143.setTop (mkF m 144 #[.val (.int p1), .val (.int p2), .val (.long q3), .second, .val (.long q4), .second, .val (.ref b1), .val (.long ((p1.toInt64) * (1000000 : Int64))), .second, .val (.int (1 : Int32)), .val (.int (1 : Int32)), .val (.int (1 : Int32)), .val (.long (r13 ((p2.toInt64) * (1000000 : Int64)) (((((p1.toInt64) * (1000000 : Int64)) - q3) - q4) + ((4 : Int64) * (q3 + q4))))), .second, .unset] [(.int (lcmpW (r13 ((p2.toInt64) * (1000000 : Int64)) (((((p1.toInt64) * (1000000 : Int64)) - q3) - q4) + (r13 ((9223372036854775807 : Int64) / ((1 : Int32).toInt64)) ((4 : Int64) * (((0 : Int64) + q3) + q4))))) (r13 ((p2.toInt64) * (1000000 : Int64)) (((((p1.toInt64) * (1000000 : Int64)) - q3) - q4) + ((4 : Int64) * (q3 + q4))))))])) _
    refine XS.ifNo X143.here hx rfl (hb hby at_144) rfl ((if0 _ _).trans (teq hc144).2) ?_
    show Steps p.tables e below (T143.setTop (mkF m 147 #[.val (.int p1), .val (.int p2), .val (.long q3), .second, .val (.long q4), .second, .val (.ref b1), .val (.long ((p1.toInt64) * (1000000 : Int64))), .second, .val (.int (1 : Int32)), .val (.int (1 : Int32)), .val (.int (1 : Int32)), .val (.long (r13 ((p2.toInt64) * (1000000 : Int64)) (((((p1.toInt64) * (1000000 : Int64)) - q3) - q4) + ((4 : Int64) * (q3 + q4))))), .second, .unset] [])) _
    refine XS.iconst X143.here hx rfl (hb hby at_147) ?_
    show Steps p.tables e below (T143.setTop (mkF m 148 #[.val (.int p1), .val (.int p2), .val (.long q3), .second, .val (.long q4), .second, .val (.ref b1), .val (.long ((p1.toInt64) * (1000000 : Int64))), .second, .val (.int (1 : Int32)), .val (.int (1 : Int32)), .val (.int (1 : Int32)), .val (.long (r13 ((p2.toInt64) * (1000000 : Int64)) (((((p1.toInt64) * (1000000 : Int64)) - q3) - q4) + ((4 : Int64) * (q3 + q4))))), .second, .unset] [(.int (1 : Int32))])) _
    refine XS.goto X143.here hx rfl (pc0 := 148) (pc' := 152) rfl (hb hby at_148) (by decide) (by decide) ?_
    show Steps p.tables e below (T143.setTop (mkF m 152 #[.val (.int p1), .val (.int p2), .val (.long q3), .second, .val (.long q4), .second, .val (.ref b1), .val (.long ((p1.toInt64) * (1000000 : Int64))), .second, .val (.int (1 : Int32)), .val (.int (1 : Int32)), .val (.int (1 : Int32)), .val (.long (r13 ((p2.toInt64) * (1000000 : Int64)) (((((p1.toInt64) * (1000000 : Int64)) - q3) - q4) + ((4 : Int64) * (q3 + q4))))), .second, .unset] [(.int (1 : Int32))])) _
    refine XS.istore X143.here hx rfl (hb hby at_152) rfl (l' := #[.val (.int p1), .val (.int p2), .val (.long q3), .second, .val (.long q4), .second, .val (.ref b1), .val (.long ((p1.toInt64) * (1000000 : Int64))), .second, .val (.int (1 : Int32)), .val (.int (1 : Int32)), .val (.int (1 : Int32)), .val (.long (r13 ((p2.toInt64) * (1000000 : Int64)) (((((p1.toInt64) * (1000000 : Int64)) - q3) - q4) + ((4 : Int64) * (q3 + q4))))), .second, .val (.int (1 : Int32))]) rfl ?_
    show Steps p.tables e below (T143.setTop (mkF m 154 #[.val (.int p1), .val (.int p2), .val (.long q3), .second, .val (.long q4), .second, .val (.ref b1), .val (.long ((p1.toInt64) * (1000000 : Int64))), .second, .val (.int (1 : Int32)), .val (.int (1 : Int32)), .val (.int (1 : Int32)), .val (.long (r13 ((p2.toInt64) * (1000000 : Int64)) (((((p1.toInt64) * (1000000 : Int64)) - q3) - q4) + ((4 : Int64) * (q3 + q4))))), .second, .val (.int (1 : Int32))] [])) _
    refine XS.iload X143.here hx rfl (hb hby at_154) rfl ?_
    show Steps p.tables e below (T143.setTop (mkF m 156 #[.val (.int p1), .val (.int p2), .val (.long q3), .second, .val (.long q4), .second, .val (.ref b1), .val (.long ((p1.toInt64) * (1000000 : Int64))), .second, .val (.int (1 : Int32)), .val (.int (1 : Int32)), .val (.int (1 : Int32)), .val (.long (r13 ((p2.toInt64) * (1000000 : Int64)) (((((p1.toInt64) * (1000000 : Int64)) - q3) - q4) + ((4 : Int64) * (q3 + q4))))), .second, .val (.int (1 : Int32))] [(.int (1 : Int32))])) _
    refine XS.ifNo X143.here hx rfl (hb hby at_156) rfl ((if0 _ _).trans (feq (by decide : ¬ ((1 : Int32) = (0 : Int32)))).1) ?_
    show Steps p.tables e below (T143.setTop (mkF m 159 #[.val (.int p1), .val (.int p2), .val (.long q3), .second, .val (.long q4), .second, .val (.ref b1), .val (.long ((p1.toInt64) * (1000000 : Int64))), .second, .val (.int (1 : Int32)), .val (.int (1 : Int32)), .val (.int (1 : Int32)), .val (.long (r13 ((p2.toInt64) * (1000000 : Int64)) (((((p1.toInt64) * (1000000 : Int64)) - q3) - q4) + ((4 : Int64) * (q3 + q4))))), .second, .val (.int (1 : Int32))] [])) _
    refine XS.iload X143.here hx rfl (hb hby at_159) rfl ?_
    show Steps p.tables e below (T143.setTop (mkF m 161 #[.val (.int p1), .val (.int p2), .val (.long q3), .second, .val (.long q4), .second, .val (.ref b1), .val (.long ((p1.toInt64) * (1000000 : Int64))), .second, .val (.int (1 : Int32)), .val (.int (1 : Int32)), .val (.int (1 : Int32)), .val (.long (r13 ((p2.toInt64) * (1000000 : Int64)) (((((p1.toInt64) * (1000000 : Int64)) - q3) - q4) + ((4 : Int64) * (q3 + q4))))), .second, .val (.int (1 : Int32))] [(.int (1 : Int32))])) _
    refine XS.ifNo X143.here hx rfl (hb hby at_161) rfl ((if0 _ _).trans (feq (by decide : ¬ ((1 : Int32) = (0 : Int32)))).1) ?_
    show Steps p.tables e below (T143.setTop (mkF m 164 #[.val (.int p1), .val (.int p2), .val (.long q3), .second, .val (.long q4), .second, .val (.ref b1), .val (.long ((p1.toInt64) * (1000000 : Int64))), .second, .val (.int (1 : Int32)), .val (.int (1 : Int32)), .val (.int (1 : Int32)), .val (.long (r13 ((p2.toInt64) * (1000000 : Int64)) (((((p1.toInt64) * (1000000 : Int64)) - q3) - q4) + ((4 : Int64) * (q3 + q4))))), .second, .val (.int (1 : Int32))] [])) _
    refine XS.iload X143.here hx rfl (hb hby at_164) rfl ?_
    show Steps p.tables e below (T143.setTop (mkF m 166 #[.val (.int p1), .val (.int p2), .val (.long q3), .second, .val (.long q4), .second, .val (.ref b1), .val (.long ((p1.toInt64) * (1000000 : Int64))), .second, .val (.int (1 : Int32)), .val (.int (1 : Int32)), .val (.int (1 : Int32)), .val (.long (r13 ((p2.toInt64) * (1000000 : Int64)) (((((p1.toInt64) * (1000000 : Int64)) - q3) - q4) + ((4 : Int64) * (q3 + q4))))), .second, .val (.int (1 : Int32))] [(.int (1 : Int32))])) _
    refine XS.ifNo X143.here hx rfl (hb hby at_166) rfl ((if0 _ _).trans (feq (by decide : ¬ ((1 : Int32) = (0 : Int32)))).1) ?_
    show Steps p.tables e below (T143.setTop (mkF m 169 #[.val (.int p1), .val (.int p2), .val (.long q3), .second, .val (.long q4), .second, .val (.ref b1), .val (.long ((p1.toInt64) * (1000000 : Int64))), .second, .val (.int (1 : Int32)), .val (.int (1 : Int32)), .val (.int (1 : Int32)), .val (.long (r13 ((p2.toInt64) * (1000000 : Int64)) (((((p1.toInt64) * (1000000 : Int64)) - q3) - q4) + ((4 : Int64) * (q3 + q4))))), .second, .val (.int (1 : Int32))] [])) _
    refine XS.iload X143.here hx rfl (hb hby at_169) rfl ?_
    show Steps p.tables e below (T143.setTop (mkF m 171 #[.val (.int p1), .val (.int p2), .val (.long q3), .second, .val (.long q4), .second, .val (.ref b1), .val (.long ((p1.toInt64) * (1000000 : Int64))), .second, .val (.int (1 : Int32)), .val (.int (1 : Int32)), .val (.int (1 : Int32)), .val (.long (r13 ((p2.toInt64) * (1000000 : Int64)) (((((p1.toInt64) * (1000000 : Int64)) - q3) - q4) + ((4 : Int64) * (q3 + q4))))), .second, .val (.int (1 : Int32))] [(.int (1 : Int32))])) _
    refine XS.ifNo X143.here hx rfl (hb hby at_171) rfl ((if0 _ _).trans (feq (by decide : ¬ ((1 : Int32) = (0 : Int32)))).1) ?_
    show Steps p.tables e below (T143.setTop (mkF m 174 #[.val (.int p1), .val (.int p2), .val (.long q3), .second, .val (.long q4), .second, .val (.ref b1), .val (.long ((p1.toInt64) * (1000000 : Int64))), .second, .val (.int (1 : Int32)), .val (.int (1 : Int32)), .val (.int (1 : Int32)), .val (.long (r13 ((p2.toInt64) * (1000000 : Int64)) (((((p1.toInt64) * (1000000 : Int64)) - q3) - q4) + ((4 : Int64) * (q3 + q4))))), .second, .val (.int (1 : Int32))] [])) _
    refine XS.iconst X143.here hx rfl (hb hby at_174) ?_
    show Steps p.tables e below (T143.setTop (mkF m 175 #[.val (.int p1), .val (.int p2), .val (.long q3), .second, .val (.long q4), .second, .val (.ref b1), .val (.long ((p1.toInt64) * (1000000 : Int64))), .second, .val (.int (1 : Int32)), .val (.int (1 : Int32)), .val (.int (1 : Int32)), .val (.long (r13 ((p2.toInt64) * (1000000 : Int64)) (((((p1.toInt64) * (1000000 : Int64)) - q3) - q4) + ((4 : Int64) * (q3 + q4))))), .second, .val (.int (1 : Int32))] [(.int (1 : Int32))])) _
    refine XS.goto X143.here hx rfl (pc0 := 175) (pc' := 179) rfl (hb hby at_175) (by decide) (by decide) ?_
    show Steps p.tables e below (T143.setTop (mkF m 179 #[.val (.int p1), .val (.int p2), .val (.long q3), .second, .val (.long q4), .second, .val (.ref b1), .val (.long ((p1.toInt64) * (1000000 : Int64))), .second, .val (.int (1 : Int32)), .val (.int (1 : Int32)), .val (.int (1 : Int32)), .val (.long (r13 ((p2.toInt64) * (1000000 : Int64)) (((((p1.toInt64) * (1000000 : Int64)) - q3) - q4) + ((4 : Int64) * (q3 + q4))))), .second, .val (.int (1 : Int32))] [(.int (1 : Int32))])) _
    exact kt
  obtain ⟨fs, hr, hrun, hended, hW, hsame⟩ := X143.leave (v := some (.int (1 : Int32))) (fun h => by rw [Bd.returns] at h; cases h)
  refine ⟨_, _, pre145 _ ?_, hrun, hended, _, _, rfl, ?_, ⟨_, rfl⟩, hW, hsame.mono (by decide) (by decide)⟩
  · exact retN X143 hx (t := .boolean) Bd.returns (by simp) (hb hby at_179) hr
  · show Q0 Z p1 p2 q3 q4 s_MILLISECONDS s_SECONDS h0 n0 _ T143.heap _
    rw [e143]
    exact ⟨rfl, N143⟩
set_option maxRecDepth 65536 in
set_option maxHeartbeats 40000000 in
theorem comes_1 {Post : Tables → Env → Array Value → State → Outcome → State → Prop} (hpost : ∀ tb e args s v u, (limb_1_1.after args s (.returned v) u = true ∧ limb_1_2.after args s (.returned v) u = true ∧ True) → FrameEnd s (.returned v) u (Jvm.fieldLocs frame_1_writes args s ++ Jvm.arrayLocs frame_1_arrays args s ++ Jvm.staticLocs frame_1_statics s) 16 128 → Post tb e args s (.returned v) u) :
    ArmFor flags0 classFile x code maxLocals ret World_1 tables_1 room_1 Calls_1 rest_1 Pre_1 Post := by
  intro l hfl _ _ p e ha hc hk s m args below hf hA hF happ hP
  obtain ⟨hcalls, hrest, hpre⟩ := hP
  obtain ⟨-, -, -, hnamed, -, -, -, hat⟩ := (Spec.applies_iff hf).mp happ
  obtain ⟨hg, hn⟩ := and_e (Cond.before_iff.mp (show (Jvm.Cond.and given_1 narrow_1).before args s = true from hpre))
  obtain ⟨g1, g2⟩ := and_e hg
  obtain ⟨g3, g4⟩ := and_e g2
  obtain ⟨g5, g6⟩ := and_e g4
  obtain ⟨g7, g8⟩ := and_e g6
  obtain ⟨w0, w1, w2, w3, rfl⟩ : ∃ w0 w1 w2 w3 : Value, args = #[w0, w1, w2, w3] := by
    have hs : args.size = 4 := by simpa [Cond.value, given_1] using g1
    obtain ⟨L⟩ := args
    match L, hs with
    | [w0, w1, w2, w3], _ => exact ⟨w0, w1, w2, w3, rfl⟩
  have hw := fun d (hd : d ∈ tables_1) => atoms_spec (ws := Jvm.Cond.code x code maxLocals ret :: tables_1) hat d (List.mem_cons_of_mem _ hd)
  have hfit : Fit s := fun {y c} hc i hi => by
    obtain ⟨ha, rfl⟩ := Array.getElem?_eq_some_iff.mp hc
    have q := List.all_eq_true.mp ((Array.all_eq_true_iff_forall_mem.mp hF) _ (Array.getElem_mem ha)) i (List.mem_range.mpr hi)
    simpa [Array.getElem?_eq_getElem hi] using q
  obtain ⟨hsets, hown0⟩ := atoms_of _ (rest_1_c_eq ▸ (show rest_1_c.before _ s = true from hrest))
  have hr0 := Cond.before_iff.mp hown0
  obtain ⟨i0, ei0⟩ := is_v g3
  obtain rfl : w0 = (.int i0) := Option.some.inj ei0
  obtain ⟨i1, ei1⟩ := is_v g5
  obtain rfl : w1 = (.int i1) := Option.some.inj ei1
  obtain ⟨i2, ei2⟩ := isL_v g7
  obtain rfl : w2 = (.long i2) := Option.some.inj ei2
  obtain ⟨i3, ei3⟩ := isL_v g8
  obtain rfl : w3 = (.long i3) := Option.some.inj ei3
  have hj2 := Cond.before_iff.mp (hsets _ (mgE 2 rfl))
  obtain ⟨s_MILLISECONDS, ev_s_MILLISECONDS⟩ := exa_v hj2
  have E_s_MILLISECONDS := Exa.start ev_s_MILLISECONDS hj2
  have S_MILLISECONDS := Sta.start ev_s_MILLISECONDS (Or.inl (hsets _ (mgE 1 rfl)))
  have F_ordinal_s_MILLISECONDS := own_fe ev_s_MILLISECONDS (Cond.before_iff.mp (hsets _ (mgE 4 rfl)))
  have F_scale_s_MILLISECONDS := own_feL ev_s_MILLISECONDS (Cond.before_iff.mp (hsets _ (mgE 5 rfl)))
  have F_maxNanos_s_MILLISECONDS := own_feL ev_s_MILLISECONDS (Cond.before_iff.mp (hsets _ (mgE 6 rfl)))
  have F_microRatio_s_MILLISECONDS := own_feL ev_s_MILLISECONDS (Cond.before_iff.mp (hsets _ (mgE 7 rfl)))
  have F_maxMicros_s_MILLISECONDS := own_feL ev_s_MILLISECONDS (Cond.before_iff.mp (hsets _ (mgE 8 rfl)))
  have F_milliRatio_s_MILLISECONDS := own_fe ev_s_MILLISECONDS (Cond.before_iff.mp (hsets _ (mgE 9 rfl)))
  have F_maxMillis_s_MILLISECONDS := own_feL ev_s_MILLISECONDS (Cond.before_iff.mp (hsets _ (mgE 10 rfl)))
  have F_secRatio_s_MILLISECONDS := own_fe ev_s_MILLISECONDS (Cond.before_iff.mp (hsets _ (mgE 11 rfl)))
  have F_maxSecs_s_MILLISECONDS := own_feL ev_s_MILLISECONDS (Cond.before_iff.mp (hsets _ (mgE 12 rfl)))
  have hj15 := Cond.before_iff.mp (hsets _ (mgE 15 rfl))
  obtain ⟨s_SECONDS, ev_s_SECONDS⟩ := exa_v hj15
  have E_s_SECONDS := Exa.start ev_s_SECONDS hj15
  have S_SECONDS := Sta.start ev_s_SECONDS (Or.inl (hsets _ (mgE 14 rfl)))
  have F_ordinal_s_SECONDS := own_fe ev_s_SECONDS (Cond.before_iff.mp (hsets _ (mgE 17 rfl)))
  have F_scale_s_SECONDS := own_feL ev_s_SECONDS (Cond.before_iff.mp (hsets _ (mgE 18 rfl)))
  have F_maxNanos_s_SECONDS := own_feL ev_s_SECONDS (Cond.before_iff.mp (hsets _ (mgE 19 rfl)))
  have F_microRatio_s_SECONDS := own_feL ev_s_SECONDS (Cond.before_iff.mp (hsets _ (mgE 20 rfl)))
  have F_maxMicros_s_SECONDS := own_feL ev_s_SECONDS (Cond.before_iff.mp (hsets _ (mgE 21 rfl)))
  have F_milliRatio_s_SECONDS := own_fe ev_s_SECONDS (Cond.before_iff.mp (hsets _ (mgE 22 rfl)))
  have F_maxMillis_s_SECONDS := own_feL ev_s_SECONDS (Cond.before_iff.mp (hsets _ (mgE 23 rfl)))
  have F_secRatio_s_SECONDS := own_fe ev_s_SECONDS (Cond.before_iff.mp (hsets _ (mgE 24 rfl)))
  have F_maxSecs_s_SECONDS := own_feL ev_s_SECONDS (Cond.before_iff.mp (hsets _ (mgE 25 rfl)))
  obtain ⟨n, o, h1, h2, h3, _, L, rfl, ⟨rfl, N⟩, hq⟩ := rm0 l s _ hw tables_1 i0 i1 i2 i3 s_MILLISECONDS s_SECONDS s.heap s.heap.size (Nat.le_refl _) S_MILLISECONDS F_scale_s_MILLISECONDS F_maxNanos_s_MILLISECONDS E_s_MILLISECONDS S_SECONDS F_scale_s_SECONDS F_maxNanos_s_SECONDS E_s_SECONDS p e ha hc hk s m _ below hf ((Spec.applies_iff_loose hf).mp happ).1 ⟨rfl, State.Warmed39.refl s, rfl⟩ trivial
  refine ⟨n, _, h1, h2, h3, hpost _ _ _ _ _ _ ⟨Cond.after_iff.mpr rfl, Cond.after_iff.mpr (eq_i res_at (Term.int_eval (1)) rfl), trivial⟩ ⟨hq.1, hq.2.1, (hq.2.2.sift fun y hy => Or.inr (N y hy)).mono (by decide) (by decide)⟩⟩
theorem main_1_1 : Claimed_1_1 := comes_1 fun _ _ _ _ _ _ h hF => ⟨h.1, hF⟩
theorem main_1_2 : Claimed_1_2 := comes_1 fun _ _ _ _ _ _ h hF => ⟨h.2.1, hF⟩
end Jvm.Pilot.@@N@@
namespace Jvm.Pilot.@@N@@
open Jvm Jvm.ClassFile Sem Op Lib Jvm.Free Jvm.Stand Jvm.Pilot.@@N@@.Jvm.D
/-! MADE BY PROGRAM (witnessworld.py) out of the Statement's table words and the real class files: 19 classes; the members and pool entries that the words name. The judged class is class 1, her method 1. -/
namespace start1
open Jvm.ClassFile
def u (s : String) : CpInfo := .utf8 (stringToUtf16 s)
/-- a pool by its gaps: so many unusable entries, then the entry; so many at the end -/
def gap : Nat → List CpInfo → List CpInfo
  | 0, r => r
  | n + 1, r => .unusable :: gap n r
def poolList (es : List (Nat × CpInfo)) (last : Nat) : List CpInfo := es.foldr (fun e r => gap e.1 (e.2 :: r)) (gap last [])
def pool (es : List (Nat × CpInfo)) (last : Nat) : Array CpInfo := ⟨poolList es last⟩
def fileOf (pool : Array CpInfo) (this : Nat) (attrs : Array Attribute := #[]) (ms : Array MethodInfo := #[]) (fl : Nat := 33) (sup : Nat := 0) (ifs : Array Nat := #[]) (fds : Array FieldInfo := #[]) : ClassFile where
  minorVersion := 0
  majorVersion := 65
  constantPool := pool
  accessFlags := fl
  thisClass := this
  superClass := sup
  interfaces := ifs
  fields := fds
  methods := ms
  attributes := attrs
def plain (name : String) (sup : Option ClassId) : Class where
  name := name
  kind := .ordinary
  loader := none
  accessFlags := 33
  super := sup
  interfaces := #[]
  cf := none
  fields := #[]
  methods := #[]
  instanceTypes := #[]
  staticTypes := #[]
  resolved := #[]
  callSites := []
  init := .initialized
  statics := none
  mirror := none

def pool0 : Array CpInfo := pool [(5, u "<init>"), (0, u "()V"), (1, .class_ 10), (1, u "java/lang/Object")] 113

def k0c0 : Code := { maxStack := 0, maxLocals := 1, code := object_method_1_code, exceptionTable := #[], attributes := #[] }
def k0m0 : Method := { name := "<init>", desc := "()V", sig := { parameters := [], returnType := none }, accessFlags := 1, code := some k0c0 }
/-- java/lang/Object -/
def k0 : Class := { plain "java/lang/Object" none with
  accessFlags := 33
  interfaces := #[]
  cf := some (fileOf pool0 8 #[] #[{ accessFlags := 1, nameIndex := 5, descriptorIndex := 6, attributes := #[] }] 33 0 #[] #[])
  fields := #[]
  methods := #[k0m0]
  instanceTypes := #[]
  staticTypes := #[]
  resolved := Array.replicate 124 none
  statics := none }

def pool1 : Array CpInfo := pool [(2, .class_ 4), (1, u "java/lang/Object"), (0, u "<init>"), (0, u "()V"), (0, .class_ 8), (0, u "com/example/commonroom/commonroom/http/Patience"), (0, .class_ 10), (0, u "com/example/commonroom/commonroom/http/Limits$Pace"), (0, .methodref 9 12), (0, .nameAndType 5 13), (0, u "(III)V"), (0, .methodref 7 15), (0, .nameAndType 5 16), (0, u "(Lcom/example/commonroom/commonroom/http/Limits$Pace;)V"), (0, .long 1000000), (1, .methodref 7 20), (0, .nameAndType 21 22), (0, u "leftNanos"), (0, u "()J"), (0, .methodref 7 24), (0, .nameAndType 25 26), (0, u "waited"), (0, u "(J)V"), (2, .long 9223372036854775807), (1, .methodref 7 32), (0, .nameAndType 33 26), (0, u "moved"), (0, .long 4), (1, .methodref 37 38), (0, .class_ 39), (0, .nameAndType 40 41), (0, u "java/lang/Math"), (0, u "min"), (0, u "(JJ)J"), (0, .class_ 43), (0, u "com/example/commonroom/commonroom/http/PatienceWaitedPinLaw"), (2, u "law"), (0, u "(IIJJ)Z")] 7

def k1m0 : Method := { name := "<init>", desc := "()V", sig := { parameters := [], returnType := none }, accessFlags := 1, code := none }
def k1c1 : Code := { maxStack := 10, maxLocals := 15, code := code, exceptionTable := #[], attributes := #[] }
def k1m1 : Method := { name := "law", desc := "(IIJJ)Z", sig := { parameters := [.int, .int, .long, .long], returnType := some .boolean }, accessFlags := 9, code := some k1c1 }
/-- com/example/commonroom/commonroom/http/PatienceWaitedPinLaw -/
def k1 : Class := { plain "com/example/commonroom/commonroom/http/PatienceWaitedPinLaw" (some 0) with
  accessFlags := 49
  interfaces := #[]
  cf := some (fileOf pool1 42 #[] #[{ accessFlags := 1, nameIndex := 5, descriptorIndex := 6, attributes := #[] }, { accessFlags := 9, nameIndex := 46, descriptorIndex := 47, attributes := #[] }] 49 2 #[] #[])
  fields := #[]
  methods := #[k1m0, k1m1]
  instanceTypes := #[]
  staticTypes := #[]
  resolved := Array.replicate 55 none
  statics := none }

def pool2 : Array CpInfo := pool [(1, .methodref 2 3), (0, .class_ 4), (0, .nameAndType 5 6), (0, u "java/lang/Object"), (0, u "<init>"), (0, u "()V"), (0, .fieldref 8 9), (0, .class_ 10), (0, .nameAndType 11 12), (0, u "java/util/concurrent/TimeUnit"), (0, u "MILLISECONDS"), (0, u "Ljava/util/concurrent/TimeUnit;"), (0, .methodref 14 15), (0, .class_ 16), (0, .nameAndType 17 18), (0, u "com/example/commonroom/commonroom/http/Limits$Pace"), (0, u "graceMillis"), (0, u "()I"), (0, .methodref 8 20), (0, .nameAndType 21 22), (0, u "toNanos"), (0, u "(J)J"), (0, .fieldref 24 25), (0, .class_ 26), (0, .nameAndType 27 28), (0, u "com/example/commonroom/commonroom/http/Patience"), (0, u "graceNanos"), (0, u "J"), (0, .methodref 14 30), (0, .nameAndType 31 18), (0, u "mostAheadMillis"), (0, .fieldref 24 33), (0, .nameAndType 34 28), (0, u "mostAheadNanos"), (0, .methodref 14 36), (0, .nameAndType 37 18), (0, u "bytesPerSecond"), (0, .fieldref 24 39), (0, .nameAndType 37 28), (0, .methodref 24 41), (0, .nameAndType 42 6), (0, u "renew"), (0, .fieldref 24 44), (0, .nameAndType 45 28), (0, u "leftNanos"), (0, .fieldref 24 47), (0, .nameAndType 48 28), (0, u "waitedNanos"), (7, .class_ 58), (1, u "java/lang/Math"), (1, u "(JJ)J"), (0, .fieldref 8 62), (0, .nameAndType 63 12), (0, u "SECONDS"), (0, .long 4), (1, .methodref 56 67), (0, .nameAndType 68 60), (0, u "min"), (0, u "MOST_EARNED_PER_WAIT"), (0, u "I"), (2, u "(Lcom/example/commonroom/commonroom/http/Limits$Pace;)V"), (2, u "()J"), (1, u "waited"), (0, u "(J)V"), (0, u "moved")] 6

def k2c0 : Code := { maxStack := 4, maxLocals := 2, code := prog_41_method_1_code, exceptionTable := #[], attributes := #[] }
def k2m0 : Method := { name := "<init>", desc := "(Lcom/example/commonroom/commonroom/http/Limits$Pace;)V", sig := { parameters := [(.object "com/example/commonroom/commonroom/http/Limits$Pace")], returnType := none }, accessFlags := 0, code := some k2c0 }
def k2c1 : Code := { maxStack := 3, maxLocals := 1, code := prog_41_method_2_code, exceptionTable := #[], attributes := #[] }
def k2m1 : Method := { name := "renew", desc := "()V", sig := { parameters := [], returnType := none }, accessFlags := 0, code := some k2c1 }
def k2c2 : Code := { maxStack := 2, maxLocals := 1, code := prog_41_method_3_code, exceptionTable := #[], attributes := #[] }
def k2m2 : Method := { name := "leftNanos", desc := "()J", sig := { parameters := [], returnType := some .long }, accessFlags := 0, code := some k2c2 }
def k2c3 : Code := { maxStack := 5, maxLocals := 3, code := prog_41_method_5_code, exceptionTable := #[], attributes := #[] }
def k2m3 : Method := { name := "waited", desc := "(J)V", sig := { parameters := [.long], returnType := none }, accessFlags := 0, code := some k2c3 }
def k2c4 : Code := { maxStack := 7, maxLocals := 5, code := prog_41_method_6_code, exceptionTable := #[], attributes := #[] }
def k2m4 : Method := { name := "moved", desc := "(J)V", sig := { parameters := [.long], returnType := none }, accessFlags := 0, code := some k2c4 }
/-- com/example/commonroom/commonroom/http/Patience -/
def k2 : Class := { plain "com/example/commonroom/commonroom/http/Patience" (some 0) with
  accessFlags := 48
  interfaces := #[]
  cf := some (fileOf pool2 24 #[] #[{ accessFlags := 0, nameIndex := 5, descriptorIndex := 73, attributes := #[] }, { accessFlags := 0, nameIndex := 42, descriptorIndex := 6, attributes := #[] }, { accessFlags := 0, nameIndex := 45, descriptorIndex := 76, attributes := #[] }, { accessFlags := 0, nameIndex := 78, descriptorIndex := 79, attributes := #[] }, { accessFlags := 0, nameIndex := 80, descriptorIndex := 79, attributes := #[] }] 48 2 #[] #[{ accessFlags := 26, nameIndex := 69, descriptorIndex := 70, attributes := #[] }, { accessFlags := 18, nameIndex := 27, descriptorIndex := 28, attributes := #[] }, { accessFlags := 18, nameIndex := 34, descriptorIndex := 28, attributes := #[] }, { accessFlags := 18, nameIndex := 37, descriptorIndex := 28, attributes := #[] }, { accessFlags := 2, nameIndex := 45, descriptorIndex := 28, attributes := #[] }, { accessFlags := 2, nameIndex := 48, descriptorIndex := 28, attributes := #[] }])
  fields := #[{ name := "MOST_EARNED_PER_WAIT", type := .int, accessFlags := 26, slot := 0, constantValue := 0 }, { name := "graceNanos", type := .long, accessFlags := 18, slot := 0, constantValue := 0 }, { name := "mostAheadNanos", type := .long, accessFlags := 18, slot := 1, constantValue := 0 }, { name := "bytesPerSecond", type := .long, accessFlags := 18, slot := 2, constantValue := 0 }, { name := "leftNanos", type := .long, accessFlags := 2, slot := 3, constantValue := 0 }, { name := "waitedNanos", type := .long, accessFlags := 2, slot := 4, constantValue := 0 }]
  methods := #[k2m0, k2m1, k2m2, k2m3, k2m4]
  instanceTypes := #[.long, .long, .long, .long, .long]
  staticTypes := #[.int]
  resolved := Array.replicate 87 none
  statics := none }

def pool3 : Array CpInfo := pool [(1, .methodref 2 3), (0, .class_ 4), (0, .nameAndType 5 6), (0, u "java/lang/Object"), (0, u "<init>"), (0, u "()V"), (0, .class_ 8), (0, u "java/lang/Record")] 13

def k3c0 : Code := { maxStack := 1, maxLocals := 1, code := jdk_30_method_1_code, exceptionTable := #[], attributes := #[] }
def k3m0 : Method := { name := "<init>", desc := "()V", sig := { parameters := [], returnType := none }, accessFlags := 4, code := some k3c0 }
/-- java/lang/Record -/
def k3 : Class := { plain "java/lang/Record" (some 0) with
  accessFlags := 1057
  interfaces := #[]
  cf := some (fileOf pool3 7 #[] #[{ accessFlags := 4, nameIndex := 5, descriptorIndex := 6, attributes := #[] }] 1057 2 #[] #[])
  fields := #[]
  methods := #[k3m0]
  instanceTypes := #[]
  staticTypes := #[]
  resolved := Array.replicate 22 none
  statics := none }

def pool4 : Array CpInfo := pool [(1, .methodref 2 3), (0, .class_ 4), (0, .nameAndType 5 6), (0, u "java/lang/Record"), (0, u "<init>"), (0, u "()V"), (0, .fieldref 8 9), (0, .class_ 10), (0, .nameAndType 11 12), (0, u "com/example/commonroom/commonroom/http/Limits$Pace"), (0, u "graceMillis"), (0, u "I"), (0, .fieldref 8 14), (0, .nameAndType 15 12), (0, u "bytesPerSecond"), (0, .fieldref 8 17), (0, .nameAndType 18 12), (0, u "mostAheadMillis"), (12, u "(III)V"), (4, u "()I"), (4, .class_ 42), (0, u "com/example/commonroom/commonroom/http/Limits")] 21

def k4c0 : Code := { maxStack := 2, maxLocals := 4, code := prog_34_method_1_code, exceptionTable := #[], attributes := #[] }
def k4m0 : Method := { name := "<init>", desc := "(III)V", sig := { parameters := [.int, .int, .int], returnType := none }, accessFlags := 0, code := some k4c0 }
def k4c1 : Code := { maxStack := 1, maxLocals := 1, code := prog_34_method_5_code, exceptionTable := #[], attributes := #[] }
def k4m1 : Method := { name := "graceMillis", desc := "()I", sig := { parameters := [], returnType := some .int }, accessFlags := 1, code := some k4c1 }
def k4c2 : Code := { maxStack := 1, maxLocals := 1, code := prog_34_method_6_code, exceptionTable := #[], attributes := #[] }
def k4m2 : Method := { name := "bytesPerSecond", desc := "()I", sig := { parameters := [], returnType := some .int }, accessFlags := 1, code := some k4c2 }
def k4c3 : Code := { maxStack := 1, maxLocals := 1, code := prog_34_method_7_code, exceptionTable := #[], attributes := #[] }
def k4m3 : Method := { name := "mostAheadMillis", desc := "()I", sig := { parameters := [], returnType := some .int }, accessFlags := 1, code := some k4c3 }
/-- com/example/commonroom/commonroom/http/Limits$Pace -/
def k4 : Class := { plain "com/example/commonroom/commonroom/http/Limits$Pace" (some 3) with
  accessFlags := 48
  interfaces := #[]
  cf := some (fileOf pool4 8 #[.nestHost 41] #[{ accessFlags := 0, nameIndex := 5, descriptorIndex := 31, attributes := #[] }, { accessFlags := 1, nameIndex := 11, descriptorIndex := 36, attributes := #[] }, { accessFlags := 1, nameIndex := 15, descriptorIndex := 36, attributes := #[] }, { accessFlags := 1, nameIndex := 18, descriptorIndex := 36, attributes := #[] }] 48 2 #[] #[{ accessFlags := 18, nameIndex := 11, descriptorIndex := 12, attributes := #[] }, { accessFlags := 18, nameIndex := 15, descriptorIndex := 12, attributes := #[] }, { accessFlags := 18, nameIndex := 18, descriptorIndex := 12, attributes := #[] }])
  fields := #[{ name := "graceMillis", type := .int, accessFlags := 18, slot := 0, constantValue := 0 }, { name := "bytesPerSecond", type := .int, accessFlags := 18, slot := 1, constantValue := 0 }, { name := "mostAheadMillis", type := .int, accessFlags := 18, slot := 2, constantValue := 0 }]
  methods := #[k4m0, k4m1, k4m2, k4m3]
  instanceTypes := #[.int, .int, .int]
  staticTypes := #[]
  resolved := Array.replicate 64 none
  statics := none }

def pool5 : Array CpInfo := pool [(1, .class_ 2), (0, u "java/lang/constant/Constable"), (0, .class_ 4), (0, u "java/lang/Object")] 6

/-- java/lang/constant/Constable -/
def k5 : Class := { plain "java/lang/constant/Constable" (some 0) with
  accessFlags := 1537
  interfaces := #[]
  cf := some (fileOf pool5 1 #[] #[] 1537 3 #[] #[])
  fields := #[]
  methods := #[]
  instanceTypes := #[]
  staticTypes := #[]
  resolved := Array.replicate 11 none
  statics := none }

def pool6 : Array CpInfo := pool [(1, .class_ 2), (0, u "java/lang/Comparable"), (0, .class_ 4), (0, u "java/lang/Object")] 7

/-- java/lang/Comparable -/
def k6 : Class := { plain "java/lang/Comparable" (some 0) with
  accessFlags := 1537
  interfaces := #[]
  cf := some (fileOf pool6 1 #[] #[] 1537 3 #[] #[])
  fields := #[]
  methods := #[]
  instanceTypes := #[]
  staticTypes := #[]
  resolved := Array.replicate 12 none
  statics := none }

def pool7 : Array CpInfo := pool [(1, .class_ 2), (0, u "java/io/Serializable"), (0, .class_ 4), (0, u "java/lang/Object")] 2

/-- java/io/Serializable -/
def k7 : Class := { plain "java/io/Serializable" (some 0) with
  accessFlags := 1537
  interfaces := #[]
  cf := some (fileOf pool7 1 #[] #[] 1537 3 #[] #[])
  fields := #[]
  methods := #[]
  instanceTypes := #[]
  staticTypes := #[]
  resolved := Array.replicate 7 none
  statics := none }

def pool8 : Array CpInfo := pool [(2, .class_ 4), (1, u "java/lang/Enum"), (0, u "name"), (0, u "Ljava/lang/String;"), (2, u "ordinal"), (0, u "I"), (1, .class_ 14), (1, u "java/lang/Object"), (4, u "hash"), (86, .class_ 108), (1, u "java/lang/Enum$EnumDesc"), (2, .class_ 112), (0, u "java/lang/constant/Constable"), (0, .class_ 114), (0, u "java/lang/Comparable"), (0, .class_ 116), (0, u "java/io/Serializable")] 87

/-- java/lang/Enum -/
def k8 : Class := { plain "java/lang/Enum" (some 0) with
  accessFlags := 1057
  interfaces := #[5, 6, 7]
  cf := some (fileOf pool8 2 #[.nestMembers #[106]] #[] 1057 12 #[111, 113, 115] #[{ accessFlags := 18, nameIndex := 5, descriptorIndex := 6, attributes := #[] }, { accessFlags := 18, nameIndex := 9, descriptorIndex := 10, attributes := #[] }, { accessFlags := 2, nameIndex := 19, descriptorIndex := 10, attributes := #[] }])
  fields := #[{ name := "name", type := (.object "java/lang/String"), accessFlags := 18, slot := 0, constantValue := 0 }, { name := "ordinal", type := .int, accessFlags := 18, slot := 1, constantValue := 0 }, { name := "hash", type := .int, accessFlags := 2, slot := 2, constantValue := 0 }]
  methods := #[]
  instanceTypes := #[(.object "java/lang/String"), .int, .int]
  staticTypes := #[]
  resolved := Array.replicate 204 none
  statics := none }

def pool9 : Array CpInfo := pool [(1, .class_ 2), (0, u "java/util/concurrent/TimeUnit"), (2, u "NANOSECONDS"), (0, u "Ljava/util/concurrent/TimeUnit;"), (2, u "MICROSECONDS"), (2, u "MILLISECONDS"), (2, u "SECONDS"), (2, u "MINUTES"), (2, u "HOURS"), (2, u "DAYS"), (2, u "$VALUES"), (0, u "[Ljava/util/concurrent/TimeUnit;"), (6, .class_ 37), (1, u "java/lang/Enum"), (6, .fieldref 1 45), (0, .nameAndType 46 47), (0, u "scale"), (0, u "J"), (2, .long 9223372036854775807), (1, .fieldref 1 53), (0, .nameAndType 54 47), (0, u "maxNanos"), (4, u "microRatio"), (2, u "maxMicros"), (4, u "milliRatio"), (0, u "I"), (2, u "maxMillis"), (4, u "secRatio"), (2, u "maxSecs"), (8, u "toNanos"), (0, u "(J)J"), (73, .class_ 165), (1, u "java/util/concurrent/TimeUnit$1"), (46, u "NANO_SCALE"), (3, u "MICRO_SCALE"), (0, u "MILLI_SCALE"), (0, u "SECOND_SCALE"), (0, u "MINUTE_SCALE"), (0, u "HOUR_SCALE"), (0, u "DAY_SCALE")] 61

def k9c0 : Code := { maxStack := 6, maxLocals := 7, code := jdk_2799_method_7_code, exceptionTable := #[], attributes := #[] }
def k9m0 : Method := { name := "toNanos", desc := "(J)J", sig := { parameters := [.long], returnType := some .long }, accessFlags := 1, code := some k9c0 }
/-- java/util/concurrent/TimeUnit -/
def k9 : Class := { plain "java/util/concurrent/TimeUnit" (some 8) with
  accessFlags := 16433
  interfaces := #[]
  cf := some (fileOf pool9 1 #[.nestMembers #[163]] #[{ accessFlags := 1, nameIndex := 88, descriptorIndex := 89, attributes := #[] }] 16433 35 #[] #[{ accessFlags := 16409, nameIndex := 5, descriptorIndex := 6, attributes := #[] }, { accessFlags := 16409, nameIndex := 9, descriptorIndex := 6, attributes := #[] }, { accessFlags := 16409, nameIndex := 12, descriptorIndex := 6, attributes := #[] }, { accessFlags := 16409, nameIndex := 15, descriptorIndex := 6, attributes := #[] }, { accessFlags := 16409, nameIndex := 18, descriptorIndex := 6, attributes := #[] }, { accessFlags := 16409, nameIndex := 21, descriptorIndex := 6, attributes := #[] }, { accessFlags := 16409, nameIndex := 24, descriptorIndex := 6, attributes := #[] }, { accessFlags := 26, nameIndex := 212, descriptorIndex := 47, attributes := #[] }, { accessFlags := 26, nameIndex := 216, descriptorIndex := 47, attributes := #[] }, { accessFlags := 26, nameIndex := 217, descriptorIndex := 47, attributes := #[] }, { accessFlags := 26, nameIndex := 218, descriptorIndex := 47, attributes := #[] }, { accessFlags := 26, nameIndex := 219, descriptorIndex := 47, attributes := #[] }, { accessFlags := 26, nameIndex := 220, descriptorIndex := 47, attributes := #[] }, { accessFlags := 26, nameIndex := 221, descriptorIndex := 47, attributes := #[] }, { accessFlags := 18, nameIndex := 46, descriptorIndex := 47, attributes := #[] }, { accessFlags := 18, nameIndex := 54, descriptorIndex := 47, attributes := #[] }, { accessFlags := 18, nameIndex := 62, descriptorIndex := 47, attributes := #[] }, { accessFlags := 18, nameIndex := 71, descriptorIndex := 47, attributes := #[] }, { accessFlags := 18, nameIndex := 79, descriptorIndex := 47, attributes := #[] }, { accessFlags := 18, nameIndex := 59, descriptorIndex := 47, attributes := #[] }, { accessFlags := 18, nameIndex := 67, descriptorIndex := 68, attributes := #[] }, { accessFlags := 18, nameIndex := 76, descriptorIndex := 68, attributes := #[] }, { accessFlags := 4122, nameIndex := 27, descriptorIndex := 28, attributes := #[] }])
  fields := #[{ name := "NANOSECONDS", type := (.object "java/util/concurrent/TimeUnit"), accessFlags := 16409, slot := 0, constantValue := 0 }, { name := "MICROSECONDS", type := (.object "java/util/concurrent/TimeUnit"), accessFlags := 16409, slot := 1, constantValue := 0 }, { name := "MILLISECONDS", type := (.object "java/util/concurrent/TimeUnit"), accessFlags := 16409, slot := 2, constantValue := 0 }, { name := "SECONDS", type := (.object "java/util/concurrent/TimeUnit"), accessFlags := 16409, slot := 3, constantValue := 0 }, { name := "MINUTES", type := (.object "java/util/concurrent/TimeUnit"), accessFlags := 16409, slot := 4, constantValue := 0 }, { name := "HOURS", type := (.object "java/util/concurrent/TimeUnit"), accessFlags := 16409, slot := 5, constantValue := 0 }, { name := "DAYS", type := (.object "java/util/concurrent/TimeUnit"), accessFlags := 16409, slot := 6, constantValue := 0 }, { name := "NANO_SCALE", type := .long, accessFlags := 26, slot := 7, constantValue := 0 }, { name := "MICRO_SCALE", type := .long, accessFlags := 26, slot := 8, constantValue := 0 }, { name := "MILLI_SCALE", type := .long, accessFlags := 26, slot := 9, constantValue := 0 }, { name := "SECOND_SCALE", type := .long, accessFlags := 26, slot := 10, constantValue := 0 }, { name := "MINUTE_SCALE", type := .long, accessFlags := 26, slot := 11, constantValue := 0 }, { name := "HOUR_SCALE", type := .long, accessFlags := 26, slot := 12, constantValue := 0 }, { name := "DAY_SCALE", type := .long, accessFlags := 26, slot := 13, constantValue := 0 }, { name := "scale", type := .long, accessFlags := 18, slot := 3, constantValue := 0 }, { name := "maxNanos", type := .long, accessFlags := 18, slot := 4, constantValue := 0 }, { name := "maxMicros", type := .long, accessFlags := 18, slot := 5, constantValue := 0 }, { name := "maxMillis", type := .long, accessFlags := 18, slot := 6, constantValue := 0 }, { name := "maxSecs", type := .long, accessFlags := 18, slot := 7, constantValue := 0 }, { name := "microRatio", type := .long, accessFlags := 18, slot := 8, constantValue := 0 }, { name := "milliRatio", type := .int, accessFlags := 18, slot := 9, constantValue := 0 }, { name := "secRatio", type := .int, accessFlags := 18, slot := 10, constantValue := 0 }, { name := "$VALUES", type := (.array (.object "java/util/concurrent/TimeUnit")), accessFlags := 4122, slot := 14, constantValue := 0 }]
  methods := #[k9m0]
  instanceTypes := #[(.object "java/lang/String"), .int, .int, .long, .long, .long, .long, .long, .long, .int, .int]
  staticTypes := #[(.object "java/util/concurrent/TimeUnit"), (.object "java/util/concurrent/TimeUnit"), (.object "java/util/concurrent/TimeUnit"), (.object "java/util/concurrent/TimeUnit"), (.object "java/util/concurrent/TimeUnit"), (.object "java/util/concurrent/TimeUnit"), (.object "java/util/concurrent/TimeUnit"), .long, .long, .long, .long, .long, .long, .long, (.array (.object "java/util/concurrent/TimeUnit"))]
  resolved := Array.replicate 283 none
  statics := some 0 }

def pool10 : Array CpInfo := pool [(1, .class_ 2), (0, u "java/lang/Math"), (1, .class_ 6), (1, u "java/lang/Object"), (0, u "<init>"), (0, u "()V"), (89, .class_ 100), (1, u "java/lang/Math$RandomNumberGeneratorHolder"), (20, u "(JJ)J"), (50, u "negativeZeroFloatBits"), (0, u "J"), (2, u "negativeZeroDoubleBits"), (24, u "min"), (43, u "$assertionsDisabled"), (0, u "Z"), (91, u "twoToTheDoubleScaleDown"), (0, u "D"), (4, u "twoToTheDoubleScaleUp"), (9, u "E"), (3, u "PI"), (2, u "TAU"), (2, u "DEGREES_TO_RADIANS"), (0, u "RADIANS_TO_DEGREES")] 94

def k10m0 : Method := { name := "<init>", desc := "()V", sig := { parameters := [], returnType := none }, accessFlags := 2, code := none }
def k10c1 : Code := { maxStack := 4, maxLocals := 4, code := jdk_29_method_70_code, exceptionTable := #[], attributes := #[] }
def k10m1 : Method := { name := "min", desc := "(JJ)J", sig := { parameters := [.long, .long], returnType := some .long }, accessFlags := 9, code := some k10c1 }
/-- java/lang/Math -/
def k10 : Class := { plain "java/lang/Math" (some 0) with
  accessFlags := 49
  interfaces := #[]
  cf := some (fileOf pool10 1 #[.nestMembers #[98]] #[{ accessFlags := 2, nameIndex := 7, descriptorIndex := 8, attributes := #[] }, { accessFlags := 9, nameIndex := 201, descriptorIndex := 121, attributes := #[] }] 49 4 #[] #[{ accessFlags := 25, nameIndex := 354, descriptorIndex := 339, attributes := #[] }, { accessFlags := 25, nameIndex := 358, descriptorIndex := 339, attributes := #[] }, { accessFlags := 25, nameIndex := 361, descriptorIndex := 339, attributes := #[] }, { accessFlags := 26, nameIndex := 364, descriptorIndex := 339, attributes := #[] }, { accessFlags := 26, nameIndex := 365, descriptorIndex := 339, attributes := #[] }, { accessFlags := 26, nameIndex := 172, descriptorIndex := 173, attributes := #[] }, { accessFlags := 26, nameIndex := 176, descriptorIndex := 173, attributes := #[] }, { accessFlags := 8, nameIndex := 344, descriptorIndex := 339, attributes := #[] }, { accessFlags := 8, nameIndex := 338, descriptorIndex := 339, attributes := #[] }, { accessFlags := 4120, nameIndex := 245, descriptorIndex := 246, attributes := #[] }])
  fields := #[{ name := "E", type := .double, accessFlags := 25, slot := 0, constantValue := 0 }, { name := "PI", type := .double, accessFlags := 25, slot := 1, constantValue := 0 }, { name := "TAU", type := .double, accessFlags := 25, slot := 2, constantValue := 0 }, { name := "DEGREES_TO_RADIANS", type := .double, accessFlags := 26, slot := 3, constantValue := 0 }, { name := "RADIANS_TO_DEGREES", type := .double, accessFlags := 26, slot := 4, constantValue := 0 }, { name := "negativeZeroFloatBits", type := .long, accessFlags := 26, slot := 5, constantValue := 0 }, { name := "negativeZeroDoubleBits", type := .long, accessFlags := 26, slot := 6, constantValue := 0 }, { name := "twoToTheDoubleScaleUp", type := .double, accessFlags := 8, slot := 7, constantValue := 0 }, { name := "twoToTheDoubleScaleDown", type := .double, accessFlags := 8, slot := 8, constantValue := 0 }, { name := "$assertionsDisabled", type := .boolean, accessFlags := 4120, slot := 9, constantValue := 0 }]
  methods := #[k10m0, k10m1]
  instanceTypes := #[]
  staticTypes := #[.double, .double, .double, .double, .double, .long, .long, .double, .double, .boolean]
  resolved := Array.replicate 460 none
  statics := none }

def pool11 : Array CpInfo := pool [(2, .class_ 4), (1, u "java/lang/CharSequence"), (42, .class_ 48), (0, u "java/lang/CharSequence$1CodePointIterator"), (10, .class_ 60), (0, u "java/lang/CharSequence$1CharIterator"), (5, .class_ 67), (0, u "java/lang/Object")] 63

/-- java/lang/CharSequence -/
def k11 : Class := { plain "java/lang/CharSequence" (some 0) with
  accessFlags := 1537
  interfaces := #[]
  cf := some (fileOf pool11 2 #[.nestMembers #[47, 59]] #[] 1537 66 #[] #[])
  fields := #[]
  methods := #[]
  instanceTypes := #[]
  staticTypes := #[]
  resolved := Array.replicate 131 none
  statics := none }

def pool12 : Array CpInfo := pool [(1, .class_ 2), (0, u "java/lang/constant/ConstantDesc"), (0, .class_ 4), (0, u "java/lang/Object")] 32

/-- java/lang/constant/ConstantDesc -/
def k12 : Class := { plain "java/lang/constant/ConstantDesc" (some 0) with
  accessFlags := 1537
  interfaces := #[]
  cf := some (fileOf pool12 1 #[] #[] 1537 3 #[] #[])
  fields := #[]
  methods := #[]
  instanceTypes := #[]
  staticTypes := #[]
  resolved := Array.replicate 37 none
  statics := none }

def pool13 : Array CpInfo := pool [(2, .class_ 4), (1, u "java/lang/Object"), (0, u "<init>"), (0, u "()V"), (3, .class_ 12), (1, u "java/lang/String"), (0, u "value"), (0, u "[B"), (2, u "coder"), (0, u "B"), (2, u "hash"), (0, u "I"), (2, u "hashIsZero"), (0, u "Z"), (13, u "COMPACT_STRINGS"), (534, .class_ 576), (0, u "java/lang/CharSequence"), (22, u "CASE_INSENSITIVE_ORDER"), (0, u "Ljava/util/Comparator;"), (500, u "serialPersistentFields"), (0, u "[Ljava/io/ObjectStreamField;"), (0, .class_ 1104), (0, u "java/lang/String$CaseInsensitiveComparator"), (1, .class_ 1107), (0, u "java/io/Serializable"), (0, .class_ 1109), (0, u "java/lang/Comparable"), (0, .class_ 1111), (0, u "java/lang/constant/Constable"), (0, .class_ 1113), (0, u "java/lang/constant/ConstantDesc"), (2, u "serialVersionUID"), (0, u "J"), (3, u "REPL"), (0, u "C"), (2, u "LATIN1"), (1, u "UTF16")] 323

def k13m0 : Method := { name := "<init>", desc := "()V", sig := { parameters := [], returnType := none }, accessFlags := 1, code := none }
/-- java/lang/String -/
def k13 : Class := { plain "java/lang/String" (some 0) with
  accessFlags := 49
  interfaces := #[7, 6, 11, 5, 12]
  cf := some (fileOf pool13 10 #[.nestMembers #[1103]] #[{ accessFlags := 1, nameIndex := 5, descriptorIndex := 6, attributes := #[] }] 49 2 #[1106, 1108, 575, 1110, 1112] #[{ accessFlags := 18, nameIndex := 13, descriptorIndex := 14, attributes := #[] }, { accessFlags := 18, nameIndex := 17, descriptorIndex := 18, attributes := #[] }, { accessFlags := 2, nameIndex := 21, descriptorIndex := 22, attributes := #[] }, { accessFlags := 2, nameIndex := 25, descriptorIndex := 26, attributes := #[] }, { accessFlags := 26, nameIndex := 1116, descriptorIndex := 1117, attributes := #[] }, { accessFlags := 24, nameIndex := 40, descriptorIndex := 26, attributes := #[] }, { accessFlags := 26, nameIndex := 1101, descriptorIndex := 1102, attributes := #[] }, { accessFlags := 26, nameIndex := 1121, descriptorIndex := 1122, attributes := #[] }, { accessFlags := 25, nameIndex := 599, descriptorIndex := 600, attributes := #[] }, { accessFlags := 24, nameIndex := 1125, descriptorIndex := 18, attributes := #[] }, { accessFlags := 24, nameIndex := 1127, descriptorIndex := 18, attributes := #[] }])
  fields := #[{ name := "value", type := (.array .byte), accessFlags := 18, slot := 0, constantValue := 0 }, { name := "coder", type := .byte, accessFlags := 18, slot := 1, constantValue := 0 }, { name := "hash", type := .int, accessFlags := 2, slot := 2, constantValue := 0 }, { name := "hashIsZero", type := .boolean, accessFlags := 2, slot := 3, constantValue := 0 }, { name := "serialVersionUID", type := .long, accessFlags := 26, slot := 0, constantValue := 0 }, { name := "COMPACT_STRINGS", type := .boolean, accessFlags := 24, slot := 1, constantValue := 0 }, { name := "serialPersistentFields", type := (.array (.object "java/io/ObjectStreamField")), accessFlags := 26, slot := 2, constantValue := 0 }, { name := "REPL", type := .char, accessFlags := 26, slot := 3, constantValue := 0 }, { name := "CASE_INSENSITIVE_ORDER", type := (.object "java/util/Comparator"), accessFlags := 25, slot := 4, constantValue := 0 }, { name := "LATIN1", type := .byte, accessFlags := 24, slot := 5, constantValue := 0 }, { name := "UTF16", type := .byte, accessFlags := 24, slot := 6, constantValue := 0 }]
  methods := #[k13m0]
  instanceTypes := #[(.array .byte), .byte, .int, .boolean]
  staticTypes := #[.long, .boolean, (.array (.object "java/io/ObjectStreamField")), .char, (.object "java/util/Comparator"), .byte, .byte]
  resolved := Array.replicate 1451 none
  statics := none }

def pool14 : Array CpInfo := pool [(1, u "java/lang/Cloneable"), (0, .class_ 1), (0, u "java/lang/Object"), (0, .class_ 3)] 3

/-- java/lang/Cloneable -/
def k14 : Class := { plain "java/lang/Cloneable" (some 0) with
  accessFlags := 1537
  interfaces := #[]
  cf := some (fileOf pool14 2 #[] #[] 1537 4 #[] #[])
  fields := #[]
  methods := #[]
  instanceTypes := #[]
  staticTypes := #[]
  resolved := Array.replicate 8 none
  statics := none }

/-- the primitive byte -/
def k15 : Class := { plain "byte" none with kind := .primitive 'B', accessFlags := 0x411 }
/-- [B -/
def k16 : Class := { plain "[B" (some 0) with kind := .array 15 .byte, interfaces := #[14, 7], accessFlags := 1041 }

/-- the primitive int -/
def k17 : Class := { plain "int" none with kind := .primitive 'I', accessFlags := 0x411 }
/-- [I -/
def k18 : Class := { plain "[I" (some 0) with kind := .array 17 .int, interfaces := #[14, 7], accessFlags := 1041 }

def heap : Heap := #[{ cls := 9, slots := #[.null, .null, .ref 3, .ref 4, .null, .null, .null, .long 0, .long 0, .long 0, .long 0, .long 0, .long 0, .long 0, .null], vm := .statics 9 },
  { cls := 16, slots := #[.int 77], vm := .none },
  { cls := 13, slots := #[.ref 1, .int 0, .int 0, .int 0], vm := .none },
  { cls := 9, slots := #[.ref 2, .int 2, .int 0, .long 1000000, .long 9223372036854, .long 9223372036854775, .long 9223372036854775807, .long 9223372036854775, .long 1000, .int 1, .int 1000], vm := .none },
  { cls := 9, slots := #[.ref 2, .int 3, .int 0, .long 1000000000, .long 9223372036, .long 9223372036854, .long 9223372036854775, .long 9223372036854775807, .long 1000000, .int 1000, .int 1], vm := .none }]
def classes : Array Class := #[k0, k1, k2, k3, k4, k5, k6, k7, k8, k9, k10, k11, k12, k13, k14, k15, k16, k17, k18]
def interned : List (Array UInt16 × Addr) := []
def slotsUsed : Nat := 42
def theMethod : MethodId := ⟨1, 1⟩
def args0 : Array Value := #[.int 100, .int 200, .long 3, .long 4]
def aboutOver (below : List Frame) : State where
  vm := { classes := classes, interned := interned.toArray }
  heap := heap
  slotsUsed := slotsUsed
  threads := #[{ frames := .invoking theMethod args0 :: below }]
def below0 : List Frame := [.native { method := ⟨0, 0⟩, args := #[] }]
def about1 : State := aboutOver below0
def p0 : Program := .bare "" "" ""
def e0 : Env := launch0.env 0 0 0
theorem w_frames : about1.frames = Frame.invoking theMethod args0 :: below0 := rfl
set_option maxRecDepth 65536 in
theorem w_args : argsFit about1.vm theMethod args0 = true := by decide +kernel
set_option maxRecDepth 65536 in
theorem w_heap : heapFits about1 = true := by decide +kernel
set_option maxRecDepth 65536 in
theorem w_runnable : about1.curStatus? = some .runnable := by decide +kernel
set_option maxRecDepth 65536 in
theorem w_alone : about1.alone = true := by decide +kernel
set_option maxRecDepth 65536 in
theorem w_named : about1.methodNamed? x = some theMethod := by decide +kernel
set_option maxRecDepth 65536 in
theorem w_hears : about1.hears theMethod below0 = true := by decide +kernel
set_option maxRecDepth 65536 in
theorem w_ripe : about1.ripe theMethod args0 below0 = true := by decide +kernel
theorem w_running : about1.status = .running := rfl
set_option maxRecDepth 65536 in
theorem w_room : about1.hasRoom e0.platform room_1 = true :=
  launch0.hasRoom_least _ room_1 (by decide +kernel) (by decide +kernel) (by decide +kernel) (by decide +kernel) (by decide +kernel) (by decide +kernel)
theorem allAtoms_all (ts : List Jvm.Cond) (a : Array Jvm.Value) (st : Jvm.State) : (allAtoms ts).before a st = ts.all (fun c => c.before a st) := by
  induction ts with
  | nil => rfl
  | cons c t ih =>
    show (Jvm.Cond.and c (allAtoms t)).before a st = _
    rw [Jvm.Cond.before_and, ih, List.all_cons]
def words1 : List Jvm.Cond := Jvm.Cond.code x code maxLocals ret :: tables_1
/-- a 'code' word, met by the world's own term for the bytes: nothing is compared byte by byte -/
theorem code_word {y : MethodName} {bytes : ByteArray} {mx : Nat} {rt : Option FieldType} {a : Array Value} {s : State} {m : MethodId} {meth : Method} {c : Code} (h1 : s.methodNamed? y = some m) (h2 : s.vm.method? m = some meth) (h3 : meth.code = some c) (h4 : c.code = bytes)
    (h5 : (c.maxLocals == mx && c.exceptionTable.isEmpty && decide (c.maxStack ≤ mostOperands) && decide (meth.sig.returnType = rt) && !meth.locks && decide (parseMethodDescriptor y.desc = some meth.sig)) = true) : (Jvm.Cond.code y bytes mx rt).before a s = true := by
  simp only [Bool.and_eq_true, beq_iff_eq, Bool.not_eq_true', decide_eq_true_eq] at h5
  obtain ⟨⟨⟨⟨⟨g1, g2⟩, g3⟩, g4⟩, g5⟩, g6⟩ := h5
  simp [Cond.before, Cond.holds, Cond.value, h1, h2, h3, h4, g1, g2, g3, g4, g5, g6]
def isCode : Jvm.Cond → Bool
  | .code _ _ _ _ => true
  | _ => false
theorem all_split {L : List Jvm.Cond} {P : Jvm.Cond → Bool} (h1 : L.all (fun c => isCode c || P c) = true) (h2 : ∀ c ∈ L.filter isCode, P c = true) : L.all P = true := by
  refine List.all_eq_true.mpr fun c hc => ?_
  have h := List.all_eq_true.mp h1 c hc
  rcases Bool.eq_false_or_eq_true (isCode c) with hi | hi
  · exact h2 c (List.mem_filter.mpr ⟨hc, hi⟩)
  · simpa [hi] using h
set_option maxRecDepth 65536 in
theorem w_c0 : (Jvm.Cond.code x code maxLocals ret).before args0 about1 = true := code_word (m := ⟨1, 1⟩) (meth := k1m1) (c := k1c1) (by decide +kernel) rfl rfl rfl (by decide +kernel)
set_option maxRecDepth 65536 in
theorem w_c1 : (Jvm.Cond.code ({ cls := "com/example/commonroom/commonroom/http/Limits$Pace", name := "<init>", desc := "(III)V" } : Jvm.MethodName) prog_34_method_1_code (4 : Nat) (Option.none : Option Jvm.ClassFile.FieldType)).before args0 about1 = true := code_word (m := ⟨4, 0⟩) (meth := k4m0) (c := k4c0) (by decide +kernel) rfl rfl rfl (by decide +kernel)
set_option maxRecDepth 65536 in
theorem w_c2 : (Jvm.Cond.code ({ cls := "java/lang/Record", name := "<init>", desc := "()V" } : Jvm.MethodName) jdk_30_method_1_code (1 : Nat) (Option.none : Option Jvm.ClassFile.FieldType)).before args0 about1 = true := code_word (m := ⟨3, 0⟩) (meth := k3m0) (c := k3c0) (by decide +kernel) rfl rfl rfl (by decide +kernel)
set_option maxRecDepth 65536 in
theorem w_c3 : (Jvm.Cond.code ({ cls := "java/lang/Object", name := "<init>", desc := "()V" } : Jvm.MethodName) object_method_1_code (1 : Nat) (Option.none : Option Jvm.ClassFile.FieldType)).before args0 about1 = true := code_word (m := ⟨0, 0⟩) (meth := k0m0) (c := k0c0) (by decide +kernel) rfl rfl rfl (by decide +kernel)
set_option maxRecDepth 65536 in
theorem w_c4 : (Jvm.Cond.code ({ cls := "com/example/commonroom/commonroom/http/Patience", name := "<init>", desc := "(Lcom/example/commonroom/commonroom/http/Limits$Pace;)V" } : Jvm.MethodName) prog_41_method_1_code (2 : Nat) (Option.none : Option Jvm.ClassFile.FieldType)).before args0 about1 = true := code_word (m := ⟨2, 0⟩) (meth := k2m0) (c := k2c0) (by decide +kernel) rfl rfl rfl (by decide +kernel)
set_option maxRecDepth 65536 in
theorem w_c5 : (Jvm.Cond.code ({ cls := "com/example/commonroom/commonroom/http/Limits$Pace", name := "graceMillis", desc := "()I" } : Jvm.MethodName) prog_34_method_5_code (1 : Nat) (Option.some Jvm.ClassFile.FieldType.int)).before args0 about1 = true := code_word (m := ⟨4, 1⟩) (meth := k4m1) (c := k4c1) (by decide +kernel) rfl rfl rfl (by decide +kernel)
set_option maxRecDepth 65536 in
theorem w_c6 : (Jvm.Cond.code ({ cls := "java/util/concurrent/TimeUnit", name := "toNanos", desc := "(J)J" } : Jvm.MethodName) jdk_2799_method_7_code (7 : Nat) (Option.some Jvm.ClassFile.FieldType.long)).before args0 about1 = true := code_word (m := ⟨9, 0⟩) (meth := k9m0) (c := k9c0) (by decide +kernel) rfl rfl rfl (by decide +kernel)
set_option maxRecDepth 65536 in
theorem w_c7 : (Jvm.Cond.code ({ cls := "com/example/commonroom/commonroom/http/Limits$Pace", name := "mostAheadMillis", desc := "()I" } : Jvm.MethodName) prog_34_method_7_code (1 : Nat) (Option.some Jvm.ClassFile.FieldType.int)).before args0 about1 = true := code_word (m := ⟨4, 3⟩) (meth := k4m3) (c := k4c3) (by decide +kernel) rfl rfl rfl (by decide +kernel)
set_option maxRecDepth 65536 in
theorem w_c8 : (Jvm.Cond.code ({ cls := "com/example/commonroom/commonroom/http/Limits$Pace", name := "bytesPerSecond", desc := "()I" } : Jvm.MethodName) prog_34_method_6_code (1 : Nat) (Option.some Jvm.ClassFile.FieldType.int)).before args0 about1 = true := code_word (m := ⟨4, 2⟩) (meth := k4m2) (c := k4c2) (by decide +kernel) rfl rfl rfl (by decide +kernel)
set_option maxRecDepth 65536 in
theorem w_c9 : (Jvm.Cond.code ({ cls := "com/example/commonroom/commonroom/http/Patience", name := "renew", desc := "()V" } : Jvm.MethodName) prog_41_method_2_code (1 : Nat) (Option.none : Option Jvm.ClassFile.FieldType)).before args0 about1 = true := code_word (m := ⟨2, 1⟩) (meth := k2m1) (c := k2c1) (by decide +kernel) rfl rfl rfl (by decide +kernel)
set_option maxRecDepth 65536 in
theorem w_c10 : (Jvm.Cond.code ({ cls := "com/example/commonroom/commonroom/http/Patience", name := "leftNanos", desc := "()J" } : Jvm.MethodName) prog_41_method_3_code (1 : Nat) (Option.some Jvm.ClassFile.FieldType.long)).before args0 about1 = true := code_word (m := ⟨2, 2⟩) (meth := k2m2) (c := k2c2) (by decide +kernel) rfl rfl rfl (by decide +kernel)
set_option maxRecDepth 65536 in
theorem w_c11 : (Jvm.Cond.code ({ cls := "com/example/commonroom/commonroom/http/Patience", name := "waited", desc := "(J)V" } : Jvm.MethodName) prog_41_method_5_code (3 : Nat) (Option.none : Option Jvm.ClassFile.FieldType)).before args0 about1 = true := code_word (m := ⟨2, 3⟩) (meth := k2m3) (c := k2c3) (by decide +kernel) rfl rfl rfl (by decide +kernel)
set_option maxRecDepth 65536 in
theorem w_c12 : (Jvm.Cond.code ({ cls := "com/example/commonroom/commonroom/http/Patience", name := "moved", desc := "(J)V" } : Jvm.MethodName) prog_41_method_6_code (5 : Nat) (Option.none : Option Jvm.ClassFile.FieldType)).before args0 about1 = true := code_word (m := ⟨2, 4⟩) (meth := k2m4) (c := k2c4) (by decide +kernel) rfl rfl rfl (by decide +kernel)
set_option maxRecDepth 65536 in
theorem w_c13 : (Jvm.Cond.code ({ cls := "java/lang/Math", name := "min", desc := "(JJ)J" } : Jvm.MethodName) jdk_29_method_70_code (4 : Nat) (Option.some Jvm.ClassFile.FieldType.long)).before args0 about1 = true := code_word (m := ⟨10, 1⟩) (meth := k10m1) (c := k10c1) (by decide +kernel) rfl rfl rfl (by decide +kernel)
def codes1 : List Jvm.Cond := [Jvm.Cond.code x code maxLocals ret, Jvm.Cond.code ({ cls := "com/example/commonroom/commonroom/http/Limits$Pace", name := "<init>", desc := "(III)V" } : Jvm.MethodName) prog_34_method_1_code (4 : Nat) (Option.none : Option Jvm.ClassFile.FieldType), Jvm.Cond.code ({ cls := "java/lang/Record", name := "<init>", desc := "()V" } : Jvm.MethodName) jdk_30_method_1_code (1 : Nat) (Option.none : Option Jvm.ClassFile.FieldType), Jvm.Cond.code ({ cls := "java/lang/Object", name := "<init>", desc := "()V" } : Jvm.MethodName) object_method_1_code (1 : Nat) (Option.none : Option Jvm.ClassFile.FieldType), Jvm.Cond.code ({ cls := "com/example/commonroom/commonroom/http/Patience", name := "<init>", desc := "(Lcom/example/commonroom/commonroom/http/Limits$Pace;)V" } : Jvm.MethodName) prog_41_method_1_code (2 : Nat) (Option.none : Option Jvm.ClassFile.FieldType), Jvm.Cond.code ({ cls := "com/example/commonroom/commonroom/http/Limits$Pace", name := "graceMillis", desc := "()I" } : Jvm.MethodName) prog_34_method_5_code (1 : Nat) (Option.some Jvm.ClassFile.FieldType.int), Jvm.Cond.code ({ cls := "java/util/concurrent/TimeUnit", name := "toNanos", desc := "(J)J" } : Jvm.MethodName) jdk_2799_method_7_code (7 : Nat) (Option.some Jvm.ClassFile.FieldType.long), Jvm.Cond.code ({ cls := "com/example/commonroom/commonroom/http/Limits$Pace", name := "mostAheadMillis", desc := "()I" } : Jvm.MethodName) prog_34_method_7_code (1 : Nat) (Option.some Jvm.ClassFile.FieldType.int), Jvm.Cond.code ({ cls := "com/example/commonroom/commonroom/http/Limits$Pace", name := "bytesPerSecond", desc := "()I" } : Jvm.MethodName) prog_34_method_6_code (1 : Nat) (Option.some Jvm.ClassFile.FieldType.int), Jvm.Cond.code ({ cls := "com/example/commonroom/commonroom/http/Patience", name := "renew", desc := "()V" } : Jvm.MethodName) prog_41_method_2_code (1 : Nat) (Option.none : Option Jvm.ClassFile.FieldType), Jvm.Cond.code ({ cls := "com/example/commonroom/commonroom/http/Patience", name := "leftNanos", desc := "()J" } : Jvm.MethodName) prog_41_method_3_code (1 : Nat) (Option.some Jvm.ClassFile.FieldType.long), Jvm.Cond.code ({ cls := "com/example/commonroom/commonroom/http/Patience", name := "waited", desc := "(J)V" } : Jvm.MethodName) prog_41_method_5_code (3 : Nat) (Option.none : Option Jvm.ClassFile.FieldType), Jvm.Cond.code ({ cls := "com/example/commonroom/commonroom/http/Patience", name := "moved", desc := "(J)V" } : Jvm.MethodName) prog_41_method_6_code (5 : Nat) (Option.none : Option Jvm.ClassFile.FieldType), Jvm.Cond.code ({ cls := "java/lang/Math", name := "min", desc := "(JJ)J" } : Jvm.MethodName) jdk_29_method_70_code (4 : Nat) (Option.some Jvm.ClassFile.FieldType.long)]
set_option maxRecDepth 65536 in
theorem codes_eq : words1.filter isCode = codes1 := rfl
theorem w_codes : ∀ c ∈ words1.filter isCode, c.before args0 about1 = true := by
  rw [codes_eq]
  intro c hc
  simp only [codes1, List.mem_cons, List.not_mem_nil, or_false] at hc
  rcases hc with rfl | rfl | rfl | rfl | rfl | rfl | rfl | rfl | rfl | rfl | rfl | rfl | rfl | rfl
  · exact w_c0
  · exact w_c1
  · exact w_c2
  · exact w_c3
  · exact w_c4
  · exact w_c5
  · exact w_c6
  · exact w_c7
  · exact w_c8
  · exact w_c9
  · exact w_c10
  · exact w_c11
  · exact w_c12
  · exact w_c13
set_option maxRecDepth 65536 in
theorem w_t1 : (words1.take 24).all (fun c => isCode c || c.before args0 about1) = true := by decide +kernel
set_option maxRecDepth 65536 in
theorem w_t2 : ((words1.drop 24).take 24).all (fun c => isCode c || c.before args0 about1) = true := by decide +kernel
set_option maxRecDepth 65536 in
theorem w_t3 : (((words1.drop 24).drop 24).take 24).all (fun c => isCode c || c.before args0 about1) = true := by decide +kernel
set_option maxRecDepth 65536 in
theorem w_t4 : (((words1.drop 24).drop 24).drop 24).all (fun c => isCode c || c.before args0 about1) = true := by decide +kernel
theorem w_tables : (allAtoms (Jvm.Cond.code x code maxLocals ret :: tables_1)).before args0 about1 = true := by
  rw [allAtoms_all]
  show words1.all (fun c => c.before args0 about1) = true
  refine all_split ?_ w_codes
  rw [← List.take_append_drop 24 words1, List.all_append, w_t1, ← List.take_append_drop 24 (words1.drop 24), List.all_append, w_t2, ← List.take_append_drop 24 ((words1.drop 24).drop 24), List.all_append, w_t3, w_t4]
  rfl
set_option maxRecDepth 65536 in
theorem w_rest : rest_1_c.before args0 about1 = true := by decide +kernel
set_option maxRecDepth 65536 in
theorem w_case : (Jvm.Cond.and given_1 narrow_1).before args0 about1 = true := by decide +kernel
theorem w_applies : (headSpec (Jvm.Cond.code x code maxLocals ret :: tables_1) room_1).applies x e0.platform about1 = true :=
  (Spec.applies_iff w_frames).mpr ⟨w_running, w_runnable, w_alone, w_named, w_hears, w_ripe, w_room, w_tables⟩
theorem atStart : AtStart classFile x code maxLocals ret World_1 tables_1 room_1 Calls_1 rest_1 Pre_1 launch0 p0 e0 about1 theMethod args0 below0 :=
  ⟨lists_1, trivial, launch0.admits_env _ _ _, launch0.least_env, fairChoices_fair.cas, fairChoices_fair.clock, w_frames, w_args, w_heap, w_applies, trivial, w_rest, w_case⟩
end start1
theorem witness_1 : WitnessClaimed_1 := ⟨start1.p0, start1.e0, start1.about1, start1.theMethod, start1.args0, start1.below0, start1.atStart⟩
end Jvm.Pilot.@@N@@
