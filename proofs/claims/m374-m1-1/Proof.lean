import JvmDerived
import JvmDerived.Pilot.@@N@@Statement
import JvmDerived.Pilot.@@N@@Code
set_option linter.unusedVariables false
set_option linter.unusedSimpArgs false
namespace Jvm.RoadKit
open Sem ClassFile Op Lib Jvm.Stand Jvm.Free Jvm.LawKit
section New
variable {p : Program} {l : Launch} {e : Env} {R : Room} {s : State} {m : MethodId} {args : Array Value} {below : List Frame} {meth : Method} {c : Code} {T : State} {locs : List Loc} {cells slots : Nat}
theorem retI (X : Stand p l e R s m args below meth c T locs cells slots) (hx : p.tables.exec = Jvm.exec) {pc : Nat} {Ls : Array Slot} {z : Int32} {rest : List Value} (hret : meth.sig.returnType = some .int) (hd : decode c.code pc = .ok (.ireturn, 1)) {fs : List Frame}
    (hl : ∀ (f : JFrame) (acts : List Action), f.method = m → f.locked = none → f.entered = [] → (doReturn e (T.setTop f) acts (some (.int z))).1 = T.setFrames fs) : Steps p.tables e below (T.setTop (mkF m pc Ls (.int z :: rest))) (T.setFrames fs) := by
  have hm' : T.vm.method? m = some meth := X.method'
  have hn : narrow .int (.int z) = .int z := rfl
  show Steps p.tables e below (T.setTop { method := m, pc := pc, locals := Ls, stack := _ :: rest, locked := none }) _
  jvm_step X.here [X.here.top, hx, hd, hm', hret, hn]
  first | (intro acts; rw [hl _ acts rfl rfl rfl]) | rw [hl _ _ rfl rfl rfl]
  exact Steps.refl _
theorem retJ (X : Stand p l e R s m args below meth c T locs cells slots) (hx : p.tables.exec = Jvm.exec) {pc : Nat} {Ls : Array Slot} {z : Int64} {rest : List Value} (hret : meth.sig.returnType = some .long) (hd : decode c.code pc = .ok (.lreturn, 1)) {fs : List Frame}
    (hl : ∀ (f : JFrame) (acts : List Action), f.method = m → f.locked = none → f.entered = [] → (doReturn e (T.setTop f) acts (some (.long z))).1 = T.setFrames fs) : Steps p.tables e below (T.setTop (mkF m pc Ls (.long z :: rest))) (T.setFrames fs) := by
  have hm' : T.vm.method? m = some meth := X.method'
  have hn : narrow .long (.long z) = .long z := rfl
  show Steps p.tables e below (T.setTop { method := m, pc := pc, locals := Ls, stack := _ :: rest, locked := none }) _
  jvm_step X.here [X.here.top, hx, hd, hm', hret, hn]
  first | (intro acts; rw [hl _ acts rfl rfl rfl]) | rw [hl _ _ rfl rfl rfl]
  exact Steps.refl _
end New
end Jvm.RoadKit
namespace Jvm.Pilot.@@N@@
open Jvm Jvm.ClassFile Sem Op Lib Jvm.Free Jvm.Stand Jvm.LawKit Jvm.RoadKit Bundle Jvm.Pilot.@@N@@.Jvm.D
theorem mgE {A : Type} {l : List A} {a : A} (i : Nat) (h : l[i]? = some a) : a ∈ l := List.mem_of_getElem? h

theorem d2_0 : decode jdk_29_method_65_code 0 = .ok (.iload_n 0, 1) := by decide +kernel
theorem d2_1 : decode jdk_29_method_65_code 1 = .ok (.iload_n 1, 1) := by decide +kernel
theorem d2_2 : decode jdk_29_method_65_code 2 = .ok (.if_icmp .lt 7, 3) := by decide +kernel
theorem d2_5 : decode jdk_29_method_65_code 5 = .ok (.iload_n 0, 1) := by decide +kernel
theorem d2_6 : decode jdk_29_method_65_code 6 = .ok (.goto 4, 3) := by decide +kernel
theorem d2_9 : decode jdk_29_method_65_code 9 = .ok (.iload_n 1, 1) := by decide +kernel
theorem d2_10 : decode jdk_29_method_65_code 10 = .ok (.ireturn, 1) := by decide +kernel
theorem ef_2 (m : MethodId) (x0 : Int32) (x1 : Int32) : entryFrame m #[(.int x0), (.int x1)] 2 = mkF m 0 #[.val (.int x0), .val (.int x1)] [] := by first | (simp [entryFrame, mkF, argsToLocals, Value.category]; done) | rfl
def r2 (p1 : Int32) (p2 : Int32) : Int32 := (if p1 < p2 then p2 else p1)
def Q2 (Z : State) (p1 : Int32) (p2 : Int32) (h0 : Heap) (n0 : Nat) (v : Option Value) (h : Heap) (L : List Loc) : Prop := v = some (.int (r2 p1 p2)) ∧ Fr n0 L ∧ h = h0
set_option maxRecDepth 65536 in
set_option maxHeartbeats 40000000 in
theorem rm2 (l : Launch) (Z : State) (a0 : Array Value) (hw : ∀ d ∈ tables_1, d.before a0 Z = true) (ws : List Jvm.Cond) (p1 : Int32) (p2 : Int32) (h0 : Heap) (n0 : Nat) (Z0 : n0 ≤ h0.size)  :
    MetFree l (⟨"java/lang/Math", "max", "(II)I"⟩ : MethodName) (head1 (Jvm.Cond.code (⟨"java/lang/Math", "max", "(II)I"⟩ : MethodName) jdk_29_method_65_code 2 (some .int) :: ws) ({ frames := 0, cells := 0, slots := 0, locals := 0 } : Room)) (fun a U => a = #[(.int p1), (.int p2)] ∧ Z.Warmed39 U.vm ∧ U.heap = h0) (fun _ _ _ _ _ => True) (fun _ U o U' => ∃ v L, o = .returned v ∧ Q2 Z p1 p2 h0 n0 v U'.heap L ∧ FrameEnd U o U' L ({ frames := 0, cells := 0, slots := 0, locals := 0 } : Room).cells ({ frames := 0, cells := 0, slots := 0, locals := 0 } : Room).slots) := by
  refine MetFree.of_bodySF (Jvm.Free.JP.mathPlain rfl (by decide +kernel)) hisR ?_
  intro p e s m args below meth c s₁ Bd hml0 hP hK
  obtain ⟨rfl, hZ, hh⟩ := hP
  have hx := Bd.exec
  have hby := Bd.bytes
  have hml : c.maxLocals = 2 := hml0
  have hown : s.vm.findClass "java/lang/Math" = some m.cls := findClass_of_methodNamed Bd.named
  have hnm := (name_of_methodNamed Bd.named Bd.method).1
  have X0 : Stand p l e ({ frames := 0, cells := 0, slots := 0, locals := 0 } : Room) s m #[(.int p1), (.int p2)] below meth c s₁ [] 0 0 := Stand.of_body Bd
  have e0 : s₁.heap = h0 := by rw [← hh, Bd.state]; rfl
  have N0 := Fr.nil n0
  have pre0 : ∀ t, Steps p.tables e below (s₁.setTop (mkF m 0 #[.val (.int p1), .val (.int p2)] [])) t → Steps p.tables e below (s₁.setTop (entryFrame m #[(.int p1), (.int p2)] 2)) t := fun t k => castTop (ef_2 m p1 p2) k
  by_cases hc2 : p1 < p2
  · skip
    have pre1 : ∀ t, Steps p.tables e below (s₁.setTop (mkF m 10 #[.val (.int p1), .val (.int p2)] [(.int p2)])) t → Steps p.tables e below (s₁.setTop (entryFrame m #[(.int p1), (.int p2)] 2)) t := fun t kt => by
      refine pre0 t ?_
      refine XS.iloadN X0.here hx rfl (hb hby d2_0) rfl ?_
      show Steps p.tables e below (s₁.setTop (mkF m 1 #[.val (.int p1), .val (.int p2)] [(.int p1)])) _
      refine XS.iloadN X0.here hx rfl (hb hby d2_1) rfl ?_
      show Steps p.tables e below (s₁.setTop (mkF m 2 #[.val (.int p1), .val (.int p2)] [(.int p2), (.int p1)])) _
      refine XS.icmpYes X0.here hx rfl (pc0 := 2) (pc' := 9) rfl (hb hby d2_2) rfl (tlt hc2).1 (by decide) (by decide) ?_
      show Steps p.tables e below (s₁.setTop (mkF m 9 #[.val (.int p1), .val (.int p2)] [])) _
      refine XS.iloadN X0.here hx rfl (hb hby d2_9) rfl ?_
      show Steps p.tables e below (s₁.setTop (mkF m 10 #[.val (.int p1), .val (.int p2)] [(.int p2)])) _
      exact kt
    obtain ⟨fs, hr, hrun, hended, hW, hsame⟩ := X0.leave (v := some (.int p2)) (fun h => by rw [Bd.returns] at h; cases h)
    refine ⟨_, _, pre1 _ ?_, hrun, hended, _, _, rfl, ?_, ⟨_, rfl⟩, hW, hsame.mono (by decide) (by decide)⟩
    · exact retI X0 hx Bd.returns (hb hby d2_10) hr
    · show Q2 Z p1 p2 h0 n0 _ s₁.heap _
      rw [e0]
      exact ⟨by first | rfl | (simp only [r2, if_pos hc2]), N0, rfl⟩
  · skip
    have pre2 : ∀ t, Steps p.tables e below (s₁.setTop (mkF m 10 #[.val (.int p1), .val (.int p2)] [(.int p1)])) t → Steps p.tables e below (s₁.setTop (entryFrame m #[(.int p1), (.int p2)] 2)) t := fun t kt => by
      refine pre0 t ?_
      refine XS.iloadN X0.here hx rfl (hb hby d2_0) rfl ?_
      show Steps p.tables e below (s₁.setTop (mkF m 1 #[.val (.int p1), .val (.int p2)] [(.int p1)])) _
      refine XS.iloadN X0.here hx rfl (hb hby d2_1) rfl ?_
      show Steps p.tables e below (s₁.setTop (mkF m 2 #[.val (.int p1), .val (.int p2)] [(.int p2), (.int p1)])) _
      refine XS.icmpNo X0.here hx rfl (hb hby d2_2) rfl (flt hc2).1 ?_
      show Steps p.tables e below (s₁.setTop (mkF m 5 #[.val (.int p1), .val (.int p2)] [])) _
      refine XS.iloadN X0.here hx rfl (hb hby d2_5) rfl ?_
      show Steps p.tables e below (s₁.setTop (mkF m 6 #[.val (.int p1), .val (.int p2)] [(.int p1)])) _
      refine XS.goto X0.here hx rfl (pc0 := 6) (pc' := 10) rfl (hb hby d2_6) (by decide) (by decide) ?_
      show Steps p.tables e below (s₁.setTop (mkF m 10 #[.val (.int p1), .val (.int p2)] [(.int p1)])) _
      exact kt
    obtain ⟨fs, hr, hrun, hended, hW, hsame⟩ := X0.leave (v := some (.int p1)) (fun h => by rw [Bd.returns] at h; cases h)
    refine ⟨_, _, pre2 _ ?_, hrun, hended, _, _, rfl, ?_, ⟨_, rfl⟩, hW, hsame.mono (by decide) (by decide)⟩
    · exact retI X0 hx Bd.returns (hb hby d2_10) hr
    · show Q2 Z p1 p2 h0 n0 _ s₁.heap _
      rw [e0]
      exact ⟨by first | rfl | (simp only [r2, if_neg hc2]), N0, rfl⟩
theorem d1_0 : decode method_3_code 0 = .ok (.iconst 1, 1) := by decide +kernel
theorem d1_1 : decode method_3_code 1 = .ok (.iload_n 0, 1) := by decide +kernel
theorem d1_2 : decode method_3_code 2 = .ok (.ldc 7, 2) := by decide +kernel
theorem d1_4 : decode method_3_code 4 = .ok (.iand, 1) := by decide +kernel
theorem d1_5 : decode method_3_code 5 = .ok (.invokestatic 8, 3) := by decide +kernel
theorem d1_8 : decode method_3_code 8 = .ok (.ireturn, 1) := by decide +kernel
theorem pn_com_example_latticework_latticework_graph_PositionCompareToPinLaw : plainName "com/example/latticework/latticework/graph/PositionCompareToPinLaw" = true := by first | (simp [plainName, overriddenIn]; done) | decide +kernel
theorem pd__II_I : parseMethodDescriptor "(II)I" = some ⟨[.int, .int], some .int⟩ := by decide +kernel
theorem ef_1 (m : MethodId) (x0 : Int32) : entryFrame m #[(.int x0)] 1 = mkF m 0 #[.val (.int x0)] [] := by first | (simp [entryFrame, mkF, argsToLocals, Value.category]; done) | rfl
def Q1 (Z : State) (p1 : Int32) (h0 : Heap) (n0 : Nat) (v : Option Value) (h : Heap) (L : List Loc) : Prop := v = some (.int (r2 (1 : Int32) (p1 &&& (2147483647 : Int32)))) ∧ Fr n0 L ∧ h = h0
set_option maxRecDepth 65536 in
set_option maxHeartbeats 40000000 in
theorem rm1 (l : Launch) (Z : State) (a0 : Array Value) (hw : ∀ d ∈ tables_1, d.before a0 Z = true) (ws : List Jvm.Cond) (p1 : Int32) (h0 : Heap) (n0 : Nat) (Z0 : n0 ≤ h0.size)  :
    MetFree l (⟨"com/example/latticework/latticework/graph/PositionCompareToPinLaw", "pos", "(I)I"⟩ : MethodName) (head1 (Jvm.Cond.code (⟨"com/example/latticework/latticework/graph/PositionCompareToPinLaw", "pos", "(I)I"⟩ : MethodName) method_3_code 1 (some .int) :: ws) ({ frames := 1, cells := 0, slots := 0, locals := 13 } : Room)) (fun a U => a = #[(.int p1)] ∧ Z.Warmed39 U.vm ∧ U.heap = h0) (fun _ _ _ _ _ => True) (fun _ U o U' => ∃ v L, o = .returned v ∧ Q1 Z p1 h0 n0 v U'.heap L ∧ FrameEnd U o U' L ({ frames := 1, cells := 0, slots := 0, locals := 13 } : Room).cells ({ frames := 1, cells := 0, slots := 0, locals := 13 } : Room).slots) := by
  refine MetFree.of_bodySF (plainFor_of_name pn_com_example_latticework_latticework_graph_PositionCompareToPinLaw) hisR ?_
  intro p e s m args below meth c s₁ Bd hml0 hP hK
  obtain ⟨rfl, hZ, hh⟩ := hP
  have hx := Bd.exec
  have hby := Bd.bytes
  have hml : c.maxLocals = 1 := hml0
  have hown : s.vm.findClass "com/example/latticework/latticework/graph/PositionCompareToPinLaw" = some m.cls := findClass_of_methodNamed Bd.named
  have hnm := (name_of_methodNamed Bd.named Bd.method).1
  have X0 : Stand p l e ({ frames := 1, cells := 0, slots := 0, locals := 13 } : Room) s m #[(.int p1)] below meth c s₁ [] 0 0 := Stand.of_body Bd
  have e0 : s₁.heap = h0 := by rw [← hh, Bd.state]; rfl
  have N0 := Fr.nil n0
  have pre0 : ∀ t, Steps p.tables e below (s₁.setTop (mkF m 0 #[.val (.int p1)] [])) t → Steps p.tables e below (s₁.setTop (entryFrame m #[(.int p1)] 1)) t := fun t k => castTop (ef_1 m p1) k
  have pre1 : ∀ t, Steps p.tables e below (s₁.setTop (mkF m 5 #[.val (.int p1)] [(.int (p1 &&& (2147483647 : Int32))), (.int (1 : Int32))])) t → Steps p.tables e below (s₁.setTop (entryFrame m #[(.int p1)] 1)) t := fun t kt => by
    refine pre0 t ?_
    refine XS.iconst X0.here hx rfl (hb hby d1_0) ?_
    show Steps p.tables e below (s₁.setTop (mkF m 1 #[.val (.int p1)] [(.int (1 : Int32))])) _
    refine XS.iloadN X0.here hx rfl (hb hby d1_1) rfl ?_
    show Steps p.tables e below (s₁.setTop (mkF m 2 #[.val (.int p1)] [(.int p1), (.int (1 : Int32))])) _
    refine X0.ldcInt hx hown (mvT hZ (hw _ (mgE 4 rfl))) (g := (mkF m 2 #[.val (.int p1)] [(.int p1), (.int (1 : Int32))])) rfl (hb hby d1_2) _ ?_
    show Steps p.tables e below (s₁.setTop (mkF m 4 #[.val (.int p1)] [(.int (2147483647 : Int32)), (.int p1), (.int (1 : Int32))])) _
    refine XS.iand X0.here hx rfl (hb hby d1_4) rfl ?_
    show Steps p.tables e below (s₁.setTop (mkF m 5 #[.val (.int p1)] [(.int (p1 &&& (2147483647 : Int32))), (.int (1 : Int32))])) _
    exact kt
  obtain ⟨_, _, ⟨T2, L2, k2, n2⟩, -, X2, ⟨Lc2, hQ2, l2, y2, z2⟩, st2⟩ := Jvm.LawKit.callS X0 hx (y := (⟨"java/lang/Math", "max", "(II)I"⟩ : MethodName)) hown (mvT hZ (hw _ (mgE 5 rfl))) (mvT hZ (hw _ (mgE 6 rfl))) (mvT hZ (hw _ (mgE 7 rfl))) (mvT hZ (hw _ (mgE 8 rfl))) (by decide) (backOf (W := 0) (rm2 l Z a0 hw [] (1 : Int32) (p1 &&& (2147483647 : Int32)) h0 n0 Z0 ) hZ (hw _ (mgE 8 rfl)) (hw _ (mgE 7 rfl)) (by decide) (by decide)) (g := (mkF m 5 #[.val (.int p1)] [(.int (p1 &&& (2147483647 : Int32))), (.int (1 : Int32))])) rfl (by rw [hml]; rfl) (argsL := [(.int (1 : Int32)), (.int (p1 &&& (2147483647 : Int32)))]) (rest := []) (lenOf pd__II_I rfl) rfl (by show 2 * 0 + _ ≤ _; exact Nat.le_of_eq rfl) (hb hby d1_5) (fun _ _ => ⟨rfl, e0, (by decide : 0 + 0 ≤ _), (by decide : 0 + 0 ≤ _)⟩)
  dsimp only [Pt.U, Pt.locs, Pt.cells, Pt.slots] at X2 l2 y2 z2 st2 hQ2
  subst l2 y2 z2
  obtain ⟨rfl, N2q, e2⟩ := hQ2
  have pre3 : ∀ t, Steps p.tables e below (T2.setTop (mkF m 8 #[.val (.int p1)] [(.int (r2 (1 : Int32) (p1 &&& (2147483647 : Int32))))])) t → Steps p.tables e below (s₁.setTop (entryFrame m #[(.int p1)] 1)) t := fun t kt => pre1 t (st2 t kt)
  have N2 := Fr.app N0 N2q
  obtain ⟨fs, hr, hrun, hended, hW, hsame⟩ := X2.leave (v := some (.int (r2 (1 : Int32) (p1 &&& (2147483647 : Int32))))) (fun h => by rw [Bd.returns] at h; cases h)
  refine ⟨_, _, pre3 _ ?_, hrun, hended, _, _, rfl, ?_, ⟨_, rfl⟩, hW, hsame.mono (by decide) (by decide)⟩
  · exact retI X2 hx Bd.returns (hb hby d1_8) hr
  · show Q1 Z p1 h0 n0 _ T2.heap _
    rw [e2]
    exact ⟨by first | rfl | (simp only []), N2, rfl⟩
theorem d4_0 : decode jdk_30_method_1_code 0 = .ok (.aload_n 0, 1) := by decide +kernel
theorem d4_1 : decode jdk_30_method_1_code 1 = .ok (.invokespecial 1, 3) := by decide +kernel
theorem d4_4 : decode jdk_30_method_1_code 4 = .ok (.return_, 1) := by decide +kernel
theorem pn_java_lang_Record : plainName "java/lang/Record" = true := by first | (simp [plainName, overriddenIn]; done) | decide +kernel
theorem ef_4 (m : MethodId) (x0 : Addr) : entryFrame m #[(.ref x0)] 1 = mkF m 0 #[.val (.ref x0)] [] := by first | (simp [entryFrame, mkF, argsToLocals, Value.category]; done) | rfl
def Q4 (Z : State) (a1 : Addr) (h0 : Heap) (n0 : Nat) (v : Option Value) (h : Heap) (L : List Loc) : Prop := v = none ∧ Fr n0 L ∧ h = h0
set_option maxRecDepth 65536 in
set_option maxHeartbeats 40000000 in
theorem rm4 (l : Launch) (Z : State) (a0 : Array Value) (hw : ∀ d ∈ tables_1, d.before a0 Z = true) (ws : List Jvm.Cond) (a1 : Addr) (h0 : Heap) (n0 : Nat) (Z0 : n0 ≤ h0.size)  :
    MetFree l (⟨"java/lang/Record", "<init>", "()V"⟩ : MethodName) (head1 (Jvm.Cond.code (⟨"java/lang/Record", "<init>", "()V"⟩ : MethodName) jdk_30_method_1_code 1 none :: ws) ({ frames := 1, cells := 0, slots := 0, locals := 12 } : Room)) (fun a U => a = #[(.ref a1)] ∧ Z.Warmed39 U.vm ∧ U.heap = h0) (fun _ _ _ _ _ => True) (fun _ U o U' => ∃ v L, o = .returned v ∧ Q4 Z a1 h0 n0 v U'.heap L ∧ FrameEnd U o U' L ({ frames := 1, cells := 0, slots := 0, locals := 12 } : Room).cells ({ frames := 1, cells := 0, slots := 0, locals := 12 } : Room).slots) := by
  refine MetFree.of_bodySF (plainFor_of_name pn_java_lang_Record) hisR ?_
  intro p e s m args below meth c s₁ Bd hml0 hP hK
  obtain ⟨rfl, hZ, hh⟩ := hP
  have hx := Bd.exec
  have hby := Bd.bytes
  have hml : c.maxLocals = 1 := hml0
  have hown : s.vm.findClass "java/lang/Record" = some m.cls := findClass_of_methodNamed Bd.named
  have hnm := (name_of_methodNamed Bd.named Bd.method).1
  have X0 : Stand p l e ({ frames := 1, cells := 0, slots := 0, locals := 12 } : Room) s m #[(.ref a1)] below meth c s₁ [] 0 0 := Stand.of_body Bd
  have e0 : s₁.heap = h0 := by rw [← hh, Bd.state]; rfl
  have N0 := Fr.nil n0
  have pre0 : ∀ t, Steps p.tables e below (s₁.setTop (mkF m 0 #[.val (.ref a1)] [])) t → Steps p.tables e below (s₁.setTop (entryFrame m #[(.ref a1)] 1)) t := fun t k => castTop (ef_4 m a1) k
  have pre1 : ∀ t, Steps p.tables e below (s₁.setTop (mkF m 1 #[.val (.ref a1)] [(.ref a1)])) t → Steps p.tables e below (s₁.setTop (entryFrame m #[(.ref a1)] 1)) t := fun t kt => by
    refine pre0 t ?_
    refine XS.aloadN X0.here hx rfl (hb hby d4_0) rfl rfl ?_
    show Steps p.tables e below (s₁.setTop (mkF m 1 #[.val (.ref a1)] [(.ref a1)])) _
    exact kt
  obtain ⟨T2, X2, e2, st2⟩ := initO X0 hx hZ hown (hw _ (mgE 20 rfl)) (hw _ (mgE 21 rfl)) (hw _ (mgE 22 rfl)) e0 (g := (mkF m 1 #[.val (.ref a1)] [(.ref a1)])) rfl (by rw [hml]; rfl) rfl (hb hby d4_1) (by decide) (W := 0) (by show 2 * 0 + _ ≤ _; exact Nat.le_of_eq rfl) (by decide)
  have pre3 : ∀ t, Steps p.tables e below (T2.setTop (mkF m 4 #[.val (.ref a1)] [])) t → Steps p.tables e below (s₁.setTop (entryFrame m #[(.ref a1)] 1)) t := fun t kt => pre1 t (st2 t kt)
  obtain ⟨fs, hr, hrun, hended, hW, hsame⟩ := X2.leave (v := none) (fun _ => rfl)
  refine ⟨_, _, pre3 _ ?_, hrun, hended, _, _, rfl, ?_, ⟨_, rfl⟩, hW, hsame.mono (by decide) (by decide)⟩
  · exact X2.returnOut hx Bd.returns (hb hby d4_4) hr
  · show Q4 Z a1 h0 n0 _ T2.heap _
    rw [e2]
    exact ⟨rfl, N0, rfl⟩
theorem d3_0 : decode prog_41_method_1_code 0 = .ok (.aload_n 0, 1) := by decide +kernel
theorem d3_1 : decode prog_41_method_1_code 1 = .ok (.invokespecial 1, 3) := by decide +kernel
theorem d3_4 : decode prog_41_method_1_code 4 = .ok (.iload_n 1, 1) := by decide +kernel
theorem d3_5 : decode prog_41_method_1_code 5 = .ok (.iconst 1, 1) := by decide +kernel
theorem d3_6 : decode prog_41_method_1_code 6 = .ok (.if_icmp .lt 8, 3) := by decide +kernel
theorem d3_9 : decode prog_41_method_1_code 9 = .ok (.iload_n 2, 1) := by decide +kernel
theorem d3_10 : decode prog_41_method_1_code 10 = .ok (.iconst 1, 1) := by decide +kernel
theorem d3_11 : decode prog_41_method_1_code 11 = .ok (.if_icmp .ge 18, 3) := by decide +kernel
theorem d3_29 : decode prog_41_method_1_code 29 = .ok (.aload_n 0, 1) := by decide +kernel
theorem d3_30 : decode prog_41_method_1_code 30 = .ok (.iload_n 1, 1) := by decide +kernel
theorem d3_31 : decode prog_41_method_1_code 31 = .ok (.putfield 16, 3) := by decide +kernel
theorem d3_34 : decode prog_41_method_1_code 34 = .ok (.aload_n 0, 1) := by decide +kernel
theorem d3_35 : decode prog_41_method_1_code 35 = .ok (.iload_n 2, 1) := by decide +kernel
theorem d3_36 : decode prog_41_method_1_code 36 = .ok (.putfield 22, 3) := by decide +kernel
theorem d3_39 : decode prog_41_method_1_code 39 = .ok (.return_, 1) := by decide +kernel
theorem pn_com_example_latticework_latticework_graph_Position : plainName "com/example/latticework/latticework/graph/Position" = true := by first | (simp [plainName, overriddenIn]; done) | decide +kernel
theorem pd___V : parseMethodDescriptor "()V" = some ⟨[], none⟩ := by decide +kernel
theorem ef_3 (m : MethodId) (x0 : Addr) (x1 : Int32) (x2 : Int32) : entryFrame m #[(.ref x0), (.int x1), (.int x2)] 3 = mkF m 0 #[.val (.ref x0), .val (.int x1), .val (.int x2)] [] := by first | (simp [entryFrame, mkF, argsToLocals, Value.category]; done) | rfl
def Q3 (Z : State) (a1 : Addr) (p2 : Int32) (p3 : Int32) (u_line_a1 : Value) (u_column_a1 : Value) (h0 : Heap) (n0 : Nat) (v : Option Value) (h : Heap) (L : List Loc) : Prop := v = none ∧ Fr n0 L ∧ Keep h0 h [a1] ∧ Exa Z h a1 "com/example/latticework/latticework/graph/Position" ∧ Fld Z h a1 "com/example/latticework/latticework/graph/Position" "column" "I" (.int p3) ∧ Fld Z h a1 "com/example/latticework/latticework/graph/Position" "line" "I" (.int p2)
set_option maxRecDepth 65536 in
set_option maxHeartbeats 40000000 in
theorem rm3 (l : Launch) (Z : State) (a0 : Array Value) (hw : ∀ d ∈ tables_1, d.before a0 Z = true) (ws : List Jvm.Cond) (a1 : Addr) (p2 : Int32) (p3 : Int32) (u_line_a1 : Value) (u_column_a1 : Value) (h0 : Heap) (n0 : Nat) (Z0 : n0 ≤ h0.size) (E_a1 : Exa Z h0 a1 "com/example/latticework/latticework/graph/Position") (F_line_a1 : Fld Z h0 a1 "com/example/latticework/latticework/graph/Position" "line" "I" u_line_a1) (g_a1 : n0 ≤ a1) (F_column_a1 : Fld Z h0 a1 "com/example/latticework/latticework/graph/Position" "column" "I" u_column_a1) (hA : ¬ (p2 < (1 : Int32))) (hB : ¬ (p3 < (1 : Int32))) :
    MetFree l (⟨"com/example/latticework/latticework/graph/Position", "<init>", "(II)V"⟩ : MethodName) (head1 (Jvm.Cond.code (⟨"com/example/latticework/latticework/graph/Position", "<init>", "(II)V"⟩ : MethodName) prog_41_method_1_code 3 none :: ws) ({ frames := 2, cells := 0, slots := 0, locals := 24 } : Room)) (fun a U => a = #[(.ref a1), (.int p2), (.int p3)] ∧ Z.Warmed39 U.vm ∧ U.heap = h0) (fun _ _ _ _ _ => True) (fun _ U o U' => ∃ v L, o = .returned v ∧ Q3 Z a1 p2 p3 u_line_a1 u_column_a1 h0 n0 v U'.heap L ∧ FrameEnd U o U' L ({ frames := 2, cells := 0, slots := 0, locals := 24 } : Room).cells ({ frames := 2, cells := 0, slots := 0, locals := 24 } : Room).slots) := by
  refine MetFree.of_bodySF (plainFor_of_name pn_com_example_latticework_latticework_graph_Position) hisR ?_
  intro p e s m args below meth c s₁ Bd hml0 hP hK
  obtain ⟨rfl, hZ, hh⟩ := hP
  have hx := Bd.exec
  have hby := Bd.bytes
  have hml : c.maxLocals = 3 := hml0
  have hown : s.vm.findClass "com/example/latticework/latticework/graph/Position" = some m.cls := findClass_of_methodNamed Bd.named
  have hnm := (name_of_methodNamed Bd.named Bd.method).1
  have X0 : Stand p l e ({ frames := 2, cells := 0, slots := 0, locals := 24 } : Room) s m #[(.ref a1), (.int p2), (.int p3)] below meth c s₁ [] 0 0 := Stand.of_body Bd
  have e0 : s₁.heap = h0 := by rw [← hh, Bd.state]; rfl
  have N0 := Fr.nil n0
  have pre0 : ∀ t, Steps p.tables e below (s₁.setTop (mkF m 0 #[.val (.ref a1), .val (.int p2), .val (.int p3)] [])) t → Steps p.tables e below (s₁.setTop (entryFrame m #[(.ref a1), (.int p2), (.int p3)] 3)) t := fun t k => castTop (ef_3 m a1 p2 p3) k
  have pre1 : ∀ t, Steps p.tables e below (s₁.setTop (mkF m 1 #[.val (.ref a1), .val (.int p2), .val (.int p3)] [(.ref a1)])) t → Steps p.tables e below (s₁.setTop (entryFrame m #[(.ref a1), (.int p2), (.int p3)] 3)) t := fun t kt => by
    refine pre0 t ?_
    refine XS.aloadN X0.here hx rfl (hb hby d3_0) rfl rfl ?_
    show Steps p.tables e below (s₁.setTop (mkF m 1 #[.val (.ref a1), .val (.int p2), .val (.int p3)] [(.ref a1)])) _
    exact kt
  obtain ⟨_, _, ⟨T2, L2, k2, n2⟩, -, X2, ⟨Lc2, hQ2, l2, y2, z2⟩, st2⟩ := X0.specialBack hx (y := (⟨"java/lang/Record", "<init>", "()V"⟩ : MethodName)) rfl hown (mvT hZ (hw _ (mgE 15 rfl))) (mvT hZ (hw _ (mgE 16 rfl))) (mvT hZ (hw _ (mgE 19 rfl))) (by decide) (backOf (W := 0) (rm4 l Z a0 hw [] a1 h0 n0 Z0 ) hZ (hw _ (mgE 19 rfl)) (hw _ (mgE 18 rfl)) (by decide) (by decide)) (g := (mkF m 1 #[.val (.ref a1), .val (.int p2), .val (.int p3)] [(.ref a1)])) rfl (by rw [hml]; rfl) (Steps.refl _) (a := a1) (argsL := []) (rest := []) (lenOf pd___V rfl) rfl (by show 2 * 0 + _ ≤ _; exact Nat.le_of_eq rfl) (hb hby d3_1) (fun _ _ => ⟨rfl, e0, (by decide : 0 + 0 ≤ _), (by decide : 0 + 0 ≤ _)⟩)
  dsimp only [Pt.U, Pt.locs, Pt.cells, Pt.slots] at X2 l2 y2 z2 st2 hQ2
  subst l2 y2 z2
  obtain ⟨rfl, N2q, e2⟩ := hQ2
  have pre3 : ∀ t, Steps p.tables e below (T2.setTop (mkF m 4 #[.val (.ref a1), .val (.int p2), .val (.int p3)] [])) t → Steps p.tables e below (s₁.setTop (entryFrame m #[(.ref a1), (.int p2), (.int p3)] 3)) t := fun t kt => pre1 t (st2.trans kt)
  have N2 := Fr.app N0 N2q
  have hc6 : ¬ (p2 < (1 : Int32)) := hA
  have hc11 : ¬ (p3 < (1 : Int32)) := hB
  have pre4 : ∀ t, Steps p.tables e below (T2.setTop (mkF m 31 #[.val (.ref a1), .val (.int p2), .val (.int p3)] [(.int p2), (.ref a1)])) t → Steps p.tables e below (s₁.setTop (entryFrame m #[(.ref a1), (.int p2), (.int p3)] 3)) t := fun t kt => by
    refine pre3 t ?_
    refine XS.iloadN X2.here hx rfl (hb hby d3_4) rfl ?_
    show Steps p.tables e below (T2.setTop (mkF m 5 #[.val (.ref a1), .val (.int p2), .val (.int p3)] [(.int p2)])) _
    refine XS.iconst X2.here hx rfl (hb hby d3_5) ?_
    show Steps p.tables e below (T2.setTop (mkF m 6 #[.val (.ref a1), .val (.int p2), .val (.int p3)] [(.int (1 : Int32)), (.int p2)])) _
    refine XS.icmpNo X2.here hx rfl (hb hby d3_6) rfl (flt hc6).1 ?_
    show Steps p.tables e below (T2.setTop (mkF m 9 #[.val (.ref a1), .val (.int p2), .val (.int p3)] [])) _
    refine XS.iloadN X2.here hx rfl (hb hby d3_9) rfl ?_
    show Steps p.tables e below (T2.setTop (mkF m 10 #[.val (.ref a1), .val (.int p2), .val (.int p3)] [(.int p3)])) _
    refine XS.iconst X2.here hx rfl (hb hby d3_10) ?_
    show Steps p.tables e below (T2.setTop (mkF m 11 #[.val (.ref a1), .val (.int p2), .val (.int p3)] [(.int (1 : Int32)), (.int p3)])) _
    refine XS.icmpYes X2.here hx rfl (pc0 := 11) (pc' := 29) rfl (hb hby d3_11) rfl (flt hc11).2.1 (by decide) (by decide) ?_
    show Steps p.tables e below (T2.setTop (mkF m 29 #[.val (.ref a1), .val (.int p2), .val (.int p3)] [])) _
    refine XS.aloadN X2.here hx rfl (hb hby d3_29) rfl rfl ?_
    show Steps p.tables e below (T2.setTop (mkF m 30 #[.val (.ref a1), .val (.int p2), .val (.int p3)] [(.ref a1)])) _
    refine XS.iloadN X2.here hx rfl (hb hby d3_30) rfl ?_
    show Steps p.tables e below (T2.setTop (mkF m 31 #[.val (.ref a1), .val (.int p2), .val (.int p3)] [(.int p2), (.ref a1)])) _
    exact kt
  obtain ⟨T5, h5, X5, e5, W5, st5⟩ := putF X2 hx hZ hown (host := "") (Or.inl (hw _ (mgE 23 rfl))) Via.refl e2 F_line_a1 E_a1 (Or.inr ⟨(hw _ (mgE 24 rfl)), rfl, hnm⟩) (hw _ (mgE 10 rfl)) (ty := .int) (by decide) rfl rfl (g := (mkF m 31 #[.val (.ref a1), .val (.int p2), .val (.int p3)] [(.int p2), (.ref a1)])) rfl rfl (hb hby d3_31)
  have F6_5 := E_a1.wr W5
  have F8_5 := F_column_a1.other W5 (Or.inr (slot_ne (Or.inr (hw _ (mgE 26 rfl))) (Or.inr (hw _ (mgE 24 rfl))) (by decide) (t := .int) (t' := .int) (by decide) (by decide)))
  have Fw5 := F_line_a1.same W5
  have K5 : Keep h0 h5 [a1] := (Keep.refl h0 [a1]).wr W5 (Or.inl (mgE 0 rfl))
  have pre9 : ∀ t, Steps p.tables e below (T5.setTop (mkF m 34 #[.val (.ref a1), .val (.int p2), .val (.int p3)] [])) t → Steps p.tables e below (s₁.setTop (entryFrame m #[(.ref a1), (.int p2), (.int p3)] 3)) t := fun t kt => pre4 t (st5 t kt)
  have N5 := Fr.snoc X5 N2 g_a1
  have pre10 : ∀ t, Steps p.tables e below (T5.setTop (mkF m 36 #[.val (.ref a1), .val (.int p2), .val (.int p3)] [(.int p3), (.ref a1)])) t → Steps p.tables e below (s₁.setTop (entryFrame m #[(.ref a1), (.int p2), (.int p3)] 3)) t := fun t kt => by
    refine pre9 t ?_
    refine XS.aloadN X5.here hx rfl (hb hby d3_34) rfl rfl ?_
    show Steps p.tables e below (T5.setTop (mkF m 35 #[.val (.ref a1), .val (.int p2), .val (.int p3)] [(.ref a1)])) _
    refine XS.iloadN X5.here hx rfl (hb hby d3_35) rfl ?_
    show Steps p.tables e below (T5.setTop (mkF m 36 #[.val (.ref a1), .val (.int p2), .val (.int p3)] [(.int p3), (.ref a1)])) _
    exact kt
  obtain ⟨T11, h11, X11, e11, W11, st11⟩ := putF X5 hx hZ hown (host := "") (Or.inl (hw _ (mgE 25 rfl))) Via.refl e5 F8_5 F6_5 (Or.inr ⟨(hw _ (mgE 26 rfl)), rfl, hnm⟩) (hw _ (mgE 10 rfl)) (ty := .int) (by decide) rfl rfl (g := (mkF m 36 #[.val (.ref a1), .val (.int p2), .val (.int p3)] [(.int p3), (.ref a1)])) rfl rfl (hb hby d3_36)
  have F12_11 := F6_5.wr W11
  have F13_11 := Fw5.other W11 (Or.inr (slot_ne (Or.inr (hw _ (mgE 24 rfl))) (Or.inr (hw _ (mgE 26 rfl))) (by decide) (t := .int) (t' := .int) (by decide) (by decide)))
  have Fw11 := F8_5.same W11
  have K11 : Keep h0 h11 [a1] := K5.wr W11 (Or.inl (mgE 0 rfl))
  have pre15 : ∀ t, Steps p.tables e below (T11.setTop (mkF m 39 #[.val (.ref a1), .val (.int p2), .val (.int p3)] [])) t → Steps p.tables e below (s₁.setTop (entryFrame m #[(.ref a1), (.int p2), (.int p3)] 3)) t := fun t kt => pre10 t (st11 t kt)
  have N11 := Fr.snoc X11 N5 g_a1
  obtain ⟨fs, hr, hrun, hended, hW, hsame⟩ := X11.leave (v := none) (fun _ => rfl)
  refine ⟨_, _, pre15 _ ?_, hrun, hended, _, _, rfl, ?_, ⟨_, rfl⟩, hW, hsame.mono (by decide) (by decide)⟩
  · exact X11.returnOut hx Bd.returns (hb hby d3_39) hr
  · show Q3 Z a1 p2 p3 u_line_a1 u_column_a1 h0 n0 _ T11.heap _
    rw [e11]
    exact ⟨rfl, N11, K11, F12_11, Fw11, F13_11⟩
theorem d7_0 : decode jdk_33_method_40_code 0 = .ok (.iload_n 0, 1) := by decide +kernel
theorem d7_1 : decode jdk_33_method_40_code 1 = .ok (.iload_n 1, 1) := by decide +kernel
theorem d7_2 : decode jdk_33_method_40_code 2 = .ok (.if_icmp .ge 7, 3) := by decide +kernel
theorem d7_5 : decode jdk_33_method_40_code 5 = .ok (.iconst (-1), 1) := by decide +kernel
theorem d7_6 : decode jdk_33_method_40_code 6 = .ok (.goto 13, 3) := by decide +kernel
theorem d7_9 : decode jdk_33_method_40_code 9 = .ok (.iload_n 0, 1) := by decide +kernel
theorem d7_10 : decode jdk_33_method_40_code 10 = .ok (.iload_n 1, 1) := by decide +kernel
theorem d7_11 : decode jdk_33_method_40_code 11 = .ok (.if_icmp .ne 7, 3) := by decide +kernel
theorem d7_14 : decode jdk_33_method_40_code 14 = .ok (.iconst 0, 1) := by decide +kernel
theorem d7_15 : decode jdk_33_method_40_code 15 = .ok (.goto 4, 3) := by decide +kernel
theorem d7_18 : decode jdk_33_method_40_code 18 = .ok (.iconst 1, 1) := by decide +kernel
theorem d7_19 : decode jdk_33_method_40_code 19 = .ok (.ireturn, 1) := by decide +kernel
theorem pn_java_lang_Integer : plainName "java/lang/Integer" = true := by first | (simp [plainName, overriddenIn]; done) | decide +kernel
theorem ef_7 (m : MethodId) (x0 : Int32) (x1 : Int32) : entryFrame m #[(.int x0), (.int x1)] 2 = mkF m 0 #[.val (.int x0), .val (.int x1)] [] := by first | (simp [entryFrame, mkF, argsToLocals, Value.category]; done) | rfl
def r7 (p1 : Int32) (p2 : Int32) : Int32 := (if p1 < p2 then (-1 : Int32) else (if p1 = p2 then (0 : Int32) else (1 : Int32)))
def Q7 (Z : State) (p1 : Int32) (p2 : Int32) (h0 : Heap) (n0 : Nat) (v : Option Value) (h : Heap) (L : List Loc) : Prop := v = some (.int (r7 p1 p2)) ∧ Fr n0 L ∧ h = h0
set_option maxRecDepth 65536 in
set_option maxHeartbeats 40000000 in
theorem rm7 (l : Launch) (Z : State) (a0 : Array Value) (hw : ∀ d ∈ tables_1, d.before a0 Z = true) (ws : List Jvm.Cond) (p1 : Int32) (p2 : Int32) (h0 : Heap) (n0 : Nat) (Z0 : n0 ≤ h0.size)  :
    MetFree l (⟨"java/lang/Integer", "compare", "(II)I"⟩ : MethodName) (head1 (Jvm.Cond.code (⟨"java/lang/Integer", "compare", "(II)I"⟩ : MethodName) jdk_33_method_40_code 2 (some .int) :: ws) ({ frames := 0, cells := 0, slots := 0, locals := 0 } : Room)) (fun a U => a = #[(.int p1), (.int p2)] ∧ Z.Warmed39 U.vm ∧ U.heap = h0) (fun _ _ _ _ _ => True) (fun _ U o U' => ∃ v L, o = .returned v ∧ Q7 Z p1 p2 h0 n0 v U'.heap L ∧ FrameEnd U o U' L ({ frames := 0, cells := 0, slots := 0, locals := 0 } : Room).cells ({ frames := 0, cells := 0, slots := 0, locals := 0 } : Room).slots) := by
  refine MetFree.of_bodySF (plainFor_of_name pn_java_lang_Integer) hisR ?_
  intro p e s m args below meth c s₁ Bd hml0 hP hK
  obtain ⟨rfl, hZ, hh⟩ := hP
  have hx := Bd.exec
  have hby := Bd.bytes
  have hml : c.maxLocals = 2 := hml0
  have hown : s.vm.findClass "java/lang/Integer" = some m.cls := findClass_of_methodNamed Bd.named
  have hnm := (name_of_methodNamed Bd.named Bd.method).1
  have X0 : Stand p l e ({ frames := 0, cells := 0, slots := 0, locals := 0 } : Room) s m #[(.int p1), (.int p2)] below meth c s₁ [] 0 0 := Stand.of_body Bd
  have e0 : s₁.heap = h0 := by rw [← hh, Bd.state]; rfl
  have N0 := Fr.nil n0
  have pre0 : ∀ t, Steps p.tables e below (s₁.setTop (mkF m 0 #[.val (.int p1), .val (.int p2)] [])) t → Steps p.tables e below (s₁.setTop (entryFrame m #[(.int p1), (.int p2)] 2)) t := fun t k => castTop (ef_7 m p1 p2) k
  by_cases hc2 : p1 < p2
  · skip
    have pre1 : ∀ t, Steps p.tables e below (s₁.setTop (mkF m 19 #[.val (.int p1), .val (.int p2)] [(.int (-1 : Int32))])) t → Steps p.tables e below (s₁.setTop (entryFrame m #[(.int p1), (.int p2)] 2)) t := fun t kt => by
      refine pre0 t ?_
      refine XS.iloadN X0.here hx rfl (hb hby d7_0) rfl ?_
      show Steps p.tables e below (s₁.setTop (mkF m 1 #[.val (.int p1), .val (.int p2)] [(.int p1)])) _
      refine XS.iloadN X0.here hx rfl (hb hby d7_1) rfl ?_
      show Steps p.tables e below (s₁.setTop (mkF m 2 #[.val (.int p1), .val (.int p2)] [(.int p2), (.int p1)])) _
      refine XS.icmpNo X0.here hx rfl (hb hby d7_2) rfl (tlt hc2).2.1 ?_
      show Steps p.tables e below (s₁.setTop (mkF m 5 #[.val (.int p1), .val (.int p2)] [])) _
      refine XS.iconst X0.here hx rfl (hb hby d7_5) ?_
      show Steps p.tables e below (s₁.setTop (mkF m 6 #[.val (.int p1), .val (.int p2)] [(.int (-1 : Int32))])) _
      refine XS.goto X0.here hx rfl (pc0 := 6) (pc' := 19) rfl (hb hby d7_6) (by decide) (by decide) ?_
      show Steps p.tables e below (s₁.setTop (mkF m 19 #[.val (.int p1), .val (.int p2)] [(.int (-1 : Int32))])) _
      exact kt
    obtain ⟨fs, hr, hrun, hended, hW, hsame⟩ := X0.leave (v := some (.int (-1 : Int32))) (fun h => by rw [Bd.returns] at h; cases h)
    refine ⟨_, _, pre1 _ ?_, hrun, hended, _, _, rfl, ?_, ⟨_, rfl⟩, hW, hsame.mono (by decide) (by decide)⟩
    · exact retI X0 hx Bd.returns (hb hby d7_19) hr
    · show Q7 Z p1 p2 h0 n0 _ s₁.heap _
      rw [e0]
      exact ⟨by first | rfl | (simp only [r7, if_pos hc2]), N0, rfl⟩
  · skip
    by_cases hc11 : p1 = p2
    · skip
      have pre2 : ∀ t, Steps p.tables e below (s₁.setTop (mkF m 19 #[.val (.int p1), .val (.int p2)] [(.int (0 : Int32))])) t → Steps p.tables e below (s₁.setTop (entryFrame m #[(.int p1), (.int p2)] 2)) t := fun t kt => by
        refine pre0 t ?_
        refine XS.iloadN X0.here hx rfl (hb hby d7_0) rfl ?_
        show Steps p.tables e below (s₁.setTop (mkF m 1 #[.val (.int p1), .val (.int p2)] [(.int p1)])) _
        refine XS.iloadN X0.here hx rfl (hb hby d7_1) rfl ?_
        show Steps p.tables e below (s₁.setTop (mkF m 2 #[.val (.int p1), .val (.int p2)] [(.int p2), (.int p1)])) _
        refine XS.icmpYes X0.here hx rfl (pc0 := 2) (pc' := 9) rfl (hb hby d7_2) rfl (flt hc2).2.1 (by decide) (by decide) ?_
        show Steps p.tables e below (s₁.setTop (mkF m 9 #[.val (.int p1), .val (.int p2)] [])) _
        refine XS.iloadN X0.here hx rfl (hb hby d7_9) rfl ?_
        show Steps p.tables e below (s₁.setTop (mkF m 10 #[.val (.int p1), .val (.int p2)] [(.int p1)])) _
        refine XS.iloadN X0.here hx rfl (hb hby d7_10) rfl ?_
        show Steps p.tables e below (s₁.setTop (mkF m 11 #[.val (.int p1), .val (.int p2)] [(.int p2), (.int p1)])) _
        refine XS.icmpNo X0.here hx rfl (hb hby d7_11) rfl (teq hc11).2 ?_
        show Steps p.tables e below (s₁.setTop (mkF m 14 #[.val (.int p1), .val (.int p2)] [])) _
        refine XS.iconst X0.here hx rfl (hb hby d7_14) ?_
        show Steps p.tables e below (s₁.setTop (mkF m 15 #[.val (.int p1), .val (.int p2)] [(.int (0 : Int32))])) _
        refine XS.goto X0.here hx rfl (pc0 := 15) (pc' := 19) rfl (hb hby d7_15) (by decide) (by decide) ?_
        show Steps p.tables e below (s₁.setTop (mkF m 19 #[.val (.int p1), .val (.int p2)] [(.int (0 : Int32))])) _
        exact kt
      obtain ⟨fs, hr, hrun, hended, hW, hsame⟩ := X0.leave (v := some (.int (0 : Int32))) (fun h => by rw [Bd.returns] at h; cases h)
      refine ⟨_, _, pre2 _ ?_, hrun, hended, _, _, rfl, ?_, ⟨_, rfl⟩, hW, hsame.mono (by decide) (by decide)⟩
      · exact retI X0 hx Bd.returns (hb hby d7_19) hr
      · show Q7 Z p1 p2 h0 n0 _ s₁.heap _
        rw [e0]
        exact ⟨by first | rfl | (simp only [r7, if_neg hc2, if_pos hc11]), N0, rfl⟩
    · skip
      have pre3 : ∀ t, Steps p.tables e below (s₁.setTop (mkF m 19 #[.val (.int p1), .val (.int p2)] [(.int (1 : Int32))])) t → Steps p.tables e below (s₁.setTop (entryFrame m #[(.int p1), (.int p2)] 2)) t := fun t kt => by
        refine pre0 t ?_
        refine XS.iloadN X0.here hx rfl (hb hby d7_0) rfl ?_
        show Steps p.tables e below (s₁.setTop (mkF m 1 #[.val (.int p1), .val (.int p2)] [(.int p1)])) _
        refine XS.iloadN X0.here hx rfl (hb hby d7_1) rfl ?_
        show Steps p.tables e below (s₁.setTop (mkF m 2 #[.val (.int p1), .val (.int p2)] [(.int p2), (.int p1)])) _
        refine XS.icmpYes X0.here hx rfl (pc0 := 2) (pc' := 9) rfl (hb hby d7_2) rfl (flt hc2).2.1 (by decide) (by decide) ?_
        show Steps p.tables e below (s₁.setTop (mkF m 9 #[.val (.int p1), .val (.int p2)] [])) _
        refine XS.iloadN X0.here hx rfl (hb hby d7_9) rfl ?_
        show Steps p.tables e below (s₁.setTop (mkF m 10 #[.val (.int p1), .val (.int p2)] [(.int p1)])) _
        refine XS.iloadN X0.here hx rfl (hb hby d7_10) rfl ?_
        show Steps p.tables e below (s₁.setTop (mkF m 11 #[.val (.int p1), .val (.int p2)] [(.int p2), (.int p1)])) _
        refine XS.icmpYes X0.here hx rfl (pc0 := 11) (pc' := 18) rfl (hb hby d7_11) rfl (feq hc11).2 (by decide) (by decide) ?_
        show Steps p.tables e below (s₁.setTop (mkF m 18 #[.val (.int p1), .val (.int p2)] [])) _
        refine XS.iconst X0.here hx rfl (hb hby d7_18) ?_
        show Steps p.tables e below (s₁.setTop (mkF m 19 #[.val (.int p1), .val (.int p2)] [(.int (1 : Int32))])) _
        exact kt
      obtain ⟨fs, hr, hrun, hended, hW, hsame⟩ := X0.leave (v := some (.int (1 : Int32))) (fun h => by rw [Bd.returns] at h; cases h)
      refine ⟨_, _, pre3 _ ?_, hrun, hended, _, _, rfl, ?_, ⟨_, rfl⟩, hW, hsame.mono (by decide) (by decide)⟩
      · exact retI X0 hx Bd.returns (hb hby d7_19) hr
      · show Q7 Z p1 p2 h0 n0 _ s₁.heap _
        rw [e0]
        exact ⟨by first | rfl | (simp only [r7, if_neg hc2, if_neg hc11]), N0, rfl⟩
theorem d6_0 : decode prog_41_method_2_code 0 = .ok (.aload_n 0, 1) := by decide +kernel
theorem d6_1 : decode prog_41_method_2_code 1 = .ok (.getfield 16, 3) := by decide +kernel
theorem d6_4 : decode prog_41_method_2_code 4 = .ok (.aload_n 1, 1) := by decide +kernel
theorem d6_5 : decode prog_41_method_2_code 5 = .ok (.getfield 16, 3) := by decide +kernel
theorem d6_8 : decode prog_41_method_2_code 8 = .ok (.if_icmp .eq 17, 3) := by decide +kernel
theorem d6_11 : decode prog_41_method_2_code 11 = .ok (.aload_n 0, 1) := by decide +kernel
theorem d6_12 : decode prog_41_method_2_code 12 = .ok (.getfield 16, 3) := by decide +kernel
theorem d6_15 : decode prog_41_method_2_code 15 = .ok (.aload_n 1, 1) := by decide +kernel
theorem d6_16 : decode prog_41_method_2_code 16 = .ok (.getfield 16, 3) := by decide +kernel
theorem d6_19 : decode prog_41_method_2_code 19 = .ok (.invokestatic 25, 3) := by decide +kernel
theorem d6_22 : decode prog_41_method_2_code 22 = .ok (.goto 14, 3) := by decide +kernel
theorem d6_25 : decode prog_41_method_2_code 25 = .ok (.aload_n 0, 1) := by decide +kernel
theorem d6_26 : decode prog_41_method_2_code 26 = .ok (.getfield 22, 3) := by decide +kernel
theorem d6_29 : decode prog_41_method_2_code 29 = .ok (.aload_n 1, 1) := by decide +kernel
theorem d6_30 : decode prog_41_method_2_code 30 = .ok (.getfield 22, 3) := by decide +kernel
theorem d6_33 : decode prog_41_method_2_code 33 = .ok (.invokestatic 25, 3) := by decide +kernel
theorem d6_36 : decode prog_41_method_2_code 36 = .ok (.ireturn, 1) := by decide +kernel
theorem ef_6 (m : MethodId) (x0 : Addr) (x1 : Addr) : entryFrame m #[(.ref x0), (.ref x1)] 2 = mkF m 0 #[.val (.ref x0), .val (.ref x1)] [] := by first | (simp [entryFrame, mkF, argsToLocals, Value.category]; done) | rfl
def r6 (w_line_a1 : Int32) (w_line_a2 : Int32) (w_column_a1 : Int32) (w_column_a2 : Int32) : Int32 := (if w_line_a1 = w_line_a2 then (r7 w_column_a1 w_column_a2) else (r7 w_line_a1 w_line_a2))
def Q6 (Z : State) (a1 : Addr) (a2 : Addr) (w_line_a1 : Int32) (w_line_a2 : Int32) (w_column_a1 : Int32) (w_column_a2 : Int32) (h0 : Heap) (n0 : Nat) (v : Option Value) (h : Heap) (L : List Loc) : Prop := v = some (.int (r6 w_line_a1 w_line_a2 w_column_a1 w_column_a2)) ∧ Fr n0 L ∧ h = h0
set_option maxRecDepth 65536 in
set_option maxHeartbeats 40000000 in
theorem rm6 (l : Launch) (Z : State) (a0 : Array Value) (hw : ∀ d ∈ tables_1, d.before a0 Z = true) (ws : List Jvm.Cond) (a1 : Addr) (a2 : Addr) (w_line_a1 : Int32) (w_line_a2 : Int32) (w_column_a1 : Int32) (w_column_a2 : Int32) (h0 : Heap) (n0 : Nat) (Z0 : n0 ≤ h0.size) (F_line_a1 : Fld Z h0 a1 "com/example/latticework/latticework/graph/Position" "line" "I" (.int w_line_a1)) (F_line_a2 : Fld Z h0 a2 "com/example/latticework/latticework/graph/Position" "line" "I" (.int w_line_a2)) (F_column_a1 : Fld Z h0 a1 "com/example/latticework/latticework/graph/Position" "column" "I" (.int w_column_a1)) (F_column_a2 : Fld Z h0 a2 "com/example/latticework/latticework/graph/Position" "column" "I" (.int w_column_a2)) :
    MetFree l (⟨"com/example/latticework/latticework/graph/Position", "compareTo", "(Lcom/example/latticework/latticework/graph/Position;)I"⟩ : MethodName) (head1 (Jvm.Cond.code (⟨"com/example/latticework/latticework/graph/Position", "compareTo", "(Lcom/example/latticework/latticework/graph/Position;)I"⟩ : MethodName) prog_41_method_2_code 2 (some .int) :: ws) ({ frames := 1, cells := 0, slots := 0, locals := 13 } : Room)) (fun a U => a = #[(.ref a1), (.ref a2)] ∧ Z.Warmed39 U.vm ∧ U.heap = h0) (fun _ _ _ _ _ => True) (fun _ U o U' => ∃ v L, o = .returned v ∧ Q6 Z a1 a2 w_line_a1 w_line_a2 w_column_a1 w_column_a2 h0 n0 v U'.heap L ∧ FrameEnd U o U' L ({ frames := 1, cells := 0, slots := 0, locals := 13 } : Room).cells ({ frames := 1, cells := 0, slots := 0, locals := 13 } : Room).slots) := by
  refine MetFree.of_bodySF (plainFor_of_name pn_com_example_latticework_latticework_graph_Position) hisR ?_
  intro p e s m args below meth c s₁ Bd hml0 hP hK
  obtain ⟨rfl, hZ, hh⟩ := hP
  have hx := Bd.exec
  have hby := Bd.bytes
  have hml : c.maxLocals = 2 := hml0
  have hown : s.vm.findClass "com/example/latticework/latticework/graph/Position" = some m.cls := findClass_of_methodNamed Bd.named
  have hnm := (name_of_methodNamed Bd.named Bd.method).1
  have X0 : Stand p l e ({ frames := 1, cells := 0, slots := 0, locals := 13 } : Room) s m #[(.ref a1), (.ref a2)] below meth c s₁ [] 0 0 := Stand.of_body Bd
  have e0 : s₁.heap = h0 := by rw [← hh, Bd.state]; rfl
  have N0 := Fr.nil n0
  have pre0 : ∀ t, Steps p.tables e below (s₁.setTop (mkF m 0 #[.val (.ref a1), .val (.ref a2)] [])) t → Steps p.tables e below (s₁.setTop (entryFrame m #[(.ref a1), (.ref a2)] 2)) t := fun t k => castTop (ef_6 m a1 a2) k
  have pre1 : ∀ t, Steps p.tables e below (s₁.setTop (mkF m 1 #[.val (.ref a1), .val (.ref a2)] [(.ref a1)])) t → Steps p.tables e below (s₁.setTop (entryFrame m #[(.ref a1), (.ref a2)] 2)) t := fun t kt => by
    refine pre0 t ?_
    refine XS.aloadN X0.here hx rfl (hb hby d6_0) rfl rfl ?_
    show Steps p.tables e below (s₁.setTop (mkF m 1 #[.val (.ref a1), .val (.ref a2)] [(.ref a1)])) _
    exact kt
  obtain ⟨T2, X2, e2, st2⟩ := getF X0 hx hZ hown (host := "") (Or.inl (hw _ (mgE 23 rfl))) Via.refl e0 F_line_a1 (g := (mkF m 1 #[.val (.ref a1), .val (.ref a2)] [(.ref a1)])) rfl rfl (hb hby d6_1)
  have pre3 : ∀ t, Steps p.tables e below (T2.setTop (mkF m 4 #[.val (.ref a1), .val (.ref a2)] [(.int w_line_a1)])) t → Steps p.tables e below (s₁.setTop (entryFrame m #[(.ref a1), (.ref a2)] 2)) t := fun t kt => pre1 t (st2 t kt)
  have pre4 : ∀ t, Steps p.tables e below (T2.setTop (mkF m 5 #[.val (.ref a1), .val (.ref a2)] [(.ref a2), (.int w_line_a1)])) t → Steps p.tables e below (s₁.setTop (entryFrame m #[(.ref a1), (.ref a2)] 2)) t := fun t kt => by
    refine pre3 t ?_
    refine XS.aloadN X2.here hx rfl (hb hby d6_4) rfl rfl ?_
    show Steps p.tables e below (T2.setTop (mkF m 5 #[.val (.ref a1), .val (.ref a2)] [(.ref a2), (.int w_line_a1)])) _
    exact kt
  obtain ⟨T5, X5, e5, st5⟩ := getF X2 hx hZ hown (host := "") (Or.inl (hw _ (mgE 23 rfl))) Via.refl e2 F_line_a2 (g := (mkF m 5 #[.val (.ref a1), .val (.ref a2)] [(.ref a2), (.int w_line_a1)])) rfl rfl (hb hby d6_5)
  have pre6 : ∀ t, Steps p.tables e below (T5.setTop (mkF m 8 #[.val (.ref a1), .val (.ref a2)] [(.int w_line_a2), (.int w_line_a1)])) t → Steps p.tables e below (s₁.setTop (entryFrame m #[(.ref a1), (.ref a2)] 2)) t := fun t kt => pre4 t (st5 t kt)
  by_cases hc8 : w_line_a1 = w_line_a2
  · skip
    have pre7 : ∀ t, Steps p.tables e below (T5.setTop (mkF m 26 #[.val (.ref a1), .val (.ref a2)] [(.ref a1)])) t → Steps p.tables e below (s₁.setTop (entryFrame m #[(.ref a1), (.ref a2)] 2)) t := fun t kt => by
      refine pre6 t ?_
      refine XS.icmpYes X5.here hx rfl (pc0 := 8) (pc' := 25) rfl (hb hby d6_8) rfl (teq hc8).1 (by decide) (by decide) ?_
      show Steps p.tables e below (T5.setTop (mkF m 25 #[.val (.ref a1), .val (.ref a2)] [])) _
      refine XS.aloadN X5.here hx rfl (hb hby d6_25) rfl rfl ?_
      show Steps p.tables e below (T5.setTop (mkF m 26 #[.val (.ref a1), .val (.ref a2)] [(.ref a1)])) _
      exact kt
    obtain ⟨T8, X8, e8, st8⟩ := getF X5 hx hZ hown (host := "") (Or.inl (hw _ (mgE 25 rfl))) Via.refl e5 F_column_a1 (g := (mkF m 26 #[.val (.ref a1), .val (.ref a2)] [(.ref a1)])) rfl rfl (hb hby d6_26)
    have pre9 : ∀ t, Steps p.tables e below (T8.setTop (mkF m 29 #[.val (.ref a1), .val (.ref a2)] [(.int w_column_a1)])) t → Steps p.tables e below (s₁.setTop (entryFrame m #[(.ref a1), (.ref a2)] 2)) t := fun t kt => pre7 t (st8 t kt)
    have pre10 : ∀ t, Steps p.tables e below (T8.setTop (mkF m 30 #[.val (.ref a1), .val (.ref a2)] [(.ref a2), (.int w_column_a1)])) t → Steps p.tables e below (s₁.setTop (entryFrame m #[(.ref a1), (.ref a2)] 2)) t := fun t kt => by
      refine pre9 t ?_
      refine XS.aloadN X8.here hx rfl (hb hby d6_29) rfl rfl ?_
      show Steps p.tables e below (T8.setTop (mkF m 30 #[.val (.ref a1), .val (.ref a2)] [(.ref a2), (.int w_column_a1)])) _
      exact kt
    obtain ⟨T11, X11, e11, st11⟩ := getF X8 hx hZ hown (host := "") (Or.inl (hw _ (mgE 25 rfl))) Via.refl e8 F_column_a2 (g := (mkF m 30 #[.val (.ref a1), .val (.ref a2)] [(.ref a2), (.int w_column_a1)])) rfl rfl (hb hby d6_30)
    have pre12 : ∀ t, Steps p.tables e below (T11.setTop (mkF m 33 #[.val (.ref a1), .val (.ref a2)] [(.int w_column_a2), (.int w_column_a1)])) t → Steps p.tables e below (s₁.setTop (entryFrame m #[(.ref a1), (.ref a2)] 2)) t := fun t kt => pre10 t (st11 t kt)
    obtain ⟨_, _, ⟨T13, L13, k13, n13⟩, -, X13, ⟨Lc13, hQ13, l13, y13, z13⟩, st13⟩ := Jvm.LawKit.callS X11 hx (y := (⟨"java/lang/Integer", "compare", "(II)I"⟩ : MethodName)) hown (mvT hZ (hw _ (mgE 32 rfl))) (mvT hZ (hw _ (mgE 33 rfl))) (mvT hZ (hw _ (mgE 34 rfl))) (mvT hZ (hw _ (mgE 35 rfl))) (by decide) (backOf (W := 0) (rm7 l Z a0 hw [] w_column_a1 w_column_a2 h0 n0 Z0 ) hZ (hw _ (mgE 35 rfl)) (hw _ (mgE 34 rfl)) (by decide) (by decide)) (g := (mkF m 33 #[.val (.ref a1), .val (.ref a2)] [(.int w_column_a2), (.int w_column_a1)])) rfl (by rw [hml]; rfl) (argsL := [(.int w_column_a1), (.int w_column_a2)]) (rest := []) (lenOf pd__II_I rfl) rfl (by show 2 * 0 + _ ≤ _; exact Nat.le_of_eq rfl) (hb hby d6_33) (fun _ _ => ⟨rfl, e11, (by decide : 0 + 0 ≤ _), (by decide : 0 + 0 ≤ _)⟩)
    dsimp only [Pt.U, Pt.locs, Pt.cells, Pt.slots] at X13 l13 y13 z13 st13 hQ13
    subst l13 y13 z13
    obtain ⟨rfl, N13q, e13⟩ := hQ13
    have pre14 : ∀ t, Steps p.tables e below (T13.setTop (mkF m 36 #[.val (.ref a1), .val (.ref a2)] [(.int (r7 w_column_a1 w_column_a2))])) t → Steps p.tables e below (s₁.setTop (entryFrame m #[(.ref a1), (.ref a2)] 2)) t := fun t kt => pre12 t (st13 t kt)
    have N13 := Fr.app N0 N13q
    obtain ⟨fs, hr, hrun, hended, hW, hsame⟩ := X13.leave (v := some (.int (r7 w_column_a1 w_column_a2))) (fun h => by rw [Bd.returns] at h; cases h)
    refine ⟨_, _, pre14 _ ?_, hrun, hended, _, _, rfl, ?_, ⟨_, rfl⟩, hW, hsame.mono (by decide) (by decide)⟩
    · exact retI X13 hx Bd.returns (hb hby d6_36) hr
    · show Q6 Z a1 a2 w_line_a1 w_line_a2 w_column_a1 w_column_a2 h0 n0 _ T13.heap _
      rw [e13]
      exact ⟨by first | rfl | (simp only [r6, if_pos hc8]), N13, rfl⟩
  · skip
    have pre15 : ∀ t, Steps p.tables e below (T5.setTop (mkF m 12 #[.val (.ref a1), .val (.ref a2)] [(.ref a1)])) t → Steps p.tables e below (s₁.setTop (entryFrame m #[(.ref a1), (.ref a2)] 2)) t := fun t kt => by
      refine pre6 t ?_
      refine XS.icmpNo X5.here hx rfl (hb hby d6_8) rfl (feq hc8).1 ?_
      show Steps p.tables e below (T5.setTop (mkF m 11 #[.val (.ref a1), .val (.ref a2)] [])) _
      refine XS.aloadN X5.here hx rfl (hb hby d6_11) rfl rfl ?_
      show Steps p.tables e below (T5.setTop (mkF m 12 #[.val (.ref a1), .val (.ref a2)] [(.ref a1)])) _
      exact kt
    obtain ⟨T16, X16, e16, st16⟩ := getF X5 hx hZ hown (host := "") (Or.inl (hw _ (mgE 23 rfl))) Via.refl e5 F_line_a1 (g := (mkF m 12 #[.val (.ref a1), .val (.ref a2)] [(.ref a1)])) rfl rfl (hb hby d6_12)
    have pre17 : ∀ t, Steps p.tables e below (T16.setTop (mkF m 15 #[.val (.ref a1), .val (.ref a2)] [(.int w_line_a1)])) t → Steps p.tables e below (s₁.setTop (entryFrame m #[(.ref a1), (.ref a2)] 2)) t := fun t kt => pre15 t (st16 t kt)
    have pre18 : ∀ t, Steps p.tables e below (T16.setTop (mkF m 16 #[.val (.ref a1), .val (.ref a2)] [(.ref a2), (.int w_line_a1)])) t → Steps p.tables e below (s₁.setTop (entryFrame m #[(.ref a1), (.ref a2)] 2)) t := fun t kt => by
      refine pre17 t ?_
      refine XS.aloadN X16.here hx rfl (hb hby d6_15) rfl rfl ?_
      show Steps p.tables e below (T16.setTop (mkF m 16 #[.val (.ref a1), .val (.ref a2)] [(.ref a2), (.int w_line_a1)])) _
      exact kt
    obtain ⟨T19, X19, e19, st19⟩ := getF X16 hx hZ hown (host := "") (Or.inl (hw _ (mgE 23 rfl))) Via.refl e16 F_line_a2 (g := (mkF m 16 #[.val (.ref a1), .val (.ref a2)] [(.ref a2), (.int w_line_a1)])) rfl rfl (hb hby d6_16)
    have pre20 : ∀ t, Steps p.tables e below (T19.setTop (mkF m 19 #[.val (.ref a1), .val (.ref a2)] [(.int w_line_a2), (.int w_line_a1)])) t → Steps p.tables e below (s₁.setTop (entryFrame m #[(.ref a1), (.ref a2)] 2)) t := fun t kt => pre18 t (st19 t kt)
    obtain ⟨_, _, ⟨T21, L21, k21, n21⟩, -, X21, ⟨Lc21, hQ21, l21, y21, z21⟩, st21⟩ := Jvm.LawKit.callS X19 hx (y := (⟨"java/lang/Integer", "compare", "(II)I"⟩ : MethodName)) hown (mvT hZ (hw _ (mgE 32 rfl))) (mvT hZ (hw _ (mgE 33 rfl))) (mvT hZ (hw _ (mgE 34 rfl))) (mvT hZ (hw _ (mgE 35 rfl))) (by decide) (backOf (W := 0) (rm7 l Z a0 hw [] w_line_a1 w_line_a2 h0 n0 Z0 ) hZ (hw _ (mgE 35 rfl)) (hw _ (mgE 34 rfl)) (by decide) (by decide)) (g := (mkF m 19 #[.val (.ref a1), .val (.ref a2)] [(.int w_line_a2), (.int w_line_a1)])) rfl (by rw [hml]; rfl) (argsL := [(.int w_line_a1), (.int w_line_a2)]) (rest := []) (lenOf pd__II_I rfl) rfl (by show 2 * 0 + _ ≤ _; exact Nat.le_of_eq rfl) (hb hby d6_19) (fun _ _ => ⟨rfl, e19, (by decide : 0 + 0 ≤ _), (by decide : 0 + 0 ≤ _)⟩)
    dsimp only [Pt.U, Pt.locs, Pt.cells, Pt.slots] at X21 l21 y21 z21 st21 hQ21
    subst l21 y21 z21
    obtain ⟨rfl, N21q, e21⟩ := hQ21
    have pre22 : ∀ t, Steps p.tables e below (T21.setTop (mkF m 22 #[.val (.ref a1), .val (.ref a2)] [(.int (r7 w_line_a1 w_line_a2))])) t → Steps p.tables e below (s₁.setTop (entryFrame m #[(.ref a1), (.ref a2)] 2)) t := fun t kt => pre20 t (st21 t kt)
    have N21 := Fr.app N0 N21q
    have pre23 : ∀ t, Steps p.tables e below (T21.setTop (mkF m 36 #[.val (.ref a1), .val (.ref a2)] [(.int (r7 w_line_a1 w_line_a2))])) t → Steps p.tables e below (s₁.setTop (entryFrame m #[(.ref a1), (.ref a2)] 2)) t := fun t kt => by
      refine pre22 t ?_
      refine XS.goto X21.here hx rfl (pc0 := 22) (pc' := 36) rfl (hb hby d6_22) (by decide) (by decide) ?_
      show Steps p.tables e below (T21.setTop (mkF m 36 #[.val (.ref a1), .val (.ref a2)] [(.int (r7 w_line_a1 w_line_a2))])) _
      exact kt
    obtain ⟨fs, hr, hrun, hended, hW, hsame⟩ := X21.leave (v := some (.int (r7 w_line_a1 w_line_a2))) (fun h => by rw [Bd.returns] at h; cases h)
    refine ⟨_, _, pre23 _ ?_, hrun, hended, _, _, rfl, ?_, ⟨_, rfl⟩, hW, hsame.mono (by decide) (by decide)⟩
    · exact retI X21 hx Bd.returns (hb hby d6_36) hr
    · show Q6 Z a1 a2 w_line_a1 w_line_a2 w_column_a1 w_column_a2 h0 n0 _ T21.heap _
      rw [e21]
      exact ⟨by first | rfl | (simp only [r6, if_neg hc8]), N21, rfl⟩
theorem d8_0 : decode method_2_code 0 = .ok (.iload_n 0, 1) := by decide +kernel
theorem d8_1 : decode method_2_code 1 = .ok (.ifCond .ge 7, 3) := by decide +kernel
theorem d8_4 : decode method_2_code 4 = .ok (.iconst (-1), 1) := by decide +kernel
theorem d8_5 : decode method_2_code 5 = .ok (.goto 12, 3) := by decide +kernel
theorem d8_8 : decode method_2_code 8 = .ok (.iload_n 0, 1) := by decide +kernel
theorem d8_9 : decode method_2_code 9 = .ok (.ifCond .le 7, 3) := by decide +kernel
theorem d8_12 : decode method_2_code 12 = .ok (.iconst 1, 1) := by decide +kernel
theorem d8_13 : decode method_2_code 13 = .ok (.goto 4, 3) := by decide +kernel
theorem d8_16 : decode method_2_code 16 = .ok (.iconst 0, 1) := by decide +kernel
theorem d8_17 : decode method_2_code 17 = .ok (.ireturn, 1) := by decide +kernel
theorem ef_8 (m : MethodId) (x0 : Int32) : entryFrame m #[(.int x0)] 1 = mkF m 0 #[.val (.int x0)] [] := by first | (simp [entryFrame, mkF, argsToLocals, Value.category]; done) | rfl
def r8 (p1 : Int32) : Int32 := (if p1 < (0 : Int32) then (-1 : Int32) else (if (0 : Int32) < p1 then (1 : Int32) else (0 : Int32)))
def Q8 (Z : State) (p1 : Int32) (h0 : Heap) (n0 : Nat) (v : Option Value) (h : Heap) (L : List Loc) : Prop := v = some (.int (r8 p1)) ∧ Fr n0 L ∧ h = h0
set_option maxRecDepth 65536 in
set_option maxHeartbeats 40000000 in
theorem rm8 (l : Launch) (Z : State) (a0 : Array Value) (hw : ∀ d ∈ tables_1, d.before a0 Z = true) (ws : List Jvm.Cond) (p1 : Int32) (h0 : Heap) (n0 : Nat) (Z0 : n0 ≤ h0.size)  :
    MetFree l (⟨"com/example/latticework/latticework/graph/PositionCompareToPinLaw", "sign", "(I)I"⟩ : MethodName) (head1 (Jvm.Cond.code (⟨"com/example/latticework/latticework/graph/PositionCompareToPinLaw", "sign", "(I)I"⟩ : MethodName) method_2_code 1 (some .int) :: ws) ({ frames := 0, cells := 0, slots := 0, locals := 0 } : Room)) (fun a U => a = #[(.int p1)] ∧ Z.Warmed39 U.vm ∧ U.heap = h0) (fun _ _ _ _ _ => True) (fun _ U o U' => ∃ v L, o = .returned v ∧ Q8 Z p1 h0 n0 v U'.heap L ∧ FrameEnd U o U' L ({ frames := 0, cells := 0, slots := 0, locals := 0 } : Room).cells ({ frames := 0, cells := 0, slots := 0, locals := 0 } : Room).slots) := by
  refine MetFree.of_bodySF (plainFor_of_name pn_com_example_latticework_latticework_graph_PositionCompareToPinLaw) hisR ?_
  intro p e s m args below meth c s₁ Bd hml0 hP hK
  obtain ⟨rfl, hZ, hh⟩ := hP
  have hx := Bd.exec
  have hby := Bd.bytes
  have hml : c.maxLocals = 1 := hml0
  have hown : s.vm.findClass "com/example/latticework/latticework/graph/PositionCompareToPinLaw" = some m.cls := findClass_of_methodNamed Bd.named
  have hnm := (name_of_methodNamed Bd.named Bd.method).1
  have X0 : Stand p l e ({ frames := 0, cells := 0, slots := 0, locals := 0 } : Room) s m #[(.int p1)] below meth c s₁ [] 0 0 := Stand.of_body Bd
  have e0 : s₁.heap = h0 := by rw [← hh, Bd.state]; rfl
  have N0 := Fr.nil n0
  have pre0 : ∀ t, Steps p.tables e below (s₁.setTop (mkF m 0 #[.val (.int p1)] [])) t → Steps p.tables e below (s₁.setTop (entryFrame m #[(.int p1)] 1)) t := fun t k => castTop (ef_8 m p1) k
  by_cases hc1 : p1 < (0 : Int32)
  · skip
    have pre1 : ∀ t, Steps p.tables e below (s₁.setTop (mkF m 17 #[.val (.int p1)] [(.int (-1 : Int32))])) t → Steps p.tables e below (s₁.setTop (entryFrame m #[(.int p1)] 1)) t := fun t kt => by
      refine pre0 t ?_
      refine XS.iloadN X0.here hx rfl (hb hby d8_0) rfl ?_
      show Steps p.tables e below (s₁.setTop (mkF m 1 #[.val (.int p1)] [(.int p1)])) _
      refine XS.ifNo X0.here hx rfl (hb hby d8_1) rfl ((if0 _ _).trans (tlt hc1).2.1) ?_
      show Steps p.tables e below (s₁.setTop (mkF m 4 #[.val (.int p1)] [])) _
      refine XS.iconst X0.here hx rfl (hb hby d8_4) ?_
      show Steps p.tables e below (s₁.setTop (mkF m 5 #[.val (.int p1)] [(.int (-1 : Int32))])) _
      refine XS.goto X0.here hx rfl (pc0 := 5) (pc' := 17) rfl (hb hby d8_5) (by decide) (by decide) ?_
      show Steps p.tables e below (s₁.setTop (mkF m 17 #[.val (.int p1)] [(.int (-1 : Int32))])) _
      exact kt
    obtain ⟨fs, hr, hrun, hended, hW, hsame⟩ := X0.leave (v := some (.int (-1 : Int32))) (fun h => by rw [Bd.returns] at h; cases h)
    refine ⟨_, _, pre1 _ ?_, hrun, hended, _, _, rfl, ?_, ⟨_, rfl⟩, hW, hsame.mono (by decide) (by decide)⟩
    · exact retI X0 hx Bd.returns (hb hby d8_17) hr
    · show Q8 Z p1 h0 n0 _ s₁.heap _
      rw [e0]
      exact ⟨by first | rfl | (simp only [r8, if_pos hc1]), N0, rfl⟩
  · skip
    by_cases hc9 : (0 : Int32) < p1
    · skip
      have pre2 : ∀ t, Steps p.tables e below (s₁.setTop (mkF m 17 #[.val (.int p1)] [(.int (1 : Int32))])) t → Steps p.tables e below (s₁.setTop (entryFrame m #[(.int p1)] 1)) t := fun t kt => by
        refine pre0 t ?_
        refine XS.iloadN X0.here hx rfl (hb hby d8_0) rfl ?_
        show Steps p.tables e below (s₁.setTop (mkF m 1 #[.val (.int p1)] [(.int p1)])) _
        refine XS.ifYes X0.here hx rfl (pc0 := 1) (pc' := 8) rfl (hb hby d8_1) rfl ((if0 _ _).trans (flt hc1).2.1) (by decide) (by decide) ?_
        show Steps p.tables e below (s₁.setTop (mkF m 8 #[.val (.int p1)] [])) _
        refine XS.iloadN X0.here hx rfl (hb hby d8_8) rfl ?_
        show Steps p.tables e below (s₁.setTop (mkF m 9 #[.val (.int p1)] [(.int p1)])) _
        refine XS.ifNo X0.here hx rfl (hb hby d8_9) rfl ((if0 _ _).trans (tlt hc9).2.2.2) ?_
        show Steps p.tables e below (s₁.setTop (mkF m 12 #[.val (.int p1)] [])) _
        refine XS.iconst X0.here hx rfl (hb hby d8_12) ?_
        show Steps p.tables e below (s₁.setTop (mkF m 13 #[.val (.int p1)] [(.int (1 : Int32))])) _
        refine XS.goto X0.here hx rfl (pc0 := 13) (pc' := 17) rfl (hb hby d8_13) (by decide) (by decide) ?_
        show Steps p.tables e below (s₁.setTop (mkF m 17 #[.val (.int p1)] [(.int (1 : Int32))])) _
        exact kt
      obtain ⟨fs, hr, hrun, hended, hW, hsame⟩ := X0.leave (v := some (.int (1 : Int32))) (fun h => by rw [Bd.returns] at h; cases h)
      refine ⟨_, _, pre2 _ ?_, hrun, hended, _, _, rfl, ?_, ⟨_, rfl⟩, hW, hsame.mono (by decide) (by decide)⟩
      · exact retI X0 hx Bd.returns (hb hby d8_17) hr
      · show Q8 Z p1 h0 n0 _ s₁.heap _
        rw [e0]
        exact ⟨by first | rfl | (simp only [r8, if_neg hc1, if_pos hc9]), N0, rfl⟩
    · skip
      have pre3 : ∀ t, Steps p.tables e below (s₁.setTop (mkF m 17 #[.val (.int p1)] [(.int (0 : Int32))])) t → Steps p.tables e below (s₁.setTop (entryFrame m #[(.int p1)] 1)) t := fun t kt => by
        refine pre0 t ?_
        refine XS.iloadN X0.here hx rfl (hb hby d8_0) rfl ?_
        show Steps p.tables e below (s₁.setTop (mkF m 1 #[.val (.int p1)] [(.int p1)])) _
        refine XS.ifYes X0.here hx rfl (pc0 := 1) (pc' := 8) rfl (hb hby d8_1) rfl ((if0 _ _).trans (flt hc1).2.1) (by decide) (by decide) ?_
        show Steps p.tables e below (s₁.setTop (mkF m 8 #[.val (.int p1)] [])) _
        refine XS.iloadN X0.here hx rfl (hb hby d8_8) rfl ?_
        show Steps p.tables e below (s₁.setTop (mkF m 9 #[.val (.int p1)] [(.int p1)])) _
        refine XS.ifYes X0.here hx rfl (pc0 := 9) (pc' := 16) rfl (hb hby d8_9) rfl ((if0 _ _).trans (flt hc9).2.2.2) (by decide) (by decide) ?_
        show Steps p.tables e below (s₁.setTop (mkF m 16 #[.val (.int p1)] [])) _
        refine XS.iconst X0.here hx rfl (hb hby d8_16) ?_
        show Steps p.tables e below (s₁.setTop (mkF m 17 #[.val (.int p1)] [(.int (0 : Int32))])) _
        exact kt
      obtain ⟨fs, hr, hrun, hended, hW, hsame⟩ := X0.leave (v := some (.int (0 : Int32))) (fun h => by rw [Bd.returns] at h; cases h)
      refine ⟨_, _, pre3 _ ?_, hrun, hended, _, _, rfl, ?_, ⟨_, rfl⟩, hW, hsame.mono (by decide) (by decide)⟩
      · exact retI X0 hx Bd.returns (hb hby d8_17) hr
      · show Q8 Z p1 h0 n0 _ s₁.heap _
        rw [e0]
        exact ⟨by first | rfl | (simp only [r8, if_neg hc1, if_neg hc9]), N0, rfl⟩

theorem own_pos (x : Int32) : ¬ (r2 (1 : Int32) x < (1 : Int32)) := by
  unfold r2
  by_cases h : (1 : Int32) < x
  · rw [if_pos h]; exact Int32.not_lt.mpr (Int32.le_of_lt h)
  · rw [if_neg h]; decide
theorem own_cmp (l1 l2 c1 c2 : Int32) : r8 (r6 l1 l2 c1 c2) = (if l1 < l2 then (-1 : Int32) else (if l2 < l1 then (1 : Int32) else (if c1 < c2 then (-1 : Int32) else (if c2 < c1 then (1 : Int32) else (0 : Int32))))) := by
  have key : ∀ a b : Int32, r8 (r7 a b) = (if a < b then (-1 : Int32) else (if b < a then (1 : Int32) else (0 : Int32))) := fun a b => by
    unfold r7
    by_cases h : a < b
    · rw [if_pos h, if_pos h]; decide +kernel
    · rw [if_neg h, if_neg h]
      by_cases h2 : a = b
      · rw [if_pos h2, if_neg (h2 ▸ Int32.lt_irrefl)]; decide +kernel
      · rw [if_neg h2, if_pos (Int32.lt_of_le_of_ne (Int32.not_lt.mp h) (Ne.symm h2))]; decide +kernel
  unfold r6
  by_cases h : l1 = l2
  · rw [if_pos h, key, if_neg (show ¬ l1 < l2 from h ▸ Int32.lt_irrefl), if_neg (show ¬ l2 < l1 from h ▸ Int32.lt_irrefl)]
  · rw [if_neg h, key]
    by_cases h2 : l1 < l2
    · rw [if_pos h2, if_pos h2]
    · rw [if_neg h2, if_neg h2, if_pos (Int32.lt_of_le_of_ne (Int32.not_lt.mp h2) (Ne.symm h)), if_pos (Int32.lt_of_le_of_ne (Int32.not_lt.mp h2) (Ne.symm h))]

theorem pd__I_I : parseMethodDescriptor "(I)I" = some ⟨[.int], some .int⟩ := by decide +kernel
theorem pd__II_V : parseMethodDescriptor "(II)V" = some ⟨[.int, .int], none⟩ := by decide +kernel
theorem pd__Lcom_example_latticework_latticework_graph_Position__I : parseMethodDescriptor "(Lcom/example/latticework/latticework/graph/Position;)I" = some ⟨[(.object "com/example/latticework/latticework/graph/Position")], some .int⟩ := by decide +kernel
theorem ef_0 (m : MethodId) (x0 : Int32) (x1 : Int32) (x2 : Int32) (x3 : Int32) (x4 : Int32) : entryFrame m #[(.int x0), (.int x1), (.int x2), (.int x3), (.int x4)] maxLocals = mkF m 0 #[.val (.int x0), .val (.int x1), .val (.int x2), .val (.int x3), .val (.int x4), .unset, .unset, .unset, .unset, .unset, .unset, .unset] [] := by first | (simp [entryFrame, mkF, argsToLocals, Value.category, maxLocals]; done) | rfl
def Q0 (Z : State) (p1 : Int32) (p2 : Int32) (p3 : Int32) (p4 : Int32) (p5 : Int32) (h0 : Heap) (n0 : Nat) (v : Option Value) (h : Heap) (L : List Loc) : Prop := v = some (.int 1) ∧ Fr n0 L
set_option maxRecDepth 65536 in
set_option maxHeartbeats 40000000 in
theorem rm0 (l : Launch) (Z : State) (a0 : Array Value) (hw : ∀ d ∈ tables_1, d.before a0 Z = true) (ws : List Jvm.Cond) (p1 : Int32) (p2 : Int32) (p3 : Int32) (p4 : Int32) (p5 : Int32) (h0 : Heap) (n0 : Nat) (Z0 : n0 ≤ h0.size)  :
    MetFree l x (head1 (Jvm.Cond.code x code maxLocals ret :: ws) room_1) (fun a U => a = #[(.int p1), (.int p2), (.int p3), (.int p4), (.int p5)] ∧ Z.Warmed39 U.vm ∧ U.heap = h0) (fun _ _ _ _ _ => True) (fun _ U o U' => ∃ v L, o = .returned v ∧ Q0 Z p1 p2 p3 p4 p5 h0 n0 v U'.heap L ∧ FrameEnd U o U' L room_1.cells room_1.slots) := by
  refine MetFree.of_bodySF (plainFor_of_name pn_com_example_latticework_latticework_graph_PositionCompareToPinLaw) hisR ?_
  intro p e s m args below meth c s₁ Bd hml0 hP hK
  obtain ⟨rfl, hZ, hh⟩ := hP
  have hx := Bd.exec
  have hby := Bd.bytes
  have hml : c.maxLocals = 12 := hml0
  have hown : s.vm.findClass "com/example/latticework/latticework/graph/PositionCompareToPinLaw" = some m.cls := findClass_of_methodNamed Bd.named
  have hnm := (name_of_methodNamed Bd.named Bd.method).1
  have X0 : Stand p l e room_1 s m #[(.int p1), (.int p2), (.int p3), (.int p4), (.int p5)] below meth c s₁ [] 0 0 := Stand.of_body Bd
  have e0 : s₁.heap = h0 := by rw [← hh, Bd.state]; rfl
  have N0 := Fr.nil n0
  have pre0 : ∀ t, Steps p.tables e below (s₁.setTop (mkF m 0 #[.val (.int p1), .val (.int p2), .val (.int p3), .val (.int p4), .val (.int p5), .unset, .unset, .unset, .unset, .unset, .unset, .unset] [])) t → Steps p.tables e below (s₁.setTop (entryFrame m #[(.int p1), (.int p2), (.int p3), (.int p4), (.int p5)] maxLocals)) t := fun t k => castTop (ef_0 m p1 p2 p3 p4 p5) k
  have pre1 : ∀ t, Steps p.tables e below (s₁.setTop (mkF m 1 #[.val (.int p1), .val (.int p2), .val (.int p3), .val (.int p4), .val (.int p5), .unset, .unset, .unset, .unset, .unset, .unset, .unset] [(.int p1)])) t → Steps p.tables e below (s₁.setTop (entryFrame m #[(.int p1), (.int p2), (.int p3), (.int p4), (.int p5)] maxLocals)) t := fun t kt => by
    refine pre0 t ?_
    refine XS.iloadN X0.here hx rfl (hb hby at_0) rfl ?_
    show Steps p.tables e below (s₁.setTop (mkF m 1 #[.val (.int p1), .val (.int p2), .val (.int p3), .val (.int p4), .val (.int p5), .unset, .unset, .unset, .unset, .unset, .unset, .unset] [(.int p1)])) _
    exact kt
  obtain ⟨_, _, ⟨T2, L2, k2, n2⟩, -, X2, ⟨Lc2, hQ2, l2, y2, z2⟩, st2⟩ := Jvm.LawKit.callS X0 hx (y := (⟨"com/example/latticework/latticework/graph/PositionCompareToPinLaw", "pos", "(I)I"⟩ : MethodName)) hown (mvT hZ (hw _ (mgE 0 rfl))) (mvT hZ (hw _ (mgE 1 rfl))) (mvT hZ (hw _ (mgE 2 rfl))) (mvT hZ (hw _ (mgE 3 rfl))) (by decide) (backOf (W := 0) (rm1 l Z a0 hw [] p1 h0 n0 Z0 ) hZ (hw _ (mgE 3 rfl)) (hw _ (mgE 2 rfl)) (by decide) (by decide)) (g := (mkF m 1 #[.val (.int p1), .val (.int p2), .val (.int p3), .val (.int p4), .val (.int p5), .unset, .unset, .unset, .unset, .unset, .unset, .unset] [(.int p1)])) rfl (by rw [hml]; rfl) (argsL := [(.int p1)]) (rest := []) (lenOf pd__I_I rfl) rfl (by show 2 * 0 + _ ≤ _; exact Nat.le_of_eq rfl) (hb hby at_1) (fun _ _ => ⟨rfl, e0, (by decide : 0 + 0 ≤ _), (by decide : 0 + 0 ≤ _)⟩)
  dsimp only [Pt.U, Pt.locs, Pt.cells, Pt.slots] at X2 l2 y2 z2 st2 hQ2
  subst l2 y2 z2
  obtain ⟨rfl, N2q, e2⟩ := hQ2
  have pre3 : ∀ t, Steps p.tables e below (T2.setTop (mkF m 4 #[.val (.int p1), .val (.int p2), .val (.int p3), .val (.int p4), .val (.int p5), .unset, .unset, .unset, .unset, .unset, .unset, .unset] [(.int (r2 (1 : Int32) (p1 &&& (2147483647 : Int32))))])) t → Steps p.tables e below (s₁.setTop (entryFrame m #[(.int p1), (.int p2), (.int p3), (.int p4), (.int p5)] maxLocals)) t := fun t kt => pre1 t (st2 t kt)
  have N2 := Fr.app N0 N2q
  have pre4 : ∀ t, Steps p.tables e below (T2.setTop (mkF m 6 #[.val (.int p1), .val (.int p2), .val (.int p3), .val (.int p4), .val (.int p5), .val (.int (r2 (1 : Int32) (p1 &&& (2147483647 : Int32)))), .unset, .unset, .unset, .unset, .unset, .unset] [])) t → Steps p.tables e below (s₁.setTop (entryFrame m #[(.int p1), (.int p2), (.int p3), (.int p4), (.int p5)] maxLocals)) t := fun t kt => by
    refine pre3 t ?_
    refine XS.istore X2.here hx rfl (hb hby at_4) rfl (l' := #[.val (.int p1), .val (.int p2), .val (.int p3), .val (.int p4), .val (.int p5), .val (.int (r2 (1 : Int32) (p1 &&& (2147483647 : Int32)))), .unset, .unset, .unset, .unset, .unset, .unset]) rfl ?_
    show Steps p.tables e below (T2.setTop (mkF m 6 #[.val (.int p1), .val (.int p2), .val (.int p3), .val (.int p4), .val (.int p5), .val (.int (r2 (1 : Int32) (p1 &&& (2147483647 : Int32)))), .unset, .unset, .unset, .unset, .unset, .unset] [])) _
    exact kt
  obtain ⟨ln1, h_ln1⟩ : ∃ z, z = (r2 (1 : Int32) (p1 &&& (2147483647 : Int32))) := ⟨_, rfl⟩
  rw [← h_ln1] at pre4
  have pre5 : ∀ t, Steps p.tables e below (T2.setTop (mkF m 7 #[.val (.int p1), .val (.int p2), .val (.int p3), .val (.int p4), .val (.int p5), .val (.int ln1), .unset, .unset, .unset, .unset, .unset, .unset] [(.int p2)])) t → Steps p.tables e below (s₁.setTop (entryFrame m #[(.int p1), (.int p2), (.int p3), (.int p4), (.int p5)] maxLocals)) t := fun t kt => by
    refine pre4 t ?_
    refine XS.iloadN X2.here hx rfl (hb hby at_6) rfl ?_
    show Steps p.tables e below (T2.setTop (mkF m 7 #[.val (.int p1), .val (.int p2), .val (.int p3), .val (.int p4), .val (.int p5), .val (.int ln1), .unset, .unset, .unset, .unset, .unset, .unset] [(.int p2)])) _
    exact kt
  obtain ⟨_, _, ⟨T6, L6, k6, n6⟩, -, X6, ⟨Lc6, hQ6, l6, y6, z6⟩, st6⟩ := Jvm.LawKit.callS X2 hx (y := (⟨"com/example/latticework/latticework/graph/PositionCompareToPinLaw", "pos", "(I)I"⟩ : MethodName)) hown (mvT hZ (hw _ (mgE 0 rfl))) (mvT hZ (hw _ (mgE 1 rfl))) (mvT hZ (hw _ (mgE 2 rfl))) (mvT hZ (hw _ (mgE 3 rfl))) (by decide) (backOf (W := 0) (rm1 l Z a0 hw [] p2 h0 n0 Z0 ) hZ (hw _ (mgE 3 rfl)) (hw _ (mgE 2 rfl)) (by decide) (by decide)) (g := (mkF m 7 #[.val (.int p1), .val (.int p2), .val (.int p3), .val (.int p4), .val (.int p5), .val (.int ln1), .unset, .unset, .unset, .unset, .unset, .unset] [(.int p2)])) rfl (by rw [hml]; rfl) (argsL := [(.int p2)]) (rest := []) (lenOf pd__I_I rfl) rfl (by show 2 * 0 + _ ≤ _; exact Nat.le_of_eq rfl) (hb hby at_7) (fun _ _ => ⟨rfl, e2, (by decide : 0 + 0 ≤ _), (by decide : 0 + 0 ≤ _)⟩)
  dsimp only [Pt.U, Pt.locs, Pt.cells, Pt.slots] at X6 l6 y6 z6 st6 hQ6
  subst l6 y6 z6
  obtain ⟨rfl, N6q, e6⟩ := hQ6
  have pre7 : ∀ t, Steps p.tables e below (T6.setTop (mkF m 10 #[.val (.int p1), .val (.int p2), .val (.int p3), .val (.int p4), .val (.int p5), .val (.int ln1), .unset, .unset, .unset, .unset, .unset, .unset] [(.int (r2 (1 : Int32) (p2 &&& (2147483647 : Int32))))])) t → Steps p.tables e below (s₁.setTop (entryFrame m #[(.int p1), (.int p2), (.int p3), (.int p4), (.int p5)] maxLocals)) t := fun t kt => pre5 t (st6 t kt)
  have N6 := Fr.app N2 N6q
  have pre8 : ∀ t, Steps p.tables e below (T6.setTop (mkF m 12 #[.val (.int p1), .val (.int p2), .val (.int p3), .val (.int p4), .val (.int p5), .val (.int ln1), .val (.int (r2 (1 : Int32) (p2 &&& (2147483647 : Int32)))), .unset, .unset, .unset, .unset, .unset] [])) t → Steps p.tables e below (s₁.setTop (entryFrame m #[(.int p1), (.int p2), (.int p3), (.int p4), (.int p5)] maxLocals)) t := fun t kt => by
    refine pre7 t ?_
    refine XS.istore X6.here hx rfl (hb hby at_10) rfl (l' := #[.val (.int p1), .val (.int p2), .val (.int p3), .val (.int p4), .val (.int p5), .val (.int ln1), .val (.int (r2 (1 : Int32) (p2 &&& (2147483647 : Int32)))), .unset, .unset, .unset, .unset, .unset]) rfl ?_
    show Steps p.tables e below (T6.setTop (mkF m 12 #[.val (.int p1), .val (.int p2), .val (.int p3), .val (.int p4), .val (.int p5), .val (.int ln1), .val (.int (r2 (1 : Int32) (p2 &&& (2147483647 : Int32)))), .unset, .unset, .unset, .unset, .unset] [])) _
    exact kt
  obtain ⟨cl1, h_cl1⟩ : ∃ z, z = (r2 (1 : Int32) (p2 &&& (2147483647 : Int32))) := ⟨_, rfl⟩
  rw [← h_cl1] at pre8
  have o1 : ¬ (ln1 < (1 : Int32)) := by rw [h_ln1]; exact own_pos _
  have o2 : ¬ (cl1 < (1 : Int32)) := by rw [h_cl1]; exact own_pos _
  have pre9 : ∀ t, Steps p.tables e below (T6.setTop (mkF m 16 #[.val (.int p1), .val (.int p2), .val (.int p3), .val (.int p4), .val (.int p5), .val (.int ln1), .val (.int cl1), .unset, .unset, .unset, .unset, .unset] [(.int (p5 &&& (1 : Int32)))])) t → Steps p.tables e below (s₁.setTop (entryFrame m #[(.int p1), (.int p2), (.int p3), (.int p4), (.int p5)] maxLocals)) t := fun t kt => by
    refine pre8 t ?_
    refine XS.iload X6.here hx rfl (hb hby at_12) rfl ?_
    show Steps p.tables e below (T6.setTop (mkF m 14 #[.val (.int p1), .val (.int p2), .val (.int p3), .val (.int p4), .val (.int p5), .val (.int ln1), .val (.int cl1), .unset, .unset, .unset, .unset, .unset] [(.int p5)])) _
    refine XS.iconst X6.here hx rfl (hb hby at_14) ?_
    show Steps p.tables e below (T6.setTop (mkF m 15 #[.val (.int p1), .val (.int p2), .val (.int p3), .val (.int p4), .val (.int p5), .val (.int ln1), .val (.int cl1), .unset, .unset, .unset, .unset, .unset] [(.int (1 : Int32)), (.int p5)])) _
    refine XS.iand X6.here hx rfl (hb hby at_15) rfl ?_
    show Steps p.tables e below (T6.setTop (mkF m 16 #[.val (.int p1), .val (.int p2), .val (.int p3), .val (.int p4), .val (.int p5), .val (.int ln1), .val (.int cl1), .unset, .unset, .unset, .unset, .unset] [(.int (p5 &&& (1 : Int32)))])) _
    exact kt
  obtain ⟨T10, L10, ln2, X10, e10, N10, h_ln2, pre10⟩ : ∃ (T10 : State) (L10 : List Loc) (ln2 : Int32), Stand p l e room_1 s m #[(.int p1), (.int p2), (.int p3), (.int p4), (.int p5)] below meth c T10 L10 0 0 ∧ T10.heap = h0 ∧ Fr n0 L10 ∧ ln2 = (if (p5 &&& (1 : Int32)) = (0 : Int32) then (r2 (1 : Int32) (p3 &&& (2147483647 : Int32))) else ln1) ∧ (∀ t, Steps p.tables e below (T10.setTop (mkF m 28 #[.val (.int p1), .val (.int p2), .val (.int p3), .val (.int p4), .val (.int p5), .val (.int ln1), .val (.int cl1), .unset, .unset, .unset, .unset, .unset] [(.int ln2)])) t → Steps p.tables e below (s₁.setTop (entryFrame m #[(.int p1), (.int p2), (.int p3), (.int p4), (.int p5)] maxLocals)) t) := by
    by_cases hc16 : (p5 &&& (1 : Int32)) = (0 : Int32)
    · skip
      have pre11 : ∀ t, Steps p.tables e below (T6.setTop (mkF m 25 #[.val (.int p1), .val (.int p2), .val (.int p3), .val (.int p4), .val (.int p5), .val (.int ln1), .val (.int cl1), .unset, .unset, .unset, .unset, .unset] [(.int p3)])) t → Steps p.tables e below (s₁.setTop (entryFrame m #[(.int p1), (.int p2), (.int p3), (.int p4), (.int p5)] maxLocals)) t := fun t kt => by
        refine pre9 t ?_
        refine XS.ifYes X6.here hx rfl (pc0 := 16) (pc' := 24) rfl (hb hby at_16) rfl ((if0 _ _).trans (teq hc16).1) (by decide) (by decide) ?_
        show Steps p.tables e below (T6.setTop (mkF m 24 #[.val (.int p1), .val (.int p2), .val (.int p3), .val (.int p4), .val (.int p5), .val (.int ln1), .val (.int cl1), .unset, .unset, .unset, .unset, .unset] [])) _
        refine XS.iloadN X6.here hx rfl (hb hby at_24) rfl ?_
        show Steps p.tables e below (T6.setTop (mkF m 25 #[.val (.int p1), .val (.int p2), .val (.int p3), .val (.int p4), .val (.int p5), .val (.int ln1), .val (.int cl1), .unset, .unset, .unset, .unset, .unset] [(.int p3)])) _
        exact kt
      obtain ⟨_, _, ⟨T12, L12, k12, n12⟩, -, X12, ⟨Lc12, hQ12, l12, y12, z12⟩, st12⟩ := Jvm.LawKit.callS X6 hx (y := (⟨"com/example/latticework/latticework/graph/PositionCompareToPinLaw", "pos", "(I)I"⟩ : MethodName)) hown (mvT hZ (hw _ (mgE 0 rfl))) (mvT hZ (hw _ (mgE 1 rfl))) (mvT hZ (hw _ (mgE 2 rfl))) (mvT hZ (hw _ (mgE 3 rfl))) (by decide) (backOf (W := 0) (rm1 l Z a0 hw [] p3 h0 n0 Z0 ) hZ (hw _ (mgE 3 rfl)) (hw _ (mgE 2 rfl)) (by decide) (by decide)) (g := (mkF m 25 #[.val (.int p1), .val (.int p2), .val (.int p3), .val (.int p4), .val (.int p5), .val (.int ln1), .val (.int cl1), .unset, .unset, .unset, .unset, .unset] [(.int p3)])) rfl (by rw [hml]; rfl) (argsL := [(.int p3)]) (rest := []) (lenOf pd__I_I rfl) rfl (by show 2 * 0 + _ ≤ _; exact Nat.le_of_eq rfl) (hb hby at_25) (fun _ _ => ⟨rfl, e6, (by decide : 0 + 0 ≤ _), (by decide : 0 + 0 ≤ _)⟩)
      dsimp only [Pt.U, Pt.locs, Pt.cells, Pt.slots] at X12 l12 y12 z12 st12 hQ12
      subst l12 y12 z12
      obtain ⟨rfl, N12q, e12⟩ := hQ12
      have pre13 : ∀ t, Steps p.tables e below (T12.setTop (mkF m 28 #[.val (.int p1), .val (.int p2), .val (.int p3), .val (.int p4), .val (.int p5), .val (.int ln1), .val (.int cl1), .unset, .unset, .unset, .unset, .unset] [(.int (r2 (1 : Int32) (p3 &&& (2147483647 : Int32))))])) t → Steps p.tables e below (s₁.setTop (entryFrame m #[(.int p1), (.int p2), (.int p3), (.int p4), (.int p5)] maxLocals)) t := fun t kt => pre11 t (st12 t kt)
      have N12 := Fr.app N6 N12q
      exact ⟨T12, _, (r2 (1 : Int32) (p3 &&& (2147483647 : Int32))), X12, e12, N12, by first | rfl | (simp only [if_pos hc16]), pre13⟩
    · skip
      have pre14 : ∀ t, Steps p.tables e below (T6.setTop (mkF m 28 #[.val (.int p1), .val (.int p2), .val (.int p3), .val (.int p4), .val (.int p5), .val (.int ln1), .val (.int cl1), .unset, .unset, .unset, .unset, .unset] [(.int ln1)])) t → Steps p.tables e below (s₁.setTop (entryFrame m #[(.int p1), (.int p2), (.int p3), (.int p4), (.int p5)] maxLocals)) t := fun t kt => by
        refine pre9 t ?_
        refine XS.ifNo X6.here hx rfl (hb hby at_16) rfl ((if0 _ _).trans (feq hc16).1) ?_
        show Steps p.tables e below (T6.setTop (mkF m 19 #[.val (.int p1), .val (.int p2), .val (.int p3), .val (.int p4), .val (.int p5), .val (.int ln1), .val (.int cl1), .unset, .unset, .unset, .unset, .unset] [])) _
        refine XS.iload X6.here hx rfl (hb hby at_19) rfl ?_
        show Steps p.tables e below (T6.setTop (mkF m 21 #[.val (.int p1), .val (.int p2), .val (.int p3), .val (.int p4), .val (.int p5), .val (.int ln1), .val (.int cl1), .unset, .unset, .unset, .unset, .unset] [(.int ln1)])) _
        refine XS.goto X6.here hx rfl (pc0 := 21) (pc' := 28) rfl (hb hby at_21) (by decide) (by decide) ?_
        show Steps p.tables e below (T6.setTop (mkF m 28 #[.val (.int p1), .val (.int p2), .val (.int p3), .val (.int p4), .val (.int p5), .val (.int ln1), .val (.int cl1), .unset, .unset, .unset, .unset, .unset] [(.int ln1)])) _
        exact kt
      exact ⟨T6, _, ln1, X6, e6, N6, by first | rfl | (simp only [if_neg hc16]), pre14⟩
  have o3 : ¬ (ln2 < (1 : Int32)) := by rw [h_ln2]; by_cases hq : (p5 &&& (1 : Int32)) = (0 : Int32); exact (by rw [if_pos hq]; exact own_pos _); exact (by rw [if_neg hq]; exact o1)
  have pre15 : ∀ t, Steps p.tables e below (T10.setTop (mkF m 34 #[.val (.int p1), .val (.int p2), .val (.int p3), .val (.int p4), .val (.int p5), .val (.int ln1), .val (.int cl1), .val (.int ln2), .unset, .unset, .unset, .unset] [(.int (p5 &&& (2 : Int32)))])) t → Steps p.tables e below (s₁.setTop (entryFrame m #[(.int p1), (.int p2), (.int p3), (.int p4), (.int p5)] maxLocals)) t := fun t kt => by
    refine pre10 t ?_
    refine XS.istore X10.here hx rfl (hb hby at_28) rfl (l' := #[.val (.int p1), .val (.int p2), .val (.int p3), .val (.int p4), .val (.int p5), .val (.int ln1), .val (.int cl1), .val (.int ln2), .unset, .unset, .unset, .unset]) rfl ?_
    show Steps p.tables e below (T10.setTop (mkF m 30 #[.val (.int p1), .val (.int p2), .val (.int p3), .val (.int p4), .val (.int p5), .val (.int ln1), .val (.int cl1), .val (.int ln2), .unset, .unset, .unset, .unset] [])) _
    refine XS.iload X10.here hx rfl (hb hby at_30) rfl ?_
    show Steps p.tables e below (T10.setTop (mkF m 32 #[.val (.int p1), .val (.int p2), .val (.int p3), .val (.int p4), .val (.int p5), .val (.int ln1), .val (.int cl1), .val (.int ln2), .unset, .unset, .unset, .unset] [(.int p5)])) _
    refine XS.iconst X10.here hx rfl (hb hby at_32) ?_
    show Steps p.tables e below (T10.setTop (mkF m 33 #[.val (.int p1), .val (.int p2), .val (.int p3), .val (.int p4), .val (.int p5), .val (.int ln1), .val (.int cl1), .val (.int ln2), .unset, .unset, .unset, .unset] [(.int (2 : Int32)), (.int p5)])) _
    refine XS.iand X10.here hx rfl (hb hby at_33) rfl ?_
    show Steps p.tables e below (T10.setTop (mkF m 34 #[.val (.int p1), .val (.int p2), .val (.int p3), .val (.int p4), .val (.int p5), .val (.int ln1), .val (.int cl1), .val (.int ln2), .unset, .unset, .unset, .unset] [(.int (p5 &&& (2 : Int32)))])) _
    exact kt
  obtain ⟨T16, L16, cl2, X16, e16, N16, h_cl2, pre16⟩ : ∃ (T16 : State) (L16 : List Loc) (cl2 : Int32), Stand p l e room_1 s m #[(.int p1), (.int p2), (.int p3), (.int p4), (.int p5)] below meth c T16 L16 0 0 ∧ T16.heap = h0 ∧ Fr n0 L16 ∧ cl2 = (if (p5 &&& (2 : Int32)) = (0 : Int32) then (r2 (1 : Int32) (p4 &&& (2147483647 : Int32))) else cl1) ∧ (∀ t, Steps p.tables e below (T16.setTop (mkF m 46 #[.val (.int p1), .val (.int p2), .val (.int p3), .val (.int p4), .val (.int p5), .val (.int ln1), .val (.int cl1), .val (.int ln2), .unset, .unset, .unset, .unset] [(.int cl2)])) t → Steps p.tables e below (s₁.setTop (entryFrame m #[(.int p1), (.int p2), (.int p3), (.int p4), (.int p5)] maxLocals)) t) := by
    by_cases hc34 : (p5 &&& (2 : Int32)) = (0 : Int32)
    · skip
      have pre17 : ∀ t, Steps p.tables e below (T10.setTop (mkF m 43 #[.val (.int p1), .val (.int p2), .val (.int p3), .val (.int p4), .val (.int p5), .val (.int ln1), .val (.int cl1), .val (.int ln2), .unset, .unset, .unset, .unset] [(.int p4)])) t → Steps p.tables e below (s₁.setTop (entryFrame m #[(.int p1), (.int p2), (.int p3), (.int p4), (.int p5)] maxLocals)) t := fun t kt => by
        refine pre15 t ?_
        refine XS.ifYes X10.here hx rfl (pc0 := 34) (pc' := 42) rfl (hb hby at_34) rfl ((if0 _ _).trans (teq hc34).1) (by decide) (by decide) ?_
        show Steps p.tables e below (T10.setTop (mkF m 42 #[.val (.int p1), .val (.int p2), .val (.int p3), .val (.int p4), .val (.int p5), .val (.int ln1), .val (.int cl1), .val (.int ln2), .unset, .unset, .unset, .unset] [])) _
        refine XS.iloadN X10.here hx rfl (hb hby at_42) rfl ?_
        show Steps p.tables e below (T10.setTop (mkF m 43 #[.val (.int p1), .val (.int p2), .val (.int p3), .val (.int p4), .val (.int p5), .val (.int ln1), .val (.int cl1), .val (.int ln2), .unset, .unset, .unset, .unset] [(.int p4)])) _
        exact kt
      obtain ⟨_, _, ⟨T18, L18, k18, n18⟩, -, X18, ⟨Lc18, hQ18, l18, y18, z18⟩, st18⟩ := Jvm.LawKit.callS X10 hx (y := (⟨"com/example/latticework/latticework/graph/PositionCompareToPinLaw", "pos", "(I)I"⟩ : MethodName)) hown (mvT hZ (hw _ (mgE 0 rfl))) (mvT hZ (hw _ (mgE 1 rfl))) (mvT hZ (hw _ (mgE 2 rfl))) (mvT hZ (hw _ (mgE 3 rfl))) (by decide) (backOf (W := 0) (rm1 l Z a0 hw [] p4 h0 n0 Z0 ) hZ (hw _ (mgE 3 rfl)) (hw _ (mgE 2 rfl)) (by decide) (by decide)) (g := (mkF m 43 #[.val (.int p1), .val (.int p2), .val (.int p3), .val (.int p4), .val (.int p5), .val (.int ln1), .val (.int cl1), .val (.int ln2), .unset, .unset, .unset, .unset] [(.int p4)])) rfl (by rw [hml]; rfl) (argsL := [(.int p4)]) (rest := []) (lenOf pd__I_I rfl) rfl (by show 2 * 0 + _ ≤ _; exact Nat.le_of_eq rfl) (hb hby at_43) (fun _ _ => ⟨rfl, e10, (by decide : 0 + 0 ≤ _), (by decide : 0 + 0 ≤ _)⟩)
      dsimp only [Pt.U, Pt.locs, Pt.cells, Pt.slots] at X18 l18 y18 z18 st18 hQ18
      subst l18 y18 z18
      obtain ⟨rfl, N18q, e18⟩ := hQ18
      have pre19 : ∀ t, Steps p.tables e below (T18.setTop (mkF m 46 #[.val (.int p1), .val (.int p2), .val (.int p3), .val (.int p4), .val (.int p5), .val (.int ln1), .val (.int cl1), .val (.int ln2), .unset, .unset, .unset, .unset] [(.int (r2 (1 : Int32) (p4 &&& (2147483647 : Int32))))])) t → Steps p.tables e below (s₁.setTop (entryFrame m #[(.int p1), (.int p2), (.int p3), (.int p4), (.int p5)] maxLocals)) t := fun t kt => pre17 t (st18 t kt)
      have N18 := Fr.app N10 N18q
      exact ⟨T18, _, (r2 (1 : Int32) (p4 &&& (2147483647 : Int32))), X18, e18, N18, by first | rfl | (simp only [if_pos hc34]), pre19⟩
    · skip
      have pre20 : ∀ t, Steps p.tables e below (T10.setTop (mkF m 46 #[.val (.int p1), .val (.int p2), .val (.int p3), .val (.int p4), .val (.int p5), .val (.int ln1), .val (.int cl1), .val (.int ln2), .unset, .unset, .unset, .unset] [(.int cl1)])) t → Steps p.tables e below (s₁.setTop (entryFrame m #[(.int p1), (.int p2), (.int p3), (.int p4), (.int p5)] maxLocals)) t := fun t kt => by
        refine pre15 t ?_
        refine XS.ifNo X10.here hx rfl (hb hby at_34) rfl ((if0 _ _).trans (feq hc34).1) ?_
        show Steps p.tables e below (T10.setTop (mkF m 37 #[.val (.int p1), .val (.int p2), .val (.int p3), .val (.int p4), .val (.int p5), .val (.int ln1), .val (.int cl1), .val (.int ln2), .unset, .unset, .unset, .unset] [])) _
        refine XS.iload X10.here hx rfl (hb hby at_37) rfl ?_
        show Steps p.tables e below (T10.setTop (mkF m 39 #[.val (.int p1), .val (.int p2), .val (.int p3), .val (.int p4), .val (.int p5), .val (.int ln1), .val (.int cl1), .val (.int ln2), .unset, .unset, .unset, .unset] [(.int cl1)])) _
        refine XS.goto X10.here hx rfl (pc0 := 39) (pc' := 46) rfl (hb hby at_39) (by decide) (by decide) ?_
        show Steps p.tables e below (T10.setTop (mkF m 46 #[.val (.int p1), .val (.int p2), .val (.int p3), .val (.int p4), .val (.int p5), .val (.int ln1), .val (.int cl1), .val (.int ln2), .unset, .unset, .unset, .unset] [(.int cl1)])) _
        exact kt
      exact ⟨T10, _, cl1, X10, e10, N10, by first | rfl | (simp only [if_neg hc34]), pre20⟩
  have o4 : ¬ (cl2 < (1 : Int32)) := by rw [h_cl2]; by_cases hq : (p5 &&& (2 : Int32)) = (0 : Int32); exact (by rw [if_pos hq]; exact own_pos _); exact (by rw [if_neg hq]; exact o2)
  have pre21 : ∀ t, Steps p.tables e below (T16.setTop (mkF m 48 #[.val (.int p1), .val (.int p2), .val (.int p3), .val (.int p4), .val (.int p5), .val (.int ln1), .val (.int cl1), .val (.int ln2), .val (.int cl2), .unset, .unset, .unset] [])) t → Steps p.tables e below (s₁.setTop (entryFrame m #[(.int p1), (.int p2), (.int p3), (.int p4), (.int p5)] maxLocals)) t := fun t kt => by
    refine pre16 t ?_
    refine XS.istore X16.here hx rfl (hb hby at_46) rfl (l' := #[.val (.int p1), .val (.int p2), .val (.int p3), .val (.int p4), .val (.int p5), .val (.int ln1), .val (.int cl1), .val (.int ln2), .val (.int cl2), .unset, .unset, .unset]) rfl ?_
    show Steps p.tables e below (T16.setTop (mkF m 48 #[.val (.int p1), .val (.int p2), .val (.int p3), .val (.int p4), .val (.int p5), .val (.int ln1), .val (.int cl1), .val (.int ln2), .val (.int cl2), .unset, .unset, .unset] [])) _
    exact kt
  obtain ⟨T22, h22, X22, e22, E22, A22, D22, -, st22⟩ := newO X16 hx hZ hown (hw _ (mgE 9 rfl)) (hw _ (mgE 10 rfl)) (hw _ (mgE 11 rfl)) e16 (g := (mkF m 48 #[.val (.int p1), .val (.int p2), .val (.int p3), .val (.int p4), .val (.int p5), .val (.int ln1), .val (.int cl1), .val (.int ln2), .val (.int cl2), .unset, .unset, .unset] [])) rfl (hb hby at_48) (by decide) (by decide)
  obtain ⟨b22, g22⟩ : ∃ z, z = h0.size := ⟨_, rfl⟩
  rw [← g22] at A22 D22 st22
  have g_b22 : n0 ≤ b22 := Nat.le_trans Z0 (Nat.le_of_eq g22.symm)
  have Z22 : n0 ≤ h22.size := Nat.le_trans Z0 E22.1
  have F_line_b22 : Fld Z h22 b22 "com/example/latticework/latticework/graph/Position" "line" "I" (.int (0 : Int32)) := D22 (Or.inr (hw _ (mgE 24 rfl))) (ty := .int) (by decide)
  have F_column_b22 : Fld Z h22 b22 "com/example/latticework/latticework/graph/Position" "column" "I" (.int (0 : Int32)) := D22 (Or.inr (hw _ (mgE 26 rfl))) (ty := .int) (by decide)
  have pre23 : ∀ t, Steps p.tables e below (T22.setTop (mkF m 51 #[.val (.int p1), .val (.int p2), .val (.int p3), .val (.int p4), .val (.int p5), .val (.int ln1), .val (.int cl1), .val (.int ln2), .val (.int cl2), .unset, .unset, .unset] [(.ref b22)])) t → Steps p.tables e below (s₁.setTop (entryFrame m #[(.int p1), (.int p2), (.int p3), (.int p4), (.int p5)] maxLocals)) t := fun t kt => pre21 t (st22 t kt)
  have pre24 : ∀ t, Steps p.tables e below (T22.setTop (mkF m 56 #[.val (.int p1), .val (.int p2), .val (.int p3), .val (.int p4), .val (.int p5), .val (.int ln1), .val (.int cl1), .val (.int ln2), .val (.int cl2), .unset, .unset, .unset] [(.int cl1), (.int ln1), (.ref b22), (.ref b22)])) t → Steps p.tables e below (s₁.setTop (entryFrame m #[(.int p1), (.int p2), (.int p3), (.int p4), (.int p5)] maxLocals)) t := fun t kt => by
    refine pre23 t ?_
    refine XS.dup X22.here hx rfl (hb hby at_51) rfl rfl ?_
    show Steps p.tables e below (T22.setTop (mkF m 52 #[.val (.int p1), .val (.int p2), .val (.int p3), .val (.int p4), .val (.int p5), .val (.int ln1), .val (.int cl1), .val (.int ln2), .val (.int cl2), .unset, .unset, .unset] [(.ref b22), (.ref b22)])) _
    refine XS.iload X22.here hx rfl (hb hby at_52) rfl ?_
    show Steps p.tables e below (T22.setTop (mkF m 54 #[.val (.int p1), .val (.int p2), .val (.int p3), .val (.int p4), .val (.int p5), .val (.int ln1), .val (.int cl1), .val (.int ln2), .val (.int cl2), .unset, .unset, .unset] [(.int ln1), (.ref b22), (.ref b22)])) _
    refine XS.iload X22.here hx rfl (hb hby at_54) rfl ?_
    show Steps p.tables e below (T22.setTop (mkF m 56 #[.val (.int p1), .val (.int p2), .val (.int p3), .val (.int p4), .val (.int p5), .val (.int ln1), .val (.int cl1), .val (.int ln2), .val (.int cl2), .unset, .unset, .unset] [(.int cl1), (.int ln1), (.ref b22), (.ref b22)])) _
    exact kt
  obtain ⟨_, _, ⟨T25, L25, k25, n25⟩, -, X25, ⟨Lc25, hQ25, l25, y25, z25⟩, st25⟩ := X22.specialBack hx (y := (⟨"com/example/latticework/latticework/graph/Position", "<init>", "(II)V"⟩ : MethodName)) rfl hown (mvT hZ (hw _ (mgE 12 rfl))) (mvT hZ (hw _ (mgE 13 rfl))) (mvT hZ (hw _ (mgE 14 rfl))) (by decide) (backOf (W := 1) (rm3 l Z a0 hw [] b22 ln1 cl1 (.int (0 : Int32)) (.int (0 : Int32)) h22 n0 Z22 A22 F_line_b22 g_b22 F_column_b22 (o1) (o2)) hZ (hw _ (mgE 14 rfl)) (hw _ (mgE 11 rfl)) (by decide) (by decide)) (g := (mkF m 56 #[.val (.int p1), .val (.int p2), .val (.int p3), .val (.int p4), .val (.int p5), .val (.int ln1), .val (.int cl1), .val (.int ln2), .val (.int cl2), .unset, .unset, .unset] [(.int cl1), (.int ln1), (.ref b22), (.ref b22)])) rfl (by rw [hml]; rfl) (Steps.refl _) (a := b22) (argsL := [(.int ln1), (.int cl1)]) (rest := [(.ref b22)]) (lenOf pd__II_V rfl) rfl (by show 2 * 0 + _ ≤ _; exact Nat.le_of_eq rfl) (hb hby at_56) (fun _ _ => ⟨rfl, e22, (by decide : 1 + 0 ≤ _), (by decide : 2 + 0 ≤ _)⟩)
  dsimp only [Pt.U, Pt.locs, Pt.cells, Pt.slots] at X25 l25 y25 z25 st25 hQ25
  subst l25 y25 z25
  obtain ⟨rfl, N25q, K25, Q25_0, Q25_1, Q25_2⟩ := hQ25
  have Z25 : n0 ≤ T25.heap.size := Nat.le_trans Z22 K25.1
  have pre29 : ∀ t, Steps p.tables e below (T25.setTop (mkF m 59 #[.val (.int p1), .val (.int p2), .val (.int p3), .val (.int p4), .val (.int p5), .val (.int ln1), .val (.int cl1), .val (.int ln2), .val (.int cl2), .unset, .unset, .unset] [(.ref b22)])) t → Steps p.tables e below (s₁.setTop (entryFrame m #[(.int p1), (.int p2), (.int p3), (.int p4), (.int p5)] maxLocals)) t := fun t kt => pre24 t (st25.trans kt)
  have N25 := Fr.app N16 N25q
  have pre30 : ∀ t, Steps p.tables e below (T25.setTop (mkF m 61 #[.val (.int p1), .val (.int p2), .val (.int p3), .val (.int p4), .val (.int p5), .val (.int ln1), .val (.int cl1), .val (.int ln2), .val (.int cl2), .val (.ref b22), .unset, .unset] [])) t → Steps p.tables e below (s₁.setTop (entryFrame m #[(.int p1), (.int p2), (.int p3), (.int p4), (.int p5)] maxLocals)) t := fun t kt => by
    refine pre29 t ?_
    refine XS.astore X25.here hx rfl (hb hby at_59) rfl rfl (l' := #[.val (.int p1), .val (.int p2), .val (.int p3), .val (.int p4), .val (.int p5), .val (.int ln1), .val (.int cl1), .val (.int ln2), .val (.int cl2), .val (.ref b22), .unset, .unset]) rfl ?_
    show Steps p.tables e below (T25.setTop (mkF m 61 #[.val (.int p1), .val (.int p2), .val (.int p3), .val (.int p4), .val (.int p5), .val (.int ln1), .val (.int cl1), .val (.int ln2), .val (.int cl2), .val (.ref b22), .unset, .unset] [])) _
    exact kt
  obtain ⟨T31, h31, X31, e31, E31, A31, D31, -, st31⟩ := newO X25 hx hZ hown (hw _ (mgE 9 rfl)) (hw _ (mgE 10 rfl)) (hw _ (mgE 11 rfl)) rfl (g := (mkF m 61 #[.val (.int p1), .val (.int p2), .val (.int p3), .val (.int p4), .val (.int p5), .val (.int ln1), .val (.int cl1), .val (.int ln2), .val (.int cl2), .val (.ref b22), .unset, .unset] [])) rfl (hb hby at_61) (by decide) (by decide)
  obtain ⟨b31, g31⟩ : ∃ z, z = T25.heap.size := ⟨_, rfl⟩
  rw [← g31] at A31 D31 st31
  have ne_b22_b31 : b22 ≠ b31 := Nat.ne_of_lt (Nat.lt_of_lt_of_le Q25_0.lt (Nat.le_of_eq g31.symm))
  have g_b31 : n0 ≤ b31 := Nat.le_trans Z25 (Nat.le_of_eq g31.symm)
  have Z31 : n0 ≤ h31.size := Nat.le_trans Z25 E31.1
  have F32_31 := Q25_0.ext E31
  have F33_31 := Q25_1.ext E31
  have F34_31 := Q25_2.ext E31
  have F_line_b31 : Fld Z h31 b31 "com/example/latticework/latticework/graph/Position" "line" "I" (.int (0 : Int32)) := D31 (Or.inr (hw _ (mgE 24 rfl))) (ty := .int) (by decide)
  have F_column_b31 : Fld Z h31 b31 "com/example/latticework/latticework/graph/Position" "column" "I" (.int (0 : Int32)) := D31 (Or.inr (hw _ (mgE 26 rfl))) (ty := .int) (by decide)
  have pre35 : ∀ t, Steps p.tables e below (T31.setTop (mkF m 64 #[.val (.int p1), .val (.int p2), .val (.int p3), .val (.int p4), .val (.int p5), .val (.int ln1), .val (.int cl1), .val (.int ln2), .val (.int cl2), .val (.ref b22), .unset, .unset] [(.ref b31)])) t → Steps p.tables e below (s₁.setTop (entryFrame m #[(.int p1), (.int p2), (.int p3), (.int p4), (.int p5)] maxLocals)) t := fun t kt => pre30 t (st31 t kt)
  have pre36 : ∀ t, Steps p.tables e below (T31.setTop (mkF m 69 #[.val (.int p1), .val (.int p2), .val (.int p3), .val (.int p4), .val (.int p5), .val (.int ln1), .val (.int cl1), .val (.int ln2), .val (.int cl2), .val (.ref b22), .unset, .unset] [(.int cl2), (.int ln2), (.ref b31), (.ref b31)])) t → Steps p.tables e below (s₁.setTop (entryFrame m #[(.int p1), (.int p2), (.int p3), (.int p4), (.int p5)] maxLocals)) t := fun t kt => by
    refine pre35 t ?_
    refine XS.dup X31.here hx rfl (hb hby at_64) rfl rfl ?_
    show Steps p.tables e below (T31.setTop (mkF m 65 #[.val (.int p1), .val (.int p2), .val (.int p3), .val (.int p4), .val (.int p5), .val (.int ln1), .val (.int cl1), .val (.int ln2), .val (.int cl2), .val (.ref b22), .unset, .unset] [(.ref b31), (.ref b31)])) _
    refine XS.iload X31.here hx rfl (hb hby at_65) rfl ?_
    show Steps p.tables e below (T31.setTop (mkF m 67 #[.val (.int p1), .val (.int p2), .val (.int p3), .val (.int p4), .val (.int p5), .val (.int ln1), .val (.int cl1), .val (.int ln2), .val (.int cl2), .val (.ref b22), .unset, .unset] [(.int ln2), (.ref b31), (.ref b31)])) _
    refine XS.iload X31.here hx rfl (hb hby at_67) rfl ?_
    show Steps p.tables e below (T31.setTop (mkF m 69 #[.val (.int p1), .val (.int p2), .val (.int p3), .val (.int p4), .val (.int p5), .val (.int ln1), .val (.int cl1), .val (.int ln2), .val (.int cl2), .val (.ref b22), .unset, .unset] [(.int cl2), (.int ln2), (.ref b31), (.ref b31)])) _
    exact kt
  obtain ⟨_, _, ⟨T37, L37, k37, n37⟩, -, X37, ⟨Lc37, hQ37, l37, y37, z37⟩, st37⟩ := X31.specialBack hx (y := (⟨"com/example/latticework/latticework/graph/Position", "<init>", "(II)V"⟩ : MethodName)) rfl hown (mvT hZ (hw _ (mgE 12 rfl))) (mvT hZ (hw _ (mgE 13 rfl))) (mvT hZ (hw _ (mgE 14 rfl))) (by decide) (backOf (W := 1) (rm3 l Z a0 hw [] b31 ln2 cl2 (.int (0 : Int32)) (.int (0 : Int32)) h31 n0 Z31 A31 F_line_b31 g_b31 F_column_b31 (o3) (o4)) hZ (hw _ (mgE 14 rfl)) (hw _ (mgE 11 rfl)) (by decide) (by decide)) (g := (mkF m 69 #[.val (.int p1), .val (.int p2), .val (.int p3), .val (.int p4), .val (.int p5), .val (.int ln1), .val (.int cl1), .val (.int ln2), .val (.int cl2), .val (.ref b22), .unset, .unset] [(.int cl2), (.int ln2), (.ref b31), (.ref b31)])) rfl (by rw [hml]; rfl) (Steps.refl _) (a := b31) (argsL := [(.int ln2), (.int cl2)]) (rest := [(.ref b31)]) (lenOf pd__II_V rfl) rfl (by show 2 * 0 + _ ≤ _; exact Nat.le_of_eq rfl) (hb hby at_69) (fun _ _ => ⟨rfl, e31, (by decide : 2 + 0 ≤ _), (by decide : 4 + 0 ≤ _)⟩)
  dsimp only [Pt.U, Pt.locs, Pt.cells, Pt.slots] at X37 l37 y37 z37 st37 hQ37
  subst l37 y37 z37
  obtain ⟨rfl, N37q, K37, Q37_0, Q37_1, Q37_2⟩ := hQ37
  have F38_37 := F32_31.keep K37
  have F39_37 := F33_31.keep K37 (ninS ne_b22_b31 nin0)
  have F40_37 := F34_31.keep K37 (ninS ne_b22_b31 nin0)
  have Z37 : n0 ≤ T37.heap.size := Nat.le_trans Z31 K37.1
  have pre44 : ∀ t, Steps p.tables e below (T37.setTop (mkF m 72 #[.val (.int p1), .val (.int p2), .val (.int p3), .val (.int p4), .val (.int p5), .val (.int ln1), .val (.int cl1), .val (.int ln2), .val (.int cl2), .val (.ref b22), .unset, .unset] [(.ref b31)])) t → Steps p.tables e below (s₁.setTop (entryFrame m #[(.int p1), (.int p2), (.int p3), (.int p4), (.int p5)] maxLocals)) t := fun t kt => pre36 t (st37.trans kt)
  have N37 := Fr.app N25 N37q
  have pre45 : ∀ t, Steps p.tables e below (T37.setTop (mkF m 78 #[.val (.int p1), .val (.int p2), .val (.int p3), .val (.int p4), .val (.int p5), .val (.int ln1), .val (.int cl1), .val (.int ln2), .val (.int cl2), .val (.ref b22), .val (.ref b31), .unset] [(.int ln2), (.int ln1)])) t → Steps p.tables e below (s₁.setTop (entryFrame m #[(.int p1), (.int p2), (.int p3), (.int p4), (.int p5)] maxLocals)) t := fun t kt => by
    refine pre44 t ?_
    refine XS.astore X37.here hx rfl (hb hby at_72) rfl rfl (l' := #[.val (.int p1), .val (.int p2), .val (.int p3), .val (.int p4), .val (.int p5), .val (.int ln1), .val (.int cl1), .val (.int ln2), .val (.int cl2), .val (.ref b22), .val (.ref b31), .unset]) rfl ?_
    show Steps p.tables e below (T37.setTop (mkF m 74 #[.val (.int p1), .val (.int p2), .val (.int p3), .val (.int p4), .val (.int p5), .val (.int ln1), .val (.int cl1), .val (.int ln2), .val (.int cl2), .val (.ref b22), .val (.ref b31), .unset] [])) _
    refine XS.iload X37.here hx rfl (hb hby at_74) rfl ?_
    show Steps p.tables e below (T37.setTop (mkF m 76 #[.val (.int p1), .val (.int p2), .val (.int p3), .val (.int p4), .val (.int p5), .val (.int ln1), .val (.int cl1), .val (.int ln2), .val (.int cl2), .val (.ref b22), .val (.ref b31), .unset] [(.int ln1)])) _
    refine XS.iload X37.here hx rfl (hb hby at_76) rfl ?_
    show Steps p.tables e below (T37.setTop (mkF m 78 #[.val (.int p1), .val (.int p2), .val (.int p3), .val (.int p4), .val (.int p5), .val (.int ln1), .val (.int cl1), .val (.int ln2), .val (.int cl2), .val (.ref b22), .val (.ref b31), .unset] [(.int ln2), (.int ln1)])) _
    exact kt
  have pre46 : ∀ t, Steps p.tables e below (T37.setTop (mkF m 129 #[.val (.int p1), .val (.int p2), .val (.int p3), .val (.int p4), .val (.int p5), .val (.int ln1), .val (.int cl1), .val (.int ln2), .val (.int cl2), .val (.ref b22), .val (.ref b31), .val (.int (if ln1 < ln2 then (-1 : Int32) else (if ln2 < ln1 then (1 : Int32) else (if cl1 < cl2 then (-1 : Int32) else (if cl2 < cl1 then (1 : Int32) else (0 : Int32))))))] [])) t → Steps p.tables e below (s₁.setTop (entryFrame m #[(.int p1), (.int p2), (.int p3), (.int p4), (.int p5)] maxLocals)) t := fun t kt => by
    by_cases hc78 : ln1 < ln2
    · skip
      try simp only [if_pos hc78] at kt
      refine pre45 t ?_
      refine XS.icmpNo X37.here hx rfl (hb hby at_78) rfl (tlt hc78).2.1 ?_
      show Steps p.tables e below (T37.setTop (mkF m 81 #[.val (.int p1), .val (.int p2), .val (.int p3), .val (.int p4), .val (.int p5), .val (.int ln1), .val (.int cl1), .val (.int ln2), .val (.int cl2), .val (.ref b22), .val (.ref b31), .unset] [])) _
      refine XS.iconst X37.here hx rfl (hb hby at_81) ?_
      show Steps p.tables e below (T37.setTop (mkF m 82 #[.val (.int p1), .val (.int p2), .val (.int p3), .val (.int p4), .val (.int p5), .val (.int ln1), .val (.int cl1), .val (.int ln2), .val (.int cl2), .val (.ref b22), .val (.ref b31), .unset] [(.int (-1 : Int32))])) _
      refine XS.istore X37.here hx rfl (hb hby at_82) rfl (l' := #[.val (.int p1), .val (.int p2), .val (.int p3), .val (.int p4), .val (.int p5), .val (.int ln1), .val (.int cl1), .val (.int ln2), .val (.int cl2), .val (.ref b22), .val (.ref b31), .val (.int (-1 : Int32))]) rfl ?_
      show Steps p.tables e below (T37.setTop (mkF m 84 #[.val (.int p1), .val (.int p2), .val (.int p3), .val (.int p4), .val (.int p5), .val (.int ln1), .val (.int cl1), .val (.int ln2), .val (.int cl2), .val (.ref b22), .val (.ref b31), .val (.int (-1 : Int32))] [])) _
      refine XS.goto X37.here hx rfl (pc0 := 84) (pc' := 129) rfl (hb hby at_84) (by decide) (by decide) ?_
      show Steps p.tables e below (T37.setTop (mkF m 129 #[.val (.int p1), .val (.int p2), .val (.int p3), .val (.int p4), .val (.int p5), .val (.int ln1), .val (.int cl1), .val (.int ln2), .val (.int cl2), .val (.ref b22), .val (.ref b31), .val (.int (-1 : Int32))] [])) _
      exact kt
    · skip
      by_cases hc91 : ln2 < ln1
      · skip
        try simp only [if_neg hc78, if_pos hc91] at kt
        refine pre45 t ?_
        refine XS.icmpYes X37.here hx rfl (pc0 := 78) (pc' := 87) rfl (hb hby at_78) rfl (flt hc78).2.1 (by decide) (by decide) ?_
        show Steps p.tables e below (T37.setTop (mkF m 87 #[.val (.int p1), .val (.int p2), .val (.int p3), .val (.int p4), .val (.int p5), .val (.int ln1), .val (.int cl1), .val (.int ln2), .val (.int cl2), .val (.ref b22), .val (.ref b31), .unset] [])) _
        refine XS.iload X37.here hx rfl (hb hby at_87) rfl ?_
        show Steps p.tables e below (T37.setTop (mkF m 89 #[.val (.int p1), .val (.int p2), .val (.int p3), .val (.int p4), .val (.int p5), .val (.int ln1), .val (.int cl1), .val (.int ln2), .val (.int cl2), .val (.ref b22), .val (.ref b31), .unset] [(.int ln1)])) _
        refine XS.iload X37.here hx rfl (hb hby at_89) rfl ?_
        show Steps p.tables e below (T37.setTop (mkF m 91 #[.val (.int p1), .val (.int p2), .val (.int p3), .val (.int p4), .val (.int p5), .val (.int ln1), .val (.int cl1), .val (.int ln2), .val (.int cl2), .val (.ref b22), .val (.ref b31), .unset] [(.int ln2), (.int ln1)])) _
        refine XS.icmpNo X37.here hx rfl (hb hby at_91) rfl (tlt hc91).2.2.2 ?_
        show Steps p.tables e below (T37.setTop (mkF m 94 #[.val (.int p1), .val (.int p2), .val (.int p3), .val (.int p4), .val (.int p5), .val (.int ln1), .val (.int cl1), .val (.int ln2), .val (.int cl2), .val (.ref b22), .val (.ref b31), .unset] [])) _
        refine XS.iconst X37.here hx rfl (hb hby at_94) ?_
        show Steps p.tables e below (T37.setTop (mkF m 95 #[.val (.int p1), .val (.int p2), .val (.int p3), .val (.int p4), .val (.int p5), .val (.int ln1), .val (.int cl1), .val (.int ln2), .val (.int cl2), .val (.ref b22), .val (.ref b31), .unset] [(.int (1 : Int32))])) _
        refine XS.istore X37.here hx rfl (hb hby at_95) rfl (l' := #[.val (.int p1), .val (.int p2), .val (.int p3), .val (.int p4), .val (.int p5), .val (.int ln1), .val (.int cl1), .val (.int ln2), .val (.int cl2), .val (.ref b22), .val (.ref b31), .val (.int (1 : Int32))]) rfl ?_
        show Steps p.tables e below (T37.setTop (mkF m 97 #[.val (.int p1), .val (.int p2), .val (.int p3), .val (.int p4), .val (.int p5), .val (.int ln1), .val (.int cl1), .val (.int ln2), .val (.int cl2), .val (.ref b22), .val (.ref b31), .val (.int (1 : Int32))] [])) _
        refine XS.goto X37.here hx rfl (pc0 := 97) (pc' := 129) rfl (hb hby at_97) (by decide) (by decide) ?_
        show Steps p.tables e below (T37.setTop (mkF m 129 #[.val (.int p1), .val (.int p2), .val (.int p3), .val (.int p4), .val (.int p5), .val (.int ln1), .val (.int cl1), .val (.int ln2), .val (.int cl2), .val (.ref b22), .val (.ref b31), .val (.int (1 : Int32))] [])) _
        exact kt
      · skip
        by_cases hc104 : cl1 < cl2
        · skip
          try simp only [if_neg hc78, if_neg hc91, if_pos hc104] at kt
          refine pre45 t ?_
          refine XS.icmpYes X37.here hx rfl (pc0 := 78) (pc' := 87) rfl (hb hby at_78) rfl (flt hc78).2.1 (by decide) (by decide) ?_
          show Steps p.tables e below (T37.setTop (mkF m 87 #[.val (.int p1), .val (.int p2), .val (.int p3), .val (.int p4), .val (.int p5), .val (.int ln1), .val (.int cl1), .val (.int ln2), .val (.int cl2), .val (.ref b22), .val (.ref b31), .unset] [])) _
          refine XS.iload X37.here hx rfl (hb hby at_87) rfl ?_
          show Steps p.tables e below (T37.setTop (mkF m 89 #[.val (.int p1), .val (.int p2), .val (.int p3), .val (.int p4), .val (.int p5), .val (.int ln1), .val (.int cl1), .val (.int ln2), .val (.int cl2), .val (.ref b22), .val (.ref b31), .unset] [(.int ln1)])) _
          refine XS.iload X37.here hx rfl (hb hby at_89) rfl ?_
          show Steps p.tables e below (T37.setTop (mkF m 91 #[.val (.int p1), .val (.int p2), .val (.int p3), .val (.int p4), .val (.int p5), .val (.int ln1), .val (.int cl1), .val (.int ln2), .val (.int cl2), .val (.ref b22), .val (.ref b31), .unset] [(.int ln2), (.int ln1)])) _
          refine XS.icmpYes X37.here hx rfl (pc0 := 91) (pc' := 100) rfl (hb hby at_91) rfl (flt hc91).2.2.2 (by decide) (by decide) ?_
          show Steps p.tables e below (T37.setTop (mkF m 100 #[.val (.int p1), .val (.int p2), .val (.int p3), .val (.int p4), .val (.int p5), .val (.int ln1), .val (.int cl1), .val (.int ln2), .val (.int cl2), .val (.ref b22), .val (.ref b31), .unset] [])) _
          refine XS.iload X37.here hx rfl (hb hby at_100) rfl ?_
          show Steps p.tables e below (T37.setTop (mkF m 102 #[.val (.int p1), .val (.int p2), .val (.int p3), .val (.int p4), .val (.int p5), .val (.int ln1), .val (.int cl1), .val (.int ln2), .val (.int cl2), .val (.ref b22), .val (.ref b31), .unset] [(.int cl1)])) _
          refine XS.iload X37.here hx rfl (hb hby at_102) rfl ?_
          show Steps p.tables e below (T37.setTop (mkF m 104 #[.val (.int p1), .val (.int p2), .val (.int p3), .val (.int p4), .val (.int p5), .val (.int ln1), .val (.int cl1), .val (.int ln2), .val (.int cl2), .val (.ref b22), .val (.ref b31), .unset] [(.int cl2), (.int cl1)])) _
          refine XS.icmpNo X37.here hx rfl (hb hby at_104) rfl (tlt hc104).2.1 ?_
          show Steps p.tables e below (T37.setTop (mkF m 107 #[.val (.int p1), .val (.int p2), .val (.int p3), .val (.int p4), .val (.int p5), .val (.int ln1), .val (.int cl1), .val (.int ln2), .val (.int cl2), .val (.ref b22), .val (.ref b31), .unset] [])) _
          refine XS.iconst X37.here hx rfl (hb hby at_107) ?_
          show Steps p.tables e below (T37.setTop (mkF m 108 #[.val (.int p1), .val (.int p2), .val (.int p3), .val (.int p4), .val (.int p5), .val (.int ln1), .val (.int cl1), .val (.int ln2), .val (.int cl2), .val (.ref b22), .val (.ref b31), .unset] [(.int (-1 : Int32))])) _
          refine XS.istore X37.here hx rfl (hb hby at_108) rfl (l' := #[.val (.int p1), .val (.int p2), .val (.int p3), .val (.int p4), .val (.int p5), .val (.int ln1), .val (.int cl1), .val (.int ln2), .val (.int cl2), .val (.ref b22), .val (.ref b31), .val (.int (-1 : Int32))]) rfl ?_
          show Steps p.tables e below (T37.setTop (mkF m 110 #[.val (.int p1), .val (.int p2), .val (.int p3), .val (.int p4), .val (.int p5), .val (.int ln1), .val (.int cl1), .val (.int ln2), .val (.int cl2), .val (.ref b22), .val (.ref b31), .val (.int (-1 : Int32))] [])) _
          refine XS.goto X37.here hx rfl (pc0 := 110) (pc' := 129) rfl (hb hby at_110) (by decide) (by decide) ?_
          show Steps p.tables e below (T37.setTop (mkF m 129 #[.val (.int p1), .val (.int p2), .val (.int p3), .val (.int p4), .val (.int p5), .val (.int ln1), .val (.int cl1), .val (.int ln2), .val (.int cl2), .val (.ref b22), .val (.ref b31), .val (.int (-1 : Int32))] [])) _
          exact kt
        · skip
          by_cases hc117 : cl2 < cl1
          · skip
            try simp only [if_neg hc78, if_neg hc91, if_neg hc104, if_pos hc117] at kt
            refine pre45 t ?_
            refine XS.icmpYes X37.here hx rfl (pc0 := 78) (pc' := 87) rfl (hb hby at_78) rfl (flt hc78).2.1 (by decide) (by decide) ?_
            show Steps p.tables e below (T37.setTop (mkF m 87 #[.val (.int p1), .val (.int p2), .val (.int p3), .val (.int p4), .val (.int p5), .val (.int ln1), .val (.int cl1), .val (.int ln2), .val (.int cl2), .val (.ref b22), .val (.ref b31), .unset] [])) _
            refine XS.iload X37.here hx rfl (hb hby at_87) rfl ?_
            show Steps p.tables e below (T37.setTop (mkF m 89 #[.val (.int p1), .val (.int p2), .val (.int p3), .val (.int p4), .val (.int p5), .val (.int ln1), .val (.int cl1), .val (.int ln2), .val (.int cl2), .val (.ref b22), .val (.ref b31), .unset] [(.int ln1)])) _
            refine XS.iload X37.here hx rfl (hb hby at_89) rfl ?_
            show Steps p.tables e below (T37.setTop (mkF m 91 #[.val (.int p1), .val (.int p2), .val (.int p3), .val (.int p4), .val (.int p5), .val (.int ln1), .val (.int cl1), .val (.int ln2), .val (.int cl2), .val (.ref b22), .val (.ref b31), .unset] [(.int ln2), (.int ln1)])) _
            refine XS.icmpYes X37.here hx rfl (pc0 := 91) (pc' := 100) rfl (hb hby at_91) rfl (flt hc91).2.2.2 (by decide) (by decide) ?_
            show Steps p.tables e below (T37.setTop (mkF m 100 #[.val (.int p1), .val (.int p2), .val (.int p3), .val (.int p4), .val (.int p5), .val (.int ln1), .val (.int cl1), .val (.int ln2), .val (.int cl2), .val (.ref b22), .val (.ref b31), .unset] [])) _
            refine XS.iload X37.here hx rfl (hb hby at_100) rfl ?_
            show Steps p.tables e below (T37.setTop (mkF m 102 #[.val (.int p1), .val (.int p2), .val (.int p3), .val (.int p4), .val (.int p5), .val (.int ln1), .val (.int cl1), .val (.int ln2), .val (.int cl2), .val (.ref b22), .val (.ref b31), .unset] [(.int cl1)])) _
            refine XS.iload X37.here hx rfl (hb hby at_102) rfl ?_
            show Steps p.tables e below (T37.setTop (mkF m 104 #[.val (.int p1), .val (.int p2), .val (.int p3), .val (.int p4), .val (.int p5), .val (.int ln1), .val (.int cl1), .val (.int ln2), .val (.int cl2), .val (.ref b22), .val (.ref b31), .unset] [(.int cl2), (.int cl1)])) _
            refine XS.icmpYes X37.here hx rfl (pc0 := 104) (pc' := 113) rfl (hb hby at_104) rfl (flt hc104).2.1 (by decide) (by decide) ?_
            show Steps p.tables e below (T37.setTop (mkF m 113 #[.val (.int p1), .val (.int p2), .val (.int p3), .val (.int p4), .val (.int p5), .val (.int ln1), .val (.int cl1), .val (.int ln2), .val (.int cl2), .val (.ref b22), .val (.ref b31), .unset] [])) _
            refine XS.iload X37.here hx rfl (hb hby at_113) rfl ?_
            show Steps p.tables e below (T37.setTop (mkF m 115 #[.val (.int p1), .val (.int p2), .val (.int p3), .val (.int p4), .val (.int p5), .val (.int ln1), .val (.int cl1), .val (.int ln2), .val (.int cl2), .val (.ref b22), .val (.ref b31), .unset] [(.int cl1)])) _
            refine XS.iload X37.here hx rfl (hb hby at_115) rfl ?_
            show Steps p.tables e below (T37.setTop (mkF m 117 #[.val (.int p1), .val (.int p2), .val (.int p3), .val (.int p4), .val (.int p5), .val (.int ln1), .val (.int cl1), .val (.int ln2), .val (.int cl2), .val (.ref b22), .val (.ref b31), .unset] [(.int cl2), (.int cl1)])) _
            refine XS.icmpNo X37.here hx rfl (hb hby at_117) rfl (tlt hc117).2.2.2 ?_
            show Steps p.tables e below (T37.setTop (mkF m 120 #[.val (.int p1), .val (.int p2), .val (.int p3), .val (.int p4), .val (.int p5), .val (.int ln1), .val (.int cl1), .val (.int ln2), .val (.int cl2), .val (.ref b22), .val (.ref b31), .unset] [])) _
            refine XS.iconst X37.here hx rfl (hb hby at_120) ?_
            show Steps p.tables e below (T37.setTop (mkF m 121 #[.val (.int p1), .val (.int p2), .val (.int p3), .val (.int p4), .val (.int p5), .val (.int ln1), .val (.int cl1), .val (.int ln2), .val (.int cl2), .val (.ref b22), .val (.ref b31), .unset] [(.int (1 : Int32))])) _
            refine XS.istore X37.here hx rfl (hb hby at_121) rfl (l' := #[.val (.int p1), .val (.int p2), .val (.int p3), .val (.int p4), .val (.int p5), .val (.int ln1), .val (.int cl1), .val (.int ln2), .val (.int cl2), .val (.ref b22), .val (.ref b31), .val (.int (1 : Int32))]) rfl ?_
            show Steps p.tables e below (T37.setTop (mkF m 123 #[.val (.int p1), .val (.int p2), .val (.int p3), .val (.int p4), .val (.int p5), .val (.int ln1), .val (.int cl1), .val (.int ln2), .val (.int cl2), .val (.ref b22), .val (.ref b31), .val (.int (1 : Int32))] [])) _
            refine XS.goto X37.here hx rfl (pc0 := 123) (pc' := 129) rfl (hb hby at_123) (by decide) (by decide) ?_
            show Steps p.tables e below (T37.setTop (mkF m 129 #[.val (.int p1), .val (.int p2), .val (.int p3), .val (.int p4), .val (.int p5), .val (.int ln1), .val (.int cl1), .val (.int ln2), .val (.int cl2), .val (.ref b22), .val (.ref b31), .val (.int (1 : Int32))] [])) _
            exact kt
          · skip
            try simp only [if_neg hc78, if_neg hc91, if_neg hc104, if_neg hc117] at kt
            refine pre45 t ?_
            refine XS.icmpYes X37.here hx rfl (pc0 := 78) (pc' := 87) rfl (hb hby at_78) rfl (flt hc78).2.1 (by decide) (by decide) ?_
            show Steps p.tables e below (T37.setTop (mkF m 87 #[.val (.int p1), .val (.int p2), .val (.int p3), .val (.int p4), .val (.int p5), .val (.int ln1), .val (.int cl1), .val (.int ln2), .val (.int cl2), .val (.ref b22), .val (.ref b31), .unset] [])) _
            refine XS.iload X37.here hx rfl (hb hby at_87) rfl ?_
            show Steps p.tables e below (T37.setTop (mkF m 89 #[.val (.int p1), .val (.int p2), .val (.int p3), .val (.int p4), .val (.int p5), .val (.int ln1), .val (.int cl1), .val (.int ln2), .val (.int cl2), .val (.ref b22), .val (.ref b31), .unset] [(.int ln1)])) _
            refine XS.iload X37.here hx rfl (hb hby at_89) rfl ?_
            show Steps p.tables e below (T37.setTop (mkF m 91 #[.val (.int p1), .val (.int p2), .val (.int p3), .val (.int p4), .val (.int p5), .val (.int ln1), .val (.int cl1), .val (.int ln2), .val (.int cl2), .val (.ref b22), .val (.ref b31), .unset] [(.int ln2), (.int ln1)])) _
            refine XS.icmpYes X37.here hx rfl (pc0 := 91) (pc' := 100) rfl (hb hby at_91) rfl (flt hc91).2.2.2 (by decide) (by decide) ?_
            show Steps p.tables e below (T37.setTop (mkF m 100 #[.val (.int p1), .val (.int p2), .val (.int p3), .val (.int p4), .val (.int p5), .val (.int ln1), .val (.int cl1), .val (.int ln2), .val (.int cl2), .val (.ref b22), .val (.ref b31), .unset] [])) _
            refine XS.iload X37.here hx rfl (hb hby at_100) rfl ?_
            show Steps p.tables e below (T37.setTop (mkF m 102 #[.val (.int p1), .val (.int p2), .val (.int p3), .val (.int p4), .val (.int p5), .val (.int ln1), .val (.int cl1), .val (.int ln2), .val (.int cl2), .val (.ref b22), .val (.ref b31), .unset] [(.int cl1)])) _
            refine XS.iload X37.here hx rfl (hb hby at_102) rfl ?_
            show Steps p.tables e below (T37.setTop (mkF m 104 #[.val (.int p1), .val (.int p2), .val (.int p3), .val (.int p4), .val (.int p5), .val (.int ln1), .val (.int cl1), .val (.int ln2), .val (.int cl2), .val (.ref b22), .val (.ref b31), .unset] [(.int cl2), (.int cl1)])) _
            refine XS.icmpYes X37.here hx rfl (pc0 := 104) (pc' := 113) rfl (hb hby at_104) rfl (flt hc104).2.1 (by decide) (by decide) ?_
            show Steps p.tables e below (T37.setTop (mkF m 113 #[.val (.int p1), .val (.int p2), .val (.int p3), .val (.int p4), .val (.int p5), .val (.int ln1), .val (.int cl1), .val (.int ln2), .val (.int cl2), .val (.ref b22), .val (.ref b31), .unset] [])) _
            refine XS.iload X37.here hx rfl (hb hby at_113) rfl ?_
            show Steps p.tables e below (T37.setTop (mkF m 115 #[.val (.int p1), .val (.int p2), .val (.int p3), .val (.int p4), .val (.int p5), .val (.int ln1), .val (.int cl1), .val (.int ln2), .val (.int cl2), .val (.ref b22), .val (.ref b31), .unset] [(.int cl1)])) _
            refine XS.iload X37.here hx rfl (hb hby at_115) rfl ?_
            show Steps p.tables e below (T37.setTop (mkF m 117 #[.val (.int p1), .val (.int p2), .val (.int p3), .val (.int p4), .val (.int p5), .val (.int ln1), .val (.int cl1), .val (.int ln2), .val (.int cl2), .val (.ref b22), .val (.ref b31), .unset] [(.int cl2), (.int cl1)])) _
            refine XS.icmpYes X37.here hx rfl (pc0 := 117) (pc' := 126) rfl (hb hby at_117) rfl (flt hc117).2.2.2 (by decide) (by decide) ?_
            show Steps p.tables e below (T37.setTop (mkF m 126 #[.val (.int p1), .val (.int p2), .val (.int p3), .val (.int p4), .val (.int p5), .val (.int ln1), .val (.int cl1), .val (.int ln2), .val (.int cl2), .val (.ref b22), .val (.ref b31), .unset] [])) _
            refine XS.iconst X37.here hx rfl (hb hby at_126) ?_
            show Steps p.tables e below (T37.setTop (mkF m 127 #[.val (.int p1), .val (.int p2), .val (.int p3), .val (.int p4), .val (.int p5), .val (.int ln1), .val (.int cl1), .val (.int ln2), .val (.int cl2), .val (.ref b22), .val (.ref b31), .unset] [(.int (0 : Int32))])) _
            refine XS.istore X37.here hx rfl (hb hby at_127) rfl (l' := #[.val (.int p1), .val (.int p2), .val (.int p3), .val (.int p4), .val (.int p5), .val (.int ln1), .val (.int cl1), .val (.int ln2), .val (.int cl2), .val (.ref b22), .val (.ref b31), .val (.int (0 : Int32))]) rfl ?_
            show Steps p.tables e below (T37.setTop (mkF m 129 #[.val (.int p1), .val (.int p2), .val (.int p3), .val (.int p4), .val (.int p5), .val (.int ln1), .val (.int cl1), .val (.int ln2), .val (.int cl2), .val (.ref b22), .val (.ref b31), .val (.int (0 : Int32))] [])) _
            exact kt
  obtain ⟨ex, h_ex⟩ : ∃ z, z = (if ln1 < ln2 then (-1 : Int32) else (if ln2 < ln1 then (1 : Int32) else (if cl1 < cl2 then (-1 : Int32) else (if cl2 < cl1 then (1 : Int32) else (0 : Int32))))) := ⟨_, rfl⟩
  rw [← h_ex] at pre46
  have pre47 : ∀ t, Steps p.tables e below (T37.setTop (mkF m 133 #[.val (.int p1), .val (.int p2), .val (.int p3), .val (.int p4), .val (.int p5), .val (.int ln1), .val (.int cl1), .val (.int ln2), .val (.int cl2), .val (.ref b22), .val (.ref b31), .val (.int ex)] [(.ref b31), (.ref b22)])) t → Steps p.tables e below (s₁.setTop (entryFrame m #[(.int p1), (.int p2), (.int p3), (.int p4), (.int p5)] maxLocals)) t := fun t kt => by
    refine pre46 t ?_
    refine XS.aload X37.here hx rfl (hb hby at_129) rfl rfl ?_
    show Steps p.tables e below (T37.setTop (mkF m 131 #[.val (.int p1), .val (.int p2), .val (.int p3), .val (.int p4), .val (.int p5), .val (.int ln1), .val (.int cl1), .val (.int ln2), .val (.int cl2), .val (.ref b22), .val (.ref b31), .val (.int ex)] [(.ref b22)])) _
    refine XS.aload X37.here hx rfl (hb hby at_131) rfl rfl ?_
    show Steps p.tables e below (T37.setTop (mkF m 133 #[.val (.int p1), .val (.int p2), .val (.int p3), .val (.int p4), .val (.int p5), .val (.int ln1), .val (.int cl1), .val (.int ln2), .val (.int cl2), .val (.ref b22), .val (.ref b31), .val (.int ex)] [(.ref b31), (.ref b22)])) _
    exact kt
  obtain ⟨cq48, kq48, q48a, q48b, q48c⟩ := isOf hZ rfl F38_37
  obtain ⟨_, _, ⟨T48, L48, k48, n48⟩, -, X48, ⟨Lc48, hQ48, l48, y48, z48⟩, st48⟩ := X37.virtualBack hx (y := (⟨"com/example/latticework/latticework/graph/Position", "compareTo", "(Lcom/example/latticework/latticework/graph/Position;)I"⟩ : MethodName)) (z := (⟨"com/example/latticework/latticework/graph/Position", "compareTo", "(Lcom/example/latticework/latticework/graph/Position;)I"⟩ : MethodName)) hown (mvT hZ (hw _ (mgE 27 rfl))) (mvT hZ (hw _ (mgE 28 rfl))) (notFace_of_selects (args := #[]) (mvT hZ (hw _ (mgE 30 rfl)))) (mvT hZ (hw _ (mgE 30 rfl))) (mvT hZ (hw _ (mgE 29 rfl))) (by decide) (backOf (W := 0) (rm6 l Z a0 hw [] b22 b31 ln1 ln2 cl1 cl2 T37.heap n0 Z37 F40_37 Q37_2 F39_37 Q37_1) hZ (hw _ (mgE 31 rfl)) (hw _ (mgE 11 rfl)) (by decide) (by decide)) q48a q48c (g := (mkF m 133 #[.val (.int p1), .val (.int p2), .val (.int p3), .val (.int p4), .val (.int p5), .val (.int ln1), .val (.int cl1), .val (.int ln2), .val (.int cl2), .val (.ref b22), .val (.ref b31), .val (.int ex)] [(.ref b31), (.ref b22)])) rfl (by rw [hml]; rfl) (Steps.refl _) (argsL := [(.ref b31)]) (rest := []) (lenOf pd__Lcom_example_latticework_latticework_graph_Position__I rfl) rfl (by show 2 * 0 + _ ≤ _; exact Nat.le_of_eq rfl) (hb hby at_133) (fun _ _ => ⟨rfl, rfl, (by decide : 2 + 0 ≤ _), (by decide : 4 + 0 ≤ _)⟩)
  dsimp only [Pt.U, Pt.locs, Pt.cells, Pt.slots] at X48 l48 y48 z48 st48 hQ48
  subst l48 y48 z48
  obtain ⟨rfl, N48q, e48⟩ := hQ48
  have pre49 : ∀ t, Steps p.tables e below (T48.setTop (mkF m 136 #[.val (.int p1), .val (.int p2), .val (.int p3), .val (.int p4), .val (.int p5), .val (.int ln1), .val (.int cl1), .val (.int ln2), .val (.int cl2), .val (.ref b22), .val (.ref b31), .val (.int ex)] [(.int (r6 ln1 ln2 cl1 cl2))])) t → Steps p.tables e below (s₁.setTop (entryFrame m #[(.int p1), (.int p2), (.int p3), (.int p4), (.int p5)] maxLocals)) t := fun t kt => pre47 t (st48.trans kt)
  have N48 := Fr.app N37 N48q
  obtain ⟨_, _, ⟨T50, L50, k50, n50⟩, -, X50, ⟨Lc50, hQ50, l50, y50, z50⟩, st50⟩ := Jvm.LawKit.callS X48 hx (y := (⟨"com/example/latticework/latticework/graph/PositionCompareToPinLaw", "sign", "(I)I"⟩ : MethodName)) hown (mvT hZ (hw _ (mgE 36 rfl))) (mvT hZ (hw _ (mgE 37 rfl))) (mvT hZ (hw _ (mgE 2 rfl))) (mvT hZ (hw _ (mgE 38 rfl))) (by decide) (backOf (W := 0) (rm8 l Z a0 hw [] (r6 ln1 ln2 cl1 cl2) T37.heap n0 Z37 ) hZ (hw _ (mgE 38 rfl)) (hw _ (mgE 2 rfl)) (by decide) (by decide)) (g := (mkF m 136 #[.val (.int p1), .val (.int p2), .val (.int p3), .val (.int p4), .val (.int p5), .val (.int ln1), .val (.int cl1), .val (.int ln2), .val (.int cl2), .val (.ref b22), .val (.ref b31), .val (.int ex)] [(.int (r6 ln1 ln2 cl1 cl2))])) rfl (by rw [hml]; rfl) (argsL := [(.int (r6 ln1 ln2 cl1 cl2))]) (rest := []) (lenOf pd__I_I rfl) rfl (by show 2 * 0 + _ ≤ _; exact Nat.le_of_eq rfl) (hb hby at_136) (fun _ _ => ⟨rfl, e48, (by decide : 2 + 0 ≤ _), (by decide : 4 + 0 ≤ _)⟩)
  dsimp only [Pt.U, Pt.locs, Pt.cells, Pt.slots] at X50 l50 y50 z50 st50 hQ50
  subst l50 y50 z50
  obtain ⟨rfl, N50q, e50⟩ := hQ50
  have pre51 : ∀ t, Steps p.tables e below (T50.setTop (mkF m 139 #[.val (.int p1), .val (.int p2), .val (.int p3), .val (.int p4), .val (.int p5), .val (.int ln1), .val (.int cl1), .val (.int ln2), .val (.int cl2), .val (.ref b22), .val (.ref b31), .val (.int ex)] [(.int (r8 (r6 ln1 ln2 cl1 cl2)))])) t → Steps p.tables e below (s₁.setTop (entryFrame m #[(.int p1), (.int p2), (.int p3), (.int p4), (.int p5)] maxLocals)) t := fun t kt => pre49 t (st50 t kt)
  have N50 := Fr.app N48 N50q
  have hc141 : (r8 (r6 ln1 ln2 cl1 cl2)) = ex := (own_cmp ln1 ln2 cl1 cl2).trans h_ex.symm
  have pre52 : ∀ t, Steps p.tables e below (T50.setTop (mkF m 149 #[.val (.int p1), .val (.int p2), .val (.int p3), .val (.int p4), .val (.int p5), .val (.int ln1), .val (.int cl1), .val (.int ln2), .val (.int cl2), .val (.ref b22), .val (.ref b31), .val (.int ex)] [(.int (1 : Int32))])) t → Steps p.tables e below (s₁.setTop (entryFrame m #[(.int p1), (.int p2), (.int p3), (.int p4), (.int p5)] maxLocals)) t := fun t kt => by
    refine pre51 t ?_
    refine XS.iload X50.here hx rfl (hb hby at_139) rfl ?_
    show Steps p.tables e below (T50.setTop (mkF m 141 #[.val (.int p1), .val (.int p2), .val (.int p3), .val (.int p4), .val (.int p5), .val (.int ln1), .val (.int cl1), .val (.int ln2), .val (.int cl2), .val (.ref b22), .val (.ref b31), .val (.int ex)] [(.int ex), (.int (r8 (r6 ln1 ln2 cl1 cl2)))])) _
    refine XS.icmpNo X50.here hx rfl (hb hby at_141) rfl (teq hc141).2 ?_
    show Steps p.tables e below (T50.setTop (mkF m 144 #[.val (.int p1), .val (.int p2), .val (.int p3), .val (.int p4), .val (.int p5), .val (.int ln1), .val (.int cl1), .val (.int ln2), .val (.int cl2), .val (.ref b22), .val (.ref b31), .val (.int ex)] [])) _
    refine XS.iconst X50.here hx rfl (hb hby at_144) ?_
    show Steps p.tables e below (T50.setTop (mkF m 145 #[.val (.int p1), .val (.int p2), .val (.int p3), .val (.int p4), .val (.int p5), .val (.int ln1), .val (.int cl1), .val (.int ln2), .val (.int cl2), .val (.ref b22), .val (.ref b31), .val (.int ex)] [(.int (1 : Int32))])) _
    refine XS.goto X50.here hx rfl (pc0 := 145) (pc' := 149) rfl (hb hby at_145) (by decide) (by decide) ?_
    show Steps p.tables e below (T50.setTop (mkF m 149 #[.val (.int p1), .val (.int p2), .val (.int p3), .val (.int p4), .val (.int p5), .val (.int ln1), .val (.int cl1), .val (.int ln2), .val (.int cl2), .val (.ref b22), .val (.ref b31), .val (.int ex)] [(.int (1 : Int32))])) _
    exact kt
  obtain ⟨fs, hr, hrun, hended, hW, hsame⟩ := X50.leave (v := some (.int (1 : Int32))) (fun h => by rw [Bd.returns] at h; cases h)
  refine ⟨_, _, pre52 _ ?_, hrun, hended, _, _, rfl, ?_, ⟨_, rfl⟩, hW, hsame.mono (by decide) (by decide)⟩
  · exact retN X50 hx (t := .boolean) Bd.returns (by simp) (hb hby at_149) hr
  · show Q0 Z p1 p2 p3 p4 p5 h0 n0 _ T50.heap _
    rw [e50]
    exact ⟨rfl, N50⟩
set_option maxRecDepth 65536 in
set_option maxHeartbeats 40000000 in
theorem comes_1 {Post : Tables → Env → Array Value → State → Outcome → State → Prop} (hpost : ∀ tb e args s v u, (limb_1_1.after args s (.returned v) u = true ∧ limb_1_2.after args s (.returned v) u = true ∧ True) → FrameEnd s (.returned v) u (Jvm.fieldLocs frame_1_writes args s ++ Jvm.arrayLocs frame_1_arrays args s ++ Jvm.staticLocs frame_1_statics s) 16 128 → Post tb e args s (.returned v) u) :
    ArmFor flags0 classFile x code maxLocals ret World_1 tables_1 room_1 Calls_1 rest_1 Pre_1 Post := by
  intro l hfl _ _ p e ha hc hk s m args below hf hA hF happ hP
  obtain ⟨hcalls, hrest, hpre⟩ := hP
  obtain ⟨-, -, -, hnamed, -, -, -, hat⟩ := (Spec.applies_iff hf).mp happ
  obtain ⟨hg, hn⟩ := and_e (Cond.before_iff.mp (show (Jvm.Cond.and given_1 narrow_1).before args s = true from hpre))
  obtain ⟨g1, g2⟩ := and_e hg
  obtain ⟨g3, g4⟩ := and_e g2
  obtain ⟨g5, g6⟩ := and_e g4
  obtain ⟨g7, g8⟩ := and_e g6
  obtain ⟨g9, g10⟩ := and_e g8
  obtain ⟨w0, w1, w2, w3, w4, rfl⟩ : ∃ w0 w1 w2 w3 w4 : Value, args = #[w0, w1, w2, w3, w4] := by
    have hs : args.size = 5 := by simpa [Cond.value, given_1] using g1
    obtain ⟨L⟩ := args
    match L, hs with
    | [w0, w1, w2, w3, w4], _ => exact ⟨w0, w1, w2, w3, w4, rfl⟩
  have hw := fun d (hd : d ∈ tables_1) => atoms_spec (ws := Jvm.Cond.code x code maxLocals ret :: tables_1) hat d (List.mem_cons_of_mem _ hd)
  have hfit : Fit s := fun {y c} hc i hi => by
    obtain ⟨ha, rfl⟩ := Array.getElem?_eq_some_iff.mp hc
    have q := List.all_eq_true.mp ((Array.all_eq_true_iff_forall_mem.mp hF) _ (Array.getElem_mem ha)) i (List.mem_range.mpr hi)
    simpa [Array.getElem?_eq_getElem hi] using q
  obtain ⟨i0, ei0⟩ := is_v g3
  obtain rfl : w0 = (.int i0) := Option.some.inj ei0
  obtain ⟨i1, ei1⟩ := is_v g5
  obtain rfl : w1 = (.int i1) := Option.some.inj ei1
  obtain ⟨i2, ei2⟩ := is_v g7
  obtain rfl : w2 = (.int i2) := Option.some.inj ei2
  obtain ⟨i3, ei3⟩ := is_v g9
  obtain rfl : w3 = (.int i3) := Option.some.inj ei3
  obtain ⟨i4, ei4⟩ := is_v g10
  obtain rfl : w4 = (.int i4) := Option.some.inj ei4
  obtain ⟨n, o, h1, h2, h3, _, L, rfl, ⟨rfl, N⟩, hq⟩ := rm0 l s _ hw tables_1 i0 i1 i2 i3 i4 s.heap s.heap.size (Nat.le_refl _)  p e ha hc hk s m _ below hf ((Spec.applies_iff_loose hf).mp happ).1 ⟨rfl, State.Warmed39.refl s, rfl⟩ trivial
  refine ⟨n, _, h1, h2, h3, hpost _ _ _ _ _ _ ⟨Cond.after_iff.mpr rfl, Cond.after_iff.mpr (eq_i res_at (Term.int_eval (1)) rfl), trivial⟩ ⟨hq.1, hq.2.1, (hq.2.2.sift fun y hy => Or.inr (N y hy)).mono (by decide) (by decide)⟩⟩
theorem main_1_1 : Claimed_1_1 := comes_1 fun _ _ _ _ _ _ h hF => ⟨h.1, hF⟩
theorem main_1_2 : Claimed_1_2 := comes_1 fun _ _ _ _ _ _ h hF => ⟨h.2.1, hF⟩
end Jvm.Pilot.@@N@@
namespace Jvm.Pilot.@@N@@
open Jvm Jvm.ClassFile Sem Op Lib Jvm.Free Jvm.Stand Jvm.Pilot.@@N@@.Jvm.D
/-! MADE BY PROGRAM (witnessworld.py) out of the Statement's table words and the real class files: 16 classes; the members and pool entries that the words name. The judged class is class 1, her method 3. -/
namespace start1
open Jvm.ClassFile
def u (s : String) : CpInfo := .utf8 (stringToUtf16 s)
/-- a pool by its gaps: so many unusable entries, then the entry; so many at the end -/
def gap : Nat → List CpInfo → List CpInfo
  | 0, r => r
  | n + 1, r => .unusable :: gap n r
def poolList (es : List (Nat × CpInfo)) (last : Nat) : List CpInfo := es.foldr (fun e r => gap e.1 (e.2 :: r)) (gap last [])
def pool (es : List (Nat × CpInfo)) (last : Nat) : Array CpInfo := ⟨poolList es last⟩
def fileOf (pool : Array CpInfo) (this : Nat) (attrs : Array Attribute := #[]) (ms : Array MethodInfo := #[]) (fl : Nat := 33) (sup : Nat := 0) (ifs : Array Nat := #[]) (fds : Array FieldInfo := #[]) : ClassFile where
  minorVersion := 0
  majorVersion := 65
  constantPool := pool
  accessFlags := fl
  thisClass := this
  superClass := sup
  interfaces := ifs
  fields := fds
  methods := ms
  attributes := attrs
def plain (name : String) (sup : Option ClassId) : Class where
  name := name
  kind := .ordinary
  loader := none
  accessFlags := 33
  super := sup
  interfaces := #[]
  cf := none
  fields := #[]
  methods := #[]
  instanceTypes := #[]
  staticTypes := #[]
  resolved := #[]
  callSites := []
  init := .initialized
  statics := none
  mirror := none

def pool0 : Array CpInfo := pool [(5, u "<init>"), (0, u "()V"), (1, .class_ 10), (1, u "java/lang/Object")] 113

def k0c0 : Code := { maxStack := 0, maxLocals := 1, code := object_method_1_code, exceptionTable := #[], attributes := #[] }
def k0m0 : Method := { name := "<init>", desc := "()V", sig := { parameters := [], returnType := none }, accessFlags := 1, code := some k0c0 }
/-- java/lang/Object -/
def k0 : Class := { plain "java/lang/Object" none with
  accessFlags := 33
  interfaces := #[]
  cf := some (fileOf pool0 8 #[] #[{ accessFlags := 1, nameIndex := 5, descriptorIndex := 6, attributes := #[] }] 33 0 #[] #[])
  fields := #[]
  methods := #[k0m0]
  instanceTypes := #[]
  staticTypes := #[]
  resolved := Array.replicate 124 none
  statics := none }

def pool1 : Array CpInfo := pool [(2, .class_ 4), (1, u "java/lang/Object"), (0, u "<init>"), (0, u "()V"), (0, .integer 2147483647), (0, .methodref 9 10), (0, .class_ 11), (0, .nameAndType 12 13), (0, u "java/lang/Math"), (0, u "max"), (0, u "(II)I"), (0, .methodref 15 16), (0, .class_ 17), (0, .nameAndType 18 19), (0, u "com/example/latticework/latticework/graph/PositionCompareToPinLaw"), (0, u "pos"), (0, u "(I)I"), (0, .class_ 21), (0, u "com/example/latticework/latticework/graph/Position"), (0, .methodref 20 23), (0, .nameAndType 5 24), (0, u "(II)V"), (0, .methodref 20 26), (0, .nameAndType 27 28), (0, u "compareTo"), (0, u "(Lcom/example/latticework/latticework/graph/Position;)I"), (0, .methodref 15 30), (0, .nameAndType 31 19), (0, u "sign"), (3, u "law"), (0, u "(IIIII)Z")] 2

def k1m0 : Method := { name := "<init>", desc := "()V", sig := { parameters := [], returnType := none }, accessFlags := 1, code := none }
def k1c1 : Code := { maxStack := 1, maxLocals := 1, code := method_2_code, exceptionTable := #[], attributes := #[] }
def k1m1 : Method := { name := "sign", desc := "(I)I", sig := { parameters := [.int], returnType := some .int }, accessFlags := 10, code := some k1c1 }
def k1c2 : Code := { maxStack := 3, maxLocals := 1, code := method_3_code, exceptionTable := #[], attributes := #[] }
def k1m2 : Method := { name := "pos", desc := "(I)I", sig := { parameters := [.int], returnType := some .int }, accessFlags := 10, code := some k1c2 }
def k1c3 : Code := { maxStack := 4, maxLocals := 12, code := code, exceptionTable := #[], attributes := #[] }
def k1m3 : Method := { name := "law", desc := "(IIIII)Z", sig := { parameters := [.int, .int, .int, .int, .int], returnType := some .boolean }, accessFlags := 9, code := some k1c3 }
/-- com/example/latticework/latticework/graph/PositionCompareToPinLaw -/
def k1 : Class := { plain "com/example/latticework/latticework/graph/PositionCompareToPinLaw" (some 0) with
  accessFlags := 49
  interfaces := #[]
  cf := some (fileOf pool1 15 #[] #[{ accessFlags := 1, nameIndex := 5, descriptorIndex := 6, attributes := #[] }, { accessFlags := 10, nameIndex := 31, descriptorIndex := 19, attributes := #[] }, { accessFlags := 10, nameIndex := 18, descriptorIndex := 19, attributes := #[] }, { accessFlags := 9, nameIndex := 35, descriptorIndex := 36, attributes := #[] }] 49 2 #[] #[])
  fields := #[]
  methods := #[k1m0, k1m1, k1m2, k1m3]
  instanceTypes := #[]
  staticTypes := #[]
  resolved := Array.replicate 39 none
  statics := none }

def pool2 : Array CpInfo := pool [(1, .class_ 2), (0, u "java/lang/Math"), (1, .class_ 6), (1, u "java/lang/Object"), (0, u "<init>"), (0, u "()V"), (89, .class_ 100), (1, u "java/lang/Math$RandomNumberGeneratorHolder"), (71, u "negativeZeroFloatBits"), (0, u "J"), (2, u "negativeZeroDoubleBits"), (21, u "max"), (46, u "$assertionsDisabled"), (0, u "Z"), (88, u "(II)I"), (2, u "twoToTheDoubleScaleDown"), (0, u "D"), (4, u "twoToTheDoubleScaleUp"), (9, u "E"), (3, u "PI"), (2, u "TAU"), (2, u "DEGREES_TO_RADIANS"), (0, u "RADIANS_TO_DEGREES")] 94

def k2m0 : Method := { name := "<init>", desc := "()V", sig := { parameters := [], returnType := none }, accessFlags := 2, code := none }
def k2c1 : Code := { maxStack := 2, maxLocals := 2, code := jdk_29_method_65_code, exceptionTable := #[], attributes := #[] }
def k2m1 : Method := { name := "max", desc := "(II)I", sig := { parameters := [.int, .int], returnType := some .int }, accessFlags := 9, code := some k2c1 }
/-- java/lang/Math -/
def k2 : Class := { plain "java/lang/Math" (some 0) with
  accessFlags := 49
  interfaces := #[]
  cf := some (fileOf pool2 1 #[.nestMembers #[98]] #[{ accessFlags := 2, nameIndex := 7, descriptorIndex := 8, attributes := #[] }, { accessFlags := 9, nameIndex := 198, descriptorIndex := 335, attributes := #[] }] 49 4 #[] #[{ accessFlags := 25, nameIndex := 354, descriptorIndex := 339, attributes := #[] }, { accessFlags := 25, nameIndex := 358, descriptorIndex := 339, attributes := #[] }, { accessFlags := 25, nameIndex := 361, descriptorIndex := 339, attributes := #[] }, { accessFlags := 26, nameIndex := 364, descriptorIndex := 339, attributes := #[] }, { accessFlags := 26, nameIndex := 365, descriptorIndex := 339, attributes := #[] }, { accessFlags := 26, nameIndex := 172, descriptorIndex := 173, attributes := #[] }, { accessFlags := 26, nameIndex := 176, descriptorIndex := 173, attributes := #[] }, { accessFlags := 8, nameIndex := 344, descriptorIndex := 339, attributes := #[] }, { accessFlags := 8, nameIndex := 338, descriptorIndex := 339, attributes := #[] }, { accessFlags := 4120, nameIndex := 245, descriptorIndex := 246, attributes := #[] }])
  fields := #[{ name := "E", type := .double, accessFlags := 25, slot := 0, constantValue := 0 }, { name := "PI", type := .double, accessFlags := 25, slot := 1, constantValue := 0 }, { name := "TAU", type := .double, accessFlags := 25, slot := 2, constantValue := 0 }, { name := "DEGREES_TO_RADIANS", type := .double, accessFlags := 26, slot := 3, constantValue := 0 }, { name := "RADIANS_TO_DEGREES", type := .double, accessFlags := 26, slot := 4, constantValue := 0 }, { name := "negativeZeroFloatBits", type := .long, accessFlags := 26, slot := 5, constantValue := 0 }, { name := "negativeZeroDoubleBits", type := .long, accessFlags := 26, slot := 6, constantValue := 0 }, { name := "twoToTheDoubleScaleUp", type := .double, accessFlags := 8, slot := 7, constantValue := 0 }, { name := "twoToTheDoubleScaleDown", type := .double, accessFlags := 8, slot := 8, constantValue := 0 }, { name := "$assertionsDisabled", type := .boolean, accessFlags := 4120, slot := 9, constantValue := 0 }]
  methods := #[k2m0, k2m1]
  instanceTypes := #[]
  staticTypes := #[.double, .double, .double, .double, .double, .long, .long, .double, .double, .boolean]
  resolved := Array.replicate 460 none
  statics := none }

def pool3 : Array CpInfo := pool [(1, .methodref 2 3), (0, .class_ 4), (0, .nameAndType 5 6), (0, u "java/lang/Object"), (0, u "<init>"), (0, u "()V"), (0, .class_ 8), (0, u "java/lang/Record")] 13

def k3c0 : Code := { maxStack := 1, maxLocals := 1, code := jdk_30_method_1_code, exceptionTable := #[], attributes := #[] }
def k3m0 : Method := { name := "<init>", desc := "()V", sig := { parameters := [], returnType := none }, accessFlags := 4, code := some k3c0 }
/-- java/lang/Record -/
def k3 : Class := { plain "java/lang/Record" (some 0) with
  accessFlags := 1057
  interfaces := #[]
  cf := some (fileOf pool3 7 #[] #[{ accessFlags := 4, nameIndex := 5, descriptorIndex := 6, attributes := #[] }] 1057 2 #[] #[])
  fields := #[]
  methods := #[k3m0]
  instanceTypes := #[]
  staticTypes := #[]
  resolved := Array.replicate 22 none
  statics := none }

def pool4 : Array CpInfo := pool [(1, .class_ 2), (0, u "java/lang/Comparable"), (0, .class_ 4), (0, u "java/lang/Object")] 7

/-- java/lang/Comparable -/
def k4 : Class := { plain "java/lang/Comparable" (some 0) with
  accessFlags := 1537
  interfaces := #[]
  cf := some (fileOf pool4 1 #[] #[] 1537 3 #[] #[])
  fields := #[]
  methods := #[]
  instanceTypes := #[]
  staticTypes := #[]
  resolved := Array.replicate 12 none
  statics := none }

def pool5 : Array CpInfo := pool [(1, .methodref 2 3), (0, .class_ 4), (0, .nameAndType 5 6), (0, u "java/lang/Record"), (0, u "<init>"), (0, u "()V"), (9, .fieldref 17 18), (0, .class_ 19), (0, .nameAndType 20 21), (0, u "com/example/latticework/latticework/graph/Position"), (0, u "line"), (0, u "I"), (0, .fieldref 17 23), (0, .nameAndType 24 21), (0, u "column"), (0, .methodref 26 27), (0, .class_ 28), (0, .nameAndType 29 30), (0, u "java/lang/Integer"), (0, u "compare"), (0, u "(II)I"), (3, u "compareTo"), (0, u "(Lcom/example/latticework/latticework/graph/Position;)I"), (7, .class_ 44), (0, u "java/lang/Comparable"), (0, u "(II)V")] 42

def k5c0 : Code := { maxStack := 4, maxLocals := 3, code := prog_41_method_1_code, exceptionTable := #[], attributes := #[] }
def k5m0 : Method := { name := "<init>", desc := "(II)V", sig := { parameters := [.int, .int], returnType := none }, accessFlags := 1, code := some k5c0 }
def k5c1 : Code := { maxStack := 2, maxLocals := 2, code := prog_41_method_2_code, exceptionTable := #[], attributes := #[] }
def k5m1 : Method := { name := "compareTo", desc := "(Lcom/example/latticework/latticework/graph/Position;)I", sig := { parameters := [(.object "com/example/latticework/latticework/graph/Position")], returnType := some .int }, accessFlags := 1, code := some k5c1 }
/-- com/example/latticework/latticework/graph/Position -/
def k5 : Class := { plain "com/example/latticework/latticework/graph/Position" (some 3) with
  accessFlags := 49
  interfaces := #[4]
  cf := some (fileOf pool5 17 #[] #[{ accessFlags := 1, nameIndex := 5, descriptorIndex := 45, attributes := #[] }, { accessFlags := 1, nameIndex := 34, descriptorIndex := 35, attributes := #[] }] 49 2 #[43] #[{ accessFlags := 18, nameIndex := 20, descriptorIndex := 21, attributes := #[] }, { accessFlags := 18, nameIndex := 24, descriptorIndex := 21, attributes := #[] }])
  fields := #[{ name := "line", type := .int, accessFlags := 18, slot := 0, constantValue := 0 }, { name := "column", type := .int, accessFlags := 18, slot := 1, constantValue := 0 }]
  methods := #[k5m0, k5m1]
  instanceTypes := #[.int, .int]
  staticTypes := #[]
  resolved := Array.replicate 88 none
  statics := none }

def pool6 : Array CpInfo := pool [(1, .class_ 2), (0, u "java/io/Serializable"), (0, .class_ 4), (0, u "java/lang/Object")] 2

/-- java/io/Serializable -/
def k6 : Class := { plain "java/io/Serializable" (some 0) with
  accessFlags := 1537
  interfaces := #[]
  cf := some (fileOf pool6 1 #[] #[] 1537 3 #[] #[])
  fields := #[]
  methods := #[]
  instanceTypes := #[]
  staticTypes := #[]
  resolved := Array.replicate 7 none
  statics := none }

def pool7 : Array CpInfo := pool [(2, .class_ 4), (1, u "java/lang/Object"), (0, u "<init>"), (0, u "()V"), (1, .class_ 10), (1, u "java/lang/Number"), (2, .class_ 14), (0, u "java/io/Serializable"), (0, u "serialVersionUID"), (0, u "J")] 20

def k7m0 : Method := { name := "<init>", desc := "()V", sig := { parameters := [], returnType := none }, accessFlags := 1, code := none }
/-- java/lang/Number -/
def k7 : Class := { plain "java/lang/Number" (some 0) with
  accessFlags := 1057
  interfaces := #[6]
  cf := some (fileOf pool7 8 #[] #[{ accessFlags := 1, nameIndex := 5, descriptorIndex := 6, attributes := #[] }] 1057 2 #[13] #[{ accessFlags := 26, nameIndex := 15, descriptorIndex := 16, attributes := #[] }])
  fields := #[{ name := "serialVersionUID", type := .long, accessFlags := 26, slot := 0, constantValue := 0 }]
  methods := #[k7m0]
  instanceTypes := #[]
  staticTypes := #[.long]
  resolved := Array.replicate 37 none
  statics := none }

def pool8 : Array CpInfo := pool [(1, .class_ 2), (0, u "java/lang/constant/Constable"), (0, .class_ 4), (0, u "java/lang/Object")] 6

/-- java/lang/constant/Constable -/
def k8 : Class := { plain "java/lang/constant/Constable" (some 0) with
  accessFlags := 1537
  interfaces := #[]
  cf := some (fileOf pool8 1 #[] #[] 1537 3 #[] #[])
  fields := #[]
  methods := #[]
  instanceTypes := #[]
  staticTypes := #[]
  resolved := Array.replicate 11 none
  statics := none }

def pool9 : Array CpInfo := pool [(1, .class_ 2), (0, u "java/lang/constant/ConstantDesc"), (0, .class_ 4), (0, u "java/lang/Object")] 32

/-- java/lang/constant/ConstantDesc -/
def k9 : Class := { plain "java/lang/constant/ConstantDesc" (some 0) with
  accessFlags := 1537
  interfaces := #[]
  cf := some (fileOf pool9 1 #[] #[] 1537 3 #[] #[])
  fields := #[]
  methods := #[]
  instanceTypes := #[]
  staticTypes := #[]
  resolved := Array.replicate 37 none
  statics := none }

def pool10 : Array CpInfo := pool [(1, .class_ 2), (0, u "java/lang/Integer"), (16, u "digits"), (0, u "[C"), (39, u "(II)I"), (24, u "DigitOnes"), (0, u "[B"), (2, u "DigitTens"), (99, .class_ 190), (0, u "java/lang/Integer$IntegerCache"), (3, u "I"), (8, .class_ 204), (0, u "java/lang/Number"), (2, u "value"), (53, u "compare"), (40, u "TYPE"), (0, u "Ljava/lang/Class;"), (0, .class_ 305), (0, u "java/lang/Comparable"), (0, .class_ 307), (0, u "java/lang/constant/Constable"), (0, .class_ 309), (0, u "java/lang/constant/ConstantDesc"), (0, u "MIN_VALUE"), (1, u "MAX_VALUE"), (3, u "SIZE"), (1, u "BYTES"), (1, u "serialVersionUID"), (0, u "J")] 131

def k10c0 : Code := { maxStack := 2, maxLocals := 2, code := jdk_33_method_40_code, exceptionTable := #[], attributes := #[] }
def k10m0 : Method := { name := "compare", desc := "(II)I", sig := { parameters := [.int, .int], returnType := some .int }, accessFlags := 9, code := some k10c0 }
/-- java/lang/Integer -/
def k10 : Class := { plain "java/lang/Integer" (some 7) with
  accessFlags := 49
  interfaces := #[4, 8, 9]
  cf := some (fileOf pool10 1 #[.nestMembers #[189]] #[{ accessFlags := 9, nameIndex := 261, descriptorIndex := 60, attributes := #[] }] 49 203 #[304, 306, 308] #[{ accessFlags := 25, nameIndex := 310, descriptorIndex := 194, attributes := #[] }, { accessFlags := 25, nameIndex := 312, descriptorIndex := 194, attributes := #[] }, { accessFlags := 25, nameIndex := 302, descriptorIndex := 303, attributes := #[] }, { accessFlags := 24, nameIndex := 19, descriptorIndex := 20, attributes := #[] }, { accessFlags := 24, nameIndex := 89, descriptorIndex := 86, attributes := #[] }, { accessFlags := 24, nameIndex := 85, descriptorIndex := 86, attributes := #[] }, { accessFlags := 18, nameIndex := 207, descriptorIndex := 194, attributes := #[] }, { accessFlags := 25, nameIndex := 316, descriptorIndex := 194, attributes := #[] }, { accessFlags := 25, nameIndex := 318, descriptorIndex := 194, attributes := #[] }, { accessFlags := 26, nameIndex := 320, descriptorIndex := 321, attributes := #[] }])
  fields := #[{ name := "MIN_VALUE", type := .int, accessFlags := 25, slot := 0, constantValue := 0 }, { name := "MAX_VALUE", type := .int, accessFlags := 25, slot := 1, constantValue := 0 }, { name := "TYPE", type := (.object "java/lang/Class"), accessFlags := 25, slot := 2, constantValue := 0 }, { name := "digits", type := (.array .char), accessFlags := 24, slot := 3, constantValue := 0 }, { name := "DigitTens", type := (.array .byte), accessFlags := 24, slot := 4, constantValue := 0 }, { name := "DigitOnes", type := (.array .byte), accessFlags := 24, slot := 5, constantValue := 0 }, { name := "value", type := .int, accessFlags := 18, slot := 0, constantValue := 0 }, { name := "SIZE", type := .int, accessFlags := 25, slot := 6, constantValue := 0 }, { name := "BYTES", type := .int, accessFlags := 25, slot := 7, constantValue := 0 }, { name := "serialVersionUID", type := .long, accessFlags := 26, slot := 8, constantValue := 0 }]
  methods := #[k10m0]
  instanceTypes := #[.int]
  staticTypes := #[.int, .int, (.object "java/lang/Class"), (.array .char), (.array .byte), (.array .byte), .int, .int, .long]
  resolved := Array.replicate 453 none
  statics := none }

def pool11 : Array CpInfo := pool [(1, u "java/lang/Cloneable"), (0, .class_ 1), (0, u "java/lang/Object"), (0, .class_ 3)] 3

/-- java/lang/Cloneable -/
def k11 : Class := { plain "java/lang/Cloneable" (some 0) with
  accessFlags := 1537
  interfaces := #[]
  cf := some (fileOf pool11 2 #[] #[] 1537 4 #[] #[])
  fields := #[]
  methods := #[]
  instanceTypes := #[]
  staticTypes := #[]
  resolved := Array.replicate 8 none
  statics := none }

/-- the primitive byte -/
def k12 : Class := { plain "byte" none with kind := .primitive 'B', accessFlags := 0x411 }
/-- [B -/
def k13 : Class := { plain "[B" (some 0) with kind := .array 12 .byte, interfaces := #[11, 6], accessFlags := 1041 }

/-- the primitive int -/
def k14 : Class := { plain "int" none with kind := .primitive 'I', accessFlags := 0x411 }
/-- [I -/
def k15 : Class := { plain "[I" (some 0) with kind := .array 14 .int, interfaces := #[11, 6], accessFlags := 1041 }

def heap : Heap := #[]
def classes : Array Class := #[k0, k1, k2, k3, k4, k5, k6, k7, k8, k9, k10, k11, k12, k13, k14, k15]
def interned : List (Array UInt16 × Addr) := []
def slotsUsed : Nat := 0
def theMethod : MethodId := ⟨1, 3⟩
def args0 : Array Value := #[.int 5, .int 3, .int 9, .int 4, .int 1]
def aboutOver (below : List Frame) : State where
  vm := { classes := classes, interned := interned.toArray }
  heap := heap
  slotsUsed := slotsUsed
  threads := #[{ frames := .invoking theMethod args0 :: below }]
def below0 : List Frame := [.native { method := ⟨0, 0⟩, args := #[] }]
def about1 : State := aboutOver below0
def p0 : Program := .bare "" "" ""
def e0 : Env := launch0.env 0 0 0
theorem w_frames : about1.frames = Frame.invoking theMethod args0 :: below0 := rfl
set_option maxRecDepth 65536 in
theorem w_args : argsFit about1.vm theMethod args0 = true := by decide +kernel
set_option maxRecDepth 65536 in
theorem w_heap : heapFits about1 = true := by decide +kernel
set_option maxRecDepth 65536 in
theorem w_runnable : about1.curStatus? = some .runnable := by decide +kernel
set_option maxRecDepth 65536 in
theorem w_alone : about1.alone = true := by decide +kernel
set_option maxRecDepth 65536 in
theorem w_named : about1.methodNamed? x = some theMethod := by decide +kernel
set_option maxRecDepth 65536 in
theorem w_hears : about1.hears theMethod below0 = true := by decide +kernel
set_option maxRecDepth 65536 in
theorem w_ripe : about1.ripe theMethod args0 below0 = true := by decide +kernel
theorem w_running : about1.status = .running := rfl
set_option maxRecDepth 65536 in
theorem w_room : about1.hasRoom e0.platform room_1 = true :=
  launch0.hasRoom_least _ room_1 (by decide +kernel) (by decide +kernel) (by decide +kernel) (by decide +kernel) (by decide +kernel) (by decide +kernel)
theorem allAtoms_all (ts : List Jvm.Cond) (a : Array Jvm.Value) (st : Jvm.State) : (allAtoms ts).before a st = ts.all (fun c => c.before a st) := by
  induction ts with
  | nil => rfl
  | cons c t ih =>
    show (Jvm.Cond.and c (allAtoms t)).before a st = _
    rw [Jvm.Cond.before_and, ih, List.all_cons]
def words1 : List Jvm.Cond := Jvm.Cond.code x code maxLocals ret :: tables_1
/-- a 'code' word, met by the world's own term for the bytes: nothing is compared byte by byte -/
theorem code_word {y : MethodName} {bytes : ByteArray} {mx : Nat} {rt : Option FieldType} {a : Array Value} {s : State} {m : MethodId} {meth : Method} {c : Code} (h1 : s.methodNamed? y = some m) (h2 : s.vm.method? m = some meth) (h3 : meth.code = some c) (h4 : c.code = bytes)
    (h5 : (c.maxLocals == mx && c.exceptionTable.isEmpty && decide (c.maxStack ≤ mostOperands) && decide (meth.sig.returnType = rt) && !meth.locks && decide (parseMethodDescriptor y.desc = some meth.sig)) = true) : (Jvm.Cond.code y bytes mx rt).before a s = true := by
  simp only [Bool.and_eq_true, beq_iff_eq, Bool.not_eq_true', decide_eq_true_eq] at h5
  obtain ⟨⟨⟨⟨⟨g1, g2⟩, g3⟩, g4⟩, g5⟩, g6⟩ := h5
  simp [Cond.before, Cond.holds, Cond.value, h1, h2, h3, h4, g1, g2, g3, g4, g5, g6]
def isCode : Jvm.Cond → Bool
  | .code _ _ _ _ => true
  | _ => false
theorem all_split {L : List Jvm.Cond} {P : Jvm.Cond → Bool} (h1 : L.all (fun c => isCode c || P c) = true) (h2 : ∀ c ∈ L.filter isCode, P c = true) : L.all P = true := by
  refine List.all_eq_true.mpr fun c hc => ?_
  have h := List.all_eq_true.mp h1 c hc
  rcases Bool.eq_false_or_eq_true (isCode c) with hi | hi
  · exact h2 c (List.mem_filter.mpr ⟨hc, hi⟩)
  · simpa [hi] using h
set_option maxRecDepth 65536 in
theorem w_c0 : (Jvm.Cond.code x code maxLocals ret).before args0 about1 = true := code_word (m := ⟨1, 3⟩) (meth := k1m3) (c := k1c3) (by decide +kernel) rfl rfl rfl (by decide +kernel)
set_option maxRecDepth 65536 in
theorem w_c1 : (Jvm.Cond.code ({ cls := "com/example/latticework/latticework/graph/PositionCompareToPinLaw", name := "pos", desc := "(I)I" } : Jvm.MethodName) method_3_code (1 : Nat) (Option.some Jvm.ClassFile.FieldType.int)).before args0 about1 = true := code_word (m := ⟨1, 2⟩) (meth := k1m2) (c := k1c2) (by decide +kernel) rfl rfl rfl (by decide +kernel)
set_option maxRecDepth 65536 in
theorem w_c2 : (Jvm.Cond.code ({ cls := "java/lang/Math", name := "max", desc := "(II)I" } : Jvm.MethodName) jdk_29_method_65_code (2 : Nat) (Option.some Jvm.ClassFile.FieldType.int)).before args0 about1 = true := code_word (m := ⟨2, 1⟩) (meth := k2m1) (c := k2c1) (by decide +kernel) rfl rfl rfl (by decide +kernel)
set_option maxRecDepth 65536 in
theorem w_c3 : (Jvm.Cond.code ({ cls := "com/example/latticework/latticework/graph/Position", name := "<init>", desc := "(II)V" } : Jvm.MethodName) prog_41_method_1_code (3 : Nat) (Option.none : Option Jvm.ClassFile.FieldType)).before args0 about1 = true := code_word (m := ⟨5, 0⟩) (meth := k5m0) (c := k5c0) (by decide +kernel) rfl rfl rfl (by decide +kernel)
set_option maxRecDepth 65536 in
theorem w_c4 : (Jvm.Cond.code ({ cls := "java/lang/Record", name := "<init>", desc := "()V" } : Jvm.MethodName) jdk_30_method_1_code (1 : Nat) (Option.none : Option Jvm.ClassFile.FieldType)).before args0 about1 = true := code_word (m := ⟨3, 0⟩) (meth := k3m0) (c := k3c0) (by decide +kernel) rfl rfl rfl (by decide +kernel)
set_option maxRecDepth 65536 in
theorem w_c5 : (Jvm.Cond.code ({ cls := "java/lang/Object", name := "<init>", desc := "()V" } : Jvm.MethodName) object_method_1_code (1 : Nat) (Option.none : Option Jvm.ClassFile.FieldType)).before args0 about1 = true := code_word (m := ⟨0, 0⟩) (meth := k0m0) (c := k0c0) (by decide +kernel) rfl rfl rfl (by decide +kernel)
set_option maxRecDepth 65536 in
theorem w_c6 : (Jvm.Cond.code ({ cls := "com/example/latticework/latticework/graph/Position", name := "compareTo", desc := "(Lcom/example/latticework/latticework/graph/Position;)I" } : Jvm.MethodName) prog_41_method_2_code (2 : Nat) (Option.some Jvm.ClassFile.FieldType.int)).before args0 about1 = true := code_word (m := ⟨5, 1⟩) (meth := k5m1) (c := k5c1) (by decide +kernel) rfl rfl rfl (by decide +kernel)
set_option maxRecDepth 65536 in
theorem w_c7 : (Jvm.Cond.code ({ cls := "java/lang/Integer", name := "compare", desc := "(II)I" } : Jvm.MethodName) jdk_33_method_40_code (2 : Nat) (Option.some Jvm.ClassFile.FieldType.int)).before args0 about1 = true := code_word (m := ⟨10, 0⟩) (meth := k10m0) (c := k10c0) (by decide +kernel) rfl rfl rfl (by decide +kernel)
set_option maxRecDepth 65536 in
theorem w_c8 : (Jvm.Cond.code ({ cls := "com/example/latticework/latticework/graph/PositionCompareToPinLaw", name := "sign", desc := "(I)I" } : Jvm.MethodName) method_2_code (1 : Nat) (Option.some Jvm.ClassFile.FieldType.int)).before args0 about1 = true := code_word (m := ⟨1, 1⟩) (meth := k1m1) (c := k1c1) (by decide +kernel) rfl rfl rfl (by decide +kernel)
def codes1 : List Jvm.Cond := [Jvm.Cond.code x code maxLocals ret, Jvm.Cond.code ({ cls := "com/example/latticework/latticework/graph/PositionCompareToPinLaw", name := "pos", desc := "(I)I" } : Jvm.MethodName) method_3_code (1 : Nat) (Option.some Jvm.ClassFile.FieldType.int), Jvm.Cond.code ({ cls := "java/lang/Math", name := "max", desc := "(II)I" } : Jvm.MethodName) jdk_29_method_65_code (2 : Nat) (Option.some Jvm.ClassFile.FieldType.int), Jvm.Cond.code ({ cls := "com/example/latticework/latticework/graph/Position", name := "<init>", desc := "(II)V" } : Jvm.MethodName) prog_41_method_1_code (3 : Nat) (Option.none : Option Jvm.ClassFile.FieldType), Jvm.Cond.code ({ cls := "java/lang/Record", name := "<init>", desc := "()V" } : Jvm.MethodName) jdk_30_method_1_code (1 : Nat) (Option.none : Option Jvm.ClassFile.FieldType), Jvm.Cond.code ({ cls := "java/lang/Object", name := "<init>", desc := "()V" } : Jvm.MethodName) object_method_1_code (1 : Nat) (Option.none : Option Jvm.ClassFile.FieldType), Jvm.Cond.code ({ cls := "com/example/latticework/latticework/graph/Position", name := "compareTo", desc := "(Lcom/example/latticework/latticework/graph/Position;)I" } : Jvm.MethodName) prog_41_method_2_code (2 : Nat) (Option.some Jvm.ClassFile.FieldType.int), Jvm.Cond.code ({ cls := "java/lang/Integer", name := "compare", desc := "(II)I" } : Jvm.MethodName) jdk_33_method_40_code (2 : Nat) (Option.some Jvm.ClassFile.FieldType.int), Jvm.Cond.code ({ cls := "com/example/latticework/latticework/graph/PositionCompareToPinLaw", name := "sign", desc := "(I)I" } : Jvm.MethodName) method_2_code (1 : Nat) (Option.some Jvm.ClassFile.FieldType.int)]
set_option maxRecDepth 65536 in
theorem codes_eq : words1.filter isCode = codes1 := rfl
theorem w_codes : ∀ c ∈ words1.filter isCode, c.before args0 about1 = true := by
  rw [codes_eq]
  intro c hc
  simp only [codes1, List.mem_cons, List.not_mem_nil, or_false] at hc
  rcases hc with rfl | rfl | rfl | rfl | rfl | rfl | rfl | rfl | rfl
  · exact w_c0
  · exact w_c1
  · exact w_c2
  · exact w_c3
  · exact w_c4
  · exact w_c5
  · exact w_c6
  · exact w_c7
  · exact w_c8
set_option maxRecDepth 65536 in
theorem w_t1 : (words1.take 24).all (fun c => isCode c || c.before args0 about1) = true := by decide +kernel
set_option maxRecDepth 65536 in
theorem w_t2 : (words1.drop 24).all (fun c => isCode c || c.before args0 about1) = true := by decide +kernel
theorem w_tables : (allAtoms (Jvm.Cond.code x code maxLocals ret :: tables_1)).before args0 about1 = true := by
  rw [allAtoms_all]
  show words1.all (fun c => c.before args0 about1) = true
  refine all_split ?_ w_codes
  rw [← List.take_append_drop 24 words1, List.all_append, w_t1, w_t2]
  rfl
set_option maxRecDepth 65536 in
theorem w_case : (Jvm.Cond.and given_1 narrow_1).before args0 about1 = true := by decide +kernel
theorem w_applies : (headSpec (Jvm.Cond.code x code maxLocals ret :: tables_1) room_1).applies x e0.platform about1 = true :=
  (Spec.applies_iff w_frames).mpr ⟨w_running, w_runnable, w_alone, w_named, w_hears, w_ripe, w_room, w_tables⟩
theorem atStart : AtStart classFile x code maxLocals ret World_1 tables_1 room_1 Calls_1 rest_1 Pre_1 launch0 p0 e0 about1 theMethod args0 below0 :=
  ⟨lists_1, trivial, launch0.admits_env _ _ _, launch0.least_env, fairChoices_fair.cas, fairChoices_fair.clock, w_frames, w_args, w_heap, w_applies, trivial, trivial, w_case⟩
end start1
theorem witness_1 : WitnessClaimed_1 := ⟨start1.p0, start1.e0, start1.about1, start1.theMethod, start1.args0, start1.below0, start1.atStart⟩
end Jvm.Pilot.@@N@@
