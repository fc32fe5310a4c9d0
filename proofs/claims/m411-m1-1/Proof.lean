import JvmDerived
import JvmDerived.Pilot.@@N@@Statement
import JvmDerived.Pilot.@@N@@Code
set_option linter.unusedVariables false
set_option linter.unusedSimpArgs false
namespace Jvm.RoadKit
open Sem ClassFile Op Lib Jvm.Stand Jvm.Free Jvm.LawKit
section New
variable {p : Program} {l : Launch} {e : Env} {R : Room} {s : State} {m : MethodId} {args : Array Value} {below : List Frame} {meth : Method} {c : Code} {T : State} {locs : List Loc} {cells slots : Nat}
theorem retI (X : Stand p l e R s m args below meth c T locs cells slots) (hx : p.tables.exec = Jvm.exec) {pc : Nat} {Ls : Array Slot} {z : Int32} {rest : List Value} (hret : meth.sig.returnType = some .int) (hd : decode c.code pc = .ok (.ireturn, 1)) {fs : List Frame}
    (hl : ∀ (f : JFrame) (acts : List Action), f.method = m → f.locked = none → f.entered = [] → (doReturn e (T.setTop f) acts (some (.int z))).1 = T.setFrames fs) : Steps p.tables e below (T.setTop (mkF m pc Ls (.int z :: rest))) (T.setFrames fs) := by
  have hm' : T.vm.method? m = some meth := X.method'
  have hn : narrow .int (.int z) = .int z := rfl
  show Steps p.tables e below (T.setTop { method := m, pc := pc, locals := Ls, stack := _ :: rest, locked := none }) _
  jvm_step X.here [X.here.top, hx, hd, hm', hret, hn]
  first | (intro acts; rw [hl _ acts rfl rfl rfl]) | rw [hl _ _ rfl rfl rfl]
  exact Steps.refl _
end New
end Jvm.RoadKit
namespace Jvm.Pilot.@@N@@
open Jvm Jvm.ClassFile Sem Op Lib Jvm.Free Jvm.Stand Jvm.LawKit Jvm.RoadKit Bundle Jvm.Pilot.@@N@@.Jvm.D
theorem mgE {A : Type} {l : List A} {a : A} (i : Nat) (h : l[i]? = some a) : a ∈ l := List.mem_of_getElem? h

theorem own_wS {Z : State} {a0 : Array Value} (hw : ∀ d ∈ tables_1, d.before a0 Z = true) : ∀ a ∈ Bundle.stringAtoms, a.before a0 Z = true := fun a ha => by
  simp only [Bundle.stringAtoms, List.mem_cons, List.not_mem_nil, or_false] at ha
  rcases ha with rfl | rfl | rfl | rfl | rfl | rfl | rfl
  · exact (hw _ (mgE 11 rfl))
  · exact (hw _ (mgE 12 rfl))
  · exact (hw _ (mgE 13 rfl))
  · exact (hw _ (mgE 14 rfl))
  · exact (hw _ (mgE 15 rfl))
  · exact (hw _ (mgE 16 rfl))
  · exact (hw _ (mgE 17 rfl))

theorem d1_0 : decode jdk_29_method_70_code 0 = .ok (.lload_n 0, 1) := by decide +kernel
theorem d1_1 : decode jdk_29_method_70_code 1 = .ok (.lload_n 2, 1) := by decide +kernel
theorem d1_2 : decode jdk_29_method_70_code 2 = .ok (.lcmp, 1) := by decide +kernel
theorem d1_3 : decode jdk_29_method_70_code 3 = .ok (.ifCond .gt 7, 3) := by decide +kernel
theorem d1_6 : decode jdk_29_method_70_code 6 = .ok (.lload_n 0, 1) := by decide +kernel
theorem d1_7 : decode jdk_29_method_70_code 7 = .ok (.goto 4, 3) := by decide +kernel
theorem d1_10 : decode jdk_29_method_70_code 10 = .ok (.lload_n 2, 1) := by decide +kernel
theorem d1_11 : decode jdk_29_method_70_code 11 = .ok (.lreturn, 1) := by decide +kernel
theorem ef_1 (m : MethodId) (x0 : Int64) (x1 : Int64) : entryFrame m #[(.long x0), (.long x1)] 4 = mkF m 0 #[.val (.long x0), .second, .val (.long x1), .second] [] := by first | (simp [entryFrame, mkF, argsToLocals, Value.category]; done) | rfl
def r1 (q1 : Int64) (q2 : Int64) : Int64 := (if (0 : Int32) < (lcmpW q1 q2) then q2 else q1)
def Q1 (Z : State) (q1 : Int64) (q2 : Int64) (h0 : Heap) (n0 : Nat) (v : Option Value) (h : Heap) (L : List Loc) : Prop := v = some (.long (r1 q1 q2)) ∧ Fr n0 L ∧ h = h0
set_option maxRecDepth 65536 in
set_option maxHeartbeats 40000000 in
theorem rm1 (l : Launch) (Z : State) (a0 : Array Value) (hw : ∀ d ∈ tables_1, d.before a0 Z = true) (ws : List Jvm.Cond) (q1 : Int64) (q2 : Int64) (h0 : Heap) (n0 : Nat) (Z0 : n0 ≤ h0.size)  :
    MetFree l (⟨"java/lang/Math", "min", "(JJ)J"⟩ : MethodName) (head1 (Jvm.Cond.code (⟨"java/lang/Math", "min", "(JJ)J"⟩ : MethodName) jdk_29_method_70_code 4 (some .long) :: ws) ({ frames := 0, cells := 0, slots := 0, locals := 0 } : Room)) (fun a U => a = #[(.long q1), (.long q2)] ∧ Z.Warmed39 U.vm ∧ U.heap = h0) (fun _ _ _ _ _ => True) (fun _ U o U' => ∃ v L, o = .returned v ∧ Q1 Z q1 q2 h0 n0 v U'.heap L ∧ FrameEnd U o U' L ({ frames := 0, cells := 0, slots := 0, locals := 0 } : Room).cells ({ frames := 0, cells := 0, slots := 0, locals := 0 } : Room).slots) := by
  refine MetFree.of_bodySF (Jvm.Free.JP.mathPlain rfl (by decide +kernel)) hisR ?_
  intro p e s m args below meth c s₁ Bd hml0 hP hK
  obtain ⟨rfl, hZ, hh⟩ := hP
  have hx := Bd.exec
  have hby := Bd.bytes
  have hml : c.maxLocals = 4 := hml0
  have hown : s.vm.findClass "java/lang/Math" = some m.cls := findClass_of_methodNamed Bd.named
  have hnm := (name_of_methodNamed Bd.named Bd.method).1
  have X0 : Stand p l e ({ frames := 0, cells := 0, slots := 0, locals := 0 } : Room) s m #[(.long q1), (.long q2)] below meth c s₁ [] 0 0 := Stand.of_body Bd
  have e0 : s₁.heap = h0 := by rw [← hh, Bd.state]; rfl
  have N0 := Fr.nil n0
  have pre0 : ∀ t, Steps p.tables e below (s₁.setTop (mkF m 0 #[.val (.long q1), .second, .val (.long q2), .second] [])) t → Steps p.tables e below (s₁.setTop (entryFrame m #[(.long q1), (.long q2)] 4)) t := fun t k => castTop (ef_1 m q1 q2) k
  by_cases hc3 : (0 : Int32) < (lcmpW q1 q2)
  · skip
    have pre1 : ∀ t, Steps p.tables e below (s₁.setTop (mkF m 11 #[.val (.long q1), .second, .val (.long q2), .second] [(.long q2)])) t → Steps p.tables e below (s₁.setTop (entryFrame m #[(.long q1), (.long q2)] 4)) t := fun t kt => by
      refine pre0 t ?_
      refine XS.lloadN X0.here hx rfl (hb hby d1_0) rfl ?_
      show Steps p.tables e below (s₁.setTop (mkF m 1 #[.val (.long q1), .second, .val (.long q2), .second] [(.long q1)])) _
      refine XS.lloadN X0.here hx rfl (hb hby d1_1) rfl ?_
      show Steps p.tables e below (s₁.setTop (mkF m 2 #[.val (.long q1), .second, .val (.long q2), .second] [(.long q2), (.long q1)])) _
      refine XS.lcmp X0.here hx rfl (hb hby d1_2) rfl ?_
      show Steps p.tables e below (s₁.setTop (mkF m 3 #[.val (.long q1), .second, .val (.long q2), .second] [(.int (lcmpW q1 q2))])) _
      refine XS.ifYes X0.here hx rfl (pc0 := 3) (pc' := 10) rfl (hb hby d1_3) rfl ((if0 _ _).trans (tlt hc3).2.2.1) (by decide) (by decide) ?_
      show Steps p.tables e below (s₁.setTop (mkF m 10 #[.val (.long q1), .second, .val (.long q2), .second] [])) _
      refine XS.lloadN X0.here hx rfl (hb hby d1_10) rfl ?_
      show Steps p.tables e below (s₁.setTop (mkF m 11 #[.val (.long q1), .second, .val (.long q2), .second] [(.long q2)])) _
      exact kt
    obtain ⟨fs, hr, hrun, hended, hW, hsame⟩ := X0.leave (v := some (.long q2)) (fun h => by rw [Bd.returns] at h; cases h)
    refine ⟨_, _, pre1 _ ?_, hrun, hended, _, _, rfl, ?_, ⟨_, rfl⟩, hW, hsame.mono (by decide) (by decide)⟩
    · jvm_step X0.here [X0.here.top, hx, (hb hby d1_11), X0.method', Bd.returns, narrow]
      first | (intro acts; rw [hr _ acts rfl rfl rfl]) | rw [hr _ _ rfl rfl rfl]
      exact Steps.refl _
    · show Q1 Z q1 q2 h0 n0 _ s₁.heap _
      rw [e0]
      exact ⟨by first | rfl | (simp only [r1, if_pos hc3]), N0, rfl⟩
  · skip
    have pre2 : ∀ t, Steps p.tables e below (s₁.setTop (mkF m 11 #[.val (.long q1), .second, .val (.long q2), .second] [(.long q1)])) t → Steps p.tables e below (s₁.setTop (entryFrame m #[(.long q1), (.long q2)] 4)) t := fun t kt => by
      refine pre0 t ?_
      refine XS.lloadN X0.here hx rfl (hb hby d1_0) rfl ?_
      show Steps p.tables e below (s₁.setTop (mkF m 1 #[.val (.long q1), .second, .val (.long q2), .second] [(.long q1)])) _
      refine XS.lloadN X0.here hx rfl (hb hby d1_1) rfl ?_
      show Steps p.tables e below (s₁.setTop (mkF m 2 #[.val (.long q1), .second, .val (.long q2), .second] [(.long q2), (.long q1)])) _
      refine XS.lcmp X0.here hx rfl (hb hby d1_2) rfl ?_
      show Steps p.tables e below (s₁.setTop (mkF m 3 #[.val (.long q1), .second, .val (.long q2), .second] [(.int (lcmpW q1 q2))])) _
      refine XS.ifNo X0.here hx rfl (hb hby d1_3) rfl ((if0 _ _).trans (flt hc3).2.2.1) ?_
      show Steps p.tables e below (s₁.setTop (mkF m 6 #[.val (.long q1), .second, .val (.long q2), .second] [])) _
      refine XS.lloadN X0.here hx rfl (hb hby d1_6) rfl ?_
      show Steps p.tables e below (s₁.setTop (mkF m 7 #[.val (.long q1), .second, .val (.long q2), .second] [(.long q1)])) _
      refine XS.goto X0.here hx rfl (pc0 := 7) (pc' := 11) rfl (hb hby d1_7) (by decide) (by decide) ?_
      show Steps p.tables e below (s₁.setTop (mkF m 11 #[.val (.long q1), .second, .val (.long q2), .second] [(.long q1)])) _
      exact kt
    obtain ⟨fs, hr, hrun, hended, hW, hsame⟩ := X0.leave (v := some (.long q1)) (fun h => by rw [Bd.returns] at h; cases h)
    refine ⟨_, _, pre2 _ ?_, hrun, hended, _, _, rfl, ?_, ⟨_, rfl⟩, hW, hsame.mono (by decide) (by decide)⟩
    · jvm_step X0.here [X0.here.top, hx, (hb hby d1_11), X0.method', Bd.returns, narrow]
      first | (intro acts; rw [hr _ acts rfl rfl rfl]) | rw [hr _ _ rfl rfl rfl]
      exact Steps.refl _
    · show Q1 Z q1 q2 h0 n0 _ s₁.heap _
      rw [e0]
      exact ⟨by first | rfl | (simp only [r1, if_neg hc3]), N0, rfl⟩
theorem d2_0 : decode jdk_29_method_66_code 0 = .ok (.lload_n 0, 1) := by decide +kernel
theorem d2_1 : decode jdk_29_method_66_code 1 = .ok (.lload_n 2, 1) := by decide +kernel
theorem d2_2 : decode jdk_29_method_66_code 2 = .ok (.lcmp, 1) := by decide +kernel
theorem d2_3 : decode jdk_29_method_66_code 3 = .ok (.ifCond .lt 7, 3) := by decide +kernel
theorem d2_6 : decode jdk_29_method_66_code 6 = .ok (.lload_n 0, 1) := by decide +kernel
theorem d2_7 : decode jdk_29_method_66_code 7 = .ok (.goto 4, 3) := by decide +kernel
theorem d2_10 : decode jdk_29_method_66_code 10 = .ok (.lload_n 2, 1) := by decide +kernel
theorem d2_11 : decode jdk_29_method_66_code 11 = .ok (.lreturn, 1) := by decide +kernel
theorem ef_2 (m : MethodId) (x0 : Int64) (x1 : Int64) : entryFrame m #[(.long x0), (.long x1)] 4 = mkF m 0 #[.val (.long x0), .second, .val (.long x1), .second] [] := by first | (simp [entryFrame, mkF, argsToLocals, Value.category]; done) | rfl
def r2 (q1 : Int64) (q2 : Int64) : Int64 := (if (lcmpW q1 q2) < (0 : Int32) then q2 else q1)
def Q2 (Z : State) (q1 : Int64) (q2 : Int64) (h0 : Heap) (n0 : Nat) (v : Option Value) (h : Heap) (L : List Loc) : Prop := v = some (.long (r2 q1 q2)) ∧ Fr n0 L ∧ h = h0
set_option maxRecDepth 65536 in
set_option maxHeartbeats 40000000 in
theorem rm2 (l : Launch) (Z : State) (a0 : Array Value) (hw : ∀ d ∈ tables_1, d.before a0 Z = true) (ws : List Jvm.Cond) (q1 : Int64) (q2 : Int64) (h0 : Heap) (n0 : Nat) (Z0 : n0 ≤ h0.size)  :
    MetFree l (⟨"java/lang/Math", "max", "(JJ)J"⟩ : MethodName) (head1 (Jvm.Cond.code (⟨"java/lang/Math", "max", "(JJ)J"⟩ : MethodName) jdk_29_method_66_code 4 (some .long) :: ws) ({ frames := 0, cells := 0, slots := 0, locals := 0 } : Room)) (fun a U => a = #[(.long q1), (.long q2)] ∧ Z.Warmed39 U.vm ∧ U.heap = h0) (fun _ _ _ _ _ => True) (fun _ U o U' => ∃ v L, o = .returned v ∧ Q2 Z q1 q2 h0 n0 v U'.heap L ∧ FrameEnd U o U' L ({ frames := 0, cells := 0, slots := 0, locals := 0 } : Room).cells ({ frames := 0, cells := 0, slots := 0, locals := 0 } : Room).slots) := by
  refine MetFree.of_bodySF (Jvm.Free.JP.mathPlain rfl (by decide +kernel)) hisR ?_
  intro p e s m args below meth c s₁ Bd hml0 hP hK
  obtain ⟨rfl, hZ, hh⟩ := hP
  have hx := Bd.exec
  have hby := Bd.bytes
  have hml : c.maxLocals = 4 := hml0
  have hown : s.vm.findClass "java/lang/Math" = some m.cls := findClass_of_methodNamed Bd.named
  have hnm := (name_of_methodNamed Bd.named Bd.method).1
  have X0 : Stand p l e ({ frames := 0, cells := 0, slots := 0, locals := 0 } : Room) s m #[(.long q1), (.long q2)] below meth c s₁ [] 0 0 := Stand.of_body Bd
  have e0 : s₁.heap = h0 := by rw [← hh, Bd.state]; rfl
  have N0 := Fr.nil n0
  have pre0 : ∀ t, Steps p.tables e below (s₁.setTop (mkF m 0 #[.val (.long q1), .second, .val (.long q2), .second] [])) t → Steps p.tables e below (s₁.setTop (entryFrame m #[(.long q1), (.long q2)] 4)) t := fun t k => castTop (ef_2 m q1 q2) k
  by_cases hc3 : (lcmpW q1 q2) < (0 : Int32)
  · skip
    have pre1 : ∀ t, Steps p.tables e below (s₁.setTop (mkF m 11 #[.val (.long q1), .second, .val (.long q2), .second] [(.long q2)])) t → Steps p.tables e below (s₁.setTop (entryFrame m #[(.long q1), (.long q2)] 4)) t := fun t kt => by
      refine pre0 t ?_
      refine XS.lloadN X0.here hx rfl (hb hby d2_0) rfl ?_
      show Steps p.tables e below (s₁.setTop (mkF m 1 #[.val (.long q1), .second, .val (.long q2), .second] [(.long q1)])) _
      refine XS.lloadN X0.here hx rfl (hb hby d2_1) rfl ?_
      show Steps p.tables e below (s₁.setTop (mkF m 2 #[.val (.long q1), .second, .val (.long q2), .second] [(.long q2), (.long q1)])) _
      refine XS.lcmp X0.here hx rfl (hb hby d2_2) rfl ?_
      show Steps p.tables e below (s₁.setTop (mkF m 3 #[.val (.long q1), .second, .val (.long q2), .second] [(.int (lcmpW q1 q2))])) _
      refine XS.ifYes X0.here hx rfl (pc0 := 3) (pc' := 10) rfl (hb hby d2_3) rfl ((if0 _ _).trans (tlt hc3).1) (by decide) (by decide) ?_
      show Steps p.tables e below (s₁.setTop (mkF m 10 #[.val (.long q1), .second, .val (.long q2), .second] [])) _
      refine XS.lloadN X0.here hx rfl (hb hby d2_10) rfl ?_
      show Steps p.tables e below (s₁.setTop (mkF m 11 #[.val (.long q1), .second, .val (.long q2), .second] [(.long q2)])) _
      exact kt
    obtain ⟨fs, hr, hrun, hended, hW, hsame⟩ := X0.leave (v := some (.long q2)) (fun h => by rw [Bd.returns] at h; cases h)
    refine ⟨_, _, pre1 _ ?_, hrun, hended, _, _, rfl, ?_, ⟨_, rfl⟩, hW, hsame.mono (by decide) (by decide)⟩
    · jvm_step X0.here [X0.here.top, hx, (hb hby d2_11), X0.method', Bd.returns, narrow]
      first | (intro acts; rw [hr _ acts rfl rfl rfl]) | rw [hr _ _ rfl rfl rfl]
      exact Steps.refl _
    · show Q2 Z q1 q2 h0 n0 _ s₁.heap _
      rw [e0]
      exact ⟨by first | rfl | (simp only [r2, if_pos hc3]), N0, rfl⟩
  · skip
    have pre2 : ∀ t, Steps p.tables e below (s₁.setTop (mkF m 11 #[.val (.long q1), .second, .val (.long q2), .second] [(.long q1)])) t → Steps p.tables e below (s₁.setTop (entryFrame m #[(.long q1), (.long q2)] 4)) t := fun t kt => by
      refine pre0 t ?_
      refine XS.lloadN X0.here hx rfl (hb hby d2_0) rfl ?_
      show Steps p.tables e below (s₁.setTop (mkF m 1 #[.val (.long q1), .second, .val (.long q2), .second] [(.long q1)])) _
      refine XS.lloadN X0.here hx rfl (hb hby d2_1) rfl ?_
      show Steps p.tables e below (s₁.setTop (mkF m 2 #[.val (.long q1), .second, .val (.long q2), .second] [(.long q2), (.long q1)])) _
      refine XS.lcmp X0.here hx rfl (hb hby d2_2) rfl ?_
      show Steps p.tables e below (s₁.setTop (mkF m 3 #[.val (.long q1), .second, .val (.long q2), .second] [(.int (lcmpW q1 q2))])) _
      refine XS.ifNo X0.here hx rfl (hb hby d2_3) rfl ((if0 _ _).trans (flt hc3).1) ?_
      show Steps p.tables e below (s₁.setTop (mkF m 6 #[.val (.long q1), .second, .val (.long q2), .second] [])) _
      refine XS.lloadN X0.here hx rfl (hb hby d2_6) rfl ?_
      show Steps p.tables e below (s₁.setTop (mkF m 7 #[.val (.long q1), .second, .val (.long q2), .second] [(.long q1)])) _
      refine XS.goto X0.here hx rfl (pc0 := 7) (pc' := 11) rfl (hb hby d2_7) (by decide) (by decide) ?_
      show Steps p.tables e below (s₁.setTop (mkF m 11 #[.val (.long q1), .second, .val (.long q2), .second] [(.long q1)])) _
      exact kt
    obtain ⟨fs, hr, hrun, hended, hW, hsame⟩ := X0.leave (v := some (.long q1)) (fun h => by rw [Bd.returns] at h; cases h)
    refine ⟨_, _, pre2 _ ?_, hrun, hended, _, _, rfl, ?_, ⟨_, rfl⟩, hW, hsame.mono (by decide) (by decide)⟩
    · jvm_step X0.here [X0.here.top, hx, (hb hby d2_11), X0.method', Bd.returns, narrow]
      first | (intro acts; rw [hr _ acts rfl rfl rfl]) | rw [hr _ _ rfl rfl rfl]
      exact Steps.refl _
    · show Q2 Z q1 q2 h0 n0 _ s₁.heap _
      rw [e0]
      exact ⟨by first | rfl | (simp only [r2, if_neg hc3]), N0, rfl⟩
theorem d4_0 : decode jdk_30_method_1_code 0 = .ok (.aload_n 0, 1) := by decide +kernel
theorem d4_1 : decode jdk_30_method_1_code 1 = .ok (.invokespecial 1, 3) := by decide +kernel
theorem d4_4 : decode jdk_30_method_1_code 4 = .ok (.return_, 1) := by decide +kernel
theorem pn_java_lang_Record : plainName "java/lang/Record" = true := by first | (simp [plainName, overriddenIn]; done) | decide +kernel
theorem ef_4 (m : MethodId) (x0 : Addr) : entryFrame m #[(.ref x0)] 1 = mkF m 0 #[.val (.ref x0)] [] := by first | (simp [entryFrame, mkF, argsToLocals, Value.category]; done) | rfl
def Q4 (Z : State) (a1 : Addr) (h0 : Heap) (n0 : Nat) (v : Option Value) (h : Heap) (L : List Loc) : Prop := v = none ∧ Fr n0 L ∧ h = h0
set_option maxRecDepth 65536 in
set_option maxHeartbeats 40000000 in
theorem rm4 (l : Launch) (Z : State) (a0 : Array Value) (hw : ∀ d ∈ tables_1, d.before a0 Z = true) (ws : List Jvm.Cond) (a1 : Addr) (h0 : Heap) (n0 : Nat) (Z0 : n0 ≤ h0.size)  :
    MetFree l (⟨"java/lang/Record", "<init>", "()V"⟩ : MethodName) (head1 (Jvm.Cond.code (⟨"java/lang/Record", "<init>", "()V"⟩ : MethodName) jdk_30_method_1_code 1 none :: ws) ({ frames := 1, cells := 0, slots := 0, locals := 12 } : Room)) (fun a U => a = #[(.ref a1)] ∧ Z.Warmed39 U.vm ∧ U.heap = h0) (fun _ _ _ _ _ => True) (fun _ U o U' => ∃ v L, o = .returned v ∧ Q4 Z a1 h0 n0 v U'.heap L ∧ FrameEnd U o U' L ({ frames := 1, cells := 0, slots := 0, locals := 12 } : Room).cells ({ frames := 1, cells := 0, slots := 0, locals := 12 } : Room).slots) := by
  refine MetFree.of_bodySF (plainFor_of_name pn_java_lang_Record) hisR ?_
  intro p e s m args below meth c s₁ Bd hml0 hP hK
  obtain ⟨rfl, hZ, hh⟩ := hP
  have hx := Bd.exec
  have hby := Bd.bytes
  have hml : c.maxLocals = 1 := hml0
  have hown : s.vm.findClass "java/lang/Record" = some m.cls := findClass_of_methodNamed Bd.named
  have hnm := (name_of_methodNamed Bd.named Bd.method).1
  have X0 : Stand p l e ({ frames := 1, cells := 0, slots := 0, locals := 12 } : Room) s m #[(.ref a1)] below meth c s₁ [] 0 0 := Stand.of_body Bd
  have e0 : s₁.heap = h0 := by rw [← hh, Bd.state]; rfl
  have N0 := Fr.nil n0
  have pre0 : ∀ t, Steps p.tables e below (s₁.setTop (mkF m 0 #[.val (.ref a1)] [])) t → Steps p.tables e below (s₁.setTop (entryFrame m #[(.ref a1)] 1)) t := fun t k => castTop (ef_4 m a1) k
  have pre1 : ∀ t, Steps p.tables e below (s₁.setTop (mkF m 1 #[.val (.ref a1)] [(.ref a1)])) t → Steps p.tables e below (s₁.setTop (entryFrame m #[(.ref a1)] 1)) t := fun t kt => by
    refine pre0 t ?_
    refine XS.aloadN X0.here hx rfl (hb hby d4_0) rfl rfl ?_
    show Steps p.tables e below (s₁.setTop (mkF m 1 #[.val (.ref a1)] [(.ref a1)])) _
    exact kt
  obtain ⟨T2, X2, e2, st2⟩ := initO X0 hx hZ hown (hw _ (mgE 26 rfl)) (hw _ (mgE 27 rfl)) (hw _ (mgE 28 rfl)) e0 (g := (mkF m 1 #[.val (.ref a1)] [(.ref a1)])) rfl (by rw [hml]; rfl) rfl (hb hby d4_1) (by decide) (W := 0) (by show 2 * 0 + _ ≤ _; exact Nat.le_of_eq rfl) (by decide)
  have pre3 : ∀ t, Steps p.tables e below (T2.setTop (mkF m 4 #[.val (.ref a1)] [])) t → Steps p.tables e below (s₁.setTop (entryFrame m #[(.ref a1)] 1)) t := fun t kt => pre1 t (st2 t kt)
  obtain ⟨fs, hr, hrun, hended, hW, hsame⟩ := X2.leave (v := none) (fun _ => rfl)
  refine ⟨_, _, pre3 _ ?_, hrun, hended, _, _, rfl, ?_, ⟨_, rfl⟩, hW, hsame.mono (by decide) (by decide)⟩
  · exact X2.returnOut hx Bd.returns (hb hby d4_4) hr
  · show Q4 Z a1 h0 n0 _ T2.heap _
    rw [e2]
    exact ⟨rfl, N0, rfl⟩
theorem d3_0 : decode prog_62_method_1_code 0 = .ok (.aload_n 0, 1) := by decide +kernel
theorem d3_1 : decode prog_62_method_1_code 1 = .ok (.invokespecial 1, 3) := by decide +kernel
theorem d3_4 : decode prog_62_method_1_code 4 = .ok (.aload_n 0, 1) := by decide +kernel
theorem d3_5 : decode prog_62_method_1_code 5 = .ok (.lload_n 1, 1) := by decide +kernel
theorem d3_6 : decode prog_62_method_1_code 6 = .ok (.putfield 7, 3) := by decide +kernel
theorem d3_9 : decode prog_62_method_1_code 9 = .ok (.aload_n 0, 1) := by decide +kernel
theorem d3_10 : decode prog_62_method_1_code 10 = .ok (.lload_n 3, 1) := by decide +kernel
theorem d3_11 : decode prog_62_method_1_code 11 = .ok (.putfield 13, 3) := by decide +kernel
theorem d3_14 : decode prog_62_method_1_code 14 = .ok (.aload_n 0, 1) := by decide +kernel
theorem d3_15 : decode prog_62_method_1_code 15 = .ok (.aload 5, 2) := by decide +kernel
theorem d3_17 : decode prog_62_method_1_code 17 = .ok (.putfield 16, 3) := by decide +kernel
theorem d3_20 : decode prog_62_method_1_code 20 = .ok (.aload_n 0, 1) := by decide +kernel
theorem d3_21 : decode prog_62_method_1_code 21 = .ok (.iload 6, 2) := by decide +kernel
theorem d3_23 : decode prog_62_method_1_code 23 = .ok (.putfield 20, 3) := by decide +kernel
theorem d3_26 : decode prog_62_method_1_code 26 = .ok (.return_, 1) := by decide +kernel
theorem pn_com_example_transnum_transnum_model_NumberRange : plainName "com/example/transnum/transnum/model/NumberRange" = true := by first | (simp [plainName, overriddenIn]; done) | decide +kernel
theorem pd___V : parseMethodDescriptor "()V" = some ⟨[], none⟩ := by decide +kernel
theorem ef_3 (m : MethodId) (x0 : Addr) (x1 : Int64) (x2 : Int64) (x3 : Addr) (x4 : Int32) : entryFrame m #[(.ref x0), (.long x1), (.long x2), (.ref x3), (.int x4)] 7 = mkF m 0 #[.val (.ref x0), .val (.long x1), .second, .val (.long x2), .second, .val (.ref x3), .val (.int x4)] [] := by first | (simp [entryFrame, mkF, argsToLocals, Value.category]; done) | rfl
def Q3 (Z : State) (a1 : Addr) (q2 : Int64) (q3 : Int64) (a4 : Addr) (p5 : Int32) (u_first_a1 : Value) (u_last_a1 : Value) (u_donor_a1 : Value) (u_typeOfNumber_a1 : Value) (h0 : Heap) (n0 : Nat) (v : Option Value) (h : Heap) (L : List Loc) : Prop := v = none ∧ Fr n0 L ∧ Keep h0 h [a1] ∧ Exa Z h a1 "com/example/transnum/transnum/model/NumberRange" ∧ Fld Z h a1 "com/example/transnum/transnum/model/NumberRange" "donor" "Ljava/lang/String;" (.ref a4) ∧ Fld Z h a1 "com/example/transnum/transnum/model/NumberRange" "first" "J" (.long q2) ∧ Fld Z h a1 "com/example/transnum/transnum/model/NumberRange" "last" "J" (.long q3) ∧ Fld Z h a1 "com/example/transnum/transnum/model/NumberRange" "typeOfNumber" "I" (.int p5)
set_option maxRecDepth 65536 in
set_option maxHeartbeats 40000000 in
theorem rm3 (l : Launch) (Z : State) (a0 : Array Value) (hw : ∀ d ∈ tables_1, d.before a0 Z = true) (ws : List Jvm.Cond) (a1 : Addr) (q2 : Int64) (q3 : Int64) (a4 : Addr) (p5 : Int32) (u_first_a1 : Value) (u_last_a1 : Value) (u_donor_a1 : Value) (u_typeOfNumber_a1 : Value) (h0 : Heap) (n0 : Nat) (Z0 : n0 ≤ h0.size) (E_a1 : Exa Z h0 a1 "com/example/transnum/transnum/model/NumberRange") (F_first_a1 : Fld Z h0 a1 "com/example/transnum/transnum/model/NumberRange" "first" "J" u_first_a1) (g_a1 : n0 ≤ a1) (F_last_a1 : Fld Z h0 a1 "com/example/transnum/transnum/model/NumberRange" "last" "J" u_last_a1) (F_donor_a1 : Fld Z h0 a1 "com/example/transnum/transnum/model/NumberRange" "donor" "Ljava/lang/String;" u_donor_a1) (F_typeOfNumber_a1 : Fld Z h0 a1 "com/example/transnum/transnum/model/NumberRange" "typeOfNumber" "I" u_typeOfNumber_a1) :
    MetFree l (⟨"com/example/transnum/transnum/model/NumberRange", "<init>", "(JJLjava/lang/String;I)V"⟩ : MethodName) (head1 (Jvm.Cond.code (⟨"com/example/transnum/transnum/model/NumberRange", "<init>", "(JJLjava/lang/String;I)V"⟩ : MethodName) prog_62_method_1_code 7 none :: ws) ({ frames := 2, cells := 0, slots := 0, locals := 24 } : Room)) (fun a U => a = #[(.ref a1), (.long q2), (.long q3), (.ref a4), (.int p5)] ∧ Z.Warmed39 U.vm ∧ U.heap = h0) (fun _ _ _ _ _ => True) (fun _ U o U' => ∃ v L, o = .returned v ∧ Q3 Z a1 q2 q3 a4 p5 u_first_a1 u_last_a1 u_donor_a1 u_typeOfNumber_a1 h0 n0 v U'.heap L ∧ FrameEnd U o U' L ({ frames := 2, cells := 0, slots := 0, locals := 24 } : Room).cells ({ frames := 2, cells := 0, slots := 0, locals := 24 } : Room).slots) := by
  refine MetFree.of_bodySF (plainFor_of_name pn_com_example_transnum_transnum_model_NumberRange) hisR ?_
  intro p e s m args below meth c s₁ Bd hml0 hP hK
  obtain ⟨rfl, hZ, hh⟩ := hP
  have hx := Bd.exec
  have hby := Bd.bytes
  have hml : c.maxLocals = 7 := hml0
  have hown : s.vm.findClass "com/example/transnum/transnum/model/NumberRange" = some m.cls := findClass_of_methodNamed Bd.named
  have hnm := (name_of_methodNamed Bd.named Bd.method).1
  have X0 : Stand p l e ({ frames := 2, cells := 0, slots := 0, locals := 24 } : Room) s m #[(.ref a1), (.long q2), (.long q3), (.ref a4), (.int p5)] below meth c s₁ [] 0 0 := Stand.of_body Bd
  have e0 : s₁.heap = h0 := by rw [← hh, Bd.state]; rfl
  have N0 := Fr.nil n0
  have pre0 : ∀ t, Steps p.tables e below (s₁.setTop (mkF m 0 #[.val (.ref a1), .val (.long q2), .second, .val (.long q3), .second, .val (.ref a4), .val (.int p5)] [])) t → Steps p.tables e below (s₁.setTop (entryFrame m #[(.ref a1), (.long q2), (.long q3), (.ref a4), (.int p5)] 7)) t := fun t k => castTop (ef_3 m a1 q2 q3 a4 p5) k
  have pre1 : ∀ t, Steps p.tables e below (s₁.setTop (mkF m 1 #[.val (.ref a1), .val (.long q2), .second, .val (.long q3), .second, .val (.ref a4), .val (.int p5)] [(.ref a1)])) t → Steps p.tables e below (s₁.setTop (entryFrame m #[(.ref a1), (.long q2), (.long q3), (.ref a4), (.int p5)] 7)) t := fun t kt => by
    refine pre0 t ?_
    refine XS.aloadN X0.here hx rfl (hb hby d3_0) rfl rfl ?_
    show Steps p.tables e below (s₁.setTop (mkF m 1 #[.val (.ref a1), .val (.long q2), .second, .val (.long q3), .second, .val (.ref a4), .val (.int p5)] [(.ref a1)])) _
    exact kt
  obtain ⟨_, _, ⟨T2, L2, k2, n2⟩, -, X2, ⟨Lc2, hQ2, l2, y2, z2⟩, st2⟩ := X0.specialBack hx (y := (⟨"java/lang/Record", "<init>", "()V"⟩ : MethodName)) rfl hown (mvT hZ (hw _ (mgE 21 rfl))) (mvT hZ (hw _ (mgE 22 rfl))) (mvT hZ (hw _ (mgE 25 rfl))) (by decide) (backOf (W := 0) (rm4 l Z a0 hw [] a1 h0 n0 Z0 ) hZ (hw _ (mgE 25 rfl)) (hw _ (mgE 24 rfl)) (by decide) (by decide)) (g := (mkF m 1 #[.val (.ref a1), .val (.long q2), .second, .val (.long q3), .second, .val (.ref a4), .val (.int p5)] [(.ref a1)])) rfl (by rw [hml]; rfl) (Steps.refl _) (a := a1) (argsL := []) (rest := []) (lenOf pd___V rfl) rfl (by show 2 * 0 + _ ≤ _; exact Nat.le_of_eq rfl) (hb hby d3_1) (fun _ _ => ⟨rfl, e0, (by decide : 0 + 0 ≤ _), (by decide : 0 + 0 ≤ _)⟩)
  dsimp only [Pt.U, Pt.locs, Pt.cells, Pt.slots] at X2 l2 y2 z2 st2 hQ2
  subst l2 y2 z2
  obtain ⟨rfl, N2q, e2⟩ := hQ2
  have pre3 : ∀ t, Steps p.tables e below (T2.setTop (mkF m 4 #[.val (.ref a1), .val (.long q2), .second, .val (.long q3), .second, .val (.ref a4), .val (.int p5)] [])) t → Steps p.tables e below (s₁.setTop (entryFrame m #[(.ref a1), (.long q2), (.long q3), (.ref a4), (.int p5)] 7)) t := fun t kt => pre1 t (st2.trans kt)
  have N2 := Fr.app N0 N2q
  have pre4 : ∀ t, Steps p.tables e below (T2.setTop (mkF m 6 #[.val (.ref a1), .val (.long q2), .second, .val (.long q3), .second, .val (.ref a4), .val (.int p5)] [(.long q2), (.ref a1)])) t → Steps p.tables e below (s₁.setTop (entryFrame m #[(.ref a1), (.long q2), (.long q3), (.ref a4), (.int p5)] 7)) t := fun t kt => by
    refine pre3 t ?_
    refine XS.aloadN X2.here hx rfl (hb hby d3_4) rfl rfl ?_
    show Steps p.tables e below (T2.setTop (mkF m 5 #[.val (.ref a1), .val (.long q2), .second, .val (.long q3), .second, .val (.ref a4), .val (.int p5)] [(.ref a1)])) _
    refine XS.lloadN X2.here hx rfl (hb hby d3_5) rfl ?_
    show Steps p.tables e below (T2.setTop (mkF m 6 #[.val (.ref a1), .val (.long q2), .second, .val (.long q3), .second, .val (.ref a4), .val (.int p5)] [(.long q2), (.ref a1)])) _
    exact kt
  obtain ⟨T5, h5, X5, e5, W5, st5⟩ := putF X2 hx hZ hown (host := "") (Or.inl (hw _ (mgE 29 rfl))) Via.refl e2 F_first_a1 E_a1 (Or.inr ⟨(hw _ (mgE 30 rfl)), rfl, hnm⟩) (hw _ (mgE 8 rfl)) (ty := .long) (by decide) rfl rfl (g := (mkF m 6 #[.val (.ref a1), .val (.long q2), .second, .val (.long q3), .second, .val (.ref a4), .val (.int p5)] [(.long q2), (.ref a1)])) rfl rfl (hb hby d3_6)
  have F6_5 := E_a1.wr W5
  have F8_5 := F_last_a1.other W5 (Or.inr (slot_ne (Or.inr (hw _ (mgE 32 rfl))) (Or.inr (hw _ (mgE 30 rfl))) (by decide) (t := .long) (t' := .long) (by decide) (by decide)))
  have F9_5 := F_donor_a1.other W5 (Or.inr (slot_ne (Or.inr (hw _ (mgE 34 rfl))) (Or.inr (hw _ (mgE 30 rfl))) (by decide) (t := (.object "java/lang/String")) (t' := .long) (by decide) (by decide)))
  have F10_5 := F_typeOfNumber_a1.other W5 (Or.inr (slot_ne (Or.inr (hw _ (mgE 36 rfl))) (Or.inr (hw _ (mgE 30 rfl))) (by decide) (t := .int) (t' := .long) (by decide) (by decide)))
  have Fw5 := F_first_a1.same W5
  have K5 : Keep h0 h5 [a1] := (Keep.refl h0 [a1]).wr W5 (Or.inl (mgE 0 rfl))
  have pre11 : ∀ t, Steps p.tables e below (T5.setTop (mkF m 9 #[.val (.ref a1), .val (.long q2), .second, .val (.long q3), .second, .val (.ref a4), .val (.int p5)] [])) t → Steps p.tables e below (s₁.setTop (entryFrame m #[(.ref a1), (.long q2), (.long q3), (.ref a4), (.int p5)] 7)) t := fun t kt => pre4 t (st5 t kt)
  have N5 := Fr.snoc X5 N2 g_a1
  have pre12 : ∀ t, Steps p.tables e below (T5.setTop (mkF m 11 #[.val (.ref a1), .val (.long q2), .second, .val (.long q3), .second, .val (.ref a4), .val (.int p5)] [(.long q3), (.ref a1)])) t → Steps p.tables e below (s₁.setTop (entryFrame m #[(.ref a1), (.long q2), (.long q3), (.ref a4), (.int p5)] 7)) t := fun t kt => by
    refine pre11 t ?_
    refine XS.aloadN X5.here hx rfl (hb hby d3_9) rfl rfl ?_
    show Steps p.tables e below (T5.setTop (mkF m 10 #[.val (.ref a1), .val (.long q2), .second, .val (.long q3), .second, .val (.ref a4), .val (.int p5)] [(.ref a1)])) _
    refine XS.lloadN X5.here hx rfl (hb hby d3_10) rfl ?_
    show Steps p.tables e below (T5.setTop (mkF m 11 #[.val (.ref a1), .val (.long q2), .second, .val (.long q3), .second, .val (.ref a4), .val (.int p5)] [(.long q3), (.ref a1)])) _
    exact kt
  obtain ⟨T13, h13, X13, e13, W13, st13⟩ := putF X5 hx hZ hown (host := "") (Or.inl (hw _ (mgE 31 rfl))) Via.refl e5 F8_5 F6_5 (Or.inr ⟨(hw _ (mgE 32 rfl)), rfl, hnm⟩) (hw _ (mgE 8 rfl)) (ty := .long) (by decide) rfl rfl (g := (mkF m 11 #[.val (.ref a1), .val (.long q2), .second, .val (.long q3), .second, .val (.ref a4), .val (.int p5)] [(.long q3), (.ref a1)])) rfl rfl (hb hby d3_11)
  have F14_13 := F6_5.wr W13
  have F15_13 := Fw5.other W13 (Or.inr (slot_ne (Or.inr (hw _ (mgE 30 rfl))) (Or.inr (hw _ (mgE 32 rfl))) (by decide) (t := .long) (t' := .long) (by decide) (by decide)))
  have F17_13 := F9_5.other W13 (Or.inr (slot_ne (Or.inr (hw _ (mgE 34 rfl))) (Or.inr (hw _ (mgE 32 rfl))) (by decide) (t := (.object "java/lang/String")) (t' := .long) (by decide) (by decide)))
  have F18_13 := F10_5.other W13 (Or.inr (slot_ne (Or.inr (hw _ (mgE 36 rfl))) (Or.inr (hw _ (mgE 32 rfl))) (by decide) (t := .int) (t' := .long) (by decide) (by decide)))
  have Fw13 := F8_5.same W13
  have K13 : Keep h0 h13 [a1] := K5.wr W13 (Or.inl (mgE 0 rfl))
  have pre19 : ∀ t, Steps p.tables e below (T13.setTop (mkF m 14 #[.val (.ref a1), .val (.long q2), .second, .val (.long q3), .second, .val (.ref a4), .val (.int p5)] [])) t → Steps p.tables e below (s₁.setTop (entryFrame m #[(.ref a1), (.long q2), (.long q3), (.ref a4), (.int p5)] 7)) t := fun t kt => pre12 t (st13 t kt)
  have N13 := Fr.snoc X13 N5 g_a1
  have pre20 : ∀ t, Steps p.tables e below (T13.setTop (mkF m 17 #[.val (.ref a1), .val (.long q2), .second, .val (.long q3), .second, .val (.ref a4), .val (.int p5)] [(.ref a4), (.ref a1)])) t → Steps p.tables e below (s₁.setTop (entryFrame m #[(.ref a1), (.long q2), (.long q3), (.ref a4), (.int p5)] 7)) t := fun t kt => by
    refine pre19 t ?_
    refine XS.aloadN X13.here hx rfl (hb hby d3_14) rfl rfl ?_
    show Steps p.tables e below (T13.setTop (mkF m 15 #[.val (.ref a1), .val (.long q2), .second, .val (.long q3), .second, .val (.ref a4), .val (.int p5)] [(.ref a1)])) _
    refine XS.aload X13.here hx rfl (hb hby d3_15) rfl rfl ?_
    show Steps p.tables e below (T13.setTop (mkF m 17 #[.val (.ref a1), .val (.long q2), .second, .val (.long q3), .second, .val (.ref a4), .val (.int p5)] [(.ref a4), (.ref a1)])) _
    exact kt
  obtain ⟨T21, h21, X21, e21, W21, st21⟩ := putF X13 hx hZ hown (host := "") (Or.inl (hw _ (mgE 33 rfl))) Via.refl e13 F17_13 F14_13 (Or.inr ⟨(hw _ (mgE 34 rfl)), rfl, hnm⟩) (hw _ (mgE 8 rfl)) (ty := (.object "java/lang/String")) (by decide) rfl rfl (g := (mkF m 17 #[.val (.ref a1), .val (.long q2), .second, .val (.long q3), .second, .val (.ref a4), .val (.int p5)] [(.ref a4), (.ref a1)])) rfl rfl (hb hby d3_17)
  have F22_21 := F14_13.wr W21
  have F23_21 := F15_13.other W21 (Or.inr (slot_ne (Or.inr (hw _ (mgE 30 rfl))) (Or.inr (hw _ (mgE 34 rfl))) (by decide) (t := .long) (t' := (.object "java/lang/String")) (by decide) (by decide)))
  have F24_21 := Fw13.other W21 (Or.inr (slot_ne (Or.inr (hw _ (mgE 32 rfl))) (Or.inr (hw _ (mgE 34 rfl))) (by decide) (t := .long) (t' := (.object "java/lang/String")) (by decide) (by decide)))
  have F26_21 := F18_13.other W21 (Or.inr (slot_ne (Or.inr (hw _ (mgE 36 rfl))) (Or.inr (hw _ (mgE 34 rfl))) (by decide) (t := .int) (t' := (.object "java/lang/String")) (by decide) (by decide)))
  have Fw21 := F17_13.same W21
  have K21 : Keep h0 h21 [a1] := K13.wr W21 (Or.inl (mgE 0 rfl))
  have pre27 : ∀ t, Steps p.tables e below (T21.setTop (mkF m 20 #[.val (.ref a1), .val (.long q2), .second, .val (.long q3), .second, .val (.ref a4), .val (.int p5)] [])) t → Steps p.tables e below (s₁.setTop (entryFrame m #[(.ref a1), (.long q2), (.long q3), (.ref a4), (.int p5)] 7)) t := fun t kt => pre20 t (st21 t kt)
  have N21 := Fr.snoc X21 N13 g_a1
  have pre28 : ∀ t, Steps p.tables e below (T21.setTop (mkF m 23 #[.val (.ref a1), .val (.long q2), .second, .val (.long q3), .second, .val (.ref a4), .val (.int p5)] [(.int p5), (.ref a1)])) t → Steps p.tables e below (s₁.setTop (entryFrame m #[(.ref a1), (.long q2), (.long q3), (.ref a4), (.int p5)] 7)) t := fun t kt => by
    refine pre27 t ?_
    refine XS.aloadN X21.here hx rfl (hb hby d3_20) rfl rfl ?_
    show Steps p.tables e below (T21.setTop (mkF m 21 #[.val (.ref a1), .val (.long q2), .second, .val (.long q3), .second, .val (.ref a4), .val (.int p5)] [(.ref a1)])) _
    refine XS.iload X21.here hx rfl (hb hby d3_21) rfl ?_
    show Steps p.tables e below (T21.setTop (mkF m 23 #[.val (.ref a1), .val (.long q2), .second, .val (.long q3), .second, .val (.ref a4), .val (.int p5)] [(.int p5), (.ref a1)])) _
    exact kt
  obtain ⟨T29, h29, X29, e29, W29, st29⟩ := putF X21 hx hZ hown (host := "") (Or.inl (hw _ (mgE 35 rfl))) Via.refl e21 F26_21 F22_21 (Or.inr ⟨(hw _ (mgE 36 rfl)), rfl, hnm⟩) (hw _ (mgE 8 rfl)) (ty := .int) (by decide) rfl rfl (g := (mkF m 23 #[.val (.ref a1), .val (.long q2), .second, .val (.long q3), .second, .val (.ref a4), .val (.int p5)] [(.int p5), (.ref a1)])) rfl rfl (hb hby d3_23)
  have F30_29 := F22_21.wr W29
  have F31_29 := F23_21.other W29 (Or.inr (slot_ne (Or.inr (hw _ (mgE 30 rfl))) (Or.inr (hw _ (mgE 36 rfl))) (by decide) (t := .long) (t' := .int) (by decide) (by decide)))
  have F32_29 := F24_21.other W29 (Or.inr (slot_ne (Or.inr (hw _ (mgE 32 rfl))) (Or.inr (hw _ (mgE 36 rfl))) (by decide) (t := .long) (t' := .int) (by decide) (by decide)))
  have F33_29 := Fw21.other W29 (Or.inr (slot_ne (Or.inr (hw _ (mgE 34 rfl))) (Or.inr (hw _ (mgE 36 rfl))) (by decide) (t := (.object "java/lang/String")) (t' := .int) (by decide) (by decide)))
  have Fw29 := F26_21.same W29
  have K29 : Keep h0 h29 [a1] := K21.wr W29 (Or.inl (mgE 0 rfl))
  have pre35 : ∀ t, Steps p.tables e below (T29.setTop (mkF m 26 #[.val (.ref a1), .val (.long q2), .second, .val (.long q3), .second, .val (.ref a4), .val (.int p5)] [])) t → Steps p.tables e below (s₁.setTop (entryFrame m #[(.ref a1), (.long q2), (.long q3), (.ref a4), (.int p5)] 7)) t := fun t kt => pre28 t (st29 t kt)
  have N29 := Fr.snoc X29 N21 g_a1
  obtain ⟨fs, hr, hrun, hended, hW, hsame⟩ := X29.leave (v := none) (fun _ => rfl)
  refine ⟨_, _, pre35 _ ?_, hrun, hended, _, _, rfl, ?_, ⟨_, rfl⟩, hW, hsame.mono (by decide) (by decide)⟩
  · exact X29.returnOut hx Bd.returns (hb hby d3_26) hr
  · show Q3 Z a1 q2 q3 a4 p5 u_first_a1 u_last_a1 u_donor_a1 u_typeOfNumber_a1 h0 n0 _ T29.heap _
    rw [e29]
    exact ⟨rfl, N29, K29, F30_29, F33_29, F31_29, F32_29, Fw29⟩
theorem d6_0 : decode prog_62_method_4_code 0 = .ok (.aload_n 0, 1) := by decide +kernel
theorem d6_1 : decode prog_62_method_4_code 1 = .ok (.getfield 7, 3) := by decide +kernel
theorem d6_4 : decode prog_62_method_4_code 4 = .ok (.lload_n 1, 1) := by decide +kernel
theorem d6_5 : decode prog_62_method_4_code 5 = .ok (.lcmp, 1) := by decide +kernel
theorem d6_6 : decode prog_62_method_4_code 6 = .ok (.ifCond .gt 16, 3) := by decide +kernel
theorem d6_9 : decode prog_62_method_4_code 9 = .ok (.lload_n 1, 1) := by decide +kernel
theorem d6_10 : decode prog_62_method_4_code 10 = .ok (.aload_n 0, 1) := by decide +kernel
theorem d6_11 : decode prog_62_method_4_code 11 = .ok (.getfield 13, 3) := by decide +kernel
theorem d6_14 : decode prog_62_method_4_code 14 = .ok (.lcmp, 1) := by decide +kernel
theorem d6_15 : decode prog_62_method_4_code 15 = .ok (.ifCond .gt 7, 3) := by decide +kernel
theorem d6_18 : decode prog_62_method_4_code 18 = .ok (.iconst 1, 1) := by decide +kernel
theorem d6_19 : decode prog_62_method_4_code 19 = .ok (.goto 4, 3) := by decide +kernel
theorem d6_22 : decode prog_62_method_4_code 22 = .ok (.iconst 0, 1) := by decide +kernel
theorem d6_23 : decode prog_62_method_4_code 23 = .ok (.ireturn, 1) := by decide +kernel
theorem ef_6 (m : MethodId) (x0 : Addr) (x1 : Int64) : entryFrame m #[(.ref x0), (.long x1)] 3 = mkF m 0 #[.val (.ref x0), .val (.long x1), .second] [] := by first | (simp [entryFrame, mkF, argsToLocals, Value.category]; done) | rfl
def r6 (q2 : Int64) (w_first_a1 : Int64) (w_last_a1 : Int64) : Int32 := (if (0 : Int32) < (lcmpW w_first_a1 q2) then (0 : Int32) else (if (0 : Int32) < (lcmpW q2 w_last_a1) then (0 : Int32) else (1 : Int32)))
def Q6 (Z : State) (a1 : Addr) (q2 : Int64) (w_first_a1 : Int64) (w_last_a1 : Int64) (h0 : Heap) (n0 : Nat) (v : Option Value) (h : Heap) (L : List Loc) : Prop := v = some (.int (r6 q2 w_first_a1 w_last_a1)) ∧ Fr n0 L ∧ h = h0
set_option maxRecDepth 65536 in
set_option maxHeartbeats 40000000 in
theorem rm6 (l : Launch) (Z : State) (a0 : Array Value) (hw : ∀ d ∈ tables_1, d.before a0 Z = true) (ws : List Jvm.Cond) (a1 : Addr) (q2 : Int64) (w_first_a1 : Int64) (w_last_a1 : Int64) (h0 : Heap) (n0 : Nat) (Z0 : n0 ≤ h0.size) (F_first_a1 : Fld Z h0 a1 "com/example/transnum/transnum/model/NumberRange" "first" "J" (.long w_first_a1)) (F_last_a1 : Fld Z h0 a1 "com/example/transnum/transnum/model/NumberRange" "last" "J" (.long w_last_a1)) :
    MetFree l (⟨"com/example/transnum/transnum/model/NumberRange", "contains", "(J)Z"⟩ : MethodName) (head1 (Jvm.Cond.code (⟨"com/example/transnum/transnum/model/NumberRange", "contains", "(J)Z"⟩ : MethodName) prog_62_method_4_code 3 (some .boolean) :: ws) ({ frames := 0, cells := 0, slots := 0, locals := 0 } : Room)) (fun a U => a = #[(.ref a1), (.long q2)] ∧ Z.Warmed39 U.vm ∧ U.heap = h0) (fun _ _ _ _ _ => True) (fun _ U o U' => ∃ v L, o = .returned v ∧ Q6 Z a1 q2 w_first_a1 w_last_a1 h0 n0 v U'.heap L ∧ FrameEnd U o U' L ({ frames := 0, cells := 0, slots := 0, locals := 0 } : Room).cells ({ frames := 0, cells := 0, slots := 0, locals := 0 } : Room).slots) := by
  refine MetFree.of_bodySF (plainFor_of_name pn_com_example_transnum_transnum_model_NumberRange) hisR ?_
  intro p e s m args below meth c s₁ Bd hml0 hP hK
  obtain ⟨rfl, hZ, hh⟩ := hP
  have hx := Bd.exec
  have hby := Bd.bytes
  have hml : c.maxLocals = 3 := hml0
  have hown : s.vm.findClass "com/example/transnum/transnum/model/NumberRange" = some m.cls := findClass_of_methodNamed Bd.named
  have hnm := (name_of_methodNamed Bd.named Bd.method).1
  have X0 : Stand p l e ({ frames := 0, cells := 0, slots := 0, locals := 0 } : Room) s m #[(.ref a1), (.long q2)] below meth c s₁ [] 0 0 := Stand.of_body Bd
  have e0 : s₁.heap = h0 := by rw [← hh, Bd.state]; rfl
  have N0 := Fr.nil n0
  have pre0 : ∀ t, Steps p.tables e below (s₁.setTop (mkF m 0 #[.val (.ref a1), .val (.long q2), .second] [])) t → Steps p.tables e below (s₁.setTop (entryFrame m #[(.ref a1), (.long q2)] 3)) t := fun t k => castTop (ef_6 m a1 q2) k
  have pre1 : ∀ t, Steps p.tables e below (s₁.setTop (mkF m 1 #[.val (.ref a1), .val (.long q2), .second] [(.ref a1)])) t → Steps p.tables e below (s₁.setTop (entryFrame m #[(.ref a1), (.long q2)] 3)) t := fun t kt => by
    refine pre0 t ?_
    refine XS.aloadN X0.here hx rfl (hb hby d6_0) rfl rfl ?_
    show Steps p.tables e below (s₁.setTop (mkF m 1 #[.val (.ref a1), .val (.long q2), .second] [(.ref a1)])) _
    exact kt
  obtain ⟨T2, X2, e2, st2⟩ := getF X0 hx hZ hown (host := "") (Or.inl (hw _ (mgE 29 rfl))) Via.refl e0 F_first_a1 (g := (mkF m 1 #[.val (.ref a1), .val (.long q2), .second] [(.ref a1)])) rfl rfl (hb hby d6_1)
  have pre3 : ∀ t, Steps p.tables e below (T2.setTop (mkF m 4 #[.val (.ref a1), .val (.long q2), .second] [(.long w_first_a1)])) t → Steps p.tables e below (s₁.setTop (entryFrame m #[(.ref a1), (.long q2)] 3)) t := fun t kt => pre1 t (st2 t kt)
  by_cases hc6 : (0 : Int32) < (lcmpW w_first_a1 q2)
  · skip
    have pre4 : ∀ t, Steps p.tables e below (T2.setTop (mkF m 23 #[.val (.ref a1), .val (.long q2), .second] [(.int (0 : Int32))])) t → Steps p.tables e below (s₁.setTop (entryFrame m #[(.ref a1), (.long q2)] 3)) t := fun t kt => by
      refine pre3 t ?_
      refine XS.lloadN X2.here hx rfl (hb hby d6_4) rfl ?_
      show Steps p.tables e below (T2.setTop (mkF m 5 #[.val (.ref a1), .val (.long q2), .second] [(.long q2), (.long w_first_a1)])) _
      refine XS.lcmp X2.here hx rfl (hb hby d6_5) rfl ?_
      show Steps p.tables e below (T2.setTop (mkF m 6 #[.val (.ref a1), .val (.long q2), .second] [(.int (lcmpW w_first_a1 q2))])) _
      refine XS.ifYes X2.here hx rfl (pc0 := 6) (pc' := 22) rfl (hb hby d6_6) rfl ((if0 _ _).trans (tlt hc6).2.2.1) (by decide) (by decide) ?_
      show Steps p.tables e below (T2.setTop (mkF m 22 #[.val (.ref a1), .val (.long q2), .second] [])) _
      refine XS.iconst X2.here hx rfl (hb hby d6_22) ?_
      show Steps p.tables e below (T2.setTop (mkF m 23 #[.val (.ref a1), .val (.long q2), .second] [(.int (0 : Int32))])) _
      exact kt
    obtain ⟨fs, hr, hrun, hended, hW, hsame⟩ := X2.leave (v := some (.int (0 : Int32))) (fun h => by rw [Bd.returns] at h; cases h)
    refine ⟨_, _, pre4 _ ?_, hrun, hended, _, _, rfl, ?_, ⟨_, rfl⟩, hW, hsame.mono (by decide) (by decide)⟩
    · exact retN X2 hx (t := .boolean) Bd.returns (by simp) (hb hby d6_23) hr
    · show Q6 Z a1 q2 w_first_a1 w_last_a1 h0 n0 _ T2.heap _
      rw [e2]
      exact ⟨by first | rfl | (simp only [r6, if_pos hc6]), N0, rfl⟩
  · skip
    have pre5 : ∀ t, Steps p.tables e below (T2.setTop (mkF m 11 #[.val (.ref a1), .val (.long q2), .second] [(.ref a1), (.long q2)])) t → Steps p.tables e below (s₁.setTop (entryFrame m #[(.ref a1), (.long q2)] 3)) t := fun t kt => by
      refine pre3 t ?_
      refine XS.lloadN X2.here hx rfl (hb hby d6_4) rfl ?_
      show Steps p.tables e below (T2.setTop (mkF m 5 #[.val (.ref a1), .val (.long q2), .second] [(.long q2), (.long w_first_a1)])) _
      refine XS.lcmp X2.here hx rfl (hb hby d6_5) rfl ?_
      show Steps p.tables e below (T2.setTop (mkF m 6 #[.val (.ref a1), .val (.long q2), .second] [(.int (lcmpW w_first_a1 q2))])) _
      refine XS.ifNo X2.here hx rfl (hb hby d6_6) rfl ((if0 _ _).trans (flt hc6).2.2.1) ?_
      show Steps p.tables e below (T2.setTop (mkF m 9 #[.val (.ref a1), .val (.long q2), .second] [])) _
      refine XS.lloadN X2.here hx rfl (hb hby d6_9) rfl ?_
      show Steps p.tables e below (T2.setTop (mkF m 10 #[.val (.ref a1), .val (.long q2), .second] [(.long q2)])) _
      refine XS.aloadN X2.here hx rfl (hb hby d6_10) rfl rfl ?_
      show Steps p.tables e below (T2.setTop (mkF m 11 #[.val (.ref a1), .val (.long q2), .second] [(.ref a1), (.long q2)])) _
      exact kt
    obtain ⟨T6, X6, e6, st6⟩ := getF X2 hx hZ hown (host := "") (Or.inl (hw _ (mgE 31 rfl))) Via.refl e2 F_last_a1 (g := (mkF m 11 #[.val (.ref a1), .val (.long q2), .second] [(.ref a1), (.long q2)])) rfl rfl (hb hby d6_11)
    have pre7 : ∀ t, Steps p.tables e below (T6.setTop (mkF m 14 #[.val (.ref a1), .val (.long q2), .second] [(.long w_last_a1), (.long q2)])) t → Steps p.tables e below (s₁.setTop (entryFrame m #[(.ref a1), (.long q2)] 3)) t := fun t kt => pre5 t (st6 t kt)
    by_cases hc15 : (0 : Int32) < (lcmpW q2 w_last_a1)
    · skip
      have pre8 : ∀ t, Steps p.tables e below (T6.setTop (mkF m 23 #[.val (.ref a1), .val (.long q2), .second] [(.int (0 : Int32))])) t → Steps p.tables e below (s₁.setTop (entryFrame m #[(.ref a1), (.long q2)] 3)) t := fun t kt => by
        refine pre7 t ?_
        refine XS.lcmp X6.here hx rfl (hb hby d6_14) rfl ?_
        show Steps p.tables e below (T6.setTop (mkF m 15 #[.val (.ref a1), .val (.long q2), .second] [(.int (lcmpW q2 w_last_a1))])) _
        refine XS.ifYes X6.here hx rfl (pc0 := 15) (pc' := 22) rfl (hb hby d6_15) rfl ((if0 _ _).trans (tlt hc15).2.2.1) (by decide) (by decide) ?_
        show Steps p.tables e below (T6.setTop (mkF m 22 #[.val (.ref a1), .val (.long q2), .second] [])) _
        refine XS.iconst X6.here hx rfl (hb hby d6_22) ?_
        show Steps p.tables e below (T6.setTop (mkF m 23 #[.val (.ref a1), .val (.long q2), .second] [(.int (0 : Int32))])) _
        exact kt
      obtain ⟨fs, hr, hrun, hended, hW, hsame⟩ := X6.leave (v := some (.int (0 : Int32))) (fun h => by rw [Bd.returns] at h; cases h)
      refine ⟨_, _, pre8 _ ?_, hrun, hended, _, _, rfl, ?_, ⟨_, rfl⟩, hW, hsame.mono (by decide) (by decide)⟩
      · exact retN X6 hx (t := .boolean) Bd.returns (by simp) (hb hby d6_23) hr
      · show Q6 Z a1 q2 w_first_a1 w_last_a1 h0 n0 _ T6.heap _
        rw [e6]
        exact ⟨by first | rfl | (simp only [r6, if_neg hc6, if_pos hc15]), N0, rfl⟩
    · skip
      have pre9 : ∀ t, Steps p.tables e below (T6.setTop (mkF m 23 #[.val (.ref a1), .val (.long q2), .second] [(.int (1 : Int32))])) t → Steps p.tables e below (s₁.setTop (entryFrame m #[(.ref a1), (.long q2)] 3)) t := fun t kt => by
        refine pre7 t ?_
        refine XS.lcmp X6.here hx rfl (hb hby d6_14) rfl ?_
        show Steps p.tables e below (T6.setTop (mkF m 15 #[.val (.ref a1), .val (.long q2), .second] [(.int (lcmpW q2 w_last_a1))])) _
        refine XS.ifNo X6.here hx rfl (hb hby d6_15) rfl ((if0 _ _).trans (flt hc15).2.2.1) ?_
        show Steps p.tables e below (T6.setTop (mkF m 18 #[.val (.ref a1), .val (.long q2), .second] [])) _
        refine XS.iconst X6.here hx rfl (hb hby d6_18) ?_
        show Steps p.tables e below (T6.setTop (mkF m 19 #[.val (.ref a1), .val (.long q2), .second] [(.int (1 : Int32))])) _
        refine XS.goto X6.here hx rfl (pc0 := 19) (pc' := 23) rfl (hb hby d6_19) (by decide) (by decide) ?_
        show Steps p.tables e below (T6.setTop (mkF m 23 #[.val (.ref a1), .val (.long q2), .second] [(.int (1 : Int32))])) _
        exact kt
      obtain ⟨fs, hr, hrun, hended, hW, hsame⟩ := X6.leave (v := some (.int (1 : Int32))) (fun h => by rw [Bd.returns] at h; cases h)
      refine ⟨_, _, pre9 _ ?_, hrun, hended, _, _, rfl, ?_, ⟨_, rfl⟩, hW, hsame.mono (by decide) (by decide)⟩
      · exact retN X6 hx (t := .boolean) Bd.returns (by simp) (hb hby d6_23) hr
      · show Q6 Z a1 q2 w_first_a1 w_last_a1 h0 n0 _ T6.heap _
        rw [e6]
        exact ⟨by first | rfl | (simp only [r6, if_neg hc6, if_neg hc15]), N0, rfl⟩

theorem own_min (a b : Int64) : (r1 a b).toInt ≤ a.toInt ∧ (r1 a b).toInt ≤ b.toInt ∧ ((r1 a b).toInt = a.toInt ∨ (r1 a b).toInt = b.toInt) := by
  simp only [r1, lw_gt, Int64.lt_iff_toInt_lt]
  split <;> omega
theorem own_max (a b : Int64) : a.toInt ≤ (r2 a b).toInt ∧ b.toInt ≤ (r2 a b).toInt ∧ ((r2 a b).toInt = a.toInt ∨ (r2 a b).toInt = b.toInt) := by
  simp only [r2, lw_lt, Int64.lt_iff_toInt_lt]
  split <;> omega
theorem own_flip (x : Int64) : (x ^^^ (-9223372036854775808 : Int64)).toInt = x.toInt % 18446744073709551616 - 9223372036854775808 := by
  have hx := x.toBitVec.isLt
  show (x.toBitVec ^^^ (-9223372036854775808 : Int64).toBitVec).toInt = x.toBitVec.toInt % 18446744073709551616 - 9223372036854775808
  rw [BitVec.toInt_eq_toNat_cond, BitVec.toInt_eq_toNat_cond, BitVec.toNat_xor, show (-9223372036854775808 : Int64).toBitVec.toNat = 2 ^ 63 from by decide]
  generalize x.toBitVec.toNat = n at hx ⊢
  by_cases p : n < 2 ^ 63
  · rw [Jvm.FP.V.xor_low p]
    split <;> split <;> omega
  · have e := Jvm.FP.V.xor_high (x := n - 2 ^ 63) (n := 63) (by omega)
    rw [show 2 ^ 63 + (n - 2 ^ 63) = n from by omega] at e
    rw [e]
    split <;> split <;> omega
theorem own_rng (x f g : Int64) (h : f.toInt ≤ g.toInt) : r6 x f g = (if (0 : Int32) < (lcmpW ((x - f) ^^^ (-9223372036854775808 : Int64)) ((g - f) ^^^ (-9223372036854775808 : Int64))) then (0 : Int32) else (1 : Int32)) := by
  have a1 := c_lsub x f
  have a2 := c_lsub g f
  have r1 := rng64 x
  have r2 := rng64 f
  have r3 := rng64 g
  have r4 := rng64 (x - f)
  have r5 := rng64 (g - f)
  simp only [r6, lw_gt, Int64.lt_iff_toInt_lt, own_flip]
  by_cases p : x.toInt < f.toInt
  · rw [if_pos p, if_pos (by omega)]
  · rw [if_neg p]
    by_cases q : g.toInt < x.toInt
    · rw [if_pos q, if_pos (by omega)]
    · rw [if_neg q, if_neg (by omega)]

theorem pn_com_example_transnum_transnum_model_NumberRangeContainsPinLaw : plainName "com/example/transnum/transnum/model/NumberRangeContainsPinLaw" = true := by first | (simp [plainName, overriddenIn]; done) | decide +kernel
theorem pd__JJ_J : parseMethodDescriptor "(JJ)J" = some ⟨[.long, .long], some .long⟩ := by decide +kernel
theorem pd__JJLjava_lang_String_I_V : parseMethodDescriptor "(JJLjava/lang/String;I)V" = some ⟨[.long, .long, (.object "java/lang/String"), .int], none⟩ := by decide +kernel
theorem pd__J_Z : parseMethodDescriptor "(J)Z" = some ⟨[.long], some .boolean⟩ := by decide +kernel
theorem ef_0 (m : MethodId) (x0 : Int64) (x1 : Int64) (x2 : Int64) (x3 : Int32) : entryFrame m #[(.long x0), (.long x1), (.long x2), (.int x3)] maxLocals = mkF m 0 #[.val (.long x0), .second, .val (.long x1), .second, .val (.long x2), .second, .val (.int x3), .unset, .unset, .unset, .unset, .unset, .unset, .unset, .unset, .unset] [] := by first | (simp [entryFrame, mkF, argsToLocals, Value.category, maxLocals]; done) | rfl
def Q0 (Z : State) (q1 : Int64) (q2 : Int64) (q3 : Int64) (p4 : Int32) (h0 : Heap) (n0 : Nat) (v : Option Value) (h : Heap) (L : List Loc) : Prop := v = some (.int 1) ∧ Fr n0 L
set_option maxRecDepth 65536 in
set_option maxHeartbeats 40000000 in
theorem rm0 (l : Launch) (Z : State) (a0 : Array Value) (hw : ∀ d ∈ tables_1, d.before a0 Z = true) (ws : List Jvm.Cond) (q1 : Int64) (q2 : Int64) (q3 : Int64) (p4 : Int32) (h0 : Heap) (n0 : Nat) (Z0 : n0 ≤ h0.size)  :
    MetFree l x (head1 (Jvm.Cond.code x code maxLocals ret :: ws) room_1) (fun a U => a = #[(.long q1), (.long q2), (.long q3), (.int p4)] ∧ Z.Warmed39 U.vm ∧ U.heap = h0) (fun _ _ _ _ _ => True) (fun _ U o U' => ∃ v L, o = .returned v ∧ Q0 Z q1 q2 q3 p4 h0 n0 v U'.heap L ∧ ReturnedEndW U o U' L room_1.cells room_1.slots) := by
  refine MetFree.of_bodySF (plainFor_of_name pn_com_example_transnum_transnum_model_NumberRangeContainsPinLaw) hisR ?_
  intro p e s m args below meth c s₁ Bd hml0 hP hK
  obtain ⟨rfl, hZ, hh⟩ := hP
  have hx := Bd.exec
  have hby := Bd.bytes
  have hml : c.maxLocals = 16 := hml0
  have hown : s.vm.findClass "com/example/transnum/transnum/model/NumberRangeContainsPinLaw" = some m.cls := findClass_of_methodNamed Bd.named
  have hnm := (name_of_methodNamed Bd.named Bd.method).1
  have X0 : Stand p l e room_1 s m #[(.long q1), (.long q2), (.long q3), (.int p4)] below meth c s₁ [] 0 0 := Stand.of_body Bd
  have e0 : s₁.heap = h0 := by rw [← hh, Bd.state]; rfl
  have N0 := Fr.nil n0
  have pre0 : ∀ t, Steps p.tables e below (s₁.setTop (mkF m 0 #[.val (.long q1), .second, .val (.long q2), .second, .val (.long q3), .second, .val (.int p4), .unset, .unset, .unset, .unset, .unset, .unset, .unset, .unset, .unset] [])) t → Steps p.tables e below (s₁.setTop (entryFrame m #[(.long q1), (.long q2), (.long q3), (.int p4)] maxLocals)) t := fun t k => castTop (ef_0 m q1 q2 q3 p4) k
  have pre1 : ∀ t, Steps p.tables e below (s₁.setTop (mkF m 2 #[.val (.long q1), .second, .val (.long q2), .second, .val (.long q3), .second, .val (.int p4), .unset, .unset, .unset, .unset, .unset, .unset, .unset, .unset, .unset] [(.long q2), (.long q1)])) t → Steps p.tables e below (s₁.setTop (entryFrame m #[(.long q1), (.long q2), (.long q3), (.int p4)] maxLocals)) t := fun t kt => by
    refine pre0 t ?_
    refine XS.lloadN X0.here hx rfl (hb hby at_0) rfl ?_
    show Steps p.tables e below (s₁.setTop (mkF m 1 #[.val (.long q1), .second, .val (.long q2), .second, .val (.long q3), .second, .val (.int p4), .unset, .unset, .unset, .unset, .unset, .unset, .unset, .unset, .unset] [(.long q1)])) _
    refine XS.lloadN X0.here hx rfl (hb hby at_1) rfl ?_
    show Steps p.tables e below (s₁.setTop (mkF m 2 #[.val (.long q1), .second, .val (.long q2), .second, .val (.long q3), .second, .val (.int p4), .unset, .unset, .unset, .unset, .unset, .unset, .unset, .unset, .unset] [(.long q2), (.long q1)])) _
    exact kt
  obtain ⟨_, _, ⟨T2, L2, k2, n2⟩, -, X2, ⟨Lc2, hQ2, l2, y2, z2⟩, st2⟩ := Jvm.LawKit.callS X0 hx (y := (⟨"java/lang/Math", "min", "(JJ)J"⟩ : MethodName)) hown (mvT hZ (hw _ (mgE 0 rfl))) (mvT hZ (hw _ (mgE 1 rfl))) (mvT hZ (hw _ (mgE 2 rfl))) (mvT hZ (hw _ (mgE 3 rfl))) (by decide) (backOf (W := 0) (rm1 l Z a0 hw [] q1 q2 h0 n0 Z0 ) hZ (hw _ (mgE 3 rfl)) (hw _ (mgE 2 rfl)) (by decide) (by decide)) (g := (mkF m 2 #[.val (.long q1), .second, .val (.long q2), .second, .val (.long q3), .second, .val (.int p4), .unset, .unset, .unset, .unset, .unset, .unset, .unset, .unset, .unset] [(.long q2), (.long q1)])) rfl (by rw [hml]; rfl) (argsL := [(.long q1), (.long q2)]) (rest := []) (lenOf pd__JJ_J rfl) rfl (by show 2 * 0 + _ ≤ _; exact Nat.le_of_eq rfl) (hb hby at_2) (fun _ _ => ⟨rfl, e0, (by decide : 0 + 0 ≤ _), (by decide : 0 + 0 ≤ _)⟩)
  dsimp only [Pt.U, Pt.locs, Pt.cells, Pt.slots] at X2 l2 y2 z2 st2 hQ2
  subst l2 y2 z2
  obtain ⟨rfl, N2q, e2⟩ := hQ2
  have pre3 : ∀ t, Steps p.tables e below (T2.setTop (mkF m 5 #[.val (.long q1), .second, .val (.long q2), .second, .val (.long q3), .second, .val (.int p4), .unset, .unset, .unset, .unset, .unset, .unset, .unset, .unset, .unset] [(.long (r1 q1 q2))])) t → Steps p.tables e below (s₁.setTop (entryFrame m #[(.long q1), (.long q2), (.long q3), (.int p4)] maxLocals)) t := fun t kt => pre1 t (st2 t kt)
  have N2 := Fr.app N0 N2q
  have pre4 : ∀ t, Steps p.tables e below (T2.setTop (mkF m 7 #[.val (.long q1), .second, .val (.long q2), .second, .val (.long q3), .second, .val (.int p4), .val (.long (r1 q1 q2)), .second, .unset, .unset, .unset, .unset, .unset, .unset, .unset] [])) t → Steps p.tables e below (s₁.setTop (entryFrame m #[(.long q1), (.long q2), (.long q3), (.int p4)] maxLocals)) t := fun t kt => by
    refine pre3 t ?_
    refine XS.lstore X2.here hx rfl (hb hby at_5) rfl (l' := #[.val (.long q1), .second, .val (.long q2), .second, .val (.long q3), .second, .val (.int p4), .val (.long (r1 q1 q2)), .second, .unset, .unset, .unset, .unset, .unset, .unset, .unset]) rfl ?_
    show Steps p.tables e below (T2.setTop (mkF m 7 #[.val (.long q1), .second, .val (.long q2), .second, .val (.long q3), .second, .val (.int p4), .val (.long (r1 q1 q2)), .second, .unset, .unset, .unset, .unset, .unset, .unset, .unset] [])) _
    exact kt
  obtain ⟨fst, h_fst⟩ : ∃ z, z = (r1 q1 q2) := ⟨_, rfl⟩
  rw [← h_fst] at pre4
  have pre5 : ∀ t, Steps p.tables e below (T2.setTop (mkF m 9 #[.val (.long q1), .second, .val (.long q2), .second, .val (.long q3), .second, .val (.int p4), .val (.long fst), .second, .unset, .unset, .unset, .unset, .unset, .unset, .unset] [(.long q2), (.long q1)])) t → Steps p.tables e below (s₁.setTop (entryFrame m #[(.long q1), (.long q2), (.long q3), (.int p4)] maxLocals)) t := fun t kt => by
    refine pre4 t ?_
    refine XS.lloadN X2.here hx rfl (hb hby at_7) rfl ?_
    show Steps p.tables e below (T2.setTop (mkF m 8 #[.val (.long q1), .second, .val (.long q2), .second, .val (.long q3), .second, .val (.int p4), .val (.long fst), .second, .unset, .unset, .unset, .unset, .unset, .unset, .unset] [(.long q1)])) _
    refine XS.lloadN X2.here hx rfl (hb hby at_8) rfl ?_
    show Steps p.tables e below (T2.setTop (mkF m 9 #[.val (.long q1), .second, .val (.long q2), .second, .val (.long q3), .second, .val (.int p4), .val (.long fst), .second, .unset, .unset, .unset, .unset, .unset, .unset, .unset] [(.long q2), (.long q1)])) _
    exact kt
  obtain ⟨_, _, ⟨T6, L6, k6, n6⟩, -, X6, ⟨Lc6, hQ6, l6, y6, z6⟩, st6⟩ := Jvm.LawKit.callS X2 hx (y := (⟨"java/lang/Math", "max", "(JJ)J"⟩ : MethodName)) hown (mvT hZ (hw _ (mgE 4 rfl))) (mvT hZ (hw _ (mgE 5 rfl))) (mvT hZ (hw _ (mgE 2 rfl))) (mvT hZ (hw _ (mgE 6 rfl))) (by decide) (backOf (W := 0) (rm2 l Z a0 hw [] q1 q2 h0 n0 Z0 ) hZ (hw _ (mgE 6 rfl)) (hw _ (mgE 2 rfl)) (by decide) (by decide)) (g := (mkF m 9 #[.val (.long q1), .second, .val (.long q2), .second, .val (.long q3), .second, .val (.int p4), .val (.long fst), .second, .unset, .unset, .unset, .unset, .unset, .unset, .unset] [(.long q2), (.long q1)])) rfl (by rw [hml]; rfl) (argsL := [(.long q1), (.long q2)]) (rest := []) (lenOf pd__JJ_J rfl) rfl (by show 2 * 0 + _ ≤ _; exact Nat.le_of_eq rfl) (hb hby at_9) (fun _ _ => ⟨rfl, e2, (by decide : 0 + 0 ≤ _), (by decide : 0 + 0 ≤ _)⟩)
  dsimp only [Pt.U, Pt.locs, Pt.cells, Pt.slots] at X6 l6 y6 z6 st6 hQ6
  subst l6 y6 z6
  obtain ⟨rfl, N6q, e6⟩ := hQ6
  have pre7 : ∀ t, Steps p.tables e below (T6.setTop (mkF m 12 #[.val (.long q1), .second, .val (.long q2), .second, .val (.long q3), .second, .val (.int p4), .val (.long fst), .second, .unset, .unset, .unset, .unset, .unset, .unset, .unset] [(.long (r2 q1 q2))])) t → Steps p.tables e below (s₁.setTop (entryFrame m #[(.long q1), (.long q2), (.long q3), (.int p4)] maxLocals)) t := fun t kt => pre5 t (st6 t kt)
  have N6 := Fr.app N2 N6q
  have pre8 : ∀ t, Steps p.tables e below (T6.setTop (mkF m 14 #[.val (.long q1), .second, .val (.long q2), .second, .val (.long q3), .second, .val (.int p4), .val (.long fst), .second, .val (.long (r2 q1 q2)), .second, .unset, .unset, .unset, .unset, .unset] [])) t → Steps p.tables e below (s₁.setTop (entryFrame m #[(.long q1), (.long q2), (.long q3), (.int p4)] maxLocals)) t := fun t kt => by
    refine pre7 t ?_
    refine XS.lstore X6.here hx rfl (hb hby at_12) rfl (l' := #[.val (.long q1), .second, .val (.long q2), .second, .val (.long q3), .second, .val (.int p4), .val (.long fst), .second, .val (.long (r2 q1 q2)), .second, .unset, .unset, .unset, .unset, .unset]) rfl ?_
    show Steps p.tables e below (T6.setTop (mkF m 14 #[.val (.long q1), .second, .val (.long q2), .second, .val (.long q3), .second, .val (.int p4), .val (.long fst), .second, .val (.long (r2 q1 q2)), .second, .unset, .unset, .unset, .unset, .unset] [])) _
    exact kt
  obtain ⟨lst, h_lst⟩ : ∃ z, z = (r2 q1 q2) := ⟨_, rfl⟩
  rw [← h_lst] at pre8
  have ord : fst.toInt ≤ lst.toInt := by rw [h_fst, h_lst]; have := own_min q1 q2; have := own_max q1 q2; omega
  have pre9 : ∀ t, Steps p.tables e below (T6.setTop (mkF m 21 #[.val (.long q1), .second, .val (.long q2), .second, .val (.long q3), .second, .val (.int p4), .val (.long fst), .second, .val (.long lst), .second, .val (.int (p4 &&& (7 : Int32))), .unset, .unset, .unset, .unset] [])) t → Steps p.tables e below (s₁.setTop (entryFrame m #[(.long q1), (.long q2), (.long q3), (.int p4)] maxLocals)) t := fun t kt => by
    refine pre8 t ?_
    refine XS.iload X6.here hx rfl (hb hby at_14) rfl ?_
    show Steps p.tables e below (T6.setTop (mkF m 16 #[.val (.long q1), .second, .val (.long q2), .second, .val (.long q3), .second, .val (.int p4), .val (.long fst), .second, .val (.long lst), .second, .unset, .unset, .unset, .unset, .unset] [(.int p4)])) _
    refine XS.bipush X6.here hx rfl (hb hby at_16) ?_
    show Steps p.tables e below (T6.setTop (mkF m 18 #[.val (.long q1), .second, .val (.long q2), .second, .val (.long q3), .second, .val (.int p4), .val (.long fst), .second, .val (.long lst), .second, .unset, .unset, .unset, .unset, .unset] [(.int (7 : Int32)), (.int p4)])) _
    refine XS.iand X6.here hx rfl (hb hby at_18) rfl ?_
    show Steps p.tables e below (T6.setTop (mkF m 19 #[.val (.long q1), .second, .val (.long q2), .second, .val (.long q3), .second, .val (.int p4), .val (.long fst), .second, .val (.long lst), .second, .unset, .unset, .unset, .unset, .unset] [(.int (p4 &&& (7 : Int32)))])) _
    refine XS.istore X6.here hx rfl (hb hby at_19) rfl (l' := #[.val (.long q1), .second, .val (.long q2), .second, .val (.long q3), .second, .val (.int p4), .val (.long fst), .second, .val (.long lst), .second, .val (.int (p4 &&& (7 : Int32))), .unset, .unset, .unset, .unset]) rfl ?_
    show Steps p.tables e below (T6.setTop (mkF m 21 #[.val (.long q1), .second, .val (.long q2), .second, .val (.long q3), .second, .val (.int p4), .val (.long fst), .second, .val (.long lst), .second, .val (.int (p4 &&& (7 : Int32))), .unset, .unset, .unset, .unset] [])) _
    exact kt
  obtain ⟨sel, h_sel⟩ : ∃ z, z = (p4 &&& (7 : Int32)) := ⟨_, rfl⟩
  rw [← h_sel] at pre9
  have pre10 : ∀ t, Steps p.tables e below (T6.setTop (mkF m 23 #[.val (.long q1), .second, .val (.long q2), .second, .val (.long q3), .second, .val (.int p4), .val (.long fst), .second, .val (.long lst), .second, .val (.int sel), .unset, .unset, .unset, .unset] [(.int sel)])) t → Steps p.tables e below (s₁.setTop (entryFrame m #[(.long q1), (.long q2), (.long q3), (.int p4)] maxLocals)) t := fun t kt => by
    refine pre9 t ?_
    refine XS.iload X6.here hx rfl (hb hby at_21) rfl ?_
    show Steps p.tables e below (T6.setTop (mkF m 23 #[.val (.long q1), .second, .val (.long q2), .second, .val (.long q3), .second, .val (.int p4), .val (.long fst), .second, .val (.long lst), .second, .val (.int sel), .unset, .unset, .unset, .unset] [(.int sel)])) _
    exact kt
  have pre11 : ∀ t, Steps p.tables e below (T6.setTop (mkF m 110 #[.val (.long q1), .second, .val (.long q2), .second, .val (.long q3), .second, .val (.int p4), .val (.long fst), .second, .val (.long lst), .second, .val (.int sel), .val (.long (if sel = (0 : Int32) then (fst - (1 : Int64)) else (if sel = (1 : Int32) then fst else (if sel = (2 : Int32) then (fst + (1 : Int64)) else (if sel = (3 : Int32) then (lst - (1 : Int64)) else (if sel = (4 : Int32) then lst else (if sel = (5 : Int32) then (lst + (1 : Int64)) else q3))))))), .second, .unset, .unset] [])) t → Steps p.tables e below (s₁.setTop (entryFrame m #[(.long q1), (.long q2), (.long q3), (.int p4)] maxLocals)) t := fun t kt => by
    by_cases hc23 : sel = (0 : Int32)
    · skip
      try simp only [if_pos hc23] at kt
      refine pre10 t ?_
      refine XS.ifNo X6.here hx rfl (hb hby at_23) rfl ((if0 _ _).trans (teq hc23).2) ?_
      show Steps p.tables e below (T6.setTop (mkF m 26 #[.val (.long q1), .second, .val (.long q2), .second, .val (.long q3), .second, .val (.int p4), .val (.long fst), .second, .val (.long lst), .second, .val (.int sel), .unset, .unset, .unset, .unset] [])) _
      refine XS.lload X6.here hx rfl (hb hby at_26) rfl ?_
      show Steps p.tables e below (T6.setTop (mkF m 28 #[.val (.long q1), .second, .val (.long q2), .second, .val (.long q3), .second, .val (.int p4), .val (.long fst), .second, .val (.long lst), .second, .val (.int sel), .unset, .unset, .unset, .unset] [(.long fst)])) _
      refine XS.lconst X6.here hx rfl (hb hby at_28) ?_
      show Steps p.tables e below (T6.setTop (mkF m 29 #[.val (.long q1), .second, .val (.long q2), .second, .val (.long q3), .second, .val (.int p4), .val (.long fst), .second, .val (.long lst), .second, .val (.int sel), .unset, .unset, .unset, .unset] [(.long (1 : Int64)), (.long fst)])) _
      refine XS.lsub X6.here hx rfl (hb hby at_29) rfl ?_
      show Steps p.tables e below (T6.setTop (mkF m 30 #[.val (.long q1), .second, .val (.long q2), .second, .val (.long q3), .second, .val (.int p4), .val (.long fst), .second, .val (.long lst), .second, .val (.int sel), .unset, .unset, .unset, .unset] [(.long (fst - (1 : Int64)))])) _
      refine XS.lstore X6.here hx rfl (hb hby at_30) rfl (l' := #[.val (.long q1), .second, .val (.long q2), .second, .val (.long q3), .second, .val (.int p4), .val (.long fst), .second, .val (.long lst), .second, .val (.int sel), .val (.long (fst - (1 : Int64))), .second, .unset, .unset]) rfl ?_
      show Steps p.tables e below (T6.setTop (mkF m 32 #[.val (.long q1), .second, .val (.long q2), .second, .val (.long q3), .second, .val (.int p4), .val (.long fst), .second, .val (.long lst), .second, .val (.int sel), .val (.long (fst - (1 : Int64))), .second, .unset, .unset] [])) _
      refine XS.goto X6.here hx rfl (pc0 := 32) (pc' := 110) rfl (hb hby at_32) (by decide) (by decide) ?_
      show Steps p.tables e below (T6.setTop (mkF m 110 #[.val (.long q1), .second, .val (.long q2), .second, .val (.long q3), .second, .val (.int p4), .val (.long fst), .second, .val (.long lst), .second, .val (.int sel), .val (.long (fst - (1 : Int64))), .second, .unset, .unset] [])) _
      exact kt
    · skip
      by_cases hc38 : sel = (1 : Int32)
      · skip
        try simp only [if_neg hc23, if_pos hc38] at kt
        refine pre10 t ?_
        refine XS.ifYes X6.here hx rfl (pc0 := 23) (pc' := 35) rfl (hb hby at_23) rfl ((if0 _ _).trans (feq hc23).2) (by decide) (by decide) ?_
        show Steps p.tables e below (T6.setTop (mkF m 35 #[.val (.long q1), .second, .val (.long q2), .second, .val (.long q3), .second, .val (.int p4), .val (.long fst), .second, .val (.long lst), .second, .val (.int sel), .unset, .unset, .unset, .unset] [])) _
        refine XS.iload X6.here hx rfl (hb hby at_35) rfl ?_
        show Steps p.tables e below (T6.setTop (mkF m 37 #[.val (.long q1), .second, .val (.long q2), .second, .val (.long q3), .second, .val (.int p4), .val (.long fst), .second, .val (.long lst), .second, .val (.int sel), .unset, .unset, .unset, .unset] [(.int sel)])) _
        refine XS.iconst X6.here hx rfl (hb hby at_37) ?_
        show Steps p.tables e below (T6.setTop (mkF m 38 #[.val (.long q1), .second, .val (.long q2), .second, .val (.long q3), .second, .val (.int p4), .val (.long fst), .second, .val (.long lst), .second, .val (.int sel), .unset, .unset, .unset, .unset] [(.int (1 : Int32)), (.int sel)])) _
        refine XS.icmpNo X6.here hx rfl (hb hby at_38) rfl (teq hc38).2 ?_
        show Steps p.tables e below (T6.setTop (mkF m 41 #[.val (.long q1), .second, .val (.long q2), .second, .val (.long q3), .second, .val (.int p4), .val (.long fst), .second, .val (.long lst), .second, .val (.int sel), .unset, .unset, .unset, .unset] [])) _
        refine XS.lload X6.here hx rfl (hb hby at_41) rfl ?_
        show Steps p.tables e below (T6.setTop (mkF m 43 #[.val (.long q1), .second, .val (.long q2), .second, .val (.long q3), .second, .val (.int p4), .val (.long fst), .second, .val (.long lst), .second, .val (.int sel), .unset, .unset, .unset, .unset] [(.long fst)])) _
        refine XS.lstore X6.here hx rfl (hb hby at_43) rfl (l' := #[.val (.long q1), .second, .val (.long q2), .second, .val (.long q3), .second, .val (.int p4), .val (.long fst), .second, .val (.long lst), .second, .val (.int sel), .val (.long fst), .second, .unset, .unset]) rfl ?_
        show Steps p.tables e below (T6.setTop (mkF m 45 #[.val (.long q1), .second, .val (.long q2), .second, .val (.long q3), .second, .val (.int p4), .val (.long fst), .second, .val (.long lst), .second, .val (.int sel), .val (.long fst), .second, .unset, .unset] [])) _
        refine XS.goto X6.here hx rfl (pc0 := 45) (pc' := 110) rfl (hb hby at_45) (by decide) (by decide) ?_
        show Steps p.tables e below (T6.setTop (mkF m 110 #[.val (.long q1), .second, .val (.long q2), .second, .val (.long q3), .second, .val (.int p4), .val (.long fst), .second, .val (.long lst), .second, .val (.int sel), .val (.long fst), .second, .unset, .unset] [])) _
        exact kt
      · skip
        by_cases hc51 : sel = (2 : Int32)
        · skip
          try simp only [if_neg hc23, if_neg hc38, if_pos hc51] at kt
          refine pre10 t ?_
          refine XS.ifYes X6.here hx rfl (pc0 := 23) (pc' := 35) rfl (hb hby at_23) rfl ((if0 _ _).trans (feq hc23).2) (by decide) (by decide) ?_
          show Steps p.tables e below (T6.setTop (mkF m 35 #[.val (.long q1), .second, .val (.long q2), .second, .val (.long q3), .second, .val (.int p4), .val (.long fst), .second, .val (.long lst), .second, .val (.int sel), .unset, .unset, .unset, .unset] [])) _
          refine XS.iload X6.here hx rfl (hb hby at_35) rfl ?_
          show Steps p.tables e below (T6.setTop (mkF m 37 #[.val (.long q1), .second, .val (.long q2), .second, .val (.long q3), .second, .val (.int p4), .val (.long fst), .second, .val (.long lst), .second, .val (.int sel), .unset, .unset, .unset, .unset] [(.int sel)])) _
          refine XS.iconst X6.here hx rfl (hb hby at_37) ?_
          show Steps p.tables e below (T6.setTop (mkF m 38 #[.val (.long q1), .second, .val (.long q2), .second, .val (.long q3), .second, .val (.int p4), .val (.long fst), .second, .val (.long lst), .second, .val (.int sel), .unset, .unset, .unset, .unset] [(.int (1 : Int32)), (.int sel)])) _
          refine XS.icmpYes X6.here hx rfl (pc0 := 38) (pc' := 48) rfl (hb hby at_38) rfl (feq hc38).2 (by decide) (by decide) ?_
          show Steps p.tables e below (T6.setTop (mkF m 48 #[.val (.long q1), .second, .val (.long q2), .second, .val (.long q3), .second, .val (.int p4), .val (.long fst), .second, .val (.long lst), .second, .val (.int sel), .unset, .unset, .unset, .unset] [])) _
          refine XS.iload X6.here hx rfl (hb hby at_48) rfl ?_
          show Steps p.tables e below (T6.setTop (mkF m 50 #[.val (.long q1), .second, .val (.long q2), .second, .val (.long q3), .second, .val (.int p4), .val (.long fst), .second, .val (.long lst), .second, .val (.int sel), .unset, .unset, .unset, .unset] [(.int sel)])) _
          refine XS.iconst X6.here hx rfl (hb hby at_50) ?_
          show Steps p.tables e below (T6.setTop (mkF m 51 #[.val (.long q1), .second, .val (.long q2), .second, .val (.long q3), .second, .val (.int p4), .val (.long fst), .second, .val (.long lst), .second, .val (.int sel), .unset, .unset, .unset, .unset] [(.int (2 : Int32)), (.int sel)])) _
          refine XS.icmpNo X6.here hx rfl (hb hby at_51) rfl (teq hc51).2 ?_
          show Steps p.tables e below (T6.setTop (mkF m 54 #[.val (.long q1), .second, .val (.long q2), .second, .val (.long q3), .second, .val (.int p4), .val (.long fst), .second, .val (.long lst), .second, .val (.int sel), .unset, .unset, .unset, .unset] [])) _
          refine XS.lload X6.here hx rfl (hb hby at_54) rfl ?_
          show Steps p.tables e below (T6.setTop (mkF m 56 #[.val (.long q1), .second, .val (.long q2), .second, .val (.long q3), .second, .val (.int p4), .val (.long fst), .second, .val (.long lst), .second, .val (.int sel), .unset, .unset, .unset, .unset] [(.long fst)])) _
          refine XS.lconst X6.here hx rfl (hb hby at_56) ?_
          show Steps p.tables e below (T6.setTop (mkF m 57 #[.val (.long q1), .second, .val (.long q2), .second, .val (.long q3), .second, .val (.int p4), .val (.long fst), .second, .val (.long lst), .second, .val (.int sel), .unset, .unset, .unset, .unset] [(.long (1 : Int64)), (.long fst)])) _
          refine XS.ladd X6.here hx rfl (hb hby at_57) rfl ?_
          show Steps p.tables e below (T6.setTop (mkF m 58 #[.val (.long q1), .second, .val (.long q2), .second, .val (.long q3), .second, .val (.int p4), .val (.long fst), .second, .val (.long lst), .second, .val (.int sel), .unset, .unset, .unset, .unset] [(.long (fst + (1 : Int64)))])) _
          refine XS.lstore X6.here hx rfl (hb hby at_58) rfl (l' := #[.val (.long q1), .second, .val (.long q2), .second, .val (.long q3), .second, .val (.int p4), .val (.long fst), .second, .val (.long lst), .second, .val (.int sel), .val (.long (fst + (1 : Int64))), .second, .unset, .unset]) rfl ?_
          show Steps p.tables e below (T6.setTop (mkF m 60 #[.val (.long q1), .second, .val (.long q2), .second, .val (.long q3), .second, .val (.int p4), .val (.long fst), .second, .val (.long lst), .second, .val (.int sel), .val (.long (fst + (1 : Int64))), .second, .unset, .unset] [])) _
          refine XS.goto X6.here hx rfl (pc0 := 60) (pc' := 110) rfl (hb hby at_60) (by decide) (by decide) ?_
          show Steps p.tables e below (T6.setTop (mkF m 110 #[.val (.long q1), .second, .val (.long q2), .second, .val (.long q3), .second, .val (.int p4), .val (.long fst), .second, .val (.long lst), .second, .val (.int sel), .val (.long (fst + (1 : Int64))), .second, .unset, .unset] [])) _
          exact kt
        · skip
          by_cases hc66 : sel = (3 : Int32)
          · skip
            try simp only [if_neg hc23, if_neg hc38, if_neg hc51, if_pos hc66] at kt
            refine pre10 t ?_
            refine XS.ifYes X6.here hx rfl (pc0 := 23) (pc' := 35) rfl (hb hby at_23) rfl ((if0 _ _).trans (feq hc23).2) (by decide) (by decide) ?_
            show Steps p.tables e below (T6.setTop (mkF m 35 #[.val (.long q1), .second, .val (.long q2), .second, .val (.long q3), .second, .val (.int p4), .val (.long fst), .second, .val (.long lst), .second, .val (.int sel), .unset, .unset, .unset, .unset] [])) _
            refine XS.iload X6.here hx rfl (hb hby at_35) rfl ?_
            show Steps p.tables e below (T6.setTop (mkF m 37 #[.val (.long q1), .second, .val (.long q2), .second, .val (.long q3), .second, .val (.int p4), .val (.long fst), .second, .val (.long lst), .second, .val (.int sel), .unset, .unset, .unset, .unset] [(.int sel)])) _
            refine XS.iconst X6.here hx rfl (hb hby at_37) ?_
            show Steps p.tables e below (T6.setTop (mkF m 38 #[.val (.long q1), .second, .val (.long q2), .second, .val (.long q3), .second, .val (.int p4), .val (.long fst), .second, .val (.long lst), .second, .val (.int sel), .unset, .unset, .unset, .unset] [(.int (1 : Int32)), (.int sel)])) _
            refine XS.icmpYes X6.here hx rfl (pc0 := 38) (pc' := 48) rfl (hb hby at_38) rfl (feq hc38).2 (by decide) (by decide) ?_
            show Steps p.tables e below (T6.setTop (mkF m 48 #[.val (.long q1), .second, .val (.long q2), .second, .val (.long q3), .second, .val (.int p4), .val (.long fst), .second, .val (.long lst), .second, .val (.int sel), .unset, .unset, .unset, .unset] [])) _
            refine XS.iload X6.here hx rfl (hb hby at_48) rfl ?_
            show Steps p.tables e below (T6.setTop (mkF m 50 #[.val (.long q1), .second, .val (.long q2), .second, .val (.long q3), .second, .val (.int p4), .val (.long fst), .second, .val (.long lst), .second, .val (.int sel), .unset, .unset, .unset, .unset] [(.int sel)])) _
            refine XS.iconst X6.here hx rfl (hb hby at_50) ?_
            show Steps p.tables e below (T6.setTop (mkF m 51 #[.val (.long q1), .second, .val (.long q2), .second, .val (.long q3), .second, .val (.int p4), .val (.long fst), .second, .val (.long lst), .second, .val (.int sel), .unset, .unset, .unset, .unset] [(.int (2 : Int32)), (.int sel)])) _
            refine XS.icmpYes X6.here hx rfl (pc0 := 51) (pc' := 63) rfl (hb hby at_51) rfl (feq hc51).2 (by decide) (by decide) ?_
            show Steps p.tables e below (T6.setTop (mkF m 63 #[.val (.long q1), .second, .val (.long q2), .second, .val (.long q3), .second, .val (.int p4), .val (.long fst), .second, .val (.long lst), .second, .val (.int sel), .unset, .unset, .unset, .unset] [])) _
            refine XS.iload X6.here hx rfl (hb hby at_63) rfl ?_
            show Steps p.tables e below (T6.setTop (mkF m 65 #[.val (.long q1), .second, .val (.long q2), .second, .val (.long q3), .second, .val (.int p4), .val (.long fst), .second, .val (.long lst), .second, .val (.int sel), .unset, .unset, .unset, .unset] [(.int sel)])) _
            refine XS.iconst X6.here hx rfl (hb hby at_65) ?_
            show Steps p.tables e below (T6.setTop (mkF m 66 #[.val (.long q1), .second, .val (.long q2), .second, .val (.long q3), .second, .val (.int p4), .val (.long fst), .second, .val (.long lst), .second, .val (.int sel), .unset, .unset, .unset, .unset] [(.int (3 : Int32)), (.int sel)])) _
            refine XS.icmpNo X6.here hx rfl (hb hby at_66) rfl (teq hc66).2 ?_
            show Steps p.tables e below (T6.setTop (mkF m 69 #[.val (.long q1), .second, .val (.long q2), .second, .val (.long q3), .second, .val (.int p4), .val (.long fst), .second, .val (.long lst), .second, .val (.int sel), .unset, .unset, .unset, .unset] [])) _
            refine XS.lload X6.here hx rfl (hb hby at_69) rfl ?_
            show Steps p.tables e below (T6.setTop (mkF m 71 #[.val (.long q1), .second, .val (.long q2), .second, .val (.long q3), .second, .val (.int p4), .val (.long fst), .second, .val (.long lst), .second, .val (.int sel), .unset, .unset, .unset, .unset] [(.long lst)])) _
            refine XS.lconst X6.here hx rfl (hb hby at_71) ?_
            show Steps p.tables e below (T6.setTop (mkF m 72 #[.val (.long q1), .second, .val (.long q2), .second, .val (.long q3), .second, .val (.int p4), .val (.long fst), .second, .val (.long lst), .second, .val (.int sel), .unset, .unset, .unset, .unset] [(.long (1 : Int64)), (.long lst)])) _
            refine XS.lsub X6.here hx rfl (hb hby at_72) rfl ?_
            show Steps p.tables e below (T6.setTop (mkF m 73 #[.val (.long q1), .second, .val (.long q2), .second, .val (.long q3), .second, .val (.int p4), .val (.long fst), .second, .val (.long lst), .second, .val (.int sel), .unset, .unset, .unset, .unset] [(.long (lst - (1 : Int64)))])) _
            refine XS.lstore X6.here hx rfl (hb hby at_73) rfl (l' := #[.val (.long q1), .second, .val (.long q2), .second, .val (.long q3), .second, .val (.int p4), .val (.long fst), .second, .val (.long lst), .second, .val (.int sel), .val (.long (lst - (1 : Int64))), .second, .unset, .unset]) rfl ?_
            show Steps p.tables e below (T6.setTop (mkF m 75 #[.val (.long q1), .second, .val (.long q2), .second, .val (.long q3), .second, .val (.int p4), .val (.long fst), .second, .val (.long lst), .second, .val (.int sel), .val (.long (lst - (1 : Int64))), .second, .unset, .unset] [])) _
            refine XS.goto X6.here hx rfl (pc0 := 75) (pc' := 110) rfl (hb hby at_75) (by decide) (by decide) ?_
            show Steps p.tables e below (T6.setTop (mkF m 110 #[.val (.long q1), .second, .val (.long q2), .second, .val (.long q3), .second, .val (.int p4), .val (.long fst), .second, .val (.long lst), .second, .val (.int sel), .val (.long (lst - (1 : Int64))), .second, .unset, .unset] [])) _
            exact kt
          · skip
            by_cases hc81 : sel = (4 : Int32)
            · skip
              try simp only [if_neg hc23, if_neg hc38, if_neg hc51, if_neg hc66, if_pos hc81] at kt
              refine pre10 t ?_
              refine XS.ifYes X6.here hx rfl (pc0 := 23) (pc' := 35) rfl (hb hby at_23) rfl ((if0 _ _).trans (feq hc23).2) (by decide) (by decide) ?_
              show Steps p.tables e below (T6.setTop (mkF m 35 #[.val (.long q1), .second, .val (.long q2), .second, .val (.long q3), .second, .val (.int p4), .val (.long fst), .second, .val (.long lst), .second, .val (.int sel), .unset, .unset, .unset, .unset] [])) _
              refine XS.iload X6.here hx rfl (hb hby at_35) rfl ?_
              show Steps p.tables e below (T6.setTop (mkF m 37 #[.val (.long q1), .second, .val (.long q2), .second, .val (.long q3), .second, .val (.int p4), .val (.long fst), .second, .val (.long lst), .second, .val (.int sel), .unset, .unset, .unset, .unset] [(.int sel)])) _
              refine XS.iconst X6.here hx rfl (hb hby at_37) ?_
              show Steps p.tables e below (T6.setTop (mkF m 38 #[.val (.long q1), .second, .val (.long q2), .second, .val (.long q3), .second, .val (.int p4), .val (.long fst), .second, .val (.long lst), .second, .val (.int sel), .unset, .unset, .unset, .unset] [(.int (1 : Int32)), (.int sel)])) _
              refine XS.icmpYes X6.here hx rfl (pc0 := 38) (pc' := 48) rfl (hb hby at_38) rfl (feq hc38).2 (by decide) (by decide) ?_
              show Steps p.tables e below (T6.setTop (mkF m 48 #[.val (.long q1), .second, .val (.long q2), .second, .val (.long q3), .second, .val (.int p4), .val (.long fst), .second, .val (.long lst), .second, .val (.int sel), .unset, .unset, .unset, .unset] [])) _
              refine XS.iload X6.here hx rfl (hb hby at_48) rfl ?_
              show Steps p.tables e below (T6.setTop (mkF m 50 #[.val (.long q1), .second, .val (.long q2), .second, .val (.long q3), .second, .val (.int p4), .val (.long fst), .second, .val (.long lst), .second, .val (.int sel), .unset, .unset, .unset, .unset] [(.int sel)])) _
              refine XS.iconst X6.here hx rfl (hb hby at_50) ?_
              show Steps p.tables e below (T6.setTop (mkF m 51 #[.val (.long q1), .second, .val (.long q2), .second, .val (.long q3), .second, .val (.int p4), .val (.long fst), .second, .val (.long lst), .second, .val (.int sel), .unset, .unset, .unset, .unset] [(.int (2 : Int32)), (.int sel)])) _
              refine XS.icmpYes X6.here hx rfl (pc0 := 51) (pc' := 63) rfl (hb hby at_51) rfl (feq hc51).2 (by decide) (by decide) ?_
              show Steps p.tables e below (T6.setTop (mkF m 63 #[.val (.long q1), .second, .val (.long q2), .second, .val (.long q3), .second, .val (.int p4), .val (.long fst), .second, .val (.long lst), .second, .val (.int sel), .unset, .unset, .unset, .unset] [])) _
              refine XS.iload X6.here hx rfl (hb hby at_63) rfl ?_
              show Steps p.tables e below (T6.setTop (mkF m 65 #[.val (.long q1), .second, .val (.long q2), .second, .val (.long q3), .second, .val (.int p4), .val (.long fst), .second, .val (.long lst), .second, .val (.int sel), .unset, .unset, .unset, .unset] [(.int sel)])) _
              refine XS.iconst X6.here hx rfl (hb hby at_65) ?_
              show Steps p.tables e below (T6.setTop (mkF m 66 #[.val (.long q1), .second, .val (.long q2), .second, .val (.long q3), .second, .val (.int p4), .val (.long fst), .second, .val (.long lst), .second, .val (.int sel), .unset, .unset, .unset, .unset] [(.int (3 : Int32)), (.int sel)])) _
              refine XS.icmpYes X6.here hx rfl (pc0 := 66) (pc' := 78) rfl (hb hby at_66) rfl (feq hc66).2 (by decide) (by decide) ?_
              show Steps p.tables e below (T6.setTop (mkF m 78 #[.val (.long q1), .second, .val (.long q2), .second, .val (.long q3), .second, .val (.int p4), .val (.long fst), .second, .val (.long lst), .second, .val (.int sel), .unset, .unset, .unset, .unset] [])) _
              refine XS.iload X6.here hx rfl (hb hby at_78) rfl ?_
              show Steps p.tables e below (T6.setTop (mkF m 80 #[.val (.long q1), .second, .val (.long q2), .second, .val (.long q3), .second, .val (.int p4), .val (.long fst), .second, .val (.long lst), .second, .val (.int sel), .unset, .unset, .unset, .unset] [(.int sel)])) _
              refine XS.iconst X6.here hx rfl (hb hby at_80) ?_
              show Steps p.tables e below (T6.setTop (mkF m 81 #[.val (.long q1), .second, .val (.long q2), .second, .val (.long q3), .second, .val (.int p4), .val (.long fst), .second, .val (.long lst), .second, .val (.int sel), .unset, .unset, .unset, .unset] [(.int (4 : Int32)), (.int sel)])) _
              refine XS.icmpNo X6.here hx rfl (hb hby at_81) rfl (teq hc81).2 ?_
              show Steps p.tables e below (T6.setTop (mkF m 84 #[.val (.long q1), .second, .val (.long q2), .second, .val (.long q3), .second, .val (.int p4), .val (.long fst), .second, .val (.long lst), .second, .val (.int sel), .unset, .unset, .unset, .unset] [])) _
              refine XS.lload X6.here hx rfl (hb hby at_84) rfl ?_
              show Steps p.tables e below (T6.setTop (mkF m 86 #[.val (.long q1), .second, .val (.long q2), .second, .val (.long q3), .second, .val (.int p4), .val (.long fst), .second, .val (.long lst), .second, .val (.int sel), .unset, .unset, .unset, .unset] [(.long lst)])) _
              refine XS.lstore X6.here hx rfl (hb hby at_86) rfl (l' := #[.val (.long q1), .second, .val (.long q2), .second, .val (.long q3), .second, .val (.int p4), .val (.long fst), .second, .val (.long lst), .second, .val (.int sel), .val (.long lst), .second, .unset, .unset]) rfl ?_
              show Steps p.tables e below (T6.setTop (mkF m 88 #[.val (.long q1), .second, .val (.long q2), .second, .val (.long q3), .second, .val (.int p4), .val (.long fst), .second, .val (.long lst), .second, .val (.int sel), .val (.long lst), .second, .unset, .unset] [])) _
              refine XS.goto X6.here hx rfl (pc0 := 88) (pc' := 110) rfl (hb hby at_88) (by decide) (by decide) ?_
              show Steps p.tables e below (T6.setTop (mkF m 110 #[.val (.long q1), .second, .val (.long q2), .second, .val (.long q3), .second, .val (.int p4), .val (.long fst), .second, .val (.long lst), .second, .val (.int sel), .val (.long lst), .second, .unset, .unset] [])) _
              exact kt
            · skip
              by_cases hc94 : sel = (5 : Int32)
              · skip
                try simp only [if_neg hc23, if_neg hc38, if_neg hc51, if_neg hc66, if_neg hc81, if_pos hc94] at kt
                refine pre10 t ?_
                refine XS.ifYes X6.here hx rfl (pc0 := 23) (pc' := 35) rfl (hb hby at_23) rfl ((if0 _ _).trans (feq hc23).2) (by decide) (by decide) ?_
                show Steps p.tables e below (T6.setTop (mkF m 35 #[.val (.long q1), .second, .val (.long q2), .second, .val (.long q3), .second, .val (.int p4), .val (.long fst), .second, .val (.long lst), .second, .val (.int sel), .unset, .unset, .unset, .unset] [])) _
                refine XS.iload X6.here hx rfl (hb hby at_35) rfl ?_
                show Steps p.tables e below (T6.setTop (mkF m 37 #[.val (.long q1), .second, .val (.long q2), .second, .val (.long q3), .second, .val (.int p4), .val (.long fst), .second, .val (.long lst), .second, .val (.int sel), .unset, .unset, .unset, .unset] [(.int sel)])) _
                refine XS.iconst X6.here hx rfl (hb hby at_37) ?_
                show Steps p.tables e below (T6.setTop (mkF m 38 #[.val (.long q1), .second, .val (.long q2), .second, .val (.long q3), .second, .val (.int p4), .val (.long fst), .second, .val (.long lst), .second, .val (.int sel), .unset, .unset, .unset, .unset] [(.int (1 : Int32)), (.int sel)])) _
                refine XS.icmpYes X6.here hx rfl (pc0 := 38) (pc' := 48) rfl (hb hby at_38) rfl (feq hc38).2 (by decide) (by decide) ?_
                show Steps p.tables e below (T6.setTop (mkF m 48 #[.val (.long q1), .second, .val (.long q2), .second, .val (.long q3), .second, .val (.int p4), .val (.long fst), .second, .val (.long lst), .second, .val (.int sel), .unset, .unset, .unset, .unset] [])) _
                refine XS.iload X6.here hx rfl (hb hby at_48) rfl ?_
                show Steps p.tables e below (T6.setTop (mkF m 50 #[.val (.long q1), .second, .val (.long q2), .second, .val (.long q3), .second, .val (.int p4), .val (.long fst), .second, .val (.long lst), .second, .val (.int sel), .unset, .unset, .unset, .unset] [(.int sel)])) _
                refine XS.iconst X6.here hx rfl (hb hby at_50) ?_
                show Steps p.tables e below (T6.setTop (mkF m 51 #[.val (.long q1), .second, .val (.long q2), .second, .val (.long q3), .second, .val (.int p4), .val (.long fst), .second, .val (.long lst), .second, .val (.int sel), .unset, .unset, .unset, .unset] [(.int (2 : Int32)), (.int sel)])) _
                refine XS.icmpYes X6.here hx rfl (pc0 := 51) (pc' := 63) rfl (hb hby at_51) rfl (feq hc51).2 (by decide) (by decide) ?_
                show Steps p.tables e below (T6.setTop (mkF m 63 #[.val (.long q1), .second, .val (.long q2), .second, .val (.long q3), .second, .val (.int p4), .val (.long fst), .second, .val (.long lst), .second, .val (.int sel), .unset, .unset, .unset, .unset] [])) _
                refine XS.iload X6.here hx rfl (hb hby at_63) rfl ?_
                show Steps p.tables e below (T6.setTop (mkF m 65 #[.val (.long q1), .second, .val (.long q2), .second, .val (.long q3), .second, .val (.int p4), .val (.long fst), .second, .val (.long lst), .second, .val (.int sel), .unset, .unset, .unset, .unset] [(.int sel)])) _
                refine XS.iconst X6.here hx rfl (hb hby at_65) ?_
                show Steps p.tables e below (T6.setTop (mkF m 66 #[.val (.long q1), .second, .val (.long q2), .second, .val (.long q3), .second, .val (.int p4), .val (.long fst), .second, .val (.long lst), .second, .val (.int sel), .unset, .unset, .unset, .unset] [(.int (3 : Int32)), (.int sel)])) _
                refine XS.icmpYes X6.here hx rfl (pc0 := 66) (pc' := 78) rfl (hb hby at_66) rfl (feq hc66).2 (by decide) (by decide) ?_
                show Steps p.tables e below (T6.setTop (mkF m 78 #[.val (.long q1), .second, .val (.long q2), .second, .val (.long q3), .second, .val (.int p4), .val (.long fst), .second, .val (.long lst), .second, .val (.int sel), .unset, .unset, .unset, .unset] [])) _
                refine XS.iload X6.here hx rfl (hb hby at_78) rfl ?_
                show Steps p.tables e below (T6.setTop (mkF m 80 #[.val (.long q1), .second, .val (.long q2), .second, .val (.long q3), .second, .val (.int p4), .val (.long fst), .second, .val (.long lst), .second, .val (.int sel), .unset, .unset, .unset, .unset] [(.int sel)])) _
                refine XS.iconst X6.here hx rfl (hb hby at_80) ?_
                show Steps p.tables e below (T6.setTop (mkF m 81 #[.val (.long q1), .second, .val (.long q2), .second, .val (.long q3), .second, .val (.int p4), .val (.long fst), .second, .val (.long lst), .second, .val (.int sel), .unset, .unset, .unset, .unset] [(.int (4 : Int32)), (.int sel)])) _
                refine XS.icmpYes X6.here hx rfl (pc0 := 81) (pc' := 91) rfl (hb hby at_81) rfl (feq hc81).2 (by decide) (by decide) ?_
                show Steps p.tables e below (T6.setTop (mkF m 91 #[.val (.long q1), .second, .val (.long q2), .second, .val (.long q3), .second, .val (.int p4), .val (.long fst), .second, .val (.long lst), .second, .val (.int sel), .unset, .unset, .unset, .unset] [])) _
                refine XS.iload X6.here hx rfl (hb hby at_91) rfl ?_
                show Steps p.tables e below (T6.setTop (mkF m 93 #[.val (.long q1), .second, .val (.long q2), .second, .val (.long q3), .second, .val (.int p4), .val (.long fst), .second, .val (.long lst), .second, .val (.int sel), .unset, .unset, .unset, .unset] [(.int sel)])) _
                refine XS.iconst X6.here hx rfl (hb hby at_93) ?_
                show Steps p.tables e below (T6.setTop (mkF m 94 #[.val (.long q1), .second, .val (.long q2), .second, .val (.long q3), .second, .val (.int p4), .val (.long fst), .second, .val (.long lst), .second, .val (.int sel), .unset, .unset, .unset, .unset] [(.int (5 : Int32)), (.int sel)])) _
                refine XS.icmpNo X6.here hx rfl (hb hby at_94) rfl (teq hc94).2 ?_
                show Steps p.tables e below (T6.setTop (mkF m 97 #[.val (.long q1), .second, .val (.long q2), .second, .val (.long q3), .second, .val (.int p4), .val (.long fst), .second, .val (.long lst), .second, .val (.int sel), .unset, .unset, .unset, .unset] [])) _
                refine XS.lload X6.here hx rfl (hb hby at_97) rfl ?_
                show Steps p.tables e below (T6.setTop (mkF m 99 #[.val (.long q1), .second, .val (.long q2), .second, .val (.long q3), .second, .val (.int p4), .val (.long fst), .second, .val (.long lst), .second, .val (.int sel), .unset, .unset, .unset, .unset] [(.long lst)])) _
                refine XS.lconst X6.here hx rfl (hb hby at_99) ?_
                show Steps p.tables e below (T6.setTop (mkF m 100 #[.val (.long q1), .second, .val (.long q2), .second, .val (.long q3), .second, .val (.int p4), .val (.long fst), .second, .val (.long lst), .second, .val (.int sel), .unset, .unset, .unset, .unset] [(.long (1 : Int64)), (.long lst)])) _
                refine XS.ladd X6.here hx rfl (hb hby at_100) rfl ?_
                show Steps p.tables e below (T6.setTop (mkF m 101 #[.val (.long q1), .second, .val (.long q2), .second, .val (.long q3), .second, .val (.int p4), .val (.long fst), .second, .val (.long lst), .second, .val (.int sel), .unset, .unset, .unset, .unset] [(.long (lst + (1 : Int64)))])) _
                refine XS.lstore X6.here hx rfl (hb hby at_101) rfl (l' := #[.val (.long q1), .second, .val (.long q2), .second, .val (.long q3), .second, .val (.int p4), .val (.long fst), .second, .val (.long lst), .second, .val (.int sel), .val (.long (lst + (1 : Int64))), .second, .unset, .unset]) rfl ?_
                show Steps p.tables e below (T6.setTop (mkF m 103 #[.val (.long q1), .second, .val (.long q2), .second, .val (.long q3), .second, .val (.int p4), .val (.long fst), .second, .val (.long lst), .second, .val (.int sel), .val (.long (lst + (1 : Int64))), .second, .unset, .unset] [])) _
                refine XS.goto X6.here hx rfl (pc0 := 103) (pc' := 110) rfl (hb hby at_103) (by decide) (by decide) ?_
                show Steps p.tables e below (T6.setTop (mkF m 110 #[.val (.long q1), .second, .val (.long q2), .second, .val (.long q3), .second, .val (.int p4), .val (.long fst), .second, .val (.long lst), .second, .val (.int sel), .val (.long (lst + (1 : Int64))), .second, .unset, .unset] [])) _
                exact kt
              · skip
                try simp only [if_neg hc23, if_neg hc38, if_neg hc51, if_neg hc66, if_neg hc81, if_neg hc94] at kt
                refine pre10 t ?_
                refine XS.ifYes X6.here hx rfl (pc0 := 23) (pc' := 35) rfl (hb hby at_23) rfl ((if0 _ _).trans (feq hc23).2) (by decide) (by decide) ?_
                show Steps p.tables e below (T6.setTop (mkF m 35 #[.val (.long q1), .second, .val (.long q2), .second, .val (.long q3), .second, .val (.int p4), .val (.long fst), .second, .val (.long lst), .second, .val (.int sel), .unset, .unset, .unset, .unset] [])) _
                refine XS.iload X6.here hx rfl (hb hby at_35) rfl ?_
                show Steps p.tables e below (T6.setTop (mkF m 37 #[.val (.long q1), .second, .val (.long q2), .second, .val (.long q3), .second, .val (.int p4), .val (.long fst), .second, .val (.long lst), .second, .val (.int sel), .unset, .unset, .unset, .unset] [(.int sel)])) _
                refine XS.iconst X6.here hx rfl (hb hby at_37) ?_
                show Steps p.tables e below (T6.setTop (mkF m 38 #[.val (.long q1), .second, .val (.long q2), .second, .val (.long q3), .second, .val (.int p4), .val (.long fst), .second, .val (.long lst), .second, .val (.int sel), .unset, .unset, .unset, .unset] [(.int (1 : Int32)), (.int sel)])) _
                refine XS.icmpYes X6.here hx rfl (pc0 := 38) (pc' := 48) rfl (hb hby at_38) rfl (feq hc38).2 (by decide) (by decide) ?_
                show Steps p.tables e below (T6.setTop (mkF m 48 #[.val (.long q1), .second, .val (.long q2), .second, .val (.long q3), .second, .val (.int p4), .val (.long fst), .second, .val (.long lst), .second, .val (.int sel), .unset, .unset, .unset, .unset] [])) _
                refine XS.iload X6.here hx rfl (hb hby at_48) rfl ?_
                show Steps p.tables e below (T6.setTop (mkF m 50 #[.val (.long q1), .second, .val (.long q2), .second, .val (.long q3), .second, .val (.int p4), .val (.long fst), .second, .val (.long lst), .second, .val (.int sel), .unset, .unset, .unset, .unset] [(.int sel)])) _
                refine XS.iconst X6.here hx rfl (hb hby at_50) ?_
                show Steps p.tables e below (T6.setTop (mkF m 51 #[.val (.long q1), .second, .val (.long q2), .second, .val (.long q3), .second, .val (.int p4), .val (.long fst), .second, .val (.long lst), .second, .val (.int sel), .unset, .unset, .unset, .unset] [(.int (2 : Int32)), (.int sel)])) _
                refine XS.icmpYes X6.here hx rfl (pc0 := 51) (pc' := 63) rfl (hb hby at_51) rfl (feq hc51).2 (by decide) (by decide) ?_
                show Steps p.tables e below (T6.setTop (mkF m 63 #[.val (.long q1), .second, .val (.long q2), .second, .val (.long q3), .second, .val (.int p4), .val (.long fst), .second, .val (.long lst), .second, .val (.int sel), .unset, .unset, .unset, .unset] [])) _
                refine XS.iload X6.here hx rfl (hb hby at_63) rfl ?_
                show Steps p.tables e below (T6.setTop (mkF m 65 #[.val (.long q1), .second, .val (.long q2), .second, .val (.long q3), .second, .val (.int p4), .val (.long fst), .second, .val (.long lst), .second, .val (.int sel), .unset, .unset, .unset, .unset] [(.int sel)])) _
                refine XS.iconst X6.here hx rfl (hb hby at_65) ?_
                show Steps p.tables e below (T6.setTop (mkF m 66 #[.val (.long q1), .second, .val (.long q2), .second, .val (.long q3), .second, .val (.int p4), .val (.long fst), .second, .val (.long lst), .second, .val (.int sel), .unset, .unset, .unset, .unset] [(.int (3 : Int32)), (.int sel)])) _
                refine XS.icmpYes X6.here hx rfl (pc0 := 66) (pc' := 78) rfl (hb hby at_66) rfl (feq hc66).2 (by decide) (by decide) ?_
                show Steps p.tables e below (T6.setTop (mkF m 78 #[.val (.long q1), .second, .val (.long q2), .second, .val (.long q3), .second, .val (.int p4), .val (.long fst), .second, .val (.long lst), .second, .val (.int sel), .unset, .unset, .unset, .unset] [])) _
                refine XS.iload X6.here hx rfl (hb hby at_78) rfl ?_
                show Steps p.tables e below (T6.setTop (mkF m 80 #[.val (.long q1), .second, .val (.long q2), .second, .val (.long q3), .second, .val (.int p4), .val (.long fst), .second, .val (.long lst), .second, .val (.int sel), .unset, .unset, .unset, .unset] [(.int sel)])) _
                refine XS.iconst X6.here hx rfl (hb hby at_80) ?_
                show Steps p.tables e below (T6.setTop (mkF m 81 #[.val (.long q1), .second, .val (.long q2), .second, .val (.long q3), .second, .val (.int p4), .val (.long fst), .second, .val (.long lst), .second, .val (.int sel), .unset, .unset, .unset, .unset] [(.int (4 : Int32)), (.int sel)])) _
                refine XS.icmpYes X6.here hx rfl (pc0 := 81) (pc' := 91) rfl (hb hby at_81) rfl (feq hc81).2 (by decide) (by decide) ?_
                show Steps p.tables e below (T6.setTop (mkF m 91 #[.val (.long q1), .second, .val (.long q2), .second, .val (.long q3), .second, .val (.int p4), .val (.long fst), .second, .val (.long lst), .second, .val (.int sel), .unset, .unset, .unset, .unset] [])) _
                refine XS.iload X6.here hx rfl (hb hby at_91) rfl ?_
                show Steps p.tables e below (T6.setTop (mkF m 93 #[.val (.long q1), .second, .val (.long q2), .second, .val (.long q3), .second, .val (.int p4), .val (.long fst), .second, .val (.long lst), .second, .val (.int sel), .unset, .unset, .unset, .unset] [(.int sel)])) _
                refine XS.iconst X6.here hx rfl (hb hby at_93) ?_
                show Steps p.tables e below (T6.setTop (mkF m 94 #[.val (.long q1), .second, .val (.long q2), .second, .val (.long q3), .second, .val (.int p4), .val (.long fst), .second, .val (.long lst), .second, .val (.int sel), .unset, .unset, .unset, .unset] [(.int (5 : Int32)), (.int sel)])) _
                refine XS.icmpYes X6.here hx rfl (pc0 := 94) (pc' := 106) rfl (hb hby at_94) rfl (feq hc94).2 (by decide) (by decide) ?_
                show Steps p.tables e below (T6.setTop (mkF m 106 #[.val (.long q1), .second, .val (.long q2), .second, .val (.long q3), .second, .val (.int p4), .val (.long fst), .second, .val (.long lst), .second, .val (.int sel), .unset, .unset, .unset, .unset] [])) _
                refine XS.lload X6.here hx rfl (hb hby at_106) rfl ?_
                show Steps p.tables e below (T6.setTop (mkF m 108 #[.val (.long q1), .second, .val (.long q2), .second, .val (.long q3), .second, .val (.int p4), .val (.long fst), .second, .val (.long lst), .second, .val (.int sel), .unset, .unset, .unset, .unset] [(.long q3)])) _
                refine XS.lstore X6.here hx rfl (hb hby at_108) rfl (l' := #[.val (.long q1), .second, .val (.long q2), .second, .val (.long q3), .second, .val (.int p4), .val (.long fst), .second, .val (.long lst), .second, .val (.int sel), .val (.long q3), .second, .unset, .unset]) rfl ?_
                show Steps p.tables e below (T6.setTop (mkF m 110 #[.val (.long q1), .second, .val (.long q2), .second, .val (.long q3), .second, .val (.int p4), .val (.long fst), .second, .val (.long lst), .second, .val (.int sel), .val (.long q3), .second, .unset, .unset] [])) _
                exact kt
  obtain ⟨xx, h_xx⟩ : ∃ z, z = (if sel = (0 : Int32) then (fst - (1 : Int64)) else (if sel = (1 : Int32) then fst else (if sel = (2 : Int32) then (fst + (1 : Int64)) else (if sel = (3 : Int32) then (lst - (1 : Int64)) else (if sel = (4 : Int32) then lst else (if sel = (5 : Int32) then (lst + (1 : Int64)) else q3)))))) := ⟨_, rfl⟩
  rw [← h_xx] at pre11
  obtain ⟨T12, h12, X12, e12, E12, A12, D12, -, st12⟩ := newO X6 hx hZ hown (hw _ (mgE 7 rfl)) (hw _ (mgE 8 rfl)) (hw _ (mgE 9 rfl)) e6 (g := (mkF m 110 #[.val (.long q1), .second, .val (.long q2), .second, .val (.long q3), .second, .val (.int p4), .val (.long fst), .second, .val (.long lst), .second, .val (.int sel), .val (.long xx), .second, .unset, .unset] [])) rfl (hb hby at_110) (by decide) (by decide)
  obtain ⟨b12, g12⟩ : ∃ z, z = h0.size := ⟨_, rfl⟩
  rw [← g12] at A12 D12 st12
  have g_b12 : n0 ≤ b12 := Nat.le_trans Z0 (Nat.le_of_eq g12.symm)
  have Z12 : n0 ≤ h12.size := Nat.le_trans Z0 E12.1
  have F_first_b12 : Fld Z h12 b12 "com/example/transnum/transnum/model/NumberRange" "first" "J" (.long (0 : Int64)) := D12 (Or.inr (hw _ (mgE 30 rfl))) (ty := .long) (by decide)
  have F_last_b12 : Fld Z h12 b12 "com/example/transnum/transnum/model/NumberRange" "last" "J" (.long (0 : Int64)) := D12 (Or.inr (hw _ (mgE 32 rfl))) (ty := .long) (by decide)
  have F_donor_b12 : Fld Z h12 b12 "com/example/transnum/transnum/model/NumberRange" "donor" "Ljava/lang/String;" .null := D12 (Or.inr (hw _ (mgE 34 rfl))) (ty := (.object "java/lang/String")) (by decide)
  have F_typeOfNumber_b12 : Fld Z h12 b12 "com/example/transnum/transnum/model/NumberRange" "typeOfNumber" "I" (.int (0 : Int32)) := D12 (Or.inr (hw _ (mgE 36 rfl))) (ty := .int) (by decide)
  have pre13 : ∀ t, Steps p.tables e below (T12.setTop (mkF m 113 #[.val (.long q1), .second, .val (.long q2), .second, .val (.long q3), .second, .val (.int p4), .val (.long fst), .second, .val (.long lst), .second, .val (.int sel), .val (.long xx), .second, .unset, .unset] [(.ref b12)])) t → Steps p.tables e below (s₁.setTop (entryFrame m #[(.long q1), (.long q2), (.long q3), (.int p4)] maxLocals)) t := fun t kt => pre11 t (st12 t kt)
  have pre14 : ∀ t, Steps p.tables e below (T12.setTop (mkF m 118 #[.val (.long q1), .second, .val (.long q2), .second, .val (.long q3), .second, .val (.int p4), .val (.long fst), .second, .val (.long lst), .second, .val (.int sel), .val (.long xx), .second, .unset, .unset] [(.long lst), (.long fst), (.ref b12), (.ref b12)])) t → Steps p.tables e below (s₁.setTop (entryFrame m #[(.long q1), (.long q2), (.long q3), (.int p4)] maxLocals)) t := fun t kt => by
    refine pre13 t ?_
    refine XS.dup X12.here hx rfl (hb hby at_113) rfl rfl ?_
    show Steps p.tables e below (T12.setTop (mkF m 114 #[.val (.long q1), .second, .val (.long q2), .second, .val (.long q3), .second, .val (.int p4), .val (.long fst), .second, .val (.long lst), .second, .val (.int sel), .val (.long xx), .second, .unset, .unset] [(.ref b12), (.ref b12)])) _
    refine XS.lload X12.here hx rfl (hb hby at_114) rfl ?_
    show Steps p.tables e below (T12.setTop (mkF m 116 #[.val (.long q1), .second, .val (.long q2), .second, .val (.long q3), .second, .val (.int p4), .val (.long fst), .second, .val (.long lst), .second, .val (.int sel), .val (.long xx), .second, .unset, .unset] [(.long fst), (.ref b12), (.ref b12)])) _
    refine XS.lload X12.here hx rfl (hb hby at_116) rfl ?_
    show Steps p.tables e below (T12.setTop (mkF m 118 #[.val (.long q1), .second, .val (.long q2), .second, .val (.long q3), .second, .val (.int p4), .val (.long fst), .second, .val (.long lst), .second, .val (.int sel), .val (.long xx), .second, .unset, .unset] [(.long lst), (.long fst), (.ref b12), (.ref b12)])) _
    exact kt
  have hS0 : s.Since s.vm h12.size := State.WarmedH.since (State.WarmedH.refl s) _
  obtain ⟨b15, T15, h15, k15, X15, e15, E15, hS15, Sz15, hZ, hown, st15⟩ := ldcS (s := s) (vm0 := s.vm) X12 hx hZ hown (hw _ (mgE 10 rfl)) (own_wS hw) e12 hS0 (Nat.le_refl _) (g := (mkF m 118 #[.val (.long q1), .second, .val (.long q2), .second, .val (.long q3), .second, .val (.int p4), .val (.long fst), .second, .val (.long lst), .second, .val (.int sel), .val (.long xx), .second, .unset, .unset] [(.long lst), (.long fst), (.ref b12), (.ref b12)])) rfl (hb hby at_118) (n := 4) (by decide) (by decide) (by decide) (by decide)
  have Z15 : n0 ≤ h15.size := Nat.le_trans Z12 E15.1
  have F16_15 := A12.ext E15
  have F17_15 := F_first_b12.ext E15
  have F18_15 := F_last_b12.ext E15
  have F19_15 := F_donor_b12.ext E15
  have F20_15 := F_typeOfNumber_b12.ext E15
  have pre21 : ∀ t, Steps p.tables e below (T15.setTop (mkF m 120 #[.val (.long q1), .second, .val (.long q2), .second, .val (.long q3), .second, .val (.int p4), .val (.long fst), .second, .val (.long lst), .second, .val (.int sel), .val (.long xx), .second, .unset, .unset] [(.ref b15), (.long lst), (.long fst), (.ref b12), (.ref b12)])) t → Steps p.tables e below (s₁.setTop (entryFrame m #[(.long q1), (.long q2), (.long q3), (.int p4)] maxLocals)) t := fun t kt => pre14 t (st15 t kt)
  have pre22 : ∀ t, Steps p.tables e below (T15.setTop (mkF m 126 #[.val (.long q1), .second, .val (.long q2), .second, .val (.long q3), .second, .val (.int p4), .val (.long fst), .second, .val (.long lst), .second, .val (.int sel), .val (.long xx), .second, .unset, .unset] [(.int (((p4.toUInt32 >>> ((3 : Int32) &&& 31).toUInt32).toInt32) &&& (3 : Int32))), (.ref b15), (.long lst), (.long fst), (.ref b12), (.ref b12)])) t → Steps p.tables e below (s₁.setTop (entryFrame m #[(.long q1), (.long q2), (.long q3), (.int p4)] maxLocals)) t := fun t kt => by
    refine pre21 t ?_
    refine XS.iload X15.here hx rfl (hb hby at_120) rfl ?_
    show Steps p.tables e below (T15.setTop (mkF m 122 #[.val (.long q1), .second, .val (.long q2), .second, .val (.long q3), .second, .val (.int p4), .val (.long fst), .second, .val (.long lst), .second, .val (.int sel), .val (.long xx), .second, .unset, .unset] [(.int p4), (.ref b15), (.long lst), (.long fst), (.ref b12), (.ref b12)])) _
    refine XS.iconst X15.here hx rfl (hb hby at_122) ?_
    show Steps p.tables e below (T15.setTop (mkF m 123 #[.val (.long q1), .second, .val (.long q2), .second, .val (.long q3), .second, .val (.int p4), .val (.long fst), .second, .val (.long lst), .second, .val (.int sel), .val (.long xx), .second, .unset, .unset] [(.int (3 : Int32)), (.int p4), (.ref b15), (.long lst), (.long fst), (.ref b12), (.ref b12)])) _
    refine XS.iushr X15.here hx rfl (hb hby at_123) rfl ?_
    show Steps p.tables e below (T15.setTop (mkF m 124 #[.val (.long q1), .second, .val (.long q2), .second, .val (.long q3), .second, .val (.int p4), .val (.long fst), .second, .val (.long lst), .second, .val (.int sel), .val (.long xx), .second, .unset, .unset] [(.int ((p4.toUInt32 >>> ((3 : Int32) &&& 31).toUInt32).toInt32)), (.ref b15), (.long lst), (.long fst), (.ref b12), (.ref b12)])) _
    refine XS.iconst X15.here hx rfl (hb hby at_124) ?_
    show Steps p.tables e below (T15.setTop (mkF m 125 #[.val (.long q1), .second, .val (.long q2), .second, .val (.long q3), .second, .val (.int p4), .val (.long fst), .second, .val (.long lst), .second, .val (.int sel), .val (.long xx), .second, .unset, .unset] [(.int (3 : Int32)), (.int ((p4.toUInt32 >>> ((3 : Int32) &&& 31).toUInt32).toInt32)), (.ref b15), (.long lst), (.long fst), (.ref b12), (.ref b12)])) _
    refine XS.iand X15.here hx rfl (hb hby at_125) rfl ?_
    show Steps p.tables e below (T15.setTop (mkF m 126 #[.val (.long q1), .second, .val (.long q2), .second, .val (.long q3), .second, .val (.int p4), .val (.long fst), .second, .val (.long lst), .second, .val (.int sel), .val (.long xx), .second, .unset, .unset] [(.int (((p4.toUInt32 >>> ((3 : Int32) &&& 31).toUInt32).toInt32) &&& (3 : Int32))), (.ref b15), (.long lst), (.long fst), (.ref b12), (.ref b12)])) _
    exact kt
  obtain ⟨_, _, ⟨T23, L23, k23, n23⟩, -, X23, ⟨Lc23, hQ23, l23, y23, z23⟩, st23⟩ := X15.specialBack hx (y := (⟨"com/example/transnum/transnum/model/NumberRange", "<init>", "(JJLjava/lang/String;I)V"⟩ : MethodName)) rfl hown (mvT hZ (hw _ (mgE 18 rfl))) (mvT hZ (hw _ (mgE 19 rfl))) (mvT hZ (hw _ (mgE 20 rfl))) (by decide) (backOf (W := 1) (rm3 l Z a0 hw [] b12 fst lst b15 (((p4.toUInt32 >>> ((3 : Int32) &&& 31).toUInt32).toInt32) &&& (3 : Int32)) (.long (0 : Int64)) (.long (0 : Int64)) (.null) (.int (0 : Int32)) h15 n0 Z15 F16_15 F17_15 g_b12 F18_15 F19_15 F20_15) hZ (hw _ (mgE 20 rfl)) (hw _ (mgE 9 rfl)) (by decide) (by decide)) (g := (mkF m 126 #[.val (.long q1), .second, .val (.long q2), .second, .val (.long q3), .second, .val (.int p4), .val (.long fst), .second, .val (.long lst), .second, .val (.int sel), .val (.long xx), .second, .unset, .unset] [(.int (((p4.toUInt32 >>> ((3 : Int32) &&& 31).toUInt32).toInt32) &&& (3 : Int32))), (.ref b15), (.long lst), (.long fst), (.ref b12), (.ref b12)])) rfl (by rw [hml]; rfl) (Steps.refl _) (a := b12) (argsL := [(.long fst), (.long lst), (.ref b15), (.int (((p4.toUInt32 >>> ((3 : Int32) &&& 31).toUInt32).toInt32) &&& (3 : Int32)))]) (rest := [(.ref b12)]) (lenOf pd__JJLjava_lang_String_I_V rfl) rfl (by show 2 * 0 + _ ≤ _; exact Nat.le_of_eq rfl) (hb hby at_126) (fun _ _ => ⟨rfl, e15, (by decide : 3 + 0 ≤ _), (by decide : 12 + 0 ≤ _)⟩)
  dsimp only [Pt.U, Pt.locs, Pt.cells, Pt.slots] at X23 l23 y23 z23 st23 hQ23
  subst l23 y23 z23
  obtain ⟨rfl, N23q, K23, Q23_0, Q23_1, Q23_2, Q23_3, Q23_4⟩ := hQ23
  have Z23 : n0 ≤ T23.heap.size := Nat.le_trans Z15 K23.1
  have Sz23 := Nat.le_trans Sz15 K23.1
  have pre29 : ∀ t, Steps p.tables e below (T23.setTop (mkF m 129 #[.val (.long q1), .second, .val (.long q2), .second, .val (.long q3), .second, .val (.int p4), .val (.long fst), .second, .val (.long lst), .second, .val (.int sel), .val (.long xx), .second, .unset, .unset] [(.ref b12)])) t → Steps p.tables e below (s₁.setTop (entryFrame m #[(.long q1), (.long q2), (.long q3), (.int p4)] maxLocals)) t := fun t kt => pre22 t (st23.trans kt)
  have N23 := Fr.app N6 N23q
  have pre30 : ∀ t, Steps p.tables e below (T23.setTop (mkF m 150 #[.val (.long q1), .second, .val (.long q2), .second, .val (.long q3), .second, .val (.int p4), .val (.long fst), .second, .val (.long lst), .second, .val (.int sel), .val (.long xx), .second, .val (.ref b12), .unset] [(.int (lcmpW ((xx - fst) ^^^ (-9223372036854775808 : Int64)) ((lst - fst) ^^^ (-9223372036854775808 : Int64))))])) t → Steps p.tables e below (s₁.setTop (entryFrame m #[(.long q1), (.long q2), (.long q3), (.int p4)] maxLocals)) t := fun t kt => by
    refine pre29 t ?_
    refine XS.astore X23.here hx rfl (hb hby at_129) rfl rfl (l' := #[.val (.long q1), .second, .val (.long q2), .second, .val (.long q3), .second, .val (.int p4), .val (.long fst), .second, .val (.long lst), .second, .val (.int sel), .val (.long xx), .second, .val (.ref b12), .unset]) rfl ?_
    show Steps p.tables e below (T23.setTop (mkF m 131 #[.val (.long q1), .second, .val (.long q2), .second, .val (.long q3), .second, .val (.int p4), .val (.long fst), .second, .val (.long lst), .second, .val (.int sel), .val (.long xx), .second, .val (.ref b12), .unset] [])) _
    refine XS.lload X23.here hx rfl (hb hby at_131) rfl ?_
    show Steps p.tables e below (T23.setTop (mkF m 133 #[.val (.long q1), .second, .val (.long q2), .second, .val (.long q3), .second, .val (.int p4), .val (.long fst), .second, .val (.long lst), .second, .val (.int sel), .val (.long xx), .second, .val (.ref b12), .unset] [(.long xx)])) _
    refine XS.lload X23.here hx rfl (hb hby at_133) rfl ?_
    show Steps p.tables e below (T23.setTop (mkF m 135 #[.val (.long q1), .second, .val (.long q2), .second, .val (.long q3), .second, .val (.int p4), .val (.long fst), .second, .val (.long lst), .second, .val (.int sel), .val (.long xx), .second, .val (.ref b12), .unset] [(.long fst), (.long xx)])) _
    refine XS.lsub X23.here hx rfl (hb hby at_135) rfl ?_
    show Steps p.tables e below (T23.setTop (mkF m 136 #[.val (.long q1), .second, .val (.long q2), .second, .val (.long q3), .second, .val (.int p4), .val (.long fst), .second, .val (.long lst), .second, .val (.int sel), .val (.long xx), .second, .val (.ref b12), .unset] [(.long (xx - fst))])) _
    refine X23.ldc2Long hx hown (mvT hZ (hw _ (mgE 37 rfl))) (g := (mkF m 136 #[.val (.long q1), .second, .val (.long q2), .second, .val (.long q3), .second, .val (.int p4), .val (.long fst), .second, .val (.long lst), .second, .val (.int sel), .val (.long xx), .second, .val (.ref b12), .unset] [(.long (xx - fst))])) rfl (hb hby at_136) _ ?_
    show Steps p.tables e below (T23.setTop (mkF m 139 #[.val (.long q1), .second, .val (.long q2), .second, .val (.long q3), .second, .val (.int p4), .val (.long fst), .second, .val (.long lst), .second, .val (.int sel), .val (.long xx), .second, .val (.ref b12), .unset] [(.long (-9223372036854775808 : Int64)), (.long (xx - fst))])) _
    refine XS.lxor X23.here hx rfl (hb hby at_139) rfl ?_
    show Steps p.tables e below (T23.setTop (mkF m 140 #[.val (.long q1), .second, .val (.long q2), .second, .val (.long q3), .second, .val (.int p4), .val (.long fst), .second, .val (.long lst), .second, .val (.int sel), .val (.long xx), .second, .val (.ref b12), .unset] [(.long ((xx - fst) ^^^ (-9223372036854775808 : Int64)))])) _
    refine XS.lload X23.here hx rfl (hb hby at_140) rfl ?_
    show Steps p.tables e below (T23.setTop (mkF m 142 #[.val (.long q1), .second, .val (.long q2), .second, .val (.long q3), .second, .val (.int p4), .val (.long fst), .second, .val (.long lst), .second, .val (.int sel), .val (.long xx), .second, .val (.ref b12), .unset] [(.long lst), (.long ((xx - fst) ^^^ (-9223372036854775808 : Int64)))])) _
    refine XS.lload X23.here hx rfl (hb hby at_142) rfl ?_
    show Steps p.tables e below (T23.setTop (mkF m 144 #[.val (.long q1), .second, .val (.long q2), .second, .val (.long q3), .second, .val (.int p4), .val (.long fst), .second, .val (.long lst), .second, .val (.int sel), .val (.long xx), .second, .val (.ref b12), .unset] [(.long fst), (.long lst), (.long ((xx - fst) ^^^ (-9223372036854775808 : Int64)))])) _
    refine XS.lsub X23.here hx rfl (hb hby at_144) rfl ?_
    show Steps p.tables e below (T23.setTop (mkF m 145 #[.val (.long q1), .second, .val (.long q2), .second, .val (.long q3), .second, .val (.int p4), .val (.long fst), .second, .val (.long lst), .second, .val (.int sel), .val (.long xx), .second, .val (.ref b12), .unset] [(.long (lst - fst)), (.long ((xx - fst) ^^^ (-9223372036854775808 : Int64)))])) _
    refine X23.ldc2Long hx hown (mvT hZ (hw _ (mgE 37 rfl))) (g := (mkF m 145 #[.val (.long q1), .second, .val (.long q2), .second, .val (.long q3), .second, .val (.int p4), .val (.long fst), .second, .val (.long lst), .second, .val (.int sel), .val (.long xx), .second, .val (.ref b12), .unset] [(.long (lst - fst)), (.long ((xx - fst) ^^^ (-9223372036854775808 : Int64)))])) rfl (hb hby at_145) _ ?_
    show Steps p.tables e below (T23.setTop (mkF m 148 #[.val (.long q1), .second, .val (.long q2), .second, .val (.long q3), .second, .val (.int p4), .val (.long fst), .second, .val (.long lst), .second, .val (.int sel), .val (.long xx), .second, .val (.ref b12), .unset] [(.long (-9223372036854775808 : Int64)), (.long (lst - fst)), (.long ((xx - fst) ^^^ (-9223372036854775808 : Int64)))])) _
    refine XS.lxor X23.here hx rfl (hb hby at_148) rfl ?_
    show Steps p.tables e below (T23.setTop (mkF m 149 #[.val (.long q1), .second, .val (.long q2), .second, .val (.long q3), .second, .val (.int p4), .val (.long fst), .second, .val (.long lst), .second, .val (.int sel), .val (.long xx), .second, .val (.ref b12), .unset] [(.long ((lst - fst) ^^^ (-9223372036854775808 : Int64))), (.long ((xx - fst) ^^^ (-9223372036854775808 : Int64)))])) _
    refine XS.lcmp X23.here hx rfl (hb hby at_149) rfl ?_
    show Steps p.tables e below (T23.setTop (mkF m 150 #[.val (.long q1), .second, .val (.long q2), .second, .val (.long q3), .second, .val (.int p4), .val (.long fst), .second, .val (.long lst), .second, .val (.int sel), .val (.long xx), .second, .val (.ref b12), .unset] [(.int (lcmpW ((xx - fst) ^^^ (-9223372036854775808 : Int64)) ((lst - fst) ^^^ (-9223372036854775808 : Int64))))])) _
    exact kt
  have pre31 : ∀ t, Steps p.tables e below (T23.setTop (mkF m 158 #[.val (.long q1), .second, .val (.long q2), .second, .val (.long q3), .second, .val (.int p4), .val (.long fst), .second, .val (.long lst), .second, .val (.int sel), .val (.long xx), .second, .val (.ref b12), .unset] [(.int (if (0 : Int32) < (lcmpW ((xx - fst) ^^^ (-9223372036854775808 : Int64)) ((lst - fst) ^^^ (-9223372036854775808 : Int64))) then (0 : Int32) else (1 : Int32)))])) t → Steps p.tables e below (s₁.setTop (entryFrame m #[(.long q1), (.long q2), (.long q3), (.int p4)] maxLocals)) t := fun t kt => by
    by_cases hc150 : (0 : Int32) < (lcmpW ((xx - fst) ^^^ (-9223372036854775808 : Int64)) ((lst - fst) ^^^ (-9223372036854775808 : Int64)))
    · skip
      try simp only [if_pos hc150] at kt
      refine pre30 t ?_
      refine XS.ifYes X23.here hx rfl (pc0 := 150) (pc' := 157) rfl (hb hby at_150) rfl ((if0 _ _).trans (tlt hc150).2.2.1) (by decide) (by decide) ?_
      show Steps p.tables e below (T23.setTop (mkF m 157 #[.val (.long q1), .second, .val (.long q2), .second, .val (.long q3), .second, .val (.int p4), .val (.long fst), .second, .val (.long lst), .second, .val (.int sel), .val (.long xx), .second, .val (.ref b12), .unset] [])) _
      refine XS.iconst X23.here hx rfl (hb hby at_157) ?_
      show Steps p.tables e below (T23.setTop (mkF m 158 #[.val (.long q1), .second, .val (.long q2), .second, .val (.long q3), .second, .val (.int p4), .val (.long fst), .second, .val (.long lst), .second, .val (.int sel), .val (.long xx), .second, .val (.ref b12), .unset] [(.int (0 : Int32))])) _
      exact kt
    · skip
      try simp only [if_neg hc150] at kt
      refine pre30 t ?_
      refine XS.ifNo X23.here hx rfl (hb hby at_150) rfl ((if0 _ _).trans (flt hc150).2.2.1) ?_
      show Steps p.tables e below (T23.setTop (mkF m 153 #[.val (.long q1), .second, .val (.long q2), .second, .val (.long q3), .second, .val (.int p4), .val (.long fst), .second, .val (.long lst), .second, .val (.int sel), .val (.long xx), .second, .val (.ref b12), .unset] [])) _
      refine XS.iconst X23.here hx rfl (hb hby at_153) ?_
      show Steps p.tables e below (T23.setTop (mkF m 154 #[.val (.long q1), .second, .val (.long q2), .second, .val (.long q3), .second, .val (.int p4), .val (.long fst), .second, .val (.long lst), .second, .val (.int sel), .val (.long xx), .second, .val (.ref b12), .unset] [(.int (1 : Int32))])) _
      refine XS.goto X23.here hx rfl (pc0 := 154) (pc' := 158) rfl (hb hby at_154) (by decide) (by decide) ?_
      show Steps p.tables e below (T23.setTop (mkF m 158 #[.val (.long q1), .second, .val (.long q2), .second, .val (.long q3), .second, .val (.int p4), .val (.long fst), .second, .val (.long lst), .second, .val (.int sel), .val (.long xx), .second, .val (.ref b12), .unset] [(.int (1 : Int32))])) _
      exact kt
  have pre32 : ∀ t, Steps p.tables e below (T23.setTop (mkF m 160 #[.val (.long q1), .second, .val (.long q2), .second, .val (.long q3), .second, .val (.int p4), .val (.long fst), .second, .val (.long lst), .second, .val (.int sel), .val (.long xx), .second, .val (.ref b12), .val (.int (if (0 : Int32) < (lcmpW ((xx - fst) ^^^ (-9223372036854775808 : Int64)) ((lst - fst) ^^^ (-9223372036854775808 : Int64))) then (0 : Int32) else (1 : Int32)))] [])) t → Steps p.tables e below (s₁.setTop (entryFrame m #[(.long q1), (.long q2), (.long q3), (.int p4)] maxLocals)) t := fun t kt => by
    refine pre31 t ?_
    refine XS.istore X23.here hx rfl (hb hby at_158) rfl (l' := #[.val (.long q1), .second, .val (.long q2), .second, .val (.long q3), .second, .val (.int p4), .val (.long fst), .second, .val (.long lst), .second, .val (.int sel), .val (.long xx), .second, .val (.ref b12), .val (.int (if (0 : Int32) < (lcmpW ((xx - fst) ^^^ (-9223372036854775808 : Int64)) ((lst - fst) ^^^ (-9223372036854775808 : Int64))) then (0 : Int32) else (1 : Int32)))]) rfl ?_
    show Steps p.tables e below (T23.setTop (mkF m 160 #[.val (.long q1), .second, .val (.long q2), .second, .val (.long q3), .second, .val (.int p4), .val (.long fst), .second, .val (.long lst), .second, .val (.int sel), .val (.long xx), .second, .val (.ref b12), .val (.int (if (0 : Int32) < (lcmpW ((xx - fst) ^^^ (-9223372036854775808 : Int64)) ((lst - fst) ^^^ (-9223372036854775808 : Int64))) then (0 : Int32) else (1 : Int32)))] [])) _
    exact kt
  obtain ⟨ex, h_ex⟩ : ∃ z, z = (if (0 : Int32) < (lcmpW ((xx - fst) ^^^ (-9223372036854775808 : Int64)) ((lst - fst) ^^^ (-9223372036854775808 : Int64))) then (0 : Int32) else (1 : Int32)) := ⟨_, rfl⟩
  rw [← h_ex] at pre32
  have pre33 : ∀ t, Steps p.tables e below (T23.setTop (mkF m 164 #[.val (.long q1), .second, .val (.long q2), .second, .val (.long q3), .second, .val (.int p4), .val (.long fst), .second, .val (.long lst), .second, .val (.int sel), .val (.long xx), .second, .val (.ref b12), .val (.int ex)] [(.long xx), (.ref b12)])) t → Steps p.tables e below (s₁.setTop (entryFrame m #[(.long q1), (.long q2), (.long q3), (.int p4)] maxLocals)) t := fun t kt => by
    refine pre32 t ?_
    refine XS.aload X23.here hx rfl (hb hby at_160) rfl rfl ?_
    show Steps p.tables e below (T23.setTop (mkF m 162 #[.val (.long q1), .second, .val (.long q2), .second, .val (.long q3), .second, .val (.int p4), .val (.long fst), .second, .val (.long lst), .second, .val (.int sel), .val (.long xx), .second, .val (.ref b12), .val (.int ex)] [(.ref b12)])) _
    refine XS.lload X23.here hx rfl (hb hby at_162) rfl ?_
    show Steps p.tables e below (T23.setTop (mkF m 164 #[.val (.long q1), .second, .val (.long q2), .second, .val (.long q3), .second, .val (.int p4), .val (.long fst), .second, .val (.long lst), .second, .val (.int sel), .val (.long xx), .second, .val (.ref b12), .val (.int ex)] [(.long xx), (.ref b12)])) _
    exact kt
  obtain ⟨cq34, kq34, q34a, q34b, q34c⟩ := isOf hZ rfl Q23_0
  obtain ⟨_, _, ⟨T34, L34, k34, n34⟩, -, X34, ⟨Lc34, hQ34, l34, y34, z34⟩, st34⟩ := X23.virtualBack hx (y := (⟨"com/example/transnum/transnum/model/NumberRange", "contains", "(J)Z"⟩ : MethodName)) (z := (⟨"com/example/transnum/transnum/model/NumberRange", "contains", "(J)Z"⟩ : MethodName)) hown (mvT hZ (hw _ (mgE 38 rfl))) (mvT hZ (hw _ (mgE 39 rfl))) (notFace_of_selects (args := #[]) (mvT hZ (hw _ (mgE 41 rfl)))) (mvT hZ (hw _ (mgE 41 rfl))) (mvT hZ (hw _ (mgE 40 rfl))) (by decide) (backOf (W := 0) (rm6 l Z a0 hw [] b12 xx fst lst T23.heap n0 Z23 Q23_2 Q23_3) hZ (hw _ (mgE 42 rfl)) (hw _ (mgE 9 rfl)) (by decide) (by decide)) q34a q34c (g := (mkF m 164 #[.val (.long q1), .second, .val (.long q2), .second, .val (.long q3), .second, .val (.int p4), .val (.long fst), .second, .val (.long lst), .second, .val (.int sel), .val (.long xx), .second, .val (.ref b12), .val (.int ex)] [(.long xx), (.ref b12)])) rfl (by rw [hml]; rfl) (Steps.refl _) (argsL := [(.long xx)]) (rest := []) (lenOf pd__J_Z rfl) rfl (by show 2 * 0 + _ ≤ _; exact Nat.le_of_eq rfl) (hb hby at_164) (fun _ _ => ⟨rfl, rfl, (by decide : 3 + 0 ≤ _), (by decide : 12 + 0 ≤ _)⟩)
  dsimp only [Pt.U, Pt.locs, Pt.cells, Pt.slots] at X34 l34 y34 z34 st34 hQ34
  subst l34 y34 z34
  obtain ⟨rfl, N34q, e34⟩ := hQ34
  have pre35 : ∀ t, Steps p.tables e below (T34.setTop (mkF m 167 #[.val (.long q1), .second, .val (.long q2), .second, .val (.long q3), .second, .val (.int p4), .val (.long fst), .second, .val (.long lst), .second, .val (.int sel), .val (.long xx), .second, .val (.ref b12), .val (.int ex)] [(.int (r6 xx fst lst))])) t → Steps p.tables e below (s₁.setTop (entryFrame m #[(.long q1), (.long q2), (.long q3), (.int p4)] maxLocals)) t := fun t kt => pre33 t (st34.trans kt)
  have N34 := Fr.app N23 N34q
  have hc169 : (r6 xx fst lst) = ex := (own_rng xx fst lst ord).trans h_ex.symm
  have pre36 : ∀ t, Steps p.tables e below (T34.setTop (mkF m 177 #[.val (.long q1), .second, .val (.long q2), .second, .val (.long q3), .second, .val (.int p4), .val (.long fst), .second, .val (.long lst), .second, .val (.int sel), .val (.long xx), .second, .val (.ref b12), .val (.int ex)] [(.int (1 : Int32))])) t → Steps p.tables e below (s₁.setTop (entryFrame m #[(.long q1), (.long q2), (.long q3), (.int p4)] maxLocals)) t := fun t kt => by
    refine pre35 t ?_
    refine XS.iload X34.here hx rfl (hb hby at_167) rfl ?_
    show Steps p.tables e below (T34.setTop (mkF m 169 #[.val (.long q1), .second, .val (.long q2), .second, .val (.long q3), .second, .val (.int p4), .val (.long fst), .second, .val (.long lst), .second, .val (.int sel), .val (.long xx), .second, .val (.ref b12), .val (.int ex)] [(.int ex), (.int (r6 xx fst lst))])) _
    refine XS.icmpNo X34.here hx rfl (hb hby at_169) rfl (teq hc169).2 ?_
    show Steps p.tables e below (T34.setTop (mkF m 172 #[.val (.long q1), .second, .val (.long q2), .second, .val (.long q3), .second, .val (.int p4), .val (.long fst), .second, .val (.long lst), .second, .val (.int sel), .val (.long xx), .second, .val (.ref b12), .val (.int ex)] [])) _
    refine XS.iconst X34.here hx rfl (hb hby at_172) ?_
    show Steps p.tables e below (T34.setTop (mkF m 173 #[.val (.long q1), .second, .val (.long q2), .second, .val (.long q3), .second, .val (.int p4), .val (.long fst), .second, .val (.long lst), .second, .val (.int sel), .val (.long xx), .second, .val (.ref b12), .val (.int ex)] [(.int (1 : Int32))])) _
    refine XS.goto X34.here hx rfl (pc0 := 173) (pc' := 177) rfl (hb hby at_173) (by decide) (by decide) ?_
    show Steps p.tables e below (T34.setTop (mkF m 177 #[.val (.long q1), .second, .val (.long q2), .second, .val (.long q3), .second, .val (.int p4), .val (.long fst), .second, .val (.long lst), .second, .val (.int sel), .val (.long xx), .second, .val (.ref b12), .val (.int ex)] [(.int (1 : Int32))])) _
    exact kt
  obtain ⟨fs, hr, hrun, hended, hEnd⟩ := Stand.leaveW (s := s) X34 hS15 (by rw [e34]; exact Sz23) (v := some (.int (1 : Int32))) (fun h => by rw [Bd.returns] at h; cases h)
  refine ⟨_, _, pre36 _ ?_, hrun, hended, _, _, rfl, ?_, hEnd.1, hEnd.2.1, hEnd.2.2.1, hEnd.2.2.2.mono (by decide) (by decide)⟩
  · exact retN X34 hx (t := .boolean) Bd.returns (by simp) (hb hby at_177) hr
  · show Q0 Z q1 q2 q3 p4 h0 n0 _ T34.heap _
    rw [e34]
    exact ⟨rfl, N34⟩
set_option maxRecDepth 65536 in
set_option maxHeartbeats 40000000 in
theorem comes_1 {Post : Tables → Env → Array Value → State → Outcome → State → Prop} (hpost : ∀ tb e args s v u, (limb_1_1.after args s (.returned v) u = true ∧ limb_1_2.after args s (.returned v) u = true ∧ True) → ReturnedEndW s (.returned v) u (Jvm.fieldLocs frame_1_writes args s ++ Jvm.arrayLocs frame_1_arrays args s ++ Jvm.staticLocs frame_1_statics s) 16 1152 → Post tb e args s (.returned v) u) :
    ArmFor flags0 classFile x code maxLocals ret World_1 tables_1 room_1 Calls_1 rest_1 Pre_1 Post := by
  intro l hfl _ _ p e ha hc hk s m args below hf hA hF happ hP
  obtain ⟨hcalls, hrest, hpre⟩ := hP
  obtain ⟨-, -, -, hnamed, -, -, -, hat⟩ := (Spec.applies_iff hf).mp happ
  obtain ⟨hg, hn⟩ := and_e (Cond.before_iff.mp (show (Jvm.Cond.and given_1 narrow_1).before args s = true from hpre))
  obtain ⟨g1, g2⟩ := and_e hg
  obtain ⟨g3, g4⟩ := and_e g2
  obtain ⟨g5, g6⟩ := and_e g4
  obtain ⟨g7, g8⟩ := and_e g6
  obtain ⟨w0, w1, w2, w3, rfl⟩ : ∃ w0 w1 w2 w3 : Value, args = #[w0, w1, w2, w3] := by
    have hs : args.size = 4 := by simpa [Cond.value, given_1] using g1
    obtain ⟨L⟩ := args
    match L, hs with
    | [w0, w1, w2, w3], _ => exact ⟨w0, w1, w2, w3, rfl⟩
  have hw := fun d (hd : d ∈ tables_1) => atoms_spec (ws := Jvm.Cond.code x code maxLocals ret :: tables_1) hat d (List.mem_cons_of_mem _ hd)
  have hfit : Fit s := fun {y c} hc i hi => by
    obtain ⟨ha, rfl⟩ := Array.getElem?_eq_some_iff.mp hc
    have q := List.all_eq_true.mp ((Array.all_eq_true_iff_forall_mem.mp hF) _ (Array.getElem_mem ha)) i (List.mem_range.mpr hi)
    simpa [Array.getElem?_eq_getElem hi] using q
  obtain ⟨i0, ei0⟩ := isL_v g3
  obtain rfl : w0 = (.long i0) := Option.some.inj ei0
  obtain ⟨i1, ei1⟩ := isL_v g5
  obtain rfl : w1 = (.long i1) := Option.some.inj ei1
  obtain ⟨i2, ei2⟩ := isL_v g7
  obtain rfl : w2 = (.long i2) := Option.some.inj ei2
  obtain ⟨i3, ei3⟩ := is_v g8
  obtain rfl : w3 = (.int i3) := Option.some.inj ei3
  obtain ⟨n, o, h1, h2, h3, _, L, rfl, ⟨rfl, N⟩, hq⟩ := rm0 l s _ hw tables_1 i0 i1 i2 i3 s.heap s.heap.size (Nat.le_refl _)  p e ha hc hk s m _ below hf ((Spec.applies_iff_loose hf).mp happ).1 ⟨rfl, State.Warmed39.refl s, rfl⟩ trivial
  refine ⟨n, _, h1, h2, h3, hpost _ _ _ _ _ _ ⟨Cond.after_iff.mpr rfl, Cond.after_iff.mpr (eq_i res_at (Term.int_eval (1)) rfl), trivial⟩ ⟨hq.1, hq.2.1, hq.2.2.1, (hq.2.2.2.sift fun y hy => Or.inr (N y hy)).mono (by decide) (by decide)⟩⟩
theorem main_1_1 : Claimed_1_1 := comes_1 fun _ _ _ _ _ _ h hF => ⟨h.1, hF⟩
theorem main_1_2 : Claimed_1_2 := comes_1 fun _ _ _ _ _ _ h hF => ⟨h.2.1, hF⟩
end Jvm.Pilot.@@N@@
namespace Jvm.Pilot.@@N@@
open Jvm Jvm.ClassFile Sem Op Lib Jvm.Free Jvm.Stand Jvm.Pilot.@@N@@.Jvm.D
/-! MADE BY PROGRAM (witnessworld.py) out of the Statement's table words and the real class files: 16 classes; the members and pool entries that the words name. The judged class is class 1, her method 1. -/
namespace start1
open Jvm.ClassFile
def u (s : String) : CpInfo := .utf8 (stringToUtf16 s)
/-- a pool by its gaps: so many unusable entries, then the entry; so many at the end -/
def gap : Nat → List CpInfo → List CpInfo
  | 0, r => r
  | n + 1, r => .unusable :: gap n r
def poolList (es : List (Nat × CpInfo)) (last : Nat) : List CpInfo := es.foldr (fun e r => gap e.1 (e.2 :: r)) (gap last [])
def pool (es : List (Nat × CpInfo)) (last : Nat) : Array CpInfo := ⟨poolList es last⟩
def fileOf (pool : Array CpInfo) (this : Nat) (attrs : Array Attribute := #[]) (ms : Array MethodInfo := #[]) (fl : Nat := 33) (sup : Nat := 0) (ifs : Array Nat := #[]) (fds : Array FieldInfo := #[]) : ClassFile where
  minorVersion := 0
  majorVersion := 65
  constantPool := pool
  accessFlags := fl
  thisClass := this
  superClass := sup
  interfaces := ifs
  fields := fds
  methods := ms
  attributes := attrs
def plain (name : String) (sup : Option ClassId) : Class where
  name := name
  kind := .ordinary
  loader := none
  accessFlags := 33
  super := sup
  interfaces := #[]
  cf := none
  fields := #[]
  methods := #[]
  instanceTypes := #[]
  staticTypes := #[]
  resolved := #[]
  callSites := []
  init := .initialized
  statics := none
  mirror := none

def pool0 : Array CpInfo := pool [(5, u "<init>"), (0, u "()V"), (1, .class_ 10), (1, u "java/lang/Object")] 113

def k0c0 : Code := { maxStack := 0, maxLocals := 1, code := object_method_1_code, exceptionTable := #[], attributes := #[] }
def k0m0 : Method := { name := "<init>", desc := "()V", sig := { parameters := [], returnType := none }, accessFlags := 1, code := some k0c0 }
/-- java/lang/Object -/
def k0 : Class := { plain "java/lang/Object" none with
  accessFlags := 33
  interfaces := #[]
  cf := some (fileOf pool0 8 #[] #[{ accessFlags := 1, nameIndex := 5, descriptorIndex := 6, attributes := #[] }] 33 0 #[] #[])
  fields := #[]
  methods := #[k0m0]
  instanceTypes := #[]
  staticTypes := #[]
  resolved := Array.replicate 124 none
  statics := none }

def pool1 : Array CpInfo := pool [(2, .class_ 4), (1, u "java/lang/Object"), (0, u "<init>"), (0, u "()V"), (0, .methodref 8 9), (0, .class_ 10), (0, .nameAndType 11 12), (0, u "java/lang/Math"), (0, u "min"), (0, u "(JJ)J"), (0, .methodref 8 14), (0, .nameAndType 15 12), (0, u "max"), (0, .class_ 17), (0, u "com/example/transnum/transnum/model/NumberRange"), (0, .string 19), (0, u "d"), (0, .methodref 16 21), (0, .nameAndType 5 22), (0, u "(JJLjava/lang/String;I)V"), (0, .class_ 24), (0, u "com/example/transnum/transnum/model/NumberRangeContainsPinLaw"), (0, .long 9223372036854775808), (1, .methodref 16 28), (0, .nameAndType 29 30), (0, u "contains"), (0, u "(J)Z"), (0, u "FLIP"), (0, u "J"), (3, u "law"), (0, u "(JJJI)Z")] 3

def k1m0 : Method := { name := "<init>", desc := "()V", sig := { parameters := [], returnType := none }, accessFlags := 1, code := none }
def k1c1 : Code := { maxStack := 9, maxLocals := 16, code := code, exceptionTable := #[], attributes := #[] }
def k1m1 : Method := { name := "law", desc := "(JJJI)Z", sig := { parameters := [.long, .long, .long, .int], returnType := some .boolean }, accessFlags := 9, code := some k1c1 }
/-- com/example/transnum/transnum/model/NumberRangeContainsPinLaw -/
def k1 : Class := { plain "com/example/transnum/transnum/model/NumberRangeContainsPinLaw" (some 0) with
  accessFlags := 49
  interfaces := #[]
  cf := some (fileOf pool1 23 #[] #[{ accessFlags := 1, nameIndex := 5, descriptorIndex := 6, attributes := #[] }, { accessFlags := 9, nameIndex := 36, descriptorIndex := 37, attributes := #[] }] 49 2 #[] #[{ accessFlags := 26, nameIndex := 31, descriptorIndex := 32, attributes := #[] }])
  fields := #[{ name := "FLIP", type := .long, accessFlags := 26, slot := 0, constantValue := 0 }]
  methods := #[k1m0, k1m1]
  instanceTypes := #[]
  staticTypes := #[.long]
  resolved := Array.replicate 41 none
  statics := none }

def pool2 : Array CpInfo := pool [(1, .class_ 2), (0, u "java/lang/Math"), (1, .class_ 6), (1, u "java/lang/Object"), (0, u "<init>"), (0, u "()V"), (89, .class_ 100), (1, u "java/lang/Math$RandomNumberGeneratorHolder"), (20, u "(JJ)J"), (50, u "negativeZeroFloatBits"), (0, u "J"), (2, u "negativeZeroDoubleBits"), (21, u "max"), (2, u "min"), (43, u "$assertionsDisabled"), (0, u "Z"), (91, u "twoToTheDoubleScaleDown"), (0, u "D"), (4, u "twoToTheDoubleScaleUp"), (9, u "E"), (3, u "PI"), (2, u "TAU"), (2, u "DEGREES_TO_RADIANS"), (0, u "RADIANS_TO_DEGREES")] 94

def k2m0 : Method := { name := "<init>", desc := "()V", sig := { parameters := [], returnType := none }, accessFlags := 2, code := none }
def k2c1 : Code := { maxStack := 4, maxLocals := 4, code := jdk_29_method_66_code, exceptionTable := #[], attributes := #[] }
def k2m1 : Method := { name := "max", desc := "(JJ)J", sig := { parameters := [.long, .long], returnType := some .long }, accessFlags := 9, code := some k2c1 }
def k2c2 : Code := { maxStack := 4, maxLocals := 4, code := jdk_29_method_70_code, exceptionTable := #[], attributes := #[] }
def k2m2 : Method := { name := "min", desc := "(JJ)J", sig := { parameters := [.long, .long], returnType := some .long }, accessFlags := 9, code := some k2c2 }
/-- java/lang/Math -/
def k2 : Class := { plain "java/lang/Math" (some 0) with
  accessFlags := 49
  interfaces := #[]
  cf := some (fileOf pool2 1 #[.nestMembers #[98]] #[{ accessFlags := 2, nameIndex := 7, descriptorIndex := 8, attributes := #[] }, { accessFlags := 9, nameIndex := 198, descriptorIndex := 121, attributes := #[] }, { accessFlags := 9, nameIndex := 201, descriptorIndex := 121, attributes := #[] }] 49 4 #[] #[{ accessFlags := 25, nameIndex := 354, descriptorIndex := 339, attributes := #[] }, { accessFlags := 25, nameIndex := 358, descriptorIndex := 339, attributes := #[] }, { accessFlags := 25, nameIndex := 361, descriptorIndex := 339, attributes := #[] }, { accessFlags := 26, nameIndex := 364, descriptorIndex := 339, attributes := #[] }, { accessFlags := 26, nameIndex := 365, descriptorIndex := 339, attributes := #[] }, { accessFlags := 26, nameIndex := 172, descriptorIndex := 173, attributes := #[] }, { accessFlags := 26, nameIndex := 176, descriptorIndex := 173, attributes := #[] }, { accessFlags := 8, nameIndex := 344, descriptorIndex := 339, attributes := #[] }, { accessFlags := 8, nameIndex := 338, descriptorIndex := 339, attributes := #[] }, { accessFlags := 4120, nameIndex := 245, descriptorIndex := 246, attributes := #[] }])
  fields := #[{ name := "E", type := .double, accessFlags := 25, slot := 0, constantValue := 0 }, { name := "PI", type := .double, accessFlags := 25, slot := 1, constantValue := 0 }, { name := "TAU", type := .double, accessFlags := 25, slot := 2, constantValue := 0 }, { name := "DEGREES_TO_RADIANS", type := .double, accessFlags := 26, slot := 3, constantValue := 0 }, { name := "RADIANS_TO_DEGREES", type := .double, accessFlags := 26, slot := 4, constantValue := 0 }, { name := "negativeZeroFloatBits", type := .long, accessFlags := 26, slot := 5, constantValue := 0 }, { name := "negativeZeroDoubleBits", type := .long, accessFlags := 26, slot := 6, constantValue := 0 }, { name := "twoToTheDoubleScaleUp", type := .double, accessFlags := 8, slot := 7, constantValue := 0 }, { name := "twoToTheDoubleScaleDown", type := .double, accessFlags := 8, slot := 8, constantValue := 0 }, { name := "$assertionsDisabled", type := .boolean, accessFlags := 4120, slot := 9, constantValue := 0 }]
  methods := #[k2m0, k2m1, k2m2]
  instanceTypes := #[]
  staticTypes := #[.double, .double, .double, .double, .double, .long, .long, .double, .double, .boolean]
  resolved := Array.replicate 460 none
  statics := none }

def pool3 : Array CpInfo := pool [(1, .methodref 2 3), (0, .class_ 4), (0, .nameAndType 5 6), (0, u "java/lang/Object"), (0, u "<init>"), (0, u "()V"), (0, .class_ 8), (0, u "java/lang/Record")] 13

def k3c0 : Code := { maxStack := 1, maxLocals := 1, code := jdk_30_method_1_code, exceptionTable := #[], attributes := #[] }
def k3m0 : Method := { name := "<init>", desc := "()V", sig := { parameters := [], returnType := none }, accessFlags := 4, code := some k3c0 }
/-- java/lang/Record -/
def k3 : Class := { plain "java/lang/Record" (some 0) with
  accessFlags := 1057
  interfaces := #[]
  cf := some (fileOf pool3 7 #[] #[{ accessFlags := 4, nameIndex := 5, descriptorIndex := 6, attributes := #[] }] 1057 2 #[] #[])
  fields := #[]
  methods := #[k3m0]
  instanceTypes := #[]
  staticTypes := #[]
  resolved := Array.replicate 22 none
  statics := none }

def pool4 : Array CpInfo := pool [(1, .methodref 2 3), (0, .class_ 4), (0, .nameAndType 5 6), (0, u "java/lang/Record"), (0, u "<init>"), (0, u "()V"), (0, .fieldref 8 9), (0, .class_ 10), (0, .nameAndType 11 12), (0, u "com/example/transnum/transnum/model/NumberRange"), (0, u "first"), (0, u "J"), (0, .fieldref 8 14), (0, .nameAndType 15 12), (0, u "last"), (0, .fieldref 8 17), (0, .nameAndType 18 19), (0, u "donor"), (0, u "Ljava/lang/String;"), (0, .fieldref 8 21), (0, .nameAndType 22 23), (0, u "typeOfNumber"), (0, u "I"), (2, u "NUMBER"), (0, u "Ljava/util/regex/Pattern;"), (80, u "SHORTEST"), (2, u "HIGHEST"), (0, u "(JJLjava/lang/String;I)V"), (7, u "contains"), (0, u "(J)Z")] 37

def k4c0 : Code := { maxStack := 3, maxLocals := 7, code := prog_62_method_1_code, exceptionTable := #[], attributes := #[] }
def k4m0 : Method := { name := "<init>", desc := "(JJLjava/lang/String;I)V", sig := { parameters := [.long, .long, (.object "java/lang/String"), .int], returnType := none }, accessFlags := 1, code := some k4c0 }
def k4c1 : Code := { maxStack := 4, maxLocals := 3, code := prog_62_method_4_code, exceptionTable := #[], attributes := #[] }
def k4m1 : Method := { name := "contains", desc := "(J)Z", sig := { parameters := [.long], returnType := some .boolean }, accessFlags := 1, code := some k4c1 }
/-- com/example/transnum/transnum/model/NumberRange -/
def k4 : Class := { plain "com/example/transnum/transnum/model/NumberRange" (some 3) with
  accessFlags := 49
  interfaces := #[]
  cf := some (fileOf pool4 8 #[] #[{ accessFlags := 1, nameIndex := 5, descriptorIndex := 112, attributes := #[] }, { accessFlags := 1, nameIndex := 120, descriptorIndex := 121, attributes := #[] }] 49 2 #[] #[{ accessFlags := 18, nameIndex := 11, descriptorIndex := 12, attributes := #[] }, { accessFlags := 18, nameIndex := 15, descriptorIndex := 12, attributes := #[] }, { accessFlags := 18, nameIndex := 18, descriptorIndex := 19, attributes := #[] }, { accessFlags := 18, nameIndex := 22, descriptorIndex := 23, attributes := #[] }, { accessFlags := 26, nameIndex := 26, descriptorIndex := 27, attributes := #[] }, { accessFlags := 26, nameIndex := 108, descriptorIndex := 23, attributes := #[] }, { accessFlags := 26, nameIndex := 111, descriptorIndex := 12, attributes := #[] }])
  fields := #[{ name := "first", type := .long, accessFlags := 18, slot := 0, constantValue := 0 }, { name := "last", type := .long, accessFlags := 18, slot := 1, constantValue := 0 }, { name := "donor", type := (.object "java/lang/String"), accessFlags := 18, slot := 2, constantValue := 0 }, { name := "typeOfNumber", type := .int, accessFlags := 18, slot := 3, constantValue := 0 }, { name := "NUMBER", type := (.object "java/util/regex/Pattern"), accessFlags := 26, slot := 0, constantValue := 0 }, { name := "SHORTEST", type := .int, accessFlags := 26, slot := 1, constantValue := 0 }, { name := "HIGHEST", type := .long, accessFlags := 26, slot := 2, constantValue := 0 }]
  methods := #[k4m0, k4m1]
  instanceTypes := #[.long, .long, (.object "java/lang/String"), .int]
  staticTypes := #[(.object "java/util/regex/Pattern"), .int, .long]
  resolved := Array.replicate 159 none
  statics := none }

def pool5 : Array CpInfo := pool [(1, .class_ 2), (0, u "java/io/Serializable"), (0, .class_ 4), (0, u "java/lang/Object")] 2

/-- java/io/Serializable -/
def k5 : Class := { plain "java/io/Serializable" (some 0) with
  accessFlags := 1537
  interfaces := #[]
  cf := some (fileOf pool5 1 #[] #[] 1537 3 #[] #[])
  fields := #[]
  methods := #[]
  instanceTypes := #[]
  staticTypes := #[]
  resolved := Array.replicate 7 none
  statics := none }

def pool6 : Array CpInfo := pool [(1, .class_ 2), (0, u "java/lang/Comparable"), (0, .class_ 4), (0, u "java/lang/Object")] 7

/-- java/lang/Comparable -/
def k6 : Class := { plain "java/lang/Comparable" (some 0) with
  accessFlags := 1537
  interfaces := #[]
  cf := some (fileOf pool6 1 #[] #[] 1537 3 #[] #[])
  fields := #[]
  methods := #[]
  instanceTypes := #[]
  staticTypes := #[]
  resolved := Array.replicate 12 none
  statics := none }

def pool7 : Array CpInfo := pool [(2, .class_ 4), (1, u "java/lang/CharSequence"), (42, .class_ 48), (0, u "java/lang/CharSequence$1CodePointIterator"), (10, .class_ 60), (0, u "java/lang/CharSequence$1CharIterator"), (5, .class_ 67), (0, u "java/lang/Object")] 63

/-- java/lang/CharSequence -/
def k7 : Class := { plain "java/lang/CharSequence" (some 0) with
  accessFlags := 1537
  interfaces := #[]
  cf := some (fileOf pool7 2 #[.nestMembers #[47, 59]] #[] 1537 66 #[] #[])
  fields := #[]
  methods := #[]
  instanceTypes := #[]
  staticTypes := #[]
  resolved := Array.replicate 131 none
  statics := none }

def pool8 : Array CpInfo := pool [(1, .class_ 2), (0, u "java/lang/constant/Constable"), (0, .class_ 4), (0, u "java/lang/Object")] 6

/-- java/lang/constant/Constable -/
def k8 : Class := { plain "java/lang/constant/Constable" (some 0) with
  accessFlags := 1537
  interfaces := #[]
  cf := some (fileOf pool8 1 #[] #[] 1537 3 #[] #[])
  fields := #[]
  methods := #[]
  instanceTypes := #[]
  staticTypes := #[]
  resolved := Array.replicate 11 none
  statics := none }

def pool9 : Array CpInfo := pool [(1, .class_ 2), (0, u "java/lang/constant/ConstantDesc"), (0, .class_ 4), (0, u "java/lang/Object")] 32

/-- java/lang/constant/ConstantDesc -/
def k9 : Class := { plain "java/lang/constant/ConstantDesc" (some 0) with
  accessFlags := 1537
  interfaces := #[]
  cf := some (fileOf pool9 1 #[] #[] 1537 3 #[] #[])
  fields := #[]
  methods := #[]
  instanceTypes := #[]
  staticTypes := #[]
  resolved := Array.replicate 37 none
  statics := none }

def pool10 : Array CpInfo := pool [(2, .class_ 4), (1, u "java/lang/Object"), (0, u "<init>"), (0, u "()V"), (3, .class_ 12), (1, u "java/lang/String"), (0, u "value"), (0, u "[B"), (2, u "coder"), (0, u "B"), (2, u "hash"), (0, u "I"), (2, u "hashIsZero"), (0, u "Z"), (13, u "COMPACT_STRINGS"), (534, .class_ 576), (0, u "java/lang/CharSequence"), (22, u "CASE_INSENSITIVE_ORDER"), (0, u "Ljava/util/Comparator;"), (500, u "serialPersistentFields"), (0, u "[Ljava/io/ObjectStreamField;"), (0, .class_ 1104), (0, u "java/lang/String$CaseInsensitiveComparator"), (1, .class_ 1107), (0, u "java/io/Serializable"), (0, .class_ 1109), (0, u "java/lang/Comparable"), (0, .class_ 1111), (0, u "java/lang/constant/Constable"), (0, .class_ 1113), (0, u "java/lang/constant/ConstantDesc"), (2, u "serialVersionUID"), (0, u "J"), (3, u "REPL"), (0, u "C"), (2, u "LATIN1"), (1, u "UTF16")] 323

def k10m0 : Method := { name := "<init>", desc := "()V", sig := { parameters := [], returnType := none }, accessFlags := 1, code := none }
/-- java/lang/String -/
def k10 : Class := { plain "java/lang/String" (some 0) with
  accessFlags := 49
  interfaces := #[5, 6, 7, 8, 9]
  cf := some (fileOf pool10 10 #[.nestMembers #[1103]] #[{ accessFlags := 1, nameIndex := 5, descriptorIndex := 6, attributes := #[] }] 49 2 #[1106, 1108, 575, 1110, 1112] #[{ accessFlags := 18, nameIndex := 13, descriptorIndex := 14, attributes := #[] }, { accessFlags := 18, nameIndex := 17, descriptorIndex := 18, attributes := #[] }, { accessFlags := 2, nameIndex := 21, descriptorIndex := 22, attributes := #[] }, { accessFlags := 2, nameIndex := 25, descriptorIndex := 26, attributes := #[] }, { accessFlags := 26, nameIndex := 1116, descriptorIndex := 1117, attributes := #[] }, { accessFlags := 24, nameIndex := 40, descriptorIndex := 26, attributes := #[] }, { accessFlags := 26, nameIndex := 1101, descriptorIndex := 1102, attributes := #[] }, { accessFlags := 26, nameIndex := 1121, descriptorIndex := 1122, attributes := #[] }, { accessFlags := 25, nameIndex := 599, descriptorIndex := 600, attributes := #[] }, { accessFlags := 24, nameIndex := 1125, descriptorIndex := 18, attributes := #[] }, { accessFlags := 24, nameIndex := 1127, descriptorIndex := 18, attributes := #[] }])
  fields := #[{ name := "value", type := (.array .byte), accessFlags := 18, slot := 0, constantValue := 0 }, { name := "coder", type := .byte, accessFlags := 18, slot := 1, constantValue := 0 }, { name := "hash", type := .int, accessFlags := 2, slot := 2, constantValue := 0 }, { name := "hashIsZero", type := .boolean, accessFlags := 2, slot := 3, constantValue := 0 }, { name := "serialVersionUID", type := .long, accessFlags := 26, slot := 0, constantValue := 0 }, { name := "COMPACT_STRINGS", type := .boolean, accessFlags := 24, slot := 1, constantValue := 0 }, { name := "serialPersistentFields", type := (.array (.object "java/io/ObjectStreamField")), accessFlags := 26, slot := 2, constantValue := 0 }, { name := "REPL", type := .char, accessFlags := 26, slot := 3, constantValue := 0 }, { name := "CASE_INSENSITIVE_ORDER", type := (.object "java/util/Comparator"), accessFlags := 25, slot := 4, constantValue := 0 }, { name := "LATIN1", type := .byte, accessFlags := 24, slot := 5, constantValue := 0 }, { name := "UTF16", type := .byte, accessFlags := 24, slot := 6, constantValue := 0 }]
  methods := #[k10m0]
  instanceTypes := #[(.array .byte), .byte, .int, .boolean]
  staticTypes := #[.long, .boolean, (.array (.object "java/io/ObjectStreamField")), .char, (.object "java/util/Comparator"), .byte, .byte]
  resolved := Array.replicate 1451 none
  statics := none }

def pool11 : Array CpInfo := pool [(1, u "java/lang/Cloneable"), (0, .class_ 1), (0, u "java/lang/Object"), (0, .class_ 3)] 3

/-- java/lang/Cloneable -/
def k11 : Class := { plain "java/lang/Cloneable" (some 0) with
  accessFlags := 1537
  interfaces := #[]
  cf := some (fileOf pool11 2 #[] #[] 1537 4 #[] #[])
  fields := #[]
  methods := #[]
  instanceTypes := #[]
  staticTypes := #[]
  resolved := Array.replicate 8 none
  statics := none }

/-- the primitive byte -/
def k12 : Class := { plain "byte" none with kind := .primitive 'B', accessFlags := 0x411 }
/-- [B -/
def k13 : Class := { plain "[B" (some 0) with kind := .array 12 .byte, interfaces := #[11, 5], accessFlags := 1041 }

/-- the primitive int -/
def k14 : Class := { plain "int" none with kind := .primitive 'I', accessFlags := 0x411 }
/-- [I -/
def k15 : Class := { plain "[I" (some 0) with kind := .array 14 .int, interfaces := #[11, 5], accessFlags := 1041 }

def heap : Heap := #[]
def classes : Array Class := #[k0, k1, k2, k3, k4, k5, k6, k7, k8, k9, k10, k11, k12, k13, k14, k15]
def interned : List (Array UInt16 × Addr) := []
def slotsUsed : Nat := 0
def theMethod : MethodId := ⟨1, 1⟩
def args0 : Array Value := #[.long 5, .long 3, .long 9, .int 4]
def aboutOver (below : List Frame) : State where
  vm := { classes := classes, interned := interned.toArray }
  heap := heap
  slotsUsed := slotsUsed
  threads := #[{ frames := .invoking theMethod args0 :: below }]
def below0 : List Frame := [.native { method := ⟨0, 0⟩, args := #[] }]
def about1 : State := aboutOver below0
def p0 : Program := .bare "" "" ""
def e0 : Env := launch0.env 0 0 0
theorem w_frames : about1.frames = Frame.invoking theMethod args0 :: below0 := rfl
set_option maxRecDepth 65536 in
theorem w_args : argsFit about1.vm theMethod args0 = true := by decide +kernel
set_option maxRecDepth 65536 in
theorem w_heap : heapFits about1 = true := by decide +kernel
set_option maxRecDepth 65536 in
theorem w_runnable : about1.curStatus? = some .runnable := by decide +kernel
set_option maxRecDepth 65536 in
theorem w_alone : about1.alone = true := by decide +kernel
set_option maxRecDepth 65536 in
theorem w_named : about1.methodNamed? x = some theMethod := by decide +kernel
set_option maxRecDepth 65536 in
theorem w_hears : about1.hears theMethod below0 = true := by decide +kernel
set_option maxRecDepth 65536 in
theorem w_ripe : about1.ripe theMethod args0 below0 = true := by decide +kernel
theorem w_running : about1.status = .running := rfl
set_option maxRecDepth 65536 in
theorem w_room : about1.hasRoom e0.platform room_1 = true :=
  launch0.hasRoom_least _ room_1 (by decide +kernel) (by decide +kernel) (by decide +kernel) (by decide +kernel) (by decide +kernel) (by decide +kernel)
theorem allAtoms_all (ts : List Jvm.Cond) (a : Array Jvm.Value) (st : Jvm.State) : (allAtoms ts).before a st = ts.all (fun c => c.before a st) := by
  induction ts with
  | nil => rfl
  | cons c t ih =>
    show (Jvm.Cond.and c (allAtoms t)).before a st = _
    rw [Jvm.Cond.before_and, ih, List.all_cons]
def words1 : List Jvm.Cond := Jvm.Cond.code x code maxLocals ret :: tables_1
/-- a 'code' word, met by the world's own term for the bytes: nothing is compared byte by byte -/
theorem code_word {y : MethodName} {bytes : ByteArray} {mx : Nat} {rt : Option FieldType} {a : Array Value} {s : State} {m : MethodId} {meth : Method} {c : Code} (h1 : s.methodNamed? y = some m) (h2 : s.vm.method? m = some meth) (h3 : meth.code = some c) (h4 : c.code = bytes)
    (h5 : (c.maxLocals == mx && c.exceptionTable.isEmpty && decide (c.maxStack ≤ mostOperands) && decide (meth.sig.returnType = rt) && !meth.locks && decide (parseMethodDescriptor y.desc = some meth.sig)) = true) : (Jvm.Cond.code y bytes mx rt).before a s = true := by
  simp only [Bool.and_eq_true, beq_iff_eq, Bool.not_eq_true', decide_eq_true_eq] at h5
  obtain ⟨⟨⟨⟨⟨g1, g2⟩, g3⟩, g4⟩, g5⟩, g6⟩ := h5
  simp [Cond.before, Cond.holds, Cond.value, h1, h2, h3, h4, g1, g2, g3, g4, g5, g6]
def isCode : Jvm.Cond → Bool
  | .code _ _ _ _ => true
  | _ => false
theorem all_split {L : List Jvm.Cond} {P : Jvm.Cond → Bool} (h1 : L.all (fun c => isCode c || P c) = true) (h2 : ∀ c ∈ L.filter isCode, P c = true) : L.all P = true := by
  refine List.all_eq_true.mpr fun c hc => ?_
  have h := List.all_eq_true.mp h1 c hc
  rcases Bool.eq_false_or_eq_true (isCode c) with hi | hi
  · exact h2 c (List.mem_filter.mpr ⟨hc, hi⟩)
  · simpa [hi] using h
set_option maxRecDepth 65536 in
theorem w_c0 : (Jvm.Cond.code x code maxLocals ret).before args0 about1 = true := code_word (m := ⟨1, 1⟩) (meth := k1m1) (c := k1c1) (by decide +kernel) rfl rfl rfl (by decide +kernel)
set_option maxRecDepth 65536 in
theorem w_c1 : (Jvm.Cond.code ({ cls := "java/lang/Math", name := "min", desc := "(JJ)J" } : Jvm.MethodName) jdk_29_method_70_code (4 : Nat) (Option.some Jvm.ClassFile.FieldType.long)).before args0 about1 = true := code_word (m := ⟨2, 2⟩) (meth := k2m2) (c := k2c2) (by decide +kernel) rfl rfl rfl (by decide +kernel)
set_option maxRecDepth 65536 in
theorem w_c2 : (Jvm.Cond.code ({ cls := "java/lang/Math", name := "max", desc := "(JJ)J" } : Jvm.MethodName) jdk_29_method_66_code (4 : Nat) (Option.some Jvm.ClassFile.FieldType.long)).before args0 about1 = true := code_word (m := ⟨2, 1⟩) (meth := k2m1) (c := k2c1) (by decide +kernel) rfl rfl rfl (by decide +kernel)
set_option maxRecDepth 65536 in
theorem w_c3 : (Jvm.Cond.code ({ cls := "com/example/transnum/transnum/model/NumberRange", name := "<init>", desc := "(JJLjava/lang/String;I)V" } : Jvm.MethodName) prog_62_method_1_code (7 : Nat) (Option.none : Option Jvm.ClassFile.FieldType)).before args0 about1 = true := code_word (m := ⟨4, 0⟩) (meth := k4m0) (c := k4c0) (by decide +kernel) rfl rfl rfl (by decide +kernel)
set_option maxRecDepth 65536 in
theorem w_c4 : (Jvm.Cond.code ({ cls := "java/lang/Record", name := "<init>", desc := "()V" } : Jvm.MethodName) jdk_30_method_1_code (1 : Nat) (Option.none : Option Jvm.ClassFile.FieldType)).before args0 about1 = true := code_word (m := ⟨3, 0⟩) (meth := k3m0) (c := k3c0) (by decide +kernel) rfl rfl rfl (by decide +kernel)
set_option maxRecDepth 65536 in
theorem w_c5 : (Jvm.Cond.code ({ cls := "java/lang/Object", name := "<init>", desc := "()V" } : Jvm.MethodName) object_method_1_code (1 : Nat) (Option.none : Option Jvm.ClassFile.FieldType)).before args0 about1 = true := code_word (m := ⟨0, 0⟩) (meth := k0m0) (c := k0c0) (by decide +kernel) rfl rfl rfl (by decide +kernel)
set_option maxRecDepth 65536 in
theorem w_c6 : (Jvm.Cond.code ({ cls := "com/example/transnum/transnum/model/NumberRange", name := "contains", desc := "(J)Z" } : Jvm.MethodName) prog_62_method_4_code (3 : Nat) (Option.some Jvm.ClassFile.FieldType.boolean)).before args0 about1 = true := code_word (m := ⟨4, 1⟩) (meth := k4m1) (c := k4c1) (by decide +kernel) rfl rfl rfl (by decide +kernel)
def codes1 : List Jvm.Cond := [Jvm.Cond.code x code maxLocals ret, Jvm.Cond.code ({ cls := "java/lang/Math", name := "min", desc := "(JJ)J" } : Jvm.MethodName) jdk_29_method_70_code (4 : Nat) (Option.some Jvm.ClassFile.FieldType.long), Jvm.Cond.code ({ cls := "java/lang/Math", name := "max", desc := "(JJ)J" } : Jvm.MethodName) jdk_29_method_66_code (4 : Nat) (Option.some Jvm.ClassFile.FieldType.long), Jvm.Cond.code ({ cls := "com/example/transnum/transnum/model/NumberRange", name := "<init>", desc := "(JJLjava/lang/String;I)V" } : Jvm.MethodName) prog_62_method_1_code (7 : Nat) (Option.none : Option Jvm.ClassFile.FieldType), Jvm.Cond.code ({ cls := "java/lang/Record", name := "<init>", desc := "()V" } : Jvm.MethodName) jdk_30_method_1_code (1 : Nat) (Option.none : Option Jvm.ClassFile.FieldType), Jvm.Cond.code ({ cls := "java/lang/Object", name := "<init>", desc := "()V" } : Jvm.MethodName) object_method_1_code (1 : Nat) (Option.none : Option Jvm.ClassFile.FieldType), Jvm.Cond.code ({ cls := "com/example/transnum/transnum/model/NumberRange", name := "contains", desc := "(J)Z" } : Jvm.MethodName) prog_62_method_4_code (3 : Nat) (Option.some Jvm.ClassFile.FieldType.boolean)]
set_option maxRecDepth 65536 in
theorem codes_eq : words1.filter isCode = codes1 := rfl
theorem w_codes : ∀ c ∈ words1.filter isCode, c.before args0 about1 = true := by
  rw [codes_eq]
  intro c hc
  simp only [codes1, List.mem_cons, List.not_mem_nil, or_false] at hc
  rcases hc with rfl | rfl | rfl | rfl | rfl | rfl | rfl
  · exact w_c0
  · exact w_c1
  · exact w_c2
  · exact w_c3
  · exact w_c4
  · exact w_c5
  · exact w_c6
set_option maxRecDepth 65536 in
theorem w_t1 : (words1.take 24).all (fun c => isCode c || c.before args0 about1) = true := by decide +kernel
set_option maxRecDepth 65536 in
theorem w_t2 : (words1.drop 24).all (fun c => isCode c || c.before args0 about1) = true := by decide +kernel
theorem w_tables : (allAtoms (Jvm.Cond.code x code maxLocals ret :: tables_1)).before args0 about1 = true := by
  rw [allAtoms_all]
  show words1.all (fun c => c.before args0 about1) = true
  refine all_split ?_ w_codes
  rw [← List.take_append_drop 24 words1, List.all_append, w_t1, w_t2]
  rfl
set_option maxRecDepth 65536 in
theorem w_case : (Jvm.Cond.and given_1 narrow_1).before args0 about1 = true := by decide +kernel
theorem w_applies : (headSpec (Jvm.Cond.code x code maxLocals ret :: tables_1) room_1).applies x e0.platform about1 = true :=
  (Spec.applies_iff w_frames).mpr ⟨w_running, w_runnable, w_alone, w_named, w_hears, w_ripe, w_room, w_tables⟩
theorem atStart : AtStart classFile x code maxLocals ret World_1 tables_1 room_1 Calls_1 rest_1 Pre_1 launch0 p0 e0 about1 theMethod args0 below0 :=
  ⟨lists_1, trivial, launch0.admits_env _ _ _, launch0.least_env, fairChoices_fair.cas, fairChoices_fair.clock, w_frames, w_args, w_heap, w_applies, trivial, trivial, w_case⟩
end start1
theorem witness_1 : WitnessClaimed_1 := ⟨start1.p0, start1.e0, start1.about1, start1.theMethod, start1.args0, start1.below0, start1.atStart⟩
end Jvm.Pilot.@@N@@
