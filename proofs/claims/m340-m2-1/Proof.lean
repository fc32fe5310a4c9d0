import JvmDerived
import JvmDerived.Pilot.@@N@@Statement
import JvmDerived.Pilot.@@N@@Code
set_option linter.unusedVariables false
set_option linter.unusedSimpArgs false
namespace Jvm.RoadKit
open Sem ClassFile Op Lib Jvm.Stand Jvm.Free Jvm.LawKit
section New
variable {p : Program} {l : Launch} {e : Env} {R : Room} {s : State} {m : MethodId} {args : Array Value} {below : List Frame} {meth : Method} {c : Code} {T : State} {locs : List Loc} {cells slots : Nat}
theorem retI (X : Stand p l e R s m args below meth c T locs cells slots) (hx : p.tables.exec = Jvm.exec) {pc : Nat} {Ls : Array Slot} {z : Int32} {rest : List Value} (hret : meth.sig.returnType = some .int) (hd : decode c.code pc = .ok (.ireturn, 1)) {fs : List Frame}
    (hl : ∀ (f : JFrame) (acts : List Action), f.method = m → f.locked = none → f.entered = [] → (doReturn e (T.setTop f) acts (some (.int z))).1 = T.setFrames fs) : Steps p.tables e below (T.setTop (mkF m pc Ls (.int z :: rest))) (T.setFrames fs) := by
  have hm' : T.vm.method? m = some meth := X.method'
  have hn : narrow .int (.int z) = .int z := rfl
  show Steps p.tables e below (T.setTop { method := m, pc := pc, locals := Ls, stack := _ :: rest, locked := none }) _
  jvm_step X.here [X.here.top, hx, hd, hm', hret, hn]
  first | (intro acts; rw [hl _ acts rfl rfl rfl]) | rw [hl _ _ rfl rfl rfl]
  exact Steps.refl _
end New
end Jvm.RoadKit
namespace Jvm.Pilot.@@N@@
open Jvm Jvm.ClassFile Sem Op Lib Jvm.Free Jvm.Stand Jvm.LawKit Jvm.RoadKit Bundle Jvm.Pilot.@@N@@.Jvm.D
theorem mgE {A : Type} {l : List A} {a : A} (i : Nat) (h : l[i]? = some a) : a ∈ l := List.mem_of_getElem? h

theorem d1_0 : decode jdk_29_method_70_code 0 = .ok (.lload_n 0, 1) := by decide +kernel
theorem d1_1 : decode jdk_29_method_70_code 1 = .ok (.lload_n 2, 1) := by decide +kernel
theorem d1_2 : decode jdk_29_method_70_code 2 = .ok (.lcmp, 1) := by decide +kernel
theorem d1_3 : decode jdk_29_method_70_code 3 = .ok (.ifCond .gt 7, 3) := by decide +kernel
theorem d1_6 : decode jdk_29_method_70_code 6 = .ok (.lload_n 0, 1) := by decide +kernel
theorem d1_7 : decode jdk_29_method_70_code 7 = .ok (.goto 4, 3) := by decide +kernel
theorem d1_10 : decode jdk_29_method_70_code 10 = .ok (.lload_n 2, 1) := by decide +kernel
theorem d1_11 : decode jdk_29_method_70_code 11 = .ok (.lreturn, 1) := by decide +kernel
theorem ef_1 (m : MethodId) (x0 : Int64) (x1 : Int64) : entryFrame m #[(.long x0), (.long x1)] 4 = mkF m 0 #[.val (.long x0), .second, .val (.long x1), .second] [] := by first | (simp [entryFrame, mkF, argsToLocals, Value.category]; done) | rfl
def r1 (q1 : Int64) (q2 : Int64) : Int64 := (if (0 : Int32) < (lcmpW q1 q2) then q2 else q1)
def Q1 (Z : State) (q1 : Int64) (q2 : Int64) (h0 : Heap) (n0 : Nat) (v : Option Value) (h : Heap) (L : List Loc) : Prop := v = some (.long (r1 q1 q2)) ∧ Fr n0 L ∧ h = h0
set_option maxRecDepth 65536 in
set_option maxHeartbeats 40000000 in
theorem rm1 (l : Launch) (Z : State) (a0 : Array Value) (hw : ∀ d ∈ tables_1, d.before a0 Z = true) (ws : List Jvm.Cond) (q1 : Int64) (q2 : Int64) (h0 : Heap) (n0 : Nat) (Z0 : n0 ≤ h0.size)  :
    MetFree l (⟨"java/lang/Math", "min", "(JJ)J"⟩ : MethodName) (head1 (Jvm.Cond.code (⟨"java/lang/Math", "min", "(JJ)J"⟩ : MethodName) jdk_29_method_70_code 4 (some .long) :: ws) ({ frames := 0, cells := 0, slots := 0, locals := 0 } : Room)) (fun a U => a = #[(.long q1), (.long q2)] ∧ Z.Warmed39 U.vm ∧ U.heap = h0) (fun _ _ _ _ _ => True) (fun _ U o U' => ∃ v L, o = .returned v ∧ Q1 Z q1 q2 h0 n0 v U'.heap L ∧ FrameEnd U o U' L ({ frames := 0, cells := 0, slots := 0, locals := 0 } : Room).cells ({ frames := 0, cells := 0, slots := 0, locals := 0 } : Room).slots) := by
  refine MetFree.of_bodySF (Jvm.Free.JP.mathPlain rfl (by decide +kernel)) hisR ?_
  intro p e s m args below meth c s₁ Bd hml0 hP hK
  obtain ⟨rfl, hZ, hh⟩ := hP
  have hx := Bd.exec
  have hby := Bd.bytes
  have hml : c.maxLocals = 4 := hml0
  have hown : s.vm.findClass "java/lang/Math" = some m.cls := findClass_of_methodNamed Bd.named
  have hnm := (name_of_methodNamed Bd.named Bd.method).1
  have X0 : Stand p l e ({ frames := 0, cells := 0, slots := 0, locals := 0 } : Room) s m #[(.long q1), (.long q2)] below meth c s₁ [] 0 0 := Stand.of_body Bd
  have e0 : s₁.heap = h0 := by rw [← hh, Bd.state]; rfl
  have N0 := Fr.nil n0
  have pre0 : ∀ t, Steps p.tables e below (s₁.setTop (mkF m 0 #[.val (.long q1), .second, .val (.long q2), .second] [])) t → Steps p.tables e below (s₁.setTop (entryFrame m #[(.long q1), (.long q2)] 4)) t := fun t k => castTop (ef_1 m q1 q2) k
  by_cases hc3 : (0 : Int32) < (lcmpW q1 q2)
  · skip
    have pre1 : ∀ t, Steps p.tables e below (s₁.setTop (mkF m 11 #[.val (.long q1), .second, .val (.long q2), .second] [(.long q2)])) t → Steps p.tables e below (s₁.setTop (entryFrame m #[(.long q1), (.long q2)] 4)) t := fun t kt => by
      refine pre0 t ?_
      refine XS.lloadN X0.here hx rfl (hb hby d1_0) rfl ?_
      show Steps p.tables e below (s₁.setTop (mkF m 1 #[.val (.long q1), .second, .val (.long q2), .second] [(.long q1)])) _
      refine XS.lloadN X0.here hx rfl (hb hby d1_1) rfl ?_
      show Steps p.tables e below (s₁.setTop (mkF m 2 #[.val (.long q1), .second, .val (.long q2), .second] [(.long q2), (.long q1)])) _
      refine XS.lcmp X0.here hx rfl (hb hby d1_2) rfl ?_
      show Steps p.tables e below (s₁.setTop (mkF m 3 #[.val (.long q1), .second, .val (.long q2), .second] [(.int (lcmpW q1 q2))])) _
      refine XS.ifYes X0.here hx rfl (pc0 := 3) (pc' := 10) rfl (hb hby d1_3) rfl ((if0 _ _).trans (tlt hc3).2.2.1) (by decide) (by decide) ?_
      show Steps p.tables e below (s₁.setTop (mkF m 10 #[.val (.long q1), .second, .val (.long q2), .second] [])) _
      refine XS.lloadN X0.here hx rfl (hb hby d1_10) rfl ?_
      show Steps p.tables e below (s₁.setTop (mkF m 11 #[.val (.long q1), .second, .val (.long q2), .second] [(.long q2)])) _
      exact kt
    obtain ⟨fs, hr, hrun, hended, hW, hsame⟩ := X0.leave (v := some (.long q2)) (fun h => by rw [Bd.returns] at h; cases h)
    refine ⟨_, _, pre1 _ ?_, hrun, hended, _, _, rfl, ?_, ⟨_, rfl⟩, hW, hsame.mono (by decide) (by decide)⟩
    · jvm_step X0.here [X0.here.top, hx, (hb hby d1_11), X0.method', Bd.returns, narrow]
      first | (intro acts; rw [hr _ acts rfl rfl rfl]) | rw [hr _ _ rfl rfl rfl]
      exact Steps.refl _
    · show Q1 Z q1 q2 h0 n0 _ s₁.heap _
      rw [e0]
      exact ⟨by first | rfl | (simp only [r1, if_pos hc3]), N0, rfl⟩
  · skip
    have pre2 : ∀ t, Steps p.tables e below (s₁.setTop (mkF m 11 #[.val (.long q1), .second, .val (.long q2), .second] [(.long q1)])) t → Steps p.tables e below (s₁.setTop (entryFrame m #[(.long q1), (.long q2)] 4)) t := fun t kt => by
      refine pre0 t ?_
      refine XS.lloadN X0.here hx rfl (hb hby d1_0) rfl ?_
      show Steps p.tables e below (s₁.setTop (mkF m 1 #[.val (.long q1), .second, .val (.long q2), .second] [(.long q1)])) _
      refine XS.lloadN X0.here hx rfl (hb hby d1_1) rfl ?_
      show Steps p.tables e below (s₁.setTop (mkF m 2 #[.val (.long q1), .second, .val (.long q2), .second] [(.long q2), (.long q1)])) _
      refine XS.lcmp X0.here hx rfl (hb hby d1_2) rfl ?_
      show Steps p.tables e below (s₁.setTop (mkF m 3 #[.val (.long q1), .second, .val (.long q2), .second] [(.int (lcmpW q1 q2))])) _
      refine XS.ifNo X0.here hx rfl (hb hby d1_3) rfl ((if0 _ _).trans (flt hc3).2.2.1) ?_
      show Steps p.tables e below (s₁.setTop (mkF m 6 #[.val (.long q1), .second, .val (.long q2), .second] [])) _
      refine XS.lloadN X0.here hx rfl (hb hby d1_6) rfl ?_
      show Steps p.tables e below (s₁.setTop (mkF m 7 #[.val (.long q1), .second, .val (.long q2), .second] [(.long q1)])) _
      refine XS.goto X0.here hx rfl (pc0 := 7) (pc' := 11) rfl (hb hby d1_7) (by decide) (by decide) ?_
      show Steps p.tables e below (s₁.setTop (mkF m 11 #[.val (.long q1), .second, .val (.long q2), .second] [(.long q1)])) _
      exact kt
    obtain ⟨fs, hr, hrun, hended, hW, hsame⟩ := X0.leave (v := some (.long q1)) (fun h => by rw [Bd.returns] at h; cases h)
    refine ⟨_, _, pre2 _ ?_, hrun, hended, _, _, rfl, ?_, ⟨_, rfl⟩, hW, hsame.mono (by decide) (by decide)⟩
    · jvm_step X0.here [X0.here.top, hx, (hb hby d1_11), X0.method', Bd.returns, narrow]
      first | (intro acts; rw [hr _ acts rfl rfl rfl]) | rw [hr _ _ rfl rfl rfl]
      exact Steps.refl _
    · show Q1 Z q1 q2 h0 n0 _ s₁.heap _
      rw [e0]
      exact ⟨by first | rfl | (simp only [r1, if_neg hc3]), N0, rfl⟩
theorem d2_0 : decode jdk_29_method_66_code 0 = .ok (.lload_n 0, 1) := by decide +kernel
theorem d2_1 : decode jdk_29_method_66_code 1 = .ok (.lload_n 2, 1) := by decide +kernel
theorem d2_2 : decode jdk_29_method_66_code 2 = .ok (.lcmp, 1) := by decide +kernel
theorem d2_3 : decode jdk_29_method_66_code 3 = .ok (.ifCond .lt 7, 3) := by decide +kernel
theorem d2_6 : decode jdk_29_method_66_code 6 = .ok (.lload_n 0, 1) := by decide +kernel
theorem d2_7 : decode jdk_29_method_66_code 7 = .ok (.goto 4, 3) := by decide +kernel
theorem d2_10 : decode jdk_29_method_66_code 10 = .ok (.lload_n 2, 1) := by decide +kernel
theorem d2_11 : decode jdk_29_method_66_code 11 = .ok (.lreturn, 1) := by decide +kernel
theorem ef_2 (m : MethodId) (x0 : Int64) (x1 : Int64) : entryFrame m #[(.long x0), (.long x1)] 4 = mkF m 0 #[.val (.long x0), .second, .val (.long x1), .second] [] := by first | (simp [entryFrame, mkF, argsToLocals, Value.category]; done) | rfl
def r2 (q1 : Int64) (q2 : Int64) : Int64 := (if (lcmpW q1 q2) < (0 : Int32) then q2 else q1)
def Q2 (Z : State) (q1 : Int64) (q2 : Int64) (h0 : Heap) (n0 : Nat) (v : Option Value) (h : Heap) (L : List Loc) : Prop := v = some (.long (r2 q1 q2)) ∧ Fr n0 L ∧ h = h0
set_option maxRecDepth 65536 in
set_option maxHeartbeats 40000000 in
theorem rm2 (l : Launch) (Z : State) (a0 : Array Value) (hw : ∀ d ∈ tables_1, d.before a0 Z = true) (ws : List Jvm.Cond) (q1 : Int64) (q2 : Int64) (h0 : Heap) (n0 : Nat) (Z0 : n0 ≤ h0.size)  :
    MetFree l (⟨"java/lang/Math", "max", "(JJ)J"⟩ : MethodName) (head1 (Jvm.Cond.code (⟨"java/lang/Math", "max", "(JJ)J"⟩ : MethodName) jdk_29_method_66_code 4 (some .long) :: ws) ({ frames := 0, cells := 0, slots := 0, locals := 0 } : Room)) (fun a U => a = #[(.long q1), (.long q2)] ∧ Z.Warmed39 U.vm ∧ U.heap = h0) (fun _ _ _ _ _ => True) (fun _ U o U' => ∃ v L, o = .returned v ∧ Q2 Z q1 q2 h0 n0 v U'.heap L ∧ FrameEnd U o U' L ({ frames := 0, cells := 0, slots := 0, locals := 0 } : Room).cells ({ frames := 0, cells := 0, slots := 0, locals := 0 } : Room).slots) := by
  refine MetFree.of_bodySF (Jvm.Free.JP.mathPlain rfl (by decide +kernel)) hisR ?_
  intro p e s m args below meth c s₁ Bd hml0 hP hK
  obtain ⟨rfl, hZ, hh⟩ := hP
  have hx := Bd.exec
  have hby := Bd.bytes
  have hml : c.maxLocals = 4 := hml0
  have hown : s.vm.findClass "java/lang/Math" = some m.cls := findClass_of_methodNamed Bd.named
  have hnm := (name_of_methodNamed Bd.named Bd.method).1
  have X0 : Stand p l e ({ frames := 0, cells := 0, slots := 0, locals := 0 } : Room) s m #[(.long q1), (.long q2)] below meth c s₁ [] 0 0 := Stand.of_body Bd
  have e0 : s₁.heap = h0 := by rw [← hh, Bd.state]; rfl
  have N0 := Fr.nil n0
  have pre0 : ∀ t, Steps p.tables e below (s₁.setTop (mkF m 0 #[.val (.long q1), .second, .val (.long q2), .second] [])) t → Steps p.tables e below (s₁.setTop (entryFrame m #[(.long q1), (.long q2)] 4)) t := fun t k => castTop (ef_2 m q1 q2) k
  by_cases hc3 : (lcmpW q1 q2) < (0 : Int32)
  · skip
    have pre1 : ∀ t, Steps p.tables e below (s₁.setTop (mkF m 11 #[.val (.long q1), .second, .val (.long q2), .second] [(.long q2)])) t → Steps p.tables e below (s₁.setTop (entryFrame m #[(.long q1), (.long q2)] 4)) t := fun t kt => by
      refine pre0 t ?_
      refine XS.lloadN X0.here hx rfl (hb hby d2_0) rfl ?_
      show Steps p.tables e below (s₁.setTop (mkF m 1 #[.val (.long q1), .second, .val (.long q2), .second] [(.long q1)])) _
      refine XS.lloadN X0.here hx rfl (hb hby d2_1) rfl ?_
      show Steps p.tables e below (s₁.setTop (mkF m 2 #[.val (.long q1), .second, .val (.long q2), .second] [(.long q2), (.long q1)])) _
      refine XS.lcmp X0.here hx rfl (hb hby d2_2) rfl ?_
      show Steps p.tables e below (s₁.setTop (mkF m 3 #[.val (.long q1), .second, .val (.long q2), .second] [(.int (lcmpW q1 q2))])) _
      refine XS.ifYes X0.here hx rfl (pc0 := 3) (pc' := 10) rfl (hb hby d2_3) rfl ((if0 _ _).trans (tlt hc3).1) (by decide) (by decide) ?_
      show Steps p.tables e below (s₁.setTop (mkF m 10 #[.val (.long q1), .second, .val (.long q2), .second] [])) _
      refine XS.lloadN X0.here hx rfl (hb hby d2_10) rfl ?_
      show Steps p.tables e below (s₁.setTop (mkF m 11 #[.val (.long q1), .second, .val (.long q2), .second] [(.long q2)])) _
      exact kt
    obtain ⟨fs, hr, hrun, hended, hW, hsame⟩ := X0.leave (v := some (.long q2)) (fun h => by rw [Bd.returns] at h; cases h)
    refine ⟨_, _, pre1 _ ?_, hrun, hended, _, _, rfl, ?_, ⟨_, rfl⟩, hW, hsame.mono (by decide) (by decide)⟩
    · jvm_step X0.here [X0.here.top, hx, (hb hby d2_11), X0.method', Bd.returns, narrow]
      first | (intro acts; rw [hr _ acts rfl rfl rfl]) | rw [hr _ _ rfl rfl rfl]
      exact Steps.refl _
    · show Q2 Z q1 q2 h0 n0 _ s₁.heap _
      rw [e0]
      exact ⟨by first | rfl | (simp only [r2, if_pos hc3]), N0, rfl⟩
  · skip
    have pre2 : ∀ t, Steps p.tables e below (s₁.setTop (mkF m 11 #[.val (.long q1), .second, .val (.long q2), .second] [(.long q1)])) t → Steps p.tables e below (s₁.setTop (entryFrame m #[(.long q1), (.long q2)] 4)) t := fun t kt => by
      refine pre0 t ?_
      refine XS.lloadN X0.here hx rfl (hb hby d2_0) rfl ?_
      show Steps p.tables e below (s₁.setTop (mkF m 1 #[.val (.long q1), .second, .val (.long q2), .second] [(.long q1)])) _
      refine XS.lloadN X0.here hx rfl (hb hby d2_1) rfl ?_
      show Steps p.tables e below (s₁.setTop (mkF m 2 #[.val (.long q1), .second, .val (.long q2), .second] [(.long q2), (.long q1)])) _
      refine XS.lcmp X0.here hx rfl (hb hby d2_2) rfl ?_
      show Steps p.tables e below (s₁.setTop (mkF m 3 #[.val (.long q1), .second, .val (.long q2), .second] [(.int (lcmpW q1 q2))])) _
      refine XS.ifNo X0.here hx rfl (hb hby d2_3) rfl ((if0 _ _).trans (flt hc3).1) ?_
      show Steps p.tables e below (s₁.setTop (mkF m 6 #[.val (.long q1), .second, .val (.long q2), .second] [])) _
      refine XS.lloadN X0.here hx rfl (hb hby d2_6) rfl ?_
      show Steps p.tables e below (s₁.setTop (mkF m 7 #[.val (.long q1), .second, .val (.long q2), .second] [(.long q1)])) _
      refine XS.goto X0.here hx rfl (pc0 := 7) (pc' := 11) rfl (hb hby d2_7) (by decide) (by decide) ?_
      show Steps p.tables e below (s₁.setTop (mkF m 11 #[.val (.long q1), .second, .val (.long q2), .second] [(.long q1)])) _
      exact kt
    obtain ⟨fs, hr, hrun, hended, hW, hsame⟩ := X0.leave (v := some (.long q1)) (fun h => by rw [Bd.returns] at h; cases h)
    refine ⟨_, _, pre2 _ ?_, hrun, hended, _, _, rfl, ?_, ⟨_, rfl⟩, hW, hsame.mono (by decide) (by decide)⟩
    · jvm_step X0.here [X0.here.top, hx, (hb hby d2_11), X0.method', Bd.returns, narrow]
      first | (intro acts; rw [hr _ acts rfl rfl rfl]) | rw [hr _ _ rfl rfl rfl]
      exact Steps.refl _
    · show Q2 Z q1 q2 h0 n0 _ s₁.heap _
      rw [e0]
      exact ⟨by first | rfl | (simp only [r2, if_neg hc3]), N0, rfl⟩
theorem d4_0 : decode jdk_30_method_1_code 0 = .ok (.aload_n 0, 1) := by decide +kernel
theorem d4_1 : decode jdk_30_method_1_code 1 = .ok (.invokespecial 1, 3) := by decide +kernel
theorem d4_4 : decode jdk_30_method_1_code 4 = .ok (.return_, 1) := by decide +kernel
theorem pn_java_lang_Record : plainName "java/lang/Record" = true := by first | (simp [plainName, overriddenIn]; done) | decide +kernel
theorem ef_4 (m : MethodId) (x0 : Addr) : entryFrame m #[(.ref x0)] 1 = mkF m 0 #[.val (.ref x0)] [] := by first | (simp [entryFrame, mkF, argsToLocals, Value.category]; done) | rfl
def Q4 (Z : State) (a1 : Addr) (h0 : Heap) (n0 : Nat) (v : Option Value) (h : Heap) (L : List Loc) : Prop := v = none ∧ Fr n0 L ∧ h = h0
set_option maxRecDepth 65536 in
set_option maxHeartbeats 40000000 in
theorem rm4 (l : Launch) (Z : State) (a0 : Array Value) (hw : ∀ d ∈ tables_1, d.before a0 Z = true) (ws : List Jvm.Cond) (a1 : Addr) (h0 : Heap) (n0 : Nat) (Z0 : n0 ≤ h0.size)  :
    MetFree l (⟨"java/lang/Record", "<init>", "()V"⟩ : MethodName) (head1 (Jvm.Cond.code (⟨"java/lang/Record", "<init>", "()V"⟩ : MethodName) jdk_30_method_1_code 1 none :: ws) ({ frames := 1, cells := 0, slots := 0, locals := 12 } : Room)) (fun a U => a = #[(.ref a1)] ∧ Z.Warmed39 U.vm ∧ U.heap = h0) (fun _ _ _ _ _ => True) (fun _ U o U' => ∃ v L, o = .returned v ∧ Q4 Z a1 h0 n0 v U'.heap L ∧ FrameEnd U o U' L ({ frames := 1, cells := 0, slots := 0, locals := 12 } : Room).cells ({ frames := 1, cells := 0, slots := 0, locals := 12 } : Room).slots) := by
  refine MetFree.of_bodySF (plainFor_of_name pn_java_lang_Record) hisR ?_
  intro p e s m args below meth c s₁ Bd hml0 hP hK
  obtain ⟨rfl, hZ, hh⟩ := hP
  have hx := Bd.exec
  have hby := Bd.bytes
  have hml : c.maxLocals = 1 := hml0
  have hown : s.vm.findClass "java/lang/Record" = some m.cls := findClass_of_methodNamed Bd.named
  have hnm := (name_of_methodNamed Bd.named Bd.method).1
  have X0 : Stand p l e ({ frames := 1, cells := 0, slots := 0, locals := 12 } : Room) s m #[(.ref a1)] below meth c s₁ [] 0 0 := Stand.of_body Bd
  have e0 : s₁.heap = h0 := by rw [← hh, Bd.state]; rfl
  have N0 := Fr.nil n0
  have pre0 : ∀ t, Steps p.tables e below (s₁.setTop (mkF m 0 #[.val (.ref a1)] [])) t → Steps p.tables e below (s₁.setTop (entryFrame m #[(.ref a1)] 1)) t := fun t k => castTop (ef_4 m a1) k
  have pre1 : ∀ t, Steps p.tables e below (s₁.setTop (mkF m 1 #[.val (.ref a1)] [(.ref a1)])) t → Steps p.tables e below (s₁.setTop (entryFrame m #[(.ref a1)] 1)) t := fun t kt => by
    refine pre0 t ?_
    refine XS.aloadN X0.here hx rfl (hb hby d4_0) rfl rfl ?_
    show Steps p.tables e below (s₁.setTop (mkF m 1 #[.val (.ref a1)] [(.ref a1)])) _
    exact kt
  obtain ⟨T2, X2, e2, st2⟩ := initO X0 hx hZ hown (hw _ (mgE 18 rfl)) (hw _ (mgE 19 rfl)) (hw _ (mgE 20 rfl)) e0 (g := (mkF m 1 #[.val (.ref a1)] [(.ref a1)])) rfl (by rw [hml]; rfl) rfl (hb hby d4_1) (by decide) (W := 0) (by show 2 * 0 + _ ≤ _; exact Nat.le_of_eq rfl) (by decide)
  have pre3 : ∀ t, Steps p.tables e below (T2.setTop (mkF m 4 #[.val (.ref a1)] [])) t → Steps p.tables e below (s₁.setTop (entryFrame m #[(.ref a1)] 1)) t := fun t kt => pre1 t (st2 t kt)
  obtain ⟨fs, hr, hrun, hended, hW, hsame⟩ := X2.leave (v := none) (fun _ => rfl)
  refine ⟨_, _, pre3 _ ?_, hrun, hended, _, _, rfl, ?_, ⟨_, rfl⟩, hW, hsame.mono (by decide) (by decide)⟩
  · exact X2.returnOut hx Bd.returns (hb hby d4_4) hr
  · show Q4 Z a1 h0 n0 _ T2.heap _
    rw [e2]
    exact ⟨rfl, N0, rfl⟩
theorem d3_0 : decode prog_47_method_1_code 0 = .ok (.aload_n 0, 1) := by decide +kernel
theorem d3_1 : decode prog_47_method_1_code 1 = .ok (.invokespecial 1, 3) := by decide +kernel
theorem d3_4 : decode prog_47_method_1_code 4 = .ok (.aload_n 0, 1) := by decide +kernel
theorem d3_5 : decode prog_47_method_1_code 5 = .ok (.lload_n 1, 1) := by decide +kernel
theorem d3_6 : decode prog_47_method_1_code 6 = .ok (.putfield 7, 3) := by decide +kernel
theorem d3_9 : decode prog_47_method_1_code 9 = .ok (.aload_n 0, 1) := by decide +kernel
theorem d3_10 : decode prog_47_method_1_code 10 = .ok (.lload_n 3, 1) := by decide +kernel
theorem d3_11 : decode prog_47_method_1_code 11 = .ok (.putfield 13, 3) := by decide +kernel
theorem d3_14 : decode prog_47_method_1_code 14 = .ok (.aload_n 0, 1) := by decide +kernel
theorem d3_15 : decode prog_47_method_1_code 15 = .ok (.lload 5, 2) := by decide +kernel
theorem d3_17 : decode prog_47_method_1_code 17 = .ok (.putfield 16, 3) := by decide +kernel
theorem d3_20 : decode prog_47_method_1_code 20 = .ok (.return_, 1) := by decide +kernel
theorem pn_com_example_ready_ledger_readyledger_jdbc_benchmark_Timing : plainName "com/example/ready_ledger/readyledger/jdbc/benchmark/Timing" = true := by first | (simp [plainName, overriddenIn]; done) | decide +kernel
theorem pd___V : parseMethodDescriptor "()V" = some ⟨[], none⟩ := by decide +kernel
theorem ef_3 (m : MethodId) (x0 : Addr) (x1 : Int64) (x2 : Int64) (x3 : Int64) : entryFrame m #[(.ref x0), (.long x1), (.long x2), (.long x3)] 7 = mkF m 0 #[.val (.ref x0), .val (.long x1), .second, .val (.long x2), .second, .val (.long x3), .second] [] := by first | (simp [entryFrame, mkF, argsToLocals, Value.category]; done) | rfl
def Q3 (Z : State) (a1 : Addr) (q2 : Int64) (q3 : Int64) (q4 : Int64) (u_medianNs_a1 : Value) (u_minNs_a1 : Value) (u_maxNs_a1 : Value) (h0 : Heap) (n0 : Nat) (v : Option Value) (h : Heap) (L : List Loc) : Prop := v = none ∧ Fr n0 L ∧ Keep h0 h [a1] ∧ Exa Z h a1 "com/example/ready_ledger/readyledger/jdbc/benchmark/Timing" ∧ Fld Z h a1 "com/example/ready_ledger/readyledger/jdbc/benchmark/Timing" "maxNs" "J" (.long q4) ∧ Fld Z h a1 "com/example/ready_ledger/readyledger/jdbc/benchmark/Timing" "medianNs" "J" (.long q2) ∧ Fld Z h a1 "com/example/ready_ledger/readyledger/jdbc/benchmark/Timing" "minNs" "J" (.long q3)
set_option maxRecDepth 65536 in
set_option maxHeartbeats 40000000 in
theorem rm3 (l : Launch) (Z : State) (a0 : Array Value) (hw : ∀ d ∈ tables_1, d.before a0 Z = true) (ws : List Jvm.Cond) (a1 : Addr) (q2 : Int64) (q3 : Int64) (q4 : Int64) (u_medianNs_a1 : Value) (u_minNs_a1 : Value) (u_maxNs_a1 : Value) (h0 : Heap) (n0 : Nat) (Z0 : n0 ≤ h0.size) (E_a1 : Exa Z h0 a1 "com/example/ready_ledger/readyledger/jdbc/benchmark/Timing") (F_medianNs_a1 : Fld Z h0 a1 "com/example/ready_ledger/readyledger/jdbc/benchmark/Timing" "medianNs" "J" u_medianNs_a1) (g_a1 : n0 ≤ a1) (F_minNs_a1 : Fld Z h0 a1 "com/example/ready_ledger/readyledger/jdbc/benchmark/Timing" "minNs" "J" u_minNs_a1) (F_maxNs_a1 : Fld Z h0 a1 "com/example/ready_ledger/readyledger/jdbc/benchmark/Timing" "maxNs" "J" u_maxNs_a1) :
    MetFree l (⟨"com/example/ready_ledger/readyledger/jdbc/benchmark/Timing", "<init>", "(JJJ)V"⟩ : MethodName) (head1 (Jvm.Cond.code (⟨"com/example/ready_ledger/readyledger/jdbc/benchmark/Timing", "<init>", "(JJJ)V"⟩ : MethodName) prog_47_method_1_code 7 none :: ws) ({ frames := 2, cells := 0, slots := 0, locals := 24 } : Room)) (fun a U => a = #[(.ref a1), (.long q2), (.long q3), (.long q4)] ∧ Z.Warmed39 U.vm ∧ U.heap = h0) (fun _ _ _ _ _ => True) (fun _ U o U' => ∃ v L, o = .returned v ∧ Q3 Z a1 q2 q3 q4 u_medianNs_a1 u_minNs_a1 u_maxNs_a1 h0 n0 v U'.heap L ∧ FrameEnd U o U' L ({ frames := 2, cells := 0, slots := 0, locals := 24 } : Room).cells ({ frames := 2, cells := 0, slots := 0, locals := 24 } : Room).slots) := by
  refine MetFree.of_bodySF (plainFor_of_name pn_com_example_ready_ledger_readyledger_jdbc_benchmark_Timing) hisR ?_
  intro p e s m args below meth c s₁ Bd hml0 hP hK
  obtain ⟨rfl, hZ, hh⟩ := hP
  have hx := Bd.exec
  have hby := Bd.bytes
  have hml : c.maxLocals = 7 := hml0
  have hown : s.vm.findClass "com/example/ready_ledger/readyledger/jdbc/benchmark/Timing" = some m.cls := findClass_of_methodNamed Bd.named
  have hnm := (name_of_methodNamed Bd.named Bd.method).1
  have X0 : Stand p l e ({ frames := 2, cells := 0, slots := 0, locals := 24 } : Room) s m #[(.ref a1), (.long q2), (.long q3), (.long q4)] below meth c s₁ [] 0 0 := Stand.of_body Bd
  have e0 : s₁.heap = h0 := by rw [← hh, Bd.state]; rfl
  have N0 := Fr.nil n0
  have pre0 : ∀ t, Steps p.tables e below (s₁.setTop (mkF m 0 #[.val (.ref a1), .val (.long q2), .second, .val (.long q3), .second, .val (.long q4), .second] [])) t → Steps p.tables e below (s₁.setTop (entryFrame m #[(.ref a1), (.long q2), (.long q3), (.long q4)] 7)) t := fun t k => castTop (ef_3 m a1 q2 q3 q4) k
  have pre1 : ∀ t, Steps p.tables e below (s₁.setTop (mkF m 1 #[.val (.ref a1), .val (.long q2), .second, .val (.long q3), .second, .val (.long q4), .second] [(.ref a1)])) t → Steps p.tables e below (s₁.setTop (entryFrame m #[(.ref a1), (.long q2), (.long q3), (.long q4)] 7)) t := fun t kt => by
    refine pre0 t ?_
    refine XS.aloadN X0.here hx rfl (hb hby d3_0) rfl rfl ?_
    show Steps p.tables e below (s₁.setTop (mkF m 1 #[.val (.ref a1), .val (.long q2), .second, .val (.long q3), .second, .val (.long q4), .second] [(.ref a1)])) _
    exact kt
  obtain ⟨_, _, ⟨T2, L2, k2, n2⟩, -, X2, ⟨Lc2, hQ2, l2, y2, z2⟩, st2⟩ := X0.specialBack hx (y := (⟨"java/lang/Record", "<init>", "()V"⟩ : MethodName)) rfl hown (mvT hZ (hw _ (mgE 13 rfl))) (mvT hZ (hw _ (mgE 14 rfl))) (mvT hZ (hw _ (mgE 17 rfl))) (by decide) (backOf (W := 0) (rm4 l Z a0 hw [] a1 h0 n0 Z0 ) hZ (hw _ (mgE 17 rfl)) (hw _ (mgE 16 rfl)) (by decide) (by decide)) (g := (mkF m 1 #[.val (.ref a1), .val (.long q2), .second, .val (.long q3), .second, .val (.long q4), .second] [(.ref a1)])) rfl (by rw [hml]; rfl) (Steps.refl _) (a := a1) (argsL := []) (rest := []) (lenOf pd___V rfl) rfl (by show 2 * 0 + _ ≤ _; exact Nat.le_of_eq rfl) (hb hby d3_1) (fun _ _ => ⟨rfl, e0, (by decide : 0 + 0 ≤ _), (by decide : 0 + 0 ≤ _)⟩)
  dsimp only [Pt.U, Pt.locs, Pt.cells, Pt.slots] at X2 l2 y2 z2 st2 hQ2
  subst l2 y2 z2
  obtain ⟨rfl, N2q, e2⟩ := hQ2
  have pre3 : ∀ t, Steps p.tables e below (T2.setTop (mkF m 4 #[.val (.ref a1), .val (.long q2), .second, .val (.long q3), .second, .val (.long q4), .second] [])) t → Steps p.tables e below (s₁.setTop (entryFrame m #[(.ref a1), (.long q2), (.long q3), (.long q4)] 7)) t := fun t kt => pre1 t (st2.trans kt)
  have N2 := Fr.app N0 N2q
  have pre4 : ∀ t, Steps p.tables e below (T2.setTop (mkF m 6 #[.val (.ref a1), .val (.long q2), .second, .val (.long q3), .second, .val (.long q4), .second] [(.long q2), (.ref a1)])) t → Steps p.tables e below (s₁.setTop (entryFrame m #[(.ref a1), (.long q2), (.long q3), (.long q4)] 7)) t := fun t kt => by
    refine pre3 t ?_
    refine XS.aloadN X2.here hx rfl (hb hby d3_4) rfl rfl ?_
    show Steps p.tables e below (T2.setTop (mkF m 5 #[.val (.ref a1), .val (.long q2), .second, .val (.long q3), .second, .val (.long q4), .second] [(.ref a1)])) _
    refine XS.lloadN X2.here hx rfl (hb hby d3_5) rfl ?_
    show Steps p.tables e below (T2.setTop (mkF m 6 #[.val (.ref a1), .val (.long q2), .second, .val (.long q3), .second, .val (.long q4), .second] [(.long q2), (.ref a1)])) _
    exact kt
  obtain ⟨T5, h5, X5, e5, W5, st5⟩ := putF X2 hx hZ hown (host := "") (Or.inl (hw _ (mgE 21 rfl))) Via.refl e2 F_medianNs_a1 E_a1 (Or.inr ⟨(hw _ (mgE 22 rfl)), rfl, hnm⟩) (hw _ (mgE 8 rfl)) (ty := .long) (by decide) rfl rfl (g := (mkF m 6 #[.val (.ref a1), .val (.long q2), .second, .val (.long q3), .second, .val (.long q4), .second] [(.long q2), (.ref a1)])) rfl rfl (hb hby d3_6)
  have F6_5 := E_a1.wr W5
  have F8_5 := F_minNs_a1.other W5 (Or.inr (slot_ne (Or.inr (hw _ (mgE 24 rfl))) (Or.inr (hw _ (mgE 22 rfl))) (by decide) (t := .long) (t' := .long) (by decide) (by decide)))
  have F9_5 := F_maxNs_a1.other W5 (Or.inr (slot_ne (Or.inr (hw _ (mgE 26 rfl))) (Or.inr (hw _ (mgE 22 rfl))) (by decide) (t := .long) (t' := .long) (by decide) (by decide)))
  have Fw5 := F_medianNs_a1.same W5
  have K5 : Keep h0 h5 [a1] := (Keep.refl h0 [a1]).wr W5 (Or.inl (mgE 0 rfl))
  have pre10 : ∀ t, Steps p.tables e below (T5.setTop (mkF m 9 #[.val (.ref a1), .val (.long q2), .second, .val (.long q3), .second, .val (.long q4), .second] [])) t → Steps p.tables e below (s₁.setTop (entryFrame m #[(.ref a1), (.long q2), (.long q3), (.long q4)] 7)) t := fun t kt => pre4 t (st5 t kt)
  have N5 := Fr.snoc X5 N2 g_a1
  have pre11 : ∀ t, Steps p.tables e below (T5.setTop (mkF m 11 #[.val (.ref a1), .val (.long q2), .second, .val (.long q3), .second, .val (.long q4), .second] [(.long q3), (.ref a1)])) t → Steps p.tables e below (s₁.setTop (entryFrame m #[(.ref a1), (.long q2), (.long q3), (.long q4)] 7)) t := fun t kt => by
    refine pre10 t ?_
    refine XS.aloadN X5.here hx rfl (hb hby d3_9) rfl rfl ?_
    show Steps p.tables e below (T5.setTop (mkF m 10 #[.val (.ref a1), .val (.long q2), .second, .val (.long q3), .second, .val (.long q4), .second] [(.ref a1)])) _
    refine XS.lloadN X5.here hx rfl (hb hby d3_10) rfl ?_
    show Steps p.tables e below (T5.setTop (mkF m 11 #[.val (.ref a1), .val (.long q2), .second, .val (.long q3), .second, .val (.long q4), .second] [(.long q3), (.ref a1)])) _
    exact kt
  obtain ⟨T12, h12, X12, e12, W12, st12⟩ := putF X5 hx hZ hown (host := "") (Or.inl (hw _ (mgE 23 rfl))) Via.refl e5 F8_5 F6_5 (Or.inr ⟨(hw _ (mgE 24 rfl)), rfl, hnm⟩) (hw _ (mgE 8 rfl)) (ty := .long) (by decide) rfl rfl (g := (mkF m 11 #[.val (.ref a1), .val (.long q2), .second, .val (.long q3), .second, .val (.long q4), .second] [(.long q3), (.ref a1)])) rfl rfl (hb hby d3_11)
  have F13_12 := F6_5.wr W12
  have F14_12 := Fw5.other W12 (Or.inr (slot_ne (Or.inr (hw _ (mgE 22 rfl))) (Or.inr (hw _ (mgE 24 rfl))) (by decide) (t := .long) (t' := .long) (by decide) (by decide)))
  have F16_12 := F9_5.other W12 (Or.inr (slot_ne (Or.inr (hw _ (mgE 26 rfl))) (Or.inr (hw _ (mgE 24 rfl))) (by decide) (t := .long) (t' := .long) (by decide) (by decide)))
  have Fw12 := F8_5.same W12
  have K12 : Keep h0 h12 [a1] := K5.wr W12 (Or.inl (mgE 0 rfl))
  have pre17 : ∀ t, Steps p.tables e below (T12.setTop (mkF m 14 #[.val (.ref a1), .val (.long q2), .second, .val (.long q3), .second, .val (.long q4), .second] [])) t → Steps p.tables e below (s₁.setTop (entryFrame m #[(.ref a1), (.long q2), (.long q3), (.long q4)] 7)) t := fun t kt => pre11 t (st12 t kt)
  have N12 := Fr.snoc X12 N5 g_a1
  have pre18 : ∀ t, Steps p.tables e below (T12.setTop (mkF m 17 #[.val (.ref a1), .val (.long q2), .second, .val (.long q3), .second, .val (.long q4), .second] [(.long q4), (.ref a1)])) t → Steps p.tables e below (s₁.setTop (entryFrame m #[(.ref a1), (.long q2), (.long q3), (.long q4)] 7)) t := fun t kt => by
    refine pre17 t ?_
    refine XS.aloadN X12.here hx rfl (hb hby d3_14) rfl rfl ?_
    show Steps p.tables e below (T12.setTop (mkF m 15 #[.val (.ref a1), .val (.long q2), .second, .val (.long q3), .second, .val (.long q4), .second] [(.ref a1)])) _
    refine XS.lload X12.here hx rfl (hb hby d3_15) rfl ?_
    show Steps p.tables e below (T12.setTop (mkF m 17 #[.val (.ref a1), .val (.long q2), .second, .val (.long q3), .second, .val (.long q4), .second] [(.long q4), (.ref a1)])) _
    exact kt
  obtain ⟨T19, h19, X19, e19, W19, st19⟩ := putF X12 hx hZ hown (host := "") (Or.inl (hw _ (mgE 25 rfl))) Via.refl e12 F16_12 F13_12 (Or.inr ⟨(hw _ (mgE 26 rfl)), rfl, hnm⟩) (hw _ (mgE 8 rfl)) (ty := .long) (by decide) rfl rfl (g := (mkF m 17 #[.val (.ref a1), .val (.long q2), .second, .val (.long q3), .second, .val (.long q4), .second] [(.long q4), (.ref a1)])) rfl rfl (hb hby d3_17)
  have F20_19 := F13_12.wr W19
  have F21_19 := F14_12.other W19 (Or.inr (slot_ne (Or.inr (hw _ (mgE 22 rfl))) (Or.inr (hw _ (mgE 26 rfl))) (by decide) (t := .long) (t' := .long) (by decide) (by decide)))
  have F22_19 := Fw12.other W19 (Or.inr (slot_ne (Or.inr (hw _ (mgE 24 rfl))) (Or.inr (hw _ (mgE 26 rfl))) (by decide) (t := .long) (t' := .long) (by decide) (by decide)))
  have Fw19 := F16_12.same W19
  have K19 : Keep h0 h19 [a1] := K12.wr W19 (Or.inl (mgE 0 rfl))
  have pre24 : ∀ t, Steps p.tables e below (T19.setTop (mkF m 20 #[.val (.ref a1), .val (.long q2), .second, .val (.long q3), .second, .val (.long q4), .second] [])) t → Steps p.tables e below (s₁.setTop (entryFrame m #[(.ref a1), (.long q2), (.long q3), (.long q4)] 7)) t := fun t kt => pre18 t (st19 t kt)
  have N19 := Fr.snoc X19 N12 g_a1
  obtain ⟨fs, hr, hrun, hended, hW, hsame⟩ := X19.leave (v := none) (fun _ => rfl)
  refine ⟨_, _, pre24 _ ?_, hrun, hended, _, _, rfl, ?_, ⟨_, rfl⟩, hW, hsame.mono (by decide) (by decide)⟩
  · exact X19.returnOut hx Bd.returns (hb hby d3_20) hr
  · show Q3 Z a1 q2 q3 q4 u_medianNs_a1 u_minNs_a1 u_maxNs_a1 h0 n0 _ T19.heap _
    rw [e19]
    exact ⟨rfl, N19, K19, F20_19, Fw19, F21_19, F22_19⟩
theorem d6_0 : decode prog_47_method_4_code 0 = .ok (.aload_n 0, 1) := by decide +kernel
theorem d6_1 : decode prog_47_method_4_code 1 = .ok (.getfield 13, 3) := by decide +kernel
theorem d6_4 : decode prog_47_method_4_code 4 = .ok (.aload_n 1, 1) := by decide +kernel
theorem d6_5 : decode prog_47_method_4_code 5 = .ok (.getfield 16, 3) := by decide +kernel
theorem d6_8 : decode prog_47_method_4_code 8 = .ok (.lcmp, 1) := by decide +kernel
theorem d6_9 : decode prog_47_method_4_code 9 = .ok (.ifCond .gt 19, 3) := by decide +kernel
theorem d6_12 : decode prog_47_method_4_code 12 = .ok (.aload_n 1, 1) := by decide +kernel
theorem d6_13 : decode prog_47_method_4_code 13 = .ok (.getfield 13, 3) := by decide +kernel
theorem d6_16 : decode prog_47_method_4_code 16 = .ok (.aload_n 0, 1) := by decide +kernel
theorem d6_17 : decode prog_47_method_4_code 17 = .ok (.getfield 16, 3) := by decide +kernel
theorem d6_20 : decode prog_47_method_4_code 20 = .ok (.lcmp, 1) := by decide +kernel
theorem d6_21 : decode prog_47_method_4_code 21 = .ok (.ifCond .gt 7, 3) := by decide +kernel
theorem d6_24 : decode prog_47_method_4_code 24 = .ok (.iconst 1, 1) := by decide +kernel
theorem d6_25 : decode prog_47_method_4_code 25 = .ok (.goto 4, 3) := by decide +kernel
theorem d6_28 : decode prog_47_method_4_code 28 = .ok (.iconst 0, 1) := by decide +kernel
theorem d6_29 : decode prog_47_method_4_code 29 = .ok (.ireturn, 1) := by decide +kernel
theorem ef_6 (m : MethodId) (x0 : Addr) (x1 : Addr) : entryFrame m #[(.ref x0), (.ref x1)] 2 = mkF m 0 #[.val (.ref x0), .val (.ref x1)] [] := by first | (simp [entryFrame, mkF, argsToLocals, Value.category]; done) | rfl
def r6 (w_minNs_a1 : Int64) (w_maxNs_a2 : Int64) (w_minNs_a2 : Int64) (w_maxNs_a1 : Int64) : Int32 := (if (0 : Int32) < (lcmpW w_minNs_a1 w_maxNs_a2) then (0 : Int32) else (if (0 : Int32) < (lcmpW w_minNs_a2 w_maxNs_a1) then (0 : Int32) else (1 : Int32)))
def Q6 (Z : State) (a1 : Addr) (a2 : Addr) (w_minNs_a1 : Int64) (w_maxNs_a2 : Int64) (w_minNs_a2 : Int64) (w_maxNs_a1 : Int64) (h0 : Heap) (n0 : Nat) (v : Option Value) (h : Heap) (L : List Loc) : Prop := v = some (.int (r6 w_minNs_a1 w_maxNs_a2 w_minNs_a2 w_maxNs_a1)) ∧ Fr n0 L ∧ h = h0
set_option maxRecDepth 65536 in
set_option maxHeartbeats 40000000 in
theorem rm6 (l : Launch) (Z : State) (a0 : Array Value) (hw : ∀ d ∈ tables_1, d.before a0 Z = true) (ws : List Jvm.Cond) (a1 : Addr) (a2 : Addr) (w_minNs_a1 : Int64) (w_maxNs_a2 : Int64) (w_minNs_a2 : Int64) (w_maxNs_a1 : Int64) (h0 : Heap) (n0 : Nat) (Z0 : n0 ≤ h0.size) (F_minNs_a1 : Fld Z h0 a1 "com/example/ready_ledger/readyledger/jdbc/benchmark/Timing" "minNs" "J" (.long w_minNs_a1)) (F_maxNs_a2 : Fld Z h0 a2 "com/example/ready_ledger/readyledger/jdbc/benchmark/Timing" "maxNs" "J" (.long w_maxNs_a2)) (F_minNs_a2 : Fld Z h0 a2 "com/example/ready_ledger/readyledger/jdbc/benchmark/Timing" "minNs" "J" (.long w_minNs_a2)) (F_maxNs_a1 : Fld Z h0 a1 "com/example/ready_ledger/readyledger/jdbc/benchmark/Timing" "maxNs" "J" (.long w_maxNs_a1)) :
    MetFree l (⟨"com/example/ready_ledger/readyledger/jdbc/benchmark/Timing", "overlaps", "(Lcom/example/ready_ledger/readyledger/jdbc/benchmark/Timing;)Z"⟩ : MethodName) (head1 (Jvm.Cond.code (⟨"com/example/ready_ledger/readyledger/jdbc/benchmark/Timing", "overlaps", "(Lcom/example/ready_ledger/readyledger/jdbc/benchmark/Timing;)Z"⟩ : MethodName) prog_47_method_4_code 2 (some .boolean) :: ws) ({ frames := 0, cells := 0, slots := 0, locals := 0 } : Room)) (fun a U => a = #[(.ref a1), (.ref a2)] ∧ Z.Warmed39 U.vm ∧ U.heap = h0) (fun _ _ _ _ _ => True) (fun _ U o U' => ∃ v L, o = .returned v ∧ Q6 Z a1 a2 w_minNs_a1 w_maxNs_a2 w_minNs_a2 w_maxNs_a1 h0 n0 v U'.heap L ∧ FrameEnd U o U' L ({ frames := 0, cells := 0, slots := 0, locals := 0 } : Room).cells ({ frames := 0, cells := 0, slots := 0, locals := 0 } : Room).slots) := by
  refine MetFree.of_bodySF (plainFor_of_name pn_com_example_ready_ledger_readyledger_jdbc_benchmark_Timing) hisR ?_
  intro p e s m args below meth c s₁ Bd hml0 hP hK
  obtain ⟨rfl, hZ, hh⟩ := hP
  have hx := Bd.exec
  have hby := Bd.bytes
  have hml : c.maxLocals = 2 := hml0
  have hown : s.vm.findClass "com/example/ready_ledger/readyledger/jdbc/benchmark/Timing" = some m.cls := findClass_of_methodNamed Bd.named
  have hnm := (name_of_methodNamed Bd.named Bd.method).1
  have X0 : Stand p l e ({ frames := 0, cells := 0, slots := 0, locals := 0 } : Room) s m #[(.ref a1), (.ref a2)] below meth c s₁ [] 0 0 := Stand.of_body Bd
  have e0 : s₁.heap = h0 := by rw [← hh, Bd.state]; rfl
  have N0 := Fr.nil n0
  have pre0 : ∀ t, Steps p.tables e below (s₁.setTop (mkF m 0 #[.val (.ref a1), .val (.ref a2)] [])) t → Steps p.tables e below (s₁.setTop (entryFrame m #[(.ref a1), (.ref a2)] 2)) t := fun t k => castTop (ef_6 m a1 a2) k
  have pre1 : ∀ t, Steps p.tables e below (s₁.setTop (mkF m 1 #[.val (.ref a1), .val (.ref a2)] [(.ref a1)])) t → Steps p.tables e below (s₁.setTop (entryFrame m #[(.ref a1), (.ref a2)] 2)) t := fun t kt => by
    refine pre0 t ?_
    refine XS.aloadN X0.here hx rfl (hb hby d6_0) rfl rfl ?_
    show Steps p.tables e below (s₁.setTop (mkF m 1 #[.val (.ref a1), .val (.ref a2)] [(.ref a1)])) _
    exact kt
  obtain ⟨T2, X2, e2, st2⟩ := getF X0 hx hZ hown (host := "") (Or.inl (hw _ (mgE 23 rfl))) Via.refl e0 F_minNs_a1 (g := (mkF m 1 #[.val (.ref a1), .val (.ref a2)] [(.ref a1)])) rfl rfl (hb hby d6_1)
  have pre3 : ∀ t, Steps p.tables e below (T2.setTop (mkF m 4 #[.val (.ref a1), .val (.ref a2)] [(.long w_minNs_a1)])) t → Steps p.tables e below (s₁.setTop (entryFrame m #[(.ref a1), (.ref a2)] 2)) t := fun t kt => pre1 t (st2 t kt)
  have pre4 : ∀ t, Steps p.tables e below (T2.setTop (mkF m 5 #[.val (.ref a1), .val (.ref a2)] [(.ref a2), (.long w_minNs_a1)])) t → Steps p.tables e below (s₁.setTop (entryFrame m #[(.ref a1), (.ref a2)] 2)) t := fun t kt => by
    refine pre3 t ?_
    refine XS.aloadN X2.here hx rfl (hb hby d6_4) rfl rfl ?_
    show Steps p.tables e below (T2.setTop (mkF m 5 #[.val (.ref a1), .val (.ref a2)] [(.ref a2), (.long w_minNs_a1)])) _
    exact kt
  obtain ⟨T5, X5, e5, st5⟩ := getF X2 hx hZ hown (host := "") (Or.inl (hw _ (mgE 25 rfl))) Via.refl e2 F_maxNs_a2 (g := (mkF m 5 #[.val (.ref a1), .val (.ref a2)] [(.ref a2), (.long w_minNs_a1)])) rfl rfl (hb hby d6_5)
  have pre6 : ∀ t, Steps p.tables e below (T5.setTop (mkF m 8 #[.val (.ref a1), .val (.ref a2)] [(.long w_maxNs_a2), (.long w_minNs_a1)])) t → Steps p.tables e below (s₁.setTop (entryFrame m #[(.ref a1), (.ref a2)] 2)) t := fun t kt => pre4 t (st5 t kt)
  by_cases hc9 : (0 : Int32) < (lcmpW w_minNs_a1 w_maxNs_a2)
  · skip
    have pre7 : ∀ t, Steps p.tables e below (T5.setTop (mkF m 29 #[.val (.ref a1), .val (.ref a2)] [(.int (0 : Int32))])) t → Steps p.tables e below (s₁.setTop (entryFrame m #[(.ref a1), (.ref a2)] 2)) t := fun t kt => by
      refine pre6 t ?_
      refine XS.lcmp X5.here hx rfl (hb hby d6_8) rfl ?_
      show Steps p.tables e below (T5.setTop (mkF m 9 #[.val (.ref a1), .val (.ref a2)] [(.int (lcmpW w_minNs_a1 w_maxNs_a2))])) _
      refine XS.ifYes X5.here hx rfl (pc0 := 9) (pc' := 28) rfl (hb hby d6_9) rfl ((if0 _ _).trans (tlt hc9).2.2.1) (by decide) (by decide) ?_
      show Steps p.tables e below (T5.setTop (mkF m 28 #[.val (.ref a1), .val (.ref a2)] [])) _
      refine XS.iconst X5.here hx rfl (hb hby d6_28) ?_
      show Steps p.tables e below (T5.setTop (mkF m 29 #[.val (.ref a1), .val (.ref a2)] [(.int (0 : Int32))])) _
      exact kt
    obtain ⟨fs, hr, hrun, hended, hW, hsame⟩ := X5.leave (v := some (.int (0 : Int32))) (fun h => by rw [Bd.returns] at h; cases h)
    refine ⟨_, _, pre7 _ ?_, hrun, hended, _, _, rfl, ?_, ⟨_, rfl⟩, hW, hsame.mono (by decide) (by decide)⟩
    · exact retN X5 hx (t := .boolean) Bd.returns (by simp) (hb hby d6_29) hr
    · show Q6 Z a1 a2 w_minNs_a1 w_maxNs_a2 w_minNs_a2 w_maxNs_a1 h0 n0 _ T5.heap _
      rw [e5]
      exact ⟨by first | rfl | (simp only [r6, if_pos hc9]), N0, rfl⟩
  · skip
    have pre8 : ∀ t, Steps p.tables e below (T5.setTop (mkF m 13 #[.val (.ref a1), .val (.ref a2)] [(.ref a2)])) t → Steps p.tables e below (s₁.setTop (entryFrame m #[(.ref a1), (.ref a2)] 2)) t := fun t kt => by
      refine pre6 t ?_
      refine XS.lcmp X5.here hx rfl (hb hby d6_8) rfl ?_
      show Steps p.tables e below (T5.setTop (mkF m 9 #[.val (.ref a1), .val (.ref a2)] [(.int (lcmpW w_minNs_a1 w_maxNs_a2))])) _
      refine XS.ifNo X5.here hx rfl (hb hby d6_9) rfl ((if0 _ _).trans (flt hc9).2.2.1) ?_
      show Steps p.tables e below (T5.setTop (mkF m 12 #[.val (.ref a1), .val (.ref a2)] [])) _
      refine XS.aloadN X5.here hx rfl (hb hby d6_12) rfl rfl ?_
      show Steps p.tables e below (T5.setTop (mkF m 13 #[.val (.ref a1), .val (.ref a2)] [(.ref a2)])) _
      exact kt
    obtain ⟨T9, X9, e9, st9⟩ := getF X5 hx hZ hown (host := "") (Or.inl (hw _ (mgE 23 rfl))) Via.refl e5 F_minNs_a2 (g := (mkF m 13 #[.val (.ref a1), .val (.ref a2)] [(.ref a2)])) rfl rfl (hb hby d6_13)
    have pre10 : ∀ t, Steps p.tables e below (T9.setTop (mkF m 16 #[.val (.ref a1), .val (.ref a2)] [(.long w_minNs_a2)])) t → Steps p.tables e below (s₁.setTop (entryFrame m #[(.ref a1), (.ref a2)] 2)) t := fun t kt => pre8 t (st9 t kt)
    have pre11 : ∀ t, Steps p.tables e below (T9.setTop (mkF m 17 #[.val (.ref a1), .val (.ref a2)] [(.ref a1), (.long w_minNs_a2)])) t → Steps p.tables e below (s₁.setTop (entryFrame m #[(.ref a1), (.ref a2)] 2)) t := fun t kt => by
      refine pre10 t ?_
      refine XS.aloadN X9.here hx rfl (hb hby d6_16) rfl rfl ?_
      show Steps p.tables e below (T9.setTop (mkF m 17 #[.val (.ref a1), .val (.ref a2)] [(.ref a1), (.long w_minNs_a2)])) _
      exact kt
    obtain ⟨T12, X12, e12, st12⟩ := getF X9 hx hZ hown (host := "") (Or.inl (hw _ (mgE 25 rfl))) Via.refl e9 F_maxNs_a1 (g := (mkF m 17 #[.val (.ref a1), .val (.ref a2)] [(.ref a1), (.long w_minNs_a2)])) rfl rfl (hb hby d6_17)
    have pre13 : ∀ t, Steps p.tables e below (T12.setTop (mkF m 20 #[.val (.ref a1), .val (.ref a2)] [(.long w_maxNs_a1), (.long w_minNs_a2)])) t → Steps p.tables e below (s₁.setTop (entryFrame m #[(.ref a1), (.ref a2)] 2)) t := fun t kt => pre11 t (st12 t kt)
    by_cases hc21 : (0 : Int32) < (lcmpW w_minNs_a2 w_maxNs_a1)
    · skip
      have pre14 : ∀ t, Steps p.tables e below (T12.setTop (mkF m 29 #[.val (.ref a1), .val (.ref a2)] [(.int (0 : Int32))])) t → Steps p.tables e below (s₁.setTop (entryFrame m #[(.ref a1), (.ref a2)] 2)) t := fun t kt => by
        refine pre13 t ?_
        refine XS.lcmp X12.here hx rfl (hb hby d6_20) rfl ?_
        show Steps p.tables e below (T12.setTop (mkF m 21 #[.val (.ref a1), .val (.ref a2)] [(.int (lcmpW w_minNs_a2 w_maxNs_a1))])) _
        refine XS.ifYes X12.here hx rfl (pc0 := 21) (pc' := 28) rfl (hb hby d6_21) rfl ((if0 _ _).trans (tlt hc21).2.2.1) (by decide) (by decide) ?_
        show Steps p.tables e below (T12.setTop (mkF m 28 #[.val (.ref a1), .val (.ref a2)] [])) _
        refine XS.iconst X12.here hx rfl (hb hby d6_28) ?_
        show Steps p.tables e below (T12.setTop (mkF m 29 #[.val (.ref a1), .val (.ref a2)] [(.int (0 : Int32))])) _
        exact kt
      obtain ⟨fs, hr, hrun, hended, hW, hsame⟩ := X12.leave (v := some (.int (0 : Int32))) (fun h => by rw [Bd.returns] at h; cases h)
      refine ⟨_, _, pre14 _ ?_, hrun, hended, _, _, rfl, ?_, ⟨_, rfl⟩, hW, hsame.mono (by decide) (by decide)⟩
      · exact retN X12 hx (t := .boolean) Bd.returns (by simp) (hb hby d6_29) hr
      · show Q6 Z a1 a2 w_minNs_a1 w_maxNs_a2 w_minNs_a2 w_maxNs_a1 h0 n0 _ T12.heap _
        rw [e12]
        exact ⟨by first | rfl | (simp only [r6, if_neg hc9, if_pos hc21]), N0, rfl⟩
    · skip
      have pre15 : ∀ t, Steps p.tables e below (T12.setTop (mkF m 29 #[.val (.ref a1), .val (.ref a2)] [(.int (1 : Int32))])) t → Steps p.tables e below (s₁.setTop (entryFrame m #[(.ref a1), (.ref a2)] 2)) t := fun t kt => by
        refine pre13 t ?_
        refine XS.lcmp X12.here hx rfl (hb hby d6_20) rfl ?_
        show Steps p.tables e below (T12.setTop (mkF m 21 #[.val (.ref a1), .val (.ref a2)] [(.int (lcmpW w_minNs_a2 w_maxNs_a1))])) _
        refine XS.ifNo X12.here hx rfl (hb hby d6_21) rfl ((if0 _ _).trans (flt hc21).2.2.1) ?_
        show Steps p.tables e below (T12.setTop (mkF m 24 #[.val (.ref a1), .val (.ref a2)] [])) _
        refine XS.iconst X12.here hx rfl (hb hby d6_24) ?_
        show Steps p.tables e below (T12.setTop (mkF m 25 #[.val (.ref a1), .val (.ref a2)] [(.int (1 : Int32))])) _
        refine XS.goto X12.here hx rfl (pc0 := 25) (pc' := 29) rfl (hb hby d6_25) (by decide) (by decide) ?_
        show Steps p.tables e below (T12.setTop (mkF m 29 #[.val (.ref a1), .val (.ref a2)] [(.int (1 : Int32))])) _
        exact kt
      obtain ⟨fs, hr, hrun, hended, hW, hsame⟩ := X12.leave (v := some (.int (1 : Int32))) (fun h => by rw [Bd.returns] at h; cases h)
      refine ⟨_, _, pre15 _ ?_, hrun, hended, _, _, rfl, ?_, ⟨_, rfl⟩, hW, hsame.mono (by decide) (by decide)⟩
      · exact retN X12 hx (t := .boolean) Bd.returns (by simp) (hb hby d6_29) hr
      · show Q6 Z a1 a2 w_minNs_a1 w_maxNs_a2 w_minNs_a2 w_maxNs_a1 h0 n0 _ T12.heap _
        rw [e12]
        exact ⟨by first | rfl | (simp only [r6, if_neg hc9, if_neg hc21]), N0, rfl⟩

theorem own_min (a b : Int64) : (r1 a b).toInt ≤ a.toInt ∧ (r1 a b).toInt ≤ b.toInt ∧ ((r1 a b).toInt = a.toInt ∨ (r1 a b).toInt = b.toInt) := by
  simp only [r1, lw_gt, Int64.lt_iff_toInt_lt]
  split <;> omega
theorem own_max (a b : Int64) : a.toInt ≤ (r2 a b).toInt ∧ b.toInt ≤ (r2 a b).toInt ∧ ((r2 a b).toInt = a.toInt ∨ (r2 a b).toInt = b.toInt) := by
  simp only [r2, lw_lt, Int64.lt_iff_toInt_lt]
  split <;> omega
theorem own_ov (lo1 hi1 lo2 hi2 : Int64) (h1 : lo1.toInt ≤ hi1.toInt) (h2 : lo2.toInt ≤ hi2.toInt) : r6 lo1 hi2 lo2 hi1 = (if (0 : Int32) < (lcmpW (r2 lo1 lo2) (r1 hi1 hi2)) then (0 : Int32) else (1 : Int32)) := by
  have a := own_max lo1 lo2
  have b := own_min hi1 hi2
  simp only [r6, lw_gt, Int64.lt_iff_toInt_lt]
  by_cases x : (r1 hi1 hi2).toInt < (r2 lo1 lo2).toInt
  · rw [if_pos x]
    by_cases y : hi2.toInt < lo1.toInt
    · rw [if_pos y]
    · rw [if_neg y, if_pos (by omega)]
  · rw [if_neg x, if_neg (by omega), if_neg (by omega)]
theorem own_ov2 (lo1 hi1 lo2 hi2 : Int64) (h1 : lo1.toInt ≤ hi1.toInt) (h2 : lo2.toInt ≤ hi2.toInt) : r6 lo2 hi1 lo1 hi2 = (if (0 : Int32) < (lcmpW (r2 lo1 lo2) (r1 hi1 hi2)) then (0 : Int32) else (1 : Int32)) := by
  have a := own_max lo1 lo2
  have b := own_min hi1 hi2
  simp only [r6, lw_gt, Int64.lt_iff_toInt_lt]
  by_cases x : (r1 hi1 hi2).toInt < (r2 lo1 lo2).toInt
  · rw [if_pos x]
    by_cases y : hi1.toInt < lo2.toInt
    · rw [if_pos y]
    · rw [if_neg y, if_pos (by omega)]
  · rw [if_neg x, if_neg (by omega), if_neg (by omega)]

theorem pn_com_example_ready_ledger_readyledger_jdbc_benchmark_TimingOverlapsPinLaw : plainName "com/example/ready_ledger/readyledger/jdbc/benchmark/TimingOverlapsPinLaw" = true := by first | (simp [plainName, overriddenIn]; done) | decide +kernel
theorem pd__JJ_J : parseMethodDescriptor "(JJ)J" = some ⟨[.long, .long], some .long⟩ := by decide +kernel
theorem pd__JJJ_V : parseMethodDescriptor "(JJJ)V" = some ⟨[.long, .long, .long], none⟩ := by decide +kernel
theorem pd__Lcom_example_ready_ledger_readyledger_jdbc_benchmark_Timing__Z : parseMethodDescriptor "(Lcom/example/ready_ledger/readyledger/jdbc/benchmark/Timing;)Z" = some ⟨[(.object "com/example/ready_ledger/readyledger/jdbc/benchmark/Timing")], some .boolean⟩ := by decide +kernel
theorem ef_0 (m : MethodId) (x0 : Int64) (x1 : Int64) (x2 : Int64) (x3 : Int64) (x4 : Int64) (x5 : Int64) : entryFrame m #[(.long x0), (.long x1), (.long x2), (.long x3), (.long x4), (.long x5)] maxLocals = mkF m 0 #[.val (.long x0), .second, .val (.long x1), .second, .val (.long x2), .second, .val (.long x3), .second, .val (.long x4), .second, .val (.long x5), .second, .unset, .unset, .unset, .unset, .unset, .unset, .unset, .unset, .unset, .unset, .unset] [] := by first | (simp [entryFrame, mkF, argsToLocals, Value.category, maxLocals]; done) | rfl
def Q0 (Z : State) (q1 : Int64) (q2 : Int64) (q3 : Int64) (q4 : Int64) (q5 : Int64) (q6 : Int64) (h0 : Heap) (n0 : Nat) (v : Option Value) (h : Heap) (L : List Loc) : Prop := v = some (.int 1) ∧ Fr n0 L
set_option maxRecDepth 65536 in
set_option maxHeartbeats 40000000 in
theorem rm0 (l : Launch) (Z : State) (a0 : Array Value) (hw : ∀ d ∈ tables_1, d.before a0 Z = true) (ws : List Jvm.Cond) (q1 : Int64) (q2 : Int64) (q3 : Int64) (q4 : Int64) (q5 : Int64) (q6 : Int64) (h0 : Heap) (n0 : Nat) (Z0 : n0 ≤ h0.size)  :
    MetFree l x (head1 (Jvm.Cond.code x code maxLocals ret :: ws) room_1) (fun a U => a = #[(.long q1), (.long q2), (.long q3), (.long q4), (.long q5), (.long q6)] ∧ Z.Warmed39 U.vm ∧ U.heap = h0) (fun _ _ _ _ _ => True) (fun _ U o U' => ∃ v L, o = .returned v ∧ Q0 Z q1 q2 q3 q4 q5 q6 h0 n0 v U'.heap L ∧ FrameEnd U o U' L room_1.cells room_1.slots) := by
  refine MetFree.of_bodySF (plainFor_of_name pn_com_example_ready_ledger_readyledger_jdbc_benchmark_TimingOverlapsPinLaw) hisR ?_
  intro p e s m args below meth c s₁ Bd hml0 hP hK
  obtain ⟨rfl, hZ, hh⟩ := hP
  have hx := Bd.exec
  have hby := Bd.bytes
  have hml : c.maxLocals = 23 := hml0
  have hown : s.vm.findClass "com/example/ready_ledger/readyledger/jdbc/benchmark/TimingOverlapsPinLaw" = some m.cls := findClass_of_methodNamed Bd.named
  have hnm := (name_of_methodNamed Bd.named Bd.method).1
  have X0 : Stand p l e room_1 s m #[(.long q1), (.long q2), (.long q3), (.long q4), (.long q5), (.long q6)] below meth c s₁ [] 0 0 := Stand.of_body Bd
  have e0 : s₁.heap = h0 := by rw [← hh, Bd.state]; rfl
  have N0 := Fr.nil n0
  have pre0 : ∀ t, Steps p.tables e below (s₁.setTop (mkF m 0 #[.val (.long q1), .second, .val (.long q2), .second, .val (.long q3), .second, .val (.long q4), .second, .val (.long q5), .second, .val (.long q6), .second, .unset, .unset, .unset, .unset, .unset, .unset, .unset, .unset, .unset, .unset, .unset] [])) t → Steps p.tables e below (s₁.setTop (entryFrame m #[(.long q1), (.long q2), (.long q3), (.long q4), (.long q5), (.long q6)] maxLocals)) t := fun t k => castTop (ef_0 m q1 q2 q3 q4 q5 q6) k
  have pre1 : ∀ t, Steps p.tables e below (s₁.setTop (mkF m 2 #[.val (.long q1), .second, .val (.long q2), .second, .val (.long q3), .second, .val (.long q4), .second, .val (.long q5), .second, .val (.long q6), .second, .unset, .unset, .unset, .unset, .unset, .unset, .unset, .unset, .unset, .unset, .unset] [(.long q2), (.long q1)])) t → Steps p.tables e below (s₁.setTop (entryFrame m #[(.long q1), (.long q2), (.long q3), (.long q4), (.long q5), (.long q6)] maxLocals)) t := fun t kt => by
    refine pre0 t ?_
    refine XS.lloadN X0.here hx rfl (hb hby at_0) rfl ?_
    show Steps p.tables e below (s₁.setTop (mkF m 1 #[.val (.long q1), .second, .val (.long q2), .second, .val (.long q3), .second, .val (.long q4), .second, .val (.long q5), .second, .val (.long q6), .second, .unset, .unset, .unset, .unset, .unset, .unset, .unset, .unset, .unset, .unset, .unset] [(.long q1)])) _
    refine XS.lloadN X0.here hx rfl (hb hby at_1) rfl ?_
    show Steps p.tables e below (s₁.setTop (mkF m 2 #[.val (.long q1), .second, .val (.long q2), .second, .val (.long q3), .second, .val (.long q4), .second, .val (.long q5), .second, .val (.long q6), .second, .unset, .unset, .unset, .unset, .unset, .unset, .unset, .unset, .unset, .unset, .unset] [(.long q2), (.long q1)])) _
    exact kt
  obtain ⟨_, _, ⟨T2, L2, k2, n2⟩, -, X2, ⟨Lc2, hQ2, l2, y2, z2⟩, st2⟩ := Jvm.LawKit.callS X0 hx (y := (⟨"java/lang/Math", "min", "(JJ)J"⟩ : MethodName)) hown (mvT hZ (hw _ (mgE 0 rfl))) (mvT hZ (hw _ (mgE 1 rfl))) (mvT hZ (hw _ (mgE 2 rfl))) (mvT hZ (hw _ (mgE 3 rfl))) (by decide) (backOf (W := 0) (rm1 l Z a0 hw [] q1 q2 h0 n0 Z0 ) hZ (hw _ (mgE 3 rfl)) (hw _ (mgE 2 rfl)) (by decide) (by decide)) (g := (mkF m 2 #[.val (.long q1), .second, .val (.long q2), .second, .val (.long q3), .second, .val (.long q4), .second, .val (.long q5), .second, .val (.long q6), .second, .unset, .unset, .unset, .unset, .unset, .unset, .unset, .unset, .unset, .unset, .unset] [(.long q2), (.long q1)])) rfl (by rw [hml]; rfl) (argsL := [(.long q1), (.long q2)]) (rest := []) (lenOf pd__JJ_J rfl) rfl (by show 2 * 0 + _ ≤ _; exact Nat.le_of_eq rfl) (hb hby at_2) (fun _ _ => ⟨rfl, e0, (by decide : 0 + 0 ≤ _), (by decide : 0 + 0 ≤ _)⟩)
  dsimp only [Pt.U, Pt.locs, Pt.cells, Pt.slots] at X2 l2 y2 z2 st2 hQ2
  subst l2 y2 z2
  obtain ⟨rfl, N2q, e2⟩ := hQ2
  have pre3 : ∀ t, Steps p.tables e below (T2.setTop (mkF m 5 #[.val (.long q1), .second, .val (.long q2), .second, .val (.long q3), .second, .val (.long q4), .second, .val (.long q5), .second, .val (.long q6), .second, .unset, .unset, .unset, .unset, .unset, .unset, .unset, .unset, .unset, .unset, .unset] [(.long (r1 q1 q2))])) t → Steps p.tables e below (s₁.setTop (entryFrame m #[(.long q1), (.long q2), (.long q3), (.long q4), (.long q5), (.long q6)] maxLocals)) t := fun t kt => pre1 t (st2 t kt)
  have N2 := Fr.app N0 N2q
  have pre4 : ∀ t, Steps p.tables e below (T2.setTop (mkF m 7 #[.val (.long q1), .second, .val (.long q2), .second, .val (.long q3), .second, .val (.long q4), .second, .val (.long q5), .second, .val (.long q6), .second, .val (.long (r1 q1 q2)), .second, .unset, .unset, .unset, .unset, .unset, .unset, .unset, .unset, .unset] [])) t → Steps p.tables e below (s₁.setTop (entryFrame m #[(.long q1), (.long q2), (.long q3), (.long q4), (.long q5), (.long q6)] maxLocals)) t := fun t kt => by
    refine pre3 t ?_
    refine XS.lstore X2.here hx rfl (hb hby at_5) rfl (l' := #[.val (.long q1), .second, .val (.long q2), .second, .val (.long q3), .second, .val (.long q4), .second, .val (.long q5), .second, .val (.long q6), .second, .val (.long (r1 q1 q2)), .second, .unset, .unset, .unset, .unset, .unset, .unset, .unset, .unset, .unset]) rfl ?_
    show Steps p.tables e below (T2.setTop (mkF m 7 #[.val (.long q1), .second, .val (.long q2), .second, .val (.long q3), .second, .val (.long q4), .second, .val (.long q5), .second, .val (.long q6), .second, .val (.long (r1 q1 q2)), .second, .unset, .unset, .unset, .unset, .unset, .unset, .unset, .unset, .unset] [])) _
    exact kt
  obtain ⟨lo1, h_lo1⟩ : ∃ z, z = (r1 q1 q2) := ⟨_, rfl⟩
  rw [← h_lo1] at pre4
  have pre5 : ∀ t, Steps p.tables e below (T2.setTop (mkF m 9 #[.val (.long q1), .second, .val (.long q2), .second, .val (.long q3), .second, .val (.long q4), .second, .val (.long q5), .second, .val (.long q6), .second, .val (.long lo1), .second, .unset, .unset, .unset, .unset, .unset, .unset, .unset, .unset, .unset] [(.long q2), (.long q1)])) t → Steps p.tables e below (s₁.setTop (entryFrame m #[(.long q1), (.long q2), (.long q3), (.long q4), (.long q5), (.long q6)] maxLocals)) t := fun t kt => by
    refine pre4 t ?_
    refine XS.lloadN X2.here hx rfl (hb hby at_7) rfl ?_
    show Steps p.tables e below (T2.setTop (mkF m 8 #[.val (.long q1), .second, .val (.long q2), .second, .val (.long q3), .second, .val (.long q4), .second, .val (.long q5), .second, .val (.long q6), .second, .val (.long lo1), .second, .unset, .unset, .unset, .unset, .unset, .unset, .unset, .unset, .unset] [(.long q1)])) _
    refine XS.lloadN X2.here hx rfl (hb hby at_8) rfl ?_
    show Steps p.tables e below (T2.setTop (mkF m 9 #[.val (.long q1), .second, .val (.long q2), .second, .val (.long q3), .second, .val (.long q4), .second, .val (.long q5), .second, .val (.long q6), .second, .val (.long lo1), .second, .unset, .unset, .unset, .unset, .unset, .unset, .unset, .unset, .unset] [(.long q2), (.long q1)])) _
    exact kt
  obtain ⟨_, _, ⟨T6, L6, k6, n6⟩, -, X6, ⟨Lc6, hQ6, l6, y6, z6⟩, st6⟩ := Jvm.LawKit.callS X2 hx (y := (⟨"java/lang/Math", "max", "(JJ)J"⟩ : MethodName)) hown (mvT hZ (hw _ (mgE 4 rfl))) (mvT hZ (hw _ (mgE 5 rfl))) (mvT hZ (hw _ (mgE 2 rfl))) (mvT hZ (hw _ (mgE 6 rfl))) (by decide) (backOf (W := 0) (rm2 l Z a0 hw [] q1 q2 h0 n0 Z0 ) hZ (hw _ (mgE 6 rfl)) (hw _ (mgE 2 rfl)) (by decide) (by decide)) (g := (mkF m 9 #[.val (.long q1), .second, .val (.long q2), .second, .val (.long q3), .second, .val (.long q4), .second, .val (.long q5), .second, .val (.long q6), .second, .val (.long lo1), .second, .unset, .unset, .unset, .unset, .unset, .unset, .unset, .unset, .unset] [(.long q2), (.long q1)])) rfl (by rw [hml]; rfl) (argsL := [(.long q1), (.long q2)]) (rest := []) (lenOf pd__JJ_J rfl) rfl (by show 2 * 0 + _ ≤ _; exact Nat.le_of_eq rfl) (hb hby at_9) (fun _ _ => ⟨rfl, e2, (by decide : 0 + 0 ≤ _), (by decide : 0 + 0 ≤ _)⟩)
  dsimp only [Pt.U, Pt.locs, Pt.cells, Pt.slots] at X6 l6 y6 z6 st6 hQ6
  subst l6 y6 z6
  obtain ⟨rfl, N6q, e6⟩ := hQ6
  have pre7 : ∀ t, Steps p.tables e below (T6.setTop (mkF m 12 #[.val (.long q1), .second, .val (.long q2), .second, .val (.long q3), .second, .val (.long q4), .second, .val (.long q5), .second, .val (.long q6), .second, .val (.long lo1), .second, .unset, .unset, .unset, .unset, .unset, .unset, .unset, .unset, .unset] [(.long (r2 q1 q2))])) t → Steps p.tables e below (s₁.setTop (entryFrame m #[(.long q1), (.long q2), (.long q3), (.long q4), (.long q5), (.long q6)] maxLocals)) t := fun t kt => pre5 t (st6 t kt)
  have N6 := Fr.app N2 N6q
  have pre8 : ∀ t, Steps p.tables e below (T6.setTop (mkF m 14 #[.val (.long q1), .second, .val (.long q2), .second, .val (.long q3), .second, .val (.long q4), .second, .val (.long q5), .second, .val (.long q6), .second, .val (.long lo1), .second, .val (.long (r2 q1 q2)), .second, .unset, .unset, .unset, .unset, .unset, .unset, .unset] [])) t → Steps p.tables e below (s₁.setTop (entryFrame m #[(.long q1), (.long q2), (.long q3), (.long q4), (.long q5), (.long q6)] maxLocals)) t := fun t kt => by
    refine pre7 t ?_
    refine XS.lstore X6.here hx rfl (hb hby at_12) rfl (l' := #[.val (.long q1), .second, .val (.long q2), .second, .val (.long q3), .second, .val (.long q4), .second, .val (.long q5), .second, .val (.long q6), .second, .val (.long lo1), .second, .val (.long (r2 q1 q2)), .second, .unset, .unset, .unset, .unset, .unset, .unset, .unset]) rfl ?_
    show Steps p.tables e below (T6.setTop (mkF m 14 #[.val (.long q1), .second, .val (.long q2), .second, .val (.long q3), .second, .val (.long q4), .second, .val (.long q5), .second, .val (.long q6), .second, .val (.long lo1), .second, .val (.long (r2 q1 q2)), .second, .unset, .unset, .unset, .unset, .unset, .unset, .unset] [])) _
    exact kt
  obtain ⟨hi1, h_hi1⟩ : ∃ z, z = (r2 q1 q2) := ⟨_, rfl⟩
  rw [← h_hi1] at pre8
  have o1 : lo1.toInt ≤ hi1.toInt := by rw [h_lo1, h_hi1]; have := own_min q1 q2; have := own_max q1 q2; omega
  have pre9 : ∀ t, Steps p.tables e below (T6.setTop (mkF m 18 #[.val (.long q1), .second, .val (.long q2), .second, .val (.long q3), .second, .val (.long q4), .second, .val (.long q5), .second, .val (.long q6), .second, .val (.long lo1), .second, .val (.long hi1), .second, .unset, .unset, .unset, .unset, .unset, .unset, .unset] [(.long q4), (.long q3)])) t → Steps p.tables e below (s₁.setTop (entryFrame m #[(.long q1), (.long q2), (.long q3), (.long q4), (.long q5), (.long q6)] maxLocals)) t := fun t kt => by
    refine pre8 t ?_
    refine XS.lload X6.here hx rfl (hb hby at_14) rfl ?_
    show Steps p.tables e below (T6.setTop (mkF m 16 #[.val (.long q1), .second, .val (.long q2), .second, .val (.long q3), .second, .val (.long q4), .second, .val (.long q5), .second, .val (.long q6), .second, .val (.long lo1), .second, .val (.long hi1), .second, .unset, .unset, .unset, .unset, .unset, .unset, .unset] [(.long q3)])) _
    refine XS.lload X6.here hx rfl (hb hby at_16) rfl ?_
    show Steps p.tables e below (T6.setTop (mkF m 18 #[.val (.long q1), .second, .val (.long q2), .second, .val (.long q3), .second, .val (.long q4), .second, .val (.long q5), .second, .val (.long q6), .second, .val (.long lo1), .second, .val (.long hi1), .second, .unset, .unset, .unset, .unset, .unset, .unset, .unset] [(.long q4), (.long q3)])) _
    exact kt
  obtain ⟨_, _, ⟨T10, L10, k10, n10⟩, -, X10, ⟨Lc10, hQ10, l10, y10, z10⟩, st10⟩ := Jvm.LawKit.callS X6 hx (y := (⟨"java/lang/Math", "min", "(JJ)J"⟩ : MethodName)) hown (mvT hZ (hw _ (mgE 0 rfl))) (mvT hZ (hw _ (mgE 1 rfl))) (mvT hZ (hw _ (mgE 2 rfl))) (mvT hZ (hw _ (mgE 3 rfl))) (by decide) (backOf (W := 0) (rm1 l Z a0 hw [] q3 q4 h0 n0 Z0 ) hZ (hw _ (mgE 3 rfl)) (hw _ (mgE 2 rfl)) (by decide) (by decide)) (g := (mkF m 18 #[.val (.long q1), .second, .val (.long q2), .second, .val (.long q3), .second, .val (.long q4), .second, .val (.long q5), .second, .val (.long q6), .second, .val (.long lo1), .second, .val (.long hi1), .second, .unset, .unset, .unset, .unset, .unset, .unset, .unset] [(.long q4), (.long q3)])) rfl (by rw [hml]; rfl) (argsL := [(.long q3), (.long q4)]) (rest := []) (lenOf pd__JJ_J rfl) rfl (by show 2 * 0 + _ ≤ _; exact Nat.le_of_eq rfl) (hb hby at_18) (fun _ _ => ⟨rfl, e6, (by decide : 0 + 0 ≤ _), (by decide : 0 + 0 ≤ _)⟩)
  dsimp only [Pt.U, Pt.locs, Pt.cells, Pt.slots] at X10 l10 y10 z10 st10 hQ10
  subst l10 y10 z10
  obtain ⟨rfl, N10q, e10⟩ := hQ10
  have pre11 : ∀ t, Steps p.tables e below (T10.setTop (mkF m 21 #[.val (.long q1), .second, .val (.long q2), .second, .val (.long q3), .second, .val (.long q4), .second, .val (.long q5), .second, .val (.long q6), .second, .val (.long lo1), .second, .val (.long hi1), .second, .unset, .unset, .unset, .unset, .unset, .unset, .unset] [(.long (r1 q3 q4))])) t → Steps p.tables e below (s₁.setTop (entryFrame m #[(.long q1), (.long q2), (.long q3), (.long q4), (.long q5), (.long q6)] maxLocals)) t := fun t kt => pre9 t (st10 t kt)
  have N10 := Fr.app N6 N10q
  have pre12 : ∀ t, Steps p.tables e below (T10.setTop (mkF m 23 #[.val (.long q1), .second, .val (.long q2), .second, .val (.long q3), .second, .val (.long q4), .second, .val (.long q5), .second, .val (.long q6), .second, .val (.long lo1), .second, .val (.long hi1), .second, .val (.long (r1 q3 q4)), .second, .unset, .unset, .unset, .unset, .unset] [])) t → Steps p.tables e below (s₁.setTop (entryFrame m #[(.long q1), (.long q2), (.long q3), (.long q4), (.long q5), (.long q6)] maxLocals)) t := fun t kt => by
    refine pre11 t ?_
    refine XS.lstore X10.here hx rfl (hb hby at_21) rfl (l' := #[.val (.long q1), .second, .val (.long q2), .second, .val (.long q3), .second, .val (.long q4), .second, .val (.long q5), .second, .val (.long q6), .second, .val (.long lo1), .second, .val (.long hi1), .second, .val (.long (r1 q3 q4)), .second, .unset, .unset, .unset, .unset, .unset]) rfl ?_
    show Steps p.tables e below (T10.setTop (mkF m 23 #[.val (.long q1), .second, .val (.long q2), .second, .val (.long q3), .second, .val (.long q4), .second, .val (.long q5), .second, .val (.long q6), .second, .val (.long lo1), .second, .val (.long hi1), .second, .val (.long (r1 q3 q4)), .second, .unset, .unset, .unset, .unset, .unset] [])) _
    exact kt
  obtain ⟨lo2, h_lo2⟩ : ∃ z, z = (r1 q3 q4) := ⟨_, rfl⟩
  rw [← h_lo2] at pre12
  have pre13 : ∀ t, Steps p.tables e below (T10.setTop (mkF m 27 #[.val (.long q1), .second, .val (.long q2), .second, .val (.long q3), .second, .val (.long q4), .second, .val (.long q5), .second, .val (.long q6), .second, .val (.long lo1), .second, .val (.long hi1), .second, .val (.long lo2), .second, .unset, .unset, .unset, .unset, .unset] [(.long q4), (.long q3)])) t → Steps p.tables e below (s₁.setTop (entryFrame m #[(.long q1), (.long q2), (.long q3), (.long q4), (.long q5), (.long q6)] maxLocals)) t := fun t kt => by
    refine pre12 t ?_
    refine XS.lload X10.here hx rfl (hb hby at_23) rfl ?_
    show Steps p.tables e below (T10.setTop (mkF m 25 #[.val (.long q1), .second, .val (.long q2), .second, .val (.long q3), .second, .val (.long q4), .second, .val (.long q5), .second, .val (.long q6), .second, .val (.long lo1), .second, .val (.long hi1), .second, .val (.long lo2), .second, .unset, .unset, .unset, .unset, .unset] [(.long q3)])) _
    refine XS.lload X10.here hx rfl (hb hby at_25) rfl ?_
    show Steps p.tables e below (T10.setTop (mkF m 27 #[.val (.long q1), .second, .val (.long q2), .second, .val (.long q3), .second, .val (.long q4), .second, .val (.long q5), .second, .val (.long q6), .second, .val (.long lo1), .second, .val (.long hi1), .second, .val (.long lo2), .second, .unset, .unset, .unset, .unset, .unset] [(.long q4), (.long q3)])) _
    exact kt
  obtain ⟨_, _, ⟨T14, L14, k14, n14⟩, -, X14, ⟨Lc14, hQ14, l14, y14, z14⟩, st14⟩ := Jvm.LawKit.callS X10 hx (y := (⟨"java/lang/Math", "max", "(JJ)J"⟩ : MethodName)) hown (mvT hZ (hw _ (mgE 4 rfl))) (mvT hZ (hw _ (mgE 5 rfl))) (mvT hZ (hw _ (mgE 2 rfl))) (mvT hZ (hw _ (mgE 6 rfl))) (by decide) (backOf (W := 0) (rm2 l Z a0 hw [] q3 q4 h0 n0 Z0 ) hZ (hw _ (mgE 6 rfl)) (hw _ (mgE 2 rfl)) (by decide) (by decide)) (g := (mkF m 27 #[.val (.long q1), .second, .val (.long q2), .second, .val (.long q3), .second, .val (.long q4), .second, .val (.long q5), .second, .val (.long q6), .second, .val (.long lo1), .second, .val (.long hi1), .second, .val (.long lo2), .second, .unset, .unset, .unset, .unset, .unset] [(.long q4), (.long q3)])) rfl (by rw [hml]; rfl) (argsL := [(.long q3), (.long q4)]) (rest := []) (lenOf pd__JJ_J rfl) rfl (by show 2 * 0 + _ ≤ _; exact Nat.le_of_eq rfl) (hb hby at_27) (fun _ _ => ⟨rfl, e10, (by decide : 0 + 0 ≤ _), (by decide : 0 + 0 ≤ _)⟩)
  dsimp only [Pt.U, Pt.locs, Pt.cells, Pt.slots] at X14 l14 y14 z14 st14 hQ14
  subst l14 y14 z14
  obtain ⟨rfl, N14q, e14⟩ := hQ14
  have pre15 : ∀ t, Steps p.tables e below (T14.setTop (mkF m 30 #[.val (.long q1), .second, .val (.long q2), .second, .val (.long q3), .second, .val (.long q4), .second, .val (.long q5), .second, .val (.long q6), .second, .val (.long lo1), .second, .val (.long hi1), .second, .val (.long lo2), .second, .unset, .unset, .unset, .unset, .unset] [(.long (r2 q3 q4))])) t → Steps p.tables e below (s₁.setTop (entryFrame m #[(.long q1), (.long q2), (.long q3), (.long q4), (.long q5), (.long q6)] maxLocals)) t := fun t kt => pre13 t (st14 t kt)
  have N14 := Fr.app N10 N14q
  have pre16 : ∀ t, Steps p.tables e below (T14.setTop (mkF m 32 #[.val (.long q1), .second, .val (.long q2), .second, .val (.long q3), .second, .val (.long q4), .second, .val (.long q5), .second, .val (.long q6), .second, .val (.long lo1), .second, .val (.long hi1), .second, .val (.long lo2), .second, .val (.long (r2 q3 q4)), .second, .unset, .unset, .unset] [])) t → Steps p.tables e below (s₁.setTop (entryFrame m #[(.long q1), (.long q2), (.long q3), (.long q4), (.long q5), (.long q6)] maxLocals)) t := fun t kt => by
    refine pre15 t ?_
    refine XS.lstore X14.here hx rfl (hb hby at_30) rfl (l' := #[.val (.long q1), .second, .val (.long q2), .second, .val (.long q3), .second, .val (.long q4), .second, .val (.long q5), .second, .val (.long q6), .second, .val (.long lo1), .second, .val (.long hi1), .second, .val (.long lo2), .second, .val (.long (r2 q3 q4)), .second, .unset, .unset, .unset]) rfl ?_
    show Steps p.tables e below (T14.setTop (mkF m 32 #[.val (.long q1), .second, .val (.long q2), .second, .val (.long q3), .second, .val (.long q4), .second, .val (.long q5), .second, .val (.long q6), .second, .val (.long lo1), .second, .val (.long hi1), .second, .val (.long lo2), .second, .val (.long (r2 q3 q4)), .second, .unset, .unset, .unset] [])) _
    exact kt
  obtain ⟨hi2, h_hi2⟩ : ∃ z, z = (r2 q3 q4) := ⟨_, rfl⟩
  rw [← h_hi2] at pre16
  have o2 : lo2.toInt ≤ hi2.toInt := by rw [h_lo2, h_hi2]; have := own_min q3 q4; have := own_max q3 q4; omega
  obtain ⟨T17, h17, X17, e17, E17, A17, D17, -, st17⟩ := newO X14 hx hZ hown (hw _ (mgE 7 rfl)) (hw _ (mgE 8 rfl)) (hw _ (mgE 9 rfl)) e14 (g := (mkF m 32 #[.val (.long q1), .second, .val (.long q2), .second, .val (.long q3), .second, .val (.long q4), .second, .val (.long q5), .second, .val (.long q6), .second, .val (.long lo1), .second, .val (.long hi1), .second, .val (.long lo2), .second, .val (.long hi2), .second, .unset, .unset, .unset] [])) rfl (hb hby at_32) (by decide) (by decide)
  obtain ⟨b17, g17⟩ : ∃ z, z = h0.size := ⟨_, rfl⟩
  rw [← g17] at A17 D17 st17
  have g_b17 : n0 ≤ b17 := Nat.le_trans Z0 (Nat.le_of_eq g17.symm)
  have Z17 : n0 ≤ h17.size := Nat.le_trans Z0 E17.1
  have F_medianNs_b17 : Fld Z h17 b17 "com/example/ready_ledger/readyledger/jdbc/benchmark/Timing" "medianNs" "J" (.long (0 : Int64)) := D17 (Or.inr (hw _ (mgE 22 rfl))) (ty := .long) (by decide)
  have F_minNs_b17 : Fld Z h17 b17 "com/example/ready_ledger/readyledger/jdbc/benchmark/Timing" "minNs" "J" (.long (0 : Int64)) := D17 (Or.inr (hw _ (mgE 24 rfl))) (ty := .long) (by decide)
  have F_maxNs_b17 : Fld Z h17 b17 "com/example/ready_ledger/readyledger/jdbc/benchmark/Timing" "maxNs" "J" (.long (0 : Int64)) := D17 (Or.inr (hw _ (mgE 26 rfl))) (ty := .long) (by decide)
  have pre18 : ∀ t, Steps p.tables e below (T17.setTop (mkF m 35 #[.val (.long q1), .second, .val (.long q2), .second, .val (.long q3), .second, .val (.long q4), .second, .val (.long q5), .second, .val (.long q6), .second, .val (.long lo1), .second, .val (.long hi1), .second, .val (.long lo2), .second, .val (.long hi2), .second, .unset, .unset, .unset] [(.ref b17)])) t → Steps p.tables e below (s₁.setTop (entryFrame m #[(.long q1), (.long q2), (.long q3), (.long q4), (.long q5), (.long q6)] maxLocals)) t := fun t kt => pre16 t (st17 t kt)
  have pre19 : ∀ t, Steps p.tables e below (T17.setTop (mkF m 42 #[.val (.long q1), .second, .val (.long q2), .second, .val (.long q3), .second, .val (.long q4), .second, .val (.long q5), .second, .val (.long q6), .second, .val (.long lo1), .second, .val (.long hi1), .second, .val (.long lo2), .second, .val (.long hi2), .second, .unset, .unset, .unset] [(.long hi1), (.long lo1), (.long q5), (.ref b17), (.ref b17)])) t → Steps p.tables e below (s₁.setTop (entryFrame m #[(.long q1), (.long q2), (.long q3), (.long q4), (.long q5), (.long q6)] maxLocals)) t := fun t kt => by
    refine pre18 t ?_
    refine XS.dup X17.here hx rfl (hb hby at_35) rfl rfl ?_
    show Steps p.tables e below (T17.setTop (mkF m 36 #[.val (.long q1), .second, .val (.long q2), .second, .val (.long q3), .second, .val (.long q4), .second, .val (.long q5), .second, .val (.long q6), .second, .val (.long lo1), .second, .val (.long hi1), .second, .val (.long lo2), .second, .val (.long hi2), .second, .unset, .unset, .unset] [(.ref b17), (.ref b17)])) _
    refine XS.lload X17.here hx rfl (hb hby at_36) rfl ?_
    show Steps p.tables e below (T17.setTop (mkF m 38 #[.val (.long q1), .second, .val (.long q2), .second, .val (.long q3), .second, .val (.long q4), .second, .val (.long q5), .second, .val (.long q6), .second, .val (.long lo1), .second, .val (.long hi1), .second, .val (.long lo2), .second, .val (.long hi2), .second, .unset, .unset, .unset] [(.long q5), (.ref b17), (.ref b17)])) _
    refine XS.lload X17.here hx rfl (hb hby at_38) rfl ?_
    show Steps p.tables e below (T17.setTop (mkF m 40 #[.val (.long q1), .second, .val (.long q2), .second, .val (.long q3), .second, .val (.long q4), .second, .val (.long q5), .second, .val (.long q6), .second, .val (.long lo1), .second, .val (.long hi1), .second, .val (.long lo2), .second, .val (.long hi2), .second, .unset, .unset, .unset] [(.long lo1), (.long q5), (.ref b17), (.ref b17)])) _
    refine XS.lload X17.here hx rfl (hb hby at_40) rfl ?_
    show Steps p.tables e below (T17.setTop (mkF m 42 #[.val (.long q1), .second, .val (.long q2), .second, .val (.long q3), .second, .val (.long q4), .second, .val (.long q5), .second, .val (.long q6), .second, .val (.long lo1), .second, .val (.long hi1), .second, .val (.long lo2), .second, .val (.long hi2), .second, .unset, .unset, .unset] [(.long hi1), (.long lo1), (.long q5), (.ref b17), (.ref b17)])) _
    exact kt
  obtain ⟨_, _, ⟨T20, L20, k20, n20⟩, -, X20, ⟨Lc20, hQ20, l20, y20, z20⟩, st20⟩ := X17.specialBack hx (y := (⟨"com/example/ready_ledger/readyledger/jdbc/benchmark/Timing", "<init>", "(JJJ)V"⟩ : MethodName)) rfl hown (mvT hZ (hw _ (mgE 10 rfl))) (mvT hZ (hw _ (mgE 11 rfl))) (mvT hZ (hw _ (mgE 12 rfl))) (by decide) (backOf (W := 1) (rm3 l Z a0 hw [] b17 q5 lo1 hi1 (.long (0 : Int64)) (.long (0 : Int64)) (.long (0 : Int64)) h17 n0 Z17 A17 F_medianNs_b17 g_b17 F_minNs_b17 F_maxNs_b17) hZ (hw _ (mgE 12 rfl)) (hw _ (mgE 9 rfl)) (by decide) (by decide)) (g := (mkF m 42 #[.val (.long q1), .second, .val (.long q2), .second, .val (.long q3), .second, .val (.long q4), .second, .val (.long q5), .second, .val (.long q6), .second, .val (.long lo1), .second, .val (.long hi1), .second, .val (.long lo2), .second, .val (.long hi2), .second, .unset, .unset, .unset] [(.long hi1), (.long lo1), (.long q5), (.ref b17), (.ref b17)])) rfl (by rw [hml]; rfl) (Steps.refl _) (a := b17) (argsL := [(.long q5), (.long lo1), (.long hi1)]) (rest := [(.ref b17)]) (lenOf pd__JJJ_V rfl) rfl (by show 2 * 0 + _ ≤ _; exact Nat.le_of_eq rfl) (hb hby at_42) (fun _ _ => ⟨rfl, e17, (by decide : 1 + 0 ≤ _), (by decide : 3 + 0 ≤ _)⟩)
  dsimp only [Pt.U, Pt.locs, Pt.cells, Pt.slots] at X20 l20 y20 z20 st20 hQ20
  subst l20 y20 z20
  obtain ⟨rfl, N20q, K20, Q20_0, Q20_1, Q20_2, Q20_3⟩ := hQ20
  have Z20 : n0 ≤ T20.heap.size := Nat.le_trans Z17 K20.1
  have pre25 : ∀ t, Steps p.tables e below (T20.setTop (mkF m 45 #[.val (.long q1), .second, .val (.long q2), .second, .val (.long q3), .second, .val (.long q4), .second, .val (.long q5), .second, .val (.long q6), .second, .val (.long lo1), .second, .val (.long hi1), .second, .val (.long lo2), .second, .val (.long hi2), .second, .unset, .unset, .unset] [(.ref b17)])) t → Steps p.tables e below (s₁.setTop (entryFrame m #[(.long q1), (.long q2), (.long q3), (.long q4), (.long q5), (.long q6)] maxLocals)) t := fun t kt => pre19 t (st20.trans kt)
  have N20 := Fr.app N14 N20q
  have pre26 : ∀ t, Steps p.tables e below (T20.setTop (mkF m 47 #[.val (.long q1), .second, .val (.long q2), .second, .val (.long q3), .second, .val (.long q4), .second, .val (.long q5), .second, .val (.long q6), .second, .val (.long lo1), .second, .val (.long hi1), .second, .val (.long lo2), .second, .val (.long hi2), .second, .val (.ref b17), .unset, .unset] [])) t → Steps p.tables e below (s₁.setTop (entryFrame m #[(.long q1), (.long q2), (.long q3), (.long q4), (.long q5), (.long q6)] maxLocals)) t := fun t kt => by
    refine pre25 t ?_
    refine XS.astore X20.here hx rfl (hb hby at_45) rfl rfl (l' := #[.val (.long q1), .second, .val (.long q2), .second, .val (.long q3), .second, .val (.long q4), .second, .val (.long q5), .second, .val (.long q6), .second, .val (.long lo1), .second, .val (.long hi1), .second, .val (.long lo2), .second, .val (.long hi2), .second, .val (.ref b17), .unset, .unset]) rfl ?_
    show Steps p.tables e below (T20.setTop (mkF m 47 #[.val (.long q1), .second, .val (.long q2), .second, .val (.long q3), .second, .val (.long q4), .second, .val (.long q5), .second, .val (.long q6), .second, .val (.long lo1), .second, .val (.long hi1), .second, .val (.long lo2), .second, .val (.long hi2), .second, .val (.ref b17), .unset, .unset] [])) _
    exact kt
  obtain ⟨T27, h27, X27, e27, E27, A27, D27, -, st27⟩ := newO X20 hx hZ hown (hw _ (mgE 7 rfl)) (hw _ (mgE 8 rfl)) (hw _ (mgE 9 rfl)) rfl (g := (mkF m 47 #[.val (.long q1), .second, .val (.long q2), .second, .val (.long q3), .second, .val (.long q4), .second, .val (.long q5), .second, .val (.long q6), .second, .val (.long lo1), .second, .val (.long hi1), .second, .val (.long lo2), .second, .val (.long hi2), .second, .val (.ref b17), .unset, .unset] [])) rfl (hb hby at_47) (by decide) (by decide)
  obtain ⟨b27, g27⟩ : ∃ z, z = T20.heap.size := ⟨_, rfl⟩
  rw [← g27] at A27 D27 st27
  have ne_b17_b27 : b17 ≠ b27 := Nat.ne_of_lt (Nat.lt_of_lt_of_le Q20_0.lt (Nat.le_of_eq g27.symm))
  have g_b27 : n0 ≤ b27 := Nat.le_trans Z20 (Nat.le_of_eq g27.symm)
  have Z27 : n0 ≤ h27.size := Nat.le_trans Z20 E27.1
  have F28_27 := Q20_0.ext E27
  have F29_27 := Q20_1.ext E27
  have F31_27 := Q20_3.ext E27
  have F_medianNs_b27 : Fld Z h27 b27 "com/example/ready_ledger/readyledger/jdbc/benchmark/Timing" "medianNs" "J" (.long (0 : Int64)) := D27 (Or.inr (hw _ (mgE 22 rfl))) (ty := .long) (by decide)
  have F_minNs_b27 : Fld Z h27 b27 "com/example/ready_ledger/readyledger/jdbc/benchmark/Timing" "minNs" "J" (.long (0 : Int64)) := D27 (Or.inr (hw _ (mgE 24 rfl))) (ty := .long) (by decide)
  have F_maxNs_b27 : Fld Z h27 b27 "com/example/ready_ledger/readyledger/jdbc/benchmark/Timing" "maxNs" "J" (.long (0 : Int64)) := D27 (Or.inr (hw _ (mgE 26 rfl))) (ty := .long) (by decide)
  have pre32 : ∀ t, Steps p.tables e below (T27.setTop (mkF m 50 #[.val (.long q1), .second, .val (.long q2), .second, .val (.long q3), .second, .val (.long q4), .second, .val (.long q5), .second, .val (.long q6), .second, .val (.long lo1), .second, .val (.long hi1), .second, .val (.long lo2), .second, .val (.long hi2), .second, .val (.ref b17), .unset, .unset] [(.ref b27)])) t → Steps p.tables e below (s₁.setTop (entryFrame m #[(.long q1), (.long q2), (.long q3), (.long q4), (.long q5), (.long q6)] maxLocals)) t := fun t kt => pre26 t (st27 t kt)
  have pre33 : ∀ t, Steps p.tables e below (T27.setTop (mkF m 57 #[.val (.long q1), .second, .val (.long q2), .second, .val (.long q3), .second, .val (.long q4), .second, .val (.long q5), .second, .val (.long q6), .second, .val (.long lo1), .second, .val (.long hi1), .second, .val (.long lo2), .second, .val (.long hi2), .second, .val (.ref b17), .unset, .unset] [(.long hi2), (.long lo2), (.long q6), (.ref b27), (.ref b27)])) t → Steps p.tables e below (s₁.setTop (entryFrame m #[(.long q1), (.long q2), (.long q3), (.long q4), (.long q5), (.long q6)] maxLocals)) t := fun t kt => by
    refine pre32 t ?_
    refine XS.dup X27.here hx rfl (hb hby at_50) rfl rfl ?_
    show Steps p.tables e below (T27.setTop (mkF m 51 #[.val (.long q1), .second, .val (.long q2), .second, .val (.long q3), .second, .val (.long q4), .second, .val (.long q5), .second, .val (.long q6), .second, .val (.long lo1), .second, .val (.long hi1), .second, .val (.long lo2), .second, .val (.long hi2), .second, .val (.ref b17), .unset, .unset] [(.ref b27), (.ref b27)])) _
    refine XS.lload X27.here hx rfl (hb hby at_51) rfl ?_
    show Steps p.tables e below (T27.setTop (mkF m 53 #[.val (.long q1), .second, .val (.long q2), .second, .val (.long q3), .second, .val (.long q4), .second, .val (.long q5), .second, .val (.long q6), .second, .val (.long lo1), .second, .val (.long hi1), .second, .val (.long lo2), .second, .val (.long hi2), .second, .val (.ref b17), .unset, .unset] [(.long q6), (.ref b27), (.ref b27)])) _
    refine XS.lload X27.here hx rfl (hb hby at_53) rfl ?_
    show Steps p.tables e below (T27.setTop (mkF m 55 #[.val (.long q1), .second, .val (.long q2), .second, .val (.long q3), .second, .val (.long q4), .second, .val (.long q5), .second, .val (.long q6), .second, .val (.long lo1), .second, .val (.long hi1), .second, .val (.long lo2), .second, .val (.long hi2), .second, .val (.ref b17), .unset, .unset] [(.long lo2), (.long q6), (.ref b27), (.ref b27)])) _
    refine XS.lload X27.here hx rfl (hb hby at_55) rfl ?_
    show Steps p.tables e below (T27.setTop (mkF m 57 #[.val (.long q1), .second, .val (.long q2), .second, .val (.long q3), .second, .val (.long q4), .second, .val (.long q5), .second, .val (.long q6), .second, .val (.long lo1), .second, .val (.long hi1), .second, .val (.long lo2), .second, .val (.long hi2), .second, .val (.ref b17), .unset, .unset] [(.long hi2), (.long lo2), (.long q6), (.ref b27), (.ref b27)])) _
    exact kt
  obtain ⟨_, _, ⟨T34, L34, k34, n34⟩, -, X34, ⟨Lc34, hQ34, l34, y34, z34⟩, st34⟩ := X27.specialBack hx (y := (⟨"com/example/ready_ledger/readyledger/jdbc/benchmark/Timing", "<init>", "(JJJ)V"⟩ : MethodName)) rfl hown (mvT hZ (hw _ (mgE 10 rfl))) (mvT hZ (hw _ (mgE 11 rfl))) (mvT hZ (hw _ (mgE 12 rfl))) (by decide) (backOf (W := 1) (rm3 l Z a0 hw [] b27 q6 lo2 hi2 (.long (0 : Int64)) (.long (0 : Int64)) (.long (0 : Int64)) h27 n0 Z27 A27 F_medianNs_b27 g_b27 F_minNs_b27 F_maxNs_b27) hZ (hw _ (mgE 12 rfl)) (hw _ (mgE 9 rfl)) (by decide) (by decide)) (g := (mkF m 57 #[.val (.long q1), .second, .val (.long q2), .second, .val (.long q3), .second, .val (.long q4), .second, .val (.long q5), .second, .val (.long q6), .second, .val (.long lo1), .second, .val (.long hi1), .second, .val (.long lo2), .second, .val (.long hi2), .second, .val (.ref b17), .unset, .unset] [(.long hi2), (.long lo2), (.long q6), (.ref b27), (.ref b27)])) rfl (by rw [hml]; rfl) (Steps.refl _) (a := b27) (argsL := [(.long q6), (.long lo2), (.long hi2)]) (rest := [(.ref b27)]) (lenOf pd__JJJ_V rfl) rfl (by show 2 * 0 + _ ≤ _; exact Nat.le_of_eq rfl) (hb hby at_57) (fun _ _ => ⟨rfl, e27, (by decide : 2 + 0 ≤ _), (by decide : 6 + 0 ≤ _)⟩)
  dsimp only [Pt.U, Pt.locs, Pt.cells, Pt.slots] at X34 l34 y34 z34 st34 hQ34
  subst l34 y34 z34
  obtain ⟨rfl, N34q, K34, Q34_0, Q34_1, Q34_2, Q34_3⟩ := hQ34
  have F35_34 := F28_27.keep K34
  have F36_34 := F29_27.keep K34 (ninS ne_b17_b27 nin0)
  have F38_34 := F31_27.keep K34 (ninS ne_b17_b27 nin0)
  have Z34 : n0 ≤ T34.heap.size := Nat.le_trans Z27 K34.1
  have pre43 : ∀ t, Steps p.tables e below (T34.setTop (mkF m 60 #[.val (.long q1), .second, .val (.long q2), .second, .val (.long q3), .second, .val (.long q4), .second, .val (.long q5), .second, .val (.long q6), .second, .val (.long lo1), .second, .val (.long hi1), .second, .val (.long lo2), .second, .val (.long hi2), .second, .val (.ref b17), .unset, .unset] [(.ref b27)])) t → Steps p.tables e below (s₁.setTop (entryFrame m #[(.long q1), (.long q2), (.long q3), (.long q4), (.long q5), (.long q6)] maxLocals)) t := fun t kt => pre33 t (st34.trans kt)
  have N34 := Fr.app N20 N34q
  have pre44 : ∀ t, Steps p.tables e below (T34.setTop (mkF m 66 #[.val (.long q1), .second, .val (.long q2), .second, .val (.long q3), .second, .val (.long q4), .second, .val (.long q5), .second, .val (.long q6), .second, .val (.long lo1), .second, .val (.long hi1), .second, .val (.long lo2), .second, .val (.long hi2), .second, .val (.ref b17), .val (.ref b27), .unset] [(.long lo2), (.long lo1)])) t → Steps p.tables e below (s₁.setTop (entryFrame m #[(.long q1), (.long q2), (.long q3), (.long q4), (.long q5), (.long q6)] maxLocals)) t := fun t kt => by
    refine pre43 t ?_
    refine XS.astore X34.here hx rfl (hb hby at_60) rfl rfl (l' := #[.val (.long q1), .second, .val (.long q2), .second, .val (.long q3), .second, .val (.long q4), .second, .val (.long q5), .second, .val (.long q6), .second, .val (.long lo1), .second, .val (.long hi1), .second, .val (.long lo2), .second, .val (.long hi2), .second, .val (.ref b17), .val (.ref b27), .unset]) rfl ?_
    show Steps p.tables e below (T34.setTop (mkF m 62 #[.val (.long q1), .second, .val (.long q2), .second, .val (.long q3), .second, .val (.long q4), .second, .val (.long q5), .second, .val (.long q6), .second, .val (.long lo1), .second, .val (.long hi1), .second, .val (.long lo2), .second, .val (.long hi2), .second, .val (.ref b17), .val (.ref b27), .unset] [])) _
    refine XS.lload X34.here hx rfl (hb hby at_62) rfl ?_
    show Steps p.tables e below (T34.setTop (mkF m 64 #[.val (.long q1), .second, .val (.long q2), .second, .val (.long q3), .second, .val (.long q4), .second, .val (.long q5), .second, .val (.long q6), .second, .val (.long lo1), .second, .val (.long hi1), .second, .val (.long lo2), .second, .val (.long hi2), .second, .val (.ref b17), .val (.ref b27), .unset] [(.long lo1)])) _
    refine XS.lload X34.here hx rfl (hb hby at_64) rfl ?_
    show Steps p.tables e below (T34.setTop (mkF m 66 #[.val (.long q1), .second, .val (.long q2), .second, .val (.long q3), .second, .val (.long q4), .second, .val (.long q5), .second, .val (.long q6), .second, .val (.long lo1), .second, .val (.long hi1), .second, .val (.long lo2), .second, .val (.long hi2), .second, .val (.ref b17), .val (.ref b27), .unset] [(.long lo2), (.long lo1)])) _
    exact kt
  obtain ⟨_, _, ⟨T45, L45, k45, n45⟩, -, X45, ⟨Lc45, hQ45, l45, y45, z45⟩, st45⟩ := Jvm.LawKit.callS X34 hx (y := (⟨"java/lang/Math", "max", "(JJ)J"⟩ : MethodName)) hown (mvT hZ (hw _ (mgE 4 rfl))) (mvT hZ (hw _ (mgE 5 rfl))) (mvT hZ (hw _ (mgE 2 rfl))) (mvT hZ (hw _ (mgE 6 rfl))) (by decide) (backOf (W := 0) (rm2 l Z a0 hw [] lo1 lo2 T34.heap n0 Z34 ) hZ (hw _ (mgE 6 rfl)) (hw _ (mgE 2 rfl)) (by decide) (by decide)) (g := (mkF m 66 #[.val (.long q1), .second, .val (.long q2), .second, .val (.long q3), .second, .val (.long q4), .second, .val (.long q5), .second, .val (.long q6), .second, .val (.long lo1), .second, .val (.long hi1), .second, .val (.long lo2), .second, .val (.long hi2), .second, .val (.ref b17), .val (.ref b27), .unset] [(.long lo2), (.long lo1)])) rfl (by rw [hml]; rfl) (argsL := [(.long lo1), (.long lo2)]) (rest := []) (lenOf pd__JJ_J rfl) rfl (by show 2 * 0 + _ ≤ _; exact Nat.le_of_eq rfl) (hb hby at_66) (fun _ _ => ⟨rfl, rfl, (by decide : 2 + 0 ≤ _), (by decide : 6 + 0 ≤ _)⟩)
  dsimp only [Pt.U, Pt.locs, Pt.cells, Pt.slots] at X45 l45 y45 z45 st45 hQ45
  subst l45 y45 z45
  obtain ⟨rfl, N45q, e45⟩ := hQ45
  have pre46 : ∀ t, Steps p.tables e below (T45.setTop (mkF m 69 #[.val (.long q1), .second, .val (.long q2), .second, .val (.long q3), .second, .val (.long q4), .second, .val (.long q5), .second, .val (.long q6), .second, .val (.long lo1), .second, .val (.long hi1), .second, .val (.long lo2), .second, .val (.long hi2), .second, .val (.ref b17), .val (.ref b27), .unset] [(.long (r2 lo1 lo2))])) t → Steps p.tables e below (s₁.setTop (entryFrame m #[(.long q1), (.long q2), (.long q3), (.long q4), (.long q5), (.long q6)] maxLocals)) t := fun t kt => pre44 t (st45 t kt)
  have N45 := Fr.app N34 N45q
  have pre47 : ∀ t, Steps p.tables e below (T45.setTop (mkF m 73 #[.val (.long q1), .second, .val (.long q2), .second, .val (.long q3), .second, .val (.long q4), .second, .val (.long q5), .second, .val (.long q6), .second, .val (.long lo1), .second, .val (.long hi1), .second, .val (.long lo2), .second, .val (.long hi2), .second, .val (.ref b17), .val (.ref b27), .unset] [(.long hi2), (.long hi1), (.long (r2 lo1 lo2))])) t → Steps p.tables e below (s₁.setTop (entryFrame m #[(.long q1), (.long q2), (.long q3), (.long q4), (.long q5), (.long q6)] maxLocals)) t := fun t kt => by
    refine pre46 t ?_
    refine XS.lload X45.here hx rfl (hb hby at_69) rfl ?_
    show Steps p.tables e below (T45.setTop (mkF m 71 #[.val (.long q1), .second, .val (.long q2), .second, .val (.long q3), .second, .val (.long q4), .second, .val (.long q5), .second, .val (.long q6), .second, .val (.long lo1), .second, .val (.long hi1), .second, .val (.long lo2), .second, .val (.long hi2), .second, .val (.ref b17), .val (.ref b27), .unset] [(.long hi1), (.long (r2 lo1 lo2))])) _
    refine XS.lload X45.here hx rfl (hb hby at_71) rfl ?_
    show Steps p.tables e below (T45.setTop (mkF m 73 #[.val (.long q1), .second, .val (.long q2), .second, .val (.long q3), .second, .val (.long q4), .second, .val (.long q5), .second, .val (.long q6), .second, .val (.long lo1), .second, .val (.long hi1), .second, .val (.long lo2), .second, .val (.long hi2), .second, .val (.ref b17), .val (.ref b27), .unset] [(.long hi2), (.long hi1), (.long (r2 lo1 lo2))])) _
    exact kt
  obtain ⟨_, _, ⟨T48, L48, k48, n48⟩, -, X48, ⟨Lc48, hQ48, l48, y48, z48⟩, st48⟩ := Jvm.LawKit.callS X45 hx (y := (⟨"java/lang/Math", "min", "(JJ)J"⟩ : MethodName)) hown (mvT hZ (hw _ (mgE 0 rfl))) (mvT hZ (hw _ (mgE 1 rfl))) (mvT hZ (hw _ (mgE 2 rfl))) (mvT hZ (hw _ (mgE 3 rfl))) (by decide) (backOf (W := 2) (rm1 l Z a0 hw [] hi1 hi2 T34.heap n0 Z34 ) hZ (hw _ (mgE 3 rfl)) (hw _ (mgE 2 rfl)) (by decide) (by decide)) (g := (mkF m 73 #[.val (.long q1), .second, .val (.long q2), .second, .val (.long q3), .second, .val (.long q4), .second, .val (.long q5), .second, .val (.long q6), .second, .val (.long lo1), .second, .val (.long hi1), .second, .val (.long lo2), .second, .val (.long hi2), .second, .val (.ref b17), .val (.ref b27), .unset] [(.long hi2), (.long hi1), (.long (r2 lo1 lo2))])) rfl (by rw [hml]; rfl) (argsL := [(.long hi1), (.long hi2)]) (rest := [(.long (r2 lo1 lo2))]) (lenOf pd__JJ_J rfl) rfl (by show 2 * 0 + _ ≤ _; exact Nat.le_of_eq rfl) (hb hby at_73) (fun _ _ => ⟨rfl, e45, (by decide : 2 + 0 ≤ _), (by decide : 6 + 0 ≤ _)⟩)
  dsimp only [Pt.U, Pt.locs, Pt.cells, Pt.slots] at X48 l48 y48 z48 st48 hQ48
  subst l48 y48 z48
  obtain ⟨rfl, N48q, e48⟩ := hQ48
  have pre49 : ∀ t, Steps p.tables e below (T48.setTop (mkF m 76 #[.val (.long q1), .second, .val (.long q2), .second, .val (.long q3), .second, .val (.long q4), .second, .val (.long q5), .second, .val (.long q6), .second, .val (.long lo1), .second, .val (.long hi1), .second, .val (.long lo2), .second, .val (.long hi2), .second, .val (.ref b17), .val (.ref b27), .unset] [(.long (r1 hi1 hi2)), (.long (r2 lo1 lo2))])) t → Steps p.tables e below (s₁.setTop (entryFrame m #[(.long q1), (.long q2), (.long q3), (.long q4), (.long q5), (.long q6)] maxLocals)) t := fun t kt => pre47 t (st48 t kt)
  have N48 := Fr.app N45 N48q
  have pre50 : ∀ t, Steps p.tables e below (T48.setTop (mkF m 77 #[.val (.long q1), .second, .val (.long q2), .second, .val (.long q3), .second, .val (.long q4), .second, .val (.long q5), .second, .val (.long q6), .second, .val (.long lo1), .second, .val (.long hi1), .second, .val (.long lo2), .second, .val (.long hi2), .second, .val (.ref b17), .val (.ref b27), .unset] [(.int (lcmpW (r2 lo1 lo2) (r1 hi1 hi2)))])) t → Steps p.tables e below (s₁.setTop (entryFrame m #[(.long q1), (.long q2), (.long q3), (.long q4), (.long q5), (.long q6)] maxLocals)) t := fun t kt => by
    refine pre49 t ?_
    refine XS.lcmp X48.here hx rfl (hb hby at_76) rfl ?_
    show Steps p.tables e below (T48.setTop (mkF m 77 #[.val (.long q1), .second, .val (.long q2), .second, .val (.long q3), .second, .val (.long q4), .second, .val (.long q5), .second, .val (.long q6), .second, .val (.long lo1), .second, .val (.long hi1), .second, .val (.long lo2), .second, .val (.long hi2), .second, .val (.ref b17), .val (.ref b27), .unset] [(.int (lcmpW (r2 lo1 lo2) (r1 hi1 hi2)))])) _
    exact kt
  have pre51 : ∀ t, Steps p.tables e below (T48.setTop (mkF m 85 #[.val (.long q1), .second, .val (.long q2), .second, .val (.long q3), .second, .val (.long q4), .second, .val (.long q5), .second, .val (.long q6), .second, .val (.long lo1), .second, .val (.long hi1), .second, .val (.long lo2), .second, .val (.long hi2), .second, .val (.ref b17), .val (.ref b27), .unset] [(.int (if (0 : Int32) < (lcmpW (r2 lo1 lo2) (r1 hi1 hi2)) then (0 : Int32) else (1 : Int32)))])) t → Steps p.tables e below (s₁.setTop (entryFrame m #[(.long q1), (.long q2), (.long q3), (.long q4), (.long q5), (.long q6)] maxLocals)) t := fun t kt => by
    by_cases hc77 : (0 : Int32) < (lcmpW (r2 lo1 lo2) (r1 hi1 hi2))
    · skip
      try simp only [if_pos hc77] at kt
      refine pre50 t ?_
      refine XS.ifYes X48.here hx rfl (pc0 := 77) (pc' := 84) rfl (hb hby at_77) rfl ((if0 _ _).trans (tlt hc77).2.2.1) (by decide) (by decide) ?_
      show Steps p.tables e below (T48.setTop (mkF m 84 #[.val (.long q1), .second, .val (.long q2), .second, .val (.long q3), .second, .val (.long q4), .second, .val (.long q5), .second, .val (.long q6), .second, .val (.long lo1), .second, .val (.long hi1), .second, .val (.long lo2), .second, .val (.long hi2), .second, .val (.ref b17), .val (.ref b27), .unset] [])) _
      refine XS.iconst X48.here hx rfl (hb hby at_84) ?_
      show Steps p.tables e below (T48.setTop (mkF m 85 #[.val (.long q1), .second, .val (.long q2), .second, .val (.long q3), .second, .val (.long q4), .second, .val (.long q5), .second, .val (.long q6), .second, .val (.long lo1), .second, .val (.long hi1), .second, .val (.long lo2), .second, .val (.long hi2), .second, .val (.ref b17), .val (.ref b27), .unset] [(.int (0 : Int32))])) _
      exact kt
    · skip
      try simp only [if_neg hc77] at kt
      refine pre50 t ?_
      refine XS.ifNo X48.here hx rfl (hb hby at_77) rfl ((if0 _ _).trans (flt hc77).2.2.1) ?_
      show Steps p.tables e below (T48.setTop (mkF m 80 #[.val (.long q1), .second, .val (.long q2), .second, .val (.long q3), .second, .val (.long q4), .second, .val (.long q5), .second, .val (.long q6), .second, .val (.long lo1), .second, .val (.long hi1), .second, .val (.long lo2), .second, .val (.long hi2), .second, .val (.ref b17), .val (.ref b27), .unset] [])) _
      refine XS.iconst X48.here hx rfl (hb hby at_80) ?_
      show Steps p.tables e below (T48.setTop (mkF m 81 #[.val (.long q1), .second, .val (.long q2), .second, .val (.long q3), .second, .val (.long q4), .second, .val (.long q5), .second, .val (.long q6), .second, .val (.long lo1), .second, .val (.long hi1), .second, .val (.long lo2), .second, .val (.long hi2), .second, .val (.ref b17), .val (.ref b27), .unset] [(.int (1 : Int32))])) _
      refine XS.goto X48.here hx rfl (pc0 := 81) (pc' := 85) rfl (hb hby at_81) (by decide) (by decide) ?_
      show Steps p.tables e below (T48.setTop (mkF m 85 #[.val (.long q1), .second, .val (.long q2), .second, .val (.long q3), .second, .val (.long q4), .second, .val (.long q5), .second, .val (.long q6), .second, .val (.long lo1), .second, .val (.long hi1), .second, .val (.long lo2), .second, .val (.long hi2), .second, .val (.ref b17), .val (.ref b27), .unset] [(.int (1 : Int32))])) _
      exact kt
  have pre52 : ∀ t, Steps p.tables e below (T48.setTop (mkF m 87 #[.val (.long q1), .second, .val (.long q2), .second, .val (.long q3), .second, .val (.long q4), .second, .val (.long q5), .second, .val (.long q6), .second, .val (.long lo1), .second, .val (.long hi1), .second, .val (.long lo2), .second, .val (.long hi2), .second, .val (.ref b17), .val (.ref b27), .val (.int (if (0 : Int32) < (lcmpW (r2 lo1 lo2) (r1 hi1 hi2)) then (0 : Int32) else (1 : Int32)))] [])) t → Steps p.tables e below (s₁.setTop (entryFrame m #[(.long q1), (.long q2), (.long q3), (.long q4), (.long q5), (.long q6)] maxLocals)) t := fun t kt => by
    refine pre51 t ?_
    refine XS.istore X48.here hx rfl (hb hby at_85) rfl (l' := #[.val (.long q1), .second, .val (.long q2), .second, .val (.long q3), .second, .val (.long q4), .second, .val (.long q5), .second, .val (.long q6), .second, .val (.long lo1), .second, .val (.long hi1), .second, .val (.long lo2), .second, .val (.long hi2), .second, .val (.ref b17), .val (.ref b27), .val (.int (if (0 : Int32) < (lcmpW (r2 lo1 lo2) (r1 hi1 hi2)) then (0 : Int32) else (1 : Int32)))]) rfl ?_
    show Steps p.tables e below (T48.setTop (mkF m 87 #[.val (.long q1), .second, .val (.long q2), .second, .val (.long q3), .second, .val (.long q4), .second, .val (.long q5), .second, .val (.long q6), .second, .val (.long lo1), .second, .val (.long hi1), .second, .val (.long lo2), .second, .val (.long hi2), .second, .val (.ref b17), .val (.ref b27), .val (.int (if (0 : Int32) < (lcmpW (r2 lo1 lo2) (r1 hi1 hi2)) then (0 : Int32) else (1 : Int32)))] [])) _
    exact kt
  obtain ⟨ex, h_ex⟩ : ∃ z, z = (if (0 : Int32) < (lcmpW (r2 lo1 lo2) (r1 hi1 hi2)) then (0 : Int32) else (1 : Int32)) := ⟨_, rfl⟩
  rw [← h_ex] at pre52
  have pre53 : ∀ t, Steps p.tables e below (T48.setTop (mkF m 91 #[.val (.long q1), .second, .val (.long q2), .second, .val (.long q3), .second, .val (.long q4), .second, .val (.long q5), .second, .val (.long q6), .second, .val (.long lo1), .second, .val (.long hi1), .second, .val (.long lo2), .second, .val (.long hi2), .second, .val (.ref b17), .val (.ref b27), .val (.int ex)] [(.ref b27), (.ref b17)])) t → Steps p.tables e below (s₁.setTop (entryFrame m #[(.long q1), (.long q2), (.long q3), (.long q4), (.long q5), (.long q6)] maxLocals)) t := fun t kt => by
    refine pre52 t ?_
    refine XS.aload X48.here hx rfl (hb hby at_87) rfl rfl ?_
    show Steps p.tables e below (T48.setTop (mkF m 89 #[.val (.long q1), .second, .val (.long q2), .second, .val (.long q3), .second, .val (.long q4), .second, .val (.long q5), .second, .val (.long q6), .second, .val (.long lo1), .second, .val (.long hi1), .second, .val (.long lo2), .second, .val (.long hi2), .second, .val (.ref b17), .val (.ref b27), .val (.int ex)] [(.ref b17)])) _
    refine XS.aload X48.here hx rfl (hb hby at_89) rfl rfl ?_
    show Steps p.tables e below (T48.setTop (mkF m 91 #[.val (.long q1), .second, .val (.long q2), .second, .val (.long q3), .second, .val (.long q4), .second, .val (.long q5), .second, .val (.long q6), .second, .val (.long lo1), .second, .val (.long hi1), .second, .val (.long lo2), .second, .val (.long hi2), .second, .val (.ref b17), .val (.ref b27), .val (.int ex)] [(.ref b27), (.ref b17)])) _
    exact kt
  obtain ⟨cq54, kq54, q54a, q54b, q54c⟩ := isOf hZ e48 F35_34
  obtain ⟨_, _, ⟨T54, L54, k54, n54⟩, -, X54, ⟨Lc54, hQ54, l54, y54, z54⟩, st54⟩ := X48.virtualBack hx (y := (⟨"com/example/ready_ledger/readyledger/jdbc/benchmark/Timing", "overlaps", "(Lcom/example/ready_ledger/readyledger/jdbc/benchmark/Timing;)Z"⟩ : MethodName)) (z := (⟨"com/example/ready_ledger/readyledger/jdbc/benchmark/Timing", "overlaps", "(Lcom/example/ready_ledger/readyledger/jdbc/benchmark/Timing;)Z"⟩ : MethodName)) hown (mvT hZ (hw _ (mgE 27 rfl))) (mvT hZ (hw _ (mgE 28 rfl))) (notFace_of_selects (args := #[]) (mvT hZ (hw _ (mgE 30 rfl)))) (mvT hZ (hw _ (mgE 30 rfl))) (mvT hZ (hw _ (mgE 29 rfl))) (by decide) (backOf (W := 0) (rm6 l Z a0 hw [] b17 b27 lo1 hi2 lo2 hi1 T34.heap n0 Z34 F38_34 Q34_1 Q34_3 F36_34) hZ (hw _ (mgE 31 rfl)) (hw _ (mgE 9 rfl)) (by decide) (by decide)) q54a q54c (g := (mkF m 91 #[.val (.long q1), .second, .val (.long q2), .second, .val (.long q3), .second, .val (.long q4), .second, .val (.long q5), .second, .val (.long q6), .second, .val (.long lo1), .second, .val (.long hi1), .second, .val (.long lo2), .second, .val (.long hi2), .second, .val (.ref b17), .val (.ref b27), .val (.int ex)] [(.ref b27), (.ref b17)])) rfl (by rw [hml]; rfl) (Steps.refl _) (argsL := [(.ref b27)]) (rest := []) (lenOf pd__Lcom_example_ready_ledger_readyledger_jdbc_benchmark_Timing__Z rfl) rfl (by show 2 * 0 + _ ≤ _; exact Nat.le_of_eq rfl) (hb hby at_91) (fun _ _ => ⟨rfl, e48, (by decide : 2 + 0 ≤ _), (by decide : 6 + 0 ≤ _)⟩)
  dsimp only [Pt.U, Pt.locs, Pt.cells, Pt.slots] at X54 l54 y54 z54 st54 hQ54
  subst l54 y54 z54
  obtain ⟨rfl, N54q, e54⟩ := hQ54
  have pre55 : ∀ t, Steps p.tables e below (T54.setTop (mkF m 94 #[.val (.long q1), .second, .val (.long q2), .second, .val (.long q3), .second, .val (.long q4), .second, .val (.long q5), .second, .val (.long q6), .second, .val (.long lo1), .second, .val (.long hi1), .second, .val (.long lo2), .second, .val (.long hi2), .second, .val (.ref b17), .val (.ref b27), .val (.int ex)] [(.int (r6 lo1 hi2 lo2 hi1))])) t → Steps p.tables e below (s₁.setTop (entryFrame m #[(.long q1), (.long q2), (.long q3), (.long q4), (.long q5), (.long q6)] maxLocals)) t := fun t kt => pre53 t (st54.trans kt)
  have N54 := Fr.app N48 N54q
  have hc96 : (r6 lo1 hi2 lo2 hi1) = ex := (own_ov lo1 hi1 lo2 hi2 o1 o2).trans h_ex.symm
  have pre56 : ∀ t, Steps p.tables e below (T54.setTop (mkF m 103 #[.val (.long q1), .second, .val (.long q2), .second, .val (.long q3), .second, .val (.long q4), .second, .val (.long q5), .second, .val (.long q6), .second, .val (.long lo1), .second, .val (.long hi1), .second, .val (.long lo2), .second, .val (.long hi2), .second, .val (.ref b17), .val (.ref b27), .val (.int ex)] [(.ref b17), (.ref b27)])) t → Steps p.tables e below (s₁.setTop (entryFrame m #[(.long q1), (.long q2), (.long q3), (.long q4), (.long q5), (.long q6)] maxLocals)) t := fun t kt => by
    refine pre55 t ?_
    refine XS.iload X54.here hx rfl (hb hby at_94) rfl ?_
    show Steps p.tables e below (T54.setTop (mkF m 96 #[.val (.long q1), .second, .val (.long q2), .second, .val (.long q3), .second, .val (.long q4), .second, .val (.long q5), .second, .val (.long q6), .second, .val (.long lo1), .second, .val (.long hi1), .second, .val (.long lo2), .second, .val (.long hi2), .second, .val (.ref b17), .val (.ref b27), .val (.int ex)] [(.int ex), (.int (r6 lo1 hi2 lo2 hi1))])) _
    refine XS.icmpNo X54.here hx rfl (hb hby at_96) rfl (teq hc96).2 ?_
    show Steps p.tables e below (T54.setTop (mkF m 99 #[.val (.long q1), .second, .val (.long q2), .second, .val (.long q3), .second, .val (.long q4), .second, .val (.long q5), .second, .val (.long q6), .second, .val (.long lo1), .second, .val (.long hi1), .second, .val (.long lo2), .second, .val (.long hi2), .second, .val (.ref b17), .val (.ref b27), .val (.int ex)] [])) _
    refine XS.aload X54.here hx rfl (hb hby at_99) rfl rfl ?_
    show Steps p.tables e below (T54.setTop (mkF m 101 #[.val (.long q1), .second, .val (.long q2), .second, .val (.long q3), .second, .val (.long q4), .second, .val (.long q5), .second, .val (.long q6), .second, .val (.long lo1), .second, .val (.long hi1), .second, .val (.long lo2), .second, .val (.long hi2), .second, .val (.ref b17), .val (.ref b27), .val (.int ex)] [(.ref b27)])) _
    refine XS.aload X54.here hx rfl (hb hby at_101) rfl rfl ?_
    show Steps p.tables e below (T54.setTop (mkF m 103 #[.val (.long q1), .second, .val (.long q2), .second, .val (.long q3), .second, .val (.long q4), .second, .val (.long q5), .second, .val (.long q6), .second, .val (.long lo1), .second, .val (.long hi1), .second, .val (.long lo2), .second, .val (.long hi2), .second, .val (.ref b17), .val (.ref b27), .val (.int ex)] [(.ref b17), (.ref b27)])) _
    exact kt
  obtain ⟨cq57, kq57, q57a, q57b, q57c⟩ := isOf hZ e54 Q34_0
  obtain ⟨_, _, ⟨T57, L57, k57, n57⟩, -, X57, ⟨Lc57, hQ57, l57, y57, z57⟩, st57⟩ := X54.virtualBack hx (y := (⟨"com/example/ready_ledger/readyledger/jdbc/benchmark/Timing", "overlaps", "(Lcom/example/ready_ledger/readyledger/jdbc/benchmark/Timing;)Z"⟩ : MethodName)) (z := (⟨"com/example/ready_ledger/readyledger/jdbc/benchmark/Timing", "overlaps", "(Lcom/example/ready_ledger/readyledger/jdbc/benchmark/Timing;)Z"⟩ : MethodName)) hown (mvT hZ (hw _ (mgE 27 rfl))) (mvT hZ (hw _ (mgE 28 rfl))) (notFace_of_selects (args := #[]) (mvT hZ (hw _ (mgE 30 rfl)))) (mvT hZ (hw _ (mgE 30 rfl))) (mvT hZ (hw _ (mgE 29 rfl))) (by decide) (backOf (W := 0) (rm6 l Z a0 hw [] b27 b17 lo2 hi1 lo1 hi2 T34.heap n0 Z34 Q34_3 F36_34 F38_34 Q34_1) hZ (hw _ (mgE 31 rfl)) (hw _ (mgE 9 rfl)) (by decide) (by decide)) q57a q57c (g := (mkF m 103 #[.val (.long q1), .second, .val (.long q2), .second, .val (.long q3), .second, .val (.long q4), .second, .val (.long q5), .second, .val (.long q6), .second, .val (.long lo1), .second, .val (.long hi1), .second, .val (.long lo2), .second, .val (.long hi2), .second, .val (.ref b17), .val (.ref b27), .val (.int ex)] [(.ref b17), (.ref b27)])) rfl (by rw [hml]; rfl) (Steps.refl _) (argsL := [(.ref b17)]) (rest := []) (lenOf pd__Lcom_example_ready_ledger_readyledger_jdbc_benchmark_Timing__Z rfl) rfl (by show 2 * 0 + _ ≤ _; exact Nat.le_of_eq rfl) (hb hby at_103) (fun _ _ => ⟨rfl, e54, (by decide : 2 + 0 ≤ _), (by decide : 6 + 0 ≤ _)⟩)
  dsimp only [Pt.U, Pt.locs, Pt.cells, Pt.slots] at X57 l57 y57 z57 st57 hQ57
  subst l57 y57 z57
  obtain ⟨rfl, N57q, e57⟩ := hQ57
  have pre58 : ∀ t, Steps p.tables e below (T57.setTop (mkF m 106 #[.val (.long q1), .second, .val (.long q2), .second, .val (.long q3), .second, .val (.long q4), .second, .val (.long q5), .second, .val (.long q6), .second, .val (.long lo1), .second, .val (.long hi1), .second, .val (.long lo2), .second, .val (.long hi2), .second, .val (.ref b17), .val (.ref b27), .val (.int ex)] [(.int (r6 lo2 hi1 lo1 hi2))])) t → Steps p.tables e below (s₁.setTop (entryFrame m #[(.long q1), (.long q2), (.long q3), (.long q4), (.long q5), (.long q6)] maxLocals)) t := fun t kt => pre56 t (st57.trans kt)
  have N57 := Fr.app N54 N57q
  have hc108 : (r6 lo2 hi1 lo1 hi2) = ex := (own_ov2 lo1 hi1 lo2 hi2 o1 o2).trans h_ex.symm
  have pre59 : ∀ t, Steps p.tables e below (T57.setTop (mkF m 116 #[.val (.long q1), .second, .val (.long q2), .second, .val (.long q3), .second, .val (.long q4), .second, .val (.long q5), .second, .val (.long q6), .second, .val (.long lo1), .second, .val (.long hi1), .second, .val (.long lo2), .second, .val (.long hi2), .second, .val (.ref b17), .val (.ref b27), .val (.int ex)] [(.int (1 : Int32))])) t → Steps p.tables e below (s₁.setTop (entryFrame m #[(.long q1), (.long q2), (.long q3), (.long q4), (.long q5), (.long q6)] maxLocals)) t := fun t kt => by
    refine pre58 t ?_
    refine XS.iload X57.here hx rfl (hb hby at_106) rfl ?_
    show Steps p.tables e below (T57.setTop (mkF m 108 #[.val (.long q1), .second, .val (.long q2), .second, .val (.long q3), .second, .val (.long q4), .second, .val (.long q5), .second, .val (.long q6), .second, .val (.long lo1), .second, .val (.long hi1), .second, .val (.long lo2), .second, .val (.long hi2), .second, .val (.ref b17), .val (.ref b27), .val (.int ex)] [(.int ex), (.int (r6 lo2 hi1 lo1 hi2))])) _
    refine XS.icmpNo X57.here hx rfl (hb hby at_108) rfl (teq hc108).2 ?_
    show Steps p.tables e below (T57.setTop (mkF m 111 #[.val (.long q1), .second, .val (.long q2), .second, .val (.long q3), .second, .val (.long q4), .second, .val (.long q5), .second, .val (.long q6), .second, .val (.long lo1), .second, .val (.long hi1), .second, .val (.long lo2), .second, .val (.long hi2), .second, .val (.ref b17), .val (.ref b27), .val (.int ex)] [])) _
    refine XS.iconst X57.here hx rfl (hb hby at_111) ?_
    show Steps p.tables e below (T57.setTop (mkF m 112 #[.val (.long q1), .second, .val (.long q2), .second, .val (.long q3), .second, .val (.long q4), .second, .val (.long q5), .second, .val (.long q6), .second, .val (.long lo1), .second, .val (.long hi1), .second, .val (.long lo2), .second, .val (.long hi2), .second, .val (.ref b17), .val (.ref b27), .val (.int ex)] [(.int (1 : Int32))])) _
    refine XS.goto X57.here hx rfl (pc0 := 112) (pc' := 116) rfl (hb hby at_112) (by decide) (by decide) ?_
    show Steps p.tables e below (T57.setTop (mkF m 116 #[.val (.long q1), .second, .val (.long q2), .second, .val (.long q3), .second, .val (.long q4), .second, .val (.long q5), .second, .val (.long q6), .second, .val (.long lo1), .second, .val (.long hi1), .second, .val (.long lo2), .second, .val (.long hi2), .second, .val (.ref b17), .val (.ref b27), .val (.int ex)] [(.int (1 : Int32))])) _
    exact kt
  obtain ⟨fs, hr, hrun, hended, hW, hsame⟩ := X57.leave (v := some (.int (1 : Int32))) (fun h => by rw [Bd.returns] at h; cases h)
  refine ⟨_, _, pre59 _ ?_, hrun, hended, _, _, rfl, ?_, ⟨_, rfl⟩, hW, hsame.mono (by decide) (by decide)⟩
  · exact retN X57 hx (t := .boolean) Bd.returns (by simp) (hb hby at_116) hr
  · show Q0 Z q1 q2 q3 q4 q5 q6 h0 n0 _ T57.heap _
    rw [e57]
    exact ⟨rfl, N57⟩
set_option maxRecDepth 65536 in
set_option maxHeartbeats 40000000 in
theorem comes_1 {Post : Tables → Env → Array Value → State → Outcome → State → Prop} (hpost : ∀ tb e args s v u, (limb_1_1.after args s (.returned v) u = true ∧ limb_1_2.after args s (.returned v) u = true ∧ True) → FrameEnd s (.returned v) u (Jvm.fieldLocs frame_1_writes args s ++ Jvm.arrayLocs frame_1_arrays args s ++ Jvm.staticLocs frame_1_statics s) 16 128 → Post tb e args s (.returned v) u) :
    ArmFor flags0 classFile x code maxLocals ret World_1 tables_1 room_1 Calls_1 rest_1 Pre_1 Post := by
  intro l hfl _ _ p e ha hc hk s m args below hf hA hF happ hP
  obtain ⟨hcalls, hrest, hpre⟩ := hP
  obtain ⟨-, -, -, hnamed, -, -, -, hat⟩ := (Spec.applies_iff hf).mp happ
  obtain ⟨hg, hn⟩ := and_e (Cond.before_iff.mp (show (Jvm.Cond.and given_1 narrow_1).before args s = true from hpre))
  obtain ⟨g1, g2⟩ := and_e hg
  obtain ⟨g3, g4⟩ := and_e g2
  obtain ⟨g5, g6⟩ := and_e g4
  obtain ⟨g7, g8⟩ := and_e g6
  obtain ⟨g9, g10⟩ := and_e g8
  obtain ⟨g11, g12⟩ := and_e g10
  obtain ⟨w0, w1, w2, w3, w4, w5, rfl⟩ : ∃ w0 w1 w2 w3 w4 w5 : Value, args = #[w0, w1, w2, w3, w4, w5] := by
    have hs : args.size = 6 := by simpa [Cond.value, given_1] using g1
    obtain ⟨L⟩ := args
    match L, hs with
    | [w0, w1, w2, w3, w4, w5], _ => exact ⟨w0, w1, w2, w3, w4, w5, rfl⟩
  have hw := fun d (hd : d ∈ tables_1) => atoms_spec (ws := Jvm.Cond.code x code maxLocals ret :: tables_1) hat d (List.mem_cons_of_mem _ hd)
  have hfit : Fit s := fun {y c} hc i hi => by
    obtain ⟨ha, rfl⟩ := Array.getElem?_eq_some_iff.mp hc
    have q := List.all_eq_true.mp ((Array.all_eq_true_iff_forall_mem.mp hF) _ (Array.getElem_mem ha)) i (List.mem_range.mpr hi)
    simpa [Array.getElem?_eq_getElem hi] using q
  obtain ⟨i0, ei0⟩ := isL_v g3
  obtain rfl : w0 = (.long i0) := Option.some.inj ei0
  obtain ⟨i1, ei1⟩ := isL_v g5
  obtain rfl : w1 = (.long i1) := Option.some.inj ei1
  obtain ⟨i2, ei2⟩ := isL_v g7
  obtain rfl : w2 = (.long i2) := Option.some.inj ei2
  obtain ⟨i3, ei3⟩ := isL_v g9
  obtain rfl : w3 = (.long i3) := Option.some.inj ei3
  obtain ⟨i4, ei4⟩ := isL_v g11
  obtain rfl : w4 = (.long i4) := Option.some.inj ei4
  obtain ⟨i5, ei5⟩ := isL_v g12
  obtain rfl : w5 = (.long i5) := Option.some.inj ei5
  obtain ⟨n, o, h1, h2, h3, _, L, rfl, ⟨rfl, N⟩, hq⟩ := rm0 l s _ hw tables_1 i0 i1 i2 i3 i4 i5 s.heap s.heap.size (Nat.le_refl _)  p e ha hc hk s m _ below hf ((Spec.applies_iff_loose hf).mp happ).1 ⟨rfl, State.Warmed39.refl s, rfl⟩ trivial
  refine ⟨n, _, h1, h2, h3, hpost _ _ _ _ _ _ ⟨Cond.after_iff.mpr rfl, Cond.after_iff.mpr (eq_i res_at (Term.int_eval (1)) rfl), trivial⟩ ⟨hq.1, hq.2.1, (hq.2.2.sift fun y hy => Or.inr (N y hy)).mono (by decide) (by decide)⟩⟩
theorem main_1_1 : Claimed_1_1 := comes_1 fun _ _ _ _ _ _ h hF => ⟨h.1, hF⟩
theorem main_1_2 : Claimed_1_2 := comes_1 fun _ _ _ _ _ _ h hF => ⟨h.2.1, hF⟩
end Jvm.Pilot.@@N@@
namespace Jvm.Pilot.@@N@@
open Jvm Jvm.ClassFile Sem Op Lib Jvm.Free Jvm.Stand Jvm.Pilot.@@N@@.Jvm.D
/-! MADE BY PROGRAM (witnessworld.py) out of the Statement's table words and the real class files: 11 classes; the members and pool entries that the words name. The judged class is class 1, her method 1. -/
namespace start1
open Jvm.ClassFile
def u (s : String) : CpInfo := .utf8 (stringToUtf16 s)
/-- a pool by its gaps: so many unusable entries, then the entry; so many at the end -/
def gap : Nat → List CpInfo → List CpInfo
  | 0, r => r
  | n + 1, r => .unusable :: gap n r
def poolList (es : List (Nat × CpInfo)) (last : Nat) : List CpInfo := es.foldr (fun e r => gap e.1 (e.2 :: r)) (gap last [])
def pool (es : List (Nat × CpInfo)) (last : Nat) : Array CpInfo := ⟨poolList es last⟩
def fileOf (pool : Array CpInfo) (this : Nat) (attrs : Array Attribute := #[]) (ms : Array MethodInfo := #[]) (fl : Nat := 33) (sup : Nat := 0) (ifs : Array Nat := #[]) (fds : Array FieldInfo := #[]) : ClassFile where
  minorVersion := 0
  majorVersion := 65
  constantPool := pool
  accessFlags := fl
  thisClass := this
  superClass := sup
  interfaces := ifs
  fields := fds
  methods := ms
  attributes := attrs
def plain (name : String) (sup : Option ClassId) : Class where
  name := name
  kind := .ordinary
  loader := none
  accessFlags := 33
  super := sup
  interfaces := #[]
  cf := none
  fields := #[]
  methods := #[]
  instanceTypes := #[]
  staticTypes := #[]
  resolved := #[]
  callSites := []
  init := .initialized
  statics := none
  mirror := none

def pool0 : Array CpInfo := pool [(5, u "<init>"), (0, u "()V"), (1, .class_ 10), (1, u "java/lang/Object")] 113

def k0c0 : Code := { maxStack := 0, maxLocals := 1, code := object_method_1_code, exceptionTable := #[], attributes := #[] }
def k0m0 : Method := { name := "<init>", desc := "()V", sig := { parameters := [], returnType := none }, accessFlags := 1, code := some k0c0 }
/-- java/lang/Object -/
def k0 : Class := { plain "java/lang/Object" none with
  accessFlags := 33
  interfaces := #[]
  cf := some (fileOf pool0 8 #[] #[{ accessFlags := 1, nameIndex := 5, descriptorIndex := 6, attributes := #[] }] 33 0 #[] #[])
  fields := #[]
  methods := #[k0m0]
  instanceTypes := #[]
  staticTypes := #[]
  resolved := Array.replicate 124 none
  statics := none }

def pool1 : Array CpInfo := pool [(2, .class_ 4), (1, u "java/lang/Object"), (0, u "<init>"), (0, u "()V"), (0, .methodref 8 9), (0, .class_ 10), (0, .nameAndType 11 12), (0, u "java/lang/Math"), (0, u "min"), (0, u "(JJ)J"), (0, .methodref 8 14), (0, .nameAndType 15 12), (0, u "max"), (0, .class_ 17), (0, u "com/example/ready_ledger/readyledger/jdbc/benchmark/Timing"), (0, .methodref 16 19), (0, .nameAndType 5 20), (0, u "(JJJ)V"), (0, .methodref 16 22), (0, .nameAndType 23 24), (0, u "overlaps"), (0, u "(Lcom/example/ready_ledger/readyledger/jdbc/benchmark/Timing;)Z"), (0, .class_ 26), (0, u "com/example/ready_ledger/readyledger/jdbc/benchmark/TimingOverlapsPinLaw"), (2, u "law"), (0, u "(JJJJJJ)Z")] 3

def k1m0 : Method := { name := "<init>", desc := "()V", sig := { parameters := [], returnType := none }, accessFlags := 1, code := none }
def k1c1 : Code := { maxStack := 8, maxLocals := 23, code := code, exceptionTable := #[], attributes := #[] }
def k1m1 : Method := { name := "law", desc := "(JJJJJJ)Z", sig := { parameters := [.long, .long, .long, .long, .long, .long], returnType := some .boolean }, accessFlags := 9, code := some k1c1 }
/-- com/example/ready_ledger/readyledger/jdbc/benchmark/TimingOverlapsPinLaw -/
def k1 : Class := { plain "com/example/ready_ledger/readyledger/jdbc/benchmark/TimingOverlapsPinLaw" (some 0) with
  accessFlags := 49
  interfaces := #[]
  cf := some (fileOf pool1 25 #[] #[{ accessFlags := 1, nameIndex := 5, descriptorIndex := 6, attributes := #[] }, { accessFlags := 9, nameIndex := 29, descriptorIndex := 30, attributes := #[] }] 49 2 #[] #[])
  fields := #[]
  methods := #[k1m0, k1m1]
  instanceTypes := #[]
  staticTypes := #[]
  resolved := Array.replicate 34 none
  statics := none }

def pool2 : Array CpInfo := pool [(1, .class_ 2), (0, u "java/lang/Math"), (1, .class_ 6), (1, u "java/lang/Object"), (0, u "<init>"), (0, u "()V"), (89, .class_ 100), (1, u "java/lang/Math$RandomNumberGeneratorHolder"), (20, u "(JJ)J"), (50, u "negativeZeroFloatBits"), (0, u "J"), (2, u "negativeZeroDoubleBits"), (21, u "max"), (2, u "min"), (43, u "$assertionsDisabled"), (0, u "Z"), (91, u "twoToTheDoubleScaleDown"), (0, u "D"), (4, u "twoToTheDoubleScaleUp"), (9, u "E"), (3, u "PI"), (2, u "TAU"), (2, u "DEGREES_TO_RADIANS"), (0, u "RADIANS_TO_DEGREES")] 94

def k2m0 : Method := { name := "<init>", desc := "()V", sig := { parameters := [], returnType := none }, accessFlags := 2, code := none }
def k2c1 : Code := { maxStack := 4, maxLocals := 4, code := jdk_29_method_66_code, exceptionTable := #[], attributes := #[] }
def k2m1 : Method := { name := "max", desc := "(JJ)J", sig := { parameters := [.long, .long], returnType := some .long }, accessFlags := 9, code := some k2c1 }
def k2c2 : Code := { maxStack := 4, maxLocals := 4, code := jdk_29_method_70_code, exceptionTable := #[], attributes := #[] }
def k2m2 : Method := { name := "min", desc := "(JJ)J", sig := { parameters := [.long, .long], returnType := some .long }, accessFlags := 9, code := some k2c2 }
/-- java/lang/Math -/
def k2 : Class := { plain "java/lang/Math" (some 0) with
  accessFlags := 49
  interfaces := #[]
  cf := some (fileOf pool2 1 #[.nestMembers #[98]] #[{ accessFlags := 2, nameIndex := 7, descriptorIndex := 8, attributes := #[] }, { accessFlags := 9, nameIndex := 198, descriptorIndex := 121, attributes := #[] }, { accessFlags := 9, nameIndex := 201, descriptorIndex := 121, attributes := #[] }] 49 4 #[] #[{ accessFlags := 25, nameIndex := 354, descriptorIndex := 339, attributes := #[] }, { accessFlags := 25, nameIndex := 358, descriptorIndex := 339, attributes := #[] }, { accessFlags := 25, nameIndex := 361, descriptorIndex := 339, attributes := #[] }, { accessFlags := 26, nameIndex := 364, descriptorIndex := 339, attributes := #[] }, { accessFlags := 26, nameIndex := 365, descriptorIndex := 339, attributes := #[] }, { accessFlags := 26, nameIndex := 172, descriptorIndex := 173, attributes := #[] }, { accessFlags := 26, nameIndex := 176, descriptorIndex := 173, attributes := #[] }, { accessFlags := 8, nameIndex := 344, descriptorIndex := 339, attributes := #[] }, { accessFlags := 8, nameIndex := 338, descriptorIndex := 339, attributes := #[] }, { accessFlags := 4120, nameIndex := 245, descriptorIndex := 246, attributes := #[] }])
  fields := #[{ name := "E", type := .double, accessFlags := 25, slot := 0, constantValue := 0 }, { name := "PI", type := .double, accessFlags := 25, slot := 1, constantValue := 0 }, { name := "TAU", type := .double, accessFlags := 25, slot := 2, constantValue := 0 }, { name := "DEGREES_TO_RADIANS", type := .double, accessFlags := 26, slot := 3, constantValue := 0 }, { name := "RADIANS_TO_DEGREES", type := .double, accessFlags := 26, slot := 4, constantValue := 0 }, { name := "negativeZeroFloatBits", type := .long, accessFlags := 26, slot := 5, constantValue := 0 }, { name := "negativeZeroDoubleBits", type := .long, accessFlags := 26, slot := 6, constantValue := 0 }, { name := "twoToTheDoubleScaleUp", type := .double, accessFlags := 8, slot := 7, constantValue := 0 }, { name := "twoToTheDoubleScaleDown", type := .double, accessFlags := 8, slot := 8, constantValue := 0 }, { name := "$assertionsDisabled", type := .boolean, accessFlags := 4120, slot := 9, constantValue := 0 }]
  methods := #[k2m0, k2m1, k2m2]
  instanceTypes := #[]
  staticTypes := #[.double, .double, .double, .double, .double, .long, .long, .double, .double, .boolean]
  resolved := Array.replicate 460 none
  statics := none }

def pool3 : Array CpInfo := pool [(1, .methodref 2 3), (0, .class_ 4), (0, .nameAndType 5 6), (0, u "java/lang/Object"), (0, u "<init>"), (0, u "()V"), (0, .class_ 8), (0, u "java/lang/Record")] 13

def k3c0 : Code := { maxStack := 1, maxLocals := 1, code := jdk_30_method_1_code, exceptionTable := #[], attributes := #[] }
def k3m0 : Method := { name := "<init>", desc := "()V", sig := { parameters := [], returnType := none }, accessFlags := 4, code := some k3c0 }
/-- java/lang/Record -/
def k3 : Class := { plain "java/lang/Record" (some 0) with
  accessFlags := 1057
  interfaces := #[]
  cf := some (fileOf pool3 7 #[] #[{ accessFlags := 4, nameIndex := 5, descriptorIndex := 6, attributes := #[] }] 1057 2 #[] #[])
  fields := #[]
  methods := #[k3m0]
  instanceTypes := #[]
  staticTypes := #[]
  resolved := Array.replicate 22 none
  statics := none }

def pool4 : Array CpInfo := pool [(1, .methodref 2 3), (0, .class_ 4), (0, .nameAndType 5 6), (0, u "java/lang/Record"), (0, u "<init>"), (0, u "()V"), (0, .fieldref 8 9), (0, .class_ 10), (0, .nameAndType 11 12), (0, u "com/example/ready_ledger/readyledger/jdbc/benchmark/Timing"), (0, u "medianNs"), (0, u "J"), (0, .fieldref 8 14), (0, .nameAndType 15 12), (0, u "minNs"), (0, .fieldref 8 17), (0, .nameAndType 18 12), (0, u "maxNs"), (16, u "(JJJ)V"), (52, u "overlaps"), (0, u "(Lcom/example/ready_ledger/readyledger/jdbc/benchmark/Timing;)Z")] 28

def k4c0 : Code := { maxStack := 3, maxLocals := 7, code := prog_47_method_1_code, exceptionTable := #[], attributes := #[] }
def k4m0 : Method := { name := "<init>", desc := "(JJJ)V", sig := { parameters := [.long, .long, .long], returnType := none }, accessFlags := 0, code := some k4c0 }
def k4c1 : Code := { maxStack := 4, maxLocals := 2, code := prog_47_method_4_code, exceptionTable := #[], attributes := #[] }
def k4m1 : Method := { name := "overlaps", desc := "(Lcom/example/ready_ledger/readyledger/jdbc/benchmark/Timing;)Z", sig := { parameters := [(.object "com/example/ready_ledger/readyledger/jdbc/benchmark/Timing")], returnType := some .boolean }, accessFlags := 0, code := some k4c1 }
/-- com/example/ready_ledger/readyledger/jdbc/benchmark/Timing -/
def k4 : Class := { plain "com/example/ready_ledger/readyledger/jdbc/benchmark/Timing" (some 3) with
  accessFlags := 48
  interfaces := #[]
  cf := some (fileOf pool4 8 #[] #[{ accessFlags := 0, nameIndex := 5, descriptorIndex := 35, attributes := #[] }, { accessFlags := 0, nameIndex := 88, descriptorIndex := 89, attributes := #[] }] 48 2 #[] #[{ accessFlags := 18, nameIndex := 11, descriptorIndex := 12, attributes := #[] }, { accessFlags := 18, nameIndex := 15, descriptorIndex := 12, attributes := #[] }, { accessFlags := 18, nameIndex := 18, descriptorIndex := 12, attributes := #[] }])
  fields := #[{ name := "medianNs", type := .long, accessFlags := 18, slot := 0, constantValue := 0 }, { name := "minNs", type := .long, accessFlags := 18, slot := 1, constantValue := 0 }, { name := "maxNs", type := .long, accessFlags := 18, slot := 2, constantValue := 0 }]
  methods := #[k4m0, k4m1]
  instanceTypes := #[.long, .long, .long]
  staticTypes := #[]
  resolved := Array.replicate 118 none
  statics := none }

def pool5 : Array CpInfo := pool [(1, u "java/lang/Cloneable"), (0, .class_ 1), (0, u "java/lang/Object"), (0, .class_ 3)] 3

/-- java/lang/Cloneable -/
def k5 : Class := { plain "java/lang/Cloneable" (some 0) with
  accessFlags := 1537
  interfaces := #[]
  cf := some (fileOf pool5 2 #[] #[] 1537 4 #[] #[])
  fields := #[]
  methods := #[]
  instanceTypes := #[]
  staticTypes := #[]
  resolved := Array.replicate 8 none
  statics := none }

def pool6 : Array CpInfo := pool [(1, u "java/io/Serializable"), (0, .class_ 1), (0, u "java/lang/Object"), (0, .class_ 3)] 3

/-- java/io/Serializable -/
def k6 : Class := { plain "java/io/Serializable" (some 0) with
  accessFlags := 1537
  interfaces := #[]
  cf := some (fileOf pool6 2 #[] #[] 1537 4 #[] #[])
  fields := #[]
  methods := #[]
  instanceTypes := #[]
  staticTypes := #[]
  resolved := Array.replicate 8 none
  statics := none }

/-- the primitive byte -/
def k7 : Class := { plain "byte" none with kind := .primitive 'B', accessFlags := 0x411 }
/-- [B -/
def k8 : Class := { plain "[B" (some 0) with kind := .array 7 .byte, interfaces := #[5, 6], accessFlags := 1041 }

/-- the primitive int -/
def k9 : Class := { plain "int" none with kind := .primitive 'I', accessFlags := 0x411 }
/-- [I -/
def k10 : Class := { plain "[I" (some 0) with kind := .array 9 .int, interfaces := #[5, 6], accessFlags := 1041 }

def heap : Heap := #[]
def classes : Array Class := #[k0, k1, k2, k3, k4, k5, k6, k7, k8, k9, k10]
def interned : List (Array UInt16 × Addr) := []
def slotsUsed : Nat := 0
def theMethod : MethodId := ⟨1, 1⟩
def args0 : Array Value := #[.long 5, .long 3, .long 9, .long 4, .long 1, .long 2]
def aboutOver (below : List Frame) : State where
  vm := { classes := classes, interned := interned.toArray }
  heap := heap
  slotsUsed := slotsUsed
  threads := #[{ frames := .invoking theMethod args0 :: below }]
def below0 : List Frame := [.native { method := ⟨0, 0⟩, args := #[] }]
def about1 : State := aboutOver below0
def p0 : Program := .bare "" "" ""
def e0 : Env := launch0.env 0 0 0
theorem w_frames : about1.frames = Frame.invoking theMethod args0 :: below0 := rfl
set_option maxRecDepth 65536 in
theorem w_args : argsFit about1.vm theMethod args0 = true := by decide +kernel
set_option maxRecDepth 65536 in
theorem w_heap : heapFits about1 = true := by decide +kernel
set_option maxRecDepth 65536 in
theorem w_runnable : about1.curStatus? = some .runnable := by decide +kernel
set_option maxRecDepth 65536 in
theorem w_alone : about1.alone = true := by decide +kernel
set_option maxRecDepth 65536 in
theorem w_named : about1.methodNamed? x = some theMethod := by decide +kernel
set_option maxRecDepth 65536 in
theorem w_hears : about1.hears theMethod below0 = true := by decide +kernel
set_option maxRecDepth 65536 in
theorem w_ripe : about1.ripe theMethod args0 below0 = true := by decide +kernel
theorem w_running : about1.status = .running := rfl
set_option maxRecDepth 65536 in
theorem w_room : about1.hasRoom e0.platform room_1 = true :=
  launch0.hasRoom_least _ room_1 (by decide +kernel) (by decide +kernel) (by decide +kernel) (by decide +kernel) (by decide +kernel) (by decide +kernel)
theorem allAtoms_all (ts : List Jvm.Cond) (a : Array Jvm.Value) (st : Jvm.State) : (allAtoms ts).before a st = ts.all (fun c => c.before a st) := by
  induction ts with
  | nil => rfl
  | cons c t ih =>
    show (Jvm.Cond.and c (allAtoms t)).before a st = _
    rw [Jvm.Cond.before_and, ih, List.all_cons]
def words1 : List Jvm.Cond := Jvm.Cond.code x code maxLocals ret :: tables_1
/-- a 'code' word, met by the world's own term for the bytes: nothing is compared byte by byte -/
theorem code_word {y : MethodName} {bytes : ByteArray} {mx : Nat} {rt : Option FieldType} {a : Array Value} {s : State} {m : MethodId} {meth : Method} {c : Code} (h1 : s.methodNamed? y = some m) (h2 : s.vm.method? m = some meth) (h3 : meth.code = some c) (h4 : c.code = bytes)
    (h5 : (c.maxLocals == mx && c.exceptionTable.isEmpty && decide (c.maxStack ≤ mostOperands) && decide (meth.sig.returnType = rt) && !meth.locks && decide (parseMethodDescriptor y.desc = some meth.sig)) = true) : (Jvm.Cond.code y bytes mx rt).before a s = true := by
  simp only [Bool.and_eq_true, beq_iff_eq, Bool.not_eq_true', decide_eq_true_eq] at h5
  obtain ⟨⟨⟨⟨⟨g1, g2⟩, g3⟩, g4⟩, g5⟩, g6⟩ := h5
  simp [Cond.before, Cond.holds, Cond.value, h1, h2, h3, h4, g1, g2, g3, g4, g5, g6]
def isCode : Jvm.Cond → Bool
  | .code _ _ _ _ => true
  | _ => false
theorem all_split {L : List Jvm.Cond} {P : Jvm.Cond → Bool} (h1 : L.all (fun c => isCode c || P c) = true) (h2 : ∀ c ∈ L.filter isCode, P c = true) : L.all P = true := by
  refine List.all_eq_true.mpr fun c hc => ?_
  have h := List.all_eq_true.mp h1 c hc
  rcases Bool.eq_false_or_eq_true (isCode c) with hi | hi
  · exact h2 c (List.mem_filter.mpr ⟨hc, hi⟩)
  · simpa [hi] using h
set_option maxRecDepth 65536 in
theorem w_c0 : (Jvm.Cond.code x code maxLocals ret).before args0 about1 = true := code_word (m := ⟨1, 1⟩) (meth := k1m1) (c := k1c1) (by decide +kernel) rfl rfl rfl (by decide +kernel)
set_option maxRecDepth 65536 in
theorem w_c1 : (Jvm.Cond.code ({ cls := "java/lang/Math", name := "min", desc := "(JJ)J" } : Jvm.MethodName) jdk_29_method_70_code (4 : Nat) (Option.some Jvm.ClassFile.FieldType.long)).before args0 about1 = true := code_word (m := ⟨2, 2⟩) (meth := k2m2) (c := k2c2) (by decide +kernel) rfl rfl rfl (by decide +kernel)
set_option maxRecDepth 65536 in
theorem w_c2 : (Jvm.Cond.code ({ cls := "java/lang/Math", name := "max", desc := "(JJ)J" } : Jvm.MethodName) jdk_29_method_66_code (4 : Nat) (Option.some Jvm.ClassFile.FieldType.long)).before args0 about1 = true := code_word (m := ⟨2, 1⟩) (meth := k2m1) (c := k2c1) (by decide +kernel) rfl rfl rfl (by decide +kernel)
set_option maxRecDepth 65536 in
theorem w_c3 : (Jvm.Cond.code ({ cls := "com/example/ready_ledger/readyledger/jdbc/benchmark/Timing", name := "<init>", desc := "(JJJ)V" } : Jvm.MethodName) prog_47_method_1_code (7 : Nat) (Option.none : Option Jvm.ClassFile.FieldType)).before args0 about1 = true := code_word (m := ⟨4, 0⟩) (meth := k4m0) (c := k4c0) (by decide +kernel) rfl rfl rfl (by decide +kernel)
set_option maxRecDepth 65536 in
theorem w_c4 : (Jvm.Cond.code ({ cls := "java/lang/Record", name := "<init>", desc := "()V" } : Jvm.MethodName) jdk_30_method_1_code (1 : Nat) (Option.none : Option Jvm.ClassFile.FieldType)).before args0 about1 = true := code_word (m := ⟨3, 0⟩) (meth := k3m0) (c := k3c0) (by decide +kernel) rfl rfl rfl (by decide +kernel)
set_option maxRecDepth 65536 in
theorem w_c5 : (Jvm.Cond.code ({ cls := "java/lang/Object", name := "<init>", desc := "()V" } : Jvm.MethodName) object_method_1_code (1 : Nat) (Option.none : Option Jvm.ClassFile.FieldType)).before args0 about1 = true := code_word (m := ⟨0, 0⟩) (meth := k0m0) (c := k0c0) (by decide +kernel) rfl rfl rfl (by decide +kernel)
set_option maxRecDepth 65536 in
theorem w_c6 : (Jvm.Cond.code ({ cls := "com/example/ready_ledger/readyledger/jdbc/benchmark/Timing", name := "overlaps", desc := "(Lcom/example/ready_ledger/readyledger/jdbc/benchmark/Timing;)Z" } : Jvm.MethodName) prog_47_method_4_code (2 : Nat) (Option.some Jvm.ClassFile.FieldType.boolean)).before args0 about1 = true := code_word (m := ⟨4, 1⟩) (meth := k4m1) (c := k4c1) (by decide +kernel) rfl rfl rfl (by decide +kernel)
def codes1 : List Jvm.Cond := [Jvm.Cond.code x code maxLocals ret, Jvm.Cond.code ({ cls := "java/lang/Math", name := "min", desc := "(JJ)J" } : Jvm.MethodName) jdk_29_method_70_code (4 : Nat) (Option.some Jvm.ClassFile.FieldType.long), Jvm.Cond.code ({ cls := "java/lang/Math", name := "max", desc := "(JJ)J" } : Jvm.MethodName) jdk_29_method_66_code (4 : Nat) (Option.some Jvm.ClassFile.FieldType.long), Jvm.Cond.code ({ cls := "com/example/ready_ledger/readyledger/jdbc/benchmark/Timing", name := "<init>", desc := "(JJJ)V" } : Jvm.MethodName) prog_47_method_1_code (7 : Nat) (Option.none : Option Jvm.ClassFile.FieldType), Jvm.Cond.code ({ cls := "java/lang/Record", name := "<init>", desc := "()V" } : Jvm.MethodName) jdk_30_method_1_code (1 : Nat) (Option.none : Option Jvm.ClassFile.FieldType), Jvm.Cond.code ({ cls := "java/lang/Object", name := "<init>", desc := "()V" } : Jvm.MethodName) object_method_1_code (1 : Nat) (Option.none : Option Jvm.ClassFile.FieldType), Jvm.Cond.code ({ cls := "com/example/ready_ledger/readyledger/jdbc/benchmark/Timing", name := "overlaps", desc := "(Lcom/example/ready_ledger/readyledger/jdbc/benchmark/Timing;)Z" } : Jvm.MethodName) prog_47_method_4_code (2 : Nat) (Option.some Jvm.ClassFile.FieldType.boolean)]
set_option maxRecDepth 65536 in
theorem codes_eq : words1.filter isCode = codes1 := rfl
theorem w_codes : ∀ c ∈ words1.filter isCode, c.before args0 about1 = true := by
  rw [codes_eq]
  intro c hc
  simp only [codes1, List.mem_cons, List.not_mem_nil, or_false] at hc
  rcases hc with rfl | rfl | rfl | rfl | rfl | rfl | rfl
  · exact w_c0
  · exact w_c1
  · exact w_c2
  · exact w_c3
  · exact w_c4
  · exact w_c5
  · exact w_c6
set_option maxRecDepth 65536 in
theorem w_t1 : (words1.take 24).all (fun c => isCode c || c.before args0 about1) = true := by decide +kernel
set_option maxRecDepth 65536 in
theorem w_t2 : (words1.drop 24).all (fun c => isCode c || c.before args0 about1) = true := by decide +kernel
theorem w_tables : (allAtoms (Jvm.Cond.code x code maxLocals ret :: tables_1)).before args0 about1 = true := by
  rw [allAtoms_all]
  show words1.all (fun c => c.before args0 about1) = true
  refine all_split ?_ w_codes
  rw [← List.take_append_drop 24 words1, List.all_append, w_t1, w_t2]
  rfl
set_option maxRecDepth 65536 in
theorem w_case : (Jvm.Cond.and given_1 narrow_1).before args0 about1 = true := by decide +kernel
theorem w_applies : (headSpec (Jvm.Cond.code x code maxLocals ret :: tables_1) room_1).applies x e0.platform about1 = true :=
  (Spec.applies_iff w_frames).mpr ⟨w_running, w_runnable, w_alone, w_named, w_hears, w_ripe, w_room, w_tables⟩
theorem atStart : AtStart classFile x code maxLocals ret World_1 tables_1 room_1 Calls_1 rest_1 Pre_1 launch0 p0 e0 about1 theMethod args0 below0 :=
  ⟨lists_1, trivial, launch0.admits_env _ _ _, launch0.least_env, fairChoices_fair.cas, fairChoices_fair.clock, w_frames, w_args, w_heap, w_applies, trivial, trivial, w_case⟩
end start1
theorem witness_1 : WitnessClaimed_1 := ⟨start1.p0, start1.e0, start1.about1, start1.theMethod, start1.args0, start1.below0, start1.atStart⟩
end Jvm.Pilot.@@N@@
