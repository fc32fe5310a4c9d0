import JvmDerived
import JvmDerived.Pilot.@@N@@Statement
import JvmDerived.Pilot.@@N@@Code
set_option linter.unusedVariables false
set_option linter.unusedSimpArgs false
namespace Jvm.RoadKit
open Sem ClassFile Op Lib Jvm.Stand Jvm.Free Jvm.LawKit
section New
variable {p : Program} {l : Launch} {e : Env} {R : Room} {s : State} {m : MethodId} {args : Array Value} {below : List Frame} {meth : Method} {c : Code} {T : State} {locs : List Loc} {cells slots : Nat}
theorem retI (X : Stand p l e R s m args below meth c T locs cells slots) (hx : p.tables.exec = Jvm.exec) {pc : Nat} {Ls : Array Slot} {z : Int32} {rest : List Value} (hret : meth.sig.returnType = some .int) (hd : decode c.code pc = .ok (.ireturn, 1)) {fs : List Frame}
    (hl : ∀ (f : JFrame) (acts : List Action), f.method = m → f.locked = none → f.entered = [] → (doReturn e (T.setTop f) acts (some (.int z))).1 = T.setFrames fs) : Steps p.tables e below (T.setTop (mkF m pc Ls (.int z :: rest))) (T.setFrames fs) := by
  have hm' : T.vm.method? m = some meth := X.method'
  have hn : narrow .int (.int z) = .int z := rfl
  show Steps p.tables e below (T.setTop { method := m, pc := pc, locals := Ls, stack := _ :: rest, locked := none }) _
  jvm_step X.here [X.here.top, hx, hd, hm', hret, hn]
  first | (intro acts; rw [hl _ acts rfl rfl rfl]) | rw [hl _ _ rfl rfl rfl]
  exact Steps.refl _
end New
end Jvm.RoadKit
namespace Jvm.Pilot.@@N@@
open Jvm Jvm.ClassFile Sem Op Lib Jvm.Free Jvm.Stand Jvm.LawKit Jvm.RoadKit Bundle Jvm.Pilot.@@N@@.Jvm.D
theorem mgE {A : Type} {l : List A} {a : A} (i : Nat) (h : l[i]? = some a) : a ∈ l := List.mem_of_getElem? h

theorem own_fe {args : Array Value} {s : State} {t : Term} {a : Addr} {C n d : String} {k : Int32} (ev : t.eval args s none [] s = some (.ref a)) (h : (Jvm.Cond.eq (.field t C n d) (.int k)).value args s none s [] = some true) : Fld s s.heap a C n d (.int k) := by
  obtain ⟨x, y, h1, h2, k1, k2⟩ := cmp_v (Or.inl h)
  have h3 : y = .int k := (Option.some.inj ((Term.int_eval k).symm.trans h2)).symm
  subst h3
  obtain ⟨z, rfl⟩ := k2
  have h4 : z = k := by simpa [Cond.value, h1, h2] using h
  subst h4
  rw [fld_at ev] at h1
  exact Fld.start h1

theorem own_three (x : Int32) (h0 : ¬ ((x &&& (3 : Int32)) = (0 : Int32))) (h1 : ¬ ((x &&& (3 : Int32)) = (1 : Int32))) (h2 : ¬ ((x &&& (3 : Int32)) = (2 : Int32))) : (x &&& (3 : Int32)) = (3 : Int32) := by
  have a := c_and x (3 : Int32) (by decide)
  rw [show (3 : Int32).toInt = 3 from by decide] at a
  have n0 : (x &&& (3 : Int32)).toInt ≠ 0 := fun q => h0 (Int32.toInt_inj.mp (by rw [q]; decide))
  have n1 : (x &&& (3 : Int32)).toInt ≠ 1 := fun q => h1 (Int32.toInt_inj.mp (by rw [q]; decide))
  have n2 : (x &&& (3 : Int32)).toInt ≠ 2 := fun q => h2 (Int32.toInt_inj.mp (by rw [q]; decide))
  exact Int32.toInt_inj.mp (by rw [show (3 : Int32).toInt = 3 from by decide]; omega)

theorem d1_0 : decode prog_31_method_6_code 0 = .ok (.iload_n 1, 1) := by decide +kernel
theorem d1_1 : decode prog_31_method_6_code 1 = .ok (.bipush 39, 2) := by decide +kernel
theorem d1_3 : decode prog_31_method_6_code 3 = .ok (.if_icmp .ne 11, 3) := by decide +kernel
theorem d1_6 : decode prog_31_method_6_code 6 = .ok (.aload_n 0, 1) := by decide +kernel
theorem d1_7 : decode prog_31_method_6_code 7 = .ok (.getfield 35, 3) := by decide +kernel
theorem d1_10 : decode prog_31_method_6_code 10 = .ok (.istore_n 2, 1) := by decide +kernel
theorem d1_11 : decode prog_31_method_6_code 11 = .ok (.goto 19, 3) := by decide +kernel
theorem d1_14 : decode prog_31_method_6_code 14 = .ok (.iload_n 1, 1) := by decide +kernel
theorem d1_15 : decode prog_31_method_6_code 15 = .ok (.bipush 34, 2) := by decide +kernel
theorem d1_17 : decode prog_31_method_6_code 17 = .ok (.if_icmp .ne 11, 3) := by decide +kernel
theorem d1_20 : decode prog_31_method_6_code 20 = .ok (.aload_n 0, 1) := by decide +kernel
theorem d1_21 : decode prog_31_method_6_code 21 = .ok (.getfield 39, 3) := by decide +kernel
theorem d1_24 : decode prog_31_method_6_code 24 = .ok (.istore_n 2, 1) := by decide +kernel
theorem d1_25 : decode prog_31_method_6_code 25 = .ok (.goto 5, 3) := by decide +kernel
theorem d1_28 : decode prog_31_method_6_code 28 = .ok (.iconst 0, 1) := by decide +kernel
theorem d1_29 : decode prog_31_method_6_code 29 = .ok (.istore_n 2, 1) := by decide +kernel
theorem d1_30 : decode prog_31_method_6_code 30 = .ok (.iload_n 2, 1) := by decide +kernel
theorem d1_31 : decode prog_31_method_6_code 31 = .ok (.ireturn, 1) := by decide +kernel
theorem pn_com_example_ready_ledger_readyledger_jdbc_SqlDialect : plainName "com/example/ready_ledger/readyledger/jdbc/SqlDialect" = true := by first | (simp [plainName, overriddenIn]; done) | decide +kernel
theorem ef_1 (m : MethodId) (x0 : Addr) (x1 : Int32) : entryFrame m #[(.ref x0), (.int x1)] 3 = mkF m 0 #[.val (.ref x0), .val (.int x1), .unset] [] := by first | (simp [entryFrame, mkF, argsToLocals, Value.category]; done) | rfl
def r1 (p2 : Int32) (w_backslashInSingleQuotes_a1 : Int32) (w_backslashInDoubleQuotes_a1 : Int32) : Int32 := (if p2 = (39 : Int32) then (nar .boolean w_backslashInSingleQuotes_a1) else (if p2 = (34 : Int32) then (nar .boolean w_backslashInDoubleQuotes_a1) else (0 : Int32)))
def Q1 (Z : State) (a1 : Addr) (p2 : Int32) (w_backslashInSingleQuotes_a1 : Int32) (w_backslashInDoubleQuotes_a1 : Int32) (h0 : Heap) (n0 : Nat) (v : Option Value) (h : Heap) (L : List Loc) : Prop := v = some (.int (r1 p2 w_backslashInSingleQuotes_a1 w_backslashInDoubleQuotes_a1)) ∧ Fr n0 L ∧ h = h0
set_option maxRecDepth 65536 in
set_option maxHeartbeats 40000000 in
theorem rm1 (l : Launch) (Z : State) (a0 : Array Value) (hw : ∀ d ∈ tables_1, d.before a0 Z = true) (ws : List Jvm.Cond) (a1 : Addr) (p2 : Int32) (w_backslashInSingleQuotes_a1 : Int32) (w_backslashInDoubleQuotes_a1 : Int32) (h0 : Heap) (n0 : Nat) (Z0 : n0 ≤ h0.size) (F_backslashInSingleQuotes_a1 : Fld Z h0 a1 "com/example/ready_ledger/readyledger/jdbc/SqlDialect" "backslashInSingleQuotes" "Z" (.int w_backslashInSingleQuotes_a1)) (F_backslashInDoubleQuotes_a1 : Fld Z h0 a1 "com/example/ready_ledger/readyledger/jdbc/SqlDialect" "backslashInDoubleQuotes" "Z" (.int w_backslashInDoubleQuotes_a1)) :
    MetFree l (⟨"com/example/ready_ledger/readyledger/jdbc/SqlDialect", "backslashEscapes", "(C)Z"⟩ : MethodName) (head1 (Jvm.Cond.code (⟨"com/example/ready_ledger/readyledger/jdbc/SqlDialect", "backslashEscapes", "(C)Z"⟩ : MethodName) prog_31_method_6_code 3 (some .boolean) :: ws) ({ frames := 0, cells := 0, slots := 0, locals := 0 } : Room)) (fun a U => a = #[(.ref a1), (.int p2)] ∧ Z.Warmed39 U.vm ∧ U.heap = h0) (fun _ _ _ _ _ => True) (fun _ U o U' => ∃ v L, o = .returned v ∧ Q1 Z a1 p2 w_backslashInSingleQuotes_a1 w_backslashInDoubleQuotes_a1 h0 n0 v U'.heap L ∧ FrameEnd U o U' L ({ frames := 0, cells := 0, slots := 0, locals := 0 } : Room).cells ({ frames := 0, cells := 0, slots := 0, locals := 0 } : Room).slots) := by
  refine MetFree.of_bodySF (plainFor_of_name pn_com_example_ready_ledger_readyledger_jdbc_SqlDialect) hisR ?_
  intro p e s m args below meth c s₁ Bd hml0 hP hK
  obtain ⟨rfl, hZ, hh⟩ := hP
  have hx := Bd.exec
  have hby := Bd.bytes
  have hml : c.maxLocals = 3 := hml0
  have hown : s.vm.findClass "com/example/ready_ledger/readyledger/jdbc/SqlDialect" = some m.cls := findClass_of_methodNamed Bd.named
  have hnm := (name_of_methodNamed Bd.named Bd.method).1
  have X0 : Stand p l e ({ frames := 0, cells := 0, slots := 0, locals := 0 } : Room) s m #[(.ref a1), (.int p2)] below meth c s₁ [] 0 0 := Stand.of_body Bd
  have e0 : s₁.heap = h0 := by rw [← hh, Bd.state]; rfl
  have N0 := Fr.nil n0
  have pre0 : ∀ t, Steps p.tables e below (s₁.setTop (mkF m 0 #[.val (.ref a1), .val (.int p2), .unset] [])) t → Steps p.tables e below (s₁.setTop (entryFrame m #[(.ref a1), (.int p2)] 3)) t := fun t k => castTop (ef_1 m a1 p2) k
  by_cases hc3 : p2 = (39 : Int32)
  · skip
    have pre1 : ∀ t, Steps p.tables e below (s₁.setTop (mkF m 7 #[.val (.ref a1), .val (.int p2), .unset] [(.ref a1)])) t → Steps p.tables e below (s₁.setTop (entryFrame m #[(.ref a1), (.int p2)] 3)) t := fun t kt => by
      refine pre0 t ?_
      refine XS.iloadN X0.here hx rfl (hb hby d1_0) rfl ?_
      show Steps p.tables e below (s₁.setTop (mkF m 1 #[.val (.ref a1), .val (.int p2), .unset] [(.int p2)])) _
      refine XS.bipush X0.here hx rfl (hb hby d1_1) ?_
      show Steps p.tables e below (s₁.setTop (mkF m 3 #[.val (.ref a1), .val (.int p2), .unset] [(.int (39 : Int32)), (.int p2)])) _
      refine XS.icmpNo X0.here hx rfl (hb hby d1_3) rfl (teq hc3).2 ?_
      show Steps p.tables e below (s₁.setTop (mkF m 6 #[.val (.ref a1), .val (.int p2), .unset] [])) _
      refine XS.aloadN X0.here hx rfl (hb hby d1_6) rfl rfl ?_
      show Steps p.tables e below (s₁.setTop (mkF m 7 #[.val (.ref a1), .val (.int p2), .unset] [(.ref a1)])) _
      exact kt
    obtain ⟨T2, X2, e2, st2⟩ := getF X0 hx hZ hown (host := "") (Or.inl (hw _ (mgE 11 rfl))) Via.refl e0 F_backslashInSingleQuotes_a1 (g := (mkF m 7 #[.val (.ref a1), .val (.int p2), .unset] [(.ref a1)])) rfl rfl (hb hby d1_7)
    have pre3 : ∀ t, Steps p.tables e below (T2.setTop (mkF m 10 #[.val (.ref a1), .val (.int p2), .unset] [(.int w_backslashInSingleQuotes_a1)])) t → Steps p.tables e below (s₁.setTop (entryFrame m #[(.ref a1), (.int p2)] 3)) t := fun t kt => pre1 t (st2 t kt)
    have pre4 : ∀ t, Steps p.tables e below (T2.setTop (mkF m 31 #[.val (.ref a1), .val (.int p2), .val (.int w_backslashInSingleQuotes_a1)] [(.int w_backslashInSingleQuotes_a1)])) t → Steps p.tables e below (s₁.setTop (entryFrame m #[(.ref a1), (.int p2)] 3)) t := fun t kt => by
      refine pre3 t ?_
      refine XS.istoreN X2.here hx rfl (hb hby d1_10) rfl (l' := #[.val (.ref a1), .val (.int p2), .val (.int w_backslashInSingleQuotes_a1)]) rfl ?_
      show Steps p.tables e below (T2.setTop (mkF m 11 #[.val (.ref a1), .val (.int p2), .val (.int w_backslashInSingleQuotes_a1)] [])) _
      refine XS.goto X2.here hx rfl (pc0 := 11) (pc' := 30) rfl (hb hby d1_11) (by decide) (by decide) ?_
      show Steps p.tables e below (T2.setTop (mkF m 30 #[.val (.ref a1), .val (.int p2), .val (.int w_backslashInSingleQuotes_a1)] [])) _
      refine XS.iloadN X2.here hx rfl (hb hby d1_30) rfl ?_
      show Steps p.tables e below (T2.setTop (mkF m 31 #[.val (.ref a1), .val (.int p2), .val (.int w_backslashInSingleQuotes_a1)] [(.int w_backslashInSingleQuotes_a1)])) _
      exact kt
    obtain ⟨fs, hr, hrun, hended, hW, hsame⟩ := X2.leave (v := some (.int (nar .boolean w_backslashInSingleQuotes_a1))) (fun h => by rw [Bd.returns] at h; cases h)
    refine ⟨_, _, pre4 _ ?_, hrun, hended, _, _, rfl, ?_, ⟨_, rfl⟩, hW, hsame.mono (by decide) (by decide)⟩
    · exact retN X2 hx (t := .boolean) Bd.returns (by simp) (hb hby d1_31) hr
    · show Q1 Z a1 p2 w_backslashInSingleQuotes_a1 w_backslashInDoubleQuotes_a1 h0 n0 _ T2.heap _
      rw [e2]
      exact ⟨by first | rfl | (simp only [r1, if_pos hc3]), N0, rfl⟩
  · skip
    by_cases hc17 : p2 = (34 : Int32)
    · skip
      have pre5 : ∀ t, Steps p.tables e below (s₁.setTop (mkF m 21 #[.val (.ref a1), .val (.int p2), .unset] [(.ref a1)])) t → Steps p.tables e below (s₁.setTop (entryFrame m #[(.ref a1), (.int p2)] 3)) t := fun t kt => by
        refine pre0 t ?_
        refine XS.iloadN X0.here hx rfl (hb hby d1_0) rfl ?_
        show Steps p.tables e below (s₁.setTop (mkF m 1 #[.val (.ref a1), .val (.int p2), .unset] [(.int p2)])) _
        refine XS.bipush X0.here hx rfl (hb hby d1_1) ?_
        show Steps p.tables e below (s₁.setTop (mkF m 3 #[.val (.ref a1), .val (.int p2), .unset] [(.int (39 : Int32)), (.int p2)])) _
        refine XS.icmpYes X0.here hx rfl (pc0 := 3) (pc' := 14) rfl (hb hby d1_3) rfl (feq hc3).2 (by decide) (by decide) ?_
        show Steps p.tables e below (s₁.setTop (mkF m 14 #[.val (.ref a1), .val (.int p2), .unset] [])) _
        refine XS.iloadN X0.here hx rfl (hb hby d1_14) rfl ?_
        show Steps p.tables e below (s₁.setTop (mkF m 15 #[.val (.ref a1), .val (.int p2), .unset] [(.int p2)])) _
        refine XS.bipush X0.here hx rfl (hb hby d1_15) ?_
        show Steps p.tables e below (s₁.setTop (mkF m 17 #[.val (.ref a1), .val (.int p2), .unset] [(.int (34 : Int32)), (.int p2)])) _
        refine XS.icmpNo X0.here hx rfl (hb hby d1_17) rfl (teq hc17).2 ?_
        show Steps p.tables e below (s₁.setTop (mkF m 20 #[.val (.ref a1), .val (.int p2), .unset] [])) _
        refine XS.aloadN X0.here hx rfl (hb hby d1_20) rfl rfl ?_
        show Steps p.tables e below (s₁.setTop (mkF m 21 #[.val (.ref a1), .val (.int p2), .unset] [(.ref a1)])) _
        exact kt
      obtain ⟨T6, X6, e6, st6⟩ := getF X0 hx hZ hown (host := "") (Or.inl (hw _ (mgE 17 rfl))) Via.refl e0 F_backslashInDoubleQuotes_a1 (g := (mkF m 21 #[.val (.ref a1), .val (.int p2), .unset] [(.ref a1)])) rfl rfl (hb hby d1_21)
      have pre7 : ∀ t, Steps p.tables e below (T6.setTop (mkF m 24 #[.val (.ref a1), .val (.int p2), .unset] [(.int w_backslashInDoubleQuotes_a1)])) t → Steps p.tables e below (s₁.setTop (entryFrame m #[(.ref a1), (.int p2)] 3)) t := fun t kt => pre5 t (st6 t kt)
      have pre8 : ∀ t, Steps p.tables e below (T6.setTop (mkF m 31 #[.val (.ref a1), .val (.int p2), .val (.int w_backslashInDoubleQuotes_a1)] [(.int w_backslashInDoubleQuotes_a1)])) t → Steps p.tables e below (s₁.setTop (entryFrame m #[(.ref a1), (.int p2)] 3)) t := fun t kt => by
        refine pre7 t ?_
        refine XS.istoreN X6.here hx rfl (hb hby d1_24) rfl (l' := #[.val (.ref a1), .val (.int p2), .val (.int w_backslashInDoubleQuotes_a1)]) rfl ?_
        show Steps p.tables e below (T6.setTop (mkF m 25 #[.val (.ref a1), .val (.int p2), .val (.int w_backslashInDoubleQuotes_a1)] [])) _
        refine XS.goto X6.here hx rfl (pc0 := 25) (pc' := 30) rfl (hb hby d1_25) (by decide) (by decide) ?_
        show Steps p.tables e below (T6.setTop (mkF m 30 #[.val (.ref a1), .val (.int p2), .val (.int w_backslashInDoubleQuotes_a1)] [])) _
        refine XS.iloadN X6.here hx rfl (hb hby d1_30) rfl ?_
        show Steps p.tables e below (T6.setTop (mkF m 31 #[.val (.ref a1), .val (.int p2), .val (.int w_backslashInDoubleQuotes_a1)] [(.int w_backslashInDoubleQuotes_a1)])) _
        exact kt
      obtain ⟨fs, hr, hrun, hended, hW, hsame⟩ := X6.leave (v := some (.int (nar .boolean w_backslashInDoubleQuotes_a1))) (fun h => by rw [Bd.returns] at h; cases h)
      refine ⟨_, _, pre8 _ ?_, hrun, hended, _, _, rfl, ?_, ⟨_, rfl⟩, hW, hsame.mono (by decide) (by decide)⟩
      · exact retN X6 hx (t := .boolean) Bd.returns (by simp) (hb hby d1_31) hr
      · show Q1 Z a1 p2 w_backslashInSingleQuotes_a1 w_backslashInDoubleQuotes_a1 h0 n0 _ T6.heap _
        rw [e6]
        exact ⟨by first | rfl | (simp only [r1, if_neg hc3, if_pos hc17]), N0, rfl⟩
    · skip
      have pre9 : ∀ t, Steps p.tables e below (s₁.setTop (mkF m 31 #[.val (.ref a1), .val (.int p2), .val (.int (0 : Int32))] [(.int (0 : Int32))])) t → Steps p.tables e below (s₁.setTop (entryFrame m #[(.ref a1), (.int p2)] 3)) t := fun t kt => by
        refine pre0 t ?_
        refine XS.iloadN X0.here hx rfl (hb hby d1_0) rfl ?_
        show Steps p.tables e below (s₁.setTop (mkF m 1 #[.val (.ref a1), .val (.int p2), .unset] [(.int p2)])) _
        refine XS.bipush X0.here hx rfl (hb hby d1_1) ?_
        show Steps p.tables e below (s₁.setTop (mkF m 3 #[.val (.ref a1), .val (.int p2), .unset] [(.int (39 : Int32)), (.int p2)])) _
        refine XS.icmpYes X0.here hx rfl (pc0 := 3) (pc' := 14) rfl (hb hby d1_3) rfl (feq hc3).2 (by decide) (by decide) ?_
        show Steps p.tables e below (s₁.setTop (mkF m 14 #[.val (.ref a1), .val (.int p2), .unset] [])) _
        refine XS.iloadN X0.here hx rfl (hb hby d1_14) rfl ?_
        show Steps p.tables e below (s₁.setTop (mkF m 15 #[.val (.ref a1), .val (.int p2), .unset] [(.int p2)])) _
        refine XS.bipush X0.here hx rfl (hb hby d1_15) ?_
        show Steps p.tables e below (s₁.setTop (mkF m 17 #[.val (.ref a1), .val (.int p2), .unset] [(.int (34 : Int32)), (.int p2)])) _
        refine XS.icmpYes X0.here hx rfl (pc0 := 17) (pc' := 28) rfl (hb hby d1_17) rfl (feq hc17).2 (by decide) (by decide) ?_
        show Steps p.tables e below (s₁.setTop (mkF m 28 #[.val (.ref a1), .val (.int p2), .unset] [])) _
        refine XS.iconst X0.here hx rfl (hb hby d1_28) ?_
        show Steps p.tables e below (s₁.setTop (mkF m 29 #[.val (.ref a1), .val (.int p2), .unset] [(.int (0 : Int32))])) _
        refine XS.istoreN X0.here hx rfl (hb hby d1_29) rfl (l' := #[.val (.ref a1), .val (.int p2), .val (.int (0 : Int32))]) rfl ?_
        show Steps p.tables e below (s₁.setTop (mkF m 30 #[.val (.ref a1), .val (.int p2), .val (.int (0 : Int32))] [])) _
        refine XS.iloadN X0.here hx rfl (hb hby d1_30) rfl ?_
        show Steps p.tables e below (s₁.setTop (mkF m 31 #[.val (.ref a1), .val (.int p2), .val (.int (0 : Int32))] [(.int (0 : Int32))])) _
        exact kt
      obtain ⟨fs, hr, hrun, hended, hW, hsame⟩ := X0.leave (v := some (.int (0 : Int32))) (fun h => by rw [Bd.returns] at h; cases h)
      refine ⟨_, _, pre9 _ ?_, hrun, hended, _, _, rfl, ?_, ⟨_, rfl⟩, hW, hsame.mono (by decide) (by decide)⟩
      · exact retN X0 hx (t := .boolean) Bd.returns (by simp) (hb hby d1_31) hr
      · show Q1 Z a1 p2 w_backslashInSingleQuotes_a1 w_backslashInDoubleQuotes_a1 h0 n0 _ s₁.heap _
        rw [e0]
        exact ⟨by first | rfl | (simp only [r1, if_neg hc3, if_neg hc17]), N0, rfl⟩
theorem pn_com_example_ready_ledger_readyledger_jdbc_SqlDialectBackslashEscapesPinLaw : plainName "com/example/ready_ledger/readyledger/jdbc/SqlDialectBackslashEscapesPinLaw" = true := by first | (simp [plainName, overriddenIn]; done) | decide +kernel
theorem pd__C_Z : parseMethodDescriptor "(C)Z" = some ⟨[.char], some .boolean⟩ := by decide +kernel
theorem ef_0 (m : MethodId) (x0 : Int32) (x1 : Int32) (x2 : Int32) : entryFrame m #[(.int x0), (.int x1), (.int x2)] maxLocals = mkF m 0 #[.val (.int x0), .val (.int x1), .val (.int x2), .unset, .unset, .unset, .unset, .unset, .unset] [] := by first | (simp [entryFrame, mkF, argsToLocals, Value.category, maxLocals]; done) | rfl
def Q0 (Z : State) (p1 : Int32) (p2 : Int32) (p3 : Int32) (s_STANDARD : Addr) (s_POSTGRESQL : Addr) (s_MARIADB : Addr) (s_MARIADB_ANSI_QUOTES : Addr) (h0 : Heap) (n0 : Nat) (v : Option Value) (h : Heap) (L : List Loc) : Prop := v = some (.int 1) ∧ Fr n0 L
set_option maxRecDepth 65536 in
set_option maxHeartbeats 40000000 in
theorem rm0 (l : Launch) (Z : State) (a0 : Array Value) (hw : ∀ d ∈ tables_1, d.before a0 Z = true) (ws : List Jvm.Cond) (p1 : Int32) (p2 : Int32) (p3 : Int32) (s_STANDARD : Addr) (s_POSTGRESQL : Addr) (s_MARIADB : Addr) (s_MARIADB_ANSI_QUOTES : Addr) (h0 : Heap) (n0 : Nat) (Z0 : n0 ≤ h0.size) (S_STANDARD : Sta Z h0 "com/example/ready_ledger/readyledger/jdbc/SqlDialect" "STANDARD" "Lcom/example/ready_ledger/readyledger/jdbc/SqlDialect;" (.ref s_STANDARD)) (F_backslashInSingleQuotes_s_STANDARD : Fld Z h0 s_STANDARD "com/example/ready_ledger/readyledger/jdbc/SqlDialect" "backslashInSingleQuotes" "Z" (.int (0 : Int32))) (F_backslashInDoubleQuotes_s_STANDARD : Fld Z h0 s_STANDARD "com/example/ready_ledger/readyledger/jdbc/SqlDialect" "backslashInDoubleQuotes" "Z" (.int (0 : Int32))) (S_POSTGRESQL : Sta Z h0 "com/example/ready_ledger/readyledger/jdbc/SqlDialect" "POSTGRESQL" "Lcom/example/ready_ledger/readyledger/jdbc/SqlDialect;" (.ref s_POSTGRESQL)) (F_backslashInSingleQuotes_s_POSTGRESQL : Fld Z h0 s_POSTGRESQL "com/example/ready_ledger/readyledger/jdbc/SqlDialect" "backslashInSingleQuotes" "Z" (.int (0 : Int32))) (F_backslashInDoubleQuotes_s_POSTGRESQL : Fld Z h0 s_POSTGRESQL "com/example/ready_ledger/readyledger/jdbc/SqlDialect" "backslashInDoubleQuotes" "Z" (.int (0 : Int32))) (S_MARIADB : Sta Z h0 "com/example/ready_ledger/readyledger/jdbc/SqlDialect" "MARIADB" "Lcom/example/ready_ledger/readyledger/jdbc/SqlDialect;" (.ref s_MARIADB)) (F_backslashInSingleQuotes_s_MARIADB : Fld Z h0 s_MARIADB "com/example/ready_ledger/readyledger/jdbc/SqlDialect" "backslashInSingleQuotes" "Z" (.int (1 : Int32))) (F_backslashInDoubleQuotes_s_MARIADB : Fld Z h0 s_MARIADB "com/example/ready_ledger/readyledger/jdbc/SqlDialect" "backslashInDoubleQuotes" "Z" (.int (1 : Int32))) (S_MARIADB_ANSI_QUOTES : Sta Z h0 "com/example/ready_ledger/readyledger/jdbc/SqlDialect" "MARIADB_ANSI_QUOTES" "Lcom/example/ready_ledger/readyledger/jdbc/SqlDialect;" (.ref s_MARIADB_ANSI_QUOTES)) (F_backslashInSingleQuotes_s_MARIADB_ANSI_QUOTES : Fld Z h0 s_MARIADB_ANSI_QUOTES "com/example/ready_ledger/readyledger/jdbc/SqlDialect" "backslashInSingleQuotes" "Z" (.int (1 : Int32))) (F_backslashInDoubleQuotes_s_MARIADB_ANSI_QUOTES : Fld Z h0 s_MARIADB_ANSI_QUOTES "com/example/ready_ledger/readyledger/jdbc/SqlDialect" "backslashInDoubleQuotes" "Z" (.int (0 : Int32))) (E_s_STANDARD : Exa Z h0 s_STANDARD "com/example/ready_ledger/readyledger/jdbc/SqlDialect") (E_s_POSTGRESQL : Exa Z h0 s_POSTGRESQL "com/example/ready_ledger/readyledger/jdbc/SqlDialect") (E_s_MARIADB : Exa Z h0 s_MARIADB "com/example/ready_ledger/readyledger/jdbc/SqlDialect") (E_s_MARIADB_ANSI_QUOTES : Exa Z h0 s_MARIADB_ANSI_QUOTES "com/example/ready_ledger/readyledger/jdbc/SqlDialect") :
    MetFree l x (head1 (Jvm.Cond.code x code maxLocals ret :: ws) room_1) (fun a U => a = #[(.int p1), (.int p2), (.int p3)] ∧ Z.Warmed39 U.vm ∧ U.heap = h0) (fun _ _ _ _ _ => True) (fun _ U o U' => ∃ v L, o = .returned v ∧ Q0 Z p1 p2 p3 s_STANDARD s_POSTGRESQL s_MARIADB s_MARIADB_ANSI_QUOTES h0 n0 v U'.heap L ∧ FrameEnd U o U' L room_1.cells room_1.slots) := by
  refine MetFree.of_bodySF (plainFor_of_name pn_com_example_ready_ledger_readyledger_jdbc_SqlDialectBackslashEscapesPinLaw) hisR ?_
  intro p e s m args below meth c s₁ Bd hml0 hP hK
  obtain ⟨rfl, hZ, hh⟩ := hP
  have hx := Bd.exec
  have hby := Bd.bytes
  have hml : c.maxLocals = 9 := hml0
  have hown : s.vm.findClass "com/example/ready_ledger/readyledger/jdbc/SqlDialectBackslashEscapesPinLaw" = some m.cls := findClass_of_methodNamed Bd.named
  have hnm := (name_of_methodNamed Bd.named Bd.method).1
  have X0 : Stand p l e room_1 s m #[(.int p1), (.int p2), (.int p3)] below meth c s₁ [] 0 0 := Stand.of_body Bd
  have e0 : s₁.heap = h0 := by rw [← hh, Bd.state]; rfl
  have N0 := Fr.nil n0
  have pre0 : ∀ t, Steps p.tables e below (s₁.setTop (mkF m 0 #[.val (.int p1), .val (.int p2), .val (.int p3), .unset, .unset, .unset, .unset, .unset, .unset] [])) t → Steps p.tables e below (s₁.setTop (entryFrame m #[(.int p1), (.int p2), (.int p3)] maxLocals)) t := fun t k => castTop (ef_0 m p1 p2 p3) k
  have pre1 : ∀ t, Steps p.tables e below (s₁.setTop (mkF m 4 #[.val (.int p1), .val (.int p2), .val (.int p3), .val (.int (p1 &&& (3 : Int32))), .unset, .unset, .unset, .unset, .unset] [])) t → Steps p.tables e below (s₁.setTop (entryFrame m #[(.int p1), (.int p2), (.int p3)] maxLocals)) t := fun t kt => by
    refine pre0 t ?_
    refine XS.iloadN X0.here hx rfl (hb hby at_0) rfl ?_
    show Steps p.tables e below (s₁.setTop (mkF m 1 #[.val (.int p1), .val (.int p2), .val (.int p3), .unset, .unset, .unset, .unset, .unset, .unset] [(.int p1)])) _
    refine XS.iconst X0.here hx rfl (hb hby at_1) ?_
    show Steps p.tables e below (s₁.setTop (mkF m 2 #[.val (.int p1), .val (.int p2), .val (.int p3), .unset, .unset, .unset, .unset, .unset, .unset] [(.int (3 : Int32)), (.int p1)])) _
    refine XS.iand X0.here hx rfl (hb hby at_2) rfl ?_
    show Steps p.tables e below (s₁.setTop (mkF m 3 #[.val (.int p1), .val (.int p2), .val (.int p3), .unset, .unset, .unset, .unset, .unset, .unset] [(.int (p1 &&& (3 : Int32)))])) _
    refine XS.istoreN X0.here hx rfl (hb hby at_3) rfl (l' := #[.val (.int p1), .val (.int p2), .val (.int p3), .val (.int (p1 &&& (3 : Int32))), .unset, .unset, .unset, .unset, .unset]) rfl ?_
    show Steps p.tables e below (s₁.setTop (mkF m 4 #[.val (.int p1), .val (.int p2), .val (.int p3), .val (.int (p1 &&& (3 : Int32))), .unset, .unset, .unset, .unset, .unset] [])) _
    exact kt
  obtain ⟨dd, h_dd⟩ : ∃ z, z = (p1 &&& (3 : Int32)) := ⟨_, rfl⟩
  rw [← h_dd] at pre1
  by_cases hc5 : dd = (0 : Int32)
  · skip
    have pre2 : ∀ t, Steps p.tables e below (s₁.setTop (mkF m 8 #[.val (.int p1), .val (.int p2), .val (.int p3), .val (.int dd), .unset, .unset, .unset, .unset, .unset] [])) t → Steps p.tables e below (s₁.setTop (entryFrame m #[(.int p1), (.int p2), (.int p3)] maxLocals)) t := fun t kt => by
      refine pre1 t ?_
      refine XS.iloadN X0.here hx rfl (hb hby at_4) rfl ?_
      show Steps p.tables e below (s₁.setTop (mkF m 5 #[.val (.int p1), .val (.int p2), .val (.int p3), .val (.int dd), .unset, .unset, .unset, .unset, .unset] [(.int dd)])) _
      refine XS.ifNo X0.here hx rfl (hb hby at_5) rfl ((if0 _ _).trans (teq hc5).2) ?_
      show Steps p.tables e below (s₁.setTop (mkF m 8 #[.val (.int p1), .val (.int p2), .val (.int p3), .val (.int dd), .unset, .unset, .unset, .unset, .unset] [])) _
      exact kt
    subst hc5
    obtain ⟨T3, X3, e3, st3⟩ := getS2 X0 hx hZ hown (host := "") (Or.inl (hw _ (mgE 0 rfl))) Via.refl e0 S_STANDARD (g := (mkF m 8 #[.val (.int p1), .val (.int p2), .val (.int p3), .val (.int (0 : Int32)), .unset, .unset, .unset, .unset, .unset] [])) rfl (hb hby at_8)
    have pre4 : ∀ t, Steps p.tables e below (T3.setTop (mkF m 11 #[.val (.int p1), .val (.int p2), .val (.int p3), .val (.int (0 : Int32)), .unset, .unset, .unset, .unset, .unset] [(.ref s_STANDARD)])) t → Steps p.tables e below (s₁.setTop (entryFrame m #[(.int p1), (.int p2), (.int p3)] maxLocals)) t := fun t kt => pre2 t (st3 t kt)
    have pre5 : ∀ t, Steps p.tables e below (T3.setTop (mkF m 52 #[.val (.int p1), .val (.int p2), .val (.int p3), .val (.int (0 : Int32)), .val (.ref s_STANDARD), .val (.int (p2 &&& (3 : Int32))), .unset, .unset, .unset] [])) t → Steps p.tables e below (s₁.setTop (entryFrame m #[(.int p1), (.int p2), (.int p3)] maxLocals)) t := fun t kt => by
      refine pre4 t ?_
      refine XS.astore X3.here hx rfl (hb hby at_11) rfl rfl (l' := #[.val (.int p1), .val (.int p2), .val (.int p3), .val (.int (0 : Int32)), .val (.ref s_STANDARD), .unset, .unset, .unset, .unset]) rfl ?_
      show Steps p.tables e below (T3.setTop (mkF m 13 #[.val (.int p1), .val (.int p2), .val (.int p3), .val (.int (0 : Int32)), .val (.ref s_STANDARD), .unset, .unset, .unset, .unset] [])) _
      refine XS.goto X3.here hx rfl (pc0 := 13) (pc' := 47) rfl (hb hby at_13) (by decide) (by decide) ?_
      show Steps p.tables e below (T3.setTop (mkF m 47 #[.val (.int p1), .val (.int p2), .val (.int p3), .val (.int (0 : Int32)), .val (.ref s_STANDARD), .unset, .unset, .unset, .unset] [])) _
      refine XS.iloadN X3.here hx rfl (hb hby at_47) rfl ?_
      show Steps p.tables e below (T3.setTop (mkF m 48 #[.val (.int p1), .val (.int p2), .val (.int p3), .val (.int (0 : Int32)), .val (.ref s_STANDARD), .unset, .unset, .unset, .unset] [(.int p2)])) _
      refine XS.iconst X3.here hx rfl (hb hby at_48) ?_
      show Steps p.tables e below (T3.setTop (mkF m 49 #[.val (.int p1), .val (.int p2), .val (.int p3), .val (.int (0 : Int32)), .val (.ref s_STANDARD), .unset, .unset, .unset, .unset] [(.int (3 : Int32)), (.int p2)])) _
      refine XS.iand X3.here hx rfl (hb hby at_49) rfl ?_
      show Steps p.tables e below (T3.setTop (mkF m 50 #[.val (.int p1), .val (.int p2), .val (.int p3), .val (.int (0 : Int32)), .val (.ref s_STANDARD), .unset, .unset, .unset, .unset] [(.int (p2 &&& (3 : Int32)))])) _
      refine XS.istore X3.here hx rfl (hb hby at_50) rfl (l' := #[.val (.int p1), .val (.int p2), .val (.int p3), .val (.int (0 : Int32)), .val (.ref s_STANDARD), .val (.int (p2 &&& (3 : Int32))), .unset, .unset, .unset]) rfl ?_
      show Steps p.tables e below (T3.setTop (mkF m 52 #[.val (.int p1), .val (.int p2), .val (.int p3), .val (.int (0 : Int32)), .val (.ref s_STANDARD), .val (.int (p2 &&& (3 : Int32))), .unset, .unset, .unset] [])) _
      exact kt
    obtain ⟨sel, h_sel⟩ : ∃ z, z = (p2 &&& (3 : Int32)) := ⟨_, rfl⟩
    rw [← h_sel] at pre5
    by_cases hc54 : sel = (0 : Int32)
    · skip
      have pre6 : ∀ t, Steps p.tables e below (T3.setTop (mkF m 57 #[.val (.int p1), .val (.int p2), .val (.int p3), .val (.int (0 : Int32)), .val (.ref s_STANDARD), .val (.int sel), .unset, .unset, .unset] [])) t → Steps p.tables e below (s₁.setTop (entryFrame m #[(.int p1), (.int p2), (.int p3)] maxLocals)) t := fun t kt => by
        refine pre5 t ?_
        refine XS.iload X3.here hx rfl (hb hby at_52) rfl ?_
        show Steps p.tables e below (T3.setTop (mkF m 54 #[.val (.int p1), .val (.int p2), .val (.int p3), .val (.int (0 : Int32)), .val (.ref s_STANDARD), .val (.int sel), .unset, .unset, .unset] [(.int sel)])) _
        refine XS.ifNo X3.here hx rfl (hb hby at_54) rfl ((if0 _ _).trans (teq hc54).2) ?_
        show Steps p.tables e below (T3.setTop (mkF m 57 #[.val (.int p1), .val (.int p2), .val (.int p3), .val (.int (0 : Int32)), .val (.ref s_STANDARD), .val (.int sel), .unset, .unset, .unset] [])) _
        exact kt
      subst hc54
      have pre7 : ∀ t, Steps p.tables e below (T3.setTop (mkF m 144 #[.val (.int p1), .val (.int p2), .val (.int p3), .val (.int (0 : Int32)), .val (.ref s_STANDARD), .val (.int (0 : Int32)), .val (.int (39 : Int32)), .val (.int (0 : Int32)), .val (.int (0 : Int32))] [(.int (39 : Int32)), (.ref s_STANDARD)])) t → Steps p.tables e below (s₁.setTop (entryFrame m #[(.int p1), (.int p2), (.int p3)] maxLocals)) t := fun t kt => by
        refine pre6 t ?_
        refine XS.bipush X3.here hx rfl (hb hby at_57) ?_
        show Steps p.tables e below (T3.setTop (mkF m 59 #[.val (.int p1), .val (.int p2), .val (.int p3), .val (.int (0 : Int32)), .val (.ref s_STANDARD), .val (.int (0 : Int32)), .unset, .unset, .unset] [(.int (39 : Int32))])) _
        refine XS.istore X3.here hx rfl (hb hby at_59) rfl (l' := #[.val (.int p1), .val (.int p2), .val (.int p3), .val (.int (0 : Int32)), .val (.ref s_STANDARD), .val (.int (0 : Int32)), .val (.int (39 : Int32)), .unset, .unset]) rfl ?_
        show Steps p.tables e below (T3.setTop (mkF m 61 #[.val (.int p1), .val (.int p2), .val (.int p3), .val (.int (0 : Int32)), .val (.ref s_STANDARD), .val (.int (0 : Int32)), .val (.int (39 : Int32)), .unset, .unset] [])) _
        refine XS.goto X3.here hx rfl (pc0 := 61) (pc' := 84) rfl (hb hby at_61) (by decide) (by decide) ?_
        show Steps p.tables e below (T3.setTop (mkF m 84 #[.val (.int p1), .val (.int p2), .val (.int p3), .val (.int (0 : Int32)), .val (.ref s_STANDARD), .val (.int (0 : Int32)), .val (.int (39 : Int32)), .unset, .unset] [])) _
        refine XS.iloadN X3.here hx rfl (hb hby at_84) rfl ?_
        show Steps p.tables e below (T3.setTop (mkF m 85 #[.val (.int p1), .val (.int p2), .val (.int p3), .val (.int (0 : Int32)), .val (.ref s_STANDARD), .val (.int (0 : Int32)), .val (.int (39 : Int32)), .unset, .unset] [(.int (0 : Int32))])) _
        refine XS.iconst X3.here hx rfl (hb hby at_85) ?_
        show Steps p.tables e below (T3.setTop (mkF m 86 #[.val (.int p1), .val (.int p2), .val (.int p3), .val (.int (0 : Int32)), .val (.ref s_STANDARD), .val (.int (0 : Int32)), .val (.int (39 : Int32)), .unset, .unset] [(.int (2 : Int32)), (.int (0 : Int32))])) _
        refine XS.icmpNo X3.here hx rfl (hb hby at_86) rfl (feq (by decide : ¬ ((0 : Int32) = (2 : Int32)))).1 ?_
        show Steps p.tables e below (T3.setTop (mkF m 89 #[.val (.int p1), .val (.int p2), .val (.int p3), .val (.int (0 : Int32)), .val (.ref s_STANDARD), .val (.int (0 : Int32)), .val (.int (39 : Int32)), .unset, .unset] [])) _
        refine XS.iloadN X3.here hx rfl (hb hby at_89) rfl ?_
        show Steps p.tables e below (T3.setTop (mkF m 90 #[.val (.int p1), .val (.int p2), .val (.int p3), .val (.int (0 : Int32)), .val (.ref s_STANDARD), .val (.int (0 : Int32)), .val (.int (39 : Int32)), .unset, .unset] [(.int (0 : Int32))])) _
        refine XS.iconst X3.here hx rfl (hb hby at_90) ?_
        show Steps p.tables e below (T3.setTop (mkF m 91 #[.val (.int p1), .val (.int p2), .val (.int p3), .val (.int (0 : Int32)), .val (.ref s_STANDARD), .val (.int (0 : Int32)), .val (.int (39 : Int32)), .unset, .unset] [(.int (3 : Int32)), (.int (0 : Int32))])) _
        refine XS.icmpYes X3.here hx rfl (pc0 := 91) (pc' := 98) rfl (hb hby at_91) rfl (feq (by decide : ¬ ((0 : Int32) = (3 : Int32)))).2 (by decide) (by decide) ?_
        show Steps p.tables e below (T3.setTop (mkF m 98 #[.val (.int p1), .val (.int p2), .val (.int p3), .val (.int (0 : Int32)), .val (.ref s_STANDARD), .val (.int (0 : Int32)), .val (.int (39 : Int32)), .unset, .unset] [])) _
        refine XS.iconst X3.here hx rfl (hb hby at_98) ?_
        show Steps p.tables e below (T3.setTop (mkF m 99 #[.val (.int p1), .val (.int p2), .val (.int p3), .val (.int (0 : Int32)), .val (.ref s_STANDARD), .val (.int (0 : Int32)), .val (.int (39 : Int32)), .unset, .unset] [(.int (0 : Int32))])) _
        refine XS.istore X3.here hx rfl (hb hby at_99) rfl (l' := #[.val (.int p1), .val (.int p2), .val (.int p3), .val (.int (0 : Int32)), .val (.ref s_STANDARD), .val (.int (0 : Int32)), .val (.int (39 : Int32)), .val (.int (0 : Int32)), .unset]) rfl ?_
        show Steps p.tables e below (T3.setTop (mkF m 101 #[.val (.int p1), .val (.int p2), .val (.int p3), .val (.int (0 : Int32)), .val (.ref s_STANDARD), .val (.int (0 : Int32)), .val (.int (39 : Int32)), .val (.int (0 : Int32)), .unset] [])) _
        refine XS.iload X3.here hx rfl (hb hby at_101) rfl ?_
        show Steps p.tables e below (T3.setTop (mkF m 103 #[.val (.int p1), .val (.int p2), .val (.int p3), .val (.int (0 : Int32)), .val (.ref s_STANDARD), .val (.int (0 : Int32)), .val (.int (39 : Int32)), .val (.int (0 : Int32)), .unset] [(.int (39 : Int32))])) _
        refine XS.bipush X3.here hx rfl (hb hby at_103) ?_
        show Steps p.tables e below (T3.setTop (mkF m 105 #[.val (.int p1), .val (.int p2), .val (.int p3), .val (.int (0 : Int32)), .val (.ref s_STANDARD), .val (.int (0 : Int32)), .val (.int (39 : Int32)), .val (.int (0 : Int32)), .unset] [(.int (39 : Int32)), (.int (39 : Int32))])) _
        refine XS.icmpNo X3.here hx rfl (hb hby at_105) rfl (teq (by decide : (39 : Int32) = (39 : Int32))).2 ?_
        show Steps p.tables e below (T3.setTop (mkF m 108 #[.val (.int p1), .val (.int p2), .val (.int p3), .val (.int (0 : Int32)), .val (.ref s_STANDARD), .val (.int (0 : Int32)), .val (.int (39 : Int32)), .val (.int (0 : Int32)), .unset] [])) _
        refine XS.iload X3.here hx rfl (hb hby at_108) rfl ?_
        show Steps p.tables e below (T3.setTop (mkF m 110 #[.val (.int p1), .val (.int p2), .val (.int p3), .val (.int (0 : Int32)), .val (.ref s_STANDARD), .val (.int (0 : Int32)), .val (.int (39 : Int32)), .val (.int (0 : Int32)), .unset] [(.int (0 : Int32))])) _
        refine XS.istore X3.here hx rfl (hb hby at_110) rfl (l' := #[.val (.int p1), .val (.int p2), .val (.int p3), .val (.int (0 : Int32)), .val (.ref s_STANDARD), .val (.int (0 : Int32)), .val (.int (39 : Int32)), .val (.int (0 : Int32)), .val (.int (0 : Int32))]) rfl ?_
        show Steps p.tables e below (T3.setTop (mkF m 112 #[.val (.int p1), .val (.int p2), .val (.int p3), .val (.int (0 : Int32)), .val (.ref s_STANDARD), .val (.int (0 : Int32)), .val (.int (39 : Int32)), .val (.int (0 : Int32)), .val (.int (0 : Int32))] [])) _
        refine XS.goto X3.here hx rfl (pc0 := 112) (pc' := 140) rfl (hb hby at_112) (by decide) (by decide) ?_
        show Steps p.tables e below (T3.setTop (mkF m 140 #[.val (.int p1), .val (.int p2), .val (.int p3), .val (.int (0 : Int32)), .val (.ref s_STANDARD), .val (.int (0 : Int32)), .val (.int (39 : Int32)), .val (.int (0 : Int32)), .val (.int (0 : Int32))] [])) _
        refine XS.aload X3.here hx rfl (hb hby at_140) rfl rfl ?_
        show Steps p.tables e below (T3.setTop (mkF m 142 #[.val (.int p1), .val (.int p2), .val (.int p3), .val (.int (0 : Int32)), .val (.ref s_STANDARD), .val (.int (0 : Int32)), .val (.int (39 : Int32)), .val (.int (0 : Int32)), .val (.int (0 : Int32))] [(.ref s_STANDARD)])) _
        refine XS.iload X3.here hx rfl (hb hby at_142) rfl ?_
        show Steps p.tables e below (T3.setTop (mkF m 144 #[.val (.int p1), .val (.int p2), .val (.int p3), .val (.int (0 : Int32)), .val (.ref s_STANDARD), .val (.int (0 : Int32)), .val (.int (39 : Int32)), .val (.int (0 : Int32)), .val (.int (0 : Int32))] [(.int (39 : Int32)), (.ref s_STANDARD)])) _
        exact kt
      obtain ⟨cq8, kq8, q8a, q8b, q8c⟩ := isOf hZ e3 E_s_STANDARD
      obtain ⟨_, _, ⟨T8, L8, k8, n8⟩, -, X8, ⟨Lc8, hQ8, l8, y8, z8⟩, st8⟩ := X3.virtualBack hx (y := (⟨"com/example/ready_ledger/readyledger/jdbc/SqlDialect", "backslashEscapes", "(C)Z"⟩ : MethodName)) (z := (⟨"com/example/ready_ledger/readyledger/jdbc/SqlDialect", "backslashEscapes", "(C)Z"⟩ : MethodName)) hown (mvT hZ (hw _ (mgE 4 rfl))) (mvT hZ (hw _ (mgE 5 rfl))) (notFace_of_selects (args := #[]) (mvT hZ (hw _ (mgE 7 rfl)))) (mvT hZ (hw _ (mgE 7 rfl))) (mvT hZ (hw _ (mgE 6 rfl))) (by decide) (backOf (W := 0) (rm1 l Z a0 hw [] s_STANDARD (39 : Int32) (0 : Int32) (0 : Int32) h0 n0 Z0 F_backslashInSingleQuotes_s_STANDARD F_backslashInDoubleQuotes_s_STANDARD) hZ (hw _ (mgE 8 rfl)) (hw _ (mgE 1 rfl)) (by decide) (by decide)) q8a q8c (g := (mkF m 144 #[.val (.int p1), .val (.int p2), .val (.int p3), .val (.int (0 : Int32)), .val (.ref s_STANDARD), .val (.int (0 : Int32)), .val (.int (39 : Int32)), .val (.int (0 : Int32)), .val (.int (0 : Int32))] [(.int (39 : Int32)), (.ref s_STANDARD)])) rfl (by rw [hml]; rfl) (Steps.refl _) (argsL := [(.int (39 : Int32))]) (rest := []) (lenOf pd__C_Z rfl) rfl (by show 2 * 0 + _ ≤ _; exact Nat.le_of_eq rfl) (hb hby at_144) (fun _ _ => ⟨rfl, e3, (by decide : 0 + 0 ≤ _), (by decide : 0 + 0 ≤ _)⟩)
      dsimp only [Pt.U, Pt.locs, Pt.cells, Pt.slots] at X8 l8 y8 z8 st8 hQ8
      subst l8 y8 z8
      obtain ⟨rfl, N8q, e8⟩ := hQ8
      have pre9 : ∀ t, Steps p.tables e below (T8.setTop (mkF m 147 #[.val (.int p1), .val (.int p2), .val (.int p3), .val (.int (0 : Int32)), .val (.ref s_STANDARD), .val (.int (0 : Int32)), .val (.int (39 : Int32)), .val (.int (0 : Int32)), .val (.int (0 : Int32))] [(.int (r1 (39 : Int32) (0 : Int32) (0 : Int32)))])) t → Steps p.tables e below (s₁.setTop (entryFrame m #[(.int p1), (.int p2), (.int p3)] maxLocals)) t := fun t kt => pre7 t (st8.trans kt)
      have N8 := Fr.app N0 N8q
      have hc149 : (r1 (39 : Int32) (0 : Int32) (0 : Int32)) = (0 : Int32) := by first | rfl | decide | (simp only [r1]; done) | (simp only [r1]; first | rfl | decide)
      have pre10 : ∀ t, Steps p.tables e below (T8.setTop (mkF m 157 #[.val (.int p1), .val (.int p2), .val (.int p3), .val (.int (0 : Int32)), .val (.ref s_STANDARD), .val (.int (0 : Int32)), .val (.int (39 : Int32)), .val (.int (0 : Int32)), .val (.int (0 : Int32))] [(.int (1 : Int32))])) t → Steps p.tables e below (s₁.setTop (entryFrame m #[(.int p1), (.int p2), (.int p3)] maxLocals)) t := fun t kt => by
        refine pre9 t ?_
        refine XS.iload X8.here hx rfl (hb hby at_147) rfl ?_
        show Steps p.tables e below (T8.setTop (mkF m 149 #[.val (.int p1), .val (.int p2), .val (.int p3), .val (.int (0 : Int32)), .val (.ref s_STANDARD), .val (.int (0 : Int32)), .val (.int (39 : Int32)), .val (.int (0 : Int32)), .val (.int (0 : Int32))] [(.int (0 : Int32)), (.int (r1 (39 : Int32) (0 : Int32) (0 : Int32)))])) _
        refine XS.icmpNo X8.here hx rfl (hb hby at_149) rfl (teq hc149).2 ?_
        show Steps p.tables e below (T8.setTop (mkF m 152 #[.val (.int p1), .val (.int p2), .val (.int p3), .val (.int (0 : Int32)), .val (.ref s_STANDARD), .val (.int (0 : Int32)), .val (.int (39 : Int32)), .val (.int (0 : Int32)), .val (.int (0 : Int32))] [])) _
        refine XS.iconst X8.here hx rfl (hb hby at_152) ?_
        show Steps p.tables e below (T8.setTop (mkF m 153 #[.val (.int p1), .val (.int p2), .val (.int p3), .val (.int (0 : Int32)), .val (.ref s_STANDARD), .val (.int (0 : Int32)), .val (.int (39 : Int32)), .val (.int (0 : Int32)), .val (.int (0 : Int32))] [(.int (1 : Int32))])) _
        refine XS.goto X8.here hx rfl (pc0 := 153) (pc' := 157) rfl (hb hby at_153) (by decide) (by decide) ?_
        show Steps p.tables e below (T8.setTop (mkF m 157 #[.val (.int p1), .val (.int p2), .val (.int p3), .val (.int (0 : Int32)), .val (.ref s_STANDARD), .val (.int (0 : Int32)), .val (.int (39 : Int32)), .val (.int (0 : Int32)), .val (.int (0 : Int32))] [(.int (1 : Int32))])) _
        exact kt
      obtain ⟨fs, hr, hrun, hended, hW, hsame⟩ := X8.leave (v := some (.int (1 : Int32))) (fun h => by rw [Bd.returns] at h; cases h)
      refine ⟨_, _, pre10 _ ?_, hrun, hended, _, _, rfl, ?_, ⟨_, rfl⟩, hW, hsame.mono (by decide) (by decide)⟩
      · exact retN X8 hx (t := .boolean) Bd.returns (by simp) (hb hby at_157) hr
      · show Q0 Z p1 p2 p3 s_STANDARD s_POSTGRESQL s_MARIADB s_MARIADB_ANSI_QUOTES h0 n0 _ T8.heap _
        rw [e8]
        exact ⟨rfl, N8⟩
    · skip
      by_cases hc67 : sel = (1 : Int32)
      · skip
        have pre11 : ∀ t, Steps p.tables e below (T3.setTop (mkF m 70 #[.val (.int p1), .val (.int p2), .val (.int p3), .val (.int (0 : Int32)), .val (.ref s_STANDARD), .val (.int sel), .unset, .unset, .unset] [])) t → Steps p.tables e below (s₁.setTop (entryFrame m #[(.int p1), (.int p2), (.int p3)] maxLocals)) t := fun t kt => by
          refine pre5 t ?_
          refine XS.iload X3.here hx rfl (hb hby at_52) rfl ?_
          show Steps p.tables e below (T3.setTop (mkF m 54 #[.val (.int p1), .val (.int p2), .val (.int p3), .val (.int (0 : Int32)), .val (.ref s_STANDARD), .val (.int sel), .unset, .unset, .unset] [(.int sel)])) _
          refine XS.ifYes X3.here hx rfl (pc0 := 54) (pc' := 64) rfl (hb hby at_54) rfl ((if0 _ _).trans (feq hc54).2) (by decide) (by decide) ?_
          show Steps p.tables e below (T3.setTop (mkF m 64 #[.val (.int p1), .val (.int p2), .val (.int p3), .val (.int (0 : Int32)), .val (.ref s_STANDARD), .val (.int sel), .unset, .unset, .unset] [])) _
          refine XS.iload X3.here hx rfl (hb hby at_64) rfl ?_
          show Steps p.tables e below (T3.setTop (mkF m 66 #[.val (.int p1), .val (.int p2), .val (.int p3), .val (.int (0 : Int32)), .val (.ref s_STANDARD), .val (.int sel), .unset, .unset, .unset] [(.int sel)])) _
          refine XS.iconst X3.here hx rfl (hb hby at_66) ?_
          show Steps p.tables e below (T3.setTop (mkF m 67 #[.val (.int p1), .val (.int p2), .val (.int p3), .val (.int (0 : Int32)), .val (.ref s_STANDARD), .val (.int sel), .unset, .unset, .unset] [(.int (1 : Int32)), (.int sel)])) _
          refine XS.icmpNo X3.here hx rfl (hb hby at_67) rfl (teq hc67).2 ?_
          show Steps p.tables e below (T3.setTop (mkF m 70 #[.val (.int p1), .val (.int p2), .val (.int p3), .val (.int (0 : Int32)), .val (.ref s_STANDARD), .val (.int sel), .unset, .unset, .unset] [])) _
          exact kt
        subst hc67
        have pre12 : ∀ t, Steps p.tables e below (T3.setTop (mkF m 144 #[.val (.int p1), .val (.int p2), .val (.int p3), .val (.int (0 : Int32)), .val (.ref s_STANDARD), .val (.int (1 : Int32)), .val (.int (34 : Int32)), .val (.int (0 : Int32)), .val (.int (0 : Int32))] [(.int (34 : Int32)), (.ref s_STANDARD)])) t → Steps p.tables e below (s₁.setTop (entryFrame m #[(.int p1), (.int p2), (.int p3)] maxLocals)) t := fun t kt => by
          refine pre11 t ?_
          refine XS.bipush X3.here hx rfl (hb hby at_70) ?_
          show Steps p.tables e below (T3.setTop (mkF m 72 #[.val (.int p1), .val (.int p2), .val (.int p3), .val (.int (0 : Int32)), .val (.ref s_STANDARD), .val (.int (1 : Int32)), .unset, .unset, .unset] [(.int (34 : Int32))])) _
          refine XS.istore X3.here hx rfl (hb hby at_72) rfl (l' := #[.val (.int p1), .val (.int p2), .val (.int p3), .val (.int (0 : Int32)), .val (.ref s_STANDARD), .val (.int (1 : Int32)), .val (.int (34 : Int32)), .unset, .unset]) rfl ?_
          show Steps p.tables e below (T3.setTop (mkF m 74 #[.val (.int p1), .val (.int p2), .val (.int p3), .val (.int (0 : Int32)), .val (.ref s_STANDARD), .val (.int (1 : Int32)), .val (.int (34 : Int32)), .unset, .unset] [])) _
          refine XS.goto X3.here hx rfl (pc0 := 74) (pc' := 84) rfl (hb hby at_74) (by decide) (by decide) ?_
          show Steps p.tables e below (T3.setTop (mkF m 84 #[.val (.int p1), .val (.int p2), .val (.int p3), .val (.int (0 : Int32)), .val (.ref s_STANDARD), .val (.int (1 : Int32)), .val (.int (34 : Int32)), .unset, .unset] [])) _
          refine XS.iloadN X3.here hx rfl (hb hby at_84) rfl ?_
          show Steps p.tables e below (T3.setTop (mkF m 85 #[.val (.int p1), .val (.int p2), .val (.int p3), .val (.int (0 : Int32)), .val (.ref s_STANDARD), .val (.int (1 : Int32)), .val (.int (34 : Int32)), .unset, .unset] [(.int (0 : Int32))])) _
          refine XS.iconst X3.here hx rfl (hb hby at_85) ?_
          show Steps p.tables e below (T3.setTop (mkF m 86 #[.val (.int p1), .val (.int p2), .val (.int p3), .val (.int (0 : Int32)), .val (.ref s_STANDARD), .val (.int (1 : Int32)), .val (.int (34 : Int32)), .unset, .unset] [(.int (2 : Int32)), (.int (0 : Int32))])) _
          refine XS.icmpNo X3.here hx rfl (hb hby at_86) rfl (feq (by decide : ¬ ((0 : Int32) = (2 : Int32)))).1 ?_
          show Steps p.tables e below (T3.setTop (mkF m 89 #[.val (.int p1), .val (.int p2), .val (.int p3), .val (.int (0 : Int32)), .val (.ref s_STANDARD), .val (.int (1 : Int32)), .val (.int (34 : Int32)), .unset, .unset] [])) _
          refine XS.iloadN X3.here hx rfl (hb hby at_89) rfl ?_
          show Steps p.tables e below (T3.setTop (mkF m 90 #[.val (.int p1), .val (.int p2), .val (.int p3), .val (.int (0 : Int32)), .val (.ref s_STANDARD), .val (.int (1 : Int32)), .val (.int (34 : Int32)), .unset, .unset] [(.int (0 : Int32))])) _
          refine XS.iconst X3.here hx rfl (hb hby at_90) ?_
          show Steps p.tables e below (T3.setTop (mkF m 91 #[.val (.int p1), .val (.int p2), .val (.int p3), .val (.int (0 : Int32)), .val (.ref s_STANDARD), .val (.int (1 : Int32)), .val (.int (34 : Int32)), .unset, .unset] [(.int (3 : Int32)), (.int (0 : Int32))])) _
          refine XS.icmpYes X3.here hx rfl (pc0 := 91) (pc' := 98) rfl (hb hby at_91) rfl (feq (by decide : ¬ ((0 : Int32) = (3 : Int32)))).2 (by decide) (by decide) ?_
          show Steps p.tables e below (T3.setTop (mkF m 98 #[.val (.int p1), .val (.int p2), .val (.int p3), .val (.int (0 : Int32)), .val (.ref s_STANDARD), .val (.int (1 : Int32)), .val (.int (34 : Int32)), .unset, .unset] [])) _
          refine XS.iconst X3.here hx rfl (hb hby at_98) ?_
          show Steps p.tables e below (T3.setTop (mkF m 99 #[.val (.int p1), .val (.int p2), .val (.int p3), .val (.int (0 : Int32)), .val (.ref s_STANDARD), .val (.int (1 : Int32)), .val (.int (34 : Int32)), .unset, .unset] [(.int (0 : Int32))])) _
          refine XS.istore X3.here hx rfl (hb hby at_99) rfl (l' := #[.val (.int p1), .val (.int p2), .val (.int p3), .val (.int (0 : Int32)), .val (.ref s_STANDARD), .val (.int (1 : Int32)), .val (.int (34 : Int32)), .val (.int (0 : Int32)), .unset]) rfl ?_
          show Steps p.tables e below (T3.setTop (mkF m 101 #[.val (.int p1), .val (.int p2), .val (.int p3), .val (.int (0 : Int32)), .val (.ref s_STANDARD), .val (.int (1 : Int32)), .val (.int (34 : Int32)), .val (.int (0 : Int32)), .unset] [])) _
          refine XS.iload X3.here hx rfl (hb hby at_101) rfl ?_
          show Steps p.tables e below (T3.setTop (mkF m 103 #[.val (.int p1), .val (.int p2), .val (.int p3), .val (.int (0 : Int32)), .val (.ref s_STANDARD), .val (.int (1 : Int32)), .val (.int (34 : Int32)), .val (.int (0 : Int32)), .unset] [(.int (34 : Int32))])) _
          refine XS.bipush X3.here hx rfl (hb hby at_103) ?_
          show Steps p.tables e below (T3.setTop (mkF m 105 #[.val (.int p1), .val (.int p2), .val (.int p3), .val (.int (0 : Int32)), .val (.ref s_STANDARD), .val (.int (1 : Int32)), .val (.int (34 : Int32)), .val (.int (0 : Int32)), .unset] [(.int (39 : Int32)), (.int (34 : Int32))])) _
          refine XS.icmpYes X3.here hx rfl (pc0 := 105) (pc' := 115) rfl (hb hby at_105) rfl (feq (by decide : ¬ ((34 : Int32) = (39 : Int32)))).2 (by decide) (by decide) ?_
          show Steps p.tables e below (T3.setTop (mkF m 115 #[.val (.int p1), .val (.int p2), .val (.int p3), .val (.int (0 : Int32)), .val (.ref s_STANDARD), .val (.int (1 : Int32)), .val (.int (34 : Int32)), .val (.int (0 : Int32)), .unset] [])) _
          refine XS.iload X3.here hx rfl (hb hby at_115) rfl ?_
          show Steps p.tables e below (T3.setTop (mkF m 117 #[.val (.int p1), .val (.int p2), .val (.int p3), .val (.int (0 : Int32)), .val (.ref s_STANDARD), .val (.int (1 : Int32)), .val (.int (34 : Int32)), .val (.int (0 : Int32)), .unset] [(.int (34 : Int32))])) _
          refine XS.bipush X3.here hx rfl (hb hby at_117) ?_
          show Steps p.tables e below (T3.setTop (mkF m 119 #[.val (.int p1), .val (.int p2), .val (.int p3), .val (.int (0 : Int32)), .val (.ref s_STANDARD), .val (.int (1 : Int32)), .val (.int (34 : Int32)), .val (.int (0 : Int32)), .unset] [(.int (34 : Int32)), (.int (34 : Int32))])) _
          refine XS.icmpNo X3.here hx rfl (hb hby at_119) rfl (teq (by decide : (34 : Int32) = (34 : Int32))).2 ?_
          show Steps p.tables e below (T3.setTop (mkF m 122 #[.val (.int p1), .val (.int p2), .val (.int p3), .val (.int (0 : Int32)), .val (.ref s_STANDARD), .val (.int (1 : Int32)), .val (.int (34 : Int32)), .val (.int (0 : Int32)), .unset] [])) _
          refine XS.iloadN X3.here hx rfl (hb hby at_122) rfl ?_
          show Steps p.tables e below (T3.setTop (mkF m 123 #[.val (.int p1), .val (.int p2), .val (.int p3), .val (.int (0 : Int32)), .val (.ref s_STANDARD), .val (.int (1 : Int32)), .val (.int (34 : Int32)), .val (.int (0 : Int32)), .unset] [(.int (0 : Int32))])) _
          refine XS.iconst X3.here hx rfl (hb hby at_123) ?_
          show Steps p.tables e below (T3.setTop (mkF m 124 #[.val (.int p1), .val (.int p2), .val (.int p3), .val (.int (0 : Int32)), .val (.ref s_STANDARD), .val (.int (1 : Int32)), .val (.int (34 : Int32)), .val (.int (0 : Int32)), .unset] [(.int (2 : Int32)), (.int (0 : Int32))])) _
          refine XS.icmpYes X3.here hx rfl (pc0 := 124) (pc' := 131) rfl (hb hby at_124) rfl (feq (by decide : ¬ ((0 : Int32) = (2 : Int32)))).2 (by decide) (by decide) ?_
          show Steps p.tables e below (T3.setTop (mkF m 131 #[.val (.int p1), .val (.int p2), .val (.int p3), .val (.int (0 : Int32)), .val (.ref s_STANDARD), .val (.int (1 : Int32)), .val (.int (34 : Int32)), .val (.int (0 : Int32)), .unset] [])) _
          refine XS.iconst X3.here hx rfl (hb hby at_131) ?_
          show Steps p.tables e below (T3.setTop (mkF m 132 #[.val (.int p1), .val (.int p2), .val (.int p3), .val (.int (0 : Int32)), .val (.ref s_STANDARD), .val (.int (1 : Int32)), .val (.int (34 : Int32)), .val (.int (0 : Int32)), .unset] [(.int (0 : Int32))])) _
          refine XS.istore X3.here hx rfl (hb hby at_132) rfl (l' := #[.val (.int p1), .val (.int p2), .val (.int p3), .val (.int (0 : Int32)), .val (.ref s_STANDARD), .val (.int (1 : Int32)), .val (.int (34 : Int32)), .val (.int (0 : Int32)), .val (.int (0 : Int32))]) rfl ?_
          show Steps p.tables e below (T3.setTop (mkF m 134 #[.val (.int p1), .val (.int p2), .val (.int p3), .val (.int (0 : Int32)), .val (.ref s_STANDARD), .val (.int (1 : Int32)), .val (.int (34 : Int32)), .val (.int (0 : Int32)), .val (.int (0 : Int32))] [])) _
          refine XS.goto X3.here hx rfl (pc0 := 134) (pc' := 140) rfl (hb hby at_134) (by decide) (by decide) ?_
          show Steps p.tables e below (T3.setTop (mkF m 140 #[.val (.int p1), .val (.int p2), .val (.int p3), .val (.int (0 : Int32)), .val (.ref s_STANDARD), .val (.int (1 : Int32)), .val (.int (34 : Int32)), .val (.int (0 : Int32)), .val (.int (0 : Int32))] [])) _
          refine XS.aload X3.here hx rfl (hb hby at_140) rfl rfl ?_
          show Steps p.tables e below (T3.setTop (mkF m 142 #[.val (.int p1), .val (.int p2), .val (.int p3), .val (.int (0 : Int32)), .val (.ref s_STANDARD), .val (.int (1 : Int32)), .val (.int (34 : Int32)), .val (.int (0 : Int32)), .val (.int (0 : Int32))] [(.ref s_STANDARD)])) _
          refine XS.iload X3.here hx rfl (hb hby at_142) rfl ?_
          show Steps p.tables e below (T3.setTop (mkF m 144 #[.val (.int p1), .val (.int p2), .val (.int p3), .val (.int (0 : Int32)), .val (.ref s_STANDARD), .val (.int (1 : Int32)), .val (.int (34 : Int32)), .val (.int (0 : Int32)), .val (.int (0 : Int32))] [(.int (34 : Int32)), (.ref s_STANDARD)])) _
          exact kt
        obtain ⟨cq13, kq13, q13a, q13b, q13c⟩ := isOf hZ e3 E_s_STANDARD
        obtain ⟨_, _, ⟨T13, L13, k13, n13⟩, -, X13, ⟨Lc13, hQ13, l13, y13, z13⟩, st13⟩ := X3.virtualBack hx (y := (⟨"com/example/ready_ledger/readyledger/jdbc/SqlDialect", "backslashEscapes", "(C)Z"⟩ : MethodName)) (z := (⟨"com/example/ready_ledger/readyledger/jdbc/SqlDialect", "backslashEscapes", "(C)Z"⟩ : MethodName)) hown (mvT hZ (hw _ (mgE 4 rfl))) (mvT hZ (hw _ (mgE 5 rfl))) (notFace_of_selects (args := #[]) (mvT hZ (hw _ (mgE 7 rfl)))) (mvT hZ (hw _ (mgE 7 rfl))) (mvT hZ (hw _ (mgE 6 rfl))) (by decide) (backOf (W := 0) (rm1 l Z a0 hw [] s_STANDARD (34 : Int32) (0 : Int32) (0 : Int32) h0 n0 Z0 F_backslashInSingleQuotes_s_STANDARD F_backslashInDoubleQuotes_s_STANDARD) hZ (hw _ (mgE 8 rfl)) (hw _ (mgE 1 rfl)) (by decide) (by decide)) q13a q13c (g := (mkF m 144 #[.val (.int p1), .val (.int p2), .val (.int p3), .val (.int (0 : Int32)), .val (.ref s_STANDARD), .val (.int (1 : Int32)), .val (.int (34 : Int32)), .val (.int (0 : Int32)), .val (.int (0 : Int32))] [(.int (34 : Int32)), (.ref s_STANDARD)])) rfl (by rw [hml]; rfl) (Steps.refl _) (argsL := [(.int (34 : Int32))]) (rest := []) (lenOf pd__C_Z rfl) rfl (by show 2 * 0 + _ ≤ _; exact Nat.le_of_eq rfl) (hb hby at_144) (fun _ _ => ⟨rfl, e3, (by decide : 0 + 0 ≤ _), (by decide : 0 + 0 ≤ _)⟩)
        dsimp only [Pt.U, Pt.locs, Pt.cells, Pt.slots] at X13 l13 y13 z13 st13 hQ13
        subst l13 y13 z13
        obtain ⟨rfl, N13q, e13⟩ := hQ13
        have pre14 : ∀ t, Steps p.tables e below (T13.setTop (mkF m 147 #[.val (.int p1), .val (.int p2), .val (.int p3), .val (.int (0 : Int32)), .val (.ref s_STANDARD), .val (.int (1 : Int32)), .val (.int (34 : Int32)), .val (.int (0 : Int32)), .val (.int (0 : Int32))] [(.int (r1 (34 : Int32) (0 : Int32) (0 : Int32)))])) t → Steps p.tables e below (s₁.setTop (entryFrame m #[(.int p1), (.int p2), (.int p3)] maxLocals)) t := fun t kt => pre12 t (st13.trans kt)
        have N13 := Fr.app N0 N13q
        have hc149 : (r1 (34 : Int32) (0 : Int32) (0 : Int32)) = (0 : Int32) := by first | rfl | decide | (simp only [r1]; done) | (simp only [r1]; first | rfl | decide)
        have pre15 : ∀ t, Steps p.tables e below (T13.setTop (mkF m 157 #[.val (.int p1), .val (.int p2), .val (.int p3), .val (.int (0 : Int32)), .val (.ref s_STANDARD), .val (.int (1 : Int32)), .val (.int (34 : Int32)), .val (.int (0 : Int32)), .val (.int (0 : Int32))] [(.int (1 : Int32))])) t → Steps p.tables e below (s₁.setTop (entryFrame m #[(.int p1), (.int p2), (.int p3)] maxLocals)) t := fun t kt => by
          refine pre14 t ?_
          refine XS.iload X13.here hx rfl (hb hby at_147) rfl ?_
          show Steps p.tables e below (T13.setTop (mkF m 149 #[.val (.int p1), .val (.int p2), .val (.int p3), .val (.int (0 : Int32)), .val (.ref s_STANDARD), .val (.int (1 : Int32)), .val (.int (34 : Int32)), .val (.int (0 : Int32)), .val (.int (0 : Int32))] [(.int (0 : Int32)), (.int (r1 (34 : Int32) (0 : Int32) (0 : Int32)))])) _
          refine XS.icmpNo X13.here hx rfl (hb hby at_149) rfl (teq hc149).2 ?_
          show Steps p.tables e below (T13.setTop (mkF m 152 #[.val (.int p1), .val (.int p2), .val (.int p3), .val (.int (0 : Int32)), .val (.ref s_STANDARD), .val (.int (1 : Int32)), .val (.int (34 : Int32)), .val (.int (0 : Int32)), .val (.int (0 : Int32))] [])) _
          refine XS.iconst X13.here hx rfl (hb hby at_152) ?_
          show Steps p.tables e below (T13.setTop (mkF m 153 #[.val (.int p1), .val (.int p2), .val (.int p3), .val (.int (0 : Int32)), .val (.ref s_STANDARD), .val (.int (1 : Int32)), .val (.int (34 : Int32)), .val (.int (0 : Int32)), .val (.int (0 : Int32))] [(.int (1 : Int32))])) _
          refine XS.goto X13.here hx rfl (pc0 := 153) (pc' := 157) rfl (hb hby at_153) (by decide) (by decide) ?_
          show Steps p.tables e below (T13.setTop (mkF m 157 #[.val (.int p1), .val (.int p2), .val (.int p3), .val (.int (0 : Int32)), .val (.ref s_STANDARD), .val (.int (1 : Int32)), .val (.int (34 : Int32)), .val (.int (0 : Int32)), .val (.int (0 : Int32))] [(.int (1 : Int32))])) _
          exact kt
        obtain ⟨fs, hr, hrun, hended, hW, hsame⟩ := X13.leave (v := some (.int (1 : Int32))) (fun h => by rw [Bd.returns] at h; cases h)
        refine ⟨_, _, pre15 _ ?_, hrun, hended, _, _, rfl, ?_, ⟨_, rfl⟩, hW, hsame.mono (by decide) (by decide)⟩
        · exact retN X13 hx (t := .boolean) Bd.returns (by simp) (hb hby at_157) hr
        · show Q0 Z p1 p2 p3 s_STANDARD s_POSTGRESQL s_MARIADB s_MARIADB_ANSI_QUOTES h0 n0 _ T13.heap _
          rw [e13]
          exact ⟨rfl, N13⟩
      · skip
        have pre16 : ∀ t, Steps p.tables e below (T3.setTop (mkF m 84 #[.val (.int p1), .val (.int p2), .val (.int p3), .val (.int (0 : Int32)), .val (.ref s_STANDARD), .val (.int sel), .val (.int ((p3 &&& (65535 : Int32)).toUInt32.toUInt16.toUInt32.toInt32)), .unset, .unset] [])) t → Steps p.tables e below (s₁.setTop (entryFrame m #[(.int p1), (.int p2), (.int p3)] maxLocals)) t := fun t kt => by
          refine pre5 t ?_
          refine XS.iload X3.here hx rfl (hb hby at_52) rfl ?_
          show Steps p.tables e below (T3.setTop (mkF m 54 #[.val (.int p1), .val (.int p2), .val (.int p3), .val (.int (0 : Int32)), .val (.ref s_STANDARD), .val (.int sel), .unset, .unset, .unset] [(.int sel)])) _
          refine XS.ifYes X3.here hx rfl (pc0 := 54) (pc' := 64) rfl (hb hby at_54) rfl ((if0 _ _).trans (feq hc54).2) (by decide) (by decide) ?_
          show Steps p.tables e below (T3.setTop (mkF m 64 #[.val (.int p1), .val (.int p2), .val (.int p3), .val (.int (0 : Int32)), .val (.ref s_STANDARD), .val (.int sel), .unset, .unset, .unset] [])) _
          refine XS.iload X3.here hx rfl (hb hby at_64) rfl ?_
          show Steps p.tables e below (T3.setTop (mkF m 66 #[.val (.int p1), .val (.int p2), .val (.int p3), .val (.int (0 : Int32)), .val (.ref s_STANDARD), .val (.int sel), .unset, .unset, .unset] [(.int sel)])) _
          refine XS.iconst X3.here hx rfl (hb hby at_66) ?_
          show Steps p.tables e below (T3.setTop (mkF m 67 #[.val (.int p1), .val (.int p2), .val (.int p3), .val (.int (0 : Int32)), .val (.ref s_STANDARD), .val (.int sel), .unset, .unset, .unset] [(.int (1 : Int32)), (.int sel)])) _
          refine XS.icmpYes X3.here hx rfl (pc0 := 67) (pc' := 77) rfl (hb hby at_67) rfl (feq hc67).2 (by decide) (by decide) ?_
          show Steps p.tables e below (T3.setTop (mkF m 77 #[.val (.int p1), .val (.int p2), .val (.int p3), .val (.int (0 : Int32)), .val (.ref s_STANDARD), .val (.int sel), .unset, .unset, .unset] [])) _
          refine XS.iloadN X3.here hx rfl (hb hby at_77) rfl ?_
          show Steps p.tables e below (T3.setTop (mkF m 78 #[.val (.int p1), .val (.int p2), .val (.int p3), .val (.int (0 : Int32)), .val (.ref s_STANDARD), .val (.int sel), .unset, .unset, .unset] [(.int p3)])) _
          refine X3.ldcInt hx hown (mvT hZ (hw _ (mgE 3 rfl))) (g := (mkF m 78 #[.val (.int p1), .val (.int p2), .val (.int p3), .val (.int (0 : Int32)), .val (.ref s_STANDARD), .val (.int sel), .unset, .unset, .unset] [(.int p3)])) rfl (hb hby at_78) _ ?_
          show Steps p.tables e below (T3.setTop (mkF m 80 #[.val (.int p1), .val (.int p2), .val (.int p3), .val (.int (0 : Int32)), .val (.ref s_STANDARD), .val (.int sel), .unset, .unset, .unset] [(.int (65535 : Int32)), (.int p3)])) _
          refine XS.iand X3.here hx rfl (hb hby at_80) rfl ?_
          show Steps p.tables e below (T3.setTop (mkF m 81 #[.val (.int p1), .val (.int p2), .val (.int p3), .val (.int (0 : Int32)), .val (.ref s_STANDARD), .val (.int sel), .unset, .unset, .unset] [(.int (p3 &&& (65535 : Int32)))])) _
          refine XS.i2c X3.here hx rfl (hb hby at_81) rfl ?_
          show Steps p.tables e below (T3.setTop (mkF m 82 #[.val (.int p1), .val (.int p2), .val (.int p3), .val (.int (0 : Int32)), .val (.ref s_STANDARD), .val (.int sel), .unset, .unset, .unset] [(.int ((p3 &&& (65535 : Int32)).toUInt32.toUInt16.toUInt32.toInt32))])) _
          refine XS.istore X3.here hx rfl (hb hby at_82) rfl (l' := #[.val (.int p1), .val (.int p2), .val (.int p3), .val (.int (0 : Int32)), .val (.ref s_STANDARD), .val (.int sel), .val (.int ((p3 &&& (65535 : Int32)).toUInt32.toUInt16.toUInt32.toInt32)), .unset, .unset]) rfl ?_
          show Steps p.tables e below (T3.setTop (mkF m 84 #[.val (.int p1), .val (.int p2), .val (.int p3), .val (.int (0 : Int32)), .val (.ref s_STANDARD), .val (.int sel), .val (.int ((p3 &&& (65535 : Int32)).toUInt32.toUInt16.toUInt32.toInt32)), .unset, .unset] [])) _
          exact kt
        obtain ⟨qq, h_qq⟩ : ∃ z, z = ((p3 &&& (65535 : Int32)).toUInt32.toUInt16.toUInt32.toInt32) := ⟨_, rfl⟩
        rw [← h_qq] at pre16
        by_cases hc105 : qq = (39 : Int32)
        · skip
          have pre17 : ∀ t, Steps p.tables e below (T3.setTop (mkF m 108 #[.val (.int p1), .val (.int p2), .val (.int p3), .val (.int (0 : Int32)), .val (.ref s_STANDARD), .val (.int sel), .val (.int qq), .val (.int (0 : Int32)), .unset] [])) t → Steps p.tables e below (s₁.setTop (entryFrame m #[(.int p1), (.int p2), (.int p3)] maxLocals)) t := fun t kt => by
            refine pre16 t ?_
            refine XS.iloadN X3.here hx rfl (hb hby at_84) rfl ?_
            show Steps p.tables e below (T3.setTop (mkF m 85 #[.val (.int p1), .val (.int p2), .val (.int p3), .val (.int (0 : Int32)), .val (.ref s_STANDARD), .val (.int sel), .val (.int qq), .unset, .unset] [(.int (0 : Int32))])) _
            refine XS.iconst X3.here hx rfl (hb hby at_85) ?_
            show Steps p.tables e below (T3.setTop (mkF m 86 #[.val (.int p1), .val (.int p2), .val (.int p3), .val (.int (0 : Int32)), .val (.ref s_STANDARD), .val (.int sel), .val (.int qq), .unset, .unset] [(.int (2 : Int32)), (.int (0 : Int32))])) _
            refine XS.icmpNo X3.here hx rfl (hb hby at_86) rfl (feq (by decide : ¬ ((0 : Int32) = (2 : Int32)))).1 ?_
            show Steps p.tables e below (T3.setTop (mkF m 89 #[.val (.int p1), .val (.int p2), .val (.int p3), .val (.int (0 : Int32)), .val (.ref s_STANDARD), .val (.int sel), .val (.int qq), .unset, .unset] [])) _
            refine XS.iloadN X3.here hx rfl (hb hby at_89) rfl ?_
            show Steps p.tables e below (T3.setTop (mkF m 90 #[.val (.int p1), .val (.int p2), .val (.int p3), .val (.int (0 : Int32)), .val (.ref s_STANDARD), .val (.int sel), .val (.int qq), .unset, .unset] [(.int (0 : Int32))])) _
            refine XS.iconst X3.here hx rfl (hb hby at_90) ?_
            show Steps p.tables e below (T3.setTop (mkF m 91 #[.val (.int p1), .val (.int p2), .val (.int p3), .val (.int (0 : Int32)), .val (.ref s_STANDARD), .val (.int sel), .val (.int qq), .unset, .unset] [(.int (3 : Int32)), (.int (0 : Int32))])) _
            refine XS.icmpYes X3.here hx rfl (pc0 := 91) (pc' := 98) rfl (hb hby at_91) rfl (feq (by decide : ¬ ((0 : Int32) = (3 : Int32)))).2 (by decide) (by decide) ?_
            show Steps p.tables e below (T3.setTop (mkF m 98 #[.val (.int p1), .val (.int p2), .val (.int p3), .val (.int (0 : Int32)), .val (.ref s_STANDARD), .val (.int sel), .val (.int qq), .unset, .unset] [])) _
            refine XS.iconst X3.here hx rfl (hb hby at_98) ?_
            show Steps p.tables e below (T3.setTop (mkF m 99 #[.val (.int p1), .val (.int p2), .val (.int p3), .val (.int (0 : Int32)), .val (.ref s_STANDARD), .val (.int sel), .val (.int qq), .unset, .unset] [(.int (0 : Int32))])) _
            refine XS.istore X3.here hx rfl (hb hby at_99) rfl (l' := #[.val (.int p1), .val (.int p2), .val (.int p3), .val (.int (0 : Int32)), .val (.ref s_STANDARD), .val (.int sel), .val (.int qq), .val (.int (0 : Int32)), .unset]) rfl ?_
            show Steps p.tables e below (T3.setTop (mkF m 101 #[.val (.int p1), .val (.int p2), .val (.int p3), .val (.int (0 : Int32)), .val (.ref s_STANDARD), .val (.int sel), .val (.int qq), .val (.int (0 : Int32)), .unset] [])) _
            refine XS.iload X3.here hx rfl (hb hby at_101) rfl ?_
            show Steps p.tables e below (T3.setTop (mkF m 103 #[.val (.int p1), .val (.int p2), .val (.int p3), .val (.int (0 : Int32)), .val (.ref s_STANDARD), .val (.int sel), .val (.int qq), .val (.int (0 : Int32)), .unset] [(.int qq)])) _
            refine XS.bipush X3.here hx rfl (hb hby at_103) ?_
            show Steps p.tables e below (T3.setTop (mkF m 105 #[.val (.int p1), .val (.int p2), .val (.int p3), .val (.int (0 : Int32)), .val (.ref s_STANDARD), .val (.int sel), .val (.int qq), .val (.int (0 : Int32)), .unset] [(.int (39 : Int32)), (.int qq)])) _
            refine XS.icmpNo X3.here hx rfl (hb hby at_105) rfl (teq hc105).2 ?_
            show Steps p.tables e below (T3.setTop (mkF m 108 #[.val (.int p1), .val (.int p2), .val (.int p3), .val (.int (0 : Int32)), .val (.ref s_STANDARD), .val (.int sel), .val (.int qq), .val (.int (0 : Int32)), .unset] [])) _
            exact kt
          subst hc105
          have pre18 : ∀ t, Steps p.tables e below (T3.setTop (mkF m 144 #[.val (.int p1), .val (.int p2), .val (.int p3), .val (.int (0 : Int32)), .val (.ref s_STANDARD), .val (.int sel), .val (.int (39 : Int32)), .val (.int (0 : Int32)), .val (.int (0 : Int32))] [(.int (39 : Int32)), (.ref s_STANDARD)])) t → Steps p.tables e below (s₁.setTop (entryFrame m #[(.int p1), (.int p2), (.int p3)] maxLocals)) t := fun t kt => by
            refine pre17 t ?_
            refine XS.iload X3.here hx rfl (hb hby at_108) rfl ?_
            show Steps p.tables e below (T3.setTop (mkF m 110 #[.val (.int p1), .val (.int p2), .val (.int p3), .val (.int (0 : Int32)), .val (.ref s_STANDARD), .val (.int sel), .val (.int (39 : Int32)), .val (.int (0 : Int32)), .unset] [(.int (0 : Int32))])) _
            refine XS.istore X3.here hx rfl (hb hby at_110) rfl (l' := #[.val (.int p1), .val (.int p2), .val (.int p3), .val (.int (0 : Int32)), .val (.ref s_STANDARD), .val (.int sel), .val (.int (39 : Int32)), .val (.int (0 : Int32)), .val (.int (0 : Int32))]) rfl ?_
            show Steps p.tables e below (T3.setTop (mkF m 112 #[.val (.int p1), .val (.int p2), .val (.int p3), .val (.int (0 : Int32)), .val (.ref s_STANDARD), .val (.int sel), .val (.int (39 : Int32)), .val (.int (0 : Int32)), .val (.int (0 : Int32))] [])) _
            refine XS.goto X3.here hx rfl (pc0 := 112) (pc' := 140) rfl (hb hby at_112) (by decide) (by decide) ?_
            show Steps p.tables e below (T3.setTop (mkF m 140 #[.val (.int p1), .val (.int p2), .val (.int p3), .val (.int (0 : Int32)), .val (.ref s_STANDARD), .val (.int sel), .val (.int (39 : Int32)), .val (.int (0 : Int32)), .val (.int (0 : Int32))] [])) _
            refine XS.aload X3.here hx rfl (hb hby at_140) rfl rfl ?_
            show Steps p.tables e below (T3.setTop (mkF m 142 #[.val (.int p1), .val (.int p2), .val (.int p3), .val (.int (0 : Int32)), .val (.ref s_STANDARD), .val (.int sel), .val (.int (39 : Int32)), .val (.int (0 : Int32)), .val (.int (0 : Int32))] [(.ref s_STANDARD)])) _
            refine XS.iload X3.here hx rfl (hb hby at_142) rfl ?_
            show Steps p.tables e below (T3.setTop (mkF m 144 #[.val (.int p1), .val (.int p2), .val (.int p3), .val (.int (0 : Int32)), .val (.ref s_STANDARD), .val (.int sel), .val (.int (39 : Int32)), .val (.int (0 : Int32)), .val (.int (0 : Int32))] [(.int (39 : Int32)), (.ref s_STANDARD)])) _
            exact kt
          obtain ⟨cq19, kq19, q19a, q19b, q19c⟩ := isOf hZ e3 E_s_STANDARD
          obtain ⟨_, _, ⟨T19, L19, k19, n19⟩, -, X19, ⟨Lc19, hQ19, l19, y19, z19⟩, st19⟩ := X3.virtualBack hx (y := (⟨"com/example/ready_ledger/readyledger/jdbc/SqlDialect", "backslashEscapes", "(C)Z"⟩ : MethodName)) (z := (⟨"com/example/ready_ledger/readyledger/jdbc/SqlDialect", "backslashEscapes", "(C)Z"⟩ : MethodName)) hown (mvT hZ (hw _ (mgE 4 rfl))) (mvT hZ (hw _ (mgE 5 rfl))) (notFace_of_selects (args := #[]) (mvT hZ (hw _ (mgE 7 rfl)))) (mvT hZ (hw _ (mgE 7 rfl))) (mvT hZ (hw _ (mgE 6 rfl))) (by decide) (backOf (W := 0) (rm1 l Z a0 hw [] s_STANDARD (39 : Int32) (0 : Int32) (0 : Int32) h0 n0 Z0 F_backslashInSingleQuotes_s_STANDARD F_backslashInDoubleQuotes_s_STANDARD) hZ (hw _ (mgE 8 rfl)) (hw _ (mgE 1 rfl)) (by decide) (by decide)) q19a q19c (g := (mkF m 144 #[.val (.int p1), .val (.int p2), .val (.int p3), .val (.int (0 : Int32)), .val (.ref s_STANDARD), .val (.int sel), .val (.int (39 : Int32)), .val (.int (0 : Int32)), .val (.int (0 : Int32))] [(.int (39 : Int32)), (.ref s_STANDARD)])) rfl (by rw [hml]; rfl) (Steps.refl _) (argsL := [(.int (39 : Int32))]) (rest := []) (lenOf pd__C_Z rfl) rfl (by show 2 * 0 + _ ≤ _; exact Nat.le_of_eq rfl) (hb hby at_144) (fun _ _ => ⟨rfl, e3, (by decide : 0 + 0 ≤ _), (by decide : 0 + 0 ≤ _)⟩)
          dsimp only [Pt.U, Pt.locs, Pt.cells, Pt.slots] at X19 l19 y19 z19 st19 hQ19
          subst l19 y19 z19
          obtain ⟨rfl, N19q, e19⟩ := hQ19
          have pre20 : ∀ t, Steps p.tables e below (T19.setTop (mkF m 147 #[.val (.int p1), .val (.int p2), .val (.int p3), .val (.int (0 : Int32)), .val (.ref s_STANDARD), .val (.int sel), .val (.int (39 : Int32)), .val (.int (0 : Int32)), .val (.int (0 : Int32))] [(.int (r1 (39 : Int32) (0 : Int32) (0 : Int32)))])) t → Steps p.tables e below (s₁.setTop (entryFrame m #[(.int p1), (.int p2), (.int p3)] maxLocals)) t := fun t kt => pre18 t (st19.trans kt)
          have N19 := Fr.app N0 N19q
          have hc149 : (r1 (39 : Int32) (0 : Int32) (0 : Int32)) = (0 : Int32) := by first | rfl | decide | (simp only [r1]; done) | (simp only [r1]; first | rfl | decide)
          have pre21 : ∀ t, Steps p.tables e below (T19.setTop (mkF m 157 #[.val (.int p1), .val (.int p2), .val (.int p3), .val (.int (0 : Int32)), .val (.ref s_STANDARD), .val (.int sel), .val (.int (39 : Int32)), .val (.int (0 : Int32)), .val (.int (0 : Int32))] [(.int (1 : Int32))])) t → Steps p.tables e below (s₁.setTop (entryFrame m #[(.int p1), (.int p2), (.int p3)] maxLocals)) t := fun t kt => by
            refine pre20 t ?_
            refine XS.iload X19.here hx rfl (hb hby at_147) rfl ?_
            show Steps p.tables e below (T19.setTop (mkF m 149 #[.val (.int p1), .val (.int p2), .val (.int p3), .val (.int (0 : Int32)), .val (.ref s_STANDARD), .val (.int sel), .val (.int (39 : Int32)), .val (.int (0 : Int32)), .val (.int (0 : Int32))] [(.int (0 : Int32)), (.int (r1 (39 : Int32) (0 : Int32) (0 : Int32)))])) _
            refine XS.icmpNo X19.here hx rfl (hb hby at_149) rfl (teq hc149).2 ?_
            show Steps p.tables e below (T19.setTop (mkF m 152 #[.val (.int p1), .val (.int p2), .val (.int p3), .val (.int (0 : Int32)), .val (.ref s_STANDARD), .val (.int sel), .val (.int (39 : Int32)), .val (.int (0 : Int32)), .val (.int (0 : Int32))] [])) _
            refine XS.iconst X19.here hx rfl (hb hby at_152) ?_
            show Steps p.tables e below (T19.setTop (mkF m 153 #[.val (.int p1), .val (.int p2), .val (.int p3), .val (.int (0 : Int32)), .val (.ref s_STANDARD), .val (.int sel), .val (.int (39 : Int32)), .val (.int (0 : Int32)), .val (.int (0 : Int32))] [(.int (1 : Int32))])) _
            refine XS.goto X19.here hx rfl (pc0 := 153) (pc' := 157) rfl (hb hby at_153) (by decide) (by decide) ?_
            show Steps p.tables e below (T19.setTop (mkF m 157 #[.val (.int p1), .val (.int p2), .val (.int p3), .val (.int (0 : Int32)), .val (.ref s_STANDARD), .val (.int sel), .val (.int (39 : Int32)), .val (.int (0 : Int32)), .val (.int (0 : Int32))] [(.int (1 : Int32))])) _
            exact kt
          obtain ⟨fs, hr, hrun, hended, hW, hsame⟩ := X19.leave (v := some (.int (1 : Int32))) (fun h => by rw [Bd.returns] at h; cases h)
          refine ⟨_, _, pre21 _ ?_, hrun, hended, _, _, rfl, ?_, ⟨_, rfl⟩, hW, hsame.mono (by decide) (by decide)⟩
          · exact retN X19 hx (t := .boolean) Bd.returns (by simp) (hb hby at_157) hr
          · show Q0 Z p1 p2 p3 s_STANDARD s_POSTGRESQL s_MARIADB s_MARIADB_ANSI_QUOTES h0 n0 _ T19.heap _
            rw [e19]
            exact ⟨rfl, N19⟩
        · skip
          by_cases hc119 : qq = (34 : Int32)
          · skip
            have pre22 : ∀ t, Steps p.tables e below (T3.setTop (mkF m 122 #[.val (.int p1), .val (.int p2), .val (.int p3), .val (.int (0 : Int32)), .val (.ref s_STANDARD), .val (.int sel), .val (.int qq), .val (.int (0 : Int32)), .unset] [])) t → Steps p.tables e below (s₁.setTop (entryFrame m #[(.int p1), (.int p2), (.int p3)] maxLocals)) t := fun t kt => by
              refine pre16 t ?_
              refine XS.iloadN X3.here hx rfl (hb hby at_84) rfl ?_
              show Steps p.tables e below (T3.setTop (mkF m 85 #[.val (.int p1), .val (.int p2), .val (.int p3), .val (.int (0 : Int32)), .val (.ref s_STANDARD), .val (.int sel), .val (.int qq), .unset, .unset] [(.int (0 : Int32))])) _
              refine XS.iconst X3.here hx rfl (hb hby at_85) ?_
              show Steps p.tables e below (T3.setTop (mkF m 86 #[.val (.int p1), .val (.int p2), .val (.int p3), .val (.int (0 : Int32)), .val (.ref s_STANDARD), .val (.int sel), .val (.int qq), .unset, .unset] [(.int (2 : Int32)), (.int (0 : Int32))])) _
              refine XS.icmpNo X3.here hx rfl (hb hby at_86) rfl (feq (by decide : ¬ ((0 : Int32) = (2 : Int32)))).1 ?_
              show Steps p.tables e below (T3.setTop (mkF m 89 #[.val (.int p1), .val (.int p2), .val (.int p3), .val (.int (0 : Int32)), .val (.ref s_STANDARD), .val (.int sel), .val (.int qq), .unset, .unset] [])) _
              refine XS.iloadN X3.here hx rfl (hb hby at_89) rfl ?_
              show Steps p.tables e below (T3.setTop (mkF m 90 #[.val (.int p1), .val (.int p2), .val (.int p3), .val (.int (0 : Int32)), .val (.ref s_STANDARD), .val (.int sel), .val (.int qq), .unset, .unset] [(.int (0 : Int32))])) _
              refine XS.iconst X3.here hx rfl (hb hby at_90) ?_
              show Steps p.tables e below (T3.setTop (mkF m 91 #[.val (.int p1), .val (.int p2), .val (.int p3), .val (.int (0 : Int32)), .val (.ref s_STANDARD), .val (.int sel), .val (.int qq), .unset, .unset] [(.int (3 : Int32)), (.int (0 : Int32))])) _
              refine XS.icmpYes X3.here hx rfl (pc0 := 91) (pc' := 98) rfl (hb hby at_91) rfl (feq (by decide : ¬ ((0 : Int32) = (3 : Int32)))).2 (by decide) (by decide) ?_
              show Steps p.tables e below (T3.setTop (mkF m 98 #[.val (.int p1), .val (.int p2), .val (.int p3), .val (.int (0 : Int32)), .val (.ref s_STANDARD), .val (.int sel), .val (.int qq), .unset, .unset] [])) _
              refine XS.iconst X3.here hx rfl (hb hby at_98) ?_
              show Steps p.tables e below (T3.setTop (mkF m 99 #[.val (.int p1), .val (.int p2), .val (.int p3), .val (.int (0 : Int32)), .val (.ref s_STANDARD), .val (.int sel), .val (.int qq), .unset, .unset] [(.int (0 : Int32))])) _
              refine XS.istore X3.here hx rfl (hb hby at_99) rfl (l' := #[.val (.int p1), .val (.int p2), .val (.int p3), .val (.int (0 : Int32)), .val (.ref s_STANDARD), .val (.int sel), .val (.int qq), .val (.int (0 : Int32)), .unset]) rfl ?_
              show Steps p.tables e below (T3.setTop (mkF m 101 #[.val (.int p1), .val (.int p2), .val (.int p3), .val (.int (0 : Int32)), .val (.ref s_STANDARD), .val (.int sel), .val (.int qq), .val (.int (0 : Int32)), .unset] [])) _
              refine XS.iload X3.here hx rfl (hb hby at_101) rfl ?_
              show Steps p.tables e below (T3.setTop (mkF m 103 #[.val (.int p1), .val (.int p2), .val (.int p3), .val (.int (0 : Int32)), .val (.ref s_STANDARD), .val (.int sel), .val (.int qq), .val (.int (0 : Int32)), .unset] [(.int qq)])) _
              refine XS.bipush X3.here hx rfl (hb hby at_103) ?_
              show Steps p.tables e below (T3.setTop (mkF m 105 #[.val (.int p1), .val (.int p2), .val (.int p3), .val (.int (0 : Int32)), .val (.ref s_STANDARD), .val (.int sel), .val (.int qq), .val (.int (0 : Int32)), .unset] [(.int (39 : Int32)), (.int qq)])) _
              refine XS.icmpYes X3.here hx rfl (pc0 := 105) (pc' := 115) rfl (hb hby at_105) rfl (feq hc105).2 (by decide) (by decide) ?_
              show Steps p.tables e below (T3.setTop (mkF m 115 #[.val (.int p1), .val (.int p2), .val (.int p3), .val (.int (0 : Int32)), .val (.ref s_STANDARD), .val (.int sel), .val (.int qq), .val (.int (0 : Int32)), .unset] [])) _
              refine XS.iload X3.here hx rfl (hb hby at_115) rfl ?_
              show Steps p.tables e below (T3.setTop (mkF m 117 #[.val (.int p1), .val (.int p2), .val (.int p3), .val (.int (0 : Int32)), .val (.ref s_STANDARD), .val (.int sel), .val (.int qq), .val (.int (0 : Int32)), .unset] [(.int qq)])) _
              refine XS.bipush X3.here hx rfl (hb hby at_117) ?_
              show Steps p.tables e below (T3.setTop (mkF m 119 #[.val (.int p1), .val (.int p2), .val (.int p3), .val (.int (0 : Int32)), .val (.ref s_STANDARD), .val (.int sel), .val (.int qq), .val (.int (0 : Int32)), .unset] [(.int (34 : Int32)), (.int qq)])) _
              refine XS.icmpNo X3.here hx rfl (hb hby at_119) rfl (teq hc119).2 ?_
              show Steps p.tables e below (T3.setTop (mkF m 122 #[.val (.int p1), .val (.int p2), .val (.int p3), .val (.int (0 : Int32)), .val (.ref s_STANDARD), .val (.int sel), .val (.int qq), .val (.int (0 : Int32)), .unset] [])) _
              exact kt
            subst hc119
            have pre23 : ∀ t, Steps p.tables e below (T3.setTop (mkF m 144 #[.val (.int p1), .val (.int p2), .val (.int p3), .val (.int (0 : Int32)), .val (.ref s_STANDARD), .val (.int sel), .val (.int (34 : Int32)), .val (.int (0 : Int32)), .val (.int (0 : Int32))] [(.int (34 : Int32)), (.ref s_STANDARD)])) t → Steps p.tables e below (s₁.setTop (entryFrame m #[(.int p1), (.int p2), (.int p3)] maxLocals)) t := fun t kt => by
              refine pre22 t ?_
              refine XS.iloadN X3.here hx rfl (hb hby at_122) rfl ?_
              show Steps p.tables e below (T3.setTop (mkF m 123 #[.val (.int p1), .val (.int p2), .val (.int p3), .val (.int (0 : Int32)), .val (.ref s_STANDARD), .val (.int sel), .val (.int (34 : Int32)), .val (.int (0 : Int32)), .unset] [(.int (0 : Int32))])) _
              refine XS.iconst X3.here hx rfl (hb hby at_123) ?_
              show Steps p.tables e below (T3.setTop (mkF m 124 #[.val (.int p1), .val (.int p2), .val (.int p3), .val (.int (0 : Int32)), .val (.ref s_STANDARD), .val (.int sel), .val (.int (34 : Int32)), .val (.int (0 : Int32)), .unset] [(.int (2 : Int32)), (.int (0 : Int32))])) _
              refine XS.icmpYes X3.here hx rfl (pc0 := 124) (pc' := 131) rfl (hb hby at_124) rfl (feq (by decide : ¬ ((0 : Int32) = (2 : Int32)))).2 (by decide) (by decide) ?_
              show Steps p.tables e below (T3.setTop (mkF m 131 #[.val (.int p1), .val (.int p2), .val (.int p3), .val (.int (0 : Int32)), .val (.ref s_STANDARD), .val (.int sel), .val (.int (34 : Int32)), .val (.int (0 : Int32)), .unset] [])) _
              refine XS.iconst X3.here hx rfl (hb hby at_131) ?_
              show Steps p.tables e below (T3.setTop (mkF m 132 #[.val (.int p1), .val (.int p2), .val (.int p3), .val (.int (0 : Int32)), .val (.ref s_STANDARD), .val (.int sel), .val (.int (34 : Int32)), .val (.int (0 : Int32)), .unset] [(.int (0 : Int32))])) _
              refine XS.istore X3.here hx rfl (hb hby at_132) rfl (l' := #[.val (.int p1), .val (.int p2), .val (.int p3), .val (.int (0 : Int32)), .val (.ref s_STANDARD), .val (.int sel), .val (.int (34 : Int32)), .val (.int (0 : Int32)), .val (.int (0 : Int32))]) rfl ?_
              show Steps p.tables e below (T3.setTop (mkF m 134 #[.val (.int p1), .val (.int p2), .val (.int p3), .val (.int (0 : Int32)), .val (.ref s_STANDARD), .val (.int sel), .val (.int (34 : Int32)), .val (.int (0 : Int32)), .val (.int (0 : Int32))] [])) _
              refine XS.goto X3.here hx rfl (pc0 := 134) (pc' := 140) rfl (hb hby at_134) (by decide) (by decide) ?_
              show Steps p.tables e below (T3.setTop (mkF m 140 #[.val (.int p1), .val (.int p2), .val (.int p3), .val (.int (0 : Int32)), .val (.ref s_STANDARD), .val (.int sel), .val (.int (34 : Int32)), .val (.int (0 : Int32)), .val (.int (0 : Int32))] [])) _
              refine XS.aload X3.here hx rfl (hb hby at_140) rfl rfl ?_
              show Steps p.tables e below (T3.setTop (mkF m 142 #[.val (.int p1), .val (.int p2), .val (.int p3), .val (.int (0 : Int32)), .val (.ref s_STANDARD), .val (.int sel), .val (.int (34 : Int32)), .val (.int (0 : Int32)), .val (.int (0 : Int32))] [(.ref s_STANDARD)])) _
              refine XS.iload X3.here hx rfl (hb hby at_142) rfl ?_
              show Steps p.tables e below (T3.setTop (mkF m 144 #[.val (.int p1), .val (.int p2), .val (.int p3), .val (.int (0 : Int32)), .val (.ref s_STANDARD), .val (.int sel), .val (.int (34 : Int32)), .val (.int (0 : Int32)), .val (.int (0 : Int32))] [(.int (34 : Int32)), (.ref s_STANDARD)])) _
              exact kt
            obtain ⟨cq24, kq24, q24a, q24b, q24c⟩ := isOf hZ e3 E_s_STANDARD
            obtain ⟨_, _, ⟨T24, L24, k24, n24⟩, -, X24, ⟨Lc24, hQ24, l24, y24, z24⟩, st24⟩ := X3.virtualBack hx (y := (⟨"com/example/ready_ledger/readyledger/jdbc/SqlDialect", "backslashEscapes", "(C)Z"⟩ : MethodName)) (z := (⟨"com/example/ready_ledger/readyledger/jdbc/SqlDialect", "backslashEscapes", "(C)Z"⟩ : MethodName)) hown (mvT hZ (hw _ (mgE 4 rfl))) (mvT hZ (hw _ (mgE 5 rfl))) (notFace_of_selects (args := #[]) (mvT hZ (hw _ (mgE 7 rfl)))) (mvT hZ (hw _ (mgE 7 rfl))) (mvT hZ (hw _ (mgE 6 rfl))) (by decide) (backOf (W := 0) (rm1 l Z a0 hw [] s_STANDARD (34 : Int32) (0 : Int32) (0 : Int32) h0 n0 Z0 F_backslashInSingleQuotes_s_STANDARD F_backslashInDoubleQuotes_s_STANDARD) hZ (hw _ (mgE 8 rfl)) (hw _ (mgE 1 rfl)) (by decide) (by decide)) q24a q24c (g := (mkF m 144 #[.val (.int p1), .val (.int p2), .val (.int p3), .val (.int (0 : Int32)), .val (.ref s_STANDARD), .val (.int sel), .val (.int (34 : Int32)), .val (.int (0 : Int32)), .val (.int (0 : Int32))] [(.int (34 : Int32)), (.ref s_STANDARD)])) rfl (by rw [hml]; rfl) (Steps.refl _) (argsL := [(.int (34 : Int32))]) (rest := []) (lenOf pd__C_Z rfl) rfl (by show 2 * 0 + _ ≤ _; exact Nat.le_of_eq rfl) (hb hby at_144) (fun _ _ => ⟨rfl, e3, (by decide : 0 + 0 ≤ _), (by decide : 0 + 0 ≤ _)⟩)
            dsimp only [Pt.U, Pt.locs, Pt.cells, Pt.slots] at X24 l24 y24 z24 st24 hQ24
            subst l24 y24 z24
            obtain ⟨rfl, N24q, e24⟩ := hQ24
            have pre25 : ∀ t, Steps p.tables e below (T24.setTop (mkF m 147 #[.val (.int p1), .val (.int p2), .val (.int p3), .val (.int (0 : Int32)), .val (.ref s_STANDARD), .val (.int sel), .val (.int (34 : Int32)), .val (.int (0 : Int32)), .val (.int (0 : Int32))] [(.int (r1 (34 : Int32) (0 : Int32) (0 : Int32)))])) t → Steps p.tables e below (s₁.setTop (entryFrame m #[(.int p1), (.int p2), (.int p3)] maxLocals)) t := fun t kt => pre23 t (st24.trans kt)
            have N24 := Fr.app N0 N24q
            have hc149 : (r1 (34 : Int32) (0 : Int32) (0 : Int32)) = (0 : Int32) := by first | rfl | decide | (simp only [r1, if_neg hc105]; done) | (simp only [r1, if_neg hc105]; first | rfl | decide)
            have pre26 : ∀ t, Steps p.tables e below (T24.setTop (mkF m 157 #[.val (.int p1), .val (.int p2), .val (.int p3), .val (.int (0 : Int32)), .val (.ref s_STANDARD), .val (.int sel), .val (.int (34 : Int32)), .val (.int (0 : Int32)), .val (.int (0 : Int32))] [(.int (1 : Int32))])) t → Steps p.tables e below (s₁.setTop (entryFrame m #[(.int p1), (.int p2), (.int p3)] maxLocals)) t := fun t kt => by
              refine pre25 t ?_
              refine XS.iload X24.here hx rfl (hb hby at_147) rfl ?_
              show Steps p.tables e below (T24.setTop (mkF m 149 #[.val (.int p1), .val (.int p2), .val (.int p3), .val (.int (0 : Int32)), .val (.ref s_STANDARD), .val (.int sel), .val (.int (34 : Int32)), .val (.int (0 : Int32)), .val (.int (0 : Int32))] [(.int (0 : Int32)), (.int (r1 (34 : Int32) (0 : Int32) (0 : Int32)))])) _
              refine XS.icmpNo X24.here hx rfl (hb hby at_149) rfl (teq hc149).2 ?_
              show Steps p.tables e below (T24.setTop (mkF m 152 #[.val (.int p1), .val (.int p2), .val (.int p3), .val (.int (0 : Int32)), .val (.ref s_STANDARD), .val (.int sel), .val (.int (34 : Int32)), .val (.int (0 : Int32)), .val (.int (0 : Int32))] [])) _
              refine XS.iconst X24.here hx rfl (hb hby at_152) ?_
              show Steps p.tables e below (T24.setTop (mkF m 153 #[.val (.int p1), .val (.int p2), .val (.int p3), .val (.int (0 : Int32)), .val (.ref s_STANDARD), .val (.int sel), .val (.int (34 : Int32)), .val (.int (0 : Int32)), .val (.int (0 : Int32))] [(.int (1 : Int32))])) _
              refine XS.goto X24.here hx rfl (pc0 := 153) (pc' := 157) rfl (hb hby at_153) (by decide) (by decide) ?_
              show Steps p.tables e below (T24.setTop (mkF m 157 #[.val (.int p1), .val (.int p2), .val (.int p3), .val (.int (0 : Int32)), .val (.ref s_STANDARD), .val (.int sel), .val (.int (34 : Int32)), .val (.int (0 : Int32)), .val (.int (0 : Int32))] [(.int (1 : Int32))])) _
              exact kt
            obtain ⟨fs, hr, hrun, hended, hW, hsame⟩ := X24.leave (v := some (.int (1 : Int32))) (fun h => by rw [Bd.returns] at h; cases h)
            refine ⟨_, _, pre26 _ ?_, hrun, hended, _, _, rfl, ?_, ⟨_, rfl⟩, hW, hsame.mono (by decide) (by decide)⟩
            · exact retN X24 hx (t := .boolean) Bd.returns (by simp) (hb hby at_157) hr
            · show Q0 Z p1 p2 p3 s_STANDARD s_POSTGRESQL s_MARIADB s_MARIADB_ANSI_QUOTES h0 n0 _ T24.heap _
              rw [e24]
              exact ⟨rfl, N24⟩
          · skip
            have pre27 : ∀ t, Steps p.tables e below (T3.setTop (mkF m 144 #[.val (.int p1), .val (.int p2), .val (.int p3), .val (.int (0 : Int32)), .val (.ref s_STANDARD), .val (.int sel), .val (.int qq), .val (.int (0 : Int32)), .val (.int (0 : Int32))] [(.int qq), (.ref s_STANDARD)])) t → Steps p.tables e below (s₁.setTop (entryFrame m #[(.int p1), (.int p2), (.int p3)] maxLocals)) t := fun t kt => by
              refine pre16 t ?_
              refine XS.iloadN X3.here hx rfl (hb hby at_84) rfl ?_
              show Steps p.tables e below (T3.setTop (mkF m 85 #[.val (.int p1), .val (.int p2), .val (.int p3), .val (.int (0 : Int32)), .val (.ref s_STANDARD), .val (.int sel), .val (.int qq), .unset, .unset] [(.int (0 : Int32))])) _
              refine XS.iconst X3.here hx rfl (hb hby at_85) ?_
              show Steps p.tables e below (T3.setTop (mkF m 86 #[.val (.int p1), .val (.int p2), .val (.int p3), .val (.int (0 : Int32)), .val (.ref s_STANDARD), .val (.int sel), .val (.int qq), .unset, .unset] [(.int (2 : Int32)), (.int (0 : Int32))])) _
              refine XS.icmpNo X3.here hx rfl (hb hby at_86) rfl (feq (by decide : ¬ ((0 : Int32) = (2 : Int32)))).1 ?_
              show Steps p.tables e below (T3.setTop (mkF m 89 #[.val (.int p1), .val (.int p2), .val (.int p3), .val (.int (0 : Int32)), .val (.ref s_STANDARD), .val (.int sel), .val (.int qq), .unset, .unset] [])) _
              refine XS.iloadN X3.here hx rfl (hb hby at_89) rfl ?_
              show Steps p.tables e below (T3.setTop (mkF m 90 #[.val (.int p1), .val (.int p2), .val (.int p3), .val (.int (0 : Int32)), .val (.ref s_STANDARD), .val (.int sel), .val (.int qq), .unset, .unset] [(.int (0 : Int32))])) _
              refine XS.iconst X3.here hx rfl (hb hby at_90) ?_
              show Steps p.tables e below (T3.setTop (mkF m 91 #[.val (.int p1), .val (.int p2), .val (.int p3), .val (.int (0 : Int32)), .val (.ref s_STANDARD), .val (.int sel), .val (.int qq), .unset, .unset] [(.int (3 : Int32)), (.int (0 : Int32))])) _
              refine XS.icmpYes X3.here hx rfl (pc0 := 91) (pc' := 98) rfl (hb hby at_91) rfl (feq (by decide : ¬ ((0 : Int32) = (3 : Int32)))).2 (by decide) (by decide) ?_
              show Steps p.tables e below (T3.setTop (mkF m 98 #[.val (.int p1), .val (.int p2), .val (.int p3), .val (.int (0 : Int32)), .val (.ref s_STANDARD), .val (.int sel), .val (.int qq), .unset, .unset] [])) _
              refine XS.iconst X3.here hx rfl (hb hby at_98) ?_
              show Steps p.tables e below (T3.setTop (mkF m 99 #[.val (.int p1), .val (.int p2), .val (.int p3), .val (.int (0 : Int32)), .val (.ref s_STANDARD), .val (.int sel), .val (.int qq), .unset, .unset] [(.int (0 : Int32))])) _
              refine XS.istore X3.here hx rfl (hb hby at_99) rfl (l' := #[.val (.int p1), .val (.int p2), .val (.int p3), .val (.int (0 : Int32)), .val (.ref s_STANDARD), .val (.int sel), .val (.int qq), .val (.int (0 : Int32)), .unset]) rfl ?_
              show Steps p.tables e below (T3.setTop (mkF m 101 #[.val (.int p1), .val (.int p2), .val (.int p3), .val (.int (0 : Int32)), .val (.ref s_STANDARD), .val (.int sel), .val (.int qq), .val (.int (0 : Int32)), .unset] [])) _
              refine XS.iload X3.here hx rfl (hb hby at_101) rfl ?_
              show Steps p.tables e below (T3.setTop (mkF m 103 #[.val (.int p1), .val (.int p2), .val (.int p3), .val (.int (0 : Int32)), .val (.ref s_STANDARD), .val (.int sel), .val (.int qq), .val (.int (0 : Int32)), .unset] [(.int qq)])) _
              refine XS.bipush X3.here hx rfl (hb hby at_103) ?_
              show Steps p.tables e below (T3.setTop (mkF m 105 #[.val (.int p1), .val (.int p2), .val (.int p3), .val (.int (0 : Int32)), .val (.ref s_STANDARD), .val (.int sel), .val (.int qq), .val (.int (0 : Int32)), .unset] [(.int (39 : Int32)), (.int qq)])) _
              refine XS.icmpYes X3.here hx rfl (pc0 := 105) (pc' := 115) rfl (hb hby at_105) rfl (feq hc105).2 (by decide) (by decide) ?_
              show Steps p.tables e below (T3.setTop (mkF m 115 #[.val (.int p1), .val (.int p2), .val (.int p3), .val (.int (0 : Int32)), .val (.ref s_STANDARD), .val (.int sel), .val (.int qq), .val (.int (0 : Int32)), .unset] [])) _
              refine XS.iload X3.here hx rfl (hb hby at_115) rfl ?_
              show Steps p.tables e below (T3.setTop (mkF m 117 #[.val (.int p1), .val (.int p2), .val (.int p3), .val (.int (0 : Int32)), .val (.ref s_STANDARD), .val (.int sel), .val (.int qq), .val (.int (0 : Int32)), .unset] [(.int qq)])) _
              refine XS.bipush X3.here hx rfl (hb hby at_117) ?_
              show Steps p.tables e below (T3.setTop (mkF m 119 #[.val (.int p1), .val (.int p2), .val (.int p3), .val (.int (0 : Int32)), .val (.ref s_STANDARD), .val (.int sel), .val (.int qq), .val (.int (0 : Int32)), .unset] [(.int (34 : Int32)), (.int qq)])) _
              refine XS.icmpYes X3.here hx rfl (pc0 := 119) (pc' := 137) rfl (hb hby at_119) rfl (feq hc119).2 (by decide) (by decide) ?_
              show Steps p.tables e below (T3.setTop (mkF m 137 #[.val (.int p1), .val (.int p2), .val (.int p3), .val (.int (0 : Int32)), .val (.ref s_STANDARD), .val (.int sel), .val (.int qq), .val (.int (0 : Int32)), .unset] [])) _
              refine XS.iconst X3.here hx rfl (hb hby at_137) ?_
              show Steps p.tables e below (T3.setTop (mkF m 138 #[.val (.int p1), .val (.int p2), .val (.int p3), .val (.int (0 : Int32)), .val (.ref s_STANDARD), .val (.int sel), .val (.int qq), .val (.int (0 : Int32)), .unset] [(.int (0 : Int32))])) _
              refine XS.istore X3.here hx rfl (hb hby at_138) rfl (l' := #[.val (.int p1), .val (.int p2), .val (.int p3), .val (.int (0 : Int32)), .val (.ref s_STANDARD), .val (.int sel), .val (.int qq), .val (.int (0 : Int32)), .val (.int (0 : Int32))]) rfl ?_
              show Steps p.tables e below (T3.setTop (mkF m 140 #[.val (.int p1), .val (.int p2), .val (.int p3), .val (.int (0 : Int32)), .val (.ref s_STANDARD), .val (.int sel), .val (.int qq), .val (.int (0 : Int32)), .val (.int (0 : Int32))] [])) _
              refine XS.aload X3.here hx rfl (hb hby at_140) rfl rfl ?_
              show Steps p.tables e below (T3.setTop (mkF m 142 #[.val (.int p1), .val (.int p2), .val (.int p3), .val (.int (0 : Int32)), .val (.ref s_STANDARD), .val (.int sel), .val (.int qq), .val (.int (0 : Int32)), .val (.int (0 : Int32))] [(.ref s_STANDARD)])) _
              refine XS.iload X3.here hx rfl (hb hby at_142) rfl ?_
              show Steps p.tables e below (T3.setTop (mkF m 144 #[.val (.int p1), .val (.int p2), .val (.int p3), .val (.int (0 : Int32)), .val (.ref s_STANDARD), .val (.int sel), .val (.int qq), .val (.int (0 : Int32)), .val (.int (0 : Int32))] [(.int qq), (.ref s_STANDARD)])) _
              exact kt
            obtain ⟨cq28, kq28, q28a, q28b, q28c⟩ := isOf hZ e3 E_s_STANDARD
            obtain ⟨_, _, ⟨T28, L28, k28, n28⟩, -, X28, ⟨Lc28, hQ28, l28, y28, z28⟩, st28⟩ := X3.virtualBack hx (y := (⟨"com/example/ready_ledger/readyledger/jdbc/SqlDialect", "backslashEscapes", "(C)Z"⟩ : MethodName)) (z := (⟨"com/example/ready_ledger/readyledger/jdbc/SqlDialect", "backslashEscapes", "(C)Z"⟩ : MethodName)) hown (mvT hZ (hw _ (mgE 4 rfl))) (mvT hZ (hw _ (mgE 5 rfl))) (notFace_of_selects (args := #[]) (mvT hZ (hw _ (mgE 7 rfl)))) (mvT hZ (hw _ (mgE 7 rfl))) (mvT hZ (hw _ (mgE 6 rfl))) (by decide) (backOf (W := 0) (rm1 l Z a0 hw [] s_STANDARD qq (0 : Int32) (0 : Int32) h0 n0 Z0 F_backslashInSingleQuotes_s_STANDARD F_backslashInDoubleQuotes_s_STANDARD) hZ (hw _ (mgE 8 rfl)) (hw _ (mgE 1 rfl)) (by decide) (by decide)) q28a q28c (g := (mkF m 144 #[.val (.int p1), .val (.int p2), .val (.int p3), .val (.int (0 : Int32)), .val (.ref s_STANDARD), .val (.int sel), .val (.int qq), .val (.int (0 : Int32)), .val (.int (0 : Int32))] [(.int qq), (.ref s_STANDARD)])) rfl (by rw [hml]; rfl) (Steps.refl _) (argsL := [(.int qq)]) (rest := []) (lenOf pd__C_Z rfl) rfl (by show 2 * 0 + _ ≤ _; exact Nat.le_of_eq rfl) (hb hby at_144) (fun _ _ => ⟨rfl, e3, (by decide : 0 + 0 ≤ _), (by decide : 0 + 0 ≤ _)⟩)
            dsimp only [Pt.U, Pt.locs, Pt.cells, Pt.slots] at X28 l28 y28 z28 st28 hQ28
            subst l28 y28 z28
            obtain ⟨rfl, N28q, e28⟩ := hQ28
            have pre29 : ∀ t, Steps p.tables e below (T28.setTop (mkF m 147 #[.val (.int p1), .val (.int p2), .val (.int p3), .val (.int (0 : Int32)), .val (.ref s_STANDARD), .val (.int sel), .val (.int qq), .val (.int (0 : Int32)), .val (.int (0 : Int32))] [(.int (r1 qq (0 : Int32) (0 : Int32)))])) t → Steps p.tables e below (s₁.setTop (entryFrame m #[(.int p1), (.int p2), (.int p3)] maxLocals)) t := fun t kt => pre27 t (st28.trans kt)
            have N28 := Fr.app N0 N28q
            have hc149 : (r1 qq (0 : Int32) (0 : Int32)) = (0 : Int32) := by first | rfl | decide | (simp only [r1, if_neg hc105, if_neg hc119]; done) | (simp only [r1, if_neg hc105, if_neg hc119]; first | rfl | decide)
            have pre30 : ∀ t, Steps p.tables e below (T28.setTop (mkF m 157 #[.val (.int p1), .val (.int p2), .val (.int p3), .val (.int (0 : Int32)), .val (.ref s_STANDARD), .val (.int sel), .val (.int qq), .val (.int (0 : Int32)), .val (.int (0 : Int32))] [(.int (1 : Int32))])) t → Steps p.tables e below (s₁.setTop (entryFrame m #[(.int p1), (.int p2), (.int p3)] maxLocals)) t := fun t kt => by
              refine pre29 t ?_
              refine XS.iload X28.here hx rfl (hb hby at_147) rfl ?_
              show Steps p.tables e below (T28.setTop (mkF m 149 #[.val (.int p1), .val (.int p2), .val (.int p3), .val (.int (0 : Int32)), .val (.ref s_STANDARD), .val (.int sel), .val (.int qq), .val (.int (0 : Int32)), .val (.int (0 : Int32))] [(.int (0 : Int32)), (.int (r1 qq (0 : Int32) (0 : Int32)))])) _
              refine XS.icmpNo X28.here hx rfl (hb hby at_149) rfl (teq hc149).2 ?_
              show Steps p.tables e below (T28.setTop (mkF m 152 #[.val (.int p1), .val (.int p2), .val (.int p3), .val (.int (0 : Int32)), .val (.ref s_STANDARD), .val (.int sel), .val (.int qq), .val (.int (0 : Int32)), .val (.int (0 : Int32))] [])) _
              refine XS.iconst X28.here hx rfl (hb hby at_152) ?_
              show Steps p.tables e below (T28.setTop (mkF m 153 #[.val (.int p1), .val (.int p2), .val (.int p3), .val (.int (0 : Int32)), .val (.ref s_STANDARD), .val (.int sel), .val (.int qq), .val (.int (0 : Int32)), .val (.int (0 : Int32))] [(.int (1 : Int32))])) _
              refine XS.goto X28.here hx rfl (pc0 := 153) (pc' := 157) rfl (hb hby at_153) (by decide) (by decide) ?_
              show Steps p.tables e below (T28.setTop (mkF m 157 #[.val (.int p1), .val (.int p2), .val (.int p3), .val (.int (0 : Int32)), .val (.ref s_STANDARD), .val (.int sel), .val (.int qq), .val (.int (0 : Int32)), .val (.int (0 : Int32))] [(.int (1 : Int32))])) _
              exact kt
            obtain ⟨fs, hr, hrun, hended, hW, hsame⟩ := X28.leave (v := some (.int (1 : Int32))) (fun h => by rw [Bd.returns] at h; cases h)
            refine ⟨_, _, pre30 _ ?_, hrun, hended, _, _, rfl, ?_, ⟨_, rfl⟩, hW, hsame.mono (by decide) (by decide)⟩
            · exact retN X28 hx (t := .boolean) Bd.returns (by simp) (hb hby at_157) hr
            · show Q0 Z p1 p2 p3 s_STANDARD s_POSTGRESQL s_MARIADB s_MARIADB_ANSI_QUOTES h0 n0 _ T28.heap _
              rw [e28]
              exact ⟨rfl, N28⟩
  · skip
    by_cases hc18 : dd = (1 : Int32)
    · skip
      have pre31 : ∀ t, Steps p.tables e below (s₁.setTop (mkF m 21 #[.val (.int p1), .val (.int p2), .val (.int p3), .val (.int dd), .unset, .unset, .unset, .unset, .unset] [])) t → Steps p.tables e below (s₁.setTop (entryFrame m #[(.int p1), (.int p2), (.int p3)] maxLocals)) t := fun t kt => by
        refine pre1 t ?_
        refine XS.iloadN X0.here hx rfl (hb hby at_4) rfl ?_
        show Steps p.tables e below (s₁.setTop (mkF m 5 #[.val (.int p1), .val (.int p2), .val (.int p3), .val (.int dd), .unset, .unset, .unset, .unset, .unset] [(.int dd)])) _
        refine XS.ifYes X0.here hx rfl (pc0 := 5) (pc' := 16) rfl (hb hby at_5) rfl ((if0 _ _).trans (feq hc5).2) (by decide) (by decide) ?_
        show Steps p.tables e below (s₁.setTop (mkF m 16 #[.val (.int p1), .val (.int p2), .val (.int p3), .val (.int dd), .unset, .unset, .unset, .unset, .unset] [])) _
        refine XS.iloadN X0.here hx rfl (hb hby at_16) rfl ?_
        show Steps p.tables e below (s₁.setTop (mkF m 17 #[.val (.int p1), .val (.int p2), .val (.int p3), .val (.int dd), .unset, .unset, .unset, .unset, .unset] [(.int dd)])) _
        refine XS.iconst X0.here hx rfl (hb hby at_17) ?_
        show Steps p.tables e below (s₁.setTop (mkF m 18 #[.val (.int p1), .val (.int p2), .val (.int p3), .val (.int dd), .unset, .unset, .unset, .unset, .unset] [(.int (1 : Int32)), (.int dd)])) _
        refine XS.icmpNo X0.here hx rfl (hb hby at_18) rfl (teq hc18).2 ?_
        show Steps p.tables e below (s₁.setTop (mkF m 21 #[.val (.int p1), .val (.int p2), .val (.int p3), .val (.int dd), .unset, .unset, .unset, .unset, .unset] [])) _
        exact kt
      subst hc18
      obtain ⟨T32, X32, e32, st32⟩ := getS2 X0 hx hZ hown (host := "") (Or.inl (hw _ (mgE 9 rfl))) Via.refl e0 S_POSTGRESQL (g := (mkF m 21 #[.val (.int p1), .val (.int p2), .val (.int p3), .val (.int (1 : Int32)), .unset, .unset, .unset, .unset, .unset] [])) rfl (hb hby at_21)
      have pre33 : ∀ t, Steps p.tables e below (T32.setTop (mkF m 24 #[.val (.int p1), .val (.int p2), .val (.int p3), .val (.int (1 : Int32)), .unset, .unset, .unset, .unset, .unset] [(.ref s_POSTGRESQL)])) t → Steps p.tables e below (s₁.setTop (entryFrame m #[(.int p1), (.int p2), (.int p3)] maxLocals)) t := fun t kt => pre31 t (st32 t kt)
      have pre34 : ∀ t, Steps p.tables e below (T32.setTop (mkF m 52 #[.val (.int p1), .val (.int p2), .val (.int p3), .val (.int (1 : Int32)), .val (.ref s_POSTGRESQL), .val (.int (p2 &&& (3 : Int32))), .unset, .unset, .unset] [])) t → Steps p.tables e below (s₁.setTop (entryFrame m #[(.int p1), (.int p2), (.int p3)] maxLocals)) t := fun t kt => by
        refine pre33 t ?_
        refine XS.astore X32.here hx rfl (hb hby at_24) rfl rfl (l' := #[.val (.int p1), .val (.int p2), .val (.int p3), .val (.int (1 : Int32)), .val (.ref s_POSTGRESQL), .unset, .unset, .unset, .unset]) rfl ?_
        show Steps p.tables e below (T32.setTop (mkF m 26 #[.val (.int p1), .val (.int p2), .val (.int p3), .val (.int (1 : Int32)), .val (.ref s_POSTGRESQL), .unset, .unset, .unset, .unset] [])) _
        refine XS.goto X32.here hx rfl (pc0 := 26) (pc' := 47) rfl (hb hby at_26) (by decide) (by decide) ?_
        show Steps p.tables e below (T32.setTop (mkF m 47 #[.val (.int p1), .val (.int p2), .val (.int p3), .val (.int (1 : Int32)), .val (.ref s_POSTGRESQL), .unset, .unset, .unset, .unset] [])) _
        refine XS.iloadN X32.here hx rfl (hb hby at_47) rfl ?_
        show Steps p.tables e below (T32.setTop (mkF m 48 #[.val (.int p1), .val (.int p2), .val (.int p3), .val (.int (1 : Int32)), .val (.ref s_POSTGRESQL), .unset, .unset, .unset, .unset] [(.int p2)])) _
        refine XS.iconst X32.here hx rfl (hb hby at_48) ?_
        show Steps p.tables e below (T32.setTop (mkF m 49 #[.val (.int p1), .val (.int p2), .val (.int p3), .val (.int (1 : Int32)), .val (.ref s_POSTGRESQL), .unset, .unset, .unset, .unset] [(.int (3 : Int32)), (.int p2)])) _
        refine XS.iand X32.here hx rfl (hb hby at_49) rfl ?_
        show Steps p.tables e below (T32.setTop (mkF m 50 #[.val (.int p1), .val (.int p2), .val (.int p3), .val (.int (1 : Int32)), .val (.ref s_POSTGRESQL), .unset, .unset, .unset, .unset] [(.int (p2 &&& (3 : Int32)))])) _
        refine XS.istore X32.here hx rfl (hb hby at_50) rfl (l' := #[.val (.int p1), .val (.int p2), .val (.int p3), .val (.int (1 : Int32)), .val (.ref s_POSTGRESQL), .val (.int (p2 &&& (3 : Int32))), .unset, .unset, .unset]) rfl ?_
        show Steps p.tables e below (T32.setTop (mkF m 52 #[.val (.int p1), .val (.int p2), .val (.int p3), .val (.int (1 : Int32)), .val (.ref s_POSTGRESQL), .val (.int (p2 &&& (3 : Int32))), .unset, .unset, .unset] [])) _
        exact kt
      obtain ⟨sel, h_sel⟩ : ∃ z, z = (p2 &&& (3 : Int32)) := ⟨_, rfl⟩
      rw [← h_sel] at pre34
      by_cases hc54 : sel = (0 : Int32)
      · skip
        have pre35 : ∀ t, Steps p.tables e below (T32.setTop (mkF m 57 #[.val (.int p1), .val (.int p2), .val (.int p3), .val (.int (1 : Int32)), .val (.ref s_POSTGRESQL), .val (.int sel), .unset, .unset, .unset] [])) t → Steps p.tables e below (s₁.setTop (entryFrame m #[(.int p1), (.int p2), (.int p3)] maxLocals)) t := fun t kt => by
          refine pre34 t ?_
          refine XS.iload X32.here hx rfl (hb hby at_52) rfl ?_
          show Steps p.tables e below (T32.setTop (mkF m 54 #[.val (.int p1), .val (.int p2), .val (.int p3), .val (.int (1 : Int32)), .val (.ref s_POSTGRESQL), .val (.int sel), .unset, .unset, .unset] [(.int sel)])) _
          refine XS.ifNo X32.here hx rfl (hb hby at_54) rfl ((if0 _ _).trans (teq hc54).2) ?_
          show Steps p.tables e below (T32.setTop (mkF m 57 #[.val (.int p1), .val (.int p2), .val (.int p3), .val (.int (1 : Int32)), .val (.ref s_POSTGRESQL), .val (.int sel), .unset, .unset, .unset] [])) _
          exact kt
        subst hc54
        have pre36 : ∀ t, Steps p.tables e below (T32.setTop (mkF m 144 #[.val (.int p1), .val (.int p2), .val (.int p3), .val (.int (1 : Int32)), .val (.ref s_POSTGRESQL), .val (.int (0 : Int32)), .val (.int (39 : Int32)), .val (.int (0 : Int32)), .val (.int (0 : Int32))] [(.int (39 : Int32)), (.ref s_POSTGRESQL)])) t → Steps p.tables e below (s₁.setTop (entryFrame m #[(.int p1), (.int p2), (.int p3)] maxLocals)) t := fun t kt => by
          refine pre35 t ?_
          refine XS.bipush X32.here hx rfl (hb hby at_57) ?_
          show Steps p.tables e below (T32.setTop (mkF m 59 #[.val (.int p1), .val (.int p2), .val (.int p3), .val (.int (1 : Int32)), .val (.ref s_POSTGRESQL), .val (.int (0 : Int32)), .unset, .unset, .unset] [(.int (39 : Int32))])) _
          refine XS.istore X32.here hx rfl (hb hby at_59) rfl (l' := #[.val (.int p1), .val (.int p2), .val (.int p3), .val (.int (1 : Int32)), .val (.ref s_POSTGRESQL), .val (.int (0 : Int32)), .val (.int (39 : Int32)), .unset, .unset]) rfl ?_
          show Steps p.tables e below (T32.setTop (mkF m 61 #[.val (.int p1), .val (.int p2), .val (.int p3), .val (.int (1 : Int32)), .val (.ref s_POSTGRESQL), .val (.int (0 : Int32)), .val (.int (39 : Int32)), .unset, .unset] [])) _
          refine XS.goto X32.here hx rfl (pc0 := 61) (pc' := 84) rfl (hb hby at_61) (by decide) (by decide) ?_
          show Steps p.tables e below (T32.setTop (mkF m 84 #[.val (.int p1), .val (.int p2), .val (.int p3), .val (.int (1 : Int32)), .val (.ref s_POSTGRESQL), .val (.int (0 : Int32)), .val (.int (39 : Int32)), .unset, .unset] [])) _
          refine XS.iloadN X32.here hx rfl (hb hby at_84) rfl ?_
          show Steps p.tables e below (T32.setTop (mkF m 85 #[.val (.int p1), .val (.int p2), .val (.int p3), .val (.int (1 : Int32)), .val (.ref s_POSTGRESQL), .val (.int (0 : Int32)), .val (.int (39 : Int32)), .unset, .unset] [(.int (1 : Int32))])) _
          refine XS.iconst X32.here hx rfl (hb hby at_85) ?_
          show Steps p.tables e below (T32.setTop (mkF m 86 #[.val (.int p1), .val (.int p2), .val (.int p3), .val (.int (1 : Int32)), .val (.ref s_POSTGRESQL), .val (.int (0 : Int32)), .val (.int (39 : Int32)), .unset, .unset] [(.int (2 : Int32)), (.int (1 : Int32))])) _
          refine XS.icmpNo X32.here hx rfl (hb hby at_86) rfl (feq (by decide : ¬ ((1 : Int32) = (2 : Int32)))).1 ?_
          show Steps p.tables e below (T32.setTop (mkF m 89 #[.val (.int p1), .val (.int p2), .val (.int p3), .val (.int (1 : Int32)), .val (.ref s_POSTGRESQL), .val (.int (0 : Int32)), .val (.int (39 : Int32)), .unset, .unset] [])) _
          refine XS.iloadN X32.here hx rfl (hb hby at_89) rfl ?_
          show Steps p.tables e below (T32.setTop (mkF m 90 #[.val (.int p1), .val (.int p2), .val (.int p3), .val (.int (1 : Int32)), .val (.ref s_POSTGRESQL), .val (.int (0 : Int32)), .val (.int (39 : Int32)), .unset, .unset] [(.int (1 : Int32))])) _
          refine XS.iconst X32.here hx rfl (hb hby at_90) ?_
          show Steps p.tables e below (T32.setTop (mkF m 91 #[.val (.int p1), .val (.int p2), .val (.int p3), .val (.int (1 : Int32)), .val (.ref s_POSTGRESQL), .val (.int (0 : Int32)), .val (.int (39 : Int32)), .unset, .unset] [(.int (3 : Int32)), (.int (1 : Int32))])) _
          refine XS.icmpYes X32.here hx rfl (pc0 := 91) (pc' := 98) rfl (hb hby at_91) rfl (feq (by decide : ¬ ((1 : Int32) = (3 : Int32)))).2 (by decide) (by decide) ?_
          show Steps p.tables e below (T32.setTop (mkF m 98 #[.val (.int p1), .val (.int p2), .val (.int p3), .val (.int (1 : Int32)), .val (.ref s_POSTGRESQL), .val (.int (0 : Int32)), .val (.int (39 : Int32)), .unset, .unset] [])) _
          refine XS.iconst X32.here hx rfl (hb hby at_98) ?_
          show Steps p.tables e below (T32.setTop (mkF m 99 #[.val (.int p1), .val (.int p2), .val (.int p3), .val (.int (1 : Int32)), .val (.ref s_POSTGRESQL), .val (.int (0 : Int32)), .val (.int (39 : Int32)), .unset, .unset] [(.int (0 : Int32))])) _
          refine XS.istore X32.here hx rfl (hb hby at_99) rfl (l' := #[.val (.int p1), .val (.int p2), .val (.int p3), .val (.int (1 : Int32)), .val (.ref s_POSTGRESQL), .val (.int (0 : Int32)), .val (.int (39 : Int32)), .val (.int (0 : Int32)), .unset]) rfl ?_
          show Steps p.tables e below (T32.setTop (mkF m 101 #[.val (.int p1), .val (.int p2), .val (.int p3), .val (.int (1 : Int32)), .val (.ref s_POSTGRESQL), .val (.int (0 : Int32)), .val (.int (39 : Int32)), .val (.int (0 : Int32)), .unset] [])) _
          refine XS.iload X32.here hx rfl (hb hby at_101) rfl ?_
          show Steps p.tables e below (T32.setTop (mkF m 103 #[.val (.int p1), .val (.int p2), .val (.int p3), .val (.int (1 : Int32)), .val (.ref s_POSTGRESQL), .val (.int (0 : Int32)), .val (.int (39 : Int32)), .val (.int (0 : Int32)), .unset] [(.int (39 : Int32))])) _
          refine XS.bipush X32.here hx rfl (hb hby at_103) ?_
          show Steps p.tables e below (T32.setTop (mkF m 105 #[.val (.int p1), .val (.int p2), .val (.int p3), .val (.int (1 : Int32)), .val (.ref s_POSTGRESQL), .val (.int (0 : Int32)), .val (.int (39 : Int32)), .val (.int (0 : Int32)), .unset] [(.int (39 : Int32)), (.int (39 : Int32))])) _
          refine XS.icmpNo X32.here hx rfl (hb hby at_105) rfl (teq (by decide : (39 : Int32) = (39 : Int32))).2 ?_
          show Steps p.tables e below (T32.setTop (mkF m 108 #[.val (.int p1), .val (.int p2), .val (.int p3), .val (.int (1 : Int32)), .val (.ref s_POSTGRESQL), .val (.int (0 : Int32)), .val (.int (39 : Int32)), .val (.int (0 : Int32)), .unset] [])) _
          refine XS.iload X32.here hx rfl (hb hby at_108) rfl ?_
          show Steps p.tables e below (T32.setTop (mkF m 110 #[.val (.int p1), .val (.int p2), .val (.int p3), .val (.int (1 : Int32)), .val (.ref s_POSTGRESQL), .val (.int (0 : Int32)), .val (.int (39 : Int32)), .val (.int (0 : Int32)), .unset] [(.int (0 : Int32))])) _
          refine XS.istore X32.here hx rfl (hb hby at_110) rfl (l' := #[.val (.int p1), .val (.int p2), .val (.int p3), .val (.int (1 : Int32)), .val (.ref s_POSTGRESQL), .val (.int (0 : Int32)), .val (.int (39 : Int32)), .val (.int (0 : Int32)), .val (.int (0 : Int32))]) rfl ?_
          show Steps p.tables e below (T32.setTop (mkF m 112 #[.val (.int p1), .val (.int p2), .val (.int p3), .val (.int (1 : Int32)), .val (.ref s_POSTGRESQL), .val (.int (0 : Int32)), .val (.int (39 : Int32)), .val (.int (0 : Int32)), .val (.int (0 : Int32))] [])) _
          refine XS.goto X32.here hx rfl (pc0 := 112) (pc' := 140) rfl (hb hby at_112) (by decide) (by decide) ?_
          show Steps p.tables e below (T32.setTop (mkF m 140 #[.val (.int p1), .val (.int p2), .val (.int p3), .val (.int (1 : Int32)), .val (.ref s_POSTGRESQL), .val (.int (0 : Int32)), .val (.int (39 : Int32)), .val (.int (0 : Int32)), .val (.int (0 : Int32))] [])) _
          refine XS.aload X32.here hx rfl (hb hby at_140) rfl rfl ?_
          show Steps p.tables e below (T32.setTop (mkF m 142 #[.val (.int p1), .val (.int p2), .val (.int p3), .val (.int (1 : Int32)), .val (.ref s_POSTGRESQL), .val (.int (0 : Int32)), .val (.int (39 : Int32)), .val (.int (0 : Int32)), .val (.int (0 : Int32))] [(.ref s_POSTGRESQL)])) _
          refine XS.iload X32.here hx rfl (hb hby at_142) rfl ?_
          show Steps p.tables e below (T32.setTop (mkF m 144 #[.val (.int p1), .val (.int p2), .val (.int p3), .val (.int (1 : Int32)), .val (.ref s_POSTGRESQL), .val (.int (0 : Int32)), .val (.int (39 : Int32)), .val (.int (0 : Int32)), .val (.int (0 : Int32))] [(.int (39 : Int32)), (.ref s_POSTGRESQL)])) _
          exact kt
        obtain ⟨cq37, kq37, q37a, q37b, q37c⟩ := isOf hZ e32 E_s_POSTGRESQL
        obtain ⟨_, _, ⟨T37, L37, k37, n37⟩, -, X37, ⟨Lc37, hQ37, l37, y37, z37⟩, st37⟩ := X32.virtualBack hx (y := (⟨"com/example/ready_ledger/readyledger/jdbc/SqlDialect", "backslashEscapes", "(C)Z"⟩ : MethodName)) (z := (⟨"com/example/ready_ledger/readyledger/jdbc/SqlDialect", "backslashEscapes", "(C)Z"⟩ : MethodName)) hown (mvT hZ (hw _ (mgE 4 rfl))) (mvT hZ (hw _ (mgE 5 rfl))) (notFace_of_selects (args := #[]) (mvT hZ (hw _ (mgE 7 rfl)))) (mvT hZ (hw _ (mgE 7 rfl))) (mvT hZ (hw _ (mgE 6 rfl))) (by decide) (backOf (W := 0) (rm1 l Z a0 hw [] s_POSTGRESQL (39 : Int32) (0 : Int32) (0 : Int32) h0 n0 Z0 F_backslashInSingleQuotes_s_POSTGRESQL F_backslashInDoubleQuotes_s_POSTGRESQL) hZ (hw _ (mgE 8 rfl)) (hw _ (mgE 1 rfl)) (by decide) (by decide)) q37a q37c (g := (mkF m 144 #[.val (.int p1), .val (.int p2), .val (.int p3), .val (.int (1 : Int32)), .val (.ref s_POSTGRESQL), .val (.int (0 : Int32)), .val (.int (39 : Int32)), .val (.int (0 : Int32)), .val (.int (0 : Int32))] [(.int (39 : Int32)), (.ref s_POSTGRESQL)])) rfl (by rw [hml]; rfl) (Steps.refl _) (argsL := [(.int (39 : Int32))]) (rest := []) (lenOf pd__C_Z rfl) rfl (by show 2 * 0 + _ ≤ _; exact Nat.le_of_eq rfl) (hb hby at_144) (fun _ _ => ⟨rfl, e32, (by decide : 0 + 0 ≤ _), (by decide : 0 + 0 ≤ _)⟩)
        dsimp only [Pt.U, Pt.locs, Pt.cells, Pt.slots] at X37 l37 y37 z37 st37 hQ37
        subst l37 y37 z37
        obtain ⟨rfl, N37q, e37⟩ := hQ37
        have pre38 : ∀ t, Steps p.tables e below (T37.setTop (mkF m 147 #[.val (.int p1), .val (.int p2), .val (.int p3), .val (.int (1 : Int32)), .val (.ref s_POSTGRESQL), .val (.int (0 : Int32)), .val (.int (39 : Int32)), .val (.int (0 : Int32)), .val (.int (0 : Int32))] [(.int (r1 (39 : Int32) (0 : Int32) (0 : Int32)))])) t → Steps p.tables e below (s₁.setTop (entryFrame m #[(.int p1), (.int p2), (.int p3)] maxLocals)) t := fun t kt => pre36 t (st37.trans kt)
        have N37 := Fr.app N0 N37q
        have hc149 : (r1 (39 : Int32) (0 : Int32) (0 : Int32)) = (0 : Int32) := by first | rfl | decide | (simp only [r1]; done) | (simp only [r1]; first | rfl | decide)
        have pre39 : ∀ t, Steps p.tables e below (T37.setTop (mkF m 157 #[.val (.int p1), .val (.int p2), .val (.int p3), .val (.int (1 : Int32)), .val (.ref s_POSTGRESQL), .val (.int (0 : Int32)), .val (.int (39 : Int32)), .val (.int (0 : Int32)), .val (.int (0 : Int32))] [(.int (1 : Int32))])) t → Steps p.tables e below (s₁.setTop (entryFrame m #[(.int p1), (.int p2), (.int p3)] maxLocals)) t := fun t kt => by
          refine pre38 t ?_
          refine XS.iload X37.here hx rfl (hb hby at_147) rfl ?_
          show Steps p.tables e below (T37.setTop (mkF m 149 #[.val (.int p1), .val (.int p2), .val (.int p3), .val (.int (1 : Int32)), .val (.ref s_POSTGRESQL), .val (.int (0 : Int32)), .val (.int (39 : Int32)), .val (.int (0 : Int32)), .val (.int (0 : Int32))] [(.int (0 : Int32)), (.int (r1 (39 : Int32) (0 : Int32) (0 : Int32)))])) _
          refine XS.icmpNo X37.here hx rfl (hb hby at_149) rfl (teq hc149).2 ?_
          show Steps p.tables e below (T37.setTop (mkF m 152 #[.val (.int p1), .val (.int p2), .val (.int p3), .val (.int (1 : Int32)), .val (.ref s_POSTGRESQL), .val (.int (0 : Int32)), .val (.int (39 : Int32)), .val (.int (0 : Int32)), .val (.int (0 : Int32))] [])) _
          refine XS.iconst X37.here hx rfl (hb hby at_152) ?_
          show Steps p.tables e below (T37.setTop (mkF m 153 #[.val (.int p1), .val (.int p2), .val (.int p3), .val (.int (1 : Int32)), .val (.ref s_POSTGRESQL), .val (.int (0 : Int32)), .val (.int (39 : Int32)), .val (.int (0 : Int32)), .val (.int (0 : Int32))] [(.int (1 : Int32))])) _
          refine XS.goto X37.here hx rfl (pc0 := 153) (pc' := 157) rfl (hb hby at_153) (by decide) (by decide) ?_
          show Steps p.tables e below (T37.setTop (mkF m 157 #[.val (.int p1), .val (.int p2), .val (.int p3), .val (.int (1 : Int32)), .val (.ref s_POSTGRESQL), .val (.int (0 : Int32)), .val (.int (39 : Int32)), .val (.int (0 : Int32)), .val (.int (0 : Int32))] [(.int (1 : Int32))])) _
          exact kt
        obtain ⟨fs, hr, hrun, hended, hW, hsame⟩ := X37.leave (v := some (.int (1 : Int32))) (fun h => by rw [Bd.returns] at h; cases h)
        refine ⟨_, _, pre39 _ ?_, hrun, hended, _, _, rfl, ?_, ⟨_, rfl⟩, hW, hsame.mono (by decide) (by decide)⟩
        · exact retN X37 hx (t := .boolean) Bd.returns (by simp) (hb hby at_157) hr
        · show Q0 Z p1 p2 p3 s_STANDARD s_POSTGRESQL s_MARIADB s_MARIADB_ANSI_QUOTES h0 n0 _ T37.heap _
          rw [e37]
          exact ⟨rfl, N37⟩
      · skip
        by_cases hc67 : sel = (1 : Int32)
        · skip
          have pre40 : ∀ t, Steps p.tables e below (T32.setTop (mkF m 70 #[.val (.int p1), .val (.int p2), .val (.int p3), .val (.int (1 : Int32)), .val (.ref s_POSTGRESQL), .val (.int sel), .unset, .unset, .unset] [])) t → Steps p.tables e below (s₁.setTop (entryFrame m #[(.int p1), (.int p2), (.int p3)] maxLocals)) t := fun t kt => by
            refine pre34 t ?_
            refine XS.iload X32.here hx rfl (hb hby at_52) rfl ?_
            show Steps p.tables e below (T32.setTop (mkF m 54 #[.val (.int p1), .val (.int p2), .val (.int p3), .val (.int (1 : Int32)), .val (.ref s_POSTGRESQL), .val (.int sel), .unset, .unset, .unset] [(.int sel)])) _
            refine XS.ifYes X32.here hx rfl (pc0 := 54) (pc' := 64) rfl (hb hby at_54) rfl ((if0 _ _).trans (feq hc54).2) (by decide) (by decide) ?_
            show Steps p.tables e below (T32.setTop (mkF m 64 #[.val (.int p1), .val (.int p2), .val (.int p3), .val (.int (1 : Int32)), .val (.ref s_POSTGRESQL), .val (.int sel), .unset, .unset, .unset] [])) _
            refine XS.iload X32.here hx rfl (hb hby at_64) rfl ?_
            show Steps p.tables e below (T32.setTop (mkF m 66 #[.val (.int p1), .val (.int p2), .val (.int p3), .val (.int (1 : Int32)), .val (.ref s_POSTGRESQL), .val (.int sel), .unset, .unset, .unset] [(.int sel)])) _
            refine XS.iconst X32.here hx rfl (hb hby at_66) ?_
            show Steps p.tables e below (T32.setTop (mkF m 67 #[.val (.int p1), .val (.int p2), .val (.int p3), .val (.int (1 : Int32)), .val (.ref s_POSTGRESQL), .val (.int sel), .unset, .unset, .unset] [(.int (1 : Int32)), (.int sel)])) _
            refine XS.icmpNo X32.here hx rfl (hb hby at_67) rfl (teq hc67).2 ?_
            show Steps p.tables e below (T32.setTop (mkF m 70 #[.val (.int p1), .val (.int p2), .val (.int p3), .val (.int (1 : Int32)), .val (.ref s_POSTGRESQL), .val (.int sel), .unset, .unset, .unset] [])) _
            exact kt
          subst hc67
          have pre41 : ∀ t, Steps p.tables e below (T32.setTop (mkF m 144 #[.val (.int p1), .val (.int p2), .val (.int p3), .val (.int (1 : Int32)), .val (.ref s_POSTGRESQL), .val (.int (1 : Int32)), .val (.int (34 : Int32)), .val (.int (0 : Int32)), .val (.int (0 : Int32))] [(.int (34 : Int32)), (.ref s_POSTGRESQL)])) t → Steps p.tables e below (s₁.setTop (entryFrame m #[(.int p1), (.int p2), (.int p3)] maxLocals)) t := fun t kt => by
            refine pre40 t ?_
            refine XS.bipush X32.here hx rfl (hb hby at_70) ?_
            show Steps p.tables e below (T32.setTop (mkF m 72 #[.val (.int p1), .val (.int p2), .val (.int p3), .val (.int (1 : Int32)), .val (.ref s_POSTGRESQL), .val (.int (1 : Int32)), .unset, .unset, .unset] [(.int (34 : Int32))])) _
            refine XS.istore X32.here hx rfl (hb hby at_72) rfl (l' := #[.val (.int p1), .val (.int p2), .val (.int p3), .val (.int (1 : Int32)), .val (.ref s_POSTGRESQL), .val (.int (1 : Int32)), .val (.int (34 : Int32)), .unset, .unset]) rfl ?_
            show Steps p.tables e below (T32.setTop (mkF m 74 #[.val (.int p1), .val (.int p2), .val (.int p3), .val (.int (1 : Int32)), .val (.ref s_POSTGRESQL), .val (.int (1 : Int32)), .val (.int (34 : Int32)), .unset, .unset] [])) _
            refine XS.goto X32.here hx rfl (pc0 := 74) (pc' := 84) rfl (hb hby at_74) (by decide) (by decide) ?_
            show Steps p.tables e below (T32.setTop (mkF m 84 #[.val (.int p1), .val (.int p2), .val (.int p3), .val (.int (1 : Int32)), .val (.ref s_POSTGRESQL), .val (.int (1 : Int32)), .val (.int (34 : Int32)), .unset, .unset] [])) _
            refine XS.iloadN X32.here hx rfl (hb hby at_84) rfl ?_
            show Steps p.tables e below (T32.setTop (mkF m 85 #[.val (.int p1), .val (.int p2), .val (.int p3), .val (.int (1 : Int32)), .val (.ref s_POSTGRESQL), .val (.int (1 : Int32)), .val (.int (34 : Int32)), .unset, .unset] [(.int (1 : Int32))])) _
            refine XS.iconst X32.here hx rfl (hb hby at_85) ?_
            show Steps p.tables e below (T32.setTop (mkF m 86 #[.val (.int p1), .val (.int p2), .val (.int p3), .val (.int (1 : Int32)), .val (.ref s_POSTGRESQL), .val (.int (1 : Int32)), .val (.int (34 : Int32)), .unset, .unset] [(.int (2 : Int32)), (.int (1 : Int32))])) _
            refine XS.icmpNo X32.here hx rfl (hb hby at_86) rfl (feq (by decide : ¬ ((1 : Int32) = (2 : Int32)))).1 ?_
            show Steps p.tables e below (T32.setTop (mkF m 89 #[.val (.int p1), .val (.int p2), .val (.int p3), .val (.int (1 : Int32)), .val (.ref s_POSTGRESQL), .val (.int (1 : Int32)), .val (.int (34 : Int32)), .unset, .unset] [])) _
            refine XS.iloadN X32.here hx rfl (hb hby at_89) rfl ?_
            show Steps p.tables e below (T32.setTop (mkF m 90 #[.val (.int p1), .val (.int p2), .val (.int p3), .val (.int (1 : Int32)), .val (.ref s_POSTGRESQL), .val (.int (1 : Int32)), .val (.int (34 : Int32)), .unset, .unset] [(.int (1 : Int32))])) _
            refine XS.iconst X32.here hx rfl (hb hby at_90) ?_
            show Steps p.tables e below (T32.setTop (mkF m 91 #[.val (.int p1), .val (.int p2), .val (.int p3), .val (.int (1 : Int32)), .val (.ref s_POSTGRESQL), .val (.int (1 : Int32)), .val (.int (34 : Int32)), .unset, .unset] [(.int (3 : Int32)), (.int (1 : Int32))])) _
            refine XS.icmpYes X32.here hx rfl (pc0 := 91) (pc' := 98) rfl (hb hby at_91) rfl (feq (by decide : ¬ ((1 : Int32) = (3 : Int32)))).2 (by decide) (by decide) ?_
            show Steps p.tables e below (T32.setTop (mkF m 98 #[.val (.int p1), .val (.int p2), .val (.int p3), .val (.int (1 : Int32)), .val (.ref s_POSTGRESQL), .val (.int (1 : Int32)), .val (.int (34 : Int32)), .unset, .unset] [])) _
            refine XS.iconst X32.here hx rfl (hb hby at_98) ?_
            show Steps p.tables e below (T32.setTop (mkF m 99 #[.val (.int p1), .val (.int p2), .val (.int p3), .val (.int (1 : Int32)), .val (.ref s_POSTGRESQL), .val (.int (1 : Int32)), .val (.int (34 : Int32)), .unset, .unset] [(.int (0 : Int32))])) _
            refine XS.istore X32.here hx rfl (hb hby at_99) rfl (l' := #[.val (.int p1), .val (.int p2), .val (.int p3), .val (.int (1 : Int32)), .val (.ref s_POSTGRESQL), .val (.int (1 : Int32)), .val (.int (34 : Int32)), .val (.int (0 : Int32)), .unset]) rfl ?_
            show Steps p.tables e below (T32.setTop (mkF m 101 #[.val (.int p1), .val (.int p2), .val (.int p3), .val (.int (1 : Int32)), .val (.ref s_POSTGRESQL), .val (.int (1 : Int32)), .val (.int (34 : Int32)), .val (.int (0 : Int32)), .unset] [])) _
            refine XS.iload X32.here hx rfl (hb hby at_101) rfl ?_
            show Steps p.tables e below (T32.setTop (mkF m 103 #[.val (.int p1), .val (.int p2), .val (.int p3), .val (.int (1 : Int32)), .val (.ref s_POSTGRESQL), .val (.int (1 : Int32)), .val (.int (34 : Int32)), .val (.int (0 : Int32)), .unset] [(.int (34 : Int32))])) _
            refine XS.bipush X32.here hx rfl (hb hby at_103) ?_
            show Steps p.tables e below (T32.setTop (mkF m 105 #[.val (.int p1), .val (.int p2), .val (.int p3), .val (.int (1 : Int32)), .val (.ref s_POSTGRESQL), .val (.int (1 : Int32)), .val (.int (34 : Int32)), .val (.int (0 : Int32)), .unset] [(.int (39 : Int32)), (.int (34 : Int32))])) _
            refine XS.icmpYes X32.here hx rfl (pc0 := 105) (pc' := 115) rfl (hb hby at_105) rfl (feq (by decide : ¬ ((34 : Int32) = (39 : Int32)))).2 (by decide) (by decide) ?_
            show Steps p.tables e below (T32.setTop (mkF m 115 #[.val (.int p1), .val (.int p2), .val (.int p3), .val (.int (1 : Int32)), .val (.ref s_POSTGRESQL), .val (.int (1 : Int32)), .val (.int (34 : Int32)), .val (.int (0 : Int32)), .unset] [])) _
            refine XS.iload X32.here hx rfl (hb hby at_115) rfl ?_
            show Steps p.tables e below (T32.setTop (mkF m 117 #[.val (.int p1), .val (.int p2), .val (.int p3), .val (.int (1 : Int32)), .val (.ref s_POSTGRESQL), .val (.int (1 : Int32)), .val (.int (34 : Int32)), .val (.int (0 : Int32)), .unset] [(.int (34 : Int32))])) _
            refine XS.bipush X32.here hx rfl (hb hby at_117) ?_
            show Steps p.tables e below (T32.setTop (mkF m 119 #[.val (.int p1), .val (.int p2), .val (.int p3), .val (.int (1 : Int32)), .val (.ref s_POSTGRESQL), .val (.int (1 : Int32)), .val (.int (34 : Int32)), .val (.int (0 : Int32)), .unset] [(.int (34 : Int32)), (.int (34 : Int32))])) _
            refine XS.icmpNo X32.here hx rfl (hb hby at_119) rfl (teq (by decide : (34 : Int32) = (34 : Int32))).2 ?_
            show Steps p.tables e below (T32.setTop (mkF m 122 #[.val (.int p1), .val (.int p2), .val (.int p3), .val (.int (1 : Int32)), .val (.ref s_POSTGRESQL), .val (.int (1 : Int32)), .val (.int (34 : Int32)), .val (.int (0 : Int32)), .unset] [])) _
            refine XS.iloadN X32.here hx rfl (hb hby at_122) rfl ?_
            show Steps p.tables e below (T32.setTop (mkF m 123 #[.val (.int p1), .val (.int p2), .val (.int p3), .val (.int (1 : Int32)), .val (.ref s_POSTGRESQL), .val (.int (1 : Int32)), .val (.int (34 : Int32)), .val (.int (0 : Int32)), .unset] [(.int (1 : Int32))])) _
            refine XS.iconst X32.here hx rfl (hb hby at_123) ?_
            show Steps p.tables e below (T32.setTop (mkF m 124 #[.val (.int p1), .val (.int p2), .val (.int p3), .val (.int (1 : Int32)), .val (.ref s_POSTGRESQL), .val (.int (1 : Int32)), .val (.int (34 : Int32)), .val (.int (0 : Int32)), .unset] [(.int (2 : Int32)), (.int (1 : Int32))])) _
            refine XS.icmpYes X32.here hx rfl (pc0 := 124) (pc' := 131) rfl (hb hby at_124) rfl (feq (by decide : ¬ ((1 : Int32) = (2 : Int32)))).2 (by decide) (by decide) ?_
            show Steps p.tables e below (T32.setTop (mkF m 131 #[.val (.int p1), .val (.int p2), .val (.int p3), .val (.int (1 : Int32)), .val (.ref s_POSTGRESQL), .val (.int (1 : Int32)), .val (.int (34 : Int32)), .val (.int (0 : Int32)), .unset] [])) _
            refine XS.iconst X32.here hx rfl (hb hby at_131) ?_
            show Steps p.tables e below (T32.setTop (mkF m 132 #[.val (.int p1), .val (.int p2), .val (.int p3), .val (.int (1 : Int32)), .val (.ref s_POSTGRESQL), .val (.int (1 : Int32)), .val (.int (34 : Int32)), .val (.int (0 : Int32)), .unset] [(.int (0 : Int32))])) _
            refine XS.istore X32.here hx rfl (hb hby at_132) rfl (l' := #[.val (.int p1), .val (.int p2), .val (.int p3), .val (.int (1 : Int32)), .val (.ref s_POSTGRESQL), .val (.int (1 : Int32)), .val (.int (34 : Int32)), .val (.int (0 : Int32)), .val (.int (0 : Int32))]) rfl ?_
            show Steps p.tables e below (T32.setTop (mkF m 134 #[.val (.int p1), .val (.int p2), .val (.int p3), .val (.int (1 : Int32)), .val (.ref s_POSTGRESQL), .val (.int (1 : Int32)), .val (.int (34 : Int32)), .val (.int (0 : Int32)), .val (.int (0 : Int32))] [])) _
            refine XS.goto X32.here hx rfl (pc0 := 134) (pc' := 140) rfl (hb hby at_134) (by decide) (by decide) ?_
            show Steps p.tables e below (T32.setTop (mkF m 140 #[.val (.int p1), .val (.int p2), .val (.int p3), .val (.int (1 : Int32)), .val (.ref s_POSTGRESQL), .val (.int (1 : Int32)), .val (.int (34 : Int32)), .val (.int (0 : Int32)), .val (.int (0 : Int32))] [])) _
            refine XS.aload X32.here hx rfl (hb hby at_140) rfl rfl ?_
            show Steps p.tables e below (T32.setTop (mkF m 142 #[.val (.int p1), .val (.int p2), .val (.int p3), .val (.int (1 : Int32)), .val (.ref s_POSTGRESQL), .val (.int (1 : Int32)), .val (.int (34 : Int32)), .val (.int (0 : Int32)), .val (.int (0 : Int32))] [(.ref s_POSTGRESQL)])) _
            refine XS.iload X32.here hx rfl (hb hby at_142) rfl ?_
            show Steps p.tables e below (T32.setTop (mkF m 144 #[.val (.int p1), .val (.int p2), .val (.int p3), .val (.int (1 : Int32)), .val (.ref s_POSTGRESQL), .val (.int (1 : Int32)), .val (.int (34 : Int32)), .val (.int (0 : Int32)), .val (.int (0 : Int32))] [(.int (34 : Int32)), (.ref s_POSTGRESQL)])) _
            exact kt
          obtain ⟨cq42, kq42, q42a, q42b, q42c⟩ := isOf hZ e32 E_s_POSTGRESQL
          obtain ⟨_, _, ⟨T42, L42, k42, n42⟩, -, X42, ⟨Lc42, hQ42, l42, y42, z42⟩, st42⟩ := X32.virtualBack hx (y := (⟨"com/example/ready_ledger/readyledger/jdbc/SqlDialect", "backslashEscapes", "(C)Z"⟩ : MethodName)) (z := (⟨"com/example/ready_ledger/readyledger/jdbc/SqlDialect", "backslashEscapes", "(C)Z"⟩ : MethodName)) hown (mvT hZ (hw _ (mgE 4 rfl))) (mvT hZ (hw _ (mgE 5 rfl))) (notFace_of_selects (args := #[]) (mvT hZ (hw _ (mgE 7 rfl)))) (mvT hZ (hw _ (mgE 7 rfl))) (mvT hZ (hw _ (mgE 6 rfl))) (by decide) (backOf (W := 0) (rm1 l Z a0 hw [] s_POSTGRESQL (34 : Int32) (0 : Int32) (0 : Int32) h0 n0 Z0 F_backslashInSingleQuotes_s_POSTGRESQL F_backslashInDoubleQuotes_s_POSTGRESQL) hZ (hw _ (mgE 8 rfl)) (hw _ (mgE 1 rfl)) (by decide) (by decide)) q42a q42c (g := (mkF m 144 #[.val (.int p1), .val (.int p2), .val (.int p3), .val (.int (1 : Int32)), .val (.ref s_POSTGRESQL), .val (.int (1 : Int32)), .val (.int (34 : Int32)), .val (.int (0 : Int32)), .val (.int (0 : Int32))] [(.int (34 : Int32)), (.ref s_POSTGRESQL)])) rfl (by rw [hml]; rfl) (Steps.refl _) (argsL := [(.int (34 : Int32))]) (rest := []) (lenOf pd__C_Z rfl) rfl (by show 2 * 0 + _ ≤ _; exact Nat.le_of_eq rfl) (hb hby at_144) (fun _ _ => ⟨rfl, e32, (by decide : 0 + 0 ≤ _), (by decide : 0 + 0 ≤ _)⟩)
          dsimp only [Pt.U, Pt.locs, Pt.cells, Pt.slots] at X42 l42 y42 z42 st42 hQ42
          subst l42 y42 z42
          obtain ⟨rfl, N42q, e42⟩ := hQ42
          have pre43 : ∀ t, Steps p.tables e below (T42.setTop (mkF m 147 #[.val (.int p1), .val (.int p2), .val (.int p3), .val (.int (1 : Int32)), .val (.ref s_POSTGRESQL), .val (.int (1 : Int32)), .val (.int (34 : Int32)), .val (.int (0 : Int32)), .val (.int (0 : Int32))] [(.int (r1 (34 : Int32) (0 : Int32) (0 : Int32)))])) t → Steps p.tables e below (s₁.setTop (entryFrame m #[(.int p1), (.int p2), (.int p3)] maxLocals)) t := fun t kt => pre41 t (st42.trans kt)
          have N42 := Fr.app N0 N42q
          have hc149 : (r1 (34 : Int32) (0 : Int32) (0 : Int32)) = (0 : Int32) := by first | rfl | decide | (simp only [r1]; done) | (simp only [r1]; first | rfl | decide)
          have pre44 : ∀ t, Steps p.tables e below (T42.setTop (mkF m 157 #[.val (.int p1), .val (.int p2), .val (.int p3), .val (.int (1 : Int32)), .val (.ref s_POSTGRESQL), .val (.int (1 : Int32)), .val (.int (34 : Int32)), .val (.int (0 : Int32)), .val (.int (0 : Int32))] [(.int (1 : Int32))])) t → Steps p.tables e below (s₁.setTop (entryFrame m #[(.int p1), (.int p2), (.int p3)] maxLocals)) t := fun t kt => by
            refine pre43 t ?_
            refine XS.iload X42.here hx rfl (hb hby at_147) rfl ?_
            show Steps p.tables e below (T42.setTop (mkF m 149 #[.val (.int p1), .val (.int p2), .val (.int p3), .val (.int (1 : Int32)), .val (.ref s_POSTGRESQL), .val (.int (1 : Int32)), .val (.int (34 : Int32)), .val (.int (0 : Int32)), .val (.int (0 : Int32))] [(.int (0 : Int32)), (.int (r1 (34 : Int32) (0 : Int32) (0 : Int32)))])) _
            refine XS.icmpNo X42.here hx rfl (hb hby at_149) rfl (teq hc149).2 ?_
            show Steps p.tables e below (T42.setTop (mkF m 152 #[.val (.int p1), .val (.int p2), .val (.int p3), .val (.int (1 : Int32)), .val (.ref s_POSTGRESQL), .val (.int (1 : Int32)), .val (.int (34 : Int32)), .val (.int (0 : Int32)), .val (.int (0 : Int32))] [])) _
            refine XS.iconst X42.here hx rfl (hb hby at_152) ?_
            show Steps p.tables e below (T42.setTop (mkF m 153 #[.val (.int p1), .val (.int p2), .val (.int p3), .val (.int (1 : Int32)), .val (.ref s_POSTGRESQL), .val (.int (1 : Int32)), .val (.int (34 : Int32)), .val (.int (0 : Int32)), .val (.int (0 : Int32))] [(.int (1 : Int32))])) _
            refine XS.goto X42.here hx rfl (pc0 := 153) (pc' := 157) rfl (hb hby at_153) (by decide) (by decide) ?_
            show Steps p.tables e below (T42.setTop (mkF m 157 #[.val (.int p1), .val (.int p2), .val (.int p3), .val (.int (1 : Int32)), .val (.ref s_POSTGRESQL), .val (.int (1 : Int32)), .val (.int (34 : Int32)), .val (.int (0 : Int32)), .val (.int (0 : Int32))] [(.int (1 : Int32))])) _
            exact kt
          obtain ⟨fs, hr, hrun, hended, hW, hsame⟩ := X42.leave (v := some (.int (1 : Int32))) (fun h => by rw [Bd.returns] at h; cases h)
          refine ⟨_, _, pre44 _ ?_, hrun, hended, _, _, rfl, ?_, ⟨_, rfl⟩, hW, hsame.mono (by decide) (by decide)⟩
          · exact retN X42 hx (t := .boolean) Bd.returns (by simp) (hb hby at_157) hr
          · show Q0 Z p1 p2 p3 s_STANDARD s_POSTGRESQL s_MARIADB s_MARIADB_ANSI_QUOTES h0 n0 _ T42.heap _
            rw [e42]
            exact ⟨rfl, N42⟩
        · skip
          have pre45 : ∀ t, Steps p.tables e below (T32.setTop (mkF m 84 #[.val (.int p1), .val (.int p2), .val (.int p3), .val (.int (1 : Int32)), .val (.ref s_POSTGRESQL), .val (.int sel), .val (.int ((p3 &&& (65535 : Int32)).toUInt32.toUInt16.toUInt32.toInt32)), .unset, .unset] [])) t → Steps p.tables e below (s₁.setTop (entryFrame m #[(.int p1), (.int p2), (.int p3)] maxLocals)) t := fun t kt => by
            refine pre34 t ?_
            refine XS.iload X32.here hx rfl (hb hby at_52) rfl ?_
            show Steps p.tables e below (T32.setTop (mkF m 54 #[.val (.int p1), .val (.int p2), .val (.int p3), .val (.int (1 : Int32)), .val (.ref s_POSTGRESQL), .val (.int sel), .unset, .unset, .unset] [(.int sel)])) _
            refine XS.ifYes X32.here hx rfl (pc0 := 54) (pc' := 64) rfl (hb hby at_54) rfl ((if0 _ _).trans (feq hc54).2) (by decide) (by decide) ?_
            show Steps p.tables e below (T32.setTop (mkF m 64 #[.val (.int p1), .val (.int p2), .val (.int p3), .val (.int (1 : Int32)), .val (.ref s_POSTGRESQL), .val (.int sel), .unset, .unset, .unset] [])) _
            refine XS.iload X32.here hx rfl (hb hby at_64) rfl ?_
            show Steps p.tables e below (T32.setTop (mkF m 66 #[.val (.int p1), .val (.int p2), .val (.int p3), .val (.int (1 : Int32)), .val (.ref s_POSTGRESQL), .val (.int sel), .unset, .unset, .unset] [(.int sel)])) _
            refine XS.iconst X32.here hx rfl (hb hby at_66) ?_
            show Steps p.tables e below (T32.setTop (mkF m 67 #[.val (.int p1), .val (.int p2), .val (.int p3), .val (.int (1 : Int32)), .val (.ref s_POSTGRESQL), .val (.int sel), .unset, .unset, .unset] [(.int (1 : Int32)), (.int sel)])) _
            refine XS.icmpYes X32.here hx rfl (pc0 := 67) (pc' := 77) rfl (hb hby at_67) rfl (feq hc67).2 (by decide) (by decide) ?_
            show Steps p.tables e below (T32.setTop (mkF m 77 #[.val (.int p1), .val (.int p2), .val (.int p3), .val (.int (1 : Int32)), .val (.ref s_POSTGRESQL), .val (.int sel), .unset, .unset, .unset] [])) _
            refine XS.iloadN X32.here hx rfl (hb hby at_77) rfl ?_
            show Steps p.tables e below (T32.setTop (mkF m 78 #[.val (.int p1), .val (.int p2), .val (.int p3), .val (.int (1 : Int32)), .val (.ref s_POSTGRESQL), .val (.int sel), .unset, .unset, .unset] [(.int p3)])) _
            refine X32.ldcInt hx hown (mvT hZ (hw _ (mgE 3 rfl))) (g := (mkF m 78 #[.val (.int p1), .val (.int p2), .val (.int p3), .val (.int (1 : Int32)), .val (.ref s_POSTGRESQL), .val (.int sel), .unset, .unset, .unset] [(.int p3)])) rfl (hb hby at_78) _ ?_
            show Steps p.tables e below (T32.setTop (mkF m 80 #[.val (.int p1), .val (.int p2), .val (.int p3), .val (.int (1 : Int32)), .val (.ref s_POSTGRESQL), .val (.int sel), .unset, .unset, .unset] [(.int (65535 : Int32)), (.int p3)])) _
            refine XS.iand X32.here hx rfl (hb hby at_80) rfl ?_
            show Steps p.tables e below (T32.setTop (mkF m 81 #[.val (.int p1), .val (.int p2), .val (.int p3), .val (.int (1 : Int32)), .val (.ref s_POSTGRESQL), .val (.int sel), .unset, .unset, .unset] [(.int (p3 &&& (65535 : Int32)))])) _
            refine XS.i2c X32.here hx rfl (hb hby at_81) rfl ?_
            show Steps p.tables e below (T32.setTop (mkF m 82 #[.val (.int p1), .val (.int p2), .val (.int p3), .val (.int (1 : Int32)), .val (.ref s_POSTGRESQL), .val (.int sel), .unset, .unset, .unset] [(.int ((p3 &&& (65535 : Int32)).toUInt32.toUInt16.toUInt32.toInt32))])) _
            refine XS.istore X32.here hx rfl (hb hby at_82) rfl (l' := #[.val (.int p1), .val (.int p2), .val (.int p3), .val (.int (1 : Int32)), .val (.ref s_POSTGRESQL), .val (.int sel), .val (.int ((p3 &&& (65535 : Int32)).toUInt32.toUInt16.toUInt32.toInt32)), .unset, .unset]) rfl ?_
            show Steps p.tables e below (T32.setTop (mkF m 84 #[.val (.int p1), .val (.int p2), .val (.int p3), .val (.int (1 : Int32)), .val (.ref s_POSTGRESQL), .val (.int sel), .val (.int ((p3 &&& (65535 : Int32)).toUInt32.toUInt16.toUInt32.toInt32)), .unset, .unset] [])) _
            exact kt
          obtain ⟨qq, h_qq⟩ : ∃ z, z = ((p3 &&& (65535 : Int32)).toUInt32.toUInt16.toUInt32.toInt32) := ⟨_, rfl⟩
          rw [← h_qq] at pre45
          by_cases hc105 : qq = (39 : Int32)
          · skip
            have pre46 : ∀ t, Steps p.tables e below (T32.setTop (mkF m 108 #[.val (.int p1), .val (.int p2), .val (.int p3), .val (.int (1 : Int32)), .val (.ref s_POSTGRESQL), .val (.int sel), .val (.int qq), .val (.int (0 : Int32)), .unset] [])) t → Steps p.tables e below (s₁.setTop (entryFrame m #[(.int p1), (.int p2), (.int p3)] maxLocals)) t := fun t kt => by
              refine pre45 t ?_
              refine XS.iloadN X32.here hx rfl (hb hby at_84) rfl ?_
              show Steps p.tables e below (T32.setTop (mkF m 85 #[.val (.int p1), .val (.int p2), .val (.int p3), .val (.int (1 : Int32)), .val (.ref s_POSTGRESQL), .val (.int sel), .val (.int qq), .unset, .unset] [(.int (1 : Int32))])) _
              refine XS.iconst X32.here hx rfl (hb hby at_85) ?_
              show Steps p.tables e below (T32.setTop (mkF m 86 #[.val (.int p1), .val (.int p2), .val (.int p3), .val (.int (1 : Int32)), .val (.ref s_POSTGRESQL), .val (.int sel), .val (.int qq), .unset, .unset] [(.int (2 : Int32)), (.int (1 : Int32))])) _
              refine XS.icmpNo X32.here hx rfl (hb hby at_86) rfl (feq (by decide : ¬ ((1 : Int32) = (2 : Int32)))).1 ?_
              show Steps p.tables e below (T32.setTop (mkF m 89 #[.val (.int p1), .val (.int p2), .val (.int p3), .val (.int (1 : Int32)), .val (.ref s_POSTGRESQL), .val (.int sel), .val (.int qq), .unset, .unset] [])) _
              refine XS.iloadN X32.here hx rfl (hb hby at_89) rfl ?_
              show Steps p.tables e below (T32.setTop (mkF m 90 #[.val (.int p1), .val (.int p2), .val (.int p3), .val (.int (1 : Int32)), .val (.ref s_POSTGRESQL), .val (.int sel), .val (.int qq), .unset, .unset] [(.int (1 : Int32))])) _
              refine XS.iconst X32.here hx rfl (hb hby at_90) ?_
              show Steps p.tables e below (T32.setTop (mkF m 91 #[.val (.int p1), .val (.int p2), .val (.int p3), .val (.int (1 : Int32)), .val (.ref s_POSTGRESQL), .val (.int sel), .val (.int qq), .unset, .unset] [(.int (3 : Int32)), (.int (1 : Int32))])) _
              refine XS.icmpYes X32.here hx rfl (pc0 := 91) (pc' := 98) rfl (hb hby at_91) rfl (feq (by decide : ¬ ((1 : Int32) = (3 : Int32)))).2 (by decide) (by decide) ?_
              show Steps p.tables e below (T32.setTop (mkF m 98 #[.val (.int p1), .val (.int p2), .val (.int p3), .val (.int (1 : Int32)), .val (.ref s_POSTGRESQL), .val (.int sel), .val (.int qq), .unset, .unset] [])) _
              refine XS.iconst X32.here hx rfl (hb hby at_98) ?_
              show Steps p.tables e below (T32.setTop (mkF m 99 #[.val (.int p1), .val (.int p2), .val (.int p3), .val (.int (1 : Int32)), .val (.ref s_POSTGRESQL), .val (.int sel), .val (.int qq), .unset, .unset] [(.int (0 : Int32))])) _
              refine XS.istore X32.here hx rfl (hb hby at_99) rfl (l' := #[.val (.int p1), .val (.int p2), .val (.int p3), .val (.int (1 : Int32)), .val (.ref s_POSTGRESQL), .val (.int sel), .val (.int qq), .val (.int (0 : Int32)), .unset]) rfl ?_
              show Steps p.tables e below (T32.setTop (mkF m 101 #[.val (.int p1), .val (.int p2), .val (.int p3), .val (.int (1 : Int32)), .val (.ref s_POSTGRESQL), .val (.int sel), .val (.int qq), .val (.int (0 : Int32)), .unset] [])) _
              refine XS.iload X32.here hx rfl (hb hby at_101) rfl ?_
              show Steps p.tables e below (T32.setTop (mkF m 103 #[.val (.int p1), .val (.int p2), .val (.int p3), .val (.int (1 : Int32)), .val (.ref s_POSTGRESQL), .val (.int sel), .val (.int qq), .val (.int (0 : Int32)), .unset] [(.int qq)])) _
              refine XS.bipush X32.here hx rfl (hb hby at_103) ?_
              show Steps p.tables e below (T32.setTop (mkF m 105 #[.val (.int p1), .val (.int p2), .val (.int p3), .val (.int (1 : Int32)), .val (.ref s_POSTGRESQL), .val (.int sel), .val (.int qq), .val (.int (0 : Int32)), .unset] [(.int (39 : Int32)), (.int qq)])) _
              refine XS.icmpNo X32.here hx rfl (hb hby at_105) rfl (teq hc105).2 ?_
              show Steps p.tables e below (T32.setTop (mkF m 108 #[.val (.int p1), .val (.int p2), .val (.int p3), .val (.int (1 : Int32)), .val (.ref s_POSTGRESQL), .val (.int sel), .val (.int qq), .val (.int (0 : Int32)), .unset] [])) _
              exact kt
            subst hc105
            have pre47 : ∀ t, Steps p.tables e below (T32.setTop (mkF m 144 #[.val (.int p1), .val (.int p2), .val (.int p3), .val (.int (1 : Int32)), .val (.ref s_POSTGRESQL), .val (.int sel), .val (.int (39 : Int32)), .val (.int (0 : Int32)), .val (.int (0 : Int32))] [(.int (39 : Int32)), (.ref s_POSTGRESQL)])) t → Steps p.tables e below (s₁.setTop (entryFrame m #[(.int p1), (.int p2), (.int p3)] maxLocals)) t := fun t kt => by
              refine pre46 t ?_
              refine XS.iload X32.here hx rfl (hb hby at_108) rfl ?_
              show Steps p.tables e below (T32.setTop (mkF m 110 #[.val (.int p1), .val (.int p2), .val (.int p3), .val (.int (1 : Int32)), .val (.ref s_POSTGRESQL), .val (.int sel), .val (.int (39 : Int32)), .val (.int (0 : Int32)), .unset] [(.int (0 : Int32))])) _
              refine XS.istore X32.here hx rfl (hb hby at_110) rfl (l' := #[.val (.int p1), .val (.int p2), .val (.int p3), .val (.int (1 : Int32)), .val (.ref s_POSTGRESQL), .val (.int sel), .val (.int (39 : Int32)), .val (.int (0 : Int32)), .val (.int (0 : Int32))]) rfl ?_
              show Steps p.tables e below (T32.setTop (mkF m 112 #[.val (.int p1), .val (.int p2), .val (.int p3), .val (.int (1 : Int32)), .val (.ref s_POSTGRESQL), .val (.int sel), .val (.int (39 : Int32)), .val (.int (0 : Int32)), .val (.int (0 : Int32))] [])) _
              refine XS.goto X32.here hx rfl (pc0 := 112) (pc' := 140) rfl (hb hby at_112) (by decide) (by decide) ?_
              show Steps p.tables e below (T32.setTop (mkF m 140 #[.val (.int p1), .val (.int p2), .val (.int p3), .val (.int (1 : Int32)), .val (.ref s_POSTGRESQL), .val (.int sel), .val (.int (39 : Int32)), .val (.int (0 : Int32)), .val (.int (0 : Int32))] [])) _
              refine XS.aload X32.here hx rfl (hb hby at_140) rfl rfl ?_
              show Steps p.tables e below (T32.setTop (mkF m 142 #[.val (.int p1), .val (.int p2), .val (.int p3), .val (.int (1 : Int32)), .val (.ref s_POSTGRESQL), .val (.int sel), .val (.int (39 : Int32)), .val (.int (0 : Int32)), .val (.int (0 : Int32))] [(.ref s_POSTGRESQL)])) _
              refine XS.iload X32.here hx rfl (hb hby at_142) rfl ?_
              show Steps p.tables e below (T32.setTop (mkF m 144 #[.val (.int p1), .val (.int p2), .val (.int p3), .val (.int (1 : Int32)), .val (.ref s_POSTGRESQL), .val (.int sel), .val (.int (39 : Int32)), .val (.int (0 : Int32)), .val (.int (0 : Int32))] [(.int (39 : Int32)), (.ref s_POSTGRESQL)])) _
              exact kt
            obtain ⟨cq48, kq48, q48a, q48b, q48c⟩ := isOf hZ e32 E_s_POSTGRESQL
            obtain ⟨_, _, ⟨T48, L48, k48, n48⟩, -, X48, ⟨Lc48, hQ48, l48, y48, z48⟩, st48⟩ := X32.virtualBack hx (y := (⟨"com/example/ready_ledger/readyledger/jdbc/SqlDialect", "backslashEscapes", "(C)Z"⟩ : MethodName)) (z := (⟨"com/example/ready_ledger/readyledger/jdbc/SqlDialect", "backslashEscapes", "(C)Z"⟩ : MethodName)) hown (mvT hZ (hw _ (mgE 4 rfl))) (mvT hZ (hw _ (mgE 5 rfl))) (notFace_of_selects (args := #[]) (mvT hZ (hw _ (mgE 7 rfl)))) (mvT hZ (hw _ (mgE 7 rfl))) (mvT hZ (hw _ (mgE 6 rfl))) (by decide) (backOf (W := 0) (rm1 l Z a0 hw [] s_POSTGRESQL (39 : Int32) (0 : Int32) (0 : Int32) h0 n0 Z0 F_backslashInSingleQuotes_s_POSTGRESQL F_backslashInDoubleQuotes_s_POSTGRESQL) hZ (hw _ (mgE 8 rfl)) (hw _ (mgE 1 rfl)) (by decide) (by decide)) q48a q48c (g := (mkF m 144 #[.val (.int p1), .val (.int p2), .val (.int p3), .val (.int (1 : Int32)), .val (.ref s_POSTGRESQL), .val (.int sel), .val (.int (39 : Int32)), .val (.int (0 : Int32)), .val (.int (0 : Int32))] [(.int (39 : Int32)), (.ref s_POSTGRESQL)])) rfl (by rw [hml]; rfl) (Steps.refl _) (argsL := [(.int (39 : Int32))]) (rest := []) (lenOf pd__C_Z rfl) rfl (by show 2 * 0 + _ ≤ _; exact Nat.le_of_eq rfl) (hb hby at_144) (fun _ _ => ⟨rfl, e32, (by decide : 0 + 0 ≤ _), (by decide : 0 + 0 ≤ _)⟩)
            dsimp only [Pt.U, Pt.locs, Pt.cells, Pt.slots] at X48 l48 y48 z48 st48 hQ48
            subst l48 y48 z48
            obtain ⟨rfl, N48q, e48⟩ := hQ48
            have pre49 : ∀ t, Steps p.tables e below (T48.setTop (mkF m 147 #[.val (.int p1), .val (.int p2), .val (.int p3), .val (.int (1 : Int32)), .val (.ref s_POSTGRESQL), .val (.int sel), .val (.int (39 : Int32)), .val (.int (0 : Int32)), .val (.int (0 : Int32))] [(.int (r1 (39 : Int32) (0 : Int32) (0 : Int32)))])) t → Steps p.tables e below (s₁.setTop (entryFrame m #[(.int p1), (.int p2), (.int p3)] maxLocals)) t := fun t kt => pre47 t (st48.trans kt)
            have N48 := Fr.app N0 N48q
            have hc149 : (r1 (39 : Int32) (0 : Int32) (0 : Int32)) = (0 : Int32) := by first | rfl | decide | (simp only [r1]; done) | (simp only [r1]; first | rfl | decide)
            have pre50 : ∀ t, Steps p.tables e below (T48.setTop (mkF m 157 #[.val (.int p1), .val (.int p2), .val (.int p3), .val (.int (1 : Int32)), .val (.ref s_POSTGRESQL), .val (.int sel), .val (.int (39 : Int32)), .val (.int (0 : Int32)), .val (.int (0 : Int32))] [(.int (1 : Int32))])) t → Steps p.tables e below (s₁.setTop (entryFrame m #[(.int p1), (.int p2), (.int p3)] maxLocals)) t := fun t kt => by
              refine pre49 t ?_
              refine XS.iload X48.here hx rfl (hb hby at_147) rfl ?_
              show Steps p.tables e below (T48.setTop (mkF m 149 #[.val (.int p1), .val (.int p2), .val (.int p3), .val (.int (1 : Int32)), .val (.ref s_POSTGRESQL), .val (.int sel), .val (.int (39 : Int32)), .val (.int (0 : Int32)), .val (.int (0 : Int32))] [(.int (0 : Int32)), (.int (r1 (39 : Int32) (0 : Int32) (0 : Int32)))])) _
              refine XS.icmpNo X48.here hx rfl (hb hby at_149) rfl (teq hc149).2 ?_
              show Steps p.tables e below (T48.setTop (mkF m 152 #[.val (.int p1), .val (.int p2), .val (.int p3), .val (.int (1 : Int32)), .val (.ref s_POSTGRESQL), .val (.int sel), .val (.int (39 : Int32)), .val (.int (0 : Int32)), .val (.int (0 : Int32))] [])) _
              refine XS.iconst X48.here hx rfl (hb hby at_152) ?_
              show Steps p.tables e below (T48.setTop (mkF m 153 #[.val (.int p1), .val (.int p2), .val (.int p3), .val (.int (1 : Int32)), .val (.ref s_POSTGRESQL), .val (.int sel), .val (.int (39 : Int32)), .val (.int (0 : Int32)), .val (.int (0 : Int32))] [(.int (1 : Int32))])) _
              refine XS.goto X48.here hx rfl (pc0 := 153) (pc' := 157) rfl (hb hby at_153) (by decide) (by decide) ?_
              show Steps p.tables e below (T48.setTop (mkF m 157 #[.val (.int p1), .val (.int p2), .val (.int p3), .val (.int (1 : Int32)), .val (.ref s_POSTGRESQL), .val (.int sel), .val (.int (39 : Int32)), .val (.int (0 : Int32)), .val (.int (0 : Int32))] [(.int (1 : Int32))])) _
              exact kt
            obtain ⟨fs, hr, hrun, hended, hW, hsame⟩ := X48.leave (v := some (.int (1 : Int32))) (fun h => by rw [Bd.returns] at h; cases h)
            refine ⟨_, _, pre50 _ ?_, hrun, hended, _, _, rfl, ?_, ⟨_, rfl⟩, hW, hsame.mono (by decide) (by decide)⟩
            · exact retN X48 hx (t := .boolean) Bd.returns (by simp) (hb hby at_157) hr
            · show Q0 Z p1 p2 p3 s_STANDARD s_POSTGRESQL s_MARIADB s_MARIADB_ANSI_QUOTES h0 n0 _ T48.heap _
              rw [e48]
              exact ⟨rfl, N48⟩
          · skip
            by_cases hc119 : qq = (34 : Int32)
            · skip
              have pre51 : ∀ t, Steps p.tables e below (T32.setTop (mkF m 122 #[.val (.int p1), .val (.int p2), .val (.int p3), .val (.int (1 : Int32)), .val (.ref s_POSTGRESQL), .val (.int sel), .val (.int qq), .val (.int (0 : Int32)), .unset] [])) t → Steps p.tables e below (s₁.setTop (entryFrame m #[(.int p1), (.int p2), (.int p3)] maxLocals)) t := fun t kt => by
                refine pre45 t ?_
                refine XS.iloadN X32.here hx rfl (hb hby at_84) rfl ?_
                show Steps p.tables e below (T32.setTop (mkF m 85 #[.val (.int p1), .val (.int p2), .val (.int p3), .val (.int (1 : Int32)), .val (.ref s_POSTGRESQL), .val (.int sel), .val (.int qq), .unset, .unset] [(.int (1 : Int32))])) _
                refine XS.iconst X32.here hx rfl (hb hby at_85) ?_
                show Steps p.tables e below (T32.setTop (mkF m 86 #[.val (.int p1), .val (.int p2), .val (.int p3), .val (.int (1 : Int32)), .val (.ref s_POSTGRESQL), .val (.int sel), .val (.int qq), .unset, .unset] [(.int (2 : Int32)), (.int (1 : Int32))])) _
                refine XS.icmpNo X32.here hx rfl (hb hby at_86) rfl (feq (by decide : ¬ ((1 : Int32) = (2 : Int32)))).1 ?_
                show Steps p.tables e below (T32.setTop (mkF m 89 #[.val (.int p1), .val (.int p2), .val (.int p3), .val (.int (1 : Int32)), .val (.ref s_POSTGRESQL), .val (.int sel), .val (.int qq), .unset, .unset] [])) _
                refine XS.iloadN X32.here hx rfl (hb hby at_89) rfl ?_
                show Steps p.tables e below (T32.setTop (mkF m 90 #[.val (.int p1), .val (.int p2), .val (.int p3), .val (.int (1 : Int32)), .val (.ref s_POSTGRESQL), .val (.int sel), .val (.int qq), .unset, .unset] [(.int (1 : Int32))])) _
                refine XS.iconst X32.here hx rfl (hb hby at_90) ?_
                show Steps p.tables e below (T32.setTop (mkF m 91 #[.val (.int p1), .val (.int p2), .val (.int p3), .val (.int (1 : Int32)), .val (.ref s_POSTGRESQL), .val (.int sel), .val (.int qq), .unset, .unset] [(.int (3 : Int32)), (.int (1 : Int32))])) _
                refine XS.icmpYes X32.here hx rfl (pc0 := 91) (pc' := 98) rfl (hb hby at_91) rfl (feq (by decide : ¬ ((1 : Int32) = (3 : Int32)))).2 (by decide) (by decide) ?_
                show Steps p.tables e below (T32.setTop (mkF m 98 #[.val (.int p1), .val (.int p2), .val (.int p3), .val (.int (1 : Int32)), .val (.ref s_POSTGRESQL), .val (.int sel), .val (.int qq), .unset, .unset] [])) _
                refine XS.iconst X32.here hx rfl (hb hby at_98) ?_
                show Steps p.tables e below (T32.setTop (mkF m 99 #[.val (.int p1), .val (.int p2), .val (.int p3), .val (.int (1 : Int32)), .val (.ref s_POSTGRESQL), .val (.int sel), .val (.int qq), .unset, .unset] [(.int (0 : Int32))])) _
                refine XS.istore X32.here hx rfl (hb hby at_99) rfl (l' := #[.val (.int p1), .val (.int p2), .val (.int p3), .val (.int (1 : Int32)), .val (.ref s_POSTGRESQL), .val (.int sel), .val (.int qq), .val (.int (0 : Int32)), .unset]) rfl ?_
                show Steps p.tables e below (T32.setTop (mkF m 101 #[.val (.int p1), .val (.int p2), .val (.int p3), .val (.int (1 : Int32)), .val (.ref s_POSTGRESQL), .val (.int sel), .val (.int qq), .val (.int (0 : Int32)), .unset] [])) _
                refine XS.iload X32.here hx rfl (hb hby at_101) rfl ?_
                show Steps p.tables e below (T32.setTop (mkF m 103 #[.val (.int p1), .val (.int p2), .val (.int p3), .val (.int (1 : Int32)), .val (.ref s_POSTGRESQL), .val (.int sel), .val (.int qq), .val (.int (0 : Int32)), .unset] [(.int qq)])) _
                refine XS.bipush X32.here hx rfl (hb hby at_103) ?_
                show Steps p.tables e below (T32.setTop (mkF m 105 #[.val (.int p1), .val (.int p2), .val (.int p3), .val (.int (1 : Int32)), .val (.ref s_POSTGRESQL), .val (.int sel), .val (.int qq), .val (.int (0 : Int32)), .unset] [(.int (39 : Int32)), (.int qq)])) _
                refine XS.icmpYes X32.here hx rfl (pc0 := 105) (pc' := 115) rfl (hb hby at_105) rfl (feq hc105).2 (by decide) (by decide) ?_
                show Steps p.tables e below (T32.setTop (mkF m 115 #[.val (.int p1), .val (.int p2), .val (.int p3), .val (.int (1 : Int32)), .val (.ref s_POSTGRESQL), .val (.int sel), .val (.int qq), .val (.int (0 : Int32)), .unset] [])) _
                refine XS.iload X32.here hx rfl (hb hby at_115) rfl ?_
                show Steps p.tables e below (T32.setTop (mkF m 117 #[.val (.int p1), .val (.int p2), .val (.int p3), .val (.int (1 : Int32)), .val (.ref s_POSTGRESQL), .val (.int sel), .val (.int qq), .val (.int (0 : Int32)), .unset] [(.int qq)])) _
                refine XS.bipush X32.here hx rfl (hb hby at_117) ?_
                show Steps p.tables e below (T32.setTop (mkF m 119 #[.val (.int p1), .val (.int p2), .val (.int p3), .val (.int (1 : Int32)), .val (.ref s_POSTGRESQL), .val (.int sel), .val (.int qq), .val (.int (0 : Int32)), .unset] [(.int (34 : Int32)), (.int qq)])) _
                refine XS.icmpNo X32.here hx rfl (hb hby at_119) rfl (teq hc119).2 ?_
                show Steps p.tables e below (T32.setTop (mkF m 122 #[.val (.int p1), .val (.int p2), .val (.int p3), .val (.int (1 : Int32)), .val (.ref s_POSTGRESQL), .val (.int sel), .val (.int qq), .val (.int (0 : Int32)), .unset] [])) _
                exact kt
              subst hc119
              have pre52 : ∀ t, Steps p.tables e below (T32.setTop (mkF m 144 #[.val (.int p1), .val (.int p2), .val (.int p3), .val (.int (1 : Int32)), .val (.ref s_POSTGRESQL), .val (.int sel), .val (.int (34 : Int32)), .val (.int (0 : Int32)), .val (.int (0 : Int32))] [(.int (34 : Int32)), (.ref s_POSTGRESQL)])) t → Steps p.tables e below (s₁.setTop (entryFrame m #[(.int p1), (.int p2), (.int p3)] maxLocals)) t := fun t kt => by
                refine pre51 t ?_
                refine XS.iloadN X32.here hx rfl (hb hby at_122) rfl ?_
                show Steps p.tables e below (T32.setTop (mkF m 123 #[.val (.int p1), .val (.int p2), .val (.int p3), .val (.int (1 : Int32)), .val (.ref s_POSTGRESQL), .val (.int sel), .val (.int (34 : Int32)), .val (.int (0 : Int32)), .unset] [(.int (1 : Int32))])) _
                refine XS.iconst X32.here hx rfl (hb hby at_123) ?_
                show Steps p.tables e below (T32.setTop (mkF m 124 #[.val (.int p1), .val (.int p2), .val (.int p3), .val (.int (1 : Int32)), .val (.ref s_POSTGRESQL), .val (.int sel), .val (.int (34 : Int32)), .val (.int (0 : Int32)), .unset] [(.int (2 : Int32)), (.int (1 : Int32))])) _
                refine XS.icmpYes X32.here hx rfl (pc0 := 124) (pc' := 131) rfl (hb hby at_124) rfl (feq (by decide : ¬ ((1 : Int32) = (2 : Int32)))).2 (by decide) (by decide) ?_
                show Steps p.tables e below (T32.setTop (mkF m 131 #[.val (.int p1), .val (.int p2), .val (.int p3), .val (.int (1 : Int32)), .val (.ref s_POSTGRESQL), .val (.int sel), .val (.int (34 : Int32)), .val (.int (0 : Int32)), .unset] [])) _
                refine XS.iconst X32.here hx rfl (hb hby at_131) ?_
                show Steps p.tables e below (T32.setTop (mkF m 132 #[.val (.int p1), .val (.int p2), .val (.int p3), .val (.int (1 : Int32)), .val (.ref s_POSTGRESQL), .val (.int sel), .val (.int (34 : Int32)), .val (.int (0 : Int32)), .unset] [(.int (0 : Int32))])) _
                refine XS.istore X32.here hx rfl (hb hby at_132) rfl (l' := #[.val (.int p1), .val (.int p2), .val (.int p3), .val (.int (1 : Int32)), .val (.ref s_POSTGRESQL), .val (.int sel), .val (.int (34 : Int32)), .val (.int (0 : Int32)), .val (.int (0 : Int32))]) rfl ?_
                show Steps p.tables e below (T32.setTop (mkF m 134 #[.val (.int p1), .val (.int p2), .val (.int p3), .val (.int (1 : Int32)), .val (.ref s_POSTGRESQL), .val (.int sel), .val (.int (34 : Int32)), .val (.int (0 : Int32)), .val (.int (0 : Int32))] [])) _
                refine XS.goto X32.here hx rfl (pc0 := 134) (pc' := 140) rfl (hb hby at_134) (by decide) (by decide) ?_
                show Steps p.tables e below (T32.setTop (mkF m 140 #[.val (.int p1), .val (.int p2), .val (.int p3), .val (.int (1 : Int32)), .val (.ref s_POSTGRESQL), .val (.int sel), .val (.int (34 : Int32)), .val (.int (0 : Int32)), .val (.int (0 : Int32))] [])) _
                refine XS.aload X32.here hx rfl (hb hby at_140) rfl rfl ?_
                show Steps p.tables e below (T32.setTop (mkF m 142 #[.val (.int p1), .val (.int p2), .val (.int p3), .val (.int (1 : Int32)), .val (.ref s_POSTGRESQL), .val (.int sel), .val (.int (34 : Int32)), .val (.int (0 : Int32)), .val (.int (0 : Int32))] [(.ref s_POSTGRESQL)])) _
                refine XS.iload X32.here hx rfl (hb hby at_142) rfl ?_
                show Steps p.tables e below (T32.setTop (mkF m 144 #[.val (.int p1), .val (.int p2), .val (.int p3), .val (.int (1 : Int32)), .val (.ref s_POSTGRESQL), .val (.int sel), .val (.int (34 : Int32)), .val (.int (0 : Int32)), .val (.int (0 : Int32))] [(.int (34 : Int32)), (.ref s_POSTGRESQL)])) _
                exact kt
              obtain ⟨cq53, kq53, q53a, q53b, q53c⟩ := isOf hZ e32 E_s_POSTGRESQL
              obtain ⟨_, _, ⟨T53, L53, k53, n53⟩, -, X53, ⟨Lc53, hQ53, l53, y53, z53⟩, st53⟩ := X32.virtualBack hx (y := (⟨"com/example/ready_ledger/readyledger/jdbc/SqlDialect", "backslashEscapes", "(C)Z"⟩ : MethodName)) (z := (⟨"com/example/ready_ledger/readyledger/jdbc/SqlDialect", "backslashEscapes", "(C)Z"⟩ : MethodName)) hown (mvT hZ (hw _ (mgE 4 rfl))) (mvT hZ (hw _ (mgE 5 rfl))) (notFace_of_selects (args := #[]) (mvT hZ (hw _ (mgE 7 rfl)))) (mvT hZ (hw _ (mgE 7 rfl))) (mvT hZ (hw _ (mgE 6 rfl))) (by decide) (backOf (W := 0) (rm1 l Z a0 hw [] s_POSTGRESQL (34 : Int32) (0 : Int32) (0 : Int32) h0 n0 Z0 F_backslashInSingleQuotes_s_POSTGRESQL F_backslashInDoubleQuotes_s_POSTGRESQL) hZ (hw _ (mgE 8 rfl)) (hw _ (mgE 1 rfl)) (by decide) (by decide)) q53a q53c (g := (mkF m 144 #[.val (.int p1), .val (.int p2), .val (.int p3), .val (.int (1 : Int32)), .val (.ref s_POSTGRESQL), .val (.int sel), .val (.int (34 : Int32)), .val (.int (0 : Int32)), .val (.int (0 : Int32))] [(.int (34 : Int32)), (.ref s_POSTGRESQL)])) rfl (by rw [hml]; rfl) (Steps.refl _) (argsL := [(.int (34 : Int32))]) (rest := []) (lenOf pd__C_Z rfl) rfl (by show 2 * 0 + _ ≤ _; exact Nat.le_of_eq rfl) (hb hby at_144) (fun _ _ => ⟨rfl, e32, (by decide : 0 + 0 ≤ _), (by decide : 0 + 0 ≤ _)⟩)
              dsimp only [Pt.U, Pt.locs, Pt.cells, Pt.slots] at X53 l53 y53 z53 st53 hQ53
              subst l53 y53 z53
              obtain ⟨rfl, N53q, e53⟩ := hQ53
              have pre54 : ∀ t, Steps p.tables e below (T53.setTop (mkF m 147 #[.val (.int p1), .val (.int p2), .val (.int p3), .val (.int (1 : Int32)), .val (.ref s_POSTGRESQL), .val (.int sel), .val (.int (34 : Int32)), .val (.int (0 : Int32)), .val (.int (0 : Int32))] [(.int (r1 (34 : Int32) (0 : Int32) (0 : Int32)))])) t → Steps p.tables e below (s₁.setTop (entryFrame m #[(.int p1), (.int p2), (.int p3)] maxLocals)) t := fun t kt => pre52 t (st53.trans kt)
              have N53 := Fr.app N0 N53q
              have hc149 : (r1 (34 : Int32) (0 : Int32) (0 : Int32)) = (0 : Int32) := by first | rfl | decide | (simp only [r1, if_neg hc105]; done) | (simp only [r1, if_neg hc105]; first | rfl | decide)
              have pre55 : ∀ t, Steps p.tables e below (T53.setTop (mkF m 157 #[.val (.int p1), .val (.int p2), .val (.int p3), .val (.int (1 : Int32)), .val (.ref s_POSTGRESQL), .val (.int sel), .val (.int (34 : Int32)), .val (.int (0 : Int32)), .val (.int (0 : Int32))] [(.int (1 : Int32))])) t → Steps p.tables e below (s₁.setTop (entryFrame m #[(.int p1), (.int p2), (.int p3)] maxLocals)) t := fun t kt => by
                refine pre54 t ?_
                refine XS.iload X53.here hx rfl (hb hby at_147) rfl ?_
                show Steps p.tables e below (T53.setTop (mkF m 149 #[.val (.int p1), .val (.int p2), .val (.int p3), .val (.int (1 : Int32)), .val (.ref s_POSTGRESQL), .val (.int sel), .val (.int (34 : Int32)), .val (.int (0 : Int32)), .val (.int (0 : Int32))] [(.int (0 : Int32)), (.int (r1 (34 : Int32) (0 : Int32) (0 : Int32)))])) _
                refine XS.icmpNo X53.here hx rfl (hb hby at_149) rfl (teq hc149).2 ?_
                show Steps p.tables e below (T53.setTop (mkF m 152 #[.val (.int p1), .val (.int p2), .val (.int p3), .val (.int (1 : Int32)), .val (.ref s_POSTGRESQL), .val (.int sel), .val (.int (34 : Int32)), .val (.int (0 : Int32)), .val (.int (0 : Int32))] [])) _
                refine XS.iconst X53.here hx rfl (hb hby at_152) ?_
                show Steps p.tables e below (T53.setTop (mkF m 153 #[.val (.int p1), .val (.int p2), .val (.int p3), .val (.int (1 : Int32)), .val (.ref s_POSTGRESQL), .val (.int sel), .val (.int (34 : Int32)), .val (.int (0 : Int32)), .val (.int (0 : Int32))] [(.int (1 : Int32))])) _
                refine XS.goto X53.here hx rfl (pc0 := 153) (pc' := 157) rfl (hb hby at_153) (by decide) (by decide) ?_
                show Steps p.tables e below (T53.setTop (mkF m 157 #[.val (.int p1), .val (.int p2), .val (.int p3), .val (.int (1 : Int32)), .val (.ref s_POSTGRESQL), .val (.int sel), .val (.int (34 : Int32)), .val (.int (0 : Int32)), .val (.int (0 : Int32))] [(.int (1 : Int32))])) _
                exact kt
              obtain ⟨fs, hr, hrun, hended, hW, hsame⟩ := X53.leave (v := some (.int (1 : Int32))) (fun h => by rw [Bd.returns] at h; cases h)
              refine ⟨_, _, pre55 _ ?_, hrun, hended, _, _, rfl, ?_, ⟨_, rfl⟩, hW, hsame.mono (by decide) (by decide)⟩
              · exact retN X53 hx (t := .boolean) Bd.returns (by simp) (hb hby at_157) hr
              · show Q0 Z p1 p2 p3 s_STANDARD s_POSTGRESQL s_MARIADB s_MARIADB_ANSI_QUOTES h0 n0 _ T53.heap _
                rw [e53]
                exact ⟨rfl, N53⟩
            · skip
              have pre56 : ∀ t, Steps p.tables e below (T32.setTop (mkF m 144 #[.val (.int p1), .val (.int p2), .val (.int p3), .val (.int (1 : Int32)), .val (.ref s_POSTGRESQL), .val (.int sel), .val (.int qq), .val (.int (0 : Int32)), .val (.int (0 : Int32))] [(.int qq), (.ref s_POSTGRESQL)])) t → Steps p.tables e below (s₁.setTop (entryFrame m #[(.int p1), (.int p2), (.int p3)] maxLocals)) t := fun t kt => by
                refine pre45 t ?_
                refine XS.iloadN X32.here hx rfl (hb hby at_84) rfl ?_
                show Steps p.tables e below (T32.setTop (mkF m 85 #[.val (.int p1), .val (.int p2), .val (.int p3), .val (.int (1 : Int32)), .val (.ref s_POSTGRESQL), .val (.int sel), .val (.int qq), .unset, .unset] [(.int (1 : Int32))])) _
                refine XS.iconst X32.here hx rfl (hb hby at_85) ?_
                show Steps p.tables e below (T32.setTop (mkF m 86 #[.val (.int p1), .val (.int p2), .val (.int p3), .val (.int (1 : Int32)), .val (.ref s_POSTGRESQL), .val (.int sel), .val (.int qq), .unset, .unset] [(.int (2 : Int32)), (.int (1 : Int32))])) _
                refine XS.icmpNo X32.here hx rfl (hb hby at_86) rfl (feq (by decide : ¬ ((1 : Int32) = (2 : Int32)))).1 ?_
                show Steps p.tables e below (T32.setTop (mkF m 89 #[.val (.int p1), .val (.int p2), .val (.int p3), .val (.int (1 : Int32)), .val (.ref s_POSTGRESQL), .val (.int sel), .val (.int qq), .unset, .unset] [])) _
                refine XS.iloadN X32.here hx rfl (hb hby at_89) rfl ?_
                show Steps p.tables e below (T32.setTop (mkF m 90 #[.val (.int p1), .val (.int p2), .val (.int p3), .val (.int (1 : Int32)), .val (.ref s_POSTGRESQL), .val (.int sel), .val (.int qq), .unset, .unset] [(.int (1 : Int32))])) _
                refine XS.iconst X32.here hx rfl (hb hby at_90) ?_
                show Steps p.tables e below (T32.setTop (mkF m 91 #[.val (.int p1), .val (.int p2), .val (.int p3), .val (.int (1 : Int32)), .val (.ref s_POSTGRESQL), .val (.int sel), .val (.int qq), .unset, .unset] [(.int (3 : Int32)), (.int (1 : Int32))])) _
                refine XS.icmpYes X32.here hx rfl (pc0 := 91) (pc' := 98) rfl (hb hby at_91) rfl (feq (by decide : ¬ ((1 : Int32) = (3 : Int32)))).2 (by decide) (by decide) ?_
                show Steps p.tables e below (T32.setTop (mkF m 98 #[.val (.int p1), .val (.int p2), .val (.int p3), .val (.int (1 : Int32)), .val (.ref s_POSTGRESQL), .val (.int sel), .val (.int qq), .unset, .unset] [])) _
                refine XS.iconst X32.here hx rfl (hb hby at_98) ?_
                show Steps p.tables e below (T32.setTop (mkF m 99 #[.val (.int p1), .val (.int p2), .val (.int p3), .val (.int (1 : Int32)), .val (.ref s_POSTGRESQL), .val (.int sel), .val (.int qq), .unset, .unset] [(.int (0 : Int32))])) _
                refine XS.istore X32.here hx rfl (hb hby at_99) rfl (l' := #[.val (.int p1), .val (.int p2), .val (.int p3), .val (.int (1 : Int32)), .val (.ref s_POSTGRESQL), .val (.int sel), .val (.int qq), .val (.int (0 : Int32)), .unset]) rfl ?_
                show Steps p.tables e below (T32.setTop (mkF m 101 #[.val (.int p1), .val (.int p2), .val (.int p3), .val (.int (1 : Int32)), .val (.ref s_POSTGRESQL), .val (.int sel), .val (.int qq), .val (.int (0 : Int32)), .unset] [])) _
                refine XS.iload X32.here hx rfl (hb hby at_101) rfl ?_
                show Steps p.tables e below (T32.setTop (mkF m 103 #[.val (.int p1), .val (.int p2), .val (.int p3), .val (.int (1 : Int32)), .val (.ref s_POSTGRESQL), .val (.int sel), .val (.int qq), .val (.int (0 : Int32)), .unset] [(.int qq)])) _
                refine XS.bipush X32.here hx rfl (hb hby at_103) ?_
                show Steps p.tables e below (T32.setTop (mkF m 105 #[.val (.int p1), .val (.int p2), .val (.int p3), .val (.int (1 : Int32)), .val (.ref s_POSTGRESQL), .val (.int sel), .val (.int qq), .val (.int (0 : Int32)), .unset] [(.int (39 : Int32)), (.int qq)])) _
                refine XS.icmpYes X32.here hx rfl (pc0 := 105) (pc' := 115) rfl (hb hby at_105) rfl (feq hc105).2 (by decide) (by decide) ?_
                show Steps p.tables e below (T32.setTop (mkF m 115 #[.val (.int p1), .val (.int p2), .val (.int p3), .val (.int (1 : Int32)), .val (.ref s_POSTGRESQL), .val (.int sel), .val (.int qq), .val (.int (0 : Int32)), .unset] [])) _
                refine XS.iload X32.here hx rfl (hb hby at_115) rfl ?_
                show Steps p.tables e below (T32.setTop (mkF m 117 #[.val (.int p1), .val (.int p2), .val (.int p3), .val (.int (1 : Int32)), .val (.ref s_POSTGRESQL), .val (.int sel), .val (.int qq), .val (.int (0 : Int32)), .unset] [(.int qq)])) _
                refine XS.bipush X32.here hx rfl (hb hby at_117) ?_
                show Steps p.tables e below (T32.setTop (mkF m 119 #[.val (.int p1), .val (.int p2), .val (.int p3), .val (.int (1 : Int32)), .val (.ref s_POSTGRESQL), .val (.int sel), .val (.int qq), .val (.int (0 : Int32)), .unset] [(.int (34 : Int32)), (.int qq)])) _
                refine XS.icmpYes X32.here hx rfl (pc0 := 119) (pc' := 137) rfl (hb hby at_119) rfl (feq hc119).2 (by decide) (by decide) ?_
                show Steps p.tables e below (T32.setTop (mkF m 137 #[.val (.int p1), .val (.int p2), .val (.int p3), .val (.int (1 : Int32)), .val (.ref s_POSTGRESQL), .val (.int sel), .val (.int qq), .val (.int (0 : Int32)), .unset] [])) _
                refine XS.iconst X32.here hx rfl (hb hby at_137) ?_
                show Steps p.tables e below (T32.setTop (mkF m 138 #[.val (.int p1), .val (.int p2), .val (.int p3), .val (.int (1 : Int32)), .val (.ref s_POSTGRESQL), .val (.int sel), .val (.int qq), .val (.int (0 : Int32)), .unset] [(.int (0 : Int32))])) _
                refine XS.istore X32.here hx rfl (hb hby at_138) rfl (l' := #[.val (.int p1), .val (.int p2), .val (.int p3), .val (.int (1 : Int32)), .val (.ref s_POSTGRESQL), .val (.int sel), .val (.int qq), .val (.int (0 : Int32)), .val (.int (0 : Int32))]) rfl ?_
                show Steps p.tables e below (T32.setTop (mkF m 140 #[.val (.int p1), .val (.int p2), .val (.int p3), .val (.int (1 : Int32)), .val (.ref s_POSTGRESQL), .val (.int sel), .val (.int qq), .val (.int (0 : Int32)), .val (.int (0 : Int32))] [])) _
                refine XS.aload X32.here hx rfl (hb hby at_140) rfl rfl ?_
                show Steps p.tables e below (T32.setTop (mkF m 142 #[.val (.int p1), .val (.int p2), .val (.int p3), .val (.int (1 : Int32)), .val (.ref s_POSTGRESQL), .val (.int sel), .val (.int qq), .val (.int (0 : Int32)), .val (.int (0 : Int32))] [(.ref s_POSTGRESQL)])) _
                refine XS.iload X32.here hx rfl (hb hby at_142) rfl ?_
                show Steps p.tables e below (T32.setTop (mkF m 144 #[.val (.int p1), .val (.int p2), .val (.int p3), .val (.int (1 : Int32)), .val (.ref s_POSTGRESQL), .val (.int sel), .val (.int qq), .val (.int (0 : Int32)), .val (.int (0 : Int32))] [(.int qq), (.ref s_POSTGRESQL)])) _
                exact kt
              obtain ⟨cq57, kq57, q57a, q57b, q57c⟩ := isOf hZ e32 E_s_POSTGRESQL
              obtain ⟨_, _, ⟨T57, L57, k57, n57⟩, -, X57, ⟨Lc57, hQ57, l57, y57, z57⟩, st57⟩ := X32.virtualBack hx (y := (⟨"com/example/ready_ledger/readyledger/jdbc/SqlDialect", "backslashEscapes", "(C)Z"⟩ : MethodName)) (z := (⟨"com/example/ready_ledger/readyledger/jdbc/SqlDialect", "backslashEscapes", "(C)Z"⟩ : MethodName)) hown (mvT hZ (hw _ (mgE 4 rfl))) (mvT hZ (hw _ (mgE 5 rfl))) (notFace_of_selects (args := #[]) (mvT hZ (hw _ (mgE 7 rfl)))) (mvT hZ (hw _ (mgE 7 rfl))) (mvT hZ (hw _ (mgE 6 rfl))) (by decide) (backOf (W := 0) (rm1 l Z a0 hw [] s_POSTGRESQL qq (0 : Int32) (0 : Int32) h0 n0 Z0 F_backslashInSingleQuotes_s_POSTGRESQL F_backslashInDoubleQuotes_s_POSTGRESQL) hZ (hw _ (mgE 8 rfl)) (hw _ (mgE 1 rfl)) (by decide) (by decide)) q57a q57c (g := (mkF m 144 #[.val (.int p1), .val (.int p2), .val (.int p3), .val (.int (1 : Int32)), .val (.ref s_POSTGRESQL), .val (.int sel), .val (.int qq), .val (.int (0 : Int32)), .val (.int (0 : Int32))] [(.int qq), (.ref s_POSTGRESQL)])) rfl (by rw [hml]; rfl) (Steps.refl _) (argsL := [(.int qq)]) (rest := []) (lenOf pd__C_Z rfl) rfl (by show 2 * 0 + _ ≤ _; exact Nat.le_of_eq rfl) (hb hby at_144) (fun _ _ => ⟨rfl, e32, (by decide : 0 + 0 ≤ _), (by decide : 0 + 0 ≤ _)⟩)
              dsimp only [Pt.U, Pt.locs, Pt.cells, Pt.slots] at X57 l57 y57 z57 st57 hQ57
              subst l57 y57 z57
              obtain ⟨rfl, N57q, e57⟩ := hQ57
              have pre58 : ∀ t, Steps p.tables e below (T57.setTop (mkF m 147 #[.val (.int p1), .val (.int p2), .val (.int p3), .val (.int (1 : Int32)), .val (.ref s_POSTGRESQL), .val (.int sel), .val (.int qq), .val (.int (0 : Int32)), .val (.int (0 : Int32))] [(.int (r1 qq (0 : Int32) (0 : Int32)))])) t → Steps p.tables e below (s₁.setTop (entryFrame m #[(.int p1), (.int p2), (.int p3)] maxLocals)) t := fun t kt => pre56 t (st57.trans kt)
              have N57 := Fr.app N0 N57q
              have hc149 : (r1 qq (0 : Int32) (0 : Int32)) = (0 : Int32) := by first | rfl | decide | (simp only [r1, if_neg hc105, if_neg hc119]; done) | (simp only [r1, if_neg hc105, if_neg hc119]; first | rfl | decide)
              have pre59 : ∀ t, Steps p.tables e below (T57.setTop (mkF m 157 #[.val (.int p1), .val (.int p2), .val (.int p3), .val (.int (1 : Int32)), .val (.ref s_POSTGRESQL), .val (.int sel), .val (.int qq), .val (.int (0 : Int32)), .val (.int (0 : Int32))] [(.int (1 : Int32))])) t → Steps p.tables e below (s₁.setTop (entryFrame m #[(.int p1), (.int p2), (.int p3)] maxLocals)) t := fun t kt => by
                refine pre58 t ?_
                refine XS.iload X57.here hx rfl (hb hby at_147) rfl ?_
                show Steps p.tables e below (T57.setTop (mkF m 149 #[.val (.int p1), .val (.int p2), .val (.int p3), .val (.int (1 : Int32)), .val (.ref s_POSTGRESQL), .val (.int sel), .val (.int qq), .val (.int (0 : Int32)), .val (.int (0 : Int32))] [(.int (0 : Int32)), (.int (r1 qq (0 : Int32) (0 : Int32)))])) _
                refine XS.icmpNo X57.here hx rfl (hb hby at_149) rfl (teq hc149).2 ?_
                show Steps p.tables e below (T57.setTop (mkF m 152 #[.val (.int p1), .val (.int p2), .val (.int p3), .val (.int (1 : Int32)), .val (.ref s_POSTGRESQL), .val (.int sel), .val (.int qq), .val (.int (0 : Int32)), .val (.int (0 : Int32))] [])) _
                refine XS.iconst X57.here hx rfl (hb hby at_152) ?_
                show Steps p.tables e below (T57.setTop (mkF m 153 #[.val (.int p1), .val (.int p2), .val (.int p3), .val (.int (1 : Int32)), .val (.ref s_POSTGRESQL), .val (.int sel), .val (.int qq), .val (.int (0 : Int32)), .val (.int (0 : Int32))] [(.int (1 : Int32))])) _
                refine XS.goto X57.here hx rfl (pc0 := 153) (pc' := 157) rfl (hb hby at_153) (by decide) (by decide) ?_
                show Steps p.tables e below (T57.setTop (mkF m 157 #[.val (.int p1), .val (.int p2), .val (.int p3), .val (.int (1 : Int32)), .val (.ref s_POSTGRESQL), .val (.int sel), .val (.int qq), .val (.int (0 : Int32)), .val (.int (0 : Int32))] [(.int (1 : Int32))])) _
                exact kt
              obtain ⟨fs, hr, hrun, hended, hW, hsame⟩ := X57.leave (v := some (.int (1 : Int32))) (fun h => by rw [Bd.returns] at h; cases h)
              refine ⟨_, _, pre59 _ ?_, hrun, hended, _, _, rfl, ?_, ⟨_, rfl⟩, hW, hsame.mono (by decide) (by decide)⟩
              · exact retN X57 hx (t := .boolean) Bd.returns (by simp) (hb hby at_157) hr
              · show Q0 Z p1 p2 p3 s_STANDARD s_POSTGRESQL s_MARIADB s_MARIADB_ANSI_QUOTES h0 n0 _ T57.heap _
                rw [e57]
                exact ⟨rfl, N57⟩
    · skip
      by_cases hc31 : dd = (2 : Int32)
      · skip
        have pre60 : ∀ t, Steps p.tables e below (s₁.setTop (mkF m 34 #[.val (.int p1), .val (.int p2), .val (.int p3), .val (.int dd), .unset, .unset, .unset, .unset, .unset] [])) t → Steps p.tables e below (s₁.setTop (entryFrame m #[(.int p1), (.int p2), (.int p3)] maxLocals)) t := fun t kt => by
          refine pre1 t ?_
          refine XS.iloadN X0.here hx rfl (hb hby at_4) rfl ?_
          show Steps p.tables e below (s₁.setTop (mkF m 5 #[.val (.int p1), .val (.int p2), .val (.int p3), .val (.int dd), .unset, .unset, .unset, .unset, .unset] [(.int dd)])) _
          refine XS.ifYes X0.here hx rfl (pc0 := 5) (pc' := 16) rfl (hb hby at_5) rfl ((if0 _ _).trans (feq hc5).2) (by decide) (by decide) ?_
          show Steps p.tables e below (s₁.setTop (mkF m 16 #[.val (.int p1), .val (.int p2), .val (.int p3), .val (.int dd), .unset, .unset, .unset, .unset, .unset] [])) _
          refine XS.iloadN X0.here hx rfl (hb hby at_16) rfl ?_
          show Steps p.tables e below (s₁.setTop (mkF m 17 #[.val (.int p1), .val (.int p2), .val (.int p3), .val (.int dd), .unset, .unset, .unset, .unset, .unset] [(.int dd)])) _
          refine XS.iconst X0.here hx rfl (hb hby at_17) ?_
          show Steps p.tables e below (s₁.setTop (mkF m 18 #[.val (.int p1), .val (.int p2), .val (.int p3), .val (.int dd), .unset, .unset, .unset, .unset, .unset] [(.int (1 : Int32)), (.int dd)])) _
          refine XS.icmpYes X0.here hx rfl (pc0 := 18) (pc' := 29) rfl (hb hby at_18) rfl (feq hc18).2 (by decide) (by decide) ?_
          show Steps p.tables e below (s₁.setTop (mkF m 29 #[.val (.int p1), .val (.int p2), .val (.int p3), .val (.int dd), .unset, .unset, .unset, .unset, .unset] [])) _
          refine XS.iloadN X0.here hx rfl (hb hby at_29) rfl ?_
          show Steps p.tables e below (s₁.setTop (mkF m 30 #[.val (.int p1), .val (.int p2), .val (.int p3), .val (.int dd), .unset, .unset, .unset, .unset, .unset] [(.int dd)])) _
          refine XS.iconst X0.here hx rfl (hb hby at_30) ?_
          show Steps p.tables e below (s₁.setTop (mkF m 31 #[.val (.int p1), .val (.int p2), .val (.int p3), .val (.int dd), .unset, .unset, .unset, .unset, .unset] [(.int (2 : Int32)), (.int dd)])) _
          refine XS.icmpNo X0.here hx rfl (hb hby at_31) rfl (teq hc31).2 ?_
          show Steps p.tables e below (s₁.setTop (mkF m 34 #[.val (.int p1), .val (.int p2), .val (.int p3), .val (.int dd), .unset, .unset, .unset, .unset, .unset] [])) _
          exact kt
        subst hc31
        obtain ⟨T61, X61, e61, st61⟩ := getS2 X0 hx hZ hown (host := "") (Or.inl (hw _ (mgE 15 rfl))) Via.refl e0 S_MARIADB (g := (mkF m 34 #[.val (.int p1), .val (.int p2), .val (.int p3), .val (.int (2 : Int32)), .unset, .unset, .unset, .unset, .unset] [])) rfl (hb hby at_34)
        have pre62 : ∀ t, Steps p.tables e below (T61.setTop (mkF m 37 #[.val (.int p1), .val (.int p2), .val (.int p3), .val (.int (2 : Int32)), .unset, .unset, .unset, .unset, .unset] [(.ref s_MARIADB)])) t → Steps p.tables e below (s₁.setTop (entryFrame m #[(.int p1), (.int p2), (.int p3)] maxLocals)) t := fun t kt => pre60 t (st61 t kt)
        have pre63 : ∀ t, Steps p.tables e below (T61.setTop (mkF m 52 #[.val (.int p1), .val (.int p2), .val (.int p3), .val (.int (2 : Int32)), .val (.ref s_MARIADB), .val (.int (p2 &&& (3 : Int32))), .unset, .unset, .unset] [])) t → Steps p.tables e below (s₁.setTop (entryFrame m #[(.int p1), (.int p2), (.int p3)] maxLocals)) t := fun t kt => by
          refine pre62 t ?_
          refine XS.astore X61.here hx rfl (hb hby at_37) rfl rfl (l' := #[.val (.int p1), .val (.int p2), .val (.int p3), .val (.int (2 : Int32)), .val (.ref s_MARIADB), .unset, .unset, .unset, .unset]) rfl ?_
          show Steps p.tables e below (T61.setTop (mkF m 39 #[.val (.int p1), .val (.int p2), .val (.int p3), .val (.int (2 : Int32)), .val (.ref s_MARIADB), .unset, .unset, .unset, .unset] [])) _
          refine XS.goto X61.here hx rfl (pc0 := 39) (pc' := 47) rfl (hb hby at_39) (by decide) (by decide) ?_
          show Steps p.tables e below (T61.setTop (mkF m 47 #[.val (.int p1), .val (.int p2), .val (.int p3), .val (.int (2 : Int32)), .val (.ref s_MARIADB), .unset, .unset, .unset, .unset] [])) _
          refine XS.iloadN X61.here hx rfl (hb hby at_47) rfl ?_
          show Steps p.tables e below (T61.setTop (mkF m 48 #[.val (.int p1), .val (.int p2), .val (.int p3), .val (.int (2 : Int32)), .val (.ref s_MARIADB), .unset, .unset, .unset, .unset] [(.int p2)])) _
          refine XS.iconst X61.here hx rfl (hb hby at_48) ?_
          show Steps p.tables e below (T61.setTop (mkF m 49 #[.val (.int p1), .val (.int p2), .val (.int p3), .val (.int (2 : Int32)), .val (.ref s_MARIADB), .unset, .unset, .unset, .unset] [(.int (3 : Int32)), (.int p2)])) _
          refine XS.iand X61.here hx rfl (hb hby at_49) rfl ?_
          show Steps p.tables e below (T61.setTop (mkF m 50 #[.val (.int p1), .val (.int p2), .val (.int p3), .val (.int (2 : Int32)), .val (.ref s_MARIADB), .unset, .unset, .unset, .unset] [(.int (p2 &&& (3 : Int32)))])) _
          refine XS.istore X61.here hx rfl (hb hby at_50) rfl (l' := #[.val (.int p1), .val (.int p2), .val (.int p3), .val (.int (2 : Int32)), .val (.ref s_MARIADB), .val (.int (p2 &&& (3 : Int32))), .unset, .unset, .unset]) rfl ?_
          show Steps p.tables e below (T61.setTop (mkF m 52 #[.val (.int p1), .val (.int p2), .val (.int p3), .val (.int (2 : Int32)), .val (.ref s_MARIADB), .val (.int (p2 &&& (3 : Int32))), .unset, .unset, .unset] [])) _
          exact kt
        obtain ⟨sel, h_sel⟩ : ∃ z, z = (p2 &&& (3 : Int32)) := ⟨_, rfl⟩
        rw [← h_sel] at pre63
        by_cases hc54 : sel = (0 : Int32)
        · skip
          have pre64 : ∀ t, Steps p.tables e below (T61.setTop (mkF m 57 #[.val (.int p1), .val (.int p2), .val (.int p3), .val (.int (2 : Int32)), .val (.ref s_MARIADB), .val (.int sel), .unset, .unset, .unset] [])) t → Steps p.tables e below (s₁.setTop (entryFrame m #[(.int p1), (.int p2), (.int p3)] maxLocals)) t := fun t kt => by
            refine pre63 t ?_
            refine XS.iload X61.here hx rfl (hb hby at_52) rfl ?_
            show Steps p.tables e below (T61.setTop (mkF m 54 #[.val (.int p1), .val (.int p2), .val (.int p3), .val (.int (2 : Int32)), .val (.ref s_MARIADB), .val (.int sel), .unset, .unset, .unset] [(.int sel)])) _
            refine XS.ifNo X61.here hx rfl (hb hby at_54) rfl ((if0 _ _).trans (teq hc54).2) ?_
            show Steps p.tables e below (T61.setTop (mkF m 57 #[.val (.int p1), .val (.int p2), .val (.int p3), .val (.int (2 : Int32)), .val (.ref s_MARIADB), .val (.int sel), .unset, .unset, .unset] [])) _
            exact kt
          subst hc54
          have pre65 : ∀ t, Steps p.tables e below (T61.setTop (mkF m 144 #[.val (.int p1), .val (.int p2), .val (.int p3), .val (.int (2 : Int32)), .val (.ref s_MARIADB), .val (.int (0 : Int32)), .val (.int (39 : Int32)), .val (.int (1 : Int32)), .val (.int (1 : Int32))] [(.int (39 : Int32)), (.ref s_MARIADB)])) t → Steps p.tables e below (s₁.setTop (entryFrame m #[(.int p1), (.int p2), (.int p3)] maxLocals)) t := fun t kt => by
            refine pre64 t ?_
            refine XS.bipush X61.here hx rfl (hb hby at_57) ?_
            show Steps p.tables e below (T61.setTop (mkF m 59 #[.val (.int p1), .val (.int p2), .val (.int p3), .val (.int (2 : Int32)), .val (.ref s_MARIADB), .val (.int (0 : Int32)), .unset, .unset, .unset] [(.int (39 : Int32))])) _
            refine XS.istore X61.here hx rfl (hb hby at_59) rfl (l' := #[.val (.int p1), .val (.int p2), .val (.int p3), .val (.int (2 : Int32)), .val (.ref s_MARIADB), .val (.int (0 : Int32)), .val (.int (39 : Int32)), .unset, .unset]) rfl ?_
            show Steps p.tables e below (T61.setTop (mkF m 61 #[.val (.int p1), .val (.int p2), .val (.int p3), .val (.int (2 : Int32)), .val (.ref s_MARIADB), .val (.int (0 : Int32)), .val (.int (39 : Int32)), .unset, .unset] [])) _
            refine XS.goto X61.here hx rfl (pc0 := 61) (pc' := 84) rfl (hb hby at_61) (by decide) (by decide) ?_
            show Steps p.tables e below (T61.setTop (mkF m 84 #[.val (.int p1), .val (.int p2), .val (.int p3), .val (.int (2 : Int32)), .val (.ref s_MARIADB), .val (.int (0 : Int32)), .val (.int (39 : Int32)), .unset, .unset] [])) _
            refine XS.iloadN X61.here hx rfl (hb hby at_84) rfl ?_
            show Steps p.tables e below (T61.setTop (mkF m 85 #[.val (.int p1), .val (.int p2), .val (.int p3), .val (.int (2 : Int32)), .val (.ref s_MARIADB), .val (.int (0 : Int32)), .val (.int (39 : Int32)), .unset, .unset] [(.int (2 : Int32))])) _
            refine XS.iconst X61.here hx rfl (hb hby at_85) ?_
            show Steps p.tables e below (T61.setTop (mkF m 86 #[.val (.int p1), .val (.int p2), .val (.int p3), .val (.int (2 : Int32)), .val (.ref s_MARIADB), .val (.int (0 : Int32)), .val (.int (39 : Int32)), .unset, .unset] [(.int (2 : Int32)), (.int (2 : Int32))])) _
            refine XS.icmpYes X61.here hx rfl (pc0 := 86) (pc' := 94) rfl (hb hby at_86) rfl (teq (by decide : (2 : Int32) = (2 : Int32))).1 (by decide) (by decide) ?_
            show Steps p.tables e below (T61.setTop (mkF m 94 #[.val (.int p1), .val (.int p2), .val (.int p3), .val (.int (2 : Int32)), .val (.ref s_MARIADB), .val (.int (0 : Int32)), .val (.int (39 : Int32)), .unset, .unset] [])) _
            refine XS.iconst X61.here hx rfl (hb hby at_94) ?_
            show Steps p.tables e below (T61.setTop (mkF m 95 #[.val (.int p1), .val (.int p2), .val (.int p3), .val (.int (2 : Int32)), .val (.ref s_MARIADB), .val (.int (0 : Int32)), .val (.int (39 : Int32)), .unset, .unset] [(.int (1 : Int32))])) _
            refine XS.goto X61.here hx rfl (pc0 := 95) (pc' := 99) rfl (hb hby at_95) (by decide) (by decide) ?_
            show Steps p.tables e below (T61.setTop (mkF m 99 #[.val (.int p1), .val (.int p2), .val (.int p3), .val (.int (2 : Int32)), .val (.ref s_MARIADB), .val (.int (0 : Int32)), .val (.int (39 : Int32)), .unset, .unset] [(.int (1 : Int32))])) _
            refine XS.istore X61.here hx rfl (hb hby at_99) rfl (l' := #[.val (.int p1), .val (.int p2), .val (.int p3), .val (.int (2 : Int32)), .val (.ref s_MARIADB), .val (.int (0 : Int32)), .val (.int (39 : Int32)), .val (.int (1 : Int32)), .unset]) rfl ?_
            show Steps p.tables e below (T61.setTop (mkF m 101 #[.val (.int p1), .val (.int p2), .val (.int p3), .val (.int (2 : Int32)), .val (.ref s_MARIADB), .val (.int (0 : Int32)), .val (.int (39 : Int32)), .val (.int (1 : Int32)), .unset] [])) _
            refine XS.iload X61.here hx rfl (hb hby at_101) rfl ?_
            show Steps p.tables e below (T61.setTop (mkF m 103 #[.val (.int p1), .val (.int p2), .val (.int p3), .val (.int (2 : Int32)), .val (.ref s_MARIADB), .val (.int (0 : Int32)), .val (.int (39 : Int32)), .val (.int (1 : Int32)), .unset] [(.int (39 : Int32))])) _
            refine XS.bipush X61.here hx rfl (hb hby at_103) ?_
            show Steps p.tables e below (T61.setTop (mkF m 105 #[.val (.int p1), .val (.int p2), .val (.int p3), .val (.int (2 : Int32)), .val (.ref s_MARIADB), .val (.int (0 : Int32)), .val (.int (39 : Int32)), .val (.int (1 : Int32)), .unset] [(.int (39 : Int32)), (.int (39 : Int32))])) _
            refine XS.icmpNo X61.here hx rfl (hb hby at_105) rfl (teq (by decide : (39 : Int32) = (39 : Int32))).2 ?_
            show Steps p.tables e below (T61.setTop (mkF m 108 #[.val (.int p1), .val (.int p2), .val (.int p3), .val (.int (2 : Int32)), .val (.ref s_MARIADB), .val (.int (0 : Int32)), .val (.int (39 : Int32)), .val (.int (1 : Int32)), .unset] [])) _
            refine XS.iload X61.here hx rfl (hb hby at_108) rfl ?_
            show Steps p.tables e below (T61.setTop (mkF m 110 #[.val (.int p1), .val (.int p2), .val (.int p3), .val (.int (2 : Int32)), .val (.ref s_MARIADB), .val (.int (0 : Int32)), .val (.int (39 : Int32)), .val (.int (1 : Int32)), .unset] [(.int (1 : Int32))])) _
            refine XS.istore X61.here hx rfl (hb hby at_110) rfl (l' := #[.val (.int p1), .val (.int p2), .val (.int p3), .val (.int (2 : Int32)), .val (.ref s_MARIADB), .val (.int (0 : Int32)), .val (.int (39 : Int32)), .val (.int (1 : Int32)), .val (.int (1 : Int32))]) rfl ?_
            show Steps p.tables e below (T61.setTop (mkF m 112 #[.val (.int p1), .val (.int p2), .val (.int p3), .val (.int (2 : Int32)), .val (.ref s_MARIADB), .val (.int (0 : Int32)), .val (.int (39 : Int32)), .val (.int (1 : Int32)), .val (.int (1 : Int32))] [])) _
            refine XS.goto X61.here hx rfl (pc0 := 112) (pc' := 140) rfl (hb hby at_112) (by decide) (by decide) ?_
            show Steps p.tables e below (T61.setTop (mkF m 140 #[.val (.int p1), .val (.int p2), .val (.int p3), .val (.int (2 : Int32)), .val (.ref s_MARIADB), .val (.int (0 : Int32)), .val (.int (39 : Int32)), .val (.int (1 : Int32)), .val (.int (1 : Int32))] [])) _
            refine XS.aload X61.here hx rfl (hb hby at_140) rfl rfl ?_
            show Steps p.tables e below (T61.setTop (mkF m 142 #[.val (.int p1), .val (.int p2), .val (.int p3), .val (.int (2 : Int32)), .val (.ref s_MARIADB), .val (.int (0 : Int32)), .val (.int (39 : Int32)), .val (.int (1 : Int32)), .val (.int (1 : Int32))] [(.ref s_MARIADB)])) _
            refine XS.iload X61.here hx rfl (hb hby at_142) rfl ?_
            show Steps p.tables e below (T61.setTop (mkF m 144 #[.val (.int p1), .val (.int p2), .val (.int p3), .val (.int (2 : Int32)), .val (.ref s_MARIADB), .val (.int (0 : Int32)), .val (.int (39 : Int32)), .val (.int (1 : Int32)), .val (.int (1 : Int32))] [(.int (39 : Int32)), (.ref s_MARIADB)])) _
            exact kt
          obtain ⟨cq66, kq66, q66a, q66b, q66c⟩ := isOf hZ e61 E_s_MARIADB
          obtain ⟨_, _, ⟨T66, L66, k66, n66⟩, -, X66, ⟨Lc66, hQ66, l66, y66, z66⟩, st66⟩ := X61.virtualBack hx (y := (⟨"com/example/ready_ledger/readyledger/jdbc/SqlDialect", "backslashEscapes", "(C)Z"⟩ : MethodName)) (z := (⟨"com/example/ready_ledger/readyledger/jdbc/SqlDialect", "backslashEscapes", "(C)Z"⟩ : MethodName)) hown (mvT hZ (hw _ (mgE 4 rfl))) (mvT hZ (hw _ (mgE 5 rfl))) (notFace_of_selects (args := #[]) (mvT hZ (hw _ (mgE 7 rfl)))) (mvT hZ (hw _ (mgE 7 rfl))) (mvT hZ (hw _ (mgE 6 rfl))) (by decide) (backOf (W := 0) (rm1 l Z a0 hw [] s_MARIADB (39 : Int32) (1 : Int32) (1 : Int32) h0 n0 Z0 F_backslashInSingleQuotes_s_MARIADB F_backslashInDoubleQuotes_s_MARIADB) hZ (hw _ (mgE 8 rfl)) (hw _ (mgE 1 rfl)) (by decide) (by decide)) q66a q66c (g := (mkF m 144 #[.val (.int p1), .val (.int p2), .val (.int p3), .val (.int (2 : Int32)), .val (.ref s_MARIADB), .val (.int (0 : Int32)), .val (.int (39 : Int32)), .val (.int (1 : Int32)), .val (.int (1 : Int32))] [(.int (39 : Int32)), (.ref s_MARIADB)])) rfl (by rw [hml]; rfl) (Steps.refl _) (argsL := [(.int (39 : Int32))]) (rest := []) (lenOf pd__C_Z rfl) rfl (by show 2 * 0 + _ ≤ _; exact Nat.le_of_eq rfl) (hb hby at_144) (fun _ _ => ⟨rfl, e61, (by decide : 0 + 0 ≤ _), (by decide : 0 + 0 ≤ _)⟩)
          dsimp only [Pt.U, Pt.locs, Pt.cells, Pt.slots] at X66 l66 y66 z66 st66 hQ66
          subst l66 y66 z66
          obtain ⟨rfl, N66q, e66⟩ := hQ66
          have pre67 : ∀ t, Steps p.tables e below (T66.setTop (mkF m 147 #[.val (.int p1), .val (.int p2), .val (.int p3), .val (.int (2 : Int32)), .val (.ref s_MARIADB), .val (.int (0 : Int32)), .val (.int (39 : Int32)), .val (.int (1 : Int32)), .val (.int (1 : Int32))] [(.int (r1 (39 : Int32) (1 : Int32) (1 : Int32)))])) t → Steps p.tables e below (s₁.setTop (entryFrame m #[(.int p1), (.int p2), (.int p3)] maxLocals)) t := fun t kt => pre65 t (st66.trans kt)
          have N66 := Fr.app N0 N66q
          have hc149 : (r1 (39 : Int32) (1 : Int32) (1 : Int32)) = (1 : Int32) := by first | rfl | decide | (simp only [r1, if_neg hc18]; done) | (simp only [r1, if_neg hc18]; first | rfl | decide)
          have pre68 : ∀ t, Steps p.tables e below (T66.setTop (mkF m 157 #[.val (.int p1), .val (.int p2), .val (.int p3), .val (.int (2 : Int32)), .val (.ref s_MARIADB), .val (.int (0 : Int32)), .val (.int (39 : Int32)), .val (.int (1 : Int32)), .val (.int (1 : Int32))] [(.int (1 : Int32))])) t → Steps p.tables e below (s₁.setTop (entryFrame m #[(.int p1), (.int p2), (.int p3)] maxLocals)) t := fun t kt => by
            refine pre67 t ?_
            refine XS.iload X66.here hx rfl (hb hby at_147) rfl ?_
            show Steps p.tables e below (T66.setTop (mkF m 149 #[.val (.int p1), .val (.int p2), .val (.int p3), .val (.int (2 : Int32)), .val (.ref s_MARIADB), .val (.int (0 : Int32)), .val (.int (39 : Int32)), .val (.int (1 : Int32)), .val (.int (1 : Int32))] [(.int (1 : Int32)), (.int (r1 (39 : Int32) (1 : Int32) (1 : Int32)))])) _
            refine XS.icmpNo X66.here hx rfl (hb hby at_149) rfl (teq hc149).2 ?_
            show Steps p.tables e below (T66.setTop (mkF m 152 #[.val (.int p1), .val (.int p2), .val (.int p3), .val (.int (2 : Int32)), .val (.ref s_MARIADB), .val (.int (0 : Int32)), .val (.int (39 : Int32)), .val (.int (1 : Int32)), .val (.int (1 : Int32))] [])) _
            refine XS.iconst X66.here hx rfl (hb hby at_152) ?_
            show Steps p.tables e below (T66.setTop (mkF m 153 #[.val (.int p1), .val (.int p2), .val (.int p3), .val (.int (2 : Int32)), .val (.ref s_MARIADB), .val (.int (0 : Int32)), .val (.int (39 : Int32)), .val (.int (1 : Int32)), .val (.int (1 : Int32))] [(.int (1 : Int32))])) _
            refine XS.goto X66.here hx rfl (pc0 := 153) (pc' := 157) rfl (hb hby at_153) (by decide) (by decide) ?_
            show Steps p.tables e below (T66.setTop (mkF m 157 #[.val (.int p1), .val (.int p2), .val (.int p3), .val (.int (2 : Int32)), .val (.ref s_MARIADB), .val (.int (0 : Int32)), .val (.int (39 : Int32)), .val (.int (1 : Int32)), .val (.int (1 : Int32))] [(.int (1 : Int32))])) _
            exact kt
          obtain ⟨fs, hr, hrun, hended, hW, hsame⟩ := X66.leave (v := some (.int (1 : Int32))) (fun h => by rw [Bd.returns] at h; cases h)
          refine ⟨_, _, pre68 _ ?_, hrun, hended, _, _, rfl, ?_, ⟨_, rfl⟩, hW, hsame.mono (by decide) (by decide)⟩
          · exact retN X66 hx (t := .boolean) Bd.returns (by simp) (hb hby at_157) hr
          · show Q0 Z p1 p2 p3 s_STANDARD s_POSTGRESQL s_MARIADB s_MARIADB_ANSI_QUOTES h0 n0 _ T66.heap _
            rw [e66]
            exact ⟨rfl, N66⟩
        · skip
          by_cases hc67 : sel = (1 : Int32)
          · skip
            have pre69 : ∀ t, Steps p.tables e below (T61.setTop (mkF m 70 #[.val (.int p1), .val (.int p2), .val (.int p3), .val (.int (2 : Int32)), .val (.ref s_MARIADB), .val (.int sel), .unset, .unset, .unset] [])) t → Steps p.tables e below (s₁.setTop (entryFrame m #[(.int p1), (.int p2), (.int p3)] maxLocals)) t := fun t kt => by
              refine pre63 t ?_
              refine XS.iload X61.here hx rfl (hb hby at_52) rfl ?_
              show Steps p.tables e below (T61.setTop (mkF m 54 #[.val (.int p1), .val (.int p2), .val (.int p3), .val (.int (2 : Int32)), .val (.ref s_MARIADB), .val (.int sel), .unset, .unset, .unset] [(.int sel)])) _
              refine XS.ifYes X61.here hx rfl (pc0 := 54) (pc' := 64) rfl (hb hby at_54) rfl ((if0 _ _).trans (feq hc54).2) (by decide) (by decide) ?_
              show Steps p.tables e below (T61.setTop (mkF m 64 #[.val (.int p1), .val (.int p2), .val (.int p3), .val (.int (2 : Int32)), .val (.ref s_MARIADB), .val (.int sel), .unset, .unset, .unset] [])) _
              refine XS.iload X61.here hx rfl (hb hby at_64) rfl ?_
              show Steps p.tables e below (T61.setTop (mkF m 66 #[.val (.int p1), .val (.int p2), .val (.int p3), .val (.int (2 : Int32)), .val (.ref s_MARIADB), .val (.int sel), .unset, .unset, .unset] [(.int sel)])) _
              refine XS.iconst X61.here hx rfl (hb hby at_66) ?_
              show Steps p.tables e below (T61.setTop (mkF m 67 #[.val (.int p1), .val (.int p2), .val (.int p3), .val (.int (2 : Int32)), .val (.ref s_MARIADB), .val (.int sel), .unset, .unset, .unset] [(.int (1 : Int32)), (.int sel)])) _
              refine XS.icmpNo X61.here hx rfl (hb hby at_67) rfl (teq hc67).2 ?_
              show Steps p.tables e below (T61.setTop (mkF m 70 #[.val (.int p1), .val (.int p2), .val (.int p3), .val (.int (2 : Int32)), .val (.ref s_MARIADB), .val (.int sel), .unset, .unset, .unset] [])) _
              exact kt
            subst hc67
            have pre70 : ∀ t, Steps p.tables e below (T61.setTop (mkF m 144 #[.val (.int p1), .val (.int p2), .val (.int p3), .val (.int (2 : Int32)), .val (.ref s_MARIADB), .val (.int (1 : Int32)), .val (.int (34 : Int32)), .val (.int (1 : Int32)), .val (.int (1 : Int32))] [(.int (34 : Int32)), (.ref s_MARIADB)])) t → Steps p.tables e below (s₁.setTop (entryFrame m #[(.int p1), (.int p2), (.int p3)] maxLocals)) t := fun t kt => by
              refine pre69 t ?_
              refine XS.bipush X61.here hx rfl (hb hby at_70) ?_
              show Steps p.tables e below (T61.setTop (mkF m 72 #[.val (.int p1), .val (.int p2), .val (.int p3), .val (.int (2 : Int32)), .val (.ref s_MARIADB), .val (.int (1 : Int32)), .unset, .unset, .unset] [(.int (34 : Int32))])) _
              refine XS.istore X61.here hx rfl (hb hby at_72) rfl (l' := #[.val (.int p1), .val (.int p2), .val (.int p3), .val (.int (2 : Int32)), .val (.ref s_MARIADB), .val (.int (1 : Int32)), .val (.int (34 : Int32)), .unset, .unset]) rfl ?_
              show Steps p.tables e below (T61.setTop (mkF m 74 #[.val (.int p1), .val (.int p2), .val (.int p3), .val (.int (2 : Int32)), .val (.ref s_MARIADB), .val (.int (1 : Int32)), .val (.int (34 : Int32)), .unset, .unset] [])) _
              refine XS.goto X61.here hx rfl (pc0 := 74) (pc' := 84) rfl (hb hby at_74) (by decide) (by decide) ?_
              show Steps p.tables e below (T61.setTop (mkF m 84 #[.val (.int p1), .val (.int p2), .val (.int p3), .val (.int (2 : Int32)), .val (.ref s_MARIADB), .val (.int (1 : Int32)), .val (.int (34 : Int32)), .unset, .unset] [])) _
              refine XS.iloadN X61.here hx rfl (hb hby at_84) rfl ?_
              show Steps p.tables e below (T61.setTop (mkF m 85 #[.val (.int p1), .val (.int p2), .val (.int p3), .val (.int (2 : Int32)), .val (.ref s_MARIADB), .val (.int (1 : Int32)), .val (.int (34 : Int32)), .unset, .unset] [(.int (2 : Int32))])) _
              refine XS.iconst X61.here hx rfl (hb hby at_85) ?_
              show Steps p.tables e below (T61.setTop (mkF m 86 #[.val (.int p1), .val (.int p2), .val (.int p3), .val (.int (2 : Int32)), .val (.ref s_MARIADB), .val (.int (1 : Int32)), .val (.int (34 : Int32)), .unset, .unset] [(.int (2 : Int32)), (.int (2 : Int32))])) _
              refine XS.icmpYes X61.here hx rfl (pc0 := 86) (pc' := 94) rfl (hb hby at_86) rfl (teq (by decide : (2 : Int32) = (2 : Int32))).1 (by decide) (by decide) ?_
              show Steps p.tables e below (T61.setTop (mkF m 94 #[.val (.int p1), .val (.int p2), .val (.int p3), .val (.int (2 : Int32)), .val (.ref s_MARIADB), .val (.int (1 : Int32)), .val (.int (34 : Int32)), .unset, .unset] [])) _
              refine XS.iconst X61.here hx rfl (hb hby at_94) ?_
              show Steps p.tables e below (T61.setTop (mkF m 95 #[.val (.int p1), .val (.int p2), .val (.int p3), .val (.int (2 : Int32)), .val (.ref s_MARIADB), .val (.int (1 : Int32)), .val (.int (34 : Int32)), .unset, .unset] [(.int (1 : Int32))])) _
              refine XS.goto X61.here hx rfl (pc0 := 95) (pc' := 99) rfl (hb hby at_95) (by decide) (by decide) ?_
              show Steps p.tables e below (T61.setTop (mkF m 99 #[.val (.int p1), .val (.int p2), .val (.int p3), .val (.int (2 : Int32)), .val (.ref s_MARIADB), .val (.int (1 : Int32)), .val (.int (34 : Int32)), .unset, .unset] [(.int (1 : Int32))])) _
              refine XS.istore X61.here hx rfl (hb hby at_99) rfl (l' := #[.val (.int p1), .val (.int p2), .val (.int p3), .val (.int (2 : Int32)), .val (.ref s_MARIADB), .val (.int (1 : Int32)), .val (.int (34 : Int32)), .val (.int (1 : Int32)), .unset]) rfl ?_
              show Steps p.tables e below (T61.setTop (mkF m 101 #[.val (.int p1), .val (.int p2), .val (.int p3), .val (.int (2 : Int32)), .val (.ref s_MARIADB), .val (.int (1 : Int32)), .val (.int (34 : Int32)), .val (.int (1 : Int32)), .unset] [])) _
              refine XS.iload X61.here hx rfl (hb hby at_101) rfl ?_
              show Steps p.tables e below (T61.setTop (mkF m 103 #[.val (.int p1), .val (.int p2), .val (.int p3), .val (.int (2 : Int32)), .val (.ref s_MARIADB), .val (.int (1 : Int32)), .val (.int (34 : Int32)), .val (.int (1 : Int32)), .unset] [(.int (34 : Int32))])) _
              refine XS.bipush X61.here hx rfl (hb hby at_103) ?_
              show Steps p.tables e below (T61.setTop (mkF m 105 #[.val (.int p1), .val (.int p2), .val (.int p3), .val (.int (2 : Int32)), .val (.ref s_MARIADB), .val (.int (1 : Int32)), .val (.int (34 : Int32)), .val (.int (1 : Int32)), .unset] [(.int (39 : Int32)), (.int (34 : Int32))])) _
              refine XS.icmpYes X61.here hx rfl (pc0 := 105) (pc' := 115) rfl (hb hby at_105) rfl (feq (by decide : ¬ ((34 : Int32) = (39 : Int32)))).2 (by decide) (by decide) ?_
              show Steps p.tables e below (T61.setTop (mkF m 115 #[.val (.int p1), .val (.int p2), .val (.int p3), .val (.int (2 : Int32)), .val (.ref s_MARIADB), .val (.int (1 : Int32)), .val (.int (34 : Int32)), .val (.int (1 : Int32)), .unset] [])) _
              refine XS.iload X61.here hx rfl (hb hby at_115) rfl ?_
              show Steps p.tables e below (T61.setTop (mkF m 117 #[.val (.int p1), .val (.int p2), .val (.int p3), .val (.int (2 : Int32)), .val (.ref s_MARIADB), .val (.int (1 : Int32)), .val (.int (34 : Int32)), .val (.int (1 : Int32)), .unset] [(.int (34 : Int32))])) _
              refine XS.bipush X61.here hx rfl (hb hby at_117) ?_
              show Steps p.tables e below (T61.setTop (mkF m 119 #[.val (.int p1), .val (.int p2), .val (.int p3), .val (.int (2 : Int32)), .val (.ref s_MARIADB), .val (.int (1 : Int32)), .val (.int (34 : Int32)), .val (.int (1 : Int32)), .unset] [(.int (34 : Int32)), (.int (34 : Int32))])) _
              refine XS.icmpNo X61.here hx rfl (hb hby at_119) rfl (teq (by decide : (34 : Int32) = (34 : Int32))).2 ?_
              show Steps p.tables e below (T61.setTop (mkF m 122 #[.val (.int p1), .val (.int p2), .val (.int p3), .val (.int (2 : Int32)), .val (.ref s_MARIADB), .val (.int (1 : Int32)), .val (.int (34 : Int32)), .val (.int (1 : Int32)), .unset] [])) _
              refine XS.iloadN X61.here hx rfl (hb hby at_122) rfl ?_
              show Steps p.tables e below (T61.setTop (mkF m 123 #[.val (.int p1), .val (.int p2), .val (.int p3), .val (.int (2 : Int32)), .val (.ref s_MARIADB), .val (.int (1 : Int32)), .val (.int (34 : Int32)), .val (.int (1 : Int32)), .unset] [(.int (2 : Int32))])) _
              refine XS.iconst X61.here hx rfl (hb hby at_123) ?_
              show Steps p.tables e below (T61.setTop (mkF m 124 #[.val (.int p1), .val (.int p2), .val (.int p3), .val (.int (2 : Int32)), .val (.ref s_MARIADB), .val (.int (1 : Int32)), .val (.int (34 : Int32)), .val (.int (1 : Int32)), .unset] [(.int (2 : Int32)), (.int (2 : Int32))])) _
              refine XS.icmpNo X61.here hx rfl (hb hby at_124) rfl (teq (by decide : (2 : Int32) = (2 : Int32))).2 ?_
              show Steps p.tables e below (T61.setTop (mkF m 127 #[.val (.int p1), .val (.int p2), .val (.int p3), .val (.int (2 : Int32)), .val (.ref s_MARIADB), .val (.int (1 : Int32)), .val (.int (34 : Int32)), .val (.int (1 : Int32)), .unset] [])) _
              refine XS.iconst X61.here hx rfl (hb hby at_127) ?_
              show Steps p.tables e below (T61.setTop (mkF m 128 #[.val (.int p1), .val (.int p2), .val (.int p3), .val (.int (2 : Int32)), .val (.ref s_MARIADB), .val (.int (1 : Int32)), .val (.int (34 : Int32)), .val (.int (1 : Int32)), .unset] [(.int (1 : Int32))])) _
              refine XS.goto X61.here hx rfl (pc0 := 128) (pc' := 132) rfl (hb hby at_128) (by decide) (by decide) ?_
              show Steps p.tables e below (T61.setTop (mkF m 132 #[.val (.int p1), .val (.int p2), .val (.int p3), .val (.int (2 : Int32)), .val (.ref s_MARIADB), .val (.int (1 : Int32)), .val (.int (34 : Int32)), .val (.int (1 : Int32)), .unset] [(.int (1 : Int32))])) _
              refine XS.istore X61.here hx rfl (hb hby at_132) rfl (l' := #[.val (.int p1), .val (.int p2), .val (.int p3), .val (.int (2 : Int32)), .val (.ref s_MARIADB), .val (.int (1 : Int32)), .val (.int (34 : Int32)), .val (.int (1 : Int32)), .val (.int (1 : Int32))]) rfl ?_
              show Steps p.tables e below (T61.setTop (mkF m 134 #[.val (.int p1), .val (.int p2), .val (.int p3), .val (.int (2 : Int32)), .val (.ref s_MARIADB), .val (.int (1 : Int32)), .val (.int (34 : Int32)), .val (.int (1 : Int32)), .val (.int (1 : Int32))] [])) _
              refine XS.goto X61.here hx rfl (pc0 := 134) (pc' := 140) rfl (hb hby at_134) (by decide) (by decide) ?_
              show Steps p.tables e below (T61.setTop (mkF m 140 #[.val (.int p1), .val (.int p2), .val (.int p3), .val (.int (2 : Int32)), .val (.ref s_MARIADB), .val (.int (1 : Int32)), .val (.int (34 : Int32)), .val (.int (1 : Int32)), .val (.int (1 : Int32))] [])) _
              refine XS.aload X61.here hx rfl (hb hby at_140) rfl rfl ?_
              show Steps p.tables e below (T61.setTop (mkF m 142 #[.val (.int p1), .val (.int p2), .val (.int p3), .val (.int (2 : Int32)), .val (.ref s_MARIADB), .val (.int (1 : Int32)), .val (.int (34 : Int32)), .val (.int (1 : Int32)), .val (.int (1 : Int32))] [(.ref s_MARIADB)])) _
              refine XS.iload X61.here hx rfl (hb hby at_142) rfl ?_
              show Steps p.tables e below (T61.setTop (mkF m 144 #[.val (.int p1), .val (.int p2), .val (.int p3), .val (.int (2 : Int32)), .val (.ref s_MARIADB), .val (.int (1 : Int32)), .val (.int (34 : Int32)), .val (.int (1 : Int32)), .val (.int (1 : Int32))] [(.int (34 : Int32)), (.ref s_MARIADB)])) _
              exact kt
            obtain ⟨cq71, kq71, q71a, q71b, q71c⟩ := isOf hZ e61 E_s_MARIADB
            obtain ⟨_, _, ⟨T71, L71, k71, n71⟩, -, X71, ⟨Lc71, hQ71, l71, y71, z71⟩, st71⟩ := X61.virtualBack hx (y := (⟨"com/example/ready_ledger/readyledger/jdbc/SqlDialect", "backslashEscapes", "(C)Z"⟩ : MethodName)) (z := (⟨"com/example/ready_ledger/readyledger/jdbc/SqlDialect", "backslashEscapes", "(C)Z"⟩ : MethodName)) hown (mvT hZ (hw _ (mgE 4 rfl))) (mvT hZ (hw _ (mgE 5 rfl))) (notFace_of_selects (args := #[]) (mvT hZ (hw _ (mgE 7 rfl)))) (mvT hZ (hw _ (mgE 7 rfl))) (mvT hZ (hw _ (mgE 6 rfl))) (by decide) (backOf (W := 0) (rm1 l Z a0 hw [] s_MARIADB (34 : Int32) (1 : Int32) (1 : Int32) h0 n0 Z0 F_backslashInSingleQuotes_s_MARIADB F_backslashInDoubleQuotes_s_MARIADB) hZ (hw _ (mgE 8 rfl)) (hw _ (mgE 1 rfl)) (by decide) (by decide)) q71a q71c (g := (mkF m 144 #[.val (.int p1), .val (.int p2), .val (.int p3), .val (.int (2 : Int32)), .val (.ref s_MARIADB), .val (.int (1 : Int32)), .val (.int (34 : Int32)), .val (.int (1 : Int32)), .val (.int (1 : Int32))] [(.int (34 : Int32)), (.ref s_MARIADB)])) rfl (by rw [hml]; rfl) (Steps.refl _) (argsL := [(.int (34 : Int32))]) (rest := []) (lenOf pd__C_Z rfl) rfl (by show 2 * 0 + _ ≤ _; exact Nat.le_of_eq rfl) (hb hby at_144) (fun _ _ => ⟨rfl, e61, (by decide : 0 + 0 ≤ _), (by decide : 0 + 0 ≤ _)⟩)
            dsimp only [Pt.U, Pt.locs, Pt.cells, Pt.slots] at X71 l71 y71 z71 st71 hQ71
            subst l71 y71 z71
            obtain ⟨rfl, N71q, e71⟩ := hQ71
            have pre72 : ∀ t, Steps p.tables e below (T71.setTop (mkF m 147 #[.val (.int p1), .val (.int p2), .val (.int p3), .val (.int (2 : Int32)), .val (.ref s_MARIADB), .val (.int (1 : Int32)), .val (.int (34 : Int32)), .val (.int (1 : Int32)), .val (.int (1 : Int32))] [(.int (r1 (34 : Int32) (1 : Int32) (1 : Int32)))])) t → Steps p.tables e below (s₁.setTop (entryFrame m #[(.int p1), (.int p2), (.int p3)] maxLocals)) t := fun t kt => pre70 t (st71.trans kt)
            have N71 := Fr.app N0 N71q
            have hc149 : (r1 (34 : Int32) (1 : Int32) (1 : Int32)) = (1 : Int32) := by first | rfl | decide | (simp only [r1, if_neg hc18]; done) | (simp only [r1, if_neg hc18]; first | rfl | decide)
            have pre73 : ∀ t, Steps p.tables e below (T71.setTop (mkF m 157 #[.val (.int p1), .val (.int p2), .val (.int p3), .val (.int (2 : Int32)), .val (.ref s_MARIADB), .val (.int (1 : Int32)), .val (.int (34 : Int32)), .val (.int (1 : Int32)), .val (.int (1 : Int32))] [(.int (1 : Int32))])) t → Steps p.tables e below (s₁.setTop (entryFrame m #[(.int p1), (.int p2), (.int p3)] maxLocals)) t := fun t kt => by
              refine pre72 t ?_
              refine XS.iload X71.here hx rfl (hb hby at_147) rfl ?_
              show Steps p.tables e below (T71.setTop (mkF m 149 #[.val (.int p1), .val (.int p2), .val (.int p3), .val (.int (2 : Int32)), .val (.ref s_MARIADB), .val (.int (1 : Int32)), .val (.int (34 : Int32)), .val (.int (1 : Int32)), .val (.int (1 : Int32))] [(.int (1 : Int32)), (.int (r1 (34 : Int32) (1 : Int32) (1 : Int32)))])) _
              refine XS.icmpNo X71.here hx rfl (hb hby at_149) rfl (teq hc149).2 ?_
              show Steps p.tables e below (T71.setTop (mkF m 152 #[.val (.int p1), .val (.int p2), .val (.int p3), .val (.int (2 : Int32)), .val (.ref s_MARIADB), .val (.int (1 : Int32)), .val (.int (34 : Int32)), .val (.int (1 : Int32)), .val (.int (1 : Int32))] [])) _
              refine XS.iconst X71.here hx rfl (hb hby at_152) ?_
              show Steps p.tables e below (T71.setTop (mkF m 153 #[.val (.int p1), .val (.int p2), .val (.int p3), .val (.int (2 : Int32)), .val (.ref s_MARIADB), .val (.int (1 : Int32)), .val (.int (34 : Int32)), .val (.int (1 : Int32)), .val (.int (1 : Int32))] [(.int (1 : Int32))])) _
              refine XS.goto X71.here hx rfl (pc0 := 153) (pc' := 157) rfl (hb hby at_153) (by decide) (by decide) ?_
              show Steps p.tables e below (T71.setTop (mkF m 157 #[.val (.int p1), .val (.int p2), .val (.int p3), .val (.int (2 : Int32)), .val (.ref s_MARIADB), .val (.int (1 : Int32)), .val (.int (34 : Int32)), .val (.int (1 : Int32)), .val (.int (1 : Int32))] [(.int (1 : Int32))])) _
              exact kt
            obtain ⟨fs, hr, hrun, hended, hW, hsame⟩ := X71.leave (v := some (.int (1 : Int32))) (fun h => by rw [Bd.returns] at h; cases h)
            refine ⟨_, _, pre73 _ ?_, hrun, hended, _, _, rfl, ?_, ⟨_, rfl⟩, hW, hsame.mono (by decide) (by decide)⟩
            · exact retN X71 hx (t := .boolean) Bd.returns (by simp) (hb hby at_157) hr
            · show Q0 Z p1 p2 p3 s_STANDARD s_POSTGRESQL s_MARIADB s_MARIADB_ANSI_QUOTES h0 n0 _ T71.heap _
              rw [e71]
              exact ⟨rfl, N71⟩
          · skip
            have pre74 : ∀ t, Steps p.tables e below (T61.setTop (mkF m 84 #[.val (.int p1), .val (.int p2), .val (.int p3), .val (.int (2 : Int32)), .val (.ref s_MARIADB), .val (.int sel), .val (.int ((p3 &&& (65535 : Int32)).toUInt32.toUInt16.toUInt32.toInt32)), .unset, .unset] [])) t → Steps p.tables e below (s₁.setTop (entryFrame m #[(.int p1), (.int p2), (.int p3)] maxLocals)) t := fun t kt => by
              refine pre63 t ?_
              refine XS.iload X61.here hx rfl (hb hby at_52) rfl ?_
              show Steps p.tables e below (T61.setTop (mkF m 54 #[.val (.int p1), .val (.int p2), .val (.int p3), .val (.int (2 : Int32)), .val (.ref s_MARIADB), .val (.int sel), .unset, .unset, .unset] [(.int sel)])) _
              refine XS.ifYes X61.here hx rfl (pc0 := 54) (pc' := 64) rfl (hb hby at_54) rfl ((if0 _ _).trans (feq hc54).2) (by decide) (by decide) ?_
              show Steps p.tables e below (T61.setTop (mkF m 64 #[.val (.int p1), .val (.int p2), .val (.int p3), .val (.int (2 : Int32)), .val (.ref s_MARIADB), .val (.int sel), .unset, .unset, .unset] [])) _
              refine XS.iload X61.here hx rfl (hb hby at_64) rfl ?_
              show Steps p.tables e below (T61.setTop (mkF m 66 #[.val (.int p1), .val (.int p2), .val (.int p3), .val (.int (2 : Int32)), .val (.ref s_MARIADB), .val (.int sel), .unset, .unset, .unset] [(.int sel)])) _
              refine XS.iconst X61.here hx rfl (hb hby at_66) ?_
              show Steps p.tables e below (T61.setTop (mkF m 67 #[.val (.int p1), .val (.int p2), .val (.int p3), .val (.int (2 : Int32)), .val (.ref s_MARIADB), .val (.int sel), .unset, .unset, .unset] [(.int (1 : Int32)), (.int sel)])) _
              refine XS.icmpYes X61.here hx rfl (pc0 := 67) (pc' := 77) rfl (hb hby at_67) rfl (feq hc67).2 (by decide) (by decide) ?_
              show Steps p.tables e below (T61.setTop (mkF m 77 #[.val (.int p1), .val (.int p2), .val (.int p3), .val (.int (2 : Int32)), .val (.ref s_MARIADB), .val (.int sel), .unset, .unset, .unset] [])) _
              refine XS.iloadN X61.here hx rfl (hb hby at_77) rfl ?_
              show Steps p.tables e below (T61.setTop (mkF m 78 #[.val (.int p1), .val (.int p2), .val (.int p3), .val (.int (2 : Int32)), .val (.ref s_MARIADB), .val (.int sel), .unset, .unset, .unset] [(.int p3)])) _
              refine X61.ldcInt hx hown (mvT hZ (hw _ (mgE 3 rfl))) (g := (mkF m 78 #[.val (.int p1), .val (.int p2), .val (.int p3), .val (.int (2 : Int32)), .val (.ref s_MARIADB), .val (.int sel), .unset, .unset, .unset] [(.int p3)])) rfl (hb hby at_78) _ ?_
              show Steps p.tables e below (T61.setTop (mkF m 80 #[.val (.int p1), .val (.int p2), .val (.int p3), .val (.int (2 : Int32)), .val (.ref s_MARIADB), .val (.int sel), .unset, .unset, .unset] [(.int (65535 : Int32)), (.int p3)])) _
              refine XS.iand X61.here hx rfl (hb hby at_80) rfl ?_
              show Steps p.tables e below (T61.setTop (mkF m 81 #[.val (.int p1), .val (.int p2), .val (.int p3), .val (.int (2 : Int32)), .val (.ref s_MARIADB), .val (.int sel), .unset, .unset, .unset] [(.int (p3 &&& (65535 : Int32)))])) _
              refine XS.i2c X61.here hx rfl (hb hby at_81) rfl ?_
              show Steps p.tables e below (T61.setTop (mkF m 82 #[.val (.int p1), .val (.int p2), .val (.int p3), .val (.int (2 : Int32)), .val (.ref s_MARIADB), .val (.int sel), .unset, .unset, .unset] [(.int ((p3 &&& (65535 : Int32)).toUInt32.toUInt16.toUInt32.toInt32))])) _
              refine XS.istore X61.here hx rfl (hb hby at_82) rfl (l' := #[.val (.int p1), .val (.int p2), .val (.int p3), .val (.int (2 : Int32)), .val (.ref s_MARIADB), .val (.int sel), .val (.int ((p3 &&& (65535 : Int32)).toUInt32.toUInt16.toUInt32.toInt32)), .unset, .unset]) rfl ?_
              show Steps p.tables e below (T61.setTop (mkF m 84 #[.val (.int p1), .val (.int p2), .val (.int p3), .val (.int (2 : Int32)), .val (.ref s_MARIADB), .val (.int sel), .val (.int ((p3 &&& (65535 : Int32)).toUInt32.toUInt16.toUInt32.toInt32)), .unset, .unset] [])) _
              exact kt
            obtain ⟨qq, h_qq⟩ : ∃ z, z = ((p3 &&& (65535 : Int32)).toUInt32.toUInt16.toUInt32.toInt32) := ⟨_, rfl⟩
            rw [← h_qq] at pre74
            by_cases hc105 : qq = (39 : Int32)
            · skip
              have pre75 : ∀ t, Steps p.tables e below (T61.setTop (mkF m 108 #[.val (.int p1), .val (.int p2), .val (.int p3), .val (.int (2 : Int32)), .val (.ref s_MARIADB), .val (.int sel), .val (.int qq), .val (.int (1 : Int32)), .unset] [])) t → Steps p.tables e below (s₁.setTop (entryFrame m #[(.int p1), (.int p2), (.int p3)] maxLocals)) t := fun t kt => by
                refine pre74 t ?_
                refine XS.iloadN X61.here hx rfl (hb hby at_84) rfl ?_
                show Steps p.tables e below (T61.setTop (mkF m 85 #[.val (.int p1), .val (.int p2), .val (.int p3), .val (.int (2 : Int32)), .val (.ref s_MARIADB), .val (.int sel), .val (.int qq), .unset, .unset] [(.int (2 : Int32))])) _
                refine XS.iconst X61.here hx rfl (hb hby at_85) ?_
                show Steps p.tables e below (T61.setTop (mkF m 86 #[.val (.int p1), .val (.int p2), .val (.int p3), .val (.int (2 : Int32)), .val (.ref s_MARIADB), .val (.int sel), .val (.int qq), .unset, .unset] [(.int (2 : Int32)), (.int (2 : Int32))])) _
                refine XS.icmpYes X61.here hx rfl (pc0 := 86) (pc' := 94) rfl (hb hby at_86) rfl (teq (by decide : (2 : Int32) = (2 : Int32))).1 (by decide) (by decide) ?_
                show Steps p.tables e below (T61.setTop (mkF m 94 #[.val (.int p1), .val (.int p2), .val (.int p3), .val (.int (2 : Int32)), .val (.ref s_MARIADB), .val (.int sel), .val (.int qq), .unset, .unset] [])) _
                refine XS.iconst X61.here hx rfl (hb hby at_94) ?_
                show Steps p.tables e below (T61.setTop (mkF m 95 #[.val (.int p1), .val (.int p2), .val (.int p3), .val (.int (2 : Int32)), .val (.ref s_MARIADB), .val (.int sel), .val (.int qq), .unset, .unset] [(.int (1 : Int32))])) _
                refine XS.goto X61.here hx rfl (pc0 := 95) (pc' := 99) rfl (hb hby at_95) (by decide) (by decide) ?_
                show Steps p.tables e below (T61.setTop (mkF m 99 #[.val (.int p1), .val (.int p2), .val (.int p3), .val (.int (2 : Int32)), .val (.ref s_MARIADB), .val (.int sel), .val (.int qq), .unset, .unset] [(.int (1 : Int32))])) _
                refine XS.istore X61.here hx rfl (hb hby at_99) rfl (l' := #[.val (.int p1), .val (.int p2), .val (.int p3), .val (.int (2 : Int32)), .val (.ref s_MARIADB), .val (.int sel), .val (.int qq), .val (.int (1 : Int32)), .unset]) rfl ?_
                show Steps p.tables e below (T61.setTop (mkF m 101 #[.val (.int p1), .val (.int p2), .val (.int p3), .val (.int (2 : Int32)), .val (.ref s_MARIADB), .val (.int sel), .val (.int qq), .val (.int (1 : Int32)), .unset] [])) _
                refine XS.iload X61.here hx rfl (hb hby at_101) rfl ?_
                show Steps p.tables e below (T61.setTop (mkF m 103 #[.val (.int p1), .val (.int p2), .val (.int p3), .val (.int (2 : Int32)), .val (.ref s_MARIADB), .val (.int sel), .val (.int qq), .val (.int (1 : Int32)), .unset] [(.int qq)])) _
                refine XS.bipush X61.here hx rfl (hb hby at_103) ?_
                show Steps p.tables e below (T61.setTop (mkF m 105 #[.val (.int p1), .val (.int p2), .val (.int p3), .val (.int (2 : Int32)), .val (.ref s_MARIADB), .val (.int sel), .val (.int qq), .val (.int (1 : Int32)), .unset] [(.int (39 : Int32)), (.int qq)])) _
                refine XS.icmpNo X61.here hx rfl (hb hby at_105) rfl (teq hc105).2 ?_
                show Steps p.tables e below (T61.setTop (mkF m 108 #[.val (.int p1), .val (.int p2), .val (.int p3), .val (.int (2 : Int32)), .val (.ref s_MARIADB), .val (.int sel), .val (.int qq), .val (.int (1 : Int32)), .unset] [])) _
                exact kt
              subst hc105
              have pre76 : ∀ t, Steps p.tables e below (T61.setTop (mkF m 144 #[.val (.int p1), .val (.int p2), .val (.int p3), .val (.int (2 : Int32)), .val (.ref s_MARIADB), .val (.int sel), .val (.int (39 : Int32)), .val (.int (1 : Int32)), .val (.int (1 : Int32))] [(.int (39 : Int32)), (.ref s_MARIADB)])) t → Steps p.tables e below (s₁.setTop (entryFrame m #[(.int p1), (.int p2), (.int p3)] maxLocals)) t := fun t kt => by
                refine pre75 t ?_
                refine XS.iload X61.here hx rfl (hb hby at_108) rfl ?_
                show Steps p.tables e below (T61.setTop (mkF m 110 #[.val (.int p1), .val (.int p2), .val (.int p3), .val (.int (2 : Int32)), .val (.ref s_MARIADB), .val (.int sel), .val (.int (39 : Int32)), .val (.int (1 : Int32)), .unset] [(.int (1 : Int32))])) _
                refine XS.istore X61.here hx rfl (hb hby at_110) rfl (l' := #[.val (.int p1), .val (.int p2), .val (.int p3), .val (.int (2 : Int32)), .val (.ref s_MARIADB), .val (.int sel), .val (.int (39 : Int32)), .val (.int (1 : Int32)), .val (.int (1 : Int32))]) rfl ?_
                show Steps p.tables e below (T61.setTop (mkF m 112 #[.val (.int p1), .val (.int p2), .val (.int p3), .val (.int (2 : Int32)), .val (.ref s_MARIADB), .val (.int sel), .val (.int (39 : Int32)), .val (.int (1 : Int32)), .val (.int (1 : Int32))] [])) _
                refine XS.goto X61.here hx rfl (pc0 := 112) (pc' := 140) rfl (hb hby at_112) (by decide) (by decide) ?_
                show Steps p.tables e below (T61.setTop (mkF m 140 #[.val (.int p1), .val (.int p2), .val (.int p3), .val (.int (2 : Int32)), .val (.ref s_MARIADB), .val (.int sel), .val (.int (39 : Int32)), .val (.int (1 : Int32)), .val (.int (1 : Int32))] [])) _
                refine XS.aload X61.here hx rfl (hb hby at_140) rfl rfl ?_
                show Steps p.tables e below (T61.setTop (mkF m 142 #[.val (.int p1), .val (.int p2), .val (.int p3), .val (.int (2 : Int32)), .val (.ref s_MARIADB), .val (.int sel), .val (.int (39 : Int32)), .val (.int (1 : Int32)), .val (.int (1 : Int32))] [(.ref s_MARIADB)])) _
                refine XS.iload X61.here hx rfl (hb hby at_142) rfl ?_
                show Steps p.tables e below (T61.setTop (mkF m 144 #[.val (.int p1), .val (.int p2), .val (.int p3), .val (.int (2 : Int32)), .val (.ref s_MARIADB), .val (.int sel), .val (.int (39 : Int32)), .val (.int (1 : Int32)), .val (.int (1 : Int32))] [(.int (39 : Int32)), (.ref s_MARIADB)])) _
                exact kt
              obtain ⟨cq77, kq77, q77a, q77b, q77c⟩ := isOf hZ e61 E_s_MARIADB
              obtain ⟨_, _, ⟨T77, L77, k77, n77⟩, -, X77, ⟨Lc77, hQ77, l77, y77, z77⟩, st77⟩ := X61.virtualBack hx (y := (⟨"com/example/ready_ledger/readyledger/jdbc/SqlDialect", "backslashEscapes", "(C)Z"⟩ : MethodName)) (z := (⟨"com/example/ready_ledger/readyledger/jdbc/SqlDialect", "backslashEscapes", "(C)Z"⟩ : MethodName)) hown (mvT hZ (hw _ (mgE 4 rfl))) (mvT hZ (hw _ (mgE 5 rfl))) (notFace_of_selects (args := #[]) (mvT hZ (hw _ (mgE 7 rfl)))) (mvT hZ (hw _ (mgE 7 rfl))) (mvT hZ (hw _ (mgE 6 rfl))) (by decide) (backOf (W := 0) (rm1 l Z a0 hw [] s_MARIADB (39 : Int32) (1 : Int32) (1 : Int32) h0 n0 Z0 F_backslashInSingleQuotes_s_MARIADB F_backslashInDoubleQuotes_s_MARIADB) hZ (hw _ (mgE 8 rfl)) (hw _ (mgE 1 rfl)) (by decide) (by decide)) q77a q77c (g := (mkF m 144 #[.val (.int p1), .val (.int p2), .val (.int p3), .val (.int (2 : Int32)), .val (.ref s_MARIADB), .val (.int sel), .val (.int (39 : Int32)), .val (.int (1 : Int32)), .val (.int (1 : Int32))] [(.int (39 : Int32)), (.ref s_MARIADB)])) rfl (by rw [hml]; rfl) (Steps.refl _) (argsL := [(.int (39 : Int32))]) (rest := []) (lenOf pd__C_Z rfl) rfl (by show 2 * 0 + _ ≤ _; exact Nat.le_of_eq rfl) (hb hby at_144) (fun _ _ => ⟨rfl, e61, (by decide : 0 + 0 ≤ _), (by decide : 0 + 0 ≤ _)⟩)
              dsimp only [Pt.U, Pt.locs, Pt.cells, Pt.slots] at X77 l77 y77 z77 st77 hQ77
              subst l77 y77 z77
              obtain ⟨rfl, N77q, e77⟩ := hQ77
              have pre78 : ∀ t, Steps p.tables e below (T77.setTop (mkF m 147 #[.val (.int p1), .val (.int p2), .val (.int p3), .val (.int (2 : Int32)), .val (.ref s_MARIADB), .val (.int sel), .val (.int (39 : Int32)), .val (.int (1 : Int32)), .val (.int (1 : Int32))] [(.int (r1 (39 : Int32) (1 : Int32) (1 : Int32)))])) t → Steps p.tables e below (s₁.setTop (entryFrame m #[(.int p1), (.int p2), (.int p3)] maxLocals)) t := fun t kt => pre76 t (st77.trans kt)
              have N77 := Fr.app N0 N77q
              have hc149 : (r1 (39 : Int32) (1 : Int32) (1 : Int32)) = (1 : Int32) := by first | rfl | decide | (simp only [r1, if_neg hc18]; done) | (simp only [r1, if_neg hc18]; first | rfl | decide)
              have pre79 : ∀ t, Steps p.tables e below (T77.setTop (mkF m 157 #[.val (.int p1), .val (.int p2), .val (.int p3), .val (.int (2 : Int32)), .val (.ref s_MARIADB), .val (.int sel), .val (.int (39 : Int32)), .val (.int (1 : Int32)), .val (.int (1 : Int32))] [(.int (1 : Int32))])) t → Steps p.tables e below (s₁.setTop (entryFrame m #[(.int p1), (.int p2), (.int p3)] maxLocals)) t := fun t kt => by
                refine pre78 t ?_
                refine XS.iload X77.here hx rfl (hb hby at_147) rfl ?_
                show Steps p.tables e below (T77.setTop (mkF m 149 #[.val (.int p1), .val (.int p2), .val (.int p3), .val (.int (2 : Int32)), .val (.ref s_MARIADB), .val (.int sel), .val (.int (39 : Int32)), .val (.int (1 : Int32)), .val (.int (1 : Int32))] [(.int (1 : Int32)), (.int (r1 (39 : Int32) (1 : Int32) (1 : Int32)))])) _
                refine XS.icmpNo X77.here hx rfl (hb hby at_149) rfl (teq hc149).2 ?_
                show Steps p.tables e below (T77.setTop (mkF m 152 #[.val (.int p1), .val (.int p2), .val (.int p3), .val (.int (2 : Int32)), .val (.ref s_MARIADB), .val (.int sel), .val (.int (39 : Int32)), .val (.int (1 : Int32)), .val (.int (1 : Int32))] [])) _
                refine XS.iconst X77.here hx rfl (hb hby at_152) ?_
                show Steps p.tables e below (T77.setTop (mkF m 153 #[.val (.int p1), .val (.int p2), .val (.int p3), .val (.int (2 : Int32)), .val (.ref s_MARIADB), .val (.int sel), .val (.int (39 : Int32)), .val (.int (1 : Int32)), .val (.int (1 : Int32))] [(.int (1 : Int32))])) _
                refine XS.goto X77.here hx rfl (pc0 := 153) (pc' := 157) rfl (hb hby at_153) (by decide) (by decide) ?_
                show Steps p.tables e below (T77.setTop (mkF m 157 #[.val (.int p1), .val (.int p2), .val (.int p3), .val (.int (2 : Int32)), .val (.ref s_MARIADB), .val (.int sel), .val (.int (39 : Int32)), .val (.int (1 : Int32)), .val (.int (1 : Int32))] [(.int (1 : Int32))])) _
                exact kt
              obtain ⟨fs, hr, hrun, hended, hW, hsame⟩ := X77.leave (v := some (.int (1 : Int32))) (fun h => by rw [Bd.returns] at h; cases h)
              refine ⟨_, _, pre79 _ ?_, hrun, hended, _, _, rfl, ?_, ⟨_, rfl⟩, hW, hsame.mono (by decide) (by decide)⟩
              · exact retN X77 hx (t := .boolean) Bd.returns (by simp) (hb hby at_157) hr
              · show Q0 Z p1 p2 p3 s_STANDARD s_POSTGRESQL s_MARIADB s_MARIADB_ANSI_QUOTES h0 n0 _ T77.heap _
                rw [e77]
                exact ⟨rfl, N77⟩
            · skip
              by_cases hc119 : qq = (34 : Int32)
              · skip
                have pre80 : ∀ t, Steps p.tables e below (T61.setTop (mkF m 122 #[.val (.int p1), .val (.int p2), .val (.int p3), .val (.int (2 : Int32)), .val (.ref s_MARIADB), .val (.int sel), .val (.int qq), .val (.int (1 : Int32)), .unset] [])) t → Steps p.tables e below (s₁.setTop (entryFrame m #[(.int p1), (.int p2), (.int p3)] maxLocals)) t := fun t kt => by
                  refine pre74 t ?_
                  refine XS.iloadN X61.here hx rfl (hb hby at_84) rfl ?_
                  show Steps p.tables e below (T61.setTop (mkF m 85 #[.val (.int p1), .val (.int p2), .val (.int p3), .val (.int (2 : Int32)), .val (.ref s_MARIADB), .val (.int sel), .val (.int qq), .unset, .unset] [(.int (2 : Int32))])) _
                  refine XS.iconst X61.here hx rfl (hb hby at_85) ?_
                  show Steps p.tables e below (T61.setTop (mkF m 86 #[.val (.int p1), .val (.int p2), .val (.int p3), .val (.int (2 : Int32)), .val (.ref s_MARIADB), .val (.int sel), .val (.int qq), .unset, .unset] [(.int (2 : Int32)), (.int (2 : Int32))])) _
                  refine XS.icmpYes X61.here hx rfl (pc0 := 86) (pc' := 94) rfl (hb hby at_86) rfl (teq (by decide : (2 : Int32) = (2 : Int32))).1 (by decide) (by decide) ?_
                  show Steps p.tables e below (T61.setTop (mkF m 94 #[.val (.int p1), .val (.int p2), .val (.int p3), .val (.int (2 : Int32)), .val (.ref s_MARIADB), .val (.int sel), .val (.int qq), .unset, .unset] [])) _
                  refine XS.iconst X61.here hx rfl (hb hby at_94) ?_
                  show Steps p.tables e below (T61.setTop (mkF m 95 #[.val (.int p1), .val (.int p2), .val (.int p3), .val (.int (2 : Int32)), .val (.ref s_MARIADB), .val (.int sel), .val (.int qq), .unset, .unset] [(.int (1 : Int32))])) _
                  refine XS.goto X61.here hx rfl (pc0 := 95) (pc' := 99) rfl (hb hby at_95) (by decide) (by decide) ?_
                  show Steps p.tables e below (T61.setTop (mkF m 99 #[.val (.int p1), .val (.int p2), .val (.int p3), .val (.int (2 : Int32)), .val (.ref s_MARIADB), .val (.int sel), .val (.int qq), .unset, .unset] [(.int (1 : Int32))])) _
                  refine XS.istore X61.here hx rfl (hb hby at_99) rfl (l' := #[.val (.int p1), .val (.int p2), .val (.int p3), .val (.int (2 : Int32)), .val (.ref s_MARIADB), .val (.int sel), .val (.int qq), .val (.int (1 : Int32)), .unset]) rfl ?_
                  show Steps p.tables e below (T61.setTop (mkF m 101 #[.val (.int p1), .val (.int p2), .val (.int p3), .val (.int (2 : Int32)), .val (.ref s_MARIADB), .val (.int sel), .val (.int qq), .val (.int (1 : Int32)), .unset] [])) _
                  refine XS.iload X61.here hx rfl (hb hby at_101) rfl ?_
                  show Steps p.tables e below (T61.setTop (mkF m 103 #[.val (.int p1), .val (.int p2), .val (.int p3), .val (.int (2 : Int32)), .val (.ref s_MARIADB), .val (.int sel), .val (.int qq), .val (.int (1 : Int32)), .unset] [(.int qq)])) _
                  refine XS.bipush X61.here hx rfl (hb hby at_103) ?_
                  show Steps p.tables e below (T61.setTop (mkF m 105 #[.val (.int p1), .val (.int p2), .val (.int p3), .val (.int (2 : Int32)), .val (.ref s_MARIADB), .val (.int sel), .val (.int qq), .val (.int (1 : Int32)), .unset] [(.int (39 : Int32)), (.int qq)])) _
                  refine XS.icmpYes X61.here hx rfl (pc0 := 105) (pc' := 115) rfl (hb hby at_105) rfl (feq hc105).2 (by decide) (by decide) ?_
                  show Steps p.tables e below (T61.setTop (mkF m 115 #[.val (.int p1), .val (.int p2), .val (.int p3), .val (.int (2 : Int32)), .val (.ref s_MARIADB), .val (.int sel), .val (.int qq), .val (.int (1 : Int32)), .unset] [])) _
                  refine XS.iload X61.here hx rfl (hb hby at_115) rfl ?_
                  show Steps p.tables e below (T61.setTop (mkF m 117 #[.val (.int p1), .val (.int p2), .val (.int p3), .val (.int (2 : Int32)), .val (.ref s_MARIADB), .val (.int sel), .val (.int qq), .val (.int (1 : Int32)), .unset] [(.int qq)])) _
                  refine XS.bipush X61.here hx rfl (hb hby at_117) ?_
                  show Steps p.tables e below (T61.setTop (mkF m 119 #[.val (.int p1), .val (.int p2), .val (.int p3), .val (.int (2 : Int32)), .val (.ref s_MARIADB), .val (.int sel), .val (.int qq), .val (.int (1 : Int32)), .unset] [(.int (34 : Int32)), (.int qq)])) _
                  refine XS.icmpNo X61.here hx rfl (hb hby at_119) rfl (teq hc119).2 ?_
                  show Steps p.tables e below (T61.setTop (mkF m 122 #[.val (.int p1), .val (.int p2), .val (.int p3), .val (.int (2 : Int32)), .val (.ref s_MARIADB), .val (.int sel), .val (.int qq), .val (.int (1 : Int32)), .unset] [])) _
                  exact kt
                subst hc119
                have pre81 : ∀ t, Steps p.tables e below (T61.setTop (mkF m 144 #[.val (.int p1), .val (.int p2), .val (.int p3), .val (.int (2 : Int32)), .val (.ref s_MARIADB), .val (.int sel), .val (.int (34 : Int32)), .val (.int (1 : Int32)), .val (.int (1 : Int32))] [(.int (34 : Int32)), (.ref s_MARIADB)])) t → Steps p.tables e below (s₁.setTop (entryFrame m #[(.int p1), (.int p2), (.int p3)] maxLocals)) t := fun t kt => by
                  refine pre80 t ?_
                  refine XS.iloadN X61.here hx rfl (hb hby at_122) rfl ?_
                  show Steps p.tables e below (T61.setTop (mkF m 123 #[.val (.int p1), .val (.int p2), .val (.int p3), .val (.int (2 : Int32)), .val (.ref s_MARIADB), .val (.int sel), .val (.int (34 : Int32)), .val (.int (1 : Int32)), .unset] [(.int (2 : Int32))])) _
                  refine XS.iconst X61.here hx rfl (hb hby at_123) ?_
                  show Steps p.tables e below (T61.setTop (mkF m 124 #[.val (.int p1), .val (.int p2), .val (.int p3), .val (.int (2 : Int32)), .val (.ref s_MARIADB), .val (.int sel), .val (.int (34 : Int32)), .val (.int (1 : Int32)), .unset] [(.int (2 : Int32)), (.int (2 : Int32))])) _
                  refine XS.icmpNo X61.here hx rfl (hb hby at_124) rfl (teq (by decide : (2 : Int32) = (2 : Int32))).2 ?_
                  show Steps p.tables e below (T61.setTop (mkF m 127 #[.val (.int p1), .val (.int p2), .val (.int p3), .val (.int (2 : Int32)), .val (.ref s_MARIADB), .val (.int sel), .val (.int (34 : Int32)), .val (.int (1 : Int32)), .unset] [])) _
                  refine XS.iconst X61.here hx rfl (hb hby at_127) ?_
                  show Steps p.tables e below (T61.setTop (mkF m 128 #[.val (.int p1), .val (.int p2), .val (.int p3), .val (.int (2 : Int32)), .val (.ref s_MARIADB), .val (.int sel), .val (.int (34 : Int32)), .val (.int (1 : Int32)), .unset] [(.int (1 : Int32))])) _
                  refine XS.goto X61.here hx rfl (pc0 := 128) (pc' := 132) rfl (hb hby at_128) (by decide) (by decide) ?_
                  show Steps p.tables e below (T61.setTop (mkF m 132 #[.val (.int p1), .val (.int p2), .val (.int p3), .val (.int (2 : Int32)), .val (.ref s_MARIADB), .val (.int sel), .val (.int (34 : Int32)), .val (.int (1 : Int32)), .unset] [(.int (1 : Int32))])) _
                  refine XS.istore X61.here hx rfl (hb hby at_132) rfl (l' := #[.val (.int p1), .val (.int p2), .val (.int p3), .val (.int (2 : Int32)), .val (.ref s_MARIADB), .val (.int sel), .val (.int (34 : Int32)), .val (.int (1 : Int32)), .val (.int (1 : Int32))]) rfl ?_
                  show Steps p.tables e below (T61.setTop (mkF m 134 #[.val (.int p1), .val (.int p2), .val (.int p3), .val (.int (2 : Int32)), .val (.ref s_MARIADB), .val (.int sel), .val (.int (34 : Int32)), .val (.int (1 : Int32)), .val (.int (1 : Int32))] [])) _
                  refine XS.goto X61.here hx rfl (pc0 := 134) (pc' := 140) rfl (hb hby at_134) (by decide) (by decide) ?_
                  show Steps p.tables e below (T61.setTop (mkF m 140 #[.val (.int p1), .val (.int p2), .val (.int p3), .val (.int (2 : Int32)), .val (.ref s_MARIADB), .val (.int sel), .val (.int (34 : Int32)), .val (.int (1 : Int32)), .val (.int (1 : Int32))] [])) _
                  refine XS.aload X61.here hx rfl (hb hby at_140) rfl rfl ?_
                  show Steps p.tables e below (T61.setTop (mkF m 142 #[.val (.int p1), .val (.int p2), .val (.int p3), .val (.int (2 : Int32)), .val (.ref s_MARIADB), .val (.int sel), .val (.int (34 : Int32)), .val (.int (1 : Int32)), .val (.int (1 : Int32))] [(.ref s_MARIADB)])) _
                  refine XS.iload X61.here hx rfl (hb hby at_142) rfl ?_
                  show Steps p.tables e below (T61.setTop (mkF m 144 #[.val (.int p1), .val (.int p2), .val (.int p3), .val (.int (2 : Int32)), .val (.ref s_MARIADB), .val (.int sel), .val (.int (34 : Int32)), .val (.int (1 : Int32)), .val (.int (1 : Int32))] [(.int (34 : Int32)), (.ref s_MARIADB)])) _
                  exact kt
                obtain ⟨cq82, kq82, q82a, q82b, q82c⟩ := isOf hZ e61 E_s_MARIADB
                obtain ⟨_, _, ⟨T82, L82, k82, n82⟩, -, X82, ⟨Lc82, hQ82, l82, y82, z82⟩, st82⟩ := X61.virtualBack hx (y := (⟨"com/example/ready_ledger/readyledger/jdbc/SqlDialect", "backslashEscapes", "(C)Z"⟩ : MethodName)) (z := (⟨"com/example/ready_ledger/readyledger/jdbc/SqlDialect", "backslashEscapes", "(C)Z"⟩ : MethodName)) hown (mvT hZ (hw _ (mgE 4 rfl))) (mvT hZ (hw _ (mgE 5 rfl))) (notFace_of_selects (args := #[]) (mvT hZ (hw _ (mgE 7 rfl)))) (mvT hZ (hw _ (mgE 7 rfl))) (mvT hZ (hw _ (mgE 6 rfl))) (by decide) (backOf (W := 0) (rm1 l Z a0 hw [] s_MARIADB (34 : Int32) (1 : Int32) (1 : Int32) h0 n0 Z0 F_backslashInSingleQuotes_s_MARIADB F_backslashInDoubleQuotes_s_MARIADB) hZ (hw _ (mgE 8 rfl)) (hw _ (mgE 1 rfl)) (by decide) (by decide)) q82a q82c (g := (mkF m 144 #[.val (.int p1), .val (.int p2), .val (.int p3), .val (.int (2 : Int32)), .val (.ref s_MARIADB), .val (.int sel), .val (.int (34 : Int32)), .val (.int (1 : Int32)), .val (.int (1 : Int32))] [(.int (34 : Int32)), (.ref s_MARIADB)])) rfl (by rw [hml]; rfl) (Steps.refl _) (argsL := [(.int (34 : Int32))]) (rest := []) (lenOf pd__C_Z rfl) rfl (by show 2 * 0 + _ ≤ _; exact Nat.le_of_eq rfl) (hb hby at_144) (fun _ _ => ⟨rfl, e61, (by decide : 0 + 0 ≤ _), (by decide : 0 + 0 ≤ _)⟩)
                dsimp only [Pt.U, Pt.locs, Pt.cells, Pt.slots] at X82 l82 y82 z82 st82 hQ82
                subst l82 y82 z82
                obtain ⟨rfl, N82q, e82⟩ := hQ82
                have pre83 : ∀ t, Steps p.tables e below (T82.setTop (mkF m 147 #[.val (.int p1), .val (.int p2), .val (.int p3), .val (.int (2 : Int32)), .val (.ref s_MARIADB), .val (.int sel), .val (.int (34 : Int32)), .val (.int (1 : Int32)), .val (.int (1 : Int32))] [(.int (r1 (34 : Int32) (1 : Int32) (1 : Int32)))])) t → Steps p.tables e below (s₁.setTop (entryFrame m #[(.int p1), (.int p2), (.int p3)] maxLocals)) t := fun t kt => pre81 t (st82.trans kt)
                have N82 := Fr.app N0 N82q
                have hc149 : (r1 (34 : Int32) (1 : Int32) (1 : Int32)) = (1 : Int32) := by first | rfl | decide | (simp only [r1, if_neg hc18, if_neg hc105]; done) | (simp only [r1, if_neg hc18, if_neg hc105]; first | rfl | decide)
                have pre84 : ∀ t, Steps p.tables e below (T82.setTop (mkF m 157 #[.val (.int p1), .val (.int p2), .val (.int p3), .val (.int (2 : Int32)), .val (.ref s_MARIADB), .val (.int sel), .val (.int (34 : Int32)), .val (.int (1 : Int32)), .val (.int (1 : Int32))] [(.int (1 : Int32))])) t → Steps p.tables e below (s₁.setTop (entryFrame m #[(.int p1), (.int p2), (.int p3)] maxLocals)) t := fun t kt => by
                  refine pre83 t ?_
                  refine XS.iload X82.here hx rfl (hb hby at_147) rfl ?_
                  show Steps p.tables e below (T82.setTop (mkF m 149 #[.val (.int p1), .val (.int p2), .val (.int p3), .val (.int (2 : Int32)), .val (.ref s_MARIADB), .val (.int sel), .val (.int (34 : Int32)), .val (.int (1 : Int32)), .val (.int (1 : Int32))] [(.int (1 : Int32)), (.int (r1 (34 : Int32) (1 : Int32) (1 : Int32)))])) _
                  refine XS.icmpNo X82.here hx rfl (hb hby at_149) rfl (teq hc149).2 ?_
                  show Steps p.tables e below (T82.setTop (mkF m 152 #[.val (.int p1), .val (.int p2), .val (.int p3), .val (.int (2 : Int32)), .val (.ref s_MARIADB), .val (.int sel), .val (.int (34 : Int32)), .val (.int (1 : Int32)), .val (.int (1 : Int32))] [])) _
                  refine XS.iconst X82.here hx rfl (hb hby at_152) ?_
                  show Steps p.tables e below (T82.setTop (mkF m 153 #[.val (.int p1), .val (.int p2), .val (.int p3), .val (.int (2 : Int32)), .val (.ref s_MARIADB), .val (.int sel), .val (.int (34 : Int32)), .val (.int (1 : Int32)), .val (.int (1 : Int32))] [(.int (1 : Int32))])) _
                  refine XS.goto X82.here hx rfl (pc0 := 153) (pc' := 157) rfl (hb hby at_153) (by decide) (by decide) ?_
                  show Steps p.tables e below (T82.setTop (mkF m 157 #[.val (.int p1), .val (.int p2), .val (.int p3), .val (.int (2 : Int32)), .val (.ref s_MARIADB), .val (.int sel), .val (.int (34 : Int32)), .val (.int (1 : Int32)), .val (.int (1 : Int32))] [(.int (1 : Int32))])) _
                  exact kt
                obtain ⟨fs, hr, hrun, hended, hW, hsame⟩ := X82.leave (v := some (.int (1 : Int32))) (fun h => by rw [Bd.returns] at h; cases h)
                refine ⟨_, _, pre84 _ ?_, hrun, hended, _, _, rfl, ?_, ⟨_, rfl⟩, hW, hsame.mono (by decide) (by decide)⟩
                · exact retN X82 hx (t := .boolean) Bd.returns (by simp) (hb hby at_157) hr
                · show Q0 Z p1 p2 p3 s_STANDARD s_POSTGRESQL s_MARIADB s_MARIADB_ANSI_QUOTES h0 n0 _ T82.heap _
                  rw [e82]
                  exact ⟨rfl, N82⟩
              · skip
                have pre85 : ∀ t, Steps p.tables e below (T61.setTop (mkF m 144 #[.val (.int p1), .val (.int p2), .val (.int p3), .val (.int (2 : Int32)), .val (.ref s_MARIADB), .val (.int sel), .val (.int qq), .val (.int (1 : Int32)), .val (.int (0 : Int32))] [(.int qq), (.ref s_MARIADB)])) t → Steps p.tables e below (s₁.setTop (entryFrame m #[(.int p1), (.int p2), (.int p3)] maxLocals)) t := fun t kt => by
                  refine pre74 t ?_
                  refine XS.iloadN X61.here hx rfl (hb hby at_84) rfl ?_
                  show Steps p.tables e below (T61.setTop (mkF m 85 #[.val (.int p1), .val (.int p2), .val (.int p3), .val (.int (2 : Int32)), .val (.ref s_MARIADB), .val (.int sel), .val (.int qq), .unset, .unset] [(.int (2 : Int32))])) _
                  refine XS.iconst X61.here hx rfl (hb hby at_85) ?_
                  show Steps p.tables e below (T61.setTop (mkF m 86 #[.val (.int p1), .val (.int p2), .val (.int p3), .val (.int (2 : Int32)), .val (.ref s_MARIADB), .val (.int sel), .val (.int qq), .unset, .unset] [(.int (2 : Int32)), (.int (2 : Int32))])) _
                  refine XS.icmpYes X61.here hx rfl (pc0 := 86) (pc' := 94) rfl (hb hby at_86) rfl (teq (by decide : (2 : Int32) = (2 : Int32))).1 (by decide) (by decide) ?_
                  show Steps p.tables e below (T61.setTop (mkF m 94 #[.val (.int p1), .val (.int p2), .val (.int p3), .val (.int (2 : Int32)), .val (.ref s_MARIADB), .val (.int sel), .val (.int qq), .unset, .unset] [])) _
                  refine XS.iconst X61.here hx rfl (hb hby at_94) ?_
                  show Steps p.tables e below (T61.setTop (mkF m 95 #[.val (.int p1), .val (.int p2), .val (.int p3), .val (.int (2 : Int32)), .val (.ref s_MARIADB), .val (.int sel), .val (.int qq), .unset, .unset] [(.int (1 : Int32))])) _
                  refine XS.goto X61.here hx rfl (pc0 := 95) (pc' := 99) rfl (hb hby at_95) (by decide) (by decide) ?_
                  show Steps p.tables e below (T61.setTop (mkF m 99 #[.val (.int p1), .val (.int p2), .val (.int p3), .val (.int (2 : Int32)), .val (.ref s_MARIADB), .val (.int sel), .val (.int qq), .unset, .unset] [(.int (1 : Int32))])) _
                  refine XS.istore X61.here hx rfl (hb hby at_99) rfl (l' := #[.val (.int p1), .val (.int p2), .val (.int p3), .val (.int (2 : Int32)), .val (.ref s_MARIADB), .val (.int sel), .val (.int qq), .val (.int (1 : Int32)), .unset]) rfl ?_
                  show Steps p.tables e below (T61.setTop (mkF m 101 #[.val (.int p1), .val (.int p2), .val (.int p3), .val (.int (2 : Int32)), .val (.ref s_MARIADB), .val (.int sel), .val (.int qq), .val (.int (1 : Int32)), .unset] [])) _
                  refine XS.iload X61.here hx rfl (hb hby at_101) rfl ?_
                  show Steps p.tables e below (T61.setTop (mkF m 103 #[.val (.int p1), .val (.int p2), .val (.int p3), .val (.int (2 : Int32)), .val (.ref s_MARIADB), .val (.int sel), .val (.int qq), .val (.int (1 : Int32)), .unset] [(.int qq)])) _
                  refine XS.bipush X61.here hx rfl (hb hby at_103) ?_
                  show Steps p.tables e below (T61.setTop (mkF m 105 #[.val (.int p1), .val (.int p2), .val (.int p3), .val (.int (2 : Int32)), .val (.ref s_MARIADB), .val (.int sel), .val (.int qq), .val (.int (1 : Int32)), .unset] [(.int (39 : Int32)), (.int qq)])) _
                  refine XS.icmpYes X61.here hx rfl (pc0 := 105) (pc' := 115) rfl (hb hby at_105) rfl (feq hc105).2 (by decide) (by decide) ?_
                  show Steps p.tables e below (T61.setTop (mkF m 115 #[.val (.int p1), .val (.int p2), .val (.int p3), .val (.int (2 : Int32)), .val (.ref s_MARIADB), .val (.int sel), .val (.int qq), .val (.int (1 : Int32)), .unset] [])) _
                  refine XS.iload X61.here hx rfl (hb hby at_115) rfl ?_
                  show Steps p.tables e below (T61.setTop (mkF m 117 #[.val (.int p1), .val (.int p2), .val (.int p3), .val (.int (2 : Int32)), .val (.ref s_MARIADB), .val (.int sel), .val (.int qq), .val (.int (1 : Int32)), .unset] [(.int qq)])) _
                  refine XS.bipush X61.here hx rfl (hb hby at_117) ?_
                  show Steps p.tables e below (T61.setTop (mkF m 119 #[.val (.int p1), .val (.int p2), .val (.int p3), .val (.int (2 : Int32)), .val (.ref s_MARIADB), .val (.int sel), .val (.int qq), .val (.int (1 : Int32)), .unset] [(.int (34 : Int32)), (.int qq)])) _
                  refine XS.icmpYes X61.here hx rfl (pc0 := 119) (pc' := 137) rfl (hb hby at_119) rfl (feq hc119).2 (by decide) (by decide) ?_
                  show Steps p.tables e below (T61.setTop (mkF m 137 #[.val (.int p1), .val (.int p2), .val (.int p3), .val (.int (2 : Int32)), .val (.ref s_MARIADB), .val (.int sel), .val (.int qq), .val (.int (1 : Int32)), .unset] [])) _
                  refine XS.iconst X61.here hx rfl (hb hby at_137) ?_
                  show Steps p.tables e below (T61.setTop (mkF m 138 #[.val (.int p1), .val (.int p2), .val (.int p3), .val (.int (2 : Int32)), .val (.ref s_MARIADB), .val (.int sel), .val (.int qq), .val (.int (1 : Int32)), .unset] [(.int (0 : Int32))])) _
                  refine XS.istore X61.here hx rfl (hb hby at_138) rfl (l' := #[.val (.int p1), .val (.int p2), .val (.int p3), .val (.int (2 : Int32)), .val (.ref s_MARIADB), .val (.int sel), .val (.int qq), .val (.int (1 : Int32)), .val (.int (0 : Int32))]) rfl ?_
                  show Steps p.tables e below (T61.setTop (mkF m 140 #[.val (.int p1), .val (.int p2), .val (.int p3), .val (.int (2 : Int32)), .val (.ref s_MARIADB), .val (.int sel), .val (.int qq), .val (.int (1 : Int32)), .val (.int (0 : Int32))] [])) _
                  refine XS.aload X61.here hx rfl (hb hby at_140) rfl rfl ?_
                  show Steps p.tables e below (T61.setTop (mkF m 142 #[.val (.int p1), .val (.int p2), .val (.int p3), .val (.int (2 : Int32)), .val (.ref s_MARIADB), .val (.int sel), .val (.int qq), .val (.int (1 : Int32)), .val (.int (0 : Int32))] [(.ref s_MARIADB)])) _
                  refine XS.iload X61.here hx rfl (hb hby at_142) rfl ?_
                  show Steps p.tables e below (T61.setTop (mkF m 144 #[.val (.int p1), .val (.int p2), .val (.int p3), .val (.int (2 : Int32)), .val (.ref s_MARIADB), .val (.int sel), .val (.int qq), .val (.int (1 : Int32)), .val (.int (0 : Int32))] [(.int qq), (.ref s_MARIADB)])) _
                  exact kt
                obtain ⟨cq86, kq86, q86a, q86b, q86c⟩ := isOf hZ e61 E_s_MARIADB
                obtain ⟨_, _, ⟨T86, L86, k86, n86⟩, -, X86, ⟨Lc86, hQ86, l86, y86, z86⟩, st86⟩ := X61.virtualBack hx (y := (⟨"com/example/ready_ledger/readyledger/jdbc/SqlDialect", "backslashEscapes", "(C)Z"⟩ : MethodName)) (z := (⟨"com/example/ready_ledger/readyledger/jdbc/SqlDialect", "backslashEscapes", "(C)Z"⟩ : MethodName)) hown (mvT hZ (hw _ (mgE 4 rfl))) (mvT hZ (hw _ (mgE 5 rfl))) (notFace_of_selects (args := #[]) (mvT hZ (hw _ (mgE 7 rfl)))) (mvT hZ (hw _ (mgE 7 rfl))) (mvT hZ (hw _ (mgE 6 rfl))) (by decide) (backOf (W := 0) (rm1 l Z a0 hw [] s_MARIADB qq (1 : Int32) (1 : Int32) h0 n0 Z0 F_backslashInSingleQuotes_s_MARIADB F_backslashInDoubleQuotes_s_MARIADB) hZ (hw _ (mgE 8 rfl)) (hw _ (mgE 1 rfl)) (by decide) (by decide)) q86a q86c (g := (mkF m 144 #[.val (.int p1), .val (.int p2), .val (.int p3), .val (.int (2 : Int32)), .val (.ref s_MARIADB), .val (.int sel), .val (.int qq), .val (.int (1 : Int32)), .val (.int (0 : Int32))] [(.int qq), (.ref s_MARIADB)])) rfl (by rw [hml]; rfl) (Steps.refl _) (argsL := [(.int qq)]) (rest := []) (lenOf pd__C_Z rfl) rfl (by show 2 * 0 + _ ≤ _; exact Nat.le_of_eq rfl) (hb hby at_144) (fun _ _ => ⟨rfl, e61, (by decide : 0 + 0 ≤ _), (by decide : 0 + 0 ≤ _)⟩)
                dsimp only [Pt.U, Pt.locs, Pt.cells, Pt.slots] at X86 l86 y86 z86 st86 hQ86
                subst l86 y86 z86
                obtain ⟨rfl, N86q, e86⟩ := hQ86
                have pre87 : ∀ t, Steps p.tables e below (T86.setTop (mkF m 147 #[.val (.int p1), .val (.int p2), .val (.int p3), .val (.int (2 : Int32)), .val (.ref s_MARIADB), .val (.int sel), .val (.int qq), .val (.int (1 : Int32)), .val (.int (0 : Int32))] [(.int (r1 qq (1 : Int32) (1 : Int32)))])) t → Steps p.tables e below (s₁.setTop (entryFrame m #[(.int p1), (.int p2), (.int p3)] maxLocals)) t := fun t kt => pre85 t (st86.trans kt)
                have N86 := Fr.app N0 N86q
                have hc149 : (r1 qq (1 : Int32) (1 : Int32)) = (0 : Int32) := by first | rfl | decide | (simp only [r1, if_neg hc18, if_neg hc105, if_neg hc119]; done) | (simp only [r1, if_neg hc18, if_neg hc105, if_neg hc119]; first | rfl | decide)
                have pre88 : ∀ t, Steps p.tables e below (T86.setTop (mkF m 157 #[.val (.int p1), .val (.int p2), .val (.int p3), .val (.int (2 : Int32)), .val (.ref s_MARIADB), .val (.int sel), .val (.int qq), .val (.int (1 : Int32)), .val (.int (0 : Int32))] [(.int (1 : Int32))])) t → Steps p.tables e below (s₁.setTop (entryFrame m #[(.int p1), (.int p2), (.int p3)] maxLocals)) t := fun t kt => by
                  refine pre87 t ?_
                  refine XS.iload X86.here hx rfl (hb hby at_147) rfl ?_
                  show Steps p.tables e below (T86.setTop (mkF m 149 #[.val (.int p1), .val (.int p2), .val (.int p3), .val (.int (2 : Int32)), .val (.ref s_MARIADB), .val (.int sel), .val (.int qq), .val (.int (1 : Int32)), .val (.int (0 : Int32))] [(.int (0 : Int32)), (.int (r1 qq (1 : Int32) (1 : Int32)))])) _
                  refine XS.icmpNo X86.here hx rfl (hb hby at_149) rfl (teq hc149).2 ?_
                  show Steps p.tables e below (T86.setTop (mkF m 152 #[.val (.int p1), .val (.int p2), .val (.int p3), .val (.int (2 : Int32)), .val (.ref s_MARIADB), .val (.int sel), .val (.int qq), .val (.int (1 : Int32)), .val (.int (0 : Int32))] [])) _
                  refine XS.iconst X86.here hx rfl (hb hby at_152) ?_
                  show Steps p.tables e below (T86.setTop (mkF m 153 #[.val (.int p1), .val (.int p2), .val (.int p3), .val (.int (2 : Int32)), .val (.ref s_MARIADB), .val (.int sel), .val (.int qq), .val (.int (1 : Int32)), .val (.int (0 : Int32))] [(.int (1 : Int32))])) _
                  refine XS.goto X86.here hx rfl (pc0 := 153) (pc' := 157) rfl (hb hby at_153) (by decide) (by decide) ?_
                  show Steps p.tables e below (T86.setTop (mkF m 157 #[.val (.int p1), .val (.int p2), .val (.int p3), .val (.int (2 : Int32)), .val (.ref s_MARIADB), .val (.int sel), .val (.int qq), .val (.int (1 : Int32)), .val (.int (0 : Int32))] [(.int (1 : Int32))])) _
                  exact kt
                obtain ⟨fs, hr, hrun, hended, hW, hsame⟩ := X86.leave (v := some (.int (1 : Int32))) (fun h => by rw [Bd.returns] at h; cases h)
                refine ⟨_, _, pre88 _ ?_, hrun, hended, _, _, rfl, ?_, ⟨_, rfl⟩, hW, hsame.mono (by decide) (by decide)⟩
                · exact retN X86 hx (t := .boolean) Bd.returns (by simp) (hb hby at_157) hr
                · show Q0 Z p1 p2 p3 s_STANDARD s_POSTGRESQL s_MARIADB s_MARIADB_ANSI_QUOTES h0 n0 _ T86.heap _
                  rw [e86]
                  exact ⟨rfl, N86⟩
      · skip
        have pre89 : ∀ t, Steps p.tables e below (s₁.setTop (mkF m 42 #[.val (.int p1), .val (.int p2), .val (.int p3), .val (.int dd), .unset, .unset, .unset, .unset, .unset] [])) t → Steps p.tables e below (s₁.setTop (entryFrame m #[(.int p1), (.int p2), (.int p3)] maxLocals)) t := fun t kt => by
          refine pre1 t ?_
          refine XS.iloadN X0.here hx rfl (hb hby at_4) rfl ?_
          show Steps p.tables e below (s₁.setTop (mkF m 5 #[.val (.int p1), .val (.int p2), .val (.int p3), .val (.int dd), .unset, .unset, .unset, .unset, .unset] [(.int dd)])) _
          refine XS.ifYes X0.here hx rfl (pc0 := 5) (pc' := 16) rfl (hb hby at_5) rfl ((if0 _ _).trans (feq hc5).2) (by decide) (by decide) ?_
          show Steps p.tables e below (s₁.setTop (mkF m 16 #[.val (.int p1), .val (.int p2), .val (.int p3), .val (.int dd), .unset, .unset, .unset, .unset, .unset] [])) _
          refine XS.iloadN X0.here hx rfl (hb hby at_16) rfl ?_
          show Steps p.tables e below (s₁.setTop (mkF m 17 #[.val (.int p1), .val (.int p2), .val (.int p3), .val (.int dd), .unset, .unset, .unset, .unset, .unset] [(.int dd)])) _
          refine XS.iconst X0.here hx rfl (hb hby at_17) ?_
          show Steps p.tables e below (s₁.setTop (mkF m 18 #[.val (.int p1), .val (.int p2), .val (.int p3), .val (.int dd), .unset, .unset, .unset, .unset, .unset] [(.int (1 : Int32)), (.int dd)])) _
          refine XS.icmpYes X0.here hx rfl (pc0 := 18) (pc' := 29) rfl (hb hby at_18) rfl (feq hc18).2 (by decide) (by decide) ?_
          show Steps p.tables e below (s₁.setTop (mkF m 29 #[.val (.int p1), .val (.int p2), .val (.int p3), .val (.int dd), .unset, .unset, .unset, .unset, .unset] [])) _
          refine XS.iloadN X0.here hx rfl (hb hby at_29) rfl ?_
          show Steps p.tables e below (s₁.setTop (mkF m 30 #[.val (.int p1), .val (.int p2), .val (.int p3), .val (.int dd), .unset, .unset, .unset, .unset, .unset] [(.int dd)])) _
          refine XS.iconst X0.here hx rfl (hb hby at_30) ?_
          show Steps p.tables e below (s₁.setTop (mkF m 31 #[.val (.int p1), .val (.int p2), .val (.int p3), .val (.int dd), .unset, .unset, .unset, .unset, .unset] [(.int (2 : Int32)), (.int dd)])) _
          refine XS.icmpYes X0.here hx rfl (pc0 := 31) (pc' := 42) rfl (hb hby at_31) rfl (feq hc31).2 (by decide) (by decide) ?_
          show Steps p.tables e below (s₁.setTop (mkF m 42 #[.val (.int p1), .val (.int p2), .val (.int p3), .val (.int dd), .unset, .unset, .unset, .unset, .unset] [])) _
          exact kt
        have hl90 : dd = (3 : Int32) := by rw [h_dd] at hc5 hc18 hc31 ⊢; exact own_three _ hc5 hc18 hc31
        rw [hl90] at pre89
        obtain ⟨T91, X91, e91, st91⟩ := getS2 X0 hx hZ hown (host := "") (Or.inl (hw _ (mgE 13 rfl))) Via.refl e0 S_MARIADB_ANSI_QUOTES (g := (mkF m 42 #[.val (.int p1), .val (.int p2), .val (.int p3), .val (.int (3 : Int32)), .unset, .unset, .unset, .unset, .unset] [])) rfl (hb hby at_42)
        have pre92 : ∀ t, Steps p.tables e below (T91.setTop (mkF m 45 #[.val (.int p1), .val (.int p2), .val (.int p3), .val (.int (3 : Int32)), .unset, .unset, .unset, .unset, .unset] [(.ref s_MARIADB_ANSI_QUOTES)])) t → Steps p.tables e below (s₁.setTop (entryFrame m #[(.int p1), (.int p2), (.int p3)] maxLocals)) t := fun t kt => pre89 t (st91 t kt)
        have pre93 : ∀ t, Steps p.tables e below (T91.setTop (mkF m 52 #[.val (.int p1), .val (.int p2), .val (.int p3), .val (.int (3 : Int32)), .val (.ref s_MARIADB_ANSI_QUOTES), .val (.int (p2 &&& (3 : Int32))), .unset, .unset, .unset] [])) t → Steps p.tables e below (s₁.setTop (entryFrame m #[(.int p1), (.int p2), (.int p3)] maxLocals)) t := fun t kt => by
          refine pre92 t ?_
          refine XS.astore X91.here hx rfl (hb hby at_45) rfl rfl (l' := #[.val (.int p1), .val (.int p2), .val (.int p3), .val (.int (3 : Int32)), .val (.ref s_MARIADB_ANSI_QUOTES), .unset, .unset, .unset, .unset]) rfl ?_
          show Steps p.tables e below (T91.setTop (mkF m 47 #[.val (.int p1), .val (.int p2), .val (.int p3), .val (.int (3 : Int32)), .val (.ref s_MARIADB_ANSI_QUOTES), .unset, .unset, .unset, .unset] [])) _
          refine XS.iloadN X91.here hx rfl (hb hby at_47) rfl ?_
          show Steps p.tables e below (T91.setTop (mkF m 48 #[.val (.int p1), .val (.int p2), .val (.int p3), .val (.int (3 : Int32)), .val (.ref s_MARIADB_ANSI_QUOTES), .unset, .unset, .unset, .unset] [(.int p2)])) _
          refine XS.iconst X91.here hx rfl (hb hby at_48) ?_
          show Steps p.tables e below (T91.setTop (mkF m 49 #[.val (.int p1), .val (.int p2), .val (.int p3), .val (.int (3 : Int32)), .val (.ref s_MARIADB_ANSI_QUOTES), .unset, .unset, .unset, .unset] [(.int (3 : Int32)), (.int p2)])) _
          refine XS.iand X91.here hx rfl (hb hby at_49) rfl ?_
          show Steps p.tables e below (T91.setTop (mkF m 50 #[.val (.int p1), .val (.int p2), .val (.int p3), .val (.int (3 : Int32)), .val (.ref s_MARIADB_ANSI_QUOTES), .unset, .unset, .unset, .unset] [(.int (p2 &&& (3 : Int32)))])) _
          refine XS.istore X91.here hx rfl (hb hby at_50) rfl (l' := #[.val (.int p1), .val (.int p2), .val (.int p3), .val (.int (3 : Int32)), .val (.ref s_MARIADB_ANSI_QUOTES), .val (.int (p2 &&& (3 : Int32))), .unset, .unset, .unset]) rfl ?_
          show Steps p.tables e below (T91.setTop (mkF m 52 #[.val (.int p1), .val (.int p2), .val (.int p3), .val (.int (3 : Int32)), .val (.ref s_MARIADB_ANSI_QUOTES), .val (.int (p2 &&& (3 : Int32))), .unset, .unset, .unset] [])) _
          exact kt
        obtain ⟨sel, h_sel⟩ : ∃ z, z = (p2 &&& (3 : Int32)) := ⟨_, rfl⟩
        rw [← h_sel] at pre93
        by_cases hc54 : sel = (0 : Int32)
        · skip
          have pre94 : ∀ t, Steps p.tables e below (T91.setTop (mkF m 57 #[.val (.int p1), .val (.int p2), .val (.int p3), .val (.int (3 : Int32)), .val (.ref s_MARIADB_ANSI_QUOTES), .val (.int sel), .unset, .unset, .unset] [])) t → Steps p.tables e below (s₁.setTop (entryFrame m #[(.int p1), (.int p2), (.int p3)] maxLocals)) t := fun t kt => by
            refine pre93 t ?_
            refine XS.iload X91.here hx rfl (hb hby at_52) rfl ?_
            show Steps p.tables e below (T91.setTop (mkF m 54 #[.val (.int p1), .val (.int p2), .val (.int p3), .val (.int (3 : Int32)), .val (.ref s_MARIADB_ANSI_QUOTES), .val (.int sel), .unset, .unset, .unset] [(.int sel)])) _
            refine XS.ifNo X91.here hx rfl (hb hby at_54) rfl ((if0 _ _).trans (teq hc54).2) ?_
            show Steps p.tables e below (T91.setTop (mkF m 57 #[.val (.int p1), .val (.int p2), .val (.int p3), .val (.int (3 : Int32)), .val (.ref s_MARIADB_ANSI_QUOTES), .val (.int sel), .unset, .unset, .unset] [])) _
            exact kt
          subst hc54
          have pre95 : ∀ t, Steps p.tables e below (T91.setTop (mkF m 144 #[.val (.int p1), .val (.int p2), .val (.int p3), .val (.int (3 : Int32)), .val (.ref s_MARIADB_ANSI_QUOTES), .val (.int (0 : Int32)), .val (.int (39 : Int32)), .val (.int (1 : Int32)), .val (.int (1 : Int32))] [(.int (39 : Int32)), (.ref s_MARIADB_ANSI_QUOTES)])) t → Steps p.tables e below (s₁.setTop (entryFrame m #[(.int p1), (.int p2), (.int p3)] maxLocals)) t := fun t kt => by
            refine pre94 t ?_
            refine XS.bipush X91.here hx rfl (hb hby at_57) ?_
            show Steps p.tables e below (T91.setTop (mkF m 59 #[.val (.int p1), .val (.int p2), .val (.int p3), .val (.int (3 : Int32)), .val (.ref s_MARIADB_ANSI_QUOTES), .val (.int (0 : Int32)), .unset, .unset, .unset] [(.int (39 : Int32))])) _
            refine XS.istore X91.here hx rfl (hb hby at_59) rfl (l' := #[.val (.int p1), .val (.int p2), .val (.int p3), .val (.int (3 : Int32)), .val (.ref s_MARIADB_ANSI_QUOTES), .val (.int (0 : Int32)), .val (.int (39 : Int32)), .unset, .unset]) rfl ?_
            show Steps p.tables e below (T91.setTop (mkF m 61 #[.val (.int p1), .val (.int p2), .val (.int p3), .val (.int (3 : Int32)), .val (.ref s_MARIADB_ANSI_QUOTES), .val (.int (0 : Int32)), .val (.int (39 : Int32)), .unset, .unset] [])) _
            refine XS.goto X91.here hx rfl (pc0 := 61) (pc' := 84) rfl (hb hby at_61) (by decide) (by decide) ?_
            show Steps p.tables e below (T91.setTop (mkF m 84 #[.val (.int p1), .val (.int p2), .val (.int p3), .val (.int (3 : Int32)), .val (.ref s_MARIADB_ANSI_QUOTES), .val (.int (0 : Int32)), .val (.int (39 : Int32)), .unset, .unset] [])) _
            refine XS.iloadN X91.here hx rfl (hb hby at_84) rfl ?_
            show Steps p.tables e below (T91.setTop (mkF m 85 #[.val (.int p1), .val (.int p2), .val (.int p3), .val (.int (3 : Int32)), .val (.ref s_MARIADB_ANSI_QUOTES), .val (.int (0 : Int32)), .val (.int (39 : Int32)), .unset, .unset] [(.int (3 : Int32))])) _
            refine XS.iconst X91.here hx rfl (hb hby at_85) ?_
            show Steps p.tables e below (T91.setTop (mkF m 86 #[.val (.int p1), .val (.int p2), .val (.int p3), .val (.int (3 : Int32)), .val (.ref s_MARIADB_ANSI_QUOTES), .val (.int (0 : Int32)), .val (.int (39 : Int32)), .unset, .unset] [(.int (2 : Int32)), (.int (3 : Int32))])) _
            refine XS.icmpNo X91.here hx rfl (hb hby at_86) rfl (feq (by decide : ¬ ((3 : Int32) = (2 : Int32)))).1 ?_
            show Steps p.tables e below (T91.setTop (mkF m 89 #[.val (.int p1), .val (.int p2), .val (.int p3), .val (.int (3 : Int32)), .val (.ref s_MARIADB_ANSI_QUOTES), .val (.int (0 : Int32)), .val (.int (39 : Int32)), .unset, .unset] [])) _
            refine XS.iloadN X91.here hx rfl (hb hby at_89) rfl ?_
            show Steps p.tables e below (T91.setTop (mkF m 90 #[.val (.int p1), .val (.int p2), .val (.int p3), .val (.int (3 : Int32)), .val (.ref s_MARIADB_ANSI_QUOTES), .val (.int (0 : Int32)), .val (.int (39 : Int32)), .unset, .unset] [(.int (3 : Int32))])) _
            refine XS.iconst X91.here hx rfl (hb hby at_90) ?_
            show Steps p.tables e below (T91.setTop (mkF m 91 #[.val (.int p1), .val (.int p2), .val (.int p3), .val (.int (3 : Int32)), .val (.ref s_MARIADB_ANSI_QUOTES), .val (.int (0 : Int32)), .val (.int (39 : Int32)), .unset, .unset] [(.int (3 : Int32)), (.int (3 : Int32))])) _
            refine XS.icmpNo X91.here hx rfl (hb hby at_91) rfl (teq (by decide : (3 : Int32) = (3 : Int32))).2 ?_
            show Steps p.tables e below (T91.setTop (mkF m 94 #[.val (.int p1), .val (.int p2), .val (.int p3), .val (.int (3 : Int32)), .val (.ref s_MARIADB_ANSI_QUOTES), .val (.int (0 : Int32)), .val (.int (39 : Int32)), .unset, .unset] [])) _
            refine XS.iconst X91.here hx rfl (hb hby at_94) ?_
            show Steps p.tables e below (T91.setTop (mkF m 95 #[.val (.int p1), .val (.int p2), .val (.int p3), .val (.int (3 : Int32)), .val (.ref s_MARIADB_ANSI_QUOTES), .val (.int (0 : Int32)), .val (.int (39 : Int32)), .unset, .unset] [(.int (1 : Int32))])) _
            refine XS.goto X91.here hx rfl (pc0 := 95) (pc' := 99) rfl (hb hby at_95) (by decide) (by decide) ?_
            show Steps p.tables e below (T91.setTop (mkF m 99 #[.val (.int p1), .val (.int p2), .val (.int p3), .val (.int (3 : Int32)), .val (.ref s_MARIADB_ANSI_QUOTES), .val (.int (0 : Int32)), .val (.int (39 : Int32)), .unset, .unset] [(.int (1 : Int32))])) _
            refine XS.istore X91.here hx rfl (hb hby at_99) rfl (l' := #[.val (.int p1), .val (.int p2), .val (.int p3), .val (.int (3 : Int32)), .val (.ref s_MARIADB_ANSI_QUOTES), .val (.int (0 : Int32)), .val (.int (39 : Int32)), .val (.int (1 : Int32)), .unset]) rfl ?_
            show Steps p.tables e below (T91.setTop (mkF m 101 #[.val (.int p1), .val (.int p2), .val (.int p3), .val (.int (3 : Int32)), .val (.ref s_MARIADB_ANSI_QUOTES), .val (.int (0 : Int32)), .val (.int (39 : Int32)), .val (.int (1 : Int32)), .unset] [])) _
            refine XS.iload X91.here hx rfl (hb hby at_101) rfl ?_
            show Steps p.tables e below (T91.setTop (mkF m 103 #[.val (.int p1), .val (.int p2), .val (.int p3), .val (.int (3 : Int32)), .val (.ref s_MARIADB_ANSI_QUOTES), .val (.int (0 : Int32)), .val (.int (39 : Int32)), .val (.int (1 : Int32)), .unset] [(.int (39 : Int32))])) _
            refine XS.bipush X91.here hx rfl (hb hby at_103) ?_
            show Steps p.tables e below (T91.setTop (mkF m 105 #[.val (.int p1), .val (.int p2), .val (.int p3), .val (.int (3 : Int32)), .val (.ref s_MARIADB_ANSI_QUOTES), .val (.int (0 : Int32)), .val (.int (39 : Int32)), .val (.int (1 : Int32)), .unset] [(.int (39 : Int32)), (.int (39 : Int32))])) _
            refine XS.icmpNo X91.here hx rfl (hb hby at_105) rfl (teq (by decide : (39 : Int32) = (39 : Int32))).2 ?_
            show Steps p.tables e below (T91.setTop (mkF m 108 #[.val (.int p1), .val (.int p2), .val (.int p3), .val (.int (3 : Int32)), .val (.ref s_MARIADB_ANSI_QUOTES), .val (.int (0 : Int32)), .val (.int (39 : Int32)), .val (.int (1 : Int32)), .unset] [])) _
            refine XS.iload X91.here hx rfl (hb hby at_108) rfl ?_
            show Steps p.tables e below (T91.setTop (mkF m 110 #[.val (.int p1), .val (.int p2), .val (.int p3), .val (.int (3 : Int32)), .val (.ref s_MARIADB_ANSI_QUOTES), .val (.int (0 : Int32)), .val (.int (39 : Int32)), .val (.int (1 : Int32)), .unset] [(.int (1 : Int32))])) _
            refine XS.istore X91.here hx rfl (hb hby at_110) rfl (l' := #[.val (.int p1), .val (.int p2), .val (.int p3), .val (.int (3 : Int32)), .val (.ref s_MARIADB_ANSI_QUOTES), .val (.int (0 : Int32)), .val (.int (39 : Int32)), .val (.int (1 : Int32)), .val (.int (1 : Int32))]) rfl ?_
            show Steps p.tables e below (T91.setTop (mkF m 112 #[.val (.int p1), .val (.int p2), .val (.int p3), .val (.int (3 : Int32)), .val (.ref s_MARIADB_ANSI_QUOTES), .val (.int (0 : Int32)), .val (.int (39 : Int32)), .val (.int (1 : Int32)), .val (.int (1 : Int32))] [])) _
            refine XS.goto X91.here hx rfl (pc0 := 112) (pc' := 140) rfl (hb hby at_112) (by decide) (by decide) ?_
            show Steps p.tables e below (T91.setTop (mkF m 140 #[.val (.int p1), .val (.int p2), .val (.int p3), .val (.int (3 : Int32)), .val (.ref s_MARIADB_ANSI_QUOTES), .val (.int (0 : Int32)), .val (.int (39 : Int32)), .val (.int (1 : Int32)), .val (.int (1 : Int32))] [])) _
            refine XS.aload X91.here hx rfl (hb hby at_140) rfl rfl ?_
            show Steps p.tables e below (T91.setTop (mkF m 142 #[.val (.int p1), .val (.int p2), .val (.int p3), .val (.int (3 : Int32)), .val (.ref s_MARIADB_ANSI_QUOTES), .val (.int (0 : Int32)), .val (.int (39 : Int32)), .val (.int (1 : Int32)), .val (.int (1 : Int32))] [(.ref s_MARIADB_ANSI_QUOTES)])) _
            refine XS.iload X91.here hx rfl (hb hby at_142) rfl ?_
            show Steps p.tables e below (T91.setTop (mkF m 144 #[.val (.int p1), .val (.int p2), .val (.int p3), .val (.int (3 : Int32)), .val (.ref s_MARIADB_ANSI_QUOTES), .val (.int (0 : Int32)), .val (.int (39 : Int32)), .val (.int (1 : Int32)), .val (.int (1 : Int32))] [(.int (39 : Int32)), (.ref s_MARIADB_ANSI_QUOTES)])) _
            exact kt
          obtain ⟨cq96, kq96, q96a, q96b, q96c⟩ := isOf hZ e91 E_s_MARIADB_ANSI_QUOTES
          obtain ⟨_, _, ⟨T96, L96, k96, n96⟩, -, X96, ⟨Lc96, hQ96, l96, y96, z96⟩, st96⟩ := X91.virtualBack hx (y := (⟨"com/example/ready_ledger/readyledger/jdbc/SqlDialect", "backslashEscapes", "(C)Z"⟩ : MethodName)) (z := (⟨"com/example/ready_ledger/readyledger/jdbc/SqlDialect", "backslashEscapes", "(C)Z"⟩ : MethodName)) hown (mvT hZ (hw _ (mgE 4 rfl))) (mvT hZ (hw _ (mgE 5 rfl))) (notFace_of_selects (args := #[]) (mvT hZ (hw _ (mgE 7 rfl)))) (mvT hZ (hw _ (mgE 7 rfl))) (mvT hZ (hw _ (mgE 6 rfl))) (by decide) (backOf (W := 0) (rm1 l Z a0 hw [] s_MARIADB_ANSI_QUOTES (39 : Int32) (1 : Int32) (0 : Int32) h0 n0 Z0 F_backslashInSingleQuotes_s_MARIADB_ANSI_QUOTES F_backslashInDoubleQuotes_s_MARIADB_ANSI_QUOTES) hZ (hw _ (mgE 8 rfl)) (hw _ (mgE 1 rfl)) (by decide) (by decide)) q96a q96c (g := (mkF m 144 #[.val (.int p1), .val (.int p2), .val (.int p3), .val (.int (3 : Int32)), .val (.ref s_MARIADB_ANSI_QUOTES), .val (.int (0 : Int32)), .val (.int (39 : Int32)), .val (.int (1 : Int32)), .val (.int (1 : Int32))] [(.int (39 : Int32)), (.ref s_MARIADB_ANSI_QUOTES)])) rfl (by rw [hml]; rfl) (Steps.refl _) (argsL := [(.int (39 : Int32))]) (rest := []) (lenOf pd__C_Z rfl) rfl (by show 2 * 0 + _ ≤ _; exact Nat.le_of_eq rfl) (hb hby at_144) (fun _ _ => ⟨rfl, e91, (by decide : 0 + 0 ≤ _), (by decide : 0 + 0 ≤ _)⟩)
          dsimp only [Pt.U, Pt.locs, Pt.cells, Pt.slots] at X96 l96 y96 z96 st96 hQ96
          subst l96 y96 z96
          obtain ⟨rfl, N96q, e96⟩ := hQ96
          have pre97 : ∀ t, Steps p.tables e below (T96.setTop (mkF m 147 #[.val (.int p1), .val (.int p2), .val (.int p3), .val (.int (3 : Int32)), .val (.ref s_MARIADB_ANSI_QUOTES), .val (.int (0 : Int32)), .val (.int (39 : Int32)), .val (.int (1 : Int32)), .val (.int (1 : Int32))] [(.int (r1 (39 : Int32) (1 : Int32) (0 : Int32)))])) t → Steps p.tables e below (s₁.setTop (entryFrame m #[(.int p1), (.int p2), (.int p3)] maxLocals)) t := fun t kt => pre95 t (st96.trans kt)
          have N96 := Fr.app N0 N96q
          have hc149 : (r1 (39 : Int32) (1 : Int32) (0 : Int32)) = (1 : Int32) := by first | rfl | decide | (simp only [r1, if_neg hc18]; done) | (simp only [r1, if_neg hc18]; first | rfl | decide)
          have pre98 : ∀ t, Steps p.tables e below (T96.setTop (mkF m 157 #[.val (.int p1), .val (.int p2), .val (.int p3), .val (.int (3 : Int32)), .val (.ref s_MARIADB_ANSI_QUOTES), .val (.int (0 : Int32)), .val (.int (39 : Int32)), .val (.int (1 : Int32)), .val (.int (1 : Int32))] [(.int (1 : Int32))])) t → Steps p.tables e below (s₁.setTop (entryFrame m #[(.int p1), (.int p2), (.int p3)] maxLocals)) t := fun t kt => by
            refine pre97 t ?_
            refine XS.iload X96.here hx rfl (hb hby at_147) rfl ?_
            show Steps p.tables e below (T96.setTop (mkF m 149 #[.val (.int p1), .val (.int p2), .val (.int p3), .val (.int (3 : Int32)), .val (.ref s_MARIADB_ANSI_QUOTES), .val (.int (0 : Int32)), .val (.int (39 : Int32)), .val (.int (1 : Int32)), .val (.int (1 : Int32))] [(.int (1 : Int32)), (.int (r1 (39 : Int32) (1 : Int32) (0 : Int32)))])) _
            refine XS.icmpNo X96.here hx rfl (hb hby at_149) rfl (teq hc149).2 ?_
            show Steps p.tables e below (T96.setTop (mkF m 152 #[.val (.int p1), .val (.int p2), .val (.int p3), .val (.int (3 : Int32)), .val (.ref s_MARIADB_ANSI_QUOTES), .val (.int (0 : Int32)), .val (.int (39 : Int32)), .val (.int (1 : Int32)), .val (.int (1 : Int32))] [])) _
            refine XS.iconst X96.here hx rfl (hb hby at_152) ?_
            show Steps p.tables e below (T96.setTop (mkF m 153 #[.val (.int p1), .val (.int p2), .val (.int p3), .val (.int (3 : Int32)), .val (.ref s_MARIADB_ANSI_QUOTES), .val (.int (0 : Int32)), .val (.int (39 : Int32)), .val (.int (1 : Int32)), .val (.int (1 : Int32))] [(.int (1 : Int32))])) _
            refine XS.goto X96.here hx rfl (pc0 := 153) (pc' := 157) rfl (hb hby at_153) (by decide) (by decide) ?_
            show Steps p.tables e below (T96.setTop (mkF m 157 #[.val (.int p1), .val (.int p2), .val (.int p3), .val (.int (3 : Int32)), .val (.ref s_MARIADB_ANSI_QUOTES), .val (.int (0 : Int32)), .val (.int (39 : Int32)), .val (.int (1 : Int32)), .val (.int (1 : Int32))] [(.int (1 : Int32))])) _
            exact kt
          obtain ⟨fs, hr, hrun, hended, hW, hsame⟩ := X96.leave (v := some (.int (1 : Int32))) (fun h => by rw [Bd.returns] at h; cases h)
          refine ⟨_, _, pre98 _ ?_, hrun, hended, _, _, rfl, ?_, ⟨_, rfl⟩, hW, hsame.mono (by decide) (by decide)⟩
          · exact retN X96 hx (t := .boolean) Bd.returns (by simp) (hb hby at_157) hr
          · show Q0 Z p1 p2 p3 s_STANDARD s_POSTGRESQL s_MARIADB s_MARIADB_ANSI_QUOTES h0 n0 _ T96.heap _
            rw [e96]
            exact ⟨rfl, N96⟩
        · skip
          by_cases hc67 : sel = (1 : Int32)
          · skip
            have pre99 : ∀ t, Steps p.tables e below (T91.setTop (mkF m 70 #[.val (.int p1), .val (.int p2), .val (.int p3), .val (.int (3 : Int32)), .val (.ref s_MARIADB_ANSI_QUOTES), .val (.int sel), .unset, .unset, .unset] [])) t → Steps p.tables e below (s₁.setTop (entryFrame m #[(.int p1), (.int p2), (.int p3)] maxLocals)) t := fun t kt => by
              refine pre93 t ?_
              refine XS.iload X91.here hx rfl (hb hby at_52) rfl ?_
              show Steps p.tables e below (T91.setTop (mkF m 54 #[.val (.int p1), .val (.int p2), .val (.int p3), .val (.int (3 : Int32)), .val (.ref s_MARIADB_ANSI_QUOTES), .val (.int sel), .unset, .unset, .unset] [(.int sel)])) _
              refine XS.ifYes X91.here hx rfl (pc0 := 54) (pc' := 64) rfl (hb hby at_54) rfl ((if0 _ _).trans (feq hc54).2) (by decide) (by decide) ?_
              show Steps p.tables e below (T91.setTop (mkF m 64 #[.val (.int p1), .val (.int p2), .val (.int p3), .val (.int (3 : Int32)), .val (.ref s_MARIADB_ANSI_QUOTES), .val (.int sel), .unset, .unset, .unset] [])) _
              refine XS.iload X91.here hx rfl (hb hby at_64) rfl ?_
              show Steps p.tables e below (T91.setTop (mkF m 66 #[.val (.int p1), .val (.int p2), .val (.int p3), .val (.int (3 : Int32)), .val (.ref s_MARIADB_ANSI_QUOTES), .val (.int sel), .unset, .unset, .unset] [(.int sel)])) _
              refine XS.iconst X91.here hx rfl (hb hby at_66) ?_
              show Steps p.tables e below (T91.setTop (mkF m 67 #[.val (.int p1), .val (.int p2), .val (.int p3), .val (.int (3 : Int32)), .val (.ref s_MARIADB_ANSI_QUOTES), .val (.int sel), .unset, .unset, .unset] [(.int (1 : Int32)), (.int sel)])) _
              refine XS.icmpNo X91.here hx rfl (hb hby at_67) rfl (teq hc67).2 ?_
              show Steps p.tables e below (T91.setTop (mkF m 70 #[.val (.int p1), .val (.int p2), .val (.int p3), .val (.int (3 : Int32)), .val (.ref s_MARIADB_ANSI_QUOTES), .val (.int sel), .unset, .unset, .unset] [])) _
              exact kt
            subst hc67
            have pre100 : ∀ t, Steps p.tables e below (T91.setTop (mkF m 144 #[.val (.int p1), .val (.int p2), .val (.int p3), .val (.int (3 : Int32)), .val (.ref s_MARIADB_ANSI_QUOTES), .val (.int (1 : Int32)), .val (.int (34 : Int32)), .val (.int (1 : Int32)), .val (.int (0 : Int32))] [(.int (34 : Int32)), (.ref s_MARIADB_ANSI_QUOTES)])) t → Steps p.tables e below (s₁.setTop (entryFrame m #[(.int p1), (.int p2), (.int p3)] maxLocals)) t := fun t kt => by
              refine pre99 t ?_
              refine XS.bipush X91.here hx rfl (hb hby at_70) ?_
              show Steps p.tables e below (T91.setTop (mkF m 72 #[.val (.int p1), .val (.int p2), .val (.int p3), .val (.int (3 : Int32)), .val (.ref s_MARIADB_ANSI_QUOTES), .val (.int (1 : Int32)), .unset, .unset, .unset] [(.int (34 : Int32))])) _
              refine XS.istore X91.here hx rfl (hb hby at_72) rfl (l' := #[.val (.int p1), .val (.int p2), .val (.int p3), .val (.int (3 : Int32)), .val (.ref s_MARIADB_ANSI_QUOTES), .val (.int (1 : Int32)), .val (.int (34 : Int32)), .unset, .unset]) rfl ?_
              show Steps p.tables e below (T91.setTop (mkF m 74 #[.val (.int p1), .val (.int p2), .val (.int p3), .val (.int (3 : Int32)), .val (.ref s_MARIADB_ANSI_QUOTES), .val (.int (1 : Int32)), .val (.int (34 : Int32)), .unset, .unset] [])) _
              refine XS.goto X91.here hx rfl (pc0 := 74) (pc' := 84) rfl (hb hby at_74) (by decide) (by decide) ?_
              show Steps p.tables e below (T91.setTop (mkF m 84 #[.val (.int p1), .val (.int p2), .val (.int p3), .val (.int (3 : Int32)), .val (.ref s_MARIADB_ANSI_QUOTES), .val (.int (1 : Int32)), .val (.int (34 : Int32)), .unset, .unset] [])) _
              refine XS.iloadN X91.here hx rfl (hb hby at_84) rfl ?_
              show Steps p.tables e below (T91.setTop (mkF m 85 #[.val (.int p1), .val (.int p2), .val (.int p3), .val (.int (3 : Int32)), .val (.ref s_MARIADB_ANSI_QUOTES), .val (.int (1 : Int32)), .val (.int (34 : Int32)), .unset, .unset] [(.int (3 : Int32))])) _
              refine XS.iconst X91.here hx rfl (hb hby at_85) ?_
              show Steps p.tables e below (T91.setTop (mkF m 86 #[.val (.int p1), .val (.int p2), .val (.int p3), .val (.int (3 : Int32)), .val (.ref s_MARIADB_ANSI_QUOTES), .val (.int (1 : Int32)), .val (.int (34 : Int32)), .unset, .unset] [(.int (2 : Int32)), (.int (3 : Int32))])) _
              refine XS.icmpNo X91.here hx rfl (hb hby at_86) rfl (feq (by decide : ¬ ((3 : Int32) = (2 : Int32)))).1 ?_
              show Steps p.tables e below (T91.setTop (mkF m 89 #[.val (.int p1), .val (.int p2), .val (.int p3), .val (.int (3 : Int32)), .val (.ref s_MARIADB_ANSI_QUOTES), .val (.int (1 : Int32)), .val (.int (34 : Int32)), .unset, .unset] [])) _
              refine XS.iloadN X91.here hx rfl (hb hby at_89) rfl ?_
              show Steps p.tables e below (T91.setTop (mkF m 90 #[.val (.int p1), .val (.int p2), .val (.int p3), .val (.int (3 : Int32)), .val (.ref s_MARIADB_ANSI_QUOTES), .val (.int (1 : Int32)), .val (.int (34 : Int32)), .unset, .unset] [(.int (3 : Int32))])) _
              refine XS.iconst X91.here hx rfl (hb hby at_90) ?_
              show Steps p.tables e below (T91.setTop (mkF m 91 #[.val (.int p1), .val (.int p2), .val (.int p3), .val (.int (3 : Int32)), .val (.ref s_MARIADB_ANSI_QUOTES), .val (.int (1 : Int32)), .val (.int (34 : Int32)), .unset, .unset] [(.int (3 : Int32)), (.int (3 : Int32))])) _
              refine XS.icmpNo X91.here hx rfl (hb hby at_91) rfl (teq (by decide : (3 : Int32) = (3 : Int32))).2 ?_
              show Steps p.tables e below (T91.setTop (mkF m 94 #[.val (.int p1), .val (.int p2), .val (.int p3), .val (.int (3 : Int32)), .val (.ref s_MARIADB_ANSI_QUOTES), .val (.int (1 : Int32)), .val (.int (34 : Int32)), .unset, .unset] [])) _
              refine XS.iconst X91.here hx rfl (hb hby at_94) ?_
              show Steps p.tables e below (T91.setTop (mkF m 95 #[.val (.int p1), .val (.int p2), .val (.int p3), .val (.int (3 : Int32)), .val (.ref s_MARIADB_ANSI_QUOTES), .val (.int (1 : Int32)), .val (.int (34 : Int32)), .unset, .unset] [(.int (1 : Int32))])) _
              refine XS.goto X91.here hx rfl (pc0 := 95) (pc' := 99) rfl (hb hby at_95) (by decide) (by decide) ?_
              show Steps p.tables e below (T91.setTop (mkF m 99 #[.val (.int p1), .val (.int p2), .val (.int p3), .val (.int (3 : Int32)), .val (.ref s_MARIADB_ANSI_QUOTES), .val (.int (1 : Int32)), .val (.int (34 : Int32)), .unset, .unset] [(.int (1 : Int32))])) _
              refine XS.istore X91.here hx rfl (hb hby at_99) rfl (l' := #[.val (.int p1), .val (.int p2), .val (.int p3), .val (.int (3 : Int32)), .val (.ref s_MARIADB_ANSI_QUOTES), .val (.int (1 : Int32)), .val (.int (34 : Int32)), .val (.int (1 : Int32)), .unset]) rfl ?_
              show Steps p.tables e below (T91.setTop (mkF m 101 #[.val (.int p1), .val (.int p2), .val (.int p3), .val (.int (3 : Int32)), .val (.ref s_MARIADB_ANSI_QUOTES), .val (.int (1 : Int32)), .val (.int (34 : Int32)), .val (.int (1 : Int32)), .unset] [])) _
              refine XS.iload X91.here hx rfl (hb hby at_101) rfl ?_
              show Steps p.tables e below (T91.setTop (mkF m 103 #[.val (.int p1), .val (.int p2), .val (.int p3), .val (.int (3 : Int32)), .val (.ref s_MARIADB_ANSI_QUOTES), .val (.int (1 : Int32)), .val (.int (34 : Int32)), .val (.int (1 : Int32)), .unset] [(.int (34 : Int32))])) _
              refine XS.bipush X91.here hx rfl (hb hby at_103) ?_
              show Steps p.tables e below (T91.setTop (mkF m 105 #[.val (.int p1), .val (.int p2), .val (.int p3), .val (.int (3 : Int32)), .val (.ref s_MARIADB_ANSI_QUOTES), .val (.int (1 : Int32)), .val (.int (34 : Int32)), .val (.int (1 : Int32)), .unset] [(.int (39 : Int32)), (.int (34 : Int32))])) _
              refine XS.icmpYes X91.here hx rfl (pc0 := 105) (pc' := 115) rfl (hb hby at_105) rfl (feq (by decide : ¬ ((34 : Int32) = (39 : Int32)))).2 (by decide) (by decide) ?_
              show Steps p.tables e below (T91.setTop (mkF m 115 #[.val (.int p1), .val (.int p2), .val (.int p3), .val (.int (3 : Int32)), .val (.ref s_MARIADB_ANSI_QUOTES), .val (.int (1 : Int32)), .val (.int (34 : Int32)), .val (.int (1 : Int32)), .unset] [])) _
              refine XS.iload X91.here hx rfl (hb hby at_115) rfl ?_
              show Steps p.tables e below (T91.setTop (mkF m 117 #[.val (.int p1), .val (.int p2), .val (.int p3), .val (.int (3 : Int32)), .val (.ref s_MARIADB_ANSI_QUOTES), .val (.int (1 : Int32)), .val (.int (34 : Int32)), .val (.int (1 : Int32)), .unset] [(.int (34 : Int32))])) _
              refine XS.bipush X91.here hx rfl (hb hby at_117) ?_
              show Steps p.tables e below (T91.setTop (mkF m 119 #[.val (.int p1), .val (.int p2), .val (.int p3), .val (.int (3 : Int32)), .val (.ref s_MARIADB_ANSI_QUOTES), .val (.int (1 : Int32)), .val (.int (34 : Int32)), .val (.int (1 : Int32)), .unset] [(.int (34 : Int32)), (.int (34 : Int32))])) _
              refine XS.icmpNo X91.here hx rfl (hb hby at_119) rfl (teq (by decide : (34 : Int32) = (34 : Int32))).2 ?_
              show Steps p.tables e below (T91.setTop (mkF m 122 #[.val (.int p1), .val (.int p2), .val (.int p3), .val (.int (3 : Int32)), .val (.ref s_MARIADB_ANSI_QUOTES), .val (.int (1 : Int32)), .val (.int (34 : Int32)), .val (.int (1 : Int32)), .unset] [])) _
              refine XS.iloadN X91.here hx rfl (hb hby at_122) rfl ?_
              show Steps p.tables e below (T91.setTop (mkF m 123 #[.val (.int p1), .val (.int p2), .val (.int p3), .val (.int (3 : Int32)), .val (.ref s_MARIADB_ANSI_QUOTES), .val (.int (1 : Int32)), .val (.int (34 : Int32)), .val (.int (1 : Int32)), .unset] [(.int (3 : Int32))])) _
              refine XS.iconst X91.here hx rfl (hb hby at_123) ?_
              show Steps p.tables e below (T91.setTop (mkF m 124 #[.val (.int p1), .val (.int p2), .val (.int p3), .val (.int (3 : Int32)), .val (.ref s_MARIADB_ANSI_QUOTES), .val (.int (1 : Int32)), .val (.int (34 : Int32)), .val (.int (1 : Int32)), .unset] [(.int (2 : Int32)), (.int (3 : Int32))])) _
              refine XS.icmpYes X91.here hx rfl (pc0 := 124) (pc' := 131) rfl (hb hby at_124) rfl (feq (by decide : ¬ ((3 : Int32) = (2 : Int32)))).2 (by decide) (by decide) ?_
              show Steps p.tables e below (T91.setTop (mkF m 131 #[.val (.int p1), .val (.int p2), .val (.int p3), .val (.int (3 : Int32)), .val (.ref s_MARIADB_ANSI_QUOTES), .val (.int (1 : Int32)), .val (.int (34 : Int32)), .val (.int (1 : Int32)), .unset] [])) _
              refine XS.iconst X91.here hx rfl (hb hby at_131) ?_
              show Steps p.tables e below (T91.setTop (mkF m 132 #[.val (.int p1), .val (.int p2), .val (.int p3), .val (.int (3 : Int32)), .val (.ref s_MARIADB_ANSI_QUOTES), .val (.int (1 : Int32)), .val (.int (34 : Int32)), .val (.int (1 : Int32)), .unset] [(.int (0 : Int32))])) _
              refine XS.istore X91.here hx rfl (hb hby at_132) rfl (l' := #[.val (.int p1), .val (.int p2), .val (.int p3), .val (.int (3 : Int32)), .val (.ref s_MARIADB_ANSI_QUOTES), .val (.int (1 : Int32)), .val (.int (34 : Int32)), .val (.int (1 : Int32)), .val (.int (0 : Int32))]) rfl ?_
              show Steps p.tables e below (T91.setTop (mkF m 134 #[.val (.int p1), .val (.int p2), .val (.int p3), .val (.int (3 : Int32)), .val (.ref s_MARIADB_ANSI_QUOTES), .val (.int (1 : Int32)), .val (.int (34 : Int32)), .val (.int (1 : Int32)), .val (.int (0 : Int32))] [])) _
              refine XS.goto X91.here hx rfl (pc0 := 134) (pc' := 140) rfl (hb hby at_134) (by decide) (by decide) ?_
              show Steps p.tables e below (T91.setTop (mkF m 140 #[.val (.int p1), .val (.int p2), .val (.int p3), .val (.int (3 : Int32)), .val (.ref s_MARIADB_ANSI_QUOTES), .val (.int (1 : Int32)), .val (.int (34 : Int32)), .val (.int (1 : Int32)), .val (.int (0 : Int32))] [])) _
              refine XS.aload X91.here hx rfl (hb hby at_140) rfl rfl ?_
              show Steps p.tables e below (T91.setTop (mkF m 142 #[.val (.int p1), .val (.int p2), .val (.int p3), .val (.int (3 : Int32)), .val (.ref s_MARIADB_ANSI_QUOTES), .val (.int (1 : Int32)), .val (.int (34 : Int32)), .val (.int (1 : Int32)), .val (.int (0 : Int32))] [(.ref s_MARIADB_ANSI_QUOTES)])) _
              refine XS.iload X91.here hx rfl (hb hby at_142) rfl ?_
              show Steps p.tables e below (T91.setTop (mkF m 144 #[.val (.int p1), .val (.int p2), .val (.int p3), .val (.int (3 : Int32)), .val (.ref s_MARIADB_ANSI_QUOTES), .val (.int (1 : Int32)), .val (.int (34 : Int32)), .val (.int (1 : Int32)), .val (.int (0 : Int32))] [(.int (34 : Int32)), (.ref s_MARIADB_ANSI_QUOTES)])) _
              exact kt
            obtain ⟨cq101, kq101, q101a, q101b, q101c⟩ := isOf hZ e91 E_s_MARIADB_ANSI_QUOTES
            obtain ⟨_, _, ⟨T101, L101, k101, n101⟩, -, X101, ⟨Lc101, hQ101, l101, y101, z101⟩, st101⟩ := X91.virtualBack hx (y := (⟨"com/example/ready_ledger/readyledger/jdbc/SqlDialect", "backslashEscapes", "(C)Z"⟩ : MethodName)) (z := (⟨"com/example/ready_ledger/readyledger/jdbc/SqlDialect", "backslashEscapes", "(C)Z"⟩ : MethodName)) hown (mvT hZ (hw _ (mgE 4 rfl))) (mvT hZ (hw _ (mgE 5 rfl))) (notFace_of_selects (args := #[]) (mvT hZ (hw _ (mgE 7 rfl)))) (mvT hZ (hw _ (mgE 7 rfl))) (mvT hZ (hw _ (mgE 6 rfl))) (by decide) (backOf (W := 0) (rm1 l Z a0 hw [] s_MARIADB_ANSI_QUOTES (34 : Int32) (1 : Int32) (0 : Int32) h0 n0 Z0 F_backslashInSingleQuotes_s_MARIADB_ANSI_QUOTES F_backslashInDoubleQuotes_s_MARIADB_ANSI_QUOTES) hZ (hw _ (mgE 8 rfl)) (hw _ (mgE 1 rfl)) (by decide) (by decide)) q101a q101c (g := (mkF m 144 #[.val (.int p1), .val (.int p2), .val (.int p3), .val (.int (3 : Int32)), .val (.ref s_MARIADB_ANSI_QUOTES), .val (.int (1 : Int32)), .val (.int (34 : Int32)), .val (.int (1 : Int32)), .val (.int (0 : Int32))] [(.int (34 : Int32)), (.ref s_MARIADB_ANSI_QUOTES)])) rfl (by rw [hml]; rfl) (Steps.refl _) (argsL := [(.int (34 : Int32))]) (rest := []) (lenOf pd__C_Z rfl) rfl (by show 2 * 0 + _ ≤ _; exact Nat.le_of_eq rfl) (hb hby at_144) (fun _ _ => ⟨rfl, e91, (by decide : 0 + 0 ≤ _), (by decide : 0 + 0 ≤ _)⟩)
            dsimp only [Pt.U, Pt.locs, Pt.cells, Pt.slots] at X101 l101 y101 z101 st101 hQ101
            subst l101 y101 z101
            obtain ⟨rfl, N101q, e101⟩ := hQ101
            have pre102 : ∀ t, Steps p.tables e below (T101.setTop (mkF m 147 #[.val (.int p1), .val (.int p2), .val (.int p3), .val (.int (3 : Int32)), .val (.ref s_MARIADB_ANSI_QUOTES), .val (.int (1 : Int32)), .val (.int (34 : Int32)), .val (.int (1 : Int32)), .val (.int (0 : Int32))] [(.int (r1 (34 : Int32) (1 : Int32) (0 : Int32)))])) t → Steps p.tables e below (s₁.setTop (entryFrame m #[(.int p1), (.int p2), (.int p3)] maxLocals)) t := fun t kt => pre100 t (st101.trans kt)
            have N101 := Fr.app N0 N101q
            have hc149 : (r1 (34 : Int32) (1 : Int32) (0 : Int32)) = (0 : Int32) := by first | rfl | decide | (simp only [r1, if_neg hc18]; done) | (simp only [r1, if_neg hc18]; first | rfl | decide)
            have pre103 : ∀ t, Steps p.tables e below (T101.setTop (mkF m 157 #[.val (.int p1), .val (.int p2), .val (.int p3), .val (.int (3 : Int32)), .val (.ref s_MARIADB_ANSI_QUOTES), .val (.int (1 : Int32)), .val (.int (34 : Int32)), .val (.int (1 : Int32)), .val (.int (0 : Int32))] [(.int (1 : Int32))])) t → Steps p.tables e below (s₁.setTop (entryFrame m #[(.int p1), (.int p2), (.int p3)] maxLocals)) t := fun t kt => by
              refine pre102 t ?_
              refine XS.iload X101.here hx rfl (hb hby at_147) rfl ?_
              show Steps p.tables e below (T101.setTop (mkF m 149 #[.val (.int p1), .val (.int p2), .val (.int p3), .val (.int (3 : Int32)), .val (.ref s_MARIADB_ANSI_QUOTES), .val (.int (1 : Int32)), .val (.int (34 : Int32)), .val (.int (1 : Int32)), .val (.int (0 : Int32))] [(.int (0 : Int32)), (.int (r1 (34 : Int32) (1 : Int32) (0 : Int32)))])) _
              refine XS.icmpNo X101.here hx rfl (hb hby at_149) rfl (teq hc149).2 ?_
              show Steps p.tables e below (T101.setTop (mkF m 152 #[.val (.int p1), .val (.int p2), .val (.int p3), .val (.int (3 : Int32)), .val (.ref s_MARIADB_ANSI_QUOTES), .val (.int (1 : Int32)), .val (.int (34 : Int32)), .val (.int (1 : Int32)), .val (.int (0 : Int32))] [])) _
              refine XS.iconst X101.here hx rfl (hb hby at_152) ?_
              show Steps p.tables e below (T101.setTop (mkF m 153 #[.val (.int p1), .val (.int p2), .val (.int p3), .val (.int (3 : Int32)), .val (.ref s_MARIADB_ANSI_QUOTES), .val (.int (1 : Int32)), .val (.int (34 : Int32)), .val (.int (1 : Int32)), .val (.int (0 : Int32))] [(.int (1 : Int32))])) _
              refine XS.goto X101.here hx rfl (pc0 := 153) (pc' := 157) rfl (hb hby at_153) (by decide) (by decide) ?_
              show Steps p.tables e below (T101.setTop (mkF m 157 #[.val (.int p1), .val (.int p2), .val (.int p3), .val (.int (3 : Int32)), .val (.ref s_MARIADB_ANSI_QUOTES), .val (.int (1 : Int32)), .val (.int (34 : Int32)), .val (.int (1 : Int32)), .val (.int (0 : Int32))] [(.int (1 : Int32))])) _
              exact kt
            obtain ⟨fs, hr, hrun, hended, hW, hsame⟩ := X101.leave (v := some (.int (1 : Int32))) (fun h => by rw [Bd.returns] at h; cases h)
            refine ⟨_, _, pre103 _ ?_, hrun, hended, _, _, rfl, ?_, ⟨_, rfl⟩, hW, hsame.mono (by decide) (by decide)⟩
            · exact retN X101 hx (t := .boolean) Bd.returns (by simp) (hb hby at_157) hr
            · show Q0 Z p1 p2 p3 s_STANDARD s_POSTGRESQL s_MARIADB s_MARIADB_ANSI_QUOTES h0 n0 _ T101.heap _
              rw [e101]
              exact ⟨rfl, N101⟩
          · skip
            have pre104 : ∀ t, Steps p.tables e below (T91.setTop (mkF m 84 #[.val (.int p1), .val (.int p2), .val (.int p3), .val (.int (3 : Int32)), .val (.ref s_MARIADB_ANSI_QUOTES), .val (.int sel), .val (.int ((p3 &&& (65535 : Int32)).toUInt32.toUInt16.toUInt32.toInt32)), .unset, .unset] [])) t → Steps p.tables e below (s₁.setTop (entryFrame m #[(.int p1), (.int p2), (.int p3)] maxLocals)) t := fun t kt => by
              refine pre93 t ?_
              refine XS.iload X91.here hx rfl (hb hby at_52) rfl ?_
              show Steps p.tables e below (T91.setTop (mkF m 54 #[.val (.int p1), .val (.int p2), .val (.int p3), .val (.int (3 : Int32)), .val (.ref s_MARIADB_ANSI_QUOTES), .val (.int sel), .unset, .unset, .unset] [(.int sel)])) _
              refine XS.ifYes X91.here hx rfl (pc0 := 54) (pc' := 64) rfl (hb hby at_54) rfl ((if0 _ _).trans (feq hc54).2) (by decide) (by decide) ?_
              show Steps p.tables e below (T91.setTop (mkF m 64 #[.val (.int p1), .val (.int p2), .val (.int p3), .val (.int (3 : Int32)), .val (.ref s_MARIADB_ANSI_QUOTES), .val (.int sel), .unset, .unset, .unset] [])) _
              refine XS.iload X91.here hx rfl (hb hby at_64) rfl ?_
              show Steps p.tables e below (T91.setTop (mkF m 66 #[.val (.int p1), .val (.int p2), .val (.int p3), .val (.int (3 : Int32)), .val (.ref s_MARIADB_ANSI_QUOTES), .val (.int sel), .unset, .unset, .unset] [(.int sel)])) _
              refine XS.iconst X91.here hx rfl (hb hby at_66) ?_
              show Steps p.tables e below (T91.setTop (mkF m 67 #[.val (.int p1), .val (.int p2), .val (.int p3), .val (.int (3 : Int32)), .val (.ref s_MARIADB_ANSI_QUOTES), .val (.int sel), .unset, .unset, .unset] [(.int (1 : Int32)), (.int sel)])) _
              refine XS.icmpYes X91.here hx rfl (pc0 := 67) (pc' := 77) rfl (hb hby at_67) rfl (feq hc67).2 (by decide) (by decide) ?_
              show Steps p.tables e below (T91.setTop (mkF m 77 #[.val (.int p1), .val (.int p2), .val (.int p3), .val (.int (3 : Int32)), .val (.ref s_MARIADB_ANSI_QUOTES), .val (.int sel), .unset, .unset, .unset] [])) _
              refine XS.iloadN X91.here hx rfl (hb hby at_77) rfl ?_
              show Steps p.tables e below (T91.setTop (mkF m 78 #[.val (.int p1), .val (.int p2), .val (.int p3), .val (.int (3 : Int32)), .val (.ref s_MARIADB_ANSI_QUOTES), .val (.int sel), .unset, .unset, .unset] [(.int p3)])) _
              refine X91.ldcInt hx hown (mvT hZ (hw _ (mgE 3 rfl))) (g := (mkF m 78 #[.val (.int p1), .val (.int p2), .val (.int p3), .val (.int (3 : Int32)), .val (.ref s_MARIADB_ANSI_QUOTES), .val (.int sel), .unset, .unset, .unset] [(.int p3)])) rfl (hb hby at_78) _ ?_
              show Steps p.tables e below (T91.setTop (mkF m 80 #[.val (.int p1), .val (.int p2), .val (.int p3), .val (.int (3 : Int32)), .val (.ref s_MARIADB_ANSI_QUOTES), .val (.int sel), .unset, .unset, .unset] [(.int (65535 : Int32)), (.int p3)])) _
              refine XS.iand X91.here hx rfl (hb hby at_80) rfl ?_
              show Steps p.tables e below (T91.setTop (mkF m 81 #[.val (.int p1), .val (.int p2), .val (.int p3), .val (.int (3 : Int32)), .val (.ref s_MARIADB_ANSI_QUOTES), .val (.int sel), .unset, .unset, .unset] [(.int (p3 &&& (65535 : Int32)))])) _
              refine XS.i2c X91.here hx rfl (hb hby at_81) rfl ?_
              show Steps p.tables e below (T91.setTop (mkF m 82 #[.val (.int p1), .val (.int p2), .val (.int p3), .val (.int (3 : Int32)), .val (.ref s_MARIADB_ANSI_QUOTES), .val (.int sel), .unset, .unset, .unset] [(.int ((p3 &&& (65535 : Int32)).toUInt32.toUInt16.toUInt32.toInt32))])) _
              refine XS.istore X91.here hx rfl (hb hby at_82) rfl (l' := #[.val (.int p1), .val (.int p2), .val (.int p3), .val (.int (3 : Int32)), .val (.ref s_MARIADB_ANSI_QUOTES), .val (.int sel), .val (.int ((p3 &&& (65535 : Int32)).toUInt32.toUInt16.toUInt32.toInt32)), .unset, .unset]) rfl ?_
              show Steps p.tables e below (T91.setTop (mkF m 84 #[.val (.int p1), .val (.int p2), .val (.int p3), .val (.int (3 : Int32)), .val (.ref s_MARIADB_ANSI_QUOTES), .val (.int sel), .val (.int ((p3 &&& (65535 : Int32)).toUInt32.toUInt16.toUInt32.toInt32)), .unset, .unset] [])) _
              exact kt
            obtain ⟨qq, h_qq⟩ : ∃ z, z = ((p3 &&& (65535 : Int32)).toUInt32.toUInt16.toUInt32.toInt32) := ⟨_, rfl⟩
            rw [← h_qq] at pre104
            by_cases hc105 : qq = (39 : Int32)
            · skip
              have pre105 : ∀ t, Steps p.tables e below (T91.setTop (mkF m 108 #[.val (.int p1), .val (.int p2), .val (.int p3), .val (.int (3 : Int32)), .val (.ref s_MARIADB_ANSI_QUOTES), .val (.int sel), .val (.int qq), .val (.int (1 : Int32)), .unset] [])) t → Steps p.tables e below (s₁.setTop (entryFrame m #[(.int p1), (.int p2), (.int p3)] maxLocals)) t := fun t kt => by
                refine pre104 t ?_
                refine XS.iloadN X91.here hx rfl (hb hby at_84) rfl ?_
                show Steps p.tables e below (T91.setTop (mkF m 85 #[.val (.int p1), .val (.int p2), .val (.int p3), .val (.int (3 : Int32)), .val (.ref s_MARIADB_ANSI_QUOTES), .val (.int sel), .val (.int qq), .unset, .unset] [(.int (3 : Int32))])) _
                refine XS.iconst X91.here hx rfl (hb hby at_85) ?_
                show Steps p.tables e below (T91.setTop (mkF m 86 #[.val (.int p1), .val (.int p2), .val (.int p3), .val (.int (3 : Int32)), .val (.ref s_MARIADB_ANSI_QUOTES), .val (.int sel), .val (.int qq), .unset, .unset] [(.int (2 : Int32)), (.int (3 : Int32))])) _
                refine XS.icmpNo X91.here hx rfl (hb hby at_86) rfl (feq (by decide : ¬ ((3 : Int32) = (2 : Int32)))).1 ?_
                show Steps p.tables e below (T91.setTop (mkF m 89 #[.val (.int p1), .val (.int p2), .val (.int p3), .val (.int (3 : Int32)), .val (.ref s_MARIADB_ANSI_QUOTES), .val (.int sel), .val (.int qq), .unset, .unset] [])) _
                refine XS.iloadN X91.here hx rfl (hb hby at_89) rfl ?_
                show Steps p.tables e below (T91.setTop (mkF m 90 #[.val (.int p1), .val (.int p2), .val (.int p3), .val (.int (3 : Int32)), .val (.ref s_MARIADB_ANSI_QUOTES), .val (.int sel), .val (.int qq), .unset, .unset] [(.int (3 : Int32))])) _
                refine XS.iconst X91.here hx rfl (hb hby at_90) ?_
                show Steps p.tables e below (T91.setTop (mkF m 91 #[.val (.int p1), .val (.int p2), .val (.int p3), .val (.int (3 : Int32)), .val (.ref s_MARIADB_ANSI_QUOTES), .val (.int sel), .val (.int qq), .unset, .unset] [(.int (3 : Int32)), (.int (3 : Int32))])) _
                refine XS.icmpNo X91.here hx rfl (hb hby at_91) rfl (teq (by decide : (3 : Int32) = (3 : Int32))).2 ?_
                show Steps p.tables e below (T91.setTop (mkF m 94 #[.val (.int p1), .val (.int p2), .val (.int p3), .val (.int (3 : Int32)), .val (.ref s_MARIADB_ANSI_QUOTES), .val (.int sel), .val (.int qq), .unset, .unset] [])) _
                refine XS.iconst X91.here hx rfl (hb hby at_94) ?_
                show Steps p.tables e below (T91.setTop (mkF m 95 #[.val (.int p1), .val (.int p2), .val (.int p3), .val (.int (3 : Int32)), .val (.ref s_MARIADB_ANSI_QUOTES), .val (.int sel), .val (.int qq), .unset, .unset] [(.int (1 : Int32))])) _
                refine XS.goto X91.here hx rfl (pc0 := 95) (pc' := 99) rfl (hb hby at_95) (by decide) (by decide) ?_
                show Steps p.tables e below (T91.setTop (mkF m 99 #[.val (.int p1), .val (.int p2), .val (.int p3), .val (.int (3 : Int32)), .val (.ref s_MARIADB_ANSI_QUOTES), .val (.int sel), .val (.int qq), .unset, .unset] [(.int (1 : Int32))])) _
                refine XS.istore X91.here hx rfl (hb hby at_99) rfl (l' := #[.val (.int p1), .val (.int p2), .val (.int p3), .val (.int (3 : Int32)), .val (.ref s_MARIADB_ANSI_QUOTES), .val (.int sel), .val (.int qq), .val (.int (1 : Int32)), .unset]) rfl ?_
                show Steps p.tables e below (T91.setTop (mkF m 101 #[.val (.int p1), .val (.int p2), .val (.int p3), .val (.int (3 : Int32)), .val (.ref s_MARIADB_ANSI_QUOTES), .val (.int sel), .val (.int qq), .val (.int (1 : Int32)), .unset] [])) _
                refine XS.iload X91.here hx rfl (hb hby at_101) rfl ?_
                show Steps p.tables e below (T91.setTop (mkF m 103 #[.val (.int p1), .val (.int p2), .val (.int p3), .val (.int (3 : Int32)), .val (.ref s_MARIADB_ANSI_QUOTES), .val (.int sel), .val (.int qq), .val (.int (1 : Int32)), .unset] [(.int qq)])) _
                refine XS.bipush X91.here hx rfl (hb hby at_103) ?_
                show Steps p.tables e below (T91.setTop (mkF m 105 #[.val (.int p1), .val (.int p2), .val (.int p3), .val (.int (3 : Int32)), .val (.ref s_MARIADB_ANSI_QUOTES), .val (.int sel), .val (.int qq), .val (.int (1 : Int32)), .unset] [(.int (39 : Int32)), (.int qq)])) _
                refine XS.icmpNo X91.here hx rfl (hb hby at_105) rfl (teq hc105).2 ?_
                show Steps p.tables e below (T91.setTop (mkF m 108 #[.val (.int p1), .val (.int p2), .val (.int p3), .val (.int (3 : Int32)), .val (.ref s_MARIADB_ANSI_QUOTES), .val (.int sel), .val (.int qq), .val (.int (1 : Int32)), .unset] [])) _
                exact kt
              subst hc105
              have pre106 : ∀ t, Steps p.tables e below (T91.setTop (mkF m 144 #[.val (.int p1), .val (.int p2), .val (.int p3), .val (.int (3 : Int32)), .val (.ref s_MARIADB_ANSI_QUOTES), .val (.int sel), .val (.int (39 : Int32)), .val (.int (1 : Int32)), .val (.int (1 : Int32))] [(.int (39 : Int32)), (.ref s_MARIADB_ANSI_QUOTES)])) t → Steps p.tables e below (s₁.setTop (entryFrame m #[(.int p1), (.int p2), (.int p3)] maxLocals)) t := fun t kt => by
                refine pre105 t ?_
                refine XS.iload X91.here hx rfl (hb hby at_108) rfl ?_
                show Steps p.tables e below (T91.setTop (mkF m 110 #[.val (.int p1), .val (.int p2), .val (.int p3), .val (.int (3 : Int32)), .val (.ref s_MARIADB_ANSI_QUOTES), .val (.int sel), .val (.int (39 : Int32)), .val (.int (1 : Int32)), .unset] [(.int (1 : Int32))])) _
                refine XS.istore X91.here hx rfl (hb hby at_110) rfl (l' := #[.val (.int p1), .val (.int p2), .val (.int p3), .val (.int (3 : Int32)), .val (.ref s_MARIADB_ANSI_QUOTES), .val (.int sel), .val (.int (39 : Int32)), .val (.int (1 : Int32)), .val (.int (1 : Int32))]) rfl ?_
                show Steps p.tables e below (T91.setTop (mkF m 112 #[.val (.int p1), .val (.int p2), .val (.int p3), .val (.int (3 : Int32)), .val (.ref s_MARIADB_ANSI_QUOTES), .val (.int sel), .val (.int (39 : Int32)), .val (.int (1 : Int32)), .val (.int (1 : Int32))] [])) _
                refine XS.goto X91.here hx rfl (pc0 := 112) (pc' := 140) rfl (hb hby at_112) (by decide) (by decide) ?_
                show Steps p.tables e below (T91.setTop (mkF m 140 #[.val (.int p1), .val (.int p2), .val (.int p3), .val (.int (3 : Int32)), .val (.ref s_MARIADB_ANSI_QUOTES), .val (.int sel), .val (.int (39 : Int32)), .val (.int (1 : Int32)), .val (.int (1 : Int32))] [])) _
                refine XS.aload X91.here hx rfl (hb hby at_140) rfl rfl ?_
                show Steps p.tables e below (T91.setTop (mkF m 142 #[.val (.int p1), .val (.int p2), .val (.int p3), .val (.int (3 : Int32)), .val (.ref s_MARIADB_ANSI_QUOTES), .val (.int sel), .val (.int (39 : Int32)), .val (.int (1 : Int32)), .val (.int (1 : Int32))] [(.ref s_MARIADB_ANSI_QUOTES)])) _
                refine XS.iload X91.here hx rfl (hb hby at_142) rfl ?_
                show Steps p.tables e below (T91.setTop (mkF m 144 #[.val (.int p1), .val (.int p2), .val (.int p3), .val (.int (3 : Int32)), .val (.ref s_MARIADB_ANSI_QUOTES), .val (.int sel), .val (.int (39 : Int32)), .val (.int (1 : Int32)), .val (.int (1 : Int32))] [(.int (39 : Int32)), (.ref s_MARIADB_ANSI_QUOTES)])) _
                exact kt
              obtain ⟨cq107, kq107, q107a, q107b, q107c⟩ := isOf hZ e91 E_s_MARIADB_ANSI_QUOTES
              obtain ⟨_, _, ⟨T107, L107, k107, n107⟩, -, X107, ⟨Lc107, hQ107, l107, y107, z107⟩, st107⟩ := X91.virtualBack hx (y := (⟨"com/example/ready_ledger/readyledger/jdbc/SqlDialect", "backslashEscapes", "(C)Z"⟩ : MethodName)) (z := (⟨"com/example/ready_ledger/readyledger/jdbc/SqlDialect", "backslashEscapes", "(C)Z"⟩ : MethodName)) hown (mvT hZ (hw _ (mgE 4 rfl))) (mvT hZ (hw _ (mgE 5 rfl))) (notFace_of_selects (args := #[]) (mvT hZ (hw _ (mgE 7 rfl)))) (mvT hZ (hw _ (mgE 7 rfl))) (mvT hZ (hw _ (mgE 6 rfl))) (by decide) (backOf (W := 0) (rm1 l Z a0 hw [] s_MARIADB_ANSI_QUOTES (39 : Int32) (1 : Int32) (0 : Int32) h0 n0 Z0 F_backslashInSingleQuotes_s_MARIADB_ANSI_QUOTES F_backslashInDoubleQuotes_s_MARIADB_ANSI_QUOTES) hZ (hw _ (mgE 8 rfl)) (hw _ (mgE 1 rfl)) (by decide) (by decide)) q107a q107c (g := (mkF m 144 #[.val (.int p1), .val (.int p2), .val (.int p3), .val (.int (3 : Int32)), .val (.ref s_MARIADB_ANSI_QUOTES), .val (.int sel), .val (.int (39 : Int32)), .val (.int (1 : Int32)), .val (.int (1 : Int32))] [(.int (39 : Int32)), (.ref s_MARIADB_ANSI_QUOTES)])) rfl (by rw [hml]; rfl) (Steps.refl _) (argsL := [(.int (39 : Int32))]) (rest := []) (lenOf pd__C_Z rfl) rfl (by show 2 * 0 + _ ≤ _; exact Nat.le_of_eq rfl) (hb hby at_144) (fun _ _ => ⟨rfl, e91, (by decide : 0 + 0 ≤ _), (by decide : 0 + 0 ≤ _)⟩)
              dsimp only [Pt.U, Pt.locs, Pt.cells, Pt.slots] at X107 l107 y107 z107 st107 hQ107
              subst l107 y107 z107
              obtain ⟨rfl, N107q, e107⟩ := hQ107
              have pre108 : ∀ t, Steps p.tables e below (T107.setTop (mkF m 147 #[.val (.int p1), .val (.int p2), .val (.int p3), .val (.int (3 : Int32)), .val (.ref s_MARIADB_ANSI_QUOTES), .val (.int sel), .val (.int (39 : Int32)), .val (.int (1 : Int32)), .val (.int (1 : Int32))] [(.int (r1 (39 : Int32) (1 : Int32) (0 : Int32)))])) t → Steps p.tables e below (s₁.setTop (entryFrame m #[(.int p1), (.int p2), (.int p3)] maxLocals)) t := fun t kt => pre106 t (st107.trans kt)
              have N107 := Fr.app N0 N107q
              have hc149 : (r1 (39 : Int32) (1 : Int32) (0 : Int32)) = (1 : Int32) := by first | rfl | decide | (simp only [r1, if_neg hc18]; done) | (simp only [r1, if_neg hc18]; first | rfl | decide)
              have pre109 : ∀ t, Steps p.tables e below (T107.setTop (mkF m 157 #[.val (.int p1), .val (.int p2), .val (.int p3), .val (.int (3 : Int32)), .val (.ref s_MARIADB_ANSI_QUOTES), .val (.int sel), .val (.int (39 : Int32)), .val (.int (1 : Int32)), .val (.int (1 : Int32))] [(.int (1 : Int32))])) t → Steps p.tables e below (s₁.setTop (entryFrame m #[(.int p1), (.int p2), (.int p3)] maxLocals)) t := fun t kt => by
                refine pre108 t ?_
                refine XS.iload X107.here hx rfl (hb hby at_147) rfl ?_
                show Steps p.tables e below (T107.setTop (mkF m 149 #[.val (.int p1), .val (.int p2), .val (.int p3), .val (.int (3 : Int32)), .val (.ref s_MARIADB_ANSI_QUOTES), .val (.int sel), .val (.int (39 : Int32)), .val (.int (1 : Int32)), .val (.int (1 : Int32))] [(.int (1 : Int32)), (.int (r1 (39 : Int32) (1 : Int32) (0 : Int32)))])) _
                refine XS.icmpNo X107.here hx rfl (hb hby at_149) rfl (teq hc149).2 ?_
                show Steps p.tables e below (T107.setTop (mkF m 152 #[.val (.int p1), .val (.int p2), .val (.int p3), .val (.int (3 : Int32)), .val (.ref s_MARIADB_ANSI_QUOTES), .val (.int sel), .val (.int (39 : Int32)), .val (.int (1 : Int32)), .val (.int (1 : Int32))] [])) _
                refine XS.iconst X107.here hx rfl (hb hby at_152) ?_
                show Steps p.tables e below (T107.setTop (mkF m 153 #[.val (.int p1), .val (.int p2), .val (.int p3), .val (.int (3 : Int32)), .val (.ref s_MARIADB_ANSI_QUOTES), .val (.int sel), .val (.int (39 : Int32)), .val (.int (1 : Int32)), .val (.int (1 : Int32))] [(.int (1 : Int32))])) _
                refine XS.goto X107.here hx rfl (pc0 := 153) (pc' := 157) rfl (hb hby at_153) (by decide) (by decide) ?_
                show Steps p.tables e below (T107.setTop (mkF m 157 #[.val (.int p1), .val (.int p2), .val (.int p3), .val (.int (3 : Int32)), .val (.ref s_MARIADB_ANSI_QUOTES), .val (.int sel), .val (.int (39 : Int32)), .val (.int (1 : Int32)), .val (.int (1 : Int32))] [(.int (1 : Int32))])) _
                exact kt
              obtain ⟨fs, hr, hrun, hended, hW, hsame⟩ := X107.leave (v := some (.int (1 : Int32))) (fun h => by rw [Bd.returns] at h; cases h)
              refine ⟨_, _, pre109 _ ?_, hrun, hended, _, _, rfl, ?_, ⟨_, rfl⟩, hW, hsame.mono (by decide) (by decide)⟩
              · exact retN X107 hx (t := .boolean) Bd.returns (by simp) (hb hby at_157) hr
              · show Q0 Z p1 p2 p3 s_STANDARD s_POSTGRESQL s_MARIADB s_MARIADB_ANSI_QUOTES h0 n0 _ T107.heap _
                rw [e107]
                exact ⟨rfl, N107⟩
            · skip
              by_cases hc119 : qq = (34 : Int32)
              · skip
                have pre110 : ∀ t, Steps p.tables e below (T91.setTop (mkF m 122 #[.val (.int p1), .val (.int p2), .val (.int p3), .val (.int (3 : Int32)), .val (.ref s_MARIADB_ANSI_QUOTES), .val (.int sel), .val (.int qq), .val (.int (1 : Int32)), .unset] [])) t → Steps p.tables e below (s₁.setTop (entryFrame m #[(.int p1), (.int p2), (.int p3)] maxLocals)) t := fun t kt => by
                  refine pre104 t ?_
                  refine XS.iloadN X91.here hx rfl (hb hby at_84) rfl ?_
                  show Steps p.tables e below (T91.setTop (mkF m 85 #[.val (.int p1), .val (.int p2), .val (.int p3), .val (.int (3 : Int32)), .val (.ref s_MARIADB_ANSI_QUOTES), .val (.int sel), .val (.int qq), .unset, .unset] [(.int (3 : Int32))])) _
                  refine XS.iconst X91.here hx rfl (hb hby at_85) ?_
                  show Steps p.tables e below (T91.setTop (mkF m 86 #[.val (.int p1), .val (.int p2), .val (.int p3), .val (.int (3 : Int32)), .val (.ref s_MARIADB_ANSI_QUOTES), .val (.int sel), .val (.int qq), .unset, .unset] [(.int (2 : Int32)), (.int (3 : Int32))])) _
                  refine XS.icmpNo X91.here hx rfl (hb hby at_86) rfl (feq (by decide : ¬ ((3 : Int32) = (2 : Int32)))).1 ?_
                  show Steps p.tables e below (T91.setTop (mkF m 89 #[.val (.int p1), .val (.int p2), .val (.int p3), .val (.int (3 : Int32)), .val (.ref s_MARIADB_ANSI_QUOTES), .val (.int sel), .val (.int qq), .unset, .unset] [])) _
                  refine XS.iloadN X91.here hx rfl (hb hby at_89) rfl ?_
                  show Steps p.tables e below (T91.setTop (mkF m 90 #[.val (.int p1), .val (.int p2), .val (.int p3), .val (.int (3 : Int32)), .val (.ref s_MARIADB_ANSI_QUOTES), .val (.int sel), .val (.int qq), .unset, .unset] [(.int (3 : Int32))])) _
                  refine XS.iconst X91.here hx rfl (hb hby at_90) ?_
                  show Steps p.tables e below (T91.setTop (mkF m 91 #[.val (.int p1), .val (.int p2), .val (.int p3), .val (.int (3 : Int32)), .val (.ref s_MARIADB_ANSI_QUOTES), .val (.int sel), .val (.int qq), .unset, .unset] [(.int (3 : Int32)), (.int (3 : Int32))])) _
                  refine XS.icmpNo X91.here hx rfl (hb hby at_91) rfl (teq (by decide : (3 : Int32) = (3 : Int32))).2 ?_
                  show Steps p.tables e below (T91.setTop (mkF m 94 #[.val (.int p1), .val (.int p2), .val (.int p3), .val (.int (3 : Int32)), .val (.ref s_MARIADB_ANSI_QUOTES), .val (.int sel), .val (.int qq), .unset, .unset] [])) _
                  refine XS.iconst X91.here hx rfl (hb hby at_94) ?_
                  show Steps p.tables e below (T91.setTop (mkF m 95 #[.val (.int p1), .val (.int p2), .val (.int p3), .val (.int (3 : Int32)), .val (.ref s_MARIADB_ANSI_QUOTES), .val (.int sel), .val (.int qq), .unset, .unset] [(.int (1 : Int32))])) _
                  refine XS.goto X91.here hx rfl (pc0 := 95) (pc' := 99) rfl (hb hby at_95) (by decide) (by decide) ?_
                  show Steps p.tables e below (T91.setTop (mkF m 99 #[.val (.int p1), .val (.int p2), .val (.int p3), .val (.int (3 : Int32)), .val (.ref s_MARIADB_ANSI_QUOTES), .val (.int sel), .val (.int qq), .unset, .unset] [(.int (1 : Int32))])) _
                  refine XS.istore X91.here hx rfl (hb hby at_99) rfl (l' := #[.val (.int p1), .val (.int p2), .val (.int p3), .val (.int (3 : Int32)), .val (.ref s_MARIADB_ANSI_QUOTES), .val (.int sel), .val (.int qq), .val (.int (1 : Int32)), .unset]) rfl ?_
                  show Steps p.tables e below (T91.setTop (mkF m 101 #[.val (.int p1), .val (.int p2), .val (.int p3), .val (.int (3 : Int32)), .val (.ref s_MARIADB_ANSI_QUOTES), .val (.int sel), .val (.int qq), .val (.int (1 : Int32)), .unset] [])) _
                  refine XS.iload X91.here hx rfl (hb hby at_101) rfl ?_
                  show Steps p.tables e below (T91.setTop (mkF m 103 #[.val (.int p1), .val (.int p2), .val (.int p3), .val (.int (3 : Int32)), .val (.ref s_MARIADB_ANSI_QUOTES), .val (.int sel), .val (.int qq), .val (.int (1 : Int32)), .unset] [(.int qq)])) _
                  refine XS.bipush X91.here hx rfl (hb hby at_103) ?_
                  show Steps p.tables e below (T91.setTop (mkF m 105 #[.val (.int p1), .val (.int p2), .val (.int p3), .val (.int (3 : Int32)), .val (.ref s_MARIADB_ANSI_QUOTES), .val (.int sel), .val (.int qq), .val (.int (1 : Int32)), .unset] [(.int (39 : Int32)), (.int qq)])) _
                  refine XS.icmpYes X91.here hx rfl (pc0 := 105) (pc' := 115) rfl (hb hby at_105) rfl (feq hc105).2 (by decide) (by decide) ?_
                  show Steps p.tables e below (T91.setTop (mkF m 115 #[.val (.int p1), .val (.int p2), .val (.int p3), .val (.int (3 : Int32)), .val (.ref s_MARIADB_ANSI_QUOTES), .val (.int sel), .val (.int qq), .val (.int (1 : Int32)), .unset] [])) _
                  refine XS.iload X91.here hx rfl (hb hby at_115) rfl ?_
                  show Steps p.tables e below (T91.setTop (mkF m 117 #[.val (.int p1), .val (.int p2), .val (.int p3), .val (.int (3 : Int32)), .val (.ref s_MARIADB_ANSI_QUOTES), .val (.int sel), .val (.int qq), .val (.int (1 : Int32)), .unset] [(.int qq)])) _
                  refine XS.bipush X91.here hx rfl (hb hby at_117) ?_
                  show Steps p.tables e below (T91.setTop (mkF m 119 #[.val (.int p1), .val (.int p2), .val (.int p3), .val (.int (3 : Int32)), .val (.ref s_MARIADB_ANSI_QUOTES), .val (.int sel), .val (.int qq), .val (.int (1 : Int32)), .unset] [(.int (34 : Int32)), (.int qq)])) _
                  refine XS.icmpNo X91.here hx rfl (hb hby at_119) rfl (teq hc119).2 ?_
                  show Steps p.tables e below (T91.setTop (mkF m 122 #[.val (.int p1), .val (.int p2), .val (.int p3), .val (.int (3 : Int32)), .val (.ref s_MARIADB_ANSI_QUOTES), .val (.int sel), .val (.int qq), .val (.int (1 : Int32)), .unset] [])) _
                  exact kt
                subst hc119
                have pre111 : ∀ t, Steps p.tables e below (T91.setTop (mkF m 144 #[.val (.int p1), .val (.int p2), .val (.int p3), .val (.int (3 : Int32)), .val (.ref s_MARIADB_ANSI_QUOTES), .val (.int sel), .val (.int (34 : Int32)), .val (.int (1 : Int32)), .val (.int (0 : Int32))] [(.int (34 : Int32)), (.ref s_MARIADB_ANSI_QUOTES)])) t → Steps p.tables e below (s₁.setTop (entryFrame m #[(.int p1), (.int p2), (.int p3)] maxLocals)) t := fun t kt => by
                  refine pre110 t ?_
                  refine XS.iloadN X91.here hx rfl (hb hby at_122) rfl ?_
                  show Steps p.tables e below (T91.setTop (mkF m 123 #[.val (.int p1), .val (.int p2), .val (.int p3), .val (.int (3 : Int32)), .val (.ref s_MARIADB_ANSI_QUOTES), .val (.int sel), .val (.int (34 : Int32)), .val (.int (1 : Int32)), .unset] [(.int (3 : Int32))])) _
                  refine XS.iconst X91.here hx rfl (hb hby at_123) ?_
                  show Steps p.tables e below (T91.setTop (mkF m 124 #[.val (.int p1), .val (.int p2), .val (.int p3), .val (.int (3 : Int32)), .val (.ref s_MARIADB_ANSI_QUOTES), .val (.int sel), .val (.int (34 : Int32)), .val (.int (1 : Int32)), .unset] [(.int (2 : Int32)), (.int (3 : Int32))])) _
                  refine XS.icmpYes X91.here hx rfl (pc0 := 124) (pc' := 131) rfl (hb hby at_124) rfl (feq (by decide : ¬ ((3 : Int32) = (2 : Int32)))).2 (by decide) (by decide) ?_
                  show Steps p.tables e below (T91.setTop (mkF m 131 #[.val (.int p1), .val (.int p2), .val (.int p3), .val (.int (3 : Int32)), .val (.ref s_MARIADB_ANSI_QUOTES), .val (.int sel), .val (.int (34 : Int32)), .val (.int (1 : Int32)), .unset] [])) _
                  refine XS.iconst X91.here hx rfl (hb hby at_131) ?_
                  show Steps p.tables e below (T91.setTop (mkF m 132 #[.val (.int p1), .val (.int p2), .val (.int p3), .val (.int (3 : Int32)), .val (.ref s_MARIADB_ANSI_QUOTES), .val (.int sel), .val (.int (34 : Int32)), .val (.int (1 : Int32)), .unset] [(.int (0 : Int32))])) _
                  refine XS.istore X91.here hx rfl (hb hby at_132) rfl (l' := #[.val (.int p1), .val (.int p2), .val (.int p3), .val (.int (3 : Int32)), .val (.ref s_MARIADB_ANSI_QUOTES), .val (.int sel), .val (.int (34 : Int32)), .val (.int (1 : Int32)), .val (.int (0 : Int32))]) rfl ?_
                  show Steps p.tables e below (T91.setTop (mkF m 134 #[.val (.int p1), .val (.int p2), .val (.int p3), .val (.int (3 : Int32)), .val (.ref s_MARIADB_ANSI_QUOTES), .val (.int sel), .val (.int (34 : Int32)), .val (.int (1 : Int32)), .val (.int (0 : Int32))] [])) _
                  refine XS.goto X91.here hx rfl (pc0 := 134) (pc' := 140) rfl (hb hby at_134) (by decide) (by decide) ?_
                  show Steps p.tables e below (T91.setTop (mkF m 140 #[.val (.int p1), .val (.int p2), .val (.int p3), .val (.int (3 : Int32)), .val (.ref s_MARIADB_ANSI_QUOTES), .val (.int sel), .val (.int (34 : Int32)), .val (.int (1 : Int32)), .val (.int (0 : Int32))] [])) _
                  refine XS.aload X91.here hx rfl (hb hby at_140) rfl rfl ?_
                  show Steps p.tables e below (T91.setTop (mkF m 142 #[.val (.int p1), .val (.int p2), .val (.int p3), .val (.int (3 : Int32)), .val (.ref s_MARIADB_ANSI_QUOTES), .val (.int sel), .val (.int (34 : Int32)), .val (.int (1 : Int32)), .val (.int (0 : Int32))] [(.ref s_MARIADB_ANSI_QUOTES)])) _
                  refine XS.iload X91.here hx rfl (hb hby at_142) rfl ?_
                  show Steps p.tables e below (T91.setTop (mkF m 144 #[.val (.int p1), .val (.int p2), .val (.int p3), .val (.int (3 : Int32)), .val (.ref s_MARIADB_ANSI_QUOTES), .val (.int sel), .val (.int (34 : Int32)), .val (.int (1 : Int32)), .val (.int (0 : Int32))] [(.int (34 : Int32)), (.ref s_MARIADB_ANSI_QUOTES)])) _
                  exact kt
                obtain ⟨cq112, kq112, q112a, q112b, q112c⟩ := isOf hZ e91 E_s_MARIADB_ANSI_QUOTES
                obtain ⟨_, _, ⟨T112, L112, k112, n112⟩, -, X112, ⟨Lc112, hQ112, l112, y112, z112⟩, st112⟩ := X91.virtualBack hx (y := (⟨"com/example/ready_ledger/readyledger/jdbc/SqlDialect", "backslashEscapes", "(C)Z"⟩ : MethodName)) (z := (⟨"com/example/ready_ledger/readyledger/jdbc/SqlDialect", "backslashEscapes", "(C)Z"⟩ : MethodName)) hown (mvT hZ (hw _ (mgE 4 rfl))) (mvT hZ (hw _ (mgE 5 rfl))) (notFace_of_selects (args := #[]) (mvT hZ (hw _ (mgE 7 rfl)))) (mvT hZ (hw _ (mgE 7 rfl))) (mvT hZ (hw _ (mgE 6 rfl))) (by decide) (backOf (W := 0) (rm1 l Z a0 hw [] s_MARIADB_ANSI_QUOTES (34 : Int32) (1 : Int32) (0 : Int32) h0 n0 Z0 F_backslashInSingleQuotes_s_MARIADB_ANSI_QUOTES F_backslashInDoubleQuotes_s_MARIADB_ANSI_QUOTES) hZ (hw _ (mgE 8 rfl)) (hw _ (mgE 1 rfl)) (by decide) (by decide)) q112a q112c (g := (mkF m 144 #[.val (.int p1), .val (.int p2), .val (.int p3), .val (.int (3 : Int32)), .val (.ref s_MARIADB_ANSI_QUOTES), .val (.int sel), .val (.int (34 : Int32)), .val (.int (1 : Int32)), .val (.int (0 : Int32))] [(.int (34 : Int32)), (.ref s_MARIADB_ANSI_QUOTES)])) rfl (by rw [hml]; rfl) (Steps.refl _) (argsL := [(.int (34 : Int32))]) (rest := []) (lenOf pd__C_Z rfl) rfl (by show 2 * 0 + _ ≤ _; exact Nat.le_of_eq rfl) (hb hby at_144) (fun _ _ => ⟨rfl, e91, (by decide : 0 + 0 ≤ _), (by decide : 0 + 0 ≤ _)⟩)
                dsimp only [Pt.U, Pt.locs, Pt.cells, Pt.slots] at X112 l112 y112 z112 st112 hQ112
                subst l112 y112 z112
                obtain ⟨rfl, N112q, e112⟩ := hQ112
                have pre113 : ∀ t, Steps p.tables e below (T112.setTop (mkF m 147 #[.val (.int p1), .val (.int p2), .val (.int p3), .val (.int (3 : Int32)), .val (.ref s_MARIADB_ANSI_QUOTES), .val (.int sel), .val (.int (34 : Int32)), .val (.int (1 : Int32)), .val (.int (0 : Int32))] [(.int (r1 (34 : Int32) (1 : Int32) (0 : Int32)))])) t → Steps p.tables e below (s₁.setTop (entryFrame m #[(.int p1), (.int p2), (.int p3)] maxLocals)) t := fun t kt => pre111 t (st112.trans kt)
                have N112 := Fr.app N0 N112q
                have hc149 : (r1 (34 : Int32) (1 : Int32) (0 : Int32)) = (0 : Int32) := by first | rfl | decide | (simp only [r1, if_neg hc18, if_neg hc105]; done) | (simp only [r1, if_neg hc18, if_neg hc105]; first | rfl | decide)
                have pre114 : ∀ t, Steps p.tables e below (T112.setTop (mkF m 157 #[.val (.int p1), .val (.int p2), .val (.int p3), .val (.int (3 : Int32)), .val (.ref s_MARIADB_ANSI_QUOTES), .val (.int sel), .val (.int (34 : Int32)), .val (.int (1 : Int32)), .val (.int (0 : Int32))] [(.int (1 : Int32))])) t → Steps p.tables e below (s₁.setTop (entryFrame m #[(.int p1), (.int p2), (.int p3)] maxLocals)) t := fun t kt => by
                  refine pre113 t ?_
                  refine XS.iload X112.here hx rfl (hb hby at_147) rfl ?_
                  show Steps p.tables e below (T112.setTop (mkF m 149 #[.val (.int p1), .val (.int p2), .val (.int p3), .val (.int (3 : Int32)), .val (.ref s_MARIADB_ANSI_QUOTES), .val (.int sel), .val (.int (34 : Int32)), .val (.int (1 : Int32)), .val (.int (0 : Int32))] [(.int (0 : Int32)), (.int (r1 (34 : Int32) (1 : Int32) (0 : Int32)))])) _
                  refine XS.icmpNo X112.here hx rfl (hb hby at_149) rfl (teq hc149).2 ?_
                  show Steps p.tables e below (T112.setTop (mkF m 152 #[.val (.int p1), .val (.int p2), .val (.int p3), .val (.int (3 : Int32)), .val (.ref s_MARIADB_ANSI_QUOTES), .val (.int sel), .val (.int (34 : Int32)), .val (.int (1 : Int32)), .val (.int (0 : Int32))] [])) _
                  refine XS.iconst X112.here hx rfl (hb hby at_152) ?_
                  show Steps p.tables e below (T112.setTop (mkF m 153 #[.val (.int p1), .val (.int p2), .val (.int p3), .val (.int (3 : Int32)), .val (.ref s_MARIADB_ANSI_QUOTES), .val (.int sel), .val (.int (34 : Int32)), .val (.int (1 : Int32)), .val (.int (0 : Int32))] [(.int (1 : Int32))])) _
                  refine XS.goto X112.here hx rfl (pc0 := 153) (pc' := 157) rfl (hb hby at_153) (by decide) (by decide) ?_
                  show Steps p.tables e below (T112.setTop (mkF m 157 #[.val (.int p1), .val (.int p2), .val (.int p3), .val (.int (3 : Int32)), .val (.ref s_MARIADB_ANSI_QUOTES), .val (.int sel), .val (.int (34 : Int32)), .val (.int (1 : Int32)), .val (.int (0 : Int32))] [(.int (1 : Int32))])) _
                  exact kt
                obtain ⟨fs, hr, hrun, hended, hW, hsame⟩ := X112.leave (v := some (.int (1 : Int32))) (fun h => by rw [Bd.returns] at h; cases h)
                refine ⟨_, _, pre114 _ ?_, hrun, hended, _, _, rfl, ?_, ⟨_, rfl⟩, hW, hsame.mono (by decide) (by decide)⟩
                · exact retN X112 hx (t := .boolean) Bd.returns (by simp) (hb hby at_157) hr
                · show Q0 Z p1 p2 p3 s_STANDARD s_POSTGRESQL s_MARIADB s_MARIADB_ANSI_QUOTES h0 n0 _ T112.heap _
                  rw [e112]
                  exact ⟨rfl, N112⟩
              · skip
                have pre115 : ∀ t, Steps p.tables e below (T91.setTop (mkF m 144 #[.val (.int p1), .val (.int p2), .val (.int p3), .val (.int (3 : Int32)), .val (.ref s_MARIADB_ANSI_QUOTES), .val (.int sel), .val (.int qq), .val (.int (1 : Int32)), .val (.int (0 : Int32))] [(.int qq), (.ref s_MARIADB_ANSI_QUOTES)])) t → Steps p.tables e below (s₁.setTop (entryFrame m #[(.int p1), (.int p2), (.int p3)] maxLocals)) t := fun t kt => by
                  refine pre104 t ?_
                  refine XS.iloadN X91.here hx rfl (hb hby at_84) rfl ?_
                  show Steps p.tables e below (T91.setTop (mkF m 85 #[.val (.int p1), .val (.int p2), .val (.int p3), .val (.int (3 : Int32)), .val (.ref s_MARIADB_ANSI_QUOTES), .val (.int sel), .val (.int qq), .unset, .unset] [(.int (3 : Int32))])) _
                  refine XS.iconst X91.here hx rfl (hb hby at_85) ?_
                  show Steps p.tables e below (T91.setTop (mkF m 86 #[.val (.int p1), .val (.int p2), .val (.int p3), .val (.int (3 : Int32)), .val (.ref s_MARIADB_ANSI_QUOTES), .val (.int sel), .val (.int qq), .unset, .unset] [(.int (2 : Int32)), (.int (3 : Int32))])) _
                  refine XS.icmpNo X91.here hx rfl (hb hby at_86) rfl (feq (by decide : ¬ ((3 : Int32) = (2 : Int32)))).1 ?_
                  show Steps p.tables e below (T91.setTop (mkF m 89 #[.val (.int p1), .val (.int p2), .val (.int p3), .val (.int (3 : Int32)), .val (.ref s_MARIADB_ANSI_QUOTES), .val (.int sel), .val (.int qq), .unset, .unset] [])) _
                  refine XS.iloadN X91.here hx rfl (hb hby at_89) rfl ?_
                  show Steps p.tables e below (T91.setTop (mkF m 90 #[.val (.int p1), .val (.int p2), .val (.int p3), .val (.int (3 : Int32)), .val (.ref s_MARIADB_ANSI_QUOTES), .val (.int sel), .val (.int qq), .unset, .unset] [(.int (3 : Int32))])) _
                  refine XS.iconst X91.here hx rfl (hb hby at_90) ?_
                  show Steps p.tables e below (T91.setTop (mkF m 91 #[.val (.int p1), .val (.int p2), .val (.int p3), .val (.int (3 : Int32)), .val (.ref s_MARIADB_ANSI_QUOTES), .val (.int sel), .val (.int qq), .unset, .unset] [(.int (3 : Int32)), (.int (3 : Int32))])) _
                  refine XS.icmpNo X91.here hx rfl (hb hby at_91) rfl (teq (by decide : (3 : Int32) = (3 : Int32))).2 ?_
                  show Steps p.tables e below (T91.setTop (mkF m 94 #[.val (.int p1), .val (.int p2), .val (.int p3), .val (.int (3 : Int32)), .val (.ref s_MARIADB_ANSI_QUOTES), .val (.int sel), .val (.int qq), .unset, .unset] [])) _
                  refine XS.iconst X91.here hx rfl (hb hby at_94) ?_
                  show Steps p.tables e below (T91.setTop (mkF m 95 #[.val (.int p1), .val (.int p2), .val (.int p3), .val (.int (3 : Int32)), .val (.ref s_MARIADB_ANSI_QUOTES), .val (.int sel), .val (.int qq), .unset, .unset] [(.int (1 : Int32))])) _
                  refine XS.goto X91.here hx rfl (pc0 := 95) (pc' := 99) rfl (hb hby at_95) (by decide) (by decide) ?_
                  show Steps p.tables e below (T91.setTop (mkF m 99 #[.val (.int p1), .val (.int p2), .val (.int p3), .val (.int (3 : Int32)), .val (.ref s_MARIADB_ANSI_QUOTES), .val (.int sel), .val (.int qq), .unset, .unset] [(.int (1 : Int32))])) _
                  refine XS.istore X91.here hx rfl (hb hby at_99) rfl (l' := #[.val (.int p1), .val (.int p2), .val (.int p3), .val (.int (3 : Int32)), .val (.ref s_MARIADB_ANSI_QUOTES), .val (.int sel), .val (.int qq), .val (.int (1 : Int32)), .unset]) rfl ?_
                  show Steps p.tables e below (T91.setTop (mkF m 101 #[.val (.int p1), .val (.int p2), .val (.int p3), .val (.int (3 : Int32)), .val (.ref s_MARIADB_ANSI_QUOTES), .val (.int sel), .val (.int qq), .val (.int (1 : Int32)), .unset] [])) _
                  refine XS.iload X91.here hx rfl (hb hby at_101) rfl ?_
                  show Steps p.tables e below (T91.setTop (mkF m 103 #[.val (.int p1), .val (.int p2), .val (.int p3), .val (.int (3 : Int32)), .val (.ref s_MARIADB_ANSI_QUOTES), .val (.int sel), .val (.int qq), .val (.int (1 : Int32)), .unset] [(.int qq)])) _
                  refine XS.bipush X91.here hx rfl (hb hby at_103) ?_
                  show Steps p.tables e below (T91.setTop (mkF m 105 #[.val (.int p1), .val (.int p2), .val (.int p3), .val (.int (3 : Int32)), .val (.ref s_MARIADB_ANSI_QUOTES), .val (.int sel), .val (.int qq), .val (.int (1 : Int32)), .unset] [(.int (39 : Int32)), (.int qq)])) _
                  refine XS.icmpYes X91.here hx rfl (pc0 := 105) (pc' := 115) rfl (hb hby at_105) rfl (feq hc105).2 (by decide) (by decide) ?_
                  show Steps p.tables e below (T91.setTop (mkF m 115 #[.val (.int p1), .val (.int p2), .val (.int p3), .val (.int (3 : Int32)), .val (.ref s_MARIADB_ANSI_QUOTES), .val (.int sel), .val (.int qq), .val (.int (1 : Int32)), .unset] [])) _
                  refine XS.iload X91.here hx rfl (hb hby at_115) rfl ?_
                  show Steps p.tables e below (T91.setTop (mkF m 117 #[.val (.int p1), .val (.int p2), .val (.int p3), .val (.int (3 : Int32)), .val (.ref s_MARIADB_ANSI_QUOTES), .val (.int sel), .val (.int qq), .val (.int (1 : Int32)), .unset] [(.int qq)])) _
                  refine XS.bipush X91.here hx rfl (hb hby at_117) ?_
                  show Steps p.tables e below (T91.setTop (mkF m 119 #[.val (.int p1), .val (.int p2), .val (.int p3), .val (.int (3 : Int32)), .val (.ref s_MARIADB_ANSI_QUOTES), .val (.int sel), .val (.int qq), .val (.int (1 : Int32)), .unset] [(.int (34 : Int32)), (.int qq)])) _
                  refine XS.icmpYes X91.here hx rfl (pc0 := 119) (pc' := 137) rfl (hb hby at_119) rfl (feq hc119).2 (by decide) (by decide) ?_
                  show Steps p.tables e below (T91.setTop (mkF m 137 #[.val (.int p1), .val (.int p2), .val (.int p3), .val (.int (3 : Int32)), .val (.ref s_MARIADB_ANSI_QUOTES), .val (.int sel), .val (.int qq), .val (.int (1 : Int32)), .unset] [])) _
                  refine XS.iconst X91.here hx rfl (hb hby at_137) ?_
                  show Steps p.tables e below (T91.setTop (mkF m 138 #[.val (.int p1), .val (.int p2), .val (.int p3), .val (.int (3 : Int32)), .val (.ref s_MARIADB_ANSI_QUOTES), .val (.int sel), .val (.int qq), .val (.int (1 : Int32)), .unset] [(.int (0 : Int32))])) _
                  refine XS.istore X91.here hx rfl (hb hby at_138) rfl (l' := #[.val (.int p1), .val (.int p2), .val (.int p3), .val (.int (3 : Int32)), .val (.ref s_MARIADB_ANSI_QUOTES), .val (.int sel), .val (.int qq), .val (.int (1 : Int32)), .val (.int (0 : Int32))]) rfl ?_
                  show Steps p.tables e below (T91.setTop (mkF m 140 #[.val (.int p1), .val (.int p2), .val (.int p3), .val (.int (3 : Int32)), .val (.ref s_MARIADB_ANSI_QUOTES), .val (.int sel), .val (.int qq), .val (.int (1 : Int32)), .val (.int (0 : Int32))] [])) _
                  refine XS.aload X91.here hx rfl (hb hby at_140) rfl rfl ?_
                  show Steps p.tables e below (T91.setTop (mkF m 142 #[.val (.int p1), .val (.int p2), .val (.int p3), .val (.int (3 : Int32)), .val (.ref s_MARIADB_ANSI_QUOTES), .val (.int sel), .val (.int qq), .val (.int (1 : Int32)), .val (.int (0 : Int32))] [(.ref s_MARIADB_ANSI_QUOTES)])) _
                  refine XS.iload X91.here hx rfl (hb hby at_142) rfl ?_
                  show Steps p.tables e below (T91.setTop (mkF m 144 #[.val (.int p1), .val (.int p2), .val (.int p3), .val (.int (3 : Int32)), .val (.ref s_MARIADB_ANSI_QUOTES), .val (.int sel), .val (.int qq), .val (.int (1 : Int32)), .val (.int (0 : Int32))] [(.int qq), (.ref s_MARIADB_ANSI_QUOTES)])) _
                  exact kt
                obtain ⟨cq116, kq116, q116a, q116b, q116c⟩ := isOf hZ e91 E_s_MARIADB_ANSI_QUOTES
                obtain ⟨_, _, ⟨T116, L116, k116, n116⟩, -, X116, ⟨Lc116, hQ116, l116, y116, z116⟩, st116⟩ := X91.virtualBack hx (y := (⟨"com/example/ready_ledger/readyledger/jdbc/SqlDialect", "backslashEscapes", "(C)Z"⟩ : MethodName)) (z := (⟨"com/example/ready_ledger/readyledger/jdbc/SqlDialect", "backslashEscapes", "(C)Z"⟩ : MethodName)) hown (mvT hZ (hw _ (mgE 4 rfl))) (mvT hZ (hw _ (mgE 5 rfl))) (notFace_of_selects (args := #[]) (mvT hZ (hw _ (mgE 7 rfl)))) (mvT hZ (hw _ (mgE 7 rfl))) (mvT hZ (hw _ (mgE 6 rfl))) (by decide) (backOf (W := 0) (rm1 l Z a0 hw [] s_MARIADB_ANSI_QUOTES qq (1 : Int32) (0 : Int32) h0 n0 Z0 F_backslashInSingleQuotes_s_MARIADB_ANSI_QUOTES F_backslashInDoubleQuotes_s_MARIADB_ANSI_QUOTES) hZ (hw _ (mgE 8 rfl)) (hw _ (mgE 1 rfl)) (by decide) (by decide)) q116a q116c (g := (mkF m 144 #[.val (.int p1), .val (.int p2), .val (.int p3), .val (.int (3 : Int32)), .val (.ref s_MARIADB_ANSI_QUOTES), .val (.int sel), .val (.int qq), .val (.int (1 : Int32)), .val (.int (0 : Int32))] [(.int qq), (.ref s_MARIADB_ANSI_QUOTES)])) rfl (by rw [hml]; rfl) (Steps.refl _) (argsL := [(.int qq)]) (rest := []) (lenOf pd__C_Z rfl) rfl (by show 2 * 0 + _ ≤ _; exact Nat.le_of_eq rfl) (hb hby at_144) (fun _ _ => ⟨rfl, e91, (by decide : 0 + 0 ≤ _), (by decide : 0 + 0 ≤ _)⟩)
                dsimp only [Pt.U, Pt.locs, Pt.cells, Pt.slots] at X116 l116 y116 z116 st116 hQ116
                subst l116 y116 z116
                obtain ⟨rfl, N116q, e116⟩ := hQ116
                have pre117 : ∀ t, Steps p.tables e below (T116.setTop (mkF m 147 #[.val (.int p1), .val (.int p2), .val (.int p3), .val (.int (3 : Int32)), .val (.ref s_MARIADB_ANSI_QUOTES), .val (.int sel), .val (.int qq), .val (.int (1 : Int32)), .val (.int (0 : Int32))] [(.int (r1 qq (1 : Int32) (0 : Int32)))])) t → Steps p.tables e below (s₁.setTop (entryFrame m #[(.int p1), (.int p2), (.int p3)] maxLocals)) t := fun t kt => pre115 t (st116.trans kt)
                have N116 := Fr.app N0 N116q
                have hc149 : (r1 qq (1 : Int32) (0 : Int32)) = (0 : Int32) := by first | rfl | decide | (simp only [r1, if_neg hc18, if_neg hc105, if_neg hc119]; done) | (simp only [r1, if_neg hc18, if_neg hc105, if_neg hc119]; first | rfl | decide)
                have pre118 : ∀ t, Steps p.tables e below (T116.setTop (mkF m 157 #[.val (.int p1), .val (.int p2), .val (.int p3), .val (.int (3 : Int32)), .val (.ref s_MARIADB_ANSI_QUOTES), .val (.int sel), .val (.int qq), .val (.int (1 : Int32)), .val (.int (0 : Int32))] [(.int (1 : Int32))])) t → Steps p.tables e below (s₁.setTop (entryFrame m #[(.int p1), (.int p2), (.int p3)] maxLocals)) t := fun t kt => by
                  refine pre117 t ?_
                  refine XS.iload X116.here hx rfl (hb hby at_147) rfl ?_
                  show Steps p.tables e below (T116.setTop (mkF m 149 #[.val (.int p1), .val (.int p2), .val (.int p3), .val (.int (3 : Int32)), .val (.ref s_MARIADB_ANSI_QUOTES), .val (.int sel), .val (.int qq), .val (.int (1 : Int32)), .val (.int (0 : Int32))] [(.int (0 : Int32)), (.int (r1 qq (1 : Int32) (0 : Int32)))])) _
                  refine XS.icmpNo X116.here hx rfl (hb hby at_149) rfl (teq hc149).2 ?_
                  show Steps p.tables e below (T116.setTop (mkF m 152 #[.val (.int p1), .val (.int p2), .val (.int p3), .val (.int (3 : Int32)), .val (.ref s_MARIADB_ANSI_QUOTES), .val (.int sel), .val (.int qq), .val (.int (1 : Int32)), .val (.int (0 : Int32))] [])) _
                  refine XS.iconst X116.here hx rfl (hb hby at_152) ?_
                  show Steps p.tables e below (T116.setTop (mkF m 153 #[.val (.int p1), .val (.int p2), .val (.int p3), .val (.int (3 : Int32)), .val (.ref s_MARIADB_ANSI_QUOTES), .val (.int sel), .val (.int qq), .val (.int (1 : Int32)), .val (.int (0 : Int32))] [(.int (1 : Int32))])) _
                  refine XS.goto X116.here hx rfl (pc0 := 153) (pc' := 157) rfl (hb hby at_153) (by decide) (by decide) ?_
                  show Steps p.tables e below (T116.setTop (mkF m 157 #[.val (.int p1), .val (.int p2), .val (.int p3), .val (.int (3 : Int32)), .val (.ref s_MARIADB_ANSI_QUOTES), .val (.int sel), .val (.int qq), .val (.int (1 : Int32)), .val (.int (0 : Int32))] [(.int (1 : Int32))])) _
                  exact kt
                obtain ⟨fs, hr, hrun, hended, hW, hsame⟩ := X116.leave (v := some (.int (1 : Int32))) (fun h => by rw [Bd.returns] at h; cases h)
                refine ⟨_, _, pre118 _ ?_, hrun, hended, _, _, rfl, ?_, ⟨_, rfl⟩, hW, hsame.mono (by decide) (by decide)⟩
                · exact retN X116 hx (t := .boolean) Bd.returns (by simp) (hb hby at_157) hr
                · show Q0 Z p1 p2 p3 s_STANDARD s_POSTGRESQL s_MARIADB s_MARIADB_ANSI_QUOTES h0 n0 _ T116.heap _
                  rw [e116]
                  exact ⟨rfl, N116⟩
set_option maxRecDepth 65536 in
set_option maxHeartbeats 40000000 in
theorem comes_1 {Post : Tables → Env → Array Value → State → Outcome → State → Prop} (hpost : ∀ tb e args s v u, (limb_1_1.after args s (.returned v) u = true ∧ limb_1_2.after args s (.returned v) u = true ∧ True) → FrameEnd s (.returned v) u (Jvm.fieldLocs frame_1_writes args s ++ Jvm.arrayLocs frame_1_arrays args s ++ Jvm.staticLocs frame_1_statics s) 0 0 → Post tb e args s (.returned v) u) :
    ArmFor flags0 classFile x code maxLocals ret World_1 tables_1 room_1 Calls_1 rest_1 Pre_1 Post := by
  intro l hfl _ _ p e ha hc hk s m args below hf hA hF happ hP
  obtain ⟨hcalls, hrest, hpre⟩ := hP
  obtain ⟨-, -, -, hnamed, -, -, -, hat⟩ := (Spec.applies_iff hf).mp happ
  obtain ⟨hg, hn⟩ := and_e (Cond.before_iff.mp (show (Jvm.Cond.and given_1 narrow_1).before args s = true from hpre))
  obtain ⟨g1, g2⟩ := and_e hg
  obtain ⟨g3, g4⟩ := and_e g2
  obtain ⟨g5, g6⟩ := and_e g4
  obtain ⟨w0, w1, w2, rfl⟩ : ∃ w0 w1 w2 : Value, args = #[w0, w1, w2] := by
    have hs : args.size = 3 := by simpa [Cond.value, given_1] using g1
    obtain ⟨L⟩ := args
    match L, hs with
    | [w0, w1, w2], _ => exact ⟨w0, w1, w2, rfl⟩
  have hw := fun d (hd : d ∈ tables_1) => atoms_spec (ws := Jvm.Cond.code x code maxLocals ret :: tables_1) hat d (List.mem_cons_of_mem _ hd)
  have hfit : Fit s := fun {y c} hc i hi => by
    obtain ⟨ha, rfl⟩ := Array.getElem?_eq_some_iff.mp hc
    have q := List.all_eq_true.mp ((Array.all_eq_true_iff_forall_mem.mp hF) _ (Array.getElem_mem ha)) i (List.mem_range.mpr hi)
    simpa [Array.getElem?_eq_getElem hi] using q
  obtain ⟨i0, ei0⟩ := is_v g3
  obtain rfl : w0 = (.int i0) := Option.some.inj ei0
  obtain ⟨i1, ei1⟩ := is_v g5
  obtain rfl : w1 = (.int i1) := Option.some.inj ei1
  obtain ⟨i2, ei2⟩ := is_v g6
  obtain rfl : w2 = (.int i2) := Option.some.inj ei2
  obtain ⟨g7, g8⟩ := and_e hn
  obtain ⟨g9, g10⟩ := and_e g8
  obtain ⟨g11, g12⟩ := and_e g10
  obtain ⟨g13, g14⟩ := and_e g12
  obtain ⟨g15, g16⟩ := and_e g14
  obtain ⟨g17, g18⟩ := and_e g16
  obtain ⟨g19, g20⟩ := and_e g18
  obtain ⟨g21, g22⟩ := and_e g20
  obtain ⟨g23, g24⟩ := and_e g22
  obtain ⟨g25, g26⟩ := and_e g24
  obtain ⟨g27, g28⟩ := and_e g26
  obtain ⟨s_STANDARD, ev_s_STANDARD⟩ := exa_v g7
  have E_s_STANDARD := Exa.start ev_s_STANDARD g7
  have S_STANDARD := Sta.start ev_s_STANDARD (Or.inr ⟨(hw _ (mgE 1 rfl)), (hw _ (mgE 2 rfl))⟩)
  obtain ⟨s_POSTGRESQL, ev_s_POSTGRESQL⟩ := exa_v g9
  have E_s_POSTGRESQL := Exa.start ev_s_POSTGRESQL g9
  have S_POSTGRESQL := Sta.start ev_s_POSTGRESQL (Or.inr ⟨(hw _ (mgE 1 rfl)), (hw _ (mgE 10 rfl))⟩)
  obtain ⟨s_MARIADB_ANSI_QUOTES, ev_s_MARIADB_ANSI_QUOTES⟩ := exa_v g13
  have E_s_MARIADB_ANSI_QUOTES := Exa.start ev_s_MARIADB_ANSI_QUOTES g13
  have S_MARIADB_ANSI_QUOTES := Sta.start ev_s_MARIADB_ANSI_QUOTES (Or.inr ⟨(hw _ (mgE 1 rfl)), (hw _ (mgE 14 rfl))⟩)
  obtain ⟨s_MARIADB, ev_s_MARIADB⟩ := exa_v g19
  have E_s_MARIADB := Exa.start ev_s_MARIADB g19
  have S_MARIADB := Sta.start ev_s_MARIADB (Or.inr ⟨(hw _ (mgE 1 rfl)), (hw _ (mgE 16 rfl))⟩)
  have F_backslashInSingleQuotes_s_POSTGRESQL := own_fe ev_s_POSTGRESQL g11
  have F_backslashInSingleQuotes_s_MARIADB_ANSI_QUOTES := own_fe ev_s_MARIADB_ANSI_QUOTES g15
  have F_backslashInSingleQuotes_s_STANDARD := own_fe ev_s_STANDARD g17
  have F_backslashInDoubleQuotes_s_STANDARD := own_fe ev_s_STANDARD g21
  have F_backslashInDoubleQuotes_s_MARIADB_ANSI_QUOTES := own_fe ev_s_MARIADB_ANSI_QUOTES g23
  have F_backslashInDoubleQuotes_s_POSTGRESQL := own_fe ev_s_POSTGRESQL g25
  have F_backslashInSingleQuotes_s_MARIADB := own_fe ev_s_MARIADB g27
  have F_backslashInDoubleQuotes_s_MARIADB := own_fe ev_s_MARIADB g28
  obtain ⟨n, o, h1, h2, h3, _, L, rfl, ⟨rfl, N⟩, hq⟩ := rm0 l s _ hw tables_1 i0 i1 i2 s_STANDARD s_POSTGRESQL s_MARIADB s_MARIADB_ANSI_QUOTES s.heap s.heap.size (Nat.le_refl _) S_STANDARD F_backslashInSingleQuotes_s_STANDARD F_backslashInDoubleQuotes_s_STANDARD S_POSTGRESQL F_backslashInSingleQuotes_s_POSTGRESQL F_backslashInDoubleQuotes_s_POSTGRESQL S_MARIADB F_backslashInSingleQuotes_s_MARIADB F_backslashInDoubleQuotes_s_MARIADB S_MARIADB_ANSI_QUOTES F_backslashInSingleQuotes_s_MARIADB_ANSI_QUOTES F_backslashInDoubleQuotes_s_MARIADB_ANSI_QUOTES E_s_STANDARD E_s_POSTGRESQL E_s_MARIADB E_s_MARIADB_ANSI_QUOTES p e ha hc hk s m _ below hf ((Spec.applies_iff_loose hf).mp happ).1 ⟨rfl, State.Warmed39.refl s, rfl⟩ trivial
  refine ⟨n, _, h1, h2, h3, hpost _ _ _ _ _ _ ⟨Cond.after_iff.mpr rfl, Cond.after_iff.mpr (eq_i res_at (Term.int_eval (1)) rfl), trivial⟩ ⟨hq.1, hq.2.1, (hq.2.2.sift fun y hy => Or.inr (N y hy)).mono (by decide) (by decide)⟩⟩
theorem main_1_1 : Claimed_1_1 := comes_1 fun _ _ _ _ _ _ h hF => ⟨h.1, hF⟩
theorem main_1_2 : Claimed_1_2 := comes_1 fun _ _ _ _ _ _ h hF => ⟨h.2.1, hF⟩
end Jvm.Pilot.@@N@@
namespace Jvm.Pilot.@@N@@
open Jvm Jvm.ClassFile Sem Op Lib Jvm.Free Jvm.Stand Jvm.Pilot.@@N@@.Jvm.D
/-! MADE BY PROGRAM (witnessworld.py) out of the Statement's table words and the real class files: 12 classes; the members and pool entries that the words name. The judged class is class 1, her method 1. -/
namespace start1
open Jvm.ClassFile
def u (s : String) : CpInfo := .utf8 (stringToUtf16 s)
/-- a pool by its gaps: so many unusable entries, then the entry; so many at the end -/
def gap : Nat → List CpInfo → List CpInfo
  | 0, r => r
  | n + 1, r => .unusable :: gap n r
def poolList (es : List (Nat × CpInfo)) (last : Nat) : List CpInfo := es.foldr (fun e r => gap e.1 (e.2 :: r)) (gap last [])
def pool (es : List (Nat × CpInfo)) (last : Nat) : Array CpInfo := ⟨poolList es last⟩
def fileOf (pool : Array CpInfo) (this : Nat) (attrs : Array Attribute := #[]) (ms : Array MethodInfo := #[]) (fl : Nat := 33) (sup : Nat := 0) (ifs : Array Nat := #[]) (fds : Array FieldInfo := #[]) : ClassFile where
  minorVersion := 0
  majorVersion := 65
  constantPool := pool
  accessFlags := fl
  thisClass := this
  superClass := sup
  interfaces := ifs
  fields := fds
  methods := ms
  attributes := attrs
def plain (name : String) (sup : Option ClassId) : Class where
  name := name
  kind := .ordinary
  loader := none
  accessFlags := 33
  super := sup
  interfaces := #[]
  cf := none
  fields := #[]
  methods := #[]
  instanceTypes := #[]
  staticTypes := #[]
  resolved := #[]
  callSites := []
  init := .initialized
  statics := none
  mirror := none

def pool0 : Array CpInfo := pool [(5, u "<init>"), (0, u "()V"), (1, .class_ 10), (1, u "java/lang/Object")] 113

def k0m0 : Method := { name := "<init>", desc := "()V", sig := { parameters := [], returnType := none }, accessFlags := 1, code := none }
/-- java/lang/Object -/
def k0 : Class := { plain "java/lang/Object" none with
  accessFlags := 33
  interfaces := #[]
  cf := some (fileOf pool0 8 #[] #[{ accessFlags := 1, nameIndex := 5, descriptorIndex := 6, attributes := #[] }] 33 0 #[] #[])
  fields := #[]
  methods := #[k0m0]
  instanceTypes := #[]
  staticTypes := #[]
  resolved := Array.replicate 124 none
  statics := none }

def pool1 : Array CpInfo := pool [(2, .class_ 4), (1, u "java/lang/Object"), (0, u "<init>"), (0, u "()V"), (0, .fieldref 8 9), (0, .class_ 10), (0, .nameAndType 11 12), (0, u "com/example/ready_ledger/readyledger/jdbc/SqlDialect"), (0, u "STANDARD"), (0, u "Lcom/example/ready_ledger/readyledger/jdbc/SqlDialect;"), (0, .fieldref 8 14), (0, .nameAndType 15 12), (0, u "POSTGRESQL"), (0, .fieldref 8 17), (0, .nameAndType 18 12), (0, u "MARIADB"), (0, .fieldref 8 20), (0, .nameAndType 21 12), (0, u "MARIADB_ANSI_QUOTES"), (0, .integer 65535), (0, .methodref 8 24), (0, .nameAndType 25 26), (0, u "backslashEscapes"), (0, u "(C)Z"), (0, .class_ 28), (0, u "com/example/ready_ledger/readyledger/jdbc/SqlDialectBackslashEscapesPinLaw"), (2, u "law"), (0, u "(III)Z")] 3

def k1m0 : Method := { name := "<init>", desc := "()V", sig := { parameters := [], returnType := none }, accessFlags := 2, code := none }
def k1c1 : Code := { maxStack := 2, maxLocals := 9, code := code, exceptionTable := #[], attributes := #[] }
def k1m1 : Method := { name := "law", desc := "(III)Z", sig := { parameters := [.int, .int, .int], returnType := some .boolean }, accessFlags := 9, code := some k1c1 }
/-- com/example/ready_ledger/readyledger/jdbc/SqlDialectBackslashEscapesPinLaw -/
def k1 : Class := { plain "com/example/ready_ledger/readyledger/jdbc/SqlDialectBackslashEscapesPinLaw" (some 0) with
  accessFlags := 49
  interfaces := #[]
  cf := some (fileOf pool1 27 #[] #[{ accessFlags := 2, nameIndex := 5, descriptorIndex := 6, attributes := #[] }, { accessFlags := 9, nameIndex := 31, descriptorIndex := 32, attributes := #[] }] 49 2 #[] #[])
  fields := #[]
  methods := #[k1m0, k1m1]
  instanceTypes := #[]
  staticTypes := #[]
  resolved := Array.replicate 36 none
  statics := none }

def pool2 : Array CpInfo := pool [(1, .class_ 2), (0, u "java/lang/constant/Constable"), (0, .class_ 4), (0, u "java/lang/Object")] 6

/-- java/lang/constant/Constable -/
def k2 : Class := { plain "java/lang/constant/Constable" (some 0) with
  accessFlags := 1537
  interfaces := #[]
  cf := some (fileOf pool2 1 #[] #[] 1537 3 #[] #[])
  fields := #[]
  methods := #[]
  instanceTypes := #[]
  staticTypes := #[]
  resolved := Array.replicate 11 none
  statics := none }

def pool3 : Array CpInfo := pool [(1, .class_ 2), (0, u "java/lang/Comparable"), (0, .class_ 4), (0, u "java/lang/Object")] 7

/-- java/lang/Comparable -/
def k3 : Class := { plain "java/lang/Comparable" (some 0) with
  accessFlags := 1537
  interfaces := #[]
  cf := some (fileOf pool3 1 #[] #[] 1537 3 #[] #[])
  fields := #[]
  methods := #[]
  instanceTypes := #[]
  staticTypes := #[]
  resolved := Array.replicate 12 none
  statics := none }

def pool4 : Array CpInfo := pool [(1, .class_ 2), (0, u "java/io/Serializable"), (0, .class_ 4), (0, u "java/lang/Object")] 2

/-- java/io/Serializable -/
def k4 : Class := { plain "java/io/Serializable" (some 0) with
  accessFlags := 1537
  interfaces := #[]
  cf := some (fileOf pool4 1 #[] #[] 1537 3 #[] #[])
  fields := #[]
  methods := #[]
  instanceTypes := #[]
  staticTypes := #[]
  resolved := Array.replicate 7 none
  statics := none }

def pool5 : Array CpInfo := pool [(2, .class_ 4), (1, u "java/lang/Enum"), (0, u "name"), (0, u "Ljava/lang/String;"), (2, u "ordinal"), (0, u "I"), (1, .class_ 14), (1, u "java/lang/Object"), (4, u "hash"), (86, .class_ 108), (1, u "java/lang/Enum$EnumDesc"), (2, .class_ 112), (0, u "java/lang/constant/Constable"), (0, .class_ 114), (0, u "java/lang/Comparable"), (0, .class_ 116), (0, u "java/io/Serializable")] 87

/-- java/lang/Enum -/
def k5 : Class := { plain "java/lang/Enum" (some 0) with
  accessFlags := 1057
  interfaces := #[2, 3, 4]
  cf := some (fileOf pool5 2 #[.nestMembers #[106]] #[] 1057 12 #[111, 113, 115] #[{ accessFlags := 18, nameIndex := 5, descriptorIndex := 6, attributes := #[] }, { accessFlags := 18, nameIndex := 9, descriptorIndex := 10, attributes := #[] }, { accessFlags := 2, nameIndex := 19, descriptorIndex := 10, attributes := #[] }])
  fields := #[{ name := "name", type := (.object "java/lang/String"), accessFlags := 18, slot := 0, constantValue := 0 }, { name := "ordinal", type := .int, accessFlags := 18, slot := 1, constantValue := 0 }, { name := "hash", type := .int, accessFlags := 2, slot := 2, constantValue := 0 }]
  methods := #[]
  instanceTypes := #[(.object "java/lang/String"), .int, .int]
  staticTypes := #[]
  resolved := Array.replicate 204 none
  statics := none }

def pool6 : Array CpInfo := pool [(1, .class_ 2), (0, u "com/example/ready_ledger/readyledger/jdbc/SqlDialect"), (2, u "STANDARD"), (0, u "Lcom/example/ready_ledger/readyledger/jdbc/SqlDialect;"), (2, u "POSTGRESQL"), (2, u "MARIADB"), (2, u "MARIADB_ANSI_QUOTES"), (2, u "$VALUES"), (0, u "[Lcom/example/ready_ledger/readyledger/jdbc/SqlDialect;"), (6, .class_ 28), (1, u "java/lang/Enum"), (6, .fieldref 1 36), (0, .nameAndType 37 38), (0, u "backslashInSingleQuotes"), (0, u "Z"), (0, .fieldref 1 40), (0, .nameAndType 41 38), (0, u "backslashInDoubleQuotes"), (2, u "escapeStrings"), (48, u "backslashEscapes"), (0, u "(C)Z")] 7

def k6c0 : Code := { maxStack := 2, maxLocals := 3, code := prog_31_method_6_code, exceptionTable := #[], attributes := #[] }
def k6m0 : Method := { name := "backslashEscapes", desc := "(C)Z", sig := { parameters := [.char], returnType := some .boolean }, accessFlags := 0, code := some k6c0 }
/-- com/example/ready_ledger/readyledger/jdbc/SqlDialect -/
def k6 : Class := { plain "com/example/ready_ledger/readyledger/jdbc/SqlDialect" (some 5) with
  accessFlags := 16432
  interfaces := #[]
  cf := some (fileOf pool6 1 #[] #[{ accessFlags := 0, nameIndex := 93, descriptorIndex := 94, attributes := #[] }] 16432 26 #[] #[{ accessFlags := 16409, nameIndex := 5, descriptorIndex := 6, attributes := #[] }, { accessFlags := 16409, nameIndex := 9, descriptorIndex := 6, attributes := #[] }, { accessFlags := 16409, nameIndex := 12, descriptorIndex := 6, attributes := #[] }, { accessFlags := 16409, nameIndex := 15, descriptorIndex := 6, attributes := #[] }, { accessFlags := 18, nameIndex := 37, descriptorIndex := 38, attributes := #[] }, { accessFlags := 18, nameIndex := 41, descriptorIndex := 38, attributes := #[] }, { accessFlags := 18, nameIndex := 44, descriptorIndex := 38, attributes := #[] }, { accessFlags := 4122, nameIndex := 18, descriptorIndex := 19, attributes := #[] }])
  fields := #[{ name := "STANDARD", type := (.object "com/example/ready_ledger/readyledger/jdbc/SqlDialect"), accessFlags := 16409, slot := 0, constantValue := 0 }, { name := "POSTGRESQL", type := (.object "com/example/ready_ledger/readyledger/jdbc/SqlDialect"), accessFlags := 16409, slot := 1, constantValue := 0 }, { name := "MARIADB", type := (.object "com/example/ready_ledger/readyledger/jdbc/SqlDialect"), accessFlags := 16409, slot := 2, constantValue := 0 }, { name := "MARIADB_ANSI_QUOTES", type := (.object "com/example/ready_ledger/readyledger/jdbc/SqlDialect"), accessFlags := 16409, slot := 3, constantValue := 0 }, { name := "backslashInSingleQuotes", type := .boolean, accessFlags := 18, slot := 3, constantValue := 0 }, { name := "backslashInDoubleQuotes", type := .boolean, accessFlags := 18, slot := 4, constantValue := 0 }, { name := "escapeStrings", type := .boolean, accessFlags := 18, slot := 5, constantValue := 0 }, { name := "$VALUES", type := (.array (.object "com/example/ready_ledger/readyledger/jdbc/SqlDialect")), accessFlags := 4122, slot := 4, constantValue := 0 }]
  methods := #[k6m0]
  instanceTypes := #[(.object "java/lang/String"), .int, .int, .boolean, .boolean, .boolean]
  staticTypes := #[(.object "com/example/ready_ledger/readyledger/jdbc/SqlDialect"), (.object "com/example/ready_ledger/readyledger/jdbc/SqlDialect"), (.object "com/example/ready_ledger/readyledger/jdbc/SqlDialect"), (.object "com/example/ready_ledger/readyledger/jdbc/SqlDialect"), (.array (.object "com/example/ready_ledger/readyledger/jdbc/SqlDialect"))]
  resolved := Array.replicate 102 none
  statics := some 0 }

def pool7 : Array CpInfo := pool [(1, u "java/lang/Cloneable"), (0, .class_ 1), (0, u "java/lang/Object"), (0, .class_ 3)] 3

/-- java/lang/Cloneable -/
def k7 : Class := { plain "java/lang/Cloneable" (some 0) with
  accessFlags := 1537
  interfaces := #[]
  cf := some (fileOf pool7 2 #[] #[] 1537 4 #[] #[])
  fields := #[]
  methods := #[]
  instanceTypes := #[]
  staticTypes := #[]
  resolved := Array.replicate 8 none
  statics := none }

/-- the primitive byte -/
def k8 : Class := { plain "byte" none with kind := .primitive 'B', accessFlags := 0x411 }
/-- [B -/
def k9 : Class := { plain "[B" (some 0) with kind := .array 8 .byte, interfaces := #[7, 4], accessFlags := 1041 }

/-- the primitive int -/
def k10 : Class := { plain "int" none with kind := .primitive 'I', accessFlags := 0x411 }
/-- [I -/
def k11 : Class := { plain "[I" (some 0) with kind := .array 10 .int, interfaces := #[7, 4], accessFlags := 1041 }

def heap : Heap := #[{ cls := 6, slots := #[.ref 1, .ref 2, .ref 3, .ref 4, .null], vm := .statics 6 },
  { cls := 6, slots := #[.null, .int 0, .int 0, .int 0, .int 0, .int 0], vm := .none },
  { cls := 6, slots := #[.null, .int 1, .int 0, .int 0, .int 0, .int 0], vm := .none },
  { cls := 6, slots := #[.null, .int 2, .int 0, .int 1, .int 1, .int 0], vm := .none },
  { cls := 6, slots := #[.null, .int 3, .int 0, .int 1, .int 0, .int 0], vm := .none }]
def classes : Array Class := #[k0, k1, k2, k3, k4, k5, k6, k7, k8, k9, k10, k11]
def interned : List (Array UInt16 × Addr) := []
def slotsUsed : Nat := 29
def theMethod : MethodId := ⟨1, 1⟩
def args0 : Array Value := #[.int 1, .int 1, .int 1]
def aboutOver (below : List Frame) : State where
  vm := { classes := classes, interned := interned.toArray }
  heap := heap
  slotsUsed := slotsUsed
  threads := #[{ frames := .invoking theMethod args0 :: below }]
def below0 : List Frame := [.native { method := ⟨0, 0⟩, args := #[] }]
def about1 : State := aboutOver below0
def p0 : Program := .bare "" "" ""
def e0 : Env := launch0.env 0 0 0
theorem w_frames : about1.frames = Frame.invoking theMethod args0 :: below0 := rfl
set_option maxRecDepth 65536 in
theorem w_args : argsFit about1.vm theMethod args0 = true := by decide +kernel
set_option maxRecDepth 65536 in
theorem w_heap : heapFits about1 = true := by decide +kernel
set_option maxRecDepth 65536 in
theorem w_runnable : about1.curStatus? = some .runnable := by decide +kernel
set_option maxRecDepth 65536 in
theorem w_alone : about1.alone = true := by decide +kernel
set_option maxRecDepth 65536 in
theorem w_named : about1.methodNamed? x = some theMethod := by decide +kernel
set_option maxRecDepth 65536 in
theorem w_hears : about1.hears theMethod below0 = true := by decide +kernel
set_option maxRecDepth 65536 in
theorem w_ripe : about1.ripe theMethod args0 below0 = true := by decide +kernel
theorem w_running : about1.status = .running := rfl
set_option maxRecDepth 65536 in
theorem w_room : about1.hasRoom e0.platform room_1 = true :=
  launch0.hasRoom_least _ room_1 (by decide +kernel) (by decide +kernel) (by decide +kernel) (by decide +kernel) (by decide +kernel) (by decide +kernel)
theorem allAtoms_all (ts : List Jvm.Cond) (a : Array Jvm.Value) (st : Jvm.State) : (allAtoms ts).before a st = ts.all (fun c => c.before a st) := by
  induction ts with
  | nil => rfl
  | cons c t ih =>
    show (Jvm.Cond.and c (allAtoms t)).before a st = _
    rw [Jvm.Cond.before_and, ih, List.all_cons]
def words1 : List Jvm.Cond := Jvm.Cond.code x code maxLocals ret :: tables_1
/-- a 'code' word, met by the world's own term for the bytes: nothing is compared byte by byte -/
theorem code_word {y : MethodName} {bytes : ByteArray} {mx : Nat} {rt : Option FieldType} {a : Array Value} {s : State} {m : MethodId} {meth : Method} {c : Code} (h1 : s.methodNamed? y = some m) (h2 : s.vm.method? m = some meth) (h3 : meth.code = some c) (h4 : c.code = bytes)
    (h5 : (c.maxLocals == mx && c.exceptionTable.isEmpty && decide (c.maxStack ≤ mostOperands) && decide (meth.sig.returnType = rt) && !meth.locks && decide (parseMethodDescriptor y.desc = some meth.sig)) = true) : (Jvm.Cond.code y bytes mx rt).before a s = true := by
  simp only [Bool.and_eq_true, beq_iff_eq, Bool.not_eq_true', decide_eq_true_eq] at h5
  obtain ⟨⟨⟨⟨⟨g1, g2⟩, g3⟩, g4⟩, g5⟩, g6⟩ := h5
  simp [Cond.before, Cond.holds, Cond.value, h1, h2, h3, h4, g1, g2, g3, g4, g5, g6]
def isCode : Jvm.Cond → Bool
  | .code _ _ _ _ => true
  | _ => false
theorem all_split {L : List Jvm.Cond} {P : Jvm.Cond → Bool} (h1 : L.all (fun c => isCode c || P c) = true) (h2 : ∀ c ∈ L.filter isCode, P c = true) : L.all P = true := by
  refine List.all_eq_true.mpr fun c hc => ?_
  have h := List.all_eq_true.mp h1 c hc
  rcases Bool.eq_false_or_eq_true (isCode c) with hi | hi
  · exact h2 c (List.mem_filter.mpr ⟨hc, hi⟩)
  · simpa [hi] using h
set_option maxRecDepth 65536 in
theorem w_c0 : (Jvm.Cond.code x code maxLocals ret).before args0 about1 = true := code_word (m := ⟨1, 1⟩) (meth := k1m1) (c := k1c1) (by decide +kernel) rfl rfl rfl (by decide +kernel)
set_option maxRecDepth 65536 in
theorem w_c1 : (Jvm.Cond.code ({ cls := "com/example/ready_ledger/readyledger/jdbc/SqlDialect", name := "backslashEscapes", desc := "(C)Z" } : Jvm.MethodName) prog_31_method_6_code (3 : Nat) (Option.some Jvm.ClassFile.FieldType.boolean)).before args0 about1 = true := code_word (m := ⟨6, 0⟩) (meth := k6m0) (c := k6c0) (by decide +kernel) rfl rfl rfl (by decide +kernel)
def codes1 : List Jvm.Cond := [Jvm.Cond.code x code maxLocals ret, Jvm.Cond.code ({ cls := "com/example/ready_ledger/readyledger/jdbc/SqlDialect", name := "backslashEscapes", desc := "(C)Z" } : Jvm.MethodName) prog_31_method_6_code (3 : Nat) (Option.some Jvm.ClassFile.FieldType.boolean)]
set_option maxRecDepth 65536 in
theorem codes_eq : words1.filter isCode = codes1 := rfl
theorem w_codes : ∀ c ∈ words1.filter isCode, c.before args0 about1 = true := by
  rw [codes_eq]
  intro c hc
  simp only [codes1, List.mem_cons, List.not_mem_nil, or_false] at hc
  rcases hc with rfl | rfl
  · exact w_c0
  · exact w_c1
set_option maxRecDepth 65536 in
theorem w_t1 : words1.all (fun c => isCode c || c.before args0 about1) = true := by decide +kernel
theorem w_tables : (allAtoms (Jvm.Cond.code x code maxLocals ret :: tables_1)).before args0 about1 = true := by
  rw [allAtoms_all]
  show words1.all (fun c => c.before args0 about1) = true
  refine all_split ?_ w_codes
  rw [w_t1]
set_option maxRecDepth 65536 in
theorem w_case : (Jvm.Cond.and given_1 narrow_1).before args0 about1 = true := by decide +kernel
theorem w_applies : (headSpec (Jvm.Cond.code x code maxLocals ret :: tables_1) room_1).applies x e0.platform about1 = true :=
  (Spec.applies_iff w_frames).mpr ⟨w_running, w_runnable, w_alone, w_named, w_hears, w_ripe, w_room, w_tables⟩
theorem atStart : AtStart classFile x code maxLocals ret World_1 tables_1 room_1 Calls_1 rest_1 Pre_1 launch0 p0 e0 about1 theMethod args0 below0 :=
  ⟨lists_1, trivial, launch0.admits_env _ _ _, launch0.least_env, fairChoices_fair.cas, fairChoices_fair.clock, w_frames, w_args, w_heap, w_applies, trivial, trivial, w_case⟩
end start1
theorem witness_1 : WitnessClaimed_1 := ⟨start1.p0, start1.e0, start1.about1, start1.theMethod, start1.args0, start1.below0, start1.atStart⟩
end Jvm.Pilot.@@N@@
