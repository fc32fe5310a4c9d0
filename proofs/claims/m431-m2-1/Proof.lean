import JvmDerived
import JvmDerived.Pilot.@@N@@Statement
import JvmDerived.Pilot.@@N@@Code
set_option linter.unusedVariables false
set_option linter.unusedSimpArgs false
namespace Jvm.RoadKit
open Sem ClassFile Op Lib Jvm.Stand Jvm.Free Jvm.LawKit
section New
variable {p : Program} {l : Launch} {e : Env} {R : Room} {s : State} {m : MethodId} {args : Array Value} {below : List Frame} {meth : Method} {c : Code} {T : State} {locs : List Loc} {cells slots : Nat}
theorem retI (X : Stand p l e R s m args below meth c T locs cells slots) (hx : p.tables.exec = Jvm.exec) {pc : Nat} {Ls : Array Slot} {z : Int32} {rest : List Value} (hret : meth.sig.returnType = some .int) (hd : decode c.code pc = .ok (.ireturn, 1)) {fs : List Frame}
    (hl : ∀ (f : JFrame) (acts : List Action), f.method = m → f.locked = none → f.entered = [] → (doReturn e (T.setTop f) acts (some (.int z))).1 = T.setFrames fs) : Steps p.tables e below (T.setTop (mkF m pc Ls (.int z :: rest))) (T.setFrames fs) := by
  have hm' : T.vm.method? m = some meth := X.method'
  have hn : narrow .int (.int z) = .int z := rfl
  show Steps p.tables e below (T.setTop { method := m, pc := pc, locals := Ls, stack := _ :: rest, locked := none }) _
  jvm_step X.here [X.here.top, hx, hd, hm', hret, hn]
  first | (intro acts; rw [hl _ acts rfl rfl rfl]) | rw [hl _ _ rfl rfl rfl]
  exact Steps.refl _
end New
end Jvm.RoadKit
namespace Jvm.Pilot.@@N@@
open Jvm Jvm.ClassFile Sem Op Lib Jvm.Free Jvm.Stand Jvm.LawKit Jvm.RoadKit Bundle Jvm.Pilot.@@N@@.Jvm.D
theorem mgE {A : Type} {l : List A} {a : A} (i : Nat) (h : l[i]? = some a) : a ∈ l := List.mem_of_getElem? h

def Arf (Z : State) (h : Heap) (a : Addr) (ty : FieldType) (z : Int32) (f : Nat → Value) : Prop := ∃ c : Cell, Arr Z h a c ty ∧ c.slots.size = z.toNatClampNeg ∧ ¬ z < 0 ∧ ∀ i, i < z.toNatClampNeg → c.slots[i]? = some (f i)
def own_upd {A : Type} (f : Nat → A) (j : Nat) (v : A) : Nat → A := fun i => if i = j then v else f i
theorem own_upd_same {A : Type} (f : Nat → A) (j : Nat) (v : A) : own_upd f j v j = v := if_pos rfl
theorem own_upd_ne {A : Type} (f : Nat → A) {j i : Nat} (v : A) (h : i ≠ j) : own_upd f j v i = f i := if_neg h
section ArfFacts
variable {Z : State} {h h' : Heap} {a b : Addr} {ty : FieldType} {z : Int32} {f : Nat → Value} {k : ClassId} {ws : List Addr} {sl : Nat} {v : Value}
theorem Arf.lt (F : Arf Z h a ty z f) : a < h.size := by obtain ⟨c, A, -⟩ := F; exact A.lt
theorem Arf.ext (F : Arf Z h a ty z f) (E : Ext h h') : Arf Z h' a ty z f := by obtain ⟨c, A, r⟩ := F; exact ⟨c, A.ext E, r⟩
theorem Arf.other (F : Arf Z h b ty z f) (W : Wr h h' a sl v) (q : b ≠ a) : Arf Z h' b ty z f := by obtain ⟨c, A, r⟩ := F; exact ⟨c, A.other W q, r⟩
theorem Arf.keep (F : Arf Z h a ty z f) (K : Keep h h' ws) (q : a ∉ ws) : Arf Z h' a ty z f := by obtain ⟨c, A, r⟩ := F; exact ⟨c, ⟨K.2.1 a c A.1 q, A.2⟩, r⟩
theorem Arf.new (A : Arr Z h a (newA k ty z) ty) (q : ¬ z < 0) : Arf Z h a ty z (fun _ => defaultValue ty) := ⟨_, A, sz_new _ _ _, q, fun i hi => by simp [newA, hi]⟩
theorem Arf.set (F : Arf Z h a ty z f) (W : Wr h h' a sl v) : Arf Z h' a ty z (own_upd f sl v) := by
  obtain ⟨c, A, S, N, H⟩ := F
  refine ⟨c.setSlot sl v, A.same W, by rw [sz_set]; exact S, N, fun i hi => ?_⟩
  by_cases e : i = sl
  · subst e; rw [own_upd_same]; simp [Cell.setSlot, S, hi]
  · rw [own_upd_ne _ _ e, ← H i hi]
    exact Array.getElem?_setIfInBounds_ne (Ne.symm e)
theorem Arf.cong {g : Nat → Value} (F : Arf Z h a ty z f) (q : ∀ i, i < z.toNatClampNeg → f i = g i) : Arf Z h a ty z g := by obtain ⟨c, A, S, N, H⟩ := F; exact ⟨c, A, S, N, fun i hi => (H i hi).trans (congrArg some (q i hi))⟩
theorem upd_int (f : Nat → Int32) (j : Nat) (v : Int32) : own_upd (fun i => Value.int (f i)) j (.int v) = fun i => Value.int (own_upd f j v i) := by funext i; unfold own_upd; split <;> rfl
theorem upd_long (f : Nat → Int64) (j : Nat) (v : Int64) : own_upd (fun i => Value.long (f i)) j (.long v) = fun i => Value.long (own_upd f j v i) := by funext i; unfold own_upd; split <;> rfl
end ArfFacts

def Ovc (Z : State) (h : Heap) (a : Addr) (C : String) : Prop := ∃ c : Cell, h[a]? = some c ∧ Ovr Z c.cls C
theorem Ovc.ext {Z : State} {h h' : Heap} {a : Addr} {C : String} (F : Ovc Z h a C) (E : Ext h h') : Ovc Z h' a C := by obtain ⟨c, h1, h2⟩ := F; exact ⟨c, E.2 _ _ h1, h2⟩
theorem Ovc.wr {Z : State} {h h' : Heap} {a b : Addr} {C : String} {sl : Nat} {v : Value} (F : Ovc Z h a C) (W : Wr h h' b sl v) : Ovc Z h' a C := by
  obtain ⟨c, h1, h2⟩ := F
  obtain ⟨c', e1, e2, -⟩ := wr_at W h1
  exact ⟨c', e1, by rw [e2]; exact h2⟩
theorem Ovc.keep {Z : State} {h h' : Heap} {a : Addr} {C : String} {ws : List Addr} (F : Ovc Z h a C) (K : Keep h h' ws) : Ovc Z h' a C := by
  obtain ⟨c, h1, h2⟩ := F
  obtain ⟨c', e1, e2, -⟩ := K.2.2 _ _ h1
  exact ⟨c', e1, by rw [e2]; exact h2⟩
theorem own_sto {Z : State} {h : Heap} {a y : Addr} {C : String} {cl : Cell} {ty : FieldType} (A : Arr Z h a cl ty) (O : Ovc Z h a C) (I : Ins Z h y C true) : Sto Z h a (.ref y) := by
  obtain ⟨c, h1, h2⟩ := O
  cases h1.symm.trans A.1
  exact Sto.of A h2 I

theorem own_nsE {Z : State} {h : Heap} {a : Addr} {C : String} (F : Exa Z h a C) : ∃ cell : Cell, h[a]? = some cell ∧ cell.vm.isStatics = false := by obtain ⟨cell, k, h1, h2, h3, h4, -⟩ := F; exact ⟨cell, h1, h4⟩
theorem own_stk {Z : State} {h h' : Heap} {C n d : String} {v : Value} {ws : List Addr} (F : Sta Z h C n d v) (K : Keep h h' ws) (q : ∀ x ∈ ws, ∃ cell : Cell, h[x]? = some cell ∧ cell.vm.isStatics = false) : Sta Z h' C n d v := by
  obtain ⟨cf, i, k, f, st, cell, h1, h2, h3, h4, h5, h6, h7⟩ := F
  refine ⟨cf, i, k, f, st, cell, h1, h2, h3, h4, K.2.1 st cell h5 fun hm => ?_, h6, h7⟩
  obtain ⟨c', e1, e2⟩ := q st hm
  cases h5.symm.trans e1
  rw [h6] at e2; cases e2

theorem own_nsV {Z : State} {h : Heap} {a : Addr} {ty : FieldType} {z : Int32} {f : Nat → Value} (F : Arf Z h a ty z f) : ∃ cell : Cell, h[a]? = some cell ∧ cell.vm.isStatics = false := by obtain ⟨c, A, -⟩ := F; exact ⟨c, A.1, A.plain⟩

theorem own_fe {args : Array Value} {s : State} {t : Term} {a : Addr} {C n d : String} {k : Int32} (ev : t.eval args s none [] s = some (.ref a)) (h : (Jvm.Cond.eq (.field t C n d) (.int k)).value args s none s [] = some true) : Fld s s.heap a C n d (.int k) := by
  obtain ⟨x, y, h1, h2, k1, k2⟩ := cmp_v (Or.inl h)
  have h3 : y = .int k := (Option.some.inj ((Term.int_eval k).symm.trans h2)).symm
  subst h3
  obtain ⟨z, rfl⟩ := k2
  have h4 : z = k := by simpa [Cond.value, h1, h2] using h
  subst h4
  rw [fld_at ev] at h1
  exact Fld.start h1

theorem d1_0 : decode method_3_code 0 = .ok (.iload_n 0, 1) := by decide +kernel
theorem d1_1 : decode method_3_code 1 = .ok (.iload_n 1, 1) := by decide +kernel
theorem d1_2 : decode method_3_code 2 = .ok (.if_icmp .ge 5, 3) := by decide +kernel
theorem d1_5 : decode method_3_code 5 = .ok (.iconst (-1), 1) := by decide +kernel
theorem d1_6 : decode method_3_code 6 = .ok (.ireturn, 1) := by decide +kernel
theorem d1_7 : decode method_3_code 7 = .ok (.iload_n 0, 1) := by decide +kernel
theorem d1_8 : decode method_3_code 8 = .ok (.iload_n 1, 1) := by decide +kernel
theorem d1_9 : decode method_3_code 9 = .ok (.if_icmp .le 5, 3) := by decide +kernel
theorem d1_12 : decode method_3_code 12 = .ok (.iconst 1, 1) := by decide +kernel
theorem d1_13 : decode method_3_code 13 = .ok (.ireturn, 1) := by decide +kernel
theorem d1_14 : decode method_3_code 14 = .ok (.iconst 0, 1) := by decide +kernel
theorem d1_15 : decode method_3_code 15 = .ok (.ireturn, 1) := by decide +kernel
theorem pn_com_example_starling_starling_schedule_MessageOrderComparePinLaw : plainName "com/example/starling/starling/schedule/MessageOrderComparePinLaw" = true := by first | (simp [plainName, overriddenIn]; done) | decide +kernel
theorem ef_1 (m : MethodId) (x0 : Int32) (x1 : Int32) : entryFrame m #[(.int x0), (.int x1)] 2 = mkF m 0 #[.val (.int x0), .val (.int x1)] [] := by first | (simp [entryFrame, mkF, argsToLocals, Value.category]; done) | rfl
def r1 (p1 : Int32) (p2 : Int32) : Int32 := (if p1 < p2 then (-1 : Int32) else (if p2 < p1 then (1 : Int32) else (0 : Int32)))
def Q1 (Z : State) (p1 : Int32) (p2 : Int32) (h0 : Heap) (n0 : Nat) (v : Option Value) (h : Heap) (L : List Loc) : Prop := v = some (.int (r1 p1 p2)) ∧ Fr n0 L ∧ h = h0
set_option maxRecDepth 65536 in
set_option maxHeartbeats 40000000 in
theorem rm1 (l : Launch) (Z : State) (a0 : Array Value) (hw : ∀ d ∈ tables_1, d.before a0 Z = true) (ws : List Jvm.Cond) (p1 : Int32) (p2 : Int32) (h0 : Heap) (n0 : Nat) (Z0 : n0 ≤ h0.size)  :
    MetFree l (⟨"com/example/starling/starling/schedule/MessageOrderComparePinLaw", "cmp", "(II)I"⟩ : MethodName) (head1 (Jvm.Cond.code (⟨"com/example/starling/starling/schedule/MessageOrderComparePinLaw", "cmp", "(II)I"⟩ : MethodName) method_3_code 2 (some .int) :: ws) ({ frames := 0, cells := 0, slots := 0, locals := 0 } : Room)) (fun a U => a = #[(.int p1), (.int p2)] ∧ Z.Warmed39 U.vm ∧ U.heap = h0) (fun _ _ _ _ _ => True) (fun _ U o U' => ∃ v L, o = .returned v ∧ Q1 Z p1 p2 h0 n0 v U'.heap L ∧ FrameEnd U o U' L ({ frames := 0, cells := 0, slots := 0, locals := 0 } : Room).cells ({ frames := 0, cells := 0, slots := 0, locals := 0 } : Room).slots) := by
  refine MetFree.of_bodySF (plainFor_of_name pn_com_example_starling_starling_schedule_MessageOrderComparePinLaw) hisR ?_
  intro p e s m args below meth c s₁ Bd hml0 hP hK
  obtain ⟨rfl, hZ, hh⟩ := hP
  have hx := Bd.exec
  have hby := Bd.bytes
  have hml : c.maxLocals = 2 := hml0
  have hown : s.vm.findClass "com/example/starling/starling/schedule/MessageOrderComparePinLaw" = some m.cls := findClass_of_methodNamed Bd.named
  have hnm := (name_of_methodNamed Bd.named Bd.method).1
  have X0 : Stand p l e ({ frames := 0, cells := 0, slots := 0, locals := 0 } : Room) s m #[(.int p1), (.int p2)] below meth c s₁ [] 0 0 := Stand.of_body Bd
  have e0 : s₁.heap = h0 := by rw [← hh, Bd.state]; rfl
  have N0 := Fr.nil n0
  have pre0 : ∀ t, Steps p.tables e below (s₁.setTop (mkF m 0 #[.val (.int p1), .val (.int p2)] [])) t → Steps p.tables e below (s₁.setTop (entryFrame m #[(.int p1), (.int p2)] 2)) t := fun t k => castTop (ef_1 m p1 p2) k
  by_cases hc2 : p1 < p2
  · skip
    have pre1 : ∀ t, Steps p.tables e below (s₁.setTop (mkF m 6 #[.val (.int p1), .val (.int p2)] [(.int (-1 : Int32))])) t → Steps p.tables e below (s₁.setTop (entryFrame m #[(.int p1), (.int p2)] 2)) t := fun t kt => by
      refine pre0 t ?_
      refine XS.iloadN X0.here hx rfl (hb hby d1_0) rfl ?_
      show Steps p.tables e below (s₁.setTop (mkF m 1 #[.val (.int p1), .val (.int p2)] [(.int p1)])) _
      refine XS.iloadN X0.here hx rfl (hb hby d1_1) rfl ?_
      show Steps p.tables e below (s₁.setTop (mkF m 2 #[.val (.int p1), .val (.int p2)] [(.int p2), (.int p1)])) _
      refine XS.icmpNo X0.here hx rfl (hb hby d1_2) rfl (tlt hc2).2.1 ?_
      show Steps p.tables e below (s₁.setTop (mkF m 5 #[.val (.int p1), .val (.int p2)] [])) _
      refine XS.iconst X0.here hx rfl (hb hby d1_5) ?_
      show Steps p.tables e below (s₁.setTop (mkF m 6 #[.val (.int p1), .val (.int p2)] [(.int (-1 : Int32))])) _
      exact kt
    obtain ⟨fs, hr, hrun, hended, hW, hsame⟩ := X0.leave (v := some (.int (-1 : Int32))) (fun h => by rw [Bd.returns] at h; cases h)
    refine ⟨_, _, pre1 _ ?_, hrun, hended, _, _, rfl, ?_, ⟨_, rfl⟩, hW, hsame.mono (by decide) (by decide)⟩
    · exact retI X0 hx Bd.returns (hb hby d1_6) hr
    · show Q1 Z p1 p2 h0 n0 _ s₁.heap _
      rw [e0]
      exact ⟨by first | rfl | (simp only [r1, if_pos hc2]), N0, rfl⟩
  · skip
    by_cases hc9 : p2 < p1
    · skip
      have pre2 : ∀ t, Steps p.tables e below (s₁.setTop (mkF m 13 #[.val (.int p1), .val (.int p2)] [(.int (1 : Int32))])) t → Steps p.tables e below (s₁.setTop (entryFrame m #[(.int p1), (.int p2)] 2)) t := fun t kt => by
        refine pre0 t ?_
        refine XS.iloadN X0.here hx rfl (hb hby d1_0) rfl ?_
        show Steps p.tables e below (s₁.setTop (mkF m 1 #[.val (.int p1), .val (.int p2)] [(.int p1)])) _
        refine XS.iloadN X0.here hx rfl (hb hby d1_1) rfl ?_
        show Steps p.tables e below (s₁.setTop (mkF m 2 #[.val (.int p1), .val (.int p2)] [(.int p2), (.int p1)])) _
        refine XS.icmpYes X0.here hx rfl (pc0 := 2) (pc' := 7) rfl (hb hby d1_2) rfl (flt hc2).2.1 (by decide) (by decide) ?_
        show Steps p.tables e below (s₁.setTop (mkF m 7 #[.val (.int p1), .val (.int p2)] [])) _
        refine XS.iloadN X0.here hx rfl (hb hby d1_7) rfl ?_
        show Steps p.tables e below (s₁.setTop (mkF m 8 #[.val (.int p1), .val (.int p2)] [(.int p1)])) _
        refine XS.iloadN X0.here hx rfl (hb hby d1_8) rfl ?_
        show Steps p.tables e below (s₁.setTop (mkF m 9 #[.val (.int p1), .val (.int p2)] [(.int p2), (.int p1)])) _
        refine XS.icmpNo X0.here hx rfl (hb hby d1_9) rfl (tlt hc9).2.2.2 ?_
        show Steps p.tables e below (s₁.setTop (mkF m 12 #[.val (.int p1), .val (.int p2)] [])) _
        refine XS.iconst X0.here hx rfl (hb hby d1_12) ?_
        show Steps p.tables e below (s₁.setTop (mkF m 13 #[.val (.int p1), .val (.int p2)] [(.int (1 : Int32))])) _
        exact kt
      obtain ⟨fs, hr, hrun, hended, hW, hsame⟩ := X0.leave (v := some (.int (1 : Int32))) (fun h => by rw [Bd.returns] at h; cases h)
      refine ⟨_, _, pre2 _ ?_, hrun, hended, _, _, rfl, ?_, ⟨_, rfl⟩, hW, hsame.mono (by decide) (by decide)⟩
      · exact retI X0 hx Bd.returns (hb hby d1_13) hr
      · show Q1 Z p1 p2 h0 n0 _ s₁.heap _
        rw [e0]
        exact ⟨by first | rfl | (simp only [r1, if_neg hc2, if_pos hc9]), N0, rfl⟩
    · skip
      have pre3 : ∀ t, Steps p.tables e below (s₁.setTop (mkF m 15 #[.val (.int p1), .val (.int p2)] [(.int (0 : Int32))])) t → Steps p.tables e below (s₁.setTop (entryFrame m #[(.int p1), (.int p2)] 2)) t := fun t kt => by
        refine pre0 t ?_
        refine XS.iloadN X0.here hx rfl (hb hby d1_0) rfl ?_
        show Steps p.tables e below (s₁.setTop (mkF m 1 #[.val (.int p1), .val (.int p2)] [(.int p1)])) _
        refine XS.iloadN X0.here hx rfl (hb hby d1_1) rfl ?_
        show Steps p.tables e below (s₁.setTop (mkF m 2 #[.val (.int p1), .val (.int p2)] [(.int p2), (.int p1)])) _
        refine XS.icmpYes X0.here hx rfl (pc0 := 2) (pc' := 7) rfl (hb hby d1_2) rfl (flt hc2).2.1 (by decide) (by decide) ?_
        show Steps p.tables e below (s₁.setTop (mkF m 7 #[.val (.int p1), .val (.int p2)] [])) _
        refine XS.iloadN X0.here hx rfl (hb hby d1_7) rfl ?_
        show Steps p.tables e below (s₁.setTop (mkF m 8 #[.val (.int p1), .val (.int p2)] [(.int p1)])) _
        refine XS.iloadN X0.here hx rfl (hb hby d1_8) rfl ?_
        show Steps p.tables e below (s₁.setTop (mkF m 9 #[.val (.int p1), .val (.int p2)] [(.int p2), (.int p1)])) _
        refine XS.icmpYes X0.here hx rfl (pc0 := 9) (pc' := 14) rfl (hb hby d1_9) rfl (flt hc9).2.2.2 (by decide) (by decide) ?_
        show Steps p.tables e below (s₁.setTop (mkF m 14 #[.val (.int p1), .val (.int p2)] [])) _
        refine XS.iconst X0.here hx rfl (hb hby d1_14) ?_
        show Steps p.tables e below (s₁.setTop (mkF m 15 #[.val (.int p1), .val (.int p2)] [(.int (0 : Int32))])) _
        exact kt
      obtain ⟨fs, hr, hrun, hended, hW, hsame⟩ := X0.leave (v := some (.int (0 : Int32))) (fun h => by rw [Bd.returns] at h; cases h)
      refine ⟨_, _, pre3 _ ?_, hrun, hended, _, _, rfl, ?_, ⟨_, rfl⟩, hW, hsame.mono (by decide) (by decide)⟩
      · exact retI X0 hx Bd.returns (hb hby d1_15) hr
      · show Q1 Z p1 p2 h0 n0 _ s₁.heap _
        rw [e0]
        exact ⟨by first | rfl | (simp only [r1, if_neg hc2, if_neg hc9]), N0, rfl⟩
theorem d3_0 : decode jdk_33_method_40_code 0 = .ok (.iload_n 0, 1) := by decide +kernel
theorem d3_1 : decode jdk_33_method_40_code 1 = .ok (.iload_n 1, 1) := by decide +kernel
theorem d3_2 : decode jdk_33_method_40_code 2 = .ok (.if_icmp .ge 7, 3) := by decide +kernel
theorem d3_5 : decode jdk_33_method_40_code 5 = .ok (.iconst (-1), 1) := by decide +kernel
theorem d3_6 : decode jdk_33_method_40_code 6 = .ok (.goto 13, 3) := by decide +kernel
theorem d3_9 : decode jdk_33_method_40_code 9 = .ok (.iload_n 0, 1) := by decide +kernel
theorem d3_10 : decode jdk_33_method_40_code 10 = .ok (.iload_n 1, 1) := by decide +kernel
theorem d3_11 : decode jdk_33_method_40_code 11 = .ok (.if_icmp .ne 7, 3) := by decide +kernel
theorem d3_14 : decode jdk_33_method_40_code 14 = .ok (.iconst 0, 1) := by decide +kernel
theorem d3_15 : decode jdk_33_method_40_code 15 = .ok (.goto 4, 3) := by decide +kernel
theorem d3_18 : decode jdk_33_method_40_code 18 = .ok (.iconst 1, 1) := by decide +kernel
theorem d3_19 : decode jdk_33_method_40_code 19 = .ok (.ireturn, 1) := by decide +kernel
theorem pn_java_lang_Integer : plainName "java/lang/Integer" = true := by first | (simp [plainName, overriddenIn]; done) | decide +kernel
theorem ef_3 (m : MethodId) (x0 : Int32) (x1 : Int32) : entryFrame m #[(.int x0), (.int x1)] 2 = mkF m 0 #[.val (.int x0), .val (.int x1)] [] := by first | (simp [entryFrame, mkF, argsToLocals, Value.category]; done) | rfl
def r3 (p1 : Int32) (p2 : Int32) : Int32 := (if p1 < p2 then (-1 : Int32) else (if p1 = p2 then (0 : Int32) else (1 : Int32)))
def Q3 (Z : State) (p1 : Int32) (p2 : Int32) (h0 : Heap) (n0 : Nat) (v : Option Value) (h : Heap) (L : List Loc) : Prop := v = some (.int (r3 p1 p2)) ∧ Fr n0 L ∧ h = h0
set_option maxRecDepth 65536 in
set_option maxHeartbeats 40000000 in
theorem rm3 (l : Launch) (Z : State) (a0 : Array Value) (hw : ∀ d ∈ tables_1, d.before a0 Z = true) (ws : List Jvm.Cond) (p1 : Int32) (p2 : Int32) (h0 : Heap) (n0 : Nat) (Z0 : n0 ≤ h0.size)  :
    MetFree l (⟨"java/lang/Integer", "compare", "(II)I"⟩ : MethodName) (head1 (Jvm.Cond.code (⟨"java/lang/Integer", "compare", "(II)I"⟩ : MethodName) jdk_33_method_40_code 2 (some .int) :: ws) ({ frames := 0, cells := 0, slots := 0, locals := 0 } : Room)) (fun a U => a = #[(.int p1), (.int p2)] ∧ Z.Warmed39 U.vm ∧ U.heap = h0) (fun _ _ _ _ _ => True) (fun _ U o U' => ∃ v L, o = .returned v ∧ Q3 Z p1 p2 h0 n0 v U'.heap L ∧ FrameEnd U o U' L ({ frames := 0, cells := 0, slots := 0, locals := 0 } : Room).cells ({ frames := 0, cells := 0, slots := 0, locals := 0 } : Room).slots) := by
  refine MetFree.of_bodySF (plainFor_of_name pn_java_lang_Integer) hisR ?_
  intro p e s m args below meth c s₁ Bd hml0 hP hK
  obtain ⟨rfl, hZ, hh⟩ := hP
  have hx := Bd.exec
  have hby := Bd.bytes
  have hml : c.maxLocals = 2 := hml0
  have hown : s.vm.findClass "java/lang/Integer" = some m.cls := findClass_of_methodNamed Bd.named
  have hnm := (name_of_methodNamed Bd.named Bd.method).1
  have X0 : Stand p l e ({ frames := 0, cells := 0, slots := 0, locals := 0 } : Room) s m #[(.int p1), (.int p2)] below meth c s₁ [] 0 0 := Stand.of_body Bd
  have e0 : s₁.heap = h0 := by rw [← hh, Bd.state]; rfl
  have N0 := Fr.nil n0
  have pre0 : ∀ t, Steps p.tables e below (s₁.setTop (mkF m 0 #[.val (.int p1), .val (.int p2)] [])) t → Steps p.tables e below (s₁.setTop (entryFrame m #[(.int p1), (.int p2)] 2)) t := fun t k => castTop (ef_3 m p1 p2) k
  by_cases hc2 : p1 < p2
  · skip
    have pre1 : ∀ t, Steps p.tables e below (s₁.setTop (mkF m 19 #[.val (.int p1), .val (.int p2)] [(.int (-1 : Int32))])) t → Steps p.tables e below (s₁.setTop (entryFrame m #[(.int p1), (.int p2)] 2)) t := fun t kt => by
      refine pre0 t ?_
      refine XS.iloadN X0.here hx rfl (hb hby d3_0) rfl ?_
      show Steps p.tables e below (s₁.setTop (mkF m 1 #[.val (.int p1), .val (.int p2)] [(.int p1)])) _
      refine XS.iloadN X0.here hx rfl (hb hby d3_1) rfl ?_
      show Steps p.tables e below (s₁.setTop (mkF m 2 #[.val (.int p1), .val (.int p2)] [(.int p2), (.int p1)])) _
      refine XS.icmpNo X0.here hx rfl (hb hby d3_2) rfl (tlt hc2).2.1 ?_
      show Steps p.tables e below (s₁.setTop (mkF m 5 #[.val (.int p1), .val (.int p2)] [])) _
      refine XS.iconst X0.here hx rfl (hb hby d3_5) ?_
      show Steps p.tables e below (s₁.setTop (mkF m 6 #[.val (.int p1), .val (.int p2)] [(.int (-1 : Int32))])) _
      refine XS.goto X0.here hx rfl (pc0 := 6) (pc' := 19) rfl (hb hby d3_6) (by decide) (by decide) ?_
      show Steps p.tables e below (s₁.setTop (mkF m 19 #[.val (.int p1), .val (.int p2)] [(.int (-1 : Int32))])) _
      exact kt
    obtain ⟨fs, hr, hrun, hended, hW, hsame⟩ := X0.leave (v := some (.int (-1 : Int32))) (fun h => by rw [Bd.returns] at h; cases h)
    refine ⟨_, _, pre1 _ ?_, hrun, hended, _, _, rfl, ?_, ⟨_, rfl⟩, hW, hsame.mono (by decide) (by decide)⟩
    · exact retI X0 hx Bd.returns (hb hby d3_19) hr
    · show Q3 Z p1 p2 h0 n0 _ s₁.heap _
      rw [e0]
      exact ⟨by first | rfl | (simp only [r3, if_pos hc2]), N0, rfl⟩
  · skip
    by_cases hc11 : p1 = p2
    · skip
      have pre2 : ∀ t, Steps p.tables e below (s₁.setTop (mkF m 19 #[.val (.int p1), .val (.int p2)] [(.int (0 : Int32))])) t → Steps p.tables e below (s₁.setTop (entryFrame m #[(.int p1), (.int p2)] 2)) t := fun t kt => by
        refine pre0 t ?_
        refine XS.iloadN X0.here hx rfl (hb hby d3_0) rfl ?_
        show Steps p.tables e below (s₁.setTop (mkF m 1 #[.val (.int p1), .val (.int p2)] [(.int p1)])) _
        refine XS.iloadN X0.here hx rfl (hb hby d3_1) rfl ?_
        show Steps p.tables e below (s₁.setTop (mkF m 2 #[.val (.int p1), .val (.int p2)] [(.int p2), (.int p1)])) _
        refine XS.icmpYes X0.here hx rfl (pc0 := 2) (pc' := 9) rfl (hb hby d3_2) rfl (flt hc2).2.1 (by decide) (by decide) ?_
        show Steps p.tables e below (s₁.setTop (mkF m 9 #[.val (.int p1), .val (.int p2)] [])) _
        refine XS.iloadN X0.here hx rfl (hb hby d3_9) rfl ?_
        show Steps p.tables e below (s₁.setTop (mkF m 10 #[.val (.int p1), .val (.int p2)] [(.int p1)])) _
        refine XS.iloadN X0.here hx rfl (hb hby d3_10) rfl ?_
        show Steps p.tables e below (s₁.setTop (mkF m 11 #[.val (.int p1), .val (.int p2)] [(.int p2), (.int p1)])) _
        refine XS.icmpNo X0.here hx rfl (hb hby d3_11) rfl (teq hc11).2 ?_
        show Steps p.tables e below (s₁.setTop (mkF m 14 #[.val (.int p1), .val (.int p2)] [])) _
        refine XS.iconst X0.here hx rfl (hb hby d3_14) ?_
        show Steps p.tables e below (s₁.setTop (mkF m 15 #[.val (.int p1), .val (.int p2)] [(.int (0 : Int32))])) _
        refine XS.goto X0.here hx rfl (pc0 := 15) (pc' := 19) rfl (hb hby d3_15) (by decide) (by decide) ?_
        show Steps p.tables e below (s₁.setTop (mkF m 19 #[.val (.int p1), .val (.int p2)] [(.int (0 : Int32))])) _
        exact kt
      obtain ⟨fs, hr, hrun, hended, hW, hsame⟩ := X0.leave (v := some (.int (0 : Int32))) (fun h => by rw [Bd.returns] at h; cases h)
      refine ⟨_, _, pre2 _ ?_, hrun, hended, _, _, rfl, ?_, ⟨_, rfl⟩, hW, hsame.mono (by decide) (by decide)⟩
      · exact retI X0 hx Bd.returns (hb hby d3_19) hr
      · show Q3 Z p1 p2 h0 n0 _ s₁.heap _
        rw [e0]
        exact ⟨by first | rfl | (simp only [r3, if_neg hc2, if_pos hc11]), N0, rfl⟩
    · skip
      have pre3 : ∀ t, Steps p.tables e below (s₁.setTop (mkF m 19 #[.val (.int p1), .val (.int p2)] [(.int (1 : Int32))])) t → Steps p.tables e below (s₁.setTop (entryFrame m #[(.int p1), (.int p2)] 2)) t := fun t kt => by
        refine pre0 t ?_
        refine XS.iloadN X0.here hx rfl (hb hby d3_0) rfl ?_
        show Steps p.tables e below (s₁.setTop (mkF m 1 #[.val (.int p1), .val (.int p2)] [(.int p1)])) _
        refine XS.iloadN X0.here hx rfl (hb hby d3_1) rfl ?_
        show Steps p.tables e below (s₁.setTop (mkF m 2 #[.val (.int p1), .val (.int p2)] [(.int p2), (.int p1)])) _
        refine XS.icmpYes X0.here hx rfl (pc0 := 2) (pc' := 9) rfl (hb hby d3_2) rfl (flt hc2).2.1 (by decide) (by decide) ?_
        show Steps p.tables e below (s₁.setTop (mkF m 9 #[.val (.int p1), .val (.int p2)] [])) _
        refine XS.iloadN X0.here hx rfl (hb hby d3_9) rfl ?_
        show Steps p.tables e below (s₁.setTop (mkF m 10 #[.val (.int p1), .val (.int p2)] [(.int p1)])) _
        refine XS.iloadN X0.here hx rfl (hb hby d3_10) rfl ?_
        show Steps p.tables e below (s₁.setTop (mkF m 11 #[.val (.int p1), .val (.int p2)] [(.int p2), (.int p1)])) _
        refine XS.icmpYes X0.here hx rfl (pc0 := 11) (pc' := 18) rfl (hb hby d3_11) rfl (feq hc11).2 (by decide) (by decide) ?_
        show Steps p.tables e below (s₁.setTop (mkF m 18 #[.val (.int p1), .val (.int p2)] [])) _
        refine XS.iconst X0.here hx rfl (hb hby d3_18) ?_
        show Steps p.tables e below (s₁.setTop (mkF m 19 #[.val (.int p1), .val (.int p2)] [(.int (1 : Int32))])) _
        exact kt
      obtain ⟨fs, hr, hrun, hended, hW, hsame⟩ := X0.leave (v := some (.int (1 : Int32))) (fun h => by rw [Bd.returns] at h; cases h)
      refine ⟨_, _, pre3 _ ?_, hrun, hended, _, _, rfl, ?_, ⟨_, rfl⟩, hW, hsame.mono (by decide) (by decide)⟩
      · exact retI X0 hx Bd.returns (hb hby d3_19) hr
      · show Q3 Z p1 p2 h0 n0 _ s₁.heap _
        rw [e0]
        exact ⟨by first | rfl | (simp only [r3, if_neg hc2, if_neg hc11]), N0, rfl⟩
theorem d2_0 : decode prog_24_method_5_code 0 = .ok (.aload_n 0, 1) := by decide +kernel
theorem d2_1 : decode prog_24_method_5_code 1 = .ok (.getfield 42, 3) := by decide +kernel
theorem d2_4 : decode prog_24_method_5_code 4 = .ok (.iload_n 1, 1) := by decide +kernel
theorem d2_5 : decode prog_24_method_5_code 5 = .ok (.iload_n 3, 1) := by decide +kernel
theorem d2_6 : decode prog_24_method_5_code 6 = .ok (.invokestatic 49, 3) := by decide +kernel
theorem d2_9 : decode prog_24_method_5_code 9 = .ok (.imul, 1) := by decide +kernel
theorem d2_10 : decode prog_24_method_5_code 10 = .ok (.istore 5, 2) := by decide +kernel
theorem d2_12 : decode prog_24_method_5_code 12 = .ok (.iload 5, 2) := by decide +kernel
theorem d2_14 : decode prog_24_method_5_code 14 = .ok (.ifCond .eq 6, 3) := by decide +kernel
theorem d2_17 : decode prog_24_method_5_code 17 = .ok (.iload 5, 2) := by decide +kernel
theorem d2_19 : decode prog_24_method_5_code 19 = .ok (.ireturn, 1) := by decide +kernel
theorem d2_20 : decode prog_24_method_5_code 20 = .ok (.aload_n 0, 1) := by decide +kernel
theorem d2_21 : decode prog_24_method_5_code 21 = .ok (.getfield 46, 3) := by decide +kernel
theorem d2_24 : decode prog_24_method_5_code 24 = .ok (.iload_n 2, 1) := by decide +kernel
theorem d2_25 : decode prog_24_method_5_code 25 = .ok (.iload 4, 2) := by decide +kernel
theorem d2_27 : decode prog_24_method_5_code 27 = .ok (.invokestatic 49, 3) := by decide +kernel
theorem d2_30 : decode prog_24_method_5_code 30 = .ok (.imul, 1) := by decide +kernel
theorem d2_31 : decode prog_24_method_5_code 31 = .ok (.ireturn, 1) := by decide +kernel
theorem pn_com_example_starling_starling_schedule_MessageOrder : plainName "com/example/starling/starling/schedule/MessageOrder" = true := by first | (simp [plainName, overriddenIn]; done) | decide +kernel
theorem pd__II_I : parseMethodDescriptor "(II)I" = some ⟨[.int, .int], some .int⟩ := by decide +kernel
theorem ef_2 (m : MethodId) (x0 : Addr) (x1 : Int32) (x2 : Int32) (x3 : Int32) (x4 : Int32) : entryFrame m #[(.ref x0), (.int x1), (.int x2), (.int x3), (.int x4)] 6 = mkF m 0 #[.val (.ref x0), .val (.int x1), .val (.int x2), .val (.int x3), .val (.int x4), .unset] [] := by first | (simp [entryFrame, mkF, argsToLocals, Value.category]; done) | rfl
def r2 (p2 : Int32) (p3 : Int32) (p4 : Int32) (p5 : Int32) (w_repetitionSign_a1 : Int32) (w_sizeSign_a1 : Int32) : Int32 := (if (w_repetitionSign_a1 * (r3 p2 p4)) = (0 : Int32) then (w_sizeSign_a1 * (r3 p3 p5)) else (w_repetitionSign_a1 * (r3 p2 p4)))
def Q2 (Z : State) (a1 : Addr) (p2 : Int32) (p3 : Int32) (p4 : Int32) (p5 : Int32) (w_repetitionSign_a1 : Int32) (w_sizeSign_a1 : Int32) (h0 : Heap) (n0 : Nat) (v : Option Value) (h : Heap) (L : List Loc) : Prop := v = some (.int (r2 p2 p3 p4 p5 w_repetitionSign_a1 w_sizeSign_a1)) ∧ Fr n0 L ∧ h = h0
set_option maxRecDepth 65536 in
set_option maxHeartbeats 40000000 in
theorem rm2 (l : Launch) (Z : State) (a0 : Array Value) (hw : ∀ d ∈ tables_1, d.before a0 Z = true) (ws : List Jvm.Cond) (a1 : Addr) (p2 : Int32) (p3 : Int32) (p4 : Int32) (p5 : Int32) (w_repetitionSign_a1 : Int32) (w_sizeSign_a1 : Int32) (h0 : Heap) (n0 : Nat) (Z0 : n0 ≤ h0.size) (F_repetitionSign_a1 : Fld Z h0 a1 "com/example/starling/starling/schedule/MessageOrder" "repetitionSign" "I" (.int w_repetitionSign_a1)) (F_sizeSign_a1 : Fld Z h0 a1 "com/example/starling/starling/schedule/MessageOrder" "sizeSign" "I" (.int w_sizeSign_a1)) :
    MetFree l (⟨"com/example/starling/starling/schedule/MessageOrder", "compare", "(IIII)I"⟩ : MethodName) (head1 (Jvm.Cond.code (⟨"com/example/starling/starling/schedule/MessageOrder", "compare", "(IIII)I"⟩ : MethodName) prog_24_method_5_code 6 (some .int) :: ws) ({ frames := 1, cells := 0, slots := 0, locals := 14 } : Room)) (fun a U => a = #[(.ref a1), (.int p2), (.int p3), (.int p4), (.int p5)] ∧ Z.Warmed39 U.vm ∧ U.heap = h0) (fun _ _ _ _ _ => True) (fun _ U o U' => ∃ v L, o = .returned v ∧ Q2 Z a1 p2 p3 p4 p5 w_repetitionSign_a1 w_sizeSign_a1 h0 n0 v U'.heap L ∧ FrameEnd U o U' L ({ frames := 1, cells := 0, slots := 0, locals := 14 } : Room).cells ({ frames := 1, cells := 0, slots := 0, locals := 14 } : Room).slots) := by
  refine MetFree.of_bodySF (plainFor_of_name pn_com_example_starling_starling_schedule_MessageOrder) hisR ?_
  intro p e s m args below meth c s₁ Bd hml0 hP hK
  obtain ⟨rfl, hZ, hh⟩ := hP
  have hx := Bd.exec
  have hby := Bd.bytes
  have hml : c.maxLocals = 6 := hml0
  have hown : s.vm.findClass "com/example/starling/starling/schedule/MessageOrder" = some m.cls := findClass_of_methodNamed Bd.named
  have hnm := (name_of_methodNamed Bd.named Bd.method).1
  have X0 : Stand p l e ({ frames := 1, cells := 0, slots := 0, locals := 14 } : Room) s m #[(.ref a1), (.int p2), (.int p3), (.int p4), (.int p5)] below meth c s₁ [] 0 0 := Stand.of_body Bd
  have e0 : s₁.heap = h0 := by rw [← hh, Bd.state]; rfl
  have N0 := Fr.nil n0
  have pre0 : ∀ t, Steps p.tables e below (s₁.setTop (mkF m 0 #[.val (.ref a1), .val (.int p2), .val (.int p3), .val (.int p4), .val (.int p5), .unset] [])) t → Steps p.tables e below (s₁.setTop (entryFrame m #[(.ref a1), (.int p2), (.int p3), (.int p4), (.int p5)] 6)) t := fun t k => castTop (ef_2 m a1 p2 p3 p4 p5) k
  have pre1 : ∀ t, Steps p.tables e below (s₁.setTop (mkF m 1 #[.val (.ref a1), .val (.int p2), .val (.int p3), .val (.int p4), .val (.int p5), .unset] [(.ref a1)])) t → Steps p.tables e below (s₁.setTop (entryFrame m #[(.ref a1), (.int p2), (.int p3), (.int p4), (.int p5)] 6)) t := fun t kt => by
    refine pre0 t ?_
    refine XS.aloadN X0.here hx rfl (hb hby d2_0) rfl rfl ?_
    show Steps p.tables e below (s₁.setTop (mkF m 1 #[.val (.ref a1), .val (.int p2), .val (.int p3), .val (.int p4), .val (.int p5), .unset] [(.ref a1)])) _
    exact kt
  obtain ⟨T2, X2, e2, st2⟩ := getF X0 hx hZ hown (host := "") (Or.inl (hw _ (mgE 24 rfl))) Via.refl e0 F_repetitionSign_a1 (g := (mkF m 1 #[.val (.ref a1), .val (.int p2), .val (.int p3), .val (.int p4), .val (.int p5), .unset] [(.ref a1)])) rfl rfl (hb hby d2_1)
  have pre3 : ∀ t, Steps p.tables e below (T2.setTop (mkF m 4 #[.val (.ref a1), .val (.int p2), .val (.int p3), .val (.int p4), .val (.int p5), .unset] [(.int w_repetitionSign_a1)])) t → Steps p.tables e below (s₁.setTop (entryFrame m #[(.ref a1), (.int p2), (.int p3), (.int p4), (.int p5)] 6)) t := fun t kt => pre1 t (st2 t kt)
  have pre4 : ∀ t, Steps p.tables e below (T2.setTop (mkF m 6 #[.val (.ref a1), .val (.int p2), .val (.int p3), .val (.int p4), .val (.int p5), .unset] [(.int p4), (.int p2), (.int w_repetitionSign_a1)])) t → Steps p.tables e below (s₁.setTop (entryFrame m #[(.ref a1), (.int p2), (.int p3), (.int p4), (.int p5)] 6)) t := fun t kt => by
    refine pre3 t ?_
    refine XS.iloadN X2.here hx rfl (hb hby d2_4) rfl ?_
    show Steps p.tables e below (T2.setTop (mkF m 5 #[.val (.ref a1), .val (.int p2), .val (.int p3), .val (.int p4), .val (.int p5), .unset] [(.int p2), (.int w_repetitionSign_a1)])) _
    refine XS.iloadN X2.here hx rfl (hb hby d2_5) rfl ?_
    show Steps p.tables e below (T2.setTop (mkF m 6 #[.val (.ref a1), .val (.int p2), .val (.int p3), .val (.int p4), .val (.int p5), .unset] [(.int p4), (.int p2), (.int w_repetitionSign_a1)])) _
    exact kt
  obtain ⟨_, _, ⟨T5, L5, k5, n5⟩, -, X5, ⟨Lc5, hQ5, l5, y5, z5⟩, st5⟩ := Jvm.LawKit.callS X2 hx (y := (⟨"java/lang/Integer", "compare", "(II)I"⟩ : MethodName)) hown (mvT hZ (hw _ (mgE 26 rfl))) (mvT hZ (hw _ (mgE 27 rfl))) (mvT hZ (hw _ (mgE 28 rfl))) (mvT hZ (hw _ (mgE 29 rfl))) (by decide) (backOf (W := 1) (rm3 l Z a0 hw [] p2 p4 h0 n0 Z0 ) hZ (hw _ (mgE 29 rfl)) (hw _ (mgE 28 rfl)) (by decide) (by decide)) (g := (mkF m 6 #[.val (.ref a1), .val (.int p2), .val (.int p3), .val (.int p4), .val (.int p5), .unset] [(.int p4), (.int p2), (.int w_repetitionSign_a1)])) rfl (by rw [hml]; rfl) (argsL := [(.int p2), (.int p4)]) (rest := [(.int w_repetitionSign_a1)]) (lenOf pd__II_I rfl) rfl (by show 2 * 0 + _ ≤ _; exact Nat.le_of_eq rfl) (hb hby d2_6) (fun _ _ => ⟨rfl, e2, (by decide : 0 + 0 ≤ _), (by decide : 0 + 0 ≤ _)⟩)
  dsimp only [Pt.U, Pt.locs, Pt.cells, Pt.slots] at X5 l5 y5 z5 st5 hQ5
  subst l5 y5 z5
  obtain ⟨rfl, N5q, e5⟩ := hQ5
  have pre6 : ∀ t, Steps p.tables e below (T5.setTop (mkF m 9 #[.val (.ref a1), .val (.int p2), .val (.int p3), .val (.int p4), .val (.int p5), .unset] [(.int (r3 p2 p4)), (.int w_repetitionSign_a1)])) t → Steps p.tables e below (s₁.setTop (entryFrame m #[(.ref a1), (.int p2), (.int p3), (.int p4), (.int p5)] 6)) t := fun t kt => pre4 t (st5 t kt)
  have N5 := Fr.app N0 N5q
  by_cases hc14 : (w_repetitionSign_a1 * (r3 p2 p4)) = (0 : Int32)
  · skip
    have pre7 : ∀ t, Steps p.tables e below (T5.setTop (mkF m 21 #[.val (.ref a1), .val (.int p2), .val (.int p3), .val (.int p4), .val (.int p5), .val (.int (w_repetitionSign_a1 * (r3 p2 p4)))] [(.ref a1)])) t → Steps p.tables e below (s₁.setTop (entryFrame m #[(.ref a1), (.int p2), (.int p3), (.int p4), (.int p5)] 6)) t := fun t kt => by
      refine pre6 t ?_
      refine XS.imul X5.here hx rfl (hb hby d2_9) rfl ?_
      show Steps p.tables e below (T5.setTop (mkF m 10 #[.val (.ref a1), .val (.int p2), .val (.int p3), .val (.int p4), .val (.int p5), .unset] [(.int (w_repetitionSign_a1 * (r3 p2 p4)))])) _
      refine XS.istore X5.here hx rfl (hb hby d2_10) rfl (l' := #[.val (.ref a1), .val (.int p2), .val (.int p3), .val (.int p4), .val (.int p5), .val (.int (w_repetitionSign_a1 * (r3 p2 p4)))]) rfl ?_
      show Steps p.tables e below (T5.setTop (mkF m 12 #[.val (.ref a1), .val (.int p2), .val (.int p3), .val (.int p4), .val (.int p5), .val (.int (w_repetitionSign_a1 * (r3 p2 p4)))] [])) _
      refine XS.iload X5.here hx rfl (hb hby d2_12) rfl ?_
      show Steps p.tables e below (T5.setTop (mkF m 14 #[.val (.ref a1), .val (.int p2), .val (.int p3), .val (.int p4), .val (.int p5), .val (.int (w_repetitionSign_a1 * (r3 p2 p4)))] [(.int (w_repetitionSign_a1 * (r3 p2 p4)))])) _
      refine XS.ifYes X5.here hx rfl (pc0 := 14) (pc' := 20) rfl (hb hby d2_14) rfl ((if0 _ _).trans (teq hc14).1) (by decide) (by decide) ?_
      show Steps p.tables e below (T5.setTop (mkF m 20 #[.val (.ref a1), .val (.int p2), .val (.int p3), .val (.int p4), .val (.int p5), .val (.int (w_repetitionSign_a1 * (r3 p2 p4)))] [])) _
      refine XS.aloadN X5.here hx rfl (hb hby d2_20) rfl rfl ?_
      show Steps p.tables e below (T5.setTop (mkF m 21 #[.val (.ref a1), .val (.int p2), .val (.int p3), .val (.int p4), .val (.int p5), .val (.int (w_repetitionSign_a1 * (r3 p2 p4)))] [(.ref a1)])) _
      exact kt
    obtain ⟨T8, X8, e8, st8⟩ := getF X5 hx hZ hown (host := "") (Or.inl (hw _ (mgE 30 rfl))) Via.refl e5 F_sizeSign_a1 (g := (mkF m 21 #[.val (.ref a1), .val (.int p2), .val (.int p3), .val (.int p4), .val (.int p5), .val (.int (w_repetitionSign_a1 * (r3 p2 p4)))] [(.ref a1)])) rfl rfl (hb hby d2_21)
    have pre9 : ∀ t, Steps p.tables e below (T8.setTop (mkF m 24 #[.val (.ref a1), .val (.int p2), .val (.int p3), .val (.int p4), .val (.int p5), .val (.int (w_repetitionSign_a1 * (r3 p2 p4)))] [(.int w_sizeSign_a1)])) t → Steps p.tables e below (s₁.setTop (entryFrame m #[(.ref a1), (.int p2), (.int p3), (.int p4), (.int p5)] 6)) t := fun t kt => pre7 t (st8 t kt)
    have pre10 : ∀ t, Steps p.tables e below (T8.setTop (mkF m 27 #[.val (.ref a1), .val (.int p2), .val (.int p3), .val (.int p4), .val (.int p5), .val (.int (w_repetitionSign_a1 * (r3 p2 p4)))] [(.int p5), (.int p3), (.int w_sizeSign_a1)])) t → Steps p.tables e below (s₁.setTop (entryFrame m #[(.ref a1), (.int p2), (.int p3), (.int p4), (.int p5)] 6)) t := fun t kt => by
      refine pre9 t ?_
      refine XS.iloadN X8.here hx rfl (hb hby d2_24) rfl ?_
      show Steps p.tables e below (T8.setTop (mkF m 25 #[.val (.ref a1), .val (.int p2), .val (.int p3), .val (.int p4), .val (.int p5), .val (.int (w_repetitionSign_a1 * (r3 p2 p4)))] [(.int p3), (.int w_sizeSign_a1)])) _
      refine XS.iload X8.here hx rfl (hb hby d2_25) rfl ?_
      show Steps p.tables e below (T8.setTop (mkF m 27 #[.val (.ref a1), .val (.int p2), .val (.int p3), .val (.int p4), .val (.int p5), .val (.int (w_repetitionSign_a1 * (r3 p2 p4)))] [(.int p5), (.int p3), (.int w_sizeSign_a1)])) _
      exact kt
    obtain ⟨_, _, ⟨T11, L11, k11, n11⟩, -, X11, ⟨Lc11, hQ11, l11, y11, z11⟩, st11⟩ := Jvm.LawKit.callS X8 hx (y := (⟨"java/lang/Integer", "compare", "(II)I"⟩ : MethodName)) hown (mvT hZ (hw _ (mgE 26 rfl))) (mvT hZ (hw _ (mgE 27 rfl))) (mvT hZ (hw _ (mgE 28 rfl))) (mvT hZ (hw _ (mgE 29 rfl))) (by decide) (backOf (W := 1) (rm3 l Z a0 hw [] p3 p5 h0 n0 Z0 ) hZ (hw _ (mgE 29 rfl)) (hw _ (mgE 28 rfl)) (by decide) (by decide)) (g := (mkF m 27 #[.val (.ref a1), .val (.int p2), .val (.int p3), .val (.int p4), .val (.int p5), .val (.int (w_repetitionSign_a1 * (r3 p2 p4)))] [(.int p5), (.int p3), (.int w_sizeSign_a1)])) rfl (by rw [hml]; rfl) (argsL := [(.int p3), (.int p5)]) (rest := [(.int w_sizeSign_a1)]) (lenOf pd__II_I rfl) rfl (by show 2 * 0 + _ ≤ _; exact Nat.le_of_eq rfl) (hb hby d2_27) (fun _ _ => ⟨rfl, e8, (by decide : 0 + 0 ≤ _), (by decide : 0 + 0 ≤ _)⟩)
    dsimp only [Pt.U, Pt.locs, Pt.cells, Pt.slots] at X11 l11 y11 z11 st11 hQ11
    subst l11 y11 z11
    obtain ⟨rfl, N11q, e11⟩ := hQ11
    have pre12 : ∀ t, Steps p.tables e below (T11.setTop (mkF m 30 #[.val (.ref a1), .val (.int p2), .val (.int p3), .val (.int p4), .val (.int p5), .val (.int (w_repetitionSign_a1 * (r3 p2 p4)))] [(.int (r3 p3 p5)), (.int w_sizeSign_a1)])) t → Steps p.tables e below (s₁.setTop (entryFrame m #[(.ref a1), (.int p2), (.int p3), (.int p4), (.int p5)] 6)) t := fun t kt => pre10 t (st11 t kt)
    have N11 := Fr.app N5 N11q
    have pre13 : ∀ t, Steps p.tables e below (T11.setTop (mkF m 31 #[.val (.ref a1), .val (.int p2), .val (.int p3), .val (.int p4), .val (.int p5), .val (.int (w_repetitionSign_a1 * (r3 p2 p4)))] [(.int (w_sizeSign_a1 * (r3 p3 p5)))])) t → Steps p.tables e below (s₁.setTop (entryFrame m #[(.ref a1), (.int p2), (.int p3), (.int p4), (.int p5)] 6)) t := fun t kt => by
      refine pre12 t ?_
      refine XS.imul X11.here hx rfl (hb hby d2_30) rfl ?_
      show Steps p.tables e below (T11.setTop (mkF m 31 #[.val (.ref a1), .val (.int p2), .val (.int p3), .val (.int p4), .val (.int p5), .val (.int (w_repetitionSign_a1 * (r3 p2 p4)))] [(.int (w_sizeSign_a1 * (r3 p3 p5)))])) _
      exact kt
    obtain ⟨fs, hr, hrun, hended, hW, hsame⟩ := X11.leave (v := some (.int (w_sizeSign_a1 * (r3 p3 p5)))) (fun h => by rw [Bd.returns] at h; cases h)
    refine ⟨_, _, pre13 _ ?_, hrun, hended, _, _, rfl, ?_, ⟨_, rfl⟩, hW, hsame.mono (by decide) (by decide)⟩
    · exact retI X11 hx Bd.returns (hb hby d2_31) hr
    · show Q2 Z a1 p2 p3 p4 p5 w_repetitionSign_a1 w_sizeSign_a1 h0 n0 _ T11.heap _
      rw [e11]
      exact ⟨by first | rfl | (simp only [r2, if_pos hc14]), N11, rfl⟩
  · skip
    have pre14 : ∀ t, Steps p.tables e below (T5.setTop (mkF m 19 #[.val (.ref a1), .val (.int p2), .val (.int p3), .val (.int p4), .val (.int p5), .val (.int (w_repetitionSign_a1 * (r3 p2 p4)))] [(.int (w_repetitionSign_a1 * (r3 p2 p4)))])) t → Steps p.tables e below (s₁.setTop (entryFrame m #[(.ref a1), (.int p2), (.int p3), (.int p4), (.int p5)] 6)) t := fun t kt => by
      refine pre6 t ?_
      refine XS.imul X5.here hx rfl (hb hby d2_9) rfl ?_
      show Steps p.tables e below (T5.setTop (mkF m 10 #[.val (.ref a1), .val (.int p2), .val (.int p3), .val (.int p4), .val (.int p5), .unset] [(.int (w_repetitionSign_a1 * (r3 p2 p4)))])) _
      refine XS.istore X5.here hx rfl (hb hby d2_10) rfl (l' := #[.val (.ref a1), .val (.int p2), .val (.int p3), .val (.int p4), .val (.int p5), .val (.int (w_repetitionSign_a1 * (r3 p2 p4)))]) rfl ?_
      show Steps p.tables e below (T5.setTop (mkF m 12 #[.val (.ref a1), .val (.int p2), .val (.int p3), .val (.int p4), .val (.int p5), .val (.int (w_repetitionSign_a1 * (r3 p2 p4)))] [])) _
      refine XS.iload X5.here hx rfl (hb hby d2_12) rfl ?_
      show Steps p.tables e below (T5.setTop (mkF m 14 #[.val (.ref a1), .val (.int p2), .val (.int p3), .val (.int p4), .val (.int p5), .val (.int (w_repetitionSign_a1 * (r3 p2 p4)))] [(.int (w_repetitionSign_a1 * (r3 p2 p4)))])) _
      refine XS.ifNo X5.here hx rfl (hb hby d2_14) rfl ((if0 _ _).trans (feq hc14).1) ?_
      show Steps p.tables e below (T5.setTop (mkF m 17 #[.val (.ref a1), .val (.int p2), .val (.int p3), .val (.int p4), .val (.int p5), .val (.int (w_repetitionSign_a1 * (r3 p2 p4)))] [])) _
      refine XS.iload X5.here hx rfl (hb hby d2_17) rfl ?_
      show Steps p.tables e below (T5.setTop (mkF m 19 #[.val (.ref a1), .val (.int p2), .val (.int p3), .val (.int p4), .val (.int p5), .val (.int (w_repetitionSign_a1 * (r3 p2 p4)))] [(.int (w_repetitionSign_a1 * (r3 p2 p4)))])) _
      exact kt
    obtain ⟨fs, hr, hrun, hended, hW, hsame⟩ := X5.leave (v := some (.int (w_repetitionSign_a1 * (r3 p2 p4)))) (fun h => by rw [Bd.returns] at h; cases h)
    refine ⟨_, _, pre14 _ ?_, hrun, hended, _, _, rfl, ?_, ⟨_, rfl⟩, hW, hsame.mono (by decide) (by decide)⟩
    · exact retI X5 hx Bd.returns (hb hby d2_19) hr
    · show Q2 Z a1 p2 p3 p4 p5 w_repetitionSign_a1 w_sizeSign_a1 h0 n0 _ T5.heap _
      rw [e5]
      exact ⟨by first | rfl | (simp only [r2, if_neg hc14]), N5, rfl⟩
theorem d4_0 : decode method_2_code 0 = .ok (.iload_n 0, 1) := by decide +kernel
theorem d4_1 : decode method_2_code 1 = .ok (.ifCond .ge 5, 3) := by decide +kernel
theorem d4_4 : decode method_2_code 4 = .ok (.iconst (-1), 1) := by decide +kernel
theorem d4_5 : decode method_2_code 5 = .ok (.ireturn, 1) := by decide +kernel
theorem d4_6 : decode method_2_code 6 = .ok (.iload_n 0, 1) := by decide +kernel
theorem d4_7 : decode method_2_code 7 = .ok (.ifCond .le 5, 3) := by decide +kernel
theorem d4_10 : decode method_2_code 10 = .ok (.iconst 1, 1) := by decide +kernel
theorem d4_11 : decode method_2_code 11 = .ok (.ireturn, 1) := by decide +kernel
theorem d4_12 : decode method_2_code 12 = .ok (.iconst 0, 1) := by decide +kernel
theorem d4_13 : decode method_2_code 13 = .ok (.ireturn, 1) := by decide +kernel
theorem ef_4 (m : MethodId) (x0 : Int32) : entryFrame m #[(.int x0)] 1 = mkF m 0 #[.val (.int x0)] [] := by first | (simp [entryFrame, mkF, argsToLocals, Value.category]; done) | rfl
def r4 (p1 : Int32) : Int32 := (if p1 < (0 : Int32) then (-1 : Int32) else (if (0 : Int32) < p1 then (1 : Int32) else (0 : Int32)))
def Q4 (Z : State) (p1 : Int32) (h0 : Heap) (n0 : Nat) (v : Option Value) (h : Heap) (L : List Loc) : Prop := v = some (.int (r4 p1)) ∧ Fr n0 L ∧ h = h0
set_option maxRecDepth 65536 in
set_option maxHeartbeats 40000000 in
theorem rm4 (l : Launch) (Z : State) (a0 : Array Value) (hw : ∀ d ∈ tables_1, d.before a0 Z = true) (ws : List Jvm.Cond) (p1 : Int32) (h0 : Heap) (n0 : Nat) (Z0 : n0 ≤ h0.size)  :
    MetFree l (⟨"com/example/starling/starling/schedule/MessageOrderComparePinLaw", "sgn", "(I)I"⟩ : MethodName) (head1 (Jvm.Cond.code (⟨"com/example/starling/starling/schedule/MessageOrderComparePinLaw", "sgn", "(I)I"⟩ : MethodName) method_2_code 1 (some .int) :: ws) ({ frames := 0, cells := 0, slots := 0, locals := 0 } : Room)) (fun a U => a = #[(.int p1)] ∧ Z.Warmed39 U.vm ∧ U.heap = h0) (fun _ _ _ _ _ => True) (fun _ U o U' => ∃ v L, o = .returned v ∧ Q4 Z p1 h0 n0 v U'.heap L ∧ FrameEnd U o U' L ({ frames := 0, cells := 0, slots := 0, locals := 0 } : Room).cells ({ frames := 0, cells := 0, slots := 0, locals := 0 } : Room).slots) := by
  refine MetFree.of_bodySF (plainFor_of_name pn_com_example_starling_starling_schedule_MessageOrderComparePinLaw) hisR ?_
  intro p e s m args below meth c s₁ Bd hml0 hP hK
  obtain ⟨rfl, hZ, hh⟩ := hP
  have hx := Bd.exec
  have hby := Bd.bytes
  have hml : c.maxLocals = 1 := hml0
  have hown : s.vm.findClass "com/example/starling/starling/schedule/MessageOrderComparePinLaw" = some m.cls := findClass_of_methodNamed Bd.named
  have hnm := (name_of_methodNamed Bd.named Bd.method).1
  have X0 : Stand p l e ({ frames := 0, cells := 0, slots := 0, locals := 0 } : Room) s m #[(.int p1)] below meth c s₁ [] 0 0 := Stand.of_body Bd
  have e0 : s₁.heap = h0 := by rw [← hh, Bd.state]; rfl
  have N0 := Fr.nil n0
  have pre0 : ∀ t, Steps p.tables e below (s₁.setTop (mkF m 0 #[.val (.int p1)] [])) t → Steps p.tables e below (s₁.setTop (entryFrame m #[(.int p1)] 1)) t := fun t k => castTop (ef_4 m p1) k
  by_cases hc1 : p1 < (0 : Int32)
  · skip
    have pre1 : ∀ t, Steps p.tables e below (s₁.setTop (mkF m 5 #[.val (.int p1)] [(.int (-1 : Int32))])) t → Steps p.tables e below (s₁.setTop (entryFrame m #[(.int p1)] 1)) t := fun t kt => by
      refine pre0 t ?_
      refine XS.iloadN X0.here hx rfl (hb hby d4_0) rfl ?_
      show Steps p.tables e below (s₁.setTop (mkF m 1 #[.val (.int p1)] [(.int p1)])) _
      refine XS.ifNo X0.here hx rfl (hb hby d4_1) rfl ((if0 _ _).trans (tlt hc1).2.1) ?_
      show Steps p.tables e below (s₁.setTop (mkF m 4 #[.val (.int p1)] [])) _
      refine XS.iconst X0.here hx rfl (hb hby d4_4) ?_
      show Steps p.tables e below (s₁.setTop (mkF m 5 #[.val (.int p1)] [(.int (-1 : Int32))])) _
      exact kt
    obtain ⟨fs, hr, hrun, hended, hW, hsame⟩ := X0.leave (v := some (.int (-1 : Int32))) (fun h => by rw [Bd.returns] at h; cases h)
    refine ⟨_, _, pre1 _ ?_, hrun, hended, _, _, rfl, ?_, ⟨_, rfl⟩, hW, hsame.mono (by decide) (by decide)⟩
    · exact retI X0 hx Bd.returns (hb hby d4_5) hr
    · show Q4 Z p1 h0 n0 _ s₁.heap _
      rw [e0]
      exact ⟨by first | rfl | (simp only [r4, if_pos hc1]), N0, rfl⟩
  · skip
    by_cases hc7 : (0 : Int32) < p1
    · skip
      have pre2 : ∀ t, Steps p.tables e below (s₁.setTop (mkF m 11 #[.val (.int p1)] [(.int (1 : Int32))])) t → Steps p.tables e below (s₁.setTop (entryFrame m #[(.int p1)] 1)) t := fun t kt => by
        refine pre0 t ?_
        refine XS.iloadN X0.here hx rfl (hb hby d4_0) rfl ?_
        show Steps p.tables e below (s₁.setTop (mkF m 1 #[.val (.int p1)] [(.int p1)])) _
        refine XS.ifYes X0.here hx rfl (pc0 := 1) (pc' := 6) rfl (hb hby d4_1) rfl ((if0 _ _).trans (flt hc1).2.1) (by decide) (by decide) ?_
        show Steps p.tables e below (s₁.setTop (mkF m 6 #[.val (.int p1)] [])) _
        refine XS.iloadN X0.here hx rfl (hb hby d4_6) rfl ?_
        show Steps p.tables e below (s₁.setTop (mkF m 7 #[.val (.int p1)] [(.int p1)])) _
        refine XS.ifNo X0.here hx rfl (hb hby d4_7) rfl ((if0 _ _).trans (tlt hc7).2.2.2) ?_
        show Steps p.tables e below (s₁.setTop (mkF m 10 #[.val (.int p1)] [])) _
        refine XS.iconst X0.here hx rfl (hb hby d4_10) ?_
        show Steps p.tables e below (s₁.setTop (mkF m 11 #[.val (.int p1)] [(.int (1 : Int32))])) _
        exact kt
      obtain ⟨fs, hr, hrun, hended, hW, hsame⟩ := X0.leave (v := some (.int (1 : Int32))) (fun h => by rw [Bd.returns] at h; cases h)
      refine ⟨_, _, pre2 _ ?_, hrun, hended, _, _, rfl, ?_, ⟨_, rfl⟩, hW, hsame.mono (by decide) (by decide)⟩
      · exact retI X0 hx Bd.returns (hb hby d4_11) hr
      · show Q4 Z p1 h0 n0 _ s₁.heap _
        rw [e0]
        exact ⟨by first | rfl | (simp only [r4, if_neg hc1, if_pos hc7]), N0, rfl⟩
    · skip
      have pre3 : ∀ t, Steps p.tables e below (s₁.setTop (mkF m 13 #[.val (.int p1)] [(.int (0 : Int32))])) t → Steps p.tables e below (s₁.setTop (entryFrame m #[(.int p1)] 1)) t := fun t kt => by
        refine pre0 t ?_
        refine XS.iloadN X0.here hx rfl (hb hby d4_0) rfl ?_
        show Steps p.tables e below (s₁.setTop (mkF m 1 #[.val (.int p1)] [(.int p1)])) _
        refine XS.ifYes X0.here hx rfl (pc0 := 1) (pc' := 6) rfl (hb hby d4_1) rfl ((if0 _ _).trans (flt hc1).2.1) (by decide) (by decide) ?_
        show Steps p.tables e below (s₁.setTop (mkF m 6 #[.val (.int p1)] [])) _
        refine XS.iloadN X0.here hx rfl (hb hby d4_6) rfl ?_
        show Steps p.tables e below (s₁.setTop (mkF m 7 #[.val (.int p1)] [(.int p1)])) _
        refine XS.ifYes X0.here hx rfl (pc0 := 7) (pc' := 12) rfl (hb hby d4_7) rfl ((if0 _ _).trans (flt hc7).2.2.2) (by decide) (by decide) ?_
        show Steps p.tables e below (s₁.setTop (mkF m 12 #[.val (.int p1)] [])) _
        refine XS.iconst X0.here hx rfl (hb hby d4_12) ?_
        show Steps p.tables e below (s₁.setTop (mkF m 13 #[.val (.int p1)] [(.int (0 : Int32))])) _
        exact kt
      obtain ⟨fs, hr, hrun, hended, hW, hsame⟩ := X0.leave (v := some (.int (0 : Int32))) (fun h => by rw [Bd.returns] at h; cases h)
      refine ⟨_, _, pre3 _ ?_, hrun, hended, _, _, rfl, ?_, ⟨_, rfl⟩, hW, hsame.mono (by decide) (by decide)⟩
      · exact retI X0 hx Bd.returns (hb hby d4_13) hr
      · show Q4 Z p1 h0 n0 _ s₁.heap _
        rw [e0]
        exact ⟨by first | rfl | (simp only [r4, if_neg hc1, if_neg hc7]), N0, rfl⟩

theorem own_tri (a b x : Int32) (h : x = r1 a b) : x = (-1 : Int32) ∨ x = (0 : Int32) ∨ x = (1 : Int32) := by
  subst h; unfold r1
  by_cases h : a < b
  · rw [if_pos h]; exact Or.inl rfl
  · rw [if_neg h]
    by_cases h2 : b < a
    · rw [if_pos h2]; exact Or.inr (Or.inr rfl)
    · rw [if_neg h2]; exact Or.inr (Or.inl rfl)
theorem own_same (a b : Int32) : r3 a b = r1 a b := by
  unfold r1 r3
  by_cases h : a < b
  · rw [if_pos h, if_pos h]
  · rw [if_neg h, if_neg h]
    by_cases h2 : b < a
    · rw [if_pos h2, if_neg (fun q => by rw [q] at h2; exact Int32.lt_irrefl h2)]
    · rw [if_neg h2, if_pos (Int32.le_antisymm (Int32.not_lt.mp h2) (Int32.not_lt.mp h))]
theorem own_cmp (a b d e w v x y : Int32) (hx : x = r1 a d) (hy : y = r1 b e) : r2 a b d e w v = (if (w * x) = (0 : Int32) then (v * y) else (w * x)) := by
  unfold r2; rw [own_same, own_same, ← hx, ← hy]
theorem own_five (x i : Int32) (h : i = ((x &&& (2147483647 : Int32)) % (5 : Int32))) : i = (0 : Int32) ∨ i = (1 : Int32) ∨ i = (2 : Int32) ∨ i = (3 : Int32) ∨ i = (4 : Int32) := by
  have a := c_and x (2147483647 : Int32) (by decide)
  have v := (c_iremV (x &&& (2147483647 : Int32)) (5 : Int32)).1 a.1 (by decide)
  rw [← h, show (5 : Int32).toInt = 5 from by decide] at v
  have q : i.toInt = 0 ∨ i.toInt = 1 ∨ i.toInt = 2 ∨ i.toInt = 3 ∨ i.toInt = 4 := by omega
  rcases q with q | q | q | q | q
  · exact Or.inl (Int32.toInt_inj.mp q)
  · exact Or.inr (Or.inl (Int32.toInt_inj.mp q))
  · exact Or.inr (Or.inr (Or.inl (Int32.toInt_inj.mp q)))
  · exact Or.inr (Or.inr (Or.inr (Or.inl (Int32.toInt_inj.mp q))))
  · exact Or.inr (Or.inr (Or.inr (Or.inr (Int32.toInt_inj.mp q))))

theorem pd__IIII_I : parseMethodDescriptor "(IIII)I" = some ⟨[.int, .int, .int, .int], some .int⟩ := by decide +kernel
theorem pd__I_I : parseMethodDescriptor "(I)I" = some ⟨[.int], some .int⟩ := by decide +kernel
theorem ef_0 (m : MethodId) (x0 : Int32) (x1 : Int32) (x2 : Int32) (x3 : Int32) (x4 : Int32) (x5 : Int32) : entryFrame m #[(.int x0), (.int x1), (.int x2), (.int x3), (.int x4), (.int x5)] maxLocals = mkF m 0 #[.val (.int x0), .val (.int x1), .val (.int x2), .val (.int x3), .val (.int x4), .val (.int x5), .unset, .unset, .unset, .unset, .unset, .unset, .unset, .unset, .unset, .unset, .unset] [] := by first | (simp [entryFrame, mkF, argsToLocals, Value.category, maxLocals]; done) | rfl
def Q0 (Z : State) (p1 : Int32) (p2 : Int32) (p3 : Int32) (p4 : Int32) (p5 : Int32) (p6 : Int32) (s_REPETITION_UP_SIZE_DOWN : Addr) (s_REPETITION_UP_SIZE_UP : Addr) (s_REPETITION_DOWN_SIZE_DOWN : Addr) (s_REPETITION_DOWN_SIZE_UP : Addr) (s_INPUT : Addr) (h0 : Heap) (n0 : Nat) (v : Option Value) (h : Heap) (L : List Loc) : Prop := v = some (.int 1) ∧ Fr n0 L
set_option maxRecDepth 65536 in
set_option maxHeartbeats 40000000 in
theorem rm0 (l : Launch) (Z : State) (a0 : Array Value) (hw : ∀ d ∈ tables_1, d.before a0 Z = true) (ws : List Jvm.Cond) (p1 : Int32) (p2 : Int32) (p3 : Int32) (p4 : Int32) (p5 : Int32) (p6 : Int32) (s_REPETITION_UP_SIZE_DOWN : Addr) (s_REPETITION_UP_SIZE_UP : Addr) (s_REPETITION_DOWN_SIZE_DOWN : Addr) (s_REPETITION_DOWN_SIZE_UP : Addr) (s_INPUT : Addr) (h0 : Heap) (n0 : Nat) (Z0 : n0 ≤ h0.size) (S_REPETITION_UP_SIZE_DOWN : Sta Z h0 "com/example/starling/starling/schedule/MessageOrder" "REPETITION_UP_SIZE_DOWN" "Lcom/example/starling/starling/schedule/MessageOrder;" (.ref s_REPETITION_UP_SIZE_DOWN)) (F_repetitionSign_s_REPETITION_UP_SIZE_DOWN : Fld Z h0 s_REPETITION_UP_SIZE_DOWN "com/example/starling/starling/schedule/MessageOrder" "repetitionSign" "I" (.int (1 : Int32))) (F_sizeSign_s_REPETITION_UP_SIZE_DOWN : Fld Z h0 s_REPETITION_UP_SIZE_DOWN "com/example/starling/starling/schedule/MessageOrder" "sizeSign" "I" (.int (-1 : Int32))) (S_REPETITION_UP_SIZE_UP : Sta Z h0 "com/example/starling/starling/schedule/MessageOrder" "REPETITION_UP_SIZE_UP" "Lcom/example/starling/starling/schedule/MessageOrder;" (.ref s_REPETITION_UP_SIZE_UP)) (F_repetitionSign_s_REPETITION_UP_SIZE_UP : Fld Z h0 s_REPETITION_UP_SIZE_UP "com/example/starling/starling/schedule/MessageOrder" "repetitionSign" "I" (.int (1 : Int32))) (F_sizeSign_s_REPETITION_UP_SIZE_UP : Fld Z h0 s_REPETITION_UP_SIZE_UP "com/example/starling/starling/schedule/MessageOrder" "sizeSign" "I" (.int (1 : Int32))) (S_REPETITION_DOWN_SIZE_DOWN : Sta Z h0 "com/example/starling/starling/schedule/MessageOrder" "REPETITION_DOWN_SIZE_DOWN" "Lcom/example/starling/starling/schedule/MessageOrder;" (.ref s_REPETITION_DOWN_SIZE_DOWN)) (F_repetitionSign_s_REPETITION_DOWN_SIZE_DOWN : Fld Z h0 s_REPETITION_DOWN_SIZE_DOWN "com/example/starling/starling/schedule/MessageOrder" "repetitionSign" "I" (.int (-1 : Int32))) (F_sizeSign_s_REPETITION_DOWN_SIZE_DOWN : Fld Z h0 s_REPETITION_DOWN_SIZE_DOWN "com/example/starling/starling/schedule/MessageOrder" "sizeSign" "I" (.int (-1 : Int32))) (S_REPETITION_DOWN_SIZE_UP : Sta Z h0 "com/example/starling/starling/schedule/MessageOrder" "REPETITION_DOWN_SIZE_UP" "Lcom/example/starling/starling/schedule/MessageOrder;" (.ref s_REPETITION_DOWN_SIZE_UP)) (F_repetitionSign_s_REPETITION_DOWN_SIZE_UP : Fld Z h0 s_REPETITION_DOWN_SIZE_UP "com/example/starling/starling/schedule/MessageOrder" "repetitionSign" "I" (.int (-1 : Int32))) (F_sizeSign_s_REPETITION_DOWN_SIZE_UP : Fld Z h0 s_REPETITION_DOWN_SIZE_UP "com/example/starling/starling/schedule/MessageOrder" "sizeSign" "I" (.int (1 : Int32))) (S_INPUT : Sta Z h0 "com/example/starling/starling/schedule/MessageOrder" "INPUT" "Lcom/example/starling/starling/schedule/MessageOrder;" (.ref s_INPUT)) (F_repetitionSign_s_INPUT : Fld Z h0 s_INPUT "com/example/starling/starling/schedule/MessageOrder" "repetitionSign" "I" (.int (0 : Int32))) (F_sizeSign_s_INPUT : Fld Z h0 s_INPUT "com/example/starling/starling/schedule/MessageOrder" "sizeSign" "I" (.int (0 : Int32))) (E_s_REPETITION_UP_SIZE_DOWN : Exa Z h0 s_REPETITION_UP_SIZE_DOWN "com/example/starling/starling/schedule/MessageOrder") (E_s_REPETITION_UP_SIZE_UP : Exa Z h0 s_REPETITION_UP_SIZE_UP "com/example/starling/starling/schedule/MessageOrder") (E_s_REPETITION_DOWN_SIZE_DOWN : Exa Z h0 s_REPETITION_DOWN_SIZE_DOWN "com/example/starling/starling/schedule/MessageOrder") (E_s_REPETITION_DOWN_SIZE_UP : Exa Z h0 s_REPETITION_DOWN_SIZE_UP "com/example/starling/starling/schedule/MessageOrder") (E_s_INPUT : Exa Z h0 s_INPUT "com/example/starling/starling/schedule/MessageOrder") :
    MetFree l x (head1 (Jvm.Cond.code x code maxLocals ret :: ws) room_1) (fun a U => a = #[(.int p1), (.int p2), (.int p3), (.int p4), (.int p5), (.int p6)] ∧ Z.Warmed39 U.vm ∧ U.heap = h0) (fun _ _ _ _ _ => True) (fun _ U o U' => ∃ v L, o = .returned v ∧ Q0 Z p1 p2 p3 p4 p5 p6 s_REPETITION_UP_SIZE_DOWN s_REPETITION_UP_SIZE_UP s_REPETITION_DOWN_SIZE_DOWN s_REPETITION_DOWN_SIZE_UP s_INPUT h0 n0 v U'.heap L ∧ FrameEnd U o U' L room_1.cells room_1.slots) := by
  refine MetFree.of_bodySF (plainFor_of_name pn_com_example_starling_starling_schedule_MessageOrderComparePinLaw) hisR ?_
  intro p e s m args below meth c s₁ Bd hml0 hP hK
  obtain ⟨rfl, hZ, hh⟩ := hP
  have hx := Bd.exec
  have hby := Bd.bytes
  have hml : c.maxLocals = 17 := hml0
  have hown : s.vm.findClass "com/example/starling/starling/schedule/MessageOrderComparePinLaw" = some m.cls := findClass_of_methodNamed Bd.named
  have hnm := (name_of_methodNamed Bd.named Bd.method).1
  have X0 : Stand p l e room_1 s m #[(.int p1), (.int p2), (.int p3), (.int p4), (.int p5), (.int p6)] below meth c s₁ [] 0 0 := Stand.of_body Bd
  have e0 : s₁.heap = h0 := by rw [← hh, Bd.state]; rfl
  have N0 := Fr.nil n0
  have pre0 : ∀ t, Steps p.tables e below (s₁.setTop (mkF m 0 #[.val (.int p1), .val (.int p2), .val (.int p3), .val (.int p4), .val (.int p5), .val (.int p6), .unset, .unset, .unset, .unset, .unset, .unset, .unset, .unset, .unset, .unset, .unset] [])) t → Steps p.tables e below (s₁.setTop (entryFrame m #[(.int p1), (.int p2), (.int p3), (.int p4), (.int p5), (.int p6)] maxLocals)) t := fun t k => castTop (ef_0 m p1 p2 p3 p4 p5 p6) k
  have pre1 : ∀ t, Steps p.tables e below (s₁.setTop (mkF m 8 #[.val (.int p1), .val (.int p2), .val (.int p3), .val (.int p4), .val (.int p5), .val (.int p6), .val (.int ((p1 &&& (2147483647 : Int32)) % (5 : Int32))), .unset, .unset, .unset, .unset, .unset, .unset, .unset, .unset, .unset, .unset] [])) t → Steps p.tables e below (s₁.setTop (entryFrame m #[(.int p1), (.int p2), (.int p3), (.int p4), (.int p5), (.int p6)] maxLocals)) t := fun t kt => by
    refine pre0 t ?_
    refine XS.iloadN X0.here hx rfl (hb hby at_0) rfl ?_
    show Steps p.tables e below (s₁.setTop (mkF m 1 #[.val (.int p1), .val (.int p2), .val (.int p3), .val (.int p4), .val (.int p5), .val (.int p6), .unset, .unset, .unset, .unset, .unset, .unset, .unset, .unset, .unset, .unset, .unset] [(.int p1)])) _
    refine X0.ldcInt hx hown (mvT hZ (hw _ (mgE 0 rfl))) (g := (mkF m 1 #[.val (.int p1), .val (.int p2), .val (.int p3), .val (.int p4), .val (.int p5), .val (.int p6), .unset, .unset, .unset, .unset, .unset, .unset, .unset, .unset, .unset, .unset, .unset] [(.int p1)])) rfl (hb hby at_1) _ ?_
    show Steps p.tables e below (s₁.setTop (mkF m 3 #[.val (.int p1), .val (.int p2), .val (.int p3), .val (.int p4), .val (.int p5), .val (.int p6), .unset, .unset, .unset, .unset, .unset, .unset, .unset, .unset, .unset, .unset, .unset] [(.int (2147483647 : Int32)), (.int p1)])) _
    refine XS.iand X0.here hx rfl (hb hby at_3) rfl ?_
    show Steps p.tables e below (s₁.setTop (mkF m 4 #[.val (.int p1), .val (.int p2), .val (.int p3), .val (.int p4), .val (.int p5), .val (.int p6), .unset, .unset, .unset, .unset, .unset, .unset, .unset, .unset, .unset, .unset, .unset] [(.int (p1 &&& (2147483647 : Int32)))])) _
    refine XS.iconst X0.here hx rfl (hb hby at_4) ?_
    show Steps p.tables e below (s₁.setTop (mkF m 5 #[.val (.int p1), .val (.int p2), .val (.int p3), .val (.int p4), .val (.int p5), .val (.int p6), .unset, .unset, .unset, .unset, .unset, .unset, .unset, .unset, .unset, .unset, .unset] [(.int (5 : Int32)), (.int (p1 &&& (2147483647 : Int32)))])) _
    have hnz5 : ¬ ((5 : Int32) = (0 : Int32)) := by decide
    refine iremM X0 hx rfl (hb hby at_5) rfl hnz5 ?_
    show Steps p.tables e below (s₁.setTop (mkF m 6 #[.val (.int p1), .val (.int p2), .val (.int p3), .val (.int p4), .val (.int p5), .val (.int p6), .unset, .unset, .unset, .unset, .unset, .unset, .unset, .unset, .unset, .unset, .unset] [(.int ((p1 &&& (2147483647 : Int32)) % (5 : Int32)))])) _
    refine XS.istore X0.here hx rfl (hb hby at_6) rfl (l' := #[.val (.int p1), .val (.int p2), .val (.int p3), .val (.int p4), .val (.int p5), .val (.int p6), .val (.int ((p1 &&& (2147483647 : Int32)) % (5 : Int32))), .unset, .unset, .unset, .unset, .unset, .unset, .unset, .unset, .unset, .unset]) rfl ?_
    show Steps p.tables e below (s₁.setTop (mkF m 8 #[.val (.int p1), .val (.int p2), .val (.int p3), .val (.int p4), .val (.int p5), .val (.int p6), .val (.int ((p1 &&& (2147483647 : Int32)) % (5 : Int32))), .unset, .unset, .unset, .unset, .unset, .unset, .unset, .unset, .unset, .unset] [])) _
    exact kt
  obtain ⟨idx, h_idx⟩ : ∃ z, z = ((p1 &&& (2147483647 : Int32)) % (5 : Int32)) := ⟨_, rfl⟩
  rw [← h_idx] at pre1
  have pre2 : ∀ t, Steps p.tables e below (s₁.setTop (mkF m 19 #[.val (.int p1), .val (.int p2), .val (.int p3), .val (.int p4), .val (.int p5), .val (.int p6), .val (.int idx), .val (.int p4), .val (.int p5), .unset, .unset, .unset, .unset, .unset, .unset, .unset, .unset] [(.int (p6 &&& (1 : Int32)))])) t → Steps p.tables e below (s₁.setTop (entryFrame m #[(.int p1), (.int p2), (.int p3), (.int p4), (.int p5), (.int p6)] maxLocals)) t := fun t kt => by
    refine pre1 t ?_
    refine XS.iloadN X0.here hx rfl (hb hby at_8) rfl ?_
    show Steps p.tables e below (s₁.setTop (mkF m 9 #[.val (.int p1), .val (.int p2), .val (.int p3), .val (.int p4), .val (.int p5), .val (.int p6), .val (.int idx), .unset, .unset, .unset, .unset, .unset, .unset, .unset, .unset, .unset, .unset] [(.int p4)])) _
    refine XS.istore X0.here hx rfl (hb hby at_9) rfl (l' := #[.val (.int p1), .val (.int p2), .val (.int p3), .val (.int p4), .val (.int p5), .val (.int p6), .val (.int idx), .val (.int p4), .unset, .unset, .unset, .unset, .unset, .unset, .unset, .unset, .unset]) rfl ?_
    show Steps p.tables e below (s₁.setTop (mkF m 11 #[.val (.int p1), .val (.int p2), .val (.int p3), .val (.int p4), .val (.int p5), .val (.int p6), .val (.int idx), .val (.int p4), .unset, .unset, .unset, .unset, .unset, .unset, .unset, .unset, .unset] [])) _
    refine XS.iload X0.here hx rfl (hb hby at_11) rfl ?_
    show Steps p.tables e below (s₁.setTop (mkF m 13 #[.val (.int p1), .val (.int p2), .val (.int p3), .val (.int p4), .val (.int p5), .val (.int p6), .val (.int idx), .val (.int p4), .unset, .unset, .unset, .unset, .unset, .unset, .unset, .unset, .unset] [(.int p5)])) _
    refine XS.istore X0.here hx rfl (hb hby at_13) rfl (l' := #[.val (.int p1), .val (.int p2), .val (.int p3), .val (.int p4), .val (.int p5), .val (.int p6), .val (.int idx), .val (.int p4), .val (.int p5), .unset, .unset, .unset, .unset, .unset, .unset, .unset, .unset]) rfl ?_
    show Steps p.tables e below (s₁.setTop (mkF m 15 #[.val (.int p1), .val (.int p2), .val (.int p3), .val (.int p4), .val (.int p5), .val (.int p6), .val (.int idx), .val (.int p4), .val (.int p5), .unset, .unset, .unset, .unset, .unset, .unset, .unset, .unset] [])) _
    refine XS.iload X0.here hx rfl (hb hby at_15) rfl ?_
    show Steps p.tables e below (s₁.setTop (mkF m 17 #[.val (.int p1), .val (.int p2), .val (.int p3), .val (.int p4), .val (.int p5), .val (.int p6), .val (.int idx), .val (.int p4), .val (.int p5), .unset, .unset, .unset, .unset, .unset, .unset, .unset, .unset] [(.int p6)])) _
    refine XS.iconst X0.here hx rfl (hb hby at_17) ?_
    show Steps p.tables e below (s₁.setTop (mkF m 18 #[.val (.int p1), .val (.int p2), .val (.int p3), .val (.int p4), .val (.int p5), .val (.int p6), .val (.int idx), .val (.int p4), .val (.int p5), .unset, .unset, .unset, .unset, .unset, .unset, .unset, .unset] [(.int (1 : Int32)), (.int p6)])) _
    refine XS.iand X0.here hx rfl (hb hby at_18) rfl ?_
    show Steps p.tables e below (s₁.setTop (mkF m 19 #[.val (.int p1), .val (.int p2), .val (.int p3), .val (.int p4), .val (.int p5), .val (.int p6), .val (.int idx), .val (.int p4), .val (.int p5), .unset, .unset, .unset, .unset, .unset, .unset, .unset, .unset] [(.int (p6 &&& (1 : Int32)))])) _
    exact kt
  have pre3 : ∀ t, Steps p.tables e below (s₁.setTop (mkF m 25 #[.val (.int p1), .val (.int p2), .val (.int p3), .val (.int p4), .val (.int p5), .val (.int p6), .val (.int idx), .val (.int (if (p6 &&& (1 : Int32)) = (0 : Int32) then p4 else p2)), .val (.int p5), .unset, .unset, .unset, .unset, .unset, .unset, .unset, .unset] [])) t → Steps p.tables e below (s₁.setTop (entryFrame m #[(.int p1), (.int p2), (.int p3), (.int p4), (.int p5), (.int p6)] maxLocals)) t := fun t kt => by
    by_cases hc19 : (p6 &&& (1 : Int32)) = (0 : Int32)
    · skip
      try simp only [if_pos hc19] at kt
      refine pre2 t ?_
      refine XS.ifYes X0.here hx rfl (pc0 := 19) (pc' := 25) rfl (hb hby at_19) rfl ((if0 _ _).trans (teq hc19).1) (by decide) (by decide) ?_
      show Steps p.tables e below (s₁.setTop (mkF m 25 #[.val (.int p1), .val (.int p2), .val (.int p3), .val (.int p4), .val (.int p5), .val (.int p6), .val (.int idx), .val (.int p4), .val (.int p5), .unset, .unset, .unset, .unset, .unset, .unset, .unset, .unset] [])) _
      exact kt
    · skip
      try simp only [if_neg hc19] at kt
      refine pre2 t ?_
      refine XS.ifNo X0.here hx rfl (hb hby at_19) rfl ((if0 _ _).trans (feq hc19).1) ?_
      show Steps p.tables e below (s₁.setTop (mkF m 22 #[.val (.int p1), .val (.int p2), .val (.int p3), .val (.int p4), .val (.int p5), .val (.int p6), .val (.int idx), .val (.int p4), .val (.int p5), .unset, .unset, .unset, .unset, .unset, .unset, .unset, .unset] [])) _
      refine XS.iloadN X0.here hx rfl (hb hby at_22) rfl ?_
      show Steps p.tables e below (s₁.setTop (mkF m 23 #[.val (.int p1), .val (.int p2), .val (.int p3), .val (.int p4), .val (.int p5), .val (.int p6), .val (.int idx), .val (.int p4), .val (.int p5), .unset, .unset, .unset, .unset, .unset, .unset, .unset, .unset] [(.int p2)])) _
      refine XS.istore X0.here hx rfl (hb hby at_23) rfl (l' := #[.val (.int p1), .val (.int p2), .val (.int p3), .val (.int p4), .val (.int p5), .val (.int p6), .val (.int idx), .val (.int p2), .val (.int p5), .unset, .unset, .unset, .unset, .unset, .unset, .unset, .unset]) rfl ?_
      show Steps p.tables e below (s₁.setTop (mkF m 25 #[.val (.int p1), .val (.int p2), .val (.int p3), .val (.int p4), .val (.int p5), .val (.int p6), .val (.int idx), .val (.int p2), .val (.int p5), .unset, .unset, .unset, .unset, .unset, .unset, .unset, .unset] [])) _
      exact kt
  obtain ⟨rr2, h_rr2⟩ : ∃ z, z = (if (p6 &&& (1 : Int32)) = (0 : Int32) then p4 else p2) := ⟨_, rfl⟩
  rw [← h_rr2] at pre3
  have pre4 : ∀ t, Steps p.tables e below (s₁.setTop (mkF m 29 #[.val (.int p1), .val (.int p2), .val (.int p3), .val (.int p4), .val (.int p5), .val (.int p6), .val (.int idx), .val (.int rr2), .val (.int p5), .unset, .unset, .unset, .unset, .unset, .unset, .unset, .unset] [(.int (p6 &&& (2 : Int32)))])) t → Steps p.tables e below (s₁.setTop (entryFrame m #[(.int p1), (.int p2), (.int p3), (.int p4), (.int p5), (.int p6)] maxLocals)) t := fun t kt => by
    refine pre3 t ?_
    refine XS.iload X0.here hx rfl (hb hby at_25) rfl ?_
    show Steps p.tables e below (s₁.setTop (mkF m 27 #[.val (.int p1), .val (.int p2), .val (.int p3), .val (.int p4), .val (.int p5), .val (.int p6), .val (.int idx), .val (.int rr2), .val (.int p5), .unset, .unset, .unset, .unset, .unset, .unset, .unset, .unset] [(.int p6)])) _
    refine XS.iconst X0.here hx rfl (hb hby at_27) ?_
    show Steps p.tables e below (s₁.setTop (mkF m 28 #[.val (.int p1), .val (.int p2), .val (.int p3), .val (.int p4), .val (.int p5), .val (.int p6), .val (.int idx), .val (.int rr2), .val (.int p5), .unset, .unset, .unset, .unset, .unset, .unset, .unset, .unset] [(.int (2 : Int32)), (.int p6)])) _
    refine XS.iand X0.here hx rfl (hb hby at_28) rfl ?_
    show Steps p.tables e below (s₁.setTop (mkF m 29 #[.val (.int p1), .val (.int p2), .val (.int p3), .val (.int p4), .val (.int p5), .val (.int p6), .val (.int idx), .val (.int rr2), .val (.int p5), .unset, .unset, .unset, .unset, .unset, .unset, .unset, .unset] [(.int (p6 &&& (2 : Int32)))])) _
    exact kt
  have pre5 : ∀ t, Steps p.tables e below (s₁.setTop (mkF m 35 #[.val (.int p1), .val (.int p2), .val (.int p3), .val (.int p4), .val (.int p5), .val (.int p6), .val (.int idx), .val (.int rr2), .val (.int (if (p6 &&& (2 : Int32)) = (0 : Int32) then p5 else p3)), .unset, .unset, .unset, .unset, .unset, .unset, .unset, .unset] [])) t → Steps p.tables e below (s₁.setTop (entryFrame m #[(.int p1), (.int p2), (.int p3), (.int p4), (.int p5), (.int p6)] maxLocals)) t := fun t kt => by
    by_cases hc29 : (p6 &&& (2 : Int32)) = (0 : Int32)
    · skip
      try simp only [if_pos hc29] at kt
      refine pre4 t ?_
      refine XS.ifYes X0.here hx rfl (pc0 := 29) (pc' := 35) rfl (hb hby at_29) rfl ((if0 _ _).trans (teq hc29).1) (by decide) (by decide) ?_
      show Steps p.tables e below (s₁.setTop (mkF m 35 #[.val (.int p1), .val (.int p2), .val (.int p3), .val (.int p4), .val (.int p5), .val (.int p6), .val (.int idx), .val (.int rr2), .val (.int p5), .unset, .unset, .unset, .unset, .unset, .unset, .unset, .unset] [])) _
      exact kt
    · skip
      try simp only [if_neg hc29] at kt
      refine pre4 t ?_
      refine XS.ifNo X0.here hx rfl (hb hby at_29) rfl ((if0 _ _).trans (feq hc29).1) ?_
      show Steps p.tables e below (s₁.setTop (mkF m 32 #[.val (.int p1), .val (.int p2), .val (.int p3), .val (.int p4), .val (.int p5), .val (.int p6), .val (.int idx), .val (.int rr2), .val (.int p5), .unset, .unset, .unset, .unset, .unset, .unset, .unset, .unset] [])) _
      refine XS.iloadN X0.here hx rfl (hb hby at_32) rfl ?_
      show Steps p.tables e below (s₁.setTop (mkF m 33 #[.val (.int p1), .val (.int p2), .val (.int p3), .val (.int p4), .val (.int p5), .val (.int p6), .val (.int idx), .val (.int rr2), .val (.int p5), .unset, .unset, .unset, .unset, .unset, .unset, .unset, .unset] [(.int p3)])) _
      refine XS.istore X0.here hx rfl (hb hby at_33) rfl (l' := #[.val (.int p1), .val (.int p2), .val (.int p3), .val (.int p4), .val (.int p5), .val (.int p6), .val (.int idx), .val (.int rr2), .val (.int p3), .unset, .unset, .unset, .unset, .unset, .unset, .unset, .unset]) rfl ?_
      show Steps p.tables e below (s₁.setTop (mkF m 35 #[.val (.int p1), .val (.int p2), .val (.int p3), .val (.int p4), .val (.int p5), .val (.int p6), .val (.int idx), .val (.int rr2), .val (.int p3), .unset, .unset, .unset, .unset, .unset, .unset, .unset, .unset] [])) _
      exact kt
  obtain ⟨bb2, h_bb2⟩ : ∃ z, z = (if (p6 &&& (2 : Int32)) = (0 : Int32) then p5 else p3) := ⟨_, rfl⟩
  rw [← h_bb2] at pre5
  have pre6 : ∀ t, Steps p.tables e below (s₁.setTop (mkF m 36 #[.val (.int p1), .val (.int p2), .val (.int p3), .val (.int p4), .val (.int p5), .val (.int p6), .val (.int idx), .val (.int rr2), .val (.int bb2), .unset, .unset, .unset, .unset, .unset, .unset, .unset, .unset] [(.int (5 : Int32))])) t → Steps p.tables e below (s₁.setTop (entryFrame m #[(.int p1), (.int p2), (.int p3), (.int p4), (.int p5), (.int p6)] maxLocals)) t := fun t kt => by
    refine pre5 t ?_
    refine XS.iconst X0.here hx rfl (hb hby at_35) ?_
    show Steps p.tables e below (s₁.setTop (mkF m 36 #[.val (.int p1), .val (.int p2), .val (.int p3), .val (.int p4), .val (.int p5), .val (.int p6), .val (.int idx), .val (.int rr2), .val (.int bb2), .unset, .unset, .unset, .unset, .unset, .unset, .unset, .unset] [(.int (5 : Int32))])) _
    exact kt
  obtain ⟨T7, h7, k7, X7, e7, E7, A7, O7, st7⟩ := newR X0 hx hZ hown (hw _ (mgE 1 rfl)) (hw _ (mgE 2 rfl)) e0 (g := (mkF m 36 #[.val (.int p1), .val (.int p2), .val (.int p3), .val (.int p4), .val (.int p5), .val (.int p6), .val (.int idx), .val (.int rr2), .val (.int bb2), .unset, .unset, .unset, .unset, .unset, .unset, .unset, .unset] [(.int (5 : Int32))])) rfl (hb hby at_36) rfl (by decide) (cap := 5) (by decide) (by decide) (by decide) (by decide)
  obtain ⟨b7, g7⟩ : ∃ z, z = h0.size := ⟨_, rfl⟩
  rw [← g7] at A7 st7
  have ne_s_REPETITION_UP_SIZE_DOWN_b7 : s_REPETITION_UP_SIZE_DOWN ≠ b7 := Nat.ne_of_lt (Nat.lt_of_lt_of_le F_repetitionSign_s_REPETITION_UP_SIZE_DOWN.lt (Nat.le_of_eq g7.symm))
  have ne_s_REPETITION_UP_SIZE_UP_b7 : s_REPETITION_UP_SIZE_UP ≠ b7 := Nat.ne_of_lt (Nat.lt_of_lt_of_le F_repetitionSign_s_REPETITION_UP_SIZE_UP.lt (Nat.le_of_eq g7.symm))
  have ne_s_REPETITION_DOWN_SIZE_DOWN_b7 : s_REPETITION_DOWN_SIZE_DOWN ≠ b7 := Nat.ne_of_lt (Nat.lt_of_lt_of_le F_repetitionSign_s_REPETITION_DOWN_SIZE_DOWN.lt (Nat.le_of_eq g7.symm))
  have ne_s_REPETITION_DOWN_SIZE_UP_b7 : s_REPETITION_DOWN_SIZE_UP ≠ b7 := Nat.ne_of_lt (Nat.lt_of_lt_of_le F_repetitionSign_s_REPETITION_DOWN_SIZE_UP.lt (Nat.le_of_eq g7.symm))
  have ne_s_INPUT_b7 : s_INPUT ≠ b7 := Nat.ne_of_lt (Nat.lt_of_lt_of_le F_repetitionSign_s_INPUT.lt (Nat.le_of_eq g7.symm))
  have g_b7 : n0 ≤ b7 := Nat.le_trans Z0 (Nat.le_of_eq g7.symm)
  have Z7 : n0 ≤ h7.size := Nat.le_trans Z0 E7.1
  have F8_7 := Sta.ext E7 S_REPETITION_UP_SIZE_DOWN
  have F9_7 := F_repetitionSign_s_REPETITION_UP_SIZE_DOWN.ext E7
  have F10_7 := F_sizeSign_s_REPETITION_UP_SIZE_DOWN.ext E7
  have F11_7 := Sta.ext E7 S_REPETITION_UP_SIZE_UP
  have F12_7 := F_repetitionSign_s_REPETITION_UP_SIZE_UP.ext E7
  have F13_7 := F_sizeSign_s_REPETITION_UP_SIZE_UP.ext E7
  have F14_7 := Sta.ext E7 S_REPETITION_DOWN_SIZE_DOWN
  have F15_7 := F_repetitionSign_s_REPETITION_DOWN_SIZE_DOWN.ext E7
  have F16_7 := F_sizeSign_s_REPETITION_DOWN_SIZE_DOWN.ext E7
  have F17_7 := Sta.ext E7 S_REPETITION_DOWN_SIZE_UP
  have F18_7 := F_repetitionSign_s_REPETITION_DOWN_SIZE_UP.ext E7
  have F19_7 := F_sizeSign_s_REPETITION_DOWN_SIZE_UP.ext E7
  have F20_7 := Sta.ext E7 S_INPUT
  have F21_7 := F_repetitionSign_s_INPUT.ext E7
  have F22_7 := F_sizeSign_s_INPUT.ext E7
  have F23_7 := E_s_REPETITION_UP_SIZE_DOWN.ext E7
  have F24_7 := E_s_REPETITION_UP_SIZE_UP.ext E7
  have F25_7 := E_s_REPETITION_DOWN_SIZE_DOWN.ext E7
  have F26_7 := E_s_REPETITION_DOWN_SIZE_UP.ext E7
  have F27_7 := E_s_INPUT.ext E7
  have V_b7 : Arf Z h7 b7 (.object "com/example/starling/starling/schedule/MessageOrder") (5 : Int32) (fun _ => Value.null) := Arf.new A7 (by decide)
  have Ov_b7 : Ovc Z h7 b7 "com/example/starling/starling/schedule/MessageOrder" := ⟨_, A7.1, O7⟩
  have pre28 : ∀ t, Steps p.tables e below (T7.setTop (mkF m 39 #[.val (.int p1), .val (.int p2), .val (.int p3), .val (.int p4), .val (.int p5), .val (.int p6), .val (.int idx), .val (.int rr2), .val (.int bb2), .unset, .unset, .unset, .unset, .unset, .unset, .unset, .unset] [(.ref b7)])) t → Steps p.tables e below (s₁.setTop (entryFrame m #[(.int p1), (.int p2), (.int p3), (.int p4), (.int p5), (.int p6)] maxLocals)) t := fun t kt => pre6 t (st7 t kt)
  have pre29 : ∀ t, Steps p.tables e below (T7.setTop (mkF m 41 #[.val (.int p1), .val (.int p2), .val (.int p3), .val (.int p4), .val (.int p5), .val (.int p6), .val (.int idx), .val (.int rr2), .val (.int bb2), .unset, .unset, .unset, .unset, .unset, .unset, .unset, .unset] [(.int (0 : Int32)), (.ref b7), (.ref b7)])) t → Steps p.tables e below (s₁.setTop (entryFrame m #[(.int p1), (.int p2), (.int p3), (.int p4), (.int p5), (.int p6)] maxLocals)) t := fun t kt => by
    refine pre28 t ?_
    refine XS.dup X7.here hx rfl (hb hby at_39) rfl rfl ?_
    show Steps p.tables e below (T7.setTop (mkF m 40 #[.val (.int p1), .val (.int p2), .val (.int p3), .val (.int p4), .val (.int p5), .val (.int p6), .val (.int idx), .val (.int rr2), .val (.int bb2), .unset, .unset, .unset, .unset, .unset, .unset, .unset, .unset] [(.ref b7), (.ref b7)])) _
    refine XS.iconst X7.here hx rfl (hb hby at_40) ?_
    show Steps p.tables e below (T7.setTop (mkF m 41 #[.val (.int p1), .val (.int p2), .val (.int p3), .val (.int p4), .val (.int p5), .val (.int p6), .val (.int idx), .val (.int rr2), .val (.int bb2), .unset, .unset, .unset, .unset, .unset, .unset, .unset, .unset] [(.int (0 : Int32)), (.ref b7), (.ref b7)])) _
    exact kt
  obtain ⟨T30, X30, e30, st30⟩ := getS2 X7 hx hZ hown (host := "") (Or.inl (hw _ (mgE 3 rfl))) Via.refl e7 F8_7 (g := (mkF m 41 #[.val (.int p1), .val (.int p2), .val (.int p3), .val (.int p4), .val (.int p5), .val (.int p6), .val (.int idx), .val (.int rr2), .val (.int bb2), .unset, .unset, .unset, .unset, .unset, .unset, .unset, .unset] [(.int (0 : Int32)), (.ref b7), (.ref b7)])) rfl (hb hby at_41)
  have pre31 : ∀ t, Steps p.tables e below (T30.setTop (mkF m 44 #[.val (.int p1), .val (.int p2), .val (.int p3), .val (.int p4), .val (.int p5), .val (.int p6), .val (.int idx), .val (.int rr2), .val (.int bb2), .unset, .unset, .unset, .unset, .unset, .unset, .unset, .unset] [(.ref s_REPETITION_UP_SIZE_DOWN), (.int (0 : Int32)), (.ref b7), (.ref b7)])) t → Steps p.tables e below (s₁.setTop (entryFrame m #[(.int p1), (.int p2), (.int p3), (.int p4), (.int p5), (.int p6)] maxLocals)) t := fun t kt => pre29 t (st30 t kt)
  obtain ⟨cl32, Ar32, S32, Ng32, H32⟩ := id V_b7
  have hj32 : ¬ (0 : Int32) < 0 ∧ (0 : Int32) < (5 : Int32) := ⟨by decide, by decide⟩
  have hin32 := inb_of S32 hj32
  obtain ⟨T33, h33, X33, e33, W33, st33⟩ := stR X30 hx hZ e30 Ar32 (j := (0 : Int32)) hin32 rfl (own_sto Ar32 Ov_b7 (Ins.self F23_7)) (g := (mkF m 44 #[.val (.int p1), .val (.int p2), .val (.int p3), .val (.int p4), .val (.int p5), .val (.int p6), .val (.int idx), .val (.int rr2), .val (.int bb2), .unset, .unset, .unset, .unset, .unset, .unset, .unset, .unset] [(.ref s_REPETITION_UP_SIZE_DOWN), (.int (0 : Int32)), (.ref b7), (.ref b7)])) rfl rfl (hb hby at_44)
  have F35_33 := F9_7.other W33 (Or.inl ne_s_REPETITION_UP_SIZE_DOWN_b7)
  have F36_33 := F10_7.other W33 (Or.inl ne_s_REPETITION_UP_SIZE_DOWN_b7)
  have F37_33 := Sta.wr W33 F11_7
  have F38_33 := F12_7.other W33 (Or.inl ne_s_REPETITION_UP_SIZE_UP_b7)
  have F39_33 := F13_7.other W33 (Or.inl ne_s_REPETITION_UP_SIZE_UP_b7)
  have F40_33 := Sta.wr W33 F14_7
  have F41_33 := F15_7.other W33 (Or.inl ne_s_REPETITION_DOWN_SIZE_DOWN_b7)
  have F42_33 := F16_7.other W33 (Or.inl ne_s_REPETITION_DOWN_SIZE_DOWN_b7)
  have F43_33 := Sta.wr W33 F17_7
  have F44_33 := F18_7.other W33 (Or.inl ne_s_REPETITION_DOWN_SIZE_UP_b7)
  have F45_33 := F19_7.other W33 (Or.inl ne_s_REPETITION_DOWN_SIZE_UP_b7)
  have F46_33 := Sta.wr W33 F20_7
  have F47_33 := F21_7.other W33 (Or.inl ne_s_INPUT_b7)
  have F48_33 := F22_7.other W33 (Or.inl ne_s_INPUT_b7)
  have F49_33 := F23_7.wr W33
  have F50_33 := F24_7.wr W33
  have F51_33 := F25_7.wr W33
  have F52_33 := F26_7.wr W33
  have F53_33 := F27_7.wr W33
  have F55_33 := Ov_b7.wr W33
  have V33_b7 : Arf Z h33 b7 (.object "com/example/starling/starling/schedule/MessageOrder") (5 : Int32) (own_upd (fun _ => Value.null) ((0 : Int32)).toNatClampNeg (Value.ref s_REPETITION_UP_SIZE_DOWN)) := (V_b7.set W33)
  have Z33 : n0 ≤ h33.size := Nat.le_trans Z7 (Keep.of_wr W33).1
  have pre56 : ∀ t, Steps p.tables e below (T33.setTop (mkF m 45 #[.val (.int p1), .val (.int p2), .val (.int p3), .val (.int p4), .val (.int p5), .val (.int p6), .val (.int idx), .val (.int rr2), .val (.int bb2), .unset, .unset, .unset, .unset, .unset, .unset, .unset, .unset] [(.ref b7)])) t → Steps p.tables e below (s₁.setTop (entryFrame m #[(.int p1), (.int p2), (.int p3), (.int p4), (.int p5), (.int p6)] maxLocals)) t := fun t kt => pre31 t (st33 t kt)
  have N33 := Fr.snoc X33 N0 g_b7
  have pre57 : ∀ t, Steps p.tables e below (T33.setTop (mkF m 47 #[.val (.int p1), .val (.int p2), .val (.int p3), .val (.int p4), .val (.int p5), .val (.int p6), .val (.int idx), .val (.int rr2), .val (.int bb2), .unset, .unset, .unset, .unset, .unset, .unset, .unset, .unset] [(.int (1 : Int32)), (.ref b7), (.ref b7)])) t → Steps p.tables e below (s₁.setTop (entryFrame m #[(.int p1), (.int p2), (.int p3), (.int p4), (.int p5), (.int p6)] maxLocals)) t := fun t kt => by
    refine pre56 t ?_
    refine XS.dup X33.here hx rfl (hb hby at_45) rfl rfl ?_
    show Steps p.tables e below (T33.setTop (mkF m 46 #[.val (.int p1), .val (.int p2), .val (.int p3), .val (.int p4), .val (.int p5), .val (.int p6), .val (.int idx), .val (.int rr2), .val (.int bb2), .unset, .unset, .unset, .unset, .unset, .unset, .unset, .unset] [(.ref b7), (.ref b7)])) _
    refine XS.iconst X33.here hx rfl (hb hby at_46) ?_
    show Steps p.tables e below (T33.setTop (mkF m 47 #[.val (.int p1), .val (.int p2), .val (.int p3), .val (.int p4), .val (.int p5), .val (.int p6), .val (.int idx), .val (.int rr2), .val (.int bb2), .unset, .unset, .unset, .unset, .unset, .unset, .unset, .unset] [(.int (1 : Int32)), (.ref b7), (.ref b7)])) _
    exact kt
  obtain ⟨T58, X58, e58, st58⟩ := getS2 X33 hx hZ hown (host := "") (Or.inl (hw _ (mgE 7 rfl))) Via.refl e33 F37_33 (g := (mkF m 47 #[.val (.int p1), .val (.int p2), .val (.int p3), .val (.int p4), .val (.int p5), .val (.int p6), .val (.int idx), .val (.int rr2), .val (.int bb2), .unset, .unset, .unset, .unset, .unset, .unset, .unset, .unset] [(.int (1 : Int32)), (.ref b7), (.ref b7)])) rfl (hb hby at_47)
  have pre59 : ∀ t, Steps p.tables e below (T58.setTop (mkF m 50 #[.val (.int p1), .val (.int p2), .val (.int p3), .val (.int p4), .val (.int p5), .val (.int p6), .val (.int idx), .val (.int rr2), .val (.int bb2), .unset, .unset, .unset, .unset, .unset, .unset, .unset, .unset] [(.ref s_REPETITION_UP_SIZE_UP), (.int (1 : Int32)), (.ref b7), (.ref b7)])) t → Steps p.tables e below (s₁.setTop (entryFrame m #[(.int p1), (.int p2), (.int p3), (.int p4), (.int p5), (.int p6)] maxLocals)) t := fun t kt => pre57 t (st58 t kt)
  obtain ⟨cl60, Ar60, S60, Ng60, H60⟩ := id V33_b7
  have hj60 : ¬ (1 : Int32) < 0 ∧ (1 : Int32) < (5 : Int32) := ⟨by decide, by decide⟩
  have hin60 := inb_of S60 hj60
  obtain ⟨T61, h61, X61, e61, W61, st61⟩ := stR X58 hx hZ e58 Ar60 (j := (1 : Int32)) hin60 rfl (own_sto Ar60 F55_33 (Ins.self F50_33)) (g := (mkF m 50 #[.val (.int p1), .val (.int p2), .val (.int p3), .val (.int p4), .val (.int p5), .val (.int p6), .val (.int idx), .val (.int rr2), .val (.int bb2), .unset, .unset, .unset, .unset, .unset, .unset, .unset, .unset] [(.ref s_REPETITION_UP_SIZE_UP), (.int (1 : Int32)), (.ref b7), (.ref b7)])) rfl rfl (hb hby at_50)
  have F63_61 := F35_33.other W61 (Or.inl ne_s_REPETITION_UP_SIZE_DOWN_b7)
  have F64_61 := F36_33.other W61 (Or.inl ne_s_REPETITION_UP_SIZE_DOWN_b7)
  have F66_61 := F38_33.other W61 (Or.inl ne_s_REPETITION_UP_SIZE_UP_b7)
  have F67_61 := F39_33.other W61 (Or.inl ne_s_REPETITION_UP_SIZE_UP_b7)
  have F68_61 := Sta.wr W61 F40_33
  have F69_61 := F41_33.other W61 (Or.inl ne_s_REPETITION_DOWN_SIZE_DOWN_b7)
  have F70_61 := F42_33.other W61 (Or.inl ne_s_REPETITION_DOWN_SIZE_DOWN_b7)
  have F71_61 := Sta.wr W61 F43_33
  have F72_61 := F44_33.other W61 (Or.inl ne_s_REPETITION_DOWN_SIZE_UP_b7)
  have F73_61 := F45_33.other W61 (Or.inl ne_s_REPETITION_DOWN_SIZE_UP_b7)
  have F74_61 := Sta.wr W61 F46_33
  have F75_61 := F47_33.other W61 (Or.inl ne_s_INPUT_b7)
  have F76_61 := F48_33.other W61 (Or.inl ne_s_INPUT_b7)
  have F77_61 := F49_33.wr W61
  have F78_61 := F50_33.wr W61
  have F79_61 := F51_33.wr W61
  have F80_61 := F52_33.wr W61
  have F81_61 := F53_33.wr W61
  have F83_61 := F55_33.wr W61
  have V61_b7 : Arf Z h61 b7 (.object "com/example/starling/starling/schedule/MessageOrder") (5 : Int32) (own_upd (own_upd (fun _ => Value.null) ((0 : Int32)).toNatClampNeg (Value.ref s_REPETITION_UP_SIZE_DOWN)) ((1 : Int32)).toNatClampNeg (Value.ref s_REPETITION_UP_SIZE_UP)) := (V33_b7.set W61)
  have Z61 : n0 ≤ h61.size := Nat.le_trans Z33 (Keep.of_wr W61).1
  have pre84 : ∀ t, Steps p.tables e below (T61.setTop (mkF m 51 #[.val (.int p1), .val (.int p2), .val (.int p3), .val (.int p4), .val (.int p5), .val (.int p6), .val (.int idx), .val (.int rr2), .val (.int bb2), .unset, .unset, .unset, .unset, .unset, .unset, .unset, .unset] [(.ref b7)])) t → Steps p.tables e below (s₁.setTop (entryFrame m #[(.int p1), (.int p2), (.int p3), (.int p4), (.int p5), (.int p6)] maxLocals)) t := fun t kt => pre59 t (st61 t kt)
  have N61 := Fr.snoc X61 N33 g_b7
  have pre85 : ∀ t, Steps p.tables e below (T61.setTop (mkF m 53 #[.val (.int p1), .val (.int p2), .val (.int p3), .val (.int p4), .val (.int p5), .val (.int p6), .val (.int idx), .val (.int rr2), .val (.int bb2), .unset, .unset, .unset, .unset, .unset, .unset, .unset, .unset] [(.int (2 : Int32)), (.ref b7), (.ref b7)])) t → Steps p.tables e below (s₁.setTop (entryFrame m #[(.int p1), (.int p2), (.int p3), (.int p4), (.int p5), (.int p6)] maxLocals)) t := fun t kt => by
    refine pre84 t ?_
    refine XS.dup X61.here hx rfl (hb hby at_51) rfl rfl ?_
    show Steps p.tables e below (T61.setTop (mkF m 52 #[.val (.int p1), .val (.int p2), .val (.int p3), .val (.int p4), .val (.int p5), .val (.int p6), .val (.int idx), .val (.int rr2), .val (.int bb2), .unset, .unset, .unset, .unset, .unset, .unset, .unset, .unset] [(.ref b7), (.ref b7)])) _
    refine XS.iconst X61.here hx rfl (hb hby at_52) ?_
    show Steps p.tables e below (T61.setTop (mkF m 53 #[.val (.int p1), .val (.int p2), .val (.int p3), .val (.int p4), .val (.int p5), .val (.int p6), .val (.int idx), .val (.int rr2), .val (.int bb2), .unset, .unset, .unset, .unset, .unset, .unset, .unset, .unset] [(.int (2 : Int32)), (.ref b7), (.ref b7)])) _
    exact kt
  obtain ⟨T86, X86, e86, st86⟩ := getS2 X61 hx hZ hown (host := "") (Or.inl (hw _ (mgE 9 rfl))) Via.refl e61 F68_61 (g := (mkF m 53 #[.val (.int p1), .val (.int p2), .val (.int p3), .val (.int p4), .val (.int p5), .val (.int p6), .val (.int idx), .val (.int rr2), .val (.int bb2), .unset, .unset, .unset, .unset, .unset, .unset, .unset, .unset] [(.int (2 : Int32)), (.ref b7), (.ref b7)])) rfl (hb hby at_53)
  have pre87 : ∀ t, Steps p.tables e below (T86.setTop (mkF m 56 #[.val (.int p1), .val (.int p2), .val (.int p3), .val (.int p4), .val (.int p5), .val (.int p6), .val (.int idx), .val (.int rr2), .val (.int bb2), .unset, .unset, .unset, .unset, .unset, .unset, .unset, .unset] [(.ref s_REPETITION_DOWN_SIZE_DOWN), (.int (2 : Int32)), (.ref b7), (.ref b7)])) t → Steps p.tables e below (s₁.setTop (entryFrame m #[(.int p1), (.int p2), (.int p3), (.int p4), (.int p5), (.int p6)] maxLocals)) t := fun t kt => pre85 t (st86 t kt)
  obtain ⟨cl88, Ar88, S88, Ng88, H88⟩ := id V61_b7
  have hj88 : ¬ (2 : Int32) < 0 ∧ (2 : Int32) < (5 : Int32) := ⟨by decide, by decide⟩
  have hin88 := inb_of S88 hj88
  obtain ⟨T89, h89, X89, e89, W89, st89⟩ := stR X86 hx hZ e86 Ar88 (j := (2 : Int32)) hin88 rfl (own_sto Ar88 F83_61 (Ins.self F79_61)) (g := (mkF m 56 #[.val (.int p1), .val (.int p2), .val (.int p3), .val (.int p4), .val (.int p5), .val (.int p6), .val (.int idx), .val (.int rr2), .val (.int bb2), .unset, .unset, .unset, .unset, .unset, .unset, .unset, .unset] [(.ref s_REPETITION_DOWN_SIZE_DOWN), (.int (2 : Int32)), (.ref b7), (.ref b7)])) rfl rfl (hb hby at_56)
  have F91_89 := F63_61.other W89 (Or.inl ne_s_REPETITION_UP_SIZE_DOWN_b7)
  have F92_89 := F64_61.other W89 (Or.inl ne_s_REPETITION_UP_SIZE_DOWN_b7)
  have F94_89 := F66_61.other W89 (Or.inl ne_s_REPETITION_UP_SIZE_UP_b7)
  have F95_89 := F67_61.other W89 (Or.inl ne_s_REPETITION_UP_SIZE_UP_b7)
  have F97_89 := F69_61.other W89 (Or.inl ne_s_REPETITION_DOWN_SIZE_DOWN_b7)
  have F98_89 := F70_61.other W89 (Or.inl ne_s_REPETITION_DOWN_SIZE_DOWN_b7)
  have F99_89 := Sta.wr W89 F71_61
  have F100_89 := F72_61.other W89 (Or.inl ne_s_REPETITION_DOWN_SIZE_UP_b7)
  have F101_89 := F73_61.other W89 (Or.inl ne_s_REPETITION_DOWN_SIZE_UP_b7)
  have F102_89 := Sta.wr W89 F74_61
  have F103_89 := F75_61.other W89 (Or.inl ne_s_INPUT_b7)
  have F104_89 := F76_61.other W89 (Or.inl ne_s_INPUT_b7)
  have F105_89 := F77_61.wr W89
  have F106_89 := F78_61.wr W89
  have F107_89 := F79_61.wr W89
  have F108_89 := F80_61.wr W89
  have F109_89 := F81_61.wr W89
  have F111_89 := F83_61.wr W89
  have V89_b7 : Arf Z h89 b7 (.object "com/example/starling/starling/schedule/MessageOrder") (5 : Int32) (own_upd (own_upd (own_upd (fun _ => Value.null) ((0 : Int32)).toNatClampNeg (Value.ref s_REPETITION_UP_SIZE_DOWN)) ((1 : Int32)).toNatClampNeg (Value.ref s_REPETITION_UP_SIZE_UP)) ((2 : Int32)).toNatClampNeg (Value.ref s_REPETITION_DOWN_SIZE_DOWN)) := (V61_b7.set W89)
  have Z89 : n0 ≤ h89.size := Nat.le_trans Z61 (Keep.of_wr W89).1
  have pre112 : ∀ t, Steps p.tables e below (T89.setTop (mkF m 57 #[.val (.int p1), .val (.int p2), .val (.int p3), .val (.int p4), .val (.int p5), .val (.int p6), .val (.int idx), .val (.int rr2), .val (.int bb2), .unset, .unset, .unset, .unset, .unset, .unset, .unset, .unset] [(.ref b7)])) t → Steps p.tables e below (s₁.setTop (entryFrame m #[(.int p1), (.int p2), (.int p3), (.int p4), (.int p5), (.int p6)] maxLocals)) t := fun t kt => pre87 t (st89 t kt)
  have N89 := Fr.snoc X89 N61 g_b7
  have pre113 : ∀ t, Steps p.tables e below (T89.setTop (mkF m 59 #[.val (.int p1), .val (.int p2), .val (.int p3), .val (.int p4), .val (.int p5), .val (.int p6), .val (.int idx), .val (.int rr2), .val (.int bb2), .unset, .unset, .unset, .unset, .unset, .unset, .unset, .unset] [(.int (3 : Int32)), (.ref b7), (.ref b7)])) t → Steps p.tables e below (s₁.setTop (entryFrame m #[(.int p1), (.int p2), (.int p3), (.int p4), (.int p5), (.int p6)] maxLocals)) t := fun t kt => by
    refine pre112 t ?_
    refine XS.dup X89.here hx rfl (hb hby at_57) rfl rfl ?_
    show Steps p.tables e below (T89.setTop (mkF m 58 #[.val (.int p1), .val (.int p2), .val (.int p3), .val (.int p4), .val (.int p5), .val (.int p6), .val (.int idx), .val (.int rr2), .val (.int bb2), .unset, .unset, .unset, .unset, .unset, .unset, .unset, .unset] [(.ref b7), (.ref b7)])) _
    refine XS.iconst X89.here hx rfl (hb hby at_58) ?_
    show Steps p.tables e below (T89.setTop (mkF m 59 #[.val (.int p1), .val (.int p2), .val (.int p3), .val (.int p4), .val (.int p5), .val (.int p6), .val (.int idx), .val (.int rr2), .val (.int bb2), .unset, .unset, .unset, .unset, .unset, .unset, .unset, .unset] [(.int (3 : Int32)), (.ref b7), (.ref b7)])) _
    exact kt
  obtain ⟨T114, X114, e114, st114⟩ := getS2 X89 hx hZ hown (host := "") (Or.inl (hw _ (mgE 11 rfl))) Via.refl e89 F99_89 (g := (mkF m 59 #[.val (.int p1), .val (.int p2), .val (.int p3), .val (.int p4), .val (.int p5), .val (.int p6), .val (.int idx), .val (.int rr2), .val (.int bb2), .unset, .unset, .unset, .unset, .unset, .unset, .unset, .unset] [(.int (3 : Int32)), (.ref b7), (.ref b7)])) rfl (hb hby at_59)
  have pre115 : ∀ t, Steps p.tables e below (T114.setTop (mkF m 62 #[.val (.int p1), .val (.int p2), .val (.int p3), .val (.int p4), .val (.int p5), .val (.int p6), .val (.int idx), .val (.int rr2), .val (.int bb2), .unset, .unset, .unset, .unset, .unset, .unset, .unset, .unset] [(.ref s_REPETITION_DOWN_SIZE_UP), (.int (3 : Int32)), (.ref b7), (.ref b7)])) t → Steps p.tables e below (s₁.setTop (entryFrame m #[(.int p1), (.int p2), (.int p3), (.int p4), (.int p5), (.int p6)] maxLocals)) t := fun t kt => pre113 t (st114 t kt)
  obtain ⟨cl116, Ar116, S116, Ng116, H116⟩ := id V89_b7
  have hj116 : ¬ (3 : Int32) < 0 ∧ (3 : Int32) < (5 : Int32) := ⟨by decide, by decide⟩
  have hin116 := inb_of S116 hj116
  obtain ⟨T117, h117, X117, e117, W117, st117⟩ := stR X114 hx hZ e114 Ar116 (j := (3 : Int32)) hin116 rfl (own_sto Ar116 F111_89 (Ins.self F108_89)) (g := (mkF m 62 #[.val (.int p1), .val (.int p2), .val (.int p3), .val (.int p4), .val (.int p5), .val (.int p6), .val (.int idx), .val (.int rr2), .val (.int bb2), .unset, .unset, .unset, .unset, .unset, .unset, .unset, .unset] [(.ref s_REPETITION_DOWN_SIZE_UP), (.int (3 : Int32)), (.ref b7), (.ref b7)])) rfl rfl (hb hby at_62)
  have F119_117 := F91_89.other W117 (Or.inl ne_s_REPETITION_UP_SIZE_DOWN_b7)
  have F120_117 := F92_89.other W117 (Or.inl ne_s_REPETITION_UP_SIZE_DOWN_b7)
  have F122_117 := F94_89.other W117 (Or.inl ne_s_REPETITION_UP_SIZE_UP_b7)
  have F123_117 := F95_89.other W117 (Or.inl ne_s_REPETITION_UP_SIZE_UP_b7)
  have F125_117 := F97_89.other W117 (Or.inl ne_s_REPETITION_DOWN_SIZE_DOWN_b7)
  have F126_117 := F98_89.other W117 (Or.inl ne_s_REPETITION_DOWN_SIZE_DOWN_b7)
  have F128_117 := F100_89.other W117 (Or.inl ne_s_REPETITION_DOWN_SIZE_UP_b7)
  have F129_117 := F101_89.other W117 (Or.inl ne_s_REPETITION_DOWN_SIZE_UP_b7)
  have F130_117 := Sta.wr W117 F102_89
  have F131_117 := F103_89.other W117 (Or.inl ne_s_INPUT_b7)
  have F132_117 := F104_89.other W117 (Or.inl ne_s_INPUT_b7)
  have F133_117 := F105_89.wr W117
  have F134_117 := F106_89.wr W117
  have F135_117 := F107_89.wr W117
  have F136_117 := F108_89.wr W117
  have F137_117 := F109_89.wr W117
  have F139_117 := F111_89.wr W117
  have V117_b7 : Arf Z h117 b7 (.object "com/example/starling/starling/schedule/MessageOrder") (5 : Int32) (own_upd (own_upd (own_upd (own_upd (fun _ => Value.null) ((0 : Int32)).toNatClampNeg (Value.ref s_REPETITION_UP_SIZE_DOWN)) ((1 : Int32)).toNatClampNeg (Value.ref s_REPETITION_UP_SIZE_UP)) ((2 : Int32)).toNatClampNeg (Value.ref s_REPETITION_DOWN_SIZE_DOWN)) ((3 : Int32)).toNatClampNeg (Value.ref s_REPETITION_DOWN_SIZE_UP)) := (V89_b7.set W117)
  have Z117 : n0 ≤ h117.size := Nat.le_trans Z89 (Keep.of_wr W117).1
  have pre140 : ∀ t, Steps p.tables e below (T117.setTop (mkF m 63 #[.val (.int p1), .val (.int p2), .val (.int p3), .val (.int p4), .val (.int p5), .val (.int p6), .val (.int idx), .val (.int rr2), .val (.int bb2), .unset, .unset, .unset, .unset, .unset, .unset, .unset, .unset] [(.ref b7)])) t → Steps p.tables e below (s₁.setTop (entryFrame m #[(.int p1), (.int p2), (.int p3), (.int p4), (.int p5), (.int p6)] maxLocals)) t := fun t kt => pre115 t (st117 t kt)
  have N117 := Fr.snoc X117 N89 g_b7
  have pre141 : ∀ t, Steps p.tables e below (T117.setTop (mkF m 65 #[.val (.int p1), .val (.int p2), .val (.int p3), .val (.int p4), .val (.int p5), .val (.int p6), .val (.int idx), .val (.int rr2), .val (.int bb2), .unset, .unset, .unset, .unset, .unset, .unset, .unset, .unset] [(.int (4 : Int32)), (.ref b7), (.ref b7)])) t → Steps p.tables e below (s₁.setTop (entryFrame m #[(.int p1), (.int p2), (.int p3), (.int p4), (.int p5), (.int p6)] maxLocals)) t := fun t kt => by
    refine pre140 t ?_
    refine XS.dup X117.here hx rfl (hb hby at_63) rfl rfl ?_
    show Steps p.tables e below (T117.setTop (mkF m 64 #[.val (.int p1), .val (.int p2), .val (.int p3), .val (.int p4), .val (.int p5), .val (.int p6), .val (.int idx), .val (.int rr2), .val (.int bb2), .unset, .unset, .unset, .unset, .unset, .unset, .unset, .unset] [(.ref b7), (.ref b7)])) _
    refine XS.iconst X117.here hx rfl (hb hby at_64) ?_
    show Steps p.tables e below (T117.setTop (mkF m 65 #[.val (.int p1), .val (.int p2), .val (.int p3), .val (.int p4), .val (.int p5), .val (.int p6), .val (.int idx), .val (.int rr2), .val (.int bb2), .unset, .unset, .unset, .unset, .unset, .unset, .unset, .unset] [(.int (4 : Int32)), (.ref b7), (.ref b7)])) _
    exact kt
  obtain ⟨T142, X142, e142, st142⟩ := getS2 X117 hx hZ hown (host := "") (Or.inl (hw _ (mgE 13 rfl))) Via.refl e117 F130_117 (g := (mkF m 65 #[.val (.int p1), .val (.int p2), .val (.int p3), .val (.int p4), .val (.int p5), .val (.int p6), .val (.int idx), .val (.int rr2), .val (.int bb2), .unset, .unset, .unset, .unset, .unset, .unset, .unset, .unset] [(.int (4 : Int32)), (.ref b7), (.ref b7)])) rfl (hb hby at_65)
  have pre143 : ∀ t, Steps p.tables e below (T142.setTop (mkF m 68 #[.val (.int p1), .val (.int p2), .val (.int p3), .val (.int p4), .val (.int p5), .val (.int p6), .val (.int idx), .val (.int rr2), .val (.int bb2), .unset, .unset, .unset, .unset, .unset, .unset, .unset, .unset] [(.ref s_INPUT), (.int (4 : Int32)), (.ref b7), (.ref b7)])) t → Steps p.tables e below (s₁.setTop (entryFrame m #[(.int p1), (.int p2), (.int p3), (.int p4), (.int p5), (.int p6)] maxLocals)) t := fun t kt => pre141 t (st142 t kt)
  obtain ⟨cl144, Ar144, S144, Ng144, H144⟩ := id V117_b7
  have hj144 : ¬ (4 : Int32) < 0 ∧ (4 : Int32) < (5 : Int32) := ⟨by decide, by decide⟩
  have hin144 := inb_of S144 hj144
  obtain ⟨T145, h145, X145, e145, W145, st145⟩ := stR X142 hx hZ e142 Ar144 (j := (4 : Int32)) hin144 rfl (own_sto Ar144 F139_117 (Ins.self F137_117)) (g := (mkF m 68 #[.val (.int p1), .val (.int p2), .val (.int p3), .val (.int p4), .val (.int p5), .val (.int p6), .val (.int idx), .val (.int rr2), .val (.int bb2), .unset, .unset, .unset, .unset, .unset, .unset, .unset, .unset] [(.ref s_INPUT), (.int (4 : Int32)), (.ref b7), (.ref b7)])) rfl rfl (hb hby at_68)
  have F147_145 := F119_117.other W145 (Or.inl ne_s_REPETITION_UP_SIZE_DOWN_b7)
  have F148_145 := F120_117.other W145 (Or.inl ne_s_REPETITION_UP_SIZE_DOWN_b7)
  have F150_145 := F122_117.other W145 (Or.inl ne_s_REPETITION_UP_SIZE_UP_b7)
  have F151_145 := F123_117.other W145 (Or.inl ne_s_REPETITION_UP_SIZE_UP_b7)
  have F153_145 := F125_117.other W145 (Or.inl ne_s_REPETITION_DOWN_SIZE_DOWN_b7)
  have F154_145 := F126_117.other W145 (Or.inl ne_s_REPETITION_DOWN_SIZE_DOWN_b7)
  have F156_145 := F128_117.other W145 (Or.inl ne_s_REPETITION_DOWN_SIZE_UP_b7)
  have F157_145 := F129_117.other W145 (Or.inl ne_s_REPETITION_DOWN_SIZE_UP_b7)
  have F159_145 := F131_117.other W145 (Or.inl ne_s_INPUT_b7)
  have F160_145 := F132_117.other W145 (Or.inl ne_s_INPUT_b7)
  have F161_145 := F133_117.wr W145
  have F162_145 := F134_117.wr W145
  have F163_145 := F135_117.wr W145
  have F164_145 := F136_117.wr W145
  have F165_145 := F137_117.wr W145
  have V145_b7 : Arf Z h145 b7 (.object "com/example/starling/starling/schedule/MessageOrder") (5 : Int32) (own_upd (own_upd (own_upd (own_upd (own_upd (fun _ => Value.null) ((0 : Int32)).toNatClampNeg (Value.ref s_REPETITION_UP_SIZE_DOWN)) ((1 : Int32)).toNatClampNeg (Value.ref s_REPETITION_UP_SIZE_UP)) ((2 : Int32)).toNatClampNeg (Value.ref s_REPETITION_DOWN_SIZE_DOWN)) ((3 : Int32)).toNatClampNeg (Value.ref s_REPETITION_DOWN_SIZE_UP)) ((4 : Int32)).toNatClampNeg (Value.ref s_INPUT)) := (V117_b7.set W145)
  have Z145 : n0 ≤ h145.size := Nat.le_trans Z117 (Keep.of_wr W145).1
  have pre168 : ∀ t, Steps p.tables e below (T145.setTop (mkF m 69 #[.val (.int p1), .val (.int p2), .val (.int p3), .val (.int p4), .val (.int p5), .val (.int p6), .val (.int idx), .val (.int rr2), .val (.int bb2), .unset, .unset, .unset, .unset, .unset, .unset, .unset, .unset] [(.ref b7)])) t → Steps p.tables e below (s₁.setTop (entryFrame m #[(.int p1), (.int p2), (.int p3), (.int p4), (.int p5), (.int p6)] maxLocals)) t := fun t kt => pre143 t (st145 t kt)
  have N145 := Fr.snoc X145 N117 g_b7
  have pre169 : ∀ t, Steps p.tables e below (T145.setTop (mkF m 71 #[.val (.int p1), .val (.int p2), .val (.int p3), .val (.int p4), .val (.int p5), .val (.int p6), .val (.int idx), .val (.int rr2), .val (.int bb2), .val (.ref b7), .unset, .unset, .unset, .unset, .unset, .unset, .unset] [])) t → Steps p.tables e below (s₁.setTop (entryFrame m #[(.int p1), (.int p2), (.int p3), (.int p4), (.int p5), (.int p6)] maxLocals)) t := fun t kt => by
    refine pre168 t ?_
    refine XS.astore X145.here hx rfl (hb hby at_69) rfl rfl (l' := #[.val (.int p1), .val (.int p2), .val (.int p3), .val (.int p4), .val (.int p5), .val (.int p6), .val (.int idx), .val (.int rr2), .val (.int bb2), .val (.ref b7), .unset, .unset, .unset, .unset, .unset, .unset, .unset]) rfl ?_
    show Steps p.tables e below (T145.setTop (mkF m 71 #[.val (.int p1), .val (.int p2), .val (.int p3), .val (.int p4), .val (.int p5), .val (.int p6), .val (.int idx), .val (.int rr2), .val (.int bb2), .val (.ref b7), .unset, .unset, .unset, .unset, .unset, .unset, .unset] [])) _
    exact kt
  rcases (own_five p1 idx h_idx : idx = (0 : Int32) ∨ idx = (1 : Int32) ∨ idx = (2 : Int32) ∨ idx = (3 : Int32) ∨ idx = (4 : Int32)) with hcs | hcs | hcs | hcs | hcs
  · subst hcs
    have pre170 : ∀ t, Steps p.tables e below (T145.setTop (mkF m 75 #[.val (.int p1), .val (.int p2), .val (.int p3), .val (.int p4), .val (.int p5), .val (.int p6), .val (.int (0 : Int32)), .val (.int rr2), .val (.int bb2), .val (.ref b7), .unset, .unset, .unset, .unset, .unset, .unset, .unset] [(.int (0 : Int32)), (.ref b7)])) t → Steps p.tables e below (s₁.setTop (entryFrame m #[(.int p1), (.int p2), (.int p3), (.int p4), (.int p5), (.int p6)] maxLocals)) t := fun t kt => by
      refine pre169 t ?_
      refine XS.aload X145.here hx rfl (hb hby at_71) rfl rfl ?_
      show Steps p.tables e below (T145.setTop (mkF m 73 #[.val (.int p1), .val (.int p2), .val (.int p3), .val (.int p4), .val (.int p5), .val (.int p6), .val (.int (0 : Int32)), .val (.int rr2), .val (.int bb2), .val (.ref b7), .unset, .unset, .unset, .unset, .unset, .unset, .unset] [(.ref b7)])) _
      refine XS.iload X145.here hx rfl (hb hby at_73) rfl ?_
      show Steps p.tables e below (T145.setTop (mkF m 75 #[.val (.int p1), .val (.int p2), .val (.int p3), .val (.int p4), .val (.int p5), .val (.int p6), .val (.int (0 : Int32)), .val (.int rr2), .val (.int bb2), .val (.ref b7), .unset, .unset, .unset, .unset, .unset, .unset, .unset] [(.int (0 : Int32)), (.ref b7)])) _
      exact kt
    obtain ⟨cl171, Ar171, S171, Ng171, H171⟩ := id V145_b7
    have hj171 : ¬ (0 : Int32) < 0 ∧ (0 : Int32) < (5 : Int32) := ⟨by decide, by decide⟩
    have hin171 := inb_of S171 hj171
    have lt171 : ((0 : Int32)).toNatClampNeg < ((5 : Int32)).toNatClampNeg := by rw [← S171]; exact Nat.lt_of_not_le fun q => hin171 (Or.inr q)
    have hv171 : ((own_upd (own_upd (own_upd (own_upd (own_upd (fun _ => Value.null) ((0 : Int32)).toNatClampNeg (Value.ref s_REPETITION_UP_SIZE_DOWN)) ((1 : Int32)).toNatClampNeg (Value.ref s_REPETITION_UP_SIZE_UP)) ((2 : Int32)).toNatClampNeg (Value.ref s_REPETITION_DOWN_SIZE_DOWN)) ((3 : Int32)).toNatClampNeg (Value.ref s_REPETITION_DOWN_SIZE_UP)) ((4 : Int32)).toNatClampNeg (Value.ref s_INPUT)) ((0 : Int32)).toNatClampNeg) = (.ref s_REPETITION_UP_SIZE_DOWN) := rfl
    have pre172 : ∀ t, Steps p.tables e below (T145.setTop (mkF m 81 #[.val (.int p1), .val (.int p2), .val (.int p3), .val (.int p4), .val (.int p5), .val (.int p6), .val (.int (0 : Int32)), .val (.int rr2), .val (.int bb2), .val (.ref b7), .val (.ref s_REPETITION_UP_SIZE_DOWN), .unset, .unset, .unset, .unset, .unset, .unset] [(.int rr2), (.int p2)])) t → Steps p.tables e below (s₁.setTop (entryFrame m #[(.int p1), (.int p2), (.int p3), (.int p4), (.int p5), (.int p6)] maxLocals)) t := fun t kt => by
      refine pre170 t ?_
      refine X145.aaload hx (j := (0 : Int32)) (v := (.ref s_REPETITION_UP_SIZE_DOWN)) (by rw [e145]; exact Ar171.1) (State.isArrayOf_alike hZ.alike Ar171.2.1) rfl Ar171.2.2 hin171 ((H171 _ lt171).trans (congrArg some hv171)) (g := (mkF m 75 #[.val (.int p1), .val (.int p2), .val (.int p3), .val (.int p4), .val (.int p5), .val (.int p6), .val (.int (0 : Int32)), .val (.int rr2), .val (.int bb2), .val (.ref b7), .unset, .unset, .unset, .unset, .unset, .unset, .unset] [(.int (0 : Int32)), (.ref b7)])) rfl rfl (hb hby at_75) _ ?_
      show Steps p.tables e below (T145.setTop (mkF m 76 #[.val (.int p1), .val (.int p2), .val (.int p3), .val (.int p4), .val (.int p5), .val (.int p6), .val (.int (0 : Int32)), .val (.int rr2), .val (.int bb2), .val (.ref b7), .unset, .unset, .unset, .unset, .unset, .unset, .unset] [(.ref s_REPETITION_UP_SIZE_DOWN)])) _
      refine XS.astore X145.here hx rfl (hb hby at_76) rfl rfl (l' := #[.val (.int p1), .val (.int p2), .val (.int p3), .val (.int p4), .val (.int p5), .val (.int p6), .val (.int (0 : Int32)), .val (.int rr2), .val (.int bb2), .val (.ref b7), .val (.ref s_REPETITION_UP_SIZE_DOWN), .unset, .unset, .unset, .unset, .unset, .unset]) rfl ?_
      show Steps p.tables e below (T145.setTop (mkF m 78 #[.val (.int p1), .val (.int p2), .val (.int p3), .val (.int p4), .val (.int p5), .val (.int p6), .val (.int (0 : Int32)), .val (.int rr2), .val (.int bb2), .val (.ref b7), .val (.ref s_REPETITION_UP_SIZE_DOWN), .unset, .unset, .unset, .unset, .unset, .unset] [])) _
      refine XS.iloadN X145.here hx rfl (hb hby at_78) rfl ?_
      show Steps p.tables e below (T145.setTop (mkF m 79 #[.val (.int p1), .val (.int p2), .val (.int p3), .val (.int p4), .val (.int p5), .val (.int p6), .val (.int (0 : Int32)), .val (.int rr2), .val (.int bb2), .val (.ref b7), .val (.ref s_REPETITION_UP_SIZE_DOWN), .unset, .unset, .unset, .unset, .unset, .unset] [(.int p2)])) _
      refine XS.iload X145.here hx rfl (hb hby at_79) rfl ?_
      show Steps p.tables e below (T145.setTop (mkF m 81 #[.val (.int p1), .val (.int p2), .val (.int p3), .val (.int p4), .val (.int p5), .val (.int p6), .val (.int (0 : Int32)), .val (.int rr2), .val (.int bb2), .val (.ref b7), .val (.ref s_REPETITION_UP_SIZE_DOWN), .unset, .unset, .unset, .unset, .unset, .unset] [(.int rr2), (.int p2)])) _
      exact kt
    obtain ⟨_, _, ⟨T173, L173, k173, n173⟩, -, X173, ⟨Lc173, hQ173, l173, y173, z173⟩, st173⟩ := Jvm.LawKit.callS X145 hx (y := (⟨"com/example/starling/starling/schedule/MessageOrderComparePinLaw", "cmp", "(II)I"⟩ : MethodName)) hown (mvT hZ (hw _ (mgE 15 rfl))) (mvT hZ (hw _ (mgE 16 rfl))) (mvT hZ (hw _ (mgE 17 rfl))) (mvT hZ (hw _ (mgE 18 rfl))) (by decide) (backOf (W := 0) (rm1 l Z a0 hw [] p2 rr2 h145 n0 Z145 ) hZ (hw _ (mgE 18 rfl)) (hw _ (mgE 17 rfl)) (by decide) (by decide)) (g := (mkF m 81 #[.val (.int p1), .val (.int p2), .val (.int p3), .val (.int p4), .val (.int p5), .val (.int p6), .val (.int (0 : Int32)), .val (.int rr2), .val (.int bb2), .val (.ref b7), .val (.ref s_REPETITION_UP_SIZE_DOWN), .unset, .unset, .unset, .unset, .unset, .unset] [(.int rr2), (.int p2)])) rfl (by rw [hml]; rfl) (argsL := [(.int p2), (.int rr2)]) (rest := []) (lenOf pd__II_I rfl) rfl (by show 2 * 0 + _ ≤ _; exact Nat.le_of_eq rfl) (hb hby at_81) (fun _ _ => ⟨rfl, e145, (by decide : 1 + 0 ≤ _), (by decide : 5 + 0 ≤ _)⟩)
    dsimp only [Pt.U, Pt.locs, Pt.cells, Pt.slots] at X173 l173 y173 z173 st173 hQ173
    subst l173 y173 z173
    obtain ⟨rfl, N173q, e173⟩ := hQ173
    have pre174 : ∀ t, Steps p.tables e below (T173.setTop (mkF m 84 #[.val (.int p1), .val (.int p2), .val (.int p3), .val (.int p4), .val (.int p5), .val (.int p6), .val (.int (0 : Int32)), .val (.int rr2), .val (.int bb2), .val (.ref b7), .val (.ref s_REPETITION_UP_SIZE_DOWN), .unset, .unset, .unset, .unset, .unset, .unset] [(.int (r1 p2 rr2))])) t → Steps p.tables e below (s₁.setTop (entryFrame m #[(.int p1), (.int p2), (.int p3), (.int p4), (.int p5), (.int p6)] maxLocals)) t := fun t kt => pre172 t (st173 t kt)
    have N173 := Fr.app N145 N173q
    have pre175 : ∀ t, Steps p.tables e below (T173.setTop (mkF m 86 #[.val (.int p1), .val (.int p2), .val (.int p3), .val (.int p4), .val (.int p5), .val (.int p6), .val (.int (0 : Int32)), .val (.int rr2), .val (.int bb2), .val (.ref b7), .val (.ref s_REPETITION_UP_SIZE_DOWN), .val (.int (r1 p2 rr2)), .unset, .unset, .unset, .unset, .unset] [])) t → Steps p.tables e below (s₁.setTop (entryFrame m #[(.int p1), (.int p2), (.int p3), (.int p4), (.int p5), (.int p6)] maxLocals)) t := fun t kt => by
      refine pre174 t ?_
      refine XS.istore X173.here hx rfl (hb hby at_84) rfl (l' := #[.val (.int p1), .val (.int p2), .val (.int p3), .val (.int p4), .val (.int p5), .val (.int p6), .val (.int (0 : Int32)), .val (.int rr2), .val (.int bb2), .val (.ref b7), .val (.ref s_REPETITION_UP_SIZE_DOWN), .val (.int (r1 p2 rr2)), .unset, .unset, .unset, .unset, .unset]) rfl ?_
      show Steps p.tables e below (T173.setTop (mkF m 86 #[.val (.int p1), .val (.int p2), .val (.int p3), .val (.int p4), .val (.int p5), .val (.int p6), .val (.int (0 : Int32)), .val (.int rr2), .val (.int bb2), .val (.ref b7), .val (.ref s_REPETITION_UP_SIZE_DOWN), .val (.int (r1 p2 rr2)), .unset, .unset, .unset, .unset, .unset] [])) _
      exact kt
    obtain ⟨xx, h_xx⟩ : ∃ z, z = (r1 p2 rr2) := ⟨_, rfl⟩
    rw [← h_xx] at pre175
    have hxx := own_tri _ _ _ h_xx
    have pre176 : ∀ t, Steps p.tables e below (T173.setTop (mkF m 89 #[.val (.int p1), .val (.int p2), .val (.int p3), .val (.int p4), .val (.int p5), .val (.int p6), .val (.int (0 : Int32)), .val (.int rr2), .val (.int bb2), .val (.ref b7), .val (.ref s_REPETITION_UP_SIZE_DOWN), .val (.int xx), .unset, .unset, .unset, .unset, .unset] [(.int bb2), (.int p3)])) t → Steps p.tables e below (s₁.setTop (entryFrame m #[(.int p1), (.int p2), (.int p3), (.int p4), (.int p5), (.int p6)] maxLocals)) t := fun t kt => by
      refine pre175 t ?_
      refine XS.iloadN X173.here hx rfl (hb hby at_86) rfl ?_
      show Steps p.tables e below (T173.setTop (mkF m 87 #[.val (.int p1), .val (.int p2), .val (.int p3), .val (.int p4), .val (.int p5), .val (.int p6), .val (.int (0 : Int32)), .val (.int rr2), .val (.int bb2), .val (.ref b7), .val (.ref s_REPETITION_UP_SIZE_DOWN), .val (.int xx), .unset, .unset, .unset, .unset, .unset] [(.int p3)])) _
      refine XS.iload X173.here hx rfl (hb hby at_87) rfl ?_
      show Steps p.tables e below (T173.setTop (mkF m 89 #[.val (.int p1), .val (.int p2), .val (.int p3), .val (.int p4), .val (.int p5), .val (.int p6), .val (.int (0 : Int32)), .val (.int rr2), .val (.int bb2), .val (.ref b7), .val (.ref s_REPETITION_UP_SIZE_DOWN), .val (.int xx), .unset, .unset, .unset, .unset, .unset] [(.int bb2), (.int p3)])) _
      exact kt
    obtain ⟨_, _, ⟨T177, L177, k177, n177⟩, -, X177, ⟨Lc177, hQ177, l177, y177, z177⟩, st177⟩ := Jvm.LawKit.callS X173 hx (y := (⟨"com/example/starling/starling/schedule/MessageOrderComparePinLaw", "cmp", "(II)I"⟩ : MethodName)) hown (mvT hZ (hw _ (mgE 15 rfl))) (mvT hZ (hw _ (mgE 16 rfl))) (mvT hZ (hw _ (mgE 17 rfl))) (mvT hZ (hw _ (mgE 18 rfl))) (by decide) (backOf (W := 0) (rm1 l Z a0 hw [] p3 bb2 h145 n0 Z145 ) hZ (hw _ (mgE 18 rfl)) (hw _ (mgE 17 rfl)) (by decide) (by decide)) (g := (mkF m 89 #[.val (.int p1), .val (.int p2), .val (.int p3), .val (.int p4), .val (.int p5), .val (.int p6), .val (.int (0 : Int32)), .val (.int rr2), .val (.int bb2), .val (.ref b7), .val (.ref s_REPETITION_UP_SIZE_DOWN), .val (.int xx), .unset, .unset, .unset, .unset, .unset] [(.int bb2), (.int p3)])) rfl (by rw [hml]; rfl) (argsL := [(.int p3), (.int bb2)]) (rest := []) (lenOf pd__II_I rfl) rfl (by show 2 * 0 + _ ≤ _; exact Nat.le_of_eq rfl) (hb hby at_89) (fun _ _ => ⟨rfl, e173, (by decide : 1 + 0 ≤ _), (by decide : 5 + 0 ≤ _)⟩)
    dsimp only [Pt.U, Pt.locs, Pt.cells, Pt.slots] at X177 l177 y177 z177 st177 hQ177
    subst l177 y177 z177
    obtain ⟨rfl, N177q, e177⟩ := hQ177
    have pre178 : ∀ t, Steps p.tables e below (T177.setTop (mkF m 92 #[.val (.int p1), .val (.int p2), .val (.int p3), .val (.int p4), .val (.int p5), .val (.int p6), .val (.int (0 : Int32)), .val (.int rr2), .val (.int bb2), .val (.ref b7), .val (.ref s_REPETITION_UP_SIZE_DOWN), .val (.int xx), .unset, .unset, .unset, .unset, .unset] [(.int (r1 p3 bb2))])) t → Steps p.tables e below (s₁.setTop (entryFrame m #[(.int p1), (.int p2), (.int p3), (.int p4), (.int p5), (.int p6)] maxLocals)) t := fun t kt => pre176 t (st177 t kt)
    have N177 := Fr.app N173 N177q
    have pre179 : ∀ t, Steps p.tables e below (T177.setTop (mkF m 94 #[.val (.int p1), .val (.int p2), .val (.int p3), .val (.int p4), .val (.int p5), .val (.int p6), .val (.int (0 : Int32)), .val (.int rr2), .val (.int bb2), .val (.ref b7), .val (.ref s_REPETITION_UP_SIZE_DOWN), .val (.int xx), .val (.int (r1 p3 bb2)), .unset, .unset, .unset, .unset] [])) t → Steps p.tables e below (s₁.setTop (entryFrame m #[(.int p1), (.int p2), (.int p3), (.int p4), (.int p5), (.int p6)] maxLocals)) t := fun t kt => by
      refine pre178 t ?_
      refine XS.istore X177.here hx rfl (hb hby at_92) rfl (l' := #[.val (.int p1), .val (.int p2), .val (.int p3), .val (.int p4), .val (.int p5), .val (.int p6), .val (.int (0 : Int32)), .val (.int rr2), .val (.int bb2), .val (.ref b7), .val (.ref s_REPETITION_UP_SIZE_DOWN), .val (.int xx), .val (.int (r1 p3 bb2)), .unset, .unset, .unset, .unset]) rfl ?_
      show Steps p.tables e below (T177.setTop (mkF m 94 #[.val (.int p1), .val (.int p2), .val (.int p3), .val (.int p4), .val (.int p5), .val (.int p6), .val (.int (0 : Int32)), .val (.int rr2), .val (.int bb2), .val (.ref b7), .val (.ref s_REPETITION_UP_SIZE_DOWN), .val (.int xx), .val (.int (r1 p3 bb2)), .unset, .unset, .unset, .unset] [])) _
      exact kt
    obtain ⟨yy, h_yy⟩ : ∃ z, z = (r1 p3 bb2) := ⟨_, rfl⟩
    rw [← h_yy] at pre179
    have hyy := own_tri _ _ _ h_yy
    by_cases hc145 : xx = (0 : Int32)
    · skip
      have pre180 : ∀ t, Steps p.tables e below (T177.setTop (mkF m 193 #[.val (.int p1), .val (.int p2), .val (.int p3), .val (.int p4), .val (.int p5), .val (.int p6), .val (.int (0 : Int32)), .val (.int rr2), .val (.int bb2), .val (.ref b7), .val (.ref s_REPETITION_UP_SIZE_DOWN), .val (.int xx), .val (.int yy), .val (.int (1 : Int32)), .val (.int (0 : Int32)), .val (.int (-yy)), .unset] [(.int bb2), (.int rr2), (.int p3), (.int p2), (.ref s_REPETITION_UP_SIZE_DOWN)])) t → Steps p.tables e below (s₁.setTop (entryFrame m #[(.int p1), (.int p2), (.int p3), (.int p4), (.int p5), (.int p6)] maxLocals)) t := fun t kt => by
        refine pre179 t ?_
        refine XS.iload X177.here hx rfl (hb hby at_94) rfl ?_
        show Steps p.tables e below (T177.setTop (mkF m 96 #[.val (.int p1), .val (.int p2), .val (.int p3), .val (.int p4), .val (.int p5), .val (.int p6), .val (.int (0 : Int32)), .val (.int rr2), .val (.int bb2), .val (.ref b7), .val (.ref s_REPETITION_UP_SIZE_DOWN), .val (.int xx), .val (.int yy), .unset, .unset, .unset, .unset] [(.int (0 : Int32))])) _
        refine XS.ifYes X177.here hx rfl (pc0 := 96) (pc' := 105) rfl (hb hby at_96) rfl ((if0 _ _).trans (teq (by decide : (0 : Int32) = (0 : Int32))).1) (by decide) (by decide) ?_
        show Steps p.tables e below (T177.setTop (mkF m 105 #[.val (.int p1), .val (.int p2), .val (.int p3), .val (.int p4), .val (.int p5), .val (.int p6), .val (.int (0 : Int32)), .val (.int rr2), .val (.int bb2), .val (.ref b7), .val (.ref s_REPETITION_UP_SIZE_DOWN), .val (.int xx), .val (.int yy), .unset, .unset, .unset, .unset] [])) _
        refine XS.iconst X177.here hx rfl (hb hby at_105) ?_
        show Steps p.tables e below (T177.setTop (mkF m 106 #[.val (.int p1), .val (.int p2), .val (.int p3), .val (.int p4), .val (.int p5), .val (.int p6), .val (.int (0 : Int32)), .val (.int rr2), .val (.int bb2), .val (.ref b7), .val (.ref s_REPETITION_UP_SIZE_DOWN), .val (.int xx), .val (.int yy), .unset, .unset, .unset, .unset] [(.int (1 : Int32))])) _
        refine XS.goto X177.here hx rfl (pc0 := 106) (pc' := 110) rfl (hb hby at_106) (by decide) (by decide) ?_
        show Steps p.tables e below (T177.setTop (mkF m 110 #[.val (.int p1), .val (.int p2), .val (.int p3), .val (.int p4), .val (.int p5), .val (.int p6), .val (.int (0 : Int32)), .val (.int rr2), .val (.int bb2), .val (.ref b7), .val (.ref s_REPETITION_UP_SIZE_DOWN), .val (.int xx), .val (.int yy), .unset, .unset, .unset, .unset] [(.int (1 : Int32))])) _
        refine XS.istore X177.here hx rfl (hb hby at_110) rfl (l' := #[.val (.int p1), .val (.int p2), .val (.int p3), .val (.int p4), .val (.int p5), .val (.int p6), .val (.int (0 : Int32)), .val (.int rr2), .val (.int bb2), .val (.ref b7), .val (.ref s_REPETITION_UP_SIZE_DOWN), .val (.int xx), .val (.int yy), .val (.int (1 : Int32)), .unset, .unset, .unset]) rfl ?_
        show Steps p.tables e below (T177.setTop (mkF m 112 #[.val (.int p1), .val (.int p2), .val (.int p3), .val (.int p4), .val (.int p5), .val (.int p6), .val (.int (0 : Int32)), .val (.int rr2), .val (.int bb2), .val (.ref b7), .val (.ref s_REPETITION_UP_SIZE_DOWN), .val (.int xx), .val (.int yy), .val (.int (1 : Int32)), .unset, .unset, .unset] [])) _
        refine XS.iload X177.here hx rfl (hb hby at_112) rfl ?_
        show Steps p.tables e below (T177.setTop (mkF m 114 #[.val (.int p1), .val (.int p2), .val (.int p3), .val (.int p4), .val (.int p5), .val (.int p6), .val (.int (0 : Int32)), .val (.int rr2), .val (.int bb2), .val (.ref b7), .val (.ref s_REPETITION_UP_SIZE_DOWN), .val (.int xx), .val (.int yy), .val (.int (1 : Int32)), .unset, .unset, .unset] [(.int (0 : Int32))])) _
        refine XS.iconst X177.here hx rfl (hb hby at_114) ?_
        show Steps p.tables e below (T177.setTop (mkF m 115 #[.val (.int p1), .val (.int p2), .val (.int p3), .val (.int p4), .val (.int p5), .val (.int p6), .val (.int (0 : Int32)), .val (.int rr2), .val (.int bb2), .val (.ref b7), .val (.ref s_REPETITION_UP_SIZE_DOWN), .val (.int xx), .val (.int yy), .val (.int (1 : Int32)), .unset, .unset, .unset] [(.int (1 : Int32)), (.int (0 : Int32))])) _
        refine XS.icmpNo X177.here hx rfl (hb hby at_115) rfl (feq (by decide : ¬ ((0 : Int32) = (1 : Int32)))).1 ?_
        show Steps p.tables e below (T177.setTop (mkF m 118 #[.val (.int p1), .val (.int p2), .val (.int p3), .val (.int p4), .val (.int p5), .val (.int p6), .val (.int (0 : Int32)), .val (.int rr2), .val (.int bb2), .val (.ref b7), .val (.ref s_REPETITION_UP_SIZE_DOWN), .val (.int xx), .val (.int yy), .val (.int (1 : Int32)), .unset, .unset, .unset] [])) _
        refine XS.iload X177.here hx rfl (hb hby at_118) rfl ?_
        show Steps p.tables e below (T177.setTop (mkF m 120 #[.val (.int p1), .val (.int p2), .val (.int p3), .val (.int p4), .val (.int p5), .val (.int p6), .val (.int (0 : Int32)), .val (.int rr2), .val (.int bb2), .val (.ref b7), .val (.ref s_REPETITION_UP_SIZE_DOWN), .val (.int xx), .val (.int yy), .val (.int (1 : Int32)), .unset, .unset, .unset] [(.int (0 : Int32))])) _
        refine XS.iconst X177.here hx rfl (hb hby at_120) ?_
        show Steps p.tables e below (T177.setTop (mkF m 121 #[.val (.int p1), .val (.int p2), .val (.int p3), .val (.int p4), .val (.int p5), .val (.int p6), .val (.int (0 : Int32)), .val (.int rr2), .val (.int bb2), .val (.ref b7), .val (.ref s_REPETITION_UP_SIZE_DOWN), .val (.int xx), .val (.int yy), .val (.int (1 : Int32)), .unset, .unset, .unset] [(.int (3 : Int32)), (.int (0 : Int32))])) _
        refine XS.icmpYes X177.here hx rfl (pc0 := 121) (pc' := 128) rfl (hb hby at_121) rfl (feq (by decide : ¬ ((0 : Int32) = (3 : Int32)))).2 (by decide) (by decide) ?_
        show Steps p.tables e below (T177.setTop (mkF m 128 #[.val (.int p1), .val (.int p2), .val (.int p3), .val (.int p4), .val (.int p5), .val (.int p6), .val (.int (0 : Int32)), .val (.int rr2), .val (.int bb2), .val (.ref b7), .val (.ref s_REPETITION_UP_SIZE_DOWN), .val (.int xx), .val (.int yy), .val (.int (1 : Int32)), .unset, .unset, .unset] [])) _
        refine XS.iconst X177.here hx rfl (hb hby at_128) ?_
        show Steps p.tables e below (T177.setTop (mkF m 129 #[.val (.int p1), .val (.int p2), .val (.int p3), .val (.int p4), .val (.int p5), .val (.int p6), .val (.int (0 : Int32)), .val (.int rr2), .val (.int bb2), .val (.ref b7), .val (.ref s_REPETITION_UP_SIZE_DOWN), .val (.int xx), .val (.int yy), .val (.int (1 : Int32)), .unset, .unset, .unset] [(.int (0 : Int32))])) _
        refine XS.istore X177.here hx rfl (hb hby at_129) rfl (l' := #[.val (.int p1), .val (.int p2), .val (.int p3), .val (.int p4), .val (.int p5), .val (.int p6), .val (.int (0 : Int32)), .val (.int rr2), .val (.int bb2), .val (.ref b7), .val (.ref s_REPETITION_UP_SIZE_DOWN), .val (.int xx), .val (.int yy), .val (.int (1 : Int32)), .val (.int (0 : Int32)), .unset, .unset]) rfl ?_
        show Steps p.tables e below (T177.setTop (mkF m 131 #[.val (.int p1), .val (.int p2), .val (.int p3), .val (.int p4), .val (.int p5), .val (.int p6), .val (.int (0 : Int32)), .val (.int rr2), .val (.int bb2), .val (.ref b7), .val (.ref s_REPETITION_UP_SIZE_DOWN), .val (.int xx), .val (.int yy), .val (.int (1 : Int32)), .val (.int (0 : Int32)), .unset, .unset] [])) _
        refine XS.iload X177.here hx rfl (hb hby at_131) rfl ?_
        show Steps p.tables e below (T177.setTop (mkF m 133 #[.val (.int p1), .val (.int p2), .val (.int p3), .val (.int p4), .val (.int p5), .val (.int p6), .val (.int (0 : Int32)), .val (.int rr2), .val (.int bb2), .val (.ref b7), .val (.ref s_REPETITION_UP_SIZE_DOWN), .val (.int xx), .val (.int yy), .val (.int (1 : Int32)), .val (.int (0 : Int32)), .unset, .unset] [(.int (0 : Int32))])) _
        refine XS.iconst X177.here hx rfl (hb hby at_133) ?_
        show Steps p.tables e below (T177.setTop (mkF m 134 #[.val (.int p1), .val (.int p2), .val (.int p3), .val (.int p4), .val (.int p5), .val (.int p6), .val (.int (0 : Int32)), .val (.int rr2), .val (.int bb2), .val (.ref b7), .val (.ref s_REPETITION_UP_SIZE_DOWN), .val (.int xx), .val (.int yy), .val (.int (1 : Int32)), .val (.int (0 : Int32)), .unset, .unset] [(.int (4 : Int32)), (.int (0 : Int32))])) _
        refine XS.icmpYes X177.here hx rfl (pc0 := 134) (pc' := 143) rfl (hb hby at_134) rfl (feq (by decide : ¬ ((0 : Int32) = (4 : Int32)))).2 (by decide) (by decide) ?_
        show Steps p.tables e below (T177.setTop (mkF m 143 #[.val (.int p1), .val (.int p2), .val (.int p3), .val (.int p4), .val (.int p5), .val (.int p6), .val (.int (0 : Int32)), .val (.int rr2), .val (.int bb2), .val (.ref b7), .val (.ref s_REPETITION_UP_SIZE_DOWN), .val (.int xx), .val (.int yy), .val (.int (1 : Int32)), .val (.int (0 : Int32)), .unset, .unset] [])) _
        refine XS.iload X177.here hx rfl (hb hby at_143) rfl ?_
        show Steps p.tables e below (T177.setTop (mkF m 145 #[.val (.int p1), .val (.int p2), .val (.int p3), .val (.int p4), .val (.int p5), .val (.int p6), .val (.int (0 : Int32)), .val (.int rr2), .val (.int bb2), .val (.ref b7), .val (.ref s_REPETITION_UP_SIZE_DOWN), .val (.int xx), .val (.int yy), .val (.int (1 : Int32)), .val (.int (0 : Int32)), .unset, .unset] [(.int xx)])) _
        refine XS.ifYes X177.here hx rfl (pc0 := 145) (pc' := 168) rfl (hb hby at_145) rfl ((if0 _ _).trans (teq hc145).1) (by decide) (by decide) ?_
        show Steps p.tables e below (T177.setTop (mkF m 168 #[.val (.int p1), .val (.int p2), .val (.int p3), .val (.int p4), .val (.int p5), .val (.int p6), .val (.int (0 : Int32)), .val (.int rr2), .val (.int bb2), .val (.ref b7), .val (.ref s_REPETITION_UP_SIZE_DOWN), .val (.int xx), .val (.int yy), .val (.int (1 : Int32)), .val (.int (0 : Int32)), .unset, .unset] [])) _
        refine XS.iload X177.here hx rfl (hb hby at_168) rfl ?_
        show Steps p.tables e below (T177.setTop (mkF m 170 #[.val (.int p1), .val (.int p2), .val (.int p3), .val (.int p4), .val (.int p5), .val (.int p6), .val (.int (0 : Int32)), .val (.int rr2), .val (.int bb2), .val (.ref b7), .val (.ref s_REPETITION_UP_SIZE_DOWN), .val (.int xx), .val (.int yy), .val (.int (1 : Int32)), .val (.int (0 : Int32)), .unset, .unset] [(.int (0 : Int32))])) _
        refine XS.ifYes X177.here hx rfl (pc0 := 170) (pc' := 180) rfl (hb hby at_170) rfl ((if0 _ _).trans (teq (by decide : (0 : Int32) = (0 : Int32))).1) (by decide) (by decide) ?_
        show Steps p.tables e below (T177.setTop (mkF m 180 #[.val (.int p1), .val (.int p2), .val (.int p3), .val (.int p4), .val (.int p5), .val (.int p6), .val (.int (0 : Int32)), .val (.int rr2), .val (.int bb2), .val (.ref b7), .val (.ref s_REPETITION_UP_SIZE_DOWN), .val (.int xx), .val (.int yy), .val (.int (1 : Int32)), .val (.int (0 : Int32)), .unset, .unset] [])) _
        refine XS.iload X177.here hx rfl (hb hby at_180) rfl ?_
        show Steps p.tables e below (T177.setTop (mkF m 182 #[.val (.int p1), .val (.int p2), .val (.int p3), .val (.int p4), .val (.int p5), .val (.int p6), .val (.int (0 : Int32)), .val (.int rr2), .val (.int bb2), .val (.ref b7), .val (.ref s_REPETITION_UP_SIZE_DOWN), .val (.int xx), .val (.int yy), .val (.int (1 : Int32)), .val (.int (0 : Int32)), .unset, .unset] [(.int yy)])) _
        refine XS.ineg X177.here hx rfl (hb hby at_182) rfl ?_
        show Steps p.tables e below (T177.setTop (mkF m 183 #[.val (.int p1), .val (.int p2), .val (.int p3), .val (.int p4), .val (.int p5), .val (.int p6), .val (.int (0 : Int32)), .val (.int rr2), .val (.int bb2), .val (.ref b7), .val (.ref s_REPETITION_UP_SIZE_DOWN), .val (.int xx), .val (.int yy), .val (.int (1 : Int32)), .val (.int (0 : Int32)), .unset, .unset] [(.int (-yy))])) _
        refine XS.istore X177.here hx rfl (hb hby at_183) rfl (l' := #[.val (.int p1), .val (.int p2), .val (.int p3), .val (.int p4), .val (.int p5), .val (.int p6), .val (.int (0 : Int32)), .val (.int rr2), .val (.int bb2), .val (.ref b7), .val (.ref s_REPETITION_UP_SIZE_DOWN), .val (.int xx), .val (.int yy), .val (.int (1 : Int32)), .val (.int (0 : Int32)), .val (.int (-yy)), .unset]) rfl ?_
        show Steps p.tables e below (T177.setTop (mkF m 185 #[.val (.int p1), .val (.int p2), .val (.int p3), .val (.int p4), .val (.int p5), .val (.int p6), .val (.int (0 : Int32)), .val (.int rr2), .val (.int bb2), .val (.ref b7), .val (.ref s_REPETITION_UP_SIZE_DOWN), .val (.int xx), .val (.int yy), .val (.int (1 : Int32)), .val (.int (0 : Int32)), .val (.int (-yy)), .unset] [])) _
        refine XS.aload X177.here hx rfl (hb hby at_185) rfl rfl ?_
        show Steps p.tables e below (T177.setTop (mkF m 187 #[.val (.int p1), .val (.int p2), .val (.int p3), .val (.int p4), .val (.int p5), .val (.int p6), .val (.int (0 : Int32)), .val (.int rr2), .val (.int bb2), .val (.ref b7), .val (.ref s_REPETITION_UP_SIZE_DOWN), .val (.int xx), .val (.int yy), .val (.int (1 : Int32)), .val (.int (0 : Int32)), .val (.int (-yy)), .unset] [(.ref s_REPETITION_UP_SIZE_DOWN)])) _
        refine XS.iloadN X177.here hx rfl (hb hby at_187) rfl ?_
        show Steps p.tables e below (T177.setTop (mkF m 188 #[.val (.int p1), .val (.int p2), .val (.int p3), .val (.int p4), .val (.int p5), .val (.int p6), .val (.int (0 : Int32)), .val (.int rr2), .val (.int bb2), .val (.ref b7), .val (.ref s_REPETITION_UP_SIZE_DOWN), .val (.int xx), .val (.int yy), .val (.int (1 : Int32)), .val (.int (0 : Int32)), .val (.int (-yy)), .unset] [(.int p2), (.ref s_REPETITION_UP_SIZE_DOWN)])) _
        refine XS.iloadN X177.here hx rfl (hb hby at_188) rfl ?_
        show Steps p.tables e below (T177.setTop (mkF m 189 #[.val (.int p1), .val (.int p2), .val (.int p3), .val (.int p4), .val (.int p5), .val (.int p6), .val (.int (0 : Int32)), .val (.int rr2), .val (.int bb2), .val (.ref b7), .val (.ref s_REPETITION_UP_SIZE_DOWN), .val (.int xx), .val (.int yy), .val (.int (1 : Int32)), .val (.int (0 : Int32)), .val (.int (-yy)), .unset] [(.int p3), (.int p2), (.ref s_REPETITION_UP_SIZE_DOWN)])) _
        refine XS.iload X177.here hx rfl (hb hby at_189) rfl ?_
        show Steps p.tables e below (T177.setTop (mkF m 191 #[.val (.int p1), .val (.int p2), .val (.int p3), .val (.int p4), .val (.int p5), .val (.int p6), .val (.int (0 : Int32)), .val (.int rr2), .val (.int bb2), .val (.ref b7), .val (.ref s_REPETITION_UP_SIZE_DOWN), .val (.int xx), .val (.int yy), .val (.int (1 : Int32)), .val (.int (0 : Int32)), .val (.int (-yy)), .unset] [(.int rr2), (.int p3), (.int p2), (.ref s_REPETITION_UP_SIZE_DOWN)])) _
        refine XS.iload X177.here hx rfl (hb hby at_191) rfl ?_
        show Steps p.tables e below (T177.setTop (mkF m 193 #[.val (.int p1), .val (.int p2), .val (.int p3), .val (.int p4), .val (.int p5), .val (.int p6), .val (.int (0 : Int32)), .val (.int rr2), .val (.int bb2), .val (.ref b7), .val (.ref s_REPETITION_UP_SIZE_DOWN), .val (.int xx), .val (.int yy), .val (.int (1 : Int32)), .val (.int (0 : Int32)), .val (.int (-yy)), .unset] [(.int bb2), (.int rr2), (.int p3), (.int p2), (.ref s_REPETITION_UP_SIZE_DOWN)])) _
        exact kt
      obtain ⟨cq181, kq181, q181a, q181b, q181c⟩ := isOf hZ e177 F161_145
      obtain ⟨_, _, ⟨T181, L181, k181, n181⟩, -, X181, ⟨Lc181, hQ181, l181, y181, z181⟩, st181⟩ := X177.virtualBack hx (y := (⟨"com/example/starling/starling/schedule/MessageOrder", "compare", "(IIII)I"⟩ : MethodName)) (z := (⟨"com/example/starling/starling/schedule/MessageOrder", "compare", "(IIII)I"⟩ : MethodName)) hown (mvT hZ (hw _ (mgE 19 rfl))) (mvT hZ (hw _ (mgE 20 rfl))) (notFace_of_selects (args := #[]) (mvT hZ (hw _ (mgE 22 rfl)))) (mvT hZ (hw _ (mgE 22 rfl))) (mvT hZ (hw _ (mgE 21 rfl))) (by decide) (backOf (W := 0) (rm2 l Z a0 hw [] s_REPETITION_UP_SIZE_DOWN p2 p3 rr2 bb2 (1 : Int32) (-1 : Int32) h145 n0 Z145 F147_145 F148_145) hZ (hw _ (mgE 23 rfl)) (hw _ (mgE 4 rfl)) (by decide) (by decide)) q181a q181c (g := (mkF m 193 #[.val (.int p1), .val (.int p2), .val (.int p3), .val (.int p4), .val (.int p5), .val (.int p6), .val (.int (0 : Int32)), .val (.int rr2), .val (.int bb2), .val (.ref b7), .val (.ref s_REPETITION_UP_SIZE_DOWN), .val (.int xx), .val (.int yy), .val (.int (1 : Int32)), .val (.int (0 : Int32)), .val (.int (-yy)), .unset] [(.int bb2), (.int rr2), (.int p3), (.int p2), (.ref s_REPETITION_UP_SIZE_DOWN)])) rfl (by rw [hml]; rfl) (Steps.refl _) (argsL := [(.int p2), (.int p3), (.int rr2), (.int bb2)]) (rest := []) (lenOf pd__IIII_I rfl) rfl (by show 2 * 0 + _ ≤ _; exact Nat.le_of_eq rfl) (hb hby at_193) (fun _ _ => ⟨rfl, e177, (by decide : 1 + 0 ≤ _), (by decide : 5 + 0 ≤ _)⟩)
      dsimp only [Pt.U, Pt.locs, Pt.cells, Pt.slots] at X181 l181 y181 z181 st181 hQ181
      subst l181 y181 z181
      obtain ⟨rfl, N181q, e181⟩ := hQ181
      have pre182 : ∀ t, Steps p.tables e below (T181.setTop (mkF m 196 #[.val (.int p1), .val (.int p2), .val (.int p3), .val (.int p4), .val (.int p5), .val (.int p6), .val (.int (0 : Int32)), .val (.int rr2), .val (.int bb2), .val (.ref b7), .val (.ref s_REPETITION_UP_SIZE_DOWN), .val (.int xx), .val (.int yy), .val (.int (1 : Int32)), .val (.int (0 : Int32)), .val (.int (-yy)), .unset] [(.int (r2 p2 p3 rr2 bb2 (1 : Int32) (-1 : Int32)))])) t → Steps p.tables e below (s₁.setTop (entryFrame m #[(.int p1), (.int p2), (.int p3), (.int p4), (.int p5), (.int p6)] maxLocals)) t := fun t kt => pre180 t (st181.trans kt)
      have N181 := Fr.app N177 N181q
      have pre183 : ∀ t, Steps p.tables e below (T181.setTop (mkF m 200 #[.val (.int p1), .val (.int p2), .val (.int p3), .val (.int p4), .val (.int p5), .val (.int p6), .val (.int (0 : Int32)), .val (.int rr2), .val (.int bb2), .val (.ref b7), .val (.ref s_REPETITION_UP_SIZE_DOWN), .val (.int xx), .val (.int yy), .val (.int (1 : Int32)), .val (.int (0 : Int32)), .val (.int (-yy)), .val (.int (r2 p2 p3 rr2 bb2 (1 : Int32) (-1 : Int32)))] [(.int (r2 p2 p3 rr2 bb2 (1 : Int32) (-1 : Int32)))])) t → Steps p.tables e below (s₁.setTop (entryFrame m #[(.int p1), (.int p2), (.int p3), (.int p4), (.int p5), (.int p6)] maxLocals)) t := fun t kt => by
        refine pre182 t ?_
        refine XS.istore X181.here hx rfl (hb hby at_196) rfl (l' := #[.val (.int p1), .val (.int p2), .val (.int p3), .val (.int p4), .val (.int p5), .val (.int p6), .val (.int (0 : Int32)), .val (.int rr2), .val (.int bb2), .val (.ref b7), .val (.ref s_REPETITION_UP_SIZE_DOWN), .val (.int xx), .val (.int yy), .val (.int (1 : Int32)), .val (.int (0 : Int32)), .val (.int (-yy)), .val (.int (r2 p2 p3 rr2 bb2 (1 : Int32) (-1 : Int32)))]) rfl ?_
        show Steps p.tables e below (T181.setTop (mkF m 198 #[.val (.int p1), .val (.int p2), .val (.int p3), .val (.int p4), .val (.int p5), .val (.int p6), .val (.int (0 : Int32)), .val (.int rr2), .val (.int bb2), .val (.ref b7), .val (.ref s_REPETITION_UP_SIZE_DOWN), .val (.int xx), .val (.int yy), .val (.int (1 : Int32)), .val (.int (0 : Int32)), .val (.int (-yy)), .val (.int (r2 p2 p3 rr2 bb2 (1 : Int32) (-1 : Int32)))] [])) _
        refine XS.iload X181.here hx rfl (hb hby at_198) rfl ?_
        show Steps p.tables e below (T181.setTop (mkF m 200 #[.val (.int p1), .val (.int p2), .val (.int p3), .val (.int p4), .val (.int p5), .val (.int p6), .val (.int (0 : Int32)), .val (.int rr2), .val (.int bb2), .val (.ref b7), .val (.ref s_REPETITION_UP_SIZE_DOWN), .val (.int xx), .val (.int yy), .val (.int (1 : Int32)), .val (.int (0 : Int32)), .val (.int (-yy)), .val (.int (r2 p2 p3 rr2 bb2 (1 : Int32) (-1 : Int32)))] [(.int (r2 p2 p3 rr2 bb2 (1 : Int32) (-1 : Int32)))])) _
        exact kt
      obtain ⟨_, _, ⟨T184, L184, k184, n184⟩, -, X184, ⟨Lc184, hQ184, l184, y184, z184⟩, st184⟩ := Jvm.LawKit.callS X181 hx (y := (⟨"com/example/starling/starling/schedule/MessageOrderComparePinLaw", "sgn", "(I)I"⟩ : MethodName)) hown (mvT hZ (hw _ (mgE 32 rfl))) (mvT hZ (hw _ (mgE 33 rfl))) (mvT hZ (hw _ (mgE 17 rfl))) (mvT hZ (hw _ (mgE 34 rfl))) (by decide) (backOf (W := 0) (rm4 l Z a0 hw [] (r2 p2 p3 rr2 bb2 (1 : Int32) (-1 : Int32)) h145 n0 Z145 ) hZ (hw _ (mgE 34 rfl)) (hw _ (mgE 17 rfl)) (by decide) (by decide)) (g := (mkF m 200 #[.val (.int p1), .val (.int p2), .val (.int p3), .val (.int p4), .val (.int p5), .val (.int p6), .val (.int (0 : Int32)), .val (.int rr2), .val (.int bb2), .val (.ref b7), .val (.ref s_REPETITION_UP_SIZE_DOWN), .val (.int xx), .val (.int yy), .val (.int (1 : Int32)), .val (.int (0 : Int32)), .val (.int (-yy)), .val (.int (r2 p2 p3 rr2 bb2 (1 : Int32) (-1 : Int32)))] [(.int (r2 p2 p3 rr2 bb2 (1 : Int32) (-1 : Int32)))])) rfl (by rw [hml]; rfl) (argsL := [(.int (r2 p2 p3 rr2 bb2 (1 : Int32) (-1 : Int32)))]) (rest := []) (lenOf pd__I_I rfl) rfl (by show 2 * 0 + _ ≤ _; exact Nat.le_of_eq rfl) (hb hby at_200) (fun _ _ => ⟨rfl, e181, (by decide : 1 + 0 ≤ _), (by decide : 5 + 0 ≤ _)⟩)
      dsimp only [Pt.U, Pt.locs, Pt.cells, Pt.slots] at X184 l184 y184 z184 st184 hQ184
      subst l184 y184 z184
      obtain ⟨rfl, N184q, e184⟩ := hQ184
      have pre185 : ∀ t, Steps p.tables e below (T184.setTop (mkF m 203 #[.val (.int p1), .val (.int p2), .val (.int p3), .val (.int p4), .val (.int p5), .val (.int p6), .val (.int (0 : Int32)), .val (.int rr2), .val (.int bb2), .val (.ref b7), .val (.ref s_REPETITION_UP_SIZE_DOWN), .val (.int xx), .val (.int yy), .val (.int (1 : Int32)), .val (.int (0 : Int32)), .val (.int (-yy)), .val (.int (r2 p2 p3 rr2 bb2 (1 : Int32) (-1 : Int32)))] [(.int (r4 (r2 p2 p3 rr2 bb2 (1 : Int32) (-1 : Int32))))])) t → Steps p.tables e below (s₁.setTop (entryFrame m #[(.int p1), (.int p2), (.int p3), (.int p4), (.int p5), (.int p6)] maxLocals)) t := fun t kt => pre183 t (st184 t kt)
      have N184 := Fr.app N181 N184q
      have hc205 : (r4 (r2 p2 p3 rr2 bb2 (1 : Int32) (-1 : Int32))) = (-yy) := by rw [own_cmp _ _ _ _ _ _ _ _ h_xx h_yy]; rcases hxx with rfl | rfl | rfl <;> rcases hyy with rfl | rfl | rfl <;> first | decide | (exfalso; revert hc145; decide)
      have pre186 : ∀ t, Steps p.tables e below (T184.setTop (mkF m 213 #[.val (.int p1), .val (.int p2), .val (.int p3), .val (.int p4), .val (.int p5), .val (.int p6), .val (.int (0 : Int32)), .val (.int rr2), .val (.int bb2), .val (.ref b7), .val (.ref s_REPETITION_UP_SIZE_DOWN), .val (.int xx), .val (.int yy), .val (.int (1 : Int32)), .val (.int (0 : Int32)), .val (.int (-yy)), .val (.int (r2 p2 p3 rr2 bb2 (1 : Int32) (-1 : Int32)))] [(.int (1 : Int32))])) t → Steps p.tables e below (s₁.setTop (entryFrame m #[(.int p1), (.int p2), (.int p3), (.int p4), (.int p5), (.int p6)] maxLocals)) t := fun t kt => by
        refine pre185 t ?_
        refine XS.iload X184.here hx rfl (hb hby at_203) rfl ?_
        show Steps p.tables e below (T184.setTop (mkF m 205 #[.val (.int p1), .val (.int p2), .val (.int p3), .val (.int p4), .val (.int p5), .val (.int p6), .val (.int (0 : Int32)), .val (.int rr2), .val (.int bb2), .val (.ref b7), .val (.ref s_REPETITION_UP_SIZE_DOWN), .val (.int xx), .val (.int yy), .val (.int (1 : Int32)), .val (.int (0 : Int32)), .val (.int (-yy)), .val (.int (r2 p2 p3 rr2 bb2 (1 : Int32) (-1 : Int32)))] [(.int (-yy)), (.int (r4 (r2 p2 p3 rr2 bb2 (1 : Int32) (-1 : Int32))))])) _
        refine XS.icmpNo X184.here hx rfl (hb hby at_205) rfl (teq hc205).2 ?_
        show Steps p.tables e below (T184.setTop (mkF m 208 #[.val (.int p1), .val (.int p2), .val (.int p3), .val (.int p4), .val (.int p5), .val (.int p6), .val (.int (0 : Int32)), .val (.int rr2), .val (.int bb2), .val (.ref b7), .val (.ref s_REPETITION_UP_SIZE_DOWN), .val (.int xx), .val (.int yy), .val (.int (1 : Int32)), .val (.int (0 : Int32)), .val (.int (-yy)), .val (.int (r2 p2 p3 rr2 bb2 (1 : Int32) (-1 : Int32)))] [])) _
        refine XS.iconst X184.here hx rfl (hb hby at_208) ?_
        show Steps p.tables e below (T184.setTop (mkF m 209 #[.val (.int p1), .val (.int p2), .val (.int p3), .val (.int p4), .val (.int p5), .val (.int p6), .val (.int (0 : Int32)), .val (.int rr2), .val (.int bb2), .val (.ref b7), .val (.ref s_REPETITION_UP_SIZE_DOWN), .val (.int xx), .val (.int yy), .val (.int (1 : Int32)), .val (.int (0 : Int32)), .val (.int (-yy)), .val (.int (r2 p2 p3 rr2 bb2 (1 : Int32) (-1 : Int32)))] [(.int (1 : Int32))])) _
        refine XS.goto X184.here hx rfl (pc0 := 209) (pc' := 213) rfl (hb hby at_209) (by decide) (by decide) ?_
        show Steps p.tables e below (T184.setTop (mkF m 213 #[.val (.int p1), .val (.int p2), .val (.int p3), .val (.int p4), .val (.int p5), .val (.int p6), .val (.int (0 : Int32)), .val (.int rr2), .val (.int bb2), .val (.ref b7), .val (.ref s_REPETITION_UP_SIZE_DOWN), .val (.int xx), .val (.int yy), .val (.int (1 : Int32)), .val (.int (0 : Int32)), .val (.int (-yy)), .val (.int (r2 p2 p3 rr2 bb2 (1 : Int32) (-1 : Int32)))] [(.int (1 : Int32))])) _
        exact kt
      obtain ⟨fs, hr, hrun, hended, hW, hsame⟩ := X184.leave (v := some (.int (1 : Int32))) (fun h => by rw [Bd.returns] at h; cases h)
      refine ⟨_, _, pre186 _ ?_, hrun, hended, _, _, rfl, ?_, ⟨_, rfl⟩, hW, hsame.mono (by decide) (by decide)⟩
      · exact retN X184 hx (t := .boolean) Bd.returns (by simp) (hb hby at_213) hr
      · show Q0 Z p1 p2 p3 p4 p5 p6 s_REPETITION_UP_SIZE_DOWN s_REPETITION_UP_SIZE_UP s_REPETITION_DOWN_SIZE_DOWN s_REPETITION_DOWN_SIZE_UP s_INPUT h0 n0 _ T184.heap _
        rw [e184]
        exact ⟨rfl, N184⟩
    · skip
      have pre187 : ∀ t, Steps p.tables e below (T177.setTop (mkF m 193 #[.val (.int p1), .val (.int p2), .val (.int p3), .val (.int p4), .val (.int p5), .val (.int p6), .val (.int (0 : Int32)), .val (.int rr2), .val (.int bb2), .val (.ref b7), .val (.ref s_REPETITION_UP_SIZE_DOWN), .val (.int xx), .val (.int yy), .val (.int (1 : Int32)), .val (.int (0 : Int32)), .val (.int xx), .unset] [(.int bb2), (.int rr2), (.int p3), (.int p2), (.ref s_REPETITION_UP_SIZE_DOWN)])) t → Steps p.tables e below (s₁.setTop (entryFrame m #[(.int p1), (.int p2), (.int p3), (.int p4), (.int p5), (.int p6)] maxLocals)) t := fun t kt => by
        refine pre179 t ?_
        refine XS.iload X177.here hx rfl (hb hby at_94) rfl ?_
        show Steps p.tables e below (T177.setTop (mkF m 96 #[.val (.int p1), .val (.int p2), .val (.int p3), .val (.int p4), .val (.int p5), .val (.int p6), .val (.int (0 : Int32)), .val (.int rr2), .val (.int bb2), .val (.ref b7), .val (.ref s_REPETITION_UP_SIZE_DOWN), .val (.int xx), .val (.int yy), .unset, .unset, .unset, .unset] [(.int (0 : Int32))])) _
        refine XS.ifYes X177.here hx rfl (pc0 := 96) (pc' := 105) rfl (hb hby at_96) rfl ((if0 _ _).trans (teq (by decide : (0 : Int32) = (0 : Int32))).1) (by decide) (by decide) ?_
        show Steps p.tables e below (T177.setTop (mkF m 105 #[.val (.int p1), .val (.int p2), .val (.int p3), .val (.int p4), .val (.int p5), .val (.int p6), .val (.int (0 : Int32)), .val (.int rr2), .val (.int bb2), .val (.ref b7), .val (.ref s_REPETITION_UP_SIZE_DOWN), .val (.int xx), .val (.int yy), .unset, .unset, .unset, .unset] [])) _
        refine XS.iconst X177.here hx rfl (hb hby at_105) ?_
        show Steps p.tables e below (T177.setTop (mkF m 106 #[.val (.int p1), .val (.int p2), .val (.int p3), .val (.int p4), .val (.int p5), .val (.int p6), .val (.int (0 : Int32)), .val (.int rr2), .val (.int bb2), .val (.ref b7), .val (.ref s_REPETITION_UP_SIZE_DOWN), .val (.int xx), .val (.int yy), .unset, .unset, .unset, .unset] [(.int (1 : Int32))])) _
        refine XS.goto X177.here hx rfl (pc0 := 106) (pc' := 110) rfl (hb hby at_106) (by decide) (by decide) ?_
        show Steps p.tables e below (T177.setTop (mkF m 110 #[.val (.int p1), .val (.int p2), .val (.int p3), .val (.int p4), .val (.int p5), .val (.int p6), .val (.int (0 : Int32)), .val (.int rr2), .val (.int bb2), .val (.ref b7), .val (.ref s_REPETITION_UP_SIZE_DOWN), .val (.int xx), .val (.int yy), .unset, .unset, .unset, .unset] [(.int (1 : Int32))])) _
        refine XS.istore X177.here hx rfl (hb hby at_110) rfl (l' := #[.val (.int p1), .val (.int p2), .val (.int p3), .val (.int p4), .val (.int p5), .val (.int p6), .val (.int (0 : Int32)), .val (.int rr2), .val (.int bb2), .val (.ref b7), .val (.ref s_REPETITION_UP_SIZE_DOWN), .val (.int xx), .val (.int yy), .val (.int (1 : Int32)), .unset, .unset, .unset]) rfl ?_
        show Steps p.tables e below (T177.setTop (mkF m 112 #[.val (.int p1), .val (.int p2), .val (.int p3), .val (.int p4), .val (.int p5), .val (.int p6), .val (.int (0 : Int32)), .val (.int rr2), .val (.int bb2), .val (.ref b7), .val (.ref s_REPETITION_UP_SIZE_DOWN), .val (.int xx), .val (.int yy), .val (.int (1 : Int32)), .unset, .unset, .unset] [])) _
        refine XS.iload X177.here hx rfl (hb hby at_112) rfl ?_
        show Steps p.tables e below (T177.setTop (mkF m 114 #[.val (.int p1), .val (.int p2), .val (.int p3), .val (.int p4), .val (.int p5), .val (.int p6), .val (.int (0 : Int32)), .val (.int rr2), .val (.int bb2), .val (.ref b7), .val (.ref s_REPETITION_UP_SIZE_DOWN), .val (.int xx), .val (.int yy), .val (.int (1 : Int32)), .unset, .unset, .unset] [(.int (0 : Int32))])) _
        refine XS.iconst X177.here hx rfl (hb hby at_114) ?_
        show Steps p.tables e below (T177.setTop (mkF m 115 #[.val (.int p1), .val (.int p2), .val (.int p3), .val (.int p4), .val (.int p5), .val (.int p6), .val (.int (0 : Int32)), .val (.int rr2), .val (.int bb2), .val (.ref b7), .val (.ref s_REPETITION_UP_SIZE_DOWN), .val (.int xx), .val (.int yy), .val (.int (1 : Int32)), .unset, .unset, .unset] [(.int (1 : Int32)), (.int (0 : Int32))])) _
        refine XS.icmpNo X177.here hx rfl (hb hby at_115) rfl (feq (by decide : ¬ ((0 : Int32) = (1 : Int32)))).1 ?_
        show Steps p.tables e below (T177.setTop (mkF m 118 #[.val (.int p1), .val (.int p2), .val (.int p3), .val (.int p4), .val (.int p5), .val (.int p6), .val (.int (0 : Int32)), .val (.int rr2), .val (.int bb2), .val (.ref b7), .val (.ref s_REPETITION_UP_SIZE_DOWN), .val (.int xx), .val (.int yy), .val (.int (1 : Int32)), .unset, .unset, .unset] [])) _
        refine XS.iload X177.here hx rfl (hb hby at_118) rfl ?_
        show Steps p.tables e below (T177.setTop (mkF m 120 #[.val (.int p1), .val (.int p2), .val (.int p3), .val (.int p4), .val (.int p5), .val (.int p6), .val (.int (0 : Int32)), .val (.int rr2), .val (.int bb2), .val (.ref b7), .val (.ref s_REPETITION_UP_SIZE_DOWN), .val (.int xx), .val (.int yy), .val (.int (1 : Int32)), .unset, .unset, .unset] [(.int (0 : Int32))])) _
        refine XS.iconst X177.here hx rfl (hb hby at_120) ?_
        show Steps p.tables e below (T177.setTop (mkF m 121 #[.val (.int p1), .val (.int p2), .val (.int p3), .val (.int p4), .val (.int p5), .val (.int p6), .val (.int (0 : Int32)), .val (.int rr2), .val (.int bb2), .val (.ref b7), .val (.ref s_REPETITION_UP_SIZE_DOWN), .val (.int xx), .val (.int yy), .val (.int (1 : Int32)), .unset, .unset, .unset] [(.int (3 : Int32)), (.int (0 : Int32))])) _
        refine XS.icmpYes X177.here hx rfl (pc0 := 121) (pc' := 128) rfl (hb hby at_121) rfl (feq (by decide : ¬ ((0 : Int32) = (3 : Int32)))).2 (by decide) (by decide) ?_
        show Steps p.tables e below (T177.setTop (mkF m 128 #[.val (.int p1), .val (.int p2), .val (.int p3), .val (.int p4), .val (.int p5), .val (.int p6), .val (.int (0 : Int32)), .val (.int rr2), .val (.int bb2), .val (.ref b7), .val (.ref s_REPETITION_UP_SIZE_DOWN), .val (.int xx), .val (.int yy), .val (.int (1 : Int32)), .unset, .unset, .unset] [])) _
        refine XS.iconst X177.here hx rfl (hb hby at_128) ?_
        show Steps p.tables e below (T177.setTop (mkF m 129 #[.val (.int p1), .val (.int p2), .val (.int p3), .val (.int p4), .val (.int p5), .val (.int p6), .val (.int (0 : Int32)), .val (.int rr2), .val (.int bb2), .val (.ref b7), .val (.ref s_REPETITION_UP_SIZE_DOWN), .val (.int xx), .val (.int yy), .val (.int (1 : Int32)), .unset, .unset, .unset] [(.int (0 : Int32))])) _
        refine XS.istore X177.here hx rfl (hb hby at_129) rfl (l' := #[.val (.int p1), .val (.int p2), .val (.int p3), .val (.int p4), .val (.int p5), .val (.int p6), .val (.int (0 : Int32)), .val (.int rr2), .val (.int bb2), .val (.ref b7), .val (.ref s_REPETITION_UP_SIZE_DOWN), .val (.int xx), .val (.int yy), .val (.int (1 : Int32)), .val (.int (0 : Int32)), .unset, .unset]) rfl ?_
        show Steps p.tables e below (T177.setTop (mkF m 131 #[.val (.int p1), .val (.int p2), .val (.int p3), .val (.int p4), .val (.int p5), .val (.int p6), .val (.int (0 : Int32)), .val (.int rr2), .val (.int bb2), .val (.ref b7), .val (.ref s_REPETITION_UP_SIZE_DOWN), .val (.int xx), .val (.int yy), .val (.int (1 : Int32)), .val (.int (0 : Int32)), .unset, .unset] [])) _
        refine XS.iload X177.here hx rfl (hb hby at_131) rfl ?_
        show Steps p.tables e below (T177.setTop (mkF m 133 #[.val (.int p1), .val (.int p2), .val (.int p3), .val (.int p4), .val (.int p5), .val (.int p6), .val (.int (0 : Int32)), .val (.int rr2), .val (.int bb2), .val (.ref b7), .val (.ref s_REPETITION_UP_SIZE_DOWN), .val (.int xx), .val (.int yy), .val (.int (1 : Int32)), .val (.int (0 : Int32)), .unset, .unset] [(.int (0 : Int32))])) _
        refine XS.iconst X177.here hx rfl (hb hby at_133) ?_
        show Steps p.tables e below (T177.setTop (mkF m 134 #[.val (.int p1), .val (.int p2), .val (.int p3), .val (.int p4), .val (.int p5), .val (.int p6), .val (.int (0 : Int32)), .val (.int rr2), .val (.int bb2), .val (.ref b7), .val (.ref s_REPETITION_UP_SIZE_DOWN), .val (.int xx), .val (.int yy), .val (.int (1 : Int32)), .val (.int (0 : Int32)), .unset, .unset] [(.int (4 : Int32)), (.int (0 : Int32))])) _
        refine XS.icmpYes X177.here hx rfl (pc0 := 134) (pc' := 143) rfl (hb hby at_134) rfl (feq (by decide : ¬ ((0 : Int32) = (4 : Int32)))).2 (by decide) (by decide) ?_
        show Steps p.tables e below (T177.setTop (mkF m 143 #[.val (.int p1), .val (.int p2), .val (.int p3), .val (.int p4), .val (.int p5), .val (.int p6), .val (.int (0 : Int32)), .val (.int rr2), .val (.int bb2), .val (.ref b7), .val (.ref s_REPETITION_UP_SIZE_DOWN), .val (.int xx), .val (.int yy), .val (.int (1 : Int32)), .val (.int (0 : Int32)), .unset, .unset] [])) _
        refine XS.iload X177.here hx rfl (hb hby at_143) rfl ?_
        show Steps p.tables e below (T177.setTop (mkF m 145 #[.val (.int p1), .val (.int p2), .val (.int p3), .val (.int p4), .val (.int p5), .val (.int p6), .val (.int (0 : Int32)), .val (.int rr2), .val (.int bb2), .val (.ref b7), .val (.ref s_REPETITION_UP_SIZE_DOWN), .val (.int xx), .val (.int yy), .val (.int (1 : Int32)), .val (.int (0 : Int32)), .unset, .unset] [(.int xx)])) _
        refine XS.ifNo X177.here hx rfl (hb hby at_145) rfl ((if0 _ _).trans (feq hc145).1) ?_
        show Steps p.tables e below (T177.setTop (mkF m 148 #[.val (.int p1), .val (.int p2), .val (.int p3), .val (.int p4), .val (.int p5), .val (.int p6), .val (.int (0 : Int32)), .val (.int rr2), .val (.int bb2), .val (.ref b7), .val (.ref s_REPETITION_UP_SIZE_DOWN), .val (.int xx), .val (.int yy), .val (.int (1 : Int32)), .val (.int (0 : Int32)), .unset, .unset] [])) _
        refine XS.iload X177.here hx rfl (hb hby at_148) rfl ?_
        show Steps p.tables e below (T177.setTop (mkF m 150 #[.val (.int p1), .val (.int p2), .val (.int p3), .val (.int p4), .val (.int p5), .val (.int p6), .val (.int (0 : Int32)), .val (.int rr2), .val (.int bb2), .val (.ref b7), .val (.ref s_REPETITION_UP_SIZE_DOWN), .val (.int xx), .val (.int yy), .val (.int (1 : Int32)), .val (.int (0 : Int32)), .unset, .unset] [(.int (1 : Int32))])) _
        refine XS.ifNo X177.here hx rfl (hb hby at_150) rfl ((if0 _ _).trans (feq (by decide : ¬ ((1 : Int32) = (0 : Int32)))).1) ?_
        show Steps p.tables e below (T177.setTop (mkF m 153 #[.val (.int p1), .val (.int p2), .val (.int p3), .val (.int p4), .val (.int p5), .val (.int p6), .val (.int (0 : Int32)), .val (.int rr2), .val (.int bb2), .val (.ref b7), .val (.ref s_REPETITION_UP_SIZE_DOWN), .val (.int xx), .val (.int yy), .val (.int (1 : Int32)), .val (.int (0 : Int32)), .unset, .unset] [])) _
        refine XS.iload X177.here hx rfl (hb hby at_153) rfl ?_
        show Steps p.tables e below (T177.setTop (mkF m 155 #[.val (.int p1), .val (.int p2), .val (.int p3), .val (.int p4), .val (.int p5), .val (.int p6), .val (.int (0 : Int32)), .val (.int rr2), .val (.int bb2), .val (.ref b7), .val (.ref s_REPETITION_UP_SIZE_DOWN), .val (.int xx), .val (.int yy), .val (.int (1 : Int32)), .val (.int (0 : Int32)), .unset, .unset] [(.int xx)])) _
        refine XS.istore X177.here hx rfl (hb hby at_155) rfl (l' := #[.val (.int p1), .val (.int p2), .val (.int p3), .val (.int p4), .val (.int p5), .val (.int p6), .val (.int (0 : Int32)), .val (.int rr2), .val (.int bb2), .val (.ref b7), .val (.ref s_REPETITION_UP_SIZE_DOWN), .val (.int xx), .val (.int yy), .val (.int (1 : Int32)), .val (.int (0 : Int32)), .val (.int xx), .unset]) rfl ?_
        show Steps p.tables e below (T177.setTop (mkF m 157 #[.val (.int p1), .val (.int p2), .val (.int p3), .val (.int p4), .val (.int p5), .val (.int p6), .val (.int (0 : Int32)), .val (.int rr2), .val (.int bb2), .val (.ref b7), .val (.ref s_REPETITION_UP_SIZE_DOWN), .val (.int xx), .val (.int yy), .val (.int (1 : Int32)), .val (.int (0 : Int32)), .val (.int xx), .unset] [])) _
        refine XS.goto X177.here hx rfl (pc0 := 157) (pc' := 185) rfl (hb hby at_157) (by decide) (by decide) ?_
        show Steps p.tables e below (T177.setTop (mkF m 185 #[.val (.int p1), .val (.int p2), .val (.int p3), .val (.int p4), .val (.int p5), .val (.int p6), .val (.int (0 : Int32)), .val (.int rr2), .val (.int bb2), .val (.ref b7), .val (.ref s_REPETITION_UP_SIZE_DOWN), .val (.int xx), .val (.int yy), .val (.int (1 : Int32)), .val (.int (0 : Int32)), .val (.int xx), .unset] [])) _
        refine XS.aload X177.here hx rfl (hb hby at_185) rfl rfl ?_
        show Steps p.tables e below (T177.setTop (mkF m 187 #[.val (.int p1), .val (.int p2), .val (.int p3), .val (.int p4), .val (.int p5), .val (.int p6), .val (.int (0 : Int32)), .val (.int rr2), .val (.int bb2), .val (.ref b7), .val (.ref s_REPETITION_UP_SIZE_DOWN), .val (.int xx), .val (.int yy), .val (.int (1 : Int32)), .val (.int (0 : Int32)), .val (.int xx), .unset] [(.ref s_REPETITION_UP_SIZE_DOWN)])) _
        refine XS.iloadN X177.here hx rfl (hb hby at_187) rfl ?_
        show Steps p.tables e below (T177.setTop (mkF m 188 #[.val (.int p1), .val (.int p2), .val (.int p3), .val (.int p4), .val (.int p5), .val (.int p6), .val (.int (0 : Int32)), .val (.int rr2), .val (.int bb2), .val (.ref b7), .val (.ref s_REPETITION_UP_SIZE_DOWN), .val (.int xx), .val (.int yy), .val (.int (1 : Int32)), .val (.int (0 : Int32)), .val (.int xx), .unset] [(.int p2), (.ref s_REPETITION_UP_SIZE_DOWN)])) _
        refine XS.iloadN X177.here hx rfl (hb hby at_188) rfl ?_
        show Steps p.tables e below (T177.setTop (mkF m 189 #[.val (.int p1), .val (.int p2), .val (.int p3), .val (.int p4), .val (.int p5), .val (.int p6), .val (.int (0 : Int32)), .val (.int rr2), .val (.int bb2), .val (.ref b7), .val (.ref s_REPETITION_UP_SIZE_DOWN), .val (.int xx), .val (.int yy), .val (.int (1 : Int32)), .val (.int (0 : Int32)), .val (.int xx), .unset] [(.int p3), (.int p2), (.ref s_REPETITION_UP_SIZE_DOWN)])) _
        refine XS.iload X177.here hx rfl (hb hby at_189) rfl ?_
        show Steps p.tables e below (T177.setTop (mkF m 191 #[.val (.int p1), .val (.int p2), .val (.int p3), .val (.int p4), .val (.int p5), .val (.int p6), .val (.int (0 : Int32)), .val (.int rr2), .val (.int bb2), .val (.ref b7), .val (.ref s_REPETITION_UP_SIZE_DOWN), .val (.int xx), .val (.int yy), .val (.int (1 : Int32)), .val (.int (0 : Int32)), .val (.int xx), .unset] [(.int rr2), (.int p3), (.int p2), (.ref s_REPETITION_UP_SIZE_DOWN)])) _
        refine XS.iload X177.here hx rfl (hb hby at_191) rfl ?_
        show Steps p.tables e below (T177.setTop (mkF m 193 #[.val (.int p1), .val (.int p2), .val (.int p3), .val (.int p4), .val (.int p5), .val (.int p6), .val (.int (0 : Int32)), .val (.int rr2), .val (.int bb2), .val (.ref b7), .val (.ref s_REPETITION_UP_SIZE_DOWN), .val (.int xx), .val (.int yy), .val (.int (1 : Int32)), .val (.int (0 : Int32)), .val (.int xx), .unset] [(.int bb2), (.int rr2), (.int p3), (.int p2), (.ref s_REPETITION_UP_SIZE_DOWN)])) _
        exact kt
      obtain ⟨cq188, kq188, q188a, q188b, q188c⟩ := isOf hZ e177 F161_145
      obtain ⟨_, _, ⟨T188, L188, k188, n188⟩, -, X188, ⟨Lc188, hQ188, l188, y188, z188⟩, st188⟩ := X177.virtualBack hx (y := (⟨"com/example/starling/starling/schedule/MessageOrder", "compare", "(IIII)I"⟩ : MethodName)) (z := (⟨"com/example/starling/starling/schedule/MessageOrder", "compare", "(IIII)I"⟩ : MethodName)) hown (mvT hZ (hw _ (mgE 19 rfl))) (mvT hZ (hw _ (mgE 20 rfl))) (notFace_of_selects (args := #[]) (mvT hZ (hw _ (mgE 22 rfl)))) (mvT hZ (hw _ (mgE 22 rfl))) (mvT hZ (hw _ (mgE 21 rfl))) (by decide) (backOf (W := 0) (rm2 l Z a0 hw [] s_REPETITION_UP_SIZE_DOWN p2 p3 rr2 bb2 (1 : Int32) (-1 : Int32) h145 n0 Z145 F147_145 F148_145) hZ (hw _ (mgE 23 rfl)) (hw _ (mgE 4 rfl)) (by decide) (by decide)) q188a q188c (g := (mkF m 193 #[.val (.int p1), .val (.int p2), .val (.int p3), .val (.int p4), .val (.int p5), .val (.int p6), .val (.int (0 : Int32)), .val (.int rr2), .val (.int bb2), .val (.ref b7), .val (.ref s_REPETITION_UP_SIZE_DOWN), .val (.int xx), .val (.int yy), .val (.int (1 : Int32)), .val (.int (0 : Int32)), .val (.int xx), .unset] [(.int bb2), (.int rr2), (.int p3), (.int p2), (.ref s_REPETITION_UP_SIZE_DOWN)])) rfl (by rw [hml]; rfl) (Steps.refl _) (argsL := [(.int p2), (.int p3), (.int rr2), (.int bb2)]) (rest := []) (lenOf pd__IIII_I rfl) rfl (by show 2 * 0 + _ ≤ _; exact Nat.le_of_eq rfl) (hb hby at_193) (fun _ _ => ⟨rfl, e177, (by decide : 1 + 0 ≤ _), (by decide : 5 + 0 ≤ _)⟩)
      dsimp only [Pt.U, Pt.locs, Pt.cells, Pt.slots] at X188 l188 y188 z188 st188 hQ188
      subst l188 y188 z188
      obtain ⟨rfl, N188q, e188⟩ := hQ188
      have pre189 : ∀ t, Steps p.tables e below (T188.setTop (mkF m 196 #[.val (.int p1), .val (.int p2), .val (.int p3), .val (.int p4), .val (.int p5), .val (.int p6), .val (.int (0 : Int32)), .val (.int rr2), .val (.int bb2), .val (.ref b7), .val (.ref s_REPETITION_UP_SIZE_DOWN), .val (.int xx), .val (.int yy), .val (.int (1 : Int32)), .val (.int (0 : Int32)), .val (.int xx), .unset] [(.int (r2 p2 p3 rr2 bb2 (1 : Int32) (-1 : Int32)))])) t → Steps p.tables e below (s₁.setTop (entryFrame m #[(.int p1), (.int p2), (.int p3), (.int p4), (.int p5), (.int p6)] maxLocals)) t := fun t kt => pre187 t (st188.trans kt)
      have N188 := Fr.app N177 N188q
      have pre190 : ∀ t, Steps p.tables e below (T188.setTop (mkF m 200 #[.val (.int p1), .val (.int p2), .val (.int p3), .val (.int p4), .val (.int p5), .val (.int p6), .val (.int (0 : Int32)), .val (.int rr2), .val (.int bb2), .val (.ref b7), .val (.ref s_REPETITION_UP_SIZE_DOWN), .val (.int xx), .val (.int yy), .val (.int (1 : Int32)), .val (.int (0 : Int32)), .val (.int xx), .val (.int (r2 p2 p3 rr2 bb2 (1 : Int32) (-1 : Int32)))] [(.int (r2 p2 p3 rr2 bb2 (1 : Int32) (-1 : Int32)))])) t → Steps p.tables e below (s₁.setTop (entryFrame m #[(.int p1), (.int p2), (.int p3), (.int p4), (.int p5), (.int p6)] maxLocals)) t := fun t kt => by
        refine pre189 t ?_
        refine XS.istore X188.here hx rfl (hb hby at_196) rfl (l' := #[.val (.int p1), .val (.int p2), .val (.int p3), .val (.int p4), .val (.int p5), .val (.int p6), .val (.int (0 : Int32)), .val (.int rr2), .val (.int bb2), .val (.ref b7), .val (.ref s_REPETITION_UP_SIZE_DOWN), .val (.int xx), .val (.int yy), .val (.int (1 : Int32)), .val (.int (0 : Int32)), .val (.int xx), .val (.int (r2 p2 p3 rr2 bb2 (1 : Int32) (-1 : Int32)))]) rfl ?_
        show Steps p.tables e below (T188.setTop (mkF m 198 #[.val (.int p1), .val (.int p2), .val (.int p3), .val (.int p4), .val (.int p5), .val (.int p6), .val (.int (0 : Int32)), .val (.int rr2), .val (.int bb2), .val (.ref b7), .val (.ref s_REPETITION_UP_SIZE_DOWN), .val (.int xx), .val (.int yy), .val (.int (1 : Int32)), .val (.int (0 : Int32)), .val (.int xx), .val (.int (r2 p2 p3 rr2 bb2 (1 : Int32) (-1 : Int32)))] [])) _
        refine XS.iload X188.here hx rfl (hb hby at_198) rfl ?_
        show Steps p.tables e below (T188.setTop (mkF m 200 #[.val (.int p1), .val (.int p2), .val (.int p3), .val (.int p4), .val (.int p5), .val (.int p6), .val (.int (0 : Int32)), .val (.int rr2), .val (.int bb2), .val (.ref b7), .val (.ref s_REPETITION_UP_SIZE_DOWN), .val (.int xx), .val (.int yy), .val (.int (1 : Int32)), .val (.int (0 : Int32)), .val (.int xx), .val (.int (r2 p2 p3 rr2 bb2 (1 : Int32) (-1 : Int32)))] [(.int (r2 p2 p3 rr2 bb2 (1 : Int32) (-1 : Int32)))])) _
        exact kt
      obtain ⟨_, _, ⟨T191, L191, k191, n191⟩, -, X191, ⟨Lc191, hQ191, l191, y191, z191⟩, st191⟩ := Jvm.LawKit.callS X188 hx (y := (⟨"com/example/starling/starling/schedule/MessageOrderComparePinLaw", "sgn", "(I)I"⟩ : MethodName)) hown (mvT hZ (hw _ (mgE 32 rfl))) (mvT hZ (hw _ (mgE 33 rfl))) (mvT hZ (hw _ (mgE 17 rfl))) (mvT hZ (hw _ (mgE 34 rfl))) (by decide) (backOf (W := 0) (rm4 l Z a0 hw [] (r2 p2 p3 rr2 bb2 (1 : Int32) (-1 : Int32)) h145 n0 Z145 ) hZ (hw _ (mgE 34 rfl)) (hw _ (mgE 17 rfl)) (by decide) (by decide)) (g := (mkF m 200 #[.val (.int p1), .val (.int p2), .val (.int p3), .val (.int p4), .val (.int p5), .val (.int p6), .val (.int (0 : Int32)), .val (.int rr2), .val (.int bb2), .val (.ref b7), .val (.ref s_REPETITION_UP_SIZE_DOWN), .val (.int xx), .val (.int yy), .val (.int (1 : Int32)), .val (.int (0 : Int32)), .val (.int xx), .val (.int (r2 p2 p3 rr2 bb2 (1 : Int32) (-1 : Int32)))] [(.int (r2 p2 p3 rr2 bb2 (1 : Int32) (-1 : Int32)))])) rfl (by rw [hml]; rfl) (argsL := [(.int (r2 p2 p3 rr2 bb2 (1 : Int32) (-1 : Int32)))]) (rest := []) (lenOf pd__I_I rfl) rfl (by show 2 * 0 + _ ≤ _; exact Nat.le_of_eq rfl) (hb hby at_200) (fun _ _ => ⟨rfl, e188, (by decide : 1 + 0 ≤ _), (by decide : 5 + 0 ≤ _)⟩)
      dsimp only [Pt.U, Pt.locs, Pt.cells, Pt.slots] at X191 l191 y191 z191 st191 hQ191
      subst l191 y191 z191
      obtain ⟨rfl, N191q, e191⟩ := hQ191
      have pre192 : ∀ t, Steps p.tables e below (T191.setTop (mkF m 203 #[.val (.int p1), .val (.int p2), .val (.int p3), .val (.int p4), .val (.int p5), .val (.int p6), .val (.int (0 : Int32)), .val (.int rr2), .val (.int bb2), .val (.ref b7), .val (.ref s_REPETITION_UP_SIZE_DOWN), .val (.int xx), .val (.int yy), .val (.int (1 : Int32)), .val (.int (0 : Int32)), .val (.int xx), .val (.int (r2 p2 p3 rr2 bb2 (1 : Int32) (-1 : Int32)))] [(.int (r4 (r2 p2 p3 rr2 bb2 (1 : Int32) (-1 : Int32))))])) t → Steps p.tables e below (s₁.setTop (entryFrame m #[(.int p1), (.int p2), (.int p3), (.int p4), (.int p5), (.int p6)] maxLocals)) t := fun t kt => pre190 t (st191 t kt)
      have N191 := Fr.app N188 N191q
      have hc205 : (r4 (r2 p2 p3 rr2 bb2 (1 : Int32) (-1 : Int32))) = xx := by rw [own_cmp _ _ _ _ _ _ _ _ h_xx h_yy]; rcases hxx with rfl | rfl | rfl <;> rcases hyy with rfl | rfl | rfl <;> first | decide | (exfalso; revert hc145; decide)
      have pre193 : ∀ t, Steps p.tables e below (T191.setTop (mkF m 213 #[.val (.int p1), .val (.int p2), .val (.int p3), .val (.int p4), .val (.int p5), .val (.int p6), .val (.int (0 : Int32)), .val (.int rr2), .val (.int bb2), .val (.ref b7), .val (.ref s_REPETITION_UP_SIZE_DOWN), .val (.int xx), .val (.int yy), .val (.int (1 : Int32)), .val (.int (0 : Int32)), .val (.int xx), .val (.int (r2 p2 p3 rr2 bb2 (1 : Int32) (-1 : Int32)))] [(.int (1 : Int32))])) t → Steps p.tables e below (s₁.setTop (entryFrame m #[(.int p1), (.int p2), (.int p3), (.int p4), (.int p5), (.int p6)] maxLocals)) t := fun t kt => by
        refine pre192 t ?_
        refine XS.iload X191.here hx rfl (hb hby at_203) rfl ?_
        show Steps p.tables e below (T191.setTop (mkF m 205 #[.val (.int p1), .val (.int p2), .val (.int p3), .val (.int p4), .val (.int p5), .val (.int p6), .val (.int (0 : Int32)), .val (.int rr2), .val (.int bb2), .val (.ref b7), .val (.ref s_REPETITION_UP_SIZE_DOWN), .val (.int xx), .val (.int yy), .val (.int (1 : Int32)), .val (.int (0 : Int32)), .val (.int xx), .val (.int (r2 p2 p3 rr2 bb2 (1 : Int32) (-1 : Int32)))] [(.int xx), (.int (r4 (r2 p2 p3 rr2 bb2 (1 : Int32) (-1 : Int32))))])) _
        refine XS.icmpNo X191.here hx rfl (hb hby at_205) rfl (teq hc205).2 ?_
        show Steps p.tables e below (T191.setTop (mkF m 208 #[.val (.int p1), .val (.int p2), .val (.int p3), .val (.int p4), .val (.int p5), .val (.int p6), .val (.int (0 : Int32)), .val (.int rr2), .val (.int bb2), .val (.ref b7), .val (.ref s_REPETITION_UP_SIZE_DOWN), .val (.int xx), .val (.int yy), .val (.int (1 : Int32)), .val (.int (0 : Int32)), .val (.int xx), .val (.int (r2 p2 p3 rr2 bb2 (1 : Int32) (-1 : Int32)))] [])) _
        refine XS.iconst X191.here hx rfl (hb hby at_208) ?_
        show Steps p.tables e below (T191.setTop (mkF m 209 #[.val (.int p1), .val (.int p2), .val (.int p3), .val (.int p4), .val (.int p5), .val (.int p6), .val (.int (0 : Int32)), .val (.int rr2), .val (.int bb2), .val (.ref b7), .val (.ref s_REPETITION_UP_SIZE_DOWN), .val (.int xx), .val (.int yy), .val (.int (1 : Int32)), .val (.int (0 : Int32)), .val (.int xx), .val (.int (r2 p2 p3 rr2 bb2 (1 : Int32) (-1 : Int32)))] [(.int (1 : Int32))])) _
        refine XS.goto X191.here hx rfl (pc0 := 209) (pc' := 213) rfl (hb hby at_209) (by decide) (by decide) ?_
        show Steps p.tables e below (T191.setTop (mkF m 213 #[.val (.int p1), .val (.int p2), .val (.int p3), .val (.int p4), .val (.int p5), .val (.int p6), .val (.int (0 : Int32)), .val (.int rr2), .val (.int bb2), .val (.ref b7), .val (.ref s_REPETITION_UP_SIZE_DOWN), .val (.int xx), .val (.int yy), .val (.int (1 : Int32)), .val (.int (0 : Int32)), .val (.int xx), .val (.int (r2 p2 p3 rr2 bb2 (1 : Int32) (-1 : Int32)))] [(.int (1 : Int32))])) _
        exact kt
      obtain ⟨fs, hr, hrun, hended, hW, hsame⟩ := X191.leave (v := some (.int (1 : Int32))) (fun h => by rw [Bd.returns] at h; cases h)
      refine ⟨_, _, pre193 _ ?_, hrun, hended, _, _, rfl, ?_, ⟨_, rfl⟩, hW, hsame.mono (by decide) (by decide)⟩
      · exact retN X191 hx (t := .boolean) Bd.returns (by simp) (hb hby at_213) hr
      · show Q0 Z p1 p2 p3 p4 p5 p6 s_REPETITION_UP_SIZE_DOWN s_REPETITION_UP_SIZE_UP s_REPETITION_DOWN_SIZE_DOWN s_REPETITION_DOWN_SIZE_UP s_INPUT h0 n0 _ T191.heap _
        rw [e191]
        exact ⟨rfl, N191⟩
  · subst hcs
    have pre194 : ∀ t, Steps p.tables e below (T145.setTop (mkF m 75 #[.val (.int p1), .val (.int p2), .val (.int p3), .val (.int p4), .val (.int p5), .val (.int p6), .val (.int (1 : Int32)), .val (.int rr2), .val (.int bb2), .val (.ref b7), .unset, .unset, .unset, .unset, .unset, .unset, .unset] [(.int (1 : Int32)), (.ref b7)])) t → Steps p.tables e below (s₁.setTop (entryFrame m #[(.int p1), (.int p2), (.int p3), (.int p4), (.int p5), (.int p6)] maxLocals)) t := fun t kt => by
      refine pre169 t ?_
      refine XS.aload X145.here hx rfl (hb hby at_71) rfl rfl ?_
      show Steps p.tables e below (T145.setTop (mkF m 73 #[.val (.int p1), .val (.int p2), .val (.int p3), .val (.int p4), .val (.int p5), .val (.int p6), .val (.int (1 : Int32)), .val (.int rr2), .val (.int bb2), .val (.ref b7), .unset, .unset, .unset, .unset, .unset, .unset, .unset] [(.ref b7)])) _
      refine XS.iload X145.here hx rfl (hb hby at_73) rfl ?_
      show Steps p.tables e below (T145.setTop (mkF m 75 #[.val (.int p1), .val (.int p2), .val (.int p3), .val (.int p4), .val (.int p5), .val (.int p6), .val (.int (1 : Int32)), .val (.int rr2), .val (.int bb2), .val (.ref b7), .unset, .unset, .unset, .unset, .unset, .unset, .unset] [(.int (1 : Int32)), (.ref b7)])) _
      exact kt
    obtain ⟨cl195, Ar195, S195, Ng195, H195⟩ := id V145_b7
    have hj195 : ¬ (1 : Int32) < 0 ∧ (1 : Int32) < (5 : Int32) := ⟨by decide, by decide⟩
    have hin195 := inb_of S195 hj195
    have lt195 : ((1 : Int32)).toNatClampNeg < ((5 : Int32)).toNatClampNeg := by rw [← S195]; exact Nat.lt_of_not_le fun q => hin195 (Or.inr q)
    have hv195 : ((own_upd (own_upd (own_upd (own_upd (own_upd (fun _ => Value.null) ((0 : Int32)).toNatClampNeg (Value.ref s_REPETITION_UP_SIZE_DOWN)) ((1 : Int32)).toNatClampNeg (Value.ref s_REPETITION_UP_SIZE_UP)) ((2 : Int32)).toNatClampNeg (Value.ref s_REPETITION_DOWN_SIZE_DOWN)) ((3 : Int32)).toNatClampNeg (Value.ref s_REPETITION_DOWN_SIZE_UP)) ((4 : Int32)).toNatClampNeg (Value.ref s_INPUT)) ((1 : Int32)).toNatClampNeg) = (.ref s_REPETITION_UP_SIZE_UP) := rfl
    have pre196 : ∀ t, Steps p.tables e below (T145.setTop (mkF m 81 #[.val (.int p1), .val (.int p2), .val (.int p3), .val (.int p4), .val (.int p5), .val (.int p6), .val (.int (1 : Int32)), .val (.int rr2), .val (.int bb2), .val (.ref b7), .val (.ref s_REPETITION_UP_SIZE_UP), .unset, .unset, .unset, .unset, .unset, .unset] [(.int rr2), (.int p2)])) t → Steps p.tables e below (s₁.setTop (entryFrame m #[(.int p1), (.int p2), (.int p3), (.int p4), (.int p5), (.int p6)] maxLocals)) t := fun t kt => by
      refine pre194 t ?_
      refine X145.aaload hx (j := (1 : Int32)) (v := (.ref s_REPETITION_UP_SIZE_UP)) (by rw [e145]; exact Ar195.1) (State.isArrayOf_alike hZ.alike Ar195.2.1) rfl Ar195.2.2 hin195 ((H195 _ lt195).trans (congrArg some hv195)) (g := (mkF m 75 #[.val (.int p1), .val (.int p2), .val (.int p3), .val (.int p4), .val (.int p5), .val (.int p6), .val (.int (1 : Int32)), .val (.int rr2), .val (.int bb2), .val (.ref b7), .unset, .unset, .unset, .unset, .unset, .unset, .unset] [(.int (1 : Int32)), (.ref b7)])) rfl rfl (hb hby at_75) _ ?_
      show Steps p.tables e below (T145.setTop (mkF m 76 #[.val (.int p1), .val (.int p2), .val (.int p3), .val (.int p4), .val (.int p5), .val (.int p6), .val (.int (1 : Int32)), .val (.int rr2), .val (.int bb2), .val (.ref b7), .unset, .unset, .unset, .unset, .unset, .unset, .unset] [(.ref s_REPETITION_UP_SIZE_UP)])) _
      refine XS.astore X145.here hx rfl (hb hby at_76) rfl rfl (l' := #[.val (.int p1), .val (.int p2), .val (.int p3), .val (.int p4), .val (.int p5), .val (.int p6), .val (.int (1 : Int32)), .val (.int rr2), .val (.int bb2), .val (.ref b7), .val (.ref s_REPETITION_UP_SIZE_UP), .unset, .unset, .unset, .unset, .unset, .unset]) rfl ?_
      show Steps p.tables e below (T145.setTop (mkF m 78 #[.val (.int p1), .val (.int p2), .val (.int p3), .val (.int p4), .val (.int p5), .val (.int p6), .val (.int (1 : Int32)), .val (.int rr2), .val (.int bb2), .val (.ref b7), .val (.ref s_REPETITION_UP_SIZE_UP), .unset, .unset, .unset, .unset, .unset, .unset] [])) _
      refine XS.iloadN X145.here hx rfl (hb hby at_78) rfl ?_
      show Steps p.tables e below (T145.setTop (mkF m 79 #[.val (.int p1), .val (.int p2), .val (.int p3), .val (.int p4), .val (.int p5), .val (.int p6), .val (.int (1 : Int32)), .val (.int rr2), .val (.int bb2), .val (.ref b7), .val (.ref s_REPETITION_UP_SIZE_UP), .unset, .unset, .unset, .unset, .unset, .unset] [(.int p2)])) _
      refine XS.iload X145.here hx rfl (hb hby at_79) rfl ?_
      show Steps p.tables e below (T145.setTop (mkF m 81 #[.val (.int p1), .val (.int p2), .val (.int p3), .val (.int p4), .val (.int p5), .val (.int p6), .val (.int (1 : Int32)), .val (.int rr2), .val (.int bb2), .val (.ref b7), .val (.ref s_REPETITION_UP_SIZE_UP), .unset, .unset, .unset, .unset, .unset, .unset] [(.int rr2), (.int p2)])) _
      exact kt
    obtain ⟨_, _, ⟨T197, L197, k197, n197⟩, -, X197, ⟨Lc197, hQ197, l197, y197, z197⟩, st197⟩ := Jvm.LawKit.callS X145 hx (y := (⟨"com/example/starling/starling/schedule/MessageOrderComparePinLaw", "cmp", "(II)I"⟩ : MethodName)) hown (mvT hZ (hw _ (mgE 15 rfl))) (mvT hZ (hw _ (mgE 16 rfl))) (mvT hZ (hw _ (mgE 17 rfl))) (mvT hZ (hw _ (mgE 18 rfl))) (by decide) (backOf (W := 0) (rm1 l Z a0 hw [] p2 rr2 h145 n0 Z145 ) hZ (hw _ (mgE 18 rfl)) (hw _ (mgE 17 rfl)) (by decide) (by decide)) (g := (mkF m 81 #[.val (.int p1), .val (.int p2), .val (.int p3), .val (.int p4), .val (.int p5), .val (.int p6), .val (.int (1 : Int32)), .val (.int rr2), .val (.int bb2), .val (.ref b7), .val (.ref s_REPETITION_UP_SIZE_UP), .unset, .unset, .unset, .unset, .unset, .unset] [(.int rr2), (.int p2)])) rfl (by rw [hml]; rfl) (argsL := [(.int p2), (.int rr2)]) (rest := []) (lenOf pd__II_I rfl) rfl (by show 2 * 0 + _ ≤ _; exact Nat.le_of_eq rfl) (hb hby at_81) (fun _ _ => ⟨rfl, e145, (by decide : 1 + 0 ≤ _), (by decide : 5 + 0 ≤ _)⟩)
    dsimp only [Pt.U, Pt.locs, Pt.cells, Pt.slots] at X197 l197 y197 z197 st197 hQ197
    subst l197 y197 z197
    obtain ⟨rfl, N197q, e197⟩ := hQ197
    have pre198 : ∀ t, Steps p.tables e below (T197.setTop (mkF m 84 #[.val (.int p1), .val (.int p2), .val (.int p3), .val (.int p4), .val (.int p5), .val (.int p6), .val (.int (1 : Int32)), .val (.int rr2), .val (.int bb2), .val (.ref b7), .val (.ref s_REPETITION_UP_SIZE_UP), .unset, .unset, .unset, .unset, .unset, .unset] [(.int (r1 p2 rr2))])) t → Steps p.tables e below (s₁.setTop (entryFrame m #[(.int p1), (.int p2), (.int p3), (.int p4), (.int p5), (.int p6)] maxLocals)) t := fun t kt => pre196 t (st197 t kt)
    have N197 := Fr.app N145 N197q
    have pre199 : ∀ t, Steps p.tables e below (T197.setTop (mkF m 86 #[.val (.int p1), .val (.int p2), .val (.int p3), .val (.int p4), .val (.int p5), .val (.int p6), .val (.int (1 : Int32)), .val (.int rr2), .val (.int bb2), .val (.ref b7), .val (.ref s_REPETITION_UP_SIZE_UP), .val (.int (r1 p2 rr2)), .unset, .unset, .unset, .unset, .unset] [])) t → Steps p.tables e below (s₁.setTop (entryFrame m #[(.int p1), (.int p2), (.int p3), (.int p4), (.int p5), (.int p6)] maxLocals)) t := fun t kt => by
      refine pre198 t ?_
      refine XS.istore X197.here hx rfl (hb hby at_84) rfl (l' := #[.val (.int p1), .val (.int p2), .val (.int p3), .val (.int p4), .val (.int p5), .val (.int p6), .val (.int (1 : Int32)), .val (.int rr2), .val (.int bb2), .val (.ref b7), .val (.ref s_REPETITION_UP_SIZE_UP), .val (.int (r1 p2 rr2)), .unset, .unset, .unset, .unset, .unset]) rfl ?_
      show Steps p.tables e below (T197.setTop (mkF m 86 #[.val (.int p1), .val (.int p2), .val (.int p3), .val (.int p4), .val (.int p5), .val (.int p6), .val (.int (1 : Int32)), .val (.int rr2), .val (.int bb2), .val (.ref b7), .val (.ref s_REPETITION_UP_SIZE_UP), .val (.int (r1 p2 rr2)), .unset, .unset, .unset, .unset, .unset] [])) _
      exact kt
    obtain ⟨xx, h_xx⟩ : ∃ z, z = (r1 p2 rr2) := ⟨_, rfl⟩
    rw [← h_xx] at pre199
    have hxx := own_tri _ _ _ h_xx
    have pre200 : ∀ t, Steps p.tables e below (T197.setTop (mkF m 89 #[.val (.int p1), .val (.int p2), .val (.int p3), .val (.int p4), .val (.int p5), .val (.int p6), .val (.int (1 : Int32)), .val (.int rr2), .val (.int bb2), .val (.ref b7), .val (.ref s_REPETITION_UP_SIZE_UP), .val (.int xx), .unset, .unset, .unset, .unset, .unset] [(.int bb2), (.int p3)])) t → Steps p.tables e below (s₁.setTop (entryFrame m #[(.int p1), (.int p2), (.int p3), (.int p4), (.int p5), (.int p6)] maxLocals)) t := fun t kt => by
      refine pre199 t ?_
      refine XS.iloadN X197.here hx rfl (hb hby at_86) rfl ?_
      show Steps p.tables e below (T197.setTop (mkF m 87 #[.val (.int p1), .val (.int p2), .val (.int p3), .val (.int p4), .val (.int p5), .val (.int p6), .val (.int (1 : Int32)), .val (.int rr2), .val (.int bb2), .val (.ref b7), .val (.ref s_REPETITION_UP_SIZE_UP), .val (.int xx), .unset, .unset, .unset, .unset, .unset] [(.int p3)])) _
      refine XS.iload X197.here hx rfl (hb hby at_87) rfl ?_
      show Steps p.tables e below (T197.setTop (mkF m 89 #[.val (.int p1), .val (.int p2), .val (.int p3), .val (.int p4), .val (.int p5), .val (.int p6), .val (.int (1 : Int32)), .val (.int rr2), .val (.int bb2), .val (.ref b7), .val (.ref s_REPETITION_UP_SIZE_UP), .val (.int xx), .unset, .unset, .unset, .unset, .unset] [(.int bb2), (.int p3)])) _
      exact kt
    obtain ⟨_, _, ⟨T201, L201, k201, n201⟩, -, X201, ⟨Lc201, hQ201, l201, y201, z201⟩, st201⟩ := Jvm.LawKit.callS X197 hx (y := (⟨"com/example/starling/starling/schedule/MessageOrderComparePinLaw", "cmp", "(II)I"⟩ : MethodName)) hown (mvT hZ (hw _ (mgE 15 rfl))) (mvT hZ (hw _ (mgE 16 rfl))) (mvT hZ (hw _ (mgE 17 rfl))) (mvT hZ (hw _ (mgE 18 rfl))) (by decide) (backOf (W := 0) (rm1 l Z a0 hw [] p3 bb2 h145 n0 Z145 ) hZ (hw _ (mgE 18 rfl)) (hw _ (mgE 17 rfl)) (by decide) (by decide)) (g := (mkF m 89 #[.val (.int p1), .val (.int p2), .val (.int p3), .val (.int p4), .val (.int p5), .val (.int p6), .val (.int (1 : Int32)), .val (.int rr2), .val (.int bb2), .val (.ref b7), .val (.ref s_REPETITION_UP_SIZE_UP), .val (.int xx), .unset, .unset, .unset, .unset, .unset] [(.int bb2), (.int p3)])) rfl (by rw [hml]; rfl) (argsL := [(.int p3), (.int bb2)]) (rest := []) (lenOf pd__II_I rfl) rfl (by show 2 * 0 + _ ≤ _; exact Nat.le_of_eq rfl) (hb hby at_89) (fun _ _ => ⟨rfl, e197, (by decide : 1 + 0 ≤ _), (by decide : 5 + 0 ≤ _)⟩)
    dsimp only [Pt.U, Pt.locs, Pt.cells, Pt.slots] at X201 l201 y201 z201 st201 hQ201
    subst l201 y201 z201
    obtain ⟨rfl, N201q, e201⟩ := hQ201
    have pre202 : ∀ t, Steps p.tables e below (T201.setTop (mkF m 92 #[.val (.int p1), .val (.int p2), .val (.int p3), .val (.int p4), .val (.int p5), .val (.int p6), .val (.int (1 : Int32)), .val (.int rr2), .val (.int bb2), .val (.ref b7), .val (.ref s_REPETITION_UP_SIZE_UP), .val (.int xx), .unset, .unset, .unset, .unset, .unset] [(.int (r1 p3 bb2))])) t → Steps p.tables e below (s₁.setTop (entryFrame m #[(.int p1), (.int p2), (.int p3), (.int p4), (.int p5), (.int p6)] maxLocals)) t := fun t kt => pre200 t (st201 t kt)
    have N201 := Fr.app N197 N201q
    have pre203 : ∀ t, Steps p.tables e below (T201.setTop (mkF m 94 #[.val (.int p1), .val (.int p2), .val (.int p3), .val (.int p4), .val (.int p5), .val (.int p6), .val (.int (1 : Int32)), .val (.int rr2), .val (.int bb2), .val (.ref b7), .val (.ref s_REPETITION_UP_SIZE_UP), .val (.int xx), .val (.int (r1 p3 bb2)), .unset, .unset, .unset, .unset] [])) t → Steps p.tables e below (s₁.setTop (entryFrame m #[(.int p1), (.int p2), (.int p3), (.int p4), (.int p5), (.int p6)] maxLocals)) t := fun t kt => by
      refine pre202 t ?_
      refine XS.istore X201.here hx rfl (hb hby at_92) rfl (l' := #[.val (.int p1), .val (.int p2), .val (.int p3), .val (.int p4), .val (.int p5), .val (.int p6), .val (.int (1 : Int32)), .val (.int rr2), .val (.int bb2), .val (.ref b7), .val (.ref s_REPETITION_UP_SIZE_UP), .val (.int xx), .val (.int (r1 p3 bb2)), .unset, .unset, .unset, .unset]) rfl ?_
      show Steps p.tables e below (T201.setTop (mkF m 94 #[.val (.int p1), .val (.int p2), .val (.int p3), .val (.int p4), .val (.int p5), .val (.int p6), .val (.int (1 : Int32)), .val (.int rr2), .val (.int bb2), .val (.ref b7), .val (.ref s_REPETITION_UP_SIZE_UP), .val (.int xx), .val (.int (r1 p3 bb2)), .unset, .unset, .unset, .unset] [])) _
      exact kt
    obtain ⟨yy, h_yy⟩ : ∃ z, z = (r1 p3 bb2) := ⟨_, rfl⟩
    rw [← h_yy] at pre203
    have hyy := own_tri _ _ _ h_yy
    by_cases hc145 : xx = (0 : Int32)
    · skip
      have pre204 : ∀ t, Steps p.tables e below (T201.setTop (mkF m 193 #[.val (.int p1), .val (.int p2), .val (.int p3), .val (.int p4), .val (.int p5), .val (.int p6), .val (.int (1 : Int32)), .val (.int rr2), .val (.int bb2), .val (.ref b7), .val (.ref s_REPETITION_UP_SIZE_UP), .val (.int xx), .val (.int yy), .val (.int (1 : Int32)), .val (.int (1 : Int32)), .val (.int yy), .unset] [(.int bb2), (.int rr2), (.int p3), (.int p2), (.ref s_REPETITION_UP_SIZE_UP)])) t → Steps p.tables e below (s₁.setTop (entryFrame m #[(.int p1), (.int p2), (.int p3), (.int p4), (.int p5), (.int p6)] maxLocals)) t := fun t kt => by
        refine pre203 t ?_
        refine XS.iload X201.here hx rfl (hb hby at_94) rfl ?_
        show Steps p.tables e below (T201.setTop (mkF m 96 #[.val (.int p1), .val (.int p2), .val (.int p3), .val (.int p4), .val (.int p5), .val (.int p6), .val (.int (1 : Int32)), .val (.int rr2), .val (.int bb2), .val (.ref b7), .val (.ref s_REPETITION_UP_SIZE_UP), .val (.int xx), .val (.int yy), .unset, .unset, .unset, .unset] [(.int (1 : Int32))])) _
        refine XS.ifNo X201.here hx rfl (hb hby at_96) rfl ((if0 _ _).trans (feq (by decide : ¬ ((1 : Int32) = (0 : Int32)))).1) ?_
        show Steps p.tables e below (T201.setTop (mkF m 99 #[.val (.int p1), .val (.int p2), .val (.int p3), .val (.int p4), .val (.int p5), .val (.int p6), .val (.int (1 : Int32)), .val (.int rr2), .val (.int bb2), .val (.ref b7), .val (.ref s_REPETITION_UP_SIZE_UP), .val (.int xx), .val (.int yy), .unset, .unset, .unset, .unset] [])) _
        refine XS.iload X201.here hx rfl (hb hby at_99) rfl ?_
        show Steps p.tables e below (T201.setTop (mkF m 101 #[.val (.int p1), .val (.int p2), .val (.int p3), .val (.int p4), .val (.int p5), .val (.int p6), .val (.int (1 : Int32)), .val (.int rr2), .val (.int bb2), .val (.ref b7), .val (.ref s_REPETITION_UP_SIZE_UP), .val (.int xx), .val (.int yy), .unset, .unset, .unset, .unset] [(.int (1 : Int32))])) _
        refine XS.iconst X201.here hx rfl (hb hby at_101) ?_
        show Steps p.tables e below (T201.setTop (mkF m 102 #[.val (.int p1), .val (.int p2), .val (.int p3), .val (.int p4), .val (.int p5), .val (.int p6), .val (.int (1 : Int32)), .val (.int rr2), .val (.int bb2), .val (.ref b7), .val (.ref s_REPETITION_UP_SIZE_UP), .val (.int xx), .val (.int yy), .unset, .unset, .unset, .unset] [(.int (1 : Int32)), (.int (1 : Int32))])) _
        refine XS.icmpNo X201.here hx rfl (hb hby at_102) rfl (teq (by decide : (1 : Int32) = (1 : Int32))).2 ?_
        show Steps p.tables e below (T201.setTop (mkF m 105 #[.val (.int p1), .val (.int p2), .val (.int p3), .val (.int p4), .val (.int p5), .val (.int p6), .val (.int (1 : Int32)), .val (.int rr2), .val (.int bb2), .val (.ref b7), .val (.ref s_REPETITION_UP_SIZE_UP), .val (.int xx), .val (.int yy), .unset, .unset, .unset, .unset] [])) _
        refine XS.iconst X201.here hx rfl (hb hby at_105) ?_
        show Steps p.tables e below (T201.setTop (mkF m 106 #[.val (.int p1), .val (.int p2), .val (.int p3), .val (.int p4), .val (.int p5), .val (.int p6), .val (.int (1 : Int32)), .val (.int rr2), .val (.int bb2), .val (.ref b7), .val (.ref s_REPETITION_UP_SIZE_UP), .val (.int xx), .val (.int yy), .unset, .unset, .unset, .unset] [(.int (1 : Int32))])) _
        refine XS.goto X201.here hx rfl (pc0 := 106) (pc' := 110) rfl (hb hby at_106) (by decide) (by decide) ?_
        show Steps p.tables e below (T201.setTop (mkF m 110 #[.val (.int p1), .val (.int p2), .val (.int p3), .val (.int p4), .val (.int p5), .val (.int p6), .val (.int (1 : Int32)), .val (.int rr2), .val (.int bb2), .val (.ref b7), .val (.ref s_REPETITION_UP_SIZE_UP), .val (.int xx), .val (.int yy), .unset, .unset, .unset, .unset] [(.int (1 : Int32))])) _
        refine XS.istore X201.here hx rfl (hb hby at_110) rfl (l' := #[.val (.int p1), .val (.int p2), .val (.int p3), .val (.int p4), .val (.int p5), .val (.int p6), .val (.int (1 : Int32)), .val (.int rr2), .val (.int bb2), .val (.ref b7), .val (.ref s_REPETITION_UP_SIZE_UP), .val (.int xx), .val (.int yy), .val (.int (1 : Int32)), .unset, .unset, .unset]) rfl ?_
        show Steps p.tables e below (T201.setTop (mkF m 112 #[.val (.int p1), .val (.int p2), .val (.int p3), .val (.int p4), .val (.int p5), .val (.int p6), .val (.int (1 : Int32)), .val (.int rr2), .val (.int bb2), .val (.ref b7), .val (.ref s_REPETITION_UP_SIZE_UP), .val (.int xx), .val (.int yy), .val (.int (1 : Int32)), .unset, .unset, .unset] [])) _
        refine XS.iload X201.here hx rfl (hb hby at_112) rfl ?_
        show Steps p.tables e below (T201.setTop (mkF m 114 #[.val (.int p1), .val (.int p2), .val (.int p3), .val (.int p4), .val (.int p5), .val (.int p6), .val (.int (1 : Int32)), .val (.int rr2), .val (.int bb2), .val (.ref b7), .val (.ref s_REPETITION_UP_SIZE_UP), .val (.int xx), .val (.int yy), .val (.int (1 : Int32)), .unset, .unset, .unset] [(.int (1 : Int32))])) _
        refine XS.iconst X201.here hx rfl (hb hby at_114) ?_
        show Steps p.tables e below (T201.setTop (mkF m 115 #[.val (.int p1), .val (.int p2), .val (.int p3), .val (.int p4), .val (.int p5), .val (.int p6), .val (.int (1 : Int32)), .val (.int rr2), .val (.int bb2), .val (.ref b7), .val (.ref s_REPETITION_UP_SIZE_UP), .val (.int xx), .val (.int yy), .val (.int (1 : Int32)), .unset, .unset, .unset] [(.int (1 : Int32)), (.int (1 : Int32))])) _
        refine XS.icmpYes X201.here hx rfl (pc0 := 115) (pc' := 124) rfl (hb hby at_115) rfl (teq (by decide : (1 : Int32) = (1 : Int32))).1 (by decide) (by decide) ?_
        show Steps p.tables e below (T201.setTop (mkF m 124 #[.val (.int p1), .val (.int p2), .val (.int p3), .val (.int p4), .val (.int p5), .val (.int p6), .val (.int (1 : Int32)), .val (.int rr2), .val (.int bb2), .val (.ref b7), .val (.ref s_REPETITION_UP_SIZE_UP), .val (.int xx), .val (.int yy), .val (.int (1 : Int32)), .unset, .unset, .unset] [])) _
        refine XS.iconst X201.here hx rfl (hb hby at_124) ?_
        show Steps p.tables e below (T201.setTop (mkF m 125 #[.val (.int p1), .val (.int p2), .val (.int p3), .val (.int p4), .val (.int p5), .val (.int p6), .val (.int (1 : Int32)), .val (.int rr2), .val (.int bb2), .val (.ref b7), .val (.ref s_REPETITION_UP_SIZE_UP), .val (.int xx), .val (.int yy), .val (.int (1 : Int32)), .unset, .unset, .unset] [(.int (1 : Int32))])) _
        refine XS.goto X201.here hx rfl (pc0 := 125) (pc' := 129) rfl (hb hby at_125) (by decide) (by decide) ?_
        show Steps p.tables e below (T201.setTop (mkF m 129 #[.val (.int p1), .val (.int p2), .val (.int p3), .val (.int p4), .val (.int p5), .val (.int p6), .val (.int (1 : Int32)), .val (.int rr2), .val (.int bb2), .val (.ref b7), .val (.ref s_REPETITION_UP_SIZE_UP), .val (.int xx), .val (.int yy), .val (.int (1 : Int32)), .unset, .unset, .unset] [(.int (1 : Int32))])) _
        refine XS.istore X201.here hx rfl (hb hby at_129) rfl (l' := #[.val (.int p1), .val (.int p2), .val (.int p3), .val (.int p4), .val (.int p5), .val (.int p6), .val (.int (1 : Int32)), .val (.int rr2), .val (.int bb2), .val (.ref b7), .val (.ref s_REPETITION_UP_SIZE_UP), .val (.int xx), .val (.int yy), .val (.int (1 : Int32)), .val (.int (1 : Int32)), .unset, .unset]) rfl ?_
        show Steps p.tables e below (T201.setTop (mkF m 131 #[.val (.int p1), .val (.int p2), .val (.int p3), .val (.int p4), .val (.int p5), .val (.int p6), .val (.int (1 : Int32)), .val (.int rr2), .val (.int bb2), .val (.ref b7), .val (.ref s_REPETITION_UP_SIZE_UP), .val (.int xx), .val (.int yy), .val (.int (1 : Int32)), .val (.int (1 : Int32)), .unset, .unset] [])) _
        refine XS.iload X201.here hx rfl (hb hby at_131) rfl ?_
        show Steps p.tables e below (T201.setTop (mkF m 133 #[.val (.int p1), .val (.int p2), .val (.int p3), .val (.int p4), .val (.int p5), .val (.int p6), .val (.int (1 : Int32)), .val (.int rr2), .val (.int bb2), .val (.ref b7), .val (.ref s_REPETITION_UP_SIZE_UP), .val (.int xx), .val (.int yy), .val (.int (1 : Int32)), .val (.int (1 : Int32)), .unset, .unset] [(.int (1 : Int32))])) _
        refine XS.iconst X201.here hx rfl (hb hby at_133) ?_
        show Steps p.tables e below (T201.setTop (mkF m 134 #[.val (.int p1), .val (.int p2), .val (.int p3), .val (.int p4), .val (.int p5), .val (.int p6), .val (.int (1 : Int32)), .val (.int rr2), .val (.int bb2), .val (.ref b7), .val (.ref s_REPETITION_UP_SIZE_UP), .val (.int xx), .val (.int yy), .val (.int (1 : Int32)), .val (.int (1 : Int32)), .unset, .unset] [(.int (4 : Int32)), (.int (1 : Int32))])) _
        refine XS.icmpYes X201.here hx rfl (pc0 := 134) (pc' := 143) rfl (hb hby at_134) rfl (feq (by decide : ¬ ((1 : Int32) = (4 : Int32)))).2 (by decide) (by decide) ?_
        show Steps p.tables e below (T201.setTop (mkF m 143 #[.val (.int p1), .val (.int p2), .val (.int p3), .val (.int p4), .val (.int p5), .val (.int p6), .val (.int (1 : Int32)), .val (.int rr2), .val (.int bb2), .val (.ref b7), .val (.ref s_REPETITION_UP_SIZE_UP), .val (.int xx), .val (.int yy), .val (.int (1 : Int32)), .val (.int (1 : Int32)), .unset, .unset] [])) _
        refine XS.iload X201.here hx rfl (hb hby at_143) rfl ?_
        show Steps p.tables e below (T201.setTop (mkF m 145 #[.val (.int p1), .val (.int p2), .val (.int p3), .val (.int p4), .val (.int p5), .val (.int p6), .val (.int (1 : Int32)), .val (.int rr2), .val (.int bb2), .val (.ref b7), .val (.ref s_REPETITION_UP_SIZE_UP), .val (.int xx), .val (.int yy), .val (.int (1 : Int32)), .val (.int (1 : Int32)), .unset, .unset] [(.int xx)])) _
        refine XS.ifYes X201.here hx rfl (pc0 := 145) (pc' := 168) rfl (hb hby at_145) rfl ((if0 _ _).trans (teq hc145).1) (by decide) (by decide) ?_
        show Steps p.tables e below (T201.setTop (mkF m 168 #[.val (.int p1), .val (.int p2), .val (.int p3), .val (.int p4), .val (.int p5), .val (.int p6), .val (.int (1 : Int32)), .val (.int rr2), .val (.int bb2), .val (.ref b7), .val (.ref s_REPETITION_UP_SIZE_UP), .val (.int xx), .val (.int yy), .val (.int (1 : Int32)), .val (.int (1 : Int32)), .unset, .unset] [])) _
        refine XS.iload X201.here hx rfl (hb hby at_168) rfl ?_
        show Steps p.tables e below (T201.setTop (mkF m 170 #[.val (.int p1), .val (.int p2), .val (.int p3), .val (.int p4), .val (.int p5), .val (.int p6), .val (.int (1 : Int32)), .val (.int rr2), .val (.int bb2), .val (.ref b7), .val (.ref s_REPETITION_UP_SIZE_UP), .val (.int xx), .val (.int yy), .val (.int (1 : Int32)), .val (.int (1 : Int32)), .unset, .unset] [(.int (1 : Int32))])) _
        refine XS.ifNo X201.here hx rfl (hb hby at_170) rfl ((if0 _ _).trans (feq (by decide : ¬ ((1 : Int32) = (0 : Int32)))).1) ?_
        show Steps p.tables e below (T201.setTop (mkF m 173 #[.val (.int p1), .val (.int p2), .val (.int p3), .val (.int p4), .val (.int p5), .val (.int p6), .val (.int (1 : Int32)), .val (.int rr2), .val (.int bb2), .val (.ref b7), .val (.ref s_REPETITION_UP_SIZE_UP), .val (.int xx), .val (.int yy), .val (.int (1 : Int32)), .val (.int (1 : Int32)), .unset, .unset] [])) _
        refine XS.iload X201.here hx rfl (hb hby at_173) rfl ?_
        show Steps p.tables e below (T201.setTop (mkF m 175 #[.val (.int p1), .val (.int p2), .val (.int p3), .val (.int p4), .val (.int p5), .val (.int p6), .val (.int (1 : Int32)), .val (.int rr2), .val (.int bb2), .val (.ref b7), .val (.ref s_REPETITION_UP_SIZE_UP), .val (.int xx), .val (.int yy), .val (.int (1 : Int32)), .val (.int (1 : Int32)), .unset, .unset] [(.int yy)])) _
        refine XS.istore X201.here hx rfl (hb hby at_175) rfl (l' := #[.val (.int p1), .val (.int p2), .val (.int p3), .val (.int p4), .val (.int p5), .val (.int p6), .val (.int (1 : Int32)), .val (.int rr2), .val (.int bb2), .val (.ref b7), .val (.ref s_REPETITION_UP_SIZE_UP), .val (.int xx), .val (.int yy), .val (.int (1 : Int32)), .val (.int (1 : Int32)), .val (.int yy), .unset]) rfl ?_
        show Steps p.tables e below (T201.setTop (mkF m 177 #[.val (.int p1), .val (.int p2), .val (.int p3), .val (.int p4), .val (.int p5), .val (.int p6), .val (.int (1 : Int32)), .val (.int rr2), .val (.int bb2), .val (.ref b7), .val (.ref s_REPETITION_UP_SIZE_UP), .val (.int xx), .val (.int yy), .val (.int (1 : Int32)), .val (.int (1 : Int32)), .val (.int yy), .unset] [])) _
        refine XS.goto X201.here hx rfl (pc0 := 177) (pc' := 185) rfl (hb hby at_177) (by decide) (by decide) ?_
        show Steps p.tables e below (T201.setTop (mkF m 185 #[.val (.int p1), .val (.int p2), .val (.int p3), .val (.int p4), .val (.int p5), .val (.int p6), .val (.int (1 : Int32)), .val (.int rr2), .val (.int bb2), .val (.ref b7), .val (.ref s_REPETITION_UP_SIZE_UP), .val (.int xx), .val (.int yy), .val (.int (1 : Int32)), .val (.int (1 : Int32)), .val (.int yy), .unset] [])) _
        refine XS.aload X201.here hx rfl (hb hby at_185) rfl rfl ?_
        show Steps p.tables e below (T201.setTop (mkF m 187 #[.val (.int p1), .val (.int p2), .val (.int p3), .val (.int p4), .val (.int p5), .val (.int p6), .val (.int (1 : Int32)), .val (.int rr2), .val (.int bb2), .val (.ref b7), .val (.ref s_REPETITION_UP_SIZE_UP), .val (.int xx), .val (.int yy), .val (.int (1 : Int32)), .val (.int (1 : Int32)), .val (.int yy), .unset] [(.ref s_REPETITION_UP_SIZE_UP)])) _
        refine XS.iloadN X201.here hx rfl (hb hby at_187) rfl ?_
        show Steps p.tables e below (T201.setTop (mkF m 188 #[.val (.int p1), .val (.int p2), .val (.int p3), .val (.int p4), .val (.int p5), .val (.int p6), .val (.int (1 : Int32)), .val (.int rr2), .val (.int bb2), .val (.ref b7), .val (.ref s_REPETITION_UP_SIZE_UP), .val (.int xx), .val (.int yy), .val (.int (1 : Int32)), .val (.int (1 : Int32)), .val (.int yy), .unset] [(.int p2), (.ref s_REPETITION_UP_SIZE_UP)])) _
        refine XS.iloadN X201.here hx rfl (hb hby at_188) rfl ?_
        show Steps p.tables e below (T201.setTop (mkF m 189 #[.val (.int p1), .val (.int p2), .val (.int p3), .val (.int p4), .val (.int p5), .val (.int p6), .val (.int (1 : Int32)), .val (.int rr2), .val (.int bb2), .val (.ref b7), .val (.ref s_REPETITION_UP_SIZE_UP), .val (.int xx), .val (.int yy), .val (.int (1 : Int32)), .val (.int (1 : Int32)), .val (.int yy), .unset] [(.int p3), (.int p2), (.ref s_REPETITION_UP_SIZE_UP)])) _
        refine XS.iload X201.here hx rfl (hb hby at_189) rfl ?_
        show Steps p.tables e below (T201.setTop (mkF m 191 #[.val (.int p1), .val (.int p2), .val (.int p3), .val (.int p4), .val (.int p5), .val (.int p6), .val (.int (1 : Int32)), .val (.int rr2), .val (.int bb2), .val (.ref b7), .val (.ref s_REPETITION_UP_SIZE_UP), .val (.int xx), .val (.int yy), .val (.int (1 : Int32)), .val (.int (1 : Int32)), .val (.int yy), .unset] [(.int rr2), (.int p3), (.int p2), (.ref s_REPETITION_UP_SIZE_UP)])) _
        refine XS.iload X201.here hx rfl (hb hby at_191) rfl ?_
        show Steps p.tables e below (T201.setTop (mkF m 193 #[.val (.int p1), .val (.int p2), .val (.int p3), .val (.int p4), .val (.int p5), .val (.int p6), .val (.int (1 : Int32)), .val (.int rr2), .val (.int bb2), .val (.ref b7), .val (.ref s_REPETITION_UP_SIZE_UP), .val (.int xx), .val (.int yy), .val (.int (1 : Int32)), .val (.int (1 : Int32)), .val (.int yy), .unset] [(.int bb2), (.int rr2), (.int p3), (.int p2), (.ref s_REPETITION_UP_SIZE_UP)])) _
        exact kt
      obtain ⟨cq205, kq205, q205a, q205b, q205c⟩ := isOf hZ e201 F162_145
      obtain ⟨_, _, ⟨T205, L205, k205, n205⟩, -, X205, ⟨Lc205, hQ205, l205, y205, z205⟩, st205⟩ := X201.virtualBack hx (y := (⟨"com/example/starling/starling/schedule/MessageOrder", "compare", "(IIII)I"⟩ : MethodName)) (z := (⟨"com/example/starling/starling/schedule/MessageOrder", "compare", "(IIII)I"⟩ : MethodName)) hown (mvT hZ (hw _ (mgE 19 rfl))) (mvT hZ (hw _ (mgE 20 rfl))) (notFace_of_selects (args := #[]) (mvT hZ (hw _ (mgE 22 rfl)))) (mvT hZ (hw _ (mgE 22 rfl))) (mvT hZ (hw _ (mgE 21 rfl))) (by decide) (backOf (W := 0) (rm2 l Z a0 hw [] s_REPETITION_UP_SIZE_UP p2 p3 rr2 bb2 (1 : Int32) (1 : Int32) h145 n0 Z145 F150_145 F151_145) hZ (hw _ (mgE 23 rfl)) (hw _ (mgE 4 rfl)) (by decide) (by decide)) q205a q205c (g := (mkF m 193 #[.val (.int p1), .val (.int p2), .val (.int p3), .val (.int p4), .val (.int p5), .val (.int p6), .val (.int (1 : Int32)), .val (.int rr2), .val (.int bb2), .val (.ref b7), .val (.ref s_REPETITION_UP_SIZE_UP), .val (.int xx), .val (.int yy), .val (.int (1 : Int32)), .val (.int (1 : Int32)), .val (.int yy), .unset] [(.int bb2), (.int rr2), (.int p3), (.int p2), (.ref s_REPETITION_UP_SIZE_UP)])) rfl (by rw [hml]; rfl) (Steps.refl _) (argsL := [(.int p2), (.int p3), (.int rr2), (.int bb2)]) (rest := []) (lenOf pd__IIII_I rfl) rfl (by show 2 * 0 + _ ≤ _; exact Nat.le_of_eq rfl) (hb hby at_193) (fun _ _ => ⟨rfl, e201, (by decide : 1 + 0 ≤ _), (by decide : 5 + 0 ≤ _)⟩)
      dsimp only [Pt.U, Pt.locs, Pt.cells, Pt.slots] at X205 l205 y205 z205 st205 hQ205
      subst l205 y205 z205
      obtain ⟨rfl, N205q, e205⟩ := hQ205
      have pre206 : ∀ t, Steps p.tables e below (T205.setTop (mkF m 196 #[.val (.int p1), .val (.int p2), .val (.int p3), .val (.int p4), .val (.int p5), .val (.int p6), .val (.int (1 : Int32)), .val (.int rr2), .val (.int bb2), .val (.ref b7), .val (.ref s_REPETITION_UP_SIZE_UP), .val (.int xx), .val (.int yy), .val (.int (1 : Int32)), .val (.int (1 : Int32)), .val (.int yy), .unset] [(.int (r2 p2 p3 rr2 bb2 (1 : Int32) (1 : Int32)))])) t → Steps p.tables e below (s₁.setTop (entryFrame m #[(.int p1), (.int p2), (.int p3), (.int p4), (.int p5), (.int p6)] maxLocals)) t := fun t kt => pre204 t (st205.trans kt)
      have N205 := Fr.app N201 N205q
      have pre207 : ∀ t, Steps p.tables e below (T205.setTop (mkF m 200 #[.val (.int p1), .val (.int p2), .val (.int p3), .val (.int p4), .val (.int p5), .val (.int p6), .val (.int (1 : Int32)), .val (.int rr2), .val (.int bb2), .val (.ref b7), .val (.ref s_REPETITION_UP_SIZE_UP), .val (.int xx), .val (.int yy), .val (.int (1 : Int32)), .val (.int (1 : Int32)), .val (.int yy), .val (.int (r2 p2 p3 rr2 bb2 (1 : Int32) (1 : Int32)))] [(.int (r2 p2 p3 rr2 bb2 (1 : Int32) (1 : Int32)))])) t → Steps p.tables e below (s₁.setTop (entryFrame m #[(.int p1), (.int p2), (.int p3), (.int p4), (.int p5), (.int p6)] maxLocals)) t := fun t kt => by
        refine pre206 t ?_
        refine XS.istore X205.here hx rfl (hb hby at_196) rfl (l' := #[.val (.int p1), .val (.int p2), .val (.int p3), .val (.int p4), .val (.int p5), .val (.int p6), .val (.int (1 : Int32)), .val (.int rr2), .val (.int bb2), .val (.ref b7), .val (.ref s_REPETITION_UP_SIZE_UP), .val (.int xx), .val (.int yy), .val (.int (1 : Int32)), .val (.int (1 : Int32)), .val (.int yy), .val (.int (r2 p2 p3 rr2 bb2 (1 : Int32) (1 : Int32)))]) rfl ?_
        show Steps p.tables e below (T205.setTop (mkF m 198 #[.val (.int p1), .val (.int p2), .val (.int p3), .val (.int p4), .val (.int p5), .val (.int p6), .val (.int (1 : Int32)), .val (.int rr2), .val (.int bb2), .val (.ref b7), .val (.ref s_REPETITION_UP_SIZE_UP), .val (.int xx), .val (.int yy), .val (.int (1 : Int32)), .val (.int (1 : Int32)), .val (.int yy), .val (.int (r2 p2 p3 rr2 bb2 (1 : Int32) (1 : Int32)))] [])) _
        refine XS.iload X205.here hx rfl (hb hby at_198) rfl ?_
        show Steps p.tables e below (T205.setTop (mkF m 200 #[.val (.int p1), .val (.int p2), .val (.int p3), .val (.int p4), .val (.int p5), .val (.int p6), .val (.int (1 : Int32)), .val (.int rr2), .val (.int bb2), .val (.ref b7), .val (.ref s_REPETITION_UP_SIZE_UP), .val (.int xx), .val (.int yy), .val (.int (1 : Int32)), .val (.int (1 : Int32)), .val (.int yy), .val (.int (r2 p2 p3 rr2 bb2 (1 : Int32) (1 : Int32)))] [(.int (r2 p2 p3 rr2 bb2 (1 : Int32) (1 : Int32)))])) _
        exact kt
      obtain ⟨_, _, ⟨T208, L208, k208, n208⟩, -, X208, ⟨Lc208, hQ208, l208, y208, z208⟩, st208⟩ := Jvm.LawKit.callS X205 hx (y := (⟨"com/example/starling/starling/schedule/MessageOrderComparePinLaw", "sgn", "(I)I"⟩ : MethodName)) hown (mvT hZ (hw _ (mgE 32 rfl))) (mvT hZ (hw _ (mgE 33 rfl))) (mvT hZ (hw _ (mgE 17 rfl))) (mvT hZ (hw _ (mgE 34 rfl))) (by decide) (backOf (W := 0) (rm4 l Z a0 hw [] (r2 p2 p3 rr2 bb2 (1 : Int32) (1 : Int32)) h145 n0 Z145 ) hZ (hw _ (mgE 34 rfl)) (hw _ (mgE 17 rfl)) (by decide) (by decide)) (g := (mkF m 200 #[.val (.int p1), .val (.int p2), .val (.int p3), .val (.int p4), .val (.int p5), .val (.int p6), .val (.int (1 : Int32)), .val (.int rr2), .val (.int bb2), .val (.ref b7), .val (.ref s_REPETITION_UP_SIZE_UP), .val (.int xx), .val (.int yy), .val (.int (1 : Int32)), .val (.int (1 : Int32)), .val (.int yy), .val (.int (r2 p2 p3 rr2 bb2 (1 : Int32) (1 : Int32)))] [(.int (r2 p2 p3 rr2 bb2 (1 : Int32) (1 : Int32)))])) rfl (by rw [hml]; rfl) (argsL := [(.int (r2 p2 p3 rr2 bb2 (1 : Int32) (1 : Int32)))]) (rest := []) (lenOf pd__I_I rfl) rfl (by show 2 * 0 + _ ≤ _; exact Nat.le_of_eq rfl) (hb hby at_200) (fun _ _ => ⟨rfl, e205, (by decide : 1 + 0 ≤ _), (by decide : 5 + 0 ≤ _)⟩)
      dsimp only [Pt.U, Pt.locs, Pt.cells, Pt.slots] at X208 l208 y208 z208 st208 hQ208
      subst l208 y208 z208
      obtain ⟨rfl, N208q, e208⟩ := hQ208
      have pre209 : ∀ t, Steps p.tables e below (T208.setTop (mkF m 203 #[.val (.int p1), .val (.int p2), .val (.int p3), .val (.int p4), .val (.int p5), .val (.int p6), .val (.int (1 : Int32)), .val (.int rr2), .val (.int bb2), .val (.ref b7), .val (.ref s_REPETITION_UP_SIZE_UP), .val (.int xx), .val (.int yy), .val (.int (1 : Int32)), .val (.int (1 : Int32)), .val (.int yy), .val (.int (r2 p2 p3 rr2 bb2 (1 : Int32) (1 : Int32)))] [(.int (r4 (r2 p2 p3 rr2 bb2 (1 : Int32) (1 : Int32))))])) t → Steps p.tables e below (s₁.setTop (entryFrame m #[(.int p1), (.int p2), (.int p3), (.int p4), (.int p5), (.int p6)] maxLocals)) t := fun t kt => pre207 t (st208 t kt)
      have N208 := Fr.app N205 N208q
      have hc205 : (r4 (r2 p2 p3 rr2 bb2 (1 : Int32) (1 : Int32))) = yy := by rw [own_cmp _ _ _ _ _ _ _ _ h_xx h_yy]; rcases hxx with rfl | rfl | rfl <;> rcases hyy with rfl | rfl | rfl <;> first | decide | (exfalso; revert hc145; decide)
      have pre210 : ∀ t, Steps p.tables e below (T208.setTop (mkF m 213 #[.val (.int p1), .val (.int p2), .val (.int p3), .val (.int p4), .val (.int p5), .val (.int p6), .val (.int (1 : Int32)), .val (.int rr2), .val (.int bb2), .val (.ref b7), .val (.ref s_REPETITION_UP_SIZE_UP), .val (.int xx), .val (.int yy), .val (.int (1 : Int32)), .val (.int (1 : Int32)), .val (.int yy), .val (.int (r2 p2 p3 rr2 bb2 (1 : Int32) (1 : Int32)))] [(.int (1 : Int32))])) t → Steps p.tables e below (s₁.setTop (entryFrame m #[(.int p1), (.int p2), (.int p3), (.int p4), (.int p5), (.int p6)] maxLocals)) t := fun t kt => by
        refine pre209 t ?_
        refine XS.iload X208.here hx rfl (hb hby at_203) rfl ?_
        show Steps p.tables e below (T208.setTop (mkF m 205 #[.val (.int p1), .val (.int p2), .val (.int p3), .val (.int p4), .val (.int p5), .val (.int p6), .val (.int (1 : Int32)), .val (.int rr2), .val (.int bb2), .val (.ref b7), .val (.ref s_REPETITION_UP_SIZE_UP), .val (.int xx), .val (.int yy), .val (.int (1 : Int32)), .val (.int (1 : Int32)), .val (.int yy), .val (.int (r2 p2 p3 rr2 bb2 (1 : Int32) (1 : Int32)))] [(.int yy), (.int (r4 (r2 p2 p3 rr2 bb2 (1 : Int32) (1 : Int32))))])) _
        refine XS.icmpNo X208.here hx rfl (hb hby at_205) rfl (teq hc205).2 ?_
        show Steps p.tables e below (T208.setTop (mkF m 208 #[.val (.int p1), .val (.int p2), .val (.int p3), .val (.int p4), .val (.int p5), .val (.int p6), .val (.int (1 : Int32)), .val (.int rr2), .val (.int bb2), .val (.ref b7), .val (.ref s_REPETITION_UP_SIZE_UP), .val (.int xx), .val (.int yy), .val (.int (1 : Int32)), .val (.int (1 : Int32)), .val (.int yy), .val (.int (r2 p2 p3 rr2 bb2 (1 : Int32) (1 : Int32)))] [])) _
        refine XS.iconst X208.here hx rfl (hb hby at_208) ?_
        show Steps p.tables e below (T208.setTop (mkF m 209 #[.val (.int p1), .val (.int p2), .val (.int p3), .val (.int p4), .val (.int p5), .val (.int p6), .val (.int (1 : Int32)), .val (.int rr2), .val (.int bb2), .val (.ref b7), .val (.ref s_REPETITION_UP_SIZE_UP), .val (.int xx), .val (.int yy), .val (.int (1 : Int32)), .val (.int (1 : Int32)), .val (.int yy), .val (.int (r2 p2 p3 rr2 bb2 (1 : Int32) (1 : Int32)))] [(.int (1 : Int32))])) _
        refine XS.goto X208.here hx rfl (pc0 := 209) (pc' := 213) rfl (hb hby at_209) (by decide) (by decide) ?_
        show Steps p.tables e below (T208.setTop (mkF m 213 #[.val (.int p1), .val (.int p2), .val (.int p3), .val (.int p4), .val (.int p5), .val (.int p6), .val (.int (1 : Int32)), .val (.int rr2), .val (.int bb2), .val (.ref b7), .val (.ref s_REPETITION_UP_SIZE_UP), .val (.int xx), .val (.int yy), .val (.int (1 : Int32)), .val (.int (1 : Int32)), .val (.int yy), .val (.int (r2 p2 p3 rr2 bb2 (1 : Int32) (1 : Int32)))] [(.int (1 : Int32))])) _
        exact kt
      obtain ⟨fs, hr, hrun, hended, hW, hsame⟩ := X208.leave (v := some (.int (1 : Int32))) (fun h => by rw [Bd.returns] at h; cases h)
      refine ⟨_, _, pre210 _ ?_, hrun, hended, _, _, rfl, ?_, ⟨_, rfl⟩, hW, hsame.mono (by decide) (by decide)⟩
      · exact retN X208 hx (t := .boolean) Bd.returns (by simp) (hb hby at_213) hr
      · show Q0 Z p1 p2 p3 p4 p5 p6 s_REPETITION_UP_SIZE_DOWN s_REPETITION_UP_SIZE_UP s_REPETITION_DOWN_SIZE_DOWN s_REPETITION_DOWN_SIZE_UP s_INPUT h0 n0 _ T208.heap _
        rw [e208]
        exact ⟨rfl, N208⟩
    · skip
      have pre211 : ∀ t, Steps p.tables e below (T201.setTop (mkF m 193 #[.val (.int p1), .val (.int p2), .val (.int p3), .val (.int p4), .val (.int p5), .val (.int p6), .val (.int (1 : Int32)), .val (.int rr2), .val (.int bb2), .val (.ref b7), .val (.ref s_REPETITION_UP_SIZE_UP), .val (.int xx), .val (.int yy), .val (.int (1 : Int32)), .val (.int (1 : Int32)), .val (.int xx), .unset] [(.int bb2), (.int rr2), (.int p3), (.int p2), (.ref s_REPETITION_UP_SIZE_UP)])) t → Steps p.tables e below (s₁.setTop (entryFrame m #[(.int p1), (.int p2), (.int p3), (.int p4), (.int p5), (.int p6)] maxLocals)) t := fun t kt => by
        refine pre203 t ?_
        refine XS.iload X201.here hx rfl (hb hby at_94) rfl ?_
        show Steps p.tables e below (T201.setTop (mkF m 96 #[.val (.int p1), .val (.int p2), .val (.int p3), .val (.int p4), .val (.int p5), .val (.int p6), .val (.int (1 : Int32)), .val (.int rr2), .val (.int bb2), .val (.ref b7), .val (.ref s_REPETITION_UP_SIZE_UP), .val (.int xx), .val (.int yy), .unset, .unset, .unset, .unset] [(.int (1 : Int32))])) _
        refine XS.ifNo X201.here hx rfl (hb hby at_96) rfl ((if0 _ _).trans (feq (by decide : ¬ ((1 : Int32) = (0 : Int32)))).1) ?_
        show Steps p.tables e below (T201.setTop (mkF m 99 #[.val (.int p1), .val (.int p2), .val (.int p3), .val (.int p4), .val (.int p5), .val (.int p6), .val (.int (1 : Int32)), .val (.int rr2), .val (.int bb2), .val (.ref b7), .val (.ref s_REPETITION_UP_SIZE_UP), .val (.int xx), .val (.int yy), .unset, .unset, .unset, .unset] [])) _
        refine XS.iload X201.here hx rfl (hb hby at_99) rfl ?_
        show Steps p.tables e below (T201.setTop (mkF m 101 #[.val (.int p1), .val (.int p2), .val (.int p3), .val (.int p4), .val (.int p5), .val (.int p6), .val (.int (1 : Int32)), .val (.int rr2), .val (.int bb2), .val (.ref b7), .val (.ref s_REPETITION_UP_SIZE_UP), .val (.int xx), .val (.int yy), .unset, .unset, .unset, .unset] [(.int (1 : Int32))])) _
        refine XS.iconst X201.here hx rfl (hb hby at_101) ?_
        show Steps p.tables e below (T201.setTop (mkF m 102 #[.val (.int p1), .val (.int p2), .val (.int p3), .val (.int p4), .val (.int p5), .val (.int p6), .val (.int (1 : Int32)), .val (.int rr2), .val (.int bb2), .val (.ref b7), .val (.ref s_REPETITION_UP_SIZE_UP), .val (.int xx), .val (.int yy), .unset, .unset, .unset, .unset] [(.int (1 : Int32)), (.int (1 : Int32))])) _
        refine XS.icmpNo X201.here hx rfl (hb hby at_102) rfl (teq (by decide : (1 : Int32) = (1 : Int32))).2 ?_
        show Steps p.tables e below (T201.setTop (mkF m 105 #[.val (.int p1), .val (.int p2), .val (.int p3), .val (.int p4), .val (.int p5), .val (.int p6), .val (.int (1 : Int32)), .val (.int rr2), .val (.int bb2), .val (.ref b7), .val (.ref s_REPETITION_UP_SIZE_UP), .val (.int xx), .val (.int yy), .unset, .unset, .unset, .unset] [])) _
        refine XS.iconst X201.here hx rfl (hb hby at_105) ?_
        show Steps p.tables e below (T201.setTop (mkF m 106 #[.val (.int p1), .val (.int p2), .val (.int p3), .val (.int p4), .val (.int p5), .val (.int p6), .val (.int (1 : Int32)), .val (.int rr2), .val (.int bb2), .val (.ref b7), .val (.ref s_REPETITION_UP_SIZE_UP), .val (.int xx), .val (.int yy), .unset, .unset, .unset, .unset] [(.int (1 : Int32))])) _
        refine XS.goto X201.here hx rfl (pc0 := 106) (pc' := 110) rfl (hb hby at_106) (by decide) (by decide) ?_
        show Steps p.tables e below (T201.setTop (mkF m 110 #[.val (.int p1), .val (.int p2), .val (.int p3), .val (.int p4), .val (.int p5), .val (.int p6), .val (.int (1 : Int32)), .val (.int rr2), .val (.int bb2), .val (.ref b7), .val (.ref s_REPETITION_UP_SIZE_UP), .val (.int xx), .val (.int yy), .unset, .unset, .unset, .unset] [(.int (1 : Int32))])) _
        refine XS.istore X201.here hx rfl (hb hby at_110) rfl (l' := #[.val (.int p1), .val (.int p2), .val (.int p3), .val (.int p4), .val (.int p5), .val (.int p6), .val (.int (1 : Int32)), .val (.int rr2), .val (.int bb2), .val (.ref b7), .val (.ref s_REPETITION_UP_SIZE_UP), .val (.int xx), .val (.int yy), .val (.int (1 : Int32)), .unset, .unset, .unset]) rfl ?_
        show Steps p.tables e below (T201.setTop (mkF m 112 #[.val (.int p1), .val (.int p2), .val (.int p3), .val (.int p4), .val (.int p5), .val (.int p6), .val (.int (1 : Int32)), .val (.int rr2), .val (.int bb2), .val (.ref b7), .val (.ref s_REPETITION_UP_SIZE_UP), .val (.int xx), .val (.int yy), .val (.int (1 : Int32)), .unset, .unset, .unset] [])) _
        refine XS.iload X201.here hx rfl (hb hby at_112) rfl ?_
        show Steps p.tables e below (T201.setTop (mkF m 114 #[.val (.int p1), .val (.int p2), .val (.int p3), .val (.int p4), .val (.int p5), .val (.int p6), .val (.int (1 : Int32)), .val (.int rr2), .val (.int bb2), .val (.ref b7), .val (.ref s_REPETITION_UP_SIZE_UP), .val (.int xx), .val (.int yy), .val (.int (1 : Int32)), .unset, .unset, .unset] [(.int (1 : Int32))])) _
        refine XS.iconst X201.here hx rfl (hb hby at_114) ?_
        show Steps p.tables e below (T201.setTop (mkF m 115 #[.val (.int p1), .val (.int p2), .val (.int p3), .val (.int p4), .val (.int p5), .val (.int p6), .val (.int (1 : Int32)), .val (.int rr2), .val (.int bb2), .val (.ref b7), .val (.ref s_REPETITION_UP_SIZE_UP), .val (.int xx), .val (.int yy), .val (.int (1 : Int32)), .unset, .unset, .unset] [(.int (1 : Int32)), (.int (1 : Int32))])) _
        refine XS.icmpYes X201.here hx rfl (pc0 := 115) (pc' := 124) rfl (hb hby at_115) rfl (teq (by decide : (1 : Int32) = (1 : Int32))).1 (by decide) (by decide) ?_
        show Steps p.tables e below (T201.setTop (mkF m 124 #[.val (.int p1), .val (.int p2), .val (.int p3), .val (.int p4), .val (.int p5), .val (.int p6), .val (.int (1 : Int32)), .val (.int rr2), .val (.int bb2), .val (.ref b7), .val (.ref s_REPETITION_UP_SIZE_UP), .val (.int xx), .val (.int yy), .val (.int (1 : Int32)), .unset, .unset, .unset] [])) _
        refine XS.iconst X201.here hx rfl (hb hby at_124) ?_
        show Steps p.tables e below (T201.setTop (mkF m 125 #[.val (.int p1), .val (.int p2), .val (.int p3), .val (.int p4), .val (.int p5), .val (.int p6), .val (.int (1 : Int32)), .val (.int rr2), .val (.int bb2), .val (.ref b7), .val (.ref s_REPETITION_UP_SIZE_UP), .val (.int xx), .val (.int yy), .val (.int (1 : Int32)), .unset, .unset, .unset] [(.int (1 : Int32))])) _
        refine XS.goto X201.here hx rfl (pc0 := 125) (pc' := 129) rfl (hb hby at_125) (by decide) (by decide) ?_
        show Steps p.tables e below (T201.setTop (mkF m 129 #[.val (.int p1), .val (.int p2), .val (.int p3), .val (.int p4), .val (.int p5), .val (.int p6), .val (.int (1 : Int32)), .val (.int rr2), .val (.int bb2), .val (.ref b7), .val (.ref s_REPETITION_UP_SIZE_UP), .val (.int xx), .val (.int yy), .val (.int (1 : Int32)), .unset, .unset, .unset] [(.int (1 : Int32))])) _
        refine XS.istore X201.here hx rfl (hb hby at_129) rfl (l' := #[.val (.int p1), .val (.int p2), .val (.int p3), .val (.int p4), .val (.int p5), .val (.int p6), .val (.int (1 : Int32)), .val (.int rr2), .val (.int bb2), .val (.ref b7), .val (.ref s_REPETITION_UP_SIZE_UP), .val (.int xx), .val (.int yy), .val (.int (1 : Int32)), .val (.int (1 : Int32)), .unset, .unset]) rfl ?_
        show Steps p.tables e below (T201.setTop (mkF m 131 #[.val (.int p1), .val (.int p2), .val (.int p3), .val (.int p4), .val (.int p5), .val (.int p6), .val (.int (1 : Int32)), .val (.int rr2), .val (.int bb2), .val (.ref b7), .val (.ref s_REPETITION_UP_SIZE_UP), .val (.int xx), .val (.int yy), .val (.int (1 : Int32)), .val (.int (1 : Int32)), .unset, .unset] [])) _
        refine XS.iload X201.here hx rfl (hb hby at_131) rfl ?_
        show Steps p.tables e below (T201.setTop (mkF m 133 #[.val (.int p1), .val (.int p2), .val (.int p3), .val (.int p4), .val (.int p5), .val (.int p6), .val (.int (1 : Int32)), .val (.int rr2), .val (.int bb2), .val (.ref b7), .val (.ref s_REPETITION_UP_SIZE_UP), .val (.int xx), .val (.int yy), .val (.int (1 : Int32)), .val (.int (1 : Int32)), .unset, .unset] [(.int (1 : Int32))])) _
        refine XS.iconst X201.here hx rfl (hb hby at_133) ?_
        show Steps p.tables e below (T201.setTop (mkF m 134 #[.val (.int p1), .val (.int p2), .val (.int p3), .val (.int p4), .val (.int p5), .val (.int p6), .val (.int (1 : Int32)), .val (.int rr2), .val (.int bb2), .val (.ref b7), .val (.ref s_REPETITION_UP_SIZE_UP), .val (.int xx), .val (.int yy), .val (.int (1 : Int32)), .val (.int (1 : Int32)), .unset, .unset] [(.int (4 : Int32)), (.int (1 : Int32))])) _
        refine XS.icmpYes X201.here hx rfl (pc0 := 134) (pc' := 143) rfl (hb hby at_134) rfl (feq (by decide : ¬ ((1 : Int32) = (4 : Int32)))).2 (by decide) (by decide) ?_
        show Steps p.tables e below (T201.setTop (mkF m 143 #[.val (.int p1), .val (.int p2), .val (.int p3), .val (.int p4), .val (.int p5), .val (.int p6), .val (.int (1 : Int32)), .val (.int rr2), .val (.int bb2), .val (.ref b7), .val (.ref s_REPETITION_UP_SIZE_UP), .val (.int xx), .val (.int yy), .val (.int (1 : Int32)), .val (.int (1 : Int32)), .unset, .unset] [])) _
        refine XS.iload X201.here hx rfl (hb hby at_143) rfl ?_
        show Steps p.tables e below (T201.setTop (mkF m 145 #[.val (.int p1), .val (.int p2), .val (.int p3), .val (.int p4), .val (.int p5), .val (.int p6), .val (.int (1 : Int32)), .val (.int rr2), .val (.int bb2), .val (.ref b7), .val (.ref s_REPETITION_UP_SIZE_UP), .val (.int xx), .val (.int yy), .val (.int (1 : Int32)), .val (.int (1 : Int32)), .unset, .unset] [(.int xx)])) _
        refine XS.ifNo X201.here hx rfl (hb hby at_145) rfl ((if0 _ _).trans (feq hc145).1) ?_
        show Steps p.tables e below (T201.setTop (mkF m 148 #[.val (.int p1), .val (.int p2), .val (.int p3), .val (.int p4), .val (.int p5), .val (.int p6), .val (.int (1 : Int32)), .val (.int rr2), .val (.int bb2), .val (.ref b7), .val (.ref s_REPETITION_UP_SIZE_UP), .val (.int xx), .val (.int yy), .val (.int (1 : Int32)), .val (.int (1 : Int32)), .unset, .unset] [])) _
        refine XS.iload X201.here hx rfl (hb hby at_148) rfl ?_
        show Steps p.tables e below (T201.setTop (mkF m 150 #[.val (.int p1), .val (.int p2), .val (.int p3), .val (.int p4), .val (.int p5), .val (.int p6), .val (.int (1 : Int32)), .val (.int rr2), .val (.int bb2), .val (.ref b7), .val (.ref s_REPETITION_UP_SIZE_UP), .val (.int xx), .val (.int yy), .val (.int (1 : Int32)), .val (.int (1 : Int32)), .unset, .unset] [(.int (1 : Int32))])) _
        refine XS.ifNo X201.here hx rfl (hb hby at_150) rfl ((if0 _ _).trans (feq (by decide : ¬ ((1 : Int32) = (0 : Int32)))).1) ?_
        show Steps p.tables e below (T201.setTop (mkF m 153 #[.val (.int p1), .val (.int p2), .val (.int p3), .val (.int p4), .val (.int p5), .val (.int p6), .val (.int (1 : Int32)), .val (.int rr2), .val (.int bb2), .val (.ref b7), .val (.ref s_REPETITION_UP_SIZE_UP), .val (.int xx), .val (.int yy), .val (.int (1 : Int32)), .val (.int (1 : Int32)), .unset, .unset] [])) _
        refine XS.iload X201.here hx rfl (hb hby at_153) rfl ?_
        show Steps p.tables e below (T201.setTop (mkF m 155 #[.val (.int p1), .val (.int p2), .val (.int p3), .val (.int p4), .val (.int p5), .val (.int p6), .val (.int (1 : Int32)), .val (.int rr2), .val (.int bb2), .val (.ref b7), .val (.ref s_REPETITION_UP_SIZE_UP), .val (.int xx), .val (.int yy), .val (.int (1 : Int32)), .val (.int (1 : Int32)), .unset, .unset] [(.int xx)])) _
        refine XS.istore X201.here hx rfl (hb hby at_155) rfl (l' := #[.val (.int p1), .val (.int p2), .val (.int p3), .val (.int p4), .val (.int p5), .val (.int p6), .val (.int (1 : Int32)), .val (.int rr2), .val (.int bb2), .val (.ref b7), .val (.ref s_REPETITION_UP_SIZE_UP), .val (.int xx), .val (.int yy), .val (.int (1 : Int32)), .val (.int (1 : Int32)), .val (.int xx), .unset]) rfl ?_
        show Steps p.tables e below (T201.setTop (mkF m 157 #[.val (.int p1), .val (.int p2), .val (.int p3), .val (.int p4), .val (.int p5), .val (.int p6), .val (.int (1 : Int32)), .val (.int rr2), .val (.int bb2), .val (.ref b7), .val (.ref s_REPETITION_UP_SIZE_UP), .val (.int xx), .val (.int yy), .val (.int (1 : Int32)), .val (.int (1 : Int32)), .val (.int xx), .unset] [])) _
        refine XS.goto X201.here hx rfl (pc0 := 157) (pc' := 185) rfl (hb hby at_157) (by decide) (by decide) ?_
        show Steps p.tables e below (T201.setTop (mkF m 185 #[.val (.int p1), .val (.int p2), .val (.int p3), .val (.int p4), .val (.int p5), .val (.int p6), .val (.int (1 : Int32)), .val (.int rr2), .val (.int bb2), .val (.ref b7), .val (.ref s_REPETITION_UP_SIZE_UP), .val (.int xx), .val (.int yy), .val (.int (1 : Int32)), .val (.int (1 : Int32)), .val (.int xx), .unset] [])) _
        refine XS.aload X201.here hx rfl (hb hby at_185) rfl rfl ?_
        show Steps p.tables e below (T201.setTop (mkF m 187 #[.val (.int p1), .val (.int p2), .val (.int p3), .val (.int p4), .val (.int p5), .val (.int p6), .val (.int (1 : Int32)), .val (.int rr2), .val (.int bb2), .val (.ref b7), .val (.ref s_REPETITION_UP_SIZE_UP), .val (.int xx), .val (.int yy), .val (.int (1 : Int32)), .val (.int (1 : Int32)), .val (.int xx), .unset] [(.ref s_REPETITION_UP_SIZE_UP)])) _
        refine XS.iloadN X201.here hx rfl (hb hby at_187) rfl ?_
        show Steps p.tables e below (T201.setTop (mkF m 188 #[.val (.int p1), .val (.int p2), .val (.int p3), .val (.int p4), .val (.int p5), .val (.int p6), .val (.int (1 : Int32)), .val (.int rr2), .val (.int bb2), .val (.ref b7), .val (.ref s_REPETITION_UP_SIZE_UP), .val (.int xx), .val (.int yy), .val (.int (1 : Int32)), .val (.int (1 : Int32)), .val (.int xx), .unset] [(.int p2), (.ref s_REPETITION_UP_SIZE_UP)])) _
        refine XS.iloadN X201.here hx rfl (hb hby at_188) rfl ?_
        show Steps p.tables e below (T201.setTop (mkF m 189 #[.val (.int p1), .val (.int p2), .val (.int p3), .val (.int p4), .val (.int p5), .val (.int p6), .val (.int (1 : Int32)), .val (.int rr2), .val (.int bb2), .val (.ref b7), .val (.ref s_REPETITION_UP_SIZE_UP), .val (.int xx), .val (.int yy), .val (.int (1 : Int32)), .val (.int (1 : Int32)), .val (.int xx), .unset] [(.int p3), (.int p2), (.ref s_REPETITION_UP_SIZE_UP)])) _
        refine XS.iload X201.here hx rfl (hb hby at_189) rfl ?_
        show Steps p.tables e below (T201.setTop (mkF m 191 #[.val (.int p1), .val (.int p2), .val (.int p3), .val (.int p4), .val (.int p5), .val (.int p6), .val (.int (1 : Int32)), .val (.int rr2), .val (.int bb2), .val (.ref b7), .val (.ref s_REPETITION_UP_SIZE_UP), .val (.int xx), .val (.int yy), .val (.int (1 : Int32)), .val (.int (1 : Int32)), .val (.int xx), .unset] [(.int rr2), (.int p3), (.int p2), (.ref s_REPETITION_UP_SIZE_UP)])) _
        refine XS.iload X201.here hx rfl (hb hby at_191) rfl ?_
        show Steps p.tables e below (T201.setTop (mkF m 193 #[.val (.int p1), .val (.int p2), .val (.int p3), .val (.int p4), .val (.int p5), .val (.int p6), .val (.int (1 : Int32)), .val (.int rr2), .val (.int bb2), .val (.ref b7), .val (.ref s_REPETITION_UP_SIZE_UP), .val (.int xx), .val (.int yy), .val (.int (1 : Int32)), .val (.int (1 : Int32)), .val (.int xx), .unset] [(.int bb2), (.int rr2), (.int p3), (.int p2), (.ref s_REPETITION_UP_SIZE_UP)])) _
        exact kt
      obtain ⟨cq212, kq212, q212a, q212b, q212c⟩ := isOf hZ e201 F162_145
      obtain ⟨_, _, ⟨T212, L212, k212, n212⟩, -, X212, ⟨Lc212, hQ212, l212, y212, z212⟩, st212⟩ := X201.virtualBack hx (y := (⟨"com/example/starling/starling/schedule/MessageOrder", "compare", "(IIII)I"⟩ : MethodName)) (z := (⟨"com/example/starling/starling/schedule/MessageOrder", "compare", "(IIII)I"⟩ : MethodName)) hown (mvT hZ (hw _ (mgE 19 rfl))) (mvT hZ (hw _ (mgE 20 rfl))) (notFace_of_selects (args := #[]) (mvT hZ (hw _ (mgE 22 rfl)))) (mvT hZ (hw _ (mgE 22 rfl))) (mvT hZ (hw _ (mgE 21 rfl))) (by decide) (backOf (W := 0) (rm2 l Z a0 hw [] s_REPETITION_UP_SIZE_UP p2 p3 rr2 bb2 (1 : Int32) (1 : Int32) h145 n0 Z145 F150_145 F151_145) hZ (hw _ (mgE 23 rfl)) (hw _ (mgE 4 rfl)) (by decide) (by decide)) q212a q212c (g := (mkF m 193 #[.val (.int p1), .val (.int p2), .val (.int p3), .val (.int p4), .val (.int p5), .val (.int p6), .val (.int (1 : Int32)), .val (.int rr2), .val (.int bb2), .val (.ref b7), .val (.ref s_REPETITION_UP_SIZE_UP), .val (.int xx), .val (.int yy), .val (.int (1 : Int32)), .val (.int (1 : Int32)), .val (.int xx), .unset] [(.int bb2), (.int rr2), (.int p3), (.int p2), (.ref s_REPETITION_UP_SIZE_UP)])) rfl (by rw [hml]; rfl) (Steps.refl _) (argsL := [(.int p2), (.int p3), (.int rr2), (.int bb2)]) (rest := []) (lenOf pd__IIII_I rfl) rfl (by show 2 * 0 + _ ≤ _; exact Nat.le_of_eq rfl) (hb hby at_193) (fun _ _ => ⟨rfl, e201, (by decide : 1 + 0 ≤ _), (by decide : 5 + 0 ≤ _)⟩)
      dsimp only [Pt.U, Pt.locs, Pt.cells, Pt.slots] at X212 l212 y212 z212 st212 hQ212
      subst l212 y212 z212
      obtain ⟨rfl, N212q, e212⟩ := hQ212
      have pre213 : ∀ t, Steps p.tables e below (T212.setTop (mkF m 196 #[.val (.int p1), .val (.int p2), .val (.int p3), .val (.int p4), .val (.int p5), .val (.int p6), .val (.int (1 : Int32)), .val (.int rr2), .val (.int bb2), .val (.ref b7), .val (.ref s_REPETITION_UP_SIZE_UP), .val (.int xx), .val (.int yy), .val (.int (1 : Int32)), .val (.int (1 : Int32)), .val (.int xx), .unset] [(.int (r2 p2 p3 rr2 bb2 (1 : Int32) (1 : Int32)))])) t → Steps p.tables e below (s₁.setTop (entryFrame m #[(.int p1), (.int p2), (.int p3), (.int p4), (.int p5), (.int p6)] maxLocals)) t := fun t kt => pre211 t (st212.trans kt)
      have N212 := Fr.app N201 N212q
      have pre214 : ∀ t, Steps p.tables e below (T212.setTop (mkF m 200 #[.val (.int p1), .val (.int p2), .val (.int p3), .val (.int p4), .val (.int p5), .val (.int p6), .val (.int (1 : Int32)), .val (.int rr2), .val (.int bb2), .val (.ref b7), .val (.ref s_REPETITION_UP_SIZE_UP), .val (.int xx), .val (.int yy), .val (.int (1 : Int32)), .val (.int (1 : Int32)), .val (.int xx), .val (.int (r2 p2 p3 rr2 bb2 (1 : Int32) (1 : Int32)))] [(.int (r2 p2 p3 rr2 bb2 (1 : Int32) (1 : Int32)))])) t → Steps p.tables e below (s₁.setTop (entryFrame m #[(.int p1), (.int p2), (.int p3), (.int p4), (.int p5), (.int p6)] maxLocals)) t := fun t kt => by
        refine pre213 t ?_
        refine XS.istore X212.here hx rfl (hb hby at_196) rfl (l' := #[.val (.int p1), .val (.int p2), .val (.int p3), .val (.int p4), .val (.int p5), .val (.int p6), .val (.int (1 : Int32)), .val (.int rr2), .val (.int bb2), .val (.ref b7), .val (.ref s_REPETITION_UP_SIZE_UP), .val (.int xx), .val (.int yy), .val (.int (1 : Int32)), .val (.int (1 : Int32)), .val (.int xx), .val (.int (r2 p2 p3 rr2 bb2 (1 : Int32) (1 : Int32)))]) rfl ?_
        show Steps p.tables e below (T212.setTop (mkF m 198 #[.val (.int p1), .val (.int p2), .val (.int p3), .val (.int p4), .val (.int p5), .val (.int p6), .val (.int (1 : Int32)), .val (.int rr2), .val (.int bb2), .val (.ref b7), .val (.ref s_REPETITION_UP_SIZE_UP), .val (.int xx), .val (.int yy), .val (.int (1 : Int32)), .val (.int (1 : Int32)), .val (.int xx), .val (.int (r2 p2 p3 rr2 bb2 (1 : Int32) (1 : Int32)))] [])) _
        refine XS.iload X212.here hx rfl (hb hby at_198) rfl ?_
        show Steps p.tables e below (T212.setTop (mkF m 200 #[.val (.int p1), .val (.int p2), .val (.int p3), .val (.int p4), .val (.int p5), .val (.int p6), .val (.int (1 : Int32)), .val (.int rr2), .val (.int bb2), .val (.ref b7), .val (.ref s_REPETITION_UP_SIZE_UP), .val (.int xx), .val (.int yy), .val (.int (1 : Int32)), .val (.int (1 : Int32)), .val (.int xx), .val (.int (r2 p2 p3 rr2 bb2 (1 : Int32) (1 : Int32)))] [(.int (r2 p2 p3 rr2 bb2 (1 : Int32) (1 : Int32)))])) _
        exact kt
      obtain ⟨_, _, ⟨T215, L215, k215, n215⟩, -, X215, ⟨Lc215, hQ215, l215, y215, z215⟩, st215⟩ := Jvm.LawKit.callS X212 hx (y := (⟨"com/example/starling/starling/schedule/MessageOrderComparePinLaw", "sgn", "(I)I"⟩ : MethodName)) hown (mvT hZ (hw _ (mgE 32 rfl))) (mvT hZ (hw _ (mgE 33 rfl))) (mvT hZ (hw _ (mgE 17 rfl))) (mvT hZ (hw _ (mgE 34 rfl))) (by decide) (backOf (W := 0) (rm4 l Z a0 hw [] (r2 p2 p3 rr2 bb2 (1 : Int32) (1 : Int32)) h145 n0 Z145 ) hZ (hw _ (mgE 34 rfl)) (hw _ (mgE 17 rfl)) (by decide) (by decide)) (g := (mkF m 200 #[.val (.int p1), .val (.int p2), .val (.int p3), .val (.int p4), .val (.int p5), .val (.int p6), .val (.int (1 : Int32)), .val (.int rr2), .val (.int bb2), .val (.ref b7), .val (.ref s_REPETITION_UP_SIZE_UP), .val (.int xx), .val (.int yy), .val (.int (1 : Int32)), .val (.int (1 : Int32)), .val (.int xx), .val (.int (r2 p2 p3 rr2 bb2 (1 : Int32) (1 : Int32)))] [(.int (r2 p2 p3 rr2 bb2 (1 : Int32) (1 : Int32)))])) rfl (by rw [hml]; rfl) (argsL := [(.int (r2 p2 p3 rr2 bb2 (1 : Int32) (1 : Int32)))]) (rest := []) (lenOf pd__I_I rfl) rfl (by show 2 * 0 + _ ≤ _; exact Nat.le_of_eq rfl) (hb hby at_200) (fun _ _ => ⟨rfl, e212, (by decide : 1 + 0 ≤ _), (by decide : 5 + 0 ≤ _)⟩)
      dsimp only [Pt.U, Pt.locs, Pt.cells, Pt.slots] at X215 l215 y215 z215 st215 hQ215
      subst l215 y215 z215
      obtain ⟨rfl, N215q, e215⟩ := hQ215
      have pre216 : ∀ t, Steps p.tables e below (T215.setTop (mkF m 203 #[.val (.int p1), .val (.int p2), .val (.int p3), .val (.int p4), .val (.int p5), .val (.int p6), .val (.int (1 : Int32)), .val (.int rr2), .val (.int bb2), .val (.ref b7), .val (.ref s_REPETITION_UP_SIZE_UP), .val (.int xx), .val (.int yy), .val (.int (1 : Int32)), .val (.int (1 : Int32)), .val (.int xx), .val (.int (r2 p2 p3 rr2 bb2 (1 : Int32) (1 : Int32)))] [(.int (r4 (r2 p2 p3 rr2 bb2 (1 : Int32) (1 : Int32))))])) t → Steps p.tables e below (s₁.setTop (entryFrame m #[(.int p1), (.int p2), (.int p3), (.int p4), (.int p5), (.int p6)] maxLocals)) t := fun t kt => pre214 t (st215 t kt)
      have N215 := Fr.app N212 N215q
      have hc205 : (r4 (r2 p2 p3 rr2 bb2 (1 : Int32) (1 : Int32))) = xx := by rw [own_cmp _ _ _ _ _ _ _ _ h_xx h_yy]; rcases hxx with rfl | rfl | rfl <;> rcases hyy with rfl | rfl | rfl <;> first | decide | (exfalso; revert hc145; decide)
      have pre217 : ∀ t, Steps p.tables e below (T215.setTop (mkF m 213 #[.val (.int p1), .val (.int p2), .val (.int p3), .val (.int p4), .val (.int p5), .val (.int p6), .val (.int (1 : Int32)), .val (.int rr2), .val (.int bb2), .val (.ref b7), .val (.ref s_REPETITION_UP_SIZE_UP), .val (.int xx), .val (.int yy), .val (.int (1 : Int32)), .val (.int (1 : Int32)), .val (.int xx), .val (.int (r2 p2 p3 rr2 bb2 (1 : Int32) (1 : Int32)))] [(.int (1 : Int32))])) t → Steps p.tables e below (s₁.setTop (entryFrame m #[(.int p1), (.int p2), (.int p3), (.int p4), (.int p5), (.int p6)] maxLocals)) t := fun t kt => by
        refine pre216 t ?_
        refine XS.iload X215.here hx rfl (hb hby at_203) rfl ?_
        show Steps p.tables e below (T215.setTop (mkF m 205 #[.val (.int p1), .val (.int p2), .val (.int p3), .val (.int p4), .val (.int p5), .val (.int p6), .val (.int (1 : Int32)), .val (.int rr2), .val (.int bb2), .val (.ref b7), .val (.ref s_REPETITION_UP_SIZE_UP), .val (.int xx), .val (.int yy), .val (.int (1 : Int32)), .val (.int (1 : Int32)), .val (.int xx), .val (.int (r2 p2 p3 rr2 bb2 (1 : Int32) (1 : Int32)))] [(.int xx), (.int (r4 (r2 p2 p3 rr2 bb2 (1 : Int32) (1 : Int32))))])) _
        refine XS.icmpNo X215.here hx rfl (hb hby at_205) rfl (teq hc205).2 ?_
        show Steps p.tables e below (T215.setTop (mkF m 208 #[.val (.int p1), .val (.int p2), .val (.int p3), .val (.int p4), .val (.int p5), .val (.int p6), .val (.int (1 : Int32)), .val (.int rr2), .val (.int bb2), .val (.ref b7), .val (.ref s_REPETITION_UP_SIZE_UP), .val (.int xx), .val (.int yy), .val (.int (1 : Int32)), .val (.int (1 : Int32)), .val (.int xx), .val (.int (r2 p2 p3 rr2 bb2 (1 : Int32) (1 : Int32)))] [])) _
        refine XS.iconst X215.here hx rfl (hb hby at_208) ?_
        show Steps p.tables e below (T215.setTop (mkF m 209 #[.val (.int p1), .val (.int p2), .val (.int p3), .val (.int p4), .val (.int p5), .val (.int p6), .val (.int (1 : Int32)), .val (.int rr2), .val (.int bb2), .val (.ref b7), .val (.ref s_REPETITION_UP_SIZE_UP), .val (.int xx), .val (.int yy), .val (.int (1 : Int32)), .val (.int (1 : Int32)), .val (.int xx), .val (.int (r2 p2 p3 rr2 bb2 (1 : Int32) (1 : Int32)))] [(.int (1 : Int32))])) _
        refine XS.goto X215.here hx rfl (pc0 := 209) (pc' := 213) rfl (hb hby at_209) (by decide) (by decide) ?_
        show Steps p.tables e below (T215.setTop (mkF m 213 #[.val (.int p1), .val (.int p2), .val (.int p3), .val (.int p4), .val (.int p5), .val (.int p6), .val (.int (1 : Int32)), .val (.int rr2), .val (.int bb2), .val (.ref b7), .val (.ref s_REPETITION_UP_SIZE_UP), .val (.int xx), .val (.int yy), .val (.int (1 : Int32)), .val (.int (1 : Int32)), .val (.int xx), .val (.int (r2 p2 p3 rr2 bb2 (1 : Int32) (1 : Int32)))] [(.int (1 : Int32))])) _
        exact kt
      obtain ⟨fs, hr, hrun, hended, hW, hsame⟩ := X215.leave (v := some (.int (1 : Int32))) (fun h => by rw [Bd.returns] at h; cases h)
      refine ⟨_, _, pre217 _ ?_, hrun, hended, _, _, rfl, ?_, ⟨_, rfl⟩, hW, hsame.mono (by decide) (by decide)⟩
      · exact retN X215 hx (t := .boolean) Bd.returns (by simp) (hb hby at_213) hr
      · show Q0 Z p1 p2 p3 p4 p5 p6 s_REPETITION_UP_SIZE_DOWN s_REPETITION_UP_SIZE_UP s_REPETITION_DOWN_SIZE_DOWN s_REPETITION_DOWN_SIZE_UP s_INPUT h0 n0 _ T215.heap _
        rw [e215]
        exact ⟨rfl, N215⟩
  · subst hcs
    have pre218 : ∀ t, Steps p.tables e below (T145.setTop (mkF m 75 #[.val (.int p1), .val (.int p2), .val (.int p3), .val (.int p4), .val (.int p5), .val (.int p6), .val (.int (2 : Int32)), .val (.int rr2), .val (.int bb2), .val (.ref b7), .unset, .unset, .unset, .unset, .unset, .unset, .unset] [(.int (2 : Int32)), (.ref b7)])) t → Steps p.tables e below (s₁.setTop (entryFrame m #[(.int p1), (.int p2), (.int p3), (.int p4), (.int p5), (.int p6)] maxLocals)) t := fun t kt => by
      refine pre169 t ?_
      refine XS.aload X145.here hx rfl (hb hby at_71) rfl rfl ?_
      show Steps p.tables e below (T145.setTop (mkF m 73 #[.val (.int p1), .val (.int p2), .val (.int p3), .val (.int p4), .val (.int p5), .val (.int p6), .val (.int (2 : Int32)), .val (.int rr2), .val (.int bb2), .val (.ref b7), .unset, .unset, .unset, .unset, .unset, .unset, .unset] [(.ref b7)])) _
      refine XS.iload X145.here hx rfl (hb hby at_73) rfl ?_
      show Steps p.tables e below (T145.setTop (mkF m 75 #[.val (.int p1), .val (.int p2), .val (.int p3), .val (.int p4), .val (.int p5), .val (.int p6), .val (.int (2 : Int32)), .val (.int rr2), .val (.int bb2), .val (.ref b7), .unset, .unset, .unset, .unset, .unset, .unset, .unset] [(.int (2 : Int32)), (.ref b7)])) _
      exact kt
    obtain ⟨cl219, Ar219, S219, Ng219, H219⟩ := id V145_b7
    have hj219 : ¬ (2 : Int32) < 0 ∧ (2 : Int32) < (5 : Int32) := ⟨by decide, by decide⟩
    have hin219 := inb_of S219 hj219
    have lt219 : ((2 : Int32)).toNatClampNeg < ((5 : Int32)).toNatClampNeg := by rw [← S219]; exact Nat.lt_of_not_le fun q => hin219 (Or.inr q)
    have hv219 : ((own_upd (own_upd (own_upd (own_upd (own_upd (fun _ => Value.null) ((0 : Int32)).toNatClampNeg (Value.ref s_REPETITION_UP_SIZE_DOWN)) ((1 : Int32)).toNatClampNeg (Value.ref s_REPETITION_UP_SIZE_UP)) ((2 : Int32)).toNatClampNeg (Value.ref s_REPETITION_DOWN_SIZE_DOWN)) ((3 : Int32)).toNatClampNeg (Value.ref s_REPETITION_DOWN_SIZE_UP)) ((4 : Int32)).toNatClampNeg (Value.ref s_INPUT)) ((2 : Int32)).toNatClampNeg) = (.ref s_REPETITION_DOWN_SIZE_DOWN) := rfl
    have pre220 : ∀ t, Steps p.tables e below (T145.setTop (mkF m 81 #[.val (.int p1), .val (.int p2), .val (.int p3), .val (.int p4), .val (.int p5), .val (.int p6), .val (.int (2 : Int32)), .val (.int rr2), .val (.int bb2), .val (.ref b7), .val (.ref s_REPETITION_DOWN_SIZE_DOWN), .unset, .unset, .unset, .unset, .unset, .unset] [(.int rr2), (.int p2)])) t → Steps p.tables e below (s₁.setTop (entryFrame m #[(.int p1), (.int p2), (.int p3), (.int p4), (.int p5), (.int p6)] maxLocals)) t := fun t kt => by
      refine pre218 t ?_
      refine X145.aaload hx (j := (2 : Int32)) (v := (.ref s_REPETITION_DOWN_SIZE_DOWN)) (by rw [e145]; exact Ar219.1) (State.isArrayOf_alike hZ.alike Ar219.2.1) rfl Ar219.2.2 hin219 ((H219 _ lt219).trans (congrArg some hv219)) (g := (mkF m 75 #[.val (.int p1), .val (.int p2), .val (.int p3), .val (.int p4), .val (.int p5), .val (.int p6), .val (.int (2 : Int32)), .val (.int rr2), .val (.int bb2), .val (.ref b7), .unset, .unset, .unset, .unset, .unset, .unset, .unset] [(.int (2 : Int32)), (.ref b7)])) rfl rfl (hb hby at_75) _ ?_
      show Steps p.tables e below (T145.setTop (mkF m 76 #[.val (.int p1), .val (.int p2), .val (.int p3), .val (.int p4), .val (.int p5), .val (.int p6), .val (.int (2 : Int32)), .val (.int rr2), .val (.int bb2), .val (.ref b7), .unset, .unset, .unset, .unset, .unset, .unset, .unset] [(.ref s_REPETITION_DOWN_SIZE_DOWN)])) _
      refine XS.astore X145.here hx rfl (hb hby at_76) rfl rfl (l' := #[.val (.int p1), .val (.int p2), .val (.int p3), .val (.int p4), .val (.int p5), .val (.int p6), .val (.int (2 : Int32)), .val (.int rr2), .val (.int bb2), .val (.ref b7), .val (.ref s_REPETITION_DOWN_SIZE_DOWN), .unset, .unset, .unset, .unset, .unset, .unset]) rfl ?_
      show Steps p.tables e below (T145.setTop (mkF m 78 #[.val (.int p1), .val (.int p2), .val (.int p3), .val (.int p4), .val (.int p5), .val (.int p6), .val (.int (2 : Int32)), .val (.int rr2), .val (.int bb2), .val (.ref b7), .val (.ref s_REPETITION_DOWN_SIZE_DOWN), .unset, .unset, .unset, .unset, .unset, .unset] [])) _
      refine XS.iloadN X145.here hx rfl (hb hby at_78) rfl ?_
      show Steps p.tables e below (T145.setTop (mkF m 79 #[.val (.int p1), .val (.int p2), .val (.int p3), .val (.int p4), .val (.int p5), .val (.int p6), .val (.int (2 : Int32)), .val (.int rr2), .val (.int bb2), .val (.ref b7), .val (.ref s_REPETITION_DOWN_SIZE_DOWN), .unset, .unset, .unset, .unset, .unset, .unset] [(.int p2)])) _
      refine XS.iload X145.here hx rfl (hb hby at_79) rfl ?_
      show Steps p.tables e below (T145.setTop (mkF m 81 #[.val (.int p1), .val (.int p2), .val (.int p3), .val (.int p4), .val (.int p5), .val (.int p6), .val (.int (2 : Int32)), .val (.int rr2), .val (.int bb2), .val (.ref b7), .val (.ref s_REPETITION_DOWN_SIZE_DOWN), .unset, .unset, .unset, .unset, .unset, .unset] [(.int rr2), (.int p2)])) _
      exact kt
    obtain ⟨_, _, ⟨T221, L221, k221, n221⟩, -, X221, ⟨Lc221, hQ221, l221, y221, z221⟩, st221⟩ := Jvm.LawKit.callS X145 hx (y := (⟨"com/example/starling/starling/schedule/MessageOrderComparePinLaw", "cmp", "(II)I"⟩ : MethodName)) hown (mvT hZ (hw _ (mgE 15 rfl))) (mvT hZ (hw _ (mgE 16 rfl))) (mvT hZ (hw _ (mgE 17 rfl))) (mvT hZ (hw _ (mgE 18 rfl))) (by decide) (backOf (W := 0) (rm1 l Z a0 hw [] p2 rr2 h145 n0 Z145 ) hZ (hw _ (mgE 18 rfl)) (hw _ (mgE 17 rfl)) (by decide) (by decide)) (g := (mkF m 81 #[.val (.int p1), .val (.int p2), .val (.int p3), .val (.int p4), .val (.int p5), .val (.int p6), .val (.int (2 : Int32)), .val (.int rr2), .val (.int bb2), .val (.ref b7), .val (.ref s_REPETITION_DOWN_SIZE_DOWN), .unset, .unset, .unset, .unset, .unset, .unset] [(.int rr2), (.int p2)])) rfl (by rw [hml]; rfl) (argsL := [(.int p2), (.int rr2)]) (rest := []) (lenOf pd__II_I rfl) rfl (by show 2 * 0 + _ ≤ _; exact Nat.le_of_eq rfl) (hb hby at_81) (fun _ _ => ⟨rfl, e145, (by decide : 1 + 0 ≤ _), (by decide : 5 + 0 ≤ _)⟩)
    dsimp only [Pt.U, Pt.locs, Pt.cells, Pt.slots] at X221 l221 y221 z221 st221 hQ221
    subst l221 y221 z221
    obtain ⟨rfl, N221q, e221⟩ := hQ221
    have pre222 : ∀ t, Steps p.tables e below (T221.setTop (mkF m 84 #[.val (.int p1), .val (.int p2), .val (.int p3), .val (.int p4), .val (.int p5), .val (.int p6), .val (.int (2 : Int32)), .val (.int rr2), .val (.int bb2), .val (.ref b7), .val (.ref s_REPETITION_DOWN_SIZE_DOWN), .unset, .unset, .unset, .unset, .unset, .unset] [(.int (r1 p2 rr2))])) t → Steps p.tables e below (s₁.setTop (entryFrame m #[(.int p1), (.int p2), (.int p3), (.int p4), (.int p5), (.int p6)] maxLocals)) t := fun t kt => pre220 t (st221 t kt)
    have N221 := Fr.app N145 N221q
    have pre223 : ∀ t, Steps p.tables e below (T221.setTop (mkF m 86 #[.val (.int p1), .val (.int p2), .val (.int p3), .val (.int p4), .val (.int p5), .val (.int p6), .val (.int (2 : Int32)), .val (.int rr2), .val (.int bb2), .val (.ref b7), .val (.ref s_REPETITION_DOWN_SIZE_DOWN), .val (.int (r1 p2 rr2)), .unset, .unset, .unset, .unset, .unset] [])) t → Steps p.tables e below (s₁.setTop (entryFrame m #[(.int p1), (.int p2), (.int p3), (.int p4), (.int p5), (.int p6)] maxLocals)) t := fun t kt => by
      refine pre222 t ?_
      refine XS.istore X221.here hx rfl (hb hby at_84) rfl (l' := #[.val (.int p1), .val (.int p2), .val (.int p3), .val (.int p4), .val (.int p5), .val (.int p6), .val (.int (2 : Int32)), .val (.int rr2), .val (.int bb2), .val (.ref b7), .val (.ref s_REPETITION_DOWN_SIZE_DOWN), .val (.int (r1 p2 rr2)), .unset, .unset, .unset, .unset, .unset]) rfl ?_
      show Steps p.tables e below (T221.setTop (mkF m 86 #[.val (.int p1), .val (.int p2), .val (.int p3), .val (.int p4), .val (.int p5), .val (.int p6), .val (.int (2 : Int32)), .val (.int rr2), .val (.int bb2), .val (.ref b7), .val (.ref s_REPETITION_DOWN_SIZE_DOWN), .val (.int (r1 p2 rr2)), .unset, .unset, .unset, .unset, .unset] [])) _
      exact kt
    obtain ⟨xx, h_xx⟩ : ∃ z, z = (r1 p2 rr2) := ⟨_, rfl⟩
    rw [← h_xx] at pre223
    have hxx := own_tri _ _ _ h_xx
    have pre224 : ∀ t, Steps p.tables e below (T221.setTop (mkF m 89 #[.val (.int p1), .val (.int p2), .val (.int p3), .val (.int p4), .val (.int p5), .val (.int p6), .val (.int (2 : Int32)), .val (.int rr2), .val (.int bb2), .val (.ref b7), .val (.ref s_REPETITION_DOWN_SIZE_DOWN), .val (.int xx), .unset, .unset, .unset, .unset, .unset] [(.int bb2), (.int p3)])) t → Steps p.tables e below (s₁.setTop (entryFrame m #[(.int p1), (.int p2), (.int p3), (.int p4), (.int p5), (.int p6)] maxLocals)) t := fun t kt => by
      refine pre223 t ?_
      refine XS.iloadN X221.here hx rfl (hb hby at_86) rfl ?_
      show Steps p.tables e below (T221.setTop (mkF m 87 #[.val (.int p1), .val (.int p2), .val (.int p3), .val (.int p4), .val (.int p5), .val (.int p6), .val (.int (2 : Int32)), .val (.int rr2), .val (.int bb2), .val (.ref b7), .val (.ref s_REPETITION_DOWN_SIZE_DOWN), .val (.int xx), .unset, .unset, .unset, .unset, .unset] [(.int p3)])) _
      refine XS.iload X221.here hx rfl (hb hby at_87) rfl ?_
      show Steps p.tables e below (T221.setTop (mkF m 89 #[.val (.int p1), .val (.int p2), .val (.int p3), .val (.int p4), .val (.int p5), .val (.int p6), .val (.int (2 : Int32)), .val (.int rr2), .val (.int bb2), .val (.ref b7), .val (.ref s_REPETITION_DOWN_SIZE_DOWN), .val (.int xx), .unset, .unset, .unset, .unset, .unset] [(.int bb2), (.int p3)])) _
      exact kt
    obtain ⟨_, _, ⟨T225, L225, k225, n225⟩, -, X225, ⟨Lc225, hQ225, l225, y225, z225⟩, st225⟩ := Jvm.LawKit.callS X221 hx (y := (⟨"com/example/starling/starling/schedule/MessageOrderComparePinLaw", "cmp", "(II)I"⟩ : MethodName)) hown (mvT hZ (hw _ (mgE 15 rfl))) (mvT hZ (hw _ (mgE 16 rfl))) (mvT hZ (hw _ (mgE 17 rfl))) (mvT hZ (hw _ (mgE 18 rfl))) (by decide) (backOf (W := 0) (rm1 l Z a0 hw [] p3 bb2 h145 n0 Z145 ) hZ (hw _ (mgE 18 rfl)) (hw _ (mgE 17 rfl)) (by decide) (by decide)) (g := (mkF m 89 #[.val (.int p1), .val (.int p2), .val (.int p3), .val (.int p4), .val (.int p5), .val (.int p6), .val (.int (2 : Int32)), .val (.int rr2), .val (.int bb2), .val (.ref b7), .val (.ref s_REPETITION_DOWN_SIZE_DOWN), .val (.int xx), .unset, .unset, .unset, .unset, .unset] [(.int bb2), (.int p3)])) rfl (by rw [hml]; rfl) (argsL := [(.int p3), (.int bb2)]) (rest := []) (lenOf pd__II_I rfl) rfl (by show 2 * 0 + _ ≤ _; exact Nat.le_of_eq rfl) (hb hby at_89) (fun _ _ => ⟨rfl, e221, (by decide : 1 + 0 ≤ _), (by decide : 5 + 0 ≤ _)⟩)
    dsimp only [Pt.U, Pt.locs, Pt.cells, Pt.slots] at X225 l225 y225 z225 st225 hQ225
    subst l225 y225 z225
    obtain ⟨rfl, N225q, e225⟩ := hQ225
    have pre226 : ∀ t, Steps p.tables e below (T225.setTop (mkF m 92 #[.val (.int p1), .val (.int p2), .val (.int p3), .val (.int p4), .val (.int p5), .val (.int p6), .val (.int (2 : Int32)), .val (.int rr2), .val (.int bb2), .val (.ref b7), .val (.ref s_REPETITION_DOWN_SIZE_DOWN), .val (.int xx), .unset, .unset, .unset, .unset, .unset] [(.int (r1 p3 bb2))])) t → Steps p.tables e below (s₁.setTop (entryFrame m #[(.int p1), (.int p2), (.int p3), (.int p4), (.int p5), (.int p6)] maxLocals)) t := fun t kt => pre224 t (st225 t kt)
    have N225 := Fr.app N221 N225q
    have pre227 : ∀ t, Steps p.tables e below (T225.setTop (mkF m 94 #[.val (.int p1), .val (.int p2), .val (.int p3), .val (.int p4), .val (.int p5), .val (.int p6), .val (.int (2 : Int32)), .val (.int rr2), .val (.int bb2), .val (.ref b7), .val (.ref s_REPETITION_DOWN_SIZE_DOWN), .val (.int xx), .val (.int (r1 p3 bb2)), .unset, .unset, .unset, .unset] [])) t → Steps p.tables e below (s₁.setTop (entryFrame m #[(.int p1), (.int p2), (.int p3), (.int p4), (.int p5), (.int p6)] maxLocals)) t := fun t kt => by
      refine pre226 t ?_
      refine XS.istore X225.here hx rfl (hb hby at_92) rfl (l' := #[.val (.int p1), .val (.int p2), .val (.int p3), .val (.int p4), .val (.int p5), .val (.int p6), .val (.int (2 : Int32)), .val (.int rr2), .val (.int bb2), .val (.ref b7), .val (.ref s_REPETITION_DOWN_SIZE_DOWN), .val (.int xx), .val (.int (r1 p3 bb2)), .unset, .unset, .unset, .unset]) rfl ?_
      show Steps p.tables e below (T225.setTop (mkF m 94 #[.val (.int p1), .val (.int p2), .val (.int p3), .val (.int p4), .val (.int p5), .val (.int p6), .val (.int (2 : Int32)), .val (.int rr2), .val (.int bb2), .val (.ref b7), .val (.ref s_REPETITION_DOWN_SIZE_DOWN), .val (.int xx), .val (.int (r1 p3 bb2)), .unset, .unset, .unset, .unset] [])) _
      exact kt
    obtain ⟨yy, h_yy⟩ : ∃ z, z = (r1 p3 bb2) := ⟨_, rfl⟩
    rw [← h_yy] at pre227
    have hyy := own_tri _ _ _ h_yy
    by_cases hc145 : xx = (0 : Int32)
    · skip
      have pre228 : ∀ t, Steps p.tables e below (T225.setTop (mkF m 193 #[.val (.int p1), .val (.int p2), .val (.int p3), .val (.int p4), .val (.int p5), .val (.int p6), .val (.int (2 : Int32)), .val (.int rr2), .val (.int bb2), .val (.ref b7), .val (.ref s_REPETITION_DOWN_SIZE_DOWN), .val (.int xx), .val (.int yy), .val (.int (0 : Int32)), .val (.int (0 : Int32)), .val (.int (-yy)), .unset] [(.int bb2), (.int rr2), (.int p3), (.int p2), (.ref s_REPETITION_DOWN_SIZE_DOWN)])) t → Steps p.tables e below (s₁.setTop (entryFrame m #[(.int p1), (.int p2), (.int p3), (.int p4), (.int p5), (.int p6)] maxLocals)) t := fun t kt => by
        refine pre227 t ?_
        refine XS.iload X225.here hx rfl (hb hby at_94) rfl ?_
        show Steps p.tables e below (T225.setTop (mkF m 96 #[.val (.int p1), .val (.int p2), .val (.int p3), .val (.int p4), .val (.int p5), .val (.int p6), .val (.int (2 : Int32)), .val (.int rr2), .val (.int bb2), .val (.ref b7), .val (.ref s_REPETITION_DOWN_SIZE_DOWN), .val (.int xx), .val (.int yy), .unset, .unset, .unset, .unset] [(.int (2 : Int32))])) _
        refine XS.ifNo X225.here hx rfl (hb hby at_96) rfl ((if0 _ _).trans (feq (by decide : ¬ ((2 : Int32) = (0 : Int32)))).1) ?_
        show Steps p.tables e below (T225.setTop (mkF m 99 #[.val (.int p1), .val (.int p2), .val (.int p3), .val (.int p4), .val (.int p5), .val (.int p6), .val (.int (2 : Int32)), .val (.int rr2), .val (.int bb2), .val (.ref b7), .val (.ref s_REPETITION_DOWN_SIZE_DOWN), .val (.int xx), .val (.int yy), .unset, .unset, .unset, .unset] [])) _
        refine XS.iload X225.here hx rfl (hb hby at_99) rfl ?_
        show Steps p.tables e below (T225.setTop (mkF m 101 #[.val (.int p1), .val (.int p2), .val (.int p3), .val (.int p4), .val (.int p5), .val (.int p6), .val (.int (2 : Int32)), .val (.int rr2), .val (.int bb2), .val (.ref b7), .val (.ref s_REPETITION_DOWN_SIZE_DOWN), .val (.int xx), .val (.int yy), .unset, .unset, .unset, .unset] [(.int (2 : Int32))])) _
        refine XS.iconst X225.here hx rfl (hb hby at_101) ?_
        show Steps p.tables e below (T225.setTop (mkF m 102 #[.val (.int p1), .val (.int p2), .val (.int p3), .val (.int p4), .val (.int p5), .val (.int p6), .val (.int (2 : Int32)), .val (.int rr2), .val (.int bb2), .val (.ref b7), .val (.ref s_REPETITION_DOWN_SIZE_DOWN), .val (.int xx), .val (.int yy), .unset, .unset, .unset, .unset] [(.int (1 : Int32)), (.int (2 : Int32))])) _
        refine XS.icmpYes X225.here hx rfl (pc0 := 102) (pc' := 109) rfl (hb hby at_102) rfl (feq (by decide : ¬ ((2 : Int32) = (1 : Int32)))).2 (by decide) (by decide) ?_
        show Steps p.tables e below (T225.setTop (mkF m 109 #[.val (.int p1), .val (.int p2), .val (.int p3), .val (.int p4), .val (.int p5), .val (.int p6), .val (.int (2 : Int32)), .val (.int rr2), .val (.int bb2), .val (.ref b7), .val (.ref s_REPETITION_DOWN_SIZE_DOWN), .val (.int xx), .val (.int yy), .unset, .unset, .unset, .unset] [])) _
        refine XS.iconst X225.here hx rfl (hb hby at_109) ?_
        show Steps p.tables e below (T225.setTop (mkF m 110 #[.val (.int p1), .val (.int p2), .val (.int p3), .val (.int p4), .val (.int p5), .val (.int p6), .val (.int (2 : Int32)), .val (.int rr2), .val (.int bb2), .val (.ref b7), .val (.ref s_REPETITION_DOWN_SIZE_DOWN), .val (.int xx), .val (.int yy), .unset, .unset, .unset, .unset] [(.int (0 : Int32))])) _
        refine XS.istore X225.here hx rfl (hb hby at_110) rfl (l' := #[.val (.int p1), .val (.int p2), .val (.int p3), .val (.int p4), .val (.int p5), .val (.int p6), .val (.int (2 : Int32)), .val (.int rr2), .val (.int bb2), .val (.ref b7), .val (.ref s_REPETITION_DOWN_SIZE_DOWN), .val (.int xx), .val (.int yy), .val (.int (0 : Int32)), .unset, .unset, .unset]) rfl ?_
        show Steps p.tables e below (T225.setTop (mkF m 112 #[.val (.int p1), .val (.int p2), .val (.int p3), .val (.int p4), .val (.int p5), .val (.int p6), .val (.int (2 : Int32)), .val (.int rr2), .val (.int bb2), .val (.ref b7), .val (.ref s_REPETITION_DOWN_SIZE_DOWN), .val (.int xx), .val (.int yy), .val (.int (0 : Int32)), .unset, .unset, .unset] [])) _
        refine XS.iload X225.here hx rfl (hb hby at_112) rfl ?_
        show Steps p.tables e below (T225.setTop (mkF m 114 #[.val (.int p1), .val (.int p2), .val (.int p3), .val (.int p4), .val (.int p5), .val (.int p6), .val (.int (2 : Int32)), .val (.int rr2), .val (.int bb2), .val (.ref b7), .val (.ref s_REPETITION_DOWN_SIZE_DOWN), .val (.int xx), .val (.int yy), .val (.int (0 : Int32)), .unset, .unset, .unset] [(.int (2 : Int32))])) _
        refine XS.iconst X225.here hx rfl (hb hby at_114) ?_
        show Steps p.tables e below (T225.setTop (mkF m 115 #[.val (.int p1), .val (.int p2), .val (.int p3), .val (.int p4), .val (.int p5), .val (.int p6), .val (.int (2 : Int32)), .val (.int rr2), .val (.int bb2), .val (.ref b7), .val (.ref s_REPETITION_DOWN_SIZE_DOWN), .val (.int xx), .val (.int yy), .val (.int (0 : Int32)), .unset, .unset, .unset] [(.int (1 : Int32)), (.int (2 : Int32))])) _
        refine XS.icmpNo X225.here hx rfl (hb hby at_115) rfl (feq (by decide : ¬ ((2 : Int32) = (1 : Int32)))).1 ?_
        show Steps p.tables e below (T225.setTop (mkF m 118 #[.val (.int p1), .val (.int p2), .val (.int p3), .val (.int p4), .val (.int p5), .val (.int p6), .val (.int (2 : Int32)), .val (.int rr2), .val (.int bb2), .val (.ref b7), .val (.ref s_REPETITION_DOWN_SIZE_DOWN), .val (.int xx), .val (.int yy), .val (.int (0 : Int32)), .unset, .unset, .unset] [])) _
        refine XS.iload X225.here hx rfl (hb hby at_118) rfl ?_
        show Steps p.tables e below (T225.setTop (mkF m 120 #[.val (.int p1), .val (.int p2), .val (.int p3), .val (.int p4), .val (.int p5), .val (.int p6), .val (.int (2 : Int32)), .val (.int rr2), .val (.int bb2), .val (.ref b7), .val (.ref s_REPETITION_DOWN_SIZE_DOWN), .val (.int xx), .val (.int yy), .val (.int (0 : Int32)), .unset, .unset, .unset] [(.int (2 : Int32))])) _
        refine XS.iconst X225.here hx rfl (hb hby at_120) ?_
        show Steps p.tables e below (T225.setTop (mkF m 121 #[.val (.int p1), .val (.int p2), .val (.int p3), .val (.int p4), .val (.int p5), .val (.int p6), .val (.int (2 : Int32)), .val (.int rr2), .val (.int bb2), .val (.ref b7), .val (.ref s_REPETITION_DOWN_SIZE_DOWN), .val (.int xx), .val (.int yy), .val (.int (0 : Int32)), .unset, .unset, .unset] [(.int (3 : Int32)), (.int (2 : Int32))])) _
        refine XS.icmpYes X225.here hx rfl (pc0 := 121) (pc' := 128) rfl (hb hby at_121) rfl (feq (by decide : ¬ ((2 : Int32) = (3 : Int32)))).2 (by decide) (by decide) ?_
        show Steps p.tables e below (T225.setTop (mkF m 128 #[.val (.int p1), .val (.int p2), .val (.int p3), .val (.int p4), .val (.int p5), .val (.int p6), .val (.int (2 : Int32)), .val (.int rr2), .val (.int bb2), .val (.ref b7), .val (.ref s_REPETITION_DOWN_SIZE_DOWN), .val (.int xx), .val (.int yy), .val (.int (0 : Int32)), .unset, .unset, .unset] [])) _
        refine XS.iconst X225.here hx rfl (hb hby at_128) ?_
        show Steps p.tables e below (T225.setTop (mkF m 129 #[.val (.int p1), .val (.int p2), .val (.int p3), .val (.int p4), .val (.int p5), .val (.int p6), .val (.int (2 : Int32)), .val (.int rr2), .val (.int bb2), .val (.ref b7), .val (.ref s_REPETITION_DOWN_SIZE_DOWN), .val (.int xx), .val (.int yy), .val (.int (0 : Int32)), .unset, .unset, .unset] [(.int (0 : Int32))])) _
        refine XS.istore X225.here hx rfl (hb hby at_129) rfl (l' := #[.val (.int p1), .val (.int p2), .val (.int p3), .val (.int p4), .val (.int p5), .val (.int p6), .val (.int (2 : Int32)), .val (.int rr2), .val (.int bb2), .val (.ref b7), .val (.ref s_REPETITION_DOWN_SIZE_DOWN), .val (.int xx), .val (.int yy), .val (.int (0 : Int32)), .val (.int (0 : Int32)), .unset, .unset]) rfl ?_
        show Steps p.tables e below (T225.setTop (mkF m 131 #[.val (.int p1), .val (.int p2), .val (.int p3), .val (.int p4), .val (.int p5), .val (.int p6), .val (.int (2 : Int32)), .val (.int rr2), .val (.int bb2), .val (.ref b7), .val (.ref s_REPETITION_DOWN_SIZE_DOWN), .val (.int xx), .val (.int yy), .val (.int (0 : Int32)), .val (.int (0 : Int32)), .unset, .unset] [])) _
        refine XS.iload X225.here hx rfl (hb hby at_131) rfl ?_
        show Steps p.tables e below (T225.setTop (mkF m 133 #[.val (.int p1), .val (.int p2), .val (.int p3), .val (.int p4), .val (.int p5), .val (.int p6), .val (.int (2 : Int32)), .val (.int rr2), .val (.int bb2), .val (.ref b7), .val (.ref s_REPETITION_DOWN_SIZE_DOWN), .val (.int xx), .val (.int yy), .val (.int (0 : Int32)), .val (.int (0 : Int32)), .unset, .unset] [(.int (2 : Int32))])) _
        refine XS.iconst X225.here hx rfl (hb hby at_133) ?_
        show Steps p.tables e below (T225.setTop (mkF m 134 #[.val (.int p1), .val (.int p2), .val (.int p3), .val (.int p4), .val (.int p5), .val (.int p6), .val (.int (2 : Int32)), .val (.int rr2), .val (.int bb2), .val (.ref b7), .val (.ref s_REPETITION_DOWN_SIZE_DOWN), .val (.int xx), .val (.int yy), .val (.int (0 : Int32)), .val (.int (0 : Int32)), .unset, .unset] [(.int (4 : Int32)), (.int (2 : Int32))])) _
        refine XS.icmpYes X225.here hx rfl (pc0 := 134) (pc' := 143) rfl (hb hby at_134) rfl (feq (by decide : ¬ ((2 : Int32) = (4 : Int32)))).2 (by decide) (by decide) ?_
        show Steps p.tables e below (T225.setTop (mkF m 143 #[.val (.int p1), .val (.int p2), .val (.int p3), .val (.int p4), .val (.int p5), .val (.int p6), .val (.int (2 : Int32)), .val (.int rr2), .val (.int bb2), .val (.ref b7), .val (.ref s_REPETITION_DOWN_SIZE_DOWN), .val (.int xx), .val (.int yy), .val (.int (0 : Int32)), .val (.int (0 : Int32)), .unset, .unset] [])) _
        refine XS.iload X225.here hx rfl (hb hby at_143) rfl ?_
        show Steps p.tables e below (T225.setTop (mkF m 145 #[.val (.int p1), .val (.int p2), .val (.int p3), .val (.int p4), .val (.int p5), .val (.int p6), .val (.int (2 : Int32)), .val (.int rr2), .val (.int bb2), .val (.ref b7), .val (.ref s_REPETITION_DOWN_SIZE_DOWN), .val (.int xx), .val (.int yy), .val (.int (0 : Int32)), .val (.int (0 : Int32)), .unset, .unset] [(.int xx)])) _
        refine XS.ifYes X225.here hx rfl (pc0 := 145) (pc' := 168) rfl (hb hby at_145) rfl ((if0 _ _).trans (teq hc145).1) (by decide) (by decide) ?_
        show Steps p.tables e below (T225.setTop (mkF m 168 #[.val (.int p1), .val (.int p2), .val (.int p3), .val (.int p4), .val (.int p5), .val (.int p6), .val (.int (2 : Int32)), .val (.int rr2), .val (.int bb2), .val (.ref b7), .val (.ref s_REPETITION_DOWN_SIZE_DOWN), .val (.int xx), .val (.int yy), .val (.int (0 : Int32)), .val (.int (0 : Int32)), .unset, .unset] [])) _
        refine XS.iload X225.here hx rfl (hb hby at_168) rfl ?_
        show Steps p.tables e below (T225.setTop (mkF m 170 #[.val (.int p1), .val (.int p2), .val (.int p3), .val (.int p4), .val (.int p5), .val (.int p6), .val (.int (2 : Int32)), .val (.int rr2), .val (.int bb2), .val (.ref b7), .val (.ref s_REPETITION_DOWN_SIZE_DOWN), .val (.int xx), .val (.int yy), .val (.int (0 : Int32)), .val (.int (0 : Int32)), .unset, .unset] [(.int (0 : Int32))])) _
        refine XS.ifYes X225.here hx rfl (pc0 := 170) (pc' := 180) rfl (hb hby at_170) rfl ((if0 _ _).trans (teq (by decide : (0 : Int32) = (0 : Int32))).1) (by decide) (by decide) ?_
        show Steps p.tables e below (T225.setTop (mkF m 180 #[.val (.int p1), .val (.int p2), .val (.int p3), .val (.int p4), .val (.int p5), .val (.int p6), .val (.int (2 : Int32)), .val (.int rr2), .val (.int bb2), .val (.ref b7), .val (.ref s_REPETITION_DOWN_SIZE_DOWN), .val (.int xx), .val (.int yy), .val (.int (0 : Int32)), .val (.int (0 : Int32)), .unset, .unset] [])) _
        refine XS.iload X225.here hx rfl (hb hby at_180) rfl ?_
        show Steps p.tables e below (T225.setTop (mkF m 182 #[.val (.int p1), .val (.int p2), .val (.int p3), .val (.int p4), .val (.int p5), .val (.int p6), .val (.int (2 : Int32)), .val (.int rr2), .val (.int bb2), .val (.ref b7), .val (.ref s_REPETITION_DOWN_SIZE_DOWN), .val (.int xx), .val (.int yy), .val (.int (0 : Int32)), .val (.int (0 : Int32)), .unset, .unset] [(.int yy)])) _
        refine XS.ineg X225.here hx rfl (hb hby at_182) rfl ?_
        show Steps p.tables e below (T225.setTop (mkF m 183 #[.val (.int p1), .val (.int p2), .val (.int p3), .val (.int p4), .val (.int p5), .val (.int p6), .val (.int (2 : Int32)), .val (.int rr2), .val (.int bb2), .val (.ref b7), .val (.ref s_REPETITION_DOWN_SIZE_DOWN), .val (.int xx), .val (.int yy), .val (.int (0 : Int32)), .val (.int (0 : Int32)), .unset, .unset] [(.int (-yy))])) _
        refine XS.istore X225.here hx rfl (hb hby at_183) rfl (l' := #[.val (.int p1), .val (.int p2), .val (.int p3), .val (.int p4), .val (.int p5), .val (.int p6), .val (.int (2 : Int32)), .val (.int rr2), .val (.int bb2), .val (.ref b7), .val (.ref s_REPETITION_DOWN_SIZE_DOWN), .val (.int xx), .val (.int yy), .val (.int (0 : Int32)), .val (.int (0 : Int32)), .val (.int (-yy)), .unset]) rfl ?_
        show Steps p.tables e below (T225.setTop (mkF m 185 #[.val (.int p1), .val (.int p2), .val (.int p3), .val (.int p4), .val (.int p5), .val (.int p6), .val (.int (2 : Int32)), .val (.int rr2), .val (.int bb2), .val (.ref b7), .val (.ref s_REPETITION_DOWN_SIZE_DOWN), .val (.int xx), .val (.int yy), .val (.int (0 : Int32)), .val (.int (0 : Int32)), .val (.int (-yy)), .unset] [])) _
        refine XS.aload X225.here hx rfl (hb hby at_185) rfl rfl ?_
        show Steps p.tables e below (T225.setTop (mkF m 187 #[.val (.int p1), .val (.int p2), .val (.int p3), .val (.int p4), .val (.int p5), .val (.int p6), .val (.int (2 : Int32)), .val (.int rr2), .val (.int bb2), .val (.ref b7), .val (.ref s_REPETITION_DOWN_SIZE_DOWN), .val (.int xx), .val (.int yy), .val (.int (0 : Int32)), .val (.int (0 : Int32)), .val (.int (-yy)), .unset] [(.ref s_REPETITION_DOWN_SIZE_DOWN)])) _
        refine XS.iloadN X225.here hx rfl (hb hby at_187) rfl ?_
        show Steps p.tables e below (T225.setTop (mkF m 188 #[.val (.int p1), .val (.int p2), .val (.int p3), .val (.int p4), .val (.int p5), .val (.int p6), .val (.int (2 : Int32)), .val (.int rr2), .val (.int bb2), .val (.ref b7), .val (.ref s_REPETITION_DOWN_SIZE_DOWN), .val (.int xx), .val (.int yy), .val (.int (0 : Int32)), .val (.int (0 : Int32)), .val (.int (-yy)), .unset] [(.int p2), (.ref s_REPETITION_DOWN_SIZE_DOWN)])) _
        refine XS.iloadN X225.here hx rfl (hb hby at_188) rfl ?_
        show Steps p.tables e below (T225.setTop (mkF m 189 #[.val (.int p1), .val (.int p2), .val (.int p3), .val (.int p4), .val (.int p5), .val (.int p6), .val (.int (2 : Int32)), .val (.int rr2), .val (.int bb2), .val (.ref b7), .val (.ref s_REPETITION_DOWN_SIZE_DOWN), .val (.int xx), .val (.int yy), .val (.int (0 : Int32)), .val (.int (0 : Int32)), .val (.int (-yy)), .unset] [(.int p3), (.int p2), (.ref s_REPETITION_DOWN_SIZE_DOWN)])) _
        refine XS.iload X225.here hx rfl (hb hby at_189) rfl ?_
        show Steps p.tables e below (T225.setTop (mkF m 191 #[.val (.int p1), .val (.int p2), .val (.int p3), .val (.int p4), .val (.int p5), .val (.int p6), .val (.int (2 : Int32)), .val (.int rr2), .val (.int bb2), .val (.ref b7), .val (.ref s_REPETITION_DOWN_SIZE_DOWN), .val (.int xx), .val (.int yy), .val (.int (0 : Int32)), .val (.int (0 : Int32)), .val (.int (-yy)), .unset] [(.int rr2), (.int p3), (.int p2), (.ref s_REPETITION_DOWN_SIZE_DOWN)])) _
        refine XS.iload X225.here hx rfl (hb hby at_191) rfl ?_
        show Steps p.tables e below (T225.setTop (mkF m 193 #[.val (.int p1), .val (.int p2), .val (.int p3), .val (.int p4), .val (.int p5), .val (.int p6), .val (.int (2 : Int32)), .val (.int rr2), .val (.int bb2), .val (.ref b7), .val (.ref s_REPETITION_DOWN_SIZE_DOWN), .val (.int xx), .val (.int yy), .val (.int (0 : Int32)), .val (.int (0 : Int32)), .val (.int (-yy)), .unset] [(.int bb2), (.int rr2), (.int p3), (.int p2), (.ref s_REPETITION_DOWN_SIZE_DOWN)])) _
        exact kt
      obtain ⟨cq229, kq229, q229a, q229b, q229c⟩ := isOf hZ e225 F163_145
      obtain ⟨_, _, ⟨T229, L229, k229, n229⟩, -, X229, ⟨Lc229, hQ229, l229, y229, z229⟩, st229⟩ := X225.virtualBack hx (y := (⟨"com/example/starling/starling/schedule/MessageOrder", "compare", "(IIII)I"⟩ : MethodName)) (z := (⟨"com/example/starling/starling/schedule/MessageOrder", "compare", "(IIII)I"⟩ : MethodName)) hown (mvT hZ (hw _ (mgE 19 rfl))) (mvT hZ (hw _ (mgE 20 rfl))) (notFace_of_selects (args := #[]) (mvT hZ (hw _ (mgE 22 rfl)))) (mvT hZ (hw _ (mgE 22 rfl))) (mvT hZ (hw _ (mgE 21 rfl))) (by decide) (backOf (W := 0) (rm2 l Z a0 hw [] s_REPETITION_DOWN_SIZE_DOWN p2 p3 rr2 bb2 (-1 : Int32) (-1 : Int32) h145 n0 Z145 F153_145 F154_145) hZ (hw _ (mgE 23 rfl)) (hw _ (mgE 4 rfl)) (by decide) (by decide)) q229a q229c (g := (mkF m 193 #[.val (.int p1), .val (.int p2), .val (.int p3), .val (.int p4), .val (.int p5), .val (.int p6), .val (.int (2 : Int32)), .val (.int rr2), .val (.int bb2), .val (.ref b7), .val (.ref s_REPETITION_DOWN_SIZE_DOWN), .val (.int xx), .val (.int yy), .val (.int (0 : Int32)), .val (.int (0 : Int32)), .val (.int (-yy)), .unset] [(.int bb2), (.int rr2), (.int p3), (.int p2), (.ref s_REPETITION_DOWN_SIZE_DOWN)])) rfl (by rw [hml]; rfl) (Steps.refl _) (argsL := [(.int p2), (.int p3), (.int rr2), (.int bb2)]) (rest := []) (lenOf pd__IIII_I rfl) rfl (by show 2 * 0 + _ ≤ _; exact Nat.le_of_eq rfl) (hb hby at_193) (fun _ _ => ⟨rfl, e225, (by decide : 1 + 0 ≤ _), (by decide : 5 + 0 ≤ _)⟩)
      dsimp only [Pt.U, Pt.locs, Pt.cells, Pt.slots] at X229 l229 y229 z229 st229 hQ229
      subst l229 y229 z229
      obtain ⟨rfl, N229q, e229⟩ := hQ229
      have pre230 : ∀ t, Steps p.tables e below (T229.setTop (mkF m 196 #[.val (.int p1), .val (.int p2), .val (.int p3), .val (.int p4), .val (.int p5), .val (.int p6), .val (.int (2 : Int32)), .val (.int rr2), .val (.int bb2), .val (.ref b7), .val (.ref s_REPETITION_DOWN_SIZE_DOWN), .val (.int xx), .val (.int yy), .val (.int (0 : Int32)), .val (.int (0 : Int32)), .val (.int (-yy)), .unset] [(.int (r2 p2 p3 rr2 bb2 (-1 : Int32) (-1 : Int32)))])) t → Steps p.tables e below (s₁.setTop (entryFrame m #[(.int p1), (.int p2), (.int p3), (.int p4), (.int p5), (.int p6)] maxLocals)) t := fun t kt => pre228 t (st229.trans kt)
      have N229 := Fr.app N225 N229q
      have pre231 : ∀ t, Steps p.tables e below (T229.setTop (mkF m 200 #[.val (.int p1), .val (.int p2), .val (.int p3), .val (.int p4), .val (.int p5), .val (.int p6), .val (.int (2 : Int32)), .val (.int rr2), .val (.int bb2), .val (.ref b7), .val (.ref s_REPETITION_DOWN_SIZE_DOWN), .val (.int xx), .val (.int yy), .val (.int (0 : Int32)), .val (.int (0 : Int32)), .val (.int (-yy)), .val (.int (r2 p2 p3 rr2 bb2 (-1 : Int32) (-1 : Int32)))] [(.int (r2 p2 p3 rr2 bb2 (-1 : Int32) (-1 : Int32)))])) t → Steps p.tables e below (s₁.setTop (entryFrame m #[(.int p1), (.int p2), (.int p3), (.int p4), (.int p5), (.int p6)] maxLocals)) t := fun t kt => by
        refine pre230 t ?_
        refine XS.istore X229.here hx rfl (hb hby at_196) rfl (l' := #[.val (.int p1), .val (.int p2), .val (.int p3), .val (.int p4), .val (.int p5), .val (.int p6), .val (.int (2 : Int32)), .val (.int rr2), .val (.int bb2), .val (.ref b7), .val (.ref s_REPETITION_DOWN_SIZE_DOWN), .val (.int xx), .val (.int yy), .val (.int (0 : Int32)), .val (.int (0 : Int32)), .val (.int (-yy)), .val (.int (r2 p2 p3 rr2 bb2 (-1 : Int32) (-1 : Int32)))]) rfl ?_
        show Steps p.tables e below (T229.setTop (mkF m 198 #[.val (.int p1), .val (.int p2), .val (.int p3), .val (.int p4), .val (.int p5), .val (.int p6), .val (.int (2 : Int32)), .val (.int rr2), .val (.int bb2), .val (.ref b7), .val (.ref s_REPETITION_DOWN_SIZE_DOWN), .val (.int xx), .val (.int yy), .val (.int (0 : Int32)), .val (.int (0 : Int32)), .val (.int (-yy)), .val (.int (r2 p2 p3 rr2 bb2 (-1 : Int32) (-1 : Int32)))] [])) _
        refine XS.iload X229.here hx rfl (hb hby at_198) rfl ?_
        show Steps p.tables e below (T229.setTop (mkF m 200 #[.val (.int p1), .val (.int p2), .val (.int p3), .val (.int p4), .val (.int p5), .val (.int p6), .val (.int (2 : Int32)), .val (.int rr2), .val (.int bb2), .val (.ref b7), .val (.ref s_REPETITION_DOWN_SIZE_DOWN), .val (.int xx), .val (.int yy), .val (.int (0 : Int32)), .val (.int (0 : Int32)), .val (.int (-yy)), .val (.int (r2 p2 p3 rr2 bb2 (-1 : Int32) (-1 : Int32)))] [(.int (r2 p2 p3 rr2 bb2 (-1 : Int32) (-1 : Int32)))])) _
        exact kt
      obtain ⟨_, _, ⟨T232, L232, k232, n232⟩, -, X232, ⟨Lc232, hQ232, l232, y232, z232⟩, st232⟩ := Jvm.LawKit.callS X229 hx (y := (⟨"com/example/starling/starling/schedule/MessageOrderComparePinLaw", "sgn", "(I)I"⟩ : MethodName)) hown (mvT hZ (hw _ (mgE 32 rfl))) (mvT hZ (hw _ (mgE 33 rfl))) (mvT hZ (hw _ (mgE 17 rfl))) (mvT hZ (hw _ (mgE 34 rfl))) (by decide) (backOf (W := 0) (rm4 l Z a0 hw [] (r2 p2 p3 rr2 bb2 (-1 : Int32) (-1 : Int32)) h145 n0 Z145 ) hZ (hw _ (mgE 34 rfl)) (hw _ (mgE 17 rfl)) (by decide) (by decide)) (g := (mkF m 200 #[.val (.int p1), .val (.int p2), .val (.int p3), .val (.int p4), .val (.int p5), .val (.int p6), .val (.int (2 : Int32)), .val (.int rr2), .val (.int bb2), .val (.ref b7), .val (.ref s_REPETITION_DOWN_SIZE_DOWN), .val (.int xx), .val (.int yy), .val (.int (0 : Int32)), .val (.int (0 : Int32)), .val (.int (-yy)), .val (.int (r2 p2 p3 rr2 bb2 (-1 : Int32) (-1 : Int32)))] [(.int (r2 p2 p3 rr2 bb2 (-1 : Int32) (-1 : Int32)))])) rfl (by rw [hml]; rfl) (argsL := [(.int (r2 p2 p3 rr2 bb2 (-1 : Int32) (-1 : Int32)))]) (rest := []) (lenOf pd__I_I rfl) rfl (by show 2 * 0 + _ ≤ _; exact Nat.le_of_eq rfl) (hb hby at_200) (fun _ _ => ⟨rfl, e229, (by decide : 1 + 0 ≤ _), (by decide : 5 + 0 ≤ _)⟩)
      dsimp only [Pt.U, Pt.locs, Pt.cells, Pt.slots] at X232 l232 y232 z232 st232 hQ232
      subst l232 y232 z232
      obtain ⟨rfl, N232q, e232⟩ := hQ232
      have pre233 : ∀ t, Steps p.tables e below (T232.setTop (mkF m 203 #[.val (.int p1), .val (.int p2), .val (.int p3), .val (.int p4), .val (.int p5), .val (.int p6), .val (.int (2 : Int32)), .val (.int rr2), .val (.int bb2), .val (.ref b7), .val (.ref s_REPETITION_DOWN_SIZE_DOWN), .val (.int xx), .val (.int yy), .val (.int (0 : Int32)), .val (.int (0 : Int32)), .val (.int (-yy)), .val (.int (r2 p2 p3 rr2 bb2 (-1 : Int32) (-1 : Int32)))] [(.int (r4 (r2 p2 p3 rr2 bb2 (-1 : Int32) (-1 : Int32))))])) t → Steps p.tables e below (s₁.setTop (entryFrame m #[(.int p1), (.int p2), (.int p3), (.int p4), (.int p5), (.int p6)] maxLocals)) t := fun t kt => pre231 t (st232 t kt)
      have N232 := Fr.app N229 N232q
      have hc205 : (r4 (r2 p2 p3 rr2 bb2 (-1 : Int32) (-1 : Int32))) = (-yy) := by rw [own_cmp _ _ _ _ _ _ _ _ h_xx h_yy]; rcases hxx with rfl | rfl | rfl <;> rcases hyy with rfl | rfl | rfl <;> first | decide | (exfalso; revert hc145; decide)
      have pre234 : ∀ t, Steps p.tables e below (T232.setTop (mkF m 213 #[.val (.int p1), .val (.int p2), .val (.int p3), .val (.int p4), .val (.int p5), .val (.int p6), .val (.int (2 : Int32)), .val (.int rr2), .val (.int bb2), .val (.ref b7), .val (.ref s_REPETITION_DOWN_SIZE_DOWN), .val (.int xx), .val (.int yy), .val (.int (0 : Int32)), .val (.int (0 : Int32)), .val (.int (-yy)), .val (.int (r2 p2 p3 rr2 bb2 (-1 : Int32) (-1 : Int32)))] [(.int (1 : Int32))])) t → Steps p.tables e below (s₁.setTop (entryFrame m #[(.int p1), (.int p2), (.int p3), (.int p4), (.int p5), (.int p6)] maxLocals)) t := fun t kt => by
        refine pre233 t ?_
        refine XS.iload X232.here hx rfl (hb hby at_203) rfl ?_
        show Steps p.tables e below (T232.setTop (mkF m 205 #[.val (.int p1), .val (.int p2), .val (.int p3), .val (.int p4), .val (.int p5), .val (.int p6), .val (.int (2 : Int32)), .val (.int rr2), .val (.int bb2), .val (.ref b7), .val (.ref s_REPETITION_DOWN_SIZE_DOWN), .val (.int xx), .val (.int yy), .val (.int (0 : Int32)), .val (.int (0 : Int32)), .val (.int (-yy)), .val (.int (r2 p2 p3 rr2 bb2 (-1 : Int32) (-1 : Int32)))] [(.int (-yy)), (.int (r4 (r2 p2 p3 rr2 bb2 (-1 : Int32) (-1 : Int32))))])) _
        refine XS.icmpNo X232.here hx rfl (hb hby at_205) rfl (teq hc205).2 ?_
        show Steps p.tables e below (T232.setTop (mkF m 208 #[.val (.int p1), .val (.int p2), .val (.int p3), .val (.int p4), .val (.int p5), .val (.int p6), .val (.int (2 : Int32)), .val (.int rr2), .val (.int bb2), .val (.ref b7), .val (.ref s_REPETITION_DOWN_SIZE_DOWN), .val (.int xx), .val (.int yy), .val (.int (0 : Int32)), .val (.int (0 : Int32)), .val (.int (-yy)), .val (.int (r2 p2 p3 rr2 bb2 (-1 : Int32) (-1 : Int32)))] [])) _
        refine XS.iconst X232.here hx rfl (hb hby at_208) ?_
        show Steps p.tables e below (T232.setTop (mkF m 209 #[.val (.int p1), .val (.int p2), .val (.int p3), .val (.int p4), .val (.int p5), .val (.int p6), .val (.int (2 : Int32)), .val (.int rr2), .val (.int bb2), .val (.ref b7), .val (.ref s_REPETITION_DOWN_SIZE_DOWN), .val (.int xx), .val (.int yy), .val (.int (0 : Int32)), .val (.int (0 : Int32)), .val (.int (-yy)), .val (.int (r2 p2 p3 rr2 bb2 (-1 : Int32) (-1 : Int32)))] [(.int (1 : Int32))])) _
        refine XS.goto X232.here hx rfl (pc0 := 209) (pc' := 213) rfl (hb hby at_209) (by decide) (by decide) ?_
        show Steps p.tables e below (T232.setTop (mkF m 213 #[.val (.int p1), .val (.int p2), .val (.int p3), .val (.int p4), .val (.int p5), .val (.int p6), .val (.int (2 : Int32)), .val (.int rr2), .val (.int bb2), .val (.ref b7), .val (.ref s_REPETITION_DOWN_SIZE_DOWN), .val (.int xx), .val (.int yy), .val (.int (0 : Int32)), .val (.int (0 : Int32)), .val (.int (-yy)), .val (.int (r2 p2 p3 rr2 bb2 (-1 : Int32) (-1 : Int32)))] [(.int (1 : Int32))])) _
        exact kt
      obtain ⟨fs, hr, hrun, hended, hW, hsame⟩ := X232.leave (v := some (.int (1 : Int32))) (fun h => by rw [Bd.returns] at h; cases h)
      refine ⟨_, _, pre234 _ ?_, hrun, hended, _, _, rfl, ?_, ⟨_, rfl⟩, hW, hsame.mono (by decide) (by decide)⟩
      · exact retN X232 hx (t := .boolean) Bd.returns (by simp) (hb hby at_213) hr
      · show Q0 Z p1 p2 p3 p4 p5 p6 s_REPETITION_UP_SIZE_DOWN s_REPETITION_UP_SIZE_UP s_REPETITION_DOWN_SIZE_DOWN s_REPETITION_DOWN_SIZE_UP s_INPUT h0 n0 _ T232.heap _
        rw [e232]
        exact ⟨rfl, N232⟩
    · skip
      have pre235 : ∀ t, Steps p.tables e below (T225.setTop (mkF m 193 #[.val (.int p1), .val (.int p2), .val (.int p3), .val (.int p4), .val (.int p5), .val (.int p6), .val (.int (2 : Int32)), .val (.int rr2), .val (.int bb2), .val (.ref b7), .val (.ref s_REPETITION_DOWN_SIZE_DOWN), .val (.int xx), .val (.int yy), .val (.int (0 : Int32)), .val (.int (0 : Int32)), .val (.int (-xx)), .unset] [(.int bb2), (.int rr2), (.int p3), (.int p2), (.ref s_REPETITION_DOWN_SIZE_DOWN)])) t → Steps p.tables e below (s₁.setTop (entryFrame m #[(.int p1), (.int p2), (.int p3), (.int p4), (.int p5), (.int p6)] maxLocals)) t := fun t kt => by
        refine pre227 t ?_
        refine XS.iload X225.here hx rfl (hb hby at_94) rfl ?_
        show Steps p.tables e below (T225.setTop (mkF m 96 #[.val (.int p1), .val (.int p2), .val (.int p3), .val (.int p4), .val (.int p5), .val (.int p6), .val (.int (2 : Int32)), .val (.int rr2), .val (.int bb2), .val (.ref b7), .val (.ref s_REPETITION_DOWN_SIZE_DOWN), .val (.int xx), .val (.int yy), .unset, .unset, .unset, .unset] [(.int (2 : Int32))])) _
        refine XS.ifNo X225.here hx rfl (hb hby at_96) rfl ((if0 _ _).trans (feq (by decide : ¬ ((2 : Int32) = (0 : Int32)))).1) ?_
        show Steps p.tables e below (T225.setTop (mkF m 99 #[.val (.int p1), .val (.int p2), .val (.int p3), .val (.int p4), .val (.int p5), .val (.int p6), .val (.int (2 : Int32)), .val (.int rr2), .val (.int bb2), .val (.ref b7), .val (.ref s_REPETITION_DOWN_SIZE_DOWN), .val (.int xx), .val (.int yy), .unset, .unset, .unset, .unset] [])) _
        refine XS.iload X225.here hx rfl (hb hby at_99) rfl ?_
        show Steps p.tables e below (T225.setTop (mkF m 101 #[.val (.int p1), .val (.int p2), .val (.int p3), .val (.int p4), .val (.int p5), .val (.int p6), .val (.int (2 : Int32)), .val (.int rr2), .val (.int bb2), .val (.ref b7), .val (.ref s_REPETITION_DOWN_SIZE_DOWN), .val (.int xx), .val (.int yy), .unset, .unset, .unset, .unset] [(.int (2 : Int32))])) _
        refine XS.iconst X225.here hx rfl (hb hby at_101) ?_
        show Steps p.tables e below (T225.setTop (mkF m 102 #[.val (.int p1), .val (.int p2), .val (.int p3), .val (.int p4), .val (.int p5), .val (.int p6), .val (.int (2 : Int32)), .val (.int rr2), .val (.int bb2), .val (.ref b7), .val (.ref s_REPETITION_DOWN_SIZE_DOWN), .val (.int xx), .val (.int yy), .unset, .unset, .unset, .unset] [(.int (1 : Int32)), (.int (2 : Int32))])) _
        refine XS.icmpYes X225.here hx rfl (pc0 := 102) (pc' := 109) rfl (hb hby at_102) rfl (feq (by decide : ¬ ((2 : Int32) = (1 : Int32)))).2 (by decide) (by decide) ?_
        show Steps p.tables e below (T225.setTop (mkF m 109 #[.val (.int p1), .val (.int p2), .val (.int p3), .val (.int p4), .val (.int p5), .val (.int p6), .val (.int (2 : Int32)), .val (.int rr2), .val (.int bb2), .val (.ref b7), .val (.ref s_REPETITION_DOWN_SIZE_DOWN), .val (.int xx), .val (.int yy), .unset, .unset, .unset, .unset] [])) _
        refine XS.iconst X225.here hx rfl (hb hby at_109) ?_
        show Steps p.tables e below (T225.setTop (mkF m 110 #[.val (.int p1), .val (.int p2), .val (.int p3), .val (.int p4), .val (.int p5), .val (.int p6), .val (.int (2 : Int32)), .val (.int rr2), .val (.int bb2), .val (.ref b7), .val (.ref s_REPETITION_DOWN_SIZE_DOWN), .val (.int xx), .val (.int yy), .unset, .unset, .unset, .unset] [(.int (0 : Int32))])) _
        refine XS.istore X225.here hx rfl (hb hby at_110) rfl (l' := #[.val (.int p1), .val (.int p2), .val (.int p3), .val (.int p4), .val (.int p5), .val (.int p6), .val (.int (2 : Int32)), .val (.int rr2), .val (.int bb2), .val (.ref b7), .val (.ref s_REPETITION_DOWN_SIZE_DOWN), .val (.int xx), .val (.int yy), .val (.int (0 : Int32)), .unset, .unset, .unset]) rfl ?_
        show Steps p.tables e below (T225.setTop (mkF m 112 #[.val (.int p1), .val (.int p2), .val (.int p3), .val (.int p4), .val (.int p5), .val (.int p6), .val (.int (2 : Int32)), .val (.int rr2), .val (.int bb2), .val (.ref b7), .val (.ref s_REPETITION_DOWN_SIZE_DOWN), .val (.int xx), .val (.int yy), .val (.int (0 : Int32)), .unset, .unset, .unset] [])) _
        refine XS.iload X225.here hx rfl (hb hby at_112) rfl ?_
        show Steps p.tables e below (T225.setTop (mkF m 114 #[.val (.int p1), .val (.int p2), .val (.int p3), .val (.int p4), .val (.int p5), .val (.int p6), .val (.int (2 : Int32)), .val (.int rr2), .val (.int bb2), .val (.ref b7), .val (.ref s_REPETITION_DOWN_SIZE_DOWN), .val (.int xx), .val (.int yy), .val (.int (0 : Int32)), .unset, .unset, .unset] [(.int (2 : Int32))])) _
        refine XS.iconst X225.here hx rfl (hb hby at_114) ?_
        show Steps p.tables e below (T225.setTop (mkF m 115 #[.val (.int p1), .val (.int p2), .val (.int p3), .val (.int p4), .val (.int p5), .val (.int p6), .val (.int (2 : Int32)), .val (.int rr2), .val (.int bb2), .val (.ref b7), .val (.ref s_REPETITION_DOWN_SIZE_DOWN), .val (.int xx), .val (.int yy), .val (.int (0 : Int32)), .unset, .unset, .unset] [(.int (1 : Int32)), (.int (2 : Int32))])) _
        refine XS.icmpNo X225.here hx rfl (hb hby at_115) rfl (feq (by decide : ¬ ((2 : Int32) = (1 : Int32)))).1 ?_
        show Steps p.tables e below (T225.setTop (mkF m 118 #[.val (.int p1), .val (.int p2), .val (.int p3), .val (.int p4), .val (.int p5), .val (.int p6), .val (.int (2 : Int32)), .val (.int rr2), .val (.int bb2), .val (.ref b7), .val (.ref s_REPETITION_DOWN_SIZE_DOWN), .val (.int xx), .val (.int yy), .val (.int (0 : Int32)), .unset, .unset, .unset] [])) _
        refine XS.iload X225.here hx rfl (hb hby at_118) rfl ?_
        show Steps p.tables e below (T225.setTop (mkF m 120 #[.val (.int p1), .val (.int p2), .val (.int p3), .val (.int p4), .val (.int p5), .val (.int p6), .val (.int (2 : Int32)), .val (.int rr2), .val (.int bb2), .val (.ref b7), .val (.ref s_REPETITION_DOWN_SIZE_DOWN), .val (.int xx), .val (.int yy), .val (.int (0 : Int32)), .unset, .unset, .unset] [(.int (2 : Int32))])) _
        refine XS.iconst X225.here hx rfl (hb hby at_120) ?_
        show Steps p.tables e below (T225.setTop (mkF m 121 #[.val (.int p1), .val (.int p2), .val (.int p3), .val (.int p4), .val (.int p5), .val (.int p6), .val (.int (2 : Int32)), .val (.int rr2), .val (.int bb2), .val (.ref b7), .val (.ref s_REPETITION_DOWN_SIZE_DOWN), .val (.int xx), .val (.int yy), .val (.int (0 : Int32)), .unset, .unset, .unset] [(.int (3 : Int32)), (.int (2 : Int32))])) _
        refine XS.icmpYes X225.here hx rfl (pc0 := 121) (pc' := 128) rfl (hb hby at_121) rfl (feq (by decide : ¬ ((2 : Int32) = (3 : Int32)))).2 (by decide) (by decide) ?_
        show Steps p.tables e below (T225.setTop (mkF m 128 #[.val (.int p1), .val (.int p2), .val (.int p3), .val (.int p4), .val (.int p5), .val (.int p6), .val (.int (2 : Int32)), .val (.int rr2), .val (.int bb2), .val (.ref b7), .val (.ref s_REPETITION_DOWN_SIZE_DOWN), .val (.int xx), .val (.int yy), .val (.int (0 : Int32)), .unset, .unset, .unset] [])) _
        refine XS.iconst X225.here hx rfl (hb hby at_128) ?_
        show Steps p.tables e below (T225.setTop (mkF m 129 #[.val (.int p1), .val (.int p2), .val (.int p3), .val (.int p4), .val (.int p5), .val (.int p6), .val (.int (2 : Int32)), .val (.int rr2), .val (.int bb2), .val (.ref b7), .val (.ref s_REPETITION_DOWN_SIZE_DOWN), .val (.int xx), .val (.int yy), .val (.int (0 : Int32)), .unset, .unset, .unset] [(.int (0 : Int32))])) _
        refine XS.istore X225.here hx rfl (hb hby at_129) rfl (l' := #[.val (.int p1), .val (.int p2), .val (.int p3), .val (.int p4), .val (.int p5), .val (.int p6), .val (.int (2 : Int32)), .val (.int rr2), .val (.int bb2), .val (.ref b7), .val (.ref s_REPETITION_DOWN_SIZE_DOWN), .val (.int xx), .val (.int yy), .val (.int (0 : Int32)), .val (.int (0 : Int32)), .unset, .unset]) rfl ?_
        show Steps p.tables e below (T225.setTop (mkF m 131 #[.val (.int p1), .val (.int p2), .val (.int p3), .val (.int p4), .val (.int p5), .val (.int p6), .val (.int (2 : Int32)), .val (.int rr2), .val (.int bb2), .val (.ref b7), .val (.ref s_REPETITION_DOWN_SIZE_DOWN), .val (.int xx), .val (.int yy), .val (.int (0 : Int32)), .val (.int (0 : Int32)), .unset, .unset] [])) _
        refine XS.iload X225.here hx rfl (hb hby at_131) rfl ?_
        show Steps p.tables e below (T225.setTop (mkF m 133 #[.val (.int p1), .val (.int p2), .val (.int p3), .val (.int p4), .val (.int p5), .val (.int p6), .val (.int (2 : Int32)), .val (.int rr2), .val (.int bb2), .val (.ref b7), .val (.ref s_REPETITION_DOWN_SIZE_DOWN), .val (.int xx), .val (.int yy), .val (.int (0 : Int32)), .val (.int (0 : Int32)), .unset, .unset] [(.int (2 : Int32))])) _
        refine XS.iconst X225.here hx rfl (hb hby at_133) ?_
        show Steps p.tables e below (T225.setTop (mkF m 134 #[.val (.int p1), .val (.int p2), .val (.int p3), .val (.int p4), .val (.int p5), .val (.int p6), .val (.int (2 : Int32)), .val (.int rr2), .val (.int bb2), .val (.ref b7), .val (.ref s_REPETITION_DOWN_SIZE_DOWN), .val (.int xx), .val (.int yy), .val (.int (0 : Int32)), .val (.int (0 : Int32)), .unset, .unset] [(.int (4 : Int32)), (.int (2 : Int32))])) _
        refine XS.icmpYes X225.here hx rfl (pc0 := 134) (pc' := 143) rfl (hb hby at_134) rfl (feq (by decide : ¬ ((2 : Int32) = (4 : Int32)))).2 (by decide) (by decide) ?_
        show Steps p.tables e below (T225.setTop (mkF m 143 #[.val (.int p1), .val (.int p2), .val (.int p3), .val (.int p4), .val (.int p5), .val (.int p6), .val (.int (2 : Int32)), .val (.int rr2), .val (.int bb2), .val (.ref b7), .val (.ref s_REPETITION_DOWN_SIZE_DOWN), .val (.int xx), .val (.int yy), .val (.int (0 : Int32)), .val (.int (0 : Int32)), .unset, .unset] [])) _
        refine XS.iload X225.here hx rfl (hb hby at_143) rfl ?_
        show Steps p.tables e below (T225.setTop (mkF m 145 #[.val (.int p1), .val (.int p2), .val (.int p3), .val (.int p4), .val (.int p5), .val (.int p6), .val (.int (2 : Int32)), .val (.int rr2), .val (.int bb2), .val (.ref b7), .val (.ref s_REPETITION_DOWN_SIZE_DOWN), .val (.int xx), .val (.int yy), .val (.int (0 : Int32)), .val (.int (0 : Int32)), .unset, .unset] [(.int xx)])) _
        refine XS.ifNo X225.here hx rfl (hb hby at_145) rfl ((if0 _ _).trans (feq hc145).1) ?_
        show Steps p.tables e below (T225.setTop (mkF m 148 #[.val (.int p1), .val (.int p2), .val (.int p3), .val (.int p4), .val (.int p5), .val (.int p6), .val (.int (2 : Int32)), .val (.int rr2), .val (.int bb2), .val (.ref b7), .val (.ref s_REPETITION_DOWN_SIZE_DOWN), .val (.int xx), .val (.int yy), .val (.int (0 : Int32)), .val (.int (0 : Int32)), .unset, .unset] [])) _
        refine XS.iload X225.here hx rfl (hb hby at_148) rfl ?_
        show Steps p.tables e below (T225.setTop (mkF m 150 #[.val (.int p1), .val (.int p2), .val (.int p3), .val (.int p4), .val (.int p5), .val (.int p6), .val (.int (2 : Int32)), .val (.int rr2), .val (.int bb2), .val (.ref b7), .val (.ref s_REPETITION_DOWN_SIZE_DOWN), .val (.int xx), .val (.int yy), .val (.int (0 : Int32)), .val (.int (0 : Int32)), .unset, .unset] [(.int (0 : Int32))])) _
        refine XS.ifYes X225.here hx rfl (pc0 := 150) (pc' := 160) rfl (hb hby at_150) rfl ((if0 _ _).trans (teq (by decide : (0 : Int32) = (0 : Int32))).1) (by decide) (by decide) ?_
        show Steps p.tables e below (T225.setTop (mkF m 160 #[.val (.int p1), .val (.int p2), .val (.int p3), .val (.int p4), .val (.int p5), .val (.int p6), .val (.int (2 : Int32)), .val (.int rr2), .val (.int bb2), .val (.ref b7), .val (.ref s_REPETITION_DOWN_SIZE_DOWN), .val (.int xx), .val (.int yy), .val (.int (0 : Int32)), .val (.int (0 : Int32)), .unset, .unset] [])) _
        refine XS.iload X225.here hx rfl (hb hby at_160) rfl ?_
        show Steps p.tables e below (T225.setTop (mkF m 162 #[.val (.int p1), .val (.int p2), .val (.int p3), .val (.int p4), .val (.int p5), .val (.int p6), .val (.int (2 : Int32)), .val (.int rr2), .val (.int bb2), .val (.ref b7), .val (.ref s_REPETITION_DOWN_SIZE_DOWN), .val (.int xx), .val (.int yy), .val (.int (0 : Int32)), .val (.int (0 : Int32)), .unset, .unset] [(.int xx)])) _
        refine XS.ineg X225.here hx rfl (hb hby at_162) rfl ?_
        show Steps p.tables e below (T225.setTop (mkF m 163 #[.val (.int p1), .val (.int p2), .val (.int p3), .val (.int p4), .val (.int p5), .val (.int p6), .val (.int (2 : Int32)), .val (.int rr2), .val (.int bb2), .val (.ref b7), .val (.ref s_REPETITION_DOWN_SIZE_DOWN), .val (.int xx), .val (.int yy), .val (.int (0 : Int32)), .val (.int (0 : Int32)), .unset, .unset] [(.int (-xx))])) _
        refine XS.istore X225.here hx rfl (hb hby at_163) rfl (l' := #[.val (.int p1), .val (.int p2), .val (.int p3), .val (.int p4), .val (.int p5), .val (.int p6), .val (.int (2 : Int32)), .val (.int rr2), .val (.int bb2), .val (.ref b7), .val (.ref s_REPETITION_DOWN_SIZE_DOWN), .val (.int xx), .val (.int yy), .val (.int (0 : Int32)), .val (.int (0 : Int32)), .val (.int (-xx)), .unset]) rfl ?_
        show Steps p.tables e below (T225.setTop (mkF m 165 #[.val (.int p1), .val (.int p2), .val (.int p3), .val (.int p4), .val (.int p5), .val (.int p6), .val (.int (2 : Int32)), .val (.int rr2), .val (.int bb2), .val (.ref b7), .val (.ref s_REPETITION_DOWN_SIZE_DOWN), .val (.int xx), .val (.int yy), .val (.int (0 : Int32)), .val (.int (0 : Int32)), .val (.int (-xx)), .unset] [])) _
        refine XS.goto X225.here hx rfl (pc0 := 165) (pc' := 185) rfl (hb hby at_165) (by decide) (by decide) ?_
        show Steps p.tables e below (T225.setTop (mkF m 185 #[.val (.int p1), .val (.int p2), .val (.int p3), .val (.int p4), .val (.int p5), .val (.int p6), .val (.int (2 : Int32)), .val (.int rr2), .val (.int bb2), .val (.ref b7), .val (.ref s_REPETITION_DOWN_SIZE_DOWN), .val (.int xx), .val (.int yy), .val (.int (0 : Int32)), .val (.int (0 : Int32)), .val (.int (-xx)), .unset] [])) _
        refine XS.aload X225.here hx rfl (hb hby at_185) rfl rfl ?_
        show Steps p.tables e below (T225.setTop (mkF m 187 #[.val (.int p1), .val (.int p2), .val (.int p3), .val (.int p4), .val (.int p5), .val (.int p6), .val (.int (2 : Int32)), .val (.int rr2), .val (.int bb2), .val (.ref b7), .val (.ref s_REPETITION_DOWN_SIZE_DOWN), .val (.int xx), .val (.int yy), .val (.int (0 : Int32)), .val (.int (0 : Int32)), .val (.int (-xx)), .unset] [(.ref s_REPETITION_DOWN_SIZE_DOWN)])) _
        refine XS.iloadN X225.here hx rfl (hb hby at_187) rfl ?_
        show Steps p.tables e below (T225.setTop (mkF m 188 #[.val (.int p1), .val (.int p2), .val (.int p3), .val (.int p4), .val (.int p5), .val (.int p6), .val (.int (2 : Int32)), .val (.int rr2), .val (.int bb2), .val (.ref b7), .val (.ref s_REPETITION_DOWN_SIZE_DOWN), .val (.int xx), .val (.int yy), .val (.int (0 : Int32)), .val (.int (0 : Int32)), .val (.int (-xx)), .unset] [(.int p2), (.ref s_REPETITION_DOWN_SIZE_DOWN)])) _
        refine XS.iloadN X225.here hx rfl (hb hby at_188) rfl ?_
        show Steps p.tables e below (T225.setTop (mkF m 189 #[.val (.int p1), .val (.int p2), .val (.int p3), .val (.int p4), .val (.int p5), .val (.int p6), .val (.int (2 : Int32)), .val (.int rr2), .val (.int bb2), .val (.ref b7), .val (.ref s_REPETITION_DOWN_SIZE_DOWN), .val (.int xx), .val (.int yy), .val (.int (0 : Int32)), .val (.int (0 : Int32)), .val (.int (-xx)), .unset] [(.int p3), (.int p2), (.ref s_REPETITION_DOWN_SIZE_DOWN)])) _
        refine XS.iload X225.here hx rfl (hb hby at_189) rfl ?_
        show Steps p.tables e below (T225.setTop (mkF m 191 #[.val (.int p1), .val (.int p2), .val (.int p3), .val (.int p4), .val (.int p5), .val (.int p6), .val (.int (2 : Int32)), .val (.int rr2), .val (.int bb2), .val (.ref b7), .val (.ref s_REPETITION_DOWN_SIZE_DOWN), .val (.int xx), .val (.int yy), .val (.int (0 : Int32)), .val (.int (0 : Int32)), .val (.int (-xx)), .unset] [(.int rr2), (.int p3), (.int p2), (.ref s_REPETITION_DOWN_SIZE_DOWN)])) _
        refine XS.iload X225.here hx rfl (hb hby at_191) rfl ?_
        show Steps p.tables e below (T225.setTop (mkF m 193 #[.val (.int p1), .val (.int p2), .val (.int p3), .val (.int p4), .val (.int p5), .val (.int p6), .val (.int (2 : Int32)), .val (.int rr2), .val (.int bb2), .val (.ref b7), .val (.ref s_REPETITION_DOWN_SIZE_DOWN), .val (.int xx), .val (.int yy), .val (.int (0 : Int32)), .val (.int (0 : Int32)), .val (.int (-xx)), .unset] [(.int bb2), (.int rr2), (.int p3), (.int p2), (.ref s_REPETITION_DOWN_SIZE_DOWN)])) _
        exact kt
      obtain ⟨cq236, kq236, q236a, q236b, q236c⟩ := isOf hZ e225 F163_145
      obtain ⟨_, _, ⟨T236, L236, k236, n236⟩, -, X236, ⟨Lc236, hQ236, l236, y236, z236⟩, st236⟩ := X225.virtualBack hx (y := (⟨"com/example/starling/starling/schedule/MessageOrder", "compare", "(IIII)I"⟩ : MethodName)) (z := (⟨"com/example/starling/starling/schedule/MessageOrder", "compare", "(IIII)I"⟩ : MethodName)) hown (mvT hZ (hw _ (mgE 19 rfl))) (mvT hZ (hw _ (mgE 20 rfl))) (notFace_of_selects (args := #[]) (mvT hZ (hw _ (mgE 22 rfl)))) (mvT hZ (hw _ (mgE 22 rfl))) (mvT hZ (hw _ (mgE 21 rfl))) (by decide) (backOf (W := 0) (rm2 l Z a0 hw [] s_REPETITION_DOWN_SIZE_DOWN p2 p3 rr2 bb2 (-1 : Int32) (-1 : Int32) h145 n0 Z145 F153_145 F154_145) hZ (hw _ (mgE 23 rfl)) (hw _ (mgE 4 rfl)) (by decide) (by decide)) q236a q236c (g := (mkF m 193 #[.val (.int p1), .val (.int p2), .val (.int p3), .val (.int p4), .val (.int p5), .val (.int p6), .val (.int (2 : Int32)), .val (.int rr2), .val (.int bb2), .val (.ref b7), .val (.ref s_REPETITION_DOWN_SIZE_DOWN), .val (.int xx), .val (.int yy), .val (.int (0 : Int32)), .val (.int (0 : Int32)), .val (.int (-xx)), .unset] [(.int bb2), (.int rr2), (.int p3), (.int p2), (.ref s_REPETITION_DOWN_SIZE_DOWN)])) rfl (by rw [hml]; rfl) (Steps.refl _) (argsL := [(.int p2), (.int p3), (.int rr2), (.int bb2)]) (rest := []) (lenOf pd__IIII_I rfl) rfl (by show 2 * 0 + _ ≤ _; exact Nat.le_of_eq rfl) (hb hby at_193) (fun _ _ => ⟨rfl, e225, (by decide : 1 + 0 ≤ _), (by decide : 5 + 0 ≤ _)⟩)
      dsimp only [Pt.U, Pt.locs, Pt.cells, Pt.slots] at X236 l236 y236 z236 st236 hQ236
      subst l236 y236 z236
      obtain ⟨rfl, N236q, e236⟩ := hQ236
      have pre237 : ∀ t, Steps p.tables e below (T236.setTop (mkF m 196 #[.val (.int p1), .val (.int p2), .val (.int p3), .val (.int p4), .val (.int p5), .val (.int p6), .val (.int (2 : Int32)), .val (.int rr2), .val (.int bb2), .val (.ref b7), .val (.ref s_REPETITION_DOWN_SIZE_DOWN), .val (.int xx), .val (.int yy), .val (.int (0 : Int32)), .val (.int (0 : Int32)), .val (.int (-xx)), .unset] [(.int (r2 p2 p3 rr2 bb2 (-1 : Int32) (-1 : Int32)))])) t → Steps p.tables e below (s₁.setTop (entryFrame m #[(.int p1), (.int p2), (.int p3), (.int p4), (.int p5), (.int p6)] maxLocals)) t := fun t kt => pre235 t (st236.trans kt)
      have N236 := Fr.app N225 N236q
      have pre238 : ∀ t, Steps p.tables e below (T236.setTop (mkF m 200 #[.val (.int p1), .val (.int p2), .val (.int p3), .val (.int p4), .val (.int p5), .val (.int p6), .val (.int (2 : Int32)), .val (.int rr2), .val (.int bb2), .val (.ref b7), .val (.ref s_REPETITION_DOWN_SIZE_DOWN), .val (.int xx), .val (.int yy), .val (.int (0 : Int32)), .val (.int (0 : Int32)), .val (.int (-xx)), .val (.int (r2 p2 p3 rr2 bb2 (-1 : Int32) (-1 : Int32)))] [(.int (r2 p2 p3 rr2 bb2 (-1 : Int32) (-1 : Int32)))])) t → Steps p.tables e below (s₁.setTop (entryFrame m #[(.int p1), (.int p2), (.int p3), (.int p4), (.int p5), (.int p6)] maxLocals)) t := fun t kt => by
        refine pre237 t ?_
        refine XS.istore X236.here hx rfl (hb hby at_196) rfl (l' := #[.val (.int p1), .val (.int p2), .val (.int p3), .val (.int p4), .val (.int p5), .val (.int p6), .val (.int (2 : Int32)), .val (.int rr2), .val (.int bb2), .val (.ref b7), .val (.ref s_REPETITION_DOWN_SIZE_DOWN), .val (.int xx), .val (.int yy), .val (.int (0 : Int32)), .val (.int (0 : Int32)), .val (.int (-xx)), .val (.int (r2 p2 p3 rr2 bb2 (-1 : Int32) (-1 : Int32)))]) rfl ?_
        show Steps p.tables e below (T236.setTop (mkF m 198 #[.val (.int p1), .val (.int p2), .val (.int p3), .val (.int p4), .val (.int p5), .val (.int p6), .val (.int (2 : Int32)), .val (.int rr2), .val (.int bb2), .val (.ref b7), .val (.ref s_REPETITION_DOWN_SIZE_DOWN), .val (.int xx), .val (.int yy), .val (.int (0 : Int32)), .val (.int (0 : Int32)), .val (.int (-xx)), .val (.int (r2 p2 p3 rr2 bb2 (-1 : Int32) (-1 : Int32)))] [])) _
        refine XS.iload X236.here hx rfl (hb hby at_198) rfl ?_
        show Steps p.tables e below (T236.setTop (mkF m 200 #[.val (.int p1), .val (.int p2), .val (.int p3), .val (.int p4), .val (.int p5), .val (.int p6), .val (.int (2 : Int32)), .val (.int rr2), .val (.int bb2), .val (.ref b7), .val (.ref s_REPETITION_DOWN_SIZE_DOWN), .val (.int xx), .val (.int yy), .val (.int (0 : Int32)), .val (.int (0 : Int32)), .val (.int (-xx)), .val (.int (r2 p2 p3 rr2 bb2 (-1 : Int32) (-1 : Int32)))] [(.int (r2 p2 p3 rr2 bb2 (-1 : Int32) (-1 : Int32)))])) _
        exact kt
      obtain ⟨_, _, ⟨T239, L239, k239, n239⟩, -, X239, ⟨Lc239, hQ239, l239, y239, z239⟩, st239⟩ := Jvm.LawKit.callS X236 hx (y := (⟨"com/example/starling/starling/schedule/MessageOrderComparePinLaw", "sgn", "(I)I"⟩ : MethodName)) hown (mvT hZ (hw _ (mgE 32 rfl))) (mvT hZ (hw _ (mgE 33 rfl))) (mvT hZ (hw _ (mgE 17 rfl))) (mvT hZ (hw _ (mgE 34 rfl))) (by decide) (backOf (W := 0) (rm4 l Z a0 hw [] (r2 p2 p3 rr2 bb2 (-1 : Int32) (-1 : Int32)) h145 n0 Z145 ) hZ (hw _ (mgE 34 rfl)) (hw _ (mgE 17 rfl)) (by decide) (by decide)) (g := (mkF m 200 #[.val (.int p1), .val (.int p2), .val (.int p3), .val (.int p4), .val (.int p5), .val (.int p6), .val (.int (2 : Int32)), .val (.int rr2), .val (.int bb2), .val (.ref b7), .val (.ref s_REPETITION_DOWN_SIZE_DOWN), .val (.int xx), .val (.int yy), .val (.int (0 : Int32)), .val (.int (0 : Int32)), .val (.int (-xx)), .val (.int (r2 p2 p3 rr2 bb2 (-1 : Int32) (-1 : Int32)))] [(.int (r2 p2 p3 rr2 bb2 (-1 : Int32) (-1 : Int32)))])) rfl (by rw [hml]; rfl) (argsL := [(.int (r2 p2 p3 rr2 bb2 (-1 : Int32) (-1 : Int32)))]) (rest := []) (lenOf pd__I_I rfl) rfl (by show 2 * 0 + _ ≤ _; exact Nat.le_of_eq rfl) (hb hby at_200) (fun _ _ => ⟨rfl, e236, (by decide : 1 + 0 ≤ _), (by decide : 5 + 0 ≤ _)⟩)
      dsimp only [Pt.U, Pt.locs, Pt.cells, Pt.slots] at X239 l239 y239 z239 st239 hQ239
      subst l239 y239 z239
      obtain ⟨rfl, N239q, e239⟩ := hQ239
      have pre240 : ∀ t, Steps p.tables e below (T239.setTop (mkF m 203 #[.val (.int p1), .val (.int p2), .val (.int p3), .val (.int p4), .val (.int p5), .val (.int p6), .val (.int (2 : Int32)), .val (.int rr2), .val (.int bb2), .val (.ref b7), .val (.ref s_REPETITION_DOWN_SIZE_DOWN), .val (.int xx), .val (.int yy), .val (.int (0 : Int32)), .val (.int (0 : Int32)), .val (.int (-xx)), .val (.int (r2 p2 p3 rr2 bb2 (-1 : Int32) (-1 : Int32)))] [(.int (r4 (r2 p2 p3 rr2 bb2 (-1 : Int32) (-1 : Int32))))])) t → Steps p.tables e below (s₁.setTop (entryFrame m #[(.int p1), (.int p2), (.int p3), (.int p4), (.int p5), (.int p6)] maxLocals)) t := fun t kt => pre238 t (st239 t kt)
      have N239 := Fr.app N236 N239q
      have hc205 : (r4 (r2 p2 p3 rr2 bb2 (-1 : Int32) (-1 : Int32))) = (-xx) := by rw [own_cmp _ _ _ _ _ _ _ _ h_xx h_yy]; rcases hxx with rfl | rfl | rfl <;> rcases hyy with rfl | rfl | rfl <;> first | decide | (exfalso; revert hc145; decide)
      have pre241 : ∀ t, Steps p.tables e below (T239.setTop (mkF m 213 #[.val (.int p1), .val (.int p2), .val (.int p3), .val (.int p4), .val (.int p5), .val (.int p6), .val (.int (2 : Int32)), .val (.int rr2), .val (.int bb2), .val (.ref b7), .val (.ref s_REPETITION_DOWN_SIZE_DOWN), .val (.int xx), .val (.int yy), .val (.int (0 : Int32)), .val (.int (0 : Int32)), .val (.int (-xx)), .val (.int (r2 p2 p3 rr2 bb2 (-1 : Int32) (-1 : Int32)))] [(.int (1 : Int32))])) t → Steps p.tables e below (s₁.setTop (entryFrame m #[(.int p1), (.int p2), (.int p3), (.int p4), (.int p5), (.int p6)] maxLocals)) t := fun t kt => by
        refine pre240 t ?_
        refine XS.iload X239.here hx rfl (hb hby at_203) rfl ?_
        show Steps p.tables e below (T239.setTop (mkF m 205 #[.val (.int p1), .val (.int p2), .val (.int p3), .val (.int p4), .val (.int p5), .val (.int p6), .val (.int (2 : Int32)), .val (.int rr2), .val (.int bb2), .val (.ref b7), .val (.ref s_REPETITION_DOWN_SIZE_DOWN), .val (.int xx), .val (.int yy), .val (.int (0 : Int32)), .val (.int (0 : Int32)), .val (.int (-xx)), .val (.int (r2 p2 p3 rr2 bb2 (-1 : Int32) (-1 : Int32)))] [(.int (-xx)), (.int (r4 (r2 p2 p3 rr2 bb2 (-1 : Int32) (-1 : Int32))))])) _
        refine XS.icmpNo X239.here hx rfl (hb hby at_205) rfl (teq hc205).2 ?_
        show Steps p.tables e below (T239.setTop (mkF m 208 #[.val (.int p1), .val (.int p2), .val (.int p3), .val (.int p4), .val (.int p5), .val (.int p6), .val (.int (2 : Int32)), .val (.int rr2), .val (.int bb2), .val (.ref b7), .val (.ref s_REPETITION_DOWN_SIZE_DOWN), .val (.int xx), .val (.int yy), .val (.int (0 : Int32)), .val (.int (0 : Int32)), .val (.int (-xx)), .val (.int (r2 p2 p3 rr2 bb2 (-1 : Int32) (-1 : Int32)))] [])) _
        refine XS.iconst X239.here hx rfl (hb hby at_208) ?_
        show Steps p.tables e below (T239.setTop (mkF m 209 #[.val (.int p1), .val (.int p2), .val (.int p3), .val (.int p4), .val (.int p5), .val (.int p6), .val (.int (2 : Int32)), .val (.int rr2), .val (.int bb2), .val (.ref b7), .val (.ref s_REPETITION_DOWN_SIZE_DOWN), .val (.int xx), .val (.int yy), .val (.int (0 : Int32)), .val (.int (0 : Int32)), .val (.int (-xx)), .val (.int (r2 p2 p3 rr2 bb2 (-1 : Int32) (-1 : Int32)))] [(.int (1 : Int32))])) _
        refine XS.goto X239.here hx rfl (pc0 := 209) (pc' := 213) rfl (hb hby at_209) (by decide) (by decide) ?_
        show Steps p.tables e below (T239.setTop (mkF m 213 #[.val (.int p1), .val (.int p2), .val (.int p3), .val (.int p4), .val (.int p5), .val (.int p6), .val (.int (2 : Int32)), .val (.int rr2), .val (.int bb2), .val (.ref b7), .val (.ref s_REPETITION_DOWN_SIZE_DOWN), .val (.int xx), .val (.int yy), .val (.int (0 : Int32)), .val (.int (0 : Int32)), .val (.int (-xx)), .val (.int (r2 p2 p3 rr2 bb2 (-1 : Int32) (-1 : Int32)))] [(.int (1 : Int32))])) _
        exact kt
      obtain ⟨fs, hr, hrun, hended, hW, hsame⟩ := X239.leave (v := some (.int (1 : Int32))) (fun h => by rw [Bd.returns] at h; cases h)
      refine ⟨_, _, pre241 _ ?_, hrun, hended, _, _, rfl, ?_, ⟨_, rfl⟩, hW, hsame.mono (by decide) (by decide)⟩
      · exact retN X239 hx (t := .boolean) Bd.returns (by simp) (hb hby at_213) hr
      · show Q0 Z p1 p2 p3 p4 p5 p6 s_REPETITION_UP_SIZE_DOWN s_REPETITION_UP_SIZE_UP s_REPETITION_DOWN_SIZE_DOWN s_REPETITION_DOWN_SIZE_UP s_INPUT h0 n0 _ T239.heap _
        rw [e239]
        exact ⟨rfl, N239⟩
  · subst hcs
    have pre242 : ∀ t, Steps p.tables e below (T145.setTop (mkF m 75 #[.val (.int p1), .val (.int p2), .val (.int p3), .val (.int p4), .val (.int p5), .val (.int p6), .val (.int (3 : Int32)), .val (.int rr2), .val (.int bb2), .val (.ref b7), .unset, .unset, .unset, .unset, .unset, .unset, .unset] [(.int (3 : Int32)), (.ref b7)])) t → Steps p.tables e below (s₁.setTop (entryFrame m #[(.int p1), (.int p2), (.int p3), (.int p4), (.int p5), (.int p6)] maxLocals)) t := fun t kt => by
      refine pre169 t ?_
      refine XS.aload X145.here hx rfl (hb hby at_71) rfl rfl ?_
      show Steps p.tables e below (T145.setTop (mkF m 73 #[.val (.int p1), .val (.int p2), .val (.int p3), .val (.int p4), .val (.int p5), .val (.int p6), .val (.int (3 : Int32)), .val (.int rr2), .val (.int bb2), .val (.ref b7), .unset, .unset, .unset, .unset, .unset, .unset, .unset] [(.ref b7)])) _
      refine XS.iload X145.here hx rfl (hb hby at_73) rfl ?_
      show Steps p.tables e below (T145.setTop (mkF m 75 #[.val (.int p1), .val (.int p2), .val (.int p3), .val (.int p4), .val (.int p5), .val (.int p6), .val (.int (3 : Int32)), .val (.int rr2), .val (.int bb2), .val (.ref b7), .unset, .unset, .unset, .unset, .unset, .unset, .unset] [(.int (3 : Int32)), (.ref b7)])) _
      exact kt
    obtain ⟨cl243, Ar243, S243, Ng243, H243⟩ := id V145_b7
    have hj243 : ¬ (3 : Int32) < 0 ∧ (3 : Int32) < (5 : Int32) := ⟨by decide, by decide⟩
    have hin243 := inb_of S243 hj243
    have lt243 : ((3 : Int32)).toNatClampNeg < ((5 : Int32)).toNatClampNeg := by rw [← S243]; exact Nat.lt_of_not_le fun q => hin243 (Or.inr q)
    have hv243 : ((own_upd (own_upd (own_upd (own_upd (own_upd (fun _ => Value.null) ((0 : Int32)).toNatClampNeg (Value.ref s_REPETITION_UP_SIZE_DOWN)) ((1 : Int32)).toNatClampNeg (Value.ref s_REPETITION_UP_SIZE_UP)) ((2 : Int32)).toNatClampNeg (Value.ref s_REPETITION_DOWN_SIZE_DOWN)) ((3 : Int32)).toNatClampNeg (Value.ref s_REPETITION_DOWN_SIZE_UP)) ((4 : Int32)).toNatClampNeg (Value.ref s_INPUT)) ((3 : Int32)).toNatClampNeg) = (.ref s_REPETITION_DOWN_SIZE_UP) := rfl
    have pre244 : ∀ t, Steps p.tables e below (T145.setTop (mkF m 81 #[.val (.int p1), .val (.int p2), .val (.int p3), .val (.int p4), .val (.int p5), .val (.int p6), .val (.int (3 : Int32)), .val (.int rr2), .val (.int bb2), .val (.ref b7), .val (.ref s_REPETITION_DOWN_SIZE_UP), .unset, .unset, .unset, .unset, .unset, .unset] [(.int rr2), (.int p2)])) t → Steps p.tables e below (s₁.setTop (entryFrame m #[(.int p1), (.int p2), (.int p3), (.int p4), (.int p5), (.int p6)] maxLocals)) t := fun t kt => by
      refine pre242 t ?_
      refine X145.aaload hx (j := (3 : Int32)) (v := (.ref s_REPETITION_DOWN_SIZE_UP)) (by rw [e145]; exact Ar243.1) (State.isArrayOf_alike hZ.alike Ar243.2.1) rfl Ar243.2.2 hin243 ((H243 _ lt243).trans (congrArg some hv243)) (g := (mkF m 75 #[.val (.int p1), .val (.int p2), .val (.int p3), .val (.int p4), .val (.int p5), .val (.int p6), .val (.int (3 : Int32)), .val (.int rr2), .val (.int bb2), .val (.ref b7), .unset, .unset, .unset, .unset, .unset, .unset, .unset] [(.int (3 : Int32)), (.ref b7)])) rfl rfl (hb hby at_75) _ ?_
      show Steps p.tables e below (T145.setTop (mkF m 76 #[.val (.int p1), .val (.int p2), .val (.int p3), .val (.int p4), .val (.int p5), .val (.int p6), .val (.int (3 : Int32)), .val (.int rr2), .val (.int bb2), .val (.ref b7), .unset, .unset, .unset, .unset, .unset, .unset, .unset] [(.ref s_REPETITION_DOWN_SIZE_UP)])) _
      refine XS.astore X145.here hx rfl (hb hby at_76) rfl rfl (l' := #[.val (.int p1), .val (.int p2), .val (.int p3), .val (.int p4), .val (.int p5), .val (.int p6), .val (.int (3 : Int32)), .val (.int rr2), .val (.int bb2), .val (.ref b7), .val (.ref s_REPETITION_DOWN_SIZE_UP), .unset, .unset, .unset, .unset, .unset, .unset]) rfl ?_
      show Steps p.tables e below (T145.setTop (mkF m 78 #[.val (.int p1), .val (.int p2), .val (.int p3), .val (.int p4), .val (.int p5), .val (.int p6), .val (.int (3 : Int32)), .val (.int rr2), .val (.int bb2), .val (.ref b7), .val (.ref s_REPETITION_DOWN_SIZE_UP), .unset, .unset, .unset, .unset, .unset, .unset] [])) _
      refine XS.iloadN X145.here hx rfl (hb hby at_78) rfl ?_
      show Steps p.tables e below (T145.setTop (mkF m 79 #[.val (.int p1), .val (.int p2), .val (.int p3), .val (.int p4), .val (.int p5), .val (.int p6), .val (.int (3 : Int32)), .val (.int rr2), .val (.int bb2), .val (.ref b7), .val (.ref s_REPETITION_DOWN_SIZE_UP), .unset, .unset, .unset, .unset, .unset, .unset] [(.int p2)])) _
      refine XS.iload X145.here hx rfl (hb hby at_79) rfl ?_
      show Steps p.tables e below (T145.setTop (mkF m 81 #[.val (.int p1), .val (.int p2), .val (.int p3), .val (.int p4), .val (.int p5), .val (.int p6), .val (.int (3 : Int32)), .val (.int rr2), .val (.int bb2), .val (.ref b7), .val (.ref s_REPETITION_DOWN_SIZE_UP), .unset, .unset, .unset, .unset, .unset, .unset] [(.int rr2), (.int p2)])) _
      exact kt
    obtain ⟨_, _, ⟨T245, L245, k245, n245⟩, -, X245, ⟨Lc245, hQ245, l245, y245, z245⟩, st245⟩ := Jvm.LawKit.callS X145 hx (y := (⟨"com/example/starling/starling/schedule/MessageOrderComparePinLaw", "cmp", "(II)I"⟩ : MethodName)) hown (mvT hZ (hw _ (mgE 15 rfl))) (mvT hZ (hw _ (mgE 16 rfl))) (mvT hZ (hw _ (mgE 17 rfl))) (mvT hZ (hw _ (mgE 18 rfl))) (by decide) (backOf (W := 0) (rm1 l Z a0 hw [] p2 rr2 h145 n0 Z145 ) hZ (hw _ (mgE 18 rfl)) (hw _ (mgE 17 rfl)) (by decide) (by decide)) (g := (mkF m 81 #[.val (.int p1), .val (.int p2), .val (.int p3), .val (.int p4), .val (.int p5), .val (.int p6), .val (.int (3 : Int32)), .val (.int rr2), .val (.int bb2), .val (.ref b7), .val (.ref s_REPETITION_DOWN_SIZE_UP), .unset, .unset, .unset, .unset, .unset, .unset] [(.int rr2), (.int p2)])) rfl (by rw [hml]; rfl) (argsL := [(.int p2), (.int rr2)]) (rest := []) (lenOf pd__II_I rfl) rfl (by show 2 * 0 + _ ≤ _; exact Nat.le_of_eq rfl) (hb hby at_81) (fun _ _ => ⟨rfl, e145, (by decide : 1 + 0 ≤ _), (by decide : 5 + 0 ≤ _)⟩)
    dsimp only [Pt.U, Pt.locs, Pt.cells, Pt.slots] at X245 l245 y245 z245 st245 hQ245
    subst l245 y245 z245
    obtain ⟨rfl, N245q, e245⟩ := hQ245
    have pre246 : ∀ t, Steps p.tables e below (T245.setTop (mkF m 84 #[.val (.int p1), .val (.int p2), .val (.int p3), .val (.int p4), .val (.int p5), .val (.int p6), .val (.int (3 : Int32)), .val (.int rr2), .val (.int bb2), .val (.ref b7), .val (.ref s_REPETITION_DOWN_SIZE_UP), .unset, .unset, .unset, .unset, .unset, .unset] [(.int (r1 p2 rr2))])) t → Steps p.tables e below (s₁.setTop (entryFrame m #[(.int p1), (.int p2), (.int p3), (.int p4), (.int p5), (.int p6)] maxLocals)) t := fun t kt => pre244 t (st245 t kt)
    have N245 := Fr.app N145 N245q
    have pre247 : ∀ t, Steps p.tables e below (T245.setTop (mkF m 86 #[.val (.int p1), .val (.int p2), .val (.int p3), .val (.int p4), .val (.int p5), .val (.int p6), .val (.int (3 : Int32)), .val (.int rr2), .val (.int bb2), .val (.ref b7), .val (.ref s_REPETITION_DOWN_SIZE_UP), .val (.int (r1 p2 rr2)), .unset, .unset, .unset, .unset, .unset] [])) t → Steps p.tables e below (s₁.setTop (entryFrame m #[(.int p1), (.int p2), (.int p3), (.int p4), (.int p5), (.int p6)] maxLocals)) t := fun t kt => by
      refine pre246 t ?_
      refine XS.istore X245.here hx rfl (hb hby at_84) rfl (l' := #[.val (.int p1), .val (.int p2), .val (.int p3), .val (.int p4), .val (.int p5), .val (.int p6), .val (.int (3 : Int32)), .val (.int rr2), .val (.int bb2), .val (.ref b7), .val (.ref s_REPETITION_DOWN_SIZE_UP), .val (.int (r1 p2 rr2)), .unset, .unset, .unset, .unset, .unset]) rfl ?_
      show Steps p.tables e below (T245.setTop (mkF m 86 #[.val (.int p1), .val (.int p2), .val (.int p3), .val (.int p4), .val (.int p5), .val (.int p6), .val (.int (3 : Int32)), .val (.int rr2), .val (.int bb2), .val (.ref b7), .val (.ref s_REPETITION_DOWN_SIZE_UP), .val (.int (r1 p2 rr2)), .unset, .unset, .unset, .unset, .unset] [])) _
      exact kt
    obtain ⟨xx, h_xx⟩ : ∃ z, z = (r1 p2 rr2) := ⟨_, rfl⟩
    rw [← h_xx] at pre247
    have hxx := own_tri _ _ _ h_xx
    have pre248 : ∀ t, Steps p.tables e below (T245.setTop (mkF m 89 #[.val (.int p1), .val (.int p2), .val (.int p3), .val (.int p4), .val (.int p5), .val (.int p6), .val (.int (3 : Int32)), .val (.int rr2), .val (.int bb2), .val (.ref b7), .val (.ref s_REPETITION_DOWN_SIZE_UP), .val (.int xx), .unset, .unset, .unset, .unset, .unset] [(.int bb2), (.int p3)])) t → Steps p.tables e below (s₁.setTop (entryFrame m #[(.int p1), (.int p2), (.int p3), (.int p4), (.int p5), (.int p6)] maxLocals)) t := fun t kt => by
      refine pre247 t ?_
      refine XS.iloadN X245.here hx rfl (hb hby at_86) rfl ?_
      show Steps p.tables e below (T245.setTop (mkF m 87 #[.val (.int p1), .val (.int p2), .val (.int p3), .val (.int p4), .val (.int p5), .val (.int p6), .val (.int (3 : Int32)), .val (.int rr2), .val (.int bb2), .val (.ref b7), .val (.ref s_REPETITION_DOWN_SIZE_UP), .val (.int xx), .unset, .unset, .unset, .unset, .unset] [(.int p3)])) _
      refine XS.iload X245.here hx rfl (hb hby at_87) rfl ?_
      show Steps p.tables e below (T245.setTop (mkF m 89 #[.val (.int p1), .val (.int p2), .val (.int p3), .val (.int p4), .val (.int p5), .val (.int p6), .val (.int (3 : Int32)), .val (.int rr2), .val (.int bb2), .val (.ref b7), .val (.ref s_REPETITION_DOWN_SIZE_UP), .val (.int xx), .unset, .unset, .unset, .unset, .unset] [(.int bb2), (.int p3)])) _
      exact kt
    obtain ⟨_, _, ⟨T249, L249, k249, n249⟩, -, X249, ⟨Lc249, hQ249, l249, y249, z249⟩, st249⟩ := Jvm.LawKit.callS X245 hx (y := (⟨"com/example/starling/starling/schedule/MessageOrderComparePinLaw", "cmp", "(II)I"⟩ : MethodName)) hown (mvT hZ (hw _ (mgE 15 rfl))) (mvT hZ (hw _ (mgE 16 rfl))) (mvT hZ (hw _ (mgE 17 rfl))) (mvT hZ (hw _ (mgE 18 rfl))) (by decide) (backOf (W := 0) (rm1 l Z a0 hw [] p3 bb2 h145 n0 Z145 ) hZ (hw _ (mgE 18 rfl)) (hw _ (mgE 17 rfl)) (by decide) (by decide)) (g := (mkF m 89 #[.val (.int p1), .val (.int p2), .val (.int p3), .val (.int p4), .val (.int p5), .val (.int p6), .val (.int (3 : Int32)), .val (.int rr2), .val (.int bb2), .val (.ref b7), .val (.ref s_REPETITION_DOWN_SIZE_UP), .val (.int xx), .unset, .unset, .unset, .unset, .unset] [(.int bb2), (.int p3)])) rfl (by rw [hml]; rfl) (argsL := [(.int p3), (.int bb2)]) (rest := []) (lenOf pd__II_I rfl) rfl (by show 2 * 0 + _ ≤ _; exact Nat.le_of_eq rfl) (hb hby at_89) (fun _ _ => ⟨rfl, e245, (by decide : 1 + 0 ≤ _), (by decide : 5 + 0 ≤ _)⟩)
    dsimp only [Pt.U, Pt.locs, Pt.cells, Pt.slots] at X249 l249 y249 z249 st249 hQ249
    subst l249 y249 z249
    obtain ⟨rfl, N249q, e249⟩ := hQ249
    have pre250 : ∀ t, Steps p.tables e below (T249.setTop (mkF m 92 #[.val (.int p1), .val (.int p2), .val (.int p3), .val (.int p4), .val (.int p5), .val (.int p6), .val (.int (3 : Int32)), .val (.int rr2), .val (.int bb2), .val (.ref b7), .val (.ref s_REPETITION_DOWN_SIZE_UP), .val (.int xx), .unset, .unset, .unset, .unset, .unset] [(.int (r1 p3 bb2))])) t → Steps p.tables e below (s₁.setTop (entryFrame m #[(.int p1), (.int p2), (.int p3), (.int p4), (.int p5), (.int p6)] maxLocals)) t := fun t kt => pre248 t (st249 t kt)
    have N249 := Fr.app N245 N249q
    have pre251 : ∀ t, Steps p.tables e below (T249.setTop (mkF m 94 #[.val (.int p1), .val (.int p2), .val (.int p3), .val (.int p4), .val (.int p5), .val (.int p6), .val (.int (3 : Int32)), .val (.int rr2), .val (.int bb2), .val (.ref b7), .val (.ref s_REPETITION_DOWN_SIZE_UP), .val (.int xx), .val (.int (r1 p3 bb2)), .unset, .unset, .unset, .unset] [])) t → Steps p.tables e below (s₁.setTop (entryFrame m #[(.int p1), (.int p2), (.int p3), (.int p4), (.int p5), (.int p6)] maxLocals)) t := fun t kt => by
      refine pre250 t ?_
      refine XS.istore X249.here hx rfl (hb hby at_92) rfl (l' := #[.val (.int p1), .val (.int p2), .val (.int p3), .val (.int p4), .val (.int p5), .val (.int p6), .val (.int (3 : Int32)), .val (.int rr2), .val (.int bb2), .val (.ref b7), .val (.ref s_REPETITION_DOWN_SIZE_UP), .val (.int xx), .val (.int (r1 p3 bb2)), .unset, .unset, .unset, .unset]) rfl ?_
      show Steps p.tables e below (T249.setTop (mkF m 94 #[.val (.int p1), .val (.int p2), .val (.int p3), .val (.int p4), .val (.int p5), .val (.int p6), .val (.int (3 : Int32)), .val (.int rr2), .val (.int bb2), .val (.ref b7), .val (.ref s_REPETITION_DOWN_SIZE_UP), .val (.int xx), .val (.int (r1 p3 bb2)), .unset, .unset, .unset, .unset] [])) _
      exact kt
    obtain ⟨yy, h_yy⟩ : ∃ z, z = (r1 p3 bb2) := ⟨_, rfl⟩
    rw [← h_yy] at pre251
    have hyy := own_tri _ _ _ h_yy
    by_cases hc145 : xx = (0 : Int32)
    · skip
      have pre252 : ∀ t, Steps p.tables e below (T249.setTop (mkF m 193 #[.val (.int p1), .val (.int p2), .val (.int p3), .val (.int p4), .val (.int p5), .val (.int p6), .val (.int (3 : Int32)), .val (.int rr2), .val (.int bb2), .val (.ref b7), .val (.ref s_REPETITION_DOWN_SIZE_UP), .val (.int xx), .val (.int yy), .val (.int (0 : Int32)), .val (.int (1 : Int32)), .val (.int yy), .unset] [(.int bb2), (.int rr2), (.int p3), (.int p2), (.ref s_REPETITION_DOWN_SIZE_UP)])) t → Steps p.tables e below (s₁.setTop (entryFrame m #[(.int p1), (.int p2), (.int p3), (.int p4), (.int p5), (.int p6)] maxLocals)) t := fun t kt => by
        refine pre251 t ?_
        refine XS.iload X249.here hx rfl (hb hby at_94) rfl ?_
        show Steps p.tables e below (T249.setTop (mkF m 96 #[.val (.int p1), .val (.int p2), .val (.int p3), .val (.int p4), .val (.int p5), .val (.int p6), .val (.int (3 : Int32)), .val (.int rr2), .val (.int bb2), .val (.ref b7), .val (.ref s_REPETITION_DOWN_SIZE_UP), .val (.int xx), .val (.int yy), .unset, .unset, .unset, .unset] [(.int (3 : Int32))])) _
        refine XS.ifNo X249.here hx rfl (hb hby at_96) rfl ((if0 _ _).trans (feq (by decide : ¬ ((3 : Int32) = (0 : Int32)))).1) ?_
        show Steps p.tables e below (T249.setTop (mkF m 99 #[.val (.int p1), .val (.int p2), .val (.int p3), .val (.int p4), .val (.int p5), .val (.int p6), .val (.int (3 : Int32)), .val (.int rr2), .val (.int bb2), .val (.ref b7), .val (.ref s_REPETITION_DOWN_SIZE_UP), .val (.int xx), .val (.int yy), .unset, .unset, .unset, .unset] [])) _
        refine XS.iload X249.here hx rfl (hb hby at_99) rfl ?_
        show Steps p.tables e below (T249.setTop (mkF m 101 #[.val (.int p1), .val (.int p2), .val (.int p3), .val (.int p4), .val (.int p5), .val (.int p6), .val (.int (3 : Int32)), .val (.int rr2), .val (.int bb2), .val (.ref b7), .val (.ref s_REPETITION_DOWN_SIZE_UP), .val (.int xx), .val (.int yy), .unset, .unset, .unset, .unset] [(.int (3 : Int32))])) _
        refine XS.iconst X249.here hx rfl (hb hby at_101) ?_
        show Steps p.tables e below (T249.setTop (mkF m 102 #[.val (.int p1), .val (.int p2), .val (.int p3), .val (.int p4), .val (.int p5), .val (.int p6), .val (.int (3 : Int32)), .val (.int rr2), .val (.int bb2), .val (.ref b7), .val (.ref s_REPETITION_DOWN_SIZE_UP), .val (.int xx), .val (.int yy), .unset, .unset, .unset, .unset] [(.int (1 : Int32)), (.int (3 : Int32))])) _
        refine XS.icmpYes X249.here hx rfl (pc0 := 102) (pc' := 109) rfl (hb hby at_102) rfl (feq (by decide : ¬ ((3 : Int32) = (1 : Int32)))).2 (by decide) (by decide) ?_
        show Steps p.tables e below (T249.setTop (mkF m 109 #[.val (.int p1), .val (.int p2), .val (.int p3), .val (.int p4), .val (.int p5), .val (.int p6), .val (.int (3 : Int32)), .val (.int rr2), .val (.int bb2), .val (.ref b7), .val (.ref s_REPETITION_DOWN_SIZE_UP), .val (.int xx), .val (.int yy), .unset, .unset, .unset, .unset] [])) _
        refine XS.iconst X249.here hx rfl (hb hby at_109) ?_
        show Steps p.tables e below (T249.setTop (mkF m 110 #[.val (.int p1), .val (.int p2), .val (.int p3), .val (.int p4), .val (.int p5), .val (.int p6), .val (.int (3 : Int32)), .val (.int rr2), .val (.int bb2), .val (.ref b7), .val (.ref s_REPETITION_DOWN_SIZE_UP), .val (.int xx), .val (.int yy), .unset, .unset, .unset, .unset] [(.int (0 : Int32))])) _
        refine XS.istore X249.here hx rfl (hb hby at_110) rfl (l' := #[.val (.int p1), .val (.int p2), .val (.int p3), .val (.int p4), .val (.int p5), .val (.int p6), .val (.int (3 : Int32)), .val (.int rr2), .val (.int bb2), .val (.ref b7), .val (.ref s_REPETITION_DOWN_SIZE_UP), .val (.int xx), .val (.int yy), .val (.int (0 : Int32)), .unset, .unset, .unset]) rfl ?_
        show Steps p.tables e below (T249.setTop (mkF m 112 #[.val (.int p1), .val (.int p2), .val (.int p3), .val (.int p4), .val (.int p5), .val (.int p6), .val (.int (3 : Int32)), .val (.int rr2), .val (.int bb2), .val (.ref b7), .val (.ref s_REPETITION_DOWN_SIZE_UP), .val (.int xx), .val (.int yy), .val (.int (0 : Int32)), .unset, .unset, .unset] [])) _
        refine XS.iload X249.here hx rfl (hb hby at_112) rfl ?_
        show Steps p.tables e below (T249.setTop (mkF m 114 #[.val (.int p1), .val (.int p2), .val (.int p3), .val (.int p4), .val (.int p5), .val (.int p6), .val (.int (3 : Int32)), .val (.int rr2), .val (.int bb2), .val (.ref b7), .val (.ref s_REPETITION_DOWN_SIZE_UP), .val (.int xx), .val (.int yy), .val (.int (0 : Int32)), .unset, .unset, .unset] [(.int (3 : Int32))])) _
        refine XS.iconst X249.here hx rfl (hb hby at_114) ?_
        show Steps p.tables e below (T249.setTop (mkF m 115 #[.val (.int p1), .val (.int p2), .val (.int p3), .val (.int p4), .val (.int p5), .val (.int p6), .val (.int (3 : Int32)), .val (.int rr2), .val (.int bb2), .val (.ref b7), .val (.ref s_REPETITION_DOWN_SIZE_UP), .val (.int xx), .val (.int yy), .val (.int (0 : Int32)), .unset, .unset, .unset] [(.int (1 : Int32)), (.int (3 : Int32))])) _
        refine XS.icmpNo X249.here hx rfl (hb hby at_115) rfl (feq (by decide : ¬ ((3 : Int32) = (1 : Int32)))).1 ?_
        show Steps p.tables e below (T249.setTop (mkF m 118 #[.val (.int p1), .val (.int p2), .val (.int p3), .val (.int p4), .val (.int p5), .val (.int p6), .val (.int (3 : Int32)), .val (.int rr2), .val (.int bb2), .val (.ref b7), .val (.ref s_REPETITION_DOWN_SIZE_UP), .val (.int xx), .val (.int yy), .val (.int (0 : Int32)), .unset, .unset, .unset] [])) _
        refine XS.iload X249.here hx rfl (hb hby at_118) rfl ?_
        show Steps p.tables e below (T249.setTop (mkF m 120 #[.val (.int p1), .val (.int p2), .val (.int p3), .val (.int p4), .val (.int p5), .val (.int p6), .val (.int (3 : Int32)), .val (.int rr2), .val (.int bb2), .val (.ref b7), .val (.ref s_REPETITION_DOWN_SIZE_UP), .val (.int xx), .val (.int yy), .val (.int (0 : Int32)), .unset, .unset, .unset] [(.int (3 : Int32))])) _
        refine XS.iconst X249.here hx rfl (hb hby at_120) ?_
        show Steps p.tables e below (T249.setTop (mkF m 121 #[.val (.int p1), .val (.int p2), .val (.int p3), .val (.int p4), .val (.int p5), .val (.int p6), .val (.int (3 : Int32)), .val (.int rr2), .val (.int bb2), .val (.ref b7), .val (.ref s_REPETITION_DOWN_SIZE_UP), .val (.int xx), .val (.int yy), .val (.int (0 : Int32)), .unset, .unset, .unset] [(.int (3 : Int32)), (.int (3 : Int32))])) _
        refine XS.icmpNo X249.here hx rfl (hb hby at_121) rfl (teq (by decide : (3 : Int32) = (3 : Int32))).2 ?_
        show Steps p.tables e below (T249.setTop (mkF m 124 #[.val (.int p1), .val (.int p2), .val (.int p3), .val (.int p4), .val (.int p5), .val (.int p6), .val (.int (3 : Int32)), .val (.int rr2), .val (.int bb2), .val (.ref b7), .val (.ref s_REPETITION_DOWN_SIZE_UP), .val (.int xx), .val (.int yy), .val (.int (0 : Int32)), .unset, .unset, .unset] [])) _
        refine XS.iconst X249.here hx rfl (hb hby at_124) ?_
        show Steps p.tables e below (T249.setTop (mkF m 125 #[.val (.int p1), .val (.int p2), .val (.int p3), .val (.int p4), .val (.int p5), .val (.int p6), .val (.int (3 : Int32)), .val (.int rr2), .val (.int bb2), .val (.ref b7), .val (.ref s_REPETITION_DOWN_SIZE_UP), .val (.int xx), .val (.int yy), .val (.int (0 : Int32)), .unset, .unset, .unset] [(.int (1 : Int32))])) _
        refine XS.goto X249.here hx rfl (pc0 := 125) (pc' := 129) rfl (hb hby at_125) (by decide) (by decide) ?_
        show Steps p.tables e below (T249.setTop (mkF m 129 #[.val (.int p1), .val (.int p2), .val (.int p3), .val (.int p4), .val (.int p5), .val (.int p6), .val (.int (3 : Int32)), .val (.int rr2), .val (.int bb2), .val (.ref b7), .val (.ref s_REPETITION_DOWN_SIZE_UP), .val (.int xx), .val (.int yy), .val (.int (0 : Int32)), .unset, .unset, .unset] [(.int (1 : Int32))])) _
        refine XS.istore X249.here hx rfl (hb hby at_129) rfl (l' := #[.val (.int p1), .val (.int p2), .val (.int p3), .val (.int p4), .val (.int p5), .val (.int p6), .val (.int (3 : Int32)), .val (.int rr2), .val (.int bb2), .val (.ref b7), .val (.ref s_REPETITION_DOWN_SIZE_UP), .val (.int xx), .val (.int yy), .val (.int (0 : Int32)), .val (.int (1 : Int32)), .unset, .unset]) rfl ?_
        show Steps p.tables e below (T249.setTop (mkF m 131 #[.val (.int p1), .val (.int p2), .val (.int p3), .val (.int p4), .val (.int p5), .val (.int p6), .val (.int (3 : Int32)), .val (.int rr2), .val (.int bb2), .val (.ref b7), .val (.ref s_REPETITION_DOWN_SIZE_UP), .val (.int xx), .val (.int yy), .val (.int (0 : Int32)), .val (.int (1 : Int32)), .unset, .unset] [])) _
        refine XS.iload X249.here hx rfl (hb hby at_131) rfl ?_
        show Steps p.tables e below (T249.setTop (mkF m 133 #[.val (.int p1), .val (.int p2), .val (.int p3), .val (.int p4), .val (.int p5), .val (.int p6), .val (.int (3 : Int32)), .val (.int rr2), .val (.int bb2), .val (.ref b7), .val (.ref s_REPETITION_DOWN_SIZE_UP), .val (.int xx), .val (.int yy), .val (.int (0 : Int32)), .val (.int (1 : Int32)), .unset, .unset] [(.int (3 : Int32))])) _
        refine XS.iconst X249.here hx rfl (hb hby at_133) ?_
        show Steps p.tables e below (T249.setTop (mkF m 134 #[.val (.int p1), .val (.int p2), .val (.int p3), .val (.int p4), .val (.int p5), .val (.int p6), .val (.int (3 : Int32)), .val (.int rr2), .val (.int bb2), .val (.ref b7), .val (.ref s_REPETITION_DOWN_SIZE_UP), .val (.int xx), .val (.int yy), .val (.int (0 : Int32)), .val (.int (1 : Int32)), .unset, .unset] [(.int (4 : Int32)), (.int (3 : Int32))])) _
        refine XS.icmpYes X249.here hx rfl (pc0 := 134) (pc' := 143) rfl (hb hby at_134) rfl (feq (by decide : ¬ ((3 : Int32) = (4 : Int32)))).2 (by decide) (by decide) ?_
        show Steps p.tables e below (T249.setTop (mkF m 143 #[.val (.int p1), .val (.int p2), .val (.int p3), .val (.int p4), .val (.int p5), .val (.int p6), .val (.int (3 : Int32)), .val (.int rr2), .val (.int bb2), .val (.ref b7), .val (.ref s_REPETITION_DOWN_SIZE_UP), .val (.int xx), .val (.int yy), .val (.int (0 : Int32)), .val (.int (1 : Int32)), .unset, .unset] [])) _
        refine XS.iload X249.here hx rfl (hb hby at_143) rfl ?_
        show Steps p.tables e below (T249.setTop (mkF m 145 #[.val (.int p1), .val (.int p2), .val (.int p3), .val (.int p4), .val (.int p5), .val (.int p6), .val (.int (3 : Int32)), .val (.int rr2), .val (.int bb2), .val (.ref b7), .val (.ref s_REPETITION_DOWN_SIZE_UP), .val (.int xx), .val (.int yy), .val (.int (0 : Int32)), .val (.int (1 : Int32)), .unset, .unset] [(.int xx)])) _
        refine XS.ifYes X249.here hx rfl (pc0 := 145) (pc' := 168) rfl (hb hby at_145) rfl ((if0 _ _).trans (teq hc145).1) (by decide) (by decide) ?_
        show Steps p.tables e below (T249.setTop (mkF m 168 #[.val (.int p1), .val (.int p2), .val (.int p3), .val (.int p4), .val (.int p5), .val (.int p6), .val (.int (3 : Int32)), .val (.int rr2), .val (.int bb2), .val (.ref b7), .val (.ref s_REPETITION_DOWN_SIZE_UP), .val (.int xx), .val (.int yy), .val (.int (0 : Int32)), .val (.int (1 : Int32)), .unset, .unset] [])) _
        refine XS.iload X249.here hx rfl (hb hby at_168) rfl ?_
        show Steps p.tables e below (T249.setTop (mkF m 170 #[.val (.int p1), .val (.int p2), .val (.int p3), .val (.int p4), .val (.int p5), .val (.int p6), .val (.int (3 : Int32)), .val (.int rr2), .val (.int bb2), .val (.ref b7), .val (.ref s_REPETITION_DOWN_SIZE_UP), .val (.int xx), .val (.int yy), .val (.int (0 : Int32)), .val (.int (1 : Int32)), .unset, .unset] [(.int (1 : Int32))])) _
        refine XS.ifNo X249.here hx rfl (hb hby at_170) rfl ((if0 _ _).trans (feq (by decide : ¬ ((1 : Int32) = (0 : Int32)))).1) ?_
        show Steps p.tables e below (T249.setTop (mkF m 173 #[.val (.int p1), .val (.int p2), .val (.int p3), .val (.int p4), .val (.int p5), .val (.int p6), .val (.int (3 : Int32)), .val (.int rr2), .val (.int bb2), .val (.ref b7), .val (.ref s_REPETITION_DOWN_SIZE_UP), .val (.int xx), .val (.int yy), .val (.int (0 : Int32)), .val (.int (1 : Int32)), .unset, .unset] [])) _
        refine XS.iload X249.here hx rfl (hb hby at_173) rfl ?_
        show Steps p.tables e below (T249.setTop (mkF m 175 #[.val (.int p1), .val (.int p2), .val (.int p3), .val (.int p4), .val (.int p5), .val (.int p6), .val (.int (3 : Int32)), .val (.int rr2), .val (.int bb2), .val (.ref b7), .val (.ref s_REPETITION_DOWN_SIZE_UP), .val (.int xx), .val (.int yy), .val (.int (0 : Int32)), .val (.int (1 : Int32)), .unset, .unset] [(.int yy)])) _
        refine XS.istore X249.here hx rfl (hb hby at_175) rfl (l' := #[.val (.int p1), .val (.int p2), .val (.int p3), .val (.int p4), .val (.int p5), .val (.int p6), .val (.int (3 : Int32)), .val (.int rr2), .val (.int bb2), .val (.ref b7), .val (.ref s_REPETITION_DOWN_SIZE_UP), .val (.int xx), .val (.int yy), .val (.int (0 : Int32)), .val (.int (1 : Int32)), .val (.int yy), .unset]) rfl ?_
        show Steps p.tables e below (T249.setTop (mkF m 177 #[.val (.int p1), .val (.int p2), .val (.int p3), .val (.int p4), .val (.int p5), .val (.int p6), .val (.int (3 : Int32)), .val (.int rr2), .val (.int bb2), .val (.ref b7), .val (.ref s_REPETITION_DOWN_SIZE_UP), .val (.int xx), .val (.int yy), .val (.int (0 : Int32)), .val (.int (1 : Int32)), .val (.int yy), .unset] [])) _
        refine XS.goto X249.here hx rfl (pc0 := 177) (pc' := 185) rfl (hb hby at_177) (by decide) (by decide) ?_
        show Steps p.tables e below (T249.setTop (mkF m 185 #[.val (.int p1), .val (.int p2), .val (.int p3), .val (.int p4), .val (.int p5), .val (.int p6), .val (.int (3 : Int32)), .val (.int rr2), .val (.int bb2), .val (.ref b7), .val (.ref s_REPETITION_DOWN_SIZE_UP), .val (.int xx), .val (.int yy), .val (.int (0 : Int32)), .val (.int (1 : Int32)), .val (.int yy), .unset] [])) _
        refine XS.aload X249.here hx rfl (hb hby at_185) rfl rfl ?_
        show Steps p.tables e below (T249.setTop (mkF m 187 #[.val (.int p1), .val (.int p2), .val (.int p3), .val (.int p4), .val (.int p5), .val (.int p6), .val (.int (3 : Int32)), .val (.int rr2), .val (.int bb2), .val (.ref b7), .val (.ref s_REPETITION_DOWN_SIZE_UP), .val (.int xx), .val (.int yy), .val (.int (0 : Int32)), .val (.int (1 : Int32)), .val (.int yy), .unset] [(.ref s_REPETITION_DOWN_SIZE_UP)])) _
        refine XS.iloadN X249.here hx rfl (hb hby at_187) rfl ?_
        show Steps p.tables e below (T249.setTop (mkF m 188 #[.val (.int p1), .val (.int p2), .val (.int p3), .val (.int p4), .val (.int p5), .val (.int p6), .val (.int (3 : Int32)), .val (.int rr2), .val (.int bb2), .val (.ref b7), .val (.ref s_REPETITION_DOWN_SIZE_UP), .val (.int xx), .val (.int yy), .val (.int (0 : Int32)), .val (.int (1 : Int32)), .val (.int yy), .unset] [(.int p2), (.ref s_REPETITION_DOWN_SIZE_UP)])) _
        refine XS.iloadN X249.here hx rfl (hb hby at_188) rfl ?_
        show Steps p.tables e below (T249.setTop (mkF m 189 #[.val (.int p1), .val (.int p2), .val (.int p3), .val (.int p4), .val (.int p5), .val (.int p6), .val (.int (3 : Int32)), .val (.int rr2), .val (.int bb2), .val (.ref b7), .val (.ref s_REPETITION_DOWN_SIZE_UP), .val (.int xx), .val (.int yy), .val (.int (0 : Int32)), .val (.int (1 : Int32)), .val (.int yy), .unset] [(.int p3), (.int p2), (.ref s_REPETITION_DOWN_SIZE_UP)])) _
        refine XS.iload X249.here hx rfl (hb hby at_189) rfl ?_
        show Steps p.tables e below (T249.setTop (mkF m 191 #[.val (.int p1), .val (.int p2), .val (.int p3), .val (.int p4), .val (.int p5), .val (.int p6), .val (.int (3 : Int32)), .val (.int rr2), .val (.int bb2), .val (.ref b7), .val (.ref s_REPETITION_DOWN_SIZE_UP), .val (.int xx), .val (.int yy), .val (.int (0 : Int32)), .val (.int (1 : Int32)), .val (.int yy), .unset] [(.int rr2), (.int p3), (.int p2), (.ref s_REPETITION_DOWN_SIZE_UP)])) _
        refine XS.iload X249.here hx rfl (hb hby at_191) rfl ?_
        show Steps p.tables e below (T249.setTop (mkF m 193 #[.val (.int p1), .val (.int p2), .val (.int p3), .val (.int p4), .val (.int p5), .val (.int p6), .val (.int (3 : Int32)), .val (.int rr2), .val (.int bb2), .val (.ref b7), .val (.ref s_REPETITION_DOWN_SIZE_UP), .val (.int xx), .val (.int yy), .val (.int (0 : Int32)), .val (.int (1 : Int32)), .val (.int yy), .unset] [(.int bb2), (.int rr2), (.int p3), (.int p2), (.ref s_REPETITION_DOWN_SIZE_UP)])) _
        exact kt
      obtain ⟨cq253, kq253, q253a, q253b, q253c⟩ := isOf hZ e249 F164_145
      obtain ⟨_, _, ⟨T253, L253, k253, n253⟩, -, X253, ⟨Lc253, hQ253, l253, y253, z253⟩, st253⟩ := X249.virtualBack hx (y := (⟨"com/example/starling/starling/schedule/MessageOrder", "compare", "(IIII)I"⟩ : MethodName)) (z := (⟨"com/example/starling/starling/schedule/MessageOrder", "compare", "(IIII)I"⟩ : MethodName)) hown (mvT hZ (hw _ (mgE 19 rfl))) (mvT hZ (hw _ (mgE 20 rfl))) (notFace_of_selects (args := #[]) (mvT hZ (hw _ (mgE 22 rfl)))) (mvT hZ (hw _ (mgE 22 rfl))) (mvT hZ (hw _ (mgE 21 rfl))) (by decide) (backOf (W := 0) (rm2 l Z a0 hw [] s_REPETITION_DOWN_SIZE_UP p2 p3 rr2 bb2 (-1 : Int32) (1 : Int32) h145 n0 Z145 F156_145 F157_145) hZ (hw _ (mgE 23 rfl)) (hw _ (mgE 4 rfl)) (by decide) (by decide)) q253a q253c (g := (mkF m 193 #[.val (.int p1), .val (.int p2), .val (.int p3), .val (.int p4), .val (.int p5), .val (.int p6), .val (.int (3 : Int32)), .val (.int rr2), .val (.int bb2), .val (.ref b7), .val (.ref s_REPETITION_DOWN_SIZE_UP), .val (.int xx), .val (.int yy), .val (.int (0 : Int32)), .val (.int (1 : Int32)), .val (.int yy), .unset] [(.int bb2), (.int rr2), (.int p3), (.int p2), (.ref s_REPETITION_DOWN_SIZE_UP)])) rfl (by rw [hml]; rfl) (Steps.refl _) (argsL := [(.int p2), (.int p3), (.int rr2), (.int bb2)]) (rest := []) (lenOf pd__IIII_I rfl) rfl (by show 2 * 0 + _ ≤ _; exact Nat.le_of_eq rfl) (hb hby at_193) (fun _ _ => ⟨rfl, e249, (by decide : 1 + 0 ≤ _), (by decide : 5 + 0 ≤ _)⟩)
      dsimp only [Pt.U, Pt.locs, Pt.cells, Pt.slots] at X253 l253 y253 z253 st253 hQ253
      subst l253 y253 z253
      obtain ⟨rfl, N253q, e253⟩ := hQ253
      have pre254 : ∀ t, Steps p.tables e below (T253.setTop (mkF m 196 #[.val (.int p1), .val (.int p2), .val (.int p3), .val (.int p4), .val (.int p5), .val (.int p6), .val (.int (3 : Int32)), .val (.int rr2), .val (.int bb2), .val (.ref b7), .val (.ref s_REPETITION_DOWN_SIZE_UP), .val (.int xx), .val (.int yy), .val (.int (0 : Int32)), .val (.int (1 : Int32)), .val (.int yy), .unset] [(.int (r2 p2 p3 rr2 bb2 (-1 : Int32) (1 : Int32)))])) t → Steps p.tables e below (s₁.setTop (entryFrame m #[(.int p1), (.int p2), (.int p3), (.int p4), (.int p5), (.int p6)] maxLocals)) t := fun t kt => pre252 t (st253.trans kt)
      have N253 := Fr.app N249 N253q
      have pre255 : ∀ t, Steps p.tables e below (T253.setTop (mkF m 200 #[.val (.int p1), .val (.int p2), .val (.int p3), .val (.int p4), .val (.int p5), .val (.int p6), .val (.int (3 : Int32)), .val (.int rr2), .val (.int bb2), .val (.ref b7), .val (.ref s_REPETITION_DOWN_SIZE_UP), .val (.int xx), .val (.int yy), .val (.int (0 : Int32)), .val (.int (1 : Int32)), .val (.int yy), .val (.int (r2 p2 p3 rr2 bb2 (-1 : Int32) (1 : Int32)))] [(.int (r2 p2 p3 rr2 bb2 (-1 : Int32) (1 : Int32)))])) t → Steps p.tables e below (s₁.setTop (entryFrame m #[(.int p1), (.int p2), (.int p3), (.int p4), (.int p5), (.int p6)] maxLocals)) t := fun t kt => by
        refine pre254 t ?_
        refine XS.istore X253.here hx rfl (hb hby at_196) rfl (l' := #[.val (.int p1), .val (.int p2), .val (.int p3), .val (.int p4), .val (.int p5), .val (.int p6), .val (.int (3 : Int32)), .val (.int rr2), .val (.int bb2), .val (.ref b7), .val (.ref s_REPETITION_DOWN_SIZE_UP), .val (.int xx), .val (.int yy), .val (.int (0 : Int32)), .val (.int (1 : Int32)), .val (.int yy), .val (.int (r2 p2 p3 rr2 bb2 (-1 : Int32) (1 : Int32)))]) rfl ?_
        show Steps p.tables e below (T253.setTop (mkF m 198 #[.val (.int p1), .val (.int p2), .val (.int p3), .val (.int p4), .val (.int p5), .val (.int p6), .val (.int (3 : Int32)), .val (.int rr2), .val (.int bb2), .val (.ref b7), .val (.ref s_REPETITION_DOWN_SIZE_UP), .val (.int xx), .val (.int yy), .val (.int (0 : Int32)), .val (.int (1 : Int32)), .val (.int yy), .val (.int (r2 p2 p3 rr2 bb2 (-1 : Int32) (1 : Int32)))] [])) _
        refine XS.iload X253.here hx rfl (hb hby at_198) rfl ?_
        show Steps p.tables e below (T253.setTop (mkF m 200 #[.val (.int p1), .val (.int p2), .val (.int p3), .val (.int p4), .val (.int p5), .val (.int p6), .val (.int (3 : Int32)), .val (.int rr2), .val (.int bb2), .val (.ref b7), .val (.ref s_REPETITION_DOWN_SIZE_UP), .val (.int xx), .val (.int yy), .val (.int (0 : Int32)), .val (.int (1 : Int32)), .val (.int yy), .val (.int (r2 p2 p3 rr2 bb2 (-1 : Int32) (1 : Int32)))] [(.int (r2 p2 p3 rr2 bb2 (-1 : Int32) (1 : Int32)))])) _
        exact kt
      obtain ⟨_, _, ⟨T256, L256, k256, n256⟩, -, X256, ⟨Lc256, hQ256, l256, y256, z256⟩, st256⟩ := Jvm.LawKit.callS X253 hx (y := (⟨"com/example/starling/starling/schedule/MessageOrderComparePinLaw", "sgn", "(I)I"⟩ : MethodName)) hown (mvT hZ (hw _ (mgE 32 rfl))) (mvT hZ (hw _ (mgE 33 rfl))) (mvT hZ (hw _ (mgE 17 rfl))) (mvT hZ (hw _ (mgE 34 rfl))) (by decide) (backOf (W := 0) (rm4 l Z a0 hw [] (r2 p2 p3 rr2 bb2 (-1 : Int32) (1 : Int32)) h145 n0 Z145 ) hZ (hw _ (mgE 34 rfl)) (hw _ (mgE 17 rfl)) (by decide) (by decide)) (g := (mkF m 200 #[.val (.int p1), .val (.int p2), .val (.int p3), .val (.int p4), .val (.int p5), .val (.int p6), .val (.int (3 : Int32)), .val (.int rr2), .val (.int bb2), .val (.ref b7), .val (.ref s_REPETITION_DOWN_SIZE_UP), .val (.int xx), .val (.int yy), .val (.int (0 : Int32)), .val (.int (1 : Int32)), .val (.int yy), .val (.int (r2 p2 p3 rr2 bb2 (-1 : Int32) (1 : Int32)))] [(.int (r2 p2 p3 rr2 bb2 (-1 : Int32) (1 : Int32)))])) rfl (by rw [hml]; rfl) (argsL := [(.int (r2 p2 p3 rr2 bb2 (-1 : Int32) (1 : Int32)))]) (rest := []) (lenOf pd__I_I rfl) rfl (by show 2 * 0 + _ ≤ _; exact Nat.le_of_eq rfl) (hb hby at_200) (fun _ _ => ⟨rfl, e253, (by decide : 1 + 0 ≤ _), (by decide : 5 + 0 ≤ _)⟩)
      dsimp only [Pt.U, Pt.locs, Pt.cells, Pt.slots] at X256 l256 y256 z256 st256 hQ256
      subst l256 y256 z256
      obtain ⟨rfl, N256q, e256⟩ := hQ256
      have pre257 : ∀ t, Steps p.tables e below (T256.setTop (mkF m 203 #[.val (.int p1), .val (.int p2), .val (.int p3), .val (.int p4), .val (.int p5), .val (.int p6), .val (.int (3 : Int32)), .val (.int rr2), .val (.int bb2), .val (.ref b7), .val (.ref s_REPETITION_DOWN_SIZE_UP), .val (.int xx), .val (.int yy), .val (.int (0 : Int32)), .val (.int (1 : Int32)), .val (.int yy), .val (.int (r2 p2 p3 rr2 bb2 (-1 : Int32) (1 : Int32)))] [(.int (r4 (r2 p2 p3 rr2 bb2 (-1 : Int32) (1 : Int32))))])) t → Steps p.tables e below (s₁.setTop (entryFrame m #[(.int p1), (.int p2), (.int p3), (.int p4), (.int p5), (.int p6)] maxLocals)) t := fun t kt => pre255 t (st256 t kt)
      have N256 := Fr.app N253 N256q
      have hc205 : (r4 (r2 p2 p3 rr2 bb2 (-1 : Int32) (1 : Int32))) = yy := by rw [own_cmp _ _ _ _ _ _ _ _ h_xx h_yy]; rcases hxx with rfl | rfl | rfl <;> rcases hyy with rfl | rfl | rfl <;> first | decide | (exfalso; revert hc145; decide)
      have pre258 : ∀ t, Steps p.tables e below (T256.setTop (mkF m 213 #[.val (.int p1), .val (.int p2), .val (.int p3), .val (.int p4), .val (.int p5), .val (.int p6), .val (.int (3 : Int32)), .val (.int rr2), .val (.int bb2), .val (.ref b7), .val (.ref s_REPETITION_DOWN_SIZE_UP), .val (.int xx), .val (.int yy), .val (.int (0 : Int32)), .val (.int (1 : Int32)), .val (.int yy), .val (.int (r2 p2 p3 rr2 bb2 (-1 : Int32) (1 : Int32)))] [(.int (1 : Int32))])) t → Steps p.tables e below (s₁.setTop (entryFrame m #[(.int p1), (.int p2), (.int p3), (.int p4), (.int p5), (.int p6)] maxLocals)) t := fun t kt => by
        refine pre257 t ?_
        refine XS.iload X256.here hx rfl (hb hby at_203) rfl ?_
        show Steps p.tables e below (T256.setTop (mkF m 205 #[.val (.int p1), .val (.int p2), .val (.int p3), .val (.int p4), .val (.int p5), .val (.int p6), .val (.int (3 : Int32)), .val (.int rr2), .val (.int bb2), .val (.ref b7), .val (.ref s_REPETITION_DOWN_SIZE_UP), .val (.int xx), .val (.int yy), .val (.int (0 : Int32)), .val (.int (1 : Int32)), .val (.int yy), .val (.int (r2 p2 p3 rr2 bb2 (-1 : Int32) (1 : Int32)))] [(.int yy), (.int (r4 (r2 p2 p3 rr2 bb2 (-1 : Int32) (1 : Int32))))])) _
        refine XS.icmpNo X256.here hx rfl (hb hby at_205) rfl (teq hc205).2 ?_
        show Steps p.tables e below (T256.setTop (mkF m 208 #[.val (.int p1), .val (.int p2), .val (.int p3), .val (.int p4), .val (.int p5), .val (.int p6), .val (.int (3 : Int32)), .val (.int rr2), .val (.int bb2), .val (.ref b7), .val (.ref s_REPETITION_DOWN_SIZE_UP), .val (.int xx), .val (.int yy), .val (.int (0 : Int32)), .val (.int (1 : Int32)), .val (.int yy), .val (.int (r2 p2 p3 rr2 bb2 (-1 : Int32) (1 : Int32)))] [])) _
        refine XS.iconst X256.here hx rfl (hb hby at_208) ?_
        show Steps p.tables e below (T256.setTop (mkF m 209 #[.val (.int p1), .val (.int p2), .val (.int p3), .val (.int p4), .val (.int p5), .val (.int p6), .val (.int (3 : Int32)), .val (.int rr2), .val (.int bb2), .val (.ref b7), .val (.ref s_REPETITION_DOWN_SIZE_UP), .val (.int xx), .val (.int yy), .val (.int (0 : Int32)), .val (.int (1 : Int32)), .val (.int yy), .val (.int (r2 p2 p3 rr2 bb2 (-1 : Int32) (1 : Int32)))] [(.int (1 : Int32))])) _
        refine XS.goto X256.here hx rfl (pc0 := 209) (pc' := 213) rfl (hb hby at_209) (by decide) (by decide) ?_
        show Steps p.tables e below (T256.setTop (mkF m 213 #[.val (.int p1), .val (.int p2), .val (.int p3), .val (.int p4), .val (.int p5), .val (.int p6), .val (.int (3 : Int32)), .val (.int rr2), .val (.int bb2), .val (.ref b7), .val (.ref s_REPETITION_DOWN_SIZE_UP), .val (.int xx), .val (.int yy), .val (.int (0 : Int32)), .val (.int (1 : Int32)), .val (.int yy), .val (.int (r2 p2 p3 rr2 bb2 (-1 : Int32) (1 : Int32)))] [(.int (1 : Int32))])) _
        exact kt
      obtain ⟨fs, hr, hrun, hended, hW, hsame⟩ := X256.leave (v := some (.int (1 : Int32))) (fun h => by rw [Bd.returns] at h; cases h)
      refine ⟨_, _, pre258 _ ?_, hrun, hended, _, _, rfl, ?_, ⟨_, rfl⟩, hW, hsame.mono (by decide) (by decide)⟩
      · exact retN X256 hx (t := .boolean) Bd.returns (by simp) (hb hby at_213) hr
      · show Q0 Z p1 p2 p3 p4 p5 p6 s_REPETITION_UP_SIZE_DOWN s_REPETITION_UP_SIZE_UP s_REPETITION_DOWN_SIZE_DOWN s_REPETITION_DOWN_SIZE_UP s_INPUT h0 n0 _ T256.heap _
        rw [e256]
        exact ⟨rfl, N256⟩
    · skip
      have pre259 : ∀ t, Steps p.tables e below (T249.setTop (mkF m 193 #[.val (.int p1), .val (.int p2), .val (.int p3), .val (.int p4), .val (.int p5), .val (.int p6), .val (.int (3 : Int32)), .val (.int rr2), .val (.int bb2), .val (.ref b7), .val (.ref s_REPETITION_DOWN_SIZE_UP), .val (.int xx), .val (.int yy), .val (.int (0 : Int32)), .val (.int (1 : Int32)), .val (.int (-xx)), .unset] [(.int bb2), (.int rr2), (.int p3), (.int p2), (.ref s_REPETITION_DOWN_SIZE_UP)])) t → Steps p.tables e below (s₁.setTop (entryFrame m #[(.int p1), (.int p2), (.int p3), (.int p4), (.int p5), (.int p6)] maxLocals)) t := fun t kt => by
        refine pre251 t ?_
        refine XS.iload X249.here hx rfl (hb hby at_94) rfl ?_
        show Steps p.tables e below (T249.setTop (mkF m 96 #[.val (.int p1), .val (.int p2), .val (.int p3), .val (.int p4), .val (.int p5), .val (.int p6), .val (.int (3 : Int32)), .val (.int rr2), .val (.int bb2), .val (.ref b7), .val (.ref s_REPETITION_DOWN_SIZE_UP), .val (.int xx), .val (.int yy), .unset, .unset, .unset, .unset] [(.int (3 : Int32))])) _
        refine XS.ifNo X249.here hx rfl (hb hby at_96) rfl ((if0 _ _).trans (feq (by decide : ¬ ((3 : Int32) = (0 : Int32)))).1) ?_
        show Steps p.tables e below (T249.setTop (mkF m 99 #[.val (.int p1), .val (.int p2), .val (.int p3), .val (.int p4), .val (.int p5), .val (.int p6), .val (.int (3 : Int32)), .val (.int rr2), .val (.int bb2), .val (.ref b7), .val (.ref s_REPETITION_DOWN_SIZE_UP), .val (.int xx), .val (.int yy), .unset, .unset, .unset, .unset] [])) _
        refine XS.iload X249.here hx rfl (hb hby at_99) rfl ?_
        show Steps p.tables e below (T249.setTop (mkF m 101 #[.val (.int p1), .val (.int p2), .val (.int p3), .val (.int p4), .val (.int p5), .val (.int p6), .val (.int (3 : Int32)), .val (.int rr2), .val (.int bb2), .val (.ref b7), .val (.ref s_REPETITION_DOWN_SIZE_UP), .val (.int xx), .val (.int yy), .unset, .unset, .unset, .unset] [(.int (3 : Int32))])) _
        refine XS.iconst X249.here hx rfl (hb hby at_101) ?_
        show Steps p.tables e below (T249.setTop (mkF m 102 #[.val (.int p1), .val (.int p2), .val (.int p3), .val (.int p4), .val (.int p5), .val (.int p6), .val (.int (3 : Int32)), .val (.int rr2), .val (.int bb2), .val (.ref b7), .val (.ref s_REPETITION_DOWN_SIZE_UP), .val (.int xx), .val (.int yy), .unset, .unset, .unset, .unset] [(.int (1 : Int32)), (.int (3 : Int32))])) _
        refine XS.icmpYes X249.here hx rfl (pc0 := 102) (pc' := 109) rfl (hb hby at_102) rfl (feq (by decide : ¬ ((3 : Int32) = (1 : Int32)))).2 (by decide) (by decide) ?_
        show Steps p.tables e below (T249.setTop (mkF m 109 #[.val (.int p1), .val (.int p2), .val (.int p3), .val (.int p4), .val (.int p5), .val (.int p6), .val (.int (3 : Int32)), .val (.int rr2), .val (.int bb2), .val (.ref b7), .val (.ref s_REPETITION_DOWN_SIZE_UP), .val (.int xx), .val (.int yy), .unset, .unset, .unset, .unset] [])) _
        refine XS.iconst X249.here hx rfl (hb hby at_109) ?_
        show Steps p.tables e below (T249.setTop (mkF m 110 #[.val (.int p1), .val (.int p2), .val (.int p3), .val (.int p4), .val (.int p5), .val (.int p6), .val (.int (3 : Int32)), .val (.int rr2), .val (.int bb2), .val (.ref b7), .val (.ref s_REPETITION_DOWN_SIZE_UP), .val (.int xx), .val (.int yy), .unset, .unset, .unset, .unset] [(.int (0 : Int32))])) _
        refine XS.istore X249.here hx rfl (hb hby at_110) rfl (l' := #[.val (.int p1), .val (.int p2), .val (.int p3), .val (.int p4), .val (.int p5), .val (.int p6), .val (.int (3 : Int32)), .val (.int rr2), .val (.int bb2), .val (.ref b7), .val (.ref s_REPETITION_DOWN_SIZE_UP), .val (.int xx), .val (.int yy), .val (.int (0 : Int32)), .unset, .unset, .unset]) rfl ?_
        show Steps p.tables e below (T249.setTop (mkF m 112 #[.val (.int p1), .val (.int p2), .val (.int p3), .val (.int p4), .val (.int p5), .val (.int p6), .val (.int (3 : Int32)), .val (.int rr2), .val (.int bb2), .val (.ref b7), .val (.ref s_REPETITION_DOWN_SIZE_UP), .val (.int xx), .val (.int yy), .val (.int (0 : Int32)), .unset, .unset, .unset] [])) _
        refine XS.iload X249.here hx rfl (hb hby at_112) rfl ?_
        show Steps p.tables e below (T249.setTop (mkF m 114 #[.val (.int p1), .val (.int p2), .val (.int p3), .val (.int p4), .val (.int p5), .val (.int p6), .val (.int (3 : Int32)), .val (.int rr2), .val (.int bb2), .val (.ref b7), .val (.ref s_REPETITION_DOWN_SIZE_UP), .val (.int xx), .val (.int yy), .val (.int (0 : Int32)), .unset, .unset, .unset] [(.int (3 : Int32))])) _
        refine XS.iconst X249.here hx rfl (hb hby at_114) ?_
        show Steps p.tables e below (T249.setTop (mkF m 115 #[.val (.int p1), .val (.int p2), .val (.int p3), .val (.int p4), .val (.int p5), .val (.int p6), .val (.int (3 : Int32)), .val (.int rr2), .val (.int bb2), .val (.ref b7), .val (.ref s_REPETITION_DOWN_SIZE_UP), .val (.int xx), .val (.int yy), .val (.int (0 : Int32)), .unset, .unset, .unset] [(.int (1 : Int32)), (.int (3 : Int32))])) _
        refine XS.icmpNo X249.here hx rfl (hb hby at_115) rfl (feq (by decide : ¬ ((3 : Int32) = (1 : Int32)))).1 ?_
        show Steps p.tables e below (T249.setTop (mkF m 118 #[.val (.int p1), .val (.int p2), .val (.int p3), .val (.int p4), .val (.int p5), .val (.int p6), .val (.int (3 : Int32)), .val (.int rr2), .val (.int bb2), .val (.ref b7), .val (.ref s_REPETITION_DOWN_SIZE_UP), .val (.int xx), .val (.int yy), .val (.int (0 : Int32)), .unset, .unset, .unset] [])) _
        refine XS.iload X249.here hx rfl (hb hby at_118) rfl ?_
        show Steps p.tables e below (T249.setTop (mkF m 120 #[.val (.int p1), .val (.int p2), .val (.int p3), .val (.int p4), .val (.int p5), .val (.int p6), .val (.int (3 : Int32)), .val (.int rr2), .val (.int bb2), .val (.ref b7), .val (.ref s_REPETITION_DOWN_SIZE_UP), .val (.int xx), .val (.int yy), .val (.int (0 : Int32)), .unset, .unset, .unset] [(.int (3 : Int32))])) _
        refine XS.iconst X249.here hx rfl (hb hby at_120) ?_
        show Steps p.tables e below (T249.setTop (mkF m 121 #[.val (.int p1), .val (.int p2), .val (.int p3), .val (.int p4), .val (.int p5), .val (.int p6), .val (.int (3 : Int32)), .val (.int rr2), .val (.int bb2), .val (.ref b7), .val (.ref s_REPETITION_DOWN_SIZE_UP), .val (.int xx), .val (.int yy), .val (.int (0 : Int32)), .unset, .unset, .unset] [(.int (3 : Int32)), (.int (3 : Int32))])) _
        refine XS.icmpNo X249.here hx rfl (hb hby at_121) rfl (teq (by decide : (3 : Int32) = (3 : Int32))).2 ?_
        show Steps p.tables e below (T249.setTop (mkF m 124 #[.val (.int p1), .val (.int p2), .val (.int p3), .val (.int p4), .val (.int p5), .val (.int p6), .val (.int (3 : Int32)), .val (.int rr2), .val (.int bb2), .val (.ref b7), .val (.ref s_REPETITION_DOWN_SIZE_UP), .val (.int xx), .val (.int yy), .val (.int (0 : Int32)), .unset, .unset, .unset] [])) _
        refine XS.iconst X249.here hx rfl (hb hby at_124) ?_
        show Steps p.tables e below (T249.setTop (mkF m 125 #[.val (.int p1), .val (.int p2), .val (.int p3), .val (.int p4), .val (.int p5), .val (.int p6), .val (.int (3 : Int32)), .val (.int rr2), .val (.int bb2), .val (.ref b7), .val (.ref s_REPETITION_DOWN_SIZE_UP), .val (.int xx), .val (.int yy), .val (.int (0 : Int32)), .unset, .unset, .unset] [(.int (1 : Int32))])) _
        refine XS.goto X249.here hx rfl (pc0 := 125) (pc' := 129) rfl (hb hby at_125) (by decide) (by decide) ?_
        show Steps p.tables e below (T249.setTop (mkF m 129 #[.val (.int p1), .val (.int p2), .val (.int p3), .val (.int p4), .val (.int p5), .val (.int p6), .val (.int (3 : Int32)), .val (.int rr2), .val (.int bb2), .val (.ref b7), .val (.ref s_REPETITION_DOWN_SIZE_UP), .val (.int xx), .val (.int yy), .val (.int (0 : Int32)), .unset, .unset, .unset] [(.int (1 : Int32))])) _
        refine XS.istore X249.here hx rfl (hb hby at_129) rfl (l' := #[.val (.int p1), .val (.int p2), .val (.int p3), .val (.int p4), .val (.int p5), .val (.int p6), .val (.int (3 : Int32)), .val (.int rr2), .val (.int bb2), .val (.ref b7), .val (.ref s_REPETITION_DOWN_SIZE_UP), .val (.int xx), .val (.int yy), .val (.int (0 : Int32)), .val (.int (1 : Int32)), .unset, .unset]) rfl ?_
        show Steps p.tables e below (T249.setTop (mkF m 131 #[.val (.int p1), .val (.int p2), .val (.int p3), .val (.int p4), .val (.int p5), .val (.int p6), .val (.int (3 : Int32)), .val (.int rr2), .val (.int bb2), .val (.ref b7), .val (.ref s_REPETITION_DOWN_SIZE_UP), .val (.int xx), .val (.int yy), .val (.int (0 : Int32)), .val (.int (1 : Int32)), .unset, .unset] [])) _
        refine XS.iload X249.here hx rfl (hb hby at_131) rfl ?_
        show Steps p.tables e below (T249.setTop (mkF m 133 #[.val (.int p1), .val (.int p2), .val (.int p3), .val (.int p4), .val (.int p5), .val (.int p6), .val (.int (3 : Int32)), .val (.int rr2), .val (.int bb2), .val (.ref b7), .val (.ref s_REPETITION_DOWN_SIZE_UP), .val (.int xx), .val (.int yy), .val (.int (0 : Int32)), .val (.int (1 : Int32)), .unset, .unset] [(.int (3 : Int32))])) _
        refine XS.iconst X249.here hx rfl (hb hby at_133) ?_
        show Steps p.tables e below (T249.setTop (mkF m 134 #[.val (.int p1), .val (.int p2), .val (.int p3), .val (.int p4), .val (.int p5), .val (.int p6), .val (.int (3 : Int32)), .val (.int rr2), .val (.int bb2), .val (.ref b7), .val (.ref s_REPETITION_DOWN_SIZE_UP), .val (.int xx), .val (.int yy), .val (.int (0 : Int32)), .val (.int (1 : Int32)), .unset, .unset] [(.int (4 : Int32)), (.int (3 : Int32))])) _
        refine XS.icmpYes X249.here hx rfl (pc0 := 134) (pc' := 143) rfl (hb hby at_134) rfl (feq (by decide : ¬ ((3 : Int32) = (4 : Int32)))).2 (by decide) (by decide) ?_
        show Steps p.tables e below (T249.setTop (mkF m 143 #[.val (.int p1), .val (.int p2), .val (.int p3), .val (.int p4), .val (.int p5), .val (.int p6), .val (.int (3 : Int32)), .val (.int rr2), .val (.int bb2), .val (.ref b7), .val (.ref s_REPETITION_DOWN_SIZE_UP), .val (.int xx), .val (.int yy), .val (.int (0 : Int32)), .val (.int (1 : Int32)), .unset, .unset] [])) _
        refine XS.iload X249.here hx rfl (hb hby at_143) rfl ?_
        show Steps p.tables e below (T249.setTop (mkF m 145 #[.val (.int p1), .val (.int p2), .val (.int p3), .val (.int p4), .val (.int p5), .val (.int p6), .val (.int (3 : Int32)), .val (.int rr2), .val (.int bb2), .val (.ref b7), .val (.ref s_REPETITION_DOWN_SIZE_UP), .val (.int xx), .val (.int yy), .val (.int (0 : Int32)), .val (.int (1 : Int32)), .unset, .unset] [(.int xx)])) _
        refine XS.ifNo X249.here hx rfl (hb hby at_145) rfl ((if0 _ _).trans (feq hc145).1) ?_
        show Steps p.tables e below (T249.setTop (mkF m 148 #[.val (.int p1), .val (.int p2), .val (.int p3), .val (.int p4), .val (.int p5), .val (.int p6), .val (.int (3 : Int32)), .val (.int rr2), .val (.int bb2), .val (.ref b7), .val (.ref s_REPETITION_DOWN_SIZE_UP), .val (.int xx), .val (.int yy), .val (.int (0 : Int32)), .val (.int (1 : Int32)), .unset, .unset] [])) _
        refine XS.iload X249.here hx rfl (hb hby at_148) rfl ?_
        show Steps p.tables e below (T249.setTop (mkF m 150 #[.val (.int p1), .val (.int p2), .val (.int p3), .val (.int p4), .val (.int p5), .val (.int p6), .val (.int (3 : Int32)), .val (.int rr2), .val (.int bb2), .val (.ref b7), .val (.ref s_REPETITION_DOWN_SIZE_UP), .val (.int xx), .val (.int yy), .val (.int (0 : Int32)), .val (.int (1 : Int32)), .unset, .unset] [(.int (0 : Int32))])) _
        refine XS.ifYes X249.here hx rfl (pc0 := 150) (pc' := 160) rfl (hb hby at_150) rfl ((if0 _ _).trans (teq (by decide : (0 : Int32) = (0 : Int32))).1) (by decide) (by decide) ?_
        show Steps p.tables e below (T249.setTop (mkF m 160 #[.val (.int p1), .val (.int p2), .val (.int p3), .val (.int p4), .val (.int p5), .val (.int p6), .val (.int (3 : Int32)), .val (.int rr2), .val (.int bb2), .val (.ref b7), .val (.ref s_REPETITION_DOWN_SIZE_UP), .val (.int xx), .val (.int yy), .val (.int (0 : Int32)), .val (.int (1 : Int32)), .unset, .unset] [])) _
        refine XS.iload X249.here hx rfl (hb hby at_160) rfl ?_
        show Steps p.tables e below (T249.setTop (mkF m 162 #[.val (.int p1), .val (.int p2), .val (.int p3), .val (.int p4), .val (.int p5), .val (.int p6), .val (.int (3 : Int32)), .val (.int rr2), .val (.int bb2), .val (.ref b7), .val (.ref s_REPETITION_DOWN_SIZE_UP), .val (.int xx), .val (.int yy), .val (.int (0 : Int32)), .val (.int (1 : Int32)), .unset, .unset] [(.int xx)])) _
        refine XS.ineg X249.here hx rfl (hb hby at_162) rfl ?_
        show Steps p.tables e below (T249.setTop (mkF m 163 #[.val (.int p1), .val (.int p2), .val (.int p3), .val (.int p4), .val (.int p5), .val (.int p6), .val (.int (3 : Int32)), .val (.int rr2), .val (.int bb2), .val (.ref b7), .val (.ref s_REPETITION_DOWN_SIZE_UP), .val (.int xx), .val (.int yy), .val (.int (0 : Int32)), .val (.int (1 : Int32)), .unset, .unset] [(.int (-xx))])) _
        refine XS.istore X249.here hx rfl (hb hby at_163) rfl (l' := #[.val (.int p1), .val (.int p2), .val (.int p3), .val (.int p4), .val (.int p5), .val (.int p6), .val (.int (3 : Int32)), .val (.int rr2), .val (.int bb2), .val (.ref b7), .val (.ref s_REPETITION_DOWN_SIZE_UP), .val (.int xx), .val (.int yy), .val (.int (0 : Int32)), .val (.int (1 : Int32)), .val (.int (-xx)), .unset]) rfl ?_
        show Steps p.tables e below (T249.setTop (mkF m 165 #[.val (.int p1), .val (.int p2), .val (.int p3), .val (.int p4), .val (.int p5), .val (.int p6), .val (.int (3 : Int32)), .val (.int rr2), .val (.int bb2), .val (.ref b7), .val (.ref s_REPETITION_DOWN_SIZE_UP), .val (.int xx), .val (.int yy), .val (.int (0 : Int32)), .val (.int (1 : Int32)), .val (.int (-xx)), .unset] [])) _
        refine XS.goto X249.here hx rfl (pc0 := 165) (pc' := 185) rfl (hb hby at_165) (by decide) (by decide) ?_
        show Steps p.tables e below (T249.setTop (mkF m 185 #[.val (.int p1), .val (.int p2), .val (.int p3), .val (.int p4), .val (.int p5), .val (.int p6), .val (.int (3 : Int32)), .val (.int rr2), .val (.int bb2), .val (.ref b7), .val (.ref s_REPETITION_DOWN_SIZE_UP), .val (.int xx), .val (.int yy), .val (.int (0 : Int32)), .val (.int (1 : Int32)), .val (.int (-xx)), .unset] [])) _
        refine XS.aload X249.here hx rfl (hb hby at_185) rfl rfl ?_
        show Steps p.tables e below (T249.setTop (mkF m 187 #[.val (.int p1), .val (.int p2), .val (.int p3), .val (.int p4), .val (.int p5), .val (.int p6), .val (.int (3 : Int32)), .val (.int rr2), .val (.int bb2), .val (.ref b7), .val (.ref s_REPETITION_DOWN_SIZE_UP), .val (.int xx), .val (.int yy), .val (.int (0 : Int32)), .val (.int (1 : Int32)), .val (.int (-xx)), .unset] [(.ref s_REPETITION_DOWN_SIZE_UP)])) _
        refine XS.iloadN X249.here hx rfl (hb hby at_187) rfl ?_
        show Steps p.tables e below (T249.setTop (mkF m 188 #[.val (.int p1), .val (.int p2), .val (.int p3), .val (.int p4), .val (.int p5), .val (.int p6), .val (.int (3 : Int32)), .val (.int rr2), .val (.int bb2), .val (.ref b7), .val (.ref s_REPETITION_DOWN_SIZE_UP), .val (.int xx), .val (.int yy), .val (.int (0 : Int32)), .val (.int (1 : Int32)), .val (.int (-xx)), .unset] [(.int p2), (.ref s_REPETITION_DOWN_SIZE_UP)])) _
        refine XS.iloadN X249.here hx rfl (hb hby at_188) rfl ?_
        show Steps p.tables e below (T249.setTop (mkF m 189 #[.val (.int p1), .val (.int p2), .val (.int p3), .val (.int p4), .val (.int p5), .val (.int p6), .val (.int (3 : Int32)), .val (.int rr2), .val (.int bb2), .val (.ref b7), .val (.ref s_REPETITION_DOWN_SIZE_UP), .val (.int xx), .val (.int yy), .val (.int (0 : Int32)), .val (.int (1 : Int32)), .val (.int (-xx)), .unset] [(.int p3), (.int p2), (.ref s_REPETITION_DOWN_SIZE_UP)])) _
        refine XS.iload X249.here hx rfl (hb hby at_189) rfl ?_
        show Steps p.tables e below (T249.setTop (mkF m 191 #[.val (.int p1), .val (.int p2), .val (.int p3), .val (.int p4), .val (.int p5), .val (.int p6), .val (.int (3 : Int32)), .val (.int rr2), .val (.int bb2), .val (.ref b7), .val (.ref s_REPETITION_DOWN_SIZE_UP), .val (.int xx), .val (.int yy), .val (.int (0 : Int32)), .val (.int (1 : Int32)), .val (.int (-xx)), .unset] [(.int rr2), (.int p3), (.int p2), (.ref s_REPETITION_DOWN_SIZE_UP)])) _
        refine XS.iload X249.here hx rfl (hb hby at_191) rfl ?_
        show Steps p.tables e below (T249.setTop (mkF m 193 #[.val (.int p1), .val (.int p2), .val (.int p3), .val (.int p4), .val (.int p5), .val (.int p6), .val (.int (3 : Int32)), .val (.int rr2), .val (.int bb2), .val (.ref b7), .val (.ref s_REPETITION_DOWN_SIZE_UP), .val (.int xx), .val (.int yy), .val (.int (0 : Int32)), .val (.int (1 : Int32)), .val (.int (-xx)), .unset] [(.int bb2), (.int rr2), (.int p3), (.int p2), (.ref s_REPETITION_DOWN_SIZE_UP)])) _
        exact kt
      obtain ⟨cq260, kq260, q260a, q260b, q260c⟩ := isOf hZ e249 F164_145
      obtain ⟨_, _, ⟨T260, L260, k260, n260⟩, -, X260, ⟨Lc260, hQ260, l260, y260, z260⟩, st260⟩ := X249.virtualBack hx (y := (⟨"com/example/starling/starling/schedule/MessageOrder", "compare", "(IIII)I"⟩ : MethodName)) (z := (⟨"com/example/starling/starling/schedule/MessageOrder", "compare", "(IIII)I"⟩ : MethodName)) hown (mvT hZ (hw _ (mgE 19 rfl))) (mvT hZ (hw _ (mgE 20 rfl))) (notFace_of_selects (args := #[]) (mvT hZ (hw _ (mgE 22 rfl)))) (mvT hZ (hw _ (mgE 22 rfl))) (mvT hZ (hw _ (mgE 21 rfl))) (by decide) (backOf (W := 0) (rm2 l Z a0 hw [] s_REPETITION_DOWN_SIZE_UP p2 p3 rr2 bb2 (-1 : Int32) (1 : Int32) h145 n0 Z145 F156_145 F157_145) hZ (hw _ (mgE 23 rfl)) (hw _ (mgE 4 rfl)) (by decide) (by decide)) q260a q260c (g := (mkF m 193 #[.val (.int p1), .val (.int p2), .val (.int p3), .val (.int p4), .val (.int p5), .val (.int p6), .val (.int (3 : Int32)), .val (.int rr2), .val (.int bb2), .val (.ref b7), .val (.ref s_REPETITION_DOWN_SIZE_UP), .val (.int xx), .val (.int yy), .val (.int (0 : Int32)), .val (.int (1 : Int32)), .val (.int (-xx)), .unset] [(.int bb2), (.int rr2), (.int p3), (.int p2), (.ref s_REPETITION_DOWN_SIZE_UP)])) rfl (by rw [hml]; rfl) (Steps.refl _) (argsL := [(.int p2), (.int p3), (.int rr2), (.int bb2)]) (rest := []) (lenOf pd__IIII_I rfl) rfl (by show 2 * 0 + _ ≤ _; exact Nat.le_of_eq rfl) (hb hby at_193) (fun _ _ => ⟨rfl, e249, (by decide : 1 + 0 ≤ _), (by decide : 5 + 0 ≤ _)⟩)
      dsimp only [Pt.U, Pt.locs, Pt.cells, Pt.slots] at X260 l260 y260 z260 st260 hQ260
      subst l260 y260 z260
      obtain ⟨rfl, N260q, e260⟩ := hQ260
      have pre261 : ∀ t, Steps p.tables e below (T260.setTop (mkF m 196 #[.val (.int p1), .val (.int p2), .val (.int p3), .val (.int p4), .val (.int p5), .val (.int p6), .val (.int (3 : Int32)), .val (.int rr2), .val (.int bb2), .val (.ref b7), .val (.ref s_REPETITION_DOWN_SIZE_UP), .val (.int xx), .val (.int yy), .val (.int (0 : Int32)), .val (.int (1 : Int32)), .val (.int (-xx)), .unset] [(.int (r2 p2 p3 rr2 bb2 (-1 : Int32) (1 : Int32)))])) t → Steps p.tables e below (s₁.setTop (entryFrame m #[(.int p1), (.int p2), (.int p3), (.int p4), (.int p5), (.int p6)] maxLocals)) t := fun t kt => pre259 t (st260.trans kt)
      have N260 := Fr.app N249 N260q
      have pre262 : ∀ t, Steps p.tables e below (T260.setTop (mkF m 200 #[.val (.int p1), .val (.int p2), .val (.int p3), .val (.int p4), .val (.int p5), .val (.int p6), .val (.int (3 : Int32)), .val (.int rr2), .val (.int bb2), .val (.ref b7), .val (.ref s_REPETITION_DOWN_SIZE_UP), .val (.int xx), .val (.int yy), .val (.int (0 : Int32)), .val (.int (1 : Int32)), .val (.int (-xx)), .val (.int (r2 p2 p3 rr2 bb2 (-1 : Int32) (1 : Int32)))] [(.int (r2 p2 p3 rr2 bb2 (-1 : Int32) (1 : Int32)))])) t → Steps p.tables e below (s₁.setTop (entryFrame m #[(.int p1), (.int p2), (.int p3), (.int p4), (.int p5), (.int p6)] maxLocals)) t := fun t kt => by
        refine pre261 t ?_
        refine XS.istore X260.here hx rfl (hb hby at_196) rfl (l' := #[.val (.int p1), .val (.int p2), .val (.int p3), .val (.int p4), .val (.int p5), .val (.int p6), .val (.int (3 : Int32)), .val (.int rr2), .val (.int bb2), .val (.ref b7), .val (.ref s_REPETITION_DOWN_SIZE_UP), .val (.int xx), .val (.int yy), .val (.int (0 : Int32)), .val (.int (1 : Int32)), .val (.int (-xx)), .val (.int (r2 p2 p3 rr2 bb2 (-1 : Int32) (1 : Int32)))]) rfl ?_
        show Steps p.tables e below (T260.setTop (mkF m 198 #[.val (.int p1), .val (.int p2), .val (.int p3), .val (.int p4), .val (.int p5), .val (.int p6), .val (.int (3 : Int32)), .val (.int rr2), .val (.int bb2), .val (.ref b7), .val (.ref s_REPETITION_DOWN_SIZE_UP), .val (.int xx), .val (.int yy), .val (.int (0 : Int32)), .val (.int (1 : Int32)), .val (.int (-xx)), .val (.int (r2 p2 p3 rr2 bb2 (-1 : Int32) (1 : Int32)))] [])) _
        refine XS.iload X260.here hx rfl (hb hby at_198) rfl ?_
        show Steps p.tables e below (T260.setTop (mkF m 200 #[.val (.int p1), .val (.int p2), .val (.int p3), .val (.int p4), .val (.int p5), .val (.int p6), .val (.int (3 : Int32)), .val (.int rr2), .val (.int bb2), .val (.ref b7), .val (.ref s_REPETITION_DOWN_SIZE_UP), .val (.int xx), .val (.int yy), .val (.int (0 : Int32)), .val (.int (1 : Int32)), .val (.int (-xx)), .val (.int (r2 p2 p3 rr2 bb2 (-1 : Int32) (1 : Int32)))] [(.int (r2 p2 p3 rr2 bb2 (-1 : Int32) (1 : Int32)))])) _
        exact kt
      obtain ⟨_, _, ⟨T263, L263, k263, n263⟩, -, X263, ⟨Lc263, hQ263, l263, y263, z263⟩, st263⟩ := Jvm.LawKit.callS X260 hx (y := (⟨"com/example/starling/starling/schedule/MessageOrderComparePinLaw", "sgn", "(I)I"⟩ : MethodName)) hown (mvT hZ (hw _ (mgE 32 rfl))) (mvT hZ (hw _ (mgE 33 rfl))) (mvT hZ (hw _ (mgE 17 rfl))) (mvT hZ (hw _ (mgE 34 rfl))) (by decide) (backOf (W := 0) (rm4 l Z a0 hw [] (r2 p2 p3 rr2 bb2 (-1 : Int32) (1 : Int32)) h145 n0 Z145 ) hZ (hw _ (mgE 34 rfl)) (hw _ (mgE 17 rfl)) (by decide) (by decide)) (g := (mkF m 200 #[.val (.int p1), .val (.int p2), .val (.int p3), .val (.int p4), .val (.int p5), .val (.int p6), .val (.int (3 : Int32)), .val (.int rr2), .val (.int bb2), .val (.ref b7), .val (.ref s_REPETITION_DOWN_SIZE_UP), .val (.int xx), .val (.int yy), .val (.int (0 : Int32)), .val (.int (1 : Int32)), .val (.int (-xx)), .val (.int (r2 p2 p3 rr2 bb2 (-1 : Int32) (1 : Int32)))] [(.int (r2 p2 p3 rr2 bb2 (-1 : Int32) (1 : Int32)))])) rfl (by rw [hml]; rfl) (argsL := [(.int (r2 p2 p3 rr2 bb2 (-1 : Int32) (1 : Int32)))]) (rest := []) (lenOf pd__I_I rfl) rfl (by show 2 * 0 + _ ≤ _; exact Nat.le_of_eq rfl) (hb hby at_200) (fun _ _ => ⟨rfl, e260, (by decide : 1 + 0 ≤ _), (by decide : 5 + 0 ≤ _)⟩)
      dsimp only [Pt.U, Pt.locs, Pt.cells, Pt.slots] at X263 l263 y263 z263 st263 hQ263
      subst l263 y263 z263
      obtain ⟨rfl, N263q, e263⟩ := hQ263
      have pre264 : ∀ t, Steps p.tables e below (T263.setTop (mkF m 203 #[.val (.int p1), .val (.int p2), .val (.int p3), .val (.int p4), .val (.int p5), .val (.int p6), .val (.int (3 : Int32)), .val (.int rr2), .val (.int bb2), .val (.ref b7), .val (.ref s_REPETITION_DOWN_SIZE_UP), .val (.int xx), .val (.int yy), .val (.int (0 : Int32)), .val (.int (1 : Int32)), .val (.int (-xx)), .val (.int (r2 p2 p3 rr2 bb2 (-1 : Int32) (1 : Int32)))] [(.int (r4 (r2 p2 p3 rr2 bb2 (-1 : Int32) (1 : Int32))))])) t → Steps p.tables e below (s₁.setTop (entryFrame m #[(.int p1), (.int p2), (.int p3), (.int p4), (.int p5), (.int p6)] maxLocals)) t := fun t kt => pre262 t (st263 t kt)
      have N263 := Fr.app N260 N263q
      have hc205 : (r4 (r2 p2 p3 rr2 bb2 (-1 : Int32) (1 : Int32))) = (-xx) := by rw [own_cmp _ _ _ _ _ _ _ _ h_xx h_yy]; rcases hxx with rfl | rfl | rfl <;> rcases hyy with rfl | rfl | rfl <;> first | decide | (exfalso; revert hc145; decide)
      have pre265 : ∀ t, Steps p.tables e below (T263.setTop (mkF m 213 #[.val (.int p1), .val (.int p2), .val (.int p3), .val (.int p4), .val (.int p5), .val (.int p6), .val (.int (3 : Int32)), .val (.int rr2), .val (.int bb2), .val (.ref b7), .val (.ref s_REPETITION_DOWN_SIZE_UP), .val (.int xx), .val (.int yy), .val (.int (0 : Int32)), .val (.int (1 : Int32)), .val (.int (-xx)), .val (.int (r2 p2 p3 rr2 bb2 (-1 : Int32) (1 : Int32)))] [(.int (1 : Int32))])) t → Steps p.tables e below (s₁.setTop (entryFrame m #[(.int p1), (.int p2), (.int p3), (.int p4), (.int p5), (.int p6)] maxLocals)) t := fun t kt => by
        refine pre264 t ?_
        refine XS.iload X263.here hx rfl (hb hby at_203) rfl ?_
        show Steps p.tables e below (T263.setTop (mkF m 205 #[.val (.int p1), .val (.int p2), .val (.int p3), .val (.int p4), .val (.int p5), .val (.int p6), .val (.int (3 : Int32)), .val (.int rr2), .val (.int bb2), .val (.ref b7), .val (.ref s_REPETITION_DOWN_SIZE_UP), .val (.int xx), .val (.int yy), .val (.int (0 : Int32)), .val (.int (1 : Int32)), .val (.int (-xx)), .val (.int (r2 p2 p3 rr2 bb2 (-1 : Int32) (1 : Int32)))] [(.int (-xx)), (.int (r4 (r2 p2 p3 rr2 bb2 (-1 : Int32) (1 : Int32))))])) _
        refine XS.icmpNo X263.here hx rfl (hb hby at_205) rfl (teq hc205).2 ?_
        show Steps p.tables e below (T263.setTop (mkF m 208 #[.val (.int p1), .val (.int p2), .val (.int p3), .val (.int p4), .val (.int p5), .val (.int p6), .val (.int (3 : Int32)), .val (.int rr2), .val (.int bb2), .val (.ref b7), .val (.ref s_REPETITION_DOWN_SIZE_UP), .val (.int xx), .val (.int yy), .val (.int (0 : Int32)), .val (.int (1 : Int32)), .val (.int (-xx)), .val (.int (r2 p2 p3 rr2 bb2 (-1 : Int32) (1 : Int32)))] [])) _
        refine XS.iconst X263.here hx rfl (hb hby at_208) ?_
        show Steps p.tables e below (T263.setTop (mkF m 209 #[.val (.int p1), .val (.int p2), .val (.int p3), .val (.int p4), .val (.int p5), .val (.int p6), .val (.int (3 : Int32)), .val (.int rr2), .val (.int bb2), .val (.ref b7), .val (.ref s_REPETITION_DOWN_SIZE_UP), .val (.int xx), .val (.int yy), .val (.int (0 : Int32)), .val (.int (1 : Int32)), .val (.int (-xx)), .val (.int (r2 p2 p3 rr2 bb2 (-1 : Int32) (1 : Int32)))] [(.int (1 : Int32))])) _
        refine XS.goto X263.here hx rfl (pc0 := 209) (pc' := 213) rfl (hb hby at_209) (by decide) (by decide) ?_
        show Steps p.tables e below (T263.setTop (mkF m 213 #[.val (.int p1), .val (.int p2), .val (.int p3), .val (.int p4), .val (.int p5), .val (.int p6), .val (.int (3 : Int32)), .val (.int rr2), .val (.int bb2), .val (.ref b7), .val (.ref s_REPETITION_DOWN_SIZE_UP), .val (.int xx), .val (.int yy), .val (.int (0 : Int32)), .val (.int (1 : Int32)), .val (.int (-xx)), .val (.int (r2 p2 p3 rr2 bb2 (-1 : Int32) (1 : Int32)))] [(.int (1 : Int32))])) _
        exact kt
      obtain ⟨fs, hr, hrun, hended, hW, hsame⟩ := X263.leave (v := some (.int (1 : Int32))) (fun h => by rw [Bd.returns] at h; cases h)
      refine ⟨_, _, pre265 _ ?_, hrun, hended, _, _, rfl, ?_, ⟨_, rfl⟩, hW, hsame.mono (by decide) (by decide)⟩
      · exact retN X263 hx (t := .boolean) Bd.returns (by simp) (hb hby at_213) hr
      · show Q0 Z p1 p2 p3 p4 p5 p6 s_REPETITION_UP_SIZE_DOWN s_REPETITION_UP_SIZE_UP s_REPETITION_DOWN_SIZE_DOWN s_REPETITION_DOWN_SIZE_UP s_INPUT h0 n0 _ T263.heap _
        rw [e263]
        exact ⟨rfl, N263⟩
  · subst hcs
    have pre266 : ∀ t, Steps p.tables e below (T145.setTop (mkF m 75 #[.val (.int p1), .val (.int p2), .val (.int p3), .val (.int p4), .val (.int p5), .val (.int p6), .val (.int (4 : Int32)), .val (.int rr2), .val (.int bb2), .val (.ref b7), .unset, .unset, .unset, .unset, .unset, .unset, .unset] [(.int (4 : Int32)), (.ref b7)])) t → Steps p.tables e below (s₁.setTop (entryFrame m #[(.int p1), (.int p2), (.int p3), (.int p4), (.int p5), (.int p6)] maxLocals)) t := fun t kt => by
      refine pre169 t ?_
      refine XS.aload X145.here hx rfl (hb hby at_71) rfl rfl ?_
      show Steps p.tables e below (T145.setTop (mkF m 73 #[.val (.int p1), .val (.int p2), .val (.int p3), .val (.int p4), .val (.int p5), .val (.int p6), .val (.int (4 : Int32)), .val (.int rr2), .val (.int bb2), .val (.ref b7), .unset, .unset, .unset, .unset, .unset, .unset, .unset] [(.ref b7)])) _
      refine XS.iload X145.here hx rfl (hb hby at_73) rfl ?_
      show Steps p.tables e below (T145.setTop (mkF m 75 #[.val (.int p1), .val (.int p2), .val (.int p3), .val (.int p4), .val (.int p5), .val (.int p6), .val (.int (4 : Int32)), .val (.int rr2), .val (.int bb2), .val (.ref b7), .unset, .unset, .unset, .unset, .unset, .unset, .unset] [(.int (4 : Int32)), (.ref b7)])) _
      exact kt
    obtain ⟨cl267, Ar267, S267, Ng267, H267⟩ := id V145_b7
    have hj267 : ¬ (4 : Int32) < 0 ∧ (4 : Int32) < (5 : Int32) := ⟨by decide, by decide⟩
    have hin267 := inb_of S267 hj267
    have lt267 : ((4 : Int32)).toNatClampNeg < ((5 : Int32)).toNatClampNeg := by rw [← S267]; exact Nat.lt_of_not_le fun q => hin267 (Or.inr q)
    have hv267 : ((own_upd (own_upd (own_upd (own_upd (own_upd (fun _ => Value.null) ((0 : Int32)).toNatClampNeg (Value.ref s_REPETITION_UP_SIZE_DOWN)) ((1 : Int32)).toNatClampNeg (Value.ref s_REPETITION_UP_SIZE_UP)) ((2 : Int32)).toNatClampNeg (Value.ref s_REPETITION_DOWN_SIZE_DOWN)) ((3 : Int32)).toNatClampNeg (Value.ref s_REPETITION_DOWN_SIZE_UP)) ((4 : Int32)).toNatClampNeg (Value.ref s_INPUT)) ((4 : Int32)).toNatClampNeg) = (.ref s_INPUT) := rfl
    have pre268 : ∀ t, Steps p.tables e below (T145.setTop (mkF m 81 #[.val (.int p1), .val (.int p2), .val (.int p3), .val (.int p4), .val (.int p5), .val (.int p6), .val (.int (4 : Int32)), .val (.int rr2), .val (.int bb2), .val (.ref b7), .val (.ref s_INPUT), .unset, .unset, .unset, .unset, .unset, .unset] [(.int rr2), (.int p2)])) t → Steps p.tables e below (s₁.setTop (entryFrame m #[(.int p1), (.int p2), (.int p3), (.int p4), (.int p5), (.int p6)] maxLocals)) t := fun t kt => by
      refine pre266 t ?_
      refine X145.aaload hx (j := (4 : Int32)) (v := (.ref s_INPUT)) (by rw [e145]; exact Ar267.1) (State.isArrayOf_alike hZ.alike Ar267.2.1) rfl Ar267.2.2 hin267 ((H267 _ lt267).trans (congrArg some hv267)) (g := (mkF m 75 #[.val (.int p1), .val (.int p2), .val (.int p3), .val (.int p4), .val (.int p5), .val (.int p6), .val (.int (4 : Int32)), .val (.int rr2), .val (.int bb2), .val (.ref b7), .unset, .unset, .unset, .unset, .unset, .unset, .unset] [(.int (4 : Int32)), (.ref b7)])) rfl rfl (hb hby at_75) _ ?_
      show Steps p.tables e below (T145.setTop (mkF m 76 #[.val (.int p1), .val (.int p2), .val (.int p3), .val (.int p4), .val (.int p5), .val (.int p6), .val (.int (4 : Int32)), .val (.int rr2), .val (.int bb2), .val (.ref b7), .unset, .unset, .unset, .unset, .unset, .unset, .unset] [(.ref s_INPUT)])) _
      refine XS.astore X145.here hx rfl (hb hby at_76) rfl rfl (l' := #[.val (.int p1), .val (.int p2), .val (.int p3), .val (.int p4), .val (.int p5), .val (.int p6), .val (.int (4 : Int32)), .val (.int rr2), .val (.int bb2), .val (.ref b7), .val (.ref s_INPUT), .unset, .unset, .unset, .unset, .unset, .unset]) rfl ?_
      show Steps p.tables e below (T145.setTop (mkF m 78 #[.val (.int p1), .val (.int p2), .val (.int p3), .val (.int p4), .val (.int p5), .val (.int p6), .val (.int (4 : Int32)), .val (.int rr2), .val (.int bb2), .val (.ref b7), .val (.ref s_INPUT), .unset, .unset, .unset, .unset, .unset, .unset] [])) _
      refine XS.iloadN X145.here hx rfl (hb hby at_78) rfl ?_
      show Steps p.tables e below (T145.setTop (mkF m 79 #[.val (.int p1), .val (.int p2), .val (.int p3), .val (.int p4), .val (.int p5), .val (.int p6), .val (.int (4 : Int32)), .val (.int rr2), .val (.int bb2), .val (.ref b7), .val (.ref s_INPUT), .unset, .unset, .unset, .unset, .unset, .unset] [(.int p2)])) _
      refine XS.iload X145.here hx rfl (hb hby at_79) rfl ?_
      show Steps p.tables e below (T145.setTop (mkF m 81 #[.val (.int p1), .val (.int p2), .val (.int p3), .val (.int p4), .val (.int p5), .val (.int p6), .val (.int (4 : Int32)), .val (.int rr2), .val (.int bb2), .val (.ref b7), .val (.ref s_INPUT), .unset, .unset, .unset, .unset, .unset, .unset] [(.int rr2), (.int p2)])) _
      exact kt
    obtain ⟨_, _, ⟨T269, L269, k269, n269⟩, -, X269, ⟨Lc269, hQ269, l269, y269, z269⟩, st269⟩ := Jvm.LawKit.callS X145 hx (y := (⟨"com/example/starling/starling/schedule/MessageOrderComparePinLaw", "cmp", "(II)I"⟩ : MethodName)) hown (mvT hZ (hw _ (mgE 15 rfl))) (mvT hZ (hw _ (mgE 16 rfl))) (mvT hZ (hw _ (mgE 17 rfl))) (mvT hZ (hw _ (mgE 18 rfl))) (by decide) (backOf (W := 0) (rm1 l Z a0 hw [] p2 rr2 h145 n0 Z145 ) hZ (hw _ (mgE 18 rfl)) (hw _ (mgE 17 rfl)) (by decide) (by decide)) (g := (mkF m 81 #[.val (.int p1), .val (.int p2), .val (.int p3), .val (.int p4), .val (.int p5), .val (.int p6), .val (.int (4 : Int32)), .val (.int rr2), .val (.int bb2), .val (.ref b7), .val (.ref s_INPUT), .unset, .unset, .unset, .unset, .unset, .unset] [(.int rr2), (.int p2)])) rfl (by rw [hml]; rfl) (argsL := [(.int p2), (.int rr2)]) (rest := []) (lenOf pd__II_I rfl) rfl (by show 2 * 0 + _ ≤ _; exact Nat.le_of_eq rfl) (hb hby at_81) (fun _ _ => ⟨rfl, e145, (by decide : 1 + 0 ≤ _), (by decide : 5 + 0 ≤ _)⟩)
    dsimp only [Pt.U, Pt.locs, Pt.cells, Pt.slots] at X269 l269 y269 z269 st269 hQ269
    subst l269 y269 z269
    obtain ⟨rfl, N269q, e269⟩ := hQ269
    have pre270 : ∀ t, Steps p.tables e below (T269.setTop (mkF m 84 #[.val (.int p1), .val (.int p2), .val (.int p3), .val (.int p4), .val (.int p5), .val (.int p6), .val (.int (4 : Int32)), .val (.int rr2), .val (.int bb2), .val (.ref b7), .val (.ref s_INPUT), .unset, .unset, .unset, .unset, .unset, .unset] [(.int (r1 p2 rr2))])) t → Steps p.tables e below (s₁.setTop (entryFrame m #[(.int p1), (.int p2), (.int p3), (.int p4), (.int p5), (.int p6)] maxLocals)) t := fun t kt => pre268 t (st269 t kt)
    have N269 := Fr.app N145 N269q
    have pre271 : ∀ t, Steps p.tables e below (T269.setTop (mkF m 86 #[.val (.int p1), .val (.int p2), .val (.int p3), .val (.int p4), .val (.int p5), .val (.int p6), .val (.int (4 : Int32)), .val (.int rr2), .val (.int bb2), .val (.ref b7), .val (.ref s_INPUT), .val (.int (r1 p2 rr2)), .unset, .unset, .unset, .unset, .unset] [])) t → Steps p.tables e below (s₁.setTop (entryFrame m #[(.int p1), (.int p2), (.int p3), (.int p4), (.int p5), (.int p6)] maxLocals)) t := fun t kt => by
      refine pre270 t ?_
      refine XS.istore X269.here hx rfl (hb hby at_84) rfl (l' := #[.val (.int p1), .val (.int p2), .val (.int p3), .val (.int p4), .val (.int p5), .val (.int p6), .val (.int (4 : Int32)), .val (.int rr2), .val (.int bb2), .val (.ref b7), .val (.ref s_INPUT), .val (.int (r1 p2 rr2)), .unset, .unset, .unset, .unset, .unset]) rfl ?_
      show Steps p.tables e below (T269.setTop (mkF m 86 #[.val (.int p1), .val (.int p2), .val (.int p3), .val (.int p4), .val (.int p5), .val (.int p6), .val (.int (4 : Int32)), .val (.int rr2), .val (.int bb2), .val (.ref b7), .val (.ref s_INPUT), .val (.int (r1 p2 rr2)), .unset, .unset, .unset, .unset, .unset] [])) _
      exact kt
    obtain ⟨xx, h_xx⟩ : ∃ z, z = (r1 p2 rr2) := ⟨_, rfl⟩
    rw [← h_xx] at pre271
    have hxx := own_tri _ _ _ h_xx
    have pre272 : ∀ t, Steps p.tables e below (T269.setTop (mkF m 89 #[.val (.int p1), .val (.int p2), .val (.int p3), .val (.int p4), .val (.int p5), .val (.int p6), .val (.int (4 : Int32)), .val (.int rr2), .val (.int bb2), .val (.ref b7), .val (.ref s_INPUT), .val (.int xx), .unset, .unset, .unset, .unset, .unset] [(.int bb2), (.int p3)])) t → Steps p.tables e below (s₁.setTop (entryFrame m #[(.int p1), (.int p2), (.int p3), (.int p4), (.int p5), (.int p6)] maxLocals)) t := fun t kt => by
      refine pre271 t ?_
      refine XS.iloadN X269.here hx rfl (hb hby at_86) rfl ?_
      show Steps p.tables e below (T269.setTop (mkF m 87 #[.val (.int p1), .val (.int p2), .val (.int p3), .val (.int p4), .val (.int p5), .val (.int p6), .val (.int (4 : Int32)), .val (.int rr2), .val (.int bb2), .val (.ref b7), .val (.ref s_INPUT), .val (.int xx), .unset, .unset, .unset, .unset, .unset] [(.int p3)])) _
      refine XS.iload X269.here hx rfl (hb hby at_87) rfl ?_
      show Steps p.tables e below (T269.setTop (mkF m 89 #[.val (.int p1), .val (.int p2), .val (.int p3), .val (.int p4), .val (.int p5), .val (.int p6), .val (.int (4 : Int32)), .val (.int rr2), .val (.int bb2), .val (.ref b7), .val (.ref s_INPUT), .val (.int xx), .unset, .unset, .unset, .unset, .unset] [(.int bb2), (.int p3)])) _
      exact kt
    obtain ⟨_, _, ⟨T273, L273, k273, n273⟩, -, X273, ⟨Lc273, hQ273, l273, y273, z273⟩, st273⟩ := Jvm.LawKit.callS X269 hx (y := (⟨"com/example/starling/starling/schedule/MessageOrderComparePinLaw", "cmp", "(II)I"⟩ : MethodName)) hown (mvT hZ (hw _ (mgE 15 rfl))) (mvT hZ (hw _ (mgE 16 rfl))) (mvT hZ (hw _ (mgE 17 rfl))) (mvT hZ (hw _ (mgE 18 rfl))) (by decide) (backOf (W := 0) (rm1 l Z a0 hw [] p3 bb2 h145 n0 Z145 ) hZ (hw _ (mgE 18 rfl)) (hw _ (mgE 17 rfl)) (by decide) (by decide)) (g := (mkF m 89 #[.val (.int p1), .val (.int p2), .val (.int p3), .val (.int p4), .val (.int p5), .val (.int p6), .val (.int (4 : Int32)), .val (.int rr2), .val (.int bb2), .val (.ref b7), .val (.ref s_INPUT), .val (.int xx), .unset, .unset, .unset, .unset, .unset] [(.int bb2), (.int p3)])) rfl (by rw [hml]; rfl) (argsL := [(.int p3), (.int bb2)]) (rest := []) (lenOf pd__II_I rfl) rfl (by show 2 * 0 + _ ≤ _; exact Nat.le_of_eq rfl) (hb hby at_89) (fun _ _ => ⟨rfl, e269, (by decide : 1 + 0 ≤ _), (by decide : 5 + 0 ≤ _)⟩)
    dsimp only [Pt.U, Pt.locs, Pt.cells, Pt.slots] at X273 l273 y273 z273 st273 hQ273
    subst l273 y273 z273
    obtain ⟨rfl, N273q, e273⟩ := hQ273
    have pre274 : ∀ t, Steps p.tables e below (T273.setTop (mkF m 92 #[.val (.int p1), .val (.int p2), .val (.int p3), .val (.int p4), .val (.int p5), .val (.int p6), .val (.int (4 : Int32)), .val (.int rr2), .val (.int bb2), .val (.ref b7), .val (.ref s_INPUT), .val (.int xx), .unset, .unset, .unset, .unset, .unset] [(.int (r1 p3 bb2))])) t → Steps p.tables e below (s₁.setTop (entryFrame m #[(.int p1), (.int p2), (.int p3), (.int p4), (.int p5), (.int p6)] maxLocals)) t := fun t kt => pre272 t (st273 t kt)
    have N273 := Fr.app N269 N273q
    have pre275 : ∀ t, Steps p.tables e below (T273.setTop (mkF m 94 #[.val (.int p1), .val (.int p2), .val (.int p3), .val (.int p4), .val (.int p5), .val (.int p6), .val (.int (4 : Int32)), .val (.int rr2), .val (.int bb2), .val (.ref b7), .val (.ref s_INPUT), .val (.int xx), .val (.int (r1 p3 bb2)), .unset, .unset, .unset, .unset] [])) t → Steps p.tables e below (s₁.setTop (entryFrame m #[(.int p1), (.int p2), (.int p3), (.int p4), (.int p5), (.int p6)] maxLocals)) t := fun t kt => by
      refine pre274 t ?_
      refine XS.istore X273.here hx rfl (hb hby at_92) rfl (l' := #[.val (.int p1), .val (.int p2), .val (.int p3), .val (.int p4), .val (.int p5), .val (.int p6), .val (.int (4 : Int32)), .val (.int rr2), .val (.int bb2), .val (.ref b7), .val (.ref s_INPUT), .val (.int xx), .val (.int (r1 p3 bb2)), .unset, .unset, .unset, .unset]) rfl ?_
      show Steps p.tables e below (T273.setTop (mkF m 94 #[.val (.int p1), .val (.int p2), .val (.int p3), .val (.int p4), .val (.int p5), .val (.int p6), .val (.int (4 : Int32)), .val (.int rr2), .val (.int bb2), .val (.ref b7), .val (.ref s_INPUT), .val (.int xx), .val (.int (r1 p3 bb2)), .unset, .unset, .unset, .unset] [])) _
      exact kt
    obtain ⟨yy, h_yy⟩ : ∃ z, z = (r1 p3 bb2) := ⟨_, rfl⟩
    rw [← h_yy] at pre275
    have hyy := own_tri _ _ _ h_yy
    have pre276 : ∀ t, Steps p.tables e below (T273.setTop (mkF m 193 #[.val (.int p1), .val (.int p2), .val (.int p3), .val (.int p4), .val (.int p5), .val (.int p6), .val (.int (4 : Int32)), .val (.int rr2), .val (.int bb2), .val (.ref b7), .val (.ref s_INPUT), .val (.int xx), .val (.int yy), .val (.int (0 : Int32)), .val (.int (0 : Int32)), .val (.int (0 : Int32)), .unset] [(.int bb2), (.int rr2), (.int p3), (.int p2), (.ref s_INPUT)])) t → Steps p.tables e below (s₁.setTop (entryFrame m #[(.int p1), (.int p2), (.int p3), (.int p4), (.int p5), (.int p6)] maxLocals)) t := fun t kt => by
      refine pre275 t ?_
      refine XS.iload X273.here hx rfl (hb hby at_94) rfl ?_
      show Steps p.tables e below (T273.setTop (mkF m 96 #[.val (.int p1), .val (.int p2), .val (.int p3), .val (.int p4), .val (.int p5), .val (.int p6), .val (.int (4 : Int32)), .val (.int rr2), .val (.int bb2), .val (.ref b7), .val (.ref s_INPUT), .val (.int xx), .val (.int yy), .unset, .unset, .unset, .unset] [(.int (4 : Int32))])) _
      refine XS.ifNo X273.here hx rfl (hb hby at_96) rfl ((if0 _ _).trans (feq (by decide : ¬ ((4 : Int32) = (0 : Int32)))).1) ?_
      show Steps p.tables e below (T273.setTop (mkF m 99 #[.val (.int p1), .val (.int p2), .val (.int p3), .val (.int p4), .val (.int p5), .val (.int p6), .val (.int (4 : Int32)), .val (.int rr2), .val (.int bb2), .val (.ref b7), .val (.ref s_INPUT), .val (.int xx), .val (.int yy), .unset, .unset, .unset, .unset] [])) _
      refine XS.iload X273.here hx rfl (hb hby at_99) rfl ?_
      show Steps p.tables e below (T273.setTop (mkF m 101 #[.val (.int p1), .val (.int p2), .val (.int p3), .val (.int p4), .val (.int p5), .val (.int p6), .val (.int (4 : Int32)), .val (.int rr2), .val (.int bb2), .val (.ref b7), .val (.ref s_INPUT), .val (.int xx), .val (.int yy), .unset, .unset, .unset, .unset] [(.int (4 : Int32))])) _
      refine XS.iconst X273.here hx rfl (hb hby at_101) ?_
      show Steps p.tables e below (T273.setTop (mkF m 102 #[.val (.int p1), .val (.int p2), .val (.int p3), .val (.int p4), .val (.int p5), .val (.int p6), .val (.int (4 : Int32)), .val (.int rr2), .val (.int bb2), .val (.ref b7), .val (.ref s_INPUT), .val (.int xx), .val (.int yy), .unset, .unset, .unset, .unset] [(.int (1 : Int32)), (.int (4 : Int32))])) _
      refine XS.icmpYes X273.here hx rfl (pc0 := 102) (pc' := 109) rfl (hb hby at_102) rfl (feq (by decide : ¬ ((4 : Int32) = (1 : Int32)))).2 (by decide) (by decide) ?_
      show Steps p.tables e below (T273.setTop (mkF m 109 #[.val (.int p1), .val (.int p2), .val (.int p3), .val (.int p4), .val (.int p5), .val (.int p6), .val (.int (4 : Int32)), .val (.int rr2), .val (.int bb2), .val (.ref b7), .val (.ref s_INPUT), .val (.int xx), .val (.int yy), .unset, .unset, .unset, .unset] [])) _
      refine XS.iconst X273.here hx rfl (hb hby at_109) ?_
      show Steps p.tables e below (T273.setTop (mkF m 110 #[.val (.int p1), .val (.int p2), .val (.int p3), .val (.int p4), .val (.int p5), .val (.int p6), .val (.int (4 : Int32)), .val (.int rr2), .val (.int bb2), .val (.ref b7), .val (.ref s_INPUT), .val (.int xx), .val (.int yy), .unset, .unset, .unset, .unset] [(.int (0 : Int32))])) _
      refine XS.istore X273.here hx rfl (hb hby at_110) rfl (l' := #[.val (.int p1), .val (.int p2), .val (.int p3), .val (.int p4), .val (.int p5), .val (.int p6), .val (.int (4 : Int32)), .val (.int rr2), .val (.int bb2), .val (.ref b7), .val (.ref s_INPUT), .val (.int xx), .val (.int yy), .val (.int (0 : Int32)), .unset, .unset, .unset]) rfl ?_
      show Steps p.tables e below (T273.setTop (mkF m 112 #[.val (.int p1), .val (.int p2), .val (.int p3), .val (.int p4), .val (.int p5), .val (.int p6), .val (.int (4 : Int32)), .val (.int rr2), .val (.int bb2), .val (.ref b7), .val (.ref s_INPUT), .val (.int xx), .val (.int yy), .val (.int (0 : Int32)), .unset, .unset, .unset] [])) _
      refine XS.iload X273.here hx rfl (hb hby at_112) rfl ?_
      show Steps p.tables e below (T273.setTop (mkF m 114 #[.val (.int p1), .val (.int p2), .val (.int p3), .val (.int p4), .val (.int p5), .val (.int p6), .val (.int (4 : Int32)), .val (.int rr2), .val (.int bb2), .val (.ref b7), .val (.ref s_INPUT), .val (.int xx), .val (.int yy), .val (.int (0 : Int32)), .unset, .unset, .unset] [(.int (4 : Int32))])) _
      refine XS.iconst X273.here hx rfl (hb hby at_114) ?_
      show Steps p.tables e below (T273.setTop (mkF m 115 #[.val (.int p1), .val (.int p2), .val (.int p3), .val (.int p4), .val (.int p5), .val (.int p6), .val (.int (4 : Int32)), .val (.int rr2), .val (.int bb2), .val (.ref b7), .val (.ref s_INPUT), .val (.int xx), .val (.int yy), .val (.int (0 : Int32)), .unset, .unset, .unset] [(.int (1 : Int32)), (.int (4 : Int32))])) _
      refine XS.icmpNo X273.here hx rfl (hb hby at_115) rfl (feq (by decide : ¬ ((4 : Int32) = (1 : Int32)))).1 ?_
      show Steps p.tables e below (T273.setTop (mkF m 118 #[.val (.int p1), .val (.int p2), .val (.int p3), .val (.int p4), .val (.int p5), .val (.int p6), .val (.int (4 : Int32)), .val (.int rr2), .val (.int bb2), .val (.ref b7), .val (.ref s_INPUT), .val (.int xx), .val (.int yy), .val (.int (0 : Int32)), .unset, .unset, .unset] [])) _
      refine XS.iload X273.here hx rfl (hb hby at_118) rfl ?_
      show Steps p.tables e below (T273.setTop (mkF m 120 #[.val (.int p1), .val (.int p2), .val (.int p3), .val (.int p4), .val (.int p5), .val (.int p6), .val (.int (4 : Int32)), .val (.int rr2), .val (.int bb2), .val (.ref b7), .val (.ref s_INPUT), .val (.int xx), .val (.int yy), .val (.int (0 : Int32)), .unset, .unset, .unset] [(.int (4 : Int32))])) _
      refine XS.iconst X273.here hx rfl (hb hby at_120) ?_
      show Steps p.tables e below (T273.setTop (mkF m 121 #[.val (.int p1), .val (.int p2), .val (.int p3), .val (.int p4), .val (.int p5), .val (.int p6), .val (.int (4 : Int32)), .val (.int rr2), .val (.int bb2), .val (.ref b7), .val (.ref s_INPUT), .val (.int xx), .val (.int yy), .val (.int (0 : Int32)), .unset, .unset, .unset] [(.int (3 : Int32)), (.int (4 : Int32))])) _
      refine XS.icmpYes X273.here hx rfl (pc0 := 121) (pc' := 128) rfl (hb hby at_121) rfl (feq (by decide : ¬ ((4 : Int32) = (3 : Int32)))).2 (by decide) (by decide) ?_
      show Steps p.tables e below (T273.setTop (mkF m 128 #[.val (.int p1), .val (.int p2), .val (.int p3), .val (.int p4), .val (.int p5), .val (.int p6), .val (.int (4 : Int32)), .val (.int rr2), .val (.int bb2), .val (.ref b7), .val (.ref s_INPUT), .val (.int xx), .val (.int yy), .val (.int (0 : Int32)), .unset, .unset, .unset] [])) _
      refine XS.iconst X273.here hx rfl (hb hby at_128) ?_
      show Steps p.tables e below (T273.setTop (mkF m 129 #[.val (.int p1), .val (.int p2), .val (.int p3), .val (.int p4), .val (.int p5), .val (.int p6), .val (.int (4 : Int32)), .val (.int rr2), .val (.int bb2), .val (.ref b7), .val (.ref s_INPUT), .val (.int xx), .val (.int yy), .val (.int (0 : Int32)), .unset, .unset, .unset] [(.int (0 : Int32))])) _
      refine XS.istore X273.here hx rfl (hb hby at_129) rfl (l' := #[.val (.int p1), .val (.int p2), .val (.int p3), .val (.int p4), .val (.int p5), .val (.int p6), .val (.int (4 : Int32)), .val (.int rr2), .val (.int bb2), .val (.ref b7), .val (.ref s_INPUT), .val (.int xx), .val (.int yy), .val (.int (0 : Int32)), .val (.int (0 : Int32)), .unset, .unset]) rfl ?_
      show Steps p.tables e below (T273.setTop (mkF m 131 #[.val (.int p1), .val (.int p2), .val (.int p3), .val (.int p4), .val (.int p5), .val (.int p6), .val (.int (4 : Int32)), .val (.int rr2), .val (.int bb2), .val (.ref b7), .val (.ref s_INPUT), .val (.int xx), .val (.int yy), .val (.int (0 : Int32)), .val (.int (0 : Int32)), .unset, .unset] [])) _
      refine XS.iload X273.here hx rfl (hb hby at_131) rfl ?_
      show Steps p.tables e below (T273.setTop (mkF m 133 #[.val (.int p1), .val (.int p2), .val (.int p3), .val (.int p4), .val (.int p5), .val (.int p6), .val (.int (4 : Int32)), .val (.int rr2), .val (.int bb2), .val (.ref b7), .val (.ref s_INPUT), .val (.int xx), .val (.int yy), .val (.int (0 : Int32)), .val (.int (0 : Int32)), .unset, .unset] [(.int (4 : Int32))])) _
      refine XS.iconst X273.here hx rfl (hb hby at_133) ?_
      show Steps p.tables e below (T273.setTop (mkF m 134 #[.val (.int p1), .val (.int p2), .val (.int p3), .val (.int p4), .val (.int p5), .val (.int p6), .val (.int (4 : Int32)), .val (.int rr2), .val (.int bb2), .val (.ref b7), .val (.ref s_INPUT), .val (.int xx), .val (.int yy), .val (.int (0 : Int32)), .val (.int (0 : Int32)), .unset, .unset] [(.int (4 : Int32)), (.int (4 : Int32))])) _
      refine XS.icmpNo X273.here hx rfl (hb hby at_134) rfl (teq (by decide : (4 : Int32) = (4 : Int32))).2 ?_
      show Steps p.tables e below (T273.setTop (mkF m 137 #[.val (.int p1), .val (.int p2), .val (.int p3), .val (.int p4), .val (.int p5), .val (.int p6), .val (.int (4 : Int32)), .val (.int rr2), .val (.int bb2), .val (.ref b7), .val (.ref s_INPUT), .val (.int xx), .val (.int yy), .val (.int (0 : Int32)), .val (.int (0 : Int32)), .unset, .unset] [])) _
      refine XS.iconst X273.here hx rfl (hb hby at_137) ?_
      show Steps p.tables e below (T273.setTop (mkF m 138 #[.val (.int p1), .val (.int p2), .val (.int p3), .val (.int p4), .val (.int p5), .val (.int p6), .val (.int (4 : Int32)), .val (.int rr2), .val (.int bb2), .val (.ref b7), .val (.ref s_INPUT), .val (.int xx), .val (.int yy), .val (.int (0 : Int32)), .val (.int (0 : Int32)), .unset, .unset] [(.int (0 : Int32))])) _
      refine XS.istore X273.here hx rfl (hb hby at_138) rfl (l' := #[.val (.int p1), .val (.int p2), .val (.int p3), .val (.int p4), .val (.int p5), .val (.int p6), .val (.int (4 : Int32)), .val (.int rr2), .val (.int bb2), .val (.ref b7), .val (.ref s_INPUT), .val (.int xx), .val (.int yy), .val (.int (0 : Int32)), .val (.int (0 : Int32)), .val (.int (0 : Int32)), .unset]) rfl ?_
      show Steps p.tables e below (T273.setTop (mkF m 140 #[.val (.int p1), .val (.int p2), .val (.int p3), .val (.int p4), .val (.int p5), .val (.int p6), .val (.int (4 : Int32)), .val (.int rr2), .val (.int bb2), .val (.ref b7), .val (.ref s_INPUT), .val (.int xx), .val (.int yy), .val (.int (0 : Int32)), .val (.int (0 : Int32)), .val (.int (0 : Int32)), .unset] [])) _
      refine XS.goto X273.here hx rfl (pc0 := 140) (pc' := 185) rfl (hb hby at_140) (by decide) (by decide) ?_
      show Steps p.tables e below (T273.setTop (mkF m 185 #[.val (.int p1), .val (.int p2), .val (.int p3), .val (.int p4), .val (.int p5), .val (.int p6), .val (.int (4 : Int32)), .val (.int rr2), .val (.int bb2), .val (.ref b7), .val (.ref s_INPUT), .val (.int xx), .val (.int yy), .val (.int (0 : Int32)), .val (.int (0 : Int32)), .val (.int (0 : Int32)), .unset] [])) _
      refine XS.aload X273.here hx rfl (hb hby at_185) rfl rfl ?_
      show Steps p.tables e below (T273.setTop (mkF m 187 #[.val (.int p1), .val (.int p2), .val (.int p3), .val (.int p4), .val (.int p5), .val (.int p6), .val (.int (4 : Int32)), .val (.int rr2), .val (.int bb2), .val (.ref b7), .val (.ref s_INPUT), .val (.int xx), .val (.int yy), .val (.int (0 : Int32)), .val (.int (0 : Int32)), .val (.int (0 : Int32)), .unset] [(.ref s_INPUT)])) _
      refine XS.iloadN X273.here hx rfl (hb hby at_187) rfl ?_
      show Steps p.tables e below (T273.setTop (mkF m 188 #[.val (.int p1), .val (.int p2), .val (.int p3), .val (.int p4), .val (.int p5), .val (.int p6), .val (.int (4 : Int32)), .val (.int rr2), .val (.int bb2), .val (.ref b7), .val (.ref s_INPUT), .val (.int xx), .val (.int yy), .val (.int (0 : Int32)), .val (.int (0 : Int32)), .val (.int (0 : Int32)), .unset] [(.int p2), (.ref s_INPUT)])) _
      refine XS.iloadN X273.here hx rfl (hb hby at_188) rfl ?_
      show Steps p.tables e below (T273.setTop (mkF m 189 #[.val (.int p1), .val (.int p2), .val (.int p3), .val (.int p4), .val (.int p5), .val (.int p6), .val (.int (4 : Int32)), .val (.int rr2), .val (.int bb2), .val (.ref b7), .val (.ref s_INPUT), .val (.int xx), .val (.int yy), .val (.int (0 : Int32)), .val (.int (0 : Int32)), .val (.int (0 : Int32)), .unset] [(.int p3), (.int p2), (.ref s_INPUT)])) _
      refine XS.iload X273.here hx rfl (hb hby at_189) rfl ?_
      show Steps p.tables e below (T273.setTop (mkF m 191 #[.val (.int p1), .val (.int p2), .val (.int p3), .val (.int p4), .val (.int p5), .val (.int p6), .val (.int (4 : Int32)), .val (.int rr2), .val (.int bb2), .val (.ref b7), .val (.ref s_INPUT), .val (.int xx), .val (.int yy), .val (.int (0 : Int32)), .val (.int (0 : Int32)), .val (.int (0 : Int32)), .unset] [(.int rr2), (.int p3), (.int p2), (.ref s_INPUT)])) _
      refine XS.iload X273.here hx rfl (hb hby at_191) rfl ?_
      show Steps p.tables e below (T273.setTop (mkF m 193 #[.val (.int p1), .val (.int p2), .val (.int p3), .val (.int p4), .val (.int p5), .val (.int p6), .val (.int (4 : Int32)), .val (.int rr2), .val (.int bb2), .val (.ref b7), .val (.ref s_INPUT), .val (.int xx), .val (.int yy), .val (.int (0 : Int32)), .val (.int (0 : Int32)), .val (.int (0 : Int32)), .unset] [(.int bb2), (.int rr2), (.int p3), (.int p2), (.ref s_INPUT)])) _
      exact kt
    obtain ⟨cq277, kq277, q277a, q277b, q277c⟩ := isOf hZ e273 F165_145
    obtain ⟨_, _, ⟨T277, L277, k277, n277⟩, -, X277, ⟨Lc277, hQ277, l277, y277, z277⟩, st277⟩ := X273.virtualBack hx (y := (⟨"com/example/starling/starling/schedule/MessageOrder", "compare", "(IIII)I"⟩ : MethodName)) (z := (⟨"com/example/starling/starling/schedule/MessageOrder", "compare", "(IIII)I"⟩ : MethodName)) hown (mvT hZ (hw _ (mgE 19 rfl))) (mvT hZ (hw _ (mgE 20 rfl))) (notFace_of_selects (args := #[]) (mvT hZ (hw _ (mgE 22 rfl)))) (mvT hZ (hw _ (mgE 22 rfl))) (mvT hZ (hw _ (mgE 21 rfl))) (by decide) (backOf (W := 0) (rm2 l Z a0 hw [] s_INPUT p2 p3 rr2 bb2 (0 : Int32) (0 : Int32) h145 n0 Z145 F159_145 F160_145) hZ (hw _ (mgE 23 rfl)) (hw _ (mgE 4 rfl)) (by decide) (by decide)) q277a q277c (g := (mkF m 193 #[.val (.int p1), .val (.int p2), .val (.int p3), .val (.int p4), .val (.int p5), .val (.int p6), .val (.int (4 : Int32)), .val (.int rr2), .val (.int bb2), .val (.ref b7), .val (.ref s_INPUT), .val (.int xx), .val (.int yy), .val (.int (0 : Int32)), .val (.int (0 : Int32)), .val (.int (0 : Int32)), .unset] [(.int bb2), (.int rr2), (.int p3), (.int p2), (.ref s_INPUT)])) rfl (by rw [hml]; rfl) (Steps.refl _) (argsL := [(.int p2), (.int p3), (.int rr2), (.int bb2)]) (rest := []) (lenOf pd__IIII_I rfl) rfl (by show 2 * 0 + _ ≤ _; exact Nat.le_of_eq rfl) (hb hby at_193) (fun _ _ => ⟨rfl, e273, (by decide : 1 + 0 ≤ _), (by decide : 5 + 0 ≤ _)⟩)
    dsimp only [Pt.U, Pt.locs, Pt.cells, Pt.slots] at X277 l277 y277 z277 st277 hQ277
    subst l277 y277 z277
    obtain ⟨rfl, N277q, e277⟩ := hQ277
    have pre278 : ∀ t, Steps p.tables e below (T277.setTop (mkF m 196 #[.val (.int p1), .val (.int p2), .val (.int p3), .val (.int p4), .val (.int p5), .val (.int p6), .val (.int (4 : Int32)), .val (.int rr2), .val (.int bb2), .val (.ref b7), .val (.ref s_INPUT), .val (.int xx), .val (.int yy), .val (.int (0 : Int32)), .val (.int (0 : Int32)), .val (.int (0 : Int32)), .unset] [(.int (r2 p2 p3 rr2 bb2 (0 : Int32) (0 : Int32)))])) t → Steps p.tables e below (s₁.setTop (entryFrame m #[(.int p1), (.int p2), (.int p3), (.int p4), (.int p5), (.int p6)] maxLocals)) t := fun t kt => pre276 t (st277.trans kt)
    have N277 := Fr.app N273 N277q
    have pre279 : ∀ t, Steps p.tables e below (T277.setTop (mkF m 200 #[.val (.int p1), .val (.int p2), .val (.int p3), .val (.int p4), .val (.int p5), .val (.int p6), .val (.int (4 : Int32)), .val (.int rr2), .val (.int bb2), .val (.ref b7), .val (.ref s_INPUT), .val (.int xx), .val (.int yy), .val (.int (0 : Int32)), .val (.int (0 : Int32)), .val (.int (0 : Int32)), .val (.int (r2 p2 p3 rr2 bb2 (0 : Int32) (0 : Int32)))] [(.int (r2 p2 p3 rr2 bb2 (0 : Int32) (0 : Int32)))])) t → Steps p.tables e below (s₁.setTop (entryFrame m #[(.int p1), (.int p2), (.int p3), (.int p4), (.int p5), (.int p6)] maxLocals)) t := fun t kt => by
      refine pre278 t ?_
      refine XS.istore X277.here hx rfl (hb hby at_196) rfl (l' := #[.val (.int p1), .val (.int p2), .val (.int p3), .val (.int p4), .val (.int p5), .val (.int p6), .val (.int (4 : Int32)), .val (.int rr2), .val (.int bb2), .val (.ref b7), .val (.ref s_INPUT), .val (.int xx), .val (.int yy), .val (.int (0 : Int32)), .val (.int (0 : Int32)), .val (.int (0 : Int32)), .val (.int (r2 p2 p3 rr2 bb2 (0 : Int32) (0 : Int32)))]) rfl ?_
      show Steps p.tables e below (T277.setTop (mkF m 198 #[.val (.int p1), .val (.int p2), .val (.int p3), .val (.int p4), .val (.int p5), .val (.int p6), .val (.int (4 : Int32)), .val (.int rr2), .val (.int bb2), .val (.ref b7), .val (.ref s_INPUT), .val (.int xx), .val (.int yy), .val (.int (0 : Int32)), .val (.int (0 : Int32)), .val (.int (0 : Int32)), .val (.int (r2 p2 p3 rr2 bb2 (0 : Int32) (0 : Int32)))] [])) _
      refine XS.iload X277.here hx rfl (hb hby at_198) rfl ?_
      show Steps p.tables e below (T277.setTop (mkF m 200 #[.val (.int p1), .val (.int p2), .val (.int p3), .val (.int p4), .val (.int p5), .val (.int p6), .val (.int (4 : Int32)), .val (.int rr2), .val (.int bb2), .val (.ref b7), .val (.ref s_INPUT), .val (.int xx), .val (.int yy), .val (.int (0 : Int32)), .val (.int (0 : Int32)), .val (.int (0 : Int32)), .val (.int (r2 p2 p3 rr2 bb2 (0 : Int32) (0 : Int32)))] [(.int (r2 p2 p3 rr2 bb2 (0 : Int32) (0 : Int32)))])) _
      exact kt
    obtain ⟨_, _, ⟨T280, L280, k280, n280⟩, -, X280, ⟨Lc280, hQ280, l280, y280, z280⟩, st280⟩ := Jvm.LawKit.callS X277 hx (y := (⟨"com/example/starling/starling/schedule/MessageOrderComparePinLaw", "sgn", "(I)I"⟩ : MethodName)) hown (mvT hZ (hw _ (mgE 32 rfl))) (mvT hZ (hw _ (mgE 33 rfl))) (mvT hZ (hw _ (mgE 17 rfl))) (mvT hZ (hw _ (mgE 34 rfl))) (by decide) (backOf (W := 0) (rm4 l Z a0 hw [] (r2 p2 p3 rr2 bb2 (0 : Int32) (0 : Int32)) h145 n0 Z145 ) hZ (hw _ (mgE 34 rfl)) (hw _ (mgE 17 rfl)) (by decide) (by decide)) (g := (mkF m 200 #[.val (.int p1), .val (.int p2), .val (.int p3), .val (.int p4), .val (.int p5), .val (.int p6), .val (.int (4 : Int32)), .val (.int rr2), .val (.int bb2), .val (.ref b7), .val (.ref s_INPUT), .val (.int xx), .val (.int yy), .val (.int (0 : Int32)), .val (.int (0 : Int32)), .val (.int (0 : Int32)), .val (.int (r2 p2 p3 rr2 bb2 (0 : Int32) (0 : Int32)))] [(.int (r2 p2 p3 rr2 bb2 (0 : Int32) (0 : Int32)))])) rfl (by rw [hml]; rfl) (argsL := [(.int (r2 p2 p3 rr2 bb2 (0 : Int32) (0 : Int32)))]) (rest := []) (lenOf pd__I_I rfl) rfl (by show 2 * 0 + _ ≤ _; exact Nat.le_of_eq rfl) (hb hby at_200) (fun _ _ => ⟨rfl, e277, (by decide : 1 + 0 ≤ _), (by decide : 5 + 0 ≤ _)⟩)
    dsimp only [Pt.U, Pt.locs, Pt.cells, Pt.slots] at X280 l280 y280 z280 st280 hQ280
    subst l280 y280 z280
    obtain ⟨rfl, N280q, e280⟩ := hQ280
    have pre281 : ∀ t, Steps p.tables e below (T280.setTop (mkF m 203 #[.val (.int p1), .val (.int p2), .val (.int p3), .val (.int p4), .val (.int p5), .val (.int p6), .val (.int (4 : Int32)), .val (.int rr2), .val (.int bb2), .val (.ref b7), .val (.ref s_INPUT), .val (.int xx), .val (.int yy), .val (.int (0 : Int32)), .val (.int (0 : Int32)), .val (.int (0 : Int32)), .val (.int (r2 p2 p3 rr2 bb2 (0 : Int32) (0 : Int32)))] [(.int (r4 (r2 p2 p3 rr2 bb2 (0 : Int32) (0 : Int32))))])) t → Steps p.tables e below (s₁.setTop (entryFrame m #[(.int p1), (.int p2), (.int p3), (.int p4), (.int p5), (.int p6)] maxLocals)) t := fun t kt => pre279 t (st280 t kt)
    have N280 := Fr.app N277 N280q
    have hc205 : (r4 (r2 p2 p3 rr2 bb2 (0 : Int32) (0 : Int32))) = (0 : Int32) := by rw [own_cmp _ _ _ _ _ _ _ _ h_xx h_yy]; rcases hxx with rfl | rfl | rfl <;> rcases hyy with rfl | rfl | rfl <;> first | decide | (exfalso; revert hc145; decide)
    have pre282 : ∀ t, Steps p.tables e below (T280.setTop (mkF m 213 #[.val (.int p1), .val (.int p2), .val (.int p3), .val (.int p4), .val (.int p5), .val (.int p6), .val (.int (4 : Int32)), .val (.int rr2), .val (.int bb2), .val (.ref b7), .val (.ref s_INPUT), .val (.int xx), .val (.int yy), .val (.int (0 : Int32)), .val (.int (0 : Int32)), .val (.int (0 : Int32)), .val (.int (r2 p2 p3 rr2 bb2 (0 : Int32) (0 : Int32)))] [(.int (1 : Int32))])) t → Steps p.tables e below (s₁.setTop (entryFrame m #[(.int p1), (.int p2), (.int p3), (.int p4), (.int p5), (.int p6)] maxLocals)) t := fun t kt => by
      refine pre281 t ?_
      refine XS.iload X280.here hx rfl (hb hby at_203) rfl ?_
      show Steps p.tables e below (T280.setTop (mkF m 205 #[.val (.int p1), .val (.int p2), .val (.int p3), .val (.int p4), .val (.int p5), .val (.int p6), .val (.int (4 : Int32)), .val (.int rr2), .val (.int bb2), .val (.ref b7), .val (.ref s_INPUT), .val (.int xx), .val (.int yy), .val (.int (0 : Int32)), .val (.int (0 : Int32)), .val (.int (0 : Int32)), .val (.int (r2 p2 p3 rr2 bb2 (0 : Int32) (0 : Int32)))] [(.int (0 : Int32)), (.int (r4 (r2 p2 p3 rr2 bb2 (0 : Int32) (0 : Int32))))])) _
      refine XS.icmpNo X280.here hx rfl (hb hby at_205) rfl (teq hc205).2 ?_
      show Steps p.tables e below (T280.setTop (mkF m 208 #[.val (.int p1), .val (.int p2), .val (.int p3), .val (.int p4), .val (.int p5), .val (.int p6), .val (.int (4 : Int32)), .val (.int rr2), .val (.int bb2), .val (.ref b7), .val (.ref s_INPUT), .val (.int xx), .val (.int yy), .val (.int (0 : Int32)), .val (.int (0 : Int32)), .val (.int (0 : Int32)), .val (.int (r2 p2 p3 rr2 bb2 (0 : Int32) (0 : Int32)))] [])) _
      refine XS.iconst X280.here hx rfl (hb hby at_208) ?_
      show Steps p.tables e below (T280.setTop (mkF m 209 #[.val (.int p1), .val (.int p2), .val (.int p3), .val (.int p4), .val (.int p5), .val (.int p6), .val (.int (4 : Int32)), .val (.int rr2), .val (.int bb2), .val (.ref b7), .val (.ref s_INPUT), .val (.int xx), .val (.int yy), .val (.int (0 : Int32)), .val (.int (0 : Int32)), .val (.int (0 : Int32)), .val (.int (r2 p2 p3 rr2 bb2 (0 : Int32) (0 : Int32)))] [(.int (1 : Int32))])) _
      refine XS.goto X280.here hx rfl (pc0 := 209) (pc' := 213) rfl (hb hby at_209) (by decide) (by decide) ?_
      show Steps p.tables e below (T280.setTop (mkF m 213 #[.val (.int p1), .val (.int p2), .val (.int p3), .val (.int p4), .val (.int p5), .val (.int p6), .val (.int (4 : Int32)), .val (.int rr2), .val (.int bb2), .val (.ref b7), .val (.ref s_INPUT), .val (.int xx), .val (.int yy), .val (.int (0 : Int32)), .val (.int (0 : Int32)), .val (.int (0 : Int32)), .val (.int (r2 p2 p3 rr2 bb2 (0 : Int32) (0 : Int32)))] [(.int (1 : Int32))])) _
      exact kt
    obtain ⟨fs, hr, hrun, hended, hW, hsame⟩ := X280.leave (v := some (.int (1 : Int32))) (fun h => by rw [Bd.returns] at h; cases h)
    refine ⟨_, _, pre282 _ ?_, hrun, hended, _, _, rfl, ?_, ⟨_, rfl⟩, hW, hsame.mono (by decide) (by decide)⟩
    · exact retN X280 hx (t := .boolean) Bd.returns (by simp) (hb hby at_213) hr
    · show Q0 Z p1 p2 p3 p4 p5 p6 s_REPETITION_UP_SIZE_DOWN s_REPETITION_UP_SIZE_UP s_REPETITION_DOWN_SIZE_DOWN s_REPETITION_DOWN_SIZE_UP s_INPUT h0 n0 _ T280.heap _
      rw [e280]
      exact ⟨rfl, N280⟩
set_option maxRecDepth 65536 in
set_option maxHeartbeats 40000000 in
theorem comes_1 {Post : Tables → Env → Array Value → State → Outcome → State → Prop} (hpost : ∀ tb e args s v u, (limb_1_1.after args s (.returned v) u = true ∧ limb_1_2.after args s (.returned v) u = true ∧ True) → FrameEnd s (.returned v) u (Jvm.fieldLocs frame_1_writes args s ++ Jvm.arrayLocs frame_1_arrays args s ++ Jvm.staticLocs frame_1_statics s) 16 128 → Post tb e args s (.returned v) u) :
    ArmFor flags0 classFile x code maxLocals ret World_1 tables_1 room_1 Calls_1 rest_1 Pre_1 Post := by
  intro l hfl _ _ p e ha hc hk s m args below hf hA hF happ hP
  obtain ⟨hcalls, hrest, hpre⟩ := hP
  obtain ⟨-, -, -, hnamed, -, -, -, hat⟩ := (Spec.applies_iff hf).mp happ
  obtain ⟨hg, hn⟩ := and_e (Cond.before_iff.mp (show (Jvm.Cond.and given_1 narrow_1).before args s = true from hpre))
  obtain ⟨g1, g2⟩ := and_e hg
  obtain ⟨g3, g4⟩ := and_e g2
  obtain ⟨g5, g6⟩ := and_e g4
  obtain ⟨g7, g8⟩ := and_e g6
  obtain ⟨g9, g10⟩ := and_e g8
  obtain ⟨g11, g12⟩ := and_e g10
  obtain ⟨w0, w1, w2, w3, w4, w5, rfl⟩ : ∃ w0 w1 w2 w3 w4 w5 : Value, args = #[w0, w1, w2, w3, w4, w5] := by
    have hs : args.size = 6 := by simpa [Cond.value, given_1] using g1
    obtain ⟨L⟩ := args
    match L, hs with
    | [w0, w1, w2, w3, w4, w5], _ => exact ⟨w0, w1, w2, w3, w4, w5, rfl⟩
  have hw := fun d (hd : d ∈ tables_1) => atoms_spec (ws := Jvm.Cond.code x code maxLocals ret :: tables_1) hat d (List.mem_cons_of_mem _ hd)
  have hfit : Fit s := fun {y c} hc i hi => by
    obtain ⟨ha, rfl⟩ := Array.getElem?_eq_some_iff.mp hc
    have q := List.all_eq_true.mp ((Array.all_eq_true_iff_forall_mem.mp hF) _ (Array.getElem_mem ha)) i (List.mem_range.mpr hi)
    simpa [Array.getElem?_eq_getElem hi] using q
  obtain ⟨i0, ei0⟩ := is_v g3
  obtain rfl : w0 = (.int i0) := Option.some.inj ei0
  obtain ⟨i1, ei1⟩ := is_v g5
  obtain rfl : w1 = (.int i1) := Option.some.inj ei1
  obtain ⟨i2, ei2⟩ := is_v g7
  obtain rfl : w2 = (.int i2) := Option.some.inj ei2
  obtain ⟨i3, ei3⟩ := is_v g9
  obtain rfl : w3 = (.int i3) := Option.some.inj ei3
  obtain ⟨i4, ei4⟩ := is_v g11
  obtain rfl : w4 = (.int i4) := Option.some.inj ei4
  obtain ⟨i5, ei5⟩ := is_v g12
  obtain rfl : w5 = (.int i5) := Option.some.inj ei5
  obtain ⟨g13, g14⟩ := and_e hn
  obtain ⟨g15, g16⟩ := and_e g14
  obtain ⟨g17, g18⟩ := and_e g16
  obtain ⟨g19, g20⟩ := and_e g18
  obtain ⟨g21, g22⟩ := and_e g20
  obtain ⟨g23, g24⟩ := and_e g22
  obtain ⟨g25, g26⟩ := and_e g24
  obtain ⟨g27, g28⟩ := and_e g26
  obtain ⟨g29, g30⟩ := and_e g28
  obtain ⟨g31, g32⟩ := and_e g30
  obtain ⟨g33, g34⟩ := and_e g32
  obtain ⟨g35, g36⟩ := and_e g34
  obtain ⟨g37, g38⟩ := and_e g36
  obtain ⟨g39, g40⟩ := and_e g38
  obtain ⟨s_REPETITION_UP_SIZE_DOWN, ev_s_REPETITION_UP_SIZE_DOWN⟩ := exa_v g13
  have E_s_REPETITION_UP_SIZE_DOWN := Exa.start ev_s_REPETITION_UP_SIZE_DOWN g13
  have S_REPETITION_UP_SIZE_DOWN := Sta.start ev_s_REPETITION_UP_SIZE_DOWN (Or.inr ⟨(hw _ (mgE 4 rfl)), (hw _ (mgE 5 rfl))⟩)
  obtain ⟨s_REPETITION_UP_SIZE_UP, ev_s_REPETITION_UP_SIZE_UP⟩ := exa_v g15
  have E_s_REPETITION_UP_SIZE_UP := Exa.start ev_s_REPETITION_UP_SIZE_UP g15
  have S_REPETITION_UP_SIZE_UP := Sta.start ev_s_REPETITION_UP_SIZE_UP (Or.inr ⟨(hw _ (mgE 4 rfl)), (hw _ (mgE 8 rfl))⟩)
  obtain ⟨s_REPETITION_DOWN_SIZE_DOWN, ev_s_REPETITION_DOWN_SIZE_DOWN⟩ := exa_v g17
  have E_s_REPETITION_DOWN_SIZE_DOWN := Exa.start ev_s_REPETITION_DOWN_SIZE_DOWN g17
  have S_REPETITION_DOWN_SIZE_DOWN := Sta.start ev_s_REPETITION_DOWN_SIZE_DOWN (Or.inr ⟨(hw _ (mgE 4 rfl)), (hw _ (mgE 10 rfl))⟩)
  obtain ⟨s_REPETITION_DOWN_SIZE_UP, ev_s_REPETITION_DOWN_SIZE_UP⟩ := exa_v g19
  have E_s_REPETITION_DOWN_SIZE_UP := Exa.start ev_s_REPETITION_DOWN_SIZE_UP g19
  have S_REPETITION_DOWN_SIZE_UP := Sta.start ev_s_REPETITION_DOWN_SIZE_UP (Or.inr ⟨(hw _ (mgE 4 rfl)), (hw _ (mgE 12 rfl))⟩)
  obtain ⟨s_INPUT, ev_s_INPUT⟩ := exa_v g21
  have E_s_INPUT := Exa.start ev_s_INPUT g21
  have S_INPUT := Sta.start ev_s_INPUT (Or.inr ⟨(hw _ (mgE 4 rfl)), (hw _ (mgE 14 rfl))⟩)
  have F_repetitionSign_s_REPETITION_UP_SIZE_DOWN := own_fe ev_s_REPETITION_UP_SIZE_DOWN g23
  have F_sizeSign_s_REPETITION_UP_SIZE_DOWN := own_fe ev_s_REPETITION_UP_SIZE_DOWN g25
  have F_repetitionSign_s_INPUT := own_fe ev_s_INPUT g27
  have F_sizeSign_s_INPUT := own_fe ev_s_INPUT g29
  have F_repetitionSign_s_REPETITION_DOWN_SIZE_UP := own_fe ev_s_REPETITION_DOWN_SIZE_UP g31
  have F_sizeSign_s_REPETITION_DOWN_SIZE_UP := own_fe ev_s_REPETITION_DOWN_SIZE_UP g33
  have F_repetitionSign_s_REPETITION_DOWN_SIZE_DOWN := own_fe ev_s_REPETITION_DOWN_SIZE_DOWN g35
  have F_sizeSign_s_REPETITION_DOWN_SIZE_DOWN := own_fe ev_s_REPETITION_DOWN_SIZE_DOWN g37
  have F_repetitionSign_s_REPETITION_UP_SIZE_UP := own_fe ev_s_REPETITION_UP_SIZE_UP g39
  have F_sizeSign_s_REPETITION_UP_SIZE_UP := own_fe ev_s_REPETITION_UP_SIZE_UP g40
  obtain ⟨n, o, h1, h2, h3, _, L, rfl, ⟨rfl, N⟩, hq⟩ := rm0 l s _ hw tables_1 i0 i1 i2 i3 i4 i5 s_REPETITION_UP_SIZE_DOWN s_REPETITION_UP_SIZE_UP s_REPETITION_DOWN_SIZE_DOWN s_REPETITION_DOWN_SIZE_UP s_INPUT s.heap s.heap.size (Nat.le_refl _) S_REPETITION_UP_SIZE_DOWN F_repetitionSign_s_REPETITION_UP_SIZE_DOWN F_sizeSign_s_REPETITION_UP_SIZE_DOWN S_REPETITION_UP_SIZE_UP F_repetitionSign_s_REPETITION_UP_SIZE_UP F_sizeSign_s_REPETITION_UP_SIZE_UP S_REPETITION_DOWN_SIZE_DOWN F_repetitionSign_s_REPETITION_DOWN_SIZE_DOWN F_sizeSign_s_REPETITION_DOWN_SIZE_DOWN S_REPETITION_DOWN_SIZE_UP F_repetitionSign_s_REPETITION_DOWN_SIZE_UP F_sizeSign_s_REPETITION_DOWN_SIZE_UP S_INPUT F_repetitionSign_s_INPUT F_sizeSign_s_INPUT E_s_REPETITION_UP_SIZE_DOWN E_s_REPETITION_UP_SIZE_UP E_s_REPETITION_DOWN_SIZE_DOWN E_s_REPETITION_DOWN_SIZE_UP E_s_INPUT p e ha hc hk s m _ below hf ((Spec.applies_iff_loose hf).mp happ).1 ⟨rfl, State.Warmed39.refl s, rfl⟩ trivial
  refine ⟨n, _, h1, h2, h3, hpost _ _ _ _ _ _ ⟨Cond.after_iff.mpr rfl, Cond.after_iff.mpr (eq_i res_at (Term.int_eval (1)) rfl), trivial⟩ ⟨hq.1, hq.2.1, (hq.2.2.sift fun y hy => Or.inr (N y hy)).mono (by decide) (by decide)⟩⟩
theorem main_1_1 : Claimed_1_1 := comes_1 fun _ _ _ _ _ _ h hF => ⟨h.1, hF⟩
theorem main_1_2 : Claimed_1_2 := comes_1 fun _ _ _ _ _ _ h hF => ⟨h.2.1, hF⟩
end Jvm.Pilot.@@N@@
namespace Jvm.Pilot.@@N@@
open Jvm Jvm.ClassFile Sem Op Lib Jvm.Free Jvm.Stand Jvm.Pilot.@@N@@.Jvm.D
/-! MADE BY PROGRAM (witnessworld.py) out of the Statement's table words and the real class files: 16 classes; the members and pool entries that the words name. The judged class is class 1, her method 3. -/
namespace start1
open Jvm.ClassFile
def u (s : String) : CpInfo := .utf8 (stringToUtf16 s)
/-- a pool by its gaps: so many unusable entries, then the entry; so many at the end -/
def gap : Nat → List CpInfo → List CpInfo
  | 0, r => r
  | n + 1, r => .unusable :: gap n r
def poolList (es : List (Nat × CpInfo)) (last : Nat) : List CpInfo := es.foldr (fun e r => gap e.1 (e.2 :: r)) (gap last [])
def pool (es : List (Nat × CpInfo)) (last : Nat) : Array CpInfo := ⟨poolList es last⟩
def fileOf (pool : Array CpInfo) (this : Nat) (attrs : Array Attribute := #[]) (ms : Array MethodInfo := #[]) (fl : Nat := 33) (sup : Nat := 0) (ifs : Array Nat := #[]) (fds : Array FieldInfo := #[]) : ClassFile where
  minorVersion := 0
  majorVersion := 65
  constantPool := pool
  accessFlags := fl
  thisClass := this
  superClass := sup
  interfaces := ifs
  fields := fds
  methods := ms
  attributes := attrs
def plain (name : String) (sup : Option ClassId) : Class where
  name := name
  kind := .ordinary
  loader := none
  accessFlags := 33
  super := sup
  interfaces := #[]
  cf := none
  fields := #[]
  methods := #[]
  instanceTypes := #[]
  staticTypes := #[]
  resolved := #[]
  callSites := []
  init := .initialized
  statics := none
  mirror := none

def pool0 : Array CpInfo := pool [(5, u "<init>"), (0, u "()V"), (1, .class_ 10), (1, u "java/lang/Object")] 113

def k0m0 : Method := { name := "<init>", desc := "()V", sig := { parameters := [], returnType := none }, accessFlags := 1, code := none }
/-- java/lang/Object -/
def k0 : Class := { plain "java/lang/Object" none with
  accessFlags := 33
  interfaces := #[]
  cf := some (fileOf pool0 8 #[] #[{ accessFlags := 1, nameIndex := 5, descriptorIndex := 6, attributes := #[] }] 33 0 #[] #[])
  fields := #[]
  methods := #[k0m0]
  instanceTypes := #[]
  staticTypes := #[]
  resolved := Array.replicate 124 none
  statics := none }

def pool1 : Array CpInfo := pool [(2, .class_ 4), (1, u "java/lang/Object"), (0, u "<init>"), (0, u "()V"), (0, .integer 2147483647), (0, .class_ 9), (0, u "com/example/starling/starling/schedule/MessageOrder"), (0, .fieldref 8 11), (0, .nameAndType 12 13), (0, u "REPETITION_UP_SIZE_DOWN"), (0, u "Lcom/example/starling/starling/schedule/MessageOrder;"), (0, .fieldref 8 15), (0, .nameAndType 16 13), (0, u "REPETITION_UP_SIZE_UP"), (0, .fieldref 8 18), (0, .nameAndType 19 13), (0, u "REPETITION_DOWN_SIZE_DOWN"), (0, .fieldref 8 21), (0, .nameAndType 22 13), (0, u "REPETITION_DOWN_SIZE_UP"), (0, .fieldref 8 24), (0, .nameAndType 25 13), (0, u "INPUT"), (0, .methodref 27 28), (0, .class_ 29), (0, .nameAndType 30 31), (0, u "com/example/starling/starling/schedule/MessageOrderComparePinLaw"), (0, u "cmp"), (0, u "(II)I"), (0, .methodref 8 33), (0, .nameAndType 34 35), (0, u "compare"), (0, u "(IIII)I"), (0, .methodref 27 37), (0, .nameAndType 38 39), (0, u "sgn"), (0, u "(I)I"), (3, u "law"), (0, u "(IIIIII)Z")] 4

def k1m0 : Method := { name := "<init>", desc := "()V", sig := { parameters := [], returnType := none }, accessFlags := 2, code := none }
def k1c1 : Code := { maxStack := 1, maxLocals := 1, code := method_2_code, exceptionTable := #[], attributes := #[] }
def k1m1 : Method := { name := "sgn", desc := "(I)I", sig := { parameters := [.int], returnType := some .int }, accessFlags := 10, code := some k1c1 }
def k1c2 : Code := { maxStack := 2, maxLocals := 2, code := method_3_code, exceptionTable := #[], attributes := #[] }
def k1m2 : Method := { name := "cmp", desc := "(II)I", sig := { parameters := [.int, .int], returnType := some .int }, accessFlags := 10, code := some k1c2 }
def k1c3 : Code := { maxStack := 5, maxLocals := 17, code := code, exceptionTable := #[], attributes := #[] }
def k1m3 : Method := { name := "law", desc := "(IIIIII)Z", sig := { parameters := [.int, .int, .int, .int, .int, .int], returnType := some .boolean }, accessFlags := 9, code := some k1c3 }
/-- com/example/starling/starling/schedule/MessageOrderComparePinLaw -/
def k1 : Class := { plain "com/example/starling/starling/schedule/MessageOrderComparePinLaw" (some 0) with
  accessFlags := 49
  interfaces := #[]
  cf := some (fileOf pool1 27 #[] #[{ accessFlags := 2, nameIndex := 5, descriptorIndex := 6, attributes := #[] }, { accessFlags := 10, nameIndex := 38, descriptorIndex := 39, attributes := #[] }, { accessFlags := 10, nameIndex := 30, descriptorIndex := 31, attributes := #[] }, { accessFlags := 9, nameIndex := 43, descriptorIndex := 44, attributes := #[] }] 49 2 #[] #[])
  fields := #[]
  methods := #[k1m0, k1m1, k1m2, k1m3]
  instanceTypes := #[]
  staticTypes := #[]
  resolved := Array.replicate 49 none
  statics := none }

def pool2 : Array CpInfo := pool [(1, .class_ 2), (0, u "java/lang/constant/Constable"), (0, .class_ 4), (0, u "java/lang/Object")] 6

/-- java/lang/constant/Constable -/
def k2 : Class := { plain "java/lang/constant/Constable" (some 0) with
  accessFlags := 1537
  interfaces := #[]
  cf := some (fileOf pool2 1 #[] #[] 1537 3 #[] #[])
  fields := #[]
  methods := #[]
  instanceTypes := #[]
  staticTypes := #[]
  resolved := Array.replicate 11 none
  statics := none }

def pool3 : Array CpInfo := pool [(1, .class_ 2), (0, u "java/lang/Comparable"), (0, .class_ 4), (0, u "java/lang/Object")] 7

/-- java/lang/Comparable -/
def k3 : Class := { plain "java/lang/Comparable" (some 0) with
  accessFlags := 1537
  interfaces := #[]
  cf := some (fileOf pool3 1 #[] #[] 1537 3 #[] #[])
  fields := #[]
  methods := #[]
  instanceTypes := #[]
  staticTypes := #[]
  resolved := Array.replicate 12 none
  statics := none }

def pool4 : Array CpInfo := pool [(1, .class_ 2), (0, u "java/io/Serializable"), (0, .class_ 4), (0, u "java/lang/Object")] 2

/-- java/io/Serializable -/
def k4 : Class := { plain "java/io/Serializable" (some 0) with
  accessFlags := 1537
  interfaces := #[]
  cf := some (fileOf pool4 1 #[] #[] 1537 3 #[] #[])
  fields := #[]
  methods := #[]
  instanceTypes := #[]
  staticTypes := #[]
  resolved := Array.replicate 7 none
  statics := none }

def pool5 : Array CpInfo := pool [(2, .class_ 4), (1, u "java/lang/Enum"), (0, u "name"), (0, u "Ljava/lang/String;"), (2, u "ordinal"), (0, u "I"), (1, .class_ 14), (1, u "java/lang/Object"), (4, u "hash"), (86, .class_ 108), (1, u "java/lang/Enum$EnumDesc"), (2, .class_ 112), (0, u "java/lang/constant/Constable"), (0, .class_ 114), (0, u "java/lang/Comparable"), (0, .class_ 116), (0, u "java/io/Serializable")] 87

/-- java/lang/Enum -/
def k5 : Class := { plain "java/lang/Enum" (some 0) with
  accessFlags := 1057
  interfaces := #[2, 3, 4]
  cf := some (fileOf pool5 2 #[.nestMembers #[106]] #[] 1057 12 #[111, 113, 115] #[{ accessFlags := 18, nameIndex := 5, descriptorIndex := 6, attributes := #[] }, { accessFlags := 18, nameIndex := 9, descriptorIndex := 10, attributes := #[] }, { accessFlags := 2, nameIndex := 19, descriptorIndex := 10, attributes := #[] }])
  fields := #[{ name := "name", type := (.object "java/lang/String"), accessFlags := 18, slot := 0, constantValue := 0 }, { name := "ordinal", type := .int, accessFlags := 18, slot := 1, constantValue := 0 }, { name := "hash", type := .int, accessFlags := 2, slot := 2, constantValue := 0 }]
  methods := #[]
  instanceTypes := #[(.object "java/lang/String"), .int, .int]
  staticTypes := #[]
  resolved := Array.replicate 204 none
  statics := none }

def pool6 : Array CpInfo := pool [(1, .class_ 2), (0, u "com/example/starling/starling/schedule/MessageOrder"), (2, u "REPETITION_UP_SIZE_DOWN"), (0, u "Lcom/example/starling/starling/schedule/MessageOrder;"), (2, u "REPETITION_UP_SIZE_UP"), (2, u "REPETITION_DOWN_SIZE_DOWN"), (2, u "REPETITION_DOWN_SIZE_UP"), (2, u "INPUT"), (2, u "$VALUES"), (0, u "[Lcom/example/starling/starling/schedule/MessageOrder;"), (6, .class_ 31), (1, u "java/lang/Enum"), (8, u "label"), (0, u "Ljava/lang/String;"), (0, .fieldref 1 43), (0, .nameAndType 44 45), (0, u "repetitionSign"), (0, u "I"), (0, .fieldref 1 47), (0, .nameAndType 48 45), (0, u "sizeSign"), (0, .methodref 50 51), (0, .class_ 52), (0, .nameAndType 53 54), (0, u "java/lang/Integer"), (0, u "compare"), (0, u "(II)I"), (30, u "(IIII)I")] 6

def k6c0 : Code := { maxStack := 3, maxLocals := 6, code := prog_24_method_5_code, exceptionTable := #[], attributes := #[] }
def k6m0 : Method := { name := "compare", desc := "(IIII)I", sig := { parameters := [.int, .int, .int, .int], returnType := some .int }, accessFlags := 0, code := some k6c0 }
/-- com/example/starling/starling/schedule/MessageOrder -/
def k6 : Class := { plain "com/example/starling/starling/schedule/MessageOrder" (some 5) with
  accessFlags := 16433
  interfaces := #[]
  cf := some (fileOf pool6 1 #[] #[{ accessFlags := 0, nameIndex := 53, descriptorIndex := 85, attributes := #[] }] 16433 29 #[] #[{ accessFlags := 16409, nameIndex := 5, descriptorIndex := 6, attributes := #[] }, { accessFlags := 16409, nameIndex := 9, descriptorIndex := 6, attributes := #[] }, { accessFlags := 16409, nameIndex := 12, descriptorIndex := 6, attributes := #[] }, { accessFlags := 16409, nameIndex := 15, descriptorIndex := 6, attributes := #[] }, { accessFlags := 16409, nameIndex := 18, descriptorIndex := 6, attributes := #[] }, { accessFlags := 18, nameIndex := 40, descriptorIndex := 41, attributes := #[] }, { accessFlags := 18, nameIndex := 44, descriptorIndex := 45, attributes := #[] }, { accessFlags := 18, nameIndex := 48, descriptorIndex := 45, attributes := #[] }, { accessFlags := 4122, nameIndex := 21, descriptorIndex := 22, attributes := #[] }])
  fields := #[{ name := "REPETITION_UP_SIZE_DOWN", type := (.object "com/example/starling/starling/schedule/MessageOrder"), accessFlags := 16409, slot := 0, constantValue := 0 }, { name := "REPETITION_UP_SIZE_UP", type := (.object "com/example/starling/starling/schedule/MessageOrder"), accessFlags := 16409, slot := 1, constantValue := 0 }, { name := "REPETITION_DOWN_SIZE_DOWN", type := (.object "com/example/starling/starling/schedule/MessageOrder"), accessFlags := 16409, slot := 2, constantValue := 0 }, { name := "REPETITION_DOWN_SIZE_UP", type := (.object "com/example/starling/starling/schedule/MessageOrder"), accessFlags := 16409, slot := 3, constantValue := 0 }, { name := "INPUT", type := (.object "com/example/starling/starling/schedule/MessageOrder"), accessFlags := 16409, slot := 4, constantValue := 0 }, { name := "label", type := (.object "java/lang/String"), accessFlags := 18, slot := 3, constantValue := 0 }, { name := "repetitionSign", type := .int, accessFlags := 18, slot := 4, constantValue := 0 }, { name := "sizeSign", type := .int, accessFlags := 18, slot := 5, constantValue := 0 }, { name := "$VALUES", type := (.array (.object "com/example/starling/starling/schedule/MessageOrder")), accessFlags := 4122, slot := 5, constantValue := 0 }]
  methods := #[k6m0]
  instanceTypes := #[(.object "java/lang/String"), .int, .int, (.object "java/lang/String"), .int, .int]
  staticTypes := #[(.object "com/example/starling/starling/schedule/MessageOrder"), (.object "com/example/starling/starling/schedule/MessageOrder"), (.object "com/example/starling/starling/schedule/MessageOrder"), (.object "com/example/starling/starling/schedule/MessageOrder"), (.object "com/example/starling/starling/schedule/MessageOrder"), (.array (.object "com/example/starling/starling/schedule/MessageOrder"))]
  resolved := Array.replicate 92 none
  statics := some 0 }

def pool7 : Array CpInfo := pool [(2, .class_ 4), (1, u "java/lang/Object"), (0, u "<init>"), (0, u "()V"), (1, .class_ 10), (1, u "java/lang/Number"), (2, .class_ 14), (0, u "java/io/Serializable"), (0, u "serialVersionUID"), (0, u "J")] 20

def k7m0 : Method := { name := "<init>", desc := "()V", sig := { parameters := [], returnType := none }, accessFlags := 1, code := none }
/-- java/lang/Number -/
def k7 : Class := { plain "java/lang/Number" (some 0) with
  accessFlags := 1057
  interfaces := #[4]
  cf := some (fileOf pool7 8 #[] #[{ accessFlags := 1, nameIndex := 5, descriptorIndex := 6, attributes := #[] }] 1057 2 #[13] #[{ accessFlags := 26, nameIndex := 15, descriptorIndex := 16, attributes := #[] }])
  fields := #[{ name := "serialVersionUID", type := .long, accessFlags := 26, slot := 0, constantValue := 0 }]
  methods := #[k7m0]
  instanceTypes := #[]
  staticTypes := #[.long]
  resolved := Array.replicate 37 none
  statics := none }

def pool8 : Array CpInfo := pool [(1, .class_ 2), (0, u "java/lang/constant/ConstantDesc"), (0, .class_ 4), (0, u "java/lang/Object")] 32

/-- java/lang/constant/ConstantDesc -/
def k8 : Class := { plain "java/lang/constant/ConstantDesc" (some 0) with
  accessFlags := 1537
  interfaces := #[]
  cf := some (fileOf pool8 1 #[] #[] 1537 3 #[] #[])
  fields := #[]
  methods := #[]
  instanceTypes := #[]
  staticTypes := #[]
  resolved := Array.replicate 37 none
  statics := none }

def pool9 : Array CpInfo := pool [(1, .class_ 2), (0, u "java/lang/Integer"), (16, u "digits"), (0, u "[C"), (39, u "(II)I"), (24, u "DigitOnes"), (0, u "[B"), (2, u "DigitTens"), (99, .class_ 190), (0, u "java/lang/Integer$IntegerCache"), (3, u "I"), (8, .class_ 204), (0, u "java/lang/Number"), (2, u "value"), (53, u "compare"), (40, u "TYPE"), (0, u "Ljava/lang/Class;"), (0, .class_ 305), (0, u "java/lang/Comparable"), (0, .class_ 307), (0, u "java/lang/constant/Constable"), (0, .class_ 309), (0, u "java/lang/constant/ConstantDesc"), (0, u "MIN_VALUE"), (1, u "MAX_VALUE"), (3, u "SIZE"), (1, u "BYTES"), (1, u "serialVersionUID"), (0, u "J")] 131

def k9c0 : Code := { maxStack := 2, maxLocals := 2, code := jdk_33_method_40_code, exceptionTable := #[], attributes := #[] }
def k9m0 : Method := { name := "compare", desc := "(II)I", sig := { parameters := [.int, .int], returnType := some .int }, accessFlags := 9, code := some k9c0 }
/-- java/lang/Integer -/
def k9 : Class := { plain "java/lang/Integer" (some 7) with
  accessFlags := 49
  interfaces := #[3, 2, 8]
  cf := some (fileOf pool9 1 #[.nestMembers #[189]] #[{ accessFlags := 9, nameIndex := 261, descriptorIndex := 60, attributes := #[] }] 49 203 #[304, 306, 308] #[{ accessFlags := 25, nameIndex := 310, descriptorIndex := 194, attributes := #[] }, { accessFlags := 25, nameIndex := 312, descriptorIndex := 194, attributes := #[] }, { accessFlags := 25, nameIndex := 302, descriptorIndex := 303, attributes := #[] }, { accessFlags := 24, nameIndex := 19, descriptorIndex := 20, attributes := #[] }, { accessFlags := 24, nameIndex := 89, descriptorIndex := 86, attributes := #[] }, { accessFlags := 24, nameIndex := 85, descriptorIndex := 86, attributes := #[] }, { accessFlags := 18, nameIndex := 207, descriptorIndex := 194, attributes := #[] }, { accessFlags := 25, nameIndex := 316, descriptorIndex := 194, attributes := #[] }, { accessFlags := 25, nameIndex := 318, descriptorIndex := 194, attributes := #[] }, { accessFlags := 26, nameIndex := 320, descriptorIndex := 321, attributes := #[] }])
  fields := #[{ name := "MIN_VALUE", type := .int, accessFlags := 25, slot := 0, constantValue := 0 }, { name := "MAX_VALUE", type := .int, accessFlags := 25, slot := 1, constantValue := 0 }, { name := "TYPE", type := (.object "java/lang/Class"), accessFlags := 25, slot := 2, constantValue := 0 }, { name := "digits", type := (.array .char), accessFlags := 24, slot := 3, constantValue := 0 }, { name := "DigitTens", type := (.array .byte), accessFlags := 24, slot := 4, constantValue := 0 }, { name := "DigitOnes", type := (.array .byte), accessFlags := 24, slot := 5, constantValue := 0 }, { name := "value", type := .int, accessFlags := 18, slot := 0, constantValue := 0 }, { name := "SIZE", type := .int, accessFlags := 25, slot := 6, constantValue := 0 }, { name := "BYTES", type := .int, accessFlags := 25, slot := 7, constantValue := 0 }, { name := "serialVersionUID", type := .long, accessFlags := 26, slot := 8, constantValue := 0 }]
  methods := #[k9m0]
  instanceTypes := #[.int]
  staticTypes := #[.int, .int, (.object "java/lang/Class"), (.array .char), (.array .byte), (.array .byte), .int, .int, .long]
  resolved := Array.replicate 453 none
  statics := none }

def pool10 : Array CpInfo := pool [(1, u "java/lang/Cloneable"), (0, .class_ 1), (0, u "java/lang/Object"), (0, .class_ 3)] 3

/-- java/lang/Cloneable -/
def k10 : Class := { plain "java/lang/Cloneable" (some 0) with
  accessFlags := 1537
  interfaces := #[]
  cf := some (fileOf pool10 2 #[] #[] 1537 4 #[] #[])
  fields := #[]
  methods := #[]
  instanceTypes := #[]
  staticTypes := #[]
  resolved := Array.replicate 8 none
  statics := none }

/-- the primitive byte -/
def k11 : Class := { plain "byte" none with kind := .primitive 'B', accessFlags := 0x411 }
/-- [B -/
def k12 : Class := { plain "[B" (some 0) with kind := .array 11 .byte, interfaces := #[10, 4], accessFlags := 1041 }

/-- the primitive int -/
def k13 : Class := { plain "int" none with kind := .primitive 'I', accessFlags := 0x411 }
/-- [I -/
def k14 : Class := { plain "[I" (some 0) with kind := .array 13 .int, interfaces := #[10, 4], accessFlags := 1041 }

/-- [Lcom/example/starling/starling/schedule/MessageOrder; -/
def k15 : Class := { plain "[Lcom/example/starling/starling/schedule/MessageOrder;" (some 0) with kind := .array 6 (.object "com/example/starling/starling/schedule/MessageOrder"), interfaces := #[10, 4], accessFlags := 1041 }

def heap : Heap := #[{ cls := 6, slots := #[.ref 1, .ref 2, .ref 3, .ref 4, .ref 5, .null], vm := .statics 6 },
  { cls := 6, slots := #[.null, .int 0, .int 0, .null, .int (1), .int (-1)], vm := .none },
  { cls := 6, slots := #[.null, .int 1, .int 0, .null, .int (1), .int (1)], vm := .none },
  { cls := 6, slots := #[.null, .int 2, .int 0, .null, .int (-1), .int (-1)], vm := .none },
  { cls := 6, slots := #[.null, .int 3, .int 0, .null, .int (-1), .int (1)], vm := .none },
  { cls := 6, slots := #[.null, .int 4, .int 0, .null, .int (0), .int (0)], vm := .none }]
def classes : Array Class := #[k0, k1, k2, k3, k4, k5, k6, k7, k8, k9, k10, k11, k12, k13, k14, k15]
def interned : List (Array UInt16 × Addr) := []
def slotsUsed : Nat := 36
def theMethod : MethodId := ⟨1, 3⟩
def args0 : Array Value := #[.int 1, .int 2, .int 3, .int 4, .int 5, .int 6]
def aboutOver (below : List Frame) : State where
  vm := { classes := classes, interned := interned.toArray }
  heap := heap
  slotsUsed := slotsUsed
  threads := #[{ frames := .invoking theMethod args0 :: below }]
def below0 : List Frame := [.native { method := ⟨0, 0⟩, args := #[] }]
def about1 : State := aboutOver below0
def p0 : Program := .bare "" "" ""
def e0 : Env := launch0.env 0 0 0
theorem w_frames : about1.frames = Frame.invoking theMethod args0 :: below0 := rfl
set_option maxRecDepth 65536 in
theorem w_args : argsFit about1.vm theMethod args0 = true := by decide +kernel
set_option maxRecDepth 65536 in
theorem w_heap : heapFits about1 = true := by decide +kernel
set_option maxRecDepth 65536 in
theorem w_runnable : about1.curStatus? = some .runnable := by decide +kernel
set_option maxRecDepth 65536 in
theorem w_alone : about1.alone = true := by decide +kernel
set_option maxRecDepth 65536 in
theorem w_named : about1.methodNamed? x = some theMethod := by decide +kernel
set_option maxRecDepth 65536 in
theorem w_hears : about1.hears theMethod below0 = true := by decide +kernel
set_option maxRecDepth 65536 in
theorem w_ripe : about1.ripe theMethod args0 below0 = true := by decide +kernel
theorem w_running : about1.status = .running := rfl
set_option maxRecDepth 65536 in
theorem w_room : about1.hasRoom e0.platform room_1 = true :=
  launch0.hasRoom_least _ room_1 (by decide +kernel) (by decide +kernel) (by decide +kernel) (by decide +kernel) (by decide +kernel) (by decide +kernel)
theorem allAtoms_all (ts : List Jvm.Cond) (a : Array Jvm.Value) (st : Jvm.State) : (allAtoms ts).before a st = ts.all (fun c => c.before a st) := by
  induction ts with
  | nil => rfl
  | cons c t ih =>
    show (Jvm.Cond.and c (allAtoms t)).before a st = _
    rw [Jvm.Cond.before_and, ih, List.all_cons]
def words1 : List Jvm.Cond := Jvm.Cond.code x code maxLocals ret :: tables_1
/-- a 'code' word, met by the world's own term for the bytes: nothing is compared byte by byte -/
theorem code_word {y : MethodName} {bytes : ByteArray} {mx : Nat} {rt : Option FieldType} {a : Array Value} {s : State} {m : MethodId} {meth : Method} {c : Code} (h1 : s.methodNamed? y = some m) (h2 : s.vm.method? m = some meth) (h3 : meth.code = some c) (h4 : c.code = bytes)
    (h5 : (c.maxLocals == mx && c.exceptionTable.isEmpty && decide (c.maxStack ≤ mostOperands) && decide (meth.sig.returnType = rt) && !meth.locks && decide (parseMethodDescriptor y.desc = some meth.sig)) = true) : (Jvm.Cond.code y bytes mx rt).before a s = true := by
  simp only [Bool.and_eq_true, beq_iff_eq, Bool.not_eq_true', decide_eq_true_eq] at h5
  obtain ⟨⟨⟨⟨⟨g1, g2⟩, g3⟩, g4⟩, g5⟩, g6⟩ := h5
  simp [Cond.before, Cond.holds, Cond.value, h1, h2, h3, h4, g1, g2, g3, g4, g5, g6]
def isCode : Jvm.Cond → Bool
  | .code _ _ _ _ => true
  | _ => false
theorem all_split {L : List Jvm.Cond} {P : Jvm.Cond → Bool} (h1 : L.all (fun c => isCode c || P c) = true) (h2 : ∀ c ∈ L.filter isCode, P c = true) : L.all P = true := by
  refine List.all_eq_true.mpr fun c hc => ?_
  have h := List.all_eq_true.mp h1 c hc
  rcases Bool.eq_false_or_eq_true (isCode c) with hi | hi
  · exact h2 c (List.mem_filter.mpr ⟨hc, hi⟩)
  · simpa [hi] using h
set_option maxRecDepth 65536 in
theorem w_c0 : (Jvm.Cond.code x code maxLocals ret).before args0 about1 = true := code_word (m := ⟨1, 3⟩) (meth := k1m3) (c := k1c3) (by decide +kernel) rfl rfl rfl (by decide +kernel)
set_option maxRecDepth 65536 in
theorem w_c1 : (Jvm.Cond.code ({ cls := "com/example/starling/starling/schedule/MessageOrderComparePinLaw", name := "cmp", desc := "(II)I" } : Jvm.MethodName) method_3_code (2 : Nat) (Option.some Jvm.ClassFile.FieldType.int)).before args0 about1 = true := code_word (m := ⟨1, 2⟩) (meth := k1m2) (c := k1c2) (by decide +kernel) rfl rfl rfl (by decide +kernel)
set_option maxRecDepth 65536 in
theorem w_c2 : (Jvm.Cond.code ({ cls := "com/example/starling/starling/schedule/MessageOrder", name := "compare", desc := "(IIII)I" } : Jvm.MethodName) prog_24_method_5_code (6 : Nat) (Option.some Jvm.ClassFile.FieldType.int)).before args0 about1 = true := code_word (m := ⟨6, 0⟩) (meth := k6m0) (c := k6c0) (by decide +kernel) rfl rfl rfl (by decide +kernel)
set_option maxRecDepth 65536 in
theorem w_c3 : (Jvm.Cond.code ({ cls := "java/lang/Integer", name := "compare", desc := "(II)I" } : Jvm.MethodName) jdk_33_method_40_code (2 : Nat) (Option.some Jvm.ClassFile.FieldType.int)).before args0 about1 = true := code_word (m := ⟨9, 0⟩) (meth := k9m0) (c := k9c0) (by decide +kernel) rfl rfl rfl (by decide +kernel)
set_option maxRecDepth 65536 in
theorem w_c4 : (Jvm.Cond.code ({ cls := "com/example/starling/starling/schedule/MessageOrderComparePinLaw", name := "sgn", desc := "(I)I" } : Jvm.MethodName) method_2_code (1 : Nat) (Option.some Jvm.ClassFile.FieldType.int)).before args0 about1 = true := code_word (m := ⟨1, 1⟩) (meth := k1m1) (c := k1c1) (by decide +kernel) rfl rfl rfl (by decide +kernel)
def codes1 : List Jvm.Cond := [Jvm.Cond.code x code maxLocals ret, Jvm.Cond.code ({ cls := "com/example/starling/starling/schedule/MessageOrderComparePinLaw", name := "cmp", desc := "(II)I" } : Jvm.MethodName) method_3_code (2 : Nat) (Option.some Jvm.ClassFile.FieldType.int), Jvm.Cond.code ({ cls := "com/example/starling/starling/schedule/MessageOrder", name := "compare", desc := "(IIII)I" } : Jvm.MethodName) prog_24_method_5_code (6 : Nat) (Option.some Jvm.ClassFile.FieldType.int), Jvm.Cond.code ({ cls := "java/lang/Integer", name := "compare", desc := "(II)I" } : Jvm.MethodName) jdk_33_method_40_code (2 : Nat) (Option.some Jvm.ClassFile.FieldType.int), Jvm.Cond.code ({ cls := "com/example/starling/starling/schedule/MessageOrderComparePinLaw", name := "sgn", desc := "(I)I" } : Jvm.MethodName) method_2_code (1 : Nat) (Option.some Jvm.ClassFile.FieldType.int)]
set_option maxRecDepth 65536 in
theorem codes_eq : words1.filter isCode = codes1 := rfl
theorem w_codes : ∀ c ∈ words1.filter isCode, c.before args0 about1 = true := by
  rw [codes_eq]
  intro c hc
  simp only [codes1, List.mem_cons, List.not_mem_nil, or_false] at hc
  rcases hc with rfl | rfl | rfl | rfl | rfl
  · exact w_c0
  · exact w_c1
  · exact w_c2
  · exact w_c3
  · exact w_c4
set_option maxRecDepth 65536 in
theorem w_t1 : (words1.take 24).all (fun c => isCode c || c.before args0 about1) = true := by decide +kernel
set_option maxRecDepth 65536 in
theorem w_t2 : (words1.drop 24).all (fun c => isCode c || c.before args0 about1) = true := by decide +kernel
theorem w_tables : (allAtoms (Jvm.Cond.code x code maxLocals ret :: tables_1)).before args0 about1 = true := by
  rw [allAtoms_all]
  show words1.all (fun c => c.before args0 about1) = true
  refine all_split ?_ w_codes
  rw [← List.take_append_drop 24 words1, List.all_append, w_t1, w_t2]
  rfl
set_option maxRecDepth 65536 in
theorem w_case : (Jvm.Cond.and given_1 narrow_1).before args0 about1 = true := by decide +kernel
theorem w_applies : (headSpec (Jvm.Cond.code x code maxLocals ret :: tables_1) room_1).applies x e0.platform about1 = true :=
  (Spec.applies_iff w_frames).mpr ⟨w_running, w_runnable, w_alone, w_named, w_hears, w_ripe, w_room, w_tables⟩
theorem atStart : AtStart classFile x code maxLocals ret World_1 tables_1 room_1 Calls_1 rest_1 Pre_1 launch0 p0 e0 about1 theMethod args0 below0 :=
  ⟨lists_1, trivial, launch0.admits_env _ _ _, launch0.least_env, fairChoices_fair.cas, fairChoices_fair.clock, w_frames, w_args, w_heap, w_applies, trivial, trivial, w_case⟩
end start1
theorem witness_1 : WitnessClaimed_1 := ⟨start1.p0, start1.e0, start1.about1, start1.theMethod, start1.args0, start1.below0, start1.atStart⟩
end Jvm.Pilot.@@N@@
