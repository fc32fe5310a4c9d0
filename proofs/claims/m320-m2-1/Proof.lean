import JvmDerived
import JvmDerived.Pilot.@@N@@Statement
import JvmDerived.Pilot.@@N@@Code
set_option linter.unusedVariables false
set_option linter.unusedSimpArgs false
namespace Jvm.RoadKit
open Sem ClassFile Op Lib Jvm.Stand Jvm.Free Jvm.LawKit
section New
variable {p : Program} {l : Launch} {e : Env} {R : Room} {s : State} {m : MethodId} {args : Array Value} {below : List Frame} {meth : Method} {c : Code} {T : State} {locs : List Loc} {cells slots : Nat}
theorem retI (X : Stand p l e R s m args below meth c T locs cells slots) (hx : p.tables.exec = Jvm.exec) {pc : Nat} {Ls : Array Slot} {z : Int32} {rest : List Value} (hret : meth.sig.returnType = some .int) (hd : decode c.code pc = .ok (.ireturn, 1)) {fs : List Frame}
    (hl : ∀ (f : JFrame) (acts : List Action), f.method = m → f.locked = none → f.entered = [] → (doReturn e (T.setTop f) acts (some (.int z))).1 = T.setFrames fs) : Steps p.tables e below (T.setTop (mkF m pc Ls (.int z :: rest))) (T.setFrames fs) := by
  have hm' : T.vm.method? m = some meth := X.method'
  have hn : narrow .int (.int z) = .int z := rfl
  show Steps p.tables e below (T.setTop { method := m, pc := pc, locals := Ls, stack := _ :: rest, locked := none }) _
  jvm_step X.here [X.here.top, hx, hd, hm', hret, hn]
  first | (intro acts; rw [hl _ acts rfl rfl rfl]) | rw [hl _ _ rfl rfl rfl]
  exact Steps.refl _
end New
end Jvm.RoadKit
namespace Jvm.Pilot.@@N@@
open Jvm Jvm.ClassFile Sem Op Lib Jvm.Free Jvm.Stand Jvm.LawKit Jvm.RoadKit Bundle Jvm.Pilot.@@N@@.Jvm.D
theorem mgE {A : Type} {l : List A} {a : A} (i : Nat) (h : l[i]? = some a) : a ∈ l := List.mem_of_getElem? h

def Arf (Z : State) (h : Heap) (a : Addr) (ty : FieldType) (z : Int32) (f : Nat → Value) : Prop := ∃ c : Cell, Arr Z h a c ty ∧ c.slots.size = z.toNatClampNeg ∧ ¬ z < 0 ∧ ∀ i, i < z.toNatClampNeg → c.slots[i]? = some (f i)
def own_upd {A : Type} (f : Nat → A) (j : Nat) (v : A) : Nat → A := fun i => if i = j then v else f i
theorem own_upd_same {A : Type} (f : Nat → A) (j : Nat) (v : A) : own_upd f j v j = v := if_pos rfl
theorem own_upd_ne {A : Type} (f : Nat → A) {j i : Nat} (v : A) (h : i ≠ j) : own_upd f j v i = f i := if_neg h
section ArfFacts
variable {Z : State} {h h' : Heap} {a b : Addr} {ty : FieldType} {z : Int32} {f : Nat → Value} {k : ClassId} {ws : List Addr} {sl : Nat} {v : Value}
theorem Arf.lt (F : Arf Z h a ty z f) : a < h.size := by obtain ⟨c, A, -⟩ := F; exact A.lt
theorem Arf.ext (F : Arf Z h a ty z f) (E : Ext h h') : Arf Z h' a ty z f := by obtain ⟨c, A, r⟩ := F; exact ⟨c, A.ext E, r⟩
theorem Arf.other (F : Arf Z h b ty z f) (W : Wr h h' a sl v) (q : b ≠ a) : Arf Z h' b ty z f := by obtain ⟨c, A, r⟩ := F; exact ⟨c, A.other W q, r⟩
theorem Arf.keep (F : Arf Z h a ty z f) (K : Keep h h' ws) (q : a ∉ ws) : Arf Z h' a ty z f := by obtain ⟨c, A, r⟩ := F; exact ⟨c, ⟨K.2.1 a c A.1 q, A.2⟩, r⟩
theorem Arf.new (A : Arr Z h a (newA k ty z) ty) (q : ¬ z < 0) : Arf Z h a ty z (fun _ => defaultValue ty) := ⟨_, A, sz_new _ _ _, q, fun i hi => by simp [newA, hi]⟩
theorem Arf.set (F : Arf Z h a ty z f) (W : Wr h h' a sl v) : Arf Z h' a ty z (own_upd f sl v) := by
  obtain ⟨c, A, S, N, H⟩ := F
  refine ⟨c.setSlot sl v, A.same W, by rw [sz_set]; exact S, N, fun i hi => ?_⟩
  by_cases e : i = sl
  · subst e; rw [own_upd_same]; simp [Cell.setSlot, S, hi]
  · rw [own_upd_ne _ _ e, ← H i hi]
    exact Array.getElem?_setIfInBounds_ne (Ne.symm e)
theorem Arf.cong {g : Nat → Value} (F : Arf Z h a ty z f) (q : ∀ i, i < z.toNatClampNeg → f i = g i) : Arf Z h a ty z g := by obtain ⟨c, A, S, N, H⟩ := F; exact ⟨c, A, S, N, fun i hi => (H i hi).trans (congrArg some (q i hi))⟩
theorem upd_int (f : Nat → Int32) (j : Nat) (v : Int32) : own_upd (fun i => Value.int (f i)) j (.int v) = fun i => Value.int (own_upd f j v i) := by funext i; unfold own_upd; split <;> rfl
theorem upd_long (f : Nat → Int64) (j : Nat) (v : Int64) : own_upd (fun i => Value.long (f i)) j (.long v) = fun i => Value.long (own_upd f j v i) := by funext i; unfold own_upd; split <;> rfl
end ArfFacts

theorem own_arv {Z : State} {h : Heap} {a : Addr} {k : ClassId} {ty : FieldType} {z : Int32} {vs : List Value} {dv : Value} {f : Nat → Value} (F : Arv Z h a k ty z vs dv) (q : ∀ i, i < z.toNatClampNeg → vs.getD i dv = f i) : Arf Z h a ty z f := by
  obtain ⟨c, A, -, S, N, H, -⟩ := F
  exact ⟨c, A, S, N, fun i hi => (H i (by rw [S]; exact hi)).trans (congrArg some (q i hi))⟩
theorem own_getD (l : List Int32) (i : Nat) : (l.map Value.int).getD i (.int 0) = .int (l.getD i 0) := by
  induction l generalizing i with
  | nil => rfl
  | cons x xs ih => cases i with
    | zero => rfl
    | succ i => exact ih i

theorem own_nsE {Z : State} {h : Heap} {a : Addr} {C : String} (F : Exa Z h a C) : ∃ cell : Cell, h[a]? = some cell ∧ cell.vm.isStatics = false := by obtain ⟨cell, k, h1, h2, h3, h4, -⟩ := F; exact ⟨cell, h1, h4⟩
theorem own_stk {Z : State} {h h' : Heap} {C n d : String} {v : Value} {ws : List Addr} (F : Sta Z h C n d v) (K : Keep h h' ws) (q : ∀ x ∈ ws, ∃ cell : Cell, h[x]? = some cell ∧ cell.vm.isStatics = false) : Sta Z h' C n d v := by
  obtain ⟨cf, i, k, f, st, cell, h1, h2, h3, h4, h5, h6, h7⟩ := F
  refine ⟨cf, i, k, f, st, cell, h1, h2, h3, h4, K.2.1 st cell h5 fun hm => ?_, h6, h7⟩
  obtain ⟨c', e1, e2⟩ := q st hm
  cases h5.symm.trans e1
  rw [h6] at e2; cases e2

theorem own_nsV {Z : State} {h : Heap} {a : Addr} {ty : FieldType} {z : Int32} {f : Nat → Value} (F : Arf Z h a ty z f) : ∃ cell : Cell, h[a]? = some cell ∧ cell.vm.isStatics = false := by obtain ⟨c, A, -⟩ := F; exact ⟨c, A.1, A.plain⟩

theorem own_wS {Z : State} {a0 : Array Value} (hw : ∀ d ∈ tables_1, d.before a0 Z = true) : ∀ a ∈ Bundle.stringAtoms, a.before a0 Z = true := fun a ha => by
  simp only [Bundle.stringAtoms, List.mem_cons, List.not_mem_nil, or_false] at ha
  rcases ha with rfl | rfl | rfl | rfl | rfl | rfl | rfl
  · exact (hw _ (mgE 1 rfl))
  · exact (hw _ (mgE 2 rfl))
  · exact (hw _ (mgE 3 rfl))
  · exact (hw _ (mgE 4 rfl))
  · exact (hw _ (mgE 5 rfl))
  · exact (hw _ (mgE 6 rfl))
  · exact (hw _ (mgE 7 rfl))

def own_U : List Int32 := [48, 49, 50, 51, 52, 53, 54, 55, 56, 57, 65, 66, 67, 68, 69, 70]
def own_L : List Int32 := [48, 49, 50, 51, 52, 53, 54, 55, 56, 57, 97, 98, 99, 100, 101, 102]

theorem d1_0 : decode prog_181_method_3_code 0 = .ok (.iload_n 0, 1) := by decide +kernel
theorem d1_1 : decode prog_181_method_3_code 1 = .ok (.bipush 48, 2) := by decide +kernel
theorem d1_3 : decode prog_181_method_3_code 3 = .ok (.if_icmp .lt 14, 3) := by decide +kernel
theorem d1_6 : decode prog_181_method_3_code 6 = .ok (.iload_n 0, 1) := by decide +kernel
theorem d1_7 : decode prog_181_method_3_code 7 = .ok (.bipush 57, 2) := by decide +kernel
theorem d1_9 : decode prog_181_method_3_code 9 = .ok (.if_icmp .gt 8, 3) := by decide +kernel
theorem d1_12 : decode prog_181_method_3_code 12 = .ok (.iload_n 0, 1) := by decide +kernel
theorem d1_13 : decode prog_181_method_3_code 13 = .ok (.bipush 48, 2) := by decide +kernel
theorem d1_15 : decode prog_181_method_3_code 15 = .ok (.isub, 1) := by decide +kernel
theorem d1_16 : decode prog_181_method_3_code 16 = .ok (.ireturn, 1) := by decide +kernel
theorem d1_17 : decode prog_181_method_3_code 17 = .ok (.iload_n 0, 1) := by decide +kernel
theorem d1_18 : decode prog_181_method_3_code 18 = .ok (.bipush 65, 2) := by decide +kernel
theorem d1_20 : decode prog_181_method_3_code 20 = .ok (.if_icmp .lt 17, 3) := by decide +kernel
theorem d1_23 : decode prog_181_method_3_code 23 = .ok (.iload_n 0, 1) := by decide +kernel
theorem d1_24 : decode prog_181_method_3_code 24 = .ok (.bipush 70, 2) := by decide +kernel
theorem d1_26 : decode prog_181_method_3_code 26 = .ok (.if_icmp .gt 11, 3) := by decide +kernel
theorem d1_29 : decode prog_181_method_3_code 29 = .ok (.iload_n 0, 1) := by decide +kernel
theorem d1_30 : decode prog_181_method_3_code 30 = .ok (.bipush 65, 2) := by decide +kernel
theorem d1_32 : decode prog_181_method_3_code 32 = .ok (.isub, 1) := by decide +kernel
theorem d1_33 : decode prog_181_method_3_code 33 = .ok (.bipush 10, 2) := by decide +kernel
theorem d1_35 : decode prog_181_method_3_code 35 = .ok (.iadd, 1) := by decide +kernel
theorem d1_36 : decode prog_181_method_3_code 36 = .ok (.ireturn, 1) := by decide +kernel
theorem d1_37 : decode prog_181_method_3_code 37 = .ok (.iload_n 0, 1) := by decide +kernel
theorem d1_38 : decode prog_181_method_3_code 38 = .ok (.bipush 97, 2) := by decide +kernel
theorem d1_40 : decode prog_181_method_3_code 40 = .ok (.if_icmp .lt 17, 3) := by decide +kernel
theorem d1_43 : decode prog_181_method_3_code 43 = .ok (.iload_n 0, 1) := by decide +kernel
theorem d1_44 : decode prog_181_method_3_code 44 = .ok (.bipush 102, 2) := by decide +kernel
theorem d1_46 : decode prog_181_method_3_code 46 = .ok (.if_icmp .gt 11, 3) := by decide +kernel
theorem d1_49 : decode prog_181_method_3_code 49 = .ok (.iload_n 0, 1) := by decide +kernel
theorem d1_50 : decode prog_181_method_3_code 50 = .ok (.bipush 97, 2) := by decide +kernel
theorem d1_52 : decode prog_181_method_3_code 52 = .ok (.isub, 1) := by decide +kernel
theorem d1_53 : decode prog_181_method_3_code 53 = .ok (.bipush 10, 2) := by decide +kernel
theorem d1_55 : decode prog_181_method_3_code 55 = .ok (.iadd, 1) := by decide +kernel
theorem d1_56 : decode prog_181_method_3_code 56 = .ok (.ireturn, 1) := by decide +kernel
theorem d1_57 : decode prog_181_method_3_code 57 = .ok (.iconst (-1), 1) := by decide +kernel
theorem d1_58 : decode prog_181_method_3_code 58 = .ok (.ireturn, 1) := by decide +kernel
theorem pn_com_example_commonroom_commonroom_webdav_UriSyntax : plainName "com/example/commonroom/commonroom/webdav/UriSyntax" = true := by first | (simp [plainName, overriddenIn]; done) | decide +kernel
theorem ef_1 (m : MethodId) (x0 : Int32) : entryFrame m #[(.int x0)] 1 = mkF m 0 #[.val (.int x0)] [] := by first | (simp [entryFrame, mkF, argsToLocals, Value.category]; done) | rfl
def r1 (p1 : Int32) : Int32 := (if p1 < (48 : Int32) then (if p1 < (65 : Int32) then (if p1 < (97 : Int32) then (-1 : Int32) else (if (102 : Int32) < p1 then (-1 : Int32) else ((p1 - (97 : Int32)) + (10 : Int32)))) else (if (70 : Int32) < p1 then (if p1 < (97 : Int32) then (-1 : Int32) else (if (102 : Int32) < p1 then (-1 : Int32) else ((p1 - (97 : Int32)) + (10 : Int32)))) else ((p1 - (65 : Int32)) + (10 : Int32)))) else (if (57 : Int32) < p1 then (if p1 < (65 : Int32) then (if p1 < (97 : Int32) then (-1 : Int32) else (if (102 : Int32) < p1 then (-1 : Int32) else ((p1 - (97 : Int32)) + (10 : Int32)))) else (if (70 : Int32) < p1 then (if p1 < (97 : Int32) then (-1 : Int32) else (if (102 : Int32) < p1 then (-1 : Int32) else ((p1 - (97 : Int32)) + (10 : Int32)))) else ((p1 - (65 : Int32)) + (10 : Int32)))) else (p1 - (48 : Int32))))
def Q1 (Z : State) (p1 : Int32) (h0 : Heap) (n0 : Nat) (v : Option Value) (h : Heap) (L : List Loc) : Prop := v = some (.int (r1 p1)) ∧ Fr n0 L ∧ h = h0
set_option maxRecDepth 65536 in
set_option maxHeartbeats 40000000 in
theorem rm1 (l : Launch) (Z : State) (a0 : Array Value) (hw : ∀ d ∈ tables_1, d.before a0 Z = true) (ws : List Jvm.Cond) (p1 : Int32) (h0 : Heap) (n0 : Nat) (Z0 : n0 ≤ h0.size)  :
    MetFree l (⟨"com/example/commonroom/commonroom/webdav/UriSyntax", "hexDigit", "(C)I"⟩ : MethodName) (head1 (Jvm.Cond.code (⟨"com/example/commonroom/commonroom/webdav/UriSyntax", "hexDigit", "(C)I"⟩ : MethodName) prog_181_method_3_code 1 (some .int) :: ws) ({ frames := 0, cells := 0, slots := 0, locals := 0 } : Room)) (fun a U => a = #[(.int p1)] ∧ Z.Warmed39 U.vm ∧ U.heap = h0) (fun _ _ _ _ _ => True) (fun _ U o U' => ∃ v L, o = .returned v ∧ Q1 Z p1 h0 n0 v U'.heap L ∧ FrameEnd U o U' L ({ frames := 0, cells := 0, slots := 0, locals := 0 } : Room).cells ({ frames := 0, cells := 0, slots := 0, locals := 0 } : Room).slots) := by
  refine MetFree.of_bodySF (plainFor_of_name pn_com_example_commonroom_commonroom_webdav_UriSyntax) hisR ?_
  intro p e s m args below meth c s₁ Bd hml0 hP hK
  obtain ⟨rfl, hZ, hh⟩ := hP
  have hx := Bd.exec
  have hby := Bd.bytes
  have hml : c.maxLocals = 1 := hml0
  have hown : s.vm.findClass "com/example/commonroom/commonroom/webdav/UriSyntax" = some m.cls := findClass_of_methodNamed Bd.named
  have hnm := (name_of_methodNamed Bd.named Bd.method).1
  have X0 : Stand p l e ({ frames := 0, cells := 0, slots := 0, locals := 0 } : Room) s m #[(.int p1)] below meth c s₁ [] 0 0 := Stand.of_body Bd
  have e0 : s₁.heap = h0 := by rw [← hh, Bd.state]; rfl
  have N0 := Fr.nil n0
  have pre0 : ∀ t, Steps p.tables e below (s₁.setTop (mkF m 0 #[.val (.int p1)] [])) t → Steps p.tables e below (s₁.setTop (entryFrame m #[(.int p1)] 1)) t := fun t k => castTop (ef_1 m p1) k
  by_cases hc3 : p1 < (48 : Int32)
  · skip
    by_cases hc20 : p1 < (65 : Int32)
    · skip
      by_cases hc40 : p1 < (97 : Int32)
      · skip
        have pre1 : ∀ t, Steps p.tables e below (s₁.setTop (mkF m 58 #[.val (.int p1)] [(.int (-1 : Int32))])) t → Steps p.tables e below (s₁.setTop (entryFrame m #[(.int p1)] 1)) t := fun t kt => by
          refine pre0 t ?_
          refine XS.iloadN X0.here hx rfl (hb hby d1_0) rfl ?_
          show Steps p.tables e below (s₁.setTop (mkF m 1 #[.val (.int p1)] [(.int p1)])) _
          refine XS.bipush X0.here hx rfl (hb hby d1_1) ?_
          show Steps p.tables e below (s₁.setTop (mkF m 3 #[.val (.int p1)] [(.int (48 : Int32)), (.int p1)])) _
          refine XS.icmpYes X0.here hx rfl (pc0 := 3) (pc' := 17) rfl (hb hby d1_3) rfl (tlt hc3).1 (by decide) (by decide) ?_
          show Steps p.tables e below (s₁.setTop (mkF m 17 #[.val (.int p1)] [])) _
          refine XS.iloadN X0.here hx rfl (hb hby d1_17) rfl ?_
          show Steps p.tables e below (s₁.setTop (mkF m 18 #[.val (.int p1)] [(.int p1)])) _
          refine XS.bipush X0.here hx rfl (hb hby d1_18) ?_
          show Steps p.tables e below (s₁.setTop (mkF m 20 #[.val (.int p1)] [(.int (65 : Int32)), (.int p1)])) _
          refine XS.icmpYes X0.here hx rfl (pc0 := 20) (pc' := 37) rfl (hb hby d1_20) rfl (tlt hc20).1 (by decide) (by decide) ?_
          show Steps p.tables e below (s₁.setTop (mkF m 37 #[.val (.int p1)] [])) _
          refine XS.iloadN X0.here hx rfl (hb hby d1_37) rfl ?_
          show Steps p.tables e below (s₁.setTop (mkF m 38 #[.val (.int p1)] [(.int p1)])) _
          refine XS.bipush X0.here hx rfl (hb hby d1_38) ?_
          show Steps p.tables e below (s₁.setTop (mkF m 40 #[.val (.int p1)] [(.int (97 : Int32)), (.int p1)])) _
          refine XS.icmpYes X0.here hx rfl (pc0 := 40) (pc' := 57) rfl (hb hby d1_40) rfl (tlt hc40).1 (by decide) (by decide) ?_
          show Steps p.tables e below (s₁.setTop (mkF m 57 #[.val (.int p1)] [])) _
          refine XS.iconst X0.here hx rfl (hb hby d1_57) ?_
          show Steps p.tables e below (s₁.setTop (mkF m 58 #[.val (.int p1)] [(.int (-1 : Int32))])) _
          exact kt
        obtain ⟨fs, hr, hrun, hended, hW, hsame⟩ := X0.leave (v := some (.int (-1 : Int32))) (fun h => by rw [Bd.returns] at h; cases h)
        refine ⟨_, _, pre1 _ ?_, hrun, hended, _, _, rfl, ?_, ⟨_, rfl⟩, hW, hsame.mono (by decide) (by decide)⟩
        · exact retI X0 hx Bd.returns (hb hby d1_58) hr
        · show Q1 Z p1 h0 n0 _ s₁.heap _
          rw [e0]
          exact ⟨by first | rfl | (simp only [r1, if_pos hc3, if_pos hc20, if_pos hc40]), N0, rfl⟩
      · skip
        by_cases hc46 : (102 : Int32) < p1
        · skip
          have pre2 : ∀ t, Steps p.tables e below (s₁.setTop (mkF m 58 #[.val (.int p1)] [(.int (-1 : Int32))])) t → Steps p.tables e below (s₁.setTop (entryFrame m #[(.int p1)] 1)) t := fun t kt => by
            refine pre0 t ?_
            refine XS.iloadN X0.here hx rfl (hb hby d1_0) rfl ?_
            show Steps p.tables e below (s₁.setTop (mkF m 1 #[.val (.int p1)] [(.int p1)])) _
            refine XS.bipush X0.here hx rfl (hb hby d1_1) ?_
            show Steps p.tables e below (s₁.setTop (mkF m 3 #[.val (.int p1)] [(.int (48 : Int32)), (.int p1)])) _
            refine XS.icmpYes X0.here hx rfl (pc0 := 3) (pc' := 17) rfl (hb hby d1_3) rfl (tlt hc3).1 (by decide) (by decide) ?_
            show Steps p.tables e below (s₁.setTop (mkF m 17 #[.val (.int p1)] [])) _
            refine XS.iloadN X0.here hx rfl (hb hby d1_17) rfl ?_
            show Steps p.tables e below (s₁.setTop (mkF m 18 #[.val (.int p1)] [(.int p1)])) _
            refine XS.bipush X0.here hx rfl (hb hby d1_18) ?_
            show Steps p.tables e below (s₁.setTop (mkF m 20 #[.val (.int p1)] [(.int (65 : Int32)), (.int p1)])) _
            refine XS.icmpYes X0.here hx rfl (pc0 := 20) (pc' := 37) rfl (hb hby d1_20) rfl (tlt hc20).1 (by decide) (by decide) ?_
            show Steps p.tables e below (s₁.setTop (mkF m 37 #[.val (.int p1)] [])) _
            refine XS.iloadN X0.here hx rfl (hb hby d1_37) rfl ?_
            show Steps p.tables e below (s₁.setTop (mkF m 38 #[.val (.int p1)] [(.int p1)])) _
            refine XS.bipush X0.here hx rfl (hb hby d1_38) ?_
            show Steps p.tables e below (s₁.setTop (mkF m 40 #[.val (.int p1)] [(.int (97 : Int32)), (.int p1)])) _
            refine XS.icmpNo X0.here hx rfl (hb hby d1_40) rfl (flt hc40).1 ?_
            show Steps p.tables e below (s₁.setTop (mkF m 43 #[.val (.int p1)] [])) _
            refine XS.iloadN X0.here hx rfl (hb hby d1_43) rfl ?_
            show Steps p.tables e below (s₁.setTop (mkF m 44 #[.val (.int p1)] [(.int p1)])) _
            refine XS.bipush X0.here hx rfl (hb hby d1_44) ?_
            show Steps p.tables e below (s₁.setTop (mkF m 46 #[.val (.int p1)] [(.int (102 : Int32)), (.int p1)])) _
            refine XS.icmpYes X0.here hx rfl (pc0 := 46) (pc' := 57) rfl (hb hby d1_46) rfl (tlt hc46).2.2.1 (by decide) (by decide) ?_
            show Steps p.tables e below (s₁.setTop (mkF m 57 #[.val (.int p1)] [])) _
            refine XS.iconst X0.here hx rfl (hb hby d1_57) ?_
            show Steps p.tables e below (s₁.setTop (mkF m 58 #[.val (.int p1)] [(.int (-1 : Int32))])) _
            exact kt
          obtain ⟨fs, hr, hrun, hended, hW, hsame⟩ := X0.leave (v := some (.int (-1 : Int32))) (fun h => by rw [Bd.returns] at h; cases h)
          refine ⟨_, _, pre2 _ ?_, hrun, hended, _, _, rfl, ?_, ⟨_, rfl⟩, hW, hsame.mono (by decide) (by decide)⟩
          · exact retI X0 hx Bd.returns (hb hby d1_58) hr
          · show Q1 Z p1 h0 n0 _ s₁.heap _
            rw [e0]
            exact ⟨by first | rfl | (simp only [r1, if_pos hc3, if_pos hc20, if_neg hc40, if_pos hc46]), N0, rfl⟩
        · skip
          have pre3 : ∀ t, Steps p.tables e below (s₁.setTop (mkF m 56 #[.val (.int p1)] [(.int ((p1 - (97 : Int32)) + (10 : Int32)))])) t → Steps p.tables e below (s₁.setTop (entryFrame m #[(.int p1)] 1)) t := fun t kt => by
            refine pre0 t ?_
            refine XS.iloadN X0.here hx rfl (hb hby d1_0) rfl ?_
            show Steps p.tables e below (s₁.setTop (mkF m 1 #[.val (.int p1)] [(.int p1)])) _
            refine XS.bipush X0.here hx rfl (hb hby d1_1) ?_
            show Steps p.tables e below (s₁.setTop (mkF m 3 #[.val (.int p1)] [(.int (48 : Int32)), (.int p1)])) _
            refine XS.icmpYes X0.here hx rfl (pc0 := 3) (pc' := 17) rfl (hb hby d1_3) rfl (tlt hc3).1 (by decide) (by decide) ?_
            show Steps p.tables e below (s₁.setTop (mkF m 17 #[.val (.int p1)] [])) _
            refine XS.iloadN X0.here hx rfl (hb hby d1_17) rfl ?_
            show Steps p.tables e below (s₁.setTop (mkF m 18 #[.val (.int p1)] [(.int p1)])) _
            refine XS.bipush X0.here hx rfl (hb hby d1_18) ?_
            show Steps p.tables e below (s₁.setTop (mkF m 20 #[.val (.int p1)] [(.int (65 : Int32)), (.int p1)])) _
            refine XS.icmpYes X0.here hx rfl (pc0 := 20) (pc' := 37) rfl (hb hby d1_20) rfl (tlt hc20).1 (by decide) (by decide) ?_
            show Steps p.tables e below (s₁.setTop (mkF m 37 #[.val (.int p1)] [])) _
            refine XS.iloadN X0.here hx rfl (hb hby d1_37) rfl ?_
            show Steps p.tables e below (s₁.setTop (mkF m 38 #[.val (.int p1)] [(.int p1)])) _
            refine XS.bipush X0.here hx rfl (hb hby d1_38) ?_
            show Steps p.tables e below (s₁.setTop (mkF m 40 #[.val (.int p1)] [(.int (97 : Int32)), (.int p1)])) _
            refine XS.icmpNo X0.here hx rfl (hb hby d1_40) rfl (flt hc40).1 ?_
            show Steps p.tables e below (s₁.setTop (mkF m 43 #[.val (.int p1)] [])) _
            refine XS.iloadN X0.here hx rfl (hb hby d1_43) rfl ?_
            show Steps p.tables e below (s₁.setTop (mkF m 44 #[.val (.int p1)] [(.int p1)])) _
            refine XS.bipush X0.here hx rfl (hb hby d1_44) ?_
            show Steps p.tables e below (s₁.setTop (mkF m 46 #[.val (.int p1)] [(.int (102 : Int32)), (.int p1)])) _
            refine XS.icmpNo X0.here hx rfl (hb hby d1_46) rfl (flt hc46).2.2.1 ?_
            show Steps p.tables e below (s₁.setTop (mkF m 49 #[.val (.int p1)] [])) _
            refine XS.iloadN X0.here hx rfl (hb hby d1_49) rfl ?_
            show Steps p.tables e below (s₁.setTop (mkF m 50 #[.val (.int p1)] [(.int p1)])) _
            refine XS.bipush X0.here hx rfl (hb hby d1_50) ?_
            show Steps p.tables e below (s₁.setTop (mkF m 52 #[.val (.int p1)] [(.int (97 : Int32)), (.int p1)])) _
            refine XS.isub X0.here hx rfl (hb hby d1_52) rfl ?_
            show Steps p.tables e below (s₁.setTop (mkF m 53 #[.val (.int p1)] [(.int (p1 - (97 : Int32)))])) _
            refine XS.bipush X0.here hx rfl (hb hby d1_53) ?_
            show Steps p.tables e below (s₁.setTop (mkF m 55 #[.val (.int p1)] [(.int (10 : Int32)), (.int (p1 - (97 : Int32)))])) _
            refine XS.iadd X0.here hx rfl (hb hby d1_55) rfl ?_
            show Steps p.tables e below (s₁.setTop (mkF m 56 #[.val (.int p1)] [(.int ((p1 - (97 : Int32)) + (10 : Int32)))])) _
            exact kt
          obtain ⟨fs, hr, hrun, hended, hW, hsame⟩ := X0.leave (v := some (.int ((p1 - (97 : Int32)) + (10 : Int32)))) (fun h => by rw [Bd.returns] at h; cases h)
          refine ⟨_, _, pre3 _ ?_, hrun, hended, _, _, rfl, ?_, ⟨_, rfl⟩, hW, hsame.mono (by decide) (by decide)⟩
          · exact retI X0 hx Bd.returns (hb hby d1_56) hr
          · show Q1 Z p1 h0 n0 _ s₁.heap _
            rw [e0]
            exact ⟨by first | rfl | (simp only [r1, if_pos hc3, if_pos hc20, if_neg hc40, if_neg hc46]), N0, rfl⟩
    · skip
      by_cases hc26 : (70 : Int32) < p1
      · skip
        by_cases hc40 : p1 < (97 : Int32)
        · skip
          have pre4 : ∀ t, Steps p.tables e below (s₁.setTop (mkF m 58 #[.val (.int p1)] [(.int (-1 : Int32))])) t → Steps p.tables e below (s₁.setTop (entryFrame m #[(.int p1)] 1)) t := fun t kt => by
            refine pre0 t ?_
            refine XS.iloadN X0.here hx rfl (hb hby d1_0) rfl ?_
            show Steps p.tables e below (s₁.setTop (mkF m 1 #[.val (.int p1)] [(.int p1)])) _
            refine XS.bipush X0.here hx rfl (hb hby d1_1) ?_
            show Steps p.tables e below (s₁.setTop (mkF m 3 #[.val (.int p1)] [(.int (48 : Int32)), (.int p1)])) _
            refine XS.icmpYes X0.here hx rfl (pc0 := 3) (pc' := 17) rfl (hb hby d1_3) rfl (tlt hc3).1 (by decide) (by decide) ?_
            show Steps p.tables e below (s₁.setTop (mkF m 17 #[.val (.int p1)] [])) _
            refine XS.iloadN X0.here hx rfl (hb hby d1_17) rfl ?_
            show Steps p.tables e below (s₁.setTop (mkF m 18 #[.val (.int p1)] [(.int p1)])) _
            refine XS.bipush X0.here hx rfl (hb hby d1_18) ?_
            show Steps p.tables e below (s₁.setTop (mkF m 20 #[.val (.int p1)] [(.int (65 : Int32)), (.int p1)])) _
            refine XS.icmpNo X0.here hx rfl (hb hby d1_20) rfl (flt hc20).1 ?_
            show Steps p.tables e below (s₁.setTop (mkF m 23 #[.val (.int p1)] [])) _
            refine XS.iloadN X0.here hx rfl (hb hby d1_23) rfl ?_
            show Steps p.tables e below (s₁.setTop (mkF m 24 #[.val (.int p1)] [(.int p1)])) _
            refine XS.bipush X0.here hx rfl (hb hby d1_24) ?_
            show Steps p.tables e below (s₁.setTop (mkF m 26 #[.val (.int p1)] [(.int (70 : Int32)), (.int p1)])) _
            refine XS.icmpYes X0.here hx rfl (pc0 := 26) (pc' := 37) rfl (hb hby d1_26) rfl (tlt hc26).2.2.1 (by decide) (by decide) ?_
            show Steps p.tables e below (s₁.setTop (mkF m 37 #[.val (.int p1)] [])) _
            refine XS.iloadN X0.here hx rfl (hb hby d1_37) rfl ?_
            show Steps p.tables e below (s₁.setTop (mkF m 38 #[.val (.int p1)] [(.int p1)])) _
            refine XS.bipush X0.here hx rfl (hb hby d1_38) ?_
            show Steps p.tables e below (s₁.setTop (mkF m 40 #[.val (.int p1)] [(.int (97 : Int32)), (.int p1)])) _
            refine XS.icmpYes X0.here hx rfl (pc0 := 40) (pc' := 57) rfl (hb hby d1_40) rfl (tlt hc40).1 (by decide) (by decide) ?_
            show Steps p.tables e below (s₁.setTop (mkF m 57 #[.val (.int p1)] [])) _
            refine XS.iconst X0.here hx rfl (hb hby d1_57) ?_
            show Steps p.tables e below (s₁.setTop (mkF m 58 #[.val (.int p1)] [(.int (-1 : Int32))])) _
            exact kt
          obtain ⟨fs, hr, hrun, hended, hW, hsame⟩ := X0.leave (v := some (.int (-1 : Int32))) (fun h => by rw [Bd.returns] at h; cases h)
          refine ⟨_, _, pre4 _ ?_, hrun, hended, _, _, rfl, ?_, ⟨_, rfl⟩, hW, hsame.mono (by decide) (by decide)⟩
          · exact retI X0 hx Bd.returns (hb hby d1_58) hr
          · show Q1 Z p1 h0 n0 _ s₁.heap _
            rw [e0]
            exact ⟨by first | rfl | (simp only [r1, if_pos hc3, if_neg hc20, if_pos hc26, if_pos hc40]), N0, rfl⟩
        · skip
          by_cases hc46 : (102 : Int32) < p1
          · skip
            have pre5 : ∀ t, Steps p.tables e below (s₁.setTop (mkF m 58 #[.val (.int p1)] [(.int (-1 : Int32))])) t → Steps p.tables e below (s₁.setTop (entryFrame m #[(.int p1)] 1)) t := fun t kt => by
              refine pre0 t ?_
              refine XS.iloadN X0.here hx rfl (hb hby d1_0) rfl ?_
              show Steps p.tables e below (s₁.setTop (mkF m 1 #[.val (.int p1)] [(.int p1)])) _
              refine XS.bipush X0.here hx rfl (hb hby d1_1) ?_
              show Steps p.tables e below (s₁.setTop (mkF m 3 #[.val (.int p1)] [(.int (48 : Int32)), (.int p1)])) _
              refine XS.icmpYes X0.here hx rfl (pc0 := 3) (pc' := 17) rfl (hb hby d1_3) rfl (tlt hc3).1 (by decide) (by decide) ?_
              show Steps p.tables e below (s₁.setTop (mkF m 17 #[.val (.int p1)] [])) _
              refine XS.iloadN X0.here hx rfl (hb hby d1_17) rfl ?_
              show Steps p.tables e below (s₁.setTop (mkF m 18 #[.val (.int p1)] [(.int p1)])) _
              refine XS.bipush X0.here hx rfl (hb hby d1_18) ?_
              show Steps p.tables e below (s₁.setTop (mkF m 20 #[.val (.int p1)] [(.int (65 : Int32)), (.int p1)])) _
              refine XS.icmpNo X0.here hx rfl (hb hby d1_20) rfl (flt hc20).1 ?_
              show Steps p.tables e below (s₁.setTop (mkF m 23 #[.val (.int p1)] [])) _
              refine XS.iloadN X0.here hx rfl (hb hby d1_23) rfl ?_
              show Steps p.tables e below (s₁.setTop (mkF m 24 #[.val (.int p1)] [(.int p1)])) _
              refine XS.bipush X0.here hx rfl (hb hby d1_24) ?_
              show Steps p.tables e below (s₁.setTop (mkF m 26 #[.val (.int p1)] [(.int (70 : Int32)), (.int p1)])) _
              refine XS.icmpYes X0.here hx rfl (pc0 := 26) (pc' := 37) rfl (hb hby d1_26) rfl (tlt hc26).2.2.1 (by decide) (by decide) ?_
              show Steps p.tables e below (s₁.setTop (mkF m 37 #[.val (.int p1)] [])) _
              refine XS.iloadN X0.here hx rfl (hb hby d1_37) rfl ?_
              show Steps p.tables e below (s₁.setTop (mkF m 38 #[.val (.int p1)] [(.int p1)])) _
              refine XS.bipush X0.here hx rfl (hb hby d1_38) ?_
              show Steps p.tables e below (s₁.setTop (mkF m 40 #[.val (.int p1)] [(.int (97 : Int32)), (.int p1)])) _
              refine XS.icmpNo X0.here hx rfl (hb hby d1_40) rfl (flt hc40).1 ?_
              show Steps p.tables e below (s₁.setTop (mkF m 43 #[.val (.int p1)] [])) _
              refine XS.iloadN X0.here hx rfl (hb hby d1_43) rfl ?_
              show Steps p.tables e below (s₁.setTop (mkF m 44 #[.val (.int p1)] [(.int p1)])) _
              refine XS.bipush X0.here hx rfl (hb hby d1_44) ?_
              show Steps p.tables e below (s₁.setTop (mkF m 46 #[.val (.int p1)] [(.int (102 : Int32)), (.int p1)])) _
              refine XS.icmpYes X0.here hx rfl (pc0 := 46) (pc' := 57) rfl (hb hby d1_46) rfl (tlt hc46).2.2.1 (by decide) (by decide) ?_
              show Steps p.tables e below (s₁.setTop (mkF m 57 #[.val (.int p1)] [])) _
              refine XS.iconst X0.here hx rfl (hb hby d1_57) ?_
              show Steps p.tables e below (s₁.setTop (mkF m 58 #[.val (.int p1)] [(.int (-1 : Int32))])) _
              exact kt
            obtain ⟨fs, hr, hrun, hended, hW, hsame⟩ := X0.leave (v := some (.int (-1 : Int32))) (fun h => by rw [Bd.returns] at h; cases h)
            refine ⟨_, _, pre5 _ ?_, hrun, hended, _, _, rfl, ?_, ⟨_, rfl⟩, hW, hsame.mono (by decide) (by decide)⟩
            · exact retI X0 hx Bd.returns (hb hby d1_58) hr
            · show Q1 Z p1 h0 n0 _ s₁.heap _
              rw [e0]
              exact ⟨by first | rfl | (simp only [r1, if_pos hc3, if_neg hc20, if_pos hc26, if_neg hc40, if_pos hc46]), N0, rfl⟩
          · skip
            have pre6 : ∀ t, Steps p.tables e below (s₁.setTop (mkF m 56 #[.val (.int p1)] [(.int ((p1 - (97 : Int32)) + (10 : Int32)))])) t → Steps p.tables e below (s₁.setTop (entryFrame m #[(.int p1)] 1)) t := fun t kt => by
              refine pre0 t ?_
              refine XS.iloadN X0.here hx rfl (hb hby d1_0) rfl ?_
              show Steps p.tables e below (s₁.setTop (mkF m 1 #[.val (.int p1)] [(.int p1)])) _
              refine XS.bipush X0.here hx rfl (hb hby d1_1) ?_
              show Steps p.tables e below (s₁.setTop (mkF m 3 #[.val (.int p1)] [(.int (48 : Int32)), (.int p1)])) _
              refine XS.icmpYes X0.here hx rfl (pc0 := 3) (pc' := 17) rfl (hb hby d1_3) rfl (tlt hc3).1 (by decide) (by decide) ?_
              show Steps p.tables e below (s₁.setTop (mkF m 17 #[.val (.int p1)] [])) _
              refine XS.iloadN X0.here hx rfl (hb hby d1_17) rfl ?_
              show Steps p.tables e below (s₁.setTop (mkF m 18 #[.val (.int p1)] [(.int p1)])) _
              refine XS.bipush X0.here hx rfl (hb hby d1_18) ?_
              show Steps p.tables e below (s₁.setTop (mkF m 20 #[.val (.int p1)] [(.int (65 : Int32)), (.int p1)])) _
              refine XS.icmpNo X0.here hx rfl (hb hby d1_20) rfl (flt hc20).1 ?_
              show Steps p.tables e below (s₁.setTop (mkF m 23 #[.val (.int p1)] [])) _
              refine XS.iloadN X0.here hx rfl (hb hby d1_23) rfl ?_
              show Steps p.tables e below (s₁.setTop (mkF m 24 #[.val (.int p1)] [(.int p1)])) _
              refine XS.bipush X0.here hx rfl (hb hby d1_24) ?_
              show Steps p.tables e below (s₁.setTop (mkF m 26 #[.val (.int p1)] [(.int (70 : Int32)), (.int p1)])) _
              refine XS.icmpYes X0.here hx rfl (pc0 := 26) (pc' := 37) rfl (hb hby d1_26) rfl (tlt hc26).2.2.1 (by decide) (by decide) ?_
              show Steps p.tables e below (s₁.setTop (mkF m 37 #[.val (.int p1)] [])) _
              refine XS.iloadN X0.here hx rfl (hb hby d1_37) rfl ?_
              show Steps p.tables e below (s₁.setTop (mkF m 38 #[.val (.int p1)] [(.int p1)])) _
              refine XS.bipush X0.here hx rfl (hb hby d1_38) ?_
              show Steps p.tables e below (s₁.setTop (mkF m 40 #[.val (.int p1)] [(.int (97 : Int32)), (.int p1)])) _
              refine XS.icmpNo X0.here hx rfl (hb hby d1_40) rfl (flt hc40).1 ?_
              show Steps p.tables e below (s₁.setTop (mkF m 43 #[.val (.int p1)] [])) _
              refine XS.iloadN X0.here hx rfl (hb hby d1_43) rfl ?_
              show Steps p.tables e below (s₁.setTop (mkF m 44 #[.val (.int p1)] [(.int p1)])) _
              refine XS.bipush X0.here hx rfl (hb hby d1_44) ?_
              show Steps p.tables e below (s₁.setTop (mkF m 46 #[.val (.int p1)] [(.int (102 : Int32)), (.int p1)])) _
              refine XS.icmpNo X0.here hx rfl (hb hby d1_46) rfl (flt hc46).2.2.1 ?_
              show Steps p.tables e below (s₁.setTop (mkF m 49 #[.val (.int p1)] [])) _
              refine XS.iloadN X0.here hx rfl (hb hby d1_49) rfl ?_
              show Steps p.tables e below (s₁.setTop (mkF m 50 #[.val (.int p1)] [(.int p1)])) _
              refine XS.bipush X0.here hx rfl (hb hby d1_50) ?_
              show Steps p.tables e below (s₁.setTop (mkF m 52 #[.val (.int p1)] [(.int (97 : Int32)), (.int p1)])) _
              refine XS.isub X0.here hx rfl (hb hby d1_52) rfl ?_
              show Steps p.tables e below (s₁.setTop (mkF m 53 #[.val (.int p1)] [(.int (p1 - (97 : Int32)))])) _
              refine XS.bipush X0.here hx rfl (hb hby d1_53) ?_
              show Steps p.tables e below (s₁.setTop (mkF m 55 #[.val (.int p1)] [(.int (10 : Int32)), (.int (p1 - (97 : Int32)))])) _
              refine XS.iadd X0.here hx rfl (hb hby d1_55) rfl ?_
              show Steps p.tables e below (s₁.setTop (mkF m 56 #[.val (.int p1)] [(.int ((p1 - (97 : Int32)) + (10 : Int32)))])) _
              exact kt
            obtain ⟨fs, hr, hrun, hended, hW, hsame⟩ := X0.leave (v := some (.int ((p1 - (97 : Int32)) + (10 : Int32)))) (fun h => by rw [Bd.returns] at h; cases h)
            refine ⟨_, _, pre6 _ ?_, hrun, hended, _, _, rfl, ?_, ⟨_, rfl⟩, hW, hsame.mono (by decide) (by decide)⟩
            · exact retI X0 hx Bd.returns (hb hby d1_56) hr
            · show Q1 Z p1 h0 n0 _ s₁.heap _
              rw [e0]
              exact ⟨by first | rfl | (simp only [r1, if_pos hc3, if_neg hc20, if_pos hc26, if_neg hc40, if_neg hc46]), N0, rfl⟩
      · skip
        have pre7 : ∀ t, Steps p.tables e below (s₁.setTop (mkF m 36 #[.val (.int p1)] [(.int ((p1 - (65 : Int32)) + (10 : Int32)))])) t → Steps p.tables e below (s₁.setTop (entryFrame m #[(.int p1)] 1)) t := fun t kt => by
          refine pre0 t ?_
          refine XS.iloadN X0.here hx rfl (hb hby d1_0) rfl ?_
          show Steps p.tables e below (s₁.setTop (mkF m 1 #[.val (.int p1)] [(.int p1)])) _
          refine XS.bipush X0.here hx rfl (hb hby d1_1) ?_
          show Steps p.tables e below (s₁.setTop (mkF m 3 #[.val (.int p1)] [(.int (48 : Int32)), (.int p1)])) _
          refine XS.icmpYes X0.here hx rfl (pc0 := 3) (pc' := 17) rfl (hb hby d1_3) rfl (tlt hc3).1 (by decide) (by decide) ?_
          show Steps p.tables e below (s₁.setTop (mkF m 17 #[.val (.int p1)] [])) _
          refine XS.iloadN X0.here hx rfl (hb hby d1_17) rfl ?_
          show Steps p.tables e below (s₁.setTop (mkF m 18 #[.val (.int p1)] [(.int p1)])) _
          refine XS.bipush X0.here hx rfl (hb hby d1_18) ?_
          show Steps p.tables e below (s₁.setTop (mkF m 20 #[.val (.int p1)] [(.int (65 : Int32)), (.int p1)])) _
          refine XS.icmpNo X0.here hx rfl (hb hby d1_20) rfl (flt hc20).1 ?_
          show Steps p.tables e below (s₁.setTop (mkF m 23 #[.val (.int p1)] [])) _
          refine XS.iloadN X0.here hx rfl (hb hby d1_23) rfl ?_
          show Steps p.tables e below (s₁.setTop (mkF m 24 #[.val (.int p1)] [(.int p1)])) _
          refine XS.bipush X0.here hx rfl (hb hby d1_24) ?_
          show Steps p.tables e below (s₁.setTop (mkF m 26 #[.val (.int p1)] [(.int (70 : Int32)), (.int p1)])) _
          refine XS.icmpNo X0.here hx rfl (hb hby d1_26) rfl (flt hc26).2.2.1 ?_
          show Steps p.tables e below (s₁.setTop (mkF m 29 #[.val (.int p1)] [])) _
          refine XS.iloadN X0.here hx rfl (hb hby d1_29) rfl ?_
          show Steps p.tables e below (s₁.setTop (mkF m 30 #[.val (.int p1)] [(.int p1)])) _
          refine XS.bipush X0.here hx rfl (hb hby d1_30) ?_
          show Steps p.tables e below (s₁.setTop (mkF m 32 #[.val (.int p1)] [(.int (65 : Int32)), (.int p1)])) _
          refine XS.isub X0.here hx rfl (hb hby d1_32) rfl ?_
          show Steps p.tables e below (s₁.setTop (mkF m 33 #[.val (.int p1)] [(.int (p1 - (65 : Int32)))])) _
          refine XS.bipush X0.here hx rfl (hb hby d1_33) ?_
          show Steps p.tables e below (s₁.setTop (mkF m 35 #[.val (.int p1)] [(.int (10 : Int32)), (.int (p1 - (65 : Int32)))])) _
          refine XS.iadd X0.here hx rfl (hb hby d1_35) rfl ?_
          show Steps p.tables e below (s₁.setTop (mkF m 36 #[.val (.int p1)] [(.int ((p1 - (65 : Int32)) + (10 : Int32)))])) _
          exact kt
        obtain ⟨fs, hr, hrun, hended, hW, hsame⟩ := X0.leave (v := some (.int ((p1 - (65 : Int32)) + (10 : Int32)))) (fun h => by rw [Bd.returns] at h; cases h)
        refine ⟨_, _, pre7 _ ?_, hrun, hended, _, _, rfl, ?_, ⟨_, rfl⟩, hW, hsame.mono (by decide) (by decide)⟩
        · exact retI X0 hx Bd.returns (hb hby d1_36) hr
        · show Q1 Z p1 h0 n0 _ s₁.heap _
          rw [e0]
          exact ⟨by first | rfl | (simp only [r1, if_pos hc3, if_neg hc20, if_neg hc26]), N0, rfl⟩
  · skip
    by_cases hc9 : (57 : Int32) < p1
    · skip
      by_cases hc20 : p1 < (65 : Int32)
      · skip
        by_cases hc40 : p1 < (97 : Int32)
        · skip
          have pre8 : ∀ t, Steps p.tables e below (s₁.setTop (mkF m 58 #[.val (.int p1)] [(.int (-1 : Int32))])) t → Steps p.tables e below (s₁.setTop (entryFrame m #[(.int p1)] 1)) t := fun t kt => by
            refine pre0 t ?_
            refine XS.iloadN X0.here hx rfl (hb hby d1_0) rfl ?_
            show Steps p.tables e below (s₁.setTop (mkF m 1 #[.val (.int p1)] [(.int p1)])) _
            refine XS.bipush X0.here hx rfl (hb hby d1_1) ?_
            show Steps p.tables e below (s₁.setTop (mkF m 3 #[.val (.int p1)] [(.int (48 : Int32)), (.int p1)])) _
            refine XS.icmpNo X0.here hx rfl (hb hby d1_3) rfl (flt hc3).1 ?_
            show Steps p.tables e below (s₁.setTop (mkF m 6 #[.val (.int p1)] [])) _
            refine XS.iloadN X0.here hx rfl (hb hby d1_6) rfl ?_
            show Steps p.tables e below (s₁.setTop (mkF m 7 #[.val (.int p1)] [(.int p1)])) _
            refine XS.bipush X0.here hx rfl (hb hby d1_7) ?_
            show Steps p.tables e below (s₁.setTop (mkF m 9 #[.val (.int p1)] [(.int (57 : Int32)), (.int p1)])) _
            refine XS.icmpYes X0.here hx rfl (pc0 := 9) (pc' := 17) rfl (hb hby d1_9) rfl (tlt hc9).2.2.1 (by decide) (by decide) ?_
            show Steps p.tables e below (s₁.setTop (mkF m 17 #[.val (.int p1)] [])) _
            refine XS.iloadN X0.here hx rfl (hb hby d1_17) rfl ?_
            show Steps p.tables e below (s₁.setTop (mkF m 18 #[.val (.int p1)] [(.int p1)])) _
            refine XS.bipush X0.here hx rfl (hb hby d1_18) ?_
            show Steps p.tables e below (s₁.setTop (mkF m 20 #[.val (.int p1)] [(.int (65 : Int32)), (.int p1)])) _
            refine XS.icmpYes X0.here hx rfl (pc0 := 20) (pc' := 37) rfl (hb hby d1_20) rfl (tlt hc20).1 (by decide) (by decide) ?_
            show Steps p.tables e below (s₁.setTop (mkF m 37 #[.val (.int p1)] [])) _
            refine XS.iloadN X0.here hx rfl (hb hby d1_37) rfl ?_
            show Steps p.tables e below (s₁.setTop (mkF m 38 #[.val (.int p1)] [(.int p1)])) _
            refine XS.bipush X0.here hx rfl (hb hby d1_38) ?_
            show Steps p.tables e below (s₁.setTop (mkF m 40 #[.val (.int p1)] [(.int (97 : Int32)), (.int p1)])) _
            refine XS.icmpYes X0.here hx rfl (pc0 := 40) (pc' := 57) rfl (hb hby d1_40) rfl (tlt hc40).1 (by decide) (by decide) ?_
            show Steps p.tables e below (s₁.setTop (mkF m 57 #[.val (.int p1)] [])) _
            refine XS.iconst X0.here hx rfl (hb hby d1_57) ?_
            show Steps p.tables e below (s₁.setTop (mkF m 58 #[.val (.int p1)] [(.int (-1 : Int32))])) _
            exact kt
          obtain ⟨fs, hr, hrun, hended, hW, hsame⟩ := X0.leave (v := some (.int (-1 : Int32))) (fun h => by rw [Bd.returns] at h; cases h)
          refine ⟨_, _, pre8 _ ?_, hrun, hended, _, _, rfl, ?_, ⟨_, rfl⟩, hW, hsame.mono (by decide) (by decide)⟩
          · exact retI X0 hx Bd.returns (hb hby d1_58) hr
          · show Q1 Z p1 h0 n0 _ s₁.heap _
            rw [e0]
            exact ⟨by first | rfl | (simp only [r1, if_neg hc3, if_pos hc9, if_pos hc20, if_pos hc40]), N0, rfl⟩
        · skip
          by_cases hc46 : (102 : Int32) < p1
          · skip
            have pre9 : ∀ t, Steps p.tables e below (s₁.setTop (mkF m 58 #[.val (.int p1)] [(.int (-1 : Int32))])) t → Steps p.tables e below (s₁.setTop (entryFrame m #[(.int p1)] 1)) t := fun t kt => by
              refine pre0 t ?_
              refine XS.iloadN X0.here hx rfl (hb hby d1_0) rfl ?_
              show Steps p.tables e below (s₁.setTop (mkF m 1 #[.val (.int p1)] [(.int p1)])) _
              refine XS.bipush X0.here hx rfl (hb hby d1_1) ?_
              show Steps p.tables e below (s₁.setTop (mkF m 3 #[.val (.int p1)] [(.int (48 : Int32)), (.int p1)])) _
              refine XS.icmpNo X0.here hx rfl (hb hby d1_3) rfl (flt hc3).1 ?_
              show Steps p.tables e below (s₁.setTop (mkF m 6 #[.val (.int p1)] [])) _
              refine XS.iloadN X0.here hx rfl (hb hby d1_6) rfl ?_
              show Steps p.tables e below (s₁.setTop (mkF m 7 #[.val (.int p1)] [(.int p1)])) _
              refine XS.bipush X0.here hx rfl (hb hby d1_7) ?_
              show Steps p.tables e below (s₁.setTop (mkF m 9 #[.val (.int p1)] [(.int (57 : Int32)), (.int p1)])) _
              refine XS.icmpYes X0.here hx rfl (pc0 := 9) (pc' := 17) rfl (hb hby d1_9) rfl (tlt hc9).2.2.1 (by decide) (by decide) ?_
              show Steps p.tables e below (s₁.setTop (mkF m 17 #[.val (.int p1)] [])) _
              refine XS.iloadN X0.here hx rfl (hb hby d1_17) rfl ?_
              show Steps p.tables e below (s₁.setTop (mkF m 18 #[.val (.int p1)] [(.int p1)])) _
              refine XS.bipush X0.here hx rfl (hb hby d1_18) ?_
              show Steps p.tables e below (s₁.setTop (mkF m 20 #[.val (.int p1)] [(.int (65 : Int32)), (.int p1)])) _
              refine XS.icmpYes X0.here hx rfl (pc0 := 20) (pc' := 37) rfl (hb hby d1_20) rfl (tlt hc20).1 (by decide) (by decide) ?_
              show Steps p.tables e below (s₁.setTop (mkF m 37 #[.val (.int p1)] [])) _
              refine XS.iloadN X0.here hx rfl (hb hby d1_37) rfl ?_
              show Steps p.tables e below (s₁.setTop (mkF m 38 #[.val (.int p1)] [(.int p1)])) _
              refine XS.bipush X0.here hx rfl (hb hby d1_38) ?_
              show Steps p.tables e below (s₁.setTop (mkF m 40 #[.val (.int p1)] [(.int (97 : Int32)), (.int p1)])) _
              refine XS.icmpNo X0.here hx rfl (hb hby d1_40) rfl (flt hc40).1 ?_
              show Steps p.tables e below (s₁.setTop (mkF m 43 #[.val (.int p1)] [])) _
              refine XS.iloadN X0.here hx rfl (hb hby d1_43) rfl ?_
              show Steps p.tables e below (s₁.setTop (mkF m 44 #[.val (.int p1)] [(.int p1)])) _
              refine XS.bipush X0.here hx rfl (hb hby d1_44) ?_
              show Steps p.tables e below (s₁.setTop (mkF m 46 #[.val (.int p1)] [(.int (102 : Int32)), (.int p1)])) _
              refine XS.icmpYes X0.here hx rfl (pc0 := 46) (pc' := 57) rfl (hb hby d1_46) rfl (tlt hc46).2.2.1 (by decide) (by decide) ?_
              show Steps p.tables e below (s₁.setTop (mkF m 57 #[.val (.int p1)] [])) _
              refine XS.iconst X0.here hx rfl (hb hby d1_57) ?_
              show Steps p.tables e below (s₁.setTop (mkF m 58 #[.val (.int p1)] [(.int (-1 : Int32))])) _
              exact kt
            obtain ⟨fs, hr, hrun, hended, hW, hsame⟩ := X0.leave (v := some (.int (-1 : Int32))) (fun h => by rw [Bd.returns] at h; cases h)
            refine ⟨_, _, pre9 _ ?_, hrun, hended, _, _, rfl, ?_, ⟨_, rfl⟩, hW, hsame.mono (by decide) (by decide)⟩
            · exact retI X0 hx Bd.returns (hb hby d1_58) hr
            · show Q1 Z p1 h0 n0 _ s₁.heap _
              rw [e0]
              exact ⟨by first | rfl | (simp only [r1, if_neg hc3, if_pos hc9, if_pos hc20, if_neg hc40, if_pos hc46]), N0, rfl⟩
          · skip
            have pre10 : ∀ t, Steps p.tables e below (s₁.setTop (mkF m 56 #[.val (.int p1)] [(.int ((p1 - (97 : Int32)) + (10 : Int32)))])) t → Steps p.tables e below (s₁.setTop (entryFrame m #[(.int p1)] 1)) t := fun t kt => by
              refine pre0 t ?_
              refine XS.iloadN X0.here hx rfl (hb hby d1_0) rfl ?_
              show Steps p.tables e below (s₁.setTop (mkF m 1 #[.val (.int p1)] [(.int p1)])) _
              refine XS.bipush X0.here hx rfl (hb hby d1_1) ?_
              show Steps p.tables e below (s₁.setTop (mkF m 3 #[.val (.int p1)] [(.int (48 : Int32)), (.int p1)])) _
              refine XS.icmpNo X0.here hx rfl (hb hby d1_3) rfl (flt hc3).1 ?_
              show Steps p.tables e below (s₁.setTop (mkF m 6 #[.val (.int p1)] [])) _
              refine XS.iloadN X0.here hx rfl (hb hby d1_6) rfl ?_
              show Steps p.tables e below (s₁.setTop (mkF m 7 #[.val (.int p1)] [(.int p1)])) _
              refine XS.bipush X0.here hx rfl (hb hby d1_7) ?_
              show Steps p.tables e below (s₁.setTop (mkF m 9 #[.val (.int p1)] [(.int (57 : Int32)), (.int p1)])) _
              refine XS.icmpYes X0.here hx rfl (pc0 := 9) (pc' := 17) rfl (hb hby d1_9) rfl (tlt hc9).2.2.1 (by decide) (by decide) ?_
              show Steps p.tables e below (s₁.setTop (mkF m 17 #[.val (.int p1)] [])) _
              refine XS.iloadN X0.here hx rfl (hb hby d1_17) rfl ?_
              show Steps p.tables e below (s₁.setTop (mkF m 18 #[.val (.int p1)] [(.int p1)])) _
              refine XS.bipush X0.here hx rfl (hb hby d1_18) ?_
              show Steps p.tables e below (s₁.setTop (mkF m 20 #[.val (.int p1)] [(.int (65 : Int32)), (.int p1)])) _
              refine XS.icmpYes X0.here hx rfl (pc0 := 20) (pc' := 37) rfl (hb hby d1_20) rfl (tlt hc20).1 (by decide) (by decide) ?_
              show Steps p.tables e below (s₁.setTop (mkF m 37 #[.val (.int p1)] [])) _
              refine XS.iloadN X0.here hx rfl (hb hby d1_37) rfl ?_
              show Steps p.tables e below (s₁.setTop (mkF m 38 #[.val (.int p1)] [(.int p1)])) _
              refine XS.bipush X0.here hx rfl (hb hby d1_38) ?_
              show Steps p.tables e below (s₁.setTop (mkF m 40 #[.val (.int p1)] [(.int (97 : Int32)), (.int p1)])) _
              refine XS.icmpNo X0.here hx rfl (hb hby d1_40) rfl (flt hc40).1 ?_
              show Steps p.tables e below (s₁.setTop (mkF m 43 #[.val (.int p1)] [])) _
              refine XS.iloadN X0.here hx rfl (hb hby d1_43) rfl ?_
              show Steps p.tables e below (s₁.setTop (mkF m 44 #[.val (.int p1)] [(.int p1)])) _
              refine XS.bipush X0.here hx rfl (hb hby d1_44) ?_
              show Steps p.tables e below (s₁.setTop (mkF m 46 #[.val (.int p1)] [(.int (102 : Int32)), (.int p1)])) _
              refine XS.icmpNo X0.here hx rfl (hb hby d1_46) rfl (flt hc46).2.2.1 ?_
              show Steps p.tables e below (s₁.setTop (mkF m 49 #[.val (.int p1)] [])) _
              refine XS.iloadN X0.here hx rfl (hb hby d1_49) rfl ?_
              show Steps p.tables e below (s₁.setTop (mkF m 50 #[.val (.int p1)] [(.int p1)])) _
              refine XS.bipush X0.here hx rfl (hb hby d1_50) ?_
              show Steps p.tables e below (s₁.setTop (mkF m 52 #[.val (.int p1)] [(.int (97 : Int32)), (.int p1)])) _
              refine XS.isub X0.here hx rfl (hb hby d1_52) rfl ?_
              show Steps p.tables e below (s₁.setTop (mkF m 53 #[.val (.int p1)] [(.int (p1 - (97 : Int32)))])) _
              refine XS.bipush X0.here hx rfl (hb hby d1_53) ?_
              show Steps p.tables e below (s₁.setTop (mkF m 55 #[.val (.int p1)] [(.int (10 : Int32)), (.int (p1 - (97 : Int32)))])) _
              refine XS.iadd X0.here hx rfl (hb hby d1_55) rfl ?_
              show Steps p.tables e below (s₁.setTop (mkF m 56 #[.val (.int p1)] [(.int ((p1 - (97 : Int32)) + (10 : Int32)))])) _
              exact kt
            obtain ⟨fs, hr, hrun, hended, hW, hsame⟩ := X0.leave (v := some (.int ((p1 - (97 : Int32)) + (10 : Int32)))) (fun h => by rw [Bd.returns] at h; cases h)
            refine ⟨_, _, pre10 _ ?_, hrun, hended, _, _, rfl, ?_, ⟨_, rfl⟩, hW, hsame.mono (by decide) (by decide)⟩
            · exact retI X0 hx Bd.returns (hb hby d1_56) hr
            · show Q1 Z p1 h0 n0 _ s₁.heap _
              rw [e0]
              exact ⟨by first | rfl | (simp only [r1, if_neg hc3, if_pos hc9, if_pos hc20, if_neg hc40, if_neg hc46]), N0, rfl⟩
      · skip
        by_cases hc26 : (70 : Int32) < p1
        · skip
          by_cases hc40 : p1 < (97 : Int32)
          · skip
            have pre11 : ∀ t, Steps p.tables e below (s₁.setTop (mkF m 58 #[.val (.int p1)] [(.int (-1 : Int32))])) t → Steps p.tables e below (s₁.setTop (entryFrame m #[(.int p1)] 1)) t := fun t kt => by
              refine pre0 t ?_
              refine XS.iloadN X0.here hx rfl (hb hby d1_0) rfl ?_
              show Steps p.tables e below (s₁.setTop (mkF m 1 #[.val (.int p1)] [(.int p1)])) _
              refine XS.bipush X0.here hx rfl (hb hby d1_1) ?_
              show Steps p.tables e below (s₁.setTop (mkF m 3 #[.val (.int p1)] [(.int (48 : Int32)), (.int p1)])) _
              refine XS.icmpNo X0.here hx rfl (hb hby d1_3) rfl (flt hc3).1 ?_
              show Steps p.tables e below (s₁.setTop (mkF m 6 #[.val (.int p1)] [])) _
              refine XS.iloadN X0.here hx rfl (hb hby d1_6) rfl ?_
              show Steps p.tables e below (s₁.setTop (mkF m 7 #[.val (.int p1)] [(.int p1)])) _
              refine XS.bipush X0.here hx rfl (hb hby d1_7) ?_
              show Steps p.tables e below (s₁.setTop (mkF m 9 #[.val (.int p1)] [(.int (57 : Int32)), (.int p1)])) _
              refine XS.icmpYes X0.here hx rfl (pc0 := 9) (pc' := 17) rfl (hb hby d1_9) rfl (tlt hc9).2.2.1 (by decide) (by decide) ?_
              show Steps p.tables e below (s₁.setTop (mkF m 17 #[.val (.int p1)] [])) _
              refine XS.iloadN X0.here hx rfl (hb hby d1_17) rfl ?_
              show Steps p.tables e below (s₁.setTop (mkF m 18 #[.val (.int p1)] [(.int p1)])) _
              refine XS.bipush X0.here hx rfl (hb hby d1_18) ?_
              show Steps p.tables e below (s₁.setTop (mkF m 20 #[.val (.int p1)] [(.int (65 : Int32)), (.int p1)])) _
              refine XS.icmpNo X0.here hx rfl (hb hby d1_20) rfl (flt hc20).1 ?_
              show Steps p.tables e below (s₁.setTop (mkF m 23 #[.val (.int p1)] [])) _
              refine XS.iloadN X0.here hx rfl (hb hby d1_23) rfl ?_
              show Steps p.tables e below (s₁.setTop (mkF m 24 #[.val (.int p1)] [(.int p1)])) _
              refine XS.bipush X0.here hx rfl (hb hby d1_24) ?_
              show Steps p.tables e below (s₁.setTop (mkF m 26 #[.val (.int p1)] [(.int (70 : Int32)), (.int p1)])) _
              refine XS.icmpYes X0.here hx rfl (pc0 := 26) (pc' := 37) rfl (hb hby d1_26) rfl (tlt hc26).2.2.1 (by decide) (by decide) ?_
              show Steps p.tables e below (s₁.setTop (mkF m 37 #[.val (.int p1)] [])) _
              refine XS.iloadN X0.here hx rfl (hb hby d1_37) rfl ?_
              show Steps p.tables e below (s₁.setTop (mkF m 38 #[.val (.int p1)] [(.int p1)])) _
              refine XS.bipush X0.here hx rfl (hb hby d1_38) ?_
              show Steps p.tables e below (s₁.setTop (mkF m 40 #[.val (.int p1)] [(.int (97 : Int32)), (.int p1)])) _
              refine XS.icmpYes X0.here hx rfl (pc0 := 40) (pc' := 57) rfl (hb hby d1_40) rfl (tlt hc40).1 (by decide) (by decide) ?_
              show Steps p.tables e below (s₁.setTop (mkF m 57 #[.val (.int p1)] [])) _
              refine XS.iconst X0.here hx rfl (hb hby d1_57) ?_
              show Steps p.tables e below (s₁.setTop (mkF m 58 #[.val (.int p1)] [(.int (-1 : Int32))])) _
              exact kt
            obtain ⟨fs, hr, hrun, hended, hW, hsame⟩ := X0.leave (v := some (.int (-1 : Int32))) (fun h => by rw [Bd.returns] at h; cases h)
            refine ⟨_, _, pre11 _ ?_, hrun, hended, _, _, rfl, ?_, ⟨_, rfl⟩, hW, hsame.mono (by decide) (by decide)⟩
            · exact retI X0 hx Bd.returns (hb hby d1_58) hr
            · show Q1 Z p1 h0 n0 _ s₁.heap _
              rw [e0]
              exact ⟨by first | rfl | (simp only [r1, if_neg hc3, if_pos hc9, if_neg hc20, if_pos hc26, if_pos hc40]), N0, rfl⟩
          · skip
            by_cases hc46 : (102 : Int32) < p1
            · skip
              have pre12 : ∀ t, Steps p.tables e below (s₁.setTop (mkF m 58 #[.val (.int p1)] [(.int (-1 : Int32))])) t → Steps p.tables e below (s₁.setTop (entryFrame m #[(.int p1)] 1)) t := fun t kt => by
                refine pre0 t ?_
                refine XS.iloadN X0.here hx rfl (hb hby d1_0) rfl ?_
                show Steps p.tables e below (s₁.setTop (mkF m 1 #[.val (.int p1)] [(.int p1)])) _
                refine XS.bipush X0.here hx rfl (hb hby d1_1) ?_
                show Steps p.tables e below (s₁.setTop (mkF m 3 #[.val (.int p1)] [(.int (48 : Int32)), (.int p1)])) _
                refine XS.icmpNo X0.here hx rfl (hb hby d1_3) rfl (flt hc3).1 ?_
                show Steps p.tables e below (s₁.setTop (mkF m 6 #[.val (.int p1)] [])) _
                refine XS.iloadN X0.here hx rfl (hb hby d1_6) rfl ?_
                show Steps p.tables e below (s₁.setTop (mkF m 7 #[.val (.int p1)] [(.int p1)])) _
                refine XS.bipush X0.here hx rfl (hb hby d1_7) ?_
                show Steps p.tables e below (s₁.setTop (mkF m 9 #[.val (.int p1)] [(.int (57 : Int32)), (.int p1)])) _
                refine XS.icmpYes X0.here hx rfl (pc0 := 9) (pc' := 17) rfl (hb hby d1_9) rfl (tlt hc9).2.2.1 (by decide) (by decide) ?_
                show Steps p.tables e below (s₁.setTop (mkF m 17 #[.val (.int p1)] [])) _
                refine XS.iloadN X0.here hx rfl (hb hby d1_17) rfl ?_
                show Steps p.tables e below (s₁.setTop (mkF m 18 #[.val (.int p1)] [(.int p1)])) _
                refine XS.bipush X0.here hx rfl (hb hby d1_18) ?_
                show Steps p.tables e below (s₁.setTop (mkF m 20 #[.val (.int p1)] [(.int (65 : Int32)), (.int p1)])) _
                refine XS.icmpNo X0.here hx rfl (hb hby d1_20) rfl (flt hc20).1 ?_
                show Steps p.tables e below (s₁.setTop (mkF m 23 #[.val (.int p1)] [])) _
                refine XS.iloadN X0.here hx rfl (hb hby d1_23) rfl ?_
                show Steps p.tables e below (s₁.setTop (mkF m 24 #[.val (.int p1)] [(.int p1)])) _
                refine XS.bipush X0.here hx rfl (hb hby d1_24) ?_
                show Steps p.tables e below (s₁.setTop (mkF m 26 #[.val (.int p1)] [(.int (70 : Int32)), (.int p1)])) _
                refine XS.icmpYes X0.here hx rfl (pc0 := 26) (pc' := 37) rfl (hb hby d1_26) rfl (tlt hc26).2.2.1 (by decide) (by decide) ?_
                show Steps p.tables e below (s₁.setTop (mkF m 37 #[.val (.int p1)] [])) _
                refine XS.iloadN X0.here hx rfl (hb hby d1_37) rfl ?_
                show Steps p.tables e below (s₁.setTop (mkF m 38 #[.val (.int p1)] [(.int p1)])) _
                refine XS.bipush X0.here hx rfl (hb hby d1_38) ?_
                show Steps p.tables e below (s₁.setTop (mkF m 40 #[.val (.int p1)] [(.int (97 : Int32)), (.int p1)])) _
                refine XS.icmpNo X0.here hx rfl (hb hby d1_40) rfl (flt hc40).1 ?_
                show Steps p.tables e below (s₁.setTop (mkF m 43 #[.val (.int p1)] [])) _
                refine XS.iloadN X0.here hx rfl (hb hby d1_43) rfl ?_
                show Steps p.tables e below (s₁.setTop (mkF m 44 #[.val (.int p1)] [(.int p1)])) _
                refine XS.bipush X0.here hx rfl (hb hby d1_44) ?_
                show Steps p.tables e below (s₁.setTop (mkF m 46 #[.val (.int p1)] [(.int (102 : Int32)), (.int p1)])) _
                refine XS.icmpYes X0.here hx rfl (pc0 := 46) (pc' := 57) rfl (hb hby d1_46) rfl (tlt hc46).2.2.1 (by decide) (by decide) ?_
                show Steps p.tables e below (s₁.setTop (mkF m 57 #[.val (.int p1)] [])) _
                refine XS.iconst X0.here hx rfl (hb hby d1_57) ?_
                show Steps p.tables e below (s₁.setTop (mkF m 58 #[.val (.int p1)] [(.int (-1 : Int32))])) _
                exact kt
              obtain ⟨fs, hr, hrun, hended, hW, hsame⟩ := X0.leave (v := some (.int (-1 : Int32))) (fun h => by rw [Bd.returns] at h; cases h)
              refine ⟨_, _, pre12 _ ?_, hrun, hended, _, _, rfl, ?_, ⟨_, rfl⟩, hW, hsame.mono (by decide) (by decide)⟩
              · exact retI X0 hx Bd.returns (hb hby d1_58) hr
              · show Q1 Z p1 h0 n0 _ s₁.heap _
                rw [e0]
                exact ⟨by first | rfl | (simp only [r1, if_neg hc3, if_pos hc9, if_neg hc20, if_pos hc26, if_neg hc40, if_pos hc46]), N0, rfl⟩
            · skip
              have pre13 : ∀ t, Steps p.tables e below (s₁.setTop (mkF m 56 #[.val (.int p1)] [(.int ((p1 - (97 : Int32)) + (10 : Int32)))])) t → Steps p.tables e below (s₁.setTop (entryFrame m #[(.int p1)] 1)) t := fun t kt => by
                refine pre0 t ?_
                refine XS.iloadN X0.here hx rfl (hb hby d1_0) rfl ?_
                show Steps p.tables e below (s₁.setTop (mkF m 1 #[.val (.int p1)] [(.int p1)])) _
                refine XS.bipush X0.here hx rfl (hb hby d1_1) ?_
                show Steps p.tables e below (s₁.setTop (mkF m 3 #[.val (.int p1)] [(.int (48 : Int32)), (.int p1)])) _
                refine XS.icmpNo X0.here hx rfl (hb hby d1_3) rfl (flt hc3).1 ?_
                show Steps p.tables e below (s₁.setTop (mkF m 6 #[.val (.int p1)] [])) _
                refine XS.iloadN X0.here hx rfl (hb hby d1_6) rfl ?_
                show Steps p.tables e below (s₁.setTop (mkF m 7 #[.val (.int p1)] [(.int p1)])) _
                refine XS.bipush X0.here hx rfl (hb hby d1_7) ?_
                show Steps p.tables e below (s₁.setTop (mkF m 9 #[.val (.int p1)] [(.int (57 : Int32)), (.int p1)])) _
                refine XS.icmpYes X0.here hx rfl (pc0 := 9) (pc' := 17) rfl (hb hby d1_9) rfl (tlt hc9).2.2.1 (by decide) (by decide) ?_
                show Steps p.tables e below (s₁.setTop (mkF m 17 #[.val (.int p1)] [])) _
                refine XS.iloadN X0.here hx rfl (hb hby d1_17) rfl ?_
                show Steps p.tables e below (s₁.setTop (mkF m 18 #[.val (.int p1)] [(.int p1)])) _
                refine XS.bipush X0.here hx rfl (hb hby d1_18) ?_
                show Steps p.tables e below (s₁.setTop (mkF m 20 #[.val (.int p1)] [(.int (65 : Int32)), (.int p1)])) _
                refine XS.icmpNo X0.here hx rfl (hb hby d1_20) rfl (flt hc20).1 ?_
                show Steps p.tables e below (s₁.setTop (mkF m 23 #[.val (.int p1)] [])) _
                refine XS.iloadN X0.here hx rfl (hb hby d1_23) rfl ?_
                show Steps p.tables e below (s₁.setTop (mkF m 24 #[.val (.int p1)] [(.int p1)])) _
                refine XS.bipush X0.here hx rfl (hb hby d1_24) ?_
                show Steps p.tables e below (s₁.setTop (mkF m 26 #[.val (.int p1)] [(.int (70 : Int32)), (.int p1)])) _
                refine XS.icmpYes X0.here hx rfl (pc0 := 26) (pc' := 37) rfl (hb hby d1_26) rfl (tlt hc26).2.2.1 (by decide) (by decide) ?_
                show Steps p.tables e below (s₁.setTop (mkF m 37 #[.val (.int p1)] [])) _
                refine XS.iloadN X0.here hx rfl (hb hby d1_37) rfl ?_
                show Steps p.tables e below (s₁.setTop (mkF m 38 #[.val (.int p1)] [(.int p1)])) _
                refine XS.bipush X0.here hx rfl (hb hby d1_38) ?_
                show Steps p.tables e below (s₁.setTop (mkF m 40 #[.val (.int p1)] [(.int (97 : Int32)), (.int p1)])) _
                refine XS.icmpNo X0.here hx rfl (hb hby d1_40) rfl (flt hc40).1 ?_
                show Steps p.tables e below (s₁.setTop (mkF m 43 #[.val (.int p1)] [])) _
                refine XS.iloadN X0.here hx rfl (hb hby d1_43) rfl ?_
                show Steps p.tables e below (s₁.setTop (mkF m 44 #[.val (.int p1)] [(.int p1)])) _
                refine XS.bipush X0.here hx rfl (hb hby d1_44) ?_
                show Steps p.tables e below (s₁.setTop (mkF m 46 #[.val (.int p1)] [(.int (102 : Int32)), (.int p1)])) _
                refine XS.icmpNo X0.here hx rfl (hb hby d1_46) rfl (flt hc46).2.2.1 ?_
                show Steps p.tables e below (s₁.setTop (mkF m 49 #[.val (.int p1)] [])) _
                refine XS.iloadN X0.here hx rfl (hb hby d1_49) rfl ?_
                show Steps p.tables e below (s₁.setTop (mkF m 50 #[.val (.int p1)] [(.int p1)])) _
                refine XS.bipush X0.here hx rfl (hb hby d1_50) ?_
                show Steps p.tables e below (s₁.setTop (mkF m 52 #[.val (.int p1)] [(.int (97 : Int32)), (.int p1)])) _
                refine XS.isub X0.here hx rfl (hb hby d1_52) rfl ?_
                show Steps p.tables e below (s₁.setTop (mkF m 53 #[.val (.int p1)] [(.int (p1 - (97 : Int32)))])) _
                refine XS.bipush X0.here hx rfl (hb hby d1_53) ?_
                show Steps p.tables e below (s₁.setTop (mkF m 55 #[.val (.int p1)] [(.int (10 : Int32)), (.int (p1 - (97 : Int32)))])) _
                refine XS.iadd X0.here hx rfl (hb hby d1_55) rfl ?_
                show Steps p.tables e below (s₁.setTop (mkF m 56 #[.val (.int p1)] [(.int ((p1 - (97 : Int32)) + (10 : Int32)))])) _
                exact kt
              obtain ⟨fs, hr, hrun, hended, hW, hsame⟩ := X0.leave (v := some (.int ((p1 - (97 : Int32)) + (10 : Int32)))) (fun h => by rw [Bd.returns] at h; cases h)
              refine ⟨_, _, pre13 _ ?_, hrun, hended, _, _, rfl, ?_, ⟨_, rfl⟩, hW, hsame.mono (by decide) (by decide)⟩
              · exact retI X0 hx Bd.returns (hb hby d1_56) hr
              · show Q1 Z p1 h0 n0 _ s₁.heap _
                rw [e0]
                exact ⟨by first | rfl | (simp only [r1, if_neg hc3, if_pos hc9, if_neg hc20, if_pos hc26, if_neg hc40, if_neg hc46]), N0, rfl⟩
        · skip
          have pre14 : ∀ t, Steps p.tables e below (s₁.setTop (mkF m 36 #[.val (.int p1)] [(.int ((p1 - (65 : Int32)) + (10 : Int32)))])) t → Steps p.tables e below (s₁.setTop (entryFrame m #[(.int p1)] 1)) t := fun t kt => by
            refine pre0 t ?_
            refine XS.iloadN X0.here hx rfl (hb hby d1_0) rfl ?_
            show Steps p.tables e below (s₁.setTop (mkF m 1 #[.val (.int p1)] [(.int p1)])) _
            refine XS.bipush X0.here hx rfl (hb hby d1_1) ?_
            show Steps p.tables e below (s₁.setTop (mkF m 3 #[.val (.int p1)] [(.int (48 : Int32)), (.int p1)])) _
            refine XS.icmpNo X0.here hx rfl (hb hby d1_3) rfl (flt hc3).1 ?_
            show Steps p.tables e below (s₁.setTop (mkF m 6 #[.val (.int p1)] [])) _
            refine XS.iloadN X0.here hx rfl (hb hby d1_6) rfl ?_
            show Steps p.tables e below (s₁.setTop (mkF m 7 #[.val (.int p1)] [(.int p1)])) _
            refine XS.bipush X0.here hx rfl (hb hby d1_7) ?_
            show Steps p.tables e below (s₁.setTop (mkF m 9 #[.val (.int p1)] [(.int (57 : Int32)), (.int p1)])) _
            refine XS.icmpYes X0.here hx rfl (pc0 := 9) (pc' := 17) rfl (hb hby d1_9) rfl (tlt hc9).2.2.1 (by decide) (by decide) ?_
            show Steps p.tables e below (s₁.setTop (mkF m 17 #[.val (.int p1)] [])) _
            refine XS.iloadN X0.here hx rfl (hb hby d1_17) rfl ?_
            show Steps p.tables e below (s₁.setTop (mkF m 18 #[.val (.int p1)] [(.int p1)])) _
            refine XS.bipush X0.here hx rfl (hb hby d1_18) ?_
            show Steps p.tables e below (s₁.setTop (mkF m 20 #[.val (.int p1)] [(.int (65 : Int32)), (.int p1)])) _
            refine XS.icmpNo X0.here hx rfl (hb hby d1_20) rfl (flt hc20).1 ?_
            show Steps p.tables e below (s₁.setTop (mkF m 23 #[.val (.int p1)] [])) _
            refine XS.iloadN X0.here hx rfl (hb hby d1_23) rfl ?_
            show Steps p.tables e below (s₁.setTop (mkF m 24 #[.val (.int p1)] [(.int p1)])) _
            refine XS.bipush X0.here hx rfl (hb hby d1_24) ?_
            show Steps p.tables e below (s₁.setTop (mkF m 26 #[.val (.int p1)] [(.int (70 : Int32)), (.int p1)])) _
            refine XS.icmpNo X0.here hx rfl (hb hby d1_26) rfl (flt hc26).2.2.1 ?_
            show Steps p.tables e below (s₁.setTop (mkF m 29 #[.val (.int p1)] [])) _
            refine XS.iloadN X0.here hx rfl (hb hby d1_29) rfl ?_
            show Steps p.tables e below (s₁.setTop (mkF m 30 #[.val (.int p1)] [(.int p1)])) _
            refine XS.bipush X0.here hx rfl (hb hby d1_30) ?_
            show Steps p.tables e below (s₁.setTop (mkF m 32 #[.val (.int p1)] [(.int (65 : Int32)), (.int p1)])) _
            refine XS.isub X0.here hx rfl (hb hby d1_32) rfl ?_
            show Steps p.tables e below (s₁.setTop (mkF m 33 #[.val (.int p1)] [(.int (p1 - (65 : Int32)))])) _
            refine XS.bipush X0.here hx rfl (hb hby d1_33) ?_
            show Steps p.tables e below (s₁.setTop (mkF m 35 #[.val (.int p1)] [(.int (10 : Int32)), (.int (p1 - (65 : Int32)))])) _
            refine XS.iadd X0.here hx rfl (hb hby d1_35) rfl ?_
            show Steps p.tables e below (s₁.setTop (mkF m 36 #[.val (.int p1)] [(.int ((p1 - (65 : Int32)) + (10 : Int32)))])) _
            exact kt
          obtain ⟨fs, hr, hrun, hended, hW, hsame⟩ := X0.leave (v := some (.int ((p1 - (65 : Int32)) + (10 : Int32)))) (fun h => by rw [Bd.returns] at h; cases h)
          refine ⟨_, _, pre14 _ ?_, hrun, hended, _, _, rfl, ?_, ⟨_, rfl⟩, hW, hsame.mono (by decide) (by decide)⟩
          · exact retI X0 hx Bd.returns (hb hby d1_36) hr
          · show Q1 Z p1 h0 n0 _ s₁.heap _
            rw [e0]
            exact ⟨by first | rfl | (simp only [r1, if_neg hc3, if_pos hc9, if_neg hc20, if_neg hc26]), N0, rfl⟩
    · skip
      have pre15 : ∀ t, Steps p.tables e below (s₁.setTop (mkF m 16 #[.val (.int p1)] [(.int (p1 - (48 : Int32)))])) t → Steps p.tables e below (s₁.setTop (entryFrame m #[(.int p1)] 1)) t := fun t kt => by
        refine pre0 t ?_
        refine XS.iloadN X0.here hx rfl (hb hby d1_0) rfl ?_
        show Steps p.tables e below (s₁.setTop (mkF m 1 #[.val (.int p1)] [(.int p1)])) _
        refine XS.bipush X0.here hx rfl (hb hby d1_1) ?_
        show Steps p.tables e below (s₁.setTop (mkF m 3 #[.val (.int p1)] [(.int (48 : Int32)), (.int p1)])) _
        refine XS.icmpNo X0.here hx rfl (hb hby d1_3) rfl (flt hc3).1 ?_
        show Steps p.tables e below (s₁.setTop (mkF m 6 #[.val (.int p1)] [])) _
        refine XS.iloadN X0.here hx rfl (hb hby d1_6) rfl ?_
        show Steps p.tables e below (s₁.setTop (mkF m 7 #[.val (.int p1)] [(.int p1)])) _
        refine XS.bipush X0.here hx rfl (hb hby d1_7) ?_
        show Steps p.tables e below (s₁.setTop (mkF m 9 #[.val (.int p1)] [(.int (57 : Int32)), (.int p1)])) _
        refine XS.icmpNo X0.here hx rfl (hb hby d1_9) rfl (flt hc9).2.2.1 ?_
        show Steps p.tables e below (s₁.setTop (mkF m 12 #[.val (.int p1)] [])) _
        refine XS.iloadN X0.here hx rfl (hb hby d1_12) rfl ?_
        show Steps p.tables e below (s₁.setTop (mkF m 13 #[.val (.int p1)] [(.int p1)])) _
        refine XS.bipush X0.here hx rfl (hb hby d1_13) ?_
        show Steps p.tables e below (s₁.setTop (mkF m 15 #[.val (.int p1)] [(.int (48 : Int32)), (.int p1)])) _
        refine XS.isub X0.here hx rfl (hb hby d1_15) rfl ?_
        show Steps p.tables e below (s₁.setTop (mkF m 16 #[.val (.int p1)] [(.int (p1 - (48 : Int32)))])) _
        exact kt
      obtain ⟨fs, hr, hrun, hended, hW, hsame⟩ := X0.leave (v := some (.int (p1 - (48 : Int32)))) (fun h => by rw [Bd.returns] at h; cases h)
      refine ⟨_, _, pre15 _ ?_, hrun, hended, _, _, rfl, ?_, ⟨_, rfl⟩, hW, hsame.mono (by decide) (by decide)⟩
      · exact retI X0 hx Bd.returns (hb hby d1_16) hr
      · show Q1 Z p1 h0 n0 _ s₁.heap _
        rw [e0]
        exact ⟨by first | rfl | (simp only [r1, if_neg hc3, if_neg hc9]), N0, rfl⟩
theorem d6_0 : decode jdk_41_method_11_code 0 = .ok (.iload_n 0, 1) := by decide +kernel
theorem d6_1 : decode jdk_41_method_11_code 1 = .ok (.ifCond .lt 8, 3) := by decide +kernel
theorem d6_4 : decode jdk_41_method_11_code 4 = .ok (.iload_n 0, 1) := by decide +kernel
theorem d6_5 : decode jdk_41_method_11_code 5 = .ok (.iload_n 1, 1) := by decide +kernel
theorem d6_6 : decode jdk_41_method_11_code 6 = .ok (.if_icmp .lt 10, 3) := by decide +kernel
theorem d6_16 : decode jdk_41_method_11_code 16 = .ok (.iload_n 0, 1) := by decide +kernel
theorem d6_17 : decode jdk_41_method_11_code 17 = .ok (.ireturn, 1) := by decide +kernel
theorem pn_jdk_internal_util_Preconditions : plainName "jdk/internal/util/Preconditions" = true := by first | (simp [plainName, overriddenIn]; done) | decide +kernel
theorem ef_6 (m : MethodId) (x0 : Int32) (x1 : Int32) (x2 : Value) (hx2 : x2.isRef = true) : entryFrame m #[(.int x0), (.int x1), x2] 3 = mkF m 0 #[.val (.int x0), .val (.int x1), .val x2] [] := by rcases ref_cases hx2 with rfl | ⟨_, rfl⟩ <;> first | (simp [entryFrame, mkF, argsToLocals, Value.category]; done) | rfl
def Q6 (Z : State) (p1 : Int32) (p2 : Int32) (x3 : Value) (h0 : Heap) (n0 : Nat) (v : Option Value) (h : Heap) (L : List Loc) : Prop := v = some (.int p1) ∧ Fr n0 L ∧ h = h0
set_option maxRecDepth 65536 in
set_option maxHeartbeats 40000000 in
theorem rm6 (l : Launch) (Z : State) (a0 : Array Value) (hw : ∀ d ∈ tables_1, d.before a0 Z = true) (ws : List Jvm.Cond) (p1 : Int32) (p2 : Int32) (x3 : Value) (h0 : Heap) (n0 : Nat) (Z0 : n0 ≤ h0.size) (hA : ¬ (p1 < (0 : Int32))) (hB : p1 < p2) (hr_x3 : x3.isRef = true) :
    MetFree l (⟨"jdk/internal/util/Preconditions", "checkIndex", "(IILjava/util/function/BiFunction;)I"⟩ : MethodName) (head1 (Jvm.Cond.code (⟨"jdk/internal/util/Preconditions", "checkIndex", "(IILjava/util/function/BiFunction;)I"⟩ : MethodName) jdk_41_method_11_code 3 (some .int) :: ws) ({ frames := 0, cells := 0, slots := 0, locals := 0 } : Room)) (fun a U => a = #[(.int p1), (.int p2), x3] ∧ Z.Warmed39 U.vm ∧ U.heap = h0) (fun _ _ _ _ _ => True) (fun _ U o U' => ∃ v L, o = .returned v ∧ Q6 Z p1 p2 x3 h0 n0 v U'.heap L ∧ FrameEnd U o U' L ({ frames := 0, cells := 0, slots := 0, locals := 0 } : Room).cells ({ frames := 0, cells := 0, slots := 0, locals := 0 } : Room).slots) := by
  refine MetFree.of_bodySF (plainFor_of_name pn_jdk_internal_util_Preconditions) hisR ?_
  intro p e s m args below meth c s₁ Bd hml0 hP hK
  obtain ⟨rfl, hZ, hh⟩ := hP
  have hx := Bd.exec
  have hby := Bd.bytes
  have hml : c.maxLocals = 3 := hml0
  have hown : s.vm.findClass "jdk/internal/util/Preconditions" = some m.cls := findClass_of_methodNamed Bd.named
  have hnm := (name_of_methodNamed Bd.named Bd.method).1
  have X0 : Stand p l e ({ frames := 0, cells := 0, slots := 0, locals := 0 } : Room) s m #[(.int p1), (.int p2), x3] below meth c s₁ [] 0 0 := Stand.of_body Bd
  have e0 : s₁.heap = h0 := by rw [← hh, Bd.state]; rfl
  have N0 := Fr.nil n0
  have pre0 : ∀ t, Steps p.tables e below (s₁.setTop (mkF m 0 #[.val (.int p1), .val (.int p2), .val x3] [])) t → Steps p.tables e below (s₁.setTop (entryFrame m #[(.int p1), (.int p2), x3] 3)) t := fun t k => castTop (ef_6 m p1 p2 x3 hr_x3) k
  have hc1 : ¬ (p1 < (0 : Int32)) := hA
  have hc6 : p1 < p2 := hB
  have pre1 : ∀ t, Steps p.tables e below (s₁.setTop (mkF m 17 #[.val (.int p1), .val (.int p2), .val x3] [(.int p1)])) t → Steps p.tables e below (s₁.setTop (entryFrame m #[(.int p1), (.int p2), x3] 3)) t := fun t kt => by
    refine pre0 t ?_
    refine XS.iloadN X0.here hx rfl (hb hby d6_0) rfl ?_
    show Steps p.tables e below (s₁.setTop (mkF m 1 #[.val (.int p1), .val (.int p2), .val x3] [(.int p1)])) _
    refine XS.ifNo X0.here hx rfl (hb hby d6_1) rfl ((if0 _ _).trans (flt hc1).1) ?_
    show Steps p.tables e below (s₁.setTop (mkF m 4 #[.val (.int p1), .val (.int p2), .val x3] [])) _
    refine XS.iloadN X0.here hx rfl (hb hby d6_4) rfl ?_
    show Steps p.tables e below (s₁.setTop (mkF m 5 #[.val (.int p1), .val (.int p2), .val x3] [(.int p1)])) _
    refine XS.iloadN X0.here hx rfl (hb hby d6_5) rfl ?_
    show Steps p.tables e below (s₁.setTop (mkF m 6 #[.val (.int p1), .val (.int p2), .val x3] [(.int p2), (.int p1)])) _
    refine XS.icmpYes X0.here hx rfl (pc0 := 6) (pc' := 16) rfl (hb hby d6_6) rfl (tlt hc6).1 (by decide) (by decide) ?_
    show Steps p.tables e below (s₁.setTop (mkF m 16 #[.val (.int p1), .val (.int p2), .val x3] [])) _
    refine XS.iloadN X0.here hx rfl (hb hby d6_16) rfl ?_
    show Steps p.tables e below (s₁.setTop (mkF m 17 #[.val (.int p1), .val (.int p2), .val x3] [(.int p1)])) _
    exact kt
  obtain ⟨fs, hr, hrun, hended, hW, hsame⟩ := X0.leave (v := some (.int p1)) (fun h => by rw [Bd.returns] at h; cases h)
  refine ⟨_, _, pre1 _ ?_, hrun, hended, _, _, rfl, ?_, ⟨_, rfl⟩, hW, hsame.mono (by decide) (by decide)⟩
  · exact retI X0 hx Bd.returns (hb hby d6_17) hr
  · show Q6 Z p1 p2 x3 h0 n0 _ s₁.heap _
    rw [e0]
    exact ⟨by first | rfl | (simp only []), N0, rfl⟩
theorem d5_0 : decode jdk_42_method_155_code 0 = .ok (.iload_n 0, 1) := by decide +kernel
theorem d5_1 : decode jdk_42_method_155_code 1 = .ok (.iload_n 1, 1) := by decide +kernel
theorem d5_2 : decode jdk_42_method_155_code 2 = .ok (.getstatic 1053, 3) := by decide +kernel
theorem d5_5 : decode jdk_42_method_155_code 5 = .ok (.invokestatic 1059, 3) := by decide +kernel
theorem d5_8 : decode jdk_42_method_155_code 8 = .ok (.pop, 1) := by decide +kernel
theorem d5_9 : decode jdk_42_method_155_code 9 = .ok (.return_, 1) := by decide +kernel
theorem pn_java_lang_String : plainName "java/lang/String" = true := by first | (simp [plainName, overriddenIn]; done) | decide +kernel
theorem pd__IILjava_util_function_BiFunction__I : parseMethodDescriptor "(IILjava/util/function/BiFunction;)I" = some ⟨[.int, .int, (.object "java/util/function/BiFunction")], some .int⟩ := by decide +kernel
theorem ef_5 (m : MethodId) (x0 : Int32) (x1 : Int32) : entryFrame m #[(.int x0), (.int x1)] 2 = mkF m 0 #[.val (.int x0), .val (.int x1)] [] := by first | (simp [entryFrame, mkF, argsToLocals, Value.category]; done) | rfl
def Q5 (Z : State) (p1 : Int32) (p2 : Int32) (s_SIOOBE : Value) (h0 : Heap) (n0 : Nat) (v : Option Value) (h : Heap) (L : List Loc) : Prop := v = none ∧ Fr n0 L ∧ h = h0
set_option maxRecDepth 65536 in
set_option maxHeartbeats 40000000 in
theorem rm5 (l : Launch) (Z : State) (a0 : Array Value) (hw : ∀ d ∈ tables_1, d.before a0 Z = true) (ws : List Jvm.Cond) (p1 : Int32) (p2 : Int32) (s_SIOOBE : Value) (h0 : Heap) (n0 : Nat) (Z0 : n0 ≤ h0.size) (S_SIOOBE_FORMATTER : Sta Z h0 "jdk/internal/util/Preconditions" "SIOOBE_FORMATTER" "Ljava/util/function/BiFunction;" s_SIOOBE) (hrS : s_SIOOBE.isRef = true) (hA : ¬ (p1 < (0 : Int32))) (hB : p1 < p2) :
    MetFree l (⟨"java/lang/String", "checkIndex", "(II)V"⟩ : MethodName) (head1 (Jvm.Cond.code (⟨"java/lang/String", "checkIndex", "(II)V"⟩ : MethodName) jdk_42_method_155_code 2 none :: ws) ({ frames := 1, cells := 0, slots := 0, locals := 14 } : Room)) (fun a U => a = #[(.int p1), (.int p2)] ∧ Z.Warmed39 U.vm ∧ U.heap = h0) (fun _ _ _ _ _ => True) (fun _ U o U' => ∃ v L, o = .returned v ∧ Q5 Z p1 p2 s_SIOOBE h0 n0 v U'.heap L ∧ FrameEnd U o U' L ({ frames := 1, cells := 0, slots := 0, locals := 14 } : Room).cells ({ frames := 1, cells := 0, slots := 0, locals := 14 } : Room).slots) := by
  refine MetFree.of_bodySF (plainFor_of_name pn_java_lang_String) hisR ?_
  intro p e s m args below meth c s₁ Bd hml0 hP hK
  obtain ⟨rfl, hZ, hh⟩ := hP
  have hx := Bd.exec
  have hby := Bd.bytes
  have hml : c.maxLocals = 2 := hml0
  have hown : s.vm.findClass "java/lang/String" = some m.cls := findClass_of_methodNamed Bd.named
  have hnm := (name_of_methodNamed Bd.named Bd.method).1
  have X0 : Stand p l e ({ frames := 1, cells := 0, slots := 0, locals := 14 } : Room) s m #[(.int p1), (.int p2)] below meth c s₁ [] 0 0 := Stand.of_body Bd
  have e0 : s₁.heap = h0 := by rw [← hh, Bd.state]; rfl
  have N0 := Fr.nil n0
  have pre0 : ∀ t, Steps p.tables e below (s₁.setTop (mkF m 0 #[.val (.int p1), .val (.int p2)] [])) t → Steps p.tables e below (s₁.setTop (entryFrame m #[(.int p1), (.int p2)] 2)) t := fun t k => castTop (ef_5 m p1 p2) k
  have pre1 : ∀ t, Steps p.tables e below (s₁.setTop (mkF m 2 #[.val (.int p1), .val (.int p2)] [(.int p2), (.int p1)])) t → Steps p.tables e below (s₁.setTop (entryFrame m #[(.int p1), (.int p2)] 2)) t := fun t kt => by
    refine pre0 t ?_
    refine XS.iloadN X0.here hx rfl (hb hby d5_0) rfl ?_
    show Steps p.tables e below (s₁.setTop (mkF m 1 #[.val (.int p1), .val (.int p2)] [(.int p1)])) _
    refine XS.iloadN X0.here hx rfl (hb hby d5_1) rfl ?_
    show Steps p.tables e below (s₁.setTop (mkF m 2 #[.val (.int p1), .val (.int p2)] [(.int p2), (.int p1)])) _
    exact kt
  obtain ⟨T2, X2, e2, st2⟩ := getS2 X0 hx hZ hown (host := "") (Or.inl (hw _ (mgE 34 rfl))) Via.refl e0 S_SIOOBE_FORMATTER (g := (mkF m 2 #[.val (.int p1), .val (.int p2)] [(.int p2), (.int p1)])) rfl (hb hby d5_2)
  have pre3 : ∀ t, Steps p.tables e below (T2.setTop (mkF m 5 #[.val (.int p1), .val (.int p2)] [s_SIOOBE, (.int p2), (.int p1)])) t → Steps p.tables e below (s₁.setTop (entryFrame m #[(.int p1), (.int p2)] 2)) t := fun t kt => pre1 t (st2 t kt)
  obtain ⟨_, _, ⟨T4, L4, k4, n4⟩, -, X4, ⟨Lc4, hQ4, l4, y4, z4⟩, st4⟩ := Jvm.LawKit.callS X2 hx (y := (⟨"jdk/internal/util/Preconditions", "checkIndex", "(IILjava/util/function/BiFunction;)I"⟩ : MethodName)) hown (mvT hZ (hw _ (mgE 36 rfl))) (mvT hZ (hw _ (mgE 37 rfl))) (mvT hZ (hw _ (mgE 35 rfl))) (mvT hZ (hw _ (mgE 38 rfl))) (by decide) (backOf (W := 0) (rm6 l Z a0 hw [] p1 p2 s_SIOOBE h0 n0 Z0 (hA) (hB) (hrS)) hZ (hw _ (mgE 38 rfl)) (hw _ (mgE 35 rfl)) (by decide) (by decide)) (g := (mkF m 5 #[.val (.int p1), .val (.int p2)] [s_SIOOBE, (.int p2), (.int p1)])) rfl (by rw [hml]; rfl) (argsL := [(.int p1), (.int p2), s_SIOOBE]) (rest := []) (lenOf pd__IILjava_util_function_BiFunction__I rfl) rfl (by show 2 * 0 + _ ≤ _; exact Nat.le_of_eq rfl) (hb hby d5_5) (fun _ _ => ⟨rfl, e2, (by decide : 0 + 0 ≤ _), (by decide : 0 + 0 ≤ _)⟩)
  dsimp only [Pt.U, Pt.locs, Pt.cells, Pt.slots] at X4 l4 y4 z4 st4 hQ4
  subst l4 y4 z4
  obtain ⟨rfl, N4q, e4⟩ := hQ4
  have pre5 : ∀ t, Steps p.tables e below (T4.setTop (mkF m 8 #[.val (.int p1), .val (.int p2)] [(.int p1)])) t → Steps p.tables e below (s₁.setTop (entryFrame m #[(.int p1), (.int p2)] 2)) t := fun t kt => pre3 t (st4 t kt)
  have N4 := Fr.app N0 N4q
  have pre6 : ∀ t, Steps p.tables e below (T4.setTop (mkF m 9 #[.val (.int p1), .val (.int p2)] [])) t → Steps p.tables e below (s₁.setTop (entryFrame m #[(.int p1), (.int p2)] 2)) t := fun t kt => by
    refine pre5 t ?_
    refine XS.pop X4.here hx rfl (hb hby d5_8) rfl rfl ?_
    show Steps p.tables e below (T4.setTop (mkF m 9 #[.val (.int p1), .val (.int p2)] [])) _
    exact kt
  obtain ⟨fs, hr, hrun, hended, hW, hsame⟩ := X4.leave (v := none) (fun _ => rfl)
  refine ⟨_, _, pre6 _ ?_, hrun, hended, _, _, rfl, ?_, ⟨_, rfl⟩, hW, hsame.mono (by decide) (by decide)⟩
  · exact X4.returnOut hx Bd.returns (hb hby d5_9) hr
  · show Q5 Z p1 p2 s_SIOOBE h0 n0 _ T4.heap _
    rw [e4]
    exact ⟨rfl, N4, rfl⟩
theorem d4_0 : decode jdk_43_method_2_code 0 = .ok (.iload_n 1, 1) := by decide +kernel
theorem d4_1 : decode jdk_43_method_2_code 1 = .ok (.aload_n 0, 1) := by decide +kernel
theorem d4_2 : decode jdk_43_method_2_code 2 = .ok (.arraylength, 1) := by decide +kernel
theorem d4_3 : decode jdk_43_method_2_code 3 = .ok (.invokestatic 9, 3) := by decide +kernel
theorem d4_6 : decode jdk_43_method_2_code 6 = .ok (.aload_n 0, 1) := by decide +kernel
theorem d4_7 : decode jdk_43_method_2_code 7 = .ok (.iload_n 1, 1) := by decide +kernel
theorem d4_8 : decode jdk_43_method_2_code 8 = .ok (.baload, 1) := by decide +kernel
theorem d4_9 : decode jdk_43_method_2_code 9 = .ok (.sipush 255, 3) := by decide +kernel
theorem d4_12 : decode jdk_43_method_2_code 12 = .ok (.iand, 1) := by decide +kernel
theorem d4_13 : decode jdk_43_method_2_code 13 = .ok (.i2c, 1) := by decide +kernel
theorem d4_14 : decode jdk_43_method_2_code 14 = .ok (.ireturn, 1) := by decide +kernel
theorem pn_java_lang_StringLatin1 : plainName "java/lang/StringLatin1" = true := by first | (simp [plainName, overriddenIn]; done) | decide +kernel
theorem pd__II_V : parseMethodDescriptor "(II)V" = some ⟨[.int, .int], none⟩ := by decide +kernel
theorem ef_4 (m : MethodId) (x0 : Addr) (x1 : Int32) : entryFrame m #[(.ref x0), (.int x1)] 2 = mkF m 0 #[.val (.ref x0), .val (.int x1)] [] := by first | (simp [entryFrame, mkF, argsToLocals, Value.category]; done) | rfl
def chr4 (p2 : Int32) (el_a1 : Nat → Int32) : Int32 := (nar .char (((el_a1 (p2).toNatClampNeg) &&& (255 : Int32)).toUInt32.toUInt16.toUInt32.toInt32))
def Q4 (Z : State) (a1 : Addr) (p2 : Int32) (s_SIOOBE : Value) (z_a1 : Int32) (el_a1 : Nat → Int32) (h0 : Heap) (n0 : Nat) (v : Option Value) (h : Heap) (L : List Loc) : Prop := v = some (.int (chr4 p2 el_a1)) ∧ Fr n0 L ∧ h = h0
set_option maxRecDepth 65536 in
set_option maxHeartbeats 40000000 in
theorem rm4 (l : Launch) (Z : State) (a0 : Array Value) (hw : ∀ d ∈ tables_1, d.before a0 Z = true) (ws : List Jvm.Cond) (a1 : Addr) (p2 : Int32) (s_SIOOBE : Value) (z_a1 : Int32) (el_a1 : Nat → Int32) (h0 : Heap) (n0 : Nat) (Z0 : n0 ≤ h0.size) (S_SIOOBE_FORMATTER : Sta Z h0 "jdk/internal/util/Preconditions" "SIOOBE_FORMATTER" "Ljava/util/function/BiFunction;" s_SIOOBE) (V_a1 : Arf Z h0 a1 .byte z_a1 (fun i => (.int (el_a1 i)))) (hrS : s_SIOOBE.isRef = true) (hA : ¬ (p2 < (0 : Int32))) (hB : p2 < z_a1) :
    MetFree l (⟨"java/lang/StringLatin1", "charAt", "([BI)C"⟩ : MethodName) (head1 (Jvm.Cond.code (⟨"java/lang/StringLatin1", "charAt", "([BI)C"⟩ : MethodName) jdk_43_method_2_code 2 (some .char) :: ws) ({ frames := 2, cells := 0, slots := 0, locals := 27 } : Room)) (fun a U => a = #[(.ref a1), (.int p2)] ∧ Z.Warmed39 U.vm ∧ U.heap = h0) (fun _ _ _ _ _ => True) (fun _ U o U' => ∃ v L, o = .returned v ∧ Q4 Z a1 p2 s_SIOOBE z_a1 el_a1 h0 n0 v U'.heap L ∧ FrameEnd U o U' L ({ frames := 2, cells := 0, slots := 0, locals := 27 } : Room).cells ({ frames := 2, cells := 0, slots := 0, locals := 27 } : Room).slots) := by
  refine MetFree.of_bodySF (plainFor_of_name pn_java_lang_StringLatin1) hisR ?_
  intro p e s m args below meth c s₁ Bd hml0 hP hK
  obtain ⟨rfl, hZ, hh⟩ := hP
  have hx := Bd.exec
  have hby := Bd.bytes
  have hml : c.maxLocals = 2 := hml0
  have hown : s.vm.findClass "java/lang/StringLatin1" = some m.cls := findClass_of_methodNamed Bd.named
  have hnm := (name_of_methodNamed Bd.named Bd.method).1
  have X0 : Stand p l e ({ frames := 2, cells := 0, slots := 0, locals := 27 } : Room) s m #[(.ref a1), (.int p2)] below meth c s₁ [] 0 0 := Stand.of_body Bd
  have e0 : s₁.heap = h0 := by rw [← hh, Bd.state]; rfl
  have N0 := Fr.nil n0
  have pre0 : ∀ t, Steps p.tables e below (s₁.setTop (mkF m 0 #[.val (.ref a1), .val (.int p2)] [])) t → Steps p.tables e below (s₁.setTop (entryFrame m #[(.ref a1), (.int p2)] 2)) t := fun t k => castTop (ef_4 m a1 p2) k
  have pre1 : ∀ t, Steps p.tables e below (s₁.setTop (mkF m 2 #[.val (.ref a1), .val (.int p2)] [(.ref a1), (.int p2)])) t → Steps p.tables e below (s₁.setTop (entryFrame m #[(.ref a1), (.int p2)] 2)) t := fun t kt => by
    refine pre0 t ?_
    refine XS.iloadN X0.here hx rfl (hb hby d4_0) rfl ?_
    show Steps p.tables e below (s₁.setTop (mkF m 1 #[.val (.ref a1), .val (.int p2)] [(.int p2)])) _
    refine XS.aloadN X0.here hx rfl (hb hby d4_1) rfl rfl ?_
    show Steps p.tables e below (s₁.setTop (mkF m 2 #[.val (.ref a1), .val (.int p2)] [(.ref a1), (.int p2)])) _
    exact kt
  obtain ⟨cl2, Ar2, S2, Ng2, H2⟩ := id V_a1
  have pre3 : ∀ t, Steps p.tables e below (s₁.setTop (mkF m 3 #[.val (.ref a1), .val (.int p2)] [(.int z_a1), (.int p2)])) t → Steps p.tables e below (s₁.setTop (entryFrame m #[(.ref a1), (.int p2)] 2)) t := fun t kt => by
    refine pre1 t ?_
    refine X0.arraylength hx (by rw [e0]; exact Ar2.1) (State.isArrayOf_alike hZ.alike Ar2.2.1) (g := (mkF m 2 #[.val (.ref a1), .val (.int p2)] [(.ref a1), (.int p2)])) rfl rfl (hb hby d4_2) _ ?_
    rw [len_of S2 Ng2]
    show Steps p.tables e below (s₁.setTop (mkF m 3 #[.val (.ref a1), .val (.int p2)] [(.int z_a1), (.int p2)])) _
    exact kt
  obtain ⟨_, _, ⟨T4, L4, k4, n4⟩, -, X4, ⟨Lc4, hQ4, l4, y4, z4⟩, st4⟩ := Jvm.LawKit.callS X0 hx (y := (⟨"java/lang/String", "checkIndex", "(II)V"⟩ : MethodName)) hown (mvT hZ (hw _ (mgE 31 rfl))) (mvT hZ (hw _ (mgE 32 rfl))) (mvT hZ (hw _ (mgE 1 rfl))) (mvT hZ (hw _ (mgE 33 rfl))) (by decide) (backOf (W := 0) (rm5 l Z a0 hw [] p2 z_a1 s_SIOOBE h0 n0 Z0 S_SIOOBE_FORMATTER (hrS) (hA) (hB)) hZ (hw _ (mgE 33 rfl)) (hw _ (mgE 1 rfl)) (by decide) (by decide)) (g := (mkF m 3 #[.val (.ref a1), .val (.int p2)] [(.int z_a1), (.int p2)])) rfl (by rw [hml]; rfl) (argsL := [(.int p2), (.int z_a1)]) (rest := []) (lenOf pd__II_V rfl) rfl (by show 2 * 0 + _ ≤ _; exact Nat.le_of_eq rfl) (hb hby d4_3) (fun _ _ => ⟨rfl, e0, (by decide : 0 + 0 ≤ _), (by decide : 0 + 0 ≤ _)⟩)
  dsimp only [Pt.U, Pt.locs, Pt.cells, Pt.slots] at X4 l4 y4 z4 st4 hQ4
  subst l4 y4 z4
  obtain ⟨rfl, N4q, e4⟩ := hQ4
  have pre5 : ∀ t, Steps p.tables e below (T4.setTop (mkF m 6 #[.val (.ref a1), .val (.int p2)] [])) t → Steps p.tables e below (s₁.setTop (entryFrame m #[(.ref a1), (.int p2)] 2)) t := fun t kt => pre3 t (st4 t kt)
  have N4 := Fr.app N0 N4q
  have pre6 : ∀ t, Steps p.tables e below (T4.setTop (mkF m 8 #[.val (.ref a1), .val (.int p2)] [(.int p2), (.ref a1)])) t → Steps p.tables e below (s₁.setTop (entryFrame m #[(.ref a1), (.int p2)] 2)) t := fun t kt => by
    refine pre5 t ?_
    refine XS.aloadN X4.here hx rfl (hb hby d4_6) rfl rfl ?_
    show Steps p.tables e below (T4.setTop (mkF m 7 #[.val (.ref a1), .val (.int p2)] [(.ref a1)])) _
    refine XS.iloadN X4.here hx rfl (hb hby d4_7) rfl ?_
    show Steps p.tables e below (T4.setTop (mkF m 8 #[.val (.ref a1), .val (.int p2)] [(.int p2), (.ref a1)])) _
    exact kt
  obtain ⟨cl7, Ar7, S7, Ng7, H7⟩ := id V_a1
  have hj7 : ¬ p2 < 0 ∧ p2 < z_a1 := ⟨hA, hB⟩
  have hin7 := inb_of S7 hj7
  have lt7 : (p2).toNatClampNeg < (z_a1).toNatClampNeg := by rw [← S7]; exact Nat.lt_of_not_le fun q => hin7 (Or.inr q)
  have pre8 : ∀ t, Steps p.tables e below (T4.setTop (mkF m 14 #[.val (.ref a1), .val (.int p2)] [(.int (((el_a1 (p2).toNatClampNeg) &&& (255 : Int32)).toUInt32.toUInt16.toUInt32.toInt32))])) t → Steps p.tables e below (s₁.setTop (entryFrame m #[(.ref a1), (.int p2)] 2)) t := fun t kt => by
    refine pre6 t ?_
    refine X4.baloadBytes hx (j := p2) (v := (.int (el_a1 (p2).toNatClampNeg))) (by rw [e4]; exact Ar7.1) (State.isArrayOf_alike hZ.alike Ar7.2.1) Ar7.2.2 hin7 (H7 _ lt7) (g := (mkF m 8 #[.val (.ref a1), .val (.int p2)] [(.int p2), (.ref a1)])) rfl rfl (hb hby d4_8) _ ?_
    show Steps p.tables e below (T4.setTop (mkF m 9 #[.val (.ref a1), .val (.int p2)] [(.int (el_a1 (p2).toNatClampNeg))])) _
    refine XS.sipush X4.here hx rfl (hb hby d4_9) ?_
    show Steps p.tables e below (T4.setTop (mkF m 12 #[.val (.ref a1), .val (.int p2)] [(.int (255 : Int32)), (.int (el_a1 (p2).toNatClampNeg))])) _
    refine XS.iand X4.here hx rfl (hb hby d4_12) rfl ?_
    show Steps p.tables e below (T4.setTop (mkF m 13 #[.val (.ref a1), .val (.int p2)] [(.int ((el_a1 (p2).toNatClampNeg) &&& (255 : Int32)))])) _
    refine XS.i2c X4.here hx rfl (hb hby d4_13) rfl ?_
    show Steps p.tables e below (T4.setTop (mkF m 14 #[.val (.ref a1), .val (.int p2)] [(.int (((el_a1 (p2).toNatClampNeg) &&& (255 : Int32)).toUInt32.toUInt16.toUInt32.toInt32))])) _
    exact kt
  obtain ⟨fs, hr, hrun, hended, hW, hsame⟩ := X4.leave (v := some (.int (nar .char (((el_a1 (p2).toNatClampNeg) &&& (255 : Int32)).toUInt32.toUInt16.toUInt32.toInt32)))) (fun h => by rw [Bd.returns] at h; cases h)
  refine ⟨_, _, pre8 _ ?_, hrun, hended, _, _, rfl, ?_, ⟨_, rfl⟩, hW, hsame.mono (by decide) (by decide)⟩
  · exact retN X4 hx (t := .char) Bd.returns (by simp) (hb hby d4_14) hr
  · show Q4 Z a1 p2 s_SIOOBE z_a1 el_a1 h0 n0 _ T4.heap _
    rw [e4]
    exact ⟨by first | rfl | (simp only [chr4]), N4, rfl⟩
theorem d3_0 : decode jdk_42_method_154_code 0 = .ok (.getstatic 38, 3) := by decide +kernel
theorem d3_3 : decode jdk_42_method_154_code 3 = .ok (.ifCond .eq 14, 3) := by decide +kernel
theorem d3_6 : decode jdk_42_method_154_code 6 = .ok (.aload_n 0, 1) := by decide +kernel
theorem d3_7 : decode jdk_42_method_154_code 7 = .ok (.getfield 15, 3) := by decide +kernel
theorem d3_10 : decode jdk_42_method_154_code 10 = .ok (.ifCond .ne 7, 3) := by decide +kernel
theorem d3_13 : decode jdk_42_method_154_code 13 = .ok (.iconst 1, 1) := by decide +kernel
theorem d3_14 : decode jdk_42_method_154_code 14 = .ok (.goto 4, 3) := by decide +kernel
theorem d3_18 : decode jdk_42_method_154_code 18 = .ok (.ireturn, 1) := by decide +kernel
theorem ef_3 (m : MethodId) (x0 : Addr) : entryFrame m #[(.ref x0)] 1 = mkF m 0 #[.val (.ref x0)] [] := by first | (simp [entryFrame, mkF, argsToLocals, Value.category]; done) | rfl
def Q3 (Z : State) (a1 : Addr) (s_COMPACT_STRINGS : Int32) (h0 : Heap) (n0 : Nat) (v : Option Value) (h : Heap) (L : List Loc) : Prop := v = some (.int (1 : Int32)) ∧ Fr n0 L ∧ h = h0
set_option maxRecDepth 65536 in
set_option maxHeartbeats 40000000 in
theorem rm3 (l : Launch) (Z : State) (a0 : Array Value) (hw : ∀ d ∈ tables_1, d.before a0 Z = true) (ws : List Jvm.Cond) (a1 : Addr) (s_COMPACT_STRINGS : Int32) (h0 : Heap) (n0 : Nat) (Z0 : n0 ≤ h0.size) (F_coder_a1 : Fld Z h0 a1 "java/lang/String" "coder" "B" (.int (0 : Int32))) (S_COMPACT_STRINGS : Sta Z h0 "java/lang/String" "COMPACT_STRINGS" "Z" (.int s_COMPACT_STRINGS)) (hcs : ¬ (s_COMPACT_STRINGS = (0 : Int32))) :
    MetFree l (⟨"java/lang/String", "isLatin1", "()Z"⟩ : MethodName) (head1 (Jvm.Cond.code (⟨"java/lang/String", "isLatin1", "()Z"⟩ : MethodName) jdk_42_method_154_code 1 (some .boolean) :: ws) ({ frames := 0, cells := 0, slots := 0, locals := 0 } : Room)) (fun a U => a = #[(.ref a1)] ∧ Z.Warmed39 U.vm ∧ U.heap = h0) (fun _ _ _ _ _ => True) (fun _ U o U' => ∃ v L, o = .returned v ∧ Q3 Z a1 s_COMPACT_STRINGS h0 n0 v U'.heap L ∧ FrameEnd U o U' L ({ frames := 0, cells := 0, slots := 0, locals := 0 } : Room).cells ({ frames := 0, cells := 0, slots := 0, locals := 0 } : Room).slots) := by
  refine MetFree.of_bodySF (plainFor_of_name pn_java_lang_String) hisR ?_
  intro p e s m args below meth c s₁ Bd hml0 hP hK
  obtain ⟨rfl, hZ, hh⟩ := hP
  have hx := Bd.exec
  have hby := Bd.bytes
  have hml : c.maxLocals = 1 := hml0
  have hown : s.vm.findClass "java/lang/String" = some m.cls := findClass_of_methodNamed Bd.named
  have hnm := (name_of_methodNamed Bd.named Bd.method).1
  have X0 : Stand p l e ({ frames := 0, cells := 0, slots := 0, locals := 0 } : Room) s m #[(.ref a1)] below meth c s₁ [] 0 0 := Stand.of_body Bd
  have e0 : s₁.heap = h0 := by rw [← hh, Bd.state]; rfl
  have N0 := Fr.nil n0
  have pre0 : ∀ t, Steps p.tables e below (s₁.setTop (mkF m 0 #[.val (.ref a1)] [])) t → Steps p.tables e below (s₁.setTop (entryFrame m #[(.ref a1)] 1)) t := fun t k => castTop (ef_3 m a1) k
  obtain ⟨T1, X1, e1, st1⟩ := getS2 X0 hx hZ hown (host := "") (Or.inl (hw _ (mgE 24 rfl))) Via.refl e0 S_COMPACT_STRINGS (g := (mkF m 0 #[.val (.ref a1)] [])) rfl (hb hby d3_0)
  have pre2 : ∀ t, Steps p.tables e below (T1.setTop (mkF m 3 #[.val (.ref a1)] [(.int s_COMPACT_STRINGS)])) t → Steps p.tables e below (s₁.setTop (entryFrame m #[(.ref a1)] 1)) t := fun t kt => pre0 t (st1 t kt)
  have hc3 : ¬ (s_COMPACT_STRINGS = (0 : Int32)) := hcs
  have pre3 : ∀ t, Steps p.tables e below (T1.setTop (mkF m 7 #[.val (.ref a1)] [(.ref a1)])) t → Steps p.tables e below (s₁.setTop (entryFrame m #[(.ref a1)] 1)) t := fun t kt => by
    refine pre2 t ?_
    refine XS.ifNo X1.here hx rfl (hb hby d3_3) rfl ((if0 _ _).trans (feq hc3).1) ?_
    show Steps p.tables e below (T1.setTop (mkF m 6 #[.val (.ref a1)] [])) _
    refine XS.aloadN X1.here hx rfl (hb hby d3_6) rfl rfl ?_
    show Steps p.tables e below (T1.setTop (mkF m 7 #[.val (.ref a1)] [(.ref a1)])) _
    exact kt
  obtain ⟨T4, X4, e4, st4⟩ := getF X1 hx hZ hown (host := "") (Or.inl (hw _ (mgE 25 rfl))) Via.refl e1 F_coder_a1 (g := (mkF m 7 #[.val (.ref a1)] [(.ref a1)])) rfl rfl (hb hby d3_7)
  have pre5 : ∀ t, Steps p.tables e below (T4.setTop (mkF m 10 #[.val (.ref a1)] [(.int (0 : Int32))])) t → Steps p.tables e below (s₁.setTop (entryFrame m #[(.ref a1)] 1)) t := fun t kt => pre3 t (st4 t kt)
  have pre6 : ∀ t, Steps p.tables e below (T4.setTop (mkF m 18 #[.val (.ref a1)] [(.int (1 : Int32))])) t → Steps p.tables e below (s₁.setTop (entryFrame m #[(.ref a1)] 1)) t := fun t kt => by
    refine pre5 t ?_
    refine XS.ifNo X4.here hx rfl (hb hby d3_10) rfl ((if0 _ _).trans (teq (by decide : (0 : Int32) = (0 : Int32))).2) ?_
    show Steps p.tables e below (T4.setTop (mkF m 13 #[.val (.ref a1)] [])) _
    refine XS.iconst X4.here hx rfl (hb hby d3_13) ?_
    show Steps p.tables e below (T4.setTop (mkF m 14 #[.val (.ref a1)] [(.int (1 : Int32))])) _
    refine XS.goto X4.here hx rfl (pc0 := 14) (pc' := 18) rfl (hb hby d3_14) (by decide) (by decide) ?_
    show Steps p.tables e below (T4.setTop (mkF m 18 #[.val (.ref a1)] [(.int (1 : Int32))])) _
    exact kt
  obtain ⟨fs, hr, hrun, hended, hW, hsame⟩ := X4.leave (v := some (.int (1 : Int32))) (fun h => by rw [Bd.returns] at h; cases h)
  refine ⟨_, _, pre6 _ ?_, hrun, hended, _, _, rfl, ?_, ⟨_, rfl⟩, hW, hsame.mono (by decide) (by decide)⟩
  · exact retN X4 hx (t := .boolean) Bd.returns (by simp) (hb hby d3_18) hr
  · show Q3 Z a1 s_COMPACT_STRINGS h0 n0 _ T4.heap _
    rw [e4]
    exact ⟨by first | rfl | (simp only []), N0, rfl⟩
theorem d2_0 : decode jdk_42_method_56_code 0 = .ok (.aload_n 0, 1) := by decide +kernel
theorem d2_1 : decode jdk_42_method_56_code 1 = .ok (.invokevirtual 492, 3) := by decide +kernel
theorem d2_4 : decode jdk_42_method_56_code 4 = .ok (.ifCond .eq 12, 3) := by decide +kernel
theorem d2_7 : decode jdk_42_method_56_code 7 = .ok (.aload_n 0, 1) := by decide +kernel
theorem d2_8 : decode jdk_42_method_56_code 8 = .ok (.getfield 9, 3) := by decide +kernel
theorem d2_11 : decode jdk_42_method_56_code 11 = .ok (.iload_n 1, 1) := by decide +kernel
theorem d2_12 : decode jdk_42_method_56_code 12 = .ok (.invokestatic 495, 3) := by decide +kernel
theorem d2_15 : decode jdk_42_method_56_code 15 = .ok (.ireturn, 1) := by decide +kernel
theorem pd___Z : parseMethodDescriptor "()Z" = some ⟨[], some .boolean⟩ := by decide +kernel
theorem pd___BI_C : parseMethodDescriptor "([BI)C" = some ⟨[(.array .byte), .int], some .char⟩ := by decide +kernel
theorem ef_2 (m : MethodId) (x0 : Addr) (x1 : Int32) : entryFrame m #[(.ref x0), (.int x1)] 2 = mkF m 0 #[.val (.ref x0), .val (.int x1)] [] := by first | (simp [entryFrame, mkF, argsToLocals, Value.category]; done) | rfl
def chr2 (p2 : Int32) (el_w_value_a1 : Nat → Int32) : Int32 := (nar .char (chr4 p2 el_w_value_a1))
def Q2 (Z : State) (a1 : Addr) (p2 : Int32) (s_SIOOBE : Value) (s_COMPACT_STRINGS : Int32) (w_value_a1 : Addr) (z_w_value_a1 : Int32) (el_w_value_a1 : Nat → Int32) (h0 : Heap) (n0 : Nat) (v : Option Value) (h : Heap) (L : List Loc) : Prop := v = some (.int (chr2 p2 el_w_value_a1)) ∧ Fr n0 L ∧ h = h0
set_option maxRecDepth 65536 in
set_option maxHeartbeats 40000000 in
theorem rm2 (l : Launch) (Z : State) (a0 : Array Value) (hw : ∀ d ∈ tables_1, d.before a0 Z = true) (ws : List Jvm.Cond) (a1 : Addr) (p2 : Int32) (s_SIOOBE : Value) (s_COMPACT_STRINGS : Int32) (w_value_a1 : Addr) (z_w_value_a1 : Int32) (el_w_value_a1 : Nat → Int32) (h0 : Heap) (n0 : Nat) (Z0 : n0 ≤ h0.size) (S_SIOOBE_FORMATTER : Sta Z h0 "jdk/internal/util/Preconditions" "SIOOBE_FORMATTER" "Ljava/util/function/BiFunction;" s_SIOOBE) (F_coder_a1 : Fld Z h0 a1 "java/lang/String" "coder" "B" (.int (0 : Int32))) (S_COMPACT_STRINGS : Sta Z h0 "java/lang/String" "COMPACT_STRINGS" "Z" (.int s_COMPACT_STRINGS)) (E_a1 : Exa Z h0 a1 "java/lang/String") (F_value_a1 : Fld Z h0 a1 "java/lang/String" "value" "[B" (.ref w_value_a1)) (V_w_value_a1 : Arf Z h0 w_value_a1 .byte z_w_value_a1 (fun i => (.int (el_w_value_a1 i)))) (hrS : s_SIOOBE.isRef = true) (hcs : ¬ (s_COMPACT_STRINGS = (0 : Int32))) (hA : ¬ (p2 < (0 : Int32))) (hB : p2 < z_w_value_a1) :
    MetFree l (⟨"java/lang/String", "charAt", "(I)C"⟩ : MethodName) (head1 (Jvm.Cond.code (⟨"java/lang/String", "charAt", "(I)C"⟩ : MethodName) jdk_42_method_56_code 2 (some .char) :: ws) ({ frames := 3, cells := 0, slots := 0, locals := 40 } : Room)) (fun a U => a = #[(.ref a1), (.int p2)] ∧ Z.Warmed39 U.vm ∧ U.heap = h0) (fun _ _ _ _ _ => True) (fun _ U o U' => ∃ v L, o = .returned v ∧ Q2 Z a1 p2 s_SIOOBE s_COMPACT_STRINGS w_value_a1 z_w_value_a1 el_w_value_a1 h0 n0 v U'.heap L ∧ FrameEnd U o U' L ({ frames := 3, cells := 0, slots := 0, locals := 40 } : Room).cells ({ frames := 3, cells := 0, slots := 0, locals := 40 } : Room).slots) := by
  refine MetFree.of_bodySF (plainFor_of_name pn_java_lang_String) hisR ?_
  intro p e s m args below meth c s₁ Bd hml0 hP hK
  obtain ⟨rfl, hZ, hh⟩ := hP
  have hx := Bd.exec
  have hby := Bd.bytes
  have hml : c.maxLocals = 2 := hml0
  have hown : s.vm.findClass "java/lang/String" = some m.cls := findClass_of_methodNamed Bd.named
  have hnm := (name_of_methodNamed Bd.named Bd.method).1
  have X0 : Stand p l e ({ frames := 3, cells := 0, slots := 0, locals := 40 } : Room) s m #[(.ref a1), (.int p2)] below meth c s₁ [] 0 0 := Stand.of_body Bd
  have e0 : s₁.heap = h0 := by rw [← hh, Bd.state]; rfl
  have N0 := Fr.nil n0
  have pre0 : ∀ t, Steps p.tables e below (s₁.setTop (mkF m 0 #[.val (.ref a1), .val (.int p2)] [])) t → Steps p.tables e below (s₁.setTop (entryFrame m #[(.ref a1), (.int p2)] 2)) t := fun t k => castTop (ef_2 m a1 p2) k
  have pre1 : ∀ t, Steps p.tables e below (s₁.setTop (mkF m 1 #[.val (.ref a1), .val (.int p2)] [(.ref a1)])) t → Steps p.tables e below (s₁.setTop (entryFrame m #[(.ref a1), (.int p2)] 2)) t := fun t kt => by
    refine pre0 t ?_
    refine XS.aloadN X0.here hx rfl (hb hby d2_0) rfl rfl ?_
    show Steps p.tables e below (s₁.setTop (mkF m 1 #[.val (.ref a1), .val (.int p2)] [(.ref a1)])) _
    exact kt
  obtain ⟨cq2, kq2, q2a, q2b, q2c⟩ := isOf hZ e0 E_a1
  obtain ⟨_, _, ⟨T2, L2, k2, n2⟩, -, X2, ⟨Lc2, hQ2, l2, y2, z2⟩, st2⟩ := X0.virtualBack hx (y := (⟨"java/lang/String", "isLatin1", "()Z"⟩ : MethodName)) (z := (⟨"java/lang/String", "isLatin1", "()Z"⟩ : MethodName)) hown (mvT hZ (hw _ (mgE 19 rfl))) (mvT hZ (hw _ (mgE 20 rfl))) (notFace_of_selects (args := #[]) (mvT hZ (hw _ (mgE 22 rfl)))) (mvT hZ (hw _ (mgE 22 rfl))) (mvT hZ (hw _ (mgE 21 rfl))) (by decide) (backOf (W := 0) (rm3 l Z a0 hw [] a1 s_COMPACT_STRINGS h0 n0 Z0 F_coder_a1 S_COMPACT_STRINGS (hcs)) hZ (hw _ (mgE 23 rfl)) (hw _ (mgE 1 rfl)) (by decide) (by decide)) q2a q2c (g := (mkF m 1 #[.val (.ref a1), .val (.int p2)] [(.ref a1)])) rfl (by rw [hml]; rfl) (Steps.refl _) (argsL := []) (rest := []) (lenOf pd___Z rfl) rfl (by show 2 * 0 + _ ≤ _; exact Nat.le_of_eq rfl) (hb hby d2_1) (fun _ _ => ⟨rfl, e0, (by decide : 0 + 0 ≤ _), (by decide : 0 + 0 ≤ _)⟩)
  dsimp only [Pt.U, Pt.locs, Pt.cells, Pt.slots] at X2 l2 y2 z2 st2 hQ2
  subst l2 y2 z2
  obtain ⟨rfl, N2q, e2⟩ := hQ2
  have pre3 : ∀ t, Steps p.tables e below (T2.setTop (mkF m 4 #[.val (.ref a1), .val (.int p2)] [(.int (1 : Int32))])) t → Steps p.tables e below (s₁.setTop (entryFrame m #[(.ref a1), (.int p2)] 2)) t := fun t kt => pre1 t (st2.trans kt)
  have N2 := Fr.app N0 N2q
  have pre4 : ∀ t, Steps p.tables e below (T2.setTop (mkF m 8 #[.val (.ref a1), .val (.int p2)] [(.ref a1)])) t → Steps p.tables e below (s₁.setTop (entryFrame m #[(.ref a1), (.int p2)] 2)) t := fun t kt => by
    refine pre3 t ?_
    refine XS.ifNo X2.here hx rfl (hb hby d2_4) rfl ((if0 _ _).trans (feq (by decide : ¬ ((1 : Int32) = (0 : Int32)))).1) ?_
    show Steps p.tables e below (T2.setTop (mkF m 7 #[.val (.ref a1), .val (.int p2)] [])) _
    refine XS.aloadN X2.here hx rfl (hb hby d2_7) rfl rfl ?_
    show Steps p.tables e below (T2.setTop (mkF m 8 #[.val (.ref a1), .val (.int p2)] [(.ref a1)])) _
    exact kt
  obtain ⟨T5, X5, e5, st5⟩ := getF X2 hx hZ hown (host := "") (Or.inl (hw _ (mgE 26 rfl))) Via.refl e2 F_value_a1 (g := (mkF m 8 #[.val (.ref a1), .val (.int p2)] [(.ref a1)])) rfl rfl (hb hby d2_8)
  have pre6 : ∀ t, Steps p.tables e below (T5.setTop (mkF m 11 #[.val (.ref a1), .val (.int p2)] [(.ref w_value_a1)])) t → Steps p.tables e below (s₁.setTop (entryFrame m #[(.ref a1), (.int p2)] 2)) t := fun t kt => pre4 t (st5 t kt)
  have pre7 : ∀ t, Steps p.tables e below (T5.setTop (mkF m 12 #[.val (.ref a1), .val (.int p2)] [(.int p2), (.ref w_value_a1)])) t → Steps p.tables e below (s₁.setTop (entryFrame m #[(.ref a1), (.int p2)] 2)) t := fun t kt => by
    refine pre6 t ?_
    refine XS.iloadN X5.here hx rfl (hb hby d2_11) rfl ?_
    show Steps p.tables e below (T5.setTop (mkF m 12 #[.val (.ref a1), .val (.int p2)] [(.int p2), (.ref w_value_a1)])) _
    exact kt
  obtain ⟨_, _, ⟨T8, L8, k8, n8⟩, -, X8, ⟨Lc8, hQ8, l8, y8, z8⟩, st8⟩ := Jvm.LawKit.callS X5 hx (y := (⟨"java/lang/StringLatin1", "charAt", "([BI)C"⟩ : MethodName)) hown (mvT hZ (hw _ (mgE 27 rfl))) (mvT hZ (hw _ (mgE 28 rfl))) (mvT hZ (hw _ (mgE 29 rfl))) (mvT hZ (hw _ (mgE 30 rfl))) (by decide) (backOf (W := 0) (rm4 l Z a0 hw [] w_value_a1 p2 s_SIOOBE z_w_value_a1 el_w_value_a1 h0 n0 Z0 S_SIOOBE_FORMATTER V_w_value_a1 (hrS) (hA) (hB)) hZ (hw _ (mgE 30 rfl)) (hw _ (mgE 29 rfl)) (by decide) (by decide)) (g := (mkF m 12 #[.val (.ref a1), .val (.int p2)] [(.int p2), (.ref w_value_a1)])) rfl (by rw [hml]; rfl) (argsL := [(.ref w_value_a1), (.int p2)]) (rest := []) (lenOf pd___BI_C rfl) rfl (by show 2 * 0 + _ ≤ _; exact Nat.le_of_eq rfl) (hb hby d2_12) (fun _ _ => ⟨rfl, e5, (by decide : 0 + 0 ≤ _), (by decide : 0 + 0 ≤ _)⟩)
  dsimp only [Pt.U, Pt.locs, Pt.cells, Pt.slots] at X8 l8 y8 z8 st8 hQ8
  subst l8 y8 z8
  obtain ⟨rfl, N8q, e8⟩ := hQ8
  have pre9 : ∀ t, Steps p.tables e below (T8.setTop (mkF m 15 #[.val (.ref a1), .val (.int p2)] [(.int (chr4 p2 el_w_value_a1))])) t → Steps p.tables e below (s₁.setTop (entryFrame m #[(.ref a1), (.int p2)] 2)) t := fun t kt => pre7 t (st8 t kt)
  have N8 := Fr.app N2 N8q
  obtain ⟨fs, hr, hrun, hended, hW, hsame⟩ := X8.leave (v := some (.int (nar .char (chr4 p2 el_w_value_a1)))) (fun h => by rw [Bd.returns] at h; cases h)
  refine ⟨_, _, pre9 _ ?_, hrun, hended, _, _, rfl, ?_, ⟨_, rfl⟩, hW, hsame.mono (by decide) (by decide)⟩
  · exact retN X8 hx (t := .char) Bd.returns (by simp) (hb hby d2_15) hr
  · show Q2 Z a1 p2 s_SIOOBE s_COMPACT_STRINGS w_value_a1 z_w_value_a1 el_w_value_a1 h0 n0 _ T8.heap _
    rw [e8]
    exact ⟨by first | rfl | (simp only [chr2]), N8, rfl⟩

theorem own_cases (ch : Int32) (h0 : 0 ≤ ch.toInt) (h1 : ¬ (r1 ch = (-1 : Int32))) : (48 ≤ ch.toInt ∧ ch.toInt ≤ 57) ∨ (65 ≤ ch.toInt ∧ ch.toInt ≤ 70) ∨ (97 ≤ ch.toInt ∧ ch.toInt ≤ 102) := by
  have e1 : (48 : Int32).toInt = 48 := by decide
  have e2 : (57 : Int32).toInt = 57 := by decide
  have e3 : (65 : Int32).toInt = 65 := by decide
  have e4 : (70 : Int32).toInt = 70 := by decide
  have e5 : (97 : Int32).toInt = 97 := by decide
  have e6 : (102 : Int32).toInt = 102 := by decide
  unfold r1 at h1
  simp only [Int32.lt_iff_toInt_lt, e1, e2, e3, e4, e5, e6] at h1
  repeat' split at h1
  all_goals first | omega | exact absurd rfl h1
theorem own_at (ch : Int32) (n : Nat) (h : ch.toInt = n) (hn : n < 2147483648) : ch = Int32.ofNat n := Int32.toInt_inj.mp (by rw [h, Int32.toInt_ofNat_of_lt (by omega)])
theorem own_hex (ch dd : Int32) (h0 : 0 ≤ ch.toInt) (hd : dd = r1 ch) (h1 : ¬ (dd = (-1 : Int32))) : (¬ (dd < (0 : Int32)) ∧ ¬ ((15 : Int32) < dd) ∧ dd < (16 : Int32)) ∧ (chr2 dd (fun i => own_U.getD i 0) = ch ∨ chr2 dd (fun i => own_L.getD i 0) = ch) := by
  subst hd
  have q := own_cases ch h0 h1
  have q2 : ∃ n : Nat, n < 103 ∧ ch.toInt = n ∧ ((48 ≤ n ∧ n ≤ 57) ∨ (65 ≤ n ∧ n ≤ 70) ∨ (97 ≤ n ∧ n ≤ 102)) := ⟨ch.toInt.toNat, by omega, by omega, by omega⟩
  obtain ⟨n, hn, e, r⟩ := q2
  have z := own_at ch n e (by omega)
  subst z
  clear e q h0 h1
  revert n
  decide
theorem own_back (x ww : Int32) (hw : ww = (x &&& (15 : Int32))) : (¬ (ww < (0 : Int32)) ∧ ww < (16 : Int32)) ∧ r1 (chr2 ww (fun i => own_U.getD i 0)) = ww ∧ r1 (chr2 ww (fun i => own_L.getD i 0)) = ww := by
  have a := c_and x (15 : Int32) (by decide)
  rw [← hw, show (15 : Int32).toInt = 15 from by decide] at a
  have z := own_at ww ww.toInt.toNat (by omega) (by omega)
  have b : ww.toInt.toNat < 16 := by omega
  generalize ww.toInt.toNat = n at z b
  subst z
  clear a hw
  revert n
  decide

theorem pn_com_example_commonroom_commonroom_webdav_UriSyntaxHexDigitPinLaw : plainName "com/example/commonroom/commonroom/webdav/UriSyntaxHexDigitPinLaw" = true := by first | (simp [plainName, overriddenIn]; done) | decide +kernel
theorem pd__C_I : parseMethodDescriptor "(C)I" = some ⟨[.char], some .int⟩ := by decide +kernel
theorem pd__I_C : parseMethodDescriptor "(I)C" = some ⟨[.int], some .char⟩ := by decide +kernel
theorem ef_0 (m : MethodId) (x0 : Int32) (x1 : Int32) : entryFrame m #[(.int x0), (.int x1)] maxLocals = mkF m 0 #[.val (.int x0), .val (.int x1), .unset, .unset, .unset, .unset, .unset, .unset, .unset, .unset] [] := by first | (simp [entryFrame, mkF, argsToLocals, Value.category, maxLocals]; done) | rfl
def Q0 (Z : State) (p1 : Int32) (p2 : Int32) (s_SIOOBE : Value) (s_COMPACT_STRINGS : Int32) (h0 : Heap) (n0 : Nat) (v : Option Value) (h : Heap) (L : List Loc) : Prop := v = some (.int 1) ∧ Fr n0 L
set_option maxRecDepth 65536 in
set_option maxHeartbeats 40000000 in
theorem rm0 (l : Launch) (Z : State) (a0 : Array Value) (hw : ∀ d ∈ tables_1, d.before a0 Z = true) (ws : List Jvm.Cond) (p1 : Int32) (p2 : Int32) (s_SIOOBE : Value) (s_COMPACT_STRINGS : Int32) (h0 : Heap) (n0 : Nat) (Z0 : n0 ≤ h0.size) (S_SIOOBE_FORMATTER : Sta Z h0 "jdk/internal/util/Preconditions" "SIOOBE_FORMATTER" "Ljava/util/function/BiFunction;" s_SIOOBE) (S_COMPACT_STRINGS : Sta Z h0 "java/lang/String" "COMPACT_STRINGS" "Z" (.int s_COMPACT_STRINGS)) (hrS : s_SIOOBE.isRef = true) (hcs : ¬ (s_COMPACT_STRINGS = (0 : Int32))) (hcw : Jvm.Lit.compactW.before a0 Z = true) (hc7 : Jvm.Lit.constHeld Z "com/example/commonroom/commonroom/webdav/UriSyntaxHexDigitPinLaw" 7) (hc9 : Jvm.Lit.constHeld Z "com/example/commonroom/commonroom/webdav/UriSyntaxHexDigitPinLaw" 9) :
    MetFree l x (head1 (Jvm.Cond.code x code maxLocals ret :: ws) room_1) (fun a U => a = #[(.int p1), (.int p2)] ∧ Z.Warmed39 U.vm ∧ U.heap = h0 ∧ U = Z) (fun _ _ _ _ _ => True) (fun _ U o U' => ∃ v L, o = .returned v ∧ Q0 Z p1 p2 s_SIOOBE s_COMPACT_STRINGS h0 n0 v U'.heap L ∧ ReturnedEndW U o U' L room_1.cells room_1.slots) := by
  refine MetFree.of_bodySF (plainFor_of_name pn_com_example_commonroom_commonroom_webdav_UriSyntaxHexDigitPinLaw) hisR ?_
  intro p e s m args below meth c s₁ Bd hml0 hP hK
  obtain ⟨rfl, hZ, hh, hUZ⟩ := hP
  have hx := Bd.exec
  have hby := Bd.bytes
  have hml : c.maxLocals = 10 := hml0
  have hown : s.vm.findClass "com/example/commonroom/commonroom/webdav/UriSyntaxHexDigitPinLaw" = some m.cls := findClass_of_methodNamed Bd.named
  have hnm := (name_of_methodNamed Bd.named Bd.method).1
  have X0 : Stand p l e room_1 s m #[(.int p1), (.int p2)] below meth c s₁ [] 0 0 := Stand.of_body Bd
  have e0 : s₁.heap = h0 := by rw [← hh, Bd.state]; rfl
  have N0 := Fr.nil n0
  have pre0 : ∀ t, Steps p.tables e below (s₁.setTop (mkF m 0 #[.val (.int p1), .val (.int p2), .unset, .unset, .unset, .unset, .unset, .unset, .unset, .unset] [])) t → Steps p.tables e below (s₁.setTop (entryFrame m #[(.int p1), (.int p2)] maxLocals)) t := fun t k => castTop (ef_0 m p1 p2) k
  have hS0 : s.Since s.vm h0.size := State.WarmedH.since (State.WarmedH.refl s) _
  obtain ⟨b1, T1, h1, k1, v1, kb1, X1, e1, E1, hS1, Sz1, hZ, hown, A1, Fc1, Fv1, Va1, -, -, I1, st1⟩ := ldcSV (s := s) (vm0 := s.vm) X0 hx hZ hown (hw _ (mgE 0 rfl)) (own_wS hw) e0 hS0 (Nat.le_refl _) (Fr.nil _) (fun b cl q => by rw [hUZ]; exact q) (Ts := []) (by rw [hUZ]; exact IB.start) (by decide) hc7 hcw (vs := own_U.map Value.int) (z := 16) ⟨by decide, rfl⟩ (by decide) (by decide) (g := (mkF m 0 #[.val (.int p1), .val (.int p2), .unset, .unset, .unset, .unset, .unset, .unset, .unset, .unset] [])) rfl (hb hby at_0) (n := 64) (by decide) (by decide) (by decide) (by decide)
  have Z1 : n0 ≤ h1.size := Nat.le_trans Z0 E1.1
  have F2_1 := Sta.ext E1 S_SIOOBE_FORMATTER
  have F3_1 := Sta.ext E1 S_COMPACT_STRINGS
  have V_v1 : Arf Z h1 v1 .byte (16 : Int32) (fun i => (.int ((fun i => own_U.getD i 0) i))) := own_arv Va1 fun i _ => own_getD own_U i
  have pre4 : ∀ t, Steps p.tables e below (T1.setTop (mkF m 2 #[.val (.int p1), .val (.int p2), .unset, .unset, .unset, .unset, .unset, .unset, .unset, .unset] [(.ref b1)])) t → Steps p.tables e below (s₁.setTop (entryFrame m #[(.int p1), (.int p2)] maxLocals)) t := fun t kt => pre0 t (st1 t kt)
  have pre5 : ∀ t, Steps p.tables e below (T1.setTop (mkF m 3 #[.val (.int p1), .val (.int p2), .val (.ref b1), .unset, .unset, .unset, .unset, .unset, .unset, .unset] [])) t → Steps p.tables e below (s₁.setTop (entryFrame m #[(.int p1), (.int p2)] maxLocals)) t := fun t kt => by
    refine pre4 t ?_
    refine XS.astoreN X1.here hx rfl (hb hby at_2) rfl rfl (l' := #[.val (.int p1), .val (.int p2), .val (.ref b1), .unset, .unset, .unset, .unset, .unset, .unset, .unset]) rfl ?_
    show Steps p.tables e below (T1.setTop (mkF m 3 #[.val (.int p1), .val (.int p2), .val (.ref b1), .unset, .unset, .unset, .unset, .unset, .unset, .unset] [])) _
    exact kt
  obtain ⟨b6, T6, h6, k6, v6, kb6, X6, e6, E6, hS6, Sz6, hZ, hown, A6, Fc6, Fv6, Va6, -, -, I6, st6⟩ := ldcSV (s := s) (vm0 := T1.vm) X1 hx hZ hown (hw _ (mgE 8 rfl)) (own_wS hw) e1 hS1 Sz1 (Fr.nil _) (fun b cl q => by rw [hUZ]; exact q) (Ts := ["0123456789ABCDEF"]) I1 (by decide) hc9 hcw (vs := own_L.map Value.int) (z := 16) ⟨by decide, rfl⟩ (by decide) (by decide) (g := (mkF m 3 #[.val (.int p1), .val (.int p2), .val (.ref b1), .unset, .unset, .unset, .unset, .unset, .unset, .unset] [])) rfl (hb hby at_3) (n := 64) (by decide) (by decide) (by decide) (by decide)
  have Z6 : n0 ≤ h6.size := Nat.le_trans Z1 E6.1
  have F7_6 := Sta.ext E6 F2_1
  have F8_6 := Sta.ext E6 F3_1
  have F9_6 := A1.ext E6
  have F10_6 := Fc1.ext E6
  have F11_6 := Fv1.ext E6
  have F12_6 := V_v1.ext E6
  have V_v6 : Arf Z h6 v6 .byte (16 : Int32) (fun i => (.int ((fun i => own_L.getD i 0) i))) := own_arv Va6 fun i _ => own_getD own_L i
  have pre13 : ∀ t, Steps p.tables e below (T6.setTop (mkF m 5 #[.val (.int p1), .val (.int p2), .val (.ref b1), .unset, .unset, .unset, .unset, .unset, .unset, .unset] [(.ref b6)])) t → Steps p.tables e below (s₁.setTop (entryFrame m #[(.int p1), (.int p2)] maxLocals)) t := fun t kt => pre5 t (st6 t kt)
  have pre14 : ∀ t, Steps p.tables e below (T6.setTop (mkF m 13 #[.val (.int p1), .val (.int p2), .val (.ref b1), .val (.ref b6), .val (.int ((p1 &&& (65535 : Int32)).toUInt32.toUInt16.toUInt32.toInt32)), .unset, .unset, .unset, .unset, .unset] [])) t → Steps p.tables e below (s₁.setTop (entryFrame m #[(.int p1), (.int p2)] maxLocals)) t := fun t kt => by
    refine pre13 t ?_
    refine XS.astoreN X6.here hx rfl (hb hby at_5) rfl rfl (l' := #[.val (.int p1), .val (.int p2), .val (.ref b1), .val (.ref b6), .unset, .unset, .unset, .unset, .unset, .unset]) rfl ?_
    show Steps p.tables e below (T6.setTop (mkF m 6 #[.val (.int p1), .val (.int p2), .val (.ref b1), .val (.ref b6), .unset, .unset, .unset, .unset, .unset, .unset] [])) _
    refine XS.iloadN X6.here hx rfl (hb hby at_6) rfl ?_
    show Steps p.tables e below (T6.setTop (mkF m 7 #[.val (.int p1), .val (.int p2), .val (.ref b1), .val (.ref b6), .unset, .unset, .unset, .unset, .unset, .unset] [(.int p1)])) _
    refine X6.ldcInt hx hown (mvT hZ (hw _ (mgE 9 rfl))) (g := (mkF m 7 #[.val (.int p1), .val (.int p2), .val (.ref b1), .val (.ref b6), .unset, .unset, .unset, .unset, .unset, .unset] [(.int p1)])) rfl (hb hby at_7) _ ?_
    show Steps p.tables e below (T6.setTop (mkF m 9 #[.val (.int p1), .val (.int p2), .val (.ref b1), .val (.ref b6), .unset, .unset, .unset, .unset, .unset, .unset] [(.int (65535 : Int32)), (.int p1)])) _
    refine XS.iand X6.here hx rfl (hb hby at_9) rfl ?_
    show Steps p.tables e below (T6.setTop (mkF m 10 #[.val (.int p1), .val (.int p2), .val (.ref b1), .val (.ref b6), .unset, .unset, .unset, .unset, .unset, .unset] [(.int (p1 &&& (65535 : Int32)))])) _
    refine XS.i2c X6.here hx rfl (hb hby at_10) rfl ?_
    show Steps p.tables e below (T6.setTop (mkF m 11 #[.val (.int p1), .val (.int p2), .val (.ref b1), .val (.ref b6), .unset, .unset, .unset, .unset, .unset, .unset] [(.int ((p1 &&& (65535 : Int32)).toUInt32.toUInt16.toUInt32.toInt32))])) _
    refine XS.istore X6.here hx rfl (hb hby at_11) rfl (l' := #[.val (.int p1), .val (.int p2), .val (.ref b1), .val (.ref b6), .val (.int ((p1 &&& (65535 : Int32)).toUInt32.toUInt16.toUInt32.toInt32)), .unset, .unset, .unset, .unset, .unset]) rfl ?_
    show Steps p.tables e below (T6.setTop (mkF m 13 #[.val (.int p1), .val (.int p2), .val (.ref b1), .val (.ref b6), .val (.int ((p1 &&& (65535 : Int32)).toUInt32.toUInt16.toUInt32.toInt32)), .unset, .unset, .unset, .unset, .unset] [])) _
    exact kt
  obtain ⟨ch, h_ch⟩ : ∃ z, z = ((p1 &&& (65535 : Int32)).toUInt32.toUInt16.toUInt32.toInt32) := ⟨_, rfl⟩
  rw [← h_ch] at pre14
  have hch : 0 ≤ ch.toInt := by rw [h_ch]; exact (c_i2c _).2.1
  have pre15 : ∀ t, Steps p.tables e below (T6.setTop (mkF m 15 #[.val (.int p1), .val (.int p2), .val (.ref b1), .val (.ref b6), .val (.int ch), .unset, .unset, .unset, .unset, .unset] [(.int ch)])) t → Steps p.tables e below (s₁.setTop (entryFrame m #[(.int p1), (.int p2)] maxLocals)) t := fun t kt => by
    refine pre14 t ?_
    refine XS.iload X6.here hx rfl (hb hby at_13) rfl ?_
    show Steps p.tables e below (T6.setTop (mkF m 15 #[.val (.int p1), .val (.int p2), .val (.ref b1), .val (.ref b6), .val (.int ch), .unset, .unset, .unset, .unset, .unset] [(.int ch)])) _
    exact kt
  obtain ⟨_, _, ⟨T16, L16, k16, n16⟩, -, X16, ⟨Lc16, hQ16, l16, y16, z16⟩, st16⟩ := Jvm.LawKit.callS X6 hx (y := (⟨"com/example/commonroom/commonroom/webdav/UriSyntax", "hexDigit", "(C)I"⟩ : MethodName)) hown (mvT hZ (hw _ (mgE 10 rfl))) (mvT hZ (hw _ (mgE 11 rfl))) (mvT hZ (hw _ (mgE 12 rfl))) (mvT hZ (hw _ (mgE 13 rfl))) (by decide) (backOf (W := 0) (rm1 l Z a0 hw [] ch h6 n0 Z6 ) hZ (hw _ (mgE 13 rfl)) (hw _ (mgE 12 rfl)) (by decide) (by decide)) (g := (mkF m 15 #[.val (.int p1), .val (.int p2), .val (.ref b1), .val (.ref b6), .val (.int ch), .unset, .unset, .unset, .unset, .unset] [(.int ch)])) rfl (by rw [hml]; rfl) (argsL := [(.int ch)]) (rest := []) (lenOf pd__C_I rfl) rfl (by show 2 * 0 + _ ≤ _; exact Nat.le_of_eq rfl) (hb hby at_15) (fun _ _ => ⟨rfl, e6, (by decide : 4 + 0 ≤ _), (by decide : 136 + 0 ≤ _)⟩)
  dsimp only [Pt.U, Pt.locs, Pt.cells, Pt.slots] at X16 l16 y16 z16 st16 hQ16
  subst l16 y16 z16
  obtain ⟨rfl, N16q, e16⟩ := hQ16
  have pre17 : ∀ t, Steps p.tables e below (T16.setTop (mkF m 18 #[.val (.int p1), .val (.int p2), .val (.ref b1), .val (.ref b6), .val (.int ch), .unset, .unset, .unset, .unset, .unset] [(.int (r1 ch))])) t → Steps p.tables e below (s₁.setTop (entryFrame m #[(.int p1), (.int p2)] maxLocals)) t := fun t kt => pre15 t (st16 t kt)
  have N16 := Fr.app N0 N16q
  have pre18 : ∀ t, Steps p.tables e below (T16.setTop (mkF m 20 #[.val (.int p1), .val (.int p2), .val (.ref b1), .val (.ref b6), .val (.int ch), .val (.int (r1 ch)), .unset, .unset, .unset, .unset] [])) t → Steps p.tables e below (s₁.setTop (entryFrame m #[(.int p1), (.int p2)] maxLocals)) t := fun t kt => by
    refine pre17 t ?_
    refine XS.istore X16.here hx rfl (hb hby at_18) rfl (l' := #[.val (.int p1), .val (.int p2), .val (.ref b1), .val (.ref b6), .val (.int ch), .val (.int (r1 ch)), .unset, .unset, .unset, .unset]) rfl ?_
    show Steps p.tables e below (T16.setTop (mkF m 20 #[.val (.int p1), .val (.int p2), .val (.ref b1), .val (.ref b6), .val (.int ch), .val (.int (r1 ch)), .unset, .unset, .unset, .unset] [])) _
    exact kt
  obtain ⟨dd, h_dd⟩ : ∃ z, z = (r1 ch) := ⟨_, rfl⟩
  rw [← h_dd] at pre18
  have pre19 : ∀ t, Steps p.tables e below (T16.setTop (mkF m 23 #[.val (.int p1), .val (.int p2), .val (.ref b1), .val (.ref b6), .val (.int ch), .val (.int dd), .unset, .unset, .unset, .unset] [(.int (-1 : Int32)), (.int dd)])) t → Steps p.tables e below (s₁.setTop (entryFrame m #[(.int p1), (.int p2)] maxLocals)) t := fun t kt => by
    refine pre18 t ?_
    refine XS.iload X16.here hx rfl (hb hby at_20) rfl ?_
    show Steps p.tables e below (T16.setTop (mkF m 22 #[.val (.int p1), .val (.int p2), .val (.ref b1), .val (.ref b6), .val (.int ch), .val (.int dd), .unset, .unset, .unset, .unset] [(.int dd)])) _
    refine XS.iconst X16.here hx rfl (hb hby at_22) ?_
    show Steps p.tables e below (T16.setTop (mkF m 23 #[.val (.int p1), .val (.int p2), .val (.ref b1), .val (.ref b6), .val (.int ch), .val (.int dd), .unset, .unset, .unset, .unset] [(.int (-1 : Int32)), (.int dd)])) _
    exact kt
  obtain ⟨T20, L20, X20, e20, N20, pre20⟩ : ∃ (T20 : State) (L20 : List Loc), Stand p l e room_1 (s.setVm T6.vm) m #[(.int p1), (.int p2)] below meth c T20 L20 4 136 ∧ T20.heap = h6 ∧ Fr n0 L20 ∧ (∀ t, Steps p.tables e below (T20.setTop (mkF m 65 #[.val (.int p1), .val (.int p2), .val (.ref b1), .val (.ref b6), .val (.int ch), .val (.int dd), .unset, .unset, .unset, .unset] [(.int (1 : Int32))])) t → Steps p.tables e below (s₁.setTop (entryFrame m #[(.int p1), (.int p2)] maxLocals)) t) := by
    by_cases hc23 : dd = (-1 : Int32)
    · skip
      have pre21 : ∀ t, Steps p.tables e below (T16.setTop (mkF m 65 #[.val (.int p1), .val (.int p2), .val (.ref b1), .val (.ref b6), .val (.int ch), .val (.int dd), .unset, .unset, .unset, .unset] [(.int (1 : Int32))])) t → Steps p.tables e below (s₁.setTop (entryFrame m #[(.int p1), (.int p2)] maxLocals)) t := fun t kt => by
        refine pre19 t ?_
        refine XS.icmpYes X16.here hx rfl (pc0 := 23) (pc' := 60) rfl (hb hby at_23) rfl (teq hc23).1 (by decide) (by decide) ?_
        show Steps p.tables e below (T16.setTop (mkF m 60 #[.val (.int p1), .val (.int p2), .val (.ref b1), .val (.ref b6), .val (.int ch), .val (.int dd), .unset, .unset, .unset, .unset] [])) _
        refine XS.iconst X16.here hx rfl (hb hby at_60) ?_
        show Steps p.tables e below (T16.setTop (mkF m 61 #[.val (.int p1), .val (.int p2), .val (.ref b1), .val (.ref b6), .val (.int ch), .val (.int dd), .unset, .unset, .unset, .unset] [(.int (1 : Int32))])) _
        refine XS.goto X16.here hx rfl (pc0 := 61) (pc' := 65) rfl (hb hby at_61) (by decide) (by decide) ?_
        show Steps p.tables e below (T16.setTop (mkF m 65 #[.val (.int p1), .val (.int p2), .val (.ref b1), .val (.ref b6), .val (.int ch), .val (.int dd), .unset, .unset, .unset, .unset] [(.int (1 : Int32))])) _
        exact kt
      exact ⟨T16, _, X16, e16, N16, pre21⟩
    · skip
      have pre22 : ∀ t, Steps p.tables e below (T16.setTop (mkF m 26 #[.val (.int p1), .val (.int p2), .val (.ref b1), .val (.ref b6), .val (.int ch), .val (.int dd), .unset, .unset, .unset, .unset] [])) t → Steps p.tables e below (s₁.setTop (entryFrame m #[(.int p1), (.int p2)] maxLocals)) t := fun t kt => by
        refine pre19 t ?_
        refine XS.icmpNo X16.here hx rfl (hb hby at_23) rfl (feq hc23).1 ?_
        show Steps p.tables e below (T16.setTop (mkF m 26 #[.val (.int p1), .val (.int p2), .val (.ref b1), .val (.ref b6), .val (.int ch), .val (.int dd), .unset, .unset, .unset, .unset] [])) _
        exact kt
      have key := own_hex ch dd hch h_dd hc23
      have hc28 : ¬ (dd < (0 : Int32)) := key.1.1
      have hc35 : ¬ ((15 : Int32) < dd) := key.1.2.1
      have pre23 : ∀ t, Steps p.tables e below (T16.setTop (mkF m 41 #[.val (.int p1), .val (.int p2), .val (.ref b1), .val (.ref b6), .val (.int ch), .val (.int dd), .unset, .unset, .unset, .unset] [(.int dd), (.ref b1)])) t → Steps p.tables e below (s₁.setTop (entryFrame m #[(.int p1), (.int p2)] maxLocals)) t := fun t kt => by
        refine pre22 t ?_
        refine XS.iload X16.here hx rfl (hb hby at_26) rfl ?_
        show Steps p.tables e below (T16.setTop (mkF m 28 #[.val (.int p1), .val (.int p2), .val (.ref b1), .val (.ref b6), .val (.int ch), .val (.int dd), .unset, .unset, .unset, .unset] [(.int dd)])) _
        refine XS.ifNo X16.here hx rfl (hb hby at_28) rfl ((if0 _ _).trans (flt hc28).1) ?_
        show Steps p.tables e below (T16.setTop (mkF m 31 #[.val (.int p1), .val (.int p2), .val (.ref b1), .val (.ref b6), .val (.int ch), .val (.int dd), .unset, .unset, .unset, .unset] [])) _
        refine XS.iload X16.here hx rfl (hb hby at_31) rfl ?_
        show Steps p.tables e below (T16.setTop (mkF m 33 #[.val (.int p1), .val (.int p2), .val (.ref b1), .val (.ref b6), .val (.int ch), .val (.int dd), .unset, .unset, .unset, .unset] [(.int dd)])) _
        refine XS.bipush X16.here hx rfl (hb hby at_33) ?_
        show Steps p.tables e below (T16.setTop (mkF m 35 #[.val (.int p1), .val (.int p2), .val (.ref b1), .val (.ref b6), .val (.int ch), .val (.int dd), .unset, .unset, .unset, .unset] [(.int (15 : Int32)), (.int dd)])) _
        refine XS.icmpNo X16.here hx rfl (hb hby at_35) rfl (flt hc35).2.2.1 ?_
        show Steps p.tables e below (T16.setTop (mkF m 38 #[.val (.int p1), .val (.int p2), .val (.ref b1), .val (.ref b6), .val (.int ch), .val (.int dd), .unset, .unset, .unset, .unset] [])) _
        refine XS.aloadN X16.here hx rfl (hb hby at_38) rfl rfl ?_
        show Steps p.tables e below (T16.setTop (mkF m 39 #[.val (.int p1), .val (.int p2), .val (.ref b1), .val (.ref b6), .val (.int ch), .val (.int dd), .unset, .unset, .unset, .unset] [(.ref b1)])) _
        refine XS.iload X16.here hx rfl (hb hby at_39) rfl ?_
        show Steps p.tables e below (T16.setTop (mkF m 41 #[.val (.int p1), .val (.int p2), .val (.ref b1), .val (.ref b6), .val (.int ch), .val (.int dd), .unset, .unset, .unset, .unset] [(.int dd), (.ref b1)])) _
        exact kt
      obtain ⟨cq24, kq24, q24a, q24b, q24c⟩ := isOf hZ e16 F9_6
      obtain ⟨_, _, ⟨T24, L24, k24, n24⟩, -, X24, ⟨Lc24, hQ24, l24, y24, z24⟩, st24⟩ := X16.virtualBack hx (y := (⟨"java/lang/String", "charAt", "(I)C"⟩ : MethodName)) (z := (⟨"java/lang/String", "charAt", "(I)C"⟩ : MethodName)) hown (mvT hZ (hw _ (mgE 14 rfl))) (mvT hZ (hw _ (mgE 15 rfl))) (notFace_of_selects (args := #[]) (mvT hZ (hw _ (mgE 17 rfl)))) (mvT hZ (hw _ (mgE 17 rfl))) (mvT hZ (hw _ (mgE 16 rfl))) (by decide) (backOf (W := 0) (rm2 l Z a0 hw [] b1 dd s_SIOOBE s_COMPACT_STRINGS v1 (16 : Int32) (fun i => own_U.getD i 0) h6 n0 Z6 F7_6 F10_6 F8_6 F9_6 F11_6 F12_6 (hrS) (hcs) (key.1.1) (key.1.2.2)) hZ (hw _ (mgE 18 rfl)) (hw _ (mgE 1 rfl)) (by decide) (by decide)) q24a q24c (g := (mkF m 41 #[.val (.int p1), .val (.int p2), .val (.ref b1), .val (.ref b6), .val (.int ch), .val (.int dd), .unset, .unset, .unset, .unset] [(.int dd), (.ref b1)])) rfl (by rw [hml]; rfl) (Steps.refl _) (argsL := [(.int dd)]) (rest := []) (lenOf pd__I_C rfl) rfl (by show 2 * 0 + _ ≤ _; exact Nat.le_of_eq rfl) (hb hby at_41) (fun _ _ => ⟨rfl, e16, (by decide : 4 + 0 ≤ _), (by decide : 136 + 0 ≤ _)⟩)
      dsimp only [Pt.U, Pt.locs, Pt.cells, Pt.slots] at X24 l24 y24 z24 st24 hQ24
      subst l24 y24 z24
      obtain ⟨rfl, N24q, e24⟩ := hQ24
      have pre25 : ∀ t, Steps p.tables e below (T24.setTop (mkF m 44 #[.val (.int p1), .val (.int p2), .val (.ref b1), .val (.ref b6), .val (.int ch), .val (.int dd), .unset, .unset, .unset, .unset] [(.int (chr2 dd (fun i => own_U.getD i 0)))])) t → Steps p.tables e below (s₁.setTop (entryFrame m #[(.int p1), (.int p2)] maxLocals)) t := fun t kt => pre23 t (st24.trans kt)
      have N24 := Fr.app N16 N24q
      by_cases hc46 : (chr2 dd (fun i => own_U.getD i 0)) = ch
      · skip
        have pre26 : ∀ t, Steps p.tables e below (T24.setTop (mkF m 65 #[.val (.int p1), .val (.int p2), .val (.ref b1), .val (.ref b6), .val (.int ch), .val (.int dd), .unset, .unset, .unset, .unset] [(.int (1 : Int32))])) t → Steps p.tables e below (s₁.setTop (entryFrame m #[(.int p1), (.int p2)] maxLocals)) t := fun t kt => by
          refine pre25 t ?_
          refine XS.iload X24.here hx rfl (hb hby at_44) rfl ?_
          show Steps p.tables e below (T24.setTop (mkF m 46 #[.val (.int p1), .val (.int p2), .val (.ref b1), .val (.ref b6), .val (.int ch), .val (.int dd), .unset, .unset, .unset, .unset] [(.int ch), (.int (chr2 dd (fun i => own_U.getD i 0)))])) _
          refine XS.icmpYes X24.here hx rfl (pc0 := 46) (pc' := 60) rfl (hb hby at_46) rfl (teq hc46).1 (by decide) (by decide) ?_
          show Steps p.tables e below (T24.setTop (mkF m 60 #[.val (.int p1), .val (.int p2), .val (.ref b1), .val (.ref b6), .val (.int ch), .val (.int dd), .unset, .unset, .unset, .unset] [])) _
          refine XS.iconst X24.here hx rfl (hb hby at_60) ?_
          show Steps p.tables e below (T24.setTop (mkF m 61 #[.val (.int p1), .val (.int p2), .val (.ref b1), .val (.ref b6), .val (.int ch), .val (.int dd), .unset, .unset, .unset, .unset] [(.int (1 : Int32))])) _
          refine XS.goto X24.here hx rfl (pc0 := 61) (pc' := 65) rfl (hb hby at_61) (by decide) (by decide) ?_
          show Steps p.tables e below (T24.setTop (mkF m 65 #[.val (.int p1), .val (.int p2), .val (.ref b1), .val (.ref b6), .val (.int ch), .val (.int dd), .unset, .unset, .unset, .unset] [(.int (1 : Int32))])) _
          exact kt
        exact ⟨T24, _, X24, e24, N24, pre26⟩
      · skip
        have pre27 : ∀ t, Steps p.tables e below (T24.setTop (mkF m 52 #[.val (.int p1), .val (.int p2), .val (.ref b1), .val (.ref b6), .val (.int ch), .val (.int dd), .unset, .unset, .unset, .unset] [(.int dd), (.ref b6)])) t → Steps p.tables e below (s₁.setTop (entryFrame m #[(.int p1), (.int p2)] maxLocals)) t := fun t kt => by
          refine pre25 t ?_
          refine XS.iload X24.here hx rfl (hb hby at_44) rfl ?_
          show Steps p.tables e below (T24.setTop (mkF m 46 #[.val (.int p1), .val (.int p2), .val (.ref b1), .val (.ref b6), .val (.int ch), .val (.int dd), .unset, .unset, .unset, .unset] [(.int ch), (.int (chr2 dd (fun i => own_U.getD i 0)))])) _
          refine XS.icmpNo X24.here hx rfl (hb hby at_46) rfl (feq hc46).1 ?_
          show Steps p.tables e below (T24.setTop (mkF m 49 #[.val (.int p1), .val (.int p2), .val (.ref b1), .val (.ref b6), .val (.int ch), .val (.int dd), .unset, .unset, .unset, .unset] [])) _
          refine XS.aloadN X24.here hx rfl (hb hby at_49) rfl rfl ?_
          show Steps p.tables e below (T24.setTop (mkF m 50 #[.val (.int p1), .val (.int p2), .val (.ref b1), .val (.ref b6), .val (.int ch), .val (.int dd), .unset, .unset, .unset, .unset] [(.ref b6)])) _
          refine XS.iload X24.here hx rfl (hb hby at_50) rfl ?_
          show Steps p.tables e below (T24.setTop (mkF m 52 #[.val (.int p1), .val (.int p2), .val (.ref b1), .val (.ref b6), .val (.int ch), .val (.int dd), .unset, .unset, .unset, .unset] [(.int dd), (.ref b6)])) _
          exact kt
        obtain ⟨cq28, kq28, q28a, q28b, q28c⟩ := isOf hZ e24 A6
        obtain ⟨_, _, ⟨T28, L28, k28, n28⟩, -, X28, ⟨Lc28, hQ28, l28, y28, z28⟩, st28⟩ := X24.virtualBack hx (y := (⟨"java/lang/String", "charAt", "(I)C"⟩ : MethodName)) (z := (⟨"java/lang/String", "charAt", "(I)C"⟩ : MethodName)) hown (mvT hZ (hw _ (mgE 14 rfl))) (mvT hZ (hw _ (mgE 15 rfl))) (notFace_of_selects (args := #[]) (mvT hZ (hw _ (mgE 17 rfl)))) (mvT hZ (hw _ (mgE 17 rfl))) (mvT hZ (hw _ (mgE 16 rfl))) (by decide) (backOf (W := 0) (rm2 l Z a0 hw [] b6 dd s_SIOOBE s_COMPACT_STRINGS v6 (16 : Int32) (fun i => own_L.getD i 0) h6 n0 Z6 F7_6 Fc6 F8_6 A6 Fv6 V_v6 (hrS) (hcs) (key.1.1) (key.1.2.2)) hZ (hw _ (mgE 18 rfl)) (hw _ (mgE 1 rfl)) (by decide) (by decide)) q28a q28c (g := (mkF m 52 #[.val (.int p1), .val (.int p2), .val (.ref b1), .val (.ref b6), .val (.int ch), .val (.int dd), .unset, .unset, .unset, .unset] [(.int dd), (.ref b6)])) rfl (by rw [hml]; rfl) (Steps.refl _) (argsL := [(.int dd)]) (rest := []) (lenOf pd__I_C rfl) rfl (by show 2 * 0 + _ ≤ _; exact Nat.le_of_eq rfl) (hb hby at_52) (fun _ _ => ⟨rfl, e24, (by decide : 4 + 0 ≤ _), (by decide : 136 + 0 ≤ _)⟩)
        dsimp only [Pt.U, Pt.locs, Pt.cells, Pt.slots] at X28 l28 y28 z28 st28 hQ28
        subst l28 y28 z28
        obtain ⟨rfl, N28q, e28⟩ := hQ28
        have pre29 : ∀ t, Steps p.tables e below (T28.setTop (mkF m 55 #[.val (.int p1), .val (.int p2), .val (.ref b1), .val (.ref b6), .val (.int ch), .val (.int dd), .unset, .unset, .unset, .unset] [(.int (chr2 dd (fun i => own_L.getD i 0)))])) t → Steps p.tables e below (s₁.setTop (entryFrame m #[(.int p1), (.int p2)] maxLocals)) t := fun t kt => pre27 t (st28.trans kt)
        have N28 := Fr.app N24 N28q
        have hc57 : (chr2 dd (fun i => own_L.getD i 0)) = ch := key.2.resolve_left hc46
        have pre30 : ∀ t, Steps p.tables e below (T28.setTop (mkF m 65 #[.val (.int p1), .val (.int p2), .val (.ref b1), .val (.ref b6), .val (.int ch), .val (.int dd), .unset, .unset, .unset, .unset] [(.int (1 : Int32))])) t → Steps p.tables e below (s₁.setTop (entryFrame m #[(.int p1), (.int p2)] maxLocals)) t := fun t kt => by
          refine pre29 t ?_
          refine XS.iload X28.here hx rfl (hb hby at_55) rfl ?_
          show Steps p.tables e below (T28.setTop (mkF m 57 #[.val (.int p1), .val (.int p2), .val (.ref b1), .val (.ref b6), .val (.int ch), .val (.int dd), .unset, .unset, .unset, .unset] [(.int ch), (.int (chr2 dd (fun i => own_L.getD i 0)))])) _
          refine XS.icmpNo X28.here hx rfl (hb hby at_57) rfl (teq hc57).2 ?_
          show Steps p.tables e below (T28.setTop (mkF m 60 #[.val (.int p1), .val (.int p2), .val (.ref b1), .val (.ref b6), .val (.int ch), .val (.int dd), .unset, .unset, .unset, .unset] [])) _
          refine XS.iconst X28.here hx rfl (hb hby at_60) ?_
          show Steps p.tables e below (T28.setTop (mkF m 61 #[.val (.int p1), .val (.int p2), .val (.ref b1), .val (.ref b6), .val (.int ch), .val (.int dd), .unset, .unset, .unset, .unset] [(.int (1 : Int32))])) _
          refine XS.goto X28.here hx rfl (pc0 := 61) (pc' := 65) rfl (hb hby at_61) (by decide) (by decide) ?_
          show Steps p.tables e below (T28.setTop (mkF m 65 #[.val (.int p1), .val (.int p2), .val (.ref b1), .val (.ref b6), .val (.int ch), .val (.int dd), .unset, .unset, .unset, .unset] [(.int (1 : Int32))])) _
          exact kt
        exact ⟨T28, _, X28, e28, N28, pre30⟩
  have pre31 : ∀ t, Steps p.tables e below (T20.setTop (mkF m 73 #[.val (.int p1), .val (.int p2), .val (.ref b1), .val (.ref b6), .val (.int ch), .val (.int dd), .val (.int (1 : Int32)), .val (.int (p2 &&& (15 : Int32))), .unset, .unset] [])) t → Steps p.tables e below (s₁.setTop (entryFrame m #[(.int p1), (.int p2)] maxLocals)) t := fun t kt => by
    refine pre20 t ?_
    refine XS.istore X20.here hx rfl (hb hby at_65) rfl (l' := #[.val (.int p1), .val (.int p2), .val (.ref b1), .val (.ref b6), .val (.int ch), .val (.int dd), .val (.int (1 : Int32)), .unset, .unset, .unset]) rfl ?_
    show Steps p.tables e below (T20.setTop (mkF m 67 #[.val (.int p1), .val (.int p2), .val (.ref b1), .val (.ref b6), .val (.int ch), .val (.int dd), .val (.int (1 : Int32)), .unset, .unset, .unset] [])) _
    refine XS.iloadN X20.here hx rfl (hb hby at_67) rfl ?_
    show Steps p.tables e below (T20.setTop (mkF m 68 #[.val (.int p1), .val (.int p2), .val (.ref b1), .val (.ref b6), .val (.int ch), .val (.int dd), .val (.int (1 : Int32)), .unset, .unset, .unset] [(.int p2)])) _
    refine XS.bipush X20.here hx rfl (hb hby at_68) ?_
    show Steps p.tables e below (T20.setTop (mkF m 70 #[.val (.int p1), .val (.int p2), .val (.ref b1), .val (.ref b6), .val (.int ch), .val (.int dd), .val (.int (1 : Int32)), .unset, .unset, .unset] [(.int (15 : Int32)), (.int p2)])) _
    refine XS.iand X20.here hx rfl (hb hby at_70) rfl ?_
    show Steps p.tables e below (T20.setTop (mkF m 71 #[.val (.int p1), .val (.int p2), .val (.ref b1), .val (.ref b6), .val (.int ch), .val (.int dd), .val (.int (1 : Int32)), .unset, .unset, .unset] [(.int (p2 &&& (15 : Int32)))])) _
    refine XS.istore X20.here hx rfl (hb hby at_71) rfl (l' := #[.val (.int p1), .val (.int p2), .val (.ref b1), .val (.ref b6), .val (.int ch), .val (.int dd), .val (.int (1 : Int32)), .val (.int (p2 &&& (15 : Int32))), .unset, .unset]) rfl ?_
    show Steps p.tables e below (T20.setTop (mkF m 73 #[.val (.int p1), .val (.int p2), .val (.ref b1), .val (.ref b6), .val (.int ch), .val (.int dd), .val (.int (1 : Int32)), .val (.int (p2 &&& (15 : Int32))), .unset, .unset] [])) _
    exact kt
  obtain ⟨ww, h_ww⟩ : ∃ z, z = (p2 &&& (15 : Int32)) := ⟨_, rfl⟩
  rw [← h_ww] at pre31
  have bk := own_back p2 ww h_ww
  have pre32 : ∀ t, Steps p.tables e below (T20.setTop (mkF m 76 #[.val (.int p1), .val (.int p2), .val (.ref b1), .val (.ref b6), .val (.int ch), .val (.int dd), .val (.int (1 : Int32)), .val (.int ww), .unset, .unset] [(.int ww), (.ref b1)])) t → Steps p.tables e below (s₁.setTop (entryFrame m #[(.int p1), (.int p2)] maxLocals)) t := fun t kt => by
    refine pre31 t ?_
    refine XS.aloadN X20.here hx rfl (hb hby at_73) rfl rfl ?_
    show Steps p.tables e below (T20.setTop (mkF m 74 #[.val (.int p1), .val (.int p2), .val (.ref b1), .val (.ref b6), .val (.int ch), .val (.int dd), .val (.int (1 : Int32)), .val (.int ww), .unset, .unset] [(.ref b1)])) _
    refine XS.iload X20.here hx rfl (hb hby at_74) rfl ?_
    show Steps p.tables e below (T20.setTop (mkF m 76 #[.val (.int p1), .val (.int p2), .val (.ref b1), .val (.ref b6), .val (.int ch), .val (.int dd), .val (.int (1 : Int32)), .val (.int ww), .unset, .unset] [(.int ww), (.ref b1)])) _
    exact kt
  obtain ⟨cq33, kq33, q33a, q33b, q33c⟩ := isOf hZ e20 F9_6
  obtain ⟨_, _, ⟨T33, L33, k33, n33⟩, -, X33, ⟨Lc33, hQ33, l33, y33, z33⟩, st33⟩ := X20.virtualBack hx (y := (⟨"java/lang/String", "charAt", "(I)C"⟩ : MethodName)) (z := (⟨"java/lang/String", "charAt", "(I)C"⟩ : MethodName)) hown (mvT hZ (hw _ (mgE 14 rfl))) (mvT hZ (hw _ (mgE 15 rfl))) (notFace_of_selects (args := #[]) (mvT hZ (hw _ (mgE 17 rfl)))) (mvT hZ (hw _ (mgE 17 rfl))) (mvT hZ (hw _ (mgE 16 rfl))) (by decide) (backOf (W := 0) (rm2 l Z a0 hw [] b1 ww s_SIOOBE s_COMPACT_STRINGS v1 (16 : Int32) (fun i => own_U.getD i 0) h6 n0 Z6 F7_6 F10_6 F8_6 F9_6 F11_6 F12_6 (hrS) (hcs) (bk.1.1) (bk.1.2)) hZ (hw _ (mgE 18 rfl)) (hw _ (mgE 1 rfl)) (by decide) (by decide)) q33a q33c (g := (mkF m 76 #[.val (.int p1), .val (.int p2), .val (.ref b1), .val (.ref b6), .val (.int ch), .val (.int dd), .val (.int (1 : Int32)), .val (.int ww), .unset, .unset] [(.int ww), (.ref b1)])) rfl (by rw [hml]; rfl) (Steps.refl _) (argsL := [(.int ww)]) (rest := []) (lenOf pd__I_C rfl) rfl (by show 2 * 0 + _ ≤ _; exact Nat.le_of_eq rfl) (hb hby at_76) (fun _ _ => ⟨rfl, e20, (by decide : 4 + 0 ≤ _), (by decide : 136 + 0 ≤ _)⟩)
  dsimp only [Pt.U, Pt.locs, Pt.cells, Pt.slots] at X33 l33 y33 z33 st33 hQ33
  subst l33 y33 z33
  obtain ⟨rfl, N33q, e33⟩ := hQ33
  have pre34 : ∀ t, Steps p.tables e below (T33.setTop (mkF m 79 #[.val (.int p1), .val (.int p2), .val (.ref b1), .val (.ref b6), .val (.int ch), .val (.int dd), .val (.int (1 : Int32)), .val (.int ww), .unset, .unset] [(.int (chr2 ww (fun i => own_U.getD i 0)))])) t → Steps p.tables e below (s₁.setTop (entryFrame m #[(.int p1), (.int p2)] maxLocals)) t := fun t kt => pre32 t (st33.trans kt)
  have N33 := Fr.app N20 N33q
  obtain ⟨_, _, ⟨T35, L35, k35, n35⟩, -, X35, ⟨Lc35, hQ35, l35, y35, z35⟩, st35⟩ := Jvm.LawKit.callS X33 hx (y := (⟨"com/example/commonroom/commonroom/webdav/UriSyntax", "hexDigit", "(C)I"⟩ : MethodName)) hown (mvT hZ (hw _ (mgE 10 rfl))) (mvT hZ (hw _ (mgE 11 rfl))) (mvT hZ (hw _ (mgE 12 rfl))) (mvT hZ (hw _ (mgE 13 rfl))) (by decide) (backOf (W := 0) (rm1 l Z a0 hw [] (chr2 ww (fun i => own_U.getD i 0)) h6 n0 Z6 ) hZ (hw _ (mgE 13 rfl)) (hw _ (mgE 12 rfl)) (by decide) (by decide)) (g := (mkF m 79 #[.val (.int p1), .val (.int p2), .val (.ref b1), .val (.ref b6), .val (.int ch), .val (.int dd), .val (.int (1 : Int32)), .val (.int ww), .unset, .unset] [(.int (chr2 ww (fun i => own_U.getD i 0)))])) rfl (by rw [hml]; rfl) (argsL := [(.int (chr2 ww (fun i => own_U.getD i 0)))]) (rest := []) (lenOf pd__C_I rfl) rfl (by show 2 * 0 + _ ≤ _; exact Nat.le_of_eq rfl) (hb hby at_79) (fun _ _ => ⟨rfl, e33, (by decide : 4 + 0 ≤ _), (by decide : 136 + 0 ≤ _)⟩)
  dsimp only [Pt.U, Pt.locs, Pt.cells, Pt.slots] at X35 l35 y35 z35 st35 hQ35
  subst l35 y35 z35
  obtain ⟨rfl, N35q, e35⟩ := hQ35
  have pre36 : ∀ t, Steps p.tables e below (T35.setTop (mkF m 82 #[.val (.int p1), .val (.int p2), .val (.ref b1), .val (.ref b6), .val (.int ch), .val (.int dd), .val (.int (1 : Int32)), .val (.int ww), .unset, .unset] [(.int (r1 (chr2 ww (fun i => own_U.getD i 0))))])) t → Steps p.tables e below (s₁.setTop (entryFrame m #[(.int p1), (.int p2)] maxLocals)) t := fun t kt => pre34 t (st35 t kt)
  have N35 := Fr.app N33 N35q
  have hc84 : (r1 (chr2 ww (fun i => own_U.getD i 0))) = ww := bk.2.1
  have pre37 : ∀ t, Steps p.tables e below (T35.setTop (mkF m 97 #[.val (.int p1), .val (.int p2), .val (.ref b1), .val (.ref b6), .val (.int ch), .val (.int dd), .val (.int (1 : Int32)), .val (.int ww), .val (.int (1 : Int32)), .unset] [(.int ww), (.ref b6)])) t → Steps p.tables e below (s₁.setTop (entryFrame m #[(.int p1), (.int p2)] maxLocals)) t := fun t kt => by
    refine pre36 t ?_
    refine XS.iload X35.here hx rfl (hb hby at_82) rfl ?_
    show Steps p.tables e below (T35.setTop (mkF m 84 #[.val (.int p1), .val (.int p2), .val (.ref b1), .val (.ref b6), .val (.int ch), .val (.int dd), .val (.int (1 : Int32)), .val (.int ww), .unset, .unset] [(.int ww), (.int (r1 (chr2 ww (fun i => own_U.getD i 0))))])) _
    refine XS.icmpNo X35.here hx rfl (hb hby at_84) rfl (teq hc84).2 ?_
    show Steps p.tables e below (T35.setTop (mkF m 87 #[.val (.int p1), .val (.int p2), .val (.ref b1), .val (.ref b6), .val (.int ch), .val (.int dd), .val (.int (1 : Int32)), .val (.int ww), .unset, .unset] [])) _
    refine XS.iconst X35.here hx rfl (hb hby at_87) ?_
    show Steps p.tables e below (T35.setTop (mkF m 88 #[.val (.int p1), .val (.int p2), .val (.ref b1), .val (.ref b6), .val (.int ch), .val (.int dd), .val (.int (1 : Int32)), .val (.int ww), .unset, .unset] [(.int (1 : Int32))])) _
    refine XS.goto X35.here hx rfl (pc0 := 88) (pc' := 92) rfl (hb hby at_88) (by decide) (by decide) ?_
    show Steps p.tables e below (T35.setTop (mkF m 92 #[.val (.int p1), .val (.int p2), .val (.ref b1), .val (.ref b6), .val (.int ch), .val (.int dd), .val (.int (1 : Int32)), .val (.int ww), .unset, .unset] [(.int (1 : Int32))])) _
    refine XS.istore X35.here hx rfl (hb hby at_92) rfl (l' := #[.val (.int p1), .val (.int p2), .val (.ref b1), .val (.ref b6), .val (.int ch), .val (.int dd), .val (.int (1 : Int32)), .val (.int ww), .val (.int (1 : Int32)), .unset]) rfl ?_
    show Steps p.tables e below (T35.setTop (mkF m 94 #[.val (.int p1), .val (.int p2), .val (.ref b1), .val (.ref b6), .val (.int ch), .val (.int dd), .val (.int (1 : Int32)), .val (.int ww), .val (.int (1 : Int32)), .unset] [])) _
    refine XS.aloadN X35.here hx rfl (hb hby at_94) rfl rfl ?_
    show Steps p.tables e below (T35.setTop (mkF m 95 #[.val (.int p1), .val (.int p2), .val (.ref b1), .val (.ref b6), .val (.int ch), .val (.int dd), .val (.int (1 : Int32)), .val (.int ww), .val (.int (1 : Int32)), .unset] [(.ref b6)])) _
    refine XS.iload X35.here hx rfl (hb hby at_95) rfl ?_
    show Steps p.tables e below (T35.setTop (mkF m 97 #[.val (.int p1), .val (.int p2), .val (.ref b1), .val (.ref b6), .val (.int ch), .val (.int dd), .val (.int (1 : Int32)), .val (.int ww), .val (.int (1 : Int32)), .unset] [(.int ww), (.ref b6)])) _
    exact kt
  obtain ⟨cq38, kq38, q38a, q38b, q38c⟩ := isOf hZ e35 A6
  obtain ⟨_, _, ⟨T38, L38, k38, n38⟩, -, X38, ⟨Lc38, hQ38, l38, y38, z38⟩, st38⟩ := X35.virtualBack hx (y := (⟨"java/lang/String", "charAt", "(I)C"⟩ : MethodName)) (z := (⟨"java/lang/String", "charAt", "(I)C"⟩ : MethodName)) hown (mvT hZ (hw _ (mgE 14 rfl))) (mvT hZ (hw _ (mgE 15 rfl))) (notFace_of_selects (args := #[]) (mvT hZ (hw _ (mgE 17 rfl)))) (mvT hZ (hw _ (mgE 17 rfl))) (mvT hZ (hw _ (mgE 16 rfl))) (by decide) (backOf (W := 0) (rm2 l Z a0 hw [] b6 ww s_SIOOBE s_COMPACT_STRINGS v6 (16 : Int32) (fun i => own_L.getD i 0) h6 n0 Z6 F7_6 Fc6 F8_6 A6 Fv6 V_v6 (hrS) (hcs) (bk.1.1) (bk.1.2)) hZ (hw _ (mgE 18 rfl)) (hw _ (mgE 1 rfl)) (by decide) (by decide)) q38a q38c (g := (mkF m 97 #[.val (.int p1), .val (.int p2), .val (.ref b1), .val (.ref b6), .val (.int ch), .val (.int dd), .val (.int (1 : Int32)), .val (.int ww), .val (.int (1 : Int32)), .unset] [(.int ww), (.ref b6)])) rfl (by rw [hml]; rfl) (Steps.refl _) (argsL := [(.int ww)]) (rest := []) (lenOf pd__I_C rfl) rfl (by show 2 * 0 + _ ≤ _; exact Nat.le_of_eq rfl) (hb hby at_97) (fun _ _ => ⟨rfl, e35, (by decide : 4 + 0 ≤ _), (by decide : 136 + 0 ≤ _)⟩)
  dsimp only [Pt.U, Pt.locs, Pt.cells, Pt.slots] at X38 l38 y38 z38 st38 hQ38
  subst l38 y38 z38
  obtain ⟨rfl, N38q, e38⟩ := hQ38
  have pre39 : ∀ t, Steps p.tables e below (T38.setTop (mkF m 100 #[.val (.int p1), .val (.int p2), .val (.ref b1), .val (.ref b6), .val (.int ch), .val (.int dd), .val (.int (1 : Int32)), .val (.int ww), .val (.int (1 : Int32)), .unset] [(.int (chr2 ww (fun i => own_L.getD i 0)))])) t → Steps p.tables e below (s₁.setTop (entryFrame m #[(.int p1), (.int p2)] maxLocals)) t := fun t kt => pre37 t (st38.trans kt)
  have N38 := Fr.app N35 N38q
  obtain ⟨_, _, ⟨T40, L40, k40, n40⟩, -, X40, ⟨Lc40, hQ40, l40, y40, z40⟩, st40⟩ := Jvm.LawKit.callS X38 hx (y := (⟨"com/example/commonroom/commonroom/webdav/UriSyntax", "hexDigit", "(C)I"⟩ : MethodName)) hown (mvT hZ (hw _ (mgE 10 rfl))) (mvT hZ (hw _ (mgE 11 rfl))) (mvT hZ (hw _ (mgE 12 rfl))) (mvT hZ (hw _ (mgE 13 rfl))) (by decide) (backOf (W := 0) (rm1 l Z a0 hw [] (chr2 ww (fun i => own_L.getD i 0)) h6 n0 Z6 ) hZ (hw _ (mgE 13 rfl)) (hw _ (mgE 12 rfl)) (by decide) (by decide)) (g := (mkF m 100 #[.val (.int p1), .val (.int p2), .val (.ref b1), .val (.ref b6), .val (.int ch), .val (.int dd), .val (.int (1 : Int32)), .val (.int ww), .val (.int (1 : Int32)), .unset] [(.int (chr2 ww (fun i => own_L.getD i 0)))])) rfl (by rw [hml]; rfl) (argsL := [(.int (chr2 ww (fun i => own_L.getD i 0)))]) (rest := []) (lenOf pd__C_I rfl) rfl (by show 2 * 0 + _ ≤ _; exact Nat.le_of_eq rfl) (hb hby at_100) (fun _ _ => ⟨rfl, e38, (by decide : 4 + 0 ≤ _), (by decide : 136 + 0 ≤ _)⟩)
  dsimp only [Pt.U, Pt.locs, Pt.cells, Pt.slots] at X40 l40 y40 z40 st40 hQ40
  subst l40 y40 z40
  obtain ⟨rfl, N40q, e40⟩ := hQ40
  have pre41 : ∀ t, Steps p.tables e below (T40.setTop (mkF m 103 #[.val (.int p1), .val (.int p2), .val (.ref b1), .val (.ref b6), .val (.int ch), .val (.int dd), .val (.int (1 : Int32)), .val (.int ww), .val (.int (1 : Int32)), .unset] [(.int (r1 (chr2 ww (fun i => own_L.getD i 0))))])) t → Steps p.tables e below (s₁.setTop (entryFrame m #[(.int p1), (.int p2)] maxLocals)) t := fun t kt => pre39 t (st40 t kt)
  have N40 := Fr.app N38 N40q
  have hc105 : (r1 (chr2 ww (fun i => own_L.getD i 0))) = ww := bk.2.2
  have pre42 : ∀ t, Steps p.tables e below (T40.setTop (mkF m 135 #[.val (.int p1), .val (.int p2), .val (.ref b1), .val (.ref b6), .val (.int ch), .val (.int dd), .val (.int (1 : Int32)), .val (.int ww), .val (.int (1 : Int32)), .val (.int (1 : Int32))] [(.int (1 : Int32))])) t → Steps p.tables e below (s₁.setTop (entryFrame m #[(.int p1), (.int p2)] maxLocals)) t := fun t kt => by
    refine pre41 t ?_
    refine XS.iload X40.here hx rfl (hb hby at_103) rfl ?_
    show Steps p.tables e below (T40.setTop (mkF m 105 #[.val (.int p1), .val (.int p2), .val (.ref b1), .val (.ref b6), .val (.int ch), .val (.int dd), .val (.int (1 : Int32)), .val (.int ww), .val (.int (1 : Int32)), .unset] [(.int ww), (.int (r1 (chr2 ww (fun i => own_L.getD i 0))))])) _
    refine XS.icmpNo X40.here hx rfl (hb hby at_105) rfl (teq hc105).2 ?_
    show Steps p.tables e below (T40.setTop (mkF m 108 #[.val (.int p1), .val (.int p2), .val (.ref b1), .val (.ref b6), .val (.int ch), .val (.int dd), .val (.int (1 : Int32)), .val (.int ww), .val (.int (1 : Int32)), .unset] [])) _
    refine XS.iconst X40.here hx rfl (hb hby at_108) ?_
    show Steps p.tables e below (T40.setTop (mkF m 109 #[.val (.int p1), .val (.int p2), .val (.ref b1), .val (.ref b6), .val (.int ch), .val (.int dd), .val (.int (1 : Int32)), .val (.int ww), .val (.int (1 : Int32)), .unset] [(.int (1 : Int32))])) _
    refine XS.goto X40.here hx rfl (pc0 := 109) (pc' := 113) rfl (hb hby at_109) (by decide) (by decide) ?_
    show Steps p.tables e below (T40.setTop (mkF m 113 #[.val (.int p1), .val (.int p2), .val (.ref b1), .val (.ref b6), .val (.int ch), .val (.int dd), .val (.int (1 : Int32)), .val (.int ww), .val (.int (1 : Int32)), .unset] [(.int (1 : Int32))])) _
    refine XS.istore X40.here hx rfl (hb hby at_113) rfl (l' := #[.val (.int p1), .val (.int p2), .val (.ref b1), .val (.ref b6), .val (.int ch), .val (.int dd), .val (.int (1 : Int32)), .val (.int ww), .val (.int (1 : Int32)), .val (.int (1 : Int32))]) rfl ?_
    show Steps p.tables e below (T40.setTop (mkF m 115 #[.val (.int p1), .val (.int p2), .val (.ref b1), .val (.ref b6), .val (.int ch), .val (.int dd), .val (.int (1 : Int32)), .val (.int ww), .val (.int (1 : Int32)), .val (.int (1 : Int32))] [])) _
    refine XS.iload X40.here hx rfl (hb hby at_115) rfl ?_
    show Steps p.tables e below (T40.setTop (mkF m 117 #[.val (.int p1), .val (.int p2), .val (.ref b1), .val (.ref b6), .val (.int ch), .val (.int dd), .val (.int (1 : Int32)), .val (.int ww), .val (.int (1 : Int32)), .val (.int (1 : Int32))] [(.int (1 : Int32))])) _
    refine XS.ifNo X40.here hx rfl (hb hby at_117) rfl ((if0 _ _).trans (feq (by decide : ¬ ((1 : Int32) = (0 : Int32)))).1) ?_
    show Steps p.tables e below (T40.setTop (mkF m 120 #[.val (.int p1), .val (.int p2), .val (.ref b1), .val (.ref b6), .val (.int ch), .val (.int dd), .val (.int (1 : Int32)), .val (.int ww), .val (.int (1 : Int32)), .val (.int (1 : Int32))] [])) _
    refine XS.iload X40.here hx rfl (hb hby at_120) rfl ?_
    show Steps p.tables e below (T40.setTop (mkF m 122 #[.val (.int p1), .val (.int p2), .val (.ref b1), .val (.ref b6), .val (.int ch), .val (.int dd), .val (.int (1 : Int32)), .val (.int ww), .val (.int (1 : Int32)), .val (.int (1 : Int32))] [(.int (1 : Int32))])) _
    refine XS.ifNo X40.here hx rfl (hb hby at_122) rfl ((if0 _ _).trans (feq (by decide : ¬ ((1 : Int32) = (0 : Int32)))).1) ?_
    show Steps p.tables e below (T40.setTop (mkF m 125 #[.val (.int p1), .val (.int p2), .val (.ref b1), .val (.ref b6), .val (.int ch), .val (.int dd), .val (.int (1 : Int32)), .val (.int ww), .val (.int (1 : Int32)), .val (.int (1 : Int32))] [])) _
    refine XS.iload X40.here hx rfl (hb hby at_125) rfl ?_
    show Steps p.tables e below (T40.setTop (mkF m 127 #[.val (.int p1), .val (.int p2), .val (.ref b1), .val (.ref b6), .val (.int ch), .val (.int dd), .val (.int (1 : Int32)), .val (.int ww), .val (.int (1 : Int32)), .val (.int (1 : Int32))] [(.int (1 : Int32))])) _
    refine XS.ifNo X40.here hx rfl (hb hby at_127) rfl ((if0 _ _).trans (feq (by decide : ¬ ((1 : Int32) = (0 : Int32)))).1) ?_
    show Steps p.tables e below (T40.setTop (mkF m 130 #[.val (.int p1), .val (.int p2), .val (.ref b1), .val (.ref b6), .val (.int ch), .val (.int dd), .val (.int (1 : Int32)), .val (.int ww), .val (.int (1 : Int32)), .val (.int (1 : Int32))] [])) _
    refine XS.iconst X40.here hx rfl (hb hby at_130) ?_
    show Steps p.tables e below (T40.setTop (mkF m 131 #[.val (.int p1), .val (.int p2), .val (.ref b1), .val (.ref b6), .val (.int ch), .val (.int dd), .val (.int (1 : Int32)), .val (.int ww), .val (.int (1 : Int32)), .val (.int (1 : Int32))] [(.int (1 : Int32))])) _
    refine XS.goto X40.here hx rfl (pc0 := 131) (pc' := 135) rfl (hb hby at_131) (by decide) (by decide) ?_
    show Steps p.tables e below (T40.setTop (mkF m 135 #[.val (.int p1), .val (.int p2), .val (.ref b1), .val (.ref b6), .val (.int ch), .val (.int dd), .val (.int (1 : Int32)), .val (.int ww), .val (.int (1 : Int32)), .val (.int (1 : Int32))] [(.int (1 : Int32))])) _
    exact kt
  obtain ⟨fs, hr, hrun, hended, hEnd⟩ := Stand.leaveW (s := s) X40 hS6 (by rw [e40]; exact Sz6) (v := some (.int (1 : Int32))) (fun h => by rw [Bd.returns] at h; cases h)
  refine ⟨_, _, pre42 _ ?_, hrun, hended, _, _, rfl, ?_, hEnd.1, hEnd.2.1, hEnd.2.2.1, hEnd.2.2.2.mono (by decide) (by decide)⟩
  · exact retN X40 hx (t := .boolean) Bd.returns (by simp) (hb hby at_135) hr
  · show Q0 Z p1 p2 s_SIOOBE s_COMPACT_STRINGS h0 n0 _ T40.heap _
    rw [e40]
    exact ⟨rfl, N40⟩
set_option maxRecDepth 65536 in
set_option maxHeartbeats 40000000 in
theorem comes_1 {Post : Tables → Env → Array Value → State → Outcome → State → Prop} (hpost : ∀ tb e args s v u, (limb_1_1.after args s (.returned v) u = true ∧ limb_1_2.after args s (.returned v) u = true ∧ True) → ReturnedEndW s (.returned v) u (Jvm.fieldLocs frame_1_writes args s ++ Jvm.arrayLocs frame_1_arrays args s ++ Jvm.staticLocs frame_1_statics s) 8 2112 → Post tb e args s (.returned v) u) :
    ArmFor flags0 classFile x code maxLocals ret World_1 tables_1 room_1 Calls_1 rest_1 Pre_1 Post := by
  intro l hfl _ _ p e ha hc hk s m args below hf hA hF happ hP
  obtain ⟨hcalls, hrest, hpre⟩ := hP
  obtain ⟨-, -, -, hnamed, -, -, -, hat⟩ := (Spec.applies_iff hf).mp happ
  obtain ⟨hg, hn⟩ := and_e (Cond.before_iff.mp (show (Jvm.Cond.and given_1 narrow_1).before args s = true from hpre))
  obtain ⟨g1, g2⟩ := and_e hg
  obtain ⟨g3, g4⟩ := and_e g2
  obtain ⟨w0, w1, rfl⟩ : ∃ w0 w1 : Value, args = #[w0, w1] := by
    have hs : args.size = 2 := by simpa [Cond.value, given_1] using g1
    obtain ⟨L⟩ := args
    match L, hs with
    | [w0, w1], _ => exact ⟨w0, w1, rfl⟩
  have hw := fun d (hd : d ∈ tables_1) => atoms_spec (ws := Jvm.Cond.code x code maxLocals ret :: tables_1) hat d (List.mem_cons_of_mem _ hd)
  have hfit : Fit s := fun {y c} hc i hi => by
    obtain ⟨ha, rfl⟩ := Array.getElem?_eq_some_iff.mp hc
    have q := List.all_eq_true.mp ((Array.all_eq_true_iff_forall_mem.mp hF) _ (Array.getElem_mem ha)) i (List.mem_range.mpr hi)
    simpa [Array.getElem?_eq_getElem hi] using q
  obtain ⟨hsets, hown0⟩ := atoms_of _ (rest_1_c_eq ▸ (show rest_1_c.before _ s = true from hrest))
  have hr0 := Cond.before_iff.mp hown0
  obtain ⟨i0, ei0⟩ := is_v g3
  obtain rfl : w0 = (.int i0) := Option.some.inj ei0
  obtain ⟨i1, ei1⟩ := is_v g4
  obtain rfl : w1 = (.int i1) := Option.some.inj ei1
  obtain ⟨fm, evF, hrF⟩ := isR_v (Cond.before_iff.mp (hsets _ (mgE 8 rfl)))
  have S_F := Sta.start evF (Or.inl (hsets _ (mgE 7 rfl)))
  obtain ⟨cs, evC⟩ := is_v (Cond.before_iff.mp (hsets _ (mgE 1 rfl)))
  have S_C := Sta.start evC (Or.inl (hsets _ (mgE 0 rfl)))
  have hcs : ¬ (cs = (0 : Int32)) := by
    intro z
    subst z
    have q := not_v (Cond.before_iff.mp (hsets _ (mgE 2 rfl)))
    rw [eq_i evC (Term.int_eval 0) rfl] at q
    cases q
  obtain ⟨n, o, h1, h2, h3, _, L, rfl, ⟨rfl, N⟩, hq⟩ := rm0 l s _ hw tables_1 i0 i1 fm cs s.heap s.heap.size (Nat.le_refl _) S_F S_C hrF hcs (hsets _ (mgE 2 rfl)) (hcalls.1 _ (mgE 0 rfl)) (hcalls.1 _ (mgE 1 rfl)) p e ha hc hk s m _ below hf ((Spec.applies_iff_loose hf).mp happ).1 ⟨rfl, State.Warmed39.refl s, rfl, rfl⟩ trivial
  refine ⟨n, _, h1, h2, h3, hpost _ _ _ _ _ _ ⟨Cond.after_iff.mpr rfl, Cond.after_iff.mpr (eq_i res_at (Term.int_eval (1)) rfl), trivial⟩ ⟨hq.1, hq.2.1, hq.2.2.1, (hq.2.2.2.sift fun y hy => Or.inr (N y hy)).mono (by decide) (by decide)⟩⟩
theorem main_1_1 : Claimed_1_1 := comes_1 fun _ _ _ _ _ _ h hF => ⟨h.1, hF⟩
theorem main_1_2 : Claimed_1_2 := comes_1 fun _ _ _ _ _ _ h hF => ⟨h.2.1, hF⟩
end Jvm.Pilot.@@N@@
namespace Jvm.Pilot.@@N@@
open Jvm Jvm.ClassFile Sem Op Lib Jvm.Free Jvm.Stand Jvm.Pilot.@@N@@.Jvm.D
/-! MADE BY PROGRAM (witnessworld.py) out of the Statement's table words and the real class files: 17 classes; the members and pool entries that the words name. The judged class is class 1, her method 1. -/
namespace start1
open Jvm.ClassFile
def u (s : String) : CpInfo := .utf8 (stringToUtf16 s)
/-- a pool by its gaps: so many unusable entries, then the entry; so many at the end -/
def gap : Nat → List CpInfo → List CpInfo
  | 0, r => r
  | n + 1, r => .unusable :: gap n r
def poolList (es : List (Nat × CpInfo)) (last : Nat) : List CpInfo := es.foldr (fun e r => gap e.1 (e.2 :: r)) (gap last [])
def pool (es : List (Nat × CpInfo)) (last : Nat) : Array CpInfo := ⟨poolList es last⟩
def fileOf (pool : Array CpInfo) (this : Nat) (attrs : Array Attribute := #[]) (ms : Array MethodInfo := #[]) (fl : Nat := 33) (sup : Nat := 0) (ifs : Array Nat := #[]) (fds : Array FieldInfo := #[]) : ClassFile where
  minorVersion := 0
  majorVersion := 65
  constantPool := pool
  accessFlags := fl
  thisClass := this
  superClass := sup
  interfaces := ifs
  fields := fds
  methods := ms
  attributes := attrs
def plain (name : String) (sup : Option ClassId) : Class where
  name := name
  kind := .ordinary
  loader := none
  accessFlags := 33
  super := sup
  interfaces := #[]
  cf := none
  fields := #[]
  methods := #[]
  instanceTypes := #[]
  staticTypes := #[]
  resolved := #[]
  callSites := []
  init := .initialized
  statics := none
  mirror := none

def pool0 : Array CpInfo := pool [(5, u "<init>"), (0, u "()V"), (1, .class_ 10), (1, u "java/lang/Object")] 113

def k0m0 : Method := { name := "<init>", desc := "()V", sig := { parameters := [], returnType := none }, accessFlags := 1, code := none }
/-- java/lang/Object -/
def k0 : Class := { plain "java/lang/Object" none with
  accessFlags := 33
  interfaces := #[]
  cf := some (fileOf pool0 8 #[] #[{ accessFlags := 1, nameIndex := 5, descriptorIndex := 6, attributes := #[] }] 33 0 #[] #[])
  fields := #[]
  methods := #[k0m0]
  instanceTypes := #[]
  staticTypes := #[]
  resolved := Array.replicate 124 none
  statics := none }

def pool1 : Array CpInfo := pool [(2, .class_ 4), (1, u "java/lang/Object"), (0, u "<init>"), (0, u "()V"), (0, .string 8), (0, u "0123456789ABCDEF"), (0, .string 10), (0, u "0123456789abcdef"), (0, .integer 65535), (0, .methodref 13 14), (0, .class_ 15), (0, .nameAndType 16 17), (0, u "com/example/commonroom/commonroom/webdav/UriSyntax"), (0, u "hexDigit"), (0, u "(C)I"), (0, .methodref 19 20), (0, .class_ 21), (0, .nameAndType 22 23), (0, u "java/lang/String"), (0, u "charAt"), (0, u "(I)C"), (0, .class_ 25), (0, u "com/example/commonroom/commonroom/webdav/UriSyntaxHexDigitPinLaw"), (2, u "law"), (0, u "(II)Z")] 3

def k1m0 : Method := { name := "<init>", desc := "()V", sig := { parameters := [], returnType := none }, accessFlags := 2, code := none }
def k1c1 : Code := { maxStack := 2, maxLocals := 10, code := code, exceptionTable := #[], attributes := #[] }
def k1m1 : Method := { name := "law", desc := "(II)Z", sig := { parameters := [.int, .int], returnType := some .boolean }, accessFlags := 9, code := some k1c1 }
/-- com/example/commonroom/commonroom/webdav/UriSyntaxHexDigitPinLaw -/
def k1 : Class := { plain "com/example/commonroom/commonroom/webdav/UriSyntaxHexDigitPinLaw" (some 0) with
  accessFlags := 49
  interfaces := #[]
  cf := some (fileOf pool1 24 #[] #[{ accessFlags := 2, nameIndex := 5, descriptorIndex := 6, attributes := #[] }, { accessFlags := 9, nameIndex := 28, descriptorIndex := 29, attributes := #[] }] 49 2 #[] #[])
  fields := #[]
  methods := #[k1m0, k1m1]
  instanceTypes := #[]
  staticTypes := #[]
  resolved := Array.replicate 33 none
  statics := none }

def pool2 : Array CpInfo := pool [(1, .class_ 2), (0, u "java/io/Serializable"), (0, .class_ 4), (0, u "java/lang/Object")] 2

/-- java/io/Serializable -/
def k2 : Class := { plain "java/io/Serializable" (some 0) with
  accessFlags := 1537
  interfaces := #[]
  cf := some (fileOf pool2 1 #[] #[] 1537 3 #[] #[])
  fields := #[]
  methods := #[]
  instanceTypes := #[]
  staticTypes := #[]
  resolved := Array.replicate 7 none
  statics := none }

def pool3 : Array CpInfo := pool [(1, .class_ 2), (0, u "java/lang/Comparable"), (0, .class_ 4), (0, u "java/lang/Object")] 7

/-- java/lang/Comparable -/
def k3 : Class := { plain "java/lang/Comparable" (some 0) with
  accessFlags := 1537
  interfaces := #[]
  cf := some (fileOf pool3 1 #[] #[] 1537 3 #[] #[])
  fields := #[]
  methods := #[]
  instanceTypes := #[]
  staticTypes := #[]
  resolved := Array.replicate 12 none
  statics := none }

def pool4 : Array CpInfo := pool [(2, .class_ 4), (1, u "java/lang/CharSequence"), (42, .class_ 48), (0, u "java/lang/CharSequence$1CodePointIterator"), (10, .class_ 60), (0, u "java/lang/CharSequence$1CharIterator"), (5, .class_ 67), (0, u "java/lang/Object")] 63

/-- java/lang/CharSequence -/
def k4 : Class := { plain "java/lang/CharSequence" (some 0) with
  accessFlags := 1537
  interfaces := #[]
  cf := some (fileOf pool4 2 #[.nestMembers #[47, 59]] #[] 1537 66 #[] #[])
  fields := #[]
  methods := #[]
  instanceTypes := #[]
  staticTypes := #[]
  resolved := Array.replicate 131 none
  statics := none }

def pool5 : Array CpInfo := pool [(1, .class_ 2), (0, u "java/lang/constant/Constable"), (0, .class_ 4), (0, u "java/lang/Object")] 6

/-- java/lang/constant/Constable -/
def k5 : Class := { plain "java/lang/constant/Constable" (some 0) with
  accessFlags := 1537
  interfaces := #[]
  cf := some (fileOf pool5 1 #[] #[] 1537 3 #[] #[])
  fields := #[]
  methods := #[]
  instanceTypes := #[]
  staticTypes := #[]
  resolved := Array.replicate 11 none
  statics := none }

def pool6 : Array CpInfo := pool [(1, .class_ 2), (0, u "java/lang/constant/ConstantDesc"), (0, .class_ 4), (0, u "java/lang/Object")] 32

/-- java/lang/constant/ConstantDesc -/
def k6 : Class := { plain "java/lang/constant/ConstantDesc" (some 0) with
  accessFlags := 1537
  interfaces := #[]
  cf := some (fileOf pool6 1 #[] #[] 1537 3 #[] #[])
  fields := #[]
  methods := #[]
  instanceTypes := #[]
  staticTypes := #[]
  resolved := Array.replicate 37 none
  statics := none }

def pool7 : Array CpInfo := pool [(2, .class_ 4), (1, u "java/lang/Object"), (0, u "<init>"), (0, u "()V"), (2, .fieldref 10 11), (0, .class_ 12), (0, .nameAndType 13 14), (0, u "java/lang/String"), (0, u "value"), (0, u "[B"), (0, .fieldref 10 16), (0, .nameAndType 17 18), (0, u "coder"), (0, u "B"), (2, u "hash"), (0, u "I"), (2, u "hashIsZero"), (0, u "Z"), (11, .fieldref 10 39), (0, .nameAndType 40 26), (0, u "COMPACT_STRINGS"), (66, .class_ 109), (1, u "java/lang/StringLatin1"), (32, u "()Z"), (220, u "([BI)C"), (27, u "(II)V"), (35, u "(I)C"), (64, .methodref 10 493), (0, .nameAndType 494 142), (0, u "isLatin1"), (0, .methodref 107 496), (0, .nameAndType 497 363), (0, u "charAt"), (3, u "checkIndex"), (73, .class_ 576), (0, u "java/lang/CharSequence"), (22, u "CASE_INSENSITIVE_ORDER"), (0, u "Ljava/util/Comparator;"), (452, .fieldref 1054 1055), (0, .class_ 1056), (0, .nameAndType 1057 1058), (0, u "jdk/internal/util/Preconditions"), (0, u "SIOOBE_FORMATTER"), (0, u "Ljava/util/function/BiFunction;"), (0, .methodref 1054 1060), (0, .nameAndType 501 1061), (0, u "(IILjava/util/function/BiFunction;)I"), (39, u "serialPersistentFields"), (0, u "[Ljava/io/ObjectStreamField;"), (0, .class_ 1104), (0, u "java/lang/String$CaseInsensitiveComparator"), (1, .class_ 1107), (0, u "java/io/Serializable"), (0, .class_ 1109), (0, u "java/lang/Comparable"), (0, .class_ 1111), (0, u "java/lang/constant/Constable"), (0, .class_ 1113), (0, u "java/lang/constant/ConstantDesc"), (2, u "serialVersionUID"), (0, u "J"), (3, u "REPL"), (0, u "C"), (2, u "LATIN1"), (1, u "UTF16")] 323

def k7m0 : Method := { name := "<init>", desc := "()V", sig := { parameters := [], returnType := none }, accessFlags := 1, code := none }
def k7c1 : Code := { maxStack := 2, maxLocals := 2, code := jdk_42_method_56_code, exceptionTable := #[], attributes := #[] }
def k7m1 : Method := { name := "charAt", desc := "(I)C", sig := { parameters := [.int], returnType := some .char }, accessFlags := 1, code := some k7c1 }
def k7c2 : Code := { maxStack := 1, maxLocals := 1, code := jdk_42_method_154_code, exceptionTable := #[], attributes := #[] }
def k7m2 : Method := { name := "isLatin1", desc := "()Z", sig := { parameters := [], returnType := some .boolean }, accessFlags := 0, code := some k7c2 }
def k7c3 : Code := { maxStack := 3, maxLocals := 2, code := jdk_42_method_155_code, exceptionTable := #[], attributes := #[] }
def k7m3 : Method := { name := "checkIndex", desc := "(II)V", sig := { parameters := [.int, .int], returnType := none }, accessFlags := 8, code := some k7c3 }
/-- java/lang/String -/
def k7 : Class := { plain "java/lang/String" (some 0) with
  accessFlags := 49
  interfaces := #[2, 3, 4, 5, 6]
  cf := some (fileOf pool7 10 #[.nestMembers #[1103]] #[{ accessFlags := 1, nameIndex := 5, descriptorIndex := 6, attributes := #[] }, { accessFlags := 1, nameIndex := 497, descriptorIndex := 427, attributes := #[] }, { accessFlags := 0, nameIndex := 494, descriptorIndex := 142, attributes := #[] }, { accessFlags := 8, nameIndex := 501, descriptorIndex := 391, attributes := #[] }] 49 2 #[1106, 1108, 575, 1110, 1112] #[{ accessFlags := 18, nameIndex := 13, descriptorIndex := 14, attributes := #[] }, { accessFlags := 18, nameIndex := 17, descriptorIndex := 18, attributes := #[] }, { accessFlags := 2, nameIndex := 21, descriptorIndex := 22, attributes := #[] }, { accessFlags := 2, nameIndex := 25, descriptorIndex := 26, attributes := #[] }, { accessFlags := 26, nameIndex := 1116, descriptorIndex := 1117, attributes := #[] }, { accessFlags := 24, nameIndex := 40, descriptorIndex := 26, attributes := #[] }, { accessFlags := 26, nameIndex := 1101, descriptorIndex := 1102, attributes := #[] }, { accessFlags := 26, nameIndex := 1121, descriptorIndex := 1122, attributes := #[] }, { accessFlags := 25, nameIndex := 599, descriptorIndex := 600, attributes := #[] }, { accessFlags := 24, nameIndex := 1125, descriptorIndex := 18, attributes := #[] }, { accessFlags := 24, nameIndex := 1127, descriptorIndex := 18, attributes := #[] }])
  fields := #[{ name := "value", type := (.array .byte), accessFlags := 18, slot := 0, constantValue := 0 }, { name := "coder", type := .byte, accessFlags := 18, slot := 1, constantValue := 0 }, { name := "hash", type := .int, accessFlags := 2, slot := 2, constantValue := 0 }, { name := "hashIsZero", type := .boolean, accessFlags := 2, slot := 3, constantValue := 0 }, { name := "serialVersionUID", type := .long, accessFlags := 26, slot := 0, constantValue := 0 }, { name := "COMPACT_STRINGS", type := .boolean, accessFlags := 24, slot := 1, constantValue := 0 }, { name := "serialPersistentFields", type := (.array (.object "java/io/ObjectStreamField")), accessFlags := 26, slot := 2, constantValue := 0 }, { name := "REPL", type := .char, accessFlags := 26, slot := 3, constantValue := 0 }, { name := "CASE_INSENSITIVE_ORDER", type := (.object "java/util/Comparator"), accessFlags := 25, slot := 4, constantValue := 0 }, { name := "LATIN1", type := .byte, accessFlags := 24, slot := 5, constantValue := 0 }, { name := "UTF16", type := .byte, accessFlags := 24, slot := 6, constantValue := 0 }]
  methods := #[k7m0, k7m1, k7m2, k7m3]
  instanceTypes := #[(.array .byte), .byte, .int, .boolean]
  staticTypes := #[.long, .boolean, (.array (.object "java/io/ObjectStreamField")), .char, (.object "java/util/Comparator"), .byte, .byte]
  resolved := Array.replicate 1451 none
  statics := some 0 }

def pool8 : Array CpInfo := pool [(1, .class_ 2), (0, u "com/example/commonroom/commonroom/webdav/UriSyntax"), (1, .class_ 6), (1, u "java/lang/Object"), (0, u "<init>"), (0, u "()V"), (101, u "DEC_OCTET"), (0, u "Ljava/util/regex/Pattern;"), (18, u "hexDigit"), (0, u "(C)I"), (9, u "ALPHA"), (0, u "Ljava/lang/String;"), (1, u "DIGIT"), (0, u "HEXDIG"), (0, u "UNRESERVED"), (2, u "SUB_DELIMS"), (2, u "SCHEME"), (0, u "REG_NAME"), (0, u "USERINFO"), (0, u "SEGMENT"), (0, u "PATH"), (0, u "QUERY"), (0, u "MAX_PIECES_AROUND_GAP"), (0, u "I")] 12

def k8m0 : Method := { name := "<init>", desc := "()V", sig := { parameters := [], returnType := none }, accessFlags := 2, code := none }
def k8c1 : Code := { maxStack := 2, maxLocals := 1, code := prog_181_method_3_code, exceptionTable := #[], attributes := #[] }
def k8m1 : Method := { name := "hexDigit", desc := "(C)I", sig := { parameters := [.char], returnType := some .int }, accessFlags := 8, code := some k8c1 }
/-- com/example/commonroom/commonroom/webdav/UriSyntax -/
def k8 : Class := { plain "com/example/commonroom/commonroom/webdav/UriSyntax" (some 0) with
  accessFlags := 48
  interfaces := #[]
  cf := some (fileOf pool8 1 #[] #[{ accessFlags := 2, nameIndex := 7, descriptorIndex := 8, attributes := #[] }, { accessFlags := 8, nameIndex := 130, descriptorIndex := 131, attributes := #[] }] 48 4 #[] #[{ accessFlags := 26, nameIndex := 141, descriptorIndex := 142, attributes := #[] }, { accessFlags := 26, nameIndex := 144, descriptorIndex := 142, attributes := #[] }, { accessFlags := 26, nameIndex := 145, descriptorIndex := 142, attributes := #[] }, { accessFlags := 26, nameIndex := 146, descriptorIndex := 142, attributes := #[] }, { accessFlags := 26, nameIndex := 149, descriptorIndex := 142, attributes := #[] }, { accessFlags := 26, nameIndex := 152, descriptorIndex := 142, attributes := #[] }, { accessFlags := 26, nameIndex := 153, descriptorIndex := 142, attributes := #[] }, { accessFlags := 26, nameIndex := 154, descriptorIndex := 142, attributes := #[] }, { accessFlags := 26, nameIndex := 155, descriptorIndex := 142, attributes := #[] }, { accessFlags := 26, nameIndex := 156, descriptorIndex := 142, attributes := #[] }, { accessFlags := 26, nameIndex := 157, descriptorIndex := 142, attributes := #[] }, { accessFlags := 26, nameIndex := 110, descriptorIndex := 111, attributes := #[] }, { accessFlags := 26, nameIndex := 158, descriptorIndex := 159, attributes := #[] }])
  fields := #[{ name := "ALPHA", type := (.object "java/lang/String"), accessFlags := 26, slot := 0, constantValue := 0 }, { name := "DIGIT", type := (.object "java/lang/String"), accessFlags := 26, slot := 1, constantValue := 0 }, { name := "HEXDIG", type := (.object "java/lang/String"), accessFlags := 26, slot := 2, constantValue := 0 }, { name := "UNRESERVED", type := (.object "java/lang/String"), accessFlags := 26, slot := 3, constantValue := 0 }, { name := "SUB_DELIMS", type := (.object "java/lang/String"), accessFlags := 26, slot := 4, constantValue := 0 }, { name := "SCHEME", type := (.object "java/lang/String"), accessFlags := 26, slot := 5, constantValue := 0 }, { name := "REG_NAME", type := (.object "java/lang/String"), accessFlags := 26, slot := 6, constantValue := 0 }, { name := "USERINFO", type := (.object "java/lang/String"), accessFlags := 26, slot := 7, constantValue := 0 }, { name := "SEGMENT", type := (.object "java/lang/String"), accessFlags := 26, slot := 8, constantValue := 0 }, { name := "PATH", type := (.object "java/lang/String"), accessFlags := 26, slot := 9, constantValue := 0 }, { name := "QUERY", type := (.object "java/lang/String"), accessFlags := 26, slot := 10, constantValue := 0 }, { name := "DEC_OCTET", type := (.object "java/util/regex/Pattern"), accessFlags := 26, slot := 11, constantValue := 0 }, { name := "MAX_PIECES_AROUND_GAP", type := .int, accessFlags := 26, slot := 12, constantValue := 0 }]
  methods := #[k8m0, k8m1]
  instanceTypes := #[]
  staticTypes := #[(.object "java/lang/String"), (.object "java/lang/String"), (.object "java/lang/String"), (.object "java/lang/String"), (.object "java/lang/String"), (.object "java/lang/String"), (.object "java/lang/String"), (.object "java/lang/String"), (.object "java/lang/String"), (.object "java/lang/String"), (.object "java/lang/String"), (.object "java/util/regex/Pattern"), .int]
  resolved := Array.replicate 172 none
  statics := none }

def pool9 : Array CpInfo := pool [(1, .class_ 2), (0, u "java/lang/String"), (1, .class_ 6), (1, u "java/lang/Object"), (0, u "<init>"), (0, u "()V"), (0, .methodref 1 10), (0, .nameAndType 11 12), (0, u "checkIndex"), (0, u "(II)V"), (1, .class_ 16), (1, u "java/lang/StringLatin1"), (36, u "([BI)C"), (67, u "$assertionsDisabled"), (0, u "Z"), (98, .class_ 223), (1, u "java/lang/StringLatin1$LinesSpliterator"), (28, u "charAt"), (137, .class_ 391), (0, u "java/lang/StringLatin1$CharsSpliterator")] 3

def k9m0 : Method := { name := "<init>", desc := "()V", sig := { parameters := [], returnType := none }, accessFlags := 0, code := none }
def k9c1 : Code := { maxStack := 2, maxLocals := 2, code := jdk_43_method_2_code, exceptionTable := #[], attributes := #[] }
def k9m1 : Method := { name := "charAt", desc := "([BI)C", sig := { parameters := [(.array .byte), .int], returnType := some .char }, accessFlags := 9, code := some k9c1 }
/-- java/lang/StringLatin1 -/
def k9 : Class := { plain "java/lang/StringLatin1" (some 0) with
  accessFlags := 48
  interfaces := #[]
  cf := some (fileOf pool9 14 #[.nestMembers #[390, 221]] #[{ accessFlags := 0, nameIndex := 7, descriptorIndex := 8, attributes := #[] }, { accessFlags := 9, nameIndex := 252, descriptorIndex := 53, attributes := #[] }] 48 4 #[] #[{ accessFlags := 4120, nameIndex := 121, descriptorIndex := 122, attributes := #[] }])
  fields := #[{ name := "$assertionsDisabled", type := .boolean, accessFlags := 4120, slot := 0, constantValue := 0 }]
  methods := #[k9m0, k9m1]
  instanceTypes := #[]
  staticTypes := #[.boolean]
  resolved := Array.replicate 395 none
  statics := none }

def pool10 : Array CpInfo := pool [(2, .class_ 4), (1, u "java/lang/Object"), (0, u "<init>"), (0, u "()V"), (17, .class_ 26), (1, u "jdk/internal/util/Preconditions"), (6, u "checkIndex"), (21, .class_ 56), (0, u "jdk/internal/util/Preconditions$4"), (57, .class_ 115), (0, u "jdk/internal/util/Preconditions$1"), (7, u "SIOOBE_FORMATTER"), (0, u "Ljava/util/function/BiFunction;"), (0, .class_ 126), (0, u "jdk/internal/util/Preconditions$2"), (3, u "AIOOBE_FORMATTER"), (0, .class_ 132), (0, u "jdk/internal/util/Preconditions$3"), (3, u "IOOBE_FORMATTER"), (41, u "(IILjava/util/function/BiFunction;)I")] 15

def k10m0 : Method := { name := "<init>", desc := "()V", sig := { parameters := [], returnType := none }, accessFlags := 1, code := none }
def k10c1 : Code := { maxStack := 3, maxLocals := 3, code := jdk_41_method_11_code, exceptionTable := #[], attributes := #[] }
def k10m1 : Method := { name := "checkIndex", desc := "(IILjava/util/function/BiFunction;)I", sig := { parameters := [.int, .int, (.object "java/util/function/BiFunction")], returnType := some .int }, accessFlags := 9, code := some k10c1 }
/-- jdk/internal/util/Preconditions -/
def k10 : Class := { plain "jdk/internal/util/Preconditions" (some 0) with
  accessFlags := 33
  interfaces := #[]
  cf := some (fileOf pool10 24 #[.nestMembers #[55, 131, 125, 114]] #[{ accessFlags := 1, nameIndex := 5, descriptorIndex := 6, attributes := #[] }, { accessFlags := 9, nameIndex := 33, descriptorIndex := 178, attributes := #[] }] 33 2 #[] #[{ accessFlags := 25, nameIndex := 123, descriptorIndex := 124, attributes := #[] }, { accessFlags := 25, nameIndex := 130, descriptorIndex := 124, attributes := #[] }, { accessFlags := 25, nameIndex := 136, descriptorIndex := 124, attributes := #[] }])
  fields := #[{ name := "SIOOBE_FORMATTER", type := (.object "java/util/function/BiFunction"), accessFlags := 25, slot := 0, constantValue := 0 }, { name := "AIOOBE_FORMATTER", type := (.object "java/util/function/BiFunction"), accessFlags := 25, slot := 1, constantValue := 0 }, { name := "IOOBE_FORMATTER", type := (.object "java/util/function/BiFunction"), accessFlags := 25, slot := 2, constantValue := 0 }]
  methods := #[k10m0, k10m1]
  instanceTypes := #[]
  staticTypes := #[(.object "java/util/function/BiFunction"), (.object "java/util/function/BiFunction"), (.object "java/util/function/BiFunction")]
  resolved := Array.replicate 194 none
  statics := some 1 }

def pool11 : Array CpInfo := pool [(9, u "<init>"), (6, .class_ 18), (1, u "java/lang/Object"), (0, u "()V"), (1, .class_ 23), (1, u "jdk/internal/util/ArraysSupport"), (0, u "LOG2_ARRAY_LONG_INDEX_SCALE"), (0, u "I"), (2, u "U"), (0, u "Ljdk/internal/misc/Unsafe;"), (8, u "BIG_ENDIAN"), (0, u "Z"), (8, u "LOG2_BYTE_BIT_SIZE"), (4, u "LOG2_ARRAY_INT_INDEX_SCALE"), (54, u "JLA"), (0, u "Ljdk/internal/access/JavaLangAccess;"), (11, u "LOG2_ARRAY_BOOLEAN_INDEX_SCALE"), (9, u "LOG2_ARRAY_BYTE_INDEX_SCALE"), (5, u "LOG2_ARRAY_CHAR_INDEX_SCALE"), (5, u "LOG2_ARRAY_SHORT_INDEX_SCALE"), (18, u "LOG2_ARRAY_FLOAT_INDEX_SCALE"), (24, u "LOG2_ARRAY_DOUBLE_INDEX_SCALE"), (89, u "T_BOOLEAN"), (2, u "T_CHAR"), (1, u "T_FLOAT"), (1, u "T_DOUBLE"), (1, u "T_BYTE"), (1, u "T_SHORT"), (1, u "T_INT"), (1, u "T_LONG"), (1, u "SOFT_MAX_ARRAY_LENGTH")] 83

def k11m0 : Method := { name := "<init>", desc := "()V", sig := { parameters := [], returnType := none }, accessFlags := 2, code := none }
/-- jdk/internal/util/ArraysSupport -/
def k11 : Class := { plain "jdk/internal/util/ArraysSupport" (some 0) with
  accessFlags := 33
  interfaces := #[]
  cf := some (fileOf pool11 21 #[] #[{ accessFlags := 2, nameIndex := 9, descriptorIndex := 19, attributes := #[] }] 33 16 #[] #[{ accessFlags := 24, nameIndex := 28, descriptorIndex := 29, attributes := #[] }, { accessFlags := 26, nameIndex := 38, descriptorIndex := 39, attributes := #[] }, { accessFlags := 25, nameIndex := 121, descriptorIndex := 25, attributes := #[] }, { accessFlags := 25, nameIndex := 131, descriptorIndex := 25, attributes := #[] }, { accessFlags := 25, nameIndex := 137, descriptorIndex := 25, attributes := #[] }, { accessFlags := 25, nameIndex := 143, descriptorIndex := 25, attributes := #[] }, { accessFlags := 25, nameIndex := 53, descriptorIndex := 25, attributes := #[] }, { accessFlags := 25, nameIndex := 24, descriptorIndex := 25, attributes := #[] }, { accessFlags := 25, nameIndex := 162, descriptorIndex := 25, attributes := #[] }, { accessFlags := 25, nameIndex := 187, descriptorIndex := 25, attributes := #[] }, { accessFlags := 26, nameIndex := 48, descriptorIndex := 25, attributes := #[] }, { accessFlags := 25, nameIndex := 277, descriptorIndex := 25, attributes := #[] }, { accessFlags := 25, nameIndex := 280, descriptorIndex := 25, attributes := #[] }, { accessFlags := 25, nameIndex := 282, descriptorIndex := 25, attributes := #[] }, { accessFlags := 25, nameIndex := 284, descriptorIndex := 25, attributes := #[] }, { accessFlags := 25, nameIndex := 286, descriptorIndex := 25, attributes := #[] }, { accessFlags := 25, nameIndex := 288, descriptorIndex := 25, attributes := #[] }, { accessFlags := 25, nameIndex := 290, descriptorIndex := 25, attributes := #[] }, { accessFlags := 25, nameIndex := 292, descriptorIndex := 25, attributes := #[] }, { accessFlags := 26, nameIndex := 108, descriptorIndex := 109, attributes := #[] }, { accessFlags := 25, nameIndex := 294, descriptorIndex := 25, attributes := #[] }])
  fields := #[{ name := "U", type := (.object "jdk/internal/misc/Unsafe"), accessFlags := 24, slot := 0, constantValue := 0 }, { name := "BIG_ENDIAN", type := .boolean, accessFlags := 26, slot := 1, constantValue := 0 }, { name := "LOG2_ARRAY_BOOLEAN_INDEX_SCALE", type := .int, accessFlags := 25, slot := 2, constantValue := 0 }, { name := "LOG2_ARRAY_BYTE_INDEX_SCALE", type := .int, accessFlags := 25, slot := 3, constantValue := 0 }, { name := "LOG2_ARRAY_CHAR_INDEX_SCALE", type := .int, accessFlags := 25, slot := 4, constantValue := 0 }, { name := "LOG2_ARRAY_SHORT_INDEX_SCALE", type := .int, accessFlags := 25, slot := 5, constantValue := 0 }, { name := "LOG2_ARRAY_INT_INDEX_SCALE", type := .int, accessFlags := 25, slot := 6, constantValue := 0 }, { name := "LOG2_ARRAY_LONG_INDEX_SCALE", type := .int, accessFlags := 25, slot := 7, constantValue := 0 }, { name := "LOG2_ARRAY_FLOAT_INDEX_SCALE", type := .int, accessFlags := 25, slot := 8, constantValue := 0 }, { name := "LOG2_ARRAY_DOUBLE_INDEX_SCALE", type := .int, accessFlags := 25, slot := 9, constantValue := 0 }, { name := "LOG2_BYTE_BIT_SIZE", type := .int, accessFlags := 26, slot := 10, constantValue := 0 }, { name := "T_BOOLEAN", type := .int, accessFlags := 25, slot := 11, constantValue := 0 }, { name := "T_CHAR", type := .int, accessFlags := 25, slot := 12, constantValue := 0 }, { name := "T_FLOAT", type := .int, accessFlags := 25, slot := 13, constantValue := 0 }, { name := "T_DOUBLE", type := .int, accessFlags := 25, slot := 14, constantValue := 0 }, { name := "T_BYTE", type := .int, accessFlags := 25, slot := 15, constantValue := 0 }, { name := "T_SHORT", type := .int, accessFlags := 25, slot := 16, constantValue := 0 }, { name := "T_INT", type := .int, accessFlags := 25, slot := 17, constantValue := 0 }, { name := "T_LONG", type := .int, accessFlags := 25, slot := 18, constantValue := 0 }, { name := "JLA", type := (.object "jdk/internal/access/JavaLangAccess"), accessFlags := 26, slot := 19, constantValue := 0 }, { name := "SOFT_MAX_ARRAY_LENGTH", type := .int, accessFlags := 25, slot := 20, constantValue := 0 }]
  methods := #[k11m0]
  instanceTypes := #[]
  staticTypes := #[(.object "jdk/internal/misc/Unsafe"), .boolean, .int, .int, .int, .int, .int, .int, .int, .int, .int, .int, .int, .int, .int, .int, .int, .int, .int, (.object "jdk/internal/access/JavaLangAccess"), .int]
  resolved := Array.replicate 378 none
  statics := none }

def pool12 : Array CpInfo := pool [(1, u "java/lang/Cloneable"), (0, .class_ 1), (0, u "java/lang/Object"), (0, .class_ 3)] 3

/-- java/lang/Cloneable -/
def k12 : Class := { plain "java/lang/Cloneable" (some 0) with
  accessFlags := 1537
  interfaces := #[]
  cf := some (fileOf pool12 2 #[] #[] 1537 4 #[] #[])
  fields := #[]
  methods := #[]
  instanceTypes := #[]
  staticTypes := #[]
  resolved := Array.replicate 8 none
  statics := none }

/-- the primitive byte -/
def k13 : Class := { plain "byte" none with kind := .primitive 'B', accessFlags := 0x411 }
/-- [B -/
def k14 : Class := { plain "[B" (some 0) with kind := .array 13 .byte, interfaces := #[12, 2], accessFlags := 1041 }

/-- the primitive int -/
def k15 : Class := { plain "int" none with kind := .primitive 'I', accessFlags := 0x411 }
/-- [I -/
def k16 : Class := { plain "[I" (some 0) with kind := .array 15 .int, interfaces := #[12, 2], accessFlags := 1041 }

def heap : Heap := #[{ cls := 7, slots := #[.long 0, .int 1, .null, .int 0, .null, .int 0, .int 0], vm := .statics 7 },
  { cls := 10, slots := #[.null, .null, .null], vm := .statics 10 }]
def classes : Array Class := #[k0, k1, k2, k3, k4, k5, k6, k7, k8, k9, k10, k11, k12, k13, k14, k15, k16]
def interned : List (Array UInt16 × Addr) := []
def slotsUsed : Nat := 10
def theMethod : MethodId := ⟨1, 1⟩
def args0 : Array Value := #[.int 65, .int 3]
def aboutOver (below : List Frame) : State where
  vm := { classes := classes, interned := interned.toArray }
  heap := heap
  slotsUsed := slotsUsed
  threads := #[{ frames := .invoking theMethod args0 :: below }]
def below0 : List Frame := [.native { method := ⟨0, 0⟩, args := #[] }]
def about1 : State := aboutOver below0
def p0 : Program := .bare "" "" ""
def e0 : Env := launch0.env 0 0 0
theorem w_frames : about1.frames = Frame.invoking theMethod args0 :: below0 := rfl
set_option maxRecDepth 65536 in
theorem w_args : argsFit about1.vm theMethod args0 = true := by decide +kernel
set_option maxRecDepth 65536 in
theorem w_heap : heapFits about1 = true := by decide +kernel
set_option maxRecDepth 65536 in
theorem w_runnable : about1.curStatus? = some .runnable := by decide +kernel
set_option maxRecDepth 65536 in
theorem w_alone : about1.alone = true := by decide +kernel
set_option maxRecDepth 65536 in
theorem w_named : about1.methodNamed? x = some theMethod := by decide +kernel
set_option maxRecDepth 65536 in
theorem w_hears : about1.hears theMethod below0 = true := by decide +kernel
set_option maxRecDepth 65536 in
theorem w_ripe : about1.ripe theMethod args0 below0 = true := by decide +kernel
theorem w_running : about1.status = .running := rfl
set_option maxRecDepth 65536 in
theorem w_room : about1.hasRoom e0.platform room_1 = true :=
  launch0.hasRoom_least _ room_1 (by decide +kernel) (by decide +kernel) (by decide +kernel) (by decide +kernel) (by decide +kernel) (by decide +kernel)
theorem allAtoms_all (ts : List Jvm.Cond) (a : Array Jvm.Value) (st : Jvm.State) : (allAtoms ts).before a st = ts.all (fun c => c.before a st) := by
  induction ts with
  | nil => rfl
  | cons c t ih =>
    show (Jvm.Cond.and c (allAtoms t)).before a st = _
    rw [Jvm.Cond.before_and, ih, List.all_cons]
def words1 : List Jvm.Cond := Jvm.Cond.code x code maxLocals ret :: tables_1
/-- a 'code' word, met by the world's own term for the bytes: nothing is compared byte by byte -/
theorem code_word {y : MethodName} {bytes : ByteArray} {mx : Nat} {rt : Option FieldType} {a : Array Value} {s : State} {m : MethodId} {meth : Method} {c : Code} (h1 : s.methodNamed? y = some m) (h2 : s.vm.method? m = some meth) (h3 : meth.code = some c) (h4 : c.code = bytes)
    (h5 : (c.maxLocals == mx && c.exceptionTable.isEmpty && decide (c.maxStack ≤ mostOperands) && decide (meth.sig.returnType = rt) && !meth.locks && decide (parseMethodDescriptor y.desc = some meth.sig)) = true) : (Jvm.Cond.code y bytes mx rt).before a s = true := by
  simp only [Bool.and_eq_true, beq_iff_eq, Bool.not_eq_true', decide_eq_true_eq] at h5
  obtain ⟨⟨⟨⟨⟨g1, g2⟩, g3⟩, g4⟩, g5⟩, g6⟩ := h5
  simp [Cond.before, Cond.holds, Cond.value, h1, h2, h3, h4, g1, g2, g3, g4, g5, g6]
def isCode : Jvm.Cond → Bool
  | .code _ _ _ _ => true
  | _ => false
theorem all_split {L : List Jvm.Cond} {P : Jvm.Cond → Bool} (h1 : L.all (fun c => isCode c || P c) = true) (h2 : ∀ c ∈ L.filter isCode, P c = true) : L.all P = true := by
  refine List.all_eq_true.mpr fun c hc => ?_
  have h := List.all_eq_true.mp h1 c hc
  rcases Bool.eq_false_or_eq_true (isCode c) with hi | hi
  · exact h2 c (List.mem_filter.mpr ⟨hc, hi⟩)
  · simpa [hi] using h
set_option maxRecDepth 65536 in
theorem w_c0 : (Jvm.Cond.code x code maxLocals ret).before args0 about1 = true := code_word (m := ⟨1, 1⟩) (meth := k1m1) (c := k1c1) (by decide +kernel) rfl rfl rfl (by decide +kernel)
set_option maxRecDepth 65536 in
theorem w_c1 : (Jvm.Cond.code ({ cls := "com/example/commonroom/commonroom/webdav/UriSyntax", name := "hexDigit", desc := "(C)I" } : Jvm.MethodName) prog_181_method_3_code (1 : Nat) (Option.some Jvm.ClassFile.FieldType.int)).before args0 about1 = true := code_word (m := ⟨8, 1⟩) (meth := k8m1) (c := k8c1) (by decide +kernel) rfl rfl rfl (by decide +kernel)
set_option maxRecDepth 65536 in
theorem w_c2 : (Jvm.Cond.code ({ cls := "java/lang/String", name := "charAt", desc := "(I)C" } : Jvm.MethodName) jdk_42_method_56_code (2 : Nat) (Option.some Jvm.ClassFile.FieldType.char)).before args0 about1 = true := code_word (m := ⟨7, 1⟩) (meth := k7m1) (c := k7c1) (by decide +kernel) rfl rfl rfl (by decide +kernel)
set_option maxRecDepth 65536 in
theorem w_c3 : (Jvm.Cond.code ({ cls := "java/lang/String", name := "isLatin1", desc := "()Z" } : Jvm.MethodName) jdk_42_method_154_code (1 : Nat) (Option.some Jvm.ClassFile.FieldType.boolean)).before args0 about1 = true := code_word (m := ⟨7, 2⟩) (meth := k7m2) (c := k7c2) (by decide +kernel) rfl rfl rfl (by decide +kernel)
set_option maxRecDepth 65536 in
theorem w_c4 : (Jvm.Cond.code ({ cls := "java/lang/StringLatin1", name := "charAt", desc := "([BI)C" } : Jvm.MethodName) jdk_43_method_2_code (2 : Nat) (Option.some Jvm.ClassFile.FieldType.char)).before args0 about1 = true := code_word (m := ⟨9, 1⟩) (meth := k9m1) (c := k9c1) (by decide +kernel) rfl rfl rfl (by decide +kernel)
set_option maxRecDepth 65536 in
theorem w_c5 : (Jvm.Cond.code ({ cls := "java/lang/String", name := "checkIndex", desc := "(II)V" } : Jvm.MethodName) jdk_42_method_155_code (2 : Nat) (Option.none : Option Jvm.ClassFile.FieldType)).before args0 about1 = true := code_word (m := ⟨7, 3⟩) (meth := k7m3) (c := k7c3) (by decide +kernel) rfl rfl rfl (by decide +kernel)
set_option maxRecDepth 65536 in
theorem w_c6 : (Jvm.Cond.code ({ cls := "jdk/internal/util/Preconditions", name := "checkIndex", desc := "(IILjava/util/function/BiFunction;)I" } : Jvm.MethodName) jdk_41_method_11_code (3 : Nat) (Option.some Jvm.ClassFile.FieldType.int)).before args0 about1 = true := code_word (m := ⟨10, 1⟩) (meth := k10m1) (c := k10c1) (by decide +kernel) rfl rfl rfl (by decide +kernel)
def codes1 : List Jvm.Cond := [Jvm.Cond.code x code maxLocals ret, Jvm.Cond.code ({ cls := "com/example/commonroom/commonroom/webdav/UriSyntax", name := "hexDigit", desc := "(C)I" } : Jvm.MethodName) prog_181_method_3_code (1 : Nat) (Option.some Jvm.ClassFile.FieldType.int), Jvm.Cond.code ({ cls := "java/lang/String", name := "charAt", desc := "(I)C" } : Jvm.MethodName) jdk_42_method_56_code (2 : Nat) (Option.some Jvm.ClassFile.FieldType.char), Jvm.Cond.code ({ cls := "java/lang/String", name := "isLatin1", desc := "()Z" } : Jvm.MethodName) jdk_42_method_154_code (1 : Nat) (Option.some Jvm.ClassFile.FieldType.boolean), Jvm.Cond.code ({ cls := "java/lang/StringLatin1", name := "charAt", desc := "([BI)C" } : Jvm.MethodName) jdk_43_method_2_code (2 : Nat) (Option.some Jvm.ClassFile.FieldType.char), Jvm.Cond.code ({ cls := "java/lang/String", name := "checkIndex", desc := "(II)V" } : Jvm.MethodName) jdk_42_method_155_code (2 : Nat) (Option.none : Option Jvm.ClassFile.FieldType), Jvm.Cond.code ({ cls := "jdk/internal/util/Preconditions", name := "checkIndex", desc := "(IILjava/util/function/BiFunction;)I" } : Jvm.MethodName) jdk_41_method_11_code (3 : Nat) (Option.some Jvm.ClassFile.FieldType.int)]
set_option maxRecDepth 65536 in
theorem codes_eq : words1.filter isCode = codes1 := rfl
theorem w_codes : ∀ c ∈ words1.filter isCode, c.before args0 about1 = true := by
  rw [codes_eq]
  intro c hc
  simp only [codes1, List.mem_cons, List.not_mem_nil, or_false] at hc
  rcases hc with rfl | rfl | rfl | rfl | rfl | rfl | rfl
  · exact w_c0
  · exact w_c1
  · exact w_c2
  · exact w_c3
  · exact w_c4
  · exact w_c5
  · exact w_c6
set_option maxRecDepth 65536 in
theorem w_t1 : (words1.take 24).all (fun c => isCode c || c.before args0 about1) = true := by decide +kernel
set_option maxRecDepth 65536 in
theorem w_t2 : (words1.drop 24).all (fun c => isCode c || c.before args0 about1) = true := by decide +kernel
theorem w_tables : (allAtoms (Jvm.Cond.code x code maxLocals ret :: tables_1)).before args0 about1 = true := by
  rw [allAtoms_all]
  show words1.all (fun c => c.before args0 about1) = true
  refine all_split ?_ w_codes
  rw [← List.take_append_drop 24 words1, List.all_append, w_t1, w_t2]
  rfl
set_option maxRecDepth 65536 in
theorem w_rest : rest_1_c.before args0 about1 = true := by decide +kernel
set_option maxRecDepth 65536 in
theorem w_case : (Jvm.Cond.and given_1 narrow_1).before args0 about1 = true := by decide +kernel
set_option maxRecDepth 65536 in
theorem w_consts : constsHeld consts_1 about1 := Jvm.Lit.constsHeldB_iff.mp (by decide +kernel)
theorem w_applies : (headSpec (Jvm.Cond.code x code maxLocals ret :: tables_1) room_1).applies x e0.platform about1 = true :=
  (Spec.applies_iff w_frames).mpr ⟨w_running, w_runnable, w_alone, w_named, w_hears, w_ripe, w_room, w_tables⟩
theorem atStart : AtStart classFile x code maxLocals ret World_1 tables_1 room_1 Calls_1 rest_1 Pre_1 launch0 p0 e0 about1 theMethod args0 below0 :=
  ⟨lists_1, trivial, launch0.admits_env _ _ _, launch0.least_env, fairChoices_fair.cas, fairChoices_fair.clock, w_frames, w_args, w_heap, w_applies, ⟨w_consts, trivial⟩, w_rest, w_case⟩
end start1
theorem witness_1 : WitnessClaimed_1 := ⟨start1.p0, start1.e0, start1.about1, start1.theMethod, start1.args0, start1.below0, start1.atStart⟩
end Jvm.Pilot.@@N@@
