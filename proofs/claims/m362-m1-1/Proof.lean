import JvmDerived
import JvmDerived.Pilot.@@N@@Statement
import JvmDerived.Pilot.@@N@@Code
set_option linter.unusedVariables false
set_option linter.unusedSimpArgs false
namespace Jvm.RoadKit
open Sem ClassFile Op Lib Jvm.Stand Jvm.Free Jvm.LawKit
section New
variable {p : Program} {l : Launch} {e : Env} {R : Room} {s : State} {m : MethodId} {args : Array Value} {below : List Frame} {meth : Method} {c : Code} {T : State} {locs : List Loc} {cells slots : Nat}
theorem retI (X : Stand p l e R s m args below meth c T locs cells slots) (hx : p.tables.exec = Jvm.exec) {pc : Nat} {Ls : Array Slot} {z : Int32} {rest : List Value} (hret : meth.sig.returnType = some .int) (hd : decode c.code pc = .ok (.ireturn, 1)) {fs : List Frame}
    (hl : ∀ (f : JFrame) (acts : List Action), f.method = m → f.locked = none → f.entered = [] → (doReturn e (T.setTop f) acts (some (.int z))).1 = T.setFrames fs) : Steps p.tables e below (T.setTop (mkF m pc Ls (.int z :: rest))) (T.setFrames fs) := by
  have hm' : T.vm.method? m = some meth := X.method'
  have hn : narrow .int (.int z) = .int z := rfl
  show Steps p.tables e below (T.setTop { method := m, pc := pc, locals := Ls, stack := _ :: rest, locked := none }) _
  jvm_step X.here [X.here.top, hx, hd, hm', hret, hn]
  first | (intro acts; rw [hl _ acts rfl rfl rfl]) | rw [hl _ _ rfl rfl rfl]
  exact Steps.refl _
theorem retJ (X : Stand p l e R s m args below meth c T locs cells slots) (hx : p.tables.exec = Jvm.exec) {pc : Nat} {Ls : Array Slot} {z : Int64} {rest : List Value} (hret : meth.sig.returnType = some .long) (hd : decode c.code pc = .ok (.lreturn, 1)) {fs : List Frame}
    (hl : ∀ (f : JFrame) (acts : List Action), f.method = m → f.locked = none → f.entered = [] → (doReturn e (T.setTop f) acts (some (.long z))).1 = T.setFrames fs) : Steps p.tables e below (T.setTop (mkF m pc Ls (.long z :: rest))) (T.setFrames fs) := by
  have hm' : T.vm.method? m = some meth := X.method'
  have hn : narrow .long (.long z) = .long z := rfl
  show Steps p.tables e below (T.setTop { method := m, pc := pc, locals := Ls, stack := _ :: rest, locked := none }) _
  jvm_step X.here [X.here.top, hx, hd, hm', hret, hn]
  first | (intro acts; rw [hl _ acts rfl rfl rfl]) | rw [hl _ _ rfl rfl rfl]
  exact Steps.refl _
end New
end Jvm.RoadKit
namespace Jvm.Pilot.@@N@@
open Jvm Jvm.ClassFile Sem Op Lib Jvm.Free Jvm.Stand Jvm.LawKit Jvm.RoadKit Bundle Jvm.Pilot.@@N@@.Jvm.D
theorem mvL {Z s : State} {a0 args : Array Value} {own host : String} {index : Nat} {y : MethodName} (hZ : Z.Warmed39 s.vm) (w : (Cond.methodLinkNest own index y host).before a0 Z = true) : (Cond.methodLinkNest own index y host).before args s = true := (Cond.methodLinkNest_wide hZ w :)
theorem mgE {A : Type} {l : List A} {a : A} (i : Nat) (h : l[i]? = some a) : a ∈ l := List.mem_of_getElem? h

def Arf (Z : State) (h : Heap) (a : Addr) (ty : FieldType) (z : Int32) (f : Nat → Value) : Prop := ∃ c : Cell, Arr Z h a c ty ∧ c.slots.size = z.toNatClampNeg ∧ ¬ z < 0 ∧ ∀ i, i < z.toNatClampNeg → c.slots[i]? = some (f i)
def own_upd {A : Type} (f : Nat → A) (j : Nat) (v : A) : Nat → A := fun i => if i = j then v else f i
theorem own_upd_same {A : Type} (f : Nat → A) (j : Nat) (v : A) : own_upd f j v j = v := if_pos rfl
theorem own_upd_ne {A : Type} (f : Nat → A) {j i : Nat} (v : A) (h : i ≠ j) : own_upd f j v i = f i := if_neg h
section ArfFacts
variable {Z : State} {h h' : Heap} {a b : Addr} {ty : FieldType} {z : Int32} {f : Nat → Value} {k : ClassId} {ws : List Addr} {sl : Nat} {v : Value}
theorem Arf.lt (F : Arf Z h a ty z f) : a < h.size := by obtain ⟨c, A, -⟩ := F; exact A.lt
theorem Arf.ext (F : Arf Z h a ty z f) (E : Ext h h') : Arf Z h' a ty z f := by obtain ⟨c, A, r⟩ := F; exact ⟨c, A.ext E, r⟩
theorem Arf.other (F : Arf Z h b ty z f) (W : Wr h h' a sl v) (q : b ≠ a) : Arf Z h' b ty z f := by obtain ⟨c, A, r⟩ := F; exact ⟨c, A.other W q, r⟩
theorem Arf.keep (F : Arf Z h a ty z f) (K : Keep h h' ws) (q : a ∉ ws) : Arf Z h' a ty z f := by obtain ⟨c, A, r⟩ := F; exact ⟨c, ⟨K.2.1 a c A.1 q, A.2⟩, r⟩
theorem Arf.new (A : Arr Z h a (newA k ty z) ty) (q : ¬ z < 0) : Arf Z h a ty z (fun _ => defaultValue ty) := ⟨_, A, sz_new _ _ _, q, fun i hi => by simp [newA, hi]⟩
theorem Arf.set (F : Arf Z h a ty z f) (W : Wr h h' a sl v) : Arf Z h' a ty z (own_upd f sl v) := by
  obtain ⟨c, A, S, N, H⟩ := F
  refine ⟨c.setSlot sl v, A.same W, by rw [sz_set]; exact S, N, fun i hi => ?_⟩
  by_cases e : i = sl
  · subst e; rw [own_upd_same]; simp [Cell.setSlot, S, hi]
  · rw [own_upd_ne _ _ e, ← H i hi]
    exact Array.getElem?_setIfInBounds_ne (Ne.symm e)
theorem Arf.cong {g : Nat → Value} (F : Arf Z h a ty z f) (q : ∀ i, i < z.toNatClampNeg → f i = g i) : Arf Z h a ty z g := by obtain ⟨c, A, S, N, H⟩ := F; exact ⟨c, A, S, N, fun i hi => (H i hi).trans (congrArg some (q i hi))⟩
theorem upd_int (f : Nat → Int32) (j : Nat) (v : Int32) : own_upd (fun i => Value.int (f i)) j (.int v) = fun i => Value.int (own_upd f j v i) := by funext i; unfold own_upd; split <;> rfl
theorem upd_long (f : Nat → Int64) (j : Nat) (v : Int64) : own_upd (fun i => Value.long (f i)) j (.long v) = fun i => Value.long (own_upd f j v i) := by funext i; unfold own_upd; split <;> rfl
end ArfFacts

def dg : Nat → (Nat → Int32) → Int32 → Int32 → Int64 → Int64
  | 0, _, _, _, a => a
  | k + 1, f, n, i, a => if i < n then (if (f (i).toNatClampNeg) < (48 : Int32) then (-1 : Int64) else (if (57 : Int32) < (f (i).toNatClampNeg) then (-1 : Int64) else dg k f n (i + (1 : Int32)) (((a * (10 : Int64)) + ((f (i).toNatClampNeg).toInt64)) - (48 : Int64)))) else a
theorem own_nx (i n : Int32) (hi : 0 ≤ i.toInt) (h : i < n) : (i + (1 : Int32)).toInt = i.toInt + 1 := by
  rw [Int32.lt_iff_toInt_lt] at h
  have a := c_iadd i (1 : Int32)
  rw [show (1 : Int32).toInt = 1 from by decide] at a
  have b := rng32 (i + (1 : Int32))
  have d := rng32 n
  omega
theorem own_ix (i n : Int32) (hi : 0 ≤ i.toInt) (h : i < n) (hn : n.toInt ≤ 20) : ¬ i < 0 ∧ i < (20 : Int32) := by
  rw [Int32.lt_iff_toInt_lt] at h
  rw [Int32.lt_iff_toInt_lt, Int32.lt_iff_toInt_lt, show (0 : Int32).toInt = 0 from by decide, show (20 : Int32).toInt = 20 from by decide]
  omega

theorem d6_0 : decode method_3_code 0 = .ok (.iload_n 0, 1) := by decide +kernel
theorem d6_1 : decode method_3_code 1 = .ok (.bipush 48, 2) := by decide +kernel
theorem d6_3 : decode method_3_code 3 = .ok (.if_icmp .lt 13, 3) := by decide +kernel
theorem d6_6 : decode method_3_code 6 = .ok (.iload_n 0, 1) := by decide +kernel
theorem d6_7 : decode method_3_code 7 = .ok (.bipush 57, 2) := by decide +kernel
theorem d6_9 : decode method_3_code 9 = .ok (.if_icmp .gt 7, 3) := by decide +kernel
theorem d6_12 : decode method_3_code 12 = .ok (.iconst 1, 1) := by decide +kernel
theorem d6_13 : decode method_3_code 13 = .ok (.goto 4, 3) := by decide +kernel
theorem d6_16 : decode method_3_code 16 = .ok (.iconst 0, 1) := by decide +kernel
theorem d6_17 : decode method_3_code 17 = .ok (.ireturn, 1) := by decide +kernel
theorem pn_com_example_entgelt_entgelt_io_FieldFormsDigitsPinLaw : plainName "com/example/entgelt/entgelt/io/FieldFormsDigitsPinLaw" = true := by first | (simp [plainName, overriddenIn]; done) | decide +kernel
theorem ef_6 (m : MethodId) (x0 : Int32) : entryFrame m #[(.int x0)] 1 = mkF m 0 #[.val (.int x0)] [] := by first | (simp [entryFrame, mkF, argsToLocals, Value.category]; done) | rfl
def r6 (p1 : Int32) : Int32 := (if p1 < (48 : Int32) then (0 : Int32) else (if (57 : Int32) < p1 then (0 : Int32) else (1 : Int32)))
def Q6 (Z : State) (p1 : Int32) (h0 : Heap) (n0 : Nat) (v : Option Value) (h : Heap) (L : List Loc) : Prop := v = some (.int (r6 p1)) ∧ Fr n0 L ∧ h = h0
set_option maxRecDepth 65536 in
set_option maxHeartbeats 40000000 in
theorem rm6 (l : Launch) (Z : State) (a0 : Array Value) (hw : ∀ d ∈ tables_1, d.before a0 Z = true) (ws : List Jvm.Cond) (p1 : Int32) (h0 : Heap) (n0 : Nat) (Z0 : n0 ≤ h0.size)  :
    MetFree l (⟨"com/example/entgelt/entgelt/io/FieldFormsDigitsPinLaw", "isDigit", "(B)Z"⟩ : MethodName) (head1 (Jvm.Cond.code (⟨"com/example/entgelt/entgelt/io/FieldFormsDigitsPinLaw", "isDigit", "(B)Z"⟩ : MethodName) method_3_code 1 (some .boolean) :: ws) ({ frames := 0, cells := 0, slots := 0, locals := 0 } : Room)) (fun a U => a = #[(.int p1)] ∧ Z.Warmed39 U.vm ∧ U.heap = h0) (fun _ _ _ _ _ => True) (fun _ U o U' => ∃ v L, o = .returned v ∧ Q6 Z p1 h0 n0 v U'.heap L ∧ FrameEnd U o U' L ({ frames := 0, cells := 0, slots := 0, locals := 0 } : Room).cells ({ frames := 0, cells := 0, slots := 0, locals := 0 } : Room).slots) := by
  refine MetFree.of_bodySF (plainFor_of_name pn_com_example_entgelt_entgelt_io_FieldFormsDigitsPinLaw) hisR ?_
  intro p e s m args below meth c s₁ Bd hml0 hP hK
  obtain ⟨rfl, hZ, hh⟩ := hP
  have hx := Bd.exec
  have hby := Bd.bytes
  have hml : c.maxLocals = 1 := hml0
  have hown : s.vm.findClass "com/example/entgelt/entgelt/io/FieldFormsDigitsPinLaw" = some m.cls := findClass_of_methodNamed Bd.named
  have hnm := (name_of_methodNamed Bd.named Bd.method).1
  have X0 : Stand p l e ({ frames := 0, cells := 0, slots := 0, locals := 0 } : Room) s m #[(.int p1)] below meth c s₁ [] 0 0 := Stand.of_body Bd
  have e0 : s₁.heap = h0 := by rw [← hh, Bd.state]; rfl
  have N0 := Fr.nil n0
  have pre0 : ∀ t, Steps p.tables e below (s₁.setTop (mkF m 0 #[.val (.int p1)] [])) t → Steps p.tables e below (s₁.setTop (entryFrame m #[(.int p1)] 1)) t := fun t k => castTop (ef_6 m p1) k
  by_cases hc3 : p1 < (48 : Int32)
  · skip
    have pre1 : ∀ t, Steps p.tables e below (s₁.setTop (mkF m 17 #[.val (.int p1)] [(.int (0 : Int32))])) t → Steps p.tables e below (s₁.setTop (entryFrame m #[(.int p1)] 1)) t := fun t kt => by
      refine pre0 t ?_
      refine XS.iloadN X0.here hx rfl (hb hby d6_0) rfl ?_
      show Steps p.tables e below (s₁.setTop (mkF m 1 #[.val (.int p1)] [(.int p1)])) _
      refine XS.bipush X0.here hx rfl (hb hby d6_1) ?_
      show Steps p.tables e below (s₁.setTop (mkF m 3 #[.val (.int p1)] [(.int (48 : Int32)), (.int p1)])) _
      refine XS.icmpYes X0.here hx rfl (pc0 := 3) (pc' := 16) rfl (hb hby d6_3) rfl (tlt hc3).1 (by decide) (by decide) ?_
      show Steps p.tables e below (s₁.setTop (mkF m 16 #[.val (.int p1)] [])) _
      refine XS.iconst X0.here hx rfl (hb hby d6_16) ?_
      show Steps p.tables e below (s₁.setTop (mkF m 17 #[.val (.int p1)] [(.int (0 : Int32))])) _
      exact kt
    obtain ⟨fs, hr, hrun, hended, hW, hsame⟩ := X0.leave (v := some (.int (0 : Int32))) (fun h => by rw [Bd.returns] at h; cases h) (BodyLoose.notSynchronized Bd)
    refine ⟨_, _, pre1 _ ?_, hrun, hended, _, _, rfl, ?_, ⟨_, rfl⟩, hW, hsame.mono (by decide) (by decide)⟩
    · exact retN X0 hx (t := .boolean) Bd.returns (by simp) (hb hby d6_17) hr
    · show Q6 Z p1 h0 n0 _ s₁.heap _
      rw [e0]
      exact ⟨by first | rfl | (simp only [r6, if_pos hc3]), N0, rfl⟩
  · skip
    by_cases hc9 : (57 : Int32) < p1
    · skip
      have pre2 : ∀ t, Steps p.tables e below (s₁.setTop (mkF m 17 #[.val (.int p1)] [(.int (0 : Int32))])) t → Steps p.tables e below (s₁.setTop (entryFrame m #[(.int p1)] 1)) t := fun t kt => by
        refine pre0 t ?_
        refine XS.iloadN X0.here hx rfl (hb hby d6_0) rfl ?_
        show Steps p.tables e below (s₁.setTop (mkF m 1 #[.val (.int p1)] [(.int p1)])) _
        refine XS.bipush X0.here hx rfl (hb hby d6_1) ?_
        show Steps p.tables e below (s₁.setTop (mkF m 3 #[.val (.int p1)] [(.int (48 : Int32)), (.int p1)])) _
        refine XS.icmpNo X0.here hx rfl (hb hby d6_3) rfl (flt hc3).1 ?_
        show Steps p.tables e below (s₁.setTop (mkF m 6 #[.val (.int p1)] [])) _
        refine XS.iloadN X0.here hx rfl (hb hby d6_6) rfl ?_
        show Steps p.tables e below (s₁.setTop (mkF m 7 #[.val (.int p1)] [(.int p1)])) _
        refine XS.bipush X0.here hx rfl (hb hby d6_7) ?_
        show Steps p.tables e below (s₁.setTop (mkF m 9 #[.val (.int p1)] [(.int (57 : Int32)), (.int p1)])) _
        refine XS.icmpYes X0.here hx rfl (pc0 := 9) (pc' := 16) rfl (hb hby d6_9) rfl (tlt hc9).2.2.1 (by decide) (by decide) ?_
        show Steps p.tables e below (s₁.setTop (mkF m 16 #[.val (.int p1)] [])) _
        refine XS.iconst X0.here hx rfl (hb hby d6_16) ?_
        show Steps p.tables e below (s₁.setTop (mkF m 17 #[.val (.int p1)] [(.int (0 : Int32))])) _
        exact kt
      obtain ⟨fs, hr, hrun, hended, hW, hsame⟩ := X0.leave (v := some (.int (0 : Int32))) (fun h => by rw [Bd.returns] at h; cases h) (BodyLoose.notSynchronized Bd)
      refine ⟨_, _, pre2 _ ?_, hrun, hended, _, _, rfl, ?_, ⟨_, rfl⟩, hW, hsame.mono (by decide) (by decide)⟩
      · exact retN X0 hx (t := .boolean) Bd.returns (by simp) (hb hby d6_17) hr
      · show Q6 Z p1 h0 n0 _ s₁.heap _
        rw [e0]
        exact ⟨by first | rfl | (simp only [r6, if_neg hc3, if_pos hc9]), N0, rfl⟩
    · skip
      have pre3 : ∀ t, Steps p.tables e below (s₁.setTop (mkF m 17 #[.val (.int p1)] [(.int (1 : Int32))])) t → Steps p.tables e below (s₁.setTop (entryFrame m #[(.int p1)] 1)) t := fun t kt => by
        refine pre0 t ?_
        refine XS.iloadN X0.here hx rfl (hb hby d6_0) rfl ?_
        show Steps p.tables e below (s₁.setTop (mkF m 1 #[.val (.int p1)] [(.int p1)])) _
        refine XS.bipush X0.here hx rfl (hb hby d6_1) ?_
        show Steps p.tables e below (s₁.setTop (mkF m 3 #[.val (.int p1)] [(.int (48 : Int32)), (.int p1)])) _
        refine XS.icmpNo X0.here hx rfl (hb hby d6_3) rfl (flt hc3).1 ?_
        show Steps p.tables e below (s₁.setTop (mkF m 6 #[.val (.int p1)] [])) _
        refine XS.iloadN X0.here hx rfl (hb hby d6_6) rfl ?_
        show Steps p.tables e below (s₁.setTop (mkF m 7 #[.val (.int p1)] [(.int p1)])) _
        refine XS.bipush X0.here hx rfl (hb hby d6_7) ?_
        show Steps p.tables e below (s₁.setTop (mkF m 9 #[.val (.int p1)] [(.int (57 : Int32)), (.int p1)])) _
        refine XS.icmpNo X0.here hx rfl (hb hby d6_9) rfl (flt hc9).2.2.1 ?_
        show Steps p.tables e below (s₁.setTop (mkF m 12 #[.val (.int p1)] [])) _
        refine XS.iconst X0.here hx rfl (hb hby d6_12) ?_
        show Steps p.tables e below (s₁.setTop (mkF m 13 #[.val (.int p1)] [(.int (1 : Int32))])) _
        refine XS.goto X0.here hx rfl (pc0 := 13) (pc' := 17) rfl (hb hby d6_13) (by decide) (by decide) ?_
        show Steps p.tables e below (s₁.setTop (mkF m 17 #[.val (.int p1)] [(.int (1 : Int32))])) _
        exact kt
      obtain ⟨fs, hr, hrun, hended, hW, hsame⟩ := X0.leave (v := some (.int (1 : Int32))) (fun h => by rw [Bd.returns] at h; cases h) (BodyLoose.notSynchronized Bd)
      refine ⟨_, _, pre3 _ ?_, hrun, hended, _, _, rfl, ?_, ⟨_, rfl⟩, hW, hsame.mono (by decide) (by decide)⟩
      · exact retN X0 hx (t := .boolean) Bd.returns (by simp) (hb hby d6_17) hr
      · show Q6 Z p1 h0 n0 _ s₁.heap _
        rw [e0]
        exact ⟨by first | rfl | (simp only [r6, if_neg hc3, if_neg hc9]), N0, rfl⟩
theorem d1_0 : decode method_2_code 0 = .ok (.iload_n 0, 1) := by decide +kernel
theorem d1_1 : decode method_2_code 1 = .ok (.sipush 256, 3) := by decide +kernel
theorem d1_4 : decode method_2_code 4 = .ok (.iand, 1) := by decide +kernel
theorem d1_5 : decode method_2_code 5 = .ok (.ifCond .ne 16, 3) := by decide +kernel
theorem d1_8 : decode method_2_code 8 = .ok (.bipush 48, 2) := by decide +kernel
theorem d1_10 : decode method_2_code 10 = .ok (.iload_n 0, 1) := by decide +kernel
theorem d1_11 : decode method_2_code 11 = .ok (.sipush 255, 3) := by decide +kernel
theorem d1_14 : decode method_2_code 14 = .ok (.iand, 1) := by decide +kernel
theorem d1_15 : decode method_2_code 15 = .ok (.bipush 10, 2) := by decide +kernel
theorem d1_17 : decode method_2_code 17 = .ok (.irem, 1) := by decide +kernel
theorem d1_18 : decode method_2_code 18 = .ok (.iadd, 1) := by decide +kernel
theorem d1_19 : decode method_2_code 19 = .ok (.i2b, 1) := by decide +kernel
theorem d1_20 : decode method_2_code 20 = .ok (.ireturn, 1) := by decide +kernel
theorem d1_21 : decode method_2_code 21 = .ok (.iload_n 0, 1) := by decide +kernel
theorem d1_22 : decode method_2_code 22 = .ok (.i2b, 1) := by decide +kernel
theorem d1_23 : decode method_2_code 23 = .ok (.ireturn, 1) := by decide +kernel
theorem ef_1 (m : MethodId) (x0 : Int32) : entryFrame m #[(.int x0)] 1 = mkF m 0 #[.val (.int x0)] [] := by first | (simp [entryFrame, mkF, argsToLocals, Value.category]; done) | rfl
def r1 (p1 : Int32) : Int32 := (if (p1 &&& (256 : Int32)) = (0 : Int32) then (nar .byte (((48 : Int32) + ((p1 &&& (255 : Int32)) % (10 : Int32))).toInt8.toInt32)) else (nar .byte (p1.toInt8.toInt32)))
def Q1 (Z : State) (p1 : Int32) (h0 : Heap) (n0 : Nat) (v : Option Value) (h : Heap) (L : List Loc) : Prop := v = some (.int (r1 p1)) ∧ Fr n0 L ∧ h = h0
set_option maxRecDepth 65536 in
set_option maxHeartbeats 40000000 in
theorem rm1 (l : Launch) (Z : State) (a0 : Array Value) (hw : ∀ d ∈ tables_1, d.before a0 Z = true) (ws : List Jvm.Cond) (p1 : Int32) (h0 : Heap) (n0 : Nat) (Z0 : n0 ≤ h0.size)  :
    MetFree l (⟨"com/example/entgelt/entgelt/io/FieldFormsDigitsPinLaw", "draw", "(I)B"⟩ : MethodName) (head1 (Jvm.Cond.code (⟨"com/example/entgelt/entgelt/io/FieldFormsDigitsPinLaw", "draw", "(I)B"⟩ : MethodName) method_2_code 1 (some .byte) :: ws) ({ frames := 0, cells := 0, slots := 0, locals := 0 } : Room)) (fun a U => a = #[(.int p1)] ∧ Z.Warmed39 U.vm ∧ U.heap = h0) (fun _ _ _ _ _ => True) (fun _ U o U' => ∃ v L, o = .returned v ∧ Q1 Z p1 h0 n0 v U'.heap L ∧ FrameEnd U o U' L ({ frames := 0, cells := 0, slots := 0, locals := 0 } : Room).cells ({ frames := 0, cells := 0, slots := 0, locals := 0 } : Room).slots) := by
  refine MetFree.of_bodySF (plainFor_of_name pn_com_example_entgelt_entgelt_io_FieldFormsDigitsPinLaw) hisR ?_
  intro p e s m args below meth c s₁ Bd hml0 hP hK
  obtain ⟨rfl, hZ, hh⟩ := hP
  have hx := Bd.exec
  have hby := Bd.bytes
  have hml : c.maxLocals = 1 := hml0
  have hown : s.vm.findClass "com/example/entgelt/entgelt/io/FieldFormsDigitsPinLaw" = some m.cls := findClass_of_methodNamed Bd.named
  have hnm := (name_of_methodNamed Bd.named Bd.method).1
  have X0 : Stand p l e ({ frames := 0, cells := 0, slots := 0, locals := 0 } : Room) s m #[(.int p1)] below meth c s₁ [] 0 0 := Stand.of_body Bd
  have e0 : s₁.heap = h0 := by rw [← hh, Bd.state]; rfl
  have N0 := Fr.nil n0
  have pre0 : ∀ t, Steps p.tables e below (s₁.setTop (mkF m 0 #[.val (.int p1)] [])) t → Steps p.tables e below (s₁.setTop (entryFrame m #[(.int p1)] 1)) t := fun t k => castTop (ef_1 m p1) k
  by_cases hc5 : (p1 &&& (256 : Int32)) = (0 : Int32)
  · skip
    have pre1 : ∀ t, Steps p.tables e below (s₁.setTop (mkF m 20 #[.val (.int p1)] [(.int (((48 : Int32) + ((p1 &&& (255 : Int32)) % (10 : Int32))).toInt8.toInt32))])) t → Steps p.tables e below (s₁.setTop (entryFrame m #[(.int p1)] 1)) t := fun t kt => by
      refine pre0 t ?_
      refine XS.iloadN X0.here hx rfl (hb hby d1_0) rfl ?_
      show Steps p.tables e below (s₁.setTop (mkF m 1 #[.val (.int p1)] [(.int p1)])) _
      refine XS.sipush X0.here hx rfl (hb hby d1_1) ?_
      show Steps p.tables e below (s₁.setTop (mkF m 4 #[.val (.int p1)] [(.int (256 : Int32)), (.int p1)])) _
      refine XS.iand X0.here hx rfl (hb hby d1_4) rfl ?_
      show Steps p.tables e below (s₁.setTop (mkF m 5 #[.val (.int p1)] [(.int (p1 &&& (256 : Int32)))])) _
      refine XS.ifNo X0.here hx rfl (hb hby d1_5) rfl ((if0 _ _).trans (teq hc5).2) ?_
      show Steps p.tables e below (s₁.setTop (mkF m 8 #[.val (.int p1)] [])) _
      refine XS.bipush X0.here hx rfl (hb hby d1_8) ?_
      show Steps p.tables e below (s₁.setTop (mkF m 10 #[.val (.int p1)] [(.int (48 : Int32))])) _
      refine XS.iloadN X0.here hx rfl (hb hby d1_10) rfl ?_
      show Steps p.tables e below (s₁.setTop (mkF m 11 #[.val (.int p1)] [(.int p1), (.int (48 : Int32))])) _
      refine XS.sipush X0.here hx rfl (hb hby d1_11) ?_
      show Steps p.tables e below (s₁.setTop (mkF m 14 #[.val (.int p1)] [(.int (255 : Int32)), (.int p1), (.int (48 : Int32))])) _
      refine XS.iand X0.here hx rfl (hb hby d1_14) rfl ?_
      show Steps p.tables e below (s₁.setTop (mkF m 15 #[.val (.int p1)] [(.int (p1 &&& (255 : Int32))), (.int (48 : Int32))])) _
      refine XS.bipush X0.here hx rfl (hb hby d1_15) ?_
      show Steps p.tables e below (s₁.setTop (mkF m 17 #[.val (.int p1)] [(.int (10 : Int32)), (.int (p1 &&& (255 : Int32))), (.int (48 : Int32))])) _
      have hnz17 : ¬ ((10 : Int32) = (0 : Int32)) := by decide
      refine iremM X0 hx rfl (hb hby d1_17) rfl hnz17 ?_
      show Steps p.tables e below (s₁.setTop (mkF m 18 #[.val (.int p1)] [(.int ((p1 &&& (255 : Int32)) % (10 : Int32))), (.int (48 : Int32))])) _
      refine XS.iadd X0.here hx rfl (hb hby d1_18) rfl ?_
      show Steps p.tables e below (s₁.setTop (mkF m 19 #[.val (.int p1)] [(.int ((48 : Int32) + ((p1 &&& (255 : Int32)) % (10 : Int32))))])) _
      refine XS.i2b X0.here hx rfl (hb hby d1_19) rfl ?_
      show Steps p.tables e below (s₁.setTop (mkF m 20 #[.val (.int p1)] [(.int (((48 : Int32) + ((p1 &&& (255 : Int32)) % (10 : Int32))).toInt8.toInt32))])) _
      exact kt
    obtain ⟨fs, hr, hrun, hended, hW, hsame⟩ := X0.leave (v := some (.int (nar .byte (((48 : Int32) + ((p1 &&& (255 : Int32)) % (10 : Int32))).toInt8.toInt32)))) (fun h => by rw [Bd.returns] at h; cases h) (BodyLoose.notSynchronized Bd)
    refine ⟨_, _, pre1 _ ?_, hrun, hended, _, _, rfl, ?_, ⟨_, rfl⟩, hW, hsame.mono (by decide) (by decide)⟩
    · exact retN X0 hx (t := .byte) Bd.returns (by simp) (hb hby d1_20) hr
    · show Q1 Z p1 h0 n0 _ s₁.heap _
      rw [e0]
      exact ⟨by first | rfl | (simp only [r1, if_pos hc5]), N0, rfl⟩
  · skip
    have pre2 : ∀ t, Steps p.tables e below (s₁.setTop (mkF m 23 #[.val (.int p1)] [(.int (p1.toInt8.toInt32))])) t → Steps p.tables e below (s₁.setTop (entryFrame m #[(.int p1)] 1)) t := fun t kt => by
      refine pre0 t ?_
      refine XS.iloadN X0.here hx rfl (hb hby d1_0) rfl ?_
      show Steps p.tables e below (s₁.setTop (mkF m 1 #[.val (.int p1)] [(.int p1)])) _
      refine XS.sipush X0.here hx rfl (hb hby d1_1) ?_
      show Steps p.tables e below (s₁.setTop (mkF m 4 #[.val (.int p1)] [(.int (256 : Int32)), (.int p1)])) _
      refine XS.iand X0.here hx rfl (hb hby d1_4) rfl ?_
      show Steps p.tables e below (s₁.setTop (mkF m 5 #[.val (.int p1)] [(.int (p1 &&& (256 : Int32)))])) _
      refine XS.ifYes X0.here hx rfl (pc0 := 5) (pc' := 21) rfl (hb hby d1_5) rfl ((if0 _ _).trans (feq hc5).2) (by decide) (by decide) ?_
      show Steps p.tables e below (s₁.setTop (mkF m 21 #[.val (.int p1)] [])) _
      refine XS.iloadN X0.here hx rfl (hb hby d1_21) rfl ?_
      show Steps p.tables e below (s₁.setTop (mkF m 22 #[.val (.int p1)] [(.int p1)])) _
      refine XS.i2b X0.here hx rfl (hb hby d1_22) rfl ?_
      show Steps p.tables e below (s₁.setTop (mkF m 23 #[.val (.int p1)] [(.int (p1.toInt8.toInt32))])) _
      exact kt
    obtain ⟨fs, hr, hrun, hended, hW, hsame⟩ := X0.leave (v := some (.int (nar .byte (p1.toInt8.toInt32)))) (fun h => by rw [Bd.returns] at h; cases h) (BodyLoose.notSynchronized Bd)
    refine ⟨_, _, pre2 _ ?_, hrun, hended, _, _, rfl, ?_, ⟨_, rfl⟩, hW, hsame.mono (by decide) (by decide)⟩
    · exact retN X0 hx (t := .byte) Bd.returns (by simp) (hb hby d1_23) hr
    · show Q1 Z p1 h0 n0 _ s₁.heap _
      rw [e0]
      exact ⟨by first | rfl | (simp only [r1, if_neg hc5]), N0, rfl⟩
theorem d2_0 : decode prog_13_method_3_code 0 = .ok (.iload_n 2, 1) := by decide +kernel
theorem d2_1 : decode prog_13_method_3_code 1 = .ok (.iload_n 1, 1) := by decide +kernel
theorem d2_2 : decode prog_13_method_3_code 2 = .ok (.isub, 1) := by decide +kernel
theorem d2_3 : decode prog_13_method_3_code 3 = .ok (.bipush 18, 2) := by decide +kernel
theorem d2_5 : decode prog_13_method_3_code 5 = .ok (.if_icmp .le 7, 3) := by decide +kernel
theorem d2_8 : decode prog_13_method_3_code 8 = .ok (.ldc2_w 23, 3) := by decide +kernel
theorem d2_11 : decode prog_13_method_3_code 11 = .ok (.lreturn, 1) := by decide +kernel
theorem d2_12 : decode prog_13_method_3_code 12 = .ok (.lconst 0, 1) := by decide +kernel
theorem d2_13 : decode prog_13_method_3_code 13 = .ok (.lstore_n 3, 1) := by decide +kernel
theorem d2_14 : decode prog_13_method_3_code 14 = .ok (.iload_n 1, 1) := by decide +kernel
theorem d2_15 : decode prog_13_method_3_code 15 = .ok (.istore 5, 2) := by decide +kernel
theorem d2_17 : decode prog_13_method_3_code 17 = .ok (.iload 5, 2) := by decide +kernel
theorem d2_19 : decode prog_13_method_3_code 19 = .ok (.iload_n 2, 1) := by decide +kernel
theorem d2_20 : decode prog_13_method_3_code 20 = .ok (.if_icmp .ge 47, 3) := by decide +kernel
theorem d2_23 : decode prog_13_method_3_code 23 = .ok (.aload_n 0, 1) := by decide +kernel
theorem d2_24 : decode prog_13_method_3_code 24 = .ok (.iload 5, 2) := by decide +kernel
theorem d2_26 : decode prog_13_method_3_code 26 = .ok (.baload, 1) := by decide +kernel
theorem d2_27 : decode prog_13_method_3_code 27 = .ok (.istore 6, 2) := by decide +kernel
theorem d2_29 : decode prog_13_method_3_code 29 = .ok (.iload 6, 2) := by decide +kernel
theorem d2_31 : decode prog_13_method_3_code 31 = .ok (.bipush 48, 2) := by decide +kernel
theorem d2_33 : decode prog_13_method_3_code 33 = .ok (.if_icmp .lt 10, 3) := by decide +kernel
theorem d2_36 : decode prog_13_method_3_code 36 = .ok (.iload 6, 2) := by decide +kernel
theorem d2_38 : decode prog_13_method_3_code 38 = .ok (.bipush 57, 2) := by decide +kernel
theorem d2_40 : decode prog_13_method_3_code 40 = .ok (.if_icmp .le 7, 3) := by decide +kernel
theorem d2_43 : decode prog_13_method_3_code 43 = .ok (.ldc2_w 23, 3) := by decide +kernel
theorem d2_46 : decode prog_13_method_3_code 46 = .ok (.lreturn, 1) := by decide +kernel
theorem d2_47 : decode prog_13_method_3_code 47 = .ok (.lload_n 3, 1) := by decide +kernel
theorem d2_48 : decode prog_13_method_3_code 48 = .ok (.ldc2_w 25, 3) := by decide +kernel
theorem d2_51 : decode prog_13_method_3_code 51 = .ok (.lmul, 1) := by decide +kernel
theorem d2_52 : decode prog_13_method_3_code 52 = .ok (.iload 6, 2) := by decide +kernel
theorem d2_54 : decode prog_13_method_3_code 54 = .ok (.i2l, 1) := by decide +kernel
theorem d2_55 : decode prog_13_method_3_code 55 = .ok (.ladd, 1) := by decide +kernel
theorem d2_56 : decode prog_13_method_3_code 56 = .ok (.ldc2_w 27, 3) := by decide +kernel
theorem d2_59 : decode prog_13_method_3_code 59 = .ok (.lsub, 1) := by decide +kernel
theorem d2_60 : decode prog_13_method_3_code 60 = .ok (.lstore_n 3, 1) := by decide +kernel
theorem d2_61 : decode prog_13_method_3_code 61 = .ok (.iinc 5 1, 3) := by decide +kernel
theorem d2_64 : decode prog_13_method_3_code 64 = .ok (.goto (-47), 3) := by decide +kernel
theorem d2_67 : decode prog_13_method_3_code 67 = .ok (.lload_n 3, 1) := by decide +kernel
theorem d2_68 : decode prog_13_method_3_code 68 = .ok (.lreturn, 1) := by decide +kernel
theorem pn_com_example_entgelt_entgelt_io_FieldForms : plainName "com/example/entgelt/entgelt/io/FieldForms" = true := by first | (simp [plainName, overriddenIn]; done) | decide +kernel
theorem ef_2 (m : MethodId) (x0 : Addr) (x1 : Int32) (x2 : Int32) : entryFrame m #[(.ref x0), (.int x1), (.int x2)] 7 = mkF m 0 #[.val (.ref x0), .val (.int x1), .val (.int x2), .unset, .unset, .unset, .unset] [] := by first | (simp [entryFrame, mkF, argsToLocals, Value.category]; done) | rfl
def r2 (p2 : Int32) (p3 : Int32) (el_a1 : Nat → Int32) : Int64 := (if (18 : Int32) < (p3 - p2) then (-1 : Int64) else (if p2 < p3 then (if (el_a1 (p2).toNatClampNeg) < (48 : Int32) then (-1 : Int64) else (if (57 : Int32) < (el_a1 (p2).toNatClampNeg) then (-1 : Int64) else (dg 20 el_a1 p3 (p2 + (1 : Int32)) ((((0 : Int64) * (10 : Int64)) + ((el_a1 (p2).toNatClampNeg).toInt64)) - (48 : Int64))))) else (0 : Int64)))
def Q2 (Z : State) (a1 : Addr) (p2 : Int32) (p3 : Int32) (el_a1 : Nat → Int32) (h0 : Heap) (n0 : Nat) (v : Option Value) (h : Heap) (L : List Loc) : Prop := v = some (.long (r2 p2 p3 el_a1)) ∧ Fr n0 L ∧ h = h0
set_option maxRecDepth 65536 in
set_option maxHeartbeats 40000000 in
theorem rm2 (l : Launch) (Z : State) (a0 : Array Value) (hw : ∀ d ∈ tables_1, d.before a0 Z = true) (ws : List Jvm.Cond) (a1 : Addr) (p2 : Int32) (p3 : Int32) (el_a1 : Nat → Int32) (h0 : Heap) (n0 : Nat) (Z0 : n0 ≤ h0.size) (V_a1 : Arf Z h0 a1 .byte (20 : Int32) (fun i => (.int (el_a1 i)))) (hto : p3.toInt ≤ 20) (hfr : 0 ≤ p2.toInt) :
    MetFree l (⟨"com/example/entgelt/entgelt/io/FieldForms", "digits", "([BII)J"⟩ : MethodName) (head1 (Jvm.Cond.code (⟨"com/example/entgelt/entgelt/io/FieldForms", "digits", "([BII)J"⟩ : MethodName) prog_13_method_3_code 7 (some .long) :: ws) ({ frames := 0, cells := 0, slots := 0, locals := 0 } : Room)) (fun a U => a = #[(.ref a1), (.int p2), (.int p3)] ∧ Z.Warmed39 U.vm ∧ U.heap = h0) (fun _ _ _ _ _ => True) (fun _ U o U' => ∃ v L, o = .returned v ∧ Q2 Z a1 p2 p3 el_a1 h0 n0 v U'.heap L ∧ FrameEnd U o U' L ({ frames := 0, cells := 0, slots := 0, locals := 0 } : Room).cells ({ frames := 0, cells := 0, slots := 0, locals := 0 } : Room).slots) := by
  refine MetFree.of_bodySF (plainFor_of_name pn_com_example_entgelt_entgelt_io_FieldForms) hisR ?_
  intro p e s m args below meth c s₁ Bd hml0 hP hK
  obtain ⟨rfl, hZ, hh⟩ := hP
  have hx := Bd.exec
  have hby := Bd.bytes
  have hml : c.maxLocals = 7 := hml0
  have hown : s.vm.findClass "com/example/entgelt/entgelt/io/FieldForms" = some m.cls := findClass_of_methodNamed Bd.named
  have hnm := (name_of_methodNamed Bd.named Bd.method).1
  have X0 : Stand p l e ({ frames := 0, cells := 0, slots := 0, locals := 0 } : Room) s m #[(.ref a1), (.int p2), (.int p3)] below meth c s₁ [] 0 0 := Stand.of_body Bd
  have e0 : s₁.heap = h0 := by rw [← hh, Bd.state]; rfl
  have N0 := Fr.nil n0
  have pre0 : ∀ t, Steps p.tables e below (s₁.setTop (mkF m 0 #[.val (.ref a1), .val (.int p2), .val (.int p3), .unset, .unset, .unset, .unset] [])) t → Steps p.tables e below (s₁.setTop (entryFrame m #[(.ref a1), (.int p2), (.int p3)] 7)) t := fun t k => castTop (ef_2 m a1 p2 p3) k
  by_cases hc5 : (18 : Int32) < (p3 - p2)
  · skip
    have pre1 : ∀ t, Steps p.tables e below (s₁.setTop (mkF m 11 #[.val (.ref a1), .val (.int p2), .val (.int p3), .unset, .unset, .unset, .unset] [(.long (-1 : Int64))])) t → Steps p.tables e below (s₁.setTop (entryFrame m #[(.ref a1), (.int p2), (.int p3)] 7)) t := fun t kt => by
      refine pre0 t ?_
      refine XS.iloadN X0.here hx rfl (hb hby d2_0) rfl ?_
      show Steps p.tables e below (s₁.setTop (mkF m 1 #[.val (.ref a1), .val (.int p2), .val (.int p3), .unset, .unset, .unset, .unset] [(.int p3)])) _
      refine XS.iloadN X0.here hx rfl (hb hby d2_1) rfl ?_
      show Steps p.tables e below (s₁.setTop (mkF m 2 #[.val (.ref a1), .val (.int p2), .val (.int p3), .unset, .unset, .unset, .unset] [(.int p2), (.int p3)])) _
      refine XS.isub X0.here hx rfl (hb hby d2_2) rfl ?_
      show Steps p.tables e below (s₁.setTop (mkF m 3 #[.val (.ref a1), .val (.int p2), .val (.int p3), .unset, .unset, .unset, .unset] [(.int (p3 - p2))])) _
      refine XS.bipush X0.here hx rfl (hb hby d2_3) ?_
      show Steps p.tables e below (s₁.setTop (mkF m 5 #[.val (.ref a1), .val (.int p2), .val (.int p3), .unset, .unset, .unset, .unset] [(.int (18 : Int32)), (.int (p3 - p2))])) _
      refine XS.icmpNo X0.here hx rfl (hb hby d2_5) rfl (tlt hc5).2.2.2 ?_
      show Steps p.tables e below (s₁.setTop (mkF m 8 #[.val (.ref a1), .val (.int p2), .val (.int p3), .unset, .unset, .unset, .unset] [])) _
      refine X0.ldc2Long hx hown (mvT hZ (hw _ (mgE 40 rfl))) (g := (mkF m 8 #[.val (.ref a1), .val (.int p2), .val (.int p3), .unset, .unset, .unset, .unset] [])) rfl (hb hby d2_8) _ ?_
      show Steps p.tables e below (s₁.setTop (mkF m 11 #[.val (.ref a1), .val (.int p2), .val (.int p3), .unset, .unset, .unset, .unset] [(.long (-1 : Int64))])) _
      exact kt
    obtain ⟨fs, hr, hrun, hended, hW, hsame⟩ := X0.leave (v := some (.long (-1 : Int64))) (fun h => by rw [Bd.returns] at h; cases h) (BodyLoose.notSynchronized Bd)
    refine ⟨_, _, pre1 _ ?_, hrun, hended, _, _, rfl, ?_, ⟨_, rfl⟩, hW, hsame.mono (by decide) (by decide)⟩
    · exact retJ X0 hx Bd.returns (hb hby d2_11) hr
    · show Q2 Z a1 p2 p3 el_a1 h0 n0 _ s₁.heap _
      rw [e0]
      exact ⟨by first | rfl | (simp only [r2, if_pos hc5]), N0, rfl⟩
  · skip
    by_cases hc20 : p2 < p3
    · skip
      have pre2 : ∀ t, Steps p.tables e below (s₁.setTop (mkF m 26 #[.val (.ref a1), .val (.int p2), .val (.int p3), .val (.long (0 : Int64)), .second, .val (.int p2), .unset] [(.int p2), (.ref a1)])) t → Steps p.tables e below (s₁.setTop (entryFrame m #[(.ref a1), (.int p2), (.int p3)] 7)) t := fun t kt => by
        refine pre0 t ?_
        refine XS.iloadN X0.here hx rfl (hb hby d2_0) rfl ?_
        show Steps p.tables e below (s₁.setTop (mkF m 1 #[.val (.ref a1), .val (.int p2), .val (.int p3), .unset, .unset, .unset, .unset] [(.int p3)])) _
        refine XS.iloadN X0.here hx rfl (hb hby d2_1) rfl ?_
        show Steps p.tables e below (s₁.setTop (mkF m 2 #[.val (.ref a1), .val (.int p2), .val (.int p3), .unset, .unset, .unset, .unset] [(.int p2), (.int p3)])) _
        refine XS.isub X0.here hx rfl (hb hby d2_2) rfl ?_
        show Steps p.tables e below (s₁.setTop (mkF m 3 #[.val (.ref a1), .val (.int p2), .val (.int p3), .unset, .unset, .unset, .unset] [(.int (p3 - p2))])) _
        refine XS.bipush X0.here hx rfl (hb hby d2_3) ?_
        show Steps p.tables e below (s₁.setTop (mkF m 5 #[.val (.ref a1), .val (.int p2), .val (.int p3), .unset, .unset, .unset, .unset] [(.int (18 : Int32)), (.int (p3 - p2))])) _
        refine XS.icmpYes X0.here hx rfl (pc0 := 5) (pc' := 12) rfl (hb hby d2_5) rfl (flt hc5).2.2.2 (by decide) (by decide) ?_
        show Steps p.tables e below (s₁.setTop (mkF m 12 #[.val (.ref a1), .val (.int p2), .val (.int p3), .unset, .unset, .unset, .unset] [])) _
        refine XS.lconst X0.here hx rfl (hb hby d2_12) ?_
        show Steps p.tables e below (s₁.setTop (mkF m 13 #[.val (.ref a1), .val (.int p2), .val (.int p3), .unset, .unset, .unset, .unset] [(.long (0 : Int64))])) _
        refine XS.lstoreN X0.here hx rfl (hb hby d2_13) rfl (l' := #[.val (.ref a1), .val (.int p2), .val (.int p3), .val (.long (0 : Int64)), .second, .unset, .unset]) rfl ?_
        show Steps p.tables e below (s₁.setTop (mkF m 14 #[.val (.ref a1), .val (.int p2), .val (.int p3), .val (.long (0 : Int64)), .second, .unset, .unset] [])) _
        refine XS.iloadN X0.here hx rfl (hb hby d2_14) rfl ?_
        show Steps p.tables e below (s₁.setTop (mkF m 15 #[.val (.ref a1), .val (.int p2), .val (.int p3), .val (.long (0 : Int64)), .second, .unset, .unset] [(.int p2)])) _
        refine XS.istore X0.here hx rfl (hb hby d2_15) rfl (l' := #[.val (.ref a1), .val (.int p2), .val (.int p3), .val (.long (0 : Int64)), .second, .val (.int p2), .unset]) rfl ?_
        show Steps p.tables e below (s₁.setTop (mkF m 17 #[.val (.ref a1), .val (.int p2), .val (.int p3), .val (.long (0 : Int64)), .second, .val (.int p2), .unset] [])) _
        refine XS.iload X0.here hx rfl (hb hby d2_17) rfl ?_
        show Steps p.tables e below (s₁.setTop (mkF m 19 #[.val (.ref a1), .val (.int p2), .val (.int p3), .val (.long (0 : Int64)), .second, .val (.int p2), .unset] [(.int p2)])) _
        refine XS.iloadN X0.here hx rfl (hb hby d2_19) rfl ?_
        show Steps p.tables e below (s₁.setTop (mkF m 20 #[.val (.ref a1), .val (.int p2), .val (.int p3), .val (.long (0 : Int64)), .second, .val (.int p2), .unset] [(.int p3), (.int p2)])) _
        refine XS.icmpNo X0.here hx rfl (hb hby d2_20) rfl (tlt hc20).2.1 ?_
        show Steps p.tables e below (s₁.setTop (mkF m 23 #[.val (.ref a1), .val (.int p2), .val (.int p3), .val (.long (0 : Int64)), .second, .val (.int p2), .unset] [])) _
        refine XS.aloadN X0.here hx rfl (hb hby d2_23) rfl rfl ?_
        show Steps p.tables e below (s₁.setTop (mkF m 24 #[.val (.ref a1), .val (.int p2), .val (.int p3), .val (.long (0 : Int64)), .second, .val (.int p2), .unset] [(.ref a1)])) _
        refine XS.iload X0.here hx rfl (hb hby d2_24) rfl ?_
        show Steps p.tables e below (s₁.setTop (mkF m 26 #[.val (.ref a1), .val (.int p2), .val (.int p3), .val (.long (0 : Int64)), .second, .val (.int p2), .unset] [(.int p2), (.ref a1)])) _
        exact kt
      obtain ⟨cl3, Ar3, S3, Ng3, H3⟩ := id V_a1
      have hj3 : ¬ p2 < 0 ∧ p2 < (20 : Int32) := own_ix p2 p3 hfr hc20 hto
      have hin3 := inb_of S3 hj3
      have lt3 : (p2).toNatClampNeg < ((20 : Int32)).toNatClampNeg := by rw [← S3]; exact Nat.lt_of_not_le fun q => hin3 (Or.inr q)
      by_cases hc33 : (el_a1 (p2).toNatClampNeg) < (48 : Int32)
      · skip
        have pre4 : ∀ t, Steps p.tables e below (s₁.setTop (mkF m 46 #[.val (.ref a1), .val (.int p2), .val (.int p3), .val (.long (0 : Int64)), .second, .val (.int p2), .val (.int (el_a1 (p2).toNatClampNeg))] [(.long (-1 : Int64))])) t → Steps p.tables e below (s₁.setTop (entryFrame m #[(.ref a1), (.int p2), (.int p3)] 7)) t := fun t kt => by
          refine pre2 t ?_
          refine X0.baloadBytes hx (j := p2) (v := (.int (el_a1 (p2).toNatClampNeg))) (by rw [e0]; exact Ar3.1) (State.isArrayOf_alike hZ.alike Ar3.2.1) Ar3.2.2 hin3 (H3 _ lt3) (g := (mkF m 26 #[.val (.ref a1), .val (.int p2), .val (.int p3), .val (.long (0 : Int64)), .second, .val (.int p2), .unset] [(.int p2), (.ref a1)])) rfl rfl (hb hby d2_26) _ ?_
          show Steps p.tables e below (s₁.setTop (mkF m 27 #[.val (.ref a1), .val (.int p2), .val (.int p3), .val (.long (0 : Int64)), .second, .val (.int p2), .unset] [(.int (el_a1 (p2).toNatClampNeg))])) _
          refine XS.istore X0.here hx rfl (hb hby d2_27) rfl (l' := #[.val (.ref a1), .val (.int p2), .val (.int p3), .val (.long (0 : Int64)), .second, .val (.int p2), .val (.int (el_a1 (p2).toNatClampNeg))]) rfl ?_
          show Steps p.tables e below (s₁.setTop (mkF m 29 #[.val (.ref a1), .val (.int p2), .val (.int p3), .val (.long (0 : Int64)), .second, .val (.int p2), .val (.int (el_a1 (p2).toNatClampNeg))] [])) _
          refine XS.iload X0.here hx rfl (hb hby d2_29) rfl ?_
          show Steps p.tables e below (s₁.setTop (mkF m 31 #[.val (.ref a1), .val (.int p2), .val (.int p3), .val (.long (0 : Int64)), .second, .val (.int p2), .val (.int (el_a1 (p2).toNatClampNeg))] [(.int (el_a1 (p2).toNatClampNeg))])) _
          refine XS.bipush X0.here hx rfl (hb hby d2_31) ?_
          show Steps p.tables e below (s₁.setTop (mkF m 33 #[.val (.ref a1), .val (.int p2), .val (.int p3), .val (.long (0 : Int64)), .second, .val (.int p2), .val (.int (el_a1 (p2).toNatClampNeg))] [(.int (48 : Int32)), (.int (el_a1 (p2).toNatClampNeg))])) _
          refine XS.icmpYes X0.here hx rfl (pc0 := 33) (pc' := 43) rfl (hb hby d2_33) rfl (tlt hc33).1 (by decide) (by decide) ?_
          show Steps p.tables e below (s₁.setTop (mkF m 43 #[.val (.ref a1), .val (.int p2), .val (.int p3), .val (.long (0 : Int64)), .second, .val (.int p2), .val (.int (el_a1 (p2).toNatClampNeg))] [])) _
          refine X0.ldc2Long hx hown (mvT hZ (hw _ (mgE 40 rfl))) (g := (mkF m 43 #[.val (.ref a1), .val (.int p2), .val (.int p3), .val (.long (0 : Int64)), .second, .val (.int p2), .val (.int (el_a1 (p2).toNatClampNeg))] [])) rfl (hb hby d2_43) _ ?_
          show Steps p.tables e below (s₁.setTop (mkF m 46 #[.val (.ref a1), .val (.int p2), .val (.int p3), .val (.long (0 : Int64)), .second, .val (.int p2), .val (.int (el_a1 (p2).toNatClampNeg))] [(.long (-1 : Int64))])) _
          exact kt
        obtain ⟨fs, hr, hrun, hended, hW, hsame⟩ := X0.leave (v := some (.long (-1 : Int64))) (fun h => by rw [Bd.returns] at h; cases h) (BodyLoose.notSynchronized Bd)
        refine ⟨_, _, pre4 _ ?_, hrun, hended, _, _, rfl, ?_, ⟨_, rfl⟩, hW, hsame.mono (by decide) (by decide)⟩
        · exact retJ X0 hx Bd.returns (hb hby d2_46) hr
        · show Q2 Z a1 p2 p3 el_a1 h0 n0 _ s₁.heap _
          rw [e0]
          exact ⟨by first | rfl | (simp only [r2, if_neg hc5, if_pos hc20, if_pos hc33]), N0, rfl⟩
      · skip
        by_cases hc40 : (57 : Int32) < (el_a1 (p2).toNatClampNeg)
        · skip
          have pre5 : ∀ t, Steps p.tables e below (s₁.setTop (mkF m 46 #[.val (.ref a1), .val (.int p2), .val (.int p3), .val (.long (0 : Int64)), .second, .val (.int p2), .val (.int (el_a1 (p2).toNatClampNeg))] [(.long (-1 : Int64))])) t → Steps p.tables e below (s₁.setTop (entryFrame m #[(.ref a1), (.int p2), (.int p3)] 7)) t := fun t kt => by
            refine pre2 t ?_
            refine X0.baloadBytes hx (j := p2) (v := (.int (el_a1 (p2).toNatClampNeg))) (by rw [e0]; exact Ar3.1) (State.isArrayOf_alike hZ.alike Ar3.2.1) Ar3.2.2 hin3 (H3 _ lt3) (g := (mkF m 26 #[.val (.ref a1), .val (.int p2), .val (.int p3), .val (.long (0 : Int64)), .second, .val (.int p2), .unset] [(.int p2), (.ref a1)])) rfl rfl (hb hby d2_26) _ ?_
            show Steps p.tables e below (s₁.setTop (mkF m 27 #[.val (.ref a1), .val (.int p2), .val (.int p3), .val (.long (0 : Int64)), .second, .val (.int p2), .unset] [(.int (el_a1 (p2).toNatClampNeg))])) _
            refine XS.istore X0.here hx rfl (hb hby d2_27) rfl (l' := #[.val (.ref a1), .val (.int p2), .val (.int p3), .val (.long (0 : Int64)), .second, .val (.int p2), .val (.int (el_a1 (p2).toNatClampNeg))]) rfl ?_
            show Steps p.tables e below (s₁.setTop (mkF m 29 #[.val (.ref a1), .val (.int p2), .val (.int p3), .val (.long (0 : Int64)), .second, .val (.int p2), .val (.int (el_a1 (p2).toNatClampNeg))] [])) _
            refine XS.iload X0.here hx rfl (hb hby d2_29) rfl ?_
            show Steps p.tables e below (s₁.setTop (mkF m 31 #[.val (.ref a1), .val (.int p2), .val (.int p3), .val (.long (0 : Int64)), .second, .val (.int p2), .val (.int (el_a1 (p2).toNatClampNeg))] [(.int (el_a1 (p2).toNatClampNeg))])) _
            refine XS.bipush X0.here hx rfl (hb hby d2_31) ?_
            show Steps p.tables e below (s₁.setTop (mkF m 33 #[.val (.ref a1), .val (.int p2), .val (.int p3), .val (.long (0 : Int64)), .second, .val (.int p2), .val (.int (el_a1 (p2).toNatClampNeg))] [(.int (48 : Int32)), (.int (el_a1 (p2).toNatClampNeg))])) _
            refine XS.icmpNo X0.here hx rfl (hb hby d2_33) rfl (flt hc33).1 ?_
            show Steps p.tables e below (s₁.setTop (mkF m 36 #[.val (.ref a1), .val (.int p2), .val (.int p3), .val (.long (0 : Int64)), .second, .val (.int p2), .val (.int (el_a1 (p2).toNatClampNeg))] [])) _
            refine XS.iload X0.here hx rfl (hb hby d2_36) rfl ?_
            show Steps p.tables e below (s₁.setTop (mkF m 38 #[.val (.ref a1), .val (.int p2), .val (.int p3), .val (.long (0 : Int64)), .second, .val (.int p2), .val (.int (el_a1 (p2).toNatClampNeg))] [(.int (el_a1 (p2).toNatClampNeg))])) _
            refine XS.bipush X0.here hx rfl (hb hby d2_38) ?_
            show Steps p.tables e below (s₁.setTop (mkF m 40 #[.val (.ref a1), .val (.int p2), .val (.int p3), .val (.long (0 : Int64)), .second, .val (.int p2), .val (.int (el_a1 (p2).toNatClampNeg))] [(.int (57 : Int32)), (.int (el_a1 (p2).toNatClampNeg))])) _
            refine XS.icmpNo X0.here hx rfl (hb hby d2_40) rfl (tlt hc40).2.2.2 ?_
            show Steps p.tables e below (s₁.setTop (mkF m 43 #[.val (.ref a1), .val (.int p2), .val (.int p3), .val (.long (0 : Int64)), .second, .val (.int p2), .val (.int (el_a1 (p2).toNatClampNeg))] [])) _
            refine X0.ldc2Long hx hown (mvT hZ (hw _ (mgE 40 rfl))) (g := (mkF m 43 #[.val (.ref a1), .val (.int p2), .val (.int p3), .val (.long (0 : Int64)), .second, .val (.int p2), .val (.int (el_a1 (p2).toNatClampNeg))] [])) rfl (hb hby d2_43) _ ?_
            show Steps p.tables e below (s₁.setTop (mkF m 46 #[.val (.ref a1), .val (.int p2), .val (.int p3), .val (.long (0 : Int64)), .second, .val (.int p2), .val (.int (el_a1 (p2).toNatClampNeg))] [(.long (-1 : Int64))])) _
            exact kt
          obtain ⟨fs, hr, hrun, hended, hW, hsame⟩ := X0.leave (v := some (.long (-1 : Int64))) (fun h => by rw [Bd.returns] at h; cases h) (BodyLoose.notSynchronized Bd)
          refine ⟨_, _, pre5 _ ?_, hrun, hended, _, _, rfl, ?_, ⟨_, rfl⟩, hW, hsame.mono (by decide) (by decide)⟩
          · exact retJ X0 hx Bd.returns (hb hby d2_46) hr
          · show Q2 Z a1 p2 p3 el_a1 h0 n0 _ s₁.heap _
            rw [e0]
            exact ⟨by first | rfl | (simp only [r2, if_neg hc5, if_pos hc20, if_neg hc33, if_pos hc40]), N0, rfl⟩
        · skip
          have pre6 : ∀ t, Steps p.tables e below (s₁.setTop (mkF m 17 #[.val (.ref a1), .val (.int p2), .val (.int p3), .val (.long ((((0 : Int64) * (10 : Int64)) + ((el_a1 (p2).toNatClampNeg).toInt64)) - (48 : Int64))), .second, .val (.int (p2 + (1 : Int32))), .val (.int (el_a1 (p2).toNatClampNeg))] [])) t → Steps p.tables e below (s₁.setTop (entryFrame m #[(.ref a1), (.int p2), (.int p3)] 7)) t := fun t kt => by
            refine pre2 t ?_
            refine X0.baloadBytes hx (j := p2) (v := (.int (el_a1 (p2).toNatClampNeg))) (by rw [e0]; exact Ar3.1) (State.isArrayOf_alike hZ.alike Ar3.2.1) Ar3.2.2 hin3 (H3 _ lt3) (g := (mkF m 26 #[.val (.ref a1), .val (.int p2), .val (.int p3), .val (.long (0 : Int64)), .second, .val (.int p2), .unset] [(.int p2), (.ref a1)])) rfl rfl (hb hby d2_26) _ ?_
            show Steps p.tables e below (s₁.setTop (mkF m 27 #[.val (.ref a1), .val (.int p2), .val (.int p3), .val (.long (0 : Int64)), .second, .val (.int p2), .unset] [(.int (el_a1 (p2).toNatClampNeg))])) _
            refine XS.istore X0.here hx rfl (hb hby d2_27) rfl (l' := #[.val (.ref a1), .val (.int p2), .val (.int p3), .val (.long (0 : Int64)), .second, .val (.int p2), .val (.int (el_a1 (p2).toNatClampNeg))]) rfl ?_
            show Steps p.tables e below (s₁.setTop (mkF m 29 #[.val (.ref a1), .val (.int p2), .val (.int p3), .val (.long (0 : Int64)), .second, .val (.int p2), .val (.int (el_a1 (p2).toNatClampNeg))] [])) _
            refine XS.iload X0.here hx rfl (hb hby d2_29) rfl ?_
            show Steps p.tables e below (s₁.setTop (mkF m 31 #[.val (.ref a1), .val (.int p2), .val (.int p3), .val (.long (0 : Int64)), .second, .val (.int p2), .val (.int (el_a1 (p2).toNatClampNeg))] [(.int (el_a1 (p2).toNatClampNeg))])) _
            refine XS.bipush X0.here hx rfl (hb hby d2_31) ?_
            show Steps p.tables e below (s₁.setTop (mkF m 33 #[.val (.ref a1), .val (.int p2), .val (.int p3), .val (.long (0 : Int64)), .second, .val (.int p2), .val (.int (el_a1 (p2).toNatClampNeg))] [(.int (48 : Int32)), (.int (el_a1 (p2).toNatClampNeg))])) _
            refine XS.icmpNo X0.here hx rfl (hb hby d2_33) rfl (flt hc33).1 ?_
            show Steps p.tables e below (s₁.setTop (mkF m 36 #[.val (.ref a1), .val (.int p2), .val (.int p3), .val (.long (0 : Int64)), .second, .val (.int p2), .val (.int (el_a1 (p2).toNatClampNeg))] [])) _
            refine XS.iload X0.here hx rfl (hb hby d2_36) rfl ?_
            show Steps p.tables e below (s₁.setTop (mkF m 38 #[.val (.ref a1), .val (.int p2), .val (.int p3), .val (.long (0 : Int64)), .second, .val (.int p2), .val (.int (el_a1 (p2).toNatClampNeg))] [(.int (el_a1 (p2).toNatClampNeg))])) _
            refine XS.bipush X0.here hx rfl (hb hby d2_38) ?_
            show Steps p.tables e below (s₁.setTop (mkF m 40 #[.val (.ref a1), .val (.int p2), .val (.int p3), .val (.long (0 : Int64)), .second, .val (.int p2), .val (.int (el_a1 (p2).toNatClampNeg))] [(.int (57 : Int32)), (.int (el_a1 (p2).toNatClampNeg))])) _
            refine XS.icmpYes X0.here hx rfl (pc0 := 40) (pc' := 47) rfl (hb hby d2_40) rfl (flt hc40).2.2.2 (by decide) (by decide) ?_
            show Steps p.tables e below (s₁.setTop (mkF m 47 #[.val (.ref a1), .val (.int p2), .val (.int p3), .val (.long (0 : Int64)), .second, .val (.int p2), .val (.int (el_a1 (p2).toNatClampNeg))] [])) _
            refine XS.lloadN X0.here hx rfl (hb hby d2_47) rfl ?_
            show Steps p.tables e below (s₁.setTop (mkF m 48 #[.val (.ref a1), .val (.int p2), .val (.int p3), .val (.long (0 : Int64)), .second, .val (.int p2), .val (.int (el_a1 (p2).toNatClampNeg))] [(.long (0 : Int64))])) _
            refine X0.ldc2Long hx hown (mvT hZ (hw _ (mgE 38 rfl))) (g := (mkF m 48 #[.val (.ref a1), .val (.int p2), .val (.int p3), .val (.long (0 : Int64)), .second, .val (.int p2), .val (.int (el_a1 (p2).toNatClampNeg))] [(.long (0 : Int64))])) rfl (hb hby d2_48) _ ?_
            show Steps p.tables e below (s₁.setTop (mkF m 51 #[.val (.ref a1), .val (.int p2), .val (.int p3), .val (.long (0 : Int64)), .second, .val (.int p2), .val (.int (el_a1 (p2).toNatClampNeg))] [(.long (10 : Int64)), (.long (0 : Int64))])) _
            refine XS.lmul X0.here hx rfl (hb hby d2_51) rfl ?_
            show Steps p.tables e below (s₁.setTop (mkF m 52 #[.val (.ref a1), .val (.int p2), .val (.int p3), .val (.long (0 : Int64)), .second, .val (.int p2), .val (.int (el_a1 (p2).toNatClampNeg))] [(.long ((0 : Int64) * (10 : Int64)))])) _
            refine XS.iload X0.here hx rfl (hb hby d2_52) rfl ?_
            show Steps p.tables e below (s₁.setTop (mkF m 54 #[.val (.ref a1), .val (.int p2), .val (.int p3), .val (.long (0 : Int64)), .second, .val (.int p2), .val (.int (el_a1 (p2).toNatClampNeg))] [(.int (el_a1 (p2).toNatClampNeg)), (.long ((0 : Int64) * (10 : Int64)))])) _
            refine XS.i2l X0.here hx rfl (hb hby d2_54) rfl ?_
            show Steps p.tables e below (s₁.setTop (mkF m 55 #[.val (.ref a1), .val (.int p2), .val (.int p3), .val (.long (0 : Int64)), .second, .val (.int p2), .val (.int (el_a1 (p2).toNatClampNeg))] [(.long ((el_a1 (p2).toNatClampNeg).toInt64)), (.long ((0 : Int64) * (10 : Int64)))])) _
            refine XS.ladd X0.here hx rfl (hb hby d2_55) rfl ?_
            show Steps p.tables e below (s₁.setTop (mkF m 56 #[.val (.ref a1), .val (.int p2), .val (.int p3), .val (.long (0 : Int64)), .second, .val (.int p2), .val (.int (el_a1 (p2).toNatClampNeg))] [(.long (((0 : Int64) * (10 : Int64)) + ((el_a1 (p2).toNatClampNeg).toInt64)))])) _
            refine X0.ldc2Long hx hown (mvT hZ (hw _ (mgE 39 rfl))) (g := (mkF m 56 #[.val (.ref a1), .val (.int p2), .val (.int p3), .val (.long (0 : Int64)), .second, .val (.int p2), .val (.int (el_a1 (p2).toNatClampNeg))] [(.long (((0 : Int64) * (10 : Int64)) + ((el_a1 (p2).toNatClampNeg).toInt64)))])) rfl (hb hby d2_56) _ ?_
            show Steps p.tables e below (s₁.setTop (mkF m 59 #[.val (.ref a1), .val (.int p2), .val (.int p3), .val (.long (0 : Int64)), .second, .val (.int p2), .val (.int (el_a1 (p2).toNatClampNeg))] [(.long (48 : Int64)), (.long (((0 : Int64) * (10 : Int64)) + ((el_a1 (p2).toNatClampNeg).toInt64)))])) _
            refine XS.lsub X0.here hx rfl (hb hby d2_59) rfl ?_
            show Steps p.tables e below (s₁.setTop (mkF m 60 #[.val (.ref a1), .val (.int p2), .val (.int p3), .val (.long (0 : Int64)), .second, .val (.int p2), .val (.int (el_a1 (p2).toNatClampNeg))] [(.long ((((0 : Int64) * (10 : Int64)) + ((el_a1 (p2).toNatClampNeg).toInt64)) - (48 : Int64)))])) _
            refine XS.lstoreN X0.here hx rfl (hb hby d2_60) rfl (l' := #[.val (.ref a1), .val (.int p2), .val (.int p3), .val (.long ((((0 : Int64) * (10 : Int64)) + ((el_a1 (p2).toNatClampNeg).toInt64)) - (48 : Int64))), .second, .val (.int p2), .val (.int (el_a1 (p2).toNatClampNeg))]) rfl ?_
            show Steps p.tables e below (s₁.setTop (mkF m 61 #[.val (.ref a1), .val (.int p2), .val (.int p3), .val (.long ((((0 : Int64) * (10 : Int64)) + ((el_a1 (p2).toNatClampNeg).toInt64)) - (48 : Int64))), .second, .val (.int p2), .val (.int (el_a1 (p2).toNatClampNeg))] [])) _
            refine XS.iinc X0.here hx rfl (hb hby d2_61) rfl (l' := #[.val (.ref a1), .val (.int p2), .val (.int p3), .val (.long ((((0 : Int64) * (10 : Int64)) + ((el_a1 (p2).toNatClampNeg).toInt64)) - (48 : Int64))), .second, .val (.int (p2 + (1 : Int32))), .val (.int (el_a1 (p2).toNatClampNeg))]) rfl ?_
            show Steps p.tables e below (s₁.setTop (mkF m 64 #[.val (.ref a1), .val (.int p2), .val (.int p3), .val (.long ((((0 : Int64) * (10 : Int64)) + ((el_a1 (p2).toNatClampNeg).toInt64)) - (48 : Int64))), .second, .val (.int (p2 + (1 : Int32))), .val (.int (el_a1 (p2).toNatClampNeg))] [])) _
            refine XS.goto X0.here hx rfl (pc0 := 64) (pc' := 17) rfl (hb hby d2_64) (by decide) (by decide) ?_
            show Steps p.tables e below (s₁.setTop (mkF m 17 #[.val (.ref a1), .val (.int p2), .val (.int p3), .val (.long ((((0 : Int64) * (10 : Int64)) + ((el_a1 (p2).toNatClampNeg).toInt64)) - (48 : Int64))), .second, .val (.int (p2 + (1 : Int32))), .val (.int (el_a1 (p2).toNatClampNeg))] [])) _
            exact kt
          have loop17 : ∀ (k : Nat) (va : Int64) (vi : Int32) (vb : Int32), (0 ≤ vi.toInt) → (p3.toInt - vi.toInt).toNat < k → (∃ (x17_5 : Int32) (x17_6 : Int32), (∀ t, Steps p.tables e below (s₁.setTop (mkF m 67 #[.val (.ref a1), .val (.int p2), .val (.int p3), .val (.long (dg k el_a1 p3 vi va)), .second, .val (.int x17_5), .val (.int x17_6)] [])) t → Steps p.tables e below (s₁.setTop (mkF m 17 #[.val (.ref a1), .val (.int p2), .val (.int p3), .val (.long va), .second, .val (.int vi), .val (.int vb)] [])) t)) ∨ (((dg k el_a1 p3 vi va) = (-1 : Int64)) ∧ ∃ (y17_3 : Int64) (y17_5 : Int32) (y17_6 : Int32), (∀ t, Steps p.tables e below (s₁.setTop (mkF m 43 #[.val (.ref a1), .val (.int p2), .val (.int p3), .val (.long y17_3), .second, .val (.int y17_5), .val (.int y17_6)] [])) t → Steps p.tables e below (s₁.setTop (mkF m 17 #[.val (.ref a1), .val (.int p2), .val (.int p3), .val (.long va), .second, .val (.int vi), .val (.int vb)] [])) t)) := by
            intro k
            induction k with
            | zero => intro va vi vb hi hm; exact absurd hm (Nat.not_lt_zero _)
            | succ k ih =>
              intro va vi vb hi hm
              by_cases hc20_7 : vi < p3
              · skip
                have pre8 : ∀ t, Steps p.tables e below (s₁.setTop (mkF m 26 #[.val (.ref a1), .val (.int p2), .val (.int p3), .val (.long va), .second, .val (.int vi), .val (.int vb)] [(.int vi), (.ref a1)])) t → Steps p.tables e below (s₁.setTop (mkF m 17 #[.val (.ref a1), .val (.int p2), .val (.int p3), .val (.long va), .second, .val (.int vi), .val (.int vb)] [])) t := fun t kt => by
                  refine (fun t (kt : Steps p.tables e below (s₁.setTop (mkF m 17 #[.val (.ref a1), .val (.int p2), .val (.int p3), .val (.long va), .second, .val (.int vi), .val (.int vb)] [])) t) => kt) t ?_
                  refine XS.iload X0.here hx rfl (hb hby d2_17) rfl ?_
                  show Steps p.tables e below (s₁.setTop (mkF m 19 #[.val (.ref a1), .val (.int p2), .val (.int p3), .val (.long va), .second, .val (.int vi), .val (.int vb)] [(.int vi)])) _
                  refine XS.iloadN X0.here hx rfl (hb hby d2_19) rfl ?_
                  show Steps p.tables e below (s₁.setTop (mkF m 20 #[.val (.ref a1), .val (.int p2), .val (.int p3), .val (.long va), .second, .val (.int vi), .val (.int vb)] [(.int p3), (.int vi)])) _
                  refine XS.icmpNo X0.here hx rfl (hb hby d2_20) rfl (tlt hc20_7).2.1 ?_
                  show Steps p.tables e below (s₁.setTop (mkF m 23 #[.val (.ref a1), .val (.int p2), .val (.int p3), .val (.long va), .second, .val (.int vi), .val (.int vb)] [])) _
                  refine XS.aloadN X0.here hx rfl (hb hby d2_23) rfl rfl ?_
                  show Steps p.tables e below (s₁.setTop (mkF m 24 #[.val (.ref a1), .val (.int p2), .val (.int p3), .val (.long va), .second, .val (.int vi), .val (.int vb)] [(.ref a1)])) _
                  refine XS.iload X0.here hx rfl (hb hby d2_24) rfl ?_
                  show Steps p.tables e below (s₁.setTop (mkF m 26 #[.val (.ref a1), .val (.int p2), .val (.int p3), .val (.long va), .second, .val (.int vi), .val (.int vb)] [(.int vi), (.ref a1)])) _
                  exact kt
                obtain ⟨cl9, Ar9, S9, Ng9, H9⟩ := id V_a1
                have hj9 : ¬ vi < 0 ∧ vi < (20 : Int32) := own_ix vi p3 hi hc20_7 hto
                have hin9 := inb_of S9 hj9
                have lt9 : (vi).toNatClampNeg < ((20 : Int32)).toNatClampNeg := by rw [← S9]; exact Nat.lt_of_not_le fun q => hin9 (Or.inr q)
                by_cases hc33_10 : (el_a1 (vi).toNatClampNeg) < (48 : Int32)
                · skip
                  have pre11 : ∀ t, Steps p.tables e below (s₁.setTop (mkF m 43 #[.val (.ref a1), .val (.int p2), .val (.int p3), .val (.long va), .second, .val (.int vi), .val (.int (el_a1 (vi).toNatClampNeg))] [])) t → Steps p.tables e below (s₁.setTop (mkF m 17 #[.val (.ref a1), .val (.int p2), .val (.int p3), .val (.long va), .second, .val (.int vi), .val (.int vb)] [])) t := fun t kt => by
                    refine pre8 t ?_
                    refine X0.baloadBytes hx (j := vi) (v := (.int (el_a1 (vi).toNatClampNeg))) (by rw [e0]; exact Ar9.1) (State.isArrayOf_alike hZ.alike Ar9.2.1) Ar9.2.2 hin9 (H9 _ lt9) (g := (mkF m 26 #[.val (.ref a1), .val (.int p2), .val (.int p3), .val (.long va), .second, .val (.int vi), .val (.int vb)] [(.int vi), (.ref a1)])) rfl rfl (hb hby d2_26) _ ?_
                    show Steps p.tables e below (s₁.setTop (mkF m 27 #[.val (.ref a1), .val (.int p2), .val (.int p3), .val (.long va), .second, .val (.int vi), .val (.int vb)] [(.int (el_a1 (vi).toNatClampNeg))])) _
                    refine XS.istore X0.here hx rfl (hb hby d2_27) rfl (l' := #[.val (.ref a1), .val (.int p2), .val (.int p3), .val (.long va), .second, .val (.int vi), .val (.int (el_a1 (vi).toNatClampNeg))]) rfl ?_
                    show Steps p.tables e below (s₁.setTop (mkF m 29 #[.val (.ref a1), .val (.int p2), .val (.int p3), .val (.long va), .second, .val (.int vi), .val (.int (el_a1 (vi).toNatClampNeg))] [])) _
                    refine XS.iload X0.here hx rfl (hb hby d2_29) rfl ?_
                    show Steps p.tables e below (s₁.setTop (mkF m 31 #[.val (.ref a1), .val (.int p2), .val (.int p3), .val (.long va), .second, .val (.int vi), .val (.int (el_a1 (vi).toNatClampNeg))] [(.int (el_a1 (vi).toNatClampNeg))])) _
                    refine XS.bipush X0.here hx rfl (hb hby d2_31) ?_
                    show Steps p.tables e below (s₁.setTop (mkF m 33 #[.val (.ref a1), .val (.int p2), .val (.int p3), .val (.long va), .second, .val (.int vi), .val (.int (el_a1 (vi).toNatClampNeg))] [(.int (48 : Int32)), (.int (el_a1 (vi).toNatClampNeg))])) _
                    refine XS.icmpYes X0.here hx rfl (pc0 := 33) (pc' := 43) rfl (hb hby d2_33) rfl (tlt hc33_10).1 (by decide) (by decide) ?_
                    show Steps p.tables e below (s₁.setTop (mkF m 43 #[.val (.ref a1), .val (.int p2), .val (.int p3), .val (.long va), .second, .val (.int vi), .val (.int (el_a1 (vi).toNatClampNeg))] [])) _
                    exact kt
                  exact Or.inr ⟨by simp only [dg, if_pos hc20_7, if_pos hc33_10], va, vi, (el_a1 (vi).toNatClampNeg), fun t kt => pre11 t kt⟩
                · skip
                  by_cases hc40_12 : (57 : Int32) < (el_a1 (vi).toNatClampNeg)
                  · skip
                    have pre13 : ∀ t, Steps p.tables e below (s₁.setTop (mkF m 43 #[.val (.ref a1), .val (.int p2), .val (.int p3), .val (.long va), .second, .val (.int vi), .val (.int (el_a1 (vi).toNatClampNeg))] [])) t → Steps p.tables e below (s₁.setTop (mkF m 17 #[.val (.ref a1), .val (.int p2), .val (.int p3), .val (.long va), .second, .val (.int vi), .val (.int vb)] [])) t := fun t kt => by
                      refine pre8 t ?_
                      refine X0.baloadBytes hx (j := vi) (v := (.int (el_a1 (vi).toNatClampNeg))) (by rw [e0]; exact Ar9.1) (State.isArrayOf_alike hZ.alike Ar9.2.1) Ar9.2.2 hin9 (H9 _ lt9) (g := (mkF m 26 #[.val (.ref a1), .val (.int p2), .val (.int p3), .val (.long va), .second, .val (.int vi), .val (.int vb)] [(.int vi), (.ref a1)])) rfl rfl (hb hby d2_26) _ ?_
                      show Steps p.tables e below (s₁.setTop (mkF m 27 #[.val (.ref a1), .val (.int p2), .val (.int p3), .val (.long va), .second, .val (.int vi), .val (.int vb)] [(.int (el_a1 (vi).toNatClampNeg))])) _
                      refine XS.istore X0.here hx rfl (hb hby d2_27) rfl (l' := #[.val (.ref a1), .val (.int p2), .val (.int p3), .val (.long va), .second, .val (.int vi), .val (.int (el_a1 (vi).toNatClampNeg))]) rfl ?_
                      show Steps p.tables e below (s₁.setTop (mkF m 29 #[.val (.ref a1), .val (.int p2), .val (.int p3), .val (.long va), .second, .val (.int vi), .val (.int (el_a1 (vi).toNatClampNeg))] [])) _
                      refine XS.iload X0.here hx rfl (hb hby d2_29) rfl ?_
                      show Steps p.tables e below (s₁.setTop (mkF m 31 #[.val (.ref a1), .val (.int p2), .val (.int p3), .val (.long va), .second, .val (.int vi), .val (.int (el_a1 (vi).toNatClampNeg))] [(.int (el_a1 (vi).toNatClampNeg))])) _
                      refine XS.bipush X0.here hx rfl (hb hby d2_31) ?_
                      show Steps p.tables e below (s₁.setTop (mkF m 33 #[.val (.ref a1), .val (.int p2), .val (.int p3), .val (.long va), .second, .val (.int vi), .val (.int (el_a1 (vi).toNatClampNeg))] [(.int (48 : Int32)), (.int (el_a1 (vi).toNatClampNeg))])) _
                      refine XS.icmpNo X0.here hx rfl (hb hby d2_33) rfl (flt hc33_10).1 ?_
                      show Steps p.tables e below (s₁.setTop (mkF m 36 #[.val (.ref a1), .val (.int p2), .val (.int p3), .val (.long va), .second, .val (.int vi), .val (.int (el_a1 (vi).toNatClampNeg))] [])) _
                      refine XS.iload X0.here hx rfl (hb hby d2_36) rfl ?_
                      show Steps p.tables e below (s₁.setTop (mkF m 38 #[.val (.ref a1), .val (.int p2), .val (.int p3), .val (.long va), .second, .val (.int vi), .val (.int (el_a1 (vi).toNatClampNeg))] [(.int (el_a1 (vi).toNatClampNeg))])) _
                      refine XS.bipush X0.here hx rfl (hb hby d2_38) ?_
                      show Steps p.tables e below (s₁.setTop (mkF m 40 #[.val (.ref a1), .val (.int p2), .val (.int p3), .val (.long va), .second, .val (.int vi), .val (.int (el_a1 (vi).toNatClampNeg))] [(.int (57 : Int32)), (.int (el_a1 (vi).toNatClampNeg))])) _
                      refine XS.icmpNo X0.here hx rfl (hb hby d2_40) rfl (tlt hc40_12).2.2.2 ?_
                      show Steps p.tables e below (s₁.setTop (mkF m 43 #[.val (.ref a1), .val (.int p2), .val (.int p3), .val (.long va), .second, .val (.int vi), .val (.int (el_a1 (vi).toNatClampNeg))] [])) _
                      exact kt
                    exact Or.inr ⟨by simp only [dg, if_pos hc20_7, if_neg hc33_10, if_pos hc40_12], va, vi, (el_a1 (vi).toNatClampNeg), fun t kt => pre13 t kt⟩
                  · skip
                    have pre14 : ∀ t, Steps p.tables e below (s₁.setTop (mkF m 17 #[.val (.ref a1), .val (.int p2), .val (.int p3), .val (.long (((va * (10 : Int64)) + ((el_a1 (vi).toNatClampNeg).toInt64)) - (48 : Int64))), .second, .val (.int (vi + (1 : Int32))), .val (.int (el_a1 (vi).toNatClampNeg))] [])) t → Steps p.tables e below (s₁.setTop (mkF m 17 #[.val (.ref a1), .val (.int p2), .val (.int p3), .val (.long va), .second, .val (.int vi), .val (.int vb)] [])) t := fun t kt => by
                      refine pre8 t ?_
                      refine X0.baloadBytes hx (j := vi) (v := (.int (el_a1 (vi).toNatClampNeg))) (by rw [e0]; exact Ar9.1) (State.isArrayOf_alike hZ.alike Ar9.2.1) Ar9.2.2 hin9 (H9 _ lt9) (g := (mkF m 26 #[.val (.ref a1), .val (.int p2), .val (.int p3), .val (.long va), .second, .val (.int vi), .val (.int vb)] [(.int vi), (.ref a1)])) rfl rfl (hb hby d2_26) _ ?_
                      show Steps p.tables e below (s₁.setTop (mkF m 27 #[.val (.ref a1), .val (.int p2), .val (.int p3), .val (.long va), .second, .val (.int vi), .val (.int vb)] [(.int (el_a1 (vi).toNatClampNeg))])) _
                      refine XS.istore X0.here hx rfl (hb hby d2_27) rfl (l' := #[.val (.ref a1), .val (.int p2), .val (.int p3), .val (.long va), .second, .val (.int vi), .val (.int (el_a1 (vi).toNatClampNeg))]) rfl ?_
                      show Steps p.tables e below (s₁.setTop (mkF m 29 #[.val (.ref a1), .val (.int p2), .val (.int p3), .val (.long va), .second, .val (.int vi), .val (.int (el_a1 (vi).toNatClampNeg))] [])) _
                      refine XS.iload X0.here hx rfl (hb hby d2_29) rfl ?_
                      show Steps p.tables e below (s₁.setTop (mkF m 31 #[.val (.ref a1), .val (.int p2), .val (.int p3), .val (.long va), .second, .val (.int vi), .val (.int (el_a1 (vi).toNatClampNeg))] [(.int (el_a1 (vi).toNatClampNeg))])) _
                      refine XS.bipush X0.here hx rfl (hb hby d2_31) ?_
                      show Steps p.tables e below (s₁.setTop (mkF m 33 #[.val (.ref a1), .val (.int p2), .val (.int p3), .val (.long va), .second, .val (.int vi), .val (.int (el_a1 (vi).toNatClampNeg))] [(.int (48 : Int32)), (.int (el_a1 (vi).toNatClampNeg))])) _
                      refine XS.icmpNo X0.here hx rfl (hb hby d2_33) rfl (flt hc33_10).1 ?_
                      show Steps p.tables e below (s₁.setTop (mkF m 36 #[.val (.ref a1), .val (.int p2), .val (.int p3), .val (.long va), .second, .val (.int vi), .val (.int (el_a1 (vi).toNatClampNeg))] [])) _
                      refine XS.iload X0.here hx rfl (hb hby d2_36) rfl ?_
                      show Steps p.tables e below (s₁.setTop (mkF m 38 #[.val (.ref a1), .val (.int p2), .val (.int p3), .val (.long va), .second, .val (.int vi), .val (.int (el_a1 (vi).toNatClampNeg))] [(.int (el_a1 (vi).toNatClampNeg))])) _
                      refine XS.bipush X0.here hx rfl (hb hby d2_38) ?_
                      show Steps p.tables e below (s₁.setTop (mkF m 40 #[.val (.ref a1), .val (.int p2), .val (.int p3), .val (.long va), .second, .val (.int vi), .val (.int (el_a1 (vi).toNatClampNeg))] [(.int (57 : Int32)), (.int (el_a1 (vi).toNatClampNeg))])) _
                      refine XS.icmpYes X0.here hx rfl (pc0 := 40) (pc' := 47) rfl (hb hby d2_40) rfl (flt hc40_12).2.2.2 (by decide) (by decide) ?_
                      show Steps p.tables e below (s₁.setTop (mkF m 47 #[.val (.ref a1), .val (.int p2), .val (.int p3), .val (.long va), .second, .val (.int vi), .val (.int (el_a1 (vi).toNatClampNeg))] [])) _
                      refine XS.lloadN X0.here hx rfl (hb hby d2_47) rfl ?_
                      show Steps p.tables e below (s₁.setTop (mkF m 48 #[.val (.ref a1), .val (.int p2), .val (.int p3), .val (.long va), .second, .val (.int vi), .val (.int (el_a1 (vi).toNatClampNeg))] [(.long va)])) _
                      refine X0.ldc2Long hx hown (mvT hZ (hw _ (mgE 38 rfl))) (g := (mkF m 48 #[.val (.ref a1), .val (.int p2), .val (.int p3), .val (.long va), .second, .val (.int vi), .val (.int (el_a1 (vi).toNatClampNeg))] [(.long va)])) rfl (hb hby d2_48) _ ?_
                      show Steps p.tables e below (s₁.setTop (mkF m 51 #[.val (.ref a1), .val (.int p2), .val (.int p3), .val (.long va), .second, .val (.int vi), .val (.int (el_a1 (vi).toNatClampNeg))] [(.long (10 : Int64)), (.long va)])) _
                      refine XS.lmul X0.here hx rfl (hb hby d2_51) rfl ?_
                      show Steps p.tables e below (s₁.setTop (mkF m 52 #[.val (.ref a1), .val (.int p2), .val (.int p3), .val (.long va), .second, .val (.int vi), .val (.int (el_a1 (vi).toNatClampNeg))] [(.long (va * (10 : Int64)))])) _
                      refine XS.iload X0.here hx rfl (hb hby d2_52) rfl ?_
                      show Steps p.tables e below (s₁.setTop (mkF m 54 #[.val (.ref a1), .val (.int p2), .val (.int p3), .val (.long va), .second, .val (.int vi), .val (.int (el_a1 (vi).toNatClampNeg))] [(.int (el_a1 (vi).toNatClampNeg)), (.long (va * (10 : Int64)))])) _
                      refine XS.i2l X0.here hx rfl (hb hby d2_54) rfl ?_
                      show Steps p.tables e below (s₁.setTop (mkF m 55 #[.val (.ref a1), .val (.int p2), .val (.int p3), .val (.long va), .second, .val (.int vi), .val (.int (el_a1 (vi).toNatClampNeg))] [(.long ((el_a1 (vi).toNatClampNeg).toInt64)), (.long (va * (10 : Int64)))])) _
                      refine XS.ladd X0.here hx rfl (hb hby d2_55) rfl ?_
                      show Steps p.tables e below (s₁.setTop (mkF m 56 #[.val (.ref a1), .val (.int p2), .val (.int p3), .val (.long va), .second, .val (.int vi), .val (.int (el_a1 (vi).toNatClampNeg))] [(.long ((va * (10 : Int64)) + ((el_a1 (vi).toNatClampNeg).toInt64)))])) _
                      refine X0.ldc2Long hx hown (mvT hZ (hw _ (mgE 39 rfl))) (g := (mkF m 56 #[.val (.ref a1), .val (.int p2), .val (.int p3), .val (.long va), .second, .val (.int vi), .val (.int (el_a1 (vi).toNatClampNeg))] [(.long ((va * (10 : Int64)) + ((el_a1 (vi).toNatClampNeg).toInt64)))])) rfl (hb hby d2_56) _ ?_
                      show Steps p.tables e below (s₁.setTop (mkF m 59 #[.val (.ref a1), .val (.int p2), .val (.int p3), .val (.long va), .second, .val (.int vi), .val (.int (el_a1 (vi).toNatClampNeg))] [(.long (48 : Int64)), (.long ((va * (10 : Int64)) + ((el_a1 (vi).toNatClampNeg).toInt64)))])) _
                      refine XS.lsub X0.here hx rfl (hb hby d2_59) rfl ?_
                      show Steps p.tables e below (s₁.setTop (mkF m 60 #[.val (.ref a1), .val (.int p2), .val (.int p3), .val (.long va), .second, .val (.int vi), .val (.int (el_a1 (vi).toNatClampNeg))] [(.long (((va * (10 : Int64)) + ((el_a1 (vi).toNatClampNeg).toInt64)) - (48 : Int64)))])) _
                      refine XS.lstoreN X0.here hx rfl (hb hby d2_60) rfl (l' := #[.val (.ref a1), .val (.int p2), .val (.int p3), .val (.long (((va * (10 : Int64)) + ((el_a1 (vi).toNatClampNeg).toInt64)) - (48 : Int64))), .second, .val (.int vi), .val (.int (el_a1 (vi).toNatClampNeg))]) rfl ?_
                      show Steps p.tables e below (s₁.setTop (mkF m 61 #[.val (.ref a1), .val (.int p2), .val (.int p3), .val (.long (((va * (10 : Int64)) + ((el_a1 (vi).toNatClampNeg).toInt64)) - (48 : Int64))), .second, .val (.int vi), .val (.int (el_a1 (vi).toNatClampNeg))] [])) _
                      refine XS.iinc X0.here hx rfl (hb hby d2_61) rfl (l' := #[.val (.ref a1), .val (.int p2), .val (.int p3), .val (.long (((va * (10 : Int64)) + ((el_a1 (vi).toNatClampNeg).toInt64)) - (48 : Int64))), .second, .val (.int (vi + (1 : Int32))), .val (.int (el_a1 (vi).toNatClampNeg))]) rfl ?_
                      show Steps p.tables e below (s₁.setTop (mkF m 64 #[.val (.ref a1), .val (.int p2), .val (.int p3), .val (.long (((va * (10 : Int64)) + ((el_a1 (vi).toNatClampNeg).toInt64)) - (48 : Int64))), .second, .val (.int (vi + (1 : Int32))), .val (.int (el_a1 (vi).toNatClampNeg))] [])) _
                      refine XS.goto X0.here hx rfl (pc0 := 64) (pc' := 17) rfl (hb hby d2_64) (by decide) (by decide) ?_
                      show Steps p.tables e below (s₁.setTop (mkF m 17 #[.val (.ref a1), .val (.int p2), .val (.int p3), .val (.long (((va * (10 : Int64)) + ((el_a1 (vi).toNatClampNeg).toInt64)) - (48 : Int64))), .second, .val (.int (vi + (1 : Int32))), .val (.int (el_a1 (vi).toNatClampNeg))] [])) _
                      exact kt
                    rcases ih (((va * (10 : Int64)) + ((el_a1 (vi).toNatClampNeg).toInt64)) - (48 : Int64)) (vi + (1 : Int32)) (el_a1 (vi).toNatClampNeg) (by rw [own_nx vi p3 hi hc20_7]; omega) (by rw [own_nx vi p3 hi hc20_7]; have w := Int32.lt_iff_toInt_lt.mp hc20_7; omega) with ⟨x17_5, x17_6, lp⟩ | ⟨hal, y17_3, y17_5, y17_6, lp⟩
                    · refine Or.inl ⟨x17_5, x17_6, fun t kt => ?_⟩
                      rw [show (dg (k + 1) el_a1 p3 vi va) = (dg k el_a1 p3 (vi + (1 : Int32)) (((va * (10 : Int64)) + ((el_a1 (vi).toNatClampNeg).toInt64)) - (48 : Int64))) from by simp only [dg, if_pos hc20_7, if_neg hc33_10, if_neg hc40_12]] at kt
                      exact pre14 t (lp t kt)
                    · refine Or.inr ⟨?_, y17_3, y17_5, y17_6, fun t kt => pre14 t (lp t kt)⟩
                      rw [show (dg (k + 1) el_a1 p3 vi va) = (dg k el_a1 p3 (vi + (1 : Int32)) (((va * (10 : Int64)) + ((el_a1 (vi).toNatClampNeg).toInt64)) - (48 : Int64))) from by simp only [dg, if_pos hc20_7, if_neg hc33_10, if_neg hc40_12]]
                      exact hal
              · skip
                have pre15 : ∀ t, Steps p.tables e below (s₁.setTop (mkF m 67 #[.val (.ref a1), .val (.int p2), .val (.int p3), .val (.long va), .second, .val (.int vi), .val (.int vb)] [])) t → Steps p.tables e below (s₁.setTop (mkF m 17 #[.val (.ref a1), .val (.int p2), .val (.int p3), .val (.long va), .second, .val (.int vi), .val (.int vb)] [])) t := fun t kt => by
                  refine (fun t (kt : Steps p.tables e below (s₁.setTop (mkF m 17 #[.val (.ref a1), .val (.int p2), .val (.int p3), .val (.long va), .second, .val (.int vi), .val (.int vb)] [])) t) => kt) t ?_
                  refine XS.iload X0.here hx rfl (hb hby d2_17) rfl ?_
                  show Steps p.tables e below (s₁.setTop (mkF m 19 #[.val (.ref a1), .val (.int p2), .val (.int p3), .val (.long va), .second, .val (.int vi), .val (.int vb)] [(.int vi)])) _
                  refine XS.iloadN X0.here hx rfl (hb hby d2_19) rfl ?_
                  show Steps p.tables e below (s₁.setTop (mkF m 20 #[.val (.ref a1), .val (.int p2), .val (.int p3), .val (.long va), .second, .val (.int vi), .val (.int vb)] [(.int p3), (.int vi)])) _
                  refine XS.icmpYes X0.here hx rfl (pc0 := 20) (pc' := 67) rfl (hb hby d2_20) rfl (flt hc20_7).2.1 (by decide) (by decide) ?_
                  show Steps p.tables e below (s₁.setTop (mkF m 67 #[.val (.ref a1), .val (.int p2), .val (.int p3), .val (.long va), .second, .val (.int vi), .val (.int vb)] [])) _
                  exact kt
                refine Or.inl ⟨vi, vb, fun t kt => ?_⟩
                rw [show (dg (k + 1) el_a1 p3 vi va) = va from by simp only [dg, if_neg hc20_7]] at kt
                exact pre15 t kt
          rcases loop17 20 ((((0 : Int64) * (10 : Int64)) + ((el_a1 (p2).toNatClampNeg).toInt64)) - (48 : Int64)) (p2 + (1 : Int32)) (el_a1 (p2).toNatClampNeg) (by rw [own_nx p2 p3 hfr hc20]; omega) (by rw [own_nx p2 p3 hfr hc20]; have w := Int32.lt_iff_toInt_lt.mp hc20; omega) with ⟨x17_5, x17_6, lq16⟩ | ⟨hal16, y17_3, y17_5, y17_6, lq16⟩
          · skip
            have pre17 : ∀ t, Steps p.tables e below (s₁.setTop (mkF m 67 #[.val (.ref a1), .val (.int p2), .val (.int p3), .val (.long (dg 20 el_a1 p3 (p2 + (1 : Int32)) ((((0 : Int64) * (10 : Int64)) + ((el_a1 (p2).toNatClampNeg).toInt64)) - (48 : Int64)))), .second, .val (.int x17_5), .val (.int x17_6)] [])) t → Steps p.tables e below (s₁.setTop (entryFrame m #[(.ref a1), (.int p2), (.int p3)] 7)) t := fun t kt => pre6 t (lq16 t kt)
            have pre19 : ∀ t, Steps p.tables e below (s₁.setTop (mkF m 68 #[.val (.ref a1), .val (.int p2), .val (.int p3), .val (.long (dg 20 el_a1 p3 (p2 + (1 : Int32)) ((((0 : Int64) * (10 : Int64)) + ((el_a1 (p2).toNatClampNeg).toInt64)) - (48 : Int64)))), .second, .val (.int x17_5), .val (.int x17_6)] [(.long (dg 20 el_a1 p3 (p2 + (1 : Int32)) ((((0 : Int64) * (10 : Int64)) + ((el_a1 (p2).toNatClampNeg).toInt64)) - (48 : Int64))))])) t → Steps p.tables e below (s₁.setTop (entryFrame m #[(.ref a1), (.int p2), (.int p3)] 7)) t := fun t kt => by
              refine pre17 t ?_
              refine XS.lloadN X0.here hx rfl (hb hby d2_67) rfl ?_
              show Steps p.tables e below (s₁.setTop (mkF m 68 #[.val (.ref a1), .val (.int p2), .val (.int p3), .val (.long (dg 20 el_a1 p3 (p2 + (1 : Int32)) ((((0 : Int64) * (10 : Int64)) + ((el_a1 (p2).toNatClampNeg).toInt64)) - (48 : Int64)))), .second, .val (.int x17_5), .val (.int x17_6)] [(.long (dg 20 el_a1 p3 (p2 + (1 : Int32)) ((((0 : Int64) * (10 : Int64)) + ((el_a1 (p2).toNatClampNeg).toInt64)) - (48 : Int64))))])) _
              exact kt
            obtain ⟨fs, hr, hrun, hended, hW, hsame⟩ := X0.leave (v := some (.long (dg 20 el_a1 p3 (p2 + (1 : Int32)) ((((0 : Int64) * (10 : Int64)) + ((el_a1 (p2).toNatClampNeg).toInt64)) - (48 : Int64))))) (fun h => by rw [Bd.returns] at h; cases h) (BodyLoose.notSynchronized Bd)
            refine ⟨_, _, pre19 _ ?_, hrun, hended, _, _, rfl, ?_, ⟨_, rfl⟩, hW, hsame.mono (by decide) (by decide)⟩
            · exact retJ X0 hx Bd.returns (hb hby d2_68) hr
            · show Q2 Z a1 p2 p3 el_a1 h0 n0 _ s₁.heap _
              rw [e0]
              exact ⟨by first | rfl | (simp only [r2, if_neg hc5, if_pos hc20, if_neg hc33, if_neg hc40]), N0, rfl⟩
          · skip
            have pre18 : ∀ t, Steps p.tables e below (s₁.setTop (mkF m 43 #[.val (.ref a1), .val (.int p2), .val (.int p3), .val (.long y17_3), .second, .val (.int y17_5), .val (.int y17_6)] [])) t → Steps p.tables e below (s₁.setTop (entryFrame m #[(.ref a1), (.int p2), (.int p3)] 7)) t := fun t kt => pre6 t (lq16 t kt)
            have pre20 : ∀ t, Steps p.tables e below (s₁.setTop (mkF m 46 #[.val (.ref a1), .val (.int p2), .val (.int p3), .val (.long y17_3), .second, .val (.int y17_5), .val (.int y17_6)] [(.long (-1 : Int64))])) t → Steps p.tables e below (s₁.setTop (entryFrame m #[(.ref a1), (.int p2), (.int p3)] 7)) t := fun t kt => by
              refine pre18 t ?_
              refine X0.ldc2Long hx hown (mvT hZ (hw _ (mgE 40 rfl))) (g := (mkF m 43 #[.val (.ref a1), .val (.int p2), .val (.int p3), .val (.long y17_3), .second, .val (.int y17_5), .val (.int y17_6)] [])) rfl (hb hby d2_43) _ ?_
              show Steps p.tables e below (s₁.setTop (mkF m 46 #[.val (.ref a1), .val (.int p2), .val (.int p3), .val (.long y17_3), .second, .val (.int y17_5), .val (.int y17_6)] [(.long (-1 : Int64))])) _
              exact kt
            have hl21 : (-1 : Int64) = (dg 20 el_a1 p3 (p2 + (1 : Int32)) ((((0 : Int64) * (10 : Int64)) + ((el_a1 (p2).toNatClampNeg).toInt64)) - (48 : Int64))) := hal16.symm
            rw [hl21] at pre20
            obtain ⟨fs, hr, hrun, hended, hW, hsame⟩ := X0.leave (v := some (.long (dg 20 el_a1 p3 (p2 + (1 : Int32)) ((((0 : Int64) * (10 : Int64)) + ((el_a1 (p2).toNatClampNeg).toInt64)) - (48 : Int64))))) (fun h => by rw [Bd.returns] at h; cases h) (BodyLoose.notSynchronized Bd)
            refine ⟨_, _, pre20 _ ?_, hrun, hended, _, _, rfl, ?_, ⟨_, rfl⟩, hW, hsame.mono (by decide) (by decide)⟩
            · exact retJ X0 hx Bd.returns (hb hby d2_46) hr
            · show Q2 Z a1 p2 p3 el_a1 h0 n0 _ s₁.heap _
              rw [e0]
              exact ⟨by first | rfl | (simp only [r2, if_neg hc5, if_pos hc20, if_neg hc33, if_neg hc40]), N0, rfl⟩
    · skip
      have pre22 : ∀ t, Steps p.tables e below (s₁.setTop (mkF m 68 #[.val (.ref a1), .val (.int p2), .val (.int p3), .val (.long (0 : Int64)), .second, .val (.int p2), .unset] [(.long (0 : Int64))])) t → Steps p.tables e below (s₁.setTop (entryFrame m #[(.ref a1), (.int p2), (.int p3)] 7)) t := fun t kt => by
        refine pre0 t ?_
        refine XS.iloadN X0.here hx rfl (hb hby d2_0) rfl ?_
        show Steps p.tables e below (s₁.setTop (mkF m 1 #[.val (.ref a1), .val (.int p2), .val (.int p3), .unset, .unset, .unset, .unset] [(.int p3)])) _
        refine XS.iloadN X0.here hx rfl (hb hby d2_1) rfl ?_
        show Steps p.tables e below (s₁.setTop (mkF m 2 #[.val (.ref a1), .val (.int p2), .val (.int p3), .unset, .unset, .unset, .unset] [(.int p2), (.int p3)])) _
        refine XS.isub X0.here hx rfl (hb hby d2_2) rfl ?_
        show Steps p.tables e below (s₁.setTop (mkF m 3 #[.val (.ref a1), .val (.int p2), .val (.int p3), .unset, .unset, .unset, .unset] [(.int (p3 - p2))])) _
        refine XS.bipush X0.here hx rfl (hb hby d2_3) ?_
        show Steps p.tables e below (s₁.setTop (mkF m 5 #[.val (.ref a1), .val (.int p2), .val (.int p3), .unset, .unset, .unset, .unset] [(.int (18 : Int32)), (.int (p3 - p2))])) _
        refine XS.icmpYes X0.here hx rfl (pc0 := 5) (pc' := 12) rfl (hb hby d2_5) rfl (flt hc5).2.2.2 (by decide) (by decide) ?_
        show Steps p.tables e below (s₁.setTop (mkF m 12 #[.val (.ref a1), .val (.int p2), .val (.int p3), .unset, .unset, .unset, .unset] [])) _
        refine XS.lconst X0.here hx rfl (hb hby d2_12) ?_
        show Steps p.tables e below (s₁.setTop (mkF m 13 #[.val (.ref a1), .val (.int p2), .val (.int p3), .unset, .unset, .unset, .unset] [(.long (0 : Int64))])) _
        refine XS.lstoreN X0.here hx rfl (hb hby d2_13) rfl (l' := #[.val (.ref a1), .val (.int p2), .val (.int p3), .val (.long (0 : Int64)), .second, .unset, .unset]) rfl ?_
        show Steps p.tables e below (s₁.setTop (mkF m 14 #[.val (.ref a1), .val (.int p2), .val (.int p3), .val (.long (0 : Int64)), .second, .unset, .unset] [])) _
        refine XS.iloadN X0.here hx rfl (hb hby d2_14) rfl ?_
        show Steps p.tables e below (s₁.setTop (mkF m 15 #[.val (.ref a1), .val (.int p2), .val (.int p3), .val (.long (0 : Int64)), .second, .unset, .unset] [(.int p2)])) _
        refine XS.istore X0.here hx rfl (hb hby d2_15) rfl (l' := #[.val (.ref a1), .val (.int p2), .val (.int p3), .val (.long (0 : Int64)), .second, .val (.int p2), .unset]) rfl ?_
        show Steps p.tables e below (s₁.setTop (mkF m 17 #[.val (.ref a1), .val (.int p2), .val (.int p3), .val (.long (0 : Int64)), .second, .val (.int p2), .unset] [])) _
        refine XS.iload X0.here hx rfl (hb hby d2_17) rfl ?_
        show Steps p.tables e below (s₁.setTop (mkF m 19 #[.val (.ref a1), .val (.int p2), .val (.int p3), .val (.long (0 : Int64)), .second, .val (.int p2), .unset] [(.int p2)])) _
        refine XS.iloadN X0.here hx rfl (hb hby d2_19) rfl ?_
        show Steps p.tables e below (s₁.setTop (mkF m 20 #[.val (.ref a1), .val (.int p2), .val (.int p3), .val (.long (0 : Int64)), .second, .val (.int p2), .unset] [(.int p3), (.int p2)])) _
        refine XS.icmpYes X0.here hx rfl (pc0 := 20) (pc' := 67) rfl (hb hby d2_20) rfl (flt hc20).2.1 (by decide) (by decide) ?_
        show Steps p.tables e below (s₁.setTop (mkF m 67 #[.val (.ref a1), .val (.int p2), .val (.int p3), .val (.long (0 : Int64)), .second, .val (.int p2), .unset] [])) _
        refine XS.lloadN X0.here hx rfl (hb hby d2_67) rfl ?_
        show Steps p.tables e below (s₁.setTop (mkF m 68 #[.val (.ref a1), .val (.int p2), .val (.int p3), .val (.long (0 : Int64)), .second, .val (.int p2), .unset] [(.long (0 : Int64))])) _
        exact kt
      obtain ⟨fs, hr, hrun, hended, hW, hsame⟩ := X0.leave (v := some (.long (0 : Int64))) (fun h => by rw [Bd.returns] at h; cases h) (BodyLoose.notSynchronized Bd)
      refine ⟨_, _, pre22 _ ?_, hrun, hended, _, _, rfl, ?_, ⟨_, rfl⟩, hW, hsame.mono (by decide) (by decide)⟩
      · exact retJ X0 hx Bd.returns (hb hby d2_68) hr
      · show Q2 Z a1 p2 p3 el_a1 h0 n0 _ s₁.heap _
        rw [e0]
        exact ⟨by first | rfl | (simp only [r2, if_neg hc5, if_neg hc20]), N0, rfl⟩
theorem d3_0 : decode jdk_29_method_65_code 0 = .ok (.iload_n 0, 1) := by decide +kernel
theorem d3_1 : decode jdk_29_method_65_code 1 = .ok (.iload_n 1, 1) := by decide +kernel
theorem d3_2 : decode jdk_29_method_65_code 2 = .ok (.if_icmp .lt 7, 3) := by decide +kernel
theorem d3_5 : decode jdk_29_method_65_code 5 = .ok (.iload_n 0, 1) := by decide +kernel
theorem d3_6 : decode jdk_29_method_65_code 6 = .ok (.goto 4, 3) := by decide +kernel
theorem d3_9 : decode jdk_29_method_65_code 9 = .ok (.iload_n 1, 1) := by decide +kernel
theorem d3_10 : decode jdk_29_method_65_code 10 = .ok (.ireturn, 1) := by decide +kernel
theorem ef_3 (m : MethodId) (x0 : Int32) (x1 : Int32) : entryFrame m #[(.int x0), (.int x1)] 2 = mkF m 0 #[.val (.int x0), .val (.int x1)] [] := by first | (simp [entryFrame, mkF, argsToLocals, Value.category]; done) | rfl
def r3 (p1 : Int32) (p2 : Int32) : Int32 := (if p1 < p2 then p2 else p1)
def Q3 (Z : State) (p1 : Int32) (p2 : Int32) (h0 : Heap) (n0 : Nat) (v : Option Value) (h : Heap) (L : List Loc) : Prop := v = some (.int (r3 p1 p2)) ∧ Fr n0 L ∧ h = h0
set_option maxRecDepth 65536 in
set_option maxHeartbeats 40000000 in
theorem rm3 (l : Launch) (Z : State) (a0 : Array Value) (hw : ∀ d ∈ tables_1, d.before a0 Z = true) (ws : List Jvm.Cond) (p1 : Int32) (p2 : Int32) (h0 : Heap) (n0 : Nat) (Z0 : n0 ≤ h0.size)  :
    MetFree l (⟨"java/lang/Math", "max", "(II)I"⟩ : MethodName) (head1 (Jvm.Cond.code (⟨"java/lang/Math", "max", "(II)I"⟩ : MethodName) jdk_29_method_65_code 2 (some .int) :: ws) ({ frames := 0, cells := 0, slots := 0, locals := 0 } : Room)) (fun a U => a = #[(.int p1), (.int p2)] ∧ Z.Warmed39 U.vm ∧ U.heap = h0) (fun _ _ _ _ _ => True) (fun _ U o U' => ∃ v L, o = .returned v ∧ Q3 Z p1 p2 h0 n0 v U'.heap L ∧ FrameEnd U o U' L ({ frames := 0, cells := 0, slots := 0, locals := 0 } : Room).cells ({ frames := 0, cells := 0, slots := 0, locals := 0 } : Room).slots) := by
  refine MetFree.of_bodySF (Jvm.Free.JP.mathPlain rfl (by decide +kernel)) hisR ?_
  intro p e s m args below meth c s₁ Bd hml0 hP hK
  obtain ⟨rfl, hZ, hh⟩ := hP
  have hx := Bd.exec
  have hby := Bd.bytes
  have hml : c.maxLocals = 2 := hml0
  have hown : s.vm.findClass "java/lang/Math" = some m.cls := findClass_of_methodNamed Bd.named
  have hnm := (name_of_methodNamed Bd.named Bd.method).1
  have X0 : Stand p l e ({ frames := 0, cells := 0, slots := 0, locals := 0 } : Room) s m #[(.int p1), (.int p2)] below meth c s₁ [] 0 0 := Stand.of_body Bd
  have e0 : s₁.heap = h0 := by rw [← hh, Bd.state]; rfl
  have N0 := Fr.nil n0
  have pre0 : ∀ t, Steps p.tables e below (s₁.setTop (mkF m 0 #[.val (.int p1), .val (.int p2)] [])) t → Steps p.tables e below (s₁.setTop (entryFrame m #[(.int p1), (.int p2)] 2)) t := fun t k => castTop (ef_3 m p1 p2) k
  by_cases hc2 : p1 < p2
  · skip
    have pre1 : ∀ t, Steps p.tables e below (s₁.setTop (mkF m 10 #[.val (.int p1), .val (.int p2)] [(.int p2)])) t → Steps p.tables e below (s₁.setTop (entryFrame m #[(.int p1), (.int p2)] 2)) t := fun t kt => by
      refine pre0 t ?_
      refine XS.iloadN X0.here hx rfl (hb hby d3_0) rfl ?_
      show Steps p.tables e below (s₁.setTop (mkF m 1 #[.val (.int p1), .val (.int p2)] [(.int p1)])) _
      refine XS.iloadN X0.here hx rfl (hb hby d3_1) rfl ?_
      show Steps p.tables e below (s₁.setTop (mkF m 2 #[.val (.int p1), .val (.int p2)] [(.int p2), (.int p1)])) _
      refine XS.icmpYes X0.here hx rfl (pc0 := 2) (pc' := 9) rfl (hb hby d3_2) rfl (tlt hc2).1 (by decide) (by decide) ?_
      show Steps p.tables e below (s₁.setTop (mkF m 9 #[.val (.int p1), .val (.int p2)] [])) _
      refine XS.iloadN X0.here hx rfl (hb hby d3_9) rfl ?_
      show Steps p.tables e below (s₁.setTop (mkF m 10 #[.val (.int p1), .val (.int p2)] [(.int p2)])) _
      exact kt
    obtain ⟨fs, hr, hrun, hended, hW, hsame⟩ := X0.leave (v := some (.int p2)) (fun h => by rw [Bd.returns] at h; cases h) (BodyLoose.notSynchronized Bd)
    refine ⟨_, _, pre1 _ ?_, hrun, hended, _, _, rfl, ?_, ⟨_, rfl⟩, hW, hsame.mono (by decide) (by decide)⟩
    · exact retI X0 hx Bd.returns (hb hby d3_10) hr
    · show Q3 Z p1 p2 h0 n0 _ s₁.heap _
      rw [e0]
      exact ⟨by first | rfl | (simp only [r3, if_pos hc2]), N0, rfl⟩
  · skip
    have pre2 : ∀ t, Steps p.tables e below (s₁.setTop (mkF m 10 #[.val (.int p1), .val (.int p2)] [(.int p1)])) t → Steps p.tables e below (s₁.setTop (entryFrame m #[(.int p1), (.int p2)] 2)) t := fun t kt => by
      refine pre0 t ?_
      refine XS.iloadN X0.here hx rfl (hb hby d3_0) rfl ?_
      show Steps p.tables e below (s₁.setTop (mkF m 1 #[.val (.int p1), .val (.int p2)] [(.int p1)])) _
      refine XS.iloadN X0.here hx rfl (hb hby d3_1) rfl ?_
      show Steps p.tables e below (s₁.setTop (mkF m 2 #[.val (.int p1), .val (.int p2)] [(.int p2), (.int p1)])) _
      refine XS.icmpNo X0.here hx rfl (hb hby d3_2) rfl (flt hc2).1 ?_
      show Steps p.tables e below (s₁.setTop (mkF m 5 #[.val (.int p1), .val (.int p2)] [])) _
      refine XS.iloadN X0.here hx rfl (hb hby d3_5) rfl ?_
      show Steps p.tables e below (s₁.setTop (mkF m 6 #[.val (.int p1), .val (.int p2)] [(.int p1)])) _
      refine XS.goto X0.here hx rfl (pc0 := 6) (pc' := 10) rfl (hb hby d3_6) (by decide) (by decide) ?_
      show Steps p.tables e below (s₁.setTop (mkF m 10 #[.val (.int p1), .val (.int p2)] [(.int p1)])) _
      exact kt
    obtain ⟨fs, hr, hrun, hended, hW, hsame⟩ := X0.leave (v := some (.int p1)) (fun h => by rw [Bd.returns] at h; cases h) (BodyLoose.notSynchronized Bd)
    refine ⟨_, _, pre2 _ ?_, hrun, hended, _, _, rfl, ?_, ⟨_, rfl⟩, hW, hsame.mono (by decide) (by decide)⟩
    · exact retI X0 hx Bd.returns (hb hby d3_10) hr
    · show Q3 Z p1 p2 h0 n0 _ s₁.heap _
      rw [e0]
      exact ⟨by first | rfl | (simp only [r3, if_neg hc2]), N0, rfl⟩
theorem d4_0 : decode method_5_code 0 = .ok (.bipush 19, 2) := by decide +kernel
theorem d4_2 : decode method_5_code 2 = .ok (.newarray .long, 2) := by decide +kernel
theorem d4_4 : decode method_5_code 4 = .ok (.dup, 1) := by decide +kernel
theorem d4_5 : decode method_5_code 5 = .ok (.iconst 0, 1) := by decide +kernel
theorem d4_6 : decode method_5_code 6 = .ok (.lconst 1, 1) := by decide +kernel
theorem d4_7 : decode method_5_code 7 = .ok (.lastore, 1) := by decide +kernel
theorem d4_8 : decode method_5_code 8 = .ok (.dup, 1) := by decide +kernel
theorem d4_9 : decode method_5_code 9 = .ok (.iconst 1, 1) := by decide +kernel
theorem d4_10 : decode method_5_code 10 = .ok (.ldc2_w 15, 3) := by decide +kernel
theorem d4_13 : decode method_5_code 13 = .ok (.lastore, 1) := by decide +kernel
theorem d4_14 : decode method_5_code 14 = .ok (.dup, 1) := by decide +kernel
theorem d4_15 : decode method_5_code 15 = .ok (.iconst 2, 1) := by decide +kernel
theorem d4_16 : decode method_5_code 16 = .ok (.ldc2_w 17, 3) := by decide +kernel
theorem d4_19 : decode method_5_code 19 = .ok (.lastore, 1) := by decide +kernel
theorem d4_20 : decode method_5_code 20 = .ok (.dup, 1) := by decide +kernel
theorem d4_21 : decode method_5_code 21 = .ok (.iconst 3, 1) := by decide +kernel
theorem d4_22 : decode method_5_code 22 = .ok (.ldc2_w 19, 3) := by decide +kernel
theorem d4_25 : decode method_5_code 25 = .ok (.lastore, 1) := by decide +kernel
theorem d4_26 : decode method_5_code 26 = .ok (.dup, 1) := by decide +kernel
theorem d4_27 : decode method_5_code 27 = .ok (.iconst 4, 1) := by decide +kernel
theorem d4_28 : decode method_5_code 28 = .ok (.ldc2_w 21, 3) := by decide +kernel
theorem d4_31 : decode method_5_code 31 = .ok (.lastore, 1) := by decide +kernel
theorem d4_32 : decode method_5_code 32 = .ok (.dup, 1) := by decide +kernel
theorem d4_33 : decode method_5_code 33 = .ok (.iconst 5, 1) := by decide +kernel
theorem d4_34 : decode method_5_code 34 = .ok (.ldc2_w 23, 3) := by decide +kernel
theorem d4_37 : decode method_5_code 37 = .ok (.lastore, 1) := by decide +kernel
theorem d4_38 : decode method_5_code 38 = .ok (.dup, 1) := by decide +kernel
theorem d4_39 : decode method_5_code 39 = .ok (.bipush 6, 2) := by decide +kernel
theorem d4_41 : decode method_5_code 41 = .ok (.ldc2_w 25, 3) := by decide +kernel
theorem d4_44 : decode method_5_code 44 = .ok (.lastore, 1) := by decide +kernel
theorem d4_45 : decode method_5_code 45 = .ok (.dup, 1) := by decide +kernel
theorem d4_46 : decode method_5_code 46 = .ok (.bipush 7, 2) := by decide +kernel
theorem d4_48 : decode method_5_code 48 = .ok (.ldc2_w 27, 3) := by decide +kernel
theorem d4_51 : decode method_5_code 51 = .ok (.lastore, 1) := by decide +kernel
theorem d4_52 : decode method_5_code 52 = .ok (.dup, 1) := by decide +kernel
theorem d4_53 : decode method_5_code 53 = .ok (.bipush 8, 2) := by decide +kernel
theorem d4_55 : decode method_5_code 55 = .ok (.ldc2_w 29, 3) := by decide +kernel
theorem d4_58 : decode method_5_code 58 = .ok (.lastore, 1) := by decide +kernel
theorem d4_59 : decode method_5_code 59 = .ok (.dup, 1) := by decide +kernel
theorem d4_60 : decode method_5_code 60 = .ok (.bipush 9, 2) := by decide +kernel
theorem d4_62 : decode method_5_code 62 = .ok (.ldc2_w 31, 3) := by decide +kernel
theorem d4_65 : decode method_5_code 65 = .ok (.lastore, 1) := by decide +kernel
theorem d4_66 : decode method_5_code 66 = .ok (.dup, 1) := by decide +kernel
theorem d4_67 : decode method_5_code 67 = .ok (.bipush 10, 2) := by decide +kernel
theorem d4_69 : decode method_5_code 69 = .ok (.ldc2_w 33, 3) := by decide +kernel
theorem d4_72 : decode method_5_code 72 = .ok (.lastore, 1) := by decide +kernel
theorem d4_73 : decode method_5_code 73 = .ok (.dup, 1) := by decide +kernel
theorem d4_74 : decode method_5_code 74 = .ok (.bipush 11, 2) := by decide +kernel
theorem d4_76 : decode method_5_code 76 = .ok (.ldc2_w 35, 3) := by decide +kernel
theorem d4_79 : decode method_5_code 79 = .ok (.lastore, 1) := by decide +kernel
theorem d4_80 : decode method_5_code 80 = .ok (.dup, 1) := by decide +kernel
theorem d4_81 : decode method_5_code 81 = .ok (.bipush 12, 2) := by decide +kernel
theorem d4_83 : decode method_5_code 83 = .ok (.ldc2_w 37, 3) := by decide +kernel
theorem d4_86 : decode method_5_code 86 = .ok (.lastore, 1) := by decide +kernel
theorem d4_87 : decode method_5_code 87 = .ok (.dup, 1) := by decide +kernel
theorem d4_88 : decode method_5_code 88 = .ok (.bipush 13, 2) := by decide +kernel
theorem d4_90 : decode method_5_code 90 = .ok (.ldc2_w 39, 3) := by decide +kernel
theorem d4_93 : decode method_5_code 93 = .ok (.lastore, 1) := by decide +kernel
theorem d4_94 : decode method_5_code 94 = .ok (.dup, 1) := by decide +kernel
theorem d4_95 : decode method_5_code 95 = .ok (.bipush 14, 2) := by decide +kernel
theorem d4_97 : decode method_5_code 97 = .ok (.ldc2_w 41, 3) := by decide +kernel
theorem d4_100 : decode method_5_code 100 = .ok (.lastore, 1) := by decide +kernel
theorem d4_101 : decode method_5_code 101 = .ok (.dup, 1) := by decide +kernel
theorem d4_102 : decode method_5_code 102 = .ok (.bipush 15, 2) := by decide +kernel
theorem d4_104 : decode method_5_code 104 = .ok (.ldc2_w 43, 3) := by decide +kernel
theorem d4_107 : decode method_5_code 107 = .ok (.lastore, 1) := by decide +kernel
theorem d4_108 : decode method_5_code 108 = .ok (.dup, 1) := by decide +kernel
theorem d4_109 : decode method_5_code 109 = .ok (.bipush 16, 2) := by decide +kernel
theorem d4_111 : decode method_5_code 111 = .ok (.ldc2_w 45, 3) := by decide +kernel
theorem d4_114 : decode method_5_code 114 = .ok (.lastore, 1) := by decide +kernel
theorem d4_115 : decode method_5_code 115 = .ok (.dup, 1) := by decide +kernel
theorem d4_116 : decode method_5_code 116 = .ok (.bipush 17, 2) := by decide +kernel
theorem d4_118 : decode method_5_code 118 = .ok (.ldc2_w 47, 3) := by decide +kernel
theorem d4_121 : decode method_5_code 121 = .ok (.lastore, 1) := by decide +kernel
theorem d4_122 : decode method_5_code 122 = .ok (.dup, 1) := by decide +kernel
theorem d4_123 : decode method_5_code 123 = .ok (.bipush 18, 2) := by decide +kernel
theorem d4_125 : decode method_5_code 125 = .ok (.ldc2_w 49, 3) := by decide +kernel
theorem d4_128 : decode method_5_code 128 = .ok (.lastore, 1) := by decide +kernel
theorem d4_129 : decode method_5_code 129 = .ok (.astore_n 1, 1) := by decide +kernel
theorem d4_130 : decode method_5_code 130 = .ok (.aload_n 1, 1) := by decide +kernel
theorem d4_131 : decode method_5_code 131 = .ok (.iload_n 0, 1) := by decide +kernel
theorem d4_132 : decode method_5_code 132 = .ok (.laload, 1) := by decide +kernel
theorem d4_133 : decode method_5_code 133 = .ok (.lreturn, 1) := by decide +kernel
theorem ef_4 (m : MethodId) (x0 : Int32) : entryFrame m #[(.int x0)] 2 = mkF m 0 #[.val (.int x0), .unset] [] := by first | (simp [entryFrame, mkF, argsToLocals, Value.category]; done) | rfl
def p10 (p1 : Int32) : Int64 := ((own_upd (own_upd (own_upd (own_upd (own_upd (own_upd (own_upd (own_upd (own_upd (own_upd (own_upd (own_upd (own_upd (own_upd (own_upd (own_upd (own_upd (own_upd (own_upd (fun _ => (0 : Int64)) ((0 : Int32)).toNatClampNeg (1 : Int64)) ((1 : Int32)).toNatClampNeg (10 : Int64)) ((2 : Int32)).toNatClampNeg (100 : Int64)) ((3 : Int32)).toNatClampNeg (1000 : Int64)) ((4 : Int32)).toNatClampNeg (10000 : Int64)) ((5 : Int32)).toNatClampNeg (100000 : Int64)) ((6 : Int32)).toNatClampNeg (1000000 : Int64)) ((7 : Int32)).toNatClampNeg (10000000 : Int64)) ((8 : Int32)).toNatClampNeg (100000000 : Int64)) ((9 : Int32)).toNatClampNeg (1000000000 : Int64)) ((10 : Int32)).toNatClampNeg (10000000000 : Int64)) ((11 : Int32)).toNatClampNeg (100000000000 : Int64)) ((12 : Int32)).toNatClampNeg (1000000000000 : Int64)) ((13 : Int32)).toNatClampNeg (10000000000000 : Int64)) ((14 : Int32)).toNatClampNeg (100000000000000 : Int64)) ((15 : Int32)).toNatClampNeg (1000000000000000 : Int64)) ((16 : Int32)).toNatClampNeg (10000000000000000 : Int64)) ((17 : Int32)).toNatClampNeg (100000000000000000 : Int64)) ((18 : Int32)).toNatClampNeg (1000000000000000000 : Int64)) (p1).toNatClampNeg)
def Q4 (Z : State) (p1 : Int32) (h0 : Heap) (n0 : Nat) (v : Option Value) (h : Heap) (L : List Loc) : Prop := v = some (.long (p10 p1)) ∧ Fr n0 L ∧ Keep h0 h []
set_option maxRecDepth 65536 in
set_option maxHeartbeats 40000000 in
theorem rm4 (l : Launch) (Z : State) (a0 : Array Value) (hw : ∀ d ∈ tables_1, d.before a0 Z = true) (ws : List Jvm.Cond) (p1 : Int32) (h0 : Heap) (n0 : Nat) (Z0 : n0 ≤ h0.size) (hI : ¬ p1 < 0 ∧ p1 < (19 : Int32)) :
    MetFree l (⟨"com/example/entgelt/entgelt/io/FieldFormsDigitsPinLaw", "pow10", "(I)J"⟩ : MethodName) (head1 (Jvm.Cond.code (⟨"com/example/entgelt/entgelt/io/FieldFormsDigitsPinLaw", "pow10", "(I)J"⟩ : MethodName) method_5_code 2 (some .long) :: ws) ({ frames := 0, cells := 1, slots := 19, locals := 0 } : Room)) (fun a U => a = #[(.int p1)] ∧ Z.Warmed39 U.vm ∧ U.heap = h0) (fun _ _ _ _ _ => True) (fun _ U o U' => ∃ v L, o = .returned v ∧ Q4 Z p1 h0 n0 v U'.heap L ∧ FrameEnd U o U' L ({ frames := 0, cells := 1, slots := 19, locals := 0 } : Room).cells ({ frames := 0, cells := 1, slots := 19, locals := 0 } : Room).slots) := by
  refine MetFree.of_bodySF (plainFor_of_name pn_com_example_entgelt_entgelt_io_FieldFormsDigitsPinLaw) hisR ?_
  intro p e s m args below meth c s₁ Bd hml0 hP hK
  obtain ⟨rfl, hZ, hh⟩ := hP
  have hx := Bd.exec
  have hby := Bd.bytes
  have hml : c.maxLocals = 2 := hml0
  have hown : s.vm.findClass "com/example/entgelt/entgelt/io/FieldFormsDigitsPinLaw" = some m.cls := findClass_of_methodNamed Bd.named
  have hnm := (name_of_methodNamed Bd.named Bd.method).1
  have X0 : Stand p l e ({ frames := 0, cells := 1, slots := 19, locals := 0 } : Room) s m #[(.int p1)] below meth c s₁ [] 0 0 := Stand.of_body Bd
  have e0 : s₁.heap = h0 := by rw [← hh, Bd.state]; rfl
  have N0 := Fr.nil n0
  have pre0 : ∀ t, Steps p.tables e below (s₁.setTop (mkF m 0 #[.val (.int p1), .unset] [])) t → Steps p.tables e below (s₁.setTop (entryFrame m #[(.int p1)] 2)) t := fun t k => castTop (ef_4 m p1) k
  have pre1 : ∀ t, Steps p.tables e below (s₁.setTop (mkF m 2 #[.val (.int p1), .unset] [(.int (19 : Int32))])) t → Steps p.tables e below (s₁.setTop (entryFrame m #[(.int p1)] 2)) t := fun t kt => by
    refine pre0 t ?_
    refine XS.bipush X0.here hx rfl (hb hby d4_0) ?_
    show Steps p.tables e below (s₁.setTop (mkF m 2 #[.val (.int p1), .unset] [(.int (19 : Int32))])) _
    exact kt
  obtain ⟨T2, h2, k2, X2, e2, E2, A2, st2⟩ := newP X0 hx hZ (hw _ (mgE 18 rfl)) e0 (g := (mkF m 2 #[.val (.int p1), .unset] [(.int (19 : Int32))])) rfl (hb hby d4_2) rfl (by decide) (cap := 19) (by decide) (by decide) (by decide) (by decide)
  obtain ⟨b2, g2⟩ : ∃ z, z = h0.size := ⟨_, rfl⟩
  rw [← g2] at A2 st2
  have g_b2 : n0 ≤ b2 := Nat.le_trans Z0 (Nat.le_of_eq g2.symm)
  have sz_b2 : h0.size ≤ b2 := Nat.le_trans (Keep.refl h0 []).1 (Nat.le_of_eq g2.symm)
  have K2 : Keep h0 h2 [] := (Keep.refl h0 []).ext E2
  have V_b2 : Arf Z h2 b2 .long (19 : Int32) (fun i => (.long ((fun _ => (0 : Int64)) i))) := Arf.new A2 (by decide)
  have pre3 : ∀ t, Steps p.tables e below (T2.setTop (mkF m 4 #[.val (.int p1), .unset] [(.ref b2)])) t → Steps p.tables e below (s₁.setTop (entryFrame m #[(.int p1)] 2)) t := fun t kt => pre1 t (st2 t kt)
  have pre4 : ∀ t, Steps p.tables e below (T2.setTop (mkF m 7 #[.val (.int p1), .unset] [(.long (1 : Int64)), (.int (0 : Int32)), (.ref b2), (.ref b2)])) t → Steps p.tables e below (s₁.setTop (entryFrame m #[(.int p1)] 2)) t := fun t kt => by
    refine pre3 t ?_
    refine XS.dup X2.here hx rfl (hb hby d4_4) rfl rfl ?_
    show Steps p.tables e below (T2.setTop (mkF m 5 #[.val (.int p1), .unset] [(.ref b2), (.ref b2)])) _
    refine XS.iconst X2.here hx rfl (hb hby d4_5) ?_
    show Steps p.tables e below (T2.setTop (mkF m 6 #[.val (.int p1), .unset] [(.int (0 : Int32)), (.ref b2), (.ref b2)])) _
    refine XS.lconst X2.here hx rfl (hb hby d4_6) ?_
    show Steps p.tables e below (T2.setTop (mkF m 7 #[.val (.int p1), .unset] [(.long (1 : Int64)), (.int (0 : Int32)), (.ref b2), (.ref b2)])) _
    exact kt
  obtain ⟨cl5, Ar5, S5, Ng5, H5⟩ := id V_b2
  have hj5 : ¬ (0 : Int32) < 0 ∧ (0 : Int32) < (19 : Int32) := ⟨by decide, by decide⟩
  have hin5 := inb_of S5 hj5
  obtain ⟨T6, h6, X6, e6, W6, st6⟩ := stJ X2 hx hZ e2 Ar5 (j := (0 : Int32)) hin5 (g := (mkF m 7 #[.val (.int p1), .unset] [(.long (1 : Int64)), (.int (0 : Int32)), (.ref b2), (.ref b2)])) rfl rfl (hb hby d4_7)
  have V6_b2 : Arf Z h6 b2 .long (19 : Int32) (fun i => (.long ((own_upd (fun _ => (0 : Int64)) ((0 : Int32)).toNatClampNeg (1 : Int64)) i))) := upd_long _ _ _ ▸ (V_b2.set W6)
  have K6 : Keep h0 h6 [] := K2.wr W6 (Or.inr sz_b2)
  have pre8 : ∀ t, Steps p.tables e below (T6.setTop (mkF m 8 #[.val (.int p1), .unset] [(.ref b2)])) t → Steps p.tables e below (s₁.setTop (entryFrame m #[(.int p1)] 2)) t := fun t kt => pre4 t (st6 t kt)
  have N6 := Fr.snoc X6 N0 g_b2
  have pre9 : ∀ t, Steps p.tables e below (T6.setTop (mkF m 13 #[.val (.int p1), .unset] [(.long (10 : Int64)), (.int (1 : Int32)), (.ref b2), (.ref b2)])) t → Steps p.tables e below (s₁.setTop (entryFrame m #[(.int p1)] 2)) t := fun t kt => by
    refine pre8 t ?_
    refine XS.dup X6.here hx rfl (hb hby d4_8) rfl rfl ?_
    show Steps p.tables e below (T6.setTop (mkF m 9 #[.val (.int p1), .unset] [(.ref b2), (.ref b2)])) _
    refine XS.iconst X6.here hx rfl (hb hby d4_9) ?_
    show Steps p.tables e below (T6.setTop (mkF m 10 #[.val (.int p1), .unset] [(.int (1 : Int32)), (.ref b2), (.ref b2)])) _
    refine X6.ldc2Long hx hown (mvT hZ (hw _ (mgE 19 rfl))) (g := (mkF m 10 #[.val (.int p1), .unset] [(.int (1 : Int32)), (.ref b2), (.ref b2)])) rfl (hb hby d4_10) _ ?_
    show Steps p.tables e below (T6.setTop (mkF m 13 #[.val (.int p1), .unset] [(.long (10 : Int64)), (.int (1 : Int32)), (.ref b2), (.ref b2)])) _
    exact kt
  obtain ⟨cl10, Ar10, S10, Ng10, H10⟩ := id V6_b2
  have hj10 : ¬ (1 : Int32) < 0 ∧ (1 : Int32) < (19 : Int32) := ⟨by decide, by decide⟩
  have hin10 := inb_of S10 hj10
  obtain ⟨T11, h11, X11, e11, W11, st11⟩ := stJ X6 hx hZ e6 Ar10 (j := (1 : Int32)) hin10 (g := (mkF m 13 #[.val (.int p1), .unset] [(.long (10 : Int64)), (.int (1 : Int32)), (.ref b2), (.ref b2)])) rfl rfl (hb hby d4_13)
  have V11_b2 : Arf Z h11 b2 .long (19 : Int32) (fun i => (.long ((own_upd (own_upd (fun _ => (0 : Int64)) ((0 : Int32)).toNatClampNeg (1 : Int64)) ((1 : Int32)).toNatClampNeg (10 : Int64)) i))) := upd_long _ _ _ ▸ (V6_b2.set W11)
  have K11 : Keep h0 h11 [] := K6.wr W11 (Or.inr sz_b2)
  have pre13 : ∀ t, Steps p.tables e below (T11.setTop (mkF m 14 #[.val (.int p1), .unset] [(.ref b2)])) t → Steps p.tables e below (s₁.setTop (entryFrame m #[(.int p1)] 2)) t := fun t kt => pre9 t (st11 t kt)
  have N11 := Fr.snoc X11 N6 g_b2
  have pre14 : ∀ t, Steps p.tables e below (T11.setTop (mkF m 19 #[.val (.int p1), .unset] [(.long (100 : Int64)), (.int (2 : Int32)), (.ref b2), (.ref b2)])) t → Steps p.tables e below (s₁.setTop (entryFrame m #[(.int p1)] 2)) t := fun t kt => by
    refine pre13 t ?_
    refine XS.dup X11.here hx rfl (hb hby d4_14) rfl rfl ?_
    show Steps p.tables e below (T11.setTop (mkF m 15 #[.val (.int p1), .unset] [(.ref b2), (.ref b2)])) _
    refine XS.iconst X11.here hx rfl (hb hby d4_15) ?_
    show Steps p.tables e below (T11.setTop (mkF m 16 #[.val (.int p1), .unset] [(.int (2 : Int32)), (.ref b2), (.ref b2)])) _
    refine X11.ldc2Long hx hown (mvT hZ (hw _ (mgE 20 rfl))) (g := (mkF m 16 #[.val (.int p1), .unset] [(.int (2 : Int32)), (.ref b2), (.ref b2)])) rfl (hb hby d4_16) _ ?_
    show Steps p.tables e below (T11.setTop (mkF m 19 #[.val (.int p1), .unset] [(.long (100 : Int64)), (.int (2 : Int32)), (.ref b2), (.ref b2)])) _
    exact kt
  obtain ⟨cl15, Ar15, S15, Ng15, H15⟩ := id V11_b2
  have hj15 : ¬ (2 : Int32) < 0 ∧ (2 : Int32) < (19 : Int32) := ⟨by decide, by decide⟩
  have hin15 := inb_of S15 hj15
  obtain ⟨T16, h16, X16, e16, W16, st16⟩ := stJ X11 hx hZ e11 Ar15 (j := (2 : Int32)) hin15 (g := (mkF m 19 #[.val (.int p1), .unset] [(.long (100 : Int64)), (.int (2 : Int32)), (.ref b2), (.ref b2)])) rfl rfl (hb hby d4_19)
  have V16_b2 : Arf Z h16 b2 .long (19 : Int32) (fun i => (.long ((own_upd (own_upd (own_upd (fun _ => (0 : Int64)) ((0 : Int32)).toNatClampNeg (1 : Int64)) ((1 : Int32)).toNatClampNeg (10 : Int64)) ((2 : Int32)).toNatClampNeg (100 : Int64)) i))) := upd_long _ _ _ ▸ (V11_b2.set W16)
  have K16 : Keep h0 h16 [] := K11.wr W16 (Or.inr sz_b2)
  have pre18 : ∀ t, Steps p.tables e below (T16.setTop (mkF m 20 #[.val (.int p1), .unset] [(.ref b2)])) t → Steps p.tables e below (s₁.setTop (entryFrame m #[(.int p1)] 2)) t := fun t kt => pre14 t (st16 t kt)
  have N16 := Fr.snoc X16 N11 g_b2
  have pre19 : ∀ t, Steps p.tables e below (T16.setTop (mkF m 25 #[.val (.int p1), .unset] [(.long (1000 : Int64)), (.int (3 : Int32)), (.ref b2), (.ref b2)])) t → Steps p.tables e below (s₁.setTop (entryFrame m #[(.int p1)] 2)) t := fun t kt => by
    refine pre18 t ?_
    refine XS.dup X16.here hx rfl (hb hby d4_20) rfl rfl ?_
    show Steps p.tables e below (T16.setTop (mkF m 21 #[.val (.int p1), .unset] [(.ref b2), (.ref b2)])) _
    refine XS.iconst X16.here hx rfl (hb hby d4_21) ?_
    show Steps p.tables e below (T16.setTop (mkF m 22 #[.val (.int p1), .unset] [(.int (3 : Int32)), (.ref b2), (.ref b2)])) _
    refine X16.ldc2Long hx hown (mvT hZ (hw _ (mgE 21 rfl))) (g := (mkF m 22 #[.val (.int p1), .unset] [(.int (3 : Int32)), (.ref b2), (.ref b2)])) rfl (hb hby d4_22) _ ?_
    show Steps p.tables e below (T16.setTop (mkF m 25 #[.val (.int p1), .unset] [(.long (1000 : Int64)), (.int (3 : Int32)), (.ref b2), (.ref b2)])) _
    exact kt
  obtain ⟨cl20, Ar20, S20, Ng20, H20⟩ := id V16_b2
  have hj20 : ¬ (3 : Int32) < 0 ∧ (3 : Int32) < (19 : Int32) := ⟨by decide, by decide⟩
  have hin20 := inb_of S20 hj20
  obtain ⟨T21, h21, X21, e21, W21, st21⟩ := stJ X16 hx hZ e16 Ar20 (j := (3 : Int32)) hin20 (g := (mkF m 25 #[.val (.int p1), .unset] [(.long (1000 : Int64)), (.int (3 : Int32)), (.ref b2), (.ref b2)])) rfl rfl (hb hby d4_25)
  have V21_b2 : Arf Z h21 b2 .long (19 : Int32) (fun i => (.long ((own_upd (own_upd (own_upd (own_upd (fun _ => (0 : Int64)) ((0 : Int32)).toNatClampNeg (1 : Int64)) ((1 : Int32)).toNatClampNeg (10 : Int64)) ((2 : Int32)).toNatClampNeg (100 : Int64)) ((3 : Int32)).toNatClampNeg (1000 : Int64)) i))) := upd_long _ _ _ ▸ (V16_b2.set W21)
  have K21 : Keep h0 h21 [] := K16.wr W21 (Or.inr sz_b2)
  have pre23 : ∀ t, Steps p.tables e below (T21.setTop (mkF m 26 #[.val (.int p1), .unset] [(.ref b2)])) t → Steps p.tables e below (s₁.setTop (entryFrame m #[(.int p1)] 2)) t := fun t kt => pre19 t (st21 t kt)
  have N21 := Fr.snoc X21 N16 g_b2
  have pre24 : ∀ t, Steps p.tables e below (T21.setTop (mkF m 31 #[.val (.int p1), .unset] [(.long (10000 : Int64)), (.int (4 : Int32)), (.ref b2), (.ref b2)])) t → Steps p.tables e below (s₁.setTop (entryFrame m #[(.int p1)] 2)) t := fun t kt => by
    refine pre23 t ?_
    refine XS.dup X21.here hx rfl (hb hby d4_26) rfl rfl ?_
    show Steps p.tables e below (T21.setTop (mkF m 27 #[.val (.int p1), .unset] [(.ref b2), (.ref b2)])) _
    refine XS.iconst X21.here hx rfl (hb hby d4_27) ?_
    show Steps p.tables e below (T21.setTop (mkF m 28 #[.val (.int p1), .unset] [(.int (4 : Int32)), (.ref b2), (.ref b2)])) _
    refine X21.ldc2Long hx hown (mvT hZ (hw _ (mgE 22 rfl))) (g := (mkF m 28 #[.val (.int p1), .unset] [(.int (4 : Int32)), (.ref b2), (.ref b2)])) rfl (hb hby d4_28) _ ?_
    show Steps p.tables e below (T21.setTop (mkF m 31 #[.val (.int p1), .unset] [(.long (10000 : Int64)), (.int (4 : Int32)), (.ref b2), (.ref b2)])) _
    exact kt
  obtain ⟨cl25, Ar25, S25, Ng25, H25⟩ := id V21_b2
  have hj25 : ¬ (4 : Int32) < 0 ∧ (4 : Int32) < (19 : Int32) := ⟨by decide, by decide⟩
  have hin25 := inb_of S25 hj25
  obtain ⟨T26, h26, X26, e26, W26, st26⟩ := stJ X21 hx hZ e21 Ar25 (j := (4 : Int32)) hin25 (g := (mkF m 31 #[.val (.int p1), .unset] [(.long (10000 : Int64)), (.int (4 : Int32)), (.ref b2), (.ref b2)])) rfl rfl (hb hby d4_31)
  have V26_b2 : Arf Z h26 b2 .long (19 : Int32) (fun i => (.long ((own_upd (own_upd (own_upd (own_upd (own_upd (fun _ => (0 : Int64)) ((0 : Int32)).toNatClampNeg (1 : Int64)) ((1 : Int32)).toNatClampNeg (10 : Int64)) ((2 : Int32)).toNatClampNeg (100 : Int64)) ((3 : Int32)).toNatClampNeg (1000 : Int64)) ((4 : Int32)).toNatClampNeg (10000 : Int64)) i))) := upd_long _ _ _ ▸ (V21_b2.set W26)
  have K26 : Keep h0 h26 [] := K21.wr W26 (Or.inr sz_b2)
  have pre28 : ∀ t, Steps p.tables e below (T26.setTop (mkF m 32 #[.val (.int p1), .unset] [(.ref b2)])) t → Steps p.tables e below (s₁.setTop (entryFrame m #[(.int p1)] 2)) t := fun t kt => pre24 t (st26 t kt)
  have N26 := Fr.snoc X26 N21 g_b2
  have pre29 : ∀ t, Steps p.tables e below (T26.setTop (mkF m 37 #[.val (.int p1), .unset] [(.long (100000 : Int64)), (.int (5 : Int32)), (.ref b2), (.ref b2)])) t → Steps p.tables e below (s₁.setTop (entryFrame m #[(.int p1)] 2)) t := fun t kt => by
    refine pre28 t ?_
    refine XS.dup X26.here hx rfl (hb hby d4_32) rfl rfl ?_
    show Steps p.tables e below (T26.setTop (mkF m 33 #[.val (.int p1), .unset] [(.ref b2), (.ref b2)])) _
    refine XS.iconst X26.here hx rfl (hb hby d4_33) ?_
    show Steps p.tables e below (T26.setTop (mkF m 34 #[.val (.int p1), .unset] [(.int (5 : Int32)), (.ref b2), (.ref b2)])) _
    refine X26.ldc2Long hx hown (mvT hZ (hw _ (mgE 23 rfl))) (g := (mkF m 34 #[.val (.int p1), .unset] [(.int (5 : Int32)), (.ref b2), (.ref b2)])) rfl (hb hby d4_34) _ ?_
    show Steps p.tables e below (T26.setTop (mkF m 37 #[.val (.int p1), .unset] [(.long (100000 : Int64)), (.int (5 : Int32)), (.ref b2), (.ref b2)])) _
    exact kt
  obtain ⟨cl30, Ar30, S30, Ng30, H30⟩ := id V26_b2
  have hj30 : ¬ (5 : Int32) < 0 ∧ (5 : Int32) < (19 : Int32) := ⟨by decide, by decide⟩
  have hin30 := inb_of S30 hj30
  obtain ⟨T31, h31, X31, e31, W31, st31⟩ := stJ X26 hx hZ e26 Ar30 (j := (5 : Int32)) hin30 (g := (mkF m 37 #[.val (.int p1), .unset] [(.long (100000 : Int64)), (.int (5 : Int32)), (.ref b2), (.ref b2)])) rfl rfl (hb hby d4_37)
  have V31_b2 : Arf Z h31 b2 .long (19 : Int32) (fun i => (.long ((own_upd (own_upd (own_upd (own_upd (own_upd (own_upd (fun _ => (0 : Int64)) ((0 : Int32)).toNatClampNeg (1 : Int64)) ((1 : Int32)).toNatClampNeg (10 : Int64)) ((2 : Int32)).toNatClampNeg (100 : Int64)) ((3 : Int32)).toNatClampNeg (1000 : Int64)) ((4 : Int32)).toNatClampNeg (10000 : Int64)) ((5 : Int32)).toNatClampNeg (100000 : Int64)) i))) := upd_long _ _ _ ▸ (V26_b2.set W31)
  have K31 : Keep h0 h31 [] := K26.wr W31 (Or.inr sz_b2)
  have pre33 : ∀ t, Steps p.tables e below (T31.setTop (mkF m 38 #[.val (.int p1), .unset] [(.ref b2)])) t → Steps p.tables e below (s₁.setTop (entryFrame m #[(.int p1)] 2)) t := fun t kt => pre29 t (st31 t kt)
  have N31 := Fr.snoc X31 N26 g_b2
  have pre34 : ∀ t, Steps p.tables e below (T31.setTop (mkF m 44 #[.val (.int p1), .unset] [(.long (1000000 : Int64)), (.int (6 : Int32)), (.ref b2), (.ref b2)])) t → Steps p.tables e below (s₁.setTop (entryFrame m #[(.int p1)] 2)) t := fun t kt => by
    refine pre33 t ?_
    refine XS.dup X31.here hx rfl (hb hby d4_38) rfl rfl ?_
    show Steps p.tables e below (T31.setTop (mkF m 39 #[.val (.int p1), .unset] [(.ref b2), (.ref b2)])) _
    refine XS.bipush X31.here hx rfl (hb hby d4_39) ?_
    show Steps p.tables e below (T31.setTop (mkF m 41 #[.val (.int p1), .unset] [(.int (6 : Int32)), (.ref b2), (.ref b2)])) _
    refine X31.ldc2Long hx hown (mvT hZ (hw _ (mgE 24 rfl))) (g := (mkF m 41 #[.val (.int p1), .unset] [(.int (6 : Int32)), (.ref b2), (.ref b2)])) rfl (hb hby d4_41) _ ?_
    show Steps p.tables e below (T31.setTop (mkF m 44 #[.val (.int p1), .unset] [(.long (1000000 : Int64)), (.int (6 : Int32)), (.ref b2), (.ref b2)])) _
    exact kt
  obtain ⟨cl35, Ar35, S35, Ng35, H35⟩ := id V31_b2
  have hj35 : ¬ (6 : Int32) < 0 ∧ (6 : Int32) < (19 : Int32) := ⟨by decide, by decide⟩
  have hin35 := inb_of S35 hj35
  obtain ⟨T36, h36, X36, e36, W36, st36⟩ := stJ X31 hx hZ e31 Ar35 (j := (6 : Int32)) hin35 (g := (mkF m 44 #[.val (.int p1), .unset] [(.long (1000000 : Int64)), (.int (6 : Int32)), (.ref b2), (.ref b2)])) rfl rfl (hb hby d4_44)
  have V36_b2 : Arf Z h36 b2 .long (19 : Int32) (fun i => (.long ((own_upd (own_upd (own_upd (own_upd (own_upd (own_upd (own_upd (fun _ => (0 : Int64)) ((0 : Int32)).toNatClampNeg (1 : Int64)) ((1 : Int32)).toNatClampNeg (10 : Int64)) ((2 : Int32)).toNatClampNeg (100 : Int64)) ((3 : Int32)).toNatClampNeg (1000 : Int64)) ((4 : Int32)).toNatClampNeg (10000 : Int64)) ((5 : Int32)).toNatClampNeg (100000 : Int64)) ((6 : Int32)).toNatClampNeg (1000000 : Int64)) i))) := upd_long _ _ _ ▸ (V31_b2.set W36)
  have K36 : Keep h0 h36 [] := K31.wr W36 (Or.inr sz_b2)
  have pre38 : ∀ t, Steps p.tables e below (T36.setTop (mkF m 45 #[.val (.int p1), .unset] [(.ref b2)])) t → Steps p.tables e below (s₁.setTop (entryFrame m #[(.int p1)] 2)) t := fun t kt => pre34 t (st36 t kt)
  have N36 := Fr.snoc X36 N31 g_b2
  have pre39 : ∀ t, Steps p.tables e below (T36.setTop (mkF m 51 #[.val (.int p1), .unset] [(.long (10000000 : Int64)), (.int (7 : Int32)), (.ref b2), (.ref b2)])) t → Steps p.tables e below (s₁.setTop (entryFrame m #[(.int p1)] 2)) t := fun t kt => by
    refine pre38 t ?_
    refine XS.dup X36.here hx rfl (hb hby d4_45) rfl rfl ?_
    show Steps p.tables e below (T36.setTop (mkF m 46 #[.val (.int p1), .unset] [(.ref b2), (.ref b2)])) _
    refine XS.bipush X36.here hx rfl (hb hby d4_46) ?_
    show Steps p.tables e below (T36.setTop (mkF m 48 #[.val (.int p1), .unset] [(.int (7 : Int32)), (.ref b2), (.ref b2)])) _
    refine X36.ldc2Long hx hown (mvT hZ (hw _ (mgE 25 rfl))) (g := (mkF m 48 #[.val (.int p1), .unset] [(.int (7 : Int32)), (.ref b2), (.ref b2)])) rfl (hb hby d4_48) _ ?_
    show Steps p.tables e below (T36.setTop (mkF m 51 #[.val (.int p1), .unset] [(.long (10000000 : Int64)), (.int (7 : Int32)), (.ref b2), (.ref b2)])) _
    exact kt
  obtain ⟨cl40, Ar40, S40, Ng40, H40⟩ := id V36_b2
  have hj40 : ¬ (7 : Int32) < 0 ∧ (7 : Int32) < (19 : Int32) := ⟨by decide, by decide⟩
  have hin40 := inb_of S40 hj40
  obtain ⟨T41, h41, X41, e41, W41, st41⟩ := stJ X36 hx hZ e36 Ar40 (j := (7 : Int32)) hin40 (g := (mkF m 51 #[.val (.int p1), .unset] [(.long (10000000 : Int64)), (.int (7 : Int32)), (.ref b2), (.ref b2)])) rfl rfl (hb hby d4_51)
  have V41_b2 : Arf Z h41 b2 .long (19 : Int32) (fun i => (.long ((own_upd (own_upd (own_upd (own_upd (own_upd (own_upd (own_upd (own_upd (fun _ => (0 : Int64)) ((0 : Int32)).toNatClampNeg (1 : Int64)) ((1 : Int32)).toNatClampNeg (10 : Int64)) ((2 : Int32)).toNatClampNeg (100 : Int64)) ((3 : Int32)).toNatClampNeg (1000 : Int64)) ((4 : Int32)).toNatClampNeg (10000 : Int64)) ((5 : Int32)).toNatClampNeg (100000 : Int64)) ((6 : Int32)).toNatClampNeg (1000000 : Int64)) ((7 : Int32)).toNatClampNeg (10000000 : Int64)) i))) := upd_long _ _ _ ▸ (V36_b2.set W41)
  have K41 : Keep h0 h41 [] := K36.wr W41 (Or.inr sz_b2)
  have pre43 : ∀ t, Steps p.tables e below (T41.setTop (mkF m 52 #[.val (.int p1), .unset] [(.ref b2)])) t → Steps p.tables e below (s₁.setTop (entryFrame m #[(.int p1)] 2)) t := fun t kt => pre39 t (st41 t kt)
  have N41 := Fr.snoc X41 N36 g_b2
  have pre44 : ∀ t, Steps p.tables e below (T41.setTop (mkF m 58 #[.val (.int p1), .unset] [(.long (100000000 : Int64)), (.int (8 : Int32)), (.ref b2), (.ref b2)])) t → Steps p.tables e below (s₁.setTop (entryFrame m #[(.int p1)] 2)) t := fun t kt => by
    refine pre43 t ?_
    refine XS.dup X41.here hx rfl (hb hby d4_52) rfl rfl ?_
    show Steps p.tables e below (T41.setTop (mkF m 53 #[.val (.int p1), .unset] [(.ref b2), (.ref b2)])) _
    refine XS.bipush X41.here hx rfl (hb hby d4_53) ?_
    show Steps p.tables e below (T41.setTop (mkF m 55 #[.val (.int p1), .unset] [(.int (8 : Int32)), (.ref b2), (.ref b2)])) _
    refine X41.ldc2Long hx hown (mvT hZ (hw _ (mgE 26 rfl))) (g := (mkF m 55 #[.val (.int p1), .unset] [(.int (8 : Int32)), (.ref b2), (.ref b2)])) rfl (hb hby d4_55) _ ?_
    show Steps p.tables e below (T41.setTop (mkF m 58 #[.val (.int p1), .unset] [(.long (100000000 : Int64)), (.int (8 : Int32)), (.ref b2), (.ref b2)])) _
    exact kt
  obtain ⟨cl45, Ar45, S45, Ng45, H45⟩ := id V41_b2
  have hj45 : ¬ (8 : Int32) < 0 ∧ (8 : Int32) < (19 : Int32) := ⟨by decide, by decide⟩
  have hin45 := inb_of S45 hj45
  obtain ⟨T46, h46, X46, e46, W46, st46⟩ := stJ X41 hx hZ e41 Ar45 (j := (8 : Int32)) hin45 (g := (mkF m 58 #[.val (.int p1), .unset] [(.long (100000000 : Int64)), (.int (8 : Int32)), (.ref b2), (.ref b2)])) rfl rfl (hb hby d4_58)
  have V46_b2 : Arf Z h46 b2 .long (19 : Int32) (fun i => (.long ((own_upd (own_upd (own_upd (own_upd (own_upd (own_upd (own_upd (own_upd (own_upd (fun _ => (0 : Int64)) ((0 : Int32)).toNatClampNeg (1 : Int64)) ((1 : Int32)).toNatClampNeg (10 : Int64)) ((2 : Int32)).toNatClampNeg (100 : Int64)) ((3 : Int32)).toNatClampNeg (1000 : Int64)) ((4 : Int32)).toNatClampNeg (10000 : Int64)) ((5 : Int32)).toNatClampNeg (100000 : Int64)) ((6 : Int32)).toNatClampNeg (1000000 : Int64)) ((7 : Int32)).toNatClampNeg (10000000 : Int64)) ((8 : Int32)).toNatClampNeg (100000000 : Int64)) i))) := upd_long _ _ _ ▸ (V41_b2.set W46)
  have K46 : Keep h0 h46 [] := K41.wr W46 (Or.inr sz_b2)
  have pre48 : ∀ t, Steps p.tables e below (T46.setTop (mkF m 59 #[.val (.int p1), .unset] [(.ref b2)])) t → Steps p.tables e below (s₁.setTop (entryFrame m #[(.int p1)] 2)) t := fun t kt => pre44 t (st46 t kt)
  have N46 := Fr.snoc X46 N41 g_b2
  have pre49 : ∀ t, Steps p.tables e below (T46.setTop (mkF m 65 #[.val (.int p1), .unset] [(.long (1000000000 : Int64)), (.int (9 : Int32)), (.ref b2), (.ref b2)])) t → Steps p.tables e below (s₁.setTop (entryFrame m #[(.int p1)] 2)) t := fun t kt => by
    refine pre48 t ?_
    refine XS.dup X46.here hx rfl (hb hby d4_59) rfl rfl ?_
    show Steps p.tables e below (T46.setTop (mkF m 60 #[.val (.int p1), .unset] [(.ref b2), (.ref b2)])) _
    refine XS.bipush X46.here hx rfl (hb hby d4_60) ?_
    show Steps p.tables e below (T46.setTop (mkF m 62 #[.val (.int p1), .unset] [(.int (9 : Int32)), (.ref b2), (.ref b2)])) _
    refine X46.ldc2Long hx hown (mvT hZ (hw _ (mgE 27 rfl))) (g := (mkF m 62 #[.val (.int p1), .unset] [(.int (9 : Int32)), (.ref b2), (.ref b2)])) rfl (hb hby d4_62) _ ?_
    show Steps p.tables e below (T46.setTop (mkF m 65 #[.val (.int p1), .unset] [(.long (1000000000 : Int64)), (.int (9 : Int32)), (.ref b2), (.ref b2)])) _
    exact kt
  obtain ⟨cl50, Ar50, S50, Ng50, H50⟩ := id V46_b2
  have hj50 : ¬ (9 : Int32) < 0 ∧ (9 : Int32) < (19 : Int32) := ⟨by decide, by decide⟩
  have hin50 := inb_of S50 hj50
  obtain ⟨T51, h51, X51, e51, W51, st51⟩ := stJ X46 hx hZ e46 Ar50 (j := (9 : Int32)) hin50 (g := (mkF m 65 #[.val (.int p1), .unset] [(.long (1000000000 : Int64)), (.int (9 : Int32)), (.ref b2), (.ref b2)])) rfl rfl (hb hby d4_65)
  have V51_b2 : Arf Z h51 b2 .long (19 : Int32) (fun i => (.long ((own_upd (own_upd (own_upd (own_upd (own_upd (own_upd (own_upd (own_upd (own_upd (own_upd (fun _ => (0 : Int64)) ((0 : Int32)).toNatClampNeg (1 : Int64)) ((1 : Int32)).toNatClampNeg (10 : Int64)) ((2 : Int32)).toNatClampNeg (100 : Int64)) ((3 : Int32)).toNatClampNeg (1000 : Int64)) ((4 : Int32)).toNatClampNeg (10000 : Int64)) ((5 : Int32)).toNatClampNeg (100000 : Int64)) ((6 : Int32)).toNatClampNeg (1000000 : Int64)) ((7 : Int32)).toNatClampNeg (10000000 : Int64)) ((8 : Int32)).toNatClampNeg (100000000 : Int64)) ((9 : Int32)).toNatClampNeg (1000000000 : Int64)) i))) := upd_long _ _ _ ▸ (V46_b2.set W51)
  have K51 : Keep h0 h51 [] := K46.wr W51 (Or.inr sz_b2)
  have pre53 : ∀ t, Steps p.tables e below (T51.setTop (mkF m 66 #[.val (.int p1), .unset] [(.ref b2)])) t → Steps p.tables e below (s₁.setTop (entryFrame m #[(.int p1)] 2)) t := fun t kt => pre49 t (st51 t kt)
  have N51 := Fr.snoc X51 N46 g_b2
  have pre54 : ∀ t, Steps p.tables e below (T51.setTop (mkF m 72 #[.val (.int p1), .unset] [(.long (10000000000 : Int64)), (.int (10 : Int32)), (.ref b2), (.ref b2)])) t → Steps p.tables e below (s₁.setTop (entryFrame m #[(.int p1)] 2)) t := fun t kt => by
    refine pre53 t ?_
    refine XS.dup X51.here hx rfl (hb hby d4_66) rfl rfl ?_
    show Steps p.tables e below (T51.setTop (mkF m 67 #[.val (.int p1), .unset] [(.ref b2), (.ref b2)])) _
    refine XS.bipush X51.here hx rfl (hb hby d4_67) ?_
    show Steps p.tables e below (T51.setTop (mkF m 69 #[.val (.int p1), .unset] [(.int (10 : Int32)), (.ref b2), (.ref b2)])) _
    refine X51.ldc2Long hx hown (mvT hZ (hw _ (mgE 28 rfl))) (g := (mkF m 69 #[.val (.int p1), .unset] [(.int (10 : Int32)), (.ref b2), (.ref b2)])) rfl (hb hby d4_69) _ ?_
    show Steps p.tables e below (T51.setTop (mkF m 72 #[.val (.int p1), .unset] [(.long (10000000000 : Int64)), (.int (10 : Int32)), (.ref b2), (.ref b2)])) _
    exact kt
  obtain ⟨cl55, Ar55, S55, Ng55, H55⟩ := id V51_b2
  have hj55 : ¬ (10 : Int32) < 0 ∧ (10 : Int32) < (19 : Int32) := ⟨by decide, by decide⟩
  have hin55 := inb_of S55 hj55
  obtain ⟨T56, h56, X56, e56, W56, st56⟩ := stJ X51 hx hZ e51 Ar55 (j := (10 : Int32)) hin55 (g := (mkF m 72 #[.val (.int p1), .unset] [(.long (10000000000 : Int64)), (.int (10 : Int32)), (.ref b2), (.ref b2)])) rfl rfl (hb hby d4_72)
  have V56_b2 : Arf Z h56 b2 .long (19 : Int32) (fun i => (.long ((own_upd (own_upd (own_upd (own_upd (own_upd (own_upd (own_upd (own_upd (own_upd (own_upd (own_upd (fun _ => (0 : Int64)) ((0 : Int32)).toNatClampNeg (1 : Int64)) ((1 : Int32)).toNatClampNeg (10 : Int64)) ((2 : Int32)).toNatClampNeg (100 : Int64)) ((3 : Int32)).toNatClampNeg (1000 : Int64)) ((4 : Int32)).toNatClampNeg (10000 : Int64)) ((5 : Int32)).toNatClampNeg (100000 : Int64)) ((6 : Int32)).toNatClampNeg (1000000 : Int64)) ((7 : Int32)).toNatClampNeg (10000000 : Int64)) ((8 : Int32)).toNatClampNeg (100000000 : Int64)) ((9 : Int32)).toNatClampNeg (1000000000 : Int64)) ((10 : Int32)).toNatClampNeg (10000000000 : Int64)) i))) := upd_long _ _ _ ▸ (V51_b2.set W56)
  have K56 : Keep h0 h56 [] := K51.wr W56 (Or.inr sz_b2)
  have pre58 : ∀ t, Steps p.tables e below (T56.setTop (mkF m 73 #[.val (.int p1), .unset] [(.ref b2)])) t → Steps p.tables e below (s₁.setTop (entryFrame m #[(.int p1)] 2)) t := fun t kt => pre54 t (st56 t kt)
  have N56 := Fr.snoc X56 N51 g_b2
  have pre59 : ∀ t, Steps p.tables e below (T56.setTop (mkF m 79 #[.val (.int p1), .unset] [(.long (100000000000 : Int64)), (.int (11 : Int32)), (.ref b2), (.ref b2)])) t → Steps p.tables e below (s₁.setTop (entryFrame m #[(.int p1)] 2)) t := fun t kt => by
    refine pre58 t ?_
    refine XS.dup X56.here hx rfl (hb hby d4_73) rfl rfl ?_
    show Steps p.tables e below (T56.setTop (mkF m 74 #[.val (.int p1), .unset] [(.ref b2), (.ref b2)])) _
    refine XS.bipush X56.here hx rfl (hb hby d4_74) ?_
    show Steps p.tables e below (T56.setTop (mkF m 76 #[.val (.int p1), .unset] [(.int (11 : Int32)), (.ref b2), (.ref b2)])) _
    refine X56.ldc2Long hx hown (mvT hZ (hw _ (mgE 29 rfl))) (g := (mkF m 76 #[.val (.int p1), .unset] [(.int (11 : Int32)), (.ref b2), (.ref b2)])) rfl (hb hby d4_76) _ ?_
    show Steps p.tables e below (T56.setTop (mkF m 79 #[.val (.int p1), .unset] [(.long (100000000000 : Int64)), (.int (11 : Int32)), (.ref b2), (.ref b2)])) _
    exact kt
  obtain ⟨cl60, Ar60, S60, Ng60, H60⟩ := id V56_b2
  have hj60 : ¬ (11 : Int32) < 0 ∧ (11 : Int32) < (19 : Int32) := ⟨by decide, by decide⟩
  have hin60 := inb_of S60 hj60
  obtain ⟨T61, h61, X61, e61, W61, st61⟩ := stJ X56 hx hZ e56 Ar60 (j := (11 : Int32)) hin60 (g := (mkF m 79 #[.val (.int p1), .unset] [(.long (100000000000 : Int64)), (.int (11 : Int32)), (.ref b2), (.ref b2)])) rfl rfl (hb hby d4_79)
  have V61_b2 : Arf Z h61 b2 .long (19 : Int32) (fun i => (.long ((own_upd (own_upd (own_upd (own_upd (own_upd (own_upd (own_upd (own_upd (own_upd (own_upd (own_upd (own_upd (fun _ => (0 : Int64)) ((0 : Int32)).toNatClampNeg (1 : Int64)) ((1 : Int32)).toNatClampNeg (10 : Int64)) ((2 : Int32)).toNatClampNeg (100 : Int64)) ((3 : Int32)).toNatClampNeg (1000 : Int64)) ((4 : Int32)).toNatClampNeg (10000 : Int64)) ((5 : Int32)).toNatClampNeg (100000 : Int64)) ((6 : Int32)).toNatClampNeg (1000000 : Int64)) ((7 : Int32)).toNatClampNeg (10000000 : Int64)) ((8 : Int32)).toNatClampNeg (100000000 : Int64)) ((9 : Int32)).toNatClampNeg (1000000000 : Int64)) ((10 : Int32)).toNatClampNeg (10000000000 : Int64)) ((11 : Int32)).toNatClampNeg (100000000000 : Int64)) i))) := upd_long _ _ _ ▸ (V56_b2.set W61)
  have K61 : Keep h0 h61 [] := K56.wr W61 (Or.inr sz_b2)
  have pre63 : ∀ t, Steps p.tables e below (T61.setTop (mkF m 80 #[.val (.int p1), .unset] [(.ref b2)])) t → Steps p.tables e below (s₁.setTop (entryFrame m #[(.int p1)] 2)) t := fun t kt => pre59 t (st61 t kt)
  have N61 := Fr.snoc X61 N56 g_b2
  have pre64 : ∀ t, Steps p.tables e below (T61.setTop (mkF m 86 #[.val (.int p1), .unset] [(.long (1000000000000 : Int64)), (.int (12 : Int32)), (.ref b2), (.ref b2)])) t → Steps p.tables e below (s₁.setTop (entryFrame m #[(.int p1)] 2)) t := fun t kt => by
    refine pre63 t ?_
    refine XS.dup X61.here hx rfl (hb hby d4_80) rfl rfl ?_
    show Steps p.tables e below (T61.setTop (mkF m 81 #[.val (.int p1), .unset] [(.ref b2), (.ref b2)])) _
    refine XS.bipush X61.here hx rfl (hb hby d4_81) ?_
    show Steps p.tables e below (T61.setTop (mkF m 83 #[.val (.int p1), .unset] [(.int (12 : Int32)), (.ref b2), (.ref b2)])) _
    refine X61.ldc2Long hx hown (mvT hZ (hw _ (mgE 30 rfl))) (g := (mkF m 83 #[.val (.int p1), .unset] [(.int (12 : Int32)), (.ref b2), (.ref b2)])) rfl (hb hby d4_83) _ ?_
    show Steps p.tables e below (T61.setTop (mkF m 86 #[.val (.int p1), .unset] [(.long (1000000000000 : Int64)), (.int (12 : Int32)), (.ref b2), (.ref b2)])) _
    exact kt
  obtain ⟨cl65, Ar65, S65, Ng65, H65⟩ := id V61_b2
  have hj65 : ¬ (12 : Int32) < 0 ∧ (12 : Int32) < (19 : Int32) := ⟨by decide, by decide⟩
  have hin65 := inb_of S65 hj65
  obtain ⟨T66, h66, X66, e66, W66, st66⟩ := stJ X61 hx hZ e61 Ar65 (j := (12 : Int32)) hin65 (g := (mkF m 86 #[.val (.int p1), .unset] [(.long (1000000000000 : Int64)), (.int (12 : Int32)), (.ref b2), (.ref b2)])) rfl rfl (hb hby d4_86)
  have V66_b2 : Arf Z h66 b2 .long (19 : Int32) (fun i => (.long ((own_upd (own_upd (own_upd (own_upd (own_upd (own_upd (own_upd (own_upd (own_upd (own_upd (own_upd (own_upd (own_upd (fun _ => (0 : Int64)) ((0 : Int32)).toNatClampNeg (1 : Int64)) ((1 : Int32)).toNatClampNeg (10 : Int64)) ((2 : Int32)).toNatClampNeg (100 : Int64)) ((3 : Int32)).toNatClampNeg (1000 : Int64)) ((4 : Int32)).toNatClampNeg (10000 : Int64)) ((5 : Int32)).toNatClampNeg (100000 : Int64)) ((6 : Int32)).toNatClampNeg (1000000 : Int64)) ((7 : Int32)).toNatClampNeg (10000000 : Int64)) ((8 : Int32)).toNatClampNeg (100000000 : Int64)) ((9 : Int32)).toNatClampNeg (1000000000 : Int64)) ((10 : Int32)).toNatClampNeg (10000000000 : Int64)) ((11 : Int32)).toNatClampNeg (100000000000 : Int64)) ((12 : Int32)).toNatClampNeg (1000000000000 : Int64)) i))) := upd_long _ _ _ ▸ (V61_b2.set W66)
  have K66 : Keep h0 h66 [] := K61.wr W66 (Or.inr sz_b2)
  have pre68 : ∀ t, Steps p.tables e below (T66.setTop (mkF m 87 #[.val (.int p1), .unset] [(.ref b2)])) t → Steps p.tables e below (s₁.setTop (entryFrame m #[(.int p1)] 2)) t := fun t kt => pre64 t (st66 t kt)
  have N66 := Fr.snoc X66 N61 g_b2
  have pre69 : ∀ t, Steps p.tables e below (T66.setTop (mkF m 93 #[.val (.int p1), .unset] [(.long (10000000000000 : Int64)), (.int (13 : Int32)), (.ref b2), (.ref b2)])) t → Steps p.tables e below (s₁.setTop (entryFrame m #[(.int p1)] 2)) t := fun t kt => by
    refine pre68 t ?_
    refine XS.dup X66.here hx rfl (hb hby d4_87) rfl rfl ?_
    show Steps p.tables e below (T66.setTop (mkF m 88 #[.val (.int p1), .unset] [(.ref b2), (.ref b2)])) _
    refine XS.bipush X66.here hx rfl (hb hby d4_88) ?_
    show Steps p.tables e below (T66.setTop (mkF m 90 #[.val (.int p1), .unset] [(.int (13 : Int32)), (.ref b2), (.ref b2)])) _
    refine X66.ldc2Long hx hown (mvT hZ (hw _ (mgE 31 rfl))) (g := (mkF m 90 #[.val (.int p1), .unset] [(.int (13 : Int32)), (.ref b2), (.ref b2)])) rfl (hb hby d4_90) _ ?_
    show Steps p.tables e below (T66.setTop (mkF m 93 #[.val (.int p1), .unset] [(.long (10000000000000 : Int64)), (.int (13 : Int32)), (.ref b2), (.ref b2)])) _
    exact kt
  obtain ⟨cl70, Ar70, S70, Ng70, H70⟩ := id V66_b2
  have hj70 : ¬ (13 : Int32) < 0 ∧ (13 : Int32) < (19 : Int32) := ⟨by decide, by decide⟩
  have hin70 := inb_of S70 hj70
  obtain ⟨T71, h71, X71, e71, W71, st71⟩ := stJ X66 hx hZ e66 Ar70 (j := (13 : Int32)) hin70 (g := (mkF m 93 #[.val (.int p1), .unset] [(.long (10000000000000 : Int64)), (.int (13 : Int32)), (.ref b2), (.ref b2)])) rfl rfl (hb hby d4_93)
  have V71_b2 : Arf Z h71 b2 .long (19 : Int32) (fun i => (.long ((own_upd (own_upd (own_upd (own_upd (own_upd (own_upd (own_upd (own_upd (own_upd (own_upd (own_upd (own_upd (own_upd (own_upd (fun _ => (0 : Int64)) ((0 : Int32)).toNatClampNeg (1 : Int64)) ((1 : Int32)).toNatClampNeg (10 : Int64)) ((2 : Int32)).toNatClampNeg (100 : Int64)) ((3 : Int32)).toNatClampNeg (1000 : Int64)) ((4 : Int32)).toNatClampNeg (10000 : Int64)) ((5 : Int32)).toNatClampNeg (100000 : Int64)) ((6 : Int32)).toNatClampNeg (1000000 : Int64)) ((7 : Int32)).toNatClampNeg (10000000 : Int64)) ((8 : Int32)).toNatClampNeg (100000000 : Int64)) ((9 : Int32)).toNatClampNeg (1000000000 : Int64)) ((10 : Int32)).toNatClampNeg (10000000000 : Int64)) ((11 : Int32)).toNatClampNeg (100000000000 : Int64)) ((12 : Int32)).toNatClampNeg (1000000000000 : Int64)) ((13 : Int32)).toNatClampNeg (10000000000000 : Int64)) i))) := upd_long _ _ _ ▸ (V66_b2.set W71)
  have K71 : Keep h0 h71 [] := K66.wr W71 (Or.inr sz_b2)
  have pre73 : ∀ t, Steps p.tables e below (T71.setTop (mkF m 94 #[.val (.int p1), .unset] [(.ref b2)])) t → Steps p.tables e below (s₁.setTop (entryFrame m #[(.int p1)] 2)) t := fun t kt => pre69 t (st71 t kt)
  have N71 := Fr.snoc X71 N66 g_b2
  have pre74 : ∀ t, Steps p.tables e below (T71.setTop (mkF m 100 #[.val (.int p1), .unset] [(.long (100000000000000 : Int64)), (.int (14 : Int32)), (.ref b2), (.ref b2)])) t → Steps p.tables e below (s₁.setTop (entryFrame m #[(.int p1)] 2)) t := fun t kt => by
    refine pre73 t ?_
    refine XS.dup X71.here hx rfl (hb hby d4_94) rfl rfl ?_
    show Steps p.tables e below (T71.setTop (mkF m 95 #[.val (.int p1), .unset] [(.ref b2), (.ref b2)])) _
    refine XS.bipush X71.here hx rfl (hb hby d4_95) ?_
    show Steps p.tables e below (T71.setTop (mkF m 97 #[.val (.int p1), .unset] [(.int (14 : Int32)), (.ref b2), (.ref b2)])) _
    refine X71.ldc2Long hx hown (mvT hZ (hw _ (mgE 32 rfl))) (g := (mkF m 97 #[.val (.int p1), .unset] [(.int (14 : Int32)), (.ref b2), (.ref b2)])) rfl (hb hby d4_97) _ ?_
    show Steps p.tables e below (T71.setTop (mkF m 100 #[.val (.int p1), .unset] [(.long (100000000000000 : Int64)), (.int (14 : Int32)), (.ref b2), (.ref b2)])) _
    exact kt
  obtain ⟨cl75, Ar75, S75, Ng75, H75⟩ := id V71_b2
  have hj75 : ¬ (14 : Int32) < 0 ∧ (14 : Int32) < (19 : Int32) := ⟨by decide, by decide⟩
  have hin75 := inb_of S75 hj75
  obtain ⟨T76, h76, X76, e76, W76, st76⟩ := stJ X71 hx hZ e71 Ar75 (j := (14 : Int32)) hin75 (g := (mkF m 100 #[.val (.int p1), .unset] [(.long (100000000000000 : Int64)), (.int (14 : Int32)), (.ref b2), (.ref b2)])) rfl rfl (hb hby d4_100)
  have V76_b2 : Arf Z h76 b2 .long (19 : Int32) (fun i => (.long ((own_upd (own_upd (own_upd (own_upd (own_upd (own_upd (own_upd (own_upd (own_upd (own_upd (own_upd (own_upd (own_upd (own_upd (own_upd (fun _ => (0 : Int64)) ((0 : Int32)).toNatClampNeg (1 : Int64)) ((1 : Int32)).toNatClampNeg (10 : Int64)) ((2 : Int32)).toNatClampNeg (100 : Int64)) ((3 : Int32)).toNatClampNeg (1000 : Int64)) ((4 : Int32)).toNatClampNeg (10000 : Int64)) ((5 : Int32)).toNatClampNeg (100000 : Int64)) ((6 : Int32)).toNatClampNeg (1000000 : Int64)) ((7 : Int32)).toNatClampNeg (10000000 : Int64)) ((8 : Int32)).toNatClampNeg (100000000 : Int64)) ((9 : Int32)).toNatClampNeg (1000000000 : Int64)) ((10 : Int32)).toNatClampNeg (10000000000 : Int64)) ((11 : Int32)).toNatClampNeg (100000000000 : Int64)) ((12 : Int32)).toNatClampNeg (1000000000000 : Int64)) ((13 : Int32)).toNatClampNeg (10000000000000 : Int64)) ((14 : Int32)).toNatClampNeg (100000000000000 : Int64)) i))) := upd_long _ _ _ ▸ (V71_b2.set W76)
  have K76 : Keep h0 h76 [] := K71.wr W76 (Or.inr sz_b2)
  have pre78 : ∀ t, Steps p.tables e below (T76.setTop (mkF m 101 #[.val (.int p1), .unset] [(.ref b2)])) t → Steps p.tables e below (s₁.setTop (entryFrame m #[(.int p1)] 2)) t := fun t kt => pre74 t (st76 t kt)
  have N76 := Fr.snoc X76 N71 g_b2
  have pre79 : ∀ t, Steps p.tables e below (T76.setTop (mkF m 107 #[.val (.int p1), .unset] [(.long (1000000000000000 : Int64)), (.int (15 : Int32)), (.ref b2), (.ref b2)])) t → Steps p.tables e below (s₁.setTop (entryFrame m #[(.int p1)] 2)) t := fun t kt => by
    refine pre78 t ?_
    refine XS.dup X76.here hx rfl (hb hby d4_101) rfl rfl ?_
    show Steps p.tables e below (T76.setTop (mkF m 102 #[.val (.int p1), .unset] [(.ref b2), (.ref b2)])) _
    refine XS.bipush X76.here hx rfl (hb hby d4_102) ?_
    show Steps p.tables e below (T76.setTop (mkF m 104 #[.val (.int p1), .unset] [(.int (15 : Int32)), (.ref b2), (.ref b2)])) _
    refine X76.ldc2Long hx hown (mvT hZ (hw _ (mgE 33 rfl))) (g := (mkF m 104 #[.val (.int p1), .unset] [(.int (15 : Int32)), (.ref b2), (.ref b2)])) rfl (hb hby d4_104) _ ?_
    show Steps p.tables e below (T76.setTop (mkF m 107 #[.val (.int p1), .unset] [(.long (1000000000000000 : Int64)), (.int (15 : Int32)), (.ref b2), (.ref b2)])) _
    exact kt
  obtain ⟨cl80, Ar80, S80, Ng80, H80⟩ := id V76_b2
  have hj80 : ¬ (15 : Int32) < 0 ∧ (15 : Int32) < (19 : Int32) := ⟨by decide, by decide⟩
  have hin80 := inb_of S80 hj80
  obtain ⟨T81, h81, X81, e81, W81, st81⟩ := stJ X76 hx hZ e76 Ar80 (j := (15 : Int32)) hin80 (g := (mkF m 107 #[.val (.int p1), .unset] [(.long (1000000000000000 : Int64)), (.int (15 : Int32)), (.ref b2), (.ref b2)])) rfl rfl (hb hby d4_107)
  have V81_b2 : Arf Z h81 b2 .long (19 : Int32) (fun i => (.long ((own_upd (own_upd (own_upd (own_upd (own_upd (own_upd (own_upd (own_upd (own_upd (own_upd (own_upd (own_upd (own_upd (own_upd (own_upd (own_upd (fun _ => (0 : Int64)) ((0 : Int32)).toNatClampNeg (1 : Int64)) ((1 : Int32)).toNatClampNeg (10 : Int64)) ((2 : Int32)).toNatClampNeg (100 : Int64)) ((3 : Int32)).toNatClampNeg (1000 : Int64)) ((4 : Int32)).toNatClampNeg (10000 : Int64)) ((5 : Int32)).toNatClampNeg (100000 : Int64)) ((6 : Int32)).toNatClampNeg (1000000 : Int64)) ((7 : Int32)).toNatClampNeg (10000000 : Int64)) ((8 : Int32)).toNatClampNeg (100000000 : Int64)) ((9 : Int32)).toNatClampNeg (1000000000 : Int64)) ((10 : Int32)).toNatClampNeg (10000000000 : Int64)) ((11 : Int32)).toNatClampNeg (100000000000 : Int64)) ((12 : Int32)).toNatClampNeg (1000000000000 : Int64)) ((13 : Int32)).toNatClampNeg (10000000000000 : Int64)) ((14 : Int32)).toNatClampNeg (100000000000000 : Int64)) ((15 : Int32)).toNatClampNeg (1000000000000000 : Int64)) i))) := upd_long _ _ _ ▸ (V76_b2.set W81)
  have K81 : Keep h0 h81 [] := K76.wr W81 (Or.inr sz_b2)
  have pre83 : ∀ t, Steps p.tables e below (T81.setTop (mkF m 108 #[.val (.int p1), .unset] [(.ref b2)])) t → Steps p.tables e below (s₁.setTop (entryFrame m #[(.int p1)] 2)) t := fun t kt => pre79 t (st81 t kt)
  have N81 := Fr.snoc X81 N76 g_b2
  have pre84 : ∀ t, Steps p.tables e below (T81.setTop (mkF m 114 #[.val (.int p1), .unset] [(.long (10000000000000000 : Int64)), (.int (16 : Int32)), (.ref b2), (.ref b2)])) t → Steps p.tables e below (s₁.setTop (entryFrame m #[(.int p1)] 2)) t := fun t kt => by
    refine pre83 t ?_
    refine XS.dup X81.here hx rfl (hb hby d4_108) rfl rfl ?_
    show Steps p.tables e below (T81.setTop (mkF m 109 #[.val (.int p1), .unset] [(.ref b2), (.ref b2)])) _
    refine XS.bipush X81.here hx rfl (hb hby d4_109) ?_
    show Steps p.tables e below (T81.setTop (mkF m 111 #[.val (.int p1), .unset] [(.int (16 : Int32)), (.ref b2), (.ref b2)])) _
    refine X81.ldc2Long hx hown (mvT hZ (hw _ (mgE 34 rfl))) (g := (mkF m 111 #[.val (.int p1), .unset] [(.int (16 : Int32)), (.ref b2), (.ref b2)])) rfl (hb hby d4_111) _ ?_
    show Steps p.tables e below (T81.setTop (mkF m 114 #[.val (.int p1), .unset] [(.long (10000000000000000 : Int64)), (.int (16 : Int32)), (.ref b2), (.ref b2)])) _
    exact kt
  obtain ⟨cl85, Ar85, S85, Ng85, H85⟩ := id V81_b2
  have hj85 : ¬ (16 : Int32) < 0 ∧ (16 : Int32) < (19 : Int32) := ⟨by decide, by decide⟩
  have hin85 := inb_of S85 hj85
  obtain ⟨T86, h86, X86, e86, W86, st86⟩ := stJ X81 hx hZ e81 Ar85 (j := (16 : Int32)) hin85 (g := (mkF m 114 #[.val (.int p1), .unset] [(.long (10000000000000000 : Int64)), (.int (16 : Int32)), (.ref b2), (.ref b2)])) rfl rfl (hb hby d4_114)
  have V86_b2 : Arf Z h86 b2 .long (19 : Int32) (fun i => (.long ((own_upd (own_upd (own_upd (own_upd (own_upd (own_upd (own_upd (own_upd (own_upd (own_upd (own_upd (own_upd (own_upd (own_upd (own_upd (own_upd (own_upd (fun _ => (0 : Int64)) ((0 : Int32)).toNatClampNeg (1 : Int64)) ((1 : Int32)).toNatClampNeg (10 : Int64)) ((2 : Int32)).toNatClampNeg (100 : Int64)) ((3 : Int32)).toNatClampNeg (1000 : Int64)) ((4 : Int32)).toNatClampNeg (10000 : Int64)) ((5 : Int32)).toNatClampNeg (100000 : Int64)) ((6 : Int32)).toNatClampNeg (1000000 : Int64)) ((7 : Int32)).toNatClampNeg (10000000 : Int64)) ((8 : Int32)).toNatClampNeg (100000000 : Int64)) ((9 : Int32)).toNatClampNeg (1000000000 : Int64)) ((10 : Int32)).toNatClampNeg (10000000000 : Int64)) ((11 : Int32)).toNatClampNeg (100000000000 : Int64)) ((12 : Int32)).toNatClampNeg (1000000000000 : Int64)) ((13 : Int32)).toNatClampNeg (10000000000000 : Int64)) ((14 : Int32)).toNatClampNeg (100000000000000 : Int64)) ((15 : Int32)).toNatClampNeg (1000000000000000 : Int64)) ((16 : Int32)).toNatClampNeg (10000000000000000 : Int64)) i))) := upd_long _ _ _ ▸ (V81_b2.set W86)
  have K86 : Keep h0 h86 [] := K81.wr W86 (Or.inr sz_b2)
  have pre88 : ∀ t, Steps p.tables e below (T86.setTop (mkF m 115 #[.val (.int p1), .unset] [(.ref b2)])) t → Steps p.tables e below (s₁.setTop (entryFrame m #[(.int p1)] 2)) t := fun t kt => pre84 t (st86 t kt)
  have N86 := Fr.snoc X86 N81 g_b2
  have pre89 : ∀ t, Steps p.tables e below (T86.setTop (mkF m 121 #[.val (.int p1), .unset] [(.long (100000000000000000 : Int64)), (.int (17 : Int32)), (.ref b2), (.ref b2)])) t → Steps p.tables e below (s₁.setTop (entryFrame m #[(.int p1)] 2)) t := fun t kt => by
    refine pre88 t ?_
    refine XS.dup X86.here hx rfl (hb hby d4_115) rfl rfl ?_
    show Steps p.tables e below (T86.setTop (mkF m 116 #[.val (.int p1), .unset] [(.ref b2), (.ref b2)])) _
    refine XS.bipush X86.here hx rfl (hb hby d4_116) ?_
    show Steps p.tables e below (T86.setTop (mkF m 118 #[.val (.int p1), .unset] [(.int (17 : Int32)), (.ref b2), (.ref b2)])) _
    refine X86.ldc2Long hx hown (mvT hZ (hw _ (mgE 35 rfl))) (g := (mkF m 118 #[.val (.int p1), .unset] [(.int (17 : Int32)), (.ref b2), (.ref b2)])) rfl (hb hby d4_118) _ ?_
    show Steps p.tables e below (T86.setTop (mkF m 121 #[.val (.int p1), .unset] [(.long (100000000000000000 : Int64)), (.int (17 : Int32)), (.ref b2), (.ref b2)])) _
    exact kt
  obtain ⟨cl90, Ar90, S90, Ng90, H90⟩ := id V86_b2
  have hj90 : ¬ (17 : Int32) < 0 ∧ (17 : Int32) < (19 : Int32) := ⟨by decide, by decide⟩
  have hin90 := inb_of S90 hj90
  obtain ⟨T91, h91, X91, e91, W91, st91⟩ := stJ X86 hx hZ e86 Ar90 (j := (17 : Int32)) hin90 (g := (mkF m 121 #[.val (.int p1), .unset] [(.long (100000000000000000 : Int64)), (.int (17 : Int32)), (.ref b2), (.ref b2)])) rfl rfl (hb hby d4_121)
  have V91_b2 : Arf Z h91 b2 .long (19 : Int32) (fun i => (.long ((own_upd (own_upd (own_upd (own_upd (own_upd (own_upd (own_upd (own_upd (own_upd (own_upd (own_upd (own_upd (own_upd (own_upd (own_upd (own_upd (own_upd (own_upd (fun _ => (0 : Int64)) ((0 : Int32)).toNatClampNeg (1 : Int64)) ((1 : Int32)).toNatClampNeg (10 : Int64)) ((2 : Int32)).toNatClampNeg (100 : Int64)) ((3 : Int32)).toNatClampNeg (1000 : Int64)) ((4 : Int32)).toNatClampNeg (10000 : Int64)) ((5 : Int32)).toNatClampNeg (100000 : Int64)) ((6 : Int32)).toNatClampNeg (1000000 : Int64)) ((7 : Int32)).toNatClampNeg (10000000 : Int64)) ((8 : Int32)).toNatClampNeg (100000000 : Int64)) ((9 : Int32)).toNatClampNeg (1000000000 : Int64)) ((10 : Int32)).toNatClampNeg (10000000000 : Int64)) ((11 : Int32)).toNatClampNeg (100000000000 : Int64)) ((12 : Int32)).toNatClampNeg (1000000000000 : Int64)) ((13 : Int32)).toNatClampNeg (10000000000000 : Int64)) ((14 : Int32)).toNatClampNeg (100000000000000 : Int64)) ((15 : Int32)).toNatClampNeg (1000000000000000 : Int64)) ((16 : Int32)).toNatClampNeg (10000000000000000 : Int64)) ((17 : Int32)).toNatClampNeg (100000000000000000 : Int64)) i))) := upd_long _ _ _ ▸ (V86_b2.set W91)
  have K91 : Keep h0 h91 [] := K86.wr W91 (Or.inr sz_b2)
  have pre93 : ∀ t, Steps p.tables e below (T91.setTop (mkF m 122 #[.val (.int p1), .unset] [(.ref b2)])) t → Steps p.tables e below (s₁.setTop (entryFrame m #[(.int p1)] 2)) t := fun t kt => pre89 t (st91 t kt)
  have N91 := Fr.snoc X91 N86 g_b2
  have pre94 : ∀ t, Steps p.tables e below (T91.setTop (mkF m 128 #[.val (.int p1), .unset] [(.long (1000000000000000000 : Int64)), (.int (18 : Int32)), (.ref b2), (.ref b2)])) t → Steps p.tables e below (s₁.setTop (entryFrame m #[(.int p1)] 2)) t := fun t kt => by
    refine pre93 t ?_
    refine XS.dup X91.here hx rfl (hb hby d4_122) rfl rfl ?_
    show Steps p.tables e below (T91.setTop (mkF m 123 #[.val (.int p1), .unset] [(.ref b2), (.ref b2)])) _
    refine XS.bipush X91.here hx rfl (hb hby d4_123) ?_
    show Steps p.tables e below (T91.setTop (mkF m 125 #[.val (.int p1), .unset] [(.int (18 : Int32)), (.ref b2), (.ref b2)])) _
    refine X91.ldc2Long hx hown (mvT hZ (hw _ (mgE 36 rfl))) (g := (mkF m 125 #[.val (.int p1), .unset] [(.int (18 : Int32)), (.ref b2), (.ref b2)])) rfl (hb hby d4_125) _ ?_
    show Steps p.tables e below (T91.setTop (mkF m 128 #[.val (.int p1), .unset] [(.long (1000000000000000000 : Int64)), (.int (18 : Int32)), (.ref b2), (.ref b2)])) _
    exact kt
  obtain ⟨cl95, Ar95, S95, Ng95, H95⟩ := id V91_b2
  have hj95 : ¬ (18 : Int32) < 0 ∧ (18 : Int32) < (19 : Int32) := ⟨by decide, by decide⟩
  have hin95 := inb_of S95 hj95
  obtain ⟨T96, h96, X96, e96, W96, st96⟩ := stJ X91 hx hZ e91 Ar95 (j := (18 : Int32)) hin95 (g := (mkF m 128 #[.val (.int p1), .unset] [(.long (1000000000000000000 : Int64)), (.int (18 : Int32)), (.ref b2), (.ref b2)])) rfl rfl (hb hby d4_128)
  have V96_b2 : Arf Z h96 b2 .long (19 : Int32) (fun i => (.long ((own_upd (own_upd (own_upd (own_upd (own_upd (own_upd (own_upd (own_upd (own_upd (own_upd (own_upd (own_upd (own_upd (own_upd (own_upd (own_upd (own_upd (own_upd (own_upd (fun _ => (0 : Int64)) ((0 : Int32)).toNatClampNeg (1 : Int64)) ((1 : Int32)).toNatClampNeg (10 : Int64)) ((2 : Int32)).toNatClampNeg (100 : Int64)) ((3 : Int32)).toNatClampNeg (1000 : Int64)) ((4 : Int32)).toNatClampNeg (10000 : Int64)) ((5 : Int32)).toNatClampNeg (100000 : Int64)) ((6 : Int32)).toNatClampNeg (1000000 : Int64)) ((7 : Int32)).toNatClampNeg (10000000 : Int64)) ((8 : Int32)).toNatClampNeg (100000000 : Int64)) ((9 : Int32)).toNatClampNeg (1000000000 : Int64)) ((10 : Int32)).toNatClampNeg (10000000000 : Int64)) ((11 : Int32)).toNatClampNeg (100000000000 : Int64)) ((12 : Int32)).toNatClampNeg (1000000000000 : Int64)) ((13 : Int32)).toNatClampNeg (10000000000000 : Int64)) ((14 : Int32)).toNatClampNeg (100000000000000 : Int64)) ((15 : Int32)).toNatClampNeg (1000000000000000 : Int64)) ((16 : Int32)).toNatClampNeg (10000000000000000 : Int64)) ((17 : Int32)).toNatClampNeg (100000000000000000 : Int64)) ((18 : Int32)).toNatClampNeg (1000000000000000000 : Int64)) i))) := upd_long _ _ _ ▸ (V91_b2.set W96)
  have K96 : Keep h0 h96 [] := K91.wr W96 (Or.inr sz_b2)
  have pre98 : ∀ t, Steps p.tables e below (T96.setTop (mkF m 129 #[.val (.int p1), .unset] [(.ref b2)])) t → Steps p.tables e below (s₁.setTop (entryFrame m #[(.int p1)] 2)) t := fun t kt => pre94 t (st96 t kt)
  have N96 := Fr.snoc X96 N91 g_b2
  have pre99 : ∀ t, Steps p.tables e below (T96.setTop (mkF m 132 #[.val (.int p1), .val (.ref b2)] [(.int p1), (.ref b2)])) t → Steps p.tables e below (s₁.setTop (entryFrame m #[(.int p1)] 2)) t := fun t kt => by
    refine pre98 t ?_
    refine XS.astoreN X96.here hx rfl (hb hby d4_129) rfl rfl (l' := #[.val (.int p1), .val (.ref b2)]) rfl ?_
    show Steps p.tables e below (T96.setTop (mkF m 130 #[.val (.int p1), .val (.ref b2)] [])) _
    refine XS.aloadN X96.here hx rfl (hb hby d4_130) rfl rfl ?_
    show Steps p.tables e below (T96.setTop (mkF m 131 #[.val (.int p1), .val (.ref b2)] [(.ref b2)])) _
    refine XS.iloadN X96.here hx rfl (hb hby d4_131) rfl ?_
    show Steps p.tables e below (T96.setTop (mkF m 132 #[.val (.int p1), .val (.ref b2)] [(.int p1), (.ref b2)])) _
    exact kt
  obtain ⟨cl100, Ar100, S100, Ng100, H100⟩ := id V96_b2
  have hj100 : ¬ p1 < 0 ∧ p1 < (19 : Int32) := hI
  have hin100 := inb_of S100 hj100
  have lt100 : (p1).toNatClampNeg < ((19 : Int32)).toNatClampNeg := by rw [← S100]; exact Nat.lt_of_not_le fun q => hin100 (Or.inr q)
  have pre101 : ∀ t, Steps p.tables e below (T96.setTop (mkF m 133 #[.val (.int p1), .val (.ref b2)] [(.long ((own_upd (own_upd (own_upd (own_upd (own_upd (own_upd (own_upd (own_upd (own_upd (own_upd (own_upd (own_upd (own_upd (own_upd (own_upd (own_upd (own_upd (own_upd (own_upd (fun _ => (0 : Int64)) ((0 : Int32)).toNatClampNeg (1 : Int64)) ((1 : Int32)).toNatClampNeg (10 : Int64)) ((2 : Int32)).toNatClampNeg (100 : Int64)) ((3 : Int32)).toNatClampNeg (1000 : Int64)) ((4 : Int32)).toNatClampNeg (10000 : Int64)) ((5 : Int32)).toNatClampNeg (100000 : Int64)) ((6 : Int32)).toNatClampNeg (1000000 : Int64)) ((7 : Int32)).toNatClampNeg (10000000 : Int64)) ((8 : Int32)).toNatClampNeg (100000000 : Int64)) ((9 : Int32)).toNatClampNeg (1000000000 : Int64)) ((10 : Int32)).toNatClampNeg (10000000000 : Int64)) ((11 : Int32)).toNatClampNeg (100000000000 : Int64)) ((12 : Int32)).toNatClampNeg (1000000000000 : Int64)) ((13 : Int32)).toNatClampNeg (10000000000000 : Int64)) ((14 : Int32)).toNatClampNeg (100000000000000 : Int64)) ((15 : Int32)).toNatClampNeg (1000000000000000 : Int64)) ((16 : Int32)).toNatClampNeg (10000000000000000 : Int64)) ((17 : Int32)).toNatClampNeg (100000000000000000 : Int64)) ((18 : Int32)).toNatClampNeg (1000000000000000000 : Int64)) (p1).toNatClampNeg))])) t → Steps p.tables e below (s₁.setTop (entryFrame m #[(.int p1)] 2)) t := fun t kt => by
    refine pre99 t ?_
    refine X96.laload hx (j := p1) (v := (.long ((own_upd (own_upd (own_upd (own_upd (own_upd (own_upd (own_upd (own_upd (own_upd (own_upd (own_upd (own_upd (own_upd (own_upd (own_upd (own_upd (own_upd (own_upd (own_upd (fun _ => (0 : Int64)) ((0 : Int32)).toNatClampNeg (1 : Int64)) ((1 : Int32)).toNatClampNeg (10 : Int64)) ((2 : Int32)).toNatClampNeg (100 : Int64)) ((3 : Int32)).toNatClampNeg (1000 : Int64)) ((4 : Int32)).toNatClampNeg (10000 : Int64)) ((5 : Int32)).toNatClampNeg (100000 : Int64)) ((6 : Int32)).toNatClampNeg (1000000 : Int64)) ((7 : Int32)).toNatClampNeg (10000000 : Int64)) ((8 : Int32)).toNatClampNeg (100000000 : Int64)) ((9 : Int32)).toNatClampNeg (1000000000 : Int64)) ((10 : Int32)).toNatClampNeg (10000000000 : Int64)) ((11 : Int32)).toNatClampNeg (100000000000 : Int64)) ((12 : Int32)).toNatClampNeg (1000000000000 : Int64)) ((13 : Int32)).toNatClampNeg (10000000000000 : Int64)) ((14 : Int32)).toNatClampNeg (100000000000000 : Int64)) ((15 : Int32)).toNatClampNeg (1000000000000000 : Int64)) ((16 : Int32)).toNatClampNeg (10000000000000000 : Int64)) ((17 : Int32)).toNatClampNeg (100000000000000000 : Int64)) ((18 : Int32)).toNatClampNeg (1000000000000000000 : Int64)) (p1).toNatClampNeg))) (by rw [e96]; exact Ar100.1) (State.isArrayOf_alike hZ.alike Ar100.2.1) Ar100.2.2 hin100 (H100 _ lt100) (g := (mkF m 132 #[.val (.int p1), .val (.ref b2)] [(.int p1), (.ref b2)])) rfl rfl (hb hby d4_132) _ ?_
    show Steps p.tables e below (T96.setTop (mkF m 133 #[.val (.int p1), .val (.ref b2)] [(.long ((own_upd (own_upd (own_upd (own_upd (own_upd (own_upd (own_upd (own_upd (own_upd (own_upd (own_upd (own_upd (own_upd (own_upd (own_upd (own_upd (own_upd (own_upd (own_upd (fun _ => (0 : Int64)) ((0 : Int32)).toNatClampNeg (1 : Int64)) ((1 : Int32)).toNatClampNeg (10 : Int64)) ((2 : Int32)).toNatClampNeg (100 : Int64)) ((3 : Int32)).toNatClampNeg (1000 : Int64)) ((4 : Int32)).toNatClampNeg (10000 : Int64)) ((5 : Int32)).toNatClampNeg (100000 : Int64)) ((6 : Int32)).toNatClampNeg (1000000 : Int64)) ((7 : Int32)).toNatClampNeg (10000000 : Int64)) ((8 : Int32)).toNatClampNeg (100000000 : Int64)) ((9 : Int32)).toNatClampNeg (1000000000 : Int64)) ((10 : Int32)).toNatClampNeg (10000000000 : Int64)) ((11 : Int32)).toNatClampNeg (100000000000 : Int64)) ((12 : Int32)).toNatClampNeg (1000000000000 : Int64)) ((13 : Int32)).toNatClampNeg (10000000000000 : Int64)) ((14 : Int32)).toNatClampNeg (100000000000000 : Int64)) ((15 : Int32)).toNatClampNeg (1000000000000000 : Int64)) ((16 : Int32)).toNatClampNeg (10000000000000000 : Int64)) ((17 : Int32)).toNatClampNeg (100000000000000000 : Int64)) ((18 : Int32)).toNatClampNeg (1000000000000000000 : Int64)) (p1).toNatClampNeg))])) _
    exact kt
  obtain ⟨fs, hr, hrun, hended, hW, hsame⟩ := X96.leave (v := some (.long ((own_upd (own_upd (own_upd (own_upd (own_upd (own_upd (own_upd (own_upd (own_upd (own_upd (own_upd (own_upd (own_upd (own_upd (own_upd (own_upd (own_upd (own_upd (own_upd (fun _ => (0 : Int64)) ((0 : Int32)).toNatClampNeg (1 : Int64)) ((1 : Int32)).toNatClampNeg (10 : Int64)) ((2 : Int32)).toNatClampNeg (100 : Int64)) ((3 : Int32)).toNatClampNeg (1000 : Int64)) ((4 : Int32)).toNatClampNeg (10000 : Int64)) ((5 : Int32)).toNatClampNeg (100000 : Int64)) ((6 : Int32)).toNatClampNeg (1000000 : Int64)) ((7 : Int32)).toNatClampNeg (10000000 : Int64)) ((8 : Int32)).toNatClampNeg (100000000 : Int64)) ((9 : Int32)).toNatClampNeg (1000000000 : Int64)) ((10 : Int32)).toNatClampNeg (10000000000 : Int64)) ((11 : Int32)).toNatClampNeg (100000000000 : Int64)) ((12 : Int32)).toNatClampNeg (1000000000000 : Int64)) ((13 : Int32)).toNatClampNeg (10000000000000 : Int64)) ((14 : Int32)).toNatClampNeg (100000000000000 : Int64)) ((15 : Int32)).toNatClampNeg (1000000000000000 : Int64)) ((16 : Int32)).toNatClampNeg (10000000000000000 : Int64)) ((17 : Int32)).toNatClampNeg (100000000000000000 : Int64)) ((18 : Int32)).toNatClampNeg (1000000000000000000 : Int64)) (p1).toNatClampNeg))) (fun h => by rw [Bd.returns] at h; cases h) (BodyLoose.notSynchronized Bd)
  refine ⟨_, _, pre101 _ ?_, hrun, hended, _, _, rfl, ?_, ⟨_, rfl⟩, hW, hsame.mono (by decide) (by decide)⟩
  · exact retJ X96 hx Bd.returns (hb hby d4_133) hr
  · show Q4 Z p1 h0 n0 _ T96.heap _
    rw [e96]
    exact ⟨by first | rfl | (simp only [p10]), N96, K96⟩
theorem d5_0 : decode method_4_code 0 = .ok (.lload_n 0, 1) := by decide +kernel
theorem d5_1 : decode method_4_code 1 = .ok (.lconst 0, 1) := by decide +kernel
theorem d5_2 : decode method_4_code 2 = .ok (.lcmp, 1) := by decide +kernel
theorem d5_3 : decode method_4_code 3 = .ok (.ifCond .lt 10, 3) := by decide +kernel
theorem d5_6 : decode method_4_code 6 = .ok (.iload_n 2, 1) := by decide +kernel
theorem d5_7 : decode method_4_code 7 = .ok (.invokestatic 7, 3) := by decide +kernel
theorem d5_10 : decode method_4_code 10 = .ok (.ifCond .ne 7, 3) := by decide +kernel
theorem d5_13 : decode method_4_code 13 = .ok (.ldc2_w 13, 3) := by decide +kernel
theorem d5_16 : decode method_4_code 16 = .ok (.lreturn, 1) := by decide +kernel
theorem d5_17 : decode method_4_code 17 = .ok (.lload_n 0, 1) := by decide +kernel
theorem d5_18 : decode method_4_code 18 = .ok (.ldc2_w 15, 3) := by decide +kernel
theorem d5_21 : decode method_4_code 21 = .ok (.lmul, 1) := by decide +kernel
theorem d5_22 : decode method_4_code 22 = .ok (.iload_n 2, 1) := by decide +kernel
theorem d5_23 : decode method_4_code 23 = .ok (.bipush 48, 2) := by decide +kernel
theorem d5_25 : decode method_4_code 25 = .ok (.isub, 1) := by decide +kernel
theorem d5_26 : decode method_4_code 26 = .ok (.i2l, 1) := by decide +kernel
theorem d5_27 : decode method_4_code 27 = .ok (.ladd, 1) := by decide +kernel
theorem d5_28 : decode method_4_code 28 = .ok (.lreturn, 1) := by decide +kernel
theorem pd__B_Z : parseMethodDescriptor "(B)Z" = some ⟨[.byte], some .boolean⟩ := by decide +kernel
theorem ef_5 (m : MethodId) (x0 : Int64) (x1 : Int32) : entryFrame m #[(.long x0), (.int x1)] 3 = mkF m 0 #[.val (.long x0), .second, .val (.int x1)] [] := by first | (simp [entryFrame, mkF, argsToLocals, Value.category]; done) | rfl
def r5 (q1 : Int64) (p2 : Int32) : Int64 := (if (lcmpW q1 (0 : Int64)) < (0 : Int32) then (-1 : Int64) else (if (r6 p2) = (0 : Int32) then (-1 : Int64) else ((q1 * (10 : Int64)) + ((p2 - (48 : Int32)).toInt64))))
def Q5 (Z : State) (q1 : Int64) (p2 : Int32) (h0 : Heap) (n0 : Nat) (v : Option Value) (h : Heap) (L : List Loc) : Prop := v = some (.long (r5 q1 p2)) ∧ Fr n0 L ∧ h = h0
set_option maxRecDepth 65536 in
set_option maxHeartbeats 40000000 in
theorem rm5 (l : Launch) (Z : State) (a0 : Array Value) (hw : ∀ d ∈ tables_1, d.before a0 Z = true) (ws : List Jvm.Cond) (q1 : Int64) (p2 : Int32) (h0 : Heap) (n0 : Nat) (Z0 : n0 ≤ h0.size)  :
    MetFree l (⟨"com/example/entgelt/entgelt/io/FieldFormsDigitsPinLaw", "step", "(JB)J"⟩ : MethodName) (head1 (Jvm.Cond.code (⟨"com/example/entgelt/entgelt/io/FieldFormsDigitsPinLaw", "step", "(JB)J"⟩ : MethodName) method_4_code 3 (some .long) :: ws) ({ frames := 1, cells := 0, slots := 0, locals := 12 } : Room)) (fun a U => a = #[(.long q1), (.int p2)] ∧ Z.Warmed39 U.vm ∧ U.heap = h0) (fun _ _ _ _ _ => True) (fun _ U o U' => ∃ v L, o = .returned v ∧ Q5 Z q1 p2 h0 n0 v U'.heap L ∧ FrameEnd U o U' L ({ frames := 1, cells := 0, slots := 0, locals := 12 } : Room).cells ({ frames := 1, cells := 0, slots := 0, locals := 12 } : Room).slots) := by
  refine MetFree.of_bodySF (plainFor_of_name pn_com_example_entgelt_entgelt_io_FieldFormsDigitsPinLaw) hisR ?_
  intro p e s m args below meth c s₁ Bd hml0 hP hK
  obtain ⟨rfl, hZ, hh⟩ := hP
  have hx := Bd.exec
  have hby := Bd.bytes
  have hml : c.maxLocals = 3 := hml0
  have hown : s.vm.findClass "com/example/entgelt/entgelt/io/FieldFormsDigitsPinLaw" = some m.cls := findClass_of_methodNamed Bd.named
  have hnm := (name_of_methodNamed Bd.named Bd.method).1
  have X0 : Stand p l e ({ frames := 1, cells := 0, slots := 0, locals := 12 } : Room) s m #[(.long q1), (.int p2)] below meth c s₁ [] 0 0 := Stand.of_body Bd
  have e0 : s₁.heap = h0 := by rw [← hh, Bd.state]; rfl
  have N0 := Fr.nil n0
  have pre0 : ∀ t, Steps p.tables e below (s₁.setTop (mkF m 0 #[.val (.long q1), .second, .val (.int p2)] [])) t → Steps p.tables e below (s₁.setTop (entryFrame m #[(.long q1), (.int p2)] 3)) t := fun t k => castTop (ef_5 m q1 p2) k
  by_cases hc3 : (lcmpW q1 (0 : Int64)) < (0 : Int32)
  · skip
    have pre1 : ∀ t, Steps p.tables e below (s₁.setTop (mkF m 16 #[.val (.long q1), .second, .val (.int p2)] [(.long (-1 : Int64))])) t → Steps p.tables e below (s₁.setTop (entryFrame m #[(.long q1), (.int p2)] 3)) t := fun t kt => by
      refine pre0 t ?_
      refine XS.lloadN X0.here hx rfl (hb hby d5_0) rfl ?_
      show Steps p.tables e below (s₁.setTop (mkF m 1 #[.val (.long q1), .second, .val (.int p2)] [(.long q1)])) _
      refine XS.lconst X0.here hx rfl (hb hby d5_1) ?_
      show Steps p.tables e below (s₁.setTop (mkF m 2 #[.val (.long q1), .second, .val (.int p2)] [(.long (0 : Int64)), (.long q1)])) _
      refine XS.lcmp X0.here hx rfl (hb hby d5_2) rfl ?_
      show Steps p.tables e below (s₁.setTop (mkF m 3 #[.val (.long q1), .second, .val (.int p2)] [(.int (lcmpW q1 (0 : Int64)))])) _
      refine XS.ifYes X0.here hx rfl (pc0 := 3) (pc' := 13) rfl (hb hby d5_3) rfl ((if0 _ _).trans (tlt hc3).1) (by decide) (by decide) ?_
      show Steps p.tables e below (s₁.setTop (mkF m 13 #[.val (.long q1), .second, .val (.int p2)] [])) _
      refine X0.ldc2Long hx hown (mvT hZ (hw _ (mgE 47 rfl))) (g := (mkF m 13 #[.val (.long q1), .second, .val (.int p2)] [])) rfl (hb hby d5_13) _ ?_
      show Steps p.tables e below (s₁.setTop (mkF m 16 #[.val (.long q1), .second, .val (.int p2)] [(.long (-1 : Int64))])) _
      exact kt
    obtain ⟨fs, hr, hrun, hended, hW, hsame⟩ := X0.leave (v := some (.long (-1 : Int64))) (fun h => by rw [Bd.returns] at h; cases h) (BodyLoose.notSynchronized Bd)
    refine ⟨_, _, pre1 _ ?_, hrun, hended, _, _, rfl, ?_, ⟨_, rfl⟩, hW, hsame.mono (by decide) (by decide)⟩
    · exact retJ X0 hx Bd.returns (hb hby d5_16) hr
    · show Q5 Z q1 p2 h0 n0 _ s₁.heap _
      rw [e0]
      exact ⟨by first | rfl | (simp only [r5, if_pos hc3]), N0, rfl⟩
  · skip
    have pre2 : ∀ t, Steps p.tables e below (s₁.setTop (mkF m 7 #[.val (.long q1), .second, .val (.int p2)] [(.int p2)])) t → Steps p.tables e below (s₁.setTop (entryFrame m #[(.long q1), (.int p2)] 3)) t := fun t kt => by
      refine pre0 t ?_
      refine XS.lloadN X0.here hx rfl (hb hby d5_0) rfl ?_
      show Steps p.tables e below (s₁.setTop (mkF m 1 #[.val (.long q1), .second, .val (.int p2)] [(.long q1)])) _
      refine XS.lconst X0.here hx rfl (hb hby d5_1) ?_
      show Steps p.tables e below (s₁.setTop (mkF m 2 #[.val (.long q1), .second, .val (.int p2)] [(.long (0 : Int64)), (.long q1)])) _
      refine XS.lcmp X0.here hx rfl (hb hby d5_2) rfl ?_
      show Steps p.tables e below (s₁.setTop (mkF m 3 #[.val (.long q1), .second, .val (.int p2)] [(.int (lcmpW q1 (0 : Int64)))])) _
      refine XS.ifNo X0.here hx rfl (hb hby d5_3) rfl ((if0 _ _).trans (flt hc3).1) ?_
      show Steps p.tables e below (s₁.setTop (mkF m 6 #[.val (.long q1), .second, .val (.int p2)] [])) _
      refine XS.iloadN X0.here hx rfl (hb hby d5_6) rfl ?_
      show Steps p.tables e below (s₁.setTop (mkF m 7 #[.val (.long q1), .second, .val (.int p2)] [(.int p2)])) _
      exact kt
    obtain ⟨_, _, ⟨T3, L3, k3, n3⟩, -, X3, ⟨Lc3, hQ3, l3, y3, z3⟩, st3⟩ := Jvm.LawKit.callS X0 hx (y := (⟨"com/example/entgelt/entgelt/io/FieldFormsDigitsPinLaw", "isDigit", "(B)Z"⟩ : MethodName)) hown (mvT hZ (hw _ (mgE 44 rfl))) (mvT hZ (hw _ (mgE 45 rfl))) (mvT hZ (hw _ (mgE 2 rfl))) (mvT hZ (hw _ (mgE 46 rfl))) (by decide) (backOf (W := 0) (rm6 l Z a0 hw [] p2 h0 n0 Z0 ) hZ (hw _ (mgE 46 rfl)) (hw _ (mgE 2 rfl)) (by decide) (by decide)) (g := (mkF m 7 #[.val (.long q1), .second, .val (.int p2)] [(.int p2)])) rfl (by rw [hml]; rfl) (argsL := [(.int p2)]) (rest := []) (lenOf pd__B_Z rfl) rfl (by show 2 * 0 + _ ≤ _; exact Nat.le_of_eq rfl) (hb hby d5_7) (fun _ _ => ⟨rfl, e0, (by decide : 0 + 0 ≤ _), (by decide : 0 + 0 ≤ _)⟩)
    dsimp only [Pt.U, Pt.locs, Pt.cells, Pt.slots] at X3 l3 y3 z3 st3 hQ3
    have ly3 := l3.symm; subst ly3 y3 z3
    obtain ⟨rfl, N3q, e3⟩ := hQ3
    have pre4 : ∀ t, Steps p.tables e below (T3.setTop (mkF m 10 #[.val (.long q1), .second, .val (.int p2)] [(.int (r6 p2))])) t → Steps p.tables e below (s₁.setTop (entryFrame m #[(.long q1), (.int p2)] 3)) t := fun t kt => pre2 t (st3 t kt)
    have N3 := Fr.app N0 N3q
    by_cases hc10 : (r6 p2) = (0 : Int32)
    · skip
      have pre5 : ∀ t, Steps p.tables e below (T3.setTop (mkF m 16 #[.val (.long q1), .second, .val (.int p2)] [(.long (-1 : Int64))])) t → Steps p.tables e below (s₁.setTop (entryFrame m #[(.long q1), (.int p2)] 3)) t := fun t kt => by
        refine pre4 t ?_
        refine XS.ifNo X3.here hx rfl (hb hby d5_10) rfl ((if0 _ _).trans (teq hc10).2) ?_
        show Steps p.tables e below (T3.setTop (mkF m 13 #[.val (.long q1), .second, .val (.int p2)] [])) _
        refine X3.ldc2Long hx hown (mvT hZ (hw _ (mgE 47 rfl))) (g := (mkF m 13 #[.val (.long q1), .second, .val (.int p2)] [])) rfl (hb hby d5_13) _ ?_
        show Steps p.tables e below (T3.setTop (mkF m 16 #[.val (.long q1), .second, .val (.int p2)] [(.long (-1 : Int64))])) _
        exact kt
      obtain ⟨fs, hr, hrun, hended, hW, hsame⟩ := X3.leave (v := some (.long (-1 : Int64))) (fun h => by rw [Bd.returns] at h; cases h) (BodyLoose.notSynchronized Bd)
      refine ⟨_, _, pre5 _ ?_, hrun, hended, _, _, rfl, ?_, ⟨_, rfl⟩, hW, hsame.mono (by decide) (by decide)⟩
      · exact retJ X3 hx Bd.returns (hb hby d5_16) hr
      · show Q5 Z q1 p2 h0 n0 _ T3.heap _
        rw [e3]
        exact ⟨by first | rfl | (simp only [r5, if_neg hc3, if_pos hc10]), N3, rfl⟩
    · skip
      have pre6 : ∀ t, Steps p.tables e below (T3.setTop (mkF m 28 #[.val (.long q1), .second, .val (.int p2)] [(.long ((q1 * (10 : Int64)) + ((p2 - (48 : Int32)).toInt64)))])) t → Steps p.tables e below (s₁.setTop (entryFrame m #[(.long q1), (.int p2)] 3)) t := fun t kt => by
        refine pre4 t ?_
        refine XS.ifYes X3.here hx rfl (pc0 := 10) (pc' := 17) rfl (hb hby d5_10) rfl ((if0 _ _).trans (feq hc10).2) (by decide) (by decide) ?_
        show Steps p.tables e below (T3.setTop (mkF m 17 #[.val (.long q1), .second, .val (.int p2)] [])) _
        refine XS.lloadN X3.here hx rfl (hb hby d5_17) rfl ?_
        show Steps p.tables e below (T3.setTop (mkF m 18 #[.val (.long q1), .second, .val (.int p2)] [(.long q1)])) _
        refine X3.ldc2Long hx hown (mvT hZ (hw _ (mgE 19 rfl))) (g := (mkF m 18 #[.val (.long q1), .second, .val (.int p2)] [(.long q1)])) rfl (hb hby d5_18) _ ?_
        show Steps p.tables e below (T3.setTop (mkF m 21 #[.val (.long q1), .second, .val (.int p2)] [(.long (10 : Int64)), (.long q1)])) _
        refine XS.lmul X3.here hx rfl (hb hby d5_21) rfl ?_
        show Steps p.tables e below (T3.setTop (mkF m 22 #[.val (.long q1), .second, .val (.int p2)] [(.long (q1 * (10 : Int64)))])) _
        refine XS.iloadN X3.here hx rfl (hb hby d5_22) rfl ?_
        show Steps p.tables e below (T3.setTop (mkF m 23 #[.val (.long q1), .second, .val (.int p2)] [(.int p2), (.long (q1 * (10 : Int64)))])) _
        refine XS.bipush X3.here hx rfl (hb hby d5_23) ?_
        show Steps p.tables e below (T3.setTop (mkF m 25 #[.val (.long q1), .second, .val (.int p2)] [(.int (48 : Int32)), (.int p2), (.long (q1 * (10 : Int64)))])) _
        refine XS.isub X3.here hx rfl (hb hby d5_25) rfl ?_
        show Steps p.tables e below (T3.setTop (mkF m 26 #[.val (.long q1), .second, .val (.int p2)] [(.int (p2 - (48 : Int32))), (.long (q1 * (10 : Int64)))])) _
        refine XS.i2l X3.here hx rfl (hb hby d5_26) rfl ?_
        show Steps p.tables e below (T3.setTop (mkF m 27 #[.val (.long q1), .second, .val (.int p2)] [(.long ((p2 - (48 : Int32)).toInt64)), (.long (q1 * (10 : Int64)))])) _
        refine XS.ladd X3.here hx rfl (hb hby d5_27) rfl ?_
        show Steps p.tables e below (T3.setTop (mkF m 28 #[.val (.long q1), .second, .val (.int p2)] [(.long ((q1 * (10 : Int64)) + ((p2 - (48 : Int32)).toInt64)))])) _
        exact kt
      obtain ⟨fs, hr, hrun, hended, hW, hsame⟩ := X3.leave (v := some (.long ((q1 * (10 : Int64)) + ((p2 - (48 : Int32)).toInt64)))) (fun h => by rw [Bd.returns] at h; cases h) (BodyLoose.notSynchronized Bd)
      refine ⟨_, _, pre6 _ ?_, hrun, hended, _, _, rfl, ?_, ⟨_, rfl⟩, hW, hsame.mono (by decide) (by decide)⟩
      · exact retJ X3 hx Bd.returns (hb hby d5_28) hr
      · show Q5 Z q1 p2 h0 n0 _ T3.heap _
        rw [e3]
        exact ⟨by first | rfl | (simp only [r5, if_neg hc3, if_neg hc10]), N3, rfl⟩
theorem own_r1n (x : Int32) : nar .byte (r1 x) = r1 x := by
  have key : ∀ y : Int32, nar .byte (nar .byte y) = nar .byte y := fun y => by
    show (y.toInt8.toInt32).toInt8.toInt32 = y.toInt8.toInt32
    rw [Int8.toInt8_toInt32]
  unfold r1
  split <;> exact key _
theorem own_byte (x : Int32) : -128 ≤ (r1 x).toInt ∧ (r1 x).toInt < 128 := by
  have a := c_i2b (r1 x)
  have e : (r1 x).toInt8.toInt32 = r1 x := own_r1n x
  rw [e] at a
  exact a.2
def okD (b : Int32) : Prop := ¬ (b < (48 : Int32)) ∧ ¬ ((57 : Int32) < b)
def accN : Nat → (Nat → Int32) → Nat → Int64 → Int64
  | 0, _, _, a => a
  | m + 1, f, i, a => accN m f (i + 1) (((a * (10 : Int64)) + ((f i).toInt64)) - (48 : Int64))
def okN : Nat → (Nat → Int32) → Nat → Prop
  | 0, _, _ => True
  | m + 1, f, i => okD (f i) ∧ okN m f (i + 1)
theorem own_dg (f : Nat → Int32) (n : Int32) : ∀ (m k : Nat) (i : Int32) (a : Int64), 0 ≤ i.toInt → (n.toInt - i.toInt).toNat = m → m < k → (okN m f i.toNatClampNeg → dg k f n i a = accN m f i.toNatClampNeg a) ∧ (¬ okN m f i.toNatClampNeg → dg k f n i a = (-1 : Int64)) := by
  intro m
  induction m with
  | zero =>
    intro k i a hi hm hk
    obtain ⟨k, rfl⟩ : ∃ k', k = k' + 1 := ⟨k - 1, by omega⟩
    have q : ¬ (i < n) := by rw [Int32.lt_iff_toInt_lt]; omega
    refine ⟨fun _ => ?_, fun w => absurd trivial w⟩
    simp only [dg, if_neg q, accN]
  | succ m ih =>
    intro k i a hi hm hk
    obtain ⟨k, rfl⟩ : ∃ k', k = k' + 1 := ⟨k - 1, by omega⟩
    have q : i < n := by rw [Int32.lt_iff_toInt_lt]; omega
    have e := own_nx i n hi q
    have e2 : (i + (1 : Int32)).toNatClampNeg = i.toNatClampNeg + 1 := by
      show (i + (1 : Int32)).toInt.toNat = i.toInt.toNat + 1
      omega
    have r := ih k (i + (1 : Int32)) (((a * (10 : Int64)) + ((f i.toNatClampNeg).toInt64)) - (48 : Int64)) (by omega) (by omega) (by omega)
    rw [e2] at r
    by_cases b1 : (f i.toNatClampNeg) < (48 : Int32)
    · refine ⟨fun w => absurd b1 w.1.1, fun _ => ?_⟩
      simp only [dg, if_pos q, if_pos b1]
    · by_cases b2 : (57 : Int32) < (f i.toNatClampNeg)
      · refine ⟨fun w => absurd b2 w.1.2, fun _ => ?_⟩
        simp only [dg, if_pos q, if_neg b1, if_pos b2]
      · simp only [dg, if_pos q, if_neg b1, if_neg b2]
        exact ⟨fun w => r.1 w.2, fun w => r.2 fun z => w ⟨⟨b1, b2⟩, z⟩⟩
theorem own_dgS (k : Nat) (f : Nat → Int32) (n i : Int32) (a : Int64) : dg (k + 1) f n i a = (if i < n then (if (f (i).toNatClampNeg) < (48 : Int32) then (-1 : Int64) else (if (57 : Int32) < (f (i).toNatClampNeg) then (-1 : Int64) else dg k f n (i + (1 : Int32)) (((a * (10 : Int64)) + ((f (i).toNatClampNeg).toInt64)) - (48 : Int64)))) else a) := by
  rw [dg]
theorem own_r2 (frm too : Int32) (f : Nat → Int32) : r2 frm too f = (if (18 : Int32) < (too - frm) then (-1 : Int64) else dg (20 + 1) f too frm (0 : Int64)) := by
  unfold r2
  rw [own_dgS 20 f too frm (0 : Int64)]
theorem own_split (f : Nat → Int32) : ∀ (m1 m2 i : Nat) (a : Int64), (okN (m1 + m2) f i ↔ okN m1 f i ∧ okN m2 f (i + m1)) ∧ accN (m1 + m2) f i a = accN m2 f (i + m1) (accN m1 f i a) := by
  intro m1
  induction m1 with
  | zero =>
    intro m2 i a
    rw [Nat.zero_add, Nat.add_zero]
    exact ⟨⟨fun w => ⟨trivial, w⟩, fun w => w.2⟩, rfl⟩
  | succ m1 ih =>
    intro m2 i a
    have r := ih m2 (i + 1) (((a * (10 : Int64)) + ((f i).toInt64)) - (48 : Int64))
    have e1 : m1 + 1 + m2 = (m1 + m2) + 1 := by omega
    have e2 : i + (m1 + 1) = i + 1 + m1 := by omega
    rw [e1, e2]
    constructor
    · show (okD (f i) ∧ okN (m1 + m2) f (i + 1)) ↔ (okD (f i) ∧ okN m1 f (i + 1)) ∧ okN m2 f (i + 1 + m1)
      rw [r.1]; exact and_assoc.symm
    · exact r.2
theorem own_all (f : Nat → Int32) : ∀ (m s : Nat), okN m f s ↔ ∀ i, s ≤ i → i < s + m → okD (f i) := by
  intro m
  induction m with
  | zero => intro s; exact ⟨fun _ i h1 h2 => absurd h2 (by omega), fun _ => trivial⟩
  | succ m ih =>
    intro s
    show (okD (f s) ∧ okN m f (s + 1)) ↔ _
    rw [ih (s + 1)]
    constructor
    · rintro ⟨a, w⟩ i h1 h2
      rcases Nat.eq_or_lt_of_le h1 with e | e
      · rw [← e]; exact a
      · exact w i e (by omega)
    · intro w
      exact ⟨w s (by omega) (by omega), fun i h1 h2 => w i (by omega) (by omega)⟩
def tenN : Nat → Int64
  | 0 => 1
  | m + 1 => tenN m * 10
def repN : Nat → Int64
  | 0 => 0
  | m + 1 => tenN m + repN m
theorem own_rep : ∀ n : Nat, n < 19 → (tenN n - (1 : Int64)) / (9 : Int64) = repN n := by decide +kernel
theorem own_p10n : ∀ n : Nat, n < 19 → p10 (Int32.ofNat n) = tenN n := by decide +kernel
theorem own_p10 (k : Int32) (n : Nat) (h : k.toInt = n) (hn : n < 19) : p10 k = tenN n := by
  have e : k = Int32.ofNat n := Int32.toInt_inj.mp (by rw [h, Int32.toInt_ofNat_of_lt (by omega)])
  rw [e]
  exact own_p10n n hn
theorem own_d (b : Int32) (h : -128 ≤ b.toInt ∧ b.toInt < 128) : ((b - (48 : Int32)).toInt64) = b.toInt64 - (48 : Int64) := by
  apply Int64.toInt_inj.mp
  have a := c_isub b (48 : Int32)
  have r := rng32 (b - (48 : Int32))
  have d := c_lsub b.toInt64 (48 : Int64)
  have r2 := rng64 (b.toInt64 - (48 : Int64))
  rw [c_i2l] at d ⊢
  rw [show (48 : Int32).toInt = 48 from by decide] at a
  rw [show (48 : Int64).toInt = 48 from by decide] at d
  omega
theorem own_okr (b : Int32) : r6 b = (0 : Int32) ↔ ¬ okD b := by
  unfold r6 okD
  by_cases q1 : b < (48 : Int32)
  · rw [if_pos q1]; exact ⟨fun _ w => w.1 q1, fun _ => rfl⟩
  · rw [if_neg q1]
    by_cases q2 : (57 : Int32) < b
    · rw [if_pos q2]; exact ⟨fun _ w => w.2 q2, fun _ => rfl⟩
    · rw [if_neg q2]; exact ⟨fun w => absurd w (by decide), fun w => absurd ⟨q1, q2⟩ w⟩
def JJ (f : Nat → Int32) (F N j : Nat) (B : Int) (v : Int64) : Prop := (okN (min N j - F) f F → v = accN (min N j - F) f F 0 ∧ 0 ≤ v.toInt ∧ v.toInt < B) ∧ (¬ okN (min N j - F) f F → v = (-1 : Int64))
theorem own_J0 (f : Nat → Int32) (F N : Nat) : JJ f F N 0 1 (0 : Int64) := by
  have e : min N 0 - F = 0 := by omega
  unfold JJ
  rw [e]
  exact ⟨fun _ => ⟨rfl, by decide, by decide⟩, fun w => absurd trivial w⟩
theorem own_asub (x y z : Int64) : x + (y - z) = x + y - z := by
  rw [Int64.sub_eq_add_neg, Int64.sub_eq_add_neg, Int64.add_assoc]
theorem own_J (f : Nat → Int32) (F N j : Nat) (B : Int) (hB : B ≤ 1000) (hB1 : 1 ≤ B) (frm too jj b : Int32) (hF : frm.toInt = F) (hN : too.toInt = N) (hj : jj.toInt = j) (hf : f j = b) (bd : -128 ≤ b.toInt ∧ b.toInt < 128) (v w : Int64) (h : JJ f F N j B v)
    (hw : w = (if jj < frm then v else (if jj < too then (r5 v b) else v))) : JJ f F N (j + 1) (10 * B) w := by
  by_cases q1 : jj < frm
  · rw [if_pos q1] at hw
    rw [Int32.lt_iff_toInt_lt] at q1
    have e : min N (j + 1) - F = min N j - F := by omega
    unfold JJ at h ⊢
    rw [e, hw]
    exact ⟨fun o => ⟨(h.1 o).1, (h.1 o).2.1, by have := (h.1 o).2; omega⟩, h.2⟩
  · rw [if_neg q1] at hw
    rw [Int32.lt_iff_toInt_lt] at q1
    by_cases q2 : jj < too
    · rw [if_pos q2] at hw
      rw [Int32.lt_iff_toInt_lt] at q2
      have e : min N (j + 1) - F = (min N j - F) + 1 := by omega
      have e2 : F + (min N j - F) = j := by omega
      obtain ⟨s1, s2⟩ := own_split f (min N j - F) 1 F 0
      rw [e2] at s1 s2
      unfold JJ at h ⊢
      rw [e, s1, s2, hw]
      have o1 : okN 1 f j ↔ okD b := by
        show (okD (f j) ∧ True) ↔ okD b
        rw [hf]; exact ⟨fun y => y.1, fun y => ⟨y, trivial⟩⟩
      rw [o1]
      have o2 : accN 1 f j (accN (min N j - F) f F 0) = (((accN (min N j - F) f F 0) * (10 : Int64)) + ((f j).toInt64)) - (48 : Int64) := rfl
      rw [o2]
      by_cases o : okN (min N j - F) f F
      · obtain ⟨g1, g2, g3⟩ := h.1 o
        have nl : ¬ (lcmpW v (0 : Int64)) < (0 : Int32) := by
          rw [lw_lt, Int64.lt_iff_toInt_lt, show (0 : Int64).toInt = 0 from by decide]; omega
        by_cases d : okD b
        · have z : ¬ r6 b = (0 : Int32) := fun y => (own_okr b).mp y d
          have er : r5 v b = (v * (10 : Int64)) + ((b - (48 : Int32)).toInt64) := by unfold r5; rw [if_neg nl, if_neg z]
          refine ⟨fun _ => ⟨?_, ?_⟩, fun y => absurd ⟨o, d⟩ y⟩
          · rw [er, own_d b bd, hf, ← g1, own_asub]
          · rw [er, own_d b bd]
            obtain ⟨d1, d2⟩ := d
            rw [Int32.lt_iff_toInt_lt, show (48 : Int32).toInt = 48 from by decide] at d1
            rw [Int32.lt_iff_toInt_lt, show (57 : Int32).toInt = 57 from by decide] at d2
            have m1 := c_lmul v (10 : Int64)
            have m2 := rng64 (v * (10 : Int64))
            have m3 := c_lsub b.toInt64 (48 : Int64)
            have m4 := rng64 (b.toInt64 - (48 : Int64))
            have m5 := c_ladd (v * (10 : Int64)) (b.toInt64 - (48 : Int64))
            have m6 := rng64 ((v * (10 : Int64)) + (b.toInt64 - (48 : Int64)))
            rw [c_i2l, show (48 : Int64).toInt = 48 from by decide] at m3
            rw [show (10 : Int64).toInt = 10 from by decide] at m1
            have x1 : (v * (10 : Int64)).toInt = v.toInt * 10 := by clear m3 m4 m5 m6; omega
            have x2 : (b.toInt64 - (48 : Int64)).toInt = b.toInt - 48 := by clear m1 m2 m5 m6 x1; omega
            have x3 : ((v * (10 : Int64)) + (b.toInt64 - (48 : Int64))).toInt = v.toInt * 10 + (b.toInt - 48) := by rw [x1, x2] at m5; clear m1 m2 m3 m4; omega
            rw [x3]
            clear m1 m2 m3 m4 m5 m6
            omega
        · have z : r6 b = (0 : Int32) := (own_okr b).mpr d
          refine ⟨fun y => absurd y.2 d, fun _ => ?_⟩
          unfold r5
          rw [if_neg nl, if_pos z]
      · have g := h.2 o
        have nl : (lcmpW v (0 : Int64)) < (0 : Int32) := by
          rw [lw_lt, g]; decide
        refine ⟨fun y => absurd y.1 o, fun _ => ?_⟩
        unfold r5
        rw [if_pos nl]
    · rw [if_neg q2] at hw
      rw [Int32.lt_iff_toInt_lt] at q2
      have e : min N (j + 1) - F = min N j - F := by omega
      unfold JJ at h ⊢
      rw [e, hw]
      exact ⟨fun o => ⟨(h.1 o).1, (h.1 o).2.1, by have := (h.1 o).2; omega⟩, h.2⟩
theorem own_ring1 (a T R t c : Int64) : (((a * (10 : Int64)) + c) - (48 : Int64)) * T + (t - (48 : Int64)) * R = a * (T * (10 : Int64)) + (t - (48 : Int64)) * (T + R) + ((c - (48 : Int64)) - (t - (48 : Int64))) * T := by grind
theorem own_ring2 (a T R t X : Int64) : (((a * (10 : Int64)) + t) - (48 : Int64)) * T + (t - (48 : Int64)) * R + X = a * (T * (10 : Int64)) + (t - (48 : Int64)) * (T + R) + X := by grind
theorem own_zero (x : Int64) : x + (0 : Int64) = x := Int64.add_zero x
theorem own_tail (f : Nat → Int32) (P : Nat) (t c : Int32) : ∀ (K s : Nat) (a : Int64), (∀ i, s ≤ i → i < s + K → f i = if i = P then c else t) →
    accN K f s a = a * tenN K + (t.toInt64 - (48 : Int64)) * repN K + (if s ≤ P ∧ P < s + K then ((c.toInt64 - (48 : Int64)) - (t.toInt64 - (48 : Int64))) * tenN (s + K - 1 - P) else (0 : Int64)) := by
  intro K
  induction K with
  | zero =>
    intro s a _
    rw [if_neg (by omega)]
    show a = a * (1 : Int64) + (t.toInt64 - (48 : Int64)) * (0 : Int64) + (0 : Int64)
    rw [Int64.mul_one, Int64.mul_zero, Int64.add_zero, Int64.add_zero]
  | succ K ih =>
    intro s a h
    have r := ih (s + 1) (((a * (10 : Int64)) + ((f s).toInt64)) - (48 : Int64)) (fun i h1 h2 => h i (by omega) (by omega))
    show accN K f (s + 1) (((a * (10 : Int64)) + ((f s).toInt64)) - (48 : Int64)) = a * (tenN K * (10 : Int64)) + (t.toInt64 - (48 : Int64)) * (tenN K + repN K) + _
    rw [r, h s (by omega) (by omega)]
    by_cases q : s = P
    · rw [if_pos q, if_neg (by omega), if_pos (by omega), own_zero, show s + (K + 1) - 1 - P = K from by omega]
      exact own_ring1 _ _ _ _ _
    · rw [if_neg q]
      by_cases z : s + 1 ≤ P ∧ P < s + 1 + K
      · rw [if_pos z, if_pos (by omega), show s + (K + 1) - 1 - P = s + 1 + K - 1 - P from by omega]
        exact own_ring2 _ _ _ _ _
      · rw [if_neg z, if_neg (by omega)]
        exact own_ring2 _ _ _ _ _
theorem own_nz21 (frm : Int32) (h : 0 ≤ frm.toInt ∧ frm.toInt ≤ 4) : ((21 : Int32) - frm) ≠ (0 : Int32) := by
  intro e
  have a := c_isub (21 : Int32) frm
  rw [e, show (21 : Int32).toInt = 21 from by decide, show (0 : Int32).toInt = 0 from by decide] at a
  omega
theorem own_pp (x z : Int32) (h : z = ((4 : Int32) + (((x.toUInt32 >>> ((18 : Int32) &&& 31).toUInt32).toInt32) % (16 : Int32)))) : 4 ≤ z.toInt ∧ z.toInt < 20 := by
  have a := c_iushr x (18 : Int32) 18 (by decide) (by decide)
  have d := (c_irem ((x.toUInt32 >>> ((18 : Int32) &&& 31).toUInt32).toInt32) (16 : Int32) 16 (by decide)).1 (by rw [a]; omega)
  have s := c_iadd (4 : Int32) (((x.toUInt32 >>> ((18 : Int32) &&& 31).toUInt32).toInt32) % (16 : Int32))
  have r := rng32 z
  rw [← h, show (4 : Int32).toInt = 4 from by decide] at s
  omega
theorem own_pp20 (z : Int32) (h : 4 ≤ z.toInt ∧ z.toInt < 20) : ¬ z < 0 ∧ z < (20 : Int32) := by
  rw [Int32.lt_iff_toInt_lt, Int32.lt_iff_toInt_lt, show (0 : Int32).toInt = 0 from by decide, show (20 : Int32).toInt = 20 from by decide]
  omega
theorem own_frm (x z : Int32) (h : z = ((x &&& (2147483647 : Int32)) % (5 : Int32))) : 0 ≤ z.toInt ∧ z.toInt ≤ 4 := by
  have a := c_and x (2147483647 : Int32) (by decide)
  have d := (c_irem (x &&& (2147483647 : Int32)) (5 : Int32) 5 (by decide)).1 a.1
  rw [← h] at d
  omega
theorem own_len (x frm z : Int32) (hf : 0 ≤ frm.toInt ∧ frm.toInt ≤ 4) (h : z = ((((x.toUInt32 >>> ((8 : Int32) &&& 31).toUInt32).toInt32) &&& (65535 : Int32)) % ((21 : Int32) - frm))) : 0 ≤ z.toInt ∧ z.toInt + frm.toInt ≤ 20 := by
  have a := c_and ((x.toUInt32 >>> ((8 : Int32) &&& 31).toUInt32).toInt32) (65535 : Int32) (by decide)
  have s := c_isub (21 : Int32) frm
  have r := rng32 ((21 : Int32) - frm)
  rw [show (21 : Int32).toInt = 21 from by decide] at s
  have d := (c_iremV (((x.toUInt32 >>> ((8 : Int32) &&& 31).toUInt32).toInt32) &&& (65535 : Int32)) ((21 : Int32) - frm)).1 a.1 (by omega)
  rw [← h] at d
  omega
theorem own_too (frm len z : Int32) (hf : 0 ≤ frm.toInt ∧ frm.toInt ≤ 4) (hl : 0 ≤ len.toInt ∧ len.toInt + frm.toInt ≤ 20) (h : z = frm + len) : z.toInt = frm.toInt + len.toInt ∧ z.toInt ≤ 20 := by
  have s := c_iadd frm len
  have r := rng32 z
  rw [← h] at s
  omega
theorem own_kk (too kk : Int32) (h0 : 0 ≤ too.toInt ∧ too.toInt ≤ 20) (h : kk = r3 (0 : Int32) (too - (4 : Int32))) : kk.toInt = (too.toInt.toNat - 4 : Nat) := by
  have s := c_isub too (4 : Int32)
  have r := rng32 (too - (4 : Int32))
  rw [show (4 : Int32).toInt = 4 from by decide] at s
  unfold r3 at h
  by_cases q : (0 : Int32) < (too - (4 : Int32))
  · rw [if_pos q] at h
    rw [Int32.lt_iff_toInt_lt, show (0 : Int32).toInt = 0 from by decide] at q
    rw [h]; omega
  · rw [if_neg q] at h
    rw [Int32.lt_iff_toInt_lt, show (0 : Int32).toInt = 0 from by decide] at q
    rw [h, show (0 : Int32).toInt = 0 from by decide]; omega
theorem own_k19 (too kk : Int32) (h0 : 0 ≤ too.toInt ∧ too.toInt ≤ 20) (h : kk = r3 (0 : Int32) (too - (4 : Int32))) : ¬ kk < 0 ∧ kk < (19 : Int32) := by
  have e := own_kk too kk h0 h
  rw [Int32.lt_iff_toInt_lt, Int32.lt_iff_toInt_lt, show (0 : Int32).toInt = 0 from by decide, show (19 : Int32).toInt = 19 from by decide]
  omega
theorem own_ex (ppp too : Int32) (hp : 4 ≤ ppp.toInt ∧ ppp.toInt < 20) (h0 : too.toInt ≤ 20) (h : ppp < too) : ((too - (1 : Int32)) - ppp).toInt = (too.toInt.toNat - 1 - ppp.toInt.toNat : Nat) := by
  rw [Int32.lt_iff_toInt_lt] at h
  have s := c_isub too (1 : Int32)
  have r := rng32 (too - (1 : Int32))
  have s2 := c_isub (too - (1 : Int32)) ppp
  have r2 := rng32 ((too - (1 : Int32)) - ppp)
  rw [show (1 : Int32).toInt = 1 from by decide] at s
  omega
theorem own_e19 (ppp too : Int32) (hp : 4 ≤ ppp.toInt ∧ ppp.toInt < 20) (h0 : too.toInt ≤ 20) (h : ppp < too) : ¬ ((too - (1 : Int32)) - ppp) < 0 ∧ ((too - (1 : Int32)) - ppp) < (19 : Int32) := by
  have e := own_ex ppp too hp h0 h
  rw [Int32.lt_iff_toInt_lt, Int32.lt_iff_toInt_lt, show (0 : Int32).toInt = 0 from by decide, show (19 : Int32).toInt = 19 from by decide]
  omega
theorem own_txt (b0 b1 b2 b3 t c ppp : Int32) (n0 : nar .byte b0 = b0) (n1 : nar .byte b1 = b1) (n2 : nar .byte b2 = b2) (n3 : nar .byte b3 = b3) (nt : nar .byte t = t) (nc : nar .byte c = c) (P : Nat) (hP : ppp.toInt = P) (h4 : 4 ≤ P) (h20 : P < 20) (f : Nat → Int32)
    (hf : f = (own_upd (own_upd (own_upd (own_upd (own_upd (own_upd (own_upd (own_upd (own_upd (own_upd (own_upd (own_upd (own_upd (own_upd (own_upd (own_upd (own_upd (own_upd (own_upd (own_upd (own_upd (fun _ => (0 : Int32)) ((0 : Int32)).toNatClampNeg (nar .byte b0)) ((1 : Int32)).toNatClampNeg (nar .byte b1)) ((2 : Int32)).toNatClampNeg (nar .byte b2)) ((3 : Int32)).toNatClampNeg (nar .byte b3)) ((4 : Int32)).toNatClampNeg (nar .byte t)) ((5 : Int32)).toNatClampNeg (nar .byte t)) ((6 : Int32)).toNatClampNeg (nar .byte t)) ((7 : Int32)).toNatClampNeg (nar .byte t)) ((8 : Int32)).toNatClampNeg (nar .byte t)) ((9 : Int32)).toNatClampNeg (nar .byte t)) ((10 : Int32)).toNatClampNeg (nar .byte t)) ((11 : Int32)).toNatClampNeg (nar .byte t)) ((12 : Int32)).toNatClampNeg (nar .byte t)) ((13 : Int32)).toNatClampNeg (nar .byte t)) ((14 : Int32)).toNatClampNeg (nar .byte t)) ((15 : Int32)).toNatClampNeg (nar .byte t)) ((16 : Int32)).toNatClampNeg (nar .byte t)) ((17 : Int32)).toNatClampNeg (nar .byte t)) ((18 : Int32)).toNatClampNeg (nar .byte t)) ((19 : Int32)).toNatClampNeg (nar .byte t)) (ppp).toNatClampNeg (nar .byte c))) : f 0 = b0 ∧ f 1 = b1 ∧ f 2 = b2 ∧ f 3 = b3 ∧ ∀ i, 4 ≤ i → i < 20 → f i = if i = P then c else t := by
  have e : ppp.toNatClampNeg = P := by show ppp.toInt.toNat = P; omega
  rw [n0, n1, n2, n3, nt, nc, e] at hf
  have hf2 : f = own_upd (own_upd (own_upd (own_upd (own_upd (own_upd (own_upd (own_upd (own_upd (own_upd (own_upd (own_upd (own_upd (own_upd (own_upd (own_upd (own_upd (own_upd (own_upd (own_upd (own_upd (fun _ => (0 : Int32)) 0 b0) 1 b1) 2 b2) 3 b3) 4 t) 5 t) 6 t) 7 t) 8 t) 9 t) 10 t) 11 t) 12 t) 13 t) 14 t) 15 t) 16 t) 17 t) 18 t) 19 t) P c := hf
  have key : ∀ i, i < 20 → (own_upd (own_upd (own_upd (own_upd (own_upd (own_upd (own_upd (own_upd (own_upd (own_upd (own_upd (own_upd (own_upd (own_upd (own_upd (own_upd (own_upd (own_upd (own_upd (own_upd (fun _ => (0 : Int32)) 0 b0) 1 b1) 2 b2) 3 b3) 4 t) 5 t) 6 t) 7 t) 8 t) 9 t) 10 t) 11 t) 12 t) 13 t) 14 t) 15 t) 16 t) 17 t) 18 t) 19 t) i = (if i = 0 then b0 else (if i = 1 then b1 else (if i = 2 then b2 else (if i = 3 then b3 else t)))) := fun i hi => by
    match i, hi with
    | 0, _ => exact rfl
    | 1, _ => exact rfl
    | 2, _ => exact rfl
    | 3, _ => exact rfl
    | 4, _ => exact rfl
    | 5, _ => exact rfl
    | 6, _ => exact rfl
    | 7, _ => exact rfl
    | 8, _ => exact rfl
    | 9, _ => exact rfl
    | 10, _ => exact rfl
    | 11, _ => exact rfl
    | 12, _ => exact rfl
    | 13, _ => exact rfl
    | 14, _ => exact rfl
    | 15, _ => exact rfl
    | 16, _ => exact rfl
    | 17, _ => exact rfl
    | 18, _ => exact rfl
    | 19, _ => exact rfl
    | n + 20, h => exact absurd h (by omega)
  rw [hf2]
  clear hf hf2
  refine ⟨?_, ?_, ?_, ?_, fun i h1 h2 => ?_⟩
  · rw [own_upd_ne _ _ (by omega)]; exact key 0 (by omega)
  · rw [own_upd_ne _ _ (by omega)]; exact key 1 (by omega)
  · rw [own_upd_ne _ _ (by omega)]; exact key 2 (by omega)
  · rw [own_upd_ne _ _ (by omega)]; exact key 3 (by omega)
  · by_cases q : i = P
    · rw [if_pos q, q, own_upd_same]
    · rw [if_neg q, own_upd_ne _ _ q, key i h2, if_neg (by omega), if_neg (by omega), if_neg (by omega), if_neg (by omega)]
section Law
variable (f : Nat → Int32) (frm len too ppp b0 b1 b2 b3 t c kk : Int32) (act v1 v2 v3 v4 : Int64)
def OwnIn : Prop := (0 ≤ frm.toInt ∧ frm.toInt ≤ 4) ∧ (0 ≤ len.toInt ∧ len.toInt + frm.toInt ≤ 20) ∧ (too.toInt = frm.toInt + len.toInt ∧ too.toInt ≤ 20) ∧ (4 ≤ ppp.toInt ∧ ppp.toInt < 20) ∧ too = frm + len
  ∧ (f 0 = b0 ∧ f 1 = b1 ∧ f 2 = b2 ∧ f 3 = b3 ∧ ∀ i, 4 ≤ i → i < 20 → f i = if i = ppp.toInt.toNat then c else t) ∧ act = r2 frm too f
  ∧ (-128 ≤ b0.toInt ∧ b0.toInt < 128) ∧ (-128 ≤ b1.toInt ∧ b1.toInt < 128) ∧ (-128 ≤ b2.toInt ∧ b2.toInt < 128) ∧ (-128 ≤ b3.toInt ∧ b3.toInt < 128) ∧ (-128 ≤ t.toInt ∧ t.toInt < 128) ∧ (-128 ≤ c.toInt ∧ c.toInt < 128)
def OwnH : Prop := v1 = (if (0 : Int32) < frm then (0 : Int64) else (if (0 : Int32) < too then (r5 (0 : Int64) b0) else (0 : Int64))) ∧ v2 = (if (1 : Int32) < frm then v1 else (if (1 : Int32) < too then (r5 v1 b1) else v1))
  ∧ v3 = (if (2 : Int32) < frm then v2 else (if (2 : Int32) < too then (r5 v2 b2) else v2)) ∧ v4 = (if (3 : Int32) < frm then v3 else (if (3 : Int32) < too then (r5 v3 b3) else v3))
theorem own_in (x0 x1 x2 x3 x4 x5 : Int32) (g0 : b0 = r1 x0) (g1 : b1 = r1 x1) (g2 : b2 = r1 x2) (g3 : b3 = r1 x3) (g4 : t = r1 x4) (g5 : c = r1 x5) (hfrm : 0 ≤ frm.toInt ∧ frm.toInt ≤ 4) (hlen : 0 ≤ len.toInt ∧ len.toInt + frm.toInt ≤ 20) (htoo : too.toInt = frm.toInt + len.toInt ∧ too.toInt ≤ 20) (hpp : 4 ≤ ppp.toInt ∧ ppp.toInt < 20) (h_too : too = frm + len)
    (h_txt : f = (own_upd (own_upd (own_upd (own_upd (own_upd (own_upd (own_upd (own_upd (own_upd (own_upd (own_upd (own_upd (own_upd (own_upd (own_upd (own_upd (own_upd (own_upd (own_upd (own_upd (own_upd (fun _ => (0 : Int32)) ((0 : Int32)).toNatClampNeg (nar .byte b0)) ((1 : Int32)).toNatClampNeg (nar .byte b1)) ((2 : Int32)).toNatClampNeg (nar .byte b2)) ((3 : Int32)).toNatClampNeg (nar .byte b3)) ((4 : Int32)).toNatClampNeg (nar .byte t)) ((5 : Int32)).toNatClampNeg (nar .byte t)) ((6 : Int32)).toNatClampNeg (nar .byte t)) ((7 : Int32)).toNatClampNeg (nar .byte t)) ((8 : Int32)).toNatClampNeg (nar .byte t)) ((9 : Int32)).toNatClampNeg (nar .byte t)) ((10 : Int32)).toNatClampNeg (nar .byte t)) ((11 : Int32)).toNatClampNeg (nar .byte t)) ((12 : Int32)).toNatClampNeg (nar .byte t)) ((13 : Int32)).toNatClampNeg (nar .byte t)) ((14 : Int32)).toNatClampNeg (nar .byte t)) ((15 : Int32)).toNatClampNeg (nar .byte t)) ((16 : Int32)).toNatClampNeg (nar .byte t)) ((17 : Int32)).toNatClampNeg (nar .byte t)) ((18 : Int32)).toNatClampNeg (nar .byte t)) ((19 : Int32)).toNatClampNeg (nar .byte t)) (ppp).toNatClampNeg (nar .byte c))) (h_act : act = r2 frm too f) : OwnIn f frm len too ppp b0 b1 b2 b3 t c act := by
  have u0 : nar .byte b0 = b0 := by rw [g0]; exact own_r1n _
  have u1 : nar .byte b1 = b1 := by rw [g1]; exact own_r1n _
  have u2 : nar .byte b2 = b2 := by rw [g2]; exact own_r1n _
  have u3 : nar .byte b3 = b3 := by rw [g3]; exact own_r1n _
  have u4 : nar .byte t = t := by rw [g4]; exact own_r1n _
  have u5 : nar .byte c = c := by rw [g5]; exact own_r1n _
  have v0 : -128 ≤ b0.toInt ∧ b0.toInt < 128 := by rw [g0]; exact own_byte _
  have v1 : -128 ≤ b1.toInt ∧ b1.toInt < 128 := by rw [g1]; exact own_byte _
  have v2 : -128 ≤ b2.toInt ∧ b2.toInt < 128 := by rw [g2]; exact own_byte _
  have v3 : -128 ≤ b3.toInt ∧ b3.toInt < 128 := by rw [g3]; exact own_byte _
  have v4 : -128 ≤ t.toInt ∧ t.toInt < 128 := by rw [g4]; exact own_byte _
  have v5 : -128 ≤ c.toInt ∧ c.toInt < 128 := by rw [g5]; exact own_byte _
  exact ⟨hfrm, hlen, htoo, hpp, h_too, own_txt b0 b1 b2 b3 t c ppp u0 u1 u2 u3 u4 u5 ppp.toInt.toNat (by omega) (by omega) (by omega) f h_txt, h_act, v0, v1, v2, v3, v4, v5⟩
theorem own_t0 (frm len too : Int32) (hfrm : 0 ≤ frm.toInt ∧ frm.toInt ≤ 4) (hlen : 0 ≤ len.toInt ∧ len.toInt + frm.toInt ≤ 20) (htoo : too.toInt = frm.toInt + len.toInt ∧ too.toInt ≤ 20) : 0 ≤ too.toInt ∧ too.toInt ≤ 20 := by omega
theorem own_len2 (hI : OwnIn f frm len too ppp b0 b1 b2 b3 t c act) : too - frm = len := by
  obtain ⟨i1, i2, i3, i4, i5, i6, i7, -⟩ := hI
  apply Int32.toInt_inj.mp
  have s := c_isub too frm
  have r := rng32 (too - frm)
  omega
theorem own_long (hI : OwnIn f frm len too ppp b0 b1 b2 b3 t c act) (h : (18 : Int32) < len) : (lcmpW act (-1 : Int64)) = (0 : Int32) := by
  have e := own_len2 f frm len too ppp b0 b1 b2 b3 t c act hI
  obtain ⟨i1, i2, i3, i4, i5, i6, i7, -⟩ := hI
  rw [lw_eq, i7, own_r2, e, if_pos h]
theorem own_short (hI : OwnIn f frm len too ppp b0 b1 b2 b3 t c act) (h : ¬ (18 : Int32) < len) :
    (okN (too.toInt.toNat - frm.toInt.toNat) f frm.toInt.toNat → act = accN (too.toInt.toNat - frm.toInt.toNat) f frm.toInt.toNat 0) ∧ (¬ okN (too.toInt.toNat - frm.toInt.toNat) f frm.toInt.toNat → act = (-1 : Int64)) := by
  have e := own_len2 f frm len too ppp b0 b1 b2 b3 t c act hI
  obtain ⟨i1, i2, i3, i4, i5, i6, i7, -⟩ := hI
  rw [i7, own_r2, e, if_neg h]
  exact own_dg f too (too.toInt.toNat - frm.toInt.toNat) (20 + 1) frm 0 (by omega) (by omega) (by omega)
theorem own_head (hI : OwnIn f frm len too ppp b0 b1 b2 b3 t c act) (hH : OwnH frm too b0 b1 b2 b3 v1 v2 v3 v4) : JJ f frm.toInt.toNat too.toInt.toNat 4 10000 v4 := by
  obtain ⟨i1, i2, i3, i4, i5, ⟨f0, f1, f2, f3, -⟩, i7, d0, d1, d2, d3, -, -⟩ := hI
  obtain ⟨w1, w2, w3, w4⟩ := hH
  have hF : frm.toInt = (frm.toInt.toNat : Int) := by omega
  have hN : too.toInt = (too.toInt.toNat : Int) := by omega
  have j1 := own_J f frm.toInt.toNat too.toInt.toNat 0 1 (by decide) (by decide) frm too (0 : Int32) b0 hF hN (by decide) f0 d0 _ v1 (own_J0 f _ _) w1
  have j2 := own_J f frm.toInt.toNat too.toInt.toNat 1 (10 * 1) (by decide) (by decide) frm too (1 : Int32) b1 hF hN (by decide) f1 d1 _ v2 j1 w2
  have j3 := own_J f frm.toInt.toNat too.toInt.toNat 2 (10 * (10 * 1)) (by decide) (by decide) frm too (2 : Int32) b2 hF hN (by decide) f2 d2 _ v3 j2 w3
  exact own_J f frm.toInt.toNat too.toInt.toNat 3 (10 * (10 * (10 * 1))) (by decide) (by decide) frm too (3 : Int32) b3 hF hN (by decide) f3 d3 _ v4 j3 w4
theorem own_cut (hI : OwnIn f frm len too ppp b0 b1 b2 b3 t c act) : (okN (too.toInt.toNat - frm.toInt.toNat) f frm.toInt.toNat ↔ okN (min too.toInt.toNat 4 - frm.toInt.toNat) f frm.toInt.toNat ∧ okN (too.toInt.toNat - 4) f 4)
    ∧ accN (too.toInt.toNat - frm.toInt.toNat) f frm.toInt.toNat 0 = accN (too.toInt.toNat - 4) f 4 (accN (min too.toInt.toNat 4 - frm.toInt.toNat) f frm.toInt.toNat 0) := by
  obtain ⟨i1, i2, i3, i4, i5, -⟩ := hI
  have e : too.toInt.toNat - frm.toInt.toNat = (min too.toInt.toNat 4 - frm.toInt.toNat) + (too.toInt.toNat - 4) := by omega
  obtain ⟨s1, s2⟩ := own_split f (min too.toInt.toNat 4 - frm.toInt.toNat) (too.toInt.toNat - 4) frm.toInt.toNat 0
  rw [e, s1, s2]
  rcases Nat.eq_zero_or_pos (too.toInt.toNat - 4) with z | z
  · rw [z]
    exact ⟨Iff.rfl, rfl⟩
  · rw [show frm.toInt.toNat + (min too.toInt.toNat 4 - frm.toInt.toNat) = 4 from by omega]
    exact ⟨Iff.rfl, rfl⟩
theorem own_neg (hI : OwnIn f frm len too ppp b0 b1 b2 b3 t c act) (hH : OwnH frm too b0 b1 b2 b3 v1 v2 v3 v4) (h : ¬ (18 : Int32) < len) (hv : (lcmpW v4 (0 : Int64)) < (0 : Int32)) : (lcmpW act (-1 : Int64)) = (0 : Int32) := by
  have s := own_short f frm len too ppp b0 b1 b2 b3 t c act hI h
  have u := own_cut f frm len too ppp b0 b1 b2 b3 t c act hI
  have w := own_head f frm len too ppp b0 b1 b2 b3 t c act v1 v2 v3 v4 hI hH
  rw [lw_lt, Int64.lt_iff_toInt_lt, show (0 : Int64).toInt = 0 from by decide] at hv
  rw [lw_eq]
  refine s.2 fun o => ?_
  have := w.1 (u.1.mp o).1
  omega
theorem own_bad (hI : OwnIn f frm len too ppp b0 b1 b2 b3 t c act) (h : ¬ (18 : Int32) < len) (i : Nat) (h4 : 4 ≤ i) (hN : (i : Int) < too.toInt) (hb2 : ¬ okD (f i)) : (lcmpW act (-1 : Int64)) = (0 : Int32) := by
  have s := own_short f frm len too ppp b0 b1 b2 b3 t c act hI h
  have u := own_cut f frm len too ppp b0 b1 b2 b3 t c act hI
  rw [lw_eq]
  refine s.2 fun o => hb2 ?_
  exact (own_all f _ _).mp (u.1.mp o).2 i h4 (by omega)
theorem own_badc (hI : OwnIn f frm len too ppp b0 b1 b2 b3 t c act) (h : ¬ (18 : Int32) < len) (hp : ppp < too) (hc : (r6 c) = (0 : Int32)) : (lcmpW act (-1 : Int64)) = (0 : Int32) := by
  have hI2 := hI
  obtain ⟨i1, i2, i3, i4, i5, ⟨-, -, -, -, g⟩, -⟩ := hI2
  rw [Int32.lt_iff_toInt_lt] at hp
  refine own_bad f frm len too ppp b0 b1 b2 b3 t c act hI h ppp.toInt.toNat (by omega) (by omega) ?_
  rw [g _ (by omega) (by omega), if_pos rfl]
  exact (own_okr c).mp hc
theorem own_badt (hI : OwnIn f frm len too ppp b0 b1 b2 b3 t c act) (h : ¬ (18 : Int32) < len) (hk : kk = r3 (0 : Int32) (too - (4 : Int32))) (hp : ¬ ppp < too) (hq : (0 : Int32) < kk) (hc : (r6 t) = (0 : Int32)) : (lcmpW act (-1 : Int64)) = (0 : Int32) := by
  have hI2 := hI
  obtain ⟨i1, i2, i3, i4, i5, ⟨-, -, -, -, g⟩, -⟩ := hI2
  have e := own_kk too kk (by omega) hk
  rw [Int32.lt_iff_toInt_lt] at hp
  rw [Int32.lt_iff_toInt_lt, show (0 : Int32).toInt = 0 from by decide] at hq
  refine own_bad f frm len too ppp b0 b1 b2 b3 t c act hI h 4 (by omega) (by omega) ?_
  rw [g _ (by omega) (by omega), if_neg (by omega)]
  exact (own_okr t).mp hc
theorem own_badu (hI : OwnIn f frm len too ppp b0 b1 b2 b3 t c act) (h : ¬ (18 : Int32) < len) (hk : kk = r3 (0 : Int32) (too - (4 : Int32))) (hp : ppp < too) (hq : (0 : Int32) < (kk - (1 : Int32))) (hc : (r6 t) = (0 : Int32)) : (lcmpW act (-1 : Int64)) = (0 : Int32) := by
  have hI2 := hI
  obtain ⟨i1, i2, i3, i4, i5, ⟨-, -, -, -, g⟩, -⟩ := hI2
  have e := own_kk too kk (by omega) hk
  have s := c_isub kk (1 : Int32)
  have r := rng32 (kk - (1 : Int32))
  rw [show (1 : Int32).toInt = 1 from by decide] at s
  rw [Int32.lt_iff_toInt_lt] at hp
  rw [Int32.lt_iff_toInt_lt, show (0 : Int32).toInt = 0 from by decide] at hq
  by_cases z : ppp.toInt.toNat = 4
  · refine own_bad f frm len too ppp b0 b1 b2 b3 t c act hI h 5 (by omega) (by omega) ?_
    rw [g _ (by omega) (by omega), if_neg (by omega)]
    exact (own_okr t).mp hc
  · refine own_bad f frm len too ppp b0 b1 b2 b3 t c act hI h 4 (by omega) (by omega) ?_
    rw [g _ (by omega) (by omega), if_neg (by omega)]
    exact (own_okr t).mp hc
theorem own_good (hI : OwnIn f frm len too ppp b0 b1 b2 b3 t c act) (hH : OwnH frm too b0 b1 b2 b3 v1 v2 v3 v4) (h : ¬ (18 : Int32) < len) (hk : kk = r3 (0 : Int32) (too - (4 : Int32))) (hv : ¬ (lcmpW v4 (0 : Int64)) < (0 : Int32))
    (hok : ∀ i : Nat, 4 ≤ i → (i : Int) < too.toInt → okD (f i)) : act = v4 * (p10 kk) + ((t - (48 : Int32)).toInt64) * (((p10 kk) - (1 : Int64)) / (9 : Int64)) + (if ppp < too then (((c - (48 : Int32)).toInt64) - ((t - (48 : Int32)).toInt64)) * (p10 ((too - (1 : Int32)) - ppp)) else (0 : Int64)) := by
  have s := own_short f frm len too ppp b0 b1 b2 b3 t c act hI h
  have u := own_cut f frm len too ppp b0 b1 b2 b3 t c act hI
  have w := own_head f frm len too ppp b0 b1 b2 b3 t c act v1 v2 v3 v4 hI hH
  obtain ⟨i1, i2, i3, i4, i5, ⟨-, -, -, -, g⟩, -, -, -, -, -, dt, dc⟩ := hI
  have ek := own_kk too kk (by omega) hk
  have o4 : okN (too.toInt.toNat - 4) f 4 := (own_all f _ _).mpr fun i h1 h2 => hok i h1 (by omega)
  have oh : okN (min too.toInt.toNat 4 - frm.toInt.toNat) f frm.toInt.toNat := Classical.byContradiction fun y => hv (by rw [w.2 y]; decide)
  have ea := s.1 (u.1.mpr ⟨oh, o4⟩)
  rw [u.2, ← (w.1 oh).1, own_tail f ppp.toInt.toNat t c (too.toInt.toNat - 4) 4 v4 (fun i h1 h2 => g i h1 (by omega))] at ea
  rw [ea, own_p10 kk (too.toInt.toNat - 4) ek (by omega), own_rep _ (by omega), own_d t dt, own_d c dc]
  congr 1
  by_cases q : ppp < too
  · have ex := own_ex ppp too i4 i3.2 q
    rw [if_pos q]
    rw [Int32.lt_iff_toInt_lt] at q
    rw [if_pos (by omega), own_p10 _ _ ex (by omega), show 4 + (too.toInt.toNat - 4) - 1 - ppp.toInt.toNat = too.toInt.toNat - 1 - ppp.toInt.toNat from by omega]
  · rw [if_neg q]
    rw [Int32.lt_iff_toInt_lt] at q
    rw [if_neg (by omega)]
theorem own_good1 (hI : OwnIn f frm len too ppp b0 b1 b2 b3 t c act) (hH : OwnH frm too b0 b1 b2 b3 v1 v2 v3 v4) (h : ¬ (18 : Int32) < len) (hk : kk = r3 (0 : Int32) (too - (4 : Int32))) (hv : ¬ (lcmpW v4 (0 : Int64)) < (0 : Int32)) (pk : Int64) (hpk : pk = p10 kk)
    (hp : ppp < too) (hc : ¬ (r6 c) = (0 : Int32)) (ht : (0 : Int32) < (kk - (1 : Int32)) → ¬ (r6 t) = (0 : Int32)) : (lcmpW act (((v4 * pk) + (((t - (48 : Int32)).toInt64) * ((pk - (1 : Int64)) / (9 : Int64)))) + ((((c - (48 : Int32)).toInt64) - ((t - (48 : Int32)).toInt64)) * (p10 ((too - (1 : Int32)) - ppp))))) = (0 : Int32) := by
  have w := own_good f frm len too ppp b0 b1 b2 b3 t c kk act v1 v2 v3 v4 hI hH h hk hv
  obtain ⟨i1, i2, i3, i4, i5, ⟨-, -, -, -, g⟩, -⟩ := hI
  rw [if_pos hp] at w
  have e := own_kk too kk (by omega) hk
  have s := c_isub kk (1 : Int32)
  have r := rng32 (kk - (1 : Int32))
  rw [show (1 : Int32).toInt = 1 from by decide] at s
  rw [Int32.lt_iff_toInt_lt] at hp
  rw [lw_eq, hpk]
  refine w fun i h1 h2 => ?_
  rw [g i h1 (by omega)]
  by_cases z : i = ppp.toInt.toNat
  · rw [if_pos z]
    exact Classical.byContradiction fun y => hc ((own_okr c).mpr y)
  · rw [if_neg z]
    refine Classical.byContradiction fun y => ht ?_ ((own_okr t).mpr y)
    rw [Int32.lt_iff_toInt_lt, show (0 : Int32).toInt = 0 from by decide]
    omega
theorem own_good0 (hI : OwnIn f frm len too ppp b0 b1 b2 b3 t c act) (hH : OwnH frm too b0 b1 b2 b3 v1 v2 v3 v4) (h : ¬ (18 : Int32) < len) (hk : kk = r3 (0 : Int32) (too - (4 : Int32))) (hv : ¬ (lcmpW v4 (0 : Int64)) < (0 : Int32)) (pk : Int64) (hpk : pk = p10 kk)
    (hp : ¬ ppp < too) (ht : (0 : Int32) < kk → ¬ (r6 t) = (0 : Int32)) : (lcmpW act (((v4 * pk) + (((t - (48 : Int32)).toInt64) * ((pk - (1 : Int64)) / (9 : Int64)))) + (0 : Int64))) = (0 : Int32) := by
  have w := own_good f frm len too ppp b0 b1 b2 b3 t c kk act v1 v2 v3 v4 hI hH h hk hv
  obtain ⟨i1, i2, i3, i4, i5, ⟨-, -, -, -, g⟩, -⟩ := hI
  rw [if_neg hp] at w
  have e := own_kk too kk (by omega) hk
  rw [Int32.lt_iff_toInt_lt] at hp
  rw [lw_eq, hpk]
  refine w fun i h1 h2 => ?_
  rw [g i h1 (by omega)]
  by_cases z : i = ppp.toInt.toNat
  · omega
  · rw [if_neg z]
    refine Classical.byContradiction fun y => ht ?_ ((own_okr t).mpr y)
    rw [Int32.lt_iff_toInt_lt, show (0 : Int32).toInt = 0 from by decide]
    omega
end Law

theorem pd__I_B : parseMethodDescriptor "(I)B" = some ⟨[.int], some .byte⟩ := by decide +kernel
theorem pd___BII_J : parseMethodDescriptor "([BII)J" = some ⟨[(.array .byte), .int, .int], some .long⟩ := by decide +kernel
theorem pd__JB_J : parseMethodDescriptor "(JB)J" = some ⟨[.long, .byte], some .long⟩ := by decide +kernel
theorem pd__II_I : parseMethodDescriptor "(II)I" = some ⟨[.int, .int], some .int⟩ := by decide +kernel
theorem pd__I_J : parseMethodDescriptor "(I)J" = some ⟨[.int], some .long⟩ := by decide +kernel
theorem ef_0 (m : MethodId) (x0 : Int32) (x1 : Int32) (x2 : Int32) (x3 : Int32) : entryFrame m #[(.int x0), (.int x1), (.int x2), (.int x3)] maxLocals = mkF m 0 #[.val (.int x0), .val (.int x1), .val (.int x2), .val (.int x3), .unset, .unset, .unset, .unset, .unset, .unset, .unset, .unset, .unset, .unset, .unset, .unset, .unset, .unset, .unset, .unset, .unset, .unset, .unset, .unset, .unset, .unset, .unset, .unset, .unset, .unset] [] := by first | (simp [entryFrame, mkF, argsToLocals, Value.category, maxLocals]; done) | rfl
def Q0 (Z : State) (p1 : Int32) (p2 : Int32) (p3 : Int32) (p4 : Int32) (h0 : Heap) (n0 : Nat) (v : Option Value) (h : Heap) (L : List Loc) : Prop := v = some (.int 1) ∧ Fr n0 L
set_option maxRecDepth 65536 in
set_option maxHeartbeats 40000000 in
theorem rm0 (l : Launch) (Z : State) (a0 : Array Value) (hw : ∀ d ∈ tables_1, d.before a0 Z = true) (ws : List Jvm.Cond) (p1 : Int32) (p2 : Int32) (p3 : Int32) (p4 : Int32) (h0 : Heap) (n0 : Nat) (Z0 : n0 ≤ h0.size)  :
    MetFree l x (head1 (Jvm.Cond.code x code maxLocals ret :: ws) room_1) (fun a U => a = #[(.int p1), (.int p2), (.int p3), (.int p4)] ∧ Z.Warmed39 U.vm ∧ U.heap = h0) (fun _ _ _ _ _ => True) (fun _ U o U' => ∃ v L, o = .returned v ∧ Q0 Z p1 p2 p3 p4 h0 n0 v U'.heap L ∧ FrameEnd U o U' L room_1.cells room_1.slots) := by
  refine MetFree.of_bodySF (plainFor_of_name pn_com_example_entgelt_entgelt_io_FieldFormsDigitsPinLaw) hisR ?_
  intro p e s m args below meth c s₁ Bd hml0 hP hK
  obtain ⟨rfl, hZ, hh⟩ := hP
  have hx := Bd.exec
  have hby := Bd.bytes
  have hml : c.maxLocals = 30 := hml0
  have hown : s.vm.findClass "com/example/entgelt/entgelt/io/FieldFormsDigitsPinLaw" = some m.cls := findClass_of_methodNamed Bd.named
  have hnm := (name_of_methodNamed Bd.named Bd.method).1
  have X0 : Stand p l e room_1 s m #[(.int p1), (.int p2), (.int p3), (.int p4)] below meth c s₁ [] 0 0 := Stand.of_body Bd
  have e0 : s₁.heap = h0 := by rw [← hh, Bd.state]; rfl
  have N0 := Fr.nil n0
  have pre0 : ∀ t, Steps p.tables e below (s₁.setTop (mkF m 0 #[.val (.int p1), .val (.int p2), .val (.int p3), .val (.int p4), .unset, .unset, .unset, .unset, .unset, .unset, .unset, .unset, .unset, .unset, .unset, .unset, .unset, .unset, .unset, .unset, .unset, .unset, .unset, .unset, .unset, .unset, .unset, .unset, .unset, .unset] [])) t → Steps p.tables e below (s₁.setTop (entryFrame m #[(.int p1), (.int p2), (.int p3), (.int p4)] maxLocals)) t := fun t k => castTop (ef_0 m p1 p2 p3 p4) k
  have pre1 : ∀ t, Steps p.tables e below (s₁.setTop (mkF m 1 #[.val (.int p1), .val (.int p2), .val (.int p3), .val (.int p4), .unset, .unset, .unset, .unset, .unset, .unset, .unset, .unset, .unset, .unset, .unset, .unset, .unset, .unset, .unset, .unset, .unset, .unset, .unset, .unset, .unset, .unset, .unset, .unset, .unset, .unset] [(.int p1)])) t → Steps p.tables e below (s₁.setTop (entryFrame m #[(.int p1), (.int p2), (.int p3), (.int p4)] maxLocals)) t := fun t kt => by
    refine pre0 t ?_
    refine XS.iloadN X0.here hx rfl (hb hby at_0) rfl ?_
    show Steps p.tables e below (s₁.setTop (mkF m 1 #[.val (.int p1), .val (.int p2), .val (.int p3), .val (.int p4), .unset, .unset, .unset, .unset, .unset, .unset, .unset, .unset, .unset, .unset, .unset, .unset, .unset, .unset, .unset, .unset, .unset, .unset, .unset, .unset, .unset, .unset, .unset, .unset, .unset, .unset] [(.int p1)])) _
    exact kt
  obtain ⟨_, _, ⟨T2, L2, k2, n2⟩, -, X2, ⟨Lc2, hQ2, l2, y2, z2⟩, st2⟩ := Jvm.LawKit.callS X0 hx (y := (⟨"com/example/entgelt/entgelt/io/FieldFormsDigitsPinLaw", "draw", "(I)B"⟩ : MethodName)) hown (mvT hZ (hw _ (mgE 0 rfl))) (mvT hZ (hw _ (mgE 1 rfl))) (mvT hZ (hw _ (mgE 2 rfl))) (mvT hZ (hw _ (mgE 3 rfl))) (by decide) (backOf (W := 0) (rm1 l Z a0 hw [] p1 h0 n0 Z0 ) hZ (hw _ (mgE 3 rfl)) (hw _ (mgE 2 rfl)) (by decide) (by decide)) (g := (mkF m 1 #[.val (.int p1), .val (.int p2), .val (.int p3), .val (.int p4), .unset, .unset, .unset, .unset, .unset, .unset, .unset, .unset, .unset, .unset, .unset, .unset, .unset, .unset, .unset, .unset, .unset, .unset, .unset, .unset, .unset, .unset, .unset, .unset, .unset, .unset] [(.int p1)])) rfl (by rw [hml]; rfl) (argsL := [(.int p1)]) (rest := []) (lenOf pd__I_B rfl) rfl (by show 2 * 0 + _ ≤ _; exact Nat.le_of_eq rfl) (hb hby at_1) (fun _ _ => ⟨rfl, e0, (by decide : 0 + 0 ≤ _), (by decide : 0 + 0 ≤ _)⟩)
  dsimp only [Pt.U, Pt.locs, Pt.cells, Pt.slots] at X2 l2 y2 z2 st2 hQ2
  have ly2 := l2.symm; subst ly2 y2 z2
  obtain ⟨rfl, N2q, e2⟩ := hQ2
  have pre3 : ∀ t, Steps p.tables e below (T2.setTop (mkF m 4 #[.val (.int p1), .val (.int p2), .val (.int p3), .val (.int p4), .unset, .unset, .unset, .unset, .unset, .unset, .unset, .unset, .unset, .unset, .unset, .unset, .unset, .unset, .unset, .unset, .unset, .unset, .unset, .unset, .unset, .unset, .unset, .unset, .unset, .unset] [(.int (r1 p1))])) t → Steps p.tables e below (s₁.setTop (entryFrame m #[(.int p1), (.int p2), (.int p3), (.int p4)] maxLocals)) t := fun t kt => pre1 t (st2 t kt)
  have N2 := Fr.app N0 N2q
  have pre4 : ∀ t, Steps p.tables e below (T2.setTop (mkF m 6 #[.val (.int p1), .val (.int p2), .val (.int p3), .val (.int p4), .val (.int (r1 p1)), .unset, .unset, .unset, .unset, .unset, .unset, .unset, .unset, .unset, .unset, .unset, .unset, .unset, .unset, .unset, .unset, .unset, .unset, .unset, .unset, .unset, .unset, .unset, .unset, .unset] [])) t → Steps p.tables e below (s₁.setTop (entryFrame m #[(.int p1), (.int p2), (.int p3), (.int p4)] maxLocals)) t := fun t kt => by
    refine pre3 t ?_
    refine XS.istore X2.here hx rfl (hb hby at_4) rfl (l' := #[.val (.int p1), .val (.int p2), .val (.int p3), .val (.int p4), .val (.int (r1 p1)), .unset, .unset, .unset, .unset, .unset, .unset, .unset, .unset, .unset, .unset, .unset, .unset, .unset, .unset, .unset, .unset, .unset, .unset, .unset, .unset, .unset, .unset, .unset, .unset, .unset]) rfl ?_
    show Steps p.tables e below (T2.setTop (mkF m 6 #[.val (.int p1), .val (.int p2), .val (.int p3), .val (.int p4), .val (.int (r1 p1)), .unset, .unset, .unset, .unset, .unset, .unset, .unset, .unset, .unset, .unset, .unset, .unset, .unset, .unset, .unset, .unset, .unset, .unset, .unset, .unset, .unset, .unset, .unset, .unset, .unset] [])) _
    exact kt
  obtain ⟨db0, h_db0⟩ : ∃ z, z = (r1 p1) := ⟨_, rfl⟩
  rw [← h_db0] at pre4
  have pre5 : ∀ t, Steps p.tables e below (T2.setTop (mkF m 10 #[.val (.int p1), .val (.int p2), .val (.int p3), .val (.int p4), .val (.int db0), .unset, .unset, .unset, .unset, .unset, .unset, .unset, .unset, .unset, .unset, .unset, .unset, .unset, .unset, .unset, .unset, .unset, .unset, .unset, .unset, .unset, .unset, .unset, .unset, .unset] [(.int ((p1.toUInt32 >>> ((9 : Int32) &&& 31).toUInt32).toInt32))])) t → Steps p.tables e below (s₁.setTop (entryFrame m #[(.int p1), (.int p2), (.int p3), (.int p4)] maxLocals)) t := fun t kt => by
    refine pre4 t ?_
    refine XS.iloadN X2.here hx rfl (hb hby at_6) rfl ?_
    show Steps p.tables e below (T2.setTop (mkF m 7 #[.val (.int p1), .val (.int p2), .val (.int p3), .val (.int p4), .val (.int db0), .unset, .unset, .unset, .unset, .unset, .unset, .unset, .unset, .unset, .unset, .unset, .unset, .unset, .unset, .unset, .unset, .unset, .unset, .unset, .unset, .unset, .unset, .unset, .unset, .unset] [(.int p1)])) _
    refine XS.bipush X2.here hx rfl (hb hby at_7) ?_
    show Steps p.tables e below (T2.setTop (mkF m 9 #[.val (.int p1), .val (.int p2), .val (.int p3), .val (.int p4), .val (.int db0), .unset, .unset, .unset, .unset, .unset, .unset, .unset, .unset, .unset, .unset, .unset, .unset, .unset, .unset, .unset, .unset, .unset, .unset, .unset, .unset, .unset, .unset, .unset, .unset, .unset] [(.int (9 : Int32)), (.int p1)])) _
    refine XS.iushr X2.here hx rfl (hb hby at_9) rfl ?_
    show Steps p.tables e below (T2.setTop (mkF m 10 #[.val (.int p1), .val (.int p2), .val (.int p3), .val (.int p4), .val (.int db0), .unset, .unset, .unset, .unset, .unset, .unset, .unset, .unset, .unset, .unset, .unset, .unset, .unset, .unset, .unset, .unset, .unset, .unset, .unset, .unset, .unset, .unset, .unset, .unset, .unset] [(.int ((p1.toUInt32 >>> ((9 : Int32) &&& 31).toUInt32).toInt32))])) _
    exact kt
  obtain ⟨_, _, ⟨T6, L6, k6, n6⟩, -, X6, ⟨Lc6, hQ6, l6, y6, z6⟩, st6⟩ := Jvm.LawKit.callS X2 hx (y := (⟨"com/example/entgelt/entgelt/io/FieldFormsDigitsPinLaw", "draw", "(I)B"⟩ : MethodName)) hown (mvT hZ (hw _ (mgE 0 rfl))) (mvT hZ (hw _ (mgE 1 rfl))) (mvT hZ (hw _ (mgE 2 rfl))) (mvT hZ (hw _ (mgE 3 rfl))) (by decide) (backOf (W := 0) (rm1 l Z a0 hw [] ((p1.toUInt32 >>> ((9 : Int32) &&& 31).toUInt32).toInt32) h0 n0 Z0 ) hZ (hw _ (mgE 3 rfl)) (hw _ (mgE 2 rfl)) (by decide) (by decide)) (g := (mkF m 10 #[.val (.int p1), .val (.int p2), .val (.int p3), .val (.int p4), .val (.int db0), .unset, .unset, .unset, .unset, .unset, .unset, .unset, .unset, .unset, .unset, .unset, .unset, .unset, .unset, .unset, .unset, .unset, .unset, .unset, .unset, .unset, .unset, .unset, .unset, .unset] [(.int ((p1.toUInt32 >>> ((9 : Int32) &&& 31).toUInt32).toInt32))])) rfl (by rw [hml]; rfl) (argsL := [(.int ((p1.toUInt32 >>> ((9 : Int32) &&& 31).toUInt32).toInt32))]) (rest := []) (lenOf pd__I_B rfl) rfl (by show 2 * 0 + _ ≤ _; exact Nat.le_of_eq rfl) (hb hby at_10) (fun _ _ => ⟨rfl, e2, (by decide : 0 + 0 ≤ _), (by decide : 0 + 0 ≤ _)⟩)
  dsimp only [Pt.U, Pt.locs, Pt.cells, Pt.slots] at X6 l6 y6 z6 st6 hQ6
  have ly6 := l6.symm; subst ly6 y6 z6
  obtain ⟨rfl, N6q, e6⟩ := hQ6
  have pre7 : ∀ t, Steps p.tables e below (T6.setTop (mkF m 13 #[.val (.int p1), .val (.int p2), .val (.int p3), .val (.int p4), .val (.int db0), .unset, .unset, .unset, .unset, .unset, .unset, .unset, .unset, .unset, .unset, .unset, .unset, .unset, .unset, .unset, .unset, .unset, .unset, .unset, .unset, .unset, .unset, .unset, .unset, .unset] [(.int (r1 ((p1.toUInt32 >>> ((9 : Int32) &&& 31).toUInt32).toInt32)))])) t → Steps p.tables e below (s₁.setTop (entryFrame m #[(.int p1), (.int p2), (.int p3), (.int p4)] maxLocals)) t := fun t kt => pre5 t (st6 t kt)
  have N6 := Fr.app N2 N6q
  have pre8 : ∀ t, Steps p.tables e below (T6.setTop (mkF m 15 #[.val (.int p1), .val (.int p2), .val (.int p3), .val (.int p4), .val (.int db0), .val (.int (r1 ((p1.toUInt32 >>> ((9 : Int32) &&& 31).toUInt32).toInt32))), .unset, .unset, .unset, .unset, .unset, .unset, .unset, .unset, .unset, .unset, .unset, .unset, .unset, .unset, .unset, .unset, .unset, .unset, .unset, .unset, .unset, .unset, .unset, .unset] [])) t → Steps p.tables e below (s₁.setTop (entryFrame m #[(.int p1), (.int p2), (.int p3), (.int p4)] maxLocals)) t := fun t kt => by
    refine pre7 t ?_
    refine XS.istore X6.here hx rfl (hb hby at_13) rfl (l' := #[.val (.int p1), .val (.int p2), .val (.int p3), .val (.int p4), .val (.int db0), .val (.int (r1 ((p1.toUInt32 >>> ((9 : Int32) &&& 31).toUInt32).toInt32))), .unset, .unset, .unset, .unset, .unset, .unset, .unset, .unset, .unset, .unset, .unset, .unset, .unset, .unset, .unset, .unset, .unset, .unset, .unset, .unset, .unset, .unset, .unset, .unset]) rfl ?_
    show Steps p.tables e below (T6.setTop (mkF m 15 #[.val (.int p1), .val (.int p2), .val (.int p3), .val (.int p4), .val (.int db0), .val (.int (r1 ((p1.toUInt32 >>> ((9 : Int32) &&& 31).toUInt32).toInt32))), .unset, .unset, .unset, .unset, .unset, .unset, .unset, .unset, .unset, .unset, .unset, .unset, .unset, .unset, .unset, .unset, .unset, .unset, .unset, .unset, .unset, .unset, .unset, .unset] [])) _
    exact kt
  obtain ⟨db1, h_db1⟩ : ∃ z, z = (r1 ((p1.toUInt32 >>> ((9 : Int32) &&& 31).toUInt32).toInt32)) := ⟨_, rfl⟩
  rw [← h_db1] at pre8
  have pre9 : ∀ t, Steps p.tables e below (T6.setTop (mkF m 16 #[.val (.int p1), .val (.int p2), .val (.int p3), .val (.int p4), .val (.int db0), .val (.int db1), .unset, .unset, .unset, .unset, .unset, .unset, .unset, .unset, .unset, .unset, .unset, .unset, .unset, .unset, .unset, .unset, .unset, .unset, .unset, .unset, .unset, .unset, .unset, .unset] [(.int p2)])) t → Steps p.tables e below (s₁.setTop (entryFrame m #[(.int p1), (.int p2), (.int p3), (.int p4)] maxLocals)) t := fun t kt => by
    refine pre8 t ?_
    refine XS.iloadN X6.here hx rfl (hb hby at_15) rfl ?_
    show Steps p.tables e below (T6.setTop (mkF m 16 #[.val (.int p1), .val (.int p2), .val (.int p3), .val (.int p4), .val (.int db0), .val (.int db1), .unset, .unset, .unset, .unset, .unset, .unset, .unset, .unset, .unset, .unset, .unset, .unset, .unset, .unset, .unset, .unset, .unset, .unset, .unset, .unset, .unset, .unset, .unset, .unset] [(.int p2)])) _
    exact kt
  obtain ⟨_, _, ⟨T10, L10, k10, n10⟩, -, X10, ⟨Lc10, hQ10, l10, y10, z10⟩, st10⟩ := Jvm.LawKit.callS X6 hx (y := (⟨"com/example/entgelt/entgelt/io/FieldFormsDigitsPinLaw", "draw", "(I)B"⟩ : MethodName)) hown (mvT hZ (hw _ (mgE 0 rfl))) (mvT hZ (hw _ (mgE 1 rfl))) (mvT hZ (hw _ (mgE 2 rfl))) (mvT hZ (hw _ (mgE 3 rfl))) (by decide) (backOf (W := 0) (rm1 l Z a0 hw [] p2 h0 n0 Z0 ) hZ (hw _ (mgE 3 rfl)) (hw _ (mgE 2 rfl)) (by decide) (by decide)) (g := (mkF m 16 #[.val (.int p1), .val (.int p2), .val (.int p3), .val (.int p4), .val (.int db0), .val (.int db1), .unset, .unset, .unset, .unset, .unset, .unset, .unset, .unset, .unset, .unset, .unset, .unset, .unset, .unset, .unset, .unset, .unset, .unset, .unset, .unset, .unset, .unset, .unset, .unset] [(.int p2)])) rfl (by rw [hml]; rfl) (argsL := [(.int p2)]) (rest := []) (lenOf pd__I_B rfl) rfl (by show 2 * 0 + _ ≤ _; exact Nat.le_of_eq rfl) (hb hby at_16) (fun _ _ => ⟨rfl, e6, (by decide : 0 + 0 ≤ _), (by decide : 0 + 0 ≤ _)⟩)
  dsimp only [Pt.U, Pt.locs, Pt.cells, Pt.slots] at X10 l10 y10 z10 st10 hQ10
  have ly10 := l10.symm; subst ly10 y10 z10
  obtain ⟨rfl, N10q, e10⟩ := hQ10
  have pre11 : ∀ t, Steps p.tables e below (T10.setTop (mkF m 19 #[.val (.int p1), .val (.int p2), .val (.int p3), .val (.int p4), .val (.int db0), .val (.int db1), .unset, .unset, .unset, .unset, .unset, .unset, .unset, .unset, .unset, .unset, .unset, .unset, .unset, .unset, .unset, .unset, .unset, .unset, .unset, .unset, .unset, .unset, .unset, .unset] [(.int (r1 p2))])) t → Steps p.tables e below (s₁.setTop (entryFrame m #[(.int p1), (.int p2), (.int p3), (.int p4)] maxLocals)) t := fun t kt => pre9 t (st10 t kt)
  have N10 := Fr.app N6 N10q
  have pre12 : ∀ t, Steps p.tables e below (T10.setTop (mkF m 21 #[.val (.int p1), .val (.int p2), .val (.int p3), .val (.int p4), .val (.int db0), .val (.int db1), .val (.int (r1 p2)), .unset, .unset, .unset, .unset, .unset, .unset, .unset, .unset, .unset, .unset, .unset, .unset, .unset, .unset, .unset, .unset, .unset, .unset, .unset, .unset, .unset, .unset, .unset] [])) t → Steps p.tables e below (s₁.setTop (entryFrame m #[(.int p1), (.int p2), (.int p3), (.int p4)] maxLocals)) t := fun t kt => by
    refine pre11 t ?_
    refine XS.istore X10.here hx rfl (hb hby at_19) rfl (l' := #[.val (.int p1), .val (.int p2), .val (.int p3), .val (.int p4), .val (.int db0), .val (.int db1), .val (.int (r1 p2)), .unset, .unset, .unset, .unset, .unset, .unset, .unset, .unset, .unset, .unset, .unset, .unset, .unset, .unset, .unset, .unset, .unset, .unset, .unset, .unset, .unset, .unset, .unset]) rfl ?_
    show Steps p.tables e below (T10.setTop (mkF m 21 #[.val (.int p1), .val (.int p2), .val (.int p3), .val (.int p4), .val (.int db0), .val (.int db1), .val (.int (r1 p2)), .unset, .unset, .unset, .unset, .unset, .unset, .unset, .unset, .unset, .unset, .unset, .unset, .unset, .unset, .unset, .unset, .unset, .unset, .unset, .unset, .unset, .unset, .unset] [])) _
    exact kt
  obtain ⟨db2, h_db2⟩ : ∃ z, z = (r1 p2) := ⟨_, rfl⟩
  rw [← h_db2] at pre12
  have pre13 : ∀ t, Steps p.tables e below (T10.setTop (mkF m 25 #[.val (.int p1), .val (.int p2), .val (.int p3), .val (.int p4), .val (.int db0), .val (.int db1), .val (.int db2), .unset, .unset, .unset, .unset, .unset, .unset, .unset, .unset, .unset, .unset, .unset, .unset, .unset, .unset, .unset, .unset, .unset, .unset, .unset, .unset, .unset, .unset, .unset] [(.int ((p2.toUInt32 >>> ((9 : Int32) &&& 31).toUInt32).toInt32))])) t → Steps p.tables e below (s₁.setTop (entryFrame m #[(.int p1), (.int p2), (.int p3), (.int p4)] maxLocals)) t := fun t kt => by
    refine pre12 t ?_
    refine XS.iloadN X10.here hx rfl (hb hby at_21) rfl ?_
    show Steps p.tables e below (T10.setTop (mkF m 22 #[.val (.int p1), .val (.int p2), .val (.int p3), .val (.int p4), .val (.int db0), .val (.int db1), .val (.int db2), .unset, .unset, .unset, .unset, .unset, .unset, .unset, .unset, .unset, .unset, .unset, .unset, .unset, .unset, .unset, .unset, .unset, .unset, .unset, .unset, .unset, .unset, .unset] [(.int p2)])) _
    refine XS.bipush X10.here hx rfl (hb hby at_22) ?_
    show Steps p.tables e below (T10.setTop (mkF m 24 #[.val (.int p1), .val (.int p2), .val (.int p3), .val (.int p4), .val (.int db0), .val (.int db1), .val (.int db2), .unset, .unset, .unset, .unset, .unset, .unset, .unset, .unset, .unset, .unset, .unset, .unset, .unset, .unset, .unset, .unset, .unset, .unset, .unset, .unset, .unset, .unset, .unset] [(.int (9 : Int32)), (.int p2)])) _
    refine XS.iushr X10.here hx rfl (hb hby at_24) rfl ?_
    show Steps p.tables e below (T10.setTop (mkF m 25 #[.val (.int p1), .val (.int p2), .val (.int p3), .val (.int p4), .val (.int db0), .val (.int db1), .val (.int db2), .unset, .unset, .unset, .unset, .unset, .unset, .unset, .unset, .unset, .unset, .unset, .unset, .unset, .unset, .unset, .unset, .unset, .unset, .unset, .unset, .unset, .unset, .unset] [(.int ((p2.toUInt32 >>> ((9 : Int32) &&& 31).toUInt32).toInt32))])) _
    exact kt
  obtain ⟨_, _, ⟨T14, L14, k14, n14⟩, -, X14, ⟨Lc14, hQ14, l14, y14, z14⟩, st14⟩ := Jvm.LawKit.callS X10 hx (y := (⟨"com/example/entgelt/entgelt/io/FieldFormsDigitsPinLaw", "draw", "(I)B"⟩ : MethodName)) hown (mvT hZ (hw _ (mgE 0 rfl))) (mvT hZ (hw _ (mgE 1 rfl))) (mvT hZ (hw _ (mgE 2 rfl))) (mvT hZ (hw _ (mgE 3 rfl))) (by decide) (backOf (W := 0) (rm1 l Z a0 hw [] ((p2.toUInt32 >>> ((9 : Int32) &&& 31).toUInt32).toInt32) h0 n0 Z0 ) hZ (hw _ (mgE 3 rfl)) (hw _ (mgE 2 rfl)) (by decide) (by decide)) (g := (mkF m 25 #[.val (.int p1), .val (.int p2), .val (.int p3), .val (.int p4), .val (.int db0), .val (.int db1), .val (.int db2), .unset, .unset, .unset, .unset, .unset, .unset, .unset, .unset, .unset, .unset, .unset, .unset, .unset, .unset, .unset, .unset, .unset, .unset, .unset, .unset, .unset, .unset, .unset] [(.int ((p2.toUInt32 >>> ((9 : Int32) &&& 31).toUInt32).toInt32))])) rfl (by rw [hml]; rfl) (argsL := [(.int ((p2.toUInt32 >>> ((9 : Int32) &&& 31).toUInt32).toInt32))]) (rest := []) (lenOf pd__I_B rfl) rfl (by show 2 * 0 + _ ≤ _; exact Nat.le_of_eq rfl) (hb hby at_25) (fun _ _ => ⟨rfl, e10, (by decide : 0 + 0 ≤ _), (by decide : 0 + 0 ≤ _)⟩)
  dsimp only [Pt.U, Pt.locs, Pt.cells, Pt.slots] at X14 l14 y14 z14 st14 hQ14
  have ly14 := l14.symm; subst ly14 y14 z14
  obtain ⟨rfl, N14q, e14⟩ := hQ14
  have pre15 : ∀ t, Steps p.tables e below (T14.setTop (mkF m 28 #[.val (.int p1), .val (.int p2), .val (.int p3), .val (.int p4), .val (.int db0), .val (.int db1), .val (.int db2), .unset, .unset, .unset, .unset, .unset, .unset, .unset, .unset, .unset, .unset, .unset, .unset, .unset, .unset, .unset, .unset, .unset, .unset, .unset, .unset, .unset, .unset, .unset] [(.int (r1 ((p2.toUInt32 >>> ((9 : Int32) &&& 31).toUInt32).toInt32)))])) t → Steps p.tables e below (s₁.setTop (entryFrame m #[(.int p1), (.int p2), (.int p3), (.int p4)] maxLocals)) t := fun t kt => pre13 t (st14 t kt)
  have N14 := Fr.app N10 N14q
  have pre16 : ∀ t, Steps p.tables e below (T14.setTop (mkF m 30 #[.val (.int p1), .val (.int p2), .val (.int p3), .val (.int p4), .val (.int db0), .val (.int db1), .val (.int db2), .val (.int (r1 ((p2.toUInt32 >>> ((9 : Int32) &&& 31).toUInt32).toInt32))), .unset, .unset, .unset, .unset, .unset, .unset, .unset, .unset, .unset, .unset, .unset, .unset, .unset, .unset, .unset, .unset, .unset, .unset, .unset, .unset, .unset, .unset] [])) t → Steps p.tables e below (s₁.setTop (entryFrame m #[(.int p1), (.int p2), (.int p3), (.int p4)] maxLocals)) t := fun t kt => by
    refine pre15 t ?_
    refine XS.istore X14.here hx rfl (hb hby at_28) rfl (l' := #[.val (.int p1), .val (.int p2), .val (.int p3), .val (.int p4), .val (.int db0), .val (.int db1), .val (.int db2), .val (.int (r1 ((p2.toUInt32 >>> ((9 : Int32) &&& 31).toUInt32).toInt32))), .unset, .unset, .unset, .unset, .unset, .unset, .unset, .unset, .unset, .unset, .unset, .unset, .unset, .unset, .unset, .unset, .unset, .unset, .unset, .unset, .unset, .unset]) rfl ?_
    show Steps p.tables e below (T14.setTop (mkF m 30 #[.val (.int p1), .val (.int p2), .val (.int p3), .val (.int p4), .val (.int db0), .val (.int db1), .val (.int db2), .val (.int (r1 ((p2.toUInt32 >>> ((9 : Int32) &&& 31).toUInt32).toInt32))), .unset, .unset, .unset, .unset, .unset, .unset, .unset, .unset, .unset, .unset, .unset, .unset, .unset, .unset, .unset, .unset, .unset, .unset, .unset, .unset, .unset, .unset] [])) _
    exact kt
  obtain ⟨db3, h_db3⟩ : ∃ z, z = (r1 ((p2.toUInt32 >>> ((9 : Int32) &&& 31).toUInt32).toInt32)) := ⟨_, rfl⟩
  rw [← h_db3] at pre16
  have pre17 : ∀ t, Steps p.tables e below (T14.setTop (mkF m 31 #[.val (.int p1), .val (.int p2), .val (.int p3), .val (.int p4), .val (.int db0), .val (.int db1), .val (.int db2), .val (.int db3), .unset, .unset, .unset, .unset, .unset, .unset, .unset, .unset, .unset, .unset, .unset, .unset, .unset, .unset, .unset, .unset, .unset, .unset, .unset, .unset, .unset, .unset] [(.int p3)])) t → Steps p.tables e below (s₁.setTop (entryFrame m #[(.int p1), (.int p2), (.int p3), (.int p4)] maxLocals)) t := fun t kt => by
    refine pre16 t ?_
    refine XS.iloadN X14.here hx rfl (hb hby at_30) rfl ?_
    show Steps p.tables e below (T14.setTop (mkF m 31 #[.val (.int p1), .val (.int p2), .val (.int p3), .val (.int p4), .val (.int db0), .val (.int db1), .val (.int db2), .val (.int db3), .unset, .unset, .unset, .unset, .unset, .unset, .unset, .unset, .unset, .unset, .unset, .unset, .unset, .unset, .unset, .unset, .unset, .unset, .unset, .unset, .unset, .unset] [(.int p3)])) _
    exact kt
  obtain ⟨_, _, ⟨T18, L18, k18, n18⟩, -, X18, ⟨Lc18, hQ18, l18, y18, z18⟩, st18⟩ := Jvm.LawKit.callS X14 hx (y := (⟨"com/example/entgelt/entgelt/io/FieldFormsDigitsPinLaw", "draw", "(I)B"⟩ : MethodName)) hown (mvT hZ (hw _ (mgE 0 rfl))) (mvT hZ (hw _ (mgE 1 rfl))) (mvT hZ (hw _ (mgE 2 rfl))) (mvT hZ (hw _ (mgE 3 rfl))) (by decide) (backOf (W := 0) (rm1 l Z a0 hw [] p3 h0 n0 Z0 ) hZ (hw _ (mgE 3 rfl)) (hw _ (mgE 2 rfl)) (by decide) (by decide)) (g := (mkF m 31 #[.val (.int p1), .val (.int p2), .val (.int p3), .val (.int p4), .val (.int db0), .val (.int db1), .val (.int db2), .val (.int db3), .unset, .unset, .unset, .unset, .unset, .unset, .unset, .unset, .unset, .unset, .unset, .unset, .unset, .unset, .unset, .unset, .unset, .unset, .unset, .unset, .unset, .unset] [(.int p3)])) rfl (by rw [hml]; rfl) (argsL := [(.int p3)]) (rest := []) (lenOf pd__I_B rfl) rfl (by show 2 * 0 + _ ≤ _; exact Nat.le_of_eq rfl) (hb hby at_31) (fun _ _ => ⟨rfl, e14, (by decide : 0 + 0 ≤ _), (by decide : 0 + 0 ≤ _)⟩)
  dsimp only [Pt.U, Pt.locs, Pt.cells, Pt.slots] at X18 l18 y18 z18 st18 hQ18
  have ly18 := l18.symm; subst ly18 y18 z18
  obtain ⟨rfl, N18q, e18⟩ := hQ18
  have pre19 : ∀ t, Steps p.tables e below (T18.setTop (mkF m 34 #[.val (.int p1), .val (.int p2), .val (.int p3), .val (.int p4), .val (.int db0), .val (.int db1), .val (.int db2), .val (.int db3), .unset, .unset, .unset, .unset, .unset, .unset, .unset, .unset, .unset, .unset, .unset, .unset, .unset, .unset, .unset, .unset, .unset, .unset, .unset, .unset, .unset, .unset] [(.int (r1 p3))])) t → Steps p.tables e below (s₁.setTop (entryFrame m #[(.int p1), (.int p2), (.int p3), (.int p4)] maxLocals)) t := fun t kt => pre17 t (st18 t kt)
  have N18 := Fr.app N14 N18q
  have pre20 : ∀ t, Steps p.tables e below (T18.setTop (mkF m 36 #[.val (.int p1), .val (.int p2), .val (.int p3), .val (.int p4), .val (.int db0), .val (.int db1), .val (.int db2), .val (.int db3), .val (.int (r1 p3)), .unset, .unset, .unset, .unset, .unset, .unset, .unset, .unset, .unset, .unset, .unset, .unset, .unset, .unset, .unset, .unset, .unset, .unset, .unset, .unset, .unset] [])) t → Steps p.tables e below (s₁.setTop (entryFrame m #[(.int p1), (.int p2), (.int p3), (.int p4)] maxLocals)) t := fun t kt => by
    refine pre19 t ?_
    refine XS.istore X18.here hx rfl (hb hby at_34) rfl (l' := #[.val (.int p1), .val (.int p2), .val (.int p3), .val (.int p4), .val (.int db0), .val (.int db1), .val (.int db2), .val (.int db3), .val (.int (r1 p3)), .unset, .unset, .unset, .unset, .unset, .unset, .unset, .unset, .unset, .unset, .unset, .unset, .unset, .unset, .unset, .unset, .unset, .unset, .unset, .unset, .unset]) rfl ?_
    show Steps p.tables e below (T18.setTop (mkF m 36 #[.val (.int p1), .val (.int p2), .val (.int p3), .val (.int p4), .val (.int db0), .val (.int db1), .val (.int db2), .val (.int db3), .val (.int (r1 p3)), .unset, .unset, .unset, .unset, .unset, .unset, .unset, .unset, .unset, .unset, .unset, .unset, .unset, .unset, .unset, .unset, .unset, .unset, .unset, .unset, .unset] [])) _
    exact kt
  obtain ⟨dt, h_dt⟩ : ∃ z, z = (r1 p3) := ⟨_, rfl⟩
  rw [← h_dt] at pre20
  have pre21 : ∀ t, Steps p.tables e below (T18.setTop (mkF m 40 #[.val (.int p1), .val (.int p2), .val (.int p3), .val (.int p4), .val (.int db0), .val (.int db1), .val (.int db2), .val (.int db3), .val (.int dt), .unset, .unset, .unset, .unset, .unset, .unset, .unset, .unset, .unset, .unset, .unset, .unset, .unset, .unset, .unset, .unset, .unset, .unset, .unset, .unset, .unset] [(.int ((p3.toUInt32 >>> ((9 : Int32) &&& 31).toUInt32).toInt32))])) t → Steps p.tables e below (s₁.setTop (entryFrame m #[(.int p1), (.int p2), (.int p3), (.int p4)] maxLocals)) t := fun t kt => by
    refine pre20 t ?_
    refine XS.iloadN X18.here hx rfl (hb hby at_36) rfl ?_
    show Steps p.tables e below (T18.setTop (mkF m 37 #[.val (.int p1), .val (.int p2), .val (.int p3), .val (.int p4), .val (.int db0), .val (.int db1), .val (.int db2), .val (.int db3), .val (.int dt), .unset, .unset, .unset, .unset, .unset, .unset, .unset, .unset, .unset, .unset, .unset, .unset, .unset, .unset, .unset, .unset, .unset, .unset, .unset, .unset, .unset] [(.int p3)])) _
    refine XS.bipush X18.here hx rfl (hb hby at_37) ?_
    show Steps p.tables e below (T18.setTop (mkF m 39 #[.val (.int p1), .val (.int p2), .val (.int p3), .val (.int p4), .val (.int db0), .val (.int db1), .val (.int db2), .val (.int db3), .val (.int dt), .unset, .unset, .unset, .unset, .unset, .unset, .unset, .unset, .unset, .unset, .unset, .unset, .unset, .unset, .unset, .unset, .unset, .unset, .unset, .unset, .unset] [(.int (9 : Int32)), (.int p3)])) _
    refine XS.iushr X18.here hx rfl (hb hby at_39) rfl ?_
    show Steps p.tables e below (T18.setTop (mkF m 40 #[.val (.int p1), .val (.int p2), .val (.int p3), .val (.int p4), .val (.int db0), .val (.int db1), .val (.int db2), .val (.int db3), .val (.int dt), .unset, .unset, .unset, .unset, .unset, .unset, .unset, .unset, .unset, .unset, .unset, .unset, .unset, .unset, .unset, .unset, .unset, .unset, .unset, .unset, .unset] [(.int ((p3.toUInt32 >>> ((9 : Int32) &&& 31).toUInt32).toInt32))])) _
    exact kt
  obtain ⟨_, _, ⟨T22, L22, k22, n22⟩, -, X22, ⟨Lc22, hQ22, l22, y22, z22⟩, st22⟩ := Jvm.LawKit.callS X18 hx (y := (⟨"com/example/entgelt/entgelt/io/FieldFormsDigitsPinLaw", "draw", "(I)B"⟩ : MethodName)) hown (mvT hZ (hw _ (mgE 0 rfl))) (mvT hZ (hw _ (mgE 1 rfl))) (mvT hZ (hw _ (mgE 2 rfl))) (mvT hZ (hw _ (mgE 3 rfl))) (by decide) (backOf (W := 0) (rm1 l Z a0 hw [] ((p3.toUInt32 >>> ((9 : Int32) &&& 31).toUInt32).toInt32) h0 n0 Z0 ) hZ (hw _ (mgE 3 rfl)) (hw _ (mgE 2 rfl)) (by decide) (by decide)) (g := (mkF m 40 #[.val (.int p1), .val (.int p2), .val (.int p3), .val (.int p4), .val (.int db0), .val (.int db1), .val (.int db2), .val (.int db3), .val (.int dt), .unset, .unset, .unset, .unset, .unset, .unset, .unset, .unset, .unset, .unset, .unset, .unset, .unset, .unset, .unset, .unset, .unset, .unset, .unset, .unset, .unset] [(.int ((p3.toUInt32 >>> ((9 : Int32) &&& 31).toUInt32).toInt32))])) rfl (by rw [hml]; rfl) (argsL := [(.int ((p3.toUInt32 >>> ((9 : Int32) &&& 31).toUInt32).toInt32))]) (rest := []) (lenOf pd__I_B rfl) rfl (by show 2 * 0 + _ ≤ _; exact Nat.le_of_eq rfl) (hb hby at_40) (fun _ _ => ⟨rfl, e18, (by decide : 0 + 0 ≤ _), (by decide : 0 + 0 ≤ _)⟩)
  dsimp only [Pt.U, Pt.locs, Pt.cells, Pt.slots] at X22 l22 y22 z22 st22 hQ22
  have ly22 := l22.symm; subst ly22 y22 z22
  obtain ⟨rfl, N22q, e22⟩ := hQ22
  have pre23 : ∀ t, Steps p.tables e below (T22.setTop (mkF m 43 #[.val (.int p1), .val (.int p2), .val (.int p3), .val (.int p4), .val (.int db0), .val (.int db1), .val (.int db2), .val (.int db3), .val (.int dt), .unset, .unset, .unset, .unset, .unset, .unset, .unset, .unset, .unset, .unset, .unset, .unset, .unset, .unset, .unset, .unset, .unset, .unset, .unset, .unset, .unset] [(.int (r1 ((p3.toUInt32 >>> ((9 : Int32) &&& 31).toUInt32).toInt32)))])) t → Steps p.tables e below (s₁.setTop (entryFrame m #[(.int p1), (.int p2), (.int p3), (.int p4)] maxLocals)) t := fun t kt => pre21 t (st22 t kt)
  have N22 := Fr.app N18 N22q
  have pre24 : ∀ t, Steps p.tables e below (T22.setTop (mkF m 45 #[.val (.int p1), .val (.int p2), .val (.int p3), .val (.int p4), .val (.int db0), .val (.int db1), .val (.int db2), .val (.int db3), .val (.int dt), .val (.int (r1 ((p3.toUInt32 >>> ((9 : Int32) &&& 31).toUInt32).toInt32))), .unset, .unset, .unset, .unset, .unset, .unset, .unset, .unset, .unset, .unset, .unset, .unset, .unset, .unset, .unset, .unset, .unset, .unset, .unset, .unset] [])) t → Steps p.tables e below (s₁.setTop (entryFrame m #[(.int p1), (.int p2), (.int p3), (.int p4)] maxLocals)) t := fun t kt => by
    refine pre23 t ?_
    refine XS.istore X22.here hx rfl (hb hby at_43) rfl (l' := #[.val (.int p1), .val (.int p2), .val (.int p3), .val (.int p4), .val (.int db0), .val (.int db1), .val (.int db2), .val (.int db3), .val (.int dt), .val (.int (r1 ((p3.toUInt32 >>> ((9 : Int32) &&& 31).toUInt32).toInt32))), .unset, .unset, .unset, .unset, .unset, .unset, .unset, .unset, .unset, .unset, .unset, .unset, .unset, .unset, .unset, .unset, .unset, .unset, .unset, .unset]) rfl ?_
    show Steps p.tables e below (T22.setTop (mkF m 45 #[.val (.int p1), .val (.int p2), .val (.int p3), .val (.int p4), .val (.int db0), .val (.int db1), .val (.int db2), .val (.int db3), .val (.int dt), .val (.int (r1 ((p3.toUInt32 >>> ((9 : Int32) &&& 31).toUInt32).toInt32))), .unset, .unset, .unset, .unset, .unset, .unset, .unset, .unset, .unset, .unset, .unset, .unset, .unset, .unset, .unset, .unset, .unset, .unset, .unset, .unset] [])) _
    exact kt
  obtain ⟨dc, h_dc⟩ : ∃ z, z = (r1 ((p3.toUInt32 >>> ((9 : Int32) &&& 31).toUInt32).toInt32)) := ⟨_, rfl⟩
  rw [← h_dc] at pre24
  have pre25 : ∀ t, Steps p.tables e below (T22.setTop (mkF m 56 #[.val (.int p1), .val (.int p2), .val (.int p3), .val (.int p4), .val (.int db0), .val (.int db1), .val (.int db2), .val (.int db3), .val (.int dt), .val (.int dc), .val (.int ((4 : Int32) + (((p3.toUInt32 >>> ((18 : Int32) &&& 31).toUInt32).toInt32) % (16 : Int32)))), .unset, .unset, .unset, .unset, .unset, .unset, .unset, .unset, .unset, .unset, .unset, .unset, .unset, .unset, .unset, .unset, .unset, .unset, .unset] [])) t → Steps p.tables e below (s₁.setTop (entryFrame m #[(.int p1), (.int p2), (.int p3), (.int p4)] maxLocals)) t := fun t kt => by
    refine pre24 t ?_
    refine XS.iconst X22.here hx rfl (hb hby at_45) ?_
    show Steps p.tables e below (T22.setTop (mkF m 46 #[.val (.int p1), .val (.int p2), .val (.int p3), .val (.int p4), .val (.int db0), .val (.int db1), .val (.int db2), .val (.int db3), .val (.int dt), .val (.int dc), .unset, .unset, .unset, .unset, .unset, .unset, .unset, .unset, .unset, .unset, .unset, .unset, .unset, .unset, .unset, .unset, .unset, .unset, .unset, .unset] [(.int (4 : Int32))])) _
    refine XS.iloadN X22.here hx rfl (hb hby at_46) rfl ?_
    show Steps p.tables e below (T22.setTop (mkF m 47 #[.val (.int p1), .val (.int p2), .val (.int p3), .val (.int p4), .val (.int db0), .val (.int db1), .val (.int db2), .val (.int db3), .val (.int dt), .val (.int dc), .unset, .unset, .unset, .unset, .unset, .unset, .unset, .unset, .unset, .unset, .unset, .unset, .unset, .unset, .unset, .unset, .unset, .unset, .unset, .unset] [(.int p3), (.int (4 : Int32))])) _
    refine XS.bipush X22.here hx rfl (hb hby at_47) ?_
    show Steps p.tables e below (T22.setTop (mkF m 49 #[.val (.int p1), .val (.int p2), .val (.int p3), .val (.int p4), .val (.int db0), .val (.int db1), .val (.int db2), .val (.int db3), .val (.int dt), .val (.int dc), .unset, .unset, .unset, .unset, .unset, .unset, .unset, .unset, .unset, .unset, .unset, .unset, .unset, .unset, .unset, .unset, .unset, .unset, .unset, .unset] [(.int (18 : Int32)), (.int p3), (.int (4 : Int32))])) _
    refine XS.iushr X22.here hx rfl (hb hby at_49) rfl ?_
    show Steps p.tables e below (T22.setTop (mkF m 50 #[.val (.int p1), .val (.int p2), .val (.int p3), .val (.int p4), .val (.int db0), .val (.int db1), .val (.int db2), .val (.int db3), .val (.int dt), .val (.int dc), .unset, .unset, .unset, .unset, .unset, .unset, .unset, .unset, .unset, .unset, .unset, .unset, .unset, .unset, .unset, .unset, .unset, .unset, .unset, .unset] [(.int ((p3.toUInt32 >>> ((18 : Int32) &&& 31).toUInt32).toInt32)), (.int (4 : Int32))])) _
    refine XS.bipush X22.here hx rfl (hb hby at_50) ?_
    show Steps p.tables e below (T22.setTop (mkF m 52 #[.val (.int p1), .val (.int p2), .val (.int p3), .val (.int p4), .val (.int db0), .val (.int db1), .val (.int db2), .val (.int db3), .val (.int dt), .val (.int dc), .unset, .unset, .unset, .unset, .unset, .unset, .unset, .unset, .unset, .unset, .unset, .unset, .unset, .unset, .unset, .unset, .unset, .unset, .unset, .unset] [(.int (16 : Int32)), (.int ((p3.toUInt32 >>> ((18 : Int32) &&& 31).toUInt32).toInt32)), (.int (4 : Int32))])) _
    have hnz52 : ¬ ((16 : Int32) = (0 : Int32)) := by decide
    refine iremM X22 hx rfl (hb hby at_52) rfl hnz52 ?_
    show Steps p.tables e below (T22.setTop (mkF m 53 #[.val (.int p1), .val (.int p2), .val (.int p3), .val (.int p4), .val (.int db0), .val (.int db1), .val (.int db2), .val (.int db3), .val (.int dt), .val (.int dc), .unset, .unset, .unset, .unset, .unset, .unset, .unset, .unset, .unset, .unset, .unset, .unset, .unset, .unset, .unset, .unset, .unset, .unset, .unset, .unset] [(.int (((p3.toUInt32 >>> ((18 : Int32) &&& 31).toUInt32).toInt32) % (16 : Int32))), (.int (4 : Int32))])) _
    refine XS.iadd X22.here hx rfl (hb hby at_53) rfl ?_
    show Steps p.tables e below (T22.setTop (mkF m 54 #[.val (.int p1), .val (.int p2), .val (.int p3), .val (.int p4), .val (.int db0), .val (.int db1), .val (.int db2), .val (.int db3), .val (.int dt), .val (.int dc), .unset, .unset, .unset, .unset, .unset, .unset, .unset, .unset, .unset, .unset, .unset, .unset, .unset, .unset, .unset, .unset, .unset, .unset, .unset, .unset] [(.int ((4 : Int32) + (((p3.toUInt32 >>> ((18 : Int32) &&& 31).toUInt32).toInt32) % (16 : Int32))))])) _
    refine XS.istore X22.here hx rfl (hb hby at_54) rfl (l' := #[.val (.int p1), .val (.int p2), .val (.int p3), .val (.int p4), .val (.int db0), .val (.int db1), .val (.int db2), .val (.int db3), .val (.int dt), .val (.int dc), .val (.int ((4 : Int32) + (((p3.toUInt32 >>> ((18 : Int32) &&& 31).toUInt32).toInt32) % (16 : Int32)))), .unset, .unset, .unset, .unset, .unset, .unset, .unset, .unset, .unset, .unset, .unset, .unset, .unset, .unset, .unset, .unset, .unset, .unset, .unset]) rfl ?_
    show Steps p.tables e below (T22.setTop (mkF m 56 #[.val (.int p1), .val (.int p2), .val (.int p3), .val (.int p4), .val (.int db0), .val (.int db1), .val (.int db2), .val (.int db3), .val (.int dt), .val (.int dc), .val (.int ((4 : Int32) + (((p3.toUInt32 >>> ((18 : Int32) &&& 31).toUInt32).toInt32) % (16 : Int32)))), .unset, .unset, .unset, .unset, .unset, .unset, .unset, .unset, .unset, .unset, .unset, .unset, .unset, .unset, .unset, .unset, .unset, .unset, .unset] [])) _
    exact kt
  obtain ⟨ppp, h_ppp⟩ : ∃ z, z = ((4 : Int32) + (((p3.toUInt32 >>> ((18 : Int32) &&& 31).toUInt32).toInt32) % (16 : Int32))) := ⟨_, rfl⟩
  rw [← h_ppp] at pre25
  have hpp := own_pp p3 ppp h_ppp
  have hpp20 := own_pp20 ppp hpp
  have pre26 : ∀ t, Steps p.tables e below (T22.setTop (mkF m 64 #[.val (.int p1), .val (.int p2), .val (.int p3), .val (.int p4), .val (.int db0), .val (.int db1), .val (.int db2), .val (.int db3), .val (.int dt), .val (.int dc), .val (.int ppp), .val (.int ((p4 &&& (2147483647 : Int32)) % (5 : Int32))), .unset, .unset, .unset, .unset, .unset, .unset, .unset, .unset, .unset, .unset, .unset, .unset, .unset, .unset, .unset, .unset, .unset, .unset] [])) t → Steps p.tables e below (s₁.setTop (entryFrame m #[(.int p1), (.int p2), (.int p3), (.int p4)] maxLocals)) t := fun t kt => by
    refine pre25 t ?_
    refine XS.iloadN X22.here hx rfl (hb hby at_56) rfl ?_
    show Steps p.tables e below (T22.setTop (mkF m 57 #[.val (.int p1), .val (.int p2), .val (.int p3), .val (.int p4), .val (.int db0), .val (.int db1), .val (.int db2), .val (.int db3), .val (.int dt), .val (.int dc), .val (.int ppp), .unset, .unset, .unset, .unset, .unset, .unset, .unset, .unset, .unset, .unset, .unset, .unset, .unset, .unset, .unset, .unset, .unset, .unset, .unset] [(.int p4)])) _
    refine X22.ldcInt hx hown (mvT hZ (hw _ (mgE 4 rfl))) (g := (mkF m 57 #[.val (.int p1), .val (.int p2), .val (.int p3), .val (.int p4), .val (.int db0), .val (.int db1), .val (.int db2), .val (.int db3), .val (.int dt), .val (.int dc), .val (.int ppp), .unset, .unset, .unset, .unset, .unset, .unset, .unset, .unset, .unset, .unset, .unset, .unset, .unset, .unset, .unset, .unset, .unset, .unset, .unset] [(.int p4)])) rfl (hb hby at_57) _ ?_
    show Steps p.tables e below (T22.setTop (mkF m 59 #[.val (.int p1), .val (.int p2), .val (.int p3), .val (.int p4), .val (.int db0), .val (.int db1), .val (.int db2), .val (.int db3), .val (.int dt), .val (.int dc), .val (.int ppp), .unset, .unset, .unset, .unset, .unset, .unset, .unset, .unset, .unset, .unset, .unset, .unset, .unset, .unset, .unset, .unset, .unset, .unset, .unset] [(.int (2147483647 : Int32)), (.int p4)])) _
    refine XS.iand X22.here hx rfl (hb hby at_59) rfl ?_
    show Steps p.tables e below (T22.setTop (mkF m 60 #[.val (.int p1), .val (.int p2), .val (.int p3), .val (.int p4), .val (.int db0), .val (.int db1), .val (.int db2), .val (.int db3), .val (.int dt), .val (.int dc), .val (.int ppp), .unset, .unset, .unset, .unset, .unset, .unset, .unset, .unset, .unset, .unset, .unset, .unset, .unset, .unset, .unset, .unset, .unset, .unset, .unset] [(.int (p4 &&& (2147483647 : Int32)))])) _
    refine XS.iconst X22.here hx rfl (hb hby at_60) ?_
    show Steps p.tables e below (T22.setTop (mkF m 61 #[.val (.int p1), .val (.int p2), .val (.int p3), .val (.int p4), .val (.int db0), .val (.int db1), .val (.int db2), .val (.int db3), .val (.int dt), .val (.int dc), .val (.int ppp), .unset, .unset, .unset, .unset, .unset, .unset, .unset, .unset, .unset, .unset, .unset, .unset, .unset, .unset, .unset, .unset, .unset, .unset, .unset] [(.int (5 : Int32)), (.int (p4 &&& (2147483647 : Int32)))])) _
    have hnz61 : ¬ ((5 : Int32) = (0 : Int32)) := by decide
    refine iremM X22 hx rfl (hb hby at_61) rfl hnz61 ?_
    show Steps p.tables e below (T22.setTop (mkF m 62 #[.val (.int p1), .val (.int p2), .val (.int p3), .val (.int p4), .val (.int db0), .val (.int db1), .val (.int db2), .val (.int db3), .val (.int dt), .val (.int dc), .val (.int ppp), .unset, .unset, .unset, .unset, .unset, .unset, .unset, .unset, .unset, .unset, .unset, .unset, .unset, .unset, .unset, .unset, .unset, .unset, .unset] [(.int ((p4 &&& (2147483647 : Int32)) % (5 : Int32)))])) _
    refine XS.istore X22.here hx rfl (hb hby at_62) rfl (l' := #[.val (.int p1), .val (.int p2), .val (.int p3), .val (.int p4), .val (.int db0), .val (.int db1), .val (.int db2), .val (.int db3), .val (.int dt), .val (.int dc), .val (.int ppp), .val (.int ((p4 &&& (2147483647 : Int32)) % (5 : Int32))), .unset, .unset, .unset, .unset, .unset, .unset, .unset, .unset, .unset, .unset, .unset, .unset, .unset, .unset, .unset, .unset, .unset, .unset]) rfl ?_
    show Steps p.tables e below (T22.setTop (mkF m 64 #[.val (.int p1), .val (.int p2), .val (.int p3), .val (.int p4), .val (.int db0), .val (.int db1), .val (.int db2), .val (.int db3), .val (.int dt), .val (.int dc), .val (.int ppp), .val (.int ((p4 &&& (2147483647 : Int32)) % (5 : Int32))), .unset, .unset, .unset, .unset, .unset, .unset, .unset, .unset, .unset, .unset, .unset, .unset, .unset, .unset, .unset, .unset, .unset, .unset] [])) _
    exact kt
  obtain ⟨frm, h_frm⟩ : ∃ z, z = ((p4 &&& (2147483647 : Int32)) % (5 : Int32)) := ⟨_, rfl⟩
  rw [← h_frm] at pre26
  have hfrm := own_frm p4 frm h_frm
  have pre27 : ∀ t, Steps p.tables e below (T22.setTop (mkF m 79 #[.val (.int p1), .val (.int p2), .val (.int p3), .val (.int p4), .val (.int db0), .val (.int db1), .val (.int db2), .val (.int db3), .val (.int dt), .val (.int dc), .val (.int ppp), .val (.int frm), .val (.int ((((p4.toUInt32 >>> ((8 : Int32) &&& 31).toUInt32).toInt32) &&& (65535 : Int32)) % ((21 : Int32) - frm))), .unset, .unset, .unset, .unset, .unset, .unset, .unset, .unset, .unset, .unset, .unset, .unset, .unset, .unset, .unset, .unset, .unset] [])) t → Steps p.tables e below (s₁.setTop (entryFrame m #[(.int p1), (.int p2), (.int p3), (.int p4)] maxLocals)) t := fun t kt => by
    refine pre26 t ?_
    refine XS.iloadN X22.here hx rfl (hb hby at_64) rfl ?_
    show Steps p.tables e below (T22.setTop (mkF m 65 #[.val (.int p1), .val (.int p2), .val (.int p3), .val (.int p4), .val (.int db0), .val (.int db1), .val (.int db2), .val (.int db3), .val (.int dt), .val (.int dc), .val (.int ppp), .val (.int frm), .unset, .unset, .unset, .unset, .unset, .unset, .unset, .unset, .unset, .unset, .unset, .unset, .unset, .unset, .unset, .unset, .unset, .unset] [(.int p4)])) _
    refine XS.bipush X22.here hx rfl (hb hby at_65) ?_
    show Steps p.tables e below (T22.setTop (mkF m 67 #[.val (.int p1), .val (.int p2), .val (.int p3), .val (.int p4), .val (.int db0), .val (.int db1), .val (.int db2), .val (.int db3), .val (.int dt), .val (.int dc), .val (.int ppp), .val (.int frm), .unset, .unset, .unset, .unset, .unset, .unset, .unset, .unset, .unset, .unset, .unset, .unset, .unset, .unset, .unset, .unset, .unset, .unset] [(.int (8 : Int32)), (.int p4)])) _
    refine XS.iushr X22.here hx rfl (hb hby at_67) rfl ?_
    show Steps p.tables e below (T22.setTop (mkF m 68 #[.val (.int p1), .val (.int p2), .val (.int p3), .val (.int p4), .val (.int db0), .val (.int db1), .val (.int db2), .val (.int db3), .val (.int dt), .val (.int dc), .val (.int ppp), .val (.int frm), .unset, .unset, .unset, .unset, .unset, .unset, .unset, .unset, .unset, .unset, .unset, .unset, .unset, .unset, .unset, .unset, .unset, .unset] [(.int ((p4.toUInt32 >>> ((8 : Int32) &&& 31).toUInt32).toInt32))])) _
    refine X22.ldcInt hx hown (mvT hZ (hw _ (mgE 5 rfl))) (g := (mkF m 68 #[.val (.int p1), .val (.int p2), .val (.int p3), .val (.int p4), .val (.int db0), .val (.int db1), .val (.int db2), .val (.int db3), .val (.int dt), .val (.int dc), .val (.int ppp), .val (.int frm), .unset, .unset, .unset, .unset, .unset, .unset, .unset, .unset, .unset, .unset, .unset, .unset, .unset, .unset, .unset, .unset, .unset, .unset] [(.int ((p4.toUInt32 >>> ((8 : Int32) &&& 31).toUInt32).toInt32))])) rfl (hb hby at_68) _ ?_
    show Steps p.tables e below (T22.setTop (mkF m 70 #[.val (.int p1), .val (.int p2), .val (.int p3), .val (.int p4), .val (.int db0), .val (.int db1), .val (.int db2), .val (.int db3), .val (.int dt), .val (.int dc), .val (.int ppp), .val (.int frm), .unset, .unset, .unset, .unset, .unset, .unset, .unset, .unset, .unset, .unset, .unset, .unset, .unset, .unset, .unset, .unset, .unset, .unset] [(.int (65535 : Int32)), (.int ((p4.toUInt32 >>> ((8 : Int32) &&& 31).toUInt32).toInt32))])) _
    refine XS.iand X22.here hx rfl (hb hby at_70) rfl ?_
    show Steps p.tables e below (T22.setTop (mkF m 71 #[.val (.int p1), .val (.int p2), .val (.int p3), .val (.int p4), .val (.int db0), .val (.int db1), .val (.int db2), .val (.int db3), .val (.int dt), .val (.int dc), .val (.int ppp), .val (.int frm), .unset, .unset, .unset, .unset, .unset, .unset, .unset, .unset, .unset, .unset, .unset, .unset, .unset, .unset, .unset, .unset, .unset, .unset] [(.int (((p4.toUInt32 >>> ((8 : Int32) &&& 31).toUInt32).toInt32) &&& (65535 : Int32)))])) _
    refine XS.bipush X22.here hx rfl (hb hby at_71) ?_
    show Steps p.tables e below (T22.setTop (mkF m 73 #[.val (.int p1), .val (.int p2), .val (.int p3), .val (.int p4), .val (.int db0), .val (.int db1), .val (.int db2), .val (.int db3), .val (.int dt), .val (.int dc), .val (.int ppp), .val (.int frm), .unset, .unset, .unset, .unset, .unset, .unset, .unset, .unset, .unset, .unset, .unset, .unset, .unset, .unset, .unset, .unset, .unset, .unset] [(.int (21 : Int32)), (.int (((p4.toUInt32 >>> ((8 : Int32) &&& 31).toUInt32).toInt32) &&& (65535 : Int32)))])) _
    refine XS.iload X22.here hx rfl (hb hby at_73) rfl ?_
    show Steps p.tables e below (T22.setTop (mkF m 75 #[.val (.int p1), .val (.int p2), .val (.int p3), .val (.int p4), .val (.int db0), .val (.int db1), .val (.int db2), .val (.int db3), .val (.int dt), .val (.int dc), .val (.int ppp), .val (.int frm), .unset, .unset, .unset, .unset, .unset, .unset, .unset, .unset, .unset, .unset, .unset, .unset, .unset, .unset, .unset, .unset, .unset, .unset] [(.int frm), (.int (21 : Int32)), (.int (((p4.toUInt32 >>> ((8 : Int32) &&& 31).toUInt32).toInt32) &&& (65535 : Int32)))])) _
    refine XS.isub X22.here hx rfl (hb hby at_75) rfl ?_
    show Steps p.tables e below (T22.setTop (mkF m 76 #[.val (.int p1), .val (.int p2), .val (.int p3), .val (.int p4), .val (.int db0), .val (.int db1), .val (.int db2), .val (.int db3), .val (.int dt), .val (.int dc), .val (.int ppp), .val (.int frm), .unset, .unset, .unset, .unset, .unset, .unset, .unset, .unset, .unset, .unset, .unset, .unset, .unset, .unset, .unset, .unset, .unset, .unset] [(.int ((21 : Int32) - frm)), (.int (((p4.toUInt32 >>> ((8 : Int32) &&& 31).toUInt32).toInt32) &&& (65535 : Int32)))])) _
    have hnz76 : ¬ (((21 : Int32) - frm) = (0 : Int32)) := own_nz21 frm hfrm
    refine iremM X22 hx rfl (hb hby at_76) rfl hnz76 ?_
    show Steps p.tables e below (T22.setTop (mkF m 77 #[.val (.int p1), .val (.int p2), .val (.int p3), .val (.int p4), .val (.int db0), .val (.int db1), .val (.int db2), .val (.int db3), .val (.int dt), .val (.int dc), .val (.int ppp), .val (.int frm), .unset, .unset, .unset, .unset, .unset, .unset, .unset, .unset, .unset, .unset, .unset, .unset, .unset, .unset, .unset, .unset, .unset, .unset] [(.int ((((p4.toUInt32 >>> ((8 : Int32) &&& 31).toUInt32).toInt32) &&& (65535 : Int32)) % ((21 : Int32) - frm)))])) _
    refine XS.istore X22.here hx rfl (hb hby at_77) rfl (l' := #[.val (.int p1), .val (.int p2), .val (.int p3), .val (.int p4), .val (.int db0), .val (.int db1), .val (.int db2), .val (.int db3), .val (.int dt), .val (.int dc), .val (.int ppp), .val (.int frm), .val (.int ((((p4.toUInt32 >>> ((8 : Int32) &&& 31).toUInt32).toInt32) &&& (65535 : Int32)) % ((21 : Int32) - frm))), .unset, .unset, .unset, .unset, .unset, .unset, .unset, .unset, .unset, .unset, .unset, .unset, .unset, .unset, .unset, .unset, .unset]) rfl ?_
    show Steps p.tables e below (T22.setTop (mkF m 79 #[.val (.int p1), .val (.int p2), .val (.int p3), .val (.int p4), .val (.int db0), .val (.int db1), .val (.int db2), .val (.int db3), .val (.int dt), .val (.int dc), .val (.int ppp), .val (.int frm), .val (.int ((((p4.toUInt32 >>> ((8 : Int32) &&& 31).toUInt32).toInt32) &&& (65535 : Int32)) % ((21 : Int32) - frm))), .unset, .unset, .unset, .unset, .unset, .unset, .unset, .unset, .unset, .unset, .unset, .unset, .unset, .unset, .unset, .unset, .unset] [])) _
    exact kt
  obtain ⟨len, h_len⟩ : ∃ z, z = ((((p4.toUInt32 >>> ((8 : Int32) &&& 31).toUInt32).toInt32) &&& (65535 : Int32)) % ((21 : Int32) - frm)) := ⟨_, rfl⟩
  rw [← h_len] at pre27
  have hlen := own_len p4 frm len hfrm h_len
  have pre28 : ∀ t, Steps p.tables e below (T22.setTop (mkF m 86 #[.val (.int p1), .val (.int p2), .val (.int p3), .val (.int p4), .val (.int db0), .val (.int db1), .val (.int db2), .val (.int db3), .val (.int dt), .val (.int dc), .val (.int ppp), .val (.int frm), .val (.int len), .val (.int (frm + len)), .unset, .unset, .unset, .unset, .unset, .unset, .unset, .unset, .unset, .unset, .unset, .unset, .unset, .unset, .unset, .unset] [])) t → Steps p.tables e below (s₁.setTop (entryFrame m #[(.int p1), (.int p2), (.int p3), (.int p4)] maxLocals)) t := fun t kt => by
    refine pre27 t ?_
    refine XS.iload X22.here hx rfl (hb hby at_79) rfl ?_
    show Steps p.tables e below (T22.setTop (mkF m 81 #[.val (.int p1), .val (.int p2), .val (.int p3), .val (.int p4), .val (.int db0), .val (.int db1), .val (.int db2), .val (.int db3), .val (.int dt), .val (.int dc), .val (.int ppp), .val (.int frm), .val (.int len), .unset, .unset, .unset, .unset, .unset, .unset, .unset, .unset, .unset, .unset, .unset, .unset, .unset, .unset, .unset, .unset, .unset] [(.int frm)])) _
    refine XS.iload X22.here hx rfl (hb hby at_81) rfl ?_
    show Steps p.tables e below (T22.setTop (mkF m 83 #[.val (.int p1), .val (.int p2), .val (.int p3), .val (.int p4), .val (.int db0), .val (.int db1), .val (.int db2), .val (.int db3), .val (.int dt), .val (.int dc), .val (.int ppp), .val (.int frm), .val (.int len), .unset, .unset, .unset, .unset, .unset, .unset, .unset, .unset, .unset, .unset, .unset, .unset, .unset, .unset, .unset, .unset, .unset] [(.int len), (.int frm)])) _
    refine XS.iadd X22.here hx rfl (hb hby at_83) rfl ?_
    show Steps p.tables e below (T22.setTop (mkF m 84 #[.val (.int p1), .val (.int p2), .val (.int p3), .val (.int p4), .val (.int db0), .val (.int db1), .val (.int db2), .val (.int db3), .val (.int dt), .val (.int dc), .val (.int ppp), .val (.int frm), .val (.int len), .unset, .unset, .unset, .unset, .unset, .unset, .unset, .unset, .unset, .unset, .unset, .unset, .unset, .unset, .unset, .unset, .unset] [(.int (frm + len))])) _
    refine XS.istore X22.here hx rfl (hb hby at_84) rfl (l' := #[.val (.int p1), .val (.int p2), .val (.int p3), .val (.int p4), .val (.int db0), .val (.int db1), .val (.int db2), .val (.int db3), .val (.int dt), .val (.int dc), .val (.int ppp), .val (.int frm), .val (.int len), .val (.int (frm + len)), .unset, .unset, .unset, .unset, .unset, .unset, .unset, .unset, .unset, .unset, .unset, .unset, .unset, .unset, .unset, .unset]) rfl ?_
    show Steps p.tables e below (T22.setTop (mkF m 86 #[.val (.int p1), .val (.int p2), .val (.int p3), .val (.int p4), .val (.int db0), .val (.int db1), .val (.int db2), .val (.int db3), .val (.int dt), .val (.int dc), .val (.int ppp), .val (.int frm), .val (.int len), .val (.int (frm + len)), .unset, .unset, .unset, .unset, .unset, .unset, .unset, .unset, .unset, .unset, .unset, .unset, .unset, .unset, .unset, .unset] [])) _
    exact kt
  obtain ⟨too, h_too⟩ : ∃ z, z = (frm + len) := ⟨_, rfl⟩
  rw [← h_too] at pre28
  have htoo := own_too frm len too hfrm hlen h_too
  have pre29 : ∀ t, Steps p.tables e below (T22.setTop (mkF m 88 #[.val (.int p1), .val (.int p2), .val (.int p3), .val (.int p4), .val (.int db0), .val (.int db1), .val (.int db2), .val (.int db3), .val (.int dt), .val (.int dc), .val (.int ppp), .val (.int frm), .val (.int len), .val (.int too), .unset, .unset, .unset, .unset, .unset, .unset, .unset, .unset, .unset, .unset, .unset, .unset, .unset, .unset, .unset, .unset] [(.int (20 : Int32))])) t → Steps p.tables e below (s₁.setTop (entryFrame m #[(.int p1), (.int p2), (.int p3), (.int p4)] maxLocals)) t := fun t kt => by
    refine pre28 t ?_
    refine XS.bipush X22.here hx rfl (hb hby at_86) ?_
    show Steps p.tables e below (T22.setTop (mkF m 88 #[.val (.int p1), .val (.int p2), .val (.int p3), .val (.int p4), .val (.int db0), .val (.int db1), .val (.int db2), .val (.int db3), .val (.int dt), .val (.int dc), .val (.int ppp), .val (.int frm), .val (.int len), .val (.int too), .unset, .unset, .unset, .unset, .unset, .unset, .unset, .unset, .unset, .unset, .unset, .unset, .unset, .unset, .unset, .unset] [(.int (20 : Int32))])) _
    exact kt
  obtain ⟨T30, h30, k30, X30, e30, E30, A30, st30⟩ := newP X22 hx hZ (hw _ (mgE 6 rfl)) e22 (g := (mkF m 88 #[.val (.int p1), .val (.int p2), .val (.int p3), .val (.int p4), .val (.int db0), .val (.int db1), .val (.int db2), .val (.int db3), .val (.int dt), .val (.int dc), .val (.int ppp), .val (.int frm), .val (.int len), .val (.int too), .unset, .unset, .unset, .unset, .unset, .unset, .unset, .unset, .unset, .unset, .unset, .unset, .unset, .unset, .unset, .unset] [(.int (20 : Int32))])) rfl (hb hby at_88) rfl (by decide) (cap := 20) (by decide) (by decide) (by decide) (by decide)
  obtain ⟨b30, g30⟩ : ∃ z, z = h0.size := ⟨_, rfl⟩
  rw [← g30] at A30 st30
  have g_b30 : n0 ≤ b30 := Nat.le_trans Z0 (Nat.le_of_eq g30.symm)
  have Z30 : n0 ≤ h30.size := Nat.le_trans Z0 E30.1
  have V_b30 : Arf Z h30 b30 .byte (20 : Int32) (fun i => (.int ((fun _ => (0 : Int32)) i))) := Arf.new A30 (by decide)
  have pre31 : ∀ t, Steps p.tables e below (T30.setTop (mkF m 90 #[.val (.int p1), .val (.int p2), .val (.int p3), .val (.int p4), .val (.int db0), .val (.int db1), .val (.int db2), .val (.int db3), .val (.int dt), .val (.int dc), .val (.int ppp), .val (.int frm), .val (.int len), .val (.int too), .unset, .unset, .unset, .unset, .unset, .unset, .unset, .unset, .unset, .unset, .unset, .unset, .unset, .unset, .unset, .unset] [(.ref b30)])) t → Steps p.tables e below (s₁.setTop (entryFrame m #[(.int p1), (.int p2), (.int p3), (.int p4)] maxLocals)) t := fun t kt => pre29 t (st30 t kt)
  have pre32 : ∀ t, Steps p.tables e below (T30.setTop (mkF m 97 #[.val (.int p1), .val (.int p2), .val (.int p3), .val (.int p4), .val (.int db0), .val (.int db1), .val (.int db2), .val (.int db3), .val (.int dt), .val (.int dc), .val (.int ppp), .val (.int frm), .val (.int len), .val (.int too), .val (.ref b30), .unset, .unset, .unset, .unset, .unset, .unset, .unset, .unset, .unset, .unset, .unset, .unset, .unset, .unset, .unset] [(.int db0), (.int (0 : Int32)), (.ref b30)])) t → Steps p.tables e below (s₁.setTop (entryFrame m #[(.int p1), (.int p2), (.int p3), (.int p4)] maxLocals)) t := fun t kt => by
    refine pre31 t ?_
    refine XS.astore X30.here hx rfl (hb hby at_90) rfl rfl (l' := #[.val (.int p1), .val (.int p2), .val (.int p3), .val (.int p4), .val (.int db0), .val (.int db1), .val (.int db2), .val (.int db3), .val (.int dt), .val (.int dc), .val (.int ppp), .val (.int frm), .val (.int len), .val (.int too), .val (.ref b30), .unset, .unset, .unset, .unset, .unset, .unset, .unset, .unset, .unset, .unset, .unset, .unset, .unset, .unset, .unset]) rfl ?_
    show Steps p.tables e below (T30.setTop (mkF m 92 #[.val (.int p1), .val (.int p2), .val (.int p3), .val (.int p4), .val (.int db0), .val (.int db1), .val (.int db2), .val (.int db3), .val (.int dt), .val (.int dc), .val (.int ppp), .val (.int frm), .val (.int len), .val (.int too), .val (.ref b30), .unset, .unset, .unset, .unset, .unset, .unset, .unset, .unset, .unset, .unset, .unset, .unset, .unset, .unset, .unset] [])) _
    refine XS.aload X30.here hx rfl (hb hby at_92) rfl rfl ?_
    show Steps p.tables e below (T30.setTop (mkF m 94 #[.val (.int p1), .val (.int p2), .val (.int p3), .val (.int p4), .val (.int db0), .val (.int db1), .val (.int db2), .val (.int db3), .val (.int dt), .val (.int dc), .val (.int ppp), .val (.int frm), .val (.int len), .val (.int too), .val (.ref b30), .unset, .unset, .unset, .unset, .unset, .unset, .unset, .unset, .unset, .unset, .unset, .unset, .unset, .unset, .unset] [(.ref b30)])) _
    refine XS.iconst X30.here hx rfl (hb hby at_94) ?_
    show Steps p.tables e below (T30.setTop (mkF m 95 #[.val (.int p1), .val (.int p2), .val (.int p3), .val (.int p4), .val (.int db0), .val (.int db1), .val (.int db2), .val (.int db3), .val (.int dt), .val (.int dc), .val (.int ppp), .val (.int frm), .val (.int len), .val (.int too), .val (.ref b30), .unset, .unset, .unset, .unset, .unset, .unset, .unset, .unset, .unset, .unset, .unset, .unset, .unset, .unset, .unset] [(.int (0 : Int32)), (.ref b30)])) _
    refine XS.iload X30.here hx rfl (hb hby at_95) rfl ?_
    show Steps p.tables e below (T30.setTop (mkF m 97 #[.val (.int p1), .val (.int p2), .val (.int p3), .val (.int p4), .val (.int db0), .val (.int db1), .val (.int db2), .val (.int db3), .val (.int dt), .val (.int dc), .val (.int ppp), .val (.int frm), .val (.int len), .val (.int too), .val (.ref b30), .unset, .unset, .unset, .unset, .unset, .unset, .unset, .unset, .unset, .unset, .unset, .unset, .unset, .unset, .unset] [(.int db0), (.int (0 : Int32)), (.ref b30)])) _
    exact kt
  obtain ⟨cl33, Ar33, S33, Ng33, H33⟩ := id V_b30
  have hj33 : ¬ (0 : Int32) < 0 ∧ (0 : Int32) < (20 : Int32) := ⟨by decide, by decide⟩
  have hin33 := inb_of S33 hj33
  obtain ⟨T34, h34, X34, e34, W34, st34⟩ := stB X30 hx hZ e30 Ar33 (j := (0 : Int32)) hin33 (g := (mkF m 97 #[.val (.int p1), .val (.int p2), .val (.int p3), .val (.int p4), .val (.int db0), .val (.int db1), .val (.int db2), .val (.int db3), .val (.int dt), .val (.int dc), .val (.int ppp), .val (.int frm), .val (.int len), .val (.int too), .val (.ref b30), .unset, .unset, .unset, .unset, .unset, .unset, .unset, .unset, .unset, .unset, .unset, .unset, .unset, .unset, .unset] [(.int db0), (.int (0 : Int32)), (.ref b30)])) rfl rfl (hb hby at_97)
  have V34_b30 : Arf Z h34 b30 .byte (20 : Int32) (fun i => (.int ((own_upd (fun _ => (0 : Int32)) ((0 : Int32)).toNatClampNeg (nar .byte db0)) i))) := upd_int _ _ _ ▸ (V_b30.set W34)
  have Z34 : n0 ≤ h34.size := Nat.le_trans Z30 (Keep.of_wr W34).1
  have pre36 : ∀ t, Steps p.tables e below (T34.setTop (mkF m 98 #[.val (.int p1), .val (.int p2), .val (.int p3), .val (.int p4), .val (.int db0), .val (.int db1), .val (.int db2), .val (.int db3), .val (.int dt), .val (.int dc), .val (.int ppp), .val (.int frm), .val (.int len), .val (.int too), .val (.ref b30), .unset, .unset, .unset, .unset, .unset, .unset, .unset, .unset, .unset, .unset, .unset, .unset, .unset, .unset, .unset] [])) t → Steps p.tables e below (s₁.setTop (entryFrame m #[(.int p1), (.int p2), (.int p3), (.int p4)] maxLocals)) t := fun t kt => pre32 t (st34 t kt)
  have N34 := Fr.snoc X34 N22 g_b30
  have pre37 : ∀ t, Steps p.tables e below (T34.setTop (mkF m 103 #[.val (.int p1), .val (.int p2), .val (.int p3), .val (.int p4), .val (.int db0), .val (.int db1), .val (.int db2), .val (.int db3), .val (.int dt), .val (.int dc), .val (.int ppp), .val (.int frm), .val (.int len), .val (.int too), .val (.ref b30), .unset, .unset, .unset, .unset, .unset, .unset, .unset, .unset, .unset, .unset, .unset, .unset, .unset, .unset, .unset] [(.int db1), (.int (1 : Int32)), (.ref b30)])) t → Steps p.tables e below (s₁.setTop (entryFrame m #[(.int p1), (.int p2), (.int p3), (.int p4)] maxLocals)) t := fun t kt => by
    refine pre36 t ?_
    refine XS.aload X34.here hx rfl (hb hby at_98) rfl rfl ?_
    show Steps p.tables e below (T34.setTop (mkF m 100 #[.val (.int p1), .val (.int p2), .val (.int p3), .val (.int p4), .val (.int db0), .val (.int db1), .val (.int db2), .val (.int db3), .val (.int dt), .val (.int dc), .val (.int ppp), .val (.int frm), .val (.int len), .val (.int too), .val (.ref b30), .unset, .unset, .unset, .unset, .unset, .unset, .unset, .unset, .unset, .unset, .unset, .unset, .unset, .unset, .unset] [(.ref b30)])) _
    refine XS.iconst X34.here hx rfl (hb hby at_100) ?_
    show Steps p.tables e below (T34.setTop (mkF m 101 #[.val (.int p1), .val (.int p2), .val (.int p3), .val (.int p4), .val (.int db0), .val (.int db1), .val (.int db2), .val (.int db3), .val (.int dt), .val (.int dc), .val (.int ppp), .val (.int frm), .val (.int len), .val (.int too), .val (.ref b30), .unset, .unset, .unset, .unset, .unset, .unset, .unset, .unset, .unset, .unset, .unset, .unset, .unset, .unset, .unset] [(.int (1 : Int32)), (.ref b30)])) _
    refine XS.iload X34.here hx rfl (hb hby at_101) rfl ?_
    show Steps p.tables e below (T34.setTop (mkF m 103 #[.val (.int p1), .val (.int p2), .val (.int p3), .val (.int p4), .val (.int db0), .val (.int db1), .val (.int db2), .val (.int db3), .val (.int dt), .val (.int dc), .val (.int ppp), .val (.int frm), .val (.int len), .val (.int too), .val (.ref b30), .unset, .unset, .unset, .unset, .unset, .unset, .unset, .unset, .unset, .unset, .unset, .unset, .unset, .unset, .unset] [(.int db1), (.int (1 : Int32)), (.ref b30)])) _
    exact kt
  obtain ⟨cl38, Ar38, S38, Ng38, H38⟩ := id V34_b30
  have hj38 : ¬ (1 : Int32) < 0 ∧ (1 : Int32) < (20 : Int32) := ⟨by decide, by decide⟩
  have hin38 := inb_of S38 hj38
  obtain ⟨T39, h39, X39, e39, W39, st39⟩ := stB X34 hx hZ e34 Ar38 (j := (1 : Int32)) hin38 (g := (mkF m 103 #[.val (.int p1), .val (.int p2), .val (.int p3), .val (.int p4), .val (.int db0), .val (.int db1), .val (.int db2), .val (.int db3), .val (.int dt), .val (.int dc), .val (.int ppp), .val (.int frm), .val (.int len), .val (.int too), .val (.ref b30), .unset, .unset, .unset, .unset, .unset, .unset, .unset, .unset, .unset, .unset, .unset, .unset, .unset, .unset, .unset] [(.int db1), (.int (1 : Int32)), (.ref b30)])) rfl rfl (hb hby at_103)
  have V39_b30 : Arf Z h39 b30 .byte (20 : Int32) (fun i => (.int ((own_upd (own_upd (fun _ => (0 : Int32)) ((0 : Int32)).toNatClampNeg (nar .byte db0)) ((1 : Int32)).toNatClampNeg (nar .byte db1)) i))) := upd_int _ _ _ ▸ (V34_b30.set W39)
  have Z39 : n0 ≤ h39.size := Nat.le_trans Z34 (Keep.of_wr W39).1
  have pre41 : ∀ t, Steps p.tables e below (T39.setTop (mkF m 104 #[.val (.int p1), .val (.int p2), .val (.int p3), .val (.int p4), .val (.int db0), .val (.int db1), .val (.int db2), .val (.int db3), .val (.int dt), .val (.int dc), .val (.int ppp), .val (.int frm), .val (.int len), .val (.int too), .val (.ref b30), .unset, .unset, .unset, .unset, .unset, .unset, .unset, .unset, .unset, .unset, .unset, .unset, .unset, .unset, .unset] [])) t → Steps p.tables e below (s₁.setTop (entryFrame m #[(.int p1), (.int p2), (.int p3), (.int p4)] maxLocals)) t := fun t kt => pre37 t (st39 t kt)
  have N39 := Fr.snoc X39 N34 g_b30
  have pre42 : ∀ t, Steps p.tables e below (T39.setTop (mkF m 109 #[.val (.int p1), .val (.int p2), .val (.int p3), .val (.int p4), .val (.int db0), .val (.int db1), .val (.int db2), .val (.int db3), .val (.int dt), .val (.int dc), .val (.int ppp), .val (.int frm), .val (.int len), .val (.int too), .val (.ref b30), .unset, .unset, .unset, .unset, .unset, .unset, .unset, .unset, .unset, .unset, .unset, .unset, .unset, .unset, .unset] [(.int db2), (.int (2 : Int32)), (.ref b30)])) t → Steps p.tables e below (s₁.setTop (entryFrame m #[(.int p1), (.int p2), (.int p3), (.int p4)] maxLocals)) t := fun t kt => by
    refine pre41 t ?_
    refine XS.aload X39.here hx rfl (hb hby at_104) rfl rfl ?_
    show Steps p.tables e below (T39.setTop (mkF m 106 #[.val (.int p1), .val (.int p2), .val (.int p3), .val (.int p4), .val (.int db0), .val (.int db1), .val (.int db2), .val (.int db3), .val (.int dt), .val (.int dc), .val (.int ppp), .val (.int frm), .val (.int len), .val (.int too), .val (.ref b30), .unset, .unset, .unset, .unset, .unset, .unset, .unset, .unset, .unset, .unset, .unset, .unset, .unset, .unset, .unset] [(.ref b30)])) _
    refine XS.iconst X39.here hx rfl (hb hby at_106) ?_
    show Steps p.tables e below (T39.setTop (mkF m 107 #[.val (.int p1), .val (.int p2), .val (.int p3), .val (.int p4), .val (.int db0), .val (.int db1), .val (.int db2), .val (.int db3), .val (.int dt), .val (.int dc), .val (.int ppp), .val (.int frm), .val (.int len), .val (.int too), .val (.ref b30), .unset, .unset, .unset, .unset, .unset, .unset, .unset, .unset, .unset, .unset, .unset, .unset, .unset, .unset, .unset] [(.int (2 : Int32)), (.ref b30)])) _
    refine XS.iload X39.here hx rfl (hb hby at_107) rfl ?_
    show Steps p.tables e below (T39.setTop (mkF m 109 #[.val (.int p1), .val (.int p2), .val (.int p3), .val (.int p4), .val (.int db0), .val (.int db1), .val (.int db2), .val (.int db3), .val (.int dt), .val (.int dc), .val (.int ppp), .val (.int frm), .val (.int len), .val (.int too), .val (.ref b30), .unset, .unset, .unset, .unset, .unset, .unset, .unset, .unset, .unset, .unset, .unset, .unset, .unset, .unset, .unset] [(.int db2), (.int (2 : Int32)), (.ref b30)])) _
    exact kt
  obtain ⟨cl43, Ar43, S43, Ng43, H43⟩ := id V39_b30
  have hj43 : ¬ (2 : Int32) < 0 ∧ (2 : Int32) < (20 : Int32) := ⟨by decide, by decide⟩
  have hin43 := inb_of S43 hj43
  obtain ⟨T44, h44, X44, e44, W44, st44⟩ := stB X39 hx hZ e39 Ar43 (j := (2 : Int32)) hin43 (g := (mkF m 109 #[.val (.int p1), .val (.int p2), .val (.int p3), .val (.int p4), .val (.int db0), .val (.int db1), .val (.int db2), .val (.int db3), .val (.int dt), .val (.int dc), .val (.int ppp), .val (.int frm), .val (.int len), .val (.int too), .val (.ref b30), .unset, .unset, .unset, .unset, .unset, .unset, .unset, .unset, .unset, .unset, .unset, .unset, .unset, .unset, .unset] [(.int db2), (.int (2 : Int32)), (.ref b30)])) rfl rfl (hb hby at_109)
  have V44_b30 : Arf Z h44 b30 .byte (20 : Int32) (fun i => (.int ((own_upd (own_upd (own_upd (fun _ => (0 : Int32)) ((0 : Int32)).toNatClampNeg (nar .byte db0)) ((1 : Int32)).toNatClampNeg (nar .byte db1)) ((2 : Int32)).toNatClampNeg (nar .byte db2)) i))) := upd_int _ _ _ ▸ (V39_b30.set W44)
  have Z44 : n0 ≤ h44.size := Nat.le_trans Z39 (Keep.of_wr W44).1
  have pre46 : ∀ t, Steps p.tables e below (T44.setTop (mkF m 110 #[.val (.int p1), .val (.int p2), .val (.int p3), .val (.int p4), .val (.int db0), .val (.int db1), .val (.int db2), .val (.int db3), .val (.int dt), .val (.int dc), .val (.int ppp), .val (.int frm), .val (.int len), .val (.int too), .val (.ref b30), .unset, .unset, .unset, .unset, .unset, .unset, .unset, .unset, .unset, .unset, .unset, .unset, .unset, .unset, .unset] [])) t → Steps p.tables e below (s₁.setTop (entryFrame m #[(.int p1), (.int p2), (.int p3), (.int p4)] maxLocals)) t := fun t kt => pre42 t (st44 t kt)
  have N44 := Fr.snoc X44 N39 g_b30
  have pre47 : ∀ t, Steps p.tables e below (T44.setTop (mkF m 115 #[.val (.int p1), .val (.int p2), .val (.int p3), .val (.int p4), .val (.int db0), .val (.int db1), .val (.int db2), .val (.int db3), .val (.int dt), .val (.int dc), .val (.int ppp), .val (.int frm), .val (.int len), .val (.int too), .val (.ref b30), .unset, .unset, .unset, .unset, .unset, .unset, .unset, .unset, .unset, .unset, .unset, .unset, .unset, .unset, .unset] [(.int db3), (.int (3 : Int32)), (.ref b30)])) t → Steps p.tables e below (s₁.setTop (entryFrame m #[(.int p1), (.int p2), (.int p3), (.int p4)] maxLocals)) t := fun t kt => by
    refine pre46 t ?_
    refine XS.aload X44.here hx rfl (hb hby at_110) rfl rfl ?_
    show Steps p.tables e below (T44.setTop (mkF m 112 #[.val (.int p1), .val (.int p2), .val (.int p3), .val (.int p4), .val (.int db0), .val (.int db1), .val (.int db2), .val (.int db3), .val (.int dt), .val (.int dc), .val (.int ppp), .val (.int frm), .val (.int len), .val (.int too), .val (.ref b30), .unset, .unset, .unset, .unset, .unset, .unset, .unset, .unset, .unset, .unset, .unset, .unset, .unset, .unset, .unset] [(.ref b30)])) _
    refine XS.iconst X44.here hx rfl (hb hby at_112) ?_
    show Steps p.tables e below (T44.setTop (mkF m 113 #[.val (.int p1), .val (.int p2), .val (.int p3), .val (.int p4), .val (.int db0), .val (.int db1), .val (.int db2), .val (.int db3), .val (.int dt), .val (.int dc), .val (.int ppp), .val (.int frm), .val (.int len), .val (.int too), .val (.ref b30), .unset, .unset, .unset, .unset, .unset, .unset, .unset, .unset, .unset, .unset, .unset, .unset, .unset, .unset, .unset] [(.int (3 : Int32)), (.ref b30)])) _
    refine XS.iload X44.here hx rfl (hb hby at_113) rfl ?_
    show Steps p.tables e below (T44.setTop (mkF m 115 #[.val (.int p1), .val (.int p2), .val (.int p3), .val (.int p4), .val (.int db0), .val (.int db1), .val (.int db2), .val (.int db3), .val (.int dt), .val (.int dc), .val (.int ppp), .val (.int frm), .val (.int len), .val (.int too), .val (.ref b30), .unset, .unset, .unset, .unset, .unset, .unset, .unset, .unset, .unset, .unset, .unset, .unset, .unset, .unset, .unset] [(.int db3), (.int (3 : Int32)), (.ref b30)])) _
    exact kt
  obtain ⟨cl48, Ar48, S48, Ng48, H48⟩ := id V44_b30
  have hj48 : ¬ (3 : Int32) < 0 ∧ (3 : Int32) < (20 : Int32) := ⟨by decide, by decide⟩
  have hin48 := inb_of S48 hj48
  obtain ⟨T49, h49, X49, e49, W49, st49⟩ := stB X44 hx hZ e44 Ar48 (j := (3 : Int32)) hin48 (g := (mkF m 115 #[.val (.int p1), .val (.int p2), .val (.int p3), .val (.int p4), .val (.int db0), .val (.int db1), .val (.int db2), .val (.int db3), .val (.int dt), .val (.int dc), .val (.int ppp), .val (.int frm), .val (.int len), .val (.int too), .val (.ref b30), .unset, .unset, .unset, .unset, .unset, .unset, .unset, .unset, .unset, .unset, .unset, .unset, .unset, .unset, .unset] [(.int db3), (.int (3 : Int32)), (.ref b30)])) rfl rfl (hb hby at_115)
  have V49_b30 : Arf Z h49 b30 .byte (20 : Int32) (fun i => (.int ((own_upd (own_upd (own_upd (own_upd (fun _ => (0 : Int32)) ((0 : Int32)).toNatClampNeg (nar .byte db0)) ((1 : Int32)).toNatClampNeg (nar .byte db1)) ((2 : Int32)).toNatClampNeg (nar .byte db2)) ((3 : Int32)).toNatClampNeg (nar .byte db3)) i))) := upd_int _ _ _ ▸ (V44_b30.set W49)
  have Z49 : n0 ≤ h49.size := Nat.le_trans Z44 (Keep.of_wr W49).1
  have pre51 : ∀ t, Steps p.tables e below (T49.setTop (mkF m 116 #[.val (.int p1), .val (.int p2), .val (.int p3), .val (.int p4), .val (.int db0), .val (.int db1), .val (.int db2), .val (.int db3), .val (.int dt), .val (.int dc), .val (.int ppp), .val (.int frm), .val (.int len), .val (.int too), .val (.ref b30), .unset, .unset, .unset, .unset, .unset, .unset, .unset, .unset, .unset, .unset, .unset, .unset, .unset, .unset, .unset] [])) t → Steps p.tables e below (s₁.setTop (entryFrame m #[(.int p1), (.int p2), (.int p3), (.int p4)] maxLocals)) t := fun t kt => pre47 t (st49 t kt)
  have N49 := Fr.snoc X49 N44 g_b30
  have pre52 : ∀ t, Steps p.tables e below (T49.setTop (mkF m 121 #[.val (.int p1), .val (.int p2), .val (.int p3), .val (.int p4), .val (.int db0), .val (.int db1), .val (.int db2), .val (.int db3), .val (.int dt), .val (.int dc), .val (.int ppp), .val (.int frm), .val (.int len), .val (.int too), .val (.ref b30), .unset, .unset, .unset, .unset, .unset, .unset, .unset, .unset, .unset, .unset, .unset, .unset, .unset, .unset, .unset] [(.int dt), (.int (4 : Int32)), (.ref b30)])) t → Steps p.tables e below (s₁.setTop (entryFrame m #[(.int p1), (.int p2), (.int p3), (.int p4)] maxLocals)) t := fun t kt => by
    refine pre51 t ?_
    refine XS.aload X49.here hx rfl (hb hby at_116) rfl rfl ?_
    show Steps p.tables e below (T49.setTop (mkF m 118 #[.val (.int p1), .val (.int p2), .val (.int p3), .val (.int p4), .val (.int db0), .val (.int db1), .val (.int db2), .val (.int db3), .val (.int dt), .val (.int dc), .val (.int ppp), .val (.int frm), .val (.int len), .val (.int too), .val (.ref b30), .unset, .unset, .unset, .unset, .unset, .unset, .unset, .unset, .unset, .unset, .unset, .unset, .unset, .unset, .unset] [(.ref b30)])) _
    refine XS.iconst X49.here hx rfl (hb hby at_118) ?_
    show Steps p.tables e below (T49.setTop (mkF m 119 #[.val (.int p1), .val (.int p2), .val (.int p3), .val (.int p4), .val (.int db0), .val (.int db1), .val (.int db2), .val (.int db3), .val (.int dt), .val (.int dc), .val (.int ppp), .val (.int frm), .val (.int len), .val (.int too), .val (.ref b30), .unset, .unset, .unset, .unset, .unset, .unset, .unset, .unset, .unset, .unset, .unset, .unset, .unset, .unset, .unset] [(.int (4 : Int32)), (.ref b30)])) _
    refine XS.iload X49.here hx rfl (hb hby at_119) rfl ?_
    show Steps p.tables e below (T49.setTop (mkF m 121 #[.val (.int p1), .val (.int p2), .val (.int p3), .val (.int p4), .val (.int db0), .val (.int db1), .val (.int db2), .val (.int db3), .val (.int dt), .val (.int dc), .val (.int ppp), .val (.int frm), .val (.int len), .val (.int too), .val (.ref b30), .unset, .unset, .unset, .unset, .unset, .unset, .unset, .unset, .unset, .unset, .unset, .unset, .unset, .unset, .unset] [(.int dt), (.int (4 : Int32)), (.ref b30)])) _
    exact kt
  obtain ⟨cl53, Ar53, S53, Ng53, H53⟩ := id V49_b30
  have hj53 : ¬ (4 : Int32) < 0 ∧ (4 : Int32) < (20 : Int32) := ⟨by decide, by decide⟩
  have hin53 := inb_of S53 hj53
  obtain ⟨T54, h54, X54, e54, W54, st54⟩ := stB X49 hx hZ e49 Ar53 (j := (4 : Int32)) hin53 (g := (mkF m 121 #[.val (.int p1), .val (.int p2), .val (.int p3), .val (.int p4), .val (.int db0), .val (.int db1), .val (.int db2), .val (.int db3), .val (.int dt), .val (.int dc), .val (.int ppp), .val (.int frm), .val (.int len), .val (.int too), .val (.ref b30), .unset, .unset, .unset, .unset, .unset, .unset, .unset, .unset, .unset, .unset, .unset, .unset, .unset, .unset, .unset] [(.int dt), (.int (4 : Int32)), (.ref b30)])) rfl rfl (hb hby at_121)
  have V54_b30 : Arf Z h54 b30 .byte (20 : Int32) (fun i => (.int ((own_upd (own_upd (own_upd (own_upd (own_upd (fun _ => (0 : Int32)) ((0 : Int32)).toNatClampNeg (nar .byte db0)) ((1 : Int32)).toNatClampNeg (nar .byte db1)) ((2 : Int32)).toNatClampNeg (nar .byte db2)) ((3 : Int32)).toNatClampNeg (nar .byte db3)) ((4 : Int32)).toNatClampNeg (nar .byte dt)) i))) := upd_int _ _ _ ▸ (V49_b30.set W54)
  have Z54 : n0 ≤ h54.size := Nat.le_trans Z49 (Keep.of_wr W54).1
  have pre56 : ∀ t, Steps p.tables e below (T54.setTop (mkF m 122 #[.val (.int p1), .val (.int p2), .val (.int p3), .val (.int p4), .val (.int db0), .val (.int db1), .val (.int db2), .val (.int db3), .val (.int dt), .val (.int dc), .val (.int ppp), .val (.int frm), .val (.int len), .val (.int too), .val (.ref b30), .unset, .unset, .unset, .unset, .unset, .unset, .unset, .unset, .unset, .unset, .unset, .unset, .unset, .unset, .unset] [])) t → Steps p.tables e below (s₁.setTop (entryFrame m #[(.int p1), (.int p2), (.int p3), (.int p4)] maxLocals)) t := fun t kt => pre52 t (st54 t kt)
  have N54 := Fr.snoc X54 N49 g_b30
  have pre57 : ∀ t, Steps p.tables e below (T54.setTop (mkF m 127 #[.val (.int p1), .val (.int p2), .val (.int p3), .val (.int p4), .val (.int db0), .val (.int db1), .val (.int db2), .val (.int db3), .val (.int dt), .val (.int dc), .val (.int ppp), .val (.int frm), .val (.int len), .val (.int too), .val (.ref b30), .unset, .unset, .unset, .unset, .unset, .unset, .unset, .unset, .unset, .unset, .unset, .unset, .unset, .unset, .unset] [(.int dt), (.int (5 : Int32)), (.ref b30)])) t → Steps p.tables e below (s₁.setTop (entryFrame m #[(.int p1), (.int p2), (.int p3), (.int p4)] maxLocals)) t := fun t kt => by
    refine pre56 t ?_
    refine XS.aload X54.here hx rfl (hb hby at_122) rfl rfl ?_
    show Steps p.tables e below (T54.setTop (mkF m 124 #[.val (.int p1), .val (.int p2), .val (.int p3), .val (.int p4), .val (.int db0), .val (.int db1), .val (.int db2), .val (.int db3), .val (.int dt), .val (.int dc), .val (.int ppp), .val (.int frm), .val (.int len), .val (.int too), .val (.ref b30), .unset, .unset, .unset, .unset, .unset, .unset, .unset, .unset, .unset, .unset, .unset, .unset, .unset, .unset, .unset] [(.ref b30)])) _
    refine XS.iconst X54.here hx rfl (hb hby at_124) ?_
    show Steps p.tables e below (T54.setTop (mkF m 125 #[.val (.int p1), .val (.int p2), .val (.int p3), .val (.int p4), .val (.int db0), .val (.int db1), .val (.int db2), .val (.int db3), .val (.int dt), .val (.int dc), .val (.int ppp), .val (.int frm), .val (.int len), .val (.int too), .val (.ref b30), .unset, .unset, .unset, .unset, .unset, .unset, .unset, .unset, .unset, .unset, .unset, .unset, .unset, .unset, .unset] [(.int (5 : Int32)), (.ref b30)])) _
    refine XS.iload X54.here hx rfl (hb hby at_125) rfl ?_
    show Steps p.tables e below (T54.setTop (mkF m 127 #[.val (.int p1), .val (.int p2), .val (.int p3), .val (.int p4), .val (.int db0), .val (.int db1), .val (.int db2), .val (.int db3), .val (.int dt), .val (.int dc), .val (.int ppp), .val (.int frm), .val (.int len), .val (.int too), .val (.ref b30), .unset, .unset, .unset, .unset, .unset, .unset, .unset, .unset, .unset, .unset, .unset, .unset, .unset, .unset, .unset] [(.int dt), (.int (5 : Int32)), (.ref b30)])) _
    exact kt
  obtain ⟨cl58, Ar58, S58, Ng58, H58⟩ := id V54_b30
  have hj58 : ¬ (5 : Int32) < 0 ∧ (5 : Int32) < (20 : Int32) := ⟨by decide, by decide⟩
  have hin58 := inb_of S58 hj58
  obtain ⟨T59, h59, X59, e59, W59, st59⟩ := stB X54 hx hZ e54 Ar58 (j := (5 : Int32)) hin58 (g := (mkF m 127 #[.val (.int p1), .val (.int p2), .val (.int p3), .val (.int p4), .val (.int db0), .val (.int db1), .val (.int db2), .val (.int db3), .val (.int dt), .val (.int dc), .val (.int ppp), .val (.int frm), .val (.int len), .val (.int too), .val (.ref b30), .unset, .unset, .unset, .unset, .unset, .unset, .unset, .unset, .unset, .unset, .unset, .unset, .unset, .unset, .unset] [(.int dt), (.int (5 : Int32)), (.ref b30)])) rfl rfl (hb hby at_127)
  have V59_b30 : Arf Z h59 b30 .byte (20 : Int32) (fun i => (.int ((own_upd (own_upd (own_upd (own_upd (own_upd (own_upd (fun _ => (0 : Int32)) ((0 : Int32)).toNatClampNeg (nar .byte db0)) ((1 : Int32)).toNatClampNeg (nar .byte db1)) ((2 : Int32)).toNatClampNeg (nar .byte db2)) ((3 : Int32)).toNatClampNeg (nar .byte db3)) ((4 : Int32)).toNatClampNeg (nar .byte dt)) ((5 : Int32)).toNatClampNeg (nar .byte dt)) i))) := upd_int _ _ _ ▸ (V54_b30.set W59)
  have Z59 : n0 ≤ h59.size := Nat.le_trans Z54 (Keep.of_wr W59).1
  have pre61 : ∀ t, Steps p.tables e below (T59.setTop (mkF m 128 #[.val (.int p1), .val (.int p2), .val (.int p3), .val (.int p4), .val (.int db0), .val (.int db1), .val (.int db2), .val (.int db3), .val (.int dt), .val (.int dc), .val (.int ppp), .val (.int frm), .val (.int len), .val (.int too), .val (.ref b30), .unset, .unset, .unset, .unset, .unset, .unset, .unset, .unset, .unset, .unset, .unset, .unset, .unset, .unset, .unset] [])) t → Steps p.tables e below (s₁.setTop (entryFrame m #[(.int p1), (.int p2), (.int p3), (.int p4)] maxLocals)) t := fun t kt => pre57 t (st59 t kt)
  have N59 := Fr.snoc X59 N54 g_b30
  have pre62 : ∀ t, Steps p.tables e below (T59.setTop (mkF m 134 #[.val (.int p1), .val (.int p2), .val (.int p3), .val (.int p4), .val (.int db0), .val (.int db1), .val (.int db2), .val (.int db3), .val (.int dt), .val (.int dc), .val (.int ppp), .val (.int frm), .val (.int len), .val (.int too), .val (.ref b30), .unset, .unset, .unset, .unset, .unset, .unset, .unset, .unset, .unset, .unset, .unset, .unset, .unset, .unset, .unset] [(.int dt), (.int (6 : Int32)), (.ref b30)])) t → Steps p.tables e below (s₁.setTop (entryFrame m #[(.int p1), (.int p2), (.int p3), (.int p4)] maxLocals)) t := fun t kt => by
    refine pre61 t ?_
    refine XS.aload X59.here hx rfl (hb hby at_128) rfl rfl ?_
    show Steps p.tables e below (T59.setTop (mkF m 130 #[.val (.int p1), .val (.int p2), .val (.int p3), .val (.int p4), .val (.int db0), .val (.int db1), .val (.int db2), .val (.int db3), .val (.int dt), .val (.int dc), .val (.int ppp), .val (.int frm), .val (.int len), .val (.int too), .val (.ref b30), .unset, .unset, .unset, .unset, .unset, .unset, .unset, .unset, .unset, .unset, .unset, .unset, .unset, .unset, .unset] [(.ref b30)])) _
    refine XS.bipush X59.here hx rfl (hb hby at_130) ?_
    show Steps p.tables e below (T59.setTop (mkF m 132 #[.val (.int p1), .val (.int p2), .val (.int p3), .val (.int p4), .val (.int db0), .val (.int db1), .val (.int db2), .val (.int db3), .val (.int dt), .val (.int dc), .val (.int ppp), .val (.int frm), .val (.int len), .val (.int too), .val (.ref b30), .unset, .unset, .unset, .unset, .unset, .unset, .unset, .unset, .unset, .unset, .unset, .unset, .unset, .unset, .unset] [(.int (6 : Int32)), (.ref b30)])) _
    refine XS.iload X59.here hx rfl (hb hby at_132) rfl ?_
    show Steps p.tables e below (T59.setTop (mkF m 134 #[.val (.int p1), .val (.int p2), .val (.int p3), .val (.int p4), .val (.int db0), .val (.int db1), .val (.int db2), .val (.int db3), .val (.int dt), .val (.int dc), .val (.int ppp), .val (.int frm), .val (.int len), .val (.int too), .val (.ref b30), .unset, .unset, .unset, .unset, .unset, .unset, .unset, .unset, .unset, .unset, .unset, .unset, .unset, .unset, .unset] [(.int dt), (.int (6 : Int32)), (.ref b30)])) _
    exact kt
  obtain ⟨cl63, Ar63, S63, Ng63, H63⟩ := id V59_b30
  have hj63 : ¬ (6 : Int32) < 0 ∧ (6 : Int32) < (20 : Int32) := ⟨by decide, by decide⟩
  have hin63 := inb_of S63 hj63
  obtain ⟨T64, h64, X64, e64, W64, st64⟩ := stB X59 hx hZ e59 Ar63 (j := (6 : Int32)) hin63 (g := (mkF m 134 #[.val (.int p1), .val (.int p2), .val (.int p3), .val (.int p4), .val (.int db0), .val (.int db1), .val (.int db2), .val (.int db3), .val (.int dt), .val (.int dc), .val (.int ppp), .val (.int frm), .val (.int len), .val (.int too), .val (.ref b30), .unset, .unset, .unset, .unset, .unset, .unset, .unset, .unset, .unset, .unset, .unset, .unset, .unset, .unset, .unset] [(.int dt), (.int (6 : Int32)), (.ref b30)])) rfl rfl (hb hby at_134)
  have V64_b30 : Arf Z h64 b30 .byte (20 : Int32) (fun i => (.int ((own_upd (own_upd (own_upd (own_upd (own_upd (own_upd (own_upd (fun _ => (0 : Int32)) ((0 : Int32)).toNatClampNeg (nar .byte db0)) ((1 : Int32)).toNatClampNeg (nar .byte db1)) ((2 : Int32)).toNatClampNeg (nar .byte db2)) ((3 : Int32)).toNatClampNeg (nar .byte db3)) ((4 : Int32)).toNatClampNeg (nar .byte dt)) ((5 : Int32)).toNatClampNeg (nar .byte dt)) ((6 : Int32)).toNatClampNeg (nar .byte dt)) i))) := upd_int _ _ _ ▸ (V59_b30.set W64)
  have Z64 : n0 ≤ h64.size := Nat.le_trans Z59 (Keep.of_wr W64).1
  have pre66 : ∀ t, Steps p.tables e below (T64.setTop (mkF m 135 #[.val (.int p1), .val (.int p2), .val (.int p3), .val (.int p4), .val (.int db0), .val (.int db1), .val (.int db2), .val (.int db3), .val (.int dt), .val (.int dc), .val (.int ppp), .val (.int frm), .val (.int len), .val (.int too), .val (.ref b30), .unset, .unset, .unset, .unset, .unset, .unset, .unset, .unset, .unset, .unset, .unset, .unset, .unset, .unset, .unset] [])) t → Steps p.tables e below (s₁.setTop (entryFrame m #[(.int p1), (.int p2), (.int p3), (.int p4)] maxLocals)) t := fun t kt => pre62 t (st64 t kt)
  have N64 := Fr.snoc X64 N59 g_b30
  have pre67 : ∀ t, Steps p.tables e below (T64.setTop (mkF m 141 #[.val (.int p1), .val (.int p2), .val (.int p3), .val (.int p4), .val (.int db0), .val (.int db1), .val (.int db2), .val (.int db3), .val (.int dt), .val (.int dc), .val (.int ppp), .val (.int frm), .val (.int len), .val (.int too), .val (.ref b30), .unset, .unset, .unset, .unset, .unset, .unset, .unset, .unset, .unset, .unset, .unset, .unset, .unset, .unset, .unset] [(.int dt), (.int (7 : Int32)), (.ref b30)])) t → Steps p.tables e below (s₁.setTop (entryFrame m #[(.int p1), (.int p2), (.int p3), (.int p4)] maxLocals)) t := fun t kt => by
    refine pre66 t ?_
    refine XS.aload X64.here hx rfl (hb hby at_135) rfl rfl ?_
    show Steps p.tables e below (T64.setTop (mkF m 137 #[.val (.int p1), .val (.int p2), .val (.int p3), .val (.int p4), .val (.int db0), .val (.int db1), .val (.int db2), .val (.int db3), .val (.int dt), .val (.int dc), .val (.int ppp), .val (.int frm), .val (.int len), .val (.int too), .val (.ref b30), .unset, .unset, .unset, .unset, .unset, .unset, .unset, .unset, .unset, .unset, .unset, .unset, .unset, .unset, .unset] [(.ref b30)])) _
    refine XS.bipush X64.here hx rfl (hb hby at_137) ?_
    show Steps p.tables e below (T64.setTop (mkF m 139 #[.val (.int p1), .val (.int p2), .val (.int p3), .val (.int p4), .val (.int db0), .val (.int db1), .val (.int db2), .val (.int db3), .val (.int dt), .val (.int dc), .val (.int ppp), .val (.int frm), .val (.int len), .val (.int too), .val (.ref b30), .unset, .unset, .unset, .unset, .unset, .unset, .unset, .unset, .unset, .unset, .unset, .unset, .unset, .unset, .unset] [(.int (7 : Int32)), (.ref b30)])) _
    refine XS.iload X64.here hx rfl (hb hby at_139) rfl ?_
    show Steps p.tables e below (T64.setTop (mkF m 141 #[.val (.int p1), .val (.int p2), .val (.int p3), .val (.int p4), .val (.int db0), .val (.int db1), .val (.int db2), .val (.int db3), .val (.int dt), .val (.int dc), .val (.int ppp), .val (.int frm), .val (.int len), .val (.int too), .val (.ref b30), .unset, .unset, .unset, .unset, .unset, .unset, .unset, .unset, .unset, .unset, .unset, .unset, .unset, .unset, .unset] [(.int dt), (.int (7 : Int32)), (.ref b30)])) _
    exact kt
  obtain ⟨cl68, Ar68, S68, Ng68, H68⟩ := id V64_b30
  have hj68 : ¬ (7 : Int32) < 0 ∧ (7 : Int32) < (20 : Int32) := ⟨by decide, by decide⟩
  have hin68 := inb_of S68 hj68
  obtain ⟨T69, h69, X69, e69, W69, st69⟩ := stB X64 hx hZ e64 Ar68 (j := (7 : Int32)) hin68 (g := (mkF m 141 #[.val (.int p1), .val (.int p2), .val (.int p3), .val (.int p4), .val (.int db0), .val (.int db1), .val (.int db2), .val (.int db3), .val (.int dt), .val (.int dc), .val (.int ppp), .val (.int frm), .val (.int len), .val (.int too), .val (.ref b30), .unset, .unset, .unset, .unset, .unset, .unset, .unset, .unset, .unset, .unset, .unset, .unset, .unset, .unset, .unset] [(.int dt), (.int (7 : Int32)), (.ref b30)])) rfl rfl (hb hby at_141)
  have V69_b30 : Arf Z h69 b30 .byte (20 : Int32) (fun i => (.int ((own_upd (own_upd (own_upd (own_upd (own_upd (own_upd (own_upd (own_upd (fun _ => (0 : Int32)) ((0 : Int32)).toNatClampNeg (nar .byte db0)) ((1 : Int32)).toNatClampNeg (nar .byte db1)) ((2 : Int32)).toNatClampNeg (nar .byte db2)) ((3 : Int32)).toNatClampNeg (nar .byte db3)) ((4 : Int32)).toNatClampNeg (nar .byte dt)) ((5 : Int32)).toNatClampNeg (nar .byte dt)) ((6 : Int32)).toNatClampNeg (nar .byte dt)) ((7 : Int32)).toNatClampNeg (nar .byte dt)) i))) := upd_int _ _ _ ▸ (V64_b30.set W69)
  have Z69 : n0 ≤ h69.size := Nat.le_trans Z64 (Keep.of_wr W69).1
  have pre71 : ∀ t, Steps p.tables e below (T69.setTop (mkF m 142 #[.val (.int p1), .val (.int p2), .val (.int p3), .val (.int p4), .val (.int db0), .val (.int db1), .val (.int db2), .val (.int db3), .val (.int dt), .val (.int dc), .val (.int ppp), .val (.int frm), .val (.int len), .val (.int too), .val (.ref b30), .unset, .unset, .unset, .unset, .unset, .unset, .unset, .unset, .unset, .unset, .unset, .unset, .unset, .unset, .unset] [])) t → Steps p.tables e below (s₁.setTop (entryFrame m #[(.int p1), (.int p2), (.int p3), (.int p4)] maxLocals)) t := fun t kt => pre67 t (st69 t kt)
  have N69 := Fr.snoc X69 N64 g_b30
  have pre72 : ∀ t, Steps p.tables e below (T69.setTop (mkF m 148 #[.val (.int p1), .val (.int p2), .val (.int p3), .val (.int p4), .val (.int db0), .val (.int db1), .val (.int db2), .val (.int db3), .val (.int dt), .val (.int dc), .val (.int ppp), .val (.int frm), .val (.int len), .val (.int too), .val (.ref b30), .unset, .unset, .unset, .unset, .unset, .unset, .unset, .unset, .unset, .unset, .unset, .unset, .unset, .unset, .unset] [(.int dt), (.int (8 : Int32)), (.ref b30)])) t → Steps p.tables e below (s₁.setTop (entryFrame m #[(.int p1), (.int p2), (.int p3), (.int p4)] maxLocals)) t := fun t kt => by
    refine pre71 t ?_
    refine XS.aload X69.here hx rfl (hb hby at_142) rfl rfl ?_
    show Steps p.tables e below (T69.setTop (mkF m 144 #[.val (.int p1), .val (.int p2), .val (.int p3), .val (.int p4), .val (.int db0), .val (.int db1), .val (.int db2), .val (.int db3), .val (.int dt), .val (.int dc), .val (.int ppp), .val (.int frm), .val (.int len), .val (.int too), .val (.ref b30), .unset, .unset, .unset, .unset, .unset, .unset, .unset, .unset, .unset, .unset, .unset, .unset, .unset, .unset, .unset] [(.ref b30)])) _
    refine XS.bipush X69.here hx rfl (hb hby at_144) ?_
    show Steps p.tables e below (T69.setTop (mkF m 146 #[.val (.int p1), .val (.int p2), .val (.int p3), .val (.int p4), .val (.int db0), .val (.int db1), .val (.int db2), .val (.int db3), .val (.int dt), .val (.int dc), .val (.int ppp), .val (.int frm), .val (.int len), .val (.int too), .val (.ref b30), .unset, .unset, .unset, .unset, .unset, .unset, .unset, .unset, .unset, .unset, .unset, .unset, .unset, .unset, .unset] [(.int (8 : Int32)), (.ref b30)])) _
    refine XS.iload X69.here hx rfl (hb hby at_146) rfl ?_
    show Steps p.tables e below (T69.setTop (mkF m 148 #[.val (.int p1), .val (.int p2), .val (.int p3), .val (.int p4), .val (.int db0), .val (.int db1), .val (.int db2), .val (.int db3), .val (.int dt), .val (.int dc), .val (.int ppp), .val (.int frm), .val (.int len), .val (.int too), .val (.ref b30), .unset, .unset, .unset, .unset, .unset, .unset, .unset, .unset, .unset, .unset, .unset, .unset, .unset, .unset, .unset] [(.int dt), (.int (8 : Int32)), (.ref b30)])) _
    exact kt
  obtain ⟨cl73, Ar73, S73, Ng73, H73⟩ := id V69_b30
  have hj73 : ¬ (8 : Int32) < 0 ∧ (8 : Int32) < (20 : Int32) := ⟨by decide, by decide⟩
  have hin73 := inb_of S73 hj73
  obtain ⟨T74, h74, X74, e74, W74, st74⟩ := stB X69 hx hZ e69 Ar73 (j := (8 : Int32)) hin73 (g := (mkF m 148 #[.val (.int p1), .val (.int p2), .val (.int p3), .val (.int p4), .val (.int db0), .val (.int db1), .val (.int db2), .val (.int db3), .val (.int dt), .val (.int dc), .val (.int ppp), .val (.int frm), .val (.int len), .val (.int too), .val (.ref b30), .unset, .unset, .unset, .unset, .unset, .unset, .unset, .unset, .unset, .unset, .unset, .unset, .unset, .unset, .unset] [(.int dt), (.int (8 : Int32)), (.ref b30)])) rfl rfl (hb hby at_148)
  have V74_b30 : Arf Z h74 b30 .byte (20 : Int32) (fun i => (.int ((own_upd (own_upd (own_upd (own_upd (own_upd (own_upd (own_upd (own_upd (own_upd (fun _ => (0 : Int32)) ((0 : Int32)).toNatClampNeg (nar .byte db0)) ((1 : Int32)).toNatClampNeg (nar .byte db1)) ((2 : Int32)).toNatClampNeg (nar .byte db2)) ((3 : Int32)).toNatClampNeg (nar .byte db3)) ((4 : Int32)).toNatClampNeg (nar .byte dt)) ((5 : Int32)).toNatClampNeg (nar .byte dt)) ((6 : Int32)).toNatClampNeg (nar .byte dt)) ((7 : Int32)).toNatClampNeg (nar .byte dt)) ((8 : Int32)).toNatClampNeg (nar .byte dt)) i))) := upd_int _ _ _ ▸ (V69_b30.set W74)
  have Z74 : n0 ≤ h74.size := Nat.le_trans Z69 (Keep.of_wr W74).1
  have pre76 : ∀ t, Steps p.tables e below (T74.setTop (mkF m 149 #[.val (.int p1), .val (.int p2), .val (.int p3), .val (.int p4), .val (.int db0), .val (.int db1), .val (.int db2), .val (.int db3), .val (.int dt), .val (.int dc), .val (.int ppp), .val (.int frm), .val (.int len), .val (.int too), .val (.ref b30), .unset, .unset, .unset, .unset, .unset, .unset, .unset, .unset, .unset, .unset, .unset, .unset, .unset, .unset, .unset] [])) t → Steps p.tables e below (s₁.setTop (entryFrame m #[(.int p1), (.int p2), (.int p3), (.int p4)] maxLocals)) t := fun t kt => pre72 t (st74 t kt)
  have N74 := Fr.snoc X74 N69 g_b30
  have pre77 : ∀ t, Steps p.tables e below (T74.setTop (mkF m 155 #[.val (.int p1), .val (.int p2), .val (.int p3), .val (.int p4), .val (.int db0), .val (.int db1), .val (.int db2), .val (.int db3), .val (.int dt), .val (.int dc), .val (.int ppp), .val (.int frm), .val (.int len), .val (.int too), .val (.ref b30), .unset, .unset, .unset, .unset, .unset, .unset, .unset, .unset, .unset, .unset, .unset, .unset, .unset, .unset, .unset] [(.int dt), (.int (9 : Int32)), (.ref b30)])) t → Steps p.tables e below (s₁.setTop (entryFrame m #[(.int p1), (.int p2), (.int p3), (.int p4)] maxLocals)) t := fun t kt => by
    refine pre76 t ?_
    refine XS.aload X74.here hx rfl (hb hby at_149) rfl rfl ?_
    show Steps p.tables e below (T74.setTop (mkF m 151 #[.val (.int p1), .val (.int p2), .val (.int p3), .val (.int p4), .val (.int db0), .val (.int db1), .val (.int db2), .val (.int db3), .val (.int dt), .val (.int dc), .val (.int ppp), .val (.int frm), .val (.int len), .val (.int too), .val (.ref b30), .unset, .unset, .unset, .unset, .unset, .unset, .unset, .unset, .unset, .unset, .unset, .unset, .unset, .unset, .unset] [(.ref b30)])) _
    refine XS.bipush X74.here hx rfl (hb hby at_151) ?_
    show Steps p.tables e below (T74.setTop (mkF m 153 #[.val (.int p1), .val (.int p2), .val (.int p3), .val (.int p4), .val (.int db0), .val (.int db1), .val (.int db2), .val (.int db3), .val (.int dt), .val (.int dc), .val (.int ppp), .val (.int frm), .val (.int len), .val (.int too), .val (.ref b30), .unset, .unset, .unset, .unset, .unset, .unset, .unset, .unset, .unset, .unset, .unset, .unset, .unset, .unset, .unset] [(.int (9 : Int32)), (.ref b30)])) _
    refine XS.iload X74.here hx rfl (hb hby at_153) rfl ?_
    show Steps p.tables e below (T74.setTop (mkF m 155 #[.val (.int p1), .val (.int p2), .val (.int p3), .val (.int p4), .val (.int db0), .val (.int db1), .val (.int db2), .val (.int db3), .val (.int dt), .val (.int dc), .val (.int ppp), .val (.int frm), .val (.int len), .val (.int too), .val (.ref b30), .unset, .unset, .unset, .unset, .unset, .unset, .unset, .unset, .unset, .unset, .unset, .unset, .unset, .unset, .unset] [(.int dt), (.int (9 : Int32)), (.ref b30)])) _
    exact kt
  obtain ⟨cl78, Ar78, S78, Ng78, H78⟩ := id V74_b30
  have hj78 : ¬ (9 : Int32) < 0 ∧ (9 : Int32) < (20 : Int32) := ⟨by decide, by decide⟩
  have hin78 := inb_of S78 hj78
  obtain ⟨T79, h79, X79, e79, W79, st79⟩ := stB X74 hx hZ e74 Ar78 (j := (9 : Int32)) hin78 (g := (mkF m 155 #[.val (.int p1), .val (.int p2), .val (.int p3), .val (.int p4), .val (.int db0), .val (.int db1), .val (.int db2), .val (.int db3), .val (.int dt), .val (.int dc), .val (.int ppp), .val (.int frm), .val (.int len), .val (.int too), .val (.ref b30), .unset, .unset, .unset, .unset, .unset, .unset, .unset, .unset, .unset, .unset, .unset, .unset, .unset, .unset, .unset] [(.int dt), (.int (9 : Int32)), (.ref b30)])) rfl rfl (hb hby at_155)
  have V79_b30 : Arf Z h79 b30 .byte (20 : Int32) (fun i => (.int ((own_upd (own_upd (own_upd (own_upd (own_upd (own_upd (own_upd (own_upd (own_upd (own_upd (fun _ => (0 : Int32)) ((0 : Int32)).toNatClampNeg (nar .byte db0)) ((1 : Int32)).toNatClampNeg (nar .byte db1)) ((2 : Int32)).toNatClampNeg (nar .byte db2)) ((3 : Int32)).toNatClampNeg (nar .byte db3)) ((4 : Int32)).toNatClampNeg (nar .byte dt)) ((5 : Int32)).toNatClampNeg (nar .byte dt)) ((6 : Int32)).toNatClampNeg (nar .byte dt)) ((7 : Int32)).toNatClampNeg (nar .byte dt)) ((8 : Int32)).toNatClampNeg (nar .byte dt)) ((9 : Int32)).toNatClampNeg (nar .byte dt)) i))) := upd_int _ _ _ ▸ (V74_b30.set W79)
  have Z79 : n0 ≤ h79.size := Nat.le_trans Z74 (Keep.of_wr W79).1
  have pre81 : ∀ t, Steps p.tables e below (T79.setTop (mkF m 156 #[.val (.int p1), .val (.int p2), .val (.int p3), .val (.int p4), .val (.int db0), .val (.int db1), .val (.int db2), .val (.int db3), .val (.int dt), .val (.int dc), .val (.int ppp), .val (.int frm), .val (.int len), .val (.int too), .val (.ref b30), .unset, .unset, .unset, .unset, .unset, .unset, .unset, .unset, .unset, .unset, .unset, .unset, .unset, .unset, .unset] [])) t → Steps p.tables e below (s₁.setTop (entryFrame m #[(.int p1), (.int p2), (.int p3), (.int p4)] maxLocals)) t := fun t kt => pre77 t (st79 t kt)
  have N79 := Fr.snoc X79 N74 g_b30
  have pre82 : ∀ t, Steps p.tables e below (T79.setTop (mkF m 162 #[.val (.int p1), .val (.int p2), .val (.int p3), .val (.int p4), .val (.int db0), .val (.int db1), .val (.int db2), .val (.int db3), .val (.int dt), .val (.int dc), .val (.int ppp), .val (.int frm), .val (.int len), .val (.int too), .val (.ref b30), .unset, .unset, .unset, .unset, .unset, .unset, .unset, .unset, .unset, .unset, .unset, .unset, .unset, .unset, .unset] [(.int dt), (.int (10 : Int32)), (.ref b30)])) t → Steps p.tables e below (s₁.setTop (entryFrame m #[(.int p1), (.int p2), (.int p3), (.int p4)] maxLocals)) t := fun t kt => by
    refine pre81 t ?_
    refine XS.aload X79.here hx rfl (hb hby at_156) rfl rfl ?_
    show Steps p.tables e below (T79.setTop (mkF m 158 #[.val (.int p1), .val (.int p2), .val (.int p3), .val (.int p4), .val (.int db0), .val (.int db1), .val (.int db2), .val (.int db3), .val (.int dt), .val (.int dc), .val (.int ppp), .val (.int frm), .val (.int len), .val (.int too), .val (.ref b30), .unset, .unset, .unset, .unset, .unset, .unset, .unset, .unset, .unset, .unset, .unset, .unset, .unset, .unset, .unset] [(.ref b30)])) _
    refine XS.bipush X79.here hx rfl (hb hby at_158) ?_
    show Steps p.tables e below (T79.setTop (mkF m 160 #[.val (.int p1), .val (.int p2), .val (.int p3), .val (.int p4), .val (.int db0), .val (.int db1), .val (.int db2), .val (.int db3), .val (.int dt), .val (.int dc), .val (.int ppp), .val (.int frm), .val (.int len), .val (.int too), .val (.ref b30), .unset, .unset, .unset, .unset, .unset, .unset, .unset, .unset, .unset, .unset, .unset, .unset, .unset, .unset, .unset] [(.int (10 : Int32)), (.ref b30)])) _
    refine XS.iload X79.here hx rfl (hb hby at_160) rfl ?_
    show Steps p.tables e below (T79.setTop (mkF m 162 #[.val (.int p1), .val (.int p2), .val (.int p3), .val (.int p4), .val (.int db0), .val (.int db1), .val (.int db2), .val (.int db3), .val (.int dt), .val (.int dc), .val (.int ppp), .val (.int frm), .val (.int len), .val (.int too), .val (.ref b30), .unset, .unset, .unset, .unset, .unset, .unset, .unset, .unset, .unset, .unset, .unset, .unset, .unset, .unset, .unset] [(.int dt), (.int (10 : Int32)), (.ref b30)])) _
    exact kt
  obtain ⟨cl83, Ar83, S83, Ng83, H83⟩ := id V79_b30
  have hj83 : ¬ (10 : Int32) < 0 ∧ (10 : Int32) < (20 : Int32) := ⟨by decide, by decide⟩
  have hin83 := inb_of S83 hj83
  obtain ⟨T84, h84, X84, e84, W84, st84⟩ := stB X79 hx hZ e79 Ar83 (j := (10 : Int32)) hin83 (g := (mkF m 162 #[.val (.int p1), .val (.int p2), .val (.int p3), .val (.int p4), .val (.int db0), .val (.int db1), .val (.int db2), .val (.int db3), .val (.int dt), .val (.int dc), .val (.int ppp), .val (.int frm), .val (.int len), .val (.int too), .val (.ref b30), .unset, .unset, .unset, .unset, .unset, .unset, .unset, .unset, .unset, .unset, .unset, .unset, .unset, .unset, .unset] [(.int dt), (.int (10 : Int32)), (.ref b30)])) rfl rfl (hb hby at_162)
  have V84_b30 : Arf Z h84 b30 .byte (20 : Int32) (fun i => (.int ((own_upd (own_upd (own_upd (own_upd (own_upd (own_upd (own_upd (own_upd (own_upd (own_upd (own_upd (fun _ => (0 : Int32)) ((0 : Int32)).toNatClampNeg (nar .byte db0)) ((1 : Int32)).toNatClampNeg (nar .byte db1)) ((2 : Int32)).toNatClampNeg (nar .byte db2)) ((3 : Int32)).toNatClampNeg (nar .byte db3)) ((4 : Int32)).toNatClampNeg (nar .byte dt)) ((5 : Int32)).toNatClampNeg (nar .byte dt)) ((6 : Int32)).toNatClampNeg (nar .byte dt)) ((7 : Int32)).toNatClampNeg (nar .byte dt)) ((8 : Int32)).toNatClampNeg (nar .byte dt)) ((9 : Int32)).toNatClampNeg (nar .byte dt)) ((10 : Int32)).toNatClampNeg (nar .byte dt)) i))) := upd_int _ _ _ ▸ (V79_b30.set W84)
  have Z84 : n0 ≤ h84.size := Nat.le_trans Z79 (Keep.of_wr W84).1
  have pre86 : ∀ t, Steps p.tables e below (T84.setTop (mkF m 163 #[.val (.int p1), .val (.int p2), .val (.int p3), .val (.int p4), .val (.int db0), .val (.int db1), .val (.int db2), .val (.int db3), .val (.int dt), .val (.int dc), .val (.int ppp), .val (.int frm), .val (.int len), .val (.int too), .val (.ref b30), .unset, .unset, .unset, .unset, .unset, .unset, .unset, .unset, .unset, .unset, .unset, .unset, .unset, .unset, .unset] [])) t → Steps p.tables e below (s₁.setTop (entryFrame m #[(.int p1), (.int p2), (.int p3), (.int p4)] maxLocals)) t := fun t kt => pre82 t (st84 t kt)
  have N84 := Fr.snoc X84 N79 g_b30
  have pre87 : ∀ t, Steps p.tables e below (T84.setTop (mkF m 169 #[.val (.int p1), .val (.int p2), .val (.int p3), .val (.int p4), .val (.int db0), .val (.int db1), .val (.int db2), .val (.int db3), .val (.int dt), .val (.int dc), .val (.int ppp), .val (.int frm), .val (.int len), .val (.int too), .val (.ref b30), .unset, .unset, .unset, .unset, .unset, .unset, .unset, .unset, .unset, .unset, .unset, .unset, .unset, .unset, .unset] [(.int dt), (.int (11 : Int32)), (.ref b30)])) t → Steps p.tables e below (s₁.setTop (entryFrame m #[(.int p1), (.int p2), (.int p3), (.int p4)] maxLocals)) t := fun t kt => by
    refine pre86 t ?_
    refine XS.aload X84.here hx rfl (hb hby at_163) rfl rfl ?_
    show Steps p.tables e below (T84.setTop (mkF m 165 #[.val (.int p1), .val (.int p2), .val (.int p3), .val (.int p4), .val (.int db0), .val (.int db1), .val (.int db2), .val (.int db3), .val (.int dt), .val (.int dc), .val (.int ppp), .val (.int frm), .val (.int len), .val (.int too), .val (.ref b30), .unset, .unset, .unset, .unset, .unset, .unset, .unset, .unset, .unset, .unset, .unset, .unset, .unset, .unset, .unset] [(.ref b30)])) _
    refine XS.bipush X84.here hx rfl (hb hby at_165) ?_
    show Steps p.tables e below (T84.setTop (mkF m 167 #[.val (.int p1), .val (.int p2), .val (.int p3), .val (.int p4), .val (.int db0), .val (.int db1), .val (.int db2), .val (.int db3), .val (.int dt), .val (.int dc), .val (.int ppp), .val (.int frm), .val (.int len), .val (.int too), .val (.ref b30), .unset, .unset, .unset, .unset, .unset, .unset, .unset, .unset, .unset, .unset, .unset, .unset, .unset, .unset, .unset] [(.int (11 : Int32)), (.ref b30)])) _
    refine XS.iload X84.here hx rfl (hb hby at_167) rfl ?_
    show Steps p.tables e below (T84.setTop (mkF m 169 #[.val (.int p1), .val (.int p2), .val (.int p3), .val (.int p4), .val (.int db0), .val (.int db1), .val (.int db2), .val (.int db3), .val (.int dt), .val (.int dc), .val (.int ppp), .val (.int frm), .val (.int len), .val (.int too), .val (.ref b30), .unset, .unset, .unset, .unset, .unset, .unset, .unset, .unset, .unset, .unset, .unset, .unset, .unset, .unset, .unset] [(.int dt), (.int (11 : Int32)), (.ref b30)])) _
    exact kt
  obtain ⟨cl88, Ar88, S88, Ng88, H88⟩ := id V84_b30
  have hj88 : ¬ (11 : Int32) < 0 ∧ (11 : Int32) < (20 : Int32) := ⟨by decide, by decide⟩
  have hin88 := inb_of S88 hj88
  obtain ⟨T89, h89, X89, e89, W89, st89⟩ := stB X84 hx hZ e84 Ar88 (j := (11 : Int32)) hin88 (g := (mkF m 169 #[.val (.int p1), .val (.int p2), .val (.int p3), .val (.int p4), .val (.int db0), .val (.int db1), .val (.int db2), .val (.int db3), .val (.int dt), .val (.int dc), .val (.int ppp), .val (.int frm), .val (.int len), .val (.int too), .val (.ref b30), .unset, .unset, .unset, .unset, .unset, .unset, .unset, .unset, .unset, .unset, .unset, .unset, .unset, .unset, .unset] [(.int dt), (.int (11 : Int32)), (.ref b30)])) rfl rfl (hb hby at_169)
  have V89_b30 : Arf Z h89 b30 .byte (20 : Int32) (fun i => (.int ((own_upd (own_upd (own_upd (own_upd (own_upd (own_upd (own_upd (own_upd (own_upd (own_upd (own_upd (own_upd (fun _ => (0 : Int32)) ((0 : Int32)).toNatClampNeg (nar .byte db0)) ((1 : Int32)).toNatClampNeg (nar .byte db1)) ((2 : Int32)).toNatClampNeg (nar .byte db2)) ((3 : Int32)).toNatClampNeg (nar .byte db3)) ((4 : Int32)).toNatClampNeg (nar .byte dt)) ((5 : Int32)).toNatClampNeg (nar .byte dt)) ((6 : Int32)).toNatClampNeg (nar .byte dt)) ((7 : Int32)).toNatClampNeg (nar .byte dt)) ((8 : Int32)).toNatClampNeg (nar .byte dt)) ((9 : Int32)).toNatClampNeg (nar .byte dt)) ((10 : Int32)).toNatClampNeg (nar .byte dt)) ((11 : Int32)).toNatClampNeg (nar .byte dt)) i))) := upd_int _ _ _ ▸ (V84_b30.set W89)
  have Z89 : n0 ≤ h89.size := Nat.le_trans Z84 (Keep.of_wr W89).1
  have pre91 : ∀ t, Steps p.tables e below (T89.setTop (mkF m 170 #[.val (.int p1), .val (.int p2), .val (.int p3), .val (.int p4), .val (.int db0), .val (.int db1), .val (.int db2), .val (.int db3), .val (.int dt), .val (.int dc), .val (.int ppp), .val (.int frm), .val (.int len), .val (.int too), .val (.ref b30), .unset, .unset, .unset, .unset, .unset, .unset, .unset, .unset, .unset, .unset, .unset, .unset, .unset, .unset, .unset] [])) t → Steps p.tables e below (s₁.setTop (entryFrame m #[(.int p1), (.int p2), (.int p3), (.int p4)] maxLocals)) t := fun t kt => pre87 t (st89 t kt)
  have N89 := Fr.snoc X89 N84 g_b30
  have pre92 : ∀ t, Steps p.tables e below (T89.setTop (mkF m 176 #[.val (.int p1), .val (.int p2), .val (.int p3), .val (.int p4), .val (.int db0), .val (.int db1), .val (.int db2), .val (.int db3), .val (.int dt), .val (.int dc), .val (.int ppp), .val (.int frm), .val (.int len), .val (.int too), .val (.ref b30), .unset, .unset, .unset, .unset, .unset, .unset, .unset, .unset, .unset, .unset, .unset, .unset, .unset, .unset, .unset] [(.int dt), (.int (12 : Int32)), (.ref b30)])) t → Steps p.tables e below (s₁.setTop (entryFrame m #[(.int p1), (.int p2), (.int p3), (.int p4)] maxLocals)) t := fun t kt => by
    refine pre91 t ?_
    refine XS.aload X89.here hx rfl (hb hby at_170) rfl rfl ?_
    show Steps p.tables e below (T89.setTop (mkF m 172 #[.val (.int p1), .val (.int p2), .val (.int p3), .val (.int p4), .val (.int db0), .val (.int db1), .val (.int db2), .val (.int db3), .val (.int dt), .val (.int dc), .val (.int ppp), .val (.int frm), .val (.int len), .val (.int too), .val (.ref b30), .unset, .unset, .unset, .unset, .unset, .unset, .unset, .unset, .unset, .unset, .unset, .unset, .unset, .unset, .unset] [(.ref b30)])) _
    refine XS.bipush X89.here hx rfl (hb hby at_172) ?_
    show Steps p.tables e below (T89.setTop (mkF m 174 #[.val (.int p1), .val (.int p2), .val (.int p3), .val (.int p4), .val (.int db0), .val (.int db1), .val (.int db2), .val (.int db3), .val (.int dt), .val (.int dc), .val (.int ppp), .val (.int frm), .val (.int len), .val (.int too), .val (.ref b30), .unset, .unset, .unset, .unset, .unset, .unset, .unset, .unset, .unset, .unset, .unset, .unset, .unset, .unset, .unset] [(.int (12 : Int32)), (.ref b30)])) _
    refine XS.iload X89.here hx rfl (hb hby at_174) rfl ?_
    show Steps p.tables e below (T89.setTop (mkF m 176 #[.val (.int p1), .val (.int p2), .val (.int p3), .val (.int p4), .val (.int db0), .val (.int db1), .val (.int db2), .val (.int db3), .val (.int dt), .val (.int dc), .val (.int ppp), .val (.int frm), .val (.int len), .val (.int too), .val (.ref b30), .unset, .unset, .unset, .unset, .unset, .unset, .unset, .unset, .unset, .unset, .unset, .unset, .unset, .unset, .unset] [(.int dt), (.int (12 : Int32)), (.ref b30)])) _
    exact kt
  obtain ⟨cl93, Ar93, S93, Ng93, H93⟩ := id V89_b30
  have hj93 : ¬ (12 : Int32) < 0 ∧ (12 : Int32) < (20 : Int32) := ⟨by decide, by decide⟩
  have hin93 := inb_of S93 hj93
  obtain ⟨T94, h94, X94, e94, W94, st94⟩ := stB X89 hx hZ e89 Ar93 (j := (12 : Int32)) hin93 (g := (mkF m 176 #[.val (.int p1), .val (.int p2), .val (.int p3), .val (.int p4), .val (.int db0), .val (.int db1), .val (.int db2), .val (.int db3), .val (.int dt), .val (.int dc), .val (.int ppp), .val (.int frm), .val (.int len), .val (.int too), .val (.ref b30), .unset, .unset, .unset, .unset, .unset, .unset, .unset, .unset, .unset, .unset, .unset, .unset, .unset, .unset, .unset] [(.int dt), (.int (12 : Int32)), (.ref b30)])) rfl rfl (hb hby at_176)
  have V94_b30 : Arf Z h94 b30 .byte (20 : Int32) (fun i => (.int ((own_upd (own_upd (own_upd (own_upd (own_upd (own_upd (own_upd (own_upd (own_upd (own_upd (own_upd (own_upd (own_upd (fun _ => (0 : Int32)) ((0 : Int32)).toNatClampNeg (nar .byte db0)) ((1 : Int32)).toNatClampNeg (nar .byte db1)) ((2 : Int32)).toNatClampNeg (nar .byte db2)) ((3 : Int32)).toNatClampNeg (nar .byte db3)) ((4 : Int32)).toNatClampNeg (nar .byte dt)) ((5 : Int32)).toNatClampNeg (nar .byte dt)) ((6 : Int32)).toNatClampNeg (nar .byte dt)) ((7 : Int32)).toNatClampNeg (nar .byte dt)) ((8 : Int32)).toNatClampNeg (nar .byte dt)) ((9 : Int32)).toNatClampNeg (nar .byte dt)) ((10 : Int32)).toNatClampNeg (nar .byte dt)) ((11 : Int32)).toNatClampNeg (nar .byte dt)) ((12 : Int32)).toNatClampNeg (nar .byte dt)) i))) := upd_int _ _ _ ▸ (V89_b30.set W94)
  have Z94 : n0 ≤ h94.size := Nat.le_trans Z89 (Keep.of_wr W94).1
  have pre96 : ∀ t, Steps p.tables e below (T94.setTop (mkF m 177 #[.val (.int p1), .val (.int p2), .val (.int p3), .val (.int p4), .val (.int db0), .val (.int db1), .val (.int db2), .val (.int db3), .val (.int dt), .val (.int dc), .val (.int ppp), .val (.int frm), .val (.int len), .val (.int too), .val (.ref b30), .unset, .unset, .unset, .unset, .unset, .unset, .unset, .unset, .unset, .unset, .unset, .unset, .unset, .unset, .unset] [])) t → Steps p.tables e below (s₁.setTop (entryFrame m #[(.int p1), (.int p2), (.int p3), (.int p4)] maxLocals)) t := fun t kt => pre92 t (st94 t kt)
  have N94 := Fr.snoc X94 N89 g_b30
  have pre97 : ∀ t, Steps p.tables e below (T94.setTop (mkF m 183 #[.val (.int p1), .val (.int p2), .val (.int p3), .val (.int p4), .val (.int db0), .val (.int db1), .val (.int db2), .val (.int db3), .val (.int dt), .val (.int dc), .val (.int ppp), .val (.int frm), .val (.int len), .val (.int too), .val (.ref b30), .unset, .unset, .unset, .unset, .unset, .unset, .unset, .unset, .unset, .unset, .unset, .unset, .unset, .unset, .unset] [(.int dt), (.int (13 : Int32)), (.ref b30)])) t → Steps p.tables e below (s₁.setTop (entryFrame m #[(.int p1), (.int p2), (.int p3), (.int p4)] maxLocals)) t := fun t kt => by
    refine pre96 t ?_
    refine XS.aload X94.here hx rfl (hb hby at_177) rfl rfl ?_
    show Steps p.tables e below (T94.setTop (mkF m 179 #[.val (.int p1), .val (.int p2), .val (.int p3), .val (.int p4), .val (.int db0), .val (.int db1), .val (.int db2), .val (.int db3), .val (.int dt), .val (.int dc), .val (.int ppp), .val (.int frm), .val (.int len), .val (.int too), .val (.ref b30), .unset, .unset, .unset, .unset, .unset, .unset, .unset, .unset, .unset, .unset, .unset, .unset, .unset, .unset, .unset] [(.ref b30)])) _
    refine XS.bipush X94.here hx rfl (hb hby at_179) ?_
    show Steps p.tables e below (T94.setTop (mkF m 181 #[.val (.int p1), .val (.int p2), .val (.int p3), .val (.int p4), .val (.int db0), .val (.int db1), .val (.int db2), .val (.int db3), .val (.int dt), .val (.int dc), .val (.int ppp), .val (.int frm), .val (.int len), .val (.int too), .val (.ref b30), .unset, .unset, .unset, .unset, .unset, .unset, .unset, .unset, .unset, .unset, .unset, .unset, .unset, .unset, .unset] [(.int (13 : Int32)), (.ref b30)])) _
    refine XS.iload X94.here hx rfl (hb hby at_181) rfl ?_
    show Steps p.tables e below (T94.setTop (mkF m 183 #[.val (.int p1), .val (.int p2), .val (.int p3), .val (.int p4), .val (.int db0), .val (.int db1), .val (.int db2), .val (.int db3), .val (.int dt), .val (.int dc), .val (.int ppp), .val (.int frm), .val (.int len), .val (.int too), .val (.ref b30), .unset, .unset, .unset, .unset, .unset, .unset, .unset, .unset, .unset, .unset, .unset, .unset, .unset, .unset, .unset] [(.int dt), (.int (13 : Int32)), (.ref b30)])) _
    exact kt
  obtain ⟨cl98, Ar98, S98, Ng98, H98⟩ := id V94_b30
  have hj98 : ¬ (13 : Int32) < 0 ∧ (13 : Int32) < (20 : Int32) := ⟨by decide, by decide⟩
  have hin98 := inb_of S98 hj98
  obtain ⟨T99, h99, X99, e99, W99, st99⟩ := stB X94 hx hZ e94 Ar98 (j := (13 : Int32)) hin98 (g := (mkF m 183 #[.val (.int p1), .val (.int p2), .val (.int p3), .val (.int p4), .val (.int db0), .val (.int db1), .val (.int db2), .val (.int db3), .val (.int dt), .val (.int dc), .val (.int ppp), .val (.int frm), .val (.int len), .val (.int too), .val (.ref b30), .unset, .unset, .unset, .unset, .unset, .unset, .unset, .unset, .unset, .unset, .unset, .unset, .unset, .unset, .unset] [(.int dt), (.int (13 : Int32)), (.ref b30)])) rfl rfl (hb hby at_183)
  have V99_b30 : Arf Z h99 b30 .byte (20 : Int32) (fun i => (.int ((own_upd (own_upd (own_upd (own_upd (own_upd (own_upd (own_upd (own_upd (own_upd (own_upd (own_upd (own_upd (own_upd (own_upd (fun _ => (0 : Int32)) ((0 : Int32)).toNatClampNeg (nar .byte db0)) ((1 : Int32)).toNatClampNeg (nar .byte db1)) ((2 : Int32)).toNatClampNeg (nar .byte db2)) ((3 : Int32)).toNatClampNeg (nar .byte db3)) ((4 : Int32)).toNatClampNeg (nar .byte dt)) ((5 : Int32)).toNatClampNeg (nar .byte dt)) ((6 : Int32)).toNatClampNeg (nar .byte dt)) ((7 : Int32)).toNatClampNeg (nar .byte dt)) ((8 : Int32)).toNatClampNeg (nar .byte dt)) ((9 : Int32)).toNatClampNeg (nar .byte dt)) ((10 : Int32)).toNatClampNeg (nar .byte dt)) ((11 : Int32)).toNatClampNeg (nar .byte dt)) ((12 : Int32)).toNatClampNeg (nar .byte dt)) ((13 : Int32)).toNatClampNeg (nar .byte dt)) i))) := upd_int _ _ _ ▸ (V94_b30.set W99)
  have Z99 : n0 ≤ h99.size := Nat.le_trans Z94 (Keep.of_wr W99).1
  have pre101 : ∀ t, Steps p.tables e below (T99.setTop (mkF m 184 #[.val (.int p1), .val (.int p2), .val (.int p3), .val (.int p4), .val (.int db0), .val (.int db1), .val (.int db2), .val (.int db3), .val (.int dt), .val (.int dc), .val (.int ppp), .val (.int frm), .val (.int len), .val (.int too), .val (.ref b30), .unset, .unset, .unset, .unset, .unset, .unset, .unset, .unset, .unset, .unset, .unset, .unset, .unset, .unset, .unset] [])) t → Steps p.tables e below (s₁.setTop (entryFrame m #[(.int p1), (.int p2), (.int p3), (.int p4)] maxLocals)) t := fun t kt => pre97 t (st99 t kt)
  have N99 := Fr.snoc X99 N94 g_b30
  have pre102 : ∀ t, Steps p.tables e below (T99.setTop (mkF m 190 #[.val (.int p1), .val (.int p2), .val (.int p3), .val (.int p4), .val (.int db0), .val (.int db1), .val (.int db2), .val (.int db3), .val (.int dt), .val (.int dc), .val (.int ppp), .val (.int frm), .val (.int len), .val (.int too), .val (.ref b30), .unset, .unset, .unset, .unset, .unset, .unset, .unset, .unset, .unset, .unset, .unset, .unset, .unset, .unset, .unset] [(.int dt), (.int (14 : Int32)), (.ref b30)])) t → Steps p.tables e below (s₁.setTop (entryFrame m #[(.int p1), (.int p2), (.int p3), (.int p4)] maxLocals)) t := fun t kt => by
    refine pre101 t ?_
    refine XS.aload X99.here hx rfl (hb hby at_184) rfl rfl ?_
    show Steps p.tables e below (T99.setTop (mkF m 186 #[.val (.int p1), .val (.int p2), .val (.int p3), .val (.int p4), .val (.int db0), .val (.int db1), .val (.int db2), .val (.int db3), .val (.int dt), .val (.int dc), .val (.int ppp), .val (.int frm), .val (.int len), .val (.int too), .val (.ref b30), .unset, .unset, .unset, .unset, .unset, .unset, .unset, .unset, .unset, .unset, .unset, .unset, .unset, .unset, .unset] [(.ref b30)])) _
    refine XS.bipush X99.here hx rfl (hb hby at_186) ?_
    show Steps p.tables e below (T99.setTop (mkF m 188 #[.val (.int p1), .val (.int p2), .val (.int p3), .val (.int p4), .val (.int db0), .val (.int db1), .val (.int db2), .val (.int db3), .val (.int dt), .val (.int dc), .val (.int ppp), .val (.int frm), .val (.int len), .val (.int too), .val (.ref b30), .unset, .unset, .unset, .unset, .unset, .unset, .unset, .unset, .unset, .unset, .unset, .unset, .unset, .unset, .unset] [(.int (14 : Int32)), (.ref b30)])) _
    refine XS.iload X99.here hx rfl (hb hby at_188) rfl ?_
    show Steps p.tables e below (T99.setTop (mkF m 190 #[.val (.int p1), .val (.int p2), .val (.int p3), .val (.int p4), .val (.int db0), .val (.int db1), .val (.int db2), .val (.int db3), .val (.int dt), .val (.int dc), .val (.int ppp), .val (.int frm), .val (.int len), .val (.int too), .val (.ref b30), .unset, .unset, .unset, .unset, .unset, .unset, .unset, .unset, .unset, .unset, .unset, .unset, .unset, .unset, .unset] [(.int dt), (.int (14 : Int32)), (.ref b30)])) _
    exact kt
  obtain ⟨cl103, Ar103, S103, Ng103, H103⟩ := id V99_b30
  have hj103 : ¬ (14 : Int32) < 0 ∧ (14 : Int32) < (20 : Int32) := ⟨by decide, by decide⟩
  have hin103 := inb_of S103 hj103
  obtain ⟨T104, h104, X104, e104, W104, st104⟩ := stB X99 hx hZ e99 Ar103 (j := (14 : Int32)) hin103 (g := (mkF m 190 #[.val (.int p1), .val (.int p2), .val (.int p3), .val (.int p4), .val (.int db0), .val (.int db1), .val (.int db2), .val (.int db3), .val (.int dt), .val (.int dc), .val (.int ppp), .val (.int frm), .val (.int len), .val (.int too), .val (.ref b30), .unset, .unset, .unset, .unset, .unset, .unset, .unset, .unset, .unset, .unset, .unset, .unset, .unset, .unset, .unset] [(.int dt), (.int (14 : Int32)), (.ref b30)])) rfl rfl (hb hby at_190)
  have V104_b30 : Arf Z h104 b30 .byte (20 : Int32) (fun i => (.int ((own_upd (own_upd (own_upd (own_upd (own_upd (own_upd (own_upd (own_upd (own_upd (own_upd (own_upd (own_upd (own_upd (own_upd (own_upd (fun _ => (0 : Int32)) ((0 : Int32)).toNatClampNeg (nar .byte db0)) ((1 : Int32)).toNatClampNeg (nar .byte db1)) ((2 : Int32)).toNatClampNeg (nar .byte db2)) ((3 : Int32)).toNatClampNeg (nar .byte db3)) ((4 : Int32)).toNatClampNeg (nar .byte dt)) ((5 : Int32)).toNatClampNeg (nar .byte dt)) ((6 : Int32)).toNatClampNeg (nar .byte dt)) ((7 : Int32)).toNatClampNeg (nar .byte dt)) ((8 : Int32)).toNatClampNeg (nar .byte dt)) ((9 : Int32)).toNatClampNeg (nar .byte dt)) ((10 : Int32)).toNatClampNeg (nar .byte dt)) ((11 : Int32)).toNatClampNeg (nar .byte dt)) ((12 : Int32)).toNatClampNeg (nar .byte dt)) ((13 : Int32)).toNatClampNeg (nar .byte dt)) ((14 : Int32)).toNatClampNeg (nar .byte dt)) i))) := upd_int _ _ _ ▸ (V99_b30.set W104)
  have Z104 : n0 ≤ h104.size := Nat.le_trans Z99 (Keep.of_wr W104).1
  have pre106 : ∀ t, Steps p.tables e below (T104.setTop (mkF m 191 #[.val (.int p1), .val (.int p2), .val (.int p3), .val (.int p4), .val (.int db0), .val (.int db1), .val (.int db2), .val (.int db3), .val (.int dt), .val (.int dc), .val (.int ppp), .val (.int frm), .val (.int len), .val (.int too), .val (.ref b30), .unset, .unset, .unset, .unset, .unset, .unset, .unset, .unset, .unset, .unset, .unset, .unset, .unset, .unset, .unset] [])) t → Steps p.tables e below (s₁.setTop (entryFrame m #[(.int p1), (.int p2), (.int p3), (.int p4)] maxLocals)) t := fun t kt => pre102 t (st104 t kt)
  have N104 := Fr.snoc X104 N99 g_b30
  have pre107 : ∀ t, Steps p.tables e below (T104.setTop (mkF m 197 #[.val (.int p1), .val (.int p2), .val (.int p3), .val (.int p4), .val (.int db0), .val (.int db1), .val (.int db2), .val (.int db3), .val (.int dt), .val (.int dc), .val (.int ppp), .val (.int frm), .val (.int len), .val (.int too), .val (.ref b30), .unset, .unset, .unset, .unset, .unset, .unset, .unset, .unset, .unset, .unset, .unset, .unset, .unset, .unset, .unset] [(.int dt), (.int (15 : Int32)), (.ref b30)])) t → Steps p.tables e below (s₁.setTop (entryFrame m #[(.int p1), (.int p2), (.int p3), (.int p4)] maxLocals)) t := fun t kt => by
    refine pre106 t ?_
    refine XS.aload X104.here hx rfl (hb hby at_191) rfl rfl ?_
    show Steps p.tables e below (T104.setTop (mkF m 193 #[.val (.int p1), .val (.int p2), .val (.int p3), .val (.int p4), .val (.int db0), .val (.int db1), .val (.int db2), .val (.int db3), .val (.int dt), .val (.int dc), .val (.int ppp), .val (.int frm), .val (.int len), .val (.int too), .val (.ref b30), .unset, .unset, .unset, .unset, .unset, .unset, .unset, .unset, .unset, .unset, .unset, .unset, .unset, .unset, .unset] [(.ref b30)])) _
    refine XS.bipush X104.here hx rfl (hb hby at_193) ?_
    show Steps p.tables e below (T104.setTop (mkF m 195 #[.val (.int p1), .val (.int p2), .val (.int p3), .val (.int p4), .val (.int db0), .val (.int db1), .val (.int db2), .val (.int db3), .val (.int dt), .val (.int dc), .val (.int ppp), .val (.int frm), .val (.int len), .val (.int too), .val (.ref b30), .unset, .unset, .unset, .unset, .unset, .unset, .unset, .unset, .unset, .unset, .unset, .unset, .unset, .unset, .unset] [(.int (15 : Int32)), (.ref b30)])) _
    refine XS.iload X104.here hx rfl (hb hby at_195) rfl ?_
    show Steps p.tables e below (T104.setTop (mkF m 197 #[.val (.int p1), .val (.int p2), .val (.int p3), .val (.int p4), .val (.int db0), .val (.int db1), .val (.int db2), .val (.int db3), .val (.int dt), .val (.int dc), .val (.int ppp), .val (.int frm), .val (.int len), .val (.int too), .val (.ref b30), .unset, .unset, .unset, .unset, .unset, .unset, .unset, .unset, .unset, .unset, .unset, .unset, .unset, .unset, .unset] [(.int dt), (.int (15 : Int32)), (.ref b30)])) _
    exact kt
  obtain ⟨cl108, Ar108, S108, Ng108, H108⟩ := id V104_b30
  have hj108 : ¬ (15 : Int32) < 0 ∧ (15 : Int32) < (20 : Int32) := ⟨by decide, by decide⟩
  have hin108 := inb_of S108 hj108
  obtain ⟨T109, h109, X109, e109, W109, st109⟩ := stB X104 hx hZ e104 Ar108 (j := (15 : Int32)) hin108 (g := (mkF m 197 #[.val (.int p1), .val (.int p2), .val (.int p3), .val (.int p4), .val (.int db0), .val (.int db1), .val (.int db2), .val (.int db3), .val (.int dt), .val (.int dc), .val (.int ppp), .val (.int frm), .val (.int len), .val (.int too), .val (.ref b30), .unset, .unset, .unset, .unset, .unset, .unset, .unset, .unset, .unset, .unset, .unset, .unset, .unset, .unset, .unset] [(.int dt), (.int (15 : Int32)), (.ref b30)])) rfl rfl (hb hby at_197)
  have V109_b30 : Arf Z h109 b30 .byte (20 : Int32) (fun i => (.int ((own_upd (own_upd (own_upd (own_upd (own_upd (own_upd (own_upd (own_upd (own_upd (own_upd (own_upd (own_upd (own_upd (own_upd (own_upd (own_upd (fun _ => (0 : Int32)) ((0 : Int32)).toNatClampNeg (nar .byte db0)) ((1 : Int32)).toNatClampNeg (nar .byte db1)) ((2 : Int32)).toNatClampNeg (nar .byte db2)) ((3 : Int32)).toNatClampNeg (nar .byte db3)) ((4 : Int32)).toNatClampNeg (nar .byte dt)) ((5 : Int32)).toNatClampNeg (nar .byte dt)) ((6 : Int32)).toNatClampNeg (nar .byte dt)) ((7 : Int32)).toNatClampNeg (nar .byte dt)) ((8 : Int32)).toNatClampNeg (nar .byte dt)) ((9 : Int32)).toNatClampNeg (nar .byte dt)) ((10 : Int32)).toNatClampNeg (nar .byte dt)) ((11 : Int32)).toNatClampNeg (nar .byte dt)) ((12 : Int32)).toNatClampNeg (nar .byte dt)) ((13 : Int32)).toNatClampNeg (nar .byte dt)) ((14 : Int32)).toNatClampNeg (nar .byte dt)) ((15 : Int32)).toNatClampNeg (nar .byte dt)) i))) := upd_int _ _ _ ▸ (V104_b30.set W109)
  have Z109 : n0 ≤ h109.size := Nat.le_trans Z104 (Keep.of_wr W109).1
  have pre111 : ∀ t, Steps p.tables e below (T109.setTop (mkF m 198 #[.val (.int p1), .val (.int p2), .val (.int p3), .val (.int p4), .val (.int db0), .val (.int db1), .val (.int db2), .val (.int db3), .val (.int dt), .val (.int dc), .val (.int ppp), .val (.int frm), .val (.int len), .val (.int too), .val (.ref b30), .unset, .unset, .unset, .unset, .unset, .unset, .unset, .unset, .unset, .unset, .unset, .unset, .unset, .unset, .unset] [])) t → Steps p.tables e below (s₁.setTop (entryFrame m #[(.int p1), (.int p2), (.int p3), (.int p4)] maxLocals)) t := fun t kt => pre107 t (st109 t kt)
  have N109 := Fr.snoc X109 N104 g_b30
  have pre112 : ∀ t, Steps p.tables e below (T109.setTop (mkF m 204 #[.val (.int p1), .val (.int p2), .val (.int p3), .val (.int p4), .val (.int db0), .val (.int db1), .val (.int db2), .val (.int db3), .val (.int dt), .val (.int dc), .val (.int ppp), .val (.int frm), .val (.int len), .val (.int too), .val (.ref b30), .unset, .unset, .unset, .unset, .unset, .unset, .unset, .unset, .unset, .unset, .unset, .unset, .unset, .unset, .unset] [(.int dt), (.int (16 : Int32)), (.ref b30)])) t → Steps p.tables e below (s₁.setTop (entryFrame m #[(.int p1), (.int p2), (.int p3), (.int p4)] maxLocals)) t := fun t kt => by
    refine pre111 t ?_
    refine XS.aload X109.here hx rfl (hb hby at_198) rfl rfl ?_
    show Steps p.tables e below (T109.setTop (mkF m 200 #[.val (.int p1), .val (.int p2), .val (.int p3), .val (.int p4), .val (.int db0), .val (.int db1), .val (.int db2), .val (.int db3), .val (.int dt), .val (.int dc), .val (.int ppp), .val (.int frm), .val (.int len), .val (.int too), .val (.ref b30), .unset, .unset, .unset, .unset, .unset, .unset, .unset, .unset, .unset, .unset, .unset, .unset, .unset, .unset, .unset] [(.ref b30)])) _
    refine XS.bipush X109.here hx rfl (hb hby at_200) ?_
    show Steps p.tables e below (T109.setTop (mkF m 202 #[.val (.int p1), .val (.int p2), .val (.int p3), .val (.int p4), .val (.int db0), .val (.int db1), .val (.int db2), .val (.int db3), .val (.int dt), .val (.int dc), .val (.int ppp), .val (.int frm), .val (.int len), .val (.int too), .val (.ref b30), .unset, .unset, .unset, .unset, .unset, .unset, .unset, .unset, .unset, .unset, .unset, .unset, .unset, .unset, .unset] [(.int (16 : Int32)), (.ref b30)])) _
    refine XS.iload X109.here hx rfl (hb hby at_202) rfl ?_
    show Steps p.tables e below (T109.setTop (mkF m 204 #[.val (.int p1), .val (.int p2), .val (.int p3), .val (.int p4), .val (.int db0), .val (.int db1), .val (.int db2), .val (.int db3), .val (.int dt), .val (.int dc), .val (.int ppp), .val (.int frm), .val (.int len), .val (.int too), .val (.ref b30), .unset, .unset, .unset, .unset, .unset, .unset, .unset, .unset, .unset, .unset, .unset, .unset, .unset, .unset, .unset] [(.int dt), (.int (16 : Int32)), (.ref b30)])) _
    exact kt
  obtain ⟨cl113, Ar113, S113, Ng113, H113⟩ := id V109_b30
  have hj113 : ¬ (16 : Int32) < 0 ∧ (16 : Int32) < (20 : Int32) := ⟨by decide, by decide⟩
  have hin113 := inb_of S113 hj113
  obtain ⟨T114, h114, X114, e114, W114, st114⟩ := stB X109 hx hZ e109 Ar113 (j := (16 : Int32)) hin113 (g := (mkF m 204 #[.val (.int p1), .val (.int p2), .val (.int p3), .val (.int p4), .val (.int db0), .val (.int db1), .val (.int db2), .val (.int db3), .val (.int dt), .val (.int dc), .val (.int ppp), .val (.int frm), .val (.int len), .val (.int too), .val (.ref b30), .unset, .unset, .unset, .unset, .unset, .unset, .unset, .unset, .unset, .unset, .unset, .unset, .unset, .unset, .unset] [(.int dt), (.int (16 : Int32)), (.ref b30)])) rfl rfl (hb hby at_204)
  have V114_b30 : Arf Z h114 b30 .byte (20 : Int32) (fun i => (.int ((own_upd (own_upd (own_upd (own_upd (own_upd (own_upd (own_upd (own_upd (own_upd (own_upd (own_upd (own_upd (own_upd (own_upd (own_upd (own_upd (own_upd (fun _ => (0 : Int32)) ((0 : Int32)).toNatClampNeg (nar .byte db0)) ((1 : Int32)).toNatClampNeg (nar .byte db1)) ((2 : Int32)).toNatClampNeg (nar .byte db2)) ((3 : Int32)).toNatClampNeg (nar .byte db3)) ((4 : Int32)).toNatClampNeg (nar .byte dt)) ((5 : Int32)).toNatClampNeg (nar .byte dt)) ((6 : Int32)).toNatClampNeg (nar .byte dt)) ((7 : Int32)).toNatClampNeg (nar .byte dt)) ((8 : Int32)).toNatClampNeg (nar .byte dt)) ((9 : Int32)).toNatClampNeg (nar .byte dt)) ((10 : Int32)).toNatClampNeg (nar .byte dt)) ((11 : Int32)).toNatClampNeg (nar .byte dt)) ((12 : Int32)).toNatClampNeg (nar .byte dt)) ((13 : Int32)).toNatClampNeg (nar .byte dt)) ((14 : Int32)).toNatClampNeg (nar .byte dt)) ((15 : Int32)).toNatClampNeg (nar .byte dt)) ((16 : Int32)).toNatClampNeg (nar .byte dt)) i))) := upd_int _ _ _ ▸ (V109_b30.set W114)
  have Z114 : n0 ≤ h114.size := Nat.le_trans Z109 (Keep.of_wr W114).1
  have pre116 : ∀ t, Steps p.tables e below (T114.setTop (mkF m 205 #[.val (.int p1), .val (.int p2), .val (.int p3), .val (.int p4), .val (.int db0), .val (.int db1), .val (.int db2), .val (.int db3), .val (.int dt), .val (.int dc), .val (.int ppp), .val (.int frm), .val (.int len), .val (.int too), .val (.ref b30), .unset, .unset, .unset, .unset, .unset, .unset, .unset, .unset, .unset, .unset, .unset, .unset, .unset, .unset, .unset] [])) t → Steps p.tables e below (s₁.setTop (entryFrame m #[(.int p1), (.int p2), (.int p3), (.int p4)] maxLocals)) t := fun t kt => pre112 t (st114 t kt)
  have N114 := Fr.snoc X114 N109 g_b30
  have pre117 : ∀ t, Steps p.tables e below (T114.setTop (mkF m 211 #[.val (.int p1), .val (.int p2), .val (.int p3), .val (.int p4), .val (.int db0), .val (.int db1), .val (.int db2), .val (.int db3), .val (.int dt), .val (.int dc), .val (.int ppp), .val (.int frm), .val (.int len), .val (.int too), .val (.ref b30), .unset, .unset, .unset, .unset, .unset, .unset, .unset, .unset, .unset, .unset, .unset, .unset, .unset, .unset, .unset] [(.int dt), (.int (17 : Int32)), (.ref b30)])) t → Steps p.tables e below (s₁.setTop (entryFrame m #[(.int p1), (.int p2), (.int p3), (.int p4)] maxLocals)) t := fun t kt => by
    refine pre116 t ?_
    refine XS.aload X114.here hx rfl (hb hby at_205) rfl rfl ?_
    show Steps p.tables e below (T114.setTop (mkF m 207 #[.val (.int p1), .val (.int p2), .val (.int p3), .val (.int p4), .val (.int db0), .val (.int db1), .val (.int db2), .val (.int db3), .val (.int dt), .val (.int dc), .val (.int ppp), .val (.int frm), .val (.int len), .val (.int too), .val (.ref b30), .unset, .unset, .unset, .unset, .unset, .unset, .unset, .unset, .unset, .unset, .unset, .unset, .unset, .unset, .unset] [(.ref b30)])) _
    refine XS.bipush X114.here hx rfl (hb hby at_207) ?_
    show Steps p.tables e below (T114.setTop (mkF m 209 #[.val (.int p1), .val (.int p2), .val (.int p3), .val (.int p4), .val (.int db0), .val (.int db1), .val (.int db2), .val (.int db3), .val (.int dt), .val (.int dc), .val (.int ppp), .val (.int frm), .val (.int len), .val (.int too), .val (.ref b30), .unset, .unset, .unset, .unset, .unset, .unset, .unset, .unset, .unset, .unset, .unset, .unset, .unset, .unset, .unset] [(.int (17 : Int32)), (.ref b30)])) _
    refine XS.iload X114.here hx rfl (hb hby at_209) rfl ?_
    show Steps p.tables e below (T114.setTop (mkF m 211 #[.val (.int p1), .val (.int p2), .val (.int p3), .val (.int p4), .val (.int db0), .val (.int db1), .val (.int db2), .val (.int db3), .val (.int dt), .val (.int dc), .val (.int ppp), .val (.int frm), .val (.int len), .val (.int too), .val (.ref b30), .unset, .unset, .unset, .unset, .unset, .unset, .unset, .unset, .unset, .unset, .unset, .unset, .unset, .unset, .unset] [(.int dt), (.int (17 : Int32)), (.ref b30)])) _
    exact kt
  obtain ⟨cl118, Ar118, S118, Ng118, H118⟩ := id V114_b30
  have hj118 : ¬ (17 : Int32) < 0 ∧ (17 : Int32) < (20 : Int32) := ⟨by decide, by decide⟩
  have hin118 := inb_of S118 hj118
  obtain ⟨T119, h119, X119, e119, W119, st119⟩ := stB X114 hx hZ e114 Ar118 (j := (17 : Int32)) hin118 (g := (mkF m 211 #[.val (.int p1), .val (.int p2), .val (.int p3), .val (.int p4), .val (.int db0), .val (.int db1), .val (.int db2), .val (.int db3), .val (.int dt), .val (.int dc), .val (.int ppp), .val (.int frm), .val (.int len), .val (.int too), .val (.ref b30), .unset, .unset, .unset, .unset, .unset, .unset, .unset, .unset, .unset, .unset, .unset, .unset, .unset, .unset, .unset] [(.int dt), (.int (17 : Int32)), (.ref b30)])) rfl rfl (hb hby at_211)
  have V119_b30 : Arf Z h119 b30 .byte (20 : Int32) (fun i => (.int ((own_upd (own_upd (own_upd (own_upd (own_upd (own_upd (own_upd (own_upd (own_upd (own_upd (own_upd (own_upd (own_upd (own_upd (own_upd (own_upd (own_upd (own_upd (fun _ => (0 : Int32)) ((0 : Int32)).toNatClampNeg (nar .byte db0)) ((1 : Int32)).toNatClampNeg (nar .byte db1)) ((2 : Int32)).toNatClampNeg (nar .byte db2)) ((3 : Int32)).toNatClampNeg (nar .byte db3)) ((4 : Int32)).toNatClampNeg (nar .byte dt)) ((5 : Int32)).toNatClampNeg (nar .byte dt)) ((6 : Int32)).toNatClampNeg (nar .byte dt)) ((7 : Int32)).toNatClampNeg (nar .byte dt)) ((8 : Int32)).toNatClampNeg (nar .byte dt)) ((9 : Int32)).toNatClampNeg (nar .byte dt)) ((10 : Int32)).toNatClampNeg (nar .byte dt)) ((11 : Int32)).toNatClampNeg (nar .byte dt)) ((12 : Int32)).toNatClampNeg (nar .byte dt)) ((13 : Int32)).toNatClampNeg (nar .byte dt)) ((14 : Int32)).toNatClampNeg (nar .byte dt)) ((15 : Int32)).toNatClampNeg (nar .byte dt)) ((16 : Int32)).toNatClampNeg (nar .byte dt)) ((17 : Int32)).toNatClampNeg (nar .byte dt)) i))) := upd_int _ _ _ ▸ (V114_b30.set W119)
  have Z119 : n0 ≤ h119.size := Nat.le_trans Z114 (Keep.of_wr W119).1
  have pre121 : ∀ t, Steps p.tables e below (T119.setTop (mkF m 212 #[.val (.int p1), .val (.int p2), .val (.int p3), .val (.int p4), .val (.int db0), .val (.int db1), .val (.int db2), .val (.int db3), .val (.int dt), .val (.int dc), .val (.int ppp), .val (.int frm), .val (.int len), .val (.int too), .val (.ref b30), .unset, .unset, .unset, .unset, .unset, .unset, .unset, .unset, .unset, .unset, .unset, .unset, .unset, .unset, .unset] [])) t → Steps p.tables e below (s₁.setTop (entryFrame m #[(.int p1), (.int p2), (.int p3), (.int p4)] maxLocals)) t := fun t kt => pre117 t (st119 t kt)
  have N119 := Fr.snoc X119 N114 g_b30
  have pre122 : ∀ t, Steps p.tables e below (T119.setTop (mkF m 218 #[.val (.int p1), .val (.int p2), .val (.int p3), .val (.int p4), .val (.int db0), .val (.int db1), .val (.int db2), .val (.int db3), .val (.int dt), .val (.int dc), .val (.int ppp), .val (.int frm), .val (.int len), .val (.int too), .val (.ref b30), .unset, .unset, .unset, .unset, .unset, .unset, .unset, .unset, .unset, .unset, .unset, .unset, .unset, .unset, .unset] [(.int dt), (.int (18 : Int32)), (.ref b30)])) t → Steps p.tables e below (s₁.setTop (entryFrame m #[(.int p1), (.int p2), (.int p3), (.int p4)] maxLocals)) t := fun t kt => by
    refine pre121 t ?_
    refine XS.aload X119.here hx rfl (hb hby at_212) rfl rfl ?_
    show Steps p.tables e below (T119.setTop (mkF m 214 #[.val (.int p1), .val (.int p2), .val (.int p3), .val (.int p4), .val (.int db0), .val (.int db1), .val (.int db2), .val (.int db3), .val (.int dt), .val (.int dc), .val (.int ppp), .val (.int frm), .val (.int len), .val (.int too), .val (.ref b30), .unset, .unset, .unset, .unset, .unset, .unset, .unset, .unset, .unset, .unset, .unset, .unset, .unset, .unset, .unset] [(.ref b30)])) _
    refine XS.bipush X119.here hx rfl (hb hby at_214) ?_
    show Steps p.tables e below (T119.setTop (mkF m 216 #[.val (.int p1), .val (.int p2), .val (.int p3), .val (.int p4), .val (.int db0), .val (.int db1), .val (.int db2), .val (.int db3), .val (.int dt), .val (.int dc), .val (.int ppp), .val (.int frm), .val (.int len), .val (.int too), .val (.ref b30), .unset, .unset, .unset, .unset, .unset, .unset, .unset, .unset, .unset, .unset, .unset, .unset, .unset, .unset, .unset] [(.int (18 : Int32)), (.ref b30)])) _
    refine XS.iload X119.here hx rfl (hb hby at_216) rfl ?_
    show Steps p.tables e below (T119.setTop (mkF m 218 #[.val (.int p1), .val (.int p2), .val (.int p3), .val (.int p4), .val (.int db0), .val (.int db1), .val (.int db2), .val (.int db3), .val (.int dt), .val (.int dc), .val (.int ppp), .val (.int frm), .val (.int len), .val (.int too), .val (.ref b30), .unset, .unset, .unset, .unset, .unset, .unset, .unset, .unset, .unset, .unset, .unset, .unset, .unset, .unset, .unset] [(.int dt), (.int (18 : Int32)), (.ref b30)])) _
    exact kt
  obtain ⟨cl123, Ar123, S123, Ng123, H123⟩ := id V119_b30
  have hj123 : ¬ (18 : Int32) < 0 ∧ (18 : Int32) < (20 : Int32) := ⟨by decide, by decide⟩
  have hin123 := inb_of S123 hj123
  obtain ⟨T124, h124, X124, e124, W124, st124⟩ := stB X119 hx hZ e119 Ar123 (j := (18 : Int32)) hin123 (g := (mkF m 218 #[.val (.int p1), .val (.int p2), .val (.int p3), .val (.int p4), .val (.int db0), .val (.int db1), .val (.int db2), .val (.int db3), .val (.int dt), .val (.int dc), .val (.int ppp), .val (.int frm), .val (.int len), .val (.int too), .val (.ref b30), .unset, .unset, .unset, .unset, .unset, .unset, .unset, .unset, .unset, .unset, .unset, .unset, .unset, .unset, .unset] [(.int dt), (.int (18 : Int32)), (.ref b30)])) rfl rfl (hb hby at_218)
  have V124_b30 : Arf Z h124 b30 .byte (20 : Int32) (fun i => (.int ((own_upd (own_upd (own_upd (own_upd (own_upd (own_upd (own_upd (own_upd (own_upd (own_upd (own_upd (own_upd (own_upd (own_upd (own_upd (own_upd (own_upd (own_upd (own_upd (fun _ => (0 : Int32)) ((0 : Int32)).toNatClampNeg (nar .byte db0)) ((1 : Int32)).toNatClampNeg (nar .byte db1)) ((2 : Int32)).toNatClampNeg (nar .byte db2)) ((3 : Int32)).toNatClampNeg (nar .byte db3)) ((4 : Int32)).toNatClampNeg (nar .byte dt)) ((5 : Int32)).toNatClampNeg (nar .byte dt)) ((6 : Int32)).toNatClampNeg (nar .byte dt)) ((7 : Int32)).toNatClampNeg (nar .byte dt)) ((8 : Int32)).toNatClampNeg (nar .byte dt)) ((9 : Int32)).toNatClampNeg (nar .byte dt)) ((10 : Int32)).toNatClampNeg (nar .byte dt)) ((11 : Int32)).toNatClampNeg (nar .byte dt)) ((12 : Int32)).toNatClampNeg (nar .byte dt)) ((13 : Int32)).toNatClampNeg (nar .byte dt)) ((14 : Int32)).toNatClampNeg (nar .byte dt)) ((15 : Int32)).toNatClampNeg (nar .byte dt)) ((16 : Int32)).toNatClampNeg (nar .byte dt)) ((17 : Int32)).toNatClampNeg (nar .byte dt)) ((18 : Int32)).toNatClampNeg (nar .byte dt)) i))) := upd_int _ _ _ ▸ (V119_b30.set W124)
  have Z124 : n0 ≤ h124.size := Nat.le_trans Z119 (Keep.of_wr W124).1
  have pre126 : ∀ t, Steps p.tables e below (T124.setTop (mkF m 219 #[.val (.int p1), .val (.int p2), .val (.int p3), .val (.int p4), .val (.int db0), .val (.int db1), .val (.int db2), .val (.int db3), .val (.int dt), .val (.int dc), .val (.int ppp), .val (.int frm), .val (.int len), .val (.int too), .val (.ref b30), .unset, .unset, .unset, .unset, .unset, .unset, .unset, .unset, .unset, .unset, .unset, .unset, .unset, .unset, .unset] [])) t → Steps p.tables e below (s₁.setTop (entryFrame m #[(.int p1), (.int p2), (.int p3), (.int p4)] maxLocals)) t := fun t kt => pre122 t (st124 t kt)
  have N124 := Fr.snoc X124 N119 g_b30
  have pre127 : ∀ t, Steps p.tables e below (T124.setTop (mkF m 225 #[.val (.int p1), .val (.int p2), .val (.int p3), .val (.int p4), .val (.int db0), .val (.int db1), .val (.int db2), .val (.int db3), .val (.int dt), .val (.int dc), .val (.int ppp), .val (.int frm), .val (.int len), .val (.int too), .val (.ref b30), .unset, .unset, .unset, .unset, .unset, .unset, .unset, .unset, .unset, .unset, .unset, .unset, .unset, .unset, .unset] [(.int dt), (.int (19 : Int32)), (.ref b30)])) t → Steps p.tables e below (s₁.setTop (entryFrame m #[(.int p1), (.int p2), (.int p3), (.int p4)] maxLocals)) t := fun t kt => by
    refine pre126 t ?_
    refine XS.aload X124.here hx rfl (hb hby at_219) rfl rfl ?_
    show Steps p.tables e below (T124.setTop (mkF m 221 #[.val (.int p1), .val (.int p2), .val (.int p3), .val (.int p4), .val (.int db0), .val (.int db1), .val (.int db2), .val (.int db3), .val (.int dt), .val (.int dc), .val (.int ppp), .val (.int frm), .val (.int len), .val (.int too), .val (.ref b30), .unset, .unset, .unset, .unset, .unset, .unset, .unset, .unset, .unset, .unset, .unset, .unset, .unset, .unset, .unset] [(.ref b30)])) _
    refine XS.bipush X124.here hx rfl (hb hby at_221) ?_
    show Steps p.tables e below (T124.setTop (mkF m 223 #[.val (.int p1), .val (.int p2), .val (.int p3), .val (.int p4), .val (.int db0), .val (.int db1), .val (.int db2), .val (.int db3), .val (.int dt), .val (.int dc), .val (.int ppp), .val (.int frm), .val (.int len), .val (.int too), .val (.ref b30), .unset, .unset, .unset, .unset, .unset, .unset, .unset, .unset, .unset, .unset, .unset, .unset, .unset, .unset, .unset] [(.int (19 : Int32)), (.ref b30)])) _
    refine XS.iload X124.here hx rfl (hb hby at_223) rfl ?_
    show Steps p.tables e below (T124.setTop (mkF m 225 #[.val (.int p1), .val (.int p2), .val (.int p3), .val (.int p4), .val (.int db0), .val (.int db1), .val (.int db2), .val (.int db3), .val (.int dt), .val (.int dc), .val (.int ppp), .val (.int frm), .val (.int len), .val (.int too), .val (.ref b30), .unset, .unset, .unset, .unset, .unset, .unset, .unset, .unset, .unset, .unset, .unset, .unset, .unset, .unset, .unset] [(.int dt), (.int (19 : Int32)), (.ref b30)])) _
    exact kt
  obtain ⟨cl128, Ar128, S128, Ng128, H128⟩ := id V124_b30
  have hj128 : ¬ (19 : Int32) < 0 ∧ (19 : Int32) < (20 : Int32) := ⟨by decide, by decide⟩
  have hin128 := inb_of S128 hj128
  obtain ⟨T129, h129, X129, e129, W129, st129⟩ := stB X124 hx hZ e124 Ar128 (j := (19 : Int32)) hin128 (g := (mkF m 225 #[.val (.int p1), .val (.int p2), .val (.int p3), .val (.int p4), .val (.int db0), .val (.int db1), .val (.int db2), .val (.int db3), .val (.int dt), .val (.int dc), .val (.int ppp), .val (.int frm), .val (.int len), .val (.int too), .val (.ref b30), .unset, .unset, .unset, .unset, .unset, .unset, .unset, .unset, .unset, .unset, .unset, .unset, .unset, .unset, .unset] [(.int dt), (.int (19 : Int32)), (.ref b30)])) rfl rfl (hb hby at_225)
  have V129_b30 : Arf Z h129 b30 .byte (20 : Int32) (fun i => (.int ((own_upd (own_upd (own_upd (own_upd (own_upd (own_upd (own_upd (own_upd (own_upd (own_upd (own_upd (own_upd (own_upd (own_upd (own_upd (own_upd (own_upd (own_upd (own_upd (own_upd (fun _ => (0 : Int32)) ((0 : Int32)).toNatClampNeg (nar .byte db0)) ((1 : Int32)).toNatClampNeg (nar .byte db1)) ((2 : Int32)).toNatClampNeg (nar .byte db2)) ((3 : Int32)).toNatClampNeg (nar .byte db3)) ((4 : Int32)).toNatClampNeg (nar .byte dt)) ((5 : Int32)).toNatClampNeg (nar .byte dt)) ((6 : Int32)).toNatClampNeg (nar .byte dt)) ((7 : Int32)).toNatClampNeg (nar .byte dt)) ((8 : Int32)).toNatClampNeg (nar .byte dt)) ((9 : Int32)).toNatClampNeg (nar .byte dt)) ((10 : Int32)).toNatClampNeg (nar .byte dt)) ((11 : Int32)).toNatClampNeg (nar .byte dt)) ((12 : Int32)).toNatClampNeg (nar .byte dt)) ((13 : Int32)).toNatClampNeg (nar .byte dt)) ((14 : Int32)).toNatClampNeg (nar .byte dt)) ((15 : Int32)).toNatClampNeg (nar .byte dt)) ((16 : Int32)).toNatClampNeg (nar .byte dt)) ((17 : Int32)).toNatClampNeg (nar .byte dt)) ((18 : Int32)).toNatClampNeg (nar .byte dt)) ((19 : Int32)).toNatClampNeg (nar .byte dt)) i))) := upd_int _ _ _ ▸ (V124_b30.set W129)
  have Z129 : n0 ≤ h129.size := Nat.le_trans Z124 (Keep.of_wr W129).1
  have pre131 : ∀ t, Steps p.tables e below (T129.setTop (mkF m 226 #[.val (.int p1), .val (.int p2), .val (.int p3), .val (.int p4), .val (.int db0), .val (.int db1), .val (.int db2), .val (.int db3), .val (.int dt), .val (.int dc), .val (.int ppp), .val (.int frm), .val (.int len), .val (.int too), .val (.ref b30), .unset, .unset, .unset, .unset, .unset, .unset, .unset, .unset, .unset, .unset, .unset, .unset, .unset, .unset, .unset] [])) t → Steps p.tables e below (s₁.setTop (entryFrame m #[(.int p1), (.int p2), (.int p3), (.int p4)] maxLocals)) t := fun t kt => pre127 t (st129 t kt)
  have N129 := Fr.snoc X129 N124 g_b30
  have pre132 : ∀ t, Steps p.tables e below (T129.setTop (mkF m 232 #[.val (.int p1), .val (.int p2), .val (.int p3), .val (.int p4), .val (.int db0), .val (.int db1), .val (.int db2), .val (.int db3), .val (.int dt), .val (.int dc), .val (.int ppp), .val (.int frm), .val (.int len), .val (.int too), .val (.ref b30), .unset, .unset, .unset, .unset, .unset, .unset, .unset, .unset, .unset, .unset, .unset, .unset, .unset, .unset, .unset] [(.int dc), (.int ppp), (.ref b30)])) t → Steps p.tables e below (s₁.setTop (entryFrame m #[(.int p1), (.int p2), (.int p3), (.int p4)] maxLocals)) t := fun t kt => by
    refine pre131 t ?_
    refine XS.aload X129.here hx rfl (hb hby at_226) rfl rfl ?_
    show Steps p.tables e below (T129.setTop (mkF m 228 #[.val (.int p1), .val (.int p2), .val (.int p3), .val (.int p4), .val (.int db0), .val (.int db1), .val (.int db2), .val (.int db3), .val (.int dt), .val (.int dc), .val (.int ppp), .val (.int frm), .val (.int len), .val (.int too), .val (.ref b30), .unset, .unset, .unset, .unset, .unset, .unset, .unset, .unset, .unset, .unset, .unset, .unset, .unset, .unset, .unset] [(.ref b30)])) _
    refine XS.iload X129.here hx rfl (hb hby at_228) rfl ?_
    show Steps p.tables e below (T129.setTop (mkF m 230 #[.val (.int p1), .val (.int p2), .val (.int p3), .val (.int p4), .val (.int db0), .val (.int db1), .val (.int db2), .val (.int db3), .val (.int dt), .val (.int dc), .val (.int ppp), .val (.int frm), .val (.int len), .val (.int too), .val (.ref b30), .unset, .unset, .unset, .unset, .unset, .unset, .unset, .unset, .unset, .unset, .unset, .unset, .unset, .unset, .unset] [(.int ppp), (.ref b30)])) _
    refine XS.iload X129.here hx rfl (hb hby at_230) rfl ?_
    show Steps p.tables e below (T129.setTop (mkF m 232 #[.val (.int p1), .val (.int p2), .val (.int p3), .val (.int p4), .val (.int db0), .val (.int db1), .val (.int db2), .val (.int db3), .val (.int dt), .val (.int dc), .val (.int ppp), .val (.int frm), .val (.int len), .val (.int too), .val (.ref b30), .unset, .unset, .unset, .unset, .unset, .unset, .unset, .unset, .unset, .unset, .unset, .unset, .unset, .unset, .unset] [(.int dc), (.int ppp), (.ref b30)])) _
    exact kt
  obtain ⟨cl133, Ar133, S133, Ng133, H133⟩ := id V129_b30
  have hj133 : ¬ ppp < 0 ∧ ppp < (20 : Int32) := hpp20
  have hin133 := inb_of S133 hj133
  obtain ⟨T134, h134, X134, e134, W134, st134⟩ := stB X129 hx hZ e129 Ar133 (j := ppp) hin133 (g := (mkF m 232 #[.val (.int p1), .val (.int p2), .val (.int p3), .val (.int p4), .val (.int db0), .val (.int db1), .val (.int db2), .val (.int db3), .val (.int dt), .val (.int dc), .val (.int ppp), .val (.int frm), .val (.int len), .val (.int too), .val (.ref b30), .unset, .unset, .unset, .unset, .unset, .unset, .unset, .unset, .unset, .unset, .unset, .unset, .unset, .unset, .unset] [(.int dc), (.int ppp), (.ref b30)])) rfl rfl (hb hby at_232)
  have V134_b30 : Arf Z h134 b30 .byte (20 : Int32) (fun i => (.int ((own_upd (own_upd (own_upd (own_upd (own_upd (own_upd (own_upd (own_upd (own_upd (own_upd (own_upd (own_upd (own_upd (own_upd (own_upd (own_upd (own_upd (own_upd (own_upd (own_upd (own_upd (fun _ => (0 : Int32)) ((0 : Int32)).toNatClampNeg (nar .byte db0)) ((1 : Int32)).toNatClampNeg (nar .byte db1)) ((2 : Int32)).toNatClampNeg (nar .byte db2)) ((3 : Int32)).toNatClampNeg (nar .byte db3)) ((4 : Int32)).toNatClampNeg (nar .byte dt)) ((5 : Int32)).toNatClampNeg (nar .byte dt)) ((6 : Int32)).toNatClampNeg (nar .byte dt)) ((7 : Int32)).toNatClampNeg (nar .byte dt)) ((8 : Int32)).toNatClampNeg (nar .byte dt)) ((9 : Int32)).toNatClampNeg (nar .byte dt)) ((10 : Int32)).toNatClampNeg (nar .byte dt)) ((11 : Int32)).toNatClampNeg (nar .byte dt)) ((12 : Int32)).toNatClampNeg (nar .byte dt)) ((13 : Int32)).toNatClampNeg (nar .byte dt)) ((14 : Int32)).toNatClampNeg (nar .byte dt)) ((15 : Int32)).toNatClampNeg (nar .byte dt)) ((16 : Int32)).toNatClampNeg (nar .byte dt)) ((17 : Int32)).toNatClampNeg (nar .byte dt)) ((18 : Int32)).toNatClampNeg (nar .byte dt)) ((19 : Int32)).toNatClampNeg (nar .byte dt)) (ppp).toNatClampNeg (nar .byte dc)) i))) := upd_int _ _ _ ▸ (V129_b30.set W134)
  have Z134 : n0 ≤ h134.size := Nat.le_trans Z129 (Keep.of_wr W134).1
  have pre136 : ∀ t, Steps p.tables e below (T134.setTop (mkF m 233 #[.val (.int p1), .val (.int p2), .val (.int p3), .val (.int p4), .val (.int db0), .val (.int db1), .val (.int db2), .val (.int db3), .val (.int dt), .val (.int dc), .val (.int ppp), .val (.int frm), .val (.int len), .val (.int too), .val (.ref b30), .unset, .unset, .unset, .unset, .unset, .unset, .unset, .unset, .unset, .unset, .unset, .unset, .unset, .unset, .unset] [])) t → Steps p.tables e below (s₁.setTop (entryFrame m #[(.int p1), (.int p2), (.int p3), (.int p4)] maxLocals)) t := fun t kt => pre132 t (st134 t kt)
  have N134 := Fr.snoc X134 N129 g_b30
  obtain ⟨txt, h_txt⟩ : ∃ f : Nat → Int32, f = (own_upd (own_upd (own_upd (own_upd (own_upd (own_upd (own_upd (own_upd (own_upd (own_upd (own_upd (own_upd (own_upd (own_upd (own_upd (own_upd (own_upd (own_upd (own_upd (own_upd (own_upd (fun _ => (0 : Int32)) ((0 : Int32)).toNatClampNeg (nar .byte db0)) ((1 : Int32)).toNatClampNeg (nar .byte db1)) ((2 : Int32)).toNatClampNeg (nar .byte db2)) ((3 : Int32)).toNatClampNeg (nar .byte db3)) ((4 : Int32)).toNatClampNeg (nar .byte dt)) ((5 : Int32)).toNatClampNeg (nar .byte dt)) ((6 : Int32)).toNatClampNeg (nar .byte dt)) ((7 : Int32)).toNatClampNeg (nar .byte dt)) ((8 : Int32)).toNatClampNeg (nar .byte dt)) ((9 : Int32)).toNatClampNeg (nar .byte dt)) ((10 : Int32)).toNatClampNeg (nar .byte dt)) ((11 : Int32)).toNatClampNeg (nar .byte dt)) ((12 : Int32)).toNatClampNeg (nar .byte dt)) ((13 : Int32)).toNatClampNeg (nar .byte dt)) ((14 : Int32)).toNatClampNeg (nar .byte dt)) ((15 : Int32)).toNatClampNeg (nar .byte dt)) ((16 : Int32)).toNatClampNeg (nar .byte dt)) ((17 : Int32)).toNatClampNeg (nar .byte dt)) ((18 : Int32)).toNatClampNeg (nar .byte dt)) ((19 : Int32)).toNatClampNeg (nar .byte dt)) (ppp).toNatClampNeg (nar .byte dc)) := ⟨_, rfl⟩
  have F137 : Arf Z h134 b30 .byte (20 : Int32) (fun i => (.int (txt i))) := by rw [h_txt]; exact V134_b30
  have pre138 : ∀ t, Steps p.tables e below (T134.setTop (mkF m 239 #[.val (.int p1), .val (.int p2), .val (.int p3), .val (.int p4), .val (.int db0), .val (.int db1), .val (.int db2), .val (.int db3), .val (.int dt), .val (.int dc), .val (.int ppp), .val (.int frm), .val (.int len), .val (.int too), .val (.ref b30), .unset, .unset, .unset, .unset, .unset, .unset, .unset, .unset, .unset, .unset, .unset, .unset, .unset, .unset, .unset] [(.int too), (.int frm), (.ref b30)])) t → Steps p.tables e below (s₁.setTop (entryFrame m #[(.int p1), (.int p2), (.int p3), (.int p4)] maxLocals)) t := fun t kt => by
    refine pre136 t ?_
    refine XS.aload X134.here hx rfl (hb hby at_233) rfl rfl ?_
    show Steps p.tables e below (T134.setTop (mkF m 235 #[.val (.int p1), .val (.int p2), .val (.int p3), .val (.int p4), .val (.int db0), .val (.int db1), .val (.int db2), .val (.int db3), .val (.int dt), .val (.int dc), .val (.int ppp), .val (.int frm), .val (.int len), .val (.int too), .val (.ref b30), .unset, .unset, .unset, .unset, .unset, .unset, .unset, .unset, .unset, .unset, .unset, .unset, .unset, .unset, .unset] [(.ref b30)])) _
    refine XS.iload X134.here hx rfl (hb hby at_235) rfl ?_
    show Steps p.tables e below (T134.setTop (mkF m 237 #[.val (.int p1), .val (.int p2), .val (.int p3), .val (.int p4), .val (.int db0), .val (.int db1), .val (.int db2), .val (.int db3), .val (.int dt), .val (.int dc), .val (.int ppp), .val (.int frm), .val (.int len), .val (.int too), .val (.ref b30), .unset, .unset, .unset, .unset, .unset, .unset, .unset, .unset, .unset, .unset, .unset, .unset, .unset, .unset, .unset] [(.int frm), (.ref b30)])) _
    refine XS.iload X134.here hx rfl (hb hby at_237) rfl ?_
    show Steps p.tables e below (T134.setTop (mkF m 239 #[.val (.int p1), .val (.int p2), .val (.int p3), .val (.int p4), .val (.int db0), .val (.int db1), .val (.int db2), .val (.int db3), .val (.int dt), .val (.int dc), .val (.int ppp), .val (.int frm), .val (.int len), .val (.int too), .val (.ref b30), .unset, .unset, .unset, .unset, .unset, .unset, .unset, .unset, .unset, .unset, .unset, .unset, .unset, .unset, .unset] [(.int too), (.int frm), (.ref b30)])) _
    exact kt
  obtain ⟨_, _, ⟨T139, L139, k139, n139⟩, -, X139, ⟨Lc139, hQ139, l139, y139, z139⟩, st139⟩ := Jvm.LawKit.callS X134 hx (y := (⟨"com/example/entgelt/entgelt/io/FieldForms", "digits", "([BII)J"⟩ : MethodName)) hown (mvT hZ (hw _ (mgE 7 rfl))) (mvT hZ (hw _ (mgE 8 rfl))) (mvT hZ (hw _ (mgE 9 rfl))) (mvT hZ (hw _ (mgE 10 rfl))) (by decide) (backOf (W := 0) (rm2 l Z a0 hw [] b30 frm too txt h134 n0 Z134 F137 (htoo.2) (hfrm.1)) hZ (hw _ (mgE 10 rfl)) (hw _ (mgE 9 rfl)) (by decide) (by decide)) (g := (mkF m 239 #[.val (.int p1), .val (.int p2), .val (.int p3), .val (.int p4), .val (.int db0), .val (.int db1), .val (.int db2), .val (.int db3), .val (.int dt), .val (.int dc), .val (.int ppp), .val (.int frm), .val (.int len), .val (.int too), .val (.ref b30), .unset, .unset, .unset, .unset, .unset, .unset, .unset, .unset, .unset, .unset, .unset, .unset, .unset, .unset, .unset] [(.int too), (.int frm), (.ref b30)])) rfl (by rw [hml]; rfl) (argsL := [(.ref b30), (.int frm), (.int too)]) (rest := []) (lenOf pd___BII_J rfl) rfl (by show 2 * 0 + _ ≤ _; exact Nat.le_of_eq rfl) (hb hby at_239) (fun _ _ => ⟨rfl, e134, (by decide : 1 + 0 ≤ _), (by decide : 20 + 0 ≤ _)⟩)
  dsimp only [Pt.U, Pt.locs, Pt.cells, Pt.slots] at X139 l139 y139 z139 st139 hQ139
  have ly139 := l139.symm; subst ly139 y139 z139
  obtain ⟨rfl, N139q, e139⟩ := hQ139
  have pre140 : ∀ t, Steps p.tables e below (T139.setTop (mkF m 242 #[.val (.int p1), .val (.int p2), .val (.int p3), .val (.int p4), .val (.int db0), .val (.int db1), .val (.int db2), .val (.int db3), .val (.int dt), .val (.int dc), .val (.int ppp), .val (.int frm), .val (.int len), .val (.int too), .val (.ref b30), .unset, .unset, .unset, .unset, .unset, .unset, .unset, .unset, .unset, .unset, .unset, .unset, .unset, .unset, .unset] [(.long (r2 frm too txt))])) t → Steps p.tables e below (s₁.setTop (entryFrame m #[(.int p1), (.int p2), (.int p3), (.int p4)] maxLocals)) t := fun t kt => pre138 t (st139 t kt)
  have N139 := Fr.app N134 N139q
  have pre141 : ∀ t, Steps p.tables e below (T139.setTop (mkF m 244 #[.val (.int p1), .val (.int p2), .val (.int p3), .val (.int p4), .val (.int db0), .val (.int db1), .val (.int db2), .val (.int db3), .val (.int dt), .val (.int dc), .val (.int ppp), .val (.int frm), .val (.int len), .val (.int too), .val (.ref b30), .val (.long (r2 frm too txt)), .second, .unset, .unset, .unset, .unset, .unset, .unset, .unset, .unset, .unset, .unset, .unset, .unset, .unset] [])) t → Steps p.tables e below (s₁.setTop (entryFrame m #[(.int p1), (.int p2), (.int p3), (.int p4)] maxLocals)) t := fun t kt => by
    refine pre140 t ?_
    refine XS.lstore X139.here hx rfl (hb hby at_242) rfl (l' := #[.val (.int p1), .val (.int p2), .val (.int p3), .val (.int p4), .val (.int db0), .val (.int db1), .val (.int db2), .val (.int db3), .val (.int dt), .val (.int dc), .val (.int ppp), .val (.int frm), .val (.int len), .val (.int too), .val (.ref b30), .val (.long (r2 frm too txt)), .second, .unset, .unset, .unset, .unset, .unset, .unset, .unset, .unset, .unset, .unset, .unset, .unset, .unset]) rfl ?_
    show Steps p.tables e below (T139.setTop (mkF m 244 #[.val (.int p1), .val (.int p2), .val (.int p3), .val (.int p4), .val (.int db0), .val (.int db1), .val (.int db2), .val (.int db3), .val (.int dt), .val (.int dc), .val (.int ppp), .val (.int frm), .val (.int len), .val (.int too), .val (.ref b30), .val (.long (r2 frm too txt)), .second, .unset, .unset, .unset, .unset, .unset, .unset, .unset, .unset, .unset, .unset, .unset, .unset, .unset] [])) _
    exact kt
  obtain ⟨act, h_act⟩ : ∃ z, z = (r2 frm too txt) := ⟨_, rfl⟩
  rw [← h_act] at pre141
  have hIn := own_in txt frm len too ppp db0 db1 db2 db3 dt dc act _ _ _ _ _ _ h_db0 h_db1 h_db2 h_db3 h_dt h_dc hfrm hlen htoo hpp h_too h_txt h_act
  by_cases hc248 : (18 : Int32) < len
  · skip
    have hc499 : (lcmpW act (-1 : Int64)) = (0 : Int32) := own_long txt frm len too ppp db0 db1 db2 db3 dt dc act hIn hc248
    have pre142 : ∀ t, Steps p.tables e below (T139.setTop (mkF m 507 #[.val (.int p1), .val (.int p2), .val (.int p3), .val (.int p4), .val (.int db0), .val (.int db1), .val (.int db2), .val (.int db3), .val (.int dt), .val (.int dc), .val (.int ppp), .val (.int frm), .val (.int len), .val (.int too), .val (.ref b30), .val (.long act), .second, .val (.long (-1 : Int64)), .second, .unset, .unset, .unset, .unset, .unset, .unset, .unset, .unset, .unset, .unset, .unset] [(.int (1 : Int32))])) t → Steps p.tables e below (s₁.setTop (entryFrame m #[(.int p1), (.int p2), (.int p3), (.int p4)] maxLocals)) t := fun t kt => by
      refine pre141 t ?_
      refine XS.iload X139.here hx rfl (hb hby at_244) rfl ?_
      show Steps p.tables e below (T139.setTop (mkF m 246 #[.val (.int p1), .val (.int p2), .val (.int p3), .val (.int p4), .val (.int db0), .val (.int db1), .val (.int db2), .val (.int db3), .val (.int dt), .val (.int dc), .val (.int ppp), .val (.int frm), .val (.int len), .val (.int too), .val (.ref b30), .val (.long act), .second, .unset, .unset, .unset, .unset, .unset, .unset, .unset, .unset, .unset, .unset, .unset, .unset, .unset] [(.int len)])) _
      refine XS.bipush X139.here hx rfl (hb hby at_246) ?_
      show Steps p.tables e below (T139.setTop (mkF m 248 #[.val (.int p1), .val (.int p2), .val (.int p3), .val (.int p4), .val (.int db0), .val (.int db1), .val (.int db2), .val (.int db3), .val (.int dt), .val (.int dc), .val (.int ppp), .val (.int frm), .val (.int len), .val (.int too), .val (.ref b30), .val (.long act), .second, .unset, .unset, .unset, .unset, .unset, .unset, .unset, .unset, .unset, .unset, .unset, .unset, .unset] [(.int (18 : Int32)), (.int len)])) _
      refine XS.icmpNo X139.here hx rfl (hb hby at_248) rfl (tlt hc248).2.2.2 ?_
      show Steps p.tables e below (T139.setTop (mkF m 251 #[.val (.int p1), .val (.int p2), .val (.int p3), .val (.int p4), .val (.int db0), .val (.int db1), .val (.int db2), .val (.int db3), .val (.int dt), .val (.int dc), .val (.int ppp), .val (.int frm), .val (.int len), .val (.int too), .val (.ref b30), .val (.long act), .second, .unset, .unset, .unset, .unset, .unset, .unset, .unset, .unset, .unset, .unset, .unset, .unset, .unset] [])) _
      refine X139.ldc2Long hx hown (mvT hZ (hw _ (mgE 47 rfl))) (g := (mkF m 251 #[.val (.int p1), .val (.int p2), .val (.int p3), .val (.int p4), .val (.int db0), .val (.int db1), .val (.int db2), .val (.int db3), .val (.int dt), .val (.int dc), .val (.int ppp), .val (.int frm), .val (.int len), .val (.int too), .val (.ref b30), .val (.long act), .second, .unset, .unset, .unset, .unset, .unset, .unset, .unset, .unset, .unset, .unset, .unset, .unset, .unset] [])) rfl (hb hby at_251) _ ?_
      show Steps p.tables e below (T139.setTop (mkF m 254 #[.val (.int p1), .val (.int p2), .val (.int p3), .val (.int p4), .val (.int db0), .val (.int db1), .val (.int db2), .val (.int db3), .val (.int dt), .val (.int dc), .val (.int ppp), .val (.int frm), .val (.int len), .val (.int too), .val (.ref b30), .val (.long act), .second, .unset, .unset, .unset, .unset, .unset, .unset, .unset, .unset, .unset, .unset, .unset, .unset, .unset] [(.long (-1 : Int64))])) _
      refine XS.lstore X139.here hx rfl (hb hby at_254) rfl (l' := #[.val (.int p1), .val (.int p2), .val (.int p3), .val (.int p4), .val (.int db0), .val (.int db1), .val (.int db2), .val (.int db3), .val (.int dt), .val (.int dc), .val (.int ppp), .val (.int frm), .val (.int len), .val (.int too), .val (.ref b30), .val (.long act), .second, .val (.long (-1 : Int64)), .second, .unset, .unset, .unset, .unset, .unset, .unset, .unset, .unset, .unset, .unset, .unset]) rfl ?_
      show Steps p.tables e below (T139.setTop (mkF m 256 #[.val (.int p1), .val (.int p2), .val (.int p3), .val (.int p4), .val (.int db0), .val (.int db1), .val (.int db2), .val (.int db3), .val (.int dt), .val (.int dc), .val (.int ppp), .val (.int frm), .val (.int len), .val (.int too), .val (.ref b30), .val (.long act), .second, .val (.long (-1 : Int64)), .second, .unset, .unset, .unset, .unset, .unset, .unset, .unset, .unset, .unset, .unset, .unset] [])) _
      refine XS.goto X139.here hx rfl (pc0 := 256) (pc' := 494) rfl (hb hby at_256) (by decide) (by decide) ?_
      show Steps p.tables e below (T139.setTop (mkF m 494 #[.val (.int p1), .val (.int p2), .val (.int p3), .val (.int p4), .val (.int db0), .val (.int db1), .val (.int db2), .val (.int db3), .val (.int dt), .val (.int dc), .val (.int ppp), .val (.int frm), .val (.int len), .val (.int too), .val (.ref b30), .val (.long act), .second, .val (.long (-1 : Int64)), .second, .unset, .unset, .unset, .unset, .unset, .unset, .unset, .unset, .unset, .unset, .unset] [])) _
      refine XS.lload X139.here hx rfl (hb hby at_494) rfl ?_
      show Steps p.tables e below (T139.setTop (mkF m 496 #[.val (.int p1), .val (.int p2), .val (.int p3), .val (.int p4), .val (.int db0), .val (.int db1), .val (.int db2), .val (.int db3), .val (.int dt), .val (.int dc), .val (.int ppp), .val (.int frm), .val (.int len), .val (.int too), .val (.ref b30), .val (.long act), .second, .val (.long (-1 : Int64)), .second, .unset, .unset, .unset, .unset, .unset, .unset, .unset, .unset, .unset, .unset, .unset] [(.long act)])) _
      refine XS.lload X139.here hx rfl (hb hby at_496) rfl ?_
      show Steps p.tables e below (T139.setTop (mkF m 498 #[.val (.int p1), .val (.int p2), .val (.int p3), .val (.int p4), .val (.int db0), .val (.int db1), .val (.int db2), .val (.int db3), .val (.int dt), .val (.int dc), .val (.int ppp), .val (.int frm), .val (.int len), .val (.int too), .val (.ref b30), .val (.long act), .second, .val (.long (-1 : Int64)), .second, .unset, .unset, .unset, .unset, .unset, .unset, .unset, .unset, .unset, .unset, .unset] [(.long (-1 : Int64)), (.long act)])) _
      refine XS.lcmp X139.here hx rfl (hb hby at_498) rfl ?_
      show Steps p.tables e below (T139.setTop (mkF m 499 #[.val (.int p1), .val (.int p2), .val (.int p3), .val (.int p4), .val (.int db0), .val (.int db1), .val (.int db2), .val (.int db3), .val (.int dt), .val (.int dc), .val (.int ppp), .val (.int frm), .val (.int len), .val (.int too), .val (.ref b30), .val (.long act), .second, .val (.long (-1 : Int64)), .second, .unset, .unset, .unset, .unset, .unset, .unset, .unset, .unset, .unset, .unset, .unset] [(.int (lcmpW act (-1 : Int64)))])) _
      refine XS.ifNo X139.here hx rfl (hb hby at_499) rfl ((if0 _ _).trans (teq hc499).2) ?_
      show Steps p.tables e below (T139.setTop (mkF m 502 #[.val (.int p1), .val (.int p2), .val (.int p3), .val (.int p4), .val (.int db0), .val (.int db1), .val (.int db2), .val (.int db3), .val (.int dt), .val (.int dc), .val (.int ppp), .val (.int frm), .val (.int len), .val (.int too), .val (.ref b30), .val (.long act), .second, .val (.long (-1 : Int64)), .second, .unset, .unset, .unset, .unset, .unset, .unset, .unset, .unset, .unset, .unset, .unset] [])) _
      refine XS.iconst X139.here hx rfl (hb hby at_502) ?_
      show Steps p.tables e below (T139.setTop (mkF m 503 #[.val (.int p1), .val (.int p2), .val (.int p3), .val (.int p4), .val (.int db0), .val (.int db1), .val (.int db2), .val (.int db3), .val (.int dt), .val (.int dc), .val (.int ppp), .val (.int frm), .val (.int len), .val (.int too), .val (.ref b30), .val (.long act), .second, .val (.long (-1 : Int64)), .second, .unset, .unset, .unset, .unset, .unset, .unset, .unset, .unset, .unset, .unset, .unset] [(.int (1 : Int32))])) _
      refine XS.goto X139.here hx rfl (pc0 := 503) (pc' := 507) rfl (hb hby at_503) (by decide) (by decide) ?_
      show Steps p.tables e below (T139.setTop (mkF m 507 #[.val (.int p1), .val (.int p2), .val (.int p3), .val (.int p4), .val (.int db0), .val (.int db1), .val (.int db2), .val (.int db3), .val (.int dt), .val (.int dc), .val (.int ppp), .val (.int frm), .val (.int len), .val (.int too), .val (.ref b30), .val (.long act), .second, .val (.long (-1 : Int64)), .second, .unset, .unset, .unset, .unset, .unset, .unset, .unset, .unset, .unset, .unset, .unset] [(.int (1 : Int32))])) _
      exact kt
    obtain ⟨fs, hr, hrun, hended, hW, hsame⟩ := X139.leave (v := some (.int (1 : Int32))) (fun h => by rw [Bd.returns] at h; cases h) (BodyLoose.notSynchronized Bd)
    refine ⟨_, _, pre142 _ ?_, hrun, hended, _, _, rfl, ?_, ⟨_, rfl⟩, hW, hsame.mono (by decide) (by decide)⟩
    · exact retN X139 hx (t := .boolean) Bd.returns (by simp) (hb hby at_507) hr
    · show Q0 Z p1 p2 p3 p4 h0 n0 _ T139.heap _
      rw [e139]
      exact ⟨rfl, N139⟩
  · skip
    have pre143 : ∀ t, Steps p.tables e below (T139.setTop (mkF m 264 #[.val (.int p1), .val (.int p2), .val (.int p3), .val (.int p4), .val (.int db0), .val (.int db1), .val (.int db2), .val (.int db3), .val (.int dt), .val (.int dc), .val (.int ppp), .val (.int frm), .val (.int len), .val (.int too), .val (.ref b30), .val (.long act), .second, .unset, .unset, .val (.long (0 : Int64)), .second, .unset, .unset, .unset, .unset, .unset, .unset, .unset, .unset, .unset] [(.int frm)])) t → Steps p.tables e below (s₁.setTop (entryFrame m #[(.int p1), (.int p2), (.int p3), (.int p4)] maxLocals)) t := fun t kt => by
      refine pre141 t ?_
      refine XS.iload X139.here hx rfl (hb hby at_244) rfl ?_
      show Steps p.tables e below (T139.setTop (mkF m 246 #[.val (.int p1), .val (.int p2), .val (.int p3), .val (.int p4), .val (.int db0), .val (.int db1), .val (.int db2), .val (.int db3), .val (.int dt), .val (.int dc), .val (.int ppp), .val (.int frm), .val (.int len), .val (.int too), .val (.ref b30), .val (.long act), .second, .unset, .unset, .unset, .unset, .unset, .unset, .unset, .unset, .unset, .unset, .unset, .unset, .unset] [(.int len)])) _
      refine XS.bipush X139.here hx rfl (hb hby at_246) ?_
      show Steps p.tables e below (T139.setTop (mkF m 248 #[.val (.int p1), .val (.int p2), .val (.int p3), .val (.int p4), .val (.int db0), .val (.int db1), .val (.int db2), .val (.int db3), .val (.int dt), .val (.int dc), .val (.int ppp), .val (.int frm), .val (.int len), .val (.int too), .val (.ref b30), .val (.long act), .second, .unset, .unset, .unset, .unset, .unset, .unset, .unset, .unset, .unset, .unset, .unset, .unset, .unset] [(.int (18 : Int32)), (.int len)])) _
      refine XS.icmpYes X139.here hx rfl (pc0 := 248) (pc' := 259) rfl (hb hby at_248) rfl (flt hc248).2.2.2 (by decide) (by decide) ?_
      show Steps p.tables e below (T139.setTop (mkF m 259 #[.val (.int p1), .val (.int p2), .val (.int p3), .val (.int p4), .val (.int db0), .val (.int db1), .val (.int db2), .val (.int db3), .val (.int dt), .val (.int dc), .val (.int ppp), .val (.int frm), .val (.int len), .val (.int too), .val (.ref b30), .val (.long act), .second, .unset, .unset, .unset, .unset, .unset, .unset, .unset, .unset, .unset, .unset, .unset, .unset, .unset] [])) _
      refine XS.lconst X139.here hx rfl (hb hby at_259) ?_
      show Steps p.tables e below (T139.setTop (mkF m 260 #[.val (.int p1), .val (.int p2), .val (.int p3), .val (.int p4), .val (.int db0), .val (.int db1), .val (.int db2), .val (.int db3), .val (.int dt), .val (.int dc), .val (.int ppp), .val (.int frm), .val (.int len), .val (.int too), .val (.ref b30), .val (.long act), .second, .unset, .unset, .unset, .unset, .unset, .unset, .unset, .unset, .unset, .unset, .unset, .unset, .unset] [(.long (0 : Int64))])) _
      refine XS.lstore X139.here hx rfl (hb hby at_260) rfl (l' := #[.val (.int p1), .val (.int p2), .val (.int p3), .val (.int p4), .val (.int db0), .val (.int db1), .val (.int db2), .val (.int db3), .val (.int dt), .val (.int dc), .val (.int ppp), .val (.int frm), .val (.int len), .val (.int too), .val (.ref b30), .val (.long act), .second, .unset, .unset, .val (.long (0 : Int64)), .second, .unset, .unset, .unset, .unset, .unset, .unset, .unset, .unset, .unset]) rfl ?_
      show Steps p.tables e below (T139.setTop (mkF m 262 #[.val (.int p1), .val (.int p2), .val (.int p3), .val (.int p4), .val (.int db0), .val (.int db1), .val (.int db2), .val (.int db3), .val (.int dt), .val (.int dc), .val (.int ppp), .val (.int frm), .val (.int len), .val (.int too), .val (.ref b30), .val (.long act), .second, .unset, .unset, .val (.long (0 : Int64)), .second, .unset, .unset, .unset, .unset, .unset, .unset, .unset, .unset, .unset] [])) _
      refine XS.iload X139.here hx rfl (hb hby at_262) rfl ?_
      show Steps p.tables e below (T139.setTop (mkF m 264 #[.val (.int p1), .val (.int p2), .val (.int p3), .val (.int p4), .val (.int db0), .val (.int db1), .val (.int db2), .val (.int db3), .val (.int dt), .val (.int dc), .val (.int ppp), .val (.int frm), .val (.int len), .val (.int too), .val (.ref b30), .val (.long act), .second, .unset, .unset, .val (.long (0 : Int64)), .second, .unset, .unset, .unset, .unset, .unset, .unset, .unset, .unset, .unset] [(.int frm)])) _
      exact kt
    obtain ⟨T144, L144, vv1, X144, e144, N144, h_vv1, pre144⟩ : ∃ (T144 : State) (L144 : List Loc) (vv1 : Int64), Stand p l e room_1 s m #[(.int p1), (.int p2), (.int p3), (.int p4)] below meth c T144 L144 1 20 ∧ T144.heap = h134 ∧ Fr n0 L144 ∧ vv1 = (if (0 : Int32) < frm then (0 : Int64) else (if (0 : Int32) < too then (r5 (0 : Int64) db0) else (0 : Int64))) ∧ (∀ t, Steps p.tables e below (T144.setTop (mkF m 282 #[.val (.int p1), .val (.int p2), .val (.int p3), .val (.int p4), .val (.int db0), .val (.int db1), .val (.int db2), .val (.int db3), .val (.int dt), .val (.int dc), .val (.int ppp), .val (.int frm), .val (.int len), .val (.int too), .val (.ref b30), .val (.long act), .second, .unset, .unset, .val (.long vv1), .second, .unset, .unset, .unset, .unset, .unset, .unset, .unset, .unset, .unset] [])) t → Steps p.tables e below (s₁.setTop (entryFrame m #[(.int p1), (.int p2), (.int p3), (.int p4)] maxLocals)) t) := by
      by_cases hc264 : (0 : Int32) < frm
      · skip
        have pre145 : ∀ t, Steps p.tables e below (T139.setTop (mkF m 282 #[.val (.int p1), .val (.int p2), .val (.int p3), .val (.int p4), .val (.int db0), .val (.int db1), .val (.int db2), .val (.int db3), .val (.int dt), .val (.int dc), .val (.int ppp), .val (.int frm), .val (.int len), .val (.int too), .val (.ref b30), .val (.long act), .second, .unset, .unset, .val (.long (0 : Int64)), .second, .unset, .unset, .unset, .unset, .unset, .unset, .unset, .unset, .unset] [])) t → Steps p.tables e below (s₁.setTop (entryFrame m #[(.int p1), (.int p2), (.int p3), (.int p4)] maxLocals)) t := fun t kt => by
          refine pre143 t ?_
          refine XS.ifYes X139.here hx rfl (pc0 := 264) (pc' := 282) rfl (hb hby at_264) rfl ((if0 _ _).trans (tlt hc264).2.2.1) (by decide) (by decide) ?_
          show Steps p.tables e below (T139.setTop (mkF m 282 #[.val (.int p1), .val (.int p2), .val (.int p3), .val (.int p4), .val (.int db0), .val (.int db1), .val (.int db2), .val (.int db3), .val (.int dt), .val (.int dc), .val (.int ppp), .val (.int frm), .val (.int len), .val (.int too), .val (.ref b30), .val (.long act), .second, .unset, .unset, .val (.long (0 : Int64)), .second, .unset, .unset, .unset, .unset, .unset, .unset, .unset, .unset, .unset] [])) _
          exact kt
        exact ⟨T139, _, (0 : Int64), X139, e139, N139, by first | rfl | (simp only [if_pos hc264]), pre145⟩
      · skip
        by_cases hc270 : (0 : Int32) < too
        · skip
          have pre146 : ∀ t, Steps p.tables e below (T139.setTop (mkF m 277 #[.val (.int p1), .val (.int p2), .val (.int p3), .val (.int p4), .val (.int db0), .val (.int db1), .val (.int db2), .val (.int db3), .val (.int dt), .val (.int dc), .val (.int ppp), .val (.int frm), .val (.int len), .val (.int too), .val (.ref b30), .val (.long act), .second, .unset, .unset, .val (.long (0 : Int64)), .second, .unset, .unset, .unset, .unset, .unset, .unset, .unset, .unset, .unset] [(.int db0), (.long (0 : Int64))])) t → Steps p.tables e below (s₁.setTop (entryFrame m #[(.int p1), (.int p2), (.int p3), (.int p4)] maxLocals)) t := fun t kt => by
            refine pre143 t ?_
            refine XS.ifNo X139.here hx rfl (hb hby at_264) rfl ((if0 _ _).trans (flt hc264).2.2.1) ?_
            show Steps p.tables e below (T139.setTop (mkF m 267 #[.val (.int p1), .val (.int p2), .val (.int p3), .val (.int p4), .val (.int db0), .val (.int db1), .val (.int db2), .val (.int db3), .val (.int dt), .val (.int dc), .val (.int ppp), .val (.int frm), .val (.int len), .val (.int too), .val (.ref b30), .val (.long act), .second, .unset, .unset, .val (.long (0 : Int64)), .second, .unset, .unset, .unset, .unset, .unset, .unset, .unset, .unset, .unset] [])) _
            refine XS.iconst X139.here hx rfl (hb hby at_267) ?_
            show Steps p.tables e below (T139.setTop (mkF m 268 #[.val (.int p1), .val (.int p2), .val (.int p3), .val (.int p4), .val (.int db0), .val (.int db1), .val (.int db2), .val (.int db3), .val (.int dt), .val (.int dc), .val (.int ppp), .val (.int frm), .val (.int len), .val (.int too), .val (.ref b30), .val (.long act), .second, .unset, .unset, .val (.long (0 : Int64)), .second, .unset, .unset, .unset, .unset, .unset, .unset, .unset, .unset, .unset] [(.int (0 : Int32))])) _
            refine XS.iload X139.here hx rfl (hb hby at_268) rfl ?_
            show Steps p.tables e below (T139.setTop (mkF m 270 #[.val (.int p1), .val (.int p2), .val (.int p3), .val (.int p4), .val (.int db0), .val (.int db1), .val (.int db2), .val (.int db3), .val (.int dt), .val (.int dc), .val (.int ppp), .val (.int frm), .val (.int len), .val (.int too), .val (.ref b30), .val (.long act), .second, .unset, .unset, .val (.long (0 : Int64)), .second, .unset, .unset, .unset, .unset, .unset, .unset, .unset, .unset, .unset] [(.int too), (.int (0 : Int32))])) _
            refine XS.icmpNo X139.here hx rfl (hb hby at_270) rfl (tlt hc270).2.1 ?_
            show Steps p.tables e below (T139.setTop (mkF m 273 #[.val (.int p1), .val (.int p2), .val (.int p3), .val (.int p4), .val (.int db0), .val (.int db1), .val (.int db2), .val (.int db3), .val (.int dt), .val (.int dc), .val (.int ppp), .val (.int frm), .val (.int len), .val (.int too), .val (.ref b30), .val (.long act), .second, .unset, .unset, .val (.long (0 : Int64)), .second, .unset, .unset, .unset, .unset, .unset, .unset, .unset, .unset, .unset] [])) _
            refine XS.lload X139.here hx rfl (hb hby at_273) rfl ?_
            show Steps p.tables e below (T139.setTop (mkF m 275 #[.val (.int p1), .val (.int p2), .val (.int p3), .val (.int p4), .val (.int db0), .val (.int db1), .val (.int db2), .val (.int db3), .val (.int dt), .val (.int dc), .val (.int ppp), .val (.int frm), .val (.int len), .val (.int too), .val (.ref b30), .val (.long act), .second, .unset, .unset, .val (.long (0 : Int64)), .second, .unset, .unset, .unset, .unset, .unset, .unset, .unset, .unset, .unset] [(.long (0 : Int64))])) _
            refine XS.iload X139.here hx rfl (hb hby at_275) rfl ?_
            show Steps p.tables e below (T139.setTop (mkF m 277 #[.val (.int p1), .val (.int p2), .val (.int p3), .val (.int p4), .val (.int db0), .val (.int db1), .val (.int db2), .val (.int db3), .val (.int dt), .val (.int dc), .val (.int ppp), .val (.int frm), .val (.int len), .val (.int too), .val (.ref b30), .val (.long act), .second, .unset, .unset, .val (.long (0 : Int64)), .second, .unset, .unset, .unset, .unset, .unset, .unset, .unset, .unset, .unset] [(.int db0), (.long (0 : Int64))])) _
            exact kt
          obtain ⟨_, _, ⟨T147, L147, k147, n147⟩, -, X147, ⟨Lc147, hQ147, l147, y147, z147⟩, st147⟩ := Jvm.LawKit.callS X139 hx (y := (⟨"com/example/entgelt/entgelt/io/FieldFormsDigitsPinLaw", "step", "(JB)J"⟩ : MethodName)) hown (mvT hZ (hw _ (mgE 41 rfl))) (mvT hZ (hw _ (mgE 42 rfl))) (mvT hZ (hw _ (mgE 2 rfl))) (mvT hZ (hw _ (mgE 43 rfl))) (by decide) (backOf (W := 0) (rm5 l Z a0 hw [] (0 : Int64) db0 h134 n0 Z134 ) hZ (hw _ (mgE 43 rfl)) (hw _ (mgE 2 rfl)) (by decide) (by decide)) (g := (mkF m 277 #[.val (.int p1), .val (.int p2), .val (.int p3), .val (.int p4), .val (.int db0), .val (.int db1), .val (.int db2), .val (.int db3), .val (.int dt), .val (.int dc), .val (.int ppp), .val (.int frm), .val (.int len), .val (.int too), .val (.ref b30), .val (.long act), .second, .unset, .unset, .val (.long (0 : Int64)), .second, .unset, .unset, .unset, .unset, .unset, .unset, .unset, .unset, .unset] [(.int db0), (.long (0 : Int64))])) rfl (by rw [hml]; rfl) (argsL := [(.long (0 : Int64)), (.int db0)]) (rest := []) (lenOf pd__JB_J rfl) rfl (by show 2 * 0 + _ ≤ _; exact Nat.le_of_eq rfl) (hb hby at_277) (fun _ _ => ⟨rfl, e139, (by decide : 1 + 0 ≤ _), (by decide : 20 + 0 ≤ _)⟩)
          dsimp only [Pt.U, Pt.locs, Pt.cells, Pt.slots] at X147 l147 y147 z147 st147 hQ147
          have ly147 := l147.symm; subst ly147 y147 z147
          obtain ⟨rfl, N147q, e147⟩ := hQ147
          have pre148 : ∀ t, Steps p.tables e below (T147.setTop (mkF m 280 #[.val (.int p1), .val (.int p2), .val (.int p3), .val (.int p4), .val (.int db0), .val (.int db1), .val (.int db2), .val (.int db3), .val (.int dt), .val (.int dc), .val (.int ppp), .val (.int frm), .val (.int len), .val (.int too), .val (.ref b30), .val (.long act), .second, .unset, .unset, .val (.long (0 : Int64)), .second, .unset, .unset, .unset, .unset, .unset, .unset, .unset, .unset, .unset] [(.long (r5 (0 : Int64) db0))])) t → Steps p.tables e below (s₁.setTop (entryFrame m #[(.int p1), (.int p2), (.int p3), (.int p4)] maxLocals)) t := fun t kt => pre146 t (st147 t kt)
          have N147 := Fr.app N139 N147q
          have pre149 : ∀ t, Steps p.tables e below (T147.setTop (mkF m 282 #[.val (.int p1), .val (.int p2), .val (.int p3), .val (.int p4), .val (.int db0), .val (.int db1), .val (.int db2), .val (.int db3), .val (.int dt), .val (.int dc), .val (.int ppp), .val (.int frm), .val (.int len), .val (.int too), .val (.ref b30), .val (.long act), .second, .unset, .unset, .val (.long (r5 (0 : Int64) db0)), .second, .unset, .unset, .unset, .unset, .unset, .unset, .unset, .unset, .unset] [])) t → Steps p.tables e below (s₁.setTop (entryFrame m #[(.int p1), (.int p2), (.int p3), (.int p4)] maxLocals)) t := fun t kt => by
            refine pre148 t ?_
            refine XS.lstore X147.here hx rfl (hb hby at_280) rfl (l' := #[.val (.int p1), .val (.int p2), .val (.int p3), .val (.int p4), .val (.int db0), .val (.int db1), .val (.int db2), .val (.int db3), .val (.int dt), .val (.int dc), .val (.int ppp), .val (.int frm), .val (.int len), .val (.int too), .val (.ref b30), .val (.long act), .second, .unset, .unset, .val (.long (r5 (0 : Int64) db0)), .second, .unset, .unset, .unset, .unset, .unset, .unset, .unset, .unset, .unset]) rfl ?_
            show Steps p.tables e below (T147.setTop (mkF m 282 #[.val (.int p1), .val (.int p2), .val (.int p3), .val (.int p4), .val (.int db0), .val (.int db1), .val (.int db2), .val (.int db3), .val (.int dt), .val (.int dc), .val (.int ppp), .val (.int frm), .val (.int len), .val (.int too), .val (.ref b30), .val (.long act), .second, .unset, .unset, .val (.long (r5 (0 : Int64) db0)), .second, .unset, .unset, .unset, .unset, .unset, .unset, .unset, .unset, .unset] [])) _
            exact kt
          exact ⟨T147, _, (r5 (0 : Int64) db0), X147, e147, N147, by first | rfl | (simp only [if_neg hc264, if_pos hc270]), pre149⟩
        · skip
          have pre150 : ∀ t, Steps p.tables e below (T139.setTop (mkF m 282 #[.val (.int p1), .val (.int p2), .val (.int p3), .val (.int p4), .val (.int db0), .val (.int db1), .val (.int db2), .val (.int db3), .val (.int dt), .val (.int dc), .val (.int ppp), .val (.int frm), .val (.int len), .val (.int too), .val (.ref b30), .val (.long act), .second, .unset, .unset, .val (.long (0 : Int64)), .second, .unset, .unset, .unset, .unset, .unset, .unset, .unset, .unset, .unset] [])) t → Steps p.tables e below (s₁.setTop (entryFrame m #[(.int p1), (.int p2), (.int p3), (.int p4)] maxLocals)) t := fun t kt => by
            refine pre143 t ?_
            refine XS.ifNo X139.here hx rfl (hb hby at_264) rfl ((if0 _ _).trans (flt hc264).2.2.1) ?_
            show Steps p.tables e below (T139.setTop (mkF m 267 #[.val (.int p1), .val (.int p2), .val (.int p3), .val (.int p4), .val (.int db0), .val (.int db1), .val (.int db2), .val (.int db3), .val (.int dt), .val (.int dc), .val (.int ppp), .val (.int frm), .val (.int len), .val (.int too), .val (.ref b30), .val (.long act), .second, .unset, .unset, .val (.long (0 : Int64)), .second, .unset, .unset, .unset, .unset, .unset, .unset, .unset, .unset, .unset] [])) _
            refine XS.iconst X139.here hx rfl (hb hby at_267) ?_
            show Steps p.tables e below (T139.setTop (mkF m 268 #[.val (.int p1), .val (.int p2), .val (.int p3), .val (.int p4), .val (.int db0), .val (.int db1), .val (.int db2), .val (.int db3), .val (.int dt), .val (.int dc), .val (.int ppp), .val (.int frm), .val (.int len), .val (.int too), .val (.ref b30), .val (.long act), .second, .unset, .unset, .val (.long (0 : Int64)), .second, .unset, .unset, .unset, .unset, .unset, .unset, .unset, .unset, .unset] [(.int (0 : Int32))])) _
            refine XS.iload X139.here hx rfl (hb hby at_268) rfl ?_
            show Steps p.tables e below (T139.setTop (mkF m 270 #[.val (.int p1), .val (.int p2), .val (.int p3), .val (.int p4), .val (.int db0), .val (.int db1), .val (.int db2), .val (.int db3), .val (.int dt), .val (.int dc), .val (.int ppp), .val (.int frm), .val (.int len), .val (.int too), .val (.ref b30), .val (.long act), .second, .unset, .unset, .val (.long (0 : Int64)), .second, .unset, .unset, .unset, .unset, .unset, .unset, .unset, .unset, .unset] [(.int too), (.int (0 : Int32))])) _
            refine XS.icmpYes X139.here hx rfl (pc0 := 270) (pc' := 282) rfl (hb hby at_270) rfl (flt hc270).2.1 (by decide) (by decide) ?_
            show Steps p.tables e below (T139.setTop (mkF m 282 #[.val (.int p1), .val (.int p2), .val (.int p3), .val (.int p4), .val (.int db0), .val (.int db1), .val (.int db2), .val (.int db3), .val (.int dt), .val (.int dc), .val (.int ppp), .val (.int frm), .val (.int len), .val (.int too), .val (.ref b30), .val (.long act), .second, .unset, .unset, .val (.long (0 : Int64)), .second, .unset, .unset, .unset, .unset, .unset, .unset, .unset, .unset, .unset] [])) _
            exact kt
          exact ⟨T139, _, (0 : Int64), X139, e139, N139, by first | rfl | (simp only [if_neg hc264, if_neg hc270]), pre150⟩
    have pre151 : ∀ t, Steps p.tables e below (T144.setTop (mkF m 285 #[.val (.int p1), .val (.int p2), .val (.int p3), .val (.int p4), .val (.int db0), .val (.int db1), .val (.int db2), .val (.int db3), .val (.int dt), .val (.int dc), .val (.int ppp), .val (.int frm), .val (.int len), .val (.int too), .val (.ref b30), .val (.long act), .second, .unset, .unset, .val (.long vv1), .second, .unset, .unset, .unset, .unset, .unset, .unset, .unset, .unset, .unset] [(.int (1 : Int32)), (.int frm)])) t → Steps p.tables e below (s₁.setTop (entryFrame m #[(.int p1), (.int p2), (.int p3), (.int p4)] maxLocals)) t := fun t kt => by
      refine pre144 t ?_
      refine XS.iload X144.here hx rfl (hb hby at_282) rfl ?_
      show Steps p.tables e below (T144.setTop (mkF m 284 #[.val (.int p1), .val (.int p2), .val (.int p3), .val (.int p4), .val (.int db0), .val (.int db1), .val (.int db2), .val (.int db3), .val (.int dt), .val (.int dc), .val (.int ppp), .val (.int frm), .val (.int len), .val (.int too), .val (.ref b30), .val (.long act), .second, .unset, .unset, .val (.long vv1), .second, .unset, .unset, .unset, .unset, .unset, .unset, .unset, .unset, .unset] [(.int frm)])) _
      refine XS.iconst X144.here hx rfl (hb hby at_284) ?_
      show Steps p.tables e below (T144.setTop (mkF m 285 #[.val (.int p1), .val (.int p2), .val (.int p3), .val (.int p4), .val (.int db0), .val (.int db1), .val (.int db2), .val (.int db3), .val (.int dt), .val (.int dc), .val (.int ppp), .val (.int frm), .val (.int len), .val (.int too), .val (.ref b30), .val (.long act), .second, .unset, .unset, .val (.long vv1), .second, .unset, .unset, .unset, .unset, .unset, .unset, .unset, .unset, .unset] [(.int (1 : Int32)), (.int frm)])) _
      exact kt
    obtain ⟨T152, L152, vv2, X152, e152, N152, h_vv2, pre152⟩ : ∃ (T152 : State) (L152 : List Loc) (vv2 : Int64), Stand p l e room_1 s m #[(.int p1), (.int p2), (.int p3), (.int p4)] below meth c T152 L152 1 20 ∧ T152.heap = h134 ∧ Fr n0 L152 ∧ vv2 = (if (1 : Int32) < frm then vv1 else (if (1 : Int32) < too then (r5 vv1 db1) else vv1)) ∧ (∀ t, Steps p.tables e below (T152.setTop (mkF m 303 #[.val (.int p1), .val (.int p2), .val (.int p3), .val (.int p4), .val (.int db0), .val (.int db1), .val (.int db2), .val (.int db3), .val (.int dt), .val (.int dc), .val (.int ppp), .val (.int frm), .val (.int len), .val (.int too), .val (.ref b30), .val (.long act), .second, .unset, .unset, .val (.long vv2), .second, .unset, .unset, .unset, .unset, .unset, .unset, .unset, .unset, .unset] [])) t → Steps p.tables e below (s₁.setTop (entryFrame m #[(.int p1), (.int p2), (.int p3), (.int p4)] maxLocals)) t) := by
      by_cases hc285 : (1 : Int32) < frm
      · skip
        have pre153 : ∀ t, Steps p.tables e below (T144.setTop (mkF m 303 #[.val (.int p1), .val (.int p2), .val (.int p3), .val (.int p4), .val (.int db0), .val (.int db1), .val (.int db2), .val (.int db3), .val (.int dt), .val (.int dc), .val (.int ppp), .val (.int frm), .val (.int len), .val (.int too), .val (.ref b30), .val (.long act), .second, .unset, .unset, .val (.long vv1), .second, .unset, .unset, .unset, .unset, .unset, .unset, .unset, .unset, .unset] [])) t → Steps p.tables e below (s₁.setTop (entryFrame m #[(.int p1), (.int p2), (.int p3), (.int p4)] maxLocals)) t := fun t kt => by
          refine pre151 t ?_
          refine XS.icmpYes X144.here hx rfl (pc0 := 285) (pc' := 303) rfl (hb hby at_285) rfl (tlt hc285).2.2.1 (by decide) (by decide) ?_
          show Steps p.tables e below (T144.setTop (mkF m 303 #[.val (.int p1), .val (.int p2), .val (.int p3), .val (.int p4), .val (.int db0), .val (.int db1), .val (.int db2), .val (.int db3), .val (.int dt), .val (.int dc), .val (.int ppp), .val (.int frm), .val (.int len), .val (.int too), .val (.ref b30), .val (.long act), .second, .unset, .unset, .val (.long vv1), .second, .unset, .unset, .unset, .unset, .unset, .unset, .unset, .unset, .unset] [])) _
          exact kt
        exact ⟨T144, _, vv1, X144, e144, N144, by first | rfl | (simp only [if_pos hc285]), pre153⟩
      · skip
        by_cases hc291 : (1 : Int32) < too
        · skip
          have pre154 : ∀ t, Steps p.tables e below (T144.setTop (mkF m 298 #[.val (.int p1), .val (.int p2), .val (.int p3), .val (.int p4), .val (.int db0), .val (.int db1), .val (.int db2), .val (.int db3), .val (.int dt), .val (.int dc), .val (.int ppp), .val (.int frm), .val (.int len), .val (.int too), .val (.ref b30), .val (.long act), .second, .unset, .unset, .val (.long vv1), .second, .unset, .unset, .unset, .unset, .unset, .unset, .unset, .unset, .unset] [(.int db1), (.long vv1)])) t → Steps p.tables e below (s₁.setTop (entryFrame m #[(.int p1), (.int p2), (.int p3), (.int p4)] maxLocals)) t := fun t kt => by
            refine pre151 t ?_
            refine XS.icmpNo X144.here hx rfl (hb hby at_285) rfl (flt hc285).2.2.1 ?_
            show Steps p.tables e below (T144.setTop (mkF m 288 #[.val (.int p1), .val (.int p2), .val (.int p3), .val (.int p4), .val (.int db0), .val (.int db1), .val (.int db2), .val (.int db3), .val (.int dt), .val (.int dc), .val (.int ppp), .val (.int frm), .val (.int len), .val (.int too), .val (.ref b30), .val (.long act), .second, .unset, .unset, .val (.long vv1), .second, .unset, .unset, .unset, .unset, .unset, .unset, .unset, .unset, .unset] [])) _
            refine XS.iconst X144.here hx rfl (hb hby at_288) ?_
            show Steps p.tables e below (T144.setTop (mkF m 289 #[.val (.int p1), .val (.int p2), .val (.int p3), .val (.int p4), .val (.int db0), .val (.int db1), .val (.int db2), .val (.int db3), .val (.int dt), .val (.int dc), .val (.int ppp), .val (.int frm), .val (.int len), .val (.int too), .val (.ref b30), .val (.long act), .second, .unset, .unset, .val (.long vv1), .second, .unset, .unset, .unset, .unset, .unset, .unset, .unset, .unset, .unset] [(.int (1 : Int32))])) _
            refine XS.iload X144.here hx rfl (hb hby at_289) rfl ?_
            show Steps p.tables e below (T144.setTop (mkF m 291 #[.val (.int p1), .val (.int p2), .val (.int p3), .val (.int p4), .val (.int db0), .val (.int db1), .val (.int db2), .val (.int db3), .val (.int dt), .val (.int dc), .val (.int ppp), .val (.int frm), .val (.int len), .val (.int too), .val (.ref b30), .val (.long act), .second, .unset, .unset, .val (.long vv1), .second, .unset, .unset, .unset, .unset, .unset, .unset, .unset, .unset, .unset] [(.int too), (.int (1 : Int32))])) _
            refine XS.icmpNo X144.here hx rfl (hb hby at_291) rfl (tlt hc291).2.1 ?_
            show Steps p.tables e below (T144.setTop (mkF m 294 #[.val (.int p1), .val (.int p2), .val (.int p3), .val (.int p4), .val (.int db0), .val (.int db1), .val (.int db2), .val (.int db3), .val (.int dt), .val (.int dc), .val (.int ppp), .val (.int frm), .val (.int len), .val (.int too), .val (.ref b30), .val (.long act), .second, .unset, .unset, .val (.long vv1), .second, .unset, .unset, .unset, .unset, .unset, .unset, .unset, .unset, .unset] [])) _
            refine XS.lload X144.here hx rfl (hb hby at_294) rfl ?_
            show Steps p.tables e below (T144.setTop (mkF m 296 #[.val (.int p1), .val (.int p2), .val (.int p3), .val (.int p4), .val (.int db0), .val (.int db1), .val (.int db2), .val (.int db3), .val (.int dt), .val (.int dc), .val (.int ppp), .val (.int frm), .val (.int len), .val (.int too), .val (.ref b30), .val (.long act), .second, .unset, .unset, .val (.long vv1), .second, .unset, .unset, .unset, .unset, .unset, .unset, .unset, .unset, .unset] [(.long vv1)])) _
            refine XS.iload X144.here hx rfl (hb hby at_296) rfl ?_
            show Steps p.tables e below (T144.setTop (mkF m 298 #[.val (.int p1), .val (.int p2), .val (.int p3), .val (.int p4), .val (.int db0), .val (.int db1), .val (.int db2), .val (.int db3), .val (.int dt), .val (.int dc), .val (.int ppp), .val (.int frm), .val (.int len), .val (.int too), .val (.ref b30), .val (.long act), .second, .unset, .unset, .val (.long vv1), .second, .unset, .unset, .unset, .unset, .unset, .unset, .unset, .unset, .unset] [(.int db1), (.long vv1)])) _
            exact kt
          obtain ⟨_, _, ⟨T155, L155, k155, n155⟩, -, X155, ⟨Lc155, hQ155, l155, y155, z155⟩, st155⟩ := Jvm.LawKit.callS X144 hx (y := (⟨"com/example/entgelt/entgelt/io/FieldFormsDigitsPinLaw", "step", "(JB)J"⟩ : MethodName)) hown (mvT hZ (hw _ (mgE 41 rfl))) (mvT hZ (hw _ (mgE 42 rfl))) (mvT hZ (hw _ (mgE 2 rfl))) (mvT hZ (hw _ (mgE 43 rfl))) (by decide) (backOf (W := 0) (rm5 l Z a0 hw [] vv1 db1 h134 n0 Z134 ) hZ (hw _ (mgE 43 rfl)) (hw _ (mgE 2 rfl)) (by decide) (by decide)) (g := (mkF m 298 #[.val (.int p1), .val (.int p2), .val (.int p3), .val (.int p4), .val (.int db0), .val (.int db1), .val (.int db2), .val (.int db3), .val (.int dt), .val (.int dc), .val (.int ppp), .val (.int frm), .val (.int len), .val (.int too), .val (.ref b30), .val (.long act), .second, .unset, .unset, .val (.long vv1), .second, .unset, .unset, .unset, .unset, .unset, .unset, .unset, .unset, .unset] [(.int db1), (.long vv1)])) rfl (by rw [hml]; rfl) (argsL := [(.long vv1), (.int db1)]) (rest := []) (lenOf pd__JB_J rfl) rfl (by show 2 * 0 + _ ≤ _; exact Nat.le_of_eq rfl) (hb hby at_298) (fun _ _ => ⟨rfl, e144, (by decide : 1 + 0 ≤ _), (by decide : 20 + 0 ≤ _)⟩)
          dsimp only [Pt.U, Pt.locs, Pt.cells, Pt.slots] at X155 l155 y155 z155 st155 hQ155
          have ly155 := l155.symm; subst ly155 y155 z155
          obtain ⟨rfl, N155q, e155⟩ := hQ155
          have pre156 : ∀ t, Steps p.tables e below (T155.setTop (mkF m 301 #[.val (.int p1), .val (.int p2), .val (.int p3), .val (.int p4), .val (.int db0), .val (.int db1), .val (.int db2), .val (.int db3), .val (.int dt), .val (.int dc), .val (.int ppp), .val (.int frm), .val (.int len), .val (.int too), .val (.ref b30), .val (.long act), .second, .unset, .unset, .val (.long vv1), .second, .unset, .unset, .unset, .unset, .unset, .unset, .unset, .unset, .unset] [(.long (r5 vv1 db1))])) t → Steps p.tables e below (s₁.setTop (entryFrame m #[(.int p1), (.int p2), (.int p3), (.int p4)] maxLocals)) t := fun t kt => pre154 t (st155 t kt)
          have N155 := Fr.app N144 N155q
          have pre157 : ∀ t, Steps p.tables e below (T155.setTop (mkF m 303 #[.val (.int p1), .val (.int p2), .val (.int p3), .val (.int p4), .val (.int db0), .val (.int db1), .val (.int db2), .val (.int db3), .val (.int dt), .val (.int dc), .val (.int ppp), .val (.int frm), .val (.int len), .val (.int too), .val (.ref b30), .val (.long act), .second, .unset, .unset, .val (.long (r5 vv1 db1)), .second, .unset, .unset, .unset, .unset, .unset, .unset, .unset, .unset, .unset] [])) t → Steps p.tables e below (s₁.setTop (entryFrame m #[(.int p1), (.int p2), (.int p3), (.int p4)] maxLocals)) t := fun t kt => by
            refine pre156 t ?_
            refine XS.lstore X155.here hx rfl (hb hby at_301) rfl (l' := #[.val (.int p1), .val (.int p2), .val (.int p3), .val (.int p4), .val (.int db0), .val (.int db1), .val (.int db2), .val (.int db3), .val (.int dt), .val (.int dc), .val (.int ppp), .val (.int frm), .val (.int len), .val (.int too), .val (.ref b30), .val (.long act), .second, .unset, .unset, .val (.long (r5 vv1 db1)), .second, .unset, .unset, .unset, .unset, .unset, .unset, .unset, .unset, .unset]) rfl ?_
            show Steps p.tables e below (T155.setTop (mkF m 303 #[.val (.int p1), .val (.int p2), .val (.int p3), .val (.int p4), .val (.int db0), .val (.int db1), .val (.int db2), .val (.int db3), .val (.int dt), .val (.int dc), .val (.int ppp), .val (.int frm), .val (.int len), .val (.int too), .val (.ref b30), .val (.long act), .second, .unset, .unset, .val (.long (r5 vv1 db1)), .second, .unset, .unset, .unset, .unset, .unset, .unset, .unset, .unset, .unset] [])) _
            exact kt
          exact ⟨T155, _, (r5 vv1 db1), X155, e155, N155, by first | rfl | (simp only [if_neg hc285, if_pos hc291]), pre157⟩
        · skip
          have pre158 : ∀ t, Steps p.tables e below (T144.setTop (mkF m 303 #[.val (.int p1), .val (.int p2), .val (.int p3), .val (.int p4), .val (.int db0), .val (.int db1), .val (.int db2), .val (.int db3), .val (.int dt), .val (.int dc), .val (.int ppp), .val (.int frm), .val (.int len), .val (.int too), .val (.ref b30), .val (.long act), .second, .unset, .unset, .val (.long vv1), .second, .unset, .unset, .unset, .unset, .unset, .unset, .unset, .unset, .unset] [])) t → Steps p.tables e below (s₁.setTop (entryFrame m #[(.int p1), (.int p2), (.int p3), (.int p4)] maxLocals)) t := fun t kt => by
            refine pre151 t ?_
            refine XS.icmpNo X144.here hx rfl (hb hby at_285) rfl (flt hc285).2.2.1 ?_
            show Steps p.tables e below (T144.setTop (mkF m 288 #[.val (.int p1), .val (.int p2), .val (.int p3), .val (.int p4), .val (.int db0), .val (.int db1), .val (.int db2), .val (.int db3), .val (.int dt), .val (.int dc), .val (.int ppp), .val (.int frm), .val (.int len), .val (.int too), .val (.ref b30), .val (.long act), .second, .unset, .unset, .val (.long vv1), .second, .unset, .unset, .unset, .unset, .unset, .unset, .unset, .unset, .unset] [])) _
            refine XS.iconst X144.here hx rfl (hb hby at_288) ?_
            show Steps p.tables e below (T144.setTop (mkF m 289 #[.val (.int p1), .val (.int p2), .val (.int p3), .val (.int p4), .val (.int db0), .val (.int db1), .val (.int db2), .val (.int db3), .val (.int dt), .val (.int dc), .val (.int ppp), .val (.int frm), .val (.int len), .val (.int too), .val (.ref b30), .val (.long act), .second, .unset, .unset, .val (.long vv1), .second, .unset, .unset, .unset, .unset, .unset, .unset, .unset, .unset, .unset] [(.int (1 : Int32))])) _
            refine XS.iload X144.here hx rfl (hb hby at_289) rfl ?_
            show Steps p.tables e below (T144.setTop (mkF m 291 #[.val (.int p1), .val (.int p2), .val (.int p3), .val (.int p4), .val (.int db0), .val (.int db1), .val (.int db2), .val (.int db3), .val (.int dt), .val (.int dc), .val (.int ppp), .val (.int frm), .val (.int len), .val (.int too), .val (.ref b30), .val (.long act), .second, .unset, .unset, .val (.long vv1), .second, .unset, .unset, .unset, .unset, .unset, .unset, .unset, .unset, .unset] [(.int too), (.int (1 : Int32))])) _
            refine XS.icmpYes X144.here hx rfl (pc0 := 291) (pc' := 303) rfl (hb hby at_291) rfl (flt hc291).2.1 (by decide) (by decide) ?_
            show Steps p.tables e below (T144.setTop (mkF m 303 #[.val (.int p1), .val (.int p2), .val (.int p3), .val (.int p4), .val (.int db0), .val (.int db1), .val (.int db2), .val (.int db3), .val (.int dt), .val (.int dc), .val (.int ppp), .val (.int frm), .val (.int len), .val (.int too), .val (.ref b30), .val (.long act), .second, .unset, .unset, .val (.long vv1), .second, .unset, .unset, .unset, .unset, .unset, .unset, .unset, .unset, .unset] [])) _
            exact kt
          exact ⟨T144, _, vv1, X144, e144, N144, by first | rfl | (simp only [if_neg hc285, if_neg hc291]), pre158⟩
    have pre159 : ∀ t, Steps p.tables e below (T152.setTop (mkF m 306 #[.val (.int p1), .val (.int p2), .val (.int p3), .val (.int p4), .val (.int db0), .val (.int db1), .val (.int db2), .val (.int db3), .val (.int dt), .val (.int dc), .val (.int ppp), .val (.int frm), .val (.int len), .val (.int too), .val (.ref b30), .val (.long act), .second, .unset, .unset, .val (.long vv2), .second, .unset, .unset, .unset, .unset, .unset, .unset, .unset, .unset, .unset] [(.int (2 : Int32)), (.int frm)])) t → Steps p.tables e below (s₁.setTop (entryFrame m #[(.int p1), (.int p2), (.int p3), (.int p4)] maxLocals)) t := fun t kt => by
      refine pre152 t ?_
      refine XS.iload X152.here hx rfl (hb hby at_303) rfl ?_
      show Steps p.tables e below (T152.setTop (mkF m 305 #[.val (.int p1), .val (.int p2), .val (.int p3), .val (.int p4), .val (.int db0), .val (.int db1), .val (.int db2), .val (.int db3), .val (.int dt), .val (.int dc), .val (.int ppp), .val (.int frm), .val (.int len), .val (.int too), .val (.ref b30), .val (.long act), .second, .unset, .unset, .val (.long vv2), .second, .unset, .unset, .unset, .unset, .unset, .unset, .unset, .unset, .unset] [(.int frm)])) _
      refine XS.iconst X152.here hx rfl (hb hby at_305) ?_
      show Steps p.tables e below (T152.setTop (mkF m 306 #[.val (.int p1), .val (.int p2), .val (.int p3), .val (.int p4), .val (.int db0), .val (.int db1), .val (.int db2), .val (.int db3), .val (.int dt), .val (.int dc), .val (.int ppp), .val (.int frm), .val (.int len), .val (.int too), .val (.ref b30), .val (.long act), .second, .unset, .unset, .val (.long vv2), .second, .unset, .unset, .unset, .unset, .unset, .unset, .unset, .unset, .unset] [(.int (2 : Int32)), (.int frm)])) _
      exact kt
    obtain ⟨T160, L160, vv3, X160, e160, N160, h_vv3, pre160⟩ : ∃ (T160 : State) (L160 : List Loc) (vv3 : Int64), Stand p l e room_1 s m #[(.int p1), (.int p2), (.int p3), (.int p4)] below meth c T160 L160 1 20 ∧ T160.heap = h134 ∧ Fr n0 L160 ∧ vv3 = (if (2 : Int32) < frm then vv2 else (if (2 : Int32) < too then (r5 vv2 db2) else vv2)) ∧ (∀ t, Steps p.tables e below (T160.setTop (mkF m 324 #[.val (.int p1), .val (.int p2), .val (.int p3), .val (.int p4), .val (.int db0), .val (.int db1), .val (.int db2), .val (.int db3), .val (.int dt), .val (.int dc), .val (.int ppp), .val (.int frm), .val (.int len), .val (.int too), .val (.ref b30), .val (.long act), .second, .unset, .unset, .val (.long vv3), .second, .unset, .unset, .unset, .unset, .unset, .unset, .unset, .unset, .unset] [])) t → Steps p.tables e below (s₁.setTop (entryFrame m #[(.int p1), (.int p2), (.int p3), (.int p4)] maxLocals)) t) := by
      by_cases hc306 : (2 : Int32) < frm
      · skip
        have pre161 : ∀ t, Steps p.tables e below (T152.setTop (mkF m 324 #[.val (.int p1), .val (.int p2), .val (.int p3), .val (.int p4), .val (.int db0), .val (.int db1), .val (.int db2), .val (.int db3), .val (.int dt), .val (.int dc), .val (.int ppp), .val (.int frm), .val (.int len), .val (.int too), .val (.ref b30), .val (.long act), .second, .unset, .unset, .val (.long vv2), .second, .unset, .unset, .unset, .unset, .unset, .unset, .unset, .unset, .unset] [])) t → Steps p.tables e below (s₁.setTop (entryFrame m #[(.int p1), (.int p2), (.int p3), (.int p4)] maxLocals)) t := fun t kt => by
          refine pre159 t ?_
          refine XS.icmpYes X152.here hx rfl (pc0 := 306) (pc' := 324) rfl (hb hby at_306) rfl (tlt hc306).2.2.1 (by decide) (by decide) ?_
          show Steps p.tables e below (T152.setTop (mkF m 324 #[.val (.int p1), .val (.int p2), .val (.int p3), .val (.int p4), .val (.int db0), .val (.int db1), .val (.int db2), .val (.int db3), .val (.int dt), .val (.int dc), .val (.int ppp), .val (.int frm), .val (.int len), .val (.int too), .val (.ref b30), .val (.long act), .second, .unset, .unset, .val (.long vv2), .second, .unset, .unset, .unset, .unset, .unset, .unset, .unset, .unset, .unset] [])) _
          exact kt
        exact ⟨T152, _, vv2, X152, e152, N152, by first | rfl | (simp only [if_pos hc306]), pre161⟩
      · skip
        by_cases hc312 : (2 : Int32) < too
        · skip
          have pre162 : ∀ t, Steps p.tables e below (T152.setTop (mkF m 319 #[.val (.int p1), .val (.int p2), .val (.int p3), .val (.int p4), .val (.int db0), .val (.int db1), .val (.int db2), .val (.int db3), .val (.int dt), .val (.int dc), .val (.int ppp), .val (.int frm), .val (.int len), .val (.int too), .val (.ref b30), .val (.long act), .second, .unset, .unset, .val (.long vv2), .second, .unset, .unset, .unset, .unset, .unset, .unset, .unset, .unset, .unset] [(.int db2), (.long vv2)])) t → Steps p.tables e below (s₁.setTop (entryFrame m #[(.int p1), (.int p2), (.int p3), (.int p4)] maxLocals)) t := fun t kt => by
            refine pre159 t ?_
            refine XS.icmpNo X152.here hx rfl (hb hby at_306) rfl (flt hc306).2.2.1 ?_
            show Steps p.tables e below (T152.setTop (mkF m 309 #[.val (.int p1), .val (.int p2), .val (.int p3), .val (.int p4), .val (.int db0), .val (.int db1), .val (.int db2), .val (.int db3), .val (.int dt), .val (.int dc), .val (.int ppp), .val (.int frm), .val (.int len), .val (.int too), .val (.ref b30), .val (.long act), .second, .unset, .unset, .val (.long vv2), .second, .unset, .unset, .unset, .unset, .unset, .unset, .unset, .unset, .unset] [])) _
            refine XS.iconst X152.here hx rfl (hb hby at_309) ?_
            show Steps p.tables e below (T152.setTop (mkF m 310 #[.val (.int p1), .val (.int p2), .val (.int p3), .val (.int p4), .val (.int db0), .val (.int db1), .val (.int db2), .val (.int db3), .val (.int dt), .val (.int dc), .val (.int ppp), .val (.int frm), .val (.int len), .val (.int too), .val (.ref b30), .val (.long act), .second, .unset, .unset, .val (.long vv2), .second, .unset, .unset, .unset, .unset, .unset, .unset, .unset, .unset, .unset] [(.int (2 : Int32))])) _
            refine XS.iload X152.here hx rfl (hb hby at_310) rfl ?_
            show Steps p.tables e below (T152.setTop (mkF m 312 #[.val (.int p1), .val (.int p2), .val (.int p3), .val (.int p4), .val (.int db0), .val (.int db1), .val (.int db2), .val (.int db3), .val (.int dt), .val (.int dc), .val (.int ppp), .val (.int frm), .val (.int len), .val (.int too), .val (.ref b30), .val (.long act), .second, .unset, .unset, .val (.long vv2), .second, .unset, .unset, .unset, .unset, .unset, .unset, .unset, .unset, .unset] [(.int too), (.int (2 : Int32))])) _
            refine XS.icmpNo X152.here hx rfl (hb hby at_312) rfl (tlt hc312).2.1 ?_
            show Steps p.tables e below (T152.setTop (mkF m 315 #[.val (.int p1), .val (.int p2), .val (.int p3), .val (.int p4), .val (.int db0), .val (.int db1), .val (.int db2), .val (.int db3), .val (.int dt), .val (.int dc), .val (.int ppp), .val (.int frm), .val (.int len), .val (.int too), .val (.ref b30), .val (.long act), .second, .unset, .unset, .val (.long vv2), .second, .unset, .unset, .unset, .unset, .unset, .unset, .unset, .unset, .unset] [])) _
            refine XS.lload X152.here hx rfl (hb hby at_315) rfl ?_
            show Steps p.tables e below (T152.setTop (mkF m 317 #[.val (.int p1), .val (.int p2), .val (.int p3), .val (.int p4), .val (.int db0), .val (.int db1), .val (.int db2), .val (.int db3), .val (.int dt), .val (.int dc), .val (.int ppp), .val (.int frm), .val (.int len), .val (.int too), .val (.ref b30), .val (.long act), .second, .unset, .unset, .val (.long vv2), .second, .unset, .unset, .unset, .unset, .unset, .unset, .unset, .unset, .unset] [(.long vv2)])) _
            refine XS.iload X152.here hx rfl (hb hby at_317) rfl ?_
            show Steps p.tables e below (T152.setTop (mkF m 319 #[.val (.int p1), .val (.int p2), .val (.int p3), .val (.int p4), .val (.int db0), .val (.int db1), .val (.int db2), .val (.int db3), .val (.int dt), .val (.int dc), .val (.int ppp), .val (.int frm), .val (.int len), .val (.int too), .val (.ref b30), .val (.long act), .second, .unset, .unset, .val (.long vv2), .second, .unset, .unset, .unset, .unset, .unset, .unset, .unset, .unset, .unset] [(.int db2), (.long vv2)])) _
            exact kt
          obtain ⟨_, _, ⟨T163, L163, k163, n163⟩, -, X163, ⟨Lc163, hQ163, l163, y163, z163⟩, st163⟩ := Jvm.LawKit.callS X152 hx (y := (⟨"com/example/entgelt/entgelt/io/FieldFormsDigitsPinLaw", "step", "(JB)J"⟩ : MethodName)) hown (mvT hZ (hw _ (mgE 41 rfl))) (mvT hZ (hw _ (mgE 42 rfl))) (mvT hZ (hw _ (mgE 2 rfl))) (mvT hZ (hw _ (mgE 43 rfl))) (by decide) (backOf (W := 0) (rm5 l Z a0 hw [] vv2 db2 h134 n0 Z134 ) hZ (hw _ (mgE 43 rfl)) (hw _ (mgE 2 rfl)) (by decide) (by decide)) (g := (mkF m 319 #[.val (.int p1), .val (.int p2), .val (.int p3), .val (.int p4), .val (.int db0), .val (.int db1), .val (.int db2), .val (.int db3), .val (.int dt), .val (.int dc), .val (.int ppp), .val (.int frm), .val (.int len), .val (.int too), .val (.ref b30), .val (.long act), .second, .unset, .unset, .val (.long vv2), .second, .unset, .unset, .unset, .unset, .unset, .unset, .unset, .unset, .unset] [(.int db2), (.long vv2)])) rfl (by rw [hml]; rfl) (argsL := [(.long vv2), (.int db2)]) (rest := []) (lenOf pd__JB_J rfl) rfl (by show 2 * 0 + _ ≤ _; exact Nat.le_of_eq rfl) (hb hby at_319) (fun _ _ => ⟨rfl, e152, (by decide : 1 + 0 ≤ _), (by decide : 20 + 0 ≤ _)⟩)
          dsimp only [Pt.U, Pt.locs, Pt.cells, Pt.slots] at X163 l163 y163 z163 st163 hQ163
          have ly163 := l163.symm; subst ly163 y163 z163
          obtain ⟨rfl, N163q, e163⟩ := hQ163
          have pre164 : ∀ t, Steps p.tables e below (T163.setTop (mkF m 322 #[.val (.int p1), .val (.int p2), .val (.int p3), .val (.int p4), .val (.int db0), .val (.int db1), .val (.int db2), .val (.int db3), .val (.int dt), .val (.int dc), .val (.int ppp), .val (.int frm), .val (.int len), .val (.int too), .val (.ref b30), .val (.long act), .second, .unset, .unset, .val (.long vv2), .second, .unset, .unset, .unset, .unset, .unset, .unset, .unset, .unset, .unset] [(.long (r5 vv2 db2))])) t → Steps p.tables e below (s₁.setTop (entryFrame m #[(.int p1), (.int p2), (.int p3), (.int p4)] maxLocals)) t := fun t kt => pre162 t (st163 t kt)
          have N163 := Fr.app N152 N163q
          have pre165 : ∀ t, Steps p.tables e below (T163.setTop (mkF m 324 #[.val (.int p1), .val (.int p2), .val (.int p3), .val (.int p4), .val (.int db0), .val (.int db1), .val (.int db2), .val (.int db3), .val (.int dt), .val (.int dc), .val (.int ppp), .val (.int frm), .val (.int len), .val (.int too), .val (.ref b30), .val (.long act), .second, .unset, .unset, .val (.long (r5 vv2 db2)), .second, .unset, .unset, .unset, .unset, .unset, .unset, .unset, .unset, .unset] [])) t → Steps p.tables e below (s₁.setTop (entryFrame m #[(.int p1), (.int p2), (.int p3), (.int p4)] maxLocals)) t := fun t kt => by
            refine pre164 t ?_
            refine XS.lstore X163.here hx rfl (hb hby at_322) rfl (l' := #[.val (.int p1), .val (.int p2), .val (.int p3), .val (.int p4), .val (.int db0), .val (.int db1), .val (.int db2), .val (.int db3), .val (.int dt), .val (.int dc), .val (.int ppp), .val (.int frm), .val (.int len), .val (.int too), .val (.ref b30), .val (.long act), .second, .unset, .unset, .val (.long (r5 vv2 db2)), .second, .unset, .unset, .unset, .unset, .unset, .unset, .unset, .unset, .unset]) rfl ?_
            show Steps p.tables e below (T163.setTop (mkF m 324 #[.val (.int p1), .val (.int p2), .val (.int p3), .val (.int p4), .val (.int db0), .val (.int db1), .val (.int db2), .val (.int db3), .val (.int dt), .val (.int dc), .val (.int ppp), .val (.int frm), .val (.int len), .val (.int too), .val (.ref b30), .val (.long act), .second, .unset, .unset, .val (.long (r5 vv2 db2)), .second, .unset, .unset, .unset, .unset, .unset, .unset, .unset, .unset, .unset] [])) _
            exact kt
          exact ⟨T163, _, (r5 vv2 db2), X163, e163, N163, by first | rfl | (simp only [if_neg hc306, if_pos hc312]), pre165⟩
        · skip
          have pre166 : ∀ t, Steps p.tables e below (T152.setTop (mkF m 324 #[.val (.int p1), .val (.int p2), .val (.int p3), .val (.int p4), .val (.int db0), .val (.int db1), .val (.int db2), .val (.int db3), .val (.int dt), .val (.int dc), .val (.int ppp), .val (.int frm), .val (.int len), .val (.int too), .val (.ref b30), .val (.long act), .second, .unset, .unset, .val (.long vv2), .second, .unset, .unset, .unset, .unset, .unset, .unset, .unset, .unset, .unset] [])) t → Steps p.tables e below (s₁.setTop (entryFrame m #[(.int p1), (.int p2), (.int p3), (.int p4)] maxLocals)) t := fun t kt => by
            refine pre159 t ?_
            refine XS.icmpNo X152.here hx rfl (hb hby at_306) rfl (flt hc306).2.2.1 ?_
            show Steps p.tables e below (T152.setTop (mkF m 309 #[.val (.int p1), .val (.int p2), .val (.int p3), .val (.int p4), .val (.int db0), .val (.int db1), .val (.int db2), .val (.int db3), .val (.int dt), .val (.int dc), .val (.int ppp), .val (.int frm), .val (.int len), .val (.int too), .val (.ref b30), .val (.long act), .second, .unset, .unset, .val (.long vv2), .second, .unset, .unset, .unset, .unset, .unset, .unset, .unset, .unset, .unset] [])) _
            refine XS.iconst X152.here hx rfl (hb hby at_309) ?_
            show Steps p.tables e below (T152.setTop (mkF m 310 #[.val (.int p1), .val (.int p2), .val (.int p3), .val (.int p4), .val (.int db0), .val (.int db1), .val (.int db2), .val (.int db3), .val (.int dt), .val (.int dc), .val (.int ppp), .val (.int frm), .val (.int len), .val (.int too), .val (.ref b30), .val (.long act), .second, .unset, .unset, .val (.long vv2), .second, .unset, .unset, .unset, .unset, .unset, .unset, .unset, .unset, .unset] [(.int (2 : Int32))])) _
            refine XS.iload X152.here hx rfl (hb hby at_310) rfl ?_
            show Steps p.tables e below (T152.setTop (mkF m 312 #[.val (.int p1), .val (.int p2), .val (.int p3), .val (.int p4), .val (.int db0), .val (.int db1), .val (.int db2), .val (.int db3), .val (.int dt), .val (.int dc), .val (.int ppp), .val (.int frm), .val (.int len), .val (.int too), .val (.ref b30), .val (.long act), .second, .unset, .unset, .val (.long vv2), .second, .unset, .unset, .unset, .unset, .unset, .unset, .unset, .unset, .unset] [(.int too), (.int (2 : Int32))])) _
            refine XS.icmpYes X152.here hx rfl (pc0 := 312) (pc' := 324) rfl (hb hby at_312) rfl (flt hc312).2.1 (by decide) (by decide) ?_
            show Steps p.tables e below (T152.setTop (mkF m 324 #[.val (.int p1), .val (.int p2), .val (.int p3), .val (.int p4), .val (.int db0), .val (.int db1), .val (.int db2), .val (.int db3), .val (.int dt), .val (.int dc), .val (.int ppp), .val (.int frm), .val (.int len), .val (.int too), .val (.ref b30), .val (.long act), .second, .unset, .unset, .val (.long vv2), .second, .unset, .unset, .unset, .unset, .unset, .unset, .unset, .unset, .unset] [])) _
            exact kt
          exact ⟨T152, _, vv2, X152, e152, N152, by first | rfl | (simp only [if_neg hc306, if_neg hc312]), pre166⟩
    have pre167 : ∀ t, Steps p.tables e below (T160.setTop (mkF m 327 #[.val (.int p1), .val (.int p2), .val (.int p3), .val (.int p4), .val (.int db0), .val (.int db1), .val (.int db2), .val (.int db3), .val (.int dt), .val (.int dc), .val (.int ppp), .val (.int frm), .val (.int len), .val (.int too), .val (.ref b30), .val (.long act), .second, .unset, .unset, .val (.long vv3), .second, .unset, .unset, .unset, .unset, .unset, .unset, .unset, .unset, .unset] [(.int (3 : Int32)), (.int frm)])) t → Steps p.tables e below (s₁.setTop (entryFrame m #[(.int p1), (.int p2), (.int p3), (.int p4)] maxLocals)) t := fun t kt => by
      refine pre160 t ?_
      refine XS.iload X160.here hx rfl (hb hby at_324) rfl ?_
      show Steps p.tables e below (T160.setTop (mkF m 326 #[.val (.int p1), .val (.int p2), .val (.int p3), .val (.int p4), .val (.int db0), .val (.int db1), .val (.int db2), .val (.int db3), .val (.int dt), .val (.int dc), .val (.int ppp), .val (.int frm), .val (.int len), .val (.int too), .val (.ref b30), .val (.long act), .second, .unset, .unset, .val (.long vv3), .second, .unset, .unset, .unset, .unset, .unset, .unset, .unset, .unset, .unset] [(.int frm)])) _
      refine XS.iconst X160.here hx rfl (hb hby at_326) ?_
      show Steps p.tables e below (T160.setTop (mkF m 327 #[.val (.int p1), .val (.int p2), .val (.int p3), .val (.int p4), .val (.int db0), .val (.int db1), .val (.int db2), .val (.int db3), .val (.int dt), .val (.int dc), .val (.int ppp), .val (.int frm), .val (.int len), .val (.int too), .val (.ref b30), .val (.long act), .second, .unset, .unset, .val (.long vv3), .second, .unset, .unset, .unset, .unset, .unset, .unset, .unset, .unset, .unset] [(.int (3 : Int32)), (.int frm)])) _
      exact kt
    obtain ⟨T168, L168, vv4, X168, e168, N168, h_vv4, pre168⟩ : ∃ (T168 : State) (L168 : List Loc) (vv4 : Int64), Stand p l e room_1 s m #[(.int p1), (.int p2), (.int p3), (.int p4)] below meth c T168 L168 1 20 ∧ T168.heap = h134 ∧ Fr n0 L168 ∧ vv4 = (if (3 : Int32) < frm then vv3 else (if (3 : Int32) < too then (r5 vv3 db3) else vv3)) ∧ (∀ t, Steps p.tables e below (T168.setTop (mkF m 345 #[.val (.int p1), .val (.int p2), .val (.int p3), .val (.int p4), .val (.int db0), .val (.int db1), .val (.int db2), .val (.int db3), .val (.int dt), .val (.int dc), .val (.int ppp), .val (.int frm), .val (.int len), .val (.int too), .val (.ref b30), .val (.long act), .second, .unset, .unset, .val (.long vv4), .second, .unset, .unset, .unset, .unset, .unset, .unset, .unset, .unset, .unset] [])) t → Steps p.tables e below (s₁.setTop (entryFrame m #[(.int p1), (.int p2), (.int p3), (.int p4)] maxLocals)) t) := by
      by_cases hc327 : (3 : Int32) < frm
      · skip
        have pre169 : ∀ t, Steps p.tables e below (T160.setTop (mkF m 345 #[.val (.int p1), .val (.int p2), .val (.int p3), .val (.int p4), .val (.int db0), .val (.int db1), .val (.int db2), .val (.int db3), .val (.int dt), .val (.int dc), .val (.int ppp), .val (.int frm), .val (.int len), .val (.int too), .val (.ref b30), .val (.long act), .second, .unset, .unset, .val (.long vv3), .second, .unset, .unset, .unset, .unset, .unset, .unset, .unset, .unset, .unset] [])) t → Steps p.tables e below (s₁.setTop (entryFrame m #[(.int p1), (.int p2), (.int p3), (.int p4)] maxLocals)) t := fun t kt => by
          refine pre167 t ?_
          refine XS.icmpYes X160.here hx rfl (pc0 := 327) (pc' := 345) rfl (hb hby at_327) rfl (tlt hc327).2.2.1 (by decide) (by decide) ?_
          show Steps p.tables e below (T160.setTop (mkF m 345 #[.val (.int p1), .val (.int p2), .val (.int p3), .val (.int p4), .val (.int db0), .val (.int db1), .val (.int db2), .val (.int db3), .val (.int dt), .val (.int dc), .val (.int ppp), .val (.int frm), .val (.int len), .val (.int too), .val (.ref b30), .val (.long act), .second, .unset, .unset, .val (.long vv3), .second, .unset, .unset, .unset, .unset, .unset, .unset, .unset, .unset, .unset] [])) _
          exact kt
        exact ⟨T160, _, vv3, X160, e160, N160, by first | rfl | (simp only [if_pos hc327]), pre169⟩
      · skip
        by_cases hc333 : (3 : Int32) < too
        · skip
          have pre170 : ∀ t, Steps p.tables e below (T160.setTop (mkF m 340 #[.val (.int p1), .val (.int p2), .val (.int p3), .val (.int p4), .val (.int db0), .val (.int db1), .val (.int db2), .val (.int db3), .val (.int dt), .val (.int dc), .val (.int ppp), .val (.int frm), .val (.int len), .val (.int too), .val (.ref b30), .val (.long act), .second, .unset, .unset, .val (.long vv3), .second, .unset, .unset, .unset, .unset, .unset, .unset, .unset, .unset, .unset] [(.int db3), (.long vv3)])) t → Steps p.tables e below (s₁.setTop (entryFrame m #[(.int p1), (.int p2), (.int p3), (.int p4)] maxLocals)) t := fun t kt => by
            refine pre167 t ?_
            refine XS.icmpNo X160.here hx rfl (hb hby at_327) rfl (flt hc327).2.2.1 ?_
            show Steps p.tables e below (T160.setTop (mkF m 330 #[.val (.int p1), .val (.int p2), .val (.int p3), .val (.int p4), .val (.int db0), .val (.int db1), .val (.int db2), .val (.int db3), .val (.int dt), .val (.int dc), .val (.int ppp), .val (.int frm), .val (.int len), .val (.int too), .val (.ref b30), .val (.long act), .second, .unset, .unset, .val (.long vv3), .second, .unset, .unset, .unset, .unset, .unset, .unset, .unset, .unset, .unset] [])) _
            refine XS.iconst X160.here hx rfl (hb hby at_330) ?_
            show Steps p.tables e below (T160.setTop (mkF m 331 #[.val (.int p1), .val (.int p2), .val (.int p3), .val (.int p4), .val (.int db0), .val (.int db1), .val (.int db2), .val (.int db3), .val (.int dt), .val (.int dc), .val (.int ppp), .val (.int frm), .val (.int len), .val (.int too), .val (.ref b30), .val (.long act), .second, .unset, .unset, .val (.long vv3), .second, .unset, .unset, .unset, .unset, .unset, .unset, .unset, .unset, .unset] [(.int (3 : Int32))])) _
            refine XS.iload X160.here hx rfl (hb hby at_331) rfl ?_
            show Steps p.tables e below (T160.setTop (mkF m 333 #[.val (.int p1), .val (.int p2), .val (.int p3), .val (.int p4), .val (.int db0), .val (.int db1), .val (.int db2), .val (.int db3), .val (.int dt), .val (.int dc), .val (.int ppp), .val (.int frm), .val (.int len), .val (.int too), .val (.ref b30), .val (.long act), .second, .unset, .unset, .val (.long vv3), .second, .unset, .unset, .unset, .unset, .unset, .unset, .unset, .unset, .unset] [(.int too), (.int (3 : Int32))])) _
            refine XS.icmpNo X160.here hx rfl (hb hby at_333) rfl (tlt hc333).2.1 ?_
            show Steps p.tables e below (T160.setTop (mkF m 336 #[.val (.int p1), .val (.int p2), .val (.int p3), .val (.int p4), .val (.int db0), .val (.int db1), .val (.int db2), .val (.int db3), .val (.int dt), .val (.int dc), .val (.int ppp), .val (.int frm), .val (.int len), .val (.int too), .val (.ref b30), .val (.long act), .second, .unset, .unset, .val (.long vv3), .second, .unset, .unset, .unset, .unset, .unset, .unset, .unset, .unset, .unset] [])) _
            refine XS.lload X160.here hx rfl (hb hby at_336) rfl ?_
            show Steps p.tables e below (T160.setTop (mkF m 338 #[.val (.int p1), .val (.int p2), .val (.int p3), .val (.int p4), .val (.int db0), .val (.int db1), .val (.int db2), .val (.int db3), .val (.int dt), .val (.int dc), .val (.int ppp), .val (.int frm), .val (.int len), .val (.int too), .val (.ref b30), .val (.long act), .second, .unset, .unset, .val (.long vv3), .second, .unset, .unset, .unset, .unset, .unset, .unset, .unset, .unset, .unset] [(.long vv3)])) _
            refine XS.iload X160.here hx rfl (hb hby at_338) rfl ?_
            show Steps p.tables e below (T160.setTop (mkF m 340 #[.val (.int p1), .val (.int p2), .val (.int p3), .val (.int p4), .val (.int db0), .val (.int db1), .val (.int db2), .val (.int db3), .val (.int dt), .val (.int dc), .val (.int ppp), .val (.int frm), .val (.int len), .val (.int too), .val (.ref b30), .val (.long act), .second, .unset, .unset, .val (.long vv3), .second, .unset, .unset, .unset, .unset, .unset, .unset, .unset, .unset, .unset] [(.int db3), (.long vv3)])) _
            exact kt
          obtain ⟨_, _, ⟨T171, L171, k171, n171⟩, -, X171, ⟨Lc171, hQ171, l171, y171, z171⟩, st171⟩ := Jvm.LawKit.callS X160 hx (y := (⟨"com/example/entgelt/entgelt/io/FieldFormsDigitsPinLaw", "step", "(JB)J"⟩ : MethodName)) hown (mvT hZ (hw _ (mgE 41 rfl))) (mvT hZ (hw _ (mgE 42 rfl))) (mvT hZ (hw _ (mgE 2 rfl))) (mvT hZ (hw _ (mgE 43 rfl))) (by decide) (backOf (W := 0) (rm5 l Z a0 hw [] vv3 db3 h134 n0 Z134 ) hZ (hw _ (mgE 43 rfl)) (hw _ (mgE 2 rfl)) (by decide) (by decide)) (g := (mkF m 340 #[.val (.int p1), .val (.int p2), .val (.int p3), .val (.int p4), .val (.int db0), .val (.int db1), .val (.int db2), .val (.int db3), .val (.int dt), .val (.int dc), .val (.int ppp), .val (.int frm), .val (.int len), .val (.int too), .val (.ref b30), .val (.long act), .second, .unset, .unset, .val (.long vv3), .second, .unset, .unset, .unset, .unset, .unset, .unset, .unset, .unset, .unset] [(.int db3), (.long vv3)])) rfl (by rw [hml]; rfl) (argsL := [(.long vv3), (.int db3)]) (rest := []) (lenOf pd__JB_J rfl) rfl (by show 2 * 0 + _ ≤ _; exact Nat.le_of_eq rfl) (hb hby at_340) (fun _ _ => ⟨rfl, e160, (by decide : 1 + 0 ≤ _), (by decide : 20 + 0 ≤ _)⟩)
          dsimp only [Pt.U, Pt.locs, Pt.cells, Pt.slots] at X171 l171 y171 z171 st171 hQ171
          have ly171 := l171.symm; subst ly171 y171 z171
          obtain ⟨rfl, N171q, e171⟩ := hQ171
          have pre172 : ∀ t, Steps p.tables e below (T171.setTop (mkF m 343 #[.val (.int p1), .val (.int p2), .val (.int p3), .val (.int p4), .val (.int db0), .val (.int db1), .val (.int db2), .val (.int db3), .val (.int dt), .val (.int dc), .val (.int ppp), .val (.int frm), .val (.int len), .val (.int too), .val (.ref b30), .val (.long act), .second, .unset, .unset, .val (.long vv3), .second, .unset, .unset, .unset, .unset, .unset, .unset, .unset, .unset, .unset] [(.long (r5 vv3 db3))])) t → Steps p.tables e below (s₁.setTop (entryFrame m #[(.int p1), (.int p2), (.int p3), (.int p4)] maxLocals)) t := fun t kt => pre170 t (st171 t kt)
          have N171 := Fr.app N160 N171q
          have pre173 : ∀ t, Steps p.tables e below (T171.setTop (mkF m 345 #[.val (.int p1), .val (.int p2), .val (.int p3), .val (.int p4), .val (.int db0), .val (.int db1), .val (.int db2), .val (.int db3), .val (.int dt), .val (.int dc), .val (.int ppp), .val (.int frm), .val (.int len), .val (.int too), .val (.ref b30), .val (.long act), .second, .unset, .unset, .val (.long (r5 vv3 db3)), .second, .unset, .unset, .unset, .unset, .unset, .unset, .unset, .unset, .unset] [])) t → Steps p.tables e below (s₁.setTop (entryFrame m #[(.int p1), (.int p2), (.int p3), (.int p4)] maxLocals)) t := fun t kt => by
            refine pre172 t ?_
            refine XS.lstore X171.here hx rfl (hb hby at_343) rfl (l' := #[.val (.int p1), .val (.int p2), .val (.int p3), .val (.int p4), .val (.int db0), .val (.int db1), .val (.int db2), .val (.int db3), .val (.int dt), .val (.int dc), .val (.int ppp), .val (.int frm), .val (.int len), .val (.int too), .val (.ref b30), .val (.long act), .second, .unset, .unset, .val (.long (r5 vv3 db3)), .second, .unset, .unset, .unset, .unset, .unset, .unset, .unset, .unset, .unset]) rfl ?_
            show Steps p.tables e below (T171.setTop (mkF m 345 #[.val (.int p1), .val (.int p2), .val (.int p3), .val (.int p4), .val (.int db0), .val (.int db1), .val (.int db2), .val (.int db3), .val (.int dt), .val (.int dc), .val (.int ppp), .val (.int frm), .val (.int len), .val (.int too), .val (.ref b30), .val (.long act), .second, .unset, .unset, .val (.long (r5 vv3 db3)), .second, .unset, .unset, .unset, .unset, .unset, .unset, .unset, .unset, .unset] [])) _
            exact kt
          exact ⟨T171, _, (r5 vv3 db3), X171, e171, N171, by first | rfl | (simp only [if_neg hc327, if_pos hc333]), pre173⟩
        · skip
          have pre174 : ∀ t, Steps p.tables e below (T160.setTop (mkF m 345 #[.val (.int p1), .val (.int p2), .val (.int p3), .val (.int p4), .val (.int db0), .val (.int db1), .val (.int db2), .val (.int db3), .val (.int dt), .val (.int dc), .val (.int ppp), .val (.int frm), .val (.int len), .val (.int too), .val (.ref b30), .val (.long act), .second, .unset, .unset, .val (.long vv3), .second, .unset, .unset, .unset, .unset, .unset, .unset, .unset, .unset, .unset] [])) t → Steps p.tables e below (s₁.setTop (entryFrame m #[(.int p1), (.int p2), (.int p3), (.int p4)] maxLocals)) t := fun t kt => by
            refine pre167 t ?_
            refine XS.icmpNo X160.here hx rfl (hb hby at_327) rfl (flt hc327).2.2.1 ?_
            show Steps p.tables e below (T160.setTop (mkF m 330 #[.val (.int p1), .val (.int p2), .val (.int p3), .val (.int p4), .val (.int db0), .val (.int db1), .val (.int db2), .val (.int db3), .val (.int dt), .val (.int dc), .val (.int ppp), .val (.int frm), .val (.int len), .val (.int too), .val (.ref b30), .val (.long act), .second, .unset, .unset, .val (.long vv3), .second, .unset, .unset, .unset, .unset, .unset, .unset, .unset, .unset, .unset] [])) _
            refine XS.iconst X160.here hx rfl (hb hby at_330) ?_
            show Steps p.tables e below (T160.setTop (mkF m 331 #[.val (.int p1), .val (.int p2), .val (.int p3), .val (.int p4), .val (.int db0), .val (.int db1), .val (.int db2), .val (.int db3), .val (.int dt), .val (.int dc), .val (.int ppp), .val (.int frm), .val (.int len), .val (.int too), .val (.ref b30), .val (.long act), .second, .unset, .unset, .val (.long vv3), .second, .unset, .unset, .unset, .unset, .unset, .unset, .unset, .unset, .unset] [(.int (3 : Int32))])) _
            refine XS.iload X160.here hx rfl (hb hby at_331) rfl ?_
            show Steps p.tables e below (T160.setTop (mkF m 333 #[.val (.int p1), .val (.int p2), .val (.int p3), .val (.int p4), .val (.int db0), .val (.int db1), .val (.int db2), .val (.int db3), .val (.int dt), .val (.int dc), .val (.int ppp), .val (.int frm), .val (.int len), .val (.int too), .val (.ref b30), .val (.long act), .second, .unset, .unset, .val (.long vv3), .second, .unset, .unset, .unset, .unset, .unset, .unset, .unset, .unset, .unset] [(.int too), (.int (3 : Int32))])) _
            refine XS.icmpYes X160.here hx rfl (pc0 := 333) (pc' := 345) rfl (hb hby at_333) rfl (flt hc333).2.1 (by decide) (by decide) ?_
            show Steps p.tables e below (T160.setTop (mkF m 345 #[.val (.int p1), .val (.int p2), .val (.int p3), .val (.int p4), .val (.int db0), .val (.int db1), .val (.int db2), .val (.int db3), .val (.int dt), .val (.int dc), .val (.int ppp), .val (.int frm), .val (.int len), .val (.int too), .val (.ref b30), .val (.long act), .second, .unset, .unset, .val (.long vv3), .second, .unset, .unset, .unset, .unset, .unset, .unset, .unset, .unset, .unset] [])) _
            exact kt
          exact ⟨T160, _, vv3, X160, e160, N160, by first | rfl | (simp only [if_neg hc327, if_neg hc333]), pre174⟩
    have pre175 : ∀ t, Steps p.tables e below (T168.setTop (mkF m 350 #[.val (.int p1), .val (.int p2), .val (.int p3), .val (.int p4), .val (.int db0), .val (.int db1), .val (.int db2), .val (.int db3), .val (.int dt), .val (.int dc), .val (.int ppp), .val (.int frm), .val (.int len), .val (.int too), .val (.ref b30), .val (.long act), .second, .unset, .unset, .val (.long vv4), .second, .unset, .unset, .unset, .unset, .unset, .unset, .unset, .unset, .unset] [(.int (too - (4 : Int32))), (.int (0 : Int32))])) t → Steps p.tables e below (s₁.setTop (entryFrame m #[(.int p1), (.int p2), (.int p3), (.int p4)] maxLocals)) t := fun t kt => by
      refine pre168 t ?_
      refine XS.iconst X168.here hx rfl (hb hby at_345) ?_
      show Steps p.tables e below (T168.setTop (mkF m 346 #[.val (.int p1), .val (.int p2), .val (.int p3), .val (.int p4), .val (.int db0), .val (.int db1), .val (.int db2), .val (.int db3), .val (.int dt), .val (.int dc), .val (.int ppp), .val (.int frm), .val (.int len), .val (.int too), .val (.ref b30), .val (.long act), .second, .unset, .unset, .val (.long vv4), .second, .unset, .unset, .unset, .unset, .unset, .unset, .unset, .unset, .unset] [(.int (0 : Int32))])) _
      refine XS.iload X168.here hx rfl (hb hby at_346) rfl ?_
      show Steps p.tables e below (T168.setTop (mkF m 348 #[.val (.int p1), .val (.int p2), .val (.int p3), .val (.int p4), .val (.int db0), .val (.int db1), .val (.int db2), .val (.int db3), .val (.int dt), .val (.int dc), .val (.int ppp), .val (.int frm), .val (.int len), .val (.int too), .val (.ref b30), .val (.long act), .second, .unset, .unset, .val (.long vv4), .second, .unset, .unset, .unset, .unset, .unset, .unset, .unset, .unset, .unset] [(.int too), (.int (0 : Int32))])) _
      refine XS.iconst X168.here hx rfl (hb hby at_348) ?_
      show Steps p.tables e below (T168.setTop (mkF m 349 #[.val (.int p1), .val (.int p2), .val (.int p3), .val (.int p4), .val (.int db0), .val (.int db1), .val (.int db2), .val (.int db3), .val (.int dt), .val (.int dc), .val (.int ppp), .val (.int frm), .val (.int len), .val (.int too), .val (.ref b30), .val (.long act), .second, .unset, .unset, .val (.long vv4), .second, .unset, .unset, .unset, .unset, .unset, .unset, .unset, .unset, .unset] [(.int (4 : Int32)), (.int too), (.int (0 : Int32))])) _
      refine XS.isub X168.here hx rfl (hb hby at_349) rfl ?_
      show Steps p.tables e below (T168.setTop (mkF m 350 #[.val (.int p1), .val (.int p2), .val (.int p3), .val (.int p4), .val (.int db0), .val (.int db1), .val (.int db2), .val (.int db3), .val (.int dt), .val (.int dc), .val (.int ppp), .val (.int frm), .val (.int len), .val (.int too), .val (.ref b30), .val (.long act), .second, .unset, .unset, .val (.long vv4), .second, .unset, .unset, .unset, .unset, .unset, .unset, .unset, .unset, .unset] [(.int (too - (4 : Int32))), (.int (0 : Int32))])) _
      exact kt
    obtain ⟨_, _, ⟨T176, L176, k176, n176⟩, -, X176, ⟨Lc176, hQ176, l176, y176, z176⟩, st176⟩ := Jvm.LawKit.callS X168 hx (y := (⟨"java/lang/Math", "max", "(II)I"⟩ : MethodName)) hown (mvT hZ (hw _ (mgE 11 rfl))) (mvT hZ (hw _ (mgE 12 rfl))) (mvT hZ (hw _ (mgE 13 rfl))) (mvT hZ (hw _ (mgE 14 rfl))) (by decide) (backOf (W := 0) (rm3 l Z a0 hw [] (0 : Int32) (too - (4 : Int32)) h134 n0 Z134 ) hZ (hw _ (mgE 14 rfl)) (hw _ (mgE 13 rfl)) (by decide) (by decide)) (g := (mkF m 350 #[.val (.int p1), .val (.int p2), .val (.int p3), .val (.int p4), .val (.int db0), .val (.int db1), .val (.int db2), .val (.int db3), .val (.int dt), .val (.int dc), .val (.int ppp), .val (.int frm), .val (.int len), .val (.int too), .val (.ref b30), .val (.long act), .second, .unset, .unset, .val (.long vv4), .second, .unset, .unset, .unset, .unset, .unset, .unset, .unset, .unset, .unset] [(.int (too - (4 : Int32))), (.int (0 : Int32))])) rfl (by rw [hml]; rfl) (argsL := [(.int (0 : Int32)), (.int (too - (4 : Int32)))]) (rest := []) (lenOf pd__II_I rfl) rfl (by show 2 * 0 + _ ≤ _; exact Nat.le_of_eq rfl) (hb hby at_350) (fun _ _ => ⟨rfl, e168, (by decide : 1 + 0 ≤ _), (by decide : 20 + 0 ≤ _)⟩)
    dsimp only [Pt.U, Pt.locs, Pt.cells, Pt.slots] at X176 l176 y176 z176 st176 hQ176
    have ly176 := l176.symm; subst ly176 y176 z176
    obtain ⟨rfl, N176q, e176⟩ := hQ176
    have pre177 : ∀ t, Steps p.tables e below (T176.setTop (mkF m 353 #[.val (.int p1), .val (.int p2), .val (.int p3), .val (.int p4), .val (.int db0), .val (.int db1), .val (.int db2), .val (.int db3), .val (.int dt), .val (.int dc), .val (.int ppp), .val (.int frm), .val (.int len), .val (.int too), .val (.ref b30), .val (.long act), .second, .unset, .unset, .val (.long vv4), .second, .unset, .unset, .unset, .unset, .unset, .unset, .unset, .unset, .unset] [(.int (r3 (0 : Int32) (too - (4 : Int32))))])) t → Steps p.tables e below (s₁.setTop (entryFrame m #[(.int p1), (.int p2), (.int p3), (.int p4)] maxLocals)) t := fun t kt => pre175 t (st176 t kt)
    have N176 := Fr.app N168 N176q
    have pre178 : ∀ t, Steps p.tables e below (T176.setTop (mkF m 355 #[.val (.int p1), .val (.int p2), .val (.int p3), .val (.int p4), .val (.int db0), .val (.int db1), .val (.int db2), .val (.int db3), .val (.int dt), .val (.int dc), .val (.int ppp), .val (.int frm), .val (.int len), .val (.int too), .val (.ref b30), .val (.long act), .second, .unset, .unset, .val (.long vv4), .second, .val (.int (r3 (0 : Int32) (too - (4 : Int32)))), .unset, .unset, .unset, .unset, .unset, .unset, .unset, .unset] [])) t → Steps p.tables e below (s₁.setTop (entryFrame m #[(.int p1), (.int p2), (.int p3), (.int p4)] maxLocals)) t := fun t kt => by
      refine pre177 t ?_
      refine XS.istore X176.here hx rfl (hb hby at_353) rfl (l' := #[.val (.int p1), .val (.int p2), .val (.int p3), .val (.int p4), .val (.int db0), .val (.int db1), .val (.int db2), .val (.int db3), .val (.int dt), .val (.int dc), .val (.int ppp), .val (.int frm), .val (.int len), .val (.int too), .val (.ref b30), .val (.long act), .second, .unset, .unset, .val (.long vv4), .second, .val (.int (r3 (0 : Int32) (too - (4 : Int32)))), .unset, .unset, .unset, .unset, .unset, .unset, .unset, .unset]) rfl ?_
      show Steps p.tables e below (T176.setTop (mkF m 355 #[.val (.int p1), .val (.int p2), .val (.int p3), .val (.int p4), .val (.int db0), .val (.int db1), .val (.int db2), .val (.int db3), .val (.int dt), .val (.int dc), .val (.int ppp), .val (.int frm), .val (.int len), .val (.int too), .val (.ref b30), .val (.long act), .second, .unset, .unset, .val (.long vv4), .second, .val (.int (r3 (0 : Int32) (too - (4 : Int32)))), .unset, .unset, .unset, .unset, .unset, .unset, .unset, .unset] [])) _
      exact kt
    obtain ⟨kk, h_kk⟩ : ∃ z, z = (r3 (0 : Int32) (too - (4 : Int32))) := ⟨_, rfl⟩
    rw [← h_kk] at pre178
    by_cases hc359 : ppp < too
    · skip
      by_cases hc389 : (lcmpW vv4 (0 : Int64)) < (0 : Int32)
      · skip
        have hc499 : (lcmpW act (-1 : Int64)) = (0 : Int32) := own_neg txt frm len too ppp db0 db1 db2 db3 dt dc act vv1 vv2 vv3 vv4 hIn ⟨h_vv1, h_vv2, h_vv3, h_vv4⟩ hc248 hc389
        have pre179 : ∀ t, Steps p.tables e below (T176.setTop (mkF m 507 #[.val (.int p1), .val (.int p2), .val (.int p3), .val (.int p4), .val (.int db0), .val (.int db1), .val (.int db2), .val (.int db3), .val (.int dt), .val (.int dc), .val (.int ppp), .val (.int frm), .val (.int len), .val (.int too), .val (.ref b30), .val (.long act), .second, .val (.long (-1 : Int64)), .second, .val (.long vv4), .second, .val (.int kk), .val (.int (1 : Int32)), .val (.int (kk - (1 : Int32))), .unset, .unset, .unset, .unset, .unset, .unset] [(.int (1 : Int32))])) t → Steps p.tables e below (s₁.setTop (entryFrame m #[(.int p1), (.int p2), (.int p3), (.int p4)] maxLocals)) t := fun t kt => by
          refine pre178 t ?_
          refine XS.iload X176.here hx rfl (hb hby at_355) rfl ?_
          show Steps p.tables e below (T176.setTop (mkF m 357 #[.val (.int p1), .val (.int p2), .val (.int p3), .val (.int p4), .val (.int db0), .val (.int db1), .val (.int db2), .val (.int db3), .val (.int dt), .val (.int dc), .val (.int ppp), .val (.int frm), .val (.int len), .val (.int too), .val (.ref b30), .val (.long act), .second, .unset, .unset, .val (.long vv4), .second, .val (.int kk), .unset, .unset, .unset, .unset, .unset, .unset, .unset, .unset] [(.int ppp)])) _
          refine XS.iload X176.here hx rfl (hb hby at_357) rfl ?_
          show Steps p.tables e below (T176.setTop (mkF m 359 #[.val (.int p1), .val (.int p2), .val (.int p3), .val (.int p4), .val (.int db0), .val (.int db1), .val (.int db2), .val (.int db3), .val (.int dt), .val (.int dc), .val (.int ppp), .val (.int frm), .val (.int len), .val (.int too), .val (.ref b30), .val (.long act), .second, .unset, .unset, .val (.long vv4), .second, .val (.int kk), .unset, .unset, .unset, .unset, .unset, .unset, .unset, .unset] [(.int too), (.int ppp)])) _
          refine XS.icmpNo X176.here hx rfl (hb hby at_359) rfl (tlt hc359).2.1 ?_
          show Steps p.tables e below (T176.setTop (mkF m 362 #[.val (.int p1), .val (.int p2), .val (.int p3), .val (.int p4), .val (.int db0), .val (.int db1), .val (.int db2), .val (.int db3), .val (.int dt), .val (.int dc), .val (.int ppp), .val (.int frm), .val (.int len), .val (.int too), .val (.ref b30), .val (.long act), .second, .unset, .unset, .val (.long vv4), .second, .val (.int kk), .unset, .unset, .unset, .unset, .unset, .unset, .unset, .unset] [])) _
          refine XS.iconst X176.here hx rfl (hb hby at_362) ?_
          show Steps p.tables e below (T176.setTop (mkF m 363 #[.val (.int p1), .val (.int p2), .val (.int p3), .val (.int p4), .val (.int db0), .val (.int db1), .val (.int db2), .val (.int db3), .val (.int dt), .val (.int dc), .val (.int ppp), .val (.int frm), .val (.int len), .val (.int too), .val (.ref b30), .val (.long act), .second, .unset, .unset, .val (.long vv4), .second, .val (.int kk), .unset, .unset, .unset, .unset, .unset, .unset, .unset, .unset] [(.int (1 : Int32))])) _
          refine XS.goto X176.here hx rfl (pc0 := 363) (pc' := 367) rfl (hb hby at_363) (by decide) (by decide) ?_
          show Steps p.tables e below (T176.setTop (mkF m 367 #[.val (.int p1), .val (.int p2), .val (.int p3), .val (.int p4), .val (.int db0), .val (.int db1), .val (.int db2), .val (.int db3), .val (.int dt), .val (.int dc), .val (.int ppp), .val (.int frm), .val (.int len), .val (.int too), .val (.ref b30), .val (.long act), .second, .unset, .unset, .val (.long vv4), .second, .val (.int kk), .unset, .unset, .unset, .unset, .unset, .unset, .unset, .unset] [(.int (1 : Int32))])) _
          refine XS.istore X176.here hx rfl (hb hby at_367) rfl (l' := #[.val (.int p1), .val (.int p2), .val (.int p3), .val (.int p4), .val (.int db0), .val (.int db1), .val (.int db2), .val (.int db3), .val (.int dt), .val (.int dc), .val (.int ppp), .val (.int frm), .val (.int len), .val (.int too), .val (.ref b30), .val (.long act), .second, .unset, .unset, .val (.long vv4), .second, .val (.int kk), .val (.int (1 : Int32)), .unset, .unset, .unset, .unset, .unset, .unset, .unset]) rfl ?_
          show Steps p.tables e below (T176.setTop (mkF m 369 #[.val (.int p1), .val (.int p2), .val (.int p3), .val (.int p4), .val (.int db0), .val (.int db1), .val (.int db2), .val (.int db3), .val (.int dt), .val (.int dc), .val (.int ppp), .val (.int frm), .val (.int len), .val (.int too), .val (.ref b30), .val (.long act), .second, .unset, .unset, .val (.long vv4), .second, .val (.int kk), .val (.int (1 : Int32)), .unset, .unset, .unset, .unset, .unset, .unset, .unset] [])) _
          refine XS.iload X176.here hx rfl (hb hby at_369) rfl ?_
          show Steps p.tables e below (T176.setTop (mkF m 371 #[.val (.int p1), .val (.int p2), .val (.int p3), .val (.int p4), .val (.int db0), .val (.int db1), .val (.int db2), .val (.int db3), .val (.int dt), .val (.int dc), .val (.int ppp), .val (.int frm), .val (.int len), .val (.int too), .val (.ref b30), .val (.long act), .second, .unset, .unset, .val (.long vv4), .second, .val (.int kk), .val (.int (1 : Int32)), .unset, .unset, .unset, .unset, .unset, .unset, .unset] [(.int (1 : Int32))])) _
          refine XS.ifNo X176.here hx rfl (hb hby at_371) rfl ((if0 _ _).trans (feq (by decide : ¬ ((1 : Int32) = (0 : Int32)))).1) ?_
          show Steps p.tables e below (T176.setTop (mkF m 374 #[.val (.int p1), .val (.int p2), .val (.int p3), .val (.int p4), .val (.int db0), .val (.int db1), .val (.int db2), .val (.int db3), .val (.int dt), .val (.int dc), .val (.int ppp), .val (.int frm), .val (.int len), .val (.int too), .val (.ref b30), .val (.long act), .second, .unset, .unset, .val (.long vv4), .second, .val (.int kk), .val (.int (1 : Int32)), .unset, .unset, .unset, .unset, .unset, .unset, .unset] [])) _
          refine XS.iload X176.here hx rfl (hb hby at_374) rfl ?_
          show Steps p.tables e below (T176.setTop (mkF m 376 #[.val (.int p1), .val (.int p2), .val (.int p3), .val (.int p4), .val (.int db0), .val (.int db1), .val (.int db2), .val (.int db3), .val (.int dt), .val (.int dc), .val (.int ppp), .val (.int frm), .val (.int len), .val (.int too), .val (.ref b30), .val (.long act), .second, .unset, .unset, .val (.long vv4), .second, .val (.int kk), .val (.int (1 : Int32)), .unset, .unset, .unset, .unset, .unset, .unset, .unset] [(.int kk)])) _
          refine XS.iconst X176.here hx rfl (hb hby at_376) ?_
          show Steps p.tables e below (T176.setTop (mkF m 377 #[.val (.int p1), .val (.int p2), .val (.int p3), .val (.int p4), .val (.int db0), .val (.int db1), .val (.int db2), .val (.int db3), .val (.int dt), .val (.int dc), .val (.int ppp), .val (.int frm), .val (.int len), .val (.int too), .val (.ref b30), .val (.long act), .second, .unset, .unset, .val (.long vv4), .second, .val (.int kk), .val (.int (1 : Int32)), .unset, .unset, .unset, .unset, .unset, .unset, .unset] [(.int (1 : Int32)), (.int kk)])) _
          refine XS.isub X176.here hx rfl (hb hby at_377) rfl ?_
          show Steps p.tables e below (T176.setTop (mkF m 378 #[.val (.int p1), .val (.int p2), .val (.int p3), .val (.int p4), .val (.int db0), .val (.int db1), .val (.int db2), .val (.int db3), .val (.int dt), .val (.int dc), .val (.int ppp), .val (.int frm), .val (.int len), .val (.int too), .val (.ref b30), .val (.long act), .second, .unset, .unset, .val (.long vv4), .second, .val (.int kk), .val (.int (1 : Int32)), .unset, .unset, .unset, .unset, .unset, .unset, .unset] [(.int (kk - (1 : Int32)))])) _
          refine XS.goto X176.here hx rfl (pc0 := 378) (pc' := 383) rfl (hb hby at_378) (by decide) (by decide) ?_
          show Steps p.tables e below (T176.setTop (mkF m 383 #[.val (.int p1), .val (.int p2), .val (.int p3), .val (.int p4), .val (.int db0), .val (.int db1), .val (.int db2), .val (.int db3), .val (.int dt), .val (.int dc), .val (.int ppp), .val (.int frm), .val (.int len), .val (.int too), .val (.ref b30), .val (.long act), .second, .unset, .unset, .val (.long vv4), .second, .val (.int kk), .val (.int (1 : Int32)), .unset, .unset, .unset, .unset, .unset, .unset, .unset] [(.int (kk - (1 : Int32)))])) _
          refine XS.istore X176.here hx rfl (hb hby at_383) rfl (l' := #[.val (.int p1), .val (.int p2), .val (.int p3), .val (.int p4), .val (.int db0), .val (.int db1), .val (.int db2), .val (.int db3), .val (.int dt), .val (.int dc), .val (.int ppp), .val (.int frm), .val (.int len), .val (.int too), .val (.ref b30), .val (.long act), .second, .unset, .unset, .val (.long vv4), .second, .val (.int kk), .val (.int (1 : Int32)), .val (.int (kk - (1 : Int32))), .unset, .unset, .unset, .unset, .unset, .unset]) rfl ?_
          show Steps p.tables e below (T176.setTop (mkF m 385 #[.val (.int p1), .val (.int p2), .val (.int p3), .val (.int p4), .val (.int db0), .val (.int db1), .val (.int db2), .val (.int db3), .val (.int dt), .val (.int dc), .val (.int ppp), .val (.int frm), .val (.int len), .val (.int too), .val (.ref b30), .val (.long act), .second, .unset, .unset, .val (.long vv4), .second, .val (.int kk), .val (.int (1 : Int32)), .val (.int (kk - (1 : Int32))), .unset, .unset, .unset, .unset, .unset, .unset] [])) _
          refine XS.lload X176.here hx rfl (hb hby at_385) rfl ?_
          show Steps p.tables e below (T176.setTop (mkF m 387 #[.val (.int p1), .val (.int p2), .val (.int p3), .val (.int p4), .val (.int db0), .val (.int db1), .val (.int db2), .val (.int db3), .val (.int dt), .val (.int dc), .val (.int ppp), .val (.int frm), .val (.int len), .val (.int too), .val (.ref b30), .val (.long act), .second, .unset, .unset, .val (.long vv4), .second, .val (.int kk), .val (.int (1 : Int32)), .val (.int (kk - (1 : Int32))), .unset, .unset, .unset, .unset, .unset, .unset] [(.long vv4)])) _
          refine XS.lconst X176.here hx rfl (hb hby at_387) ?_
          show Steps p.tables e below (T176.setTop (mkF m 388 #[.val (.int p1), .val (.int p2), .val (.int p3), .val (.int p4), .val (.int db0), .val (.int db1), .val (.int db2), .val (.int db3), .val (.int dt), .val (.int dc), .val (.int ppp), .val (.int frm), .val (.int len), .val (.int too), .val (.ref b30), .val (.long act), .second, .unset, .unset, .val (.long vv4), .second, .val (.int kk), .val (.int (1 : Int32)), .val (.int (kk - (1 : Int32))), .unset, .unset, .unset, .unset, .unset, .unset] [(.long (0 : Int64)), (.long vv4)])) _
          refine XS.lcmp X176.here hx rfl (hb hby at_388) rfl ?_
          show Steps p.tables e below (T176.setTop (mkF m 389 #[.val (.int p1), .val (.int p2), .val (.int p3), .val (.int p4), .val (.int db0), .val (.int db1), .val (.int db2), .val (.int db3), .val (.int dt), .val (.int dc), .val (.int ppp), .val (.int frm), .val (.int len), .val (.int too), .val (.ref b30), .val (.long act), .second, .unset, .unset, .val (.long vv4), .second, .val (.int kk), .val (.int (1 : Int32)), .val (.int (kk - (1 : Int32))), .unset, .unset, .unset, .unset, .unset, .unset] [(.int (lcmpW vv4 (0 : Int64)))])) _
          refine XS.ifYes X176.here hx rfl (pc0 := 389) (pc' := 418) rfl (hb hby at_389) rfl ((if0 _ _).trans (tlt hc389).1) (by decide) (by decide) ?_
          show Steps p.tables e below (T176.setTop (mkF m 418 #[.val (.int p1), .val (.int p2), .val (.int p3), .val (.int p4), .val (.int db0), .val (.int db1), .val (.int db2), .val (.int db3), .val (.int dt), .val (.int dc), .val (.int ppp), .val (.int frm), .val (.int len), .val (.int too), .val (.ref b30), .val (.long act), .second, .unset, .unset, .val (.long vv4), .second, .val (.int kk), .val (.int (1 : Int32)), .val (.int (kk - (1 : Int32))), .unset, .unset, .unset, .unset, .unset, .unset] [])) _
          refine X176.ldc2Long hx hown (mvT hZ (hw _ (mgE 47 rfl))) (g := (mkF m 418 #[.val (.int p1), .val (.int p2), .val (.int p3), .val (.int p4), .val (.int db0), .val (.int db1), .val (.int db2), .val (.int db3), .val (.int dt), .val (.int dc), .val (.int ppp), .val (.int frm), .val (.int len), .val (.int too), .val (.ref b30), .val (.long act), .second, .unset, .unset, .val (.long vv4), .second, .val (.int kk), .val (.int (1 : Int32)), .val (.int (kk - (1 : Int32))), .unset, .unset, .unset, .unset, .unset, .unset] [])) rfl (hb hby at_418) _ ?_
          show Steps p.tables e below (T176.setTop (mkF m 421 #[.val (.int p1), .val (.int p2), .val (.int p3), .val (.int p4), .val (.int db0), .val (.int db1), .val (.int db2), .val (.int db3), .val (.int dt), .val (.int dc), .val (.int ppp), .val (.int frm), .val (.int len), .val (.int too), .val (.ref b30), .val (.long act), .second, .unset, .unset, .val (.long vv4), .second, .val (.int kk), .val (.int (1 : Int32)), .val (.int (kk - (1 : Int32))), .unset, .unset, .unset, .unset, .unset, .unset] [(.long (-1 : Int64))])) _
          refine XS.lstore X176.here hx rfl (hb hby at_421) rfl (l' := #[.val (.int p1), .val (.int p2), .val (.int p3), .val (.int p4), .val (.int db0), .val (.int db1), .val (.int db2), .val (.int db3), .val (.int dt), .val (.int dc), .val (.int ppp), .val (.int frm), .val (.int len), .val (.int too), .val (.ref b30), .val (.long act), .second, .val (.long (-1 : Int64)), .second, .val (.long vv4), .second, .val (.int kk), .val (.int (1 : Int32)), .val (.int (kk - (1 : Int32))), .unset, .unset, .unset, .unset, .unset, .unset]) rfl ?_
          show Steps p.tables e below (T176.setTop (mkF m 423 #[.val (.int p1), .val (.int p2), .val (.int p3), .val (.int p4), .val (.int db0), .val (.int db1), .val (.int db2), .val (.int db3), .val (.int dt), .val (.int dc), .val (.int ppp), .val (.int frm), .val (.int len), .val (.int too), .val (.ref b30), .val (.long act), .second, .val (.long (-1 : Int64)), .second, .val (.long vv4), .second, .val (.int kk), .val (.int (1 : Int32)), .val (.int (kk - (1 : Int32))), .unset, .unset, .unset, .unset, .unset, .unset] [])) _
          refine XS.goto X176.here hx rfl (pc0 := 423) (pc' := 494) rfl (hb hby at_423) (by decide) (by decide) ?_
          show Steps p.tables e below (T176.setTop (mkF m 494 #[.val (.int p1), .val (.int p2), .val (.int p3), .val (.int p4), .val (.int db0), .val (.int db1), .val (.int db2), .val (.int db3), .val (.int dt), .val (.int dc), .val (.int ppp), .val (.int frm), .val (.int len), .val (.int too), .val (.ref b30), .val (.long act), .second, .val (.long (-1 : Int64)), .second, .val (.long vv4), .second, .val (.int kk), .val (.int (1 : Int32)), .val (.int (kk - (1 : Int32))), .unset, .unset, .unset, .unset, .unset, .unset] [])) _
          refine XS.lload X176.here hx rfl (hb hby at_494) rfl ?_
          show Steps p.tables e below (T176.setTop (mkF m 496 #[.val (.int p1), .val (.int p2), .val (.int p3), .val (.int p4), .val (.int db0), .val (.int db1), .val (.int db2), .val (.int db3), .val (.int dt), .val (.int dc), .val (.int ppp), .val (.int frm), .val (.int len), .val (.int too), .val (.ref b30), .val (.long act), .second, .val (.long (-1 : Int64)), .second, .val (.long vv4), .second, .val (.int kk), .val (.int (1 : Int32)), .val (.int (kk - (1 : Int32))), .unset, .unset, .unset, .unset, .unset, .unset] [(.long act)])) _
          refine XS.lload X176.here hx rfl (hb hby at_496) rfl ?_
          show Steps p.tables e below (T176.setTop (mkF m 498 #[.val (.int p1), .val (.int p2), .val (.int p3), .val (.int p4), .val (.int db0), .val (.int db1), .val (.int db2), .val (.int db3), .val (.int dt), .val (.int dc), .val (.int ppp), .val (.int frm), .val (.int len), .val (.int too), .val (.ref b30), .val (.long act), .second, .val (.long (-1 : Int64)), .second, .val (.long vv4), .second, .val (.int kk), .val (.int (1 : Int32)), .val (.int (kk - (1 : Int32))), .unset, .unset, .unset, .unset, .unset, .unset] [(.long (-1 : Int64)), (.long act)])) _
          refine XS.lcmp X176.here hx rfl (hb hby at_498) rfl ?_
          show Steps p.tables e below (T176.setTop (mkF m 499 #[.val (.int p1), .val (.int p2), .val (.int p3), .val (.int p4), .val (.int db0), .val (.int db1), .val (.int db2), .val (.int db3), .val (.int dt), .val (.int dc), .val (.int ppp), .val (.int frm), .val (.int len), .val (.int too), .val (.ref b30), .val (.long act), .second, .val (.long (-1 : Int64)), .second, .val (.long vv4), .second, .val (.int kk), .val (.int (1 : Int32)), .val (.int (kk - (1 : Int32))), .unset, .unset, .unset, .unset, .unset, .unset] [(.int (lcmpW act (-1 : Int64)))])) _
          refine XS.ifNo X176.here hx rfl (hb hby at_499) rfl ((if0 _ _).trans (teq hc499).2) ?_
          show Steps p.tables e below (T176.setTop (mkF m 502 #[.val (.int p1), .val (.int p2), .val (.int p3), .val (.int p4), .val (.int db0), .val (.int db1), .val (.int db2), .val (.int db3), .val (.int dt), .val (.int dc), .val (.int ppp), .val (.int frm), .val (.int len), .val (.int too), .val (.ref b30), .val (.long act), .second, .val (.long (-1 : Int64)), .second, .val (.long vv4), .second, .val (.int kk), .val (.int (1 : Int32)), .val (.int (kk - (1 : Int32))), .unset, .unset, .unset, .unset, .unset, .unset] [])) _
          refine XS.iconst X176.here hx rfl (hb hby at_502) ?_
          show Steps p.tables e below (T176.setTop (mkF m 503 #[.val (.int p1), .val (.int p2), .val (.int p3), .val (.int p4), .val (.int db0), .val (.int db1), .val (.int db2), .val (.int db3), .val (.int dt), .val (.int dc), .val (.int ppp), .val (.int frm), .val (.int len), .val (.int too), .val (.ref b30), .val (.long act), .second, .val (.long (-1 : Int64)), .second, .val (.long vv4), .second, .val (.int kk), .val (.int (1 : Int32)), .val (.int (kk - (1 : Int32))), .unset, .unset, .unset, .unset, .unset, .unset] [(.int (1 : Int32))])) _
          refine XS.goto X176.here hx rfl (pc0 := 503) (pc' := 507) rfl (hb hby at_503) (by decide) (by decide) ?_
          show Steps p.tables e below (T176.setTop (mkF m 507 #[.val (.int p1), .val (.int p2), .val (.int p3), .val (.int p4), .val (.int db0), .val (.int db1), .val (.int db2), .val (.int db3), .val (.int dt), .val (.int dc), .val (.int ppp), .val (.int frm), .val (.int len), .val (.int too), .val (.ref b30), .val (.long act), .second, .val (.long (-1 : Int64)), .second, .val (.long vv4), .second, .val (.int kk), .val (.int (1 : Int32)), .val (.int (kk - (1 : Int32))), .unset, .unset, .unset, .unset, .unset, .unset] [(.int (1 : Int32))])) _
          exact kt
        obtain ⟨fs, hr, hrun, hended, hW, hsame⟩ := X176.leave (v := some (.int (1 : Int32))) (fun h => by rw [Bd.returns] at h; cases h) (BodyLoose.notSynchronized Bd)
        refine ⟨_, _, pre179 _ ?_, hrun, hended, _, _, rfl, ?_, ⟨_, rfl⟩, hW, hsame.mono (by decide) (by decide)⟩
        · exact retN X176 hx (t := .boolean) Bd.returns (by simp) (hb hby at_507) hr
        · show Q0 Z p1 p2 p3 p4 h0 n0 _ T176.heap _
          rw [e176]
          exact ⟨rfl, N176⟩
      · skip
        by_cases hc394 : (0 : Int32) < (kk - (1 : Int32))
        · skip
          have pre180 : ∀ t, Steps p.tables e below (T176.setTop (mkF m 399 #[.val (.int p1), .val (.int p2), .val (.int p3), .val (.int p4), .val (.int db0), .val (.int db1), .val (.int db2), .val (.int db3), .val (.int dt), .val (.int dc), .val (.int ppp), .val (.int frm), .val (.int len), .val (.int too), .val (.ref b30), .val (.long act), .second, .unset, .unset, .val (.long vv4), .second, .val (.int kk), .val (.int (1 : Int32)), .val (.int (kk - (1 : Int32))), .unset, .unset, .unset, .unset, .unset, .unset] [(.int dt)])) t → Steps p.tables e below (s₁.setTop (entryFrame m #[(.int p1), (.int p2), (.int p3), (.int p4)] maxLocals)) t := fun t kt => by
            refine pre178 t ?_
            refine XS.iload X176.here hx rfl (hb hby at_355) rfl ?_
            show Steps p.tables e below (T176.setTop (mkF m 357 #[.val (.int p1), .val (.int p2), .val (.int p3), .val (.int p4), .val (.int db0), .val (.int db1), .val (.int db2), .val (.int db3), .val (.int dt), .val (.int dc), .val (.int ppp), .val (.int frm), .val (.int len), .val (.int too), .val (.ref b30), .val (.long act), .second, .unset, .unset, .val (.long vv4), .second, .val (.int kk), .unset, .unset, .unset, .unset, .unset, .unset, .unset, .unset] [(.int ppp)])) _
            refine XS.iload X176.here hx rfl (hb hby at_357) rfl ?_
            show Steps p.tables e below (T176.setTop (mkF m 359 #[.val (.int p1), .val (.int p2), .val (.int p3), .val (.int p4), .val (.int db0), .val (.int db1), .val (.int db2), .val (.int db3), .val (.int dt), .val (.int dc), .val (.int ppp), .val (.int frm), .val (.int len), .val (.int too), .val (.ref b30), .val (.long act), .second, .unset, .unset, .val (.long vv4), .second, .val (.int kk), .unset, .unset, .unset, .unset, .unset, .unset, .unset, .unset] [(.int too), (.int ppp)])) _
            refine XS.icmpNo X176.here hx rfl (hb hby at_359) rfl (tlt hc359).2.1 ?_
            show Steps p.tables e below (T176.setTop (mkF m 362 #[.val (.int p1), .val (.int p2), .val (.int p3), .val (.int p4), .val (.int db0), .val (.int db1), .val (.int db2), .val (.int db3), .val (.int dt), .val (.int dc), .val (.int ppp), .val (.int frm), .val (.int len), .val (.int too), .val (.ref b30), .val (.long act), .second, .unset, .unset, .val (.long vv4), .second, .val (.int kk), .unset, .unset, .unset, .unset, .unset, .unset, .unset, .unset] [])) _
            refine XS.iconst X176.here hx rfl (hb hby at_362) ?_
            show Steps p.tables e below (T176.setTop (mkF m 363 #[.val (.int p1), .val (.int p2), .val (.int p3), .val (.int p4), .val (.int db0), .val (.int db1), .val (.int db2), .val (.int db3), .val (.int dt), .val (.int dc), .val (.int ppp), .val (.int frm), .val (.int len), .val (.int too), .val (.ref b30), .val (.long act), .second, .unset, .unset, .val (.long vv4), .second, .val (.int kk), .unset, .unset, .unset, .unset, .unset, .unset, .unset, .unset] [(.int (1 : Int32))])) _
            refine XS.goto X176.here hx rfl (pc0 := 363) (pc' := 367) rfl (hb hby at_363) (by decide) (by decide) ?_
            show Steps p.tables e below (T176.setTop (mkF m 367 #[.val (.int p1), .val (.int p2), .val (.int p3), .val (.int p4), .val (.int db0), .val (.int db1), .val (.int db2), .val (.int db3), .val (.int dt), .val (.int dc), .val (.int ppp), .val (.int frm), .val (.int len), .val (.int too), .val (.ref b30), .val (.long act), .second, .unset, .unset, .val (.long vv4), .second, .val (.int kk), .unset, .unset, .unset, .unset, .unset, .unset, .unset, .unset] [(.int (1 : Int32))])) _
            refine XS.istore X176.here hx rfl (hb hby at_367) rfl (l' := #[.val (.int p1), .val (.int p2), .val (.int p3), .val (.int p4), .val (.int db0), .val (.int db1), .val (.int db2), .val (.int db3), .val (.int dt), .val (.int dc), .val (.int ppp), .val (.int frm), .val (.int len), .val (.int too), .val (.ref b30), .val (.long act), .second, .unset, .unset, .val (.long vv4), .second, .val (.int kk), .val (.int (1 : Int32)), .unset, .unset, .unset, .unset, .unset, .unset, .unset]) rfl ?_
            show Steps p.tables e below (T176.setTop (mkF m 369 #[.val (.int p1), .val (.int p2), .val (.int p3), .val (.int p4), .val (.int db0), .val (.int db1), .val (.int db2), .val (.int db3), .val (.int dt), .val (.int dc), .val (.int ppp), .val (.int frm), .val (.int len), .val (.int too), .val (.ref b30), .val (.long act), .second, .unset, .unset, .val (.long vv4), .second, .val (.int kk), .val (.int (1 : Int32)), .unset, .unset, .unset, .unset, .unset, .unset, .unset] [])) _
            refine XS.iload X176.here hx rfl (hb hby at_369) rfl ?_
            show Steps p.tables e below (T176.setTop (mkF m 371 #[.val (.int p1), .val (.int p2), .val (.int p3), .val (.int p4), .val (.int db0), .val (.int db1), .val (.int db2), .val (.int db3), .val (.int dt), .val (.int dc), .val (.int ppp), .val (.int frm), .val (.int len), .val (.int too), .val (.ref b30), .val (.long act), .second, .unset, .unset, .val (.long vv4), .second, .val (.int kk), .val (.int (1 : Int32)), .unset, .unset, .unset, .unset, .unset, .unset, .unset] [(.int (1 : Int32))])) _
            refine XS.ifNo X176.here hx rfl (hb hby at_371) rfl ((if0 _ _).trans (feq (by decide : ¬ ((1 : Int32) = (0 : Int32)))).1) ?_
            show Steps p.tables e below (T176.setTop (mkF m 374 #[.val (.int p1), .val (.int p2), .val (.int p3), .val (.int p4), .val (.int db0), .val (.int db1), .val (.int db2), .val (.int db3), .val (.int dt), .val (.int dc), .val (.int ppp), .val (.int frm), .val (.int len), .val (.int too), .val (.ref b30), .val (.long act), .second, .unset, .unset, .val (.long vv4), .second, .val (.int kk), .val (.int (1 : Int32)), .unset, .unset, .unset, .unset, .unset, .unset, .unset] [])) _
            refine XS.iload X176.here hx rfl (hb hby at_374) rfl ?_
            show Steps p.tables e below (T176.setTop (mkF m 376 #[.val (.int p1), .val (.int p2), .val (.int p3), .val (.int p4), .val (.int db0), .val (.int db1), .val (.int db2), .val (.int db3), .val (.int dt), .val (.int dc), .val (.int ppp), .val (.int frm), .val (.int len), .val (.int too), .val (.ref b30), .val (.long act), .second, .unset, .unset, .val (.long vv4), .second, .val (.int kk), .val (.int (1 : Int32)), .unset, .unset, .unset, .unset, .unset, .unset, .unset] [(.int kk)])) _
            refine XS.iconst X176.here hx rfl (hb hby at_376) ?_
            show Steps p.tables e below (T176.setTop (mkF m 377 #[.val (.int p1), .val (.int p2), .val (.int p3), .val (.int p4), .val (.int db0), .val (.int db1), .val (.int db2), .val (.int db3), .val (.int dt), .val (.int dc), .val (.int ppp), .val (.int frm), .val (.int len), .val (.int too), .val (.ref b30), .val (.long act), .second, .unset, .unset, .val (.long vv4), .second, .val (.int kk), .val (.int (1 : Int32)), .unset, .unset, .unset, .unset, .unset, .unset, .unset] [(.int (1 : Int32)), (.int kk)])) _
            refine XS.isub X176.here hx rfl (hb hby at_377) rfl ?_
            show Steps p.tables e below (T176.setTop (mkF m 378 #[.val (.int p1), .val (.int p2), .val (.int p3), .val (.int p4), .val (.int db0), .val (.int db1), .val (.int db2), .val (.int db3), .val (.int dt), .val (.int dc), .val (.int ppp), .val (.int frm), .val (.int len), .val (.int too), .val (.ref b30), .val (.long act), .second, .unset, .unset, .val (.long vv4), .second, .val (.int kk), .val (.int (1 : Int32)), .unset, .unset, .unset, .unset, .unset, .unset, .unset] [(.int (kk - (1 : Int32)))])) _
            refine XS.goto X176.here hx rfl (pc0 := 378) (pc' := 383) rfl (hb hby at_378) (by decide) (by decide) ?_
            show Steps p.tables e below (T176.setTop (mkF m 383 #[.val (.int p1), .val (.int p2), .val (.int p3), .val (.int p4), .val (.int db0), .val (.int db1), .val (.int db2), .val (.int db3), .val (.int dt), .val (.int dc), .val (.int ppp), .val (.int frm), .val (.int len), .val (.int too), .val (.ref b30), .val (.long act), .second, .unset, .unset, .val (.long vv4), .second, .val (.int kk), .val (.int (1 : Int32)), .unset, .unset, .unset, .unset, .unset, .unset, .unset] [(.int (kk - (1 : Int32)))])) _
            refine XS.istore X176.here hx rfl (hb hby at_383) rfl (l' := #[.val (.int p1), .val (.int p2), .val (.int p3), .val (.int p4), .val (.int db0), .val (.int db1), .val (.int db2), .val (.int db3), .val (.int dt), .val (.int dc), .val (.int ppp), .val (.int frm), .val (.int len), .val (.int too), .val (.ref b30), .val (.long act), .second, .unset, .unset, .val (.long vv4), .second, .val (.int kk), .val (.int (1 : Int32)), .val (.int (kk - (1 : Int32))), .unset, .unset, .unset, .unset, .unset, .unset]) rfl ?_
            show Steps p.tables e below (T176.setTop (mkF m 385 #[.val (.int p1), .val (.int p2), .val (.int p3), .val (.int p4), .val (.int db0), .val (.int db1), .val (.int db2), .val (.int db3), .val (.int dt), .val (.int dc), .val (.int ppp), .val (.int frm), .val (.int len), .val (.int too), .val (.ref b30), .val (.long act), .second, .unset, .unset, .val (.long vv4), .second, .val (.int kk), .val (.int (1 : Int32)), .val (.int (kk - (1 : Int32))), .unset, .unset, .unset, .unset, .unset, .unset] [])) _
            refine XS.lload X176.here hx rfl (hb hby at_385) rfl ?_
            show Steps p.tables e below (T176.setTop (mkF m 387 #[.val (.int p1), .val (.int p2), .val (.int p3), .val (.int p4), .val (.int db0), .val (.int db1), .val (.int db2), .val (.int db3), .val (.int dt), .val (.int dc), .val (.int ppp), .val (.int frm), .val (.int len), .val (.int too), .val (.ref b30), .val (.long act), .second, .unset, .unset, .val (.long vv4), .second, .val (.int kk), .val (.int (1 : Int32)), .val (.int (kk - (1 : Int32))), .unset, .unset, .unset, .unset, .unset, .unset] [(.long vv4)])) _
            refine XS.lconst X176.here hx rfl (hb hby at_387) ?_
            show Steps p.tables e below (T176.setTop (mkF m 388 #[.val (.int p1), .val (.int p2), .val (.int p3), .val (.int p4), .val (.int db0), .val (.int db1), .val (.int db2), .val (.int db3), .val (.int dt), .val (.int dc), .val (.int ppp), .val (.int frm), .val (.int len), .val (.int too), .val (.ref b30), .val (.long act), .second, .unset, .unset, .val (.long vv4), .second, .val (.int kk), .val (.int (1 : Int32)), .val (.int (kk - (1 : Int32))), .unset, .unset, .unset, .unset, .unset, .unset] [(.long (0 : Int64)), (.long vv4)])) _
            refine XS.lcmp X176.here hx rfl (hb hby at_388) rfl ?_
            show Steps p.tables e below (T176.setTop (mkF m 389 #[.val (.int p1), .val (.int p2), .val (.int p3), .val (.int p4), .val (.int db0), .val (.int db1), .val (.int db2), .val (.int db3), .val (.int dt), .val (.int dc), .val (.int ppp), .val (.int frm), .val (.int len), .val (.int too), .val (.ref b30), .val (.long act), .second, .unset, .unset, .val (.long vv4), .second, .val (.int kk), .val (.int (1 : Int32)), .val (.int (kk - (1 : Int32))), .unset, .unset, .unset, .unset, .unset, .unset] [(.int (lcmpW vv4 (0 : Int64)))])) _
            refine XS.ifNo X176.here hx rfl (hb hby at_389) rfl ((if0 _ _).trans (flt hc389).1) ?_
            show Steps p.tables e below (T176.setTop (mkF m 392 #[.val (.int p1), .val (.int p2), .val (.int p3), .val (.int p4), .val (.int db0), .val (.int db1), .val (.int db2), .val (.int db3), .val (.int dt), .val (.int dc), .val (.int ppp), .val (.int frm), .val (.int len), .val (.int too), .val (.ref b30), .val (.long act), .second, .unset, .unset, .val (.long vv4), .second, .val (.int kk), .val (.int (1 : Int32)), .val (.int (kk - (1 : Int32))), .unset, .unset, .unset, .unset, .unset, .unset] [])) _
            refine XS.iload X176.here hx rfl (hb hby at_392) rfl ?_
            show Steps p.tables e below (T176.setTop (mkF m 394 #[.val (.int p1), .val (.int p2), .val (.int p3), .val (.int p4), .val (.int db0), .val (.int db1), .val (.int db2), .val (.int db3), .val (.int dt), .val (.int dc), .val (.int ppp), .val (.int frm), .val (.int len), .val (.int too), .val (.ref b30), .val (.long act), .second, .unset, .unset, .val (.long vv4), .second, .val (.int kk), .val (.int (1 : Int32)), .val (.int (kk - (1 : Int32))), .unset, .unset, .unset, .unset, .unset, .unset] [(.int (kk - (1 : Int32)))])) _
            refine XS.ifNo X176.here hx rfl (hb hby at_394) rfl ((if0 _ _).trans (tlt hc394).2.2.2) ?_
            show Steps p.tables e below (T176.setTop (mkF m 397 #[.val (.int p1), .val (.int p2), .val (.int p3), .val (.int p4), .val (.int db0), .val (.int db1), .val (.int db2), .val (.int db3), .val (.int dt), .val (.int dc), .val (.int ppp), .val (.int frm), .val (.int len), .val (.int too), .val (.ref b30), .val (.long act), .second, .unset, .unset, .val (.long vv4), .second, .val (.int kk), .val (.int (1 : Int32)), .val (.int (kk - (1 : Int32))), .unset, .unset, .unset, .unset, .unset, .unset] [])) _
            refine XS.iload X176.here hx rfl (hb hby at_397) rfl ?_
            show Steps p.tables e below (T176.setTop (mkF m 399 #[.val (.int p1), .val (.int p2), .val (.int p3), .val (.int p4), .val (.int db0), .val (.int db1), .val (.int db2), .val (.int db3), .val (.int dt), .val (.int dc), .val (.int ppp), .val (.int frm), .val (.int len), .val (.int too), .val (.ref b30), .val (.long act), .second, .unset, .unset, .val (.long vv4), .second, .val (.int kk), .val (.int (1 : Int32)), .val (.int (kk - (1 : Int32))), .unset, .unset, .unset, .unset, .unset, .unset] [(.int dt)])) _
            exact kt
          obtain ⟨_, _, ⟨T181, L181, k181, n181⟩, -, X181, ⟨Lc181, hQ181, l181, y181, z181⟩, st181⟩ := Jvm.LawKit.callS X176 hx (y := (⟨"com/example/entgelt/entgelt/io/FieldFormsDigitsPinLaw", "isDigit", "(B)Z"⟩ : MethodName)) hown (mvT hZ (hw _ (mgE 44 rfl))) (mvT hZ (hw _ (mgE 45 rfl))) (mvT hZ (hw _ (mgE 2 rfl))) (mvT hZ (hw _ (mgE 46 rfl))) (by decide) (backOf (W := 0) (rm6 l Z a0 hw [] dt h134 n0 Z134 ) hZ (hw _ (mgE 46 rfl)) (hw _ (mgE 2 rfl)) (by decide) (by decide)) (g := (mkF m 399 #[.val (.int p1), .val (.int p2), .val (.int p3), .val (.int p4), .val (.int db0), .val (.int db1), .val (.int db2), .val (.int db3), .val (.int dt), .val (.int dc), .val (.int ppp), .val (.int frm), .val (.int len), .val (.int too), .val (.ref b30), .val (.long act), .second, .unset, .unset, .val (.long vv4), .second, .val (.int kk), .val (.int (1 : Int32)), .val (.int (kk - (1 : Int32))), .unset, .unset, .unset, .unset, .unset, .unset] [(.int dt)])) rfl (by rw [hml]; rfl) (argsL := [(.int dt)]) (rest := []) (lenOf pd__B_Z rfl) rfl (by show 2 * 0 + _ ≤ _; exact Nat.le_of_eq rfl) (hb hby at_399) (fun _ _ => ⟨rfl, e176, (by decide : 1 + 0 ≤ _), (by decide : 20 + 0 ≤ _)⟩)
          dsimp only [Pt.U, Pt.locs, Pt.cells, Pt.slots] at X181 l181 y181 z181 st181 hQ181
          have ly181 := l181.symm; subst ly181 y181 z181
          obtain ⟨rfl, N181q, e181⟩ := hQ181
          have pre182 : ∀ t, Steps p.tables e below (T181.setTop (mkF m 402 #[.val (.int p1), .val (.int p2), .val (.int p3), .val (.int p4), .val (.int db0), .val (.int db1), .val (.int db2), .val (.int db3), .val (.int dt), .val (.int dc), .val (.int ppp), .val (.int frm), .val (.int len), .val (.int too), .val (.ref b30), .val (.long act), .second, .unset, .unset, .val (.long vv4), .second, .val (.int kk), .val (.int (1 : Int32)), .val (.int (kk - (1 : Int32))), .unset, .unset, .unset, .unset, .unset, .unset] [(.int (r6 dt))])) t → Steps p.tables e below (s₁.setTop (entryFrame m #[(.int p1), (.int p2), (.int p3), (.int p4)] maxLocals)) t := fun t kt => pre180 t (st181 t kt)
          have N181 := Fr.app N176 N181q
          by_cases hc402 : (r6 dt) = (0 : Int32)
          · skip
            have hc499 : (lcmpW act (-1 : Int64)) = (0 : Int32) := own_badu txt frm len too ppp db0 db1 db2 db3 dt dc kk act hIn hc248 h_kk hc359 hc394 hc402
            have pre183 : ∀ t, Steps p.tables e below (T181.setTop (mkF m 507 #[.val (.int p1), .val (.int p2), .val (.int p3), .val (.int p4), .val (.int db0), .val (.int db1), .val (.int db2), .val (.int db3), .val (.int dt), .val (.int dc), .val (.int ppp), .val (.int frm), .val (.int len), .val (.int too), .val (.ref b30), .val (.long act), .second, .val (.long (-1 : Int64)), .second, .val (.long vv4), .second, .val (.int kk), .val (.int (1 : Int32)), .val (.int (kk - (1 : Int32))), .unset, .unset, .unset, .unset, .unset, .unset] [(.int (1 : Int32))])) t → Steps p.tables e below (s₁.setTop (entryFrame m #[(.int p1), (.int p2), (.int p3), (.int p4)] maxLocals)) t := fun t kt => by
              refine pre182 t ?_
              refine XS.ifYes X181.here hx rfl (pc0 := 402) (pc' := 418) rfl (hb hby at_402) rfl ((if0 _ _).trans (teq hc402).1) (by decide) (by decide) ?_
              show Steps p.tables e below (T181.setTop (mkF m 418 #[.val (.int p1), .val (.int p2), .val (.int p3), .val (.int p4), .val (.int db0), .val (.int db1), .val (.int db2), .val (.int db3), .val (.int dt), .val (.int dc), .val (.int ppp), .val (.int frm), .val (.int len), .val (.int too), .val (.ref b30), .val (.long act), .second, .unset, .unset, .val (.long vv4), .second, .val (.int kk), .val (.int (1 : Int32)), .val (.int (kk - (1 : Int32))), .unset, .unset, .unset, .unset, .unset, .unset] [])) _
              refine X181.ldc2Long hx hown (mvT hZ (hw _ (mgE 47 rfl))) (g := (mkF m 418 #[.val (.int p1), .val (.int p2), .val (.int p3), .val (.int p4), .val (.int db0), .val (.int db1), .val (.int db2), .val (.int db3), .val (.int dt), .val (.int dc), .val (.int ppp), .val (.int frm), .val (.int len), .val (.int too), .val (.ref b30), .val (.long act), .second, .unset, .unset, .val (.long vv4), .second, .val (.int kk), .val (.int (1 : Int32)), .val (.int (kk - (1 : Int32))), .unset, .unset, .unset, .unset, .unset, .unset] [])) rfl (hb hby at_418) _ ?_
              show Steps p.tables e below (T181.setTop (mkF m 421 #[.val (.int p1), .val (.int p2), .val (.int p3), .val (.int p4), .val (.int db0), .val (.int db1), .val (.int db2), .val (.int db3), .val (.int dt), .val (.int dc), .val (.int ppp), .val (.int frm), .val (.int len), .val (.int too), .val (.ref b30), .val (.long act), .second, .unset, .unset, .val (.long vv4), .second, .val (.int kk), .val (.int (1 : Int32)), .val (.int (kk - (1 : Int32))), .unset, .unset, .unset, .unset, .unset, .unset] [(.long (-1 : Int64))])) _
              refine XS.lstore X181.here hx rfl (hb hby at_421) rfl (l' := #[.val (.int p1), .val (.int p2), .val (.int p3), .val (.int p4), .val (.int db0), .val (.int db1), .val (.int db2), .val (.int db3), .val (.int dt), .val (.int dc), .val (.int ppp), .val (.int frm), .val (.int len), .val (.int too), .val (.ref b30), .val (.long act), .second, .val (.long (-1 : Int64)), .second, .val (.long vv4), .second, .val (.int kk), .val (.int (1 : Int32)), .val (.int (kk - (1 : Int32))), .unset, .unset, .unset, .unset, .unset, .unset]) rfl ?_
              show Steps p.tables e below (T181.setTop (mkF m 423 #[.val (.int p1), .val (.int p2), .val (.int p3), .val (.int p4), .val (.int db0), .val (.int db1), .val (.int db2), .val (.int db3), .val (.int dt), .val (.int dc), .val (.int ppp), .val (.int frm), .val (.int len), .val (.int too), .val (.ref b30), .val (.long act), .second, .val (.long (-1 : Int64)), .second, .val (.long vv4), .second, .val (.int kk), .val (.int (1 : Int32)), .val (.int (kk - (1 : Int32))), .unset, .unset, .unset, .unset, .unset, .unset] [])) _
              refine XS.goto X181.here hx rfl (pc0 := 423) (pc' := 494) rfl (hb hby at_423) (by decide) (by decide) ?_
              show Steps p.tables e below (T181.setTop (mkF m 494 #[.val (.int p1), .val (.int p2), .val (.int p3), .val (.int p4), .val (.int db0), .val (.int db1), .val (.int db2), .val (.int db3), .val (.int dt), .val (.int dc), .val (.int ppp), .val (.int frm), .val (.int len), .val (.int too), .val (.ref b30), .val (.long act), .second, .val (.long (-1 : Int64)), .second, .val (.long vv4), .second, .val (.int kk), .val (.int (1 : Int32)), .val (.int (kk - (1 : Int32))), .unset, .unset, .unset, .unset, .unset, .unset] [])) _
              refine XS.lload X181.here hx rfl (hb hby at_494) rfl ?_
              show Steps p.tables e below (T181.setTop (mkF m 496 #[.val (.int p1), .val (.int p2), .val (.int p3), .val (.int p4), .val (.int db0), .val (.int db1), .val (.int db2), .val (.int db3), .val (.int dt), .val (.int dc), .val (.int ppp), .val (.int frm), .val (.int len), .val (.int too), .val (.ref b30), .val (.long act), .second, .val (.long (-1 : Int64)), .second, .val (.long vv4), .second, .val (.int kk), .val (.int (1 : Int32)), .val (.int (kk - (1 : Int32))), .unset, .unset, .unset, .unset, .unset, .unset] [(.long act)])) _
              refine XS.lload X181.here hx rfl (hb hby at_496) rfl ?_
              show Steps p.tables e below (T181.setTop (mkF m 498 #[.val (.int p1), .val (.int p2), .val (.int p3), .val (.int p4), .val (.int db0), .val (.int db1), .val (.int db2), .val (.int db3), .val (.int dt), .val (.int dc), .val (.int ppp), .val (.int frm), .val (.int len), .val (.int too), .val (.ref b30), .val (.long act), .second, .val (.long (-1 : Int64)), .second, .val (.long vv4), .second, .val (.int kk), .val (.int (1 : Int32)), .val (.int (kk - (1 : Int32))), .unset, .unset, .unset, .unset, .unset, .unset] [(.long (-1 : Int64)), (.long act)])) _
              refine XS.lcmp X181.here hx rfl (hb hby at_498) rfl ?_
              show Steps p.tables e below (T181.setTop (mkF m 499 #[.val (.int p1), .val (.int p2), .val (.int p3), .val (.int p4), .val (.int db0), .val (.int db1), .val (.int db2), .val (.int db3), .val (.int dt), .val (.int dc), .val (.int ppp), .val (.int frm), .val (.int len), .val (.int too), .val (.ref b30), .val (.long act), .second, .val (.long (-1 : Int64)), .second, .val (.long vv4), .second, .val (.int kk), .val (.int (1 : Int32)), .val (.int (kk - (1 : Int32))), .unset, .unset, .unset, .unset, .unset, .unset] [(.int (lcmpW act (-1 : Int64)))])) _
              refine XS.ifNo X181.here hx rfl (hb hby at_499) rfl ((if0 _ _).trans (teq hc499).2) ?_
              show Steps p.tables e below (T181.setTop (mkF m 502 #[.val (.int p1), .val (.int p2), .val (.int p3), .val (.int p4), .val (.int db0), .val (.int db1), .val (.int db2), .val (.int db3), .val (.int dt), .val (.int dc), .val (.int ppp), .val (.int frm), .val (.int len), .val (.int too), .val (.ref b30), .val (.long act), .second, .val (.long (-1 : Int64)), .second, .val (.long vv4), .second, .val (.int kk), .val (.int (1 : Int32)), .val (.int (kk - (1 : Int32))), .unset, .unset, .unset, .unset, .unset, .unset] [])) _
              refine XS.iconst X181.here hx rfl (hb hby at_502) ?_
              show Steps p.tables e below (T181.setTop (mkF m 503 #[.val (.int p1), .val (.int p2), .val (.int p3), .val (.int p4), .val (.int db0), .val (.int db1), .val (.int db2), .val (.int db3), .val (.int dt), .val (.int dc), .val (.int ppp), .val (.int frm), .val (.int len), .val (.int too), .val (.ref b30), .val (.long act), .second, .val (.long (-1 : Int64)), .second, .val (.long vv4), .second, .val (.int kk), .val (.int (1 : Int32)), .val (.int (kk - (1 : Int32))), .unset, .unset, .unset, .unset, .unset, .unset] [(.int (1 : Int32))])) _
              refine XS.goto X181.here hx rfl (pc0 := 503) (pc' := 507) rfl (hb hby at_503) (by decide) (by decide) ?_
              show Steps p.tables e below (T181.setTop (mkF m 507 #[.val (.int p1), .val (.int p2), .val (.int p3), .val (.int p4), .val (.int db0), .val (.int db1), .val (.int db2), .val (.int db3), .val (.int dt), .val (.int dc), .val (.int ppp), .val (.int frm), .val (.int len), .val (.int too), .val (.ref b30), .val (.long act), .second, .val (.long (-1 : Int64)), .second, .val (.long vv4), .second, .val (.int kk), .val (.int (1 : Int32)), .val (.int (kk - (1 : Int32))), .unset, .unset, .unset, .unset, .unset, .unset] [(.int (1 : Int32))])) _
              exact kt
            obtain ⟨fs, hr, hrun, hended, hW, hsame⟩ := X181.leave (v := some (.int (1 : Int32))) (fun h => by rw [Bd.returns] at h; cases h) (BodyLoose.notSynchronized Bd)
            refine ⟨_, _, pre183 _ ?_, hrun, hended, _, _, rfl, ?_, ⟨_, rfl⟩, hW, hsame.mono (by decide) (by decide)⟩
            · exact retN X181 hx (t := .boolean) Bd.returns (by simp) (hb hby at_507) hr
            · show Q0 Z p1 p2 p3 p4 h0 n0 _ T181.heap _
              rw [e181]
              exact ⟨rfl, N181⟩
          · skip
            have pre184 : ∀ t, Steps p.tables e below (T181.setTop (mkF m 412 #[.val (.int p1), .val (.int p2), .val (.int p3), .val (.int p4), .val (.int db0), .val (.int db1), .val (.int db2), .val (.int db3), .val (.int dt), .val (.int dc), .val (.int ppp), .val (.int frm), .val (.int len), .val (.int too), .val (.ref b30), .val (.long act), .second, .unset, .unset, .val (.long vv4), .second, .val (.int kk), .val (.int (1 : Int32)), .val (.int (kk - (1 : Int32))), .unset, .unset, .unset, .unset, .unset, .unset] [(.int dc)])) t → Steps p.tables e below (s₁.setTop (entryFrame m #[(.int p1), (.int p2), (.int p3), (.int p4)] maxLocals)) t := fun t kt => by
              refine pre182 t ?_
              refine XS.ifNo X181.here hx rfl (hb hby at_402) rfl ((if0 _ _).trans (feq hc402).1) ?_
              show Steps p.tables e below (T181.setTop (mkF m 405 #[.val (.int p1), .val (.int p2), .val (.int p3), .val (.int p4), .val (.int db0), .val (.int db1), .val (.int db2), .val (.int db3), .val (.int dt), .val (.int dc), .val (.int ppp), .val (.int frm), .val (.int len), .val (.int too), .val (.ref b30), .val (.long act), .second, .unset, .unset, .val (.long vv4), .second, .val (.int kk), .val (.int (1 : Int32)), .val (.int (kk - (1 : Int32))), .unset, .unset, .unset, .unset, .unset, .unset] [])) _
              refine XS.iload X181.here hx rfl (hb hby at_405) rfl ?_
              show Steps p.tables e below (T181.setTop (mkF m 407 #[.val (.int p1), .val (.int p2), .val (.int p3), .val (.int p4), .val (.int db0), .val (.int db1), .val (.int db2), .val (.int db3), .val (.int dt), .val (.int dc), .val (.int ppp), .val (.int frm), .val (.int len), .val (.int too), .val (.ref b30), .val (.long act), .second, .unset, .unset, .val (.long vv4), .second, .val (.int kk), .val (.int (1 : Int32)), .val (.int (kk - (1 : Int32))), .unset, .unset, .unset, .unset, .unset, .unset] [(.int (1 : Int32))])) _
              refine XS.ifNo X181.here hx rfl (hb hby at_407) rfl ((if0 _ _).trans (feq (by decide : ¬ ((1 : Int32) = (0 : Int32)))).1) ?_
              show Steps p.tables e below (T181.setTop (mkF m 410 #[.val (.int p1), .val (.int p2), .val (.int p3), .val (.int p4), .val (.int db0), .val (.int db1), .val (.int db2), .val (.int db3), .val (.int dt), .val (.int dc), .val (.int ppp), .val (.int frm), .val (.int len), .val (.int too), .val (.ref b30), .val (.long act), .second, .unset, .unset, .val (.long vv4), .second, .val (.int kk), .val (.int (1 : Int32)), .val (.int (kk - (1 : Int32))), .unset, .unset, .unset, .unset, .unset, .unset] [])) _
              refine XS.iload X181.here hx rfl (hb hby at_410) rfl ?_
              show Steps p.tables e below (T181.setTop (mkF m 412 #[.val (.int p1), .val (.int p2), .val (.int p3), .val (.int p4), .val (.int db0), .val (.int db1), .val (.int db2), .val (.int db3), .val (.int dt), .val (.int dc), .val (.int ppp), .val (.int frm), .val (.int len), .val (.int too), .val (.ref b30), .val (.long act), .second, .unset, .unset, .val (.long vv4), .second, .val (.int kk), .val (.int (1 : Int32)), .val (.int (kk - (1 : Int32))), .unset, .unset, .unset, .unset, .unset, .unset] [(.int dc)])) _
              exact kt
            obtain ⟨_, _, ⟨T185, L185, k185, n185⟩, -, X185, ⟨Lc185, hQ185, l185, y185, z185⟩, st185⟩ := Jvm.LawKit.callS X181 hx (y := (⟨"com/example/entgelt/entgelt/io/FieldFormsDigitsPinLaw", "isDigit", "(B)Z"⟩ : MethodName)) hown (mvT hZ (hw _ (mgE 44 rfl))) (mvT hZ (hw _ (mgE 45 rfl))) (mvT hZ (hw _ (mgE 2 rfl))) (mvT hZ (hw _ (mgE 46 rfl))) (by decide) (backOf (W := 0) (rm6 l Z a0 hw [] dc h134 n0 Z134 ) hZ (hw _ (mgE 46 rfl)) (hw _ (mgE 2 rfl)) (by decide) (by decide)) (g := (mkF m 412 #[.val (.int p1), .val (.int p2), .val (.int p3), .val (.int p4), .val (.int db0), .val (.int db1), .val (.int db2), .val (.int db3), .val (.int dt), .val (.int dc), .val (.int ppp), .val (.int frm), .val (.int len), .val (.int too), .val (.ref b30), .val (.long act), .second, .unset, .unset, .val (.long vv4), .second, .val (.int kk), .val (.int (1 : Int32)), .val (.int (kk - (1 : Int32))), .unset, .unset, .unset, .unset, .unset, .unset] [(.int dc)])) rfl (by rw [hml]; rfl) (argsL := [(.int dc)]) (rest := []) (lenOf pd__B_Z rfl) rfl (by show 2 * 0 + _ ≤ _; exact Nat.le_of_eq rfl) (hb hby at_412) (fun _ _ => ⟨rfl, e181, (by decide : 1 + 0 ≤ _), (by decide : 20 + 0 ≤ _)⟩)
            dsimp only [Pt.U, Pt.locs, Pt.cells, Pt.slots] at X185 l185 y185 z185 st185 hQ185
            have ly185 := l185.symm; subst ly185 y185 z185
            obtain ⟨rfl, N185q, e185⟩ := hQ185
            have pre186 : ∀ t, Steps p.tables e below (T185.setTop (mkF m 415 #[.val (.int p1), .val (.int p2), .val (.int p3), .val (.int p4), .val (.int db0), .val (.int db1), .val (.int db2), .val (.int db3), .val (.int dt), .val (.int dc), .val (.int ppp), .val (.int frm), .val (.int len), .val (.int too), .val (.ref b30), .val (.long act), .second, .unset, .unset, .val (.long vv4), .second, .val (.int kk), .val (.int (1 : Int32)), .val (.int (kk - (1 : Int32))), .unset, .unset, .unset, .unset, .unset, .unset] [(.int (r6 dc))])) t → Steps p.tables e below (s₁.setTop (entryFrame m #[(.int p1), (.int p2), (.int p3), (.int p4)] maxLocals)) t := fun t kt => pre184 t (st185 t kt)
            have N185 := Fr.app N181 N185q
            by_cases hc415 : (r6 dc) = (0 : Int32)
            · skip
              have hc499 : (lcmpW act (-1 : Int64)) = (0 : Int32) := own_badc txt frm len too ppp db0 db1 db2 db3 dt dc act hIn hc248 hc359 hc415
              have pre187 : ∀ t, Steps p.tables e below (T185.setTop (mkF m 507 #[.val (.int p1), .val (.int p2), .val (.int p3), .val (.int p4), .val (.int db0), .val (.int db1), .val (.int db2), .val (.int db3), .val (.int dt), .val (.int dc), .val (.int ppp), .val (.int frm), .val (.int len), .val (.int too), .val (.ref b30), .val (.long act), .second, .val (.long (-1 : Int64)), .second, .val (.long vv4), .second, .val (.int kk), .val (.int (1 : Int32)), .val (.int (kk - (1 : Int32))), .unset, .unset, .unset, .unset, .unset, .unset] [(.int (1 : Int32))])) t → Steps p.tables e below (s₁.setTop (entryFrame m #[(.int p1), (.int p2), (.int p3), (.int p4)] maxLocals)) t := fun t kt => by
                refine pre186 t ?_
                refine XS.ifNo X185.here hx rfl (hb hby at_415) rfl ((if0 _ _).trans (teq hc415).2) ?_
                show Steps p.tables e below (T185.setTop (mkF m 418 #[.val (.int p1), .val (.int p2), .val (.int p3), .val (.int p4), .val (.int db0), .val (.int db1), .val (.int db2), .val (.int db3), .val (.int dt), .val (.int dc), .val (.int ppp), .val (.int frm), .val (.int len), .val (.int too), .val (.ref b30), .val (.long act), .second, .unset, .unset, .val (.long vv4), .second, .val (.int kk), .val (.int (1 : Int32)), .val (.int (kk - (1 : Int32))), .unset, .unset, .unset, .unset, .unset, .unset] [])) _
                refine X185.ldc2Long hx hown (mvT hZ (hw _ (mgE 47 rfl))) (g := (mkF m 418 #[.val (.int p1), .val (.int p2), .val (.int p3), .val (.int p4), .val (.int db0), .val (.int db1), .val (.int db2), .val (.int db3), .val (.int dt), .val (.int dc), .val (.int ppp), .val (.int frm), .val (.int len), .val (.int too), .val (.ref b30), .val (.long act), .second, .unset, .unset, .val (.long vv4), .second, .val (.int kk), .val (.int (1 : Int32)), .val (.int (kk - (1 : Int32))), .unset, .unset, .unset, .unset, .unset, .unset] [])) rfl (hb hby at_418) _ ?_
                show Steps p.tables e below (T185.setTop (mkF m 421 #[.val (.int p1), .val (.int p2), .val (.int p3), .val (.int p4), .val (.int db0), .val (.int db1), .val (.int db2), .val (.int db3), .val (.int dt), .val (.int dc), .val (.int ppp), .val (.int frm), .val (.int len), .val (.int too), .val (.ref b30), .val (.long act), .second, .unset, .unset, .val (.long vv4), .second, .val (.int kk), .val (.int (1 : Int32)), .val (.int (kk - (1 : Int32))), .unset, .unset, .unset, .unset, .unset, .unset] [(.long (-1 : Int64))])) _
                refine XS.lstore X185.here hx rfl (hb hby at_421) rfl (l' := #[.val (.int p1), .val (.int p2), .val (.int p3), .val (.int p4), .val (.int db0), .val (.int db1), .val (.int db2), .val (.int db3), .val (.int dt), .val (.int dc), .val (.int ppp), .val (.int frm), .val (.int len), .val (.int too), .val (.ref b30), .val (.long act), .second, .val (.long (-1 : Int64)), .second, .val (.long vv4), .second, .val (.int kk), .val (.int (1 : Int32)), .val (.int (kk - (1 : Int32))), .unset, .unset, .unset, .unset, .unset, .unset]) rfl ?_
                show Steps p.tables e below (T185.setTop (mkF m 423 #[.val (.int p1), .val (.int p2), .val (.int p3), .val (.int p4), .val (.int db0), .val (.int db1), .val (.int db2), .val (.int db3), .val (.int dt), .val (.int dc), .val (.int ppp), .val (.int frm), .val (.int len), .val (.int too), .val (.ref b30), .val (.long act), .second, .val (.long (-1 : Int64)), .second, .val (.long vv4), .second, .val (.int kk), .val (.int (1 : Int32)), .val (.int (kk - (1 : Int32))), .unset, .unset, .unset, .unset, .unset, .unset] [])) _
                refine XS.goto X185.here hx rfl (pc0 := 423) (pc' := 494) rfl (hb hby at_423) (by decide) (by decide) ?_
                show Steps p.tables e below (T185.setTop (mkF m 494 #[.val (.int p1), .val (.int p2), .val (.int p3), .val (.int p4), .val (.int db0), .val (.int db1), .val (.int db2), .val (.int db3), .val (.int dt), .val (.int dc), .val (.int ppp), .val (.int frm), .val (.int len), .val (.int too), .val (.ref b30), .val (.long act), .second, .val (.long (-1 : Int64)), .second, .val (.long vv4), .second, .val (.int kk), .val (.int (1 : Int32)), .val (.int (kk - (1 : Int32))), .unset, .unset, .unset, .unset, .unset, .unset] [])) _
                refine XS.lload X185.here hx rfl (hb hby at_494) rfl ?_
                show Steps p.tables e below (T185.setTop (mkF m 496 #[.val (.int p1), .val (.int p2), .val (.int p3), .val (.int p4), .val (.int db0), .val (.int db1), .val (.int db2), .val (.int db3), .val (.int dt), .val (.int dc), .val (.int ppp), .val (.int frm), .val (.int len), .val (.int too), .val (.ref b30), .val (.long act), .second, .val (.long (-1 : Int64)), .second, .val (.long vv4), .second, .val (.int kk), .val (.int (1 : Int32)), .val (.int (kk - (1 : Int32))), .unset, .unset, .unset, .unset, .unset, .unset] [(.long act)])) _
                refine XS.lload X185.here hx rfl (hb hby at_496) rfl ?_
                show Steps p.tables e below (T185.setTop (mkF m 498 #[.val (.int p1), .val (.int p2), .val (.int p3), .val (.int p4), .val (.int db0), .val (.int db1), .val (.int db2), .val (.int db3), .val (.int dt), .val (.int dc), .val (.int ppp), .val (.int frm), .val (.int len), .val (.int too), .val (.ref b30), .val (.long act), .second, .val (.long (-1 : Int64)), .second, .val (.long vv4), .second, .val (.int kk), .val (.int (1 : Int32)), .val (.int (kk - (1 : Int32))), .unset, .unset, .unset, .unset, .unset, .unset] [(.long (-1 : Int64)), (.long act)])) _
                refine XS.lcmp X185.here hx rfl (hb hby at_498) rfl ?_
                show Steps p.tables e below (T185.setTop (mkF m 499 #[.val (.int p1), .val (.int p2), .val (.int p3), .val (.int p4), .val (.int db0), .val (.int db1), .val (.int db2), .val (.int db3), .val (.int dt), .val (.int dc), .val (.int ppp), .val (.int frm), .val (.int len), .val (.int too), .val (.ref b30), .val (.long act), .second, .val (.long (-1 : Int64)), .second, .val (.long vv4), .second, .val (.int kk), .val (.int (1 : Int32)), .val (.int (kk - (1 : Int32))), .unset, .unset, .unset, .unset, .unset, .unset] [(.int (lcmpW act (-1 : Int64)))])) _
                refine XS.ifNo X185.here hx rfl (hb hby at_499) rfl ((if0 _ _).trans (teq hc499).2) ?_
                show Steps p.tables e below (T185.setTop (mkF m 502 #[.val (.int p1), .val (.int p2), .val (.int p3), .val (.int p4), .val (.int db0), .val (.int db1), .val (.int db2), .val (.int db3), .val (.int dt), .val (.int dc), .val (.int ppp), .val (.int frm), .val (.int len), .val (.int too), .val (.ref b30), .val (.long act), .second, .val (.long (-1 : Int64)), .second, .val (.long vv4), .second, .val (.int kk), .val (.int (1 : Int32)), .val (.int (kk - (1 : Int32))), .unset, .unset, .unset, .unset, .unset, .unset] [])) _
                refine XS.iconst X185.here hx rfl (hb hby at_502) ?_
                show Steps p.tables e below (T185.setTop (mkF m 503 #[.val (.int p1), .val (.int p2), .val (.int p3), .val (.int p4), .val (.int db0), .val (.int db1), .val (.int db2), .val (.int db3), .val (.int dt), .val (.int dc), .val (.int ppp), .val (.int frm), .val (.int len), .val (.int too), .val (.ref b30), .val (.long act), .second, .val (.long (-1 : Int64)), .second, .val (.long vv4), .second, .val (.int kk), .val (.int (1 : Int32)), .val (.int (kk - (1 : Int32))), .unset, .unset, .unset, .unset, .unset, .unset] [(.int (1 : Int32))])) _
                refine XS.goto X185.here hx rfl (pc0 := 503) (pc' := 507) rfl (hb hby at_503) (by decide) (by decide) ?_
                show Steps p.tables e below (T185.setTop (mkF m 507 #[.val (.int p1), .val (.int p2), .val (.int p3), .val (.int p4), .val (.int db0), .val (.int db1), .val (.int db2), .val (.int db3), .val (.int dt), .val (.int dc), .val (.int ppp), .val (.int frm), .val (.int len), .val (.int too), .val (.ref b30), .val (.long act), .second, .val (.long (-1 : Int64)), .second, .val (.long vv4), .second, .val (.int kk), .val (.int (1 : Int32)), .val (.int (kk - (1 : Int32))), .unset, .unset, .unset, .unset, .unset, .unset] [(.int (1 : Int32))])) _
                exact kt
              obtain ⟨fs, hr, hrun, hended, hW, hsame⟩ := X185.leave (v := some (.int (1 : Int32))) (fun h => by rw [Bd.returns] at h; cases h) (BodyLoose.notSynchronized Bd)
              refine ⟨_, _, pre187 _ ?_, hrun, hended, _, _, rfl, ?_, ⟨_, rfl⟩, hW, hsame.mono (by decide) (by decide)⟩
              · exact retN X185 hx (t := .boolean) Bd.returns (by simp) (hb hby at_507) hr
              · show Q0 Z p1 p2 p3 p4 h0 n0 _ T185.heap _
                rw [e185]
                exact ⟨rfl, N185⟩
            · skip
              have pre188 : ∀ t, Steps p.tables e below (T185.setTop (mkF m 444 #[.val (.int p1), .val (.int p2), .val (.int p3), .val (.int p4), .val (.int db0), .val (.int db1), .val (.int db2), .val (.int db3), .val (.int dt), .val (.int dc), .val (.int ppp), .val (.int frm), .val (.int len), .val (.int too), .val (.ref b30), .val (.long act), .second, .unset, .unset, .val (.long vv4), .second, .val (.int kk), .val (.int (1 : Int32)), .val (.int (kk - (1 : Int32))), .val (.long ((dt - (48 : Int32)).toInt64)), .second, .val (.long ((dc - (48 : Int32)).toInt64)), .second, .unset, .unset] [(.int kk)])) t → Steps p.tables e below (s₁.setTop (entryFrame m #[(.int p1), (.int p2), (.int p3), (.int p4)] maxLocals)) t := fun t kt => by
                refine pre186 t ?_
                refine XS.ifYes X185.here hx rfl (pc0 := 415) (pc' := 426) rfl (hb hby at_415) rfl ((if0 _ _).trans (feq hc415).2) (by decide) (by decide) ?_
                show Steps p.tables e below (T185.setTop (mkF m 426 #[.val (.int p1), .val (.int p2), .val (.int p3), .val (.int p4), .val (.int db0), .val (.int db1), .val (.int db2), .val (.int db3), .val (.int dt), .val (.int dc), .val (.int ppp), .val (.int frm), .val (.int len), .val (.int too), .val (.ref b30), .val (.long act), .second, .unset, .unset, .val (.long vv4), .second, .val (.int kk), .val (.int (1 : Int32)), .val (.int (kk - (1 : Int32))), .unset, .unset, .unset, .unset, .unset, .unset] [])) _
                refine XS.iload X185.here hx rfl (hb hby at_426) rfl ?_
                show Steps p.tables e below (T185.setTop (mkF m 428 #[.val (.int p1), .val (.int p2), .val (.int p3), .val (.int p4), .val (.int db0), .val (.int db1), .val (.int db2), .val (.int db3), .val (.int dt), .val (.int dc), .val (.int ppp), .val (.int frm), .val (.int len), .val (.int too), .val (.ref b30), .val (.long act), .second, .unset, .unset, .val (.long vv4), .second, .val (.int kk), .val (.int (1 : Int32)), .val (.int (kk - (1 : Int32))), .unset, .unset, .unset, .unset, .unset, .unset] [(.int dt)])) _
                refine XS.bipush X185.here hx rfl (hb hby at_428) ?_
                show Steps p.tables e below (T185.setTop (mkF m 430 #[.val (.int p1), .val (.int p2), .val (.int p3), .val (.int p4), .val (.int db0), .val (.int db1), .val (.int db2), .val (.int db3), .val (.int dt), .val (.int dc), .val (.int ppp), .val (.int frm), .val (.int len), .val (.int too), .val (.ref b30), .val (.long act), .second, .unset, .unset, .val (.long vv4), .second, .val (.int kk), .val (.int (1 : Int32)), .val (.int (kk - (1 : Int32))), .unset, .unset, .unset, .unset, .unset, .unset] [(.int (48 : Int32)), (.int dt)])) _
                refine XS.isub X185.here hx rfl (hb hby at_430) rfl ?_
                show Steps p.tables e below (T185.setTop (mkF m 431 #[.val (.int p1), .val (.int p2), .val (.int p3), .val (.int p4), .val (.int db0), .val (.int db1), .val (.int db2), .val (.int db3), .val (.int dt), .val (.int dc), .val (.int ppp), .val (.int frm), .val (.int len), .val (.int too), .val (.ref b30), .val (.long act), .second, .unset, .unset, .val (.long vv4), .second, .val (.int kk), .val (.int (1 : Int32)), .val (.int (kk - (1 : Int32))), .unset, .unset, .unset, .unset, .unset, .unset] [(.int (dt - (48 : Int32)))])) _
                refine XS.i2l X185.here hx rfl (hb hby at_431) rfl ?_
                show Steps p.tables e below (T185.setTop (mkF m 432 #[.val (.int p1), .val (.int p2), .val (.int p3), .val (.int p4), .val (.int db0), .val (.int db1), .val (.int db2), .val (.int db3), .val (.int dt), .val (.int dc), .val (.int ppp), .val (.int frm), .val (.int len), .val (.int too), .val (.ref b30), .val (.long act), .second, .unset, .unset, .val (.long vv4), .second, .val (.int kk), .val (.int (1 : Int32)), .val (.int (kk - (1 : Int32))), .unset, .unset, .unset, .unset, .unset, .unset] [(.long ((dt - (48 : Int32)).toInt64))])) _
                refine XS.lstore X185.here hx rfl (hb hby at_432) rfl (l' := #[.val (.int p1), .val (.int p2), .val (.int p3), .val (.int p4), .val (.int db0), .val (.int db1), .val (.int db2), .val (.int db3), .val (.int dt), .val (.int dc), .val (.int ppp), .val (.int frm), .val (.int len), .val (.int too), .val (.ref b30), .val (.long act), .second, .unset, .unset, .val (.long vv4), .second, .val (.int kk), .val (.int (1 : Int32)), .val (.int (kk - (1 : Int32))), .val (.long ((dt - (48 : Int32)).toInt64)), .second, .unset, .unset, .unset, .unset]) rfl ?_
                show Steps p.tables e below (T185.setTop (mkF m 434 #[.val (.int p1), .val (.int p2), .val (.int p3), .val (.int p4), .val (.int db0), .val (.int db1), .val (.int db2), .val (.int db3), .val (.int dt), .val (.int dc), .val (.int ppp), .val (.int frm), .val (.int len), .val (.int too), .val (.ref b30), .val (.long act), .second, .unset, .unset, .val (.long vv4), .second, .val (.int kk), .val (.int (1 : Int32)), .val (.int (kk - (1 : Int32))), .val (.long ((dt - (48 : Int32)).toInt64)), .second, .unset, .unset, .unset, .unset] [])) _
                refine XS.iload X185.here hx rfl (hb hby at_434) rfl ?_
                show Steps p.tables e below (T185.setTop (mkF m 436 #[.val (.int p1), .val (.int p2), .val (.int p3), .val (.int p4), .val (.int db0), .val (.int db1), .val (.int db2), .val (.int db3), .val (.int dt), .val (.int dc), .val (.int ppp), .val (.int frm), .val (.int len), .val (.int too), .val (.ref b30), .val (.long act), .second, .unset, .unset, .val (.long vv4), .second, .val (.int kk), .val (.int (1 : Int32)), .val (.int (kk - (1 : Int32))), .val (.long ((dt - (48 : Int32)).toInt64)), .second, .unset, .unset, .unset, .unset] [(.int dc)])) _
                refine XS.bipush X185.here hx rfl (hb hby at_436) ?_
                show Steps p.tables e below (T185.setTop (mkF m 438 #[.val (.int p1), .val (.int p2), .val (.int p3), .val (.int p4), .val (.int db0), .val (.int db1), .val (.int db2), .val (.int db3), .val (.int dt), .val (.int dc), .val (.int ppp), .val (.int frm), .val (.int len), .val (.int too), .val (.ref b30), .val (.long act), .second, .unset, .unset, .val (.long vv4), .second, .val (.int kk), .val (.int (1 : Int32)), .val (.int (kk - (1 : Int32))), .val (.long ((dt - (48 : Int32)).toInt64)), .second, .unset, .unset, .unset, .unset] [(.int (48 : Int32)), (.int dc)])) _
                refine XS.isub X185.here hx rfl (hb hby at_438) rfl ?_
                show Steps p.tables e below (T185.setTop (mkF m 439 #[.val (.int p1), .val (.int p2), .val (.int p3), .val (.int p4), .val (.int db0), .val (.int db1), .val (.int db2), .val (.int db3), .val (.int dt), .val (.int dc), .val (.int ppp), .val (.int frm), .val (.int len), .val (.int too), .val (.ref b30), .val (.long act), .second, .unset, .unset, .val (.long vv4), .second, .val (.int kk), .val (.int (1 : Int32)), .val (.int (kk - (1 : Int32))), .val (.long ((dt - (48 : Int32)).toInt64)), .second, .unset, .unset, .unset, .unset] [(.int (dc - (48 : Int32)))])) _
                refine XS.i2l X185.here hx rfl (hb hby at_439) rfl ?_
                show Steps p.tables e below (T185.setTop (mkF m 440 #[.val (.int p1), .val (.int p2), .val (.int p3), .val (.int p4), .val (.int db0), .val (.int db1), .val (.int db2), .val (.int db3), .val (.int dt), .val (.int dc), .val (.int ppp), .val (.int frm), .val (.int len), .val (.int too), .val (.ref b30), .val (.long act), .second, .unset, .unset, .val (.long vv4), .second, .val (.int kk), .val (.int (1 : Int32)), .val (.int (kk - (1 : Int32))), .val (.long ((dt - (48 : Int32)).toInt64)), .second, .unset, .unset, .unset, .unset] [(.long ((dc - (48 : Int32)).toInt64))])) _
                refine XS.lstore X185.here hx rfl (hb hby at_440) rfl (l' := #[.val (.int p1), .val (.int p2), .val (.int p3), .val (.int p4), .val (.int db0), .val (.int db1), .val (.int db2), .val (.int db3), .val (.int dt), .val (.int dc), .val (.int ppp), .val (.int frm), .val (.int len), .val (.int too), .val (.ref b30), .val (.long act), .second, .unset, .unset, .val (.long vv4), .second, .val (.int kk), .val (.int (1 : Int32)), .val (.int (kk - (1 : Int32))), .val (.long ((dt - (48 : Int32)).toInt64)), .second, .val (.long ((dc - (48 : Int32)).toInt64)), .second, .unset, .unset]) rfl ?_
                show Steps p.tables e below (T185.setTop (mkF m 442 #[.val (.int p1), .val (.int p2), .val (.int p3), .val (.int p4), .val (.int db0), .val (.int db1), .val (.int db2), .val (.int db3), .val (.int dt), .val (.int dc), .val (.int ppp), .val (.int frm), .val (.int len), .val (.int too), .val (.ref b30), .val (.long act), .second, .unset, .unset, .val (.long vv4), .second, .val (.int kk), .val (.int (1 : Int32)), .val (.int (kk - (1 : Int32))), .val (.long ((dt - (48 : Int32)).toInt64)), .second, .val (.long ((dc - (48 : Int32)).toInt64)), .second, .unset, .unset] [])) _
                refine XS.iload X185.here hx rfl (hb hby at_442) rfl ?_
                show Steps p.tables e below (T185.setTop (mkF m 444 #[.val (.int p1), .val (.int p2), .val (.int p3), .val (.int p4), .val (.int db0), .val (.int db1), .val (.int db2), .val (.int db3), .val (.int dt), .val (.int dc), .val (.int ppp), .val (.int frm), .val (.int len), .val (.int too), .val (.ref b30), .val (.long act), .second, .unset, .unset, .val (.long vv4), .second, .val (.int kk), .val (.int (1 : Int32)), .val (.int (kk - (1 : Int32))), .val (.long ((dt - (48 : Int32)).toInt64)), .second, .val (.long ((dc - (48 : Int32)).toInt64)), .second, .unset, .unset] [(.int kk)])) _
                exact kt
              obtain ⟨_, _, ⟨T189, L189, k189, n189⟩, -, X189, ⟨Lc189, hQ189, l189, y189, z189⟩, st189⟩ := Jvm.LawKit.callS X185 hx (y := (⟨"com/example/entgelt/entgelt/io/FieldFormsDigitsPinLaw", "pow10", "(I)J"⟩ : MethodName)) hown (mvT hZ (hw _ (mgE 15 rfl))) (mvT hZ (hw _ (mgE 16 rfl))) (mvT hZ (hw _ (mgE 2 rfl))) (mvT hZ (hw _ (mgE 17 rfl))) (by decide) (backOf (W := 0) (rm4 l Z a0 hw [] kk h134 n0 Z134 (own_k19 too kk (own_t0 frm len too hfrm hlen htoo) h_kk)) hZ (hw _ (mgE 17 rfl)) (hw _ (mgE 2 rfl)) (by decide) (by decide)) (g := (mkF m 444 #[.val (.int p1), .val (.int p2), .val (.int p3), .val (.int p4), .val (.int db0), .val (.int db1), .val (.int db2), .val (.int db3), .val (.int dt), .val (.int dc), .val (.int ppp), .val (.int frm), .val (.int len), .val (.int too), .val (.ref b30), .val (.long act), .second, .unset, .unset, .val (.long vv4), .second, .val (.int kk), .val (.int (1 : Int32)), .val (.int (kk - (1 : Int32))), .val (.long ((dt - (48 : Int32)).toInt64)), .second, .val (.long ((dc - (48 : Int32)).toInt64)), .second, .unset, .unset] [(.int kk)])) rfl (by rw [hml]; rfl) (argsL := [(.int kk)]) (rest := []) (lenOf pd__I_J rfl) rfl (by show 2 * 0 + _ ≤ _; exact Nat.le_of_eq rfl) (hb hby at_444) (fun _ _ => ⟨rfl, e185, (by decide : 1 + 1 ≤ _), (by decide : 20 + 19 ≤ _)⟩)
              dsimp only [Pt.U, Pt.locs, Pt.cells, Pt.slots] at X189 l189 y189 z189 st189 hQ189
              have ly189 := l189.symm; subst ly189 y189 z189
              obtain ⟨rfl, N189q, K189⟩ := hQ189
              have Z189 : n0 ≤ T189.heap.size := Nat.le_trans Z134 K189.1
              have pre191 : ∀ t, Steps p.tables e below (T189.setTop (mkF m 447 #[.val (.int p1), .val (.int p2), .val (.int p3), .val (.int p4), .val (.int db0), .val (.int db1), .val (.int db2), .val (.int db3), .val (.int dt), .val (.int dc), .val (.int ppp), .val (.int frm), .val (.int len), .val (.int too), .val (.ref b30), .val (.long act), .second, .unset, .unset, .val (.long vv4), .second, .val (.int kk), .val (.int (1 : Int32)), .val (.int (kk - (1 : Int32))), .val (.long ((dt - (48 : Int32)).toInt64)), .second, .val (.long ((dc - (48 : Int32)).toInt64)), .second, .unset, .unset] [(.long (p10 kk))])) t → Steps p.tables e below (s₁.setTop (entryFrame m #[(.int p1), (.int p2), (.int p3), (.int p4)] maxLocals)) t := fun t kt => pre188 t (st189 t kt)
              have N189 := Fr.app N185 N189q
              have pre192 : ∀ t, Steps p.tables e below (T189.setTop (mkF m 449 #[.val (.int p1), .val (.int p2), .val (.int p3), .val (.int p4), .val (.int db0), .val (.int db1), .val (.int db2), .val (.int db3), .val (.int dt), .val (.int dc), .val (.int ppp), .val (.int frm), .val (.int len), .val (.int too), .val (.ref b30), .val (.long act), .second, .unset, .unset, .val (.long vv4), .second, .val (.int kk), .val (.int (1 : Int32)), .val (.int (kk - (1 : Int32))), .val (.long ((dt - (48 : Int32)).toInt64)), .second, .val (.long ((dc - (48 : Int32)).toInt64)), .second, .val (.long (p10 kk)), .second] [])) t → Steps p.tables e below (s₁.setTop (entryFrame m #[(.int p1), (.int p2), (.int p3), (.int p4)] maxLocals)) t := fun t kt => by
                refine pre191 t ?_
                refine XS.lstore X189.here hx rfl (hb hby at_447) rfl (l' := #[.val (.int p1), .val (.int p2), .val (.int p3), .val (.int p4), .val (.int db0), .val (.int db1), .val (.int db2), .val (.int db3), .val (.int dt), .val (.int dc), .val (.int ppp), .val (.int frm), .val (.int len), .val (.int too), .val (.ref b30), .val (.long act), .second, .unset, .unset, .val (.long vv4), .second, .val (.int kk), .val (.int (1 : Int32)), .val (.int (kk - (1 : Int32))), .val (.long ((dt - (48 : Int32)).toInt64)), .second, .val (.long ((dc - (48 : Int32)).toInt64)), .second, .val (.long (p10 kk)), .second]) rfl ?_
                show Steps p.tables e below (T189.setTop (mkF m 449 #[.val (.int p1), .val (.int p2), .val (.int p3), .val (.int p4), .val (.int db0), .val (.int db1), .val (.int db2), .val (.int db3), .val (.int dt), .val (.int dc), .val (.int ppp), .val (.int frm), .val (.int len), .val (.int too), .val (.ref b30), .val (.long act), .second, .unset, .unset, .val (.long vv4), .second, .val (.int kk), .val (.int (1 : Int32)), .val (.int (kk - (1 : Int32))), .val (.long ((dt - (48 : Int32)).toInt64)), .second, .val (.long ((dc - (48 : Int32)).toInt64)), .second, .val (.long (p10 kk)), .second] [])) _
                exact kt
              obtain ⟨pk, h_pk⟩ : ∃ z, z = (p10 kk) := ⟨_, rfl⟩
              rw [← h_pk] at pre192
              have pre193 : ∀ t, Steps p.tables e below (T189.setTop (mkF m 483 #[.val (.int p1), .val (.int p2), .val (.int p3), .val (.int p4), .val (.int db0), .val (.int db1), .val (.int db2), .val (.int db3), .val (.int dt), .val (.int dc), .val (.int ppp), .val (.int frm), .val (.int len), .val (.int too), .val (.ref b30), .val (.long act), .second, .unset, .unset, .val (.long vv4), .second, .val (.int kk), .val (.int (1 : Int32)), .val (.int (kk - (1 : Int32))), .val (.long ((dt - (48 : Int32)).toInt64)), .second, .val (.long ((dc - (48 : Int32)).toInt64)), .second, .val (.long pk), .second] [(.int ((too - (1 : Int32)) - ppp)), (.long (((dc - (48 : Int32)).toInt64) - ((dt - (48 : Int32)).toInt64))), (.long ((vv4 * pk) + (((dt - (48 : Int32)).toInt64) * ((pk - (1 : Int64)) / (9 : Int64)))))])) t → Steps p.tables e below (s₁.setTop (entryFrame m #[(.int p1), (.int p2), (.int p3), (.int p4)] maxLocals)) t := fun t kt => by
                refine pre192 t ?_
                refine XS.lload X189.here hx rfl (hb hby at_449) rfl ?_
                show Steps p.tables e below (T189.setTop (mkF m 451 #[.val (.int p1), .val (.int p2), .val (.int p3), .val (.int p4), .val (.int db0), .val (.int db1), .val (.int db2), .val (.int db3), .val (.int dt), .val (.int dc), .val (.int ppp), .val (.int frm), .val (.int len), .val (.int too), .val (.ref b30), .val (.long act), .second, .unset, .unset, .val (.long vv4), .second, .val (.int kk), .val (.int (1 : Int32)), .val (.int (kk - (1 : Int32))), .val (.long ((dt - (48 : Int32)).toInt64)), .second, .val (.long ((dc - (48 : Int32)).toInt64)), .second, .val (.long pk), .second] [(.long vv4)])) _
                refine XS.lload X189.here hx rfl (hb hby at_451) rfl ?_
                show Steps p.tables e below (T189.setTop (mkF m 453 #[.val (.int p1), .val (.int p2), .val (.int p3), .val (.int p4), .val (.int db0), .val (.int db1), .val (.int db2), .val (.int db3), .val (.int dt), .val (.int dc), .val (.int ppp), .val (.int frm), .val (.int len), .val (.int too), .val (.ref b30), .val (.long act), .second, .unset, .unset, .val (.long vv4), .second, .val (.int kk), .val (.int (1 : Int32)), .val (.int (kk - (1 : Int32))), .val (.long ((dt - (48 : Int32)).toInt64)), .second, .val (.long ((dc - (48 : Int32)).toInt64)), .second, .val (.long pk), .second] [(.long pk), (.long vv4)])) _
                refine XS.lmul X189.here hx rfl (hb hby at_453) rfl ?_
                show Steps p.tables e below (T189.setTop (mkF m 454 #[.val (.int p1), .val (.int p2), .val (.int p3), .val (.int p4), .val (.int db0), .val (.int db1), .val (.int db2), .val (.int db3), .val (.int dt), .val (.int dc), .val (.int ppp), .val (.int frm), .val (.int len), .val (.int too), .val (.ref b30), .val (.long act), .second, .unset, .unset, .val (.long vv4), .second, .val (.int kk), .val (.int (1 : Int32)), .val (.int (kk - (1 : Int32))), .val (.long ((dt - (48 : Int32)).toInt64)), .second, .val (.long ((dc - (48 : Int32)).toInt64)), .second, .val (.long pk), .second] [(.long (vv4 * pk))])) _
                refine XS.lload X189.here hx rfl (hb hby at_454) rfl ?_
                show Steps p.tables e below (T189.setTop (mkF m 456 #[.val (.int p1), .val (.int p2), .val (.int p3), .val (.int p4), .val (.int db0), .val (.int db1), .val (.int db2), .val (.int db3), .val (.int dt), .val (.int dc), .val (.int ppp), .val (.int frm), .val (.int len), .val (.int too), .val (.ref b30), .val (.long act), .second, .unset, .unset, .val (.long vv4), .second, .val (.int kk), .val (.int (1 : Int32)), .val (.int (kk - (1 : Int32))), .val (.long ((dt - (48 : Int32)).toInt64)), .second, .val (.long ((dc - (48 : Int32)).toInt64)), .second, .val (.long pk), .second] [(.long ((dt - (48 : Int32)).toInt64)), (.long (vv4 * pk))])) _
                refine XS.lload X189.here hx rfl (hb hby at_456) rfl ?_
                show Steps p.tables e below (T189.setTop (mkF m 458 #[.val (.int p1), .val (.int p2), .val (.int p3), .val (.int p4), .val (.int db0), .val (.int db1), .val (.int db2), .val (.int db3), .val (.int dt), .val (.int dc), .val (.int ppp), .val (.int frm), .val (.int len), .val (.int too), .val (.ref b30), .val (.long act), .second, .unset, .unset, .val (.long vv4), .second, .val (.int kk), .val (.int (1 : Int32)), .val (.int (kk - (1 : Int32))), .val (.long ((dt - (48 : Int32)).toInt64)), .second, .val (.long ((dc - (48 : Int32)).toInt64)), .second, .val (.long pk), .second] [(.long pk), (.long ((dt - (48 : Int32)).toInt64)), (.long (vv4 * pk))])) _
                refine XS.lconst X189.here hx rfl (hb hby at_458) ?_
                show Steps p.tables e below (T189.setTop (mkF m 459 #[.val (.int p1), .val (.int p2), .val (.int p3), .val (.int p4), .val (.int db0), .val (.int db1), .val (.int db2), .val (.int db3), .val (.int dt), .val (.int dc), .val (.int ppp), .val (.int frm), .val (.int len), .val (.int too), .val (.ref b30), .val (.long act), .second, .unset, .unset, .val (.long vv4), .second, .val (.int kk), .val (.int (1 : Int32)), .val (.int (kk - (1 : Int32))), .val (.long ((dt - (48 : Int32)).toInt64)), .second, .val (.long ((dc - (48 : Int32)).toInt64)), .second, .val (.long pk), .second] [(.long (1 : Int64)), (.long pk), (.long ((dt - (48 : Int32)).toInt64)), (.long (vv4 * pk))])) _
                refine XS.lsub X189.here hx rfl (hb hby at_459) rfl ?_
                show Steps p.tables e below (T189.setTop (mkF m 460 #[.val (.int p1), .val (.int p2), .val (.int p3), .val (.int p4), .val (.int db0), .val (.int db1), .val (.int db2), .val (.int db3), .val (.int dt), .val (.int dc), .val (.int ppp), .val (.int frm), .val (.int len), .val (.int too), .val (.ref b30), .val (.long act), .second, .unset, .unset, .val (.long vv4), .second, .val (.int kk), .val (.int (1 : Int32)), .val (.int (kk - (1 : Int32))), .val (.long ((dt - (48 : Int32)).toInt64)), .second, .val (.long ((dc - (48 : Int32)).toInt64)), .second, .val (.long pk), .second] [(.long (pk - (1 : Int64))), (.long ((dt - (48 : Int32)).toInt64)), (.long (vv4 * pk))])) _
                refine X189.ldc2Long hx hown (mvT hZ (hw _ (mgE 37 rfl))) (g := (mkF m 460 #[.val (.int p1), .val (.int p2), .val (.int p3), .val (.int p4), .val (.int db0), .val (.int db1), .val (.int db2), .val (.int db3), .val (.int dt), .val (.int dc), .val (.int ppp), .val (.int frm), .val (.int len), .val (.int too), .val (.ref b30), .val (.long act), .second, .unset, .unset, .val (.long vv4), .second, .val (.int kk), .val (.int (1 : Int32)), .val (.int (kk - (1 : Int32))), .val (.long ((dt - (48 : Int32)).toInt64)), .second, .val (.long ((dc - (48 : Int32)).toInt64)), .second, .val (.long pk), .second] [(.long (pk - (1 : Int64))), (.long ((dt - (48 : Int32)).toInt64)), (.long (vv4 * pk))])) rfl (hb hby at_460) _ ?_
                show Steps p.tables e below (T189.setTop (mkF m 463 #[.val (.int p1), .val (.int p2), .val (.int p3), .val (.int p4), .val (.int db0), .val (.int db1), .val (.int db2), .val (.int db3), .val (.int dt), .val (.int dc), .val (.int ppp), .val (.int frm), .val (.int len), .val (.int too), .val (.ref b30), .val (.long act), .second, .unset, .unset, .val (.long vv4), .second, .val (.int kk), .val (.int (1 : Int32)), .val (.int (kk - (1 : Int32))), .val (.long ((dt - (48 : Int32)).toInt64)), .second, .val (.long ((dc - (48 : Int32)).toInt64)), .second, .val (.long pk), .second] [(.long (9 : Int64)), (.long (pk - (1 : Int64))), (.long ((dt - (48 : Int32)).toInt64)), (.long (vv4 * pk))])) _
                have hnz463 : ¬ ((9 : Int64) = (0 : Int64)) := by decide
                refine XS.ldiv X189.here hx rfl (hb hby at_463) rfl hnz463 ?_
                show Steps p.tables e below (T189.setTop (mkF m 464 #[.val (.int p1), .val (.int p2), .val (.int p3), .val (.int p4), .val (.int db0), .val (.int db1), .val (.int db2), .val (.int db3), .val (.int dt), .val (.int dc), .val (.int ppp), .val (.int frm), .val (.int len), .val (.int too), .val (.ref b30), .val (.long act), .second, .unset, .unset, .val (.long vv4), .second, .val (.int kk), .val (.int (1 : Int32)), .val (.int (kk - (1 : Int32))), .val (.long ((dt - (48 : Int32)).toInt64)), .second, .val (.long ((dc - (48 : Int32)).toInt64)), .second, .val (.long pk), .second] [(.long ((pk - (1 : Int64)) / (9 : Int64))), (.long ((dt - (48 : Int32)).toInt64)), (.long (vv4 * pk))])) _
                refine XS.lmul X189.here hx rfl (hb hby at_464) rfl ?_
                show Steps p.tables e below (T189.setTop (mkF m 465 #[.val (.int p1), .val (.int p2), .val (.int p3), .val (.int p4), .val (.int db0), .val (.int db1), .val (.int db2), .val (.int db3), .val (.int dt), .val (.int dc), .val (.int ppp), .val (.int frm), .val (.int len), .val (.int too), .val (.ref b30), .val (.long act), .second, .unset, .unset, .val (.long vv4), .second, .val (.int kk), .val (.int (1 : Int32)), .val (.int (kk - (1 : Int32))), .val (.long ((dt - (48 : Int32)).toInt64)), .second, .val (.long ((dc - (48 : Int32)).toInt64)), .second, .val (.long pk), .second] [(.long (((dt - (48 : Int32)).toInt64) * ((pk - (1 : Int64)) / (9 : Int64)))), (.long (vv4 * pk))])) _
                refine XS.ladd X189.here hx rfl (hb hby at_465) rfl ?_
                show Steps p.tables e below (T189.setTop (mkF m 466 #[.val (.int p1), .val (.int p2), .val (.int p3), .val (.int p4), .val (.int db0), .val (.int db1), .val (.int db2), .val (.int db3), .val (.int dt), .val (.int dc), .val (.int ppp), .val (.int frm), .val (.int len), .val (.int too), .val (.ref b30), .val (.long act), .second, .unset, .unset, .val (.long vv4), .second, .val (.int kk), .val (.int (1 : Int32)), .val (.int (kk - (1 : Int32))), .val (.long ((dt - (48 : Int32)).toInt64)), .second, .val (.long ((dc - (48 : Int32)).toInt64)), .second, .val (.long pk), .second] [(.long ((vv4 * pk) + (((dt - (48 : Int32)).toInt64) * ((pk - (1 : Int64)) / (9 : Int64)))))])) _
                refine XS.iload X189.here hx rfl (hb hby at_466) rfl ?_
                show Steps p.tables e below (T189.setTop (mkF m 468 #[.val (.int p1), .val (.int p2), .val (.int p3), .val (.int p4), .val (.int db0), .val (.int db1), .val (.int db2), .val (.int db3), .val (.int dt), .val (.int dc), .val (.int ppp), .val (.int frm), .val (.int len), .val (.int too), .val (.ref b30), .val (.long act), .second, .unset, .unset, .val (.long vv4), .second, .val (.int kk), .val (.int (1 : Int32)), .val (.int (kk - (1 : Int32))), .val (.long ((dt - (48 : Int32)).toInt64)), .second, .val (.long ((dc - (48 : Int32)).toInt64)), .second, .val (.long pk), .second] [(.int (1 : Int32)), (.long ((vv4 * pk) + (((dt - (48 : Int32)).toInt64) * ((pk - (1 : Int64)) / (9 : Int64)))))])) _
                refine XS.ifNo X189.here hx rfl (hb hby at_468) rfl ((if0 _ _).trans (feq (by decide : ¬ ((1 : Int32) = (0 : Int32)))).1) ?_
                show Steps p.tables e below (T189.setTop (mkF m 471 #[.val (.int p1), .val (.int p2), .val (.int p3), .val (.int p4), .val (.int db0), .val (.int db1), .val (.int db2), .val (.int db3), .val (.int dt), .val (.int dc), .val (.int ppp), .val (.int frm), .val (.int len), .val (.int too), .val (.ref b30), .val (.long act), .second, .unset, .unset, .val (.long vv4), .second, .val (.int kk), .val (.int (1 : Int32)), .val (.int (kk - (1 : Int32))), .val (.long ((dt - (48 : Int32)).toInt64)), .second, .val (.long ((dc - (48 : Int32)).toInt64)), .second, .val (.long pk), .second] [(.long ((vv4 * pk) + (((dt - (48 : Int32)).toInt64) * ((pk - (1 : Int64)) / (9 : Int64)))))])) _
                refine XS.lload X189.here hx rfl (hb hby at_471) rfl ?_
                show Steps p.tables e below (T189.setTop (mkF m 473 #[.val (.int p1), .val (.int p2), .val (.int p3), .val (.int p4), .val (.int db0), .val (.int db1), .val (.int db2), .val (.int db3), .val (.int dt), .val (.int dc), .val (.int ppp), .val (.int frm), .val (.int len), .val (.int too), .val (.ref b30), .val (.long act), .second, .unset, .unset, .val (.long vv4), .second, .val (.int kk), .val (.int (1 : Int32)), .val (.int (kk - (1 : Int32))), .val (.long ((dt - (48 : Int32)).toInt64)), .second, .val (.long ((dc - (48 : Int32)).toInt64)), .second, .val (.long pk), .second] [(.long ((dc - (48 : Int32)).toInt64)), (.long ((vv4 * pk) + (((dt - (48 : Int32)).toInt64) * ((pk - (1 : Int64)) / (9 : Int64)))))])) _
                refine XS.lload X189.here hx rfl (hb hby at_473) rfl ?_
                show Steps p.tables e below (T189.setTop (mkF m 475 #[.val (.int p1), .val (.int p2), .val (.int p3), .val (.int p4), .val (.int db0), .val (.int db1), .val (.int db2), .val (.int db3), .val (.int dt), .val (.int dc), .val (.int ppp), .val (.int frm), .val (.int len), .val (.int too), .val (.ref b30), .val (.long act), .second, .unset, .unset, .val (.long vv4), .second, .val (.int kk), .val (.int (1 : Int32)), .val (.int (kk - (1 : Int32))), .val (.long ((dt - (48 : Int32)).toInt64)), .second, .val (.long ((dc - (48 : Int32)).toInt64)), .second, .val (.long pk), .second] [(.long ((dt - (48 : Int32)).toInt64)), (.long ((dc - (48 : Int32)).toInt64)), (.long ((vv4 * pk) + (((dt - (48 : Int32)).toInt64) * ((pk - (1 : Int64)) / (9 : Int64)))))])) _
                refine XS.lsub X189.here hx rfl (hb hby at_475) rfl ?_
                show Steps p.tables e below (T189.setTop (mkF m 476 #[.val (.int p1), .val (.int p2), .val (.int p3), .val (.int p4), .val (.int db0), .val (.int db1), .val (.int db2), .val (.int db3), .val (.int dt), .val (.int dc), .val (.int ppp), .val (.int frm), .val (.int len), .val (.int too), .val (.ref b30), .val (.long act), .second, .unset, .unset, .val (.long vv4), .second, .val (.int kk), .val (.int (1 : Int32)), .val (.int (kk - (1 : Int32))), .val (.long ((dt - (48 : Int32)).toInt64)), .second, .val (.long ((dc - (48 : Int32)).toInt64)), .second, .val (.long pk), .second] [(.long (((dc - (48 : Int32)).toInt64) - ((dt - (48 : Int32)).toInt64))), (.long ((vv4 * pk) + (((dt - (48 : Int32)).toInt64) * ((pk - (1 : Int64)) / (9 : Int64)))))])) _
                refine XS.iload X189.here hx rfl (hb hby at_476) rfl ?_
                show Steps p.tables e below (T189.setTop (mkF m 478 #[.val (.int p1), .val (.int p2), .val (.int p3), .val (.int p4), .val (.int db0), .val (.int db1), .val (.int db2), .val (.int db3), .val (.int dt), .val (.int dc), .val (.int ppp), .val (.int frm), .val (.int len), .val (.int too), .val (.ref b30), .val (.long act), .second, .unset, .unset, .val (.long vv4), .second, .val (.int kk), .val (.int (1 : Int32)), .val (.int (kk - (1 : Int32))), .val (.long ((dt - (48 : Int32)).toInt64)), .second, .val (.long ((dc - (48 : Int32)).toInt64)), .second, .val (.long pk), .second] [(.int too), (.long (((dc - (48 : Int32)).toInt64) - ((dt - (48 : Int32)).toInt64))), (.long ((vv4 * pk) + (((dt - (48 : Int32)).toInt64) * ((pk - (1 : Int64)) / (9 : Int64)))))])) _
                refine XS.iconst X189.here hx rfl (hb hby at_478) ?_
                show Steps p.tables e below (T189.setTop (mkF m 479 #[.val (.int p1), .val (.int p2), .val (.int p3), .val (.int p4), .val (.int db0), .val (.int db1), .val (.int db2), .val (.int db3), .val (.int dt), .val (.int dc), .val (.int ppp), .val (.int frm), .val (.int len), .val (.int too), .val (.ref b30), .val (.long act), .second, .unset, .unset, .val (.long vv4), .second, .val (.int kk), .val (.int (1 : Int32)), .val (.int (kk - (1 : Int32))), .val (.long ((dt - (48 : Int32)).toInt64)), .second, .val (.long ((dc - (48 : Int32)).toInt64)), .second, .val (.long pk), .second] [(.int (1 : Int32)), (.int too), (.long (((dc - (48 : Int32)).toInt64) - ((dt - (48 : Int32)).toInt64))), (.long ((vv4 * pk) + (((dt - (48 : Int32)).toInt64) * ((pk - (1 : Int64)) / (9 : Int64)))))])) _
                refine XS.isub X189.here hx rfl (hb hby at_479) rfl ?_
                show Steps p.tables e below (T189.setTop (mkF m 480 #[.val (.int p1), .val (.int p2), .val (.int p3), .val (.int p4), .val (.int db0), .val (.int db1), .val (.int db2), .val (.int db3), .val (.int dt), .val (.int dc), .val (.int ppp), .val (.int frm), .val (.int len), .val (.int too), .val (.ref b30), .val (.long act), .second, .unset, .unset, .val (.long vv4), .second, .val (.int kk), .val (.int (1 : Int32)), .val (.int (kk - (1 : Int32))), .val (.long ((dt - (48 : Int32)).toInt64)), .second, .val (.long ((dc - (48 : Int32)).toInt64)), .second, .val (.long pk), .second] [(.int (too - (1 : Int32))), (.long (((dc - (48 : Int32)).toInt64) - ((dt - (48 : Int32)).toInt64))), (.long ((vv4 * pk) + (((dt - (48 : Int32)).toInt64) * ((pk - (1 : Int64)) / (9 : Int64)))))])) _
                refine XS.iload X189.here hx rfl (hb hby at_480) rfl ?_
                show Steps p.tables e below (T189.setTop (mkF m 482 #[.val (.int p1), .val (.int p2), .val (.int p3), .val (.int p4), .val (.int db0), .val (.int db1), .val (.int db2), .val (.int db3), .val (.int dt), .val (.int dc), .val (.int ppp), .val (.int frm), .val (.int len), .val (.int too), .val (.ref b30), .val (.long act), .second, .unset, .unset, .val (.long vv4), .second, .val (.int kk), .val (.int (1 : Int32)), .val (.int (kk - (1 : Int32))), .val (.long ((dt - (48 : Int32)).toInt64)), .second, .val (.long ((dc - (48 : Int32)).toInt64)), .second, .val (.long pk), .second] [(.int ppp), (.int (too - (1 : Int32))), (.long (((dc - (48 : Int32)).toInt64) - ((dt - (48 : Int32)).toInt64))), (.long ((vv4 * pk) + (((dt - (48 : Int32)).toInt64) * ((pk - (1 : Int64)) / (9 : Int64)))))])) _
                refine XS.isub X189.here hx rfl (hb hby at_482) rfl ?_
                show Steps p.tables e below (T189.setTop (mkF m 483 #[.val (.int p1), .val (.int p2), .val (.int p3), .val (.int p4), .val (.int db0), .val (.int db1), .val (.int db2), .val (.int db3), .val (.int dt), .val (.int dc), .val (.int ppp), .val (.int frm), .val (.int len), .val (.int too), .val (.ref b30), .val (.long act), .second, .unset, .unset, .val (.long vv4), .second, .val (.int kk), .val (.int (1 : Int32)), .val (.int (kk - (1 : Int32))), .val (.long ((dt - (48 : Int32)).toInt64)), .second, .val (.long ((dc - (48 : Int32)).toInt64)), .second, .val (.long pk), .second] [(.int ((too - (1 : Int32)) - ppp)), (.long (((dc - (48 : Int32)).toInt64) - ((dt - (48 : Int32)).toInt64))), (.long ((vv4 * pk) + (((dt - (48 : Int32)).toInt64) * ((pk - (1 : Int64)) / (9 : Int64)))))])) _
                exact kt
              obtain ⟨_, _, ⟨T194, L194, k194, n194⟩, -, X194, ⟨Lc194, hQ194, l194, y194, z194⟩, st194⟩ := Jvm.LawKit.callS X189 hx (y := (⟨"com/example/entgelt/entgelt/io/FieldFormsDigitsPinLaw", "pow10", "(I)J"⟩ : MethodName)) hown (mvT hZ (hw _ (mgE 15 rfl))) (mvT hZ (hw _ (mgE 16 rfl))) (mvT hZ (hw _ (mgE 2 rfl))) (mvT hZ (hw _ (mgE 17 rfl))) (by decide) (backOf (W := 4) (rm4 l Z a0 hw [] ((too - (1 : Int32)) - ppp) T189.heap n0 Z189 (own_e19 ppp too hpp htoo.2 hc359)) hZ (hw _ (mgE 17 rfl)) (hw _ (mgE 2 rfl)) (by decide) (by decide)) (g := (mkF m 483 #[.val (.int p1), .val (.int p2), .val (.int p3), .val (.int p4), .val (.int db0), .val (.int db1), .val (.int db2), .val (.int db3), .val (.int dt), .val (.int dc), .val (.int ppp), .val (.int frm), .val (.int len), .val (.int too), .val (.ref b30), .val (.long act), .second, .unset, .unset, .val (.long vv4), .second, .val (.int kk), .val (.int (1 : Int32)), .val (.int (kk - (1 : Int32))), .val (.long ((dt - (48 : Int32)).toInt64)), .second, .val (.long ((dc - (48 : Int32)).toInt64)), .second, .val (.long pk), .second] [(.int ((too - (1 : Int32)) - ppp)), (.long (((dc - (48 : Int32)).toInt64) - ((dt - (48 : Int32)).toInt64))), (.long ((vv4 * pk) + (((dt - (48 : Int32)).toInt64) * ((pk - (1 : Int64)) / (9 : Int64)))))])) rfl (by rw [hml]; rfl) (argsL := [(.int ((too - (1 : Int32)) - ppp))]) (rest := [(.long (((dc - (48 : Int32)).toInt64) - ((dt - (48 : Int32)).toInt64))), (.long ((vv4 * pk) + (((dt - (48 : Int32)).toInt64) * ((pk - (1 : Int64)) / (9 : Int64)))))]) (lenOf pd__I_J rfl) rfl (by show 2 * 0 + _ ≤ _; exact Nat.le_of_eq rfl) (hb hby at_483) (fun _ _ => ⟨rfl, rfl, (by decide : 2 + 1 ≤ _), (by decide : 39 + 19 ≤ _)⟩)
              dsimp only [Pt.U, Pt.locs, Pt.cells, Pt.slots] at X194 l194 y194 z194 st194 hQ194
              have ly194 := l194.symm; subst ly194 y194 z194
              obtain ⟨rfl, N194q, K194⟩ := hQ194
              have pre196 : ∀ t, Steps p.tables e below (T194.setTop (mkF m 486 #[.val (.int p1), .val (.int p2), .val (.int p3), .val (.int p4), .val (.int db0), .val (.int db1), .val (.int db2), .val (.int db3), .val (.int dt), .val (.int dc), .val (.int ppp), .val (.int frm), .val (.int len), .val (.int too), .val (.ref b30), .val (.long act), .second, .unset, .unset, .val (.long vv4), .second, .val (.int kk), .val (.int (1 : Int32)), .val (.int (kk - (1 : Int32))), .val (.long ((dt - (48 : Int32)).toInt64)), .second, .val (.long ((dc - (48 : Int32)).toInt64)), .second, .val (.long pk), .second] [(.long (p10 ((too - (1 : Int32)) - ppp))), (.long (((dc - (48 : Int32)).toInt64) - ((dt - (48 : Int32)).toInt64))), (.long ((vv4 * pk) + (((dt - (48 : Int32)).toInt64) * ((pk - (1 : Int64)) / (9 : Int64)))))])) t → Steps p.tables e below (s₁.setTop (entryFrame m #[(.int p1), (.int p2), (.int p3), (.int p4)] maxLocals)) t := fun t kt => pre193 t (st194 t kt)
              have N194 := Fr.app N189 N194q
              have hc499 : (lcmpW act (((vv4 * pk) + (((dt - (48 : Int32)).toInt64) * ((pk - (1 : Int64)) / (9 : Int64)))) + ((((dc - (48 : Int32)).toInt64) - ((dt - (48 : Int32)).toInt64)) * (p10 ((too - (1 : Int32)) - ppp))))) = (0 : Int32) := own_good1 txt frm len too ppp db0 db1 db2 db3 dt dc kk act vv1 vv2 vv3 vv4 hIn ⟨h_vv1, h_vv2, h_vv3, h_vv4⟩ hc248 h_kk hc389 pk h_pk hc359 hc415 (fun _ => hc402)
              have pre197 : ∀ t, Steps p.tables e below (T194.setTop (mkF m 507 #[.val (.int p1), .val (.int p2), .val (.int p3), .val (.int p4), .val (.int db0), .val (.int db1), .val (.int db2), .val (.int db3), .val (.int dt), .val (.int dc), .val (.int ppp), .val (.int frm), .val (.int len), .val (.int too), .val (.ref b30), .val (.long act), .second, .val (.long (((vv4 * pk) + (((dt - (48 : Int32)).toInt64) * ((pk - (1 : Int64)) / (9 : Int64)))) + ((((dc - (48 : Int32)).toInt64) - ((dt - (48 : Int32)).toInt64)) * (p10 ((too - (1 : Int32)) - ppp))))), .second, .val (.long vv4), .second, .val (.int kk), .val (.int (1 : Int32)), .val (.int (kk - (1 : Int32))), .val (.long ((dt - (48 : Int32)).toInt64)), .second, .val (.long ((dc - (48 : Int32)).toInt64)), .second, .val (.long pk), .second] [(.int (1 : Int32))])) t → Steps p.tables e below (s₁.setTop (entryFrame m #[(.int p1), (.int p2), (.int p3), (.int p4)] maxLocals)) t := fun t kt => by
                refine pre196 t ?_
                refine XS.lmul X194.here hx rfl (hb hby at_486) rfl ?_
                show Steps p.tables e below (T194.setTop (mkF m 487 #[.val (.int p1), .val (.int p2), .val (.int p3), .val (.int p4), .val (.int db0), .val (.int db1), .val (.int db2), .val (.int db3), .val (.int dt), .val (.int dc), .val (.int ppp), .val (.int frm), .val (.int len), .val (.int too), .val (.ref b30), .val (.long act), .second, .unset, .unset, .val (.long vv4), .second, .val (.int kk), .val (.int (1 : Int32)), .val (.int (kk - (1 : Int32))), .val (.long ((dt - (48 : Int32)).toInt64)), .second, .val (.long ((dc - (48 : Int32)).toInt64)), .second, .val (.long pk), .second] [(.long ((((dc - (48 : Int32)).toInt64) - ((dt - (48 : Int32)).toInt64)) * (p10 ((too - (1 : Int32)) - ppp)))), (.long ((vv4 * pk) + (((dt - (48 : Int32)).toInt64) * ((pk - (1 : Int64)) / (9 : Int64)))))])) _
                refine XS.goto X194.here hx rfl (pc0 := 487) (pc' := 491) rfl (hb hby at_487) (by decide) (by decide) ?_
                show Steps p.tables e below (T194.setTop (mkF m 491 #[.val (.int p1), .val (.int p2), .val (.int p3), .val (.int p4), .val (.int db0), .val (.int db1), .val (.int db2), .val (.int db3), .val (.int dt), .val (.int dc), .val (.int ppp), .val (.int frm), .val (.int len), .val (.int too), .val (.ref b30), .val (.long act), .second, .unset, .unset, .val (.long vv4), .second, .val (.int kk), .val (.int (1 : Int32)), .val (.int (kk - (1 : Int32))), .val (.long ((dt - (48 : Int32)).toInt64)), .second, .val (.long ((dc - (48 : Int32)).toInt64)), .second, .val (.long pk), .second] [(.long ((((dc - (48 : Int32)).toInt64) - ((dt - (48 : Int32)).toInt64)) * (p10 ((too - (1 : Int32)) - ppp)))), (.long ((vv4 * pk) + (((dt - (48 : Int32)).toInt64) * ((pk - (1 : Int64)) / (9 : Int64)))))])) _
                refine XS.ladd X194.here hx rfl (hb hby at_491) rfl ?_
                show Steps p.tables e below (T194.setTop (mkF m 492 #[.val (.int p1), .val (.int p2), .val (.int p3), .val (.int p4), .val (.int db0), .val (.int db1), .val (.int db2), .val (.int db3), .val (.int dt), .val (.int dc), .val (.int ppp), .val (.int frm), .val (.int len), .val (.int too), .val (.ref b30), .val (.long act), .second, .unset, .unset, .val (.long vv4), .second, .val (.int kk), .val (.int (1 : Int32)), .val (.int (kk - (1 : Int32))), .val (.long ((dt - (48 : Int32)).toInt64)), .second, .val (.long ((dc - (48 : Int32)).toInt64)), .second, .val (.long pk), .second] [(.long (((vv4 * pk) + (((dt - (48 : Int32)).toInt64) * ((pk - (1 : Int64)) / (9 : Int64)))) + ((((dc - (48 : Int32)).toInt64) - ((dt - (48 : Int32)).toInt64)) * (p10 ((too - (1 : Int32)) - ppp)))))])) _
                refine XS.lstore X194.here hx rfl (hb hby at_492) rfl (l' := #[.val (.int p1), .val (.int p2), .val (.int p3), .val (.int p4), .val (.int db0), .val (.int db1), .val (.int db2), .val (.int db3), .val (.int dt), .val (.int dc), .val (.int ppp), .val (.int frm), .val (.int len), .val (.int too), .val (.ref b30), .val (.long act), .second, .val (.long (((vv4 * pk) + (((dt - (48 : Int32)).toInt64) * ((pk - (1 : Int64)) / (9 : Int64)))) + ((((dc - (48 : Int32)).toInt64) - ((dt - (48 : Int32)).toInt64)) * (p10 ((too - (1 : Int32)) - ppp))))), .second, .val (.long vv4), .second, .val (.int kk), .val (.int (1 : Int32)), .val (.int (kk - (1 : Int32))), .val (.long ((dt - (48 : Int32)).toInt64)), .second, .val (.long ((dc - (48 : Int32)).toInt64)), .second, .val (.long pk), .second]) rfl ?_
                show Steps p.tables e below (T194.setTop (mkF m 494 #[.val (.int p1), .val (.int p2), .val (.int p3), .val (.int p4), .val (.int db0), .val (.int db1), .val (.int db2), .val (.int db3), .val (.int dt), .val (.int dc), .val (.int ppp), .val (.int frm), .val (.int len), .val (.int too), .val (.ref b30), .val (.long act), .second, .val (.long (((vv4 * pk) + (((dt - (48 : Int32)).toInt64) * ((pk - (1 : Int64)) / (9 : Int64)))) + ((((dc - (48 : Int32)).toInt64) - ((dt - (48 : Int32)).toInt64)) * (p10 ((too - (1 : Int32)) - ppp))))), .second, .val (.long vv4), .second, .val (.int kk), .val (.int (1 : Int32)), .val (.int (kk - (1 : Int32))), .val (.long ((dt - (48 : Int32)).toInt64)), .second, .val (.long ((dc - (48 : Int32)).toInt64)), .second, .val (.long pk), .second] [])) _
                refine XS.lload X194.here hx rfl (hb hby at_494) rfl ?_
                show Steps p.tables e below (T194.setTop (mkF m 496 #[.val (.int p1), .val (.int p2), .val (.int p3), .val (.int p4), .val (.int db0), .val (.int db1), .val (.int db2), .val (.int db3), .val (.int dt), .val (.int dc), .val (.int ppp), .val (.int frm), .val (.int len), .val (.int too), .val (.ref b30), .val (.long act), .second, .val (.long (((vv4 * pk) + (((dt - (48 : Int32)).toInt64) * ((pk - (1 : Int64)) / (9 : Int64)))) + ((((dc - (48 : Int32)).toInt64) - ((dt - (48 : Int32)).toInt64)) * (p10 ((too - (1 : Int32)) - ppp))))), .second, .val (.long vv4), .second, .val (.int kk), .val (.int (1 : Int32)), .val (.int (kk - (1 : Int32))), .val (.long ((dt - (48 : Int32)).toInt64)), .second, .val (.long ((dc - (48 : Int32)).toInt64)), .second, .val (.long pk), .second] [(.long act)])) _
                refine XS.lload X194.here hx rfl (hb hby at_496) rfl ?_
                show Steps p.tables e below (T194.setTop (mkF m 498 #[.val (.int p1), .val (.int p2), .val (.int p3), .val (.int p4), .val (.int db0), .val (.int db1), .val (.int db2), .val (.int db3), .val (.int dt), .val (.int dc), .val (.int ppp), .val (.int frm), .val (.int len), .val (.int too), .val (.ref b30), .val (.long act), .second, .val (.long (((vv4 * pk) + (((dt - (48 : Int32)).toInt64) * ((pk - (1 : Int64)) / (9 : Int64)))) + ((((dc - (48 : Int32)).toInt64) - ((dt - (48 : Int32)).toInt64)) * (p10 ((too - (1 : Int32)) - ppp))))), .second, .val (.long vv4), .second, .val (.int kk), .val (.int (1 : Int32)), .val (.int (kk - (1 : Int32))), .val (.long ((dt - (48 : Int32)).toInt64)), .second, .val (.long ((dc - (48 : Int32)).toInt64)), .second, .val (.long pk), .second] [(.long (((vv4 * pk) + (((dt - (48 : Int32)).toInt64) * ((pk - (1 : Int64)) / (9 : Int64)))) + ((((dc - (48 : Int32)).toInt64) - ((dt - (48 : Int32)).toInt64)) * (p10 ((too - (1 : Int32)) - ppp))))), (.long act)])) _
                refine XS.lcmp X194.here hx rfl (hb hby at_498) rfl ?_
                show Steps p.tables e below (T194.setTop (mkF m 499 #[.val (.int p1), .val (.int p2), .val (.int p3), .val (.int p4), .val (.int db0), .val (.int db1), .val (.int db2), .val (.int db3), .val (.int dt), .val (.int dc), .val (.int ppp), .val (.int frm), .val (.int len), .val (.int too), .val (.ref b30), .val (.long act), .second, .val (.long (((vv4 * pk) + (((dt - (48 : Int32)).toInt64) * ((pk - (1 : Int64)) / (9 : Int64)))) + ((((dc - (48 : Int32)).toInt64) - ((dt - (48 : Int32)).toInt64)) * (p10 ((too - (1 : Int32)) - ppp))))), .second, .val (.long vv4), .second, .val (.int kk), .val (.int (1 : Int32)), .val (.int (kk - (1 : Int32))), .val (.long ((dt - (48 : Int32)).toInt64)), .second, .val (.long ((dc - (48 : Int32)).toInt64)), .second, .val (.long pk), .second] [(.int (lcmpW act (((vv4 * pk) + (((dt - (48 : Int32)).toInt64) * ((pk - (1 : Int64)) / (9 : Int64)))) + ((((dc - (48 : Int32)).toInt64) - ((dt - (48 : Int32)).toInt64)) * (p10 ((too - (1 : Int32)) - ppp))))))])) _
                refine XS.ifNo X194.here hx rfl (hb hby at_499) rfl ((if0 _ _).trans (teq hc499).2) ?_
                show Steps p.tables e below (T194.setTop (mkF m 502 #[.val (.int p1), .val (.int p2), .val (.int p3), .val (.int p4), .val (.int db0), .val (.int db1), .val (.int db2), .val (.int db3), .val (.int dt), .val (.int dc), .val (.int ppp), .val (.int frm), .val (.int len), .val (.int too), .val (.ref b30), .val (.long act), .second, .val (.long (((vv4 * pk) + (((dt - (48 : Int32)).toInt64) * ((pk - (1 : Int64)) / (9 : Int64)))) + ((((dc - (48 : Int32)).toInt64) - ((dt - (48 : Int32)).toInt64)) * (p10 ((too - (1 : Int32)) - ppp))))), .second, .val (.long vv4), .second, .val (.int kk), .val (.int (1 : Int32)), .val (.int (kk - (1 : Int32))), .val (.long ((dt - (48 : Int32)).toInt64)), .second, .val (.long ((dc - (48 : Int32)).toInt64)), .second, .val (.long pk), .second] [])) _
                refine XS.iconst X194.here hx rfl (hb hby at_502) ?_
                show Steps p.tables e below (T194.setTop (mkF m 503 #[.val (.int p1), .val (.int p2), .val (.int p3), .val (.int p4), .val (.int db0), .val (.int db1), .val (.int db2), .val (.int db3), .val (.int dt), .val (.int dc), .val (.int ppp), .val (.int frm), .val (.int len), .val (.int too), .val (.ref b30), .val (.long act), .second, .val (.long (((vv4 * pk) + (((dt - (48 : Int32)).toInt64) * ((pk - (1 : Int64)) / (9 : Int64)))) + ((((dc - (48 : Int32)).toInt64) - ((dt - (48 : Int32)).toInt64)) * (p10 ((too - (1 : Int32)) - ppp))))), .second, .val (.long vv4), .second, .val (.int kk), .val (.int (1 : Int32)), .val (.int (kk - (1 : Int32))), .val (.long ((dt - (48 : Int32)).toInt64)), .second, .val (.long ((dc - (48 : Int32)).toInt64)), .second, .val (.long pk), .second] [(.int (1 : Int32))])) _
                refine XS.goto X194.here hx rfl (pc0 := 503) (pc' := 507) rfl (hb hby at_503) (by decide) (by decide) ?_
                show Steps p.tables e below (T194.setTop (mkF m 507 #[.val (.int p1), .val (.int p2), .val (.int p3), .val (.int p4), .val (.int db0), .val (.int db1), .val (.int db2), .val (.int db3), .val (.int dt), .val (.int dc), .val (.int ppp), .val (.int frm), .val (.int len), .val (.int too), .val (.ref b30), .val (.long act), .second, .val (.long (((vv4 * pk) + (((dt - (48 : Int32)).toInt64) * ((pk - (1 : Int64)) / (9 : Int64)))) + ((((dc - (48 : Int32)).toInt64) - ((dt - (48 : Int32)).toInt64)) * (p10 ((too - (1 : Int32)) - ppp))))), .second, .val (.long vv4), .second, .val (.int kk), .val (.int (1 : Int32)), .val (.int (kk - (1 : Int32))), .val (.long ((dt - (48 : Int32)).toInt64)), .second, .val (.long ((dc - (48 : Int32)).toInt64)), .second, .val (.long pk), .second] [(.int (1 : Int32))])) _
                exact kt
              obtain ⟨fs, hr, hrun, hended, hW, hsame⟩ := X194.leave (v := some (.int (1 : Int32))) (fun h => by rw [Bd.returns] at h; cases h) (BodyLoose.notSynchronized Bd)
              refine ⟨_, _, pre197 _ ?_, hrun, hended, _, _, rfl, ?_, ⟨_, rfl⟩, hW, hsame.mono (by decide) (by decide)⟩
              · exact retN X194 hx (t := .boolean) Bd.returns (by simp) (hb hby at_507) hr
              · show Q0 Z p1 p2 p3 p4 h0 n0 _ T194.heap _
                exact ⟨rfl, N194⟩
        · skip
          have pre198 : ∀ t, Steps p.tables e below (T176.setTop (mkF m 412 #[.val (.int p1), .val (.int p2), .val (.int p3), .val (.int p4), .val (.int db0), .val (.int db1), .val (.int db2), .val (.int db3), .val (.int dt), .val (.int dc), .val (.int ppp), .val (.int frm), .val (.int len), .val (.int too), .val (.ref b30), .val (.long act), .second, .unset, .unset, .val (.long vv4), .second, .val (.int kk), .val (.int (1 : Int32)), .val (.int (kk - (1 : Int32))), .unset, .unset, .unset, .unset, .unset, .unset] [(.int dc)])) t → Steps p.tables e below (s₁.setTop (entryFrame m #[(.int p1), (.int p2), (.int p3), (.int p4)] maxLocals)) t := fun t kt => by
            refine pre178 t ?_
            refine XS.iload X176.here hx rfl (hb hby at_355) rfl ?_
            show Steps p.tables e below (T176.setTop (mkF m 357 #[.val (.int p1), .val (.int p2), .val (.int p3), .val (.int p4), .val (.int db0), .val (.int db1), .val (.int db2), .val (.int db3), .val (.int dt), .val (.int dc), .val (.int ppp), .val (.int frm), .val (.int len), .val (.int too), .val (.ref b30), .val (.long act), .second, .unset, .unset, .val (.long vv4), .second, .val (.int kk), .unset, .unset, .unset, .unset, .unset, .unset, .unset, .unset] [(.int ppp)])) _
            refine XS.iload X176.here hx rfl (hb hby at_357) rfl ?_
            show Steps p.tables e below (T176.setTop (mkF m 359 #[.val (.int p1), .val (.int p2), .val (.int p3), .val (.int p4), .val (.int db0), .val (.int db1), .val (.int db2), .val (.int db3), .val (.int dt), .val (.int dc), .val (.int ppp), .val (.int frm), .val (.int len), .val (.int too), .val (.ref b30), .val (.long act), .second, .unset, .unset, .val (.long vv4), .second, .val (.int kk), .unset, .unset, .unset, .unset, .unset, .unset, .unset, .unset] [(.int too), (.int ppp)])) _
            refine XS.icmpNo X176.here hx rfl (hb hby at_359) rfl (tlt hc359).2.1 ?_
            show Steps p.tables e below (T176.setTop (mkF m 362 #[.val (.int p1), .val (.int p2), .val (.int p3), .val (.int p4), .val (.int db0), .val (.int db1), .val (.int db2), .val (.int db3), .val (.int dt), .val (.int dc), .val (.int ppp), .val (.int frm), .val (.int len), .val (.int too), .val (.ref b30), .val (.long act), .second, .unset, .unset, .val (.long vv4), .second, .val (.int kk), .unset, .unset, .unset, .unset, .unset, .unset, .unset, .unset] [])) _
            refine XS.iconst X176.here hx rfl (hb hby at_362) ?_
            show Steps p.tables e below (T176.setTop (mkF m 363 #[.val (.int p1), .val (.int p2), .val (.int p3), .val (.int p4), .val (.int db0), .val (.int db1), .val (.int db2), .val (.int db3), .val (.int dt), .val (.int dc), .val (.int ppp), .val (.int frm), .val (.int len), .val (.int too), .val (.ref b30), .val (.long act), .second, .unset, .unset, .val (.long vv4), .second, .val (.int kk), .unset, .unset, .unset, .unset, .unset, .unset, .unset, .unset] [(.int (1 : Int32))])) _
            refine XS.goto X176.here hx rfl (pc0 := 363) (pc' := 367) rfl (hb hby at_363) (by decide) (by decide) ?_
            show Steps p.tables e below (T176.setTop (mkF m 367 #[.val (.int p1), .val (.int p2), .val (.int p3), .val (.int p4), .val (.int db0), .val (.int db1), .val (.int db2), .val (.int db3), .val (.int dt), .val (.int dc), .val (.int ppp), .val (.int frm), .val (.int len), .val (.int too), .val (.ref b30), .val (.long act), .second, .unset, .unset, .val (.long vv4), .second, .val (.int kk), .unset, .unset, .unset, .unset, .unset, .unset, .unset, .unset] [(.int (1 : Int32))])) _
            refine XS.istore X176.here hx rfl (hb hby at_367) rfl (l' := #[.val (.int p1), .val (.int p2), .val (.int p3), .val (.int p4), .val (.int db0), .val (.int db1), .val (.int db2), .val (.int db3), .val (.int dt), .val (.int dc), .val (.int ppp), .val (.int frm), .val (.int len), .val (.int too), .val (.ref b30), .val (.long act), .second, .unset, .unset, .val (.long vv4), .second, .val (.int kk), .val (.int (1 : Int32)), .unset, .unset, .unset, .unset, .unset, .unset, .unset]) rfl ?_
            show Steps p.tables e below (T176.setTop (mkF m 369 #[.val (.int p1), .val (.int p2), .val (.int p3), .val (.int p4), .val (.int db0), .val (.int db1), .val (.int db2), .val (.int db3), .val (.int dt), .val (.int dc), .val (.int ppp), .val (.int frm), .val (.int len), .val (.int too), .val (.ref b30), .val (.long act), .second, .unset, .unset, .val (.long vv4), .second, .val (.int kk), .val (.int (1 : Int32)), .unset, .unset, .unset, .unset, .unset, .unset, .unset] [])) _
            refine XS.iload X176.here hx rfl (hb hby at_369) rfl ?_
            show Steps p.tables e below (T176.setTop (mkF m 371 #[.val (.int p1), .val (.int p2), .val (.int p3), .val (.int p4), .val (.int db0), .val (.int db1), .val (.int db2), .val (.int db3), .val (.int dt), .val (.int dc), .val (.int ppp), .val (.int frm), .val (.int len), .val (.int too), .val (.ref b30), .val (.long act), .second, .unset, .unset, .val (.long vv4), .second, .val (.int kk), .val (.int (1 : Int32)), .unset, .unset, .unset, .unset, .unset, .unset, .unset] [(.int (1 : Int32))])) _
            refine XS.ifNo X176.here hx rfl (hb hby at_371) rfl ((if0 _ _).trans (feq (by decide : ¬ ((1 : Int32) = (0 : Int32)))).1) ?_
            show Steps p.tables e below (T176.setTop (mkF m 374 #[.val (.int p1), .val (.int p2), .val (.int p3), .val (.int p4), .val (.int db0), .val (.int db1), .val (.int db2), .val (.int db3), .val (.int dt), .val (.int dc), .val (.int ppp), .val (.int frm), .val (.int len), .val (.int too), .val (.ref b30), .val (.long act), .second, .unset, .unset, .val (.long vv4), .second, .val (.int kk), .val (.int (1 : Int32)), .unset, .unset, .unset, .unset, .unset, .unset, .unset] [])) _
            refine XS.iload X176.here hx rfl (hb hby at_374) rfl ?_
            show Steps p.tables e below (T176.setTop (mkF m 376 #[.val (.int p1), .val (.int p2), .val (.int p3), .val (.int p4), .val (.int db0), .val (.int db1), .val (.int db2), .val (.int db3), .val (.int dt), .val (.int dc), .val (.int ppp), .val (.int frm), .val (.int len), .val (.int too), .val (.ref b30), .val (.long act), .second, .unset, .unset, .val (.long vv4), .second, .val (.int kk), .val (.int (1 : Int32)), .unset, .unset, .unset, .unset, .unset, .unset, .unset] [(.int kk)])) _
            refine XS.iconst X176.here hx rfl (hb hby at_376) ?_
            show Steps p.tables e below (T176.setTop (mkF m 377 #[.val (.int p1), .val (.int p2), .val (.int p3), .val (.int p4), .val (.int db0), .val (.int db1), .val (.int db2), .val (.int db3), .val (.int dt), .val (.int dc), .val (.int ppp), .val (.int frm), .val (.int len), .val (.int too), .val (.ref b30), .val (.long act), .second, .unset, .unset, .val (.long vv4), .second, .val (.int kk), .val (.int (1 : Int32)), .unset, .unset, .unset, .unset, .unset, .unset, .unset] [(.int (1 : Int32)), (.int kk)])) _
            refine XS.isub X176.here hx rfl (hb hby at_377) rfl ?_
            show Steps p.tables e below (T176.setTop (mkF m 378 #[.val (.int p1), .val (.int p2), .val (.int p3), .val (.int p4), .val (.int db0), .val (.int db1), .val (.int db2), .val (.int db3), .val (.int dt), .val (.int dc), .val (.int ppp), .val (.int frm), .val (.int len), .val (.int too), .val (.ref b30), .val (.long act), .second, .unset, .unset, .val (.long vv4), .second, .val (.int kk), .val (.int (1 : Int32)), .unset, .unset, .unset, .unset, .unset, .unset, .unset] [(.int (kk - (1 : Int32)))])) _
            refine XS.goto X176.here hx rfl (pc0 := 378) (pc' := 383) rfl (hb hby at_378) (by decide) (by decide) ?_
            show Steps p.tables e below (T176.setTop (mkF m 383 #[.val (.int p1), .val (.int p2), .val (.int p3), .val (.int p4), .val (.int db0), .val (.int db1), .val (.int db2), .val (.int db3), .val (.int dt), .val (.int dc), .val (.int ppp), .val (.int frm), .val (.int len), .val (.int too), .val (.ref b30), .val (.long act), .second, .unset, .unset, .val (.long vv4), .second, .val (.int kk), .val (.int (1 : Int32)), .unset, .unset, .unset, .unset, .unset, .unset, .unset] [(.int (kk - (1 : Int32)))])) _
            refine XS.istore X176.here hx rfl (hb hby at_383) rfl (l' := #[.val (.int p1), .val (.int p2), .val (.int p3), .val (.int p4), .val (.int db0), .val (.int db1), .val (.int db2), .val (.int db3), .val (.int dt), .val (.int dc), .val (.int ppp), .val (.int frm), .val (.int len), .val (.int too), .val (.ref b30), .val (.long act), .second, .unset, .unset, .val (.long vv4), .second, .val (.int kk), .val (.int (1 : Int32)), .val (.int (kk - (1 : Int32))), .unset, .unset, .unset, .unset, .unset, .unset]) rfl ?_
            show Steps p.tables e below (T176.setTop (mkF m 385 #[.val (.int p1), .val (.int p2), .val (.int p3), .val (.int p4), .val (.int db0), .val (.int db1), .val (.int db2), .val (.int db3), .val (.int dt), .val (.int dc), .val (.int ppp), .val (.int frm), .val (.int len), .val (.int too), .val (.ref b30), .val (.long act), .second, .unset, .unset, .val (.long vv4), .second, .val (.int kk), .val (.int (1 : Int32)), .val (.int (kk - (1 : Int32))), .unset, .unset, .unset, .unset, .unset, .unset] [])) _
            refine XS.lload X176.here hx rfl (hb hby at_385) rfl ?_
            show Steps p.tables e below (T176.setTop (mkF m 387 #[.val (.int p1), .val (.int p2), .val (.int p3), .val (.int p4), .val (.int db0), .val (.int db1), .val (.int db2), .val (.int db3), .val (.int dt), .val (.int dc), .val (.int ppp), .val (.int frm), .val (.int len), .val (.int too), .val (.ref b30), .val (.long act), .second, .unset, .unset, .val (.long vv4), .second, .val (.int kk), .val (.int (1 : Int32)), .val (.int (kk - (1 : Int32))), .unset, .unset, .unset, .unset, .unset, .unset] [(.long vv4)])) _
            refine XS.lconst X176.here hx rfl (hb hby at_387) ?_
            show Steps p.tables e below (T176.setTop (mkF m 388 #[.val (.int p1), .val (.int p2), .val (.int p3), .val (.int p4), .val (.int db0), .val (.int db1), .val (.int db2), .val (.int db3), .val (.int dt), .val (.int dc), .val (.int ppp), .val (.int frm), .val (.int len), .val (.int too), .val (.ref b30), .val (.long act), .second, .unset, .unset, .val (.long vv4), .second, .val (.int kk), .val (.int (1 : Int32)), .val (.int (kk - (1 : Int32))), .unset, .unset, .unset, .unset, .unset, .unset] [(.long (0 : Int64)), (.long vv4)])) _
            refine XS.lcmp X176.here hx rfl (hb hby at_388) rfl ?_
            show Steps p.tables e below (T176.setTop (mkF m 389 #[.val (.int p1), .val (.int p2), .val (.int p3), .val (.int p4), .val (.int db0), .val (.int db1), .val (.int db2), .val (.int db3), .val (.int dt), .val (.int dc), .val (.int ppp), .val (.int frm), .val (.int len), .val (.int too), .val (.ref b30), .val (.long act), .second, .unset, .unset, .val (.long vv4), .second, .val (.int kk), .val (.int (1 : Int32)), .val (.int (kk - (1 : Int32))), .unset, .unset, .unset, .unset, .unset, .unset] [(.int (lcmpW vv4 (0 : Int64)))])) _
            refine XS.ifNo X176.here hx rfl (hb hby at_389) rfl ((if0 _ _).trans (flt hc389).1) ?_
            show Steps p.tables e below (T176.setTop (mkF m 392 #[.val (.int p1), .val (.int p2), .val (.int p3), .val (.int p4), .val (.int db0), .val (.int db1), .val (.int db2), .val (.int db3), .val (.int dt), .val (.int dc), .val (.int ppp), .val (.int frm), .val (.int len), .val (.int too), .val (.ref b30), .val (.long act), .second, .unset, .unset, .val (.long vv4), .second, .val (.int kk), .val (.int (1 : Int32)), .val (.int (kk - (1 : Int32))), .unset, .unset, .unset, .unset, .unset, .unset] [])) _
            refine XS.iload X176.here hx rfl (hb hby at_392) rfl ?_
            show Steps p.tables e below (T176.setTop (mkF m 394 #[.val (.int p1), .val (.int p2), .val (.int p3), .val (.int p4), .val (.int db0), .val (.int db1), .val (.int db2), .val (.int db3), .val (.int dt), .val (.int dc), .val (.int ppp), .val (.int frm), .val (.int len), .val (.int too), .val (.ref b30), .val (.long act), .second, .unset, .unset, .val (.long vv4), .second, .val (.int kk), .val (.int (1 : Int32)), .val (.int (kk - (1 : Int32))), .unset, .unset, .unset, .unset, .unset, .unset] [(.int (kk - (1 : Int32)))])) _
            refine XS.ifYes X176.here hx rfl (pc0 := 394) (pc' := 405) rfl (hb hby at_394) rfl ((if0 _ _).trans (flt hc394).2.2.2) (by decide) (by decide) ?_
            show Steps p.tables e below (T176.setTop (mkF m 405 #[.val (.int p1), .val (.int p2), .val (.int p3), .val (.int p4), .val (.int db0), .val (.int db1), .val (.int db2), .val (.int db3), .val (.int dt), .val (.int dc), .val (.int ppp), .val (.int frm), .val (.int len), .val (.int too), .val (.ref b30), .val (.long act), .second, .unset, .unset, .val (.long vv4), .second, .val (.int kk), .val (.int (1 : Int32)), .val (.int (kk - (1 : Int32))), .unset, .unset, .unset, .unset, .unset, .unset] [])) _
            refine XS.iload X176.here hx rfl (hb hby at_405) rfl ?_
            show Steps p.tables e below (T176.setTop (mkF m 407 #[.val (.int p1), .val (.int p2), .val (.int p3), .val (.int p4), .val (.int db0), .val (.int db1), .val (.int db2), .val (.int db3), .val (.int dt), .val (.int dc), .val (.int ppp), .val (.int frm), .val (.int len), .val (.int too), .val (.ref b30), .val (.long act), .second, .unset, .unset, .val (.long vv4), .second, .val (.int kk), .val (.int (1 : Int32)), .val (.int (kk - (1 : Int32))), .unset, .unset, .unset, .unset, .unset, .unset] [(.int (1 : Int32))])) _
            refine XS.ifNo X176.here hx rfl (hb hby at_407) rfl ((if0 _ _).trans (feq (by decide : ¬ ((1 : Int32) = (0 : Int32)))).1) ?_
            show Steps p.tables e below (T176.setTop (mkF m 410 #[.val (.int p1), .val (.int p2), .val (.int p3), .val (.int p4), .val (.int db0), .val (.int db1), .val (.int db2), .val (.int db3), .val (.int dt), .val (.int dc), .val (.int ppp), .val (.int frm), .val (.int len), .val (.int too), .val (.ref b30), .val (.long act), .second, .unset, .unset, .val (.long vv4), .second, .val (.int kk), .val (.int (1 : Int32)), .val (.int (kk - (1 : Int32))), .unset, .unset, .unset, .unset, .unset, .unset] [])) _
            refine XS.iload X176.here hx rfl (hb hby at_410) rfl ?_
            show Steps p.tables e below (T176.setTop (mkF m 412 #[.val (.int p1), .val (.int p2), .val (.int p3), .val (.int p4), .val (.int db0), .val (.int db1), .val (.int db2), .val (.int db3), .val (.int dt), .val (.int dc), .val (.int ppp), .val (.int frm), .val (.int len), .val (.int too), .val (.ref b30), .val (.long act), .second, .unset, .unset, .val (.long vv4), .second, .val (.int kk), .val (.int (1 : Int32)), .val (.int (kk - (1 : Int32))), .unset, .unset, .unset, .unset, .unset, .unset] [(.int dc)])) _
            exact kt
          obtain ⟨_, _, ⟨T199, L199, k199, n199⟩, -, X199, ⟨Lc199, hQ199, l199, y199, z199⟩, st199⟩ := Jvm.LawKit.callS X176 hx (y := (⟨"com/example/entgelt/entgelt/io/FieldFormsDigitsPinLaw", "isDigit", "(B)Z"⟩ : MethodName)) hown (mvT hZ (hw _ (mgE 44 rfl))) (mvT hZ (hw _ (mgE 45 rfl))) (mvT hZ (hw _ (mgE 2 rfl))) (mvT hZ (hw _ (mgE 46 rfl))) (by decide) (backOf (W := 0) (rm6 l Z a0 hw [] dc h134 n0 Z134 ) hZ (hw _ (mgE 46 rfl)) (hw _ (mgE 2 rfl)) (by decide) (by decide)) (g := (mkF m 412 #[.val (.int p1), .val (.int p2), .val (.int p3), .val (.int p4), .val (.int db0), .val (.int db1), .val (.int db2), .val (.int db3), .val (.int dt), .val (.int dc), .val (.int ppp), .val (.int frm), .val (.int len), .val (.int too), .val (.ref b30), .val (.long act), .second, .unset, .unset, .val (.long vv4), .second, .val (.int kk), .val (.int (1 : Int32)), .val (.int (kk - (1 : Int32))), .unset, .unset, .unset, .unset, .unset, .unset] [(.int dc)])) rfl (by rw [hml]; rfl) (argsL := [(.int dc)]) (rest := []) (lenOf pd__B_Z rfl) rfl (by show 2 * 0 + _ ≤ _; exact Nat.le_of_eq rfl) (hb hby at_412) (fun _ _ => ⟨rfl, e176, (by decide : 1 + 0 ≤ _), (by decide : 20 + 0 ≤ _)⟩)
          dsimp only [Pt.U, Pt.locs, Pt.cells, Pt.slots] at X199 l199 y199 z199 st199 hQ199
          have ly199 := l199.symm; subst ly199 y199 z199
          obtain ⟨rfl, N199q, e199⟩ := hQ199
          have pre200 : ∀ t, Steps p.tables e below (T199.setTop (mkF m 415 #[.val (.int p1), .val (.int p2), .val (.int p3), .val (.int p4), .val (.int db0), .val (.int db1), .val (.int db2), .val (.int db3), .val (.int dt), .val (.int dc), .val (.int ppp), .val (.int frm), .val (.int len), .val (.int too), .val (.ref b30), .val (.long act), .second, .unset, .unset, .val (.long vv4), .second, .val (.int kk), .val (.int (1 : Int32)), .val (.int (kk - (1 : Int32))), .unset, .unset, .unset, .unset, .unset, .unset] [(.int (r6 dc))])) t → Steps p.tables e below (s₁.setTop (entryFrame m #[(.int p1), (.int p2), (.int p3), (.int p4)] maxLocals)) t := fun t kt => pre198 t (st199 t kt)
          have N199 := Fr.app N176 N199q
          by_cases hc415 : (r6 dc) = (0 : Int32)
          · skip
            have hc499 : (lcmpW act (-1 : Int64)) = (0 : Int32) := own_badc txt frm len too ppp db0 db1 db2 db3 dt dc act hIn hc248 hc359 hc415
            have pre201 : ∀ t, Steps p.tables e below (T199.setTop (mkF m 507 #[.val (.int p1), .val (.int p2), .val (.int p3), .val (.int p4), .val (.int db0), .val (.int db1), .val (.int db2), .val (.int db3), .val (.int dt), .val (.int dc), .val (.int ppp), .val (.int frm), .val (.int len), .val (.int too), .val (.ref b30), .val (.long act), .second, .val (.long (-1 : Int64)), .second, .val (.long vv4), .second, .val (.int kk), .val (.int (1 : Int32)), .val (.int (kk - (1 : Int32))), .unset, .unset, .unset, .unset, .unset, .unset] [(.int (1 : Int32))])) t → Steps p.tables e below (s₁.setTop (entryFrame m #[(.int p1), (.int p2), (.int p3), (.int p4)] maxLocals)) t := fun t kt => by
              refine pre200 t ?_
              refine XS.ifNo X199.here hx rfl (hb hby at_415) rfl ((if0 _ _).trans (teq hc415).2) ?_
              show Steps p.tables e below (T199.setTop (mkF m 418 #[.val (.int p1), .val (.int p2), .val (.int p3), .val (.int p4), .val (.int db0), .val (.int db1), .val (.int db2), .val (.int db3), .val (.int dt), .val (.int dc), .val (.int ppp), .val (.int frm), .val (.int len), .val (.int too), .val (.ref b30), .val (.long act), .second, .unset, .unset, .val (.long vv4), .second, .val (.int kk), .val (.int (1 : Int32)), .val (.int (kk - (1 : Int32))), .unset, .unset, .unset, .unset, .unset, .unset] [])) _
              refine X199.ldc2Long hx hown (mvT hZ (hw _ (mgE 47 rfl))) (g := (mkF m 418 #[.val (.int p1), .val (.int p2), .val (.int p3), .val (.int p4), .val (.int db0), .val (.int db1), .val (.int db2), .val (.int db3), .val (.int dt), .val (.int dc), .val (.int ppp), .val (.int frm), .val (.int len), .val (.int too), .val (.ref b30), .val (.long act), .second, .unset, .unset, .val (.long vv4), .second, .val (.int kk), .val (.int (1 : Int32)), .val (.int (kk - (1 : Int32))), .unset, .unset, .unset, .unset, .unset, .unset] [])) rfl (hb hby at_418) _ ?_
              show Steps p.tables e below (T199.setTop (mkF m 421 #[.val (.int p1), .val (.int p2), .val (.int p3), .val (.int p4), .val (.int db0), .val (.int db1), .val (.int db2), .val (.int db3), .val (.int dt), .val (.int dc), .val (.int ppp), .val (.int frm), .val (.int len), .val (.int too), .val (.ref b30), .val (.long act), .second, .unset, .unset, .val (.long vv4), .second, .val (.int kk), .val (.int (1 : Int32)), .val (.int (kk - (1 : Int32))), .unset, .unset, .unset, .unset, .unset, .unset] [(.long (-1 : Int64))])) _
              refine XS.lstore X199.here hx rfl (hb hby at_421) rfl (l' := #[.val (.int p1), .val (.int p2), .val (.int p3), .val (.int p4), .val (.int db0), .val (.int db1), .val (.int db2), .val (.int db3), .val (.int dt), .val (.int dc), .val (.int ppp), .val (.int frm), .val (.int len), .val (.int too), .val (.ref b30), .val (.long act), .second, .val (.long (-1 : Int64)), .second, .val (.long vv4), .second, .val (.int kk), .val (.int (1 : Int32)), .val (.int (kk - (1 : Int32))), .unset, .unset, .unset, .unset, .unset, .unset]) rfl ?_
              show Steps p.tables e below (T199.setTop (mkF m 423 #[.val (.int p1), .val (.int p2), .val (.int p3), .val (.int p4), .val (.int db0), .val (.int db1), .val (.int db2), .val (.int db3), .val (.int dt), .val (.int dc), .val (.int ppp), .val (.int frm), .val (.int len), .val (.int too), .val (.ref b30), .val (.long act), .second, .val (.long (-1 : Int64)), .second, .val (.long vv4), .second, .val (.int kk), .val (.int (1 : Int32)), .val (.int (kk - (1 : Int32))), .unset, .unset, .unset, .unset, .unset, .unset] [])) _
              refine XS.goto X199.here hx rfl (pc0 := 423) (pc' := 494) rfl (hb hby at_423) (by decide) (by decide) ?_
              show Steps p.tables e below (T199.setTop (mkF m 494 #[.val (.int p1), .val (.int p2), .val (.int p3), .val (.int p4), .val (.int db0), .val (.int db1), .val (.int db2), .val (.int db3), .val (.int dt), .val (.int dc), .val (.int ppp), .val (.int frm), .val (.int len), .val (.int too), .val (.ref b30), .val (.long act), .second, .val (.long (-1 : Int64)), .second, .val (.long vv4), .second, .val (.int kk), .val (.int (1 : Int32)), .val (.int (kk - (1 : Int32))), .unset, .unset, .unset, .unset, .unset, .unset] [])) _
              refine XS.lload X199.here hx rfl (hb hby at_494) rfl ?_
              show Steps p.tables e below (T199.setTop (mkF m 496 #[.val (.int p1), .val (.int p2), .val (.int p3), .val (.int p4), .val (.int db0), .val (.int db1), .val (.int db2), .val (.int db3), .val (.int dt), .val (.int dc), .val (.int ppp), .val (.int frm), .val (.int len), .val (.int too), .val (.ref b30), .val (.long act), .second, .val (.long (-1 : Int64)), .second, .val (.long vv4), .second, .val (.int kk), .val (.int (1 : Int32)), .val (.int (kk - (1 : Int32))), .unset, .unset, .unset, .unset, .unset, .unset] [(.long act)])) _
              refine XS.lload X199.here hx rfl (hb hby at_496) rfl ?_
              show Steps p.tables e below (T199.setTop (mkF m 498 #[.val (.int p1), .val (.int p2), .val (.int p3), .val (.int p4), .val (.int db0), .val (.int db1), .val (.int db2), .val (.int db3), .val (.int dt), .val (.int dc), .val (.int ppp), .val (.int frm), .val (.int len), .val (.int too), .val (.ref b30), .val (.long act), .second, .val (.long (-1 : Int64)), .second, .val (.long vv4), .second, .val (.int kk), .val (.int (1 : Int32)), .val (.int (kk - (1 : Int32))), .unset, .unset, .unset, .unset, .unset, .unset] [(.long (-1 : Int64)), (.long act)])) _
              refine XS.lcmp X199.here hx rfl (hb hby at_498) rfl ?_
              show Steps p.tables e below (T199.setTop (mkF m 499 #[.val (.int p1), .val (.int p2), .val (.int p3), .val (.int p4), .val (.int db0), .val (.int db1), .val (.int db2), .val (.int db3), .val (.int dt), .val (.int dc), .val (.int ppp), .val (.int frm), .val (.int len), .val (.int too), .val (.ref b30), .val (.long act), .second, .val (.long (-1 : Int64)), .second, .val (.long vv4), .second, .val (.int kk), .val (.int (1 : Int32)), .val (.int (kk - (1 : Int32))), .unset, .unset, .unset, .unset, .unset, .unset] [(.int (lcmpW act (-1 : Int64)))])) _
              refine XS.ifNo X199.here hx rfl (hb hby at_499) rfl ((if0 _ _).trans (teq hc499).2) ?_
              show Steps p.tables e below (T199.setTop (mkF m 502 #[.val (.int p1), .val (.int p2), .val (.int p3), .val (.int p4), .val (.int db0), .val (.int db1), .val (.int db2), .val (.int db3), .val (.int dt), .val (.int dc), .val (.int ppp), .val (.int frm), .val (.int len), .val (.int too), .val (.ref b30), .val (.long act), .second, .val (.long (-1 : Int64)), .second, .val (.long vv4), .second, .val (.int kk), .val (.int (1 : Int32)), .val (.int (kk - (1 : Int32))), .unset, .unset, .unset, .unset, .unset, .unset] [])) _
              refine XS.iconst X199.here hx rfl (hb hby at_502) ?_
              show Steps p.tables e below (T199.setTop (mkF m 503 #[.val (.int p1), .val (.int p2), .val (.int p3), .val (.int p4), .val (.int db0), .val (.int db1), .val (.int db2), .val (.int db3), .val (.int dt), .val (.int dc), .val (.int ppp), .val (.int frm), .val (.int len), .val (.int too), .val (.ref b30), .val (.long act), .second, .val (.long (-1 : Int64)), .second, .val (.long vv4), .second, .val (.int kk), .val (.int (1 : Int32)), .val (.int (kk - (1 : Int32))), .unset, .unset, .unset, .unset, .unset, .unset] [(.int (1 : Int32))])) _
              refine XS.goto X199.here hx rfl (pc0 := 503) (pc' := 507) rfl (hb hby at_503) (by decide) (by decide) ?_
              show Steps p.tables e below (T199.setTop (mkF m 507 #[.val (.int p1), .val (.int p2), .val (.int p3), .val (.int p4), .val (.int db0), .val (.int db1), .val (.int db2), .val (.int db3), .val (.int dt), .val (.int dc), .val (.int ppp), .val (.int frm), .val (.int len), .val (.int too), .val (.ref b30), .val (.long act), .second, .val (.long (-1 : Int64)), .second, .val (.long vv4), .second, .val (.int kk), .val (.int (1 : Int32)), .val (.int (kk - (1 : Int32))), .unset, .unset, .unset, .unset, .unset, .unset] [(.int (1 : Int32))])) _
              exact kt
            obtain ⟨fs, hr, hrun, hended, hW, hsame⟩ := X199.leave (v := some (.int (1 : Int32))) (fun h => by rw [Bd.returns] at h; cases h) (BodyLoose.notSynchronized Bd)
            refine ⟨_, _, pre201 _ ?_, hrun, hended, _, _, rfl, ?_, ⟨_, rfl⟩, hW, hsame.mono (by decide) (by decide)⟩
            · exact retN X199 hx (t := .boolean) Bd.returns (by simp) (hb hby at_507) hr
            · show Q0 Z p1 p2 p3 p4 h0 n0 _ T199.heap _
              rw [e199]
              exact ⟨rfl, N199⟩
          · skip
            have pre202 : ∀ t, Steps p.tables e below (T199.setTop (mkF m 444 #[.val (.int p1), .val (.int p2), .val (.int p3), .val (.int p4), .val (.int db0), .val (.int db1), .val (.int db2), .val (.int db3), .val (.int dt), .val (.int dc), .val (.int ppp), .val (.int frm), .val (.int len), .val (.int too), .val (.ref b30), .val (.long act), .second, .unset, .unset, .val (.long vv4), .second, .val (.int kk), .val (.int (1 : Int32)), .val (.int (kk - (1 : Int32))), .val (.long ((dt - (48 : Int32)).toInt64)), .second, .val (.long ((dc - (48 : Int32)).toInt64)), .second, .unset, .unset] [(.int kk)])) t → Steps p.tables e below (s₁.setTop (entryFrame m #[(.int p1), (.int p2), (.int p3), (.int p4)] maxLocals)) t := fun t kt => by
              refine pre200 t ?_
              refine XS.ifYes X199.here hx rfl (pc0 := 415) (pc' := 426) rfl (hb hby at_415) rfl ((if0 _ _).trans (feq hc415).2) (by decide) (by decide) ?_
              show Steps p.tables e below (T199.setTop (mkF m 426 #[.val (.int p1), .val (.int p2), .val (.int p3), .val (.int p4), .val (.int db0), .val (.int db1), .val (.int db2), .val (.int db3), .val (.int dt), .val (.int dc), .val (.int ppp), .val (.int frm), .val (.int len), .val (.int too), .val (.ref b30), .val (.long act), .second, .unset, .unset, .val (.long vv4), .second, .val (.int kk), .val (.int (1 : Int32)), .val (.int (kk - (1 : Int32))), .unset, .unset, .unset, .unset, .unset, .unset] [])) _
              refine XS.iload X199.here hx rfl (hb hby at_426) rfl ?_
              show Steps p.tables e below (T199.setTop (mkF m 428 #[.val (.int p1), .val (.int p2), .val (.int p3), .val (.int p4), .val (.int db0), .val (.int db1), .val (.int db2), .val (.int db3), .val (.int dt), .val (.int dc), .val (.int ppp), .val (.int frm), .val (.int len), .val (.int too), .val (.ref b30), .val (.long act), .second, .unset, .unset, .val (.long vv4), .second, .val (.int kk), .val (.int (1 : Int32)), .val (.int (kk - (1 : Int32))), .unset, .unset, .unset, .unset, .unset, .unset] [(.int dt)])) _
              refine XS.bipush X199.here hx rfl (hb hby at_428) ?_
              show Steps p.tables e below (T199.setTop (mkF m 430 #[.val (.int p1), .val (.int p2), .val (.int p3), .val (.int p4), .val (.int db0), .val (.int db1), .val (.int db2), .val (.int db3), .val (.int dt), .val (.int dc), .val (.int ppp), .val (.int frm), .val (.int len), .val (.int too), .val (.ref b30), .val (.long act), .second, .unset, .unset, .val (.long vv4), .second, .val (.int kk), .val (.int (1 : Int32)), .val (.int (kk - (1 : Int32))), .unset, .unset, .unset, .unset, .unset, .unset] [(.int (48 : Int32)), (.int dt)])) _
              refine XS.isub X199.here hx rfl (hb hby at_430) rfl ?_
              show Steps p.tables e below (T199.setTop (mkF m 431 #[.val (.int p1), .val (.int p2), .val (.int p3), .val (.int p4), .val (.int db0), .val (.int db1), .val (.int db2), .val (.int db3), .val (.int dt), .val (.int dc), .val (.int ppp), .val (.int frm), .val (.int len), .val (.int too), .val (.ref b30), .val (.long act), .second, .unset, .unset, .val (.long vv4), .second, .val (.int kk), .val (.int (1 : Int32)), .val (.int (kk - (1 : Int32))), .unset, .unset, .unset, .unset, .unset, .unset] [(.int (dt - (48 : Int32)))])) _
              refine XS.i2l X199.here hx rfl (hb hby at_431) rfl ?_
              show Steps p.tables e below (T199.setTop (mkF m 432 #[.val (.int p1), .val (.int p2), .val (.int p3), .val (.int p4), .val (.int db0), .val (.int db1), .val (.int db2), .val (.int db3), .val (.int dt), .val (.int dc), .val (.int ppp), .val (.int frm), .val (.int len), .val (.int too), .val (.ref b30), .val (.long act), .second, .unset, .unset, .val (.long vv4), .second, .val (.int kk), .val (.int (1 : Int32)), .val (.int (kk - (1 : Int32))), .unset, .unset, .unset, .unset, .unset, .unset] [(.long ((dt - (48 : Int32)).toInt64))])) _
              refine XS.lstore X199.here hx rfl (hb hby at_432) rfl (l' := #[.val (.int p1), .val (.int p2), .val (.int p3), .val (.int p4), .val (.int db0), .val (.int db1), .val (.int db2), .val (.int db3), .val (.int dt), .val (.int dc), .val (.int ppp), .val (.int frm), .val (.int len), .val (.int too), .val (.ref b30), .val (.long act), .second, .unset, .unset, .val (.long vv4), .second, .val (.int kk), .val (.int (1 : Int32)), .val (.int (kk - (1 : Int32))), .val (.long ((dt - (48 : Int32)).toInt64)), .second, .unset, .unset, .unset, .unset]) rfl ?_
              show Steps p.tables e below (T199.setTop (mkF m 434 #[.val (.int p1), .val (.int p2), .val (.int p3), .val (.int p4), .val (.int db0), .val (.int db1), .val (.int db2), .val (.int db3), .val (.int dt), .val (.int dc), .val (.int ppp), .val (.int frm), .val (.int len), .val (.int too), .val (.ref b30), .val (.long act), .second, .unset, .unset, .val (.long vv4), .second, .val (.int kk), .val (.int (1 : Int32)), .val (.int (kk - (1 : Int32))), .val (.long ((dt - (48 : Int32)).toInt64)), .second, .unset, .unset, .unset, .unset] [])) _
              refine XS.iload X199.here hx rfl (hb hby at_434) rfl ?_
              show Steps p.tables e below (T199.setTop (mkF m 436 #[.val (.int p1), .val (.int p2), .val (.int p3), .val (.int p4), .val (.int db0), .val (.int db1), .val (.int db2), .val (.int db3), .val (.int dt), .val (.int dc), .val (.int ppp), .val (.int frm), .val (.int len), .val (.int too), .val (.ref b30), .val (.long act), .second, .unset, .unset, .val (.long vv4), .second, .val (.int kk), .val (.int (1 : Int32)), .val (.int (kk - (1 : Int32))), .val (.long ((dt - (48 : Int32)).toInt64)), .second, .unset, .unset, .unset, .unset] [(.int dc)])) _
              refine XS.bipush X199.here hx rfl (hb hby at_436) ?_
              show Steps p.tables e below (T199.setTop (mkF m 438 #[.val (.int p1), .val (.int p2), .val (.int p3), .val (.int p4), .val (.int db0), .val (.int db1), .val (.int db2), .val (.int db3), .val (.int dt), .val (.int dc), .val (.int ppp), .val (.int frm), .val (.int len), .val (.int too), .val (.ref b30), .val (.long act), .second, .unset, .unset, .val (.long vv4), .second, .val (.int kk), .val (.int (1 : Int32)), .val (.int (kk - (1 : Int32))), .val (.long ((dt - (48 : Int32)).toInt64)), .second, .unset, .unset, .unset, .unset] [(.int (48 : Int32)), (.int dc)])) _
              refine XS.isub X199.here hx rfl (hb hby at_438) rfl ?_
              show Steps p.tables e below (T199.setTop (mkF m 439 #[.val (.int p1), .val (.int p2), .val (.int p3), .val (.int p4), .val (.int db0), .val (.int db1), .val (.int db2), .val (.int db3), .val (.int dt), .val (.int dc), .val (.int ppp), .val (.int frm), .val (.int len), .val (.int too), .val (.ref b30), .val (.long act), .second, .unset, .unset, .val (.long vv4), .second, .val (.int kk), .val (.int (1 : Int32)), .val (.int (kk - (1 : Int32))), .val (.long ((dt - (48 : Int32)).toInt64)), .second, .unset, .unset, .unset, .unset] [(.int (dc - (48 : Int32)))])) _
              refine XS.i2l X199.here hx rfl (hb hby at_439) rfl ?_
              show Steps p.tables e below (T199.setTop (mkF m 440 #[.val (.int p1), .val (.int p2), .val (.int p3), .val (.int p4), .val (.int db0), .val (.int db1), .val (.int db2), .val (.int db3), .val (.int dt), .val (.int dc), .val (.int ppp), .val (.int frm), .val (.int len), .val (.int too), .val (.ref b30), .val (.long act), .second, .unset, .unset, .val (.long vv4), .second, .val (.int kk), .val (.int (1 : Int32)), .val (.int (kk - (1 : Int32))), .val (.long ((dt - (48 : Int32)).toInt64)), .second, .unset, .unset, .unset, .unset] [(.long ((dc - (48 : Int32)).toInt64))])) _
              refine XS.lstore X199.here hx rfl (hb hby at_440) rfl (l' := #[.val (.int p1), .val (.int p2), .val (.int p3), .val (.int p4), .val (.int db0), .val (.int db1), .val (.int db2), .val (.int db3), .val (.int dt), .val (.int dc), .val (.int ppp), .val (.int frm), .val (.int len), .val (.int too), .val (.ref b30), .val (.long act), .second, .unset, .unset, .val (.long vv4), .second, .val (.int kk), .val (.int (1 : Int32)), .val (.int (kk - (1 : Int32))), .val (.long ((dt - (48 : Int32)).toInt64)), .second, .val (.long ((dc - (48 : Int32)).toInt64)), .second, .unset, .unset]) rfl ?_
              show Steps p.tables e below (T199.setTop (mkF m 442 #[.val (.int p1), .val (.int p2), .val (.int p3), .val (.int p4), .val (.int db0), .val (.int db1), .val (.int db2), .val (.int db3), .val (.int dt), .val (.int dc), .val (.int ppp), .val (.int frm), .val (.int len), .val (.int too), .val (.ref b30), .val (.long act), .second, .unset, .unset, .val (.long vv4), .second, .val (.int kk), .val (.int (1 : Int32)), .val (.int (kk - (1 : Int32))), .val (.long ((dt - (48 : Int32)).toInt64)), .second, .val (.long ((dc - (48 : Int32)).toInt64)), .second, .unset, .unset] [])) _
              refine XS.iload X199.here hx rfl (hb hby at_442) rfl ?_
              show Steps p.tables e below (T199.setTop (mkF m 444 #[.val (.int p1), .val (.int p2), .val (.int p3), .val (.int p4), .val (.int db0), .val (.int db1), .val (.int db2), .val (.int db3), .val (.int dt), .val (.int dc), .val (.int ppp), .val (.int frm), .val (.int len), .val (.int too), .val (.ref b30), .val (.long act), .second, .unset, .unset, .val (.long vv4), .second, .val (.int kk), .val (.int (1 : Int32)), .val (.int (kk - (1 : Int32))), .val (.long ((dt - (48 : Int32)).toInt64)), .second, .val (.long ((dc - (48 : Int32)).toInt64)), .second, .unset, .unset] [(.int kk)])) _
              exact kt
            obtain ⟨_, _, ⟨T203, L203, k203, n203⟩, -, X203, ⟨Lc203, hQ203, l203, y203, z203⟩, st203⟩ := Jvm.LawKit.callS X199 hx (y := (⟨"com/example/entgelt/entgelt/io/FieldFormsDigitsPinLaw", "pow10", "(I)J"⟩ : MethodName)) hown (mvT hZ (hw _ (mgE 15 rfl))) (mvT hZ (hw _ (mgE 16 rfl))) (mvT hZ (hw _ (mgE 2 rfl))) (mvT hZ (hw _ (mgE 17 rfl))) (by decide) (backOf (W := 0) (rm4 l Z a0 hw [] kk h134 n0 Z134 (own_k19 too kk (own_t0 frm len too hfrm hlen htoo) h_kk)) hZ (hw _ (mgE 17 rfl)) (hw _ (mgE 2 rfl)) (by decide) (by decide)) (g := (mkF m 444 #[.val (.int p1), .val (.int p2), .val (.int p3), .val (.int p4), .val (.int db0), .val (.int db1), .val (.int db2), .val (.int db3), .val (.int dt), .val (.int dc), .val (.int ppp), .val (.int frm), .val (.int len), .val (.int too), .val (.ref b30), .val (.long act), .second, .unset, .unset, .val (.long vv4), .second, .val (.int kk), .val (.int (1 : Int32)), .val (.int (kk - (1 : Int32))), .val (.long ((dt - (48 : Int32)).toInt64)), .second, .val (.long ((dc - (48 : Int32)).toInt64)), .second, .unset, .unset] [(.int kk)])) rfl (by rw [hml]; rfl) (argsL := [(.int kk)]) (rest := []) (lenOf pd__I_J rfl) rfl (by show 2 * 0 + _ ≤ _; exact Nat.le_of_eq rfl) (hb hby at_444) (fun _ _ => ⟨rfl, e199, (by decide : 1 + 1 ≤ _), (by decide : 20 + 19 ≤ _)⟩)
            dsimp only [Pt.U, Pt.locs, Pt.cells, Pt.slots] at X203 l203 y203 z203 st203 hQ203
            have ly203 := l203.symm; subst ly203 y203 z203
            obtain ⟨rfl, N203q, K203⟩ := hQ203
            have Z203 : n0 ≤ T203.heap.size := Nat.le_trans Z134 K203.1
            have pre205 : ∀ t, Steps p.tables e below (T203.setTop (mkF m 447 #[.val (.int p1), .val (.int p2), .val (.int p3), .val (.int p4), .val (.int db0), .val (.int db1), .val (.int db2), .val (.int db3), .val (.int dt), .val (.int dc), .val (.int ppp), .val (.int frm), .val (.int len), .val (.int too), .val (.ref b30), .val (.long act), .second, .unset, .unset, .val (.long vv4), .second, .val (.int kk), .val (.int (1 : Int32)), .val (.int (kk - (1 : Int32))), .val (.long ((dt - (48 : Int32)).toInt64)), .second, .val (.long ((dc - (48 : Int32)).toInt64)), .second, .unset, .unset] [(.long (p10 kk))])) t → Steps p.tables e below (s₁.setTop (entryFrame m #[(.int p1), (.int p2), (.int p3), (.int p4)] maxLocals)) t := fun t kt => pre202 t (st203 t kt)
            have N203 := Fr.app N199 N203q
            have pre206 : ∀ t, Steps p.tables e below (T203.setTop (mkF m 449 #[.val (.int p1), .val (.int p2), .val (.int p3), .val (.int p4), .val (.int db0), .val (.int db1), .val (.int db2), .val (.int db3), .val (.int dt), .val (.int dc), .val (.int ppp), .val (.int frm), .val (.int len), .val (.int too), .val (.ref b30), .val (.long act), .second, .unset, .unset, .val (.long vv4), .second, .val (.int kk), .val (.int (1 : Int32)), .val (.int (kk - (1 : Int32))), .val (.long ((dt - (48 : Int32)).toInt64)), .second, .val (.long ((dc - (48 : Int32)).toInt64)), .second, .val (.long (p10 kk)), .second] [])) t → Steps p.tables e below (s₁.setTop (entryFrame m #[(.int p1), (.int p2), (.int p3), (.int p4)] maxLocals)) t := fun t kt => by
              refine pre205 t ?_
              refine XS.lstore X203.here hx rfl (hb hby at_447) rfl (l' := #[.val (.int p1), .val (.int p2), .val (.int p3), .val (.int p4), .val (.int db0), .val (.int db1), .val (.int db2), .val (.int db3), .val (.int dt), .val (.int dc), .val (.int ppp), .val (.int frm), .val (.int len), .val (.int too), .val (.ref b30), .val (.long act), .second, .unset, .unset, .val (.long vv4), .second, .val (.int kk), .val (.int (1 : Int32)), .val (.int (kk - (1 : Int32))), .val (.long ((dt - (48 : Int32)).toInt64)), .second, .val (.long ((dc - (48 : Int32)).toInt64)), .second, .val (.long (p10 kk)), .second]) rfl ?_
              show Steps p.tables e below (T203.setTop (mkF m 449 #[.val (.int p1), .val (.int p2), .val (.int p3), .val (.int p4), .val (.int db0), .val (.int db1), .val (.int db2), .val (.int db3), .val (.int dt), .val (.int dc), .val (.int ppp), .val (.int frm), .val (.int len), .val (.int too), .val (.ref b30), .val (.long act), .second, .unset, .unset, .val (.long vv4), .second, .val (.int kk), .val (.int (1 : Int32)), .val (.int (kk - (1 : Int32))), .val (.long ((dt - (48 : Int32)).toInt64)), .second, .val (.long ((dc - (48 : Int32)).toInt64)), .second, .val (.long (p10 kk)), .second] [])) _
              exact kt
            obtain ⟨pk, h_pk⟩ : ∃ z, z = (p10 kk) := ⟨_, rfl⟩
            rw [← h_pk] at pre206
            have pre207 : ∀ t, Steps p.tables e below (T203.setTop (mkF m 483 #[.val (.int p1), .val (.int p2), .val (.int p3), .val (.int p4), .val (.int db0), .val (.int db1), .val (.int db2), .val (.int db3), .val (.int dt), .val (.int dc), .val (.int ppp), .val (.int frm), .val (.int len), .val (.int too), .val (.ref b30), .val (.long act), .second, .unset, .unset, .val (.long vv4), .second, .val (.int kk), .val (.int (1 : Int32)), .val (.int (kk - (1 : Int32))), .val (.long ((dt - (48 : Int32)).toInt64)), .second, .val (.long ((dc - (48 : Int32)).toInt64)), .second, .val (.long pk), .second] [(.int ((too - (1 : Int32)) - ppp)), (.long (((dc - (48 : Int32)).toInt64) - ((dt - (48 : Int32)).toInt64))), (.long ((vv4 * pk) + (((dt - (48 : Int32)).toInt64) * ((pk - (1 : Int64)) / (9 : Int64)))))])) t → Steps p.tables e below (s₁.setTop (entryFrame m #[(.int p1), (.int p2), (.int p3), (.int p4)] maxLocals)) t := fun t kt => by
              refine pre206 t ?_
              refine XS.lload X203.here hx rfl (hb hby at_449) rfl ?_
              show Steps p.tables e below (T203.setTop (mkF m 451 #[.val (.int p1), .val (.int p2), .val (.int p3), .val (.int p4), .val (.int db0), .val (.int db1), .val (.int db2), .val (.int db3), .val (.int dt), .val (.int dc), .val (.int ppp), .val (.int frm), .val (.int len), .val (.int too), .val (.ref b30), .val (.long act), .second, .unset, .unset, .val (.long vv4), .second, .val (.int kk), .val (.int (1 : Int32)), .val (.int (kk - (1 : Int32))), .val (.long ((dt - (48 : Int32)).toInt64)), .second, .val (.long ((dc - (48 : Int32)).toInt64)), .second, .val (.long pk), .second] [(.long vv4)])) _
              refine XS.lload X203.here hx rfl (hb hby at_451) rfl ?_
              show Steps p.tables e below (T203.setTop (mkF m 453 #[.val (.int p1), .val (.int p2), .val (.int p3), .val (.int p4), .val (.int db0), .val (.int db1), .val (.int db2), .val (.int db3), .val (.int dt), .val (.int dc), .val (.int ppp), .val (.int frm), .val (.int len), .val (.int too), .val (.ref b30), .val (.long act), .second, .unset, .unset, .val (.long vv4), .second, .val (.int kk), .val (.int (1 : Int32)), .val (.int (kk - (1 : Int32))), .val (.long ((dt - (48 : Int32)).toInt64)), .second, .val (.long ((dc - (48 : Int32)).toInt64)), .second, .val (.long pk), .second] [(.long pk), (.long vv4)])) _
              refine XS.lmul X203.here hx rfl (hb hby at_453) rfl ?_
              show Steps p.tables e below (T203.setTop (mkF m 454 #[.val (.int p1), .val (.int p2), .val (.int p3), .val (.int p4), .val (.int db0), .val (.int db1), .val (.int db2), .val (.int db3), .val (.int dt), .val (.int dc), .val (.int ppp), .val (.int frm), .val (.int len), .val (.int too), .val (.ref b30), .val (.long act), .second, .unset, .unset, .val (.long vv4), .second, .val (.int kk), .val (.int (1 : Int32)), .val (.int (kk - (1 : Int32))), .val (.long ((dt - (48 : Int32)).toInt64)), .second, .val (.long ((dc - (48 : Int32)).toInt64)), .second, .val (.long pk), .second] [(.long (vv4 * pk))])) _
              refine XS.lload X203.here hx rfl (hb hby at_454) rfl ?_
              show Steps p.tables e below (T203.setTop (mkF m 456 #[.val (.int p1), .val (.int p2), .val (.int p3), .val (.int p4), .val (.int db0), .val (.int db1), .val (.int db2), .val (.int db3), .val (.int dt), .val (.int dc), .val (.int ppp), .val (.int frm), .val (.int len), .val (.int too), .val (.ref b30), .val (.long act), .second, .unset, .unset, .val (.long vv4), .second, .val (.int kk), .val (.int (1 : Int32)), .val (.int (kk - (1 : Int32))), .val (.long ((dt - (48 : Int32)).toInt64)), .second, .val (.long ((dc - (48 : Int32)).toInt64)), .second, .val (.long pk), .second] [(.long ((dt - (48 : Int32)).toInt64)), (.long (vv4 * pk))])) _
              refine XS.lload X203.here hx rfl (hb hby at_456) rfl ?_
              show Steps p.tables e below (T203.setTop (mkF m 458 #[.val (.int p1), .val (.int p2), .val (.int p3), .val (.int p4), .val (.int db0), .val (.int db1), .val (.int db2), .val (.int db3), .val (.int dt), .val (.int dc), .val (.int ppp), .val (.int frm), .val (.int len), .val (.int too), .val (.ref b30), .val (.long act), .second, .unset, .unset, .val (.long vv4), .second, .val (.int kk), .val (.int (1 : Int32)), .val (.int (kk - (1 : Int32))), .val (.long ((dt - (48 : Int32)).toInt64)), .second, .val (.long ((dc - (48 : Int32)).toInt64)), .second, .val (.long pk), .second] [(.long pk), (.long ((dt - (48 : Int32)).toInt64)), (.long (vv4 * pk))])) _
              refine XS.lconst X203.here hx rfl (hb hby at_458) ?_
              show Steps p.tables e below (T203.setTop (mkF m 459 #[.val (.int p1), .val (.int p2), .val (.int p3), .val (.int p4), .val (.int db0), .val (.int db1), .val (.int db2), .val (.int db3), .val (.int dt), .val (.int dc), .val (.int ppp), .val (.int frm), .val (.int len), .val (.int too), .val (.ref b30), .val (.long act), .second, .unset, .unset, .val (.long vv4), .second, .val (.int kk), .val (.int (1 : Int32)), .val (.int (kk - (1 : Int32))), .val (.long ((dt - (48 : Int32)).toInt64)), .second, .val (.long ((dc - (48 : Int32)).toInt64)), .second, .val (.long pk), .second] [(.long (1 : Int64)), (.long pk), (.long ((dt - (48 : Int32)).toInt64)), (.long (vv4 * pk))])) _
              refine XS.lsub X203.here hx rfl (hb hby at_459) rfl ?_
              show Steps p.tables e below (T203.setTop (mkF m 460 #[.val (.int p1), .val (.int p2), .val (.int p3), .val (.int p4), .val (.int db0), .val (.int db1), .val (.int db2), .val (.int db3), .val (.int dt), .val (.int dc), .val (.int ppp), .val (.int frm), .val (.int len), .val (.int too), .val (.ref b30), .val (.long act), .second, .unset, .unset, .val (.long vv4), .second, .val (.int kk), .val (.int (1 : Int32)), .val (.int (kk - (1 : Int32))), .val (.long ((dt - (48 : Int32)).toInt64)), .second, .val (.long ((dc - (48 : Int32)).toInt64)), .second, .val (.long pk), .second] [(.long (pk - (1 : Int64))), (.long ((dt - (48 : Int32)).toInt64)), (.long (vv4 * pk))])) _
              refine X203.ldc2Long hx hown (mvT hZ (hw _ (mgE 37 rfl))) (g := (mkF m 460 #[.val (.int p1), .val (.int p2), .val (.int p3), .val (.int p4), .val (.int db0), .val (.int db1), .val (.int db2), .val (.int db3), .val (.int dt), .val (.int dc), .val (.int ppp), .val (.int frm), .val (.int len), .val (.int too), .val (.ref b30), .val (.long act), .second, .unset, .unset, .val (.long vv4), .second, .val (.int kk), .val (.int (1 : Int32)), .val (.int (kk - (1 : Int32))), .val (.long ((dt - (48 : Int32)).toInt64)), .second, .val (.long ((dc - (48 : Int32)).toInt64)), .second, .val (.long pk), .second] [(.long (pk - (1 : Int64))), (.long ((dt - (48 : Int32)).toInt64)), (.long (vv4 * pk))])) rfl (hb hby at_460) _ ?_
              show Steps p.tables e below (T203.setTop (mkF m 463 #[.val (.int p1), .val (.int p2), .val (.int p3), .val (.int p4), .val (.int db0), .val (.int db1), .val (.int db2), .val (.int db3), .val (.int dt), .val (.int dc), .val (.int ppp), .val (.int frm), .val (.int len), .val (.int too), .val (.ref b30), .val (.long act), .second, .unset, .unset, .val (.long vv4), .second, .val (.int kk), .val (.int (1 : Int32)), .val (.int (kk - (1 : Int32))), .val (.long ((dt - (48 : Int32)).toInt64)), .second, .val (.long ((dc - (48 : Int32)).toInt64)), .second, .val (.long pk), .second] [(.long (9 : Int64)), (.long (pk - (1 : Int64))), (.long ((dt - (48 : Int32)).toInt64)), (.long (vv4 * pk))])) _
              have hnz463 : ¬ ((9 : Int64) = (0 : Int64)) := by decide
              refine XS.ldiv X203.here hx rfl (hb hby at_463) rfl hnz463 ?_
              show Steps p.tables e below (T203.setTop (mkF m 464 #[.val (.int p1), .val (.int p2), .val (.int p3), .val (.int p4), .val (.int db0), .val (.int db1), .val (.int db2), .val (.int db3), .val (.int dt), .val (.int dc), .val (.int ppp), .val (.int frm), .val (.int len), .val (.int too), .val (.ref b30), .val (.long act), .second, .unset, .unset, .val (.long vv4), .second, .val (.int kk), .val (.int (1 : Int32)), .val (.int (kk - (1 : Int32))), .val (.long ((dt - (48 : Int32)).toInt64)), .second, .val (.long ((dc - (48 : Int32)).toInt64)), .second, .val (.long pk), .second] [(.long ((pk - (1 : Int64)) / (9 : Int64))), (.long ((dt - (48 : Int32)).toInt64)), (.long (vv4 * pk))])) _
              refine XS.lmul X203.here hx rfl (hb hby at_464) rfl ?_
              show Steps p.tables e below (T203.setTop (mkF m 465 #[.val (.int p1), .val (.int p2), .val (.int p3), .val (.int p4), .val (.int db0), .val (.int db1), .val (.int db2), .val (.int db3), .val (.int dt), .val (.int dc), .val (.int ppp), .val (.int frm), .val (.int len), .val (.int too), .val (.ref b30), .val (.long act), .second, .unset, .unset, .val (.long vv4), .second, .val (.int kk), .val (.int (1 : Int32)), .val (.int (kk - (1 : Int32))), .val (.long ((dt - (48 : Int32)).toInt64)), .second, .val (.long ((dc - (48 : Int32)).toInt64)), .second, .val (.long pk), .second] [(.long (((dt - (48 : Int32)).toInt64) * ((pk - (1 : Int64)) / (9 : Int64)))), (.long (vv4 * pk))])) _
              refine XS.ladd X203.here hx rfl (hb hby at_465) rfl ?_
              show Steps p.tables e below (T203.setTop (mkF m 466 #[.val (.int p1), .val (.int p2), .val (.int p3), .val (.int p4), .val (.int db0), .val (.int db1), .val (.int db2), .val (.int db3), .val (.int dt), .val (.int dc), .val (.int ppp), .val (.int frm), .val (.int len), .val (.int too), .val (.ref b30), .val (.long act), .second, .unset, .unset, .val (.long vv4), .second, .val (.int kk), .val (.int (1 : Int32)), .val (.int (kk - (1 : Int32))), .val (.long ((dt - (48 : Int32)).toInt64)), .second, .val (.long ((dc - (48 : Int32)).toInt64)), .second, .val (.long pk), .second] [(.long ((vv4 * pk) + (((dt - (48 : Int32)).toInt64) * ((pk - (1 : Int64)) / (9 : Int64)))))])) _
              refine XS.iload X203.here hx rfl (hb hby at_466) rfl ?_
              show Steps p.tables e below (T203.setTop (mkF m 468 #[.val (.int p1), .val (.int p2), .val (.int p3), .val (.int p4), .val (.int db0), .val (.int db1), .val (.int db2), .val (.int db3), .val (.int dt), .val (.int dc), .val (.int ppp), .val (.int frm), .val (.int len), .val (.int too), .val (.ref b30), .val (.long act), .second, .unset, .unset, .val (.long vv4), .second, .val (.int kk), .val (.int (1 : Int32)), .val (.int (kk - (1 : Int32))), .val (.long ((dt - (48 : Int32)).toInt64)), .second, .val (.long ((dc - (48 : Int32)).toInt64)), .second, .val (.long pk), .second] [(.int (1 : Int32)), (.long ((vv4 * pk) + (((dt - (48 : Int32)).toInt64) * ((pk - (1 : Int64)) / (9 : Int64)))))])) _
              refine XS.ifNo X203.here hx rfl (hb hby at_468) rfl ((if0 _ _).trans (feq (by decide : ¬ ((1 : Int32) = (0 : Int32)))).1) ?_
              show Steps p.tables e below (T203.setTop (mkF m 471 #[.val (.int p1), .val (.int p2), .val (.int p3), .val (.int p4), .val (.int db0), .val (.int db1), .val (.int db2), .val (.int db3), .val (.int dt), .val (.int dc), .val (.int ppp), .val (.int frm), .val (.int len), .val (.int too), .val (.ref b30), .val (.long act), .second, .unset, .unset, .val (.long vv4), .second, .val (.int kk), .val (.int (1 : Int32)), .val (.int (kk - (1 : Int32))), .val (.long ((dt - (48 : Int32)).toInt64)), .second, .val (.long ((dc - (48 : Int32)).toInt64)), .second, .val (.long pk), .second] [(.long ((vv4 * pk) + (((dt - (48 : Int32)).toInt64) * ((pk - (1 : Int64)) / (9 : Int64)))))])) _
              refine XS.lload X203.here hx rfl (hb hby at_471) rfl ?_
              show Steps p.tables e below (T203.setTop (mkF m 473 #[.val (.int p1), .val (.int p2), .val (.int p3), .val (.int p4), .val (.int db0), .val (.int db1), .val (.int db2), .val (.int db3), .val (.int dt), .val (.int dc), .val (.int ppp), .val (.int frm), .val (.int len), .val (.int too), .val (.ref b30), .val (.long act), .second, .unset, .unset, .val (.long vv4), .second, .val (.int kk), .val (.int (1 : Int32)), .val (.int (kk - (1 : Int32))), .val (.long ((dt - (48 : Int32)).toInt64)), .second, .val (.long ((dc - (48 : Int32)).toInt64)), .second, .val (.long pk), .second] [(.long ((dc - (48 : Int32)).toInt64)), (.long ((vv4 * pk) + (((dt - (48 : Int32)).toInt64) * ((pk - (1 : Int64)) / (9 : Int64)))))])) _
              refine XS.lload X203.here hx rfl (hb hby at_473) rfl ?_
              show Steps p.tables e below (T203.setTop (mkF m 475 #[.val (.int p1), .val (.int p2), .val (.int p3), .val (.int p4), .val (.int db0), .val (.int db1), .val (.int db2), .val (.int db3), .val (.int dt), .val (.int dc), .val (.int ppp), .val (.int frm), .val (.int len), .val (.int too), .val (.ref b30), .val (.long act), .second, .unset, .unset, .val (.long vv4), .second, .val (.int kk), .val (.int (1 : Int32)), .val (.int (kk - (1 : Int32))), .val (.long ((dt - (48 : Int32)).toInt64)), .second, .val (.long ((dc - (48 : Int32)).toInt64)), .second, .val (.long pk), .second] [(.long ((dt - (48 : Int32)).toInt64)), (.long ((dc - (48 : Int32)).toInt64)), (.long ((vv4 * pk) + (((dt - (48 : Int32)).toInt64) * ((pk - (1 : Int64)) / (9 : Int64)))))])) _
              refine XS.lsub X203.here hx rfl (hb hby at_475) rfl ?_
              show Steps p.tables e below (T203.setTop (mkF m 476 #[.val (.int p1), .val (.int p2), .val (.int p3), .val (.int p4), .val (.int db0), .val (.int db1), .val (.int db2), .val (.int db3), .val (.int dt), .val (.int dc), .val (.int ppp), .val (.int frm), .val (.int len), .val (.int too), .val (.ref b30), .val (.long act), .second, .unset, .unset, .val (.long vv4), .second, .val (.int kk), .val (.int (1 : Int32)), .val (.int (kk - (1 : Int32))), .val (.long ((dt - (48 : Int32)).toInt64)), .second, .val (.long ((dc - (48 : Int32)).toInt64)), .second, .val (.long pk), .second] [(.long (((dc - (48 : Int32)).toInt64) - ((dt - (48 : Int32)).toInt64))), (.long ((vv4 * pk) + (((dt - (48 : Int32)).toInt64) * ((pk - (1 : Int64)) / (9 : Int64)))))])) _
              refine XS.iload X203.here hx rfl (hb hby at_476) rfl ?_
              show Steps p.tables e below (T203.setTop (mkF m 478 #[.val (.int p1), .val (.int p2), .val (.int p3), .val (.int p4), .val (.int db0), .val (.int db1), .val (.int db2), .val (.int db3), .val (.int dt), .val (.int dc), .val (.int ppp), .val (.int frm), .val (.int len), .val (.int too), .val (.ref b30), .val (.long act), .second, .unset, .unset, .val (.long vv4), .second, .val (.int kk), .val (.int (1 : Int32)), .val (.int (kk - (1 : Int32))), .val (.long ((dt - (48 : Int32)).toInt64)), .second, .val (.long ((dc - (48 : Int32)).toInt64)), .second, .val (.long pk), .second] [(.int too), (.long (((dc - (48 : Int32)).toInt64) - ((dt - (48 : Int32)).toInt64))), (.long ((vv4 * pk) + (((dt - (48 : Int32)).toInt64) * ((pk - (1 : Int64)) / (9 : Int64)))))])) _
              refine XS.iconst X203.here hx rfl (hb hby at_478) ?_
              show Steps p.tables e below (T203.setTop (mkF m 479 #[.val (.int p1), .val (.int p2), .val (.int p3), .val (.int p4), .val (.int db0), .val (.int db1), .val (.int db2), .val (.int db3), .val (.int dt), .val (.int dc), .val (.int ppp), .val (.int frm), .val (.int len), .val (.int too), .val (.ref b30), .val (.long act), .second, .unset, .unset, .val (.long vv4), .second, .val (.int kk), .val (.int (1 : Int32)), .val (.int (kk - (1 : Int32))), .val (.long ((dt - (48 : Int32)).toInt64)), .second, .val (.long ((dc - (48 : Int32)).toInt64)), .second, .val (.long pk), .second] [(.int (1 : Int32)), (.int too), (.long (((dc - (48 : Int32)).toInt64) - ((dt - (48 : Int32)).toInt64))), (.long ((vv4 * pk) + (((dt - (48 : Int32)).toInt64) * ((pk - (1 : Int64)) / (9 : Int64)))))])) _
              refine XS.isub X203.here hx rfl (hb hby at_479) rfl ?_
              show Steps p.tables e below (T203.setTop (mkF m 480 #[.val (.int p1), .val (.int p2), .val (.int p3), .val (.int p4), .val (.int db0), .val (.int db1), .val (.int db2), .val (.int db3), .val (.int dt), .val (.int dc), .val (.int ppp), .val (.int frm), .val (.int len), .val (.int too), .val (.ref b30), .val (.long act), .second, .unset, .unset, .val (.long vv4), .second, .val (.int kk), .val (.int (1 : Int32)), .val (.int (kk - (1 : Int32))), .val (.long ((dt - (48 : Int32)).toInt64)), .second, .val (.long ((dc - (48 : Int32)).toInt64)), .second, .val (.long pk), .second] [(.int (too - (1 : Int32))), (.long (((dc - (48 : Int32)).toInt64) - ((dt - (48 : Int32)).toInt64))), (.long ((vv4 * pk) + (((dt - (48 : Int32)).toInt64) * ((pk - (1 : Int64)) / (9 : Int64)))))])) _
              refine XS.iload X203.here hx rfl (hb hby at_480) rfl ?_
              show Steps p.tables e below (T203.setTop (mkF m 482 #[.val (.int p1), .val (.int p2), .val (.int p3), .val (.int p4), .val (.int db0), .val (.int db1), .val (.int db2), .val (.int db3), .val (.int dt), .val (.int dc), .val (.int ppp), .val (.int frm), .val (.int len), .val (.int too), .val (.ref b30), .val (.long act), .second, .unset, .unset, .val (.long vv4), .second, .val (.int kk), .val (.int (1 : Int32)), .val (.int (kk - (1 : Int32))), .val (.long ((dt - (48 : Int32)).toInt64)), .second, .val (.long ((dc - (48 : Int32)).toInt64)), .second, .val (.long pk), .second] [(.int ppp), (.int (too - (1 : Int32))), (.long (((dc - (48 : Int32)).toInt64) - ((dt - (48 : Int32)).toInt64))), (.long ((vv4 * pk) + (((dt - (48 : Int32)).toInt64) * ((pk - (1 : Int64)) / (9 : Int64)))))])) _
              refine XS.isub X203.here hx rfl (hb hby at_482) rfl ?_
              show Steps p.tables e below (T203.setTop (mkF m 483 #[.val (.int p1), .val (.int p2), .val (.int p3), .val (.int p4), .val (.int db0), .val (.int db1), .val (.int db2), .val (.int db3), .val (.int dt), .val (.int dc), .val (.int ppp), .val (.int frm), .val (.int len), .val (.int too), .val (.ref b30), .val (.long act), .second, .unset, .unset, .val (.long vv4), .second, .val (.int kk), .val (.int (1 : Int32)), .val (.int (kk - (1 : Int32))), .val (.long ((dt - (48 : Int32)).toInt64)), .second, .val (.long ((dc - (48 : Int32)).toInt64)), .second, .val (.long pk), .second] [(.int ((too - (1 : Int32)) - ppp)), (.long (((dc - (48 : Int32)).toInt64) - ((dt - (48 : Int32)).toInt64))), (.long ((vv4 * pk) + (((dt - (48 : Int32)).toInt64) * ((pk - (1 : Int64)) / (9 : Int64)))))])) _
              exact kt
            obtain ⟨_, _, ⟨T208, L208, k208, n208⟩, -, X208, ⟨Lc208, hQ208, l208, y208, z208⟩, st208⟩ := Jvm.LawKit.callS X203 hx (y := (⟨"com/example/entgelt/entgelt/io/FieldFormsDigitsPinLaw", "pow10", "(I)J"⟩ : MethodName)) hown (mvT hZ (hw _ (mgE 15 rfl))) (mvT hZ (hw _ (mgE 16 rfl))) (mvT hZ (hw _ (mgE 2 rfl))) (mvT hZ (hw _ (mgE 17 rfl))) (by decide) (backOf (W := 4) (rm4 l Z a0 hw [] ((too - (1 : Int32)) - ppp) T203.heap n0 Z203 (own_e19 ppp too hpp htoo.2 hc359)) hZ (hw _ (mgE 17 rfl)) (hw _ (mgE 2 rfl)) (by decide) (by decide)) (g := (mkF m 483 #[.val (.int p1), .val (.int p2), .val (.int p3), .val (.int p4), .val (.int db0), .val (.int db1), .val (.int db2), .val (.int db3), .val (.int dt), .val (.int dc), .val (.int ppp), .val (.int frm), .val (.int len), .val (.int too), .val (.ref b30), .val (.long act), .second, .unset, .unset, .val (.long vv4), .second, .val (.int kk), .val (.int (1 : Int32)), .val (.int (kk - (1 : Int32))), .val (.long ((dt - (48 : Int32)).toInt64)), .second, .val (.long ((dc - (48 : Int32)).toInt64)), .second, .val (.long pk), .second] [(.int ((too - (1 : Int32)) - ppp)), (.long (((dc - (48 : Int32)).toInt64) - ((dt - (48 : Int32)).toInt64))), (.long ((vv4 * pk) + (((dt - (48 : Int32)).toInt64) * ((pk - (1 : Int64)) / (9 : Int64)))))])) rfl (by rw [hml]; rfl) (argsL := [(.int ((too - (1 : Int32)) - ppp))]) (rest := [(.long (((dc - (48 : Int32)).toInt64) - ((dt - (48 : Int32)).toInt64))), (.long ((vv4 * pk) + (((dt - (48 : Int32)).toInt64) * ((pk - (1 : Int64)) / (9 : Int64)))))]) (lenOf pd__I_J rfl) rfl (by show 2 * 0 + _ ≤ _; exact Nat.le_of_eq rfl) (hb hby at_483) (fun _ _ => ⟨rfl, rfl, (by decide : 2 + 1 ≤ _), (by decide : 39 + 19 ≤ _)⟩)
            dsimp only [Pt.U, Pt.locs, Pt.cells, Pt.slots] at X208 l208 y208 z208 st208 hQ208
            have ly208 := l208.symm; subst ly208 y208 z208
            obtain ⟨rfl, N208q, K208⟩ := hQ208
            have pre210 : ∀ t, Steps p.tables e below (T208.setTop (mkF m 486 #[.val (.int p1), .val (.int p2), .val (.int p3), .val (.int p4), .val (.int db0), .val (.int db1), .val (.int db2), .val (.int db3), .val (.int dt), .val (.int dc), .val (.int ppp), .val (.int frm), .val (.int len), .val (.int too), .val (.ref b30), .val (.long act), .second, .unset, .unset, .val (.long vv4), .second, .val (.int kk), .val (.int (1 : Int32)), .val (.int (kk - (1 : Int32))), .val (.long ((dt - (48 : Int32)).toInt64)), .second, .val (.long ((dc - (48 : Int32)).toInt64)), .second, .val (.long pk), .second] [(.long (p10 ((too - (1 : Int32)) - ppp))), (.long (((dc - (48 : Int32)).toInt64) - ((dt - (48 : Int32)).toInt64))), (.long ((vv4 * pk) + (((dt - (48 : Int32)).toInt64) * ((pk - (1 : Int64)) / (9 : Int64)))))])) t → Steps p.tables e below (s₁.setTop (entryFrame m #[(.int p1), (.int p2), (.int p3), (.int p4)] maxLocals)) t := fun t kt => pre207 t (st208 t kt)
            have N208 := Fr.app N203 N208q
            have hc499 : (lcmpW act (((vv4 * pk) + (((dt - (48 : Int32)).toInt64) * ((pk - (1 : Int64)) / (9 : Int64)))) + ((((dc - (48 : Int32)).toInt64) - ((dt - (48 : Int32)).toInt64)) * (p10 ((too - (1 : Int32)) - ppp))))) = (0 : Int32) := own_good1 txt frm len too ppp db0 db1 db2 db3 dt dc kk act vv1 vv2 vv3 vv4 hIn ⟨h_vv1, h_vv2, h_vv3, h_vv4⟩ hc248 h_kk hc389 pk h_pk hc359 hc415 (fun w => absurd w hc394)
            have pre211 : ∀ t, Steps p.tables e below (T208.setTop (mkF m 507 #[.val (.int p1), .val (.int p2), .val (.int p3), .val (.int p4), .val (.int db0), .val (.int db1), .val (.int db2), .val (.int db3), .val (.int dt), .val (.int dc), .val (.int ppp), .val (.int frm), .val (.int len), .val (.int too), .val (.ref b30), .val (.long act), .second, .val (.long (((vv4 * pk) + (((dt - (48 : Int32)).toInt64) * ((pk - (1 : Int64)) / (9 : Int64)))) + ((((dc - (48 : Int32)).toInt64) - ((dt - (48 : Int32)).toInt64)) * (p10 ((too - (1 : Int32)) - ppp))))), .second, .val (.long vv4), .second, .val (.int kk), .val (.int (1 : Int32)), .val (.int (kk - (1 : Int32))), .val (.long ((dt - (48 : Int32)).toInt64)), .second, .val (.long ((dc - (48 : Int32)).toInt64)), .second, .val (.long pk), .second] [(.int (1 : Int32))])) t → Steps p.tables e below (s₁.setTop (entryFrame m #[(.int p1), (.int p2), (.int p3), (.int p4)] maxLocals)) t := fun t kt => by
              refine pre210 t ?_
              refine XS.lmul X208.here hx rfl (hb hby at_486) rfl ?_
              show Steps p.tables e below (T208.setTop (mkF m 487 #[.val (.int p1), .val (.int p2), .val (.int p3), .val (.int p4), .val (.int db0), .val (.int db1), .val (.int db2), .val (.int db3), .val (.int dt), .val (.int dc), .val (.int ppp), .val (.int frm), .val (.int len), .val (.int too), .val (.ref b30), .val (.long act), .second, .unset, .unset, .val (.long vv4), .second, .val (.int kk), .val (.int (1 : Int32)), .val (.int (kk - (1 : Int32))), .val (.long ((dt - (48 : Int32)).toInt64)), .second, .val (.long ((dc - (48 : Int32)).toInt64)), .second, .val (.long pk), .second] [(.long ((((dc - (48 : Int32)).toInt64) - ((dt - (48 : Int32)).toInt64)) * (p10 ((too - (1 : Int32)) - ppp)))), (.long ((vv4 * pk) + (((dt - (48 : Int32)).toInt64) * ((pk - (1 : Int64)) / (9 : Int64)))))])) _
              refine XS.goto X208.here hx rfl (pc0 := 487) (pc' := 491) rfl (hb hby at_487) (by decide) (by decide) ?_
              show Steps p.tables e below (T208.setTop (mkF m 491 #[.val (.int p1), .val (.int p2), .val (.int p3), .val (.int p4), .val (.int db0), .val (.int db1), .val (.int db2), .val (.int db3), .val (.int dt), .val (.int dc), .val (.int ppp), .val (.int frm), .val (.int len), .val (.int too), .val (.ref b30), .val (.long act), .second, .unset, .unset, .val (.long vv4), .second, .val (.int kk), .val (.int (1 : Int32)), .val (.int (kk - (1 : Int32))), .val (.long ((dt - (48 : Int32)).toInt64)), .second, .val (.long ((dc - (48 : Int32)).toInt64)), .second, .val (.long pk), .second] [(.long ((((dc - (48 : Int32)).toInt64) - ((dt - (48 : Int32)).toInt64)) * (p10 ((too - (1 : Int32)) - ppp)))), (.long ((vv4 * pk) + (((dt - (48 : Int32)).toInt64) * ((pk - (1 : Int64)) / (9 : Int64)))))])) _
              refine XS.ladd X208.here hx rfl (hb hby at_491) rfl ?_
              show Steps p.tables e below (T208.setTop (mkF m 492 #[.val (.int p1), .val (.int p2), .val (.int p3), .val (.int p4), .val (.int db0), .val (.int db1), .val (.int db2), .val (.int db3), .val (.int dt), .val (.int dc), .val (.int ppp), .val (.int frm), .val (.int len), .val (.int too), .val (.ref b30), .val (.long act), .second, .unset, .unset, .val (.long vv4), .second, .val (.int kk), .val (.int (1 : Int32)), .val (.int (kk - (1 : Int32))), .val (.long ((dt - (48 : Int32)).toInt64)), .second, .val (.long ((dc - (48 : Int32)).toInt64)), .second, .val (.long pk), .second] [(.long (((vv4 * pk) + (((dt - (48 : Int32)).toInt64) * ((pk - (1 : Int64)) / (9 : Int64)))) + ((((dc - (48 : Int32)).toInt64) - ((dt - (48 : Int32)).toInt64)) * (p10 ((too - (1 : Int32)) - ppp)))))])) _
              refine XS.lstore X208.here hx rfl (hb hby at_492) rfl (l' := #[.val (.int p1), .val (.int p2), .val (.int p3), .val (.int p4), .val (.int db0), .val (.int db1), .val (.int db2), .val (.int db3), .val (.int dt), .val (.int dc), .val (.int ppp), .val (.int frm), .val (.int len), .val (.int too), .val (.ref b30), .val (.long act), .second, .val (.long (((vv4 * pk) + (((dt - (48 : Int32)).toInt64) * ((pk - (1 : Int64)) / (9 : Int64)))) + ((((dc - (48 : Int32)).toInt64) - ((dt - (48 : Int32)).toInt64)) * (p10 ((too - (1 : Int32)) - ppp))))), .second, .val (.long vv4), .second, .val (.int kk), .val (.int (1 : Int32)), .val (.int (kk - (1 : Int32))), .val (.long ((dt - (48 : Int32)).toInt64)), .second, .val (.long ((dc - (48 : Int32)).toInt64)), .second, .val (.long pk), .second]) rfl ?_
              show Steps p.tables e below (T208.setTop (mkF m 494 #[.val (.int p1), .val (.int p2), .val (.int p3), .val (.int p4), .val (.int db0), .val (.int db1), .val (.int db2), .val (.int db3), .val (.int dt), .val (.int dc), .val (.int ppp), .val (.int frm), .val (.int len), .val (.int too), .val (.ref b30), .val (.long act), .second, .val (.long (((vv4 * pk) + (((dt - (48 : Int32)).toInt64) * ((pk - (1 : Int64)) / (9 : Int64)))) + ((((dc - (48 : Int32)).toInt64) - ((dt - (48 : Int32)).toInt64)) * (p10 ((too - (1 : Int32)) - ppp))))), .second, .val (.long vv4), .second, .val (.int kk), .val (.int (1 : Int32)), .val (.int (kk - (1 : Int32))), .val (.long ((dt - (48 : Int32)).toInt64)), .second, .val (.long ((dc - (48 : Int32)).toInt64)), .second, .val (.long pk), .second] [])) _
              refine XS.lload X208.here hx rfl (hb hby at_494) rfl ?_
              show Steps p.tables e below (T208.setTop (mkF m 496 #[.val (.int p1), .val (.int p2), .val (.int p3), .val (.int p4), .val (.int db0), .val (.int db1), .val (.int db2), .val (.int db3), .val (.int dt), .val (.int dc), .val (.int ppp), .val (.int frm), .val (.int len), .val (.int too), .val (.ref b30), .val (.long act), .second, .val (.long (((vv4 * pk) + (((dt - (48 : Int32)).toInt64) * ((pk - (1 : Int64)) / (9 : Int64)))) + ((((dc - (48 : Int32)).toInt64) - ((dt - (48 : Int32)).toInt64)) * (p10 ((too - (1 : Int32)) - ppp))))), .second, .val (.long vv4), .second, .val (.int kk), .val (.int (1 : Int32)), .val (.int (kk - (1 : Int32))), .val (.long ((dt - (48 : Int32)).toInt64)), .second, .val (.long ((dc - (48 : Int32)).toInt64)), .second, .val (.long pk), .second] [(.long act)])) _
              refine XS.lload X208.here hx rfl (hb hby at_496) rfl ?_
              show Steps p.tables e below (T208.setTop (mkF m 498 #[.val (.int p1), .val (.int p2), .val (.int p3), .val (.int p4), .val (.int db0), .val (.int db1), .val (.int db2), .val (.int db3), .val (.int dt), .val (.int dc), .val (.int ppp), .val (.int frm), .val (.int len), .val (.int too), .val (.ref b30), .val (.long act), .second, .val (.long (((vv4 * pk) + (((dt - (48 : Int32)).toInt64) * ((pk - (1 : Int64)) / (9 : Int64)))) + ((((dc - (48 : Int32)).toInt64) - ((dt - (48 : Int32)).toInt64)) * (p10 ((too - (1 : Int32)) - ppp))))), .second, .val (.long vv4), .second, .val (.int kk), .val (.int (1 : Int32)), .val (.int (kk - (1 : Int32))), .val (.long ((dt - (48 : Int32)).toInt64)), .second, .val (.long ((dc - (48 : Int32)).toInt64)), .second, .val (.long pk), .second] [(.long (((vv4 * pk) + (((dt - (48 : Int32)).toInt64) * ((pk - (1 : Int64)) / (9 : Int64)))) + ((((dc - (48 : Int32)).toInt64) - ((dt - (48 : Int32)).toInt64)) * (p10 ((too - (1 : Int32)) - ppp))))), (.long act)])) _
              refine XS.lcmp X208.here hx rfl (hb hby at_498) rfl ?_
              show Steps p.tables e below (T208.setTop (mkF m 499 #[.val (.int p1), .val (.int p2), .val (.int p3), .val (.int p4), .val (.int db0), .val (.int db1), .val (.int db2), .val (.int db3), .val (.int dt), .val (.int dc), .val (.int ppp), .val (.int frm), .val (.int len), .val (.int too), .val (.ref b30), .val (.long act), .second, .val (.long (((vv4 * pk) + (((dt - (48 : Int32)).toInt64) * ((pk - (1 : Int64)) / (9 : Int64)))) + ((((dc - (48 : Int32)).toInt64) - ((dt - (48 : Int32)).toInt64)) * (p10 ((too - (1 : Int32)) - ppp))))), .second, .val (.long vv4), .second, .val (.int kk), .val (.int (1 : Int32)), .val (.int (kk - (1 : Int32))), .val (.long ((dt - (48 : Int32)).toInt64)), .second, .val (.long ((dc - (48 : Int32)).toInt64)), .second, .val (.long pk), .second] [(.int (lcmpW act (((vv4 * pk) + (((dt - (48 : Int32)).toInt64) * ((pk - (1 : Int64)) / (9 : Int64)))) + ((((dc - (48 : Int32)).toInt64) - ((dt - (48 : Int32)).toInt64)) * (p10 ((too - (1 : Int32)) - ppp))))))])) _
              refine XS.ifNo X208.here hx rfl (hb hby at_499) rfl ((if0 _ _).trans (teq hc499).2) ?_
              show Steps p.tables e below (T208.setTop (mkF m 502 #[.val (.int p1), .val (.int p2), .val (.int p3), .val (.int p4), .val (.int db0), .val (.int db1), .val (.int db2), .val (.int db3), .val (.int dt), .val (.int dc), .val (.int ppp), .val (.int frm), .val (.int len), .val (.int too), .val (.ref b30), .val (.long act), .second, .val (.long (((vv4 * pk) + (((dt - (48 : Int32)).toInt64) * ((pk - (1 : Int64)) / (9 : Int64)))) + ((((dc - (48 : Int32)).toInt64) - ((dt - (48 : Int32)).toInt64)) * (p10 ((too - (1 : Int32)) - ppp))))), .second, .val (.long vv4), .second, .val (.int kk), .val (.int (1 : Int32)), .val (.int (kk - (1 : Int32))), .val (.long ((dt - (48 : Int32)).toInt64)), .second, .val (.long ((dc - (48 : Int32)).toInt64)), .second, .val (.long pk), .second] [])) _
              refine XS.iconst X208.here hx rfl (hb hby at_502) ?_
              show Steps p.tables e below (T208.setTop (mkF m 503 #[.val (.int p1), .val (.int p2), .val (.int p3), .val (.int p4), .val (.int db0), .val (.int db1), .val (.int db2), .val (.int db3), .val (.int dt), .val (.int dc), .val (.int ppp), .val (.int frm), .val (.int len), .val (.int too), .val (.ref b30), .val (.long act), .second, .val (.long (((vv4 * pk) + (((dt - (48 : Int32)).toInt64) * ((pk - (1 : Int64)) / (9 : Int64)))) + ((((dc - (48 : Int32)).toInt64) - ((dt - (48 : Int32)).toInt64)) * (p10 ((too - (1 : Int32)) - ppp))))), .second, .val (.long vv4), .second, .val (.int kk), .val (.int (1 : Int32)), .val (.int (kk - (1 : Int32))), .val (.long ((dt - (48 : Int32)).toInt64)), .second, .val (.long ((dc - (48 : Int32)).toInt64)), .second, .val (.long pk), .second] [(.int (1 : Int32))])) _
              refine XS.goto X208.here hx rfl (pc0 := 503) (pc' := 507) rfl (hb hby at_503) (by decide) (by decide) ?_
              show Steps p.tables e below (T208.setTop (mkF m 507 #[.val (.int p1), .val (.int p2), .val (.int p3), .val (.int p4), .val (.int db0), .val (.int db1), .val (.int db2), .val (.int db3), .val (.int dt), .val (.int dc), .val (.int ppp), .val (.int frm), .val (.int len), .val (.int too), .val (.ref b30), .val (.long act), .second, .val (.long (((vv4 * pk) + (((dt - (48 : Int32)).toInt64) * ((pk - (1 : Int64)) / (9 : Int64)))) + ((((dc - (48 : Int32)).toInt64) - ((dt - (48 : Int32)).toInt64)) * (p10 ((too - (1 : Int32)) - ppp))))), .second, .val (.long vv4), .second, .val (.int kk), .val (.int (1 : Int32)), .val (.int (kk - (1 : Int32))), .val (.long ((dt - (48 : Int32)).toInt64)), .second, .val (.long ((dc - (48 : Int32)).toInt64)), .second, .val (.long pk), .second] [(.int (1 : Int32))])) _
              exact kt
            obtain ⟨fs, hr, hrun, hended, hW, hsame⟩ := X208.leave (v := some (.int (1 : Int32))) (fun h => by rw [Bd.returns] at h; cases h) (BodyLoose.notSynchronized Bd)
            refine ⟨_, _, pre211 _ ?_, hrun, hended, _, _, rfl, ?_, ⟨_, rfl⟩, hW, hsame.mono (by decide) (by decide)⟩
            · exact retN X208 hx (t := .boolean) Bd.returns (by simp) (hb hby at_507) hr
            · show Q0 Z p1 p2 p3 p4 h0 n0 _ T208.heap _
              exact ⟨rfl, N208⟩
    · skip
      by_cases hc389 : (lcmpW vv4 (0 : Int64)) < (0 : Int32)
      · skip
        have hc499 : (lcmpW act (-1 : Int64)) = (0 : Int32) := own_neg txt frm len too ppp db0 db1 db2 db3 dt dc act vv1 vv2 vv3 vv4 hIn ⟨h_vv1, h_vv2, h_vv3, h_vv4⟩ hc248 hc389
        have pre212 : ∀ t, Steps p.tables e below (T176.setTop (mkF m 507 #[.val (.int p1), .val (.int p2), .val (.int p3), .val (.int p4), .val (.int db0), .val (.int db1), .val (.int db2), .val (.int db3), .val (.int dt), .val (.int dc), .val (.int ppp), .val (.int frm), .val (.int len), .val (.int too), .val (.ref b30), .val (.long act), .second, .val (.long (-1 : Int64)), .second, .val (.long vv4), .second, .val (.int kk), .val (.int (0 : Int32)), .val (.int kk), .unset, .unset, .unset, .unset, .unset, .unset] [(.int (1 : Int32))])) t → Steps p.tables e below (s₁.setTop (entryFrame m #[(.int p1), (.int p2), (.int p3), (.int p4)] maxLocals)) t := fun t kt => by
          refine pre178 t ?_
          refine XS.iload X176.here hx rfl (hb hby at_355) rfl ?_
          show Steps p.tables e below (T176.setTop (mkF m 357 #[.val (.int p1), .val (.int p2), .val (.int p3), .val (.int p4), .val (.int db0), .val (.int db1), .val (.int db2), .val (.int db3), .val (.int dt), .val (.int dc), .val (.int ppp), .val (.int frm), .val (.int len), .val (.int too), .val (.ref b30), .val (.long act), .second, .unset, .unset, .val (.long vv4), .second, .val (.int kk), .unset, .unset, .unset, .unset, .unset, .unset, .unset, .unset] [(.int ppp)])) _
          refine XS.iload X176.here hx rfl (hb hby at_357) rfl ?_
          show Steps p.tables e below (T176.setTop (mkF m 359 #[.val (.int p1), .val (.int p2), .val (.int p3), .val (.int p4), .val (.int db0), .val (.int db1), .val (.int db2), .val (.int db3), .val (.int dt), .val (.int dc), .val (.int ppp), .val (.int frm), .val (.int len), .val (.int too), .val (.ref b30), .val (.long act), .second, .unset, .unset, .val (.long vv4), .second, .val (.int kk), .unset, .unset, .unset, .unset, .unset, .unset, .unset, .unset] [(.int too), (.int ppp)])) _
          refine XS.icmpYes X176.here hx rfl (pc0 := 359) (pc' := 366) rfl (hb hby at_359) rfl (flt hc359).2.1 (by decide) (by decide) ?_
          show Steps p.tables e below (T176.setTop (mkF m 366 #[.val (.int p1), .val (.int p2), .val (.int p3), .val (.int p4), .val (.int db0), .val (.int db1), .val (.int db2), .val (.int db3), .val (.int dt), .val (.int dc), .val (.int ppp), .val (.int frm), .val (.int len), .val (.int too), .val (.ref b30), .val (.long act), .second, .unset, .unset, .val (.long vv4), .second, .val (.int kk), .unset, .unset, .unset, .unset, .unset, .unset, .unset, .unset] [])) _
          refine XS.iconst X176.here hx rfl (hb hby at_366) ?_
          show Steps p.tables e below (T176.setTop (mkF m 367 #[.val (.int p1), .val (.int p2), .val (.int p3), .val (.int p4), .val (.int db0), .val (.int db1), .val (.int db2), .val (.int db3), .val (.int dt), .val (.int dc), .val (.int ppp), .val (.int frm), .val (.int len), .val (.int too), .val (.ref b30), .val (.long act), .second, .unset, .unset, .val (.long vv4), .second, .val (.int kk), .unset, .unset, .unset, .unset, .unset, .unset, .unset, .unset] [(.int (0 : Int32))])) _
          refine XS.istore X176.here hx rfl (hb hby at_367) rfl (l' := #[.val (.int p1), .val (.int p2), .val (.int p3), .val (.int p4), .val (.int db0), .val (.int db1), .val (.int db2), .val (.int db3), .val (.int dt), .val (.int dc), .val (.int ppp), .val (.int frm), .val (.int len), .val (.int too), .val (.ref b30), .val (.long act), .second, .unset, .unset, .val (.long vv4), .second, .val (.int kk), .val (.int (0 : Int32)), .unset, .unset, .unset, .unset, .unset, .unset, .unset]) rfl ?_
          show Steps p.tables e below (T176.setTop (mkF m 369 #[.val (.int p1), .val (.int p2), .val (.int p3), .val (.int p4), .val (.int db0), .val (.int db1), .val (.int db2), .val (.int db3), .val (.int dt), .val (.int dc), .val (.int ppp), .val (.int frm), .val (.int len), .val (.int too), .val (.ref b30), .val (.long act), .second, .unset, .unset, .val (.long vv4), .second, .val (.int kk), .val (.int (0 : Int32)), .unset, .unset, .unset, .unset, .unset, .unset, .unset] [])) _
          refine XS.iload X176.here hx rfl (hb hby at_369) rfl ?_
          show Steps p.tables e below (T176.setTop (mkF m 371 #[.val (.int p1), .val (.int p2), .val (.int p3), .val (.int p4), .val (.int db0), .val (.int db1), .val (.int db2), .val (.int db3), .val (.int dt), .val (.int dc), .val (.int ppp), .val (.int frm), .val (.int len), .val (.int too), .val (.ref b30), .val (.long act), .second, .unset, .unset, .val (.long vv4), .second, .val (.int kk), .val (.int (0 : Int32)), .unset, .unset, .unset, .unset, .unset, .unset, .unset] [(.int (0 : Int32))])) _
          refine XS.ifYes X176.here hx rfl (pc0 := 371) (pc' := 381) rfl (hb hby at_371) rfl ((if0 _ _).trans (teq (by decide : (0 : Int32) = (0 : Int32))).1) (by decide) (by decide) ?_
          show Steps p.tables e below (T176.setTop (mkF m 381 #[.val (.int p1), .val (.int p2), .val (.int p3), .val (.int p4), .val (.int db0), .val (.int db1), .val (.int db2), .val (.int db3), .val (.int dt), .val (.int dc), .val (.int ppp), .val (.int frm), .val (.int len), .val (.int too), .val (.ref b30), .val (.long act), .second, .unset, .unset, .val (.long vv4), .second, .val (.int kk), .val (.int (0 : Int32)), .unset, .unset, .unset, .unset, .unset, .unset, .unset] [])) _
          refine XS.iload X176.here hx rfl (hb hby at_381) rfl ?_
          show Steps p.tables e below (T176.setTop (mkF m 383 #[.val (.int p1), .val (.int p2), .val (.int p3), .val (.int p4), .val (.int db0), .val (.int db1), .val (.int db2), .val (.int db3), .val (.int dt), .val (.int dc), .val (.int ppp), .val (.int frm), .val (.int len), .val (.int too), .val (.ref b30), .val (.long act), .second, .unset, .unset, .val (.long vv4), .second, .val (.int kk), .val (.int (0 : Int32)), .unset, .unset, .unset, .unset, .unset, .unset, .unset] [(.int kk)])) _
          refine XS.istore X176.here hx rfl (hb hby at_383) rfl (l' := #[.val (.int p1), .val (.int p2), .val (.int p3), .val (.int p4), .val (.int db0), .val (.int db1), .val (.int db2), .val (.int db3), .val (.int dt), .val (.int dc), .val (.int ppp), .val (.int frm), .val (.int len), .val (.int too), .val (.ref b30), .val (.long act), .second, .unset, .unset, .val (.long vv4), .second, .val (.int kk), .val (.int (0 : Int32)), .val (.int kk), .unset, .unset, .unset, .unset, .unset, .unset]) rfl ?_
          show Steps p.tables e below (T176.setTop (mkF m 385 #[.val (.int p1), .val (.int p2), .val (.int p3), .val (.int p4), .val (.int db0), .val (.int db1), .val (.int db2), .val (.int db3), .val (.int dt), .val (.int dc), .val (.int ppp), .val (.int frm), .val (.int len), .val (.int too), .val (.ref b30), .val (.long act), .second, .unset, .unset, .val (.long vv4), .second, .val (.int kk), .val (.int (0 : Int32)), .val (.int kk), .unset, .unset, .unset, .unset, .unset, .unset] [])) _
          refine XS.lload X176.here hx rfl (hb hby at_385) rfl ?_
          show Steps p.tables e below (T176.setTop (mkF m 387 #[.val (.int p1), .val (.int p2), .val (.int p3), .val (.int p4), .val (.int db0), .val (.int db1), .val (.int db2), .val (.int db3), .val (.int dt), .val (.int dc), .val (.int ppp), .val (.int frm), .val (.int len), .val (.int too), .val (.ref b30), .val (.long act), .second, .unset, .unset, .val (.long vv4), .second, .val (.int kk), .val (.int (0 : Int32)), .val (.int kk), .unset, .unset, .unset, .unset, .unset, .unset] [(.long vv4)])) _
          refine XS.lconst X176.here hx rfl (hb hby at_387) ?_
          show Steps p.tables e below (T176.setTop (mkF m 388 #[.val (.int p1), .val (.int p2), .val (.int p3), .val (.int p4), .val (.int db0), .val (.int db1), .val (.int db2), .val (.int db3), .val (.int dt), .val (.int dc), .val (.int ppp), .val (.int frm), .val (.int len), .val (.int too), .val (.ref b30), .val (.long act), .second, .unset, .unset, .val (.long vv4), .second, .val (.int kk), .val (.int (0 : Int32)), .val (.int kk), .unset, .unset, .unset, .unset, .unset, .unset] [(.long (0 : Int64)), (.long vv4)])) _
          refine XS.lcmp X176.here hx rfl (hb hby at_388) rfl ?_
          show Steps p.tables e below (T176.setTop (mkF m 389 #[.val (.int p1), .val (.int p2), .val (.int p3), .val (.int p4), .val (.int db0), .val (.int db1), .val (.int db2), .val (.int db3), .val (.int dt), .val (.int dc), .val (.int ppp), .val (.int frm), .val (.int len), .val (.int too), .val (.ref b30), .val (.long act), .second, .unset, .unset, .val (.long vv4), .second, .val (.int kk), .val (.int (0 : Int32)), .val (.int kk), .unset, .unset, .unset, .unset, .unset, .unset] [(.int (lcmpW vv4 (0 : Int64)))])) _
          refine XS.ifYes X176.here hx rfl (pc0 := 389) (pc' := 418) rfl (hb hby at_389) rfl ((if0 _ _).trans (tlt hc389).1) (by decide) (by decide) ?_
          show Steps p.tables e below (T176.setTop (mkF m 418 #[.val (.int p1), .val (.int p2), .val (.int p3), .val (.int p4), .val (.int db0), .val (.int db1), .val (.int db2), .val (.int db3), .val (.int dt), .val (.int dc), .val (.int ppp), .val (.int frm), .val (.int len), .val (.int too), .val (.ref b30), .val (.long act), .second, .unset, .unset, .val (.long vv4), .second, .val (.int kk), .val (.int (0 : Int32)), .val (.int kk), .unset, .unset, .unset, .unset, .unset, .unset] [])) _
          refine X176.ldc2Long hx hown (mvT hZ (hw _ (mgE 47 rfl))) (g := (mkF m 418 #[.val (.int p1), .val (.int p2), .val (.int p3), .val (.int p4), .val (.int db0), .val (.int db1), .val (.int db2), .val (.int db3), .val (.int dt), .val (.int dc), .val (.int ppp), .val (.int frm), .val (.int len), .val (.int too), .val (.ref b30), .val (.long act), .second, .unset, .unset, .val (.long vv4), .second, .val (.int kk), .val (.int (0 : Int32)), .val (.int kk), .unset, .unset, .unset, .unset, .unset, .unset] [])) rfl (hb hby at_418) _ ?_
          show Steps p.tables e below (T176.setTop (mkF m 421 #[.val (.int p1), .val (.int p2), .val (.int p3), .val (.int p4), .val (.int db0), .val (.int db1), .val (.int db2), .val (.int db3), .val (.int dt), .val (.int dc), .val (.int ppp), .val (.int frm), .val (.int len), .val (.int too), .val (.ref b30), .val (.long act), .second, .unset, .unset, .val (.long vv4), .second, .val (.int kk), .val (.int (0 : Int32)), .val (.int kk), .unset, .unset, .unset, .unset, .unset, .unset] [(.long (-1 : Int64))])) _
          refine XS.lstore X176.here hx rfl (hb hby at_421) rfl (l' := #[.val (.int p1), .val (.int p2), .val (.int p3), .val (.int p4), .val (.int db0), .val (.int db1), .val (.int db2), .val (.int db3), .val (.int dt), .val (.int dc), .val (.int ppp), .val (.int frm), .val (.int len), .val (.int too), .val (.ref b30), .val (.long act), .second, .val (.long (-1 : Int64)), .second, .val (.long vv4), .second, .val (.int kk), .val (.int (0 : Int32)), .val (.int kk), .unset, .unset, .unset, .unset, .unset, .unset]) rfl ?_
          show Steps p.tables e below (T176.setTop (mkF m 423 #[.val (.int p1), .val (.int p2), .val (.int p3), .val (.int p4), .val (.int db0), .val (.int db1), .val (.int db2), .val (.int db3), .val (.int dt), .val (.int dc), .val (.int ppp), .val (.int frm), .val (.int len), .val (.int too), .val (.ref b30), .val (.long act), .second, .val (.long (-1 : Int64)), .second, .val (.long vv4), .second, .val (.int kk), .val (.int (0 : Int32)), .val (.int kk), .unset, .unset, .unset, .unset, .unset, .unset] [])) _
          refine XS.goto X176.here hx rfl (pc0 := 423) (pc' := 494) rfl (hb hby at_423) (by decide) (by decide) ?_
          show Steps p.tables e below (T176.setTop (mkF m 494 #[.val (.int p1), .val (.int p2), .val (.int p3), .val (.int p4), .val (.int db0), .val (.int db1), .val (.int db2), .val (.int db3), .val (.int dt), .val (.int dc), .val (.int ppp), .val (.int frm), .val (.int len), .val (.int too), .val (.ref b30), .val (.long act), .second, .val (.long (-1 : Int64)), .second, .val (.long vv4), .second, .val (.int kk), .val (.int (0 : Int32)), .val (.int kk), .unset, .unset, .unset, .unset, .unset, .unset] [])) _
          refine XS.lload X176.here hx rfl (hb hby at_494) rfl ?_
          show Steps p.tables e below (T176.setTop (mkF m 496 #[.val (.int p1), .val (.int p2), .val (.int p3), .val (.int p4), .val (.int db0), .val (.int db1), .val (.int db2), .val (.int db3), .val (.int dt), .val (.int dc), .val (.int ppp), .val (.int frm), .val (.int len), .val (.int too), .val (.ref b30), .val (.long act), .second, .val (.long (-1 : Int64)), .second, .val (.long vv4), .second, .val (.int kk), .val (.int (0 : Int32)), .val (.int kk), .unset, .unset, .unset, .unset, .unset, .unset] [(.long act)])) _
          refine XS.lload X176.here hx rfl (hb hby at_496) rfl ?_
          show Steps p.tables e below (T176.setTop (mkF m 498 #[.val (.int p1), .val (.int p2), .val (.int p3), .val (.int p4), .val (.int db0), .val (.int db1), .val (.int db2), .val (.int db3), .val (.int dt), .val (.int dc), .val (.int ppp), .val (.int frm), .val (.int len), .val (.int too), .val (.ref b30), .val (.long act), .second, .val (.long (-1 : Int64)), .second, .val (.long vv4), .second, .val (.int kk), .val (.int (0 : Int32)), .val (.int kk), .unset, .unset, .unset, .unset, .unset, .unset] [(.long (-1 : Int64)), (.long act)])) _
          refine XS.lcmp X176.here hx rfl (hb hby at_498) rfl ?_
          show Steps p.tables e below (T176.setTop (mkF m 499 #[.val (.int p1), .val (.int p2), .val (.int p3), .val (.int p4), .val (.int db0), .val (.int db1), .val (.int db2), .val (.int db3), .val (.int dt), .val (.int dc), .val (.int ppp), .val (.int frm), .val (.int len), .val (.int too), .val (.ref b30), .val (.long act), .second, .val (.long (-1 : Int64)), .second, .val (.long vv4), .second, .val (.int kk), .val (.int (0 : Int32)), .val (.int kk), .unset, .unset, .unset, .unset, .unset, .unset] [(.int (lcmpW act (-1 : Int64)))])) _
          refine XS.ifNo X176.here hx rfl (hb hby at_499) rfl ((if0 _ _).trans (teq hc499).2) ?_
          show Steps p.tables e below (T176.setTop (mkF m 502 #[.val (.int p1), .val (.int p2), .val (.int p3), .val (.int p4), .val (.int db0), .val (.int db1), .val (.int db2), .val (.int db3), .val (.int dt), .val (.int dc), .val (.int ppp), .val (.int frm), .val (.int len), .val (.int too), .val (.ref b30), .val (.long act), .second, .val (.long (-1 : Int64)), .second, .val (.long vv4), .second, .val (.int kk), .val (.int (0 : Int32)), .val (.int kk), .unset, .unset, .unset, .unset, .unset, .unset] [])) _
          refine XS.iconst X176.here hx rfl (hb hby at_502) ?_
          show Steps p.tables e below (T176.setTop (mkF m 503 #[.val (.int p1), .val (.int p2), .val (.int p3), .val (.int p4), .val (.int db0), .val (.int db1), .val (.int db2), .val (.int db3), .val (.int dt), .val (.int dc), .val (.int ppp), .val (.int frm), .val (.int len), .val (.int too), .val (.ref b30), .val (.long act), .second, .val (.long (-1 : Int64)), .second, .val (.long vv4), .second, .val (.int kk), .val (.int (0 : Int32)), .val (.int kk), .unset, .unset, .unset, .unset, .unset, .unset] [(.int (1 : Int32))])) _
          refine XS.goto X176.here hx rfl (pc0 := 503) (pc' := 507) rfl (hb hby at_503) (by decide) (by decide) ?_
          show Steps p.tables e below (T176.setTop (mkF m 507 #[.val (.int p1), .val (.int p2), .val (.int p3), .val (.int p4), .val (.int db0), .val (.int db1), .val (.int db2), .val (.int db3), .val (.int dt), .val (.int dc), .val (.int ppp), .val (.int frm), .val (.int len), .val (.int too), .val (.ref b30), .val (.long act), .second, .val (.long (-1 : Int64)), .second, .val (.long vv4), .second, .val (.int kk), .val (.int (0 : Int32)), .val (.int kk), .unset, .unset, .unset, .unset, .unset, .unset] [(.int (1 : Int32))])) _
          exact kt
        obtain ⟨fs, hr, hrun, hended, hW, hsame⟩ := X176.leave (v := some (.int (1 : Int32))) (fun h => by rw [Bd.returns] at h; cases h) (BodyLoose.notSynchronized Bd)
        refine ⟨_, _, pre212 _ ?_, hrun, hended, _, _, rfl, ?_, ⟨_, rfl⟩, hW, hsame.mono (by decide) (by decide)⟩
        · exact retN X176 hx (t := .boolean) Bd.returns (by simp) (hb hby at_507) hr
        · show Q0 Z p1 p2 p3 p4 h0 n0 _ T176.heap _
          rw [e176]
          exact ⟨rfl, N176⟩
      · skip
        by_cases hc394 : (0 : Int32) < kk
        · skip
          have pre213 : ∀ t, Steps p.tables e below (T176.setTop (mkF m 399 #[.val (.int p1), .val (.int p2), .val (.int p3), .val (.int p4), .val (.int db0), .val (.int db1), .val (.int db2), .val (.int db3), .val (.int dt), .val (.int dc), .val (.int ppp), .val (.int frm), .val (.int len), .val (.int too), .val (.ref b30), .val (.long act), .second, .unset, .unset, .val (.long vv4), .second, .val (.int kk), .val (.int (0 : Int32)), .val (.int kk), .unset, .unset, .unset, .unset, .unset, .unset] [(.int dt)])) t → Steps p.tables e below (s₁.setTop (entryFrame m #[(.int p1), (.int p2), (.int p3), (.int p4)] maxLocals)) t := fun t kt => by
            refine pre178 t ?_
            refine XS.iload X176.here hx rfl (hb hby at_355) rfl ?_
            show Steps p.tables e below (T176.setTop (mkF m 357 #[.val (.int p1), .val (.int p2), .val (.int p3), .val (.int p4), .val (.int db0), .val (.int db1), .val (.int db2), .val (.int db3), .val (.int dt), .val (.int dc), .val (.int ppp), .val (.int frm), .val (.int len), .val (.int too), .val (.ref b30), .val (.long act), .second, .unset, .unset, .val (.long vv4), .second, .val (.int kk), .unset, .unset, .unset, .unset, .unset, .unset, .unset, .unset] [(.int ppp)])) _
            refine XS.iload X176.here hx rfl (hb hby at_357) rfl ?_
            show Steps p.tables e below (T176.setTop (mkF m 359 #[.val (.int p1), .val (.int p2), .val (.int p3), .val (.int p4), .val (.int db0), .val (.int db1), .val (.int db2), .val (.int db3), .val (.int dt), .val (.int dc), .val (.int ppp), .val (.int frm), .val (.int len), .val (.int too), .val (.ref b30), .val (.long act), .second, .unset, .unset, .val (.long vv4), .second, .val (.int kk), .unset, .unset, .unset, .unset, .unset, .unset, .unset, .unset] [(.int too), (.int ppp)])) _
            refine XS.icmpYes X176.here hx rfl (pc0 := 359) (pc' := 366) rfl (hb hby at_359) rfl (flt hc359).2.1 (by decide) (by decide) ?_
            show Steps p.tables e below (T176.setTop (mkF m 366 #[.val (.int p1), .val (.int p2), .val (.int p3), .val (.int p4), .val (.int db0), .val (.int db1), .val (.int db2), .val (.int db3), .val (.int dt), .val (.int dc), .val (.int ppp), .val (.int frm), .val (.int len), .val (.int too), .val (.ref b30), .val (.long act), .second, .unset, .unset, .val (.long vv4), .second, .val (.int kk), .unset, .unset, .unset, .unset, .unset, .unset, .unset, .unset] [])) _
            refine XS.iconst X176.here hx rfl (hb hby at_366) ?_
            show Steps p.tables e below (T176.setTop (mkF m 367 #[.val (.int p1), .val (.int p2), .val (.int p3), .val (.int p4), .val (.int db0), .val (.int db1), .val (.int db2), .val (.int db3), .val (.int dt), .val (.int dc), .val (.int ppp), .val (.int frm), .val (.int len), .val (.int too), .val (.ref b30), .val (.long act), .second, .unset, .unset, .val (.long vv4), .second, .val (.int kk), .unset, .unset, .unset, .unset, .unset, .unset, .unset, .unset] [(.int (0 : Int32))])) _
            refine XS.istore X176.here hx rfl (hb hby at_367) rfl (l' := #[.val (.int p1), .val (.int p2), .val (.int p3), .val (.int p4), .val (.int db0), .val (.int db1), .val (.int db2), .val (.int db3), .val (.int dt), .val (.int dc), .val (.int ppp), .val (.int frm), .val (.int len), .val (.int too), .val (.ref b30), .val (.long act), .second, .unset, .unset, .val (.long vv4), .second, .val (.int kk), .val (.int (0 : Int32)), .unset, .unset, .unset, .unset, .unset, .unset, .unset]) rfl ?_
            show Steps p.tables e below (T176.setTop (mkF m 369 #[.val (.int p1), .val (.int p2), .val (.int p3), .val (.int p4), .val (.int db0), .val (.int db1), .val (.int db2), .val (.int db3), .val (.int dt), .val (.int dc), .val (.int ppp), .val (.int frm), .val (.int len), .val (.int too), .val (.ref b30), .val (.long act), .second, .unset, .unset, .val (.long vv4), .second, .val (.int kk), .val (.int (0 : Int32)), .unset, .unset, .unset, .unset, .unset, .unset, .unset] [])) _
            refine XS.iload X176.here hx rfl (hb hby at_369) rfl ?_
            show Steps p.tables e below (T176.setTop (mkF m 371 #[.val (.int p1), .val (.int p2), .val (.int p3), .val (.int p4), .val (.int db0), .val (.int db1), .val (.int db2), .val (.int db3), .val (.int dt), .val (.int dc), .val (.int ppp), .val (.int frm), .val (.int len), .val (.int too), .val (.ref b30), .val (.long act), .second, .unset, .unset, .val (.long vv4), .second, .val (.int kk), .val (.int (0 : Int32)), .unset, .unset, .unset, .unset, .unset, .unset, .unset] [(.int (0 : Int32))])) _
            refine XS.ifYes X176.here hx rfl (pc0 := 371) (pc' := 381) rfl (hb hby at_371) rfl ((if0 _ _).trans (teq (by decide : (0 : Int32) = (0 : Int32))).1) (by decide) (by decide) ?_
            show Steps p.tables e below (T176.setTop (mkF m 381 #[.val (.int p1), .val (.int p2), .val (.int p3), .val (.int p4), .val (.int db0), .val (.int db1), .val (.int db2), .val (.int db3), .val (.int dt), .val (.int dc), .val (.int ppp), .val (.int frm), .val (.int len), .val (.int too), .val (.ref b30), .val (.long act), .second, .unset, .unset, .val (.long vv4), .second, .val (.int kk), .val (.int (0 : Int32)), .unset, .unset, .unset, .unset, .unset, .unset, .unset] [])) _
            refine XS.iload X176.here hx rfl (hb hby at_381) rfl ?_
            show Steps p.tables e below (T176.setTop (mkF m 383 #[.val (.int p1), .val (.int p2), .val (.int p3), .val (.int p4), .val (.int db0), .val (.int db1), .val (.int db2), .val (.int db3), .val (.int dt), .val (.int dc), .val (.int ppp), .val (.int frm), .val (.int len), .val (.int too), .val (.ref b30), .val (.long act), .second, .unset, .unset, .val (.long vv4), .second, .val (.int kk), .val (.int (0 : Int32)), .unset, .unset, .unset, .unset, .unset, .unset, .unset] [(.int kk)])) _
            refine XS.istore X176.here hx rfl (hb hby at_383) rfl (l' := #[.val (.int p1), .val (.int p2), .val (.int p3), .val (.int p4), .val (.int db0), .val (.int db1), .val (.int db2), .val (.int db3), .val (.int dt), .val (.int dc), .val (.int ppp), .val (.int frm), .val (.int len), .val (.int too), .val (.ref b30), .val (.long act), .second, .unset, .unset, .val (.long vv4), .second, .val (.int kk), .val (.int (0 : Int32)), .val (.int kk), .unset, .unset, .unset, .unset, .unset, .unset]) rfl ?_
            show Steps p.tables e below (T176.setTop (mkF m 385 #[.val (.int p1), .val (.int p2), .val (.int p3), .val (.int p4), .val (.int db0), .val (.int db1), .val (.int db2), .val (.int db3), .val (.int dt), .val (.int dc), .val (.int ppp), .val (.int frm), .val (.int len), .val (.int too), .val (.ref b30), .val (.long act), .second, .unset, .unset, .val (.long vv4), .second, .val (.int kk), .val (.int (0 : Int32)), .val (.int kk), .unset, .unset, .unset, .unset, .unset, .unset] [])) _
            refine XS.lload X176.here hx rfl (hb hby at_385) rfl ?_
            show Steps p.tables e below (T176.setTop (mkF m 387 #[.val (.int p1), .val (.int p2), .val (.int p3), .val (.int p4), .val (.int db0), .val (.int db1), .val (.int db2), .val (.int db3), .val (.int dt), .val (.int dc), .val (.int ppp), .val (.int frm), .val (.int len), .val (.int too), .val (.ref b30), .val (.long act), .second, .unset, .unset, .val (.long vv4), .second, .val (.int kk), .val (.int (0 : Int32)), .val (.int kk), .unset, .unset, .unset, .unset, .unset, .unset] [(.long vv4)])) _
            refine XS.lconst X176.here hx rfl (hb hby at_387) ?_
            show Steps p.tables e below (T176.setTop (mkF m 388 #[.val (.int p1), .val (.int p2), .val (.int p3), .val (.int p4), .val (.int db0), .val (.int db1), .val (.int db2), .val (.int db3), .val (.int dt), .val (.int dc), .val (.int ppp), .val (.int frm), .val (.int len), .val (.int too), .val (.ref b30), .val (.long act), .second, .unset, .unset, .val (.long vv4), .second, .val (.int kk), .val (.int (0 : Int32)), .val (.int kk), .unset, .unset, .unset, .unset, .unset, .unset] [(.long (0 : Int64)), (.long vv4)])) _
            refine XS.lcmp X176.here hx rfl (hb hby at_388) rfl ?_
            show Steps p.tables e below (T176.setTop (mkF m 389 #[.val (.int p1), .val (.int p2), .val (.int p3), .val (.int p4), .val (.int db0), .val (.int db1), .val (.int db2), .val (.int db3), .val (.int dt), .val (.int dc), .val (.int ppp), .val (.int frm), .val (.int len), .val (.int too), .val (.ref b30), .val (.long act), .second, .unset, .unset, .val (.long vv4), .second, .val (.int kk), .val (.int (0 : Int32)), .val (.int kk), .unset, .unset, .unset, .unset, .unset, .unset] [(.int (lcmpW vv4 (0 : Int64)))])) _
            refine XS.ifNo X176.here hx rfl (hb hby at_389) rfl ((if0 _ _).trans (flt hc389).1) ?_
            show Steps p.tables e below (T176.setTop (mkF m 392 #[.val (.int p1), .val (.int p2), .val (.int p3), .val (.int p4), .val (.int db0), .val (.int db1), .val (.int db2), .val (.int db3), .val (.int dt), .val (.int dc), .val (.int ppp), .val (.int frm), .val (.int len), .val (.int too), .val (.ref b30), .val (.long act), .second, .unset, .unset, .val (.long vv4), .second, .val (.int kk), .val (.int (0 : Int32)), .val (.int kk), .unset, .unset, .unset, .unset, .unset, .unset] [])) _
            refine XS.iload X176.here hx rfl (hb hby at_392) rfl ?_
            show Steps p.tables e below (T176.setTop (mkF m 394 #[.val (.int p1), .val (.int p2), .val (.int p3), .val (.int p4), .val (.int db0), .val (.int db1), .val (.int db2), .val (.int db3), .val (.int dt), .val (.int dc), .val (.int ppp), .val (.int frm), .val (.int len), .val (.int too), .val (.ref b30), .val (.long act), .second, .unset, .unset, .val (.long vv4), .second, .val (.int kk), .val (.int (0 : Int32)), .val (.int kk), .unset, .unset, .unset, .unset, .unset, .unset] [(.int kk)])) _
            refine XS.ifNo X176.here hx rfl (hb hby at_394) rfl ((if0 _ _).trans (tlt hc394).2.2.2) ?_
            show Steps p.tables e below (T176.setTop (mkF m 397 #[.val (.int p1), .val (.int p2), .val (.int p3), .val (.int p4), .val (.int db0), .val (.int db1), .val (.int db2), .val (.int db3), .val (.int dt), .val (.int dc), .val (.int ppp), .val (.int frm), .val (.int len), .val (.int too), .val (.ref b30), .val (.long act), .second, .unset, .unset, .val (.long vv4), .second, .val (.int kk), .val (.int (0 : Int32)), .val (.int kk), .unset, .unset, .unset, .unset, .unset, .unset] [])) _
            refine XS.iload X176.here hx rfl (hb hby at_397) rfl ?_
            show Steps p.tables e below (T176.setTop (mkF m 399 #[.val (.int p1), .val (.int p2), .val (.int p3), .val (.int p4), .val (.int db0), .val (.int db1), .val (.int db2), .val (.int db3), .val (.int dt), .val (.int dc), .val (.int ppp), .val (.int frm), .val (.int len), .val (.int too), .val (.ref b30), .val (.long act), .second, .unset, .unset, .val (.long vv4), .second, .val (.int kk), .val (.int (0 : Int32)), .val (.int kk), .unset, .unset, .unset, .unset, .unset, .unset] [(.int dt)])) _
            exact kt
          obtain ⟨_, _, ⟨T214, L214, k214, n214⟩, -, X214, ⟨Lc214, hQ214, l214, y214, z214⟩, st214⟩ := Jvm.LawKit.callS X176 hx (y := (⟨"com/example/entgelt/entgelt/io/FieldFormsDigitsPinLaw", "isDigit", "(B)Z"⟩ : MethodName)) hown (mvT hZ (hw _ (mgE 44 rfl))) (mvT hZ (hw _ (mgE 45 rfl))) (mvT hZ (hw _ (mgE 2 rfl))) (mvT hZ (hw _ (mgE 46 rfl))) (by decide) (backOf (W := 0) (rm6 l Z a0 hw [] dt h134 n0 Z134 ) hZ (hw _ (mgE 46 rfl)) (hw _ (mgE 2 rfl)) (by decide) (by decide)) (g := (mkF m 399 #[.val (.int p1), .val (.int p2), .val (.int p3), .val (.int p4), .val (.int db0), .val (.int db1), .val (.int db2), .val (.int db3), .val (.int dt), .val (.int dc), .val (.int ppp), .val (.int frm), .val (.int len), .val (.int too), .val (.ref b30), .val (.long act), .second, .unset, .unset, .val (.long vv4), .second, .val (.int kk), .val (.int (0 : Int32)), .val (.int kk), .unset, .unset, .unset, .unset, .unset, .unset] [(.int dt)])) rfl (by rw [hml]; rfl) (argsL := [(.int dt)]) (rest := []) (lenOf pd__B_Z rfl) rfl (by show 2 * 0 + _ ≤ _; exact Nat.le_of_eq rfl) (hb hby at_399) (fun _ _ => ⟨rfl, e176, (by decide : 1 + 0 ≤ _), (by decide : 20 + 0 ≤ _)⟩)
          dsimp only [Pt.U, Pt.locs, Pt.cells, Pt.slots] at X214 l214 y214 z214 st214 hQ214
          have ly214 := l214.symm; subst ly214 y214 z214
          obtain ⟨rfl, N214q, e214⟩ := hQ214
          have pre215 : ∀ t, Steps p.tables e below (T214.setTop (mkF m 402 #[.val (.int p1), .val (.int p2), .val (.int p3), .val (.int p4), .val (.int db0), .val (.int db1), .val (.int db2), .val (.int db3), .val (.int dt), .val (.int dc), .val (.int ppp), .val (.int frm), .val (.int len), .val (.int too), .val (.ref b30), .val (.long act), .second, .unset, .unset, .val (.long vv4), .second, .val (.int kk), .val (.int (0 : Int32)), .val (.int kk), .unset, .unset, .unset, .unset, .unset, .unset] [(.int (r6 dt))])) t → Steps p.tables e below (s₁.setTop (entryFrame m #[(.int p1), (.int p2), (.int p3), (.int p4)] maxLocals)) t := fun t kt => pre213 t (st214 t kt)
          have N214 := Fr.app N176 N214q
          by_cases hc402 : (r6 dt) = (0 : Int32)
          · skip
            have hc499 : (lcmpW act (-1 : Int64)) = (0 : Int32) := own_badt txt frm len too ppp db0 db1 db2 db3 dt dc kk act hIn hc248 h_kk hc359 hc394 hc402
            have pre216 : ∀ t, Steps p.tables e below (T214.setTop (mkF m 507 #[.val (.int p1), .val (.int p2), .val (.int p3), .val (.int p4), .val (.int db0), .val (.int db1), .val (.int db2), .val (.int db3), .val (.int dt), .val (.int dc), .val (.int ppp), .val (.int frm), .val (.int len), .val (.int too), .val (.ref b30), .val (.long act), .second, .val (.long (-1 : Int64)), .second, .val (.long vv4), .second, .val (.int kk), .val (.int (0 : Int32)), .val (.int kk), .unset, .unset, .unset, .unset, .unset, .unset] [(.int (1 : Int32))])) t → Steps p.tables e below (s₁.setTop (entryFrame m #[(.int p1), (.int p2), (.int p3), (.int p4)] maxLocals)) t := fun t kt => by
              refine pre215 t ?_
              refine XS.ifYes X214.here hx rfl (pc0 := 402) (pc' := 418) rfl (hb hby at_402) rfl ((if0 _ _).trans (teq hc402).1) (by decide) (by decide) ?_
              show Steps p.tables e below (T214.setTop (mkF m 418 #[.val (.int p1), .val (.int p2), .val (.int p3), .val (.int p4), .val (.int db0), .val (.int db1), .val (.int db2), .val (.int db3), .val (.int dt), .val (.int dc), .val (.int ppp), .val (.int frm), .val (.int len), .val (.int too), .val (.ref b30), .val (.long act), .second, .unset, .unset, .val (.long vv4), .second, .val (.int kk), .val (.int (0 : Int32)), .val (.int kk), .unset, .unset, .unset, .unset, .unset, .unset] [])) _
              refine X214.ldc2Long hx hown (mvT hZ (hw _ (mgE 47 rfl))) (g := (mkF m 418 #[.val (.int p1), .val (.int p2), .val (.int p3), .val (.int p4), .val (.int db0), .val (.int db1), .val (.int db2), .val (.int db3), .val (.int dt), .val (.int dc), .val (.int ppp), .val (.int frm), .val (.int len), .val (.int too), .val (.ref b30), .val (.long act), .second, .unset, .unset, .val (.long vv4), .second, .val (.int kk), .val (.int (0 : Int32)), .val (.int kk), .unset, .unset, .unset, .unset, .unset, .unset] [])) rfl (hb hby at_418) _ ?_
              show Steps p.tables e below (T214.setTop (mkF m 421 #[.val (.int p1), .val (.int p2), .val (.int p3), .val (.int p4), .val (.int db0), .val (.int db1), .val (.int db2), .val (.int db3), .val (.int dt), .val (.int dc), .val (.int ppp), .val (.int frm), .val (.int len), .val (.int too), .val (.ref b30), .val (.long act), .second, .unset, .unset, .val (.long vv4), .second, .val (.int kk), .val (.int (0 : Int32)), .val (.int kk), .unset, .unset, .unset, .unset, .unset, .unset] [(.long (-1 : Int64))])) _
              refine XS.lstore X214.here hx rfl (hb hby at_421) rfl (l' := #[.val (.int p1), .val (.int p2), .val (.int p3), .val (.int p4), .val (.int db0), .val (.int db1), .val (.int db2), .val (.int db3), .val (.int dt), .val (.int dc), .val (.int ppp), .val (.int frm), .val (.int len), .val (.int too), .val (.ref b30), .val (.long act), .second, .val (.long (-1 : Int64)), .second, .val (.long vv4), .second, .val (.int kk), .val (.int (0 : Int32)), .val (.int kk), .unset, .unset, .unset, .unset, .unset, .unset]) rfl ?_
              show Steps p.tables e below (T214.setTop (mkF m 423 #[.val (.int p1), .val (.int p2), .val (.int p3), .val (.int p4), .val (.int db0), .val (.int db1), .val (.int db2), .val (.int db3), .val (.int dt), .val (.int dc), .val (.int ppp), .val (.int frm), .val (.int len), .val (.int too), .val (.ref b30), .val (.long act), .second, .val (.long (-1 : Int64)), .second, .val (.long vv4), .second, .val (.int kk), .val (.int (0 : Int32)), .val (.int kk), .unset, .unset, .unset, .unset, .unset, .unset] [])) _
              refine XS.goto X214.here hx rfl (pc0 := 423) (pc' := 494) rfl (hb hby at_423) (by decide) (by decide) ?_
              show Steps p.tables e below (T214.setTop (mkF m 494 #[.val (.int p1), .val (.int p2), .val (.int p3), .val (.int p4), .val (.int db0), .val (.int db1), .val (.int db2), .val (.int db3), .val (.int dt), .val (.int dc), .val (.int ppp), .val (.int frm), .val (.int len), .val (.int too), .val (.ref b30), .val (.long act), .second, .val (.long (-1 : Int64)), .second, .val (.long vv4), .second, .val (.int kk), .val (.int (0 : Int32)), .val (.int kk), .unset, .unset, .unset, .unset, .unset, .unset] [])) _
              refine XS.lload X214.here hx rfl (hb hby at_494) rfl ?_
              show Steps p.tables e below (T214.setTop (mkF m 496 #[.val (.int p1), .val (.int p2), .val (.int p3), .val (.int p4), .val (.int db0), .val (.int db1), .val (.int db2), .val (.int db3), .val (.int dt), .val (.int dc), .val (.int ppp), .val (.int frm), .val (.int len), .val (.int too), .val (.ref b30), .val (.long act), .second, .val (.long (-1 : Int64)), .second, .val (.long vv4), .second, .val (.int kk), .val (.int (0 : Int32)), .val (.int kk), .unset, .unset, .unset, .unset, .unset, .unset] [(.long act)])) _
              refine XS.lload X214.here hx rfl (hb hby at_496) rfl ?_
              show Steps p.tables e below (T214.setTop (mkF m 498 #[.val (.int p1), .val (.int p2), .val (.int p3), .val (.int p4), .val (.int db0), .val (.int db1), .val (.int db2), .val (.int db3), .val (.int dt), .val (.int dc), .val (.int ppp), .val (.int frm), .val (.int len), .val (.int too), .val (.ref b30), .val (.long act), .second, .val (.long (-1 : Int64)), .second, .val (.long vv4), .second, .val (.int kk), .val (.int (0 : Int32)), .val (.int kk), .unset, .unset, .unset, .unset, .unset, .unset] [(.long (-1 : Int64)), (.long act)])) _
              refine XS.lcmp X214.here hx rfl (hb hby at_498) rfl ?_
              show Steps p.tables e below (T214.setTop (mkF m 499 #[.val (.int p1), .val (.int p2), .val (.int p3), .val (.int p4), .val (.int db0), .val (.int db1), .val (.int db2), .val (.int db3), .val (.int dt), .val (.int dc), .val (.int ppp), .val (.int frm), .val (.int len), .val (.int too), .val (.ref b30), .val (.long act), .second, .val (.long (-1 : Int64)), .second, .val (.long vv4), .second, .val (.int kk), .val (.int (0 : Int32)), .val (.int kk), .unset, .unset, .unset, .unset, .unset, .unset] [(.int (lcmpW act (-1 : Int64)))])) _
              refine XS.ifNo X214.here hx rfl (hb hby at_499) rfl ((if0 _ _).trans (teq hc499).2) ?_
              show Steps p.tables e below (T214.setTop (mkF m 502 #[.val (.int p1), .val (.int p2), .val (.int p3), .val (.int p4), .val (.int db0), .val (.int db1), .val (.int db2), .val (.int db3), .val (.int dt), .val (.int dc), .val (.int ppp), .val (.int frm), .val (.int len), .val (.int too), .val (.ref b30), .val (.long act), .second, .val (.long (-1 : Int64)), .second, .val (.long vv4), .second, .val (.int kk), .val (.int (0 : Int32)), .val (.int kk), .unset, .unset, .unset, .unset, .unset, .unset] [])) _
              refine XS.iconst X214.here hx rfl (hb hby at_502) ?_
              show Steps p.tables e below (T214.setTop (mkF m 503 #[.val (.int p1), .val (.int p2), .val (.int p3), .val (.int p4), .val (.int db0), .val (.int db1), .val (.int db2), .val (.int db3), .val (.int dt), .val (.int dc), .val (.int ppp), .val (.int frm), .val (.int len), .val (.int too), .val (.ref b30), .val (.long act), .second, .val (.long (-1 : Int64)), .second, .val (.long vv4), .second, .val (.int kk), .val (.int (0 : Int32)), .val (.int kk), .unset, .unset, .unset, .unset, .unset, .unset] [(.int (1 : Int32))])) _
              refine XS.goto X214.here hx rfl (pc0 := 503) (pc' := 507) rfl (hb hby at_503) (by decide) (by decide) ?_
              show Steps p.tables e below (T214.setTop (mkF m 507 #[.val (.int p1), .val (.int p2), .val (.int p3), .val (.int p4), .val (.int db0), .val (.int db1), .val (.int db2), .val (.int db3), .val (.int dt), .val (.int dc), .val (.int ppp), .val (.int frm), .val (.int len), .val (.int too), .val (.ref b30), .val (.long act), .second, .val (.long (-1 : Int64)), .second, .val (.long vv4), .second, .val (.int kk), .val (.int (0 : Int32)), .val (.int kk), .unset, .unset, .unset, .unset, .unset, .unset] [(.int (1 : Int32))])) _
              exact kt
            obtain ⟨fs, hr, hrun, hended, hW, hsame⟩ := X214.leave (v := some (.int (1 : Int32))) (fun h => by rw [Bd.returns] at h; cases h) (BodyLoose.notSynchronized Bd)
            refine ⟨_, _, pre216 _ ?_, hrun, hended, _, _, rfl, ?_, ⟨_, rfl⟩, hW, hsame.mono (by decide) (by decide)⟩
            · exact retN X214 hx (t := .boolean) Bd.returns (by simp) (hb hby at_507) hr
            · show Q0 Z p1 p2 p3 p4 h0 n0 _ T214.heap _
              rw [e214]
              exact ⟨rfl, N214⟩
          · skip
            have pre217 : ∀ t, Steps p.tables e below (T214.setTop (mkF m 444 #[.val (.int p1), .val (.int p2), .val (.int p3), .val (.int p4), .val (.int db0), .val (.int db1), .val (.int db2), .val (.int db3), .val (.int dt), .val (.int dc), .val (.int ppp), .val (.int frm), .val (.int len), .val (.int too), .val (.ref b30), .val (.long act), .second, .unset, .unset, .val (.long vv4), .second, .val (.int kk), .val (.int (0 : Int32)), .val (.int kk), .val (.long ((dt - (48 : Int32)).toInt64)), .second, .val (.long ((dc - (48 : Int32)).toInt64)), .second, .unset, .unset] [(.int kk)])) t → Steps p.tables e below (s₁.setTop (entryFrame m #[(.int p1), (.int p2), (.int p3), (.int p4)] maxLocals)) t := fun t kt => by
              refine pre215 t ?_
              refine XS.ifNo X214.here hx rfl (hb hby at_402) rfl ((if0 _ _).trans (feq hc402).1) ?_
              show Steps p.tables e below (T214.setTop (mkF m 405 #[.val (.int p1), .val (.int p2), .val (.int p3), .val (.int p4), .val (.int db0), .val (.int db1), .val (.int db2), .val (.int db3), .val (.int dt), .val (.int dc), .val (.int ppp), .val (.int frm), .val (.int len), .val (.int too), .val (.ref b30), .val (.long act), .second, .unset, .unset, .val (.long vv4), .second, .val (.int kk), .val (.int (0 : Int32)), .val (.int kk), .unset, .unset, .unset, .unset, .unset, .unset] [])) _
              refine XS.iload X214.here hx rfl (hb hby at_405) rfl ?_
              show Steps p.tables e below (T214.setTop (mkF m 407 #[.val (.int p1), .val (.int p2), .val (.int p3), .val (.int p4), .val (.int db0), .val (.int db1), .val (.int db2), .val (.int db3), .val (.int dt), .val (.int dc), .val (.int ppp), .val (.int frm), .val (.int len), .val (.int too), .val (.ref b30), .val (.long act), .second, .unset, .unset, .val (.long vv4), .second, .val (.int kk), .val (.int (0 : Int32)), .val (.int kk), .unset, .unset, .unset, .unset, .unset, .unset] [(.int (0 : Int32))])) _
              refine XS.ifYes X214.here hx rfl (pc0 := 407) (pc' := 426) rfl (hb hby at_407) rfl ((if0 _ _).trans (teq (by decide : (0 : Int32) = (0 : Int32))).1) (by decide) (by decide) ?_
              show Steps p.tables e below (T214.setTop (mkF m 426 #[.val (.int p1), .val (.int p2), .val (.int p3), .val (.int p4), .val (.int db0), .val (.int db1), .val (.int db2), .val (.int db3), .val (.int dt), .val (.int dc), .val (.int ppp), .val (.int frm), .val (.int len), .val (.int too), .val (.ref b30), .val (.long act), .second, .unset, .unset, .val (.long vv4), .second, .val (.int kk), .val (.int (0 : Int32)), .val (.int kk), .unset, .unset, .unset, .unset, .unset, .unset] [])) _
              refine XS.iload X214.here hx rfl (hb hby at_426) rfl ?_
              show Steps p.tables e below (T214.setTop (mkF m 428 #[.val (.int p1), .val (.int p2), .val (.int p3), .val (.int p4), .val (.int db0), .val (.int db1), .val (.int db2), .val (.int db3), .val (.int dt), .val (.int dc), .val (.int ppp), .val (.int frm), .val (.int len), .val (.int too), .val (.ref b30), .val (.long act), .second, .unset, .unset, .val (.long vv4), .second, .val (.int kk), .val (.int (0 : Int32)), .val (.int kk), .unset, .unset, .unset, .unset, .unset, .unset] [(.int dt)])) _
              refine XS.bipush X214.here hx rfl (hb hby at_428) ?_
              show Steps p.tables e below (T214.setTop (mkF m 430 #[.val (.int p1), .val (.int p2), .val (.int p3), .val (.int p4), .val (.int db0), .val (.int db1), .val (.int db2), .val (.int db3), .val (.int dt), .val (.int dc), .val (.int ppp), .val (.int frm), .val (.int len), .val (.int too), .val (.ref b30), .val (.long act), .second, .unset, .unset, .val (.long vv4), .second, .val (.int kk), .val (.int (0 : Int32)), .val (.int kk), .unset, .unset, .unset, .unset, .unset, .unset] [(.int (48 : Int32)), (.int dt)])) _
              refine XS.isub X214.here hx rfl (hb hby at_430) rfl ?_
              show Steps p.tables e below (T214.setTop (mkF m 431 #[.val (.int p1), .val (.int p2), .val (.int p3), .val (.int p4), .val (.int db0), .val (.int db1), .val (.int db2), .val (.int db3), .val (.int dt), .val (.int dc), .val (.int ppp), .val (.int frm), .val (.int len), .val (.int too), .val (.ref b30), .val (.long act), .second, .unset, .unset, .val (.long vv4), .second, .val (.int kk), .val (.int (0 : Int32)), .val (.int kk), .unset, .unset, .unset, .unset, .unset, .unset] [(.int (dt - (48 : Int32)))])) _
              refine XS.i2l X214.here hx rfl (hb hby at_431) rfl ?_
              show Steps p.tables e below (T214.setTop (mkF m 432 #[.val (.int p1), .val (.int p2), .val (.int p3), .val (.int p4), .val (.int db0), .val (.int db1), .val (.int db2), .val (.int db3), .val (.int dt), .val (.int dc), .val (.int ppp), .val (.int frm), .val (.int len), .val (.int too), .val (.ref b30), .val (.long act), .second, .unset, .unset, .val (.long vv4), .second, .val (.int kk), .val (.int (0 : Int32)), .val (.int kk), .unset, .unset, .unset, .unset, .unset, .unset] [(.long ((dt - (48 : Int32)).toInt64))])) _
              refine XS.lstore X214.here hx rfl (hb hby at_432) rfl (l' := #[.val (.int p1), .val (.int p2), .val (.int p3), .val (.int p4), .val (.int db0), .val (.int db1), .val (.int db2), .val (.int db3), .val (.int dt), .val (.int dc), .val (.int ppp), .val (.int frm), .val (.int len), .val (.int too), .val (.ref b30), .val (.long act), .second, .unset, .unset, .val (.long vv4), .second, .val (.int kk), .val (.int (0 : Int32)), .val (.int kk), .val (.long ((dt - (48 : Int32)).toInt64)), .second, .unset, .unset, .unset, .unset]) rfl ?_
              show Steps p.tables e below (T214.setTop (mkF m 434 #[.val (.int p1), .val (.int p2), .val (.int p3), .val (.int p4), .val (.int db0), .val (.int db1), .val (.int db2), .val (.int db3), .val (.int dt), .val (.int dc), .val (.int ppp), .val (.int frm), .val (.int len), .val (.int too), .val (.ref b30), .val (.long act), .second, .unset, .unset, .val (.long vv4), .second, .val (.int kk), .val (.int (0 : Int32)), .val (.int kk), .val (.long ((dt - (48 : Int32)).toInt64)), .second, .unset, .unset, .unset, .unset] [])) _
              refine XS.iload X214.here hx rfl (hb hby at_434) rfl ?_
              show Steps p.tables e below (T214.setTop (mkF m 436 #[.val (.int p1), .val (.int p2), .val (.int p3), .val (.int p4), .val (.int db0), .val (.int db1), .val (.int db2), .val (.int db3), .val (.int dt), .val (.int dc), .val (.int ppp), .val (.int frm), .val (.int len), .val (.int too), .val (.ref b30), .val (.long act), .second, .unset, .unset, .val (.long vv4), .second, .val (.int kk), .val (.int (0 : Int32)), .val (.int kk), .val (.long ((dt - (48 : Int32)).toInt64)), .second, .unset, .unset, .unset, .unset] [(.int dc)])) _
              refine XS.bipush X214.here hx rfl (hb hby at_436) ?_
              show Steps p.tables e below (T214.setTop (mkF m 438 #[.val (.int p1), .val (.int p2), .val (.int p3), .val (.int p4), .val (.int db0), .val (.int db1), .val (.int db2), .val (.int db3), .val (.int dt), .val (.int dc), .val (.int ppp), .val (.int frm), .val (.int len), .val (.int too), .val (.ref b30), .val (.long act), .second, .unset, .unset, .val (.long vv4), .second, .val (.int kk), .val (.int (0 : Int32)), .val (.int kk), .val (.long ((dt - (48 : Int32)).toInt64)), .second, .unset, .unset, .unset, .unset] [(.int (48 : Int32)), (.int dc)])) _
              refine XS.isub X214.here hx rfl (hb hby at_438) rfl ?_
              show Steps p.tables e below (T214.setTop (mkF m 439 #[.val (.int p1), .val (.int p2), .val (.int p3), .val (.int p4), .val (.int db0), .val (.int db1), .val (.int db2), .val (.int db3), .val (.int dt), .val (.int dc), .val (.int ppp), .val (.int frm), .val (.int len), .val (.int too), .val (.ref b30), .val (.long act), .second, .unset, .unset, .val (.long vv4), .second, .val (.int kk), .val (.int (0 : Int32)), .val (.int kk), .val (.long ((dt - (48 : Int32)).toInt64)), .second, .unset, .unset, .unset, .unset] [(.int (dc - (48 : Int32)))])) _
              refine XS.i2l X214.here hx rfl (hb hby at_439) rfl ?_
              show Steps p.tables e below (T214.setTop (mkF m 440 #[.val (.int p1), .val (.int p2), .val (.int p3), .val (.int p4), .val (.int db0), .val (.int db1), .val (.int db2), .val (.int db3), .val (.int dt), .val (.int dc), .val (.int ppp), .val (.int frm), .val (.int len), .val (.int too), .val (.ref b30), .val (.long act), .second, .unset, .unset, .val (.long vv4), .second, .val (.int kk), .val (.int (0 : Int32)), .val (.int kk), .val (.long ((dt - (48 : Int32)).toInt64)), .second, .unset, .unset, .unset, .unset] [(.long ((dc - (48 : Int32)).toInt64))])) _
              refine XS.lstore X214.here hx rfl (hb hby at_440) rfl (l' := #[.val (.int p1), .val (.int p2), .val (.int p3), .val (.int p4), .val (.int db0), .val (.int db1), .val (.int db2), .val (.int db3), .val (.int dt), .val (.int dc), .val (.int ppp), .val (.int frm), .val (.int len), .val (.int too), .val (.ref b30), .val (.long act), .second, .unset, .unset, .val (.long vv4), .second, .val (.int kk), .val (.int (0 : Int32)), .val (.int kk), .val (.long ((dt - (48 : Int32)).toInt64)), .second, .val (.long ((dc - (48 : Int32)).toInt64)), .second, .unset, .unset]) rfl ?_
              show Steps p.tables e below (T214.setTop (mkF m 442 #[.val (.int p1), .val (.int p2), .val (.int p3), .val (.int p4), .val (.int db0), .val (.int db1), .val (.int db2), .val (.int db3), .val (.int dt), .val (.int dc), .val (.int ppp), .val (.int frm), .val (.int len), .val (.int too), .val (.ref b30), .val (.long act), .second, .unset, .unset, .val (.long vv4), .second, .val (.int kk), .val (.int (0 : Int32)), .val (.int kk), .val (.long ((dt - (48 : Int32)).toInt64)), .second, .val (.long ((dc - (48 : Int32)).toInt64)), .second, .unset, .unset] [])) _
              refine XS.iload X214.here hx rfl (hb hby at_442) rfl ?_
              show Steps p.tables e below (T214.setTop (mkF m 444 #[.val (.int p1), .val (.int p2), .val (.int p3), .val (.int p4), .val (.int db0), .val (.int db1), .val (.int db2), .val (.int db3), .val (.int dt), .val (.int dc), .val (.int ppp), .val (.int frm), .val (.int len), .val (.int too), .val (.ref b30), .val (.long act), .second, .unset, .unset, .val (.long vv4), .second, .val (.int kk), .val (.int (0 : Int32)), .val (.int kk), .val (.long ((dt - (48 : Int32)).toInt64)), .second, .val (.long ((dc - (48 : Int32)).toInt64)), .second, .unset, .unset] [(.int kk)])) _
              exact kt
            obtain ⟨_, _, ⟨T218, L218, k218, n218⟩, -, X218, ⟨Lc218, hQ218, l218, y218, z218⟩, st218⟩ := Jvm.LawKit.callS X214 hx (y := (⟨"com/example/entgelt/entgelt/io/FieldFormsDigitsPinLaw", "pow10", "(I)J"⟩ : MethodName)) hown (mvT hZ (hw _ (mgE 15 rfl))) (mvT hZ (hw _ (mgE 16 rfl))) (mvT hZ (hw _ (mgE 2 rfl))) (mvT hZ (hw _ (mgE 17 rfl))) (by decide) (backOf (W := 0) (rm4 l Z a0 hw [] kk h134 n0 Z134 (own_k19 too kk (own_t0 frm len too hfrm hlen htoo) h_kk)) hZ (hw _ (mgE 17 rfl)) (hw _ (mgE 2 rfl)) (by decide) (by decide)) (g := (mkF m 444 #[.val (.int p1), .val (.int p2), .val (.int p3), .val (.int p4), .val (.int db0), .val (.int db1), .val (.int db2), .val (.int db3), .val (.int dt), .val (.int dc), .val (.int ppp), .val (.int frm), .val (.int len), .val (.int too), .val (.ref b30), .val (.long act), .second, .unset, .unset, .val (.long vv4), .second, .val (.int kk), .val (.int (0 : Int32)), .val (.int kk), .val (.long ((dt - (48 : Int32)).toInt64)), .second, .val (.long ((dc - (48 : Int32)).toInt64)), .second, .unset, .unset] [(.int kk)])) rfl (by rw [hml]; rfl) (argsL := [(.int kk)]) (rest := []) (lenOf pd__I_J rfl) rfl (by show 2 * 0 + _ ≤ _; exact Nat.le_of_eq rfl) (hb hby at_444) (fun _ _ => ⟨rfl, e214, (by decide : 1 + 1 ≤ _), (by decide : 20 + 19 ≤ _)⟩)
            dsimp only [Pt.U, Pt.locs, Pt.cells, Pt.slots] at X218 l218 y218 z218 st218 hQ218
            have ly218 := l218.symm; subst ly218 y218 z218
            obtain ⟨rfl, N218q, K218⟩ := hQ218
            have pre220 : ∀ t, Steps p.tables e below (T218.setTop (mkF m 447 #[.val (.int p1), .val (.int p2), .val (.int p3), .val (.int p4), .val (.int db0), .val (.int db1), .val (.int db2), .val (.int db3), .val (.int dt), .val (.int dc), .val (.int ppp), .val (.int frm), .val (.int len), .val (.int too), .val (.ref b30), .val (.long act), .second, .unset, .unset, .val (.long vv4), .second, .val (.int kk), .val (.int (0 : Int32)), .val (.int kk), .val (.long ((dt - (48 : Int32)).toInt64)), .second, .val (.long ((dc - (48 : Int32)).toInt64)), .second, .unset, .unset] [(.long (p10 kk))])) t → Steps p.tables e below (s₁.setTop (entryFrame m #[(.int p1), (.int p2), (.int p3), (.int p4)] maxLocals)) t := fun t kt => pre217 t (st218 t kt)
            have N218 := Fr.app N214 N218q
            have pre221 : ∀ t, Steps p.tables e below (T218.setTop (mkF m 449 #[.val (.int p1), .val (.int p2), .val (.int p3), .val (.int p4), .val (.int db0), .val (.int db1), .val (.int db2), .val (.int db3), .val (.int dt), .val (.int dc), .val (.int ppp), .val (.int frm), .val (.int len), .val (.int too), .val (.ref b30), .val (.long act), .second, .unset, .unset, .val (.long vv4), .second, .val (.int kk), .val (.int (0 : Int32)), .val (.int kk), .val (.long ((dt - (48 : Int32)).toInt64)), .second, .val (.long ((dc - (48 : Int32)).toInt64)), .second, .val (.long (p10 kk)), .second] [])) t → Steps p.tables e below (s₁.setTop (entryFrame m #[(.int p1), (.int p2), (.int p3), (.int p4)] maxLocals)) t := fun t kt => by
              refine pre220 t ?_
              refine XS.lstore X218.here hx rfl (hb hby at_447) rfl (l' := #[.val (.int p1), .val (.int p2), .val (.int p3), .val (.int p4), .val (.int db0), .val (.int db1), .val (.int db2), .val (.int db3), .val (.int dt), .val (.int dc), .val (.int ppp), .val (.int frm), .val (.int len), .val (.int too), .val (.ref b30), .val (.long act), .second, .unset, .unset, .val (.long vv4), .second, .val (.int kk), .val (.int (0 : Int32)), .val (.int kk), .val (.long ((dt - (48 : Int32)).toInt64)), .second, .val (.long ((dc - (48 : Int32)).toInt64)), .second, .val (.long (p10 kk)), .second]) rfl ?_
              show Steps p.tables e below (T218.setTop (mkF m 449 #[.val (.int p1), .val (.int p2), .val (.int p3), .val (.int p4), .val (.int db0), .val (.int db1), .val (.int db2), .val (.int db3), .val (.int dt), .val (.int dc), .val (.int ppp), .val (.int frm), .val (.int len), .val (.int too), .val (.ref b30), .val (.long act), .second, .unset, .unset, .val (.long vv4), .second, .val (.int kk), .val (.int (0 : Int32)), .val (.int kk), .val (.long ((dt - (48 : Int32)).toInt64)), .second, .val (.long ((dc - (48 : Int32)).toInt64)), .second, .val (.long (p10 kk)), .second] [])) _
              exact kt
            obtain ⟨pk, h_pk⟩ : ∃ z, z = (p10 kk) := ⟨_, rfl⟩
            rw [← h_pk] at pre221
            have hc499 : (lcmpW act (((vv4 * pk) + (((dt - (48 : Int32)).toInt64) * ((pk - (1 : Int64)) / (9 : Int64)))) + (0 : Int64))) = (0 : Int32) := own_good0 txt frm len too ppp db0 db1 db2 db3 dt dc kk act vv1 vv2 vv3 vv4 hIn ⟨h_vv1, h_vv2, h_vv3, h_vv4⟩ hc248 h_kk hc389 pk h_pk hc359 (fun _ => hc402)
            have pre222 : ∀ t, Steps p.tables e below (T218.setTop (mkF m 507 #[.val (.int p1), .val (.int p2), .val (.int p3), .val (.int p4), .val (.int db0), .val (.int db1), .val (.int db2), .val (.int db3), .val (.int dt), .val (.int dc), .val (.int ppp), .val (.int frm), .val (.int len), .val (.int too), .val (.ref b30), .val (.long act), .second, .val (.long (((vv4 * pk) + (((dt - (48 : Int32)).toInt64) * ((pk - (1 : Int64)) / (9 : Int64)))) + (0 : Int64))), .second, .val (.long vv4), .second, .val (.int kk), .val (.int (0 : Int32)), .val (.int kk), .val (.long ((dt - (48 : Int32)).toInt64)), .second, .val (.long ((dc - (48 : Int32)).toInt64)), .second, .val (.long pk), .second] [(.int (1 : Int32))])) t → Steps p.tables e below (s₁.setTop (entryFrame m #[(.int p1), (.int p2), (.int p3), (.int p4)] maxLocals)) t := fun t kt => by
              refine pre221 t ?_
              refine XS.lload X218.here hx rfl (hb hby at_449) rfl ?_
              show Steps p.tables e below (T218.setTop (mkF m 451 #[.val (.int p1), .val (.int p2), .val (.int p3), .val (.int p4), .val (.int db0), .val (.int db1), .val (.int db2), .val (.int db3), .val (.int dt), .val (.int dc), .val (.int ppp), .val (.int frm), .val (.int len), .val (.int too), .val (.ref b30), .val (.long act), .second, .unset, .unset, .val (.long vv4), .second, .val (.int kk), .val (.int (0 : Int32)), .val (.int kk), .val (.long ((dt - (48 : Int32)).toInt64)), .second, .val (.long ((dc - (48 : Int32)).toInt64)), .second, .val (.long pk), .second] [(.long vv4)])) _
              refine XS.lload X218.here hx rfl (hb hby at_451) rfl ?_
              show Steps p.tables e below (T218.setTop (mkF m 453 #[.val (.int p1), .val (.int p2), .val (.int p3), .val (.int p4), .val (.int db0), .val (.int db1), .val (.int db2), .val (.int db3), .val (.int dt), .val (.int dc), .val (.int ppp), .val (.int frm), .val (.int len), .val (.int too), .val (.ref b30), .val (.long act), .second, .unset, .unset, .val (.long vv4), .second, .val (.int kk), .val (.int (0 : Int32)), .val (.int kk), .val (.long ((dt - (48 : Int32)).toInt64)), .second, .val (.long ((dc - (48 : Int32)).toInt64)), .second, .val (.long pk), .second] [(.long pk), (.long vv4)])) _
              refine XS.lmul X218.here hx rfl (hb hby at_453) rfl ?_
              show Steps p.tables e below (T218.setTop (mkF m 454 #[.val (.int p1), .val (.int p2), .val (.int p3), .val (.int p4), .val (.int db0), .val (.int db1), .val (.int db2), .val (.int db3), .val (.int dt), .val (.int dc), .val (.int ppp), .val (.int frm), .val (.int len), .val (.int too), .val (.ref b30), .val (.long act), .second, .unset, .unset, .val (.long vv4), .second, .val (.int kk), .val (.int (0 : Int32)), .val (.int kk), .val (.long ((dt - (48 : Int32)).toInt64)), .second, .val (.long ((dc - (48 : Int32)).toInt64)), .second, .val (.long pk), .second] [(.long (vv4 * pk))])) _
              refine XS.lload X218.here hx rfl (hb hby at_454) rfl ?_
              show Steps p.tables e below (T218.setTop (mkF m 456 #[.val (.int p1), .val (.int p2), .val (.int p3), .val (.int p4), .val (.int db0), .val (.int db1), .val (.int db2), .val (.int db3), .val (.int dt), .val (.int dc), .val (.int ppp), .val (.int frm), .val (.int len), .val (.int too), .val (.ref b30), .val (.long act), .second, .unset, .unset, .val (.long vv4), .second, .val (.int kk), .val (.int (0 : Int32)), .val (.int kk), .val (.long ((dt - (48 : Int32)).toInt64)), .second, .val (.long ((dc - (48 : Int32)).toInt64)), .second, .val (.long pk), .second] [(.long ((dt - (48 : Int32)).toInt64)), (.long (vv4 * pk))])) _
              refine XS.lload X218.here hx rfl (hb hby at_456) rfl ?_
              show Steps p.tables e below (T218.setTop (mkF m 458 #[.val (.int p1), .val (.int p2), .val (.int p3), .val (.int p4), .val (.int db0), .val (.int db1), .val (.int db2), .val (.int db3), .val (.int dt), .val (.int dc), .val (.int ppp), .val (.int frm), .val (.int len), .val (.int too), .val (.ref b30), .val (.long act), .second, .unset, .unset, .val (.long vv4), .second, .val (.int kk), .val (.int (0 : Int32)), .val (.int kk), .val (.long ((dt - (48 : Int32)).toInt64)), .second, .val (.long ((dc - (48 : Int32)).toInt64)), .second, .val (.long pk), .second] [(.long pk), (.long ((dt - (48 : Int32)).toInt64)), (.long (vv4 * pk))])) _
              refine XS.lconst X218.here hx rfl (hb hby at_458) ?_
              show Steps p.tables e below (T218.setTop (mkF m 459 #[.val (.int p1), .val (.int p2), .val (.int p3), .val (.int p4), .val (.int db0), .val (.int db1), .val (.int db2), .val (.int db3), .val (.int dt), .val (.int dc), .val (.int ppp), .val (.int frm), .val (.int len), .val (.int too), .val (.ref b30), .val (.long act), .second, .unset, .unset, .val (.long vv4), .second, .val (.int kk), .val (.int (0 : Int32)), .val (.int kk), .val (.long ((dt - (48 : Int32)).toInt64)), .second, .val (.long ((dc - (48 : Int32)).toInt64)), .second, .val (.long pk), .second] [(.long (1 : Int64)), (.long pk), (.long ((dt - (48 : Int32)).toInt64)), (.long (vv4 * pk))])) _
              refine XS.lsub X218.here hx rfl (hb hby at_459) rfl ?_
              show Steps p.tables e below (T218.setTop (mkF m 460 #[.val (.int p1), .val (.int p2), .val (.int p3), .val (.int p4), .val (.int db0), .val (.int db1), .val (.int db2), .val (.int db3), .val (.int dt), .val (.int dc), .val (.int ppp), .val (.int frm), .val (.int len), .val (.int too), .val (.ref b30), .val (.long act), .second, .unset, .unset, .val (.long vv4), .second, .val (.int kk), .val (.int (0 : Int32)), .val (.int kk), .val (.long ((dt - (48 : Int32)).toInt64)), .second, .val (.long ((dc - (48 : Int32)).toInt64)), .second, .val (.long pk), .second] [(.long (pk - (1 : Int64))), (.long ((dt - (48 : Int32)).toInt64)), (.long (vv4 * pk))])) _
              refine X218.ldc2Long hx hown (mvT hZ (hw _ (mgE 37 rfl))) (g := (mkF m 460 #[.val (.int p1), .val (.int p2), .val (.int p3), .val (.int p4), .val (.int db0), .val (.int db1), .val (.int db2), .val (.int db3), .val (.int dt), .val (.int dc), .val (.int ppp), .val (.int frm), .val (.int len), .val (.int too), .val (.ref b30), .val (.long act), .second, .unset, .unset, .val (.long vv4), .second, .val (.int kk), .val (.int (0 : Int32)), .val (.int kk), .val (.long ((dt - (48 : Int32)).toInt64)), .second, .val (.long ((dc - (48 : Int32)).toInt64)), .second, .val (.long pk), .second] [(.long (pk - (1 : Int64))), (.long ((dt - (48 : Int32)).toInt64)), (.long (vv4 * pk))])) rfl (hb hby at_460) _ ?_
              show Steps p.tables e below (T218.setTop (mkF m 463 #[.val (.int p1), .val (.int p2), .val (.int p3), .val (.int p4), .val (.int db0), .val (.int db1), .val (.int db2), .val (.int db3), .val (.int dt), .val (.int dc), .val (.int ppp), .val (.int frm), .val (.int len), .val (.int too), .val (.ref b30), .val (.long act), .second, .unset, .unset, .val (.long vv4), .second, .val (.int kk), .val (.int (0 : Int32)), .val (.int kk), .val (.long ((dt - (48 : Int32)).toInt64)), .second, .val (.long ((dc - (48 : Int32)).toInt64)), .second, .val (.long pk), .second] [(.long (9 : Int64)), (.long (pk - (1 : Int64))), (.long ((dt - (48 : Int32)).toInt64)), (.long (vv4 * pk))])) _
              have hnz463 : ¬ ((9 : Int64) = (0 : Int64)) := by decide
              refine XS.ldiv X218.here hx rfl (hb hby at_463) rfl hnz463 ?_
              show Steps p.tables e below (T218.setTop (mkF m 464 #[.val (.int p1), .val (.int p2), .val (.int p3), .val (.int p4), .val (.int db0), .val (.int db1), .val (.int db2), .val (.int db3), .val (.int dt), .val (.int dc), .val (.int ppp), .val (.int frm), .val (.int len), .val (.int too), .val (.ref b30), .val (.long act), .second, .unset, .unset, .val (.long vv4), .second, .val (.int kk), .val (.int (0 : Int32)), .val (.int kk), .val (.long ((dt - (48 : Int32)).toInt64)), .second, .val (.long ((dc - (48 : Int32)).toInt64)), .second, .val (.long pk), .second] [(.long ((pk - (1 : Int64)) / (9 : Int64))), (.long ((dt - (48 : Int32)).toInt64)), (.long (vv4 * pk))])) _
              refine XS.lmul X218.here hx rfl (hb hby at_464) rfl ?_
              show Steps p.tables e below (T218.setTop (mkF m 465 #[.val (.int p1), .val (.int p2), .val (.int p3), .val (.int p4), .val (.int db0), .val (.int db1), .val (.int db2), .val (.int db3), .val (.int dt), .val (.int dc), .val (.int ppp), .val (.int frm), .val (.int len), .val (.int too), .val (.ref b30), .val (.long act), .second, .unset, .unset, .val (.long vv4), .second, .val (.int kk), .val (.int (0 : Int32)), .val (.int kk), .val (.long ((dt - (48 : Int32)).toInt64)), .second, .val (.long ((dc - (48 : Int32)).toInt64)), .second, .val (.long pk), .second] [(.long (((dt - (48 : Int32)).toInt64) * ((pk - (1 : Int64)) / (9 : Int64)))), (.long (vv4 * pk))])) _
              refine XS.ladd X218.here hx rfl (hb hby at_465) rfl ?_
              show Steps p.tables e below (T218.setTop (mkF m 466 #[.val (.int p1), .val (.int p2), .val (.int p3), .val (.int p4), .val (.int db0), .val (.int db1), .val (.int db2), .val (.int db3), .val (.int dt), .val (.int dc), .val (.int ppp), .val (.int frm), .val (.int len), .val (.int too), .val (.ref b30), .val (.long act), .second, .unset, .unset, .val (.long vv4), .second, .val (.int kk), .val (.int (0 : Int32)), .val (.int kk), .val (.long ((dt - (48 : Int32)).toInt64)), .second, .val (.long ((dc - (48 : Int32)).toInt64)), .second, .val (.long pk), .second] [(.long ((vv4 * pk) + (((dt - (48 : Int32)).toInt64) * ((pk - (1 : Int64)) / (9 : Int64)))))])) _
              refine XS.iload X218.here hx rfl (hb hby at_466) rfl ?_
              show Steps p.tables e below (T218.setTop (mkF m 468 #[.val (.int p1), .val (.int p2), .val (.int p3), .val (.int p4), .val (.int db0), .val (.int db1), .val (.int db2), .val (.int db3), .val (.int dt), .val (.int dc), .val (.int ppp), .val (.int frm), .val (.int len), .val (.int too), .val (.ref b30), .val (.long act), .second, .unset, .unset, .val (.long vv4), .second, .val (.int kk), .val (.int (0 : Int32)), .val (.int kk), .val (.long ((dt - (48 : Int32)).toInt64)), .second, .val (.long ((dc - (48 : Int32)).toInt64)), .second, .val (.long pk), .second] [(.int (0 : Int32)), (.long ((vv4 * pk) + (((dt - (48 : Int32)).toInt64) * ((pk - (1 : Int64)) / (9 : Int64)))))])) _
              refine XS.ifYes X218.here hx rfl (pc0 := 468) (pc' := 490) rfl (hb hby at_468) rfl ((if0 _ _).trans (teq (by decide : (0 : Int32) = (0 : Int32))).1) (by decide) (by decide) ?_
              show Steps p.tables e below (T218.setTop (mkF m 490 #[.val (.int p1), .val (.int p2), .val (.int p3), .val (.int p4), .val (.int db0), .val (.int db1), .val (.int db2), .val (.int db3), .val (.int dt), .val (.int dc), .val (.int ppp), .val (.int frm), .val (.int len), .val (.int too), .val (.ref b30), .val (.long act), .second, .unset, .unset, .val (.long vv4), .second, .val (.int kk), .val (.int (0 : Int32)), .val (.int kk), .val (.long ((dt - (48 : Int32)).toInt64)), .second, .val (.long ((dc - (48 : Int32)).toInt64)), .second, .val (.long pk), .second] [(.long ((vv4 * pk) + (((dt - (48 : Int32)).toInt64) * ((pk - (1 : Int64)) / (9 : Int64)))))])) _
              refine XS.lconst X218.here hx rfl (hb hby at_490) ?_
              show Steps p.tables e below (T218.setTop (mkF m 491 #[.val (.int p1), .val (.int p2), .val (.int p3), .val (.int p4), .val (.int db0), .val (.int db1), .val (.int db2), .val (.int db3), .val (.int dt), .val (.int dc), .val (.int ppp), .val (.int frm), .val (.int len), .val (.int too), .val (.ref b30), .val (.long act), .second, .unset, .unset, .val (.long vv4), .second, .val (.int kk), .val (.int (0 : Int32)), .val (.int kk), .val (.long ((dt - (48 : Int32)).toInt64)), .second, .val (.long ((dc - (48 : Int32)).toInt64)), .second, .val (.long pk), .second] [(.long (0 : Int64)), (.long ((vv4 * pk) + (((dt - (48 : Int32)).toInt64) * ((pk - (1 : Int64)) / (9 : Int64)))))])) _
              refine XS.ladd X218.here hx rfl (hb hby at_491) rfl ?_
              show Steps p.tables e below (T218.setTop (mkF m 492 #[.val (.int p1), .val (.int p2), .val (.int p3), .val (.int p4), .val (.int db0), .val (.int db1), .val (.int db2), .val (.int db3), .val (.int dt), .val (.int dc), .val (.int ppp), .val (.int frm), .val (.int len), .val (.int too), .val (.ref b30), .val (.long act), .second, .unset, .unset, .val (.long vv4), .second, .val (.int kk), .val (.int (0 : Int32)), .val (.int kk), .val (.long ((dt - (48 : Int32)).toInt64)), .second, .val (.long ((dc - (48 : Int32)).toInt64)), .second, .val (.long pk), .second] [(.long (((vv4 * pk) + (((dt - (48 : Int32)).toInt64) * ((pk - (1 : Int64)) / (9 : Int64)))) + (0 : Int64)))])) _
              refine XS.lstore X218.here hx rfl (hb hby at_492) rfl (l' := #[.val (.int p1), .val (.int p2), .val (.int p3), .val (.int p4), .val (.int db0), .val (.int db1), .val (.int db2), .val (.int db3), .val (.int dt), .val (.int dc), .val (.int ppp), .val (.int frm), .val (.int len), .val (.int too), .val (.ref b30), .val (.long act), .second, .val (.long (((vv4 * pk) + (((dt - (48 : Int32)).toInt64) * ((pk - (1 : Int64)) / (9 : Int64)))) + (0 : Int64))), .second, .val (.long vv4), .second, .val (.int kk), .val (.int (0 : Int32)), .val (.int kk), .val (.long ((dt - (48 : Int32)).toInt64)), .second, .val (.long ((dc - (48 : Int32)).toInt64)), .second, .val (.long pk), .second]) rfl ?_
              show Steps p.tables e below (T218.setTop (mkF m 494 #[.val (.int p1), .val (.int p2), .val (.int p3), .val (.int p4), .val (.int db0), .val (.int db1), .val (.int db2), .val (.int db3), .val (.int dt), .val (.int dc), .val (.int ppp), .val (.int frm), .val (.int len), .val (.int too), .val (.ref b30), .val (.long act), .second, .val (.long (((vv4 * pk) + (((dt - (48 : Int32)).toInt64) * ((pk - (1 : Int64)) / (9 : Int64)))) + (0 : Int64))), .second, .val (.long vv4), .second, .val (.int kk), .val (.int (0 : Int32)), .val (.int kk), .val (.long ((dt - (48 : Int32)).toInt64)), .second, .val (.long ((dc - (48 : Int32)).toInt64)), .second, .val (.long pk), .second] [])) _
              refine XS.lload X218.here hx rfl (hb hby at_494) rfl ?_
              show Steps p.tables e below (T218.setTop (mkF m 496 #[.val (.int p1), .val (.int p2), .val (.int p3), .val (.int p4), .val (.int db0), .val (.int db1), .val (.int db2), .val (.int db3), .val (.int dt), .val (.int dc), .val (.int ppp), .val (.int frm), .val (.int len), .val (.int too), .val (.ref b30), .val (.long act), .second, .val (.long (((vv4 * pk) + (((dt - (48 : Int32)).toInt64) * ((pk - (1 : Int64)) / (9 : Int64)))) + (0 : Int64))), .second, .val (.long vv4), .second, .val (.int kk), .val (.int (0 : Int32)), .val (.int kk), .val (.long ((dt - (48 : Int32)).toInt64)), .second, .val (.long ((dc - (48 : Int32)).toInt64)), .second, .val (.long pk), .second] [(.long act)])) _
              refine XS.lload X218.here hx rfl (hb hby at_496) rfl ?_
              show Steps p.tables e below (T218.setTop (mkF m 498 #[.val (.int p1), .val (.int p2), .val (.int p3), .val (.int p4), .val (.int db0), .val (.int db1), .val (.int db2), .val (.int db3), .val (.int dt), .val (.int dc), .val (.int ppp), .val (.int frm), .val (.int len), .val (.int too), .val (.ref b30), .val (.long act), .second, .val (.long (((vv4 * pk) + (((dt - (48 : Int32)).toInt64) * ((pk - (1 : Int64)) / (9 : Int64)))) + (0 : Int64))), .second, .val (.long vv4), .second, .val (.int kk), .val (.int (0 : Int32)), .val (.int kk), .val (.long ((dt - (48 : Int32)).toInt64)), .second, .val (.long ((dc - (48 : Int32)).toInt64)), .second, .val (.long pk), .second] [(.long (((vv4 * pk) + (((dt - (48 : Int32)).toInt64) * ((pk - (1 : Int64)) / (9 : Int64)))) + (0 : Int64))), (.long act)])) _
              refine XS.lcmp X218.here hx rfl (hb hby at_498) rfl ?_
              show Steps p.tables e below (T218.setTop (mkF m 499 #[.val (.int p1), .val (.int p2), .val (.int p3), .val (.int p4), .val (.int db0), .val (.int db1), .val (.int db2), .val (.int db3), .val (.int dt), .val (.int dc), .val (.int ppp), .val (.int frm), .val (.int len), .val (.int too), .val (.ref b30), .val (.long act), .second, .val (.long (((vv4 * pk) + (((dt - (48 : Int32)).toInt64) * ((pk - (1 : Int64)) / (9 : Int64)))) + (0 : Int64))), .second, .val (.long vv4), .second, .val (.int kk), .val (.int (0 : Int32)), .val (.int kk), .val (.long ((dt - (48 : Int32)).toInt64)), .second, .val (.long ((dc - (48 : Int32)).toInt64)), .second, .val (.long pk), .second] [(.int (lcmpW act (((vv4 * pk) + (((dt - (48 : Int32)).toInt64) * ((pk - (1 : Int64)) / (9 : Int64)))) + (0 : Int64))))])) _
              refine XS.ifNo X218.here hx rfl (hb hby at_499) rfl ((if0 _ _).trans (teq hc499).2) ?_
              show Steps p.tables e below (T218.setTop (mkF m 502 #[.val (.int p1), .val (.int p2), .val (.int p3), .val (.int p4), .val (.int db0), .val (.int db1), .val (.int db2), .val (.int db3), .val (.int dt), .val (.int dc), .val (.int ppp), .val (.int frm), .val (.int len), .val (.int too), .val (.ref b30), .val (.long act), .second, .val (.long (((vv4 * pk) + (((dt - (48 : Int32)).toInt64) * ((pk - (1 : Int64)) / (9 : Int64)))) + (0 : Int64))), .second, .val (.long vv4), .second, .val (.int kk), .val (.int (0 : Int32)), .val (.int kk), .val (.long ((dt - (48 : Int32)).toInt64)), .second, .val (.long ((dc - (48 : Int32)).toInt64)), .second, .val (.long pk), .second] [])) _
              refine XS.iconst X218.here hx rfl (hb hby at_502) ?_
              show Steps p.tables e below (T218.setTop (mkF m 503 #[.val (.int p1), .val (.int p2), .val (.int p3), .val (.int p4), .val (.int db0), .val (.int db1), .val (.int db2), .val (.int db3), .val (.int dt), .val (.int dc), .val (.int ppp), .val (.int frm), .val (.int len), .val (.int too), .val (.ref b30), .val (.long act), .second, .val (.long (((vv4 * pk) + (((dt - (48 : Int32)).toInt64) * ((pk - (1 : Int64)) / (9 : Int64)))) + (0 : Int64))), .second, .val (.long vv4), .second, .val (.int kk), .val (.int (0 : Int32)), .val (.int kk), .val (.long ((dt - (48 : Int32)).toInt64)), .second, .val (.long ((dc - (48 : Int32)).toInt64)), .second, .val (.long pk), .second] [(.int (1 : Int32))])) _
              refine XS.goto X218.here hx rfl (pc0 := 503) (pc' := 507) rfl (hb hby at_503) (by decide) (by decide) ?_
              show Steps p.tables e below (T218.setTop (mkF m 507 #[.val (.int p1), .val (.int p2), .val (.int p3), .val (.int p4), .val (.int db0), .val (.int db1), .val (.int db2), .val (.int db3), .val (.int dt), .val (.int dc), .val (.int ppp), .val (.int frm), .val (.int len), .val (.int too), .val (.ref b30), .val (.long act), .second, .val (.long (((vv4 * pk) + (((dt - (48 : Int32)).toInt64) * ((pk - (1 : Int64)) / (9 : Int64)))) + (0 : Int64))), .second, .val (.long vv4), .second, .val (.int kk), .val (.int (0 : Int32)), .val (.int kk), .val (.long ((dt - (48 : Int32)).toInt64)), .second, .val (.long ((dc - (48 : Int32)).toInt64)), .second, .val (.long pk), .second] [(.int (1 : Int32))])) _
              exact kt
            obtain ⟨fs, hr, hrun, hended, hW, hsame⟩ := X218.leave (v := some (.int (1 : Int32))) (fun h => by rw [Bd.returns] at h; cases h) (BodyLoose.notSynchronized Bd)
            refine ⟨_, _, pre222 _ ?_, hrun, hended, _, _, rfl, ?_, ⟨_, rfl⟩, hW, hsame.mono (by decide) (by decide)⟩
            · exact retN X218 hx (t := .boolean) Bd.returns (by simp) (hb hby at_507) hr
            · show Q0 Z p1 p2 p3 p4 h0 n0 _ T218.heap _
              exact ⟨rfl, N218⟩
        · skip
          have pre223 : ∀ t, Steps p.tables e below (T176.setTop (mkF m 444 #[.val (.int p1), .val (.int p2), .val (.int p3), .val (.int p4), .val (.int db0), .val (.int db1), .val (.int db2), .val (.int db3), .val (.int dt), .val (.int dc), .val (.int ppp), .val (.int frm), .val (.int len), .val (.int too), .val (.ref b30), .val (.long act), .second, .unset, .unset, .val (.long vv4), .second, .val (.int kk), .val (.int (0 : Int32)), .val (.int kk), .val (.long ((dt - (48 : Int32)).toInt64)), .second, .val (.long ((dc - (48 : Int32)).toInt64)), .second, .unset, .unset] [(.int kk)])) t → Steps p.tables e below (s₁.setTop (entryFrame m #[(.int p1), (.int p2), (.int p3), (.int p4)] maxLocals)) t := fun t kt => by
            refine pre178 t ?_
            refine XS.iload X176.here hx rfl (hb hby at_355) rfl ?_
            show Steps p.tables e below (T176.setTop (mkF m 357 #[.val (.int p1), .val (.int p2), .val (.int p3), .val (.int p4), .val (.int db0), .val (.int db1), .val (.int db2), .val (.int db3), .val (.int dt), .val (.int dc), .val (.int ppp), .val (.int frm), .val (.int len), .val (.int too), .val (.ref b30), .val (.long act), .second, .unset, .unset, .val (.long vv4), .second, .val (.int kk), .unset, .unset, .unset, .unset, .unset, .unset, .unset, .unset] [(.int ppp)])) _
            refine XS.iload X176.here hx rfl (hb hby at_357) rfl ?_
            show Steps p.tables e below (T176.setTop (mkF m 359 #[.val (.int p1), .val (.int p2), .val (.int p3), .val (.int p4), .val (.int db0), .val (.int db1), .val (.int db2), .val (.int db3), .val (.int dt), .val (.int dc), .val (.int ppp), .val (.int frm), .val (.int len), .val (.int too), .val (.ref b30), .val (.long act), .second, .unset, .unset, .val (.long vv4), .second, .val (.int kk), .unset, .unset, .unset, .unset, .unset, .unset, .unset, .unset] [(.int too), (.int ppp)])) _
            refine XS.icmpYes X176.here hx rfl (pc0 := 359) (pc' := 366) rfl (hb hby at_359) rfl (flt hc359).2.1 (by decide) (by decide) ?_
            show Steps p.tables e below (T176.setTop (mkF m 366 #[.val (.int p1), .val (.int p2), .val (.int p3), .val (.int p4), .val (.int db0), .val (.int db1), .val (.int db2), .val (.int db3), .val (.int dt), .val (.int dc), .val (.int ppp), .val (.int frm), .val (.int len), .val (.int too), .val (.ref b30), .val (.long act), .second, .unset, .unset, .val (.long vv4), .second, .val (.int kk), .unset, .unset, .unset, .unset, .unset, .unset, .unset, .unset] [])) _
            refine XS.iconst X176.here hx rfl (hb hby at_366) ?_
            show Steps p.tables e below (T176.setTop (mkF m 367 #[.val (.int p1), .val (.int p2), .val (.int p3), .val (.int p4), .val (.int db0), .val (.int db1), .val (.int db2), .val (.int db3), .val (.int dt), .val (.int dc), .val (.int ppp), .val (.int frm), .val (.int len), .val (.int too), .val (.ref b30), .val (.long act), .second, .unset, .unset, .val (.long vv4), .second, .val (.int kk), .unset, .unset, .unset, .unset, .unset, .unset, .unset, .unset] [(.int (0 : Int32))])) _
            refine XS.istore X176.here hx rfl (hb hby at_367) rfl (l' := #[.val (.int p1), .val (.int p2), .val (.int p3), .val (.int p4), .val (.int db0), .val (.int db1), .val (.int db2), .val (.int db3), .val (.int dt), .val (.int dc), .val (.int ppp), .val (.int frm), .val (.int len), .val (.int too), .val (.ref b30), .val (.long act), .second, .unset, .unset, .val (.long vv4), .second, .val (.int kk), .val (.int (0 : Int32)), .unset, .unset, .unset, .unset, .unset, .unset, .unset]) rfl ?_
            show Steps p.tables e below (T176.setTop (mkF m 369 #[.val (.int p1), .val (.int p2), .val (.int p3), .val (.int p4), .val (.int db0), .val (.int db1), .val (.int db2), .val (.int db3), .val (.int dt), .val (.int dc), .val (.int ppp), .val (.int frm), .val (.int len), .val (.int too), .val (.ref b30), .val (.long act), .second, .unset, .unset, .val (.long vv4), .second, .val (.int kk), .val (.int (0 : Int32)), .unset, .unset, .unset, .unset, .unset, .unset, .unset] [])) _
            refine XS.iload X176.here hx rfl (hb hby at_369) rfl ?_
            show Steps p.tables e below (T176.setTop (mkF m 371 #[.val (.int p1), .val (.int p2), .val (.int p3), .val (.int p4), .val (.int db0), .val (.int db1), .val (.int db2), .val (.int db3), .val (.int dt), .val (.int dc), .val (.int ppp), .val (.int frm), .val (.int len), .val (.int too), .val (.ref b30), .val (.long act), .second, .unset, .unset, .val (.long vv4), .second, .val (.int kk), .val (.int (0 : Int32)), .unset, .unset, .unset, .unset, .unset, .unset, .unset] [(.int (0 : Int32))])) _
            refine XS.ifYes X176.here hx rfl (pc0 := 371) (pc' := 381) rfl (hb hby at_371) rfl ((if0 _ _).trans (teq (by decide : (0 : Int32) = (0 : Int32))).1) (by decide) (by decide) ?_
            show Steps p.tables e below (T176.setTop (mkF m 381 #[.val (.int p1), .val (.int p2), .val (.int p3), .val (.int p4), .val (.int db0), .val (.int db1), .val (.int db2), .val (.int db3), .val (.int dt), .val (.int dc), .val (.int ppp), .val (.int frm), .val (.int len), .val (.int too), .val (.ref b30), .val (.long act), .second, .unset, .unset, .val (.long vv4), .second, .val (.int kk), .val (.int (0 : Int32)), .unset, .unset, .unset, .unset, .unset, .unset, .unset] [])) _
            refine XS.iload X176.here hx rfl (hb hby at_381) rfl ?_
            show Steps p.tables e below (T176.setTop (mkF m 383 #[.val (.int p1), .val (.int p2), .val (.int p3), .val (.int p4), .val (.int db0), .val (.int db1), .val (.int db2), .val (.int db3), .val (.int dt), .val (.int dc), .val (.int ppp), .val (.int frm), .val (.int len), .val (.int too), .val (.ref b30), .val (.long act), .second, .unset, .unset, .val (.long vv4), .second, .val (.int kk), .val (.int (0 : Int32)), .unset, .unset, .unset, .unset, .unset, .unset, .unset] [(.int kk)])) _
            refine XS.istore X176.here hx rfl (hb hby at_383) rfl (l' := #[.val (.int p1), .val (.int p2), .val (.int p3), .val (.int p4), .val (.int db0), .val (.int db1), .val (.int db2), .val (.int db3), .val (.int dt), .val (.int dc), .val (.int ppp), .val (.int frm), .val (.int len), .val (.int too), .val (.ref b30), .val (.long act), .second, .unset, .unset, .val (.long vv4), .second, .val (.int kk), .val (.int (0 : Int32)), .val (.int kk), .unset, .unset, .unset, .unset, .unset, .unset]) rfl ?_
            show Steps p.tables e below (T176.setTop (mkF m 385 #[.val (.int p1), .val (.int p2), .val (.int p3), .val (.int p4), .val (.int db0), .val (.int db1), .val (.int db2), .val (.int db3), .val (.int dt), .val (.int dc), .val (.int ppp), .val (.int frm), .val (.int len), .val (.int too), .val (.ref b30), .val (.long act), .second, .unset, .unset, .val (.long vv4), .second, .val (.int kk), .val (.int (0 : Int32)), .val (.int kk), .unset, .unset, .unset, .unset, .unset, .unset] [])) _
            refine XS.lload X176.here hx rfl (hb hby at_385) rfl ?_
            show Steps p.tables e below (T176.setTop (mkF m 387 #[.val (.int p1), .val (.int p2), .val (.int p3), .val (.int p4), .val (.int db0), .val (.int db1), .val (.int db2), .val (.int db3), .val (.int dt), .val (.int dc), .val (.int ppp), .val (.int frm), .val (.int len), .val (.int too), .val (.ref b30), .val (.long act), .second, .unset, .unset, .val (.long vv4), .second, .val (.int kk), .val (.int (0 : Int32)), .val (.int kk), .unset, .unset, .unset, .unset, .unset, .unset] [(.long vv4)])) _
            refine XS.lconst X176.here hx rfl (hb hby at_387) ?_
            show Steps p.tables e below (T176.setTop (mkF m 388 #[.val (.int p1), .val (.int p2), .val (.int p3), .val (.int p4), .val (.int db0), .val (.int db1), .val (.int db2), .val (.int db3), .val (.int dt), .val (.int dc), .val (.int ppp), .val (.int frm), .val (.int len), .val (.int too), .val (.ref b30), .val (.long act), .second, .unset, .unset, .val (.long vv4), .second, .val (.int kk), .val (.int (0 : Int32)), .val (.int kk), .unset, .unset, .unset, .unset, .unset, .unset] [(.long (0 : Int64)), (.long vv4)])) _
            refine XS.lcmp X176.here hx rfl (hb hby at_388) rfl ?_
            show Steps p.tables e below (T176.setTop (mkF m 389 #[.val (.int p1), .val (.int p2), .val (.int p3), .val (.int p4), .val (.int db0), .val (.int db1), .val (.int db2), .val (.int db3), .val (.int dt), .val (.int dc), .val (.int ppp), .val (.int frm), .val (.int len), .val (.int too), .val (.ref b30), .val (.long act), .second, .unset, .unset, .val (.long vv4), .second, .val (.int kk), .val (.int (0 : Int32)), .val (.int kk), .unset, .unset, .unset, .unset, .unset, .unset] [(.int (lcmpW vv4 (0 : Int64)))])) _
            refine XS.ifNo X176.here hx rfl (hb hby at_389) rfl ((if0 _ _).trans (flt hc389).1) ?_
            show Steps p.tables e below (T176.setTop (mkF m 392 #[.val (.int p1), .val (.int p2), .val (.int p3), .val (.int p4), .val (.int db0), .val (.int db1), .val (.int db2), .val (.int db3), .val (.int dt), .val (.int dc), .val (.int ppp), .val (.int frm), .val (.int len), .val (.int too), .val (.ref b30), .val (.long act), .second, .unset, .unset, .val (.long vv4), .second, .val (.int kk), .val (.int (0 : Int32)), .val (.int kk), .unset, .unset, .unset, .unset, .unset, .unset] [])) _
            refine XS.iload X176.here hx rfl (hb hby at_392) rfl ?_
            show Steps p.tables e below (T176.setTop (mkF m 394 #[.val (.int p1), .val (.int p2), .val (.int p3), .val (.int p4), .val (.int db0), .val (.int db1), .val (.int db2), .val (.int db3), .val (.int dt), .val (.int dc), .val (.int ppp), .val (.int frm), .val (.int len), .val (.int too), .val (.ref b30), .val (.long act), .second, .unset, .unset, .val (.long vv4), .second, .val (.int kk), .val (.int (0 : Int32)), .val (.int kk), .unset, .unset, .unset, .unset, .unset, .unset] [(.int kk)])) _
            refine XS.ifYes X176.here hx rfl (pc0 := 394) (pc' := 405) rfl (hb hby at_394) rfl ((if0 _ _).trans (flt hc394).2.2.2) (by decide) (by decide) ?_
            show Steps p.tables e below (T176.setTop (mkF m 405 #[.val (.int p1), .val (.int p2), .val (.int p3), .val (.int p4), .val (.int db0), .val (.int db1), .val (.int db2), .val (.int db3), .val (.int dt), .val (.int dc), .val (.int ppp), .val (.int frm), .val (.int len), .val (.int too), .val (.ref b30), .val (.long act), .second, .unset, .unset, .val (.long vv4), .second, .val (.int kk), .val (.int (0 : Int32)), .val (.int kk), .unset, .unset, .unset, .unset, .unset, .unset] [])) _
            refine XS.iload X176.here hx rfl (hb hby at_405) rfl ?_
            show Steps p.tables e below (T176.setTop (mkF m 407 #[.val (.int p1), .val (.int p2), .val (.int p3), .val (.int p4), .val (.int db0), .val (.int db1), .val (.int db2), .val (.int db3), .val (.int dt), .val (.int dc), .val (.int ppp), .val (.int frm), .val (.int len), .val (.int too), .val (.ref b30), .val (.long act), .second, .unset, .unset, .val (.long vv4), .second, .val (.int kk), .val (.int (0 : Int32)), .val (.int kk), .unset, .unset, .unset, .unset, .unset, .unset] [(.int (0 : Int32))])) _
            refine XS.ifYes X176.here hx rfl (pc0 := 407) (pc' := 426) rfl (hb hby at_407) rfl ((if0 _ _).trans (teq (by decide : (0 : Int32) = (0 : Int32))).1) (by decide) (by decide) ?_
            show Steps p.tables e below (T176.setTop (mkF m 426 #[.val (.int p1), .val (.int p2), .val (.int p3), .val (.int p4), .val (.int db0), .val (.int db1), .val (.int db2), .val (.int db3), .val (.int dt), .val (.int dc), .val (.int ppp), .val (.int frm), .val (.int len), .val (.int too), .val (.ref b30), .val (.long act), .second, .unset, .unset, .val (.long vv4), .second, .val (.int kk), .val (.int (0 : Int32)), .val (.int kk), .unset, .unset, .unset, .unset, .unset, .unset] [])) _
            refine XS.iload X176.here hx rfl (hb hby at_426) rfl ?_
            show Steps p.tables e below (T176.setTop (mkF m 428 #[.val (.int p1), .val (.int p2), .val (.int p3), .val (.int p4), .val (.int db0), .val (.int db1), .val (.int db2), .val (.int db3), .val (.int dt), .val (.int dc), .val (.int ppp), .val (.int frm), .val (.int len), .val (.int too), .val (.ref b30), .val (.long act), .second, .unset, .unset, .val (.long vv4), .second, .val (.int kk), .val (.int (0 : Int32)), .val (.int kk), .unset, .unset, .unset, .unset, .unset, .unset] [(.int dt)])) _
            refine XS.bipush X176.here hx rfl (hb hby at_428) ?_
            show Steps p.tables e below (T176.setTop (mkF m 430 #[.val (.int p1), .val (.int p2), .val (.int p3), .val (.int p4), .val (.int db0), .val (.int db1), .val (.int db2), .val (.int db3), .val (.int dt), .val (.int dc), .val (.int ppp), .val (.int frm), .val (.int len), .val (.int too), .val (.ref b30), .val (.long act), .second, .unset, .unset, .val (.long vv4), .second, .val (.int kk), .val (.int (0 : Int32)), .val (.int kk), .unset, .unset, .unset, .unset, .unset, .unset] [(.int (48 : Int32)), (.int dt)])) _
            refine XS.isub X176.here hx rfl (hb hby at_430) rfl ?_
            show Steps p.tables e below (T176.setTop (mkF m 431 #[.val (.int p1), .val (.int p2), .val (.int p3), .val (.int p4), .val (.int db0), .val (.int db1), .val (.int db2), .val (.int db3), .val (.int dt), .val (.int dc), .val (.int ppp), .val (.int frm), .val (.int len), .val (.int too), .val (.ref b30), .val (.long act), .second, .unset, .unset, .val (.long vv4), .second, .val (.int kk), .val (.int (0 : Int32)), .val (.int kk), .unset, .unset, .unset, .unset, .unset, .unset] [(.int (dt - (48 : Int32)))])) _
            refine XS.i2l X176.here hx rfl (hb hby at_431) rfl ?_
            show Steps p.tables e below (T176.setTop (mkF m 432 #[.val (.int p1), .val (.int p2), .val (.int p3), .val (.int p4), .val (.int db0), .val (.int db1), .val (.int db2), .val (.int db3), .val (.int dt), .val (.int dc), .val (.int ppp), .val (.int frm), .val (.int len), .val (.int too), .val (.ref b30), .val (.long act), .second, .unset, .unset, .val (.long vv4), .second, .val (.int kk), .val (.int (0 : Int32)), .val (.int kk), .unset, .unset, .unset, .unset, .unset, .unset] [(.long ((dt - (48 : Int32)).toInt64))])) _
            refine XS.lstore X176.here hx rfl (hb hby at_432) rfl (l' := #[.val (.int p1), .val (.int p2), .val (.int p3), .val (.int p4), .val (.int db0), .val (.int db1), .val (.int db2), .val (.int db3), .val (.int dt), .val (.int dc), .val (.int ppp), .val (.int frm), .val (.int len), .val (.int too), .val (.ref b30), .val (.long act), .second, .unset, .unset, .val (.long vv4), .second, .val (.int kk), .val (.int (0 : Int32)), .val (.int kk), .val (.long ((dt - (48 : Int32)).toInt64)), .second, .unset, .unset, .unset, .unset]) rfl ?_
            show Steps p.tables e below (T176.setTop (mkF m 434 #[.val (.int p1), .val (.int p2), .val (.int p3), .val (.int p4), .val (.int db0), .val (.int db1), .val (.int db2), .val (.int db3), .val (.int dt), .val (.int dc), .val (.int ppp), .val (.int frm), .val (.int len), .val (.int too), .val (.ref b30), .val (.long act), .second, .unset, .unset, .val (.long vv4), .second, .val (.int kk), .val (.int (0 : Int32)), .val (.int kk), .val (.long ((dt - (48 : Int32)).toInt64)), .second, .unset, .unset, .unset, .unset] [])) _
            refine XS.iload X176.here hx rfl (hb hby at_434) rfl ?_
            show Steps p.tables e below (T176.setTop (mkF m 436 #[.val (.int p1), .val (.int p2), .val (.int p3), .val (.int p4), .val (.int db0), .val (.int db1), .val (.int db2), .val (.int db3), .val (.int dt), .val (.int dc), .val (.int ppp), .val (.int frm), .val (.int len), .val (.int too), .val (.ref b30), .val (.long act), .second, .unset, .unset, .val (.long vv4), .second, .val (.int kk), .val (.int (0 : Int32)), .val (.int kk), .val (.long ((dt - (48 : Int32)).toInt64)), .second, .unset, .unset, .unset, .unset] [(.int dc)])) _
            refine XS.bipush X176.here hx rfl (hb hby at_436) ?_
            show Steps p.tables e below (T176.setTop (mkF m 438 #[.val (.int p1), .val (.int p2), .val (.int p3), .val (.int p4), .val (.int db0), .val (.int db1), .val (.int db2), .val (.int db3), .val (.int dt), .val (.int dc), .val (.int ppp), .val (.int frm), .val (.int len), .val (.int too), .val (.ref b30), .val (.long act), .second, .unset, .unset, .val (.long vv4), .second, .val (.int kk), .val (.int (0 : Int32)), .val (.int kk), .val (.long ((dt - (48 : Int32)).toInt64)), .second, .unset, .unset, .unset, .unset] [(.int (48 : Int32)), (.int dc)])) _
            refine XS.isub X176.here hx rfl (hb hby at_438) rfl ?_
            show Steps p.tables e below (T176.setTop (mkF m 439 #[.val (.int p1), .val (.int p2), .val (.int p3), .val (.int p4), .val (.int db0), .val (.int db1), .val (.int db2), .val (.int db3), .val (.int dt), .val (.int dc), .val (.int ppp), .val (.int frm), .val (.int len), .val (.int too), .val (.ref b30), .val (.long act), .second, .unset, .unset, .val (.long vv4), .second, .val (.int kk), .val (.int (0 : Int32)), .val (.int kk), .val (.long ((dt - (48 : Int32)).toInt64)), .second, .unset, .unset, .unset, .unset] [(.int (dc - (48 : Int32)))])) _
            refine XS.i2l X176.here hx rfl (hb hby at_439) rfl ?_
            show Steps p.tables e below (T176.setTop (mkF m 440 #[.val (.int p1), .val (.int p2), .val (.int p3), .val (.int p4), .val (.int db0), .val (.int db1), .val (.int db2), .val (.int db3), .val (.int dt), .val (.int dc), .val (.int ppp), .val (.int frm), .val (.int len), .val (.int too), .val (.ref b30), .val (.long act), .second, .unset, .unset, .val (.long vv4), .second, .val (.int kk), .val (.int (0 : Int32)), .val (.int kk), .val (.long ((dt - (48 : Int32)).toInt64)), .second, .unset, .unset, .unset, .unset] [(.long ((dc - (48 : Int32)).toInt64))])) _
            refine XS.lstore X176.here hx rfl (hb hby at_440) rfl (l' := #[.val (.int p1), .val (.int p2), .val (.int p3), .val (.int p4), .val (.int db0), .val (.int db1), .val (.int db2), .val (.int db3), .val (.int dt), .val (.int dc), .val (.int ppp), .val (.int frm), .val (.int len), .val (.int too), .val (.ref b30), .val (.long act), .second, .unset, .unset, .val (.long vv4), .second, .val (.int kk), .val (.int (0 : Int32)), .val (.int kk), .val (.long ((dt - (48 : Int32)).toInt64)), .second, .val (.long ((dc - (48 : Int32)).toInt64)), .second, .unset, .unset]) rfl ?_
            show Steps p.tables e below (T176.setTop (mkF m 442 #[.val (.int p1), .val (.int p2), .val (.int p3), .val (.int p4), .val (.int db0), .val (.int db1), .val (.int db2), .val (.int db3), .val (.int dt), .val (.int dc), .val (.int ppp), .val (.int frm), .val (.int len), .val (.int too), .val (.ref b30), .val (.long act), .second, .unset, .unset, .val (.long vv4), .second, .val (.int kk), .val (.int (0 : Int32)), .val (.int kk), .val (.long ((dt - (48 : Int32)).toInt64)), .second, .val (.long ((dc - (48 : Int32)).toInt64)), .second, .unset, .unset] [])) _
            refine XS.iload X176.here hx rfl (hb hby at_442) rfl ?_
            show Steps p.tables e below (T176.setTop (mkF m 444 #[.val (.int p1), .val (.int p2), .val (.int p3), .val (.int p4), .val (.int db0), .val (.int db1), .val (.int db2), .val (.int db3), .val (.int dt), .val (.int dc), .val (.int ppp), .val (.int frm), .val (.int len), .val (.int too), .val (.ref b30), .val (.long act), .second, .unset, .unset, .val (.long vv4), .second, .val (.int kk), .val (.int (0 : Int32)), .val (.int kk), .val (.long ((dt - (48 : Int32)).toInt64)), .second, .val (.long ((dc - (48 : Int32)).toInt64)), .second, .unset, .unset] [(.int kk)])) _
            exact kt
          obtain ⟨_, _, ⟨T224, L224, k224, n224⟩, -, X224, ⟨Lc224, hQ224, l224, y224, z224⟩, st224⟩ := Jvm.LawKit.callS X176 hx (y := (⟨"com/example/entgelt/entgelt/io/FieldFormsDigitsPinLaw", "pow10", "(I)J"⟩ : MethodName)) hown (mvT hZ (hw _ (mgE 15 rfl))) (mvT hZ (hw _ (mgE 16 rfl))) (mvT hZ (hw _ (mgE 2 rfl))) (mvT hZ (hw _ (mgE 17 rfl))) (by decide) (backOf (W := 0) (rm4 l Z a0 hw [] kk h134 n0 Z134 (own_k19 too kk (own_t0 frm len too hfrm hlen htoo) h_kk)) hZ (hw _ (mgE 17 rfl)) (hw _ (mgE 2 rfl)) (by decide) (by decide)) (g := (mkF m 444 #[.val (.int p1), .val (.int p2), .val (.int p3), .val (.int p4), .val (.int db0), .val (.int db1), .val (.int db2), .val (.int db3), .val (.int dt), .val (.int dc), .val (.int ppp), .val (.int frm), .val (.int len), .val (.int too), .val (.ref b30), .val (.long act), .second, .unset, .unset, .val (.long vv4), .second, .val (.int kk), .val (.int (0 : Int32)), .val (.int kk), .val (.long ((dt - (48 : Int32)).toInt64)), .second, .val (.long ((dc - (48 : Int32)).toInt64)), .second, .unset, .unset] [(.int kk)])) rfl (by rw [hml]; rfl) (argsL := [(.int kk)]) (rest := []) (lenOf pd__I_J rfl) rfl (by show 2 * 0 + _ ≤ _; exact Nat.le_of_eq rfl) (hb hby at_444) (fun _ _ => ⟨rfl, e176, (by decide : 1 + 1 ≤ _), (by decide : 20 + 19 ≤ _)⟩)
          dsimp only [Pt.U, Pt.locs, Pt.cells, Pt.slots] at X224 l224 y224 z224 st224 hQ224
          have ly224 := l224.symm; subst ly224 y224 z224
          obtain ⟨rfl, N224q, K224⟩ := hQ224
          have pre226 : ∀ t, Steps p.tables e below (T224.setTop (mkF m 447 #[.val (.int p1), .val (.int p2), .val (.int p3), .val (.int p4), .val (.int db0), .val (.int db1), .val (.int db2), .val (.int db3), .val (.int dt), .val (.int dc), .val (.int ppp), .val (.int frm), .val (.int len), .val (.int too), .val (.ref b30), .val (.long act), .second, .unset, .unset, .val (.long vv4), .second, .val (.int kk), .val (.int (0 : Int32)), .val (.int kk), .val (.long ((dt - (48 : Int32)).toInt64)), .second, .val (.long ((dc - (48 : Int32)).toInt64)), .second, .unset, .unset] [(.long (p10 kk))])) t → Steps p.tables e below (s₁.setTop (entryFrame m #[(.int p1), (.int p2), (.int p3), (.int p4)] maxLocals)) t := fun t kt => pre223 t (st224 t kt)
          have N224 := Fr.app N176 N224q
          have pre227 : ∀ t, Steps p.tables e below (T224.setTop (mkF m 449 #[.val (.int p1), .val (.int p2), .val (.int p3), .val (.int p4), .val (.int db0), .val (.int db1), .val (.int db2), .val (.int db3), .val (.int dt), .val (.int dc), .val (.int ppp), .val (.int frm), .val (.int len), .val (.int too), .val (.ref b30), .val (.long act), .second, .unset, .unset, .val (.long vv4), .second, .val (.int kk), .val (.int (0 : Int32)), .val (.int kk), .val (.long ((dt - (48 : Int32)).toInt64)), .second, .val (.long ((dc - (48 : Int32)).toInt64)), .second, .val (.long (p10 kk)), .second] [])) t → Steps p.tables e below (s₁.setTop (entryFrame m #[(.int p1), (.int p2), (.int p3), (.int p4)] maxLocals)) t := fun t kt => by
            refine pre226 t ?_
            refine XS.lstore X224.here hx rfl (hb hby at_447) rfl (l' := #[.val (.int p1), .val (.int p2), .val (.int p3), .val (.int p4), .val (.int db0), .val (.int db1), .val (.int db2), .val (.int db3), .val (.int dt), .val (.int dc), .val (.int ppp), .val (.int frm), .val (.int len), .val (.int too), .val (.ref b30), .val (.long act), .second, .unset, .unset, .val (.long vv4), .second, .val (.int kk), .val (.int (0 : Int32)), .val (.int kk), .val (.long ((dt - (48 : Int32)).toInt64)), .second, .val (.long ((dc - (48 : Int32)).toInt64)), .second, .val (.long (p10 kk)), .second]) rfl ?_
            show Steps p.tables e below (T224.setTop (mkF m 449 #[.val (.int p1), .val (.int p2), .val (.int p3), .val (.int p4), .val (.int db0), .val (.int db1), .val (.int db2), .val (.int db3), .val (.int dt), .val (.int dc), .val (.int ppp), .val (.int frm), .val (.int len), .val (.int too), .val (.ref b30), .val (.long act), .second, .unset, .unset, .val (.long vv4), .second, .val (.int kk), .val (.int (0 : Int32)), .val (.int kk), .val (.long ((dt - (48 : Int32)).toInt64)), .second, .val (.long ((dc - (48 : Int32)).toInt64)), .second, .val (.long (p10 kk)), .second] [])) _
            exact kt
          obtain ⟨pk, h_pk⟩ : ∃ z, z = (p10 kk) := ⟨_, rfl⟩
          rw [← h_pk] at pre227
          have hc499 : (lcmpW act (((vv4 * pk) + (((dt - (48 : Int32)).toInt64) * ((pk - (1 : Int64)) / (9 : Int64)))) + (0 : Int64))) = (0 : Int32) := own_good0 txt frm len too ppp db0 db1 db2 db3 dt dc kk act vv1 vv2 vv3 vv4 hIn ⟨h_vv1, h_vv2, h_vv3, h_vv4⟩ hc248 h_kk hc389 pk h_pk hc359 (fun w => absurd w hc394)
          have pre228 : ∀ t, Steps p.tables e below (T224.setTop (mkF m 507 #[.val (.int p1), .val (.int p2), .val (.int p3), .val (.int p4), .val (.int db0), .val (.int db1), .val (.int db2), .val (.int db3), .val (.int dt), .val (.int dc), .val (.int ppp), .val (.int frm), .val (.int len), .val (.int too), .val (.ref b30), .val (.long act), .second, .val (.long (((vv4 * pk) + (((dt - (48 : Int32)).toInt64) * ((pk - (1 : Int64)) / (9 : Int64)))) + (0 : Int64))), .second, .val (.long vv4), .second, .val (.int kk), .val (.int (0 : Int32)), .val (.int kk), .val (.long ((dt - (48 : Int32)).toInt64)), .second, .val (.long ((dc - (48 : Int32)).toInt64)), .second, .val (.long pk), .second] [(.int (1 : Int32))])) t → Steps p.tables e below (s₁.setTop (entryFrame m #[(.int p1), (.int p2), (.int p3), (.int p4)] maxLocals)) t := fun t kt => by
            refine pre227 t ?_
            refine XS.lload X224.here hx rfl (hb hby at_449) rfl ?_
            show Steps p.tables e below (T224.setTop (mkF m 451 #[.val (.int p1), .val (.int p2), .val (.int p3), .val (.int p4), .val (.int db0), .val (.int db1), .val (.int db2), .val (.int db3), .val (.int dt), .val (.int dc), .val (.int ppp), .val (.int frm), .val (.int len), .val (.int too), .val (.ref b30), .val (.long act), .second, .unset, .unset, .val (.long vv4), .second, .val (.int kk), .val (.int (0 : Int32)), .val (.int kk), .val (.long ((dt - (48 : Int32)).toInt64)), .second, .val (.long ((dc - (48 : Int32)).toInt64)), .second, .val (.long pk), .second] [(.long vv4)])) _
            refine XS.lload X224.here hx rfl (hb hby at_451) rfl ?_
            show Steps p.tables e below (T224.setTop (mkF m 453 #[.val (.int p1), .val (.int p2), .val (.int p3), .val (.int p4), .val (.int db0), .val (.int db1), .val (.int db2), .val (.int db3), .val (.int dt), .val (.int dc), .val (.int ppp), .val (.int frm), .val (.int len), .val (.int too), .val (.ref b30), .val (.long act), .second, .unset, .unset, .val (.long vv4), .second, .val (.int kk), .val (.int (0 : Int32)), .val (.int kk), .val (.long ((dt - (48 : Int32)).toInt64)), .second, .val (.long ((dc - (48 : Int32)).toInt64)), .second, .val (.long pk), .second] [(.long pk), (.long vv4)])) _
            refine XS.lmul X224.here hx rfl (hb hby at_453) rfl ?_
            show Steps p.tables e below (T224.setTop (mkF m 454 #[.val (.int p1), .val (.int p2), .val (.int p3), .val (.int p4), .val (.int db0), .val (.int db1), .val (.int db2), .val (.int db3), .val (.int dt), .val (.int dc), .val (.int ppp), .val (.int frm), .val (.int len), .val (.int too), .val (.ref b30), .val (.long act), .second, .unset, .unset, .val (.long vv4), .second, .val (.int kk), .val (.int (0 : Int32)), .val (.int kk), .val (.long ((dt - (48 : Int32)).toInt64)), .second, .val (.long ((dc - (48 : Int32)).toInt64)), .second, .val (.long pk), .second] [(.long (vv4 * pk))])) _
            refine XS.lload X224.here hx rfl (hb hby at_454) rfl ?_
            show Steps p.tables e below (T224.setTop (mkF m 456 #[.val (.int p1), .val (.int p2), .val (.int p3), .val (.int p4), .val (.int db0), .val (.int db1), .val (.int db2), .val (.int db3), .val (.int dt), .val (.int dc), .val (.int ppp), .val (.int frm), .val (.int len), .val (.int too), .val (.ref b30), .val (.long act), .second, .unset, .unset, .val (.long vv4), .second, .val (.int kk), .val (.int (0 : Int32)), .val (.int kk), .val (.long ((dt - (48 : Int32)).toInt64)), .second, .val (.long ((dc - (48 : Int32)).toInt64)), .second, .val (.long pk), .second] [(.long ((dt - (48 : Int32)).toInt64)), (.long (vv4 * pk))])) _
            refine XS.lload X224.here hx rfl (hb hby at_456) rfl ?_
            show Steps p.tables e below (T224.setTop (mkF m 458 #[.val (.int p1), .val (.int p2), .val (.int p3), .val (.int p4), .val (.int db0), .val (.int db1), .val (.int db2), .val (.int db3), .val (.int dt), .val (.int dc), .val (.int ppp), .val (.int frm), .val (.int len), .val (.int too), .val (.ref b30), .val (.long act), .second, .unset, .unset, .val (.long vv4), .second, .val (.int kk), .val (.int (0 : Int32)), .val (.int kk), .val (.long ((dt - (48 : Int32)).toInt64)), .second, .val (.long ((dc - (48 : Int32)).toInt64)), .second, .val (.long pk), .second] [(.long pk), (.long ((dt - (48 : Int32)).toInt64)), (.long (vv4 * pk))])) _
            refine XS.lconst X224.here hx rfl (hb hby at_458) ?_
            show Steps p.tables e below (T224.setTop (mkF m 459 #[.val (.int p1), .val (.int p2), .val (.int p3), .val (.int p4), .val (.int db0), .val (.int db1), .val (.int db2), .val (.int db3), .val (.int dt), .val (.int dc), .val (.int ppp), .val (.int frm), .val (.int len), .val (.int too), .val (.ref b30), .val (.long act), .second, .unset, .unset, .val (.long vv4), .second, .val (.int kk), .val (.int (0 : Int32)), .val (.int kk), .val (.long ((dt - (48 : Int32)).toInt64)), .second, .val (.long ((dc - (48 : Int32)).toInt64)), .second, .val (.long pk), .second] [(.long (1 : Int64)), (.long pk), (.long ((dt - (48 : Int32)).toInt64)), (.long (vv4 * pk))])) _
            refine XS.lsub X224.here hx rfl (hb hby at_459) rfl ?_
            show Steps p.tables e below (T224.setTop (mkF m 460 #[.val (.int p1), .val (.int p2), .val (.int p3), .val (.int p4), .val (.int db0), .val (.int db1), .val (.int db2), .val (.int db3), .val (.int dt), .val (.int dc), .val (.int ppp), .val (.int frm), .val (.int len), .val (.int too), .val (.ref b30), .val (.long act), .second, .unset, .unset, .val (.long vv4), .second, .val (.int kk), .val (.int (0 : Int32)), .val (.int kk), .val (.long ((dt - (48 : Int32)).toInt64)), .second, .val (.long ((dc - (48 : Int32)).toInt64)), .second, .val (.long pk), .second] [(.long (pk - (1 : Int64))), (.long ((dt - (48 : Int32)).toInt64)), (.long (vv4 * pk))])) _
            refine X224.ldc2Long hx hown (mvT hZ (hw _ (mgE 37 rfl))) (g := (mkF m 460 #[.val (.int p1), .val (.int p2), .val (.int p3), .val (.int p4), .val (.int db0), .val (.int db1), .val (.int db2), .val (.int db3), .val (.int dt), .val (.int dc), .val (.int ppp), .val (.int frm), .val (.int len), .val (.int too), .val (.ref b30), .val (.long act), .second, .unset, .unset, .val (.long vv4), .second, .val (.int kk), .val (.int (0 : Int32)), .val (.int kk), .val (.long ((dt - (48 : Int32)).toInt64)), .second, .val (.long ((dc - (48 : Int32)).toInt64)), .second, .val (.long pk), .second] [(.long (pk - (1 : Int64))), (.long ((dt - (48 : Int32)).toInt64)), (.long (vv4 * pk))])) rfl (hb hby at_460) _ ?_
            show Steps p.tables e below (T224.setTop (mkF m 463 #[.val (.int p1), .val (.int p2), .val (.int p3), .val (.int p4), .val (.int db0), .val (.int db1), .val (.int db2), .val (.int db3), .val (.int dt), .val (.int dc), .val (.int ppp), .val (.int frm), .val (.int len), .val (.int too), .val (.ref b30), .val (.long act), .second, .unset, .unset, .val (.long vv4), .second, .val (.int kk), .val (.int (0 : Int32)), .val (.int kk), .val (.long ((dt - (48 : Int32)).toInt64)), .second, .val (.long ((dc - (48 : Int32)).toInt64)), .second, .val (.long pk), .second] [(.long (9 : Int64)), (.long (pk - (1 : Int64))), (.long ((dt - (48 : Int32)).toInt64)), (.long (vv4 * pk))])) _
            have hnz463 : ¬ ((9 : Int64) = (0 : Int64)) := by decide
            refine XS.ldiv X224.here hx rfl (hb hby at_463) rfl hnz463 ?_
            show Steps p.tables e below (T224.setTop (mkF m 464 #[.val (.int p1), .val (.int p2), .val (.int p3), .val (.int p4), .val (.int db0), .val (.int db1), .val (.int db2), .val (.int db3), .val (.int dt), .val (.int dc), .val (.int ppp), .val (.int frm), .val (.int len), .val (.int too), .val (.ref b30), .val (.long act), .second, .unset, .unset, .val (.long vv4), .second, .val (.int kk), .val (.int (0 : Int32)), .val (.int kk), .val (.long ((dt - (48 : Int32)).toInt64)), .second, .val (.long ((dc - (48 : Int32)).toInt64)), .second, .val (.long pk), .second] [(.long ((pk - (1 : Int64)) / (9 : Int64))), (.long ((dt - (48 : Int32)).toInt64)), (.long (vv4 * pk))])) _
            refine XS.lmul X224.here hx rfl (hb hby at_464) rfl ?_
            show Steps p.tables e below (T224.setTop (mkF m 465 #[.val (.int p1), .val (.int p2), .val (.int p3), .val (.int p4), .val (.int db0), .val (.int db1), .val (.int db2), .val (.int db3), .val (.int dt), .val (.int dc), .val (.int ppp), .val (.int frm), .val (.int len), .val (.int too), .val (.ref b30), .val (.long act), .second, .unset, .unset, .val (.long vv4), .second, .val (.int kk), .val (.int (0 : Int32)), .val (.int kk), .val (.long ((dt - (48 : Int32)).toInt64)), .second, .val (.long ((dc - (48 : Int32)).toInt64)), .second, .val (.long pk), .second] [(.long (((dt - (48 : Int32)).toInt64) * ((pk - (1 : Int64)) / (9 : Int64)))), (.long (vv4 * pk))])) _
            refine XS.ladd X224.here hx rfl (hb hby at_465) rfl ?_
            show Steps p.tables e below (T224.setTop (mkF m 466 #[.val (.int p1), .val (.int p2), .val (.int p3), .val (.int p4), .val (.int db0), .val (.int db1), .val (.int db2), .val (.int db3), .val (.int dt), .val (.int dc), .val (.int ppp), .val (.int frm), .val (.int len), .val (.int too), .val (.ref b30), .val (.long act), .second, .unset, .unset, .val (.long vv4), .second, .val (.int kk), .val (.int (0 : Int32)), .val (.int kk), .val (.long ((dt - (48 : Int32)).toInt64)), .second, .val (.long ((dc - (48 : Int32)).toInt64)), .second, .val (.long pk), .second] [(.long ((vv4 * pk) + (((dt - (48 : Int32)).toInt64) * ((pk - (1 : Int64)) / (9 : Int64)))))])) _
            refine XS.iload X224.here hx rfl (hb hby at_466) rfl ?_
            show Steps p.tables e below (T224.setTop (mkF m 468 #[.val (.int p1), .val (.int p2), .val (.int p3), .val (.int p4), .val (.int db0), .val (.int db1), .val (.int db2), .val (.int db3), .val (.int dt), .val (.int dc), .val (.int ppp), .val (.int frm), .val (.int len), .val (.int too), .val (.ref b30), .val (.long act), .second, .unset, .unset, .val (.long vv4), .second, .val (.int kk), .val (.int (0 : Int32)), .val (.int kk), .val (.long ((dt - (48 : Int32)).toInt64)), .second, .val (.long ((dc - (48 : Int32)).toInt64)), .second, .val (.long pk), .second] [(.int (0 : Int32)), (.long ((vv4 * pk) + (((dt - (48 : Int32)).toInt64) * ((pk - (1 : Int64)) / (9 : Int64)))))])) _
            refine XS.ifYes X224.here hx rfl (pc0 := 468) (pc' := 490) rfl (hb hby at_468) rfl ((if0 _ _).trans (teq (by decide : (0 : Int32) = (0 : Int32))).1) (by decide) (by decide) ?_
            show Steps p.tables e below (T224.setTop (mkF m 490 #[.val (.int p1), .val (.int p2), .val (.int p3), .val (.int p4), .val (.int db0), .val (.int db1), .val (.int db2), .val (.int db3), .val (.int dt), .val (.int dc), .val (.int ppp), .val (.int frm), .val (.int len), .val (.int too), .val (.ref b30), .val (.long act), .second, .unset, .unset, .val (.long vv4), .second, .val (.int kk), .val (.int (0 : Int32)), .val (.int kk), .val (.long ((dt - (48 : Int32)).toInt64)), .second, .val (.long ((dc - (48 : Int32)).toInt64)), .second, .val (.long pk), .second] [(.long ((vv4 * pk) + (((dt - (48 : Int32)).toInt64) * ((pk - (1 : Int64)) / (9 : Int64)))))])) _
            refine XS.lconst X224.here hx rfl (hb hby at_490) ?_
            show Steps p.tables e below (T224.setTop (mkF m 491 #[.val (.int p1), .val (.int p2), .val (.int p3), .val (.int p4), .val (.int db0), .val (.int db1), .val (.int db2), .val (.int db3), .val (.int dt), .val (.int dc), .val (.int ppp), .val (.int frm), .val (.int len), .val (.int too), .val (.ref b30), .val (.long act), .second, .unset, .unset, .val (.long vv4), .second, .val (.int kk), .val (.int (0 : Int32)), .val (.int kk), .val (.long ((dt - (48 : Int32)).toInt64)), .second, .val (.long ((dc - (48 : Int32)).toInt64)), .second, .val (.long pk), .second] [(.long (0 : Int64)), (.long ((vv4 * pk) + (((dt - (48 : Int32)).toInt64) * ((pk - (1 : Int64)) / (9 : Int64)))))])) _
            refine XS.ladd X224.here hx rfl (hb hby at_491) rfl ?_
            show Steps p.tables e below (T224.setTop (mkF m 492 #[.val (.int p1), .val (.int p2), .val (.int p3), .val (.int p4), .val (.int db0), .val (.int db1), .val (.int db2), .val (.int db3), .val (.int dt), .val (.int dc), .val (.int ppp), .val (.int frm), .val (.int len), .val (.int too), .val (.ref b30), .val (.long act), .second, .unset, .unset, .val (.long vv4), .second, .val (.int kk), .val (.int (0 : Int32)), .val (.int kk), .val (.long ((dt - (48 : Int32)).toInt64)), .second, .val (.long ((dc - (48 : Int32)).toInt64)), .second, .val (.long pk), .second] [(.long (((vv4 * pk) + (((dt - (48 : Int32)).toInt64) * ((pk - (1 : Int64)) / (9 : Int64)))) + (0 : Int64)))])) _
            refine XS.lstore X224.here hx rfl (hb hby at_492) rfl (l' := #[.val (.int p1), .val (.int p2), .val (.int p3), .val (.int p4), .val (.int db0), .val (.int db1), .val (.int db2), .val (.int db3), .val (.int dt), .val (.int dc), .val (.int ppp), .val (.int frm), .val (.int len), .val (.int too), .val (.ref b30), .val (.long act), .second, .val (.long (((vv4 * pk) + (((dt - (48 : Int32)).toInt64) * ((pk - (1 : Int64)) / (9 : Int64)))) + (0 : Int64))), .second, .val (.long vv4), .second, .val (.int kk), .val (.int (0 : Int32)), .val (.int kk), .val (.long ((dt - (48 : Int32)).toInt64)), .second, .val (.long ((dc - (48 : Int32)).toInt64)), .second, .val (.long pk), .second]) rfl ?_
            show Steps p.tables e below (T224.setTop (mkF m 494 #[.val (.int p1), .val (.int p2), .val (.int p3), .val (.int p4), .val (.int db0), .val (.int db1), .val (.int db2), .val (.int db3), .val (.int dt), .val (.int dc), .val (.int ppp), .val (.int frm), .val (.int len), .val (.int too), .val (.ref b30), .val (.long act), .second, .val (.long (((vv4 * pk) + (((dt - (48 : Int32)).toInt64) * ((pk - (1 : Int64)) / (9 : Int64)))) + (0 : Int64))), .second, .val (.long vv4), .second, .val (.int kk), .val (.int (0 : Int32)), .val (.int kk), .val (.long ((dt - (48 : Int32)).toInt64)), .second, .val (.long ((dc - (48 : Int32)).toInt64)), .second, .val (.long pk), .second] [])) _
            refine XS.lload X224.here hx rfl (hb hby at_494) rfl ?_
            show Steps p.tables e below (T224.setTop (mkF m 496 #[.val (.int p1), .val (.int p2), .val (.int p3), .val (.int p4), .val (.int db0), .val (.int db1), .val (.int db2), .val (.int db3), .val (.int dt), .val (.int dc), .val (.int ppp), .val (.int frm), .val (.int len), .val (.int too), .val (.ref b30), .val (.long act), .second, .val (.long (((vv4 * pk) + (((dt - (48 : Int32)).toInt64) * ((pk - (1 : Int64)) / (9 : Int64)))) + (0 : Int64))), .second, .val (.long vv4), .second, .val (.int kk), .val (.int (0 : Int32)), .val (.int kk), .val (.long ((dt - (48 : Int32)).toInt64)), .second, .val (.long ((dc - (48 : Int32)).toInt64)), .second, .val (.long pk), .second] [(.long act)])) _
            refine XS.lload X224.here hx rfl (hb hby at_496) rfl ?_
            show Steps p.tables e below (T224.setTop (mkF m 498 #[.val (.int p1), .val (.int p2), .val (.int p3), .val (.int p4), .val (.int db0), .val (.int db1), .val (.int db2), .val (.int db3), .val (.int dt), .val (.int dc), .val (.int ppp), .val (.int frm), .val (.int len), .val (.int too), .val (.ref b30), .val (.long act), .second, .val (.long (((vv4 * pk) + (((dt - (48 : Int32)).toInt64) * ((pk - (1 : Int64)) / (9 : Int64)))) + (0 : Int64))), .second, .val (.long vv4), .second, .val (.int kk), .val (.int (0 : Int32)), .val (.int kk), .val (.long ((dt - (48 : Int32)).toInt64)), .second, .val (.long ((dc - (48 : Int32)).toInt64)), .second, .val (.long pk), .second] [(.long (((vv4 * pk) + (((dt - (48 : Int32)).toInt64) * ((pk - (1 : Int64)) / (9 : Int64)))) + (0 : Int64))), (.long act)])) _
            refine XS.lcmp X224.here hx rfl (hb hby at_498) rfl ?_
            show Steps p.tables e below (T224.setTop (mkF m 499 #[.val (.int p1), .val (.int p2), .val (.int p3), .val (.int p4), .val (.int db0), .val (.int db1), .val (.int db2), .val (.int db3), .val (.int dt), .val (.int dc), .val (.int ppp), .val (.int frm), .val (.int len), .val (.int too), .val (.ref b30), .val (.long act), .second, .val (.long (((vv4 * pk) + (((dt - (48 : Int32)).toInt64) * ((pk - (1 : Int64)) / (9 : Int64)))) + (0 : Int64))), .second, .val (.long vv4), .second, .val (.int kk), .val (.int (0 : Int32)), .val (.int kk), .val (.long ((dt - (48 : Int32)).toInt64)), .second, .val (.long ((dc - (48 : Int32)).toInt64)), .second, .val (.long pk), .second] [(.int (lcmpW act (((vv4 * pk) + (((dt - (48 : Int32)).toInt64) * ((pk - (1 : Int64)) / (9 : Int64)))) + (0 : Int64))))])) _
            refine XS.ifNo X224.here hx rfl (hb hby at_499) rfl ((if0 _ _).trans (teq hc499).2) ?_
            show Steps p.tables e below (T224.setTop (mkF m 502 #[.val (.int p1), .val (.int p2), .val (.int p3), .val (.int p4), .val (.int db0), .val (.int db1), .val (.int db2), .val (.int db3), .val (.int dt), .val (.int dc), .val (.int ppp), .val (.int frm), .val (.int len), .val (.int too), .val (.ref b30), .val (.long act), .second, .val (.long (((vv4 * pk) + (((dt - (48 : Int32)).toInt64) * ((pk - (1 : Int64)) / (9 : Int64)))) + (0 : Int64))), .second, .val (.long vv4), .second, .val (.int kk), .val (.int (0 : Int32)), .val (.int kk), .val (.long ((dt - (48 : Int32)).toInt64)), .second, .val (.long ((dc - (48 : Int32)).toInt64)), .second, .val (.long pk), .second] [])) _
            refine XS.iconst X224.here hx rfl (hb hby at_502) ?_
            show Steps p.tables e below (T224.setTop (mkF m 503 #[.val (.int p1), .val (.int p2), .val (.int p3), .val (.int p4), .val (.int db0), .val (.int db1), .val (.int db2), .val (.int db3), .val (.int dt), .val (.int dc), .val (.int ppp), .val (.int frm), .val (.int len), .val (.int too), .val (.ref b30), .val (.long act), .second, .val (.long (((vv4 * pk) + (((dt - (48 : Int32)).toInt64) * ((pk - (1 : Int64)) / (9 : Int64)))) + (0 : Int64))), .second, .val (.long vv4), .second, .val (.int kk), .val (.int (0 : Int32)), .val (.int kk), .val (.long ((dt - (48 : Int32)).toInt64)), .second, .val (.long ((dc - (48 : Int32)).toInt64)), .second, .val (.long pk), .second] [(.int (1 : Int32))])) _
            refine XS.goto X224.here hx rfl (pc0 := 503) (pc' := 507) rfl (hb hby at_503) (by decide) (by decide) ?_
            show Steps p.tables e below (T224.setTop (mkF m 507 #[.val (.int p1), .val (.int p2), .val (.int p3), .val (.int p4), .val (.int db0), .val (.int db1), .val (.int db2), .val (.int db3), .val (.int dt), .val (.int dc), .val (.int ppp), .val (.int frm), .val (.int len), .val (.int too), .val (.ref b30), .val (.long act), .second, .val (.long (((vv4 * pk) + (((dt - (48 : Int32)).toInt64) * ((pk - (1 : Int64)) / (9 : Int64)))) + (0 : Int64))), .second, .val (.long vv4), .second, .val (.int kk), .val (.int (0 : Int32)), .val (.int kk), .val (.long ((dt - (48 : Int32)).toInt64)), .second, .val (.long ((dc - (48 : Int32)).toInt64)), .second, .val (.long pk), .second] [(.int (1 : Int32))])) _
            exact kt
          obtain ⟨fs, hr, hrun, hended, hW, hsame⟩ := X224.leave (v := some (.int (1 : Int32))) (fun h => by rw [Bd.returns] at h; cases h) (BodyLoose.notSynchronized Bd)
          refine ⟨_, _, pre228 _ ?_, hrun, hended, _, _, rfl, ?_, ⟨_, rfl⟩, hW, hsame.mono (by decide) (by decide)⟩
          · exact retN X224 hx (t := .boolean) Bd.returns (by simp) (hb hby at_507) hr
          · show Q0 Z p1 p2 p3 p4 h0 n0 _ T224.heap _
            exact ⟨rfl, N224⟩
set_option maxRecDepth 65536 in
set_option maxHeartbeats 40000000 in
theorem comes_1 {Post : Tables → Env → Array Value → State → Outcome → State → Prop} (hpost : ∀ tb e args s v u, (limb_1_1.after args s (.returned v) u = true ∧ limb_1_2.after args s (.returned v) u = true ∧ True) → FrameEnd s (.returned v) u (Jvm.fieldLocs frame_1_writes args s ++ Jvm.arrayLocs frame_1_arrays args s ++ Jvm.staticLocs frame_1_statics s) 16 192 → Post tb e args s (.returned v) u) :
    ArmFor flags0 classFile x code maxLocals ret World_1 tables_1 room_1 Calls_1 rest_1 Pre_1 Post := by
  intro l hfl _ _ p e ha hc hk s m args below hf hA hF happ hP
  obtain ⟨hcalls, hrest, hpre⟩ := hP
  obtain ⟨-, -, -, hnamed, -, -, -, hat⟩ := (Spec.applies_iff hf).mp happ
  obtain ⟨hg, hn⟩ := and_e (Cond.before_iff.mp (show (Jvm.Cond.and given_1 narrow_1).before args s = true from hpre))
  obtain ⟨g1, g2⟩ := and_e hg
  obtain ⟨g3, g4⟩ := and_e g2
  obtain ⟨g5, g6⟩ := and_e g4
  obtain ⟨g7, g8⟩ := and_e g6
  obtain ⟨w0, w1, w2, w3, rfl⟩ : ∃ w0 w1 w2 w3 : Value, args = #[w0, w1, w2, w3] := by
    have hs : args.size = 4 := by simpa [Cond.value, given_1] using g1
    obtain ⟨L⟩ := args
    match L, hs with
    | [w0, w1, w2, w3], _ => exact ⟨w0, w1, w2, w3, rfl⟩
  have hw := fun d (hd : d ∈ tables_1) => atoms_spec (ws := Jvm.Cond.code x code maxLocals ret :: tables_1) hat d (List.mem_cons_of_mem _ hd)
  have hfit : Fit s := fun {y c} hc i hi => by
    obtain ⟨ha, rfl⟩ := Array.getElem?_eq_some_iff.mp hc
    have q := List.all_eq_true.mp ((Array.all_eq_true_iff_forall_mem.mp hF) _ (Array.getElem_mem ha)) i (List.mem_range.mpr hi)
    simpa [Array.getElem?_eq_getElem hi] using q
  obtain ⟨i0, ei0⟩ := is_v g3
  obtain rfl : w0 = (.int i0) := Option.some.inj ei0
  obtain ⟨i1, ei1⟩ := is_v g5
  obtain rfl : w1 = (.int i1) := Option.some.inj ei1
  obtain ⟨i2, ei2⟩ := is_v g7
  obtain rfl : w2 = (.int i2) := Option.some.inj ei2
  obtain ⟨i3, ei3⟩ := is_v g8
  obtain rfl : w3 = (.int i3) := Option.some.inj ei3
  obtain ⟨n, o, h1, h2, h3, _, L, rfl, ⟨rfl, N⟩, hq⟩ := rm0 l s _ hw tables_1 i0 i1 i2 i3 s.heap s.heap.size (Nat.le_refl _)  p e ha hc hk s m _ below hf ((Spec.applies_iff_loose hf).mp happ).1 ⟨rfl, State.Warmed39.refl s, rfl⟩ trivial
  refine ⟨n, _, h1, h2, h3, hpost _ _ _ _ _ _ ⟨Cond.after_iff.mpr rfl, Cond.after_iff.mpr (eq_i res_at (Term.int_eval (1)) rfl), trivial⟩ ⟨hq.1, hq.2.1, (hq.2.2.sift fun y hy => Or.inr (N y hy)).mono (by decide) (by decide)⟩⟩
theorem main_1_1 : Claimed_1_1 := comes_1 fun _ _ _ _ _ _ h hF => ⟨h.1, hF⟩
theorem main_1_2 : Claimed_1_2 := comes_1 fun _ _ _ _ _ _ h hF => ⟨h.2.1, hF⟩
end Jvm.Pilot.@@N@@
namespace Jvm.Pilot.@@N@@
open Jvm Jvm.ClassFile Sem Op Lib Jvm.Free Jvm.Stand Jvm.Pilot.@@N@@.Jvm.D
/-! MADE BY PROGRAM (witnessworld.py) out of the Statement's table words and the real class files: 12 classes; the members and pool entries that the words name. The judged class is class 1, her method 5. -/
namespace start1
open Jvm.ClassFile
def u (s : String) : CpInfo := .utf8 (stringToUtf16 s)
/-- a pool by its gaps: so many unusable entries, then the entry; so many at the end -/
def gap : Nat → List CpInfo → List CpInfo
  | 0, r => r
  | n + 1, r => .unusable :: gap n r
def poolList (es : List (Nat × CpInfo)) (last : Nat) : List CpInfo := es.foldr (fun e r => gap e.1 (e.2 :: r)) (gap last [])
def pool (es : List (Nat × CpInfo)) (last : Nat) : Array CpInfo := ⟨poolList es last⟩
def fileOf (pool : Array CpInfo) (this : Nat) (attrs : Array Attribute := #[]) (ms : Array MethodInfo := #[]) (fl : Nat := 33) (sup : Nat := 0) (ifs : Array Nat := #[]) (fds : Array FieldInfo := #[]) : ClassFile where
  minorVersion := 0
  majorVersion := 65
  constantPool := pool
  accessFlags := fl
  thisClass := this
  superClass := sup
  interfaces := ifs
  fields := fds
  methods := ms
  attributes := attrs
def plain (name : String) (sup : Option ClassId) : Class where
  name := name
  kind := .ordinary
  loader := none
  accessFlags := 33
  super := sup
  interfaces := #[]
  cf := none
  fields := #[]
  methods := #[]
  instanceTypes := #[]
  staticTypes := #[]
  resolved := #[]
  callSites := []
  init := .initialized
  statics := none
  mirror := none

def pool0 : Array CpInfo := pool [(5, u "<init>"), (0, u "()V"), (1, .class_ 10), (1, u "java/lang/Object")] 113

def k0m0 : Method := { name := "<init>", desc := "()V", sig := { parameters := [], returnType := none }, accessFlags := 1, code := none }
/-- java/lang/Object -/
def k0 : Class := { plain "java/lang/Object" none with
  accessFlags := 33
  interfaces := #[]
  cf := some (fileOf pool0 8 #[] #[{ accessFlags := 1, nameIndex := 5, descriptorIndex := 6, attributes := #[] }] 33 0 #[] #[])
  fields := #[]
  methods := #[k0m0]
  instanceTypes := #[]
  staticTypes := #[]
  resolved := Array.replicate 124 none
  statics := none }

def pool1 : Array CpInfo := pool [(2, .class_ 4), (1, u "java/lang/Object"), (0, u "<init>"), (0, u "()V"), (0, .methodref 8 9), (0, .class_ 10), (0, .nameAndType 11 12), (0, u "com/example/entgelt/entgelt/io/FieldFormsDigitsPinLaw"), (0, u "isDigit"), (0, u "(B)Z"), (0, .long 18446744073709551615), (1, .long 10), (1, .long 100), (1, .long 1000), (1, .long 10000), (1, .long 100000), (1, .long 1000000), (1, .long 10000000), (1, .long 100000000), (1, .long 1000000000), (1, .long 10000000000), (1, .long 100000000000), (1, .long 1000000000000), (1, .long 10000000000000), (1, .long 100000000000000), (1, .long 1000000000000000), (1, .long 10000000000000000), (1, .long 100000000000000000), (1, .long 1000000000000000000), (1, .methodref 8 52), (0, .nameAndType 53 54), (0, u "draw"), (0, u "(I)B"), (0, .integer 2147483647), (0, .integer 65535), (0, .methodref 58 59), (0, .class_ 60), (0, .nameAndType 61 62), (0, u "com/example/entgelt/entgelt/io/FieldForms"), (0, u "digits"), (0, u "([BII)J"), (0, .methodref 8 64), (0, .nameAndType 65 66), (0, u "step"), (0, u "(JB)J"), (0, .methodref 68 69), (0, .class_ 70), (0, .nameAndType 71 72), (0, u "java/lang/Math"), (0, u "max"), (0, u "(II)I"), (0, .methodref 8 74), (0, .nameAndType 75 76), (0, u "pow10"), (0, u "(I)J"), (0, .long 9), (4, u "law"), (0, u "(IIII)Z")] 4

def k1m0 : Method := { name := "<init>", desc := "()V", sig := { parameters := [], returnType := none }, accessFlags := 2, code := none }
def k1c1 : Code := { maxStack := 3, maxLocals := 1, code := method_2_code, exceptionTable := #[], attributes := #[] }
def k1m1 : Method := { name := "draw", desc := "(I)B", sig := { parameters := [.int], returnType := some .byte }, accessFlags := 10, code := some k1c1 }
def k1c2 : Code := { maxStack := 2, maxLocals := 1, code := method_3_code, exceptionTable := #[], attributes := #[] }
def k1m2 : Method := { name := "isDigit", desc := "(B)Z", sig := { parameters := [.byte], returnType := some .boolean }, accessFlags := 10, code := some k1c2 }
def k1c3 : Code := { maxStack := 4, maxLocals := 3, code := method_4_code, exceptionTable := #[], attributes := #[] }
def k1m3 : Method := { name := "step", desc := "(JB)J", sig := { parameters := [.long, .byte], returnType := some .long }, accessFlags := 10, code := some k1c3 }
def k1c4 : Code := { maxStack := 5, maxLocals := 2, code := method_5_code, exceptionTable := #[], attributes := #[] }
def k1m4 : Method := { name := "pow10", desc := "(I)J", sig := { parameters := [.int], returnType := some .long }, accessFlags := 10, code := some k1c4 }
def k1c5 : Code := { maxStack := 8, maxLocals := 30, code := code, exceptionTable := #[], attributes := #[] }
def k1m5 : Method := { name := "law", desc := "(IIII)Z", sig := { parameters := [.int, .int, .int, .int], returnType := some .boolean }, accessFlags := 9, code := some k1c5 }
/-- com/example/entgelt/entgelt/io/FieldFormsDigitsPinLaw -/
def k1 : Class := { plain "com/example/entgelt/entgelt/io/FieldFormsDigitsPinLaw" (some 0) with
  accessFlags := 49
  interfaces := #[]
  cf := some (fileOf pool1 8 #[] #[{ accessFlags := 2, nameIndex := 5, descriptorIndex := 6, attributes := #[] }, { accessFlags := 10, nameIndex := 53, descriptorIndex := 54, attributes := #[] }, { accessFlags := 10, nameIndex := 11, descriptorIndex := 12, attributes := #[] }, { accessFlags := 10, nameIndex := 65, descriptorIndex := 66, attributes := #[] }, { accessFlags := 10, nameIndex := 75, descriptorIndex := 76, attributes := #[] }, { accessFlags := 9, nameIndex := 82, descriptorIndex := 83, attributes := #[] }] 49 2 #[] #[])
  fields := #[]
  methods := #[k1m0, k1m1, k1m2, k1m3, k1m4, k1m5]
  instanceTypes := #[]
  staticTypes := #[]
  resolved := Array.replicate 88 none
  statics := none }

def pool2 : Array CpInfo := pool [(2, .class_ 4), (1, u "java/lang/Object"), (0, u "<init>"), (0, u "()V"), (14, .class_ 22), (0, u "com/example/entgelt/entgelt/io/FieldForms"), (0, .long 18446744073709551615), (1, .long 10), (1, .long 48), (3, u "digits"), (0, u "([BII)J"), (36, u "IDENTIFIER"), (0, u "Ljava/lang/String;"), (3, u "LONG_DIGITS"), (0, u "I")] 31

def k2m0 : Method := { name := "<init>", desc := "()V", sig := { parameters := [], returnType := none }, accessFlags := 2, code := none }
def k2c1 : Code := { maxStack := 4, maxLocals := 7, code := prog_13_method_3_code, exceptionTable := #[], attributes := #[] }
def k2m1 : Method := { name := "digits", desc := "([BII)J", sig := { parameters := [(.array .byte), .int, .int], returnType := some .long }, accessFlags := 8, code := some k2c1 }
/-- com/example/entgelt/entgelt/io/FieldForms -/
def k2 : Class := { plain "com/example/entgelt/entgelt/io/FieldForms" (some 0) with
  accessFlags := 48
  interfaces := #[]
  cf := some (fileOf pool2 21 #[] #[{ accessFlags := 2, nameIndex := 5, descriptorIndex := 6, attributes := #[] }, { accessFlags := 8, nameIndex := 31, descriptorIndex := 32, attributes := #[] }] 48 2 #[] #[{ accessFlags := 24, nameIndex := 69, descriptorIndex := 70, attributes := #[] }, { accessFlags := 26, nameIndex := 74, descriptorIndex := 75, attributes := #[] }])
  fields := #[{ name := "IDENTIFIER", type := (.object "java/lang/String"), accessFlags := 24, slot := 0, constantValue := 0 }, { name := "LONG_DIGITS", type := .int, accessFlags := 26, slot := 1, constantValue := 0 }]
  methods := #[k2m0, k2m1]
  instanceTypes := #[]
  staticTypes := #[(.object "java/lang/String"), .int]
  resolved := Array.replicate 107 none
  statics := none }

def pool3 : Array CpInfo := pool [(1, .class_ 2), (0, u "java/lang/Math"), (1, .class_ 6), (1, u "java/lang/Object"), (0, u "<init>"), (0, u "()V"), (89, .class_ 100), (1, u "java/lang/Math$RandomNumberGeneratorHolder"), (71, u "negativeZeroFloatBits"), (0, u "J"), (2, u "negativeZeroDoubleBits"), (21, u "max"), (46, u "$assertionsDisabled"), (0, u "Z"), (88, u "(II)I"), (2, u "twoToTheDoubleScaleDown"), (0, u "D"), (4, u "twoToTheDoubleScaleUp"), (9, u "E"), (3, u "PI"), (2, u "TAU"), (2, u "DEGREES_TO_RADIANS"), (0, u "RADIANS_TO_DEGREES")] 94

def k3m0 : Method := { name := "<init>", desc := "()V", sig := { parameters := [], returnType := none }, accessFlags := 2, code := none }
def k3c1 : Code := { maxStack := 2, maxLocals := 2, code := jdk_29_method_65_code, exceptionTable := #[], attributes := #[] }
def k3m1 : Method := { name := "max", desc := "(II)I", sig := { parameters := [.int, .int], returnType := some .int }, accessFlags := 9, code := some k3c1 }
/-- java/lang/Math -/
def k3 : Class := { plain "java/lang/Math" (some 0) with
  accessFlags := 49
  interfaces := #[]
  cf := some (fileOf pool3 1 #[.nestMembers #[98]] #[{ accessFlags := 2, nameIndex := 7, descriptorIndex := 8, attributes := #[] }, { accessFlags := 9, nameIndex := 198, descriptorIndex := 335, attributes := #[] }] 49 4 #[] #[{ accessFlags := 25, nameIndex := 354, descriptorIndex := 339, attributes := #[] }, { accessFlags := 25, nameIndex := 358, descriptorIndex := 339, attributes := #[] }, { accessFlags := 25, nameIndex := 361, descriptorIndex := 339, attributes := #[] }, { accessFlags := 26, nameIndex := 364, descriptorIndex := 339, attributes := #[] }, { accessFlags := 26, nameIndex := 365, descriptorIndex := 339, attributes := #[] }, { accessFlags := 26, nameIndex := 172, descriptorIndex := 173, attributes := #[] }, { accessFlags := 26, nameIndex := 176, descriptorIndex := 173, attributes := #[] }, { accessFlags := 8, nameIndex := 344, descriptorIndex := 339, attributes := #[] }, { accessFlags := 8, nameIndex := 338, descriptorIndex := 339, attributes := #[] }, { accessFlags := 4120, nameIndex := 245, descriptorIndex := 246, attributes := #[] }])
  fields := #[{ name := "E", type := .double, accessFlags := 25, slot := 0, constantValue := 0 }, { name := "PI", type := .double, accessFlags := 25, slot := 1, constantValue := 0 }, { name := "TAU", type := .double, accessFlags := 25, slot := 2, constantValue := 0 }, { name := "DEGREES_TO_RADIANS", type := .double, accessFlags := 26, slot := 3, constantValue := 0 }, { name := "RADIANS_TO_DEGREES", type := .double, accessFlags := 26, slot := 4, constantValue := 0 }, { name := "negativeZeroFloatBits", type := .long, accessFlags := 26, slot := 5, constantValue := 0 }, { name := "negativeZeroDoubleBits", type := .long, accessFlags := 26, slot := 6, constantValue := 0 }, { name := "twoToTheDoubleScaleUp", type := .double, accessFlags := 8, slot := 7, constantValue := 0 }, { name := "twoToTheDoubleScaleDown", type := .double, accessFlags := 8, slot := 8, constantValue := 0 }, { name := "$assertionsDisabled", type := .boolean, accessFlags := 4120, slot := 9, constantValue := 0 }]
  methods := #[k3m0, k3m1]
  instanceTypes := #[]
  staticTypes := #[.double, .double, .double, .double, .double, .long, .long, .double, .double, .boolean]
  resolved := Array.replicate 460 none
  statics := none }

def pool4 : Array CpInfo := pool [(1, u "java/lang/Cloneable"), (0, .class_ 1), (0, u "java/lang/Object"), (0, .class_ 3)] 3

/-- java/lang/Cloneable -/
def k4 : Class := { plain "java/lang/Cloneable" (some 0) with
  accessFlags := 1537
  interfaces := #[]
  cf := some (fileOf pool4 2 #[] #[] 1537 4 #[] #[])
  fields := #[]
  methods := #[]
  instanceTypes := #[]
  staticTypes := #[]
  resolved := Array.replicate 8 none
  statics := none }

def pool5 : Array CpInfo := pool [(1, u "java/io/Serializable"), (0, .class_ 1), (0, u "java/lang/Object"), (0, .class_ 3)] 3

/-- java/io/Serializable -/
def k5 : Class := { plain "java/io/Serializable" (some 0) with
  accessFlags := 1537
  interfaces := #[]
  cf := some (fileOf pool5 2 #[] #[] 1537 4 #[] #[])
  fields := #[]
  methods := #[]
  instanceTypes := #[]
  staticTypes := #[]
  resolved := Array.replicate 8 none
  statics := none }

/-- the primitive byte -/
def k6 : Class := { plain "byte" none with kind := .primitive 'B', accessFlags := 0x411 }
/-- [B -/
def k7 : Class := { plain "[B" (some 0) with kind := .array 6 .byte, interfaces := #[4, 5], accessFlags := 1041 }

/-- the primitive int -/
def k8 : Class := { plain "int" none with kind := .primitive 'I', accessFlags := 0x411 }
/-- [I -/
def k9 : Class := { plain "[I" (some 0) with kind := .array 8 .int, interfaces := #[4, 5], accessFlags := 1041 }

/-- the primitive long -/
def k10 : Class := { plain "long" none with kind := .primitive 'J', accessFlags := 0x411 }
/-- [J -/
def k11 : Class := { plain "[J" (some 0) with kind := .array 10 .long, interfaces := #[4, 5], accessFlags := 1041 }

def heap : Heap := #[]
def classes : Array Class := #[k0, k1, k2, k3, k4, k5, k6, k7, k8, k9, k10, k11]
def interned : List (Array UInt16 × Addr) := []
def slotsUsed : Nat := 0
def theMethod : MethodId := ⟨1, 5⟩
def args0 : Array Value := #[.int 50, .int 3, .int 9, .int 12]
def aboutOver (below : List Frame) : State where
  vm := { classes := classes, interned := interned.toArray }
  heap := heap
  slotsUsed := slotsUsed
  threads := #[{ frames := .invoking theMethod args0 :: below }]
def below0 : List Frame := [.native { method := ⟨0, 0⟩, args := #[] }]
def about1 : State := aboutOver below0
def p0 : Program := .bare "" "" ""
def e0 : Env := launch0.env 0 0 0
theorem w_frames : about1.frames = Frame.invoking theMethod args0 :: below0 := rfl
set_option maxRecDepth 65536 in
theorem w_args : argsFit about1.vm theMethod args0 = true := by decide +kernel
set_option maxRecDepth 65536 in
theorem w_heap : heapFits about1 = true := by decide +kernel
set_option maxRecDepth 65536 in
theorem w_runnable : about1.curStatus? = some .runnable := by decide +kernel
set_option maxRecDepth 65536 in
theorem w_alone : about1.alone = true := by decide +kernel
set_option maxRecDepth 65536 in
theorem w_named : about1.methodNamed? x = some theMethod := by decide +kernel
set_option maxRecDepth 65536 in
theorem w_hears : about1.hears theMethod below0 = true := by decide +kernel
set_option maxRecDepth 65536 in
theorem w_ripe : about1.ripe theMethod args0 below0 = true := by decide +kernel
theorem w_running : about1.status = .running := rfl
set_option maxRecDepth 65536 in
theorem w_room : about1.hasRoom e0.platform room_1 = true :=
  launch0.hasRoom_least _ room_1 (by decide +kernel) (by decide +kernel) (by decide +kernel) (by decide +kernel) (by decide +kernel) (by decide +kernel)
theorem allAtoms_all (ts : List Jvm.Cond) (a : Array Jvm.Value) (st : Jvm.State) : (allAtoms ts).before a st = ts.all (fun c => c.before a st) := by
  induction ts with
  | nil => rfl
  | cons c t ih =>
    show (Jvm.Cond.and c (allAtoms t)).before a st = _
    rw [Jvm.Cond.before_and, ih, List.all_cons]
def words1 : List Jvm.Cond := Jvm.Cond.code x code maxLocals ret :: tables_1
/-- a 'code' word, met by the world's own term for the bytes: nothing is compared byte by byte -/
theorem code_word {y : MethodName} {bytes : ByteArray} {mx : Nat} {rt : Option FieldType} {a : Array Value} {s : State} {m : MethodId} {meth : Method} {c : Code} (h1 : s.methodNamed? y = some m) (h2 : s.vm.method? m = some meth) (h3 : meth.code = some c) (h4 : c.code = bytes)
    (h5 : (c.maxLocals == mx && c.exceptionTable.isEmpty && decide (c.maxStack ≤ mostOperands) && decide (meth.sig.returnType = rt) && !meth.locks && decide (parseMethodDescriptor y.desc = some meth.sig)) = true) : (Jvm.Cond.code y bytes mx rt).before a s = true := by
  simp only [Bool.and_eq_true, beq_iff_eq, Bool.not_eq_true', decide_eq_true_eq] at h5
  obtain ⟨⟨⟨⟨⟨g1, g2⟩, g3⟩, g4⟩, g5⟩, g6⟩ := h5
  simp [Cond.before, Cond.holds, Cond.value, h1, h2, h3, h4, g1, g2, g3, g4, g5, g6]
def isCode : Jvm.Cond → Bool
  | .code _ _ _ _ => true
  | _ => false
theorem all_split {L : List Jvm.Cond} {P : Jvm.Cond → Bool} (h1 : L.all (fun c => isCode c || P c) = true) (h2 : ∀ c ∈ L.filter isCode, P c = true) : L.all P = true := by
  refine List.all_eq_true.mpr fun c hc => ?_
  have h := List.all_eq_true.mp h1 c hc
  rcases Bool.eq_false_or_eq_true (isCode c) with hi | hi
  · exact h2 c (List.mem_filter.mpr ⟨hc, hi⟩)
  · simpa [hi] using h
set_option maxRecDepth 65536 in
theorem w_c0 : (Jvm.Cond.code x code maxLocals ret).before args0 about1 = true := code_word (m := ⟨1, 5⟩) (meth := k1m5) (c := k1c5) (by decide +kernel) rfl rfl rfl (by decide +kernel)
set_option maxRecDepth 65536 in
theorem w_c1 : (Jvm.Cond.code ({ cls := "com/example/entgelt/entgelt/io/FieldFormsDigitsPinLaw", name := "draw", desc := "(I)B" } : Jvm.MethodName) method_2_code (1 : Nat) (Option.some Jvm.ClassFile.FieldType.byte)).before args0 about1 = true := code_word (m := ⟨1, 1⟩) (meth := k1m1) (c := k1c1) (by decide +kernel) rfl rfl rfl (by decide +kernel)
set_option maxRecDepth 65536 in
theorem w_c2 : (Jvm.Cond.code ({ cls := "com/example/entgelt/entgelt/io/FieldForms", name := "digits", desc := "([BII)J" } : Jvm.MethodName) prog_13_method_3_code (7 : Nat) (Option.some Jvm.ClassFile.FieldType.long)).before args0 about1 = true := code_word (m := ⟨2, 1⟩) (meth := k2m1) (c := k2c1) (by decide +kernel) rfl rfl rfl (by decide +kernel)
set_option maxRecDepth 65536 in
theorem w_c3 : (Jvm.Cond.code ({ cls := "java/lang/Math", name := "max", desc := "(II)I" } : Jvm.MethodName) jdk_29_method_65_code (2 : Nat) (Option.some Jvm.ClassFile.FieldType.int)).before args0 about1 = true := code_word (m := ⟨3, 1⟩) (meth := k3m1) (c := k3c1) (by decide +kernel) rfl rfl rfl (by decide +kernel)
set_option maxRecDepth 65536 in
theorem w_c4 : (Jvm.Cond.code ({ cls := "com/example/entgelt/entgelt/io/FieldFormsDigitsPinLaw", name := "pow10", desc := "(I)J" } : Jvm.MethodName) method_5_code (2 : Nat) (Option.some Jvm.ClassFile.FieldType.long)).before args0 about1 = true := code_word (m := ⟨1, 4⟩) (meth := k1m4) (c := k1c4) (by decide +kernel) rfl rfl rfl (by decide +kernel)
set_option maxRecDepth 65536 in
theorem w_c5 : (Jvm.Cond.code ({ cls := "com/example/entgelt/entgelt/io/FieldFormsDigitsPinLaw", name := "step", desc := "(JB)J" } : Jvm.MethodName) method_4_code (3 : Nat) (Option.some Jvm.ClassFile.FieldType.long)).before args0 about1 = true := code_word (m := ⟨1, 3⟩) (meth := k1m3) (c := k1c3) (by decide +kernel) rfl rfl rfl (by decide +kernel)
set_option maxRecDepth 65536 in
theorem w_c6 : (Jvm.Cond.code ({ cls := "com/example/entgelt/entgelt/io/FieldFormsDigitsPinLaw", name := "isDigit", desc := "(B)Z" } : Jvm.MethodName) method_3_code (1 : Nat) (Option.some Jvm.ClassFile.FieldType.boolean)).before args0 about1 = true := code_word (m := ⟨1, 2⟩) (meth := k1m2) (c := k1c2) (by decide +kernel) rfl rfl rfl (by decide +kernel)
def codes1 : List Jvm.Cond := [Jvm.Cond.code x code maxLocals ret, Jvm.Cond.code ({ cls := "com/example/entgelt/entgelt/io/FieldFormsDigitsPinLaw", name := "draw", desc := "(I)B" } : Jvm.MethodName) method_2_code (1 : Nat) (Option.some Jvm.ClassFile.FieldType.byte), Jvm.Cond.code ({ cls := "com/example/entgelt/entgelt/io/FieldForms", name := "digits", desc := "([BII)J" } : Jvm.MethodName) prog_13_method_3_code (7 : Nat) (Option.some Jvm.ClassFile.FieldType.long), Jvm.Cond.code ({ cls := "java/lang/Math", name := "max", desc := "(II)I" } : Jvm.MethodName) jdk_29_method_65_code (2 : Nat) (Option.some Jvm.ClassFile.FieldType.int), Jvm.Cond.code ({ cls := "com/example/entgelt/entgelt/io/FieldFormsDigitsPinLaw", name := "pow10", desc := "(I)J" } : Jvm.MethodName) method_5_code (2 : Nat) (Option.some Jvm.ClassFile.FieldType.long), Jvm.Cond.code ({ cls := "com/example/entgelt/entgelt/io/FieldFormsDigitsPinLaw", name := "step", desc := "(JB)J" } : Jvm.MethodName) method_4_code (3 : Nat) (Option.some Jvm.ClassFile.FieldType.long), Jvm.Cond.code ({ cls := "com/example/entgelt/entgelt/io/FieldFormsDigitsPinLaw", name := "isDigit", desc := "(B)Z" } : Jvm.MethodName) method_3_code (1 : Nat) (Option.some Jvm.ClassFile.FieldType.boolean)]
set_option maxRecDepth 65536 in
theorem codes_eq : words1.filter isCode = codes1 := rfl
theorem w_codes : ∀ c ∈ words1.filter isCode, c.before args0 about1 = true := by
  rw [codes_eq]
  intro c hc
  simp only [codes1, List.mem_cons, List.not_mem_nil, or_false] at hc
  rcases hc with rfl | rfl | rfl | rfl | rfl | rfl | rfl
  · exact w_c0
  · exact w_c1
  · exact w_c2
  · exact w_c3
  · exact w_c4
  · exact w_c5
  · exact w_c6
set_option maxRecDepth 65536 in
theorem w_t1 : (words1.take 24).all (fun c => isCode c || c.before args0 about1) = true := by decide +kernel
set_option maxRecDepth 65536 in
theorem w_t2 : ((words1.drop 24).take 24).all (fun c => isCode c || c.before args0 about1) = true := by decide +kernel
set_option maxRecDepth 65536 in
theorem w_t3 : ((words1.drop 24).drop 24).all (fun c => isCode c || c.before args0 about1) = true := by decide +kernel
theorem w_tables : (allAtoms (Jvm.Cond.code x code maxLocals ret :: tables_1)).before args0 about1 = true := by
  rw [allAtoms_all]
  show words1.all (fun c => c.before args0 about1) = true
  refine all_split ?_ w_codes
  rw [← List.take_append_drop 24 words1, List.all_append, w_t1, ← List.take_append_drop 24 (words1.drop 24), List.all_append, w_t2, w_t3]
  rfl
set_option maxRecDepth 65536 in
theorem w_case : (Jvm.Cond.and given_1 narrow_1).before args0 about1 = true := by decide +kernel
theorem w_applies : (headSpec (Jvm.Cond.code x code maxLocals ret :: tables_1) room_1).applies x e0.platform about1 = true :=
  (Spec.applies_iff w_frames).mpr ⟨w_running, w_runnable, w_alone, w_named, w_hears, w_ripe, w_room, w_tables⟩
theorem atStart : AtStart classFile x code maxLocals ret World_1 tables_1 room_1 Calls_1 rest_1 Pre_1 launch0 p0 e0 about1 theMethod args0 below0 :=
  ⟨lists_1, trivial, launch0.admits_env _ _ _, launch0.least_env, fairChoices_fair.cas, fairChoices_fair.clock, w_frames, w_args, w_heap, w_applies, trivial, trivial, w_case⟩
end start1
theorem witness_1 : WitnessClaimed_1 := ⟨start1.p0, start1.e0, start1.about1, start1.theMethod, start1.args0, start1.below0, start1.atStart⟩
end Jvm.Pilot.@@N@@
