import JvmDerived
import JvmDerived.Pilot.@@N@@Statement
import JvmDerived.Pilot.@@N@@Code
set_option linter.unusedVariables false
set_option linter.unusedSimpArgs false
namespace Jvm.RoadKit
open Sem ClassFile Op Lib Jvm.Stand Jvm.Free Jvm.LawKit
section New
variable {p : Program} {l : Launch} {e : Env} {R : Room} {s : State} {m : MethodId} {args : Array Value} {below : List Frame} {meth : Method} {c : Code} {T : State} {locs : List Loc} {cells slots : Nat}
theorem retI (X : Stand p l e R s m args below meth c T locs cells slots) (hx : p.tables.exec = Jvm.exec) {pc : Nat} {Ls : Array Slot} {z : Int32} {rest : List Value} (hret : meth.sig.returnType = some .int) (hd : decode c.code pc = .ok (.ireturn, 1)) {fs : List Frame}
    (hl : ∀ (f : JFrame) (acts : List Action), f.method = m → f.locked = none → f.entered = [] → (doReturn e (T.setTop f) acts (some (.int z))).1 = T.setFrames fs) : Steps p.tables e below (T.setTop (mkF m pc Ls (.int z :: rest))) (T.setFrames fs) := by
  have hm' : T.vm.method? m = some meth := X.method'
  have hn : narrow .int (.int z) = .int z := rfl
  show Steps p.tables e below (T.setTop { method := m, pc := pc, locals := Ls, stack := _ :: rest, locked := none }) _
  jvm_step X.here [X.here.top, hx, hd, hm', hret, hn]
  first | (intro acts; rw [hl _ acts rfl rfl rfl]) | rw [hl _ _ rfl rfl rfl]
  exact Steps.refl _
end New
end Jvm.RoadKit
namespace Jvm.Pilot.@@N@@
open Jvm Jvm.ClassFile Sem Op Lib Jvm.Free Jvm.Stand Jvm.LawKit Jvm.RoadKit Bundle Jvm.Pilot.@@N@@.Jvm.D
theorem mgE {A : Type} {l : List A} {a : A} (i : Nat) (h : l[i]? = some a) : a ∈ l := List.mem_of_getElem? h

def cyc : Nat → Int32 → Int32 → Int32 → Int64 → Int64
  | 0, _, _, _, a => a
  | k + 1, n, r, i, a => if i < n then cyc k n r (i + r) (a ||| ((1 : Int64) <<< (i &&& 0x3f).toInt64)) else a
theorem own_step (n r i : Int32) (hn : n.toInt ≤ 64) (hr : 1 ≤ r.toInt ∧ r.toInt ≤ 128) (hi : 0 ≤ i.toInt) (h : i < n) : (i + r).toInt = i.toInt + r.toInt := by
  rw [Int32.lt_iff_toInt_lt] at h
  have a := c_iadd i r
  have b := rng32 (i + r)
  omega

theorem d1_0 : decode prog_28_method_2_code 0 = .ok (.lconst 0, 1) := by decide +kernel
theorem d1_1 : decode prog_28_method_2_code 1 = .ok (.lstore_n 3, 1) := by decide +kernel
theorem d1_2 : decode prog_28_method_2_code 2 = .ok (.iload_n 2, 1) := by decide +kernel
theorem d1_3 : decode prog_28_method_2_code 3 = .ok (.istore 5, 2) := by decide +kernel
theorem d1_5 : decode prog_28_method_2_code 5 = .ok (.iload 5, 2) := by decide +kernel
theorem d1_7 : decode prog_28_method_2_code 7 = .ok (.iload_n 0, 1) := by decide +kernel
theorem d1_8 : decode prog_28_method_2_code 8 = .ok (.if_icmp .ge 19, 3) := by decide +kernel
theorem d1_11 : decode prog_28_method_2_code 11 = .ok (.lload_n 3, 1) := by decide +kernel
theorem d1_12 : decode prog_28_method_2_code 12 = .ok (.lconst 1, 1) := by decide +kernel
theorem d1_13 : decode prog_28_method_2_code 13 = .ok (.iload 5, 2) := by decide +kernel
theorem d1_15 : decode prog_28_method_2_code 15 = .ok (.lshl, 1) := by decide +kernel
theorem d1_16 : decode prog_28_method_2_code 16 = .ok (.lor, 1) := by decide +kernel
theorem d1_17 : decode prog_28_method_2_code 17 = .ok (.lstore_n 3, 1) := by decide +kernel
theorem d1_18 : decode prog_28_method_2_code 18 = .ok (.iload 5, 2) := by decide +kernel
theorem d1_20 : decode prog_28_method_2_code 20 = .ok (.iload_n 1, 1) := by decide +kernel
theorem d1_21 : decode prog_28_method_2_code 21 = .ok (.iadd, 1) := by decide +kernel
theorem d1_22 : decode prog_28_method_2_code 22 = .ok (.istore 5, 2) := by decide +kernel
theorem d1_24 : decode prog_28_method_2_code 24 = .ok (.goto (-19), 3) := by decide +kernel
theorem d1_27 : decode prog_28_method_2_code 27 = .ok (.lload_n 3, 1) := by decide +kernel
theorem d1_28 : decode prog_28_method_2_code 28 = .ok (.lreturn, 1) := by decide +kernel
theorem pn_com_example_starling_starling_schedule_SlotUse : plainName "com/example/starling/starling/schedule/SlotUse" = true := by first | (simp [plainName, overriddenIn]; done) | decide +kernel
theorem ef_1 (m : MethodId) (x0 : Int32) (x1 : Int32) (x2 : Int32) : entryFrame m #[(.int x0), (.int x1), (.int x2)] 6 = mkF m 0 #[.val (.int x0), .val (.int x1), .val (.int x2), .unset, .unset, .unset] [] := by first | (simp [entryFrame, mkF, argsToLocals, Value.category]; done) | rfl
def Q1 (Z : State) (p1 : Int32) (p2 : Int32) (p3 : Int32) (h0 : Heap) (n0 : Nat) (v : Option Value) (h : Heap) (L : List Loc) : Prop := v = some (.long (cyc 65 p1 p2 p3 (0 : Int64))) ∧ Fr n0 L ∧ h = h0
set_option maxRecDepth 65536 in
set_option maxHeartbeats 40000000 in
theorem rm1 (l : Launch) (Z : State) (a0 : Array Value) (hw : ∀ d ∈ tables_1, d.before a0 Z = true) (ws : List Jvm.Cond) (p1 : Int32) (p2 : Int32) (p3 : Int32) (h0 : Heap) (n0 : Nat) (Z0 : n0 ≤ h0.size) (hn : p1.toInt ≤ 64) (hr : 1 ≤ p2.toInt ∧ p2.toInt ≤ 128) (hbs : 0 ≤ p3.toInt) :
    MetFree l (⟨"com/example/starling/starling/schedule/SlotUse", "cyclesOf", "(III)J"⟩ : MethodName) (head1 (Jvm.Cond.code (⟨"com/example/starling/starling/schedule/SlotUse", "cyclesOf", "(III)J"⟩ : MethodName) prog_28_method_2_code 6 (some .long) :: ws) ({ frames := 0, cells := 0, slots := 0, locals := 0 } : Room)) (fun a U => a = #[(.int p1), (.int p2), (.int p3)] ∧ Z.Warmed39 U.vm ∧ U.heap = h0) (fun _ _ _ _ _ => True) (fun _ U o U' => ∃ v L, o = .returned v ∧ Q1 Z p1 p2 p3 h0 n0 v U'.heap L ∧ FrameEnd U o U' L ({ frames := 0, cells := 0, slots := 0, locals := 0 } : Room).cells ({ frames := 0, cells := 0, slots := 0, locals := 0 } : Room).slots) := by
  refine MetFree.of_bodySF (plainFor_of_name pn_com_example_starling_starling_schedule_SlotUse) hisR ?_
  intro p e s m args below meth c s₁ Bd hml0 hP hK
  obtain ⟨rfl, hZ, hh⟩ := hP
  have hx := Bd.exec
  have hby := Bd.bytes
  have hml : c.maxLocals = 6 := hml0
  have hown : s.vm.findClass "com/example/starling/starling/schedule/SlotUse" = some m.cls := findClass_of_methodNamed Bd.named
  have hnm := (name_of_methodNamed Bd.named Bd.method).1
  have X0 : Stand p l e ({ frames := 0, cells := 0, slots := 0, locals := 0 } : Room) s m #[(.int p1), (.int p2), (.int p3)] below meth c s₁ [] 0 0 := Stand.of_body Bd
  have e0 : s₁.heap = h0 := by rw [← hh, Bd.state]; rfl
  have N0 := Fr.nil n0
  have pre0 : ∀ t, Steps p.tables e below (s₁.setTop (mkF m 0 #[.val (.int p1), .val (.int p2), .val (.int p3), .unset, .unset, .unset] [])) t → Steps p.tables e below (s₁.setTop (entryFrame m #[(.int p1), (.int p2), (.int p3)] 6)) t := fun t k => castTop (ef_1 m p1 p2 p3) k
  have pre1 : ∀ t, Steps p.tables e below (s₁.setTop (mkF m 5 #[.val (.int p1), .val (.int p2), .val (.int p3), .val (.long (0 : Int64)), .second, .val (.int p3)] [])) t → Steps p.tables e below (s₁.setTop (entryFrame m #[(.int p1), (.int p2), (.int p3)] 6)) t := fun t kt => by
    refine pre0 t ?_
    refine XS.lconst X0.here hx rfl (hb hby d1_0) ?_
    show Steps p.tables e below (s₁.setTop (mkF m 1 #[.val (.int p1), .val (.int p2), .val (.int p3), .unset, .unset, .unset] [(.long (0 : Int64))])) _
    refine XS.lstoreN X0.here hx rfl (hb hby d1_1) rfl (l' := #[.val (.int p1), .val (.int p2), .val (.int p3), .val (.long (0 : Int64)), .second, .unset]) rfl ?_
    show Steps p.tables e below (s₁.setTop (mkF m 2 #[.val (.int p1), .val (.int p2), .val (.int p3), .val (.long (0 : Int64)), .second, .unset] [])) _
    refine XS.iloadN X0.here hx rfl (hb hby d1_2) rfl ?_
    show Steps p.tables e below (s₁.setTop (mkF m 3 #[.val (.int p1), .val (.int p2), .val (.int p3), .val (.long (0 : Int64)), .second, .unset] [(.int p3)])) _
    refine XS.istore X0.here hx rfl (hb hby d1_3) rfl (l' := #[.val (.int p1), .val (.int p2), .val (.int p3), .val (.long (0 : Int64)), .second, .val (.int p3)]) rfl ?_
    show Steps p.tables e below (s₁.setTop (mkF m 5 #[.val (.int p1), .val (.int p2), .val (.int p3), .val (.long (0 : Int64)), .second, .val (.int p3)] [])) _
    exact kt
  have loop5 : ∀ (k : Nat) (va : Int64) (vi : Int32), (0 ≤ vi.toInt) → (p1.toInt - vi.toInt).toNat < k → ∃ (x5_5 : Int32), (∀ t, Steps p.tables e below (s₁.setTop (mkF m 27 #[.val (.int p1), .val (.int p2), .val (.int p3), .val (.long (cyc k p1 p2 vi va)), .second, .val (.int x5_5)] [])) t → Steps p.tables e below (s₁.setTop (mkF m 5 #[.val (.int p1), .val (.int p2), .val (.int p3), .val (.long va), .second, .val (.int vi)] [])) t) := by
    intro k
    induction k with
    | zero => intro va vi hi hm; exact absurd hm (Nat.not_lt_zero _)
    | succ k ih =>
      intro va vi hi hm
      by_cases hc8 : vi < p1
      · skip
        have pre2 : ∀ t, Steps p.tables e below (s₁.setTop (mkF m 5 #[.val (.int p1), .val (.int p2), .val (.int p3), .val (.long (va ||| ((1 : Int64) <<< (vi &&& 0x3f).toInt64))), .second, .val (.int (vi + p2))] [])) t → Steps p.tables e below (s₁.setTop (mkF m 5 #[.val (.int p1), .val (.int p2), .val (.int p3), .val (.long va), .second, .val (.int vi)] [])) t := fun t kt => by
          refine (fun t (kt : Steps p.tables e below (s₁.setTop (mkF m 5 #[.val (.int p1), .val (.int p2), .val (.int p3), .val (.long va), .second, .val (.int vi)] [])) t) => kt) t ?_
          refine XS.iload X0.here hx rfl (hb hby d1_5) rfl ?_
          show Steps p.tables e below (s₁.setTop (mkF m 7 #[.val (.int p1), .val (.int p2), .val (.int p3), .val (.long va), .second, .val (.int vi)] [(.int vi)])) _
          refine XS.iloadN X0.here hx rfl (hb hby d1_7) rfl ?_
          show Steps p.tables e below (s₁.setTop (mkF m 8 #[.val (.int p1), .val (.int p2), .val (.int p3), .val (.long va), .second, .val (.int vi)] [(.int p1), (.int vi)])) _
          refine XS.icmpNo X0.here hx rfl (hb hby d1_8) rfl (tlt hc8).2.1 ?_
          show Steps p.tables e below (s₁.setTop (mkF m 11 #[.val (.int p1), .val (.int p2), .val (.int p3), .val (.long va), .second, .val (.int vi)] [])) _
          refine XS.lloadN X0.here hx rfl (hb hby d1_11) rfl ?_
          show Steps p.tables e below (s₁.setTop (mkF m 12 #[.val (.int p1), .val (.int p2), .val (.int p3), .val (.long va), .second, .val (.int vi)] [(.long va)])) _
          refine XS.lconst X0.here hx rfl (hb hby d1_12) ?_
          show Steps p.tables e below (s₁.setTop (mkF m 13 #[.val (.int p1), .val (.int p2), .val (.int p3), .val (.long va), .second, .val (.int vi)] [(.long (1 : Int64)), (.long va)])) _
          refine XS.iload X0.here hx rfl (hb hby d1_13) rfl ?_
          show Steps p.tables e below (s₁.setTop (mkF m 15 #[.val (.int p1), .val (.int p2), .val (.int p3), .val (.long va), .second, .val (.int vi)] [(.int vi), (.long (1 : Int64)), (.long va)])) _
          refine XS.lshl X0.here hx rfl (hb hby d1_15) rfl ?_
          show Steps p.tables e below (s₁.setTop (mkF m 16 #[.val (.int p1), .val (.int p2), .val (.int p3), .val (.long va), .second, .val (.int vi)] [(.long ((1 : Int64) <<< (vi &&& 0x3f).toInt64)), (.long va)])) _
          refine XS.lor X0.here hx rfl (hb hby d1_16) rfl ?_
          show Steps p.tables e below (s₁.setTop (mkF m 17 #[.val (.int p1), .val (.int p2), .val (.int p3), .val (.long va), .second, .val (.int vi)] [(.long (va ||| ((1 : Int64) <<< (vi &&& 0x3f).toInt64)))])) _
          refine XS.lstoreN X0.here hx rfl (hb hby d1_17) rfl (l' := #[.val (.int p1), .val (.int p2), .val (.int p3), .val (.long (va ||| ((1 : Int64) <<< (vi &&& 0x3f).toInt64))), .second, .val (.int vi)]) rfl ?_
          show Steps p.tables e below (s₁.setTop (mkF m 18 #[.val (.int p1), .val (.int p2), .val (.int p3), .val (.long (va ||| ((1 : Int64) <<< (vi &&& 0x3f).toInt64))), .second, .val (.int vi)] [])) _
          refine XS.iload X0.here hx rfl (hb hby d1_18) rfl ?_
          show Steps p.tables e below (s₁.setTop (mkF m 20 #[.val (.int p1), .val (.int p2), .val (.int p3), .val (.long (va ||| ((1 : Int64) <<< (vi &&& 0x3f).toInt64))), .second, .val (.int vi)] [(.int vi)])) _
          refine XS.iloadN X0.here hx rfl (hb hby d1_20) rfl ?_
          show Steps p.tables e below (s₁.setTop (mkF m 21 #[.val (.int p1), .val (.int p2), .val (.int p3), .val (.long (va ||| ((1 : Int64) <<< (vi &&& 0x3f).toInt64))), .second, .val (.int vi)] [(.int p2), (.int vi)])) _
          refine XS.iadd X0.here hx rfl (hb hby d1_21) rfl ?_
          show Steps p.tables e below (s₁.setTop (mkF m 22 #[.val (.int p1), .val (.int p2), .val (.int p3), .val (.long (va ||| ((1 : Int64) <<< (vi &&& 0x3f).toInt64))), .second, .val (.int vi)] [(.int (vi + p2))])) _
          refine XS.istore X0.here hx rfl (hb hby d1_22) rfl (l' := #[.val (.int p1), .val (.int p2), .val (.int p3), .val (.long (va ||| ((1 : Int64) <<< (vi &&& 0x3f).toInt64))), .second, .val (.int (vi + p2))]) rfl ?_
          show Steps p.tables e below (s₁.setTop (mkF m 24 #[.val (.int p1), .val (.int p2), .val (.int p3), .val (.long (va ||| ((1 : Int64) <<< (vi &&& 0x3f).toInt64))), .second, .val (.int (vi + p2))] [])) _
          refine XS.goto X0.here hx rfl (pc0 := 24) (pc' := 5) rfl (hb hby d1_24) (by decide) (by decide) ?_
          show Steps p.tables e below (s₁.setTop (mkF m 5 #[.val (.int p1), .val (.int p2), .val (.int p3), .val (.long (va ||| ((1 : Int64) <<< (vi &&& 0x3f).toInt64))), .second, .val (.int (vi + p2))] [])) _
          exact kt
        obtain ⟨x5_5, lp⟩ := ih (va ||| ((1 : Int64) <<< (vi &&& 0x3f).toInt64)) (vi + p2) (by rw [own_step p1 p2 vi hn hr hi hc8]; omega) (by rw [own_step p1 p2 vi hn hr hi hc8]; rw [Int32.lt_iff_toInt_lt] at hc8; omega)
        refine ⟨x5_5, fun t kt => ?_⟩
        rw [show (cyc (k + 1) p1 p2 vi va) = (cyc k p1 p2 (vi + p2) (va ||| ((1 : Int64) <<< (vi &&& 0x3f).toInt64))) from by simp only [cyc, if_pos hc8]] at kt
        exact pre2 t (lp t kt)
      · skip
        have pre3 : ∀ t, Steps p.tables e below (s₁.setTop (mkF m 27 #[.val (.int p1), .val (.int p2), .val (.int p3), .val (.long va), .second, .val (.int vi)] [])) t → Steps p.tables e below (s₁.setTop (mkF m 5 #[.val (.int p1), .val (.int p2), .val (.int p3), .val (.long va), .second, .val (.int vi)] [])) t := fun t kt => by
          refine (fun t (kt : Steps p.tables e below (s₁.setTop (mkF m 5 #[.val (.int p1), .val (.int p2), .val (.int p3), .val (.long va), .second, .val (.int vi)] [])) t) => kt) t ?_
          refine XS.iload X0.here hx rfl (hb hby d1_5) rfl ?_
          show Steps p.tables e below (s₁.setTop (mkF m 7 #[.val (.int p1), .val (.int p2), .val (.int p3), .val (.long va), .second, .val (.int vi)] [(.int vi)])) _
          refine XS.iloadN X0.here hx rfl (hb hby d1_7) rfl ?_
          show Steps p.tables e below (s₁.setTop (mkF m 8 #[.val (.int p1), .val (.int p2), .val (.int p3), .val (.long va), .second, .val (.int vi)] [(.int p1), (.int vi)])) _
          refine XS.icmpYes X0.here hx rfl (pc0 := 8) (pc' := 27) rfl (hb hby d1_8) rfl (flt hc8).2.1 (by decide) (by decide) ?_
          show Steps p.tables e below (s₁.setTop (mkF m 27 #[.val (.int p1), .val (.int p2), .val (.int p3), .val (.long va), .second, .val (.int vi)] [])) _
          exact kt
        refine ⟨vi, fun t kt => ?_⟩
        rw [show (cyc (k + 1) p1 p2 vi va) = va from by simp only [cyc, if_neg hc8]] at kt
        exact pre3 t kt
  obtain ⟨x5_5, lq4⟩ := loop5 65 (0 : Int64) p3 (hbs) (by omega)
  have pre5 : ∀ t, Steps p.tables e below (s₁.setTop (mkF m 27 #[.val (.int p1), .val (.int p2), .val (.int p3), .val (.long (cyc 65 p1 p2 p3 (0 : Int64))), .second, .val (.int x5_5)] [])) t → Steps p.tables e below (s₁.setTop (entryFrame m #[(.int p1), (.int p2), (.int p3)] 6)) t := fun t kt => pre1 t (lq4 t kt)
  have pre6 : ∀ t, Steps p.tables e below (s₁.setTop (mkF m 28 #[.val (.int p1), .val (.int p2), .val (.int p3), .val (.long (cyc 65 p1 p2 p3 (0 : Int64))), .second, .val (.int x5_5)] [(.long (cyc 65 p1 p2 p3 (0 : Int64)))])) t → Steps p.tables e below (s₁.setTop (entryFrame m #[(.int p1), (.int p2), (.int p3)] 6)) t := fun t kt => by
    refine pre5 t ?_
    refine XS.lloadN X0.here hx rfl (hb hby d1_27) rfl ?_
    show Steps p.tables e below (s₁.setTop (mkF m 28 #[.val (.int p1), .val (.int p2), .val (.int p3), .val (.long (cyc 65 p1 p2 p3 (0 : Int64))), .second, .val (.int x5_5)] [(.long (cyc 65 p1 p2 p3 (0 : Int64)))])) _
    exact kt
  obtain ⟨fs, hr, hrun, hended, hW, hsame⟩ := X0.leave (v := some (.long (cyc 65 p1 p2 p3 (0 : Int64)))) (fun h => by rw [Bd.returns] at h; cases h)
  refine ⟨_, _, pre6 _ ?_, hrun, hended, _, _, rfl, ?_, ⟨_, rfl⟩, hW, hsame.mono (by decide) (by decide)⟩
  · jvm_step X0.here [X0.here.top, hx, (hb hby d1_28), X0.method', Bd.returns, narrow]
    first | (intro acts; rw [hr _ acts rfl rfl rfl]) | rw [hr _ _ rfl rfl rfl]
    exact Steps.refl _
  · show Q1 Z p1 p2 p3 h0 n0 _ s₁.heap _
    rw [e0]
    exact ⟨by first | rfl | (simp only []), N0, rfl⟩

theorem own_shl (i : Int32) (hi : 0 ≤ i.toInt) (hj : i.toInt < 64) : ((1 : Int64) <<< (i &&& 0x3f).toInt64).toBitVec = 1#64 <<< i.toInt.toNat := by
  have hk : i.toBitVec.toNat % 64 = i.toInt.toNat := by
    have e : i.toInt = i.toBitVec.toInt := rfl
    rw [e] at hi hj ⊢
    rw [BitVec.toInt_eq_toNat_cond] at hi hj ⊢
    split at hi <;> omega
  obtain ⟨e1, e2⟩ := sm64 i i.toInt.toNat hk
  rw [Int64.toBitVec_shiftLeft, e1]
  show (1#64) <<< ((BitVec.ofNat 64 i.toInt.toNat).smod 64) = _
  rw [BitVec.shiftLeft_eq', smod64 _ e2]
theorem own_get (a : Int64) (i : Int32) (hi : 0 ≤ i.toInt) (hj : i.toInt < 64) (j : Nat) (h : j < 64) : (a ||| ((1 : Int64) <<< (i &&& 0x3f).toInt64)).toBitVec.getLsbD j = (a.toBitVec.getLsbD j || decide ((j : Int) = i.toInt)) := by
  rw [Int64.toBitVec_or, BitVec.getLsbD_or, own_shl i hi hj, BitVec.getLsbD_shiftLeft]
  congr 1
  by_cases q : j < i.toInt.toNat
  · rw [decide_eq_false (show ¬ (j : Int) = i.toInt from by omega)]
    simp only [q, decide_true, Bool.not_true, Bool.and_false, Bool.false_and]
  · have e : (1#64).getLsbD (j - i.toInt.toNat) = decide (j - i.toInt.toNat = 0) := by
      rw [BitVec.getLsbD_one]; simp
    simp only [h, q, decide_true, decide_false, Bool.not_false, Bool.true_and, e]
    exact decide_eq_decide.mpr (by omega)
theorem own_bit (n r : Int32) (hn : n.toInt ≤ 64) (hr : 1 ≤ r.toInt ∧ r.toInt ≤ 128) (j : Nat) (h : j < 64) : ∀ (k : Nat) (i : Int32) (a : Int64), 0 ≤ i.toInt → (n.toInt - i.toInt).toNat < k →
    (cyc k n r i a).toBitVec.getLsbD j = (a.toBitVec.getLsbD j || decide (i.toInt ≤ (j : Int) ∧ (j : Int) < n.toInt ∧ ((j : Int) - i.toInt) % r.toInt = 0)) := by
  intro k
  induction k with
  | zero => intro i a _ hm; exact absurd hm (Nat.not_lt_zero _)
  | succ k ih =>
    intro i a hi hm
    by_cases q : i < n
    · have st := own_step n r i hn hr hi q
      have q' := q
      rw [Int32.lt_iff_toInt_lt] at q'
      rw [show cyc (k + 1) n r i a = cyc k n r (i + r) (a ||| ((1 : Int64) <<< (i &&& 0x3f).toInt64)) from by simp only [cyc, if_pos q]]
      rw [ih (i + r) _ (by omega) (by omega), own_get a i hi (by omega) j h, st, Bool.or_assoc]
      congr 1
      rw [← Bool.decide_or]
      congr 1
      apply propext
      have m1 : ((j : Int) - (i.toInt + r.toInt)) % r.toInt = ((j : Int) - i.toInt) % r.toInt := by
        rw [show (j : Int) - (i.toInt + r.toInt) = ((j : Int) - i.toInt) - r.toInt from by omega, Int.sub_emod_right]
      rw [m1]
      constructor
      · rintro (e | ⟨e1, e2, e3⟩)
        · refine ⟨by omega, by omega, ?_⟩
          rw [e]; simp
        · exact ⟨by omega, e2, e3⟩
      · rintro ⟨e1, e2, e3⟩
        by_cases z : (j : Int) = i.toInt
        · exact Or.inl z
        · refine Or.inr ⟨?_, e2, e3⟩
          rcases Int.lt_or_le ((j : Int) - i.toInt) r.toInt with y | y
          · rw [Int.emod_eq_of_lt (by omega) y] at e3; omega
          · omega
    · rw [show cyc (k + 1) n r i a = a from by simp only [cyc, if_neg q]]
      rw [Int32.lt_iff_toInt_lt] at q
      rw [show decide (i.toInt ≤ (j : Int) ∧ (j : Int) < n.toInt ∧ ((j : Int) - i.toInt) % r.toInt = 0) = false from decide_eq_false (by omega), Bool.or_false]
theorem own_test (x : Int64) (q : Int32) (h0 : 0 ≤ q.toInt) (h1 : q.toInt < 64) : (lcmpW (((x.toUInt64 >>> (q &&& 0x3f).toInt64.toUInt64).toInt64) &&& (1 : Int64)) (0 : Int64)) = (0 : Int32) ↔ x.toBitVec.getLsbD q.toInt.toNat = false := by
  rw [lw_eq]
  have hk : q.toBitVec.toNat % 64 = q.toInt.toNat := by
    have e : q.toInt = q.toBitVec.toInt := rfl
    rw [e] at h0 h1 ⊢
    rw [BitVec.toInt_eq_toNat_cond] at h0 h1 ⊢
    split at h0 <;> omega
  obtain ⟨e1, e2⟩ := sm64 q q.toInt.toNat hk
  have e3 : ((q &&& 0x3f).toInt64.toBitVec % 64).toNat = q.toInt.toNat := by
    rw [BitVec.toNat_umod, e1, BitVec.toNat_ofNat]
    show q.toInt.toNat % 2 ^ 64 % 64 = _
    omega
  have e : ((((x.toUInt64 >>> (q &&& 0x3f).toInt64.toUInt64).toInt64) &&& (1 : Int64))).toBitVec = (x.toBitVec >>> q.toInt.toNat) &&& 1#64 := by
    show (x.toBitVec >>> ((q &&& 0x3f).toInt64.toBitVec % 64)) &&& 1#64 = _
    rw [BitVec.ushiftRight_eq', e3]
  have g : (x.toBitVec >>> q.toInt.toNat).getLsbD 0 = x.toBitVec.getLsbD q.toInt.toNat := by
    rw [BitVec.getLsbD_ushiftRight, Nat.add_zero]
  rw [← Int64.toBitVec_inj, e, BitVec.and_one_eq_setWidth_ofBool_getLsbD, g]
  cases x.toBitVec.getLsbD q.toInt.toNat <;> decide


theorem own_fin (cy rp ba cc : Int32) (h1 : cy.toInt ≤ 64) (h2 : 1 ≤ rp.toInt ∧ rp.toInt ≤ 128) (h3 : 0 ≤ ba.toInt) (h4 : 0 ≤ cc.toInt ∧ cc.toInt < 64) (hba : ba.toInt ≤ 127) :
    (if (lcmpW ((((cyc 65 cy rp ba (0 : Int64)).toUInt64 >>> (cc &&& 0x3f).toInt64.toUInt64).toInt64) &&& (1 : Int64)) (0 : Int64)) = (0 : Int32) then (0 : Int32) else (1 : Int32)) = (if cc < ba then (0 : Int32) else (if cc < cy then (if ((cc - ba) % rp) = (0 : Int32) then (1 : Int32) else (0 : Int32)) else (0 : Int32))) := by
  have b := own_bit cy rp h1 h2 cc.toInt.toNat (by omega) 65 ba 0 h3 (by omega)
  rw [show (0 : Int64).toBitVec.getLsbD cc.toInt.toNat = false from by simp, Bool.false_or, show ((cc.toInt.toNat : Nat) : Int) = cc.toInt from by omega] at b
  by_cases p : cc < ba
  · rw [if_pos p]
    rw [Int32.lt_iff_toInt_lt] at p
    rw [if_pos ((own_test _ _ h4.1 h4.2).mpr (by rw [b]; exact decide_eq_false (by omega)))]
  · rw [if_neg p]
    rw [Int32.lt_iff_toInt_lt] at p
    by_cases q : cc < cy
    · rw [if_pos q]
      rw [Int32.lt_iff_toInt_lt] at q
      have s := c_isub cc ba
      have r := rng32 (cc - ba)
      have e : (cc - ba).toInt = cc.toInt - ba.toInt := by omega
      have m := (c_irem (cc - ba) rp rp.toInt rfl).1 (by omega)
      rw [e] at m
      by_cases z : ((cc - ba) % rp) = (0 : Int32)
      · rw [if_pos z]
        rw [z, show (0 : Int32).toInt = 0 from by decide] at m
        rw [if_neg (fun w => by have := (own_test _ _ h4.1 h4.2).mp w; rw [b] at this; exact of_decide_eq_false this ⟨by omega, q, m.symm⟩)]
      · rw [if_neg z]
        have nz : ((cc - ba) % rp).toInt ≠ 0 := fun w => z (Int32.toInt_inj.mp (by rw [w]; decide))
        rw [if_pos ((own_test _ _ h4.1 h4.2).mpr (by rw [b]; exact decide_eq_false (by omega)))]
    · rw [if_neg q]
      rw [Int32.lt_iff_toInt_lt] at q
      rw [if_pos ((own_test _ _ h4.1 h4.2).mpr (by rw [b]; exact decide_eq_false (by omega)))]
theorem own_cy (x : Int32) : 0 ≤ ((x &&& (2147483647 : Int32)) % (65 : Int32)).toInt ∧ ((x &&& (2147483647 : Int32)) % (65 : Int32)).toInt ≤ 64 := by
  have a := c_and x (2147483647 : Int32) (by decide)
  have v := (c_iremV (x &&& (2147483647 : Int32)) (65 : Int32)).1 a.1 (by decide)
  rw [show (65 : Int32).toInt = 65 from by decide] at v
  omega
theorem own_rp (x : Int32) : 1 ≤ ((1 : Int32) + (x &&& (127 : Int32))).toInt ∧ ((1 : Int32) + (x &&& (127 : Int32))).toInt ≤ 128 := by
  have a := c_and x (127 : Int32) (by decide)
  have s := c_iadd (1 : Int32) (x &&& (127 : Int32))
  have r := rng32 ((1 : Int32) + (x &&& (127 : Int32)))
  rw [show (127 : Int32).toInt = 127 from by decide] at a
  rw [show (1 : Int32).toInt = 1 from by decide] at s
  omega

theorem pn_com_example_starling_starling_schedule_SlotUseCyclesOfPinLaw : plainName "com/example/starling/starling/schedule/SlotUseCyclesOfPinLaw" = true := by first | (simp [plainName, overriddenIn]; done) | decide +kernel
theorem pd__III_J : parseMethodDescriptor "(III)J" = some ⟨[.int, .int, .int], some .long⟩ := by decide +kernel
theorem ef_0 (m : MethodId) (x0 : Int32) (x1 : Int32) (x2 : Int32) (x3 : Int32) : entryFrame m #[(.int x0), (.int x1), (.int x2), (.int x3)] maxLocals = mkF m 0 #[.val (.int x0), .val (.int x1), .val (.int x2), .val (.int x3), .unset, .unset, .unset, .unset, .unset, .unset, .unset, .unset] [] := by first | (simp [entryFrame, mkF, argsToLocals, Value.category, maxLocals]; done) | rfl
def Q0 (Z : State) (p1 : Int32) (p2 : Int32) (p3 : Int32) (p4 : Int32) (h0 : Heap) (n0 : Nat) (v : Option Value) (h : Heap) (L : List Loc) : Prop := v = some (.int 1) ∧ Fr n0 L
set_option maxRecDepth 65536 in
set_option maxHeartbeats 40000000 in
theorem rm0 (l : Launch) (Z : State) (a0 : Array Value) (hw : ∀ d ∈ tables_1, d.before a0 Z = true) (ws : List Jvm.Cond) (p1 : Int32) (p2 : Int32) (p3 : Int32) (p4 : Int32) (h0 : Heap) (n0 : Nat) (Z0 : n0 ≤ h0.size)  :
    MetFree l x (head1 (Jvm.Cond.code x code maxLocals ret :: ws) room_1) (fun a U => a = #[(.int p1), (.int p2), (.int p3), (.int p4)] ∧ Z.Warmed39 U.vm ∧ U.heap = h0) (fun _ _ _ _ _ => True) (fun _ U o U' => ∃ v L, o = .returned v ∧ Q0 Z p1 p2 p3 p4 h0 n0 v U'.heap L ∧ FrameEnd U o U' L room_1.cells room_1.slots) := by
  refine MetFree.of_bodySF (plainFor_of_name pn_com_example_starling_starling_schedule_SlotUseCyclesOfPinLaw) hisR ?_
  intro p e s m args below meth c s₁ Bd hml0 hP hK
  obtain ⟨rfl, hZ, hh⟩ := hP
  have hx := Bd.exec
  have hby := Bd.bytes
  have hml : c.maxLocals = 12 := hml0
  have hown : s.vm.findClass "com/example/starling/starling/schedule/SlotUseCyclesOfPinLaw" = some m.cls := findClass_of_methodNamed Bd.named
  have hnm := (name_of_methodNamed Bd.named Bd.method).1
  have X0 : Stand p l e room_1 s m #[(.int p1), (.int p2), (.int p3), (.int p4)] below meth c s₁ [] 0 0 := Stand.of_body Bd
  have e0 : s₁.heap = h0 := by rw [← hh, Bd.state]; rfl
  have N0 := Fr.nil n0
  have pre0 : ∀ t, Steps p.tables e below (s₁.setTop (mkF m 0 #[.val (.int p1), .val (.int p2), .val (.int p3), .val (.int p4), .unset, .unset, .unset, .unset, .unset, .unset, .unset, .unset] [])) t → Steps p.tables e below (s₁.setTop (entryFrame m #[(.int p1), (.int p2), (.int p3), (.int p4)] maxLocals)) t := fun t k => castTop (ef_0 m p1 p2 p3 p4) k
  have pre1 : ∀ t, Steps p.tables e below (s₁.setTop (mkF m 9 #[.val (.int p1), .val (.int p2), .val (.int p3), .val (.int p4), .val (.int ((p1 &&& (2147483647 : Int32)) % (65 : Int32))), .unset, .unset, .unset, .unset, .unset, .unset, .unset] [])) t → Steps p.tables e below (s₁.setTop (entryFrame m #[(.int p1), (.int p2), (.int p3), (.int p4)] maxLocals)) t := fun t kt => by
    refine pre0 t ?_
    refine XS.iloadN X0.here hx rfl (hb hby at_0) rfl ?_
    show Steps p.tables e below (s₁.setTop (mkF m 1 #[.val (.int p1), .val (.int p2), .val (.int p3), .val (.int p4), .unset, .unset, .unset, .unset, .unset, .unset, .unset, .unset] [(.int p1)])) _
    refine X0.ldcInt hx hown (mvT hZ (hw _ (mgE 0 rfl))) (g := (mkF m 1 #[.val (.int p1), .val (.int p2), .val (.int p3), .val (.int p4), .unset, .unset, .unset, .unset, .unset, .unset, .unset, .unset] [(.int p1)])) rfl (hb hby at_1) _ ?_
    show Steps p.tables e below (s₁.setTop (mkF m 3 #[.val (.int p1), .val (.int p2), .val (.int p3), .val (.int p4), .unset, .unset, .unset, .unset, .unset, .unset, .unset, .unset] [(.int (2147483647 : Int32)), (.int p1)])) _
    refine XS.iand X0.here hx rfl (hb hby at_3) rfl ?_
    show Steps p.tables e below (s₁.setTop (mkF m 4 #[.val (.int p1), .val (.int p2), .val (.int p3), .val (.int p4), .unset, .unset, .unset, .unset, .unset, .unset, .unset, .unset] [(.int (p1 &&& (2147483647 : Int32)))])) _
    refine XS.bipush X0.here hx rfl (hb hby at_4) ?_
    show Steps p.tables e below (s₁.setTop (mkF m 6 #[.val (.int p1), .val (.int p2), .val (.int p3), .val (.int p4), .unset, .unset, .unset, .unset, .unset, .unset, .unset, .unset] [(.int (65 : Int32)), (.int (p1 &&& (2147483647 : Int32)))])) _
    have hnz6 : ¬ ((65 : Int32) = (0 : Int32)) := by decide
    refine iremM X0 hx rfl (hb hby at_6) rfl hnz6 ?_
    show Steps p.tables e below (s₁.setTop (mkF m 7 #[.val (.int p1), .val (.int p2), .val (.int p3), .val (.int p4), .unset, .unset, .unset, .unset, .unset, .unset, .unset, .unset] [(.int ((p1 &&& (2147483647 : Int32)) % (65 : Int32)))])) _
    refine XS.istore X0.here hx rfl (hb hby at_7) rfl (l' := #[.val (.int p1), .val (.int p2), .val (.int p3), .val (.int p4), .val (.int ((p1 &&& (2147483647 : Int32)) % (65 : Int32))), .unset, .unset, .unset, .unset, .unset, .unset, .unset]) rfl ?_
    show Steps p.tables e below (s₁.setTop (mkF m 9 #[.val (.int p1), .val (.int p2), .val (.int p3), .val (.int p4), .val (.int ((p1 &&& (2147483647 : Int32)) % (65 : Int32))), .unset, .unset, .unset, .unset, .unset, .unset, .unset] [])) _
    exact kt
  obtain ⟨cy, h_cy⟩ : ∃ z, z = ((p1 &&& (2147483647 : Int32)) % (65 : Int32)) := ⟨_, rfl⟩
  rw [← h_cy] at pre1
  have b1 := own_cy p1
  rw [← h_cy] at b1
  have pre2 : ∀ t, Steps p.tables e below (s₁.setTop (mkF m 17 #[.val (.int p1), .val (.int p2), .val (.int p3), .val (.int p4), .val (.int cy), .val (.int ((1 : Int32) + (p2 &&& (127 : Int32)))), .unset, .unset, .unset, .unset, .unset, .unset] [])) t → Steps p.tables e below (s₁.setTop (entryFrame m #[(.int p1), (.int p2), (.int p3), (.int p4)] maxLocals)) t := fun t kt => by
    refine pre1 t ?_
    refine XS.iconst X0.here hx rfl (hb hby at_9) ?_
    show Steps p.tables e below (s₁.setTop (mkF m 10 #[.val (.int p1), .val (.int p2), .val (.int p3), .val (.int p4), .val (.int cy), .unset, .unset, .unset, .unset, .unset, .unset, .unset] [(.int (1 : Int32))])) _
    refine XS.iloadN X0.here hx rfl (hb hby at_10) rfl ?_
    show Steps p.tables e below (s₁.setTop (mkF m 11 #[.val (.int p1), .val (.int p2), .val (.int p3), .val (.int p4), .val (.int cy), .unset, .unset, .unset, .unset, .unset, .unset, .unset] [(.int p2), (.int (1 : Int32))])) _
    refine XS.bipush X0.here hx rfl (hb hby at_11) ?_
    show Steps p.tables e below (s₁.setTop (mkF m 13 #[.val (.int p1), .val (.int p2), .val (.int p3), .val (.int p4), .val (.int cy), .unset, .unset, .unset, .unset, .unset, .unset, .unset] [(.int (127 : Int32)), (.int p2), (.int (1 : Int32))])) _
    refine XS.iand X0.here hx rfl (hb hby at_13) rfl ?_
    show Steps p.tables e below (s₁.setTop (mkF m 14 #[.val (.int p1), .val (.int p2), .val (.int p3), .val (.int p4), .val (.int cy), .unset, .unset, .unset, .unset, .unset, .unset, .unset] [(.int (p2 &&& (127 : Int32))), (.int (1 : Int32))])) _
    refine XS.iadd X0.here hx rfl (hb hby at_14) rfl ?_
    show Steps p.tables e below (s₁.setTop (mkF m 15 #[.val (.int p1), .val (.int p2), .val (.int p3), .val (.int p4), .val (.int cy), .unset, .unset, .unset, .unset, .unset, .unset, .unset] [(.int ((1 : Int32) + (p2 &&& (127 : Int32))))])) _
    refine XS.istore X0.here hx rfl (hb hby at_15) rfl (l' := #[.val (.int p1), .val (.int p2), .val (.int p3), .val (.int p4), .val (.int cy), .val (.int ((1 : Int32) + (p2 &&& (127 : Int32)))), .unset, .unset, .unset, .unset, .unset, .unset]) rfl ?_
    show Steps p.tables e below (s₁.setTop (mkF m 17 #[.val (.int p1), .val (.int p2), .val (.int p3), .val (.int p4), .val (.int cy), .val (.int ((1 : Int32) + (p2 &&& (127 : Int32)))), .unset, .unset, .unset, .unset, .unset, .unset] [])) _
    exact kt
  obtain ⟨rp, h_rp⟩ : ∃ z, z = ((1 : Int32) + (p2 &&& (127 : Int32))) := ⟨_, rfl⟩
  rw [← h_rp] at pre2
  have b2 := own_rp p2
  rw [← h_rp] at b2
  have pre3 : ∀ t, Steps p.tables e below (s₁.setTop (mkF m 23 #[.val (.int p1), .val (.int p2), .val (.int p3), .val (.int p4), .val (.int cy), .val (.int rp), .val (.int (p3 &&& (127 : Int32))), .unset, .unset, .unset, .unset, .unset] [])) t → Steps p.tables e below (s₁.setTop (entryFrame m #[(.int p1), (.int p2), (.int p3), (.int p4)] maxLocals)) t := fun t kt => by
    refine pre2 t ?_
    refine XS.iloadN X0.here hx rfl (hb hby at_17) rfl ?_
    show Steps p.tables e below (s₁.setTop (mkF m 18 #[.val (.int p1), .val (.int p2), .val (.int p3), .val (.int p4), .val (.int cy), .val (.int rp), .unset, .unset, .unset, .unset, .unset, .unset] [(.int p3)])) _
    refine XS.bipush X0.here hx rfl (hb hby at_18) ?_
    show Steps p.tables e below (s₁.setTop (mkF m 20 #[.val (.int p1), .val (.int p2), .val (.int p3), .val (.int p4), .val (.int cy), .val (.int rp), .unset, .unset, .unset, .unset, .unset, .unset] [(.int (127 : Int32)), (.int p3)])) _
    refine XS.iand X0.here hx rfl (hb hby at_20) rfl ?_
    show Steps p.tables e below (s₁.setTop (mkF m 21 #[.val (.int p1), .val (.int p2), .val (.int p3), .val (.int p4), .val (.int cy), .val (.int rp), .unset, .unset, .unset, .unset, .unset, .unset] [(.int (p3 &&& (127 : Int32)))])) _
    refine XS.istore X0.here hx rfl (hb hby at_21) rfl (l' := #[.val (.int p1), .val (.int p2), .val (.int p3), .val (.int p4), .val (.int cy), .val (.int rp), .val (.int (p3 &&& (127 : Int32))), .unset, .unset, .unset, .unset, .unset]) rfl ?_
    show Steps p.tables e below (s₁.setTop (mkF m 23 #[.val (.int p1), .val (.int p2), .val (.int p3), .val (.int p4), .val (.int cy), .val (.int rp), .val (.int (p3 &&& (127 : Int32))), .unset, .unset, .unset, .unset, .unset] [])) _
    exact kt
  obtain ⟨ba, h_ba⟩ : ∃ z, z = (p3 &&& (127 : Int32)) := ⟨_, rfl⟩
  rw [← h_ba] at pre3
  have b3 := c_and p3 (127 : Int32) (by decide)
  rw [← h_ba, show (127 : Int32).toInt = 127 from by decide] at b3
  have pre4 : ∀ t, Steps p.tables e below (s₁.setTop (mkF m 29 #[.val (.int p1), .val (.int p2), .val (.int p3), .val (.int p4), .val (.int cy), .val (.int rp), .val (.int ba), .val (.int (p4 &&& (63 : Int32))), .unset, .unset, .unset, .unset] [])) t → Steps p.tables e below (s₁.setTop (entryFrame m #[(.int p1), (.int p2), (.int p3), (.int p4)] maxLocals)) t := fun t kt => by
    refine pre3 t ?_
    refine XS.iloadN X0.here hx rfl (hb hby at_23) rfl ?_
    show Steps p.tables e below (s₁.setTop (mkF m 24 #[.val (.int p1), .val (.int p2), .val (.int p3), .val (.int p4), .val (.int cy), .val (.int rp), .val (.int ba), .unset, .unset, .unset, .unset, .unset] [(.int p4)])) _
    refine XS.bipush X0.here hx rfl (hb hby at_24) ?_
    show Steps p.tables e below (s₁.setTop (mkF m 26 #[.val (.int p1), .val (.int p2), .val (.int p3), .val (.int p4), .val (.int cy), .val (.int rp), .val (.int ba), .unset, .unset, .unset, .unset, .unset] [(.int (63 : Int32)), (.int p4)])) _
    refine XS.iand X0.here hx rfl (hb hby at_26) rfl ?_
    show Steps p.tables e below (s₁.setTop (mkF m 27 #[.val (.int p1), .val (.int p2), .val (.int p3), .val (.int p4), .val (.int cy), .val (.int rp), .val (.int ba), .unset, .unset, .unset, .unset, .unset] [(.int (p4 &&& (63 : Int32)))])) _
    refine XS.istore X0.here hx rfl (hb hby at_27) rfl (l' := #[.val (.int p1), .val (.int p2), .val (.int p3), .val (.int p4), .val (.int cy), .val (.int rp), .val (.int ba), .val (.int (p4 &&& (63 : Int32))), .unset, .unset, .unset, .unset]) rfl ?_
    show Steps p.tables e below (s₁.setTop (mkF m 29 #[.val (.int p1), .val (.int p2), .val (.int p3), .val (.int p4), .val (.int cy), .val (.int rp), .val (.int ba), .val (.int (p4 &&& (63 : Int32))), .unset, .unset, .unset, .unset] [])) _
    exact kt
  obtain ⟨cc, h_cc⟩ : ∃ z, z = (p4 &&& (63 : Int32)) := ⟨_, rfl⟩
  rw [← h_cc] at pre4
  have b4 := c_and p4 (63 : Int32) (by decide)
  rw [← h_cc, show (63 : Int32).toInt = 63 from by decide] at b4
  have pre5 : ∀ t, Steps p.tables e below (s₁.setTop (mkF m 35 #[.val (.int p1), .val (.int p2), .val (.int p3), .val (.int p4), .val (.int cy), .val (.int rp), .val (.int ba), .val (.int cc), .unset, .unset, .unset, .unset] [(.int ba), (.int rp), (.int cy)])) t → Steps p.tables e below (s₁.setTop (entryFrame m #[(.int p1), (.int p2), (.int p3), (.int p4)] maxLocals)) t := fun t kt => by
    refine pre4 t ?_
    refine XS.iload X0.here hx rfl (hb hby at_29) rfl ?_
    show Steps p.tables e below (s₁.setTop (mkF m 31 #[.val (.int p1), .val (.int p2), .val (.int p3), .val (.int p4), .val (.int cy), .val (.int rp), .val (.int ba), .val (.int cc), .unset, .unset, .unset, .unset] [(.int cy)])) _
    refine XS.iload X0.here hx rfl (hb hby at_31) rfl ?_
    show Steps p.tables e below (s₁.setTop (mkF m 33 #[.val (.int p1), .val (.int p2), .val (.int p3), .val (.int p4), .val (.int cy), .val (.int rp), .val (.int ba), .val (.int cc), .unset, .unset, .unset, .unset] [(.int rp), (.int cy)])) _
    refine XS.iload X0.here hx rfl (hb hby at_33) rfl ?_
    show Steps p.tables e below (s₁.setTop (mkF m 35 #[.val (.int p1), .val (.int p2), .val (.int p3), .val (.int p4), .val (.int cy), .val (.int rp), .val (.int ba), .val (.int cc), .unset, .unset, .unset, .unset] [(.int ba), (.int rp), (.int cy)])) _
    exact kt
  obtain ⟨_, _, ⟨T6, L6, k6, n6⟩, -, X6, ⟨Lc6, hQ6, l6, y6, z6⟩, st6⟩ := Jvm.LawKit.callS X0 hx (y := (⟨"com/example/starling/starling/schedule/SlotUse", "cyclesOf", "(III)J"⟩ : MethodName)) hown (mvT hZ (hw _ (mgE 1 rfl))) (mvT hZ (hw _ (mgE 2 rfl))) (mvT hZ (hw _ (mgE 3 rfl))) (mvT hZ (hw _ (mgE 4 rfl))) (by decide) (backOf (W := 0) (rm1 l Z a0 hw [] cy rp ba h0 n0 Z0 (b1.2) (b2) (b3.1)) hZ (hw _ (mgE 4 rfl)) (hw _ (mgE 3 rfl)) (by decide) (by decide)) (g := (mkF m 35 #[.val (.int p1), .val (.int p2), .val (.int p3), .val (.int p4), .val (.int cy), .val (.int rp), .val (.int ba), .val (.int cc), .unset, .unset, .unset, .unset] [(.int ba), (.int rp), (.int cy)])) rfl (by rw [hml]; rfl) (argsL := [(.int cy), (.int rp), (.int ba)]) (rest := []) (lenOf pd__III_J rfl) rfl (by show 2 * 0 + _ ≤ _; exact Nat.le_of_eq rfl) (hb hby at_35) (fun _ _ => ⟨rfl, e0, (by decide : 0 + 0 ≤ _), (by decide : 0 + 0 ≤ _)⟩)
  dsimp only [Pt.U, Pt.locs, Pt.cells, Pt.slots] at X6 l6 y6 z6 st6 hQ6
  subst l6 y6 z6
  obtain ⟨rfl, N6q, e6⟩ := hQ6
  have pre7 : ∀ t, Steps p.tables e below (T6.setTop (mkF m 38 #[.val (.int p1), .val (.int p2), .val (.int p3), .val (.int p4), .val (.int cy), .val (.int rp), .val (.int ba), .val (.int cc), .unset, .unset, .unset, .unset] [(.long (cyc 65 cy rp ba (0 : Int64)))])) t → Steps p.tables e below (s₁.setTop (entryFrame m #[(.int p1), (.int p2), (.int p3), (.int p4)] maxLocals)) t := fun t kt => pre5 t (st6 t kt)
  have N6 := Fr.app N0 N6q
  have pre8 : ∀ t, Steps p.tables e below (T6.setTop (mkF m 49 #[.val (.int p1), .val (.int p2), .val (.int p3), .val (.int p4), .val (.int cy), .val (.int rp), .val (.int ba), .val (.int cc), .val (.long (cyc 65 cy rp ba (0 : Int64))), .second, .unset, .unset] [(.int (lcmpW ((((cyc 65 cy rp ba (0 : Int64)).toUInt64 >>> (cc &&& 0x3f).toInt64.toUInt64).toInt64) &&& (1 : Int64)) (0 : Int64)))])) t → Steps p.tables e below (s₁.setTop (entryFrame m #[(.int p1), (.int p2), (.int p3), (.int p4)] maxLocals)) t := fun t kt => by
    refine pre7 t ?_
    refine XS.lstore X6.here hx rfl (hb hby at_38) rfl (l' := #[.val (.int p1), .val (.int p2), .val (.int p3), .val (.int p4), .val (.int cy), .val (.int rp), .val (.int ba), .val (.int cc), .val (.long (cyc 65 cy rp ba (0 : Int64))), .second, .unset, .unset]) rfl ?_
    show Steps p.tables e below (T6.setTop (mkF m 40 #[.val (.int p1), .val (.int p2), .val (.int p3), .val (.int p4), .val (.int cy), .val (.int rp), .val (.int ba), .val (.int cc), .val (.long (cyc 65 cy rp ba (0 : Int64))), .second, .unset, .unset] [])) _
    refine XS.lload X6.here hx rfl (hb hby at_40) rfl ?_
    show Steps p.tables e below (T6.setTop (mkF m 42 #[.val (.int p1), .val (.int p2), .val (.int p3), .val (.int p4), .val (.int cy), .val (.int rp), .val (.int ba), .val (.int cc), .val (.long (cyc 65 cy rp ba (0 : Int64))), .second, .unset, .unset] [(.long (cyc 65 cy rp ba (0 : Int64)))])) _
    refine XS.iload X6.here hx rfl (hb hby at_42) rfl ?_
    show Steps p.tables e below (T6.setTop (mkF m 44 #[.val (.int p1), .val (.int p2), .val (.int p3), .val (.int p4), .val (.int cy), .val (.int rp), .val (.int ba), .val (.int cc), .val (.long (cyc 65 cy rp ba (0 : Int64))), .second, .unset, .unset] [(.int cc), (.long (cyc 65 cy rp ba (0 : Int64)))])) _
    refine XS.lushr X6.here hx rfl (hb hby at_44) rfl ?_
    show Steps p.tables e below (T6.setTop (mkF m 45 #[.val (.int p1), .val (.int p2), .val (.int p3), .val (.int p4), .val (.int cy), .val (.int rp), .val (.int ba), .val (.int cc), .val (.long (cyc 65 cy rp ba (0 : Int64))), .second, .unset, .unset] [(.long (((cyc 65 cy rp ba (0 : Int64)).toUInt64 >>> (cc &&& 0x3f).toInt64.toUInt64).toInt64))])) _
    refine XS.lconst X6.here hx rfl (hb hby at_45) ?_
    show Steps p.tables e below (T6.setTop (mkF m 46 #[.val (.int p1), .val (.int p2), .val (.int p3), .val (.int p4), .val (.int cy), .val (.int rp), .val (.int ba), .val (.int cc), .val (.long (cyc 65 cy rp ba (0 : Int64))), .second, .unset, .unset] [(.long (1 : Int64)), (.long (((cyc 65 cy rp ba (0 : Int64)).toUInt64 >>> (cc &&& 0x3f).toInt64.toUInt64).toInt64))])) _
    refine XS.land X6.here hx rfl (hb hby at_46) rfl ?_
    show Steps p.tables e below (T6.setTop (mkF m 47 #[.val (.int p1), .val (.int p2), .val (.int p3), .val (.int p4), .val (.int cy), .val (.int rp), .val (.int ba), .val (.int cc), .val (.long (cyc 65 cy rp ba (0 : Int64))), .second, .unset, .unset] [(.long ((((cyc 65 cy rp ba (0 : Int64)).toUInt64 >>> (cc &&& 0x3f).toInt64.toUInt64).toInt64) &&& (1 : Int64)))])) _
    refine XS.lconst X6.here hx rfl (hb hby at_47) ?_
    show Steps p.tables e below (T6.setTop (mkF m 48 #[.val (.int p1), .val (.int p2), .val (.int p3), .val (.int p4), .val (.int cy), .val (.int rp), .val (.int ba), .val (.int cc), .val (.long (cyc 65 cy rp ba (0 : Int64))), .second, .unset, .unset] [(.long (0 : Int64)), (.long ((((cyc 65 cy rp ba (0 : Int64)).toUInt64 >>> (cc &&& 0x3f).toInt64.toUInt64).toInt64) &&& (1 : Int64)))])) _
    refine XS.lcmp X6.here hx rfl (hb hby at_48) rfl ?_
    show Steps p.tables e below (T6.setTop (mkF m 49 #[.val (.int p1), .val (.int p2), .val (.int p3), .val (.int p4), .val (.int cy), .val (.int rp), .val (.int ba), .val (.int cc), .val (.long (cyc 65 cy rp ba (0 : Int64))), .second, .unset, .unset] [(.int (lcmpW ((((cyc 65 cy rp ba (0 : Int64)).toUInt64 >>> (cc &&& 0x3f).toInt64.toUInt64).toInt64) &&& (1 : Int64)) (0 : Int64)))])) _
    exact kt
  have pre9 : ∀ t, Steps p.tables e below (T6.setTop (mkF m 57 #[.val (.int p1), .val (.int p2), .val (.int p3), .val (.int p4), .val (.int cy), .val (.int rp), .val (.int ba), .val (.int cc), .val (.long (cyc 65 cy rp ba (0 : Int64))), .second, .unset, .unset] [(.int (if (lcmpW ((((cyc 65 cy rp ba (0 : Int64)).toUInt64 >>> (cc &&& 0x3f).toInt64.toUInt64).toInt64) &&& (1 : Int64)) (0 : Int64)) = (0 : Int32) then (0 : Int32) else (1 : Int32)))])) t → Steps p.tables e below (s₁.setTop (entryFrame m #[(.int p1), (.int p2), (.int p3), (.int p4)] maxLocals)) t := fun t kt => by
    by_cases hc49 : (lcmpW ((((cyc 65 cy rp ba (0 : Int64)).toUInt64 >>> (cc &&& 0x3f).toInt64.toUInt64).toInt64) &&& (1 : Int64)) (0 : Int64)) = (0 : Int32)
    · skip
      try simp only [if_pos hc49] at kt
      refine pre8 t ?_
      refine XS.ifYes X6.here hx rfl (pc0 := 49) (pc' := 56) rfl (hb hby at_49) rfl ((if0 _ _).trans (teq hc49).1) (by decide) (by decide) ?_
      show Steps p.tables e below (T6.setTop (mkF m 56 #[.val (.int p1), .val (.int p2), .val (.int p3), .val (.int p4), .val (.int cy), .val (.int rp), .val (.int ba), .val (.int cc), .val (.long (cyc 65 cy rp ba (0 : Int64))), .second, .unset, .unset] [])) _
      refine XS.iconst X6.here hx rfl (hb hby at_56) ?_
      show Steps p.tables e below (T6.setTop (mkF m 57 #[.val (.int p1), .val (.int p2), .val (.int p3), .val (.int p4), .val (.int cy), .val (.int rp), .val (.int ba), .val (.int cc), .val (.long (cyc 65 cy rp ba (0 : Int64))), .second, .unset, .unset] [(.int (0 : Int32))])) _
      exact kt
    · skip
      try simp only [if_neg hc49] at kt
      refine pre8 t ?_
      refine XS.ifNo X6.here hx rfl (hb hby at_49) rfl ((if0 _ _).trans (feq hc49).1) ?_
      show Steps p.tables e below (T6.setTop (mkF m 52 #[.val (.int p1), .val (.int p2), .val (.int p3), .val (.int p4), .val (.int cy), .val (.int rp), .val (.int ba), .val (.int cc), .val (.long (cyc 65 cy rp ba (0 : Int64))), .second, .unset, .unset] [])) _
      refine XS.iconst X6.here hx rfl (hb hby at_52) ?_
      show Steps p.tables e below (T6.setTop (mkF m 53 #[.val (.int p1), .val (.int p2), .val (.int p3), .val (.int p4), .val (.int cy), .val (.int rp), .val (.int ba), .val (.int cc), .val (.long (cyc 65 cy rp ba (0 : Int64))), .second, .unset, .unset] [(.int (1 : Int32))])) _
      refine XS.goto X6.here hx rfl (pc0 := 53) (pc' := 57) rfl (hb hby at_53) (by decide) (by decide) ?_
      show Steps p.tables e below (T6.setTop (mkF m 57 #[.val (.int p1), .val (.int p2), .val (.int p3), .val (.int p4), .val (.int cy), .val (.int rp), .val (.int ba), .val (.int cc), .val (.long (cyc 65 cy rp ba (0 : Int64))), .second, .unset, .unset] [(.int (1 : Int32))])) _
      exact kt
  have pre10 : ∀ t, Steps p.tables e below (T6.setTop (mkF m 63 #[.val (.int p1), .val (.int p2), .val (.int p3), .val (.int p4), .val (.int cy), .val (.int rp), .val (.int ba), .val (.int cc), .val (.long (cyc 65 cy rp ba (0 : Int64))), .second, .val (.int (if (lcmpW ((((cyc 65 cy rp ba (0 : Int64)).toUInt64 >>> (cc &&& 0x3f).toInt64.toUInt64).toInt64) &&& (1 : Int64)) (0 : Int64)) = (0 : Int32) then (0 : Int32) else (1 : Int32))), .unset] [(.int ba), (.int cc)])) t → Steps p.tables e below (s₁.setTop (entryFrame m #[(.int p1), (.int p2), (.int p3), (.int p4)] maxLocals)) t := fun t kt => by
    refine pre9 t ?_
    refine XS.istore X6.here hx rfl (hb hby at_57) rfl (l' := #[.val (.int p1), .val (.int p2), .val (.int p3), .val (.int p4), .val (.int cy), .val (.int rp), .val (.int ba), .val (.int cc), .val (.long (cyc 65 cy rp ba (0 : Int64))), .second, .val (.int (if (lcmpW ((((cyc 65 cy rp ba (0 : Int64)).toUInt64 >>> (cc &&& 0x3f).toInt64.toUInt64).toInt64) &&& (1 : Int64)) (0 : Int64)) = (0 : Int32) then (0 : Int32) else (1 : Int32))), .unset]) rfl ?_
    show Steps p.tables e below (T6.setTop (mkF m 59 #[.val (.int p1), .val (.int p2), .val (.int p3), .val (.int p4), .val (.int cy), .val (.int rp), .val (.int ba), .val (.int cc), .val (.long (cyc 65 cy rp ba (0 : Int64))), .second, .val (.int (if (lcmpW ((((cyc 65 cy rp ba (0 : Int64)).toUInt64 >>> (cc &&& 0x3f).toInt64.toUInt64).toInt64) &&& (1 : Int64)) (0 : Int64)) = (0 : Int32) then (0 : Int32) else (1 : Int32))), .unset] [])) _
    refine XS.iload X6.here hx rfl (hb hby at_59) rfl ?_
    show Steps p.tables e below (T6.setTop (mkF m 61 #[.val (.int p1), .val (.int p2), .val (.int p3), .val (.int p4), .val (.int cy), .val (.int rp), .val (.int ba), .val (.int cc), .val (.long (cyc 65 cy rp ba (0 : Int64))), .second, .val (.int (if (lcmpW ((((cyc 65 cy rp ba (0 : Int64)).toUInt64 >>> (cc &&& 0x3f).toInt64.toUInt64).toInt64) &&& (1 : Int64)) (0 : Int64)) = (0 : Int32) then (0 : Int32) else (1 : Int32))), .unset] [(.int cc)])) _
    refine XS.iload X6.here hx rfl (hb hby at_61) rfl ?_
    show Steps p.tables e below (T6.setTop (mkF m 63 #[.val (.int p1), .val (.int p2), .val (.int p3), .val (.int p4), .val (.int cy), .val (.int rp), .val (.int ba), .val (.int cc), .val (.long (cyc 65 cy rp ba (0 : Int64))), .second, .val (.int (if (lcmpW ((((cyc 65 cy rp ba (0 : Int64)).toUInt64 >>> (cc &&& 0x3f).toInt64.toUInt64).toInt64) &&& (1 : Int64)) (0 : Int64)) = (0 : Int32) then (0 : Int32) else (1 : Int32))), .unset] [(.int ba), (.int cc)])) _
    exact kt
  have pre11 : ∀ t, Steps p.tables e below (T6.setTop (mkF m 89 #[.val (.int p1), .val (.int p2), .val (.int p3), .val (.int p4), .val (.int cy), .val (.int rp), .val (.int ba), .val (.int cc), .val (.long (cyc 65 cy rp ba (0 : Int64))), .second, .val (.int (if (lcmpW ((((cyc 65 cy rp ba (0 : Int64)).toUInt64 >>> (cc &&& 0x3f).toInt64.toUInt64).toInt64) &&& (1 : Int64)) (0 : Int64)) = (0 : Int32) then (0 : Int32) else (1 : Int32))), .unset] [(.int (if cc < ba then (0 : Int32) else (if cc < cy then (if ((cc - ba) % rp) = (0 : Int32) then (1 : Int32) else (0 : Int32)) else (0 : Int32))))])) t → Steps p.tables e below (s₁.setTop (entryFrame m #[(.int p1), (.int p2), (.int p3), (.int p4)] maxLocals)) t := fun t kt => by
    by_cases hc63 : cc < ba
    · skip
      try simp only [if_pos hc63] at kt
      refine pre10 t ?_
      refine XS.icmpYes X6.here hx rfl (pc0 := 63) (pc' := 88) rfl (hb hby at_63) rfl (tlt hc63).1 (by decide) (by decide) ?_
      show Steps p.tables e below (T6.setTop (mkF m 88 #[.val (.int p1), .val (.int p2), .val (.int p3), .val (.int p4), .val (.int cy), .val (.int rp), .val (.int ba), .val (.int cc), .val (.long (cyc 65 cy rp ba (0 : Int64))), .second, .val (.int (if (lcmpW ((((cyc 65 cy rp ba (0 : Int64)).toUInt64 >>> (cc &&& 0x3f).toInt64.toUInt64).toInt64) &&& (1 : Int64)) (0 : Int64)) = (0 : Int32) then (0 : Int32) else (1 : Int32))), .unset] [])) _
      refine XS.iconst X6.here hx rfl (hb hby at_88) ?_
      show Steps p.tables e below (T6.setTop (mkF m 89 #[.val (.int p1), .val (.int p2), .val (.int p3), .val (.int p4), .val (.int cy), .val (.int rp), .val (.int ba), .val (.int cc), .val (.long (cyc 65 cy rp ba (0 : Int64))), .second, .val (.int (if (lcmpW ((((cyc 65 cy rp ba (0 : Int64)).toUInt64 >>> (cc &&& 0x3f).toInt64.toUInt64).toInt64) &&& (1 : Int64)) (0 : Int64)) = (0 : Int32) then (0 : Int32) else (1 : Int32))), .unset] [(.int (0 : Int32))])) _
      exact kt
    · skip
      by_cases hc70 : cc < cy
      · skip
        by_cases hc81 : ((cc - ba) % rp) = (0 : Int32)
        · skip
          try simp only [if_neg hc63, if_pos hc70, if_pos hc81] at kt
          refine pre10 t ?_
          refine XS.icmpNo X6.here hx rfl (hb hby at_63) rfl (flt hc63).1 ?_
          show Steps p.tables e below (T6.setTop (mkF m 66 #[.val (.int p1), .val (.int p2), .val (.int p3), .val (.int p4), .val (.int cy), .val (.int rp), .val (.int ba), .val (.int cc), .val (.long (cyc 65 cy rp ba (0 : Int64))), .second, .val (.int (if (lcmpW ((((cyc 65 cy rp ba (0 : Int64)).toUInt64 >>> (cc &&& 0x3f).toInt64.toUInt64).toInt64) &&& (1 : Int64)) (0 : Int64)) = (0 : Int32) then (0 : Int32) else (1 : Int32))), .unset] [])) _
          refine XS.iload X6.here hx rfl (hb hby at_66) rfl ?_
          show Steps p.tables e below (T6.setTop (mkF m 68 #[.val (.int p1), .val (.int p2), .val (.int p3), .val (.int p4), .val (.int cy), .val (.int rp), .val (.int ba), .val (.int cc), .val (.long (cyc 65 cy rp ba (0 : Int64))), .second, .val (.int (if (lcmpW ((((cyc 65 cy rp ba (0 : Int64)).toUInt64 >>> (cc &&& 0x3f).toInt64.toUInt64).toInt64) &&& (1 : Int64)) (0 : Int64)) = (0 : Int32) then (0 : Int32) else (1 : Int32))), .unset] [(.int cc)])) _
          refine XS.iload X6.here hx rfl (hb hby at_68) rfl ?_
          show Steps p.tables e below (T6.setTop (mkF m 70 #[.val (.int p1), .val (.int p2), .val (.int p3), .val (.int p4), .val (.int cy), .val (.int rp), .val (.int ba), .val (.int cc), .val (.long (cyc 65 cy rp ba (0 : Int64))), .second, .val (.int (if (lcmpW ((((cyc 65 cy rp ba (0 : Int64)).toUInt64 >>> (cc &&& 0x3f).toInt64.toUInt64).toInt64) &&& (1 : Int64)) (0 : Int64)) = (0 : Int32) then (0 : Int32) else (1 : Int32))), .unset] [(.int cy), (.int cc)])) _
          refine XS.icmpNo X6.here hx rfl (hb hby at_70) rfl (tlt hc70).2.1 ?_
          show Steps p.tables e below (T6.setTop (mkF m 73 #[.val (.int p1), .val (.int p2), .val (.int p3), .val (.int p4), .val (.int cy), .val (.int rp), .val (.int ba), .val (.int cc), .val (.long (cyc 65 cy rp ba (0 : Int64))), .second, .val (.int (if (lcmpW ((((cyc 65 cy rp ba (0 : Int64)).toUInt64 >>> (cc &&& 0x3f).toInt64.toUInt64).toInt64) &&& (1 : Int64)) (0 : Int64)) = (0 : Int32) then (0 : Int32) else (1 : Int32))), .unset] [])) _
          refine XS.iload X6.here hx rfl (hb hby at_73) rfl ?_
          show Steps p.tables e below (T6.setTop (mkF m 75 #[.val (.int p1), .val (.int p2), .val (.int p3), .val (.int p4), .val (.int cy), .val (.int rp), .val (.int ba), .val (.int cc), .val (.long (cyc 65 cy rp ba (0 : Int64))), .second, .val (.int (if (lcmpW ((((cyc 65 cy rp ba (0 : Int64)).toUInt64 >>> (cc &&& 0x3f).toInt64.toUInt64).toInt64) &&& (1 : Int64)) (0 : Int64)) = (0 : Int32) then (0 : Int32) else (1 : Int32))), .unset] [(.int cc)])) _
          refine XS.iload X6.here hx rfl (hb hby at_75) rfl ?_
          show Steps p.tables e below (T6.setTop (mkF m 77 #[.val (.int p1), .val (.int p2), .val (.int p3), .val (.int p4), .val (.int cy), .val (.int rp), .val (.int ba), .val (.int cc), .val (.long (cyc 65 cy rp ba (0 : Int64))), .second, .val (.int (if (lcmpW ((((cyc 65 cy rp ba (0 : Int64)).toUInt64 >>> (cc &&& 0x3f).toInt64.toUInt64).toInt64) &&& (1 : Int64)) (0 : Int64)) = (0 : Int32) then (0 : Int32) else (1 : Int32))), .unset] [(.int ba), (.int cc)])) _
          refine XS.isub X6.here hx rfl (hb hby at_77) rfl ?_
          show Steps p.tables e below (T6.setTop (mkF m 78 #[.val (.int p1), .val (.int p2), .val (.int p3), .val (.int p4), .val (.int cy), .val (.int rp), .val (.int ba), .val (.int cc), .val (.long (cyc 65 cy rp ba (0 : Int64))), .second, .val (.int (if (lcmpW ((((cyc 65 cy rp ba (0 : Int64)).toUInt64 >>> (cc &&& 0x3f).toInt64.toUInt64).toInt64) &&& (1 : Int64)) (0 : Int64)) = (0 : Int32) then (0 : Int32) else (1 : Int32))), .unset] [(.int (cc - ba))])) _
          refine XS.iload X6.here hx rfl (hb hby at_78) rfl ?_
          show Steps p.tables e below (T6.setTop (mkF m 80 #[.val (.int p1), .val (.int p2), .val (.int p3), .val (.int p4), .val (.int cy), .val (.int rp), .val (.int ba), .val (.int cc), .val (.long (cyc 65 cy rp ba (0 : Int64))), .second, .val (.int (if (lcmpW ((((cyc 65 cy rp ba (0 : Int64)).toUInt64 >>> (cc &&& 0x3f).toInt64.toUInt64).toInt64) &&& (1 : Int64)) (0 : Int64)) = (0 : Int32) then (0 : Int32) else (1 : Int32))), .unset] [(.int rp), (.int (cc - ba))])) _
          refine iremM X6 hx rfl (hb hby at_80) rfl (show ¬ (rp = (0 : Int32)) from fun z => by rw [z, show (0 : Int32).toInt = 0 from by decide] at b2; omega) ?_
          show Steps p.tables e below (T6.setTop (mkF m 81 #[.val (.int p1), .val (.int p2), .val (.int p3), .val (.int p4), .val (.int cy), .val (.int rp), .val (.int ba), .val (.int cc), .val (.long (cyc 65 cy rp ba (0 : Int64))), .second, .val (.int (if (lcmpW ((((cyc 65 cy rp ba (0 : Int64)).toUInt64 >>> (cc &&& 0x3f).toInt64.toUInt64).toInt64) &&& (1 : Int64)) (0 : Int64)) = (0 : Int32) then (0 : Int32) else (1 : Int32))), .unset] [(.int ((cc - ba) % rp))])) _
          refine XS.ifNo X6.here hx rfl (hb hby at_81) rfl ((if0 _ _).trans (teq hc81).2) ?_
          show Steps p.tables e below (T6.setTop (mkF m 84 #[.val (.int p1), .val (.int p2), .val (.int p3), .val (.int p4), .val (.int cy), .val (.int rp), .val (.int ba), .val (.int cc), .val (.long (cyc 65 cy rp ba (0 : Int64))), .second, .val (.int (if (lcmpW ((((cyc 65 cy rp ba (0 : Int64)).toUInt64 >>> (cc &&& 0x3f).toInt64.toUInt64).toInt64) &&& (1 : Int64)) (0 : Int64)) = (0 : Int32) then (0 : Int32) else (1 : Int32))), .unset] [])) _
          refine XS.iconst X6.here hx rfl (hb hby at_84) ?_
          show Steps p.tables e below (T6.setTop (mkF m 85 #[.val (.int p1), .val (.int p2), .val (.int p3), .val (.int p4), .val (.int cy), .val (.int rp), .val (.int ba), .val (.int cc), .val (.long (cyc 65 cy rp ba (0 : Int64))), .second, .val (.int (if (lcmpW ((((cyc 65 cy rp ba (0 : Int64)).toUInt64 >>> (cc &&& 0x3f).toInt64.toUInt64).toInt64) &&& (1 : Int64)) (0 : Int64)) = (0 : Int32) then (0 : Int32) else (1 : Int32))), .unset] [(.int (1 : Int32))])) _
          refine XS.goto X6.here hx rfl (pc0 := 85) (pc' := 89) rfl (hb hby at_85) (by decide) (by decide) ?_
          show Steps p.tables e below (T6.setTop (mkF m 89 #[.val (.int p1), .val (.int p2), .val (.int p3), .val (.int p4), .val (.int cy), .val (.int rp), .val (.int ba), .val (.int cc), .val (.long (cyc 65 cy rp ba (0 : Int64))), .second, .val (.int (if (lcmpW ((((cyc 65 cy rp ba (0 : Int64)).toUInt64 >>> (cc &&& 0x3f).toInt64.toUInt64).toInt64) &&& (1 : Int64)) (0 : Int64)) = (0 : Int32) then (0 : Int32) else (1 : Int32))), .unset] [(.int (1 : Int32))])) _
          exact kt
        · skip
          try simp only [if_neg hc63, if_pos hc70, if_neg hc81] at kt
          refine pre10 t ?_
          refine XS.icmpNo X6.here hx rfl (hb hby at_63) rfl (flt hc63).1 ?_
          show Steps p.tables e below (T6.setTop (mkF m 66 #[.val (.int p1), .val (.int p2), .val (.int p3), .val (.int p4), .val (.int cy), .val (.int rp), .val (.int ba), .val (.int cc), .val (.long (cyc 65 cy rp ba (0 : Int64))), .second, .val (.int (if (lcmpW ((((cyc 65 cy rp ba (0 : Int64)).toUInt64 >>> (cc &&& 0x3f).toInt64.toUInt64).toInt64) &&& (1 : Int64)) (0 : Int64)) = (0 : Int32) then (0 : Int32) else (1 : Int32))), .unset] [])) _
          refine XS.iload X6.here hx rfl (hb hby at_66) rfl ?_
          show Steps p.tables e below (T6.setTop (mkF m 68 #[.val (.int p1), .val (.int p2), .val (.int p3), .val (.int p4), .val (.int cy), .val (.int rp), .val (.int ba), .val (.int cc), .val (.long (cyc 65 cy rp ba (0 : Int64))), .second, .val (.int (if (lcmpW ((((cyc 65 cy rp ba (0 : Int64)).toUInt64 >>> (cc &&& 0x3f).toInt64.toUInt64).toInt64) &&& (1 : Int64)) (0 : Int64)) = (0 : Int32) then (0 : Int32) else (1 : Int32))), .unset] [(.int cc)])) _
          refine XS.iload X6.here hx rfl (hb hby at_68) rfl ?_
          show Steps p.tables e below (T6.setTop (mkF m 70 #[.val (.int p1), .val (.int p2), .val (.int p3), .val (.int p4), .val (.int cy), .val (.int rp), .val (.int ba), .val (.int cc), .val (.long (cyc 65 cy rp ba (0 : Int64))), .second, .val (.int (if (lcmpW ((((cyc 65 cy rp ba (0 : Int64)).toUInt64 >>> (cc &&& 0x3f).toInt64.toUInt64).toInt64) &&& (1 : Int64)) (0 : Int64)) = (0 : Int32) then (0 : Int32) else (1 : Int32))), .unset] [(.int cy), (.int cc)])) _
          refine XS.icmpNo X6.here hx rfl (hb hby at_70) rfl (tlt hc70).2.1 ?_
          show Steps p.tables e below (T6.setTop (mkF m 73 #[.val (.int p1), .val (.int p2), .val (.int p3), .val (.int p4), .val (.int cy), .val (.int rp), .val (.int ba), .val (.int cc), .val (.long (cyc 65 cy rp ba (0 : Int64))), .second, .val (.int (if (lcmpW ((((cyc 65 cy rp ba (0 : Int64)).toUInt64 >>> (cc &&& 0x3f).toInt64.toUInt64).toInt64) &&& (1 : Int64)) (0 : Int64)) = (0 : Int32) then (0 : Int32) else (1 : Int32))), .unset] [])) _
          refine XS.iload X6.here hx rfl (hb hby at_73) rfl ?_
          show Steps p.tables e below (T6.setTop (mkF m 75 #[.val (.int p1), .val (.int p2), .val (.int p3), .val (.int p4), .val (.int cy), .val (.int rp), .val (.int ba), .val (.int cc), .val (.long (cyc 65 cy rp ba (0 : Int64))), .second, .val (.int (if (lcmpW ((((cyc 65 cy rp ba (0 : Int64)).toUInt64 >>> (cc &&& 0x3f).toInt64.toUInt64).toInt64) &&& (1 : Int64)) (0 : Int64)) = (0 : Int32) then (0 : Int32) else (1 : Int32))), .unset] [(.int cc)])) _
          refine XS.iload X6.here hx rfl (hb hby at_75) rfl ?_
          show Steps p.tables e below (T6.setTop (mkF m 77 #[.val (.int p1), .val (.int p2), .val (.int p3), .val (.int p4), .val (.int cy), .val (.int rp), .val (.int ba), .val (.int cc), .val (.long (cyc 65 cy rp ba (0 : Int64))), .second, .val (.int (if (lcmpW ((((cyc 65 cy rp ba (0 : Int64)).toUInt64 >>> (cc &&& 0x3f).toInt64.toUInt64).toInt64) &&& (1 : Int64)) (0 : Int64)) = (0 : Int32) then (0 : Int32) else (1 : Int32))), .unset] [(.int ba), (.int cc)])) _
          refine XS.isub X6.here hx rfl (hb hby at_77) rfl ?_
          show Steps p.tables e below (T6.setTop (mkF m 78 #[.val (.int p1), .val (.int p2), .val (.int p3), .val (.int p4), .val (.int cy), .val (.int rp), .val (.int ba), .val (.int cc), .val (.long (cyc 65 cy rp ba (0 : Int64))), .second, .val (.int (if (lcmpW ((((cyc 65 cy rp ba (0 : Int64)).toUInt64 >>> (cc &&& 0x3f).toInt64.toUInt64).toInt64) &&& (1 : Int64)) (0 : Int64)) = (0 : Int32) then (0 : Int32) else (1 : Int32))), .unset] [(.int (cc - ba))])) _
          refine XS.iload X6.here hx rfl (hb hby at_78) rfl ?_
          show Steps p.tables e below (T6.setTop (mkF m 80 #[.val (.int p1), .val (.int p2), .val (.int p3), .val (.int p4), .val (.int cy), .val (.int rp), .val (.int ba), .val (.int cc), .val (.long (cyc 65 cy rp ba (0 : Int64))), .second, .val (.int (if (lcmpW ((((cyc 65 cy rp ba (0 : Int64)).toUInt64 >>> (cc &&& 0x3f).toInt64.toUInt64).toInt64) &&& (1 : Int64)) (0 : Int64)) = (0 : Int32) then (0 : Int32) else (1 : Int32))), .unset] [(.int rp), (.int (cc - ba))])) _
          refine iremM X6 hx rfl (hb hby at_80) rfl (show ¬ (rp = (0 : Int32)) from fun z => by rw [z, show (0 : Int32).toInt = 0 from by decide] at b2; omega) ?_
          show Steps p.tables e below (T6.setTop (mkF m 81 #[.val (.int p1), .val (.int p2), .val (.int p3), .val (.int p4), .val (.int cy), .val (.int rp), .val (.int ba), .val (.int cc), .val (.long (cyc 65 cy rp ba (0 : Int64))), .second, .val (.int (if (lcmpW ((((cyc 65 cy rp ba (0 : Int64)).toUInt64 >>> (cc &&& 0x3f).toInt64.toUInt64).toInt64) &&& (1 : Int64)) (0 : Int64)) = (0 : Int32) then (0 : Int32) else (1 : Int32))), .unset] [(.int ((cc - ba) % rp))])) _
          refine XS.ifYes X6.here hx rfl (pc0 := 81) (pc' := 88) rfl (hb hby at_81) rfl ((if0 _ _).trans (feq hc81).2) (by decide) (by decide) ?_
          show Steps p.tables e below (T6.setTop (mkF m 88 #[.val (.int p1), .val (.int p2), .val (.int p3), .val (.int p4), .val (.int cy), .val (.int rp), .val (.int ba), .val (.int cc), .val (.long (cyc 65 cy rp ba (0 : Int64))), .second, .val (.int (if (lcmpW ((((cyc 65 cy rp ba (0 : Int64)).toUInt64 >>> (cc &&& 0x3f).toInt64.toUInt64).toInt64) &&& (1 : Int64)) (0 : Int64)) = (0 : Int32) then (0 : Int32) else (1 : Int32))), .unset] [])) _
          refine XS.iconst X6.here hx rfl (hb hby at_88) ?_
          show Steps p.tables e below (T6.setTop (mkF m 89 #[.val (.int p1), .val (.int p2), .val (.int p3), .val (.int p4), .val (.int cy), .val (.int rp), .val (.int ba), .val (.int cc), .val (.long (cyc 65 cy rp ba (0 : Int64))), .second, .val (.int (if (lcmpW ((((cyc 65 cy rp ba (0 : Int64)).toUInt64 >>> (cc &&& 0x3f).toInt64.toUInt64).toInt64) &&& (1 : Int64)) (0 : Int64)) = (0 : Int32) then (0 : Int32) else (1 : Int32))), .unset] [(.int (0 : Int32))])) _
          exact kt
      · skip
        try simp only [if_neg hc63, if_neg hc70] at kt
        refine pre10 t ?_
        refine XS.icmpNo X6.here hx rfl (hb hby at_63) rfl (flt hc63).1 ?_
        show Steps p.tables e below (T6.setTop (mkF m 66 #[.val (.int p1), .val (.int p2), .val (.int p3), .val (.int p4), .val (.int cy), .val (.int rp), .val (.int ba), .val (.int cc), .val (.long (cyc 65 cy rp ba (0 : Int64))), .second, .val (.int (if (lcmpW ((((cyc 65 cy rp ba (0 : Int64)).toUInt64 >>> (cc &&& 0x3f).toInt64.toUInt64).toInt64) &&& (1 : Int64)) (0 : Int64)) = (0 : Int32) then (0 : Int32) else (1 : Int32))), .unset] [])) _
        refine XS.iload X6.here hx rfl (hb hby at_66) rfl ?_
        show Steps p.tables e below (T6.setTop (mkF m 68 #[.val (.int p1), .val (.int p2), .val (.int p3), .val (.int p4), .val (.int cy), .val (.int rp), .val (.int ba), .val (.int cc), .val (.long (cyc 65 cy rp ba (0 : Int64))), .second, .val (.int (if (lcmpW ((((cyc 65 cy rp ba (0 : Int64)).toUInt64 >>> (cc &&& 0x3f).toInt64.toUInt64).toInt64) &&& (1 : Int64)) (0 : Int64)) = (0 : Int32) then (0 : Int32) else (1 : Int32))), .unset] [(.int cc)])) _
        refine XS.iload X6.here hx rfl (hb hby at_68) rfl ?_
        show Steps p.tables e below (T6.setTop (mkF m 70 #[.val (.int p1), .val (.int p2), .val (.int p3), .val (.int p4), .val (.int cy), .val (.int rp), .val (.int ba), .val (.int cc), .val (.long (cyc 65 cy rp ba (0 : Int64))), .second, .val (.int (if (lcmpW ((((cyc 65 cy rp ba (0 : Int64)).toUInt64 >>> (cc &&& 0x3f).toInt64.toUInt64).toInt64) &&& (1 : Int64)) (0 : Int64)) = (0 : Int32) then (0 : Int32) else (1 : Int32))), .unset] [(.int cy), (.int cc)])) _
        refine XS.icmpYes X6.here hx rfl (pc0 := 70) (pc' := 88) rfl (hb hby at_70) rfl (flt hc70).2.1 (by decide) (by decide) ?_
        show Steps p.tables e below (T6.setTop (mkF m 88 #[.val (.int p1), .val (.int p2), .val (.int p3), .val (.int p4), .val (.int cy), .val (.int rp), .val (.int ba), .val (.int cc), .val (.long (cyc 65 cy rp ba (0 : Int64))), .second, .val (.int (if (lcmpW ((((cyc 65 cy rp ba (0 : Int64)).toUInt64 >>> (cc &&& 0x3f).toInt64.toUInt64).toInt64) &&& (1 : Int64)) (0 : Int64)) = (0 : Int32) then (0 : Int32) else (1 : Int32))), .unset] [])) _
        refine XS.iconst X6.here hx rfl (hb hby at_88) ?_
        show Steps p.tables e below (T6.setTop (mkF m 89 #[.val (.int p1), .val (.int p2), .val (.int p3), .val (.int p4), .val (.int cy), .val (.int rp), .val (.int ba), .val (.int cc), .val (.long (cyc 65 cy rp ba (0 : Int64))), .second, .val (.int (if (lcmpW ((((cyc 65 cy rp ba (0 : Int64)).toUInt64 >>> (cc &&& 0x3f).toInt64.toUInt64).toInt64) &&& (1 : Int64)) (0 : Int64)) = (0 : Int32) then (0 : Int32) else (1 : Int32))), .unset] [(.int (0 : Int32))])) _
        exact kt
  have hc95 : (if (lcmpW ((((cyc 65 cy rp ba (0 : Int64)).toUInt64 >>> (cc &&& 0x3f).toInt64.toUInt64).toInt64) &&& (1 : Int64)) (0 : Int64)) = (0 : Int32) then (0 : Int32) else (1 : Int32)) = (if cc < ba then (0 : Int32) else (if cc < cy then (if ((cc - ba) % rp) = (0 : Int32) then (1 : Int32) else (0 : Int32)) else (0 : Int32))) := own_fin cy rp ba cc b1.2 b2 b3.1 ⟨b4.1, by omega⟩ b3.2
  have pre12 : ∀ t, Steps p.tables e below (T6.setTop (mkF m 103 #[.val (.int p1), .val (.int p2), .val (.int p3), .val (.int p4), .val (.int cy), .val (.int rp), .val (.int ba), .val (.int cc), .val (.long (cyc 65 cy rp ba (0 : Int64))), .second, .val (.int (if (lcmpW ((((cyc 65 cy rp ba (0 : Int64)).toUInt64 >>> (cc &&& 0x3f).toInt64.toUInt64).toInt64) &&& (1 : Int64)) (0 : Int64)) = (0 : Int32) then (0 : Int32) else (1 : Int32))), .val (.int (if cc < ba then (0 : Int32) else (if cc < cy then (if ((cc - ba) % rp) = (0 : Int32) then (1 : Int32) else (0 : Int32)) else (0 : Int32))))] [(.int (1 : Int32))])) t → Steps p.tables e below (s₁.setTop (entryFrame m #[(.int p1), (.int p2), (.int p3), (.int p4)] maxLocals)) t := fun t kt => by
    refine pre11 t ?_
    refine XS.istore X6.here hx rfl (hb hby at_89) rfl (l' := #[.val (.int p1), .val (.int p2), .val (.int p3), .val (.int p4), .val (.int cy), .val (.int rp), .val (.int ba), .val (.int cc), .val (.long (cyc 65 cy rp ba (0 : Int64))), .second, .val (.int (if (lcmpW ((((cyc 65 cy rp ba (0 : Int64)).toUInt64 >>> (cc &&& 0x3f).toInt64.toUInt64).toInt64) &&& (1 : Int64)) (0 : Int64)) = (0 : Int32) then (0 : Int32) else (1 : Int32))), .val (.int (if cc < ba then (0 : Int32) else (if cc < cy then (if ((cc - ba) % rp) = (0 : Int32) then (1 : Int32) else (0 : Int32)) else (0 : Int32))))]) rfl ?_
    show Steps p.tables e below (T6.setTop (mkF m 91 #[.val (.int p1), .val (.int p2), .val (.int p3), .val (.int p4), .val (.int cy), .val (.int rp), .val (.int ba), .val (.int cc), .val (.long (cyc 65 cy rp ba (0 : Int64))), .second, .val (.int (if (lcmpW ((((cyc 65 cy rp ba (0 : Int64)).toUInt64 >>> (cc &&& 0x3f).toInt64.toUInt64).toInt64) &&& (1 : Int64)) (0 : Int64)) = (0 : Int32) then (0 : Int32) else (1 : Int32))), .val (.int (if cc < ba then (0 : Int32) else (if cc < cy then (if ((cc - ba) % rp) = (0 : Int32) then (1 : Int32) else (0 : Int32)) else (0 : Int32))))] [])) _
    refine XS.iload X6.here hx rfl (hb hby at_91) rfl ?_
    show Steps p.tables e below (T6.setTop (mkF m 93 #[.val (.int p1), .val (.int p2), .val (.int p3), .val (.int p4), .val (.int cy), .val (.int rp), .val (.int ba), .val (.int cc), .val (.long (cyc 65 cy rp ba (0 : Int64))), .second, .val (.int (if (lcmpW ((((cyc 65 cy rp ba (0 : Int64)).toUInt64 >>> (cc &&& 0x3f).toInt64.toUInt64).toInt64) &&& (1 : Int64)) (0 : Int64)) = (0 : Int32) then (0 : Int32) else (1 : Int32))), .val (.int (if cc < ba then (0 : Int32) else (if cc < cy then (if ((cc - ba) % rp) = (0 : Int32) then (1 : Int32) else (0 : Int32)) else (0 : Int32))))] [(.int (if (lcmpW ((((cyc 65 cy rp ba (0 : Int64)).toUInt64 >>> (cc &&& 0x3f).toInt64.toUInt64).toInt64) &&& (1 : Int64)) (0 : Int64)) = (0 : Int32) then (0 : Int32) else (1 : Int32)))])) _
    refine XS.iload X6.here hx rfl (hb hby at_93) rfl ?_
    show Steps p.tables e below (T6.setTop (mkF m 95 #[.val (.int p1), .val (.int p2), .val (.int p3), .val (.int p4), .val (.int cy), .val (.int rp), .val (.int ba), .val (.int cc), .val (.long (cyc 65 cy rp ba (0 : Int64))), .second, .val (.int (if (lcmpW ((((cyc 65 cy rp ba (0 : Int64)).toUInt64 >>> (cc &&& 0x3f).toInt64.toUInt64).toInt64) &&& (1 : Int64)) (0 : Int64)) = (0 : Int32) then (0 : Int32) else (1 : Int32))), .val (.int (if cc < ba then (0 : Int32) else (if cc < cy then (if ((cc - ba) % rp) = (0 : Int32) then (1 : Int32) else (0 : Int32)) else (0 : Int32))))] [(.int (if cc < ba then (0 : Int32) else (if cc < cy then (if ((cc - ba) % rp) = (0 : Int32) then (1 : Int32) else (0 : Int32)) else (0 : Int32)))), (.int (if (lcmpW ((((cyc 65 cy rp ba (0 : Int64)).toUInt64 >>> (cc &&& 0x3f).toInt64.toUInt64).toInt64) &&& (1 : Int64)) (0 : Int64)) = (0 : Int32) then (0 : Int32) else (1 : Int32)))])) _
    refine XS.icmpNo X6.here hx rfl (hb hby at_95) rfl (teq hc95).2 ?_
    show Steps p.tables e below (T6.setTop (mkF m 98 #[.val (.int p1), .val (.int p2), .val (.int p3), .val (.int p4), .val (.int cy), .val (.int rp), .val (.int ba), .val (.int cc), .val (.long (cyc 65 cy rp ba (0 : Int64))), .second, .val (.int (if (lcmpW ((((cyc 65 cy rp ba (0 : Int64)).toUInt64 >>> (cc &&& 0x3f).toInt64.toUInt64).toInt64) &&& (1 : Int64)) (0 : Int64)) = (0 : Int32) then (0 : Int32) else (1 : Int32))), .val (.int (if cc < ba then (0 : Int32) else (if cc < cy then (if ((cc - ba) % rp) = (0 : Int32) then (1 : Int32) else (0 : Int32)) else (0 : Int32))))] [])) _
    refine XS.iconst X6.here hx rfl (hb hby at_98) ?_
    show Steps p.tables e below (T6.setTop (mkF m 99 #[.val (.int p1), .val (.int p2), .val (.int p3), .val (.int p4), .val (.int cy), .val (.int rp), .val (.int ba), .val (.int cc), .val (.long (cyc 65 cy rp ba (0 : Int64))), .second, .val (.int (if (lcmpW ((((cyc 65 cy rp ba (0 : Int64)).toUInt64 >>> (cc &&& 0x3f).toInt64.toUInt64).toInt64) &&& (1 : Int64)) (0 : Int64)) = (0 : Int32) then (0 : Int32) else (1 : Int32))), .val (.int (if cc < ba then (0 : Int32) else (if cc < cy then (if ((cc - ba) % rp) = (0 : Int32) then (1 : Int32) else (0 : Int32)) else (0 : Int32))))] [(.int (1 : Int32))])) _
    refine XS.goto X6.here hx rfl (pc0 := 99) (pc' := 103) rfl (hb hby at_99) (by decide) (by decide) ?_
    show Steps p.tables e below (T6.setTop (mkF m 103 #[.val (.int p1), .val (.int p2), .val (.int p3), .val (.int p4), .val (.int cy), .val (.int rp), .val (.int ba), .val (.int cc), .val (.long (cyc 65 cy rp ba (0 : Int64))), .second, .val (.int (if (lcmpW ((((cyc 65 cy rp ba (0 : Int64)).toUInt64 >>> (cc &&& 0x3f).toInt64.toUInt64).toInt64) &&& (1 : Int64)) (0 : Int64)) = (0 : Int32) then (0 : Int32) else (1 : Int32))), .val (.int (if cc < ba then (0 : Int32) else (if cc < cy then (if ((cc - ba) % rp) = (0 : Int32) then (1 : Int32) else (0 : Int32)) else (0 : Int32))))] [(.int (1 : Int32))])) _
    exact kt
  obtain ⟨fs, hr, hrun, hended, hW, hsame⟩ := X6.leave (v := some (.int (1 : Int32))) (fun h => by rw [Bd.returns] at h; cases h)
  refine ⟨_, _, pre12 _ ?_, hrun, hended, _, _, rfl, ?_, ⟨_, rfl⟩, hW, hsame.mono (by decide) (by decide)⟩
  · exact retN X6 hx (t := .boolean) Bd.returns (by simp) (hb hby at_103) hr
  · show Q0 Z p1 p2 p3 p4 h0 n0 _ T6.heap _
    rw [e6]
    exact ⟨rfl, N6⟩
set_option maxRecDepth 65536 in
set_option maxHeartbeats 40000000 in
theorem comes_1 {Post : Tables → Env → Array Value → State → Outcome → State → Prop} (hpost : ∀ tb e args s v u, (limb_1_1.after args s (.returned v) u = true ∧ limb_1_2.after args s (.returned v) u = true ∧ True) → FrameEnd s (.returned v) u (Jvm.fieldLocs frame_1_writes args s ++ Jvm.arrayLocs frame_1_arrays args s ++ Jvm.staticLocs frame_1_statics s) 0 0 → Post tb e args s (.returned v) u) :
    ArmFor flags0 classFile x code maxLocals ret World_1 tables_1 room_1 Calls_1 rest_1 Pre_1 Post := by
  intro l hfl _ _ p e ha hc hk s m args below hf hA hF happ hP
  obtain ⟨hcalls, hrest, hpre⟩ := hP
  obtain ⟨-, -, -, hnamed, -, -, -, hat⟩ := (Spec.applies_iff hf).mp happ
  obtain ⟨hg, hn⟩ := and_e (Cond.before_iff.mp (show (Jvm.Cond.and given_1 narrow_1).before args s = true from hpre))
  obtain ⟨g1, g2⟩ := and_e hg
  obtain ⟨g3, g4⟩ := and_e g2
  obtain ⟨g5, g6⟩ := and_e g4
  obtain ⟨g7, g8⟩ := and_e g6
  obtain ⟨w0, w1, w2, w3, rfl⟩ : ∃ w0 w1 w2 w3 : Value, args = #[w0, w1, w2, w3] := by
    have hs : args.size = 4 := by simpa [Cond.value, given_1] using g1
    obtain ⟨L⟩ := args
    match L, hs with
    | [w0, w1, w2, w3], _ => exact ⟨w0, w1, w2, w3, rfl⟩
  have hw := fun d (hd : d ∈ tables_1) => atoms_spec (ws := Jvm.Cond.code x code maxLocals ret :: tables_1) hat d (List.mem_cons_of_mem _ hd)
  have hfit : Fit s := fun {y c} hc i hi => by
    obtain ⟨ha, rfl⟩ := Array.getElem?_eq_some_iff.mp hc
    have q := List.all_eq_true.mp ((Array.all_eq_true_iff_forall_mem.mp hF) _ (Array.getElem_mem ha)) i (List.mem_range.mpr hi)
    simpa [Array.getElem?_eq_getElem hi] using q
  obtain ⟨i0, ei0⟩ := is_v g3
  obtain rfl : w0 = (.int i0) := Option.some.inj ei0
  obtain ⟨i1, ei1⟩ := is_v g5
  obtain rfl : w1 = (.int i1) := Option.some.inj ei1
  obtain ⟨i2, ei2⟩ := is_v g7
  obtain rfl : w2 = (.int i2) := Option.some.inj ei2
  obtain ⟨i3, ei3⟩ := is_v g8
  obtain rfl : w3 = (.int i3) := Option.some.inj ei3
  obtain ⟨n, o, h1, h2, h3, _, L, rfl, ⟨rfl, N⟩, hq⟩ := rm0 l s _ hw tables_1 i0 i1 i2 i3 s.heap s.heap.size (Nat.le_refl _)  p e ha hc hk s m _ below hf ((Spec.applies_iff_loose hf).mp happ).1 ⟨rfl, State.Warmed39.refl s, rfl⟩ trivial
  refine ⟨n, _, h1, h2, h3, hpost _ _ _ _ _ _ ⟨Cond.after_iff.mpr rfl, Cond.after_iff.mpr (eq_i res_at (Term.int_eval (1)) rfl), trivial⟩ ⟨hq.1, hq.2.1, (hq.2.2.sift fun y hy => Or.inr (N y hy)).mono (by decide) (by decide)⟩⟩
theorem main_1_1 : Claimed_1_1 := comes_1 fun _ _ _ _ _ _ h hF => ⟨h.1, hF⟩
theorem main_1_2 : Claimed_1_2 := comes_1 fun _ _ _ _ _ _ h hF => ⟨h.2.1, hF⟩
end Jvm.Pilot.@@N@@
namespace Jvm.Pilot.@@N@@
open Jvm Jvm.ClassFile Sem Op Lib Jvm.Free Jvm.Stand Jvm.Pilot.@@N@@.Jvm.D
/-! MADE BY PROGRAM (witnessworld.py) out of the Statement's table words and the real class files: 9 classes; the members and pool entries that the words name. The judged class is class 1, her method 1. -/
namespace start1
open Jvm.ClassFile
def u (s : String) : CpInfo := .utf8 (stringToUtf16 s)
/-- a pool by its gaps: so many unusable entries, then the entry; so many at the end -/
def gap : Nat → List CpInfo → List CpInfo
  | 0, r => r
  | n + 1, r => .unusable :: gap n r
def poolList (es : List (Nat × CpInfo)) (last : Nat) : List CpInfo := es.foldr (fun e r => gap e.1 (e.2 :: r)) (gap last [])
def pool (es : List (Nat × CpInfo)) (last : Nat) : Array CpInfo := ⟨poolList es last⟩
def fileOf (pool : Array CpInfo) (this : Nat) (attrs : Array Attribute := #[]) (ms : Array MethodInfo := #[]) (fl : Nat := 33) (sup : Nat := 0) (ifs : Array Nat := #[]) (fds : Array FieldInfo := #[]) : ClassFile where
  minorVersion := 0
  majorVersion := 65
  constantPool := pool
  accessFlags := fl
  thisClass := this
  superClass := sup
  interfaces := ifs
  fields := fds
  methods := ms
  attributes := attrs
def plain (name : String) (sup : Option ClassId) : Class where
  name := name
  kind := .ordinary
  loader := none
  accessFlags := 33
  super := sup
  interfaces := #[]
  cf := none
  fields := #[]
  methods := #[]
  instanceTypes := #[]
  staticTypes := #[]
  resolved := #[]
  callSites := []
  init := .initialized
  statics := none
  mirror := none

def pool0 : Array CpInfo := pool [(5, u "<init>"), (0, u "()V"), (1, .class_ 10), (1, u "java/lang/Object")] 113

def k0m0 : Method := { name := "<init>", desc := "()V", sig := { parameters := [], returnType := none }, accessFlags := 1, code := none }
/-- java/lang/Object -/
def k0 : Class := { plain "java/lang/Object" none with
  accessFlags := 33
  interfaces := #[]
  cf := some (fileOf pool0 8 #[] #[{ accessFlags := 1, nameIndex := 5, descriptorIndex := 6, attributes := #[] }] 33 0 #[] #[])
  fields := #[]
  methods := #[k0m0]
  instanceTypes := #[]
  staticTypes := #[]
  resolved := Array.replicate 124 none
  statics := none }

def pool1 : Array CpInfo := pool [(2, .class_ 4), (1, u "java/lang/Object"), (0, u "<init>"), (0, u "()V"), (0, .integer 2147483647), (0, .methodref 9 10), (0, .class_ 11), (0, .nameAndType 12 13), (0, u "com/example/starling/starling/schedule/SlotUse"), (0, u "cyclesOf"), (0, u "(III)J"), (0, .class_ 15), (0, u "com/example/starling/starling/schedule/SlotUseCyclesOfPinLaw"), (2, u "law"), (0, u "(IIII)Z")] 3

def k1m0 : Method := { name := "<init>", desc := "()V", sig := { parameters := [], returnType := none }, accessFlags := 2, code := none }
def k1c1 : Code := { maxStack := 4, maxLocals := 12, code := code, exceptionTable := #[], attributes := #[] }
def k1m1 : Method := { name := "law", desc := "(IIII)Z", sig := { parameters := [.int, .int, .int, .int], returnType := some .boolean }, accessFlags := 9, code := some k1c1 }
/-- com/example/starling/starling/schedule/SlotUseCyclesOfPinLaw -/
def k1 : Class := { plain "com/example/starling/starling/schedule/SlotUseCyclesOfPinLaw" (some 0) with
  accessFlags := 49
  interfaces := #[]
  cf := some (fileOf pool1 14 #[] #[{ accessFlags := 2, nameIndex := 5, descriptorIndex := 6, attributes := #[] }, { accessFlags := 9, nameIndex := 18, descriptorIndex := 19, attributes := #[] }] 49 2 #[] #[])
  fields := #[]
  methods := #[k1m0, k1m1]
  instanceTypes := #[]
  staticTypes := #[]
  resolved := Array.replicate 23 none
  statics := none }

def pool2 : Array CpInfo := pool [(2, .class_ 4), (1, u "java/lang/Object"), (3, .class_ 10), (1, u "com/example/starling/starling/schedule/SlotUse"), (0, u "ownedBy"), (0, u "[J"), (2, u "firstSender"), (0, u "I"), (4, u "payloadBytes"), (11, u "oneSenderPerSlot"), (3, u "Z"), (5, u "cyclesOf"), (0, u "(III)J"), (2, u "everyCycle"), (0, u "J"), (3, u "[[J"), (2, u "taken"), (2, u "takenCount"), (0, u "[I"), (2, u "union"), (2, u "owned"), (34, u "messages")] 28

def k2c0 : Code := { maxStack := 5, maxLocals := 6, code := prog_28_method_2_code, exceptionTable := #[], attributes := #[] }
def k2m0 : Method := { name := "cyclesOf", desc := "(III)J", sig := { parameters := [.int, .int, .int], returnType := some .long }, accessFlags := 8, code := some k2c0 }
/-- com/example/starling/starling/schedule/SlotUse -/
def k2 : Class := { plain "com/example/starling/starling/schedule/SlotUse" (some 0) with
  accessFlags := 48
  interfaces := #[]
  cf := some (fileOf pool2 8 #[] #[{ accessFlags := 8, nameIndex := 43, descriptorIndex := 44, attributes := #[] }] 48 2 #[] #[{ accessFlags := 18, nameIndex := 21, descriptorIndex := 16, attributes := #[] }, { accessFlags := 18, nameIndex := 33, descriptorIndex := 37, attributes := #[] }, { accessFlags := 18, nameIndex := 47, descriptorIndex := 48, attributes := #[] }, { accessFlags := 2, nameIndex := 65, descriptorIndex := 48, attributes := #[] }, { accessFlags := 2, nameIndex := 11, descriptorIndex := 12, attributes := #[] }, { accessFlags := 2, nameIndex := 15, descriptorIndex := 16, attributes := #[] }, { accessFlags := 2, nameIndex := 100, descriptorIndex := 16, attributes := #[] }, { accessFlags := 18, nameIndex := 55, descriptorIndex := 52, attributes := #[] }, { accessFlags := 18, nameIndex := 58, descriptorIndex := 59, attributes := #[] }, { accessFlags := 18, nameIndex := 62, descriptorIndex := 12, attributes := #[] }])
  fields := #[{ name := "payloadBytes", type := .int, accessFlags := 18, slot := 0, constantValue := 0 }, { name := "oneSenderPerSlot", type := .boolean, accessFlags := 18, slot := 1, constantValue := 0 }, { name := "everyCycle", type := .long, accessFlags := 18, slot := 2, constantValue := 0 }, { name := "owned", type := .long, accessFlags := 2, slot := 3, constantValue := 0 }, { name := "ownedBy", type := (.array .long), accessFlags := 2, slot := 4, constantValue := 0 }, { name := "firstSender", type := .int, accessFlags := 2, slot := 5, constantValue := 0 }, { name := "messages", type := .int, accessFlags := 2, slot := 6, constantValue := 0 }, { name := "taken", type := (.array (.array .long)), accessFlags := 18, slot := 7, constantValue := 0 }, { name := "takenCount", type := (.array .int), accessFlags := 18, slot := 8, constantValue := 0 }, { name := "union", type := (.array .long), accessFlags := 18, slot := 9, constantValue := 0 }]
  methods := #[k2m0]
  instanceTypes := #[.int, .boolean, .long, .long, (.array .long), .int, .int, (.array (.array .long)), (.array .int), (.array .long)]
  staticTypes := #[]
  resolved := Array.replicate 129 none
  statics := none }

def pool3 : Array CpInfo := pool [(1, u "java/lang/Cloneable"), (0, .class_ 1), (0, u "java/lang/Object"), (0, .class_ 3)] 3

/-- java/lang/Cloneable -/
def k3 : Class := { plain "java/lang/Cloneable" (some 0) with
  accessFlags := 1537
  interfaces := #[]
  cf := some (fileOf pool3 2 #[] #[] 1537 4 #[] #[])
  fields := #[]
  methods := #[]
  instanceTypes := #[]
  staticTypes := #[]
  resolved := Array.replicate 8 none
  statics := none }

def pool4 : Array CpInfo := pool [(1, u "java/io/Serializable"), (0, .class_ 1), (0, u "java/lang/Object"), (0, .class_ 3)] 3

/-- java/io/Serializable -/
def k4 : Class := { plain "java/io/Serializable" (some 0) with
  accessFlags := 1537
  interfaces := #[]
  cf := some (fileOf pool4 2 #[] #[] 1537 4 #[] #[])
  fields := #[]
  methods := #[]
  instanceTypes := #[]
  staticTypes := #[]
  resolved := Array.replicate 8 none
  statics := none }

/-- the primitive byte -/
def k5 : Class := { plain "byte" none with kind := .primitive 'B', accessFlags := 0x411 }
/-- [B -/
def k6 : Class := { plain "[B" (some 0) with kind := .array 5 .byte, interfaces := #[3, 4], accessFlags := 1041 }

/-- the primitive int -/
def k7 : Class := { plain "int" none with kind := .primitive 'I', accessFlags := 0x411 }
/-- [I -/
def k8 : Class := { plain "[I" (some 0) with kind := .array 7 .int, interfaces := #[3, 4], accessFlags := 1041 }

def heap : Heap := #[]
def classes : Array Class := #[k0, k1, k2, k3, k4, k5, k6, k7, k8]
def interned : List (Array UInt16 × Addr) := []
def slotsUsed : Nat := 0
def theMethod : MethodId := ⟨1, 1⟩
def args0 : Array Value := #[.int 50, .int 3, .int 9, .int 12]
def aboutOver (below : List Frame) : State where
  vm := { classes := classes, interned := interned.toArray }
  heap := heap
  slotsUsed := slotsUsed
  threads := #[{ frames := .invoking theMethod args0 :: below }]
def below0 : List Frame := [.native { method := ⟨0, 0⟩, args := #[] }]
def about1 : State := aboutOver below0
def p0 : Program := .bare "" "" ""
def e0 : Env := launch0.env 0 0 0
theorem w_frames : about1.frames = Frame.invoking theMethod args0 :: below0 := rfl
set_option maxRecDepth 65536 in
theorem w_args : argsFit about1.vm theMethod args0 = true := by decide +kernel
set_option maxRecDepth 65536 in
theorem w_heap : heapFits about1 = true := by decide +kernel
set_option maxRecDepth 65536 in
theorem w_runnable : about1.curStatus? = some .runnable := by decide +kernel
set_option maxRecDepth 65536 in
theorem w_alone : about1.alone = true := by decide +kernel
set_option maxRecDepth 65536 in
theorem w_named : about1.methodNamed? x = some theMethod := by decide +kernel
set_option maxRecDepth 65536 in
theorem w_hears : about1.hears theMethod below0 = true := by decide +kernel
set_option maxRecDepth 65536 in
theorem w_ripe : about1.ripe theMethod args0 below0 = true := by decide +kernel
theorem w_running : about1.status = .running := rfl
set_option maxRecDepth 65536 in
theorem w_room : about1.hasRoom e0.platform room_1 = true :=
  launch0.hasRoom_least _ room_1 (by decide +kernel) (by decide +kernel) (by decide +kernel) (by decide +kernel) (by decide +kernel) (by decide +kernel)
theorem allAtoms_all (ts : List Jvm.Cond) (a : Array Jvm.Value) (st : Jvm.State) : (allAtoms ts).before a st = ts.all (fun c => c.before a st) := by
  induction ts with
  | nil => rfl
  | cons c t ih =>
    show (Jvm.Cond.and c (allAtoms t)).before a st = _
    rw [Jvm.Cond.before_and, ih, List.all_cons]
def words1 : List Jvm.Cond := Jvm.Cond.code x code maxLocals ret :: tables_1
/-- a 'code' word, met by the world's own term for the bytes: nothing is compared byte by byte -/
theorem code_word {y : MethodName} {bytes : ByteArray} {mx : Nat} {rt : Option FieldType} {a : Array Value} {s : State} {m : MethodId} {meth : Method} {c : Code} (h1 : s.methodNamed? y = some m) (h2 : s.vm.method? m = some meth) (h3 : meth.code = some c) (h4 : c.code = bytes)
    (h5 : (c.maxLocals == mx && c.exceptionTable.isEmpty && decide (c.maxStack ≤ mostOperands) && decide (meth.sig.returnType = rt) && !meth.locks && decide (parseMethodDescriptor y.desc = some meth.sig)) = true) : (Jvm.Cond.code y bytes mx rt).before a s = true := by
  simp only [Bool.and_eq_true, beq_iff_eq, Bool.not_eq_true', decide_eq_true_eq] at h5
  obtain ⟨⟨⟨⟨⟨g1, g2⟩, g3⟩, g4⟩, g5⟩, g6⟩ := h5
  simp [Cond.before, Cond.holds, Cond.value, h1, h2, h3, h4, g1, g2, g3, g4, g5, g6]
def isCode : Jvm.Cond → Bool
  | .code _ _ _ _ => true
  | _ => false
theorem all_split {L : List Jvm.Cond} {P : Jvm.Cond → Bool} (h1 : L.all (fun c => isCode c || P c) = true) (h2 : ∀ c ∈ L.filter isCode, P c = true) : L.all P = true := by
  refine List.all_eq_true.mpr fun c hc => ?_
  have h := List.all_eq_true.mp h1 c hc
  rcases Bool.eq_false_or_eq_true (isCode c) with hi | hi
  · exact h2 c (List.mem_filter.mpr ⟨hc, hi⟩)
  · simpa [hi] using h
set_option maxRecDepth 65536 in
theorem w_c0 : (Jvm.Cond.code x code maxLocals ret).before args0 about1 = true := code_word (m := ⟨1, 1⟩) (meth := k1m1) (c := k1c1) (by decide +kernel) rfl rfl rfl (by decide +kernel)
set_option maxRecDepth 65536 in
theorem w_c1 : (Jvm.Cond.code ({ cls := "com/example/starling/starling/schedule/SlotUse", name := "cyclesOf", desc := "(III)J" } : Jvm.MethodName) prog_28_method_2_code (6 : Nat) (Option.some Jvm.ClassFile.FieldType.long)).before args0 about1 = true := code_word (m := ⟨2, 0⟩) (meth := k2m0) (c := k2c0) (by decide +kernel) rfl rfl rfl (by decide +kernel)
def codes1 : List Jvm.Cond := [Jvm.Cond.code x code maxLocals ret, Jvm.Cond.code ({ cls := "com/example/starling/starling/schedule/SlotUse", name := "cyclesOf", desc := "(III)J" } : Jvm.MethodName) prog_28_method_2_code (6 : Nat) (Option.some Jvm.ClassFile.FieldType.long)]
set_option maxRecDepth 65536 in
theorem codes_eq : words1.filter isCode = codes1 := rfl
theorem w_codes : ∀ c ∈ words1.filter isCode, c.before args0 about1 = true := by
  rw [codes_eq]
  intro c hc
  simp only [codes1, List.mem_cons, List.not_mem_nil, or_false] at hc
  rcases hc with rfl | rfl
  · exact w_c0
  · exact w_c1
set_option maxRecDepth 65536 in
theorem w_t1 : words1.all (fun c => isCode c || c.before args0 about1) = true := by decide +kernel
theorem w_tables : (allAtoms (Jvm.Cond.code x code maxLocals ret :: tables_1)).before args0 about1 = true := by
  rw [allAtoms_all]
  show words1.all (fun c => c.before args0 about1) = true
  refine all_split ?_ w_codes
  rw [w_t1]
set_option maxRecDepth 65536 in
theorem w_case : (Jvm.Cond.and given_1 narrow_1).before args0 about1 = true := by decide +kernel
theorem w_applies : (headSpec (Jvm.Cond.code x code maxLocals ret :: tables_1) room_1).applies x e0.platform about1 = true :=
  (Spec.applies_iff w_frames).mpr ⟨w_running, w_runnable, w_alone, w_named, w_hears, w_ripe, w_room, w_tables⟩
theorem atStart : AtStart classFile x code maxLocals ret World_1 tables_1 room_1 Calls_1 rest_1 Pre_1 launch0 p0 e0 about1 theMethod args0 below0 :=
  ⟨lists_1, trivial, launch0.admits_env _ _ _, launch0.least_env, fairChoices_fair.cas, fairChoices_fair.clock, w_frames, w_args, w_heap, w_applies, trivial, trivial, w_case⟩
end start1
theorem witness_1 : WitnessClaimed_1 := ⟨start1.p0, start1.e0, start1.about1, start1.theMethod, start1.args0, start1.below0, start1.atStart⟩
end Jvm.Pilot.@@N@@
