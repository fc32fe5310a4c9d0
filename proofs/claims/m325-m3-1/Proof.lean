import JvmDerived
import JvmDerived.Pilot.@@N@@Statement
import JvmDerived.Pilot.@@N@@Code
set_option linter.unusedVariables false
set_option linter.unusedSimpArgs false
namespace Jvm.RoadKit
open Sem ClassFile Op Lib Jvm.Stand Jvm.Free Jvm.LawKit
section New
variable {p : Program} {l : Launch} {e : Env} {R : Room} {s : State} {m : MethodId} {args : Array Value} {below : List Frame} {meth : Method} {c : Code} {T : State} {locs : List Loc} {cells slots : Nat}
theorem retI (X : Stand p l e R s m args below meth c T locs cells slots) (hx : p.tables.exec = Jvm.exec) {pc : Nat} {Ls : Array Slot} {z : Int32} {rest : List Value} (hret : meth.sig.returnType = some .int) (hd : decode c.code pc = .ok (.ireturn, 1)) {fs : List Frame}
    (hl : ∀ (f : JFrame) (acts : List Action), f.method = m → f.locked = none → f.entered = [] → (doReturn e (T.setTop f) acts (some (.int z))).1 = T.setFrames fs) : Steps p.tables e below (T.setTop (mkF m pc Ls (.int z :: rest))) (T.setFrames fs) := by
  have hm' : T.vm.method? m = some meth := X.method'
  have hn : narrow .int (.int z) = .int z := rfl
  show Steps p.tables e below (T.setTop { method := m, pc := pc, locals := Ls, stack := _ :: rest, locked := none }) _
  jvm_step X.here [X.here.top, hx, hd, hm', hret, hn]
  first | (intro acts; rw [hl _ acts rfl rfl rfl]) | rw [hl _ _ rfl rfl rfl]
  exact Steps.refl _
theorem retJ (X : Stand p l e R s m args below meth c T locs cells slots) (hx : p.tables.exec = Jvm.exec) {pc : Nat} {Ls : Array Slot} {z : Int64} {rest : List Value} (hret : meth.sig.returnType = some .long) (hd : decode c.code pc = .ok (.lreturn, 1)) {fs : List Frame}
    (hl : ∀ (f : JFrame) (acts : List Action), f.method = m → f.locked = none → f.entered = [] → (doReturn e (T.setTop f) acts (some (.long z))).1 = T.setFrames fs) : Steps p.tables e below (T.setTop (mkF m pc Ls (.long z :: rest))) (T.setFrames fs) := by
  have hm' : T.vm.method? m = some meth := X.method'
  have hn : narrow .long (.long z) = .long z := rfl
  show Steps p.tables e below (T.setTop { method := m, pc := pc, locals := Ls, stack := _ :: rest, locked := none }) _
  jvm_step X.here [X.here.top, hx, hd, hm', hret, hn]
  first | (intro acts; rw [hl _ acts rfl rfl rfl]) | rw [hl _ _ rfl rfl rfl]
  exact Steps.refl _
end New
end Jvm.RoadKit
namespace Jvm.Pilot.@@N@@
open Jvm Jvm.ClassFile Sem Op Lib Jvm.Free Jvm.Stand Jvm.LawKit Jvm.RoadKit Bundle Jvm.Pilot.@@N@@.Jvm.D
theorem mvL {Z s : State} {a0 args : Array Value} {own host : String} {index : Nat} {y : MethodName} (hZ : Z.Warmed39 s.vm) (w : (Cond.methodLinkNest own index y host).before a0 Z = true) : (Cond.methodLinkNest own index y host).before args s = true := (Cond.methodLinkNest_wide hZ w :)
theorem mgE {A : Type} {l : List A} {a : A} (i : Nat) (h : l[i]? = some a) : a ∈ l := List.mem_of_getElem? h

def Arf (Z : State) (h : Heap) (a : Addr) (ty : FieldType) (z : Int32) (f : Nat → Value) : Prop := ∃ c : Cell, Arr Z h a c ty ∧ c.slots.size = z.toNatClampNeg ∧ ¬ z < 0 ∧ ∀ i, i < z.toNatClampNeg → c.slots[i]? = some (f i)
def own_upd {A : Type} (f : Nat → A) (j : Nat) (v : A) : Nat → A := fun i => if i = j then v else f i
theorem own_upd_same {A : Type} (f : Nat → A) (j : Nat) (v : A) : own_upd f j v j = v := if_pos rfl
theorem own_upd_ne {A : Type} (f : Nat → A) {j i : Nat} (v : A) (h : i ≠ j) : own_upd f j v i = f i := if_neg h
section ArfFacts
variable {Z : State} {h h' : Heap} {a b : Addr} {ty : FieldType} {z : Int32} {f : Nat → Value} {k : ClassId} {ws : List Addr} {sl : Nat} {v : Value}
theorem Arf.lt (F : Arf Z h a ty z f) : a < h.size := by obtain ⟨c, A, -⟩ := F; exact A.lt
theorem Arf.ext (F : Arf Z h a ty z f) (E : Ext h h') : Arf Z h' a ty z f := by obtain ⟨c, A, r⟩ := F; exact ⟨c, A.ext E, r⟩
theorem Arf.other (F : Arf Z h b ty z f) (W : Wr h h' a sl v) (q : b ≠ a) : Arf Z h' b ty z f := by obtain ⟨c, A, r⟩ := F; exact ⟨c, A.other W q, r⟩
theorem Arf.keep (F : Arf Z h a ty z f) (K : Keep h h' ws) (q : a ∉ ws) : Arf Z h' a ty z f := by obtain ⟨c, A, r⟩ := F; exact ⟨c, ⟨K.2.1 a c A.1 q, A.2⟩, r⟩
theorem Arf.new (A : Arr Z h a (newA k ty z) ty) (q : ¬ z < 0) : Arf Z h a ty z (fun _ => defaultValue ty) := ⟨_, A, sz_new _ _ _, q, fun i hi => by simp [newA, hi]⟩
theorem Arf.set (F : Arf Z h a ty z f) (W : Wr h h' a sl v) : Arf Z h' a ty z (own_upd f sl v) := by
  obtain ⟨c, A, S, N, H⟩ := F
  refine ⟨c.setSlot sl v, A.same W, by rw [sz_set]; exact S, N, fun i hi => ?_⟩
  by_cases e : i = sl
  · subst e; rw [own_upd_same]; simp [Cell.setSlot, S, hi]
  · rw [own_upd_ne _ _ e, ← H i hi]
    exact Array.getElem?_setIfInBounds_ne (Ne.symm e)
theorem Arf.cong {g : Nat → Value} (F : Arf Z h a ty z f) (q : ∀ i, i < z.toNatClampNeg → f i = g i) : Arf Z h a ty z g := by obtain ⟨c, A, S, N, H⟩ := F; exact ⟨c, A, S, N, fun i hi => (H i hi).trans (congrArg some (q i hi))⟩
theorem upd_int (f : Nat → Int32) (j : Nat) (v : Int32) : own_upd (fun i => Value.int (f i)) j (.int v) = fun i => Value.int (own_upd f j v i) := by funext i; unfold own_upd; split <;> rfl
theorem upd_long (f : Nat → Int64) (j : Nat) (v : Int64) : own_upd (fun i => Value.long (f i)) j (.long v) = fun i => Value.long (own_upd f j v i) := by funext i; unfold own_upd; split <;> rfl
end ArfFacts

theorem d1_0 : decode jdk_29_method_65_code 0 = .ok (.iload_n 0, 1) := by decide +kernel
theorem d1_1 : decode jdk_29_method_65_code 1 = .ok (.iload_n 1, 1) := by decide +kernel
theorem d1_2 : decode jdk_29_method_65_code 2 = .ok (.if_icmp .lt 7, 3) := by decide +kernel
theorem d1_5 : decode jdk_29_method_65_code 5 = .ok (.iload_n 0, 1) := by decide +kernel
theorem d1_6 : decode jdk_29_method_65_code 6 = .ok (.goto 4, 3) := by decide +kernel
theorem d1_9 : decode jdk_29_method_65_code 9 = .ok (.iload_n 1, 1) := by decide +kernel
theorem d1_10 : decode jdk_29_method_65_code 10 = .ok (.ireturn, 1) := by decide +kernel
theorem ef_1 (m : MethodId) (x0 : Int32) (x1 : Int32) : entryFrame m #[(.int x0), (.int x1)] 2 = mkF m 0 #[.val (.int x0), .val (.int x1)] [] := by first | (simp [entryFrame, mkF, argsToLocals, Value.category]; done) | rfl
def r1 (p1 : Int32) (p2 : Int32) : Int32 := (if p1 < p2 then p2 else p1)
def Q1 (Z : State) (p1 : Int32) (p2 : Int32) (h0 : Heap) (n0 : Nat) (v : Option Value) (h : Heap) (L : List Loc) : Prop := v = some (.int (r1 p1 p2)) ∧ Fr n0 L ∧ h = h0
set_option maxRecDepth 65536 in
set_option maxHeartbeats 40000000 in
theorem rm1 (l : Launch) (Z : State) (a0 : Array Value) (hw : ∀ d ∈ tables_1, d.before a0 Z = true) (ws : List Jvm.Cond) (p1 : Int32) (p2 : Int32) (h0 : Heap) (n0 : Nat) (Z0 : n0 ≤ h0.size)  :
    MetFree l (⟨"java/lang/Math", "max", "(II)I"⟩ : MethodName) (head1 (Jvm.Cond.code (⟨"java/lang/Math", "max", "(II)I"⟩ : MethodName) jdk_29_method_65_code 2 (some .int) :: ws) ({ frames := 0, cells := 0, slots := 0, locals := 0 } : Room)) (fun a U => a = #[(.int p1), (.int p2)] ∧ Z.Warmed39 U.vm ∧ U.heap = h0) (fun _ _ _ _ _ => True) (fun _ U o U' => ∃ v L, o = .returned v ∧ Q1 Z p1 p2 h0 n0 v U'.heap L ∧ FrameEnd U o U' L ({ frames := 0, cells := 0, slots := 0, locals := 0 } : Room).cells ({ frames := 0, cells := 0, slots := 0, locals := 0 } : Room).slots) := by
  refine MetFree.of_bodySF (Jvm.Free.JP.mathPlain rfl (by decide +kernel)) hisR ?_
  intro p e s m args below meth c s₁ Bd hml0 hP hK
  obtain ⟨rfl, hZ, hh⟩ := hP
  have hx := Bd.exec
  have hby := Bd.bytes
  have hml : c.maxLocals = 2 := hml0
  have hown : s.vm.findClass "java/lang/Math" = some m.cls := findClass_of_methodNamed Bd.named
  have hnm := (name_of_methodNamed Bd.named Bd.method).1
  have X0 : Stand p l e ({ frames := 0, cells := 0, slots := 0, locals := 0 } : Room) s m #[(.int p1), (.int p2)] below meth c s₁ [] 0 0 := Stand.of_body Bd
  have e0 : s₁.heap = h0 := by rw [← hh, Bd.state]; rfl
  have N0 := Fr.nil n0
  have pre0 : ∀ t, Steps p.tables e below (s₁.setTop (mkF m 0 #[.val (.int p1), .val (.int p2)] [])) t → Steps p.tables e below (s₁.setTop (entryFrame m #[(.int p1), (.int p2)] 2)) t := fun t k => castTop (ef_1 m p1 p2) k
  by_cases hc2 : p1 < p2
  · skip
    have pre1 : ∀ t, Steps p.tables e below (s₁.setTop (mkF m 10 #[.val (.int p1), .val (.int p2)] [(.int p2)])) t → Steps p.tables e below (s₁.setTop (entryFrame m #[(.int p1), (.int p2)] 2)) t := fun t kt => by
      refine pre0 t ?_
      refine XS.iloadN X0.here hx rfl (hb hby d1_0) rfl ?_
      show Steps p.tables e below (s₁.setTop (mkF m 1 #[.val (.int p1), .val (.int p2)] [(.int p1)])) _
      refine XS.iloadN X0.here hx rfl (hb hby d1_1) rfl ?_
      show Steps p.tables e below (s₁.setTop (mkF m 2 #[.val (.int p1), .val (.int p2)] [(.int p2), (.int p1)])) _
      refine XS.icmpYes X0.here hx rfl (pc0 := 2) (pc' := 9) rfl (hb hby d1_2) rfl (tlt hc2).1 (by decide) (by decide) ?_
      show Steps p.tables e below (s₁.setTop (mkF m 9 #[.val (.int p1), .val (.int p2)] [])) _
      refine XS.iloadN X0.here hx rfl (hb hby d1_9) rfl ?_
      show Steps p.tables e below (s₁.setTop (mkF m 10 #[.val (.int p1), .val (.int p2)] [(.int p2)])) _
      exact kt
    obtain ⟨fs, hr, hrun, hended, hW, hsame⟩ := X0.leave (v := some (.int p2)) (fun h => by rw [Bd.returns] at h; cases h)
    refine ⟨_, _, pre1 _ ?_, hrun, hended, _, _, rfl, ?_, ⟨_, rfl⟩, hW, hsame.mono (by decide) (by decide)⟩
    · exact retI X0 hx Bd.returns (hb hby d1_10) hr
    · show Q1 Z p1 p2 h0 n0 _ s₁.heap _
      rw [e0]
      exact ⟨by first | rfl | (simp only [r1, if_pos hc2]), N0, rfl⟩
  · skip
    have pre2 : ∀ t, Steps p.tables e below (s₁.setTop (mkF m 10 #[.val (.int p1), .val (.int p2)] [(.int p1)])) t → Steps p.tables e below (s₁.setTop (entryFrame m #[(.int p1), (.int p2)] 2)) t := fun t kt => by
      refine pre0 t ?_
      refine XS.iloadN X0.here hx rfl (hb hby d1_0) rfl ?_
      show Steps p.tables e below (s₁.setTop (mkF m 1 #[.val (.int p1), .val (.int p2)] [(.int p1)])) _
      refine XS.iloadN X0.here hx rfl (hb hby d1_1) rfl ?_
      show Steps p.tables e below (s₁.setTop (mkF m 2 #[.val (.int p1), .val (.int p2)] [(.int p2), (.int p1)])) _
      refine XS.icmpNo X0.here hx rfl (hb hby d1_2) rfl (flt hc2).1 ?_
      show Steps p.tables e below (s₁.setTop (mkF m 5 #[.val (.int p1), .val (.int p2)] [])) _
      refine XS.iloadN X0.here hx rfl (hb hby d1_5) rfl ?_
      show Steps p.tables e below (s₁.setTop (mkF m 6 #[.val (.int p1), .val (.int p2)] [(.int p1)])) _
      refine XS.goto X0.here hx rfl (pc0 := 6) (pc' := 10) rfl (hb hby d1_6) (by decide) (by decide) ?_
      show Steps p.tables e below (s₁.setTop (mkF m 10 #[.val (.int p1), .val (.int p2)] [(.int p1)])) _
      exact kt
    obtain ⟨fs, hr, hrun, hended, hW, hsame⟩ := X0.leave (v := some (.int p1)) (fun h => by rw [Bd.returns] at h; cases h)
    refine ⟨_, _, pre2 _ ?_, hrun, hended, _, _, rfl, ?_, ⟨_, rfl⟩, hW, hsame.mono (by decide) (by decide)⟩
    · exact retI X0 hx Bd.returns (hb hby d1_10) hr
    · show Q1 Z p1 p2 h0 n0 _ s₁.heap _
      rw [e0]
      exact ⟨by first | rfl | (simp only [r1, if_neg hc2]), N0, rfl⟩
theorem d2_0 : decode prog_3_method_1_code 0 = .ok (.aload_n 0, 1) := by decide +kernel
theorem d2_1 : decode prog_3_method_1_code 1 = .ok (.invokespecial 1, 3) := by decide +kernel
theorem d2_4 : decode prog_3_method_1_code 4 = .ok (.aload_n 0, 1) := by decide +kernel
theorem d2_5 : decode prog_3_method_1_code 5 = .ok (.bipush 16, 2) := by decide +kernel
theorem d2_7 : decode prog_3_method_1_code 7 = .ok (.newarray .long, 2) := by decide +kernel
theorem d2_9 : decode prog_3_method_1_code 9 = .ok (.putfield 7, 3) := by decide +kernel
theorem d2_12 : decode prog_3_method_1_code 12 = .ok (.iload_n 1, 1) := by decide +kernel
theorem d2_13 : decode prog_3_method_1_code 13 = .ok (.ifCond .ge 17, 3) := by decide +kernel
theorem d2_30 : decode prog_3_method_1_code 30 = .ok (.aload_n 0, 1) := by decide +kernel
theorem d2_31 : decode prog_3_method_1_code 31 = .ok (.iload_n 1, 1) := by decide +kernel
theorem d2_32 : decode prog_3_method_1_code 32 = .ok (.putfield 22, 3) := by decide +kernel
theorem d2_35 : decode prog_3_method_1_code 35 = .ok (.return_, 1) := by decide +kernel
theorem pn_com_example_hit_span_ranker_hitspanranker_chain_HitChain_Builder : plainName "com/example/hit_span_ranker/hitspanranker/chain/HitChain$Builder" = true := by first | (simp [plainName, overriddenIn]; done) | decide +kernel
theorem ef_2 (m : MethodId) (x0 : Addr) (x1 : Int32) : entryFrame m #[(.ref x0), (.int x1)] 2 = mkF m 0 #[.val (.ref x0), .val (.int x1)] [] := by first | (simp [entryFrame, mkF, argsToLocals, Value.category]; done) | rfl
def Q2 (Z : State) (a1 : Addr) (p2 : Int32) (u_hits_a1 : Value) (u_words_a1 : Value) (h0 : Heap) (n0 : Nat) (v : Option Value) (h : Heap) (L : List Loc) : Prop := ∃ fx1 : Addr, v = none ∧ Fr n0 L ∧ Keep h0 h [a1] ∧ h0.size ≤ fx1 ∧ Exa Z h a1 "com/example/hit_span_ranker/hitspanranker/chain/HitChain$Builder" ∧ Fld Z h a1 "com/example/hit_span_ranker/hitspanranker/chain/HitChain$Builder" "hits" "[J" (.ref fx1) ∧ Fld Z h a1 "com/example/hit_span_ranker/hitspanranker/chain/HitChain$Builder" "size" "I" (.int (0 : Int32)) ∧ Fld Z h a1 "com/example/hit_span_ranker/hitspanranker/chain/HitChain$Builder" "words" "I" (.int p2) ∧ Arf Z h fx1 .long (16 : Int32) (fun i => (.long ((fun _ => (0 : Int64)) i)))
set_option maxRecDepth 65536 in
set_option maxHeartbeats 40000000 in
theorem rm2 (l : Launch) (Z : State) (a0 : Array Value) (hw : ∀ d ∈ tables_1, d.before a0 Z = true) (ws : List Jvm.Cond) (a1 : Addr) (p2 : Int32) (u_hits_a1 : Value) (u_words_a1 : Value) (h0 : Heap) (n0 : Nat) (Z0 : n0 ≤ h0.size) (F_size_a1 : Fld Z h0 a1 "com/example/hit_span_ranker/hitspanranker/chain/HitChain$Builder" "size" "I" (.int (0 : Int32))) (E_a1 : Exa Z h0 a1 "com/example/hit_span_ranker/hitspanranker/chain/HitChain$Builder") (F_hits_a1 : Fld Z h0 a1 "com/example/hit_span_ranker/hitspanranker/chain/HitChain$Builder" "hits" "[J" u_hits_a1) (g_a1 : n0 ≤ a1) (F_words_a1 : Fld Z h0 a1 "com/example/hit_span_ranker/hitspanranker/chain/HitChain$Builder" "words" "I" u_words_a1) (hA : ¬ (p2 < (0 : Int32))) :
    MetFree l (⟨"com/example/hit_span_ranker/hitspanranker/chain/HitChain$Builder", "<init>", "(I)V"⟩ : MethodName) (head1 (Jvm.Cond.code (⟨"com/example/hit_span_ranker/hitspanranker/chain/HitChain$Builder", "<init>", "(I)V"⟩ : MethodName) prog_3_method_1_code 2 none :: ws) ({ frames := 1, cells := 1, slots := 16, locals := 12 } : Room)) (fun a U => a = #[(.ref a1), (.int p2)] ∧ Z.Warmed39 U.vm ∧ U.heap = h0) (fun _ _ _ _ _ => True) (fun _ U o U' => ∃ v L, o = .returned v ∧ Q2 Z a1 p2 u_hits_a1 u_words_a1 h0 n0 v U'.heap L ∧ FrameEnd U o U' L ({ frames := 1, cells := 1, slots := 16, locals := 12 } : Room).cells ({ frames := 1, cells := 1, slots := 16, locals := 12 } : Room).slots) := by
  refine MetFree.of_bodySF (plainFor_of_name pn_com_example_hit_span_ranker_hitspanranker_chain_HitChain_Builder) hisR ?_
  intro p e s m args below meth c s₁ Bd hml0 hP hK
  obtain ⟨rfl, hZ, hh⟩ := hP
  have hx := Bd.exec
  have hby := Bd.bytes
  have hml : c.maxLocals = 2 := hml0
  have hown : s.vm.findClass "com/example/hit_span_ranker/hitspanranker/chain/HitChain$Builder" = some m.cls := findClass_of_methodNamed Bd.named
  have hnm := (name_of_methodNamed Bd.named Bd.method).1
  have X0 : Stand p l e ({ frames := 1, cells := 1, slots := 16, locals := 12 } : Room) s m #[(.ref a1), (.int p2)] below meth c s₁ [] 0 0 := Stand.of_body Bd
  have e0 : s₁.heap = h0 := by rw [← hh, Bd.state]; rfl
  have N0 := Fr.nil n0
  have pre0 : ∀ t, Steps p.tables e below (s₁.setTop (mkF m 0 #[.val (.ref a1), .val (.int p2)] [])) t → Steps p.tables e below (s₁.setTop (entryFrame m #[(.ref a1), (.int p2)] 2)) t := fun t k => castTop (ef_2 m a1 p2) k
  have pre1 : ∀ t, Steps p.tables e below (s₁.setTop (mkF m 1 #[.val (.ref a1), .val (.int p2)] [(.ref a1)])) t → Steps p.tables e below (s₁.setTop (entryFrame m #[(.ref a1), (.int p2)] 2)) t := fun t kt => by
    refine pre0 t ?_
    refine XS.aloadN X0.here hx rfl (hb hby d2_0) rfl rfl ?_
    show Steps p.tables e below (s₁.setTop (mkF m 1 #[.val (.ref a1), .val (.int p2)] [(.ref a1)])) _
    exact kt
  obtain ⟨T2, X2, e2, st2⟩ := initO X0 hx hZ hown (hw _ (mgE 11 rfl)) (hw _ (mgE 12 rfl)) (hw _ (mgE 13 rfl)) e0 (g := (mkF m 1 #[.val (.ref a1), .val (.int p2)] [(.ref a1)])) rfl (by rw [hml]; rfl) rfl (hb hby d2_1) (by decide) (W := 0) (by show 2 * 0 + _ ≤ _; exact Nat.le_of_eq rfl) (by decide)
  have pre3 : ∀ t, Steps p.tables e below (T2.setTop (mkF m 4 #[.val (.ref a1), .val (.int p2)] [])) t → Steps p.tables e below (s₁.setTop (entryFrame m #[(.ref a1), (.int p2)] 2)) t := fun t kt => pre1 t (st2 t kt)
  have pre4 : ∀ t, Steps p.tables e below (T2.setTop (mkF m 7 #[.val (.ref a1), .val (.int p2)] [(.int (16 : Int32)), (.ref a1)])) t → Steps p.tables e below (s₁.setTop (entryFrame m #[(.ref a1), (.int p2)] 2)) t := fun t kt => by
    refine pre3 t ?_
    refine XS.aloadN X2.here hx rfl (hb hby d2_4) rfl rfl ?_
    show Steps p.tables e below (T2.setTop (mkF m 5 #[.val (.ref a1), .val (.int p2)] [(.ref a1)])) _
    refine XS.bipush X2.here hx rfl (hb hby d2_5) ?_
    show Steps p.tables e below (T2.setTop (mkF m 7 #[.val (.ref a1), .val (.int p2)] [(.int (16 : Int32)), (.ref a1)])) _
    exact kt
  obtain ⟨T5, h5, k5, X5, e5, E5, A5, st5⟩ := newP X2 hx hZ (hw _ (mgE 14 rfl)) e2 (g := (mkF m 7 #[.val (.ref a1), .val (.int p2)] [(.int (16 : Int32)), (.ref a1)])) rfl (hb hby d2_7) rfl (by decide) (cap := 16) (by decide) (by decide) (by decide) (by decide)
  obtain ⟨b5, g5⟩ : ∃ z, z = h0.size := ⟨_, rfl⟩
  rw [← g5] at A5 st5
  have ne_a1_b5 : a1 ≠ b5 := Nat.ne_of_lt (Nat.lt_of_lt_of_le F_size_a1.lt (Nat.le_of_eq g5.symm))
  have sz_b5 : h0.size ≤ b5 := Nat.le_trans (Keep.refl h0 [a1]).1 (Nat.le_of_eq g5.symm)
  have K5 : Keep h0 h5 [a1] := (Keep.refl h0 [a1]).ext E5
  have F6_5 := F_size_a1.ext E5
  have F7_5 := E_a1.ext E5
  have F8_5 := F_hits_a1.ext E5
  have F9_5 := F_words_a1.ext E5
  have V_b5 : Arf Z h5 b5 .long (16 : Int32) (fun i => (.long ((fun _ => (0 : Int64)) i))) := Arf.new A5 (by decide)
  have pre10 : ∀ t, Steps p.tables e below (T5.setTop (mkF m 9 #[.val (.ref a1), .val (.int p2)] [(.ref b5), (.ref a1)])) t → Steps p.tables e below (s₁.setTop (entryFrame m #[(.ref a1), (.int p2)] 2)) t := fun t kt => pre4 t (st5 t kt)
  obtain ⟨T11, h11, X11, e11, W11, st11⟩ := putF X5 hx hZ hown (host := "") (Or.inl (hw _ (mgE 15 rfl))) Via.refl e5 F8_5 F7_5 (Or.inl (hw _ (mgE 16 rfl))) (hw _ (mgE 6 rfl)) (ty := (.array .long)) (by decide) rfl rfl (g := (mkF m 9 #[.val (.ref a1), .val (.int p2)] [(.ref b5), (.ref a1)])) rfl rfl (hb hby d2_9)
  have F12_11 := F6_5.other W11 (Or.inr (slot_ne (Or.inl (hw _ (mgE 25 rfl))) (Or.inl (hw _ (mgE 16 rfl))) (by decide) (t := .int) (t' := (.array .long)) (by decide) (by decide)))
  have F13_11 := F7_5.wr W11
  have F15_11 := F9_5.other W11 (Or.inr (slot_ne (Or.inr (hw _ (mgE 18 rfl))) (Or.inl (hw _ (mgE 16 rfl))) (by decide) (t := .int) (t' := (.array .long)) (by decide) (by decide)))
  have F16_11 := V_b5.other W11 (Ne.symm ne_a1_b5)
  have Fw11 := F8_5.same W11
  have K11 : Keep h0 h11 [a1] := K5.wr W11 (Or.inl (mgE 0 rfl))
  have pre17 : ∀ t, Steps p.tables e below (T11.setTop (mkF m 12 #[.val (.ref a1), .val (.int p2)] [])) t → Steps p.tables e below (s₁.setTop (entryFrame m #[(.ref a1), (.int p2)] 2)) t := fun t kt => pre10 t (st11 t kt)
  have N11 := Fr.snoc X11 N0 g_a1
  have hc13 : ¬ (p2 < (0 : Int32)) := hA
  have pre18 : ∀ t, Steps p.tables e below (T11.setTop (mkF m 32 #[.val (.ref a1), .val (.int p2)] [(.int p2), (.ref a1)])) t → Steps p.tables e below (s₁.setTop (entryFrame m #[(.ref a1), (.int p2)] 2)) t := fun t kt => by
    refine pre17 t ?_
    refine XS.iloadN X11.here hx rfl (hb hby d2_12) rfl ?_
    show Steps p.tables e below (T11.setTop (mkF m 13 #[.val (.ref a1), .val (.int p2)] [(.int p2)])) _
    refine XS.ifYes X11.here hx rfl (pc0 := 13) (pc' := 30) rfl (hb hby d2_13) rfl ((if0 _ _).trans (flt hc13).2.1) (by decide) (by decide) ?_
    show Steps p.tables e below (T11.setTop (mkF m 30 #[.val (.ref a1), .val (.int p2)] [])) _
    refine XS.aloadN X11.here hx rfl (hb hby d2_30) rfl rfl ?_
    show Steps p.tables e below (T11.setTop (mkF m 31 #[.val (.ref a1), .val (.int p2)] [(.ref a1)])) _
    refine XS.iloadN X11.here hx rfl (hb hby d2_31) rfl ?_
    show Steps p.tables e below (T11.setTop (mkF m 32 #[.val (.ref a1), .val (.int p2)] [(.int p2), (.ref a1)])) _
    exact kt
  obtain ⟨T19, h19, X19, e19, W19, st19⟩ := putF X11 hx hZ hown (host := "") (Or.inl (hw _ (mgE 17 rfl))) Via.refl e11 F15_11 F13_11 (Or.inr ⟨(hw _ (mgE 18 rfl)), rfl, hnm⟩) (hw _ (mgE 6 rfl)) (ty := .int) (by decide) rfl rfl (g := (mkF m 32 #[.val (.ref a1), .val (.int p2)] [(.int p2), (.ref a1)])) rfl rfl (hb hby d2_32)
  have F20_19 := F12_11.other W19 (Or.inr (slot_ne (Or.inl (hw _ (mgE 25 rfl))) (Or.inr (hw _ (mgE 18 rfl))) (by decide) (t := .int) (t' := .int) (by decide) (by decide)))
  have F21_19 := F13_11.wr W19
  have F22_19 := Fw11.other W19 (Or.inr (slot_ne (Or.inl (hw _ (mgE 16 rfl))) (Or.inr (hw _ (mgE 18 rfl))) (by decide) (t := (.array .long)) (t' := .int) (by decide) (by decide)))
  have F24_19 := F16_11.other W19 (Ne.symm ne_a1_b5)
  have Fw19 := F15_11.same W19
  have K19 : Keep h0 h19 [a1] := K11.wr W19 (Or.inl (mgE 0 rfl))
  have pre25 : ∀ t, Steps p.tables e below (T19.setTop (mkF m 35 #[.val (.ref a1), .val (.int p2)] [])) t → Steps p.tables e below (s₁.setTop (entryFrame m #[(.ref a1), (.int p2)] 2)) t := fun t kt => pre18 t (st19 t kt)
  have N19 := Fr.snoc X19 N11 g_a1
  obtain ⟨fs, hr, hrun, hended, hW, hsame⟩ := X19.leave (v := none) (fun _ => rfl)
  refine ⟨_, _, pre25 _ ?_, hrun, hended, _, _, rfl, ?_, ⟨_, rfl⟩, hW, hsame.mono (by decide) (by decide)⟩
  · exact X19.returnOut hx Bd.returns (hb hby d2_35) hr
  · show Q2 Z a1 p2 u_hits_a1 u_words_a1 h0 n0 _ T19.heap _
    rw [e19]
    exact ⟨b5, rfl, N19, K19, sz_b5, F21_19, F22_19, F20_19, Fw19, F24_19⟩
theorem d4_0 : decode prog_3_method_2_code 0 = .ok (.iload_n 1, 1) := by decide +kernel
theorem d4_1 : decode prog_3_method_2_code 1 = .ok (.ifCond .lt 11, 3) := by decide +kernel
theorem d4_4 : decode prog_3_method_2_code 4 = .ok (.iload_n 1, 1) := by decide +kernel
theorem d4_5 : decode prog_3_method_2_code 5 = .ok (.aload_n 0, 1) := by decide +kernel
theorem d4_6 : decode prog_3_method_2_code 6 = .ok (.getfield 22, 3) := by decide +kernel
theorem d4_9 : decode prog_3_method_2_code 9 = .ok (.if_icmp .lt 21, 3) := by decide +kernel
theorem d4_30 : decode prog_3_method_2_code 30 = .ok (.aload_n 0, 1) := by decide +kernel
theorem d4_31 : decode prog_3_method_2_code 31 = .ok (.getfield 29, 3) := by decide +kernel
theorem d4_34 : decode prog_3_method_2_code 34 = .ok (.aload_n 0, 1) := by decide +kernel
theorem d4_35 : decode prog_3_method_2_code 35 = .ok (.getfield 7, 3) := by decide +kernel
theorem d4_38 : decode prog_3_method_2_code 38 = .ok (.arraylength, 1) := by decide +kernel
theorem d4_39 : decode prog_3_method_2_code 39 = .ok (.if_icmp .ne 20, 3) := by decide +kernel
theorem d4_59 : decode prog_3_method_2_code 59 = .ok (.aload_n 0, 1) := by decide +kernel
theorem d4_60 : decode prog_3_method_2_code 60 = .ok (.getfield 7, 3) := by decide +kernel
theorem d4_63 : decode prog_3_method_2_code 63 = .ok (.aload_n 0, 1) := by decide +kernel
theorem d4_64 : decode prog_3_method_2_code 64 = .ok (.dup, 1) := by decide +kernel
theorem d4_65 : decode prog_3_method_2_code 65 = .ok (.getfield 29, 3) := by decide +kernel
theorem d4_68 : decode prog_3_method_2_code 68 = .ok (.dup_x1, 1) := by decide +kernel
theorem d4_69 : decode prog_3_method_2_code 69 = .ok (.iconst 1, 1) := by decide +kernel
theorem d4_70 : decode prog_3_method_2_code 70 = .ok (.iadd, 1) := by decide +kernel
theorem d4_71 : decode prog_3_method_2_code 71 = .ok (.putfield 29, 3) := by decide +kernel
theorem d4_74 : decode prog_3_method_2_code 74 = .ok (.iload_n 2, 1) := by decide +kernel
theorem d4_75 : decode prog_3_method_2_code 75 = .ok (.i2l, 1) := by decide +kernel
theorem d4_76 : decode prog_3_method_2_code 76 = .ok (.bipush 32, 2) := by decide +kernel
theorem d4_78 : decode prog_3_method_2_code 78 = .ok (.lshl, 1) := by decide +kernel
theorem d4_79 : decode prog_3_method_2_code 79 = .ok (.iload_n 1, 1) := by decide +kernel
theorem d4_80 : decode prog_3_method_2_code 80 = .ok (.i2l, 1) := by decide +kernel
theorem d4_81 : decode prog_3_method_2_code 81 = .ok (.lor, 1) := by decide +kernel
theorem d4_82 : decode prog_3_method_2_code 82 = .ok (.lastore, 1) := by decide +kernel
theorem d4_83 : decode prog_3_method_2_code 83 = .ok (.return_, 1) := by decide +kernel
theorem ef_4s0 (m : MethodId) (x0 : Addr) (x1 : Int32) (x2 : Int32) : entryFrame m #[(.ref x0), (.int x1), (.int x2)] 3 = mkF m 0 #[.val (.ref x0), .val (.int x1), .val (.int x2)] [] := by first | (simp [entryFrame, mkF, argsToLocals, Value.category]; done) | rfl
def Q4s0 (Z : State) (a1 : Addr) (p2 : Int32) (p3 : Int32) (w_hits_a1 : Addr) (el_w_hits_a1 : Nat → Int64) (w_words_a1 : Int32) (h0 : Heap) (n0 : Nat) (v : Option Value) (h : Heap) (L : List Loc) : Prop := v = none ∧ Fr n0 L ∧ Keep h0 h [a1, w_hits_a1] ∧ Exa Z h a1 "com/example/hit_span_ranker/hitspanranker/chain/HitChain$Builder" ∧ Fld Z h a1 "com/example/hit_span_ranker/hitspanranker/chain/HitChain$Builder" "hits" "[J" (.ref w_hits_a1) ∧ Fld Z h a1 "com/example/hit_span_ranker/hitspanranker/chain/HitChain$Builder" "size" "I" (.int (1 : Int32)) ∧ Fld Z h a1 "com/example/hit_span_ranker/hitspanranker/chain/HitChain$Builder" "words" "I" (.int w_words_a1) ∧ Arf Z h w_hits_a1 .long (16 : Int32) (fun i => (.long ((own_upd el_w_hits_a1 ((0 : Int32)).toNatClampNeg (((p3.toInt64) <<< ((32 : Int32) &&& 0x3f).toInt64) ||| (p2.toInt64))) i)))
set_option maxRecDepth 65536 in
set_option maxHeartbeats 40000000 in
theorem rm4s0 (l : Launch) (Z : State) (a0 : Array Value) (hw : ∀ d ∈ tables_1, d.before a0 Z = true) (ws : List Jvm.Cond) (a1 : Addr) (p2 : Int32) (p3 : Int32) (w_hits_a1 : Addr) (el_w_hits_a1 : Nat → Int64) (w_words_a1 : Int32) (h0 : Heap) (n0 : Nat) (Z0 : n0 ≤ h0.size) (F_size_a1 : Fld Z h0 a1 "com/example/hit_span_ranker/hitspanranker/chain/HitChain$Builder" "size" "I" (.int (0 : Int32))) (F_hits_a1 : Fld Z h0 a1 "com/example/hit_span_ranker/hitspanranker/chain/HitChain$Builder" "hits" "[J" (.ref w_hits_a1)) (V_w_hits_a1 : Arf Z h0 w_hits_a1 .long (16 : Int32) (fun i => (.long (el_w_hits_a1 i)))) (F_words_a1 : Fld Z h0 a1 "com/example/hit_span_ranker/hitspanranker/chain/HitChain$Builder" "words" "I" (.int w_words_a1)) (E_a1 : Exa Z h0 a1 "com/example/hit_span_ranker/hitspanranker/chain/HitChain$Builder") (g_a1 : n0 ≤ a1) (ne_w_hits_a1_a1 : w_hits_a1 ≠ a1) (g_w_hits_a1 : n0 ≤ w_hits_a1) (hA : ¬ (p2 < (0 : Int32))) (hB : p2 < w_words_a1) :
    MetFree l (⟨"com/example/hit_span_ranker/hitspanranker/chain/HitChain$Builder", "add", "(II)V"⟩ : MethodName) (head1 (Jvm.Cond.code (⟨"com/example/hit_span_ranker/hitspanranker/chain/HitChain$Builder", "add", "(II)V"⟩ : MethodName) prog_3_method_2_code 3 none :: ws) ({ frames := 0, cells := 0, slots := 0, locals := 0 } : Room)) (fun a U => a = #[(.ref a1), (.int p2), (.int p3)] ∧ Z.Warmed39 U.vm ∧ U.heap = h0) (fun _ _ _ _ _ => True) (fun _ U o U' => ∃ v L, o = .returned v ∧ Q4s0 Z a1 p2 p3 w_hits_a1 el_w_hits_a1 w_words_a1 h0 n0 v U'.heap L ∧ FrameEnd U o U' L ({ frames := 0, cells := 0, slots := 0, locals := 0 } : Room).cells ({ frames := 0, cells := 0, slots := 0, locals := 0 } : Room).slots) := by
  refine MetFree.of_bodySF (plainFor_of_name pn_com_example_hit_span_ranker_hitspanranker_chain_HitChain_Builder) hisR ?_
  intro p e s m args below meth c s₁ Bd hml0 hP hK
  obtain ⟨rfl, hZ, hh⟩ := hP
  have hx := Bd.exec
  have hby := Bd.bytes
  have hml : c.maxLocals = 3 := hml0
  have hown : s.vm.findClass "com/example/hit_span_ranker/hitspanranker/chain/HitChain$Builder" = some m.cls := findClass_of_methodNamed Bd.named
  have hnm := (name_of_methodNamed Bd.named Bd.method).1
  have X0 : Stand p l e ({ frames := 0, cells := 0, slots := 0, locals := 0 } : Room) s m #[(.ref a1), (.int p2), (.int p3)] below meth c s₁ [] 0 0 := Stand.of_body Bd
  have e0 : s₁.heap = h0 := by rw [← hh, Bd.state]; rfl
  have N0 := Fr.nil n0
  have pre0 : ∀ t, Steps p.tables e below (s₁.setTop (mkF m 0 #[.val (.ref a1), .val (.int p2), .val (.int p3)] [])) t → Steps p.tables e below (s₁.setTop (entryFrame m #[(.ref a1), (.int p2), (.int p3)] 3)) t := fun t k => castTop (ef_4s0 m a1 p2 p3) k
  have hc1 : ¬ (p2 < (0 : Int32)) := hA
  have pre1 : ∀ t, Steps p.tables e below (s₁.setTop (mkF m 6 #[.val (.ref a1), .val (.int p2), .val (.int p3)] [(.ref a1), (.int p2)])) t → Steps p.tables e below (s₁.setTop (entryFrame m #[(.ref a1), (.int p2), (.int p3)] 3)) t := fun t kt => by
    refine pre0 t ?_
    refine XS.iloadN X0.here hx rfl (hb hby d4_0) rfl ?_
    show Steps p.tables e below (s₁.setTop (mkF m 1 #[.val (.ref a1), .val (.int p2), .val (.int p3)] [(.int p2)])) _
    refine XS.ifNo X0.here hx rfl (hb hby d4_1) rfl ((if0 _ _).trans (flt hc1).1) ?_
    show Steps p.tables e below (s₁.setTop (mkF m 4 #[.val (.ref a1), .val (.int p2), .val (.int p3)] [])) _
    refine XS.iloadN X0.here hx rfl (hb hby d4_4) rfl ?_
    show Steps p.tables e below (s₁.setTop (mkF m 5 #[.val (.ref a1), .val (.int p2), .val (.int p3)] [(.int p2)])) _
    refine XS.aloadN X0.here hx rfl (hb hby d4_5) rfl rfl ?_
    show Steps p.tables e below (s₁.setTop (mkF m 6 #[.val (.ref a1), .val (.int p2), .val (.int p3)] [(.ref a1), (.int p2)])) _
    exact kt
  obtain ⟨T2, X2, e2, st2⟩ := getF X0 hx hZ hown (host := "") (Or.inl (hw _ (mgE 17 rfl))) Via.refl e0 F_words_a1 (g := (mkF m 6 #[.val (.ref a1), .val (.int p2), .val (.int p3)] [(.ref a1), (.int p2)])) rfl rfl (hb hby d4_6)
  have pre3 : ∀ t, Steps p.tables e below (T2.setTop (mkF m 9 #[.val (.ref a1), .val (.int p2), .val (.int p3)] [(.int w_words_a1), (.int p2)])) t → Steps p.tables e below (s₁.setTop (entryFrame m #[(.ref a1), (.int p2), (.int p3)] 3)) t := fun t kt => pre1 t (st2 t kt)
  have hc9 : p2 < w_words_a1 := hB
  have pre4 : ∀ t, Steps p.tables e below (T2.setTop (mkF m 31 #[.val (.ref a1), .val (.int p2), .val (.int p3)] [(.ref a1)])) t → Steps p.tables e below (s₁.setTop (entryFrame m #[(.ref a1), (.int p2), (.int p3)] 3)) t := fun t kt => by
    refine pre3 t ?_
    refine XS.icmpYes X2.here hx rfl (pc0 := 9) (pc' := 30) rfl (hb hby d4_9) rfl (tlt hc9).1 (by decide) (by decide) ?_
    show Steps p.tables e below (T2.setTop (mkF m 30 #[.val (.ref a1), .val (.int p2), .val (.int p3)] [])) _
    refine XS.aloadN X2.here hx rfl (hb hby d4_30) rfl rfl ?_
    show Steps p.tables e below (T2.setTop (mkF m 31 #[.val (.ref a1), .val (.int p2), .val (.int p3)] [(.ref a1)])) _
    exact kt
  obtain ⟨T5, X5, e5, st5⟩ := getF X2 hx hZ hown (host := "") (Or.inl (hw _ (mgE 24 rfl))) Via.refl e2 F_size_a1 (g := (mkF m 31 #[.val (.ref a1), .val (.int p2), .val (.int p3)] [(.ref a1)])) rfl rfl (hb hby d4_31)
  have pre6 : ∀ t, Steps p.tables e below (T5.setTop (mkF m 34 #[.val (.ref a1), .val (.int p2), .val (.int p3)] [(.int (0 : Int32))])) t → Steps p.tables e below (s₁.setTop (entryFrame m #[(.ref a1), (.int p2), (.int p3)] 3)) t := fun t kt => pre4 t (st5 t kt)
  have pre7 : ∀ t, Steps p.tables e below (T5.setTop (mkF m 35 #[.val (.ref a1), .val (.int p2), .val (.int p3)] [(.ref a1), (.int (0 : Int32))])) t → Steps p.tables e below (s₁.setTop (entryFrame m #[(.ref a1), (.int p2), (.int p3)] 3)) t := fun t kt => by
    refine pre6 t ?_
    refine XS.aloadN X5.here hx rfl (hb hby d4_34) rfl rfl ?_
    show Steps p.tables e below (T5.setTop (mkF m 35 #[.val (.ref a1), .val (.int p2), .val (.int p3)] [(.ref a1), (.int (0 : Int32))])) _
    exact kt
  obtain ⟨T8, X8, e8, st8⟩ := getF X5 hx hZ hown (host := "") (Or.inl (hw _ (mgE 15 rfl))) Via.refl e5 F_hits_a1 (g := (mkF m 35 #[.val (.ref a1), .val (.int p2), .val (.int p3)] [(.ref a1), (.int (0 : Int32))])) rfl rfl (hb hby d4_35)
  have pre9 : ∀ t, Steps p.tables e below (T8.setTop (mkF m 38 #[.val (.ref a1), .val (.int p2), .val (.int p3)] [(.ref w_hits_a1), (.int (0 : Int32))])) t → Steps p.tables e below (s₁.setTop (entryFrame m #[(.ref a1), (.int p2), (.int p3)] 3)) t := fun t kt => pre7 t (st8 t kt)
  obtain ⟨cl10, Ar10, S10, Ng10, H10⟩ := id V_w_hits_a1
  have pre11 : ∀ t, Steps p.tables e below (T8.setTop (mkF m 60 #[.val (.ref a1), .val (.int p2), .val (.int p3)] [(.ref a1)])) t → Steps p.tables e below (s₁.setTop (entryFrame m #[(.ref a1), (.int p2), (.int p3)] 3)) t := fun t kt => by
    refine pre9 t ?_
    refine X8.arraylength hx (by rw [e8]; exact Ar10.1) (State.isArrayOf_alike hZ.alike Ar10.2.1) (g := (mkF m 38 #[.val (.ref a1), .val (.int p2), .val (.int p3)] [(.ref w_hits_a1), (.int (0 : Int32))])) rfl rfl (hb hby d4_38) _ ?_
    rw [len_of S10 Ng10]
    show Steps p.tables e below (T8.setTop (mkF m 39 #[.val (.ref a1), .val (.int p2), .val (.int p3)] [(.int (16 : Int32)), (.int (0 : Int32))])) _
    refine XS.icmpYes X8.here hx rfl (pc0 := 39) (pc' := 59) rfl (hb hby d4_39) rfl (feq (by decide : ¬ ((0 : Int32) = (16 : Int32)))).2 (by decide) (by decide) ?_
    show Steps p.tables e below (T8.setTop (mkF m 59 #[.val (.ref a1), .val (.int p2), .val (.int p3)] [])) _
    refine XS.aloadN X8.here hx rfl (hb hby d4_59) rfl rfl ?_
    show Steps p.tables e below (T8.setTop (mkF m 60 #[.val (.ref a1), .val (.int p2), .val (.int p3)] [(.ref a1)])) _
    exact kt
  obtain ⟨T12, X12, e12, st12⟩ := getF X8 hx hZ hown (host := "") (Or.inl (hw _ (mgE 15 rfl))) Via.refl e8 F_hits_a1 (g := (mkF m 60 #[.val (.ref a1), .val (.int p2), .val (.int p3)] [(.ref a1)])) rfl rfl (hb hby d4_60)
  have pre13 : ∀ t, Steps p.tables e below (T12.setTop (mkF m 63 #[.val (.ref a1), .val (.int p2), .val (.int p3)] [(.ref w_hits_a1)])) t → Steps p.tables e below (s₁.setTop (entryFrame m #[(.ref a1), (.int p2), (.int p3)] 3)) t := fun t kt => pre11 t (st12 t kt)
  have pre14 : ∀ t, Steps p.tables e below (T12.setTop (mkF m 65 #[.val (.ref a1), .val (.int p2), .val (.int p3)] [(.ref a1), (.ref a1), (.ref w_hits_a1)])) t → Steps p.tables e below (s₁.setTop (entryFrame m #[(.ref a1), (.int p2), (.int p3)] 3)) t := fun t kt => by
    refine pre13 t ?_
    refine XS.aloadN X12.here hx rfl (hb hby d4_63) rfl rfl ?_
    show Steps p.tables e below (T12.setTop (mkF m 64 #[.val (.ref a1), .val (.int p2), .val (.int p3)] [(.ref a1), (.ref w_hits_a1)])) _
    refine XS.dup X12.here hx rfl (hb hby d4_64) rfl rfl ?_
    show Steps p.tables e below (T12.setTop (mkF m 65 #[.val (.ref a1), .val (.int p2), .val (.int p3)] [(.ref a1), (.ref a1), (.ref w_hits_a1)])) _
    exact kt
  obtain ⟨T15, X15, e15, st15⟩ := getF X12 hx hZ hown (host := "") (Or.inl (hw _ (mgE 24 rfl))) Via.refl e12 F_size_a1 (g := (mkF m 65 #[.val (.ref a1), .val (.int p2), .val (.int p3)] [(.ref a1), (.ref a1), (.ref w_hits_a1)])) rfl rfl (hb hby d4_65)
  have pre16 : ∀ t, Steps p.tables e below (T15.setTop (mkF m 68 #[.val (.ref a1), .val (.int p2), .val (.int p3)] [(.int (0 : Int32)), (.ref a1), (.ref w_hits_a1)])) t → Steps p.tables e below (s₁.setTop (entryFrame m #[(.ref a1), (.int p2), (.int p3)] 3)) t := fun t kt => pre14 t (st15 t kt)
  have pre17 : ∀ t, Steps p.tables e below (T15.setTop (mkF m 71 #[.val (.ref a1), .val (.int p2), .val (.int p3)] [(.int (1 : Int32)), (.ref a1), (.int (0 : Int32)), (.ref w_hits_a1)])) t → Steps p.tables e below (s₁.setTop (entryFrame m #[(.ref a1), (.int p2), (.int p3)] 3)) t := fun t kt => by
    refine pre16 t ?_
    refine XS.dupX1 X15.here hx rfl (hb hby d4_68) rfl rfl rfl ?_
    show Steps p.tables e below (T15.setTop (mkF m 69 #[.val (.ref a1), .val (.int p2), .val (.int p3)] [(.int (0 : Int32)), (.ref a1), (.int (0 : Int32)), (.ref w_hits_a1)])) _
    refine XS.iconst X15.here hx rfl (hb hby d4_69) ?_
    show Steps p.tables e below (T15.setTop (mkF m 70 #[.val (.ref a1), .val (.int p2), .val (.int p3)] [(.int (1 : Int32)), (.int (0 : Int32)), (.ref a1), (.int (0 : Int32)), (.ref w_hits_a1)])) _
    refine XS.iadd X15.here hx rfl (hb hby d4_70) rfl ?_
    show Steps p.tables e below (T15.setTop (mkF m 71 #[.val (.ref a1), .val (.int p2), .val (.int p3)] [(.int (1 : Int32)), (.ref a1), (.int (0 : Int32)), (.ref w_hits_a1)])) _
    exact kt
  obtain ⟨T18, h18, X18, e18, W18, st18⟩ := putF X15 hx hZ hown (host := "") (Or.inl (hw _ (mgE 24 rfl))) Via.refl e15 F_size_a1 E_a1 (Or.inl (hw _ (mgE 25 rfl))) (hw _ (mgE 6 rfl)) (ty := .int) (by decide) rfl rfl (g := (mkF m 71 #[.val (.ref a1), .val (.int p2), .val (.int p3)] [(.int (1 : Int32)), (.ref a1), (.int (0 : Int32)), (.ref w_hits_a1)])) rfl rfl (hb hby d4_71)
  have F20_18 := F_hits_a1.other W18 (Or.inr (slot_ne (Or.inl (hw _ (mgE 16 rfl))) (Or.inl (hw _ (mgE 25 rfl))) (by decide) (t := (.array .long)) (t' := .int) (by decide) (by decide)))
  have F21_18 := V_w_hits_a1.other W18 ne_w_hits_a1_a1
  have F22_18 := F_words_a1.other W18 (Or.inr (slot_ne (Or.inr (hw _ (mgE 18 rfl))) (Or.inl (hw _ (mgE 25 rfl))) (by decide) (t := .int) (t' := .int) (by decide) (by decide)))
  have F23_18 := E_a1.wr W18
  have Fw18 := F_size_a1.same W18
  have K18 : Keep h0 h18 [a1, w_hits_a1] := (Keep.refl h0 [a1, w_hits_a1]).wr W18 (Or.inl (mgE 0 rfl))
  have pre24 : ∀ t, Steps p.tables e below (T18.setTop (mkF m 74 #[.val (.ref a1), .val (.int p2), .val (.int p3)] [(.int (0 : Int32)), (.ref w_hits_a1)])) t → Steps p.tables e below (s₁.setTop (entryFrame m #[(.ref a1), (.int p2), (.int p3)] 3)) t := fun t kt => pre17 t (st18 t kt)
  have N18 := Fr.snoc X18 N0 g_a1
  have pre25 : ∀ t, Steps p.tables e below (T18.setTop (mkF m 82 #[.val (.ref a1), .val (.int p2), .val (.int p3)] [(.long (((p3.toInt64) <<< ((32 : Int32) &&& 0x3f).toInt64) ||| (p2.toInt64))), (.int (0 : Int32)), (.ref w_hits_a1)])) t → Steps p.tables e below (s₁.setTop (entryFrame m #[(.ref a1), (.int p2), (.int p3)] 3)) t := fun t kt => by
    refine pre24 t ?_
    refine XS.iloadN X18.here hx rfl (hb hby d4_74) rfl ?_
    show Steps p.tables e below (T18.setTop (mkF m 75 #[.val (.ref a1), .val (.int p2), .val (.int p3)] [(.int p3), (.int (0 : Int32)), (.ref w_hits_a1)])) _
    refine XS.i2l X18.here hx rfl (hb hby d4_75) rfl ?_
    show Steps p.tables e below (T18.setTop (mkF m 76 #[.val (.ref a1), .val (.int p2), .val (.int p3)] [(.long (p3.toInt64)), (.int (0 : Int32)), (.ref w_hits_a1)])) _
    refine XS.bipush X18.here hx rfl (hb hby d4_76) ?_
    show Steps p.tables e below (T18.setTop (mkF m 78 #[.val (.ref a1), .val (.int p2), .val (.int p3)] [(.int (32 : Int32)), (.long (p3.toInt64)), (.int (0 : Int32)), (.ref w_hits_a1)])) _
    refine XS.lshl X18.here hx rfl (hb hby d4_78) rfl ?_
    show Steps p.tables e below (T18.setTop (mkF m 79 #[.val (.ref a1), .val (.int p2), .val (.int p3)] [(.long ((p3.toInt64) <<< ((32 : Int32) &&& 0x3f).toInt64)), (.int (0 : Int32)), (.ref w_hits_a1)])) _
    refine XS.iloadN X18.here hx rfl (hb hby d4_79) rfl ?_
    show Steps p.tables e below (T18.setTop (mkF m 80 #[.val (.ref a1), .val (.int p2), .val (.int p3)] [(.int p2), (.long ((p3.toInt64) <<< ((32 : Int32) &&& 0x3f).toInt64)), (.int (0 : Int32)), (.ref w_hits_a1)])) _
    refine XS.i2l X18.here hx rfl (hb hby d4_80) rfl ?_
    show Steps p.tables e below (T18.setTop (mkF m 81 #[.val (.ref a1), .val (.int p2), .val (.int p3)] [(.long (p2.toInt64)), (.long ((p3.toInt64) <<< ((32 : Int32) &&& 0x3f).toInt64)), (.int (0 : Int32)), (.ref w_hits_a1)])) _
    refine XS.lor X18.here hx rfl (hb hby d4_81) rfl ?_
    show Steps p.tables e below (T18.setTop (mkF m 82 #[.val (.ref a1), .val (.int p2), .val (.int p3)] [(.long (((p3.toInt64) <<< ((32 : Int32) &&& 0x3f).toInt64) ||| (p2.toInt64))), (.int (0 : Int32)), (.ref w_hits_a1)])) _
    exact kt
  obtain ⟨cl26, Ar26, S26, Ng26, H26⟩ := id F21_18
  have hj26 : ¬ (0 : Int32) < 0 ∧ (0 : Int32) < (16 : Int32) := ⟨by decide, by decide⟩
  have hin26 := inb_of S26 hj26
  obtain ⟨T27, h27, X27, e27, W27, st27⟩ := stJ X18 hx hZ e18 Ar26 (j := (0 : Int32)) hin26 (g := (mkF m 82 #[.val (.ref a1), .val (.int p2), .val (.int p3)] [(.long (((p3.toInt64) <<< ((32 : Int32) &&& 0x3f).toInt64) ||| (p2.toInt64))), (.int (0 : Int32)), (.ref w_hits_a1)])) rfl rfl (hb hby d4_82)
  have F28_27 := Fw18.other W27 (Or.inl (Ne.symm ne_w_hits_a1_a1))
  have F29_27 := F20_18.other W27 (Or.inl (Ne.symm ne_w_hits_a1_a1))
  have F31_27 := F22_18.other W27 (Or.inl (Ne.symm ne_w_hits_a1_a1))
  have F32_27 := F23_18.wr W27
  have V27_w_hits_a1 : Arf Z h27 w_hits_a1 .long (16 : Int32) (fun i => (.long ((own_upd el_w_hits_a1 ((0 : Int32)).toNatClampNeg (((p3.toInt64) <<< ((32 : Int32) &&& 0x3f).toInt64) ||| (p2.toInt64))) i))) := upd_long _ _ _ ▸ (F21_18.set W27)
  have K27 : Keep h0 h27 [a1, w_hits_a1] := K18.wr W27 (Or.inl (mgE 1 rfl))
  have pre33 : ∀ t, Steps p.tables e below (T27.setTop (mkF m 83 #[.val (.ref a1), .val (.int p2), .val (.int p3)] [])) t → Steps p.tables e below (s₁.setTop (entryFrame m #[(.ref a1), (.int p2), (.int p3)] 3)) t := fun t kt => pre25 t (st27 t kt)
  have N27 := Fr.snoc X27 N18 g_w_hits_a1
  obtain ⟨fs, hr, hrun, hended, hW, hsame⟩ := X27.leave (v := none) (fun _ => rfl)
  refine ⟨_, _, pre33 _ ?_, hrun, hended, _, _, rfl, ?_, ⟨_, rfl⟩, hW, hsame.mono (by decide) (by decide)⟩
  · exact X27.returnOut hx Bd.returns (hb hby d4_83) hr
  · show Q4s0 Z a1 p2 p3 w_hits_a1 el_w_hits_a1 w_words_a1 h0 n0 _ T27.heap _
    rw [e27]
    exact ⟨rfl, N27, K27, F32_27, F29_27, F28_27, F31_27, V27_w_hits_a1⟩
theorem ef_4s1 (m : MethodId) (x0 : Addr) (x1 : Int32) (x2 : Int32) : entryFrame m #[(.ref x0), (.int x1), (.int x2)] 3 = mkF m 0 #[.val (.ref x0), .val (.int x1), .val (.int x2)] [] := by first | (simp [entryFrame, mkF, argsToLocals, Value.category]; done) | rfl
def Q4s1 (Z : State) (a1 : Addr) (p2 : Int32) (p3 : Int32) (w_hits_a1 : Addr) (el_w_hits_a1 : Nat → Int64) (w_words_a1 : Int32) (h0 : Heap) (n0 : Nat) (v : Option Value) (h : Heap) (L : List Loc) : Prop := v = none ∧ Fr n0 L ∧ Keep h0 h [a1, w_hits_a1] ∧ Exa Z h a1 "com/example/hit_span_ranker/hitspanranker/chain/HitChain$Builder" ∧ Fld Z h a1 "com/example/hit_span_ranker/hitspanranker/chain/HitChain$Builder" "hits" "[J" (.ref w_hits_a1) ∧ Fld Z h a1 "com/example/hit_span_ranker/hitspanranker/chain/HitChain$Builder" "size" "I" (.int (2 : Int32)) ∧ Fld Z h a1 "com/example/hit_span_ranker/hitspanranker/chain/HitChain$Builder" "words" "I" (.int w_words_a1) ∧ Arf Z h w_hits_a1 .long (16 : Int32) (fun i => (.long ((own_upd el_w_hits_a1 ((1 : Int32)).toNatClampNeg (((p3.toInt64) <<< ((32 : Int32) &&& 0x3f).toInt64) ||| (p2.toInt64))) i)))
set_option maxRecDepth 65536 in
set_option maxHeartbeats 40000000 in
theorem rm4s1 (l : Launch) (Z : State) (a0 : Array Value) (hw : ∀ d ∈ tables_1, d.before a0 Z = true) (ws : List Jvm.Cond) (a1 : Addr) (p2 : Int32) (p3 : Int32) (w_hits_a1 : Addr) (el_w_hits_a1 : Nat → Int64) (w_words_a1 : Int32) (h0 : Heap) (n0 : Nat) (Z0 : n0 ≤ h0.size) (F_size_a1 : Fld Z h0 a1 "com/example/hit_span_ranker/hitspanranker/chain/HitChain$Builder" "size" "I" (.int (1 : Int32))) (F_hits_a1 : Fld Z h0 a1 "com/example/hit_span_ranker/hitspanranker/chain/HitChain$Builder" "hits" "[J" (.ref w_hits_a1)) (V_w_hits_a1 : Arf Z h0 w_hits_a1 .long (16 : Int32) (fun i => (.long (el_w_hits_a1 i)))) (F_words_a1 : Fld Z h0 a1 "com/example/hit_span_ranker/hitspanranker/chain/HitChain$Builder" "words" "I" (.int w_words_a1)) (E_a1 : Exa Z h0 a1 "com/example/hit_span_ranker/hitspanranker/chain/HitChain$Builder") (g_a1 : n0 ≤ a1) (ne_w_hits_a1_a1 : w_hits_a1 ≠ a1) (g_w_hits_a1 : n0 ≤ w_hits_a1) (hA : ¬ (p2 < (0 : Int32))) (hB : p2 < w_words_a1) :
    MetFree l (⟨"com/example/hit_span_ranker/hitspanranker/chain/HitChain$Builder", "add", "(II)V"⟩ : MethodName) (head1 (Jvm.Cond.code (⟨"com/example/hit_span_ranker/hitspanranker/chain/HitChain$Builder", "add", "(II)V"⟩ : MethodName) prog_3_method_2_code 3 none :: ws) ({ frames := 0, cells := 0, slots := 0, locals := 0 } : Room)) (fun a U => a = #[(.ref a1), (.int p2), (.int p3)] ∧ Z.Warmed39 U.vm ∧ U.heap = h0) (fun _ _ _ _ _ => True) (fun _ U o U' => ∃ v L, o = .returned v ∧ Q4s1 Z a1 p2 p3 w_hits_a1 el_w_hits_a1 w_words_a1 h0 n0 v U'.heap L ∧ FrameEnd U o U' L ({ frames := 0, cells := 0, slots := 0, locals := 0 } : Room).cells ({ frames := 0, cells := 0, slots := 0, locals := 0 } : Room).slots) := by
  refine MetFree.of_bodySF (plainFor_of_name pn_com_example_hit_span_ranker_hitspanranker_chain_HitChain_Builder) hisR ?_
  intro p e s m args below meth c s₁ Bd hml0 hP hK
  obtain ⟨rfl, hZ, hh⟩ := hP
  have hx := Bd.exec
  have hby := Bd.bytes
  have hml : c.maxLocals = 3 := hml0
  have hown : s.vm.findClass "com/example/hit_span_ranker/hitspanranker/chain/HitChain$Builder" = some m.cls := findClass_of_methodNamed Bd.named
  have hnm := (name_of_methodNamed Bd.named Bd.method).1
  have X0 : Stand p l e ({ frames := 0, cells := 0, slots := 0, locals := 0 } : Room) s m #[(.ref a1), (.int p2), (.int p3)] below meth c s₁ [] 0 0 := Stand.of_body Bd
  have e0 : s₁.heap = h0 := by rw [← hh, Bd.state]; rfl
  have N0 := Fr.nil n0
  have pre0 : ∀ t, Steps p.tables e below (s₁.setTop (mkF m 0 #[.val (.ref a1), .val (.int p2), .val (.int p3)] [])) t → Steps p.tables e below (s₁.setTop (entryFrame m #[(.ref a1), (.int p2), (.int p3)] 3)) t := fun t k => castTop (ef_4s1 m a1 p2 p3) k
  have hc1 : ¬ (p2 < (0 : Int32)) := hA
  have pre1 : ∀ t, Steps p.tables e below (s₁.setTop (mkF m 6 #[.val (.ref a1), .val (.int p2), .val (.int p3)] [(.ref a1), (.int p2)])) t → Steps p.tables e below (s₁.setTop (entryFrame m #[(.ref a1), (.int p2), (.int p3)] 3)) t := fun t kt => by
    refine pre0 t ?_
    refine XS.iloadN X0.here hx rfl (hb hby d4_0) rfl ?_
    show Steps p.tables e below (s₁.setTop (mkF m 1 #[.val (.ref a1), .val (.int p2), .val (.int p3)] [(.int p2)])) _
    refine XS.ifNo X0.here hx rfl (hb hby d4_1) rfl ((if0 _ _).trans (flt hc1).1) ?_
    show Steps p.tables e below (s₁.setTop (mkF m 4 #[.val (.ref a1), .val (.int p2), .val (.int p3)] [])) _
    refine XS.iloadN X0.here hx rfl (hb hby d4_4) rfl ?_
    show Steps p.tables e below (s₁.setTop (mkF m 5 #[.val (.ref a1), .val (.int p2), .val (.int p3)] [(.int p2)])) _
    refine XS.aloadN X0.here hx rfl (hb hby d4_5) rfl rfl ?_
    show Steps p.tables e below (s₁.setTop (mkF m 6 #[.val (.ref a1), .val (.int p2), .val (.int p3)] [(.ref a1), (.int p2)])) _
    exact kt
  obtain ⟨T2, X2, e2, st2⟩ := getF X0 hx hZ hown (host := "") (Or.inl (hw _ (mgE 17 rfl))) Via.refl e0 F_words_a1 (g := (mkF m 6 #[.val (.ref a1), .val (.int p2), .val (.int p3)] [(.ref a1), (.int p2)])) rfl rfl (hb hby d4_6)
  have pre3 : ∀ t, Steps p.tables e below (T2.setTop (mkF m 9 #[.val (.ref a1), .val (.int p2), .val (.int p3)] [(.int w_words_a1), (.int p2)])) t → Steps p.tables e below (s₁.setTop (entryFrame m #[(.ref a1), (.int p2), (.int p3)] 3)) t := fun t kt => pre1 t (st2 t kt)
  have hc9 : p2 < w_words_a1 := hB
  have pre4 : ∀ t, Steps p.tables e below (T2.setTop (mkF m 31 #[.val (.ref a1), .val (.int p2), .val (.int p3)] [(.ref a1)])) t → Steps p.tables e below (s₁.setTop (entryFrame m #[(.ref a1), (.int p2), (.int p3)] 3)) t := fun t kt => by
    refine pre3 t ?_
    refine XS.icmpYes X2.here hx rfl (pc0 := 9) (pc' := 30) rfl (hb hby d4_9) rfl (tlt hc9).1 (by decide) (by decide) ?_
    show Steps p.tables e below (T2.setTop (mkF m 30 #[.val (.ref a1), .val (.int p2), .val (.int p3)] [])) _
    refine XS.aloadN X2.here hx rfl (hb hby d4_30) rfl rfl ?_
    show Steps p.tables e below (T2.setTop (mkF m 31 #[.val (.ref a1), .val (.int p2), .val (.int p3)] [(.ref a1)])) _
    exact kt
  obtain ⟨T5, X5, e5, st5⟩ := getF X2 hx hZ hown (host := "") (Or.inl (hw _ (mgE 24 rfl))) Via.refl e2 F_size_a1 (g := (mkF m 31 #[.val (.ref a1), .val (.int p2), .val (.int p3)] [(.ref a1)])) rfl rfl (hb hby d4_31)
  have pre6 : ∀ t, Steps p.tables e below (T5.setTop (mkF m 34 #[.val (.ref a1), .val (.int p2), .val (.int p3)] [(.int (1 : Int32))])) t → Steps p.tables e below (s₁.setTop (entryFrame m #[(.ref a1), (.int p2), (.int p3)] 3)) t := fun t kt => pre4 t (st5 t kt)
  have pre7 : ∀ t, Steps p.tables e below (T5.setTop (mkF m 35 #[.val (.ref a1), .val (.int p2), .val (.int p3)] [(.ref a1), (.int (1 : Int32))])) t → Steps p.tables e below (s₁.setTop (entryFrame m #[(.ref a1), (.int p2), (.int p3)] 3)) t := fun t kt => by
    refine pre6 t ?_
    refine XS.aloadN X5.here hx rfl (hb hby d4_34) rfl rfl ?_
    show Steps p.tables e below (T5.setTop (mkF m 35 #[.val (.ref a1), .val (.int p2), .val (.int p3)] [(.ref a1), (.int (1 : Int32))])) _
    exact kt
  obtain ⟨T8, X8, e8, st8⟩ := getF X5 hx hZ hown (host := "") (Or.inl (hw _ (mgE 15 rfl))) Via.refl e5 F_hits_a1 (g := (mkF m 35 #[.val (.ref a1), .val (.int p2), .val (.int p3)] [(.ref a1), (.int (1 : Int32))])) rfl rfl (hb hby d4_35)
  have pre9 : ∀ t, Steps p.tables e below (T8.setTop (mkF m 38 #[.val (.ref a1), .val (.int p2), .val (.int p3)] [(.ref w_hits_a1), (.int (1 : Int32))])) t → Steps p.tables e below (s₁.setTop (entryFrame m #[(.ref a1), (.int p2), (.int p3)] 3)) t := fun t kt => pre7 t (st8 t kt)
  obtain ⟨cl10, Ar10, S10, Ng10, H10⟩ := id V_w_hits_a1
  have pre11 : ∀ t, Steps p.tables e below (T8.setTop (mkF m 60 #[.val (.ref a1), .val (.int p2), .val (.int p3)] [(.ref a1)])) t → Steps p.tables e below (s₁.setTop (entryFrame m #[(.ref a1), (.int p2), (.int p3)] 3)) t := fun t kt => by
    refine pre9 t ?_
    refine X8.arraylength hx (by rw [e8]; exact Ar10.1) (State.isArrayOf_alike hZ.alike Ar10.2.1) (g := (mkF m 38 #[.val (.ref a1), .val (.int p2), .val (.int p3)] [(.ref w_hits_a1), (.int (1 : Int32))])) rfl rfl (hb hby d4_38) _ ?_
    rw [len_of S10 Ng10]
    show Steps p.tables e below (T8.setTop (mkF m 39 #[.val (.ref a1), .val (.int p2), .val (.int p3)] [(.int (16 : Int32)), (.int (1 : Int32))])) _
    refine XS.icmpYes X8.here hx rfl (pc0 := 39) (pc' := 59) rfl (hb hby d4_39) rfl (feq (by decide : ¬ ((1 : Int32) = (16 : Int32)))).2 (by decide) (by decide) ?_
    show Steps p.tables e below (T8.setTop (mkF m 59 #[.val (.ref a1), .val (.int p2), .val (.int p3)] [])) _
    refine XS.aloadN X8.here hx rfl (hb hby d4_59) rfl rfl ?_
    show Steps p.tables e below (T8.setTop (mkF m 60 #[.val (.ref a1), .val (.int p2), .val (.int p3)] [(.ref a1)])) _
    exact kt
  obtain ⟨T12, X12, e12, st12⟩ := getF X8 hx hZ hown (host := "") (Or.inl (hw _ (mgE 15 rfl))) Via.refl e8 F_hits_a1 (g := (mkF m 60 #[.val (.ref a1), .val (.int p2), .val (.int p3)] [(.ref a1)])) rfl rfl (hb hby d4_60)
  have pre13 : ∀ t, Steps p.tables e below (T12.setTop (mkF m 63 #[.val (.ref a1), .val (.int p2), .val (.int p3)] [(.ref w_hits_a1)])) t → Steps p.tables e below (s₁.setTop (entryFrame m #[(.ref a1), (.int p2), (.int p3)] 3)) t := fun t kt => pre11 t (st12 t kt)
  have pre14 : ∀ t, Steps p.tables e below (T12.setTop (mkF m 65 #[.val (.ref a1), .val (.int p2), .val (.int p3)] [(.ref a1), (.ref a1), (.ref w_hits_a1)])) t → Steps p.tables e below (s₁.setTop (entryFrame m #[(.ref a1), (.int p2), (.int p3)] 3)) t := fun t kt => by
    refine pre13 t ?_
    refine XS.aloadN X12.here hx rfl (hb hby d4_63) rfl rfl ?_
    show Steps p.tables e below (T12.setTop (mkF m 64 #[.val (.ref a1), .val (.int p2), .val (.int p3)] [(.ref a1), (.ref w_hits_a1)])) _
    refine XS.dup X12.here hx rfl (hb hby d4_64) rfl rfl ?_
    show Steps p.tables e below (T12.setTop (mkF m 65 #[.val (.ref a1), .val (.int p2), .val (.int p3)] [(.ref a1), (.ref a1), (.ref w_hits_a1)])) _
    exact kt
  obtain ⟨T15, X15, e15, st15⟩ := getF X12 hx hZ hown (host := "") (Or.inl (hw _ (mgE 24 rfl))) Via.refl e12 F_size_a1 (g := (mkF m 65 #[.val (.ref a1), .val (.int p2), .val (.int p3)] [(.ref a1), (.ref a1), (.ref w_hits_a1)])) rfl rfl (hb hby d4_65)
  have pre16 : ∀ t, Steps p.tables e below (T15.setTop (mkF m 68 #[.val (.ref a1), .val (.int p2), .val (.int p3)] [(.int (1 : Int32)), (.ref a1), (.ref w_hits_a1)])) t → Steps p.tables e below (s₁.setTop (entryFrame m #[(.ref a1), (.int p2), (.int p3)] 3)) t := fun t kt => pre14 t (st15 t kt)
  have pre17 : ∀ t, Steps p.tables e below (T15.setTop (mkF m 71 #[.val (.ref a1), .val (.int p2), .val (.int p3)] [(.int (2 : Int32)), (.ref a1), (.int (1 : Int32)), (.ref w_hits_a1)])) t → Steps p.tables e below (s₁.setTop (entryFrame m #[(.ref a1), (.int p2), (.int p3)] 3)) t := fun t kt => by
    refine pre16 t ?_
    refine XS.dupX1 X15.here hx rfl (hb hby d4_68) rfl rfl rfl ?_
    show Steps p.tables e below (T15.setTop (mkF m 69 #[.val (.ref a1), .val (.int p2), .val (.int p3)] [(.int (1 : Int32)), (.ref a1), (.int (1 : Int32)), (.ref w_hits_a1)])) _
    refine XS.iconst X15.here hx rfl (hb hby d4_69) ?_
    show Steps p.tables e below (T15.setTop (mkF m 70 #[.val (.ref a1), .val (.int p2), .val (.int p3)] [(.int (1 : Int32)), (.int (1 : Int32)), (.ref a1), (.int (1 : Int32)), (.ref w_hits_a1)])) _
    refine XS.iadd X15.here hx rfl (hb hby d4_70) rfl ?_
    show Steps p.tables e below (T15.setTop (mkF m 71 #[.val (.ref a1), .val (.int p2), .val (.int p3)] [(.int (2 : Int32)), (.ref a1), (.int (1 : Int32)), (.ref w_hits_a1)])) _
    exact kt
  obtain ⟨T18, h18, X18, e18, W18, st18⟩ := putF X15 hx hZ hown (host := "") (Or.inl (hw _ (mgE 24 rfl))) Via.refl e15 F_size_a1 E_a1 (Or.inl (hw _ (mgE 25 rfl))) (hw _ (mgE 6 rfl)) (ty := .int) (by decide) rfl rfl (g := (mkF m 71 #[.val (.ref a1), .val (.int p2), .val (.int p3)] [(.int (2 : Int32)), (.ref a1), (.int (1 : Int32)), (.ref w_hits_a1)])) rfl rfl (hb hby d4_71)
  have F20_18 := F_hits_a1.other W18 (Or.inr (slot_ne (Or.inl (hw _ (mgE 16 rfl))) (Or.inl (hw _ (mgE 25 rfl))) (by decide) (t := (.array .long)) (t' := .int) (by decide) (by decide)))
  have F21_18 := V_w_hits_a1.other W18 ne_w_hits_a1_a1
  have F22_18 := F_words_a1.other W18 (Or.inr (slot_ne (Or.inr (hw _ (mgE 18 rfl))) (Or.inl (hw _ (mgE 25 rfl))) (by decide) (t := .int) (t' := .int) (by decide) (by decide)))
  have F23_18 := E_a1.wr W18
  have Fw18 := F_size_a1.same W18
  have K18 : Keep h0 h18 [a1, w_hits_a1] := (Keep.refl h0 [a1, w_hits_a1]).wr W18 (Or.inl (mgE 0 rfl))
  have pre24 : ∀ t, Steps p.tables e below (T18.setTop (mkF m 74 #[.val (.ref a1), .val (.int p2), .val (.int p3)] [(.int (1 : Int32)), (.ref w_hits_a1)])) t → Steps p.tables e below (s₁.setTop (entryFrame m #[(.ref a1), (.int p2), (.int p3)] 3)) t := fun t kt => pre17 t (st18 t kt)
  have N18 := Fr.snoc X18 N0 g_a1
  have pre25 : ∀ t, Steps p.tables e below (T18.setTop (mkF m 82 #[.val (.ref a1), .val (.int p2), .val (.int p3)] [(.long (((p3.toInt64) <<< ((32 : Int32) &&& 0x3f).toInt64) ||| (p2.toInt64))), (.int (1 : Int32)), (.ref w_hits_a1)])) t → Steps p.tables e below (s₁.setTop (entryFrame m #[(.ref a1), (.int p2), (.int p3)] 3)) t := fun t kt => by
    refine pre24 t ?_
    refine XS.iloadN X18.here hx rfl (hb hby d4_74) rfl ?_
    show Steps p.tables e below (T18.setTop (mkF m 75 #[.val (.ref a1), .val (.int p2), .val (.int p3)] [(.int p3), (.int (1 : Int32)), (.ref w_hits_a1)])) _
    refine XS.i2l X18.here hx rfl (hb hby d4_75) rfl ?_
    show Steps p.tables e below (T18.setTop (mkF m 76 #[.val (.ref a1), .val (.int p2), .val (.int p3)] [(.long (p3.toInt64)), (.int (1 : Int32)), (.ref w_hits_a1)])) _
    refine XS.bipush X18.here hx rfl (hb hby d4_76) ?_
    show Steps p.tables e below (T18.setTop (mkF m 78 #[.val (.ref a1), .val (.int p2), .val (.int p3)] [(.int (32 : Int32)), (.long (p3.toInt64)), (.int (1 : Int32)), (.ref w_hits_a1)])) _
    refine XS.lshl X18.here hx rfl (hb hby d4_78) rfl ?_
    show Steps p.tables e below (T18.setTop (mkF m 79 #[.val (.ref a1), .val (.int p2), .val (.int p3)] [(.long ((p3.toInt64) <<< ((32 : Int32) &&& 0x3f).toInt64)), (.int (1 : Int32)), (.ref w_hits_a1)])) _
    refine XS.iloadN X18.here hx rfl (hb hby d4_79) rfl ?_
    show Steps p.tables e below (T18.setTop (mkF m 80 #[.val (.ref a1), .val (.int p2), .val (.int p3)] [(.int p2), (.long ((p3.toInt64) <<< ((32 : Int32) &&& 0x3f).toInt64)), (.int (1 : Int32)), (.ref w_hits_a1)])) _
    refine XS.i2l X18.here hx rfl (hb hby d4_80) rfl ?_
    show Steps p.tables e below (T18.setTop (mkF m 81 #[.val (.ref a1), .val (.int p2), .val (.int p3)] [(.long (p2.toInt64)), (.long ((p3.toInt64) <<< ((32 : Int32) &&& 0x3f).toInt64)), (.int (1 : Int32)), (.ref w_hits_a1)])) _
    refine XS.lor X18.here hx rfl (hb hby d4_81) rfl ?_
    show Steps p.tables e below (T18.setTop (mkF m 82 #[.val (.ref a1), .val (.int p2), .val (.int p3)] [(.long (((p3.toInt64) <<< ((32 : Int32) &&& 0x3f).toInt64) ||| (p2.toInt64))), (.int (1 : Int32)), (.ref w_hits_a1)])) _
    exact kt
  obtain ⟨cl26, Ar26, S26, Ng26, H26⟩ := id F21_18
  have hj26 : ¬ (1 : Int32) < 0 ∧ (1 : Int32) < (16 : Int32) := ⟨by decide, by decide⟩
  have hin26 := inb_of S26 hj26
  obtain ⟨T27, h27, X27, e27, W27, st27⟩ := stJ X18 hx hZ e18 Ar26 (j := (1 : Int32)) hin26 (g := (mkF m 82 #[.val (.ref a1), .val (.int p2), .val (.int p3)] [(.long (((p3.toInt64) <<< ((32 : Int32) &&& 0x3f).toInt64) ||| (p2.toInt64))), (.int (1 : Int32)), (.ref w_hits_a1)])) rfl rfl (hb hby d4_82)
  have F28_27 := Fw18.other W27 (Or.inl (Ne.symm ne_w_hits_a1_a1))
  have F29_27 := F20_18.other W27 (Or.inl (Ne.symm ne_w_hits_a1_a1))
  have F31_27 := F22_18.other W27 (Or.inl (Ne.symm ne_w_hits_a1_a1))
  have F32_27 := F23_18.wr W27
  have V27_w_hits_a1 : Arf Z h27 w_hits_a1 .long (16 : Int32) (fun i => (.long ((own_upd el_w_hits_a1 ((1 : Int32)).toNatClampNeg (((p3.toInt64) <<< ((32 : Int32) &&& 0x3f).toInt64) ||| (p2.toInt64))) i))) := upd_long _ _ _ ▸ (F21_18.set W27)
  have K27 : Keep h0 h27 [a1, w_hits_a1] := K18.wr W27 (Or.inl (mgE 1 rfl))
  have pre33 : ∀ t, Steps p.tables e below (T27.setTop (mkF m 83 #[.val (.ref a1), .val (.int p2), .val (.int p3)] [])) t → Steps p.tables e below (s₁.setTop (entryFrame m #[(.ref a1), (.int p2), (.int p3)] 3)) t := fun t kt => pre25 t (st27 t kt)
  have N27 := Fr.snoc X27 N18 g_w_hits_a1
  obtain ⟨fs, hr, hrun, hended, hW, hsame⟩ := X27.leave (v := none) (fun _ => rfl)
  refine ⟨_, _, pre33 _ ?_, hrun, hended, _, _, rfl, ?_, ⟨_, rfl⟩, hW, hsame.mono (by decide) (by decide)⟩
  · exact X27.returnOut hx Bd.returns (hb hby d4_83) hr
  · show Q4s1 Z a1 p2 p3 w_hits_a1 el_w_hits_a1 w_words_a1 h0 n0 _ T27.heap _
    rw [e27]
    exact ⟨rfl, N27, K27, F32_27, F29_27, F28_27, F31_27, V27_w_hits_a1⟩
theorem ef_4s2 (m : MethodId) (x0 : Addr) (x1 : Int32) (x2 : Int32) : entryFrame m #[(.ref x0), (.int x1), (.int x2)] 3 = mkF m 0 #[.val (.ref x0), .val (.int x1), .val (.int x2)] [] := by first | (simp [entryFrame, mkF, argsToLocals, Value.category]; done) | rfl
def Q4s2 (Z : State) (a1 : Addr) (p2 : Int32) (p3 : Int32) (w_hits_a1 : Addr) (el_w_hits_a1 : Nat → Int64) (w_words_a1 : Int32) (h0 : Heap) (n0 : Nat) (v : Option Value) (h : Heap) (L : List Loc) : Prop := v = none ∧ Fr n0 L ∧ Keep h0 h [a1, w_hits_a1] ∧ Exa Z h a1 "com/example/hit_span_ranker/hitspanranker/chain/HitChain$Builder" ∧ Fld Z h a1 "com/example/hit_span_ranker/hitspanranker/chain/HitChain$Builder" "hits" "[J" (.ref w_hits_a1) ∧ Fld Z h a1 "com/example/hit_span_ranker/hitspanranker/chain/HitChain$Builder" "size" "I" (.int (3 : Int32)) ∧ Fld Z h a1 "com/example/hit_span_ranker/hitspanranker/chain/HitChain$Builder" "words" "I" (.int w_words_a1) ∧ Arf Z h w_hits_a1 .long (16 : Int32) (fun i => (.long ((own_upd el_w_hits_a1 ((2 : Int32)).toNatClampNeg (((p3.toInt64) <<< ((32 : Int32) &&& 0x3f).toInt64) ||| (p2.toInt64))) i)))
set_option maxRecDepth 65536 in
set_option maxHeartbeats 40000000 in
theorem rm4s2 (l : Launch) (Z : State) (a0 : Array Value) (hw : ∀ d ∈ tables_1, d.before a0 Z = true) (ws : List Jvm.Cond) (a1 : Addr) (p2 : Int32) (p3 : Int32) (w_hits_a1 : Addr) (el_w_hits_a1 : Nat → Int64) (w_words_a1 : Int32) (h0 : Heap) (n0 : Nat) (Z0 : n0 ≤ h0.size) (F_size_a1 : Fld Z h0 a1 "com/example/hit_span_ranker/hitspanranker/chain/HitChain$Builder" "size" "I" (.int (2 : Int32))) (F_hits_a1 : Fld Z h0 a1 "com/example/hit_span_ranker/hitspanranker/chain/HitChain$Builder" "hits" "[J" (.ref w_hits_a1)) (V_w_hits_a1 : Arf Z h0 w_hits_a1 .long (16 : Int32) (fun i => (.long (el_w_hits_a1 i)))) (F_words_a1 : Fld Z h0 a1 "com/example/hit_span_ranker/hitspanranker/chain/HitChain$Builder" "words" "I" (.int w_words_a1)) (E_a1 : Exa Z h0 a1 "com/example/hit_span_ranker/hitspanranker/chain/HitChain$Builder") (g_a1 : n0 ≤ a1) (ne_w_hits_a1_a1 : w_hits_a1 ≠ a1) (g_w_hits_a1 : n0 ≤ w_hits_a1) (hA : ¬ (p2 < (0 : Int32))) (hB : p2 < w_words_a1) :
    MetFree l (⟨"com/example/hit_span_ranker/hitspanranker/chain/HitChain$Builder", "add", "(II)V"⟩ : MethodName) (head1 (Jvm.Cond.code (⟨"com/example/hit_span_ranker/hitspanranker/chain/HitChain$Builder", "add", "(II)V"⟩ : MethodName) prog_3_method_2_code 3 none :: ws) ({ frames := 0, cells := 0, slots := 0, locals := 0 } : Room)) (fun a U => a = #[(.ref a1), (.int p2), (.int p3)] ∧ Z.Warmed39 U.vm ∧ U.heap = h0) (fun _ _ _ _ _ => True) (fun _ U o U' => ∃ v L, o = .returned v ∧ Q4s2 Z a1 p2 p3 w_hits_a1 el_w_hits_a1 w_words_a1 h0 n0 v U'.heap L ∧ FrameEnd U o U' L ({ frames := 0, cells := 0, slots := 0, locals := 0 } : Room).cells ({ frames := 0, cells := 0, slots := 0, locals := 0 } : Room).slots) := by
  refine MetFree.of_bodySF (plainFor_of_name pn_com_example_hit_span_ranker_hitspanranker_chain_HitChain_Builder) hisR ?_
  intro p e s m args below meth c s₁ Bd hml0 hP hK
  obtain ⟨rfl, hZ, hh⟩ := hP
  have hx := Bd.exec
  have hby := Bd.bytes
  have hml : c.maxLocals = 3 := hml0
  have hown : s.vm.findClass "com/example/hit_span_ranker/hitspanranker/chain/HitChain$Builder" = some m.cls := findClass_of_methodNamed Bd.named
  have hnm := (name_of_methodNamed Bd.named Bd.method).1
  have X0 : Stand p l e ({ frames := 0, cells := 0, slots := 0, locals := 0 } : Room) s m #[(.ref a1), (.int p2), (.int p3)] below meth c s₁ [] 0 0 := Stand.of_body Bd
  have e0 : s₁.heap = h0 := by rw [← hh, Bd.state]; rfl
  have N0 := Fr.nil n0
  have pre0 : ∀ t, Steps p.tables e below (s₁.setTop (mkF m 0 #[.val (.ref a1), .val (.int p2), .val (.int p3)] [])) t → Steps p.tables e below (s₁.setTop (entryFrame m #[(.ref a1), (.int p2), (.int p3)] 3)) t := fun t k => castTop (ef_4s2 m a1 p2 p3) k
  have hc1 : ¬ (p2 < (0 : Int32)) := hA
  have pre1 : ∀ t, Steps p.tables e below (s₁.setTop (mkF m 6 #[.val (.ref a1), .val (.int p2), .val (.int p3)] [(.ref a1), (.int p2)])) t → Steps p.tables e below (s₁.setTop (entryFrame m #[(.ref a1), (.int p2), (.int p3)] 3)) t := fun t kt => by
    refine pre0 t ?_
    refine XS.iloadN X0.here hx rfl (hb hby d4_0) rfl ?_
    show Steps p.tables e below (s₁.setTop (mkF m 1 #[.val (.ref a1), .val (.int p2), .val (.int p3)] [(.int p2)])) _
    refine XS.ifNo X0.here hx rfl (hb hby d4_1) rfl ((if0 _ _).trans (flt hc1).1) ?_
    show Steps p.tables e below (s₁.setTop (mkF m 4 #[.val (.ref a1), .val (.int p2), .val (.int p3)] [])) _
    refine XS.iloadN X0.here hx rfl (hb hby d4_4) rfl ?_
    show Steps p.tables e below (s₁.setTop (mkF m 5 #[.val (.ref a1), .val (.int p2), .val (.int p3)] [(.int p2)])) _
    refine XS.aloadN X0.here hx rfl (hb hby d4_5) rfl rfl ?_
    show Steps p.tables e below (s₁.setTop (mkF m 6 #[.val (.ref a1), .val (.int p2), .val (.int p3)] [(.ref a1), (.int p2)])) _
    exact kt
  obtain ⟨T2, X2, e2, st2⟩ := getF X0 hx hZ hown (host := "") (Or.inl (hw _ (mgE 17 rfl))) Via.refl e0 F_words_a1 (g := (mkF m 6 #[.val (.ref a1), .val (.int p2), .val (.int p3)] [(.ref a1), (.int p2)])) rfl rfl (hb hby d4_6)
  have pre3 : ∀ t, Steps p.tables e below (T2.setTop (mkF m 9 #[.val (.ref a1), .val (.int p2), .val (.int p3)] [(.int w_words_a1), (.int p2)])) t → Steps p.tables e below (s₁.setTop (entryFrame m #[(.ref a1), (.int p2), (.int p3)] 3)) t := fun t kt => pre1 t (st2 t kt)
  have hc9 : p2 < w_words_a1 := hB
  have pre4 : ∀ t, Steps p.tables e below (T2.setTop (mkF m 31 #[.val (.ref a1), .val (.int p2), .val (.int p3)] [(.ref a1)])) t → Steps p.tables e below (s₁.setTop (entryFrame m #[(.ref a1), (.int p2), (.int p3)] 3)) t := fun t kt => by
    refine pre3 t ?_
    refine XS.icmpYes X2.here hx rfl (pc0 := 9) (pc' := 30) rfl (hb hby d4_9) rfl (tlt hc9).1 (by decide) (by decide) ?_
    show Steps p.tables e below (T2.setTop (mkF m 30 #[.val (.ref a1), .val (.int p2), .val (.int p3)] [])) _
    refine XS.aloadN X2.here hx rfl (hb hby d4_30) rfl rfl ?_
    show Steps p.tables e below (T2.setTop (mkF m 31 #[.val (.ref a1), .val (.int p2), .val (.int p3)] [(.ref a1)])) _
    exact kt
  obtain ⟨T5, X5, e5, st5⟩ := getF X2 hx hZ hown (host := "") (Or.inl (hw _ (mgE 24 rfl))) Via.refl e2 F_size_a1 (g := (mkF m 31 #[.val (.ref a1), .val (.int p2), .val (.int p3)] [(.ref a1)])) rfl rfl (hb hby d4_31)
  have pre6 : ∀ t, Steps p.tables e below (T5.setTop (mkF m 34 #[.val (.ref a1), .val (.int p2), .val (.int p3)] [(.int (2 : Int32))])) t → Steps p.tables e below (s₁.setTop (entryFrame m #[(.ref a1), (.int p2), (.int p3)] 3)) t := fun t kt => pre4 t (st5 t kt)
  have pre7 : ∀ t, Steps p.tables e below (T5.setTop (mkF m 35 #[.val (.ref a1), .val (.int p2), .val (.int p3)] [(.ref a1), (.int (2 : Int32))])) t → Steps p.tables e below (s₁.setTop (entryFrame m #[(.ref a1), (.int p2), (.int p3)] 3)) t := fun t kt => by
    refine pre6 t ?_
    refine XS.aloadN X5.here hx rfl (hb hby d4_34) rfl rfl ?_
    show Steps p.tables e below (T5.setTop (mkF m 35 #[.val (.ref a1), .val (.int p2), .val (.int p3)] [(.ref a1), (.int (2 : Int32))])) _
    exact kt
  obtain ⟨T8, X8, e8, st8⟩ := getF X5 hx hZ hown (host := "") (Or.inl (hw _ (mgE 15 rfl))) Via.refl e5 F_hits_a1 (g := (mkF m 35 #[.val (.ref a1), .val (.int p2), .val (.int p3)] [(.ref a1), (.int (2 : Int32))])) rfl rfl (hb hby d4_35)
  have pre9 : ∀ t, Steps p.tables e below (T8.setTop (mkF m 38 #[.val (.ref a1), .val (.int p2), .val (.int p3)] [(.ref w_hits_a1), (.int (2 : Int32))])) t → Steps p.tables e below (s₁.setTop (entryFrame m #[(.ref a1), (.int p2), (.int p3)] 3)) t := fun t kt => pre7 t (st8 t kt)
  obtain ⟨cl10, Ar10, S10, Ng10, H10⟩ := id V_w_hits_a1
  have pre11 : ∀ t, Steps p.tables e below (T8.setTop (mkF m 60 #[.val (.ref a1), .val (.int p2), .val (.int p3)] [(.ref a1)])) t → Steps p.tables e below (s₁.setTop (entryFrame m #[(.ref a1), (.int p2), (.int p3)] 3)) t := fun t kt => by
    refine pre9 t ?_
    refine X8.arraylength hx (by rw [e8]; exact Ar10.1) (State.isArrayOf_alike hZ.alike Ar10.2.1) (g := (mkF m 38 #[.val (.ref a1), .val (.int p2), .val (.int p3)] [(.ref w_hits_a1), (.int (2 : Int32))])) rfl rfl (hb hby d4_38) _ ?_
    rw [len_of S10 Ng10]
    show Steps p.tables e below (T8.setTop (mkF m 39 #[.val (.ref a1), .val (.int p2), .val (.int p3)] [(.int (16 : Int32)), (.int (2 : Int32))])) _
    refine XS.icmpYes X8.here hx rfl (pc0 := 39) (pc' := 59) rfl (hb hby d4_39) rfl (feq (by decide : ¬ ((2 : Int32) = (16 : Int32)))).2 (by decide) (by decide) ?_
    show Steps p.tables e below (T8.setTop (mkF m 59 #[.val (.ref a1), .val (.int p2), .val (.int p3)] [])) _
    refine XS.aloadN X8.here hx rfl (hb hby d4_59) rfl rfl ?_
    show Steps p.tables e below (T8.setTop (mkF m 60 #[.val (.ref a1), .val (.int p2), .val (.int p3)] [(.ref a1)])) _
    exact kt
  obtain ⟨T12, X12, e12, st12⟩ := getF X8 hx hZ hown (host := "") (Or.inl (hw _ (mgE 15 rfl))) Via.refl e8 F_hits_a1 (g := (mkF m 60 #[.val (.ref a1), .val (.int p2), .val (.int p3)] [(.ref a1)])) rfl rfl (hb hby d4_60)
  have pre13 : ∀ t, Steps p.tables e below (T12.setTop (mkF m 63 #[.val (.ref a1), .val (.int p2), .val (.int p3)] [(.ref w_hits_a1)])) t → Steps p.tables e below (s₁.setTop (entryFrame m #[(.ref a1), (.int p2), (.int p3)] 3)) t := fun t kt => pre11 t (st12 t kt)
  have pre14 : ∀ t, Steps p.tables e below (T12.setTop (mkF m 65 #[.val (.ref a1), .val (.int p2), .val (.int p3)] [(.ref a1), (.ref a1), (.ref w_hits_a1)])) t → Steps p.tables e below (s₁.setTop (entryFrame m #[(.ref a1), (.int p2), (.int p3)] 3)) t := fun t kt => by
    refine pre13 t ?_
    refine XS.aloadN X12.here hx rfl (hb hby d4_63) rfl rfl ?_
    show Steps p.tables e below (T12.setTop (mkF m 64 #[.val (.ref a1), .val (.int p2), .val (.int p3)] [(.ref a1), (.ref w_hits_a1)])) _
    refine XS.dup X12.here hx rfl (hb hby d4_64) rfl rfl ?_
    show Steps p.tables e below (T12.setTop (mkF m 65 #[.val (.ref a1), .val (.int p2), .val (.int p3)] [(.ref a1), (.ref a1), (.ref w_hits_a1)])) _
    exact kt
  obtain ⟨T15, X15, e15, st15⟩ := getF X12 hx hZ hown (host := "") (Or.inl (hw _ (mgE 24 rfl))) Via.refl e12 F_size_a1 (g := (mkF m 65 #[.val (.ref a1), .val (.int p2), .val (.int p3)] [(.ref a1), (.ref a1), (.ref w_hits_a1)])) rfl rfl (hb hby d4_65)
  have pre16 : ∀ t, Steps p.tables e below (T15.setTop (mkF m 68 #[.val (.ref a1), .val (.int p2), .val (.int p3)] [(.int (2 : Int32)), (.ref a1), (.ref w_hits_a1)])) t → Steps p.tables e below (s₁.setTop (entryFrame m #[(.ref a1), (.int p2), (.int p3)] 3)) t := fun t kt => pre14 t (st15 t kt)
  have pre17 : ∀ t, Steps p.tables e below (T15.setTop (mkF m 71 #[.val (.ref a1), .val (.int p2), .val (.int p3)] [(.int (3 : Int32)), (.ref a1), (.int (2 : Int32)), (.ref w_hits_a1)])) t → Steps p.tables e below (s₁.setTop (entryFrame m #[(.ref a1), (.int p2), (.int p3)] 3)) t := fun t kt => by
    refine pre16 t ?_
    refine XS.dupX1 X15.here hx rfl (hb hby d4_68) rfl rfl rfl ?_
    show Steps p.tables e below (T15.setTop (mkF m 69 #[.val (.ref a1), .val (.int p2), .val (.int p3)] [(.int (2 : Int32)), (.ref a1), (.int (2 : Int32)), (.ref w_hits_a1)])) _
    refine XS.iconst X15.here hx rfl (hb hby d4_69) ?_
    show Steps p.tables e below (T15.setTop (mkF m 70 #[.val (.ref a1), .val (.int p2), .val (.int p3)] [(.int (1 : Int32)), (.int (2 : Int32)), (.ref a1), (.int (2 : Int32)), (.ref w_hits_a1)])) _
    refine XS.iadd X15.here hx rfl (hb hby d4_70) rfl ?_
    show Steps p.tables e below (T15.setTop (mkF m 71 #[.val (.ref a1), .val (.int p2), .val (.int p3)] [(.int (3 : Int32)), (.ref a1), (.int (2 : Int32)), (.ref w_hits_a1)])) _
    exact kt
  obtain ⟨T18, h18, X18, e18, W18, st18⟩ := putF X15 hx hZ hown (host := "") (Or.inl (hw _ (mgE 24 rfl))) Via.refl e15 F_size_a1 E_a1 (Or.inl (hw _ (mgE 25 rfl))) (hw _ (mgE 6 rfl)) (ty := .int) (by decide) rfl rfl (g := (mkF m 71 #[.val (.ref a1), .val (.int p2), .val (.int p3)] [(.int (3 : Int32)), (.ref a1), (.int (2 : Int32)), (.ref w_hits_a1)])) rfl rfl (hb hby d4_71)
  have F20_18 := F_hits_a1.other W18 (Or.inr (slot_ne (Or.inl (hw _ (mgE 16 rfl))) (Or.inl (hw _ (mgE 25 rfl))) (by decide) (t := (.array .long)) (t' := .int) (by decide) (by decide)))
  have F21_18 := V_w_hits_a1.other W18 ne_w_hits_a1_a1
  have F22_18 := F_words_a1.other W18 (Or.inr (slot_ne (Or.inr (hw _ (mgE 18 rfl))) (Or.inl (hw _ (mgE 25 rfl))) (by decide) (t := .int) (t' := .int) (by decide) (by decide)))
  have F23_18 := E_a1.wr W18
  have Fw18 := F_size_a1.same W18
  have K18 : Keep h0 h18 [a1, w_hits_a1] := (Keep.refl h0 [a1, w_hits_a1]).wr W18 (Or.inl (mgE 0 rfl))
  have pre24 : ∀ t, Steps p.tables e below (T18.setTop (mkF m 74 #[.val (.ref a1), .val (.int p2), .val (.int p3)] [(.int (2 : Int32)), (.ref w_hits_a1)])) t → Steps p.tables e below (s₁.setTop (entryFrame m #[(.ref a1), (.int p2), (.int p3)] 3)) t := fun t kt => pre17 t (st18 t kt)
  have N18 := Fr.snoc X18 N0 g_a1
  have pre25 : ∀ t, Steps p.tables e below (T18.setTop (mkF m 82 #[.val (.ref a1), .val (.int p2), .val (.int p3)] [(.long (((p3.toInt64) <<< ((32 : Int32) &&& 0x3f).toInt64) ||| (p2.toInt64))), (.int (2 : Int32)), (.ref w_hits_a1)])) t → Steps p.tables e below (s₁.setTop (entryFrame m #[(.ref a1), (.int p2), (.int p3)] 3)) t := fun t kt => by
    refine pre24 t ?_
    refine XS.iloadN X18.here hx rfl (hb hby d4_74) rfl ?_
    show Steps p.tables e below (T18.setTop (mkF m 75 #[.val (.ref a1), .val (.int p2), .val (.int p3)] [(.int p3), (.int (2 : Int32)), (.ref w_hits_a1)])) _
    refine XS.i2l X18.here hx rfl (hb hby d4_75) rfl ?_
    show Steps p.tables e below (T18.setTop (mkF m 76 #[.val (.ref a1), .val (.int p2), .val (.int p3)] [(.long (p3.toInt64)), (.int (2 : Int32)), (.ref w_hits_a1)])) _
    refine XS.bipush X18.here hx rfl (hb hby d4_76) ?_
    show Steps p.tables e below (T18.setTop (mkF m 78 #[.val (.ref a1), .val (.int p2), .val (.int p3)] [(.int (32 : Int32)), (.long (p3.toInt64)), (.int (2 : Int32)), (.ref w_hits_a1)])) _
    refine XS.lshl X18.here hx rfl (hb hby d4_78) rfl ?_
    show Steps p.tables e below (T18.setTop (mkF m 79 #[.val (.ref a1), .val (.int p2), .val (.int p3)] [(.long ((p3.toInt64) <<< ((32 : Int32) &&& 0x3f).toInt64)), (.int (2 : Int32)), (.ref w_hits_a1)])) _
    refine XS.iloadN X18.here hx rfl (hb hby d4_79) rfl ?_
    show Steps p.tables e below (T18.setTop (mkF m 80 #[.val (.ref a1), .val (.int p2), .val (.int p3)] [(.int p2), (.long ((p3.toInt64) <<< ((32 : Int32) &&& 0x3f).toInt64)), (.int (2 : Int32)), (.ref w_hits_a1)])) _
    refine XS.i2l X18.here hx rfl (hb hby d4_80) rfl ?_
    show Steps p.tables e below (T18.setTop (mkF m 81 #[.val (.ref a1), .val (.int p2), .val (.int p3)] [(.long (p2.toInt64)), (.long ((p3.toInt64) <<< ((32 : Int32) &&& 0x3f).toInt64)), (.int (2 : Int32)), (.ref w_hits_a1)])) _
    refine XS.lor X18.here hx rfl (hb hby d4_81) rfl ?_
    show Steps p.tables e below (T18.setTop (mkF m 82 #[.val (.ref a1), .val (.int p2), .val (.int p3)] [(.long (((p3.toInt64) <<< ((32 : Int32) &&& 0x3f).toInt64) ||| (p2.toInt64))), (.int (2 : Int32)), (.ref w_hits_a1)])) _
    exact kt
  obtain ⟨cl26, Ar26, S26, Ng26, H26⟩ := id F21_18
  have hj26 : ¬ (2 : Int32) < 0 ∧ (2 : Int32) < (16 : Int32) := ⟨by decide, by decide⟩
  have hin26 := inb_of S26 hj26
  obtain ⟨T27, h27, X27, e27, W27, st27⟩ := stJ X18 hx hZ e18 Ar26 (j := (2 : Int32)) hin26 (g := (mkF m 82 #[.val (.ref a1), .val (.int p2), .val (.int p3)] [(.long (((p3.toInt64) <<< ((32 : Int32) &&& 0x3f).toInt64) ||| (p2.toInt64))), (.int (2 : Int32)), (.ref w_hits_a1)])) rfl rfl (hb hby d4_82)
  have F28_27 := Fw18.other W27 (Or.inl (Ne.symm ne_w_hits_a1_a1))
  have F29_27 := F20_18.other W27 (Or.inl (Ne.symm ne_w_hits_a1_a1))
  have F31_27 := F22_18.other W27 (Or.inl (Ne.symm ne_w_hits_a1_a1))
  have F32_27 := F23_18.wr W27
  have V27_w_hits_a1 : Arf Z h27 w_hits_a1 .long (16 : Int32) (fun i => (.long ((own_upd el_w_hits_a1 ((2 : Int32)).toNatClampNeg (((p3.toInt64) <<< ((32 : Int32) &&& 0x3f).toInt64) ||| (p2.toInt64))) i))) := upd_long _ _ _ ▸ (F21_18.set W27)
  have K27 : Keep h0 h27 [a1, w_hits_a1] := K18.wr W27 (Or.inl (mgE 1 rfl))
  have pre33 : ∀ t, Steps p.tables e below (T27.setTop (mkF m 83 #[.val (.ref a1), .val (.int p2), .val (.int p3)] [])) t → Steps p.tables e below (s₁.setTop (entryFrame m #[(.ref a1), (.int p2), (.int p3)] 3)) t := fun t kt => pre25 t (st27 t kt)
  have N27 := Fr.snoc X27 N18 g_w_hits_a1
  obtain ⟨fs, hr, hrun, hended, hW, hsame⟩ := X27.leave (v := none) (fun _ => rfl)
  refine ⟨_, _, pre33 _ ?_, hrun, hended, _, _, rfl, ?_, ⟨_, rfl⟩, hW, hsame.mono (by decide) (by decide)⟩
  · exact X27.returnOut hx Bd.returns (hb hby d4_83) hr
  · show Q4s2 Z a1 p2 p3 w_hits_a1 el_w_hits_a1 w_words_a1 h0 n0 _ T27.heap _
    rw [e27]
    exact ⟨rfl, N27, K27, F32_27, F29_27, F28_27, F31_27, V27_w_hits_a1⟩
theorem d10_0 : decode jdk_2529_method_15_code 0 = .ok (.iload_n 1, 1) := by decide +kernel
theorem d10_1 : decode jdk_2529_method_15_code 1 = .ok (.istore 4, 2) := by decide +kernel
theorem d10_3 : decode jdk_2529_method_15_code 3 = .ok (.iinc 4 1, 3) := by decide +kernel
theorem d10_6 : decode jdk_2529_method_15_code 6 = .ok (.iload 4, 2) := by decide +kernel
theorem d10_8 : decode jdk_2529_method_15_code 8 = .ok (.iload_n 2, 1) := by decide +kernel
theorem d10_9 : decode jdk_2529_method_15_code 9 = .ok (.if_icmp .ge 60, 3) := by decide +kernel
theorem d10_12 : decode jdk_2529_method_15_code 12 = .ok (.aload_n 0, 1) := by decide +kernel
theorem d10_13 : decode jdk_2529_method_15_code 13 = .ok (.iload 4, 2) := by decide +kernel
theorem d10_15 : decode jdk_2529_method_15_code 15 = .ok (.dup, 1) := by decide +kernel
theorem d10_16 : decode jdk_2529_method_15_code 16 = .ok (.istore_n 3, 1) := by decide +kernel
theorem d10_17 : decode jdk_2529_method_15_code 17 = .ok (.laload, 1) := by decide +kernel
theorem d10_18 : decode jdk_2529_method_15_code 18 = .ok (.lstore 5, 2) := by decide +kernel
theorem d10_20 : decode jdk_2529_method_15_code 20 = .ok (.lload 5, 2) := by decide +kernel
theorem d10_22 : decode jdk_2529_method_15_code 22 = .ok (.aload_n 0, 1) := by decide +kernel
theorem d10_23 : decode jdk_2529_method_15_code 23 = .ok (.iload_n 3, 1) := by decide +kernel
theorem d10_24 : decode jdk_2529_method_15_code 24 = .ok (.iconst 1, 1) := by decide +kernel
theorem d10_25 : decode jdk_2529_method_15_code 25 = .ok (.isub, 1) := by decide +kernel
theorem d10_26 : decode jdk_2529_method_15_code 26 = .ok (.laload, 1) := by decide +kernel
theorem d10_27 : decode jdk_2529_method_15_code 27 = .ok (.lcmp, 1) := by decide +kernel
theorem d10_28 : decode jdk_2529_method_15_code 28 = .ok (.ifCond .ge 38, 3) := by decide +kernel
theorem d10_31 : decode jdk_2529_method_15_code 31 = .ok (.iinc 3 (-1), 3) := by decide +kernel
theorem d10_34 : decode jdk_2529_method_15_code 34 = .ok (.iload_n 3, 1) := by decide +kernel
theorem d10_35 : decode jdk_2529_method_15_code 35 = .ok (.iload_n 1, 1) := by decide +kernel
theorem d10_36 : decode jdk_2529_method_15_code 36 = .ok (.if_icmp .lt 23, 3) := by decide +kernel
theorem d10_39 : decode jdk_2529_method_15_code 39 = .ok (.lload 5, 2) := by decide +kernel
theorem d10_41 : decode jdk_2529_method_15_code 41 = .ok (.aload_n 0, 1) := by decide +kernel
theorem d10_42 : decode jdk_2529_method_15_code 42 = .ok (.iload_n 3, 1) := by decide +kernel
theorem d10_43 : decode jdk_2529_method_15_code 43 = .ok (.laload, 1) := by decide +kernel
theorem d10_44 : decode jdk_2529_method_15_code 44 = .ok (.lcmp, 1) := by decide +kernel
theorem d10_45 : decode jdk_2529_method_15_code 45 = .ok (.ifCond .ge 14, 3) := by decide +kernel
theorem d10_48 : decode jdk_2529_method_15_code 48 = .ok (.aload_n 0, 1) := by decide +kernel
theorem d10_49 : decode jdk_2529_method_15_code 49 = .ok (.iload_n 3, 1) := by decide +kernel
theorem d10_50 : decode jdk_2529_method_15_code 50 = .ok (.iconst 1, 1) := by decide +kernel
theorem d10_51 : decode jdk_2529_method_15_code 51 = .ok (.iadd, 1) := by decide +kernel
theorem d10_52 : decode jdk_2529_method_15_code 52 = .ok (.aload_n 0, 1) := by decide +kernel
theorem d10_53 : decode jdk_2529_method_15_code 53 = .ok (.iload_n 3, 1) := by decide +kernel
theorem d10_54 : decode jdk_2529_method_15_code 54 = .ok (.laload, 1) := by decide +kernel
theorem d10_55 : decode jdk_2529_method_15_code 55 = .ok (.lastore, 1) := by decide +kernel
theorem d10_56 : decode jdk_2529_method_15_code 56 = .ok (.goto (-25), 3) := by decide +kernel
theorem d10_59 : decode jdk_2529_method_15_code 59 = .ok (.aload_n 0, 1) := by decide +kernel
theorem d10_60 : decode jdk_2529_method_15_code 60 = .ok (.iload_n 3, 1) := by decide +kernel
theorem d10_61 : decode jdk_2529_method_15_code 61 = .ok (.iconst 1, 1) := by decide +kernel
theorem d10_62 : decode jdk_2529_method_15_code 62 = .ok (.iadd, 1) := by decide +kernel
theorem d10_63 : decode jdk_2529_method_15_code 63 = .ok (.lload 5, 2) := by decide +kernel
theorem d10_65 : decode jdk_2529_method_15_code 65 = .ok (.lastore, 1) := by decide +kernel
theorem d10_66 : decode jdk_2529_method_15_code 66 = .ok (.goto (-63), 3) := by decide +kernel
theorem d10_69 : decode jdk_2529_method_15_code 69 = .ok (.return_, 1) := by decide +kernel
theorem pn_java_util_DualPivotQuicksort : plainName "java/util/DualPivotQuicksort" = true := by first | (simp [plainName, overriddenIn]; done) | decide +kernel
theorem ef_10 (m : MethodId) (x0 : Addr) : entryFrame m #[(.ref x0), (.int (0 : Int32)), (.int (3 : Int32))] 7 = mkF m 0 #[.val (.ref x0), .val (.int (0 : Int32)), .val (.int (3 : Int32)), .unset, .unset, .unset, .unset] [] := by first | (simp [entryFrame, mkF, argsToLocals, Value.category]; done) | rfl
def srt (el_a1 : Nat → Int64) : Nat → Int64 := (if (lcmpW (el_a1 ((1 : Int32)).toNatClampNeg) (el_a1 ((0 : Int32)).toNatClampNeg)) < (0 : Int32) then (if (lcmpW (el_a1 ((2 : Int32)).toNatClampNeg) (el_a1 ((0 : Int32)).toNatClampNeg)) < (0 : Int32) then (if (lcmpW (el_a1 ((2 : Int32)).toNatClampNeg) (el_a1 ((1 : Int32)).toNatClampNeg)) < (0 : Int32) then (own_upd (own_upd (own_upd (own_upd (own_upd el_a1 ((1 : Int32)).toNatClampNeg (el_a1 ((0 : Int32)).toNatClampNeg)) ((0 : Int32)).toNatClampNeg (el_a1 ((1 : Int32)).toNatClampNeg)) ((2 : Int32)).toNatClampNeg (el_a1 ((0 : Int32)).toNatClampNeg)) ((1 : Int32)).toNatClampNeg (el_a1 ((1 : Int32)).toNatClampNeg)) ((0 : Int32)).toNatClampNeg (el_a1 ((2 : Int32)).toNatClampNeg)) else (own_upd (own_upd (own_upd (own_upd el_a1 ((1 : Int32)).toNatClampNeg (el_a1 ((0 : Int32)).toNatClampNeg)) ((0 : Int32)).toNatClampNeg (el_a1 ((1 : Int32)).toNatClampNeg)) ((2 : Int32)).toNatClampNeg (el_a1 ((0 : Int32)).toNatClampNeg)) ((1 : Int32)).toNatClampNeg (el_a1 ((2 : Int32)).toNatClampNeg))) else (own_upd (own_upd el_a1 ((1 : Int32)).toNatClampNeg (el_a1 ((0 : Int32)).toNatClampNeg)) ((0 : Int32)).toNatClampNeg (el_a1 ((1 : Int32)).toNatClampNeg))) else (if (lcmpW (el_a1 ((2 : Int32)).toNatClampNeg) (el_a1 ((1 : Int32)).toNatClampNeg)) < (0 : Int32) then (if (lcmpW (el_a1 ((2 : Int32)).toNatClampNeg) (el_a1 ((0 : Int32)).toNatClampNeg)) < (0 : Int32) then (own_upd (own_upd (own_upd el_a1 ((2 : Int32)).toNatClampNeg (el_a1 ((1 : Int32)).toNatClampNeg)) ((1 : Int32)).toNatClampNeg (el_a1 ((0 : Int32)).toNatClampNeg)) ((0 : Int32)).toNatClampNeg (el_a1 ((2 : Int32)).toNatClampNeg)) else (own_upd (own_upd el_a1 ((2 : Int32)).toNatClampNeg (el_a1 ((1 : Int32)).toNatClampNeg)) ((1 : Int32)).toNatClampNeg (el_a1 ((2 : Int32)).toNatClampNeg))) else el_a1))
def Q10 (Z : State) (a1 : Addr) (el_a1 : Nat → Int64) (h0 : Heap) (n0 : Nat) (v : Option Value) (h : Heap) (L : List Loc) : Prop := v = none ∧ Fr n0 L ∧ Keep h0 h [a1] ∧ Arf Z h a1 .long (16 : Int32) (fun i => (.long ((srt el_a1) i)))
set_option maxRecDepth 65536 in
set_option maxHeartbeats 40000000 in
theorem rm10 (l : Launch) (Z : State) (a0 : Array Value) (hw : ∀ d ∈ tables_1, d.before a0 Z = true) (ws : List Jvm.Cond) (a1 : Addr) (el_a1 : Nat → Int64) (h0 : Heap) (n0 : Nat) (Z0 : n0 ≤ h0.size) (V_a1 : Arf Z h0 a1 .long (16 : Int32) (fun i => (.long (el_a1 i)))) (g_a1 : n0 ≤ a1) :
    MetFree l (⟨"java/util/DualPivotQuicksort", "insertionSort", "([JII)V"⟩ : MethodName) (head1 (Jvm.Cond.code (⟨"java/util/DualPivotQuicksort", "insertionSort", "([JII)V"⟩ : MethodName) jdk_2529_method_15_code 7 none :: ws) ({ frames := 0, cells := 0, slots := 0, locals := 0 } : Room)) (fun a U => a = #[(.ref a1), (.int (0 : Int32)), (.int (3 : Int32))] ∧ Z.Warmed39 U.vm ∧ U.heap = h0) (fun _ _ _ _ _ => True) (fun _ U o U' => ∃ v L, o = .returned v ∧ Q10 Z a1 el_a1 h0 n0 v U'.heap L ∧ FrameEnd U o U' L ({ frames := 0, cells := 0, slots := 0, locals := 0 } : Room).cells ({ frames := 0, cells := 0, slots := 0, locals := 0 } : Room).slots) := by
  refine MetFree.of_bodySF (plainFor_of_name pn_java_util_DualPivotQuicksort) hisR ?_
  intro p e s m args below meth c s₁ Bd hml0 hP hK
  obtain ⟨rfl, hZ, hh⟩ := hP
  have hx := Bd.exec
  have hby := Bd.bytes
  have hml : c.maxLocals = 7 := hml0
  have hown : s.vm.findClass "java/util/DualPivotQuicksort" = some m.cls := findClass_of_methodNamed Bd.named
  have hnm := (name_of_methodNamed Bd.named Bd.method).1
  have X0 : Stand p l e ({ frames := 0, cells := 0, slots := 0, locals := 0 } : Room) s m #[(.ref a1), (.int (0 : Int32)), (.int (3 : Int32))] below meth c s₁ [] 0 0 := Stand.of_body Bd
  have e0 : s₁.heap = h0 := by rw [← hh, Bd.state]; rfl
  have N0 := Fr.nil n0
  have pre0 : ∀ t, Steps p.tables e below (s₁.setTop (mkF m 0 #[.val (.ref a1), .val (.int (0 : Int32)), .val (.int (3 : Int32)), .unset, .unset, .unset, .unset] [])) t → Steps p.tables e below (s₁.setTop (entryFrame m #[(.ref a1), (.int (0 : Int32)), (.int (3 : Int32))] 7)) t := fun t k => castTop (ef_10 m a1) k
  have pre1 : ∀ t, Steps p.tables e below (s₁.setTop (mkF m 17 #[.val (.ref a1), .val (.int (0 : Int32)), .val (.int (3 : Int32)), .val (.int (1 : Int32)), .val (.int (1 : Int32)), .unset, .unset] [(.int (1 : Int32)), (.ref a1)])) t → Steps p.tables e below (s₁.setTop (entryFrame m #[(.ref a1), (.int (0 : Int32)), (.int (3 : Int32))] 7)) t := fun t kt => by
    refine pre0 t ?_
    refine XS.iloadN X0.here hx rfl (hb hby d10_0) rfl ?_
    show Steps p.tables e below (s₁.setTop (mkF m 1 #[.val (.ref a1), .val (.int (0 : Int32)), .val (.int (3 : Int32)), .unset, .unset, .unset, .unset] [(.int (0 : Int32))])) _
    refine XS.istore X0.here hx rfl (hb hby d10_1) rfl (l' := #[.val (.ref a1), .val (.int (0 : Int32)), .val (.int (3 : Int32)), .unset, .val (.int (0 : Int32)), .unset, .unset]) rfl ?_
    show Steps p.tables e below (s₁.setTop (mkF m 3 #[.val (.ref a1), .val (.int (0 : Int32)), .val (.int (3 : Int32)), .unset, .val (.int (0 : Int32)), .unset, .unset] [])) _
    refine XS.iinc X0.here hx rfl (hb hby d10_3) rfl (l' := #[.val (.ref a1), .val (.int (0 : Int32)), .val (.int (3 : Int32)), .unset, .val (.int (1 : Int32)), .unset, .unset]) rfl ?_
    show Steps p.tables e below (s₁.setTop (mkF m 6 #[.val (.ref a1), .val (.int (0 : Int32)), .val (.int (3 : Int32)), .unset, .val (.int (1 : Int32)), .unset, .unset] [])) _
    refine XS.iload X0.here hx rfl (hb hby d10_6) rfl ?_
    show Steps p.tables e below (s₁.setTop (mkF m 8 #[.val (.ref a1), .val (.int (0 : Int32)), .val (.int (3 : Int32)), .unset, .val (.int (1 : Int32)), .unset, .unset] [(.int (1 : Int32))])) _
    refine XS.iloadN X0.here hx rfl (hb hby d10_8) rfl ?_
    show Steps p.tables e below (s₁.setTop (mkF m 9 #[.val (.ref a1), .val (.int (0 : Int32)), .val (.int (3 : Int32)), .unset, .val (.int (1 : Int32)), .unset, .unset] [(.int (3 : Int32)), (.int (1 : Int32))])) _
    refine XS.icmpNo X0.here hx rfl (hb hby d10_9) rfl (tlt (by decide : (1 : Int32) < (3 : Int32))).2.1 ?_
    show Steps p.tables e below (s₁.setTop (mkF m 12 #[.val (.ref a1), .val (.int (0 : Int32)), .val (.int (3 : Int32)), .unset, .val (.int (1 : Int32)), .unset, .unset] [])) _
    refine XS.aloadN X0.here hx rfl (hb hby d10_12) rfl rfl ?_
    show Steps p.tables e below (s₁.setTop (mkF m 13 #[.val (.ref a1), .val (.int (0 : Int32)), .val (.int (3 : Int32)), .unset, .val (.int (1 : Int32)), .unset, .unset] [(.ref a1)])) _
    refine XS.iload X0.here hx rfl (hb hby d10_13) rfl ?_
    show Steps p.tables e below (s₁.setTop (mkF m 15 #[.val (.ref a1), .val (.int (0 : Int32)), .val (.int (3 : Int32)), .unset, .val (.int (1 : Int32)), .unset, .unset] [(.int (1 : Int32)), (.ref a1)])) _
    refine XS.dup X0.here hx rfl (hb hby d10_15) rfl rfl ?_
    show Steps p.tables e below (s₁.setTop (mkF m 16 #[.val (.ref a1), .val (.int (0 : Int32)), .val (.int (3 : Int32)), .unset, .val (.int (1 : Int32)), .unset, .unset] [(.int (1 : Int32)), (.int (1 : Int32)), (.ref a1)])) _
    refine XS.istoreN X0.here hx rfl (hb hby d10_16) rfl (l' := #[.val (.ref a1), .val (.int (0 : Int32)), .val (.int (3 : Int32)), .val (.int (1 : Int32)), .val (.int (1 : Int32)), .unset, .unset]) rfl ?_
    show Steps p.tables e below (s₁.setTop (mkF m 17 #[.val (.ref a1), .val (.int (0 : Int32)), .val (.int (3 : Int32)), .val (.int (1 : Int32)), .val (.int (1 : Int32)), .unset, .unset] [(.int (1 : Int32)), (.ref a1)])) _
    exact kt
  obtain ⟨cl2, Ar2, S2, Ng2, H2⟩ := id V_a1
  have hj2 : ¬ (1 : Int32) < 0 ∧ (1 : Int32) < (16 : Int32) := ⟨by decide, by decide⟩
  have hin2 := inb_of S2 hj2
  have lt2 : ((1 : Int32)).toNatClampNeg < ((16 : Int32)).toNatClampNeg := by rw [← S2]; exact Nat.lt_of_not_le fun q => hin2 (Or.inr q)
  have hv2 : ((.long (el_a1 ((1 : Int32)).toNatClampNeg)) : Value) = (.long (el_a1 ((1 : Int32)).toNatClampNeg)) := rfl
  have pre3 : ∀ t, Steps p.tables e below (s₁.setTop (mkF m 26 #[.val (.ref a1), .val (.int (0 : Int32)), .val (.int (3 : Int32)), .val (.int (1 : Int32)), .val (.int (1 : Int32)), .val (.long (el_a1 ((1 : Int32)).toNatClampNeg)), .second] [(.int (0 : Int32)), (.ref a1), (.long (el_a1 ((1 : Int32)).toNatClampNeg))])) t → Steps p.tables e below (s₁.setTop (entryFrame m #[(.ref a1), (.int (0 : Int32)), (.int (3 : Int32))] 7)) t := fun t kt => by
    refine pre1 t ?_
    refine X0.laload hx (j := (1 : Int32)) (v := (.long (el_a1 ((1 : Int32)).toNatClampNeg))) (by rw [e0]; exact Ar2.1) (State.isArrayOf_alike hZ.alike Ar2.2.1) Ar2.2.2 hin2 ((H2 _ lt2).trans (congrArg some hv2)) (g := (mkF m 17 #[.val (.ref a1), .val (.int (0 : Int32)), .val (.int (3 : Int32)), .val (.int (1 : Int32)), .val (.int (1 : Int32)), .unset, .unset] [(.int (1 : Int32)), (.ref a1)])) rfl rfl (hb hby d10_17) _ ?_
    show Steps p.tables e below (s₁.setTop (mkF m 18 #[.val (.ref a1), .val (.int (0 : Int32)), .val (.int (3 : Int32)), .val (.int (1 : Int32)), .val (.int (1 : Int32)), .unset, .unset] [(.long (el_a1 ((1 : Int32)).toNatClampNeg))])) _
    refine XS.lstore X0.here hx rfl (hb hby d10_18) rfl (l' := #[.val (.ref a1), .val (.int (0 : Int32)), .val (.int (3 : Int32)), .val (.int (1 : Int32)), .val (.int (1 : Int32)), .val (.long (el_a1 ((1 : Int32)).toNatClampNeg)), .second]) rfl ?_
    show Steps p.tables e below (s₁.setTop (mkF m 20 #[.val (.ref a1), .val (.int (0 : Int32)), .val (.int (3 : Int32)), .val (.int (1 : Int32)), .val (.int (1 : Int32)), .val (.long (el_a1 ((1 : Int32)).toNatClampNeg)), .second] [])) _
    refine XS.lload X0.here hx rfl (hb hby d10_20) rfl ?_
    show Steps p.tables e below (s₁.setTop (mkF m 22 #[.val (.ref a1), .val (.int (0 : Int32)), .val (.int (3 : Int32)), .val (.int (1 : Int32)), .val (.int (1 : Int32)), .val (.long (el_a1 ((1 : Int32)).toNatClampNeg)), .second] [(.long (el_a1 ((1 : Int32)).toNatClampNeg))])) _
    refine XS.aloadN X0.here hx rfl (hb hby d10_22) rfl rfl ?_
    show Steps p.tables e below (s₁.setTop (mkF m 23 #[.val (.ref a1), .val (.int (0 : Int32)), .val (.int (3 : Int32)), .val (.int (1 : Int32)), .val (.int (1 : Int32)), .val (.long (el_a1 ((1 : Int32)).toNatClampNeg)), .second] [(.ref a1), (.long (el_a1 ((1 : Int32)).toNatClampNeg))])) _
    refine XS.iloadN X0.here hx rfl (hb hby d10_23) rfl ?_
    show Steps p.tables e below (s₁.setTop (mkF m 24 #[.val (.ref a1), .val (.int (0 : Int32)), .val (.int (3 : Int32)), .val (.int (1 : Int32)), .val (.int (1 : Int32)), .val (.long (el_a1 ((1 : Int32)).toNatClampNeg)), .second] [(.int (1 : Int32)), (.ref a1), (.long (el_a1 ((1 : Int32)).toNatClampNeg))])) _
    refine XS.iconst X0.here hx rfl (hb hby d10_24) ?_
    show Steps p.tables e below (s₁.setTop (mkF m 25 #[.val (.ref a1), .val (.int (0 : Int32)), .val (.int (3 : Int32)), .val (.int (1 : Int32)), .val (.int (1 : Int32)), .val (.long (el_a1 ((1 : Int32)).toNatClampNeg)), .second] [(.int (1 : Int32)), (.int (1 : Int32)), (.ref a1), (.long (el_a1 ((1 : Int32)).toNatClampNeg))])) _
    refine XS.isub X0.here hx rfl (hb hby d10_25) rfl ?_
    show Steps p.tables e below (s₁.setTop (mkF m 26 #[.val (.ref a1), .val (.int (0 : Int32)), .val (.int (3 : Int32)), .val (.int (1 : Int32)), .val (.int (1 : Int32)), .val (.long (el_a1 ((1 : Int32)).toNatClampNeg)), .second] [(.int (0 : Int32)), (.ref a1), (.long (el_a1 ((1 : Int32)).toNatClampNeg))])) _
    exact kt
  obtain ⟨cl4, Ar4, S4, Ng4, H4⟩ := id V_a1
  have hj4 : ¬ (0 : Int32) < 0 ∧ (0 : Int32) < (16 : Int32) := ⟨by decide, by decide⟩
  have hin4 := inb_of S4 hj4
  have lt4 : ((0 : Int32)).toNatClampNeg < ((16 : Int32)).toNatClampNeg := by rw [← S4]; exact Nat.lt_of_not_le fun q => hin4 (Or.inr q)
  have hv4 : ((.long (el_a1 ((0 : Int32)).toNatClampNeg)) : Value) = (.long (el_a1 ((0 : Int32)).toNatClampNeg)) := rfl
  by_cases hc28 : (lcmpW (el_a1 ((1 : Int32)).toNatClampNeg) (el_a1 ((0 : Int32)).toNatClampNeg)) < (0 : Int32)
  · skip
    have pre5 : ∀ t, Steps p.tables e below (s₁.setTop (mkF m 43 #[.val (.ref a1), .val (.int (0 : Int32)), .val (.int (3 : Int32)), .val (.int (0 : Int32)), .val (.int (1 : Int32)), .val (.long (el_a1 ((1 : Int32)).toNatClampNeg)), .second] [(.int (0 : Int32)), (.ref a1), (.long (el_a1 ((1 : Int32)).toNatClampNeg))])) t → Steps p.tables e below (s₁.setTop (entryFrame m #[(.ref a1), (.int (0 : Int32)), (.int (3 : Int32))] 7)) t := fun t kt => by
      refine pre3 t ?_
      refine X0.laload hx (j := (0 : Int32)) (v := (.long (el_a1 ((0 : Int32)).toNatClampNeg))) (by rw [e0]; exact Ar4.1) (State.isArrayOf_alike hZ.alike Ar4.2.1) Ar4.2.2 hin4 ((H4 _ lt4).trans (congrArg some hv4)) (g := (mkF m 26 #[.val (.ref a1), .val (.int (0 : Int32)), .val (.int (3 : Int32)), .val (.int (1 : Int32)), .val (.int (1 : Int32)), .val (.long (el_a1 ((1 : Int32)).toNatClampNeg)), .second] [(.int (0 : Int32)), (.ref a1), (.long (el_a1 ((1 : Int32)).toNatClampNeg))])) rfl rfl (hb hby d10_26) _ ?_
      show Steps p.tables e below (s₁.setTop (mkF m 27 #[.val (.ref a1), .val (.int (0 : Int32)), .val (.int (3 : Int32)), .val (.int (1 : Int32)), .val (.int (1 : Int32)), .val (.long (el_a1 ((1 : Int32)).toNatClampNeg)), .second] [(.long (el_a1 ((0 : Int32)).toNatClampNeg)), (.long (el_a1 ((1 : Int32)).toNatClampNeg))])) _
      refine XS.lcmp X0.here hx rfl (hb hby d10_27) rfl ?_
      show Steps p.tables e below (s₁.setTop (mkF m 28 #[.val (.ref a1), .val (.int (0 : Int32)), .val (.int (3 : Int32)), .val (.int (1 : Int32)), .val (.int (1 : Int32)), .val (.long (el_a1 ((1 : Int32)).toNatClampNeg)), .second] [(.int (lcmpW (el_a1 ((1 : Int32)).toNatClampNeg) (el_a1 ((0 : Int32)).toNatClampNeg)))])) _
      refine XS.ifNo X0.here hx rfl (hb hby d10_28) rfl ((if0 _ _).trans (tlt hc28).2.1) ?_
      show Steps p.tables e below (s₁.setTop (mkF m 31 #[.val (.ref a1), .val (.int (0 : Int32)), .val (.int (3 : Int32)), .val (.int (1 : Int32)), .val (.int (1 : Int32)), .val (.long (el_a1 ((1 : Int32)).toNatClampNeg)), .second] [])) _
      refine XS.iinc X0.here hx rfl (hb hby d10_31) rfl (l' := #[.val (.ref a1), .val (.int (0 : Int32)), .val (.int (3 : Int32)), .val (.int (0 : Int32)), .val (.int (1 : Int32)), .val (.long (el_a1 ((1 : Int32)).toNatClampNeg)), .second]) rfl ?_
      show Steps p.tables e below (s₁.setTop (mkF m 34 #[.val (.ref a1), .val (.int (0 : Int32)), .val (.int (3 : Int32)), .val (.int (0 : Int32)), .val (.int (1 : Int32)), .val (.long (el_a1 ((1 : Int32)).toNatClampNeg)), .second] [])) _
      refine XS.iloadN X0.here hx rfl (hb hby d10_34) rfl ?_
      show Steps p.tables e below (s₁.setTop (mkF m 35 #[.val (.ref a1), .val (.int (0 : Int32)), .val (.int (3 : Int32)), .val (.int (0 : Int32)), .val (.int (1 : Int32)), .val (.long (el_a1 ((1 : Int32)).toNatClampNeg)), .second] [(.int (0 : Int32))])) _
      refine XS.iloadN X0.here hx rfl (hb hby d10_35) rfl ?_
      show Steps p.tables e below (s₁.setTop (mkF m 36 #[.val (.ref a1), .val (.int (0 : Int32)), .val (.int (3 : Int32)), .val (.int (0 : Int32)), .val (.int (1 : Int32)), .val (.long (el_a1 ((1 : Int32)).toNatClampNeg)), .second] [(.int (0 : Int32)), (.int (0 : Int32))])) _
      refine XS.icmpNo X0.here hx rfl (hb hby d10_36) rfl (flt (by decide : ¬ ((0 : Int32) < (0 : Int32)))).1 ?_
      show Steps p.tables e below (s₁.setTop (mkF m 39 #[.val (.ref a1), .val (.int (0 : Int32)), .val (.int (3 : Int32)), .val (.int (0 : Int32)), .val (.int (1 : Int32)), .val (.long (el_a1 ((1 : Int32)).toNatClampNeg)), .second] [])) _
      refine XS.lload X0.here hx rfl (hb hby d10_39) rfl ?_
      show Steps p.tables e below (s₁.setTop (mkF m 41 #[.val (.ref a1), .val (.int (0 : Int32)), .val (.int (3 : Int32)), .val (.int (0 : Int32)), .val (.int (1 : Int32)), .val (.long (el_a1 ((1 : Int32)).toNatClampNeg)), .second] [(.long (el_a1 ((1 : Int32)).toNatClampNeg))])) _
      refine XS.aloadN X0.here hx rfl (hb hby d10_41) rfl rfl ?_
      show Steps p.tables e below (s₁.setTop (mkF m 42 #[.val (.ref a1), .val (.int (0 : Int32)), .val (.int (3 : Int32)), .val (.int (0 : Int32)), .val (.int (1 : Int32)), .val (.long (el_a1 ((1 : Int32)).toNatClampNeg)), .second] [(.ref a1), (.long (el_a1 ((1 : Int32)).toNatClampNeg))])) _
      refine XS.iloadN X0.here hx rfl (hb hby d10_42) rfl ?_
      show Steps p.tables e below (s₁.setTop (mkF m 43 #[.val (.ref a1), .val (.int (0 : Int32)), .val (.int (3 : Int32)), .val (.int (0 : Int32)), .val (.int (1 : Int32)), .val (.long (el_a1 ((1 : Int32)).toNatClampNeg)), .second] [(.int (0 : Int32)), (.ref a1), (.long (el_a1 ((1 : Int32)).toNatClampNeg))])) _
      exact kt
    obtain ⟨cl6, Ar6, S6, Ng6, H6⟩ := id V_a1
    have hj6 : ¬ (0 : Int32) < 0 ∧ (0 : Int32) < (16 : Int32) := ⟨by decide, by decide⟩
    have hin6 := inb_of S6 hj6
    have lt6 : ((0 : Int32)).toNatClampNeg < ((16 : Int32)).toNatClampNeg := by rw [← S6]; exact Nat.lt_of_not_le fun q => hin6 (Or.inr q)
    have hv6 : ((.long (el_a1 ((0 : Int32)).toNatClampNeg)) : Value) = (.long (el_a1 ((0 : Int32)).toNatClampNeg)) := rfl
    have pre7 : ∀ t, Steps p.tables e below (s₁.setTop (mkF m 54 #[.val (.ref a1), .val (.int (0 : Int32)), .val (.int (3 : Int32)), .val (.int (0 : Int32)), .val (.int (1 : Int32)), .val (.long (el_a1 ((1 : Int32)).toNatClampNeg)), .second] [(.int (0 : Int32)), (.ref a1), (.int (1 : Int32)), (.ref a1)])) t → Steps p.tables e below (s₁.setTop (entryFrame m #[(.ref a1), (.int (0 : Int32)), (.int (3 : Int32))] 7)) t := fun t kt => by
      refine pre5 t ?_
      refine X0.laload hx (j := (0 : Int32)) (v := (.long (el_a1 ((0 : Int32)).toNatClampNeg))) (by rw [e0]; exact Ar6.1) (State.isArrayOf_alike hZ.alike Ar6.2.1) Ar6.2.2 hin6 ((H6 _ lt6).trans (congrArg some hv6)) (g := (mkF m 43 #[.val (.ref a1), .val (.int (0 : Int32)), .val (.int (3 : Int32)), .val (.int (0 : Int32)), .val (.int (1 : Int32)), .val (.long (el_a1 ((1 : Int32)).toNatClampNeg)), .second] [(.int (0 : Int32)), (.ref a1), (.long (el_a1 ((1 : Int32)).toNatClampNeg))])) rfl rfl (hb hby d10_43) _ ?_
      show Steps p.tables e below (s₁.setTop (mkF m 44 #[.val (.ref a1), .val (.int (0 : Int32)), .val (.int (3 : Int32)), .val (.int (0 : Int32)), .val (.int (1 : Int32)), .val (.long (el_a1 ((1 : Int32)).toNatClampNeg)), .second] [(.long (el_a1 ((0 : Int32)).toNatClampNeg)), (.long (el_a1 ((1 : Int32)).toNatClampNeg))])) _
      refine XS.lcmp X0.here hx rfl (hb hby d10_44) rfl ?_
      show Steps p.tables e below (s₁.setTop (mkF m 45 #[.val (.ref a1), .val (.int (0 : Int32)), .val (.int (3 : Int32)), .val (.int (0 : Int32)), .val (.int (1 : Int32)), .val (.long (el_a1 ((1 : Int32)).toNatClampNeg)), .second] [(.int (lcmpW (el_a1 ((1 : Int32)).toNatClampNeg) (el_a1 ((0 : Int32)).toNatClampNeg)))])) _
      refine XS.ifNo X0.here hx rfl (hb hby d10_45) rfl ((if0 _ _).trans (tlt hc28).2.1) ?_
      show Steps p.tables e below (s₁.setTop (mkF m 48 #[.val (.ref a1), .val (.int (0 : Int32)), .val (.int (3 : Int32)), .val (.int (0 : Int32)), .val (.int (1 : Int32)), .val (.long (el_a1 ((1 : Int32)).toNatClampNeg)), .second] [])) _
      refine XS.aloadN X0.here hx rfl (hb hby d10_48) rfl rfl ?_
      show Steps p.tables e below (s₁.setTop (mkF m 49 #[.val (.ref a1), .val (.int (0 : Int32)), .val (.int (3 : Int32)), .val (.int (0 : Int32)), .val (.int (1 : Int32)), .val (.long (el_a1 ((1 : Int32)).toNatClampNeg)), .second] [(.ref a1)])) _
      refine XS.iloadN X0.here hx rfl (hb hby d10_49) rfl ?_
      show Steps p.tables e below (s₁.setTop (mkF m 50 #[.val (.ref a1), .val (.int (0 : Int32)), .val (.int (3 : Int32)), .val (.int (0 : Int32)), .val (.int (1 : Int32)), .val (.long (el_a1 ((1 : Int32)).toNatClampNeg)), .second] [(.int (0 : Int32)), (.ref a1)])) _
      refine XS.iconst X0.here hx rfl (hb hby d10_50) ?_
      show Steps p.tables e below (s₁.setTop (mkF m 51 #[.val (.ref a1), .val (.int (0 : Int32)), .val (.int (3 : Int32)), .val (.int (0 : Int32)), .val (.int (1 : Int32)), .val (.long (el_a1 ((1 : Int32)).toNatClampNeg)), .second] [(.int (1 : Int32)), (.int (0 : Int32)), (.ref a1)])) _
      refine XS.iadd X0.here hx rfl (hb hby d10_51) rfl ?_
      show Steps p.tables e below (s₁.setTop (mkF m 52 #[.val (.ref a1), .val (.int (0 : Int32)), .val (.int (3 : Int32)), .val (.int (0 : Int32)), .val (.int (1 : Int32)), .val (.long (el_a1 ((1 : Int32)).toNatClampNeg)), .second] [(.int (1 : Int32)), (.ref a1)])) _
      refine XS.aloadN X0.here hx rfl (hb hby d10_52) rfl rfl ?_
      show Steps p.tables e below (s₁.setTop (mkF m 53 #[.val (.ref a1), .val (.int (0 : Int32)), .val (.int (3 : Int32)), .val (.int (0 : Int32)), .val (.int (1 : Int32)), .val (.long (el_a1 ((1 : Int32)).toNatClampNeg)), .second] [(.ref a1), (.int (1 : Int32)), (.ref a1)])) _
      refine XS.iloadN X0.here hx rfl (hb hby d10_53) rfl ?_
      show Steps p.tables e below (s₁.setTop (mkF m 54 #[.val (.ref a1), .val (.int (0 : Int32)), .val (.int (3 : Int32)), .val (.int (0 : Int32)), .val (.int (1 : Int32)), .val (.long (el_a1 ((1 : Int32)).toNatClampNeg)), .second] [(.int (0 : Int32)), (.ref a1), (.int (1 : Int32)), (.ref a1)])) _
      exact kt
    obtain ⟨cl8, Ar8, S8, Ng8, H8⟩ := id V_a1
    have hj8 : ¬ (0 : Int32) < 0 ∧ (0 : Int32) < (16 : Int32) := ⟨by decide, by decide⟩
    have hin8 := inb_of S8 hj8
    have lt8 : ((0 : Int32)).toNatClampNeg < ((16 : Int32)).toNatClampNeg := by rw [← S8]; exact Nat.lt_of_not_le fun q => hin8 (Or.inr q)
    have hv8 : ((.long (el_a1 ((0 : Int32)).toNatClampNeg)) : Value) = (.long (el_a1 ((0 : Int32)).toNatClampNeg)) := rfl
    have pre9 : ∀ t, Steps p.tables e below (s₁.setTop (mkF m 55 #[.val (.ref a1), .val (.int (0 : Int32)), .val (.int (3 : Int32)), .val (.int (0 : Int32)), .val (.int (1 : Int32)), .val (.long (el_a1 ((1 : Int32)).toNatClampNeg)), .second] [(.long (el_a1 ((0 : Int32)).toNatClampNeg)), (.int (1 : Int32)), (.ref a1)])) t → Steps p.tables e below (s₁.setTop (entryFrame m #[(.ref a1), (.int (0 : Int32)), (.int (3 : Int32))] 7)) t := fun t kt => by
      refine pre7 t ?_
      refine X0.laload hx (j := (0 : Int32)) (v := (.long (el_a1 ((0 : Int32)).toNatClampNeg))) (by rw [e0]; exact Ar8.1) (State.isArrayOf_alike hZ.alike Ar8.2.1) Ar8.2.2 hin8 ((H8 _ lt8).trans (congrArg some hv8)) (g := (mkF m 54 #[.val (.ref a1), .val (.int (0 : Int32)), .val (.int (3 : Int32)), .val (.int (0 : Int32)), .val (.int (1 : Int32)), .val (.long (el_a1 ((1 : Int32)).toNatClampNeg)), .second] [(.int (0 : Int32)), (.ref a1), (.int (1 : Int32)), (.ref a1)])) rfl rfl (hb hby d10_54) _ ?_
      show Steps p.tables e below (s₁.setTop (mkF m 55 #[.val (.ref a1), .val (.int (0 : Int32)), .val (.int (3 : Int32)), .val (.int (0 : Int32)), .val (.int (1 : Int32)), .val (.long (el_a1 ((1 : Int32)).toNatClampNeg)), .second] [(.long (el_a1 ((0 : Int32)).toNatClampNeg)), (.int (1 : Int32)), (.ref a1)])) _
      exact kt
    obtain ⟨cl10, Ar10, S10, Ng10, H10⟩ := id V_a1
    have hj10 : ¬ (1 : Int32) < 0 ∧ (1 : Int32) < (16 : Int32) := ⟨by decide, by decide⟩
    have hin10 := inb_of S10 hj10
    obtain ⟨T11, h11, X11, e11, W11, st11⟩ := stJ X0 hx hZ e0 Ar10 (j := (1 : Int32)) hin10 (g := (mkF m 55 #[.val (.ref a1), .val (.int (0 : Int32)), .val (.int (3 : Int32)), .val (.int (0 : Int32)), .val (.int (1 : Int32)), .val (.long (el_a1 ((1 : Int32)).toNatClampNeg)), .second] [(.long (el_a1 ((0 : Int32)).toNatClampNeg)), (.int (1 : Int32)), (.ref a1)])) rfl rfl (hb hby d10_55)
    have V11_a1 : Arf Z h11 a1 .long (16 : Int32) (fun i => (.long ((own_upd el_a1 ((1 : Int32)).toNatClampNeg (el_a1 ((0 : Int32)).toNatClampNeg)) i))) := upd_long _ _ _ ▸ (V_a1.set W11)
    have K11 : Keep h0 h11 [a1] := (Keep.refl h0 [a1]).wr W11 (Or.inl (mgE 0 rfl))
    have pre13 : ∀ t, Steps p.tables e below (T11.setTop (mkF m 56 #[.val (.ref a1), .val (.int (0 : Int32)), .val (.int (3 : Int32)), .val (.int (0 : Int32)), .val (.int (1 : Int32)), .val (.long (el_a1 ((1 : Int32)).toNatClampNeg)), .second] [])) t → Steps p.tables e below (s₁.setTop (entryFrame m #[(.ref a1), (.int (0 : Int32)), (.int (3 : Int32))] 7)) t := fun t kt => pre9 t (st11 t kt)
    have N11 := Fr.snoc X11 N0 g_a1
    have pre14 : ∀ t, Steps p.tables e below (T11.setTop (mkF m 65 #[.val (.ref a1), .val (.int (0 : Int32)), .val (.int (3 : Int32)), .val (.int (-1 : Int32)), .val (.int (1 : Int32)), .val (.long (el_a1 ((1 : Int32)).toNatClampNeg)), .second] [(.long (el_a1 ((1 : Int32)).toNatClampNeg)), (.int (0 : Int32)), (.ref a1)])) t → Steps p.tables e below (s₁.setTop (entryFrame m #[(.ref a1), (.int (0 : Int32)), (.int (3 : Int32))] 7)) t := fun t kt => by
      refine pre13 t ?_
      refine XS.goto X11.here hx rfl (pc0 := 56) (pc' := 31) rfl (hb hby d10_56) (by decide) (by decide) ?_
      show Steps p.tables e below (T11.setTop (mkF m 31 #[.val (.ref a1), .val (.int (0 : Int32)), .val (.int (3 : Int32)), .val (.int (0 : Int32)), .val (.int (1 : Int32)), .val (.long (el_a1 ((1 : Int32)).toNatClampNeg)), .second] [])) _
      refine XS.iinc X11.here hx rfl (hb hby d10_31) rfl (l' := #[.val (.ref a1), .val (.int (0 : Int32)), .val (.int (3 : Int32)), .val (.int (-1 : Int32)), .val (.int (1 : Int32)), .val (.long (el_a1 ((1 : Int32)).toNatClampNeg)), .second]) rfl ?_
      show Steps p.tables e below (T11.setTop (mkF m 34 #[.val (.ref a1), .val (.int (0 : Int32)), .val (.int (3 : Int32)), .val (.int (-1 : Int32)), .val (.int (1 : Int32)), .val (.long (el_a1 ((1 : Int32)).toNatClampNeg)), .second] [])) _
      refine XS.iloadN X11.here hx rfl (hb hby d10_34) rfl ?_
      show Steps p.tables e below (T11.setTop (mkF m 35 #[.val (.ref a1), .val (.int (0 : Int32)), .val (.int (3 : Int32)), .val (.int (-1 : Int32)), .val (.int (1 : Int32)), .val (.long (el_a1 ((1 : Int32)).toNatClampNeg)), .second] [(.int (-1 : Int32))])) _
      refine XS.iloadN X11.here hx rfl (hb hby d10_35) rfl ?_
      show Steps p.tables e below (T11.setTop (mkF m 36 #[.val (.ref a1), .val (.int (0 : Int32)), .val (.int (3 : Int32)), .val (.int (-1 : Int32)), .val (.int (1 : Int32)), .val (.long (el_a1 ((1 : Int32)).toNatClampNeg)), .second] [(.int (0 : Int32)), (.int (-1 : Int32))])) _
      refine XS.icmpYes X11.here hx rfl (pc0 := 36) (pc' := 59) rfl (hb hby d10_36) rfl (tlt (by decide : (-1 : Int32) < (0 : Int32))).1 (by decide) (by decide) ?_
      show Steps p.tables e below (T11.setTop (mkF m 59 #[.val (.ref a1), .val (.int (0 : Int32)), .val (.int (3 : Int32)), .val (.int (-1 : Int32)), .val (.int (1 : Int32)), .val (.long (el_a1 ((1 : Int32)).toNatClampNeg)), .second] [])) _
      refine XS.aloadN X11.here hx rfl (hb hby d10_59) rfl rfl ?_
      show Steps p.tables e below (T11.setTop (mkF m 60 #[.val (.ref a1), .val (.int (0 : Int32)), .val (.int (3 : Int32)), .val (.int (-1 : Int32)), .val (.int (1 : Int32)), .val (.long (el_a1 ((1 : Int32)).toNatClampNeg)), .second] [(.ref a1)])) _
      refine XS.iloadN X11.here hx rfl (hb hby d10_60) rfl ?_
      show Steps p.tables e below (T11.setTop (mkF m 61 #[.val (.ref a1), .val (.int (0 : Int32)), .val (.int (3 : Int32)), .val (.int (-1 : Int32)), .val (.int (1 : Int32)), .val (.long (el_a1 ((1 : Int32)).toNatClampNeg)), .second] [(.int (-1 : Int32)), (.ref a1)])) _
      refine XS.iconst X11.here hx rfl (hb hby d10_61) ?_
      show Steps p.tables e below (T11.setTop (mkF m 62 #[.val (.ref a1), .val (.int (0 : Int32)), .val (.int (3 : Int32)), .val (.int (-1 : Int32)), .val (.int (1 : Int32)), .val (.long (el_a1 ((1 : Int32)).toNatClampNeg)), .second] [(.int (1 : Int32)), (.int (-1 : Int32)), (.ref a1)])) _
      refine XS.iadd X11.here hx rfl (hb hby d10_62) rfl ?_
      show Steps p.tables e below (T11.setTop (mkF m 63 #[.val (.ref a1), .val (.int (0 : Int32)), .val (.int (3 : Int32)), .val (.int (-1 : Int32)), .val (.int (1 : Int32)), .val (.long (el_a1 ((1 : Int32)).toNatClampNeg)), .second] [(.int (0 : Int32)), (.ref a1)])) _
      refine XS.lload X11.here hx rfl (hb hby d10_63) rfl ?_
      show Steps p.tables e below (T11.setTop (mkF m 65 #[.val (.ref a1), .val (.int (0 : Int32)), .val (.int (3 : Int32)), .val (.int (-1 : Int32)), .val (.int (1 : Int32)), .val (.long (el_a1 ((1 : Int32)).toNatClampNeg)), .second] [(.long (el_a1 ((1 : Int32)).toNatClampNeg)), (.int (0 : Int32)), (.ref a1)])) _
      exact kt
    obtain ⟨cl15, Ar15, S15, Ng15, H15⟩ := id V11_a1
    have hj15 : ¬ (0 : Int32) < 0 ∧ (0 : Int32) < (16 : Int32) := ⟨by decide, by decide⟩
    have hin15 := inb_of S15 hj15
    obtain ⟨T16, h16, X16, e16, W16, st16⟩ := stJ X11 hx hZ e11 Ar15 (j := (0 : Int32)) hin15 (g := (mkF m 65 #[.val (.ref a1), .val (.int (0 : Int32)), .val (.int (3 : Int32)), .val (.int (-1 : Int32)), .val (.int (1 : Int32)), .val (.long (el_a1 ((1 : Int32)).toNatClampNeg)), .second] [(.long (el_a1 ((1 : Int32)).toNatClampNeg)), (.int (0 : Int32)), (.ref a1)])) rfl rfl (hb hby d10_65)
    have V16_a1 : Arf Z h16 a1 .long (16 : Int32) (fun i => (.long ((own_upd (own_upd el_a1 ((1 : Int32)).toNatClampNeg (el_a1 ((0 : Int32)).toNatClampNeg)) ((0 : Int32)).toNatClampNeg (el_a1 ((1 : Int32)).toNatClampNeg)) i))) := upd_long _ _ _ ▸ (V11_a1.set W16)
    have K16 : Keep h0 h16 [a1] := K11.wr W16 (Or.inl (mgE 0 rfl))
    have pre18 : ∀ t, Steps p.tables e below (T16.setTop (mkF m 66 #[.val (.ref a1), .val (.int (0 : Int32)), .val (.int (3 : Int32)), .val (.int (-1 : Int32)), .val (.int (1 : Int32)), .val (.long (el_a1 ((1 : Int32)).toNatClampNeg)), .second] [])) t → Steps p.tables e below (s₁.setTop (entryFrame m #[(.ref a1), (.int (0 : Int32)), (.int (3 : Int32))] 7)) t := fun t kt => pre14 t (st16 t kt)
    have N16 := Fr.snoc X16 N11 g_a1
    have pre19 : ∀ t, Steps p.tables e below (T16.setTop (mkF m 17 #[.val (.ref a1), .val (.int (0 : Int32)), .val (.int (3 : Int32)), .val (.int (2 : Int32)), .val (.int (2 : Int32)), .val (.long (el_a1 ((1 : Int32)).toNatClampNeg)), .second] [(.int (2 : Int32)), (.ref a1)])) t → Steps p.tables e below (s₁.setTop (entryFrame m #[(.ref a1), (.int (0 : Int32)), (.int (3 : Int32))] 7)) t := fun t kt => by
      refine pre18 t ?_
      refine XS.goto X16.here hx rfl (pc0 := 66) (pc' := 3) rfl (hb hby d10_66) (by decide) (by decide) ?_
      show Steps p.tables e below (T16.setTop (mkF m 3 #[.val (.ref a1), .val (.int (0 : Int32)), .val (.int (3 : Int32)), .val (.int (-1 : Int32)), .val (.int (1 : Int32)), .val (.long (el_a1 ((1 : Int32)).toNatClampNeg)), .second] [])) _
      refine XS.iinc X16.here hx rfl (hb hby d10_3) rfl (l' := #[.val (.ref a1), .val (.int (0 : Int32)), .val (.int (3 : Int32)), .val (.int (-1 : Int32)), .val (.int (2 : Int32)), .val (.long (el_a1 ((1 : Int32)).toNatClampNeg)), .second]) rfl ?_
      show Steps p.tables e below (T16.setTop (mkF m 6 #[.val (.ref a1), .val (.int (0 : Int32)), .val (.int (3 : Int32)), .val (.int (-1 : Int32)), .val (.int (2 : Int32)), .val (.long (el_a1 ((1 : Int32)).toNatClampNeg)), .second] [])) _
      refine XS.iload X16.here hx rfl (hb hby d10_6) rfl ?_
      show Steps p.tables e below (T16.setTop (mkF m 8 #[.val (.ref a1), .val (.int (0 : Int32)), .val (.int (3 : Int32)), .val (.int (-1 : Int32)), .val (.int (2 : Int32)), .val (.long (el_a1 ((1 : Int32)).toNatClampNeg)), .second] [(.int (2 : Int32))])) _
      refine XS.iloadN X16.here hx rfl (hb hby d10_8) rfl ?_
      show Steps p.tables e below (T16.setTop (mkF m 9 #[.val (.ref a1), .val (.int (0 : Int32)), .val (.int (3 : Int32)), .val (.int (-1 : Int32)), .val (.int (2 : Int32)), .val (.long (el_a1 ((1 : Int32)).toNatClampNeg)), .second] [(.int (3 : Int32)), (.int (2 : Int32))])) _
      refine XS.icmpNo X16.here hx rfl (hb hby d10_9) rfl (tlt (by decide : (2 : Int32) < (3 : Int32))).2.1 ?_
      show Steps p.tables e below (T16.setTop (mkF m 12 #[.val (.ref a1), .val (.int (0 : Int32)), .val (.int (3 : Int32)), .val (.int (-1 : Int32)), .val (.int (2 : Int32)), .val (.long (el_a1 ((1 : Int32)).toNatClampNeg)), .second] [])) _
      refine XS.aloadN X16.here hx rfl (hb hby d10_12) rfl rfl ?_
      show Steps p.tables e below (T16.setTop (mkF m 13 #[.val (.ref a1), .val (.int (0 : Int32)), .val (.int (3 : Int32)), .val (.int (-1 : Int32)), .val (.int (2 : Int32)), .val (.long (el_a1 ((1 : Int32)).toNatClampNeg)), .second] [(.ref a1)])) _
      refine XS.iload X16.here hx rfl (hb hby d10_13) rfl ?_
      show Steps p.tables e below (T16.setTop (mkF m 15 #[.val (.ref a1), .val (.int (0 : Int32)), .val (.int (3 : Int32)), .val (.int (-1 : Int32)), .val (.int (2 : Int32)), .val (.long (el_a1 ((1 : Int32)).toNatClampNeg)), .second] [(.int (2 : Int32)), (.ref a1)])) _
      refine XS.dup X16.here hx rfl (hb hby d10_15) rfl rfl ?_
      show Steps p.tables e below (T16.setTop (mkF m 16 #[.val (.ref a1), .val (.int (0 : Int32)), .val (.int (3 : Int32)), .val (.int (-1 : Int32)), .val (.int (2 : Int32)), .val (.long (el_a1 ((1 : Int32)).toNatClampNeg)), .second] [(.int (2 : Int32)), (.int (2 : Int32)), (.ref a1)])) _
      refine XS.istoreN X16.here hx rfl (hb hby d10_16) rfl (l' := #[.val (.ref a1), .val (.int (0 : Int32)), .val (.int (3 : Int32)), .val (.int (2 : Int32)), .val (.int (2 : Int32)), .val (.long (el_a1 ((1 : Int32)).toNatClampNeg)), .second]) rfl ?_
      show Steps p.tables e below (T16.setTop (mkF m 17 #[.val (.ref a1), .val (.int (0 : Int32)), .val (.int (3 : Int32)), .val (.int (2 : Int32)), .val (.int (2 : Int32)), .val (.long (el_a1 ((1 : Int32)).toNatClampNeg)), .second] [(.int (2 : Int32)), (.ref a1)])) _
      exact kt
    obtain ⟨cl20, Ar20, S20, Ng20, H20⟩ := id V16_a1
    have hj20 : ¬ (2 : Int32) < 0 ∧ (2 : Int32) < (16 : Int32) := ⟨by decide, by decide⟩
    have hin20 := inb_of S20 hj20
    have lt20 : ((2 : Int32)).toNatClampNeg < ((16 : Int32)).toNatClampNeg := by rw [← S20]; exact Nat.lt_of_not_le fun q => hin20 (Or.inr q)
    have hv20 : ((.long ((own_upd (own_upd el_a1 ((1 : Int32)).toNatClampNeg (el_a1 ((0 : Int32)).toNatClampNeg)) ((0 : Int32)).toNatClampNeg (el_a1 ((1 : Int32)).toNatClampNeg)) ((2 : Int32)).toNatClampNeg)) : Value) = (.long (el_a1 ((2 : Int32)).toNatClampNeg)) := rfl
    have pre21 : ∀ t, Steps p.tables e below (T16.setTop (mkF m 26 #[.val (.ref a1), .val (.int (0 : Int32)), .val (.int (3 : Int32)), .val (.int (2 : Int32)), .val (.int (2 : Int32)), .val (.long (el_a1 ((2 : Int32)).toNatClampNeg)), .second] [(.int (1 : Int32)), (.ref a1), (.long (el_a1 ((2 : Int32)).toNatClampNeg))])) t → Steps p.tables e below (s₁.setTop (entryFrame m #[(.ref a1), (.int (0 : Int32)), (.int (3 : Int32))] 7)) t := fun t kt => by
      refine pre19 t ?_
      refine X16.laload hx (j := (2 : Int32)) (v := (.long (el_a1 ((2 : Int32)).toNatClampNeg))) (by rw [e16]; exact Ar20.1) (State.isArrayOf_alike hZ.alike Ar20.2.1) Ar20.2.2 hin20 ((H20 _ lt20).trans (congrArg some hv20)) (g := (mkF m 17 #[.val (.ref a1), .val (.int (0 : Int32)), .val (.int (3 : Int32)), .val (.int (2 : Int32)), .val (.int (2 : Int32)), .val (.long (el_a1 ((1 : Int32)).toNatClampNeg)), .second] [(.int (2 : Int32)), (.ref a1)])) rfl rfl (hb hby d10_17) _ ?_
      show Steps p.tables e below (T16.setTop (mkF m 18 #[.val (.ref a1), .val (.int (0 : Int32)), .val (.int (3 : Int32)), .val (.int (2 : Int32)), .val (.int (2 : Int32)), .val (.long (el_a1 ((1 : Int32)).toNatClampNeg)), .second] [(.long (el_a1 ((2 : Int32)).toNatClampNeg))])) _
      refine XS.lstore X16.here hx rfl (hb hby d10_18) rfl (l' := #[.val (.ref a1), .val (.int (0 : Int32)), .val (.int (3 : Int32)), .val (.int (2 : Int32)), .val (.int (2 : Int32)), .val (.long (el_a1 ((2 : Int32)).toNatClampNeg)), .second]) rfl ?_
      show Steps p.tables e below (T16.setTop (mkF m 20 #[.val (.ref a1), .val (.int (0 : Int32)), .val (.int (3 : Int32)), .val (.int (2 : Int32)), .val (.int (2 : Int32)), .val (.long (el_a1 ((2 : Int32)).toNatClampNeg)), .second] [])) _
      refine XS.lload X16.here hx rfl (hb hby d10_20) rfl ?_
      show Steps p.tables e below (T16.setTop (mkF m 22 #[.val (.ref a1), .val (.int (0 : Int32)), .val (.int (3 : Int32)), .val (.int (2 : Int32)), .val (.int (2 : Int32)), .val (.long (el_a1 ((2 : Int32)).toNatClampNeg)), .second] [(.long (el_a1 ((2 : Int32)).toNatClampNeg))])) _
      refine XS.aloadN X16.here hx rfl (hb hby d10_22) rfl rfl ?_
      show Steps p.tables e below (T16.setTop (mkF m 23 #[.val (.ref a1), .val (.int (0 : Int32)), .val (.int (3 : Int32)), .val (.int (2 : Int32)), .val (.int (2 : Int32)), .val (.long (el_a1 ((2 : Int32)).toNatClampNeg)), .second] [(.ref a1), (.long (el_a1 ((2 : Int32)).toNatClampNeg))])) _
      refine XS.iloadN X16.here hx rfl (hb hby d10_23) rfl ?_
      show Steps p.tables e below (T16.setTop (mkF m 24 #[.val (.ref a1), .val (.int (0 : Int32)), .val (.int (3 : Int32)), .val (.int (2 : Int32)), .val (.int (2 : Int32)), .val (.long (el_a1 ((2 : Int32)).toNatClampNeg)), .second] [(.int (2 : Int32)), (.ref a1), (.long (el_a1 ((2 : Int32)).toNatClampNeg))])) _
      refine XS.iconst X16.here hx rfl (hb hby d10_24) ?_
      show Steps p.tables e below (T16.setTop (mkF m 25 #[.val (.ref a1), .val (.int (0 : Int32)), .val (.int (3 : Int32)), .val (.int (2 : Int32)), .val (.int (2 : Int32)), .val (.long (el_a1 ((2 : Int32)).toNatClampNeg)), .second] [(.int (1 : Int32)), (.int (2 : Int32)), (.ref a1), (.long (el_a1 ((2 : Int32)).toNatClampNeg))])) _
      refine XS.isub X16.here hx rfl (hb hby d10_25) rfl ?_
      show Steps p.tables e below (T16.setTop (mkF m 26 #[.val (.ref a1), .val (.int (0 : Int32)), .val (.int (3 : Int32)), .val (.int (2 : Int32)), .val (.int (2 : Int32)), .val (.long (el_a1 ((2 : Int32)).toNatClampNeg)), .second] [(.int (1 : Int32)), (.ref a1), (.long (el_a1 ((2 : Int32)).toNatClampNeg))])) _
      exact kt
    obtain ⟨cl22, Ar22, S22, Ng22, H22⟩ := id V16_a1
    have hj22 : ¬ (1 : Int32) < 0 ∧ (1 : Int32) < (16 : Int32) := ⟨by decide, by decide⟩
    have hin22 := inb_of S22 hj22
    have lt22 : ((1 : Int32)).toNatClampNeg < ((16 : Int32)).toNatClampNeg := by rw [← S22]; exact Nat.lt_of_not_le fun q => hin22 (Or.inr q)
    have hv22 : ((.long ((own_upd (own_upd el_a1 ((1 : Int32)).toNatClampNeg (el_a1 ((0 : Int32)).toNatClampNeg)) ((0 : Int32)).toNatClampNeg (el_a1 ((1 : Int32)).toNatClampNeg)) ((1 : Int32)).toNatClampNeg)) : Value) = (.long (el_a1 ((0 : Int32)).toNatClampNeg)) := rfl
    by_cases hc28_23 : (lcmpW (el_a1 ((2 : Int32)).toNatClampNeg) (el_a1 ((0 : Int32)).toNatClampNeg)) < (0 : Int32)
    · skip
      have pre24 : ∀ t, Steps p.tables e below (T16.setTop (mkF m 43 #[.val (.ref a1), .val (.int (0 : Int32)), .val (.int (3 : Int32)), .val (.int (1 : Int32)), .val (.int (2 : Int32)), .val (.long (el_a1 ((2 : Int32)).toNatClampNeg)), .second] [(.int (1 : Int32)), (.ref a1), (.long (el_a1 ((2 : Int32)).toNatClampNeg))])) t → Steps p.tables e below (s₁.setTop (entryFrame m #[(.ref a1), (.int (0 : Int32)), (.int (3 : Int32))] 7)) t := fun t kt => by
        refine pre21 t ?_
        refine X16.laload hx (j := (1 : Int32)) (v := (.long (el_a1 ((0 : Int32)).toNatClampNeg))) (by rw [e16]; exact Ar22.1) (State.isArrayOf_alike hZ.alike Ar22.2.1) Ar22.2.2 hin22 ((H22 _ lt22).trans (congrArg some hv22)) (g := (mkF m 26 #[.val (.ref a1), .val (.int (0 : Int32)), .val (.int (3 : Int32)), .val (.int (2 : Int32)), .val (.int (2 : Int32)), .val (.long (el_a1 ((2 : Int32)).toNatClampNeg)), .second] [(.int (1 : Int32)), (.ref a1), (.long (el_a1 ((2 : Int32)).toNatClampNeg))])) rfl rfl (hb hby d10_26) _ ?_
        show Steps p.tables e below (T16.setTop (mkF m 27 #[.val (.ref a1), .val (.int (0 : Int32)), .val (.int (3 : Int32)), .val (.int (2 : Int32)), .val (.int (2 : Int32)), .val (.long (el_a1 ((2 : Int32)).toNatClampNeg)), .second] [(.long (el_a1 ((0 : Int32)).toNatClampNeg)), (.long (el_a1 ((2 : Int32)).toNatClampNeg))])) _
        refine XS.lcmp X16.here hx rfl (hb hby d10_27) rfl ?_
        show Steps p.tables e below (T16.setTop (mkF m 28 #[.val (.ref a1), .val (.int (0 : Int32)), .val (.int (3 : Int32)), .val (.int (2 : Int32)), .val (.int (2 : Int32)), .val (.long (el_a1 ((2 : Int32)).toNatClampNeg)), .second] [(.int (lcmpW (el_a1 ((2 : Int32)).toNatClampNeg) (el_a1 ((0 : Int32)).toNatClampNeg)))])) _
        refine XS.ifNo X16.here hx rfl (hb hby d10_28) rfl ((if0 _ _).trans (tlt hc28_23).2.1) ?_
        show Steps p.tables e below (T16.setTop (mkF m 31 #[.val (.ref a1), .val (.int (0 : Int32)), .val (.int (3 : Int32)), .val (.int (2 : Int32)), .val (.int (2 : Int32)), .val (.long (el_a1 ((2 : Int32)).toNatClampNeg)), .second] [])) _
        refine XS.iinc X16.here hx rfl (hb hby d10_31) rfl (l' := #[.val (.ref a1), .val (.int (0 : Int32)), .val (.int (3 : Int32)), .val (.int (1 : Int32)), .val (.int (2 : Int32)), .val (.long (el_a1 ((2 : Int32)).toNatClampNeg)), .second]) rfl ?_
        show Steps p.tables e below (T16.setTop (mkF m 34 #[.val (.ref a1), .val (.int (0 : Int32)), .val (.int (3 : Int32)), .val (.int (1 : Int32)), .val (.int (2 : Int32)), .val (.long (el_a1 ((2 : Int32)).toNatClampNeg)), .second] [])) _
        refine XS.iloadN X16.here hx rfl (hb hby d10_34) rfl ?_
        show Steps p.tables e below (T16.setTop (mkF m 35 #[.val (.ref a1), .val (.int (0 : Int32)), .val (.int (3 : Int32)), .val (.int (1 : Int32)), .val (.int (2 : Int32)), .val (.long (el_a1 ((2 : Int32)).toNatClampNeg)), .second] [(.int (1 : Int32))])) _
        refine XS.iloadN X16.here hx rfl (hb hby d10_35) rfl ?_
        show Steps p.tables e below (T16.setTop (mkF m 36 #[.val (.ref a1), .val (.int (0 : Int32)), .val (.int (3 : Int32)), .val (.int (1 : Int32)), .val (.int (2 : Int32)), .val (.long (el_a1 ((2 : Int32)).toNatClampNeg)), .second] [(.int (0 : Int32)), (.int (1 : Int32))])) _
        refine XS.icmpNo X16.here hx rfl (hb hby d10_36) rfl (flt (by decide : ¬ ((1 : Int32) < (0 : Int32)))).1 ?_
        show Steps p.tables e below (T16.setTop (mkF m 39 #[.val (.ref a1), .val (.int (0 : Int32)), .val (.int (3 : Int32)), .val (.int (1 : Int32)), .val (.int (2 : Int32)), .val (.long (el_a1 ((2 : Int32)).toNatClampNeg)), .second] [])) _
        refine XS.lload X16.here hx rfl (hb hby d10_39) rfl ?_
        show Steps p.tables e below (T16.setTop (mkF m 41 #[.val (.ref a1), .val (.int (0 : Int32)), .val (.int (3 : Int32)), .val (.int (1 : Int32)), .val (.int (2 : Int32)), .val (.long (el_a1 ((2 : Int32)).toNatClampNeg)), .second] [(.long (el_a1 ((2 : Int32)).toNatClampNeg))])) _
        refine XS.aloadN X16.here hx rfl (hb hby d10_41) rfl rfl ?_
        show Steps p.tables e below (T16.setTop (mkF m 42 #[.val (.ref a1), .val (.int (0 : Int32)), .val (.int (3 : Int32)), .val (.int (1 : Int32)), .val (.int (2 : Int32)), .val (.long (el_a1 ((2 : Int32)).toNatClampNeg)), .second] [(.ref a1), (.long (el_a1 ((2 : Int32)).toNatClampNeg))])) _
        refine XS.iloadN X16.here hx rfl (hb hby d10_42) rfl ?_
        show Steps p.tables e below (T16.setTop (mkF m 43 #[.val (.ref a1), .val (.int (0 : Int32)), .val (.int (3 : Int32)), .val (.int (1 : Int32)), .val (.int (2 : Int32)), .val (.long (el_a1 ((2 : Int32)).toNatClampNeg)), .second] [(.int (1 : Int32)), (.ref a1), (.long (el_a1 ((2 : Int32)).toNatClampNeg))])) _
        exact kt
      obtain ⟨cl25, Ar25, S25, Ng25, H25⟩ := id V16_a1
      have hj25 : ¬ (1 : Int32) < 0 ∧ (1 : Int32) < (16 : Int32) := ⟨by decide, by decide⟩
      have hin25 := inb_of S25 hj25
      have lt25 : ((1 : Int32)).toNatClampNeg < ((16 : Int32)).toNatClampNeg := by rw [← S25]; exact Nat.lt_of_not_le fun q => hin25 (Or.inr q)
      have hv25 : ((.long ((own_upd (own_upd el_a1 ((1 : Int32)).toNatClampNeg (el_a1 ((0 : Int32)).toNatClampNeg)) ((0 : Int32)).toNatClampNeg (el_a1 ((1 : Int32)).toNatClampNeg)) ((1 : Int32)).toNatClampNeg)) : Value) = (.long (el_a1 ((0 : Int32)).toNatClampNeg)) := rfl
      have pre26 : ∀ t, Steps p.tables e below (T16.setTop (mkF m 54 #[.val (.ref a1), .val (.int (0 : Int32)), .val (.int (3 : Int32)), .val (.int (1 : Int32)), .val (.int (2 : Int32)), .val (.long (el_a1 ((2 : Int32)).toNatClampNeg)), .second] [(.int (1 : Int32)), (.ref a1), (.int (2 : Int32)), (.ref a1)])) t → Steps p.tables e below (s₁.setTop (entryFrame m #[(.ref a1), (.int (0 : Int32)), (.int (3 : Int32))] 7)) t := fun t kt => by
        refine pre24 t ?_
        refine X16.laload hx (j := (1 : Int32)) (v := (.long (el_a1 ((0 : Int32)).toNatClampNeg))) (by rw [e16]; exact Ar25.1) (State.isArrayOf_alike hZ.alike Ar25.2.1) Ar25.2.2 hin25 ((H25 _ lt25).trans (congrArg some hv25)) (g := (mkF m 43 #[.val (.ref a1), .val (.int (0 : Int32)), .val (.int (3 : Int32)), .val (.int (1 : Int32)), .val (.int (2 : Int32)), .val (.long (el_a1 ((2 : Int32)).toNatClampNeg)), .second] [(.int (1 : Int32)), (.ref a1), (.long (el_a1 ((2 : Int32)).toNatClampNeg))])) rfl rfl (hb hby d10_43) _ ?_
        show Steps p.tables e below (T16.setTop (mkF m 44 #[.val (.ref a1), .val (.int (0 : Int32)), .val (.int (3 : Int32)), .val (.int (1 : Int32)), .val (.int (2 : Int32)), .val (.long (el_a1 ((2 : Int32)).toNatClampNeg)), .second] [(.long (el_a1 ((0 : Int32)).toNatClampNeg)), (.long (el_a1 ((2 : Int32)).toNatClampNeg))])) _
        refine XS.lcmp X16.here hx rfl (hb hby d10_44) rfl ?_
        show Steps p.tables e below (T16.setTop (mkF m 45 #[.val (.ref a1), .val (.int (0 : Int32)), .val (.int (3 : Int32)), .val (.int (1 : Int32)), .val (.int (2 : Int32)), .val (.long (el_a1 ((2 : Int32)).toNatClampNeg)), .second] [(.int (lcmpW (el_a1 ((2 : Int32)).toNatClampNeg) (el_a1 ((0 : Int32)).toNatClampNeg)))])) _
        refine XS.ifNo X16.here hx rfl (hb hby d10_45) rfl ((if0 _ _).trans (tlt hc28_23).2.1) ?_
        show Steps p.tables e below (T16.setTop (mkF m 48 #[.val (.ref a1), .val (.int (0 : Int32)), .val (.int (3 : Int32)), .val (.int (1 : Int32)), .val (.int (2 : Int32)), .val (.long (el_a1 ((2 : Int32)).toNatClampNeg)), .second] [])) _
        refine XS.aloadN X16.here hx rfl (hb hby d10_48) rfl rfl ?_
        show Steps p.tables e below (T16.setTop (mkF m 49 #[.val (.ref a1), .val (.int (0 : Int32)), .val (.int (3 : Int32)), .val (.int (1 : Int32)), .val (.int (2 : Int32)), .val (.long (el_a1 ((2 : Int32)).toNatClampNeg)), .second] [(.ref a1)])) _
        refine XS.iloadN X16.here hx rfl (hb hby d10_49) rfl ?_
        show Steps p.tables e below (T16.setTop (mkF m 50 #[.val (.ref a1), .val (.int (0 : Int32)), .val (.int (3 : Int32)), .val (.int (1 : Int32)), .val (.int (2 : Int32)), .val (.long (el_a1 ((2 : Int32)).toNatClampNeg)), .second] [(.int (1 : Int32)), (.ref a1)])) _
        refine XS.iconst X16.here hx rfl (hb hby d10_50) ?_
        show Steps p.tables e below (T16.setTop (mkF m 51 #[.val (.ref a1), .val (.int (0 : Int32)), .val (.int (3 : Int32)), .val (.int (1 : Int32)), .val (.int (2 : Int32)), .val (.long (el_a1 ((2 : Int32)).toNatClampNeg)), .second] [(.int (1 : Int32)), (.int (1 : Int32)), (.ref a1)])) _
        refine XS.iadd X16.here hx rfl (hb hby d10_51) rfl ?_
        show Steps p.tables e below (T16.setTop (mkF m 52 #[.val (.ref a1), .val (.int (0 : Int32)), .val (.int (3 : Int32)), .val (.int (1 : Int32)), .val (.int (2 : Int32)), .val (.long (el_a1 ((2 : Int32)).toNatClampNeg)), .second] [(.int (2 : Int32)), (.ref a1)])) _
        refine XS.aloadN X16.here hx rfl (hb hby d10_52) rfl rfl ?_
        show Steps p.tables e below (T16.setTop (mkF m 53 #[.val (.ref a1), .val (.int (0 : Int32)), .val (.int (3 : Int32)), .val (.int (1 : Int32)), .val (.int (2 : Int32)), .val (.long (el_a1 ((2 : Int32)).toNatClampNeg)), .second] [(.ref a1), (.int (2 : Int32)), (.ref a1)])) _
        refine XS.iloadN X16.here hx rfl (hb hby d10_53) rfl ?_
        show Steps p.tables e below (T16.setTop (mkF m 54 #[.val (.ref a1), .val (.int (0 : Int32)), .val (.int (3 : Int32)), .val (.int (1 : Int32)), .val (.int (2 : Int32)), .val (.long (el_a1 ((2 : Int32)).toNatClampNeg)), .second] [(.int (1 : Int32)), (.ref a1), (.int (2 : Int32)), (.ref a1)])) _
        exact kt
      obtain ⟨cl27, Ar27, S27, Ng27, H27⟩ := id V16_a1
      have hj27 : ¬ (1 : Int32) < 0 ∧ (1 : Int32) < (16 : Int32) := ⟨by decide, by decide⟩
      have hin27 := inb_of S27 hj27
      have lt27 : ((1 : Int32)).toNatClampNeg < ((16 : Int32)).toNatClampNeg := by rw [← S27]; exact Nat.lt_of_not_le fun q => hin27 (Or.inr q)
      have hv27 : ((.long ((own_upd (own_upd el_a1 ((1 : Int32)).toNatClampNeg (el_a1 ((0 : Int32)).toNatClampNeg)) ((0 : Int32)).toNatClampNeg (el_a1 ((1 : Int32)).toNatClampNeg)) ((1 : Int32)).toNatClampNeg)) : Value) = (.long (el_a1 ((0 : Int32)).toNatClampNeg)) := rfl
      have pre28 : ∀ t, Steps p.tables e below (T16.setTop (mkF m 55 #[.val (.ref a1), .val (.int (0 : Int32)), .val (.int (3 : Int32)), .val (.int (1 : Int32)), .val (.int (2 : Int32)), .val (.long (el_a1 ((2 : Int32)).toNatClampNeg)), .second] [(.long (el_a1 ((0 : Int32)).toNatClampNeg)), (.int (2 : Int32)), (.ref a1)])) t → Steps p.tables e below (s₁.setTop (entryFrame m #[(.ref a1), (.int (0 : Int32)), (.int (3 : Int32))] 7)) t := fun t kt => by
        refine pre26 t ?_
        refine X16.laload hx (j := (1 : Int32)) (v := (.long (el_a1 ((0 : Int32)).toNatClampNeg))) (by rw [e16]; exact Ar27.1) (State.isArrayOf_alike hZ.alike Ar27.2.1) Ar27.2.2 hin27 ((H27 _ lt27).trans (congrArg some hv27)) (g := (mkF m 54 #[.val (.ref a1), .val (.int (0 : Int32)), .val (.int (3 : Int32)), .val (.int (1 : Int32)), .val (.int (2 : Int32)), .val (.long (el_a1 ((2 : Int32)).toNatClampNeg)), .second] [(.int (1 : Int32)), (.ref a1), (.int (2 : Int32)), (.ref a1)])) rfl rfl (hb hby d10_54) _ ?_
        show Steps p.tables e below (T16.setTop (mkF m 55 #[.val (.ref a1), .val (.int (0 : Int32)), .val (.int (3 : Int32)), .val (.int (1 : Int32)), .val (.int (2 : Int32)), .val (.long (el_a1 ((2 : Int32)).toNatClampNeg)), .second] [(.long (el_a1 ((0 : Int32)).toNatClampNeg)), (.int (2 : Int32)), (.ref a1)])) _
        exact kt
      obtain ⟨cl29, Ar29, S29, Ng29, H29⟩ := id V16_a1
      have hj29 : ¬ (2 : Int32) < 0 ∧ (2 : Int32) < (16 : Int32) := ⟨by decide, by decide⟩
      have hin29 := inb_of S29 hj29
      obtain ⟨T30, h30, X30, e30, W30, st30⟩ := stJ X16 hx hZ e16 Ar29 (j := (2 : Int32)) hin29 (g := (mkF m 55 #[.val (.ref a1), .val (.int (0 : Int32)), .val (.int (3 : Int32)), .val (.int (1 : Int32)), .val (.int (2 : Int32)), .val (.long (el_a1 ((2 : Int32)).toNatClampNeg)), .second] [(.long (el_a1 ((0 : Int32)).toNatClampNeg)), (.int (2 : Int32)), (.ref a1)])) rfl rfl (hb hby d10_55)
      have V30_a1 : Arf Z h30 a1 .long (16 : Int32) (fun i => (.long ((own_upd (own_upd (own_upd el_a1 ((1 : Int32)).toNatClampNeg (el_a1 ((0 : Int32)).toNatClampNeg)) ((0 : Int32)).toNatClampNeg (el_a1 ((1 : Int32)).toNatClampNeg)) ((2 : Int32)).toNatClampNeg (el_a1 ((0 : Int32)).toNatClampNeg)) i))) := upd_long _ _ _ ▸ (V16_a1.set W30)
      have K30 : Keep h0 h30 [a1] := K16.wr W30 (Or.inl (mgE 0 rfl))
      have pre32 : ∀ t, Steps p.tables e below (T30.setTop (mkF m 56 #[.val (.ref a1), .val (.int (0 : Int32)), .val (.int (3 : Int32)), .val (.int (1 : Int32)), .val (.int (2 : Int32)), .val (.long (el_a1 ((2 : Int32)).toNatClampNeg)), .second] [])) t → Steps p.tables e below (s₁.setTop (entryFrame m #[(.ref a1), (.int (0 : Int32)), (.int (3 : Int32))] 7)) t := fun t kt => pre28 t (st30 t kt)
      have N30 := Fr.snoc X30 N16 g_a1
      have pre33 : ∀ t, Steps p.tables e below (T30.setTop (mkF m 43 #[.val (.ref a1), .val (.int (0 : Int32)), .val (.int (3 : Int32)), .val (.int (0 : Int32)), .val (.int (2 : Int32)), .val (.long (el_a1 ((2 : Int32)).toNatClampNeg)), .second] [(.int (0 : Int32)), (.ref a1), (.long (el_a1 ((2 : Int32)).toNatClampNeg))])) t → Steps p.tables e below (s₁.setTop (entryFrame m #[(.ref a1), (.int (0 : Int32)), (.int (3 : Int32))] 7)) t := fun t kt => by
        refine pre32 t ?_
        refine XS.goto X30.here hx rfl (pc0 := 56) (pc' := 31) rfl (hb hby d10_56) (by decide) (by decide) ?_
        show Steps p.tables e below (T30.setTop (mkF m 31 #[.val (.ref a1), .val (.int (0 : Int32)), .val (.int (3 : Int32)), .val (.int (1 : Int32)), .val (.int (2 : Int32)), .val (.long (el_a1 ((2 : Int32)).toNatClampNeg)), .second] [])) _
        refine XS.iinc X30.here hx rfl (hb hby d10_31) rfl (l' := #[.val (.ref a1), .val (.int (0 : Int32)), .val (.int (3 : Int32)), .val (.int (0 : Int32)), .val (.int (2 : Int32)), .val (.long (el_a1 ((2 : Int32)).toNatClampNeg)), .second]) rfl ?_
        show Steps p.tables e below (T30.setTop (mkF m 34 #[.val (.ref a1), .val (.int (0 : Int32)), .val (.int (3 : Int32)), .val (.int (0 : Int32)), .val (.int (2 : Int32)), .val (.long (el_a1 ((2 : Int32)).toNatClampNeg)), .second] [])) _
        refine XS.iloadN X30.here hx rfl (hb hby d10_34) rfl ?_
        show Steps p.tables e below (T30.setTop (mkF m 35 #[.val (.ref a1), .val (.int (0 : Int32)), .val (.int (3 : Int32)), .val (.int (0 : Int32)), .val (.int (2 : Int32)), .val (.long (el_a1 ((2 : Int32)).toNatClampNeg)), .second] [(.int (0 : Int32))])) _
        refine XS.iloadN X30.here hx rfl (hb hby d10_35) rfl ?_
        show Steps p.tables e below (T30.setTop (mkF m 36 #[.val (.ref a1), .val (.int (0 : Int32)), .val (.int (3 : Int32)), .val (.int (0 : Int32)), .val (.int (2 : Int32)), .val (.long (el_a1 ((2 : Int32)).toNatClampNeg)), .second] [(.int (0 : Int32)), (.int (0 : Int32))])) _
        refine XS.icmpNo X30.here hx rfl (hb hby d10_36) rfl (flt (by decide : ¬ ((0 : Int32) < (0 : Int32)))).1 ?_
        show Steps p.tables e below (T30.setTop (mkF m 39 #[.val (.ref a1), .val (.int (0 : Int32)), .val (.int (3 : Int32)), .val (.int (0 : Int32)), .val (.int (2 : Int32)), .val (.long (el_a1 ((2 : Int32)).toNatClampNeg)), .second] [])) _
        refine XS.lload X30.here hx rfl (hb hby d10_39) rfl ?_
        show Steps p.tables e below (T30.setTop (mkF m 41 #[.val (.ref a1), .val (.int (0 : Int32)), .val (.int (3 : Int32)), .val (.int (0 : Int32)), .val (.int (2 : Int32)), .val (.long (el_a1 ((2 : Int32)).toNatClampNeg)), .second] [(.long (el_a1 ((2 : Int32)).toNatClampNeg))])) _
        refine XS.aloadN X30.here hx rfl (hb hby d10_41) rfl rfl ?_
        show Steps p.tables e below (T30.setTop (mkF m 42 #[.val (.ref a1), .val (.int (0 : Int32)), .val (.int (3 : Int32)), .val (.int (0 : Int32)), .val (.int (2 : Int32)), .val (.long (el_a1 ((2 : Int32)).toNatClampNeg)), .second] [(.ref a1), (.long (el_a1 ((2 : Int32)).toNatClampNeg))])) _
        refine XS.iloadN X30.here hx rfl (hb hby d10_42) rfl ?_
        show Steps p.tables e below (T30.setTop (mkF m 43 #[.val (.ref a1), .val (.int (0 : Int32)), .val (.int (3 : Int32)), .val (.int (0 : Int32)), .val (.int (2 : Int32)), .val (.long (el_a1 ((2 : Int32)).toNatClampNeg)), .second] [(.int (0 : Int32)), (.ref a1), (.long (el_a1 ((2 : Int32)).toNatClampNeg))])) _
        exact kt
      obtain ⟨cl34, Ar34, S34, Ng34, H34⟩ := id V30_a1
      have hj34 : ¬ (0 : Int32) < 0 ∧ (0 : Int32) < (16 : Int32) := ⟨by decide, by decide⟩
      have hin34 := inb_of S34 hj34
      have lt34 : ((0 : Int32)).toNatClampNeg < ((16 : Int32)).toNatClampNeg := by rw [← S34]; exact Nat.lt_of_not_le fun q => hin34 (Or.inr q)
      have hv34 : ((.long ((own_upd (own_upd (own_upd el_a1 ((1 : Int32)).toNatClampNeg (el_a1 ((0 : Int32)).toNatClampNeg)) ((0 : Int32)).toNatClampNeg (el_a1 ((1 : Int32)).toNatClampNeg)) ((2 : Int32)).toNatClampNeg (el_a1 ((0 : Int32)).toNatClampNeg)) ((0 : Int32)).toNatClampNeg)) : Value) = (.long (el_a1 ((1 : Int32)).toNatClampNeg)) := rfl
      by_cases hc45 : (lcmpW (el_a1 ((2 : Int32)).toNatClampNeg) (el_a1 ((1 : Int32)).toNatClampNeg)) < (0 : Int32)
      · skip
        have pre35 : ∀ t, Steps p.tables e below (T30.setTop (mkF m 54 #[.val (.ref a1), .val (.int (0 : Int32)), .val (.int (3 : Int32)), .val (.int (0 : Int32)), .val (.int (2 : Int32)), .val (.long (el_a1 ((2 : Int32)).toNatClampNeg)), .second] [(.int (0 : Int32)), (.ref a1), (.int (1 : Int32)), (.ref a1)])) t → Steps p.tables e below (s₁.setTop (entryFrame m #[(.ref a1), (.int (0 : Int32)), (.int (3 : Int32))] 7)) t := fun t kt => by
          refine pre33 t ?_
          refine X30.laload hx (j := (0 : Int32)) (v := (.long (el_a1 ((1 : Int32)).toNatClampNeg))) (by rw [e30]; exact Ar34.1) (State.isArrayOf_alike hZ.alike Ar34.2.1) Ar34.2.2 hin34 ((H34 _ lt34).trans (congrArg some hv34)) (g := (mkF m 43 #[.val (.ref a1), .val (.int (0 : Int32)), .val (.int (3 : Int32)), .val (.int (0 : Int32)), .val (.int (2 : Int32)), .val (.long (el_a1 ((2 : Int32)).toNatClampNeg)), .second] [(.int (0 : Int32)), (.ref a1), (.long (el_a1 ((2 : Int32)).toNatClampNeg))])) rfl rfl (hb hby d10_43) _ ?_
          show Steps p.tables e below (T30.setTop (mkF m 44 #[.val (.ref a1), .val (.int (0 : Int32)), .val (.int (3 : Int32)), .val (.int (0 : Int32)), .val (.int (2 : Int32)), .val (.long (el_a1 ((2 : Int32)).toNatClampNeg)), .second] [(.long (el_a1 ((1 : Int32)).toNatClampNeg)), (.long (el_a1 ((2 : Int32)).toNatClampNeg))])) _
          refine XS.lcmp X30.here hx rfl (hb hby d10_44) rfl ?_
          show Steps p.tables e below (T30.setTop (mkF m 45 #[.val (.ref a1), .val (.int (0 : Int32)), .val (.int (3 : Int32)), .val (.int (0 : Int32)), .val (.int (2 : Int32)), .val (.long (el_a1 ((2 : Int32)).toNatClampNeg)), .second] [(.int (lcmpW (el_a1 ((2 : Int32)).toNatClampNeg) (el_a1 ((1 : Int32)).toNatClampNeg)))])) _
          refine XS.ifNo X30.here hx rfl (hb hby d10_45) rfl ((if0 _ _).trans (tlt hc45).2.1) ?_
          show Steps p.tables e below (T30.setTop (mkF m 48 #[.val (.ref a1), .val (.int (0 : Int32)), .val (.int (3 : Int32)), .val (.int (0 : Int32)), .val (.int (2 : Int32)), .val (.long (el_a1 ((2 : Int32)).toNatClampNeg)), .second] [])) _
          refine XS.aloadN X30.here hx rfl (hb hby d10_48) rfl rfl ?_
          show Steps p.tables e below (T30.setTop (mkF m 49 #[.val (.ref a1), .val (.int (0 : Int32)), .val (.int (3 : Int32)), .val (.int (0 : Int32)), .val (.int (2 : Int32)), .val (.long (el_a1 ((2 : Int32)).toNatClampNeg)), .second] [(.ref a1)])) _
          refine XS.iloadN X30.here hx rfl (hb hby d10_49) rfl ?_
          show Steps p.tables e below (T30.setTop (mkF m 50 #[.val (.ref a1), .val (.int (0 : Int32)), .val (.int (3 : Int32)), .val (.int (0 : Int32)), .val (.int (2 : Int32)), .val (.long (el_a1 ((2 : Int32)).toNatClampNeg)), .second] [(.int (0 : Int32)), (.ref a1)])) _
          refine XS.iconst X30.here hx rfl (hb hby d10_50) ?_
          show Steps p.tables e below (T30.setTop (mkF m 51 #[.val (.ref a1), .val (.int (0 : Int32)), .val (.int (3 : Int32)), .val (.int (0 : Int32)), .val (.int (2 : Int32)), .val (.long (el_a1 ((2 : Int32)).toNatClampNeg)), .second] [(.int (1 : Int32)), (.int (0 : Int32)), (.ref a1)])) _
          refine XS.iadd X30.here hx rfl (hb hby d10_51) rfl ?_
          show Steps p.tables e below (T30.setTop (mkF m 52 #[.val (.ref a1), .val (.int (0 : Int32)), .val (.int (3 : Int32)), .val (.int (0 : Int32)), .val (.int (2 : Int32)), .val (.long (el_a1 ((2 : Int32)).toNatClampNeg)), .second] [(.int (1 : Int32)), (.ref a1)])) _
          refine XS.aloadN X30.here hx rfl (hb hby d10_52) rfl rfl ?_
          show Steps p.tables e below (T30.setTop (mkF m 53 #[.val (.ref a1), .val (.int (0 : Int32)), .val (.int (3 : Int32)), .val (.int (0 : Int32)), .val (.int (2 : Int32)), .val (.long (el_a1 ((2 : Int32)).toNatClampNeg)), .second] [(.ref a1), (.int (1 : Int32)), (.ref a1)])) _
          refine XS.iloadN X30.here hx rfl (hb hby d10_53) rfl ?_
          show Steps p.tables e below (T30.setTop (mkF m 54 #[.val (.ref a1), .val (.int (0 : Int32)), .val (.int (3 : Int32)), .val (.int (0 : Int32)), .val (.int (2 : Int32)), .val (.long (el_a1 ((2 : Int32)).toNatClampNeg)), .second] [(.int (0 : Int32)), (.ref a1), (.int (1 : Int32)), (.ref a1)])) _
          exact kt
        obtain ⟨cl36, Ar36, S36, Ng36, H36⟩ := id V30_a1
        have hj36 : ¬ (0 : Int32) < 0 ∧ (0 : Int32) < (16 : Int32) := ⟨by decide, by decide⟩
        have hin36 := inb_of S36 hj36
        have lt36 : ((0 : Int32)).toNatClampNeg < ((16 : Int32)).toNatClampNeg := by rw [← S36]; exact Nat.lt_of_not_le fun q => hin36 (Or.inr q)
        have hv36 : ((.long ((own_upd (own_upd (own_upd el_a1 ((1 : Int32)).toNatClampNeg (el_a1 ((0 : Int32)).toNatClampNeg)) ((0 : Int32)).toNatClampNeg (el_a1 ((1 : Int32)).toNatClampNeg)) ((2 : Int32)).toNatClampNeg (el_a1 ((0 : Int32)).toNatClampNeg)) ((0 : Int32)).toNatClampNeg)) : Value) = (.long (el_a1 ((1 : Int32)).toNatClampNeg)) := rfl
        have pre37 : ∀ t, Steps p.tables e below (T30.setTop (mkF m 55 #[.val (.ref a1), .val (.int (0 : Int32)), .val (.int (3 : Int32)), .val (.int (0 : Int32)), .val (.int (2 : Int32)), .val (.long (el_a1 ((2 : Int32)).toNatClampNeg)), .second] [(.long (el_a1 ((1 : Int32)).toNatClampNeg)), (.int (1 : Int32)), (.ref a1)])) t → Steps p.tables e below (s₁.setTop (entryFrame m #[(.ref a1), (.int (0 : Int32)), (.int (3 : Int32))] 7)) t := fun t kt => by
          refine pre35 t ?_
          refine X30.laload hx (j := (0 : Int32)) (v := (.long (el_a1 ((1 : Int32)).toNatClampNeg))) (by rw [e30]; exact Ar36.1) (State.isArrayOf_alike hZ.alike Ar36.2.1) Ar36.2.2 hin36 ((H36 _ lt36).trans (congrArg some hv36)) (g := (mkF m 54 #[.val (.ref a1), .val (.int (0 : Int32)), .val (.int (3 : Int32)), .val (.int (0 : Int32)), .val (.int (2 : Int32)), .val (.long (el_a1 ((2 : Int32)).toNatClampNeg)), .second] [(.int (0 : Int32)), (.ref a1), (.int (1 : Int32)), (.ref a1)])) rfl rfl (hb hby d10_54) _ ?_
          show Steps p.tables e below (T30.setTop (mkF m 55 #[.val (.ref a1), .val (.int (0 : Int32)), .val (.int (3 : Int32)), .val (.int (0 : Int32)), .val (.int (2 : Int32)), .val (.long (el_a1 ((2 : Int32)).toNatClampNeg)), .second] [(.long (el_a1 ((1 : Int32)).toNatClampNeg)), (.int (1 : Int32)), (.ref a1)])) _
          exact kt
        obtain ⟨cl38, Ar38, S38, Ng38, H38⟩ := id V30_a1
        have hj38 : ¬ (1 : Int32) < 0 ∧ (1 : Int32) < (16 : Int32) := ⟨by decide, by decide⟩
        have hin38 := inb_of S38 hj38
        obtain ⟨T39, h39, X39, e39, W39, st39⟩ := stJ X30 hx hZ e30 Ar38 (j := (1 : Int32)) hin38 (g := (mkF m 55 #[.val (.ref a1), .val (.int (0 : Int32)), .val (.int (3 : Int32)), .val (.int (0 : Int32)), .val (.int (2 : Int32)), .val (.long (el_a1 ((2 : Int32)).toNatClampNeg)), .second] [(.long (el_a1 ((1 : Int32)).toNatClampNeg)), (.int (1 : Int32)), (.ref a1)])) rfl rfl (hb hby d10_55)
        have V39_a1 : Arf Z h39 a1 .long (16 : Int32) (fun i => (.long ((own_upd (own_upd (own_upd (own_upd el_a1 ((1 : Int32)).toNatClampNeg (el_a1 ((0 : Int32)).toNatClampNeg)) ((0 : Int32)).toNatClampNeg (el_a1 ((1 : Int32)).toNatClampNeg)) ((2 : Int32)).toNatClampNeg (el_a1 ((0 : Int32)).toNatClampNeg)) ((1 : Int32)).toNatClampNeg (el_a1 ((1 : Int32)).toNatClampNeg)) i))) := upd_long _ _ _ ▸ (V30_a1.set W39)
        have K39 : Keep h0 h39 [a1] := K30.wr W39 (Or.inl (mgE 0 rfl))
        have pre41 : ∀ t, Steps p.tables e below (T39.setTop (mkF m 56 #[.val (.ref a1), .val (.int (0 : Int32)), .val (.int (3 : Int32)), .val (.int (0 : Int32)), .val (.int (2 : Int32)), .val (.long (el_a1 ((2 : Int32)).toNatClampNeg)), .second] [])) t → Steps p.tables e below (s₁.setTop (entryFrame m #[(.ref a1), (.int (0 : Int32)), (.int (3 : Int32))] 7)) t := fun t kt => pre37 t (st39 t kt)
        have N39 := Fr.snoc X39 N30 g_a1
        have pre42 : ∀ t, Steps p.tables e below (T39.setTop (mkF m 65 #[.val (.ref a1), .val (.int (0 : Int32)), .val (.int (3 : Int32)), .val (.int (-1 : Int32)), .val (.int (2 : Int32)), .val (.long (el_a1 ((2 : Int32)).toNatClampNeg)), .second] [(.long (el_a1 ((2 : Int32)).toNatClampNeg)), (.int (0 : Int32)), (.ref a1)])) t → Steps p.tables e below (s₁.setTop (entryFrame m #[(.ref a1), (.int (0 : Int32)), (.int (3 : Int32))] 7)) t := fun t kt => by
          refine pre41 t ?_
          refine XS.goto X39.here hx rfl (pc0 := 56) (pc' := 31) rfl (hb hby d10_56) (by decide) (by decide) ?_
          show Steps p.tables e below (T39.setTop (mkF m 31 #[.val (.ref a1), .val (.int (0 : Int32)), .val (.int (3 : Int32)), .val (.int (0 : Int32)), .val (.int (2 : Int32)), .val (.long (el_a1 ((2 : Int32)).toNatClampNeg)), .second] [])) _
          refine XS.iinc X39.here hx rfl (hb hby d10_31) rfl (l' := #[.val (.ref a1), .val (.int (0 : Int32)), .val (.int (3 : Int32)), .val (.int (-1 : Int32)), .val (.int (2 : Int32)), .val (.long (el_a1 ((2 : Int32)).toNatClampNeg)), .second]) rfl ?_
          show Steps p.tables e below (T39.setTop (mkF m 34 #[.val (.ref a1), .val (.int (0 : Int32)), .val (.int (3 : Int32)), .val (.int (-1 : Int32)), .val (.int (2 : Int32)), .val (.long (el_a1 ((2 : Int32)).toNatClampNeg)), .second] [])) _
          refine XS.iloadN X39.here hx rfl (hb hby d10_34) rfl ?_
          show Steps p.tables e below (T39.setTop (mkF m 35 #[.val (.ref a1), .val (.int (0 : Int32)), .val (.int (3 : Int32)), .val (.int (-1 : Int32)), .val (.int (2 : Int32)), .val (.long (el_a1 ((2 : Int32)).toNatClampNeg)), .second] [(.int (-1 : Int32))])) _
          refine XS.iloadN X39.here hx rfl (hb hby d10_35) rfl ?_
          show Steps p.tables e below (T39.setTop (mkF m 36 #[.val (.ref a1), .val (.int (0 : Int32)), .val (.int (3 : Int32)), .val (.int (-1 : Int32)), .val (.int (2 : Int32)), .val (.long (el_a1 ((2 : Int32)).toNatClampNeg)), .second] [(.int (0 : Int32)), (.int (-1 : Int32))])) _
          refine XS.icmpYes X39.here hx rfl (pc0 := 36) (pc' := 59) rfl (hb hby d10_36) rfl (tlt (by decide : (-1 : Int32) < (0 : Int32))).1 (by decide) (by decide) ?_
          show Steps p.tables e below (T39.setTop (mkF m 59 #[.val (.ref a1), .val (.int (0 : Int32)), .val (.int (3 : Int32)), .val (.int (-1 : Int32)), .val (.int (2 : Int32)), .val (.long (el_a1 ((2 : Int32)).toNatClampNeg)), .second] [])) _
          refine XS.aloadN X39.here hx rfl (hb hby d10_59) rfl rfl ?_
          show Steps p.tables e below (T39.setTop (mkF m 60 #[.val (.ref a1), .val (.int (0 : Int32)), .val (.int (3 : Int32)), .val (.int (-1 : Int32)), .val (.int (2 : Int32)), .val (.long (el_a1 ((2 : Int32)).toNatClampNeg)), .second] [(.ref a1)])) _
          refine XS.iloadN X39.here hx rfl (hb hby d10_60) rfl ?_
          show Steps p.tables e below (T39.setTop (mkF m 61 #[.val (.ref a1), .val (.int (0 : Int32)), .val (.int (3 : Int32)), .val (.int (-1 : Int32)), .val (.int (2 : Int32)), .val (.long (el_a1 ((2 : Int32)).toNatClampNeg)), .second] [(.int (-1 : Int32)), (.ref a1)])) _
          refine XS.iconst X39.here hx rfl (hb hby d10_61) ?_
          show Steps p.tables e below (T39.setTop (mkF m 62 #[.val (.ref a1), .val (.int (0 : Int32)), .val (.int (3 : Int32)), .val (.int (-1 : Int32)), .val (.int (2 : Int32)), .val (.long (el_a1 ((2 : Int32)).toNatClampNeg)), .second] [(.int (1 : Int32)), (.int (-1 : Int32)), (.ref a1)])) _
          refine XS.iadd X39.here hx rfl (hb hby d10_62) rfl ?_
          show Steps p.tables e below (T39.setTop (mkF m 63 #[.val (.ref a1), .val (.int (0 : Int32)), .val (.int (3 : Int32)), .val (.int (-1 : Int32)), .val (.int (2 : Int32)), .val (.long (el_a1 ((2 : Int32)).toNatClampNeg)), .second] [(.int (0 : Int32)), (.ref a1)])) _
          refine XS.lload X39.here hx rfl (hb hby d10_63) rfl ?_
          show Steps p.tables e below (T39.setTop (mkF m 65 #[.val (.ref a1), .val (.int (0 : Int32)), .val (.int (3 : Int32)), .val (.int (-1 : Int32)), .val (.int (2 : Int32)), .val (.long (el_a1 ((2 : Int32)).toNatClampNeg)), .second] [(.long (el_a1 ((2 : Int32)).toNatClampNeg)), (.int (0 : Int32)), (.ref a1)])) _
          exact kt
        obtain ⟨cl43, Ar43, S43, Ng43, H43⟩ := id V39_a1
        have hj43 : ¬ (0 : Int32) < 0 ∧ (0 : Int32) < (16 : Int32) := ⟨by decide, by decide⟩
        have hin43 := inb_of S43 hj43
        obtain ⟨T44, h44, X44, e44, W44, st44⟩ := stJ X39 hx hZ e39 Ar43 (j := (0 : Int32)) hin43 (g := (mkF m 65 #[.val (.ref a1), .val (.int (0 : Int32)), .val (.int (3 : Int32)), .val (.int (-1 : Int32)), .val (.int (2 : Int32)), .val (.long (el_a1 ((2 : Int32)).toNatClampNeg)), .second] [(.long (el_a1 ((2 : Int32)).toNatClampNeg)), (.int (0 : Int32)), (.ref a1)])) rfl rfl (hb hby d10_65)
        have V44_a1 : Arf Z h44 a1 .long (16 : Int32) (fun i => (.long ((own_upd (own_upd (own_upd (own_upd (own_upd el_a1 ((1 : Int32)).toNatClampNeg (el_a1 ((0 : Int32)).toNatClampNeg)) ((0 : Int32)).toNatClampNeg (el_a1 ((1 : Int32)).toNatClampNeg)) ((2 : Int32)).toNatClampNeg (el_a1 ((0 : Int32)).toNatClampNeg)) ((1 : Int32)).toNatClampNeg (el_a1 ((1 : Int32)).toNatClampNeg)) ((0 : Int32)).toNatClampNeg (el_a1 ((2 : Int32)).toNatClampNeg)) i))) := upd_long _ _ _ ▸ (V39_a1.set W44)
        have K44 : Keep h0 h44 [a1] := K39.wr W44 (Or.inl (mgE 0 rfl))
        have pre46 : ∀ t, Steps p.tables e below (T44.setTop (mkF m 66 #[.val (.ref a1), .val (.int (0 : Int32)), .val (.int (3 : Int32)), .val (.int (-1 : Int32)), .val (.int (2 : Int32)), .val (.long (el_a1 ((2 : Int32)).toNatClampNeg)), .second] [])) t → Steps p.tables e below (s₁.setTop (entryFrame m #[(.ref a1), (.int (0 : Int32)), (.int (3 : Int32))] 7)) t := fun t kt => pre42 t (st44 t kt)
        have N44 := Fr.snoc X44 N39 g_a1
        have pre47 : ∀ t, Steps p.tables e below (T44.setTop (mkF m 69 #[.val (.ref a1), .val (.int (0 : Int32)), .val (.int (3 : Int32)), .val (.int (-1 : Int32)), .val (.int (3 : Int32)), .val (.long (el_a1 ((2 : Int32)).toNatClampNeg)), .second] [])) t → Steps p.tables e below (s₁.setTop (entryFrame m #[(.ref a1), (.int (0 : Int32)), (.int (3 : Int32))] 7)) t := fun t kt => by
          refine pre46 t ?_
          refine XS.goto X44.here hx rfl (pc0 := 66) (pc' := 3) rfl (hb hby d10_66) (by decide) (by decide) ?_
          show Steps p.tables e below (T44.setTop (mkF m 3 #[.val (.ref a1), .val (.int (0 : Int32)), .val (.int (3 : Int32)), .val (.int (-1 : Int32)), .val (.int (2 : Int32)), .val (.long (el_a1 ((2 : Int32)).toNatClampNeg)), .second] [])) _
          refine XS.iinc X44.here hx rfl (hb hby d10_3) rfl (l' := #[.val (.ref a1), .val (.int (0 : Int32)), .val (.int (3 : Int32)), .val (.int (-1 : Int32)), .val (.int (3 : Int32)), .val (.long (el_a1 ((2 : Int32)).toNatClampNeg)), .second]) rfl ?_
          show Steps p.tables e below (T44.setTop (mkF m 6 #[.val (.ref a1), .val (.int (0 : Int32)), .val (.int (3 : Int32)), .val (.int (-1 : Int32)), .val (.int (3 : Int32)), .val (.long (el_a1 ((2 : Int32)).toNatClampNeg)), .second] [])) _
          refine XS.iload X44.here hx rfl (hb hby d10_6) rfl ?_
          show Steps p.tables e below (T44.setTop (mkF m 8 #[.val (.ref a1), .val (.int (0 : Int32)), .val (.int (3 : Int32)), .val (.int (-1 : Int32)), .val (.int (3 : Int32)), .val (.long (el_a1 ((2 : Int32)).toNatClampNeg)), .second] [(.int (3 : Int32))])) _
          refine XS.iloadN X44.here hx rfl (hb hby d10_8) rfl ?_
          show Steps p.tables e below (T44.setTop (mkF m 9 #[.val (.ref a1), .val (.int (0 : Int32)), .val (.int (3 : Int32)), .val (.int (-1 : Int32)), .val (.int (3 : Int32)), .val (.long (el_a1 ((2 : Int32)).toNatClampNeg)), .second] [(.int (3 : Int32)), (.int (3 : Int32))])) _
          refine XS.icmpYes X44.here hx rfl (pc0 := 9) (pc' := 69) rfl (hb hby d10_9) rfl (flt (by decide : ¬ ((3 : Int32) < (3 : Int32)))).2.1 (by decide) (by decide) ?_
          show Steps p.tables e below (T44.setTop (mkF m 69 #[.val (.ref a1), .val (.int (0 : Int32)), .val (.int (3 : Int32)), .val (.int (-1 : Int32)), .val (.int (3 : Int32)), .val (.long (el_a1 ((2 : Int32)).toNatClampNeg)), .second] [])) _
          exact kt
        obtain ⟨fs, hr, hrun, hended, hW, hsame⟩ := X44.leave (v := none) (fun _ => rfl)
        refine ⟨_, _, pre47 _ ?_, hrun, hended, _, _, rfl, ?_, ⟨_, rfl⟩, hW, hsame.mono (by decide) (by decide)⟩
        · exact X44.returnOut hx Bd.returns (hb hby d10_69) hr
        · show Q10 Z a1 el_a1 h0 n0 _ T44.heap _
          rw [e44]
          exact ⟨rfl, N44, K44, (by simp only [srt, if_pos hc28, if_pos hc28_23, if_pos hc45]; exact V44_a1)⟩
      · skip
        have pre48 : ∀ t, Steps p.tables e below (T30.setTop (mkF m 65 #[.val (.ref a1), .val (.int (0 : Int32)), .val (.int (3 : Int32)), .val (.int (0 : Int32)), .val (.int (2 : Int32)), .val (.long (el_a1 ((2 : Int32)).toNatClampNeg)), .second] [(.long (el_a1 ((2 : Int32)).toNatClampNeg)), (.int (1 : Int32)), (.ref a1)])) t → Steps p.tables e below (s₁.setTop (entryFrame m #[(.ref a1), (.int (0 : Int32)), (.int (3 : Int32))] 7)) t := fun t kt => by
          refine pre33 t ?_
          refine X30.laload hx (j := (0 : Int32)) (v := (.long (el_a1 ((1 : Int32)).toNatClampNeg))) (by rw [e30]; exact Ar34.1) (State.isArrayOf_alike hZ.alike Ar34.2.1) Ar34.2.2 hin34 ((H34 _ lt34).trans (congrArg some hv34)) (g := (mkF m 43 #[.val (.ref a1), .val (.int (0 : Int32)), .val (.int (3 : Int32)), .val (.int (0 : Int32)), .val (.int (2 : Int32)), .val (.long (el_a1 ((2 : Int32)).toNatClampNeg)), .second] [(.int (0 : Int32)), (.ref a1), (.long (el_a1 ((2 : Int32)).toNatClampNeg))])) rfl rfl (hb hby d10_43) _ ?_
          show Steps p.tables e below (T30.setTop (mkF m 44 #[.val (.ref a1), .val (.int (0 : Int32)), .val (.int (3 : Int32)), .val (.int (0 : Int32)), .val (.int (2 : Int32)), .val (.long (el_a1 ((2 : Int32)).toNatClampNeg)), .second] [(.long (el_a1 ((1 : Int32)).toNatClampNeg)), (.long (el_a1 ((2 : Int32)).toNatClampNeg))])) _
          refine XS.lcmp X30.here hx rfl (hb hby d10_44) rfl ?_
          show Steps p.tables e below (T30.setTop (mkF m 45 #[.val (.ref a1), .val (.int (0 : Int32)), .val (.int (3 : Int32)), .val (.int (0 : Int32)), .val (.int (2 : Int32)), .val (.long (el_a1 ((2 : Int32)).toNatClampNeg)), .second] [(.int (lcmpW (el_a1 ((2 : Int32)).toNatClampNeg) (el_a1 ((1 : Int32)).toNatClampNeg)))])) _
          refine XS.ifYes X30.here hx rfl (pc0 := 45) (pc' := 59) rfl (hb hby d10_45) rfl ((if0 _ _).trans (flt hc45).2.1) (by decide) (by decide) ?_
          show Steps p.tables e below (T30.setTop (mkF m 59 #[.val (.ref a1), .val (.int (0 : Int32)), .val (.int (3 : Int32)), .val (.int (0 : Int32)), .val (.int (2 : Int32)), .val (.long (el_a1 ((2 : Int32)).toNatClampNeg)), .second] [])) _
          refine XS.aloadN X30.here hx rfl (hb hby d10_59) rfl rfl ?_
          show Steps p.tables e below (T30.setTop (mkF m 60 #[.val (.ref a1), .val (.int (0 : Int32)), .val (.int (3 : Int32)), .val (.int (0 : Int32)), .val (.int (2 : Int32)), .val (.long (el_a1 ((2 : Int32)).toNatClampNeg)), .second] [(.ref a1)])) _
          refine XS.iloadN X30.here hx rfl (hb hby d10_60) rfl ?_
          show Steps p.tables e below (T30.setTop (mkF m 61 #[.val (.ref a1), .val (.int (0 : Int32)), .val (.int (3 : Int32)), .val (.int (0 : Int32)), .val (.int (2 : Int32)), .val (.long (el_a1 ((2 : Int32)).toNatClampNeg)), .second] [(.int (0 : Int32)), (.ref a1)])) _
          refine XS.iconst X30.here hx rfl (hb hby d10_61) ?_
          show Steps p.tables e below (T30.setTop (mkF m 62 #[.val (.ref a1), .val (.int (0 : Int32)), .val (.int (3 : Int32)), .val (.int (0 : Int32)), .val (.int (2 : Int32)), .val (.long (el_a1 ((2 : Int32)).toNatClampNeg)), .second] [(.int (1 : Int32)), (.int (0 : Int32)), (.ref a1)])) _
          refine XS.iadd X30.here hx rfl (hb hby d10_62) rfl ?_
          show Steps p.tables e below (T30.setTop (mkF m 63 #[.val (.ref a1), .val (.int (0 : Int32)), .val (.int (3 : Int32)), .val (.int (0 : Int32)), .val (.int (2 : Int32)), .val (.long (el_a1 ((2 : Int32)).toNatClampNeg)), .second] [(.int (1 : Int32)), (.ref a1)])) _
          refine XS.lload X30.here hx rfl (hb hby d10_63) rfl ?_
          show Steps p.tables e below (T30.setTop (mkF m 65 #[.val (.ref a1), .val (.int (0 : Int32)), .val (.int (3 : Int32)), .val (.int (0 : Int32)), .val (.int (2 : Int32)), .val (.long (el_a1 ((2 : Int32)).toNatClampNeg)), .second] [(.long (el_a1 ((2 : Int32)).toNatClampNeg)), (.int (1 : Int32)), (.ref a1)])) _
          exact kt
        obtain ⟨cl49, Ar49, S49, Ng49, H49⟩ := id V30_a1
        have hj49 : ¬ (1 : Int32) < 0 ∧ (1 : Int32) < (16 : Int32) := ⟨by decide, by decide⟩
        have hin49 := inb_of S49 hj49
        obtain ⟨T50, h50, X50, e50, W50, st50⟩ := stJ X30 hx hZ e30 Ar49 (j := (1 : Int32)) hin49 (g := (mkF m 65 #[.val (.ref a1), .val (.int (0 : Int32)), .val (.int (3 : Int32)), .val (.int (0 : Int32)), .val (.int (2 : Int32)), .val (.long (el_a1 ((2 : Int32)).toNatClampNeg)), .second] [(.long (el_a1 ((2 : Int32)).toNatClampNeg)), (.int (1 : Int32)), (.ref a1)])) rfl rfl (hb hby d10_65)
        have V50_a1 : Arf Z h50 a1 .long (16 : Int32) (fun i => (.long ((own_upd (own_upd (own_upd (own_upd el_a1 ((1 : Int32)).toNatClampNeg (el_a1 ((0 : Int32)).toNatClampNeg)) ((0 : Int32)).toNatClampNeg (el_a1 ((1 : Int32)).toNatClampNeg)) ((2 : Int32)).toNatClampNeg (el_a1 ((0 : Int32)).toNatClampNeg)) ((1 : Int32)).toNatClampNeg (el_a1 ((2 : Int32)).toNatClampNeg)) i))) := upd_long _ _ _ ▸ (V30_a1.set W50)
        have K50 : Keep h0 h50 [a1] := K30.wr W50 (Or.inl (mgE 0 rfl))
        have pre52 : ∀ t, Steps p.tables e below (T50.setTop (mkF m 66 #[.val (.ref a1), .val (.int (0 : Int32)), .val (.int (3 : Int32)), .val (.int (0 : Int32)), .val (.int (2 : Int32)), .val (.long (el_a1 ((2 : Int32)).toNatClampNeg)), .second] [])) t → Steps p.tables e below (s₁.setTop (entryFrame m #[(.ref a1), (.int (0 : Int32)), (.int (3 : Int32))] 7)) t := fun t kt => pre48 t (st50 t kt)
        have N50 := Fr.snoc X50 N30 g_a1
        have pre53 : ∀ t, Steps p.tables e below (T50.setTop (mkF m 69 #[.val (.ref a1), .val (.int (0 : Int32)), .val (.int (3 : Int32)), .val (.int (0 : Int32)), .val (.int (3 : Int32)), .val (.long (el_a1 ((2 : Int32)).toNatClampNeg)), .second] [])) t → Steps p.tables e below (s₁.setTop (entryFrame m #[(.ref a1), (.int (0 : Int32)), (.int (3 : Int32))] 7)) t := fun t kt => by
          refine pre52 t ?_
          refine XS.goto X50.here hx rfl (pc0 := 66) (pc' := 3) rfl (hb hby d10_66) (by decide) (by decide) ?_
          show Steps p.tables e below (T50.setTop (mkF m 3 #[.val (.ref a1), .val (.int (0 : Int32)), .val (.int (3 : Int32)), .val (.int (0 : Int32)), .val (.int (2 : Int32)), .val (.long (el_a1 ((2 : Int32)).toNatClampNeg)), .second] [])) _
          refine XS.iinc X50.here hx rfl (hb hby d10_3) rfl (l' := #[.val (.ref a1), .val (.int (0 : Int32)), .val (.int (3 : Int32)), .val (.int (0 : Int32)), .val (.int (3 : Int32)), .val (.long (el_a1 ((2 : Int32)).toNatClampNeg)), .second]) rfl ?_
          show Steps p.tables e below (T50.setTop (mkF m 6 #[.val (.ref a1), .val (.int (0 : Int32)), .val (.int (3 : Int32)), .val (.int (0 : Int32)), .val (.int (3 : Int32)), .val (.long (el_a1 ((2 : Int32)).toNatClampNeg)), .second] [])) _
          refine XS.iload X50.here hx rfl (hb hby d10_6) rfl ?_
          show Steps p.tables e below (T50.setTop (mkF m 8 #[.val (.ref a1), .val (.int (0 : Int32)), .val (.int (3 : Int32)), .val (.int (0 : Int32)), .val (.int (3 : Int32)), .val (.long (el_a1 ((2 : Int32)).toNatClampNeg)), .second] [(.int (3 : Int32))])) _
          refine XS.iloadN X50.here hx rfl (hb hby d10_8) rfl ?_
          show Steps p.tables e below (T50.setTop (mkF m 9 #[.val (.ref a1), .val (.int (0 : Int32)), .val (.int (3 : Int32)), .val (.int (0 : Int32)), .val (.int (3 : Int32)), .val (.long (el_a1 ((2 : Int32)).toNatClampNeg)), .second] [(.int (3 : Int32)), (.int (3 : Int32))])) _
          refine XS.icmpYes X50.here hx rfl (pc0 := 9) (pc' := 69) rfl (hb hby d10_9) rfl (flt (by decide : ¬ ((3 : Int32) < (3 : Int32)))).2.1 (by decide) (by decide) ?_
          show Steps p.tables e below (T50.setTop (mkF m 69 #[.val (.ref a1), .val (.int (0 : Int32)), .val (.int (3 : Int32)), .val (.int (0 : Int32)), .val (.int (3 : Int32)), .val (.long (el_a1 ((2 : Int32)).toNatClampNeg)), .second] [])) _
          exact kt
        obtain ⟨fs, hr, hrun, hended, hW, hsame⟩ := X50.leave (v := none) (fun _ => rfl)
        refine ⟨_, _, pre53 _ ?_, hrun, hended, _, _, rfl, ?_, ⟨_, rfl⟩, hW, hsame.mono (by decide) (by decide)⟩
        · exact X50.returnOut hx Bd.returns (hb hby d10_69) hr
        · show Q10 Z a1 el_a1 h0 n0 _ T50.heap _
          rw [e50]
          exact ⟨rfl, N50, K50, (by simp only [srt, if_pos hc28, if_pos hc28_23, if_neg hc45]; exact V50_a1)⟩
    · skip
      have pre54 : ∀ t, Steps p.tables e below (T16.setTop (mkF m 69 #[.val (.ref a1), .val (.int (0 : Int32)), .val (.int (3 : Int32)), .val (.int (2 : Int32)), .val (.int (3 : Int32)), .val (.long (el_a1 ((2 : Int32)).toNatClampNeg)), .second] [])) t → Steps p.tables e below (s₁.setTop (entryFrame m #[(.ref a1), (.int (0 : Int32)), (.int (3 : Int32))] 7)) t := fun t kt => by
        refine pre21 t ?_
        refine X16.laload hx (j := (1 : Int32)) (v := (.long (el_a1 ((0 : Int32)).toNatClampNeg))) (by rw [e16]; exact Ar22.1) (State.isArrayOf_alike hZ.alike Ar22.2.1) Ar22.2.2 hin22 ((H22 _ lt22).trans (congrArg some hv22)) (g := (mkF m 26 #[.val (.ref a1), .val (.int (0 : Int32)), .val (.int (3 : Int32)), .val (.int (2 : Int32)), .val (.int (2 : Int32)), .val (.long (el_a1 ((2 : Int32)).toNatClampNeg)), .second] [(.int (1 : Int32)), (.ref a1), (.long (el_a1 ((2 : Int32)).toNatClampNeg))])) rfl rfl (hb hby d10_26) _ ?_
        show Steps p.tables e below (T16.setTop (mkF m 27 #[.val (.ref a1), .val (.int (0 : Int32)), .val (.int (3 : Int32)), .val (.int (2 : Int32)), .val (.int (2 : Int32)), .val (.long (el_a1 ((2 : Int32)).toNatClampNeg)), .second] [(.long (el_a1 ((0 : Int32)).toNatClampNeg)), (.long (el_a1 ((2 : Int32)).toNatClampNeg))])) _
        refine XS.lcmp X16.here hx rfl (hb hby d10_27) rfl ?_
        show Steps p.tables e below (T16.setTop (mkF m 28 #[.val (.ref a1), .val (.int (0 : Int32)), .val (.int (3 : Int32)), .val (.int (2 : Int32)), .val (.int (2 : Int32)), .val (.long (el_a1 ((2 : Int32)).toNatClampNeg)), .second] [(.int (lcmpW (el_a1 ((2 : Int32)).toNatClampNeg) (el_a1 ((0 : Int32)).toNatClampNeg)))])) _
        refine XS.ifYes X16.here hx rfl (pc0 := 28) (pc' := 66) rfl (hb hby d10_28) rfl ((if0 _ _).trans (flt hc28_23).2.1) (by decide) (by decide) ?_
        show Steps p.tables e below (T16.setTop (mkF m 66 #[.val (.ref a1), .val (.int (0 : Int32)), .val (.int (3 : Int32)), .val (.int (2 : Int32)), .val (.int (2 : Int32)), .val (.long (el_a1 ((2 : Int32)).toNatClampNeg)), .second] [])) _
        refine XS.goto X16.here hx rfl (pc0 := 66) (pc' := 3) rfl (hb hby d10_66) (by decide) (by decide) ?_
        show Steps p.tables e below (T16.setTop (mkF m 3 #[.val (.ref a1), .val (.int (0 : Int32)), .val (.int (3 : Int32)), .val (.int (2 : Int32)), .val (.int (2 : Int32)), .val (.long (el_a1 ((2 : Int32)).toNatClampNeg)), .second] [])) _
        refine XS.iinc X16.here hx rfl (hb hby d10_3) rfl (l' := #[.val (.ref a1), .val (.int (0 : Int32)), .val (.int (3 : Int32)), .val (.int (2 : Int32)), .val (.int (3 : Int32)), .val (.long (el_a1 ((2 : Int32)).toNatClampNeg)), .second]) rfl ?_
        show Steps p.tables e below (T16.setTop (mkF m 6 #[.val (.ref a1), .val (.int (0 : Int32)), .val (.int (3 : Int32)), .val (.int (2 : Int32)), .val (.int (3 : Int32)), .val (.long (el_a1 ((2 : Int32)).toNatClampNeg)), .second] [])) _
        refine XS.iload X16.here hx rfl (hb hby d10_6) rfl ?_
        show Steps p.tables e below (T16.setTop (mkF m 8 #[.val (.ref a1), .val (.int (0 : Int32)), .val (.int (3 : Int32)), .val (.int (2 : Int32)), .val (.int (3 : Int32)), .val (.long (el_a1 ((2 : Int32)).toNatClampNeg)), .second] [(.int (3 : Int32))])) _
        refine XS.iloadN X16.here hx rfl (hb hby d10_8) rfl ?_
        show Steps p.tables e below (T16.setTop (mkF m 9 #[.val (.ref a1), .val (.int (0 : Int32)), .val (.int (3 : Int32)), .val (.int (2 : Int32)), .val (.int (3 : Int32)), .val (.long (el_a1 ((2 : Int32)).toNatClampNeg)), .second] [(.int (3 : Int32)), (.int (3 : Int32))])) _
        refine XS.icmpYes X16.here hx rfl (pc0 := 9) (pc' := 69) rfl (hb hby d10_9) rfl (flt (by decide : ¬ ((3 : Int32) < (3 : Int32)))).2.1 (by decide) (by decide) ?_
        show Steps p.tables e below (T16.setTop (mkF m 69 #[.val (.ref a1), .val (.int (0 : Int32)), .val (.int (3 : Int32)), .val (.int (2 : Int32)), .val (.int (3 : Int32)), .val (.long (el_a1 ((2 : Int32)).toNatClampNeg)), .second] [])) _
        exact kt
      obtain ⟨fs, hr, hrun, hended, hW, hsame⟩ := X16.leave (v := none) (fun _ => rfl)
      refine ⟨_, _, pre54 _ ?_, hrun, hended, _, _, rfl, ?_, ⟨_, rfl⟩, hW, hsame.mono (by decide) (by decide)⟩
      · exact X16.returnOut hx Bd.returns (hb hby d10_69) hr
      · show Q10 Z a1 el_a1 h0 n0 _ T16.heap _
        rw [e16]
        exact ⟨rfl, N16, K16, (by simp only [srt, if_pos hc28, if_neg hc28_23]; exact V16_a1)⟩
  · skip
    have pre55 : ∀ t, Steps p.tables e below (s₁.setTop (mkF m 17 #[.val (.ref a1), .val (.int (0 : Int32)), .val (.int (3 : Int32)), .val (.int (2 : Int32)), .val (.int (2 : Int32)), .val (.long (el_a1 ((1 : Int32)).toNatClampNeg)), .second] [(.int (2 : Int32)), (.ref a1)])) t → Steps p.tables e below (s₁.setTop (entryFrame m #[(.ref a1), (.int (0 : Int32)), (.int (3 : Int32))] 7)) t := fun t kt => by
      refine pre3 t ?_
      refine X0.laload hx (j := (0 : Int32)) (v := (.long (el_a1 ((0 : Int32)).toNatClampNeg))) (by rw [e0]; exact Ar4.1) (State.isArrayOf_alike hZ.alike Ar4.2.1) Ar4.2.2 hin4 ((H4 _ lt4).trans (congrArg some hv4)) (g := (mkF m 26 #[.val (.ref a1), .val (.int (0 : Int32)), .val (.int (3 : Int32)), .val (.int (1 : Int32)), .val (.int (1 : Int32)), .val (.long (el_a1 ((1 : Int32)).toNatClampNeg)), .second] [(.int (0 : Int32)), (.ref a1), (.long (el_a1 ((1 : Int32)).toNatClampNeg))])) rfl rfl (hb hby d10_26) _ ?_
      show Steps p.tables e below (s₁.setTop (mkF m 27 #[.val (.ref a1), .val (.int (0 : Int32)), .val (.int (3 : Int32)), .val (.int (1 : Int32)), .val (.int (1 : Int32)), .val (.long (el_a1 ((1 : Int32)).toNatClampNeg)), .second] [(.long (el_a1 ((0 : Int32)).toNatClampNeg)), (.long (el_a1 ((1 : Int32)).toNatClampNeg))])) _
      refine XS.lcmp X0.here hx rfl (hb hby d10_27) rfl ?_
      show Steps p.tables e below (s₁.setTop (mkF m 28 #[.val (.ref a1), .val (.int (0 : Int32)), .val (.int (3 : Int32)), .val (.int (1 : Int32)), .val (.int (1 : Int32)), .val (.long (el_a1 ((1 : Int32)).toNatClampNeg)), .second] [(.int (lcmpW (el_a1 ((1 : Int32)).toNatClampNeg) (el_a1 ((0 : Int32)).toNatClampNeg)))])) _
      refine XS.ifYes X0.here hx rfl (pc0 := 28) (pc' := 66) rfl (hb hby d10_28) rfl ((if0 _ _).trans (flt hc28).2.1) (by decide) (by decide) ?_
      show Steps p.tables e below (s₁.setTop (mkF m 66 #[.val (.ref a1), .val (.int (0 : Int32)), .val (.int (3 : Int32)), .val (.int (1 : Int32)), .val (.int (1 : Int32)), .val (.long (el_a1 ((1 : Int32)).toNatClampNeg)), .second] [])) _
      refine XS.goto X0.here hx rfl (pc0 := 66) (pc' := 3) rfl (hb hby d10_66) (by decide) (by decide) ?_
      show Steps p.tables e below (s₁.setTop (mkF m 3 #[.val (.ref a1), .val (.int (0 : Int32)), .val (.int (3 : Int32)), .val (.int (1 : Int32)), .val (.int (1 : Int32)), .val (.long (el_a1 ((1 : Int32)).toNatClampNeg)), .second] [])) _
      refine XS.iinc X0.here hx rfl (hb hby d10_3) rfl (l' := #[.val (.ref a1), .val (.int (0 : Int32)), .val (.int (3 : Int32)), .val (.int (1 : Int32)), .val (.int (2 : Int32)), .val (.long (el_a1 ((1 : Int32)).toNatClampNeg)), .second]) rfl ?_
      show Steps p.tables e below (s₁.setTop (mkF m 6 #[.val (.ref a1), .val (.int (0 : Int32)), .val (.int (3 : Int32)), .val (.int (1 : Int32)), .val (.int (2 : Int32)), .val (.long (el_a1 ((1 : Int32)).toNatClampNeg)), .second] [])) _
      refine XS.iload X0.here hx rfl (hb hby d10_6) rfl ?_
      show Steps p.tables e below (s₁.setTop (mkF m 8 #[.val (.ref a1), .val (.int (0 : Int32)), .val (.int (3 : Int32)), .val (.int (1 : Int32)), .val (.int (2 : Int32)), .val (.long (el_a1 ((1 : Int32)).toNatClampNeg)), .second] [(.int (2 : Int32))])) _
      refine XS.iloadN X0.here hx rfl (hb hby d10_8) rfl ?_
      show Steps p.tables e below (s₁.setTop (mkF m 9 #[.val (.ref a1), .val (.int (0 : Int32)), .val (.int (3 : Int32)), .val (.int (1 : Int32)), .val (.int (2 : Int32)), .val (.long (el_a1 ((1 : Int32)).toNatClampNeg)), .second] [(.int (3 : Int32)), (.int (2 : Int32))])) _
      refine XS.icmpNo X0.here hx rfl (hb hby d10_9) rfl (tlt (by decide : (2 : Int32) < (3 : Int32))).2.1 ?_
      show Steps p.tables e below (s₁.setTop (mkF m 12 #[.val (.ref a1), .val (.int (0 : Int32)), .val (.int (3 : Int32)), .val (.int (1 : Int32)), .val (.int (2 : Int32)), .val (.long (el_a1 ((1 : Int32)).toNatClampNeg)), .second] [])) _
      refine XS.aloadN X0.here hx rfl (hb hby d10_12) rfl rfl ?_
      show Steps p.tables e below (s₁.setTop (mkF m 13 #[.val (.ref a1), .val (.int (0 : Int32)), .val (.int (3 : Int32)), .val (.int (1 : Int32)), .val (.int (2 : Int32)), .val (.long (el_a1 ((1 : Int32)).toNatClampNeg)), .second] [(.ref a1)])) _
      refine XS.iload X0.here hx rfl (hb hby d10_13) rfl ?_
      show Steps p.tables e below (s₁.setTop (mkF m 15 #[.val (.ref a1), .val (.int (0 : Int32)), .val (.int (3 : Int32)), .val (.int (1 : Int32)), .val (.int (2 : Int32)), .val (.long (el_a1 ((1 : Int32)).toNatClampNeg)), .second] [(.int (2 : Int32)), (.ref a1)])) _
      refine XS.dup X0.here hx rfl (hb hby d10_15) rfl rfl ?_
      show Steps p.tables e below (s₁.setTop (mkF m 16 #[.val (.ref a1), .val (.int (0 : Int32)), .val (.int (3 : Int32)), .val (.int (1 : Int32)), .val (.int (2 : Int32)), .val (.long (el_a1 ((1 : Int32)).toNatClampNeg)), .second] [(.int (2 : Int32)), (.int (2 : Int32)), (.ref a1)])) _
      refine XS.istoreN X0.here hx rfl (hb hby d10_16) rfl (l' := #[.val (.ref a1), .val (.int (0 : Int32)), .val (.int (3 : Int32)), .val (.int (2 : Int32)), .val (.int (2 : Int32)), .val (.long (el_a1 ((1 : Int32)).toNatClampNeg)), .second]) rfl ?_
      show Steps p.tables e below (s₁.setTop (mkF m 17 #[.val (.ref a1), .val (.int (0 : Int32)), .val (.int (3 : Int32)), .val (.int (2 : Int32)), .val (.int (2 : Int32)), .val (.long (el_a1 ((1 : Int32)).toNatClampNeg)), .second] [(.int (2 : Int32)), (.ref a1)])) _
      exact kt
    obtain ⟨cl56, Ar56, S56, Ng56, H56⟩ := id V_a1
    have hj56 : ¬ (2 : Int32) < 0 ∧ (2 : Int32) < (16 : Int32) := ⟨by decide, by decide⟩
    have hin56 := inb_of S56 hj56
    have lt56 : ((2 : Int32)).toNatClampNeg < ((16 : Int32)).toNatClampNeg := by rw [← S56]; exact Nat.lt_of_not_le fun q => hin56 (Or.inr q)
    have hv56 : ((.long (el_a1 ((2 : Int32)).toNatClampNeg)) : Value) = (.long (el_a1 ((2 : Int32)).toNatClampNeg)) := rfl
    have pre57 : ∀ t, Steps p.tables e below (s₁.setTop (mkF m 26 #[.val (.ref a1), .val (.int (0 : Int32)), .val (.int (3 : Int32)), .val (.int (2 : Int32)), .val (.int (2 : Int32)), .val (.long (el_a1 ((2 : Int32)).toNatClampNeg)), .second] [(.int (1 : Int32)), (.ref a1), (.long (el_a1 ((2 : Int32)).toNatClampNeg))])) t → Steps p.tables e below (s₁.setTop (entryFrame m #[(.ref a1), (.int (0 : Int32)), (.int (3 : Int32))] 7)) t := fun t kt => by
      refine pre55 t ?_
      refine X0.laload hx (j := (2 : Int32)) (v := (.long (el_a1 ((2 : Int32)).toNatClampNeg))) (by rw [e0]; exact Ar56.1) (State.isArrayOf_alike hZ.alike Ar56.2.1) Ar56.2.2 hin56 ((H56 _ lt56).trans (congrArg some hv56)) (g := (mkF m 17 #[.val (.ref a1), .val (.int (0 : Int32)), .val (.int (3 : Int32)), .val (.int (2 : Int32)), .val (.int (2 : Int32)), .val (.long (el_a1 ((1 : Int32)).toNatClampNeg)), .second] [(.int (2 : Int32)), (.ref a1)])) rfl rfl (hb hby d10_17) _ ?_
      show Steps p.tables e below (s₁.setTop (mkF m 18 #[.val (.ref a1), .val (.int (0 : Int32)), .val (.int (3 : Int32)), .val (.int (2 : Int32)), .val (.int (2 : Int32)), .val (.long (el_a1 ((1 : Int32)).toNatClampNeg)), .second] [(.long (el_a1 ((2 : Int32)).toNatClampNeg))])) _
      refine XS.lstore X0.here hx rfl (hb hby d10_18) rfl (l' := #[.val (.ref a1), .val (.int (0 : Int32)), .val (.int (3 : Int32)), .val (.int (2 : Int32)), .val (.int (2 : Int32)), .val (.long (el_a1 ((2 : Int32)).toNatClampNeg)), .second]) rfl ?_
      show Steps p.tables e below (s₁.setTop (mkF m 20 #[.val (.ref a1), .val (.int (0 : Int32)), .val (.int (3 : Int32)), .val (.int (2 : Int32)), .val (.int (2 : Int32)), .val (.long (el_a1 ((2 : Int32)).toNatClampNeg)), .second] [])) _
      refine XS.lload X0.here hx rfl (hb hby d10_20) rfl ?_
      show Steps p.tables e below (s₁.setTop (mkF m 22 #[.val (.ref a1), .val (.int (0 : Int32)), .val (.int (3 : Int32)), .val (.int (2 : Int32)), .val (.int (2 : Int32)), .val (.long (el_a1 ((2 : Int32)).toNatClampNeg)), .second] [(.long (el_a1 ((2 : Int32)).toNatClampNeg))])) _
      refine XS.aloadN X0.here hx rfl (hb hby d10_22) rfl rfl ?_
      show Steps p.tables e below (s₁.setTop (mkF m 23 #[.val (.ref a1), .val (.int (0 : Int32)), .val (.int (3 : Int32)), .val (.int (2 : Int32)), .val (.int (2 : Int32)), .val (.long (el_a1 ((2 : Int32)).toNatClampNeg)), .second] [(.ref a1), (.long (el_a1 ((2 : Int32)).toNatClampNeg))])) _
      refine XS.iloadN X0.here hx rfl (hb hby d10_23) rfl ?_
      show Steps p.tables e below (s₁.setTop (mkF m 24 #[.val (.ref a1), .val (.int (0 : Int32)), .val (.int (3 : Int32)), .val (.int (2 : Int32)), .val (.int (2 : Int32)), .val (.long (el_a1 ((2 : Int32)).toNatClampNeg)), .second] [(.int (2 : Int32)), (.ref a1), (.long (el_a1 ((2 : Int32)).toNatClampNeg))])) _
      refine XS.iconst X0.here hx rfl (hb hby d10_24) ?_
      show Steps p.tables e below (s₁.setTop (mkF m 25 #[.val (.ref a1), .val (.int (0 : Int32)), .val (.int (3 : Int32)), .val (.int (2 : Int32)), .val (.int (2 : Int32)), .val (.long (el_a1 ((2 : Int32)).toNatClampNeg)), .second] [(.int (1 : Int32)), (.int (2 : Int32)), (.ref a1), (.long (el_a1 ((2 : Int32)).toNatClampNeg))])) _
      refine XS.isub X0.here hx rfl (hb hby d10_25) rfl ?_
      show Steps p.tables e below (s₁.setTop (mkF m 26 #[.val (.ref a1), .val (.int (0 : Int32)), .val (.int (3 : Int32)), .val (.int (2 : Int32)), .val (.int (2 : Int32)), .val (.long (el_a1 ((2 : Int32)).toNatClampNeg)), .second] [(.int (1 : Int32)), (.ref a1), (.long (el_a1 ((2 : Int32)).toNatClampNeg))])) _
      exact kt
    obtain ⟨cl58, Ar58, S58, Ng58, H58⟩ := id V_a1
    have hj58 : ¬ (1 : Int32) < 0 ∧ (1 : Int32) < (16 : Int32) := ⟨by decide, by decide⟩
    have hin58 := inb_of S58 hj58
    have lt58 : ((1 : Int32)).toNatClampNeg < ((16 : Int32)).toNatClampNeg := by rw [← S58]; exact Nat.lt_of_not_le fun q => hin58 (Or.inr q)
    have hv58 : ((.long (el_a1 ((1 : Int32)).toNatClampNeg)) : Value) = (.long (el_a1 ((1 : Int32)).toNatClampNeg)) := rfl
    by_cases hc28_59 : (lcmpW (el_a1 ((2 : Int32)).toNatClampNeg) (el_a1 ((1 : Int32)).toNatClampNeg)) < (0 : Int32)
    · skip
      have pre60 : ∀ t, Steps p.tables e below (s₁.setTop (mkF m 43 #[.val (.ref a1), .val (.int (0 : Int32)), .val (.int (3 : Int32)), .val (.int (1 : Int32)), .val (.int (2 : Int32)), .val (.long (el_a1 ((2 : Int32)).toNatClampNeg)), .second] [(.int (1 : Int32)), (.ref a1), (.long (el_a1 ((2 : Int32)).toNatClampNeg))])) t → Steps p.tables e below (s₁.setTop (entryFrame m #[(.ref a1), (.int (0 : Int32)), (.int (3 : Int32))] 7)) t := fun t kt => by
        refine pre57 t ?_
        refine X0.laload hx (j := (1 : Int32)) (v := (.long (el_a1 ((1 : Int32)).toNatClampNeg))) (by rw [e0]; exact Ar58.1) (State.isArrayOf_alike hZ.alike Ar58.2.1) Ar58.2.2 hin58 ((H58 _ lt58).trans (congrArg some hv58)) (g := (mkF m 26 #[.val (.ref a1), .val (.int (0 : Int32)), .val (.int (3 : Int32)), .val (.int (2 : Int32)), .val (.int (2 : Int32)), .val (.long (el_a1 ((2 : Int32)).toNatClampNeg)), .second] [(.int (1 : Int32)), (.ref a1), (.long (el_a1 ((2 : Int32)).toNatClampNeg))])) rfl rfl (hb hby d10_26) _ ?_
        show Steps p.tables e below (s₁.setTop (mkF m 27 #[.val (.ref a1), .val (.int (0 : Int32)), .val (.int (3 : Int32)), .val (.int (2 : Int32)), .val (.int (2 : Int32)), .val (.long (el_a1 ((2 : Int32)).toNatClampNeg)), .second] [(.long (el_a1 ((1 : Int32)).toNatClampNeg)), (.long (el_a1 ((2 : Int32)).toNatClampNeg))])) _
        refine XS.lcmp X0.here hx rfl (hb hby d10_27) rfl ?_
        show Steps p.tables e below (s₁.setTop (mkF m 28 #[.val (.ref a1), .val (.int (0 : Int32)), .val (.int (3 : Int32)), .val (.int (2 : Int32)), .val (.int (2 : Int32)), .val (.long (el_a1 ((2 : Int32)).toNatClampNeg)), .second] [(.int (lcmpW (el_a1 ((2 : Int32)).toNatClampNeg) (el_a1 ((1 : Int32)).toNatClampNeg)))])) _
        refine XS.ifNo X0.here hx rfl (hb hby d10_28) rfl ((if0 _ _).trans (tlt hc28_59).2.1) ?_
        show Steps p.tables e below (s₁.setTop (mkF m 31 #[.val (.ref a1), .val (.int (0 : Int32)), .val (.int (3 : Int32)), .val (.int (2 : Int32)), .val (.int (2 : Int32)), .val (.long (el_a1 ((2 : Int32)).toNatClampNeg)), .second] [])) _
        refine XS.iinc X0.here hx rfl (hb hby d10_31) rfl (l' := #[.val (.ref a1), .val (.int (0 : Int32)), .val (.int (3 : Int32)), .val (.int (1 : Int32)), .val (.int (2 : Int32)), .val (.long (el_a1 ((2 : Int32)).toNatClampNeg)), .second]) rfl ?_
        show Steps p.tables e below (s₁.setTop (mkF m 34 #[.val (.ref a1), .val (.int (0 : Int32)), .val (.int (3 : Int32)), .val (.int (1 : Int32)), .val (.int (2 : Int32)), .val (.long (el_a1 ((2 : Int32)).toNatClampNeg)), .second] [])) _
        refine XS.iloadN X0.here hx rfl (hb hby d10_34) rfl ?_
        show Steps p.tables e below (s₁.setTop (mkF m 35 #[.val (.ref a1), .val (.int (0 : Int32)), .val (.int (3 : Int32)), .val (.int (1 : Int32)), .val (.int (2 : Int32)), .val (.long (el_a1 ((2 : Int32)).toNatClampNeg)), .second] [(.int (1 : Int32))])) _
        refine XS.iloadN X0.here hx rfl (hb hby d10_35) rfl ?_
        show Steps p.tables e below (s₁.setTop (mkF m 36 #[.val (.ref a1), .val (.int (0 : Int32)), .val (.int (3 : Int32)), .val (.int (1 : Int32)), .val (.int (2 : Int32)), .val (.long (el_a1 ((2 : Int32)).toNatClampNeg)), .second] [(.int (0 : Int32)), (.int (1 : Int32))])) _
        refine XS.icmpNo X0.here hx rfl (hb hby d10_36) rfl (flt (by decide : ¬ ((1 : Int32) < (0 : Int32)))).1 ?_
        show Steps p.tables e below (s₁.setTop (mkF m 39 #[.val (.ref a1), .val (.int (0 : Int32)), .val (.int (3 : Int32)), .val (.int (1 : Int32)), .val (.int (2 : Int32)), .val (.long (el_a1 ((2 : Int32)).toNatClampNeg)), .second] [])) _
        refine XS.lload X0.here hx rfl (hb hby d10_39) rfl ?_
        show Steps p.tables e below (s₁.setTop (mkF m 41 #[.val (.ref a1), .val (.int (0 : Int32)), .val (.int (3 : Int32)), .val (.int (1 : Int32)), .val (.int (2 : Int32)), .val (.long (el_a1 ((2 : Int32)).toNatClampNeg)), .second] [(.long (el_a1 ((2 : Int32)).toNatClampNeg))])) _
        refine XS.aloadN X0.here hx rfl (hb hby d10_41) rfl rfl ?_
        show Steps p.tables e below (s₁.setTop (mkF m 42 #[.val (.ref a1), .val (.int (0 : Int32)), .val (.int (3 : Int32)), .val (.int (1 : Int32)), .val (.int (2 : Int32)), .val (.long (el_a1 ((2 : Int32)).toNatClampNeg)), .second] [(.ref a1), (.long (el_a1 ((2 : Int32)).toNatClampNeg))])) _
        refine XS.iloadN X0.here hx rfl (hb hby d10_42) rfl ?_
        show Steps p.tables e below (s₁.setTop (mkF m 43 #[.val (.ref a1), .val (.int (0 : Int32)), .val (.int (3 : Int32)), .val (.int (1 : Int32)), .val (.int (2 : Int32)), .val (.long (el_a1 ((2 : Int32)).toNatClampNeg)), .second] [(.int (1 : Int32)), (.ref a1), (.long (el_a1 ((2 : Int32)).toNatClampNeg))])) _
        exact kt
      obtain ⟨cl61, Ar61, S61, Ng61, H61⟩ := id V_a1
      have hj61 : ¬ (1 : Int32) < 0 ∧ (1 : Int32) < (16 : Int32) := ⟨by decide, by decide⟩
      have hin61 := inb_of S61 hj61
      have lt61 : ((1 : Int32)).toNatClampNeg < ((16 : Int32)).toNatClampNeg := by rw [← S61]; exact Nat.lt_of_not_le fun q => hin61 (Or.inr q)
      have hv61 : ((.long (el_a1 ((1 : Int32)).toNatClampNeg)) : Value) = (.long (el_a1 ((1 : Int32)).toNatClampNeg)) := rfl
      have pre62 : ∀ t, Steps p.tables e below (s₁.setTop (mkF m 54 #[.val (.ref a1), .val (.int (0 : Int32)), .val (.int (3 : Int32)), .val (.int (1 : Int32)), .val (.int (2 : Int32)), .val (.long (el_a1 ((2 : Int32)).toNatClampNeg)), .second] [(.int (1 : Int32)), (.ref a1), (.int (2 : Int32)), (.ref a1)])) t → Steps p.tables e below (s₁.setTop (entryFrame m #[(.ref a1), (.int (0 : Int32)), (.int (3 : Int32))] 7)) t := fun t kt => by
        refine pre60 t ?_
        refine X0.laload hx (j := (1 : Int32)) (v := (.long (el_a1 ((1 : Int32)).toNatClampNeg))) (by rw [e0]; exact Ar61.1) (State.isArrayOf_alike hZ.alike Ar61.2.1) Ar61.2.2 hin61 ((H61 _ lt61).trans (congrArg some hv61)) (g := (mkF m 43 #[.val (.ref a1), .val (.int (0 : Int32)), .val (.int (3 : Int32)), .val (.int (1 : Int32)), .val (.int (2 : Int32)), .val (.long (el_a1 ((2 : Int32)).toNatClampNeg)), .second] [(.int (1 : Int32)), (.ref a1), (.long (el_a1 ((2 : Int32)).toNatClampNeg))])) rfl rfl (hb hby d10_43) _ ?_
        show Steps p.tables e below (s₁.setTop (mkF m 44 #[.val (.ref a1), .val (.int (0 : Int32)), .val (.int (3 : Int32)), .val (.int (1 : Int32)), .val (.int (2 : Int32)), .val (.long (el_a1 ((2 : Int32)).toNatClampNeg)), .second] [(.long (el_a1 ((1 : Int32)).toNatClampNeg)), (.long (el_a1 ((2 : Int32)).toNatClampNeg))])) _
        refine XS.lcmp X0.here hx rfl (hb hby d10_44) rfl ?_
        show Steps p.tables e below (s₁.setTop (mkF m 45 #[.val (.ref a1), .val (.int (0 : Int32)), .val (.int (3 : Int32)), .val (.int (1 : Int32)), .val (.int (2 : Int32)), .val (.long (el_a1 ((2 : Int32)).toNatClampNeg)), .second] [(.int (lcmpW (el_a1 ((2 : Int32)).toNatClampNeg) (el_a1 ((1 : Int32)).toNatClampNeg)))])) _
        refine XS.ifNo X0.here hx rfl (hb hby d10_45) rfl ((if0 _ _).trans (tlt hc28_59).2.1) ?_
        show Steps p.tables e below (s₁.setTop (mkF m 48 #[.val (.ref a1), .val (.int (0 : Int32)), .val (.int (3 : Int32)), .val (.int (1 : Int32)), .val (.int (2 : Int32)), .val (.long (el_a1 ((2 : Int32)).toNatClampNeg)), .second] [])) _
        refine XS.aloadN X0.here hx rfl (hb hby d10_48) rfl rfl ?_
        show Steps p.tables e below (s₁.setTop (mkF m 49 #[.val (.ref a1), .val (.int (0 : Int32)), .val (.int (3 : Int32)), .val (.int (1 : Int32)), .val (.int (2 : Int32)), .val (.long (el_a1 ((2 : Int32)).toNatClampNeg)), .second] [(.ref a1)])) _
        refine XS.iloadN X0.here hx rfl (hb hby d10_49) rfl ?_
        show Steps p.tables e below (s₁.setTop (mkF m 50 #[.val (.ref a1), .val (.int (0 : Int32)), .val (.int (3 : Int32)), .val (.int (1 : Int32)), .val (.int (2 : Int32)), .val (.long (el_a1 ((2 : Int32)).toNatClampNeg)), .second] [(.int (1 : Int32)), (.ref a1)])) _
        refine XS.iconst X0.here hx rfl (hb hby d10_50) ?_
        show Steps p.tables e below (s₁.setTop (mkF m 51 #[.val (.ref a1), .val (.int (0 : Int32)), .val (.int (3 : Int32)), .val (.int (1 : Int32)), .val (.int (2 : Int32)), .val (.long (el_a1 ((2 : Int32)).toNatClampNeg)), .second] [(.int (1 : Int32)), (.int (1 : Int32)), (.ref a1)])) _
        refine XS.iadd X0.here hx rfl (hb hby d10_51) rfl ?_
        show Steps p.tables e below (s₁.setTop (mkF m 52 #[.val (.ref a1), .val (.int (0 : Int32)), .val (.int (3 : Int32)), .val (.int (1 : Int32)), .val (.int (2 : Int32)), .val (.long (el_a1 ((2 : Int32)).toNatClampNeg)), .second] [(.int (2 : Int32)), (.ref a1)])) _
        refine XS.aloadN X0.here hx rfl (hb hby d10_52) rfl rfl ?_
        show Steps p.tables e below (s₁.setTop (mkF m 53 #[.val (.ref a1), .val (.int (0 : Int32)), .val (.int (3 : Int32)), .val (.int (1 : Int32)), .val (.int (2 : Int32)), .val (.long (el_a1 ((2 : Int32)).toNatClampNeg)), .second] [(.ref a1), (.int (2 : Int32)), (.ref a1)])) _
        refine XS.iloadN X0.here hx rfl (hb hby d10_53) rfl ?_
        show Steps p.tables e below (s₁.setTop (mkF m 54 #[.val (.ref a1), .val (.int (0 : Int32)), .val (.int (3 : Int32)), .val (.int (1 : Int32)), .val (.int (2 : Int32)), .val (.long (el_a1 ((2 : Int32)).toNatClampNeg)), .second] [(.int (1 : Int32)), (.ref a1), (.int (2 : Int32)), (.ref a1)])) _
        exact kt
      obtain ⟨cl63, Ar63, S63, Ng63, H63⟩ := id V_a1
      have hj63 : ¬ (1 : Int32) < 0 ∧ (1 : Int32) < (16 : Int32) := ⟨by decide, by decide⟩
      have hin63 := inb_of S63 hj63
      have lt63 : ((1 : Int32)).toNatClampNeg < ((16 : Int32)).toNatClampNeg := by rw [← S63]; exact Nat.lt_of_not_le fun q => hin63 (Or.inr q)
      have hv63 : ((.long (el_a1 ((1 : Int32)).toNatClampNeg)) : Value) = (.long (el_a1 ((1 : Int32)).toNatClampNeg)) := rfl
      have pre64 : ∀ t, Steps p.tables e below (s₁.setTop (mkF m 55 #[.val (.ref a1), .val (.int (0 : Int32)), .val (.int (3 : Int32)), .val (.int (1 : Int32)), .val (.int (2 : Int32)), .val (.long (el_a1 ((2 : Int32)).toNatClampNeg)), .second] [(.long (el_a1 ((1 : Int32)).toNatClampNeg)), (.int (2 : Int32)), (.ref a1)])) t → Steps p.tables e below (s₁.setTop (entryFrame m #[(.ref a1), (.int (0 : Int32)), (.int (3 : Int32))] 7)) t := fun t kt => by
        refine pre62 t ?_
        refine X0.laload hx (j := (1 : Int32)) (v := (.long (el_a1 ((1 : Int32)).toNatClampNeg))) (by rw [e0]; exact Ar63.1) (State.isArrayOf_alike hZ.alike Ar63.2.1) Ar63.2.2 hin63 ((H63 _ lt63).trans (congrArg some hv63)) (g := (mkF m 54 #[.val (.ref a1), .val (.int (0 : Int32)), .val (.int (3 : Int32)), .val (.int (1 : Int32)), .val (.int (2 : Int32)), .val (.long (el_a1 ((2 : Int32)).toNatClampNeg)), .second] [(.int (1 : Int32)), (.ref a1), (.int (2 : Int32)), (.ref a1)])) rfl rfl (hb hby d10_54) _ ?_
        show Steps p.tables e below (s₁.setTop (mkF m 55 #[.val (.ref a1), .val (.int (0 : Int32)), .val (.int (3 : Int32)), .val (.int (1 : Int32)), .val (.int (2 : Int32)), .val (.long (el_a1 ((2 : Int32)).toNatClampNeg)), .second] [(.long (el_a1 ((1 : Int32)).toNatClampNeg)), (.int (2 : Int32)), (.ref a1)])) _
        exact kt
      obtain ⟨cl65, Ar65, S65, Ng65, H65⟩ := id V_a1
      have hj65 : ¬ (2 : Int32) < 0 ∧ (2 : Int32) < (16 : Int32) := ⟨by decide, by decide⟩
      have hin65 := inb_of S65 hj65
      obtain ⟨T66, h66, X66, e66, W66, st66⟩ := stJ X0 hx hZ e0 Ar65 (j := (2 : Int32)) hin65 (g := (mkF m 55 #[.val (.ref a1), .val (.int (0 : Int32)), .val (.int (3 : Int32)), .val (.int (1 : Int32)), .val (.int (2 : Int32)), .val (.long (el_a1 ((2 : Int32)).toNatClampNeg)), .second] [(.long (el_a1 ((1 : Int32)).toNatClampNeg)), (.int (2 : Int32)), (.ref a1)])) rfl rfl (hb hby d10_55)
      have V66_a1 : Arf Z h66 a1 .long (16 : Int32) (fun i => (.long ((own_upd el_a1 ((2 : Int32)).toNatClampNeg (el_a1 ((1 : Int32)).toNatClampNeg)) i))) := upd_long _ _ _ ▸ (V_a1.set W66)
      have K66 : Keep h0 h66 [a1] := (Keep.refl h0 [a1]).wr W66 (Or.inl (mgE 0 rfl))
      have pre68 : ∀ t, Steps p.tables e below (T66.setTop (mkF m 56 #[.val (.ref a1), .val (.int (0 : Int32)), .val (.int (3 : Int32)), .val (.int (1 : Int32)), .val (.int (2 : Int32)), .val (.long (el_a1 ((2 : Int32)).toNatClampNeg)), .second] [])) t → Steps p.tables e below (s₁.setTop (entryFrame m #[(.ref a1), (.int (0 : Int32)), (.int (3 : Int32))] 7)) t := fun t kt => pre64 t (st66 t kt)
      have N66 := Fr.snoc X66 N0 g_a1
      have pre69 : ∀ t, Steps p.tables e below (T66.setTop (mkF m 43 #[.val (.ref a1), .val (.int (0 : Int32)), .val (.int (3 : Int32)), .val (.int (0 : Int32)), .val (.int (2 : Int32)), .val (.long (el_a1 ((2 : Int32)).toNatClampNeg)), .second] [(.int (0 : Int32)), (.ref a1), (.long (el_a1 ((2 : Int32)).toNatClampNeg))])) t → Steps p.tables e below (s₁.setTop (entryFrame m #[(.ref a1), (.int (0 : Int32)), (.int (3 : Int32))] 7)) t := fun t kt => by
        refine pre68 t ?_
        refine XS.goto X66.here hx rfl (pc0 := 56) (pc' := 31) rfl (hb hby d10_56) (by decide) (by decide) ?_
        show Steps p.tables e below (T66.setTop (mkF m 31 #[.val (.ref a1), .val (.int (0 : Int32)), .val (.int (3 : Int32)), .val (.int (1 : Int32)), .val (.int (2 : Int32)), .val (.long (el_a1 ((2 : Int32)).toNatClampNeg)), .second] [])) _
        refine XS.iinc X66.here hx rfl (hb hby d10_31) rfl (l' := #[.val (.ref a1), .val (.int (0 : Int32)), .val (.int (3 : Int32)), .val (.int (0 : Int32)), .val (.int (2 : Int32)), .val (.long (el_a1 ((2 : Int32)).toNatClampNeg)), .second]) rfl ?_
        show Steps p.tables e below (T66.setTop (mkF m 34 #[.val (.ref a1), .val (.int (0 : Int32)), .val (.int (3 : Int32)), .val (.int (0 : Int32)), .val (.int (2 : Int32)), .val (.long (el_a1 ((2 : Int32)).toNatClampNeg)), .second] [])) _
        refine XS.iloadN X66.here hx rfl (hb hby d10_34) rfl ?_
        show Steps p.tables e below (T66.setTop (mkF m 35 #[.val (.ref a1), .val (.int (0 : Int32)), .val (.int (3 : Int32)), .val (.int (0 : Int32)), .val (.int (2 : Int32)), .val (.long (el_a1 ((2 : Int32)).toNatClampNeg)), .second] [(.int (0 : Int32))])) _
        refine XS.iloadN X66.here hx rfl (hb hby d10_35) rfl ?_
        show Steps p.tables e below (T66.setTop (mkF m 36 #[.val (.ref a1), .val (.int (0 : Int32)), .val (.int (3 : Int32)), .val (.int (0 : Int32)), .val (.int (2 : Int32)), .val (.long (el_a1 ((2 : Int32)).toNatClampNeg)), .second] [(.int (0 : Int32)), (.int (0 : Int32))])) _
        refine XS.icmpNo X66.here hx rfl (hb hby d10_36) rfl (flt (by decide : ¬ ((0 : Int32) < (0 : Int32)))).1 ?_
        show Steps p.tables e below (T66.setTop (mkF m 39 #[.val (.ref a1), .val (.int (0 : Int32)), .val (.int (3 : Int32)), .val (.int (0 : Int32)), .val (.int (2 : Int32)), .val (.long (el_a1 ((2 : Int32)).toNatClampNeg)), .second] [])) _
        refine XS.lload X66.here hx rfl (hb hby d10_39) rfl ?_
        show Steps p.tables e below (T66.setTop (mkF m 41 #[.val (.ref a1), .val (.int (0 : Int32)), .val (.int (3 : Int32)), .val (.int (0 : Int32)), .val (.int (2 : Int32)), .val (.long (el_a1 ((2 : Int32)).toNatClampNeg)), .second] [(.long (el_a1 ((2 : Int32)).toNatClampNeg))])) _
        refine XS.aloadN X66.here hx rfl (hb hby d10_41) rfl rfl ?_
        show Steps p.tables e below (T66.setTop (mkF m 42 #[.val (.ref a1), .val (.int (0 : Int32)), .val (.int (3 : Int32)), .val (.int (0 : Int32)), .val (.int (2 : Int32)), .val (.long (el_a1 ((2 : Int32)).toNatClampNeg)), .second] [(.ref a1), (.long (el_a1 ((2 : Int32)).toNatClampNeg))])) _
        refine XS.iloadN X66.here hx rfl (hb hby d10_42) rfl ?_
        show Steps p.tables e below (T66.setTop (mkF m 43 #[.val (.ref a1), .val (.int (0 : Int32)), .val (.int (3 : Int32)), .val (.int (0 : Int32)), .val (.int (2 : Int32)), .val (.long (el_a1 ((2 : Int32)).toNatClampNeg)), .second] [(.int (0 : Int32)), (.ref a1), (.long (el_a1 ((2 : Int32)).toNatClampNeg))])) _
        exact kt
      obtain ⟨cl70, Ar70, S70, Ng70, H70⟩ := id V66_a1
      have hj70 : ¬ (0 : Int32) < 0 ∧ (0 : Int32) < (16 : Int32) := ⟨by decide, by decide⟩
      have hin70 := inb_of S70 hj70
      have lt70 : ((0 : Int32)).toNatClampNeg < ((16 : Int32)).toNatClampNeg := by rw [← S70]; exact Nat.lt_of_not_le fun q => hin70 (Or.inr q)
      have hv70 : ((.long ((own_upd el_a1 ((2 : Int32)).toNatClampNeg (el_a1 ((1 : Int32)).toNatClampNeg)) ((0 : Int32)).toNatClampNeg)) : Value) = (.long (el_a1 ((0 : Int32)).toNatClampNeg)) := rfl
      by_cases hc45 : (lcmpW (el_a1 ((2 : Int32)).toNatClampNeg) (el_a1 ((0 : Int32)).toNatClampNeg)) < (0 : Int32)
      · skip
        have pre71 : ∀ t, Steps p.tables e below (T66.setTop (mkF m 54 #[.val (.ref a1), .val (.int (0 : Int32)), .val (.int (3 : Int32)), .val (.int (0 : Int32)), .val (.int (2 : Int32)), .val (.long (el_a1 ((2 : Int32)).toNatClampNeg)), .second] [(.int (0 : Int32)), (.ref a1), (.int (1 : Int32)), (.ref a1)])) t → Steps p.tables e below (s₁.setTop (entryFrame m #[(.ref a1), (.int (0 : Int32)), (.int (3 : Int32))] 7)) t := fun t kt => by
          refine pre69 t ?_
          refine X66.laload hx (j := (0 : Int32)) (v := (.long (el_a1 ((0 : Int32)).toNatClampNeg))) (by rw [e66]; exact Ar70.1) (State.isArrayOf_alike hZ.alike Ar70.2.1) Ar70.2.2 hin70 ((H70 _ lt70).trans (congrArg some hv70)) (g := (mkF m 43 #[.val (.ref a1), .val (.int (0 : Int32)), .val (.int (3 : Int32)), .val (.int (0 : Int32)), .val (.int (2 : Int32)), .val (.long (el_a1 ((2 : Int32)).toNatClampNeg)), .second] [(.int (0 : Int32)), (.ref a1), (.long (el_a1 ((2 : Int32)).toNatClampNeg))])) rfl rfl (hb hby d10_43) _ ?_
          show Steps p.tables e below (T66.setTop (mkF m 44 #[.val (.ref a1), .val (.int (0 : Int32)), .val (.int (3 : Int32)), .val (.int (0 : Int32)), .val (.int (2 : Int32)), .val (.long (el_a1 ((2 : Int32)).toNatClampNeg)), .second] [(.long (el_a1 ((0 : Int32)).toNatClampNeg)), (.long (el_a1 ((2 : Int32)).toNatClampNeg))])) _
          refine XS.lcmp X66.here hx rfl (hb hby d10_44) rfl ?_
          show Steps p.tables e below (T66.setTop (mkF m 45 #[.val (.ref a1), .val (.int (0 : Int32)), .val (.int (3 : Int32)), .val (.int (0 : Int32)), .val (.int (2 : Int32)), .val (.long (el_a1 ((2 : Int32)).toNatClampNeg)), .second] [(.int (lcmpW (el_a1 ((2 : Int32)).toNatClampNeg) (el_a1 ((0 : Int32)).toNatClampNeg)))])) _
          refine XS.ifNo X66.here hx rfl (hb hby d10_45) rfl ((if0 _ _).trans (tlt hc45).2.1) ?_
          show Steps p.tables e below (T66.setTop (mkF m 48 #[.val (.ref a1), .val (.int (0 : Int32)), .val (.int (3 : Int32)), .val (.int (0 : Int32)), .val (.int (2 : Int32)), .val (.long (el_a1 ((2 : Int32)).toNatClampNeg)), .second] [])) _
          refine XS.aloadN X66.here hx rfl (hb hby d10_48) rfl rfl ?_
          show Steps p.tables e below (T66.setTop (mkF m 49 #[.val (.ref a1), .val (.int (0 : Int32)), .val (.int (3 : Int32)), .val (.int (0 : Int32)), .val (.int (2 : Int32)), .val (.long (el_a1 ((2 : Int32)).toNatClampNeg)), .second] [(.ref a1)])) _
          refine XS.iloadN X66.here hx rfl (hb hby d10_49) rfl ?_
          show Steps p.tables e below (T66.setTop (mkF m 50 #[.val (.ref a1), .val (.int (0 : Int32)), .val (.int (3 : Int32)), .val (.int (0 : Int32)), .val (.int (2 : Int32)), .val (.long (el_a1 ((2 : Int32)).toNatClampNeg)), .second] [(.int (0 : Int32)), (.ref a1)])) _
          refine XS.iconst X66.here hx rfl (hb hby d10_50) ?_
          show Steps p.tables e below (T66.setTop (mkF m 51 #[.val (.ref a1), .val (.int (0 : Int32)), .val (.int (3 : Int32)), .val (.int (0 : Int32)), .val (.int (2 : Int32)), .val (.long (el_a1 ((2 : Int32)).toNatClampNeg)), .second] [(.int (1 : Int32)), (.int (0 : Int32)), (.ref a1)])) _
          refine XS.iadd X66.here hx rfl (hb hby d10_51) rfl ?_
          show Steps p.tables e below (T66.setTop (mkF m 52 #[.val (.ref a1), .val (.int (0 : Int32)), .val (.int (3 : Int32)), .val (.int (0 : Int32)), .val (.int (2 : Int32)), .val (.long (el_a1 ((2 : Int32)).toNatClampNeg)), .second] [(.int (1 : Int32)), (.ref a1)])) _
          refine XS.aloadN X66.here hx rfl (hb hby d10_52) rfl rfl ?_
          show Steps p.tables e below (T66.setTop (mkF m 53 #[.val (.ref a1), .val (.int (0 : Int32)), .val (.int (3 : Int32)), .val (.int (0 : Int32)), .val (.int (2 : Int32)), .val (.long (el_a1 ((2 : Int32)).toNatClampNeg)), .second] [(.ref a1), (.int (1 : Int32)), (.ref a1)])) _
          refine XS.iloadN X66.here hx rfl (hb hby d10_53) rfl ?_
          show Steps p.tables e below (T66.setTop (mkF m 54 #[.val (.ref a1), .val (.int (0 : Int32)), .val (.int (3 : Int32)), .val (.int (0 : Int32)), .val (.int (2 : Int32)), .val (.long (el_a1 ((2 : Int32)).toNatClampNeg)), .second] [(.int (0 : Int32)), (.ref a1), (.int (1 : Int32)), (.ref a1)])) _
          exact kt
        obtain ⟨cl72, Ar72, S72, Ng72, H72⟩ := id V66_a1
        have hj72 : ¬ (0 : Int32) < 0 ∧ (0 : Int32) < (16 : Int32) := ⟨by decide, by decide⟩
        have hin72 := inb_of S72 hj72
        have lt72 : ((0 : Int32)).toNatClampNeg < ((16 : Int32)).toNatClampNeg := by rw [← S72]; exact Nat.lt_of_not_le fun q => hin72 (Or.inr q)
        have hv72 : ((.long ((own_upd el_a1 ((2 : Int32)).toNatClampNeg (el_a1 ((1 : Int32)).toNatClampNeg)) ((0 : Int32)).toNatClampNeg)) : Value) = (.long (el_a1 ((0 : Int32)).toNatClampNeg)) := rfl
        have pre73 : ∀ t, Steps p.tables e below (T66.setTop (mkF m 55 #[.val (.ref a1), .val (.int (0 : Int32)), .val (.int (3 : Int32)), .val (.int (0 : Int32)), .val (.int (2 : Int32)), .val (.long (el_a1 ((2 : Int32)).toNatClampNeg)), .second] [(.long (el_a1 ((0 : Int32)).toNatClampNeg)), (.int (1 : Int32)), (.ref a1)])) t → Steps p.tables e below (s₁.setTop (entryFrame m #[(.ref a1), (.int (0 : Int32)), (.int (3 : Int32))] 7)) t := fun t kt => by
          refine pre71 t ?_
          refine X66.laload hx (j := (0 : Int32)) (v := (.long (el_a1 ((0 : Int32)).toNatClampNeg))) (by rw [e66]; exact Ar72.1) (State.isArrayOf_alike hZ.alike Ar72.2.1) Ar72.2.2 hin72 ((H72 _ lt72).trans (congrArg some hv72)) (g := (mkF m 54 #[.val (.ref a1), .val (.int (0 : Int32)), .val (.int (3 : Int32)), .val (.int (0 : Int32)), .val (.int (2 : Int32)), .val (.long (el_a1 ((2 : Int32)).toNatClampNeg)), .second] [(.int (0 : Int32)), (.ref a1), (.int (1 : Int32)), (.ref a1)])) rfl rfl (hb hby d10_54) _ ?_
          show Steps p.tables e below (T66.setTop (mkF m 55 #[.val (.ref a1), .val (.int (0 : Int32)), .val (.int (3 : Int32)), .val (.int (0 : Int32)), .val (.int (2 : Int32)), .val (.long (el_a1 ((2 : Int32)).toNatClampNeg)), .second] [(.long (el_a1 ((0 : Int32)).toNatClampNeg)), (.int (1 : Int32)), (.ref a1)])) _
          exact kt
        obtain ⟨cl74, Ar74, S74, Ng74, H74⟩ := id V66_a1
        have hj74 : ¬ (1 : Int32) < 0 ∧ (1 : Int32) < (16 : Int32) := ⟨by decide, by decide⟩
        have hin74 := inb_of S74 hj74
        obtain ⟨T75, h75, X75, e75, W75, st75⟩ := stJ X66 hx hZ e66 Ar74 (j := (1 : Int32)) hin74 (g := (mkF m 55 #[.val (.ref a1), .val (.int (0 : Int32)), .val (.int (3 : Int32)), .val (.int (0 : Int32)), .val (.int (2 : Int32)), .val (.long (el_a1 ((2 : Int32)).toNatClampNeg)), .second] [(.long (el_a1 ((0 : Int32)).toNatClampNeg)), (.int (1 : Int32)), (.ref a1)])) rfl rfl (hb hby d10_55)
        have V75_a1 : Arf Z h75 a1 .long (16 : Int32) (fun i => (.long ((own_upd (own_upd el_a1 ((2 : Int32)).toNatClampNeg (el_a1 ((1 : Int32)).toNatClampNeg)) ((1 : Int32)).toNatClampNeg (el_a1 ((0 : Int32)).toNatClampNeg)) i))) := upd_long _ _ _ ▸ (V66_a1.set W75)
        have K75 : Keep h0 h75 [a1] := K66.wr W75 (Or.inl (mgE 0 rfl))
        have pre77 : ∀ t, Steps p.tables e below (T75.setTop (mkF m 56 #[.val (.ref a1), .val (.int (0 : Int32)), .val (.int (3 : Int32)), .val (.int (0 : Int32)), .val (.int (2 : Int32)), .val (.long (el_a1 ((2 : Int32)).toNatClampNeg)), .second] [])) t → Steps p.tables e below (s₁.setTop (entryFrame m #[(.ref a1), (.int (0 : Int32)), (.int (3 : Int32))] 7)) t := fun t kt => pre73 t (st75 t kt)
        have N75 := Fr.snoc X75 N66 g_a1
        have pre78 : ∀ t, Steps p.tables e below (T75.setTop (mkF m 65 #[.val (.ref a1), .val (.int (0 : Int32)), .val (.int (3 : Int32)), .val (.int (-1 : Int32)), .val (.int (2 : Int32)), .val (.long (el_a1 ((2 : Int32)).toNatClampNeg)), .second] [(.long (el_a1 ((2 : Int32)).toNatClampNeg)), (.int (0 : Int32)), (.ref a1)])) t → Steps p.tables e below (s₁.setTop (entryFrame m #[(.ref a1), (.int (0 : Int32)), (.int (3 : Int32))] 7)) t := fun t kt => by
          refine pre77 t ?_
          refine XS.goto X75.here hx rfl (pc0 := 56) (pc' := 31) rfl (hb hby d10_56) (by decide) (by decide) ?_
          show Steps p.tables e below (T75.setTop (mkF m 31 #[.val (.ref a1), .val (.int (0 : Int32)), .val (.int (3 : Int32)), .val (.int (0 : Int32)), .val (.int (2 : Int32)), .val (.long (el_a1 ((2 : Int32)).toNatClampNeg)), .second] [])) _
          refine XS.iinc X75.here hx rfl (hb hby d10_31) rfl (l' := #[.val (.ref a1), .val (.int (0 : Int32)), .val (.int (3 : Int32)), .val (.int (-1 : Int32)), .val (.int (2 : Int32)), .val (.long (el_a1 ((2 : Int32)).toNatClampNeg)), .second]) rfl ?_
          show Steps p.tables e below (T75.setTop (mkF m 34 #[.val (.ref a1), .val (.int (0 : Int32)), .val (.int (3 : Int32)), .val (.int (-1 : Int32)), .val (.int (2 : Int32)), .val (.long (el_a1 ((2 : Int32)).toNatClampNeg)), .second] [])) _
          refine XS.iloadN X75.here hx rfl (hb hby d10_34) rfl ?_
          show Steps p.tables e below (T75.setTop (mkF m 35 #[.val (.ref a1), .val (.int (0 : Int32)), .val (.int (3 : Int32)), .val (.int (-1 : Int32)), .val (.int (2 : Int32)), .val (.long (el_a1 ((2 : Int32)).toNatClampNeg)), .second] [(.int (-1 : Int32))])) _
          refine XS.iloadN X75.here hx rfl (hb hby d10_35) rfl ?_
          show Steps p.tables e below (T75.setTop (mkF m 36 #[.val (.ref a1), .val (.int (0 : Int32)), .val (.int (3 : Int32)), .val (.int (-1 : Int32)), .val (.int (2 : Int32)), .val (.long (el_a1 ((2 : Int32)).toNatClampNeg)), .second] [(.int (0 : Int32)), (.int (-1 : Int32))])) _
          refine XS.icmpYes X75.here hx rfl (pc0 := 36) (pc' := 59) rfl (hb hby d10_36) rfl (tlt (by decide : (-1 : Int32) < (0 : Int32))).1 (by decide) (by decide) ?_
          show Steps p.tables e below (T75.setTop (mkF m 59 #[.val (.ref a1), .val (.int (0 : Int32)), .val (.int (3 : Int32)), .val (.int (-1 : Int32)), .val (.int (2 : Int32)), .val (.long (el_a1 ((2 : Int32)).toNatClampNeg)), .second] [])) _
          refine XS.aloadN X75.here hx rfl (hb hby d10_59) rfl rfl ?_
          show Steps p.tables e below (T75.setTop (mkF m 60 #[.val (.ref a1), .val (.int (0 : Int32)), .val (.int (3 : Int32)), .val (.int (-1 : Int32)), .val (.int (2 : Int32)), .val (.long (el_a1 ((2 : Int32)).toNatClampNeg)), .second] [(.ref a1)])) _
          refine XS.iloadN X75.here hx rfl (hb hby d10_60) rfl ?_
          show Steps p.tables e below (T75.setTop (mkF m 61 #[.val (.ref a1), .val (.int (0 : Int32)), .val (.int (3 : Int32)), .val (.int (-1 : Int32)), .val (.int (2 : Int32)), .val (.long (el_a1 ((2 : Int32)).toNatClampNeg)), .second] [(.int (-1 : Int32)), (.ref a1)])) _
          refine XS.iconst X75.here hx rfl (hb hby d10_61) ?_
          show Steps p.tables e below (T75.setTop (mkF m 62 #[.val (.ref a1), .val (.int (0 : Int32)), .val (.int (3 : Int32)), .val (.int (-1 : Int32)), .val (.int (2 : Int32)), .val (.long (el_a1 ((2 : Int32)).toNatClampNeg)), .second] [(.int (1 : Int32)), (.int (-1 : Int32)), (.ref a1)])) _
          refine XS.iadd X75.here hx rfl (hb hby d10_62) rfl ?_
          show Steps p.tables e below (T75.setTop (mkF m 63 #[.val (.ref a1), .val (.int (0 : Int32)), .val (.int (3 : Int32)), .val (.int (-1 : Int32)), .val (.int (2 : Int32)), .val (.long (el_a1 ((2 : Int32)).toNatClampNeg)), .second] [(.int (0 : Int32)), (.ref a1)])) _
          refine XS.lload X75.here hx rfl (hb hby d10_63) rfl ?_
          show Steps p.tables e below (T75.setTop (mkF m 65 #[.val (.ref a1), .val (.int (0 : Int32)), .val (.int (3 : Int32)), .val (.int (-1 : Int32)), .val (.int (2 : Int32)), .val (.long (el_a1 ((2 : Int32)).toNatClampNeg)), .second] [(.long (el_a1 ((2 : Int32)).toNatClampNeg)), (.int (0 : Int32)), (.ref a1)])) _
          exact kt
        obtain ⟨cl79, Ar79, S79, Ng79, H79⟩ := id V75_a1
        have hj79 : ¬ (0 : Int32) < 0 ∧ (0 : Int32) < (16 : Int32) := ⟨by decide, by decide⟩
        have hin79 := inb_of S79 hj79
        obtain ⟨T80, h80, X80, e80, W80, st80⟩ := stJ X75 hx hZ e75 Ar79 (j := (0 : Int32)) hin79 (g := (mkF m 65 #[.val (.ref a1), .val (.int (0 : Int32)), .val (.int (3 : Int32)), .val (.int (-1 : Int32)), .val (.int (2 : Int32)), .val (.long (el_a1 ((2 : Int32)).toNatClampNeg)), .second] [(.long (el_a1 ((2 : Int32)).toNatClampNeg)), (.int (0 : Int32)), (.ref a1)])) rfl rfl (hb hby d10_65)
        have V80_a1 : Arf Z h80 a1 .long (16 : Int32) (fun i => (.long ((own_upd (own_upd (own_upd el_a1 ((2 : Int32)).toNatClampNeg (el_a1 ((1 : Int32)).toNatClampNeg)) ((1 : Int32)).toNatClampNeg (el_a1 ((0 : Int32)).toNatClampNeg)) ((0 : Int32)).toNatClampNeg (el_a1 ((2 : Int32)).toNatClampNeg)) i))) := upd_long _ _ _ ▸ (V75_a1.set W80)
        have K80 : Keep h0 h80 [a1] := K75.wr W80 (Or.inl (mgE 0 rfl))
        have pre82 : ∀ t, Steps p.tables e below (T80.setTop (mkF m 66 #[.val (.ref a1), .val (.int (0 : Int32)), .val (.int (3 : Int32)), .val (.int (-1 : Int32)), .val (.int (2 : Int32)), .val (.long (el_a1 ((2 : Int32)).toNatClampNeg)), .second] [])) t → Steps p.tables e below (s₁.setTop (entryFrame m #[(.ref a1), (.int (0 : Int32)), (.int (3 : Int32))] 7)) t := fun t kt => pre78 t (st80 t kt)
        have N80 := Fr.snoc X80 N75 g_a1
        have pre83 : ∀ t, Steps p.tables e below (T80.setTop (mkF m 69 #[.val (.ref a1), .val (.int (0 : Int32)), .val (.int (3 : Int32)), .val (.int (-1 : Int32)), .val (.int (3 : Int32)), .val (.long (el_a1 ((2 : Int32)).toNatClampNeg)), .second] [])) t → Steps p.tables e below (s₁.setTop (entryFrame m #[(.ref a1), (.int (0 : Int32)), (.int (3 : Int32))] 7)) t := fun t kt => by
          refine pre82 t ?_
          refine XS.goto X80.here hx rfl (pc0 := 66) (pc' := 3) rfl (hb hby d10_66) (by decide) (by decide) ?_
          show Steps p.tables e below (T80.setTop (mkF m 3 #[.val (.ref a1), .val (.int (0 : Int32)), .val (.int (3 : Int32)), .val (.int (-1 : Int32)), .val (.int (2 : Int32)), .val (.long (el_a1 ((2 : Int32)).toNatClampNeg)), .second] [])) _
          refine XS.iinc X80.here hx rfl (hb hby d10_3) rfl (l' := #[.val (.ref a1), .val (.int (0 : Int32)), .val (.int (3 : Int32)), .val (.int (-1 : Int32)), .val (.int (3 : Int32)), .val (.long (el_a1 ((2 : Int32)).toNatClampNeg)), .second]) rfl ?_
          show Steps p.tables e below (T80.setTop (mkF m 6 #[.val (.ref a1), .val (.int (0 : Int32)), .val (.int (3 : Int32)), .val (.int (-1 : Int32)), .val (.int (3 : Int32)), .val (.long (el_a1 ((2 : Int32)).toNatClampNeg)), .second] [])) _
          refine XS.iload X80.here hx rfl (hb hby d10_6) rfl ?_
          show Steps p.tables e below (T80.setTop (mkF m 8 #[.val (.ref a1), .val (.int (0 : Int32)), .val (.int (3 : Int32)), .val (.int (-1 : Int32)), .val (.int (3 : Int32)), .val (.long (el_a1 ((2 : Int32)).toNatClampNeg)), .second] [(.int (3 : Int32))])) _
          refine XS.iloadN X80.here hx rfl (hb hby d10_8) rfl ?_
          show Steps p.tables e below (T80.setTop (mkF m 9 #[.val (.ref a1), .val (.int (0 : Int32)), .val (.int (3 : Int32)), .val (.int (-1 : Int32)), .val (.int (3 : Int32)), .val (.long (el_a1 ((2 : Int32)).toNatClampNeg)), .second] [(.int (3 : Int32)), (.int (3 : Int32))])) _
          refine XS.icmpYes X80.here hx rfl (pc0 := 9) (pc' := 69) rfl (hb hby d10_9) rfl (flt (by decide : ¬ ((3 : Int32) < (3 : Int32)))).2.1 (by decide) (by decide) ?_
          show Steps p.tables e below (T80.setTop (mkF m 69 #[.val (.ref a1), .val (.int (0 : Int32)), .val (.int (3 : Int32)), .val (.int (-1 : Int32)), .val (.int (3 : Int32)), .val (.long (el_a1 ((2 : Int32)).toNatClampNeg)), .second] [])) _
          exact kt
        obtain ⟨fs, hr, hrun, hended, hW, hsame⟩ := X80.leave (v := none) (fun _ => rfl)
        refine ⟨_, _, pre83 _ ?_, hrun, hended, _, _, rfl, ?_, ⟨_, rfl⟩, hW, hsame.mono (by decide) (by decide)⟩
        · exact X80.returnOut hx Bd.returns (hb hby d10_69) hr
        · show Q10 Z a1 el_a1 h0 n0 _ T80.heap _
          rw [e80]
          exact ⟨rfl, N80, K80, (by simp only [srt, if_neg hc28, if_pos hc28_59, if_pos hc45]; exact V80_a1)⟩
      · skip
        have pre84 : ∀ t, Steps p.tables e below (T66.setTop (mkF m 65 #[.val (.ref a1), .val (.int (0 : Int32)), .val (.int (3 : Int32)), .val (.int (0 : Int32)), .val (.int (2 : Int32)), .val (.long (el_a1 ((2 : Int32)).toNatClampNeg)), .second] [(.long (el_a1 ((2 : Int32)).toNatClampNeg)), (.int (1 : Int32)), (.ref a1)])) t → Steps p.tables e below (s₁.setTop (entryFrame m #[(.ref a1), (.int (0 : Int32)), (.int (3 : Int32))] 7)) t := fun t kt => by
          refine pre69 t ?_
          refine X66.laload hx (j := (0 : Int32)) (v := (.long (el_a1 ((0 : Int32)).toNatClampNeg))) (by rw [e66]; exact Ar70.1) (State.isArrayOf_alike hZ.alike Ar70.2.1) Ar70.2.2 hin70 ((H70 _ lt70).trans (congrArg some hv70)) (g := (mkF m 43 #[.val (.ref a1), .val (.int (0 : Int32)), .val (.int (3 : Int32)), .val (.int (0 : Int32)), .val (.int (2 : Int32)), .val (.long (el_a1 ((2 : Int32)).toNatClampNeg)), .second] [(.int (0 : Int32)), (.ref a1), (.long (el_a1 ((2 : Int32)).toNatClampNeg))])) rfl rfl (hb hby d10_43) _ ?_
          show Steps p.tables e below (T66.setTop (mkF m 44 #[.val (.ref a1), .val (.int (0 : Int32)), .val (.int (3 : Int32)), .val (.int (0 : Int32)), .val (.int (2 : Int32)), .val (.long (el_a1 ((2 : Int32)).toNatClampNeg)), .second] [(.long (el_a1 ((0 : Int32)).toNatClampNeg)), (.long (el_a1 ((2 : Int32)).toNatClampNeg))])) _
          refine XS.lcmp X66.here hx rfl (hb hby d10_44) rfl ?_
          show Steps p.tables e below (T66.setTop (mkF m 45 #[.val (.ref a1), .val (.int (0 : Int32)), .val (.int (3 : Int32)), .val (.int (0 : Int32)), .val (.int (2 : Int32)), .val (.long (el_a1 ((2 : Int32)).toNatClampNeg)), .second] [(.int (lcmpW (el_a1 ((2 : Int32)).toNatClampNeg) (el_a1 ((0 : Int32)).toNatClampNeg)))])) _
          refine XS.ifYes X66.here hx rfl (pc0 := 45) (pc' := 59) rfl (hb hby d10_45) rfl ((if0 _ _).trans (flt hc45).2.1) (by decide) (by decide) ?_
          show Steps p.tables e below (T66.setTop (mkF m 59 #[.val (.ref a1), .val (.int (0 : Int32)), .val (.int (3 : Int32)), .val (.int (0 : Int32)), .val (.int (2 : Int32)), .val (.long (el_a1 ((2 : Int32)).toNatClampNeg)), .second] [])) _
          refine XS.aloadN X66.here hx rfl (hb hby d10_59) rfl rfl ?_
          show Steps p.tables e below (T66.setTop (mkF m 60 #[.val (.ref a1), .val (.int (0 : Int32)), .val (.int (3 : Int32)), .val (.int (0 : Int32)), .val (.int (2 : Int32)), .val (.long (el_a1 ((2 : Int32)).toNatClampNeg)), .second] [(.ref a1)])) _
          refine XS.iloadN X66.here hx rfl (hb hby d10_60) rfl ?_
          show Steps p.tables e below (T66.setTop (mkF m 61 #[.val (.ref a1), .val (.int (0 : Int32)), .val (.int (3 : Int32)), .val (.int (0 : Int32)), .val (.int (2 : Int32)), .val (.long (el_a1 ((2 : Int32)).toNatClampNeg)), .second] [(.int (0 : Int32)), (.ref a1)])) _
          refine XS.iconst X66.here hx rfl (hb hby d10_61) ?_
          show Steps p.tables e below (T66.setTop (mkF m 62 #[.val (.ref a1), .val (.int (0 : Int32)), .val (.int (3 : Int32)), .val (.int (0 : Int32)), .val (.int (2 : Int32)), .val (.long (el_a1 ((2 : Int32)).toNatClampNeg)), .second] [(.int (1 : Int32)), (.int (0 : Int32)), (.ref a1)])) _
          refine XS.iadd X66.here hx rfl (hb hby d10_62) rfl ?_
          show Steps p.tables e below (T66.setTop (mkF m 63 #[.val (.ref a1), .val (.int (0 : Int32)), .val (.int (3 : Int32)), .val (.int (0 : Int32)), .val (.int (2 : Int32)), .val (.long (el_a1 ((2 : Int32)).toNatClampNeg)), .second] [(.int (1 : Int32)), (.ref a1)])) _
          refine XS.lload X66.here hx rfl (hb hby d10_63) rfl ?_
          show Steps p.tables e below (T66.setTop (mkF m 65 #[.val (.ref a1), .val (.int (0 : Int32)), .val (.int (3 : Int32)), .val (.int (0 : Int32)), .val (.int (2 : Int32)), .val (.long (el_a1 ((2 : Int32)).toNatClampNeg)), .second] [(.long (el_a1 ((2 : Int32)).toNatClampNeg)), (.int (1 : Int32)), (.ref a1)])) _
          exact kt
        obtain ⟨cl85, Ar85, S85, Ng85, H85⟩ := id V66_a1
        have hj85 : ¬ (1 : Int32) < 0 ∧ (1 : Int32) < (16 : Int32) := ⟨by decide, by decide⟩
        have hin85 := inb_of S85 hj85
        obtain ⟨T86, h86, X86, e86, W86, st86⟩ := stJ X66 hx hZ e66 Ar85 (j := (1 : Int32)) hin85 (g := (mkF m 65 #[.val (.ref a1), .val (.int (0 : Int32)), .val (.int (3 : Int32)), .val (.int (0 : Int32)), .val (.int (2 : Int32)), .val (.long (el_a1 ((2 : Int32)).toNatClampNeg)), .second] [(.long (el_a1 ((2 : Int32)).toNatClampNeg)), (.int (1 : Int32)), (.ref a1)])) rfl rfl (hb hby d10_65)
        have V86_a1 : Arf Z h86 a1 .long (16 : Int32) (fun i => (.long ((own_upd (own_upd el_a1 ((2 : Int32)).toNatClampNeg (el_a1 ((1 : Int32)).toNatClampNeg)) ((1 : Int32)).toNatClampNeg (el_a1 ((2 : Int32)).toNatClampNeg)) i))) := upd_long _ _ _ ▸ (V66_a1.set W86)
        have K86 : Keep h0 h86 [a1] := K66.wr W86 (Or.inl (mgE 0 rfl))
        have pre88 : ∀ t, Steps p.tables e below (T86.setTop (mkF m 66 #[.val (.ref a1), .val (.int (0 : Int32)), .val (.int (3 : Int32)), .val (.int (0 : Int32)), .val (.int (2 : Int32)), .val (.long (el_a1 ((2 : Int32)).toNatClampNeg)), .second] [])) t → Steps p.tables e below (s₁.setTop (entryFrame m #[(.ref a1), (.int (0 : Int32)), (.int (3 : Int32))] 7)) t := fun t kt => pre84 t (st86 t kt)
        have N86 := Fr.snoc X86 N66 g_a1
        have pre89 : ∀ t, Steps p.tables e below (T86.setTop (mkF m 69 #[.val (.ref a1), .val (.int (0 : Int32)), .val (.int (3 : Int32)), .val (.int (0 : Int32)), .val (.int (3 : Int32)), .val (.long (el_a1 ((2 : Int32)).toNatClampNeg)), .second] [])) t → Steps p.tables e below (s₁.setTop (entryFrame m #[(.ref a1), (.int (0 : Int32)), (.int (3 : Int32))] 7)) t := fun t kt => by
          refine pre88 t ?_
          refine XS.goto X86.here hx rfl (pc0 := 66) (pc' := 3) rfl (hb hby d10_66) (by decide) (by decide) ?_
          show Steps p.tables e below (T86.setTop (mkF m 3 #[.val (.ref a1), .val (.int (0 : Int32)), .val (.int (3 : Int32)), .val (.int (0 : Int32)), .val (.int (2 : Int32)), .val (.long (el_a1 ((2 : Int32)).toNatClampNeg)), .second] [])) _
          refine XS.iinc X86.here hx rfl (hb hby d10_3) rfl (l' := #[.val (.ref a1), .val (.int (0 : Int32)), .val (.int (3 : Int32)), .val (.int (0 : Int32)), .val (.int (3 : Int32)), .val (.long (el_a1 ((2 : Int32)).toNatClampNeg)), .second]) rfl ?_
          show Steps p.tables e below (T86.setTop (mkF m 6 #[.val (.ref a1), .val (.int (0 : Int32)), .val (.int (3 : Int32)), .val (.int (0 : Int32)), .val (.int (3 : Int32)), .val (.long (el_a1 ((2 : Int32)).toNatClampNeg)), .second] [])) _
          refine XS.iload X86.here hx rfl (hb hby d10_6) rfl ?_
          show Steps p.tables e below (T86.setTop (mkF m 8 #[.val (.ref a1), .val (.int (0 : Int32)), .val (.int (3 : Int32)), .val (.int (0 : Int32)), .val (.int (3 : Int32)), .val (.long (el_a1 ((2 : Int32)).toNatClampNeg)), .second] [(.int (3 : Int32))])) _
          refine XS.iloadN X86.here hx rfl (hb hby d10_8) rfl ?_
          show Steps p.tables e below (T86.setTop (mkF m 9 #[.val (.ref a1), .val (.int (0 : Int32)), .val (.int (3 : Int32)), .val (.int (0 : Int32)), .val (.int (3 : Int32)), .val (.long (el_a1 ((2 : Int32)).toNatClampNeg)), .second] [(.int (3 : Int32)), (.int (3 : Int32))])) _
          refine XS.icmpYes X86.here hx rfl (pc0 := 9) (pc' := 69) rfl (hb hby d10_9) rfl (flt (by decide : ¬ ((3 : Int32) < (3 : Int32)))).2.1 (by decide) (by decide) ?_
          show Steps p.tables e below (T86.setTop (mkF m 69 #[.val (.ref a1), .val (.int (0 : Int32)), .val (.int (3 : Int32)), .val (.int (0 : Int32)), .val (.int (3 : Int32)), .val (.long (el_a1 ((2 : Int32)).toNatClampNeg)), .second] [])) _
          exact kt
        obtain ⟨fs, hr, hrun, hended, hW, hsame⟩ := X86.leave (v := none) (fun _ => rfl)
        refine ⟨_, _, pre89 _ ?_, hrun, hended, _, _, rfl, ?_, ⟨_, rfl⟩, hW, hsame.mono (by decide) (by decide)⟩
        · exact X86.returnOut hx Bd.returns (hb hby d10_69) hr
        · show Q10 Z a1 el_a1 h0 n0 _ T86.heap _
          rw [e86]
          exact ⟨rfl, N86, K86, (by simp only [srt, if_neg hc28, if_pos hc28_59, if_neg hc45]; exact V86_a1)⟩
    · skip
      have pre90 : ∀ t, Steps p.tables e below (s₁.setTop (mkF m 69 #[.val (.ref a1), .val (.int (0 : Int32)), .val (.int (3 : Int32)), .val (.int (2 : Int32)), .val (.int (3 : Int32)), .val (.long (el_a1 ((2 : Int32)).toNatClampNeg)), .second] [])) t → Steps p.tables e below (s₁.setTop (entryFrame m #[(.ref a1), (.int (0 : Int32)), (.int (3 : Int32))] 7)) t := fun t kt => by
        refine pre57 t ?_
        refine X0.laload hx (j := (1 : Int32)) (v := (.long (el_a1 ((1 : Int32)).toNatClampNeg))) (by rw [e0]; exact Ar58.1) (State.isArrayOf_alike hZ.alike Ar58.2.1) Ar58.2.2 hin58 ((H58 _ lt58).trans (congrArg some hv58)) (g := (mkF m 26 #[.val (.ref a1), .val (.int (0 : Int32)), .val (.int (3 : Int32)), .val (.int (2 : Int32)), .val (.int (2 : Int32)), .val (.long (el_a1 ((2 : Int32)).toNatClampNeg)), .second] [(.int (1 : Int32)), (.ref a1), (.long (el_a1 ((2 : Int32)).toNatClampNeg))])) rfl rfl (hb hby d10_26) _ ?_
        show Steps p.tables e below (s₁.setTop (mkF m 27 #[.val (.ref a1), .val (.int (0 : Int32)), .val (.int (3 : Int32)), .val (.int (2 : Int32)), .val (.int (2 : Int32)), .val (.long (el_a1 ((2 : Int32)).toNatClampNeg)), .second] [(.long (el_a1 ((1 : Int32)).toNatClampNeg)), (.long (el_a1 ((2 : Int32)).toNatClampNeg))])) _
        refine XS.lcmp X0.here hx rfl (hb hby d10_27) rfl ?_
        show Steps p.tables e below (s₁.setTop (mkF m 28 #[.val (.ref a1), .val (.int (0 : Int32)), .val (.int (3 : Int32)), .val (.int (2 : Int32)), .val (.int (2 : Int32)), .val (.long (el_a1 ((2 : Int32)).toNatClampNeg)), .second] [(.int (lcmpW (el_a1 ((2 : Int32)).toNatClampNeg) (el_a1 ((1 : Int32)).toNatClampNeg)))])) _
        refine XS.ifYes X0.here hx rfl (pc0 := 28) (pc' := 66) rfl (hb hby d10_28) rfl ((if0 _ _).trans (flt hc28_59).2.1) (by decide) (by decide) ?_
        show Steps p.tables e below (s₁.setTop (mkF m 66 #[.val (.ref a1), .val (.int (0 : Int32)), .val (.int (3 : Int32)), .val (.int (2 : Int32)), .val (.int (2 : Int32)), .val (.long (el_a1 ((2 : Int32)).toNatClampNeg)), .second] [])) _
        refine XS.goto X0.here hx rfl (pc0 := 66) (pc' := 3) rfl (hb hby d10_66) (by decide) (by decide) ?_
        show Steps p.tables e below (s₁.setTop (mkF m 3 #[.val (.ref a1), .val (.int (0 : Int32)), .val (.int (3 : Int32)), .val (.int (2 : Int32)), .val (.int (2 : Int32)), .val (.long (el_a1 ((2 : Int32)).toNatClampNeg)), .second] [])) _
        refine XS.iinc X0.here hx rfl (hb hby d10_3) rfl (l' := #[.val (.ref a1), .val (.int (0 : Int32)), .val (.int (3 : Int32)), .val (.int (2 : Int32)), .val (.int (3 : Int32)), .val (.long (el_a1 ((2 : Int32)).toNatClampNeg)), .second]) rfl ?_
        show Steps p.tables e below (s₁.setTop (mkF m 6 #[.val (.ref a1), .val (.int (0 : Int32)), .val (.int (3 : Int32)), .val (.int (2 : Int32)), .val (.int (3 : Int32)), .val (.long (el_a1 ((2 : Int32)).toNatClampNeg)), .second] [])) _
        refine XS.iload X0.here hx rfl (hb hby d10_6) rfl ?_
        show Steps p.tables e below (s₁.setTop (mkF m 8 #[.val (.ref a1), .val (.int (0 : Int32)), .val (.int (3 : Int32)), .val (.int (2 : Int32)), .val (.int (3 : Int32)), .val (.long (el_a1 ((2 : Int32)).toNatClampNeg)), .second] [(.int (3 : Int32))])) _
        refine XS.iloadN X0.here hx rfl (hb hby d10_8) rfl ?_
        show Steps p.tables e below (s₁.setTop (mkF m 9 #[.val (.ref a1), .val (.int (0 : Int32)), .val (.int (3 : Int32)), .val (.int (2 : Int32)), .val (.int (3 : Int32)), .val (.long (el_a1 ((2 : Int32)).toNatClampNeg)), .second] [(.int (3 : Int32)), (.int (3 : Int32))])) _
        refine XS.icmpYes X0.here hx rfl (pc0 := 9) (pc' := 69) rfl (hb hby d10_9) rfl (flt (by decide : ¬ ((3 : Int32) < (3 : Int32)))).2.1 (by decide) (by decide) ?_
        show Steps p.tables e below (s₁.setTop (mkF m 69 #[.val (.ref a1), .val (.int (0 : Int32)), .val (.int (3 : Int32)), .val (.int (2 : Int32)), .val (.int (3 : Int32)), .val (.long (el_a1 ((2 : Int32)).toNatClampNeg)), .second] [])) _
        exact kt
      obtain ⟨fs, hr, hrun, hended, hW, hsame⟩ := X0.leave (v := none) (fun _ => rfl)
      refine ⟨_, _, pre90 _ ?_, hrun, hended, _, _, rfl, ?_, ⟨_, rfl⟩, hW, hsame.mono (by decide) (by decide)⟩
      · exact X0.returnOut hx Bd.returns (hb hby d10_69) hr
      · show Q10 Z a1 el_a1 h0 n0 _ s₁.heap _
        rw [e0]
        exact ⟨rfl, N0, (Keep.refl h0 [a1]), (by simp only [srt, if_neg hc28, if_neg hc28_59]; exact V_a1)⟩
theorem d9_0 : decode jdk_2529_method_13_code 0 = .ok (.iload 4, 2) := by decide +kernel
theorem d9_2 : decode jdk_2529_method_13_code 2 = .ok (.iconst 1, 1) := by decide +kernel
theorem d9_3 : decode jdk_2529_method_13_code 3 = .ok (.isub, 1) := by decide +kernel
theorem d9_4 : decode jdk_2529_method_13_code 4 = .ok (.istore 5, 2) := by decide +kernel
theorem d9_6 : decode jdk_2529_method_13_code 6 = .ok (.iload 4, 2) := by decide +kernel
theorem d9_8 : decode jdk_2529_method_13_code 8 = .ok (.iload_n 3, 1) := by decide +kernel
theorem d9_9 : decode jdk_2529_method_13_code 9 = .ok (.isub, 1) := by decide +kernel
theorem d9_10 : decode jdk_2529_method_13_code 10 = .ok (.istore 6, 2) := by decide +kernel
theorem d9_12 : decode jdk_2529_method_13_code 12 = .ok (.iload 6, 2) := by decide +kernel
theorem d9_14 : decode jdk_2529_method_13_code 14 = .ok (.bipush 65, 2) := by decide +kernel
theorem d9_16 : decode jdk_2529_method_13_code 16 = .ok (.iload_n 2, 1) := by decide +kernel
theorem d9_17 : decode jdk_2529_method_13_code 17 = .ok (.iadd, 1) := by decide +kernel
theorem d9_18 : decode jdk_2529_method_13_code 18 = .ok (.if_icmp .ge 28, 3) := by decide +kernel
theorem d9_21 : decode jdk_2529_method_13_code 21 = .ok (.iload_n 2, 1) := by decide +kernel
theorem d9_22 : decode jdk_2529_method_13_code 22 = .ok (.iconst 1, 1) := by decide +kernel
theorem d9_23 : decode jdk_2529_method_13_code 23 = .ok (.iand, 1) := by decide +kernel
theorem d9_24 : decode jdk_2529_method_13_code 24 = .ok (.ifCond .le 22, 3) := by decide +kernel
theorem d9_46 : decode jdk_2529_method_13_code 46 = .ok (.iload 6, 2) := by decide +kernel
theorem d9_48 : decode jdk_2529_method_13_code 48 = .ok (.bipush 44, 2) := by decide +kernel
theorem d9_50 : decode jdk_2529_method_13_code 50 = .ok (.if_icmp .ge 11, 3) := by decide +kernel
theorem d9_53 : decode jdk_2529_method_13_code 53 = .ok (.aload_n 1, 1) := by decide +kernel
theorem d9_54 : decode jdk_2529_method_13_code 54 = .ok (.iload_n 3, 1) := by decide +kernel
theorem d9_55 : decode jdk_2529_method_13_code 55 = .ok (.iload 4, 2) := by decide +kernel
theorem d9_57 : decode jdk_2529_method_13_code 57 = .ok (.invokestatic 105, 3) := by decide +kernel
theorem d9_60 : decode jdk_2529_method_13_code 60 = .ok (.return_, 1) := by decide +kernel
theorem pd___JII_V : parseMethodDescriptor "([JII)V" = some ⟨[(.array .long), .int, .int], none⟩ := by decide +kernel
theorem ef_9n0 (m : MethodId) (x1 : Addr) : entryFrame m #[.null, (.ref x1), (.int (0 : Int32)), (.int (0 : Int32)), (.int (3 : Int32))] 25 = mkF m 0 #[.val .null, .val (.ref x1), .val (.int (0 : Int32)), .val (.int (0 : Int32)), .val (.int (3 : Int32)), .unset, .unset, .unset, .unset, .unset, .unset, .unset, .unset, .unset, .unset, .unset, .unset, .unset, .unset, .unset, .unset, .unset, .unset, .unset, .unset] [] := by first | (simp [entryFrame, mkF, argsToLocals, Value.category]; done) | rfl
def Q9n0 (Z : State) (a2 : Addr) (el_a2 : Nat → Int64) (h0 : Heap) (n0 : Nat) (v : Option Value) (h : Heap) (L : List Loc) : Prop := v = none ∧ Fr n0 L ∧ Keep h0 h [a2] ∧ Arf Z h a2 .long (16 : Int32) (fun i => (.long ((srt el_a2) i)))
set_option maxRecDepth 65536 in
set_option maxHeartbeats 40000000 in
theorem rm9n0 (l : Launch) (Z : State) (a0 : Array Value) (hw : ∀ d ∈ tables_1, d.before a0 Z = true) (ws : List Jvm.Cond) (a2 : Addr) (el_a2 : Nat → Int64) (h0 : Heap) (n0 : Nat) (Z0 : n0 ≤ h0.size) (V_a2 : Arf Z h0 a2 .long (16 : Int32) (fun i => (.long (el_a2 i)))) (g_a2 : n0 ≤ a2) :
    MetFree l (⟨"java/util/DualPivotQuicksort", "sort", "(Ljava/util/DualPivotQuicksort$Sorter;[JIII)V"⟩ : MethodName) (head1 (Jvm.Cond.code (⟨"java/util/DualPivotQuicksort", "sort", "(Ljava/util/DualPivotQuicksort$Sorter;[JIII)V"⟩ : MethodName) jdk_2529_method_13_code 25 none :: ws) ({ frames := 1, cells := 0, slots := 0, locals := 18 } : Room)) (fun a U => a = #[.null, (.ref a2), (.int (0 : Int32)), (.int (0 : Int32)), (.int (3 : Int32))] ∧ Z.Warmed39 U.vm ∧ U.heap = h0) (fun _ _ _ _ _ => True) (fun _ U o U' => ∃ v L, o = .returned v ∧ Q9n0 Z a2 el_a2 h0 n0 v U'.heap L ∧ FrameEnd U o U' L ({ frames := 1, cells := 0, slots := 0, locals := 18 } : Room).cells ({ frames := 1, cells := 0, slots := 0, locals := 18 } : Room).slots) := by
  refine MetFree.of_bodySF (plainFor_of_name pn_java_util_DualPivotQuicksort) hisR ?_
  intro p e s m args below meth c s₁ Bd hml0 hP hK
  obtain ⟨rfl, hZ, hh⟩ := hP
  have hx := Bd.exec
  have hby := Bd.bytes
  have hml : c.maxLocals = 25 := hml0
  have hown : s.vm.findClass "java/util/DualPivotQuicksort" = some m.cls := findClass_of_methodNamed Bd.named
  have hnm := (name_of_methodNamed Bd.named Bd.method).1
  have X0 : Stand p l e ({ frames := 1, cells := 0, slots := 0, locals := 18 } : Room) s m #[.null, (.ref a2), (.int (0 : Int32)), (.int (0 : Int32)), (.int (3 : Int32))] below meth c s₁ [] 0 0 := Stand.of_body Bd
  have e0 : s₁.heap = h0 := by rw [← hh, Bd.state]; rfl
  have N0 := Fr.nil n0
  have pre0 : ∀ t, Steps p.tables e below (s₁.setTop (mkF m 0 #[.val .null, .val (.ref a2), .val (.int (0 : Int32)), .val (.int (0 : Int32)), .val (.int (3 : Int32)), .unset, .unset, .unset, .unset, .unset, .unset, .unset, .unset, .unset, .unset, .unset, .unset, .unset, .unset, .unset, .unset, .unset, .unset, .unset, .unset] [])) t → Steps p.tables e below (s₁.setTop (entryFrame m #[.null, (.ref a2), (.int (0 : Int32)), (.int (0 : Int32)), (.int (3 : Int32))] 25)) t := fun t k => castTop (ef_9n0 m a2) k
  have pre1 : ∀ t, Steps p.tables e below (s₁.setTop (mkF m 57 #[.val .null, .val (.ref a2), .val (.int (0 : Int32)), .val (.int (0 : Int32)), .val (.int (3 : Int32)), .val (.int (2 : Int32)), .val (.int (3 : Int32)), .unset, .unset, .unset, .unset, .unset, .unset, .unset, .unset, .unset, .unset, .unset, .unset, .unset, .unset, .unset, .unset, .unset, .unset] [(.int (3 : Int32)), (.int (0 : Int32)), (.ref a2)])) t → Steps p.tables e below (s₁.setTop (entryFrame m #[.null, (.ref a2), (.int (0 : Int32)), (.int (0 : Int32)), (.int (3 : Int32))] 25)) t := fun t kt => by
    refine pre0 t ?_
    refine XS.iload X0.here hx rfl (hb hby d9_0) rfl ?_
    show Steps p.tables e below (s₁.setTop (mkF m 2 #[.val .null, .val (.ref a2), .val (.int (0 : Int32)), .val (.int (0 : Int32)), .val (.int (3 : Int32)), .unset, .unset, .unset, .unset, .unset, .unset, .unset, .unset, .unset, .unset, .unset, .unset, .unset, .unset, .unset, .unset, .unset, .unset, .unset, .unset] [(.int (3 : Int32))])) _
    refine XS.iconst X0.here hx rfl (hb hby d9_2) ?_
    show Steps p.tables e below (s₁.setTop (mkF m 3 #[.val .null, .val (.ref a2), .val (.int (0 : Int32)), .val (.int (0 : Int32)), .val (.int (3 : Int32)), .unset, .unset, .unset, .unset, .unset, .unset, .unset, .unset, .unset, .unset, .unset, .unset, .unset, .unset, .unset, .unset, .unset, .unset, .unset, .unset] [(.int (1 : Int32)), (.int (3 : Int32))])) _
    refine XS.isub X0.here hx rfl (hb hby d9_3) rfl ?_
    show Steps p.tables e below (s₁.setTop (mkF m 4 #[.val .null, .val (.ref a2), .val (.int (0 : Int32)), .val (.int (0 : Int32)), .val (.int (3 : Int32)), .unset, .unset, .unset, .unset, .unset, .unset, .unset, .unset, .unset, .unset, .unset, .unset, .unset, .unset, .unset, .unset, .unset, .unset, .unset, .unset] [(.int (2 : Int32))])) _
    refine XS.istore X0.here hx rfl (hb hby d9_4) rfl (l' := #[.val .null, .val (.ref a2), .val (.int (0 : Int32)), .val (.int (0 : Int32)), .val (.int (3 : Int32)), .val (.int (2 : Int32)), .unset, .unset, .unset, .unset, .unset, .unset, .unset, .unset, .unset, .unset, .unset, .unset, .unset, .unset, .unset, .unset, .unset, .unset, .unset]) rfl ?_
    show Steps p.tables e below (s₁.setTop (mkF m 6 #[.val .null, .val (.ref a2), .val (.int (0 : Int32)), .val (.int (0 : Int32)), .val (.int (3 : Int32)), .val (.int (2 : Int32)), .unset, .unset, .unset, .unset, .unset, .unset, .unset, .unset, .unset, .unset, .unset, .unset, .unset, .unset, .unset, .unset, .unset, .unset, .unset] [])) _
    refine XS.iload X0.here hx rfl (hb hby d9_6) rfl ?_
    show Steps p.tables e below (s₁.setTop (mkF m 8 #[.val .null, .val (.ref a2), .val (.int (0 : Int32)), .val (.int (0 : Int32)), .val (.int (3 : Int32)), .val (.int (2 : Int32)), .unset, .unset, .unset, .unset, .unset, .unset, .unset, .unset, .unset, .unset, .unset, .unset, .unset, .unset, .unset, .unset, .unset, .unset, .unset] [(.int (3 : Int32))])) _
    refine XS.iloadN X0.here hx rfl (hb hby d9_8) rfl ?_
    show Steps p.tables e below (s₁.setTop (mkF m 9 #[.val .null, .val (.ref a2), .val (.int (0 : Int32)), .val (.int (0 : Int32)), .val (.int (3 : Int32)), .val (.int (2 : Int32)), .unset, .unset, .unset, .unset, .unset, .unset, .unset, .unset, .unset, .unset, .unset, .unset, .unset, .unset, .unset, .unset, .unset, .unset, .unset] [(.int (0 : Int32)), (.int (3 : Int32))])) _
    refine XS.isub X0.here hx rfl (hb hby d9_9) rfl ?_
    show Steps p.tables e below (s₁.setTop (mkF m 10 #[.val .null, .val (.ref a2), .val (.int (0 : Int32)), .val (.int (0 : Int32)), .val (.int (3 : Int32)), .val (.int (2 : Int32)), .unset, .unset, .unset, .unset, .unset, .unset, .unset, .unset, .unset, .unset, .unset, .unset, .unset, .unset, .unset, .unset, .unset, .unset, .unset] [(.int (3 : Int32))])) _
    refine XS.istore X0.here hx rfl (hb hby d9_10) rfl (l' := #[.val .null, .val (.ref a2), .val (.int (0 : Int32)), .val (.int (0 : Int32)), .val (.int (3 : Int32)), .val (.int (2 : Int32)), .val (.int (3 : Int32)), .unset, .unset, .unset, .unset, .unset, .unset, .unset, .unset, .unset, .unset, .unset, .unset, .unset, .unset, .unset, .unset, .unset, .unset]) rfl ?_
    show Steps p.tables e below (s₁.setTop (mkF m 12 #[.val .null, .val (.ref a2), .val (.int (0 : Int32)), .val (.int (0 : Int32)), .val (.int (3 : Int32)), .val (.int (2 : Int32)), .val (.int (3 : Int32)), .unset, .unset, .unset, .unset, .unset, .unset, .unset, .unset, .unset, .unset, .unset, .unset, .unset, .unset, .unset, .unset, .unset, .unset] [])) _
    refine XS.iload X0.here hx rfl (hb hby d9_12) rfl ?_
    show Steps p.tables e below (s₁.setTop (mkF m 14 #[.val .null, .val (.ref a2), .val (.int (0 : Int32)), .val (.int (0 : Int32)), .val (.int (3 : Int32)), .val (.int (2 : Int32)), .val (.int (3 : Int32)), .unset, .unset, .unset, .unset, .unset, .unset, .unset, .unset, .unset, .unset, .unset, .unset, .unset, .unset, .unset, .unset, .unset, .unset] [(.int (3 : Int32))])) _
    refine XS.bipush X0.here hx rfl (hb hby d9_14) ?_
    show Steps p.tables e below (s₁.setTop (mkF m 16 #[.val .null, .val (.ref a2), .val (.int (0 : Int32)), .val (.int (0 : Int32)), .val (.int (3 : Int32)), .val (.int (2 : Int32)), .val (.int (3 : Int32)), .unset, .unset, .unset, .unset, .unset, .unset, .unset, .unset, .unset, .unset, .unset, .unset, .unset, .unset, .unset, .unset, .unset, .unset] [(.int (65 : Int32)), (.int (3 : Int32))])) _
    refine XS.iloadN X0.here hx rfl (hb hby d9_16) rfl ?_
    show Steps p.tables e below (s₁.setTop (mkF m 17 #[.val .null, .val (.ref a2), .val (.int (0 : Int32)), .val (.int (0 : Int32)), .val (.int (3 : Int32)), .val (.int (2 : Int32)), .val (.int (3 : Int32)), .unset, .unset, .unset, .unset, .unset, .unset, .unset, .unset, .unset, .unset, .unset, .unset, .unset, .unset, .unset, .unset, .unset, .unset] [(.int (0 : Int32)), (.int (65 : Int32)), (.int (3 : Int32))])) _
    refine XS.iadd X0.here hx rfl (hb hby d9_17) rfl ?_
    show Steps p.tables e below (s₁.setTop (mkF m 18 #[.val .null, .val (.ref a2), .val (.int (0 : Int32)), .val (.int (0 : Int32)), .val (.int (3 : Int32)), .val (.int (2 : Int32)), .val (.int (3 : Int32)), .unset, .unset, .unset, .unset, .unset, .unset, .unset, .unset, .unset, .unset, .unset, .unset, .unset, .unset, .unset, .unset, .unset, .unset] [(.int (65 : Int32)), (.int (3 : Int32))])) _
    refine XS.icmpNo X0.here hx rfl (hb hby d9_18) rfl (tlt (by decide : (3 : Int32) < (65 : Int32))).2.1 ?_
    show Steps p.tables e below (s₁.setTop (mkF m 21 #[.val .null, .val (.ref a2), .val (.int (0 : Int32)), .val (.int (0 : Int32)), .val (.int (3 : Int32)), .val (.int (2 : Int32)), .val (.int (3 : Int32)), .unset, .unset, .unset, .unset, .unset, .unset, .unset, .unset, .unset, .unset, .unset, .unset, .unset, .unset, .unset, .unset, .unset, .unset] [])) _
    refine XS.iloadN X0.here hx rfl (hb hby d9_21) rfl ?_
    show Steps p.tables e below (s₁.setTop (mkF m 22 #[.val .null, .val (.ref a2), .val (.int (0 : Int32)), .val (.int (0 : Int32)), .val (.int (3 : Int32)), .val (.int (2 : Int32)), .val (.int (3 : Int32)), .unset, .unset, .unset, .unset, .unset, .unset, .unset, .unset, .unset, .unset, .unset, .unset, .unset, .unset, .unset, .unset, .unset, .unset] [(.int (0 : Int32))])) _
    refine XS.iconst X0.here hx rfl (hb hby d9_22) ?_
    show Steps p.tables e below (s₁.setTop (mkF m 23 #[.val .null, .val (.ref a2), .val (.int (0 : Int32)), .val (.int (0 : Int32)), .val (.int (3 : Int32)), .val (.int (2 : Int32)), .val (.int (3 : Int32)), .unset, .unset, .unset, .unset, .unset, .unset, .unset, .unset, .unset, .unset, .unset, .unset, .unset, .unset, .unset, .unset, .unset, .unset] [(.int (1 : Int32)), (.int (0 : Int32))])) _
    refine XS.iand X0.here hx rfl (hb hby d9_23) rfl ?_
    show Steps p.tables e below (s₁.setTop (mkF m 24 #[.val .null, .val (.ref a2), .val (.int (0 : Int32)), .val (.int (0 : Int32)), .val (.int (3 : Int32)), .val (.int (2 : Int32)), .val (.int (3 : Int32)), .unset, .unset, .unset, .unset, .unset, .unset, .unset, .unset, .unset, .unset, .unset, .unset, .unset, .unset, .unset, .unset, .unset, .unset] [(.int (0 : Int32))])) _
    refine XS.ifYes X0.here hx rfl (pc0 := 24) (pc' := 46) rfl (hb hby d9_24) rfl ((if0 _ _).trans (flt (by decide : ¬ ((0 : Int32) < (0 : Int32)))).2.2.2) (by decide) (by decide) ?_
    show Steps p.tables e below (s₁.setTop (mkF m 46 #[.val .null, .val (.ref a2), .val (.int (0 : Int32)), .val (.int (0 : Int32)), .val (.int (3 : Int32)), .val (.int (2 : Int32)), .val (.int (3 : Int32)), .unset, .unset, .unset, .unset, .unset, .unset, .unset, .unset, .unset, .unset, .unset, .unset, .unset, .unset, .unset, .unset, .unset, .unset] [])) _
    refine XS.iload X0.here hx rfl (hb hby d9_46) rfl ?_
    show Steps p.tables e below (s₁.setTop (mkF m 48 #[.val .null, .val (.ref a2), .val (.int (0 : Int32)), .val (.int (0 : Int32)), .val (.int (3 : Int32)), .val (.int (2 : Int32)), .val (.int (3 : Int32)), .unset, .unset, .unset, .unset, .unset, .unset, .unset, .unset, .unset, .unset, .unset, .unset, .unset, .unset, .unset, .unset, .unset, .unset] [(.int (3 : Int32))])) _
    refine XS.bipush X0.here hx rfl (hb hby d9_48) ?_
    show Steps p.tables e below (s₁.setTop (mkF m 50 #[.val .null, .val (.ref a2), .val (.int (0 : Int32)), .val (.int (0 : Int32)), .val (.int (3 : Int32)), .val (.int (2 : Int32)), .val (.int (3 : Int32)), .unset, .unset, .unset, .unset, .unset, .unset, .unset, .unset, .unset, .unset, .unset, .unset, .unset, .unset, .unset, .unset, .unset, .unset] [(.int (44 : Int32)), (.int (3 : Int32))])) _
    refine XS.icmpNo X0.here hx rfl (hb hby d9_50) rfl (tlt (by decide : (3 : Int32) < (44 : Int32))).2.1 ?_
    show Steps p.tables e below (s₁.setTop (mkF m 53 #[.val .null, .val (.ref a2), .val (.int (0 : Int32)), .val (.int (0 : Int32)), .val (.int (3 : Int32)), .val (.int (2 : Int32)), .val (.int (3 : Int32)), .unset, .unset, .unset, .unset, .unset, .unset, .unset, .unset, .unset, .unset, .unset, .unset, .unset, .unset, .unset, .unset, .unset, .unset] [])) _
    refine XS.aloadN X0.here hx rfl (hb hby d9_53) rfl rfl ?_
    show Steps p.tables e below (s₁.setTop (mkF m 54 #[.val .null, .val (.ref a2), .val (.int (0 : Int32)), .val (.int (0 : Int32)), .val (.int (3 : Int32)), .val (.int (2 : Int32)), .val (.int (3 : Int32)), .unset, .unset, .unset, .unset, .unset, .unset, .unset, .unset, .unset, .unset, .unset, .unset, .unset, .unset, .unset, .unset, .unset, .unset] [(.ref a2)])) _
    refine XS.iloadN X0.here hx rfl (hb hby d9_54) rfl ?_
    show Steps p.tables e below (s₁.setTop (mkF m 55 #[.val .null, .val (.ref a2), .val (.int (0 : Int32)), .val (.int (0 : Int32)), .val (.int (3 : Int32)), .val (.int (2 : Int32)), .val (.int (3 : Int32)), .unset, .unset, .unset, .unset, .unset, .unset, .unset, .unset, .unset, .unset, .unset, .unset, .unset, .unset, .unset, .unset, .unset, .unset] [(.int (0 : Int32)), (.ref a2)])) _
    refine XS.iload X0.here hx rfl (hb hby d9_55) rfl ?_
    show Steps p.tables e below (s₁.setTop (mkF m 57 #[.val .null, .val (.ref a2), .val (.int (0 : Int32)), .val (.int (0 : Int32)), .val (.int (3 : Int32)), .val (.int (2 : Int32)), .val (.int (3 : Int32)), .unset, .unset, .unset, .unset, .unset, .unset, .unset, .unset, .unset, .unset, .unset, .unset, .unset, .unset, .unset, .unset, .unset, .unset] [(.int (3 : Int32)), (.int (0 : Int32)), (.ref a2)])) _
    exact kt
  obtain ⟨_, _, ⟨T2, L2, k2, n2⟩, -, X2, ⟨Lc2, hQ2, l2, y2, z2⟩, st2⟩ := Jvm.LawKit.callS X0 hx (y := (⟨"java/util/DualPivotQuicksort", "insertionSort", "([JII)V"⟩ : MethodName)) hown (mvT hZ (hw _ (mgE 45 rfl))) (mvT hZ (hw _ (mgE 46 rfl))) (mvT hZ (hw _ (mgE 40 rfl))) (mvT hZ (hw _ (mgE 47 rfl))) (by decide) (backOf (W := 0) (rm10 l Z a0 hw [] a2 el_a2 h0 n0 Z0 V_a2 g_a2) hZ (hw _ (mgE 47 rfl)) (hw _ (mgE 40 rfl)) (by decide) (by decide)) (g := (mkF m 57 #[.val .null, .val (.ref a2), .val (.int (0 : Int32)), .val (.int (0 : Int32)), .val (.int (3 : Int32)), .val (.int (2 : Int32)), .val (.int (3 : Int32)), .unset, .unset, .unset, .unset, .unset, .unset, .unset, .unset, .unset, .unset, .unset, .unset, .unset, .unset, .unset, .unset, .unset, .unset] [(.int (3 : Int32)), (.int (0 : Int32)), (.ref a2)])) rfl (by rw [hml]; rfl) (argsL := [(.ref a2), (.int (0 : Int32)), (.int (3 : Int32))]) (rest := []) (lenOf pd___JII_V rfl) rfl (by show 2 * 0 + _ ≤ _; exact Nat.le_of_eq rfl) (hb hby d9_57) (fun _ _ => ⟨rfl, e0, (by decide : 0 + 0 ≤ _), (by decide : 0 + 0 ≤ _)⟩)
  dsimp only [Pt.U, Pt.locs, Pt.cells, Pt.slots] at X2 l2 y2 z2 st2 hQ2
  subst l2 y2 z2
  obtain ⟨rfl, N2q, K2, Q2_0⟩ := hQ2
  have KK2 : Keep h0 T2.heap [a2] := Keep.trans (Keep.refl h0 [a2]) K2 (allS (Or.inl (mgE 0 rfl)) all0)
  have pre4 : ∀ t, Steps p.tables e below (T2.setTop (mkF m 60 #[.val .null, .val (.ref a2), .val (.int (0 : Int32)), .val (.int (0 : Int32)), .val (.int (3 : Int32)), .val (.int (2 : Int32)), .val (.int (3 : Int32)), .unset, .unset, .unset, .unset, .unset, .unset, .unset, .unset, .unset, .unset, .unset, .unset, .unset, .unset, .unset, .unset, .unset, .unset] [])) t → Steps p.tables e below (s₁.setTop (entryFrame m #[.null, (.ref a2), (.int (0 : Int32)), (.int (0 : Int32)), (.int (3 : Int32))] 25)) t := fun t kt => pre1 t (st2 t kt)
  have N2 := Fr.app N0 N2q
  obtain ⟨fs, hr, hrun, hended, hW, hsame⟩ := X2.leave (v := none) (fun _ => rfl)
  refine ⟨_, _, pre4 _ ?_, hrun, hended, _, _, rfl, ?_, ⟨_, rfl⟩, hW, hsame.mono (by decide) (by decide)⟩
  · exact X2.returnOut hx Bd.returns (hb hby d9_60) hr
  · show Q9n0 Z a2 el_a2 h0 n0 _ T2.heap _
    exact ⟨rfl, N2, KK2, Q2_0⟩
theorem d8_0 : decode jdk_2529_method_12_code 0 = .ok (.iload_n 3, 1) := by decide +kernel
theorem d8_1 : decode jdk_2529_method_12_code 1 = .ok (.iload_n 2, 1) := by decide +kernel
theorem d8_2 : decode jdk_2529_method_12_code 2 = .ok (.isub, 1) := by decide +kernel
theorem d8_3 : decode jdk_2529_method_12_code 3 = .ok (.istore 4, 2) := by decide +kernel
theorem d8_5 : decode jdk_2529_method_12_code 5 = .ok (.iload_n 1, 1) := by decide +kernel
theorem d8_6 : decode jdk_2529_method_12_code 6 = .ok (.iconst 1, 1) := by decide +kernel
theorem d8_7 : decode jdk_2529_method_12_code 7 = .ok (.if_icmp .le 61, 3) := by decide +kernel
theorem d8_68 : decode jdk_2529_method_12_code 68 = .ok (.aconst_null, 1) := by decide +kernel
theorem d8_69 : decode jdk_2529_method_12_code 69 = .ok (.aload_n 0, 1) := by decide +kernel
theorem d8_70 : decode jdk_2529_method_12_code 70 = .ok (.iconst 0, 1) := by decide +kernel
theorem d8_71 : decode jdk_2529_method_12_code 71 = .ok (.iload_n 2, 1) := by decide +kernel
theorem d8_72 : decode jdk_2529_method_12_code 72 = .ok (.iload_n 3, 1) := by decide +kernel
theorem d8_73 : decode jdk_2529_method_12_code 73 = .ok (.invokestatic 99, 3) := by decide +kernel
theorem d8_76 : decode jdk_2529_method_12_code 76 = .ok (.return_, 1) := by decide +kernel
theorem pd__Ljava_util_DualPivotQuicksort_Sorter__JIII_V : parseMethodDescriptor "(Ljava/util/DualPivotQuicksort$Sorter;[JIII)V" = some ⟨[(.object "java/util/DualPivotQuicksort$Sorter"), (.array .long), .int, .int, .int], none⟩ := by decide +kernel
theorem ef_8 (m : MethodId) (x0 : Addr) : entryFrame m #[(.ref x0), (.int (0 : Int32)), (.int (0 : Int32)), (.int (3 : Int32))] 7 = mkF m 0 #[.val (.ref x0), .val (.int (0 : Int32)), .val (.int (0 : Int32)), .val (.int (3 : Int32)), .unset, .unset, .unset] [] := by first | (simp [entryFrame, mkF, argsToLocals, Value.category]; done) | rfl
def Q8 (Z : State) (a1 : Addr) (el_a1 : Nat → Int64) (h0 : Heap) (n0 : Nat) (v : Option Value) (h : Heap) (L : List Loc) : Prop := v = none ∧ Fr n0 L ∧ Keep h0 h [a1] ∧ Arf Z h a1 .long (16 : Int32) (fun i => (.long ((srt el_a1) i)))
set_option maxRecDepth 65536 in
set_option maxHeartbeats 40000000 in
theorem rm8 (l : Launch) (Z : State) (a0 : Array Value) (hw : ∀ d ∈ tables_1, d.before a0 Z = true) (ws : List Jvm.Cond) (a1 : Addr) (el_a1 : Nat → Int64) (h0 : Heap) (n0 : Nat) (Z0 : n0 ≤ h0.size) (V_a1 : Arf Z h0 a1 .long (16 : Int32) (fun i => (.long (el_a1 i)))) (g_a1 : n0 ≤ a1) :
    MetFree l (⟨"java/util/DualPivotQuicksort", "sort", "([JIII)V"⟩ : MethodName) (head1 (Jvm.Cond.code (⟨"java/util/DualPivotQuicksort", "sort", "([JIII)V"⟩ : MethodName) jdk_2529_method_12_code 7 none :: ws) ({ frames := 2, cells := 0, slots := 0, locals := 54 } : Room)) (fun a U => a = #[(.ref a1), (.int (0 : Int32)), (.int (0 : Int32)), (.int (3 : Int32))] ∧ Z.Warmed39 U.vm ∧ U.heap = h0) (fun _ _ _ _ _ => True) (fun _ U o U' => ∃ v L, o = .returned v ∧ Q8 Z a1 el_a1 h0 n0 v U'.heap L ∧ FrameEnd U o U' L ({ frames := 2, cells := 0, slots := 0, locals := 54 } : Room).cells ({ frames := 2, cells := 0, slots := 0, locals := 54 } : Room).slots) := by
  refine MetFree.of_bodySF (plainFor_of_name pn_java_util_DualPivotQuicksort) hisR ?_
  intro p e s m args below meth c s₁ Bd hml0 hP hK
  obtain ⟨rfl, hZ, hh⟩ := hP
  have hx := Bd.exec
  have hby := Bd.bytes
  have hml : c.maxLocals = 7 := hml0
  have hown : s.vm.findClass "java/util/DualPivotQuicksort" = some m.cls := findClass_of_methodNamed Bd.named
  have hnm := (name_of_methodNamed Bd.named Bd.method).1
  have X0 : Stand p l e ({ frames := 2, cells := 0, slots := 0, locals := 54 } : Room) s m #[(.ref a1), (.int (0 : Int32)), (.int (0 : Int32)), (.int (3 : Int32))] below meth c s₁ [] 0 0 := Stand.of_body Bd
  have e0 : s₁.heap = h0 := by rw [← hh, Bd.state]; rfl
  have N0 := Fr.nil n0
  have pre0 : ∀ t, Steps p.tables e below (s₁.setTop (mkF m 0 #[.val (.ref a1), .val (.int (0 : Int32)), .val (.int (0 : Int32)), .val (.int (3 : Int32)), .unset, .unset, .unset] [])) t → Steps p.tables e below (s₁.setTop (entryFrame m #[(.ref a1), (.int (0 : Int32)), (.int (0 : Int32)), (.int (3 : Int32))] 7)) t := fun t k => castTop (ef_8 m a1) k
  have pre1 : ∀ t, Steps p.tables e below (s₁.setTop (mkF m 73 #[.val (.ref a1), .val (.int (0 : Int32)), .val (.int (0 : Int32)), .val (.int (3 : Int32)), .val (.int (3 : Int32)), .unset, .unset] [(.int (3 : Int32)), (.int (0 : Int32)), (.int (0 : Int32)), (.ref a1), .null])) t → Steps p.tables e below (s₁.setTop (entryFrame m #[(.ref a1), (.int (0 : Int32)), (.int (0 : Int32)), (.int (3 : Int32))] 7)) t := fun t kt => by
    refine pre0 t ?_
    refine XS.iloadN X0.here hx rfl (hb hby d8_0) rfl ?_
    show Steps p.tables e below (s₁.setTop (mkF m 1 #[.val (.ref a1), .val (.int (0 : Int32)), .val (.int (0 : Int32)), .val (.int (3 : Int32)), .unset, .unset, .unset] [(.int (3 : Int32))])) _
    refine XS.iloadN X0.here hx rfl (hb hby d8_1) rfl ?_
    show Steps p.tables e below (s₁.setTop (mkF m 2 #[.val (.ref a1), .val (.int (0 : Int32)), .val (.int (0 : Int32)), .val (.int (3 : Int32)), .unset, .unset, .unset] [(.int (0 : Int32)), (.int (3 : Int32))])) _
    refine XS.isub X0.here hx rfl (hb hby d8_2) rfl ?_
    show Steps p.tables e below (s₁.setTop (mkF m 3 #[.val (.ref a1), .val (.int (0 : Int32)), .val (.int (0 : Int32)), .val (.int (3 : Int32)), .unset, .unset, .unset] [(.int (3 : Int32))])) _
    refine XS.istore X0.here hx rfl (hb hby d8_3) rfl (l' := #[.val (.ref a1), .val (.int (0 : Int32)), .val (.int (0 : Int32)), .val (.int (3 : Int32)), .val (.int (3 : Int32)), .unset, .unset]) rfl ?_
    show Steps p.tables e below (s₁.setTop (mkF m 5 #[.val (.ref a1), .val (.int (0 : Int32)), .val (.int (0 : Int32)), .val (.int (3 : Int32)), .val (.int (3 : Int32)), .unset, .unset] [])) _
    refine XS.iloadN X0.here hx rfl (hb hby d8_5) rfl ?_
    show Steps p.tables e below (s₁.setTop (mkF m 6 #[.val (.ref a1), .val (.int (0 : Int32)), .val (.int (0 : Int32)), .val (.int (3 : Int32)), .val (.int (3 : Int32)), .unset, .unset] [(.int (0 : Int32))])) _
    refine XS.iconst X0.here hx rfl (hb hby d8_6) ?_
    show Steps p.tables e below (s₁.setTop (mkF m 7 #[.val (.ref a1), .val (.int (0 : Int32)), .val (.int (0 : Int32)), .val (.int (3 : Int32)), .val (.int (3 : Int32)), .unset, .unset] [(.int (1 : Int32)), (.int (0 : Int32))])) _
    refine XS.icmpYes X0.here hx rfl (pc0 := 7) (pc' := 68) rfl (hb hby d8_7) rfl (flt (by decide : ¬ ((1 : Int32) < (0 : Int32)))).2.2.2 (by decide) (by decide) ?_
    show Steps p.tables e below (s₁.setTop (mkF m 68 #[.val (.ref a1), .val (.int (0 : Int32)), .val (.int (0 : Int32)), .val (.int (3 : Int32)), .val (.int (3 : Int32)), .unset, .unset] [])) _
    refine XS.aconstNull X0.here hx rfl (hb hby d8_68) ?_
    show Steps p.tables e below (s₁.setTop (mkF m 69 #[.val (.ref a1), .val (.int (0 : Int32)), .val (.int (0 : Int32)), .val (.int (3 : Int32)), .val (.int (3 : Int32)), .unset, .unset] [.null])) _
    refine XS.aloadN X0.here hx rfl (hb hby d8_69) rfl rfl ?_
    show Steps p.tables e below (s₁.setTop (mkF m 70 #[.val (.ref a1), .val (.int (0 : Int32)), .val (.int (0 : Int32)), .val (.int (3 : Int32)), .val (.int (3 : Int32)), .unset, .unset] [(.ref a1), .null])) _
    refine XS.iconst X0.here hx rfl (hb hby d8_70) ?_
    show Steps p.tables e below (s₁.setTop (mkF m 71 #[.val (.ref a1), .val (.int (0 : Int32)), .val (.int (0 : Int32)), .val (.int (3 : Int32)), .val (.int (3 : Int32)), .unset, .unset] [(.int (0 : Int32)), (.ref a1), .null])) _
    refine XS.iloadN X0.here hx rfl (hb hby d8_71) rfl ?_
    show Steps p.tables e below (s₁.setTop (mkF m 72 #[.val (.ref a1), .val (.int (0 : Int32)), .val (.int (0 : Int32)), .val (.int (3 : Int32)), .val (.int (3 : Int32)), .unset, .unset] [(.int (0 : Int32)), (.int (0 : Int32)), (.ref a1), .null])) _
    refine XS.iloadN X0.here hx rfl (hb hby d8_72) rfl ?_
    show Steps p.tables e below (s₁.setTop (mkF m 73 #[.val (.ref a1), .val (.int (0 : Int32)), .val (.int (0 : Int32)), .val (.int (3 : Int32)), .val (.int (3 : Int32)), .unset, .unset] [(.int (3 : Int32)), (.int (0 : Int32)), (.int (0 : Int32)), (.ref a1), .null])) _
    exact kt
  obtain ⟨_, _, ⟨T2, L2, k2, n2⟩, -, X2, ⟨Lc2, hQ2, l2, y2, z2⟩, st2⟩ := Jvm.LawKit.callS X0 hx (y := (⟨"java/util/DualPivotQuicksort", "sort", "(Ljava/util/DualPivotQuicksort$Sorter;[JIII)V"⟩ : MethodName)) hown (mvT hZ (hw _ (mgE 42 rfl))) (mvT hZ (hw _ (mgE 43 rfl))) (mvT hZ (hw _ (mgE 40 rfl))) (mvT hZ (hw _ (mgE 44 rfl))) (by decide) (backOf (W := 0) (rm9n0 l Z a0 hw [] a1 el_a1 h0 n0 Z0 V_a1 g_a1) hZ (hw _ (mgE 44 rfl)) (hw _ (mgE 40 rfl)) (by decide) (by decide)) (g := (mkF m 73 #[.val (.ref a1), .val (.int (0 : Int32)), .val (.int (0 : Int32)), .val (.int (3 : Int32)), .val (.int (3 : Int32)), .unset, .unset] [(.int (3 : Int32)), (.int (0 : Int32)), (.int (0 : Int32)), (.ref a1), .null])) rfl (by rw [hml]; rfl) (argsL := [.null, (.ref a1), (.int (0 : Int32)), (.int (0 : Int32)), (.int (3 : Int32))]) (rest := []) (lenOf pd__Ljava_util_DualPivotQuicksort_Sorter__JIII_V rfl) rfl (by show 2 * 0 + _ ≤ _; exact Nat.le_of_eq rfl) (hb hby d8_73) (fun _ _ => ⟨rfl, e0, (by decide : 0 + 0 ≤ _), (by decide : 0 + 0 ≤ _)⟩)
  dsimp only [Pt.U, Pt.locs, Pt.cells, Pt.slots] at X2 l2 y2 z2 st2 hQ2
  subst l2 y2 z2
  obtain ⟨rfl, N2q, K2, Q2_0⟩ := hQ2
  have KK2 : Keep h0 T2.heap [a1] := Keep.trans (Keep.refl h0 [a1]) K2 (allS (Or.inl (mgE 0 rfl)) all0)
  have pre4 : ∀ t, Steps p.tables e below (T2.setTop (mkF m 76 #[.val (.ref a1), .val (.int (0 : Int32)), .val (.int (0 : Int32)), .val (.int (3 : Int32)), .val (.int (3 : Int32)), .unset, .unset] [])) t → Steps p.tables e below (s₁.setTop (entryFrame m #[(.ref a1), (.int (0 : Int32)), (.int (0 : Int32)), (.int (3 : Int32))] 7)) t := fun t kt => pre1 t (st2 t kt)
  have N2 := Fr.app N0 N2q
  obtain ⟨fs, hr, hrun, hended, hW, hsame⟩ := X2.leave (v := none) (fun _ => rfl)
  refine ⟨_, _, pre4 _ ?_, hrun, hended, _, _, rfl, ?_, ⟨_, rfl⟩, hW, hsame.mono (by decide) (by decide)⟩
  · exact X2.returnOut hx Bd.returns (hb hby d8_76) hr
  · show Q8 Z a1 el_a1 h0 n0 _ T2.heap _
    exact ⟨rfl, N2, KK2, Q2_0⟩
theorem d7_0 : decode jdk_65_method_30_code 0 = .ok (.iload_n 1, 1) := by decide +kernel
theorem d7_1 : decode jdk_65_method_30_code 1 = .ok (.iload_n 2, 1) := by decide +kernel
theorem d7_2 : decode jdk_65_method_30_code 2 = .ok (.if_icmp .le 44, 3) := by decide +kernel
theorem d7_46 : decode jdk_65_method_30_code 46 = .ok (.iload_n 1, 1) := by decide +kernel
theorem d7_47 : decode jdk_65_method_30_code 47 = .ok (.ifCond .ge 12, 3) := by decide +kernel
theorem d7_59 : decode jdk_65_method_30_code 59 = .ok (.iload_n 2, 1) := by decide +kernel
theorem d7_60 : decode jdk_65_method_30_code 60 = .ok (.iload_n 0, 1) := by decide +kernel
theorem d7_61 : decode jdk_65_method_30_code 61 = .ok (.if_icmp .le 12, 3) := by decide +kernel
theorem d7_73 : decode jdk_65_method_30_code 73 = .ok (.return_, 1) := by decide +kernel
theorem pn_java_util_Arrays : plainName "java/util/Arrays" = true := by first | (simp [plainName, overriddenIn]; done) | decide +kernel
theorem ef_7 (m : MethodId)  : entryFrame m #[(.int (16 : Int32)), (.int (0 : Int32)), (.int (3 : Int32))] 3 = mkF m 0 #[.val (.int (16 : Int32)), .val (.int (0 : Int32)), .val (.int (3 : Int32))] [] := by first | (simp [entryFrame, mkF, argsToLocals, Value.category]; done) | rfl
def Q7 (Z : State)  (h0 : Heap) (n0 : Nat) (v : Option Value) (h : Heap) (L : List Loc) : Prop := v = none ∧ Fr n0 L ∧ h = h0
set_option maxRecDepth 65536 in
set_option maxHeartbeats 40000000 in
theorem rm7 (l : Launch) (Z : State) (a0 : Array Value) (hw : ∀ d ∈ tables_1, d.before a0 Z = true) (ws : List Jvm.Cond)  (h0 : Heap) (n0 : Nat) (Z0 : n0 ≤ h0.size)  :
    MetFree l (⟨"java/util/Arrays", "rangeCheck", "(III)V"⟩ : MethodName) (head1 (Jvm.Cond.code (⟨"java/util/Arrays", "rangeCheck", "(III)V"⟩ : MethodName) jdk_65_method_30_code 3 none :: ws) ({ frames := 0, cells := 0, slots := 0, locals := 0 } : Room)) (fun a U => a = #[(.int (16 : Int32)), (.int (0 : Int32)), (.int (3 : Int32))] ∧ Z.Warmed39 U.vm ∧ U.heap = h0) (fun _ _ _ _ _ => True) (fun _ U o U' => ∃ v L, o = .returned v ∧ Q7 Z  h0 n0 v U'.heap L ∧ FrameEnd U o U' L ({ frames := 0, cells := 0, slots := 0, locals := 0 } : Room).cells ({ frames := 0, cells := 0, slots := 0, locals := 0 } : Room).slots) := by
  refine MetFree.of_bodySF (plainFor_of_name pn_java_util_Arrays) hisR ?_
  intro p e s m args below meth c s₁ Bd hml0 hP hK
  obtain ⟨rfl, hZ, hh⟩ := hP
  have hx := Bd.exec
  have hby := Bd.bytes
  have hml : c.maxLocals = 3 := hml0
  have hown : s.vm.findClass "java/util/Arrays" = some m.cls := findClass_of_methodNamed Bd.named
  have hnm := (name_of_methodNamed Bd.named Bd.method).1
  have X0 : Stand p l e ({ frames := 0, cells := 0, slots := 0, locals := 0 } : Room) s m #[(.int (16 : Int32)), (.int (0 : Int32)), (.int (3 : Int32))] below meth c s₁ [] 0 0 := Stand.of_body Bd
  have e0 : s₁.heap = h0 := by rw [← hh, Bd.state]; rfl
  have N0 := Fr.nil n0
  have pre0 : ∀ t, Steps p.tables e below (s₁.setTop (mkF m 0 #[.val (.int (16 : Int32)), .val (.int (0 : Int32)), .val (.int (3 : Int32))] [])) t → Steps p.tables e below (s₁.setTop (entryFrame m #[(.int (16 : Int32)), (.int (0 : Int32)), (.int (3 : Int32))] 3)) t := fun t k => castTop (ef_7 m ) k
  have pre1 : ∀ t, Steps p.tables e below (s₁.setTop (mkF m 73 #[.val (.int (16 : Int32)), .val (.int (0 : Int32)), .val (.int (3 : Int32))] [])) t → Steps p.tables e below (s₁.setTop (entryFrame m #[(.int (16 : Int32)), (.int (0 : Int32)), (.int (3 : Int32))] 3)) t := fun t kt => by
    refine pre0 t ?_
    refine XS.iloadN X0.here hx rfl (hb hby d7_0) rfl ?_
    show Steps p.tables e below (s₁.setTop (mkF m 1 #[.val (.int (16 : Int32)), .val (.int (0 : Int32)), .val (.int (3 : Int32))] [(.int (0 : Int32))])) _
    refine XS.iloadN X0.here hx rfl (hb hby d7_1) rfl ?_
    show Steps p.tables e below (s₁.setTop (mkF m 2 #[.val (.int (16 : Int32)), .val (.int (0 : Int32)), .val (.int (3 : Int32))] [(.int (3 : Int32)), (.int (0 : Int32))])) _
    refine XS.icmpYes X0.here hx rfl (pc0 := 2) (pc' := 46) rfl (hb hby d7_2) rfl (flt (by decide : ¬ ((3 : Int32) < (0 : Int32)))).2.2.2 (by decide) (by decide) ?_
    show Steps p.tables e below (s₁.setTop (mkF m 46 #[.val (.int (16 : Int32)), .val (.int (0 : Int32)), .val (.int (3 : Int32))] [])) _
    refine XS.iloadN X0.here hx rfl (hb hby d7_46) rfl ?_
    show Steps p.tables e below (s₁.setTop (mkF m 47 #[.val (.int (16 : Int32)), .val (.int (0 : Int32)), .val (.int (3 : Int32))] [(.int (0 : Int32))])) _
    refine XS.ifYes X0.here hx rfl (pc0 := 47) (pc' := 59) rfl (hb hby d7_47) rfl ((if0 _ _).trans (flt (by decide : ¬ ((0 : Int32) < (0 : Int32)))).2.1) (by decide) (by decide) ?_
    show Steps p.tables e below (s₁.setTop (mkF m 59 #[.val (.int (16 : Int32)), .val (.int (0 : Int32)), .val (.int (3 : Int32))] [])) _
    refine XS.iloadN X0.here hx rfl (hb hby d7_59) rfl ?_
    show Steps p.tables e below (s₁.setTop (mkF m 60 #[.val (.int (16 : Int32)), .val (.int (0 : Int32)), .val (.int (3 : Int32))] [(.int (3 : Int32))])) _
    refine XS.iloadN X0.here hx rfl (hb hby d7_60) rfl ?_
    show Steps p.tables e below (s₁.setTop (mkF m 61 #[.val (.int (16 : Int32)), .val (.int (0 : Int32)), .val (.int (3 : Int32))] [(.int (16 : Int32)), (.int (3 : Int32))])) _
    refine XS.icmpYes X0.here hx rfl (pc0 := 61) (pc' := 73) rfl (hb hby d7_61) rfl (flt (by decide : ¬ ((16 : Int32) < (3 : Int32)))).2.2.2 (by decide) (by decide) ?_
    show Steps p.tables e below (s₁.setTop (mkF m 73 #[.val (.int (16 : Int32)), .val (.int (0 : Int32)), .val (.int (3 : Int32))] [])) _
    exact kt
  obtain ⟨fs, hr, hrun, hended, hW, hsame⟩ := X0.leave (v := none) (fun _ => rfl)
  refine ⟨_, _, pre1 _ ?_, hrun, hended, _, _, rfl, ?_, ⟨_, rfl⟩, hW, hsame.mono (by decide) (by decide)⟩
  · exact X0.returnOut hx Bd.returns (hb hby d7_73) hr
  · show Q7 Z  h0 n0 _ s₁.heap _
    rw [e0]
    exact ⟨rfl, N0, rfl⟩
theorem d6_0 : decode jdk_65_method_5_code 0 = .ok (.aload_n 0, 1) := by decide +kernel
theorem d6_1 : decode jdk_65_method_5_code 1 = .ok (.arraylength, 1) := by decide +kernel
theorem d6_2 : decode jdk_65_method_5_code 2 = .ok (.iload_n 1, 1) := by decide +kernel
theorem d6_3 : decode jdk_65_method_5_code 3 = .ok (.iload_n 2, 1) := by decide +kernel
theorem d6_4 : decode jdk_65_method_5_code 4 = .ok (.invokestatic 13, 3) := by decide +kernel
theorem d6_7 : decode jdk_65_method_5_code 7 = .ok (.aload_n 0, 1) := by decide +kernel
theorem d6_8 : decode jdk_65_method_5_code 8 = .ok (.iconst 0, 1) := by decide +kernel
theorem d6_9 : decode jdk_65_method_5_code 9 = .ok (.iload_n 1, 1) := by decide +kernel
theorem d6_10 : decode jdk_65_method_5_code 10 = .ok (.iload_n 2, 1) := by decide +kernel
theorem d6_11 : decode jdk_65_method_5_code 11 = .ok (.invokestatic 19, 3) := by decide +kernel
theorem d6_14 : decode jdk_65_method_5_code 14 = .ok (.return_, 1) := by decide +kernel
theorem pd__III_V : parseMethodDescriptor "(III)V" = some ⟨[.int, .int, .int], none⟩ := by decide +kernel
theorem pd___JIII_V : parseMethodDescriptor "([JIII)V" = some ⟨[(.array .long), .int, .int, .int], none⟩ := by decide +kernel
theorem ef_6 (m : MethodId) (x0 : Addr) : entryFrame m #[(.ref x0), (.int (0 : Int32)), (.int (3 : Int32))] 3 = mkF m 0 #[.val (.ref x0), .val (.int (0 : Int32)), .val (.int (3 : Int32))] [] := by first | (simp [entryFrame, mkF, argsToLocals, Value.category]; done) | rfl
def Q6 (Z : State) (a1 : Addr) (el_a1 : Nat → Int64) (h0 : Heap) (n0 : Nat) (v : Option Value) (h : Heap) (L : List Loc) : Prop := v = none ∧ Fr n0 L ∧ Keep h0 h [a1] ∧ Arf Z h a1 .long (16 : Int32) (fun i => (.long ((srt el_a1) i)))
set_option maxRecDepth 65536 in
set_option maxHeartbeats 40000000 in
theorem rm6 (l : Launch) (Z : State) (a0 : Array Value) (hw : ∀ d ∈ tables_1, d.before a0 Z = true) (ws : List Jvm.Cond) (a1 : Addr) (el_a1 : Nat → Int64) (h0 : Heap) (n0 : Nat) (Z0 : n0 ≤ h0.size) (V_a1 : Arf Z h0 a1 .long (16 : Int32) (fun i => (.long (el_a1 i)))) (g_a1 : n0 ≤ a1) :
    MetFree l (⟨"java/util/Arrays", "sort", "([JII)V"⟩ : MethodName) (head1 (Jvm.Cond.code (⟨"java/util/Arrays", "sort", "([JII)V"⟩ : MethodName) jdk_65_method_5_code 3 none :: ws) ({ frames := 3, cells := 0, slots := 0, locals := 72 } : Room)) (fun a U => a = #[(.ref a1), (.int (0 : Int32)), (.int (3 : Int32))] ∧ Z.Warmed39 U.vm ∧ U.heap = h0) (fun _ _ _ _ _ => True) (fun _ U o U' => ∃ v L, o = .returned v ∧ Q6 Z a1 el_a1 h0 n0 v U'.heap L ∧ FrameEnd U o U' L ({ frames := 3, cells := 0, slots := 0, locals := 72 } : Room).cells ({ frames := 3, cells := 0, slots := 0, locals := 72 } : Room).slots) := by
  refine MetFree.of_bodySF (plainFor_of_name pn_java_util_Arrays) hisR ?_
  intro p e s m args below meth c s₁ Bd hml0 hP hK
  obtain ⟨rfl, hZ, hh⟩ := hP
  have hx := Bd.exec
  have hby := Bd.bytes
  have hml : c.maxLocals = 3 := hml0
  have hown : s.vm.findClass "java/util/Arrays" = some m.cls := findClass_of_methodNamed Bd.named
  have hnm := (name_of_methodNamed Bd.named Bd.method).1
  have X0 : Stand p l e ({ frames := 3, cells := 0, slots := 0, locals := 72 } : Room) s m #[(.ref a1), (.int (0 : Int32)), (.int (3 : Int32))] below meth c s₁ [] 0 0 := Stand.of_body Bd
  have e0 : s₁.heap = h0 := by rw [← hh, Bd.state]; rfl
  have N0 := Fr.nil n0
  have pre0 : ∀ t, Steps p.tables e below (s₁.setTop (mkF m 0 #[.val (.ref a1), .val (.int (0 : Int32)), .val (.int (3 : Int32))] [])) t → Steps p.tables e below (s₁.setTop (entryFrame m #[(.ref a1), (.int (0 : Int32)), (.int (3 : Int32))] 3)) t := fun t k => castTop (ef_6 m a1) k
  have pre1 : ∀ t, Steps p.tables e below (s₁.setTop (mkF m 1 #[.val (.ref a1), .val (.int (0 : Int32)), .val (.int (3 : Int32))] [(.ref a1)])) t → Steps p.tables e below (s₁.setTop (entryFrame m #[(.ref a1), (.int (0 : Int32)), (.int (3 : Int32))] 3)) t := fun t kt => by
    refine pre0 t ?_
    refine XS.aloadN X0.here hx rfl (hb hby d6_0) rfl rfl ?_
    show Steps p.tables e below (s₁.setTop (mkF m 1 #[.val (.ref a1), .val (.int (0 : Int32)), .val (.int (3 : Int32))] [(.ref a1)])) _
    exact kt
  obtain ⟨cl2, Ar2, S2, Ng2, H2⟩ := id V_a1
  have pre3 : ∀ t, Steps p.tables e below (s₁.setTop (mkF m 4 #[.val (.ref a1), .val (.int (0 : Int32)), .val (.int (3 : Int32))] [(.int (3 : Int32)), (.int (0 : Int32)), (.int (16 : Int32))])) t → Steps p.tables e below (s₁.setTop (entryFrame m #[(.ref a1), (.int (0 : Int32)), (.int (3 : Int32))] 3)) t := fun t kt => by
    refine pre1 t ?_
    refine X0.arraylength hx (by rw [e0]; exact Ar2.1) (State.isArrayOf_alike hZ.alike Ar2.2.1) (g := (mkF m 1 #[.val (.ref a1), .val (.int (0 : Int32)), .val (.int (3 : Int32))] [(.ref a1)])) rfl rfl (hb hby d6_1) _ ?_
    rw [len_of S2 Ng2]
    show Steps p.tables e below (s₁.setTop (mkF m 2 #[.val (.ref a1), .val (.int (0 : Int32)), .val (.int (3 : Int32))] [(.int (16 : Int32))])) _
    refine XS.iloadN X0.here hx rfl (hb hby d6_2) rfl ?_
    show Steps p.tables e below (s₁.setTop (mkF m 3 #[.val (.ref a1), .val (.int (0 : Int32)), .val (.int (3 : Int32))] [(.int (0 : Int32)), (.int (16 : Int32))])) _
    refine XS.iloadN X0.here hx rfl (hb hby d6_3) rfl ?_
    show Steps p.tables e below (s₁.setTop (mkF m 4 #[.val (.ref a1), .val (.int (0 : Int32)), .val (.int (3 : Int32))] [(.int (3 : Int32)), (.int (0 : Int32)), (.int (16 : Int32))])) _
    exact kt
  obtain ⟨_, _, ⟨T4, L4, k4, n4⟩, -, X4, ⟨Lc4, hQ4, l4, y4, z4⟩, st4⟩ := Jvm.LawKit.callS X0 hx (y := (⟨"java/util/Arrays", "rangeCheck", "(III)V"⟩ : MethodName)) hown (mvT hZ (hw _ (mgE 35 rfl))) (mvT hZ (hw _ (mgE 36 rfl))) (mvT hZ (hw _ (mgE 33 rfl))) (mvT hZ (hw _ (mgE 37 rfl))) (by decide) (backOf (W := 0) (rm7 l Z a0 hw []  h0 n0 Z0 ) hZ (hw _ (mgE 37 rfl)) (hw _ (mgE 33 rfl)) (by decide) (by decide)) (g := (mkF m 4 #[.val (.ref a1), .val (.int (0 : Int32)), .val (.int (3 : Int32))] [(.int (3 : Int32)), (.int (0 : Int32)), (.int (16 : Int32))])) rfl (by rw [hml]; rfl) (argsL := [(.int (16 : Int32)), (.int (0 : Int32)), (.int (3 : Int32))]) (rest := []) (lenOf pd__III_V rfl) rfl (by show 2 * 0 + _ ≤ _; exact Nat.le_of_eq rfl) (hb hby d6_4) (fun _ _ => ⟨rfl, e0, (by decide : 0 + 0 ≤ _), (by decide : 0 + 0 ≤ _)⟩)
  dsimp only [Pt.U, Pt.locs, Pt.cells, Pt.slots] at X4 l4 y4 z4 st4 hQ4
  subst l4 y4 z4
  obtain ⟨rfl, N4q, e4⟩ := hQ4
  have pre5 : ∀ t, Steps p.tables e below (T4.setTop (mkF m 7 #[.val (.ref a1), .val (.int (0 : Int32)), .val (.int (3 : Int32))] [])) t → Steps p.tables e below (s₁.setTop (entryFrame m #[(.ref a1), (.int (0 : Int32)), (.int (3 : Int32))] 3)) t := fun t kt => pre3 t (st4 t kt)
  have N4 := Fr.app N0 N4q
  have pre6 : ∀ t, Steps p.tables e below (T4.setTop (mkF m 11 #[.val (.ref a1), .val (.int (0 : Int32)), .val (.int (3 : Int32))] [(.int (3 : Int32)), (.int (0 : Int32)), (.int (0 : Int32)), (.ref a1)])) t → Steps p.tables e below (s₁.setTop (entryFrame m #[(.ref a1), (.int (0 : Int32)), (.int (3 : Int32))] 3)) t := fun t kt => by
    refine pre5 t ?_
    refine XS.aloadN X4.here hx rfl (hb hby d6_7) rfl rfl ?_
    show Steps p.tables e below (T4.setTop (mkF m 8 #[.val (.ref a1), .val (.int (0 : Int32)), .val (.int (3 : Int32))] [(.ref a1)])) _
    refine XS.iconst X4.here hx rfl (hb hby d6_8) ?_
    show Steps p.tables e below (T4.setTop (mkF m 9 #[.val (.ref a1), .val (.int (0 : Int32)), .val (.int (3 : Int32))] [(.int (0 : Int32)), (.ref a1)])) _
    refine XS.iloadN X4.here hx rfl (hb hby d6_9) rfl ?_
    show Steps p.tables e below (T4.setTop (mkF m 10 #[.val (.ref a1), .val (.int (0 : Int32)), .val (.int (3 : Int32))] [(.int (0 : Int32)), (.int (0 : Int32)), (.ref a1)])) _
    refine XS.iloadN X4.here hx rfl (hb hby d6_10) rfl ?_
    show Steps p.tables e below (T4.setTop (mkF m 11 #[.val (.ref a1), .val (.int (0 : Int32)), .val (.int (3 : Int32))] [(.int (3 : Int32)), (.int (0 : Int32)), (.int (0 : Int32)), (.ref a1)])) _
    exact kt
  obtain ⟨_, _, ⟨T7, L7, k7, n7⟩, -, X7, ⟨Lc7, hQ7, l7, y7, z7⟩, st7⟩ := Jvm.LawKit.callS X4 hx (y := (⟨"java/util/DualPivotQuicksort", "sort", "([JIII)V"⟩ : MethodName)) hown (mvT hZ (hw _ (mgE 38 rfl))) (mvT hZ (hw _ (mgE 39 rfl))) (mvT hZ (hw _ (mgE 40 rfl))) (mvT hZ (hw _ (mgE 41 rfl))) (by decide) (backOf (W := 0) (rm8 l Z a0 hw [] a1 el_a1 h0 n0 Z0 V_a1 g_a1) hZ (hw _ (mgE 41 rfl)) (hw _ (mgE 40 rfl)) (by decide) (by decide)) (g := (mkF m 11 #[.val (.ref a1), .val (.int (0 : Int32)), .val (.int (3 : Int32))] [(.int (3 : Int32)), (.int (0 : Int32)), (.int (0 : Int32)), (.ref a1)])) rfl (by rw [hml]; rfl) (argsL := [(.ref a1), (.int (0 : Int32)), (.int (0 : Int32)), (.int (3 : Int32))]) (rest := []) (lenOf pd___JIII_V rfl) rfl (by show 2 * 0 + _ ≤ _; exact Nat.le_of_eq rfl) (hb hby d6_11) (fun _ _ => ⟨rfl, e4, (by decide : 0 + 0 ≤ _), (by decide : 0 + 0 ≤ _)⟩)
  dsimp only [Pt.U, Pt.locs, Pt.cells, Pt.slots] at X7 l7 y7 z7 st7 hQ7
  subst l7 y7 z7
  obtain ⟨rfl, N7q, K7, Q7_0⟩ := hQ7
  have KK7 : Keep h0 T7.heap [a1] := Keep.trans (Keep.refl h0 [a1]) K7 (allS (Or.inl (mgE 0 rfl)) all0)
  have pre9 : ∀ t, Steps p.tables e below (T7.setTop (mkF m 14 #[.val (.ref a1), .val (.int (0 : Int32)), .val (.int (3 : Int32))] [])) t → Steps p.tables e below (s₁.setTop (entryFrame m #[(.ref a1), (.int (0 : Int32)), (.int (3 : Int32))] 3)) t := fun t kt => pre6 t (st7 t kt)
  have N7 := Fr.app N4 N7q
  obtain ⟨fs, hr, hrun, hended, hW, hsame⟩ := X7.leave (v := none) (fun _ => rfl)
  refine ⟨_, _, pre9 _ ?_, hrun, hended, _, _, rfl, ?_, ⟨_, rfl⟩, hW, hsame.mono (by decide) (by decide)⟩
  · exact X7.returnOut hx Bd.returns (hb hby d6_14) hr
  · show Q6 Z a1 el_a1 h0 n0 _ T7.heap _
    exact ⟨rfl, N7, KK7, Q7_0⟩
theorem d11_0 : decode prog_2_method_1_code 0 = .ok (.aload_n 0, 1) := by decide +kernel
theorem d11_1 : decode prog_2_method_1_code 1 = .ok (.invokespecial 1, 3) := by decide +kernel
theorem d11_4 : decode prog_2_method_1_code 4 = .ok (.aload_n 0, 1) := by decide +kernel
theorem d11_5 : decode prog_2_method_1_code 5 = .ok (.iload_n 1, 1) := by decide +kernel
theorem d11_6 : decode prog_2_method_1_code 6 = .ok (.putfield 7, 3) := by decide +kernel
theorem d11_9 : decode prog_2_method_1_code 9 = .ok (.aload_n 0, 1) := by decide +kernel
theorem d11_10 : decode prog_2_method_1_code 10 = .ok (.aload_n 2, 1) := by decide +kernel
theorem d11_11 : decode prog_2_method_1_code 11 = .ok (.putfield 13, 3) := by decide +kernel
theorem d11_14 : decode prog_2_method_1_code 14 = .ok (.aload_n 0, 1) := by decide +kernel
theorem d11_15 : decode prog_2_method_1_code 15 = .ok (.aload_n 3, 1) := by decide +kernel
theorem d11_16 : decode prog_2_method_1_code 16 = .ok (.putfield 17, 3) := by decide +kernel
theorem d11_19 : decode prog_2_method_1_code 19 = .ok (.return_, 1) := by decide +kernel
theorem pn_com_example_hit_span_ranker_hitspanranker_chain_HitChain : plainName "com/example/hit_span_ranker/hitspanranker/chain/HitChain" = true := by first | (simp [plainName, overriddenIn]; done) | decide +kernel
theorem ef_11 (m : MethodId) (x0 : Addr) (x1 : Int32) (x2 : Addr) (x3 : Addr) : entryFrame m #[(.ref x0), (.int x1), (.ref x2), (.ref x3)] 4 = mkF m 0 #[.val (.ref x0), .val (.int x1), .val (.ref x2), .val (.ref x3)] [] := by first | (simp [entryFrame, mkF, argsToLocals, Value.category]; done) | rfl
def Q11 (Z : State) (a1 : Addr) (p2 : Int32) (a3 : Addr) (a4 : Addr) (u_words_a1 : Value) (u_positions_a1 : Value) (u_hitWords_a1 : Value) (h0 : Heap) (n0 : Nat) (v : Option Value) (h : Heap) (L : List Loc) : Prop := v = none ∧ Fr n0 L ∧ Keep h0 h [a1] ∧ Exa Z h a1 "com/example/hit_span_ranker/hitspanranker/chain/HitChain" ∧ Fld Z h a1 "com/example/hit_span_ranker/hitspanranker/chain/HitChain" "hitWords" "[I" (.ref a4) ∧ Fld Z h a1 "com/example/hit_span_ranker/hitspanranker/chain/HitChain" "positions" "[I" (.ref a3) ∧ Fld Z h a1 "com/example/hit_span_ranker/hitspanranker/chain/HitChain" "words" "I" (.int p2)
set_option maxRecDepth 65536 in
set_option maxHeartbeats 40000000 in
theorem rm11 (l : Launch) (Z : State) (a0 : Array Value) (hw : ∀ d ∈ tables_1, d.before a0 Z = true) (ws : List Jvm.Cond) (a1 : Addr) (p2 : Int32) (a3 : Addr) (a4 : Addr) (u_words_a1 : Value) (u_positions_a1 : Value) (u_hitWords_a1 : Value) (h0 : Heap) (n0 : Nat) (Z0 : n0 ≤ h0.size) (E_a1 : Exa Z h0 a1 "com/example/hit_span_ranker/hitspanranker/chain/HitChain") (F_words_a1 : Fld Z h0 a1 "com/example/hit_span_ranker/hitspanranker/chain/HitChain" "words" "I" u_words_a1) (g_a1 : n0 ≤ a1) (F_positions_a1 : Fld Z h0 a1 "com/example/hit_span_ranker/hitspanranker/chain/HitChain" "positions" "[I" u_positions_a1) (F_hitWords_a1 : Fld Z h0 a1 "com/example/hit_span_ranker/hitspanranker/chain/HitChain" "hitWords" "[I" u_hitWords_a1) :
    MetFree l (⟨"com/example/hit_span_ranker/hitspanranker/chain/HitChain", "<init>", "(I[I[I)V"⟩ : MethodName) (head1 (Jvm.Cond.code (⟨"com/example/hit_span_ranker/hitspanranker/chain/HitChain", "<init>", "(I[I[I)V"⟩ : MethodName) prog_2_method_1_code 4 none :: ws) ({ frames := 1, cells := 0, slots := 0, locals := 12 } : Room)) (fun a U => a = #[(.ref a1), (.int p2), (.ref a3), (.ref a4)] ∧ Z.Warmed39 U.vm ∧ U.heap = h0) (fun _ _ _ _ _ => True) (fun _ U o U' => ∃ v L, o = .returned v ∧ Q11 Z a1 p2 a3 a4 u_words_a1 u_positions_a1 u_hitWords_a1 h0 n0 v U'.heap L ∧ FrameEnd U o U' L ({ frames := 1, cells := 0, slots := 0, locals := 12 } : Room).cells ({ frames := 1, cells := 0, slots := 0, locals := 12 } : Room).slots) := by
  refine MetFree.of_bodySF (plainFor_of_name pn_com_example_hit_span_ranker_hitspanranker_chain_HitChain) hisR ?_
  intro p e s m args below meth c s₁ Bd hml0 hP hK
  obtain ⟨rfl, hZ, hh⟩ := hP
  have hx := Bd.exec
  have hby := Bd.bytes
  have hml : c.maxLocals = 4 := hml0
  have hown : s.vm.findClass "com/example/hit_span_ranker/hitspanranker/chain/HitChain" = some m.cls := findClass_of_methodNamed Bd.named
  have hnm := (name_of_methodNamed Bd.named Bd.method).1
  have X0 : Stand p l e ({ frames := 1, cells := 0, slots := 0, locals := 12 } : Room) s m #[(.ref a1), (.int p2), (.ref a3), (.ref a4)] below meth c s₁ [] 0 0 := Stand.of_body Bd
  have e0 : s₁.heap = h0 := by rw [← hh, Bd.state]; rfl
  have N0 := Fr.nil n0
  have pre0 : ∀ t, Steps p.tables e below (s₁.setTop (mkF m 0 #[.val (.ref a1), .val (.int p2), .val (.ref a3), .val (.ref a4)] [])) t → Steps p.tables e below (s₁.setTop (entryFrame m #[(.ref a1), (.int p2), (.ref a3), (.ref a4)] 4)) t := fun t k => castTop (ef_11 m a1 p2 a3 a4) k
  have pre1 : ∀ t, Steps p.tables e below (s₁.setTop (mkF m 1 #[.val (.ref a1), .val (.int p2), .val (.ref a3), .val (.ref a4)] [(.ref a1)])) t → Steps p.tables e below (s₁.setTop (entryFrame m #[(.ref a1), (.int p2), (.ref a3), (.ref a4)] 4)) t := fun t kt => by
    refine pre0 t ?_
    refine XS.aloadN X0.here hx rfl (hb hby d11_0) rfl rfl ?_
    show Steps p.tables e below (s₁.setTop (mkF m 1 #[.val (.ref a1), .val (.int p2), .val (.ref a3), .val (.ref a4)] [(.ref a1)])) _
    exact kt
  obtain ⟨T2, X2, e2, st2⟩ := initO X0 hx hZ hown (hw _ (mgE 55 rfl)) (hw _ (mgE 12 rfl)) (hw _ (mgE 13 rfl)) e0 (g := (mkF m 1 #[.val (.ref a1), .val (.int p2), .val (.ref a3), .val (.ref a4)] [(.ref a1)])) rfl (by rw [hml]; rfl) rfl (hb hby d11_1) (by decide) (W := 0) (by show 2 * 0 + _ ≤ _; exact Nat.le_of_eq rfl) (by decide)
  have pre3 : ∀ t, Steps p.tables e below (T2.setTop (mkF m 4 #[.val (.ref a1), .val (.int p2), .val (.ref a3), .val (.ref a4)] [])) t → Steps p.tables e below (s₁.setTop (entryFrame m #[(.ref a1), (.int p2), (.ref a3), (.ref a4)] 4)) t := fun t kt => pre1 t (st2 t kt)
  have pre4 : ∀ t, Steps p.tables e below (T2.setTop (mkF m 6 #[.val (.ref a1), .val (.int p2), .val (.ref a3), .val (.ref a4)] [(.int p2), (.ref a1)])) t → Steps p.tables e below (s₁.setTop (entryFrame m #[(.ref a1), (.int p2), (.ref a3), (.ref a4)] 4)) t := fun t kt => by
    refine pre3 t ?_
    refine XS.aloadN X2.here hx rfl (hb hby d11_4) rfl rfl ?_
    show Steps p.tables e below (T2.setTop (mkF m 5 #[.val (.ref a1), .val (.int p2), .val (.ref a3), .val (.ref a4)] [(.ref a1)])) _
    refine XS.iloadN X2.here hx rfl (hb hby d11_5) rfl ?_
    show Steps p.tables e below (T2.setTop (mkF m 6 #[.val (.ref a1), .val (.int p2), .val (.ref a3), .val (.ref a4)] [(.int p2), (.ref a1)])) _
    exact kt
  obtain ⟨T5, h5, X5, e5, W5, st5⟩ := putF X2 hx hZ hown (host := "") (Or.inl (hw _ (mgE 56 rfl))) Via.refl e2 F_words_a1 E_a1 (Or.inr ⟨(hw _ (mgE 57 rfl)), rfl, hnm⟩) (hw _ (mgE 50 rfl)) (ty := .int) (by decide) rfl rfl (g := (mkF m 6 #[.val (.ref a1), .val (.int p2), .val (.ref a3), .val (.ref a4)] [(.int p2), (.ref a1)])) rfl rfl (hb hby d11_6)
  have F6_5 := E_a1.wr W5
  have F8_5 := F_positions_a1.other W5 (Or.inr (slot_ne (Or.inr (hw _ (mgE 59 rfl))) (Or.inr (hw _ (mgE 57 rfl))) (by decide) (t := (.array .int)) (t' := .int) (by decide) (by decide)))
  have F9_5 := F_hitWords_a1.other W5 (Or.inr (slot_ne (Or.inr (hw _ (mgE 61 rfl))) (Or.inr (hw _ (mgE 57 rfl))) (by decide) (t := (.array .int)) (t' := .int) (by decide) (by decide)))
  have Fw5 := F_words_a1.same W5
  have K5 : Keep h0 h5 [a1] := (Keep.refl h0 [a1]).wr W5 (Or.inl (mgE 0 rfl))
  have pre10 : ∀ t, Steps p.tables e below (T5.setTop (mkF m 9 #[.val (.ref a1), .val (.int p2), .val (.ref a3), .val (.ref a4)] [])) t → Steps p.tables e below (s₁.setTop (entryFrame m #[(.ref a1), (.int p2), (.ref a3), (.ref a4)] 4)) t := fun t kt => pre4 t (st5 t kt)
  have N5 := Fr.snoc X5 N0 g_a1
  have pre11 : ∀ t, Steps p.tables e below (T5.setTop (mkF m 11 #[.val (.ref a1), .val (.int p2), .val (.ref a3), .val (.ref a4)] [(.ref a3), (.ref a1)])) t → Steps p.tables e below (s₁.setTop (entryFrame m #[(.ref a1), (.int p2), (.ref a3), (.ref a4)] 4)) t := fun t kt => by
    refine pre10 t ?_
    refine XS.aloadN X5.here hx rfl (hb hby d11_9) rfl rfl ?_
    show Steps p.tables e below (T5.setTop (mkF m 10 #[.val (.ref a1), .val (.int p2), .val (.ref a3), .val (.ref a4)] [(.ref a1)])) _
    refine XS.aloadN X5.here hx rfl (hb hby d11_10) rfl rfl ?_
    show Steps p.tables e below (T5.setTop (mkF m 11 #[.val (.ref a1), .val (.int p2), .val (.ref a3), .val (.ref a4)] [(.ref a3), (.ref a1)])) _
    exact kt
  obtain ⟨T12, h12, X12, e12, W12, st12⟩ := putF X5 hx hZ hown (host := "") (Or.inl (hw _ (mgE 58 rfl))) Via.refl e5 F8_5 F6_5 (Or.inr ⟨(hw _ (mgE 59 rfl)), rfl, hnm⟩) (hw _ (mgE 50 rfl)) (ty := (.array .int)) (by decide) rfl rfl (g := (mkF m 11 #[.val (.ref a1), .val (.int p2), .val (.ref a3), .val (.ref a4)] [(.ref a3), (.ref a1)])) rfl rfl (hb hby d11_11)
  have F13_12 := F6_5.wr W12
  have F14_12 := Fw5.other W12 (Or.inr (slot_ne (Or.inr (hw _ (mgE 57 rfl))) (Or.inr (hw _ (mgE 59 rfl))) (by decide) (t := .int) (t' := (.array .int)) (by decide) (by decide)))
  have F16_12 := F9_5.other W12 (Or.inr (slot_ne (Or.inr (hw _ (mgE 61 rfl))) (Or.inr (hw _ (mgE 59 rfl))) (by decide) (t := (.array .int)) (t' := (.array .int)) (by decide) (by decide)))
  have Fw12 := F8_5.same W12
  have K12 : Keep h0 h12 [a1] := K5.wr W12 (Or.inl (mgE 0 rfl))
  have pre17 : ∀ t, Steps p.tables e below (T12.setTop (mkF m 14 #[.val (.ref a1), .val (.int p2), .val (.ref a3), .val (.ref a4)] [])) t → Steps p.tables e below (s₁.setTop (entryFrame m #[(.ref a1), (.int p2), (.ref a3), (.ref a4)] 4)) t := fun t kt => pre11 t (st12 t kt)
  have N12 := Fr.snoc X12 N5 g_a1
  have pre18 : ∀ t, Steps p.tables e below (T12.setTop (mkF m 16 #[.val (.ref a1), .val (.int p2), .val (.ref a3), .val (.ref a4)] [(.ref a4), (.ref a1)])) t → Steps p.tables e below (s₁.setTop (entryFrame m #[(.ref a1), (.int p2), (.ref a3), (.ref a4)] 4)) t := fun t kt => by
    refine pre17 t ?_
    refine XS.aloadN X12.here hx rfl (hb hby d11_14) rfl rfl ?_
    show Steps p.tables e below (T12.setTop (mkF m 15 #[.val (.ref a1), .val (.int p2), .val (.ref a3), .val (.ref a4)] [(.ref a1)])) _
    refine XS.aloadN X12.here hx rfl (hb hby d11_15) rfl rfl ?_
    show Steps p.tables e below (T12.setTop (mkF m 16 #[.val (.ref a1), .val (.int p2), .val (.ref a3), .val (.ref a4)] [(.ref a4), (.ref a1)])) _
    exact kt
  obtain ⟨T19, h19, X19, e19, W19, st19⟩ := putF X12 hx hZ hown (host := "") (Or.inl (hw _ (mgE 60 rfl))) Via.refl e12 F16_12 F13_12 (Or.inr ⟨(hw _ (mgE 61 rfl)), rfl, hnm⟩) (hw _ (mgE 50 rfl)) (ty := (.array .int)) (by decide) rfl rfl (g := (mkF m 16 #[.val (.ref a1), .val (.int p2), .val (.ref a3), .val (.ref a4)] [(.ref a4), (.ref a1)])) rfl rfl (hb hby d11_16)
  have F20_19 := F13_12.wr W19
  have F21_19 := F14_12.other W19 (Or.inr (slot_ne (Or.inr (hw _ (mgE 57 rfl))) (Or.inr (hw _ (mgE 61 rfl))) (by decide) (t := .int) (t' := (.array .int)) (by decide) (by decide)))
  have F22_19 := Fw12.other W19 (Or.inr (slot_ne (Or.inr (hw _ (mgE 59 rfl))) (Or.inr (hw _ (mgE 61 rfl))) (by decide) (t := (.array .int)) (t' := (.array .int)) (by decide) (by decide)))
  have Fw19 := F16_12.same W19
  have K19 : Keep h0 h19 [a1] := K12.wr W19 (Or.inl (mgE 0 rfl))
  have pre24 : ∀ t, Steps p.tables e below (T19.setTop (mkF m 19 #[.val (.ref a1), .val (.int p2), .val (.ref a3), .val (.ref a4)] [])) t → Steps p.tables e below (s₁.setTop (entryFrame m #[(.ref a1), (.int p2), (.ref a3), (.ref a4)] 4)) t := fun t kt => pre18 t (st19 t kt)
  have N19 := Fr.snoc X19 N12 g_a1
  obtain ⟨fs, hr, hrun, hended, hW, hsame⟩ := X19.leave (v := none) (fun _ => rfl)
  refine ⟨_, _, pre24 _ ?_, hrun, hended, _, _, rfl, ?_, ⟨_, rfl⟩, hW, hsame.mono (by decide) (by decide)⟩
  · exact X19.returnOut hx Bd.returns (hb hby d11_19) hr
  · show Q11 Z a1 p2 a3 a4 u_words_a1 u_positions_a1 u_hitWords_a1 h0 n0 _ T19.heap _
    rw [e19]
    exact ⟨rfl, N19, K19, F20_19, Fw19, F22_19, F21_19⟩
theorem d5_0 : decode prog_3_method_3_code 0 = .ok (.aload_n 0, 1) := by decide +kernel
theorem d5_1 : decode prog_3_method_3_code 1 = .ok (.getfield 29, 3) := by decide +kernel
theorem d5_4 : decode prog_3_method_3_code 4 = .ok (.istore_n 1, 1) := by decide +kernel
theorem d5_5 : decode prog_3_method_3_code 5 = .ok (.aload_n 0, 1) := by decide +kernel
theorem d5_6 : decode prog_3_method_3_code 6 = .ok (.iconst 0, 1) := by decide +kernel
theorem d5_7 : decode prog_3_method_3_code 7 = .ok (.putfield 29, 3) := by decide +kernel
theorem d5_10 : decode prog_3_method_3_code 10 = .ok (.aload_n 0, 1) := by decide +kernel
theorem d5_11 : decode prog_3_method_3_code 11 = .ok (.getfield 7, 3) := by decide +kernel
theorem d5_14 : decode prog_3_method_3_code 14 = .ok (.iconst 0, 1) := by decide +kernel
theorem d5_15 : decode prog_3_method_3_code 15 = .ok (.iload_n 1, 1) := by decide +kernel
theorem d5_16 : decode prog_3_method_3_code 16 = .ok (.invokestatic 38, 3) := by decide +kernel
theorem d5_19 : decode prog_3_method_3_code 19 = .ok (.iload_n 1, 1) := by decide +kernel
theorem d5_20 : decode prog_3_method_3_code 20 = .ok (.newarray .int, 2) := by decide +kernel
theorem d5_22 : decode prog_3_method_3_code 22 = .ok (.astore_n 2, 1) := by decide +kernel
theorem d5_23 : decode prog_3_method_3_code 23 = .ok (.iload_n 1, 1) := by decide +kernel
theorem d5_24 : decode prog_3_method_3_code 24 = .ok (.newarray .int, 2) := by decide +kernel
theorem d5_26 : decode prog_3_method_3_code 26 = .ok (.astore_n 3, 1) := by decide +kernel
theorem d5_27 : decode prog_3_method_3_code 27 = .ok (.iconst 0, 1) := by decide +kernel
theorem d5_28 : decode prog_3_method_3_code 28 = .ok (.istore 4, 2) := by decide +kernel
theorem d5_30 : decode prog_3_method_3_code 30 = .ok (.iload 4, 2) := by decide +kernel
theorem d5_32 : decode prog_3_method_3_code 32 = .ok (.iload_n 1, 1) := by decide +kernel
theorem d5_33 : decode prog_3_method_3_code 33 = .ok (.if_icmp .ge 96, 3) := by decide +kernel
theorem d5_36 : decode prog_3_method_3_code 36 = .ok (.aload_n 2, 1) := by decide +kernel
theorem d5_37 : decode prog_3_method_3_code 37 = .ok (.iload 4, 2) := by decide +kernel
theorem d5_39 : decode prog_3_method_3_code 39 = .ok (.aload_n 0, 1) := by decide +kernel
theorem d5_40 : decode prog_3_method_3_code 40 = .ok (.getfield 7, 3) := by decide +kernel
theorem d5_43 : decode prog_3_method_3_code 43 = .ok (.iload 4, 2) := by decide +kernel
theorem d5_45 : decode prog_3_method_3_code 45 = .ok (.laload, 1) := by decide +kernel
theorem d5_46 : decode prog_3_method_3_code 46 = .ok (.bipush 32, 2) := by decide +kernel
theorem d5_48 : decode prog_3_method_3_code 48 = .ok (.lushr, 1) := by decide +kernel
theorem d5_49 : decode prog_3_method_3_code 49 = .ok (.l2i, 1) := by decide +kernel
theorem d5_50 : decode prog_3_method_3_code 50 = .ok (.iastore, 1) := by decide +kernel
theorem d5_51 : decode prog_3_method_3_code 51 = .ok (.aload_n 3, 1) := by decide +kernel
theorem d5_52 : decode prog_3_method_3_code 52 = .ok (.iload 4, 2) := by decide +kernel
theorem d5_54 : decode prog_3_method_3_code 54 = .ok (.aload_n 0, 1) := by decide +kernel
theorem d5_55 : decode prog_3_method_3_code 55 = .ok (.getfield 7, 3) := by decide +kernel
theorem d5_58 : decode prog_3_method_3_code 58 = .ok (.iload 4, 2) := by decide +kernel
theorem d5_60 : decode prog_3_method_3_code 60 = .ok (.laload, 1) := by decide +kernel
theorem d5_61 : decode prog_3_method_3_code 61 = .ok (.l2i, 1) := by decide +kernel
theorem d5_62 : decode prog_3_method_3_code 62 = .ok (.iastore, 1) := by decide +kernel
theorem d5_63 : decode prog_3_method_3_code 63 = .ok (.aload_n 2, 1) := by decide +kernel
theorem d5_64 : decode prog_3_method_3_code 64 = .ok (.iload 4, 2) := by decide +kernel
theorem d5_66 : decode prog_3_method_3_code 66 = .ok (.iaload, 1) := by decide +kernel
theorem d5_67 : decode prog_3_method_3_code 67 = .ok (.iconst 1, 1) := by decide +kernel
theorem d5_68 : decode prog_3_method_3_code 68 = .ok (.if_icmp .ge 20, 3) := by decide +kernel
theorem d5_88 : decode prog_3_method_3_code 88 = .ok (.iload 4, 2) := by decide +kernel
theorem d5_90 : decode prog_3_method_3_code 90 = .ok (.ifCond .le 33, 3) := by decide +kernel
theorem d5_93 : decode prog_3_method_3_code 93 = .ok (.aload_n 2, 1) := by decide +kernel
theorem d5_94 : decode prog_3_method_3_code 94 = .ok (.iload 4, 2) := by decide +kernel
theorem d5_96 : decode prog_3_method_3_code 96 = .ok (.iaload, 1) := by decide +kernel
theorem d5_97 : decode prog_3_method_3_code 97 = .ok (.aload_n 2, 1) := by decide +kernel
theorem d5_98 : decode prog_3_method_3_code 98 = .ok (.iload 4, 2) := by decide +kernel
theorem d5_100 : decode prog_3_method_3_code 100 = .ok (.iconst 1, 1) := by decide +kernel
theorem d5_101 : decode prog_3_method_3_code 101 = .ok (.isub, 1) := by decide +kernel
theorem d5_102 : decode prog_3_method_3_code 102 = .ok (.iaload, 1) := by decide +kernel
theorem d5_103 : decode prog_3_method_3_code 103 = .ok (.if_icmp .ne 20, 3) := by decide +kernel
theorem d5_123 : decode prog_3_method_3_code 123 = .ok (.iinc 4 1, 3) := by decide +kernel
theorem d5_126 : decode prog_3_method_3_code 126 = .ok (.goto (-96), 3) := by decide +kernel
theorem d5_129 : decode prog_3_method_3_code 129 = .ok (.new 44, 3) := by decide +kernel
theorem d5_132 : decode prog_3_method_3_code 132 = .ok (.dup, 1) := by decide +kernel
theorem d5_133 : decode prog_3_method_3_code 133 = .ok (.aload_n 0, 1) := by decide +kernel
theorem d5_134 : decode prog_3_method_3_code 134 = .ok (.getfield 22, 3) := by decide +kernel
theorem d5_137 : decode prog_3_method_3_code 137 = .ok (.aload_n 2, 1) := by decide +kernel
theorem d5_138 : decode prog_3_method_3_code 138 = .ok (.aload_n 3, 1) := by decide +kernel
theorem d5_139 : decode prog_3_method_3_code 139 = .ok (.invokespecial 46, 3) := by decide +kernel
theorem d5_142 : decode prog_3_method_3_code 142 = .ok (.areturn, 1) := by decide +kernel
theorem pd__I_I_I_V : parseMethodDescriptor "(I[I[I)V" = some ⟨[.int, (.array .int), (.array .int)], none⟩ := by decide +kernel
theorem ef_5 (m : MethodId) (x0 : Addr) : entryFrame m #[(.ref x0)] 5 = mkF m 0 #[.val (.ref x0), .unset, .unset, .unset, .unset] [] := by first | (simp [entryFrame, mkF, argsToLocals, Value.category]; done) | rfl
def Q5 (Z : State) (a1 : Addr) (w_hits_a1 : Addr) (el_w_hits_a1 : Nat → Int64) (w_words_a1 : Int32) (h0 : Heap) (n0 : Nat) (v : Option Value) (h : Heap) (L : List Loc) : Prop := ∃ fx1 fx2 fx3 : Addr, v = some (.ref fx1) ∧ Fr n0 L ∧ Keep h0 h [a1, w_hits_a1] ∧ h0.size ≤ fx1 ∧ h0.size ≤ fx2 ∧ h0.size ≤ fx3 ∧ fx1 ≠ fx2 ∧ fx1 ≠ fx3 ∧ fx2 ≠ fx3 ∧ Exa Z h a1 "com/example/hit_span_ranker/hitspanranker/chain/HitChain$Builder" ∧ Exa Z h fx1 "com/example/hit_span_ranker/hitspanranker/chain/HitChain" ∧ Fld Z h a1 "com/example/hit_span_ranker/hitspanranker/chain/HitChain$Builder" "hits" "[J" (.ref w_hits_a1) ∧ Fld Z h a1 "com/example/hit_span_ranker/hitspanranker/chain/HitChain$Builder" "size" "I" (.int (0 : Int32)) ∧ Fld Z h a1 "com/example/hit_span_ranker/hitspanranker/chain/HitChain$Builder" "words" "I" (.int w_words_a1) ∧ Fld Z h fx1 "com/example/hit_span_ranker/hitspanranker/chain/HitChain" "hitWords" "[I" (.ref fx2) ∧ Fld Z h fx1 "com/example/hit_span_ranker/hitspanranker/chain/HitChain" "positions" "[I" (.ref fx3) ∧ Fld Z h fx1 "com/example/hit_span_ranker/hitspanranker/chain/HitChain" "words" "I" (.int w_words_a1) ∧ Arf Z h fx2 .int (3 : Int32) (fun i => (.int ((own_upd (own_upd (own_upd (fun _ => (0 : Int32)) ((0 : Int32)).toNatClampNeg (((srt el_w_hits_a1) ((0 : Int32)).toNatClampNeg).toInt32)) ((1 : Int32)).toNatClampNeg (((srt el_w_hits_a1) ((1 : Int32)).toNatClampNeg).toInt32)) ((2 : Int32)).toNatClampNeg (((srt el_w_hits_a1) ((2 : Int32)).toNatClampNeg).toInt32)) i))) ∧ Arf Z h fx3 .int (3 : Int32) (fun i => (.int ((own_upd (own_upd (own_upd (fun _ => (0 : Int32)) ((0 : Int32)).toNatClampNeg (((((srt el_w_hits_a1) ((0 : Int32)).toNatClampNeg).toUInt64 >>> ((32 : Int32) &&& 0x3f).toInt64.toUInt64).toInt64).toInt32)) ((1 : Int32)).toNatClampNeg (((((srt el_w_hits_a1) ((1 : Int32)).toNatClampNeg).toUInt64 >>> ((32 : Int32) &&& 0x3f).toInt64.toUInt64).toInt64).toInt32)) ((2 : Int32)).toNatClampNeg (((((srt el_w_hits_a1) ((2 : Int32)).toNatClampNeg).toUInt64 >>> ((32 : Int32) &&& 0x3f).toInt64.toUInt64).toInt64).toInt32)) i))) ∧ Arf Z h w_hits_a1 .long (16 : Int32) (fun i => (.long ((srt el_w_hits_a1) i)))
set_option maxRecDepth 65536 in
set_option maxHeartbeats 40000000 in
theorem rm5 (l : Launch) (Z : State) (a0 : Array Value) (hw : ∀ d ∈ tables_1, d.before a0 Z = true) (ws : List Jvm.Cond) (a1 : Addr) (w_hits_a1 : Addr) (el_w_hits_a1 : Nat → Int64) (w_words_a1 : Int32) (h0 : Heap) (n0 : Nat) (Z0 : n0 ≤ h0.size) (F_size_a1 : Fld Z h0 a1 "com/example/hit_span_ranker/hitspanranker/chain/HitChain$Builder" "size" "I" (.int (3 : Int32))) (F_hits_a1 : Fld Z h0 a1 "com/example/hit_span_ranker/hitspanranker/chain/HitChain$Builder" "hits" "[J" (.ref w_hits_a1)) (V_w_hits_a1 : Arf Z h0 w_hits_a1 .long (16 : Int32) (fun i => (.long (el_w_hits_a1 i)))) (E_a1 : Exa Z h0 a1 "com/example/hit_span_ranker/hitspanranker/chain/HitChain$Builder") (g_a1 : n0 ≤ a1) (ne_w_hits_a1_a1 : w_hits_a1 ≠ a1) (g_w_hits_a1 : n0 ≤ w_hits_a1) (F_words_a1 : Fld Z h0 a1 "com/example/hit_span_ranker/hitspanranker/chain/HitChain$Builder" "words" "I" (.int w_words_a1)) (hp0 : ¬ ((((((srt el_w_hits_a1) ((0 : Int32)).toNatClampNeg).toUInt64 >>> ((32 : Int32) &&& 0x3f).toInt64.toUInt64).toInt64).toInt32) < (1 : Int32))) (hp1 : ¬ ((((((srt el_w_hits_a1) ((1 : Int32)).toNatClampNeg).toUInt64 >>> ((32 : Int32) &&& 0x3f).toInt64.toUInt64).toInt64).toInt32) < (1 : Int32))) (hp2 : ¬ ((((((srt el_w_hits_a1) ((2 : Int32)).toNatClampNeg).toUInt64 >>> ((32 : Int32) &&& 0x3f).toInt64.toUInt64).toInt64).toInt32) < (1 : Int32))) (hd1 : ¬ ((((((srt el_w_hits_a1) ((1 : Int32)).toNatClampNeg).toUInt64 >>> ((32 : Int32) &&& 0x3f).toInt64.toUInt64).toInt64).toInt32) = (((((srt el_w_hits_a1) ((0 : Int32)).toNatClampNeg).toUInt64 >>> ((32 : Int32) &&& 0x3f).toInt64.toUInt64).toInt64).toInt32))) (hd2 : ¬ ((((((srt el_w_hits_a1) ((2 : Int32)).toNatClampNeg).toUInt64 >>> ((32 : Int32) &&& 0x3f).toInt64.toUInt64).toInt64).toInt32) = (((((srt el_w_hits_a1) ((1 : Int32)).toNatClampNeg).toUInt64 >>> ((32 : Int32) &&& 0x3f).toInt64.toUInt64).toInt64).toInt32))) :
    MetFree l (⟨"com/example/hit_span_ranker/hitspanranker/chain/HitChain$Builder", "build", "()Lcom/example/hit_span_ranker/hitspanranker/chain/HitChain;"⟩ : MethodName) (head1 (Jvm.Cond.code (⟨"com/example/hit_span_ranker/hitspanranker/chain/HitChain$Builder", "build", "()Lcom/example/hit_span_ranker/hitspanranker/chain/HitChain;"⟩ : MethodName) prog_3_method_3_code 5 (some (.object "com/example/hit_span_ranker/hitspanranker/chain/HitChain")) :: ws) ({ frames := 4, cells := 3, slots := 9, locals := 86 } : Room)) (fun a U => a = #[(.ref a1)] ∧ Z.Warmed39 U.vm ∧ U.heap = h0) (fun _ _ _ _ _ => True) (fun _ U o U' => ∃ v L, o = .returned v ∧ Q5 Z a1 w_hits_a1 el_w_hits_a1 w_words_a1 h0 n0 v U'.heap L ∧ FrameEnd U o U' L ({ frames := 4, cells := 3, slots := 9, locals := 86 } : Room).cells ({ frames := 4, cells := 3, slots := 9, locals := 86 } : Room).slots) := by
  refine MetFree.of_bodySF (plainFor_of_name pn_com_example_hit_span_ranker_hitspanranker_chain_HitChain_Builder) hisR ?_
  intro p e s m args below meth c s₁ Bd hml0 hP hK
  obtain ⟨rfl, hZ, hh⟩ := hP
  have hx := Bd.exec
  have hby := Bd.bytes
  have hml : c.maxLocals = 5 := hml0
  have hown : s.vm.findClass "com/example/hit_span_ranker/hitspanranker/chain/HitChain$Builder" = some m.cls := findClass_of_methodNamed Bd.named
  have hnm := (name_of_methodNamed Bd.named Bd.method).1
  have X0 : Stand p l e ({ frames := 4, cells := 3, slots := 9, locals := 86 } : Room) s m #[(.ref a1)] below meth c s₁ [] 0 0 := Stand.of_body Bd
  have e0 : s₁.heap = h0 := by rw [← hh, Bd.state]; rfl
  have N0 := Fr.nil n0
  have pre0 : ∀ t, Steps p.tables e below (s₁.setTop (mkF m 0 #[.val (.ref a1), .unset, .unset, .unset, .unset] [])) t → Steps p.tables e below (s₁.setTop (entryFrame m #[(.ref a1)] 5)) t := fun t k => castTop (ef_5 m a1) k
  have pre1 : ∀ t, Steps p.tables e below (s₁.setTop (mkF m 1 #[.val (.ref a1), .unset, .unset, .unset, .unset] [(.ref a1)])) t → Steps p.tables e below (s₁.setTop (entryFrame m #[(.ref a1)] 5)) t := fun t kt => by
    refine pre0 t ?_
    refine XS.aloadN X0.here hx rfl (hb hby d5_0) rfl rfl ?_
    show Steps p.tables e below (s₁.setTop (mkF m 1 #[.val (.ref a1), .unset, .unset, .unset, .unset] [(.ref a1)])) _
    exact kt
  obtain ⟨T2, X2, e2, st2⟩ := getF X0 hx hZ hown (host := "") (Or.inl (hw _ (mgE 24 rfl))) Via.refl e0 F_size_a1 (g := (mkF m 1 #[.val (.ref a1), .unset, .unset, .unset, .unset] [(.ref a1)])) rfl rfl (hb hby d5_1)
  have pre3 : ∀ t, Steps p.tables e below (T2.setTop (mkF m 4 #[.val (.ref a1), .unset, .unset, .unset, .unset] [(.int (3 : Int32))])) t → Steps p.tables e below (s₁.setTop (entryFrame m #[(.ref a1)] 5)) t := fun t kt => pre1 t (st2 t kt)
  have pre4 : ∀ t, Steps p.tables e below (T2.setTop (mkF m 7 #[.val (.ref a1), .val (.int (3 : Int32)), .unset, .unset, .unset] [(.int (0 : Int32)), (.ref a1)])) t → Steps p.tables e below (s₁.setTop (entryFrame m #[(.ref a1)] 5)) t := fun t kt => by
    refine pre3 t ?_
    refine XS.istoreN X2.here hx rfl (hb hby d5_4) rfl (l' := #[.val (.ref a1), .val (.int (3 : Int32)), .unset, .unset, .unset]) rfl ?_
    show Steps p.tables e below (T2.setTop (mkF m 5 #[.val (.ref a1), .val (.int (3 : Int32)), .unset, .unset, .unset] [])) _
    refine XS.aloadN X2.here hx rfl (hb hby d5_5) rfl rfl ?_
    show Steps p.tables e below (T2.setTop (mkF m 6 #[.val (.ref a1), .val (.int (3 : Int32)), .unset, .unset, .unset] [(.ref a1)])) _
    refine XS.iconst X2.here hx rfl (hb hby d5_6) ?_
    show Steps p.tables e below (T2.setTop (mkF m 7 #[.val (.ref a1), .val (.int (3 : Int32)), .unset, .unset, .unset] [(.int (0 : Int32)), (.ref a1)])) _
    exact kt
  obtain ⟨T5, h5, X5, e5, W5, st5⟩ := putF X2 hx hZ hown (host := "") (Or.inl (hw _ (mgE 24 rfl))) Via.refl e2 F_size_a1 E_a1 (Or.inl (hw _ (mgE 25 rfl))) (hw _ (mgE 6 rfl)) (ty := .int) (by decide) rfl rfl (g := (mkF m 7 #[.val (.ref a1), .val (.int (3 : Int32)), .unset, .unset, .unset] [(.int (0 : Int32)), (.ref a1)])) rfl rfl (hb hby d5_7)
  have F7_5 := F_hits_a1.other W5 (Or.inr (slot_ne (Or.inl (hw _ (mgE 16 rfl))) (Or.inl (hw _ (mgE 25 rfl))) (by decide) (t := (.array .long)) (t' := .int) (by decide) (by decide)))
  have F8_5 := V_w_hits_a1.other W5 ne_w_hits_a1_a1
  have F9_5 := E_a1.wr W5
  have F10_5 := F_words_a1.other W5 (Or.inr (slot_ne (Or.inr (hw _ (mgE 18 rfl))) (Or.inl (hw _ (mgE 25 rfl))) (by decide) (t := .int) (t' := .int) (by decide) (by decide)))
  have Fw5 := F_size_a1.same W5
  have K5 : Keep h0 h5 [a1, w_hits_a1] := (Keep.refl h0 [a1, w_hits_a1]).wr W5 (Or.inl (mgE 0 rfl))
  have Z5 : n0 ≤ h5.size := Nat.le_trans Z0 (Keep.of_wr W5).1
  have pre11 : ∀ t, Steps p.tables e below (T5.setTop (mkF m 10 #[.val (.ref a1), .val (.int (3 : Int32)), .unset, .unset, .unset] [])) t → Steps p.tables e below (s₁.setTop (entryFrame m #[(.ref a1)] 5)) t := fun t kt => pre4 t (st5 t kt)
  have N5 := Fr.snoc X5 N0 g_a1
  have pre12 : ∀ t, Steps p.tables e below (T5.setTop (mkF m 11 #[.val (.ref a1), .val (.int (3 : Int32)), .unset, .unset, .unset] [(.ref a1)])) t → Steps p.tables e below (s₁.setTop (entryFrame m #[(.ref a1)] 5)) t := fun t kt => by
    refine pre11 t ?_
    refine XS.aloadN X5.here hx rfl (hb hby d5_10) rfl rfl ?_
    show Steps p.tables e below (T5.setTop (mkF m 11 #[.val (.ref a1), .val (.int (3 : Int32)), .unset, .unset, .unset] [(.ref a1)])) _
    exact kt
  obtain ⟨T13, X13, e13, st13⟩ := getF X5 hx hZ hown (host := "") (Or.inl (hw _ (mgE 15 rfl))) Via.refl e5 F7_5 (g := (mkF m 11 #[.val (.ref a1), .val (.int (3 : Int32)), .unset, .unset, .unset] [(.ref a1)])) rfl rfl (hb hby d5_11)
  have pre14 : ∀ t, Steps p.tables e below (T13.setTop (mkF m 14 #[.val (.ref a1), .val (.int (3 : Int32)), .unset, .unset, .unset] [(.ref w_hits_a1)])) t → Steps p.tables e below (s₁.setTop (entryFrame m #[(.ref a1)] 5)) t := fun t kt => pre12 t (st13 t kt)
  have pre15 : ∀ t, Steps p.tables e below (T13.setTop (mkF m 16 #[.val (.ref a1), .val (.int (3 : Int32)), .unset, .unset, .unset] [(.int (3 : Int32)), (.int (0 : Int32)), (.ref w_hits_a1)])) t → Steps p.tables e below (s₁.setTop (entryFrame m #[(.ref a1)] 5)) t := fun t kt => by
    refine pre14 t ?_
    refine XS.iconst X13.here hx rfl (hb hby d5_14) ?_
    show Steps p.tables e below (T13.setTop (mkF m 15 #[.val (.ref a1), .val (.int (3 : Int32)), .unset, .unset, .unset] [(.int (0 : Int32)), (.ref w_hits_a1)])) _
    refine XS.iloadN X13.here hx rfl (hb hby d5_15) rfl ?_
    show Steps p.tables e below (T13.setTop (mkF m 16 #[.val (.ref a1), .val (.int (3 : Int32)), .unset, .unset, .unset] [(.int (3 : Int32)), (.int (0 : Int32)), (.ref w_hits_a1)])) _
    exact kt
  obtain ⟨_, _, ⟨T16, L16, k16, n16⟩, -, X16, ⟨Lc16, hQ16, l16, y16, z16⟩, st16⟩ := Jvm.LawKit.callS X13 hx (y := (⟨"java/util/Arrays", "sort", "([JII)V"⟩ : MethodName)) hown (mvT hZ (hw _ (mgE 31 rfl))) (mvT hZ (hw _ (mgE 32 rfl))) (mvT hZ (hw _ (mgE 33 rfl))) (mvT hZ (hw _ (mgE 34 rfl))) (by decide) (backOf (W := 0) (rm6 l Z a0 hw [] w_hits_a1 el_w_hits_a1 h5 n0 Z5 F8_5 g_w_hits_a1) hZ (hw _ (mgE 34 rfl)) (hw _ (mgE 33 rfl)) (by decide) (by decide)) (g := (mkF m 16 #[.val (.ref a1), .val (.int (3 : Int32)), .unset, .unset, .unset] [(.int (3 : Int32)), (.int (0 : Int32)), (.ref w_hits_a1)])) rfl (by rw [hml]; rfl) (argsL := [(.ref w_hits_a1), (.int (0 : Int32)), (.int (3 : Int32))]) (rest := []) (lenOf pd___JII_V rfl) rfl (by show 2 * 0 + _ ≤ _; exact Nat.le_of_eq rfl) (hb hby d5_16) (fun _ _ => ⟨rfl, e13, (by decide : 0 + 0 ≤ _), (by decide : 0 + 0 ≤ _)⟩)
  dsimp only [Pt.U, Pt.locs, Pt.cells, Pt.slots] at X16 l16 y16 z16 st16 hQ16
  subst l16 y16 z16
  obtain ⟨rfl, N16q, K16, Q16_0⟩ := hQ16
  have F17_16 := Fw5.keep K16 (ninS (Ne.symm ne_w_hits_a1_a1) nin0)
  have F18_16 := F7_5.keep K16 (ninS (Ne.symm ne_w_hits_a1_a1) nin0)
  have F20_16 := F9_5.keep K16
  have F21_16 := F10_5.keep K16 (ninS (Ne.symm ne_w_hits_a1_a1) nin0)
  have KK16 : Keep h0 T16.heap [a1, w_hits_a1] := Keep.trans K5 K16 (allS (Or.inl (mgE 1 rfl)) all0)
  have Z16 : n0 ≤ T16.heap.size := Nat.le_trans Z5 K16.1
  have pre22 : ∀ t, Steps p.tables e below (T16.setTop (mkF m 19 #[.val (.ref a1), .val (.int (3 : Int32)), .unset, .unset, .unset] [])) t → Steps p.tables e below (s₁.setTop (entryFrame m #[(.ref a1)] 5)) t := fun t kt => pre15 t (st16 t kt)
  have N16 := Fr.app N5 N16q
  have pre23 : ∀ t, Steps p.tables e below (T16.setTop (mkF m 20 #[.val (.ref a1), .val (.int (3 : Int32)), .unset, .unset, .unset] [(.int (3 : Int32))])) t → Steps p.tables e below (s₁.setTop (entryFrame m #[(.ref a1)] 5)) t := fun t kt => by
    refine pre22 t ?_
    refine XS.iloadN X16.here hx rfl (hb hby d5_19) rfl ?_
    show Steps p.tables e below (T16.setTop (mkF m 20 #[.val (.ref a1), .val (.int (3 : Int32)), .unset, .unset, .unset] [(.int (3 : Int32))])) _
    exact kt
  obtain ⟨T24, h24, k24, X24, e24, E24, A24, st24⟩ := newP X16 hx hZ (hw _ (mgE 48 rfl)) rfl (g := (mkF m 20 #[.val (.ref a1), .val (.int (3 : Int32)), .unset, .unset, .unset] [(.int (3 : Int32))])) rfl (hb hby d5_20) rfl (by decide) (cap := 3) (by decide) (by decide) (by decide) (by decide)
  obtain ⟨b24, g24⟩ : ∃ z, z = T16.heap.size := ⟨_, rfl⟩
  rw [← g24] at A24 st24
  have ne_a1_b24 : a1 ≠ b24 := Nat.ne_of_lt (Nat.lt_of_lt_of_le F17_16.lt (Nat.le_of_eq g24.symm))
  have ne_w_hits_a1_b24 : w_hits_a1 ≠ b24 := Nat.ne_of_lt (Nat.lt_of_lt_of_le Q16_0.lt (Nat.le_of_eq g24.symm))
  have g_b24 : n0 ≤ b24 := Nat.le_trans Z16 (Nat.le_of_eq g24.symm)
  have sz_b24 : h0.size ≤ b24 := Nat.le_trans KK16.1 (Nat.le_of_eq g24.symm)
  have K24 : Keep h0 h24 [a1, w_hits_a1] := KK16.ext E24
  have Z24 : n0 ≤ h24.size := Nat.le_trans Z16 E24.1
  have F25_24 := F17_16.ext E24
  have F26_24 := F18_16.ext E24
  have F27_24 := F20_16.ext E24
  have F28_24 := F21_16.ext E24
  have F29_24 := Q16_0.ext E24
  have V_b24 : Arf Z h24 b24 .int (3 : Int32) (fun i => (.int ((fun _ => (0 : Int32)) i))) := Arf.new A24 (by decide)
  have pre30 : ∀ t, Steps p.tables e below (T24.setTop (mkF m 22 #[.val (.ref a1), .val (.int (3 : Int32)), .unset, .unset, .unset] [(.ref b24)])) t → Steps p.tables e below (s₁.setTop (entryFrame m #[(.ref a1)] 5)) t := fun t kt => pre23 t (st24 t kt)
  have pre31 : ∀ t, Steps p.tables e below (T24.setTop (mkF m 24 #[.val (.ref a1), .val (.int (3 : Int32)), .val (.ref b24), .unset, .unset] [(.int (3 : Int32))])) t → Steps p.tables e below (s₁.setTop (entryFrame m #[(.ref a1)] 5)) t := fun t kt => by
    refine pre30 t ?_
    refine XS.astoreN X24.here hx rfl (hb hby d5_22) rfl rfl (l' := #[.val (.ref a1), .val (.int (3 : Int32)), .val (.ref b24), .unset, .unset]) rfl ?_
    show Steps p.tables e below (T24.setTop (mkF m 23 #[.val (.ref a1), .val (.int (3 : Int32)), .val (.ref b24), .unset, .unset] [])) _
    refine XS.iloadN X24.here hx rfl (hb hby d5_23) rfl ?_
    show Steps p.tables e below (T24.setTop (mkF m 24 #[.val (.ref a1), .val (.int (3 : Int32)), .val (.ref b24), .unset, .unset] [(.int (3 : Int32))])) _
    exact kt
  obtain ⟨T32, h32, k32, X32, e32, E32, A32, st32⟩ := newP X24 hx hZ (hw _ (mgE 48 rfl)) e24 (g := (mkF m 24 #[.val (.ref a1), .val (.int (3 : Int32)), .val (.ref b24), .unset, .unset] [(.int (3 : Int32))])) rfl (hb hby d5_24) rfl (by decide) (cap := 3) (by decide) (by decide) (by decide) (by decide)
  obtain ⟨b32, g32⟩ : ∃ z, z = h24.size := ⟨_, rfl⟩
  rw [← g32] at A32 st32
  have ne_a1_b32 : a1 ≠ b32 := Nat.ne_of_lt (Nat.lt_of_lt_of_le F25_24.lt (Nat.le_of_eq g32.symm))
  have ne_w_hits_a1_b32 : w_hits_a1 ≠ b32 := Nat.ne_of_lt (Nat.lt_of_lt_of_le F29_24.lt (Nat.le_of_eq g32.symm))
  have ne_b24_b32 : b24 ≠ b32 := Nat.ne_of_lt (Nat.lt_of_lt_of_le V_b24.lt (Nat.le_of_eq g32.symm))
  have g_b32 : n0 ≤ b32 := Nat.le_trans Z24 (Nat.le_of_eq g32.symm)
  have sz_b32 : h0.size ≤ b32 := Nat.le_trans K24.1 (Nat.le_of_eq g32.symm)
  have K32 : Keep h0 h32 [a1, w_hits_a1] := K24.ext E32
  have Z32 : n0 ≤ h32.size := Nat.le_trans Z24 E32.1
  have F33_32 := F25_24.ext E32
  have F34_32 := F26_24.ext E32
  have F35_32 := F27_24.ext E32
  have F36_32 := F28_24.ext E32
  have F37_32 := F29_24.ext E32
  have F38_32 := V_b24.ext E32
  have V_b32 : Arf Z h32 b32 .int (3 : Int32) (fun i => (.int ((fun _ => (0 : Int32)) i))) := Arf.new A32 (by decide)
  have pre39 : ∀ t, Steps p.tables e below (T32.setTop (mkF m 26 #[.val (.ref a1), .val (.int (3 : Int32)), .val (.ref b24), .unset, .unset] [(.ref b32)])) t → Steps p.tables e below (s₁.setTop (entryFrame m #[(.ref a1)] 5)) t := fun t kt => pre31 t (st32 t kt)
  have pre40 : ∀ t, Steps p.tables e below (T32.setTop (mkF m 40 #[.val (.ref a1), .val (.int (3 : Int32)), .val (.ref b24), .val (.ref b32), .val (.int (0 : Int32))] [(.ref a1), (.int (0 : Int32)), (.ref b24)])) t → Steps p.tables e below (s₁.setTop (entryFrame m #[(.ref a1)] 5)) t := fun t kt => by
    refine pre39 t ?_
    refine XS.astoreN X32.here hx rfl (hb hby d5_26) rfl rfl (l' := #[.val (.ref a1), .val (.int (3 : Int32)), .val (.ref b24), .val (.ref b32), .unset]) rfl ?_
    show Steps p.tables e below (T32.setTop (mkF m 27 #[.val (.ref a1), .val (.int (3 : Int32)), .val (.ref b24), .val (.ref b32), .unset] [])) _
    refine XS.iconst X32.here hx rfl (hb hby d5_27) ?_
    show Steps p.tables e below (T32.setTop (mkF m 28 #[.val (.ref a1), .val (.int (3 : Int32)), .val (.ref b24), .val (.ref b32), .unset] [(.int (0 : Int32))])) _
    refine XS.istore X32.here hx rfl (hb hby d5_28) rfl (l' := #[.val (.ref a1), .val (.int (3 : Int32)), .val (.ref b24), .val (.ref b32), .val (.int (0 : Int32))]) rfl ?_
    show Steps p.tables e below (T32.setTop (mkF m 30 #[.val (.ref a1), .val (.int (3 : Int32)), .val (.ref b24), .val (.ref b32), .val (.int (0 : Int32))] [])) _
    refine XS.iload X32.here hx rfl (hb hby d5_30) rfl ?_
    show Steps p.tables e below (T32.setTop (mkF m 32 #[.val (.ref a1), .val (.int (3 : Int32)), .val (.ref b24), .val (.ref b32), .val (.int (0 : Int32))] [(.int (0 : Int32))])) _
    refine XS.iloadN X32.here hx rfl (hb hby d5_32) rfl ?_
    show Steps p.tables e below (T32.setTop (mkF m 33 #[.val (.ref a1), .val (.int (3 : Int32)), .val (.ref b24), .val (.ref b32), .val (.int (0 : Int32))] [(.int (3 : Int32)), (.int (0 : Int32))])) _
    refine XS.icmpNo X32.here hx rfl (hb hby d5_33) rfl (tlt (by decide : (0 : Int32) < (3 : Int32))).2.1 ?_
    show Steps p.tables e below (T32.setTop (mkF m 36 #[.val (.ref a1), .val (.int (3 : Int32)), .val (.ref b24), .val (.ref b32), .val (.int (0 : Int32))] [])) _
    refine XS.aloadN X32.here hx rfl (hb hby d5_36) rfl rfl ?_
    show Steps p.tables e below (T32.setTop (mkF m 37 #[.val (.ref a1), .val (.int (3 : Int32)), .val (.ref b24), .val (.ref b32), .val (.int (0 : Int32))] [(.ref b24)])) _
    refine XS.iload X32.here hx rfl (hb hby d5_37) rfl ?_
    show Steps p.tables e below (T32.setTop (mkF m 39 #[.val (.ref a1), .val (.int (3 : Int32)), .val (.ref b24), .val (.ref b32), .val (.int (0 : Int32))] [(.int (0 : Int32)), (.ref b24)])) _
    refine XS.aloadN X32.here hx rfl (hb hby d5_39) rfl rfl ?_
    show Steps p.tables e below (T32.setTop (mkF m 40 #[.val (.ref a1), .val (.int (3 : Int32)), .val (.ref b24), .val (.ref b32), .val (.int (0 : Int32))] [(.ref a1), (.int (0 : Int32)), (.ref b24)])) _
    exact kt
  obtain ⟨T41, X41, e41, st41⟩ := getF X32 hx hZ hown (host := "") (Or.inl (hw _ (mgE 15 rfl))) Via.refl e32 F34_32 (g := (mkF m 40 #[.val (.ref a1), .val (.int (3 : Int32)), .val (.ref b24), .val (.ref b32), .val (.int (0 : Int32))] [(.ref a1), (.int (0 : Int32)), (.ref b24)])) rfl rfl (hb hby d5_40)
  have pre42 : ∀ t, Steps p.tables e below (T41.setTop (mkF m 43 #[.val (.ref a1), .val (.int (3 : Int32)), .val (.ref b24), .val (.ref b32), .val (.int (0 : Int32))] [(.ref w_hits_a1), (.int (0 : Int32)), (.ref b24)])) t → Steps p.tables e below (s₁.setTop (entryFrame m #[(.ref a1)] 5)) t := fun t kt => pre40 t (st41 t kt)
  have pre43 : ∀ t, Steps p.tables e below (T41.setTop (mkF m 45 #[.val (.ref a1), .val (.int (3 : Int32)), .val (.ref b24), .val (.ref b32), .val (.int (0 : Int32))] [(.int (0 : Int32)), (.ref w_hits_a1), (.int (0 : Int32)), (.ref b24)])) t → Steps p.tables e below (s₁.setTop (entryFrame m #[(.ref a1)] 5)) t := fun t kt => by
    refine pre42 t ?_
    refine XS.iload X41.here hx rfl (hb hby d5_43) rfl ?_
    show Steps p.tables e below (T41.setTop (mkF m 45 #[.val (.ref a1), .val (.int (3 : Int32)), .val (.ref b24), .val (.ref b32), .val (.int (0 : Int32))] [(.int (0 : Int32)), (.ref w_hits_a1), (.int (0 : Int32)), (.ref b24)])) _
    exact kt
  obtain ⟨cl44, Ar44, S44, Ng44, H44⟩ := id F37_32
  have hj44 : ¬ (0 : Int32) < 0 ∧ (0 : Int32) < (16 : Int32) := ⟨by decide, by decide⟩
  have hin44 := inb_of S44 hj44
  have lt44 : ((0 : Int32)).toNatClampNeg < ((16 : Int32)).toNatClampNeg := by rw [← S44]; exact Nat.lt_of_not_le fun q => hin44 (Or.inr q)
  have hv44 : ((.long ((srt el_w_hits_a1) ((0 : Int32)).toNatClampNeg)) : Value) = (.long ((srt el_w_hits_a1) ((0 : Int32)).toNatClampNeg)) := rfl
  have pre45 : ∀ t, Steps p.tables e below (T41.setTop (mkF m 50 #[.val (.ref a1), .val (.int (3 : Int32)), .val (.ref b24), .val (.ref b32), .val (.int (0 : Int32))] [(.int (((((srt el_w_hits_a1) ((0 : Int32)).toNatClampNeg).toUInt64 >>> ((32 : Int32) &&& 0x3f).toInt64.toUInt64).toInt64).toInt32)), (.int (0 : Int32)), (.ref b24)])) t → Steps p.tables e below (s₁.setTop (entryFrame m #[(.ref a1)] 5)) t := fun t kt => by
    refine pre43 t ?_
    refine X41.laload hx (j := (0 : Int32)) (v := (.long ((srt el_w_hits_a1) ((0 : Int32)).toNatClampNeg))) (by rw [e41]; exact Ar44.1) (State.isArrayOf_alike hZ.alike Ar44.2.1) Ar44.2.2 hin44 ((H44 _ lt44).trans (congrArg some hv44)) (g := (mkF m 45 #[.val (.ref a1), .val (.int (3 : Int32)), .val (.ref b24), .val (.ref b32), .val (.int (0 : Int32))] [(.int (0 : Int32)), (.ref w_hits_a1), (.int (0 : Int32)), (.ref b24)])) rfl rfl (hb hby d5_45) _ ?_
    show Steps p.tables e below (T41.setTop (mkF m 46 #[.val (.ref a1), .val (.int (3 : Int32)), .val (.ref b24), .val (.ref b32), .val (.int (0 : Int32))] [(.long ((srt el_w_hits_a1) ((0 : Int32)).toNatClampNeg)), (.int (0 : Int32)), (.ref b24)])) _
    refine XS.bipush X41.here hx rfl (hb hby d5_46) ?_
    show Steps p.tables e below (T41.setTop (mkF m 48 #[.val (.ref a1), .val (.int (3 : Int32)), .val (.ref b24), .val (.ref b32), .val (.int (0 : Int32))] [(.int (32 : Int32)), (.long ((srt el_w_hits_a1) ((0 : Int32)).toNatClampNeg)), (.int (0 : Int32)), (.ref b24)])) _
    refine XS.lushr X41.here hx rfl (hb hby d5_48) rfl ?_
    show Steps p.tables e below (T41.setTop (mkF m 49 #[.val (.ref a1), .val (.int (3 : Int32)), .val (.ref b24), .val (.ref b32), .val (.int (0 : Int32))] [(.long ((((srt el_w_hits_a1) ((0 : Int32)).toNatClampNeg).toUInt64 >>> ((32 : Int32) &&& 0x3f).toInt64.toUInt64).toInt64)), (.int (0 : Int32)), (.ref b24)])) _
    refine XS.l2i X41.here hx rfl (hb hby d5_49) rfl ?_
    show Steps p.tables e below (T41.setTop (mkF m 50 #[.val (.ref a1), .val (.int (3 : Int32)), .val (.ref b24), .val (.ref b32), .val (.int (0 : Int32))] [(.int (((((srt el_w_hits_a1) ((0 : Int32)).toNatClampNeg).toUInt64 >>> ((32 : Int32) &&& 0x3f).toInt64.toUInt64).toInt64).toInt32)), (.int (0 : Int32)), (.ref b24)])) _
    exact kt
  obtain ⟨cl46, Ar46, S46, Ng46, H46⟩ := id F38_32
  have hj46 : ¬ (0 : Int32) < 0 ∧ (0 : Int32) < (3 : Int32) := ⟨by decide, by decide⟩
  have hin46 := inb_of S46 hj46
  obtain ⟨T47, h47, X47, e47, W47, st47⟩ := stI X41 hx hZ e41 Ar46 (j := (0 : Int32)) hin46 (g := (mkF m 50 #[.val (.ref a1), .val (.int (3 : Int32)), .val (.ref b24), .val (.ref b32), .val (.int (0 : Int32))] [(.int (((((srt el_w_hits_a1) ((0 : Int32)).toNatClampNeg).toUInt64 >>> ((32 : Int32) &&& 0x3f).toInt64.toUInt64).toInt64).toInt32)), (.int (0 : Int32)), (.ref b24)])) rfl rfl (hb hby d5_50)
  have F48_47 := F33_32.other W47 (Or.inl ne_a1_b24)
  have F49_47 := F34_32.other W47 (Or.inl ne_a1_b24)
  have F50_47 := F35_32.wr W47
  have F51_47 := F36_32.other W47 (Or.inl ne_a1_b24)
  have F52_47 := F37_32.other W47 ne_w_hits_a1_b24
  have F54_47 := V_b32.other W47 (Ne.symm ne_b24_b32)
  have V47_b24 : Arf Z h47 b24 .int (3 : Int32) (fun i => (.int ((own_upd (fun _ => (0 : Int32)) ((0 : Int32)).toNatClampNeg (((((srt el_w_hits_a1) ((0 : Int32)).toNatClampNeg).toUInt64 >>> ((32 : Int32) &&& 0x3f).toInt64.toUInt64).toInt64).toInt32)) i))) := upd_int _ _ _ ▸ (F38_32.set W47)
  have K47 : Keep h0 h47 [a1, w_hits_a1] := K32.wr W47 (Or.inr sz_b24)
  have Z47 : n0 ≤ h47.size := Nat.le_trans Z32 (Keep.of_wr W47).1
  have pre55 : ∀ t, Steps p.tables e below (T47.setTop (mkF m 51 #[.val (.ref a1), .val (.int (3 : Int32)), .val (.ref b24), .val (.ref b32), .val (.int (0 : Int32))] [])) t → Steps p.tables e below (s₁.setTop (entryFrame m #[(.ref a1)] 5)) t := fun t kt => pre45 t (st47 t kt)
  have N47 := Fr.snoc X47 N16 g_b24
  have pre56 : ∀ t, Steps p.tables e below (T47.setTop (mkF m 55 #[.val (.ref a1), .val (.int (3 : Int32)), .val (.ref b24), .val (.ref b32), .val (.int (0 : Int32))] [(.ref a1), (.int (0 : Int32)), (.ref b32)])) t → Steps p.tables e below (s₁.setTop (entryFrame m #[(.ref a1)] 5)) t := fun t kt => by
    refine pre55 t ?_
    refine XS.aloadN X47.here hx rfl (hb hby d5_51) rfl rfl ?_
    show Steps p.tables e below (T47.setTop (mkF m 52 #[.val (.ref a1), .val (.int (3 : Int32)), .val (.ref b24), .val (.ref b32), .val (.int (0 : Int32))] [(.ref b32)])) _
    refine XS.iload X47.here hx rfl (hb hby d5_52) rfl ?_
    show Steps p.tables e below (T47.setTop (mkF m 54 #[.val (.ref a1), .val (.int (3 : Int32)), .val (.ref b24), .val (.ref b32), .val (.int (0 : Int32))] [(.int (0 : Int32)), (.ref b32)])) _
    refine XS.aloadN X47.here hx rfl (hb hby d5_54) rfl rfl ?_
    show Steps p.tables e below (T47.setTop (mkF m 55 #[.val (.ref a1), .val (.int (3 : Int32)), .val (.ref b24), .val (.ref b32), .val (.int (0 : Int32))] [(.ref a1), (.int (0 : Int32)), (.ref b32)])) _
    exact kt
  obtain ⟨T57, X57, e57, st57⟩ := getF X47 hx hZ hown (host := "") (Or.inl (hw _ (mgE 15 rfl))) Via.refl e47 F49_47 (g := (mkF m 55 #[.val (.ref a1), .val (.int (3 : Int32)), .val (.ref b24), .val (.ref b32), .val (.int (0 : Int32))] [(.ref a1), (.int (0 : Int32)), (.ref b32)])) rfl rfl (hb hby d5_55)
  have pre58 : ∀ t, Steps p.tables e below (T57.setTop (mkF m 58 #[.val (.ref a1), .val (.int (3 : Int32)), .val (.ref b24), .val (.ref b32), .val (.int (0 : Int32))] [(.ref w_hits_a1), (.int (0 : Int32)), (.ref b32)])) t → Steps p.tables e below (s₁.setTop (entryFrame m #[(.ref a1)] 5)) t := fun t kt => pre56 t (st57 t kt)
  have pre59 : ∀ t, Steps p.tables e below (T57.setTop (mkF m 60 #[.val (.ref a1), .val (.int (3 : Int32)), .val (.ref b24), .val (.ref b32), .val (.int (0 : Int32))] [(.int (0 : Int32)), (.ref w_hits_a1), (.int (0 : Int32)), (.ref b32)])) t → Steps p.tables e below (s₁.setTop (entryFrame m #[(.ref a1)] 5)) t := fun t kt => by
    refine pre58 t ?_
    refine XS.iload X57.here hx rfl (hb hby d5_58) rfl ?_
    show Steps p.tables e below (T57.setTop (mkF m 60 #[.val (.ref a1), .val (.int (3 : Int32)), .val (.ref b24), .val (.ref b32), .val (.int (0 : Int32))] [(.int (0 : Int32)), (.ref w_hits_a1), (.int (0 : Int32)), (.ref b32)])) _
    exact kt
  obtain ⟨cl60, Ar60, S60, Ng60, H60⟩ := id F52_47
  have hj60 : ¬ (0 : Int32) < 0 ∧ (0 : Int32) < (16 : Int32) := ⟨by decide, by decide⟩
  have hin60 := inb_of S60 hj60
  have lt60 : ((0 : Int32)).toNatClampNeg < ((16 : Int32)).toNatClampNeg := by rw [← S60]; exact Nat.lt_of_not_le fun q => hin60 (Or.inr q)
  have hv60 : ((.long ((srt el_w_hits_a1) ((0 : Int32)).toNatClampNeg)) : Value) = (.long ((srt el_w_hits_a1) ((0 : Int32)).toNatClampNeg)) := rfl
  have pre61 : ∀ t, Steps p.tables e below (T57.setTop (mkF m 62 #[.val (.ref a1), .val (.int (3 : Int32)), .val (.ref b24), .val (.ref b32), .val (.int (0 : Int32))] [(.int (((srt el_w_hits_a1) ((0 : Int32)).toNatClampNeg).toInt32)), (.int (0 : Int32)), (.ref b32)])) t → Steps p.tables e below (s₁.setTop (entryFrame m #[(.ref a1)] 5)) t := fun t kt => by
    refine pre59 t ?_
    refine X57.laload hx (j := (0 : Int32)) (v := (.long ((srt el_w_hits_a1) ((0 : Int32)).toNatClampNeg))) (by rw [e57]; exact Ar60.1) (State.isArrayOf_alike hZ.alike Ar60.2.1) Ar60.2.2 hin60 ((H60 _ lt60).trans (congrArg some hv60)) (g := (mkF m 60 #[.val (.ref a1), .val (.int (3 : Int32)), .val (.ref b24), .val (.ref b32), .val (.int (0 : Int32))] [(.int (0 : Int32)), (.ref w_hits_a1), (.int (0 : Int32)), (.ref b32)])) rfl rfl (hb hby d5_60) _ ?_
    show Steps p.tables e below (T57.setTop (mkF m 61 #[.val (.ref a1), .val (.int (3 : Int32)), .val (.ref b24), .val (.ref b32), .val (.int (0 : Int32))] [(.long ((srt el_w_hits_a1) ((0 : Int32)).toNatClampNeg)), (.int (0 : Int32)), (.ref b32)])) _
    refine XS.l2i X57.here hx rfl (hb hby d5_61) rfl ?_
    show Steps p.tables e below (T57.setTop (mkF m 62 #[.val (.ref a1), .val (.int (3 : Int32)), .val (.ref b24), .val (.ref b32), .val (.int (0 : Int32))] [(.int (((srt el_w_hits_a1) ((0 : Int32)).toNatClampNeg).toInt32)), (.int (0 : Int32)), (.ref b32)])) _
    exact kt
  obtain ⟨cl62, Ar62, S62, Ng62, H62⟩ := id F54_47
  have hj62 : ¬ (0 : Int32) < 0 ∧ (0 : Int32) < (3 : Int32) := ⟨by decide, by decide⟩
  have hin62 := inb_of S62 hj62
  obtain ⟨T63, h63, X63, e63, W63, st63⟩ := stI X57 hx hZ e57 Ar62 (j := (0 : Int32)) hin62 (g := (mkF m 62 #[.val (.ref a1), .val (.int (3 : Int32)), .val (.ref b24), .val (.ref b32), .val (.int (0 : Int32))] [(.int (((srt el_w_hits_a1) ((0 : Int32)).toNatClampNeg).toInt32)), (.int (0 : Int32)), (.ref b32)])) rfl rfl (hb hby d5_62)
  have F64_63 := F48_47.other W63 (Or.inl ne_a1_b32)
  have F65_63 := F49_47.other W63 (Or.inl ne_a1_b32)
  have F66_63 := F50_47.wr W63
  have F67_63 := F51_47.other W63 (Or.inl ne_a1_b32)
  have F68_63 := F52_47.other W63 ne_w_hits_a1_b32
  have F69_63 := V47_b24.other W63 ne_b24_b32
  have V63_b32 : Arf Z h63 b32 .int (3 : Int32) (fun i => (.int ((own_upd (fun _ => (0 : Int32)) ((0 : Int32)).toNatClampNeg (((srt el_w_hits_a1) ((0 : Int32)).toNatClampNeg).toInt32)) i))) := upd_int _ _ _ ▸ (F54_47.set W63)
  have K63 : Keep h0 h63 [a1, w_hits_a1] := K47.wr W63 (Or.inr sz_b32)
  have Z63 : n0 ≤ h63.size := Nat.le_trans Z47 (Keep.of_wr W63).1
  have pre71 : ∀ t, Steps p.tables e below (T63.setTop (mkF m 63 #[.val (.ref a1), .val (.int (3 : Int32)), .val (.ref b24), .val (.ref b32), .val (.int (0 : Int32))] [])) t → Steps p.tables e below (s₁.setTop (entryFrame m #[(.ref a1)] 5)) t := fun t kt => pre61 t (st63 t kt)
  have N63 := Fr.snoc X63 N47 g_b32
  have pre72 : ∀ t, Steps p.tables e below (T63.setTop (mkF m 66 #[.val (.ref a1), .val (.int (3 : Int32)), .val (.ref b24), .val (.ref b32), .val (.int (0 : Int32))] [(.int (0 : Int32)), (.ref b24)])) t → Steps p.tables e below (s₁.setTop (entryFrame m #[(.ref a1)] 5)) t := fun t kt => by
    refine pre71 t ?_
    refine XS.aloadN X63.here hx rfl (hb hby d5_63) rfl rfl ?_
    show Steps p.tables e below (T63.setTop (mkF m 64 #[.val (.ref a1), .val (.int (3 : Int32)), .val (.ref b24), .val (.ref b32), .val (.int (0 : Int32))] [(.ref b24)])) _
    refine XS.iload X63.here hx rfl (hb hby d5_64) rfl ?_
    show Steps p.tables e below (T63.setTop (mkF m 66 #[.val (.ref a1), .val (.int (3 : Int32)), .val (.ref b24), .val (.ref b32), .val (.int (0 : Int32))] [(.int (0 : Int32)), (.ref b24)])) _
    exact kt
  obtain ⟨cl73, Ar73, S73, Ng73, H73⟩ := id F69_63
  have hj73 : ¬ (0 : Int32) < 0 ∧ (0 : Int32) < (3 : Int32) := ⟨by decide, by decide⟩
  have hin73 := inb_of S73 hj73
  have lt73 : ((0 : Int32)).toNatClampNeg < ((3 : Int32)).toNatClampNeg := by rw [← S73]; exact Nat.lt_of_not_le fun q => hin73 (Or.inr q)
  have hv73 : ((.int ((own_upd (fun _ => (0 : Int32)) ((0 : Int32)).toNatClampNeg (((((srt el_w_hits_a1) ((0 : Int32)).toNatClampNeg).toUInt64 >>> ((32 : Int32) &&& 0x3f).toInt64.toUInt64).toInt64).toInt32)) ((0 : Int32)).toNatClampNeg)) : Value) = (.int (((((srt el_w_hits_a1) ((0 : Int32)).toNatClampNeg).toUInt64 >>> ((32 : Int32) &&& 0x3f).toInt64.toUInt64).toInt64).toInt32)) := rfl
  have hc68 : ¬ ((((((srt el_w_hits_a1) ((0 : Int32)).toNatClampNeg).toUInt64 >>> ((32 : Int32) &&& 0x3f).toInt64.toUInt64).toInt64).toInt32) < (1 : Int32)) := hp0
  have pre74 : ∀ t, Steps p.tables e below (T63.setTop (mkF m 40 #[.val (.ref a1), .val (.int (3 : Int32)), .val (.ref b24), .val (.ref b32), .val (.int (1 : Int32))] [(.ref a1), (.int (1 : Int32)), (.ref b24)])) t → Steps p.tables e below (s₁.setTop (entryFrame m #[(.ref a1)] 5)) t := fun t kt => by
    refine pre72 t ?_
    refine X63.iaload hx (j := (0 : Int32)) (v := (.int (((((srt el_w_hits_a1) ((0 : Int32)).toNatClampNeg).toUInt64 >>> ((32 : Int32) &&& 0x3f).toInt64.toUInt64).toInt64).toInt32))) (by rw [e63]; exact Ar73.1) (State.isArrayOf_alike hZ.alike Ar73.2.1) Ar73.2.2 hin73 ((H73 _ lt73).trans (congrArg some hv73)) (g := (mkF m 66 #[.val (.ref a1), .val (.int (3 : Int32)), .val (.ref b24), .val (.ref b32), .val (.int (0 : Int32))] [(.int (0 : Int32)), (.ref b24)])) rfl rfl (hb hby d5_66) _ ?_
    show Steps p.tables e below (T63.setTop (mkF m 67 #[.val (.ref a1), .val (.int (3 : Int32)), .val (.ref b24), .val (.ref b32), .val (.int (0 : Int32))] [(.int (((((srt el_w_hits_a1) ((0 : Int32)).toNatClampNeg).toUInt64 >>> ((32 : Int32) &&& 0x3f).toInt64.toUInt64).toInt64).toInt32))])) _
    refine XS.iconst X63.here hx rfl (hb hby d5_67) ?_
    show Steps p.tables e below (T63.setTop (mkF m 68 #[.val (.ref a1), .val (.int (3 : Int32)), .val (.ref b24), .val (.ref b32), .val (.int (0 : Int32))] [(.int (1 : Int32)), (.int (((((srt el_w_hits_a1) ((0 : Int32)).toNatClampNeg).toUInt64 >>> ((32 : Int32) &&& 0x3f).toInt64.toUInt64).toInt64).toInt32))])) _
    refine XS.icmpYes X63.here hx rfl (pc0 := 68) (pc' := 88) rfl (hb hby d5_68) rfl (flt hc68).2.1 (by decide) (by decide) ?_
    show Steps p.tables e below (T63.setTop (mkF m 88 #[.val (.ref a1), .val (.int (3 : Int32)), .val (.ref b24), .val (.ref b32), .val (.int (0 : Int32))] [])) _
    refine XS.iload X63.here hx rfl (hb hby d5_88) rfl ?_
    show Steps p.tables e below (T63.setTop (mkF m 90 #[.val (.ref a1), .val (.int (3 : Int32)), .val (.ref b24), .val (.ref b32), .val (.int (0 : Int32))] [(.int (0 : Int32))])) _
    refine XS.ifYes X63.here hx rfl (pc0 := 90) (pc' := 123) rfl (hb hby d5_90) rfl ((if0 _ _).trans (flt (by decide : ¬ ((0 : Int32) < (0 : Int32)))).2.2.2) (by decide) (by decide) ?_
    show Steps p.tables e below (T63.setTop (mkF m 123 #[.val (.ref a1), .val (.int (3 : Int32)), .val (.ref b24), .val (.ref b32), .val (.int (0 : Int32))] [])) _
    refine XS.iinc X63.here hx rfl (hb hby d5_123) rfl (l' := #[.val (.ref a1), .val (.int (3 : Int32)), .val (.ref b24), .val (.ref b32), .val (.int (1 : Int32))]) rfl ?_
    show Steps p.tables e below (T63.setTop (mkF m 126 #[.val (.ref a1), .val (.int (3 : Int32)), .val (.ref b24), .val (.ref b32), .val (.int (1 : Int32))] [])) _
    refine XS.goto X63.here hx rfl (pc0 := 126) (pc' := 30) rfl (hb hby d5_126) (by decide) (by decide) ?_
    show Steps p.tables e below (T63.setTop (mkF m 30 #[.val (.ref a1), .val (.int (3 : Int32)), .val (.ref b24), .val (.ref b32), .val (.int (1 : Int32))] [])) _
    refine XS.iload X63.here hx rfl (hb hby d5_30) rfl ?_
    show Steps p.tables e below (T63.setTop (mkF m 32 #[.val (.ref a1), .val (.int (3 : Int32)), .val (.ref b24), .val (.ref b32), .val (.int (1 : Int32))] [(.int (1 : Int32))])) _
    refine XS.iloadN X63.here hx rfl (hb hby d5_32) rfl ?_
    show Steps p.tables e below (T63.setTop (mkF m 33 #[.val (.ref a1), .val (.int (3 : Int32)), .val (.ref b24), .val (.ref b32), .val (.int (1 : Int32))] [(.int (3 : Int32)), (.int (1 : Int32))])) _
    refine XS.icmpNo X63.here hx rfl (hb hby d5_33) rfl (tlt (by decide : (1 : Int32) < (3 : Int32))).2.1 ?_
    show Steps p.tables e below (T63.setTop (mkF m 36 #[.val (.ref a1), .val (.int (3 : Int32)), .val (.ref b24), .val (.ref b32), .val (.int (1 : Int32))] [])) _
    refine XS.aloadN X63.here hx rfl (hb hby d5_36) rfl rfl ?_
    show Steps p.tables e below (T63.setTop (mkF m 37 #[.val (.ref a1), .val (.int (3 : Int32)), .val (.ref b24), .val (.ref b32), .val (.int (1 : Int32))] [(.ref b24)])) _
    refine XS.iload X63.here hx rfl (hb hby d5_37) rfl ?_
    show Steps p.tables e below (T63.setTop (mkF m 39 #[.val (.ref a1), .val (.int (3 : Int32)), .val (.ref b24), .val (.ref b32), .val (.int (1 : Int32))] [(.int (1 : Int32)), (.ref b24)])) _
    refine XS.aloadN X63.here hx rfl (hb hby d5_39) rfl rfl ?_
    show Steps p.tables e below (T63.setTop (mkF m 40 #[.val (.ref a1), .val (.int (3 : Int32)), .val (.ref b24), .val (.ref b32), .val (.int (1 : Int32))] [(.ref a1), (.int (1 : Int32)), (.ref b24)])) _
    exact kt
  obtain ⟨T75, X75, e75, st75⟩ := getF X63 hx hZ hown (host := "") (Or.inl (hw _ (mgE 15 rfl))) Via.refl e63 F65_63 (g := (mkF m 40 #[.val (.ref a1), .val (.int (3 : Int32)), .val (.ref b24), .val (.ref b32), .val (.int (1 : Int32))] [(.ref a1), (.int (1 : Int32)), (.ref b24)])) rfl rfl (hb hby d5_40)
  have pre76 : ∀ t, Steps p.tables e below (T75.setTop (mkF m 43 #[.val (.ref a1), .val (.int (3 : Int32)), .val (.ref b24), .val (.ref b32), .val (.int (1 : Int32))] [(.ref w_hits_a1), (.int (1 : Int32)), (.ref b24)])) t → Steps p.tables e below (s₁.setTop (entryFrame m #[(.ref a1)] 5)) t := fun t kt => pre74 t (st75 t kt)
  have pre77 : ∀ t, Steps p.tables e below (T75.setTop (mkF m 45 #[.val (.ref a1), .val (.int (3 : Int32)), .val (.ref b24), .val (.ref b32), .val (.int (1 : Int32))] [(.int (1 : Int32)), (.ref w_hits_a1), (.int (1 : Int32)), (.ref b24)])) t → Steps p.tables e below (s₁.setTop (entryFrame m #[(.ref a1)] 5)) t := fun t kt => by
    refine pre76 t ?_
    refine XS.iload X75.here hx rfl (hb hby d5_43) rfl ?_
    show Steps p.tables e below (T75.setTop (mkF m 45 #[.val (.ref a1), .val (.int (3 : Int32)), .val (.ref b24), .val (.ref b32), .val (.int (1 : Int32))] [(.int (1 : Int32)), (.ref w_hits_a1), (.int (1 : Int32)), (.ref b24)])) _
    exact kt
  obtain ⟨cl78, Ar78, S78, Ng78, H78⟩ := id F68_63
  have hj78 : ¬ (1 : Int32) < 0 ∧ (1 : Int32) < (16 : Int32) := ⟨by decide, by decide⟩
  have hin78 := inb_of S78 hj78
  have lt78 : ((1 : Int32)).toNatClampNeg < ((16 : Int32)).toNatClampNeg := by rw [← S78]; exact Nat.lt_of_not_le fun q => hin78 (Or.inr q)
  have hv78 : ((.long ((srt el_w_hits_a1) ((1 : Int32)).toNatClampNeg)) : Value) = (.long ((srt el_w_hits_a1) ((1 : Int32)).toNatClampNeg)) := rfl
  have pre79 : ∀ t, Steps p.tables e below (T75.setTop (mkF m 50 #[.val (.ref a1), .val (.int (3 : Int32)), .val (.ref b24), .val (.ref b32), .val (.int (1 : Int32))] [(.int (((((srt el_w_hits_a1) ((1 : Int32)).toNatClampNeg).toUInt64 >>> ((32 : Int32) &&& 0x3f).toInt64.toUInt64).toInt64).toInt32)), (.int (1 : Int32)), (.ref b24)])) t → Steps p.tables e below (s₁.setTop (entryFrame m #[(.ref a1)] 5)) t := fun t kt => by
    refine pre77 t ?_
    refine X75.laload hx (j := (1 : Int32)) (v := (.long ((srt el_w_hits_a1) ((1 : Int32)).toNatClampNeg))) (by rw [e75]; exact Ar78.1) (State.isArrayOf_alike hZ.alike Ar78.2.1) Ar78.2.2 hin78 ((H78 _ lt78).trans (congrArg some hv78)) (g := (mkF m 45 #[.val (.ref a1), .val (.int (3 : Int32)), .val (.ref b24), .val (.ref b32), .val (.int (1 : Int32))] [(.int (1 : Int32)), (.ref w_hits_a1), (.int (1 : Int32)), (.ref b24)])) rfl rfl (hb hby d5_45) _ ?_
    show Steps p.tables e below (T75.setTop (mkF m 46 #[.val (.ref a1), .val (.int (3 : Int32)), .val (.ref b24), .val (.ref b32), .val (.int (1 : Int32))] [(.long ((srt el_w_hits_a1) ((1 : Int32)).toNatClampNeg)), (.int (1 : Int32)), (.ref b24)])) _
    refine XS.bipush X75.here hx rfl (hb hby d5_46) ?_
    show Steps p.tables e below (T75.setTop (mkF m 48 #[.val (.ref a1), .val (.int (3 : Int32)), .val (.ref b24), .val (.ref b32), .val (.int (1 : Int32))] [(.int (32 : Int32)), (.long ((srt el_w_hits_a1) ((1 : Int32)).toNatClampNeg)), (.int (1 : Int32)), (.ref b24)])) _
    refine XS.lushr X75.here hx rfl (hb hby d5_48) rfl ?_
    show Steps p.tables e below (T75.setTop (mkF m 49 #[.val (.ref a1), .val (.int (3 : Int32)), .val (.ref b24), .val (.ref b32), .val (.int (1 : Int32))] [(.long ((((srt el_w_hits_a1) ((1 : Int32)).toNatClampNeg).toUInt64 >>> ((32 : Int32) &&& 0x3f).toInt64.toUInt64).toInt64)), (.int (1 : Int32)), (.ref b24)])) _
    refine XS.l2i X75.here hx rfl (hb hby d5_49) rfl ?_
    show Steps p.tables e below (T75.setTop (mkF m 50 #[.val (.ref a1), .val (.int (3 : Int32)), .val (.ref b24), .val (.ref b32), .val (.int (1 : Int32))] [(.int (((((srt el_w_hits_a1) ((1 : Int32)).toNatClampNeg).toUInt64 >>> ((32 : Int32) &&& 0x3f).toInt64.toUInt64).toInt64).toInt32)), (.int (1 : Int32)), (.ref b24)])) _
    exact kt
  obtain ⟨cl80, Ar80, S80, Ng80, H80⟩ := id F69_63
  have hj80 : ¬ (1 : Int32) < 0 ∧ (1 : Int32) < (3 : Int32) := ⟨by decide, by decide⟩
  have hin80 := inb_of S80 hj80
  obtain ⟨T81, h81, X81, e81, W81, st81⟩ := stI X75 hx hZ e75 Ar80 (j := (1 : Int32)) hin80 (g := (mkF m 50 #[.val (.ref a1), .val (.int (3 : Int32)), .val (.ref b24), .val (.ref b32), .val (.int (1 : Int32))] [(.int (((((srt el_w_hits_a1) ((1 : Int32)).toNatClampNeg).toUInt64 >>> ((32 : Int32) &&& 0x3f).toInt64.toUInt64).toInt64).toInt32)), (.int (1 : Int32)), (.ref b24)])) rfl rfl (hb hby d5_50)
  have F82_81 := F64_63.other W81 (Or.inl ne_a1_b24)
  have F83_81 := F65_63.other W81 (Or.inl ne_a1_b24)
  have F84_81 := F66_63.wr W81
  have F85_81 := F67_63.other W81 (Or.inl ne_a1_b24)
  have F86_81 := F68_63.other W81 ne_w_hits_a1_b24
  have F88_81 := V63_b32.other W81 (Ne.symm ne_b24_b32)
  have V81_b24 : Arf Z h81 b24 .int (3 : Int32) (fun i => (.int ((own_upd (own_upd (fun _ => (0 : Int32)) ((0 : Int32)).toNatClampNeg (((((srt el_w_hits_a1) ((0 : Int32)).toNatClampNeg).toUInt64 >>> ((32 : Int32) &&& 0x3f).toInt64.toUInt64).toInt64).toInt32)) ((1 : Int32)).toNatClampNeg (((((srt el_w_hits_a1) ((1 : Int32)).toNatClampNeg).toUInt64 >>> ((32 : Int32) &&& 0x3f).toInt64.toUInt64).toInt64).toInt32)) i))) := upd_int _ _ _ ▸ (F69_63.set W81)
  have K81 : Keep h0 h81 [a1, w_hits_a1] := K63.wr W81 (Or.inr sz_b24)
  have Z81 : n0 ≤ h81.size := Nat.le_trans Z63 (Keep.of_wr W81).1
  have pre89 : ∀ t, Steps p.tables e below (T81.setTop (mkF m 51 #[.val (.ref a1), .val (.int (3 : Int32)), .val (.ref b24), .val (.ref b32), .val (.int (1 : Int32))] [])) t → Steps p.tables e below (s₁.setTop (entryFrame m #[(.ref a1)] 5)) t := fun t kt => pre79 t (st81 t kt)
  have N81 := Fr.snoc X81 N63 g_b24
  have pre90 : ∀ t, Steps p.tables e below (T81.setTop (mkF m 55 #[.val (.ref a1), .val (.int (3 : Int32)), .val (.ref b24), .val (.ref b32), .val (.int (1 : Int32))] [(.ref a1), (.int (1 : Int32)), (.ref b32)])) t → Steps p.tables e below (s₁.setTop (entryFrame m #[(.ref a1)] 5)) t := fun t kt => by
    refine pre89 t ?_
    refine XS.aloadN X81.here hx rfl (hb hby d5_51) rfl rfl ?_
    show Steps p.tables e below (T81.setTop (mkF m 52 #[.val (.ref a1), .val (.int (3 : Int32)), .val (.ref b24), .val (.ref b32), .val (.int (1 : Int32))] [(.ref b32)])) _
    refine XS.iload X81.here hx rfl (hb hby d5_52) rfl ?_
    show Steps p.tables e below (T81.setTop (mkF m 54 #[.val (.ref a1), .val (.int (3 : Int32)), .val (.ref b24), .val (.ref b32), .val (.int (1 : Int32))] [(.int (1 : Int32)), (.ref b32)])) _
    refine XS.aloadN X81.here hx rfl (hb hby d5_54) rfl rfl ?_
    show Steps p.tables e below (T81.setTop (mkF m 55 #[.val (.ref a1), .val (.int (3 : Int32)), .val (.ref b24), .val (.ref b32), .val (.int (1 : Int32))] [(.ref a1), (.int (1 : Int32)), (.ref b32)])) _
    exact kt
  obtain ⟨T91, X91, e91, st91⟩ := getF X81 hx hZ hown (host := "") (Or.inl (hw _ (mgE 15 rfl))) Via.refl e81 F83_81 (g := (mkF m 55 #[.val (.ref a1), .val (.int (3 : Int32)), .val (.ref b24), .val (.ref b32), .val (.int (1 : Int32))] [(.ref a1), (.int (1 : Int32)), (.ref b32)])) rfl rfl (hb hby d5_55)
  have pre92 : ∀ t, Steps p.tables e below (T91.setTop (mkF m 58 #[.val (.ref a1), .val (.int (3 : Int32)), .val (.ref b24), .val (.ref b32), .val (.int (1 : Int32))] [(.ref w_hits_a1), (.int (1 : Int32)), (.ref b32)])) t → Steps p.tables e below (s₁.setTop (entryFrame m #[(.ref a1)] 5)) t := fun t kt => pre90 t (st91 t kt)
  have pre93 : ∀ t, Steps p.tables e below (T91.setTop (mkF m 60 #[.val (.ref a1), .val (.int (3 : Int32)), .val (.ref b24), .val (.ref b32), .val (.int (1 : Int32))] [(.int (1 : Int32)), (.ref w_hits_a1), (.int (1 : Int32)), (.ref b32)])) t → Steps p.tables e below (s₁.setTop (entryFrame m #[(.ref a1)] 5)) t := fun t kt => by
    refine pre92 t ?_
    refine XS.iload X91.here hx rfl (hb hby d5_58) rfl ?_
    show Steps p.tables e below (T91.setTop (mkF m 60 #[.val (.ref a1), .val (.int (3 : Int32)), .val (.ref b24), .val (.ref b32), .val (.int (1 : Int32))] [(.int (1 : Int32)), (.ref w_hits_a1), (.int (1 : Int32)), (.ref b32)])) _
    exact kt
  obtain ⟨cl94, Ar94, S94, Ng94, H94⟩ := id F86_81
  have hj94 : ¬ (1 : Int32) < 0 ∧ (1 : Int32) < (16 : Int32) := ⟨by decide, by decide⟩
  have hin94 := inb_of S94 hj94
  have lt94 : ((1 : Int32)).toNatClampNeg < ((16 : Int32)).toNatClampNeg := by rw [← S94]; exact Nat.lt_of_not_le fun q => hin94 (Or.inr q)
  have hv94 : ((.long ((srt el_w_hits_a1) ((1 : Int32)).toNatClampNeg)) : Value) = (.long ((srt el_w_hits_a1) ((1 : Int32)).toNatClampNeg)) := rfl
  have pre95 : ∀ t, Steps p.tables e below (T91.setTop (mkF m 62 #[.val (.ref a1), .val (.int (3 : Int32)), .val (.ref b24), .val (.ref b32), .val (.int (1 : Int32))] [(.int (((srt el_w_hits_a1) ((1 : Int32)).toNatClampNeg).toInt32)), (.int (1 : Int32)), (.ref b32)])) t → Steps p.tables e below (s₁.setTop (entryFrame m #[(.ref a1)] 5)) t := fun t kt => by
    refine pre93 t ?_
    refine X91.laload hx (j := (1 : Int32)) (v := (.long ((srt el_w_hits_a1) ((1 : Int32)).toNatClampNeg))) (by rw [e91]; exact Ar94.1) (State.isArrayOf_alike hZ.alike Ar94.2.1) Ar94.2.2 hin94 ((H94 _ lt94).trans (congrArg some hv94)) (g := (mkF m 60 #[.val (.ref a1), .val (.int (3 : Int32)), .val (.ref b24), .val (.ref b32), .val (.int (1 : Int32))] [(.int (1 : Int32)), (.ref w_hits_a1), (.int (1 : Int32)), (.ref b32)])) rfl rfl (hb hby d5_60) _ ?_
    show Steps p.tables e below (T91.setTop (mkF m 61 #[.val (.ref a1), .val (.int (3 : Int32)), .val (.ref b24), .val (.ref b32), .val (.int (1 : Int32))] [(.long ((srt el_w_hits_a1) ((1 : Int32)).toNatClampNeg)), (.int (1 : Int32)), (.ref b32)])) _
    refine XS.l2i X91.here hx rfl (hb hby d5_61) rfl ?_
    show Steps p.tables e below (T91.setTop (mkF m 62 #[.val (.ref a1), .val (.int (3 : Int32)), .val (.ref b24), .val (.ref b32), .val (.int (1 : Int32))] [(.int (((srt el_w_hits_a1) ((1 : Int32)).toNatClampNeg).toInt32)), (.int (1 : Int32)), (.ref b32)])) _
    exact kt
  obtain ⟨cl96, Ar96, S96, Ng96, H96⟩ := id F88_81
  have hj96 : ¬ (1 : Int32) < 0 ∧ (1 : Int32) < (3 : Int32) := ⟨by decide, by decide⟩
  have hin96 := inb_of S96 hj96
  obtain ⟨T97, h97, X97, e97, W97, st97⟩ := stI X91 hx hZ e91 Ar96 (j := (1 : Int32)) hin96 (g := (mkF m 62 #[.val (.ref a1), .val (.int (3 : Int32)), .val (.ref b24), .val (.ref b32), .val (.int (1 : Int32))] [(.int (((srt el_w_hits_a1) ((1 : Int32)).toNatClampNeg).toInt32)), (.int (1 : Int32)), (.ref b32)])) rfl rfl (hb hby d5_62)
  have F98_97 := F82_81.other W97 (Or.inl ne_a1_b32)
  have F99_97 := F83_81.other W97 (Or.inl ne_a1_b32)
  have F100_97 := F84_81.wr W97
  have F101_97 := F85_81.other W97 (Or.inl ne_a1_b32)
  have F102_97 := F86_81.other W97 ne_w_hits_a1_b32
  have F103_97 := V81_b24.other W97 ne_b24_b32
  have V97_b32 : Arf Z h97 b32 .int (3 : Int32) (fun i => (.int ((own_upd (own_upd (fun _ => (0 : Int32)) ((0 : Int32)).toNatClampNeg (((srt el_w_hits_a1) ((0 : Int32)).toNatClampNeg).toInt32)) ((1 : Int32)).toNatClampNeg (((srt el_w_hits_a1) ((1 : Int32)).toNatClampNeg).toInt32)) i))) := upd_int _ _ _ ▸ (F88_81.set W97)
  have K97 : Keep h0 h97 [a1, w_hits_a1] := K81.wr W97 (Or.inr sz_b32)
  have Z97 : n0 ≤ h97.size := Nat.le_trans Z81 (Keep.of_wr W97).1
  have pre105 : ∀ t, Steps p.tables e below (T97.setTop (mkF m 63 #[.val (.ref a1), .val (.int (3 : Int32)), .val (.ref b24), .val (.ref b32), .val (.int (1 : Int32))] [])) t → Steps p.tables e below (s₁.setTop (entryFrame m #[(.ref a1)] 5)) t := fun t kt => pre95 t (st97 t kt)
  have N97 := Fr.snoc X97 N81 g_b32
  have pre106 : ∀ t, Steps p.tables e below (T97.setTop (mkF m 66 #[.val (.ref a1), .val (.int (3 : Int32)), .val (.ref b24), .val (.ref b32), .val (.int (1 : Int32))] [(.int (1 : Int32)), (.ref b24)])) t → Steps p.tables e below (s₁.setTop (entryFrame m #[(.ref a1)] 5)) t := fun t kt => by
    refine pre105 t ?_
    refine XS.aloadN X97.here hx rfl (hb hby d5_63) rfl rfl ?_
    show Steps p.tables e below (T97.setTop (mkF m 64 #[.val (.ref a1), .val (.int (3 : Int32)), .val (.ref b24), .val (.ref b32), .val (.int (1 : Int32))] [(.ref b24)])) _
    refine XS.iload X97.here hx rfl (hb hby d5_64) rfl ?_
    show Steps p.tables e below (T97.setTop (mkF m 66 #[.val (.ref a1), .val (.int (3 : Int32)), .val (.ref b24), .val (.ref b32), .val (.int (1 : Int32))] [(.int (1 : Int32)), (.ref b24)])) _
    exact kt
  obtain ⟨cl107, Ar107, S107, Ng107, H107⟩ := id F103_97
  have hj107 : ¬ (1 : Int32) < 0 ∧ (1 : Int32) < (3 : Int32) := ⟨by decide, by decide⟩
  have hin107 := inb_of S107 hj107
  have lt107 : ((1 : Int32)).toNatClampNeg < ((3 : Int32)).toNatClampNeg := by rw [← S107]; exact Nat.lt_of_not_le fun q => hin107 (Or.inr q)
  have hv107 : ((.int ((own_upd (own_upd (fun _ => (0 : Int32)) ((0 : Int32)).toNatClampNeg (((((srt el_w_hits_a1) ((0 : Int32)).toNatClampNeg).toUInt64 >>> ((32 : Int32) &&& 0x3f).toInt64.toUInt64).toInt64).toInt32)) ((1 : Int32)).toNatClampNeg (((((srt el_w_hits_a1) ((1 : Int32)).toNatClampNeg).toUInt64 >>> ((32 : Int32) &&& 0x3f).toInt64.toUInt64).toInt64).toInt32)) ((1 : Int32)).toNatClampNeg)) : Value) = (.int (((((srt el_w_hits_a1) ((1 : Int32)).toNatClampNeg).toUInt64 >>> ((32 : Int32) &&& 0x3f).toInt64.toUInt64).toInt64).toInt32)) := rfl
  have hc68 : ¬ ((((((srt el_w_hits_a1) ((1 : Int32)).toNatClampNeg).toUInt64 >>> ((32 : Int32) &&& 0x3f).toInt64.toUInt64).toInt64).toInt32) < (1 : Int32)) := hp1
  have pre108 : ∀ t, Steps p.tables e below (T97.setTop (mkF m 96 #[.val (.ref a1), .val (.int (3 : Int32)), .val (.ref b24), .val (.ref b32), .val (.int (1 : Int32))] [(.int (1 : Int32)), (.ref b24)])) t → Steps p.tables e below (s₁.setTop (entryFrame m #[(.ref a1)] 5)) t := fun t kt => by
    refine pre106 t ?_
    refine X97.iaload hx (j := (1 : Int32)) (v := (.int (((((srt el_w_hits_a1) ((1 : Int32)).toNatClampNeg).toUInt64 >>> ((32 : Int32) &&& 0x3f).toInt64.toUInt64).toInt64).toInt32))) (by rw [e97]; exact Ar107.1) (State.isArrayOf_alike hZ.alike Ar107.2.1) Ar107.2.2 hin107 ((H107 _ lt107).trans (congrArg some hv107)) (g := (mkF m 66 #[.val (.ref a1), .val (.int (3 : Int32)), .val (.ref b24), .val (.ref b32), .val (.int (1 : Int32))] [(.int (1 : Int32)), (.ref b24)])) rfl rfl (hb hby d5_66) _ ?_
    show Steps p.tables e below (T97.setTop (mkF m 67 #[.val (.ref a1), .val (.int (3 : Int32)), .val (.ref b24), .val (.ref b32), .val (.int (1 : Int32))] [(.int (((((srt el_w_hits_a1) ((1 : Int32)).toNatClampNeg).toUInt64 >>> ((32 : Int32) &&& 0x3f).toInt64.toUInt64).toInt64).toInt32))])) _
    refine XS.iconst X97.here hx rfl (hb hby d5_67) ?_
    show Steps p.tables e below (T97.setTop (mkF m 68 #[.val (.ref a1), .val (.int (3 : Int32)), .val (.ref b24), .val (.ref b32), .val (.int (1 : Int32))] [(.int (1 : Int32)), (.int (((((srt el_w_hits_a1) ((1 : Int32)).toNatClampNeg).toUInt64 >>> ((32 : Int32) &&& 0x3f).toInt64.toUInt64).toInt64).toInt32))])) _
    refine XS.icmpYes X97.here hx rfl (pc0 := 68) (pc' := 88) rfl (hb hby d5_68) rfl (flt hc68).2.1 (by decide) (by decide) ?_
    show Steps p.tables e below (T97.setTop (mkF m 88 #[.val (.ref a1), .val (.int (3 : Int32)), .val (.ref b24), .val (.ref b32), .val (.int (1 : Int32))] [])) _
    refine XS.iload X97.here hx rfl (hb hby d5_88) rfl ?_
    show Steps p.tables e below (T97.setTop (mkF m 90 #[.val (.ref a1), .val (.int (3 : Int32)), .val (.ref b24), .val (.ref b32), .val (.int (1 : Int32))] [(.int (1 : Int32))])) _
    refine XS.ifNo X97.here hx rfl (hb hby d5_90) rfl ((if0 _ _).trans (tlt (by decide : (0 : Int32) < (1 : Int32))).2.2.2) ?_
    show Steps p.tables e below (T97.setTop (mkF m 93 #[.val (.ref a1), .val (.int (3 : Int32)), .val (.ref b24), .val (.ref b32), .val (.int (1 : Int32))] [])) _
    refine XS.aloadN X97.here hx rfl (hb hby d5_93) rfl rfl ?_
    show Steps p.tables e below (T97.setTop (mkF m 94 #[.val (.ref a1), .val (.int (3 : Int32)), .val (.ref b24), .val (.ref b32), .val (.int (1 : Int32))] [(.ref b24)])) _
    refine XS.iload X97.here hx rfl (hb hby d5_94) rfl ?_
    show Steps p.tables e below (T97.setTop (mkF m 96 #[.val (.ref a1), .val (.int (3 : Int32)), .val (.ref b24), .val (.ref b32), .val (.int (1 : Int32))] [(.int (1 : Int32)), (.ref b24)])) _
    exact kt
  obtain ⟨cl109, Ar109, S109, Ng109, H109⟩ := id F103_97
  have hj109 : ¬ (1 : Int32) < 0 ∧ (1 : Int32) < (3 : Int32) := ⟨by decide, by decide⟩
  have hin109 := inb_of S109 hj109
  have lt109 : ((1 : Int32)).toNatClampNeg < ((3 : Int32)).toNatClampNeg := by rw [← S109]; exact Nat.lt_of_not_le fun q => hin109 (Or.inr q)
  have hv109 : ((.int ((own_upd (own_upd (fun _ => (0 : Int32)) ((0 : Int32)).toNatClampNeg (((((srt el_w_hits_a1) ((0 : Int32)).toNatClampNeg).toUInt64 >>> ((32 : Int32) &&& 0x3f).toInt64.toUInt64).toInt64).toInt32)) ((1 : Int32)).toNatClampNeg (((((srt el_w_hits_a1) ((1 : Int32)).toNatClampNeg).toUInt64 >>> ((32 : Int32) &&& 0x3f).toInt64.toUInt64).toInt64).toInt32)) ((1 : Int32)).toNatClampNeg)) : Value) = (.int (((((srt el_w_hits_a1) ((1 : Int32)).toNatClampNeg).toUInt64 >>> ((32 : Int32) &&& 0x3f).toInt64.toUInt64).toInt64).toInt32)) := rfl
  have pre110 : ∀ t, Steps p.tables e below (T97.setTop (mkF m 102 #[.val (.ref a1), .val (.int (3 : Int32)), .val (.ref b24), .val (.ref b32), .val (.int (1 : Int32))] [(.int (0 : Int32)), (.ref b24), (.int (((((srt el_w_hits_a1) ((1 : Int32)).toNatClampNeg).toUInt64 >>> ((32 : Int32) &&& 0x3f).toInt64.toUInt64).toInt64).toInt32))])) t → Steps p.tables e below (s₁.setTop (entryFrame m #[(.ref a1)] 5)) t := fun t kt => by
    refine pre108 t ?_
    refine X97.iaload hx (j := (1 : Int32)) (v := (.int (((((srt el_w_hits_a1) ((1 : Int32)).toNatClampNeg).toUInt64 >>> ((32 : Int32) &&& 0x3f).toInt64.toUInt64).toInt64).toInt32))) (by rw [e97]; exact Ar109.1) (State.isArrayOf_alike hZ.alike Ar109.2.1) Ar109.2.2 hin109 ((H109 _ lt109).trans (congrArg some hv109)) (g := (mkF m 96 #[.val (.ref a1), .val (.int (3 : Int32)), .val (.ref b24), .val (.ref b32), .val (.int (1 : Int32))] [(.int (1 : Int32)), (.ref b24)])) rfl rfl (hb hby d5_96) _ ?_
    show Steps p.tables e below (T97.setTop (mkF m 97 #[.val (.ref a1), .val (.int (3 : Int32)), .val (.ref b24), .val (.ref b32), .val (.int (1 : Int32))] [(.int (((((srt el_w_hits_a1) ((1 : Int32)).toNatClampNeg).toUInt64 >>> ((32 : Int32) &&& 0x3f).toInt64.toUInt64).toInt64).toInt32))])) _
    refine XS.aloadN X97.here hx rfl (hb hby d5_97) rfl rfl ?_
    show Steps p.tables e below (T97.setTop (mkF m 98 #[.val (.ref a1), .val (.int (3 : Int32)), .val (.ref b24), .val (.ref b32), .val (.int (1 : Int32))] [(.ref b24), (.int (((((srt el_w_hits_a1) ((1 : Int32)).toNatClampNeg).toUInt64 >>> ((32 : Int32) &&& 0x3f).toInt64.toUInt64).toInt64).toInt32))])) _
    refine XS.iload X97.here hx rfl (hb hby d5_98) rfl ?_
    show Steps p.tables e below (T97.setTop (mkF m 100 #[.val (.ref a1), .val (.int (3 : Int32)), .val (.ref b24), .val (.ref b32), .val (.int (1 : Int32))] [(.int (1 : Int32)), (.ref b24), (.int (((((srt el_w_hits_a1) ((1 : Int32)).toNatClampNeg).toUInt64 >>> ((32 : Int32) &&& 0x3f).toInt64.toUInt64).toInt64).toInt32))])) _
    refine XS.iconst X97.here hx rfl (hb hby d5_100) ?_
    show Steps p.tables e below (T97.setTop (mkF m 101 #[.val (.ref a1), .val (.int (3 : Int32)), .val (.ref b24), .val (.ref b32), .val (.int (1 : Int32))] [(.int (1 : Int32)), (.int (1 : Int32)), (.ref b24), (.int (((((srt el_w_hits_a1) ((1 : Int32)).toNatClampNeg).toUInt64 >>> ((32 : Int32) &&& 0x3f).toInt64.toUInt64).toInt64).toInt32))])) _
    refine XS.isub X97.here hx rfl (hb hby d5_101) rfl ?_
    show Steps p.tables e below (T97.setTop (mkF m 102 #[.val (.ref a1), .val (.int (3 : Int32)), .val (.ref b24), .val (.ref b32), .val (.int (1 : Int32))] [(.int (0 : Int32)), (.ref b24), (.int (((((srt el_w_hits_a1) ((1 : Int32)).toNatClampNeg).toUInt64 >>> ((32 : Int32) &&& 0x3f).toInt64.toUInt64).toInt64).toInt32))])) _
    exact kt
  obtain ⟨cl111, Ar111, S111, Ng111, H111⟩ := id F103_97
  have hj111 : ¬ (0 : Int32) < 0 ∧ (0 : Int32) < (3 : Int32) := ⟨by decide, by decide⟩
  have hin111 := inb_of S111 hj111
  have lt111 : ((0 : Int32)).toNatClampNeg < ((3 : Int32)).toNatClampNeg := by rw [← S111]; exact Nat.lt_of_not_le fun q => hin111 (Or.inr q)
  have hv111 : ((.int ((own_upd (own_upd (fun _ => (0 : Int32)) ((0 : Int32)).toNatClampNeg (((((srt el_w_hits_a1) ((0 : Int32)).toNatClampNeg).toUInt64 >>> ((32 : Int32) &&& 0x3f).toInt64.toUInt64).toInt64).toInt32)) ((1 : Int32)).toNatClampNeg (((((srt el_w_hits_a1) ((1 : Int32)).toNatClampNeg).toUInt64 >>> ((32 : Int32) &&& 0x3f).toInt64.toUInt64).toInt64).toInt32)) ((0 : Int32)).toNatClampNeg)) : Value) = (.int (((((srt el_w_hits_a1) ((0 : Int32)).toNatClampNeg).toUInt64 >>> ((32 : Int32) &&& 0x3f).toInt64.toUInt64).toInt64).toInt32)) := rfl
  have hc103 : ¬ ((((((srt el_w_hits_a1) ((1 : Int32)).toNatClampNeg).toUInt64 >>> ((32 : Int32) &&& 0x3f).toInt64.toUInt64).toInt64).toInt32) = (((((srt el_w_hits_a1) ((0 : Int32)).toNatClampNeg).toUInt64 >>> ((32 : Int32) &&& 0x3f).toInt64.toUInt64).toInt64).toInt32)) := hd1
  have pre112 : ∀ t, Steps p.tables e below (T97.setTop (mkF m 40 #[.val (.ref a1), .val (.int (3 : Int32)), .val (.ref b24), .val (.ref b32), .val (.int (2 : Int32))] [(.ref a1), (.int (2 : Int32)), (.ref b24)])) t → Steps p.tables e below (s₁.setTop (entryFrame m #[(.ref a1)] 5)) t := fun t kt => by
    refine pre110 t ?_
    refine X97.iaload hx (j := (0 : Int32)) (v := (.int (((((srt el_w_hits_a1) ((0 : Int32)).toNatClampNeg).toUInt64 >>> ((32 : Int32) &&& 0x3f).toInt64.toUInt64).toInt64).toInt32))) (by rw [e97]; exact Ar111.1) (State.isArrayOf_alike hZ.alike Ar111.2.1) Ar111.2.2 hin111 ((H111 _ lt111).trans (congrArg some hv111)) (g := (mkF m 102 #[.val (.ref a1), .val (.int (3 : Int32)), .val (.ref b24), .val (.ref b32), .val (.int (1 : Int32))] [(.int (0 : Int32)), (.ref b24), (.int (((((srt el_w_hits_a1) ((1 : Int32)).toNatClampNeg).toUInt64 >>> ((32 : Int32) &&& 0x3f).toInt64.toUInt64).toInt64).toInt32))])) rfl rfl (hb hby d5_102) _ ?_
    show Steps p.tables e below (T97.setTop (mkF m 103 #[.val (.ref a1), .val (.int (3 : Int32)), .val (.ref b24), .val (.ref b32), .val (.int (1 : Int32))] [(.int (((((srt el_w_hits_a1) ((0 : Int32)).toNatClampNeg).toUInt64 >>> ((32 : Int32) &&& 0x3f).toInt64.toUInt64).toInt64).toInt32)), (.int (((((srt el_w_hits_a1) ((1 : Int32)).toNatClampNeg).toUInt64 >>> ((32 : Int32) &&& 0x3f).toInt64.toUInt64).toInt64).toInt32))])) _
    refine XS.icmpYes X97.here hx rfl (pc0 := 103) (pc' := 123) rfl (hb hby d5_103) rfl (feq hc103).2 (by decide) (by decide) ?_
    show Steps p.tables e below (T97.setTop (mkF m 123 #[.val (.ref a1), .val (.int (3 : Int32)), .val (.ref b24), .val (.ref b32), .val (.int (1 : Int32))] [])) _
    refine XS.iinc X97.here hx rfl (hb hby d5_123) rfl (l' := #[.val (.ref a1), .val (.int (3 : Int32)), .val (.ref b24), .val (.ref b32), .val (.int (2 : Int32))]) rfl ?_
    show Steps p.tables e below (T97.setTop (mkF m 126 #[.val (.ref a1), .val (.int (3 : Int32)), .val (.ref b24), .val (.ref b32), .val (.int (2 : Int32))] [])) _
    refine XS.goto X97.here hx rfl (pc0 := 126) (pc' := 30) rfl (hb hby d5_126) (by decide) (by decide) ?_
    show Steps p.tables e below (T97.setTop (mkF m 30 #[.val (.ref a1), .val (.int (3 : Int32)), .val (.ref b24), .val (.ref b32), .val (.int (2 : Int32))] [])) _
    refine XS.iload X97.here hx rfl (hb hby d5_30) rfl ?_
    show Steps p.tables e below (T97.setTop (mkF m 32 #[.val (.ref a1), .val (.int (3 : Int32)), .val (.ref b24), .val (.ref b32), .val (.int (2 : Int32))] [(.int (2 : Int32))])) _
    refine XS.iloadN X97.here hx rfl (hb hby d5_32) rfl ?_
    show Steps p.tables e below (T97.setTop (mkF m 33 #[.val (.ref a1), .val (.int (3 : Int32)), .val (.ref b24), .val (.ref b32), .val (.int (2 : Int32))] [(.int (3 : Int32)), (.int (2 : Int32))])) _
    refine XS.icmpNo X97.here hx rfl (hb hby d5_33) rfl (tlt (by decide : (2 : Int32) < (3 : Int32))).2.1 ?_
    show Steps p.tables e below (T97.setTop (mkF m 36 #[.val (.ref a1), .val (.int (3 : Int32)), .val (.ref b24), .val (.ref b32), .val (.int (2 : Int32))] [])) _
    refine XS.aloadN X97.here hx rfl (hb hby d5_36) rfl rfl ?_
    show Steps p.tables e below (T97.setTop (mkF m 37 #[.val (.ref a1), .val (.int (3 : Int32)), .val (.ref b24), .val (.ref b32), .val (.int (2 : Int32))] [(.ref b24)])) _
    refine XS.iload X97.here hx rfl (hb hby d5_37) rfl ?_
    show Steps p.tables e below (T97.setTop (mkF m 39 #[.val (.ref a1), .val (.int (3 : Int32)), .val (.ref b24), .val (.ref b32), .val (.int (2 : Int32))] [(.int (2 : Int32)), (.ref b24)])) _
    refine XS.aloadN X97.here hx rfl (hb hby d5_39) rfl rfl ?_
    show Steps p.tables e below (T97.setTop (mkF m 40 #[.val (.ref a1), .val (.int (3 : Int32)), .val (.ref b24), .val (.ref b32), .val (.int (2 : Int32))] [(.ref a1), (.int (2 : Int32)), (.ref b24)])) _
    exact kt
  obtain ⟨T113, X113, e113, st113⟩ := getF X97 hx hZ hown (host := "") (Or.inl (hw _ (mgE 15 rfl))) Via.refl e97 F99_97 (g := (mkF m 40 #[.val (.ref a1), .val (.int (3 : Int32)), .val (.ref b24), .val (.ref b32), .val (.int (2 : Int32))] [(.ref a1), (.int (2 : Int32)), (.ref b24)])) rfl rfl (hb hby d5_40)
  have pre114 : ∀ t, Steps p.tables e below (T113.setTop (mkF m 43 #[.val (.ref a1), .val (.int (3 : Int32)), .val (.ref b24), .val (.ref b32), .val (.int (2 : Int32))] [(.ref w_hits_a1), (.int (2 : Int32)), (.ref b24)])) t → Steps p.tables e below (s₁.setTop (entryFrame m #[(.ref a1)] 5)) t := fun t kt => pre112 t (st113 t kt)
  have pre115 : ∀ t, Steps p.tables e below (T113.setTop (mkF m 45 #[.val (.ref a1), .val (.int (3 : Int32)), .val (.ref b24), .val (.ref b32), .val (.int (2 : Int32))] [(.int (2 : Int32)), (.ref w_hits_a1), (.int (2 : Int32)), (.ref b24)])) t → Steps p.tables e below (s₁.setTop (entryFrame m #[(.ref a1)] 5)) t := fun t kt => by
    refine pre114 t ?_
    refine XS.iload X113.here hx rfl (hb hby d5_43) rfl ?_
    show Steps p.tables e below (T113.setTop (mkF m 45 #[.val (.ref a1), .val (.int (3 : Int32)), .val (.ref b24), .val (.ref b32), .val (.int (2 : Int32))] [(.int (2 : Int32)), (.ref w_hits_a1), (.int (2 : Int32)), (.ref b24)])) _
    exact kt
  obtain ⟨cl116, Ar116, S116, Ng116, H116⟩ := id F102_97
  have hj116 : ¬ (2 : Int32) < 0 ∧ (2 : Int32) < (16 : Int32) := ⟨by decide, by decide⟩
  have hin116 := inb_of S116 hj116
  have lt116 : ((2 : Int32)).toNatClampNeg < ((16 : Int32)).toNatClampNeg := by rw [← S116]; exact Nat.lt_of_not_le fun q => hin116 (Or.inr q)
  have hv116 : ((.long ((srt el_w_hits_a1) ((2 : Int32)).toNatClampNeg)) : Value) = (.long ((srt el_w_hits_a1) ((2 : Int32)).toNatClampNeg)) := rfl
  have pre117 : ∀ t, Steps p.tables e below (T113.setTop (mkF m 50 #[.val (.ref a1), .val (.int (3 : Int32)), .val (.ref b24), .val (.ref b32), .val (.int (2 : Int32))] [(.int (((((srt el_w_hits_a1) ((2 : Int32)).toNatClampNeg).toUInt64 >>> ((32 : Int32) &&& 0x3f).toInt64.toUInt64).toInt64).toInt32)), (.int (2 : Int32)), (.ref b24)])) t → Steps p.tables e below (s₁.setTop (entryFrame m #[(.ref a1)] 5)) t := fun t kt => by
    refine pre115 t ?_
    refine X113.laload hx (j := (2 : Int32)) (v := (.long ((srt el_w_hits_a1) ((2 : Int32)).toNatClampNeg))) (by rw [e113]; exact Ar116.1) (State.isArrayOf_alike hZ.alike Ar116.2.1) Ar116.2.2 hin116 ((H116 _ lt116).trans (congrArg some hv116)) (g := (mkF m 45 #[.val (.ref a1), .val (.int (3 : Int32)), .val (.ref b24), .val (.ref b32), .val (.int (2 : Int32))] [(.int (2 : Int32)), (.ref w_hits_a1), (.int (2 : Int32)), (.ref b24)])) rfl rfl (hb hby d5_45) _ ?_
    show Steps p.tables e below (T113.setTop (mkF m 46 #[.val (.ref a1), .val (.int (3 : Int32)), .val (.ref b24), .val (.ref b32), .val (.int (2 : Int32))] [(.long ((srt el_w_hits_a1) ((2 : Int32)).toNatClampNeg)), (.int (2 : Int32)), (.ref b24)])) _
    refine XS.bipush X113.here hx rfl (hb hby d5_46) ?_
    show Steps p.tables e below (T113.setTop (mkF m 48 #[.val (.ref a1), .val (.int (3 : Int32)), .val (.ref b24), .val (.ref b32), .val (.int (2 : Int32))] [(.int (32 : Int32)), (.long ((srt el_w_hits_a1) ((2 : Int32)).toNatClampNeg)), (.int (2 : Int32)), (.ref b24)])) _
    refine XS.lushr X113.here hx rfl (hb hby d5_48) rfl ?_
    show Steps p.tables e below (T113.setTop (mkF m 49 #[.val (.ref a1), .val (.int (3 : Int32)), .val (.ref b24), .val (.ref b32), .val (.int (2 : Int32))] [(.long ((((srt el_w_hits_a1) ((2 : Int32)).toNatClampNeg).toUInt64 >>> ((32 : Int32) &&& 0x3f).toInt64.toUInt64).toInt64)), (.int (2 : Int32)), (.ref b24)])) _
    refine XS.l2i X113.here hx rfl (hb hby d5_49) rfl ?_
    show Steps p.tables e below (T113.setTop (mkF m 50 #[.val (.ref a1), .val (.int (3 : Int32)), .val (.ref b24), .val (.ref b32), .val (.int (2 : Int32))] [(.int (((((srt el_w_hits_a1) ((2 : Int32)).toNatClampNeg).toUInt64 >>> ((32 : Int32) &&& 0x3f).toInt64.toUInt64).toInt64).toInt32)), (.int (2 : Int32)), (.ref b24)])) _
    exact kt
  obtain ⟨cl118, Ar118, S118, Ng118, H118⟩ := id F103_97
  have hj118 : ¬ (2 : Int32) < 0 ∧ (2 : Int32) < (3 : Int32) := ⟨by decide, by decide⟩
  have hin118 := inb_of S118 hj118
  obtain ⟨T119, h119, X119, e119, W119, st119⟩ := stI X113 hx hZ e113 Ar118 (j := (2 : Int32)) hin118 (g := (mkF m 50 #[.val (.ref a1), .val (.int (3 : Int32)), .val (.ref b24), .val (.ref b32), .val (.int (2 : Int32))] [(.int (((((srt el_w_hits_a1) ((2 : Int32)).toNatClampNeg).toUInt64 >>> ((32 : Int32) &&& 0x3f).toInt64.toUInt64).toInt64).toInt32)), (.int (2 : Int32)), (.ref b24)])) rfl rfl (hb hby d5_50)
  have F120_119 := F98_97.other W119 (Or.inl ne_a1_b24)
  have F121_119 := F99_97.other W119 (Or.inl ne_a1_b24)
  have F122_119 := F100_97.wr W119
  have F123_119 := F101_97.other W119 (Or.inl ne_a1_b24)
  have F124_119 := F102_97.other W119 ne_w_hits_a1_b24
  have F126_119 := V97_b32.other W119 (Ne.symm ne_b24_b32)
  have V119_b24 : Arf Z h119 b24 .int (3 : Int32) (fun i => (.int ((own_upd (own_upd (own_upd (fun _ => (0 : Int32)) ((0 : Int32)).toNatClampNeg (((((srt el_w_hits_a1) ((0 : Int32)).toNatClampNeg).toUInt64 >>> ((32 : Int32) &&& 0x3f).toInt64.toUInt64).toInt64).toInt32)) ((1 : Int32)).toNatClampNeg (((((srt el_w_hits_a1) ((1 : Int32)).toNatClampNeg).toUInt64 >>> ((32 : Int32) &&& 0x3f).toInt64.toUInt64).toInt64).toInt32)) ((2 : Int32)).toNatClampNeg (((((srt el_w_hits_a1) ((2 : Int32)).toNatClampNeg).toUInt64 >>> ((32 : Int32) &&& 0x3f).toInt64.toUInt64).toInt64).toInt32)) i))) := upd_int _ _ _ ▸ (F103_97.set W119)
  have K119 : Keep h0 h119 [a1, w_hits_a1] := K97.wr W119 (Or.inr sz_b24)
  have Z119 : n0 ≤ h119.size := Nat.le_trans Z97 (Keep.of_wr W119).1
  have pre127 : ∀ t, Steps p.tables e below (T119.setTop (mkF m 51 #[.val (.ref a1), .val (.int (3 : Int32)), .val (.ref b24), .val (.ref b32), .val (.int (2 : Int32))] [])) t → Steps p.tables e below (s₁.setTop (entryFrame m #[(.ref a1)] 5)) t := fun t kt => pre117 t (st119 t kt)
  have N119 := Fr.snoc X119 N97 g_b24
  have pre128 : ∀ t, Steps p.tables e below (T119.setTop (mkF m 55 #[.val (.ref a1), .val (.int (3 : Int32)), .val (.ref b24), .val (.ref b32), .val (.int (2 : Int32))] [(.ref a1), (.int (2 : Int32)), (.ref b32)])) t → Steps p.tables e below (s₁.setTop (entryFrame m #[(.ref a1)] 5)) t := fun t kt => by
    refine pre127 t ?_
    refine XS.aloadN X119.here hx rfl (hb hby d5_51) rfl rfl ?_
    show Steps p.tables e below (T119.setTop (mkF m 52 #[.val (.ref a1), .val (.int (3 : Int32)), .val (.ref b24), .val (.ref b32), .val (.int (2 : Int32))] [(.ref b32)])) _
    refine XS.iload X119.here hx rfl (hb hby d5_52) rfl ?_
    show Steps p.tables e below (T119.setTop (mkF m 54 #[.val (.ref a1), .val (.int (3 : Int32)), .val (.ref b24), .val (.ref b32), .val (.int (2 : Int32))] [(.int (2 : Int32)), (.ref b32)])) _
    refine XS.aloadN X119.here hx rfl (hb hby d5_54) rfl rfl ?_
    show Steps p.tables e below (T119.setTop (mkF m 55 #[.val (.ref a1), .val (.int (3 : Int32)), .val (.ref b24), .val (.ref b32), .val (.int (2 : Int32))] [(.ref a1), (.int (2 : Int32)), (.ref b32)])) _
    exact kt
  obtain ⟨T129, X129, e129, st129⟩ := getF X119 hx hZ hown (host := "") (Or.inl (hw _ (mgE 15 rfl))) Via.refl e119 F121_119 (g := (mkF m 55 #[.val (.ref a1), .val (.int (3 : Int32)), .val (.ref b24), .val (.ref b32), .val (.int (2 : Int32))] [(.ref a1), (.int (2 : Int32)), (.ref b32)])) rfl rfl (hb hby d5_55)
  have pre130 : ∀ t, Steps p.tables e below (T129.setTop (mkF m 58 #[.val (.ref a1), .val (.int (3 : Int32)), .val (.ref b24), .val (.ref b32), .val (.int (2 : Int32))] [(.ref w_hits_a1), (.int (2 : Int32)), (.ref b32)])) t → Steps p.tables e below (s₁.setTop (entryFrame m #[(.ref a1)] 5)) t := fun t kt => pre128 t (st129 t kt)
  have pre131 : ∀ t, Steps p.tables e below (T129.setTop (mkF m 60 #[.val (.ref a1), .val (.int (3 : Int32)), .val (.ref b24), .val (.ref b32), .val (.int (2 : Int32))] [(.int (2 : Int32)), (.ref w_hits_a1), (.int (2 : Int32)), (.ref b32)])) t → Steps p.tables e below (s₁.setTop (entryFrame m #[(.ref a1)] 5)) t := fun t kt => by
    refine pre130 t ?_
    refine XS.iload X129.here hx rfl (hb hby d5_58) rfl ?_
    show Steps p.tables e below (T129.setTop (mkF m 60 #[.val (.ref a1), .val (.int (3 : Int32)), .val (.ref b24), .val (.ref b32), .val (.int (2 : Int32))] [(.int (2 : Int32)), (.ref w_hits_a1), (.int (2 : Int32)), (.ref b32)])) _
    exact kt
  obtain ⟨cl132, Ar132, S132, Ng132, H132⟩ := id F124_119
  have hj132 : ¬ (2 : Int32) < 0 ∧ (2 : Int32) < (16 : Int32) := ⟨by decide, by decide⟩
  have hin132 := inb_of S132 hj132
  have lt132 : ((2 : Int32)).toNatClampNeg < ((16 : Int32)).toNatClampNeg := by rw [← S132]; exact Nat.lt_of_not_le fun q => hin132 (Or.inr q)
  have hv132 : ((.long ((srt el_w_hits_a1) ((2 : Int32)).toNatClampNeg)) : Value) = (.long ((srt el_w_hits_a1) ((2 : Int32)).toNatClampNeg)) := rfl
  have pre133 : ∀ t, Steps p.tables e below (T129.setTop (mkF m 62 #[.val (.ref a1), .val (.int (3 : Int32)), .val (.ref b24), .val (.ref b32), .val (.int (2 : Int32))] [(.int (((srt el_w_hits_a1) ((2 : Int32)).toNatClampNeg).toInt32)), (.int (2 : Int32)), (.ref b32)])) t → Steps p.tables e below (s₁.setTop (entryFrame m #[(.ref a1)] 5)) t := fun t kt => by
    refine pre131 t ?_
    refine X129.laload hx (j := (2 : Int32)) (v := (.long ((srt el_w_hits_a1) ((2 : Int32)).toNatClampNeg))) (by rw [e129]; exact Ar132.1) (State.isArrayOf_alike hZ.alike Ar132.2.1) Ar132.2.2 hin132 ((H132 _ lt132).trans (congrArg some hv132)) (g := (mkF m 60 #[.val (.ref a1), .val (.int (3 : Int32)), .val (.ref b24), .val (.ref b32), .val (.int (2 : Int32))] [(.int (2 : Int32)), (.ref w_hits_a1), (.int (2 : Int32)), (.ref b32)])) rfl rfl (hb hby d5_60) _ ?_
    show Steps p.tables e below (T129.setTop (mkF m 61 #[.val (.ref a1), .val (.int (3 : Int32)), .val (.ref b24), .val (.ref b32), .val (.int (2 : Int32))] [(.long ((srt el_w_hits_a1) ((2 : Int32)).toNatClampNeg)), (.int (2 : Int32)), (.ref b32)])) _
    refine XS.l2i X129.here hx rfl (hb hby d5_61) rfl ?_
    show Steps p.tables e below (T129.setTop (mkF m 62 #[.val (.ref a1), .val (.int (3 : Int32)), .val (.ref b24), .val (.ref b32), .val (.int (2 : Int32))] [(.int (((srt el_w_hits_a1) ((2 : Int32)).toNatClampNeg).toInt32)), (.int (2 : Int32)), (.ref b32)])) _
    exact kt
  obtain ⟨cl134, Ar134, S134, Ng134, H134⟩ := id F126_119
  have hj134 : ¬ (2 : Int32) < 0 ∧ (2 : Int32) < (3 : Int32) := ⟨by decide, by decide⟩
  have hin134 := inb_of S134 hj134
  obtain ⟨T135, h135, X135, e135, W135, st135⟩ := stI X129 hx hZ e129 Ar134 (j := (2 : Int32)) hin134 (g := (mkF m 62 #[.val (.ref a1), .val (.int (3 : Int32)), .val (.ref b24), .val (.ref b32), .val (.int (2 : Int32))] [(.int (((srt el_w_hits_a1) ((2 : Int32)).toNatClampNeg).toInt32)), (.int (2 : Int32)), (.ref b32)])) rfl rfl (hb hby d5_62)
  have F136_135 := F120_119.other W135 (Or.inl ne_a1_b32)
  have F137_135 := F121_119.other W135 (Or.inl ne_a1_b32)
  have F138_135 := F122_119.wr W135
  have F139_135 := F123_119.other W135 (Or.inl ne_a1_b32)
  have F140_135 := F124_119.other W135 ne_w_hits_a1_b32
  have F141_135 := V119_b24.other W135 ne_b24_b32
  have V135_b32 : Arf Z h135 b32 .int (3 : Int32) (fun i => (.int ((own_upd (own_upd (own_upd (fun _ => (0 : Int32)) ((0 : Int32)).toNatClampNeg (((srt el_w_hits_a1) ((0 : Int32)).toNatClampNeg).toInt32)) ((1 : Int32)).toNatClampNeg (((srt el_w_hits_a1) ((1 : Int32)).toNatClampNeg).toInt32)) ((2 : Int32)).toNatClampNeg (((srt el_w_hits_a1) ((2 : Int32)).toNatClampNeg).toInt32)) i))) := upd_int _ _ _ ▸ (F126_119.set W135)
  have K135 : Keep h0 h135 [a1, w_hits_a1] := K119.wr W135 (Or.inr sz_b32)
  have Z135 : n0 ≤ h135.size := Nat.le_trans Z119 (Keep.of_wr W135).1
  have pre143 : ∀ t, Steps p.tables e below (T135.setTop (mkF m 63 #[.val (.ref a1), .val (.int (3 : Int32)), .val (.ref b24), .val (.ref b32), .val (.int (2 : Int32))] [])) t → Steps p.tables e below (s₁.setTop (entryFrame m #[(.ref a1)] 5)) t := fun t kt => pre133 t (st135 t kt)
  have N135 := Fr.snoc X135 N119 g_b32
  have pre144 : ∀ t, Steps p.tables e below (T135.setTop (mkF m 66 #[.val (.ref a1), .val (.int (3 : Int32)), .val (.ref b24), .val (.ref b32), .val (.int (2 : Int32))] [(.int (2 : Int32)), (.ref b24)])) t → Steps p.tables e below (s₁.setTop (entryFrame m #[(.ref a1)] 5)) t := fun t kt => by
    refine pre143 t ?_
    refine XS.aloadN X135.here hx rfl (hb hby d5_63) rfl rfl ?_
    show Steps p.tables e below (T135.setTop (mkF m 64 #[.val (.ref a1), .val (.int (3 : Int32)), .val (.ref b24), .val (.ref b32), .val (.int (2 : Int32))] [(.ref b24)])) _
    refine XS.iload X135.here hx rfl (hb hby d5_64) rfl ?_
    show Steps p.tables e below (T135.setTop (mkF m 66 #[.val (.ref a1), .val (.int (3 : Int32)), .val (.ref b24), .val (.ref b32), .val (.int (2 : Int32))] [(.int (2 : Int32)), (.ref b24)])) _
    exact kt
  obtain ⟨cl145, Ar145, S145, Ng145, H145⟩ := id F141_135
  have hj145 : ¬ (2 : Int32) < 0 ∧ (2 : Int32) < (3 : Int32) := ⟨by decide, by decide⟩
  have hin145 := inb_of S145 hj145
  have lt145 : ((2 : Int32)).toNatClampNeg < ((3 : Int32)).toNatClampNeg := by rw [← S145]; exact Nat.lt_of_not_le fun q => hin145 (Or.inr q)
  have hv145 : ((.int ((own_upd (own_upd (own_upd (fun _ => (0 : Int32)) ((0 : Int32)).toNatClampNeg (((((srt el_w_hits_a1) ((0 : Int32)).toNatClampNeg).toUInt64 >>> ((32 : Int32) &&& 0x3f).toInt64.toUInt64).toInt64).toInt32)) ((1 : Int32)).toNatClampNeg (((((srt el_w_hits_a1) ((1 : Int32)).toNatClampNeg).toUInt64 >>> ((32 : Int32) &&& 0x3f).toInt64.toUInt64).toInt64).toInt32)) ((2 : Int32)).toNatClampNeg (((((srt el_w_hits_a1) ((2 : Int32)).toNatClampNeg).toUInt64 >>> ((32 : Int32) &&& 0x3f).toInt64.toUInt64).toInt64).toInt32)) ((2 : Int32)).toNatClampNeg)) : Value) = (.int (((((srt el_w_hits_a1) ((2 : Int32)).toNatClampNeg).toUInt64 >>> ((32 : Int32) &&& 0x3f).toInt64.toUInt64).toInt64).toInt32)) := rfl
  have hc68 : ¬ ((((((srt el_w_hits_a1) ((2 : Int32)).toNatClampNeg).toUInt64 >>> ((32 : Int32) &&& 0x3f).toInt64.toUInt64).toInt64).toInt32) < (1 : Int32)) := hp2
  have pre146 : ∀ t, Steps p.tables e below (T135.setTop (mkF m 96 #[.val (.ref a1), .val (.int (3 : Int32)), .val (.ref b24), .val (.ref b32), .val (.int (2 : Int32))] [(.int (2 : Int32)), (.ref b24)])) t → Steps p.tables e below (s₁.setTop (entryFrame m #[(.ref a1)] 5)) t := fun t kt => by
    refine pre144 t ?_
    refine X135.iaload hx (j := (2 : Int32)) (v := (.int (((((srt el_w_hits_a1) ((2 : Int32)).toNatClampNeg).toUInt64 >>> ((32 : Int32) &&& 0x3f).toInt64.toUInt64).toInt64).toInt32))) (by rw [e135]; exact Ar145.1) (State.isArrayOf_alike hZ.alike Ar145.2.1) Ar145.2.2 hin145 ((H145 _ lt145).trans (congrArg some hv145)) (g := (mkF m 66 #[.val (.ref a1), .val (.int (3 : Int32)), .val (.ref b24), .val (.ref b32), .val (.int (2 : Int32))] [(.int (2 : Int32)), (.ref b24)])) rfl rfl (hb hby d5_66) _ ?_
    show Steps p.tables e below (T135.setTop (mkF m 67 #[.val (.ref a1), .val (.int (3 : Int32)), .val (.ref b24), .val (.ref b32), .val (.int (2 : Int32))] [(.int (((((srt el_w_hits_a1) ((2 : Int32)).toNatClampNeg).toUInt64 >>> ((32 : Int32) &&& 0x3f).toInt64.toUInt64).toInt64).toInt32))])) _
    refine XS.iconst X135.here hx rfl (hb hby d5_67) ?_
    show Steps p.tables e below (T135.setTop (mkF m 68 #[.val (.ref a1), .val (.int (3 : Int32)), .val (.ref b24), .val (.ref b32), .val (.int (2 : Int32))] [(.int (1 : Int32)), (.int (((((srt el_w_hits_a1) ((2 : Int32)).toNatClampNeg).toUInt64 >>> ((32 : Int32) &&& 0x3f).toInt64.toUInt64).toInt64).toInt32))])) _
    refine XS.icmpYes X135.here hx rfl (pc0 := 68) (pc' := 88) rfl (hb hby d5_68) rfl (flt hc68).2.1 (by decide) (by decide) ?_
    show Steps p.tables e below (T135.setTop (mkF m 88 #[.val (.ref a1), .val (.int (3 : Int32)), .val (.ref b24), .val (.ref b32), .val (.int (2 : Int32))] [])) _
    refine XS.iload X135.here hx rfl (hb hby d5_88) rfl ?_
    show Steps p.tables e below (T135.setTop (mkF m 90 #[.val (.ref a1), .val (.int (3 : Int32)), .val (.ref b24), .val (.ref b32), .val (.int (2 : Int32))] [(.int (2 : Int32))])) _
    refine XS.ifNo X135.here hx rfl (hb hby d5_90) rfl ((if0 _ _).trans (tlt (by decide : (0 : Int32) < (2 : Int32))).2.2.2) ?_
    show Steps p.tables e below (T135.setTop (mkF m 93 #[.val (.ref a1), .val (.int (3 : Int32)), .val (.ref b24), .val (.ref b32), .val (.int (2 : Int32))] [])) _
    refine XS.aloadN X135.here hx rfl (hb hby d5_93) rfl rfl ?_
    show Steps p.tables e below (T135.setTop (mkF m 94 #[.val (.ref a1), .val (.int (3 : Int32)), .val (.ref b24), .val (.ref b32), .val (.int (2 : Int32))] [(.ref b24)])) _
    refine XS.iload X135.here hx rfl (hb hby d5_94) rfl ?_
    show Steps p.tables e below (T135.setTop (mkF m 96 #[.val (.ref a1), .val (.int (3 : Int32)), .val (.ref b24), .val (.ref b32), .val (.int (2 : Int32))] [(.int (2 : Int32)), (.ref b24)])) _
    exact kt
  obtain ⟨cl147, Ar147, S147, Ng147, H147⟩ := id F141_135
  have hj147 : ¬ (2 : Int32) < 0 ∧ (2 : Int32) < (3 : Int32) := ⟨by decide, by decide⟩
  have hin147 := inb_of S147 hj147
  have lt147 : ((2 : Int32)).toNatClampNeg < ((3 : Int32)).toNatClampNeg := by rw [← S147]; exact Nat.lt_of_not_le fun q => hin147 (Or.inr q)
  have hv147 : ((.int ((own_upd (own_upd (own_upd (fun _ => (0 : Int32)) ((0 : Int32)).toNatClampNeg (((((srt el_w_hits_a1) ((0 : Int32)).toNatClampNeg).toUInt64 >>> ((32 : Int32) &&& 0x3f).toInt64.toUInt64).toInt64).toInt32)) ((1 : Int32)).toNatClampNeg (((((srt el_w_hits_a1) ((1 : Int32)).toNatClampNeg).toUInt64 >>> ((32 : Int32) &&& 0x3f).toInt64.toUInt64).toInt64).toInt32)) ((2 : Int32)).toNatClampNeg (((((srt el_w_hits_a1) ((2 : Int32)).toNatClampNeg).toUInt64 >>> ((32 : Int32) &&& 0x3f).toInt64.toUInt64).toInt64).toInt32)) ((2 : Int32)).toNatClampNeg)) : Value) = (.int (((((srt el_w_hits_a1) ((2 : Int32)).toNatClampNeg).toUInt64 >>> ((32 : Int32) &&& 0x3f).toInt64.toUInt64).toInt64).toInt32)) := rfl
  have pre148 : ∀ t, Steps p.tables e below (T135.setTop (mkF m 102 #[.val (.ref a1), .val (.int (3 : Int32)), .val (.ref b24), .val (.ref b32), .val (.int (2 : Int32))] [(.int (1 : Int32)), (.ref b24), (.int (((((srt el_w_hits_a1) ((2 : Int32)).toNatClampNeg).toUInt64 >>> ((32 : Int32) &&& 0x3f).toInt64.toUInt64).toInt64).toInt32))])) t → Steps p.tables e below (s₁.setTop (entryFrame m #[(.ref a1)] 5)) t := fun t kt => by
    refine pre146 t ?_
    refine X135.iaload hx (j := (2 : Int32)) (v := (.int (((((srt el_w_hits_a1) ((2 : Int32)).toNatClampNeg).toUInt64 >>> ((32 : Int32) &&& 0x3f).toInt64.toUInt64).toInt64).toInt32))) (by rw [e135]; exact Ar147.1) (State.isArrayOf_alike hZ.alike Ar147.2.1) Ar147.2.2 hin147 ((H147 _ lt147).trans (congrArg some hv147)) (g := (mkF m 96 #[.val (.ref a1), .val (.int (3 : Int32)), .val (.ref b24), .val (.ref b32), .val (.int (2 : Int32))] [(.int (2 : Int32)), (.ref b24)])) rfl rfl (hb hby d5_96) _ ?_
    show Steps p.tables e below (T135.setTop (mkF m 97 #[.val (.ref a1), .val (.int (3 : Int32)), .val (.ref b24), .val (.ref b32), .val (.int (2 : Int32))] [(.int (((((srt el_w_hits_a1) ((2 : Int32)).toNatClampNeg).toUInt64 >>> ((32 : Int32) &&& 0x3f).toInt64.toUInt64).toInt64).toInt32))])) _
    refine XS.aloadN X135.here hx rfl (hb hby d5_97) rfl rfl ?_
    show Steps p.tables e below (T135.setTop (mkF m 98 #[.val (.ref a1), .val (.int (3 : Int32)), .val (.ref b24), .val (.ref b32), .val (.int (2 : Int32))] [(.ref b24), (.int (((((srt el_w_hits_a1) ((2 : Int32)).toNatClampNeg).toUInt64 >>> ((32 : Int32) &&& 0x3f).toInt64.toUInt64).toInt64).toInt32))])) _
    refine XS.iload X135.here hx rfl (hb hby d5_98) rfl ?_
    show Steps p.tables e below (T135.setTop (mkF m 100 #[.val (.ref a1), .val (.int (3 : Int32)), .val (.ref b24), .val (.ref b32), .val (.int (2 : Int32))] [(.int (2 : Int32)), (.ref b24), (.int (((((srt el_w_hits_a1) ((2 : Int32)).toNatClampNeg).toUInt64 >>> ((32 : Int32) &&& 0x3f).toInt64.toUInt64).toInt64).toInt32))])) _
    refine XS.iconst X135.here hx rfl (hb hby d5_100) ?_
    show Steps p.tables e below (T135.setTop (mkF m 101 #[.val (.ref a1), .val (.int (3 : Int32)), .val (.ref b24), .val (.ref b32), .val (.int (2 : Int32))] [(.int (1 : Int32)), (.int (2 : Int32)), (.ref b24), (.int (((((srt el_w_hits_a1) ((2 : Int32)).toNatClampNeg).toUInt64 >>> ((32 : Int32) &&& 0x3f).toInt64.toUInt64).toInt64).toInt32))])) _
    refine XS.isub X135.here hx rfl (hb hby d5_101) rfl ?_
    show Steps p.tables e below (T135.setTop (mkF m 102 #[.val (.ref a1), .val (.int (3 : Int32)), .val (.ref b24), .val (.ref b32), .val (.int (2 : Int32))] [(.int (1 : Int32)), (.ref b24), (.int (((((srt el_w_hits_a1) ((2 : Int32)).toNatClampNeg).toUInt64 >>> ((32 : Int32) &&& 0x3f).toInt64.toUInt64).toInt64).toInt32))])) _
    exact kt
  obtain ⟨cl149, Ar149, S149, Ng149, H149⟩ := id F141_135
  have hj149 : ¬ (1 : Int32) < 0 ∧ (1 : Int32) < (3 : Int32) := ⟨by decide, by decide⟩
  have hin149 := inb_of S149 hj149
  have lt149 : ((1 : Int32)).toNatClampNeg < ((3 : Int32)).toNatClampNeg := by rw [← S149]; exact Nat.lt_of_not_le fun q => hin149 (Or.inr q)
  have hv149 : ((.int ((own_upd (own_upd (own_upd (fun _ => (0 : Int32)) ((0 : Int32)).toNatClampNeg (((((srt el_w_hits_a1) ((0 : Int32)).toNatClampNeg).toUInt64 >>> ((32 : Int32) &&& 0x3f).toInt64.toUInt64).toInt64).toInt32)) ((1 : Int32)).toNatClampNeg (((((srt el_w_hits_a1) ((1 : Int32)).toNatClampNeg).toUInt64 >>> ((32 : Int32) &&& 0x3f).toInt64.toUInt64).toInt64).toInt32)) ((2 : Int32)).toNatClampNeg (((((srt el_w_hits_a1) ((2 : Int32)).toNatClampNeg).toUInt64 >>> ((32 : Int32) &&& 0x3f).toInt64.toUInt64).toInt64).toInt32)) ((1 : Int32)).toNatClampNeg)) : Value) = (.int (((((srt el_w_hits_a1) ((1 : Int32)).toNatClampNeg).toUInt64 >>> ((32 : Int32) &&& 0x3f).toInt64.toUInt64).toInt64).toInt32)) := rfl
  have hc103 : ¬ ((((((srt el_w_hits_a1) ((2 : Int32)).toNatClampNeg).toUInt64 >>> ((32 : Int32) &&& 0x3f).toInt64.toUInt64).toInt64).toInt32) = (((((srt el_w_hits_a1) ((1 : Int32)).toNatClampNeg).toUInt64 >>> ((32 : Int32) &&& 0x3f).toInt64.toUInt64).toInt64).toInt32)) := hd2
  have pre150 : ∀ t, Steps p.tables e below (T135.setTop (mkF m 129 #[.val (.ref a1), .val (.int (3 : Int32)), .val (.ref b24), .val (.ref b32), .val (.int (3 : Int32))] [])) t → Steps p.tables e below (s₁.setTop (entryFrame m #[(.ref a1)] 5)) t := fun t kt => by
    refine pre148 t ?_
    refine X135.iaload hx (j := (1 : Int32)) (v := (.int (((((srt el_w_hits_a1) ((1 : Int32)).toNatClampNeg).toUInt64 >>> ((32 : Int32) &&& 0x3f).toInt64.toUInt64).toInt64).toInt32))) (by rw [e135]; exact Ar149.1) (State.isArrayOf_alike hZ.alike Ar149.2.1) Ar149.2.2 hin149 ((H149 _ lt149).trans (congrArg some hv149)) (g := (mkF m 102 #[.val (.ref a1), .val (.int (3 : Int32)), .val (.ref b24), .val (.ref b32), .val (.int (2 : Int32))] [(.int (1 : Int32)), (.ref b24), (.int (((((srt el_w_hits_a1) ((2 : Int32)).toNatClampNeg).toUInt64 >>> ((32 : Int32) &&& 0x3f).toInt64.toUInt64).toInt64).toInt32))])) rfl rfl (hb hby d5_102) _ ?_
    show Steps p.tables e below (T135.setTop (mkF m 103 #[.val (.ref a1), .val (.int (3 : Int32)), .val (.ref b24), .val (.ref b32), .val (.int (2 : Int32))] [(.int (((((srt el_w_hits_a1) ((1 : Int32)).toNatClampNeg).toUInt64 >>> ((32 : Int32) &&& 0x3f).toInt64.toUInt64).toInt64).toInt32)), (.int (((((srt el_w_hits_a1) ((2 : Int32)).toNatClampNeg).toUInt64 >>> ((32 : Int32) &&& 0x3f).toInt64.toUInt64).toInt64).toInt32))])) _
    refine XS.icmpYes X135.here hx rfl (pc0 := 103) (pc' := 123) rfl (hb hby d5_103) rfl (feq hc103).2 (by decide) (by decide) ?_
    show Steps p.tables e below (T135.setTop (mkF m 123 #[.val (.ref a1), .val (.int (3 : Int32)), .val (.ref b24), .val (.ref b32), .val (.int (2 : Int32))] [])) _
    refine XS.iinc X135.here hx rfl (hb hby d5_123) rfl (l' := #[.val (.ref a1), .val (.int (3 : Int32)), .val (.ref b24), .val (.ref b32), .val (.int (3 : Int32))]) rfl ?_
    show Steps p.tables e below (T135.setTop (mkF m 126 #[.val (.ref a1), .val (.int (3 : Int32)), .val (.ref b24), .val (.ref b32), .val (.int (3 : Int32))] [])) _
    refine XS.goto X135.here hx rfl (pc0 := 126) (pc' := 30) rfl (hb hby d5_126) (by decide) (by decide) ?_
    show Steps p.tables e below (T135.setTop (mkF m 30 #[.val (.ref a1), .val (.int (3 : Int32)), .val (.ref b24), .val (.ref b32), .val (.int (3 : Int32))] [])) _
    refine XS.iload X135.here hx rfl (hb hby d5_30) rfl ?_
    show Steps p.tables e below (T135.setTop (mkF m 32 #[.val (.ref a1), .val (.int (3 : Int32)), .val (.ref b24), .val (.ref b32), .val (.int (3 : Int32))] [(.int (3 : Int32))])) _
    refine XS.iloadN X135.here hx rfl (hb hby d5_32) rfl ?_
    show Steps p.tables e below (T135.setTop (mkF m 33 #[.val (.ref a1), .val (.int (3 : Int32)), .val (.ref b24), .val (.ref b32), .val (.int (3 : Int32))] [(.int (3 : Int32)), (.int (3 : Int32))])) _
    refine XS.icmpYes X135.here hx rfl (pc0 := 33) (pc' := 129) rfl (hb hby d5_33) rfl (flt (by decide : ¬ ((3 : Int32) < (3 : Int32)))).2.1 (by decide) (by decide) ?_
    show Steps p.tables e below (T135.setTop (mkF m 129 #[.val (.ref a1), .val (.int (3 : Int32)), .val (.ref b24), .val (.ref b32), .val (.int (3 : Int32))] [])) _
    exact kt
  obtain ⟨T151, h151, X151, e151, E151, A151, D151, -, st151⟩ := newO X135 hx hZ hown (hw _ (mgE 49 rfl)) (hw _ (mgE 50 rfl)) (hw _ (mgE 51 rfl)) e135 (g := (mkF m 129 #[.val (.ref a1), .val (.int (3 : Int32)), .val (.ref b24), .val (.ref b32), .val (.int (3 : Int32))] [])) rfl (hb hby d5_129) (by decide) (by decide)
  obtain ⟨b151, g151⟩ : ∃ z, z = h135.size := ⟨_, rfl⟩
  rw [← g151] at A151 D151 st151
  have ne_a1_b151 : a1 ≠ b151 := Nat.ne_of_lt (Nat.lt_of_lt_of_le F136_135.lt (Nat.le_of_eq g151.symm))
  have ne_w_hits_a1_b151 : w_hits_a1 ≠ b151 := Nat.ne_of_lt (Nat.lt_of_lt_of_le F140_135.lt (Nat.le_of_eq g151.symm))
  have ne_b24_b151 : b24 ≠ b151 := Nat.ne_of_lt (Nat.lt_of_lt_of_le F141_135.lt (Nat.le_of_eq g151.symm))
  have ne_b32_b151 : b32 ≠ b151 := Nat.ne_of_lt (Nat.lt_of_lt_of_le V135_b32.lt (Nat.le_of_eq g151.symm))
  have g_b151 : n0 ≤ b151 := Nat.le_trans Z135 (Nat.le_of_eq g151.symm)
  have sz_b151 : h0.size ≤ b151 := Nat.le_trans K135.1 (Nat.le_of_eq g151.symm)
  have K151 : Keep h0 h151 [a1, w_hits_a1] := K135.ext E151
  have Z151 : n0 ≤ h151.size := Nat.le_trans Z135 E151.1
  have F152_151 := F136_135.ext E151
  have F153_151 := F137_135.ext E151
  have F154_151 := F138_135.ext E151
  have F155_151 := F139_135.ext E151
  have F156_151 := F140_135.ext E151
  have F157_151 := F141_135.ext E151
  have F158_151 := V135_b32.ext E151
  have F_words_b151 : Fld Z h151 b151 "com/example/hit_span_ranker/hitspanranker/chain/HitChain" "words" "I" (.int (0 : Int32)) := D151 (Or.inr (hw _ (mgE 57 rfl))) (ty := .int) (by decide)
  have F_positions_b151 : Fld Z h151 b151 "com/example/hit_span_ranker/hitspanranker/chain/HitChain" "positions" "[I" .null := D151 (Or.inr (hw _ (mgE 59 rfl))) (ty := (.array .int)) (by decide)
  have F_hitWords_b151 : Fld Z h151 b151 "com/example/hit_span_ranker/hitspanranker/chain/HitChain" "hitWords" "[I" .null := D151 (Or.inr (hw _ (mgE 61 rfl))) (ty := (.array .int)) (by decide)
  have pre159 : ∀ t, Steps p.tables e below (T151.setTop (mkF m 132 #[.val (.ref a1), .val (.int (3 : Int32)), .val (.ref b24), .val (.ref b32), .val (.int (3 : Int32))] [(.ref b151)])) t → Steps p.tables e below (s₁.setTop (entryFrame m #[(.ref a1)] 5)) t := fun t kt => pre150 t (st151 t kt)
  have pre160 : ∀ t, Steps p.tables e below (T151.setTop (mkF m 134 #[.val (.ref a1), .val (.int (3 : Int32)), .val (.ref b24), .val (.ref b32), .val (.int (3 : Int32))] [(.ref a1), (.ref b151), (.ref b151)])) t → Steps p.tables e below (s₁.setTop (entryFrame m #[(.ref a1)] 5)) t := fun t kt => by
    refine pre159 t ?_
    refine XS.dup X151.here hx rfl (hb hby d5_132) rfl rfl ?_
    show Steps p.tables e below (T151.setTop (mkF m 133 #[.val (.ref a1), .val (.int (3 : Int32)), .val (.ref b24), .val (.ref b32), .val (.int (3 : Int32))] [(.ref b151), (.ref b151)])) _
    refine XS.aloadN X151.here hx rfl (hb hby d5_133) rfl rfl ?_
    show Steps p.tables e below (T151.setTop (mkF m 134 #[.val (.ref a1), .val (.int (3 : Int32)), .val (.ref b24), .val (.ref b32), .val (.int (3 : Int32))] [(.ref a1), (.ref b151), (.ref b151)])) _
    exact kt
  obtain ⟨T161, X161, e161, st161⟩ := getF X151 hx hZ hown (host := "") (Or.inl (hw _ (mgE 17 rfl))) Via.refl e151 F155_151 (g := (mkF m 134 #[.val (.ref a1), .val (.int (3 : Int32)), .val (.ref b24), .val (.ref b32), .val (.int (3 : Int32))] [(.ref a1), (.ref b151), (.ref b151)])) rfl rfl (hb hby d5_134)
  have pre162 : ∀ t, Steps p.tables e below (T161.setTop (mkF m 137 #[.val (.ref a1), .val (.int (3 : Int32)), .val (.ref b24), .val (.ref b32), .val (.int (3 : Int32))] [(.int w_words_a1), (.ref b151), (.ref b151)])) t → Steps p.tables e below (s₁.setTop (entryFrame m #[(.ref a1)] 5)) t := fun t kt => pre160 t (st161 t kt)
  have pre163 : ∀ t, Steps p.tables e below (T161.setTop (mkF m 139 #[.val (.ref a1), .val (.int (3 : Int32)), .val (.ref b24), .val (.ref b32), .val (.int (3 : Int32))] [(.ref b32), (.ref b24), (.int w_words_a1), (.ref b151), (.ref b151)])) t → Steps p.tables e below (s₁.setTop (entryFrame m #[(.ref a1)] 5)) t := fun t kt => by
    refine pre162 t ?_
    refine XS.aloadN X161.here hx rfl (hb hby d5_137) rfl rfl ?_
    show Steps p.tables e below (T161.setTop (mkF m 138 #[.val (.ref a1), .val (.int (3 : Int32)), .val (.ref b24), .val (.ref b32), .val (.int (3 : Int32))] [(.ref b24), (.int w_words_a1), (.ref b151), (.ref b151)])) _
    refine XS.aloadN X161.here hx rfl (hb hby d5_138) rfl rfl ?_
    show Steps p.tables e below (T161.setTop (mkF m 139 #[.val (.ref a1), .val (.int (3 : Int32)), .val (.ref b24), .val (.ref b32), .val (.int (3 : Int32))] [(.ref b32), (.ref b24), (.int w_words_a1), (.ref b151), (.ref b151)])) _
    exact kt
  obtain ⟨_, _, ⟨T164, L164, k164, n164⟩, -, X164, ⟨Lc164, hQ164, l164, y164, z164⟩, st164⟩ := X161.specialBackNest hx (y := (⟨"com/example/hit_span_ranker/hitspanranker/chain/HitChain", "<init>", "(I[I[I)V"⟩ : MethodName)) rfl hown (mvL hZ (hw _ (mgE 52 rfl))) (mvT hZ (hw _ (mgE 53 rfl))) (mvT hZ (hw _ (mgE 54 rfl))) (by decide) (backOf (W := 1) (rm11 l Z a0 hw [] b151 w_words_a1 b24 b32 (.int (0 : Int32)) (.null) (.null) h151 n0 Z151 A151 F_words_b151 g_b151 F_positions_b151 F_hitWords_b151) hZ (hw _ (mgE 54 rfl)) (hw _ (mgE 51 rfl)) (by decide) (by decide)) (g := (mkF m 139 #[.val (.ref a1), .val (.int (3 : Int32)), .val (.ref b24), .val (.ref b32), .val (.int (3 : Int32))] [(.ref b32), (.ref b24), (.int w_words_a1), (.ref b151), (.ref b151)])) rfl (by rw [hml]; rfl) (Steps.refl _) (a := b151) (argsL := [(.int w_words_a1), (.ref b24), (.ref b32)]) (rest := [(.ref b151)]) (lenOf pd__I_I_I_V rfl) rfl (by show 2 * 0 + _ ≤ _; exact Nat.le_of_eq rfl) (hb hby d5_139) (fun _ _ => ⟨rfl, e161, (by decide : 3 + 0 ≤ _), (by decide : 9 + 0 ≤ _)⟩)
  dsimp only [Pt.U, Pt.locs, Pt.cells, Pt.slots] at X164 l164 y164 z164 st164 hQ164
  subst l164 y164 z164
  obtain ⟨rfl, N164q, K164, Q164_0, Q164_1, Q164_2, Q164_3⟩ := hQ164
  have F165_164 := F152_151.keep K164 (ninS ne_a1_b151 nin0)
  have F166_164 := F153_151.keep K164 (ninS ne_a1_b151 nin0)
  have F167_164 := F154_151.keep K164
  have F168_164 := F155_151.keep K164 (ninS ne_a1_b151 nin0)
  have F169_164 := F156_151.keep K164 (ninS ne_w_hits_a1_b151 nin0)
  have F170_164 := F157_151.keep K164 (ninS ne_b24_b151 nin0)
  have F171_164 := F158_151.keep K164 (ninS ne_b32_b151 nin0)
  have KK164 : Keep h0 T164.heap [a1, w_hits_a1] := Keep.trans K151 K164 (allS (Or.inr sz_b151) all0)
  have pre176 : ∀ t, Steps p.tables e below (T164.setTop (mkF m 142 #[.val (.ref a1), .val (.int (3 : Int32)), .val (.ref b24), .val (.ref b32), .val (.int (3 : Int32))] [(.ref b151)])) t → Steps p.tables e below (s₁.setTop (entryFrame m #[(.ref a1)] 5)) t := fun t kt => pre163 t (st164.trans kt)
  have N164 := Fr.app N135 N164q
  obtain ⟨fs, hr, hrun, hended, hW, hsame⟩ := X164.leave (v := some (.ref b151)) (fun h => by rw [Bd.returns] at h; cases h)
  refine ⟨_, _, pre176 _ ?_, hrun, hended, _, _, rfl, ?_, ⟨_, rfl⟩, hW, hsame.mono (by decide) (by decide)⟩
  · jvm_step X164.here [X164.here.top, hx, (hb hby d5_142), X164.method', Bd.returns, Value.isRef, FieldType.isReference]
    first | (intro acts; rw [hr _ acts rfl rfl rfl]) | rw [hr _ _ rfl rfl rfl]
    exact Steps.refl _
  · show Q5 Z a1 w_hits_a1 el_w_hits_a1 w_words_a1 h0 n0 _ T164.heap _
    exact ⟨b151, b32, b24, by first | rfl | (simp only []), N164, KK164, sz_b151, sz_b32, sz_b24, (Ne.symm ne_b32_b151), (Ne.symm ne_b24_b151), (Ne.symm ne_b24_b32), F167_164, Q164_0, F166_164, F165_164, F168_164, Q164_1, Q164_2, Q164_3, F171_164, F170_164, F169_164⟩
theorem d12_0 : decode prog_2_method_4_code 0 = .ok (.aload_n 0, 1) := by decide +kernel
theorem d12_1 : decode prog_2_method_4_code 1 = .ok (.getfield 13, 3) := by decide +kernel
theorem d12_4 : decode prog_2_method_4_code 4 = .ok (.arraylength, 1) := by decide +kernel
theorem d12_5 : decode prog_2_method_4_code 5 = .ok (.ireturn, 1) := by decide +kernel
theorem ef_12 (m : MethodId) (x0 : Addr) : entryFrame m #[(.ref x0)] 1 = mkF m 0 #[.val (.ref x0)] [] := by first | (simp [entryFrame, mkF, argsToLocals, Value.category]; done) | rfl
def Q12 (Z : State) (a1 : Addr) (w_positions_a1 : Addr) (z_w_positions_a1 : Int32) (el_w_positions_a1 : Nat → Int32) (h0 : Heap) (n0 : Nat) (v : Option Value) (h : Heap) (L : List Loc) : Prop := v = some (.int z_w_positions_a1) ∧ Fr n0 L ∧ h = h0
set_option maxRecDepth 65536 in
set_option maxHeartbeats 40000000 in
theorem rm12 (l : Launch) (Z : State) (a0 : Array Value) (hw : ∀ d ∈ tables_1, d.before a0 Z = true) (ws : List Jvm.Cond) (a1 : Addr) (w_positions_a1 : Addr) (z_w_positions_a1 : Int32) (el_w_positions_a1 : Nat → Int32) (h0 : Heap) (n0 : Nat) (Z0 : n0 ≤ h0.size) (F_positions_a1 : Fld Z h0 a1 "com/example/hit_span_ranker/hitspanranker/chain/HitChain" "positions" "[I" (.ref w_positions_a1)) (V_w_positions_a1 : Arf Z h0 w_positions_a1 .int z_w_positions_a1 (fun i => (.int (el_w_positions_a1 i)))) :
    MetFree l (⟨"com/example/hit_span_ranker/hitspanranker/chain/HitChain", "size", "()I"⟩ : MethodName) (head1 (Jvm.Cond.code (⟨"com/example/hit_span_ranker/hitspanranker/chain/HitChain", "size", "()I"⟩ : MethodName) prog_2_method_4_code 1 (some .int) :: ws) ({ frames := 0, cells := 0, slots := 0, locals := 0 } : Room)) (fun a U => a = #[(.ref a1)] ∧ Z.Warmed39 U.vm ∧ U.heap = h0) (fun _ _ _ _ _ => True) (fun _ U o U' => ∃ v L, o = .returned v ∧ Q12 Z a1 w_positions_a1 z_w_positions_a1 el_w_positions_a1 h0 n0 v U'.heap L ∧ FrameEnd U o U' L ({ frames := 0, cells := 0, slots := 0, locals := 0 } : Room).cells ({ frames := 0, cells := 0, slots := 0, locals := 0 } : Room).slots) := by
  refine MetFree.of_bodySF (plainFor_of_name pn_com_example_hit_span_ranker_hitspanranker_chain_HitChain) hisR ?_
  intro p e s m args below meth c s₁ Bd hml0 hP hK
  obtain ⟨rfl, hZ, hh⟩ := hP
  have hx := Bd.exec
  have hby := Bd.bytes
  have hml : c.maxLocals = 1 := hml0
  have hown : s.vm.findClass "com/example/hit_span_ranker/hitspanranker/chain/HitChain" = some m.cls := findClass_of_methodNamed Bd.named
  have hnm := (name_of_methodNamed Bd.named Bd.method).1
  have X0 : Stand p l e ({ frames := 0, cells := 0, slots := 0, locals := 0 } : Room) s m #[(.ref a1)] below meth c s₁ [] 0 0 := Stand.of_body Bd
  have e0 : s₁.heap = h0 := by rw [← hh, Bd.state]; rfl
  have N0 := Fr.nil n0
  have pre0 : ∀ t, Steps p.tables e below (s₁.setTop (mkF m 0 #[.val (.ref a1)] [])) t → Steps p.tables e below (s₁.setTop (entryFrame m #[(.ref a1)] 1)) t := fun t k => castTop (ef_12 m a1) k
  have pre1 : ∀ t, Steps p.tables e below (s₁.setTop (mkF m 1 #[.val (.ref a1)] [(.ref a1)])) t → Steps p.tables e below (s₁.setTop (entryFrame m #[(.ref a1)] 1)) t := fun t kt => by
    refine pre0 t ?_
    refine XS.aloadN X0.here hx rfl (hb hby d12_0) rfl rfl ?_
    show Steps p.tables e below (s₁.setTop (mkF m 1 #[.val (.ref a1)] [(.ref a1)])) _
    exact kt
  obtain ⟨T2, X2, e2, st2⟩ := getF X0 hx hZ hown (host := "") (Or.inl (hw _ (mgE 58 rfl))) Via.refl e0 F_positions_a1 (g := (mkF m 1 #[.val (.ref a1)] [(.ref a1)])) rfl rfl (hb hby d12_1)
  have pre3 : ∀ t, Steps p.tables e below (T2.setTop (mkF m 4 #[.val (.ref a1)] [(.ref w_positions_a1)])) t → Steps p.tables e below (s₁.setTop (entryFrame m #[(.ref a1)] 1)) t := fun t kt => pre1 t (st2 t kt)
  obtain ⟨cl4, Ar4, S4, Ng4, H4⟩ := id V_w_positions_a1
  have pre5 : ∀ t, Steps p.tables e below (T2.setTop (mkF m 5 #[.val (.ref a1)] [(.int z_w_positions_a1)])) t → Steps p.tables e below (s₁.setTop (entryFrame m #[(.ref a1)] 1)) t := fun t kt => by
    refine pre3 t ?_
    refine X2.arraylength hx (by rw [e2]; exact Ar4.1) (State.isArrayOf_alike hZ.alike Ar4.2.1) (g := (mkF m 4 #[.val (.ref a1)] [(.ref w_positions_a1)])) rfl rfl (hb hby d12_4) _ ?_
    rw [len_of S4 Ng4]
    show Steps p.tables e below (T2.setTop (mkF m 5 #[.val (.ref a1)] [(.int z_w_positions_a1)])) _
    exact kt
  obtain ⟨fs, hr, hrun, hended, hW, hsame⟩ := X2.leave (v := some (.int z_w_positions_a1)) (fun h => by rw [Bd.returns] at h; cases h)
  refine ⟨_, _, pre5 _ ?_, hrun, hended, _, _, rfl, ?_, ⟨_, rfl⟩, hW, hsame.mono (by decide) (by decide)⟩
  · exact retI X2 hx Bd.returns (hb hby d12_5) hr
  · show Q12 Z a1 w_positions_a1 z_w_positions_a1 el_w_positions_a1 h0 n0 _ T2.heap _
    rw [e2]
    exact ⟨by first | rfl | (simp only []), N0, rfl⟩
theorem d13_0 : decode prog_2_method_5_code 0 = .ok (.aload_n 0, 1) := by decide +kernel
theorem d13_1 : decode prog_2_method_5_code 1 = .ok (.getfield 13, 3) := by decide +kernel
theorem d13_4 : decode prog_2_method_5_code 4 = .ok (.iload_n 1, 1) := by decide +kernel
theorem d13_5 : decode prog_2_method_5_code 5 = .ok (.iaload, 1) := by decide +kernel
theorem d13_6 : decode prog_2_method_5_code 6 = .ok (.ireturn, 1) := by decide +kernel
theorem ef_13 (m : MethodId) (x0 : Addr) (x1 : Int32) : entryFrame m #[(.ref x0), (.int x1)] 2 = mkF m 0 #[.val (.ref x0), .val (.int x1)] [] := by first | (simp [entryFrame, mkF, argsToLocals, Value.category]; done) | rfl
def Q13 (Z : State) (a1 : Addr) (p2 : Int32) (w_positions_a1 : Addr) (z_w_positions_a1 : Int32) (el_w_positions_a1 : Nat → Int32) (h0 : Heap) (n0 : Nat) (v : Option Value) (h : Heap) (L : List Loc) : Prop := v = some (.int (el_w_positions_a1 (p2).toNatClampNeg)) ∧ Fr n0 L ∧ h = h0
set_option maxRecDepth 65536 in
set_option maxHeartbeats 40000000 in
theorem rm13 (l : Launch) (Z : State) (a0 : Array Value) (hw : ∀ d ∈ tables_1, d.before a0 Z = true) (ws : List Jvm.Cond) (a1 : Addr) (p2 : Int32) (w_positions_a1 : Addr) (z_w_positions_a1 : Int32) (el_w_positions_a1 : Nat → Int32) (h0 : Heap) (n0 : Nat) (Z0 : n0 ≤ h0.size) (F_positions_a1 : Fld Z h0 a1 "com/example/hit_span_ranker/hitspanranker/chain/HitChain" "positions" "[I" (.ref w_positions_a1)) (V_w_positions_a1 : Arf Z h0 w_positions_a1 .int z_w_positions_a1 (fun i => (.int (el_w_positions_a1 i)))) (hI : ¬ p2 < 0 ∧ p2 < z_w_positions_a1) :
    MetFree l (⟨"com/example/hit_span_ranker/hitspanranker/chain/HitChain", "position", "(I)I"⟩ : MethodName) (head1 (Jvm.Cond.code (⟨"com/example/hit_span_ranker/hitspanranker/chain/HitChain", "position", "(I)I"⟩ : MethodName) prog_2_method_5_code 2 (some .int) :: ws) ({ frames := 0, cells := 0, slots := 0, locals := 0 } : Room)) (fun a U => a = #[(.ref a1), (.int p2)] ∧ Z.Warmed39 U.vm ∧ U.heap = h0) (fun _ _ _ _ _ => True) (fun _ U o U' => ∃ v L, o = .returned v ∧ Q13 Z a1 p2 w_positions_a1 z_w_positions_a1 el_w_positions_a1 h0 n0 v U'.heap L ∧ FrameEnd U o U' L ({ frames := 0, cells := 0, slots := 0, locals := 0 } : Room).cells ({ frames := 0, cells := 0, slots := 0, locals := 0 } : Room).slots) := by
  refine MetFree.of_bodySF (plainFor_of_name pn_com_example_hit_span_ranker_hitspanranker_chain_HitChain) hisR ?_
  intro p e s m args below meth c s₁ Bd hml0 hP hK
  obtain ⟨rfl, hZ, hh⟩ := hP
  have hx := Bd.exec
  have hby := Bd.bytes
  have hml : c.maxLocals = 2 := hml0
  have hown : s.vm.findClass "com/example/hit_span_ranker/hitspanranker/chain/HitChain" = some m.cls := findClass_of_methodNamed Bd.named
  have hnm := (name_of_methodNamed Bd.named Bd.method).1
  have X0 : Stand p l e ({ frames := 0, cells := 0, slots := 0, locals := 0 } : Room) s m #[(.ref a1), (.int p2)] below meth c s₁ [] 0 0 := Stand.of_body Bd
  have e0 : s₁.heap = h0 := by rw [← hh, Bd.state]; rfl
  have N0 := Fr.nil n0
  have pre0 : ∀ t, Steps p.tables e below (s₁.setTop (mkF m 0 #[.val (.ref a1), .val (.int p2)] [])) t → Steps p.tables e below (s₁.setTop (entryFrame m #[(.ref a1), (.int p2)] 2)) t := fun t k => castTop (ef_13 m a1 p2) k
  have pre1 : ∀ t, Steps p.tables e below (s₁.setTop (mkF m 1 #[.val (.ref a1), .val (.int p2)] [(.ref a1)])) t → Steps p.tables e below (s₁.setTop (entryFrame m #[(.ref a1), (.int p2)] 2)) t := fun t kt => by
    refine pre0 t ?_
    refine XS.aloadN X0.here hx rfl (hb hby d13_0) rfl rfl ?_
    show Steps p.tables e below (s₁.setTop (mkF m 1 #[.val (.ref a1), .val (.int p2)] [(.ref a1)])) _
    exact kt
  obtain ⟨T2, X2, e2, st2⟩ := getF X0 hx hZ hown (host := "") (Or.inl (hw _ (mgE 58 rfl))) Via.refl e0 F_positions_a1 (g := (mkF m 1 #[.val (.ref a1), .val (.int p2)] [(.ref a1)])) rfl rfl (hb hby d13_1)
  have pre3 : ∀ t, Steps p.tables e below (T2.setTop (mkF m 4 #[.val (.ref a1), .val (.int p2)] [(.ref w_positions_a1)])) t → Steps p.tables e below (s₁.setTop (entryFrame m #[(.ref a1), (.int p2)] 2)) t := fun t kt => pre1 t (st2 t kt)
  have pre4 : ∀ t, Steps p.tables e below (T2.setTop (mkF m 5 #[.val (.ref a1), .val (.int p2)] [(.int p2), (.ref w_positions_a1)])) t → Steps p.tables e below (s₁.setTop (entryFrame m #[(.ref a1), (.int p2)] 2)) t := fun t kt => by
    refine pre3 t ?_
    refine XS.iloadN X2.here hx rfl (hb hby d13_4) rfl ?_
    show Steps p.tables e below (T2.setTop (mkF m 5 #[.val (.ref a1), .val (.int p2)] [(.int p2), (.ref w_positions_a1)])) _
    exact kt
  obtain ⟨cl5, Ar5, S5, Ng5, H5⟩ := id V_w_positions_a1
  have hj5 : ¬ p2 < 0 ∧ p2 < z_w_positions_a1 := hI
  have hin5 := inb_of S5 hj5
  have lt5 : (p2).toNatClampNeg < (z_w_positions_a1).toNatClampNeg := by rw [← S5]; exact Nat.lt_of_not_le fun q => hin5 (Or.inr q)
  have pre6 : ∀ t, Steps p.tables e below (T2.setTop (mkF m 6 #[.val (.ref a1), .val (.int p2)] [(.int (el_w_positions_a1 (p2).toNatClampNeg))])) t → Steps p.tables e below (s₁.setTop (entryFrame m #[(.ref a1), (.int p2)] 2)) t := fun t kt => by
    refine pre4 t ?_
    refine X2.iaload hx (j := p2) (v := (.int (el_w_positions_a1 (p2).toNatClampNeg))) (by rw [e2]; exact Ar5.1) (State.isArrayOf_alike hZ.alike Ar5.2.1) Ar5.2.2 hin5 (H5 _ lt5) (g := (mkF m 5 #[.val (.ref a1), .val (.int p2)] [(.int p2), (.ref w_positions_a1)])) rfl rfl (hb hby d13_5) _ ?_
    show Steps p.tables e below (T2.setTop (mkF m 6 #[.val (.ref a1), .val (.int p2)] [(.int (el_w_positions_a1 (p2).toNatClampNeg))])) _
    exact kt
  obtain ⟨fs, hr, hrun, hended, hW, hsame⟩ := X2.leave (v := some (.int (el_w_positions_a1 (p2).toNatClampNeg))) (fun h => by rw [Bd.returns] at h; cases h)
  refine ⟨_, _, pre6 _ ?_, hrun, hended, _, _, rfl, ?_, ⟨_, rfl⟩, hW, hsame.mono (by decide) (by decide)⟩
  · exact retI X2 hx Bd.returns (hb hby d13_6) hr
  · show Q13 Z a1 p2 w_positions_a1 z_w_positions_a1 el_w_positions_a1 h0 n0 _ T2.heap _
    rw [e2]
    exact ⟨by first | rfl | (simp only []), N0, rfl⟩
theorem d14_0 : decode prog_2_method_6_code 0 = .ok (.aload_n 0, 1) := by decide +kernel
theorem d14_1 : decode prog_2_method_6_code 1 = .ok (.getfield 17, 3) := by decide +kernel
theorem d14_4 : decode prog_2_method_6_code 4 = .ok (.iload_n 1, 1) := by decide +kernel
theorem d14_5 : decode prog_2_method_6_code 5 = .ok (.iaload, 1) := by decide +kernel
theorem d14_6 : decode prog_2_method_6_code 6 = .ok (.ireturn, 1) := by decide +kernel
theorem ef_14 (m : MethodId) (x0 : Addr) (x1 : Int32) : entryFrame m #[(.ref x0), (.int x1)] 2 = mkF m 0 #[.val (.ref x0), .val (.int x1)] [] := by first | (simp [entryFrame, mkF, argsToLocals, Value.category]; done) | rfl
def Q14 (Z : State) (a1 : Addr) (p2 : Int32) (w_hitWords_a1 : Addr) (z_w_hitWords_a1 : Int32) (el_w_hitWords_a1 : Nat → Int32) (h0 : Heap) (n0 : Nat) (v : Option Value) (h : Heap) (L : List Loc) : Prop := v = some (.int (el_w_hitWords_a1 (p2).toNatClampNeg)) ∧ Fr n0 L ∧ h = h0
set_option maxRecDepth 65536 in
set_option maxHeartbeats 40000000 in
theorem rm14 (l : Launch) (Z : State) (a0 : Array Value) (hw : ∀ d ∈ tables_1, d.before a0 Z = true) (ws : List Jvm.Cond) (a1 : Addr) (p2 : Int32) (w_hitWords_a1 : Addr) (z_w_hitWords_a1 : Int32) (el_w_hitWords_a1 : Nat → Int32) (h0 : Heap) (n0 : Nat) (Z0 : n0 ≤ h0.size) (F_hitWords_a1 : Fld Z h0 a1 "com/example/hit_span_ranker/hitspanranker/chain/HitChain" "hitWords" "[I" (.ref w_hitWords_a1)) (V_w_hitWords_a1 : Arf Z h0 w_hitWords_a1 .int z_w_hitWords_a1 (fun i => (.int (el_w_hitWords_a1 i)))) (hI : ¬ p2 < 0 ∧ p2 < z_w_hitWords_a1) :
    MetFree l (⟨"com/example/hit_span_ranker/hitspanranker/chain/HitChain", "word", "(I)I"⟩ : MethodName) (head1 (Jvm.Cond.code (⟨"com/example/hit_span_ranker/hitspanranker/chain/HitChain", "word", "(I)I"⟩ : MethodName) prog_2_method_6_code 2 (some .int) :: ws) ({ frames := 0, cells := 0, slots := 0, locals := 0 } : Room)) (fun a U => a = #[(.ref a1), (.int p2)] ∧ Z.Warmed39 U.vm ∧ U.heap = h0) (fun _ _ _ _ _ => True) (fun _ U o U' => ∃ v L, o = .returned v ∧ Q14 Z a1 p2 w_hitWords_a1 z_w_hitWords_a1 el_w_hitWords_a1 h0 n0 v U'.heap L ∧ FrameEnd U o U' L ({ frames := 0, cells := 0, slots := 0, locals := 0 } : Room).cells ({ frames := 0, cells := 0, slots := 0, locals := 0 } : Room).slots) := by
  refine MetFree.of_bodySF (plainFor_of_name pn_com_example_hit_span_ranker_hitspanranker_chain_HitChain) hisR ?_
  intro p e s m args below meth c s₁ Bd hml0 hP hK
  obtain ⟨rfl, hZ, hh⟩ := hP
  have hx := Bd.exec
  have hby := Bd.bytes
  have hml : c.maxLocals = 2 := hml0
  have hown : s.vm.findClass "com/example/hit_span_ranker/hitspanranker/chain/HitChain" = some m.cls := findClass_of_methodNamed Bd.named
  have hnm := (name_of_methodNamed Bd.named Bd.method).1
  have X0 : Stand p l e ({ frames := 0, cells := 0, slots := 0, locals := 0 } : Room) s m #[(.ref a1), (.int p2)] below meth c s₁ [] 0 0 := Stand.of_body Bd
  have e0 : s₁.heap = h0 := by rw [← hh, Bd.state]; rfl
  have N0 := Fr.nil n0
  have pre0 : ∀ t, Steps p.tables e below (s₁.setTop (mkF m 0 #[.val (.ref a1), .val (.int p2)] [])) t → Steps p.tables e below (s₁.setTop (entryFrame m #[(.ref a1), (.int p2)] 2)) t := fun t k => castTop (ef_14 m a1 p2) k
  have pre1 : ∀ t, Steps p.tables e below (s₁.setTop (mkF m 1 #[.val (.ref a1), .val (.int p2)] [(.ref a1)])) t → Steps p.tables e below (s₁.setTop (entryFrame m #[(.ref a1), (.int p2)] 2)) t := fun t kt => by
    refine pre0 t ?_
    refine XS.aloadN X0.here hx rfl (hb hby d14_0) rfl rfl ?_
    show Steps p.tables e below (s₁.setTop (mkF m 1 #[.val (.ref a1), .val (.int p2)] [(.ref a1)])) _
    exact kt
  obtain ⟨T2, X2, e2, st2⟩ := getF X0 hx hZ hown (host := "") (Or.inl (hw _ (mgE 60 rfl))) Via.refl e0 F_hitWords_a1 (g := (mkF m 1 #[.val (.ref a1), .val (.int p2)] [(.ref a1)])) rfl rfl (hb hby d14_1)
  have pre3 : ∀ t, Steps p.tables e below (T2.setTop (mkF m 4 #[.val (.ref a1), .val (.int p2)] [(.ref w_hitWords_a1)])) t → Steps p.tables e below (s₁.setTop (entryFrame m #[(.ref a1), (.int p2)] 2)) t := fun t kt => pre1 t (st2 t kt)
  have pre4 : ∀ t, Steps p.tables e below (T2.setTop (mkF m 5 #[.val (.ref a1), .val (.int p2)] [(.int p2), (.ref w_hitWords_a1)])) t → Steps p.tables e below (s₁.setTop (entryFrame m #[(.ref a1), (.int p2)] 2)) t := fun t kt => by
    refine pre3 t ?_
    refine XS.iloadN X2.here hx rfl (hb hby d14_4) rfl ?_
    show Steps p.tables e below (T2.setTop (mkF m 5 #[.val (.ref a1), .val (.int p2)] [(.int p2), (.ref w_hitWords_a1)])) _
    exact kt
  obtain ⟨cl5, Ar5, S5, Ng5, H5⟩ := id V_w_hitWords_a1
  have hj5 : ¬ p2 < 0 ∧ p2 < z_w_hitWords_a1 := hI
  have hin5 := inb_of S5 hj5
  have lt5 : (p2).toNatClampNeg < (z_w_hitWords_a1).toNatClampNeg := by rw [← S5]; exact Nat.lt_of_not_le fun q => hin5 (Or.inr q)
  have pre6 : ∀ t, Steps p.tables e below (T2.setTop (mkF m 6 #[.val (.ref a1), .val (.int p2)] [(.int (el_w_hitWords_a1 (p2).toNatClampNeg))])) t → Steps p.tables e below (s₁.setTop (entryFrame m #[(.ref a1), (.int p2)] 2)) t := fun t kt => by
    refine pre4 t ?_
    refine X2.iaload hx (j := p2) (v := (.int (el_w_hitWords_a1 (p2).toNatClampNeg))) (by rw [e2]; exact Ar5.1) (State.isArrayOf_alike hZ.alike Ar5.2.1) Ar5.2.2 hin5 (H5 _ lt5) (g := (mkF m 5 #[.val (.ref a1), .val (.int p2)] [(.int p2), (.ref w_hitWords_a1)])) rfl rfl (hb hby d14_5) _ ?_
    show Steps p.tables e below (T2.setTop (mkF m 6 #[.val (.ref a1), .val (.int p2)] [(.int (el_w_hitWords_a1 (p2).toNatClampNeg))])) _
    exact kt
  obtain ⟨fs, hr, hrun, hended, hW, hsame⟩ := X2.leave (v := some (.int (el_w_hitWords_a1 (p2).toNatClampNeg))) (fun h => by rw [Bd.returns] at h; cases h)
  refine ⟨_, _, pre6 _ ?_, hrun, hended, _, _, rfl, ?_, ⟨_, rfl⟩, hW, hsame.mono (by decide) (by decide)⟩
  · exact retI X2 hx Bd.returns (hb hby d14_6) hr
  · show Q14 Z a1 p2 w_hitWords_a1 z_w_hitWords_a1 el_w_hitWords_a1 h0 n0 _ T2.heap _
    rw [e2]
    exact ⟨by first | rfl | (simp only []), N0, rfl⟩
theorem d15_0 : decode method_2_code 0 = .ok (.iload_n 0, 1) := by decide +kernel
theorem d15_1 : decode method_2_code 1 = .ok (.iload_n 3, 1) := by decide +kernel
theorem d15_2 : decode method_2_code 2 = .ok (.if_icmp .ne 8, 3) := by decide +kernel
theorem d15_5 : decode method_2_code 5 = .ok (.iload_n 1, 1) := by decide +kernel
theorem d15_6 : decode method_2_code 6 = .ok (.iload_n 2, 1) := by decide +kernel
theorem d15_7 : decode method_2_code 7 = .ok (.if_icmp .eq 27, 3) := by decide +kernel
theorem d15_10 : decode method_2_code 10 = .ok (.iload_n 0, 1) := by decide +kernel
theorem d15_11 : decode method_2_code 11 = .ok (.iload 5, 2) := by decide +kernel
theorem d15_13 : decode method_2_code 13 = .ok (.if_icmp .ne 9, 3) := by decide +kernel
theorem d15_16 : decode method_2_code 16 = .ok (.iload_n 1, 1) := by decide +kernel
theorem d15_17 : decode method_2_code 17 = .ok (.iload 4, 2) := by decide +kernel
theorem d15_19 : decode method_2_code 19 = .ok (.if_icmp .eq 15, 3) := by decide +kernel
theorem d15_22 : decode method_2_code 22 = .ok (.iload_n 0, 1) := by decide +kernel
theorem d15_23 : decode method_2_code 23 = .ok (.iload 7, 2) := by decide +kernel
theorem d15_25 : decode method_2_code 25 = .ok (.if_icmp .ne 13, 3) := by decide +kernel
theorem d15_28 : decode method_2_code 28 = .ok (.iload_n 1, 1) := by decide +kernel
theorem d15_29 : decode method_2_code 29 = .ok (.iload 6, 2) := by decide +kernel
theorem d15_31 : decode method_2_code 31 = .ok (.if_icmp .ne 7, 3) := by decide +kernel
theorem d15_34 : decode method_2_code 34 = .ok (.iconst 1, 1) := by decide +kernel
theorem d15_35 : decode method_2_code 35 = .ok (.goto 4, 3) := by decide +kernel
theorem d15_38 : decode method_2_code 38 = .ok (.iconst 0, 1) := by decide +kernel
theorem d15_39 : decode method_2_code 39 = .ok (.ireturn, 1) := by decide +kernel
theorem pn_com_example_hit_span_ranker_hitspanranker_chain_BuilderAddPinLaw : plainName "com/example/hit_span_ranker/hitspanranker/chain/BuilderAddPinLaw" = true := by first | (simp [plainName, overriddenIn]; done) | decide +kernel
theorem ef_15 (m : MethodId) (x0 : Int32) (x1 : Int32) (x2 : Int32) (x3 : Int32) (x4 : Int32) (x5 : Int32) (x6 : Int32) (x7 : Int32) : entryFrame m #[(.int x0), (.int x1), (.int x2), (.int x3), (.int x4), (.int x5), (.int x6), (.int x7)] 8 = mkF m 0 #[.val (.int x0), .val (.int x1), .val (.int x2), .val (.int x3), .val (.int x4), .val (.int x5), .val (.int x6), .val (.int x7)] [] := by first | (simp [entryFrame, mkF, argsToLocals, Value.category]; done) | rfl
def r15 (p1 : Int32) (p2 : Int32) (p3 : Int32) (p4 : Int32) (p5 : Int32) (p6 : Int32) (p7 : Int32) (p8 : Int32) : Int32 := (if p1 = p4 then (if p2 = p3 then (1 : Int32) else (if p1 = p6 then (if p2 = p5 then (1 : Int32) else (if p1 = p8 then (if p2 = p7 then (1 : Int32) else (0 : Int32)) else (0 : Int32))) else (if p1 = p8 then (if p2 = p7 then (1 : Int32) else (0 : Int32)) else (0 : Int32)))) else (if p1 = p6 then (if p2 = p5 then (1 : Int32) else (if p1 = p8 then (if p2 = p7 then (1 : Int32) else (0 : Int32)) else (0 : Int32))) else (if p1 = p8 then (if p2 = p7 then (1 : Int32) else (0 : Int32)) else (0 : Int32))))
def Q15 (Z : State) (p1 : Int32) (p2 : Int32) (p3 : Int32) (p4 : Int32) (p5 : Int32) (p6 : Int32) (p7 : Int32) (p8 : Int32) (h0 : Heap) (n0 : Nat) (v : Option Value) (h : Heap) (L : List Loc) : Prop := v = some (.int (r15 p1 p2 p3 p4 p5 p6 p7 p8)) ∧ Fr n0 L ∧ h = h0
set_option maxRecDepth 65536 in
set_option maxHeartbeats 40000000 in
theorem rm15 (l : Launch) (Z : State) (a0 : Array Value) (hw : ∀ d ∈ tables_1, d.before a0 Z = true) (ws : List Jvm.Cond) (p1 : Int32) (p2 : Int32) (p3 : Int32) (p4 : Int32) (p5 : Int32) (p6 : Int32) (p7 : Int32) (p8 : Int32) (h0 : Heap) (n0 : Nat) (Z0 : n0 ≤ h0.size)  :
    MetFree l (⟨"com/example/hit_span_ranker/hitspanranker/chain/BuilderAddPinLaw", "isAdded", "(IIIIIIII)Z"⟩ : MethodName) (head1 (Jvm.Cond.code (⟨"com/example/hit_span_ranker/hitspanranker/chain/BuilderAddPinLaw", "isAdded", "(IIIIIIII)Z"⟩ : MethodName) method_2_code 8 (some .boolean) :: ws) ({ frames := 0, cells := 0, slots := 0, locals := 0 } : Room)) (fun a U => a = #[(.int p1), (.int p2), (.int p3), (.int p4), (.int p5), (.int p6), (.int p7), (.int p8)] ∧ Z.Warmed39 U.vm ∧ U.heap = h0) (fun _ _ _ _ _ => True) (fun _ U o U' => ∃ v L, o = .returned v ∧ Q15 Z p1 p2 p3 p4 p5 p6 p7 p8 h0 n0 v U'.heap L ∧ FrameEnd U o U' L ({ frames := 0, cells := 0, slots := 0, locals := 0 } : Room).cells ({ frames := 0, cells := 0, slots := 0, locals := 0 } : Room).slots) := by
  refine MetFree.of_bodySF (plainFor_of_name pn_com_example_hit_span_ranker_hitspanranker_chain_BuilderAddPinLaw) hisR ?_
  intro p e s m args below meth c s₁ Bd hml0 hP hK
  obtain ⟨rfl, hZ, hh⟩ := hP
  have hx := Bd.exec
  have hby := Bd.bytes
  have hml : c.maxLocals = 8 := hml0
  have hown : s.vm.findClass "com/example/hit_span_ranker/hitspanranker/chain/BuilderAddPinLaw" = some m.cls := findClass_of_methodNamed Bd.named
  have hnm := (name_of_methodNamed Bd.named Bd.method).1
  have X0 : Stand p l e ({ frames := 0, cells := 0, slots := 0, locals := 0 } : Room) s m #[(.int p1), (.int p2), (.int p3), (.int p4), (.int p5), (.int p6), (.int p7), (.int p8)] below meth c s₁ [] 0 0 := Stand.of_body Bd
  have e0 : s₁.heap = h0 := by rw [← hh, Bd.state]; rfl
  have N0 := Fr.nil n0
  have pre0 : ∀ t, Steps p.tables e below (s₁.setTop (mkF m 0 #[.val (.int p1), .val (.int p2), .val (.int p3), .val (.int p4), .val (.int p5), .val (.int p6), .val (.int p7), .val (.int p8)] [])) t → Steps p.tables e below (s₁.setTop (entryFrame m #[(.int p1), (.int p2), (.int p3), (.int p4), (.int p5), (.int p6), (.int p7), (.int p8)] 8)) t := fun t k => castTop (ef_15 m p1 p2 p3 p4 p5 p6 p7 p8) k
  by_cases hc2 : p1 = p4
  · skip
    by_cases hc7 : p2 = p3
    · skip
      have pre1 : ∀ t, Steps p.tables e below (s₁.setTop (mkF m 39 #[.val (.int p1), .val (.int p2), .val (.int p3), .val (.int p4), .val (.int p5), .val (.int p6), .val (.int p7), .val (.int p8)] [(.int (1 : Int32))])) t → Steps p.tables e below (s₁.setTop (entryFrame m #[(.int p1), (.int p2), (.int p3), (.int p4), (.int p5), (.int p6), (.int p7), (.int p8)] 8)) t := fun t kt => by
        refine pre0 t ?_
        refine XS.iloadN X0.here hx rfl (hb hby d15_0) rfl ?_
        show Steps p.tables e below (s₁.setTop (mkF m 1 #[.val (.int p1), .val (.int p2), .val (.int p3), .val (.int p4), .val (.int p5), .val (.int p6), .val (.int p7), .val (.int p8)] [(.int p1)])) _
        refine XS.iloadN X0.here hx rfl (hb hby d15_1) rfl ?_
        show Steps p.tables e below (s₁.setTop (mkF m 2 #[.val (.int p1), .val (.int p2), .val (.int p3), .val (.int p4), .val (.int p5), .val (.int p6), .val (.int p7), .val (.int p8)] [(.int p4), (.int p1)])) _
        refine XS.icmpNo X0.here hx rfl (hb hby d15_2) rfl (teq hc2).2 ?_
        show Steps p.tables e below (s₁.setTop (mkF m 5 #[.val (.int p1), .val (.int p2), .val (.int p3), .val (.int p4), .val (.int p5), .val (.int p6), .val (.int p7), .val (.int p8)] [])) _
        refine XS.iloadN X0.here hx rfl (hb hby d15_5) rfl ?_
        show Steps p.tables e below (s₁.setTop (mkF m 6 #[.val (.int p1), .val (.int p2), .val (.int p3), .val (.int p4), .val (.int p5), .val (.int p6), .val (.int p7), .val (.int p8)] [(.int p2)])) _
        refine XS.iloadN X0.here hx rfl (hb hby d15_6) rfl ?_
        show Steps p.tables e below (s₁.setTop (mkF m 7 #[.val (.int p1), .val (.int p2), .val (.int p3), .val (.int p4), .val (.int p5), .val (.int p6), .val (.int p7), .val (.int p8)] [(.int p3), (.int p2)])) _
        refine XS.icmpYes X0.here hx rfl (pc0 := 7) (pc' := 34) rfl (hb hby d15_7) rfl (teq hc7).1 (by decide) (by decide) ?_
        show Steps p.tables e below (s₁.setTop (mkF m 34 #[.val (.int p1), .val (.int p2), .val (.int p3), .val (.int p4), .val (.int p5), .val (.int p6), .val (.int p7), .val (.int p8)] [])) _
        refine XS.iconst X0.here hx rfl (hb hby d15_34) ?_
        show Steps p.tables e below (s₁.setTop (mkF m 35 #[.val (.int p1), .val (.int p2), .val (.int p3), .val (.int p4), .val (.int p5), .val (.int p6), .val (.int p7), .val (.int p8)] [(.int (1 : Int32))])) _
        refine XS.goto X0.here hx rfl (pc0 := 35) (pc' := 39) rfl (hb hby d15_35) (by decide) (by decide) ?_
        show Steps p.tables e below (s₁.setTop (mkF m 39 #[.val (.int p1), .val (.int p2), .val (.int p3), .val (.int p4), .val (.int p5), .val (.int p6), .val (.int p7), .val (.int p8)] [(.int (1 : Int32))])) _
        exact kt
      obtain ⟨fs, hr, hrun, hended, hW, hsame⟩ := X0.leave (v := some (.int (1 : Int32))) (fun h => by rw [Bd.returns] at h; cases h)
      refine ⟨_, _, pre1 _ ?_, hrun, hended, _, _, rfl, ?_, ⟨_, rfl⟩, hW, hsame.mono (by decide) (by decide)⟩
      · exact retN X0 hx (t := .boolean) Bd.returns (by simp) (hb hby d15_39) hr
      · show Q15 Z p1 p2 p3 p4 p5 p6 p7 p8 h0 n0 _ s₁.heap _
        rw [e0]
        exact ⟨by first | rfl | (simp only [r15, if_pos hc2, if_pos hc7]), N0, rfl⟩
    · skip
      by_cases hc13 : p1 = p6
      · skip
        by_cases hc19 : p2 = p5
        · skip
          have pre2 : ∀ t, Steps p.tables e below (s₁.setTop (mkF m 39 #[.val (.int p1), .val (.int p2), .val (.int p3), .val (.int p4), .val (.int p5), .val (.int p6), .val (.int p7), .val (.int p8)] [(.int (1 : Int32))])) t → Steps p.tables e below (s₁.setTop (entryFrame m #[(.int p1), (.int p2), (.int p3), (.int p4), (.int p5), (.int p6), (.int p7), (.int p8)] 8)) t := fun t kt => by
            refine pre0 t ?_
            refine XS.iloadN X0.here hx rfl (hb hby d15_0) rfl ?_
            show Steps p.tables e below (s₁.setTop (mkF m 1 #[.val (.int p1), .val (.int p2), .val (.int p3), .val (.int p4), .val (.int p5), .val (.int p6), .val (.int p7), .val (.int p8)] [(.int p1)])) _
            refine XS.iloadN X0.here hx rfl (hb hby d15_1) rfl ?_
            show Steps p.tables e below (s₁.setTop (mkF m 2 #[.val (.int p1), .val (.int p2), .val (.int p3), .val (.int p4), .val (.int p5), .val (.int p6), .val (.int p7), .val (.int p8)] [(.int p4), (.int p1)])) _
            refine XS.icmpNo X0.here hx rfl (hb hby d15_2) rfl (teq hc2).2 ?_
            show Steps p.tables e below (s₁.setTop (mkF m 5 #[.val (.int p1), .val (.int p2), .val (.int p3), .val (.int p4), .val (.int p5), .val (.int p6), .val (.int p7), .val (.int p8)] [])) _
            refine XS.iloadN X0.here hx rfl (hb hby d15_5) rfl ?_
            show Steps p.tables e below (s₁.setTop (mkF m 6 #[.val (.int p1), .val (.int p2), .val (.int p3), .val (.int p4), .val (.int p5), .val (.int p6), .val (.int p7), .val (.int p8)] [(.int p2)])) _
            refine XS.iloadN X0.here hx rfl (hb hby d15_6) rfl ?_
            show Steps p.tables e below (s₁.setTop (mkF m 7 #[.val (.int p1), .val (.int p2), .val (.int p3), .val (.int p4), .val (.int p5), .val (.int p6), .val (.int p7), .val (.int p8)] [(.int p3), (.int p2)])) _
            refine XS.icmpNo X0.here hx rfl (hb hby d15_7) rfl (feq hc7).1 ?_
            show Steps p.tables e below (s₁.setTop (mkF m 10 #[.val (.int p1), .val (.int p2), .val (.int p3), .val (.int p4), .val (.int p5), .val (.int p6), .val (.int p7), .val (.int p8)] [])) _
            refine XS.iloadN X0.here hx rfl (hb hby d15_10) rfl ?_
            show Steps p.tables e below (s₁.setTop (mkF m 11 #[.val (.int p1), .val (.int p2), .val (.int p3), .val (.int p4), .val (.int p5), .val (.int p6), .val (.int p7), .val (.int p8)] [(.int p1)])) _
            refine XS.iload X0.here hx rfl (hb hby d15_11) rfl ?_
            show Steps p.tables e below (s₁.setTop (mkF m 13 #[.val (.int p1), .val (.int p2), .val (.int p3), .val (.int p4), .val (.int p5), .val (.int p6), .val (.int p7), .val (.int p8)] [(.int p6), (.int p1)])) _
            refine XS.icmpNo X0.here hx rfl (hb hby d15_13) rfl (teq hc13).2 ?_
            show Steps p.tables e below (s₁.setTop (mkF m 16 #[.val (.int p1), .val (.int p2), .val (.int p3), .val (.int p4), .val (.int p5), .val (.int p6), .val (.int p7), .val (.int p8)] [])) _
            refine XS.iloadN X0.here hx rfl (hb hby d15_16) rfl ?_
            show Steps p.tables e below (s₁.setTop (mkF m 17 #[.val (.int p1), .val (.int p2), .val (.int p3), .val (.int p4), .val (.int p5), .val (.int p6), .val (.int p7), .val (.int p8)] [(.int p2)])) _
            refine XS.iload X0.here hx rfl (hb hby d15_17) rfl ?_
            show Steps p.tables e below (s₁.setTop (mkF m 19 #[.val (.int p1), .val (.int p2), .val (.int p3), .val (.int p4), .val (.int p5), .val (.int p6), .val (.int p7), .val (.int p8)] [(.int p5), (.int p2)])) _
            refine XS.icmpYes X0.here hx rfl (pc0 := 19) (pc' := 34) rfl (hb hby d15_19) rfl (teq hc19).1 (by decide) (by decide) ?_
            show Steps p.tables e below (s₁.setTop (mkF m 34 #[.val (.int p1), .val (.int p2), .val (.int p3), .val (.int p4), .val (.int p5), .val (.int p6), .val (.int p7), .val (.int p8)] [])) _
            refine XS.iconst X0.here hx rfl (hb hby d15_34) ?_
            show Steps p.tables e below (s₁.setTop (mkF m 35 #[.val (.int p1), .val (.int p2), .val (.int p3), .val (.int p4), .val (.int p5), .val (.int p6), .val (.int p7), .val (.int p8)] [(.int (1 : Int32))])) _
            refine XS.goto X0.here hx rfl (pc0 := 35) (pc' := 39) rfl (hb hby d15_35) (by decide) (by decide) ?_
            show Steps p.tables e below (s₁.setTop (mkF m 39 #[.val (.int p1), .val (.int p2), .val (.int p3), .val (.int p4), .val (.int p5), .val (.int p6), .val (.int p7), .val (.int p8)] [(.int (1 : Int32))])) _
            exact kt
          obtain ⟨fs, hr, hrun, hended, hW, hsame⟩ := X0.leave (v := some (.int (1 : Int32))) (fun h => by rw [Bd.returns] at h; cases h)
          refine ⟨_, _, pre2 _ ?_, hrun, hended, _, _, rfl, ?_, ⟨_, rfl⟩, hW, hsame.mono (by decide) (by decide)⟩
          · exact retN X0 hx (t := .boolean) Bd.returns (by simp) (hb hby d15_39) hr
          · show Q15 Z p1 p2 p3 p4 p5 p6 p7 p8 h0 n0 _ s₁.heap _
            rw [e0]
            exact ⟨by first | rfl | (simp only [r15, if_pos hc2, if_neg hc7, if_pos hc13, if_pos hc19]), N0, rfl⟩
        · skip
          by_cases hc25 : p1 = p8
          · skip
            by_cases hc31 : p2 = p7
            · skip
              have pre3 : ∀ t, Steps p.tables e below (s₁.setTop (mkF m 39 #[.val (.int p1), .val (.int p2), .val (.int p3), .val (.int p4), .val (.int p5), .val (.int p6), .val (.int p7), .val (.int p8)] [(.int (1 : Int32))])) t → Steps p.tables e below (s₁.setTop (entryFrame m #[(.int p1), (.int p2), (.int p3), (.int p4), (.int p5), (.int p6), (.int p7), (.int p8)] 8)) t := fun t kt => by
                refine pre0 t ?_
                refine XS.iloadN X0.here hx rfl (hb hby d15_0) rfl ?_
                show Steps p.tables e below (s₁.setTop (mkF m 1 #[.val (.int p1), .val (.int p2), .val (.int p3), .val (.int p4), .val (.int p5), .val (.int p6), .val (.int p7), .val (.int p8)] [(.int p1)])) _
                refine XS.iloadN X0.here hx rfl (hb hby d15_1) rfl ?_
                show Steps p.tables e below (s₁.setTop (mkF m 2 #[.val (.int p1), .val (.int p2), .val (.int p3), .val (.int p4), .val (.int p5), .val (.int p6), .val (.int p7), .val (.int p8)] [(.int p4), (.int p1)])) _
                refine XS.icmpNo X0.here hx rfl (hb hby d15_2) rfl (teq hc2).2 ?_
                show Steps p.tables e below (s₁.setTop (mkF m 5 #[.val (.int p1), .val (.int p2), .val (.int p3), .val (.int p4), .val (.int p5), .val (.int p6), .val (.int p7), .val (.int p8)] [])) _
                refine XS.iloadN X0.here hx rfl (hb hby d15_5) rfl ?_
                show Steps p.tables e below (s₁.setTop (mkF m 6 #[.val (.int p1), .val (.int p2), .val (.int p3), .val (.int p4), .val (.int p5), .val (.int p6), .val (.int p7), .val (.int p8)] [(.int p2)])) _
                refine XS.iloadN X0.here hx rfl (hb hby d15_6) rfl ?_
                show Steps p.tables e below (s₁.setTop (mkF m 7 #[.val (.int p1), .val (.int p2), .val (.int p3), .val (.int p4), .val (.int p5), .val (.int p6), .val (.int p7), .val (.int p8)] [(.int p3), (.int p2)])) _
                refine XS.icmpNo X0.here hx rfl (hb hby d15_7) rfl (feq hc7).1 ?_
                show Steps p.tables e below (s₁.setTop (mkF m 10 #[.val (.int p1), .val (.int p2), .val (.int p3), .val (.int p4), .val (.int p5), .val (.int p6), .val (.int p7), .val (.int p8)] [])) _
                refine XS.iloadN X0.here hx rfl (hb hby d15_10) rfl ?_
                show Steps p.tables e below (s₁.setTop (mkF m 11 #[.val (.int p1), .val (.int p2), .val (.int p3), .val (.int p4), .val (.int p5), .val (.int p6), .val (.int p7), .val (.int p8)] [(.int p1)])) _
                refine XS.iload X0.here hx rfl (hb hby d15_11) rfl ?_
                show Steps p.tables e below (s₁.setTop (mkF m 13 #[.val (.int p1), .val (.int p2), .val (.int p3), .val (.int p4), .val (.int p5), .val (.int p6), .val (.int p7), .val (.int p8)] [(.int p6), (.int p1)])) _
                refine XS.icmpNo X0.here hx rfl (hb hby d15_13) rfl (teq hc13).2 ?_
                show Steps p.tables e below (s₁.setTop (mkF m 16 #[.val (.int p1), .val (.int p2), .val (.int p3), .val (.int p4), .val (.int p5), .val (.int p6), .val (.int p7), .val (.int p8)] [])) _
                refine XS.iloadN X0.here hx rfl (hb hby d15_16) rfl ?_
                show Steps p.tables e below (s₁.setTop (mkF m 17 #[.val (.int p1), .val (.int p2), .val (.int p3), .val (.int p4), .val (.int p5), .val (.int p6), .val (.int p7), .val (.int p8)] [(.int p2)])) _
                refine XS.iload X0.here hx rfl (hb hby d15_17) rfl ?_
                show Steps p.tables e below (s₁.setTop (mkF m 19 #[.val (.int p1), .val (.int p2), .val (.int p3), .val (.int p4), .val (.int p5), .val (.int p6), .val (.int p7), .val (.int p8)] [(.int p5), (.int p2)])) _
                refine XS.icmpNo X0.here hx rfl (hb hby d15_19) rfl (feq hc19).1 ?_
                show Steps p.tables e below (s₁.setTop (mkF m 22 #[.val (.int p1), .val (.int p2), .val (.int p3), .val (.int p4), .val (.int p5), .val (.int p6), .val (.int p7), .val (.int p8)] [])) _
                refine XS.iloadN X0.here hx rfl (hb hby d15_22) rfl ?_
                show Steps p.tables e below (s₁.setTop (mkF m 23 #[.val (.int p1), .val (.int p2), .val (.int p3), .val (.int p4), .val (.int p5), .val (.int p6), .val (.int p7), .val (.int p8)] [(.int p1)])) _
                refine XS.iload X0.here hx rfl (hb hby d15_23) rfl ?_
                show Steps p.tables e below (s₁.setTop (mkF m 25 #[.val (.int p1), .val (.int p2), .val (.int p3), .val (.int p4), .val (.int p5), .val (.int p6), .val (.int p7), .val (.int p8)] [(.int p8), (.int p1)])) _
                refine XS.icmpNo X0.here hx rfl (hb hby d15_25) rfl (teq hc25).2 ?_
                show Steps p.tables e below (s₁.setTop (mkF m 28 #[.val (.int p1), .val (.int p2), .val (.int p3), .val (.int p4), .val (.int p5), .val (.int p6), .val (.int p7), .val (.int p8)] [])) _
                refine XS.iloadN X0.here hx rfl (hb hby d15_28) rfl ?_
                show Steps p.tables e below (s₁.setTop (mkF m 29 #[.val (.int p1), .val (.int p2), .val (.int p3), .val (.int p4), .val (.int p5), .val (.int p6), .val (.int p7), .val (.int p8)] [(.int p2)])) _
                refine XS.iload X0.here hx rfl (hb hby d15_29) rfl ?_
                show Steps p.tables e below (s₁.setTop (mkF m 31 #[.val (.int p1), .val (.int p2), .val (.int p3), .val (.int p4), .val (.int p5), .val (.int p6), .val (.int p7), .val (.int p8)] [(.int p7), (.int p2)])) _
                refine XS.icmpNo X0.here hx rfl (hb hby d15_31) rfl (teq hc31).2 ?_
                show Steps p.tables e below (s₁.setTop (mkF m 34 #[.val (.int p1), .val (.int p2), .val (.int p3), .val (.int p4), .val (.int p5), .val (.int p6), .val (.int p7), .val (.int p8)] [])) _
                refine XS.iconst X0.here hx rfl (hb hby d15_34) ?_
                show Steps p.tables e below (s₁.setTop (mkF m 35 #[.val (.int p1), .val (.int p2), .val (.int p3), .val (.int p4), .val (.int p5), .val (.int p6), .val (.int p7), .val (.int p8)] [(.int (1 : Int32))])) _
                refine XS.goto X0.here hx rfl (pc0 := 35) (pc' := 39) rfl (hb hby d15_35) (by decide) (by decide) ?_
                show Steps p.tables e below (s₁.setTop (mkF m 39 #[.val (.int p1), .val (.int p2), .val (.int p3), .val (.int p4), .val (.int p5), .val (.int p6), .val (.int p7), .val (.int p8)] [(.int (1 : Int32))])) _
                exact kt
              obtain ⟨fs, hr, hrun, hended, hW, hsame⟩ := X0.leave (v := some (.int (1 : Int32))) (fun h => by rw [Bd.returns] at h; cases h)
              refine ⟨_, _, pre3 _ ?_, hrun, hended, _, _, rfl, ?_, ⟨_, rfl⟩, hW, hsame.mono (by decide) (by decide)⟩
              · exact retN X0 hx (t := .boolean) Bd.returns (by simp) (hb hby d15_39) hr
              · show Q15 Z p1 p2 p3 p4 p5 p6 p7 p8 h0 n0 _ s₁.heap _
                rw [e0]
                exact ⟨by first | rfl | (simp only [r15, if_pos hc2, if_neg hc7, if_pos hc13, if_neg hc19, if_pos hc25, if_pos hc31]), N0, rfl⟩
            · skip
              have pre4 : ∀ t, Steps p.tables e below (s₁.setTop (mkF m 39 #[.val (.int p1), .val (.int p2), .val (.int p3), .val (.int p4), .val (.int p5), .val (.int p6), .val (.int p7), .val (.int p8)] [(.int (0 : Int32))])) t → Steps p.tables e below (s₁.setTop (entryFrame m #[(.int p1), (.int p2), (.int p3), (.int p4), (.int p5), (.int p6), (.int p7), (.int p8)] 8)) t := fun t kt => by
                refine pre0 t ?_
                refine XS.iloadN X0.here hx rfl (hb hby d15_0) rfl ?_
                show Steps p.tables e below (s₁.setTop (mkF m 1 #[.val (.int p1), .val (.int p2), .val (.int p3), .val (.int p4), .val (.int p5), .val (.int p6), .val (.int p7), .val (.int p8)] [(.int p1)])) _
                refine XS.iloadN X0.here hx rfl (hb hby d15_1) rfl ?_
                show Steps p.tables e below (s₁.setTop (mkF m 2 #[.val (.int p1), .val (.int p2), .val (.int p3), .val (.int p4), .val (.int p5), .val (.int p6), .val (.int p7), .val (.int p8)] [(.int p4), (.int p1)])) _
                refine XS.icmpNo X0.here hx rfl (hb hby d15_2) rfl (teq hc2).2 ?_
                show Steps p.tables e below (s₁.setTop (mkF m 5 #[.val (.int p1), .val (.int p2), .val (.int p3), .val (.int p4), .val (.int p5), .val (.int p6), .val (.int p7), .val (.int p8)] [])) _
                refine XS.iloadN X0.here hx rfl (hb hby d15_5) rfl ?_
                show Steps p.tables e below (s₁.setTop (mkF m 6 #[.val (.int p1), .val (.int p2), .val (.int p3), .val (.int p4), .val (.int p5), .val (.int p6), .val (.int p7), .val (.int p8)] [(.int p2)])) _
                refine XS.iloadN X0.here hx rfl (hb hby d15_6) rfl ?_
                show Steps p.tables e below (s₁.setTop (mkF m 7 #[.val (.int p1), .val (.int p2), .val (.int p3), .val (.int p4), .val (.int p5), .val (.int p6), .val (.int p7), .val (.int p8)] [(.int p3), (.int p2)])) _
                refine XS.icmpNo X0.here hx rfl (hb hby d15_7) rfl (feq hc7).1 ?_
                show Steps p.tables e below (s₁.setTop (mkF m 10 #[.val (.int p1), .val (.int p2), .val (.int p3), .val (.int p4), .val (.int p5), .val (.int p6), .val (.int p7), .val (.int p8)] [])) _
                refine XS.iloadN X0.here hx rfl (hb hby d15_10) rfl ?_
                show Steps p.tables e below (s₁.setTop (mkF m 11 #[.val (.int p1), .val (.int p2), .val (.int p3), .val (.int p4), .val (.int p5), .val (.int p6), .val (.int p7), .val (.int p8)] [(.int p1)])) _
                refine XS.iload X0.here hx rfl (hb hby d15_11) rfl ?_
                show Steps p.tables e below (s₁.setTop (mkF m 13 #[.val (.int p1), .val (.int p2), .val (.int p3), .val (.int p4), .val (.int p5), .val (.int p6), .val (.int p7), .val (.int p8)] [(.int p6), (.int p1)])) _
                refine XS.icmpNo X0.here hx rfl (hb hby d15_13) rfl (teq hc13).2 ?_
                show Steps p.tables e below (s₁.setTop (mkF m 16 #[.val (.int p1), .val (.int p2), .val (.int p3), .val (.int p4), .val (.int p5), .val (.int p6), .val (.int p7), .val (.int p8)] [])) _
                refine XS.iloadN X0.here hx rfl (hb hby d15_16) rfl ?_
                show Steps p.tables e below (s₁.setTop (mkF m 17 #[.val (.int p1), .val (.int p2), .val (.int p3), .val (.int p4), .val (.int p5), .val (.int p6), .val (.int p7), .val (.int p8)] [(.int p2)])) _
                refine XS.iload X0.here hx rfl (hb hby d15_17) rfl ?_
                show Steps p.tables e below (s₁.setTop (mkF m 19 #[.val (.int p1), .val (.int p2), .val (.int p3), .val (.int p4), .val (.int p5), .val (.int p6), .val (.int p7), .val (.int p8)] [(.int p5), (.int p2)])) _
                refine XS.icmpNo X0.here hx rfl (hb hby d15_19) rfl (feq hc19).1 ?_
                show Steps p.tables e below (s₁.setTop (mkF m 22 #[.val (.int p1), .val (.int p2), .val (.int p3), .val (.int p4), .val (.int p5), .val (.int p6), .val (.int p7), .val (.int p8)] [])) _
                refine XS.iloadN X0.here hx rfl (hb hby d15_22) rfl ?_
                show Steps p.tables e below (s₁.setTop (mkF m 23 #[.val (.int p1), .val (.int p2), .val (.int p3), .val (.int p4), .val (.int p5), .val (.int p6), .val (.int p7), .val (.int p8)] [(.int p1)])) _
                refine XS.iload X0.here hx rfl (hb hby d15_23) rfl ?_
                show Steps p.tables e below (s₁.setTop (mkF m 25 #[.val (.int p1), .val (.int p2), .val (.int p3), .val (.int p4), .val (.int p5), .val (.int p6), .val (.int p7), .val (.int p8)] [(.int p8), (.int p1)])) _
                refine XS.icmpNo X0.here hx rfl (hb hby d15_25) rfl (teq hc25).2 ?_
                show Steps p.tables e below (s₁.setTop (mkF m 28 #[.val (.int p1), .val (.int p2), .val (.int p3), .val (.int p4), .val (.int p5), .val (.int p6), .val (.int p7), .val (.int p8)] [])) _
                refine XS.iloadN X0.here hx rfl (hb hby d15_28) rfl ?_
                show Steps p.tables e below (s₁.setTop (mkF m 29 #[.val (.int p1), .val (.int p2), .val (.int p3), .val (.int p4), .val (.int p5), .val (.int p6), .val (.int p7), .val (.int p8)] [(.int p2)])) _
                refine XS.iload X0.here hx rfl (hb hby d15_29) rfl ?_
                show Steps p.tables e below (s₁.setTop (mkF m 31 #[.val (.int p1), .val (.int p2), .val (.int p3), .val (.int p4), .val (.int p5), .val (.int p6), .val (.int p7), .val (.int p8)] [(.int p7), (.int p2)])) _
                refine XS.icmpYes X0.here hx rfl (pc0 := 31) (pc' := 38) rfl (hb hby d15_31) rfl (feq hc31).2 (by decide) (by decide) ?_
                show Steps p.tables e below (s₁.setTop (mkF m 38 #[.val (.int p1), .val (.int p2), .val (.int p3), .val (.int p4), .val (.int p5), .val (.int p6), .val (.int p7), .val (.int p8)] [])) _
                refine XS.iconst X0.here hx rfl (hb hby d15_38) ?_
                show Steps p.tables e below (s₁.setTop (mkF m 39 #[.val (.int p1), .val (.int p2), .val (.int p3), .val (.int p4), .val (.int p5), .val (.int p6), .val (.int p7), .val (.int p8)] [(.int (0 : Int32))])) _
                exact kt
              obtain ⟨fs, hr, hrun, hended, hW, hsame⟩ := X0.leave (v := some (.int (0 : Int32))) (fun h => by rw [Bd.returns] at h; cases h)
              refine ⟨_, _, pre4 _ ?_, hrun, hended, _, _, rfl, ?_, ⟨_, rfl⟩, hW, hsame.mono (by decide) (by decide)⟩
              · exact retN X0 hx (t := .boolean) Bd.returns (by simp) (hb hby d15_39) hr
              · show Q15 Z p1 p2 p3 p4 p5 p6 p7 p8 h0 n0 _ s₁.heap _
                rw [e0]
                exact ⟨by first | rfl | (simp only [r15, if_pos hc2, if_neg hc7, if_pos hc13, if_neg hc19, if_pos hc25, if_neg hc31]), N0, rfl⟩
          · skip
            have pre5 : ∀ t, Steps p.tables e below (s₁.setTop (mkF m 39 #[.val (.int p1), .val (.int p2), .val (.int p3), .val (.int p4), .val (.int p5), .val (.int p6), .val (.int p7), .val (.int p8)] [(.int (0 : Int32))])) t → Steps p.tables e below (s₁.setTop (entryFrame m #[(.int p1), (.int p2), (.int p3), (.int p4), (.int p5), (.int p6), (.int p7), (.int p8)] 8)) t := fun t kt => by
              refine pre0 t ?_
              refine XS.iloadN X0.here hx rfl (hb hby d15_0) rfl ?_
              show Steps p.tables e below (s₁.setTop (mkF m 1 #[.val (.int p1), .val (.int p2), .val (.int p3), .val (.int p4), .val (.int p5), .val (.int p6), .val (.int p7), .val (.int p8)] [(.int p1)])) _
              refine XS.iloadN X0.here hx rfl (hb hby d15_1) rfl ?_
              show Steps p.tables e below (s₁.setTop (mkF m 2 #[.val (.int p1), .val (.int p2), .val (.int p3), .val (.int p4), .val (.int p5), .val (.int p6), .val (.int p7), .val (.int p8)] [(.int p4), (.int p1)])) _
              refine XS.icmpNo X0.here hx rfl (hb hby d15_2) rfl (teq hc2).2 ?_
              show Steps p.tables e below (s₁.setTop (mkF m 5 #[.val (.int p1), .val (.int p2), .val (.int p3), .val (.int p4), .val (.int p5), .val (.int p6), .val (.int p7), .val (.int p8)] [])) _
              refine XS.iloadN X0.here hx rfl (hb hby d15_5) rfl ?_
              show Steps p.tables e below (s₁.setTop (mkF m 6 #[.val (.int p1), .val (.int p2), .val (.int p3), .val (.int p4), .val (.int p5), .val (.int p6), .val (.int p7), .val (.int p8)] [(.int p2)])) _
              refine XS.iloadN X0.here hx rfl (hb hby d15_6) rfl ?_
              show Steps p.tables e below (s₁.setTop (mkF m 7 #[.val (.int p1), .val (.int p2), .val (.int p3), .val (.int p4), .val (.int p5), .val (.int p6), .val (.int p7), .val (.int p8)] [(.int p3), (.int p2)])) _
              refine XS.icmpNo X0.here hx rfl (hb hby d15_7) rfl (feq hc7).1 ?_
              show Steps p.tables e below (s₁.setTop (mkF m 10 #[.val (.int p1), .val (.int p2), .val (.int p3), .val (.int p4), .val (.int p5), .val (.int p6), .val (.int p7), .val (.int p8)] [])) _
              refine XS.iloadN X0.here hx rfl (hb hby d15_10) rfl ?_
              show Steps p.tables e below (s₁.setTop (mkF m 11 #[.val (.int p1), .val (.int p2), .val (.int p3), .val (.int p4), .val (.int p5), .val (.int p6), .val (.int p7), .val (.int p8)] [(.int p1)])) _
              refine XS.iload X0.here hx rfl (hb hby d15_11) rfl ?_
              show Steps p.tables e below (s₁.setTop (mkF m 13 #[.val (.int p1), .val (.int p2), .val (.int p3), .val (.int p4), .val (.int p5), .val (.int p6), .val (.int p7), .val (.int p8)] [(.int p6), (.int p1)])) _
              refine XS.icmpNo X0.here hx rfl (hb hby d15_13) rfl (teq hc13).2 ?_
              show Steps p.tables e below (s₁.setTop (mkF m 16 #[.val (.int p1), .val (.int p2), .val (.int p3), .val (.int p4), .val (.int p5), .val (.int p6), .val (.int p7), .val (.int p8)] [])) _
              refine XS.iloadN X0.here hx rfl (hb hby d15_16) rfl ?_
              show Steps p.tables e below (s₁.setTop (mkF m 17 #[.val (.int p1), .val (.int p2), .val (.int p3), .val (.int p4), .val (.int p5), .val (.int p6), .val (.int p7), .val (.int p8)] [(.int p2)])) _
              refine XS.iload X0.here hx rfl (hb hby d15_17) rfl ?_
              show Steps p.tables e below (s₁.setTop (mkF m 19 #[.val (.int p1), .val (.int p2), .val (.int p3), .val (.int p4), .val (.int p5), .val (.int p6), .val (.int p7), .val (.int p8)] [(.int p5), (.int p2)])) _
              refine XS.icmpNo X0.here hx rfl (hb hby d15_19) rfl (feq hc19).1 ?_
              show Steps p.tables e below (s₁.setTop (mkF m 22 #[.val (.int p1), .val (.int p2), .val (.int p3), .val (.int p4), .val (.int p5), .val (.int p6), .val (.int p7), .val (.int p8)] [])) _
              refine XS.iloadN X0.here hx rfl (hb hby d15_22) rfl ?_
              show Steps p.tables e below (s₁.setTop (mkF m 23 #[.val (.int p1), .val (.int p2), .val (.int p3), .val (.int p4), .val (.int p5), .val (.int p6), .val (.int p7), .val (.int p8)] [(.int p1)])) _
              refine XS.iload X0.here hx rfl (hb hby d15_23) rfl ?_
              show Steps p.tables e below (s₁.setTop (mkF m 25 #[.val (.int p1), .val (.int p2), .val (.int p3), .val (.int p4), .val (.int p5), .val (.int p6), .val (.int p7), .val (.int p8)] [(.int p8), (.int p1)])) _
              refine XS.icmpYes X0.here hx rfl (pc0 := 25) (pc' := 38) rfl (hb hby d15_25) rfl (feq hc25).2 (by decide) (by decide) ?_
              show Steps p.tables e below (s₁.setTop (mkF m 38 #[.val (.int p1), .val (.int p2), .val (.int p3), .val (.int p4), .val (.int p5), .val (.int p6), .val (.int p7), .val (.int p8)] [])) _
              refine XS.iconst X0.here hx rfl (hb hby d15_38) ?_
              show Steps p.tables e below (s₁.setTop (mkF m 39 #[.val (.int p1), .val (.int p2), .val (.int p3), .val (.int p4), .val (.int p5), .val (.int p6), .val (.int p7), .val (.int p8)] [(.int (0 : Int32))])) _
              exact kt
            obtain ⟨fs, hr, hrun, hended, hW, hsame⟩ := X0.leave (v := some (.int (0 : Int32))) (fun h => by rw [Bd.returns] at h; cases h)
            refine ⟨_, _, pre5 _ ?_, hrun, hended, _, _, rfl, ?_, ⟨_, rfl⟩, hW, hsame.mono (by decide) (by decide)⟩
            · exact retN X0 hx (t := .boolean) Bd.returns (by simp) (hb hby d15_39) hr
            · show Q15 Z p1 p2 p3 p4 p5 p6 p7 p8 h0 n0 _ s₁.heap _
              rw [e0]
              exact ⟨by first | rfl | (simp only [r15, if_pos hc2, if_neg hc7, if_pos hc13, if_neg hc19, if_neg hc25]), N0, rfl⟩
      · skip
        by_cases hc25 : p1 = p8
        · skip
          by_cases hc31 : p2 = p7
          · skip
            have pre6 : ∀ t, Steps p.tables e below (s₁.setTop (mkF m 39 #[.val (.int p1), .val (.int p2), .val (.int p3), .val (.int p4), .val (.int p5), .val (.int p6), .val (.int p7), .val (.int p8)] [(.int (1 : Int32))])) t → Steps p.tables e below (s₁.setTop (entryFrame m #[(.int p1), (.int p2), (.int p3), (.int p4), (.int p5), (.int p6), (.int p7), (.int p8)] 8)) t := fun t kt => by
              refine pre0 t ?_
              refine XS.iloadN X0.here hx rfl (hb hby d15_0) rfl ?_
              show Steps p.tables e below (s₁.setTop (mkF m 1 #[.val (.int p1), .val (.int p2), .val (.int p3), .val (.int p4), .val (.int p5), .val (.int p6), .val (.int p7), .val (.int p8)] [(.int p1)])) _
              refine XS.iloadN X0.here hx rfl (hb hby d15_1) rfl ?_
              show Steps p.tables e below (s₁.setTop (mkF m 2 #[.val (.int p1), .val (.int p2), .val (.int p3), .val (.int p4), .val (.int p5), .val (.int p6), .val (.int p7), .val (.int p8)] [(.int p4), (.int p1)])) _
              refine XS.icmpNo X0.here hx rfl (hb hby d15_2) rfl (teq hc2).2 ?_
              show Steps p.tables e below (s₁.setTop (mkF m 5 #[.val (.int p1), .val (.int p2), .val (.int p3), .val (.int p4), .val (.int p5), .val (.int p6), .val (.int p7), .val (.int p8)] [])) _
              refine XS.iloadN X0.here hx rfl (hb hby d15_5) rfl ?_
              show Steps p.tables e below (s₁.setTop (mkF m 6 #[.val (.int p1), .val (.int p2), .val (.int p3), .val (.int p4), .val (.int p5), .val (.int p6), .val (.int p7), .val (.int p8)] [(.int p2)])) _
              refine XS.iloadN X0.here hx rfl (hb hby d15_6) rfl ?_
              show Steps p.tables e below (s₁.setTop (mkF m 7 #[.val (.int p1), .val (.int p2), .val (.int p3), .val (.int p4), .val (.int p5), .val (.int p6), .val (.int p7), .val (.int p8)] [(.int p3), (.int p2)])) _
              refine XS.icmpNo X0.here hx rfl (hb hby d15_7) rfl (feq hc7).1 ?_
              show Steps p.tables e below (s₁.setTop (mkF m 10 #[.val (.int p1), .val (.int p2), .val (.int p3), .val (.int p4), .val (.int p5), .val (.int p6), .val (.int p7), .val (.int p8)] [])) _
              refine XS.iloadN X0.here hx rfl (hb hby d15_10) rfl ?_
              show Steps p.tables e below (s₁.setTop (mkF m 11 #[.val (.int p1), .val (.int p2), .val (.int p3), .val (.int p4), .val (.int p5), .val (.int p6), .val (.int p7), .val (.int p8)] [(.int p1)])) _
              refine XS.iload X0.here hx rfl (hb hby d15_11) rfl ?_
              show Steps p.tables e below (s₁.setTop (mkF m 13 #[.val (.int p1), .val (.int p2), .val (.int p3), .val (.int p4), .val (.int p5), .val (.int p6), .val (.int p7), .val (.int p8)] [(.int p6), (.int p1)])) _
              refine XS.icmpYes X0.here hx rfl (pc0 := 13) (pc' := 22) rfl (hb hby d15_13) rfl (feq hc13).2 (by decide) (by decide) ?_
              show Steps p.tables e below (s₁.setTop (mkF m 22 #[.val (.int p1), .val (.int p2), .val (.int p3), .val (.int p4), .val (.int p5), .val (.int p6), .val (.int p7), .val (.int p8)] [])) _
              refine XS.iloadN X0.here hx rfl (hb hby d15_22) rfl ?_
              show Steps p.tables e below (s₁.setTop (mkF m 23 #[.val (.int p1), .val (.int p2), .val (.int p3), .val (.int p4), .val (.int p5), .val (.int p6), .val (.int p7), .val (.int p8)] [(.int p1)])) _
              refine XS.iload X0.here hx rfl (hb hby d15_23) rfl ?_
              show Steps p.tables e below (s₁.setTop (mkF m 25 #[.val (.int p1), .val (.int p2), .val (.int p3), .val (.int p4), .val (.int p5), .val (.int p6), .val (.int p7), .val (.int p8)] [(.int p8), (.int p1)])) _
              refine XS.icmpNo X0.here hx rfl (hb hby d15_25) rfl (teq hc25).2 ?_
              show Steps p.tables e below (s₁.setTop (mkF m 28 #[.val (.int p1), .val (.int p2), .val (.int p3), .val (.int p4), .val (.int p5), .val (.int p6), .val (.int p7), .val (.int p8)] [])) _
              refine XS.iloadN X0.here hx rfl (hb hby d15_28) rfl ?_
              show Steps p.tables e below (s₁.setTop (mkF m 29 #[.val (.int p1), .val (.int p2), .val (.int p3), .val (.int p4), .val (.int p5), .val (.int p6), .val (.int p7), .val (.int p8)] [(.int p2)])) _
              refine XS.iload X0.here hx rfl (hb hby d15_29) rfl ?_
              show Steps p.tables e below (s₁.setTop (mkF m 31 #[.val (.int p1), .val (.int p2), .val (.int p3), .val (.int p4), .val (.int p5), .val (.int p6), .val (.int p7), .val (.int p8)] [(.int p7), (.int p2)])) _
              refine XS.icmpNo X0.here hx rfl (hb hby d15_31) rfl (teq hc31).2 ?_
              show Steps p.tables e below (s₁.setTop (mkF m 34 #[.val (.int p1), .val (.int p2), .val (.int p3), .val (.int p4), .val (.int p5), .val (.int p6), .val (.int p7), .val (.int p8)] [])) _
              refine XS.iconst X0.here hx rfl (hb hby d15_34) ?_
              show Steps p.tables e below (s₁.setTop (mkF m 35 #[.val (.int p1), .val (.int p2), .val (.int p3), .val (.int p4), .val (.int p5), .val (.int p6), .val (.int p7), .val (.int p8)] [(.int (1 : Int32))])) _
              refine XS.goto X0.here hx rfl (pc0 := 35) (pc' := 39) rfl (hb hby d15_35) (by decide) (by decide) ?_
              show Steps p.tables e below (s₁.setTop (mkF m 39 #[.val (.int p1), .val (.int p2), .val (.int p3), .val (.int p4), .val (.int p5), .val (.int p6), .val (.int p7), .val (.int p8)] [(.int (1 : Int32))])) _
              exact kt
            obtain ⟨fs, hr, hrun, hended, hW, hsame⟩ := X0.leave (v := some (.int (1 : Int32))) (fun h => by rw [Bd.returns] at h; cases h)
            refine ⟨_, _, pre6 _ ?_, hrun, hended, _, _, rfl, ?_, ⟨_, rfl⟩, hW, hsame.mono (by decide) (by decide)⟩
            · exact retN X0 hx (t := .boolean) Bd.returns (by simp) (hb hby d15_39) hr
            · show Q15 Z p1 p2 p3 p4 p5 p6 p7 p8 h0 n0 _ s₁.heap _
              rw [e0]
              exact ⟨by first | rfl | (simp only [r15, if_pos hc2, if_neg hc7, if_neg hc13, if_pos hc25, if_pos hc31]), N0, rfl⟩
          · skip
            have pre7 : ∀ t, Steps p.tables e below (s₁.setTop (mkF m 39 #[.val (.int p1), .val (.int p2), .val (.int p3), .val (.int p4), .val (.int p5), .val (.int p6), .val (.int p7), .val (.int p8)] [(.int (0 : Int32))])) t → Steps p.tables e below (s₁.setTop (entryFrame m #[(.int p1), (.int p2), (.int p3), (.int p4), (.int p5), (.int p6), (.int p7), (.int p8)] 8)) t := fun t kt => by
              refine pre0 t ?_
              refine XS.iloadN X0.here hx rfl (hb hby d15_0) rfl ?_
              show Steps p.tables e below (s₁.setTop (mkF m 1 #[.val (.int p1), .val (.int p2), .val (.int p3), .val (.int p4), .val (.int p5), .val (.int p6), .val (.int p7), .val (.int p8)] [(.int p1)])) _
              refine XS.iloadN X0.here hx rfl (hb hby d15_1) rfl ?_
              show Steps p.tables e below (s₁.setTop (mkF m 2 #[.val (.int p1), .val (.int p2), .val (.int p3), .val (.int p4), .val (.int p5), .val (.int p6), .val (.int p7), .val (.int p8)] [(.int p4), (.int p1)])) _
              refine XS.icmpNo X0.here hx rfl (hb hby d15_2) rfl (teq hc2).2 ?_
              show Steps p.tables e below (s₁.setTop (mkF m 5 #[.val (.int p1), .val (.int p2), .val (.int p3), .val (.int p4), .val (.int p5), .val (.int p6), .val (.int p7), .val (.int p8)] [])) _
              refine XS.iloadN X0.here hx rfl (hb hby d15_5) rfl ?_
              show Steps p.tables e below (s₁.setTop (mkF m 6 #[.val (.int p1), .val (.int p2), .val (.int p3), .val (.int p4), .val (.int p5), .val (.int p6), .val (.int p7), .val (.int p8)] [(.int p2)])) _
              refine XS.iloadN X0.here hx rfl (hb hby d15_6) rfl ?_
              show Steps p.tables e below (s₁.setTop (mkF m 7 #[.val (.int p1), .val (.int p2), .val (.int p3), .val (.int p4), .val (.int p5), .val (.int p6), .val (.int p7), .val (.int p8)] [(.int p3), (.int p2)])) _
              refine XS.icmpNo X0.here hx rfl (hb hby d15_7) rfl (feq hc7).1 ?_
              show Steps p.tables e below (s₁.setTop (mkF m 10 #[.val (.int p1), .val (.int p2), .val (.int p3), .val (.int p4), .val (.int p5), .val (.int p6), .val (.int p7), .val (.int p8)] [])) _
              refine XS.iloadN X0.here hx rfl (hb hby d15_10) rfl ?_
              show Steps p.tables e below (s₁.setTop (mkF m 11 #[.val (.int p1), .val (.int p2), .val (.int p3), .val (.int p4), .val (.int p5), .val (.int p6), .val (.int p7), .val (.int p8)] [(.int p1)])) _
              refine XS.iload X0.here hx rfl (hb hby d15_11) rfl ?_
              show Steps p.tables e below (s₁.setTop (mkF m 13 #[.val (.int p1), .val (.int p2), .val (.int p3), .val (.int p4), .val (.int p5), .val (.int p6), .val (.int p7), .val (.int p8)] [(.int p6), (.int p1)])) _
              refine XS.icmpYes X0.here hx rfl (pc0 := 13) (pc' := 22) rfl (hb hby d15_13) rfl (feq hc13).2 (by decide) (by decide) ?_
              show Steps p.tables e below (s₁.setTop (mkF m 22 #[.val (.int p1), .val (.int p2), .val (.int p3), .val (.int p4), .val (.int p5), .val (.int p6), .val (.int p7), .val (.int p8)] [])) _
              refine XS.iloadN X0.here hx rfl (hb hby d15_22) rfl ?_
              show Steps p.tables e below (s₁.setTop (mkF m 23 #[.val (.int p1), .val (.int p2), .val (.int p3), .val (.int p4), .val (.int p5), .val (.int p6), .val (.int p7), .val (.int p8)] [(.int p1)])) _
              refine XS.iload X0.here hx rfl (hb hby d15_23) rfl ?_
              show Steps p.tables e below (s₁.setTop (mkF m 25 #[.val (.int p1), .val (.int p2), .val (.int p3), .val (.int p4), .val (.int p5), .val (.int p6), .val (.int p7), .val (.int p8)] [(.int p8), (.int p1)])) _
              refine XS.icmpNo X0.here hx rfl (hb hby d15_25) rfl (teq hc25).2 ?_
              show Steps p.tables e below (s₁.setTop (mkF m 28 #[.val (.int p1), .val (.int p2), .val (.int p3), .val (.int p4), .val (.int p5), .val (.int p6), .val (.int p7), .val (.int p8)] [])) _
              refine XS.iloadN X0.here hx rfl (hb hby d15_28) rfl ?_
              show Steps p.tables e below (s₁.setTop (mkF m 29 #[.val (.int p1), .val (.int p2), .val (.int p3), .val (.int p4), .val (.int p5), .val (.int p6), .val (.int p7), .val (.int p8)] [(.int p2)])) _
              refine XS.iload X0.here hx rfl (hb hby d15_29) rfl ?_
              show Steps p.tables e below (s₁.setTop (mkF m 31 #[.val (.int p1), .val (.int p2), .val (.int p3), .val (.int p4), .val (.int p5), .val (.int p6), .val (.int p7), .val (.int p8)] [(.int p7), (.int p2)])) _
              refine XS.icmpYes X0.here hx rfl (pc0 := 31) (pc' := 38) rfl (hb hby d15_31) rfl (feq hc31).2 (by decide) (by decide) ?_
              show Steps p.tables e below (s₁.setTop (mkF m 38 #[.val (.int p1), .val (.int p2), .val (.int p3), .val (.int p4), .val (.int p5), .val (.int p6), .val (.int p7), .val (.int p8)] [])) _
              refine XS.iconst X0.here hx rfl (hb hby d15_38) ?_
              show Steps p.tables e below (s₁.setTop (mkF m 39 #[.val (.int p1), .val (.int p2), .val (.int p3), .val (.int p4), .val (.int p5), .val (.int p6), .val (.int p7), .val (.int p8)] [(.int (0 : Int32))])) _
              exact kt
            obtain ⟨fs, hr, hrun, hended, hW, hsame⟩ := X0.leave (v := some (.int (0 : Int32))) (fun h => by rw [Bd.returns] at h; cases h)
            refine ⟨_, _, pre7 _ ?_, hrun, hended, _, _, rfl, ?_, ⟨_, rfl⟩, hW, hsame.mono (by decide) (by decide)⟩
            · exact retN X0 hx (t := .boolean) Bd.returns (by simp) (hb hby d15_39) hr
            · show Q15 Z p1 p2 p3 p4 p5 p6 p7 p8 h0 n0 _ s₁.heap _
              rw [e0]
              exact ⟨by first | rfl | (simp only [r15, if_pos hc2, if_neg hc7, if_neg hc13, if_pos hc25, if_neg hc31]), N0, rfl⟩
        · skip
          have pre8 : ∀ t, Steps p.tables e below (s₁.setTop (mkF m 39 #[.val (.int p1), .val (.int p2), .val (.int p3), .val (.int p4), .val (.int p5), .val (.int p6), .val (.int p7), .val (.int p8)] [(.int (0 : Int32))])) t → Steps p.tables e below (s₁.setTop (entryFrame m #[(.int p1), (.int p2), (.int p3), (.int p4), (.int p5), (.int p6), (.int p7), (.int p8)] 8)) t := fun t kt => by
            refine pre0 t ?_
            refine XS.iloadN X0.here hx rfl (hb hby d15_0) rfl ?_
            show Steps p.tables e below (s₁.setTop (mkF m 1 #[.val (.int p1), .val (.int p2), .val (.int p3), .val (.int p4), .val (.int p5), .val (.int p6), .val (.int p7), .val (.int p8)] [(.int p1)])) _
            refine XS.iloadN X0.here hx rfl (hb hby d15_1) rfl ?_
            show Steps p.tables e below (s₁.setTop (mkF m 2 #[.val (.int p1), .val (.int p2), .val (.int p3), .val (.int p4), .val (.int p5), .val (.int p6), .val (.int p7), .val (.int p8)] [(.int p4), (.int p1)])) _
            refine XS.icmpNo X0.here hx rfl (hb hby d15_2) rfl (teq hc2).2 ?_
            show Steps p.tables e below (s₁.setTop (mkF m 5 #[.val (.int p1), .val (.int p2), .val (.int p3), .val (.int p4), .val (.int p5), .val (.int p6), .val (.int p7), .val (.int p8)] [])) _
            refine XS.iloadN X0.here hx rfl (hb hby d15_5) rfl ?_
            show Steps p.tables e below (s₁.setTop (mkF m 6 #[.val (.int p1), .val (.int p2), .val (.int p3), .val (.int p4), .val (.int p5), .val (.int p6), .val (.int p7), .val (.int p8)] [(.int p2)])) _
            refine XS.iloadN X0.here hx rfl (hb hby d15_6) rfl ?_
            show Steps p.tables e below (s₁.setTop (mkF m 7 #[.val (.int p1), .val (.int p2), .val (.int p3), .val (.int p4), .val (.int p5), .val (.int p6), .val (.int p7), .val (.int p8)] [(.int p3), (.int p2)])) _
            refine XS.icmpNo X0.here hx rfl (hb hby d15_7) rfl (feq hc7).1 ?_
            show Steps p.tables e below (s₁.setTop (mkF m 10 #[.val (.int p1), .val (.int p2), .val (.int p3), .val (.int p4), .val (.int p5), .val (.int p6), .val (.int p7), .val (.int p8)] [])) _
            refine XS.iloadN X0.here hx rfl (hb hby d15_10) rfl ?_
            show Steps p.tables e below (s₁.setTop (mkF m 11 #[.val (.int p1), .val (.int p2), .val (.int p3), .val (.int p4), .val (.int p5), .val (.int p6), .val (.int p7), .val (.int p8)] [(.int p1)])) _
            refine XS.iload X0.here hx rfl (hb hby d15_11) rfl ?_
            show Steps p.tables e below (s₁.setTop (mkF m 13 #[.val (.int p1), .val (.int p2), .val (.int p3), .val (.int p4), .val (.int p5), .val (.int p6), .val (.int p7), .val (.int p8)] [(.int p6), (.int p1)])) _
            refine XS.icmpYes X0.here hx rfl (pc0 := 13) (pc' := 22) rfl (hb hby d15_13) rfl (feq hc13).2 (by decide) (by decide) ?_
            show Steps p.tables e below (s₁.setTop (mkF m 22 #[.val (.int p1), .val (.int p2), .val (.int p3), .val (.int p4), .val (.int p5), .val (.int p6), .val (.int p7), .val (.int p8)] [])) _
            refine XS.iloadN X0.here hx rfl (hb hby d15_22) rfl ?_
            show Steps p.tables e below (s₁.setTop (mkF m 23 #[.val (.int p1), .val (.int p2), .val (.int p3), .val (.int p4), .val (.int p5), .val (.int p6), .val (.int p7), .val (.int p8)] [(.int p1)])) _
            refine XS.iload X0.here hx rfl (hb hby d15_23) rfl ?_
            show Steps p.tables e below (s₁.setTop (mkF m 25 #[.val (.int p1), .val (.int p2), .val (.int p3), .val (.int p4), .val (.int p5), .val (.int p6), .val (.int p7), .val (.int p8)] [(.int p8), (.int p1)])) _
            refine XS.icmpYes X0.here hx rfl (pc0 := 25) (pc' := 38) rfl (hb hby d15_25) rfl (feq hc25).2 (by decide) (by decide) ?_
            show Steps p.tables e below (s₁.setTop (mkF m 38 #[.val (.int p1), .val (.int p2), .val (.int p3), .val (.int p4), .val (.int p5), .val (.int p6), .val (.int p7), .val (.int p8)] [])) _
            refine XS.iconst X0.here hx rfl (hb hby d15_38) ?_
            show Steps p.tables e below (s₁.setTop (mkF m 39 #[.val (.int p1), .val (.int p2), .val (.int p3), .val (.int p4), .val (.int p5), .val (.int p6), .val (.int p7), .val (.int p8)] [(.int (0 : Int32))])) _
            exact kt
          obtain ⟨fs, hr, hrun, hended, hW, hsame⟩ := X0.leave (v := some (.int (0 : Int32))) (fun h => by rw [Bd.returns] at h; cases h)
          refine ⟨_, _, pre8 _ ?_, hrun, hended, _, _, rfl, ?_, ⟨_, rfl⟩, hW, hsame.mono (by decide) (by decide)⟩
          · exact retN X0 hx (t := .boolean) Bd.returns (by simp) (hb hby d15_39) hr
          · show Q15 Z p1 p2 p3 p4 p5 p6 p7 p8 h0 n0 _ s₁.heap _
            rw [e0]
            exact ⟨by first | rfl | (simp only [r15, if_pos hc2, if_neg hc7, if_neg hc13, if_neg hc25]), N0, rfl⟩
  · skip
    by_cases hc13 : p1 = p6
    · skip
      by_cases hc19 : p2 = p5
      · skip
        have pre9 : ∀ t, Steps p.tables e below (s₁.setTop (mkF m 39 #[.val (.int p1), .val (.int p2), .val (.int p3), .val (.int p4), .val (.int p5), .val (.int p6), .val (.int p7), .val (.int p8)] [(.int (1 : Int32))])) t → Steps p.tables e below (s₁.setTop (entryFrame m #[(.int p1), (.int p2), (.int p3), (.int p4), (.int p5), (.int p6), (.int p7), (.int p8)] 8)) t := fun t kt => by
          refine pre0 t ?_
          refine XS.iloadN X0.here hx rfl (hb hby d15_0) rfl ?_
          show Steps p.tables e below (s₁.setTop (mkF m 1 #[.val (.int p1), .val (.int p2), .val (.int p3), .val (.int p4), .val (.int p5), .val (.int p6), .val (.int p7), .val (.int p8)] [(.int p1)])) _
          refine XS.iloadN X0.here hx rfl (hb hby d15_1) rfl ?_
          show Steps p.tables e below (s₁.setTop (mkF m 2 #[.val (.int p1), .val (.int p2), .val (.int p3), .val (.int p4), .val (.int p5), .val (.int p6), .val (.int p7), .val (.int p8)] [(.int p4), (.int p1)])) _
          refine XS.icmpYes X0.here hx rfl (pc0 := 2) (pc' := 10) rfl (hb hby d15_2) rfl (feq hc2).2 (by decide) (by decide) ?_
          show Steps p.tables e below (s₁.setTop (mkF m 10 #[.val (.int p1), .val (.int p2), .val (.int p3), .val (.int p4), .val (.int p5), .val (.int p6), .val (.int p7), .val (.int p8)] [])) _
          refine XS.iloadN X0.here hx rfl (hb hby d15_10) rfl ?_
          show Steps p.tables e below (s₁.setTop (mkF m 11 #[.val (.int p1), .val (.int p2), .val (.int p3), .val (.int p4), .val (.int p5), .val (.int p6), .val (.int p7), .val (.int p8)] [(.int p1)])) _
          refine XS.iload X0.here hx rfl (hb hby d15_11) rfl ?_
          show Steps p.tables e below (s₁.setTop (mkF m 13 #[.val (.int p1), .val (.int p2), .val (.int p3), .val (.int p4), .val (.int p5), .val (.int p6), .val (.int p7), .val (.int p8)] [(.int p6), (.int p1)])) _
          refine XS.icmpNo X0.here hx rfl (hb hby d15_13) rfl (teq hc13).2 ?_
          show Steps p.tables e below (s₁.setTop (mkF m 16 #[.val (.int p1), .val (.int p2), .val (.int p3), .val (.int p4), .val (.int p5), .val (.int p6), .val (.int p7), .val (.int p8)] [])) _
          refine XS.iloadN X0.here hx rfl (hb hby d15_16) rfl ?_
          show Steps p.tables e below (s₁.setTop (mkF m 17 #[.val (.int p1), .val (.int p2), .val (.int p3), .val (.int p4), .val (.int p5), .val (.int p6), .val (.int p7), .val (.int p8)] [(.int p2)])) _
          refine XS.iload X0.here hx rfl (hb hby d15_17) rfl ?_
          show Steps p.tables e below (s₁.setTop (mkF m 19 #[.val (.int p1), .val (.int p2), .val (.int p3), .val (.int p4), .val (.int p5), .val (.int p6), .val (.int p7), .val (.int p8)] [(.int p5), (.int p2)])) _
          refine XS.icmpYes X0.here hx rfl (pc0 := 19) (pc' := 34) rfl (hb hby d15_19) rfl (teq hc19).1 (by decide) (by decide) ?_
          show Steps p.tables e below (s₁.setTop (mkF m 34 #[.val (.int p1), .val (.int p2), .val (.int p3), .val (.int p4), .val (.int p5), .val (.int p6), .val (.int p7), .val (.int p8)] [])) _
          refine XS.iconst X0.here hx rfl (hb hby d15_34) ?_
          show Steps p.tables e below (s₁.setTop (mkF m 35 #[.val (.int p1), .val (.int p2), .val (.int p3), .val (.int p4), .val (.int p5), .val (.int p6), .val (.int p7), .val (.int p8)] [(.int (1 : Int32))])) _
          refine XS.goto X0.here hx rfl (pc0 := 35) (pc' := 39) rfl (hb hby d15_35) (by decide) (by decide) ?_
          show Steps p.tables e below (s₁.setTop (mkF m 39 #[.val (.int p1), .val (.int p2), .val (.int p3), .val (.int p4), .val (.int p5), .val (.int p6), .val (.int p7), .val (.int p8)] [(.int (1 : Int32))])) _
          exact kt
        obtain ⟨fs, hr, hrun, hended, hW, hsame⟩ := X0.leave (v := some (.int (1 : Int32))) (fun h => by rw [Bd.returns] at h; cases h)
        refine ⟨_, _, pre9 _ ?_, hrun, hended, _, _, rfl, ?_, ⟨_, rfl⟩, hW, hsame.mono (by decide) (by decide)⟩
        · exact retN X0 hx (t := .boolean) Bd.returns (by simp) (hb hby d15_39) hr
        · show Q15 Z p1 p2 p3 p4 p5 p6 p7 p8 h0 n0 _ s₁.heap _
          rw [e0]
          exact ⟨by first | rfl | (simp only [r15, if_neg hc2, if_pos hc13, if_pos hc19]), N0, rfl⟩
      · skip
        by_cases hc25 : p1 = p8
        · skip
          by_cases hc31 : p2 = p7
          · skip
            have pre10 : ∀ t, Steps p.tables e below (s₁.setTop (mkF m 39 #[.val (.int p1), .val (.int p2), .val (.int p3), .val (.int p4), .val (.int p5), .val (.int p6), .val (.int p7), .val (.int p8)] [(.int (1 : Int32))])) t → Steps p.tables e below (s₁.setTop (entryFrame m #[(.int p1), (.int p2), (.int p3), (.int p4), (.int p5), (.int p6), (.int p7), (.int p8)] 8)) t := fun t kt => by
              refine pre0 t ?_
              refine XS.iloadN X0.here hx rfl (hb hby d15_0) rfl ?_
              show Steps p.tables e below (s₁.setTop (mkF m 1 #[.val (.int p1), .val (.int p2), .val (.int p3), .val (.int p4), .val (.int p5), .val (.int p6), .val (.int p7), .val (.int p8)] [(.int p1)])) _
              refine XS.iloadN X0.here hx rfl (hb hby d15_1) rfl ?_
              show Steps p.tables e below (s₁.setTop (mkF m 2 #[.val (.int p1), .val (.int p2), .val (.int p3), .val (.int p4), .val (.int p5), .val (.int p6), .val (.int p7), .val (.int p8)] [(.int p4), (.int p1)])) _
              refine XS.icmpYes X0.here hx rfl (pc0 := 2) (pc' := 10) rfl (hb hby d15_2) rfl (feq hc2).2 (by decide) (by decide) ?_
              show Steps p.tables e below (s₁.setTop (mkF m 10 #[.val (.int p1), .val (.int p2), .val (.int p3), .val (.int p4), .val (.int p5), .val (.int p6), .val (.int p7), .val (.int p8)] [])) _
              refine XS.iloadN X0.here hx rfl (hb hby d15_10) rfl ?_
              show Steps p.tables e below (s₁.setTop (mkF m 11 #[.val (.int p1), .val (.int p2), .val (.int p3), .val (.int p4), .val (.int p5), .val (.int p6), .val (.int p7), .val (.int p8)] [(.int p1)])) _
              refine XS.iload X0.here hx rfl (hb hby d15_11) rfl ?_
              show Steps p.tables e below (s₁.setTop (mkF m 13 #[.val (.int p1), .val (.int p2), .val (.int p3), .val (.int p4), .val (.int p5), .val (.int p6), .val (.int p7), .val (.int p8)] [(.int p6), (.int p1)])) _
              refine XS.icmpNo X0.here hx rfl (hb hby d15_13) rfl (teq hc13).2 ?_
              show Steps p.tables e below (s₁.setTop (mkF m 16 #[.val (.int p1), .val (.int p2), .val (.int p3), .val (.int p4), .val (.int p5), .val (.int p6), .val (.int p7), .val (.int p8)] [])) _
              refine XS.iloadN X0.here hx rfl (hb hby d15_16) rfl ?_
              show Steps p.tables e below (s₁.setTop (mkF m 17 #[.val (.int p1), .val (.int p2), .val (.int p3), .val (.int p4), .val (.int p5), .val (.int p6), .val (.int p7), .val (.int p8)] [(.int p2)])) _
              refine XS.iload X0.here hx rfl (hb hby d15_17) rfl ?_
              show Steps p.tables e below (s₁.setTop (mkF m 19 #[.val (.int p1), .val (.int p2), .val (.int p3), .val (.int p4), .val (.int p5), .val (.int p6), .val (.int p7), .val (.int p8)] [(.int p5), (.int p2)])) _
              refine XS.icmpNo X0.here hx rfl (hb hby d15_19) rfl (feq hc19).1 ?_
              show Steps p.tables e below (s₁.setTop (mkF m 22 #[.val (.int p1), .val (.int p2), .val (.int p3), .val (.int p4), .val (.int p5), .val (.int p6), .val (.int p7), .val (.int p8)] [])) _
              refine XS.iloadN X0.here hx rfl (hb hby d15_22) rfl ?_
              show Steps p.tables e below (s₁.setTop (mkF m 23 #[.val (.int p1), .val (.int p2), .val (.int p3), .val (.int p4), .val (.int p5), .val (.int p6), .val (.int p7), .val (.int p8)] [(.int p1)])) _
              refine XS.iload X0.here hx rfl (hb hby d15_23) rfl ?_
              show Steps p.tables e below (s₁.setTop (mkF m 25 #[.val (.int p1), .val (.int p2), .val (.int p3), .val (.int p4), .val (.int p5), .val (.int p6), .val (.int p7), .val (.int p8)] [(.int p8), (.int p1)])) _
              refine XS.icmpNo X0.here hx rfl (hb hby d15_25) rfl (teq hc25).2 ?_
              show Steps p.tables e below (s₁.setTop (mkF m 28 #[.val (.int p1), .val (.int p2), .val (.int p3), .val (.int p4), .val (.int p5), .val (.int p6), .val (.int p7), .val (.int p8)] [])) _
              refine XS.iloadN X0.here hx rfl (hb hby d15_28) rfl ?_
              show Steps p.tables e below (s₁.setTop (mkF m 29 #[.val (.int p1), .val (.int p2), .val (.int p3), .val (.int p4), .val (.int p5), .val (.int p6), .val (.int p7), .val (.int p8)] [(.int p2)])) _
              refine XS.iload X0.here hx rfl (hb hby d15_29) rfl ?_
              show Steps p.tables e below (s₁.setTop (mkF m 31 #[.val (.int p1), .val (.int p2), .val (.int p3), .val (.int p4), .val (.int p5), .val (.int p6), .val (.int p7), .val (.int p8)] [(.int p7), (.int p2)])) _
              refine XS.icmpNo X0.here hx rfl (hb hby d15_31) rfl (teq hc31).2 ?_
              show Steps p.tables e below (s₁.setTop (mkF m 34 #[.val (.int p1), .val (.int p2), .val (.int p3), .val (.int p4), .val (.int p5), .val (.int p6), .val (.int p7), .val (.int p8)] [])) _
              refine XS.iconst X0.here hx rfl (hb hby d15_34) ?_
              show Steps p.tables e below (s₁.setTop (mkF m 35 #[.val (.int p1), .val (.int p2), .val (.int p3), .val (.int p4), .val (.int p5), .val (.int p6), .val (.int p7), .val (.int p8)] [(.int (1 : Int32))])) _
              refine XS.goto X0.here hx rfl (pc0 := 35) (pc' := 39) rfl (hb hby d15_35) (by decide) (by decide) ?_
              show Steps p.tables e below (s₁.setTop (mkF m 39 #[.val (.int p1), .val (.int p2), .val (.int p3), .val (.int p4), .val (.int p5), .val (.int p6), .val (.int p7), .val (.int p8)] [(.int (1 : Int32))])) _
              exact kt
            obtain ⟨fs, hr, hrun, hended, hW, hsame⟩ := X0.leave (v := some (.int (1 : Int32))) (fun h => by rw [Bd.returns] at h; cases h)
            refine ⟨_, _, pre10 _ ?_, hrun, hended, _, _, rfl, ?_, ⟨_, rfl⟩, hW, hsame.mono (by decide) (by decide)⟩
            · exact retN X0 hx (t := .boolean) Bd.returns (by simp) (hb hby d15_39) hr
            · show Q15 Z p1 p2 p3 p4 p5 p6 p7 p8 h0 n0 _ s₁.heap _
              rw [e0]
              exact ⟨by first | rfl | (simp only [r15, if_neg hc2, if_pos hc13, if_neg hc19, if_pos hc25, if_pos hc31]), N0, rfl⟩
          · skip
            have pre11 : ∀ t, Steps p.tables e below (s₁.setTop (mkF m 39 #[.val (.int p1), .val (.int p2), .val (.int p3), .val (.int p4), .val (.int p5), .val (.int p6), .val (.int p7), .val (.int p8)] [(.int (0 : Int32))])) t → Steps p.tables e below (s₁.setTop (entryFrame m #[(.int p1), (.int p2), (.int p3), (.int p4), (.int p5), (.int p6), (.int p7), (.int p8)] 8)) t := fun t kt => by
              refine pre0 t ?_
              refine XS.iloadN X0.here hx rfl (hb hby d15_0) rfl ?_
              show Steps p.tables e below (s₁.setTop (mkF m 1 #[.val (.int p1), .val (.int p2), .val (.int p3), .val (.int p4), .val (.int p5), .val (.int p6), .val (.int p7), .val (.int p8)] [(.int p1)])) _
              refine XS.iloadN X0.here hx rfl (hb hby d15_1) rfl ?_
              show Steps p.tables e below (s₁.setTop (mkF m 2 #[.val (.int p1), .val (.int p2), .val (.int p3), .val (.int p4), .val (.int p5), .val (.int p6), .val (.int p7), .val (.int p8)] [(.int p4), (.int p1)])) _
              refine XS.icmpYes X0.here hx rfl (pc0 := 2) (pc' := 10) rfl (hb hby d15_2) rfl (feq hc2).2 (by decide) (by decide) ?_
              show Steps p.tables e below (s₁.setTop (mkF m 10 #[.val (.int p1), .val (.int p2), .val (.int p3), .val (.int p4), .val (.int p5), .val (.int p6), .val (.int p7), .val (.int p8)] [])) _
              refine XS.iloadN X0.here hx rfl (hb hby d15_10) rfl ?_
              show Steps p.tables e below (s₁.setTop (mkF m 11 #[.val (.int p1), .val (.int p2), .val (.int p3), .val (.int p4), .val (.int p5), .val (.int p6), .val (.int p7), .val (.int p8)] [(.int p1)])) _
              refine XS.iload X0.here hx rfl (hb hby d15_11) rfl ?_
              show Steps p.tables e below (s₁.setTop (mkF m 13 #[.val (.int p1), .val (.int p2), .val (.int p3), .val (.int p4), .val (.int p5), .val (.int p6), .val (.int p7), .val (.int p8)] [(.int p6), (.int p1)])) _
              refine XS.icmpNo X0.here hx rfl (hb hby d15_13) rfl (teq hc13).2 ?_
              show Steps p.tables e below (s₁.setTop (mkF m 16 #[.val (.int p1), .val (.int p2), .val (.int p3), .val (.int p4), .val (.int p5), .val (.int p6), .val (.int p7), .val (.int p8)] [])) _
              refine XS.iloadN X0.here hx rfl (hb hby d15_16) rfl ?_
              show Steps p.tables e below (s₁.setTop (mkF m 17 #[.val (.int p1), .val (.int p2), .val (.int p3), .val (.int p4), .val (.int p5), .val (.int p6), .val (.int p7), .val (.int p8)] [(.int p2)])) _
              refine XS.iload X0.here hx rfl (hb hby d15_17) rfl ?_
              show Steps p.tables e below (s₁.setTop (mkF m 19 #[.val (.int p1), .val (.int p2), .val (.int p3), .val (.int p4), .val (.int p5), .val (.int p6), .val (.int p7), .val (.int p8)] [(.int p5), (.int p2)])) _
              refine XS.icmpNo X0.here hx rfl (hb hby d15_19) rfl (feq hc19).1 ?_
              show Steps p.tables e below (s₁.setTop (mkF m 22 #[.val (.int p1), .val (.int p2), .val (.int p3), .val (.int p4), .val (.int p5), .val (.int p6), .val (.int p7), .val (.int p8)] [])) _
              refine XS.iloadN X0.here hx rfl (hb hby d15_22) rfl ?_
              show Steps p.tables e below (s₁.setTop (mkF m 23 #[.val (.int p1), .val (.int p2), .val (.int p3), .val (.int p4), .val (.int p5), .val (.int p6), .val (.int p7), .val (.int p8)] [(.int p1)])) _
              refine XS.iload X0.here hx rfl (hb hby d15_23) rfl ?_
              show Steps p.tables e below (s₁.setTop (mkF m 25 #[.val (.int p1), .val (.int p2), .val (.int p3), .val (.int p4), .val (.int p5), .val (.int p6), .val (.int p7), .val (.int p8)] [(.int p8), (.int p1)])) _
              refine XS.icmpNo X0.here hx rfl (hb hby d15_25) rfl (teq hc25).2 ?_
              show Steps p.tables e below (s₁.setTop (mkF m 28 #[.val (.int p1), .val (.int p2), .val (.int p3), .val (.int p4), .val (.int p5), .val (.int p6), .val (.int p7), .val (.int p8)] [])) _
              refine XS.iloadN X0.here hx rfl (hb hby d15_28) rfl ?_
              show Steps p.tables e below (s₁.setTop (mkF m 29 #[.val (.int p1), .val (.int p2), .val (.int p3), .val (.int p4), .val (.int p5), .val (.int p6), .val (.int p7), .val (.int p8)] [(.int p2)])) _
              refine XS.iload X0.here hx rfl (hb hby d15_29) rfl ?_
              show Steps p.tables e below (s₁.setTop (mkF m 31 #[.val (.int p1), .val (.int p2), .val (.int p3), .val (.int p4), .val (.int p5), .val (.int p6), .val (.int p7), .val (.int p8)] [(.int p7), (.int p2)])) _
              refine XS.icmpYes X0.here hx rfl (pc0 := 31) (pc' := 38) rfl (hb hby d15_31) rfl (feq hc31).2 (by decide) (by decide) ?_
              show Steps p.tables e below (s₁.setTop (mkF m 38 #[.val (.int p1), .val (.int p2), .val (.int p3), .val (.int p4), .val (.int p5), .val (.int p6), .val (.int p7), .val (.int p8)] [])) _
              refine XS.iconst X0.here hx rfl (hb hby d15_38) ?_
              show Steps p.tables e below (s₁.setTop (mkF m 39 #[.val (.int p1), .val (.int p2), .val (.int p3), .val (.int p4), .val (.int p5), .val (.int p6), .val (.int p7), .val (.int p8)] [(.int (0 : Int32))])) _
              exact kt
            obtain ⟨fs, hr, hrun, hended, hW, hsame⟩ := X0.leave (v := some (.int (0 : Int32))) (fun h => by rw [Bd.returns] at h; cases h)
            refine ⟨_, _, pre11 _ ?_, hrun, hended, _, _, rfl, ?_, ⟨_, rfl⟩, hW, hsame.mono (by decide) (by decide)⟩
            · exact retN X0 hx (t := .boolean) Bd.returns (by simp) (hb hby d15_39) hr
            · show Q15 Z p1 p2 p3 p4 p5 p6 p7 p8 h0 n0 _ s₁.heap _
              rw [e0]
              exact ⟨by first | rfl | (simp only [r15, if_neg hc2, if_pos hc13, if_neg hc19, if_pos hc25, if_neg hc31]), N0, rfl⟩
        · skip
          have pre12 : ∀ t, Steps p.tables e below (s₁.setTop (mkF m 39 #[.val (.int p1), .val (.int p2), .val (.int p3), .val (.int p4), .val (.int p5), .val (.int p6), .val (.int p7), .val (.int p8)] [(.int (0 : Int32))])) t → Steps p.tables e below (s₁.setTop (entryFrame m #[(.int p1), (.int p2), (.int p3), (.int p4), (.int p5), (.int p6), (.int p7), (.int p8)] 8)) t := fun t kt => by
            refine pre0 t ?_
            refine XS.iloadN X0.here hx rfl (hb hby d15_0) rfl ?_
            show Steps p.tables e below (s₁.setTop (mkF m 1 #[.val (.int p1), .val (.int p2), .val (.int p3), .val (.int p4), .val (.int p5), .val (.int p6), .val (.int p7), .val (.int p8)] [(.int p1)])) _
            refine XS.iloadN X0.here hx rfl (hb hby d15_1) rfl ?_
            show Steps p.tables e below (s₁.setTop (mkF m 2 #[.val (.int p1), .val (.int p2), .val (.int p3), .val (.int p4), .val (.int p5), .val (.int p6), .val (.int p7), .val (.int p8)] [(.int p4), (.int p1)])) _
            refine XS.icmpYes X0.here hx rfl (pc0 := 2) (pc' := 10) rfl (hb hby d15_2) rfl (feq hc2).2 (by decide) (by decide) ?_
            show Steps p.tables e below (s₁.setTop (mkF m 10 #[.val (.int p1), .val (.int p2), .val (.int p3), .val (.int p4), .val (.int p5), .val (.int p6), .val (.int p7), .val (.int p8)] [])) _
            refine XS.iloadN X0.here hx rfl (hb hby d15_10) rfl ?_
            show Steps p.tables e below (s₁.setTop (mkF m 11 #[.val (.int p1), .val (.int p2), .val (.int p3), .val (.int p4), .val (.int p5), .val (.int p6), .val (.int p7), .val (.int p8)] [(.int p1)])) _
            refine XS.iload X0.here hx rfl (hb hby d15_11) rfl ?_
            show Steps p.tables e below (s₁.setTop (mkF m 13 #[.val (.int p1), .val (.int p2), .val (.int p3), .val (.int p4), .val (.int p5), .val (.int p6), .val (.int p7), .val (.int p8)] [(.int p6), (.int p1)])) _
            refine XS.icmpNo X0.here hx rfl (hb hby d15_13) rfl (teq hc13).2 ?_
            show Steps p.tables e below (s₁.setTop (mkF m 16 #[.val (.int p1), .val (.int p2), .val (.int p3), .val (.int p4), .val (.int p5), .val (.int p6), .val (.int p7), .val (.int p8)] [])) _
            refine XS.iloadN X0.here hx rfl (hb hby d15_16) rfl ?_
            show Steps p.tables e below (s₁.setTop (mkF m 17 #[.val (.int p1), .val (.int p2), .val (.int p3), .val (.int p4), .val (.int p5), .val (.int p6), .val (.int p7), .val (.int p8)] [(.int p2)])) _
            refine XS.iload X0.here hx rfl (hb hby d15_17) rfl ?_
            show Steps p.tables e below (s₁.setTop (mkF m 19 #[.val (.int p1), .val (.int p2), .val (.int p3), .val (.int p4), .val (.int p5), .val (.int p6), .val (.int p7), .val (.int p8)] [(.int p5), (.int p2)])) _
            refine XS.icmpNo X0.here hx rfl (hb hby d15_19) rfl (feq hc19).1 ?_
            show Steps p.tables e below (s₁.setTop (mkF m 22 #[.val (.int p1), .val (.int p2), .val (.int p3), .val (.int p4), .val (.int p5), .val (.int p6), .val (.int p7), .val (.int p8)] [])) _
            refine XS.iloadN X0.here hx rfl (hb hby d15_22) rfl ?_
            show Steps p.tables e below (s₁.setTop (mkF m 23 #[.val (.int p1), .val (.int p2), .val (.int p3), .val (.int p4), .val (.int p5), .val (.int p6), .val (.int p7), .val (.int p8)] [(.int p1)])) _
            refine XS.iload X0.here hx rfl (hb hby d15_23) rfl ?_
            show Steps p.tables e below (s₁.setTop (mkF m 25 #[.val (.int p1), .val (.int p2), .val (.int p3), .val (.int p4), .val (.int p5), .val (.int p6), .val (.int p7), .val (.int p8)] [(.int p8), (.int p1)])) _
            refine XS.icmpYes X0.here hx rfl (pc0 := 25) (pc' := 38) rfl (hb hby d15_25) rfl (feq hc25).2 (by decide) (by decide) ?_
            show Steps p.tables e below (s₁.setTop (mkF m 38 #[.val (.int p1), .val (.int p2), .val (.int p3), .val (.int p4), .val (.int p5), .val (.int p6), .val (.int p7), .val (.int p8)] [])) _
            refine XS.iconst X0.here hx rfl (hb hby d15_38) ?_
            show Steps p.tables e below (s₁.setTop (mkF m 39 #[.val (.int p1), .val (.int p2), .val (.int p3), .val (.int p4), .val (.int p5), .val (.int p6), .val (.int p7), .val (.int p8)] [(.int (0 : Int32))])) _
            exact kt
          obtain ⟨fs, hr, hrun, hended, hW, hsame⟩ := X0.leave (v := some (.int (0 : Int32))) (fun h => by rw [Bd.returns] at h; cases h)
          refine ⟨_, _, pre12 _ ?_, hrun, hended, _, _, rfl, ?_, ⟨_, rfl⟩, hW, hsame.mono (by decide) (by decide)⟩
          · exact retN X0 hx (t := .boolean) Bd.returns (by simp) (hb hby d15_39) hr
          · show Q15 Z p1 p2 p3 p4 p5 p6 p7 p8 h0 n0 _ s₁.heap _
            rw [e0]
            exact ⟨by first | rfl | (simp only [r15, if_neg hc2, if_pos hc13, if_neg hc19, if_neg hc25]), N0, rfl⟩
    · skip
      by_cases hc25 : p1 = p8
      · skip
        by_cases hc31 : p2 = p7
        · skip
          have pre13 : ∀ t, Steps p.tables e below (s₁.setTop (mkF m 39 #[.val (.int p1), .val (.int p2), .val (.int p3), .val (.int p4), .val (.int p5), .val (.int p6), .val (.int p7), .val (.int p8)] [(.int (1 : Int32))])) t → Steps p.tables e below (s₁.setTop (entryFrame m #[(.int p1), (.int p2), (.int p3), (.int p4), (.int p5), (.int p6), (.int p7), (.int p8)] 8)) t := fun t kt => by
            refine pre0 t ?_
            refine XS.iloadN X0.here hx rfl (hb hby d15_0) rfl ?_
            show Steps p.tables e below (s₁.setTop (mkF m 1 #[.val (.int p1), .val (.int p2), .val (.int p3), .val (.int p4), .val (.int p5), .val (.int p6), .val (.int p7), .val (.int p8)] [(.int p1)])) _
            refine XS.iloadN X0.here hx rfl (hb hby d15_1) rfl ?_
            show Steps p.tables e below (s₁.setTop (mkF m 2 #[.val (.int p1), .val (.int p2), .val (.int p3), .val (.int p4), .val (.int p5), .val (.int p6), .val (.int p7), .val (.int p8)] [(.int p4), (.int p1)])) _
            refine XS.icmpYes X0.here hx rfl (pc0 := 2) (pc' := 10) rfl (hb hby d15_2) rfl (feq hc2).2 (by decide) (by decide) ?_
            show Steps p.tables e below (s₁.setTop (mkF m 10 #[.val (.int p1), .val (.int p2), .val (.int p3), .val (.int p4), .val (.int p5), .val (.int p6), .val (.int p7), .val (.int p8)] [])) _
            refine XS.iloadN X0.here hx rfl (hb hby d15_10) rfl ?_
            show Steps p.tables e below (s₁.setTop (mkF m 11 #[.val (.int p1), .val (.int p2), .val (.int p3), .val (.int p4), .val (.int p5), .val (.int p6), .val (.int p7), .val (.int p8)] [(.int p1)])) _
            refine XS.iload X0.here hx rfl (hb hby d15_11) rfl ?_
            show Steps p.tables e below (s₁.setTop (mkF m 13 #[.val (.int p1), .val (.int p2), .val (.int p3), .val (.int p4), .val (.int p5), .val (.int p6), .val (.int p7), .val (.int p8)] [(.int p6), (.int p1)])) _
            refine XS.icmpYes X0.here hx rfl (pc0 := 13) (pc' := 22) rfl (hb hby d15_13) rfl (feq hc13).2 (by decide) (by decide) ?_
            show Steps p.tables e below (s₁.setTop (mkF m 22 #[.val (.int p1), .val (.int p2), .val (.int p3), .val (.int p4), .val (.int p5), .val (.int p6), .val (.int p7), .val (.int p8)] [])) _
            refine XS.iloadN X0.here hx rfl (hb hby d15_22) rfl ?_
            show Steps p.tables e below (s₁.setTop (mkF m 23 #[.val (.int p1), .val (.int p2), .val (.int p3), .val (.int p4), .val (.int p5), .val (.int p6), .val (.int p7), .val (.int p8)] [(.int p1)])) _
            refine XS.iload X0.here hx rfl (hb hby d15_23) rfl ?_
            show Steps p.tables e below (s₁.setTop (mkF m 25 #[.val (.int p1), .val (.int p2), .val (.int p3), .val (.int p4), .val (.int p5), .val (.int p6), .val (.int p7), .val (.int p8)] [(.int p8), (.int p1)])) _
            refine XS.icmpNo X0.here hx rfl (hb hby d15_25) rfl (teq hc25).2 ?_
            show Steps p.tables e below (s₁.setTop (mkF m 28 #[.val (.int p1), .val (.int p2), .val (.int p3), .val (.int p4), .val (.int p5), .val (.int p6), .val (.int p7), .val (.int p8)] [])) _
            refine XS.iloadN X0.here hx rfl (hb hby d15_28) rfl ?_
            show Steps p.tables e below (s₁.setTop (mkF m 29 #[.val (.int p1), .val (.int p2), .val (.int p3), .val (.int p4), .val (.int p5), .val (.int p6), .val (.int p7), .val (.int p8)] [(.int p2)])) _
            refine XS.iload X0.here hx rfl (hb hby d15_29) rfl ?_
            show Steps p.tables e below (s₁.setTop (mkF m 31 #[.val (.int p1), .val (.int p2), .val (.int p3), .val (.int p4), .val (.int p5), .val (.int p6), .val (.int p7), .val (.int p8)] [(.int p7), (.int p2)])) _
            refine XS.icmpNo X0.here hx rfl (hb hby d15_31) rfl (teq hc31).2 ?_
            show Steps p.tables e below (s₁.setTop (mkF m 34 #[.val (.int p1), .val (.int p2), .val (.int p3), .val (.int p4), .val (.int p5), .val (.int p6), .val (.int p7), .val (.int p8)] [])) _
            refine XS.iconst X0.here hx rfl (hb hby d15_34) ?_
            show Steps p.tables e below (s₁.setTop (mkF m 35 #[.val (.int p1), .val (.int p2), .val (.int p3), .val (.int p4), .val (.int p5), .val (.int p6), .val (.int p7), .val (.int p8)] [(.int (1 : Int32))])) _
            refine XS.goto X0.here hx rfl (pc0 := 35) (pc' := 39) rfl (hb hby d15_35) (by decide) (by decide) ?_
            show Steps p.tables e below (s₁.setTop (mkF m 39 #[.val (.int p1), .val (.int p2), .val (.int p3), .val (.int p4), .val (.int p5), .val (.int p6), .val (.int p7), .val (.int p8)] [(.int (1 : Int32))])) _
            exact kt
          obtain ⟨fs, hr, hrun, hended, hW, hsame⟩ := X0.leave (v := some (.int (1 : Int32))) (fun h => by rw [Bd.returns] at h; cases h)
          refine ⟨_, _, pre13 _ ?_, hrun, hended, _, _, rfl, ?_, ⟨_, rfl⟩, hW, hsame.mono (by decide) (by decide)⟩
          · exact retN X0 hx (t := .boolean) Bd.returns (by simp) (hb hby d15_39) hr
          · show Q15 Z p1 p2 p3 p4 p5 p6 p7 p8 h0 n0 _ s₁.heap _
            rw [e0]
            exact ⟨by first | rfl | (simp only [r15, if_neg hc2, if_neg hc13, if_pos hc25, if_pos hc31]), N0, rfl⟩
        · skip
          have pre14 : ∀ t, Steps p.tables e below (s₁.setTop (mkF m 39 #[.val (.int p1), .val (.int p2), .val (.int p3), .val (.int p4), .val (.int p5), .val (.int p6), .val (.int p7), .val (.int p8)] [(.int (0 : Int32))])) t → Steps p.tables e below (s₁.setTop (entryFrame m #[(.int p1), (.int p2), (.int p3), (.int p4), (.int p5), (.int p6), (.int p7), (.int p8)] 8)) t := fun t kt => by
            refine pre0 t ?_
            refine XS.iloadN X0.here hx rfl (hb hby d15_0) rfl ?_
            show Steps p.tables e below (s₁.setTop (mkF m 1 #[.val (.int p1), .val (.int p2), .val (.int p3), .val (.int p4), .val (.int p5), .val (.int p6), .val (.int p7), .val (.int p8)] [(.int p1)])) _
            refine XS.iloadN X0.here hx rfl (hb hby d15_1) rfl ?_
            show Steps p.tables e below (s₁.setTop (mkF m 2 #[.val (.int p1), .val (.int p2), .val (.int p3), .val (.int p4), .val (.int p5), .val (.int p6), .val (.int p7), .val (.int p8)] [(.int p4), (.int p1)])) _
            refine XS.icmpYes X0.here hx rfl (pc0 := 2) (pc' := 10) rfl (hb hby d15_2) rfl (feq hc2).2 (by decide) (by decide) ?_
            show Steps p.tables e below (s₁.setTop (mkF m 10 #[.val (.int p1), .val (.int p2), .val (.int p3), .val (.int p4), .val (.int p5), .val (.int p6), .val (.int p7), .val (.int p8)] [])) _
            refine XS.iloadN X0.here hx rfl (hb hby d15_10) rfl ?_
            show Steps p.tables e below (s₁.setTop (mkF m 11 #[.val (.int p1), .val (.int p2), .val (.int p3), .val (.int p4), .val (.int p5), .val (.int p6), .val (.int p7), .val (.int p8)] [(.int p1)])) _
            refine XS.iload X0.here hx rfl (hb hby d15_11) rfl ?_
            show Steps p.tables e below (s₁.setTop (mkF m 13 #[.val (.int p1), .val (.int p2), .val (.int p3), .val (.int p4), .val (.int p5), .val (.int p6), .val (.int p7), .val (.int p8)] [(.int p6), (.int p1)])) _
            refine XS.icmpYes X0.here hx rfl (pc0 := 13) (pc' := 22) rfl (hb hby d15_13) rfl (feq hc13).2 (by decide) (by decide) ?_
            show Steps p.tables e below (s₁.setTop (mkF m 22 #[.val (.int p1), .val (.int p2), .val (.int p3), .val (.int p4), .val (.int p5), .val (.int p6), .val (.int p7), .val (.int p8)] [])) _
            refine XS.iloadN X0.here hx rfl (hb hby d15_22) rfl ?_
            show Steps p.tables e below (s₁.setTop (mkF m 23 #[.val (.int p1), .val (.int p2), .val (.int p3), .val (.int p4), .val (.int p5), .val (.int p6), .val (.int p7), .val (.int p8)] [(.int p1)])) _
            refine XS.iload X0.here hx rfl (hb hby d15_23) rfl ?_
            show Steps p.tables e below (s₁.setTop (mkF m 25 #[.val (.int p1), .val (.int p2), .val (.int p3), .val (.int p4), .val (.int p5), .val (.int p6), .val (.int p7), .val (.int p8)] [(.int p8), (.int p1)])) _
            refine XS.icmpNo X0.here hx rfl (hb hby d15_25) rfl (teq hc25).2 ?_
            show Steps p.tables e below (s₁.setTop (mkF m 28 #[.val (.int p1), .val (.int p2), .val (.int p3), .val (.int p4), .val (.int p5), .val (.int p6), .val (.int p7), .val (.int p8)] [])) _
            refine XS.iloadN X0.here hx rfl (hb hby d15_28) rfl ?_
            show Steps p.tables e below (s₁.setTop (mkF m 29 #[.val (.int p1), .val (.int p2), .val (.int p3), .val (.int p4), .val (.int p5), .val (.int p6), .val (.int p7), .val (.int p8)] [(.int p2)])) _
            refine XS.iload X0.here hx rfl (hb hby d15_29) rfl ?_
            show Steps p.tables e below (s₁.setTop (mkF m 31 #[.val (.int p1), .val (.int p2), .val (.int p3), .val (.int p4), .val (.int p5), .val (.int p6), .val (.int p7), .val (.int p8)] [(.int p7), (.int p2)])) _
            refine XS.icmpYes X0.here hx rfl (pc0 := 31) (pc' := 38) rfl (hb hby d15_31) rfl (feq hc31).2 (by decide) (by decide) ?_
            show Steps p.tables e below (s₁.setTop (mkF m 38 #[.val (.int p1), .val (.int p2), .val (.int p3), .val (.int p4), .val (.int p5), .val (.int p6), .val (.int p7), .val (.int p8)] [])) _
            refine XS.iconst X0.here hx rfl (hb hby d15_38) ?_
            show Steps p.tables e below (s₁.setTop (mkF m 39 #[.val (.int p1), .val (.int p2), .val (.int p3), .val (.int p4), .val (.int p5), .val (.int p6), .val (.int p7), .val (.int p8)] [(.int (0 : Int32))])) _
            exact kt
          obtain ⟨fs, hr, hrun, hended, hW, hsame⟩ := X0.leave (v := some (.int (0 : Int32))) (fun h => by rw [Bd.returns] at h; cases h)
          refine ⟨_, _, pre14 _ ?_, hrun, hended, _, _, rfl, ?_, ⟨_, rfl⟩, hW, hsame.mono (by decide) (by decide)⟩
          · exact retN X0 hx (t := .boolean) Bd.returns (by simp) (hb hby d15_39) hr
          · show Q15 Z p1 p2 p3 p4 p5 p6 p7 p8 h0 n0 _ s₁.heap _
            rw [e0]
            exact ⟨by first | rfl | (simp only [r15, if_neg hc2, if_neg hc13, if_pos hc25, if_neg hc31]), N0, rfl⟩
      · skip
        have pre15 : ∀ t, Steps p.tables e below (s₁.setTop (mkF m 39 #[.val (.int p1), .val (.int p2), .val (.int p3), .val (.int p4), .val (.int p5), .val (.int p6), .val (.int p7), .val (.int p8)] [(.int (0 : Int32))])) t → Steps p.tables e below (s₁.setTop (entryFrame m #[(.int p1), (.int p2), (.int p3), (.int p4), (.int p5), (.int p6), (.int p7), (.int p8)] 8)) t := fun t kt => by
          refine pre0 t ?_
          refine XS.iloadN X0.here hx rfl (hb hby d15_0) rfl ?_
          show Steps p.tables e below (s₁.setTop (mkF m 1 #[.val (.int p1), .val (.int p2), .val (.int p3), .val (.int p4), .val (.int p5), .val (.int p6), .val (.int p7), .val (.int p8)] [(.int p1)])) _
          refine XS.iloadN X0.here hx rfl (hb hby d15_1) rfl ?_
          show Steps p.tables e below (s₁.setTop (mkF m 2 #[.val (.int p1), .val (.int p2), .val (.int p3), .val (.int p4), .val (.int p5), .val (.int p6), .val (.int p7), .val (.int p8)] [(.int p4), (.int p1)])) _
          refine XS.icmpYes X0.here hx rfl (pc0 := 2) (pc' := 10) rfl (hb hby d15_2) rfl (feq hc2).2 (by decide) (by decide) ?_
          show Steps p.tables e below (s₁.setTop (mkF m 10 #[.val (.int p1), .val (.int p2), .val (.int p3), .val (.int p4), .val (.int p5), .val (.int p6), .val (.int p7), .val (.int p8)] [])) _
          refine XS.iloadN X0.here hx rfl (hb hby d15_10) rfl ?_
          show Steps p.tables e below (s₁.setTop (mkF m 11 #[.val (.int p1), .val (.int p2), .val (.int p3), .val (.int p4), .val (.int p5), .val (.int p6), .val (.int p7), .val (.int p8)] [(.int p1)])) _
          refine XS.iload X0.here hx rfl (hb hby d15_11) rfl ?_
          show Steps p.tables e below (s₁.setTop (mkF m 13 #[.val (.int p1), .val (.int p2), .val (.int p3), .val (.int p4), .val (.int p5), .val (.int p6), .val (.int p7), .val (.int p8)] [(.int p6), (.int p1)])) _
          refine XS.icmpYes X0.here hx rfl (pc0 := 13) (pc' := 22) rfl (hb hby d15_13) rfl (feq hc13).2 (by decide) (by decide) ?_
          show Steps p.tables e below (s₁.setTop (mkF m 22 #[.val (.int p1), .val (.int p2), .val (.int p3), .val (.int p4), .val (.int p5), .val (.int p6), .val (.int p7), .val (.int p8)] [])) _
          refine XS.iloadN X0.here hx rfl (hb hby d15_22) rfl ?_
          show Steps p.tables e below (s₁.setTop (mkF m 23 #[.val (.int p1), .val (.int p2), .val (.int p3), .val (.int p4), .val (.int p5), .val (.int p6), .val (.int p7), .val (.int p8)] [(.int p1)])) _
          refine XS.iload X0.here hx rfl (hb hby d15_23) rfl ?_
          show Steps p.tables e below (s₁.setTop (mkF m 25 #[.val (.int p1), .val (.int p2), .val (.int p3), .val (.int p4), .val (.int p5), .val (.int p6), .val (.int p7), .val (.int p8)] [(.int p8), (.int p1)])) _
          refine XS.icmpYes X0.here hx rfl (pc0 := 25) (pc' := 38) rfl (hb hby d15_25) rfl (feq hc25).2 (by decide) (by decide) ?_
          show Steps p.tables e below (s₁.setTop (mkF m 38 #[.val (.int p1), .val (.int p2), .val (.int p3), .val (.int p4), .val (.int p5), .val (.int p6), .val (.int p7), .val (.int p8)] [])) _
          refine XS.iconst X0.here hx rfl (hb hby d15_38) ?_
          show Steps p.tables e below (s₁.setTop (mkF m 39 #[.val (.int p1), .val (.int p2), .val (.int p3), .val (.int p4), .val (.int p5), .val (.int p6), .val (.int p7), .val (.int p8)] [(.int (0 : Int32))])) _
          exact kt
        obtain ⟨fs, hr, hrun, hended, hW, hsame⟩ := X0.leave (v := some (.int (0 : Int32))) (fun h => by rw [Bd.returns] at h; cases h)
        refine ⟨_, _, pre15 _ ?_, hrun, hended, _, _, rfl, ?_, ⟨_, rfl⟩, hW, hsame.mono (by decide) (by decide)⟩
        · exact retN X0 hx (t := .boolean) Bd.returns (by simp) (hb hby d15_39) hr
        · show Q15 Z p1 p2 p3 p4 p5 p6 p7 p8 h0 n0 _ s₁.heap _
          rw [e0]
          exact ⟨by first | rfl | (simp only [r15, if_neg hc2, if_neg hc13, if_neg hc25]), N0, rfl⟩

theorem own_max (x : Int32) : 1 ≤ (r1 (1 : Int32) (x &&& (2147483647 : Int32))).toInt := by
  unfold r1
  by_cases h : (1 : Int32) < (x &&& (2147483647 : Int32))
  · rw [if_pos h]; rw [Int32.lt_iff_toInt_lt, show (1 : Int32).toInt = 1 from by decide] at h; omega
  · rw [if_neg h]; decide
theorem own_nz (n : Int32) (h : 1 ≤ n.toInt) : ¬ (n = (0 : Int32)) := fun z => by rw [z, show (0 : Int32).toInt = 0 from by decide] at h; omega
theorem own_mod (x n y : Int32) (h : 1 ≤ n.toInt) (hy : y = ((x &&& (2147483647 : Int32)) % n)) : 0 ≤ y.toInt ∧ y.toInt < n.toInt := by
  have a := c_and x (2147483647 : Int32) (by decide)
  have v := (c_iremV (x &&& (2147483647 : Int32)) n).1 a.1 (by omega)
  rw [← hy] at v
  omega
theorem own_lt0 (y : Int32) (h : 0 ≤ y.toInt) : ¬ (y < (0 : Int32)) := by rw [Int32.lt_iff_toInt_lt, show (0 : Int32).toInt = 0 from by decide]; omega
theorem own_enc (p x : Int32) (hp : 1 ≤ p.toInt) (hx : 0 ≤ x.toInt) : (((p.toInt64) <<< ((32 : Int32) &&& 0x3f).toInt64) ||| (x.toInt64)).toInt = p.toInt * 4294967296 + x.toInt := by
  have k32 : (32 : Int32).toBitVec.toNat % 64 = 32 := by decide
  have a := c_lshl p.toInt64 (32 : Int32) 32 k32
  rw [c_i2l] at a
  have r1 := rng32 p
  have r2 := rng32 x
  have r3 := rng64 ((p.toInt64) <<< ((32 : Int32) &&& 0x3f).toInt64)
  have e1 : ((p.toInt64) <<< ((32 : Int32) &&& 0x3f).toInt64).toInt = p.toInt * 4294967296 := by
    have : ((2 ^ 32 : Nat) : Int) = 4294967296 := by decide
    rw [this] at a
    omega
  have o := c_orL ((p.toInt64) <<< ((32 : Int32) &&& 0x3f).toInt64) x.toInt64 32 (by decide) 4294967296 (by decide) (by rw [e1]; omega) (by rw [c_i2l]; exact hx) (by rw [c_i2l]; omega)
  rw [c_i2l, e1] at o
  have r4 := rng64 (((p.toInt64) <<< ((32 : Int32) &&& 0x3f).toInt64) ||| (x.toInt64))
  omega
theorem own_dec (E : Int64) (p x : Int32) (hp : 1 ≤ p.toInt) (hx : 0 ≤ x.toInt) (h : E.toInt = p.toInt * 4294967296 + x.toInt) : (((E.toUInt64 >>> ((32 : Int32) &&& 0x3f).toInt64.toUInt64).toInt64).toInt32) = p ∧ E.toInt32 = x := by
  have k32 : (32 : Int32).toBitVec.toNat % 64 = 32 := by decide
  have a := c_lushr E (32 : Int32) 32 k32 (by decide)
  have b := c_l2i ((E.toUInt64 >>> ((32 : Int32) &&& 0x3f).toInt64.toUInt64).toInt64)
  have d := c_l2i E
  have r1 := rng32 p
  have r2 := rng32 x
  have r3 := rng32 (((E.toUInt64 >>> ((32 : Int32) &&& 0x3f).toInt64.toUInt64).toInt64).toInt32)
  have r4 := rng32 E.toInt32
  have : ((2 ^ 32 : Nat) : Int) = 4294967296 := by decide
  rw [this, h] at a
  rw [a] at b
  rw [h] at d
  constructor
  · apply Int32.toInt_inj.mp; omega
  · apply Int32.toInt_inj.mp; omega
theorem own_srt (f : Nat → Int64) : ((srt f 0 = f 0 ∧ srt f 1 = f 1 ∧ srt f 2 = f 2) ∨ (srt f 0 = f 0 ∧ srt f 1 = f 2 ∧ srt f 2 = f 1) ∨ (srt f 0 = f 1 ∧ srt f 1 = f 0 ∧ srt f 2 = f 2) ∨ (srt f 0 = f 1 ∧ srt f 1 = f 2 ∧ srt f 2 = f 0) ∨ (srt f 0 = f 2 ∧ srt f 1 = f 0 ∧ srt f 2 = f 1) ∨ (srt f 0 = f 2 ∧ srt f 1 = f 1 ∧ srt f 2 = f 0)) ∧ (srt f 0).toInt ≤ (srt f 1).toInt ∧ (srt f 1).toInt ≤ (srt f 2).toInt := by
  have z0 : ((0 : Int32)).toNatClampNeg = 0 := by decide
  have z1 : ((1 : Int32)).toNatClampNeg = 1 := by decide
  have z2 : ((2 : Int32)).toNatClampNeg = 2 := by decide
  unfold srt
  simp only [z0, z1, z2, lw_lt, Int64.lt_iff_toInt_lt]
  by_cases a : (f 1).toInt < (f 0).toInt
  · by_cases b : (f 2).toInt < (f 0).toInt
    · by_cases d : (f 2).toInt < (f 1).toInt
      · simp only [if_pos a, if_pos b, if_pos d, own_upd]; simp; omega
      · simp only [if_pos a, if_pos b, if_neg d, own_upd]; simp; omega
    · simp only [if_pos a, if_neg b, own_upd]; simp; omega
  · by_cases b : (f 2).toInt < (f 1).toInt
    · by_cases d : (f 2).toInt < (f 0).toInt
      · simp only [if_neg a, if_pos b, if_pos d, own_upd]; simp; omega
      · simp only [if_neg a, if_pos b, if_neg d, own_upd]; simp; omega
    · simp only [if_neg a, if_neg b]; simp; omega

theorem own_main (pp xx qq yy rr zz : Int32) (hp : 1 ≤ pp.toInt) (hx : 0 ≤ xx.toInt) (hq : 1 ≤ qq.toInt) (hy : 0 ≤ yy.toInt) (hr : 1 ≤ rr.toInt) (hz : 0 ≤ zz.toInt) (d1 : ¬ (pp = qq)) (d2 : ¬ (qq = rr)) (d3 : ¬ (pp = rr)) :
    (¬ ((((((srt (own_upd (own_upd (own_upd (fun _ => (0 : Int64)) ((0 : Int32)).toNatClampNeg (((pp.toInt64) <<< ((32 : Int32) &&& 0x3f).toInt64) ||| (xx.toInt64))) ((1 : Int32)).toNatClampNeg (((qq.toInt64) <<< ((32 : Int32) &&& 0x3f).toInt64) ||| (yy.toInt64))) ((2 : Int32)).toNatClampNeg (((rr.toInt64) <<< ((32 : Int32) &&& 0x3f).toInt64) ||| (zz.toInt64)))) ((0 : Int32)).toNatClampNeg).toUInt64 >>> ((32 : Int32) &&& 0x3f).toInt64.toUInt64).toInt64).toInt32) < (1 : Int32)) ∧ ¬ ((((((srt (own_upd (own_upd (own_upd (fun _ => (0 : Int64)) ((0 : Int32)).toNatClampNeg (((pp.toInt64) <<< ((32 : Int32) &&& 0x3f).toInt64) ||| (xx.toInt64))) ((1 : Int32)).toNatClampNeg (((qq.toInt64) <<< ((32 : Int32) &&& 0x3f).toInt64) ||| (yy.toInt64))) ((2 : Int32)).toNatClampNeg (((rr.toInt64) <<< ((32 : Int32) &&& 0x3f).toInt64) ||| (zz.toInt64)))) ((1 : Int32)).toNatClampNeg).toUInt64 >>> ((32 : Int32) &&& 0x3f).toInt64.toUInt64).toInt64).toInt32) < (1 : Int32)) ∧ ¬ ((((((srt (own_upd (own_upd (own_upd (fun _ => (0 : Int64)) ((0 : Int32)).toNatClampNeg (((pp.toInt64) <<< ((32 : Int32) &&& 0x3f).toInt64) ||| (xx.toInt64))) ((1 : Int32)).toNatClampNeg (((qq.toInt64) <<< ((32 : Int32) &&& 0x3f).toInt64) ||| (yy.toInt64))) ((2 : Int32)).toNatClampNeg (((rr.toInt64) <<< ((32 : Int32) &&& 0x3f).toInt64) ||| (zz.toInt64)))) ((2 : Int32)).toNatClampNeg).toUInt64 >>> ((32 : Int32) &&& 0x3f).toInt64.toUInt64).toInt64).toInt32) < (1 : Int32)) ∧ (((((srt (own_upd (own_upd (own_upd (fun _ => (0 : Int64)) ((0 : Int32)).toNatClampNeg (((pp.toInt64) <<< ((32 : Int32) &&& 0x3f).toInt64) ||| (xx.toInt64))) ((1 : Int32)).toNatClampNeg (((qq.toInt64) <<< ((32 : Int32) &&& 0x3f).toInt64) ||| (yy.toInt64))) ((2 : Int32)).toNatClampNeg (((rr.toInt64) <<< ((32 : Int32) &&& 0x3f).toInt64) ||| (zz.toInt64)))) ((0 : Int32)).toNatClampNeg).toUInt64 >>> ((32 : Int32) &&& 0x3f).toInt64.toUInt64).toInt64).toInt32) < (((((srt (own_upd (own_upd (own_upd (fun _ => (0 : Int64)) ((0 : Int32)).toNatClampNeg (((pp.toInt64) <<< ((32 : Int32) &&& 0x3f).toInt64) ||| (xx.toInt64))) ((1 : Int32)).toNatClampNeg (((qq.toInt64) <<< ((32 : Int32) &&& 0x3f).toInt64) ||| (yy.toInt64))) ((2 : Int32)).toNatClampNeg (((rr.toInt64) <<< ((32 : Int32) &&& 0x3f).toInt64) ||| (zz.toInt64)))) ((1 : Int32)).toNatClampNeg).toUInt64 >>> ((32 : Int32) &&& 0x3f).toInt64.toUInt64).toInt64).toInt32) ∧ (((((srt (own_upd (own_upd (own_upd (fun _ => (0 : Int64)) ((0 : Int32)).toNatClampNeg (((pp.toInt64) <<< ((32 : Int32) &&& 0x3f).toInt64) ||| (xx.toInt64))) ((1 : Int32)).toNatClampNeg (((qq.toInt64) <<< ((32 : Int32) &&& 0x3f).toInt64) ||| (yy.toInt64))) ((2 : Int32)).toNatClampNeg (((rr.toInt64) <<< ((32 : Int32) &&& 0x3f).toInt64) ||| (zz.toInt64)))) ((1 : Int32)).toNatClampNeg).toUInt64 >>> ((32 : Int32) &&& 0x3f).toInt64.toUInt64).toInt64).toInt32) < (((((srt (own_upd (own_upd (own_upd (fun _ => (0 : Int64)) ((0 : Int32)).toNatClampNeg (((pp.toInt64) <<< ((32 : Int32) &&& 0x3f).toInt64) ||| (xx.toInt64))) ((1 : Int32)).toNatClampNeg (((qq.toInt64) <<< ((32 : Int32) &&& 0x3f).toInt64) ||| (yy.toInt64))) ((2 : Int32)).toNatClampNeg (((rr.toInt64) <<< ((32 : Int32) &&& 0x3f).toInt64) ||| (zz.toInt64)))) ((2 : Int32)).toNatClampNeg).toUInt64 >>> ((32 : Int32) &&& 0x3f).toInt64.toUInt64).toInt64).toInt32) ∧ ¬ ((r15 (((((srt (own_upd (own_upd (own_upd (fun _ => (0 : Int64)) ((0 : Int32)).toNatClampNeg (((pp.toInt64) <<< ((32 : Int32) &&& 0x3f).toInt64) ||| (xx.toInt64))) ((1 : Int32)).toNatClampNeg (((qq.toInt64) <<< ((32 : Int32) &&& 0x3f).toInt64) ||| (yy.toInt64))) ((2 : Int32)).toNatClampNeg (((rr.toInt64) <<< ((32 : Int32) &&& 0x3f).toInt64) ||| (zz.toInt64)))) ((0 : Int32)).toNatClampNeg).toUInt64 >>> ((32 : Int32) &&& 0x3f).toInt64.toUInt64).toInt64).toInt32) (((srt (own_upd (own_upd (own_upd (fun _ => (0 : Int64)) ((0 : Int32)).toNatClampNeg (((pp.toInt64) <<< ((32 : Int32) &&& 0x3f).toInt64) ||| (xx.toInt64))) ((1 : Int32)).toNatClampNeg (((qq.toInt64) <<< ((32 : Int32) &&& 0x3f).toInt64) ||| (yy.toInt64))) ((2 : Int32)).toNatClampNeg (((rr.toInt64) <<< ((32 : Int32) &&& 0x3f).toInt64) ||| (zz.toInt64)))) ((0 : Int32)).toNatClampNeg).toInt32) xx pp yy qq zz rr) = (0 : Int32)) ∧ ¬ ((r15 (((((srt (own_upd (own_upd (own_upd (fun _ => (0 : Int64)) ((0 : Int32)).toNatClampNeg (((pp.toInt64) <<< ((32 : Int32) &&& 0x3f).toInt64) ||| (xx.toInt64))) ((1 : Int32)).toNatClampNeg (((qq.toInt64) <<< ((32 : Int32) &&& 0x3f).toInt64) ||| (yy.toInt64))) ((2 : Int32)).toNatClampNeg (((rr.toInt64) <<< ((32 : Int32) &&& 0x3f).toInt64) ||| (zz.toInt64)))) ((1 : Int32)).toNatClampNeg).toUInt64 >>> ((32 : Int32) &&& 0x3f).toInt64.toUInt64).toInt64).toInt32) (((srt (own_upd (own_upd (own_upd (fun _ => (0 : Int64)) ((0 : Int32)).toNatClampNeg (((pp.toInt64) <<< ((32 : Int32) &&& 0x3f).toInt64) ||| (xx.toInt64))) ((1 : Int32)).toNatClampNeg (((qq.toInt64) <<< ((32 : Int32) &&& 0x3f).toInt64) ||| (yy.toInt64))) ((2 : Int32)).toNatClampNeg (((rr.toInt64) <<< ((32 : Int32) &&& 0x3f).toInt64) ||| (zz.toInt64)))) ((1 : Int32)).toNatClampNeg).toInt32) xx pp yy qq zz rr) = (0 : Int32)) ∧ ¬ ((r15 (((((srt (own_upd (own_upd (own_upd (fun _ => (0 : Int64)) ((0 : Int32)).toNatClampNeg (((pp.toInt64) <<< ((32 : Int32) &&& 0x3f).toInt64) ||| (xx.toInt64))) ((1 : Int32)).toNatClampNeg (((qq.toInt64) <<< ((32 : Int32) &&& 0x3f).toInt64) ||| (yy.toInt64))) ((2 : Int32)).toNatClampNeg (((rr.toInt64) <<< ((32 : Int32) &&& 0x3f).toInt64) ||| (zz.toInt64)))) ((2 : Int32)).toNatClampNeg).toUInt64 >>> ((32 : Int32) &&& 0x3f).toInt64.toUInt64).toInt64).toInt32) (((srt (own_upd (own_upd (own_upd (fun _ => (0 : Int64)) ((0 : Int32)).toNatClampNeg (((pp.toInt64) <<< ((32 : Int32) &&& 0x3f).toInt64) ||| (xx.toInt64))) ((1 : Int32)).toNatClampNeg (((qq.toInt64) <<< ((32 : Int32) &&& 0x3f).toInt64) ||| (yy.toInt64))) ((2 : Int32)).toNatClampNeg (((rr.toInt64) <<< ((32 : Int32) &&& 0x3f).toInt64) ||| (zz.toInt64)))) ((2 : Int32)).toNatClampNeg).toInt32) xx pp yy qq zz rr) = (0 : Int32))) := by
  generalize hf : (own_upd (own_upd (own_upd (fun _ => (0 : Int64)) ((0 : Int32)).toNatClampNeg (((pp.toInt64) <<< ((32 : Int32) &&& 0x3f).toInt64) ||| (xx.toInt64))) ((1 : Int32)).toNatClampNeg (((qq.toInt64) <<< ((32 : Int32) &&& 0x3f).toInt64) ||| (yy.toInt64))) ((2 : Int32)).toNatClampNeg (((rr.toInt64) <<< ((32 : Int32) &&& 0x3f).toInt64) ||| (zz.toInt64))) = f
  have z0 : ((0 : Int32)).toNatClampNeg = 0 := by decide
  have z1 : ((1 : Int32)).toNatClampNeg = 1 := by decide
  have z2 : ((2 : Int32)).toNatClampNeg = 2 := by decide
  simp only [z0, z1, z2] at hf ⊢
  have f0 : f 0 = (((pp.toInt64) <<< ((32 : Int32) &&& 0x3f).toInt64) ||| (xx.toInt64)) := by rw [← hf]; rfl
  have f1 : f 1 = (((qq.toInt64) <<< ((32 : Int32) &&& 0x3f).toInt64) ||| (yy.toInt64)) := by rw [← hf]; rfl
  have f2 : f 2 = (((rr.toInt64) <<< ((32 : Int32) &&& 0x3f).toInt64) ||| (zz.toInt64)) := by rw [← hf]; rfl
  have e0 : (f 0).toInt = pp.toInt * 4294967296 + xx.toInt := by rw [f0]; exact own_enc pp xx hp hx
  have e1 : (f 1).toInt = qq.toInt * 4294967296 + yy.toInt := by rw [f1]; exact own_enc qq yy hq hy
  have e2 : (f 2).toInt = rr.toInt * 4294967296 + zz.toInt := by rw [f2]; exact own_enc rr zz hr hz
  obtain ⟨p0, w0⟩ := own_dec (f 0) pp xx hp hx e0
  obtain ⟨p1, w1⟩ := own_dec (f 1) qq yy hq hy e1
  obtain ⟨p2, w2⟩ := own_dec (f 2) rr zz hr hz e2
  have n1 : pp.toInt ≠ qq.toInt := fun w => d1 (Int32.toInt_inj.mp w)
  have n2 : qq.toInt ≠ rr.toInt := fun w => d2 (Int32.toInt_inj.mp w)
  have n3 : pp.toInt ≠ rr.toInt := fun w => d3 (Int32.toInt_inj.mp w)
  have rx := rng32 xx
  have ry := rng32 yy
  have rz := rng32 zz
  have A1 : r15 pp xx xx pp yy qq zz rr = 1 := by unfold r15; simp
  have A2 : r15 qq yy xx pp yy qq zz rr = 1 := by unfold r15; simp [Ne.symm d1]
  have A3 : r15 rr zz xx pp yy qq zz rr = 1 := by unfold r15; simp [Ne.symm d2, Ne.symm d3]
  have o1 : (1 : Int32).toInt = 1 := by decide
  obtain ⟨q, s1, s2⟩ := own_srt f
  rcases q with ⟨a, b, d⟩ | ⟨a, b, d⟩ | ⟨a, b, d⟩ | ⟨a, b, d⟩ | ⟨a, b, d⟩ | ⟨a, b, d⟩ <;>
  · rw [a, b] at s1
    rw [b, d] at s2
    rw [a, b, d]
    simp only [p0, w0, p1, w1, p2, w2, A1, A2, A3]
    simp only [Int32.lt_iff_toInt_lt, o1]
    refine ⟨by omega, by omega, by omega, by omega, by omega, by decide, by decide, by decide⟩

theorem pd__II_I : parseMethodDescriptor "(II)I" = some ⟨[.int, .int], some .int⟩ := by decide +kernel
theorem pd__I_V : parseMethodDescriptor "(I)V" = some ⟨[.int], none⟩ := by decide +kernel
theorem pd__II_V : parseMethodDescriptor "(II)V" = some ⟨[.int, .int], none⟩ := by decide +kernel
theorem pd___Lcom_example_hit_span_ranker_hitspanranker_chain_HitChain_ : parseMethodDescriptor "()Lcom/example/hit_span_ranker/hitspanranker/chain/HitChain;" = some ⟨[], some (.object "com/example/hit_span_ranker/hitspanranker/chain/HitChain")⟩ := by decide +kernel
theorem pd___I : parseMethodDescriptor "()I" = some ⟨[], some .int⟩ := by decide +kernel
theorem pd__I_I : parseMethodDescriptor "(I)I" = some ⟨[.int], some .int⟩ := by decide +kernel
theorem pd__IIIIIIII_Z : parseMethodDescriptor "(IIIIIIII)Z" = some ⟨[.int, .int, .int, .int, .int, .int, .int, .int], some .boolean⟩ := by decide +kernel
theorem ef_0 (m : MethodId) (x0 : Int32) (x1 : Int64) (x2 : Int32) (x3 : Int32) (x4 : Int32) (x5 : Int32) : entryFrame m #[(.int x0), (.long x1), (.int x2), (.int x3), (.int x4), (.int x5)] maxLocals = mkF m 0 #[.val (.int x0), .val (.long x1), .second, .val (.int x2), .val (.int x3), .val (.int x4), .val (.int x5), .unset, .unset, .unset, .unset, .unset, .unset, .unset, .unset, .unset, .unset, .unset, .unset, .unset, .unset, .unset] [] := by first | (simp [entryFrame, mkF, argsToLocals, Value.category, maxLocals]; done) | rfl
def Q0 (Z : State) (p1 : Int32) (q2 : Int64) (p3 : Int32) (p4 : Int32) (p5 : Int32) (p6 : Int32) (h0 : Heap) (n0 : Nat) (v : Option Value) (h : Heap) (L : List Loc) : Prop := v = some (.int 1) ∧ Fr n0 L
set_option maxRecDepth 65536 in
set_option maxHeartbeats 40000000 in
theorem rm0 (l : Launch) (Z : State) (a0 : Array Value) (hw : ∀ d ∈ tables_1, d.before a0 Z = true) (ws : List Jvm.Cond) (p1 : Int32) (q2 : Int64) (p3 : Int32) (p4 : Int32) (p5 : Int32) (p6 : Int32) (h0 : Heap) (n0 : Nat) (Z0 : n0 ≤ h0.size)  :
    MetFree l x (head1 (Jvm.Cond.code x code maxLocals ret :: ws) room_1) (fun a U => a = #[(.int p1), (.long q2), (.int p3), (.int p4), (.int p5), (.int p6)] ∧ Z.Warmed39 U.vm ∧ U.heap = h0) (fun _ _ _ _ _ => True) (fun _ U o U' => ∃ v L, o = .returned v ∧ Q0 Z p1 q2 p3 p4 p5 p6 h0 n0 v U'.heap L ∧ FrameEnd U o U' L room_1.cells room_1.slots) := by
  refine MetFree.of_bodySF (plainFor_of_name pn_com_example_hit_span_ranker_hitspanranker_chain_BuilderAddPinLaw) hisR ?_
  intro p e s m args below meth c s₁ Bd hml0 hP hK
  obtain ⟨rfl, hZ, hh⟩ := hP
  have hx := Bd.exec
  have hby := Bd.bytes
  have hml : c.maxLocals = 22 := hml0
  have hown : s.vm.findClass "com/example/hit_span_ranker/hitspanranker/chain/BuilderAddPinLaw" = some m.cls := findClass_of_methodNamed Bd.named
  have hnm := (name_of_methodNamed Bd.named Bd.method).1
  have X0 : Stand p l e room_1 s m #[(.int p1), (.long q2), (.int p3), (.int p4), (.int p5), (.int p6)] below meth c s₁ [] 0 0 := Stand.of_body Bd
  have e0 : s₁.heap = h0 := by rw [← hh, Bd.state]; rfl
  have N0 := Fr.nil n0
  have pre0 : ∀ t, Steps p.tables e below (s₁.setTop (mkF m 0 #[.val (.int p1), .val (.long q2), .second, .val (.int p3), .val (.int p4), .val (.int p5), .val (.int p6), .unset, .unset, .unset, .unset, .unset, .unset, .unset, .unset, .unset, .unset, .unset, .unset, .unset, .unset, .unset] [])) t → Steps p.tables e below (s₁.setTop (entryFrame m #[(.int p1), (.long q2), (.int p3), (.int p4), (.int p5), (.int p6)] maxLocals)) t := fun t k => castTop (ef_0 m p1 q2 p3 p4 p5 p6) k
  have pre1 : ∀ t, Steps p.tables e below (s₁.setTop (mkF m 5 #[.val (.int p1), .val (.long q2), .second, .val (.int p3), .val (.int p4), .val (.int p5), .val (.int p6), .unset, .unset, .unset, .unset, .unset, .unset, .unset, .unset, .unset, .unset, .unset, .unset, .unset, .unset, .unset] [(.int (p1 &&& (2147483647 : Int32))), (.int (1 : Int32))])) t → Steps p.tables e below (s₁.setTop (entryFrame m #[(.int p1), (.long q2), (.int p3), (.int p4), (.int p5), (.int p6)] maxLocals)) t := fun t kt => by
    refine pre0 t ?_
    refine XS.iconst X0.here hx rfl (hb hby at_0) ?_
    show Steps p.tables e below (s₁.setTop (mkF m 1 #[.val (.int p1), .val (.long q2), .second, .val (.int p3), .val (.int p4), .val (.int p5), .val (.int p6), .unset, .unset, .unset, .unset, .unset, .unset, .unset, .unset, .unset, .unset, .unset, .unset, .unset, .unset, .unset] [(.int (1 : Int32))])) _
    refine XS.iloadN X0.here hx rfl (hb hby at_1) rfl ?_
    show Steps p.tables e below (s₁.setTop (mkF m 2 #[.val (.int p1), .val (.long q2), .second, .val (.int p3), .val (.int p4), .val (.int p5), .val (.int p6), .unset, .unset, .unset, .unset, .unset, .unset, .unset, .unset, .unset, .unset, .unset, .unset, .unset, .unset, .unset] [(.int p1), (.int (1 : Int32))])) _
    refine X0.ldcInt hx hown (mvT hZ (hw _ (mgE 0 rfl))) (g := (mkF m 2 #[.val (.int p1), .val (.long q2), .second, .val (.int p3), .val (.int p4), .val (.int p5), .val (.int p6), .unset, .unset, .unset, .unset, .unset, .unset, .unset, .unset, .unset, .unset, .unset, .unset, .unset, .unset, .unset] [(.int p1), (.int (1 : Int32))])) rfl (hb hby at_2) _ ?_
    show Steps p.tables e below (s₁.setTop (mkF m 4 #[.val (.int p1), .val (.long q2), .second, .val (.int p3), .val (.int p4), .val (.int p5), .val (.int p6), .unset, .unset, .unset, .unset, .unset, .unset, .unset, .unset, .unset, .unset, .unset, .unset, .unset, .unset, .unset] [(.int (2147483647 : Int32)), (.int p1), (.int (1 : Int32))])) _
    refine XS.iand X0.here hx rfl (hb hby at_4) rfl ?_
    show Steps p.tables e below (s₁.setTop (mkF m 5 #[.val (.int p1), .val (.long q2), .second, .val (.int p3), .val (.int p4), .val (.int p5), .val (.int p6), .unset, .unset, .unset, .unset, .unset, .unset, .unset, .unset, .unset, .unset, .unset, .unset, .unset, .unset, .unset] [(.int (p1 &&& (2147483647 : Int32))), (.int (1 : Int32))])) _
    exact kt
  obtain ⟨_, _, ⟨T2, L2, k2, n2⟩, -, X2, ⟨Lc2, hQ2, l2, y2, z2⟩, st2⟩ := Jvm.LawKit.callS X0 hx (y := (⟨"java/lang/Math", "max", "(II)I"⟩ : MethodName)) hown (mvT hZ (hw _ (mgE 1 rfl))) (mvT hZ (hw _ (mgE 2 rfl))) (mvT hZ (hw _ (mgE 3 rfl))) (mvT hZ (hw _ (mgE 4 rfl))) (by decide) (backOf (W := 0) (rm1 l Z a0 hw [] (1 : Int32) (p1 &&& (2147483647 : Int32)) h0 n0 Z0 ) hZ (hw _ (mgE 4 rfl)) (hw _ (mgE 3 rfl)) (by decide) (by decide)) (g := (mkF m 5 #[.val (.int p1), .val (.long q2), .second, .val (.int p3), .val (.int p4), .val (.int p5), .val (.int p6), .unset, .unset, .unset, .unset, .unset, .unset, .unset, .unset, .unset, .unset, .unset, .unset, .unset, .unset, .unset] [(.int (p1 &&& (2147483647 : Int32))), (.int (1 : Int32))])) rfl (by rw [hml]; rfl) (argsL := [(.int (1 : Int32)), (.int (p1 &&& (2147483647 : Int32)))]) (rest := []) (lenOf pd__II_I rfl) rfl (by show 2 * 0 + _ ≤ _; exact Nat.le_of_eq rfl) (hb hby at_5) (fun _ _ => ⟨rfl, e0, (by decide : 0 + 0 ≤ _), (by decide : 0 + 0 ≤ _)⟩)
  dsimp only [Pt.U, Pt.locs, Pt.cells, Pt.slots] at X2 l2 y2 z2 st2 hQ2
  subst l2 y2 z2
  obtain ⟨rfl, N2q, e2⟩ := hQ2
  have pre3 : ∀ t, Steps p.tables e below (T2.setTop (mkF m 8 #[.val (.int p1), .val (.long q2), .second, .val (.int p3), .val (.int p4), .val (.int p5), .val (.int p6), .unset, .unset, .unset, .unset, .unset, .unset, .unset, .unset, .unset, .unset, .unset, .unset, .unset, .unset, .unset] [(.int (r1 (1 : Int32) (p1 &&& (2147483647 : Int32))))])) t → Steps p.tables e below (s₁.setTop (entryFrame m #[(.int p1), (.long q2), (.int p3), (.int p4), (.int p5), (.int p6)] maxLocals)) t := fun t kt => pre1 t (st2 t kt)
  have N2 := Fr.app N0 N2q
  have pre4 : ∀ t, Steps p.tables e below (T2.setTop (mkF m 10 #[.val (.int p1), .val (.long q2), .second, .val (.int p3), .val (.int p4), .val (.int p5), .val (.int p6), .val (.int (r1 (1 : Int32) (p1 &&& (2147483647 : Int32)))), .unset, .unset, .unset, .unset, .unset, .unset, .unset, .unset, .unset, .unset, .unset, .unset, .unset, .unset] [])) t → Steps p.tables e below (s₁.setTop (entryFrame m #[(.int p1), (.long q2), (.int p3), (.int p4), (.int p5), (.int p6)] maxLocals)) t := fun t kt => by
    refine pre3 t ?_
    refine XS.istore X2.here hx rfl (hb hby at_8) rfl (l' := #[.val (.int p1), .val (.long q2), .second, .val (.int p3), .val (.int p4), .val (.int p5), .val (.int p6), .val (.int (r1 (1 : Int32) (p1 &&& (2147483647 : Int32)))), .unset, .unset, .unset, .unset, .unset, .unset, .unset, .unset, .unset, .unset, .unset, .unset, .unset, .unset]) rfl ?_
    show Steps p.tables e below (T2.setTop (mkF m 10 #[.val (.int p1), .val (.long q2), .second, .val (.int p3), .val (.int p4), .val (.int p5), .val (.int p6), .val (.int (r1 (1 : Int32) (p1 &&& (2147483647 : Int32)))), .unset, .unset, .unset, .unset, .unset, .unset, .unset, .unset, .unset, .unset, .unset, .unset, .unset, .unset] [])) _
    exact kt
  obtain ⟨nn, h_nn⟩ : ∃ z, z = (r1 (1 : Int32) (p1 &&& (2147483647 : Int32))) := ⟨_, rfl⟩
  rw [← h_nn] at pre4
  have hnn_ : 1 ≤ nn.toInt := by rw [h_nn]; exact own_max p1
  have pre5 : ∀ t, Steps p.tables e below (T2.setTop (mkF m 20 #[.val (.int p1), .val (.long q2), .second, .val (.int p3), .val (.int p4), .val (.int p5), .val (.int p6), .val (.int nn), .val (.int (((q2.toInt32) &&& (2147483647 : Int32)) % nn)), .unset, .unset, .unset, .unset, .unset, .unset, .unset, .unset, .unset, .unset, .unset, .unset, .unset] [])) t → Steps p.tables e below (s₁.setTop (entryFrame m #[(.int p1), (.long q2), (.int p3), (.int p4), (.int p5), (.int p6)] maxLocals)) t := fun t kt => by
    refine pre4 t ?_
    refine XS.lloadN X2.here hx rfl (hb hby at_10) rfl ?_
    show Steps p.tables e below (T2.setTop (mkF m 11 #[.val (.int p1), .val (.long q2), .second, .val (.int p3), .val (.int p4), .val (.int p5), .val (.int p6), .val (.int nn), .unset, .unset, .unset, .unset, .unset, .unset, .unset, .unset, .unset, .unset, .unset, .unset, .unset, .unset] [(.long q2)])) _
    refine XS.l2i X2.here hx rfl (hb hby at_11) rfl ?_
    show Steps p.tables e below (T2.setTop (mkF m 12 #[.val (.int p1), .val (.long q2), .second, .val (.int p3), .val (.int p4), .val (.int p5), .val (.int p6), .val (.int nn), .unset, .unset, .unset, .unset, .unset, .unset, .unset, .unset, .unset, .unset, .unset, .unset, .unset, .unset] [(.int (q2.toInt32))])) _
    refine X2.ldcInt hx hown (mvT hZ (hw _ (mgE 0 rfl))) (g := (mkF m 12 #[.val (.int p1), .val (.long q2), .second, .val (.int p3), .val (.int p4), .val (.int p5), .val (.int p6), .val (.int nn), .unset, .unset, .unset, .unset, .unset, .unset, .unset, .unset, .unset, .unset, .unset, .unset, .unset, .unset] [(.int (q2.toInt32))])) rfl (hb hby at_12) _ ?_
    show Steps p.tables e below (T2.setTop (mkF m 14 #[.val (.int p1), .val (.long q2), .second, .val (.int p3), .val (.int p4), .val (.int p5), .val (.int p6), .val (.int nn), .unset, .unset, .unset, .unset, .unset, .unset, .unset, .unset, .unset, .unset, .unset, .unset, .unset, .unset] [(.int (2147483647 : Int32)), (.int (q2.toInt32))])) _
    refine XS.iand X2.here hx rfl (hb hby at_14) rfl ?_
    show Steps p.tables e below (T2.setTop (mkF m 15 #[.val (.int p1), .val (.long q2), .second, .val (.int p3), .val (.int p4), .val (.int p5), .val (.int p6), .val (.int nn), .unset, .unset, .unset, .unset, .unset, .unset, .unset, .unset, .unset, .unset, .unset, .unset, .unset, .unset] [(.int ((q2.toInt32) &&& (2147483647 : Int32)))])) _
    refine XS.iload X2.here hx rfl (hb hby at_15) rfl ?_
    show Steps p.tables e below (T2.setTop (mkF m 17 #[.val (.int p1), .val (.long q2), .second, .val (.int p3), .val (.int p4), .val (.int p5), .val (.int p6), .val (.int nn), .unset, .unset, .unset, .unset, .unset, .unset, .unset, .unset, .unset, .unset, .unset, .unset, .unset, .unset] [(.int nn), (.int ((q2.toInt32) &&& (2147483647 : Int32)))])) _
    have hnz17 : ¬ (nn = (0 : Int32)) := own_nz nn hnn_
    refine iremM X2 hx rfl (hb hby at_17) rfl hnz17 ?_
    show Steps p.tables e below (T2.setTop (mkF m 18 #[.val (.int p1), .val (.long q2), .second, .val (.int p3), .val (.int p4), .val (.int p5), .val (.int p6), .val (.int nn), .unset, .unset, .unset, .unset, .unset, .unset, .unset, .unset, .unset, .unset, .unset, .unset, .unset, .unset] [(.int (((q2.toInt32) &&& (2147483647 : Int32)) % nn))])) _
    refine XS.istore X2.here hx rfl (hb hby at_18) rfl (l' := #[.val (.int p1), .val (.long q2), .second, .val (.int p3), .val (.int p4), .val (.int p5), .val (.int p6), .val (.int nn), .val (.int (((q2.toInt32) &&& (2147483647 : Int32)) % nn)), .unset, .unset, .unset, .unset, .unset, .unset, .unset, .unset, .unset, .unset, .unset, .unset, .unset]) rfl ?_
    show Steps p.tables e below (T2.setTop (mkF m 20 #[.val (.int p1), .val (.long q2), .second, .val (.int p3), .val (.int p4), .val (.int p5), .val (.int p6), .val (.int nn), .val (.int (((q2.toInt32) &&& (2147483647 : Int32)) % nn)), .unset, .unset, .unset, .unset, .unset, .unset, .unset, .unset, .unset, .unset, .unset, .unset, .unset] [])) _
    exact kt
  obtain ⟨xx, h_xx⟩ : ∃ z, z = (((q2.toInt32) &&& (2147483647 : Int32)) % nn) := ⟨_, rfl⟩
  rw [← h_xx] at pre5
  have hxx_ := own_mod _ nn xx hnn_ h_xx
  have pre6 : ∀ t, Steps p.tables e below (T2.setTop (mkF m 33 #[.val (.int p1), .val (.long q2), .second, .val (.int p3), .val (.int p4), .val (.int p5), .val (.int p6), .val (.int nn), .val (.int xx), .val (.int (((((q2.toUInt64 >>> ((32 : Int32) &&& 0x3f).toInt64.toUInt64).toInt64).toInt32) &&& (2147483647 : Int32)) % nn)), .unset, .unset, .unset, .unset, .unset, .unset, .unset, .unset, .unset, .unset, .unset, .unset] [])) t → Steps p.tables e below (s₁.setTop (entryFrame m #[(.int p1), (.long q2), (.int p3), (.int p4), (.int p5), (.int p6)] maxLocals)) t := fun t kt => by
    refine pre5 t ?_
    refine XS.lloadN X2.here hx rfl (hb hby at_20) rfl ?_
    show Steps p.tables e below (T2.setTop (mkF m 21 #[.val (.int p1), .val (.long q2), .second, .val (.int p3), .val (.int p4), .val (.int p5), .val (.int p6), .val (.int nn), .val (.int xx), .unset, .unset, .unset, .unset, .unset, .unset, .unset, .unset, .unset, .unset, .unset, .unset, .unset] [(.long q2)])) _
    refine XS.bipush X2.here hx rfl (hb hby at_21) ?_
    show Steps p.tables e below (T2.setTop (mkF m 23 #[.val (.int p1), .val (.long q2), .second, .val (.int p3), .val (.int p4), .val (.int p5), .val (.int p6), .val (.int nn), .val (.int xx), .unset, .unset, .unset, .unset, .unset, .unset, .unset, .unset, .unset, .unset, .unset, .unset, .unset] [(.int (32 : Int32)), (.long q2)])) _
    refine XS.lushr X2.here hx rfl (hb hby at_23) rfl ?_
    show Steps p.tables e below (T2.setTop (mkF m 24 #[.val (.int p1), .val (.long q2), .second, .val (.int p3), .val (.int p4), .val (.int p5), .val (.int p6), .val (.int nn), .val (.int xx), .unset, .unset, .unset, .unset, .unset, .unset, .unset, .unset, .unset, .unset, .unset, .unset, .unset] [(.long ((q2.toUInt64 >>> ((32 : Int32) &&& 0x3f).toInt64.toUInt64).toInt64))])) _
    refine XS.l2i X2.here hx rfl (hb hby at_24) rfl ?_
    show Steps p.tables e below (T2.setTop (mkF m 25 #[.val (.int p1), .val (.long q2), .second, .val (.int p3), .val (.int p4), .val (.int p5), .val (.int p6), .val (.int nn), .val (.int xx), .unset, .unset, .unset, .unset, .unset, .unset, .unset, .unset, .unset, .unset, .unset, .unset, .unset] [(.int (((q2.toUInt64 >>> ((32 : Int32) &&& 0x3f).toInt64.toUInt64).toInt64).toInt32))])) _
    refine X2.ldcInt hx hown (mvT hZ (hw _ (mgE 0 rfl))) (g := (mkF m 25 #[.val (.int p1), .val (.long q2), .second, .val (.int p3), .val (.int p4), .val (.int p5), .val (.int p6), .val (.int nn), .val (.int xx), .unset, .unset, .unset, .unset, .unset, .unset, .unset, .unset, .unset, .unset, .unset, .unset, .unset] [(.int (((q2.toUInt64 >>> ((32 : Int32) &&& 0x3f).toInt64.toUInt64).toInt64).toInt32))])) rfl (hb hby at_25) _ ?_
    show Steps p.tables e below (T2.setTop (mkF m 27 #[.val (.int p1), .val (.long q2), .second, .val (.int p3), .val (.int p4), .val (.int p5), .val (.int p6), .val (.int nn), .val (.int xx), .unset, .unset, .unset, .unset, .unset, .unset, .unset, .unset, .unset, .unset, .unset, .unset, .unset] [(.int (2147483647 : Int32)), (.int (((q2.toUInt64 >>> ((32 : Int32) &&& 0x3f).toInt64.toUInt64).toInt64).toInt32))])) _
    refine XS.iand X2.here hx rfl (hb hby at_27) rfl ?_
    show Steps p.tables e below (T2.setTop (mkF m 28 #[.val (.int p1), .val (.long q2), .second, .val (.int p3), .val (.int p4), .val (.int p5), .val (.int p6), .val (.int nn), .val (.int xx), .unset, .unset, .unset, .unset, .unset, .unset, .unset, .unset, .unset, .unset, .unset, .unset, .unset] [(.int ((((q2.toUInt64 >>> ((32 : Int32) &&& 0x3f).toInt64.toUInt64).toInt64).toInt32) &&& (2147483647 : Int32)))])) _
    refine XS.iload X2.here hx rfl (hb hby at_28) rfl ?_
    show Steps p.tables e below (T2.setTop (mkF m 30 #[.val (.int p1), .val (.long q2), .second, .val (.int p3), .val (.int p4), .val (.int p5), .val (.int p6), .val (.int nn), .val (.int xx), .unset, .unset, .unset, .unset, .unset, .unset, .unset, .unset, .unset, .unset, .unset, .unset, .unset] [(.int nn), (.int ((((q2.toUInt64 >>> ((32 : Int32) &&& 0x3f).toInt64.toUInt64).toInt64).toInt32) &&& (2147483647 : Int32)))])) _
    have hnz30 : ¬ (nn = (0 : Int32)) := own_nz nn hnn_
    refine iremM X2 hx rfl (hb hby at_30) rfl hnz30 ?_
    show Steps p.tables e below (T2.setTop (mkF m 31 #[.val (.int p1), .val (.long q2), .second, .val (.int p3), .val (.int p4), .val (.int p5), .val (.int p6), .val (.int nn), .val (.int xx), .unset, .unset, .unset, .unset, .unset, .unset, .unset, .unset, .unset, .unset, .unset, .unset, .unset] [(.int (((((q2.toUInt64 >>> ((32 : Int32) &&& 0x3f).toInt64.toUInt64).toInt64).toInt32) &&& (2147483647 : Int32)) % nn))])) _
    refine XS.istore X2.here hx rfl (hb hby at_31) rfl (l' := #[.val (.int p1), .val (.long q2), .second, .val (.int p3), .val (.int p4), .val (.int p5), .val (.int p6), .val (.int nn), .val (.int xx), .val (.int (((((q2.toUInt64 >>> ((32 : Int32) &&& 0x3f).toInt64.toUInt64).toInt64).toInt32) &&& (2147483647 : Int32)) % nn)), .unset, .unset, .unset, .unset, .unset, .unset, .unset, .unset, .unset, .unset, .unset, .unset]) rfl ?_
    show Steps p.tables e below (T2.setTop (mkF m 33 #[.val (.int p1), .val (.long q2), .second, .val (.int p3), .val (.int p4), .val (.int p5), .val (.int p6), .val (.int nn), .val (.int xx), .val (.int (((((q2.toUInt64 >>> ((32 : Int32) &&& 0x3f).toInt64.toUInt64).toInt64).toInt32) &&& (2147483647 : Int32)) % nn)), .unset, .unset, .unset, .unset, .unset, .unset, .unset, .unset, .unset, .unset, .unset, .unset] [])) _
    exact kt
  obtain ⟨yy, h_yy⟩ : ∃ z, z = (((((q2.toUInt64 >>> ((32 : Int32) &&& 0x3f).toInt64.toUInt64).toInt64).toInt32) &&& (2147483647 : Int32)) % nn) := ⟨_, rfl⟩
  rw [← h_yy] at pre6
  have hyy_ := own_mod _ nn yy hnn_ h_yy
  have pre7 : ∀ t, Steps p.tables e below (T2.setTop (mkF m 42 #[.val (.int p1), .val (.long q2), .second, .val (.int p3), .val (.int p4), .val (.int p5), .val (.int p6), .val (.int nn), .val (.int xx), .val (.int yy), .val (.int ((p3 &&& (2147483647 : Int32)) % nn)), .unset, .unset, .unset, .unset, .unset, .unset, .unset, .unset, .unset, .unset, .unset] [])) t → Steps p.tables e below (s₁.setTop (entryFrame m #[(.int p1), (.long q2), (.int p3), (.int p4), (.int p5), (.int p6)] maxLocals)) t := fun t kt => by
    refine pre6 t ?_
    refine XS.iloadN X2.here hx rfl (hb hby at_33) rfl ?_
    show Steps p.tables e below (T2.setTop (mkF m 34 #[.val (.int p1), .val (.long q2), .second, .val (.int p3), .val (.int p4), .val (.int p5), .val (.int p6), .val (.int nn), .val (.int xx), .val (.int yy), .unset, .unset, .unset, .unset, .unset, .unset, .unset, .unset, .unset, .unset, .unset, .unset] [(.int p3)])) _
    refine X2.ldcInt hx hown (mvT hZ (hw _ (mgE 0 rfl))) (g := (mkF m 34 #[.val (.int p1), .val (.long q2), .second, .val (.int p3), .val (.int p4), .val (.int p5), .val (.int p6), .val (.int nn), .val (.int xx), .val (.int yy), .unset, .unset, .unset, .unset, .unset, .unset, .unset, .unset, .unset, .unset, .unset, .unset] [(.int p3)])) rfl (hb hby at_34) _ ?_
    show Steps p.tables e below (T2.setTop (mkF m 36 #[.val (.int p1), .val (.long q2), .second, .val (.int p3), .val (.int p4), .val (.int p5), .val (.int p6), .val (.int nn), .val (.int xx), .val (.int yy), .unset, .unset, .unset, .unset, .unset, .unset, .unset, .unset, .unset, .unset, .unset, .unset] [(.int (2147483647 : Int32)), (.int p3)])) _
    refine XS.iand X2.here hx rfl (hb hby at_36) rfl ?_
    show Steps p.tables e below (T2.setTop (mkF m 37 #[.val (.int p1), .val (.long q2), .second, .val (.int p3), .val (.int p4), .val (.int p5), .val (.int p6), .val (.int nn), .val (.int xx), .val (.int yy), .unset, .unset, .unset, .unset, .unset, .unset, .unset, .unset, .unset, .unset, .unset, .unset] [(.int (p3 &&& (2147483647 : Int32)))])) _
    refine XS.iload X2.here hx rfl (hb hby at_37) rfl ?_
    show Steps p.tables e below (T2.setTop (mkF m 39 #[.val (.int p1), .val (.long q2), .second, .val (.int p3), .val (.int p4), .val (.int p5), .val (.int p6), .val (.int nn), .val (.int xx), .val (.int yy), .unset, .unset, .unset, .unset, .unset, .unset, .unset, .unset, .unset, .unset, .unset, .unset] [(.int nn), (.int (p3 &&& (2147483647 : Int32)))])) _
    have hnz39 : ¬ (nn = (0 : Int32)) := own_nz nn hnn_
    refine iremM X2 hx rfl (hb hby at_39) rfl hnz39 ?_
    show Steps p.tables e below (T2.setTop (mkF m 40 #[.val (.int p1), .val (.long q2), .second, .val (.int p3), .val (.int p4), .val (.int p5), .val (.int p6), .val (.int nn), .val (.int xx), .val (.int yy), .unset, .unset, .unset, .unset, .unset, .unset, .unset, .unset, .unset, .unset, .unset, .unset] [(.int ((p3 &&& (2147483647 : Int32)) % nn))])) _
    refine XS.istore X2.here hx rfl (hb hby at_40) rfl (l' := #[.val (.int p1), .val (.long q2), .second, .val (.int p3), .val (.int p4), .val (.int p5), .val (.int p6), .val (.int nn), .val (.int xx), .val (.int yy), .val (.int ((p3 &&& (2147483647 : Int32)) % nn)), .unset, .unset, .unset, .unset, .unset, .unset, .unset, .unset, .unset, .unset, .unset]) rfl ?_
    show Steps p.tables e below (T2.setTop (mkF m 42 #[.val (.int p1), .val (.long q2), .second, .val (.int p3), .val (.int p4), .val (.int p5), .val (.int p6), .val (.int nn), .val (.int xx), .val (.int yy), .val (.int ((p3 &&& (2147483647 : Int32)) % nn)), .unset, .unset, .unset, .unset, .unset, .unset, .unset, .unset, .unset, .unset, .unset] [])) _
    exact kt
  obtain ⟨zz, h_zz⟩ : ∃ z, z = ((p3 &&& (2147483647 : Int32)) % nn) := ⟨_, rfl⟩
  rw [← h_zz] at pre7
  have hzz_ := own_mod _ nn zz hnn_ h_zz
  have pre8 : ∀ t, Steps p.tables e below (T2.setTop (mkF m 48 #[.val (.int p1), .val (.long q2), .second, .val (.int p3), .val (.int p4), .val (.int p5), .val (.int p6), .val (.int nn), .val (.int xx), .val (.int yy), .val (.int zz), .unset, .unset, .unset, .unset, .unset, .unset, .unset, .unset, .unset, .unset, .unset] [(.int (p4 &&& (2147483647 : Int32))), (.int (1 : Int32))])) t → Steps p.tables e below (s₁.setTop (entryFrame m #[(.int p1), (.long q2), (.int p3), (.int p4), (.int p5), (.int p6)] maxLocals)) t := fun t kt => by
    refine pre7 t ?_
    refine XS.iconst X2.here hx rfl (hb hby at_42) ?_
    show Steps p.tables e below (T2.setTop (mkF m 43 #[.val (.int p1), .val (.long q2), .second, .val (.int p3), .val (.int p4), .val (.int p5), .val (.int p6), .val (.int nn), .val (.int xx), .val (.int yy), .val (.int zz), .unset, .unset, .unset, .unset, .unset, .unset, .unset, .unset, .unset, .unset, .unset] [(.int (1 : Int32))])) _
    refine XS.iload X2.here hx rfl (hb hby at_43) rfl ?_
    show Steps p.tables e below (T2.setTop (mkF m 45 #[.val (.int p1), .val (.long q2), .second, .val (.int p3), .val (.int p4), .val (.int p5), .val (.int p6), .val (.int nn), .val (.int xx), .val (.int yy), .val (.int zz), .unset, .unset, .unset, .unset, .unset, .unset, .unset, .unset, .unset, .unset, .unset] [(.int p4), (.int (1 : Int32))])) _
    refine X2.ldcInt hx hown (mvT hZ (hw _ (mgE 0 rfl))) (g := (mkF m 45 #[.val (.int p1), .val (.long q2), .second, .val (.int p3), .val (.int p4), .val (.int p5), .val (.int p6), .val (.int nn), .val (.int xx), .val (.int yy), .val (.int zz), .unset, .unset, .unset, .unset, .unset, .unset, .unset, .unset, .unset, .unset, .unset] [(.int p4), (.int (1 : Int32))])) rfl (hb hby at_45) _ ?_
    show Steps p.tables e below (T2.setTop (mkF m 47 #[.val (.int p1), .val (.long q2), .second, .val (.int p3), .val (.int p4), .val (.int p5), .val (.int p6), .val (.int nn), .val (.int xx), .val (.int yy), .val (.int zz), .unset, .unset, .unset, .unset, .unset, .unset, .unset, .unset, .unset, .unset, .unset] [(.int (2147483647 : Int32)), (.int p4), (.int (1 : Int32))])) _
    refine XS.iand X2.here hx rfl (hb hby at_47) rfl ?_
    show Steps p.tables e below (T2.setTop (mkF m 48 #[.val (.int p1), .val (.long q2), .second, .val (.int p3), .val (.int p4), .val (.int p5), .val (.int p6), .val (.int nn), .val (.int xx), .val (.int yy), .val (.int zz), .unset, .unset, .unset, .unset, .unset, .unset, .unset, .unset, .unset, .unset, .unset] [(.int (p4 &&& (2147483647 : Int32))), (.int (1 : Int32))])) _
    exact kt
  obtain ⟨_, _, ⟨T9, L9, k9, n9⟩, -, X9, ⟨Lc9, hQ9, l9, y9, z9⟩, st9⟩ := Jvm.LawKit.callS X2 hx (y := (⟨"java/lang/Math", "max", "(II)I"⟩ : MethodName)) hown (mvT hZ (hw _ (mgE 1 rfl))) (mvT hZ (hw _ (mgE 2 rfl))) (mvT hZ (hw _ (mgE 3 rfl))) (mvT hZ (hw _ (mgE 4 rfl))) (by decide) (backOf (W := 0) (rm1 l Z a0 hw [] (1 : Int32) (p4 &&& (2147483647 : Int32)) h0 n0 Z0 ) hZ (hw _ (mgE 4 rfl)) (hw _ (mgE 3 rfl)) (by decide) (by decide)) (g := (mkF m 48 #[.val (.int p1), .val (.long q2), .second, .val (.int p3), .val (.int p4), .val (.int p5), .val (.int p6), .val (.int nn), .val (.int xx), .val (.int yy), .val (.int zz), .unset, .unset, .unset, .unset, .unset, .unset, .unset, .unset, .unset, .unset, .unset] [(.int (p4 &&& (2147483647 : Int32))), (.int (1 : Int32))])) rfl (by rw [hml]; rfl) (argsL := [(.int (1 : Int32)), (.int (p4 &&& (2147483647 : Int32)))]) (rest := []) (lenOf pd__II_I rfl) rfl (by show 2 * 0 + _ ≤ _; exact Nat.le_of_eq rfl) (hb hby at_48) (fun _ _ => ⟨rfl, e2, (by decide : 0 + 0 ≤ _), (by decide : 0 + 0 ≤ _)⟩)
  dsimp only [Pt.U, Pt.locs, Pt.cells, Pt.slots] at X9 l9 y9 z9 st9 hQ9
  subst l9 y9 z9
  obtain ⟨rfl, N9q, e9⟩ := hQ9
  have pre10 : ∀ t, Steps p.tables e below (T9.setTop (mkF m 51 #[.val (.int p1), .val (.long q2), .second, .val (.int p3), .val (.int p4), .val (.int p5), .val (.int p6), .val (.int nn), .val (.int xx), .val (.int yy), .val (.int zz), .unset, .unset, .unset, .unset, .unset, .unset, .unset, .unset, .unset, .unset, .unset] [(.int (r1 (1 : Int32) (p4 &&& (2147483647 : Int32))))])) t → Steps p.tables e below (s₁.setTop (entryFrame m #[(.int p1), (.long q2), (.int p3), (.int p4), (.int p5), (.int p6)] maxLocals)) t := fun t kt => pre8 t (st9 t kt)
  have N9 := Fr.app N2 N9q
  have pre11 : ∀ t, Steps p.tables e below (T9.setTop (mkF m 53 #[.val (.int p1), .val (.long q2), .second, .val (.int p3), .val (.int p4), .val (.int p5), .val (.int p6), .val (.int nn), .val (.int xx), .val (.int yy), .val (.int zz), .val (.int (r1 (1 : Int32) (p4 &&& (2147483647 : Int32)))), .unset, .unset, .unset, .unset, .unset, .unset, .unset, .unset, .unset, .unset] [])) t → Steps p.tables e below (s₁.setTop (entryFrame m #[(.int p1), (.long q2), (.int p3), (.int p4), (.int p5), (.int p6)] maxLocals)) t := fun t kt => by
    refine pre10 t ?_
    refine XS.istore X9.here hx rfl (hb hby at_51) rfl (l' := #[.val (.int p1), .val (.long q2), .second, .val (.int p3), .val (.int p4), .val (.int p5), .val (.int p6), .val (.int nn), .val (.int xx), .val (.int yy), .val (.int zz), .val (.int (r1 (1 : Int32) (p4 &&& (2147483647 : Int32)))), .unset, .unset, .unset, .unset, .unset, .unset, .unset, .unset, .unset, .unset]) rfl ?_
    show Steps p.tables e below (T9.setTop (mkF m 53 #[.val (.int p1), .val (.long q2), .second, .val (.int p3), .val (.int p4), .val (.int p5), .val (.int p6), .val (.int nn), .val (.int xx), .val (.int yy), .val (.int zz), .val (.int (r1 (1 : Int32) (p4 &&& (2147483647 : Int32)))), .unset, .unset, .unset, .unset, .unset, .unset, .unset, .unset, .unset, .unset] [])) _
    exact kt
  obtain ⟨pp, h_pp⟩ : ∃ z, z = (r1 (1 : Int32) (p4 &&& (2147483647 : Int32))) := ⟨_, rfl⟩
  rw [← h_pp] at pre11
  have hpp_ : 1 ≤ pp.toInt := by rw [h_pp]; exact own_max p4
  have pre12 : ∀ t, Steps p.tables e below (T9.setTop (mkF m 59 #[.val (.int p1), .val (.long q2), .second, .val (.int p3), .val (.int p4), .val (.int p5), .val (.int p6), .val (.int nn), .val (.int xx), .val (.int yy), .val (.int zz), .val (.int pp), .unset, .unset, .unset, .unset, .unset, .unset, .unset, .unset, .unset, .unset] [(.int (p5 &&& (2147483647 : Int32))), (.int (1 : Int32))])) t → Steps p.tables e below (s₁.setTop (entryFrame m #[(.int p1), (.long q2), (.int p3), (.int p4), (.int p5), (.int p6)] maxLocals)) t := fun t kt => by
    refine pre11 t ?_
    refine XS.iconst X9.here hx rfl (hb hby at_53) ?_
    show Steps p.tables e below (T9.setTop (mkF m 54 #[.val (.int p1), .val (.long q2), .second, .val (.int p3), .val (.int p4), .val (.int p5), .val (.int p6), .val (.int nn), .val (.int xx), .val (.int yy), .val (.int zz), .val (.int pp), .unset, .unset, .unset, .unset, .unset, .unset, .unset, .unset, .unset, .unset] [(.int (1 : Int32))])) _
    refine XS.iload X9.here hx rfl (hb hby at_54) rfl ?_
    show Steps p.tables e below (T9.setTop (mkF m 56 #[.val (.int p1), .val (.long q2), .second, .val (.int p3), .val (.int p4), .val (.int p5), .val (.int p6), .val (.int nn), .val (.int xx), .val (.int yy), .val (.int zz), .val (.int pp), .unset, .unset, .unset, .unset, .unset, .unset, .unset, .unset, .unset, .unset] [(.int p5), (.int (1 : Int32))])) _
    refine X9.ldcInt hx hown (mvT hZ (hw _ (mgE 0 rfl))) (g := (mkF m 56 #[.val (.int p1), .val (.long q2), .second, .val (.int p3), .val (.int p4), .val (.int p5), .val (.int p6), .val (.int nn), .val (.int xx), .val (.int yy), .val (.int zz), .val (.int pp), .unset, .unset, .unset, .unset, .unset, .unset, .unset, .unset, .unset, .unset] [(.int p5), (.int (1 : Int32))])) rfl (hb hby at_56) _ ?_
    show Steps p.tables e below (T9.setTop (mkF m 58 #[.val (.int p1), .val (.long q2), .second, .val (.int p3), .val (.int p4), .val (.int p5), .val (.int p6), .val (.int nn), .val (.int xx), .val (.int yy), .val (.int zz), .val (.int pp), .unset, .unset, .unset, .unset, .unset, .unset, .unset, .unset, .unset, .unset] [(.int (2147483647 : Int32)), (.int p5), (.int (1 : Int32))])) _
    refine XS.iand X9.here hx rfl (hb hby at_58) rfl ?_
    show Steps p.tables e below (T9.setTop (mkF m 59 #[.val (.int p1), .val (.long q2), .second, .val (.int p3), .val (.int p4), .val (.int p5), .val (.int p6), .val (.int nn), .val (.int xx), .val (.int yy), .val (.int zz), .val (.int pp), .unset, .unset, .unset, .unset, .unset, .unset, .unset, .unset, .unset, .unset] [(.int (p5 &&& (2147483647 : Int32))), (.int (1 : Int32))])) _
    exact kt
  obtain ⟨_, _, ⟨T13, L13, k13, n13⟩, -, X13, ⟨Lc13, hQ13, l13, y13, z13⟩, st13⟩ := Jvm.LawKit.callS X9 hx (y := (⟨"java/lang/Math", "max", "(II)I"⟩ : MethodName)) hown (mvT hZ (hw _ (mgE 1 rfl))) (mvT hZ (hw _ (mgE 2 rfl))) (mvT hZ (hw _ (mgE 3 rfl))) (mvT hZ (hw _ (mgE 4 rfl))) (by decide) (backOf (W := 0) (rm1 l Z a0 hw [] (1 : Int32) (p5 &&& (2147483647 : Int32)) h0 n0 Z0 ) hZ (hw _ (mgE 4 rfl)) (hw _ (mgE 3 rfl)) (by decide) (by decide)) (g := (mkF m 59 #[.val (.int p1), .val (.long q2), .second, .val (.int p3), .val (.int p4), .val (.int p5), .val (.int p6), .val (.int nn), .val (.int xx), .val (.int yy), .val (.int zz), .val (.int pp), .unset, .unset, .unset, .unset, .unset, .unset, .unset, .unset, .unset, .unset] [(.int (p5 &&& (2147483647 : Int32))), (.int (1 : Int32))])) rfl (by rw [hml]; rfl) (argsL := [(.int (1 : Int32)), (.int (p5 &&& (2147483647 : Int32)))]) (rest := []) (lenOf pd__II_I rfl) rfl (by show 2 * 0 + _ ≤ _; exact Nat.le_of_eq rfl) (hb hby at_59) (fun _ _ => ⟨rfl, e9, (by decide : 0 + 0 ≤ _), (by decide : 0 + 0 ≤ _)⟩)
  dsimp only [Pt.U, Pt.locs, Pt.cells, Pt.slots] at X13 l13 y13 z13 st13 hQ13
  subst l13 y13 z13
  obtain ⟨rfl, N13q, e13⟩ := hQ13
  have pre14 : ∀ t, Steps p.tables e below (T13.setTop (mkF m 62 #[.val (.int p1), .val (.long q2), .second, .val (.int p3), .val (.int p4), .val (.int p5), .val (.int p6), .val (.int nn), .val (.int xx), .val (.int yy), .val (.int zz), .val (.int pp), .unset, .unset, .unset, .unset, .unset, .unset, .unset, .unset, .unset, .unset] [(.int (r1 (1 : Int32) (p5 &&& (2147483647 : Int32))))])) t → Steps p.tables e below (s₁.setTop (entryFrame m #[(.int p1), (.long q2), (.int p3), (.int p4), (.int p5), (.int p6)] maxLocals)) t := fun t kt => pre12 t (st13 t kt)
  have N13 := Fr.app N9 N13q
  have pre15 : ∀ t, Steps p.tables e below (T13.setTop (mkF m 64 #[.val (.int p1), .val (.long q2), .second, .val (.int p3), .val (.int p4), .val (.int p5), .val (.int p6), .val (.int nn), .val (.int xx), .val (.int yy), .val (.int zz), .val (.int pp), .val (.int (r1 (1 : Int32) (p5 &&& (2147483647 : Int32)))), .unset, .unset, .unset, .unset, .unset, .unset, .unset, .unset, .unset] [])) t → Steps p.tables e below (s₁.setTop (entryFrame m #[(.int p1), (.long q2), (.int p3), (.int p4), (.int p5), (.int p6)] maxLocals)) t := fun t kt => by
    refine pre14 t ?_
    refine XS.istore X13.here hx rfl (hb hby at_62) rfl (l' := #[.val (.int p1), .val (.long q2), .second, .val (.int p3), .val (.int p4), .val (.int p5), .val (.int p6), .val (.int nn), .val (.int xx), .val (.int yy), .val (.int zz), .val (.int pp), .val (.int (r1 (1 : Int32) (p5 &&& (2147483647 : Int32)))), .unset, .unset, .unset, .unset, .unset, .unset, .unset, .unset, .unset]) rfl ?_
    show Steps p.tables e below (T13.setTop (mkF m 64 #[.val (.int p1), .val (.long q2), .second, .val (.int p3), .val (.int p4), .val (.int p5), .val (.int p6), .val (.int nn), .val (.int xx), .val (.int yy), .val (.int zz), .val (.int pp), .val (.int (r1 (1 : Int32) (p5 &&& (2147483647 : Int32)))), .unset, .unset, .unset, .unset, .unset, .unset, .unset, .unset, .unset] [])) _
    exact kt
  obtain ⟨qq, h_qq⟩ : ∃ z, z = (r1 (1 : Int32) (p5 &&& (2147483647 : Int32))) := ⟨_, rfl⟩
  rw [← h_qq] at pre15
  have hqq_ : 1 ≤ qq.toInt := by rw [h_qq]; exact own_max p5
  have pre16 : ∀ t, Steps p.tables e below (T13.setTop (mkF m 70 #[.val (.int p1), .val (.long q2), .second, .val (.int p3), .val (.int p4), .val (.int p5), .val (.int p6), .val (.int nn), .val (.int xx), .val (.int yy), .val (.int zz), .val (.int pp), .val (.int qq), .unset, .unset, .unset, .unset, .unset, .unset, .unset, .unset, .unset] [(.int (p6 &&& (2147483647 : Int32))), (.int (1 : Int32))])) t → Steps p.tables e below (s₁.setTop (entryFrame m #[(.int p1), (.long q2), (.int p3), (.int p4), (.int p5), (.int p6)] maxLocals)) t := fun t kt => by
    refine pre15 t ?_
    refine XS.iconst X13.here hx rfl (hb hby at_64) ?_
    show Steps p.tables e below (T13.setTop (mkF m 65 #[.val (.int p1), .val (.long q2), .second, .val (.int p3), .val (.int p4), .val (.int p5), .val (.int p6), .val (.int nn), .val (.int xx), .val (.int yy), .val (.int zz), .val (.int pp), .val (.int qq), .unset, .unset, .unset, .unset, .unset, .unset, .unset, .unset, .unset] [(.int (1 : Int32))])) _
    refine XS.iload X13.here hx rfl (hb hby at_65) rfl ?_
    show Steps p.tables e below (T13.setTop (mkF m 67 #[.val (.int p1), .val (.long q2), .second, .val (.int p3), .val (.int p4), .val (.int p5), .val (.int p6), .val (.int nn), .val (.int xx), .val (.int yy), .val (.int zz), .val (.int pp), .val (.int qq), .unset, .unset, .unset, .unset, .unset, .unset, .unset, .unset, .unset] [(.int p6), (.int (1 : Int32))])) _
    refine X13.ldcInt hx hown (mvT hZ (hw _ (mgE 0 rfl))) (g := (mkF m 67 #[.val (.int p1), .val (.long q2), .second, .val (.int p3), .val (.int p4), .val (.int p5), .val (.int p6), .val (.int nn), .val (.int xx), .val (.int yy), .val (.int zz), .val (.int pp), .val (.int qq), .unset, .unset, .unset, .unset, .unset, .unset, .unset, .unset, .unset] [(.int p6), (.int (1 : Int32))])) rfl (hb hby at_67) _ ?_
    show Steps p.tables e below (T13.setTop (mkF m 69 #[.val (.int p1), .val (.long q2), .second, .val (.int p3), .val (.int p4), .val (.int p5), .val (.int p6), .val (.int nn), .val (.int xx), .val (.int yy), .val (.int zz), .val (.int pp), .val (.int qq), .unset, .unset, .unset, .unset, .unset, .unset, .unset, .unset, .unset] [(.int (2147483647 : Int32)), (.int p6), (.int (1 : Int32))])) _
    refine XS.iand X13.here hx rfl (hb hby at_69) rfl ?_
    show Steps p.tables e below (T13.setTop (mkF m 70 #[.val (.int p1), .val (.long q2), .second, .val (.int p3), .val (.int p4), .val (.int p5), .val (.int p6), .val (.int nn), .val (.int xx), .val (.int yy), .val (.int zz), .val (.int pp), .val (.int qq), .unset, .unset, .unset, .unset, .unset, .unset, .unset, .unset, .unset] [(.int (p6 &&& (2147483647 : Int32))), (.int (1 : Int32))])) _
    exact kt
  obtain ⟨_, _, ⟨T17, L17, k17, n17⟩, -, X17, ⟨Lc17, hQ17, l17, y17, z17⟩, st17⟩ := Jvm.LawKit.callS X13 hx (y := (⟨"java/lang/Math", "max", "(II)I"⟩ : MethodName)) hown (mvT hZ (hw _ (mgE 1 rfl))) (mvT hZ (hw _ (mgE 2 rfl))) (mvT hZ (hw _ (mgE 3 rfl))) (mvT hZ (hw _ (mgE 4 rfl))) (by decide) (backOf (W := 0) (rm1 l Z a0 hw [] (1 : Int32) (p6 &&& (2147483647 : Int32)) h0 n0 Z0 ) hZ (hw _ (mgE 4 rfl)) (hw _ (mgE 3 rfl)) (by decide) (by decide)) (g := (mkF m 70 #[.val (.int p1), .val (.long q2), .second, .val (.int p3), .val (.int p4), .val (.int p5), .val (.int p6), .val (.int nn), .val (.int xx), .val (.int yy), .val (.int zz), .val (.int pp), .val (.int qq), .unset, .unset, .unset, .unset, .unset, .unset, .unset, .unset, .unset] [(.int (p6 &&& (2147483647 : Int32))), (.int (1 : Int32))])) rfl (by rw [hml]; rfl) (argsL := [(.int (1 : Int32)), (.int (p6 &&& (2147483647 : Int32)))]) (rest := []) (lenOf pd__II_I rfl) rfl (by show 2 * 0 + _ ≤ _; exact Nat.le_of_eq rfl) (hb hby at_70) (fun _ _ => ⟨rfl, e13, (by decide : 0 + 0 ≤ _), (by decide : 0 + 0 ≤ _)⟩)
  dsimp only [Pt.U, Pt.locs, Pt.cells, Pt.slots] at X17 l17 y17 z17 st17 hQ17
  subst l17 y17 z17
  obtain ⟨rfl, N17q, e17⟩ := hQ17
  have pre18 : ∀ t, Steps p.tables e below (T17.setTop (mkF m 73 #[.val (.int p1), .val (.long q2), .second, .val (.int p3), .val (.int p4), .val (.int p5), .val (.int p6), .val (.int nn), .val (.int xx), .val (.int yy), .val (.int zz), .val (.int pp), .val (.int qq), .unset, .unset, .unset, .unset, .unset, .unset, .unset, .unset, .unset] [(.int (r1 (1 : Int32) (p6 &&& (2147483647 : Int32))))])) t → Steps p.tables e below (s₁.setTop (entryFrame m #[(.int p1), (.long q2), (.int p3), (.int p4), (.int p5), (.int p6)] maxLocals)) t := fun t kt => pre16 t (st17 t kt)
  have N17 := Fr.app N13 N17q
  have pre19 : ∀ t, Steps p.tables e below (T17.setTop (mkF m 75 #[.val (.int p1), .val (.long q2), .second, .val (.int p3), .val (.int p4), .val (.int p5), .val (.int p6), .val (.int nn), .val (.int xx), .val (.int yy), .val (.int zz), .val (.int pp), .val (.int qq), .val (.int (r1 (1 : Int32) (p6 &&& (2147483647 : Int32)))), .unset, .unset, .unset, .unset, .unset, .unset, .unset, .unset] [])) t → Steps p.tables e below (s₁.setTop (entryFrame m #[(.int p1), (.long q2), (.int p3), (.int p4), (.int p5), (.int p6)] maxLocals)) t := fun t kt => by
    refine pre18 t ?_
    refine XS.istore X17.here hx rfl (hb hby at_73) rfl (l' := #[.val (.int p1), .val (.long q2), .second, .val (.int p3), .val (.int p4), .val (.int p5), .val (.int p6), .val (.int nn), .val (.int xx), .val (.int yy), .val (.int zz), .val (.int pp), .val (.int qq), .val (.int (r1 (1 : Int32) (p6 &&& (2147483647 : Int32)))), .unset, .unset, .unset, .unset, .unset, .unset, .unset, .unset]) rfl ?_
    show Steps p.tables e below (T17.setTop (mkF m 75 #[.val (.int p1), .val (.long q2), .second, .val (.int p3), .val (.int p4), .val (.int p5), .val (.int p6), .val (.int nn), .val (.int xx), .val (.int yy), .val (.int zz), .val (.int pp), .val (.int qq), .val (.int (r1 (1 : Int32) (p6 &&& (2147483647 : Int32)))), .unset, .unset, .unset, .unset, .unset, .unset, .unset, .unset] [])) _
    exact kt
  obtain ⟨rr, h_rr⟩ : ∃ z, z = (r1 (1 : Int32) (p6 &&& (2147483647 : Int32))) := ⟨_, rfl⟩
  rw [← h_rr] at pre19
  have hrr_ : 1 ≤ rr.toInt := by rw [h_rr]; exact own_max p6
  by_cases hc79 : pp = qq
  · skip
    have pre20 : ∀ t, Steps p.tables e below (T17.setTop (mkF m 97 #[.val (.int p1), .val (.long q2), .second, .val (.int p3), .val (.int p4), .val (.int p5), .val (.int p6), .val (.int nn), .val (.int xx), .val (.int yy), .val (.int zz), .val (.int pp), .val (.int qq), .val (.int rr), .unset, .unset, .unset, .unset, .unset, .unset, .unset, .unset] [(.int (1 : Int32))])) t → Steps p.tables e below (s₁.setTop (entryFrame m #[(.int p1), (.long q2), (.int p3), (.int p4), (.int p5), (.int p6)] maxLocals)) t := fun t kt => by
      refine pre19 t ?_
      refine XS.iload X17.here hx rfl (hb hby at_75) rfl ?_
      show Steps p.tables e below (T17.setTop (mkF m 77 #[.val (.int p1), .val (.long q2), .second, .val (.int p3), .val (.int p4), .val (.int p5), .val (.int p6), .val (.int nn), .val (.int xx), .val (.int yy), .val (.int zz), .val (.int pp), .val (.int qq), .val (.int rr), .unset, .unset, .unset, .unset, .unset, .unset, .unset, .unset] [(.int pp)])) _
      refine XS.iload X17.here hx rfl (hb hby at_77) rfl ?_
      show Steps p.tables e below (T17.setTop (mkF m 79 #[.val (.int p1), .val (.long q2), .second, .val (.int p3), .val (.int p4), .val (.int p5), .val (.int p6), .val (.int nn), .val (.int xx), .val (.int yy), .val (.int zz), .val (.int pp), .val (.int qq), .val (.int rr), .unset, .unset, .unset, .unset, .unset, .unset, .unset, .unset] [(.int qq), (.int pp)])) _
      refine XS.icmpYes X17.here hx rfl (pc0 := 79) (pc' := 96) rfl (hb hby at_79) rfl (teq hc79).1 (by decide) (by decide) ?_
      show Steps p.tables e below (T17.setTop (mkF m 96 #[.val (.int p1), .val (.long q2), .second, .val (.int p3), .val (.int p4), .val (.int p5), .val (.int p6), .val (.int nn), .val (.int xx), .val (.int yy), .val (.int zz), .val (.int pp), .val (.int qq), .val (.int rr), .unset, .unset, .unset, .unset, .unset, .unset, .unset, .unset] [])) _
      refine XS.iconst X17.here hx rfl (hb hby at_96) ?_
      show Steps p.tables e below (T17.setTop (mkF m 97 #[.val (.int p1), .val (.long q2), .second, .val (.int p3), .val (.int p4), .val (.int p5), .val (.int p6), .val (.int nn), .val (.int xx), .val (.int yy), .val (.int zz), .val (.int pp), .val (.int qq), .val (.int rr), .unset, .unset, .unset, .unset, .unset, .unset, .unset, .unset] [(.int (1 : Int32))])) _
      exact kt
    obtain ⟨fs, hr, hrun, hended, hW, hsame⟩ := X17.leave (v := some (.int (1 : Int32))) (fun h => by rw [Bd.returns] at h; cases h)
    refine ⟨_, _, pre20 _ ?_, hrun, hended, _, _, rfl, ?_, ⟨_, rfl⟩, hW, hsame.mono (by decide) (by decide)⟩
    · exact retN X17 hx (t := .boolean) Bd.returns (by simp) (hb hby at_97) hr
    · show Q0 Z p1 q2 p3 p4 p5 p6 h0 n0 _ T17.heap _
      rw [e17]
      exact ⟨rfl, N17⟩
  · skip
    by_cases hc86 : qq = rr
    · skip
      have pre21 : ∀ t, Steps p.tables e below (T17.setTop (mkF m 97 #[.val (.int p1), .val (.long q2), .second, .val (.int p3), .val (.int p4), .val (.int p5), .val (.int p6), .val (.int nn), .val (.int xx), .val (.int yy), .val (.int zz), .val (.int pp), .val (.int qq), .val (.int rr), .unset, .unset, .unset, .unset, .unset, .unset, .unset, .unset] [(.int (1 : Int32))])) t → Steps p.tables e below (s₁.setTop (entryFrame m #[(.int p1), (.long q2), (.int p3), (.int p4), (.int p5), (.int p6)] maxLocals)) t := fun t kt => by
        refine pre19 t ?_
        refine XS.iload X17.here hx rfl (hb hby at_75) rfl ?_
        show Steps p.tables e below (T17.setTop (mkF m 77 #[.val (.int p1), .val (.long q2), .second, .val (.int p3), .val (.int p4), .val (.int p5), .val (.int p6), .val (.int nn), .val (.int xx), .val (.int yy), .val (.int zz), .val (.int pp), .val (.int qq), .val (.int rr), .unset, .unset, .unset, .unset, .unset, .unset, .unset, .unset] [(.int pp)])) _
        refine XS.iload X17.here hx rfl (hb hby at_77) rfl ?_
        show Steps p.tables e below (T17.setTop (mkF m 79 #[.val (.int p1), .val (.long q2), .second, .val (.int p3), .val (.int p4), .val (.int p5), .val (.int p6), .val (.int nn), .val (.int xx), .val (.int yy), .val (.int zz), .val (.int pp), .val (.int qq), .val (.int rr), .unset, .unset, .unset, .unset, .unset, .unset, .unset, .unset] [(.int qq), (.int pp)])) _
        refine XS.icmpNo X17.here hx rfl (hb hby at_79) rfl (feq hc79).1 ?_
        show Steps p.tables e below (T17.setTop (mkF m 82 #[.val (.int p1), .val (.long q2), .second, .val (.int p3), .val (.int p4), .val (.int p5), .val (.int p6), .val (.int nn), .val (.int xx), .val (.int yy), .val (.int zz), .val (.int pp), .val (.int qq), .val (.int rr), .unset, .unset, .unset, .unset, .unset, .unset, .unset, .unset] [])) _
        refine XS.iload X17.here hx rfl (hb hby at_82) rfl ?_
        show Steps p.tables e below (T17.setTop (mkF m 84 #[.val (.int p1), .val (.long q2), .second, .val (.int p3), .val (.int p4), .val (.int p5), .val (.int p6), .val (.int nn), .val (.int xx), .val (.int yy), .val (.int zz), .val (.int pp), .val (.int qq), .val (.int rr), .unset, .unset, .unset, .unset, .unset, .unset, .unset, .unset] [(.int qq)])) _
        refine XS.iload X17.here hx rfl (hb hby at_84) rfl ?_
        show Steps p.tables e below (T17.setTop (mkF m 86 #[.val (.int p1), .val (.long q2), .second, .val (.int p3), .val (.int p4), .val (.int p5), .val (.int p6), .val (.int nn), .val (.int xx), .val (.int yy), .val (.int zz), .val (.int pp), .val (.int qq), .val (.int rr), .unset, .unset, .unset, .unset, .unset, .unset, .unset, .unset] [(.int rr), (.int qq)])) _
        refine XS.icmpYes X17.here hx rfl (pc0 := 86) (pc' := 96) rfl (hb hby at_86) rfl (teq hc86).1 (by decide) (by decide) ?_
        show Steps p.tables e below (T17.setTop (mkF m 96 #[.val (.int p1), .val (.long q2), .second, .val (.int p3), .val (.int p4), .val (.int p5), .val (.int p6), .val (.int nn), .val (.int xx), .val (.int yy), .val (.int zz), .val (.int pp), .val (.int qq), .val (.int rr), .unset, .unset, .unset, .unset, .unset, .unset, .unset, .unset] [])) _
        refine XS.iconst X17.here hx rfl (hb hby at_96) ?_
        show Steps p.tables e below (T17.setTop (mkF m 97 #[.val (.int p1), .val (.long q2), .second, .val (.int p3), .val (.int p4), .val (.int p5), .val (.int p6), .val (.int nn), .val (.int xx), .val (.int yy), .val (.int zz), .val (.int pp), .val (.int qq), .val (.int rr), .unset, .unset, .unset, .unset, .unset, .unset, .unset, .unset] [(.int (1 : Int32))])) _
        exact kt
      obtain ⟨fs, hr, hrun, hended, hW, hsame⟩ := X17.leave (v := some (.int (1 : Int32))) (fun h => by rw [Bd.returns] at h; cases h)
      refine ⟨_, _, pre21 _ ?_, hrun, hended, _, _, rfl, ?_, ⟨_, rfl⟩, hW, hsame.mono (by decide) (by decide)⟩
      · exact retN X17 hx (t := .boolean) Bd.returns (by simp) (hb hby at_97) hr
      · show Q0 Z p1 q2 p3 p4 p5 p6 h0 n0 _ T17.heap _
        rw [e17]
        exact ⟨rfl, N17⟩
    · skip
      by_cases hc93 : pp = rr
      · skip
        have pre22 : ∀ t, Steps p.tables e below (T17.setTop (mkF m 97 #[.val (.int p1), .val (.long q2), .second, .val (.int p3), .val (.int p4), .val (.int p5), .val (.int p6), .val (.int nn), .val (.int xx), .val (.int yy), .val (.int zz), .val (.int pp), .val (.int qq), .val (.int rr), .unset, .unset, .unset, .unset, .unset, .unset, .unset, .unset] [(.int (1 : Int32))])) t → Steps p.tables e below (s₁.setTop (entryFrame m #[(.int p1), (.long q2), (.int p3), (.int p4), (.int p5), (.int p6)] maxLocals)) t := fun t kt => by
          refine pre19 t ?_
          refine XS.iload X17.here hx rfl (hb hby at_75) rfl ?_
          show Steps p.tables e below (T17.setTop (mkF m 77 #[.val (.int p1), .val (.long q2), .second, .val (.int p3), .val (.int p4), .val (.int p5), .val (.int p6), .val (.int nn), .val (.int xx), .val (.int yy), .val (.int zz), .val (.int pp), .val (.int qq), .val (.int rr), .unset, .unset, .unset, .unset, .unset, .unset, .unset, .unset] [(.int pp)])) _
          refine XS.iload X17.here hx rfl (hb hby at_77) rfl ?_
          show Steps p.tables e below (T17.setTop (mkF m 79 #[.val (.int p1), .val (.long q2), .second, .val (.int p3), .val (.int p4), .val (.int p5), .val (.int p6), .val (.int nn), .val (.int xx), .val (.int yy), .val (.int zz), .val (.int pp), .val (.int qq), .val (.int rr), .unset, .unset, .unset, .unset, .unset, .unset, .unset, .unset] [(.int qq), (.int pp)])) _
          refine XS.icmpNo X17.here hx rfl (hb hby at_79) rfl (feq hc79).1 ?_
          show Steps p.tables e below (T17.setTop (mkF m 82 #[.val (.int p1), .val (.long q2), .second, .val (.int p3), .val (.int p4), .val (.int p5), .val (.int p6), .val (.int nn), .val (.int xx), .val (.int yy), .val (.int zz), .val (.int pp), .val (.int qq), .val (.int rr), .unset, .unset, .unset, .unset, .unset, .unset, .unset, .unset] [])) _
          refine XS.iload X17.here hx rfl (hb hby at_82) rfl ?_
          show Steps p.tables e below (T17.setTop (mkF m 84 #[.val (.int p1), .val (.long q2), .second, .val (.int p3), .val (.int p4), .val (.int p5), .val (.int p6), .val (.int nn), .val (.int xx), .val (.int yy), .val (.int zz), .val (.int pp), .val (.int qq), .val (.int rr), .unset, .unset, .unset, .unset, .unset, .unset, .unset, .unset] [(.int qq)])) _
          refine XS.iload X17.here hx rfl (hb hby at_84) rfl ?_
          show Steps p.tables e below (T17.setTop (mkF m 86 #[.val (.int p1), .val (.long q2), .second, .val (.int p3), .val (.int p4), .val (.int p5), .val (.int p6), .val (.int nn), .val (.int xx), .val (.int yy), .val (.int zz), .val (.int pp), .val (.int qq), .val (.int rr), .unset, .unset, .unset, .unset, .unset, .unset, .unset, .unset] [(.int rr), (.int qq)])) _
          refine XS.icmpNo X17.here hx rfl (hb hby at_86) rfl (feq hc86).1 ?_
          show Steps p.tables e below (T17.setTop (mkF m 89 #[.val (.int p1), .val (.long q2), .second, .val (.int p3), .val (.int p4), .val (.int p5), .val (.int p6), .val (.int nn), .val (.int xx), .val (.int yy), .val (.int zz), .val (.int pp), .val (.int qq), .val (.int rr), .unset, .unset, .unset, .unset, .unset, .unset, .unset, .unset] [])) _
          refine XS.iload X17.here hx rfl (hb hby at_89) rfl ?_
          show Steps p.tables e below (T17.setTop (mkF m 91 #[.val (.int p1), .val (.long q2), .second, .val (.int p3), .val (.int p4), .val (.int p5), .val (.int p6), .val (.int nn), .val (.int xx), .val (.int yy), .val (.int zz), .val (.int pp), .val (.int qq), .val (.int rr), .unset, .unset, .unset, .unset, .unset, .unset, .unset, .unset] [(.int pp)])) _
          refine XS.iload X17.here hx rfl (hb hby at_91) rfl ?_
          show Steps p.tables e below (T17.setTop (mkF m 93 #[.val (.int p1), .val (.long q2), .second, .val (.int p3), .val (.int p4), .val (.int p5), .val (.int p6), .val (.int nn), .val (.int xx), .val (.int yy), .val (.int zz), .val (.int pp), .val (.int qq), .val (.int rr), .unset, .unset, .unset, .unset, .unset, .unset, .unset, .unset] [(.int rr), (.int pp)])) _
          refine XS.icmpNo X17.here hx rfl (hb hby at_93) rfl (teq hc93).2 ?_
          show Steps p.tables e below (T17.setTop (mkF m 96 #[.val (.int p1), .val (.long q2), .second, .val (.int p3), .val (.int p4), .val (.int p5), .val (.int p6), .val (.int nn), .val (.int xx), .val (.int yy), .val (.int zz), .val (.int pp), .val (.int qq), .val (.int rr), .unset, .unset, .unset, .unset, .unset, .unset, .unset, .unset] [])) _
          refine XS.iconst X17.here hx rfl (hb hby at_96) ?_
          show Steps p.tables e below (T17.setTop (mkF m 97 #[.val (.int p1), .val (.long q2), .second, .val (.int p3), .val (.int p4), .val (.int p5), .val (.int p6), .val (.int nn), .val (.int xx), .val (.int yy), .val (.int zz), .val (.int pp), .val (.int qq), .val (.int rr), .unset, .unset, .unset, .unset, .unset, .unset, .unset, .unset] [(.int (1 : Int32))])) _
          exact kt
        obtain ⟨fs, hr, hrun, hended, hW, hsame⟩ := X17.leave (v := some (.int (1 : Int32))) (fun h => by rw [Bd.returns] at h; cases h)
        refine ⟨_, _, pre22 _ ?_, hrun, hended, _, _, rfl, ?_, ⟨_, rfl⟩, hW, hsame.mono (by decide) (by decide)⟩
        · exact retN X17 hx (t := .boolean) Bd.returns (by simp) (hb hby at_97) hr
        · show Q0 Z p1 q2 p3 p4 p5 p6 h0 n0 _ T17.heap _
          rw [e17]
          exact ⟨rfl, N17⟩
      · skip
        have pre23 : ∀ t, Steps p.tables e below (T17.setTop (mkF m 98 #[.val (.int p1), .val (.long q2), .second, .val (.int p3), .val (.int p4), .val (.int p5), .val (.int p6), .val (.int nn), .val (.int xx), .val (.int yy), .val (.int zz), .val (.int pp), .val (.int qq), .val (.int rr), .unset, .unset, .unset, .unset, .unset, .unset, .unset, .unset] [])) t → Steps p.tables e below (s₁.setTop (entryFrame m #[(.int p1), (.long q2), (.int p3), (.int p4), (.int p5), (.int p6)] maxLocals)) t := fun t kt => by
          refine pre19 t ?_
          refine XS.iload X17.here hx rfl (hb hby at_75) rfl ?_
          show Steps p.tables e below (T17.setTop (mkF m 77 #[.val (.int p1), .val (.long q2), .second, .val (.int p3), .val (.int p4), .val (.int p5), .val (.int p6), .val (.int nn), .val (.int xx), .val (.int yy), .val (.int zz), .val (.int pp), .val (.int qq), .val (.int rr), .unset, .unset, .unset, .unset, .unset, .unset, .unset, .unset] [(.int pp)])) _
          refine XS.iload X17.here hx rfl (hb hby at_77) rfl ?_
          show Steps p.tables e below (T17.setTop (mkF m 79 #[.val (.int p1), .val (.long q2), .second, .val (.int p3), .val (.int p4), .val (.int p5), .val (.int p6), .val (.int nn), .val (.int xx), .val (.int yy), .val (.int zz), .val (.int pp), .val (.int qq), .val (.int rr), .unset, .unset, .unset, .unset, .unset, .unset, .unset, .unset] [(.int qq), (.int pp)])) _
          refine XS.icmpNo X17.here hx rfl (hb hby at_79) rfl (feq hc79).1 ?_
          show Steps p.tables e below (T17.setTop (mkF m 82 #[.val (.int p1), .val (.long q2), .second, .val (.int p3), .val (.int p4), .val (.int p5), .val (.int p6), .val (.int nn), .val (.int xx), .val (.int yy), .val (.int zz), .val (.int pp), .val (.int qq), .val (.int rr), .unset, .unset, .unset, .unset, .unset, .unset, .unset, .unset] [])) _
          refine XS.iload X17.here hx rfl (hb hby at_82) rfl ?_
          show Steps p.tables e below (T17.setTop (mkF m 84 #[.val (.int p1), .val (.long q2), .second, .val (.int p3), .val (.int p4), .val (.int p5), .val (.int p6), .val (.int nn), .val (.int xx), .val (.int yy), .val (.int zz), .val (.int pp), .val (.int qq), .val (.int rr), .unset, .unset, .unset, .unset, .unset, .unset, .unset, .unset] [(.int qq)])) _
          refine XS.iload X17.here hx rfl (hb hby at_84) rfl ?_
          show Steps p.tables e below (T17.setTop (mkF m 86 #[.val (.int p1), .val (.long q2), .second, .val (.int p3), .val (.int p4), .val (.int p5), .val (.int p6), .val (.int nn), .val (.int xx), .val (.int yy), .val (.int zz), .val (.int pp), .val (.int qq), .val (.int rr), .unset, .unset, .unset, .unset, .unset, .unset, .unset, .unset] [(.int rr), (.int qq)])) _
          refine XS.icmpNo X17.here hx rfl (hb hby at_86) rfl (feq hc86).1 ?_
          show Steps p.tables e below (T17.setTop (mkF m 89 #[.val (.int p1), .val (.long q2), .second, .val (.int p3), .val (.int p4), .val (.int p5), .val (.int p6), .val (.int nn), .val (.int xx), .val (.int yy), .val (.int zz), .val (.int pp), .val (.int qq), .val (.int rr), .unset, .unset, .unset, .unset, .unset, .unset, .unset, .unset] [])) _
          refine XS.iload X17.here hx rfl (hb hby at_89) rfl ?_
          show Steps p.tables e below (T17.setTop (mkF m 91 #[.val (.int p1), .val (.long q2), .second, .val (.int p3), .val (.int p4), .val (.int p5), .val (.int p6), .val (.int nn), .val (.int xx), .val (.int yy), .val (.int zz), .val (.int pp), .val (.int qq), .val (.int rr), .unset, .unset, .unset, .unset, .unset, .unset, .unset, .unset] [(.int pp)])) _
          refine XS.iload X17.here hx rfl (hb hby at_91) rfl ?_
          show Steps p.tables e below (T17.setTop (mkF m 93 #[.val (.int p1), .val (.long q2), .second, .val (.int p3), .val (.int p4), .val (.int p5), .val (.int p6), .val (.int nn), .val (.int xx), .val (.int yy), .val (.int zz), .val (.int pp), .val (.int qq), .val (.int rr), .unset, .unset, .unset, .unset, .unset, .unset, .unset, .unset] [(.int rr), (.int pp)])) _
          refine XS.icmpYes X17.here hx rfl (pc0 := 93) (pc' := 98) rfl (hb hby at_93) rfl (feq hc93).2 (by decide) (by decide) ?_
          show Steps p.tables e below (T17.setTop (mkF m 98 #[.val (.int p1), .val (.long q2), .second, .val (.int p3), .val (.int p4), .val (.int p5), .val (.int p6), .val (.int nn), .val (.int xx), .val (.int yy), .val (.int zz), .val (.int pp), .val (.int qq), .val (.int rr), .unset, .unset, .unset, .unset, .unset, .unset, .unset, .unset] [])) _
          exact kt
        obtain ⟨m0, m1, m2, m3, m4, m5, m6, m7⟩ := own_main pp xx qq yy rr zz hpp_ hxx_.1 hqq_ hyy_.1 hrr_ hzz_.1 hc79 hc86 hc93
        obtain ⟨T24, h24, X24, e24, E24, A24, D24, -, st24⟩ := newO X17 hx hZ hown (hw _ (mgE 5 rfl)) (hw _ (mgE 6 rfl)) (hw _ (mgE 7 rfl)) e17 (g := (mkF m 98 #[.val (.int p1), .val (.long q2), .second, .val (.int p3), .val (.int p4), .val (.int p5), .val (.int p6), .val (.int nn), .val (.int xx), .val (.int yy), .val (.int zz), .val (.int pp), .val (.int qq), .val (.int rr), .unset, .unset, .unset, .unset, .unset, .unset, .unset, .unset] [])) rfl (hb hby at_98) (by decide) (by decide)
        obtain ⟨b24, g24⟩ : ∃ z, z = h0.size := ⟨_, rfl⟩
        rw [← g24] at A24 D24 st24
        have g_b24 : n0 ≤ b24 := Nat.le_trans Z0 (Nat.le_of_eq g24.symm)
        have Z24 : n0 ≤ h24.size := Nat.le_trans Z0 E24.1
        have F_hits_b24 : Fld Z h24 b24 "com/example/hit_span_ranker/hitspanranker/chain/HitChain$Builder" "hits" "[J" .null := D24 (Or.inl (hw _ (mgE 16 rfl))) (ty := (.array .long)) (by decide)
        have F_words_b24 : Fld Z h24 b24 "com/example/hit_span_ranker/hitspanranker/chain/HitChain$Builder" "words" "I" (.int (0 : Int32)) := D24 (Or.inr (hw _ (mgE 18 rfl))) (ty := .int) (by decide)
        have F_size_b24 : Fld Z h24 b24 "com/example/hit_span_ranker/hitspanranker/chain/HitChain$Builder" "size" "I" (.int (0 : Int32)) := D24 (Or.inl (hw _ (mgE 25 rfl))) (ty := .int) (by decide)
        have pre25 : ∀ t, Steps p.tables e below (T24.setTop (mkF m 101 #[.val (.int p1), .val (.long q2), .second, .val (.int p3), .val (.int p4), .val (.int p5), .val (.int p6), .val (.int nn), .val (.int xx), .val (.int yy), .val (.int zz), .val (.int pp), .val (.int qq), .val (.int rr), .unset, .unset, .unset, .unset, .unset, .unset, .unset, .unset] [(.ref b24)])) t → Steps p.tables e below (s₁.setTop (entryFrame m #[(.int p1), (.long q2), (.int p3), (.int p4), (.int p5), (.int p6)] maxLocals)) t := fun t kt => pre23 t (st24 t kt)
        have pre26 : ∀ t, Steps p.tables e below (T24.setTop (mkF m 104 #[.val (.int p1), .val (.long q2), .second, .val (.int p3), .val (.int p4), .val (.int p5), .val (.int p6), .val (.int nn), .val (.int xx), .val (.int yy), .val (.int zz), .val (.int pp), .val (.int qq), .val (.int rr), .unset, .unset, .unset, .unset, .unset, .unset, .unset, .unset] [(.int nn), (.ref b24), (.ref b24)])) t → Steps p.tables e below (s₁.setTop (entryFrame m #[(.int p1), (.long q2), (.int p3), (.int p4), (.int p5), (.int p6)] maxLocals)) t := fun t kt => by
          refine pre25 t ?_
          refine XS.dup X24.here hx rfl (hb hby at_101) rfl rfl ?_
          show Steps p.tables e below (T24.setTop (mkF m 102 #[.val (.int p1), .val (.long q2), .second, .val (.int p3), .val (.int p4), .val (.int p5), .val (.int p6), .val (.int nn), .val (.int xx), .val (.int yy), .val (.int zz), .val (.int pp), .val (.int qq), .val (.int rr), .unset, .unset, .unset, .unset, .unset, .unset, .unset, .unset] [(.ref b24), (.ref b24)])) _
          refine XS.iload X24.here hx rfl (hb hby at_102) rfl ?_
          show Steps p.tables e below (T24.setTop (mkF m 104 #[.val (.int p1), .val (.long q2), .second, .val (.int p3), .val (.int p4), .val (.int p5), .val (.int p6), .val (.int nn), .val (.int xx), .val (.int yy), .val (.int zz), .val (.int pp), .val (.int qq), .val (.int rr), .unset, .unset, .unset, .unset, .unset, .unset, .unset, .unset] [(.int nn), (.ref b24), (.ref b24)])) _
          exact kt
        obtain ⟨_, _, ⟨T27, L27, k27, n27⟩, -, X27, ⟨Lc27, hQ27, l27, y27, z27⟩, st27⟩ := X24.specialBack hx (y := (⟨"com/example/hit_span_ranker/hitspanranker/chain/HitChain$Builder", "<init>", "(I)V"⟩ : MethodName)) rfl hown (mvT hZ (hw _ (mgE 8 rfl))) (mvT hZ (hw _ (mgE 9 rfl))) (mvT hZ (hw _ (mgE 10 rfl))) (by decide) (backOf (W := 1) (rm2 l Z a0 hw [] b24 nn (.null) (.int (0 : Int32)) h24 n0 Z24 F_size_b24 A24 F_hits_b24 g_b24 F_words_b24 (own_lt0 nn (by omega))) hZ (hw _ (mgE 10 rfl)) (hw _ (mgE 7 rfl)) (by decide) (by decide)) (g := (mkF m 104 #[.val (.int p1), .val (.long q2), .second, .val (.int p3), .val (.int p4), .val (.int p5), .val (.int p6), .val (.int nn), .val (.int xx), .val (.int yy), .val (.int zz), .val (.int pp), .val (.int qq), .val (.int rr), .unset, .unset, .unset, .unset, .unset, .unset, .unset, .unset] [(.int nn), (.ref b24), (.ref b24)])) rfl (by rw [hml]; rfl) (Steps.refl _) (a := b24) (argsL := [(.int nn)]) (rest := [(.ref b24)]) (lenOf pd__I_V rfl) rfl (by show 2 * 0 + _ ≤ _; exact Nat.le_of_eq rfl) (hb hby at_104) (fun _ _ => ⟨rfl, e24, (by decide : 1 + 1 ≤ _), (by decide : 3 + 16 ≤ _)⟩)
        dsimp only [Pt.U, Pt.locs, Pt.cells, Pt.slots] at X27 l27 y27 z27 st27 hQ27
        subst l27 y27 z27
        obtain ⟨ob27_1, rfl, N27q, K27, ozob27_1, Q27_0, Q27_1, Q27_2, Q27_3, Q27_4⟩ := hQ27
        have ne_b24_ob27_1 : b24 ≠ ob27_1 := Nat.ne_of_lt (Nat.lt_of_lt_of_le A24.lt ozob27_1)
        have g_ob27_1 : n0 ≤ ob27_1 := Nat.le_trans Z24 ozob27_1
        have Z27 : n0 ≤ T27.heap.size := Nat.le_trans Z24 K27.1
        have pre32 : ∀ t, Steps p.tables e below (T27.setTop (mkF m 107 #[.val (.int p1), .val (.long q2), .second, .val (.int p3), .val (.int p4), .val (.int p5), .val (.int p6), .val (.int nn), .val (.int xx), .val (.int yy), .val (.int zz), .val (.int pp), .val (.int qq), .val (.int rr), .unset, .unset, .unset, .unset, .unset, .unset, .unset, .unset] [(.ref b24)])) t → Steps p.tables e below (s₁.setTop (entryFrame m #[(.int p1), (.long q2), (.int p3), (.int p4), (.int p5), (.int p6)] maxLocals)) t := fun t kt => pre26 t (st27.trans kt)
        have N27 := Fr.app N17 N27q
        have pre33 : ∀ t, Steps p.tables e below (T27.setTop (mkF m 115 #[.val (.int p1), .val (.long q2), .second, .val (.int p3), .val (.int p4), .val (.int p5), .val (.int p6), .val (.int nn), .val (.int xx), .val (.int yy), .val (.int zz), .val (.int pp), .val (.int qq), .val (.int rr), .val (.ref b24), .unset, .unset, .unset, .unset, .unset, .unset, .unset] [(.int pp), (.int xx), (.ref b24)])) t → Steps p.tables e below (s₁.setTop (entryFrame m #[(.int p1), (.long q2), (.int p3), (.int p4), (.int p5), (.int p6)] maxLocals)) t := fun t kt => by
          refine pre32 t ?_
          refine XS.astore X27.here hx rfl (hb hby at_107) rfl rfl (l' := #[.val (.int p1), .val (.long q2), .second, .val (.int p3), .val (.int p4), .val (.int p5), .val (.int p6), .val (.int nn), .val (.int xx), .val (.int yy), .val (.int zz), .val (.int pp), .val (.int qq), .val (.int rr), .val (.ref b24), .unset, .unset, .unset, .unset, .unset, .unset, .unset]) rfl ?_
          show Steps p.tables e below (T27.setTop (mkF m 109 #[.val (.int p1), .val (.long q2), .second, .val (.int p3), .val (.int p4), .val (.int p5), .val (.int p6), .val (.int nn), .val (.int xx), .val (.int yy), .val (.int zz), .val (.int pp), .val (.int qq), .val (.int rr), .val (.ref b24), .unset, .unset, .unset, .unset, .unset, .unset, .unset] [])) _
          refine XS.aload X27.here hx rfl (hb hby at_109) rfl rfl ?_
          show Steps p.tables e below (T27.setTop (mkF m 111 #[.val (.int p1), .val (.long q2), .second, .val (.int p3), .val (.int p4), .val (.int p5), .val (.int p6), .val (.int nn), .val (.int xx), .val (.int yy), .val (.int zz), .val (.int pp), .val (.int qq), .val (.int rr), .val (.ref b24), .unset, .unset, .unset, .unset, .unset, .unset, .unset] [(.ref b24)])) _
          refine XS.iload X27.here hx rfl (hb hby at_111) rfl ?_
          show Steps p.tables e below (T27.setTop (mkF m 113 #[.val (.int p1), .val (.long q2), .second, .val (.int p3), .val (.int p4), .val (.int p5), .val (.int p6), .val (.int nn), .val (.int xx), .val (.int yy), .val (.int zz), .val (.int pp), .val (.int qq), .val (.int rr), .val (.ref b24), .unset, .unset, .unset, .unset, .unset, .unset, .unset] [(.int xx), (.ref b24)])) _
          refine XS.iload X27.here hx rfl (hb hby at_113) rfl ?_
          show Steps p.tables e below (T27.setTop (mkF m 115 #[.val (.int p1), .val (.long q2), .second, .val (.int p3), .val (.int p4), .val (.int p5), .val (.int p6), .val (.int nn), .val (.int xx), .val (.int yy), .val (.int zz), .val (.int pp), .val (.int qq), .val (.int rr), .val (.ref b24), .unset, .unset, .unset, .unset, .unset, .unset, .unset] [(.int pp), (.int xx), (.ref b24)])) _
          exact kt
        obtain ⟨cq34, kq34, q34a, q34b, q34c⟩ := isOf hZ rfl Q27_0
        obtain ⟨_, _, ⟨T34, L34, k34, n34⟩, -, X34, ⟨Lc34, hQ34, l34, y34, z34⟩, st34⟩ := X27.virtualBack hx (y := (⟨"com/example/hit_span_ranker/hitspanranker/chain/HitChain$Builder", "add", "(II)V"⟩ : MethodName)) (z := (⟨"com/example/hit_span_ranker/hitspanranker/chain/HitChain$Builder", "add", "(II)V"⟩ : MethodName)) hown (mvT hZ (hw _ (mgE 19 rfl))) (mvT hZ (hw _ (mgE 20 rfl))) (notFace_of_selects (args := #[]) (mvT hZ (hw _ (mgE 22 rfl)))) (mvT hZ (hw _ (mgE 22 rfl))) (mvT hZ (hw _ (mgE 21 rfl))) (by decide) (backOf (W := 0) (rm4s0 l Z a0 hw [] b24 xx pp ob27_1 (fun _ => (0 : Int64)) nn T27.heap n0 Z27 Q27_2 Q27_1 Q27_4 Q27_3 Q27_0 g_b24 (Ne.symm ne_b24_ob27_1) g_ob27_1 (own_lt0 xx hxx_.1) (Int32.lt_iff_toInt_lt.mpr hxx_.2)) hZ (hw _ (mgE 23 rfl)) (hw _ (mgE 7 rfl)) (by decide) (by decide)) q34a q34c (g := (mkF m 115 #[.val (.int p1), .val (.long q2), .second, .val (.int p3), .val (.int p4), .val (.int p5), .val (.int p6), .val (.int nn), .val (.int xx), .val (.int yy), .val (.int zz), .val (.int pp), .val (.int qq), .val (.int rr), .val (.ref b24), .unset, .unset, .unset, .unset, .unset, .unset, .unset] [(.int pp), (.int xx), (.ref b24)])) rfl (by rw [hml]; rfl) (Steps.refl _) (argsL := [(.int xx), (.int pp)]) (rest := []) (lenOf pd__II_V rfl) rfl (by show 2 * 0 + _ ≤ _; exact Nat.le_of_eq rfl) (hb hby at_115) (fun _ _ => ⟨rfl, rfl, (by decide : 2 + 0 ≤ _), (by decide : 19 + 0 ≤ _)⟩)
        dsimp only [Pt.U, Pt.locs, Pt.cells, Pt.slots] at X34 l34 y34 z34 st34 hQ34
        subst l34 y34 z34
        obtain ⟨rfl, N34q, K34, Q34_0, Q34_1, Q34_2, Q34_3, Q34_4⟩ := hQ34
        have Z34 : n0 ≤ T34.heap.size := Nat.le_trans Z27 K34.1
        have pre40 : ∀ t, Steps p.tables e below (T34.setTop (mkF m 118 #[.val (.int p1), .val (.long q2), .second, .val (.int p3), .val (.int p4), .val (.int p5), .val (.int p6), .val (.int nn), .val (.int xx), .val (.int yy), .val (.int zz), .val (.int pp), .val (.int qq), .val (.int rr), .val (.ref b24), .unset, .unset, .unset, .unset, .unset, .unset, .unset] [])) t → Steps p.tables e below (s₁.setTop (entryFrame m #[(.int p1), (.long q2), (.int p3), (.int p4), (.int p5), (.int p6)] maxLocals)) t := fun t kt => pre33 t (st34.trans kt)
        have N34 := Fr.app N27 N34q
        have pre41 : ∀ t, Steps p.tables e below (T34.setTop (mkF m 124 #[.val (.int p1), .val (.long q2), .second, .val (.int p3), .val (.int p4), .val (.int p5), .val (.int p6), .val (.int nn), .val (.int xx), .val (.int yy), .val (.int zz), .val (.int pp), .val (.int qq), .val (.int rr), .val (.ref b24), .unset, .unset, .unset, .unset, .unset, .unset, .unset] [(.int qq), (.int yy), (.ref b24)])) t → Steps p.tables e below (s₁.setTop (entryFrame m #[(.int p1), (.long q2), (.int p3), (.int p4), (.int p5), (.int p6)] maxLocals)) t := fun t kt => by
          refine pre40 t ?_
          refine XS.aload X34.here hx rfl (hb hby at_118) rfl rfl ?_
          show Steps p.tables e below (T34.setTop (mkF m 120 #[.val (.int p1), .val (.long q2), .second, .val (.int p3), .val (.int p4), .val (.int p5), .val (.int p6), .val (.int nn), .val (.int xx), .val (.int yy), .val (.int zz), .val (.int pp), .val (.int qq), .val (.int rr), .val (.ref b24), .unset, .unset, .unset, .unset, .unset, .unset, .unset] [(.ref b24)])) _
          refine XS.iload X34.here hx rfl (hb hby at_120) rfl ?_
          show Steps p.tables e below (T34.setTop (mkF m 122 #[.val (.int p1), .val (.long q2), .second, .val (.int p3), .val (.int p4), .val (.int p5), .val (.int p6), .val (.int nn), .val (.int xx), .val (.int yy), .val (.int zz), .val (.int pp), .val (.int qq), .val (.int rr), .val (.ref b24), .unset, .unset, .unset, .unset, .unset, .unset, .unset] [(.int yy), (.ref b24)])) _
          refine XS.iload X34.here hx rfl (hb hby at_122) rfl ?_
          show Steps p.tables e below (T34.setTop (mkF m 124 #[.val (.int p1), .val (.long q2), .second, .val (.int p3), .val (.int p4), .val (.int p5), .val (.int p6), .val (.int nn), .val (.int xx), .val (.int yy), .val (.int zz), .val (.int pp), .val (.int qq), .val (.int rr), .val (.ref b24), .unset, .unset, .unset, .unset, .unset, .unset, .unset] [(.int qq), (.int yy), (.ref b24)])) _
          exact kt
        obtain ⟨cq42, kq42, q42a, q42b, q42c⟩ := isOf hZ rfl Q34_0
        obtain ⟨_, _, ⟨T42, L42, k42, n42⟩, -, X42, ⟨Lc42, hQ42, l42, y42, z42⟩, st42⟩ := X34.virtualBack hx (y := (⟨"com/example/hit_span_ranker/hitspanranker/chain/HitChain$Builder", "add", "(II)V"⟩ : MethodName)) (z := (⟨"com/example/hit_span_ranker/hitspanranker/chain/HitChain$Builder", "add", "(II)V"⟩ : MethodName)) hown (mvT hZ (hw _ (mgE 19 rfl))) (mvT hZ (hw _ (mgE 20 rfl))) (notFace_of_selects (args := #[]) (mvT hZ (hw _ (mgE 22 rfl)))) (mvT hZ (hw _ (mgE 22 rfl))) (mvT hZ (hw _ (mgE 21 rfl))) (by decide) (backOf (W := 0) (rm4s1 l Z a0 hw [] b24 yy qq ob27_1 (own_upd (fun _ => (0 : Int64)) ((0 : Int32)).toNatClampNeg (((pp.toInt64) <<< ((32 : Int32) &&& 0x3f).toInt64) ||| (xx.toInt64))) nn T34.heap n0 Z34 Q34_2 Q34_1 Q34_4 Q34_3 Q34_0 g_b24 (Ne.symm ne_b24_ob27_1) g_ob27_1 (own_lt0 yy hyy_.1) (Int32.lt_iff_toInt_lt.mpr hyy_.2)) hZ (hw _ (mgE 23 rfl)) (hw _ (mgE 7 rfl)) (by decide) (by decide)) q42a q42c (g := (mkF m 124 #[.val (.int p1), .val (.long q2), .second, .val (.int p3), .val (.int p4), .val (.int p5), .val (.int p6), .val (.int nn), .val (.int xx), .val (.int yy), .val (.int zz), .val (.int pp), .val (.int qq), .val (.int rr), .val (.ref b24), .unset, .unset, .unset, .unset, .unset, .unset, .unset] [(.int qq), (.int yy), (.ref b24)])) rfl (by rw [hml]; rfl) (Steps.refl _) (argsL := [(.int yy), (.int qq)]) (rest := []) (lenOf pd__II_V rfl) rfl (by show 2 * 0 + _ ≤ _; exact Nat.le_of_eq rfl) (hb hby at_124) (fun _ _ => ⟨rfl, rfl, (by decide : 2 + 0 ≤ _), (by decide : 19 + 0 ≤ _)⟩)
        dsimp only [Pt.U, Pt.locs, Pt.cells, Pt.slots] at X42 l42 y42 z42 st42 hQ42
        subst l42 y42 z42
        obtain ⟨rfl, N42q, K42, Q42_0, Q42_1, Q42_2, Q42_3, Q42_4⟩ := hQ42
        have Z42 : n0 ≤ T42.heap.size := Nat.le_trans Z34 K42.1
        have pre48 : ∀ t, Steps p.tables e below (T42.setTop (mkF m 127 #[.val (.int p1), .val (.long q2), .second, .val (.int p3), .val (.int p4), .val (.int p5), .val (.int p6), .val (.int nn), .val (.int xx), .val (.int yy), .val (.int zz), .val (.int pp), .val (.int qq), .val (.int rr), .val (.ref b24), .unset, .unset, .unset, .unset, .unset, .unset, .unset] [])) t → Steps p.tables e below (s₁.setTop (entryFrame m #[(.int p1), (.long q2), (.int p3), (.int p4), (.int p5), (.int p6)] maxLocals)) t := fun t kt => pre41 t (st42.trans kt)
        have N42 := Fr.app N34 N42q
        have pre49 : ∀ t, Steps p.tables e below (T42.setTop (mkF m 133 #[.val (.int p1), .val (.long q2), .second, .val (.int p3), .val (.int p4), .val (.int p5), .val (.int p6), .val (.int nn), .val (.int xx), .val (.int yy), .val (.int zz), .val (.int pp), .val (.int qq), .val (.int rr), .val (.ref b24), .unset, .unset, .unset, .unset, .unset, .unset, .unset] [(.int rr), (.int zz), (.ref b24)])) t → Steps p.tables e below (s₁.setTop (entryFrame m #[(.int p1), (.long q2), (.int p3), (.int p4), (.int p5), (.int p6)] maxLocals)) t := fun t kt => by
          refine pre48 t ?_
          refine XS.aload X42.here hx rfl (hb hby at_127) rfl rfl ?_
          show Steps p.tables e below (T42.setTop (mkF m 129 #[.val (.int p1), .val (.long q2), .second, .val (.int p3), .val (.int p4), .val (.int p5), .val (.int p6), .val (.int nn), .val (.int xx), .val (.int yy), .val (.int zz), .val (.int pp), .val (.int qq), .val (.int rr), .val (.ref b24), .unset, .unset, .unset, .unset, .unset, .unset, .unset] [(.ref b24)])) _
          refine XS.iload X42.here hx rfl (hb hby at_129) rfl ?_
          show Steps p.tables e below (T42.setTop (mkF m 131 #[.val (.int p1), .val (.long q2), .second, .val (.int p3), .val (.int p4), .val (.int p5), .val (.int p6), .val (.int nn), .val (.int xx), .val (.int yy), .val (.int zz), .val (.int pp), .val (.int qq), .val (.int rr), .val (.ref b24), .unset, .unset, .unset, .unset, .unset, .unset, .unset] [(.int zz), (.ref b24)])) _
          refine XS.iload X42.here hx rfl (hb hby at_131) rfl ?_
          show Steps p.tables e below (T42.setTop (mkF m 133 #[.val (.int p1), .val (.long q2), .second, .val (.int p3), .val (.int p4), .val (.int p5), .val (.int p6), .val (.int nn), .val (.int xx), .val (.int yy), .val (.int zz), .val (.int pp), .val (.int qq), .val (.int rr), .val (.ref b24), .unset, .unset, .unset, .unset, .unset, .unset, .unset] [(.int rr), (.int zz), (.ref b24)])) _
          exact kt
        obtain ⟨cq50, kq50, q50a, q50b, q50c⟩ := isOf hZ rfl Q42_0
        obtain ⟨_, _, ⟨T50, L50, k50, n50⟩, -, X50, ⟨Lc50, hQ50, l50, y50, z50⟩, st50⟩ := X42.virtualBack hx (y := (⟨"com/example/hit_span_ranker/hitspanranker/chain/HitChain$Builder", "add", "(II)V"⟩ : MethodName)) (z := (⟨"com/example/hit_span_ranker/hitspanranker/chain/HitChain$Builder", "add", "(II)V"⟩ : MethodName)) hown (mvT hZ (hw _ (mgE 19 rfl))) (mvT hZ (hw _ (mgE 20 rfl))) (notFace_of_selects (args := #[]) (mvT hZ (hw _ (mgE 22 rfl)))) (mvT hZ (hw _ (mgE 22 rfl))) (mvT hZ (hw _ (mgE 21 rfl))) (by decide) (backOf (W := 0) (rm4s2 l Z a0 hw [] b24 zz rr ob27_1 (own_upd (own_upd (fun _ => (0 : Int64)) ((0 : Int32)).toNatClampNeg (((pp.toInt64) <<< ((32 : Int32) &&& 0x3f).toInt64) ||| (xx.toInt64))) ((1 : Int32)).toNatClampNeg (((qq.toInt64) <<< ((32 : Int32) &&& 0x3f).toInt64) ||| (yy.toInt64))) nn T42.heap n0 Z42 Q42_2 Q42_1 Q42_4 Q42_3 Q42_0 g_b24 (Ne.symm ne_b24_ob27_1) g_ob27_1 (own_lt0 zz hzz_.1) (Int32.lt_iff_toInt_lt.mpr hzz_.2)) hZ (hw _ (mgE 23 rfl)) (hw _ (mgE 7 rfl)) (by decide) (by decide)) q50a q50c (g := (mkF m 133 #[.val (.int p1), .val (.long q2), .second, .val (.int p3), .val (.int p4), .val (.int p5), .val (.int p6), .val (.int nn), .val (.int xx), .val (.int yy), .val (.int zz), .val (.int pp), .val (.int qq), .val (.int rr), .val (.ref b24), .unset, .unset, .unset, .unset, .unset, .unset, .unset] [(.int rr), (.int zz), (.ref b24)])) rfl (by rw [hml]; rfl) (Steps.refl _) (argsL := [(.int zz), (.int rr)]) (rest := []) (lenOf pd__II_V rfl) rfl (by show 2 * 0 + _ ≤ _; exact Nat.le_of_eq rfl) (hb hby at_133) (fun _ _ => ⟨rfl, rfl, (by decide : 2 + 0 ≤ _), (by decide : 19 + 0 ≤ _)⟩)
        dsimp only [Pt.U, Pt.locs, Pt.cells, Pt.slots] at X50 l50 y50 z50 st50 hQ50
        subst l50 y50 z50
        obtain ⟨rfl, N50q, K50, Q50_0, Q50_1, Q50_2, Q50_3, Q50_4⟩ := hQ50
        have Z50 : n0 ≤ T50.heap.size := Nat.le_trans Z42 K50.1
        have pre56 : ∀ t, Steps p.tables e below (T50.setTop (mkF m 136 #[.val (.int p1), .val (.long q2), .second, .val (.int p3), .val (.int p4), .val (.int p5), .val (.int p6), .val (.int nn), .val (.int xx), .val (.int yy), .val (.int zz), .val (.int pp), .val (.int qq), .val (.int rr), .val (.ref b24), .unset, .unset, .unset, .unset, .unset, .unset, .unset] [])) t → Steps p.tables e below (s₁.setTop (entryFrame m #[(.int p1), (.long q2), (.int p3), (.int p4), (.int p5), (.int p6)] maxLocals)) t := fun t kt => pre49 t (st50.trans kt)
        have N50 := Fr.app N42 N50q
        have pre57 : ∀ t, Steps p.tables e below (T50.setTop (mkF m 138 #[.val (.int p1), .val (.long q2), .second, .val (.int p3), .val (.int p4), .val (.int p5), .val (.int p6), .val (.int nn), .val (.int xx), .val (.int yy), .val (.int zz), .val (.int pp), .val (.int qq), .val (.int rr), .val (.ref b24), .unset, .unset, .unset, .unset, .unset, .unset, .unset] [(.ref b24)])) t → Steps p.tables e below (s₁.setTop (entryFrame m #[(.int p1), (.long q2), (.int p3), (.int p4), (.int p5), (.int p6)] maxLocals)) t := fun t kt => by
          refine pre56 t ?_
          refine XS.aload X50.here hx rfl (hb hby at_136) rfl rfl ?_
          show Steps p.tables e below (T50.setTop (mkF m 138 #[.val (.int p1), .val (.long q2), .second, .val (.int p3), .val (.int p4), .val (.int p5), .val (.int p6), .val (.int nn), .val (.int xx), .val (.int yy), .val (.int zz), .val (.int pp), .val (.int qq), .val (.int rr), .val (.ref b24), .unset, .unset, .unset, .unset, .unset, .unset, .unset] [(.ref b24)])) _
          exact kt
        obtain ⟨cq58, kq58, q58a, q58b, q58c⟩ := isOf hZ rfl Q50_0
        obtain ⟨_, _, ⟨T58, L58, k58, n58⟩, -, X58, ⟨Lc58, hQ58, l58, y58, z58⟩, st58⟩ := X50.virtualBack hx (y := (⟨"com/example/hit_span_ranker/hitspanranker/chain/HitChain$Builder", "build", "()Lcom/example/hit_span_ranker/hitspanranker/chain/HitChain;"⟩ : MethodName)) (z := (⟨"com/example/hit_span_ranker/hitspanranker/chain/HitChain$Builder", "build", "()Lcom/example/hit_span_ranker/hitspanranker/chain/HitChain;"⟩ : MethodName)) hown (mvT hZ (hw _ (mgE 26 rfl))) (mvT hZ (hw _ (mgE 27 rfl))) (notFace_of_selects (args := #[]) (mvT hZ (hw _ (mgE 29 rfl)))) (mvT hZ (hw _ (mgE 29 rfl))) (mvT hZ (hw _ (mgE 28 rfl))) (by decide) (backOf (W := 0) (rm5 l Z a0 hw [] b24 ob27_1 (own_upd (own_upd (own_upd (fun _ => (0 : Int64)) ((0 : Int32)).toNatClampNeg (((pp.toInt64) <<< ((32 : Int32) &&& 0x3f).toInt64) ||| (xx.toInt64))) ((1 : Int32)).toNatClampNeg (((qq.toInt64) <<< ((32 : Int32) &&& 0x3f).toInt64) ||| (yy.toInt64))) ((2 : Int32)).toNatClampNeg (((rr.toInt64) <<< ((32 : Int32) &&& 0x3f).toInt64) ||| (zz.toInt64))) nn T50.heap n0 Z50 Q50_2 Q50_1 Q50_4 Q50_0 g_b24 (Ne.symm ne_b24_ob27_1) g_ob27_1 Q50_3 (m0) (m1) (m2) (fun w => by rw [w] at m3; exact Int32.lt_irrefl m3) (fun w => by rw [w] at m4; exact Int32.lt_irrefl m4)) hZ (hw _ (mgE 30 rfl)) (hw _ (mgE 7 rfl)) (by decide) (by decide)) q58a q58c (g := (mkF m 138 #[.val (.int p1), .val (.long q2), .second, .val (.int p3), .val (.int p4), .val (.int p5), .val (.int p6), .val (.int nn), .val (.int xx), .val (.int yy), .val (.int zz), .val (.int pp), .val (.int qq), .val (.int rr), .val (.ref b24), .unset, .unset, .unset, .unset, .unset, .unset, .unset] [(.ref b24)])) rfl (by rw [hml]; rfl) (Steps.refl _) (argsL := []) (rest := []) (lenOf pd___Lcom_example_hit_span_ranker_hitspanranker_chain_HitChain_ rfl) rfl (by show 2 * 0 + _ ≤ _; exact Nat.le_of_eq rfl) (hb hby at_138) (fun _ _ => ⟨rfl, rfl, (by decide : 2 + 3 ≤ _), (by decide : 19 + 9 ≤ _)⟩)
        dsimp only [Pt.U, Pt.locs, Pt.cells, Pt.slots] at X58 l58 y58 z58 st58 hQ58
        subst l58 y58 z58
        obtain ⟨ob58_1, ob58_2, ob58_3, rfl, N58q, K58, ozob58_1, ozob58_2, ozob58_3, ne_ob58_1_ob58_2, ne_ob58_1_ob58_3, ne_ob58_2_ob58_3, Q58_0, Q58_1, Q58_2, Q58_3, Q58_4, Q58_5, Q58_6, Q58_7, Q58_8, Q58_9, Q58_10⟩ := hQ58
        have Z58 : n0 ≤ T58.heap.size := Nat.le_trans Z50 K58.1
        have pre64 : ∀ t, Steps p.tables e below (T58.setTop (mkF m 141 #[.val (.int p1), .val (.long q2), .second, .val (.int p3), .val (.int p4), .val (.int p5), .val (.int p6), .val (.int nn), .val (.int xx), .val (.int yy), .val (.int zz), .val (.int pp), .val (.int qq), .val (.int rr), .val (.ref b24), .unset, .unset, .unset, .unset, .unset, .unset, .unset] [(.ref ob58_1)])) t → Steps p.tables e below (s₁.setTop (entryFrame m #[(.int p1), (.long q2), (.int p3), (.int p4), (.int p5), (.int p6)] maxLocals)) t := fun t kt => pre57 t (st58.trans kt)
        have N58 := Fr.app N50 N58q
        have pre65 : ∀ t, Steps p.tables e below (T58.setTop (mkF m 145 #[.val (.int p1), .val (.long q2), .second, .val (.int p3), .val (.int p4), .val (.int p5), .val (.int p6), .val (.int nn), .val (.int xx), .val (.int yy), .val (.int zz), .val (.int pp), .val (.int qq), .val (.int rr), .val (.ref b24), .val (.ref ob58_1), .unset, .unset, .unset, .unset, .unset, .unset] [(.ref ob58_1)])) t → Steps p.tables e below (s₁.setTop (entryFrame m #[(.int p1), (.long q2), (.int p3), (.int p4), (.int p5), (.int p6)] maxLocals)) t := fun t kt => by
          refine pre64 t ?_
          refine XS.astore X58.here hx rfl (hb hby at_141) rfl rfl (l' := #[.val (.int p1), .val (.long q2), .second, .val (.int p3), .val (.int p4), .val (.int p5), .val (.int p6), .val (.int nn), .val (.int xx), .val (.int yy), .val (.int zz), .val (.int pp), .val (.int qq), .val (.int rr), .val (.ref b24), .val (.ref ob58_1), .unset, .unset, .unset, .unset, .unset, .unset]) rfl ?_
          show Steps p.tables e below (T58.setTop (mkF m 143 #[.val (.int p1), .val (.long q2), .second, .val (.int p3), .val (.int p4), .val (.int p5), .val (.int p6), .val (.int nn), .val (.int xx), .val (.int yy), .val (.int zz), .val (.int pp), .val (.int qq), .val (.int rr), .val (.ref b24), .val (.ref ob58_1), .unset, .unset, .unset, .unset, .unset, .unset] [])) _
          refine XS.aload X58.here hx rfl (hb hby at_143) rfl rfl ?_
          show Steps p.tables e below (T58.setTop (mkF m 145 #[.val (.int p1), .val (.long q2), .second, .val (.int p3), .val (.int p4), .val (.int p5), .val (.int p6), .val (.int nn), .val (.int xx), .val (.int yy), .val (.int zz), .val (.int pp), .val (.int qq), .val (.int rr), .val (.ref b24), .val (.ref ob58_1), .unset, .unset, .unset, .unset, .unset, .unset] [(.ref ob58_1)])) _
          exact kt
        obtain ⟨cq66, kq66, q66a, q66b, q66c⟩ := isOf hZ rfl Q58_1
        obtain ⟨_, _, ⟨T66, L66, k66, n66⟩, -, X66, ⟨Lc66, hQ66, l66, y66, z66⟩, st66⟩ := X58.virtualBack hx (y := (⟨"com/example/hit_span_ranker/hitspanranker/chain/HitChain", "size", "()I"⟩ : MethodName)) (z := (⟨"com/example/hit_span_ranker/hitspanranker/chain/HitChain", "size", "()I"⟩ : MethodName)) hown (mvT hZ (hw _ (mgE 62 rfl))) (mvT hZ (hw _ (mgE 63 rfl))) (notFace_of_selects (args := #[]) (mvT hZ (hw _ (mgE 65 rfl)))) (mvT hZ (hw _ (mgE 65 rfl))) (mvT hZ (hw _ (mgE 64 rfl))) (by decide) (backOf (W := 0) (rm12 l Z a0 hw [] ob58_1 ob58_3 (3 : Int32) (own_upd (own_upd (own_upd (fun _ => (0 : Int32)) ((0 : Int32)).toNatClampNeg (((((srt (own_upd (own_upd (own_upd (fun _ => (0 : Int64)) ((0 : Int32)).toNatClampNeg (((pp.toInt64) <<< ((32 : Int32) &&& 0x3f).toInt64) ||| (xx.toInt64))) ((1 : Int32)).toNatClampNeg (((qq.toInt64) <<< ((32 : Int32) &&& 0x3f).toInt64) ||| (yy.toInt64))) ((2 : Int32)).toNatClampNeg (((rr.toInt64) <<< ((32 : Int32) &&& 0x3f).toInt64) ||| (zz.toInt64)))) ((0 : Int32)).toNatClampNeg).toUInt64 >>> ((32 : Int32) &&& 0x3f).toInt64.toUInt64).toInt64).toInt32)) ((1 : Int32)).toNatClampNeg (((((srt (own_upd (own_upd (own_upd (fun _ => (0 : Int64)) ((0 : Int32)).toNatClampNeg (((pp.toInt64) <<< ((32 : Int32) &&& 0x3f).toInt64) ||| (xx.toInt64))) ((1 : Int32)).toNatClampNeg (((qq.toInt64) <<< ((32 : Int32) &&& 0x3f).toInt64) ||| (yy.toInt64))) ((2 : Int32)).toNatClampNeg (((rr.toInt64) <<< ((32 : Int32) &&& 0x3f).toInt64) ||| (zz.toInt64)))) ((1 : Int32)).toNatClampNeg).toUInt64 >>> ((32 : Int32) &&& 0x3f).toInt64.toUInt64).toInt64).toInt32)) ((2 : Int32)).toNatClampNeg (((((srt (own_upd (own_upd (own_upd (fun _ => (0 : Int64)) ((0 : Int32)).toNatClampNeg (((pp.toInt64) <<< ((32 : Int32) &&& 0x3f).toInt64) ||| (xx.toInt64))) ((1 : Int32)).toNatClampNeg (((qq.toInt64) <<< ((32 : Int32) &&& 0x3f).toInt64) ||| (yy.toInt64))) ((2 : Int32)).toNatClampNeg (((rr.toInt64) <<< ((32 : Int32) &&& 0x3f).toInt64) ||| (zz.toInt64)))) ((2 : Int32)).toNatClampNeg).toUInt64 >>> ((32 : Int32) &&& 0x3f).toInt64.toUInt64).toInt64).toInt32)) T58.heap n0 Z58 Q58_6 Q58_9) hZ (hw _ (mgE 66 rfl)) (hw _ (mgE 51 rfl)) (by decide) (by decide)) q66a q66c (g := (mkF m 145 #[.val (.int p1), .val (.long q2), .second, .val (.int p3), .val (.int p4), .val (.int p5), .val (.int p6), .val (.int nn), .val (.int xx), .val (.int yy), .val (.int zz), .val (.int pp), .val (.int qq), .val (.int rr), .val (.ref b24), .val (.ref ob58_1), .unset, .unset, .unset, .unset, .unset, .unset] [(.ref ob58_1)])) rfl (by rw [hml]; rfl) (Steps.refl _) (argsL := []) (rest := []) (lenOf pd___I rfl) rfl (by show 2 * 0 + _ ≤ _; exact Nat.le_of_eq rfl) (hb hby at_145) (fun _ _ => ⟨rfl, rfl, (by decide : 5 + 0 ≤ _), (by decide : 28 + 0 ≤ _)⟩)
        dsimp only [Pt.U, Pt.locs, Pt.cells, Pt.slots] at X66 l66 y66 z66 st66 hQ66
        subst l66 y66 z66
        obtain ⟨rfl, N66q, e66⟩ := hQ66
        have pre67 : ∀ t, Steps p.tables e below (T66.setTop (mkF m 148 #[.val (.int p1), .val (.long q2), .second, .val (.int p3), .val (.int p4), .val (.int p5), .val (.int p6), .val (.int nn), .val (.int xx), .val (.int yy), .val (.int zz), .val (.int pp), .val (.int qq), .val (.int rr), .val (.ref b24), .val (.ref ob58_1), .unset, .unset, .unset, .unset, .unset, .unset] [(.int (3 : Int32))])) t → Steps p.tables e below (s₁.setTop (entryFrame m #[(.int p1), (.long q2), (.int p3), (.int p4), (.int p5), (.int p6)] maxLocals)) t := fun t kt => pre65 t (st66.trans kt)
        have N66 := Fr.app N58 N66q
        have pre68 : ∀ t, Steps p.tables e below (T66.setTop (mkF m 157 #[.val (.int p1), .val (.long q2), .second, .val (.int p3), .val (.int p4), .val (.int p5), .val (.int p6), .val (.int nn), .val (.int xx), .val (.int yy), .val (.int zz), .val (.int pp), .val (.int qq), .val (.int rr), .val (.ref b24), .val (.ref ob58_1), .unset, .unset, .unset, .unset, .unset, .unset] [(.int (0 : Int32)), (.ref ob58_1)])) t → Steps p.tables e below (s₁.setTop (entryFrame m #[(.int p1), (.long q2), (.int p3), (.int p4), (.int p5), (.int p6)] maxLocals)) t := fun t kt => by
          refine pre67 t ?_
          refine XS.iconst X66.here hx rfl (hb hby at_148) ?_
          show Steps p.tables e below (T66.setTop (mkF m 149 #[.val (.int p1), .val (.long q2), .second, .val (.int p3), .val (.int p4), .val (.int p5), .val (.int p6), .val (.int nn), .val (.int xx), .val (.int yy), .val (.int zz), .val (.int pp), .val (.int qq), .val (.int rr), .val (.ref b24), .val (.ref ob58_1), .unset, .unset, .unset, .unset, .unset, .unset] [(.int (3 : Int32)), (.int (3 : Int32))])) _
          refine XS.icmpYes X66.here hx rfl (pc0 := 149) (pc' := 154) rfl (hb hby at_149) rfl (teq (by decide : (3 : Int32) = (3 : Int32))).1 (by decide) (by decide) ?_
          show Steps p.tables e below (T66.setTop (mkF m 154 #[.val (.int p1), .val (.long q2), .second, .val (.int p3), .val (.int p4), .val (.int p5), .val (.int p6), .val (.int nn), .val (.int xx), .val (.int yy), .val (.int zz), .val (.int pp), .val (.int qq), .val (.int rr), .val (.ref b24), .val (.ref ob58_1), .unset, .unset, .unset, .unset, .unset, .unset] [])) _
          refine XS.aload X66.here hx rfl (hb hby at_154) rfl rfl ?_
          show Steps p.tables e below (T66.setTop (mkF m 156 #[.val (.int p1), .val (.long q2), .second, .val (.int p3), .val (.int p4), .val (.int p5), .val (.int p6), .val (.int nn), .val (.int xx), .val (.int yy), .val (.int zz), .val (.int pp), .val (.int qq), .val (.int rr), .val (.ref b24), .val (.ref ob58_1), .unset, .unset, .unset, .unset, .unset, .unset] [(.ref ob58_1)])) _
          refine XS.iconst X66.here hx rfl (hb hby at_156) ?_
          show Steps p.tables e below (T66.setTop (mkF m 157 #[.val (.int p1), .val (.long q2), .second, .val (.int p3), .val (.int p4), .val (.int p5), .val (.int p6), .val (.int nn), .val (.int xx), .val (.int yy), .val (.int zz), .val (.int pp), .val (.int qq), .val (.int rr), .val (.ref b24), .val (.ref ob58_1), .unset, .unset, .unset, .unset, .unset, .unset] [(.int (0 : Int32)), (.ref ob58_1)])) _
          exact kt
        obtain ⟨cq69, kq69, q69a, q69b, q69c⟩ := isOf hZ e66 Q58_1
        obtain ⟨_, _, ⟨T69, L69, k69, n69⟩, -, X69, ⟨Lc69, hQ69, l69, y69, z69⟩, st69⟩ := X66.virtualBack hx (y := (⟨"com/example/hit_span_ranker/hitspanranker/chain/HitChain", "position", "(I)I"⟩ : MethodName)) (z := (⟨"com/example/hit_span_ranker/hitspanranker/chain/HitChain", "position", "(I)I"⟩ : MethodName)) hown (mvT hZ (hw _ (mgE 67 rfl))) (mvT hZ (hw _ (mgE 68 rfl))) (notFace_of_selects (args := #[]) (mvT hZ (hw _ (mgE 70 rfl)))) (mvT hZ (hw _ (mgE 70 rfl))) (mvT hZ (hw _ (mgE 69 rfl))) (by decide) (backOf (W := 0) (rm13 l Z a0 hw [] ob58_1 (0 : Int32) ob58_3 (3 : Int32) (own_upd (own_upd (own_upd (fun _ => (0 : Int32)) ((0 : Int32)).toNatClampNeg (((((srt (own_upd (own_upd (own_upd (fun _ => (0 : Int64)) ((0 : Int32)).toNatClampNeg (((pp.toInt64) <<< ((32 : Int32) &&& 0x3f).toInt64) ||| (xx.toInt64))) ((1 : Int32)).toNatClampNeg (((qq.toInt64) <<< ((32 : Int32) &&& 0x3f).toInt64) ||| (yy.toInt64))) ((2 : Int32)).toNatClampNeg (((rr.toInt64) <<< ((32 : Int32) &&& 0x3f).toInt64) ||| (zz.toInt64)))) ((0 : Int32)).toNatClampNeg).toUInt64 >>> ((32 : Int32) &&& 0x3f).toInt64.toUInt64).toInt64).toInt32)) ((1 : Int32)).toNatClampNeg (((((srt (own_upd (own_upd (own_upd (fun _ => (0 : Int64)) ((0 : Int32)).toNatClampNeg (((pp.toInt64) <<< ((32 : Int32) &&& 0x3f).toInt64) ||| (xx.toInt64))) ((1 : Int32)).toNatClampNeg (((qq.toInt64) <<< ((32 : Int32) &&& 0x3f).toInt64) ||| (yy.toInt64))) ((2 : Int32)).toNatClampNeg (((rr.toInt64) <<< ((32 : Int32) &&& 0x3f).toInt64) ||| (zz.toInt64)))) ((1 : Int32)).toNatClampNeg).toUInt64 >>> ((32 : Int32) &&& 0x3f).toInt64.toUInt64).toInt64).toInt32)) ((2 : Int32)).toNatClampNeg (((((srt (own_upd (own_upd (own_upd (fun _ => (0 : Int64)) ((0 : Int32)).toNatClampNeg (((pp.toInt64) <<< ((32 : Int32) &&& 0x3f).toInt64) ||| (xx.toInt64))) ((1 : Int32)).toNatClampNeg (((qq.toInt64) <<< ((32 : Int32) &&& 0x3f).toInt64) ||| (yy.toInt64))) ((2 : Int32)).toNatClampNeg (((rr.toInt64) <<< ((32 : Int32) &&& 0x3f).toInt64) ||| (zz.toInt64)))) ((2 : Int32)).toNatClampNeg).toUInt64 >>> ((32 : Int32) &&& 0x3f).toInt64.toUInt64).toInt64).toInt32)) T58.heap n0 Z58 Q58_6 Q58_9 (⟨by decide, by decide⟩)) hZ (hw _ (mgE 71 rfl)) (hw _ (mgE 51 rfl)) (by decide) (by decide)) q69a q69c (g := (mkF m 157 #[.val (.int p1), .val (.long q2), .second, .val (.int p3), .val (.int p4), .val (.int p5), .val (.int p6), .val (.int nn), .val (.int xx), .val (.int yy), .val (.int zz), .val (.int pp), .val (.int qq), .val (.int rr), .val (.ref b24), .val (.ref ob58_1), .unset, .unset, .unset, .unset, .unset, .unset] [(.int (0 : Int32)), (.ref ob58_1)])) rfl (by rw [hml]; rfl) (Steps.refl _) (argsL := [(.int (0 : Int32))]) (rest := []) (lenOf pd__I_I rfl) rfl (by show 2 * 0 + _ ≤ _; exact Nat.le_of_eq rfl) (hb hby at_157) (fun _ _ => ⟨rfl, e66, (by decide : 5 + 0 ≤ _), (by decide : 28 + 0 ≤ _)⟩)
        dsimp only [Pt.U, Pt.locs, Pt.cells, Pt.slots] at X69 l69 y69 z69 st69 hQ69
        subst l69 y69 z69
        obtain ⟨rfl, N69q, e69⟩ := hQ69
        have pre70 : ∀ t, Steps p.tables e below (T69.setTop (mkF m 160 #[.val (.int p1), .val (.long q2), .second, .val (.int p3), .val (.int p4), .val (.int p5), .val (.int p6), .val (.int nn), .val (.int xx), .val (.int yy), .val (.int zz), .val (.int pp), .val (.int qq), .val (.int rr), .val (.ref b24), .val (.ref ob58_1), .unset, .unset, .unset, .unset, .unset, .unset] [(.int ((own_upd (own_upd (own_upd (fun _ => (0 : Int32)) ((0 : Int32)).toNatClampNeg (((((srt (own_upd (own_upd (own_upd (fun _ => (0 : Int64)) ((0 : Int32)).toNatClampNeg (((pp.toInt64) <<< ((32 : Int32) &&& 0x3f).toInt64) ||| (xx.toInt64))) ((1 : Int32)).toNatClampNeg (((qq.toInt64) <<< ((32 : Int32) &&& 0x3f).toInt64) ||| (yy.toInt64))) ((2 : Int32)).toNatClampNeg (((rr.toInt64) <<< ((32 : Int32) &&& 0x3f).toInt64) ||| (zz.toInt64)))) ((0 : Int32)).toNatClampNeg).toUInt64 >>> ((32 : Int32) &&& 0x3f).toInt64.toUInt64).toInt64).toInt32)) ((1 : Int32)).toNatClampNeg (((((srt (own_upd (own_upd (own_upd (fun _ => (0 : Int64)) ((0 : Int32)).toNatClampNeg (((pp.toInt64) <<< ((32 : Int32) &&& 0x3f).toInt64) ||| (xx.toInt64))) ((1 : Int32)).toNatClampNeg (((qq.toInt64) <<< ((32 : Int32) &&& 0x3f).toInt64) ||| (yy.toInt64))) ((2 : Int32)).toNatClampNeg (((rr.toInt64) <<< ((32 : Int32) &&& 0x3f).toInt64) ||| (zz.toInt64)))) ((1 : Int32)).toNatClampNeg).toUInt64 >>> ((32 : Int32) &&& 0x3f).toInt64.toUInt64).toInt64).toInt32)) ((2 : Int32)).toNatClampNeg (((((srt (own_upd (own_upd (own_upd (fun _ => (0 : Int64)) ((0 : Int32)).toNatClampNeg (((pp.toInt64) <<< ((32 : Int32) &&& 0x3f).toInt64) ||| (xx.toInt64))) ((1 : Int32)).toNatClampNeg (((qq.toInt64) <<< ((32 : Int32) &&& 0x3f).toInt64) ||| (yy.toInt64))) ((2 : Int32)).toNatClampNeg (((rr.toInt64) <<< ((32 : Int32) &&& 0x3f).toInt64) ||| (zz.toInt64)))) ((2 : Int32)).toNatClampNeg).toUInt64 >>> ((32 : Int32) &&& 0x3f).toInt64.toUInt64).toInt64).toInt32)) ((0 : Int32)).toNatClampNeg))])) t → Steps p.tables e below (s₁.setTop (entryFrame m #[(.int p1), (.long q2), (.int p3), (.int p4), (.int p5), (.int p6)] maxLocals)) t := fun t kt => pre68 t (st69.trans kt)
        have N69 := Fr.app N66 N69q
        have pre71 : ∀ t, Steps p.tables e below (T69.setTop (mkF m 162 #[.val (.int p1), .val (.long q2), .second, .val (.int p3), .val (.int p4), .val (.int p5), .val (.int p6), .val (.int nn), .val (.int xx), .val (.int yy), .val (.int zz), .val (.int pp), .val (.int qq), .val (.int rr), .val (.ref b24), .val (.ref ob58_1), .val (.int ((own_upd (own_upd (own_upd (fun _ => (0 : Int32)) ((0 : Int32)).toNatClampNeg (((((srt (own_upd (own_upd (own_upd (fun _ => (0 : Int64)) ((0 : Int32)).toNatClampNeg (((pp.toInt64) <<< ((32 : Int32) &&& 0x3f).toInt64) ||| (xx.toInt64))) ((1 : Int32)).toNatClampNeg (((qq.toInt64) <<< ((32 : Int32) &&& 0x3f).toInt64) ||| (yy.toInt64))) ((2 : Int32)).toNatClampNeg (((rr.toInt64) <<< ((32 : Int32) &&& 0x3f).toInt64) ||| (zz.toInt64)))) ((0 : Int32)).toNatClampNeg).toUInt64 >>> ((32 : Int32) &&& 0x3f).toInt64.toUInt64).toInt64).toInt32)) ((1 : Int32)).toNatClampNeg (((((srt (own_upd (own_upd (own_upd (fun _ => (0 : Int64)) ((0 : Int32)).toNatClampNeg (((pp.toInt64) <<< ((32 : Int32) &&& 0x3f).toInt64) ||| (xx.toInt64))) ((1 : Int32)).toNatClampNeg (((qq.toInt64) <<< ((32 : Int32) &&& 0x3f).toInt64) ||| (yy.toInt64))) ((2 : Int32)).toNatClampNeg (((rr.toInt64) <<< ((32 : Int32) &&& 0x3f).toInt64) ||| (zz.toInt64)))) ((1 : Int32)).toNatClampNeg).toUInt64 >>> ((32 : Int32) &&& 0x3f).toInt64.toUInt64).toInt64).toInt32)) ((2 : Int32)).toNatClampNeg (((((srt (own_upd (own_upd (own_upd (fun _ => (0 : Int64)) ((0 : Int32)).toNatClampNeg (((pp.toInt64) <<< ((32 : Int32) &&& 0x3f).toInt64) ||| (xx.toInt64))) ((1 : Int32)).toNatClampNeg (((qq.toInt64) <<< ((32 : Int32) &&& 0x3f).toInt64) ||| (yy.toInt64))) ((2 : Int32)).toNatClampNeg (((rr.toInt64) <<< ((32 : Int32) &&& 0x3f).toInt64) ||| (zz.toInt64)))) ((2 : Int32)).toNatClampNeg).toUInt64 >>> ((32 : Int32) &&& 0x3f).toInt64.toUInt64).toInt64).toInt32)) ((0 : Int32)).toNatClampNeg)), .unset, .unset, .unset, .unset, .unset] [])) t → Steps p.tables e below (s₁.setTop (entryFrame m #[(.int p1), (.long q2), (.int p3), (.int p4), (.int p5), (.int p6)] maxLocals)) t := fun t kt => by
          refine pre70 t ?_
          refine XS.istore X69.here hx rfl (hb hby at_160) rfl (l' := #[.val (.int p1), .val (.long q2), .second, .val (.int p3), .val (.int p4), .val (.int p5), .val (.int p6), .val (.int nn), .val (.int xx), .val (.int yy), .val (.int zz), .val (.int pp), .val (.int qq), .val (.int rr), .val (.ref b24), .val (.ref ob58_1), .val (.int ((own_upd (own_upd (own_upd (fun _ => (0 : Int32)) ((0 : Int32)).toNatClampNeg (((((srt (own_upd (own_upd (own_upd (fun _ => (0 : Int64)) ((0 : Int32)).toNatClampNeg (((pp.toInt64) <<< ((32 : Int32) &&& 0x3f).toInt64) ||| (xx.toInt64))) ((1 : Int32)).toNatClampNeg (((qq.toInt64) <<< ((32 : Int32) &&& 0x3f).toInt64) ||| (yy.toInt64))) ((2 : Int32)).toNatClampNeg (((rr.toInt64) <<< ((32 : Int32) &&& 0x3f).toInt64) ||| (zz.toInt64)))) ((0 : Int32)).toNatClampNeg).toUInt64 >>> ((32 : Int32) &&& 0x3f).toInt64.toUInt64).toInt64).toInt32)) ((1 : Int32)).toNatClampNeg (((((srt (own_upd (own_upd (own_upd (fun _ => (0 : Int64)) ((0 : Int32)).toNatClampNeg (((pp.toInt64) <<< ((32 : Int32) &&& 0x3f).toInt64) ||| (xx.toInt64))) ((1 : Int32)).toNatClampNeg (((qq.toInt64) <<< ((32 : Int32) &&& 0x3f).toInt64) ||| (yy.toInt64))) ((2 : Int32)).toNatClampNeg (((rr.toInt64) <<< ((32 : Int32) &&& 0x3f).toInt64) ||| (zz.toInt64)))) ((1 : Int32)).toNatClampNeg).toUInt64 >>> ((32 : Int32) &&& 0x3f).toInt64.toUInt64).toInt64).toInt32)) ((2 : Int32)).toNatClampNeg (((((srt (own_upd (own_upd (own_upd (fun _ => (0 : Int64)) ((0 : Int32)).toNatClampNeg (((pp.toInt64) <<< ((32 : Int32) &&& 0x3f).toInt64) ||| (xx.toInt64))) ((1 : Int32)).toNatClampNeg (((qq.toInt64) <<< ((32 : Int32) &&& 0x3f).toInt64) ||| (yy.toInt64))) ((2 : Int32)).toNatClampNeg (((rr.toInt64) <<< ((32 : Int32) &&& 0x3f).toInt64) ||| (zz.toInt64)))) ((2 : Int32)).toNatClampNeg).toUInt64 >>> ((32 : Int32) &&& 0x3f).toInt64.toUInt64).toInt64).toInt32)) ((0 : Int32)).toNatClampNeg)), .unset, .unset, .unset, .unset, .unset]) rfl ?_
          show Steps p.tables e below (T69.setTop (mkF m 162 #[.val (.int p1), .val (.long q2), .second, .val (.int p3), .val (.int p4), .val (.int p5), .val (.int p6), .val (.int nn), .val (.int xx), .val (.int yy), .val (.int zz), .val (.int pp), .val (.int qq), .val (.int rr), .val (.ref b24), .val (.ref ob58_1), .val (.int ((own_upd (own_upd (own_upd (fun _ => (0 : Int32)) ((0 : Int32)).toNatClampNeg (((((srt (own_upd (own_upd (own_upd (fun _ => (0 : Int64)) ((0 : Int32)).toNatClampNeg (((pp.toInt64) <<< ((32 : Int32) &&& 0x3f).toInt64) ||| (xx.toInt64))) ((1 : Int32)).toNatClampNeg (((qq.toInt64) <<< ((32 : Int32) &&& 0x3f).toInt64) ||| (yy.toInt64))) ((2 : Int32)).toNatClampNeg (((rr.toInt64) <<< ((32 : Int32) &&& 0x3f).toInt64) ||| (zz.toInt64)))) ((0 : Int32)).toNatClampNeg).toUInt64 >>> ((32 : Int32) &&& 0x3f).toInt64.toUInt64).toInt64).toInt32)) ((1 : Int32)).toNatClampNeg (((((srt (own_upd (own_upd (own_upd (fun _ => (0 : Int64)) ((0 : Int32)).toNatClampNeg (((pp.toInt64) <<< ((32 : Int32) &&& 0x3f).toInt64) ||| (xx.toInt64))) ((1 : Int32)).toNatClampNeg (((qq.toInt64) <<< ((32 : Int32) &&& 0x3f).toInt64) ||| (yy.toInt64))) ((2 : Int32)).toNatClampNeg (((rr.toInt64) <<< ((32 : Int32) &&& 0x3f).toInt64) ||| (zz.toInt64)))) ((1 : Int32)).toNatClampNeg).toUInt64 >>> ((32 : Int32) &&& 0x3f).toInt64.toUInt64).toInt64).toInt32)) ((2 : Int32)).toNatClampNeg (((((srt (own_upd (own_upd (own_upd (fun _ => (0 : Int64)) ((0 : Int32)).toNatClampNeg (((pp.toInt64) <<< ((32 : Int32) &&& 0x3f).toInt64) ||| (xx.toInt64))) ((1 : Int32)).toNatClampNeg (((qq.toInt64) <<< ((32 : Int32) &&& 0x3f).toInt64) ||| (yy.toInt64))) ((2 : Int32)).toNatClampNeg (((rr.toInt64) <<< ((32 : Int32) &&& 0x3f).toInt64) ||| (zz.toInt64)))) ((2 : Int32)).toNatClampNeg).toUInt64 >>> ((32 : Int32) &&& 0x3f).toInt64.toUInt64).toInt64).toInt32)) ((0 : Int32)).toNatClampNeg)), .unset, .unset, .unset, .unset, .unset] [])) _
          exact kt
        have hl72 : ((own_upd (own_upd (own_upd (fun _ => (0 : Int32)) ((0 : Int32)).toNatClampNeg (((((srt (own_upd (own_upd (own_upd (fun _ => (0 : Int64)) ((0 : Int32)).toNatClampNeg (((pp.toInt64) <<< ((32 : Int32) &&& 0x3f).toInt64) ||| (xx.toInt64))) ((1 : Int32)).toNatClampNeg (((qq.toInt64) <<< ((32 : Int32) &&& 0x3f).toInt64) ||| (yy.toInt64))) ((2 : Int32)).toNatClampNeg (((rr.toInt64) <<< ((32 : Int32) &&& 0x3f).toInt64) ||| (zz.toInt64)))) ((0 : Int32)).toNatClampNeg).toUInt64 >>> ((32 : Int32) &&& 0x3f).toInt64.toUInt64).toInt64).toInt32)) ((1 : Int32)).toNatClampNeg (((((srt (own_upd (own_upd (own_upd (fun _ => (0 : Int64)) ((0 : Int32)).toNatClampNeg (((pp.toInt64) <<< ((32 : Int32) &&& 0x3f).toInt64) ||| (xx.toInt64))) ((1 : Int32)).toNatClampNeg (((qq.toInt64) <<< ((32 : Int32) &&& 0x3f).toInt64) ||| (yy.toInt64))) ((2 : Int32)).toNatClampNeg (((rr.toInt64) <<< ((32 : Int32) &&& 0x3f).toInt64) ||| (zz.toInt64)))) ((1 : Int32)).toNatClampNeg).toUInt64 >>> ((32 : Int32) &&& 0x3f).toInt64.toUInt64).toInt64).toInt32)) ((2 : Int32)).toNatClampNeg (((((srt (own_upd (own_upd (own_upd (fun _ => (0 : Int64)) ((0 : Int32)).toNatClampNeg (((pp.toInt64) <<< ((32 : Int32) &&& 0x3f).toInt64) ||| (xx.toInt64))) ((1 : Int32)).toNatClampNeg (((qq.toInt64) <<< ((32 : Int32) &&& 0x3f).toInt64) ||| (yy.toInt64))) ((2 : Int32)).toNatClampNeg (((rr.toInt64) <<< ((32 : Int32) &&& 0x3f).toInt64) ||| (zz.toInt64)))) ((2 : Int32)).toNatClampNeg).toUInt64 >>> ((32 : Int32) &&& 0x3f).toInt64.toUInt64).toInt64).toInt32)) ((0 : Int32)).toNatClampNeg) = (((((srt (own_upd (own_upd (own_upd (fun _ => (0 : Int64)) ((0 : Int32)).toNatClampNeg (((pp.toInt64) <<< ((32 : Int32) &&& 0x3f).toInt64) ||| (xx.toInt64))) ((1 : Int32)).toNatClampNeg (((qq.toInt64) <<< ((32 : Int32) &&& 0x3f).toInt64) ||| (yy.toInt64))) ((2 : Int32)).toNatClampNeg (((rr.toInt64) <<< ((32 : Int32) &&& 0x3f).toInt64) ||| (zz.toInt64)))) ((0 : Int32)).toNatClampNeg).toUInt64 >>> ((32 : Int32) &&& 0x3f).toInt64.toUInt64).toInt64).toInt32) := rfl
        rw [hl72] at pre71
        obtain ⟨po0, h_po0⟩ : ∃ z, z = (((((srt (own_upd (own_upd (own_upd (fun _ => (0 : Int64)) ((0 : Int32)).toNatClampNeg (((pp.toInt64) <<< ((32 : Int32) &&& 0x3f).toInt64) ||| (xx.toInt64))) ((1 : Int32)).toNatClampNeg (((qq.toInt64) <<< ((32 : Int32) &&& 0x3f).toInt64) ||| (yy.toInt64))) ((2 : Int32)).toNatClampNeg (((rr.toInt64) <<< ((32 : Int32) &&& 0x3f).toInt64) ||| (zz.toInt64)))) ((0 : Int32)).toNatClampNeg).toUInt64 >>> ((32 : Int32) &&& 0x3f).toInt64.toUInt64).toInt64).toInt32) := ⟨_, rfl⟩
        rw [← h_po0] at pre71
        have pre73 : ∀ t, Steps p.tables e below (T69.setTop (mkF m 165 #[.val (.int p1), .val (.long q2), .second, .val (.int p3), .val (.int p4), .val (.int p5), .val (.int p6), .val (.int nn), .val (.int xx), .val (.int yy), .val (.int zz), .val (.int pp), .val (.int qq), .val (.int rr), .val (.ref b24), .val (.ref ob58_1), .val (.int po0), .unset, .unset, .unset, .unset, .unset] [(.int (1 : Int32)), (.ref ob58_1)])) t → Steps p.tables e below (s₁.setTop (entryFrame m #[(.int p1), (.long q2), (.int p3), (.int p4), (.int p5), (.int p6)] maxLocals)) t := fun t kt => by
          refine pre71 t ?_
          refine XS.aload X69.here hx rfl (hb hby at_162) rfl rfl ?_
          show Steps p.tables e below (T69.setTop (mkF m 164 #[.val (.int p1), .val (.long q2), .second, .val (.int p3), .val (.int p4), .val (.int p5), .val (.int p6), .val (.int nn), .val (.int xx), .val (.int yy), .val (.int zz), .val (.int pp), .val (.int qq), .val (.int rr), .val (.ref b24), .val (.ref ob58_1), .val (.int po0), .unset, .unset, .unset, .unset, .unset] [(.ref ob58_1)])) _
          refine XS.iconst X69.here hx rfl (hb hby at_164) ?_
          show Steps p.tables e below (T69.setTop (mkF m 165 #[.val (.int p1), .val (.long q2), .second, .val (.int p3), .val (.int p4), .val (.int p5), .val (.int p6), .val (.int nn), .val (.int xx), .val (.int yy), .val (.int zz), .val (.int pp), .val (.int qq), .val (.int rr), .val (.ref b24), .val (.ref ob58_1), .val (.int po0), .unset, .unset, .unset, .unset, .unset] [(.int (1 : Int32)), (.ref ob58_1)])) _
          exact kt
        obtain ⟨cq74, kq74, q74a, q74b, q74c⟩ := isOf hZ e69 Q58_1
        obtain ⟨_, _, ⟨T74, L74, k74, n74⟩, -, X74, ⟨Lc74, hQ74, l74, y74, z74⟩, st74⟩ := X69.virtualBack hx (y := (⟨"com/example/hit_span_ranker/hitspanranker/chain/HitChain", "position", "(I)I"⟩ : MethodName)) (z := (⟨"com/example/hit_span_ranker/hitspanranker/chain/HitChain", "position", "(I)I"⟩ : MethodName)) hown (mvT hZ (hw _ (mgE 67 rfl))) (mvT hZ (hw _ (mgE 68 rfl))) (notFace_of_selects (args := #[]) (mvT hZ (hw _ (mgE 70 rfl)))) (mvT hZ (hw _ (mgE 70 rfl))) (mvT hZ (hw _ (mgE 69 rfl))) (by decide) (backOf (W := 0) (rm13 l Z a0 hw [] ob58_1 (1 : Int32) ob58_3 (3 : Int32) (own_upd (own_upd (own_upd (fun _ => (0 : Int32)) ((0 : Int32)).toNatClampNeg (((((srt (own_upd (own_upd (own_upd (fun _ => (0 : Int64)) ((0 : Int32)).toNatClampNeg (((pp.toInt64) <<< ((32 : Int32) &&& 0x3f).toInt64) ||| (xx.toInt64))) ((1 : Int32)).toNatClampNeg (((qq.toInt64) <<< ((32 : Int32) &&& 0x3f).toInt64) ||| (yy.toInt64))) ((2 : Int32)).toNatClampNeg (((rr.toInt64) <<< ((32 : Int32) &&& 0x3f).toInt64) ||| (zz.toInt64)))) ((0 : Int32)).toNatClampNeg).toUInt64 >>> ((32 : Int32) &&& 0x3f).toInt64.toUInt64).toInt64).toInt32)) ((1 : Int32)).toNatClampNeg (((((srt (own_upd (own_upd (own_upd (fun _ => (0 : Int64)) ((0 : Int32)).toNatClampNeg (((pp.toInt64) <<< ((32 : Int32) &&& 0x3f).toInt64) ||| (xx.toInt64))) ((1 : Int32)).toNatClampNeg (((qq.toInt64) <<< ((32 : Int32) &&& 0x3f).toInt64) ||| (yy.toInt64))) ((2 : Int32)).toNatClampNeg (((rr.toInt64) <<< ((32 : Int32) &&& 0x3f).toInt64) ||| (zz.toInt64)))) ((1 : Int32)).toNatClampNeg).toUInt64 >>> ((32 : Int32) &&& 0x3f).toInt64.toUInt64).toInt64).toInt32)) ((2 : Int32)).toNatClampNeg (((((srt (own_upd (own_upd (own_upd (fun _ => (0 : Int64)) ((0 : Int32)).toNatClampNeg (((pp.toInt64) <<< ((32 : Int32) &&& 0x3f).toInt64) ||| (xx.toInt64))) ((1 : Int32)).toNatClampNeg (((qq.toInt64) <<< ((32 : Int32) &&& 0x3f).toInt64) ||| (yy.toInt64))) ((2 : Int32)).toNatClampNeg (((rr.toInt64) <<< ((32 : Int32) &&& 0x3f).toInt64) ||| (zz.toInt64)))) ((2 : Int32)).toNatClampNeg).toUInt64 >>> ((32 : Int32) &&& 0x3f).toInt64.toUInt64).toInt64).toInt32)) T58.heap n0 Z58 Q58_6 Q58_9 (⟨by decide, by decide⟩)) hZ (hw _ (mgE 71 rfl)) (hw _ (mgE 51 rfl)) (by decide) (by decide)) q74a q74c (g := (mkF m 165 #[.val (.int p1), .val (.long q2), .second, .val (.int p3), .val (.int p4), .val (.int p5), .val (.int p6), .val (.int nn), .val (.int xx), .val (.int yy), .val (.int zz), .val (.int pp), .val (.int qq), .val (.int rr), .val (.ref b24), .val (.ref ob58_1), .val (.int po0), .unset, .unset, .unset, .unset, .unset] [(.int (1 : Int32)), (.ref ob58_1)])) rfl (by rw [hml]; rfl) (Steps.refl _) (argsL := [(.int (1 : Int32))]) (rest := []) (lenOf pd__I_I rfl) rfl (by show 2 * 0 + _ ≤ _; exact Nat.le_of_eq rfl) (hb hby at_165) (fun _ _ => ⟨rfl, e69, (by decide : 5 + 0 ≤ _), (by decide : 28 + 0 ≤ _)⟩)
        dsimp only [Pt.U, Pt.locs, Pt.cells, Pt.slots] at X74 l74 y74 z74 st74 hQ74
        subst l74 y74 z74
        obtain ⟨rfl, N74q, e74⟩ := hQ74
        have pre75 : ∀ t, Steps p.tables e below (T74.setTop (mkF m 168 #[.val (.int p1), .val (.long q2), .second, .val (.int p3), .val (.int p4), .val (.int p5), .val (.int p6), .val (.int nn), .val (.int xx), .val (.int yy), .val (.int zz), .val (.int pp), .val (.int qq), .val (.int rr), .val (.ref b24), .val (.ref ob58_1), .val (.int po0), .unset, .unset, .unset, .unset, .unset] [(.int ((own_upd (own_upd (own_upd (fun _ => (0 : Int32)) ((0 : Int32)).toNatClampNeg (((((srt (own_upd (own_upd (own_upd (fun _ => (0 : Int64)) ((0 : Int32)).toNatClampNeg (((pp.toInt64) <<< ((32 : Int32) &&& 0x3f).toInt64) ||| (xx.toInt64))) ((1 : Int32)).toNatClampNeg (((qq.toInt64) <<< ((32 : Int32) &&& 0x3f).toInt64) ||| (yy.toInt64))) ((2 : Int32)).toNatClampNeg (((rr.toInt64) <<< ((32 : Int32) &&& 0x3f).toInt64) ||| (zz.toInt64)))) ((0 : Int32)).toNatClampNeg).toUInt64 >>> ((32 : Int32) &&& 0x3f).toInt64.toUInt64).toInt64).toInt32)) ((1 : Int32)).toNatClampNeg (((((srt (own_upd (own_upd (own_upd (fun _ => (0 : Int64)) ((0 : Int32)).toNatClampNeg (((pp.toInt64) <<< ((32 : Int32) &&& 0x3f).toInt64) ||| (xx.toInt64))) ((1 : Int32)).toNatClampNeg (((qq.toInt64) <<< ((32 : Int32) &&& 0x3f).toInt64) ||| (yy.toInt64))) ((2 : Int32)).toNatClampNeg (((rr.toInt64) <<< ((32 : Int32) &&& 0x3f).toInt64) ||| (zz.toInt64)))) ((1 : Int32)).toNatClampNeg).toUInt64 >>> ((32 : Int32) &&& 0x3f).toInt64.toUInt64).toInt64).toInt32)) ((2 : Int32)).toNatClampNeg (((((srt (own_upd (own_upd (own_upd (fun _ => (0 : Int64)) ((0 : Int32)).toNatClampNeg (((pp.toInt64) <<< ((32 : Int32) &&& 0x3f).toInt64) ||| (xx.toInt64))) ((1 : Int32)).toNatClampNeg (((qq.toInt64) <<< ((32 : Int32) &&& 0x3f).toInt64) ||| (yy.toInt64))) ((2 : Int32)).toNatClampNeg (((rr.toInt64) <<< ((32 : Int32) &&& 0x3f).toInt64) ||| (zz.toInt64)))) ((2 : Int32)).toNatClampNeg).toUInt64 >>> ((32 : Int32) &&& 0x3f).toInt64.toUInt64).toInt64).toInt32)) ((1 : Int32)).toNatClampNeg))])) t → Steps p.tables e below (s₁.setTop (entryFrame m #[(.int p1), (.long q2), (.int p3), (.int p4), (.int p5), (.int p6)] maxLocals)) t := fun t kt => pre73 t (st74.trans kt)
        have N74 := Fr.app N69 N74q
        have pre76 : ∀ t, Steps p.tables e below (T74.setTop (mkF m 170 #[.val (.int p1), .val (.long q2), .second, .val (.int p3), .val (.int p4), .val (.int p5), .val (.int p6), .val (.int nn), .val (.int xx), .val (.int yy), .val (.int zz), .val (.int pp), .val (.int qq), .val (.int rr), .val (.ref b24), .val (.ref ob58_1), .val (.int po0), .val (.int ((own_upd (own_upd (own_upd (fun _ => (0 : Int32)) ((0 : Int32)).toNatClampNeg (((((srt (own_upd (own_upd (own_upd (fun _ => (0 : Int64)) ((0 : Int32)).toNatClampNeg (((pp.toInt64) <<< ((32 : Int32) &&& 0x3f).toInt64) ||| (xx.toInt64))) ((1 : Int32)).toNatClampNeg (((qq.toInt64) <<< ((32 : Int32) &&& 0x3f).toInt64) ||| (yy.toInt64))) ((2 : Int32)).toNatClampNeg (((rr.toInt64) <<< ((32 : Int32) &&& 0x3f).toInt64) ||| (zz.toInt64)))) ((0 : Int32)).toNatClampNeg).toUInt64 >>> ((32 : Int32) &&& 0x3f).toInt64.toUInt64).toInt64).toInt32)) ((1 : Int32)).toNatClampNeg (((((srt (own_upd (own_upd (own_upd (fun _ => (0 : Int64)) ((0 : Int32)).toNatClampNeg (((pp.toInt64) <<< ((32 : Int32) &&& 0x3f).toInt64) ||| (xx.toInt64))) ((1 : Int32)).toNatClampNeg (((qq.toInt64) <<< ((32 : Int32) &&& 0x3f).toInt64) ||| (yy.toInt64))) ((2 : Int32)).toNatClampNeg (((rr.toInt64) <<< ((32 : Int32) &&& 0x3f).toInt64) ||| (zz.toInt64)))) ((1 : Int32)).toNatClampNeg).toUInt64 >>> ((32 : Int32) &&& 0x3f).toInt64.toUInt64).toInt64).toInt32)) ((2 : Int32)).toNatClampNeg (((((srt (own_upd (own_upd (own_upd (fun _ => (0 : Int64)) ((0 : Int32)).toNatClampNeg (((pp.toInt64) <<< ((32 : Int32) &&& 0x3f).toInt64) ||| (xx.toInt64))) ((1 : Int32)).toNatClampNeg (((qq.toInt64) <<< ((32 : Int32) &&& 0x3f).toInt64) ||| (yy.toInt64))) ((2 : Int32)).toNatClampNeg (((rr.toInt64) <<< ((32 : Int32) &&& 0x3f).toInt64) ||| (zz.toInt64)))) ((2 : Int32)).toNatClampNeg).toUInt64 >>> ((32 : Int32) &&& 0x3f).toInt64.toUInt64).toInt64).toInt32)) ((1 : Int32)).toNatClampNeg)), .unset, .unset, .unset, .unset] [])) t → Steps p.tables e below (s₁.setTop (entryFrame m #[(.int p1), (.long q2), (.int p3), (.int p4), (.int p5), (.int p6)] maxLocals)) t := fun t kt => by
          refine pre75 t ?_
          refine XS.istore X74.here hx rfl (hb hby at_168) rfl (l' := #[.val (.int p1), .val (.long q2), .second, .val (.int p3), .val (.int p4), .val (.int p5), .val (.int p6), .val (.int nn), .val (.int xx), .val (.int yy), .val (.int zz), .val (.int pp), .val (.int qq), .val (.int rr), .val (.ref b24), .val (.ref ob58_1), .val (.int po0), .val (.int ((own_upd (own_upd (own_upd (fun _ => (0 : Int32)) ((0 : Int32)).toNatClampNeg (((((srt (own_upd (own_upd (own_upd (fun _ => (0 : Int64)) ((0 : Int32)).toNatClampNeg (((pp.toInt64) <<< ((32 : Int32) &&& 0x3f).toInt64) ||| (xx.toInt64))) ((1 : Int32)).toNatClampNeg (((qq.toInt64) <<< ((32 : Int32) &&& 0x3f).toInt64) ||| (yy.toInt64))) ((2 : Int32)).toNatClampNeg (((rr.toInt64) <<< ((32 : Int32) &&& 0x3f).toInt64) ||| (zz.toInt64)))) ((0 : Int32)).toNatClampNeg).toUInt64 >>> ((32 : Int32) &&& 0x3f).toInt64.toUInt64).toInt64).toInt32)) ((1 : Int32)).toNatClampNeg (((((srt (own_upd (own_upd (own_upd (fun _ => (0 : Int64)) ((0 : Int32)).toNatClampNeg (((pp.toInt64) <<< ((32 : Int32) &&& 0x3f).toInt64) ||| (xx.toInt64))) ((1 : Int32)).toNatClampNeg (((qq.toInt64) <<< ((32 : Int32) &&& 0x3f).toInt64) ||| (yy.toInt64))) ((2 : Int32)).toNatClampNeg (((rr.toInt64) <<< ((32 : Int32) &&& 0x3f).toInt64) ||| (zz.toInt64)))) ((1 : Int32)).toNatClampNeg).toUInt64 >>> ((32 : Int32) &&& 0x3f).toInt64.toUInt64).toInt64).toInt32)) ((2 : Int32)).toNatClampNeg (((((srt (own_upd (own_upd (own_upd (fun _ => (0 : Int64)) ((0 : Int32)).toNatClampNeg (((pp.toInt64) <<< ((32 : Int32) &&& 0x3f).toInt64) ||| (xx.toInt64))) ((1 : Int32)).toNatClampNeg (((qq.toInt64) <<< ((32 : Int32) &&& 0x3f).toInt64) ||| (yy.toInt64))) ((2 : Int32)).toNatClampNeg (((rr.toInt64) <<< ((32 : Int32) &&& 0x3f).toInt64) ||| (zz.toInt64)))) ((2 : Int32)).toNatClampNeg).toUInt64 >>> ((32 : Int32) &&& 0x3f).toInt64.toUInt64).toInt64).toInt32)) ((1 : Int32)).toNatClampNeg)), .unset, .unset, .unset, .unset]) rfl ?_
          show Steps p.tables e below (T74.setTop (mkF m 170 #[.val (.int p1), .val (.long q2), .second, .val (.int p3), .val (.int p4), .val (.int p5), .val (.int p6), .val (.int nn), .val (.int xx), .val (.int yy), .val (.int zz), .val (.int pp), .val (.int qq), .val (.int rr), .val (.ref b24), .val (.ref ob58_1), .val (.int po0), .val (.int ((own_upd (own_upd (own_upd (fun _ => (0 : Int32)) ((0 : Int32)).toNatClampNeg (((((srt (own_upd (own_upd (own_upd (fun _ => (0 : Int64)) ((0 : Int32)).toNatClampNeg (((pp.toInt64) <<< ((32 : Int32) &&& 0x3f).toInt64) ||| (xx.toInt64))) ((1 : Int32)).toNatClampNeg (((qq.toInt64) <<< ((32 : Int32) &&& 0x3f).toInt64) ||| (yy.toInt64))) ((2 : Int32)).toNatClampNeg (((rr.toInt64) <<< ((32 : Int32) &&& 0x3f).toInt64) ||| (zz.toInt64)))) ((0 : Int32)).toNatClampNeg).toUInt64 >>> ((32 : Int32) &&& 0x3f).toInt64.toUInt64).toInt64).toInt32)) ((1 : Int32)).toNatClampNeg (((((srt (own_upd (own_upd (own_upd (fun _ => (0 : Int64)) ((0 : Int32)).toNatClampNeg (((pp.toInt64) <<< ((32 : Int32) &&& 0x3f).toInt64) ||| (xx.toInt64))) ((1 : Int32)).toNatClampNeg (((qq.toInt64) <<< ((32 : Int32) &&& 0x3f).toInt64) ||| (yy.toInt64))) ((2 : Int32)).toNatClampNeg (((rr.toInt64) <<< ((32 : Int32) &&& 0x3f).toInt64) ||| (zz.toInt64)))) ((1 : Int32)).toNatClampNeg).toUInt64 >>> ((32 : Int32) &&& 0x3f).toInt64.toUInt64).toInt64).toInt32)) ((2 : Int32)).toNatClampNeg (((((srt (own_upd (own_upd (own_upd (fun _ => (0 : Int64)) ((0 : Int32)).toNatClampNeg (((pp.toInt64) <<< ((32 : Int32) &&& 0x3f).toInt64) ||| (xx.toInt64))) ((1 : Int32)).toNatClampNeg (((qq.toInt64) <<< ((32 : Int32) &&& 0x3f).toInt64) ||| (yy.toInt64))) ((2 : Int32)).toNatClampNeg (((rr.toInt64) <<< ((32 : Int32) &&& 0x3f).toInt64) ||| (zz.toInt64)))) ((2 : Int32)).toNatClampNeg).toUInt64 >>> ((32 : Int32) &&& 0x3f).toInt64.toUInt64).toInt64).toInt32)) ((1 : Int32)).toNatClampNeg)), .unset, .unset, .unset, .unset] [])) _
          exact kt
        have hl77 : ((own_upd (own_upd (own_upd (fun _ => (0 : Int32)) ((0 : Int32)).toNatClampNeg (((((srt (own_upd (own_upd (own_upd (fun _ => (0 : Int64)) ((0 : Int32)).toNatClampNeg (((pp.toInt64) <<< ((32 : Int32) &&& 0x3f).toInt64) ||| (xx.toInt64))) ((1 : Int32)).toNatClampNeg (((qq.toInt64) <<< ((32 : Int32) &&& 0x3f).toInt64) ||| (yy.toInt64))) ((2 : Int32)).toNatClampNeg (((rr.toInt64) <<< ((32 : Int32) &&& 0x3f).toInt64) ||| (zz.toInt64)))) ((0 : Int32)).toNatClampNeg).toUInt64 >>> ((32 : Int32) &&& 0x3f).toInt64.toUInt64).toInt64).toInt32)) ((1 : Int32)).toNatClampNeg (((((srt (own_upd (own_upd (own_upd (fun _ => (0 : Int64)) ((0 : Int32)).toNatClampNeg (((pp.toInt64) <<< ((32 : Int32) &&& 0x3f).toInt64) ||| (xx.toInt64))) ((1 : Int32)).toNatClampNeg (((qq.toInt64) <<< ((32 : Int32) &&& 0x3f).toInt64) ||| (yy.toInt64))) ((2 : Int32)).toNatClampNeg (((rr.toInt64) <<< ((32 : Int32) &&& 0x3f).toInt64) ||| (zz.toInt64)))) ((1 : Int32)).toNatClampNeg).toUInt64 >>> ((32 : Int32) &&& 0x3f).toInt64.toUInt64).toInt64).toInt32)) ((2 : Int32)).toNatClampNeg (((((srt (own_upd (own_upd (own_upd (fun _ => (0 : Int64)) ((0 : Int32)).toNatClampNeg (((pp.toInt64) <<< ((32 : Int32) &&& 0x3f).toInt64) ||| (xx.toInt64))) ((1 : Int32)).toNatClampNeg (((qq.toInt64) <<< ((32 : Int32) &&& 0x3f).toInt64) ||| (yy.toInt64))) ((2 : Int32)).toNatClampNeg (((rr.toInt64) <<< ((32 : Int32) &&& 0x3f).toInt64) ||| (zz.toInt64)))) ((2 : Int32)).toNatClampNeg).toUInt64 >>> ((32 : Int32) &&& 0x3f).toInt64.toUInt64).toInt64).toInt32)) ((1 : Int32)).toNatClampNeg) = (((((srt (own_upd (own_upd (own_upd (fun _ => (0 : Int64)) ((0 : Int32)).toNatClampNeg (((pp.toInt64) <<< ((32 : Int32) &&& 0x3f).toInt64) ||| (xx.toInt64))) ((1 : Int32)).toNatClampNeg (((qq.toInt64) <<< ((32 : Int32) &&& 0x3f).toInt64) ||| (yy.toInt64))) ((2 : Int32)).toNatClampNeg (((rr.toInt64) <<< ((32 : Int32) &&& 0x3f).toInt64) ||| (zz.toInt64)))) ((1 : Int32)).toNatClampNeg).toUInt64 >>> ((32 : Int32) &&& 0x3f).toInt64.toUInt64).toInt64).toInt32) := rfl
        rw [hl77] at pre76
        obtain ⟨po1, h_po1⟩ : ∃ z, z = (((((srt (own_upd (own_upd (own_upd (fun _ => (0 : Int64)) ((0 : Int32)).toNatClampNeg (((pp.toInt64) <<< ((32 : Int32) &&& 0x3f).toInt64) ||| (xx.toInt64))) ((1 : Int32)).toNatClampNeg (((qq.toInt64) <<< ((32 : Int32) &&& 0x3f).toInt64) ||| (yy.toInt64))) ((2 : Int32)).toNatClampNeg (((rr.toInt64) <<< ((32 : Int32) &&& 0x3f).toInt64) ||| (zz.toInt64)))) ((1 : Int32)).toNatClampNeg).toUInt64 >>> ((32 : Int32) &&& 0x3f).toInt64.toUInt64).toInt64).toInt32) := ⟨_, rfl⟩
        rw [← h_po1] at pre76
        have pre78 : ∀ t, Steps p.tables e below (T74.setTop (mkF m 173 #[.val (.int p1), .val (.long q2), .second, .val (.int p3), .val (.int p4), .val (.int p5), .val (.int p6), .val (.int nn), .val (.int xx), .val (.int yy), .val (.int zz), .val (.int pp), .val (.int qq), .val (.int rr), .val (.ref b24), .val (.ref ob58_1), .val (.int po0), .val (.int po1), .unset, .unset, .unset, .unset] [(.int (2 : Int32)), (.ref ob58_1)])) t → Steps p.tables e below (s₁.setTop (entryFrame m #[(.int p1), (.long q2), (.int p3), (.int p4), (.int p5), (.int p6)] maxLocals)) t := fun t kt => by
          refine pre76 t ?_
          refine XS.aload X74.here hx rfl (hb hby at_170) rfl rfl ?_
          show Steps p.tables e below (T74.setTop (mkF m 172 #[.val (.int p1), .val (.long q2), .second, .val (.int p3), .val (.int p4), .val (.int p5), .val (.int p6), .val (.int nn), .val (.int xx), .val (.int yy), .val (.int zz), .val (.int pp), .val (.int qq), .val (.int rr), .val (.ref b24), .val (.ref ob58_1), .val (.int po0), .val (.int po1), .unset, .unset, .unset, .unset] [(.ref ob58_1)])) _
          refine XS.iconst X74.here hx rfl (hb hby at_172) ?_
          show Steps p.tables e below (T74.setTop (mkF m 173 #[.val (.int p1), .val (.long q2), .second, .val (.int p3), .val (.int p4), .val (.int p5), .val (.int p6), .val (.int nn), .val (.int xx), .val (.int yy), .val (.int zz), .val (.int pp), .val (.int qq), .val (.int rr), .val (.ref b24), .val (.ref ob58_1), .val (.int po0), .val (.int po1), .unset, .unset, .unset, .unset] [(.int (2 : Int32)), (.ref ob58_1)])) _
          exact kt
        obtain ⟨cq79, kq79, q79a, q79b, q79c⟩ := isOf hZ e74 Q58_1
        obtain ⟨_, _, ⟨T79, L79, k79, n79⟩, -, X79, ⟨Lc79, hQ79, l79, y79, z79⟩, st79⟩ := X74.virtualBack hx (y := (⟨"com/example/hit_span_ranker/hitspanranker/chain/HitChain", "position", "(I)I"⟩ : MethodName)) (z := (⟨"com/example/hit_span_ranker/hitspanranker/chain/HitChain", "position", "(I)I"⟩ : MethodName)) hown (mvT hZ (hw _ (mgE 67 rfl))) (mvT hZ (hw _ (mgE 68 rfl))) (notFace_of_selects (args := #[]) (mvT hZ (hw _ (mgE 70 rfl)))) (mvT hZ (hw _ (mgE 70 rfl))) (mvT hZ (hw _ (mgE 69 rfl))) (by decide) (backOf (W := 0) (rm13 l Z a0 hw [] ob58_1 (2 : Int32) ob58_3 (3 : Int32) (own_upd (own_upd (own_upd (fun _ => (0 : Int32)) ((0 : Int32)).toNatClampNeg (((((srt (own_upd (own_upd (own_upd (fun _ => (0 : Int64)) ((0 : Int32)).toNatClampNeg (((pp.toInt64) <<< ((32 : Int32) &&& 0x3f).toInt64) ||| (xx.toInt64))) ((1 : Int32)).toNatClampNeg (((qq.toInt64) <<< ((32 : Int32) &&& 0x3f).toInt64) ||| (yy.toInt64))) ((2 : Int32)).toNatClampNeg (((rr.toInt64) <<< ((32 : Int32) &&& 0x3f).toInt64) ||| (zz.toInt64)))) ((0 : Int32)).toNatClampNeg).toUInt64 >>> ((32 : Int32) &&& 0x3f).toInt64.toUInt64).toInt64).toInt32)) ((1 : Int32)).toNatClampNeg (((((srt (own_upd (own_upd (own_upd (fun _ => (0 : Int64)) ((0 : Int32)).toNatClampNeg (((pp.toInt64) <<< ((32 : Int32) &&& 0x3f).toInt64) ||| (xx.toInt64))) ((1 : Int32)).toNatClampNeg (((qq.toInt64) <<< ((32 : Int32) &&& 0x3f).toInt64) ||| (yy.toInt64))) ((2 : Int32)).toNatClampNeg (((rr.toInt64) <<< ((32 : Int32) &&& 0x3f).toInt64) ||| (zz.toInt64)))) ((1 : Int32)).toNatClampNeg).toUInt64 >>> ((32 : Int32) &&& 0x3f).toInt64.toUInt64).toInt64).toInt32)) ((2 : Int32)).toNatClampNeg (((((srt (own_upd (own_upd (own_upd (fun _ => (0 : Int64)) ((0 : Int32)).toNatClampNeg (((pp.toInt64) <<< ((32 : Int32) &&& 0x3f).toInt64) ||| (xx.toInt64))) ((1 : Int32)).toNatClampNeg (((qq.toInt64) <<< ((32 : Int32) &&& 0x3f).toInt64) ||| (yy.toInt64))) ((2 : Int32)).toNatClampNeg (((rr.toInt64) <<< ((32 : Int32) &&& 0x3f).toInt64) ||| (zz.toInt64)))) ((2 : Int32)).toNatClampNeg).toUInt64 >>> ((32 : Int32) &&& 0x3f).toInt64.toUInt64).toInt64).toInt32)) T58.heap n0 Z58 Q58_6 Q58_9 (⟨by decide, by decide⟩)) hZ (hw _ (mgE 71 rfl)) (hw _ (mgE 51 rfl)) (by decide) (by decide)) q79a q79c (g := (mkF m 173 #[.val (.int p1), .val (.long q2), .second, .val (.int p3), .val (.int p4), .val (.int p5), .val (.int p6), .val (.int nn), .val (.int xx), .val (.int yy), .val (.int zz), .val (.int pp), .val (.int qq), .val (.int rr), .val (.ref b24), .val (.ref ob58_1), .val (.int po0), .val (.int po1), .unset, .unset, .unset, .unset] [(.int (2 : Int32)), (.ref ob58_1)])) rfl (by rw [hml]; rfl) (Steps.refl _) (argsL := [(.int (2 : Int32))]) (rest := []) (lenOf pd__I_I rfl) rfl (by show 2 * 0 + _ ≤ _; exact Nat.le_of_eq rfl) (hb hby at_173) (fun _ _ => ⟨rfl, e74, (by decide : 5 + 0 ≤ _), (by decide : 28 + 0 ≤ _)⟩)
        dsimp only [Pt.U, Pt.locs, Pt.cells, Pt.slots] at X79 l79 y79 z79 st79 hQ79
        subst l79 y79 z79
        obtain ⟨rfl, N79q, e79⟩ := hQ79
        have pre80 : ∀ t, Steps p.tables e below (T79.setTop (mkF m 176 #[.val (.int p1), .val (.long q2), .second, .val (.int p3), .val (.int p4), .val (.int p5), .val (.int p6), .val (.int nn), .val (.int xx), .val (.int yy), .val (.int zz), .val (.int pp), .val (.int qq), .val (.int rr), .val (.ref b24), .val (.ref ob58_1), .val (.int po0), .val (.int po1), .unset, .unset, .unset, .unset] [(.int ((own_upd (own_upd (own_upd (fun _ => (0 : Int32)) ((0 : Int32)).toNatClampNeg (((((srt (own_upd (own_upd (own_upd (fun _ => (0 : Int64)) ((0 : Int32)).toNatClampNeg (((pp.toInt64) <<< ((32 : Int32) &&& 0x3f).toInt64) ||| (xx.toInt64))) ((1 : Int32)).toNatClampNeg (((qq.toInt64) <<< ((32 : Int32) &&& 0x3f).toInt64) ||| (yy.toInt64))) ((2 : Int32)).toNatClampNeg (((rr.toInt64) <<< ((32 : Int32) &&& 0x3f).toInt64) ||| (zz.toInt64)))) ((0 : Int32)).toNatClampNeg).toUInt64 >>> ((32 : Int32) &&& 0x3f).toInt64.toUInt64).toInt64).toInt32)) ((1 : Int32)).toNatClampNeg (((((srt (own_upd (own_upd (own_upd (fun _ => (0 : Int64)) ((0 : Int32)).toNatClampNeg (((pp.toInt64) <<< ((32 : Int32) &&& 0x3f).toInt64) ||| (xx.toInt64))) ((1 : Int32)).toNatClampNeg (((qq.toInt64) <<< ((32 : Int32) &&& 0x3f).toInt64) ||| (yy.toInt64))) ((2 : Int32)).toNatClampNeg (((rr.toInt64) <<< ((32 : Int32) &&& 0x3f).toInt64) ||| (zz.toInt64)))) ((1 : Int32)).toNatClampNeg).toUInt64 >>> ((32 : Int32) &&& 0x3f).toInt64.toUInt64).toInt64).toInt32)) ((2 : Int32)).toNatClampNeg (((((srt (own_upd (own_upd (own_upd (fun _ => (0 : Int64)) ((0 : Int32)).toNatClampNeg (((pp.toInt64) <<< ((32 : Int32) &&& 0x3f).toInt64) ||| (xx.toInt64))) ((1 : Int32)).toNatClampNeg (((qq.toInt64) <<< ((32 : Int32) &&& 0x3f).toInt64) ||| (yy.toInt64))) ((2 : Int32)).toNatClampNeg (((rr.toInt64) <<< ((32 : Int32) &&& 0x3f).toInt64) ||| (zz.toInt64)))) ((2 : Int32)).toNatClampNeg).toUInt64 >>> ((32 : Int32) &&& 0x3f).toInt64.toUInt64).toInt64).toInt32)) ((2 : Int32)).toNatClampNeg))])) t → Steps p.tables e below (s₁.setTop (entryFrame m #[(.int p1), (.long q2), (.int p3), (.int p4), (.int p5), (.int p6)] maxLocals)) t := fun t kt => pre78 t (st79.trans kt)
        have N79 := Fr.app N74 N79q
        have pre81 : ∀ t, Steps p.tables e below (T79.setTop (mkF m 178 #[.val (.int p1), .val (.long q2), .second, .val (.int p3), .val (.int p4), .val (.int p5), .val (.int p6), .val (.int nn), .val (.int xx), .val (.int yy), .val (.int zz), .val (.int pp), .val (.int qq), .val (.int rr), .val (.ref b24), .val (.ref ob58_1), .val (.int po0), .val (.int po1), .val (.int ((own_upd (own_upd (own_upd (fun _ => (0 : Int32)) ((0 : Int32)).toNatClampNeg (((((srt (own_upd (own_upd (own_upd (fun _ => (0 : Int64)) ((0 : Int32)).toNatClampNeg (((pp.toInt64) <<< ((32 : Int32) &&& 0x3f).toInt64) ||| (xx.toInt64))) ((1 : Int32)).toNatClampNeg (((qq.toInt64) <<< ((32 : Int32) &&& 0x3f).toInt64) ||| (yy.toInt64))) ((2 : Int32)).toNatClampNeg (((rr.toInt64) <<< ((32 : Int32) &&& 0x3f).toInt64) ||| (zz.toInt64)))) ((0 : Int32)).toNatClampNeg).toUInt64 >>> ((32 : Int32) &&& 0x3f).toInt64.toUInt64).toInt64).toInt32)) ((1 : Int32)).toNatClampNeg (((((srt (own_upd (own_upd (own_upd (fun _ => (0 : Int64)) ((0 : Int32)).toNatClampNeg (((pp.toInt64) <<< ((32 : Int32) &&& 0x3f).toInt64) ||| (xx.toInt64))) ((1 : Int32)).toNatClampNeg (((qq.toInt64) <<< ((32 : Int32) &&& 0x3f).toInt64) ||| (yy.toInt64))) ((2 : Int32)).toNatClampNeg (((rr.toInt64) <<< ((32 : Int32) &&& 0x3f).toInt64) ||| (zz.toInt64)))) ((1 : Int32)).toNatClampNeg).toUInt64 >>> ((32 : Int32) &&& 0x3f).toInt64.toUInt64).toInt64).toInt32)) ((2 : Int32)).toNatClampNeg (((((srt (own_upd (own_upd (own_upd (fun _ => (0 : Int64)) ((0 : Int32)).toNatClampNeg (((pp.toInt64) <<< ((32 : Int32) &&& 0x3f).toInt64) ||| (xx.toInt64))) ((1 : Int32)).toNatClampNeg (((qq.toInt64) <<< ((32 : Int32) &&& 0x3f).toInt64) ||| (yy.toInt64))) ((2 : Int32)).toNatClampNeg (((rr.toInt64) <<< ((32 : Int32) &&& 0x3f).toInt64) ||| (zz.toInt64)))) ((2 : Int32)).toNatClampNeg).toUInt64 >>> ((32 : Int32) &&& 0x3f).toInt64.toUInt64).toInt64).toInt32)) ((2 : Int32)).toNatClampNeg)), .unset, .unset, .unset] [])) t → Steps p.tables e below (s₁.setTop (entryFrame m #[(.int p1), (.long q2), (.int p3), (.int p4), (.int p5), (.int p6)] maxLocals)) t := fun t kt => by
          refine pre80 t ?_
          refine XS.istore X79.here hx rfl (hb hby at_176) rfl (l' := #[.val (.int p1), .val (.long q2), .second, .val (.int p3), .val (.int p4), .val (.int p5), .val (.int p6), .val (.int nn), .val (.int xx), .val (.int yy), .val (.int zz), .val (.int pp), .val (.int qq), .val (.int rr), .val (.ref b24), .val (.ref ob58_1), .val (.int po0), .val (.int po1), .val (.int ((own_upd (own_upd (own_upd (fun _ => (0 : Int32)) ((0 : Int32)).toNatClampNeg (((((srt (own_upd (own_upd (own_upd (fun _ => (0 : Int64)) ((0 : Int32)).toNatClampNeg (((pp.toInt64) <<< ((32 : Int32) &&& 0x3f).toInt64) ||| (xx.toInt64))) ((1 : Int32)).toNatClampNeg (((qq.toInt64) <<< ((32 : Int32) &&& 0x3f).toInt64) ||| (yy.toInt64))) ((2 : Int32)).toNatClampNeg (((rr.toInt64) <<< ((32 : Int32) &&& 0x3f).toInt64) ||| (zz.toInt64)))) ((0 : Int32)).toNatClampNeg).toUInt64 >>> ((32 : Int32) &&& 0x3f).toInt64.toUInt64).toInt64).toInt32)) ((1 : Int32)).toNatClampNeg (((((srt (own_upd (own_upd (own_upd (fun _ => (0 : Int64)) ((0 : Int32)).toNatClampNeg (((pp.toInt64) <<< ((32 : Int32) &&& 0x3f).toInt64) ||| (xx.toInt64))) ((1 : Int32)).toNatClampNeg (((qq.toInt64) <<< ((32 : Int32) &&& 0x3f).toInt64) ||| (yy.toInt64))) ((2 : Int32)).toNatClampNeg (((rr.toInt64) <<< ((32 : Int32) &&& 0x3f).toInt64) ||| (zz.toInt64)))) ((1 : Int32)).toNatClampNeg).toUInt64 >>> ((32 : Int32) &&& 0x3f).toInt64.toUInt64).toInt64).toInt32)) ((2 : Int32)).toNatClampNeg (((((srt (own_upd (own_upd (own_upd (fun _ => (0 : Int64)) ((0 : Int32)).toNatClampNeg (((pp.toInt64) <<< ((32 : Int32) &&& 0x3f).toInt64) ||| (xx.toInt64))) ((1 : Int32)).toNatClampNeg (((qq.toInt64) <<< ((32 : Int32) &&& 0x3f).toInt64) ||| (yy.toInt64))) ((2 : Int32)).toNatClampNeg (((rr.toInt64) <<< ((32 : Int32) &&& 0x3f).toInt64) ||| (zz.toInt64)))) ((2 : Int32)).toNatClampNeg).toUInt64 >>> ((32 : Int32) &&& 0x3f).toInt64.toUInt64).toInt64).toInt32)) ((2 : Int32)).toNatClampNeg)), .unset, .unset, .unset]) rfl ?_
          show Steps p.tables e below (T79.setTop (mkF m 178 #[.val (.int p1), .val (.long q2), .second, .val (.int p3), .val (.int p4), .val (.int p5), .val (.int p6), .val (.int nn), .val (.int xx), .val (.int yy), .val (.int zz), .val (.int pp), .val (.int qq), .val (.int rr), .val (.ref b24), .val (.ref ob58_1), .val (.int po0), .val (.int po1), .val (.int ((own_upd (own_upd (own_upd (fun _ => (0 : Int32)) ((0 : Int32)).toNatClampNeg (((((srt (own_upd (own_upd (own_upd (fun _ => (0 : Int64)) ((0 : Int32)).toNatClampNeg (((pp.toInt64) <<< ((32 : Int32) &&& 0x3f).toInt64) ||| (xx.toInt64))) ((1 : Int32)).toNatClampNeg (((qq.toInt64) <<< ((32 : Int32) &&& 0x3f).toInt64) ||| (yy.toInt64))) ((2 : Int32)).toNatClampNeg (((rr.toInt64) <<< ((32 : Int32) &&& 0x3f).toInt64) ||| (zz.toInt64)))) ((0 : Int32)).toNatClampNeg).toUInt64 >>> ((32 : Int32) &&& 0x3f).toInt64.toUInt64).toInt64).toInt32)) ((1 : Int32)).toNatClampNeg (((((srt (own_upd (own_upd (own_upd (fun _ => (0 : Int64)) ((0 : Int32)).toNatClampNeg (((pp.toInt64) <<< ((32 : Int32) &&& 0x3f).toInt64) ||| (xx.toInt64))) ((1 : Int32)).toNatClampNeg (((qq.toInt64) <<< ((32 : Int32) &&& 0x3f).toInt64) ||| (yy.toInt64))) ((2 : Int32)).toNatClampNeg (((rr.toInt64) <<< ((32 : Int32) &&& 0x3f).toInt64) ||| (zz.toInt64)))) ((1 : Int32)).toNatClampNeg).toUInt64 >>> ((32 : Int32) &&& 0x3f).toInt64.toUInt64).toInt64).toInt32)) ((2 : Int32)).toNatClampNeg (((((srt (own_upd (own_upd (own_upd (fun _ => (0 : Int64)) ((0 : Int32)).toNatClampNeg (((pp.toInt64) <<< ((32 : Int32) &&& 0x3f).toInt64) ||| (xx.toInt64))) ((1 : Int32)).toNatClampNeg (((qq.toInt64) <<< ((32 : Int32) &&& 0x3f).toInt64) ||| (yy.toInt64))) ((2 : Int32)).toNatClampNeg (((rr.toInt64) <<< ((32 : Int32) &&& 0x3f).toInt64) ||| (zz.toInt64)))) ((2 : Int32)).toNatClampNeg).toUInt64 >>> ((32 : Int32) &&& 0x3f).toInt64.toUInt64).toInt64).toInt32)) ((2 : Int32)).toNatClampNeg)), .unset, .unset, .unset] [])) _
          exact kt
        have hl82 : ((own_upd (own_upd (own_upd (fun _ => (0 : Int32)) ((0 : Int32)).toNatClampNeg (((((srt (own_upd (own_upd (own_upd (fun _ => (0 : Int64)) ((0 : Int32)).toNatClampNeg (((pp.toInt64) <<< ((32 : Int32) &&& 0x3f).toInt64) ||| (xx.toInt64))) ((1 : Int32)).toNatClampNeg (((qq.toInt64) <<< ((32 : Int32) &&& 0x3f).toInt64) ||| (yy.toInt64))) ((2 : Int32)).toNatClampNeg (((rr.toInt64) <<< ((32 : Int32) &&& 0x3f).toInt64) ||| (zz.toInt64)))) ((0 : Int32)).toNatClampNeg).toUInt64 >>> ((32 : Int32) &&& 0x3f).toInt64.toUInt64).toInt64).toInt32)) ((1 : Int32)).toNatClampNeg (((((srt (own_upd (own_upd (own_upd (fun _ => (0 : Int64)) ((0 : Int32)).toNatClampNeg (((pp.toInt64) <<< ((32 : Int32) &&& 0x3f).toInt64) ||| (xx.toInt64))) ((1 : Int32)).toNatClampNeg (((qq.toInt64) <<< ((32 : Int32) &&& 0x3f).toInt64) ||| (yy.toInt64))) ((2 : Int32)).toNatClampNeg (((rr.toInt64) <<< ((32 : Int32) &&& 0x3f).toInt64) ||| (zz.toInt64)))) ((1 : Int32)).toNatClampNeg).toUInt64 >>> ((32 : Int32) &&& 0x3f).toInt64.toUInt64).toInt64).toInt32)) ((2 : Int32)).toNatClampNeg (((((srt (own_upd (own_upd (own_upd (fun _ => (0 : Int64)) ((0 : Int32)).toNatClampNeg (((pp.toInt64) <<< ((32 : Int32) &&& 0x3f).toInt64) ||| (xx.toInt64))) ((1 : Int32)).toNatClampNeg (((qq.toInt64) <<< ((32 : Int32) &&& 0x3f).toInt64) ||| (yy.toInt64))) ((2 : Int32)).toNatClampNeg (((rr.toInt64) <<< ((32 : Int32) &&& 0x3f).toInt64) ||| (zz.toInt64)))) ((2 : Int32)).toNatClampNeg).toUInt64 >>> ((32 : Int32) &&& 0x3f).toInt64.toUInt64).toInt64).toInt32)) ((2 : Int32)).toNatClampNeg) = (((((srt (own_upd (own_upd (own_upd (fun _ => (0 : Int64)) ((0 : Int32)).toNatClampNeg (((pp.toInt64) <<< ((32 : Int32) &&& 0x3f).toInt64) ||| (xx.toInt64))) ((1 : Int32)).toNatClampNeg (((qq.toInt64) <<< ((32 : Int32) &&& 0x3f).toInt64) ||| (yy.toInt64))) ((2 : Int32)).toNatClampNeg (((rr.toInt64) <<< ((32 : Int32) &&& 0x3f).toInt64) ||| (zz.toInt64)))) ((2 : Int32)).toNatClampNeg).toUInt64 >>> ((32 : Int32) &&& 0x3f).toInt64.toUInt64).toInt64).toInt32) := rfl
        rw [hl82] at pre81
        obtain ⟨po2, h_po2⟩ : ∃ z, z = (((((srt (own_upd (own_upd (own_upd (fun _ => (0 : Int64)) ((0 : Int32)).toNatClampNeg (((pp.toInt64) <<< ((32 : Int32) &&& 0x3f).toInt64) ||| (xx.toInt64))) ((1 : Int32)).toNatClampNeg (((qq.toInt64) <<< ((32 : Int32) &&& 0x3f).toInt64) ||| (yy.toInt64))) ((2 : Int32)).toNatClampNeg (((rr.toInt64) <<< ((32 : Int32) &&& 0x3f).toInt64) ||| (zz.toInt64)))) ((2 : Int32)).toNatClampNeg).toUInt64 >>> ((32 : Int32) &&& 0x3f).toInt64.toUInt64).toInt64).toInt32) := ⟨_, rfl⟩
        rw [← h_po2] at pre81
        have pre83 : ∀ t, Steps p.tables e below (T79.setTop (mkF m 181 #[.val (.int p1), .val (.long q2), .second, .val (.int p3), .val (.int p4), .val (.int p5), .val (.int p6), .val (.int nn), .val (.int xx), .val (.int yy), .val (.int zz), .val (.int pp), .val (.int qq), .val (.int rr), .val (.ref b24), .val (.ref ob58_1), .val (.int po0), .val (.int po1), .val (.int po2), .unset, .unset, .unset] [(.int (0 : Int32)), (.ref ob58_1)])) t → Steps p.tables e below (s₁.setTop (entryFrame m #[(.int p1), (.long q2), (.int p3), (.int p4), (.int p5), (.int p6)] maxLocals)) t := fun t kt => by
          refine pre81 t ?_
          refine XS.aload X79.here hx rfl (hb hby at_178) rfl rfl ?_
          show Steps p.tables e below (T79.setTop (mkF m 180 #[.val (.int p1), .val (.long q2), .second, .val (.int p3), .val (.int p4), .val (.int p5), .val (.int p6), .val (.int nn), .val (.int xx), .val (.int yy), .val (.int zz), .val (.int pp), .val (.int qq), .val (.int rr), .val (.ref b24), .val (.ref ob58_1), .val (.int po0), .val (.int po1), .val (.int po2), .unset, .unset, .unset] [(.ref ob58_1)])) _
          refine XS.iconst X79.here hx rfl (hb hby at_180) ?_
          show Steps p.tables e below (T79.setTop (mkF m 181 #[.val (.int p1), .val (.long q2), .second, .val (.int p3), .val (.int p4), .val (.int p5), .val (.int p6), .val (.int nn), .val (.int xx), .val (.int yy), .val (.int zz), .val (.int pp), .val (.int qq), .val (.int rr), .val (.ref b24), .val (.ref ob58_1), .val (.int po0), .val (.int po1), .val (.int po2), .unset, .unset, .unset] [(.int (0 : Int32)), (.ref ob58_1)])) _
          exact kt
        obtain ⟨cq84, kq84, q84a, q84b, q84c⟩ := isOf hZ e79 Q58_1
        obtain ⟨_, _, ⟨T84, L84, k84, n84⟩, -, X84, ⟨Lc84, hQ84, l84, y84, z84⟩, st84⟩ := X79.virtualBack hx (y := (⟨"com/example/hit_span_ranker/hitspanranker/chain/HitChain", "word", "(I)I"⟩ : MethodName)) (z := (⟨"com/example/hit_span_ranker/hitspanranker/chain/HitChain", "word", "(I)I"⟩ : MethodName)) hown (mvT hZ (hw _ (mgE 72 rfl))) (mvT hZ (hw _ (mgE 73 rfl))) (notFace_of_selects (args := #[]) (mvT hZ (hw _ (mgE 75 rfl)))) (mvT hZ (hw _ (mgE 75 rfl))) (mvT hZ (hw _ (mgE 74 rfl))) (by decide) (backOf (W := 0) (rm14 l Z a0 hw [] ob58_1 (0 : Int32) ob58_2 (3 : Int32) (own_upd (own_upd (own_upd (fun _ => (0 : Int32)) ((0 : Int32)).toNatClampNeg (((srt (own_upd (own_upd (own_upd (fun _ => (0 : Int64)) ((0 : Int32)).toNatClampNeg (((pp.toInt64) <<< ((32 : Int32) &&& 0x3f).toInt64) ||| (xx.toInt64))) ((1 : Int32)).toNatClampNeg (((qq.toInt64) <<< ((32 : Int32) &&& 0x3f).toInt64) ||| (yy.toInt64))) ((2 : Int32)).toNatClampNeg (((rr.toInt64) <<< ((32 : Int32) &&& 0x3f).toInt64) ||| (zz.toInt64)))) ((0 : Int32)).toNatClampNeg).toInt32)) ((1 : Int32)).toNatClampNeg (((srt (own_upd (own_upd (own_upd (fun _ => (0 : Int64)) ((0 : Int32)).toNatClampNeg (((pp.toInt64) <<< ((32 : Int32) &&& 0x3f).toInt64) ||| (xx.toInt64))) ((1 : Int32)).toNatClampNeg (((qq.toInt64) <<< ((32 : Int32) &&& 0x3f).toInt64) ||| (yy.toInt64))) ((2 : Int32)).toNatClampNeg (((rr.toInt64) <<< ((32 : Int32) &&& 0x3f).toInt64) ||| (zz.toInt64)))) ((1 : Int32)).toNatClampNeg).toInt32)) ((2 : Int32)).toNatClampNeg (((srt (own_upd (own_upd (own_upd (fun _ => (0 : Int64)) ((0 : Int32)).toNatClampNeg (((pp.toInt64) <<< ((32 : Int32) &&& 0x3f).toInt64) ||| (xx.toInt64))) ((1 : Int32)).toNatClampNeg (((qq.toInt64) <<< ((32 : Int32) &&& 0x3f).toInt64) ||| (yy.toInt64))) ((2 : Int32)).toNatClampNeg (((rr.toInt64) <<< ((32 : Int32) &&& 0x3f).toInt64) ||| (zz.toInt64)))) ((2 : Int32)).toNatClampNeg).toInt32)) T58.heap n0 Z58 Q58_5 Q58_8 (⟨by decide, by decide⟩)) hZ (hw _ (mgE 76 rfl)) (hw _ (mgE 51 rfl)) (by decide) (by decide)) q84a q84c (g := (mkF m 181 #[.val (.int p1), .val (.long q2), .second, .val (.int p3), .val (.int p4), .val (.int p5), .val (.int p6), .val (.int nn), .val (.int xx), .val (.int yy), .val (.int zz), .val (.int pp), .val (.int qq), .val (.int rr), .val (.ref b24), .val (.ref ob58_1), .val (.int po0), .val (.int po1), .val (.int po2), .unset, .unset, .unset] [(.int (0 : Int32)), (.ref ob58_1)])) rfl (by rw [hml]; rfl) (Steps.refl _) (argsL := [(.int (0 : Int32))]) (rest := []) (lenOf pd__I_I rfl) rfl (by show 2 * 0 + _ ≤ _; exact Nat.le_of_eq rfl) (hb hby at_181) (fun _ _ => ⟨rfl, e79, (by decide : 5 + 0 ≤ _), (by decide : 28 + 0 ≤ _)⟩)
        dsimp only [Pt.U, Pt.locs, Pt.cells, Pt.slots] at X84 l84 y84 z84 st84 hQ84
        subst l84 y84 z84
        obtain ⟨rfl, N84q, e84⟩ := hQ84
        have pre85 : ∀ t, Steps p.tables e below (T84.setTop (mkF m 184 #[.val (.int p1), .val (.long q2), .second, .val (.int p3), .val (.int p4), .val (.int p5), .val (.int p6), .val (.int nn), .val (.int xx), .val (.int yy), .val (.int zz), .val (.int pp), .val (.int qq), .val (.int rr), .val (.ref b24), .val (.ref ob58_1), .val (.int po0), .val (.int po1), .val (.int po2), .unset, .unset, .unset] [(.int ((own_upd (own_upd (own_upd (fun _ => (0 : Int32)) ((0 : Int32)).toNatClampNeg (((srt (own_upd (own_upd (own_upd (fun _ => (0 : Int64)) ((0 : Int32)).toNatClampNeg (((pp.toInt64) <<< ((32 : Int32) &&& 0x3f).toInt64) ||| (xx.toInt64))) ((1 : Int32)).toNatClampNeg (((qq.toInt64) <<< ((32 : Int32) &&& 0x3f).toInt64) ||| (yy.toInt64))) ((2 : Int32)).toNatClampNeg (((rr.toInt64) <<< ((32 : Int32) &&& 0x3f).toInt64) ||| (zz.toInt64)))) ((0 : Int32)).toNatClampNeg).toInt32)) ((1 : Int32)).toNatClampNeg (((srt (own_upd (own_upd (own_upd (fun _ => (0 : Int64)) ((0 : Int32)).toNatClampNeg (((pp.toInt64) <<< ((32 : Int32) &&& 0x3f).toInt64) ||| (xx.toInt64))) ((1 : Int32)).toNatClampNeg (((qq.toInt64) <<< ((32 : Int32) &&& 0x3f).toInt64) ||| (yy.toInt64))) ((2 : Int32)).toNatClampNeg (((rr.toInt64) <<< ((32 : Int32) &&& 0x3f).toInt64) ||| (zz.toInt64)))) ((1 : Int32)).toNatClampNeg).toInt32)) ((2 : Int32)).toNatClampNeg (((srt (own_upd (own_upd (own_upd (fun _ => (0 : Int64)) ((0 : Int32)).toNatClampNeg (((pp.toInt64) <<< ((32 : Int32) &&& 0x3f).toInt64) ||| (xx.toInt64))) ((1 : Int32)).toNatClampNeg (((qq.toInt64) <<< ((32 : Int32) &&& 0x3f).toInt64) ||| (yy.toInt64))) ((2 : Int32)).toNatClampNeg (((rr.toInt64) <<< ((32 : Int32) &&& 0x3f).toInt64) ||| (zz.toInt64)))) ((2 : Int32)).toNatClampNeg).toInt32)) ((0 : Int32)).toNatClampNeg))])) t → Steps p.tables e below (s₁.setTop (entryFrame m #[(.int p1), (.long q2), (.int p3), (.int p4), (.int p5), (.int p6)] maxLocals)) t := fun t kt => pre83 t (st84.trans kt)
        have N84 := Fr.app N79 N84q
        have pre86 : ∀ t, Steps p.tables e below (T84.setTop (mkF m 186 #[.val (.int p1), .val (.long q2), .second, .val (.int p3), .val (.int p4), .val (.int p5), .val (.int p6), .val (.int nn), .val (.int xx), .val (.int yy), .val (.int zz), .val (.int pp), .val (.int qq), .val (.int rr), .val (.ref b24), .val (.ref ob58_1), .val (.int po0), .val (.int po1), .val (.int po2), .val (.int ((own_upd (own_upd (own_upd (fun _ => (0 : Int32)) ((0 : Int32)).toNatClampNeg (((srt (own_upd (own_upd (own_upd (fun _ => (0 : Int64)) ((0 : Int32)).toNatClampNeg (((pp.toInt64) <<< ((32 : Int32) &&& 0x3f).toInt64) ||| (xx.toInt64))) ((1 : Int32)).toNatClampNeg (((qq.toInt64) <<< ((32 : Int32) &&& 0x3f).toInt64) ||| (yy.toInt64))) ((2 : Int32)).toNatClampNeg (((rr.toInt64) <<< ((32 : Int32) &&& 0x3f).toInt64) ||| (zz.toInt64)))) ((0 : Int32)).toNatClampNeg).toInt32)) ((1 : Int32)).toNatClampNeg (((srt (own_upd (own_upd (own_upd (fun _ => (0 : Int64)) ((0 : Int32)).toNatClampNeg (((pp.toInt64) <<< ((32 : Int32) &&& 0x3f).toInt64) ||| (xx.toInt64))) ((1 : Int32)).toNatClampNeg (((qq.toInt64) <<< ((32 : Int32) &&& 0x3f).toInt64) ||| (yy.toInt64))) ((2 : Int32)).toNatClampNeg (((rr.toInt64) <<< ((32 : Int32) &&& 0x3f).toInt64) ||| (zz.toInt64)))) ((1 : Int32)).toNatClampNeg).toInt32)) ((2 : Int32)).toNatClampNeg (((srt (own_upd (own_upd (own_upd (fun _ => (0 : Int64)) ((0 : Int32)).toNatClampNeg (((pp.toInt64) <<< ((32 : Int32) &&& 0x3f).toInt64) ||| (xx.toInt64))) ((1 : Int32)).toNatClampNeg (((qq.toInt64) <<< ((32 : Int32) &&& 0x3f).toInt64) ||| (yy.toInt64))) ((2 : Int32)).toNatClampNeg (((rr.toInt64) <<< ((32 : Int32) &&& 0x3f).toInt64) ||| (zz.toInt64)))) ((2 : Int32)).toNatClampNeg).toInt32)) ((0 : Int32)).toNatClampNeg)), .unset, .unset] [])) t → Steps p.tables e below (s₁.setTop (entryFrame m #[(.int p1), (.long q2), (.int p3), (.int p4), (.int p5), (.int p6)] maxLocals)) t := fun t kt => by
          refine pre85 t ?_
          refine XS.istore X84.here hx rfl (hb hby at_184) rfl (l' := #[.val (.int p1), .val (.long q2), .second, .val (.int p3), .val (.int p4), .val (.int p5), .val (.int p6), .val (.int nn), .val (.int xx), .val (.int yy), .val (.int zz), .val (.int pp), .val (.int qq), .val (.int rr), .val (.ref b24), .val (.ref ob58_1), .val (.int po0), .val (.int po1), .val (.int po2), .val (.int ((own_upd (own_upd (own_upd (fun _ => (0 : Int32)) ((0 : Int32)).toNatClampNeg (((srt (own_upd (own_upd (own_upd (fun _ => (0 : Int64)) ((0 : Int32)).toNatClampNeg (((pp.toInt64) <<< ((32 : Int32) &&& 0x3f).toInt64) ||| (xx.toInt64))) ((1 : Int32)).toNatClampNeg (((qq.toInt64) <<< ((32 : Int32) &&& 0x3f).toInt64) ||| (yy.toInt64))) ((2 : Int32)).toNatClampNeg (((rr.toInt64) <<< ((32 : Int32) &&& 0x3f).toInt64) ||| (zz.toInt64)))) ((0 : Int32)).toNatClampNeg).toInt32)) ((1 : Int32)).toNatClampNeg (((srt (own_upd (own_upd (own_upd (fun _ => (0 : Int64)) ((0 : Int32)).toNatClampNeg (((pp.toInt64) <<< ((32 : Int32) &&& 0x3f).toInt64) ||| (xx.toInt64))) ((1 : Int32)).toNatClampNeg (((qq.toInt64) <<< ((32 : Int32) &&& 0x3f).toInt64) ||| (yy.toInt64))) ((2 : Int32)).toNatClampNeg (((rr.toInt64) <<< ((32 : Int32) &&& 0x3f).toInt64) ||| (zz.toInt64)))) ((1 : Int32)).toNatClampNeg).toInt32)) ((2 : Int32)).toNatClampNeg (((srt (own_upd (own_upd (own_upd (fun _ => (0 : Int64)) ((0 : Int32)).toNatClampNeg (((pp.toInt64) <<< ((32 : Int32) &&& 0x3f).toInt64) ||| (xx.toInt64))) ((1 : Int32)).toNatClampNeg (((qq.toInt64) <<< ((32 : Int32) &&& 0x3f).toInt64) ||| (yy.toInt64))) ((2 : Int32)).toNatClampNeg (((rr.toInt64) <<< ((32 : Int32) &&& 0x3f).toInt64) ||| (zz.toInt64)))) ((2 : Int32)).toNatClampNeg).toInt32)) ((0 : Int32)).toNatClampNeg)), .unset, .unset]) rfl ?_
          show Steps p.tables e below (T84.setTop (mkF m 186 #[.val (.int p1), .val (.long q2), .second, .val (.int p3), .val (.int p4), .val (.int p5), .val (.int p6), .val (.int nn), .val (.int xx), .val (.int yy), .val (.int zz), .val (.int pp), .val (.int qq), .val (.int rr), .val (.ref b24), .val (.ref ob58_1), .val (.int po0), .val (.int po1), .val (.int po2), .val (.int ((own_upd (own_upd (own_upd (fun _ => (0 : Int32)) ((0 : Int32)).toNatClampNeg (((srt (own_upd (own_upd (own_upd (fun _ => (0 : Int64)) ((0 : Int32)).toNatClampNeg (((pp.toInt64) <<< ((32 : Int32) &&& 0x3f).toInt64) ||| (xx.toInt64))) ((1 : Int32)).toNatClampNeg (((qq.toInt64) <<< ((32 : Int32) &&& 0x3f).toInt64) ||| (yy.toInt64))) ((2 : Int32)).toNatClampNeg (((rr.toInt64) <<< ((32 : Int32) &&& 0x3f).toInt64) ||| (zz.toInt64)))) ((0 : Int32)).toNatClampNeg).toInt32)) ((1 : Int32)).toNatClampNeg (((srt (own_upd (own_upd (own_upd (fun _ => (0 : Int64)) ((0 : Int32)).toNatClampNeg (((pp.toInt64) <<< ((32 : Int32) &&& 0x3f).toInt64) ||| (xx.toInt64))) ((1 : Int32)).toNatClampNeg (((qq.toInt64) <<< ((32 : Int32) &&& 0x3f).toInt64) ||| (yy.toInt64))) ((2 : Int32)).toNatClampNeg (((rr.toInt64) <<< ((32 : Int32) &&& 0x3f).toInt64) ||| (zz.toInt64)))) ((1 : Int32)).toNatClampNeg).toInt32)) ((2 : Int32)).toNatClampNeg (((srt (own_upd (own_upd (own_upd (fun _ => (0 : Int64)) ((0 : Int32)).toNatClampNeg (((pp.toInt64) <<< ((32 : Int32) &&& 0x3f).toInt64) ||| (xx.toInt64))) ((1 : Int32)).toNatClampNeg (((qq.toInt64) <<< ((32 : Int32) &&& 0x3f).toInt64) ||| (yy.toInt64))) ((2 : Int32)).toNatClampNeg (((rr.toInt64) <<< ((32 : Int32) &&& 0x3f).toInt64) ||| (zz.toInt64)))) ((2 : Int32)).toNatClampNeg).toInt32)) ((0 : Int32)).toNatClampNeg)), .unset, .unset] [])) _
          exact kt
        have hl87 : ((own_upd (own_upd (own_upd (fun _ => (0 : Int32)) ((0 : Int32)).toNatClampNeg (((srt (own_upd (own_upd (own_upd (fun _ => (0 : Int64)) ((0 : Int32)).toNatClampNeg (((pp.toInt64) <<< ((32 : Int32) &&& 0x3f).toInt64) ||| (xx.toInt64))) ((1 : Int32)).toNatClampNeg (((qq.toInt64) <<< ((32 : Int32) &&& 0x3f).toInt64) ||| (yy.toInt64))) ((2 : Int32)).toNatClampNeg (((rr.toInt64) <<< ((32 : Int32) &&& 0x3f).toInt64) ||| (zz.toInt64)))) ((0 : Int32)).toNatClampNeg).toInt32)) ((1 : Int32)).toNatClampNeg (((srt (own_upd (own_upd (own_upd (fun _ => (0 : Int64)) ((0 : Int32)).toNatClampNeg (((pp.toInt64) <<< ((32 : Int32) &&& 0x3f).toInt64) ||| (xx.toInt64))) ((1 : Int32)).toNatClampNeg (((qq.toInt64) <<< ((32 : Int32) &&& 0x3f).toInt64) ||| (yy.toInt64))) ((2 : Int32)).toNatClampNeg (((rr.toInt64) <<< ((32 : Int32) &&& 0x3f).toInt64) ||| (zz.toInt64)))) ((1 : Int32)).toNatClampNeg).toInt32)) ((2 : Int32)).toNatClampNeg (((srt (own_upd (own_upd (own_upd (fun _ => (0 : Int64)) ((0 : Int32)).toNatClampNeg (((pp.toInt64) <<< ((32 : Int32) &&& 0x3f).toInt64) ||| (xx.toInt64))) ((1 : Int32)).toNatClampNeg (((qq.toInt64) <<< ((32 : Int32) &&& 0x3f).toInt64) ||| (yy.toInt64))) ((2 : Int32)).toNatClampNeg (((rr.toInt64) <<< ((32 : Int32) &&& 0x3f).toInt64) ||| (zz.toInt64)))) ((2 : Int32)).toNatClampNeg).toInt32)) ((0 : Int32)).toNatClampNeg) = (((srt (own_upd (own_upd (own_upd (fun _ => (0 : Int64)) ((0 : Int32)).toNatClampNeg (((pp.toInt64) <<< ((32 : Int32) &&& 0x3f).toInt64) ||| (xx.toInt64))) ((1 : Int32)).toNatClampNeg (((qq.toInt64) <<< ((32 : Int32) &&& 0x3f).toInt64) ||| (yy.toInt64))) ((2 : Int32)).toNatClampNeg (((rr.toInt64) <<< ((32 : Int32) &&& 0x3f).toInt64) ||| (zz.toInt64)))) ((0 : Int32)).toNatClampNeg).toInt32) := rfl
        rw [hl87] at pre86
        obtain ⟨wo0, h_wo0⟩ : ∃ z, z = (((srt (own_upd (own_upd (own_upd (fun _ => (0 : Int64)) ((0 : Int32)).toNatClampNeg (((pp.toInt64) <<< ((32 : Int32) &&& 0x3f).toInt64) ||| (xx.toInt64))) ((1 : Int32)).toNatClampNeg (((qq.toInt64) <<< ((32 : Int32) &&& 0x3f).toInt64) ||| (yy.toInt64))) ((2 : Int32)).toNatClampNeg (((rr.toInt64) <<< ((32 : Int32) &&& 0x3f).toInt64) ||| (zz.toInt64)))) ((0 : Int32)).toNatClampNeg).toInt32) := ⟨_, rfl⟩
        rw [← h_wo0] at pre86
        have pre88 : ∀ t, Steps p.tables e below (T84.setTop (mkF m 189 #[.val (.int p1), .val (.long q2), .second, .val (.int p3), .val (.int p4), .val (.int p5), .val (.int p6), .val (.int nn), .val (.int xx), .val (.int yy), .val (.int zz), .val (.int pp), .val (.int qq), .val (.int rr), .val (.ref b24), .val (.ref ob58_1), .val (.int po0), .val (.int po1), .val (.int po2), .val (.int wo0), .unset, .unset] [(.int (1 : Int32)), (.ref ob58_1)])) t → Steps p.tables e below (s₁.setTop (entryFrame m #[(.int p1), (.long q2), (.int p3), (.int p4), (.int p5), (.int p6)] maxLocals)) t := fun t kt => by
          refine pre86 t ?_
          refine XS.aload X84.here hx rfl (hb hby at_186) rfl rfl ?_
          show Steps p.tables e below (T84.setTop (mkF m 188 #[.val (.int p1), .val (.long q2), .second, .val (.int p3), .val (.int p4), .val (.int p5), .val (.int p6), .val (.int nn), .val (.int xx), .val (.int yy), .val (.int zz), .val (.int pp), .val (.int qq), .val (.int rr), .val (.ref b24), .val (.ref ob58_1), .val (.int po0), .val (.int po1), .val (.int po2), .val (.int wo0), .unset, .unset] [(.ref ob58_1)])) _
          refine XS.iconst X84.here hx rfl (hb hby at_188) ?_
          show Steps p.tables e below (T84.setTop (mkF m 189 #[.val (.int p1), .val (.long q2), .second, .val (.int p3), .val (.int p4), .val (.int p5), .val (.int p6), .val (.int nn), .val (.int xx), .val (.int yy), .val (.int zz), .val (.int pp), .val (.int qq), .val (.int rr), .val (.ref b24), .val (.ref ob58_1), .val (.int po0), .val (.int po1), .val (.int po2), .val (.int wo0), .unset, .unset] [(.int (1 : Int32)), (.ref ob58_1)])) _
          exact kt
        obtain ⟨cq89, kq89, q89a, q89b, q89c⟩ := isOf hZ e84 Q58_1
        obtain ⟨_, _, ⟨T89, L89, k89, n89⟩, -, X89, ⟨Lc89, hQ89, l89, y89, z89⟩, st89⟩ := X84.virtualBack hx (y := (⟨"com/example/hit_span_ranker/hitspanranker/chain/HitChain", "word", "(I)I"⟩ : MethodName)) (z := (⟨"com/example/hit_span_ranker/hitspanranker/chain/HitChain", "word", "(I)I"⟩ : MethodName)) hown (mvT hZ (hw _ (mgE 72 rfl))) (mvT hZ (hw _ (mgE 73 rfl))) (notFace_of_selects (args := #[]) (mvT hZ (hw _ (mgE 75 rfl)))) (mvT hZ (hw _ (mgE 75 rfl))) (mvT hZ (hw _ (mgE 74 rfl))) (by decide) (backOf (W := 0) (rm14 l Z a0 hw [] ob58_1 (1 : Int32) ob58_2 (3 : Int32) (own_upd (own_upd (own_upd (fun _ => (0 : Int32)) ((0 : Int32)).toNatClampNeg (((srt (own_upd (own_upd (own_upd (fun _ => (0 : Int64)) ((0 : Int32)).toNatClampNeg (((pp.toInt64) <<< ((32 : Int32) &&& 0x3f).toInt64) ||| (xx.toInt64))) ((1 : Int32)).toNatClampNeg (((qq.toInt64) <<< ((32 : Int32) &&& 0x3f).toInt64) ||| (yy.toInt64))) ((2 : Int32)).toNatClampNeg (((rr.toInt64) <<< ((32 : Int32) &&& 0x3f).toInt64) ||| (zz.toInt64)))) ((0 : Int32)).toNatClampNeg).toInt32)) ((1 : Int32)).toNatClampNeg (((srt (own_upd (own_upd (own_upd (fun _ => (0 : Int64)) ((0 : Int32)).toNatClampNeg (((pp.toInt64) <<< ((32 : Int32) &&& 0x3f).toInt64) ||| (xx.toInt64))) ((1 : Int32)).toNatClampNeg (((qq.toInt64) <<< ((32 : Int32) &&& 0x3f).toInt64) ||| (yy.toInt64))) ((2 : Int32)).toNatClampNeg (((rr.toInt64) <<< ((32 : Int32) &&& 0x3f).toInt64) ||| (zz.toInt64)))) ((1 : Int32)).toNatClampNeg).toInt32)) ((2 : Int32)).toNatClampNeg (((srt (own_upd (own_upd (own_upd (fun _ => (0 : Int64)) ((0 : Int32)).toNatClampNeg (((pp.toInt64) <<< ((32 : Int32) &&& 0x3f).toInt64) ||| (xx.toInt64))) ((1 : Int32)).toNatClampNeg (((qq.toInt64) <<< ((32 : Int32) &&& 0x3f).toInt64) ||| (yy.toInt64))) ((2 : Int32)).toNatClampNeg (((rr.toInt64) <<< ((32 : Int32) &&& 0x3f).toInt64) ||| (zz.toInt64)))) ((2 : Int32)).toNatClampNeg).toInt32)) T58.heap n0 Z58 Q58_5 Q58_8 (⟨by decide, by decide⟩)) hZ (hw _ (mgE 76 rfl)) (hw _ (mgE 51 rfl)) (by decide) (by decide)) q89a q89c (g := (mkF m 189 #[.val (.int p1), .val (.long q2), .second, .val (.int p3), .val (.int p4), .val (.int p5), .val (.int p6), .val (.int nn), .val (.int xx), .val (.int yy), .val (.int zz), .val (.int pp), .val (.int qq), .val (.int rr), .val (.ref b24), .val (.ref ob58_1), .val (.int po0), .val (.int po1), .val (.int po2), .val (.int wo0), .unset, .unset] [(.int (1 : Int32)), (.ref ob58_1)])) rfl (by rw [hml]; rfl) (Steps.refl _) (argsL := [(.int (1 : Int32))]) (rest := []) (lenOf pd__I_I rfl) rfl (by show 2 * 0 + _ ≤ _; exact Nat.le_of_eq rfl) (hb hby at_189) (fun _ _ => ⟨rfl, e84, (by decide : 5 + 0 ≤ _), (by decide : 28 + 0 ≤ _)⟩)
        dsimp only [Pt.U, Pt.locs, Pt.cells, Pt.slots] at X89 l89 y89 z89 st89 hQ89
        subst l89 y89 z89
        obtain ⟨rfl, N89q, e89⟩ := hQ89
        have pre90 : ∀ t, Steps p.tables e below (T89.setTop (mkF m 192 #[.val (.int p1), .val (.long q2), .second, .val (.int p3), .val (.int p4), .val (.int p5), .val (.int p6), .val (.int nn), .val (.int xx), .val (.int yy), .val (.int zz), .val (.int pp), .val (.int qq), .val (.int rr), .val (.ref b24), .val (.ref ob58_1), .val (.int po0), .val (.int po1), .val (.int po2), .val (.int wo0), .unset, .unset] [(.int ((own_upd (own_upd (own_upd (fun _ => (0 : Int32)) ((0 : Int32)).toNatClampNeg (((srt (own_upd (own_upd (own_upd (fun _ => (0 : Int64)) ((0 : Int32)).toNatClampNeg (((pp.toInt64) <<< ((32 : Int32) &&& 0x3f).toInt64) ||| (xx.toInt64))) ((1 : Int32)).toNatClampNeg (((qq.toInt64) <<< ((32 : Int32) &&& 0x3f).toInt64) ||| (yy.toInt64))) ((2 : Int32)).toNatClampNeg (((rr.toInt64) <<< ((32 : Int32) &&& 0x3f).toInt64) ||| (zz.toInt64)))) ((0 : Int32)).toNatClampNeg).toInt32)) ((1 : Int32)).toNatClampNeg (((srt (own_upd (own_upd (own_upd (fun _ => (0 : Int64)) ((0 : Int32)).toNatClampNeg (((pp.toInt64) <<< ((32 : Int32) &&& 0x3f).toInt64) ||| (xx.toInt64))) ((1 : Int32)).toNatClampNeg (((qq.toInt64) <<< ((32 : Int32) &&& 0x3f).toInt64) ||| (yy.toInt64))) ((2 : Int32)).toNatClampNeg (((rr.toInt64) <<< ((32 : Int32) &&& 0x3f).toInt64) ||| (zz.toInt64)))) ((1 : Int32)).toNatClampNeg).toInt32)) ((2 : Int32)).toNatClampNeg (((srt (own_upd (own_upd (own_upd (fun _ => (0 : Int64)) ((0 : Int32)).toNatClampNeg (((pp.toInt64) <<< ((32 : Int32) &&& 0x3f).toInt64) ||| (xx.toInt64))) ((1 : Int32)).toNatClampNeg (((qq.toInt64) <<< ((32 : Int32) &&& 0x3f).toInt64) ||| (yy.toInt64))) ((2 : Int32)).toNatClampNeg (((rr.toInt64) <<< ((32 : Int32) &&& 0x3f).toInt64) ||| (zz.toInt64)))) ((2 : Int32)).toNatClampNeg).toInt32)) ((1 : Int32)).toNatClampNeg))])) t → Steps p.tables e below (s₁.setTop (entryFrame m #[(.int p1), (.long q2), (.int p3), (.int p4), (.int p5), (.int p6)] maxLocals)) t := fun t kt => pre88 t (st89.trans kt)
        have N89 := Fr.app N84 N89q
        have pre91 : ∀ t, Steps p.tables e below (T89.setTop (mkF m 194 #[.val (.int p1), .val (.long q2), .second, .val (.int p3), .val (.int p4), .val (.int p5), .val (.int p6), .val (.int nn), .val (.int xx), .val (.int yy), .val (.int zz), .val (.int pp), .val (.int qq), .val (.int rr), .val (.ref b24), .val (.ref ob58_1), .val (.int po0), .val (.int po1), .val (.int po2), .val (.int wo0), .val (.int ((own_upd (own_upd (own_upd (fun _ => (0 : Int32)) ((0 : Int32)).toNatClampNeg (((srt (own_upd (own_upd (own_upd (fun _ => (0 : Int64)) ((0 : Int32)).toNatClampNeg (((pp.toInt64) <<< ((32 : Int32) &&& 0x3f).toInt64) ||| (xx.toInt64))) ((1 : Int32)).toNatClampNeg (((qq.toInt64) <<< ((32 : Int32) &&& 0x3f).toInt64) ||| (yy.toInt64))) ((2 : Int32)).toNatClampNeg (((rr.toInt64) <<< ((32 : Int32) &&& 0x3f).toInt64) ||| (zz.toInt64)))) ((0 : Int32)).toNatClampNeg).toInt32)) ((1 : Int32)).toNatClampNeg (((srt (own_upd (own_upd (own_upd (fun _ => (0 : Int64)) ((0 : Int32)).toNatClampNeg (((pp.toInt64) <<< ((32 : Int32) &&& 0x3f).toInt64) ||| (xx.toInt64))) ((1 : Int32)).toNatClampNeg (((qq.toInt64) <<< ((32 : Int32) &&& 0x3f).toInt64) ||| (yy.toInt64))) ((2 : Int32)).toNatClampNeg (((rr.toInt64) <<< ((32 : Int32) &&& 0x3f).toInt64) ||| (zz.toInt64)))) ((1 : Int32)).toNatClampNeg).toInt32)) ((2 : Int32)).toNatClampNeg (((srt (own_upd (own_upd (own_upd (fun _ => (0 : Int64)) ((0 : Int32)).toNatClampNeg (((pp.toInt64) <<< ((32 : Int32) &&& 0x3f).toInt64) ||| (xx.toInt64))) ((1 : Int32)).toNatClampNeg (((qq.toInt64) <<< ((32 : Int32) &&& 0x3f).toInt64) ||| (yy.toInt64))) ((2 : Int32)).toNatClampNeg (((rr.toInt64) <<< ((32 : Int32) &&& 0x3f).toInt64) ||| (zz.toInt64)))) ((2 : Int32)).toNatClampNeg).toInt32)) ((1 : Int32)).toNatClampNeg)), .unset] [])) t → Steps p.tables e below (s₁.setTop (entryFrame m #[(.int p1), (.long q2), (.int p3), (.int p4), (.int p5), (.int p6)] maxLocals)) t := fun t kt => by
          refine pre90 t ?_
          refine XS.istore X89.here hx rfl (hb hby at_192) rfl (l' := #[.val (.int p1), .val (.long q2), .second, .val (.int p3), .val (.int p4), .val (.int p5), .val (.int p6), .val (.int nn), .val (.int xx), .val (.int yy), .val (.int zz), .val (.int pp), .val (.int qq), .val (.int rr), .val (.ref b24), .val (.ref ob58_1), .val (.int po0), .val (.int po1), .val (.int po2), .val (.int wo0), .val (.int ((own_upd (own_upd (own_upd (fun _ => (0 : Int32)) ((0 : Int32)).toNatClampNeg (((srt (own_upd (own_upd (own_upd (fun _ => (0 : Int64)) ((0 : Int32)).toNatClampNeg (((pp.toInt64) <<< ((32 : Int32) &&& 0x3f).toInt64) ||| (xx.toInt64))) ((1 : Int32)).toNatClampNeg (((qq.toInt64) <<< ((32 : Int32) &&& 0x3f).toInt64) ||| (yy.toInt64))) ((2 : Int32)).toNatClampNeg (((rr.toInt64) <<< ((32 : Int32) &&& 0x3f).toInt64) ||| (zz.toInt64)))) ((0 : Int32)).toNatClampNeg).toInt32)) ((1 : Int32)).toNatClampNeg (((srt (own_upd (own_upd (own_upd (fun _ => (0 : Int64)) ((0 : Int32)).toNatClampNeg (((pp.toInt64) <<< ((32 : Int32) &&& 0x3f).toInt64) ||| (xx.toInt64))) ((1 : Int32)).toNatClampNeg (((qq.toInt64) <<< ((32 : Int32) &&& 0x3f).toInt64) ||| (yy.toInt64))) ((2 : Int32)).toNatClampNeg (((rr.toInt64) <<< ((32 : Int32) &&& 0x3f).toInt64) ||| (zz.toInt64)))) ((1 : Int32)).toNatClampNeg).toInt32)) ((2 : Int32)).toNatClampNeg (((srt (own_upd (own_upd (own_upd (fun _ => (0 : Int64)) ((0 : Int32)).toNatClampNeg (((pp.toInt64) <<< ((32 : Int32) &&& 0x3f).toInt64) ||| (xx.toInt64))) ((1 : Int32)).toNatClampNeg (((qq.toInt64) <<< ((32 : Int32) &&& 0x3f).toInt64) ||| (yy.toInt64))) ((2 : Int32)).toNatClampNeg (((rr.toInt64) <<< ((32 : Int32) &&& 0x3f).toInt64) ||| (zz.toInt64)))) ((2 : Int32)).toNatClampNeg).toInt32)) ((1 : Int32)).toNatClampNeg)), .unset]) rfl ?_
          show Steps p.tables e below (T89.setTop (mkF m 194 #[.val (.int p1), .val (.long q2), .second, .val (.int p3), .val (.int p4), .val (.int p5), .val (.int p6), .val (.int nn), .val (.int xx), .val (.int yy), .val (.int zz), .val (.int pp), .val (.int qq), .val (.int rr), .val (.ref b24), .val (.ref ob58_1), .val (.int po0), .val (.int po1), .val (.int po2), .val (.int wo0), .val (.int ((own_upd (own_upd (own_upd (fun _ => (0 : Int32)) ((0 : Int32)).toNatClampNeg (((srt (own_upd (own_upd (own_upd (fun _ => (0 : Int64)) ((0 : Int32)).toNatClampNeg (((pp.toInt64) <<< ((32 : Int32) &&& 0x3f).toInt64) ||| (xx.toInt64))) ((1 : Int32)).toNatClampNeg (((qq.toInt64) <<< ((32 : Int32) &&& 0x3f).toInt64) ||| (yy.toInt64))) ((2 : Int32)).toNatClampNeg (((rr.toInt64) <<< ((32 : Int32) &&& 0x3f).toInt64) ||| (zz.toInt64)))) ((0 : Int32)).toNatClampNeg).toInt32)) ((1 : Int32)).toNatClampNeg (((srt (own_upd (own_upd (own_upd (fun _ => (0 : Int64)) ((0 : Int32)).toNatClampNeg (((pp.toInt64) <<< ((32 : Int32) &&& 0x3f).toInt64) ||| (xx.toInt64))) ((1 : Int32)).toNatClampNeg (((qq.toInt64) <<< ((32 : Int32) &&& 0x3f).toInt64) ||| (yy.toInt64))) ((2 : Int32)).toNatClampNeg (((rr.toInt64) <<< ((32 : Int32) &&& 0x3f).toInt64) ||| (zz.toInt64)))) ((1 : Int32)).toNatClampNeg).toInt32)) ((2 : Int32)).toNatClampNeg (((srt (own_upd (own_upd (own_upd (fun _ => (0 : Int64)) ((0 : Int32)).toNatClampNeg (((pp.toInt64) <<< ((32 : Int32) &&& 0x3f).toInt64) ||| (xx.toInt64))) ((1 : Int32)).toNatClampNeg (((qq.toInt64) <<< ((32 : Int32) &&& 0x3f).toInt64) ||| (yy.toInt64))) ((2 : Int32)).toNatClampNeg (((rr.toInt64) <<< ((32 : Int32) &&& 0x3f).toInt64) ||| (zz.toInt64)))) ((2 : Int32)).toNatClampNeg).toInt32)) ((1 : Int32)).toNatClampNeg)), .unset] [])) _
          exact kt
        have hl92 : ((own_upd (own_upd (own_upd (fun _ => (0 : Int32)) ((0 : Int32)).toNatClampNeg (((srt (own_upd (own_upd (own_upd (fun _ => (0 : Int64)) ((0 : Int32)).toNatClampNeg (((pp.toInt64) <<< ((32 : Int32) &&& 0x3f).toInt64) ||| (xx.toInt64))) ((1 : Int32)).toNatClampNeg (((qq.toInt64) <<< ((32 : Int32) &&& 0x3f).toInt64) ||| (yy.toInt64))) ((2 : Int32)).toNatClampNeg (((rr.toInt64) <<< ((32 : Int32) &&& 0x3f).toInt64) ||| (zz.toInt64)))) ((0 : Int32)).toNatClampNeg).toInt32)) ((1 : Int32)).toNatClampNeg (((srt (own_upd (own_upd (own_upd (fun _ => (0 : Int64)) ((0 : Int32)).toNatClampNeg (((pp.toInt64) <<< ((32 : Int32) &&& 0x3f).toInt64) ||| (xx.toInt64))) ((1 : Int32)).toNatClampNeg (((qq.toInt64) <<< ((32 : Int32) &&& 0x3f).toInt64) ||| (yy.toInt64))) ((2 : Int32)).toNatClampNeg (((rr.toInt64) <<< ((32 : Int32) &&& 0x3f).toInt64) ||| (zz.toInt64)))) ((1 : Int32)).toNatClampNeg).toInt32)) ((2 : Int32)).toNatClampNeg (((srt (own_upd (own_upd (own_upd (fun _ => (0 : Int64)) ((0 : Int32)).toNatClampNeg (((pp.toInt64) <<< ((32 : Int32) &&& 0x3f).toInt64) ||| (xx.toInt64))) ((1 : Int32)).toNatClampNeg (((qq.toInt64) <<< ((32 : Int32) &&& 0x3f).toInt64) ||| (yy.toInt64))) ((2 : Int32)).toNatClampNeg (((rr.toInt64) <<< ((32 : Int32) &&& 0x3f).toInt64) ||| (zz.toInt64)))) ((2 : Int32)).toNatClampNeg).toInt32)) ((1 : Int32)).toNatClampNeg) = (((srt (own_upd (own_upd (own_upd (fun _ => (0 : Int64)) ((0 : Int32)).toNatClampNeg (((pp.toInt64) <<< ((32 : Int32) &&& 0x3f).toInt64) ||| (xx.toInt64))) ((1 : Int32)).toNatClampNeg (((qq.toInt64) <<< ((32 : Int32) &&& 0x3f).toInt64) ||| (yy.toInt64))) ((2 : Int32)).toNatClampNeg (((rr.toInt64) <<< ((32 : Int32) &&& 0x3f).toInt64) ||| (zz.toInt64)))) ((1 : Int32)).toNatClampNeg).toInt32) := rfl
        rw [hl92] at pre91
        obtain ⟨wo1, h_wo1⟩ : ∃ z, z = (((srt (own_upd (own_upd (own_upd (fun _ => (0 : Int64)) ((0 : Int32)).toNatClampNeg (((pp.toInt64) <<< ((32 : Int32) &&& 0x3f).toInt64) ||| (xx.toInt64))) ((1 : Int32)).toNatClampNeg (((qq.toInt64) <<< ((32 : Int32) &&& 0x3f).toInt64) ||| (yy.toInt64))) ((2 : Int32)).toNatClampNeg (((rr.toInt64) <<< ((32 : Int32) &&& 0x3f).toInt64) ||| (zz.toInt64)))) ((1 : Int32)).toNatClampNeg).toInt32) := ⟨_, rfl⟩
        rw [← h_wo1] at pre91
        have pre93 : ∀ t, Steps p.tables e below (T89.setTop (mkF m 197 #[.val (.int p1), .val (.long q2), .second, .val (.int p3), .val (.int p4), .val (.int p5), .val (.int p6), .val (.int nn), .val (.int xx), .val (.int yy), .val (.int zz), .val (.int pp), .val (.int qq), .val (.int rr), .val (.ref b24), .val (.ref ob58_1), .val (.int po0), .val (.int po1), .val (.int po2), .val (.int wo0), .val (.int wo1), .unset] [(.int (2 : Int32)), (.ref ob58_1)])) t → Steps p.tables e below (s₁.setTop (entryFrame m #[(.int p1), (.long q2), (.int p3), (.int p4), (.int p5), (.int p6)] maxLocals)) t := fun t kt => by
          refine pre91 t ?_
          refine XS.aload X89.here hx rfl (hb hby at_194) rfl rfl ?_
          show Steps p.tables e below (T89.setTop (mkF m 196 #[.val (.int p1), .val (.long q2), .second, .val (.int p3), .val (.int p4), .val (.int p5), .val (.int p6), .val (.int nn), .val (.int xx), .val (.int yy), .val (.int zz), .val (.int pp), .val (.int qq), .val (.int rr), .val (.ref b24), .val (.ref ob58_1), .val (.int po0), .val (.int po1), .val (.int po2), .val (.int wo0), .val (.int wo1), .unset] [(.ref ob58_1)])) _
          refine XS.iconst X89.here hx rfl (hb hby at_196) ?_
          show Steps p.tables e below (T89.setTop (mkF m 197 #[.val (.int p1), .val (.long q2), .second, .val (.int p3), .val (.int p4), .val (.int p5), .val (.int p6), .val (.int nn), .val (.int xx), .val (.int yy), .val (.int zz), .val (.int pp), .val (.int qq), .val (.int rr), .val (.ref b24), .val (.ref ob58_1), .val (.int po0), .val (.int po1), .val (.int po2), .val (.int wo0), .val (.int wo1), .unset] [(.int (2 : Int32)), (.ref ob58_1)])) _
          exact kt
        obtain ⟨cq94, kq94, q94a, q94b, q94c⟩ := isOf hZ e89 Q58_1
        obtain ⟨_, _, ⟨T94, L94, k94, n94⟩, -, X94, ⟨Lc94, hQ94, l94, y94, z94⟩, st94⟩ := X89.virtualBack hx (y := (⟨"com/example/hit_span_ranker/hitspanranker/chain/HitChain", "word", "(I)I"⟩ : MethodName)) (z := (⟨"com/example/hit_span_ranker/hitspanranker/chain/HitChain", "word", "(I)I"⟩ : MethodName)) hown (mvT hZ (hw _ (mgE 72 rfl))) (mvT hZ (hw _ (mgE 73 rfl))) (notFace_of_selects (args := #[]) (mvT hZ (hw _ (mgE 75 rfl)))) (mvT hZ (hw _ (mgE 75 rfl))) (mvT hZ (hw _ (mgE 74 rfl))) (by decide) (backOf (W := 0) (rm14 l Z a0 hw [] ob58_1 (2 : Int32) ob58_2 (3 : Int32) (own_upd (own_upd (own_upd (fun _ => (0 : Int32)) ((0 : Int32)).toNatClampNeg (((srt (own_upd (own_upd (own_upd (fun _ => (0 : Int64)) ((0 : Int32)).toNatClampNeg (((pp.toInt64) <<< ((32 : Int32) &&& 0x3f).toInt64) ||| (xx.toInt64))) ((1 : Int32)).toNatClampNeg (((qq.toInt64) <<< ((32 : Int32) &&& 0x3f).toInt64) ||| (yy.toInt64))) ((2 : Int32)).toNatClampNeg (((rr.toInt64) <<< ((32 : Int32) &&& 0x3f).toInt64) ||| (zz.toInt64)))) ((0 : Int32)).toNatClampNeg).toInt32)) ((1 : Int32)).toNatClampNeg (((srt (own_upd (own_upd (own_upd (fun _ => (0 : Int64)) ((0 : Int32)).toNatClampNeg (((pp.toInt64) <<< ((32 : Int32) &&& 0x3f).toInt64) ||| (xx.toInt64))) ((1 : Int32)).toNatClampNeg (((qq.toInt64) <<< ((32 : Int32) &&& 0x3f).toInt64) ||| (yy.toInt64))) ((2 : Int32)).toNatClampNeg (((rr.toInt64) <<< ((32 : Int32) &&& 0x3f).toInt64) ||| (zz.toInt64)))) ((1 : Int32)).toNatClampNeg).toInt32)) ((2 : Int32)).toNatClampNeg (((srt (own_upd (own_upd (own_upd (fun _ => (0 : Int64)) ((0 : Int32)).toNatClampNeg (((pp.toInt64) <<< ((32 : Int32) &&& 0x3f).toInt64) ||| (xx.toInt64))) ((1 : Int32)).toNatClampNeg (((qq.toInt64) <<< ((32 : Int32) &&& 0x3f).toInt64) ||| (yy.toInt64))) ((2 : Int32)).toNatClampNeg (((rr.toInt64) <<< ((32 : Int32) &&& 0x3f).toInt64) ||| (zz.toInt64)))) ((2 : Int32)).toNatClampNeg).toInt32)) T58.heap n0 Z58 Q58_5 Q58_8 (⟨by decide, by decide⟩)) hZ (hw _ (mgE 76 rfl)) (hw _ (mgE 51 rfl)) (by decide) (by decide)) q94a q94c (g := (mkF m 197 #[.val (.int p1), .val (.long q2), .second, .val (.int p3), .val (.int p4), .val (.int p5), .val (.int p6), .val (.int nn), .val (.int xx), .val (.int yy), .val (.int zz), .val (.int pp), .val (.int qq), .val (.int rr), .val (.ref b24), .val (.ref ob58_1), .val (.int po0), .val (.int po1), .val (.int po2), .val (.int wo0), .val (.int wo1), .unset] [(.int (2 : Int32)), (.ref ob58_1)])) rfl (by rw [hml]; rfl) (Steps.refl _) (argsL := [(.int (2 : Int32))]) (rest := []) (lenOf pd__I_I rfl) rfl (by show 2 * 0 + _ ≤ _; exact Nat.le_of_eq rfl) (hb hby at_197) (fun _ _ => ⟨rfl, e89, (by decide : 5 + 0 ≤ _), (by decide : 28 + 0 ≤ _)⟩)
        dsimp only [Pt.U, Pt.locs, Pt.cells, Pt.slots] at X94 l94 y94 z94 st94 hQ94
        subst l94 y94 z94
        obtain ⟨rfl, N94q, e94⟩ := hQ94
        have pre95 : ∀ t, Steps p.tables e below (T94.setTop (mkF m 200 #[.val (.int p1), .val (.long q2), .second, .val (.int p3), .val (.int p4), .val (.int p5), .val (.int p6), .val (.int nn), .val (.int xx), .val (.int yy), .val (.int zz), .val (.int pp), .val (.int qq), .val (.int rr), .val (.ref b24), .val (.ref ob58_1), .val (.int po0), .val (.int po1), .val (.int po2), .val (.int wo0), .val (.int wo1), .unset] [(.int ((own_upd (own_upd (own_upd (fun _ => (0 : Int32)) ((0 : Int32)).toNatClampNeg (((srt (own_upd (own_upd (own_upd (fun _ => (0 : Int64)) ((0 : Int32)).toNatClampNeg (((pp.toInt64) <<< ((32 : Int32) &&& 0x3f).toInt64) ||| (xx.toInt64))) ((1 : Int32)).toNatClampNeg (((qq.toInt64) <<< ((32 : Int32) &&& 0x3f).toInt64) ||| (yy.toInt64))) ((2 : Int32)).toNatClampNeg (((rr.toInt64) <<< ((32 : Int32) &&& 0x3f).toInt64) ||| (zz.toInt64)))) ((0 : Int32)).toNatClampNeg).toInt32)) ((1 : Int32)).toNatClampNeg (((srt (own_upd (own_upd (own_upd (fun _ => (0 : Int64)) ((0 : Int32)).toNatClampNeg (((pp.toInt64) <<< ((32 : Int32) &&& 0x3f).toInt64) ||| (xx.toInt64))) ((1 : Int32)).toNatClampNeg (((qq.toInt64) <<< ((32 : Int32) &&& 0x3f).toInt64) ||| (yy.toInt64))) ((2 : Int32)).toNatClampNeg (((rr.toInt64) <<< ((32 : Int32) &&& 0x3f).toInt64) ||| (zz.toInt64)))) ((1 : Int32)).toNatClampNeg).toInt32)) ((2 : Int32)).toNatClampNeg (((srt (own_upd (own_upd (own_upd (fun _ => (0 : Int64)) ((0 : Int32)).toNatClampNeg (((pp.toInt64) <<< ((32 : Int32) &&& 0x3f).toInt64) ||| (xx.toInt64))) ((1 : Int32)).toNatClampNeg (((qq.toInt64) <<< ((32 : Int32) &&& 0x3f).toInt64) ||| (yy.toInt64))) ((2 : Int32)).toNatClampNeg (((rr.toInt64) <<< ((32 : Int32) &&& 0x3f).toInt64) ||| (zz.toInt64)))) ((2 : Int32)).toNatClampNeg).toInt32)) ((2 : Int32)).toNatClampNeg))])) t → Steps p.tables e below (s₁.setTop (entryFrame m #[(.int p1), (.long q2), (.int p3), (.int p4), (.int p5), (.int p6)] maxLocals)) t := fun t kt => pre93 t (st94.trans kt)
        have N94 := Fr.app N89 N94q
        have pre96 : ∀ t, Steps p.tables e below (T94.setTop (mkF m 202 #[.val (.int p1), .val (.long q2), .second, .val (.int p3), .val (.int p4), .val (.int p5), .val (.int p6), .val (.int nn), .val (.int xx), .val (.int yy), .val (.int zz), .val (.int pp), .val (.int qq), .val (.int rr), .val (.ref b24), .val (.ref ob58_1), .val (.int po0), .val (.int po1), .val (.int po2), .val (.int wo0), .val (.int wo1), .val (.int ((own_upd (own_upd (own_upd (fun _ => (0 : Int32)) ((0 : Int32)).toNatClampNeg (((srt (own_upd (own_upd (own_upd (fun _ => (0 : Int64)) ((0 : Int32)).toNatClampNeg (((pp.toInt64) <<< ((32 : Int32) &&& 0x3f).toInt64) ||| (xx.toInt64))) ((1 : Int32)).toNatClampNeg (((qq.toInt64) <<< ((32 : Int32) &&& 0x3f).toInt64) ||| (yy.toInt64))) ((2 : Int32)).toNatClampNeg (((rr.toInt64) <<< ((32 : Int32) &&& 0x3f).toInt64) ||| (zz.toInt64)))) ((0 : Int32)).toNatClampNeg).toInt32)) ((1 : Int32)).toNatClampNeg (((srt (own_upd (own_upd (own_upd (fun _ => (0 : Int64)) ((0 : Int32)).toNatClampNeg (((pp.toInt64) <<< ((32 : Int32) &&& 0x3f).toInt64) ||| (xx.toInt64))) ((1 : Int32)).toNatClampNeg (((qq.toInt64) <<< ((32 : Int32) &&& 0x3f).toInt64) ||| (yy.toInt64))) ((2 : Int32)).toNatClampNeg (((rr.toInt64) <<< ((32 : Int32) &&& 0x3f).toInt64) ||| (zz.toInt64)))) ((1 : Int32)).toNatClampNeg).toInt32)) ((2 : Int32)).toNatClampNeg (((srt (own_upd (own_upd (own_upd (fun _ => (0 : Int64)) ((0 : Int32)).toNatClampNeg (((pp.toInt64) <<< ((32 : Int32) &&& 0x3f).toInt64) ||| (xx.toInt64))) ((1 : Int32)).toNatClampNeg (((qq.toInt64) <<< ((32 : Int32) &&& 0x3f).toInt64) ||| (yy.toInt64))) ((2 : Int32)).toNatClampNeg (((rr.toInt64) <<< ((32 : Int32) &&& 0x3f).toInt64) ||| (zz.toInt64)))) ((2 : Int32)).toNatClampNeg).toInt32)) ((2 : Int32)).toNatClampNeg))] [])) t → Steps p.tables e below (s₁.setTop (entryFrame m #[(.int p1), (.long q2), (.int p3), (.int p4), (.int p5), (.int p6)] maxLocals)) t := fun t kt => by
          refine pre95 t ?_
          refine XS.istore X94.here hx rfl (hb hby at_200) rfl (l' := #[.val (.int p1), .val (.long q2), .second, .val (.int p3), .val (.int p4), .val (.int p5), .val (.int p6), .val (.int nn), .val (.int xx), .val (.int yy), .val (.int zz), .val (.int pp), .val (.int qq), .val (.int rr), .val (.ref b24), .val (.ref ob58_1), .val (.int po0), .val (.int po1), .val (.int po2), .val (.int wo0), .val (.int wo1), .val (.int ((own_upd (own_upd (own_upd (fun _ => (0 : Int32)) ((0 : Int32)).toNatClampNeg (((srt (own_upd (own_upd (own_upd (fun _ => (0 : Int64)) ((0 : Int32)).toNatClampNeg (((pp.toInt64) <<< ((32 : Int32) &&& 0x3f).toInt64) ||| (xx.toInt64))) ((1 : Int32)).toNatClampNeg (((qq.toInt64) <<< ((32 : Int32) &&& 0x3f).toInt64) ||| (yy.toInt64))) ((2 : Int32)).toNatClampNeg (((rr.toInt64) <<< ((32 : Int32) &&& 0x3f).toInt64) ||| (zz.toInt64)))) ((0 : Int32)).toNatClampNeg).toInt32)) ((1 : Int32)).toNatClampNeg (((srt (own_upd (own_upd (own_upd (fun _ => (0 : Int64)) ((0 : Int32)).toNatClampNeg (((pp.toInt64) <<< ((32 : Int32) &&& 0x3f).toInt64) ||| (xx.toInt64))) ((1 : Int32)).toNatClampNeg (((qq.toInt64) <<< ((32 : Int32) &&& 0x3f).toInt64) ||| (yy.toInt64))) ((2 : Int32)).toNatClampNeg (((rr.toInt64) <<< ((32 : Int32) &&& 0x3f).toInt64) ||| (zz.toInt64)))) ((1 : Int32)).toNatClampNeg).toInt32)) ((2 : Int32)).toNatClampNeg (((srt (own_upd (own_upd (own_upd (fun _ => (0 : Int64)) ((0 : Int32)).toNatClampNeg (((pp.toInt64) <<< ((32 : Int32) &&& 0x3f).toInt64) ||| (xx.toInt64))) ((1 : Int32)).toNatClampNeg (((qq.toInt64) <<< ((32 : Int32) &&& 0x3f).toInt64) ||| (yy.toInt64))) ((2 : Int32)).toNatClampNeg (((rr.toInt64) <<< ((32 : Int32) &&& 0x3f).toInt64) ||| (zz.toInt64)))) ((2 : Int32)).toNatClampNeg).toInt32)) ((2 : Int32)).toNatClampNeg))]) rfl ?_
          show Steps p.tables e below (T94.setTop (mkF m 202 #[.val (.int p1), .val (.long q2), .second, .val (.int p3), .val (.int p4), .val (.int p5), .val (.int p6), .val (.int nn), .val (.int xx), .val (.int yy), .val (.int zz), .val (.int pp), .val (.int qq), .val (.int rr), .val (.ref b24), .val (.ref ob58_1), .val (.int po0), .val (.int po1), .val (.int po2), .val (.int wo0), .val (.int wo1), .val (.int ((own_upd (own_upd (own_upd (fun _ => (0 : Int32)) ((0 : Int32)).toNatClampNeg (((srt (own_upd (own_upd (own_upd (fun _ => (0 : Int64)) ((0 : Int32)).toNatClampNeg (((pp.toInt64) <<< ((32 : Int32) &&& 0x3f).toInt64) ||| (xx.toInt64))) ((1 : Int32)).toNatClampNeg (((qq.toInt64) <<< ((32 : Int32) &&& 0x3f).toInt64) ||| (yy.toInt64))) ((2 : Int32)).toNatClampNeg (((rr.toInt64) <<< ((32 : Int32) &&& 0x3f).toInt64) ||| (zz.toInt64)))) ((0 : Int32)).toNatClampNeg).toInt32)) ((1 : Int32)).toNatClampNeg (((srt (own_upd (own_upd (own_upd (fun _ => (0 : Int64)) ((0 : Int32)).toNatClampNeg (((pp.toInt64) <<< ((32 : Int32) &&& 0x3f).toInt64) ||| (xx.toInt64))) ((1 : Int32)).toNatClampNeg (((qq.toInt64) <<< ((32 : Int32) &&& 0x3f).toInt64) ||| (yy.toInt64))) ((2 : Int32)).toNatClampNeg (((rr.toInt64) <<< ((32 : Int32) &&& 0x3f).toInt64) ||| (zz.toInt64)))) ((1 : Int32)).toNatClampNeg).toInt32)) ((2 : Int32)).toNatClampNeg (((srt (own_upd (own_upd (own_upd (fun _ => (0 : Int64)) ((0 : Int32)).toNatClampNeg (((pp.toInt64) <<< ((32 : Int32) &&& 0x3f).toInt64) ||| (xx.toInt64))) ((1 : Int32)).toNatClampNeg (((qq.toInt64) <<< ((32 : Int32) &&& 0x3f).toInt64) ||| (yy.toInt64))) ((2 : Int32)).toNatClampNeg (((rr.toInt64) <<< ((32 : Int32) &&& 0x3f).toInt64) ||| (zz.toInt64)))) ((2 : Int32)).toNatClampNeg).toInt32)) ((2 : Int32)).toNatClampNeg))] [])) _
          exact kt
        have hl97 : ((own_upd (own_upd (own_upd (fun _ => (0 : Int32)) ((0 : Int32)).toNatClampNeg (((srt (own_upd (own_upd (own_upd (fun _ => (0 : Int64)) ((0 : Int32)).toNatClampNeg (((pp.toInt64) <<< ((32 : Int32) &&& 0x3f).toInt64) ||| (xx.toInt64))) ((1 : Int32)).toNatClampNeg (((qq.toInt64) <<< ((32 : Int32) &&& 0x3f).toInt64) ||| (yy.toInt64))) ((2 : Int32)).toNatClampNeg (((rr.toInt64) <<< ((32 : Int32) &&& 0x3f).toInt64) ||| (zz.toInt64)))) ((0 : Int32)).toNatClampNeg).toInt32)) ((1 : Int32)).toNatClampNeg (((srt (own_upd (own_upd (own_upd (fun _ => (0 : Int64)) ((0 : Int32)).toNatClampNeg (((pp.toInt64) <<< ((32 : Int32) &&& 0x3f).toInt64) ||| (xx.toInt64))) ((1 : Int32)).toNatClampNeg (((qq.toInt64) <<< ((32 : Int32) &&& 0x3f).toInt64) ||| (yy.toInt64))) ((2 : Int32)).toNatClampNeg (((rr.toInt64) <<< ((32 : Int32) &&& 0x3f).toInt64) ||| (zz.toInt64)))) ((1 : Int32)).toNatClampNeg).toInt32)) ((2 : Int32)).toNatClampNeg (((srt (own_upd (own_upd (own_upd (fun _ => (0 : Int64)) ((0 : Int32)).toNatClampNeg (((pp.toInt64) <<< ((32 : Int32) &&& 0x3f).toInt64) ||| (xx.toInt64))) ((1 : Int32)).toNatClampNeg (((qq.toInt64) <<< ((32 : Int32) &&& 0x3f).toInt64) ||| (yy.toInt64))) ((2 : Int32)).toNatClampNeg (((rr.toInt64) <<< ((32 : Int32) &&& 0x3f).toInt64) ||| (zz.toInt64)))) ((2 : Int32)).toNatClampNeg).toInt32)) ((2 : Int32)).toNatClampNeg) = (((srt (own_upd (own_upd (own_upd (fun _ => (0 : Int64)) ((0 : Int32)).toNatClampNeg (((pp.toInt64) <<< ((32 : Int32) &&& 0x3f).toInt64) ||| (xx.toInt64))) ((1 : Int32)).toNatClampNeg (((qq.toInt64) <<< ((32 : Int32) &&& 0x3f).toInt64) ||| (yy.toInt64))) ((2 : Int32)).toNatClampNeg (((rr.toInt64) <<< ((32 : Int32) &&& 0x3f).toInt64) ||| (zz.toInt64)))) ((2 : Int32)).toNatClampNeg).toInt32) := rfl
        rw [hl97] at pre96
        obtain ⟨wo2, h_wo2⟩ : ∃ z, z = (((srt (own_upd (own_upd (own_upd (fun _ => (0 : Int64)) ((0 : Int32)).toNatClampNeg (((pp.toInt64) <<< ((32 : Int32) &&& 0x3f).toInt64) ||| (xx.toInt64))) ((1 : Int32)).toNatClampNeg (((qq.toInt64) <<< ((32 : Int32) &&& 0x3f).toInt64) ||| (yy.toInt64))) ((2 : Int32)).toNatClampNeg (((rr.toInt64) <<< ((32 : Int32) &&& 0x3f).toInt64) ||| (zz.toInt64)))) ((2 : Int32)).toNatClampNeg).toInt32) := ⟨_, rfl⟩
        rw [← h_wo2] at pre96
        have hc206 : po0 < po1 := by rw [h_po0, h_po1]; exact m3
        have hc213 : po1 < po2 := by rw [h_po1, h_po2]; exact m4
        have pre98 : ∀ t, Steps p.tables e below (T94.setTop (mkF m 232 #[.val (.int p1), .val (.long q2), .second, .val (.int p3), .val (.int p4), .val (.int p5), .val (.int p6), .val (.int nn), .val (.int xx), .val (.int yy), .val (.int zz), .val (.int pp), .val (.int qq), .val (.int rr), .val (.ref b24), .val (.ref ob58_1), .val (.int po0), .val (.int po1), .val (.int po2), .val (.int wo0), .val (.int wo1), .val (.int wo2)] [(.int rr), (.int zz), (.int qq), (.int yy), (.int pp), (.int xx), (.int wo0), (.int po0)])) t → Steps p.tables e below (s₁.setTop (entryFrame m #[(.int p1), (.long q2), (.int p3), (.int p4), (.int p5), (.int p6)] maxLocals)) t := fun t kt => by
          refine pre96 t ?_
          refine XS.iload X94.here hx rfl (hb hby at_202) rfl ?_
          show Steps p.tables e below (T94.setTop (mkF m 204 #[.val (.int p1), .val (.long q2), .second, .val (.int p3), .val (.int p4), .val (.int p5), .val (.int p6), .val (.int nn), .val (.int xx), .val (.int yy), .val (.int zz), .val (.int pp), .val (.int qq), .val (.int rr), .val (.ref b24), .val (.ref ob58_1), .val (.int po0), .val (.int po1), .val (.int po2), .val (.int wo0), .val (.int wo1), .val (.int wo2)] [(.int po0)])) _
          refine XS.iload X94.here hx rfl (hb hby at_204) rfl ?_
          show Steps p.tables e below (T94.setTop (mkF m 206 #[.val (.int p1), .val (.long q2), .second, .val (.int p3), .val (.int p4), .val (.int p5), .val (.int p6), .val (.int nn), .val (.int xx), .val (.int yy), .val (.int zz), .val (.int pp), .val (.int qq), .val (.int rr), .val (.ref b24), .val (.ref ob58_1), .val (.int po0), .val (.int po1), .val (.int po2), .val (.int wo0), .val (.int wo1), .val (.int wo2)] [(.int po1), (.int po0)])) _
          refine XS.icmpNo X94.here hx rfl (hb hby at_206) rfl (tlt hc206).2.1 ?_
          show Steps p.tables e below (T94.setTop (mkF m 209 #[.val (.int p1), .val (.long q2), .second, .val (.int p3), .val (.int p4), .val (.int p5), .val (.int p6), .val (.int nn), .val (.int xx), .val (.int yy), .val (.int zz), .val (.int pp), .val (.int qq), .val (.int rr), .val (.ref b24), .val (.ref ob58_1), .val (.int po0), .val (.int po1), .val (.int po2), .val (.int wo0), .val (.int wo1), .val (.int wo2)] [])) _
          refine XS.iload X94.here hx rfl (hb hby at_209) rfl ?_
          show Steps p.tables e below (T94.setTop (mkF m 211 #[.val (.int p1), .val (.long q2), .second, .val (.int p3), .val (.int p4), .val (.int p5), .val (.int p6), .val (.int nn), .val (.int xx), .val (.int yy), .val (.int zz), .val (.int pp), .val (.int qq), .val (.int rr), .val (.ref b24), .val (.ref ob58_1), .val (.int po0), .val (.int po1), .val (.int po2), .val (.int wo0), .val (.int wo1), .val (.int wo2)] [(.int po1)])) _
          refine XS.iload X94.here hx rfl (hb hby at_211) rfl ?_
          show Steps p.tables e below (T94.setTop (mkF m 213 #[.val (.int p1), .val (.long q2), .second, .val (.int p3), .val (.int p4), .val (.int p5), .val (.int p6), .val (.int nn), .val (.int xx), .val (.int yy), .val (.int zz), .val (.int pp), .val (.int qq), .val (.int rr), .val (.ref b24), .val (.ref ob58_1), .val (.int po0), .val (.int po1), .val (.int po2), .val (.int wo0), .val (.int wo1), .val (.int wo2)] [(.int po2), (.int po1)])) _
          refine XS.icmpNo X94.here hx rfl (hb hby at_213) rfl (tlt hc213).2.1 ?_
          show Steps p.tables e below (T94.setTop (mkF m 216 #[.val (.int p1), .val (.long q2), .second, .val (.int p3), .val (.int p4), .val (.int p5), .val (.int p6), .val (.int nn), .val (.int xx), .val (.int yy), .val (.int zz), .val (.int pp), .val (.int qq), .val (.int rr), .val (.ref b24), .val (.ref ob58_1), .val (.int po0), .val (.int po1), .val (.int po2), .val (.int wo0), .val (.int wo1), .val (.int wo2)] [])) _
          refine XS.iload X94.here hx rfl (hb hby at_216) rfl ?_
          show Steps p.tables e below (T94.setTop (mkF m 218 #[.val (.int p1), .val (.long q2), .second, .val (.int p3), .val (.int p4), .val (.int p5), .val (.int p6), .val (.int nn), .val (.int xx), .val (.int yy), .val (.int zz), .val (.int pp), .val (.int qq), .val (.int rr), .val (.ref b24), .val (.ref ob58_1), .val (.int po0), .val (.int po1), .val (.int po2), .val (.int wo0), .val (.int wo1), .val (.int wo2)] [(.int po0)])) _
          refine XS.iload X94.here hx rfl (hb hby at_218) rfl ?_
          show Steps p.tables e below (T94.setTop (mkF m 220 #[.val (.int p1), .val (.long q2), .second, .val (.int p3), .val (.int p4), .val (.int p5), .val (.int p6), .val (.int nn), .val (.int xx), .val (.int yy), .val (.int zz), .val (.int pp), .val (.int qq), .val (.int rr), .val (.ref b24), .val (.ref ob58_1), .val (.int po0), .val (.int po1), .val (.int po2), .val (.int wo0), .val (.int wo1), .val (.int wo2)] [(.int wo0), (.int po0)])) _
          refine XS.iload X94.here hx rfl (hb hby at_220) rfl ?_
          show Steps p.tables e below (T94.setTop (mkF m 222 #[.val (.int p1), .val (.long q2), .second, .val (.int p3), .val (.int p4), .val (.int p5), .val (.int p6), .val (.int nn), .val (.int xx), .val (.int yy), .val (.int zz), .val (.int pp), .val (.int qq), .val (.int rr), .val (.ref b24), .val (.ref ob58_1), .val (.int po0), .val (.int po1), .val (.int po2), .val (.int wo0), .val (.int wo1), .val (.int wo2)] [(.int xx), (.int wo0), (.int po0)])) _
          refine XS.iload X94.here hx rfl (hb hby at_222) rfl ?_
          show Steps p.tables e below (T94.setTop (mkF m 224 #[.val (.int p1), .val (.long q2), .second, .val (.int p3), .val (.int p4), .val (.int p5), .val (.int p6), .val (.int nn), .val (.int xx), .val (.int yy), .val (.int zz), .val (.int pp), .val (.int qq), .val (.int rr), .val (.ref b24), .val (.ref ob58_1), .val (.int po0), .val (.int po1), .val (.int po2), .val (.int wo0), .val (.int wo1), .val (.int wo2)] [(.int pp), (.int xx), (.int wo0), (.int po0)])) _
          refine XS.iload X94.here hx rfl (hb hby at_224) rfl ?_
          show Steps p.tables e below (T94.setTop (mkF m 226 #[.val (.int p1), .val (.long q2), .second, .val (.int p3), .val (.int p4), .val (.int p5), .val (.int p6), .val (.int nn), .val (.int xx), .val (.int yy), .val (.int zz), .val (.int pp), .val (.int qq), .val (.int rr), .val (.ref b24), .val (.ref ob58_1), .val (.int po0), .val (.int po1), .val (.int po2), .val (.int wo0), .val (.int wo1), .val (.int wo2)] [(.int yy), (.int pp), (.int xx), (.int wo0), (.int po0)])) _
          refine XS.iload X94.here hx rfl (hb hby at_226) rfl ?_
          show Steps p.tables e below (T94.setTop (mkF m 228 #[.val (.int p1), .val (.long q2), .second, .val (.int p3), .val (.int p4), .val (.int p5), .val (.int p6), .val (.int nn), .val (.int xx), .val (.int yy), .val (.int zz), .val (.int pp), .val (.int qq), .val (.int rr), .val (.ref b24), .val (.ref ob58_1), .val (.int po0), .val (.int po1), .val (.int po2), .val (.int wo0), .val (.int wo1), .val (.int wo2)] [(.int qq), (.int yy), (.int pp), (.int xx), (.int wo0), (.int po0)])) _
          refine XS.iload X94.here hx rfl (hb hby at_228) rfl ?_
          show Steps p.tables e below (T94.setTop (mkF m 230 #[.val (.int p1), .val (.long q2), .second, .val (.int p3), .val (.int p4), .val (.int p5), .val (.int p6), .val (.int nn), .val (.int xx), .val (.int yy), .val (.int zz), .val (.int pp), .val (.int qq), .val (.int rr), .val (.ref b24), .val (.ref ob58_1), .val (.int po0), .val (.int po1), .val (.int po2), .val (.int wo0), .val (.int wo1), .val (.int wo2)] [(.int zz), (.int qq), (.int yy), (.int pp), (.int xx), (.int wo0), (.int po0)])) _
          refine XS.iload X94.here hx rfl (hb hby at_230) rfl ?_
          show Steps p.tables e below (T94.setTop (mkF m 232 #[.val (.int p1), .val (.long q2), .second, .val (.int p3), .val (.int p4), .val (.int p5), .val (.int p6), .val (.int nn), .val (.int xx), .val (.int yy), .val (.int zz), .val (.int pp), .val (.int qq), .val (.int rr), .val (.ref b24), .val (.ref ob58_1), .val (.int po0), .val (.int po1), .val (.int po2), .val (.int wo0), .val (.int wo1), .val (.int wo2)] [(.int rr), (.int zz), (.int qq), (.int yy), (.int pp), (.int xx), (.int wo0), (.int po0)])) _
          exact kt
        obtain ⟨_, _, ⟨T99, L99, k99, n99⟩, -, X99, ⟨Lc99, hQ99, l99, y99, z99⟩, st99⟩ := Jvm.LawKit.callS X94 hx (y := (⟨"com/example/hit_span_ranker/hitspanranker/chain/BuilderAddPinLaw", "isAdded", "(IIIIIIII)Z"⟩ : MethodName)) hown (mvT hZ (hw _ (mgE 77 rfl))) (mvT hZ (hw _ (mgE 78 rfl))) (mvT hZ (hw _ (mgE 79 rfl))) (mvT hZ (hw _ (mgE 80 rfl))) (by decide) (backOf (W := 0) (rm15 l Z a0 hw [] po0 wo0 xx pp yy qq zz rr T58.heap n0 Z58 ) hZ (hw _ (mgE 80 rfl)) (hw _ (mgE 79 rfl)) (by decide) (by decide)) (g := (mkF m 232 #[.val (.int p1), .val (.long q2), .second, .val (.int p3), .val (.int p4), .val (.int p5), .val (.int p6), .val (.int nn), .val (.int xx), .val (.int yy), .val (.int zz), .val (.int pp), .val (.int qq), .val (.int rr), .val (.ref b24), .val (.ref ob58_1), .val (.int po0), .val (.int po1), .val (.int po2), .val (.int wo0), .val (.int wo1), .val (.int wo2)] [(.int rr), (.int zz), (.int qq), (.int yy), (.int pp), (.int xx), (.int wo0), (.int po0)])) rfl (by rw [hml]; rfl) (argsL := [(.int po0), (.int wo0), (.int xx), (.int pp), (.int yy), (.int qq), (.int zz), (.int rr)]) (rest := []) (lenOf pd__IIIIIIII_Z rfl) rfl (by show 2 * 0 + _ ≤ _; exact Nat.le_of_eq rfl) (hb hby at_232) (fun _ _ => ⟨rfl, e94, (by decide : 5 + 0 ≤ _), (by decide : 28 + 0 ≤ _)⟩)
        dsimp only [Pt.U, Pt.locs, Pt.cells, Pt.slots] at X99 l99 y99 z99 st99 hQ99
        subst l99 y99 z99
        obtain ⟨rfl, N99q, e99⟩ := hQ99
        have pre100 : ∀ t, Steps p.tables e below (T99.setTop (mkF m 235 #[.val (.int p1), .val (.long q2), .second, .val (.int p3), .val (.int p4), .val (.int p5), .val (.int p6), .val (.int nn), .val (.int xx), .val (.int yy), .val (.int zz), .val (.int pp), .val (.int qq), .val (.int rr), .val (.ref b24), .val (.ref ob58_1), .val (.int po0), .val (.int po1), .val (.int po2), .val (.int wo0), .val (.int wo1), .val (.int wo2)] [(.int (r15 po0 wo0 xx pp yy qq zz rr))])) t → Steps p.tables e below (s₁.setTop (entryFrame m #[(.int p1), (.long q2), (.int p3), (.int p4), (.int p5), (.int p6)] maxLocals)) t := fun t kt => pre98 t (st99 t kt)
        have N99 := Fr.app N94 N99q
        have hc235 : ¬ ((r15 po0 wo0 xx pp yy qq zz rr) = (0 : Int32)) := by rw [h_po0, h_wo0]; exact m5
        have pre101 : ∀ t, Steps p.tables e below (T99.setTop (mkF m 254 #[.val (.int p1), .val (.long q2), .second, .val (.int p3), .val (.int p4), .val (.int p5), .val (.int p6), .val (.int nn), .val (.int xx), .val (.int yy), .val (.int zz), .val (.int pp), .val (.int qq), .val (.int rr), .val (.ref b24), .val (.ref ob58_1), .val (.int po0), .val (.int po1), .val (.int po2), .val (.int wo0), .val (.int wo1), .val (.int wo2)] [(.int rr), (.int zz), (.int qq), (.int yy), (.int pp), (.int xx), (.int wo1), (.int po1)])) t → Steps p.tables e below (s₁.setTop (entryFrame m #[(.int p1), (.long q2), (.int p3), (.int p4), (.int p5), (.int p6)] maxLocals)) t := fun t kt => by
          refine pre100 t ?_
          refine XS.ifNo X99.here hx rfl (hb hby at_235) rfl ((if0 _ _).trans (feq hc235).1) ?_
          show Steps p.tables e below (T99.setTop (mkF m 238 #[.val (.int p1), .val (.long q2), .second, .val (.int p3), .val (.int p4), .val (.int p5), .val (.int p6), .val (.int nn), .val (.int xx), .val (.int yy), .val (.int zz), .val (.int pp), .val (.int qq), .val (.int rr), .val (.ref b24), .val (.ref ob58_1), .val (.int po0), .val (.int po1), .val (.int po2), .val (.int wo0), .val (.int wo1), .val (.int wo2)] [])) _
          refine XS.iload X99.here hx rfl (hb hby at_238) rfl ?_
          show Steps p.tables e below (T99.setTop (mkF m 240 #[.val (.int p1), .val (.long q2), .second, .val (.int p3), .val (.int p4), .val (.int p5), .val (.int p6), .val (.int nn), .val (.int xx), .val (.int yy), .val (.int zz), .val (.int pp), .val (.int qq), .val (.int rr), .val (.ref b24), .val (.ref ob58_1), .val (.int po0), .val (.int po1), .val (.int po2), .val (.int wo0), .val (.int wo1), .val (.int wo2)] [(.int po1)])) _
          refine XS.iload X99.here hx rfl (hb hby at_240) rfl ?_
          show Steps p.tables e below (T99.setTop (mkF m 242 #[.val (.int p1), .val (.long q2), .second, .val (.int p3), .val (.int p4), .val (.int p5), .val (.int p6), .val (.int nn), .val (.int xx), .val (.int yy), .val (.int zz), .val (.int pp), .val (.int qq), .val (.int rr), .val (.ref b24), .val (.ref ob58_1), .val (.int po0), .val (.int po1), .val (.int po2), .val (.int wo0), .val (.int wo1), .val (.int wo2)] [(.int wo1), (.int po1)])) _
          refine XS.iload X99.here hx rfl (hb hby at_242) rfl ?_
          show Steps p.tables e below (T99.setTop (mkF m 244 #[.val (.int p1), .val (.long q2), .second, .val (.int p3), .val (.int p4), .val (.int p5), .val (.int p6), .val (.int nn), .val (.int xx), .val (.int yy), .val (.int zz), .val (.int pp), .val (.int qq), .val (.int rr), .val (.ref b24), .val (.ref ob58_1), .val (.int po0), .val (.int po1), .val (.int po2), .val (.int wo0), .val (.int wo1), .val (.int wo2)] [(.int xx), (.int wo1), (.int po1)])) _
          refine XS.iload X99.here hx rfl (hb hby at_244) rfl ?_
          show Steps p.tables e below (T99.setTop (mkF m 246 #[.val (.int p1), .val (.long q2), .second, .val (.int p3), .val (.int p4), .val (.int p5), .val (.int p6), .val (.int nn), .val (.int xx), .val (.int yy), .val (.int zz), .val (.int pp), .val (.int qq), .val (.int rr), .val (.ref b24), .val (.ref ob58_1), .val (.int po0), .val (.int po1), .val (.int po2), .val (.int wo0), .val (.int wo1), .val (.int wo2)] [(.int pp), (.int xx), (.int wo1), (.int po1)])) _
          refine XS.iload X99.here hx rfl (hb hby at_246) rfl ?_
          show Steps p.tables e below (T99.setTop (mkF m 248 #[.val (.int p1), .val (.long q2), .second, .val (.int p3), .val (.int p4), .val (.int p5), .val (.int p6), .val (.int nn), .val (.int xx), .val (.int yy), .val (.int zz), .val (.int pp), .val (.int qq), .val (.int rr), .val (.ref b24), .val (.ref ob58_1), .val (.int po0), .val (.int po1), .val (.int po2), .val (.int wo0), .val (.int wo1), .val (.int wo2)] [(.int yy), (.int pp), (.int xx), (.int wo1), (.int po1)])) _
          refine XS.iload X99.here hx rfl (hb hby at_248) rfl ?_
          show Steps p.tables e below (T99.setTop (mkF m 250 #[.val (.int p1), .val (.long q2), .second, .val (.int p3), .val (.int p4), .val (.int p5), .val (.int p6), .val (.int nn), .val (.int xx), .val (.int yy), .val (.int zz), .val (.int pp), .val (.int qq), .val (.int rr), .val (.ref b24), .val (.ref ob58_1), .val (.int po0), .val (.int po1), .val (.int po2), .val (.int wo0), .val (.int wo1), .val (.int wo2)] [(.int qq), (.int yy), (.int pp), (.int xx), (.int wo1), (.int po1)])) _
          refine XS.iload X99.here hx rfl (hb hby at_250) rfl ?_
          show Steps p.tables e below (T99.setTop (mkF m 252 #[.val (.int p1), .val (.long q2), .second, .val (.int p3), .val (.int p4), .val (.int p5), .val (.int p6), .val (.int nn), .val (.int xx), .val (.int yy), .val (.int zz), .val (.int pp), .val (.int qq), .val (.int rr), .val (.ref b24), .val (.ref ob58_1), .val (.int po0), .val (.int po1), .val (.int po2), .val (.int wo0), .val (.int wo1), .val (.int wo2)] [(.int zz), (.int qq), (.int yy), (.int pp), (.int xx), (.int wo1), (.int po1)])) _
          refine XS.iload X99.here hx rfl (hb hby at_252) rfl ?_
          show Steps p.tables e below (T99.setTop (mkF m 254 #[.val (.int p1), .val (.long q2), .second, .val (.int p3), .val (.int p4), .val (.int p5), .val (.int p6), .val (.int nn), .val (.int xx), .val (.int yy), .val (.int zz), .val (.int pp), .val (.int qq), .val (.int rr), .val (.ref b24), .val (.ref ob58_1), .val (.int po0), .val (.int po1), .val (.int po2), .val (.int wo0), .val (.int wo1), .val (.int wo2)] [(.int rr), (.int zz), (.int qq), (.int yy), (.int pp), (.int xx), (.int wo1), (.int po1)])) _
          exact kt
        obtain ⟨_, _, ⟨T102, L102, k102, n102⟩, -, X102, ⟨Lc102, hQ102, l102, y102, z102⟩, st102⟩ := Jvm.LawKit.callS X99 hx (y := (⟨"com/example/hit_span_ranker/hitspanranker/chain/BuilderAddPinLaw", "isAdded", "(IIIIIIII)Z"⟩ : MethodName)) hown (mvT hZ (hw _ (mgE 77 rfl))) (mvT hZ (hw _ (mgE 78 rfl))) (mvT hZ (hw _ (mgE 79 rfl))) (mvT hZ (hw _ (mgE 80 rfl))) (by decide) (backOf (W := 0) (rm15 l Z a0 hw [] po1 wo1 xx pp yy qq zz rr T58.heap n0 Z58 ) hZ (hw _ (mgE 80 rfl)) (hw _ (mgE 79 rfl)) (by decide) (by decide)) (g := (mkF m 254 #[.val (.int p1), .val (.long q2), .second, .val (.int p3), .val (.int p4), .val (.int p5), .val (.int p6), .val (.int nn), .val (.int xx), .val (.int yy), .val (.int zz), .val (.int pp), .val (.int qq), .val (.int rr), .val (.ref b24), .val (.ref ob58_1), .val (.int po0), .val (.int po1), .val (.int po2), .val (.int wo0), .val (.int wo1), .val (.int wo2)] [(.int rr), (.int zz), (.int qq), (.int yy), (.int pp), (.int xx), (.int wo1), (.int po1)])) rfl (by rw [hml]; rfl) (argsL := [(.int po1), (.int wo1), (.int xx), (.int pp), (.int yy), (.int qq), (.int zz), (.int rr)]) (rest := []) (lenOf pd__IIIIIIII_Z rfl) rfl (by show 2 * 0 + _ ≤ _; exact Nat.le_of_eq rfl) (hb hby at_254) (fun _ _ => ⟨rfl, e99, (by decide : 5 + 0 ≤ _), (by decide : 28 + 0 ≤ _)⟩)
        dsimp only [Pt.U, Pt.locs, Pt.cells, Pt.slots] at X102 l102 y102 z102 st102 hQ102
        subst l102 y102 z102
        obtain ⟨rfl, N102q, e102⟩ := hQ102
        have pre103 : ∀ t, Steps p.tables e below (T102.setTop (mkF m 257 #[.val (.int p1), .val (.long q2), .second, .val (.int p3), .val (.int p4), .val (.int p5), .val (.int p6), .val (.int nn), .val (.int xx), .val (.int yy), .val (.int zz), .val (.int pp), .val (.int qq), .val (.int rr), .val (.ref b24), .val (.ref ob58_1), .val (.int po0), .val (.int po1), .val (.int po2), .val (.int wo0), .val (.int wo1), .val (.int wo2)] [(.int (r15 po1 wo1 xx pp yy qq zz rr))])) t → Steps p.tables e below (s₁.setTop (entryFrame m #[(.int p1), (.long q2), (.int p3), (.int p4), (.int p5), (.int p6)] maxLocals)) t := fun t kt => pre101 t (st102 t kt)
        have N102 := Fr.app N99 N102q
        have hc257 : ¬ ((r15 po1 wo1 xx pp yy qq zz rr) = (0 : Int32)) := by rw [h_po1, h_wo1]; exact m6
        have pre104 : ∀ t, Steps p.tables e below (T102.setTop (mkF m 276 #[.val (.int p1), .val (.long q2), .second, .val (.int p3), .val (.int p4), .val (.int p5), .val (.int p6), .val (.int nn), .val (.int xx), .val (.int yy), .val (.int zz), .val (.int pp), .val (.int qq), .val (.int rr), .val (.ref b24), .val (.ref ob58_1), .val (.int po0), .val (.int po1), .val (.int po2), .val (.int wo0), .val (.int wo1), .val (.int wo2)] [(.int rr), (.int zz), (.int qq), (.int yy), (.int pp), (.int xx), (.int wo2), (.int po2)])) t → Steps p.tables e below (s₁.setTop (entryFrame m #[(.int p1), (.long q2), (.int p3), (.int p4), (.int p5), (.int p6)] maxLocals)) t := fun t kt => by
          refine pre103 t ?_
          refine XS.ifNo X102.here hx rfl (hb hby at_257) rfl ((if0 _ _).trans (feq hc257).1) ?_
          show Steps p.tables e below (T102.setTop (mkF m 260 #[.val (.int p1), .val (.long q2), .second, .val (.int p3), .val (.int p4), .val (.int p5), .val (.int p6), .val (.int nn), .val (.int xx), .val (.int yy), .val (.int zz), .val (.int pp), .val (.int qq), .val (.int rr), .val (.ref b24), .val (.ref ob58_1), .val (.int po0), .val (.int po1), .val (.int po2), .val (.int wo0), .val (.int wo1), .val (.int wo2)] [])) _
          refine XS.iload X102.here hx rfl (hb hby at_260) rfl ?_
          show Steps p.tables e below (T102.setTop (mkF m 262 #[.val (.int p1), .val (.long q2), .second, .val (.int p3), .val (.int p4), .val (.int p5), .val (.int p6), .val (.int nn), .val (.int xx), .val (.int yy), .val (.int zz), .val (.int pp), .val (.int qq), .val (.int rr), .val (.ref b24), .val (.ref ob58_1), .val (.int po0), .val (.int po1), .val (.int po2), .val (.int wo0), .val (.int wo1), .val (.int wo2)] [(.int po2)])) _
          refine XS.iload X102.here hx rfl (hb hby at_262) rfl ?_
          show Steps p.tables e below (T102.setTop (mkF m 264 #[.val (.int p1), .val (.long q2), .second, .val (.int p3), .val (.int p4), .val (.int p5), .val (.int p6), .val (.int nn), .val (.int xx), .val (.int yy), .val (.int zz), .val (.int pp), .val (.int qq), .val (.int rr), .val (.ref b24), .val (.ref ob58_1), .val (.int po0), .val (.int po1), .val (.int po2), .val (.int wo0), .val (.int wo1), .val (.int wo2)] [(.int wo2), (.int po2)])) _
          refine XS.iload X102.here hx rfl (hb hby at_264) rfl ?_
          show Steps p.tables e below (T102.setTop (mkF m 266 #[.val (.int p1), .val (.long q2), .second, .val (.int p3), .val (.int p4), .val (.int p5), .val (.int p6), .val (.int nn), .val (.int xx), .val (.int yy), .val (.int zz), .val (.int pp), .val (.int qq), .val (.int rr), .val (.ref b24), .val (.ref ob58_1), .val (.int po0), .val (.int po1), .val (.int po2), .val (.int wo0), .val (.int wo1), .val (.int wo2)] [(.int xx), (.int wo2), (.int po2)])) _
          refine XS.iload X102.here hx rfl (hb hby at_266) rfl ?_
          show Steps p.tables e below (T102.setTop (mkF m 268 #[.val (.int p1), .val (.long q2), .second, .val (.int p3), .val (.int p4), .val (.int p5), .val (.int p6), .val (.int nn), .val (.int xx), .val (.int yy), .val (.int zz), .val (.int pp), .val (.int qq), .val (.int rr), .val (.ref b24), .val (.ref ob58_1), .val (.int po0), .val (.int po1), .val (.int po2), .val (.int wo0), .val (.int wo1), .val (.int wo2)] [(.int pp), (.int xx), (.int wo2), (.int po2)])) _
          refine XS.iload X102.here hx rfl (hb hby at_268) rfl ?_
          show Steps p.tables e below (T102.setTop (mkF m 270 #[.val (.int p1), .val (.long q2), .second, .val (.int p3), .val (.int p4), .val (.int p5), .val (.int p6), .val (.int nn), .val (.int xx), .val (.int yy), .val (.int zz), .val (.int pp), .val (.int qq), .val (.int rr), .val (.ref b24), .val (.ref ob58_1), .val (.int po0), .val (.int po1), .val (.int po2), .val (.int wo0), .val (.int wo1), .val (.int wo2)] [(.int yy), (.int pp), (.int xx), (.int wo2), (.int po2)])) _
          refine XS.iload X102.here hx rfl (hb hby at_270) rfl ?_
          show Steps p.tables e below (T102.setTop (mkF m 272 #[.val (.int p1), .val (.long q2), .second, .val (.int p3), .val (.int p4), .val (.int p5), .val (.int p6), .val (.int nn), .val (.int xx), .val (.int yy), .val (.int zz), .val (.int pp), .val (.int qq), .val (.int rr), .val (.ref b24), .val (.ref ob58_1), .val (.int po0), .val (.int po1), .val (.int po2), .val (.int wo0), .val (.int wo1), .val (.int wo2)] [(.int qq), (.int yy), (.int pp), (.int xx), (.int wo2), (.int po2)])) _
          refine XS.iload X102.here hx rfl (hb hby at_272) rfl ?_
          show Steps p.tables e below (T102.setTop (mkF m 274 #[.val (.int p1), .val (.long q2), .second, .val (.int p3), .val (.int p4), .val (.int p5), .val (.int p6), .val (.int nn), .val (.int xx), .val (.int yy), .val (.int zz), .val (.int pp), .val (.int qq), .val (.int rr), .val (.ref b24), .val (.ref ob58_1), .val (.int po0), .val (.int po1), .val (.int po2), .val (.int wo0), .val (.int wo1), .val (.int wo2)] [(.int zz), (.int qq), (.int yy), (.int pp), (.int xx), (.int wo2), (.int po2)])) _
          refine XS.iload X102.here hx rfl (hb hby at_274) rfl ?_
          show Steps p.tables e below (T102.setTop (mkF m 276 #[.val (.int p1), .val (.long q2), .second, .val (.int p3), .val (.int p4), .val (.int p5), .val (.int p6), .val (.int nn), .val (.int xx), .val (.int yy), .val (.int zz), .val (.int pp), .val (.int qq), .val (.int rr), .val (.ref b24), .val (.ref ob58_1), .val (.int po0), .val (.int po1), .val (.int po2), .val (.int wo0), .val (.int wo1), .val (.int wo2)] [(.int rr), (.int zz), (.int qq), (.int yy), (.int pp), (.int xx), (.int wo2), (.int po2)])) _
          exact kt
        obtain ⟨_, _, ⟨T105, L105, k105, n105⟩, -, X105, ⟨Lc105, hQ105, l105, y105, z105⟩, st105⟩ := Jvm.LawKit.callS X102 hx (y := (⟨"com/example/hit_span_ranker/hitspanranker/chain/BuilderAddPinLaw", "isAdded", "(IIIIIIII)Z"⟩ : MethodName)) hown (mvT hZ (hw _ (mgE 77 rfl))) (mvT hZ (hw _ (mgE 78 rfl))) (mvT hZ (hw _ (mgE 79 rfl))) (mvT hZ (hw _ (mgE 80 rfl))) (by decide) (backOf (W := 0) (rm15 l Z a0 hw [] po2 wo2 xx pp yy qq zz rr T58.heap n0 Z58 ) hZ (hw _ (mgE 80 rfl)) (hw _ (mgE 79 rfl)) (by decide) (by decide)) (g := (mkF m 276 #[.val (.int p1), .val (.long q2), .second, .val (.int p3), .val (.int p4), .val (.int p5), .val (.int p6), .val (.int nn), .val (.int xx), .val (.int yy), .val (.int zz), .val (.int pp), .val (.int qq), .val (.int rr), .val (.ref b24), .val (.ref ob58_1), .val (.int po0), .val (.int po1), .val (.int po2), .val (.int wo0), .val (.int wo1), .val (.int wo2)] [(.int rr), (.int zz), (.int qq), (.int yy), (.int pp), (.int xx), (.int wo2), (.int po2)])) rfl (by rw [hml]; rfl) (argsL := [(.int po2), (.int wo2), (.int xx), (.int pp), (.int yy), (.int qq), (.int zz), (.int rr)]) (rest := []) (lenOf pd__IIIIIIII_Z rfl) rfl (by show 2 * 0 + _ ≤ _; exact Nat.le_of_eq rfl) (hb hby at_276) (fun _ _ => ⟨rfl, e102, (by decide : 5 + 0 ≤ _), (by decide : 28 + 0 ≤ _)⟩)
        dsimp only [Pt.U, Pt.locs, Pt.cells, Pt.slots] at X105 l105 y105 z105 st105 hQ105
        subst l105 y105 z105
        obtain ⟨rfl, N105q, e105⟩ := hQ105
        have pre106 : ∀ t, Steps p.tables e below (T105.setTop (mkF m 279 #[.val (.int p1), .val (.long q2), .second, .val (.int p3), .val (.int p4), .val (.int p5), .val (.int p6), .val (.int nn), .val (.int xx), .val (.int yy), .val (.int zz), .val (.int pp), .val (.int qq), .val (.int rr), .val (.ref b24), .val (.ref ob58_1), .val (.int po0), .val (.int po1), .val (.int po2), .val (.int wo0), .val (.int wo1), .val (.int wo2)] [(.int (r15 po2 wo2 xx pp yy qq zz rr))])) t → Steps p.tables e below (s₁.setTop (entryFrame m #[(.int p1), (.long q2), (.int p3), (.int p4), (.int p5), (.int p6)] maxLocals)) t := fun t kt => pre104 t (st105 t kt)
        have N105 := Fr.app N102 N105q
        have hc279 : ¬ ((r15 po2 wo2 xx pp yy qq zz rr) = (0 : Int32)) := by rw [h_po2, h_wo2]; exact m7
        have pre107 : ∀ t, Steps p.tables e below (T105.setTop (mkF m 287 #[.val (.int p1), .val (.long q2), .second, .val (.int p3), .val (.int p4), .val (.int p5), .val (.int p6), .val (.int nn), .val (.int xx), .val (.int yy), .val (.int zz), .val (.int pp), .val (.int qq), .val (.int rr), .val (.ref b24), .val (.ref ob58_1), .val (.int po0), .val (.int po1), .val (.int po2), .val (.int wo0), .val (.int wo1), .val (.int wo2)] [(.int (1 : Int32))])) t → Steps p.tables e below (s₁.setTop (entryFrame m #[(.int p1), (.long q2), (.int p3), (.int p4), (.int p5), (.int p6)] maxLocals)) t := fun t kt => by
          refine pre106 t ?_
          refine XS.ifNo X105.here hx rfl (hb hby at_279) rfl ((if0 _ _).trans (feq hc279).1) ?_
          show Steps p.tables e below (T105.setTop (mkF m 282 #[.val (.int p1), .val (.long q2), .second, .val (.int p3), .val (.int p4), .val (.int p5), .val (.int p6), .val (.int nn), .val (.int xx), .val (.int yy), .val (.int zz), .val (.int pp), .val (.int qq), .val (.int rr), .val (.ref b24), .val (.ref ob58_1), .val (.int po0), .val (.int po1), .val (.int po2), .val (.int wo0), .val (.int wo1), .val (.int wo2)] [])) _
          refine XS.iconst X105.here hx rfl (hb hby at_282) ?_
          show Steps p.tables e below (T105.setTop (mkF m 283 #[.val (.int p1), .val (.long q2), .second, .val (.int p3), .val (.int p4), .val (.int p5), .val (.int p6), .val (.int nn), .val (.int xx), .val (.int yy), .val (.int zz), .val (.int pp), .val (.int qq), .val (.int rr), .val (.ref b24), .val (.ref ob58_1), .val (.int po0), .val (.int po1), .val (.int po2), .val (.int wo0), .val (.int wo1), .val (.int wo2)] [(.int (1 : Int32))])) _
          refine XS.goto X105.here hx rfl (pc0 := 283) (pc' := 287) rfl (hb hby at_283) (by decide) (by decide) ?_
          show Steps p.tables e below (T105.setTop (mkF m 287 #[.val (.int p1), .val (.long q2), .second, .val (.int p3), .val (.int p4), .val (.int p5), .val (.int p6), .val (.int nn), .val (.int xx), .val (.int yy), .val (.int zz), .val (.int pp), .val (.int qq), .val (.int rr), .val (.ref b24), .val (.ref ob58_1), .val (.int po0), .val (.int po1), .val (.int po2), .val (.int wo0), .val (.int wo1), .val (.int wo2)] [(.int (1 : Int32))])) _
          exact kt
        obtain ⟨fs, hr, hrun, hended, hW, hsame⟩ := X105.leave (v := some (.int (1 : Int32))) (fun h => by rw [Bd.returns] at h; cases h)
        refine ⟨_, _, pre107 _ ?_, hrun, hended, _, _, rfl, ?_, ⟨_, rfl⟩, hW, hsame.mono (by decide) (by decide)⟩
        · exact retN X105 hx (t := .boolean) Bd.returns (by simp) (hb hby at_287) hr
        · show Q0 Z p1 q2 p3 p4 p5 p6 h0 n0 _ T105.heap _
          rw [e105]
          exact ⟨rfl, N105⟩
set_option maxRecDepth 65536 in
set_option maxHeartbeats 40000000 in
theorem comes_1 {Post : Tables → Env → Array Value → State → Outcome → State → Prop} (hpost : ∀ tb e args s v u, (limb_1_1.after args s (.returned v) u = true ∧ limb_1_2.after args s (.returned v) u = true ∧ True) → FrameEnd s (.returned v) u (Jvm.fieldLocs frame_1_writes args s ++ Jvm.arrayLocs frame_1_arrays args s ++ Jvm.staticLocs frame_1_statics s) 24 128 → Post tb e args s (.returned v) u) :
    ArmFor flags0 classFile x code maxLocals ret World_1 tables_1 room_1 Calls_1 rest_1 Pre_1 Post := by
  intro l hfl _ _ p e ha hc hk s m args below hf hA hF happ hP
  obtain ⟨hcalls, hrest, hpre⟩ := hP
  obtain ⟨-, -, -, hnamed, -, -, -, hat⟩ := (Spec.applies_iff hf).mp happ
  obtain ⟨hg, hn⟩ := and_e (Cond.before_iff.mp (show (Jvm.Cond.and given_1 narrow_1).before args s = true from hpre))
  obtain ⟨g1, g2⟩ := and_e hg
  obtain ⟨g3, g4⟩ := and_e g2
  obtain ⟨g5, g6⟩ := and_e g4
  obtain ⟨g7, g8⟩ := and_e g6
  obtain ⟨g9, g10⟩ := and_e g8
  obtain ⟨g11, g12⟩ := and_e g10
  obtain ⟨w0, w1, w2, w3, w4, w5, rfl⟩ : ∃ w0 w1 w2 w3 w4 w5 : Value, args = #[w0, w1, w2, w3, w4, w5] := by
    have hs : args.size = 6 := by simpa [Cond.value, given_1] using g1
    obtain ⟨L⟩ := args
    match L, hs with
    | [w0, w1, w2, w3, w4, w5], _ => exact ⟨w0, w1, w2, w3, w4, w5, rfl⟩
  have hw := fun d (hd : d ∈ tables_1) => atoms_spec (ws := Jvm.Cond.code x code maxLocals ret :: tables_1) hat d (List.mem_cons_of_mem _ hd)
  have hfit : Fit s := fun {y c} hc i hi => by
    obtain ⟨ha, rfl⟩ := Array.getElem?_eq_some_iff.mp hc
    have q := List.all_eq_true.mp ((Array.all_eq_true_iff_forall_mem.mp hF) _ (Array.getElem_mem ha)) i (List.mem_range.mpr hi)
    simpa [Array.getElem?_eq_getElem hi] using q
  obtain ⟨i0, ei0⟩ := is_v g3
  obtain rfl : w0 = (.int i0) := Option.some.inj ei0
  obtain ⟨i1, ei1⟩ := isL_v g5
  obtain rfl : w1 = (.long i1) := Option.some.inj ei1
  obtain ⟨i2, ei2⟩ := is_v g7
  obtain rfl : w2 = (.int i2) := Option.some.inj ei2
  obtain ⟨i3, ei3⟩ := is_v g9
  obtain rfl : w3 = (.int i3) := Option.some.inj ei3
  obtain ⟨i4, ei4⟩ := is_v g11
  obtain rfl : w4 = (.int i4) := Option.some.inj ei4
  obtain ⟨i5, ei5⟩ := is_v g12
  obtain rfl : w5 = (.int i5) := Option.some.inj ei5
  obtain ⟨n, o, h1, h2, h3, _, L, rfl, ⟨rfl, N⟩, hq⟩ := rm0 l s _ hw tables_1 i0 i1 i2 i3 i4 i5 s.heap s.heap.size (Nat.le_refl _)  p e ha hc hk s m _ below hf ((Spec.applies_iff_loose hf).mp happ).1 ⟨rfl, State.Warmed39.refl s, rfl⟩ trivial
  refine ⟨n, _, h1, h2, h3, hpost _ _ _ _ _ _ ⟨Cond.after_iff.mpr rfl, Cond.after_iff.mpr (eq_i res_at (Term.int_eval (1)) rfl), trivial⟩ ⟨hq.1, hq.2.1, (hq.2.2.sift fun y hy => Or.inr (N y hy)).mono (by decide) (by decide)⟩⟩
theorem main_1_1 : Claimed_1_1 := comes_1 fun _ _ _ _ _ _ h hF => ⟨h.1, hF⟩
theorem main_1_2 : Claimed_1_2 := comes_1 fun _ _ _ _ _ _ h hF => ⟨h.2.1, hF⟩
end Jvm.Pilot.@@N@@
namespace Jvm.Pilot.@@N@@
open Jvm Jvm.ClassFile Sem Op Lib Jvm.Free Jvm.Stand Jvm.Pilot.@@N@@.Jvm.D
/-! MADE BY PROGRAM (witnessworld.py) out of the Statement's table words and the real class files: 15 classes; the members and pool entries that the words name. The judged class is class 1, her method 2. -/
namespace start1
open Jvm.ClassFile
def u (s : String) : CpInfo := .utf8 (stringToUtf16 s)
/-- a pool by its gaps: so many unusable entries, then the entry; so many at the end -/
def gap : Nat → List CpInfo → List CpInfo
  | 0, r => r
  | n + 1, r => .unusable :: gap n r
def poolList (es : List (Nat × CpInfo)) (last : Nat) : List CpInfo := es.foldr (fun e r => gap e.1 (e.2 :: r)) (gap last [])
def pool (es : List (Nat × CpInfo)) (last : Nat) : Array CpInfo := ⟨poolList es last⟩
def fileOf (pool : Array CpInfo) (this : Nat) (attrs : Array Attribute := #[]) (ms : Array MethodInfo := #[]) (fl : Nat := 33) (sup : Nat := 0) (ifs : Array Nat := #[]) (fds : Array FieldInfo := #[]) : ClassFile where
  minorVersion := 0
  majorVersion := 65
  constantPool := pool
  accessFlags := fl
  thisClass := this
  superClass := sup
  interfaces := ifs
  fields := fds
  methods := ms
  attributes := attrs
def plain (name : String) (sup : Option ClassId) : Class where
  name := name
  kind := .ordinary
  loader := none
  accessFlags := 33
  super := sup
  interfaces := #[]
  cf := none
  fields := #[]
  methods := #[]
  instanceTypes := #[]
  staticTypes := #[]
  resolved := #[]
  callSites := []
  init := .initialized
  statics := none
  mirror := none

def pool0 : Array CpInfo := pool [(5, u "<init>"), (0, u "()V"), (1, .class_ 10), (1, u "java/lang/Object")] 113

def k0c0 : Code := { maxStack := 0, maxLocals := 1, code := object_method_1_code, exceptionTable := #[], attributes := #[] }
def k0m0 : Method := { name := "<init>", desc := "()V", sig := { parameters := [], returnType := none }, accessFlags := 1, code := some k0c0 }
/-- java/lang/Object -/
def k0 : Class := { plain "java/lang/Object" none with
  accessFlags := 33
  interfaces := #[]
  cf := some (fileOf pool0 8 #[] #[{ accessFlags := 1, nameIndex := 5, descriptorIndex := 6, attributes := #[] }] 33 0 #[] #[])
  fields := #[]
  methods := #[k0m0]
  instanceTypes := #[]
  staticTypes := #[]
  resolved := Array.replicate 124 none
  statics := none }

def pool1 : Array CpInfo := pool [(2, .class_ 4), (1, u "java/lang/Object"), (0, u "<init>"), (0, u "()V"), (0, .integer 2147483647), (0, .methodref 9 10), (0, .class_ 11), (0, .nameAndType 12 13), (0, u "java/lang/Math"), (0, u "max"), (0, u "(II)I"), (0, .class_ 15), (0, u "com/example/hit_span_ranker/hitspanranker/chain/HitChain$Builder"), (0, .methodref 14 17), (0, .nameAndType 5 18), (0, u "(I)V"), (0, .methodref 14 20), (0, .nameAndType 21 22), (0, u "add"), (0, u "(II)V"), (0, .methodref 14 24), (0, .nameAndType 25 26), (0, u "build"), (0, u "()Lcom/example/hit_span_ranker/hitspanranker/chain/HitChain;"), (0, .methodref 28 29), (0, .class_ 30), (0, .nameAndType 31 32), (0, u "com/example/hit_span_ranker/hitspanranker/chain/HitChain"), (0, u "size"), (0, u "()I"), (0, .methodref 28 34), (0, .nameAndType 35 36), (0, u "position"), (0, u "(I)I"), (0, .methodref 28 38), (0, .nameAndType 39 36), (0, u "word"), (0, .methodref 41 42), (0, .class_ 43), (0, .nameAndType 44 45), (0, u "com/example/hit_span_ranker/hitspanranker/chain/BuilderAddPinLaw"), (0, u "isAdded"), (0, u "(IIIIIIII)Z"), (3, u "law"), (0, u "(IJIIII)Z")] 4

def k1m0 : Method := { name := "<init>", desc := "()V", sig := { parameters := [], returnType := none }, accessFlags := 2, code := none }
def k1c1 : Code := { maxStack := 2, maxLocals := 8, code := method_2_code, exceptionTable := #[], attributes := #[] }
def k1m1 : Method := { name := "isAdded", desc := "(IIIIIIII)Z", sig := { parameters := [.int, .int, .int, .int, .int, .int, .int, .int], returnType := some .boolean }, accessFlags := 10, code := some k1c1 }
def k1c2 : Code := { maxStack := 8, maxLocals := 22, code := code, exceptionTable := #[], attributes := #[] }
def k1m2 : Method := { name := "law", desc := "(IJIIII)Z", sig := { parameters := [.int, .long, .int, .int, .int, .int], returnType := some .boolean }, accessFlags := 9, code := some k1c2 }
/-- com/example/hit_span_ranker/hitspanranker/chain/BuilderAddPinLaw -/
def k1 : Class := { plain "com/example/hit_span_ranker/hitspanranker/chain/BuilderAddPinLaw" (some 0) with
  accessFlags := 49
  interfaces := #[]
  cf := some (fileOf pool1 41 #[] #[{ accessFlags := 2, nameIndex := 5, descriptorIndex := 6, attributes := #[] }, { accessFlags := 10, nameIndex := 44, descriptorIndex := 45, attributes := #[] }, { accessFlags := 9, nameIndex := 49, descriptorIndex := 50, attributes := #[] }] 49 2 #[] #[])
  fields := #[]
  methods := #[k1m0, k1m1, k1m2]
  instanceTypes := #[]
  staticTypes := #[]
  resolved := Array.replicate 55 none
  statics := none }

def pool2 : Array CpInfo := pool [(1, .class_ 2), (0, u "java/lang/Math"), (1, .class_ 6), (1, u "java/lang/Object"), (0, u "<init>"), (0, u "()V"), (89, .class_ 100), (1, u "java/lang/Math$RandomNumberGeneratorHolder"), (71, u "negativeZeroFloatBits"), (0, u "J"), (2, u "negativeZeroDoubleBits"), (21, u "max"), (46, u "$assertionsDisabled"), (0, u "Z"), (88, u "(II)I"), (2, u "twoToTheDoubleScaleDown"), (0, u "D"), (4, u "twoToTheDoubleScaleUp"), (9, u "E"), (3, u "PI"), (2, u "TAU"), (2, u "DEGREES_TO_RADIANS"), (0, u "RADIANS_TO_DEGREES")] 94

def k2m0 : Method := { name := "<init>", desc := "()V", sig := { parameters := [], returnType := none }, accessFlags := 2, code := none }
def k2c1 : Code := { maxStack := 2, maxLocals := 2, code := jdk_29_method_65_code, exceptionTable := #[], attributes := #[] }
def k2m1 : Method := { name := "max", desc := "(II)I", sig := { parameters := [.int, .int], returnType := some .int }, accessFlags := 9, code := some k2c1 }
/-- java/lang/Math -/
def k2 : Class := { plain "java/lang/Math" (some 0) with
  accessFlags := 49
  interfaces := #[]
  cf := some (fileOf pool2 1 #[.nestMembers #[98]] #[{ accessFlags := 2, nameIndex := 7, descriptorIndex := 8, attributes := #[] }, { accessFlags := 9, nameIndex := 198, descriptorIndex := 335, attributes := #[] }] 49 4 #[] #[{ accessFlags := 25, nameIndex := 354, descriptorIndex := 339, attributes := #[] }, { accessFlags := 25, nameIndex := 358, descriptorIndex := 339, attributes := #[] }, { accessFlags := 25, nameIndex := 361, descriptorIndex := 339, attributes := #[] }, { accessFlags := 26, nameIndex := 364, descriptorIndex := 339, attributes := #[] }, { accessFlags := 26, nameIndex := 365, descriptorIndex := 339, attributes := #[] }, { accessFlags := 26, nameIndex := 172, descriptorIndex := 173, attributes := #[] }, { accessFlags := 26, nameIndex := 176, descriptorIndex := 173, attributes := #[] }, { accessFlags := 8, nameIndex := 344, descriptorIndex := 339, attributes := #[] }, { accessFlags := 8, nameIndex := 338, descriptorIndex := 339, attributes := #[] }, { accessFlags := 4120, nameIndex := 245, descriptorIndex := 246, attributes := #[] }])
  fields := #[{ name := "E", type := .double, accessFlags := 25, slot := 0, constantValue := 0 }, { name := "PI", type := .double, accessFlags := 25, slot := 1, constantValue := 0 }, { name := "TAU", type := .double, accessFlags := 25, slot := 2, constantValue := 0 }, { name := "DEGREES_TO_RADIANS", type := .double, accessFlags := 26, slot := 3, constantValue := 0 }, { name := "RADIANS_TO_DEGREES", type := .double, accessFlags := 26, slot := 4, constantValue := 0 }, { name := "negativeZeroFloatBits", type := .long, accessFlags := 26, slot := 5, constantValue := 0 }, { name := "negativeZeroDoubleBits", type := .long, accessFlags := 26, slot := 6, constantValue := 0 }, { name := "twoToTheDoubleScaleUp", type := .double, accessFlags := 8, slot := 7, constantValue := 0 }, { name := "twoToTheDoubleScaleDown", type := .double, accessFlags := 8, slot := 8, constantValue := 0 }, { name := "$assertionsDisabled", type := .boolean, accessFlags := 4120, slot := 9, constantValue := 0 }]
  methods := #[k2m0, k2m1]
  instanceTypes := #[]
  staticTypes := #[.double, .double, .double, .double, .double, .long, .long, .double, .double, .boolean]
  resolved := Array.replicate 460 none
  statics := none }

def pool3 : Array CpInfo := pool [(1, .methodref 2 3), (0, .class_ 4), (0, .nameAndType 5 6), (0, u "java/lang/Object"), (0, u "<init>"), (0, u "()V"), (0, .fieldref 8 9), (0, .class_ 10), (0, .nameAndType 11 12), (0, u "com/example/hit_span_ranker/hitspanranker/chain/HitChain$Builder"), (0, u "hits"), (0, u "[J"), (9, .fieldref 8 23), (0, .nameAndType 24 25), (0, u "words"), (0, u "I"), (3, .fieldref 8 30), (0, .nameAndType 31 25), (0, u "size"), (1, .class_ 35), (1, u "java/util/Arrays"), (2, .methodref 33 39), (0, .nameAndType 40 41), (0, u "sort"), (0, u "([JII)V"), (2, .class_ 45), (0, u "com/example/hit_span_ranker/hitspanranker/chain/HitChain"), (0, .methodref 44 47), (0, .nameAndType 5 48), (0, u "(I[I[I)V"), (0, u "(I)V"), (3, u "add"), (0, u "(II)V"), (0, u "build"), (0, u "()Lcom/example/hit_span_ranker/hitspanranker/chain/HitChain;")] 27

def k3c0 : Code := { maxStack := 3, maxLocals := 2, code := prog_3_method_1_code, exceptionTable := #[], attributes := #[] }
def k3m0 : Method := { name := "<init>", desc := "(I)V", sig := { parameters := [.int], returnType := none }, accessFlags := 1, code := some k3c0 }
def k3c1 : Code := { maxStack := 6, maxLocals := 3, code := prog_3_method_2_code, exceptionTable := #[], attributes := #[] }
def k3m1 : Method := { name := "add", desc := "(II)V", sig := { parameters := [.int, .int], returnType := none }, accessFlags := 1, code := some k3c1 }
def k3c2 : Code := { maxStack := 5, maxLocals := 5, code := prog_3_method_3_code, exceptionTable := #[], attributes := #[] }
def k3m2 : Method := { name := "build", desc := "()Lcom/example/hit_span_ranker/hitspanranker/chain/HitChain;", sig := { parameters := [], returnType := some (.object "com/example/hit_span_ranker/hitspanranker/chain/HitChain") }, accessFlags := 1, code := some k3c2 }
/-- com/example/hit_span_ranker/hitspanranker/chain/HitChain$Builder -/
def k3 : Class := { plain "com/example/hit_span_ranker/hitspanranker/chain/HitChain$Builder" (some 0) with
  accessFlags := 49
  interfaces := #[]
  cf := some (fileOf pool3 8 #[.nestHost 44] #[{ accessFlags := 1, nameIndex := 5, descriptorIndex := 49, attributes := #[] }, { accessFlags := 1, nameIndex := 53, descriptorIndex := 54, attributes := #[] }, { accessFlags := 1, nameIndex := 55, descriptorIndex := 56, attributes := #[] }] 49 2 #[] #[{ accessFlags := 18, nameIndex := 24, descriptorIndex := 25, attributes := #[] }, { accessFlags := 2, nameIndex := 11, descriptorIndex := 12, attributes := #[] }, { accessFlags := 2, nameIndex := 31, descriptorIndex := 25, attributes := #[] }])
  fields := #[{ name := "words", type := .int, accessFlags := 18, slot := 0, constantValue := 0 }, { name := "hits", type := (.array .long), accessFlags := 2, slot := 1, constantValue := 0 }, { name := "size", type := .int, accessFlags := 2, slot := 2, constantValue := 0 }]
  methods := #[k3m0, k3m1, k3m2]
  instanceTypes := #[.int, (.array .long), .int]
  staticTypes := #[]
  resolved := Array.replicate 84 none
  statics := none }

def pool4 : Array CpInfo := pool [(2, .class_ 4), (1, u "java/lang/Object"), (0, u "<init>"), (0, u "()V"), (1, .class_ 10), (1, u "java/util/DualPivotQuicksort"), (0, u "sort"), (1, .methodref 14 15), (0, .class_ 16), (0, .nameAndType 17 18), (0, u "java/util/Arrays"), (0, u "rangeCheck"), (0, u "(III)V"), (0, .methodref 8 20), (0, .nameAndType 11 21), (0, u "([JIII)V"), (52, .class_ 76), (1, u "java/util/Arrays$NaturalOrder"), (36, .class_ 115), (1, u "java/util/Arrays$LegacyMergeSort"), (1, u "Z"), (257, .class_ 376), (0, u "java/util/Arrays$ArrayList"), (68, u "$assertionsDisabled"), (269, u "MIN_ARRAY_SORT_GRAN"), (0, u "I"), (2, u "INSERTIONSORT_THRESHOLD"), (12, u "([JII)V"), (242, .class_ 976), (0, u "java/util/Arrays$ArrayItr")] 52

def k4m0 : Method := { name := "<init>", desc := "()V", sig := { parameters := [], returnType := none }, accessFlags := 2, code := none }
def k4c1 : Code := { maxStack := 4, maxLocals := 3, code := jdk_65_method_5_code, exceptionTable := #[], attributes := #[] }
def k4m1 : Method := { name := "sort", desc := "([JII)V", sig := { parameters := [(.array .long), .int, .int], returnType := none }, accessFlags := 9, code := some k4c1 }
def k4c2 : Code := { maxStack := 4, maxLocals := 3, code := jdk_65_method_30_code, exceptionTable := #[], attributes := #[] }
def k4m2 : Method := { name := "rangeCheck", desc := "(III)V", sig := { parameters := [.int, .int, .int], returnType := none }, accessFlags := 8, code := some k4c2 }
/-- java/util/Arrays -/
def k4 : Class := { plain "java/util/Arrays" (some 0) with
  accessFlags := 49
  interfaces := #[]
  cf := some (fileOf pool4 14 #[.nestMembers #[975, 375, 113, 74]] #[{ accessFlags := 2, nameIndex := 5, descriptorIndex := 6, attributes := #[] }, { accessFlags := 9, nameIndex := 11, descriptorIndex := 732, attributes := #[] }, { accessFlags := 8, nameIndex := 17, descriptorIndex := 18, attributes := #[] }] 49 2 #[] #[{ accessFlags := 26, nameIndex := 715, descriptorIndex := 716, attributes := #[] }, { accessFlags := 26, nameIndex := 719, descriptorIndex := 716, attributes := #[] }, { accessFlags := 4120, nameIndex := 445, descriptorIndex := 117, attributes := #[] }])
  fields := #[{ name := "MIN_ARRAY_SORT_GRAN", type := .int, accessFlags := 26, slot := 0, constantValue := 0 }, { name := "INSERTIONSORT_THRESHOLD", type := .int, accessFlags := 26, slot := 1, constantValue := 0 }, { name := "$assertionsDisabled", type := .boolean, accessFlags := 4120, slot := 2, constantValue := 0 }]
  methods := #[k4m0, k4m1, k4m2]
  instanceTypes := #[]
  staticTypes := #[.int, .int, .boolean]
  resolved := Array.replicate 1029 none
  statics := none }

def pool5 : Array CpInfo := pool [(1, .class_ 2), (0, u "java/util/DualPivotQuicksort"), (5, .class_ 10), (1, u "java/lang/Object"), (0, u "<init>"), (0, u "()V"), (4, .class_ 18), (0, u "java/util/DualPivotQuicksort$Sorter"), (9, u "sort"), (7, u "insertionSort"), (31, u "I"), (4, .class_ 74), (0, u "java/util/DualPivotQuicksort$RunMerger"), (10, .class_ 86), (0, u "java/util/DualPivotQuicksort$Merger"), (12, .methodref 1 100), (0, .nameAndType 28 101), (0, u "(Ljava/util/DualPivotQuicksort$Sorter;[JIII)V"), (2, u "([JIII)V"), (0, .methodref 1 106), (0, .nameAndType 36 107), (0, u "([JII)V"), (106, u "MAX_MIXED_INSERTION_SORT_SIZE"), (2, u "MAX_INSERTION_SORT_SIZE"), (1, u "MIN_PARALLEL_SORT_SIZE"), (1, u "MIN_TRY_MERGE_SIZE"), (0, u "MIN_FIRST_RUN_SIZE"), (1, u "MIN_FIRST_RUNS_FACTOR"), (1, u "MAX_RUN_CAPACITY"), (1, u "MIN_RUN_COUNT"), (1, u "MIN_PARALLEL_MERGE_PARTS_SIZE"), (0, u "MIN_BYTE_COUNTING_SORT_SIZE"), (1, u "MIN_SHORT_OR_CHAR_COUNTING_SORT_SIZE"), (1, u "DELTA"), (1, u "MAX_RECURSION_DEPTH"), (1, u "NUM_BYTE_VALUES"), (1, u "MAX_BYTE_INDEX"), (0, u "NUM_CHAR_VALUES"), (0, u "NUM_SHORT_VALUES"), (0, u "MAX_SHORT_INDEX")] 86

def k5m0 : Method := { name := "<init>", desc := "()V", sig := { parameters := [], returnType := none }, accessFlags := 2, code := none }
def k5c1 : Code := { maxStack := 9, maxLocals := 7, code := jdk_2529_method_12_code, exceptionTable := #[], attributes := #[] }
def k5m1 : Method := { name := "sort", desc := "([JIII)V", sig := { parameters := [(.array .long), .int, .int, .int], returnType := none }, accessFlags := 8, code := some k5c1 }
def k5c2 : Code := { maxStack := 6, maxLocals := 25, code := jdk_2529_method_13_code, exceptionTable := #[], attributes := #[] }
def k5m2 : Method := { name := "sort", desc := "(Ljava/util/DualPivotQuicksort$Sorter;[JIII)V", sig := { parameters := [(.object "java/util/DualPivotQuicksort$Sorter"), (.array .long), .int, .int, .int], returnType := none }, accessFlags := 8, code := some k5c2 }
def k5c3 : Code := { maxStack := 5, maxLocals := 7, code := jdk_2529_method_15_code, exceptionTable := #[], attributes := #[] }
def k5m3 : Method := { name := "insertionSort", desc := "([JII)V", sig := { parameters := [(.array .long), .int, .int], returnType := none }, accessFlags := 10, code := some k5c3 }
/-- java/util/DualPivotQuicksort -/
def k5 : Class := { plain "java/util/DualPivotQuicksort" (some 0) with
  accessFlags := 48
  interfaces := #[]
  cf := some (fileOf pool5 1 #[.nestMembers #[73, 85, 17]] #[{ accessFlags := 2, nameIndex := 11, descriptorIndex := 12, attributes := #[] }, { accessFlags := 8, nameIndex := 28, descriptorIndex := 104, attributes := #[] }, { accessFlags := 8, nameIndex := 28, descriptorIndex := 101, attributes := #[] }, { accessFlags := 10, nameIndex := 36, descriptorIndex := 107, attributes := #[] }] 48 8 #[] #[{ accessFlags := 26, nameIndex := 214, descriptorIndex := 68, attributes := #[] }, { accessFlags := 26, nameIndex := 217, descriptorIndex := 68, attributes := #[] }, { accessFlags := 26, nameIndex := 219, descriptorIndex := 68, attributes := #[] }, { accessFlags := 26, nameIndex := 221, descriptorIndex := 68, attributes := #[] }, { accessFlags := 26, nameIndex := 222, descriptorIndex := 68, attributes := #[] }, { accessFlags := 26, nameIndex := 224, descriptorIndex := 68, attributes := #[] }, { accessFlags := 26, nameIndex := 226, descriptorIndex := 68, attributes := #[] }, { accessFlags := 26, nameIndex := 228, descriptorIndex := 68, attributes := #[] }, { accessFlags := 26, nameIndex := 230, descriptorIndex := 68, attributes := #[] }, { accessFlags := 26, nameIndex := 231, descriptorIndex := 68, attributes := #[] }, { accessFlags := 26, nameIndex := 233, descriptorIndex := 68, attributes := #[] }, { accessFlags := 26, nameIndex := 235, descriptorIndex := 68, attributes := #[] }, { accessFlags := 26, nameIndex := 237, descriptorIndex := 68, attributes := #[] }, { accessFlags := 26, nameIndex := 239, descriptorIndex := 68, attributes := #[] }, { accessFlags := 26, nameIndex := 241, descriptorIndex := 68, attributes := #[] }, { accessFlags := 26, nameIndex := 242, descriptorIndex := 68, attributes := #[] }, { accessFlags := 26, nameIndex := 243, descriptorIndex := 68, attributes := #[] }, { accessFlags := 26, nameIndex := 244, descriptorIndex := 68, attributes := #[] }])
  fields := #[{ name := "MAX_MIXED_INSERTION_SORT_SIZE", type := .int, accessFlags := 26, slot := 0, constantValue := 0 }, { name := "MAX_INSERTION_SORT_SIZE", type := .int, accessFlags := 26, slot := 1, constantValue := 0 }, { name := "MIN_PARALLEL_SORT_SIZE", type := .int, accessFlags := 26, slot := 2, constantValue := 0 }, { name := "MIN_TRY_MERGE_SIZE", type := .int, accessFlags := 26, slot := 3, constantValue := 0 }, { name := "MIN_FIRST_RUN_SIZE", type := .int, accessFlags := 26, slot := 4, constantValue := 0 }, { name := "MIN_FIRST_RUNS_FACTOR", type := .int, accessFlags := 26, slot := 5, constantValue := 0 }, { name := "MAX_RUN_CAPACITY", type := .int, accessFlags := 26, slot := 6, constantValue := 0 }, { name := "MIN_RUN_COUNT", type := .int, accessFlags := 26, slot := 7, constantValue := 0 }, { name := "MIN_PARALLEL_MERGE_PARTS_SIZE", type := .int, accessFlags := 26, slot := 8, constantValue := 0 }, { name := "MIN_BYTE_COUNTING_SORT_SIZE", type := .int, accessFlags := 26, slot := 9, constantValue := 0 }, { name := "MIN_SHORT_OR_CHAR_COUNTING_SORT_SIZE", type := .int, accessFlags := 26, slot := 10, constantValue := 0 }, { name := "DELTA", type := .int, accessFlags := 26, slot := 11, constantValue := 0 }, { name := "MAX_RECURSION_DEPTH", type := .int, accessFlags := 26, slot := 12, constantValue := 0 }, { name := "NUM_BYTE_VALUES", type := .int, accessFlags := 26, slot := 13, constantValue := 0 }, { name := "MAX_BYTE_INDEX", type := .int, accessFlags := 26, slot := 14, constantValue := 0 }, { name := "NUM_CHAR_VALUES", type := .int, accessFlags := 26, slot := 15, constantValue := 0 }, { name := "NUM_SHORT_VALUES", type := .int, accessFlags := 26, slot := 16, constantValue := 0 }, { name := "MAX_SHORT_INDEX", type := .int, accessFlags := 26, slot := 17, constantValue := 0 }]
  methods := #[k5m0, k5m1, k5m2, k5m3]
  instanceTypes := #[]
  staticTypes := #[.int, .int, .int, .int, .int, .int, .int, .int, .int, .int, .int, .int, .int, .int, .int, .int, .int, .int]
  resolved := Array.replicate 331 none
  statics := none }

def pool6 : Array CpInfo := pool [(1, .methodref 2 3), (0, .class_ 4), (0, .nameAndType 5 6), (0, u "java/lang/Object"), (0, u "<init>"), (0, u "()V"), (0, .fieldref 8 9), (0, .class_ 10), (0, .nameAndType 11 12), (0, u "com/example/hit_span_ranker/hitspanranker/chain/HitChain"), (0, u "words"), (0, u "I"), (0, .fieldref 8 14), (0, .nameAndType 15 16), (0, u "positions"), (0, u "[I"), (0, .fieldref 8 18), (0, .nameAndType 19 16), (0, u "hitWords"), (0, .class_ 21), (0, u "com/example/hit_span_ranker/hitspanranker/chain/HitChain$Builder"), (16, u "size"), (0, u "()I"), (46, .class_ 88), (1, u "com/example/hit_span_ranker/hitspanranker/chain/HitChain$SpanConsumer"), (10, u "(I[I[I)V"), (5, u "position"), (0, u "(I)I"), (0, u "word")] 38

def k6c0 : Code := { maxStack := 2, maxLocals := 4, code := prog_2_method_1_code, exceptionTable := #[], attributes := #[] }
def k6m0 : Method := { name := "<init>", desc := "(I[I[I)V", sig := { parameters := [.int, (.array .int), (.array .int)], returnType := none }, accessFlags := 2, code := some k6c0 }
def k6c1 : Code := { maxStack := 1, maxLocals := 1, code := prog_2_method_4_code, exceptionTable := #[], attributes := #[] }
def k6m1 : Method := { name := "size", desc := "()I", sig := { parameters := [], returnType := some .int }, accessFlags := 1, code := some k6c1 }
def k6c2 : Code := { maxStack := 2, maxLocals := 2, code := prog_2_method_5_code, exceptionTable := #[], attributes := #[] }
def k6m2 : Method := { name := "position", desc := "(I)I", sig := { parameters := [.int], returnType := some .int }, accessFlags := 1, code := some k6c2 }
def k6c3 : Code := { maxStack := 2, maxLocals := 2, code := prog_2_method_6_code, exceptionTable := #[], attributes := #[] }
def k6m3 : Method := { name := "word", desc := "(I)I", sig := { parameters := [.int], returnType := some .int }, accessFlags := 1, code := some k6c3 }
/-- com/example/hit_span_ranker/hitspanranker/chain/HitChain -/
def k6 : Class := { plain "com/example/hit_span_ranker/hitspanranker/chain/HitChain" (some 0) with
  accessFlags := 49
  interfaces := #[]
  cf := some (fileOf pool6 8 #[.nestMembers #[20, 86]] #[{ accessFlags := 2, nameIndex := 5, descriptorIndex := 99, attributes := #[] }, { accessFlags := 1, nameIndex := 38, descriptorIndex := 39, attributes := #[] }, { accessFlags := 1, nameIndex := 105, descriptorIndex := 106, attributes := #[] }, { accessFlags := 1, nameIndex := 107, descriptorIndex := 106, attributes := #[] }] 49 2 #[] #[{ accessFlags := 18, nameIndex := 11, descriptorIndex := 12, attributes := #[] }, { accessFlags := 18, nameIndex := 15, descriptorIndex := 16, attributes := #[] }, { accessFlags := 18, nameIndex := 19, descriptorIndex := 16, attributes := #[] }])
  fields := #[{ name := "words", type := .int, accessFlags := 18, slot := 0, constantValue := 0 }, { name := "positions", type := (.array .int), accessFlags := 18, slot := 1, constantValue := 0 }, { name := "hitWords", type := (.array .int), accessFlags := 18, slot := 2, constantValue := 0 }]
  methods := #[k6m0, k6m1, k6m2, k6m3]
  instanceTypes := #[.int, (.array .int), (.array .int)]
  staticTypes := #[]
  resolved := Array.replicate 146 none
  statics := none }

def pool7 : Array CpInfo := pool [(1, u "java/lang/Cloneable"), (0, .class_ 1), (0, u "java/lang/Object"), (0, .class_ 3)] 3

/-- java/lang/Cloneable -/
def k7 : Class := { plain "java/lang/Cloneable" (some 0) with
  accessFlags := 1537
  interfaces := #[]
  cf := some (fileOf pool7 2 #[] #[] 1537 4 #[] #[])
  fields := #[]
  methods := #[]
  instanceTypes := #[]
  staticTypes := #[]
  resolved := Array.replicate 8 none
  statics := none }

def pool8 : Array CpInfo := pool [(1, u "java/io/Serializable"), (0, .class_ 1), (0, u "java/lang/Object"), (0, .class_ 3)] 3

/-- java/io/Serializable -/
def k8 : Class := { plain "java/io/Serializable" (some 0) with
  accessFlags := 1537
  interfaces := #[]
  cf := some (fileOf pool8 2 #[] #[] 1537 4 #[] #[])
  fields := #[]
  methods := #[]
  instanceTypes := #[]
  staticTypes := #[]
  resolved := Array.replicate 8 none
  statics := none }

/-- the primitive byte -/
def k9 : Class := { plain "byte" none with kind := .primitive 'B', accessFlags := 0x411 }
/-- [B -/
def k10 : Class := { plain "[B" (some 0) with kind := .array 9 .byte, interfaces := #[7, 8], accessFlags := 1041 }

/-- the primitive int -/
def k11 : Class := { plain "int" none with kind := .primitive 'I', accessFlags := 0x411 }
/-- [I -/
def k12 : Class := { plain "[I" (some 0) with kind := .array 11 .int, interfaces := #[7, 8], accessFlags := 1041 }

/-- the primitive long -/
def k13 : Class := { plain "long" none with kind := .primitive 'J', accessFlags := 0x411 }
/-- [J -/
def k14 : Class := { plain "[J" (some 0) with kind := .array 13 .long, interfaces := #[7, 8], accessFlags := 1041 }

def heap : Heap := #[]
def classes : Array Class := #[k0, k1, k2, k3, k4, k5, k6, k7, k8, k9, k10, k11, k12, k13, k14]
def interned : List (Array UInt16 × Addr) := []
def slotsUsed : Nat := 0
def theMethod : MethodId := ⟨1, 2⟩
def args0 : Array Value := #[.int 10, .long 2, .int 3, .int 5, .int 7, .int 9]
def aboutOver (below : List Frame) : State where
  vm := { classes := classes, interned := interned.toArray }
  heap := heap
  slotsUsed := slotsUsed
  threads := #[{ frames := .invoking theMethod args0 :: below }]
def below0 : List Frame := [.native { method := ⟨0, 0⟩, args := #[] }]
def about1 : State := aboutOver below0
def p0 : Program := .bare "" "" ""
def e0 : Env := launch0.env 0 0 0
theorem w_frames : about1.frames = Frame.invoking theMethod args0 :: below0 := rfl
set_option maxRecDepth 65536 in
theorem w_args : argsFit about1.vm theMethod args0 = true := by decide +kernel
set_option maxRecDepth 65536 in
theorem w_heap : heapFits about1 = true := by decide +kernel
set_option maxRecDepth 65536 in
theorem w_runnable : about1.curStatus? = some .runnable := by decide +kernel
set_option maxRecDepth 65536 in
theorem w_alone : about1.alone = true := by decide +kernel
set_option maxRecDepth 65536 in
theorem w_named : about1.methodNamed? x = some theMethod := by decide +kernel
set_option maxRecDepth 65536 in
theorem w_hears : about1.hears theMethod below0 = true := by decide +kernel
set_option maxRecDepth 65536 in
theorem w_ripe : about1.ripe theMethod args0 below0 = true := by decide +kernel
theorem w_running : about1.status = .running := rfl
set_option maxRecDepth 65536 in
theorem w_room : about1.hasRoom e0.platform room_1 = true :=
  launch0.hasRoom_least _ room_1 (by decide +kernel) (by decide +kernel) (by decide +kernel) (by decide +kernel) (by decide +kernel) (by decide +kernel)
theorem allAtoms_all (ts : List Jvm.Cond) (a : Array Jvm.Value) (st : Jvm.State) : (allAtoms ts).before a st = ts.all (fun c => c.before a st) := by
  induction ts with
  | nil => rfl
  | cons c t ih =>
    show (Jvm.Cond.and c (allAtoms t)).before a st = _
    rw [Jvm.Cond.before_and, ih, List.all_cons]
def words1 : List Jvm.Cond := Jvm.Cond.code x code maxLocals ret :: tables_1
/-- a 'code' word, met by the world's own term for the bytes: nothing is compared byte by byte -/
theorem code_word {y : MethodName} {bytes : ByteArray} {mx : Nat} {rt : Option FieldType} {a : Array Value} {s : State} {m : MethodId} {meth : Method} {c : Code} (h1 : s.methodNamed? y = some m) (h2 : s.vm.method? m = some meth) (h3 : meth.code = some c) (h4 : c.code = bytes)
    (h5 : (c.maxLocals == mx && c.exceptionTable.isEmpty && decide (c.maxStack ≤ mostOperands) && decide (meth.sig.returnType = rt) && !meth.locks && decide (parseMethodDescriptor y.desc = some meth.sig)) = true) : (Jvm.Cond.code y bytes mx rt).before a s = true := by
  simp only [Bool.and_eq_true, beq_iff_eq, Bool.not_eq_true', decide_eq_true_eq] at h5
  obtain ⟨⟨⟨⟨⟨g1, g2⟩, g3⟩, g4⟩, g5⟩, g6⟩ := h5
  simp [Cond.before, Cond.holds, Cond.value, h1, h2, h3, h4, g1, g2, g3, g4, g5, g6]
def isCode : Jvm.Cond → Bool
  | .code _ _ _ _ => true
  | _ => false
theorem all_split {L : List Jvm.Cond} {P : Jvm.Cond → Bool} (h1 : L.all (fun c => isCode c || P c) = true) (h2 : ∀ c ∈ L.filter isCode, P c = true) : L.all P = true := by
  refine List.all_eq_true.mpr fun c hc => ?_
  have h := List.all_eq_true.mp h1 c hc
  rcases Bool.eq_false_or_eq_true (isCode c) with hi | hi
  · exact h2 c (List.mem_filter.mpr ⟨hc, hi⟩)
  · simpa [hi] using h
set_option maxRecDepth 65536 in
theorem w_c0 : (Jvm.Cond.code x code maxLocals ret).before args0 about1 = true := code_word (m := ⟨1, 2⟩) (meth := k1m2) (c := k1c2) (by decide +kernel) rfl rfl rfl (by decide +kernel)
set_option maxRecDepth 65536 in
theorem w_c1 : (Jvm.Cond.code ({ cls := "java/lang/Math", name := "max", desc := "(II)I" } : Jvm.MethodName) jdk_29_method_65_code (2 : Nat) (Option.some Jvm.ClassFile.FieldType.int)).before args0 about1 = true := code_word (m := ⟨2, 1⟩) (meth := k2m1) (c := k2c1) (by decide +kernel) rfl rfl rfl (by decide +kernel)
set_option maxRecDepth 65536 in
theorem w_c2 : (Jvm.Cond.code ({ cls := "com/example/hit_span_ranker/hitspanranker/chain/HitChain$Builder", name := "<init>", desc := "(I)V" } : Jvm.MethodName) prog_3_method_1_code (2 : Nat) (Option.none : Option Jvm.ClassFile.FieldType)).before args0 about1 = true := code_word (m := ⟨3, 0⟩) (meth := k3m0) (c := k3c0) (by decide +kernel) rfl rfl rfl (by decide +kernel)
set_option maxRecDepth 65536 in
theorem w_c3 : (Jvm.Cond.code ({ cls := "java/lang/Object", name := "<init>", desc := "()V" } : Jvm.MethodName) object_method_1_code (1 : Nat) (Option.none : Option Jvm.ClassFile.FieldType)).before args0 about1 = true := code_word (m := ⟨0, 0⟩) (meth := k0m0) (c := k0c0) (by decide +kernel) rfl rfl rfl (by decide +kernel)
set_option maxRecDepth 65536 in
theorem w_c4 : (Jvm.Cond.code ({ cls := "com/example/hit_span_ranker/hitspanranker/chain/HitChain$Builder", name := "add", desc := "(II)V" } : Jvm.MethodName) prog_3_method_2_code (3 : Nat) (Option.none : Option Jvm.ClassFile.FieldType)).before args0 about1 = true := code_word (m := ⟨3, 1⟩) (meth := k3m1) (c := k3c1) (by decide +kernel) rfl rfl rfl (by decide +kernel)
set_option maxRecDepth 65536 in
theorem w_c5 : (Jvm.Cond.code ({ cls := "com/example/hit_span_ranker/hitspanranker/chain/HitChain$Builder", name := "build", desc := "()Lcom/example/hit_span_ranker/hitspanranker/chain/HitChain;" } : Jvm.MethodName) prog_3_method_3_code (5 : Nat) (Option.some (Jvm.ClassFile.FieldType.object "com/example/hit_span_ranker/hitspanranker/chain/HitChain"))).before args0 about1 = true := code_word (m := ⟨3, 2⟩) (meth := k3m2) (c := k3c2) (by decide +kernel) rfl rfl rfl (by decide +kernel)
set_option maxRecDepth 65536 in
theorem w_c6 : (Jvm.Cond.code ({ cls := "java/util/Arrays", name := "sort", desc := "([JII)V" } : Jvm.MethodName) jdk_65_method_5_code (3 : Nat) (Option.none : Option Jvm.ClassFile.FieldType)).before args0 about1 = true := code_word (m := ⟨4, 1⟩) (meth := k4m1) (c := k4c1) (by decide +kernel) rfl rfl rfl (by decide +kernel)
set_option maxRecDepth 65536 in
theorem w_c7 : (Jvm.Cond.code ({ cls := "java/util/Arrays", name := "rangeCheck", desc := "(III)V" } : Jvm.MethodName) jdk_65_method_30_code (3 : Nat) (Option.none : Option Jvm.ClassFile.FieldType)).before args0 about1 = true := code_word (m := ⟨4, 2⟩) (meth := k4m2) (c := k4c2) (by decide +kernel) rfl rfl rfl (by decide +kernel)
set_option maxRecDepth 65536 in
theorem w_c8 : (Jvm.Cond.code ({ cls := "java/util/DualPivotQuicksort", name := "sort", desc := "([JIII)V" } : Jvm.MethodName) jdk_2529_method_12_code (7 : Nat) (Option.none : Option Jvm.ClassFile.FieldType)).before args0 about1 = true := code_word (m := ⟨5, 1⟩) (meth := k5m1) (c := k5c1) (by decide +kernel) rfl rfl rfl (by decide +kernel)
set_option maxRecDepth 65536 in
theorem w_c9 : (Jvm.Cond.code ({ cls := "java/util/DualPivotQuicksort", name := "sort", desc := "(Ljava/util/DualPivotQuicksort$Sorter;[JIII)V" } : Jvm.MethodName) jdk_2529_method_13_code (25 : Nat) (Option.none : Option Jvm.ClassFile.FieldType)).before args0 about1 = true := code_word (m := ⟨5, 2⟩) (meth := k5m2) (c := k5c2) (by decide +kernel) rfl rfl rfl (by decide +kernel)
set_option maxRecDepth 65536 in
theorem w_c10 : (Jvm.Cond.code ({ cls := "java/util/DualPivotQuicksort", name := "insertionSort", desc := "([JII)V" } : Jvm.MethodName) jdk_2529_method_15_code (7 : Nat) (Option.none : Option Jvm.ClassFile.FieldType)).before args0 about1 = true := code_word (m := ⟨5, 3⟩) (meth := k5m3) (c := k5c3) (by decide +kernel) rfl rfl rfl (by decide +kernel)
set_option maxRecDepth 65536 in
theorem w_c11 : (Jvm.Cond.code ({ cls := "com/example/hit_span_ranker/hitspanranker/chain/HitChain", name := "<init>", desc := "(I[I[I)V" } : Jvm.MethodName) prog_2_method_1_code (4 : Nat) (Option.none : Option Jvm.ClassFile.FieldType)).before args0 about1 = true := code_word (m := ⟨6, 0⟩) (meth := k6m0) (c := k6c0) (by decide +kernel) rfl rfl rfl (by decide +kernel)
set_option maxRecDepth 65536 in
theorem w_c12 : (Jvm.Cond.code ({ cls := "com/example/hit_span_ranker/hitspanranker/chain/HitChain", name := "size", desc := "()I" } : Jvm.MethodName) prog_2_method_4_code (1 : Nat) (Option.some Jvm.ClassFile.FieldType.int)).before args0 about1 = true := code_word (m := ⟨6, 1⟩) (meth := k6m1) (c := k6c1) (by decide +kernel) rfl rfl rfl (by decide +kernel)
set_option maxRecDepth 65536 in
theorem w_c13 : (Jvm.Cond.code ({ cls := "com/example/hit_span_ranker/hitspanranker/chain/HitChain", name := "position", desc := "(I)I" } : Jvm.MethodName) prog_2_method_5_code (2 : Nat) (Option.some Jvm.ClassFile.FieldType.int)).before args0 about1 = true := code_word (m := ⟨6, 2⟩) (meth := k6m2) (c := k6c2) (by decide +kernel) rfl rfl rfl (by decide +kernel)
set_option maxRecDepth 65536 in
theorem w_c14 : (Jvm.Cond.code ({ cls := "com/example/hit_span_ranker/hitspanranker/chain/HitChain", name := "word", desc := "(I)I" } : Jvm.MethodName) prog_2_method_6_code (2 : Nat) (Option.some Jvm.ClassFile.FieldType.int)).before args0 about1 = true := code_word (m := ⟨6, 3⟩) (meth := k6m3) (c := k6c3) (by decide +kernel) rfl rfl rfl (by decide +kernel)
set_option maxRecDepth 65536 in
theorem w_c15 : (Jvm.Cond.code ({ cls := "com/example/hit_span_ranker/hitspanranker/chain/BuilderAddPinLaw", name := "isAdded", desc := "(IIIIIIII)Z" } : Jvm.MethodName) method_2_code (8 : Nat) (Option.some Jvm.ClassFile.FieldType.boolean)).before args0 about1 = true := code_word (m := ⟨1, 1⟩) (meth := k1m1) (c := k1c1) (by decide +kernel) rfl rfl rfl (by decide +kernel)
def codes1 : List Jvm.Cond := [Jvm.Cond.code x code maxLocals ret, Jvm.Cond.code ({ cls := "java/lang/Math", name := "max", desc := "(II)I" } : Jvm.MethodName) jdk_29_method_65_code (2 : Nat) (Option.some Jvm.ClassFile.FieldType.int), Jvm.Cond.code ({ cls := "com/example/hit_span_ranker/hitspanranker/chain/HitChain$Builder", name := "<init>", desc := "(I)V" } : Jvm.MethodName) prog_3_method_1_code (2 : Nat) (Option.none : Option Jvm.ClassFile.FieldType), Jvm.Cond.code ({ cls := "java/lang/Object", name := "<init>", desc := "()V" } : Jvm.MethodName) object_method_1_code (1 : Nat) (Option.none : Option Jvm.ClassFile.FieldType), Jvm.Cond.code ({ cls := "com/example/hit_span_ranker/hitspanranker/chain/HitChain$Builder", name := "add", desc := "(II)V" } : Jvm.MethodName) prog_3_method_2_code (3 : Nat) (Option.none : Option Jvm.ClassFile.FieldType), Jvm.Cond.code ({ cls := "com/example/hit_span_ranker/hitspanranker/chain/HitChain$Builder", name := "build", desc := "()Lcom/example/hit_span_ranker/hitspanranker/chain/HitChain;" } : Jvm.MethodName) prog_3_method_3_code (5 : Nat) (Option.some (Jvm.ClassFile.FieldType.object "com/example/hit_span_ranker/hitspanranker/chain/HitChain")), Jvm.Cond.code ({ cls := "java/util/Arrays", name := "sort", desc := "([JII)V" } : Jvm.MethodName) jdk_65_method_5_code (3 : Nat) (Option.none : Option Jvm.ClassFile.FieldType), Jvm.Cond.code ({ cls := "java/util/Arrays", name := "rangeCheck", desc := "(III)V" } : Jvm.MethodName) jdk_65_method_30_code (3 : Nat) (Option.none : Option Jvm.ClassFile.FieldType), Jvm.Cond.code ({ cls := "java/util/DualPivotQuicksort", name := "sort", desc := "([JIII)V" } : Jvm.MethodName) jdk_2529_method_12_code (7 : Nat) (Option.none : Option Jvm.ClassFile.FieldType), Jvm.Cond.code ({ cls := "java/util/DualPivotQuicksort", name := "sort", desc := "(Ljava/util/DualPivotQuicksort$Sorter;[JIII)V" } : Jvm.MethodName) jdk_2529_method_13_code (25 : Nat) (Option.none : Option Jvm.ClassFile.FieldType), Jvm.Cond.code ({ cls := "java/util/DualPivotQuicksort", name := "insertionSort", desc := "([JII)V" } : Jvm.MethodName) jdk_2529_method_15_code (7 : Nat) (Option.none : Option Jvm.ClassFile.FieldType), Jvm.Cond.code ({ cls := "com/example/hit_span_ranker/hitspanranker/chain/HitChain", name := "<init>", desc := "(I[I[I)V" } : Jvm.MethodName) prog_2_method_1_code (4 : Nat) (Option.none : Option Jvm.ClassFile.FieldType), Jvm.Cond.code ({ cls := "com/example/hit_span_ranker/hitspanranker/chain/HitChain", name := "size", desc := "()I" } : Jvm.MethodName) prog_2_method_4_code (1 : Nat) (Option.some Jvm.ClassFile.FieldType.int), Jvm.Cond.code ({ cls := "com/example/hit_span_ranker/hitspanranker/chain/HitChain", name := "position", desc := "(I)I" } : Jvm.MethodName) prog_2_method_5_code (2 : Nat) (Option.some Jvm.ClassFile.FieldType.int), Jvm.Cond.code ({ cls := "com/example/hit_span_ranker/hitspanranker/chain/HitChain", name := "word", desc := "(I)I" } : Jvm.MethodName) prog_2_method_6_code (2 : Nat) (Option.some Jvm.ClassFile.FieldType.int), Jvm.Cond.code ({ cls := "com/example/hit_span_ranker/hitspanranker/chain/BuilderAddPinLaw", name := "isAdded", desc := "(IIIIIIII)Z" } : Jvm.MethodName) method_2_code (8 : Nat) (Option.some Jvm.ClassFile.FieldType.boolean)]
set_option maxRecDepth 65536 in
theorem codes_eq : words1.filter isCode = codes1 := rfl
theorem w_codes : ∀ c ∈ words1.filter isCode, c.before args0 about1 = true := by
  rw [codes_eq]
  intro c hc
  simp only [codes1, List.mem_cons, List.not_mem_nil, or_false] at hc
  rcases hc with rfl | rfl | rfl | rfl | rfl | rfl | rfl | rfl | rfl | rfl | rfl | rfl | rfl | rfl | rfl | rfl
  · exact w_c0
  · exact w_c1
  · exact w_c2
  · exact w_c3
  · exact w_c4
  · exact w_c5
  · exact w_c6
  · exact w_c7
  · exact w_c8
  · exact w_c9
  · exact w_c10
  · exact w_c11
  · exact w_c12
  · exact w_c13
  · exact w_c14
  · exact w_c15
set_option maxRecDepth 65536 in
theorem w_t1 : (words1.take 24).all (fun c => isCode c || c.before args0 about1) = true := by decide +kernel
set_option maxRecDepth 65536 in
theorem w_t2 : ((words1.drop 24).take 24).all (fun c => isCode c || c.before args0 about1) = true := by decide +kernel
set_option maxRecDepth 65536 in
theorem w_t3 : (((words1.drop 24).drop 24).take 24).all (fun c => isCode c || c.before args0 about1) = true := by decide +kernel
set_option maxRecDepth 65536 in
theorem w_t4 : (((words1.drop 24).drop 24).drop 24).all (fun c => isCode c || c.before args0 about1) = true := by decide +kernel
theorem w_tables : (allAtoms (Jvm.Cond.code x code maxLocals ret :: tables_1)).before args0 about1 = true := by
  rw [allAtoms_all]
  show words1.all (fun c => c.before args0 about1) = true
  refine all_split ?_ w_codes
  rw [← List.take_append_drop 24 words1, List.all_append, w_t1, ← List.take_append_drop 24 (words1.drop 24), List.all_append, w_t2, ← List.take_append_drop 24 ((words1.drop 24).drop 24), List.all_append, w_t3, w_t4]
  rfl
set_option maxRecDepth 65536 in
theorem w_case : (Jvm.Cond.and given_1 narrow_1).before args0 about1 = true := by decide +kernel
theorem w_applies : (headSpec (Jvm.Cond.code x code maxLocals ret :: tables_1) room_1).applies x e0.platform about1 = true :=
  (Spec.applies_iff w_frames).mpr ⟨w_running, w_runnable, w_alone, w_named, w_hears, w_ripe, w_room, w_tables⟩
theorem atStart : AtStart classFile x code maxLocals ret World_1 tables_1 room_1 Calls_1 rest_1 Pre_1 launch0 p0 e0 about1 theMethod args0 below0 :=
  ⟨lists_1, trivial, launch0.admits_env _ _ _, launch0.least_env, fairChoices_fair.cas, fairChoices_fair.clock, w_frames, w_args, w_heap, w_applies, trivial, trivial, w_case⟩
end start1
theorem witness_1 : WitnessClaimed_1 := ⟨start1.p0, start1.e0, start1.about1, start1.theMethod, start1.args0, start1.below0, start1.atStart⟩
end Jvm.Pilot.@@N@@
