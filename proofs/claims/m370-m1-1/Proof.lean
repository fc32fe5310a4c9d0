import JvmDerived
import JvmDerived.Pilot.@@N@@Statement
import JvmDerived.Pilot.@@N@@Code
set_option linter.unusedVariables false
set_option linter.unusedSimpArgs false
namespace Jvm.RoadKit
open Sem ClassFile Op Lib Jvm.Stand Jvm.Free Jvm.LawKit
section New
variable {p : Program} {l : Launch} {e : Env} {R : Room} {s : State} {m : MethodId} {args : Array Value} {below : List Frame} {meth : Method} {c : Code} {T : State} {locs : List Loc} {cells slots : Nat}
theorem retI (X : Stand p l e R s m args below meth c T locs cells slots) (hx : p.tables.exec = Jvm.exec) {pc : Nat} {Ls : Array Slot} {z : Int32} {rest : List Value} (hret : meth.sig.returnType = some .int) (hd : decode c.code pc = .ok (.ireturn, 1)) {fs : List Frame}
    (hl : ∀ (f : JFrame) (acts : List Action), f.method = m → f.locked = none → f.entered = [] → (doReturn e (T.setTop f) acts (some (.int z))).1 = T.setFrames fs) : Steps p.tables e below (T.setTop (mkF m pc Ls (.int z :: rest))) (T.setFrames fs) := by
  have hm' : T.vm.method? m = some meth := X.method'
  have hn : narrow .int (.int z) = .int z := rfl
  show Steps p.tables e below (T.setTop { method := m, pc := pc, locals := Ls, stack := _ :: rest, locked := none }) _
  jvm_step X.here [X.here.top, hx, hd, hm', hret, hn]
  first | (intro acts; rw [hl _ acts rfl rfl rfl]) | rw [hl _ _ rfl rfl rfl]
  exact Steps.refl _
theorem retJ (X : Stand p l e R s m args below meth c T locs cells slots) (hx : p.tables.exec = Jvm.exec) {pc : Nat} {Ls : Array Slot} {z : Int64} {rest : List Value} (hret : meth.sig.returnType = some .long) (hd : decode c.code pc = .ok (.lreturn, 1)) {fs : List Frame}
    (hl : ∀ (f : JFrame) (acts : List Action), f.method = m → f.locked = none → f.entered = [] → (doReturn e (T.setTop f) acts (some (.long z))).1 = T.setFrames fs) : Steps p.tables e below (T.setTop (mkF m pc Ls (.long z :: rest))) (T.setFrames fs) := by
  have hm' : T.vm.method? m = some meth := X.method'
  have hn : narrow .long (.long z) = .long z := rfl
  show Steps p.tables e below (T.setTop { method := m, pc := pc, locals := Ls, stack := _ :: rest, locked := none }) _
  jvm_step X.here [X.here.top, hx, hd, hm', hret, hn]
  first | (intro acts; rw [hl _ acts rfl rfl rfl]) | rw [hl _ _ rfl rfl rfl]
  exact Steps.refl _
end New
end Jvm.RoadKit
namespace Jvm.Pilot.@@N@@
open Jvm Jvm.ClassFile Sem Op Lib Jvm.Free Jvm.Stand Jvm.LawKit Jvm.RoadKit Bundle Jvm.Pilot.@@N@@.Jvm.D
theorem mvL {Z s : State} {a0 args : Array Value} {own host : String} {index : Nat} {y : MethodName} (hZ : Z.Warmed39 s.vm) (w : (Cond.methodLinkNest own index y host).before a0 Z = true) : (Cond.methodLinkNest own index y host).before args s = true := (Cond.methodLinkNest_wide hZ w :)
theorem mgE {A : Type} {l : List A} {a : A} (i : Nat) (h : l[i]? = some a) : a ∈ l := List.mem_of_getElem? h

def Arf (Z : State) (h : Heap) (a : Addr) (ty : FieldType) (z : Int32) (f : Nat → Value) : Prop := ∃ c : Cell, Arr Z h a c ty ∧ c.slots.size = z.toNatClampNeg ∧ ¬ z < 0 ∧ ∀ i, i < z.toNatClampNeg → c.slots[i]? = some (f i)
def own_upd {A : Type} (f : Nat → A) (j : Nat) (v : A) : Nat → A := fun i => if i = j then v else f i
theorem own_upd_same {A : Type} (f : Nat → A) (j : Nat) (v : A) : own_upd f j v j = v := if_pos rfl
theorem own_upd_ne {A : Type} (f : Nat → A) {j i : Nat} (v : A) (h : i ≠ j) : own_upd f j v i = f i := if_neg h
section ArfFacts
variable {Z : State} {h h' : Heap} {a b : Addr} {ty : FieldType} {z : Int32} {f : Nat → Value} {k : ClassId} {ws : List Addr} {sl : Nat} {v : Value}
theorem Arf.lt (F : Arf Z h a ty z f) : a < h.size := by obtain ⟨c, A, -⟩ := F; exact A.lt
theorem Arf.ext (F : Arf Z h a ty z f) (E : Ext h h') : Arf Z h' a ty z f := by obtain ⟨c, A, r⟩ := F; exact ⟨c, A.ext E, r⟩
theorem Arf.other (F : Arf Z h b ty z f) (W : Wr h h' a sl v) (q : b ≠ a) : Arf Z h' b ty z f := by obtain ⟨c, A, r⟩ := F; exact ⟨c, A.other W q, r⟩
theorem Arf.keep (F : Arf Z h a ty z f) (K : Keep h h' ws) (q : a ∉ ws) : Arf Z h' a ty z f := by obtain ⟨c, A, r⟩ := F; exact ⟨c, ⟨K.2.1 a c A.1 q, A.2⟩, r⟩
theorem Arf.new (A : Arr Z h a (newA k ty z) ty) (q : ¬ z < 0) : Arf Z h a ty z (fun _ => defaultValue ty) := ⟨_, A, sz_new _ _ _, q, fun i hi => by simp [newA, hi]⟩
theorem Arf.set (F : Arf Z h a ty z f) (W : Wr h h' a sl v) : Arf Z h' a ty z (own_upd f sl v) := by
  obtain ⟨c, A, S, N, H⟩ := F
  refine ⟨c.setSlot sl v, A.same W, by rw [sz_set]; exact S, N, fun i hi => ?_⟩
  by_cases e : i = sl
  · subst e; rw [own_upd_same]; simp [Cell.setSlot, S, hi]
  · rw [own_upd_ne _ _ e, ← H i hi]
    exact Array.getElem?_setIfInBounds_ne (Ne.symm e)
theorem Arf.cong {g : Nat → Value} (F : Arf Z h a ty z f) (q : ∀ i, i < z.toNatClampNeg → f i = g i) : Arf Z h a ty z g := by obtain ⟨c, A, S, N, H⟩ := F; exact ⟨c, A, S, N, fun i hi => (H i hi).trans (congrArg some (q i hi))⟩
theorem upd_int (f : Nat → Int32) (j : Nat) (v : Int32) : own_upd (fun i => Value.int (f i)) j (.int v) = fun i => Value.int (own_upd f j v i) := by funext i; unfold own_upd; split <;> rfl
theorem upd_long (f : Nat → Int64) (j : Nat) (v : Int64) : own_upd (fun i => Value.long (f i)) j (.long v) = fun i => Value.long (own_upd f j v i) := by funext i; unfold own_upd; split <;> rfl
end ArfFacts

theorem own_arv {Z : State} {h : Heap} {a : Addr} {k : ClassId} {ty : FieldType} {z : Int32} {vs : List Value} {dv : Value} {f : Nat → Value} (F : Arv Z h a k ty z vs dv) (q : ∀ i, i < z.toNatClampNeg → vs.getD i dv = f i) : Arf Z h a ty z f := by
  obtain ⟨c, A, -, S, N, H, -⟩ := F
  exact ⟨c, A, S, N, fun i hi => (H i (by rw [S]; exact hi)).trans (congrArg some (q i hi))⟩
theorem own_getD (l : List Int32) (i : Nat) : (l.map Value.int).getD i (.int 0) = .int (l.getD i 0) := by
  induction l generalizing i with
  | nil => rfl
  | cons x xs ih => cases i with
    | zero => rfl
    | succ i => exact ih i

theorem own_toArv {Z : State} {h : Heap} {a : Addr} {z : Int32} {g : Nat → Int32} (F : Arf Z h a .int z (fun i => .int (g i))) : ∃ k, Arv Z h a k .int z ((List.range z.toNatClampNeg).map fun i => Value.int (g i)) (.int 0) := by
  obtain ⟨c, A, S, N, H⟩ := F
  refine ⟨c.cls, c, A, rfl, S, N, fun i hi => ?_, fun i hi => ?_⟩
  · rw [S] at hi
    rw [H i hi]; simp [hi]
  · rw [S] at hi
    simp [hi, fits]
theorem own_ofCpy {Z : State} {h : Heap} {b : Addr} {k : ClassId} {z z' nn : Int32} {ga gb : Nat → Int32} (h4 : nn.toNatClampNeg ≤ z.toNatClampNeg) (h5 : nn.toNatClampNeg ≤ z'.toNatClampNeg)
    (F : Arv Z h b k .int z' (((List.range z'.toNatClampNeg).map fun i => Value.int (gb i)).take (0 : Int32).toNatClampNeg ++ ((List.range nn.toNatClampNeg).map fun i => ((List.range z.toNatClampNeg).map fun i => Value.int (ga i)).getD ((0 : Int32).toNatClampNeg + i) (.int 0)) ++ ((List.range z'.toNatClampNeg).map fun i => Value.int (gb i)).drop ((0 : Int32).toNatClampNeg + nn.toNatClampNeg)) (.int 0)) :
    Arf Z h b .int z' (fun i => .int (if i < nn.toNatClampNeg then ga i else gb i)) := by
  refine own_arv F fun i hi => ?_
  have z0 : (0 : Int32).toNatClampNeg = 0 := by decide
  simp only [z0, List.take_zero, List.nil_append, Nat.zero_add]
  by_cases q : i < nn.toNatClampNeg
  · have q2 : i < z.toNatClampNeg := by omega
    simp [List.getD, List.getElem?_append, q, q2]
  · have q3 : i - nn.toNatClampNeg + nn.toNatClampNeg = i := by omega
    simp [List.getD, List.getElem?_append, q, hi]
    rw [List.getElem?_range (by omega)]
    simp; congr 1; omega

def OvcA (Z : State) (h : Heap) (a : Addr) (ty : FieldType) (C : String) : Prop := ∃ c : Cell, h[a]? = some c ∧ OvrA Z c.cls ty C
theorem OvcA.ext {Z : State} {h h' : Heap} {a : Addr} {ty : FieldType} {C : String} (F : OvcA Z h a ty C) (E : Ext h h') : OvcA Z h' a ty C := by obtain ⟨c, h1, h2⟩ := F; exact ⟨c, E.2 _ _ h1, h2⟩
theorem OvcA.wr {Z : State} {h h' : Heap} {a b : Addr} {ty : FieldType} {C : String} {sl : Nat} {v : Value} (F : OvcA Z h a ty C) (W : Wr h h' b sl v) : OvcA Z h' a ty C := by
  obtain ⟨c, h1, h2⟩ := F
  obtain ⟨c', e1, e2, -⟩ := wr_at W h1
  exact ⟨c', e1, by rw [e2]; exact h2⟩
theorem OvcA.keep {Z : State} {h h' : Heap} {a : Addr} {ty : FieldType} {C : String} {ws : List Addr} (F : OvcA Z h a ty C) (K : Keep h h' ws) : OvcA Z h' a ty C := by
  obtain ⟨c, h1, h2⟩ := F
  obtain ⟨c', e1, e2, -⟩ := K.2.2 _ _ h1
  exact ⟨c', e1, by rw [e2]; exact h2⟩
theorem own_stoA {Z : State} {h : Heap} {a y : Addr} {C : String} {cl : Cell} {ty t0 : FieldType} (A : Arr Z h a cl t0) (O : OvcA Z h a ty C) (I : Ins Z h y C true) : Sto Z h a (.ref y) := by
  obtain ⟨c, h1, h2⟩ := O
  cases h1.symm.trans A.1
  exact Sto.ofVA A rfl h2 I
theorem own_sel {s : State} {args : Array Value} {y : MethodName} {n : Nat} (wi : (Jvm.Cond.instantiable y.cls n).before args s = true) (hp : s.PrivateAt y) (hi : (Jvm.Cond.instanceMethod y).before args s = true) (hy : y.cls ≠ "java/lang/invoke/MethodHandle" ∧ y.cls ≠ "java/lang/invoke/VarHandle") : (Jvm.Cond.selects y.cls y y).before args s = true := by
  obtain ⟨c, k, h1, h2, h3, h4, h5⟩ := Cond.instantiable_spec wi
  exact selects_self_of_private h1 h2 (by revert h4; cases k.isInterface <;> simp) hp hi hy

def fil (f : Nat → Int32) (lo hi v : Int32) : Nat → Int32 := fun i => if lo.toNatClampNeg ≤ i ∧ i < hi.toNatClampNeg then v else f i
def bump (f : Nat → Int32) (j : Nat) : Nat → Int32 := own_upd f j (f j + (1 : Int32))
theorem own_fil0 (f : Nat → Int32) (lo v : Int32) (i : Nat) : f i = fil f lo lo v i := by unfold fil; rw [if_neg (by omega)]
theorem own_nat (x : Int32) (h : 0 ≤ x.toInt) : (x.toNatClampNeg : Int) = x.toInt := by show ((x.toInt.toNat : Nat) : Int) = x.toInt; omega
theorem own_nx (i n : Int32) (h : i < n) : (i + (1 : Int32)).toInt = i.toInt + 1 := by
  rw [Int32.lt_iff_toInt_lt] at h
  have a := c_iadd i (1 : Int32)
  rw [show (1 : Int32).toInt = 1 from by decide] at a
  have b := rng32 (i + (1 : Int32))
  have b2 := rng32 i
  have d := rng32 n
  omega
theorem own_filS (f : Nat → Int32) (lo vi n v : Int32) (hlo : 0 ≤ lo.toInt) (h1 : lo.toInt ≤ vi.toInt) (h : vi < n) (i : Nat) : own_upd (fil f lo vi v) (vi).toNatClampNeg v i = fil f lo (vi + (1 : Int32)) v i := by
  have a := own_nat vi (by omega)
  have b := own_nat (vi + (1 : Int32)) (by rw [own_nx vi n h]; omega)
  have d := own_nat lo hlo
  rw [own_nx vi n h] at b
  unfold own_upd fil
  by_cases q : i = (vi).toNatClampNeg
  · rw [if_pos q, if_pos (by omega)]
  · rw [if_neg q]
    by_cases w : lo.toNatClampNeg ≤ i ∧ i < vi.toNatClampNeg
    · rw [if_pos w, if_pos (by omega)]
    · rw [if_neg w, if_neg (by omega)]
theorem own_lt0 (x : Int32) (h : 0 ≤ x.toInt) : ¬ x < (0 : Int32) := by rw [Int32.lt_iff_toInt_lt, show (0 : Int32).toInt = 0 from by decide]; omega

theorem d1_0 : decode prog_52_method_1_code 0 = .ok (.aload_n 0, 1) := by decide +kernel
theorem d1_1 : decode prog_52_method_1_code 1 = .ok (.invokespecial 3, 3) := by decide +kernel
theorem d1_4 : decode prog_52_method_1_code 4 = .ok (.aload_n 0, 1) := by decide +kernel
theorem d1_5 : decode prog_52_method_1_code 5 = .ok (.sipush 1024, 3) := by decide +kernel
theorem d1_8 : decode prog_52_method_1_code 8 = .ok (.newarray .int, 2) := by decide +kernel
theorem d1_10 : decode prog_52_method_1_code 10 = .ok (.putfield 9, 3) := by decide +kernel
theorem d1_13 : decode prog_52_method_1_code 13 = .ok (.aload_n 0, 1) := by decide +kernel
theorem d1_14 : decode prog_52_method_1_code 14 = .ok (.sipush 1024, 3) := by decide +kernel
theorem d1_17 : decode prog_52_method_1_code 17 = .ok (.newarray .int, 2) := by decide +kernel
theorem d1_19 : decode prog_52_method_1_code 19 = .ok (.putfield 15, 3) := by decide +kernel
theorem d1_22 : decode prog_52_method_1_code 22 = .ok (.aload_n 0, 1) := by decide +kernel
theorem d1_23 : decode prog_52_method_1_code 23 = .ok (.sipush 1024, 3) := by decide +kernel
theorem d1_26 : decode prog_52_method_1_code 26 = .ok (.anewarray 18, 3) := by decide +kernel
theorem d1_29 : decode prog_52_method_1_code 29 = .ok (.putfield 20, 3) := by decide +kernel
theorem d1_32 : decode prog_52_method_1_code 32 = .ok (.aload_n 0, 1) := by decide +kernel
theorem d1_33 : decode prog_52_method_1_code 33 = .ok (.sipush 1024, 3) := by decide +kernel
theorem d1_36 : decode prog_52_method_1_code 36 = .ok (.anewarray 18, 3) := by decide +kernel
theorem d1_39 : decode prog_52_method_1_code 39 = .ok (.putfield 24, 3) := by decide +kernel
theorem d1_42 : decode prog_52_method_1_code 42 = .ok (.aload_n 0, 1) := by decide +kernel
theorem d1_43 : decode prog_52_method_1_code 43 = .ok (.sipush 1024, 3) := by decide +kernel
theorem d1_46 : decode prog_52_method_1_code 46 = .ok (.newarray .int, 2) := by decide +kernel
theorem d1_48 : decode prog_52_method_1_code 48 = .ok (.putfield 27, 3) := by decide +kernel
theorem d1_51 : decode prog_52_method_1_code 51 = .ok (.aload_n 0, 1) := by decide +kernel
theorem d1_52 : decode prog_52_method_1_code 52 = .ok (.sipush 1024, 3) := by decide +kernel
theorem d1_55 : decode prog_52_method_1_code 55 = .ok (.newarray .int, 2) := by decide +kernel
theorem d1_57 : decode prog_52_method_1_code 57 = .ok (.putfield 30, 3) := by decide +kernel
theorem d1_60 : decode prog_52_method_1_code 60 = .ok (.aload_n 0, 1) := by decide +kernel
theorem d1_61 : decode prog_52_method_1_code 61 = .ok (.iconst 1, 1) := by decide +kernel
theorem d1_62 : decode prog_52_method_1_code 62 = .ok (.newarray .int, 2) := by decide +kernel
theorem d1_64 : decode prog_52_method_1_code 64 = .ok (.putfield 33, 3) := by decide +kernel
theorem d1_67 : decode prog_52_method_1_code 67 = .ok (.aload_n 0, 1) := by decide +kernel
theorem d1_68 : decode prog_52_method_1_code 68 = .ok (.iconst 0, 1) := by decide +kernel
theorem d1_69 : decode prog_52_method_1_code 69 = .ok (.newarray .int, 2) := by decide +kernel
theorem d1_71 : decode prog_52_method_1_code 71 = .ok (.putfield 36, 3) := by decide +kernel
theorem d1_74 : decode prog_52_method_1_code 74 = .ok (.aload_n 0, 1) := by decide +kernel
theorem d1_75 : decode prog_52_method_1_code 75 = .ok (.iconst 1, 1) := by decide +kernel
theorem d1_76 : decode prog_52_method_1_code 76 = .ok (.newarray .int, 2) := by decide +kernel
theorem d1_78 : decode prog_52_method_1_code 78 = .ok (.putfield 39, 3) := by decide +kernel
theorem d1_81 : decode prog_52_method_1_code 81 = .ok (.return_, 1) := by decide +kernel
theorem pn_com_example_accrete_accrete_engine_Sendings : plainName "com/example/accrete/accrete/engine/Sendings" = true := by first | (simp [plainName, overriddenIn]; done) | decide +kernel
theorem ef_1 (m : MethodId) (x0 : Addr) : entryFrame m #[(.ref x0)] 1 = mkF m 0 #[.val (.ref x0)] [] := by first | (simp [entryFrame, mkF, argsToLocals, Value.category]; done) | rfl
def Q1 (Z : State) (a1 : Addr) (u_target_a1 : Value) (u_slot_a1 : Value) (u_value_a1 : Value) (u_taken_a1 : Value) (u_sender_a1 : Value) (u_position_a1 : Value) (u_starts_a1 : Value) (u_grouped_a1 : Value) (u_next_a1 : Value) (h0 : Heap) (n0 : Nat) (v : Option Value) (h : Heap) (L : List Loc) : Prop := ∃ fx1 fx2 fx3 fx4 fx5 fx6 fx7 fx8 fx9 : Addr, v = none ∧ Fr n0 L ∧ Keep h0 h [a1] ∧ h0.size ≤ fx1 ∧ h0.size ≤ fx2 ∧ h0.size ≤ fx3 ∧ h0.size ≤ fx4 ∧ h0.size ≤ fx5 ∧ h0.size ≤ fx6 ∧ h0.size ≤ fx7 ∧ h0.size ≤ fx8 ∧ h0.size ≤ fx9 ∧ fx1 ≠ fx2 ∧ fx1 ≠ fx3 ∧ fx2 ≠ fx3 ∧ fx1 ≠ fx4 ∧ fx2 ≠ fx4 ∧ fx3 ≠ fx4 ∧ fx1 ≠ fx5 ∧ fx2 ≠ fx5 ∧ fx3 ≠ fx5 ∧ fx4 ≠ fx5 ∧ fx1 ≠ fx6 ∧ fx2 ≠ fx6 ∧ fx3 ≠ fx6 ∧ fx4 ≠ fx6 ∧ fx5 ≠ fx6 ∧ fx1 ≠ fx7 ∧ fx2 ≠ fx7 ∧ fx3 ≠ fx7 ∧ fx4 ≠ fx7 ∧ fx5 ≠ fx7 ∧ fx6 ≠ fx7 ∧ fx1 ≠ fx8 ∧ fx2 ≠ fx8 ∧ fx3 ≠ fx8 ∧ fx4 ≠ fx8 ∧ fx5 ≠ fx8 ∧ fx6 ≠ fx8 ∧ fx7 ≠ fx8 ∧ fx1 ≠ fx9 ∧ fx2 ≠ fx9 ∧ fx3 ≠ fx9 ∧ fx4 ≠ fx9 ∧ fx5 ≠ fx9 ∧ fx6 ≠ fx9 ∧ fx7 ≠ fx9 ∧ fx8 ≠ fx9 ∧ Exa Z h a1 "com/example/accrete/accrete/engine/Sendings" ∧ Fld Z h a1 "com/example/accrete/accrete/engine/Sendings" "grouped" "[I" (.ref fx1) ∧ Fld Z h a1 "com/example/accrete/accrete/engine/Sendings" "next" "[I" (.ref fx2) ∧ Fld Z h a1 "com/example/accrete/accrete/engine/Sendings" "position" "[I" (.ref fx3) ∧ Fld Z h a1 "com/example/accrete/accrete/engine/Sendings" "sender" "[I" (.ref fx4) ∧ Fld Z h a1 "com/example/accrete/accrete/engine/Sendings" "size" "I" (.int (0 : Int32)) ∧ Fld Z h a1 "com/example/accrete/accrete/engine/Sendings" "slot" "[I" (.ref fx5) ∧ Fld Z h a1 "com/example/accrete/accrete/engine/Sendings" "starts" "[I" (.ref fx6) ∧ Fld Z h a1 "com/example/accrete/accrete/engine/Sendings" "taken" "[[B" (.ref fx7) ∧ Fld Z h a1 "com/example/accrete/accrete/engine/Sendings" "target" "[I" (.ref fx8) ∧ Fld Z h a1 "com/example/accrete/accrete/engine/Sendings" "value" "[[B" (.ref fx9) ∧ Fld Z h a1 "com/example/accrete/accrete/engine/Sendings" "valuesCost" "J" (.long (0 : Int64)) ∧ OvcA Z h fx7 .byte "[B" ∧ OvcA Z h fx9 .byte "[B" ∧ Arf Z h fx1 .int (0 : Int32) (fun i => (.int ((fun _ => (0 : Int32)) i))) ∧ Arf Z h fx2 .int (1 : Int32) (fun i => (.int ((fun _ => (0 : Int32)) i))) ∧ Arf Z h fx3 .int (1024 : Int32) (fun i => (.int ((fun _ => (0 : Int32)) i))) ∧ Arf Z h fx4 .int (1024 : Int32) (fun i => (.int ((fun _ => (0 : Int32)) i))) ∧ Arf Z h fx5 .int (1024 : Int32) (fun i => (.int ((fun _ => (0 : Int32)) i))) ∧ Arf Z h fx6 .int (1 : Int32) (fun i => (.int ((fun _ => (0 : Int32)) i))) ∧ Arf Z h fx7 (.array .byte) (1024 : Int32) (fun _ => Value.null) ∧ Arf Z h fx8 .int (1024 : Int32) (fun i => (.int ((fun _ => (0 : Int32)) i))) ∧ Arf Z h fx9 (.array .byte) (1024 : Int32) (fun _ => Value.null)
set_option maxRecDepth 65536 in
set_option maxHeartbeats 40000000 in
theorem rm1 (l : Launch) (Z : State) (a0 : Array Value) (hw : ∀ d ∈ tables_1, d.before a0 Z = true) (ws : List Jvm.Cond) (a1 : Addr) (u_target_a1 : Value) (u_slot_a1 : Value) (u_value_a1 : Value) (u_taken_a1 : Value) (u_sender_a1 : Value) (u_position_a1 : Value) (u_starts_a1 : Value) (u_grouped_a1 : Value) (u_next_a1 : Value) (h0 : Heap) (n0 : Nat) (Z0 : n0 ≤ h0.size) (F_size_a1 : Fld Z h0 a1 "com/example/accrete/accrete/engine/Sendings" "size" "I" (.int (0 : Int32))) (F_valuesCost_a1 : Fld Z h0 a1 "com/example/accrete/accrete/engine/Sendings" "valuesCost" "J" (.long (0 : Int64))) (E_a1 : Exa Z h0 a1 "com/example/accrete/accrete/engine/Sendings") (F_target_a1 : Fld Z h0 a1 "com/example/accrete/accrete/engine/Sendings" "target" "[I" u_target_a1) (g_a1 : n0 ≤ a1) (F_slot_a1 : Fld Z h0 a1 "com/example/accrete/accrete/engine/Sendings" "slot" "[I" u_slot_a1) (F_value_a1 : Fld Z h0 a1 "com/example/accrete/accrete/engine/Sendings" "value" "[[B" u_value_a1) (F_taken_a1 : Fld Z h0 a1 "com/example/accrete/accrete/engine/Sendings" "taken" "[[B" u_taken_a1) (F_sender_a1 : Fld Z h0 a1 "com/example/accrete/accrete/engine/Sendings" "sender" "[I" u_sender_a1) (F_position_a1 : Fld Z h0 a1 "com/example/accrete/accrete/engine/Sendings" "position" "[I" u_position_a1) (F_starts_a1 : Fld Z h0 a1 "com/example/accrete/accrete/engine/Sendings" "starts" "[I" u_starts_a1) (F_grouped_a1 : Fld Z h0 a1 "com/example/accrete/accrete/engine/Sendings" "grouped" "[I" u_grouped_a1) (F_next_a1 : Fld Z h0 a1 "com/example/accrete/accrete/engine/Sendings" "next" "[I" u_next_a1) :
    MetFree l (⟨"com/example/accrete/accrete/engine/Sendings", "<init>", "()V"⟩ : MethodName) (head1 (Jvm.Cond.code (⟨"com/example/accrete/accrete/engine/Sendings", "<init>", "()V"⟩ : MethodName) prog_52_method_1_code 1 none :: ws) ({ frames := 1, cells := 9, slots := 6146, locals := 12 } : Room)) (fun a U => a = #[(.ref a1)] ∧ Z.Warmed39 U.vm ∧ U.heap = h0) (fun _ _ _ _ _ => True) (fun _ U o U' => ∃ v L, o = .returned v ∧ Q1 Z a1 u_target_a1 u_slot_a1 u_value_a1 u_taken_a1 u_sender_a1 u_position_a1 u_starts_a1 u_grouped_a1 u_next_a1 h0 n0 v U'.heap L ∧ FrameEnd U o U' L ({ frames := 1, cells := 9, slots := 6146, locals := 12 } : Room).cells ({ frames := 1, cells := 9, slots := 6146, locals := 12 } : Room).slots) := by
  refine MetFree.of_bodySF (plainFor_of_name pn_com_example_accrete_accrete_engine_Sendings) hisR ?_
  intro p e s m args below meth c s₁ Bd hml0 hP hK
  obtain ⟨rfl, hZ, hh⟩ := hP
  have hx := Bd.exec
  have hby := Bd.bytes
  have hml : c.maxLocals = 1 := hml0
  have hown : s.vm.findClass "com/example/accrete/accrete/engine/Sendings" = some m.cls := findClass_of_methodNamed Bd.named
  have hnm := (name_of_methodNamed Bd.named Bd.method).1
  have X0 : Stand p l e ({ frames := 1, cells := 9, slots := 6146, locals := 12 } : Room) s m #[(.ref a1)] below meth c s₁ [] 0 0 := Stand.of_body Bd
  have e0 : s₁.heap = h0 := by rw [← hh, Bd.state]; rfl
  have N0 := Fr.nil n0
  obtain ⟨EN, hEN, pre0⟩ : ∃ EN : _ → Prop, (∀ t, EN t → Steps p.tables e below (s₁.setTop (entryFrame m #[(.ref a1)] 1)) t) ∧ (∀ t, Steps p.tables e below (s₁.setTop (mkF m 0 #[.val (.ref a1)] [])) t → EN t) := ⟨_, fun _ h => h, fun t k => castTop (ef_1 m a1) k⟩
  obtain ⟨T1, X1, e1, st1⟩ := initO X0 hx hZ hown (hw _ (mgE 8 rfl)) (hw _ (mgE 9 rfl)) (hw _ (mgE 10 rfl)) e0 (g := (mkF m 1 #[.val (.ref a1)] [(.ref a1)])) rfl (by rw [hml]; rfl) rfl (hb hby d1_1) (by decide) (W := 0) (by show 2 * 0 + _ ≤ _; exact Nat.le_of_eq rfl) (by decide)
  obtain ⟨T3, h3, k3, X3, e3, E3, A3, st3⟩ := newP X1 hx hZ (hw _ (mgE 11 rfl)) e1 (g := (mkF m 8 #[.val (.ref a1)] [(.int (1024 : Int32)), (.ref a1)])) rfl (hb hby d1_8) rfl (by decide) (cap := 1024) (by decide) (by decide) (by decide) (by decide)
  obtain ⟨b3, g3⟩ : ∃ z, z = h0.size := ⟨_, rfl⟩
  rw [← g3] at A3 st3
  have ne_a1_b3 : a1 ≠ b3 := Nat.ne_of_lt (Nat.lt_of_lt_of_le F_size_a1.lt (Nat.le_of_eq g3.symm))
  have sz_b3 : h0.size ≤ b3 := Nat.le_trans (Keep.refl h0 [a1]).1 (Nat.le_of_eq g3.symm)
  have K3 : Keep h0 h3 [a1] := (Keep.refl h0 [a1]).ext E3
  have F4_3 := F_size_a1.ext E3
  have F5_3 := F_valuesCost_a1.ext E3
  have F6_3 := E_a1.ext E3
  have F7_3 := F_target_a1.ext E3
  have F8_3 := F_slot_a1.ext E3
  have F9_3 := F_value_a1.ext E3
  have F10_3 := F_taken_a1.ext E3
  have F11_3 := F_sender_a1.ext E3
  have F12_3 := F_position_a1.ext E3
  have F13_3 := F_starts_a1.ext E3
  have F14_3 := F_grouped_a1.ext E3
  have F15_3 := F_next_a1.ext E3
  have V_b3 : Arf Z h3 b3 .int (1024 : Int32) (fun i => (.int ((fun _ => (0 : Int32)) i))) := Arf.new A3 (by decide)
  obtain ⟨T17, h17, X17, e17, W17, st17⟩ := putF X3 hx hZ hown (host := "") (Or.inl (hw _ (mgE 12 rfl))) Via.refl e3 F7_3 F6_3 (Or.inl (hw _ (mgE 13 rfl))) (hw _ (mgE 3 rfl)) (ty := (.array .int)) (by decide) rfl rfl (g := (mkF m 10 #[.val (.ref a1)] [(.ref b3), (.ref a1)])) rfl rfl (hb hby d1_10)
  have F18_17 := F4_3.other W17 (Or.inr (slot_ne (Or.inl (hw _ (mgE 51 rfl))) (Or.inl (hw _ (mgE 13 rfl))) (by decide) (t := .int) (t' := (.array .int)) (by decide) (by decide)))
  have F19_17 := F5_3.other W17 (Or.inr (slot_ne (Or.inl (hw _ (mgE 40 rfl))) (Or.inl (hw _ (mgE 13 rfl))) (by decide) (t := .long) (t' := (.array .int)) (by decide) (by decide)))
  have F20_17 := F6_3.wr W17
  have F22_17 := F8_3.other W17 (Or.inr (slot_ne (Or.inl (hw _ (mgE 15 rfl))) (Or.inl (hw _ (mgE 13 rfl))) (by decide) (t := (.array .int)) (t' := (.array .int)) (by decide) (by decide)))
  have F23_17 := F9_3.other W17 (Or.inr (slot_ne (Or.inl (hw _ (mgE 19 rfl))) (Or.inl (hw _ (mgE 13 rfl))) (by decide) (t := (.array (.array .byte))) (t' := (.array .int)) (by decide) (by decide)))
  have F24_17 := F10_3.other W17 (Or.inr (slot_ne (Or.inl (hw _ (mgE 21 rfl))) (Or.inl (hw _ (mgE 13 rfl))) (by decide) (t := (.array (.array .byte))) (t' := (.array .int)) (by decide) (by decide)))
  have F25_17 := F11_3.other W17 (Or.inr (slot_ne (Or.inl (hw _ (mgE 23 rfl))) (Or.inl (hw _ (mgE 13 rfl))) (by decide) (t := (.array .int)) (t' := (.array .int)) (by decide) (by decide)))
  have F26_17 := F12_3.other W17 (Or.inr (slot_ne (Or.inl (hw _ (mgE 25 rfl))) (Or.inl (hw _ (mgE 13 rfl))) (by decide) (t := (.array .int)) (t' := (.array .int)) (by decide) (by decide)))
  have F27_17 := F13_3.other W17 (Or.inr (slot_ne (Or.inl (hw _ (mgE 27 rfl))) (Or.inl (hw _ (mgE 13 rfl))) (by decide) (t := (.array .int)) (t' := (.array .int)) (by decide) (by decide)))
  have F28_17 := F14_3.other W17 (Or.inr (slot_ne (Or.inl (hw _ (mgE 29 rfl))) (Or.inl (hw _ (mgE 13 rfl))) (by decide) (t := (.array .int)) (t' := (.array .int)) (by decide) (by decide)))
  have F29_17 := F15_3.other W17 (Or.inr (slot_ne (Or.inl (hw _ (mgE 31 rfl))) (Or.inl (hw _ (mgE 13 rfl))) (by decide) (t := (.array .int)) (t' := (.array .int)) (by decide) (by decide)))
  have F30_17 := V_b3.other W17 (Ne.symm ne_a1_b3)
  have Fw17 := F7_3.same W17
  have K17 : Keep h0 h17 [a1] := K3.wr W17 (Or.inl (mgE 0 rfl))
  have N17 := Fr.snoc X17 N0 g_a1
  obtain ⟨T32, h32, k32, X32, e32, E32, A32, st32⟩ := newP X17 hx hZ (hw _ (mgE 11 rfl)) e17 (g := (mkF m 17 #[.val (.ref a1)] [(.int (1024 : Int32)), (.ref a1)])) rfl (hb hby d1_17) rfl (by decide) (cap := 1024) (by decide) (by decide) (by decide) (by decide)
  obtain ⟨b32, g32⟩ : ∃ z, z = h17.size := ⟨_, rfl⟩
  rw [← g32] at A32 st32
  have ne_a1_b32 : a1 ≠ b32 := Nat.ne_of_lt (Nat.lt_of_lt_of_le F18_17.lt (Nat.le_of_eq g32.symm))
  have ne_b3_b32 : b3 ≠ b32 := Nat.ne_of_lt (Nat.lt_of_lt_of_le F30_17.lt (Nat.le_of_eq g32.symm))
  have sz_b32 : h0.size ≤ b32 := Nat.le_trans K17.1 (Nat.le_of_eq g32.symm)
  have K32 : Keep h0 h32 [a1] := K17.ext E32
  have F33_32 := F18_17.ext E32
  have F34_32 := F19_17.ext E32
  have F35_32 := F20_17.ext E32
  have F36_32 := Fw17.ext E32
  have F37_32 := F22_17.ext E32
  have F38_32 := F23_17.ext E32
  have F39_32 := F24_17.ext E32
  have F40_32 := F25_17.ext E32
  have F41_32 := F26_17.ext E32
  have F42_32 := F27_17.ext E32
  have F43_32 := F28_17.ext E32
  have F44_32 := F29_17.ext E32
  have F45_32 := F30_17.ext E32
  have V_b32 : Arf Z h32 b32 .int (1024 : Int32) (fun i => (.int ((fun _ => (0 : Int32)) i))) := Arf.new A32 (by decide)
  obtain ⟨T47, h47, X47, e47, W47, st47⟩ := putF X32 hx hZ hown (host := "") (Or.inl (hw _ (mgE 14 rfl))) Via.refl e32 F37_32 F35_32 (Or.inl (hw _ (mgE 15 rfl))) (hw _ (mgE 3 rfl)) (ty := (.array .int)) (by decide) rfl rfl (g := (mkF m 19 #[.val (.ref a1)] [(.ref b32), (.ref a1)])) rfl rfl (hb hby d1_19)
  have F48_47 := F33_32.other W47 (Or.inr (slot_ne (Or.inl (hw _ (mgE 51 rfl))) (Or.inl (hw _ (mgE 15 rfl))) (by decide) (t := .int) (t' := (.array .int)) (by decide) (by decide)))
  have F49_47 := F34_32.other W47 (Or.inr (slot_ne (Or.inl (hw _ (mgE 40 rfl))) (Or.inl (hw _ (mgE 15 rfl))) (by decide) (t := .long) (t' := (.array .int)) (by decide) (by decide)))
  have F50_47 := F35_32.wr W47
  have F51_47 := F36_32.other W47 (Or.inr (slot_ne (Or.inl (hw _ (mgE 13 rfl))) (Or.inl (hw _ (mgE 15 rfl))) (by decide) (t := (.array .int)) (t' := (.array .int)) (by decide) (by decide)))
  have F53_47 := F38_32.other W47 (Or.inr (slot_ne (Or.inl (hw _ (mgE 19 rfl))) (Or.inl (hw _ (mgE 15 rfl))) (by decide) (t := (.array (.array .byte))) (t' := (.array .int)) (by decide) (by decide)))
  have F54_47 := F39_32.other W47 (Or.inr (slot_ne (Or.inl (hw _ (mgE 21 rfl))) (Or.inl (hw _ (mgE 15 rfl))) (by decide) (t := (.array (.array .byte))) (t' := (.array .int)) (by decide) (by decide)))
  have F55_47 := F40_32.other W47 (Or.inr (slot_ne (Or.inl (hw _ (mgE 23 rfl))) (Or.inl (hw _ (mgE 15 rfl))) (by decide) (t := (.array .int)) (t' := (.array .int)) (by decide) (by decide)))
  have F56_47 := F41_32.other W47 (Or.inr (slot_ne (Or.inl (hw _ (mgE 25 rfl))) (Or.inl (hw _ (mgE 15 rfl))) (by decide) (t := (.array .int)) (t' := (.array .int)) (by decide) (by decide)))
  have F57_47 := F42_32.other W47 (Or.inr (slot_ne (Or.inl (hw _ (mgE 27 rfl))) (Or.inl (hw _ (mgE 15 rfl))) (by decide) (t := (.array .int)) (t' := (.array .int)) (by decide) (by decide)))
  have F58_47 := F43_32.other W47 (Or.inr (slot_ne (Or.inl (hw _ (mgE 29 rfl))) (Or.inl (hw _ (mgE 15 rfl))) (by decide) (t := (.array .int)) (t' := (.array .int)) (by decide) (by decide)))
  have F59_47 := F44_32.other W47 (Or.inr (slot_ne (Or.inl (hw _ (mgE 31 rfl))) (Or.inl (hw _ (mgE 15 rfl))) (by decide) (t := (.array .int)) (t' := (.array .int)) (by decide) (by decide)))
  have F60_47 := F45_32.other W47 (Ne.symm ne_a1_b3)
  have F61_47 := V_b32.other W47 (Ne.symm ne_a1_b32)
  have Fw47 := F37_32.same W47
  have K47 : Keep h0 h47 [a1] := K32.wr W47 (Or.inl (mgE 0 rfl))
  have N47 := Fr.snoc X47 N17 g_a1
  obtain ⟨T63, h63, k63, X63, e63, E63, A63, Ex63, O63, st63⟩ := newRA X47 hx hZ hown (ty := .byte) (C := "[B") (by decide) (hw _ (mgE 16 rfl)) (hw _ (mgE 17 rfl)) e47 (g := (mkF m 26 #[.val (.ref a1)] [(.int (1024 : Int32)), (.ref a1)])) rfl (hb hby d1_26) rfl (by decide) (cap := 1024) (by decide) (by decide) (by decide) (by decide) (ad := "[[B") (by decide)
  obtain ⟨b63, g63⟩ : ∃ z, z = h47.size := ⟨_, rfl⟩
  rw [← g63] at A63 Ex63 st63
  have ne_a1_b63 : a1 ≠ b63 := Nat.ne_of_lt (Nat.lt_of_lt_of_le F48_47.lt (Nat.le_of_eq g63.symm))
  have ne_b3_b63 : b3 ≠ b63 := Nat.ne_of_lt (Nat.lt_of_lt_of_le F60_47.lt (Nat.le_of_eq g63.symm))
  have ne_b32_b63 : b32 ≠ b63 := Nat.ne_of_lt (Nat.lt_of_lt_of_le F61_47.lt (Nat.le_of_eq g63.symm))
  have sz_b63 : h0.size ≤ b63 := Nat.le_trans K47.1 (Nat.le_of_eq g63.symm)
  have K63 : Keep h0 h63 [a1] := K47.ext E63
  have F64_63 := F48_47.ext E63
  have F65_63 := F49_47.ext E63
  have F66_63 := F50_47.ext E63
  have F67_63 := F51_47.ext E63
  have F68_63 := Fw47.ext E63
  have F69_63 := F53_47.ext E63
  have F70_63 := F54_47.ext E63
  have F71_63 := F55_47.ext E63
  have F72_63 := F56_47.ext E63
  have F73_63 := F57_47.ext E63
  have F74_63 := F58_47.ext E63
  have F75_63 := F59_47.ext E63
  have F76_63 := F60_47.ext E63
  have F77_63 := F61_47.ext E63
  have V_b63 : Arf Z h63 b63 (.array .byte) (1024 : Int32) (fun _ => Value.null) := Arf.new A63 (by decide)
  have Ov_b63 : OvcA Z h63 b63 .byte "[B" := ⟨_, A63.1, O63⟩
  obtain ⟨T79, h79, X79, e79, W79, st79⟩ := putF X63 hx hZ hown (host := "") (Or.inl (hw _ (mgE 18 rfl))) Via.refl e63 F69_63 F66_63 (Or.inl (hw _ (mgE 19 rfl))) (hw _ (mgE 3 rfl)) (ty := (.array (.array .byte))) (by decide) rfl rfl (g := (mkF m 29 #[.val (.ref a1)] [(.ref b63), (.ref a1)])) rfl rfl (hb hby d1_29)
  have F80_79 := F64_63.other W79 (Or.inr (slot_ne (Or.inl (hw _ (mgE 51 rfl))) (Or.inl (hw _ (mgE 19 rfl))) (by decide) (t := .int) (t' := (.array (.array .byte))) (by decide) (by decide)))
  have F81_79 := F65_63.other W79 (Or.inr (slot_ne (Or.inl (hw _ (mgE 40 rfl))) (Or.inl (hw _ (mgE 19 rfl))) (by decide) (t := .long) (t' := (.array (.array .byte))) (by decide) (by decide)))
  have F82_79 := F66_63.wr W79
  have F83_79 := F67_63.other W79 (Or.inr (slot_ne (Or.inl (hw _ (mgE 13 rfl))) (Or.inl (hw _ (mgE 19 rfl))) (by decide) (t := (.array .int)) (t' := (.array (.array .byte))) (by decide) (by decide)))
  have F84_79 := F68_63.other W79 (Or.inr (slot_ne (Or.inl (hw _ (mgE 15 rfl))) (Or.inl (hw _ (mgE 19 rfl))) (by decide) (t := (.array .int)) (t' := (.array (.array .byte))) (by decide) (by decide)))
  have F86_79 := F70_63.other W79 (Or.inr (slot_ne (Or.inl (hw _ (mgE 21 rfl))) (Or.inl (hw _ (mgE 19 rfl))) (by decide) (t := (.array (.array .byte))) (t' := (.array (.array .byte))) (by decide) (by decide)))
  have F87_79 := F71_63.other W79 (Or.inr (slot_ne (Or.inl (hw _ (mgE 23 rfl))) (Or.inl (hw _ (mgE 19 rfl))) (by decide) (t := (.array .int)) (t' := (.array (.array .byte))) (by decide) (by decide)))
  have F88_79 := F72_63.other W79 (Or.inr (slot_ne (Or.inl (hw _ (mgE 25 rfl))) (Or.inl (hw _ (mgE 19 rfl))) (by decide) (t := (.array .int)) (t' := (.array (.array .byte))) (by decide) (by decide)))
  have F89_79 := F73_63.other W79 (Or.inr (slot_ne (Or.inl (hw _ (mgE 27 rfl))) (Or.inl (hw _ (mgE 19 rfl))) (by decide) (t := (.array .int)) (t' := (.array (.array .byte))) (by decide) (by decide)))
  have F90_79 := F74_63.other W79 (Or.inr (slot_ne (Or.inl (hw _ (mgE 29 rfl))) (Or.inl (hw _ (mgE 19 rfl))) (by decide) (t := (.array .int)) (t' := (.array (.array .byte))) (by decide) (by decide)))
  have F91_79 := F75_63.other W79 (Or.inr (slot_ne (Or.inl (hw _ (mgE 31 rfl))) (Or.inl (hw _ (mgE 19 rfl))) (by decide) (t := (.array .int)) (t' := (.array (.array .byte))) (by decide) (by decide)))
  have F92_79 := F76_63.other W79 (Ne.symm ne_a1_b3)
  have F93_79 := F77_63.other W79 (Ne.symm ne_a1_b32)
  have F94_79 := V_b63.other W79 (Ne.symm ne_a1_b63)
  have F95_79 := Ov_b63.wr W79
  have Fw79 := F69_63.same W79
  have K79 : Keep h0 h79 [a1] := K63.wr W79 (Or.inl (mgE 0 rfl))
  have N79 := Fr.snoc X79 N47 g_a1
  obtain ⟨T97, h97, k97, X97, e97, E97, A97, Ex97, O97, st97⟩ := newRA X79 hx hZ hown (ty := .byte) (C := "[B") (by decide) (hw _ (mgE 16 rfl)) (hw _ (mgE 17 rfl)) e79 (g := (mkF m 36 #[.val (.ref a1)] [(.int (1024 : Int32)), (.ref a1)])) rfl (hb hby d1_36) rfl (by decide) (cap := 1024) (by decide) (by decide) (by decide) (by decide) (ad := "[[B") (by decide)
  obtain ⟨b97, g97⟩ : ∃ z, z = h79.size := ⟨_, rfl⟩
  rw [← g97] at A97 Ex97 st97
  have ne_a1_b97 : a1 ≠ b97 := Nat.ne_of_lt (Nat.lt_of_lt_of_le F80_79.lt (Nat.le_of_eq g97.symm))
  have ne_b3_b97 : b3 ≠ b97 := Nat.ne_of_lt (Nat.lt_of_lt_of_le F92_79.lt (Nat.le_of_eq g97.symm))
  have ne_b32_b97 : b32 ≠ b97 := Nat.ne_of_lt (Nat.lt_of_lt_of_le F93_79.lt (Nat.le_of_eq g97.symm))
  have ne_b63_b97 : b63 ≠ b97 := Nat.ne_of_lt (Nat.lt_of_lt_of_le F94_79.lt (Nat.le_of_eq g97.symm))
  have sz_b97 : h0.size ≤ b97 := Nat.le_trans K79.1 (Nat.le_of_eq g97.symm)
  have K97 : Keep h0 h97 [a1] := K79.ext E97
  have F98_97 := F80_79.ext E97
  have F99_97 := F81_79.ext E97
  have F100_97 := F82_79.ext E97
  have F101_97 := F83_79.ext E97
  have F102_97 := F84_79.ext E97
  have F103_97 := Fw79.ext E97
  have F104_97 := F86_79.ext E97
  have F105_97 := F87_79.ext E97
  have F106_97 := F88_79.ext E97
  have F107_97 := F89_79.ext E97
  have F108_97 := F90_79.ext E97
  have F109_97 := F91_79.ext E97
  have F110_97 := F92_79.ext E97
  have F111_97 := F93_79.ext E97
  have F112_97 := F94_79.ext E97
  have F113_97 := F95_79.ext E97
  have V_b97 : Arf Z h97 b97 (.array .byte) (1024 : Int32) (fun _ => Value.null) := Arf.new A97 (by decide)
  have Ov_b97 : OvcA Z h97 b97 .byte "[B" := ⟨_, A97.1, O97⟩
  obtain ⟨T115, h115, X115, e115, W115, st115⟩ := putF X97 hx hZ hown (host := "") (Or.inl (hw _ (mgE 20 rfl))) Via.refl e97 F104_97 F100_97 (Or.inl (hw _ (mgE 21 rfl))) (hw _ (mgE 3 rfl)) (ty := (.array (.array .byte))) (by decide) rfl rfl (g := (mkF m 39 #[.val (.ref a1)] [(.ref b97), (.ref a1)])) rfl rfl (hb hby d1_39)
  have F116_115 := F98_97.other W115 (Or.inr (slot_ne (Or.inl (hw _ (mgE 51 rfl))) (Or.inl (hw _ (mgE 21 rfl))) (by decide) (t := .int) (t' := (.array (.array .byte))) (by decide) (by decide)))
  have F117_115 := F99_97.other W115 (Or.inr (slot_ne (Or.inl (hw _ (mgE 40 rfl))) (Or.inl (hw _ (mgE 21 rfl))) (by decide) (t := .long) (t' := (.array (.array .byte))) (by decide) (by decide)))
  have F118_115 := F100_97.wr W115
  have F119_115 := F101_97.other W115 (Or.inr (slot_ne (Or.inl (hw _ (mgE 13 rfl))) (Or.inl (hw _ (mgE 21 rfl))) (by decide) (t := (.array .int)) (t' := (.array (.array .byte))) (by decide) (by decide)))
  have F120_115 := F102_97.other W115 (Or.inr (slot_ne (Or.inl (hw _ (mgE 15 rfl))) (Or.inl (hw _ (mgE 21 rfl))) (by decide) (t := (.array .int)) (t' := (.array (.array .byte))) (by decide) (by decide)))
  have F121_115 := F103_97.other W115 (Or.inr (slot_ne (Or.inl (hw _ (mgE 19 rfl))) (Or.inl (hw _ (mgE 21 rfl))) (by decide) (t := (.array (.array .byte))) (t' := (.array (.array .byte))) (by decide) (by decide)))
  have F123_115 := F105_97.other W115 (Or.inr (slot_ne (Or.inl (hw _ (mgE 23 rfl))) (Or.inl (hw _ (mgE 21 rfl))) (by decide) (t := (.array .int)) (t' := (.array (.array .byte))) (by decide) (by decide)))
  have F124_115 := F106_97.other W115 (Or.inr (slot_ne (Or.inl (hw _ (mgE 25 rfl))) (Or.inl (hw _ (mgE 21 rfl))) (by decide) (t := (.array .int)) (t' := (.array (.array .byte))) (by decide) (by decide)))
  have F125_115 := F107_97.other W115 (Or.inr (slot_ne (Or.inl (hw _ (mgE 27 rfl))) (Or.inl (hw _ (mgE 21 rfl))) (by decide) (t := (.array .int)) (t' := (.array (.array .byte))) (by decide) (by decide)))
  have F126_115 := F108_97.other W115 (Or.inr (slot_ne (Or.inl (hw _ (mgE 29 rfl))) (Or.inl (hw _ (mgE 21 rfl))) (by decide) (t := (.array .int)) (t' := (.array (.array .byte))) (by decide) (by decide)))
  have F127_115 := F109_97.other W115 (Or.inr (slot_ne (Or.inl (hw _ (mgE 31 rfl))) (Or.inl (hw _ (mgE 21 rfl))) (by decide) (t := (.array .int)) (t' := (.array (.array .byte))) (by decide) (by decide)))
  have F128_115 := F110_97.other W115 (Ne.symm ne_a1_b3)
  have F129_115 := F111_97.other W115 (Ne.symm ne_a1_b32)
  have F130_115 := F112_97.other W115 (Ne.symm ne_a1_b63)
  have F131_115 := F113_97.wr W115
  have F132_115 := V_b97.other W115 (Ne.symm ne_a1_b97)
  have F133_115 := Ov_b97.wr W115
  have Fw115 := F104_97.same W115
  have K115 : Keep h0 h115 [a1] := K97.wr W115 (Or.inl (mgE 0 rfl))
  have N115 := Fr.snoc X115 N79 g_a1
  obtain ⟨T135, h135, k135, X135, e135, E135, A135, st135⟩ := newP X115 hx hZ (hw _ (mgE 11 rfl)) e115 (g := (mkF m 46 #[.val (.ref a1)] [(.int (1024 : Int32)), (.ref a1)])) rfl (hb hby d1_46) rfl (by decide) (cap := 1024) (by decide) (by decide) (by decide) (by decide)
  obtain ⟨b135, g135⟩ : ∃ z, z = h115.size := ⟨_, rfl⟩
  rw [← g135] at A135 st135
  have ne_a1_b135 : a1 ≠ b135 := Nat.ne_of_lt (Nat.lt_of_lt_of_le F116_115.lt (Nat.le_of_eq g135.symm))
  have ne_b3_b135 : b3 ≠ b135 := Nat.ne_of_lt (Nat.lt_of_lt_of_le F128_115.lt (Nat.le_of_eq g135.symm))
  have ne_b32_b135 : b32 ≠ b135 := Nat.ne_of_lt (Nat.lt_of_lt_of_le F129_115.lt (Nat.le_of_eq g135.symm))
  have ne_b63_b135 : b63 ≠ b135 := Nat.ne_of_lt (Nat.lt_of_lt_of_le F130_115.lt (Nat.le_of_eq g135.symm))
  have ne_b97_b135 : b97 ≠ b135 := Nat.ne_of_lt (Nat.lt_of_lt_of_le F132_115.lt (Nat.le_of_eq g135.symm))
  have sz_b135 : h0.size ≤ b135 := Nat.le_trans K115.1 (Nat.le_of_eq g135.symm)
  have K135 : Keep h0 h135 [a1] := K115.ext E135
  have F136_135 := F116_115.ext E135
  have F137_135 := F117_115.ext E135
  have F138_135 := F118_115.ext E135
  have F139_135 := F119_115.ext E135
  have F140_135 := F120_115.ext E135
  have F141_135 := F121_115.ext E135
  have F142_135 := Fw115.ext E135
  have F143_135 := F123_115.ext E135
  have F144_135 := F124_115.ext E135
  have F145_135 := F125_115.ext E135
  have F146_135 := F126_115.ext E135
  have F147_135 := F127_115.ext E135
  have F148_135 := F128_115.ext E135
  have F149_135 := F129_115.ext E135
  have F150_135 := F130_115.ext E135
  have F151_135 := F131_115.ext E135
  have F152_135 := F132_115.ext E135
  have F153_135 := F133_115.ext E135
  have V_b135 : Arf Z h135 b135 .int (1024 : Int32) (fun i => (.int ((fun _ => (0 : Int32)) i))) := Arf.new A135 (by decide)
  obtain ⟨T155, h155, X155, e155, W155, st155⟩ := putF X135 hx hZ hown (host := "") (Or.inl (hw _ (mgE 22 rfl))) Via.refl e135 F143_135 F138_135 (Or.inl (hw _ (mgE 23 rfl))) (hw _ (mgE 3 rfl)) (ty := (.array .int)) (by decide) rfl rfl (g := (mkF m 48 #[.val (.ref a1)] [(.ref b135), (.ref a1)])) rfl rfl (hb hby d1_48)
  have F156_155 := F136_135.other W155 (Or.inr (slot_ne (Or.inl (hw _ (mgE 51 rfl))) (Or.inl (hw _ (mgE 23 rfl))) (by decide) (t := .int) (t' := (.array .int)) (by decide) (by decide)))
  have F157_155 := F137_135.other W155 (Or.inr (slot_ne (Or.inl (hw _ (mgE 40 rfl))) (Or.inl (hw _ (mgE 23 rfl))) (by decide) (t := .long) (t' := (.array .int)) (by decide) (by decide)))
  have F158_155 := F138_135.wr W155
  have F159_155 := F139_135.other W155 (Or.inr (slot_ne (Or.inl (hw _ (mgE 13 rfl))) (Or.inl (hw _ (mgE 23 rfl))) (by decide) (t := (.array .int)) (t' := (.array .int)) (by decide) (by decide)))
  have F160_155 := F140_135.other W155 (Or.inr (slot_ne (Or.inl (hw _ (mgE 15 rfl))) (Or.inl (hw _ (mgE 23 rfl))) (by decide) (t := (.array .int)) (t' := (.array .int)) (by decide) (by decide)))
  have F161_155 := F141_135.other W155 (Or.inr (slot_ne (Or.inl (hw _ (mgE 19 rfl))) (Or.inl (hw _ (mgE 23 rfl))) (by decide) (t := (.array (.array .byte))) (t' := (.array .int)) (by decide) (by decide)))
  have F162_155 := F142_135.other W155 (Or.inr (slot_ne (Or.inl (hw _ (mgE 21 rfl))) (Or.inl (hw _ (mgE 23 rfl))) (by decide) (t := (.array (.array .byte))) (t' := (.array .int)) (by decide) (by decide)))
  have F164_155 := F144_135.other W155 (Or.inr (slot_ne (Or.inl (hw _ (mgE 25 rfl))) (Or.inl (hw _ (mgE 23 rfl))) (by decide) (t := (.array .int)) (t' := (.array .int)) (by decide) (by decide)))
  have F165_155 := F145_135.other W155 (Or.inr (slot_ne (Or.inl (hw _ (mgE 27 rfl))) (Or.inl (hw _ (mgE 23 rfl))) (by decide) (t := (.array .int)) (t' := (.array .int)) (by decide) (by decide)))
  have F166_155 := F146_135.other W155 (Or.inr (slot_ne (Or.inl (hw _ (mgE 29 rfl))) (Or.inl (hw _ (mgE 23 rfl))) (by decide) (t := (.array .int)) (t' := (.array .int)) (by decide) (by decide)))
  have F167_155 := F147_135.other W155 (Or.inr (slot_ne (Or.inl (hw _ (mgE 31 rfl))) (Or.inl (hw _ (mgE 23 rfl))) (by decide) (t := (.array .int)) (t' := (.array .int)) (by decide) (by decide)))
  have F168_155 := F148_135.other W155 (Ne.symm ne_a1_b3)
  have F169_155 := F149_135.other W155 (Ne.symm ne_a1_b32)
  have F170_155 := F150_135.other W155 (Ne.symm ne_a1_b63)
  have F171_155 := F151_135.wr W155
  have F172_155 := F152_135.other W155 (Ne.symm ne_a1_b97)
  have F173_155 := F153_135.wr W155
  have F174_155 := V_b135.other W155 (Ne.symm ne_a1_b135)
  have Fw155 := F143_135.same W155
  have K155 : Keep h0 h155 [a1] := K135.wr W155 (Or.inl (mgE 0 rfl))
  have N155 := Fr.snoc X155 N115 g_a1
  obtain ⟨T176, h176, k176, X176, e176, E176, A176, st176⟩ := newP X155 hx hZ (hw _ (mgE 11 rfl)) e155 (g := (mkF m 55 #[.val (.ref a1)] [(.int (1024 : Int32)), (.ref a1)])) rfl (hb hby d1_55) rfl (by decide) (cap := 1024) (by decide) (by decide) (by decide) (by decide)
  obtain ⟨b176, g176⟩ : ∃ z, z = h155.size := ⟨_, rfl⟩
  rw [← g176] at A176 st176
  have ne_a1_b176 : a1 ≠ b176 := Nat.ne_of_lt (Nat.lt_of_lt_of_le F156_155.lt (Nat.le_of_eq g176.symm))
  have ne_b3_b176 : b3 ≠ b176 := Nat.ne_of_lt (Nat.lt_of_lt_of_le F168_155.lt (Nat.le_of_eq g176.symm))
  have ne_b32_b176 : b32 ≠ b176 := Nat.ne_of_lt (Nat.lt_of_lt_of_le F169_155.lt (Nat.le_of_eq g176.symm))
  have ne_b63_b176 : b63 ≠ b176 := Nat.ne_of_lt (Nat.lt_of_lt_of_le F170_155.lt (Nat.le_of_eq g176.symm))
  have ne_b97_b176 : b97 ≠ b176 := Nat.ne_of_lt (Nat.lt_of_lt_of_le F172_155.lt (Nat.le_of_eq g176.symm))
  have ne_b135_b176 : b135 ≠ b176 := Nat.ne_of_lt (Nat.lt_of_lt_of_le F174_155.lt (Nat.le_of_eq g176.symm))
  have sz_b176 : h0.size ≤ b176 := Nat.le_trans K155.1 (Nat.le_of_eq g176.symm)
  have K176 : Keep h0 h176 [a1] := K155.ext E176
  have F177_176 := F156_155.ext E176
  have F178_176 := F157_155.ext E176
  have F179_176 := F158_155.ext E176
  have F180_176 := F159_155.ext E176
  have F181_176 := F160_155.ext E176
  have F182_176 := F161_155.ext E176
  have F183_176 := F162_155.ext E176
  have F184_176 := Fw155.ext E176
  have F185_176 := F164_155.ext E176
  have F186_176 := F165_155.ext E176
  have F187_176 := F166_155.ext E176
  have F188_176 := F167_155.ext E176
  have F189_176 := F168_155.ext E176
  have F190_176 := F169_155.ext E176
  have F191_176 := F170_155.ext E176
  have F192_176 := F171_155.ext E176
  have F193_176 := F172_155.ext E176
  have F194_176 := F173_155.ext E176
  have F195_176 := F174_155.ext E176
  have V_b176 : Arf Z h176 b176 .int (1024 : Int32) (fun i => (.int ((fun _ => (0 : Int32)) i))) := Arf.new A176 (by decide)
  obtain ⟨T197, h197, X197, e197, W197, st197⟩ := putF X176 hx hZ hown (host := "") (Or.inl (hw _ (mgE 24 rfl))) Via.refl e176 F185_176 F179_176 (Or.inl (hw _ (mgE 25 rfl))) (hw _ (mgE 3 rfl)) (ty := (.array .int)) (by decide) rfl rfl (g := (mkF m 57 #[.val (.ref a1)] [(.ref b176), (.ref a1)])) rfl rfl (hb hby d1_57)
  have F198_197 := F177_176.other W197 (Or.inr (slot_ne (Or.inl (hw _ (mgE 51 rfl))) (Or.inl (hw _ (mgE 25 rfl))) (by decide) (t := .int) (t' := (.array .int)) (by decide) (by decide)))
  have F199_197 := F178_176.other W197 (Or.inr (slot_ne (Or.inl (hw _ (mgE 40 rfl))) (Or.inl (hw _ (mgE 25 rfl))) (by decide) (t := .long) (t' := (.array .int)) (by decide) (by decide)))
  have F200_197 := F179_176.wr W197
  have F201_197 := F180_176.other W197 (Or.inr (slot_ne (Or.inl (hw _ (mgE 13 rfl))) (Or.inl (hw _ (mgE 25 rfl))) (by decide) (t := (.array .int)) (t' := (.array .int)) (by decide) (by decide)))
  have F202_197 := F181_176.other W197 (Or.inr (slot_ne (Or.inl (hw _ (mgE 15 rfl))) (Or.inl (hw _ (mgE 25 rfl))) (by decide) (t := (.array .int)) (t' := (.array .int)) (by decide) (by decide)))
  have F203_197 := F182_176.other W197 (Or.inr (slot_ne (Or.inl (hw _ (mgE 19 rfl))) (Or.inl (hw _ (mgE 25 rfl))) (by decide) (t := (.array (.array .byte))) (t' := (.array .int)) (by decide) (by decide)))
  have F204_197 := F183_176.other W197 (Or.inr (slot_ne (Or.inl (hw _ (mgE 21 rfl))) (Or.inl (hw _ (mgE 25 rfl))) (by decide) (t := (.array (.array .byte))) (t' := (.array .int)) (by decide) (by decide)))
  have F205_197 := F184_176.other W197 (Or.inr (slot_ne (Or.inl (hw _ (mgE 23 rfl))) (Or.inl (hw _ (mgE 25 rfl))) (by decide) (t := (.array .int)) (t' := (.array .int)) (by decide) (by decide)))
  have F207_197 := F186_176.other W197 (Or.inr (slot_ne (Or.inl (hw _ (mgE 27 rfl))) (Or.inl (hw _ (mgE 25 rfl))) (by decide) (t := (.array .int)) (t' := (.array .int)) (by decide) (by decide)))
  have F208_197 := F187_176.other W197 (Or.inr (slot_ne (Or.inl (hw _ (mgE 29 rfl))) (Or.inl (hw _ (mgE 25 rfl))) (by decide) (t := (.array .int)) (t' := (.array .int)) (by decide) (by decide)))
  have F209_197 := F188_176.other W197 (Or.inr (slot_ne (Or.inl (hw _ (mgE 31 rfl))) (Or.inl (hw _ (mgE 25 rfl))) (by decide) (t := (.array .int)) (t' := (.array .int)) (by decide) (by decide)))
  have F210_197 := F189_176.other W197 (Ne.symm ne_a1_b3)
  have F211_197 := F190_176.other W197 (Ne.symm ne_a1_b32)
  have F212_197 := F191_176.other W197 (Ne.symm ne_a1_b63)
  have F213_197 := F192_176.wr W197
  have F214_197 := F193_176.other W197 (Ne.symm ne_a1_b97)
  have F215_197 := F194_176.wr W197
  have F216_197 := F195_176.other W197 (Ne.symm ne_a1_b135)
  have F217_197 := V_b176.other W197 (Ne.symm ne_a1_b176)
  have Fw197 := F185_176.same W197
  have K197 : Keep h0 h197 [a1] := K176.wr W197 (Or.inl (mgE 0 rfl))
  have N197 := Fr.snoc X197 N155 g_a1
  obtain ⟨T219, h219, k219, X219, e219, E219, A219, st219⟩ := newP X197 hx hZ (hw _ (mgE 11 rfl)) e197 (g := (mkF m 62 #[.val (.ref a1)] [(.int (1 : Int32)), (.ref a1)])) rfl (hb hby d1_62) rfl (by decide) (cap := 1) (by decide) (by decide) (by decide) (by decide)
  obtain ⟨b219, g219⟩ : ∃ z, z = h197.size := ⟨_, rfl⟩
  rw [← g219] at A219 st219
  have ne_a1_b219 : a1 ≠ b219 := Nat.ne_of_lt (Nat.lt_of_lt_of_le F198_197.lt (Nat.le_of_eq g219.symm))
  have ne_b3_b219 : b3 ≠ b219 := Nat.ne_of_lt (Nat.lt_of_lt_of_le F210_197.lt (Nat.le_of_eq g219.symm))
  have ne_b32_b219 : b32 ≠ b219 := Nat.ne_of_lt (Nat.lt_of_lt_of_le F211_197.lt (Nat.le_of_eq g219.symm))
  have ne_b63_b219 : b63 ≠ b219 := Nat.ne_of_lt (Nat.lt_of_lt_of_le F212_197.lt (Nat.le_of_eq g219.symm))
  have ne_b97_b219 : b97 ≠ b219 := Nat.ne_of_lt (Nat.lt_of_lt_of_le F214_197.lt (Nat.le_of_eq g219.symm))
  have ne_b135_b219 : b135 ≠ b219 := Nat.ne_of_lt (Nat.lt_of_lt_of_le F216_197.lt (Nat.le_of_eq g219.symm))
  have ne_b176_b219 : b176 ≠ b219 := Nat.ne_of_lt (Nat.lt_of_lt_of_le F217_197.lt (Nat.le_of_eq g219.symm))
  have sz_b219 : h0.size ≤ b219 := Nat.le_trans K197.1 (Nat.le_of_eq g219.symm)
  have K219 : Keep h0 h219 [a1] := K197.ext E219
  have F220_219 := F198_197.ext E219
  have F221_219 := F199_197.ext E219
  have F222_219 := F200_197.ext E219
  have F223_219 := F201_197.ext E219
  have F224_219 := F202_197.ext E219
  have F225_219 := F203_197.ext E219
  have F226_219 := F204_197.ext E219
  have F227_219 := F205_197.ext E219
  have F228_219 := Fw197.ext E219
  have F229_219 := F207_197.ext E219
  have F230_219 := F208_197.ext E219
  have F231_219 := F209_197.ext E219
  have F232_219 := F210_197.ext E219
  have F233_219 := F211_197.ext E219
  have F234_219 := F212_197.ext E219
  have F235_219 := F213_197.ext E219
  have F236_219 := F214_197.ext E219
  have F237_219 := F215_197.ext E219
  have F238_219 := F216_197.ext E219
  have F239_219 := F217_197.ext E219
  have V_b219 : Arf Z h219 b219 .int (1 : Int32) (fun i => (.int ((fun _ => (0 : Int32)) i))) := Arf.new A219 (by decide)
  obtain ⟨T241, h241, X241, e241, W241, st241⟩ := putF X219 hx hZ hown (host := "") (Or.inl (hw _ (mgE 26 rfl))) Via.refl e219 F229_219 F222_219 (Or.inl (hw _ (mgE 27 rfl))) (hw _ (mgE 3 rfl)) (ty := (.array .int)) (by decide) rfl rfl (g := (mkF m 64 #[.val (.ref a1)] [(.ref b219), (.ref a1)])) rfl rfl (hb hby d1_64)
  have F242_241 := F220_219.other W241 (Or.inr (slot_ne (Or.inl (hw _ (mgE 51 rfl))) (Or.inl (hw _ (mgE 27 rfl))) (by decide) (t := .int) (t' := (.array .int)) (by decide) (by decide)))
  have F243_241 := F221_219.other W241 (Or.inr (slot_ne (Or.inl (hw _ (mgE 40 rfl))) (Or.inl (hw _ (mgE 27 rfl))) (by decide) (t := .long) (t' := (.array .int)) (by decide) (by decide)))
  have F244_241 := F222_219.wr W241
  have F245_241 := F223_219.other W241 (Or.inr (slot_ne (Or.inl (hw _ (mgE 13 rfl))) (Or.inl (hw _ (mgE 27 rfl))) (by decide) (t := (.array .int)) (t' := (.array .int)) (by decide) (by decide)))
  have F246_241 := F224_219.other W241 (Or.inr (slot_ne (Or.inl (hw _ (mgE 15 rfl))) (Or.inl (hw _ (mgE 27 rfl))) (by decide) (t := (.array .int)) (t' := (.array .int)) (by decide) (by decide)))
  have F247_241 := F225_219.other W241 (Or.inr (slot_ne (Or.inl (hw _ (mgE 19 rfl))) (Or.inl (hw _ (mgE 27 rfl))) (by decide) (t := (.array (.array .byte))) (t' := (.array .int)) (by decide) (by decide)))
  have F248_241 := F226_219.other W241 (Or.inr (slot_ne (Or.inl (hw _ (mgE 21 rfl))) (Or.inl (hw _ (mgE 27 rfl))) (by decide) (t := (.array (.array .byte))) (t' := (.array .int)) (by decide) (by decide)))
  have F249_241 := F227_219.other W241 (Or.inr (slot_ne (Or.inl (hw _ (mgE 23 rfl))) (Or.inl (hw _ (mgE 27 rfl))) (by decide) (t := (.array .int)) (t' := (.array .int)) (by decide) (by decide)))
  have F250_241 := F228_219.other W241 (Or.inr (slot_ne (Or.inl (hw _ (mgE 25 rfl))) (Or.inl (hw _ (mgE 27 rfl))) (by decide) (t := (.array .int)) (t' := (.array .int)) (by decide) (by decide)))
  have F252_241 := F230_219.other W241 (Or.inr (slot_ne (Or.inl (hw _ (mgE 29 rfl))) (Or.inl (hw _ (mgE 27 rfl))) (by decide) (t := (.array .int)) (t' := (.array .int)) (by decide) (by decide)))
  have F253_241 := F231_219.other W241 (Or.inr (slot_ne (Or.inl (hw _ (mgE 31 rfl))) (Or.inl (hw _ (mgE 27 rfl))) (by decide) (t := (.array .int)) (t' := (.array .int)) (by decide) (by decide)))
  have F254_241 := F232_219.other W241 (Ne.symm ne_a1_b3)
  have F255_241 := F233_219.other W241 (Ne.symm ne_a1_b32)
  have F256_241 := F234_219.other W241 (Ne.symm ne_a1_b63)
  have F257_241 := F235_219.wr W241
  have F258_241 := F236_219.other W241 (Ne.symm ne_a1_b97)
  have F259_241 := F237_219.wr W241
  have F260_241 := F238_219.other W241 (Ne.symm ne_a1_b135)
  have F261_241 := F239_219.other W241 (Ne.symm ne_a1_b176)
  have F262_241 := V_b219.other W241 (Ne.symm ne_a1_b219)
  have Fw241 := F229_219.same W241
  have K241 : Keep h0 h241 [a1] := K219.wr W241 (Or.inl (mgE 0 rfl))
  have N241 := Fr.snoc X241 N197 g_a1
  obtain ⟨T264, h264, k264, X264, e264, E264, A264, st264⟩ := newP X241 hx hZ (hw _ (mgE 11 rfl)) e241 (g := (mkF m 69 #[.val (.ref a1)] [(.int (0 : Int32)), (.ref a1)])) rfl (hb hby d1_69) rfl (by decide) (cap := 0) (by decide) (by decide) (by decide) (by decide)
  obtain ⟨b264, g264⟩ : ∃ z, z = h241.size := ⟨_, rfl⟩
  rw [← g264] at A264 st264
  have ne_a1_b264 : a1 ≠ b264 := Nat.ne_of_lt (Nat.lt_of_lt_of_le F242_241.lt (Nat.le_of_eq g264.symm))
  have ne_b3_b264 : b3 ≠ b264 := Nat.ne_of_lt (Nat.lt_of_lt_of_le F254_241.lt (Nat.le_of_eq g264.symm))
  have ne_b32_b264 : b32 ≠ b264 := Nat.ne_of_lt (Nat.lt_of_lt_of_le F255_241.lt (Nat.le_of_eq g264.symm))
  have ne_b63_b264 : b63 ≠ b264 := Nat.ne_of_lt (Nat.lt_of_lt_of_le F256_241.lt (Nat.le_of_eq g264.symm))
  have ne_b97_b264 : b97 ≠ b264 := Nat.ne_of_lt (Nat.lt_of_lt_of_le F258_241.lt (Nat.le_of_eq g264.symm))
  have ne_b135_b264 : b135 ≠ b264 := Nat.ne_of_lt (Nat.lt_of_lt_of_le F260_241.lt (Nat.le_of_eq g264.symm))
  have ne_b176_b264 : b176 ≠ b264 := Nat.ne_of_lt (Nat.lt_of_lt_of_le F261_241.lt (Nat.le_of_eq g264.symm))
  have ne_b219_b264 : b219 ≠ b264 := Nat.ne_of_lt (Nat.lt_of_lt_of_le F262_241.lt (Nat.le_of_eq g264.symm))
  have sz_b264 : h0.size ≤ b264 := Nat.le_trans K241.1 (Nat.le_of_eq g264.symm)
  have K264 : Keep h0 h264 [a1] := K241.ext E264
  have F265_264 := F242_241.ext E264
  have F266_264 := F243_241.ext E264
  have F267_264 := F244_241.ext E264
  have F268_264 := F245_241.ext E264
  have F269_264 := F246_241.ext E264
  have F270_264 := F247_241.ext E264
  have F271_264 := F248_241.ext E264
  have F272_264 := F249_241.ext E264
  have F273_264 := F250_241.ext E264
  have F274_264 := Fw241.ext E264
  have F275_264 := F252_241.ext E264
  have F276_264 := F253_241.ext E264
  have F277_264 := F254_241.ext E264
  have F278_264 := F255_241.ext E264
  have F279_264 := F256_241.ext E264
  have F280_264 := F257_241.ext E264
  have F281_264 := F258_241.ext E264
  have F282_264 := F259_241.ext E264
  have F283_264 := F260_241.ext E264
  have F284_264 := F261_241.ext E264
  have F285_264 := F262_241.ext E264
  have V_b264 : Arf Z h264 b264 .int (0 : Int32) (fun i => (.int ((fun _ => (0 : Int32)) i))) := Arf.new A264 (by decide)
  obtain ⟨T287, h287, X287, e287, W287, st287⟩ := putF X264 hx hZ hown (host := "") (Or.inl (hw _ (mgE 28 rfl))) Via.refl e264 F275_264 F267_264 (Or.inl (hw _ (mgE 29 rfl))) (hw _ (mgE 3 rfl)) (ty := (.array .int)) (by decide) rfl rfl (g := (mkF m 71 #[.val (.ref a1)] [(.ref b264), (.ref a1)])) rfl rfl (hb hby d1_71)
  have F288_287 := F265_264.other W287 (Or.inr (slot_ne (Or.inl (hw _ (mgE 51 rfl))) (Or.inl (hw _ (mgE 29 rfl))) (by decide) (t := .int) (t' := (.array .int)) (by decide) (by decide)))
  have F289_287 := F266_264.other W287 (Or.inr (slot_ne (Or.inl (hw _ (mgE 40 rfl))) (Or.inl (hw _ (mgE 29 rfl))) (by decide) (t := .long) (t' := (.array .int)) (by decide) (by decide)))
  have F290_287 := F267_264.wr W287
  have F291_287 := F268_264.other W287 (Or.inr (slot_ne (Or.inl (hw _ (mgE 13 rfl))) (Or.inl (hw _ (mgE 29 rfl))) (by decide) (t := (.array .int)) (t' := (.array .int)) (by decide) (by decide)))
  have F292_287 := F269_264.other W287 (Or.inr (slot_ne (Or.inl (hw _ (mgE 15 rfl))) (Or.inl (hw _ (mgE 29 rfl))) (by decide) (t := (.array .int)) (t' := (.array .int)) (by decide) (by decide)))
  have F293_287 := F270_264.other W287 (Or.inr (slot_ne (Or.inl (hw _ (mgE 19 rfl))) (Or.inl (hw _ (mgE 29 rfl))) (by decide) (t := (.array (.array .byte))) (t' := (.array .int)) (by decide) (by decide)))
  have F294_287 := F271_264.other W287 (Or.inr (slot_ne (Or.inl (hw _ (mgE 21 rfl))) (Or.inl (hw _ (mgE 29 rfl))) (by decide) (t := (.array (.array .byte))) (t' := (.array .int)) (by decide) (by decide)))
  have F295_287 := F272_264.other W287 (Or.inr (slot_ne (Or.inl (hw _ (mgE 23 rfl))) (Or.inl (hw _ (mgE 29 rfl))) (by decide) (t := (.array .int)) (t' := (.array .int)) (by decide) (by decide)))
  have F296_287 := F273_264.other W287 (Or.inr (slot_ne (Or.inl (hw _ (mgE 25 rfl))) (Or.inl (hw _ (mgE 29 rfl))) (by decide) (t := (.array .int)) (t' := (.array .int)) (by decide) (by decide)))
  have F297_287 := F274_264.other W287 (Or.inr (slot_ne (Or.inl (hw _ (mgE 27 rfl))) (Or.inl (hw _ (mgE 29 rfl))) (by decide) (t := (.array .int)) (t' := (.array .int)) (by decide) (by decide)))
  have F299_287 := F276_264.other W287 (Or.inr (slot_ne (Or.inl (hw _ (mgE 31 rfl))) (Or.inl (hw _ (mgE 29 rfl))) (by decide) (t := (.array .int)) (t' := (.array .int)) (by decide) (by decide)))
  have F300_287 := F277_264.other W287 (Ne.symm ne_a1_b3)
  have F301_287 := F278_264.other W287 (Ne.symm ne_a1_b32)
  have F302_287 := F279_264.other W287 (Ne.symm ne_a1_b63)
  have F303_287 := F280_264.wr W287
  have F304_287 := F281_264.other W287 (Ne.symm ne_a1_b97)
  have F305_287 := F282_264.wr W287
  have F306_287 := F283_264.other W287 (Ne.symm ne_a1_b135)
  have F307_287 := F284_264.other W287 (Ne.symm ne_a1_b176)
  have F308_287 := F285_264.other W287 (Ne.symm ne_a1_b219)
  have F309_287 := V_b264.other W287 (Ne.symm ne_a1_b264)
  have Fw287 := F275_264.same W287
  have K287 : Keep h0 h287 [a1] := K264.wr W287 (Or.inl (mgE 0 rfl))
  have N287 := Fr.snoc X287 N241 g_a1
  obtain ⟨T311, h311, k311, X311, e311, E311, A311, st311⟩ := newP X287 hx hZ (hw _ (mgE 11 rfl)) e287 (g := (mkF m 76 #[.val (.ref a1)] [(.int (1 : Int32)), (.ref a1)])) rfl (hb hby d1_76) rfl (by decide) (cap := 1) (by decide) (by decide) (by decide) (by decide)
  obtain ⟨b311, g311⟩ : ∃ z, z = h287.size := ⟨_, rfl⟩
  rw [← g311] at A311 st311
  have ne_a1_b311 : a1 ≠ b311 := Nat.ne_of_lt (Nat.lt_of_lt_of_le F288_287.lt (Nat.le_of_eq g311.symm))
  have ne_b3_b311 : b3 ≠ b311 := Nat.ne_of_lt (Nat.lt_of_lt_of_le F300_287.lt (Nat.le_of_eq g311.symm))
  have ne_b32_b311 : b32 ≠ b311 := Nat.ne_of_lt (Nat.lt_of_lt_of_le F301_287.lt (Nat.le_of_eq g311.symm))
  have ne_b63_b311 : b63 ≠ b311 := Nat.ne_of_lt (Nat.lt_of_lt_of_le F302_287.lt (Nat.le_of_eq g311.symm))
  have ne_b97_b311 : b97 ≠ b311 := Nat.ne_of_lt (Nat.lt_of_lt_of_le F304_287.lt (Nat.le_of_eq g311.symm))
  have ne_b135_b311 : b135 ≠ b311 := Nat.ne_of_lt (Nat.lt_of_lt_of_le F306_287.lt (Nat.le_of_eq g311.symm))
  have ne_b176_b311 : b176 ≠ b311 := Nat.ne_of_lt (Nat.lt_of_lt_of_le F307_287.lt (Nat.le_of_eq g311.symm))
  have ne_b219_b311 : b219 ≠ b311 := Nat.ne_of_lt (Nat.lt_of_lt_of_le F308_287.lt (Nat.le_of_eq g311.symm))
  have ne_b264_b311 : b264 ≠ b311 := Nat.ne_of_lt (Nat.lt_of_lt_of_le F309_287.lt (Nat.le_of_eq g311.symm))
  have sz_b311 : h0.size ≤ b311 := Nat.le_trans K287.1 (Nat.le_of_eq g311.symm)
  have K311 : Keep h0 h311 [a1] := K287.ext E311
  have F312_311 := F288_287.ext E311
  have F313_311 := F289_287.ext E311
  have F314_311 := F290_287.ext E311
  have F315_311 := F291_287.ext E311
  have F316_311 := F292_287.ext E311
  have F317_311 := F293_287.ext E311
  have F318_311 := F294_287.ext E311
  have F319_311 := F295_287.ext E311
  have F320_311 := F296_287.ext E311
  have F321_311 := F297_287.ext E311
  have F322_311 := Fw287.ext E311
  have F323_311 := F299_287.ext E311
  have F324_311 := F300_287.ext E311
  have F325_311 := F301_287.ext E311
  have F326_311 := F302_287.ext E311
  have F327_311 := F303_287.ext E311
  have F328_311 := F304_287.ext E311
  have F329_311 := F305_287.ext E311
  have F330_311 := F306_287.ext E311
  have F331_311 := F307_287.ext E311
  have F332_311 := F308_287.ext E311
  have F333_311 := F309_287.ext E311
  have V_b311 : Arf Z h311 b311 .int (1 : Int32) (fun i => (.int ((fun _ => (0 : Int32)) i))) := Arf.new A311 (by decide)
  obtain ⟨T335, h335, X335, e335, W335, st335⟩ := putF X311 hx hZ hown (host := "") (Or.inl (hw _ (mgE 30 rfl))) Via.refl e311 F323_311 F314_311 (Or.inl (hw _ (mgE 31 rfl))) (hw _ (mgE 3 rfl)) (ty := (.array .int)) (by decide) rfl rfl (g := (mkF m 78 #[.val (.ref a1)] [(.ref b311), (.ref a1)])) rfl rfl (hb hby d1_78)
  have F336_335 := F312_311.other W335 (Or.inr (slot_ne (Or.inl (hw _ (mgE 51 rfl))) (Or.inl (hw _ (mgE 31 rfl))) (by decide) (t := .int) (t' := (.array .int)) (by decide) (by decide)))
  have F337_335 := F313_311.other W335 (Or.inr (slot_ne (Or.inl (hw _ (mgE 40 rfl))) (Or.inl (hw _ (mgE 31 rfl))) (by decide) (t := .long) (t' := (.array .int)) (by decide) (by decide)))
  have F338_335 := F314_311.wr W335
  have F339_335 := F315_311.other W335 (Or.inr (slot_ne (Or.inl (hw _ (mgE 13 rfl))) (Or.inl (hw _ (mgE 31 rfl))) (by decide) (t := (.array .int)) (t' := (.array .int)) (by decide) (by decide)))
  have F340_335 := F316_311.other W335 (Or.inr (slot_ne (Or.inl (hw _ (mgE 15 rfl))) (Or.inl (hw _ (mgE 31 rfl))) (by decide) (t := (.array .int)) (t' := (.array .int)) (by decide) (by decide)))
  have F341_335 := F317_311.other W335 (Or.inr (slot_ne (Or.inl (hw _ (mgE 19 rfl))) (Or.inl (hw _ (mgE 31 rfl))) (by decide) (t := (.array (.array .byte))) (t' := (.array .int)) (by decide) (by decide)))
  have F342_335 := F318_311.other W335 (Or.inr (slot_ne (Or.inl (hw _ (mgE 21 rfl))) (Or.inl (hw _ (mgE 31 rfl))) (by decide) (t := (.array (.array .byte))) (t' := (.array .int)) (by decide) (by decide)))
  have F343_335 := F319_311.other W335 (Or.inr (slot_ne (Or.inl (hw _ (mgE 23 rfl))) (Or.inl (hw _ (mgE 31 rfl))) (by decide) (t := (.array .int)) (t' := (.array .int)) (by decide) (by decide)))
  have F344_335 := F320_311.other W335 (Or.inr (slot_ne (Or.inl (hw _ (mgE 25 rfl))) (Or.inl (hw _ (mgE 31 rfl))) (by decide) (t := (.array .int)) (t' := (.array .int)) (by decide) (by decide)))
  have F345_335 := F321_311.other W335 (Or.inr (slot_ne (Or.inl (hw _ (mgE 27 rfl))) (Or.inl (hw _ (mgE 31 rfl))) (by decide) (t := (.array .int)) (t' := (.array .int)) (by decide) (by decide)))
  have F346_335 := F322_311.other W335 (Or.inr (slot_ne (Or.inl (hw _ (mgE 29 rfl))) (Or.inl (hw _ (mgE 31 rfl))) (by decide) (t := (.array .int)) (t' := (.array .int)) (by decide) (by decide)))
  have F348_335 := F324_311.other W335 (Ne.symm ne_a1_b3)
  have F349_335 := F325_311.other W335 (Ne.symm ne_a1_b32)
  have F350_335 := F326_311.other W335 (Ne.symm ne_a1_b63)
  have F351_335 := F327_311.wr W335
  have F352_335 := F328_311.other W335 (Ne.symm ne_a1_b97)
  have F353_335 := F329_311.wr W335
  have F354_335 := F330_311.other W335 (Ne.symm ne_a1_b135)
  have F355_335 := F331_311.other W335 (Ne.symm ne_a1_b176)
  have F356_335 := F332_311.other W335 (Ne.symm ne_a1_b219)
  have F357_335 := F333_311.other W335 (Ne.symm ne_a1_b264)
  have F358_335 := V_b311.other W335 (Ne.symm ne_a1_b311)
  have Fw335 := F323_311.same W335
  have K335 : Keep h0 h335 [a1] := K311.wr W335 (Or.inl (mgE 0 rfl))
  have N335 := Fr.snoc X335 N287 g_a1
  have pre360 : ∀ t, Steps p.tables e below (T335.setTop (mkF m 81 #[.val (.ref a1)] [])) t → EN t := fun t kt => by
    refine pre0 t ?_
    refine XS.aloadN X0.here hx rfl (hb hby d1_0) rfl rfl ?_
    refine st1 t ?_
    refine XS.aloadN X1.here hx rfl (hb hby d1_4) rfl rfl ?_
    refine XS.sipush X1.here hx rfl (hb hby d1_5) ?_
    refine st3 t ?_
    refine st17 t ?_
    refine XS.aloadN X17.here hx rfl (hb hby d1_13) rfl rfl ?_
    refine XS.sipush X17.here hx rfl (hb hby d1_14) ?_
    refine st32 t ?_
    refine st47 t ?_
    show Steps p.tables e below (T47.setTop (mkF m 22 #[.val (.ref a1)] [])) _
    refine XS.aloadN X47.here hx rfl (hb hby d1_22) rfl rfl ?_
    refine XS.sipush X47.here hx rfl (hb hby d1_23) ?_
    refine st63 t ?_
    refine st79 t ?_
    refine XS.aloadN X79.here hx rfl (hb hby d1_32) rfl rfl ?_
    refine XS.sipush X79.here hx rfl (hb hby d1_33) ?_
    refine st97 t ?_
    refine st115 t ?_
    refine XS.aloadN X115.here hx rfl (hb hby d1_42) rfl rfl ?_
    refine XS.sipush X115.here hx rfl (hb hby d1_43) ?_
    show Steps p.tables e below (T115.setTop (mkF m 46 #[.val (.ref a1)] [(.int (1024 : Int32)), (.ref a1)])) _
    refine st135 t ?_
    refine st155 t ?_
    refine XS.aloadN X155.here hx rfl (hb hby d1_51) rfl rfl ?_
    refine XS.sipush X155.here hx rfl (hb hby d1_52) ?_
    refine st176 t ?_
    refine st197 t ?_
    refine XS.aloadN X197.here hx rfl (hb hby d1_60) rfl rfl ?_
    refine XS.iconst X197.here hx rfl (hb hby d1_61) ?_
    refine st219 t ?_
    refine st241 t ?_
    show Steps p.tables e below (T241.setTop (mkF m 67 #[.val (.ref a1)] [])) _
    refine XS.aloadN X241.here hx rfl (hb hby d1_67) rfl rfl ?_
    refine XS.iconst X241.here hx rfl (hb hby d1_68) ?_
    refine st264 t ?_
    refine st287 t ?_
    refine XS.aloadN X287.here hx rfl (hb hby d1_74) rfl rfl ?_
    refine XS.iconst X287.here hx rfl (hb hby d1_75) ?_
    refine st311 t ?_
    refine st335 t ?_
    exact kt
  obtain ⟨fs, hr, hrun, hended, hW, hsame⟩ := X335.leave (v := none) (fun _ => rfl)
  refine ⟨_, _, hEN _ (pre360 _ ?_), hrun, hended, _, _, rfl, ?_, ⟨_, rfl⟩, hW, hsame.mono (by decide) (by decide)⟩
  · exact X335.returnOut hx Bd.returns (hb hby d1_81) hr
  · show Q1 Z a1 u_target_a1 u_slot_a1 u_value_a1 u_taken_a1 u_sender_a1 u_position_a1 u_starts_a1 u_grouped_a1 u_next_a1 h0 n0 _ T335.heap _
    rw [e335]
    exact ⟨b264, b311, b176, b135, b32, b219, b97, b3, b63, rfl, N335, K335, sz_b264, sz_b311, sz_b176, sz_b135, sz_b32, sz_b219, sz_b97, sz_b3, sz_b63, ne_b264_b311, (Ne.symm ne_b176_b264), (Ne.symm ne_b176_b311), (Ne.symm ne_b135_b264), (Ne.symm ne_b135_b311), (Ne.symm ne_b135_b176), (Ne.symm ne_b32_b264), (Ne.symm ne_b32_b311), (Ne.symm ne_b32_b176), (Ne.symm ne_b32_b135), (Ne.symm ne_b219_b264), (Ne.symm ne_b219_b311), ne_b176_b219, ne_b135_b219, ne_b32_b219, (Ne.symm ne_b97_b264), (Ne.symm ne_b97_b311), (Ne.symm ne_b97_b176), (Ne.symm ne_b97_b135), ne_b32_b97, (Ne.symm ne_b97_b219), (Ne.symm ne_b3_b264), (Ne.symm ne_b3_b311), (Ne.symm ne_b3_b176), (Ne.symm ne_b3_b135), (Ne.symm ne_b3_b32), (Ne.symm ne_b3_b219), (Ne.symm ne_b3_b97), (Ne.symm ne_b63_b264), (Ne.symm ne_b63_b311), (Ne.symm ne_b63_b176), (Ne.symm ne_b63_b135), ne_b32_b63, (Ne.symm ne_b63_b219), (Ne.symm ne_b63_b97), ne_b3_b63, F338_335, F346_335, Fw335, F344_335, F343_335, F336_335, F340_335, F345_335, F342_335, F339_335, F341_335, F337_335, F353_335, F351_335, F357_335, F358_335, F355_335, F354_335, F349_335, F356_335, F352_335, F348_335, F350_335⟩
theorem d3_0 : decode prog_52_method_11_code 0 = .ok (.ldc2_w 128, 3) := by decide +kernel
theorem d3_3 : decode prog_52_method_11_code 3 = .ok (.lstore_n 1, 1) := by decide +kernel
theorem d3_4 : decode prog_52_method_11_code 4 = .ok (.lload_n 1, 1) := by decide +kernel
theorem d3_5 : decode prog_52_method_11_code 5 = .ok (.aload_n 0, 1) := by decide +kernel
theorem d3_6 : decode prog_52_method_11_code 6 = .ok (.getfield 9, 3) := by decide +kernel
theorem d3_9 : decode prog_52_method_11_code 9 = .ok (.arraylength, 1) := by decide +kernel
theorem d3_10 : decode prog_52_method_11_code 10 = .ok (.i2l, 1) := by decide +kernel
theorem d3_11 : decode prog_52_method_11_code 11 = .ok (.lmul, 1) := by decide +kernel
theorem d3_12 : decode prog_52_method_11_code 12 = .ok (.ldc2_w 130, 3) := by decide +kernel
theorem d3_15 : decode prog_52_method_11_code 15 = .ok (.aload_n 0, 1) := by decide +kernel
theorem d3_16 : decode prog_52_method_11_code 16 = .ok (.getfield 33, 3) := by decide +kernel
theorem d3_19 : decode prog_52_method_11_code 19 = .ok (.arraylength, 1) := by decide +kernel
theorem d3_20 : decode prog_52_method_11_code 20 = .ok (.aload_n 0, 1) := by decide +kernel
theorem d3_21 : decode prog_52_method_11_code 21 = .ok (.getfield 36, 3) := by decide +kernel
theorem d3_24 : decode prog_52_method_11_code 24 = .ok (.arraylength, 1) := by decide +kernel
theorem d3_25 : decode prog_52_method_11_code 25 = .ok (.iadd, 1) := by decide +kernel
theorem d3_26 : decode prog_52_method_11_code 26 = .ok (.aload_n 0, 1) := by decide +kernel
theorem d3_27 : decode prog_52_method_11_code 27 = .ok (.getfield 39, 3) := by decide +kernel
theorem d3_30 : decode prog_52_method_11_code 30 = .ok (.arraylength, 1) := by decide +kernel
theorem d3_31 : decode prog_52_method_11_code 31 = .ok (.iadd, 1) := by decide +kernel
theorem d3_32 : decode prog_52_method_11_code 32 = .ok (.i2l, 1) := by decide +kernel
theorem d3_33 : decode prog_52_method_11_code 33 = .ok (.lmul, 1) := by decide +kernel
theorem d3_34 : decode prog_52_method_11_code 34 = .ok (.ladd, 1) := by decide +kernel
theorem d3_35 : decode prog_52_method_11_code 35 = .ok (.aload_n 0, 1) := by decide +kernel
theorem d3_36 : decode prog_52_method_11_code 36 = .ok (.getfield 66, 3) := by decide +kernel
theorem d3_39 : decode prog_52_method_11_code 39 = .ok (.ladd, 1) := by decide +kernel
theorem d3_40 : decode prog_52_method_11_code 40 = .ok (.lreturn, 1) := by decide +kernel
theorem ef_3 (m : MethodId) (x0 : Addr) : entryFrame m #[(.ref x0)] 3 = mkF m 0 #[.val (.ref x0), .unset, .unset] [] := by first | (simp [entryFrame, mkF, argsToLocals, Value.category]; done) | rfl
def cst (z_w_target_a1 : Int32) (z_w_starts_a1 : Int32) (z_w_grouped_a1 : Int32) (z_w_next_a1 : Int32) (w_valuesCost_a1 : Int64) : Int64 := ((((24 : Int64) * (z_w_target_a1.toInt64)) + ((4 : Int64) * (((z_w_starts_a1 + z_w_grouped_a1) + z_w_next_a1).toInt64))) + w_valuesCost_a1)
def Q3 (Z : State) (a1 : Addr) (w_target_a1 : Addr) (z_w_target_a1 : Int32) (el_w_target_a1 : Nat → Int32) (w_starts_a1 : Addr) (z_w_starts_a1 : Int32) (el_w_starts_a1 : Nat → Int32) (w_grouped_a1 : Addr) (z_w_grouped_a1 : Int32) (el_w_grouped_a1 : Nat → Int32) (w_next_a1 : Addr) (z_w_next_a1 : Int32) (el_w_next_a1 : Nat → Int32) (w_valuesCost_a1 : Int64) (h0 : Heap) (n0 : Nat) (v : Option Value) (h : Heap) (L : List Loc) : Prop := v = some (.long (cst z_w_target_a1 z_w_starts_a1 z_w_grouped_a1 z_w_next_a1 w_valuesCost_a1)) ∧ Fr n0 L ∧ h = h0
set_option maxRecDepth 65536 in
set_option maxHeartbeats 40000000 in
theorem rm3 (l : Launch) (Z : State) (a0 : Array Value) (hw : ∀ d ∈ tables_1, d.before a0 Z = true) (ws : List Jvm.Cond) (a1 : Addr) (w_target_a1 : Addr) (z_w_target_a1 : Int32) (el_w_target_a1 : Nat → Int32) (w_starts_a1 : Addr) (z_w_starts_a1 : Int32) (el_w_starts_a1 : Nat → Int32) (w_grouped_a1 : Addr) (z_w_grouped_a1 : Int32) (el_w_grouped_a1 : Nat → Int32) (w_next_a1 : Addr) (z_w_next_a1 : Int32) (el_w_next_a1 : Nat → Int32) (w_valuesCost_a1 : Int64) (h0 : Heap) (n0 : Nat) (Z0 : n0 ≤ h0.size) (F_target_a1 : Fld Z h0 a1 "com/example/accrete/accrete/engine/Sendings" "target" "[I" (.ref w_target_a1)) (V_w_target_a1 : Arf Z h0 w_target_a1 .int z_w_target_a1 (fun i => (.int (el_w_target_a1 i)))) (F_starts_a1 : Fld Z h0 a1 "com/example/accrete/accrete/engine/Sendings" "starts" "[I" (.ref w_starts_a1)) (V_w_starts_a1 : Arf Z h0 w_starts_a1 .int z_w_starts_a1 (fun i => (.int (el_w_starts_a1 i)))) (F_grouped_a1 : Fld Z h0 a1 "com/example/accrete/accrete/engine/Sendings" "grouped" "[I" (.ref w_grouped_a1)) (V_w_grouped_a1 : Arf Z h0 w_grouped_a1 .int z_w_grouped_a1 (fun i => (.int (el_w_grouped_a1 i)))) (F_next_a1 : Fld Z h0 a1 "com/example/accrete/accrete/engine/Sendings" "next" "[I" (.ref w_next_a1)) (V_w_next_a1 : Arf Z h0 w_next_a1 .int z_w_next_a1 (fun i => (.int (el_w_next_a1 i)))) (F_valuesCost_a1 : Fld Z h0 a1 "com/example/accrete/accrete/engine/Sendings" "valuesCost" "J" (.long w_valuesCost_a1)) :
    MetFree l (⟨"com/example/accrete/accrete/engine/Sendings", "cost", "()J"⟩ : MethodName) (head1 (Jvm.Cond.code (⟨"com/example/accrete/accrete/engine/Sendings", "cost", "()J"⟩ : MethodName) prog_52_method_11_code 3 (some .long) :: ws) ({ frames := 0, cells := 0, slots := 0, locals := 0 } : Room)) (fun a U => a = #[(.ref a1)] ∧ Z.Warmed39 U.vm ∧ U.heap = h0) (fun _ _ _ _ _ => True) (fun _ U o U' => ∃ v L, o = .returned v ∧ Q3 Z a1 w_target_a1 z_w_target_a1 el_w_target_a1 w_starts_a1 z_w_starts_a1 el_w_starts_a1 w_grouped_a1 z_w_grouped_a1 el_w_grouped_a1 w_next_a1 z_w_next_a1 el_w_next_a1 w_valuesCost_a1 h0 n0 v U'.heap L ∧ FrameEnd U o U' L ({ frames := 0, cells := 0, slots := 0, locals := 0 } : Room).cells ({ frames := 0, cells := 0, slots := 0, locals := 0 } : Room).slots) := by
  refine MetFree.of_bodySF (plainFor_of_name pn_com_example_accrete_accrete_engine_Sendings) hisR ?_
  intro p e s m args below meth c s₁ Bd hml0 hP hK
  obtain ⟨rfl, hZ, hh⟩ := hP
  have hx := Bd.exec
  have hby := Bd.bytes
  have hml : c.maxLocals = 3 := hml0
  have hown : s.vm.findClass "com/example/accrete/accrete/engine/Sendings" = some m.cls := findClass_of_methodNamed Bd.named
  have hnm := (name_of_methodNamed Bd.named Bd.method).1
  have X0 : Stand p l e ({ frames := 0, cells := 0, slots := 0, locals := 0 } : Room) s m #[(.ref a1)] below meth c s₁ [] 0 0 := Stand.of_body Bd
  have e0 : s₁.heap = h0 := by rw [← hh, Bd.state]; rfl
  have N0 := Fr.nil n0
  have pre0 : ∀ t, Steps p.tables e below (s₁.setTop (mkF m 0 #[.val (.ref a1), .unset, .unset] [])) t → Steps p.tables e below (s₁.setTop (entryFrame m #[(.ref a1)] 3)) t := fun t k => castTop (ef_3 m a1) k
  have pre1 : ∀ t, Steps p.tables e below (s₁.setTop (mkF m 6 #[.val (.ref a1), .val (.long (24 : Int64)), .second] [(.ref a1), (.long (24 : Int64))])) t → Steps p.tables e below (s₁.setTop (entryFrame m #[(.ref a1)] 3)) t := fun t kt => by
    refine pre0 t ?_
    refine X0.ldc2Long hx hown (mvT hZ (hw _ (mgE 37 rfl))) (g := (mkF m 0 #[.val (.ref a1), .unset, .unset] [])) rfl (hb hby d3_0) _ ?_
    show Steps p.tables e below (s₁.setTop (mkF m 3 #[.val (.ref a1), .unset, .unset] [(.long (24 : Int64))])) _
    refine XS.lstoreN X0.here hx rfl (hb hby d3_3) rfl (l' := #[.val (.ref a1), .val (.long (24 : Int64)), .second]) rfl ?_
    show Steps p.tables e below (s₁.setTop (mkF m 4 #[.val (.ref a1), .val (.long (24 : Int64)), .second] [])) _
    refine XS.lloadN X0.here hx rfl (hb hby d3_4) rfl ?_
    show Steps p.tables e below (s₁.setTop (mkF m 5 #[.val (.ref a1), .val (.long (24 : Int64)), .second] [(.long (24 : Int64))])) _
    refine XS.aloadN X0.here hx rfl (hb hby d3_5) rfl rfl ?_
    show Steps p.tables e below (s₁.setTop (mkF m 6 #[.val (.ref a1), .val (.long (24 : Int64)), .second] [(.ref a1), (.long (24 : Int64))])) _
    exact kt
  obtain ⟨T2, X2, e2, st2⟩ := getF X0 hx hZ hown (host := "") (Or.inl (hw _ (mgE 12 rfl))) Via.refl e0 F_target_a1 (g := (mkF m 6 #[.val (.ref a1), .val (.long (24 : Int64)), .second] [(.ref a1), (.long (24 : Int64))])) rfl rfl (hb hby d3_6)
  have pre3 : ∀ t, Steps p.tables e below (T2.setTop (mkF m 9 #[.val (.ref a1), .val (.long (24 : Int64)), .second] [(.ref w_target_a1), (.long (24 : Int64))])) t → Steps p.tables e below (s₁.setTop (entryFrame m #[(.ref a1)] 3)) t := fun t kt => pre1 t (st2 t kt)
  obtain ⟨cl4, Ar4, S4, Ng4, H4⟩ := id V_w_target_a1
  have pre5 : ∀ t, Steps p.tables e below (T2.setTop (mkF m 16 #[.val (.ref a1), .val (.long (24 : Int64)), .second] [(.ref a1), (.long (4 : Int64)), (.long ((24 : Int64) * (z_w_target_a1.toInt64)))])) t → Steps p.tables e below (s₁.setTop (entryFrame m #[(.ref a1)] 3)) t := fun t kt => by
    refine pre3 t ?_
    refine X2.arraylength hx (by rw [e2]; exact Ar4.1) (State.isArrayOf_alike hZ.alike Ar4.2.1) (g := (mkF m 9 #[.val (.ref a1), .val (.long (24 : Int64)), .second] [(.ref w_target_a1), (.long (24 : Int64))])) rfl rfl (hb hby d3_9) _ ?_
    rw [len_of S4 Ng4]
    show Steps p.tables e below (T2.setTop (mkF m 10 #[.val (.ref a1), .val (.long (24 : Int64)), .second] [(.int z_w_target_a1), (.long (24 : Int64))])) _
    refine XS.i2l X2.here hx rfl (hb hby d3_10) rfl ?_
    show Steps p.tables e below (T2.setTop (mkF m 11 #[.val (.ref a1), .val (.long (24 : Int64)), .second] [(.long (z_w_target_a1.toInt64)), (.long (24 : Int64))])) _
    refine XS.lmul X2.here hx rfl (hb hby d3_11) rfl ?_
    show Steps p.tables e below (T2.setTop (mkF m 12 #[.val (.ref a1), .val (.long (24 : Int64)), .second] [(.long ((24 : Int64) * (z_w_target_a1.toInt64)))])) _
    refine X2.ldc2Long hx hown (mvT hZ (hw _ (mgE 38 rfl))) (g := (mkF m 12 #[.val (.ref a1), .val (.long (24 : Int64)), .second] [(.long ((24 : Int64) * (z_w_target_a1.toInt64)))])) rfl (hb hby d3_12) _ ?_
    show Steps p.tables e below (T2.setTop (mkF m 15 #[.val (.ref a1), .val (.long (24 : Int64)), .second] [(.long (4 : Int64)), (.long ((24 : Int64) * (z_w_target_a1.toInt64)))])) _
    refine XS.aloadN X2.here hx rfl (hb hby d3_15) rfl rfl ?_
    show Steps p.tables e below (T2.setTop (mkF m 16 #[.val (.ref a1), .val (.long (24 : Int64)), .second] [(.ref a1), (.long (4 : Int64)), (.long ((24 : Int64) * (z_w_target_a1.toInt64)))])) _
    exact kt
  obtain ⟨T6, X6, e6, st6⟩ := getF X2 hx hZ hown (host := "") (Or.inl (hw _ (mgE 26 rfl))) Via.refl e2 F_starts_a1 (g := (mkF m 16 #[.val (.ref a1), .val (.long (24 : Int64)), .second] [(.ref a1), (.long (4 : Int64)), (.long ((24 : Int64) * (z_w_target_a1.toInt64)))])) rfl rfl (hb hby d3_16)
  have pre7 : ∀ t, Steps p.tables e below (T6.setTop (mkF m 19 #[.val (.ref a1), .val (.long (24 : Int64)), .second] [(.ref w_starts_a1), (.long (4 : Int64)), (.long ((24 : Int64) * (z_w_target_a1.toInt64)))])) t → Steps p.tables e below (s₁.setTop (entryFrame m #[(.ref a1)] 3)) t := fun t kt => pre5 t (st6 t kt)
  obtain ⟨cl8, Ar8, S8, Ng8, H8⟩ := id V_w_starts_a1
  have pre9 : ∀ t, Steps p.tables e below (T6.setTop (mkF m 21 #[.val (.ref a1), .val (.long (24 : Int64)), .second] [(.ref a1), (.int z_w_starts_a1), (.long (4 : Int64)), (.long ((24 : Int64) * (z_w_target_a1.toInt64)))])) t → Steps p.tables e below (s₁.setTop (entryFrame m #[(.ref a1)] 3)) t := fun t kt => by
    refine pre7 t ?_
    refine X6.arraylength hx (by rw [e6]; exact Ar8.1) (State.isArrayOf_alike hZ.alike Ar8.2.1) (g := (mkF m 19 #[.val (.ref a1), .val (.long (24 : Int64)), .second] [(.ref w_starts_a1), (.long (4 : Int64)), (.long ((24 : Int64) * (z_w_target_a1.toInt64)))])) rfl rfl (hb hby d3_19) _ ?_
    rw [len_of S8 Ng8]
    show Steps p.tables e below (T6.setTop (mkF m 20 #[.val (.ref a1), .val (.long (24 : Int64)), .second] [(.int z_w_starts_a1), (.long (4 : Int64)), (.long ((24 : Int64) * (z_w_target_a1.toInt64)))])) _
    refine XS.aloadN X6.here hx rfl (hb hby d3_20) rfl rfl ?_
    show Steps p.tables e below (T6.setTop (mkF m 21 #[.val (.ref a1), .val (.long (24 : Int64)), .second] [(.ref a1), (.int z_w_starts_a1), (.long (4 : Int64)), (.long ((24 : Int64) * (z_w_target_a1.toInt64)))])) _
    exact kt
  obtain ⟨T10, X10, e10, st10⟩ := getF X6 hx hZ hown (host := "") (Or.inl (hw _ (mgE 28 rfl))) Via.refl e6 F_grouped_a1 (g := (mkF m 21 #[.val (.ref a1), .val (.long (24 : Int64)), .second] [(.ref a1), (.int z_w_starts_a1), (.long (4 : Int64)), (.long ((24 : Int64) * (z_w_target_a1.toInt64)))])) rfl rfl (hb hby d3_21)
  have pre11 : ∀ t, Steps p.tables e below (T10.setTop (mkF m 24 #[.val (.ref a1), .val (.long (24 : Int64)), .second] [(.ref w_grouped_a1), (.int z_w_starts_a1), (.long (4 : Int64)), (.long ((24 : Int64) * (z_w_target_a1.toInt64)))])) t → Steps p.tables e below (s₁.setTop (entryFrame m #[(.ref a1)] 3)) t := fun t kt => pre9 t (st10 t kt)
  obtain ⟨cl12, Ar12, S12, Ng12, H12⟩ := id V_w_grouped_a1
  have pre13 : ∀ t, Steps p.tables e below (T10.setTop (mkF m 27 #[.val (.ref a1), .val (.long (24 : Int64)), .second] [(.ref a1), (.int (z_w_starts_a1 + z_w_grouped_a1)), (.long (4 : Int64)), (.long ((24 : Int64) * (z_w_target_a1.toInt64)))])) t → Steps p.tables e below (s₁.setTop (entryFrame m #[(.ref a1)] 3)) t := fun t kt => by
    refine pre11 t ?_
    refine X10.arraylength hx (by rw [e10]; exact Ar12.1) (State.isArrayOf_alike hZ.alike Ar12.2.1) (g := (mkF m 24 #[.val (.ref a1), .val (.long (24 : Int64)), .second] [(.ref w_grouped_a1), (.int z_w_starts_a1), (.long (4 : Int64)), (.long ((24 : Int64) * (z_w_target_a1.toInt64)))])) rfl rfl (hb hby d3_24) _ ?_
    rw [len_of S12 Ng12]
    show Steps p.tables e below (T10.setTop (mkF m 25 #[.val (.ref a1), .val (.long (24 : Int64)), .second] [(.int z_w_grouped_a1), (.int z_w_starts_a1), (.long (4 : Int64)), (.long ((24 : Int64) * (z_w_target_a1.toInt64)))])) _
    refine XS.iadd X10.here hx rfl (hb hby d3_25) rfl ?_
    show Steps p.tables e below (T10.setTop (mkF m 26 #[.val (.ref a1), .val (.long (24 : Int64)), .second] [(.int (z_w_starts_a1 + z_w_grouped_a1)), (.long (4 : Int64)), (.long ((24 : Int64) * (z_w_target_a1.toInt64)))])) _
    refine XS.aloadN X10.here hx rfl (hb hby d3_26) rfl rfl ?_
    show Steps p.tables e below (T10.setTop (mkF m 27 #[.val (.ref a1), .val (.long (24 : Int64)), .second] [(.ref a1), (.int (z_w_starts_a1 + z_w_grouped_a1)), (.long (4 : Int64)), (.long ((24 : Int64) * (z_w_target_a1.toInt64)))])) _
    exact kt
  obtain ⟨T14, X14, e14, st14⟩ := getF X10 hx hZ hown (host := "") (Or.inl (hw _ (mgE 30 rfl))) Via.refl e10 F_next_a1 (g := (mkF m 27 #[.val (.ref a1), .val (.long (24 : Int64)), .second] [(.ref a1), (.int (z_w_starts_a1 + z_w_grouped_a1)), (.long (4 : Int64)), (.long ((24 : Int64) * (z_w_target_a1.toInt64)))])) rfl rfl (hb hby d3_27)
  have pre15 : ∀ t, Steps p.tables e below (T14.setTop (mkF m 30 #[.val (.ref a1), .val (.long (24 : Int64)), .second] [(.ref w_next_a1), (.int (z_w_starts_a1 + z_w_grouped_a1)), (.long (4 : Int64)), (.long ((24 : Int64) * (z_w_target_a1.toInt64)))])) t → Steps p.tables e below (s₁.setTop (entryFrame m #[(.ref a1)] 3)) t := fun t kt => pre13 t (st14 t kt)
  obtain ⟨cl16, Ar16, S16, Ng16, H16⟩ := id V_w_next_a1
  have pre17 : ∀ t, Steps p.tables e below (T14.setTop (mkF m 36 #[.val (.ref a1), .val (.long (24 : Int64)), .second] [(.ref a1), (.long (((24 : Int64) * (z_w_target_a1.toInt64)) + ((4 : Int64) * (((z_w_starts_a1 + z_w_grouped_a1) + z_w_next_a1).toInt64))))])) t → Steps p.tables e below (s₁.setTop (entryFrame m #[(.ref a1)] 3)) t := fun t kt => by
    refine pre15 t ?_
    refine X14.arraylength hx (by rw [e14]; exact Ar16.1) (State.isArrayOf_alike hZ.alike Ar16.2.1) (g := (mkF m 30 #[.val (.ref a1), .val (.long (24 : Int64)), .second] [(.ref w_next_a1), (.int (z_w_starts_a1 + z_w_grouped_a1)), (.long (4 : Int64)), (.long ((24 : Int64) * (z_w_target_a1.toInt64)))])) rfl rfl (hb hby d3_30) _ ?_
    rw [len_of S16 Ng16]
    show Steps p.tables e below (T14.setTop (mkF m 31 #[.val (.ref a1), .val (.long (24 : Int64)), .second] [(.int z_w_next_a1), (.int (z_w_starts_a1 + z_w_grouped_a1)), (.long (4 : Int64)), (.long ((24 : Int64) * (z_w_target_a1.toInt64)))])) _
    refine XS.iadd X14.here hx rfl (hb hby d3_31) rfl ?_
    show Steps p.tables e below (T14.setTop (mkF m 32 #[.val (.ref a1), .val (.long (24 : Int64)), .second] [(.int ((z_w_starts_a1 + z_w_grouped_a1) + z_w_next_a1)), (.long (4 : Int64)), (.long ((24 : Int64) * (z_w_target_a1.toInt64)))])) _
    refine XS.i2l X14.here hx rfl (hb hby d3_32) rfl ?_
    show Steps p.tables e below (T14.setTop (mkF m 33 #[.val (.ref a1), .val (.long (24 : Int64)), .second] [(.long (((z_w_starts_a1 + z_w_grouped_a1) + z_w_next_a1).toInt64)), (.long (4 : Int64)), (.long ((24 : Int64) * (z_w_target_a1.toInt64)))])) _
    refine XS.lmul X14.here hx rfl (hb hby d3_33) rfl ?_
    show Steps p.tables e below (T14.setTop (mkF m 34 #[.val (.ref a1), .val (.long (24 : Int64)), .second] [(.long ((4 : Int64) * (((z_w_starts_a1 + z_w_grouped_a1) + z_w_next_a1).toInt64))), (.long ((24 : Int64) * (z_w_target_a1.toInt64)))])) _
    refine XS.ladd X14.here hx rfl (hb hby d3_34) rfl ?_
    show Steps p.tables e below (T14.setTop (mkF m 35 #[.val (.ref a1), .val (.long (24 : Int64)), .second] [(.long (((24 : Int64) * (z_w_target_a1.toInt64)) + ((4 : Int64) * (((z_w_starts_a1 + z_w_grouped_a1) + z_w_next_a1).toInt64))))])) _
    refine XS.aloadN X14.here hx rfl (hb hby d3_35) rfl rfl ?_
    show Steps p.tables e below (T14.setTop (mkF m 36 #[.val (.ref a1), .val (.long (24 : Int64)), .second] [(.ref a1), (.long (((24 : Int64) * (z_w_target_a1.toInt64)) + ((4 : Int64) * (((z_w_starts_a1 + z_w_grouped_a1) + z_w_next_a1).toInt64))))])) _
    exact kt
  obtain ⟨T18, X18, e18, st18⟩ := getF X14 hx hZ hown (host := "") (Or.inl (hw _ (mgE 39 rfl))) Via.refl e14 F_valuesCost_a1 (g := (mkF m 36 #[.val (.ref a1), .val (.long (24 : Int64)), .second] [(.ref a1), (.long (((24 : Int64) * (z_w_target_a1.toInt64)) + ((4 : Int64) * (((z_w_starts_a1 + z_w_grouped_a1) + z_w_next_a1).toInt64))))])) rfl rfl (hb hby d3_36)
  have pre19 : ∀ t, Steps p.tables e below (T18.setTop (mkF m 39 #[.val (.ref a1), .val (.long (24 : Int64)), .second] [(.long w_valuesCost_a1), (.long (((24 : Int64) * (z_w_target_a1.toInt64)) + ((4 : Int64) * (((z_w_starts_a1 + z_w_grouped_a1) + z_w_next_a1).toInt64))))])) t → Steps p.tables e below (s₁.setTop (entryFrame m #[(.ref a1)] 3)) t := fun t kt => pre17 t (st18 t kt)
  have pre20 : ∀ t, Steps p.tables e below (T18.setTop (mkF m 40 #[.val (.ref a1), .val (.long (24 : Int64)), .second] [(.long ((((24 : Int64) * (z_w_target_a1.toInt64)) + ((4 : Int64) * (((z_w_starts_a1 + z_w_grouped_a1) + z_w_next_a1).toInt64))) + w_valuesCost_a1))])) t → Steps p.tables e below (s₁.setTop (entryFrame m #[(.ref a1)] 3)) t := fun t kt => by
    refine pre19 t ?_
    refine XS.ladd X18.here hx rfl (hb hby d3_39) rfl ?_
    show Steps p.tables e below (T18.setTop (mkF m 40 #[.val (.ref a1), .val (.long (24 : Int64)), .second] [(.long ((((24 : Int64) * (z_w_target_a1.toInt64)) + ((4 : Int64) * (((z_w_starts_a1 + z_w_grouped_a1) + z_w_next_a1).toInt64))) + w_valuesCost_a1))])) _
    exact kt
  obtain ⟨fs, hr, hrun, hended, hW, hsame⟩ := X18.leave (v := some (.long ((((24 : Int64) * (z_w_target_a1.toInt64)) + ((4 : Int64) * (((z_w_starts_a1 + z_w_grouped_a1) + z_w_next_a1).toInt64))) + w_valuesCost_a1))) (fun h => by rw [Bd.returns] at h; cases h)
  refine ⟨_, _, pre20 _ ?_, hrun, hended, _, _, rfl, ?_, ⟨_, rfl⟩, hW, hsame.mono (by decide) (by decide)⟩
  · exact retJ X18 hx Bd.returns (hb hby d3_40) hr
  · show Q3 Z a1 w_target_a1 z_w_target_a1 el_w_target_a1 w_starts_a1 z_w_starts_a1 el_w_starts_a1 w_grouped_a1 z_w_grouped_a1 el_w_grouped_a1 w_next_a1 z_w_next_a1 el_w_next_a1 w_valuesCost_a1 h0 n0 _ T18.heap _
    rw [e18]
    exact ⟨by first | rfl | (simp only [cst]), N0, rfl⟩
theorem d6_0 : decode prog_52_method_7_code 0 = .ok (.aload_n 0, 1) := by decide +kernel
theorem d6_1 : decode prog_52_method_7_code 1 = .ok (.ifnonnull 7, 3) := by decide +kernel
theorem d6_8 : decode prog_52_method_7_code 8 = .ok (.bipush 16, 2) := by decide +kernel
theorem d6_10 : decode prog_52_method_7_code 10 = .ok (.aload_n 0, 1) := by decide +kernel
theorem d6_11 : decode prog_52_method_7_code 11 = .ok (.arraylength, 1) := by decide +kernel
theorem d6_12 : decode prog_52_method_7_code 12 = .ok (.iadd, 1) := by decide +kernel
theorem d6_13 : decode prog_52_method_7_code 13 = .ok (.i2l, 1) := by decide +kernel
theorem d6_14 : decode prog_52_method_7_code 14 = .ok (.lreturn, 1) := by decide +kernel
theorem ef_6 (m : MethodId) (x0 : Addr) : entryFrame m #[(.ref x0)] 1 = mkF m 0 #[.val (.ref x0)] [] := by first | (simp [entryFrame, mkF, argsToLocals, Value.category]; done) | rfl
def Q6 (Z : State) (a1 : Addr) (z_a1 : Int32) (el_a1 : Nat → Int32) (h0 : Heap) (n0 : Nat) (v : Option Value) (h : Heap) (L : List Loc) : Prop := v = some (.long (((16 : Int32) + z_a1).toInt64)) ∧ Fr n0 L ∧ h = h0
set_option maxRecDepth 65536 in
set_option maxHeartbeats 40000000 in
theorem rm6 (l : Launch) (Z : State) (a0 : Array Value) (hw : ∀ d ∈ tables_1, d.before a0 Z = true) (ws : List Jvm.Cond) (a1 : Addr) (z_a1 : Int32) (el_a1 : Nat → Int32) (h0 : Heap) (n0 : Nat) (Z0 : n0 ≤ h0.size) (V_a1 : Arf Z h0 a1 .byte z_a1 (fun i => (.int (el_a1 i)))) :
    MetFree l (⟨"com/example/accrete/accrete/engine/Sendings", "cost", "([B)J"⟩ : MethodName) (head1 (Jvm.Cond.code (⟨"com/example/accrete/accrete/engine/Sendings", "cost", "([B)J"⟩ : MethodName) prog_52_method_7_code 1 (some .long) :: ws) ({ frames := 0, cells := 0, slots := 0, locals := 0 } : Room)) (fun a U => a = #[(.ref a1)] ∧ Z.Warmed39 U.vm ∧ U.heap = h0) (fun _ _ _ _ _ => True) (fun _ U o U' => ∃ v L, o = .returned v ∧ Q6 Z a1 z_a1 el_a1 h0 n0 v U'.heap L ∧ FrameEnd U o U' L ({ frames := 0, cells := 0, slots := 0, locals := 0 } : Room).cells ({ frames := 0, cells := 0, slots := 0, locals := 0 } : Room).slots) := by
  refine MetFree.of_bodySF (plainFor_of_name pn_com_example_accrete_accrete_engine_Sendings) hisR ?_
  intro p e s m args below meth c s₁ Bd hml0 hP hK
  obtain ⟨rfl, hZ, hh⟩ := hP
  have hx := Bd.exec
  have hby := Bd.bytes
  have hml : c.maxLocals = 1 := hml0
  have hown : s.vm.findClass "com/example/accrete/accrete/engine/Sendings" = some m.cls := findClass_of_methodNamed Bd.named
  have hnm := (name_of_methodNamed Bd.named Bd.method).1
  have X0 : Stand p l e ({ frames := 0, cells := 0, slots := 0, locals := 0 } : Room) s m #[(.ref a1)] below meth c s₁ [] 0 0 := Stand.of_body Bd
  have e0 : s₁.heap = h0 := by rw [← hh, Bd.state]; rfl
  have N0 := Fr.nil n0
  have pre0 : ∀ t, Steps p.tables e below (s₁.setTop (mkF m 0 #[.val (.ref a1)] [])) t → Steps p.tables e below (s₁.setTop (entryFrame m #[(.ref a1)] 1)) t := fun t k => castTop (ef_6 m a1) k
  have pre1 : ∀ t, Steps p.tables e below (s₁.setTop (mkF m 11 #[.val (.ref a1)] [(.ref a1), (.int (16 : Int32))])) t → Steps p.tables e below (s₁.setTop (entryFrame m #[(.ref a1)] 1)) t := fun t kt => by
    refine pre0 t ?_
    refine XS.aloadN X0.here hx rfl (hb hby d6_0) rfl rfl ?_
    show Steps p.tables e below (s₁.setTop (mkF m 1 #[.val (.ref a1)] [(.ref a1)])) _
    refine XS.ifnonnullYes X0.here hx rfl (pc0 := 1) (pc' := 8) rfl (hb hby d6_1) rfl (by decide) (by decide) ?_
    show Steps p.tables e below (s₁.setTop (mkF m 8 #[.val (.ref a1)] [])) _
    refine XS.bipush X0.here hx rfl (hb hby d6_8) ?_
    show Steps p.tables e below (s₁.setTop (mkF m 10 #[.val (.ref a1)] [(.int (16 : Int32))])) _
    refine XS.aloadN X0.here hx rfl (hb hby d6_10) rfl rfl ?_
    show Steps p.tables e below (s₁.setTop (mkF m 11 #[.val (.ref a1)] [(.ref a1), (.int (16 : Int32))])) _
    exact kt
  obtain ⟨cl2, Ar2, S2, Ng2, H2⟩ := id V_a1
  have pre3 : ∀ t, Steps p.tables e below (s₁.setTop (mkF m 14 #[.val (.ref a1)] [(.long (((16 : Int32) + z_a1).toInt64))])) t → Steps p.tables e below (s₁.setTop (entryFrame m #[(.ref a1)] 1)) t := fun t kt => by
    refine pre1 t ?_
    refine X0.arraylength hx (by rw [e0]; exact Ar2.1) (State.isArrayOf_alike hZ.alike Ar2.2.1) (g := (mkF m 11 #[.val (.ref a1)] [(.ref a1), (.int (16 : Int32))])) rfl rfl (hb hby d6_11) _ ?_
    rw [len_of S2 Ng2]
    show Steps p.tables e below (s₁.setTop (mkF m 12 #[.val (.ref a1)] [(.int z_a1), (.int (16 : Int32))])) _
    refine XS.iadd X0.here hx rfl (hb hby d6_12) rfl ?_
    show Steps p.tables e below (s₁.setTop (mkF m 13 #[.val (.ref a1)] [(.int ((16 : Int32) + z_a1))])) _
    refine XS.i2l X0.here hx rfl (hb hby d6_13) rfl ?_
    show Steps p.tables e below (s₁.setTop (mkF m 14 #[.val (.ref a1)] [(.long (((16 : Int32) + z_a1).toInt64))])) _
    exact kt
  obtain ⟨fs, hr, hrun, hended, hW, hsame⟩ := X0.leave (v := some (.long (((16 : Int32) + z_a1).toInt64))) (fun h => by rw [Bd.returns] at h; cases h)
  refine ⟨_, _, pre3 _ ?_, hrun, hended, _, _, rfl, ?_, ⟨_, rfl⟩, hW, hsame.mono (by decide) (by decide)⟩
  · exact retJ X0 hx Bd.returns (hb hby d6_14) hr
  · show Q6 Z a1 z_a1 el_a1 h0 n0 _ s₁.heap _
    rw [e0]
    exact ⟨by first | rfl | (simp only []), N0, rfl⟩
theorem d6_4 : decode prog_52_method_7_code 4 = .ok (.lconst 0, 1) := by decide +kernel
theorem d6_5 : decode prog_52_method_7_code 5 = .ok (.goto 9, 3) := by decide +kernel
theorem ef_6n0 (m : MethodId)  : entryFrame m #[.null] 1 = mkF m 0 #[.val .null] [] := by first | (simp [entryFrame, mkF, argsToLocals, Value.category]; done) | rfl
def Q6n0 (Z : State)  (h0 : Heap) (n0 : Nat) (v : Option Value) (h : Heap) (L : List Loc) : Prop := v = some (.long (0 : Int64)) ∧ Fr n0 L ∧ h = h0
set_option maxRecDepth 65536 in
set_option maxHeartbeats 40000000 in
theorem rm6n0 (l : Launch) (Z : State) (a0 : Array Value) (hw : ∀ d ∈ tables_1, d.before a0 Z = true) (ws : List Jvm.Cond)  (h0 : Heap) (n0 : Nat) (Z0 : n0 ≤ h0.size)  :
    MetFree l (⟨"com/example/accrete/accrete/engine/Sendings", "cost", "([B)J"⟩ : MethodName) (head1 (Jvm.Cond.code (⟨"com/example/accrete/accrete/engine/Sendings", "cost", "([B)J"⟩ : MethodName) prog_52_method_7_code 1 (some .long) :: ws) ({ frames := 0, cells := 0, slots := 0, locals := 0 } : Room)) (fun a U => a = #[.null] ∧ Z.Warmed39 U.vm ∧ U.heap = h0) (fun _ _ _ _ _ => True) (fun _ U o U' => ∃ v L, o = .returned v ∧ Q6n0 Z  h0 n0 v U'.heap L ∧ FrameEnd U o U' L ({ frames := 0, cells := 0, slots := 0, locals := 0 } : Room).cells ({ frames := 0, cells := 0, slots := 0, locals := 0 } : Room).slots) := by
  refine MetFree.of_bodySF (plainFor_of_name pn_com_example_accrete_accrete_engine_Sendings) hisR ?_
  intro p e s m args below meth c s₁ Bd hml0 hP hK
  obtain ⟨rfl, hZ, hh⟩ := hP
  have hx := Bd.exec
  have hby := Bd.bytes
  have hml : c.maxLocals = 1 := hml0
  have hown : s.vm.findClass "com/example/accrete/accrete/engine/Sendings" = some m.cls := findClass_of_methodNamed Bd.named
  have hnm := (name_of_methodNamed Bd.named Bd.method).1
  have X0 : Stand p l e ({ frames := 0, cells := 0, slots := 0, locals := 0 } : Room) s m #[.null] below meth c s₁ [] 0 0 := Stand.of_body Bd
  have e0 : s₁.heap = h0 := by rw [← hh, Bd.state]; rfl
  have N0 := Fr.nil n0
  have pre0 : ∀ t, Steps p.tables e below (s₁.setTop (mkF m 0 #[.val .null] [])) t → Steps p.tables e below (s₁.setTop (entryFrame m #[.null] 1)) t := fun t k => castTop (ef_6n0 m ) k
  have pre1 : ∀ t, Steps p.tables e below (s₁.setTop (mkF m 14 #[.val .null] [(.long (0 : Int64))])) t → Steps p.tables e below (s₁.setTop (entryFrame m #[.null] 1)) t := fun t kt => by
    refine pre0 t ?_
    refine XS.aloadN X0.here hx rfl (hb hby d6_0) rfl rfl ?_
    show Steps p.tables e below (s₁.setTop (mkF m 1 #[.val .null] [.null])) _
    refine XS.ifnonnullNo X0.here hx rfl (hb hby d6_1) rfl ?_
    show Steps p.tables e below (s₁.setTop (mkF m 4 #[.val .null] [])) _
    refine XS.lconst X0.here hx rfl (hb hby d6_4) ?_
    show Steps p.tables e below (s₁.setTop (mkF m 5 #[.val .null] [(.long (0 : Int64))])) _
    refine XS.goto X0.here hx rfl (pc0 := 5) (pc' := 14) rfl (hb hby d6_5) (by decide) (by decide) ?_
    show Steps p.tables e below (s₁.setTop (mkF m 14 #[.val .null] [(.long (0 : Int64))])) _
    exact kt
  obtain ⟨fs, hr, hrun, hended, hW, hsame⟩ := X0.leave (v := some (.long (0 : Int64))) (fun h => by rw [Bd.returns] at h; cases h)
  refine ⟨_, _, pre1 _ ?_, hrun, hended, _, _, rfl, ?_, ⟨_, rfl⟩, hW, hsame.mono (by decide) (by decide)⟩
  · exact retJ X0 hx Bd.returns (hb hby d6_14) hr
  · show Q6n0 Z  h0 n0 _ s₁.heap _
    rw [e0]
    exact ⟨by first | rfl | (simp only []), N0, rfl⟩
theorem d5_0 : decode prog_52_method_6_code 0 = .ok (.aload_n 0, 1) := by decide +kernel
theorem d5_1 : decode prog_52_method_6_code 1 = .ok (.getfield 46, 3) := by decide +kernel
theorem d5_4 : decode prog_52_method_6_code 4 = .ok (.aload_n 0, 1) := by decide +kernel
theorem d5_5 : decode prog_52_method_6_code 5 = .ok (.getfield 9, 3) := by decide +kernel
theorem d5_8 : decode prog_52_method_6_code 8 = .ok (.arraylength, 1) := by decide +kernel
theorem d5_9 : decode prog_52_method_6_code 9 = .ok (.if_icmp .ne 97, 3) := by decide +kernel
theorem d5_106 : decode prog_52_method_6_code 106 = .ok (.aload_n 0, 1) := by decide +kernel
theorem d5_107 : decode prog_52_method_6_code 107 = .ok (.getfield 9, 3) := by decide +kernel
theorem d5_110 : decode prog_52_method_6_code 110 = .ok (.aload_n 0, 1) := by decide +kernel
theorem d5_111 : decode prog_52_method_6_code 111 = .ok (.getfield 46, 3) := by decide +kernel
theorem d5_114 : decode prog_52_method_6_code 114 = .ok (.iload_n 1, 1) := by decide +kernel
theorem d5_115 : decode prog_52_method_6_code 115 = .ok (.iastore, 1) := by decide +kernel
theorem d5_116 : decode prog_52_method_6_code 116 = .ok (.aload_n 0, 1) := by decide +kernel
theorem d5_117 : decode prog_52_method_6_code 117 = .ok (.getfield 15, 3) := by decide +kernel
theorem d5_120 : decode prog_52_method_6_code 120 = .ok (.aload_n 0, 1) := by decide +kernel
theorem d5_121 : decode prog_52_method_6_code 121 = .ok (.getfield 46, 3) := by decide +kernel
theorem d5_124 : decode prog_52_method_6_code 124 = .ok (.iload_n 2, 1) := by decide +kernel
theorem d5_125 : decode prog_52_method_6_code 125 = .ok (.iastore, 1) := by decide +kernel
theorem d5_126 : decode prog_52_method_6_code 126 = .ok (.aload_n 0, 1) := by decide +kernel
theorem d5_127 : decode prog_52_method_6_code 127 = .ok (.getfield 24, 3) := by decide +kernel
theorem d5_130 : decode prog_52_method_6_code 130 = .ok (.aload_n 0, 1) := by decide +kernel
theorem d5_131 : decode prog_52_method_6_code 131 = .ok (.getfield 46, 3) := by decide +kernel
theorem d5_134 : decode prog_52_method_6_code 134 = .ok (.aload_n 3, 1) := by decide +kernel
theorem d5_135 : decode prog_52_method_6_code 135 = .ok (.aastore, 1) := by decide +kernel
theorem d5_136 : decode prog_52_method_6_code 136 = .ok (.aload_n 0, 1) := by decide +kernel
theorem d5_137 : decode prog_52_method_6_code 137 = .ok (.getfield 20, 3) := by decide +kernel
theorem d5_140 : decode prog_52_method_6_code 140 = .ok (.aload_n 0, 1) := by decide +kernel
theorem d5_141 : decode prog_52_method_6_code 141 = .ok (.getfield 46, 3) := by decide +kernel
theorem d5_144 : decode prog_52_method_6_code 144 = .ok (.aload 4, 2) := by decide +kernel
theorem d5_146 : decode prog_52_method_6_code 146 = .ok (.aastore, 1) := by decide +kernel
theorem d5_147 : decode prog_52_method_6_code 147 = .ok (.aload_n 0, 1) := by decide +kernel
theorem d5_148 : decode prog_52_method_6_code 148 = .ok (.getfield 27, 3) := by decide +kernel
theorem d5_151 : decode prog_52_method_6_code 151 = .ok (.aload_n 0, 1) := by decide +kernel
theorem d5_152 : decode prog_52_method_6_code 152 = .ok (.getfield 46, 3) := by decide +kernel
theorem d5_155 : decode prog_52_method_6_code 155 = .ok (.iload 5, 2) := by decide +kernel
theorem d5_157 : decode prog_52_method_6_code 157 = .ok (.iastore, 1) := by decide +kernel
theorem d5_158 : decode prog_52_method_6_code 158 = .ok (.aload_n 0, 1) := by decide +kernel
theorem d5_159 : decode prog_52_method_6_code 159 = .ok (.getfield 30, 3) := by decide +kernel
theorem d5_162 : decode prog_52_method_6_code 162 = .ok (.aload_n 0, 1) := by decide +kernel
theorem d5_163 : decode prog_52_method_6_code 163 = .ok (.getfield 46, 3) := by decide +kernel
theorem d5_166 : decode prog_52_method_6_code 166 = .ok (.iload 6, 2) := by decide +kernel
theorem d5_168 : decode prog_52_method_6_code 168 = .ok (.iastore, 1) := by decide +kernel
theorem d5_169 : decode prog_52_method_6_code 169 = .ok (.aload_n 0, 1) := by decide +kernel
theorem d5_170 : decode prog_52_method_6_code 170 = .ok (.dup, 1) := by decide +kernel
theorem d5_171 : decode prog_52_method_6_code 171 = .ok (.getfield 46, 3) := by decide +kernel
theorem d5_174 : decode prog_52_method_6_code 174 = .ok (.iconst 1, 1) := by decide +kernel
theorem d5_175 : decode prog_52_method_6_code 175 = .ok (.iadd, 1) := by decide +kernel
theorem d5_176 : decode prog_52_method_6_code 176 = .ok (.putfield 46, 3) := by decide +kernel
theorem d5_179 : decode prog_52_method_6_code 179 = .ok (.aload_n 0, 1) := by decide +kernel
theorem d5_180 : decode prog_52_method_6_code 180 = .ok (.dup, 1) := by decide +kernel
theorem d5_181 : decode prog_52_method_6_code 181 = .ok (.getfield 66, 3) := by decide +kernel
theorem d5_184 : decode prog_52_method_6_code 184 = .ok (.aload_n 3, 1) := by decide +kernel
theorem d5_185 : decode prog_52_method_6_code 185 = .ok (.invokestatic 70, 3) := by decide +kernel
theorem d5_188 : decode prog_52_method_6_code 188 = .ok (.aload 4, 2) := by decide +kernel
theorem d5_190 : decode prog_52_method_6_code 190 = .ok (.invokestatic 70, 3) := by decide +kernel
theorem d5_193 : decode prog_52_method_6_code 193 = .ok (.ladd, 1) := by decide +kernel
theorem d5_194 : decode prog_52_method_6_code 194 = .ok (.ladd, 1) := by decide +kernel
theorem d5_195 : decode prog_52_method_6_code 195 = .ok (.putfield 66, 3) := by decide +kernel
theorem d5_198 : decode prog_52_method_6_code 198 = .ok (.return_, 1) := by decide +kernel
theorem pd___B_J : parseMethodDescriptor "([B)J" = some ⟨[(.array .byte)], some .long⟩ := by decide +kernel
theorem ef_5s0 (m : MethodId) (x0 : Addr) (x1 : Int32) (x2 : Int32) (x3 : Addr) (x4 : Addr) (x5 : Int32) (x6 : Int32) : entryFrame m #[(.ref x0), (.int x1), (.int x2), (.ref x3), (.ref x4), (.int x5), (.int x6)] 8 = mkF m 0 #[.val (.ref x0), .val (.int x1), .val (.int x2), .val (.ref x3), .val (.ref x4), .val (.int x5), .val (.int x6), .unset] [] := by first | (simp [entryFrame, mkF, argsToLocals, Value.category]; done) | rfl
def Q5s0 (Z : State) (a1 : Addr) (p2 : Int32) (p3 : Int32) (a4 : Addr) (a5 : Addr) (p6 : Int32) (p7 : Int32) (w_target_a1 : Addr) (w_slot_a1 : Addr) (w_sender_a1 : Addr) (w_position_a1 : Addr) (w_value_a1 : Addr) (w_taken_a1 : Addr) (w_starts_a1 : Addr) (w_grouped_a1 : Addr) (w_next_a1 : Addr) (w_valuesCost_a1 : Int64) (el_w_target_a1 : Nat → Int32) (el_w_slot_a1 : Nat → Int32) (el_w_sender_a1 : Nat → Int32) (el_w_position_a1 : Nat → Int32) (el_w_value_a1 : Nat → Value) (el_w_taken_a1 : Nat → Value) (z_a4 : Int32) (el_a4 : Nat → Int32) (z_a5 : Int32) (el_a5 : Nat → Int32) (h0 : Heap) (n0 : Nat) (v : Option Value) (h : Heap) (L : List Loc) : Prop := v = none ∧ Fr n0 L ∧ Keep h0 h [w_target_a1, w_slot_a1, w_taken_a1, w_value_a1, w_sender_a1, w_position_a1, a1] ∧ Exa Z h a1 "com/example/accrete/accrete/engine/Sendings" ∧ Fld Z h a1 "com/example/accrete/accrete/engine/Sendings" "grouped" "[I" (.ref w_grouped_a1) ∧ Fld Z h a1 "com/example/accrete/accrete/engine/Sendings" "next" "[I" (.ref w_next_a1) ∧ Fld Z h a1 "com/example/accrete/accrete/engine/Sendings" "position" "[I" (.ref w_position_a1) ∧ Fld Z h a1 "com/example/accrete/accrete/engine/Sendings" "sender" "[I" (.ref w_sender_a1) ∧ Fld Z h a1 "com/example/accrete/accrete/engine/Sendings" "size" "I" (.int (1 : Int32)) ∧ Fld Z h a1 "com/example/accrete/accrete/engine/Sendings" "slot" "[I" (.ref w_slot_a1) ∧ Fld Z h a1 "com/example/accrete/accrete/engine/Sendings" "starts" "[I" (.ref w_starts_a1) ∧ Fld Z h a1 "com/example/accrete/accrete/engine/Sendings" "taken" "[[B" (.ref w_taken_a1) ∧ Fld Z h a1 "com/example/accrete/accrete/engine/Sendings" "target" "[I" (.ref w_target_a1) ∧ Fld Z h a1 "com/example/accrete/accrete/engine/Sendings" "value" "[[B" (.ref w_value_a1) ∧ Fld Z h a1 "com/example/accrete/accrete/engine/Sendings" "valuesCost" "J" (.long (w_valuesCost_a1 + ((((16 : Int32) + z_a4).toInt64) + (((16 : Int32) + z_a5).toInt64)))) ∧ OvcA Z h w_taken_a1 .byte "[B" ∧ OvcA Z h w_value_a1 .byte "[B" ∧ Arf Z h w_position_a1 .int (1024 : Int32) (fun i => (.int ((own_upd el_w_position_a1 ((0 : Int32)).toNatClampNeg p7) i))) ∧ Arf Z h w_sender_a1 .int (1024 : Int32) (fun i => (.int ((own_upd el_w_sender_a1 ((0 : Int32)).toNatClampNeg p6) i))) ∧ Arf Z h w_slot_a1 .int (1024 : Int32) (fun i => (.int ((own_upd el_w_slot_a1 ((0 : Int32)).toNatClampNeg p3) i))) ∧ Arf Z h w_taken_a1 (.array .byte) (1024 : Int32) (own_upd el_w_taken_a1 ((0 : Int32)).toNatClampNeg (Value.ref a4)) ∧ Arf Z h w_target_a1 .int (1024 : Int32) (fun i => (.int ((own_upd el_w_target_a1 ((0 : Int32)).toNatClampNeg p2) i))) ∧ Arf Z h w_value_a1 (.array .byte) (1024 : Int32) (own_upd el_w_value_a1 ((0 : Int32)).toNatClampNeg (Value.ref a5))
set_option maxRecDepth 65536 in
set_option maxHeartbeats 40000000 in
theorem rm5s0 (l : Launch) (Z : State) (a0 : Array Value) (hw : ∀ d ∈ tables_1, d.before a0 Z = true) (ws : List Jvm.Cond) (a1 : Addr) (p2 : Int32) (p3 : Int32) (a4 : Addr) (a5 : Addr) (p6 : Int32) (p7 : Int32) (w_target_a1 : Addr) (w_slot_a1 : Addr) (w_sender_a1 : Addr) (w_position_a1 : Addr) (w_value_a1 : Addr) (w_taken_a1 : Addr) (w_starts_a1 : Addr) (w_grouped_a1 : Addr) (w_next_a1 : Addr) (w_valuesCost_a1 : Int64) (el_w_target_a1 : Nat → Int32) (el_w_slot_a1 : Nat → Int32) (el_w_sender_a1 : Nat → Int32) (el_w_position_a1 : Nat → Int32) (el_w_value_a1 : Nat → Value) (el_w_taken_a1 : Nat → Value) (z_a4 : Int32) (el_a4 : Nat → Int32) (z_a5 : Int32) (el_a5 : Nat → Int32) (h0 : Heap) (n0 : Nat) (Z0 : n0 ≤ h0.size) (F_size_a1 : Fld Z h0 a1 "com/example/accrete/accrete/engine/Sendings" "size" "I" (.int (0 : Int32))) (F_target_a1 : Fld Z h0 a1 "com/example/accrete/accrete/engine/Sendings" "target" "[I" (.ref w_target_a1)) (F_slot_a1 : Fld Z h0 a1 "com/example/accrete/accrete/engine/Sendings" "slot" "[I" (.ref w_slot_a1)) (F_sender_a1 : Fld Z h0 a1 "com/example/accrete/accrete/engine/Sendings" "sender" "[I" (.ref w_sender_a1)) (F_position_a1 : Fld Z h0 a1 "com/example/accrete/accrete/engine/Sendings" "position" "[I" (.ref w_position_a1)) (F_value_a1 : Fld Z h0 a1 "com/example/accrete/accrete/engine/Sendings" "value" "[[B" (.ref w_value_a1)) (F_taken_a1 : Fld Z h0 a1 "com/example/accrete/accrete/engine/Sendings" "taken" "[[B" (.ref w_taken_a1)) (F_starts_a1 : Fld Z h0 a1 "com/example/accrete/accrete/engine/Sendings" "starts" "[I" (.ref w_starts_a1)) (F_grouped_a1 : Fld Z h0 a1 "com/example/accrete/accrete/engine/Sendings" "grouped" "[I" (.ref w_grouped_a1)) (F_next_a1 : Fld Z h0 a1 "com/example/accrete/accrete/engine/Sendings" "next" "[I" (.ref w_next_a1)) (F_valuesCost_a1 : Fld Z h0 a1 "com/example/accrete/accrete/engine/Sendings" "valuesCost" "J" (.long w_valuesCost_a1)) (V_w_target_a1 : Arf Z h0 w_target_a1 .int (1024 : Int32) (fun i => (.int (el_w_target_a1 i)))) (V_w_slot_a1 : Arf Z h0 w_slot_a1 .int (1024 : Int32) (fun i => (.int (el_w_slot_a1 i)))) (V_w_sender_a1 : Arf Z h0 w_sender_a1 .int (1024 : Int32) (fun i => (.int (el_w_sender_a1 i)))) (V_w_position_a1 : Arf Z h0 w_position_a1 .int (1024 : Int32) (fun i => (.int (el_w_position_a1 i)))) (V_w_value_a1 : Arf Z h0 w_value_a1 (.array .byte) (1024 : Int32) el_w_value_a1) (V_w_taken_a1 : Arf Z h0 w_taken_a1 (.array .byte) (1024 : Int32) el_w_taken_a1) (O_w_value_a1 : OvcA Z h0 w_value_a1 .byte "[B") (O_w_taken_a1 : OvcA Z h0 w_taken_a1 .byte "[B") (g_w_target_a1 : n0 ≤ w_target_a1) (ne_a1_w_target_a1 : a1 ≠ w_target_a1) (ne_w_slot_a1_w_target_a1 : w_slot_a1 ≠ w_target_a1) (ne_w_sender_a1_w_target_a1 : w_sender_a1 ≠ w_target_a1) (ne_w_position_a1_w_target_a1 : w_position_a1 ≠ w_target_a1) (ne_w_value_a1_w_target_a1 : w_value_a1 ≠ w_target_a1) (ne_w_taken_a1_w_target_a1 : w_taken_a1 ≠ w_target_a1) (g_w_slot_a1 : n0 ≤ w_slot_a1) (ne_a1_w_slot_a1 : a1 ≠ w_slot_a1) (ne_w_sender_a1_w_slot_a1 : w_sender_a1 ≠ w_slot_a1) (ne_w_position_a1_w_slot_a1 : w_position_a1 ≠ w_slot_a1) (ne_w_value_a1_w_slot_a1 : w_value_a1 ≠ w_slot_a1) (ne_w_taken_a1_w_slot_a1 : w_taken_a1 ≠ w_slot_a1) (g_w_taken_a1 : n0 ≤ w_taken_a1) (E_a4 : Exa Z h0 a4 "[B") (ne_a1_w_taken_a1 : a1 ≠ w_taken_a1) (ne_w_sender_a1_w_taken_a1 : w_sender_a1 ≠ w_taken_a1) (ne_w_position_a1_w_taken_a1 : w_position_a1 ≠ w_taken_a1) (ne_w_value_a1_w_taken_a1 : w_value_a1 ≠ w_taken_a1) (g_w_value_a1 : n0 ≤ w_value_a1) (E_a5 : Exa Z h0 a5 "[B") (ne_a1_w_value_a1 : a1 ≠ w_value_a1) (ne_w_sender_a1_w_value_a1 : w_sender_a1 ≠ w_value_a1) (ne_w_position_a1_w_value_a1 : w_position_a1 ≠ w_value_a1) (g_w_sender_a1 : n0 ≤ w_sender_a1) (ne_a1_w_sender_a1 : a1 ≠ w_sender_a1) (ne_w_position_a1_w_sender_a1 : w_position_a1 ≠ w_sender_a1) (g_w_position_a1 : n0 ≤ w_position_a1) (ne_a1_w_position_a1 : a1 ≠ w_position_a1) (E_a1 : Exa Z h0 a1 "com/example/accrete/accrete/engine/Sendings") (g_a1 : n0 ≤ a1) (V_a4 : Arf Z h0 a4 .byte z_a4 (fun i => (.int (el_a4 i)))) (ne_a4_w_target_a1 : a4 ≠ w_target_a1) (ne_a4_w_slot_a1 : a4 ≠ w_slot_a1) (ne_a4_w_taken_a1 : a4 ≠ w_taken_a1) (ne_a4_w_value_a1 : a4 ≠ w_value_a1) (ne_a4_w_sender_a1 : a4 ≠ w_sender_a1) (ne_a4_w_position_a1 : a4 ≠ w_position_a1) (ne_a4_a1 : a4 ≠ a1) (V_a5 : Arf Z h0 a5 .byte z_a5 (fun i => (.int (el_a5 i)))) (ne_a5_w_target_a1 : a5 ≠ w_target_a1) (ne_a5_w_slot_a1 : a5 ≠ w_slot_a1) (ne_a5_w_taken_a1 : a5 ≠ w_taken_a1) (ne_a5_w_value_a1 : a5 ≠ w_value_a1) (ne_a5_w_sender_a1 : a5 ≠ w_sender_a1) (ne_a5_w_position_a1 : a5 ≠ w_position_a1) (ne_a5_a1 : a5 ≠ a1) :
    MetFree l (⟨"com/example/accrete/accrete/engine/Sendings", "add", "(II[B[BII)V"⟩ : MethodName) (head1 (Jvm.Cond.code (⟨"com/example/accrete/accrete/engine/Sendings", "add", "(II[B[BII)V"⟩ : MethodName) prog_52_method_6_code 8 none :: ws) ({ frames := 1, cells := 0, slots := 0, locals := 17 } : Room)) (fun a U => a = #[(.ref a1), (.int p2), (.int p3), (.ref a4), (.ref a5), (.int p6), (.int p7)] ∧ Z.Warmed39 U.vm ∧ U.heap = h0) (fun _ _ _ _ _ => True) (fun _ U o U' => ∃ v L, o = .returned v ∧ Q5s0 Z a1 p2 p3 a4 a5 p6 p7 w_target_a1 w_slot_a1 w_sender_a1 w_position_a1 w_value_a1 w_taken_a1 w_starts_a1 w_grouped_a1 w_next_a1 w_valuesCost_a1 el_w_target_a1 el_w_slot_a1 el_w_sender_a1 el_w_position_a1 el_w_value_a1 el_w_taken_a1 z_a4 el_a4 z_a5 el_a5 h0 n0 v U'.heap L ∧ FrameEnd U o U' L ({ frames := 1, cells := 0, slots := 0, locals := 17 } : Room).cells ({ frames := 1, cells := 0, slots := 0, locals := 17 } : Room).slots) := by
  refine MetFree.of_bodySF (plainFor_of_name pn_com_example_accrete_accrete_engine_Sendings) hisR ?_
  intro p e s m args below meth c s₁ Bd hml0 hP hK
  obtain ⟨rfl, hZ, hh⟩ := hP
  have hx := Bd.exec
  have hby := Bd.bytes
  have hml : c.maxLocals = 8 := hml0
  have hown : s.vm.findClass "com/example/accrete/accrete/engine/Sendings" = some m.cls := findClass_of_methodNamed Bd.named
  have hnm := (name_of_methodNamed Bd.named Bd.method).1
  have X0 : Stand p l e ({ frames := 1, cells := 0, slots := 0, locals := 17 } : Room) s m #[(.ref a1), (.int p2), (.int p3), (.ref a4), (.ref a5), (.int p6), (.int p7)] below meth c s₁ [] 0 0 := Stand.of_body Bd
  have e0 : s₁.heap = h0 := by rw [← hh, Bd.state]; rfl
  have N0 := Fr.nil n0
  obtain ⟨EN, hEN, pre0⟩ : ∃ EN : _ → Prop, (∀ t, EN t → Steps p.tables e below (s₁.setTop (entryFrame m #[(.ref a1), (.int p2), (.int p3), (.ref a4), (.ref a5), (.int p6), (.int p7)] 8)) t) ∧ (∀ t, Steps p.tables e below (s₁.setTop (mkF m 0 #[.val (.ref a1), .val (.int p2), .val (.int p3), .val (.ref a4), .val (.ref a5), .val (.int p6), .val (.int p7), .unset] [])) t → EN t) := ⟨_, fun _ h => h, fun t k => castTop (ef_5s0 m a1 p2 p3 a4 a5 p6 p7) k⟩
  obtain ⟨T1, X1, e1, st1⟩ := getF X0 hx hZ hown (host := "") (Or.inl (hw _ (mgE 50 rfl))) Via.refl e0 F_size_a1 (g := (mkF m 1 #[.val (.ref a1), .val (.int p2), .val (.int p3), .val (.ref a4), .val (.ref a5), .val (.int p6), .val (.int p7), .unset] [(.ref a1)])) rfl rfl (hb hby d5_1)
  obtain ⟨T3, X3, e3, st3⟩ := getF X1 hx hZ hown (host := "") (Or.inl (hw _ (mgE 12 rfl))) Via.refl e1 F_target_a1 (g := (mkF m 5 #[.val (.ref a1), .val (.int p2), .val (.int p3), .val (.ref a4), .val (.ref a5), .val (.int p6), .val (.int p7), .unset] [(.ref a1), (.int (0 : Int32))])) rfl rfl (hb hby d5_5)
  obtain ⟨cl5, Ar5, S5, Ng5, H5⟩ := id V_w_target_a1
  obtain ⟨T6, X6, e6, st6⟩ := getF X3 hx hZ hown (host := "") (Or.inl (hw _ (mgE 12 rfl))) Via.refl e3 F_target_a1 (g := (mkF m 107 #[.val (.ref a1), .val (.int p2), .val (.int p3), .val (.ref a4), .val (.ref a5), .val (.int p6), .val (.int p7), .unset] [(.ref a1)])) rfl rfl (hb hby d5_107)
  obtain ⟨T8, X8, e8, st8⟩ := getF X6 hx hZ hown (host := "") (Or.inl (hw _ (mgE 50 rfl))) Via.refl e6 F_size_a1 (g := (mkF m 111 #[.val (.ref a1), .val (.int p2), .val (.int p3), .val (.ref a4), .val (.ref a5), .val (.int p6), .val (.int p7), .unset] [(.ref a1), (.ref w_target_a1)])) rfl rfl (hb hby d5_111)
  obtain ⟨cl10, Ar10, S10, Ng10, H10⟩ := id V_w_target_a1
  have hj10 : ¬ (0 : Int32) < 0 ∧ (0 : Int32) < (1024 : Int32) := ⟨by decide, by decide⟩
  have hin10 := inb_of S10 hj10
  obtain ⟨T11, h11, X11, e11, W11, st11⟩ := stI X8 hx hZ e8 Ar10 (j := (0 : Int32)) hin10 (g := (mkF m 115 #[.val (.ref a1), .val (.int p2), .val (.int p3), .val (.ref a4), .val (.ref a5), .val (.int p6), .val (.int p7), .unset] [(.int p2), (.int (0 : Int32)), (.ref w_target_a1)])) rfl rfl (hb hby d5_115)
  have F12_11 := F_size_a1.other W11 (Or.inl ne_a1_w_target_a1)
  have F13_11 := F_target_a1.other W11 (Or.inl ne_a1_w_target_a1)
  have F14_11 := F_slot_a1.other W11 (Or.inl ne_a1_w_target_a1)
  have F15_11 := F_sender_a1.other W11 (Or.inl ne_a1_w_target_a1)
  have F16_11 := F_position_a1.other W11 (Or.inl ne_a1_w_target_a1)
  have F17_11 := F_value_a1.other W11 (Or.inl ne_a1_w_target_a1)
  have F18_11 := F_taken_a1.other W11 (Or.inl ne_a1_w_target_a1)
  have F19_11 := F_starts_a1.other W11 (Or.inl ne_a1_w_target_a1)
  have F20_11 := F_grouped_a1.other W11 (Or.inl ne_a1_w_target_a1)
  have F21_11 := F_next_a1.other W11 (Or.inl ne_a1_w_target_a1)
  have F22_11 := F_valuesCost_a1.other W11 (Or.inl ne_a1_w_target_a1)
  have F24_11 := V_w_slot_a1.other W11 ne_w_slot_a1_w_target_a1
  have F25_11 := V_w_sender_a1.other W11 ne_w_sender_a1_w_target_a1
  have F26_11 := V_w_position_a1.other W11 ne_w_position_a1_w_target_a1
  have F27_11 := V_w_value_a1.other W11 ne_w_value_a1_w_target_a1
  have F28_11 := V_w_taken_a1.other W11 ne_w_taken_a1_w_target_a1
  have F29_11 := O_w_value_a1.wr W11
  have F30_11 := O_w_taken_a1.wr W11
  have F31_11 := E_a4.wr W11
  have F32_11 := E_a5.wr W11
  have F33_11 := E_a1.wr W11
  have F34_11 := V_a4.other W11 ne_a4_w_target_a1
  have F35_11 := V_a5.other W11 ne_a5_w_target_a1
  have V11_w_target_a1 : Arf Z h11 w_target_a1 .int (1024 : Int32) (fun i => (.int ((own_upd el_w_target_a1 ((0 : Int32)).toNatClampNeg p2) i))) := upd_int _ _ _ ▸ (V_w_target_a1.set W11)
  have K11 : Keep h0 h11 [w_target_a1, w_slot_a1, w_taken_a1, w_value_a1, w_sender_a1, w_position_a1, a1] := (Keep.refl h0 [w_target_a1, w_slot_a1, w_taken_a1, w_value_a1, w_sender_a1, w_position_a1, a1]).wr W11 (Or.inl (mgE 0 rfl))
  have Z11 : n0 ≤ h11.size := Nat.le_trans Z0 (Keep.of_wr W11).1
  have N11 := Fr.snoc X11 N0 g_w_target_a1
  obtain ⟨T37, X37, e37, st37⟩ := getF X11 hx hZ hown (host := "") (Or.inl (hw _ (mgE 14 rfl))) Via.refl e11 F14_11 (g := (mkF m 117 #[.val (.ref a1), .val (.int p2), .val (.int p3), .val (.ref a4), .val (.ref a5), .val (.int p6), .val (.int p7), .unset] [(.ref a1)])) rfl rfl (hb hby d5_117)
  obtain ⟨T39, X39, e39, st39⟩ := getF X37 hx hZ hown (host := "") (Or.inl (hw _ (mgE 50 rfl))) Via.refl e37 F12_11 (g := (mkF m 121 #[.val (.ref a1), .val (.int p2), .val (.int p3), .val (.ref a4), .val (.ref a5), .val (.int p6), .val (.int p7), .unset] [(.ref a1), (.ref w_slot_a1)])) rfl rfl (hb hby d5_121)
  obtain ⟨cl41, Ar41, S41, Ng41, H41⟩ := id F24_11
  have hj41 : ¬ (0 : Int32) < 0 ∧ (0 : Int32) < (1024 : Int32) := ⟨by decide, by decide⟩
  have hin41 := inb_of S41 hj41
  obtain ⟨T42, h42, X42, e42, W42, st42⟩ := stI X39 hx hZ e39 Ar41 (j := (0 : Int32)) hin41 (g := (mkF m 125 #[.val (.ref a1), .val (.int p2), .val (.int p3), .val (.ref a4), .val (.ref a5), .val (.int p6), .val (.int p7), .unset] [(.int p3), (.int (0 : Int32)), (.ref w_slot_a1)])) rfl rfl (hb hby d5_125)
  have F43_42 := F12_11.other W42 (Or.inl ne_a1_w_slot_a1)
  have F44_42 := F13_11.other W42 (Or.inl ne_a1_w_slot_a1)
  have F45_42 := F14_11.other W42 (Or.inl ne_a1_w_slot_a1)
  have F46_42 := F15_11.other W42 (Or.inl ne_a1_w_slot_a1)
  have F47_42 := F16_11.other W42 (Or.inl ne_a1_w_slot_a1)
  have F48_42 := F17_11.other W42 (Or.inl ne_a1_w_slot_a1)
  have F49_42 := F18_11.other W42 (Or.inl ne_a1_w_slot_a1)
  have F50_42 := F19_11.other W42 (Or.inl ne_a1_w_slot_a1)
  have F51_42 := F20_11.other W42 (Or.inl ne_a1_w_slot_a1)
  have F52_42 := F21_11.other W42 (Or.inl ne_a1_w_slot_a1)
  have F53_42 := F22_11.other W42 (Or.inl ne_a1_w_slot_a1)
  have F54_42 := V11_w_target_a1.other W42 (Ne.symm ne_w_slot_a1_w_target_a1)
  have F56_42 := F25_11.other W42 ne_w_sender_a1_w_slot_a1
  have F57_42 := F26_11.other W42 ne_w_position_a1_w_slot_a1
  have F58_42 := F27_11.other W42 ne_w_value_a1_w_slot_a1
  have F59_42 := F28_11.other W42 ne_w_taken_a1_w_slot_a1
  have F60_42 := F29_11.wr W42
  have F61_42 := F30_11.wr W42
  have F62_42 := F31_11.wr W42
  have F63_42 := F32_11.wr W42
  have F64_42 := F33_11.wr W42
  have F65_42 := F34_11.other W42 ne_a4_w_slot_a1
  have F66_42 := F35_11.other W42 ne_a5_w_slot_a1
  have V42_w_slot_a1 : Arf Z h42 w_slot_a1 .int (1024 : Int32) (fun i => (.int ((own_upd el_w_slot_a1 ((0 : Int32)).toNatClampNeg p3) i))) := upd_int _ _ _ ▸ (F24_11.set W42)
  have K42 : Keep h0 h42 [w_target_a1, w_slot_a1, w_taken_a1, w_value_a1, w_sender_a1, w_position_a1, a1] := K11.wr W42 (Or.inl (mgE 1 rfl))
  have Z42 : n0 ≤ h42.size := Nat.le_trans Z11 (Keep.of_wr W42).1
  have N42 := Fr.snoc X42 N11 g_w_slot_a1
  obtain ⟨T68, X68, e68, st68⟩ := getF X42 hx hZ hown (host := "") (Or.inl (hw _ (mgE 20 rfl))) Via.refl e42 F49_42 (g := (mkF m 127 #[.val (.ref a1), .val (.int p2), .val (.int p3), .val (.ref a4), .val (.ref a5), .val (.int p6), .val (.int p7), .unset] [(.ref a1)])) rfl rfl (hb hby d5_127)
  obtain ⟨T70, X70, e70, st70⟩ := getF X68 hx hZ hown (host := "") (Or.inl (hw _ (mgE 50 rfl))) Via.refl e68 F43_42 (g := (mkF m 131 #[.val (.ref a1), .val (.int p2), .val (.int p3), .val (.ref a4), .val (.ref a5), .val (.int p6), .val (.int p7), .unset] [(.ref a1), (.ref w_taken_a1)])) rfl rfl (hb hby d5_131)
  obtain ⟨cl72, Ar72, S72, Ng72, H72⟩ := id F59_42
  have hj72 : ¬ (0 : Int32) < 0 ∧ (0 : Int32) < (1024 : Int32) := ⟨by decide, by decide⟩
  have hin72 := inb_of S72 hj72
  obtain ⟨T73, h73, X73, e73, W73, st73⟩ := stR X70 hx hZ e70 Ar72 (j := (0 : Int32)) hin72 rfl (own_stoA Ar72 F61_42 (Ins.self F62_42)) (g := (mkF m 135 #[.val (.ref a1), .val (.int p2), .val (.int p3), .val (.ref a4), .val (.ref a5), .val (.int p6), .val (.int p7), .unset] [(.ref a4), (.int (0 : Int32)), (.ref w_taken_a1)])) rfl rfl (hb hby d5_135)
  have F74_73 := F43_42.other W73 (Or.inl ne_a1_w_taken_a1)
  have F75_73 := F44_42.other W73 (Or.inl ne_a1_w_taken_a1)
  have F76_73 := F45_42.other W73 (Or.inl ne_a1_w_taken_a1)
  have F77_73 := F46_42.other W73 (Or.inl ne_a1_w_taken_a1)
  have F78_73 := F47_42.other W73 (Or.inl ne_a1_w_taken_a1)
  have F79_73 := F48_42.other W73 (Or.inl ne_a1_w_taken_a1)
  have F80_73 := F49_42.other W73 (Or.inl ne_a1_w_taken_a1)
  have F81_73 := F50_42.other W73 (Or.inl ne_a1_w_taken_a1)
  have F82_73 := F51_42.other W73 (Or.inl ne_a1_w_taken_a1)
  have F83_73 := F52_42.other W73 (Or.inl ne_a1_w_taken_a1)
  have F84_73 := F53_42.other W73 (Or.inl ne_a1_w_taken_a1)
  have F85_73 := F54_42.other W73 (Ne.symm ne_w_taken_a1_w_target_a1)
  have F86_73 := V42_w_slot_a1.other W73 (Ne.symm ne_w_taken_a1_w_slot_a1)
  have F87_73 := F56_42.other W73 ne_w_sender_a1_w_taken_a1
  have F88_73 := F57_42.other W73 ne_w_position_a1_w_taken_a1
  have F89_73 := F58_42.other W73 ne_w_value_a1_w_taken_a1
  have F91_73 := F60_42.wr W73
  have F92_73 := F61_42.wr W73
  have F94_73 := F63_42.wr W73
  have F95_73 := F64_42.wr W73
  have F96_73 := F65_42.other W73 ne_a4_w_taken_a1
  have F97_73 := F66_42.other W73 ne_a5_w_taken_a1
  have V73_w_taken_a1 : Arf Z h73 w_taken_a1 (.array .byte) (1024 : Int32) (own_upd el_w_taken_a1 ((0 : Int32)).toNatClampNeg (Value.ref a4)) := (F59_42.set W73)
  have K73 : Keep h0 h73 [w_target_a1, w_slot_a1, w_taken_a1, w_value_a1, w_sender_a1, w_position_a1, a1] := K42.wr W73 (Or.inl (mgE 2 rfl))
  have Z73 : n0 ≤ h73.size := Nat.le_trans Z42 (Keep.of_wr W73).1
  have N73 := Fr.snoc X73 N42 g_w_taken_a1
  obtain ⟨T99, X99, e99, st99⟩ := getF X73 hx hZ hown (host := "") (Or.inl (hw _ (mgE 18 rfl))) Via.refl e73 F79_73 (g := (mkF m 137 #[.val (.ref a1), .val (.int p2), .val (.int p3), .val (.ref a4), .val (.ref a5), .val (.int p6), .val (.int p7), .unset] [(.ref a1)])) rfl rfl (hb hby d5_137)
  obtain ⟨T101, X101, e101, st101⟩ := getF X99 hx hZ hown (host := "") (Or.inl (hw _ (mgE 50 rfl))) Via.refl e99 F74_73 (g := (mkF m 141 #[.val (.ref a1), .val (.int p2), .val (.int p3), .val (.ref a4), .val (.ref a5), .val (.int p6), .val (.int p7), .unset] [(.ref a1), (.ref w_value_a1)])) rfl rfl (hb hby d5_141)
  obtain ⟨cl103, Ar103, S103, Ng103, H103⟩ := id F89_73
  have hj103 : ¬ (0 : Int32) < 0 ∧ (0 : Int32) < (1024 : Int32) := ⟨by decide, by decide⟩
  have hin103 := inb_of S103 hj103
  obtain ⟨T104, h104, X104, e104, W104, st104⟩ := stR X101 hx hZ e101 Ar103 (j := (0 : Int32)) hin103 rfl (own_stoA Ar103 F91_73 (Ins.self F94_73)) (g := (mkF m 146 #[.val (.ref a1), .val (.int p2), .val (.int p3), .val (.ref a4), .val (.ref a5), .val (.int p6), .val (.int p7), .unset] [(.ref a5), (.int (0 : Int32)), (.ref w_value_a1)])) rfl rfl (hb hby d5_146)
  have F105_104 := F74_73.other W104 (Or.inl ne_a1_w_value_a1)
  have F106_104 := F75_73.other W104 (Or.inl ne_a1_w_value_a1)
  have F107_104 := F76_73.other W104 (Or.inl ne_a1_w_value_a1)
  have F108_104 := F77_73.other W104 (Or.inl ne_a1_w_value_a1)
  have F109_104 := F78_73.other W104 (Or.inl ne_a1_w_value_a1)
  have F110_104 := F79_73.other W104 (Or.inl ne_a1_w_value_a1)
  have F111_104 := F80_73.other W104 (Or.inl ne_a1_w_value_a1)
  have F112_104 := F81_73.other W104 (Or.inl ne_a1_w_value_a1)
  have F113_104 := F82_73.other W104 (Or.inl ne_a1_w_value_a1)
  have F114_104 := F83_73.other W104 (Or.inl ne_a1_w_value_a1)
  have F115_104 := F84_73.other W104 (Or.inl ne_a1_w_value_a1)
  have F116_104 := F85_73.other W104 (Ne.symm ne_w_value_a1_w_target_a1)
  have F117_104 := F86_73.other W104 (Ne.symm ne_w_value_a1_w_slot_a1)
  have F118_104 := F87_73.other W104 ne_w_sender_a1_w_value_a1
  have F119_104 := F88_73.other W104 ne_w_position_a1_w_value_a1
  have F121_104 := V73_w_taken_a1.other W104 (Ne.symm ne_w_value_a1_w_taken_a1)
  have F122_104 := F91_73.wr W104
  have F123_104 := F92_73.wr W104
  have F126_104 := F95_73.wr W104
  have F127_104 := F96_73.other W104 ne_a4_w_value_a1
  have F128_104 := F97_73.other W104 ne_a5_w_value_a1
  have V104_w_value_a1 : Arf Z h104 w_value_a1 (.array .byte) (1024 : Int32) (own_upd el_w_value_a1 ((0 : Int32)).toNatClampNeg (Value.ref a5)) := (F89_73.set W104)
  have K104 : Keep h0 h104 [w_target_a1, w_slot_a1, w_taken_a1, w_value_a1, w_sender_a1, w_position_a1, a1] := K73.wr W104 (Or.inl (mgE 3 rfl))
  have Z104 : n0 ≤ h104.size := Nat.le_trans Z73 (Keep.of_wr W104).1
  have N104 := Fr.snoc X104 N73 g_w_value_a1
  obtain ⟨T130, X130, e130, st130⟩ := getF X104 hx hZ hown (host := "") (Or.inl (hw _ (mgE 22 rfl))) Via.refl e104 F108_104 (g := (mkF m 148 #[.val (.ref a1), .val (.int p2), .val (.int p3), .val (.ref a4), .val (.ref a5), .val (.int p6), .val (.int p7), .unset] [(.ref a1)])) rfl rfl (hb hby d5_148)
  obtain ⟨T132, X132, e132, st132⟩ := getF X130 hx hZ hown (host := "") (Or.inl (hw _ (mgE 50 rfl))) Via.refl e130 F105_104 (g := (mkF m 152 #[.val (.ref a1), .val (.int p2), .val (.int p3), .val (.ref a4), .val (.ref a5), .val (.int p6), .val (.int p7), .unset] [(.ref a1), (.ref w_sender_a1)])) rfl rfl (hb hby d5_152)
  obtain ⟨cl134, Ar134, S134, Ng134, H134⟩ := id F118_104
  have hj134 : ¬ (0 : Int32) < 0 ∧ (0 : Int32) < (1024 : Int32) := ⟨by decide, by decide⟩
  have hin134 := inb_of S134 hj134
  obtain ⟨T135, h135, X135, e135, W135, st135⟩ := stI X132 hx hZ e132 Ar134 (j := (0 : Int32)) hin134 (g := (mkF m 157 #[.val (.ref a1), .val (.int p2), .val (.int p3), .val (.ref a4), .val (.ref a5), .val (.int p6), .val (.int p7), .unset] [(.int p6), (.int (0 : Int32)), (.ref w_sender_a1)])) rfl rfl (hb hby d5_157)
  have F136_135 := F105_104.other W135 (Or.inl ne_a1_w_sender_a1)
  have F137_135 := F106_104.other W135 (Or.inl ne_a1_w_sender_a1)
  have F138_135 := F107_104.other W135 (Or.inl ne_a1_w_sender_a1)
  have F139_135 := F108_104.other W135 (Or.inl ne_a1_w_sender_a1)
  have F140_135 := F109_104.other W135 (Or.inl ne_a1_w_sender_a1)
  have F141_135 := F110_104.other W135 (Or.inl ne_a1_w_sender_a1)
  have F142_135 := F111_104.other W135 (Or.inl ne_a1_w_sender_a1)
  have F143_135 := F112_104.other W135 (Or.inl ne_a1_w_sender_a1)
  have F144_135 := F113_104.other W135 (Or.inl ne_a1_w_sender_a1)
  have F145_135 := F114_104.other W135 (Or.inl ne_a1_w_sender_a1)
  have F146_135 := F115_104.other W135 (Or.inl ne_a1_w_sender_a1)
  have F147_135 := F116_104.other W135 (Ne.symm ne_w_sender_a1_w_target_a1)
  have F148_135 := F117_104.other W135 (Ne.symm ne_w_sender_a1_w_slot_a1)
  have F150_135 := F119_104.other W135 ne_w_position_a1_w_sender_a1
  have F151_135 := V104_w_value_a1.other W135 (Ne.symm ne_w_sender_a1_w_value_a1)
  have F152_135 := F121_104.other W135 (Ne.symm ne_w_sender_a1_w_taken_a1)
  have F153_135 := F122_104.wr W135
  have F154_135 := F123_104.wr W135
  have F157_135 := F126_104.wr W135
  have F158_135 := F127_104.other W135 ne_a4_w_sender_a1
  have F159_135 := F128_104.other W135 ne_a5_w_sender_a1
  have V135_w_sender_a1 : Arf Z h135 w_sender_a1 .int (1024 : Int32) (fun i => (.int ((own_upd el_w_sender_a1 ((0 : Int32)).toNatClampNeg p6) i))) := upd_int _ _ _ ▸ (F118_104.set W135)
  have K135 : Keep h0 h135 [w_target_a1, w_slot_a1, w_taken_a1, w_value_a1, w_sender_a1, w_position_a1, a1] := K104.wr W135 (Or.inl (mgE 4 rfl))
  have Z135 : n0 ≤ h135.size := Nat.le_trans Z104 (Keep.of_wr W135).1
  have N135 := Fr.snoc X135 N104 g_w_sender_a1
  obtain ⟨T161, X161, e161, st161⟩ := getF X135 hx hZ hown (host := "") (Or.inl (hw _ (mgE 24 rfl))) Via.refl e135 F140_135 (g := (mkF m 159 #[.val (.ref a1), .val (.int p2), .val (.int p3), .val (.ref a4), .val (.ref a5), .val (.int p6), .val (.int p7), .unset] [(.ref a1)])) rfl rfl (hb hby d5_159)
  obtain ⟨T163, X163, e163, st163⟩ := getF X161 hx hZ hown (host := "") (Or.inl (hw _ (mgE 50 rfl))) Via.refl e161 F136_135 (g := (mkF m 163 #[.val (.ref a1), .val (.int p2), .val (.int p3), .val (.ref a4), .val (.ref a5), .val (.int p6), .val (.int p7), .unset] [(.ref a1), (.ref w_position_a1)])) rfl rfl (hb hby d5_163)
  obtain ⟨cl165, Ar165, S165, Ng165, H165⟩ := id F150_135
  have hj165 : ¬ (0 : Int32) < 0 ∧ (0 : Int32) < (1024 : Int32) := ⟨by decide, by decide⟩
  have hin165 := inb_of S165 hj165
  obtain ⟨T166, h166, X166, e166, W166, st166⟩ := stI X163 hx hZ e163 Ar165 (j := (0 : Int32)) hin165 (g := (mkF m 168 #[.val (.ref a1), .val (.int p2), .val (.int p3), .val (.ref a4), .val (.ref a5), .val (.int p6), .val (.int p7), .unset] [(.int p7), (.int (0 : Int32)), (.ref w_position_a1)])) rfl rfl (hb hby d5_168)
  have F167_166 := F136_135.other W166 (Or.inl ne_a1_w_position_a1)
  have F168_166 := F137_135.other W166 (Or.inl ne_a1_w_position_a1)
  have F169_166 := F138_135.other W166 (Or.inl ne_a1_w_position_a1)
  have F170_166 := F139_135.other W166 (Or.inl ne_a1_w_position_a1)
  have F171_166 := F140_135.other W166 (Or.inl ne_a1_w_position_a1)
  have F172_166 := F141_135.other W166 (Or.inl ne_a1_w_position_a1)
  have F173_166 := F142_135.other W166 (Or.inl ne_a1_w_position_a1)
  have F174_166 := F143_135.other W166 (Or.inl ne_a1_w_position_a1)
  have F175_166 := F144_135.other W166 (Or.inl ne_a1_w_position_a1)
  have F176_166 := F145_135.other W166 (Or.inl ne_a1_w_position_a1)
  have F177_166 := F146_135.other W166 (Or.inl ne_a1_w_position_a1)
  have F178_166 := F147_135.other W166 (Ne.symm ne_w_position_a1_w_target_a1)
  have F179_166 := F148_135.other W166 (Ne.symm ne_w_position_a1_w_slot_a1)
  have F180_166 := V135_w_sender_a1.other W166 (Ne.symm ne_w_position_a1_w_sender_a1)
  have F182_166 := F151_135.other W166 (Ne.symm ne_w_position_a1_w_value_a1)
  have F183_166 := F152_135.other W166 (Ne.symm ne_w_position_a1_w_taken_a1)
  have F184_166 := F153_135.wr W166
  have F185_166 := F154_135.wr W166
  have F188_166 := F157_135.wr W166
  have F189_166 := F158_135.other W166 ne_a4_w_position_a1
  have F190_166 := F159_135.other W166 ne_a5_w_position_a1
  have V166_w_position_a1 : Arf Z h166 w_position_a1 .int (1024 : Int32) (fun i => (.int ((own_upd el_w_position_a1 ((0 : Int32)).toNatClampNeg p7) i))) := upd_int _ _ _ ▸ (F150_135.set W166)
  have K166 : Keep h0 h166 [w_target_a1, w_slot_a1, w_taken_a1, w_value_a1, w_sender_a1, w_position_a1, a1] := K135.wr W166 (Or.inl (mgE 5 rfl))
  have Z166 : n0 ≤ h166.size := Nat.le_trans Z135 (Keep.of_wr W166).1
  have N166 := Fr.snoc X166 N135 g_w_position_a1
  obtain ⟨T192, X192, e192, st192⟩ := getF X166 hx hZ hown (host := "") (Or.inl (hw _ (mgE 50 rfl))) Via.refl e166 F167_166 (g := (mkF m 171 #[.val (.ref a1), .val (.int p2), .val (.int p3), .val (.ref a4), .val (.ref a5), .val (.int p6), .val (.int p7), .unset] [(.ref a1), (.ref a1)])) rfl rfl (hb hby d5_171)
  obtain ⟨T194, h194, X194, e194, W194, st194⟩ := putF X192 hx hZ hown (host := "") (Or.inl (hw _ (mgE 50 rfl))) Via.refl e192 F167_166 F188_166 (Or.inl (hw _ (mgE 51 rfl))) (hw _ (mgE 3 rfl)) (ty := .int) (by decide) rfl rfl (g := (mkF m 176 #[.val (.ref a1), .val (.int p2), .val (.int p3), .val (.ref a4), .val (.ref a5), .val (.int p6), .val (.int p7), .unset] [(.int (1 : Int32)), (.ref a1)])) rfl rfl (hb hby d5_176)
  have F196_194 := F168_166.other W194 (Or.inr (slot_ne (Or.inl (hw _ (mgE 13 rfl))) (Or.inl (hw _ (mgE 51 rfl))) (by decide) (t := (.array .int)) (t' := .int) (by decide) (by decide)))
  have F197_194 := F169_166.other W194 (Or.inr (slot_ne (Or.inl (hw _ (mgE 15 rfl))) (Or.inl (hw _ (mgE 51 rfl))) (by decide) (t := (.array .int)) (t' := .int) (by decide) (by decide)))
  have F198_194 := F170_166.other W194 (Or.inr (slot_ne (Or.inl (hw _ (mgE 23 rfl))) (Or.inl (hw _ (mgE 51 rfl))) (by decide) (t := (.array .int)) (t' := .int) (by decide) (by decide)))
  have F199_194 := F171_166.other W194 (Or.inr (slot_ne (Or.inl (hw _ (mgE 25 rfl))) (Or.inl (hw _ (mgE 51 rfl))) (by decide) (t := (.array .int)) (t' := .int) (by decide) (by decide)))
  have F200_194 := F172_166.other W194 (Or.inr (slot_ne (Or.inl (hw _ (mgE 19 rfl))) (Or.inl (hw _ (mgE 51 rfl))) (by decide) (t := (.array (.array .byte))) (t' := .int) (by decide) (by decide)))
  have F201_194 := F173_166.other W194 (Or.inr (slot_ne (Or.inl (hw _ (mgE 21 rfl))) (Or.inl (hw _ (mgE 51 rfl))) (by decide) (t := (.array (.array .byte))) (t' := .int) (by decide) (by decide)))
  have F202_194 := F174_166.other W194 (Or.inr (slot_ne (Or.inl (hw _ (mgE 27 rfl))) (Or.inl (hw _ (mgE 51 rfl))) (by decide) (t := (.array .int)) (t' := .int) (by decide) (by decide)))
  have F203_194 := F175_166.other W194 (Or.inr (slot_ne (Or.inl (hw _ (mgE 29 rfl))) (Or.inl (hw _ (mgE 51 rfl))) (by decide) (t := (.array .int)) (t' := .int) (by decide) (by decide)))
  have F204_194 := F176_166.other W194 (Or.inr (slot_ne (Or.inl (hw _ (mgE 31 rfl))) (Or.inl (hw _ (mgE 51 rfl))) (by decide) (t := (.array .int)) (t' := .int) (by decide) (by decide)))
  have F205_194 := F177_166.other W194 (Or.inr (slot_ne (Or.inl (hw _ (mgE 40 rfl))) (Or.inl (hw _ (mgE 51 rfl))) (by decide) (t := .long) (t' := .int) (by decide) (by decide)))
  have F206_194 := F178_166.other W194 (Ne.symm ne_a1_w_target_a1)
  have F207_194 := F179_166.other W194 (Ne.symm ne_a1_w_slot_a1)
  have F208_194 := F180_166.other W194 (Ne.symm ne_a1_w_sender_a1)
  have F209_194 := V166_w_position_a1.other W194 (Ne.symm ne_a1_w_position_a1)
  have F210_194 := F182_166.other W194 (Ne.symm ne_a1_w_value_a1)
  have F211_194 := F183_166.other W194 (Ne.symm ne_a1_w_taken_a1)
  have F212_194 := F184_166.wr W194
  have F213_194 := F185_166.wr W194
  have F216_194 := F188_166.wr W194
  have F217_194 := F189_166.other W194 ne_a4_a1
  have F218_194 := F190_166.other W194 ne_a5_a1
  have Fw194 := F167_166.same W194
  have K194 : Keep h0 h194 [w_target_a1, w_slot_a1, w_taken_a1, w_value_a1, w_sender_a1, w_position_a1, a1] := K166.wr W194 (Or.inl (mgE 6 rfl))
  have Z194 : n0 ≤ h194.size := Nat.le_trans Z166 (Keep.of_wr W194).1
  have N194 := Fr.snoc X194 N166 g_a1
  obtain ⟨T220, X220, e220, st220⟩ := getF X194 hx hZ hown (host := "") (Or.inl (hw _ (mgE 39 rfl))) Via.refl e194 F205_194 (g := (mkF m 181 #[.val (.ref a1), .val (.int p2), .val (.int p3), .val (.ref a4), .val (.ref a5), .val (.int p6), .val (.int p7), .unset] [(.ref a1), (.ref a1)])) rfl rfl (hb hby d5_181)
  obtain ⟨_, _, ⟨T222, L222, k222, n222⟩, -, X222, ⟨Lc222, hQ222, l222, y222, z222⟩, st222⟩ := Jvm.LawKit.callS X220 hx (y := (⟨"com/example/accrete/accrete/engine/Sendings", "cost", "([B)J"⟩ : MethodName)) hown (mvT hZ (hw _ (mgE 53 rfl))) (mvT hZ (hw _ (mgE 54 rfl))) (mvT hZ (hw _ (mgE 4 rfl))) (mvT hZ (hw _ (mgE 55 rfl))) (by decide) (backOf (W := 3) (rm6 l Z a0 hw [] a4 z_a4 el_a4 h194 n0 Z194 F217_194) hZ (hw _ (mgE 55 rfl)) (hw _ (mgE 4 rfl)) (by decide) (by decide)) (g := (mkF m 185 #[.val (.ref a1), .val (.int p2), .val (.int p3), .val (.ref a4), .val (.ref a5), .val (.int p6), .val (.int p7), .unset] [(.ref a4), (.long w_valuesCost_a1), (.ref a1)])) rfl (by rw [hml]; rfl) (argsL := [(.ref a4)]) (rest := [(.long w_valuesCost_a1), (.ref a1)]) (lenOf pd___B_J rfl) rfl (by show 2 * 0 + _ ≤ _; exact Nat.le_of_eq rfl) (hb hby d5_185) (fun _ _ => ⟨rfl, e220, (by decide : 0 + 0 ≤ _), (by decide : 0 + 0 ≤ _)⟩)
  dsimp only [Pt.U, Pt.locs, Pt.cells, Pt.slots] at X222 l222 y222 z222 st222 hQ222
  subst l222 y222 z222
  obtain ⟨rfl, N222q, e222⟩ := hQ222
  have N222 := Fr.app N194 N222q
  obtain ⟨_, _, ⟨T224, L224, k224, n224⟩, -, X224, ⟨Lc224, hQ224, l224, y224, z224⟩, st224⟩ := Jvm.LawKit.callS X222 hx (y := (⟨"com/example/accrete/accrete/engine/Sendings", "cost", "([B)J"⟩ : MethodName)) hown (mvT hZ (hw _ (mgE 53 rfl))) (mvT hZ (hw _ (mgE 54 rfl))) (mvT hZ (hw _ (mgE 4 rfl))) (mvT hZ (hw _ (mgE 55 rfl))) (by decide) (backOf (W := 5) (rm6 l Z a0 hw [] a5 z_a5 el_a5 h194 n0 Z194 F218_194) hZ (hw _ (mgE 55 rfl)) (hw _ (mgE 4 rfl)) (by decide) (by decide)) (g := (mkF m 190 #[.val (.ref a1), .val (.int p2), .val (.int p3), .val (.ref a4), .val (.ref a5), .val (.int p6), .val (.int p7), .unset] [(.ref a5), (.long (((16 : Int32) + z_a4).toInt64)), (.long w_valuesCost_a1), (.ref a1)])) rfl (by rw [hml]; rfl) (argsL := [(.ref a5)]) (rest := [(.long (((16 : Int32) + z_a4).toInt64)), (.long w_valuesCost_a1), (.ref a1)]) (lenOf pd___B_J rfl) rfl (by show 2 * 0 + _ ≤ _; exact Nat.le_of_eq rfl) (hb hby d5_190) (fun _ _ => ⟨rfl, e222, (by decide : 0 + 0 ≤ _), (by decide : 0 + 0 ≤ _)⟩)
  dsimp only [Pt.U, Pt.locs, Pt.cells, Pt.slots] at X224 l224 y224 z224 st224 hQ224
  subst l224 y224 z224
  obtain ⟨rfl, N224q, e224⟩ := hQ224
  have N224 := Fr.app N222 N224q
  obtain ⟨T226, h226, X226, e226, W226, st226⟩ := putF X224 hx hZ hown (host := "") (Or.inl (hw _ (mgE 39 rfl))) Via.refl e224 F205_194 F216_194 (Or.inl (hw _ (mgE 40 rfl))) (hw _ (mgE 3 rfl)) (ty := .long) (by decide) rfl rfl (g := (mkF m 195 #[.val (.ref a1), .val (.int p2), .val (.int p3), .val (.ref a4), .val (.ref a5), .val (.int p6), .val (.int p7), .unset] [(.long (w_valuesCost_a1 + ((((16 : Int32) + z_a4).toInt64) + (((16 : Int32) + z_a5).toInt64)))), (.ref a1)])) rfl rfl (hb hby d5_195)
  have F227_226 := Fw194.other W226 (Or.inr (slot_ne (Or.inl (hw _ (mgE 51 rfl))) (Or.inl (hw _ (mgE 40 rfl))) (by decide) (t := .int) (t' := .long) (by decide) (by decide)))
  have F228_226 := F196_194.other W226 (Or.inr (slot_ne (Or.inl (hw _ (mgE 13 rfl))) (Or.inl (hw _ (mgE 40 rfl))) (by decide) (t := (.array .int)) (t' := .long) (by decide) (by decide)))
  have F229_226 := F197_194.other W226 (Or.inr (slot_ne (Or.inl (hw _ (mgE 15 rfl))) (Or.inl (hw _ (mgE 40 rfl))) (by decide) (t := (.array .int)) (t' := .long) (by decide) (by decide)))
  have F230_226 := F198_194.other W226 (Or.inr (slot_ne (Or.inl (hw _ (mgE 23 rfl))) (Or.inl (hw _ (mgE 40 rfl))) (by decide) (t := (.array .int)) (t' := .long) (by decide) (by decide)))
  have F231_226 := F199_194.other W226 (Or.inr (slot_ne (Or.inl (hw _ (mgE 25 rfl))) (Or.inl (hw _ (mgE 40 rfl))) (by decide) (t := (.array .int)) (t' := .long) (by decide) (by decide)))
  have F232_226 := F200_194.other W226 (Or.inr (slot_ne (Or.inl (hw _ (mgE 19 rfl))) (Or.inl (hw _ (mgE 40 rfl))) (by decide) (t := (.array (.array .byte))) (t' := .long) (by decide) (by decide)))
  have F233_226 := F201_194.other W226 (Or.inr (slot_ne (Or.inl (hw _ (mgE 21 rfl))) (Or.inl (hw _ (mgE 40 rfl))) (by decide) (t := (.array (.array .byte))) (t' := .long) (by decide) (by decide)))
  have F234_226 := F202_194.other W226 (Or.inr (slot_ne (Or.inl (hw _ (mgE 27 rfl))) (Or.inl (hw _ (mgE 40 rfl))) (by decide) (t := (.array .int)) (t' := .long) (by decide) (by decide)))
  have F235_226 := F203_194.other W226 (Or.inr (slot_ne (Or.inl (hw _ (mgE 29 rfl))) (Or.inl (hw _ (mgE 40 rfl))) (by decide) (t := (.array .int)) (t' := .long) (by decide) (by decide)))
  have F236_226 := F204_194.other W226 (Or.inr (slot_ne (Or.inl (hw _ (mgE 31 rfl))) (Or.inl (hw _ (mgE 40 rfl))) (by decide) (t := (.array .int)) (t' := .long) (by decide) (by decide)))
  have F238_226 := F206_194.other W226 (Ne.symm ne_a1_w_target_a1)
  have F239_226 := F207_194.other W226 (Ne.symm ne_a1_w_slot_a1)
  have F240_226 := F208_194.other W226 (Ne.symm ne_a1_w_sender_a1)
  have F241_226 := F209_194.other W226 (Ne.symm ne_a1_w_position_a1)
  have F242_226 := F210_194.other W226 (Ne.symm ne_a1_w_value_a1)
  have F243_226 := F211_194.other W226 (Ne.symm ne_a1_w_taken_a1)
  have F244_226 := F212_194.wr W226
  have F245_226 := F213_194.wr W226
  have F248_226 := F216_194.wr W226
  have Fw226 := F205_194.same W226
  have K226 : Keep h0 h226 [w_target_a1, w_slot_a1, w_taken_a1, w_value_a1, w_sender_a1, w_position_a1, a1] := K194.wr W226 (Or.inl (mgE 6 rfl))
  have N226 := Fr.snoc X226 N224 g_a1
  have pre252 : ∀ t, Steps p.tables e below (T226.setTop (mkF m 198 #[.val (.ref a1), .val (.int p2), .val (.int p3), .val (.ref a4), .val (.ref a5), .val (.int p6), .val (.int p7), .unset] [])) t → EN t := fun t kt => by
    refine pre0 t ?_
    refine XS.aloadN X0.here hx rfl (hb hby d5_0) rfl rfl ?_
    refine st1 t ?_
    refine XS.aloadN X1.here hx rfl (hb hby d5_4) rfl rfl ?_
    refine st3 t ?_
    refine X3.arraylength hx (by rw [e3]; exact Ar5.1) (State.isArrayOf_alike hZ.alike Ar5.2.1) (g := (mkF m 8 #[.val (.ref a1), .val (.int p2), .val (.int p3), .val (.ref a4), .val (.ref a5), .val (.int p6), .val (.int p7), .unset] [(.ref w_target_a1), (.int (0 : Int32))])) rfl rfl (hb hby d5_8) _ ?_
    rw [len_of S5 Ng5]
    refine XS.icmpYes X3.here hx rfl (pc0 := 9) (pc' := 106) rfl (hb hby d5_9) rfl (feq (by decide : ¬ ((0 : Int32) = (1024 : Int32)))).2 (by decide) (by decide) ?_
    refine XS.aloadN X3.here hx rfl (hb hby d5_106) rfl rfl ?_
    refine st6 t ?_
    refine XS.aloadN X6.here hx rfl (hb hby d5_110) rfl rfl ?_
    refine st8 t ?_
    show Steps p.tables e below (T8.setTop (mkF m 114 #[.val (.ref a1), .val (.int p2), .val (.int p3), .val (.ref a4), .val (.ref a5), .val (.int p6), .val (.int p7), .unset] [(.int (0 : Int32)), (.ref w_target_a1)])) _
    refine XS.iloadN X8.here hx rfl (hb hby d5_114) rfl ?_
    refine st11 t ?_
    refine XS.aloadN X11.here hx rfl (hb hby d5_116) rfl rfl ?_
    refine st37 t ?_
    refine XS.aloadN X37.here hx rfl (hb hby d5_120) rfl rfl ?_
    refine st39 t ?_
    refine XS.iloadN X39.here hx rfl (hb hby d5_124) rfl ?_
    refine st42 t ?_
    refine XS.aloadN X42.here hx rfl (hb hby d5_126) rfl rfl ?_
    refine st68 t ?_
    show Steps p.tables e below (T68.setTop (mkF m 130 #[.val (.ref a1), .val (.int p2), .val (.int p3), .val (.ref a4), .val (.ref a5), .val (.int p6), .val (.int p7), .unset] [(.ref w_taken_a1)])) _
    refine XS.aloadN X68.here hx rfl (hb hby d5_130) rfl rfl ?_
    refine st70 t ?_
    refine XS.aloadN X70.here hx rfl (hb hby d5_134) rfl rfl ?_
    refine st73 t ?_
    refine XS.aloadN X73.here hx rfl (hb hby d5_136) rfl rfl ?_
    refine st99 t ?_
    refine XS.aloadN X99.here hx rfl (hb hby d5_140) rfl rfl ?_
    refine st101 t ?_
    refine XS.aload X101.here hx rfl (hb hby d5_144) rfl rfl ?_
    refine st104 t ?_
    show Steps p.tables e below (T104.setTop (mkF m 147 #[.val (.ref a1), .val (.int p2), .val (.int p3), .val (.ref a4), .val (.ref a5), .val (.int p6), .val (.int p7), .unset] [])) _
    refine XS.aloadN X104.here hx rfl (hb hby d5_147) rfl rfl ?_
    refine st130 t ?_
    refine XS.aloadN X130.here hx rfl (hb hby d5_151) rfl rfl ?_
    refine st132 t ?_
    refine XS.iload X132.here hx rfl (hb hby d5_155) rfl ?_
    refine st135 t ?_
    refine XS.aloadN X135.here hx rfl (hb hby d5_158) rfl rfl ?_
    refine st161 t ?_
    refine XS.aloadN X161.here hx rfl (hb hby d5_162) rfl rfl ?_
    refine st163 t ?_
    show Steps p.tables e below (T163.setTop (mkF m 166 #[.val (.ref a1), .val (.int p2), .val (.int p3), .val (.ref a4), .val (.ref a5), .val (.int p6), .val (.int p7), .unset] [(.int (0 : Int32)), (.ref w_position_a1)])) _
    refine XS.iload X163.here hx rfl (hb hby d5_166) rfl ?_
    refine st166 t ?_
    refine XS.aloadN X166.here hx rfl (hb hby d5_169) rfl rfl ?_
    refine XS.dup X166.here hx rfl (hb hby d5_170) rfl rfl ?_
    refine st192 t ?_
    refine XS.iconst X192.here hx rfl (hb hby d5_174) ?_
    refine XS.iadd X192.here hx rfl (hb hby d5_175) rfl ?_
    refine st194 t ?_
    refine XS.aloadN X194.here hx rfl (hb hby d5_179) rfl rfl ?_
    refine XS.dup X194.here hx rfl (hb hby d5_180) rfl rfl ?_
    show Steps p.tables e below (T194.setTop (mkF m 181 #[.val (.ref a1), .val (.int p2), .val (.int p3), .val (.ref a4), .val (.ref a5), .val (.int p6), .val (.int p7), .unset] [(.ref a1), (.ref a1)])) _
    refine st220 t ?_
    refine XS.aloadN X220.here hx rfl (hb hby d5_184) rfl rfl ?_
    refine st222 t ?_
    refine XS.aload X222.here hx rfl (hb hby d5_188) rfl rfl ?_
    refine st224 t ?_
    refine XS.ladd X224.here hx rfl (hb hby d5_193) rfl ?_
    refine XS.ladd X224.here hx rfl (hb hby d5_194) rfl ?_
    refine st226 t ?_
    exact kt
  obtain ⟨fs, hr, hrun, hended, hW, hsame⟩ := X226.leave (v := none) (fun _ => rfl)
  refine ⟨_, _, hEN _ (pre252 _ ?_), hrun, hended, _, _, rfl, ?_, ⟨_, rfl⟩, hW, hsame.mono (by decide) (by decide)⟩
  · exact X226.returnOut hx Bd.returns (hb hby d5_198) hr
  · show Q5s0 Z a1 p2 p3 a4 a5 p6 p7 w_target_a1 w_slot_a1 w_sender_a1 w_position_a1 w_value_a1 w_taken_a1 w_starts_a1 w_grouped_a1 w_next_a1 w_valuesCost_a1 el_w_target_a1 el_w_slot_a1 el_w_sender_a1 el_w_position_a1 el_w_value_a1 el_w_taken_a1 z_a4 el_a4 z_a5 el_a5 h0 n0 _ T226.heap _
    rw [e226]
    exact ⟨rfl, N226, K226, F248_226, F235_226, F236_226, F231_226, F230_226, F227_226, F229_226, F234_226, F233_226, F228_226, F232_226, Fw226, F245_226, F244_226, F241_226, F240_226, F239_226, F243_226, F238_226, F242_226⟩
theorem ef_5s1v (m : MethodId) (x0 : Addr) (x1 : Int32) (x2 : Int32) (x4 : Addr) (x5 : Int32) (x6 : Int32) : entryFrame m #[(.ref x0), (.int x1), (.int x2), .null, (.ref x4), (.int x5), (.int x6)] 8 = mkF m 0 #[.val (.ref x0), .val (.int x1), .val (.int x2), .val .null, .val (.ref x4), .val (.int x5), .val (.int x6), .unset] [] := by first | (simp [entryFrame, mkF, argsToLocals, Value.category]; done) | rfl
def Q5s1v (Z : State) (a1 : Addr) (p2 : Int32) (p3 : Int32) (a5 : Addr) (p6 : Int32) (p7 : Int32) (w_target_a1 : Addr) (w_slot_a1 : Addr) (w_sender_a1 : Addr) (w_position_a1 : Addr) (w_value_a1 : Addr) (w_taken_a1 : Addr) (w_starts_a1 : Addr) (w_grouped_a1 : Addr) (w_next_a1 : Addr) (w_valuesCost_a1 : Int64) (el_w_target_a1 : Nat → Int32) (el_w_slot_a1 : Nat → Int32) (el_w_sender_a1 : Nat → Int32) (el_w_position_a1 : Nat → Int32) (el_w_value_a1 : Nat → Value) (el_w_taken_a1 : Nat → Value) (z_a5 : Int32) (el_a5 : Nat → Int32) (h0 : Heap) (n0 : Nat) (v : Option Value) (h : Heap) (L : List Loc) : Prop := v = none ∧ Fr n0 L ∧ Keep h0 h [w_target_a1, w_slot_a1, w_taken_a1, w_value_a1, w_sender_a1, w_position_a1, a1] ∧ Exa Z h a1 "com/example/accrete/accrete/engine/Sendings" ∧ Fld Z h a1 "com/example/accrete/accrete/engine/Sendings" "grouped" "[I" (.ref w_grouped_a1) ∧ Fld Z h a1 "com/example/accrete/accrete/engine/Sendings" "next" "[I" (.ref w_next_a1) ∧ Fld Z h a1 "com/example/accrete/accrete/engine/Sendings" "position" "[I" (.ref w_position_a1) ∧ Fld Z h a1 "com/example/accrete/accrete/engine/Sendings" "sender" "[I" (.ref w_sender_a1) ∧ Fld Z h a1 "com/example/accrete/accrete/engine/Sendings" "size" "I" (.int (2 : Int32)) ∧ Fld Z h a1 "com/example/accrete/accrete/engine/Sendings" "slot" "[I" (.ref w_slot_a1) ∧ Fld Z h a1 "com/example/accrete/accrete/engine/Sendings" "starts" "[I" (.ref w_starts_a1) ∧ Fld Z h a1 "com/example/accrete/accrete/engine/Sendings" "taken" "[[B" (.ref w_taken_a1) ∧ Fld Z h a1 "com/example/accrete/accrete/engine/Sendings" "target" "[I" (.ref w_target_a1) ∧ Fld Z h a1 "com/example/accrete/accrete/engine/Sendings" "value" "[[B" (.ref w_value_a1) ∧ Fld Z h a1 "com/example/accrete/accrete/engine/Sendings" "valuesCost" "J" (.long (w_valuesCost_a1 + ((0 : Int64) + (((16 : Int32) + z_a5).toInt64)))) ∧ OvcA Z h w_taken_a1 .byte "[B" ∧ OvcA Z h w_value_a1 .byte "[B" ∧ Arf Z h w_position_a1 .int (1024 : Int32) (fun i => (.int ((own_upd el_w_position_a1 ((1 : Int32)).toNatClampNeg p7) i))) ∧ Arf Z h w_sender_a1 .int (1024 : Int32) (fun i => (.int ((own_upd el_w_sender_a1 ((1 : Int32)).toNatClampNeg p6) i))) ∧ Arf Z h w_slot_a1 .int (1024 : Int32) (fun i => (.int ((own_upd el_w_slot_a1 ((1 : Int32)).toNatClampNeg p3) i))) ∧ Arf Z h w_taken_a1 (.array .byte) (1024 : Int32) (own_upd el_w_taken_a1 ((1 : Int32)).toNatClampNeg Value.null) ∧ Arf Z h w_target_a1 .int (1024 : Int32) (fun i => (.int ((own_upd el_w_target_a1 ((1 : Int32)).toNatClampNeg p2) i))) ∧ Arf Z h w_value_a1 (.array .byte) (1024 : Int32) (own_upd el_w_value_a1 ((1 : Int32)).toNatClampNeg (Value.ref a5))
set_option maxRecDepth 65536 in
set_option maxHeartbeats 40000000 in
theorem rm5s1v (l : Launch) (Z : State) (a0 : Array Value) (hw : ∀ d ∈ tables_1, d.before a0 Z = true) (ws : List Jvm.Cond) (a1 : Addr) (p2 : Int32) (p3 : Int32) (a5 : Addr) (p6 : Int32) (p7 : Int32) (w_target_a1 : Addr) (w_slot_a1 : Addr) (w_sender_a1 : Addr) (w_position_a1 : Addr) (w_value_a1 : Addr) (w_taken_a1 : Addr) (w_starts_a1 : Addr) (w_grouped_a1 : Addr) (w_next_a1 : Addr) (w_valuesCost_a1 : Int64) (el_w_target_a1 : Nat → Int32) (el_w_slot_a1 : Nat → Int32) (el_w_sender_a1 : Nat → Int32) (el_w_position_a1 : Nat → Int32) (el_w_value_a1 : Nat → Value) (el_w_taken_a1 : Nat → Value) (z_a5 : Int32) (el_a5 : Nat → Int32) (h0 : Heap) (n0 : Nat) (Z0 : n0 ≤ h0.size) (F_size_a1 : Fld Z h0 a1 "com/example/accrete/accrete/engine/Sendings" "size" "I" (.int (1 : Int32))) (F_target_a1 : Fld Z h0 a1 "com/example/accrete/accrete/engine/Sendings" "target" "[I" (.ref w_target_a1)) (F_slot_a1 : Fld Z h0 a1 "com/example/accrete/accrete/engine/Sendings" "slot" "[I" (.ref w_slot_a1)) (F_sender_a1 : Fld Z h0 a1 "com/example/accrete/accrete/engine/Sendings" "sender" "[I" (.ref w_sender_a1)) (F_position_a1 : Fld Z h0 a1 "com/example/accrete/accrete/engine/Sendings" "position" "[I" (.ref w_position_a1)) (F_value_a1 : Fld Z h0 a1 "com/example/accrete/accrete/engine/Sendings" "value" "[[B" (.ref w_value_a1)) (F_taken_a1 : Fld Z h0 a1 "com/example/accrete/accrete/engine/Sendings" "taken" "[[B" (.ref w_taken_a1)) (F_starts_a1 : Fld Z h0 a1 "com/example/accrete/accrete/engine/Sendings" "starts" "[I" (.ref w_starts_a1)) (F_grouped_a1 : Fld Z h0 a1 "com/example/accrete/accrete/engine/Sendings" "grouped" "[I" (.ref w_grouped_a1)) (F_next_a1 : Fld Z h0 a1 "com/example/accrete/accrete/engine/Sendings" "next" "[I" (.ref w_next_a1)) (F_valuesCost_a1 : Fld Z h0 a1 "com/example/accrete/accrete/engine/Sendings" "valuesCost" "J" (.long w_valuesCost_a1)) (V_w_target_a1 : Arf Z h0 w_target_a1 .int (1024 : Int32) (fun i => (.int (el_w_target_a1 i)))) (V_w_slot_a1 : Arf Z h0 w_slot_a1 .int (1024 : Int32) (fun i => (.int (el_w_slot_a1 i)))) (V_w_sender_a1 : Arf Z h0 w_sender_a1 .int (1024 : Int32) (fun i => (.int (el_w_sender_a1 i)))) (V_w_position_a1 : Arf Z h0 w_position_a1 .int (1024 : Int32) (fun i => (.int (el_w_position_a1 i)))) (V_w_value_a1 : Arf Z h0 w_value_a1 (.array .byte) (1024 : Int32) el_w_value_a1) (V_w_taken_a1 : Arf Z h0 w_taken_a1 (.array .byte) (1024 : Int32) el_w_taken_a1) (O_w_value_a1 : OvcA Z h0 w_value_a1 .byte "[B") (O_w_taken_a1 : OvcA Z h0 w_taken_a1 .byte "[B") (g_w_target_a1 : n0 ≤ w_target_a1) (ne_a1_w_target_a1 : a1 ≠ w_target_a1) (ne_w_slot_a1_w_target_a1 : w_slot_a1 ≠ w_target_a1) (ne_w_sender_a1_w_target_a1 : w_sender_a1 ≠ w_target_a1) (ne_w_position_a1_w_target_a1 : w_position_a1 ≠ w_target_a1) (ne_w_value_a1_w_target_a1 : w_value_a1 ≠ w_target_a1) (ne_w_taken_a1_w_target_a1 : w_taken_a1 ≠ w_target_a1) (g_w_slot_a1 : n0 ≤ w_slot_a1) (ne_a1_w_slot_a1 : a1 ≠ w_slot_a1) (ne_w_sender_a1_w_slot_a1 : w_sender_a1 ≠ w_slot_a1) (ne_w_position_a1_w_slot_a1 : w_position_a1 ≠ w_slot_a1) (ne_w_value_a1_w_slot_a1 : w_value_a1 ≠ w_slot_a1) (ne_w_taken_a1_w_slot_a1 : w_taken_a1 ≠ w_slot_a1) (g_w_taken_a1 : n0 ≤ w_taken_a1) (ne_a1_w_taken_a1 : a1 ≠ w_taken_a1) (ne_w_sender_a1_w_taken_a1 : w_sender_a1 ≠ w_taken_a1) (ne_w_position_a1_w_taken_a1 : w_position_a1 ≠ w_taken_a1) (ne_w_value_a1_w_taken_a1 : w_value_a1 ≠ w_taken_a1) (g_w_value_a1 : n0 ≤ w_value_a1) (E_a5 : Exa Z h0 a5 "[B") (ne_a1_w_value_a1 : a1 ≠ w_value_a1) (ne_w_sender_a1_w_value_a1 : w_sender_a1 ≠ w_value_a1) (ne_w_position_a1_w_value_a1 : w_position_a1 ≠ w_value_a1) (g_w_sender_a1 : n0 ≤ w_sender_a1) (ne_a1_w_sender_a1 : a1 ≠ w_sender_a1) (ne_w_position_a1_w_sender_a1 : w_position_a1 ≠ w_sender_a1) (g_w_position_a1 : n0 ≤ w_position_a1) (ne_a1_w_position_a1 : a1 ≠ w_position_a1) (E_a1 : Exa Z h0 a1 "com/example/accrete/accrete/engine/Sendings") (g_a1 : n0 ≤ a1) (V_a5 : Arf Z h0 a5 .byte z_a5 (fun i => (.int (el_a5 i)))) (ne_a5_w_target_a1 : a5 ≠ w_target_a1) (ne_a5_w_slot_a1 : a5 ≠ w_slot_a1) (ne_a5_w_taken_a1 : a5 ≠ w_taken_a1) (ne_a5_w_value_a1 : a5 ≠ w_value_a1) (ne_a5_w_sender_a1 : a5 ≠ w_sender_a1) (ne_a5_w_position_a1 : a5 ≠ w_position_a1) (ne_a5_a1 : a5 ≠ a1) :
    MetFree l (⟨"com/example/accrete/accrete/engine/Sendings", "add", "(II[B[BII)V"⟩ : MethodName) (head1 (Jvm.Cond.code (⟨"com/example/accrete/accrete/engine/Sendings", "add", "(II[B[BII)V"⟩ : MethodName) prog_52_method_6_code 8 none :: ws) ({ frames := 1, cells := 0, slots := 0, locals := 17 } : Room)) (fun a U => a = #[(.ref a1), (.int p2), (.int p3), .null, (.ref a5), (.int p6), (.int p7)] ∧ Z.Warmed39 U.vm ∧ U.heap = h0) (fun _ _ _ _ _ => True) (fun _ U o U' => ∃ v L, o = .returned v ∧ Q5s1v Z a1 p2 p3 a5 p6 p7 w_target_a1 w_slot_a1 w_sender_a1 w_position_a1 w_value_a1 w_taken_a1 w_starts_a1 w_grouped_a1 w_next_a1 w_valuesCost_a1 el_w_target_a1 el_w_slot_a1 el_w_sender_a1 el_w_position_a1 el_w_value_a1 el_w_taken_a1 z_a5 el_a5 h0 n0 v U'.heap L ∧ FrameEnd U o U' L ({ frames := 1, cells := 0, slots := 0, locals := 17 } : Room).cells ({ frames := 1, cells := 0, slots := 0, locals := 17 } : Room).slots) := by
  refine MetFree.of_bodySF (plainFor_of_name pn_com_example_accrete_accrete_engine_Sendings) hisR ?_
  intro p e s m args below meth c s₁ Bd hml0 hP hK
  obtain ⟨rfl, hZ, hh⟩ := hP
  have hx := Bd.exec
  have hby := Bd.bytes
  have hml : c.maxLocals = 8 := hml0
  have hown : s.vm.findClass "com/example/accrete/accrete/engine/Sendings" = some m.cls := findClass_of_methodNamed Bd.named
  have hnm := (name_of_methodNamed Bd.named Bd.method).1
  have X0 : Stand p l e ({ frames := 1, cells := 0, slots := 0, locals := 17 } : Room) s m #[(.ref a1), (.int p2), (.int p3), .null, (.ref a5), (.int p6), (.int p7)] below meth c s₁ [] 0 0 := Stand.of_body Bd
  have e0 : s₁.heap = h0 := by rw [← hh, Bd.state]; rfl
  have N0 := Fr.nil n0
  obtain ⟨EN, hEN, pre0⟩ : ∃ EN : _ → Prop, (∀ t, EN t → Steps p.tables e below (s₁.setTop (entryFrame m #[(.ref a1), (.int p2), (.int p3), .null, (.ref a5), (.int p6), (.int p7)] 8)) t) ∧ (∀ t, Steps p.tables e below (s₁.setTop (mkF m 0 #[.val (.ref a1), .val (.int p2), .val (.int p3), .val .null, .val (.ref a5), .val (.int p6), .val (.int p7), .unset] [])) t → EN t) := ⟨_, fun _ h => h, fun t k => castTop (ef_5s1v m a1 p2 p3 a5 p6 p7) k⟩
  obtain ⟨T1, X1, e1, st1⟩ := getF X0 hx hZ hown (host := "") (Or.inl (hw _ (mgE 50 rfl))) Via.refl e0 F_size_a1 (g := (mkF m 1 #[.val (.ref a1), .val (.int p2), .val (.int p3), .val .null, .val (.ref a5), .val (.int p6), .val (.int p7), .unset] [(.ref a1)])) rfl rfl (hb hby d5_1)
  obtain ⟨T3, X3, e3, st3⟩ := getF X1 hx hZ hown (host := "") (Or.inl (hw _ (mgE 12 rfl))) Via.refl e1 F_target_a1 (g := (mkF m 5 #[.val (.ref a1), .val (.int p2), .val (.int p3), .val .null, .val (.ref a5), .val (.int p6), .val (.int p7), .unset] [(.ref a1), (.int (1 : Int32))])) rfl rfl (hb hby d5_5)
  obtain ⟨cl5, Ar5, S5, Ng5, H5⟩ := id V_w_target_a1
  obtain ⟨T6, X6, e6, st6⟩ := getF X3 hx hZ hown (host := "") (Or.inl (hw _ (mgE 12 rfl))) Via.refl e3 F_target_a1 (g := (mkF m 107 #[.val (.ref a1), .val (.int p2), .val (.int p3), .val .null, .val (.ref a5), .val (.int p6), .val (.int p7), .unset] [(.ref a1)])) rfl rfl (hb hby d5_107)
  obtain ⟨T8, X8, e8, st8⟩ := getF X6 hx hZ hown (host := "") (Or.inl (hw _ (mgE 50 rfl))) Via.refl e6 F_size_a1 (g := (mkF m 111 #[.val (.ref a1), .val (.int p2), .val (.int p3), .val .null, .val (.ref a5), .val (.int p6), .val (.int p7), .unset] [(.ref a1), (.ref w_target_a1)])) rfl rfl (hb hby d5_111)
  obtain ⟨cl10, Ar10, S10, Ng10, H10⟩ := id V_w_target_a1
  have hj10 : ¬ (1 : Int32) < 0 ∧ (1 : Int32) < (1024 : Int32) := ⟨by decide, by decide⟩
  have hin10 := inb_of S10 hj10
  obtain ⟨T11, h11, X11, e11, W11, st11⟩ := stI X8 hx hZ e8 Ar10 (j := (1 : Int32)) hin10 (g := (mkF m 115 #[.val (.ref a1), .val (.int p2), .val (.int p3), .val .null, .val (.ref a5), .val (.int p6), .val (.int p7), .unset] [(.int p2), (.int (1 : Int32)), (.ref w_target_a1)])) rfl rfl (hb hby d5_115)
  have F12_11 := F_size_a1.other W11 (Or.inl ne_a1_w_target_a1)
  have F13_11 := F_target_a1.other W11 (Or.inl ne_a1_w_target_a1)
  have F14_11 := F_slot_a1.other W11 (Or.inl ne_a1_w_target_a1)
  have F15_11 := F_sender_a1.other W11 (Or.inl ne_a1_w_target_a1)
  have F16_11 := F_position_a1.other W11 (Or.inl ne_a1_w_target_a1)
  have F17_11 := F_value_a1.other W11 (Or.inl ne_a1_w_target_a1)
  have F18_11 := F_taken_a1.other W11 (Or.inl ne_a1_w_target_a1)
  have F19_11 := F_starts_a1.other W11 (Or.inl ne_a1_w_target_a1)
  have F20_11 := F_grouped_a1.other W11 (Or.inl ne_a1_w_target_a1)
  have F21_11 := F_next_a1.other W11 (Or.inl ne_a1_w_target_a1)
  have F22_11 := F_valuesCost_a1.other W11 (Or.inl ne_a1_w_target_a1)
  have F24_11 := V_w_slot_a1.other W11 ne_w_slot_a1_w_target_a1
  have F25_11 := V_w_sender_a1.other W11 ne_w_sender_a1_w_target_a1
  have F26_11 := V_w_position_a1.other W11 ne_w_position_a1_w_target_a1
  have F27_11 := V_w_value_a1.other W11 ne_w_value_a1_w_target_a1
  have F28_11 := V_w_taken_a1.other W11 ne_w_taken_a1_w_target_a1
  have F29_11 := O_w_value_a1.wr W11
  have F30_11 := O_w_taken_a1.wr W11
  have F31_11 := E_a5.wr W11
  have F32_11 := E_a1.wr W11
  have F33_11 := V_a5.other W11 ne_a5_w_target_a1
  have V11_w_target_a1 : Arf Z h11 w_target_a1 .int (1024 : Int32) (fun i => (.int ((own_upd el_w_target_a1 ((1 : Int32)).toNatClampNeg p2) i))) := upd_int _ _ _ ▸ (V_w_target_a1.set W11)
  have K11 : Keep h0 h11 [w_target_a1, w_slot_a1, w_taken_a1, w_value_a1, w_sender_a1, w_position_a1, a1] := (Keep.refl h0 [w_target_a1, w_slot_a1, w_taken_a1, w_value_a1, w_sender_a1, w_position_a1, a1]).wr W11 (Or.inl (mgE 0 rfl))
  have Z11 : n0 ≤ h11.size := Nat.le_trans Z0 (Keep.of_wr W11).1
  have N11 := Fr.snoc X11 N0 g_w_target_a1
  obtain ⟨T35, X35, e35, st35⟩ := getF X11 hx hZ hown (host := "") (Or.inl (hw _ (mgE 14 rfl))) Via.refl e11 F14_11 (g := (mkF m 117 #[.val (.ref a1), .val (.int p2), .val (.int p3), .val .null, .val (.ref a5), .val (.int p6), .val (.int p7), .unset] [(.ref a1)])) rfl rfl (hb hby d5_117)
  obtain ⟨T37, X37, e37, st37⟩ := getF X35 hx hZ hown (host := "") (Or.inl (hw _ (mgE 50 rfl))) Via.refl e35 F12_11 (g := (mkF m 121 #[.val (.ref a1), .val (.int p2), .val (.int p3), .val .null, .val (.ref a5), .val (.int p6), .val (.int p7), .unset] [(.ref a1), (.ref w_slot_a1)])) rfl rfl (hb hby d5_121)
  obtain ⟨cl39, Ar39, S39, Ng39, H39⟩ := id F24_11
  have hj39 : ¬ (1 : Int32) < 0 ∧ (1 : Int32) < (1024 : Int32) := ⟨by decide, by decide⟩
  have hin39 := inb_of S39 hj39
  obtain ⟨T40, h40, X40, e40, W40, st40⟩ := stI X37 hx hZ e37 Ar39 (j := (1 : Int32)) hin39 (g := (mkF m 125 #[.val (.ref a1), .val (.int p2), .val (.int p3), .val .null, .val (.ref a5), .val (.int p6), .val (.int p7), .unset] [(.int p3), (.int (1 : Int32)), (.ref w_slot_a1)])) rfl rfl (hb hby d5_125)
  have F41_40 := F12_11.other W40 (Or.inl ne_a1_w_slot_a1)
  have F42_40 := F13_11.other W40 (Or.inl ne_a1_w_slot_a1)
  have F43_40 := F14_11.other W40 (Or.inl ne_a1_w_slot_a1)
  have F44_40 := F15_11.other W40 (Or.inl ne_a1_w_slot_a1)
  have F45_40 := F16_11.other W40 (Or.inl ne_a1_w_slot_a1)
  have F46_40 := F17_11.other W40 (Or.inl ne_a1_w_slot_a1)
  have F47_40 := F18_11.other W40 (Or.inl ne_a1_w_slot_a1)
  have F48_40 := F19_11.other W40 (Or.inl ne_a1_w_slot_a1)
  have F49_40 := F20_11.other W40 (Or.inl ne_a1_w_slot_a1)
  have F50_40 := F21_11.other W40 (Or.inl ne_a1_w_slot_a1)
  have F51_40 := F22_11.other W40 (Or.inl ne_a1_w_slot_a1)
  have F52_40 := V11_w_target_a1.other W40 (Ne.symm ne_w_slot_a1_w_target_a1)
  have F54_40 := F25_11.other W40 ne_w_sender_a1_w_slot_a1
  have F55_40 := F26_11.other W40 ne_w_position_a1_w_slot_a1
  have F56_40 := F27_11.other W40 ne_w_value_a1_w_slot_a1
  have F57_40 := F28_11.other W40 ne_w_taken_a1_w_slot_a1
  have F58_40 := F29_11.wr W40
  have F59_40 := F30_11.wr W40
  have F60_40 := F31_11.wr W40
  have F61_40 := F32_11.wr W40
  have F62_40 := F33_11.other W40 ne_a5_w_slot_a1
  have V40_w_slot_a1 : Arf Z h40 w_slot_a1 .int (1024 : Int32) (fun i => (.int ((own_upd el_w_slot_a1 ((1 : Int32)).toNatClampNeg p3) i))) := upd_int _ _ _ ▸ (F24_11.set W40)
  have K40 : Keep h0 h40 [w_target_a1, w_slot_a1, w_taken_a1, w_value_a1, w_sender_a1, w_position_a1, a1] := K11.wr W40 (Or.inl (mgE 1 rfl))
  have Z40 : n0 ≤ h40.size := Nat.le_trans Z11 (Keep.of_wr W40).1
  have N40 := Fr.snoc X40 N11 g_w_slot_a1
  obtain ⟨T64, X64, e64, st64⟩ := getF X40 hx hZ hown (host := "") (Or.inl (hw _ (mgE 20 rfl))) Via.refl e40 F47_40 (g := (mkF m 127 #[.val (.ref a1), .val (.int p2), .val (.int p3), .val .null, .val (.ref a5), .val (.int p6), .val (.int p7), .unset] [(.ref a1)])) rfl rfl (hb hby d5_127)
  obtain ⟨T66, X66, e66, st66⟩ := getF X64 hx hZ hown (host := "") (Or.inl (hw _ (mgE 50 rfl))) Via.refl e64 F41_40 (g := (mkF m 131 #[.val (.ref a1), .val (.int p2), .val (.int p3), .val .null, .val (.ref a5), .val (.int p6), .val (.int p7), .unset] [(.ref a1), (.ref w_taken_a1)])) rfl rfl (hb hby d5_131)
  obtain ⟨cl68, Ar68, S68, Ng68, H68⟩ := id F57_40
  have hj68 : ¬ (1 : Int32) < 0 ∧ (1 : Int32) < (1024 : Int32) := ⟨by decide, by decide⟩
  have hin68 := inb_of S68 hj68
  obtain ⟨T69, h69, X69, e69, W69, st69⟩ := stR X66 hx hZ e66 Ar68 (j := (1 : Int32)) hin68 rfl (Or.inl rfl) (g := (mkF m 135 #[.val (.ref a1), .val (.int p2), .val (.int p3), .val .null, .val (.ref a5), .val (.int p6), .val (.int p7), .unset] [.null, (.int (1 : Int32)), (.ref w_taken_a1)])) rfl rfl (hb hby d5_135)
  have F70_69 := F41_40.other W69 (Or.inl ne_a1_w_taken_a1)
  have F71_69 := F42_40.other W69 (Or.inl ne_a1_w_taken_a1)
  have F72_69 := F43_40.other W69 (Or.inl ne_a1_w_taken_a1)
  have F73_69 := F44_40.other W69 (Or.inl ne_a1_w_taken_a1)
  have F74_69 := F45_40.other W69 (Or.inl ne_a1_w_taken_a1)
  have F75_69 := F46_40.other W69 (Or.inl ne_a1_w_taken_a1)
  have F76_69 := F47_40.other W69 (Or.inl ne_a1_w_taken_a1)
  have F77_69 := F48_40.other W69 (Or.inl ne_a1_w_taken_a1)
  have F78_69 := F49_40.other W69 (Or.inl ne_a1_w_taken_a1)
  have F79_69 := F50_40.other W69 (Or.inl ne_a1_w_taken_a1)
  have F80_69 := F51_40.other W69 (Or.inl ne_a1_w_taken_a1)
  have F81_69 := F52_40.other W69 (Ne.symm ne_w_taken_a1_w_target_a1)
  have F82_69 := V40_w_slot_a1.other W69 (Ne.symm ne_w_taken_a1_w_slot_a1)
  have F83_69 := F54_40.other W69 ne_w_sender_a1_w_taken_a1
  have F84_69 := F55_40.other W69 ne_w_position_a1_w_taken_a1
  have F85_69 := F56_40.other W69 ne_w_value_a1_w_taken_a1
  have F87_69 := F58_40.wr W69
  have F88_69 := F59_40.wr W69
  have F89_69 := F60_40.wr W69
  have F90_69 := F61_40.wr W69
  have F91_69 := F62_40.other W69 ne_a5_w_taken_a1
  have V69_w_taken_a1 : Arf Z h69 w_taken_a1 (.array .byte) (1024 : Int32) (own_upd el_w_taken_a1 ((1 : Int32)).toNatClampNeg Value.null) := (F57_40.set W69)
  have K69 : Keep h0 h69 [w_target_a1, w_slot_a1, w_taken_a1, w_value_a1, w_sender_a1, w_position_a1, a1] := K40.wr W69 (Or.inl (mgE 2 rfl))
  have Z69 : n0 ≤ h69.size := Nat.le_trans Z40 (Keep.of_wr W69).1
  have N69 := Fr.snoc X69 N40 g_w_taken_a1
  obtain ⟨T93, X93, e93, st93⟩ := getF X69 hx hZ hown (host := "") (Or.inl (hw _ (mgE 18 rfl))) Via.refl e69 F75_69 (g := (mkF m 137 #[.val (.ref a1), .val (.int p2), .val (.int p3), .val .null, .val (.ref a5), .val (.int p6), .val (.int p7), .unset] [(.ref a1)])) rfl rfl (hb hby d5_137)
  obtain ⟨T95, X95, e95, st95⟩ := getF X93 hx hZ hown (host := "") (Or.inl (hw _ (mgE 50 rfl))) Via.refl e93 F70_69 (g := (mkF m 141 #[.val (.ref a1), .val (.int p2), .val (.int p3), .val .null, .val (.ref a5), .val (.int p6), .val (.int p7), .unset] [(.ref a1), (.ref w_value_a1)])) rfl rfl (hb hby d5_141)
  obtain ⟨cl97, Ar97, S97, Ng97, H97⟩ := id F85_69
  have hj97 : ¬ (1 : Int32) < 0 ∧ (1 : Int32) < (1024 : Int32) := ⟨by decide, by decide⟩
  have hin97 := inb_of S97 hj97
  obtain ⟨T98, h98, X98, e98, W98, st98⟩ := stR X95 hx hZ e95 Ar97 (j := (1 : Int32)) hin97 rfl (own_stoA Ar97 F87_69 (Ins.self F89_69)) (g := (mkF m 146 #[.val (.ref a1), .val (.int p2), .val (.int p3), .val .null, .val (.ref a5), .val (.int p6), .val (.int p7), .unset] [(.ref a5), (.int (1 : Int32)), (.ref w_value_a1)])) rfl rfl (hb hby d5_146)
  have F99_98 := F70_69.other W98 (Or.inl ne_a1_w_value_a1)
  have F100_98 := F71_69.other W98 (Or.inl ne_a1_w_value_a1)
  have F101_98 := F72_69.other W98 (Or.inl ne_a1_w_value_a1)
  have F102_98 := F73_69.other W98 (Or.inl ne_a1_w_value_a1)
  have F103_98 := F74_69.other W98 (Or.inl ne_a1_w_value_a1)
  have F104_98 := F75_69.other W98 (Or.inl ne_a1_w_value_a1)
  have F105_98 := F76_69.other W98 (Or.inl ne_a1_w_value_a1)
  have F106_98 := F77_69.other W98 (Or.inl ne_a1_w_value_a1)
  have F107_98 := F78_69.other W98 (Or.inl ne_a1_w_value_a1)
  have F108_98 := F79_69.other W98 (Or.inl ne_a1_w_value_a1)
  have F109_98 := F80_69.other W98 (Or.inl ne_a1_w_value_a1)
  have F110_98 := F81_69.other W98 (Ne.symm ne_w_value_a1_w_target_a1)
  have F111_98 := F82_69.other W98 (Ne.symm ne_w_value_a1_w_slot_a1)
  have F112_98 := F83_69.other W98 ne_w_sender_a1_w_value_a1
  have F113_98 := F84_69.other W98 ne_w_position_a1_w_value_a1
  have F115_98 := V69_w_taken_a1.other W98 (Ne.symm ne_w_value_a1_w_taken_a1)
  have F116_98 := F87_69.wr W98
  have F117_98 := F88_69.wr W98
  have F119_98 := F90_69.wr W98
  have F120_98 := F91_69.other W98 ne_a5_w_value_a1
  have V98_w_value_a1 : Arf Z h98 w_value_a1 (.array .byte) (1024 : Int32) (own_upd el_w_value_a1 ((1 : Int32)).toNatClampNeg (Value.ref a5)) := (F85_69.set W98)
  have K98 : Keep h0 h98 [w_target_a1, w_slot_a1, w_taken_a1, w_value_a1, w_sender_a1, w_position_a1, a1] := K69.wr W98 (Or.inl (mgE 3 rfl))
  have Z98 : n0 ≤ h98.size := Nat.le_trans Z69 (Keep.of_wr W98).1
  have N98 := Fr.snoc X98 N69 g_w_value_a1
  obtain ⟨T122, X122, e122, st122⟩ := getF X98 hx hZ hown (host := "") (Or.inl (hw _ (mgE 22 rfl))) Via.refl e98 F102_98 (g := (mkF m 148 #[.val (.ref a1), .val (.int p2), .val (.int p3), .val .null, .val (.ref a5), .val (.int p6), .val (.int p7), .unset] [(.ref a1)])) rfl rfl (hb hby d5_148)
  obtain ⟨T124, X124, e124, st124⟩ := getF X122 hx hZ hown (host := "") (Or.inl (hw _ (mgE 50 rfl))) Via.refl e122 F99_98 (g := (mkF m 152 #[.val (.ref a1), .val (.int p2), .val (.int p3), .val .null, .val (.ref a5), .val (.int p6), .val (.int p7), .unset] [(.ref a1), (.ref w_sender_a1)])) rfl rfl (hb hby d5_152)
  obtain ⟨cl126, Ar126, S126, Ng126, H126⟩ := id F112_98
  have hj126 : ¬ (1 : Int32) < 0 ∧ (1 : Int32) < (1024 : Int32) := ⟨by decide, by decide⟩
  have hin126 := inb_of S126 hj126
  obtain ⟨T127, h127, X127, e127, W127, st127⟩ := stI X124 hx hZ e124 Ar126 (j := (1 : Int32)) hin126 (g := (mkF m 157 #[.val (.ref a1), .val (.int p2), .val (.int p3), .val .null, .val (.ref a5), .val (.int p6), .val (.int p7), .unset] [(.int p6), (.int (1 : Int32)), (.ref w_sender_a1)])) rfl rfl (hb hby d5_157)
  have F128_127 := F99_98.other W127 (Or.inl ne_a1_w_sender_a1)
  have F129_127 := F100_98.other W127 (Or.inl ne_a1_w_sender_a1)
  have F130_127 := F101_98.other W127 (Or.inl ne_a1_w_sender_a1)
  have F131_127 := F102_98.other W127 (Or.inl ne_a1_w_sender_a1)
  have F132_127 := F103_98.other W127 (Or.inl ne_a1_w_sender_a1)
  have F133_127 := F104_98.other W127 (Or.inl ne_a1_w_sender_a1)
  have F134_127 := F105_98.other W127 (Or.inl ne_a1_w_sender_a1)
  have F135_127 := F106_98.other W127 (Or.inl ne_a1_w_sender_a1)
  have F136_127 := F107_98.other W127 (Or.inl ne_a1_w_sender_a1)
  have F137_127 := F108_98.other W127 (Or.inl ne_a1_w_sender_a1)
  have F138_127 := F109_98.other W127 (Or.inl ne_a1_w_sender_a1)
  have F139_127 := F110_98.other W127 (Ne.symm ne_w_sender_a1_w_target_a1)
  have F140_127 := F111_98.other W127 (Ne.symm ne_w_sender_a1_w_slot_a1)
  have F142_127 := F113_98.other W127 ne_w_position_a1_w_sender_a1
  have F143_127 := V98_w_value_a1.other W127 (Ne.symm ne_w_sender_a1_w_value_a1)
  have F144_127 := F115_98.other W127 (Ne.symm ne_w_sender_a1_w_taken_a1)
  have F145_127 := F116_98.wr W127
  have F146_127 := F117_98.wr W127
  have F148_127 := F119_98.wr W127
  have F149_127 := F120_98.other W127 ne_a5_w_sender_a1
  have V127_w_sender_a1 : Arf Z h127 w_sender_a1 .int (1024 : Int32) (fun i => (.int ((own_upd el_w_sender_a1 ((1 : Int32)).toNatClampNeg p6) i))) := upd_int _ _ _ ▸ (F112_98.set W127)
  have K127 : Keep h0 h127 [w_target_a1, w_slot_a1, w_taken_a1, w_value_a1, w_sender_a1, w_position_a1, a1] := K98.wr W127 (Or.inl (mgE 4 rfl))
  have Z127 : n0 ≤ h127.size := Nat.le_trans Z98 (Keep.of_wr W127).1
  have N127 := Fr.snoc X127 N98 g_w_sender_a1
  obtain ⟨T151, X151, e151, st151⟩ := getF X127 hx hZ hown (host := "") (Or.inl (hw _ (mgE 24 rfl))) Via.refl e127 F132_127 (g := (mkF m 159 #[.val (.ref a1), .val (.int p2), .val (.int p3), .val .null, .val (.ref a5), .val (.int p6), .val (.int p7), .unset] [(.ref a1)])) rfl rfl (hb hby d5_159)
  obtain ⟨T153, X153, e153, st153⟩ := getF X151 hx hZ hown (host := "") (Or.inl (hw _ (mgE 50 rfl))) Via.refl e151 F128_127 (g := (mkF m 163 #[.val (.ref a1), .val (.int p2), .val (.int p3), .val .null, .val (.ref a5), .val (.int p6), .val (.int p7), .unset] [(.ref a1), (.ref w_position_a1)])) rfl rfl (hb hby d5_163)
  obtain ⟨cl155, Ar155, S155, Ng155, H155⟩ := id F142_127
  have hj155 : ¬ (1 : Int32) < 0 ∧ (1 : Int32) < (1024 : Int32) := ⟨by decide, by decide⟩
  have hin155 := inb_of S155 hj155
  obtain ⟨T156, h156, X156, e156, W156, st156⟩ := stI X153 hx hZ e153 Ar155 (j := (1 : Int32)) hin155 (g := (mkF m 168 #[.val (.ref a1), .val (.int p2), .val (.int p3), .val .null, .val (.ref a5), .val (.int p6), .val (.int p7), .unset] [(.int p7), (.int (1 : Int32)), (.ref w_position_a1)])) rfl rfl (hb hby d5_168)
  have F157_156 := F128_127.other W156 (Or.inl ne_a1_w_position_a1)
  have F158_156 := F129_127.other W156 (Or.inl ne_a1_w_position_a1)
  have F159_156 := F130_127.other W156 (Or.inl ne_a1_w_position_a1)
  have F160_156 := F131_127.other W156 (Or.inl ne_a1_w_position_a1)
  have F161_156 := F132_127.other W156 (Or.inl ne_a1_w_position_a1)
  have F162_156 := F133_127.other W156 (Or.inl ne_a1_w_position_a1)
  have F163_156 := F134_127.other W156 (Or.inl ne_a1_w_position_a1)
  have F164_156 := F135_127.other W156 (Or.inl ne_a1_w_position_a1)
  have F165_156 := F136_127.other W156 (Or.inl ne_a1_w_position_a1)
  have F166_156 := F137_127.other W156 (Or.inl ne_a1_w_position_a1)
  have F167_156 := F138_127.other W156 (Or.inl ne_a1_w_position_a1)
  have F168_156 := F139_127.other W156 (Ne.symm ne_w_position_a1_w_target_a1)
  have F169_156 := F140_127.other W156 (Ne.symm ne_w_position_a1_w_slot_a1)
  have F170_156 := V127_w_sender_a1.other W156 (Ne.symm ne_w_position_a1_w_sender_a1)
  have F172_156 := F143_127.other W156 (Ne.symm ne_w_position_a1_w_value_a1)
  have F173_156 := F144_127.other W156 (Ne.symm ne_w_position_a1_w_taken_a1)
  have F174_156 := F145_127.wr W156
  have F175_156 := F146_127.wr W156
  have F177_156 := F148_127.wr W156
  have F178_156 := F149_127.other W156 ne_a5_w_position_a1
  have V156_w_position_a1 : Arf Z h156 w_position_a1 .int (1024 : Int32) (fun i => (.int ((own_upd el_w_position_a1 ((1 : Int32)).toNatClampNeg p7) i))) := upd_int _ _ _ ▸ (F142_127.set W156)
  have K156 : Keep h0 h156 [w_target_a1, w_slot_a1, w_taken_a1, w_value_a1, w_sender_a1, w_position_a1, a1] := K127.wr W156 (Or.inl (mgE 5 rfl))
  have Z156 : n0 ≤ h156.size := Nat.le_trans Z127 (Keep.of_wr W156).1
  have N156 := Fr.snoc X156 N127 g_w_position_a1
  obtain ⟨T180, X180, e180, st180⟩ := getF X156 hx hZ hown (host := "") (Or.inl (hw _ (mgE 50 rfl))) Via.refl e156 F157_156 (g := (mkF m 171 #[.val (.ref a1), .val (.int p2), .val (.int p3), .val .null, .val (.ref a5), .val (.int p6), .val (.int p7), .unset] [(.ref a1), (.ref a1)])) rfl rfl (hb hby d5_171)
  obtain ⟨T182, h182, X182, e182, W182, st182⟩ := putF X180 hx hZ hown (host := "") (Or.inl (hw _ (mgE 50 rfl))) Via.refl e180 F157_156 F177_156 (Or.inl (hw _ (mgE 51 rfl))) (hw _ (mgE 3 rfl)) (ty := .int) (by decide) rfl rfl (g := (mkF m 176 #[.val (.ref a1), .val (.int p2), .val (.int p3), .val .null, .val (.ref a5), .val (.int p6), .val (.int p7), .unset] [(.int (2 : Int32)), (.ref a1)])) rfl rfl (hb hby d5_176)
  have F184_182 := F158_156.other W182 (Or.inr (slot_ne (Or.inl (hw _ (mgE 13 rfl))) (Or.inl (hw _ (mgE 51 rfl))) (by decide) (t := (.array .int)) (t' := .int) (by decide) (by decide)))
  have F185_182 := F159_156.other W182 (Or.inr (slot_ne (Or.inl (hw _ (mgE 15 rfl))) (Or.inl (hw _ (mgE 51 rfl))) (by decide) (t := (.array .int)) (t' := .int) (by decide) (by decide)))
  have F186_182 := F160_156.other W182 (Or.inr (slot_ne (Or.inl (hw _ (mgE 23 rfl))) (Or.inl (hw _ (mgE 51 rfl))) (by decide) (t := (.array .int)) (t' := .int) (by decide) (by decide)))
  have F187_182 := F161_156.other W182 (Or.inr (slot_ne (Or.inl (hw _ (mgE 25 rfl))) (Or.inl (hw _ (mgE 51 rfl))) (by decide) (t := (.array .int)) (t' := .int) (by decide) (by decide)))
  have F188_182 := F162_156.other W182 (Or.inr (slot_ne (Or.inl (hw _ (mgE 19 rfl))) (Or.inl (hw _ (mgE 51 rfl))) (by decide) (t := (.array (.array .byte))) (t' := .int) (by decide) (by decide)))
  have F189_182 := F163_156.other W182 (Or.inr (slot_ne (Or.inl (hw _ (mgE 21 rfl))) (Or.inl (hw _ (mgE 51 rfl))) (by decide) (t := (.array (.array .byte))) (t' := .int) (by decide) (by decide)))
  have F190_182 := F164_156.other W182 (Or.inr (slot_ne (Or.inl (hw _ (mgE 27 rfl))) (Or.inl (hw _ (mgE 51 rfl))) (by decide) (t := (.array .int)) (t' := .int) (by decide) (by decide)))
  have F191_182 := F165_156.other W182 (Or.inr (slot_ne (Or.inl (hw _ (mgE 29 rfl))) (Or.inl (hw _ (mgE 51 rfl))) (by decide) (t := (.array .int)) (t' := .int) (by decide) (by decide)))
  have F192_182 := F166_156.other W182 (Or.inr (slot_ne (Or.inl (hw _ (mgE 31 rfl))) (Or.inl (hw _ (mgE 51 rfl))) (by decide) (t := (.array .int)) (t' := .int) (by decide) (by decide)))
  have F193_182 := F167_156.other W182 (Or.inr (slot_ne (Or.inl (hw _ (mgE 40 rfl))) (Or.inl (hw _ (mgE 51 rfl))) (by decide) (t := .long) (t' := .int) (by decide) (by decide)))
  have F194_182 := F168_156.other W182 (Ne.symm ne_a1_w_target_a1)
  have F195_182 := F169_156.other W182 (Ne.symm ne_a1_w_slot_a1)
  have F196_182 := F170_156.other W182 (Ne.symm ne_a1_w_sender_a1)
  have F197_182 := V156_w_position_a1.other W182 (Ne.symm ne_a1_w_position_a1)
  have F198_182 := F172_156.other W182 (Ne.symm ne_a1_w_value_a1)
  have F199_182 := F173_156.other W182 (Ne.symm ne_a1_w_taken_a1)
  have F200_182 := F174_156.wr W182
  have F201_182 := F175_156.wr W182
  have F203_182 := F177_156.wr W182
  have F204_182 := F178_156.other W182 ne_a5_a1
  have Fw182 := F157_156.same W182
  have K182 : Keep h0 h182 [w_target_a1, w_slot_a1, w_taken_a1, w_value_a1, w_sender_a1, w_position_a1, a1] := K156.wr W182 (Or.inl (mgE 6 rfl))
  have Z182 : n0 ≤ h182.size := Nat.le_trans Z156 (Keep.of_wr W182).1
  have N182 := Fr.snoc X182 N156 g_a1
  obtain ⟨T206, X206, e206, st206⟩ := getF X182 hx hZ hown (host := "") (Or.inl (hw _ (mgE 39 rfl))) Via.refl e182 F193_182 (g := (mkF m 181 #[.val (.ref a1), .val (.int p2), .val (.int p3), .val .null, .val (.ref a5), .val (.int p6), .val (.int p7), .unset] [(.ref a1), (.ref a1)])) rfl rfl (hb hby d5_181)
  obtain ⟨_, _, ⟨T208, L208, k208, n208⟩, -, X208, ⟨Lc208, hQ208, l208, y208, z208⟩, st208⟩ := Jvm.LawKit.callS X206 hx (y := (⟨"com/example/accrete/accrete/engine/Sendings", "cost", "([B)J"⟩ : MethodName)) hown (mvT hZ (hw _ (mgE 53 rfl))) (mvT hZ (hw _ (mgE 54 rfl))) (mvT hZ (hw _ (mgE 4 rfl))) (mvT hZ (hw _ (mgE 55 rfl))) (by decide) (backOf (W := 3) (rm6n0 l Z a0 hw []  h182 n0 Z182 ) hZ (hw _ (mgE 55 rfl)) (hw _ (mgE 4 rfl)) (by decide) (by decide)) (g := (mkF m 185 #[.val (.ref a1), .val (.int p2), .val (.int p3), .val .null, .val (.ref a5), .val (.int p6), .val (.int p7), .unset] [.null, (.long w_valuesCost_a1), (.ref a1)])) rfl (by rw [hml]; rfl) (argsL := [.null]) (rest := [(.long w_valuesCost_a1), (.ref a1)]) (lenOf pd___B_J rfl) rfl (by show 2 * 0 + _ ≤ _; exact Nat.le_of_eq rfl) (hb hby d5_185) (fun _ _ => ⟨rfl, e206, (by decide : 0 + 0 ≤ _), (by decide : 0 + 0 ≤ _)⟩)
  dsimp only [Pt.U, Pt.locs, Pt.cells, Pt.slots] at X208 l208 y208 z208 st208 hQ208
  subst l208 y208 z208
  obtain ⟨rfl, N208q, e208⟩ := hQ208
  have N208 := Fr.app N182 N208q
  obtain ⟨_, _, ⟨T210, L210, k210, n210⟩, -, X210, ⟨Lc210, hQ210, l210, y210, z210⟩, st210⟩ := Jvm.LawKit.callS X208 hx (y := (⟨"com/example/accrete/accrete/engine/Sendings", "cost", "([B)J"⟩ : MethodName)) hown (mvT hZ (hw _ (mgE 53 rfl))) (mvT hZ (hw _ (mgE 54 rfl))) (mvT hZ (hw _ (mgE 4 rfl))) (mvT hZ (hw _ (mgE 55 rfl))) (by decide) (backOf (W := 5) (rm6 l Z a0 hw [] a5 z_a5 el_a5 h182 n0 Z182 F204_182) hZ (hw _ (mgE 55 rfl)) (hw _ (mgE 4 rfl)) (by decide) (by decide)) (g := (mkF m 190 #[.val (.ref a1), .val (.int p2), .val (.int p3), .val .null, .val (.ref a5), .val (.int p6), .val (.int p7), .unset] [(.ref a5), (.long (0 : Int64)), (.long w_valuesCost_a1), (.ref a1)])) rfl (by rw [hml]; rfl) (argsL := [(.ref a5)]) (rest := [(.long (0 : Int64)), (.long w_valuesCost_a1), (.ref a1)]) (lenOf pd___B_J rfl) rfl (by show 2 * 0 + _ ≤ _; exact Nat.le_of_eq rfl) (hb hby d5_190) (fun _ _ => ⟨rfl, e208, (by decide : 0 + 0 ≤ _), (by decide : 0 + 0 ≤ _)⟩)
  dsimp only [Pt.U, Pt.locs, Pt.cells, Pt.slots] at X210 l210 y210 z210 st210 hQ210
  subst l210 y210 z210
  obtain ⟨rfl, N210q, e210⟩ := hQ210
  have N210 := Fr.app N208 N210q
  obtain ⟨T212, h212, X212, e212, W212, st212⟩ := putF X210 hx hZ hown (host := "") (Or.inl (hw _ (mgE 39 rfl))) Via.refl e210 F193_182 F203_182 (Or.inl (hw _ (mgE 40 rfl))) (hw _ (mgE 3 rfl)) (ty := .long) (by decide) rfl rfl (g := (mkF m 195 #[.val (.ref a1), .val (.int p2), .val (.int p3), .val .null, .val (.ref a5), .val (.int p6), .val (.int p7), .unset] [(.long (w_valuesCost_a1 + ((0 : Int64) + (((16 : Int32) + z_a5).toInt64)))), (.ref a1)])) rfl rfl (hb hby d5_195)
  have F213_212 := Fw182.other W212 (Or.inr (slot_ne (Or.inl (hw _ (mgE 51 rfl))) (Or.inl (hw _ (mgE 40 rfl))) (by decide) (t := .int) (t' := .long) (by decide) (by decide)))
  have F214_212 := F184_182.other W212 (Or.inr (slot_ne (Or.inl (hw _ (mgE 13 rfl))) (Or.inl (hw _ (mgE 40 rfl))) (by decide) (t := (.array .int)) (t' := .long) (by decide) (by decide)))
  have F215_212 := F185_182.other W212 (Or.inr (slot_ne (Or.inl (hw _ (mgE 15 rfl))) (Or.inl (hw _ (mgE 40 rfl))) (by decide) (t := (.array .int)) (t' := .long) (by decide) (by decide)))
  have F216_212 := F186_182.other W212 (Or.inr (slot_ne (Or.inl (hw _ (mgE 23 rfl))) (Or.inl (hw _ (mgE 40 rfl))) (by decide) (t := (.array .int)) (t' := .long) (by decide) (by decide)))
  have F217_212 := F187_182.other W212 (Or.inr (slot_ne (Or.inl (hw _ (mgE 25 rfl))) (Or.inl (hw _ (mgE 40 rfl))) (by decide) (t := (.array .int)) (t' := .long) (by decide) (by decide)))
  have F218_212 := F188_182.other W212 (Or.inr (slot_ne (Or.inl (hw _ (mgE 19 rfl))) (Or.inl (hw _ (mgE 40 rfl))) (by decide) (t := (.array (.array .byte))) (t' := .long) (by decide) (by decide)))
  have F219_212 := F189_182.other W212 (Or.inr (slot_ne (Or.inl (hw _ (mgE 21 rfl))) (Or.inl (hw _ (mgE 40 rfl))) (by decide) (t := (.array (.array .byte))) (t' := .long) (by decide) (by decide)))
  have F220_212 := F190_182.other W212 (Or.inr (slot_ne (Or.inl (hw _ (mgE 27 rfl))) (Or.inl (hw _ (mgE 40 rfl))) (by decide) (t := (.array .int)) (t' := .long) (by decide) (by decide)))
  have F221_212 := F191_182.other W212 (Or.inr (slot_ne (Or.inl (hw _ (mgE 29 rfl))) (Or.inl (hw _ (mgE 40 rfl))) (by decide) (t := (.array .int)) (t' := .long) (by decide) (by decide)))
  have F222_212 := F192_182.other W212 (Or.inr (slot_ne (Or.inl (hw _ (mgE 31 rfl))) (Or.inl (hw _ (mgE 40 rfl))) (by decide) (t := (.array .int)) (t' := .long) (by decide) (by decide)))
  have F224_212 := F194_182.other W212 (Ne.symm ne_a1_w_target_a1)
  have F225_212 := F195_182.other W212 (Ne.symm ne_a1_w_slot_a1)
  have F226_212 := F196_182.other W212 (Ne.symm ne_a1_w_sender_a1)
  have F227_212 := F197_182.other W212 (Ne.symm ne_a1_w_position_a1)
  have F228_212 := F198_182.other W212 (Ne.symm ne_a1_w_value_a1)
  have F229_212 := F199_182.other W212 (Ne.symm ne_a1_w_taken_a1)
  have F230_212 := F200_182.wr W212
  have F231_212 := F201_182.wr W212
  have F233_212 := F203_182.wr W212
  have Fw212 := F193_182.same W212
  have K212 : Keep h0 h212 [w_target_a1, w_slot_a1, w_taken_a1, w_value_a1, w_sender_a1, w_position_a1, a1] := K182.wr W212 (Or.inl (mgE 6 rfl))
  have N212 := Fr.snoc X212 N210 g_a1
  have pre236 : ∀ t, Steps p.tables e below (T212.setTop (mkF m 198 #[.val (.ref a1), .val (.int p2), .val (.int p3), .val .null, .val (.ref a5), .val (.int p6), .val (.int p7), .unset] [])) t → EN t := fun t kt => by
    refine pre0 t ?_
    refine XS.aloadN X0.here hx rfl (hb hby d5_0) rfl rfl ?_
    refine st1 t ?_
    refine XS.aloadN X1.here hx rfl (hb hby d5_4) rfl rfl ?_
    refine st3 t ?_
    refine X3.arraylength hx (by rw [e3]; exact Ar5.1) (State.isArrayOf_alike hZ.alike Ar5.2.1) (g := (mkF m 8 #[.val (.ref a1), .val (.int p2), .val (.int p3), .val .null, .val (.ref a5), .val (.int p6), .val (.int p7), .unset] [(.ref w_target_a1), (.int (1 : Int32))])) rfl rfl (hb hby d5_8) _ ?_
    rw [len_of S5 Ng5]
    refine XS.icmpYes X3.here hx rfl (pc0 := 9) (pc' := 106) rfl (hb hby d5_9) rfl (feq (by decide : ¬ ((1 : Int32) = (1024 : Int32)))).2 (by decide) (by decide) ?_
    refine XS.aloadN X3.here hx rfl (hb hby d5_106) rfl rfl ?_
    refine st6 t ?_
    refine XS.aloadN X6.here hx rfl (hb hby d5_110) rfl rfl ?_
    refine st8 t ?_
    show Steps p.tables e below (T8.setTop (mkF m 114 #[.val (.ref a1), .val (.int p2), .val (.int p3), .val .null, .val (.ref a5), .val (.int p6), .val (.int p7), .unset] [(.int (1 : Int32)), (.ref w_target_a1)])) _
    refine XS.iloadN X8.here hx rfl (hb hby d5_114) rfl ?_
    refine st11 t ?_
    refine XS.aloadN X11.here hx rfl (hb hby d5_116) rfl rfl ?_
    refine st35 t ?_
    refine XS.aloadN X35.here hx rfl (hb hby d5_120) rfl rfl ?_
    refine st37 t ?_
    refine XS.iloadN X37.here hx rfl (hb hby d5_124) rfl ?_
    refine st40 t ?_
    refine XS.aloadN X40.here hx rfl (hb hby d5_126) rfl rfl ?_
    refine st64 t ?_
    show Steps p.tables e below (T64.setTop (mkF m 130 #[.val (.ref a1), .val (.int p2), .val (.int p3), .val .null, .val (.ref a5), .val (.int p6), .val (.int p7), .unset] [(.ref w_taken_a1)])) _
    refine XS.aloadN X64.here hx rfl (hb hby d5_130) rfl rfl ?_
    refine st66 t ?_
    refine XS.aloadN X66.here hx rfl (hb hby d5_134) rfl rfl ?_
    refine st69 t ?_
    refine XS.aloadN X69.here hx rfl (hb hby d5_136) rfl rfl ?_
    refine st93 t ?_
    refine XS.aloadN X93.here hx rfl (hb hby d5_140) rfl rfl ?_
    refine st95 t ?_
    refine XS.aload X95.here hx rfl (hb hby d5_144) rfl rfl ?_
    refine st98 t ?_
    show Steps p.tables e below (T98.setTop (mkF m 147 #[.val (.ref a1), .val (.int p2), .val (.int p3), .val .null, .val (.ref a5), .val (.int p6), .val (.int p7), .unset] [])) _
    refine XS.aloadN X98.here hx rfl (hb hby d5_147) rfl rfl ?_
    refine st122 t ?_
    refine XS.aloadN X122.here hx rfl (hb hby d5_151) rfl rfl ?_
    refine st124 t ?_
    refine XS.iload X124.here hx rfl (hb hby d5_155) rfl ?_
    refine st127 t ?_
    refine XS.aloadN X127.here hx rfl (hb hby d5_158) rfl rfl ?_
    refine st151 t ?_
    refine XS.aloadN X151.here hx rfl (hb hby d5_162) rfl rfl ?_
    refine st153 t ?_
    show Steps p.tables e below (T153.setTop (mkF m 166 #[.val (.ref a1), .val (.int p2), .val (.int p3), .val .null, .val (.ref a5), .val (.int p6), .val (.int p7), .unset] [(.int (1 : Int32)), (.ref w_position_a1)])) _
    refine XS.iload X153.here hx rfl (hb hby d5_166) rfl ?_
    refine st156 t ?_
    refine XS.aloadN X156.here hx rfl (hb hby d5_169) rfl rfl ?_
    refine XS.dup X156.here hx rfl (hb hby d5_170) rfl rfl ?_
    refine st180 t ?_
    refine XS.iconst X180.here hx rfl (hb hby d5_174) ?_
    refine XS.iadd X180.here hx rfl (hb hby d5_175) rfl ?_
    refine st182 t ?_
    refine XS.aloadN X182.here hx rfl (hb hby d5_179) rfl rfl ?_
    refine XS.dup X182.here hx rfl (hb hby d5_180) rfl rfl ?_
    show Steps p.tables e below (T182.setTop (mkF m 181 #[.val (.ref a1), .val (.int p2), .val (.int p3), .val .null, .val (.ref a5), .val (.int p6), .val (.int p7), .unset] [(.ref a1), (.ref a1)])) _
    refine st206 t ?_
    refine XS.aloadN X206.here hx rfl (hb hby d5_184) rfl rfl ?_
    refine st208 t ?_
    refine XS.aload X208.here hx rfl (hb hby d5_188) rfl rfl ?_
    refine st210 t ?_
    refine XS.ladd X210.here hx rfl (hb hby d5_193) rfl ?_
    refine XS.ladd X210.here hx rfl (hb hby d5_194) rfl ?_
    refine st212 t ?_
    exact kt
  obtain ⟨fs, hr, hrun, hended, hW, hsame⟩ := X212.leave (v := none) (fun _ => rfl)
  refine ⟨_, _, hEN _ (pre236 _ ?_), hrun, hended, _, _, rfl, ?_, ⟨_, rfl⟩, hW, hsame.mono (by decide) (by decide)⟩
  · exact X212.returnOut hx Bd.returns (hb hby d5_198) hr
  · show Q5s1v Z a1 p2 p3 a5 p6 p7 w_target_a1 w_slot_a1 w_sender_a1 w_position_a1 w_value_a1 w_taken_a1 w_starts_a1 w_grouped_a1 w_next_a1 w_valuesCost_a1 el_w_target_a1 el_w_slot_a1 el_w_sender_a1 el_w_position_a1 el_w_value_a1 el_w_taken_a1 z_a5 el_a5 h0 n0 _ T212.heap _
    rw [e212]
    exact ⟨rfl, N212, K212, F233_212, F221_212, F222_212, F217_212, F216_212, F213_212, F215_212, F220_212, F219_212, F214_212, F218_212, Fw212, F231_212, F230_212, F227_212, F226_212, F225_212, F229_212, F224_212, F228_212⟩
theorem ef_5s1n (m : MethodId) (x0 : Addr) (x1 : Int32) (x2 : Int32) (x5 : Int32) (x6 : Int32) : entryFrame m #[(.ref x0), (.int x1), (.int x2), .null, .null, (.int x5), (.int x6)] 8 = mkF m 0 #[.val (.ref x0), .val (.int x1), .val (.int x2), .val .null, .val .null, .val (.int x5), .val (.int x6), .unset] [] := by first | (simp [entryFrame, mkF, argsToLocals, Value.category]; done) | rfl
def Q5s1n (Z : State) (a1 : Addr) (p2 : Int32) (p3 : Int32) (p6 : Int32) (p7 : Int32) (w_target_a1 : Addr) (w_slot_a1 : Addr) (w_sender_a1 : Addr) (w_position_a1 : Addr) (w_value_a1 : Addr) (w_taken_a1 : Addr) (w_starts_a1 : Addr) (w_grouped_a1 : Addr) (w_next_a1 : Addr) (w_valuesCost_a1 : Int64) (el_w_target_a1 : Nat → Int32) (el_w_slot_a1 : Nat → Int32) (el_w_sender_a1 : Nat → Int32) (el_w_position_a1 : Nat → Int32) (el_w_value_a1 : Nat → Value) (el_w_taken_a1 : Nat → Value) (h0 : Heap) (n0 : Nat) (v : Option Value) (h : Heap) (L : List Loc) : Prop := v = none ∧ Fr n0 L ∧ Keep h0 h [w_target_a1, w_slot_a1, w_taken_a1, w_value_a1, w_sender_a1, w_position_a1, a1] ∧ Exa Z h a1 "com/example/accrete/accrete/engine/Sendings" ∧ Fld Z h a1 "com/example/accrete/accrete/engine/Sendings" "grouped" "[I" (.ref w_grouped_a1) ∧ Fld Z h a1 "com/example/accrete/accrete/engine/Sendings" "next" "[I" (.ref w_next_a1) ∧ Fld Z h a1 "com/example/accrete/accrete/engine/Sendings" "position" "[I" (.ref w_position_a1) ∧ Fld Z h a1 "com/example/accrete/accrete/engine/Sendings" "sender" "[I" (.ref w_sender_a1) ∧ Fld Z h a1 "com/example/accrete/accrete/engine/Sendings" "size" "I" (.int (2 : Int32)) ∧ Fld Z h a1 "com/example/accrete/accrete/engine/Sendings" "slot" "[I" (.ref w_slot_a1) ∧ Fld Z h a1 "com/example/accrete/accrete/engine/Sendings" "starts" "[I" (.ref w_starts_a1) ∧ Fld Z h a1 "com/example/accrete/accrete/engine/Sendings" "taken" "[[B" (.ref w_taken_a1) ∧ Fld Z h a1 "com/example/accrete/accrete/engine/Sendings" "target" "[I" (.ref w_target_a1) ∧ Fld Z h a1 "com/example/accrete/accrete/engine/Sendings" "value" "[[B" (.ref w_value_a1) ∧ Fld Z h a1 "com/example/accrete/accrete/engine/Sendings" "valuesCost" "J" (.long (w_valuesCost_a1 + (0 : Int64))) ∧ OvcA Z h w_taken_a1 .byte "[B" ∧ OvcA Z h w_value_a1 .byte "[B" ∧ Arf Z h w_position_a1 .int (1024 : Int32) (fun i => (.int ((own_upd el_w_position_a1 ((1 : Int32)).toNatClampNeg p7) i))) ∧ Arf Z h w_sender_a1 .int (1024 : Int32) (fun i => (.int ((own_upd el_w_sender_a1 ((1 : Int32)).toNatClampNeg p6) i))) ∧ Arf Z h w_slot_a1 .int (1024 : Int32) (fun i => (.int ((own_upd el_w_slot_a1 ((1 : Int32)).toNatClampNeg p3) i))) ∧ Arf Z h w_taken_a1 (.array .byte) (1024 : Int32) (own_upd el_w_taken_a1 ((1 : Int32)).toNatClampNeg Value.null) ∧ Arf Z h w_target_a1 .int (1024 : Int32) (fun i => (.int ((own_upd el_w_target_a1 ((1 : Int32)).toNatClampNeg p2) i))) ∧ Arf Z h w_value_a1 (.array .byte) (1024 : Int32) (own_upd el_w_value_a1 ((1 : Int32)).toNatClampNeg Value.null)
set_option maxRecDepth 65536 in
set_option maxHeartbeats 40000000 in
theorem rm5s1n (l : Launch) (Z : State) (a0 : Array Value) (hw : ∀ d ∈ tables_1, d.before a0 Z = true) (ws : List Jvm.Cond) (a1 : Addr) (p2 : Int32) (p3 : Int32) (p6 : Int32) (p7 : Int32) (w_target_a1 : Addr) (w_slot_a1 : Addr) (w_sender_a1 : Addr) (w_position_a1 : Addr) (w_value_a1 : Addr) (w_taken_a1 : Addr) (w_starts_a1 : Addr) (w_grouped_a1 : Addr) (w_next_a1 : Addr) (w_valuesCost_a1 : Int64) (el_w_target_a1 : Nat → Int32) (el_w_slot_a1 : Nat → Int32) (el_w_sender_a1 : Nat → Int32) (el_w_position_a1 : Nat → Int32) (el_w_value_a1 : Nat → Value) (el_w_taken_a1 : Nat → Value) (h0 : Heap) (n0 : Nat) (Z0 : n0 ≤ h0.size) (F_size_a1 : Fld Z h0 a1 "com/example/accrete/accrete/engine/Sendings" "size" "I" (.int (1 : Int32))) (F_target_a1 : Fld Z h0 a1 "com/example/accrete/accrete/engine/Sendings" "target" "[I" (.ref w_target_a1)) (F_slot_a1 : Fld Z h0 a1 "com/example/accrete/accrete/engine/Sendings" "slot" "[I" (.ref w_slot_a1)) (F_sender_a1 : Fld Z h0 a1 "com/example/accrete/accrete/engine/Sendings" "sender" "[I" (.ref w_sender_a1)) (F_position_a1 : Fld Z h0 a1 "com/example/accrete/accrete/engine/Sendings" "position" "[I" (.ref w_position_a1)) (F_value_a1 : Fld Z h0 a1 "com/example/accrete/accrete/engine/Sendings" "value" "[[B" (.ref w_value_a1)) (F_taken_a1 : Fld Z h0 a1 "com/example/accrete/accrete/engine/Sendings" "taken" "[[B" (.ref w_taken_a1)) (F_starts_a1 : Fld Z h0 a1 "com/example/accrete/accrete/engine/Sendings" "starts" "[I" (.ref w_starts_a1)) (F_grouped_a1 : Fld Z h0 a1 "com/example/accrete/accrete/engine/Sendings" "grouped" "[I" (.ref w_grouped_a1)) (F_next_a1 : Fld Z h0 a1 "com/example/accrete/accrete/engine/Sendings" "next" "[I" (.ref w_next_a1)) (F_valuesCost_a1 : Fld Z h0 a1 "com/example/accrete/accrete/engine/Sendings" "valuesCost" "J" (.long w_valuesCost_a1)) (V_w_target_a1 : Arf Z h0 w_target_a1 .int (1024 : Int32) (fun i => (.int (el_w_target_a1 i)))) (V_w_slot_a1 : Arf Z h0 w_slot_a1 .int (1024 : Int32) (fun i => (.int (el_w_slot_a1 i)))) (V_w_sender_a1 : Arf Z h0 w_sender_a1 .int (1024 : Int32) (fun i => (.int (el_w_sender_a1 i)))) (V_w_position_a1 : Arf Z h0 w_position_a1 .int (1024 : Int32) (fun i => (.int (el_w_position_a1 i)))) (V_w_value_a1 : Arf Z h0 w_value_a1 (.array .byte) (1024 : Int32) el_w_value_a1) (V_w_taken_a1 : Arf Z h0 w_taken_a1 (.array .byte) (1024 : Int32) el_w_taken_a1) (O_w_value_a1 : OvcA Z h0 w_value_a1 .byte "[B") (O_w_taken_a1 : OvcA Z h0 w_taken_a1 .byte "[B") (g_w_target_a1 : n0 ≤ w_target_a1) (ne_a1_w_target_a1 : a1 ≠ w_target_a1) (ne_w_slot_a1_w_target_a1 : w_slot_a1 ≠ w_target_a1) (ne_w_sender_a1_w_target_a1 : w_sender_a1 ≠ w_target_a1) (ne_w_position_a1_w_target_a1 : w_position_a1 ≠ w_target_a1) (ne_w_value_a1_w_target_a1 : w_value_a1 ≠ w_target_a1) (ne_w_taken_a1_w_target_a1 : w_taken_a1 ≠ w_target_a1) (g_w_slot_a1 : n0 ≤ w_slot_a1) (ne_a1_w_slot_a1 : a1 ≠ w_slot_a1) (ne_w_sender_a1_w_slot_a1 : w_sender_a1 ≠ w_slot_a1) (ne_w_position_a1_w_slot_a1 : w_position_a1 ≠ w_slot_a1) (ne_w_value_a1_w_slot_a1 : w_value_a1 ≠ w_slot_a1) (ne_w_taken_a1_w_slot_a1 : w_taken_a1 ≠ w_slot_a1) (g_w_taken_a1 : n0 ≤ w_taken_a1) (ne_a1_w_taken_a1 : a1 ≠ w_taken_a1) (ne_w_sender_a1_w_taken_a1 : w_sender_a1 ≠ w_taken_a1) (ne_w_position_a1_w_taken_a1 : w_position_a1 ≠ w_taken_a1) (ne_w_value_a1_w_taken_a1 : w_value_a1 ≠ w_taken_a1) (g_w_value_a1 : n0 ≤ w_value_a1) (ne_a1_w_value_a1 : a1 ≠ w_value_a1) (ne_w_sender_a1_w_value_a1 : w_sender_a1 ≠ w_value_a1) (ne_w_position_a1_w_value_a1 : w_position_a1 ≠ w_value_a1) (g_w_sender_a1 : n0 ≤ w_sender_a1) (ne_a1_w_sender_a1 : a1 ≠ w_sender_a1) (ne_w_position_a1_w_sender_a1 : w_position_a1 ≠ w_sender_a1) (g_w_position_a1 : n0 ≤ w_position_a1) (ne_a1_w_position_a1 : a1 ≠ w_position_a1) (E_a1 : Exa Z h0 a1 "com/example/accrete/accrete/engine/Sendings") (g_a1 : n0 ≤ a1) :
    MetFree l (⟨"com/example/accrete/accrete/engine/Sendings", "add", "(II[B[BII)V"⟩ : MethodName) (head1 (Jvm.Cond.code (⟨"com/example/accrete/accrete/engine/Sendings", "add", "(II[B[BII)V"⟩ : MethodName) prog_52_method_6_code 8 none :: ws) ({ frames := 1, cells := 0, slots := 0, locals := 17 } : Room)) (fun a U => a = #[(.ref a1), (.int p2), (.int p3), .null, .null, (.int p6), (.int p7)] ∧ Z.Warmed39 U.vm ∧ U.heap = h0) (fun _ _ _ _ _ => True) (fun _ U o U' => ∃ v L, o = .returned v ∧ Q5s1n Z a1 p2 p3 p6 p7 w_target_a1 w_slot_a1 w_sender_a1 w_position_a1 w_value_a1 w_taken_a1 w_starts_a1 w_grouped_a1 w_next_a1 w_valuesCost_a1 el_w_target_a1 el_w_slot_a1 el_w_sender_a1 el_w_position_a1 el_w_value_a1 el_w_taken_a1 h0 n0 v U'.heap L ∧ FrameEnd U o U' L ({ frames := 1, cells := 0, slots := 0, locals := 17 } : Room).cells ({ frames := 1, cells := 0, slots := 0, locals := 17 } : Room).slots) := by
  refine MetFree.of_bodySF (plainFor_of_name pn_com_example_accrete_accrete_engine_Sendings) hisR ?_
  intro p e s m args below meth c s₁ Bd hml0 hP hK
  obtain ⟨rfl, hZ, hh⟩ := hP
  have hx := Bd.exec
  have hby := Bd.bytes
  have hml : c.maxLocals = 8 := hml0
  have hown : s.vm.findClass "com/example/accrete/accrete/engine/Sendings" = some m.cls := findClass_of_methodNamed Bd.named
  have hnm := (name_of_methodNamed Bd.named Bd.method).1
  have X0 : Stand p l e ({ frames := 1, cells := 0, slots := 0, locals := 17 } : Room) s m #[(.ref a1), (.int p2), (.int p3), .null, .null, (.int p6), (.int p7)] below meth c s₁ [] 0 0 := Stand.of_body Bd
  have e0 : s₁.heap = h0 := by rw [← hh, Bd.state]; rfl
  have N0 := Fr.nil n0
  obtain ⟨EN, hEN, pre0⟩ : ∃ EN : _ → Prop, (∀ t, EN t → Steps p.tables e below (s₁.setTop (entryFrame m #[(.ref a1), (.int p2), (.int p3), .null, .null, (.int p6), (.int p7)] 8)) t) ∧ (∀ t, Steps p.tables e below (s₁.setTop (mkF m 0 #[.val (.ref a1), .val (.int p2), .val (.int p3), .val .null, .val .null, .val (.int p6), .val (.int p7), .unset] [])) t → EN t) := ⟨_, fun _ h => h, fun t k => castTop (ef_5s1n m a1 p2 p3 p6 p7) k⟩
  obtain ⟨T1, X1, e1, st1⟩ := getF X0 hx hZ hown (host := "") (Or.inl (hw _ (mgE 50 rfl))) Via.refl e0 F_size_a1 (g := (mkF m 1 #[.val (.ref a1), .val (.int p2), .val (.int p3), .val .null, .val .null, .val (.int p6), .val (.int p7), .unset] [(.ref a1)])) rfl rfl (hb hby d5_1)
  obtain ⟨T3, X3, e3, st3⟩ := getF X1 hx hZ hown (host := "") (Or.inl (hw _ (mgE 12 rfl))) Via.refl e1 F_target_a1 (g := (mkF m 5 #[.val (.ref a1), .val (.int p2), .val (.int p3), .val .null, .val .null, .val (.int p6), .val (.int p7), .unset] [(.ref a1), (.int (1 : Int32))])) rfl rfl (hb hby d5_5)
  obtain ⟨cl5, Ar5, S5, Ng5, H5⟩ := id V_w_target_a1
  obtain ⟨T6, X6, e6, st6⟩ := getF X3 hx hZ hown (host := "") (Or.inl (hw _ (mgE 12 rfl))) Via.refl e3 F_target_a1 (g := (mkF m 107 #[.val (.ref a1), .val (.int p2), .val (.int p3), .val .null, .val .null, .val (.int p6), .val (.int p7), .unset] [(.ref a1)])) rfl rfl (hb hby d5_107)
  obtain ⟨T8, X8, e8, st8⟩ := getF X6 hx hZ hown (host := "") (Or.inl (hw _ (mgE 50 rfl))) Via.refl e6 F_size_a1 (g := (mkF m 111 #[.val (.ref a1), .val (.int p2), .val (.int p3), .val .null, .val .null, .val (.int p6), .val (.int p7), .unset] [(.ref a1), (.ref w_target_a1)])) rfl rfl (hb hby d5_111)
  obtain ⟨cl10, Ar10, S10, Ng10, H10⟩ := id V_w_target_a1
  have hj10 : ¬ (1 : Int32) < 0 ∧ (1 : Int32) < (1024 : Int32) := ⟨by decide, by decide⟩
  have hin10 := inb_of S10 hj10
  obtain ⟨T11, h11, X11, e11, W11, st11⟩ := stI X8 hx hZ e8 Ar10 (j := (1 : Int32)) hin10 (g := (mkF m 115 #[.val (.ref a1), .val (.int p2), .val (.int p3), .val .null, .val .null, .val (.int p6), .val (.int p7), .unset] [(.int p2), (.int (1 : Int32)), (.ref w_target_a1)])) rfl rfl (hb hby d5_115)
  have F12_11 := F_size_a1.other W11 (Or.inl ne_a1_w_target_a1)
  have F13_11 := F_target_a1.other W11 (Or.inl ne_a1_w_target_a1)
  have F14_11 := F_slot_a1.other W11 (Or.inl ne_a1_w_target_a1)
  have F15_11 := F_sender_a1.other W11 (Or.inl ne_a1_w_target_a1)
  have F16_11 := F_position_a1.other W11 (Or.inl ne_a1_w_target_a1)
  have F17_11 := F_value_a1.other W11 (Or.inl ne_a1_w_target_a1)
  have F18_11 := F_taken_a1.other W11 (Or.inl ne_a1_w_target_a1)
  have F19_11 := F_starts_a1.other W11 (Or.inl ne_a1_w_target_a1)
  have F20_11 := F_grouped_a1.other W11 (Or.inl ne_a1_w_target_a1)
  have F21_11 := F_next_a1.other W11 (Or.inl ne_a1_w_target_a1)
  have F22_11 := F_valuesCost_a1.other W11 (Or.inl ne_a1_w_target_a1)
  have F24_11 := V_w_slot_a1.other W11 ne_w_slot_a1_w_target_a1
  have F25_11 := V_w_sender_a1.other W11 ne_w_sender_a1_w_target_a1
  have F26_11 := V_w_position_a1.other W11 ne_w_position_a1_w_target_a1
  have F27_11 := V_w_value_a1.other W11 ne_w_value_a1_w_target_a1
  have F28_11 := V_w_taken_a1.other W11 ne_w_taken_a1_w_target_a1
  have F29_11 := O_w_value_a1.wr W11
  have F30_11 := O_w_taken_a1.wr W11
  have F31_11 := E_a1.wr W11
  have V11_w_target_a1 : Arf Z h11 w_target_a1 .int (1024 : Int32) (fun i => (.int ((own_upd el_w_target_a1 ((1 : Int32)).toNatClampNeg p2) i))) := upd_int _ _ _ ▸ (V_w_target_a1.set W11)
  have K11 : Keep h0 h11 [w_target_a1, w_slot_a1, w_taken_a1, w_value_a1, w_sender_a1, w_position_a1, a1] := (Keep.refl h0 [w_target_a1, w_slot_a1, w_taken_a1, w_value_a1, w_sender_a1, w_position_a1, a1]).wr W11 (Or.inl (mgE 0 rfl))
  have Z11 : n0 ≤ h11.size := Nat.le_trans Z0 (Keep.of_wr W11).1
  have N11 := Fr.snoc X11 N0 g_w_target_a1
  obtain ⟨T33, X33, e33, st33⟩ := getF X11 hx hZ hown (host := "") (Or.inl (hw _ (mgE 14 rfl))) Via.refl e11 F14_11 (g := (mkF m 117 #[.val (.ref a1), .val (.int p2), .val (.int p3), .val .null, .val .null, .val (.int p6), .val (.int p7), .unset] [(.ref a1)])) rfl rfl (hb hby d5_117)
  obtain ⟨T35, X35, e35, st35⟩ := getF X33 hx hZ hown (host := "") (Or.inl (hw _ (mgE 50 rfl))) Via.refl e33 F12_11 (g := (mkF m 121 #[.val (.ref a1), .val (.int p2), .val (.int p3), .val .null, .val .null, .val (.int p6), .val (.int p7), .unset] [(.ref a1), (.ref w_slot_a1)])) rfl rfl (hb hby d5_121)
  obtain ⟨cl37, Ar37, S37, Ng37, H37⟩ := id F24_11
  have hj37 : ¬ (1 : Int32) < 0 ∧ (1 : Int32) < (1024 : Int32) := ⟨by decide, by decide⟩
  have hin37 := inb_of S37 hj37
  obtain ⟨T38, h38, X38, e38, W38, st38⟩ := stI X35 hx hZ e35 Ar37 (j := (1 : Int32)) hin37 (g := (mkF m 125 #[.val (.ref a1), .val (.int p2), .val (.int p3), .val .null, .val .null, .val (.int p6), .val (.int p7), .unset] [(.int p3), (.int (1 : Int32)), (.ref w_slot_a1)])) rfl rfl (hb hby d5_125)
  have F39_38 := F12_11.other W38 (Or.inl ne_a1_w_slot_a1)
  have F40_38 := F13_11.other W38 (Or.inl ne_a1_w_slot_a1)
  have F41_38 := F14_11.other W38 (Or.inl ne_a1_w_slot_a1)
  have F42_38 := F15_11.other W38 (Or.inl ne_a1_w_slot_a1)
  have F43_38 := F16_11.other W38 (Or.inl ne_a1_w_slot_a1)
  have F44_38 := F17_11.other W38 (Or.inl ne_a1_w_slot_a1)
  have F45_38 := F18_11.other W38 (Or.inl ne_a1_w_slot_a1)
  have F46_38 := F19_11.other W38 (Or.inl ne_a1_w_slot_a1)
  have F47_38 := F20_11.other W38 (Or.inl ne_a1_w_slot_a1)
  have F48_38 := F21_11.other W38 (Or.inl ne_a1_w_slot_a1)
  have F49_38 := F22_11.other W38 (Or.inl ne_a1_w_slot_a1)
  have F50_38 := V11_w_target_a1.other W38 (Ne.symm ne_w_slot_a1_w_target_a1)
  have F52_38 := F25_11.other W38 ne_w_sender_a1_w_slot_a1
  have F53_38 := F26_11.other W38 ne_w_position_a1_w_slot_a1
  have F54_38 := F27_11.other W38 ne_w_value_a1_w_slot_a1
  have F55_38 := F28_11.other W38 ne_w_taken_a1_w_slot_a1
  have F56_38 := F29_11.wr W38
  have F57_38 := F30_11.wr W38
  have F58_38 := F31_11.wr W38
  have V38_w_slot_a1 : Arf Z h38 w_slot_a1 .int (1024 : Int32) (fun i => (.int ((own_upd el_w_slot_a1 ((1 : Int32)).toNatClampNeg p3) i))) := upd_int _ _ _ ▸ (F24_11.set W38)
  have K38 : Keep h0 h38 [w_target_a1, w_slot_a1, w_taken_a1, w_value_a1, w_sender_a1, w_position_a1, a1] := K11.wr W38 (Or.inl (mgE 1 rfl))
  have Z38 : n0 ≤ h38.size := Nat.le_trans Z11 (Keep.of_wr W38).1
  have N38 := Fr.snoc X38 N11 g_w_slot_a1
  obtain ⟨T60, X60, e60, st60⟩ := getF X38 hx hZ hown (host := "") (Or.inl (hw _ (mgE 20 rfl))) Via.refl e38 F45_38 (g := (mkF m 127 #[.val (.ref a1), .val (.int p2), .val (.int p3), .val .null, .val .null, .val (.int p6), .val (.int p7), .unset] [(.ref a1)])) rfl rfl (hb hby d5_127)
  obtain ⟨T62, X62, e62, st62⟩ := getF X60 hx hZ hown (host := "") (Or.inl (hw _ (mgE 50 rfl))) Via.refl e60 F39_38 (g := (mkF m 131 #[.val (.ref a1), .val (.int p2), .val (.int p3), .val .null, .val .null, .val (.int p6), .val (.int p7), .unset] [(.ref a1), (.ref w_taken_a1)])) rfl rfl (hb hby d5_131)
  obtain ⟨cl64, Ar64, S64, Ng64, H64⟩ := id F55_38
  have hj64 : ¬ (1 : Int32) < 0 ∧ (1 : Int32) < (1024 : Int32) := ⟨by decide, by decide⟩
  have hin64 := inb_of S64 hj64
  obtain ⟨T65, h65, X65, e65, W65, st65⟩ := stR X62 hx hZ e62 Ar64 (j := (1 : Int32)) hin64 rfl (Or.inl rfl) (g := (mkF m 135 #[.val (.ref a1), .val (.int p2), .val (.int p3), .val .null, .val .null, .val (.int p6), .val (.int p7), .unset] [.null, (.int (1 : Int32)), (.ref w_taken_a1)])) rfl rfl (hb hby d5_135)
  have F66_65 := F39_38.other W65 (Or.inl ne_a1_w_taken_a1)
  have F67_65 := F40_38.other W65 (Or.inl ne_a1_w_taken_a1)
  have F68_65 := F41_38.other W65 (Or.inl ne_a1_w_taken_a1)
  have F69_65 := F42_38.other W65 (Or.inl ne_a1_w_taken_a1)
  have F70_65 := F43_38.other W65 (Or.inl ne_a1_w_taken_a1)
  have F71_65 := F44_38.other W65 (Or.inl ne_a1_w_taken_a1)
  have F72_65 := F45_38.other W65 (Or.inl ne_a1_w_taken_a1)
  have F73_65 := F46_38.other W65 (Or.inl ne_a1_w_taken_a1)
  have F74_65 := F47_38.other W65 (Or.inl ne_a1_w_taken_a1)
  have F75_65 := F48_38.other W65 (Or.inl ne_a1_w_taken_a1)
  have F76_65 := F49_38.other W65 (Or.inl ne_a1_w_taken_a1)
  have F77_65 := F50_38.other W65 (Ne.symm ne_w_taken_a1_w_target_a1)
  have F78_65 := V38_w_slot_a1.other W65 (Ne.symm ne_w_taken_a1_w_slot_a1)
  have F79_65 := F52_38.other W65 ne_w_sender_a1_w_taken_a1
  have F80_65 := F53_38.other W65 ne_w_position_a1_w_taken_a1
  have F81_65 := F54_38.other W65 ne_w_value_a1_w_taken_a1
  have F83_65 := F56_38.wr W65
  have F84_65 := F57_38.wr W65
  have F85_65 := F58_38.wr W65
  have V65_w_taken_a1 : Arf Z h65 w_taken_a1 (.array .byte) (1024 : Int32) (own_upd el_w_taken_a1 ((1 : Int32)).toNatClampNeg Value.null) := (F55_38.set W65)
  have K65 : Keep h0 h65 [w_target_a1, w_slot_a1, w_taken_a1, w_value_a1, w_sender_a1, w_position_a1, a1] := K38.wr W65 (Or.inl (mgE 2 rfl))
  have Z65 : n0 ≤ h65.size := Nat.le_trans Z38 (Keep.of_wr W65).1
  have N65 := Fr.snoc X65 N38 g_w_taken_a1
  obtain ⟨T87, X87, e87, st87⟩ := getF X65 hx hZ hown (host := "") (Or.inl (hw _ (mgE 18 rfl))) Via.refl e65 F71_65 (g := (mkF m 137 #[.val (.ref a1), .val (.int p2), .val (.int p3), .val .null, .val .null, .val (.int p6), .val (.int p7), .unset] [(.ref a1)])) rfl rfl (hb hby d5_137)
  obtain ⟨T89, X89, e89, st89⟩ := getF X87 hx hZ hown (host := "") (Or.inl (hw _ (mgE 50 rfl))) Via.refl e87 F66_65 (g := (mkF m 141 #[.val (.ref a1), .val (.int p2), .val (.int p3), .val .null, .val .null, .val (.int p6), .val (.int p7), .unset] [(.ref a1), (.ref w_value_a1)])) rfl rfl (hb hby d5_141)
  obtain ⟨cl91, Ar91, S91, Ng91, H91⟩ := id F81_65
  have hj91 : ¬ (1 : Int32) < 0 ∧ (1 : Int32) < (1024 : Int32) := ⟨by decide, by decide⟩
  have hin91 := inb_of S91 hj91
  obtain ⟨T92, h92, X92, e92, W92, st92⟩ := stR X89 hx hZ e89 Ar91 (j := (1 : Int32)) hin91 rfl (Or.inl rfl) (g := (mkF m 146 #[.val (.ref a1), .val (.int p2), .val (.int p3), .val .null, .val .null, .val (.int p6), .val (.int p7), .unset] [.null, (.int (1 : Int32)), (.ref w_value_a1)])) rfl rfl (hb hby d5_146)
  have F93_92 := F66_65.other W92 (Or.inl ne_a1_w_value_a1)
  have F94_92 := F67_65.other W92 (Or.inl ne_a1_w_value_a1)
  have F95_92 := F68_65.other W92 (Or.inl ne_a1_w_value_a1)
  have F96_92 := F69_65.other W92 (Or.inl ne_a1_w_value_a1)
  have F97_92 := F70_65.other W92 (Or.inl ne_a1_w_value_a1)
  have F98_92 := F71_65.other W92 (Or.inl ne_a1_w_value_a1)
  have F99_92 := F72_65.other W92 (Or.inl ne_a1_w_value_a1)
  have F100_92 := F73_65.other W92 (Or.inl ne_a1_w_value_a1)
  have F101_92 := F74_65.other W92 (Or.inl ne_a1_w_value_a1)
  have F102_92 := F75_65.other W92 (Or.inl ne_a1_w_value_a1)
  have F103_92 := F76_65.other W92 (Or.inl ne_a1_w_value_a1)
  have F104_92 := F77_65.other W92 (Ne.symm ne_w_value_a1_w_target_a1)
  have F105_92 := F78_65.other W92 (Ne.symm ne_w_value_a1_w_slot_a1)
  have F106_92 := F79_65.other W92 ne_w_sender_a1_w_value_a1
  have F107_92 := F80_65.other W92 ne_w_position_a1_w_value_a1
  have F109_92 := V65_w_taken_a1.other W92 (Ne.symm ne_w_value_a1_w_taken_a1)
  have F110_92 := F83_65.wr W92
  have F111_92 := F84_65.wr W92
  have F112_92 := F85_65.wr W92
  have V92_w_value_a1 : Arf Z h92 w_value_a1 (.array .byte) (1024 : Int32) (own_upd el_w_value_a1 ((1 : Int32)).toNatClampNeg Value.null) := (F81_65.set W92)
  have K92 : Keep h0 h92 [w_target_a1, w_slot_a1, w_taken_a1, w_value_a1, w_sender_a1, w_position_a1, a1] := K65.wr W92 (Or.inl (mgE 3 rfl))
  have Z92 : n0 ≤ h92.size := Nat.le_trans Z65 (Keep.of_wr W92).1
  have N92 := Fr.snoc X92 N65 g_w_value_a1
  obtain ⟨T114, X114, e114, st114⟩ := getF X92 hx hZ hown (host := "") (Or.inl (hw _ (mgE 22 rfl))) Via.refl e92 F96_92 (g := (mkF m 148 #[.val (.ref a1), .val (.int p2), .val (.int p3), .val .null, .val .null, .val (.int p6), .val (.int p7), .unset] [(.ref a1)])) rfl rfl (hb hby d5_148)
  obtain ⟨T116, X116, e116, st116⟩ := getF X114 hx hZ hown (host := "") (Or.inl (hw _ (mgE 50 rfl))) Via.refl e114 F93_92 (g := (mkF m 152 #[.val (.ref a1), .val (.int p2), .val (.int p3), .val .null, .val .null, .val (.int p6), .val (.int p7), .unset] [(.ref a1), (.ref w_sender_a1)])) rfl rfl (hb hby d5_152)
  obtain ⟨cl118, Ar118, S118, Ng118, H118⟩ := id F106_92
  have hj118 : ¬ (1 : Int32) < 0 ∧ (1 : Int32) < (1024 : Int32) := ⟨by decide, by decide⟩
  have hin118 := inb_of S118 hj118
  obtain ⟨T119, h119, X119, e119, W119, st119⟩ := stI X116 hx hZ e116 Ar118 (j := (1 : Int32)) hin118 (g := (mkF m 157 #[.val (.ref a1), .val (.int p2), .val (.int p3), .val .null, .val .null, .val (.int p6), .val (.int p7), .unset] [(.int p6), (.int (1 : Int32)), (.ref w_sender_a1)])) rfl rfl (hb hby d5_157)
  have F120_119 := F93_92.other W119 (Or.inl ne_a1_w_sender_a1)
  have F121_119 := F94_92.other W119 (Or.inl ne_a1_w_sender_a1)
  have F122_119 := F95_92.other W119 (Or.inl ne_a1_w_sender_a1)
  have F123_119 := F96_92.other W119 (Or.inl ne_a1_w_sender_a1)
  have F124_119 := F97_92.other W119 (Or.inl ne_a1_w_sender_a1)
  have F125_119 := F98_92.other W119 (Or.inl ne_a1_w_sender_a1)
  have F126_119 := F99_92.other W119 (Or.inl ne_a1_w_sender_a1)
  have F127_119 := F100_92.other W119 (Or.inl ne_a1_w_sender_a1)
  have F128_119 := F101_92.other W119 (Or.inl ne_a1_w_sender_a1)
  have F129_119 := F102_92.other W119 (Or.inl ne_a1_w_sender_a1)
  have F130_119 := F103_92.other W119 (Or.inl ne_a1_w_sender_a1)
  have F131_119 := F104_92.other W119 (Ne.symm ne_w_sender_a1_w_target_a1)
  have F132_119 := F105_92.other W119 (Ne.symm ne_w_sender_a1_w_slot_a1)
  have F134_119 := F107_92.other W119 ne_w_position_a1_w_sender_a1
  have F135_119 := V92_w_value_a1.other W119 (Ne.symm ne_w_sender_a1_w_value_a1)
  have F136_119 := F109_92.other W119 (Ne.symm ne_w_sender_a1_w_taken_a1)
  have F137_119 := F110_92.wr W119
  have F138_119 := F111_92.wr W119
  have F139_119 := F112_92.wr W119
  have V119_w_sender_a1 : Arf Z h119 w_sender_a1 .int (1024 : Int32) (fun i => (.int ((own_upd el_w_sender_a1 ((1 : Int32)).toNatClampNeg p6) i))) := upd_int _ _ _ ▸ (F106_92.set W119)
  have K119 : Keep h0 h119 [w_target_a1, w_slot_a1, w_taken_a1, w_value_a1, w_sender_a1, w_position_a1, a1] := K92.wr W119 (Or.inl (mgE 4 rfl))
  have Z119 : n0 ≤ h119.size := Nat.le_trans Z92 (Keep.of_wr W119).1
  have N119 := Fr.snoc X119 N92 g_w_sender_a1
  obtain ⟨T141, X141, e141, st141⟩ := getF X119 hx hZ hown (host := "") (Or.inl (hw _ (mgE 24 rfl))) Via.refl e119 F124_119 (g := (mkF m 159 #[.val (.ref a1), .val (.int p2), .val (.int p3), .val .null, .val .null, .val (.int p6), .val (.int p7), .unset] [(.ref a1)])) rfl rfl (hb hby d5_159)
  obtain ⟨T143, X143, e143, st143⟩ := getF X141 hx hZ hown (host := "") (Or.inl (hw _ (mgE 50 rfl))) Via.refl e141 F120_119 (g := (mkF m 163 #[.val (.ref a1), .val (.int p2), .val (.int p3), .val .null, .val .null, .val (.int p6), .val (.int p7), .unset] [(.ref a1), (.ref w_position_a1)])) rfl rfl (hb hby d5_163)
  obtain ⟨cl145, Ar145, S145, Ng145, H145⟩ := id F134_119
  have hj145 : ¬ (1 : Int32) < 0 ∧ (1 : Int32) < (1024 : Int32) := ⟨by decide, by decide⟩
  have hin145 := inb_of S145 hj145
  obtain ⟨T146, h146, X146, e146, W146, st146⟩ := stI X143 hx hZ e143 Ar145 (j := (1 : Int32)) hin145 (g := (mkF m 168 #[.val (.ref a1), .val (.int p2), .val (.int p3), .val .null, .val .null, .val (.int p6), .val (.int p7), .unset] [(.int p7), (.int (1 : Int32)), (.ref w_position_a1)])) rfl rfl (hb hby d5_168)
  have F147_146 := F120_119.other W146 (Or.inl ne_a1_w_position_a1)
  have F148_146 := F121_119.other W146 (Or.inl ne_a1_w_position_a1)
  have F149_146 := F122_119.other W146 (Or.inl ne_a1_w_position_a1)
  have F150_146 := F123_119.other W146 (Or.inl ne_a1_w_position_a1)
  have F151_146 := F124_119.other W146 (Or.inl ne_a1_w_position_a1)
  have F152_146 := F125_119.other W146 (Or.inl ne_a1_w_position_a1)
  have F153_146 := F126_119.other W146 (Or.inl ne_a1_w_position_a1)
  have F154_146 := F127_119.other W146 (Or.inl ne_a1_w_position_a1)
  have F155_146 := F128_119.other W146 (Or.inl ne_a1_w_position_a1)
  have F156_146 := F129_119.other W146 (Or.inl ne_a1_w_position_a1)
  have F157_146 := F130_119.other W146 (Or.inl ne_a1_w_position_a1)
  have F158_146 := F131_119.other W146 (Ne.symm ne_w_position_a1_w_target_a1)
  have F159_146 := F132_119.other W146 (Ne.symm ne_w_position_a1_w_slot_a1)
  have F160_146 := V119_w_sender_a1.other W146 (Ne.symm ne_w_position_a1_w_sender_a1)
  have F162_146 := F135_119.other W146 (Ne.symm ne_w_position_a1_w_value_a1)
  have F163_146 := F136_119.other W146 (Ne.symm ne_w_position_a1_w_taken_a1)
  have F164_146 := F137_119.wr W146
  have F165_146 := F138_119.wr W146
  have F166_146 := F139_119.wr W146
  have V146_w_position_a1 : Arf Z h146 w_position_a1 .int (1024 : Int32) (fun i => (.int ((own_upd el_w_position_a1 ((1 : Int32)).toNatClampNeg p7) i))) := upd_int _ _ _ ▸ (F134_119.set W146)
  have K146 : Keep h0 h146 [w_target_a1, w_slot_a1, w_taken_a1, w_value_a1, w_sender_a1, w_position_a1, a1] := K119.wr W146 (Or.inl (mgE 5 rfl))
  have Z146 : n0 ≤ h146.size := Nat.le_trans Z119 (Keep.of_wr W146).1
  have N146 := Fr.snoc X146 N119 g_w_position_a1
  obtain ⟨T168, X168, e168, st168⟩ := getF X146 hx hZ hown (host := "") (Or.inl (hw _ (mgE 50 rfl))) Via.refl e146 F147_146 (g := (mkF m 171 #[.val (.ref a1), .val (.int p2), .val (.int p3), .val .null, .val .null, .val (.int p6), .val (.int p7), .unset] [(.ref a1), (.ref a1)])) rfl rfl (hb hby d5_171)
  obtain ⟨T170, h170, X170, e170, W170, st170⟩ := putF X168 hx hZ hown (host := "") (Or.inl (hw _ (mgE 50 rfl))) Via.refl e168 F147_146 F166_146 (Or.inl (hw _ (mgE 51 rfl))) (hw _ (mgE 3 rfl)) (ty := .int) (by decide) rfl rfl (g := (mkF m 176 #[.val (.ref a1), .val (.int p2), .val (.int p3), .val .null, .val .null, .val (.int p6), .val (.int p7), .unset] [(.int (2 : Int32)), (.ref a1)])) rfl rfl (hb hby d5_176)
  have F172_170 := F148_146.other W170 (Or.inr (slot_ne (Or.inl (hw _ (mgE 13 rfl))) (Or.inl (hw _ (mgE 51 rfl))) (by decide) (t := (.array .int)) (t' := .int) (by decide) (by decide)))
  have F173_170 := F149_146.other W170 (Or.inr (slot_ne (Or.inl (hw _ (mgE 15 rfl))) (Or.inl (hw _ (mgE 51 rfl))) (by decide) (t := (.array .int)) (t' := .int) (by decide) (by decide)))
  have F174_170 := F150_146.other W170 (Or.inr (slot_ne (Or.inl (hw _ (mgE 23 rfl))) (Or.inl (hw _ (mgE 51 rfl))) (by decide) (t := (.array .int)) (t' := .int) (by decide) (by decide)))
  have F175_170 := F151_146.other W170 (Or.inr (slot_ne (Or.inl (hw _ (mgE 25 rfl))) (Or.inl (hw _ (mgE 51 rfl))) (by decide) (t := (.array .int)) (t' := .int) (by decide) (by decide)))
  have F176_170 := F152_146.other W170 (Or.inr (slot_ne (Or.inl (hw _ (mgE 19 rfl))) (Or.inl (hw _ (mgE 51 rfl))) (by decide) (t := (.array (.array .byte))) (t' := .int) (by decide) (by decide)))
  have F177_170 := F153_146.other W170 (Or.inr (slot_ne (Or.inl (hw _ (mgE 21 rfl))) (Or.inl (hw _ (mgE 51 rfl))) (by decide) (t := (.array (.array .byte))) (t' := .int) (by decide) (by decide)))
  have F178_170 := F154_146.other W170 (Or.inr (slot_ne (Or.inl (hw _ (mgE 27 rfl))) (Or.inl (hw _ (mgE 51 rfl))) (by decide) (t := (.array .int)) (t' := .int) (by decide) (by decide)))
  have F179_170 := F155_146.other W170 (Or.inr (slot_ne (Or.inl (hw _ (mgE 29 rfl))) (Or.inl (hw _ (mgE 51 rfl))) (by decide) (t := (.array .int)) (t' := .int) (by decide) (by decide)))
  have F180_170 := F156_146.other W170 (Or.inr (slot_ne (Or.inl (hw _ (mgE 31 rfl))) (Or.inl (hw _ (mgE 51 rfl))) (by decide) (t := (.array .int)) (t' := .int) (by decide) (by decide)))
  have F181_170 := F157_146.other W170 (Or.inr (slot_ne (Or.inl (hw _ (mgE 40 rfl))) (Or.inl (hw _ (mgE 51 rfl))) (by decide) (t := .long) (t' := .int) (by decide) (by decide)))
  have F182_170 := F158_146.other W170 (Ne.symm ne_a1_w_target_a1)
  have F183_170 := F159_146.other W170 (Ne.symm ne_a1_w_slot_a1)
  have F184_170 := F160_146.other W170 (Ne.symm ne_a1_w_sender_a1)
  have F185_170 := V146_w_position_a1.other W170 (Ne.symm ne_a1_w_position_a1)
  have F186_170 := F162_146.other W170 (Ne.symm ne_a1_w_value_a1)
  have F187_170 := F163_146.other W170 (Ne.symm ne_a1_w_taken_a1)
  have F188_170 := F164_146.wr W170
  have F189_170 := F165_146.wr W170
  have F190_170 := F166_146.wr W170
  have Fw170 := F147_146.same W170
  have K170 : Keep h0 h170 [w_target_a1, w_slot_a1, w_taken_a1, w_value_a1, w_sender_a1, w_position_a1, a1] := K146.wr W170 (Or.inl (mgE 6 rfl))
  have Z170 : n0 ≤ h170.size := Nat.le_trans Z146 (Keep.of_wr W170).1
  have N170 := Fr.snoc X170 N146 g_a1
  obtain ⟨T192, X192, e192, st192⟩ := getF X170 hx hZ hown (host := "") (Or.inl (hw _ (mgE 39 rfl))) Via.refl e170 F181_170 (g := (mkF m 181 #[.val (.ref a1), .val (.int p2), .val (.int p3), .val .null, .val .null, .val (.int p6), .val (.int p7), .unset] [(.ref a1), (.ref a1)])) rfl rfl (hb hby d5_181)
  obtain ⟨_, _, ⟨T194, L194, k194, n194⟩, -, X194, ⟨Lc194, hQ194, l194, y194, z194⟩, st194⟩ := Jvm.LawKit.callS X192 hx (y := (⟨"com/example/accrete/accrete/engine/Sendings", "cost", "([B)J"⟩ : MethodName)) hown (mvT hZ (hw _ (mgE 53 rfl))) (mvT hZ (hw _ (mgE 54 rfl))) (mvT hZ (hw _ (mgE 4 rfl))) (mvT hZ (hw _ (mgE 55 rfl))) (by decide) (backOf (W := 3) (rm6n0 l Z a0 hw []  h170 n0 Z170 ) hZ (hw _ (mgE 55 rfl)) (hw _ (mgE 4 rfl)) (by decide) (by decide)) (g := (mkF m 185 #[.val (.ref a1), .val (.int p2), .val (.int p3), .val .null, .val .null, .val (.int p6), .val (.int p7), .unset] [.null, (.long w_valuesCost_a1), (.ref a1)])) rfl (by rw [hml]; rfl) (argsL := [.null]) (rest := [(.long w_valuesCost_a1), (.ref a1)]) (lenOf pd___B_J rfl) rfl (by show 2 * 0 + _ ≤ _; exact Nat.le_of_eq rfl) (hb hby d5_185) (fun _ _ => ⟨rfl, e192, (by decide : 0 + 0 ≤ _), (by decide : 0 + 0 ≤ _)⟩)
  dsimp only [Pt.U, Pt.locs, Pt.cells, Pt.slots] at X194 l194 y194 z194 st194 hQ194
  subst l194 y194 z194
  obtain ⟨rfl, N194q, e194⟩ := hQ194
  have N194 := Fr.app N170 N194q
  obtain ⟨_, _, ⟨T196, L196, k196, n196⟩, -, X196, ⟨Lc196, hQ196, l196, y196, z196⟩, st196⟩ := Jvm.LawKit.callS X194 hx (y := (⟨"com/example/accrete/accrete/engine/Sendings", "cost", "([B)J"⟩ : MethodName)) hown (mvT hZ (hw _ (mgE 53 rfl))) (mvT hZ (hw _ (mgE 54 rfl))) (mvT hZ (hw _ (mgE 4 rfl))) (mvT hZ (hw _ (mgE 55 rfl))) (by decide) (backOf (W := 5) (rm6n0 l Z a0 hw []  h170 n0 Z170 ) hZ (hw _ (mgE 55 rfl)) (hw _ (mgE 4 rfl)) (by decide) (by decide)) (g := (mkF m 190 #[.val (.ref a1), .val (.int p2), .val (.int p3), .val .null, .val .null, .val (.int p6), .val (.int p7), .unset] [.null, (.long (0 : Int64)), (.long w_valuesCost_a1), (.ref a1)])) rfl (by rw [hml]; rfl) (argsL := [.null]) (rest := [(.long (0 : Int64)), (.long w_valuesCost_a1), (.ref a1)]) (lenOf pd___B_J rfl) rfl (by show 2 * 0 + _ ≤ _; exact Nat.le_of_eq rfl) (hb hby d5_190) (fun _ _ => ⟨rfl, e194, (by decide : 0 + 0 ≤ _), (by decide : 0 + 0 ≤ _)⟩)
  dsimp only [Pt.U, Pt.locs, Pt.cells, Pt.slots] at X196 l196 y196 z196 st196 hQ196
  subst l196 y196 z196
  obtain ⟨rfl, N196q, e196⟩ := hQ196
  have N196 := Fr.app N194 N196q
  obtain ⟨T198, h198, X198, e198, W198, st198⟩ := putF X196 hx hZ hown (host := "") (Or.inl (hw _ (mgE 39 rfl))) Via.refl e196 F181_170 F190_170 (Or.inl (hw _ (mgE 40 rfl))) (hw _ (mgE 3 rfl)) (ty := .long) (by decide) rfl rfl (g := (mkF m 195 #[.val (.ref a1), .val (.int p2), .val (.int p3), .val .null, .val .null, .val (.int p6), .val (.int p7), .unset] [(.long (w_valuesCost_a1 + (0 : Int64))), (.ref a1)])) rfl rfl (hb hby d5_195)
  have F199_198 := Fw170.other W198 (Or.inr (slot_ne (Or.inl (hw _ (mgE 51 rfl))) (Or.inl (hw _ (mgE 40 rfl))) (by decide) (t := .int) (t' := .long) (by decide) (by decide)))
  have F200_198 := F172_170.other W198 (Or.inr (slot_ne (Or.inl (hw _ (mgE 13 rfl))) (Or.inl (hw _ (mgE 40 rfl))) (by decide) (t := (.array .int)) (t' := .long) (by decide) (by decide)))
  have F201_198 := F173_170.other W198 (Or.inr (slot_ne (Or.inl (hw _ (mgE 15 rfl))) (Or.inl (hw _ (mgE 40 rfl))) (by decide) (t := (.array .int)) (t' := .long) (by decide) (by decide)))
  have F202_198 := F174_170.other W198 (Or.inr (slot_ne (Or.inl (hw _ (mgE 23 rfl))) (Or.inl (hw _ (mgE 40 rfl))) (by decide) (t := (.array .int)) (t' := .long) (by decide) (by decide)))
  have F203_198 := F175_170.other W198 (Or.inr (slot_ne (Or.inl (hw _ (mgE 25 rfl))) (Or.inl (hw _ (mgE 40 rfl))) (by decide) (t := (.array .int)) (t' := .long) (by decide) (by decide)))
  have F204_198 := F176_170.other W198 (Or.inr (slot_ne (Or.inl (hw _ (mgE 19 rfl))) (Or.inl (hw _ (mgE 40 rfl))) (by decide) (t := (.array (.array .byte))) (t' := .long) (by decide) (by decide)))
  have F205_198 := F177_170.other W198 (Or.inr (slot_ne (Or.inl (hw _ (mgE 21 rfl))) (Or.inl (hw _ (mgE 40 rfl))) (by decide) (t := (.array (.array .byte))) (t' := .long) (by decide) (by decide)))
  have F206_198 := F178_170.other W198 (Or.inr (slot_ne (Or.inl (hw _ (mgE 27 rfl))) (Or.inl (hw _ (mgE 40 rfl))) (by decide) (t := (.array .int)) (t' := .long) (by decide) (by decide)))
  have F207_198 := F179_170.other W198 (Or.inr (slot_ne (Or.inl (hw _ (mgE 29 rfl))) (Or.inl (hw _ (mgE 40 rfl))) (by decide) (t := (.array .int)) (t' := .long) (by decide) (by decide)))
  have F208_198 := F180_170.other W198 (Or.inr (slot_ne (Or.inl (hw _ (mgE 31 rfl))) (Or.inl (hw _ (mgE 40 rfl))) (by decide) (t := (.array .int)) (t' := .long) (by decide) (by decide)))
  have F210_198 := F182_170.other W198 (Ne.symm ne_a1_w_target_a1)
  have F211_198 := F183_170.other W198 (Ne.symm ne_a1_w_slot_a1)
  have F212_198 := F184_170.other W198 (Ne.symm ne_a1_w_sender_a1)
  have F213_198 := F185_170.other W198 (Ne.symm ne_a1_w_position_a1)
  have F214_198 := F186_170.other W198 (Ne.symm ne_a1_w_value_a1)
  have F215_198 := F187_170.other W198 (Ne.symm ne_a1_w_taken_a1)
  have F216_198 := F188_170.wr W198
  have F217_198 := F189_170.wr W198
  have F218_198 := F190_170.wr W198
  have Fw198 := F181_170.same W198
  have K198 : Keep h0 h198 [w_target_a1, w_slot_a1, w_taken_a1, w_value_a1, w_sender_a1, w_position_a1, a1] := K170.wr W198 (Or.inl (mgE 6 rfl))
  have N198 := Fr.snoc X198 N196 g_a1
  have pre220 : ∀ t, Steps p.tables e below (T198.setTop (mkF m 198 #[.val (.ref a1), .val (.int p2), .val (.int p3), .val .null, .val .null, .val (.int p6), .val (.int p7), .unset] [])) t → EN t := fun t kt => by
    refine pre0 t ?_
    refine XS.aloadN X0.here hx rfl (hb hby d5_0) rfl rfl ?_
    refine st1 t ?_
    refine XS.aloadN X1.here hx rfl (hb hby d5_4) rfl rfl ?_
    refine st3 t ?_
    refine X3.arraylength hx (by rw [e3]; exact Ar5.1) (State.isArrayOf_alike hZ.alike Ar5.2.1) (g := (mkF m 8 #[.val (.ref a1), .val (.int p2), .val (.int p3), .val .null, .val .null, .val (.int p6), .val (.int p7), .unset] [(.ref w_target_a1), (.int (1 : Int32))])) rfl rfl (hb hby d5_8) _ ?_
    rw [len_of S5 Ng5]
    refine XS.icmpYes X3.here hx rfl (pc0 := 9) (pc' := 106) rfl (hb hby d5_9) rfl (feq (by decide : ¬ ((1 : Int32) = (1024 : Int32)))).2 (by decide) (by decide) ?_
    refine XS.aloadN X3.here hx rfl (hb hby d5_106) rfl rfl ?_
    refine st6 t ?_
    refine XS.aloadN X6.here hx rfl (hb hby d5_110) rfl rfl ?_
    refine st8 t ?_
    show Steps p.tables e below (T8.setTop (mkF m 114 #[.val (.ref a1), .val (.int p2), .val (.int p3), .val .null, .val .null, .val (.int p6), .val (.int p7), .unset] [(.int (1 : Int32)), (.ref w_target_a1)])) _
    refine XS.iloadN X8.here hx rfl (hb hby d5_114) rfl ?_
    refine st11 t ?_
    refine XS.aloadN X11.here hx rfl (hb hby d5_116) rfl rfl ?_
    refine st33 t ?_
    refine XS.aloadN X33.here hx rfl (hb hby d5_120) rfl rfl ?_
    refine st35 t ?_
    refine XS.iloadN X35.here hx rfl (hb hby d5_124) rfl ?_
    refine st38 t ?_
    refine XS.aloadN X38.here hx rfl (hb hby d5_126) rfl rfl ?_
    refine st60 t ?_
    show Steps p.tables e below (T60.setTop (mkF m 130 #[.val (.ref a1), .val (.int p2), .val (.int p3), .val .null, .val .null, .val (.int p6), .val (.int p7), .unset] [(.ref w_taken_a1)])) _
    refine XS.aloadN X60.here hx rfl (hb hby d5_130) rfl rfl ?_
    refine st62 t ?_
    refine XS.aloadN X62.here hx rfl (hb hby d5_134) rfl rfl ?_
    refine st65 t ?_
    refine XS.aloadN X65.here hx rfl (hb hby d5_136) rfl rfl ?_
    refine st87 t ?_
    refine XS.aloadN X87.here hx rfl (hb hby d5_140) rfl rfl ?_
    refine st89 t ?_
    refine XS.aload X89.here hx rfl (hb hby d5_144) rfl rfl ?_
    refine st92 t ?_
    show Steps p.tables e below (T92.setTop (mkF m 147 #[.val (.ref a1), .val (.int p2), .val (.int p3), .val .null, .val .null, .val (.int p6), .val (.int p7), .unset] [])) _
    refine XS.aloadN X92.here hx rfl (hb hby d5_147) rfl rfl ?_
    refine st114 t ?_
    refine XS.aloadN X114.here hx rfl (hb hby d5_151) rfl rfl ?_
    refine st116 t ?_
    refine XS.iload X116.here hx rfl (hb hby d5_155) rfl ?_
    refine st119 t ?_
    refine XS.aloadN X119.here hx rfl (hb hby d5_158) rfl rfl ?_
    refine st141 t ?_
    refine XS.aloadN X141.here hx rfl (hb hby d5_162) rfl rfl ?_
    refine st143 t ?_
    show Steps p.tables e below (T143.setTop (mkF m 166 #[.val (.ref a1), .val (.int p2), .val (.int p3), .val .null, .val .null, .val (.int p6), .val (.int p7), .unset] [(.int (1 : Int32)), (.ref w_position_a1)])) _
    refine XS.iload X143.here hx rfl (hb hby d5_166) rfl ?_
    refine st146 t ?_
    refine XS.aloadN X146.here hx rfl (hb hby d5_169) rfl rfl ?_
    refine XS.dup X146.here hx rfl (hb hby d5_170) rfl rfl ?_
    refine st168 t ?_
    refine XS.iconst X168.here hx rfl (hb hby d5_174) ?_
    refine XS.iadd X168.here hx rfl (hb hby d5_175) rfl ?_
    refine st170 t ?_
    refine XS.aloadN X170.here hx rfl (hb hby d5_179) rfl rfl ?_
    refine XS.dup X170.here hx rfl (hb hby d5_180) rfl rfl ?_
    show Steps p.tables e below (T170.setTop (mkF m 181 #[.val (.ref a1), .val (.int p2), .val (.int p3), .val .null, .val .null, .val (.int p6), .val (.int p7), .unset] [(.ref a1), (.ref a1)])) _
    refine st192 t ?_
    refine XS.aloadN X192.here hx rfl (hb hby d5_184) rfl rfl ?_
    refine st194 t ?_
    refine XS.aload X194.here hx rfl (hb hby d5_188) rfl rfl ?_
    refine st196 t ?_
    refine XS.ladd X196.here hx rfl (hb hby d5_193) rfl ?_
    refine XS.ladd X196.here hx rfl (hb hby d5_194) rfl ?_
    refine st198 t ?_
    exact kt
  obtain ⟨fs, hr, hrun, hended, hW, hsame⟩ := X198.leave (v := none) (fun _ => rfl)
  refine ⟨_, _, hEN _ (pre220 _ ?_), hrun, hended, _, _, rfl, ?_, ⟨_, rfl⟩, hW, hsame.mono (by decide) (by decide)⟩
  · exact X198.returnOut hx Bd.returns (hb hby d5_198) hr
  · show Q5s1n Z a1 p2 p3 p6 p7 w_target_a1 w_slot_a1 w_sender_a1 w_position_a1 w_value_a1 w_taken_a1 w_starts_a1 w_grouped_a1 w_next_a1 w_valuesCost_a1 el_w_target_a1 el_w_slot_a1 el_w_sender_a1 el_w_position_a1 el_w_value_a1 el_w_taken_a1 h0 n0 _ T198.heap _
    rw [e198]
    exact ⟨rfl, N198, K198, F218_198, F207_198, F208_198, F203_198, F202_198, F199_198, F201_198, F206_198, F205_198, F200_198, F204_198, Fw198, F217_198, F216_198, F213_198, F212_198, F211_198, F215_198, F210_198, F214_198⟩
theorem ef_5s2 (m : MethodId) (x0 : Addr) (x1 : Int32) (x2 : Int32) (x4 : Addr) (x5 : Int32) (x6 : Int32) : entryFrame m #[(.ref x0), (.int x1), (.int x2), .null, (.ref x4), (.int x5), (.int x6)] 8 = mkF m 0 #[.val (.ref x0), .val (.int x1), .val (.int x2), .val .null, .val (.ref x4), .val (.int x5), .val (.int x6), .unset] [] := by first | (simp [entryFrame, mkF, argsToLocals, Value.category]; done) | rfl
def Q5s2 (Z : State) (a1 : Addr) (p2 : Int32) (p3 : Int32) (a5 : Addr) (p6 : Int32) (p7 : Int32) (w_target_a1 : Addr) (w_slot_a1 : Addr) (w_sender_a1 : Addr) (w_position_a1 : Addr) (w_value_a1 : Addr) (w_taken_a1 : Addr) (w_starts_a1 : Addr) (w_grouped_a1 : Addr) (w_next_a1 : Addr) (w_valuesCost_a1 : Int64) (el_w_target_a1 : Nat → Int32) (el_w_slot_a1 : Nat → Int32) (el_w_sender_a1 : Nat → Int32) (el_w_position_a1 : Nat → Int32) (el_w_value_a1 : Nat → Value) (el_w_taken_a1 : Nat → Value) (z_a5 : Int32) (el_a5 : Nat → Int32) (h0 : Heap) (n0 : Nat) (v : Option Value) (h : Heap) (L : List Loc) : Prop := v = none ∧ Fr n0 L ∧ Keep h0 h [w_target_a1, w_slot_a1, w_taken_a1, w_value_a1, w_sender_a1, w_position_a1, a1] ∧ Exa Z h a1 "com/example/accrete/accrete/engine/Sendings" ∧ Fld Z h a1 "com/example/accrete/accrete/engine/Sendings" "grouped" "[I" (.ref w_grouped_a1) ∧ Fld Z h a1 "com/example/accrete/accrete/engine/Sendings" "next" "[I" (.ref w_next_a1) ∧ Fld Z h a1 "com/example/accrete/accrete/engine/Sendings" "position" "[I" (.ref w_position_a1) ∧ Fld Z h a1 "com/example/accrete/accrete/engine/Sendings" "sender" "[I" (.ref w_sender_a1) ∧ Fld Z h a1 "com/example/accrete/accrete/engine/Sendings" "size" "I" (.int (3 : Int32)) ∧ Fld Z h a1 "com/example/accrete/accrete/engine/Sendings" "slot" "[I" (.ref w_slot_a1) ∧ Fld Z h a1 "com/example/accrete/accrete/engine/Sendings" "starts" "[I" (.ref w_starts_a1) ∧ Fld Z h a1 "com/example/accrete/accrete/engine/Sendings" "taken" "[[B" (.ref w_taken_a1) ∧ Fld Z h a1 "com/example/accrete/accrete/engine/Sendings" "target" "[I" (.ref w_target_a1) ∧ Fld Z h a1 "com/example/accrete/accrete/engine/Sendings" "value" "[[B" (.ref w_value_a1) ∧ Fld Z h a1 "com/example/accrete/accrete/engine/Sendings" "valuesCost" "J" (.long (w_valuesCost_a1 + ((0 : Int64) + (((16 : Int32) + z_a5).toInt64)))) ∧ OvcA Z h w_taken_a1 .byte "[B" ∧ OvcA Z h w_value_a1 .byte "[B" ∧ Arf Z h w_position_a1 .int (1024 : Int32) (fun i => (.int ((own_upd el_w_position_a1 ((2 : Int32)).toNatClampNeg p7) i))) ∧ Arf Z h w_sender_a1 .int (1024 : Int32) (fun i => (.int ((own_upd el_w_sender_a1 ((2 : Int32)).toNatClampNeg p6) i))) ∧ Arf Z h w_slot_a1 .int (1024 : Int32) (fun i => (.int ((own_upd el_w_slot_a1 ((2 : Int32)).toNatClampNeg p3) i))) ∧ Arf Z h w_taken_a1 (.array .byte) (1024 : Int32) (own_upd el_w_taken_a1 ((2 : Int32)).toNatClampNeg Value.null) ∧ Arf Z h w_target_a1 .int (1024 : Int32) (fun i => (.int ((own_upd el_w_target_a1 ((2 : Int32)).toNatClampNeg p2) i))) ∧ Arf Z h w_value_a1 (.array .byte) (1024 : Int32) (own_upd el_w_value_a1 ((2 : Int32)).toNatClampNeg (Value.ref a5))
set_option maxRecDepth 65536 in
set_option maxHeartbeats 40000000 in
theorem rm5s2 (l : Launch) (Z : State) (a0 : Array Value) (hw : ∀ d ∈ tables_1, d.before a0 Z = true) (ws : List Jvm.Cond) (a1 : Addr) (p2 : Int32) (p3 : Int32) (a5 : Addr) (p6 : Int32) (p7 : Int32) (w_target_a1 : Addr) (w_slot_a1 : Addr) (w_sender_a1 : Addr) (w_position_a1 : Addr) (w_value_a1 : Addr) (w_taken_a1 : Addr) (w_starts_a1 : Addr) (w_grouped_a1 : Addr) (w_next_a1 : Addr) (w_valuesCost_a1 : Int64) (el_w_target_a1 : Nat → Int32) (el_w_slot_a1 : Nat → Int32) (el_w_sender_a1 : Nat → Int32) (el_w_position_a1 : Nat → Int32) (el_w_value_a1 : Nat → Value) (el_w_taken_a1 : Nat → Value) (z_a5 : Int32) (el_a5 : Nat → Int32) (h0 : Heap) (n0 : Nat) (Z0 : n0 ≤ h0.size) (F_size_a1 : Fld Z h0 a1 "com/example/accrete/accrete/engine/Sendings" "size" "I" (.int (2 : Int32))) (F_target_a1 : Fld Z h0 a1 "com/example/accrete/accrete/engine/Sendings" "target" "[I" (.ref w_target_a1)) (F_slot_a1 : Fld Z h0 a1 "com/example/accrete/accrete/engine/Sendings" "slot" "[I" (.ref w_slot_a1)) (F_sender_a1 : Fld Z h0 a1 "com/example/accrete/accrete/engine/Sendings" "sender" "[I" (.ref w_sender_a1)) (F_position_a1 : Fld Z h0 a1 "com/example/accrete/accrete/engine/Sendings" "position" "[I" (.ref w_position_a1)) (F_value_a1 : Fld Z h0 a1 "com/example/accrete/accrete/engine/Sendings" "value" "[[B" (.ref w_value_a1)) (F_taken_a1 : Fld Z h0 a1 "com/example/accrete/accrete/engine/Sendings" "taken" "[[B" (.ref w_taken_a1)) (F_starts_a1 : Fld Z h0 a1 "com/example/accrete/accrete/engine/Sendings" "starts" "[I" (.ref w_starts_a1)) (F_grouped_a1 : Fld Z h0 a1 "com/example/accrete/accrete/engine/Sendings" "grouped" "[I" (.ref w_grouped_a1)) (F_next_a1 : Fld Z h0 a1 "com/example/accrete/accrete/engine/Sendings" "next" "[I" (.ref w_next_a1)) (F_valuesCost_a1 : Fld Z h0 a1 "com/example/accrete/accrete/engine/Sendings" "valuesCost" "J" (.long w_valuesCost_a1)) (V_w_target_a1 : Arf Z h0 w_target_a1 .int (1024 : Int32) (fun i => (.int (el_w_target_a1 i)))) (V_w_slot_a1 : Arf Z h0 w_slot_a1 .int (1024 : Int32) (fun i => (.int (el_w_slot_a1 i)))) (V_w_sender_a1 : Arf Z h0 w_sender_a1 .int (1024 : Int32) (fun i => (.int (el_w_sender_a1 i)))) (V_w_position_a1 : Arf Z h0 w_position_a1 .int (1024 : Int32) (fun i => (.int (el_w_position_a1 i)))) (V_w_value_a1 : Arf Z h0 w_value_a1 (.array .byte) (1024 : Int32) el_w_value_a1) (V_w_taken_a1 : Arf Z h0 w_taken_a1 (.array .byte) (1024 : Int32) el_w_taken_a1) (O_w_value_a1 : OvcA Z h0 w_value_a1 .byte "[B") (O_w_taken_a1 : OvcA Z h0 w_taken_a1 .byte "[B") (g_w_target_a1 : n0 ≤ w_target_a1) (ne_a1_w_target_a1 : a1 ≠ w_target_a1) (ne_w_slot_a1_w_target_a1 : w_slot_a1 ≠ w_target_a1) (ne_w_sender_a1_w_target_a1 : w_sender_a1 ≠ w_target_a1) (ne_w_position_a1_w_target_a1 : w_position_a1 ≠ w_target_a1) (ne_w_value_a1_w_target_a1 : w_value_a1 ≠ w_target_a1) (ne_w_taken_a1_w_target_a1 : w_taken_a1 ≠ w_target_a1) (g_w_slot_a1 : n0 ≤ w_slot_a1) (ne_a1_w_slot_a1 : a1 ≠ w_slot_a1) (ne_w_sender_a1_w_slot_a1 : w_sender_a1 ≠ w_slot_a1) (ne_w_position_a1_w_slot_a1 : w_position_a1 ≠ w_slot_a1) (ne_w_value_a1_w_slot_a1 : w_value_a1 ≠ w_slot_a1) (ne_w_taken_a1_w_slot_a1 : w_taken_a1 ≠ w_slot_a1) (g_w_taken_a1 : n0 ≤ w_taken_a1) (ne_a1_w_taken_a1 : a1 ≠ w_taken_a1) (ne_w_sender_a1_w_taken_a1 : w_sender_a1 ≠ w_taken_a1) (ne_w_position_a1_w_taken_a1 : w_position_a1 ≠ w_taken_a1) (ne_w_value_a1_w_taken_a1 : w_value_a1 ≠ w_taken_a1) (g_w_value_a1 : n0 ≤ w_value_a1) (E_a5 : Exa Z h0 a5 "[B") (ne_a1_w_value_a1 : a1 ≠ w_value_a1) (ne_w_sender_a1_w_value_a1 : w_sender_a1 ≠ w_value_a1) (ne_w_position_a1_w_value_a1 : w_position_a1 ≠ w_value_a1) (g_w_sender_a1 : n0 ≤ w_sender_a1) (ne_a1_w_sender_a1 : a1 ≠ w_sender_a1) (ne_w_position_a1_w_sender_a1 : w_position_a1 ≠ w_sender_a1) (g_w_position_a1 : n0 ≤ w_position_a1) (ne_a1_w_position_a1 : a1 ≠ w_position_a1) (E_a1 : Exa Z h0 a1 "com/example/accrete/accrete/engine/Sendings") (g_a1 : n0 ≤ a1) (V_a5 : Arf Z h0 a5 .byte z_a5 (fun i => (.int (el_a5 i)))) (ne_a5_w_target_a1 : a5 ≠ w_target_a1) (ne_a5_w_slot_a1 : a5 ≠ w_slot_a1) (ne_a5_w_taken_a1 : a5 ≠ w_taken_a1) (ne_a5_w_value_a1 : a5 ≠ w_value_a1) (ne_a5_w_sender_a1 : a5 ≠ w_sender_a1) (ne_a5_w_position_a1 : a5 ≠ w_position_a1) (ne_a5_a1 : a5 ≠ a1) :
    MetFree l (⟨"com/example/accrete/accrete/engine/Sendings", "add", "(II[B[BII)V"⟩ : MethodName) (head1 (Jvm.Cond.code (⟨"com/example/accrete/accrete/engine/Sendings", "add", "(II[B[BII)V"⟩ : MethodName) prog_52_method_6_code 8 none :: ws) ({ frames := 1, cells := 0, slots := 0, locals := 17 } : Room)) (fun a U => a = #[(.ref a1), (.int p2), (.int p3), .null, (.ref a5), (.int p6), (.int p7)] ∧ Z.Warmed39 U.vm ∧ U.heap = h0) (fun _ _ _ _ _ => True) (fun _ U o U' => ∃ v L, o = .returned v ∧ Q5s2 Z a1 p2 p3 a5 p6 p7 w_target_a1 w_slot_a1 w_sender_a1 w_position_a1 w_value_a1 w_taken_a1 w_starts_a1 w_grouped_a1 w_next_a1 w_valuesCost_a1 el_w_target_a1 el_w_slot_a1 el_w_sender_a1 el_w_position_a1 el_w_value_a1 el_w_taken_a1 z_a5 el_a5 h0 n0 v U'.heap L ∧ FrameEnd U o U' L ({ frames := 1, cells := 0, slots := 0, locals := 17 } : Room).cells ({ frames := 1, cells := 0, slots := 0, locals := 17 } : Room).slots) := by
  refine MetFree.of_bodySF (plainFor_of_name pn_com_example_accrete_accrete_engine_Sendings) hisR ?_
  intro p e s m args below meth c s₁ Bd hml0 hP hK
  obtain ⟨rfl, hZ, hh⟩ := hP
  have hx := Bd.exec
  have hby := Bd.bytes
  have hml : c.maxLocals = 8 := hml0
  have hown : s.vm.findClass "com/example/accrete/accrete/engine/Sendings" = some m.cls := findClass_of_methodNamed Bd.named
  have hnm := (name_of_methodNamed Bd.named Bd.method).1
  have X0 : Stand p l e ({ frames := 1, cells := 0, slots := 0, locals := 17 } : Room) s m #[(.ref a1), (.int p2), (.int p3), .null, (.ref a5), (.int p6), (.int p7)] below meth c s₁ [] 0 0 := Stand.of_body Bd
  have e0 : s₁.heap = h0 := by rw [← hh, Bd.state]; rfl
  have N0 := Fr.nil n0
  obtain ⟨EN, hEN, pre0⟩ : ∃ EN : _ → Prop, (∀ t, EN t → Steps p.tables e below (s₁.setTop (entryFrame m #[(.ref a1), (.int p2), (.int p3), .null, (.ref a5), (.int p6), (.int p7)] 8)) t) ∧ (∀ t, Steps p.tables e below (s₁.setTop (mkF m 0 #[.val (.ref a1), .val (.int p2), .val (.int p3), .val .null, .val (.ref a5), .val (.int p6), .val (.int p7), .unset] [])) t → EN t) := ⟨_, fun _ h => h, fun t k => castTop (ef_5s2 m a1 p2 p3 a5 p6 p7) k⟩
  obtain ⟨T1, X1, e1, st1⟩ := getF X0 hx hZ hown (host := "") (Or.inl (hw _ (mgE 50 rfl))) Via.refl e0 F_size_a1 (g := (mkF m 1 #[.val (.ref a1), .val (.int p2), .val (.int p3), .val .null, .val (.ref a5), .val (.int p6), .val (.int p7), .unset] [(.ref a1)])) rfl rfl (hb hby d5_1)
  obtain ⟨T3, X3, e3, st3⟩ := getF X1 hx hZ hown (host := "") (Or.inl (hw _ (mgE 12 rfl))) Via.refl e1 F_target_a1 (g := (mkF m 5 #[.val (.ref a1), .val (.int p2), .val (.int p3), .val .null, .val (.ref a5), .val (.int p6), .val (.int p7), .unset] [(.ref a1), (.int (2 : Int32))])) rfl rfl (hb hby d5_5)
  obtain ⟨cl5, Ar5, S5, Ng5, H5⟩ := id V_w_target_a1
  obtain ⟨T6, X6, e6, st6⟩ := getF X3 hx hZ hown (host := "") (Or.inl (hw _ (mgE 12 rfl))) Via.refl e3 F_target_a1 (g := (mkF m 107 #[.val (.ref a1), .val (.int p2), .val (.int p3), .val .null, .val (.ref a5), .val (.int p6), .val (.int p7), .unset] [(.ref a1)])) rfl rfl (hb hby d5_107)
  obtain ⟨T8, X8, e8, st8⟩ := getF X6 hx hZ hown (host := "") (Or.inl (hw _ (mgE 50 rfl))) Via.refl e6 F_size_a1 (g := (mkF m 111 #[.val (.ref a1), .val (.int p2), .val (.int p3), .val .null, .val (.ref a5), .val (.int p6), .val (.int p7), .unset] [(.ref a1), (.ref w_target_a1)])) rfl rfl (hb hby d5_111)
  obtain ⟨cl10, Ar10, S10, Ng10, H10⟩ := id V_w_target_a1
  have hj10 : ¬ (2 : Int32) < 0 ∧ (2 : Int32) < (1024 : Int32) := ⟨by decide, by decide⟩
  have hin10 := inb_of S10 hj10
  obtain ⟨T11, h11, X11, e11, W11, st11⟩ := stI X8 hx hZ e8 Ar10 (j := (2 : Int32)) hin10 (g := (mkF m 115 #[.val (.ref a1), .val (.int p2), .val (.int p3), .val .null, .val (.ref a5), .val (.int p6), .val (.int p7), .unset] [(.int p2), (.int (2 : Int32)), (.ref w_target_a1)])) rfl rfl (hb hby d5_115)
  have F12_11 := F_size_a1.other W11 (Or.inl ne_a1_w_target_a1)
  have F13_11 := F_target_a1.other W11 (Or.inl ne_a1_w_target_a1)
  have F14_11 := F_slot_a1.other W11 (Or.inl ne_a1_w_target_a1)
  have F15_11 := F_sender_a1.other W11 (Or.inl ne_a1_w_target_a1)
  have F16_11 := F_position_a1.other W11 (Or.inl ne_a1_w_target_a1)
  have F17_11 := F_value_a1.other W11 (Or.inl ne_a1_w_target_a1)
  have F18_11 := F_taken_a1.other W11 (Or.inl ne_a1_w_target_a1)
  have F19_11 := F_starts_a1.other W11 (Or.inl ne_a1_w_target_a1)
  have F20_11 := F_grouped_a1.other W11 (Or.inl ne_a1_w_target_a1)
  have F21_11 := F_next_a1.other W11 (Or.inl ne_a1_w_target_a1)
  have F22_11 := F_valuesCost_a1.other W11 (Or.inl ne_a1_w_target_a1)
  have F24_11 := V_w_slot_a1.other W11 ne_w_slot_a1_w_target_a1
  have F25_11 := V_w_sender_a1.other W11 ne_w_sender_a1_w_target_a1
  have F26_11 := V_w_position_a1.other W11 ne_w_position_a1_w_target_a1
  have F27_11 := V_w_value_a1.other W11 ne_w_value_a1_w_target_a1
  have F28_11 := V_w_taken_a1.other W11 ne_w_taken_a1_w_target_a1
  have F29_11 := O_w_value_a1.wr W11
  have F30_11 := O_w_taken_a1.wr W11
  have F31_11 := E_a5.wr W11
  have F32_11 := E_a1.wr W11
  have F33_11 := V_a5.other W11 ne_a5_w_target_a1
  have V11_w_target_a1 : Arf Z h11 w_target_a1 .int (1024 : Int32) (fun i => (.int ((own_upd el_w_target_a1 ((2 : Int32)).toNatClampNeg p2) i))) := upd_int _ _ _ ▸ (V_w_target_a1.set W11)
  have K11 : Keep h0 h11 [w_target_a1, w_slot_a1, w_taken_a1, w_value_a1, w_sender_a1, w_position_a1, a1] := (Keep.refl h0 [w_target_a1, w_slot_a1, w_taken_a1, w_value_a1, w_sender_a1, w_position_a1, a1]).wr W11 (Or.inl (mgE 0 rfl))
  have Z11 : n0 ≤ h11.size := Nat.le_trans Z0 (Keep.of_wr W11).1
  have N11 := Fr.snoc X11 N0 g_w_target_a1
  obtain ⟨T35, X35, e35, st35⟩ := getF X11 hx hZ hown (host := "") (Or.inl (hw _ (mgE 14 rfl))) Via.refl e11 F14_11 (g := (mkF m 117 #[.val (.ref a1), .val (.int p2), .val (.int p3), .val .null, .val (.ref a5), .val (.int p6), .val (.int p7), .unset] [(.ref a1)])) rfl rfl (hb hby d5_117)
  obtain ⟨T37, X37, e37, st37⟩ := getF X35 hx hZ hown (host := "") (Or.inl (hw _ (mgE 50 rfl))) Via.refl e35 F12_11 (g := (mkF m 121 #[.val (.ref a1), .val (.int p2), .val (.int p3), .val .null, .val (.ref a5), .val (.int p6), .val (.int p7), .unset] [(.ref a1), (.ref w_slot_a1)])) rfl rfl (hb hby d5_121)
  obtain ⟨cl39, Ar39, S39, Ng39, H39⟩ := id F24_11
  have hj39 : ¬ (2 : Int32) < 0 ∧ (2 : Int32) < (1024 : Int32) := ⟨by decide, by decide⟩
  have hin39 := inb_of S39 hj39
  obtain ⟨T40, h40, X40, e40, W40, st40⟩ := stI X37 hx hZ e37 Ar39 (j := (2 : Int32)) hin39 (g := (mkF m 125 #[.val (.ref a1), .val (.int p2), .val (.int p3), .val .null, .val (.ref a5), .val (.int p6), .val (.int p7), .unset] [(.int p3), (.int (2 : Int32)), (.ref w_slot_a1)])) rfl rfl (hb hby d5_125)
  have F41_40 := F12_11.other W40 (Or.inl ne_a1_w_slot_a1)
  have F42_40 := F13_11.other W40 (Or.inl ne_a1_w_slot_a1)
  have F43_40 := F14_11.other W40 (Or.inl ne_a1_w_slot_a1)
  have F44_40 := F15_11.other W40 (Or.inl ne_a1_w_slot_a1)
  have F45_40 := F16_11.other W40 (Or.inl ne_a1_w_slot_a1)
  have F46_40 := F17_11.other W40 (Or.inl ne_a1_w_slot_a1)
  have F47_40 := F18_11.other W40 (Or.inl ne_a1_w_slot_a1)
  have F48_40 := F19_11.other W40 (Or.inl ne_a1_w_slot_a1)
  have F49_40 := F20_11.other W40 (Or.inl ne_a1_w_slot_a1)
  have F50_40 := F21_11.other W40 (Or.inl ne_a1_w_slot_a1)
  have F51_40 := F22_11.other W40 (Or.inl ne_a1_w_slot_a1)
  have F52_40 := V11_w_target_a1.other W40 (Ne.symm ne_w_slot_a1_w_target_a1)
  have F54_40 := F25_11.other W40 ne_w_sender_a1_w_slot_a1
  have F55_40 := F26_11.other W40 ne_w_position_a1_w_slot_a1
  have F56_40 := F27_11.other W40 ne_w_value_a1_w_slot_a1
  have F57_40 := F28_11.other W40 ne_w_taken_a1_w_slot_a1
  have F58_40 := F29_11.wr W40
  have F59_40 := F30_11.wr W40
  have F60_40 := F31_11.wr W40
  have F61_40 := F32_11.wr W40
  have F62_40 := F33_11.other W40 ne_a5_w_slot_a1
  have V40_w_slot_a1 : Arf Z h40 w_slot_a1 .int (1024 : Int32) (fun i => (.int ((own_upd el_w_slot_a1 ((2 : Int32)).toNatClampNeg p3) i))) := upd_int _ _ _ ▸ (F24_11.set W40)
  have K40 : Keep h0 h40 [w_target_a1, w_slot_a1, w_taken_a1, w_value_a1, w_sender_a1, w_position_a1, a1] := K11.wr W40 (Or.inl (mgE 1 rfl))
  have Z40 : n0 ≤ h40.size := Nat.le_trans Z11 (Keep.of_wr W40).1
  have N40 := Fr.snoc X40 N11 g_w_slot_a1
  obtain ⟨T64, X64, e64, st64⟩ := getF X40 hx hZ hown (host := "") (Or.inl (hw _ (mgE 20 rfl))) Via.refl e40 F47_40 (g := (mkF m 127 #[.val (.ref a1), .val (.int p2), .val (.int p3), .val .null, .val (.ref a5), .val (.int p6), .val (.int p7), .unset] [(.ref a1)])) rfl rfl (hb hby d5_127)
  obtain ⟨T66, X66, e66, st66⟩ := getF X64 hx hZ hown (host := "") (Or.inl (hw _ (mgE 50 rfl))) Via.refl e64 F41_40 (g := (mkF m 131 #[.val (.ref a1), .val (.int p2), .val (.int p3), .val .null, .val (.ref a5), .val (.int p6), .val (.int p7), .unset] [(.ref a1), (.ref w_taken_a1)])) rfl rfl (hb hby d5_131)
  obtain ⟨cl68, Ar68, S68, Ng68, H68⟩ := id F57_40
  have hj68 : ¬ (2 : Int32) < 0 ∧ (2 : Int32) < (1024 : Int32) := ⟨by decide, by decide⟩
  have hin68 := inb_of S68 hj68
  obtain ⟨T69, h69, X69, e69, W69, st69⟩ := stR X66 hx hZ e66 Ar68 (j := (2 : Int32)) hin68 rfl (Or.inl rfl) (g := (mkF m 135 #[.val (.ref a1), .val (.int p2), .val (.int p3), .val .null, .val (.ref a5), .val (.int p6), .val (.int p7), .unset] [.null, (.int (2 : Int32)), (.ref w_taken_a1)])) rfl rfl (hb hby d5_135)
  have F70_69 := F41_40.other W69 (Or.inl ne_a1_w_taken_a1)
  have F71_69 := F42_40.other W69 (Or.inl ne_a1_w_taken_a1)
  have F72_69 := F43_40.other W69 (Or.inl ne_a1_w_taken_a1)
  have F73_69 := F44_40.other W69 (Or.inl ne_a1_w_taken_a1)
  have F74_69 := F45_40.other W69 (Or.inl ne_a1_w_taken_a1)
  have F75_69 := F46_40.other W69 (Or.inl ne_a1_w_taken_a1)
  have F76_69 := F47_40.other W69 (Or.inl ne_a1_w_taken_a1)
  have F77_69 := F48_40.other W69 (Or.inl ne_a1_w_taken_a1)
  have F78_69 := F49_40.other W69 (Or.inl ne_a1_w_taken_a1)
  have F79_69 := F50_40.other W69 (Or.inl ne_a1_w_taken_a1)
  have F80_69 := F51_40.other W69 (Or.inl ne_a1_w_taken_a1)
  have F81_69 := F52_40.other W69 (Ne.symm ne_w_taken_a1_w_target_a1)
  have F82_69 := V40_w_slot_a1.other W69 (Ne.symm ne_w_taken_a1_w_slot_a1)
  have F83_69 := F54_40.other W69 ne_w_sender_a1_w_taken_a1
  have F84_69 := F55_40.other W69 ne_w_position_a1_w_taken_a1
  have F85_69 := F56_40.other W69 ne_w_value_a1_w_taken_a1
  have F87_69 := F58_40.wr W69
  have F88_69 := F59_40.wr W69
  have F89_69 := F60_40.wr W69
  have F90_69 := F61_40.wr W69
  have F91_69 := F62_40.other W69 ne_a5_w_taken_a1
  have V69_w_taken_a1 : Arf Z h69 w_taken_a1 (.array .byte) (1024 : Int32) (own_upd el_w_taken_a1 ((2 : Int32)).toNatClampNeg Value.null) := (F57_40.set W69)
  have K69 : Keep h0 h69 [w_target_a1, w_slot_a1, w_taken_a1, w_value_a1, w_sender_a1, w_position_a1, a1] := K40.wr W69 (Or.inl (mgE 2 rfl))
  have Z69 : n0 ≤ h69.size := Nat.le_trans Z40 (Keep.of_wr W69).1
  have N69 := Fr.snoc X69 N40 g_w_taken_a1
  obtain ⟨T93, X93, e93, st93⟩ := getF X69 hx hZ hown (host := "") (Or.inl (hw _ (mgE 18 rfl))) Via.refl e69 F75_69 (g := (mkF m 137 #[.val (.ref a1), .val (.int p2), .val (.int p3), .val .null, .val (.ref a5), .val (.int p6), .val (.int p7), .unset] [(.ref a1)])) rfl rfl (hb hby d5_137)
  obtain ⟨T95, X95, e95, st95⟩ := getF X93 hx hZ hown (host := "") (Or.inl (hw _ (mgE 50 rfl))) Via.refl e93 F70_69 (g := (mkF m 141 #[.val (.ref a1), .val (.int p2), .val (.int p3), .val .null, .val (.ref a5), .val (.int p6), .val (.int p7), .unset] [(.ref a1), (.ref w_value_a1)])) rfl rfl (hb hby d5_141)
  obtain ⟨cl97, Ar97, S97, Ng97, H97⟩ := id F85_69
  have hj97 : ¬ (2 : Int32) < 0 ∧ (2 : Int32) < (1024 : Int32) := ⟨by decide, by decide⟩
  have hin97 := inb_of S97 hj97
  obtain ⟨T98, h98, X98, e98, W98, st98⟩ := stR X95 hx hZ e95 Ar97 (j := (2 : Int32)) hin97 rfl (own_stoA Ar97 F87_69 (Ins.self F89_69)) (g := (mkF m 146 #[.val (.ref a1), .val (.int p2), .val (.int p3), .val .null, .val (.ref a5), .val (.int p6), .val (.int p7), .unset] [(.ref a5), (.int (2 : Int32)), (.ref w_value_a1)])) rfl rfl (hb hby d5_146)
  have F99_98 := F70_69.other W98 (Or.inl ne_a1_w_value_a1)
  have F100_98 := F71_69.other W98 (Or.inl ne_a1_w_value_a1)
  have F101_98 := F72_69.other W98 (Or.inl ne_a1_w_value_a1)
  have F102_98 := F73_69.other W98 (Or.inl ne_a1_w_value_a1)
  have F103_98 := F74_69.other W98 (Or.inl ne_a1_w_value_a1)
  have F104_98 := F75_69.other W98 (Or.inl ne_a1_w_value_a1)
  have F105_98 := F76_69.other W98 (Or.inl ne_a1_w_value_a1)
  have F106_98 := F77_69.other W98 (Or.inl ne_a1_w_value_a1)
  have F107_98 := F78_69.other W98 (Or.inl ne_a1_w_value_a1)
  have F108_98 := F79_69.other W98 (Or.inl ne_a1_w_value_a1)
  have F109_98 := F80_69.other W98 (Or.inl ne_a1_w_value_a1)
  have F110_98 := F81_69.other W98 (Ne.symm ne_w_value_a1_w_target_a1)
  have F111_98 := F82_69.other W98 (Ne.symm ne_w_value_a1_w_slot_a1)
  have F112_98 := F83_69.other W98 ne_w_sender_a1_w_value_a1
  have F113_98 := F84_69.other W98 ne_w_position_a1_w_value_a1
  have F115_98 := V69_w_taken_a1.other W98 (Ne.symm ne_w_value_a1_w_taken_a1)
  have F116_98 := F87_69.wr W98
  have F117_98 := F88_69.wr W98
  have F119_98 := F90_69.wr W98
  have F120_98 := F91_69.other W98 ne_a5_w_value_a1
  have V98_w_value_a1 : Arf Z h98 w_value_a1 (.array .byte) (1024 : Int32) (own_upd el_w_value_a1 ((2 : Int32)).toNatClampNeg (Value.ref a5)) := (F85_69.set W98)
  have K98 : Keep h0 h98 [w_target_a1, w_slot_a1, w_taken_a1, w_value_a1, w_sender_a1, w_position_a1, a1] := K69.wr W98 (Or.inl (mgE 3 rfl))
  have Z98 : n0 ≤ h98.size := Nat.le_trans Z69 (Keep.of_wr W98).1
  have N98 := Fr.snoc X98 N69 g_w_value_a1
  obtain ⟨T122, X122, e122, st122⟩ := getF X98 hx hZ hown (host := "") (Or.inl (hw _ (mgE 22 rfl))) Via.refl e98 F102_98 (g := (mkF m 148 #[.val (.ref a1), .val (.int p2), .val (.int p3), .val .null, .val (.ref a5), .val (.int p6), .val (.int p7), .unset] [(.ref a1)])) rfl rfl (hb hby d5_148)
  obtain ⟨T124, X124, e124, st124⟩ := getF X122 hx hZ hown (host := "") (Or.inl (hw _ (mgE 50 rfl))) Via.refl e122 F99_98 (g := (mkF m 152 #[.val (.ref a1), .val (.int p2), .val (.int p3), .val .null, .val (.ref a5), .val (.int p6), .val (.int p7), .unset] [(.ref a1), (.ref w_sender_a1)])) rfl rfl (hb hby d5_152)
  obtain ⟨cl126, Ar126, S126, Ng126, H126⟩ := id F112_98
  have hj126 : ¬ (2 : Int32) < 0 ∧ (2 : Int32) < (1024 : Int32) := ⟨by decide, by decide⟩
  have hin126 := inb_of S126 hj126
  obtain ⟨T127, h127, X127, e127, W127, st127⟩ := stI X124 hx hZ e124 Ar126 (j := (2 : Int32)) hin126 (g := (mkF m 157 #[.val (.ref a1), .val (.int p2), .val (.int p3), .val .null, .val (.ref a5), .val (.int p6), .val (.int p7), .unset] [(.int p6), (.int (2 : Int32)), (.ref w_sender_a1)])) rfl rfl (hb hby d5_157)
  have F128_127 := F99_98.other W127 (Or.inl ne_a1_w_sender_a1)
  have F129_127 := F100_98.other W127 (Or.inl ne_a1_w_sender_a1)
  have F130_127 := F101_98.other W127 (Or.inl ne_a1_w_sender_a1)
  have F131_127 := F102_98.other W127 (Or.inl ne_a1_w_sender_a1)
  have F132_127 := F103_98.other W127 (Or.inl ne_a1_w_sender_a1)
  have F133_127 := F104_98.other W127 (Or.inl ne_a1_w_sender_a1)
  have F134_127 := F105_98.other W127 (Or.inl ne_a1_w_sender_a1)
  have F135_127 := F106_98.other W127 (Or.inl ne_a1_w_sender_a1)
  have F136_127 := F107_98.other W127 (Or.inl ne_a1_w_sender_a1)
  have F137_127 := F108_98.other W127 (Or.inl ne_a1_w_sender_a1)
  have F138_127 := F109_98.other W127 (Or.inl ne_a1_w_sender_a1)
  have F139_127 := F110_98.other W127 (Ne.symm ne_w_sender_a1_w_target_a1)
  have F140_127 := F111_98.other W127 (Ne.symm ne_w_sender_a1_w_slot_a1)
  have F142_127 := F113_98.other W127 ne_w_position_a1_w_sender_a1
  have F143_127 := V98_w_value_a1.other W127 (Ne.symm ne_w_sender_a1_w_value_a1)
  have F144_127 := F115_98.other W127 (Ne.symm ne_w_sender_a1_w_taken_a1)
  have F145_127 := F116_98.wr W127
  have F146_127 := F117_98.wr W127
  have F148_127 := F119_98.wr W127
  have F149_127 := F120_98.other W127 ne_a5_w_sender_a1
  have V127_w_sender_a1 : Arf Z h127 w_sender_a1 .int (1024 : Int32) (fun i => (.int ((own_upd el_w_sender_a1 ((2 : Int32)).toNatClampNeg p6) i))) := upd_int _ _ _ ▸ (F112_98.set W127)
  have K127 : Keep h0 h127 [w_target_a1, w_slot_a1, w_taken_a1, w_value_a1, w_sender_a1, w_position_a1, a1] := K98.wr W127 (Or.inl (mgE 4 rfl))
  have Z127 : n0 ≤ h127.size := Nat.le_trans Z98 (Keep.of_wr W127).1
  have N127 := Fr.snoc X127 N98 g_w_sender_a1
  obtain ⟨T151, X151, e151, st151⟩ := getF X127 hx hZ hown (host := "") (Or.inl (hw _ (mgE 24 rfl))) Via.refl e127 F132_127 (g := (mkF m 159 #[.val (.ref a1), .val (.int p2), .val (.int p3), .val .null, .val (.ref a5), .val (.int p6), .val (.int p7), .unset] [(.ref a1)])) rfl rfl (hb hby d5_159)
  obtain ⟨T153, X153, e153, st153⟩ := getF X151 hx hZ hown (host := "") (Or.inl (hw _ (mgE 50 rfl))) Via.refl e151 F128_127 (g := (mkF m 163 #[.val (.ref a1), .val (.int p2), .val (.int p3), .val .null, .val (.ref a5), .val (.int p6), .val (.int p7), .unset] [(.ref a1), (.ref w_position_a1)])) rfl rfl (hb hby d5_163)
  obtain ⟨cl155, Ar155, S155, Ng155, H155⟩ := id F142_127
  have hj155 : ¬ (2 : Int32) < 0 ∧ (2 : Int32) < (1024 : Int32) := ⟨by decide, by decide⟩
  have hin155 := inb_of S155 hj155
  obtain ⟨T156, h156, X156, e156, W156, st156⟩ := stI X153 hx hZ e153 Ar155 (j := (2 : Int32)) hin155 (g := (mkF m 168 #[.val (.ref a1), .val (.int p2), .val (.int p3), .val .null, .val (.ref a5), .val (.int p6), .val (.int p7), .unset] [(.int p7), (.int (2 : Int32)), (.ref w_position_a1)])) rfl rfl (hb hby d5_168)
  have F157_156 := F128_127.other W156 (Or.inl ne_a1_w_position_a1)
  have F158_156 := F129_127.other W156 (Or.inl ne_a1_w_position_a1)
  have F159_156 := F130_127.other W156 (Or.inl ne_a1_w_position_a1)
  have F160_156 := F131_127.other W156 (Or.inl ne_a1_w_position_a1)
  have F161_156 := F132_127.other W156 (Or.inl ne_a1_w_position_a1)
  have F162_156 := F133_127.other W156 (Or.inl ne_a1_w_position_a1)
  have F163_156 := F134_127.other W156 (Or.inl ne_a1_w_position_a1)
  have F164_156 := F135_127.other W156 (Or.inl ne_a1_w_position_a1)
  have F165_156 := F136_127.other W156 (Or.inl ne_a1_w_position_a1)
  have F166_156 := F137_127.other W156 (Or.inl ne_a1_w_position_a1)
  have F167_156 := F138_127.other W156 (Or.inl ne_a1_w_position_a1)
  have F168_156 := F139_127.other W156 (Ne.symm ne_w_position_a1_w_target_a1)
  have F169_156 := F140_127.other W156 (Ne.symm ne_w_position_a1_w_slot_a1)
  have F170_156 := V127_w_sender_a1.other W156 (Ne.symm ne_w_position_a1_w_sender_a1)
  have F172_156 := F143_127.other W156 (Ne.symm ne_w_position_a1_w_value_a1)
  have F173_156 := F144_127.other W156 (Ne.symm ne_w_position_a1_w_taken_a1)
  have F174_156 := F145_127.wr W156
  have F175_156 := F146_127.wr W156
  have F177_156 := F148_127.wr W156
  have F178_156 := F149_127.other W156 ne_a5_w_position_a1
  have V156_w_position_a1 : Arf Z h156 w_position_a1 .int (1024 : Int32) (fun i => (.int ((own_upd el_w_position_a1 ((2 : Int32)).toNatClampNeg p7) i))) := upd_int _ _ _ ▸ (F142_127.set W156)
  have K156 : Keep h0 h156 [w_target_a1, w_slot_a1, w_taken_a1, w_value_a1, w_sender_a1, w_position_a1, a1] := K127.wr W156 (Or.inl (mgE 5 rfl))
  have Z156 : n0 ≤ h156.size := Nat.le_trans Z127 (Keep.of_wr W156).1
  have N156 := Fr.snoc X156 N127 g_w_position_a1
  obtain ⟨T180, X180, e180, st180⟩ := getF X156 hx hZ hown (host := "") (Or.inl (hw _ (mgE 50 rfl))) Via.refl e156 F157_156 (g := (mkF m 171 #[.val (.ref a1), .val (.int p2), .val (.int p3), .val .null, .val (.ref a5), .val (.int p6), .val (.int p7), .unset] [(.ref a1), (.ref a1)])) rfl rfl (hb hby d5_171)
  obtain ⟨T182, h182, X182, e182, W182, st182⟩ := putF X180 hx hZ hown (host := "") (Or.inl (hw _ (mgE 50 rfl))) Via.refl e180 F157_156 F177_156 (Or.inl (hw _ (mgE 51 rfl))) (hw _ (mgE 3 rfl)) (ty := .int) (by decide) rfl rfl (g := (mkF m 176 #[.val (.ref a1), .val (.int p2), .val (.int p3), .val .null, .val (.ref a5), .val (.int p6), .val (.int p7), .unset] [(.int (3 : Int32)), (.ref a1)])) rfl rfl (hb hby d5_176)
  have F184_182 := F158_156.other W182 (Or.inr (slot_ne (Or.inl (hw _ (mgE 13 rfl))) (Or.inl (hw _ (mgE 51 rfl))) (by decide) (t := (.array .int)) (t' := .int) (by decide) (by decide)))
  have F185_182 := F159_156.other W182 (Or.inr (slot_ne (Or.inl (hw _ (mgE 15 rfl))) (Or.inl (hw _ (mgE 51 rfl))) (by decide) (t := (.array .int)) (t' := .int) (by decide) (by decide)))
  have F186_182 := F160_156.other W182 (Or.inr (slot_ne (Or.inl (hw _ (mgE 23 rfl))) (Or.inl (hw _ (mgE 51 rfl))) (by decide) (t := (.array .int)) (t' := .int) (by decide) (by decide)))
  have F187_182 := F161_156.other W182 (Or.inr (slot_ne (Or.inl (hw _ (mgE 25 rfl))) (Or.inl (hw _ (mgE 51 rfl))) (by decide) (t := (.array .int)) (t' := .int) (by decide) (by decide)))
  have F188_182 := F162_156.other W182 (Or.inr (slot_ne (Or.inl (hw _ (mgE 19 rfl))) (Or.inl (hw _ (mgE 51 rfl))) (by decide) (t := (.array (.array .byte))) (t' := .int) (by decide) (by decide)))
  have F189_182 := F163_156.other W182 (Or.inr (slot_ne (Or.inl (hw _ (mgE 21 rfl))) (Or.inl (hw _ (mgE 51 rfl))) (by decide) (t := (.array (.array .byte))) (t' := .int) (by decide) (by decide)))
  have F190_182 := F164_156.other W182 (Or.inr (slot_ne (Or.inl (hw _ (mgE 27 rfl))) (Or.inl (hw _ (mgE 51 rfl))) (by decide) (t := (.array .int)) (t' := .int) (by decide) (by decide)))
  have F191_182 := F165_156.other W182 (Or.inr (slot_ne (Or.inl (hw _ (mgE 29 rfl))) (Or.inl (hw _ (mgE 51 rfl))) (by decide) (t := (.array .int)) (t' := .int) (by decide) (by decide)))
  have F192_182 := F166_156.other W182 (Or.inr (slot_ne (Or.inl (hw _ (mgE 31 rfl))) (Or.inl (hw _ (mgE 51 rfl))) (by decide) (t := (.array .int)) (t' := .int) (by decide) (by decide)))
  have F193_182 := F167_156.other W182 (Or.inr (slot_ne (Or.inl (hw _ (mgE 40 rfl))) (Or.inl (hw _ (mgE 51 rfl))) (by decide) (t := .long) (t' := .int) (by decide) (by decide)))
  have F194_182 := F168_156.other W182 (Ne.symm ne_a1_w_target_a1)
  have F195_182 := F169_156.other W182 (Ne.symm ne_a1_w_slot_a1)
  have F196_182 := F170_156.other W182 (Ne.symm ne_a1_w_sender_a1)
  have F197_182 := V156_w_position_a1.other W182 (Ne.symm ne_a1_w_position_a1)
  have F198_182 := F172_156.other W182 (Ne.symm ne_a1_w_value_a1)
  have F199_182 := F173_156.other W182 (Ne.symm ne_a1_w_taken_a1)
  have F200_182 := F174_156.wr W182
  have F201_182 := F175_156.wr W182
  have F203_182 := F177_156.wr W182
  have F204_182 := F178_156.other W182 ne_a5_a1
  have Fw182 := F157_156.same W182
  have K182 : Keep h0 h182 [w_target_a1, w_slot_a1, w_taken_a1, w_value_a1, w_sender_a1, w_position_a1, a1] := K156.wr W182 (Or.inl (mgE 6 rfl))
  have Z182 : n0 ≤ h182.size := Nat.le_trans Z156 (Keep.of_wr W182).1
  have N182 := Fr.snoc X182 N156 g_a1
  obtain ⟨T206, X206, e206, st206⟩ := getF X182 hx hZ hown (host := "") (Or.inl (hw _ (mgE 39 rfl))) Via.refl e182 F193_182 (g := (mkF m 181 #[.val (.ref a1), .val (.int p2), .val (.int p3), .val .null, .val (.ref a5), .val (.int p6), .val (.int p7), .unset] [(.ref a1), (.ref a1)])) rfl rfl (hb hby d5_181)
  obtain ⟨_, _, ⟨T208, L208, k208, n208⟩, -, X208, ⟨Lc208, hQ208, l208, y208, z208⟩, st208⟩ := Jvm.LawKit.callS X206 hx (y := (⟨"com/example/accrete/accrete/engine/Sendings", "cost", "([B)J"⟩ : MethodName)) hown (mvT hZ (hw _ (mgE 53 rfl))) (mvT hZ (hw _ (mgE 54 rfl))) (mvT hZ (hw _ (mgE 4 rfl))) (mvT hZ (hw _ (mgE 55 rfl))) (by decide) (backOf (W := 3) (rm6n0 l Z a0 hw []  h182 n0 Z182 ) hZ (hw _ (mgE 55 rfl)) (hw _ (mgE 4 rfl)) (by decide) (by decide)) (g := (mkF m 185 #[.val (.ref a1), .val (.int p2), .val (.int p3), .val .null, .val (.ref a5), .val (.int p6), .val (.int p7), .unset] [.null, (.long w_valuesCost_a1), (.ref a1)])) rfl (by rw [hml]; rfl) (argsL := [.null]) (rest := [(.long w_valuesCost_a1), (.ref a1)]) (lenOf pd___B_J rfl) rfl (by show 2 * 0 + _ ≤ _; exact Nat.le_of_eq rfl) (hb hby d5_185) (fun _ _ => ⟨rfl, e206, (by decide : 0 + 0 ≤ _), (by decide : 0 + 0 ≤ _)⟩)
  dsimp only [Pt.U, Pt.locs, Pt.cells, Pt.slots] at X208 l208 y208 z208 st208 hQ208
  subst l208 y208 z208
  obtain ⟨rfl, N208q, e208⟩ := hQ208
  have N208 := Fr.app N182 N208q
  obtain ⟨_, _, ⟨T210, L210, k210, n210⟩, -, X210, ⟨Lc210, hQ210, l210, y210, z210⟩, st210⟩ := Jvm.LawKit.callS X208 hx (y := (⟨"com/example/accrete/accrete/engine/Sendings", "cost", "([B)J"⟩ : MethodName)) hown (mvT hZ (hw _ (mgE 53 rfl))) (mvT hZ (hw _ (mgE 54 rfl))) (mvT hZ (hw _ (mgE 4 rfl))) (mvT hZ (hw _ (mgE 55 rfl))) (by decide) (backOf (W := 5) (rm6 l Z a0 hw [] a5 z_a5 el_a5 h182 n0 Z182 F204_182) hZ (hw _ (mgE 55 rfl)) (hw _ (mgE 4 rfl)) (by decide) (by decide)) (g := (mkF m 190 #[.val (.ref a1), .val (.int p2), .val (.int p3), .val .null, .val (.ref a5), .val (.int p6), .val (.int p7), .unset] [(.ref a5), (.long (0 : Int64)), (.long w_valuesCost_a1), (.ref a1)])) rfl (by rw [hml]; rfl) (argsL := [(.ref a5)]) (rest := [(.long (0 : Int64)), (.long w_valuesCost_a1), (.ref a1)]) (lenOf pd___B_J rfl) rfl (by show 2 * 0 + _ ≤ _; exact Nat.le_of_eq rfl) (hb hby d5_190) (fun _ _ => ⟨rfl, e208, (by decide : 0 + 0 ≤ _), (by decide : 0 + 0 ≤ _)⟩)
  dsimp only [Pt.U, Pt.locs, Pt.cells, Pt.slots] at X210 l210 y210 z210 st210 hQ210
  subst l210 y210 z210
  obtain ⟨rfl, N210q, e210⟩ := hQ210
  have N210 := Fr.app N208 N210q
  obtain ⟨T212, h212, X212, e212, W212, st212⟩ := putF X210 hx hZ hown (host := "") (Or.inl (hw _ (mgE 39 rfl))) Via.refl e210 F193_182 F203_182 (Or.inl (hw _ (mgE 40 rfl))) (hw _ (mgE 3 rfl)) (ty := .long) (by decide) rfl rfl (g := (mkF m 195 #[.val (.ref a1), .val (.int p2), .val (.int p3), .val .null, .val (.ref a5), .val (.int p6), .val (.int p7), .unset] [(.long (w_valuesCost_a1 + ((0 : Int64) + (((16 : Int32) + z_a5).toInt64)))), (.ref a1)])) rfl rfl (hb hby d5_195)
  have F213_212 := Fw182.other W212 (Or.inr (slot_ne (Or.inl (hw _ (mgE 51 rfl))) (Or.inl (hw _ (mgE 40 rfl))) (by decide) (t := .int) (t' := .long) (by decide) (by decide)))
  have F214_212 := F184_182.other W212 (Or.inr (slot_ne (Or.inl (hw _ (mgE 13 rfl))) (Or.inl (hw _ (mgE 40 rfl))) (by decide) (t := (.array .int)) (t' := .long) (by decide) (by decide)))
  have F215_212 := F185_182.other W212 (Or.inr (slot_ne (Or.inl (hw _ (mgE 15 rfl))) (Or.inl (hw _ (mgE 40 rfl))) (by decide) (t := (.array .int)) (t' := .long) (by decide) (by decide)))
  have F216_212 := F186_182.other W212 (Or.inr (slot_ne (Or.inl (hw _ (mgE 23 rfl))) (Or.inl (hw _ (mgE 40 rfl))) (by decide) (t := (.array .int)) (t' := .long) (by decide) (by decide)))
  have F217_212 := F187_182.other W212 (Or.inr (slot_ne (Or.inl (hw _ (mgE 25 rfl))) (Or.inl (hw _ (mgE 40 rfl))) (by decide) (t := (.array .int)) (t' := .long) (by decide) (by decide)))
  have F218_212 := F188_182.other W212 (Or.inr (slot_ne (Or.inl (hw _ (mgE 19 rfl))) (Or.inl (hw _ (mgE 40 rfl))) (by decide) (t := (.array (.array .byte))) (t' := .long) (by decide) (by decide)))
  have F219_212 := F189_182.other W212 (Or.inr (slot_ne (Or.inl (hw _ (mgE 21 rfl))) (Or.inl (hw _ (mgE 40 rfl))) (by decide) (t := (.array (.array .byte))) (t' := .long) (by decide) (by decide)))
  have F220_212 := F190_182.other W212 (Or.inr (slot_ne (Or.inl (hw _ (mgE 27 rfl))) (Or.inl (hw _ (mgE 40 rfl))) (by decide) (t := (.array .int)) (t' := .long) (by decide) (by decide)))
  have F221_212 := F191_182.other W212 (Or.inr (slot_ne (Or.inl (hw _ (mgE 29 rfl))) (Or.inl (hw _ (mgE 40 rfl))) (by decide) (t := (.array .int)) (t' := .long) (by decide) (by decide)))
  have F222_212 := F192_182.other W212 (Or.inr (slot_ne (Or.inl (hw _ (mgE 31 rfl))) (Or.inl (hw _ (mgE 40 rfl))) (by decide) (t := (.array .int)) (t' := .long) (by decide) (by decide)))
  have F224_212 := F194_182.other W212 (Ne.symm ne_a1_w_target_a1)
  have F225_212 := F195_182.other W212 (Ne.symm ne_a1_w_slot_a1)
  have F226_212 := F196_182.other W212 (Ne.symm ne_a1_w_sender_a1)
  have F227_212 := F197_182.other W212 (Ne.symm ne_a1_w_position_a1)
  have F228_212 := F198_182.other W212 (Ne.symm ne_a1_w_value_a1)
  have F229_212 := F199_182.other W212 (Ne.symm ne_a1_w_taken_a1)
  have F230_212 := F200_182.wr W212
  have F231_212 := F201_182.wr W212
  have F233_212 := F203_182.wr W212
  have Fw212 := F193_182.same W212
  have K212 : Keep h0 h212 [w_target_a1, w_slot_a1, w_taken_a1, w_value_a1, w_sender_a1, w_position_a1, a1] := K182.wr W212 (Or.inl (mgE 6 rfl))
  have N212 := Fr.snoc X212 N210 g_a1
  have pre236 : ∀ t, Steps p.tables e below (T212.setTop (mkF m 198 #[.val (.ref a1), .val (.int p2), .val (.int p3), .val .null, .val (.ref a5), .val (.int p6), .val (.int p7), .unset] [])) t → EN t := fun t kt => by
    refine pre0 t ?_
    refine XS.aloadN X0.here hx rfl (hb hby d5_0) rfl rfl ?_
    refine st1 t ?_
    refine XS.aloadN X1.here hx rfl (hb hby d5_4) rfl rfl ?_
    refine st3 t ?_
    refine X3.arraylength hx (by rw [e3]; exact Ar5.1) (State.isArrayOf_alike hZ.alike Ar5.2.1) (g := (mkF m 8 #[.val (.ref a1), .val (.int p2), .val (.int p3), .val .null, .val (.ref a5), .val (.int p6), .val (.int p7), .unset] [(.ref w_target_a1), (.int (2 : Int32))])) rfl rfl (hb hby d5_8) _ ?_
    rw [len_of S5 Ng5]
    refine XS.icmpYes X3.here hx rfl (pc0 := 9) (pc' := 106) rfl (hb hby d5_9) rfl (feq (by decide : ¬ ((2 : Int32) = (1024 : Int32)))).2 (by decide) (by decide) ?_
    refine XS.aloadN X3.here hx rfl (hb hby d5_106) rfl rfl ?_
    refine st6 t ?_
    refine XS.aloadN X6.here hx rfl (hb hby d5_110) rfl rfl ?_
    refine st8 t ?_
    show Steps p.tables e below (T8.setTop (mkF m 114 #[.val (.ref a1), .val (.int p2), .val (.int p3), .val .null, .val (.ref a5), .val (.int p6), .val (.int p7), .unset] [(.int (2 : Int32)), (.ref w_target_a1)])) _
    refine XS.iloadN X8.here hx rfl (hb hby d5_114) rfl ?_
    refine st11 t ?_
    refine XS.aloadN X11.here hx rfl (hb hby d5_116) rfl rfl ?_
    refine st35 t ?_
    refine XS.aloadN X35.here hx rfl (hb hby d5_120) rfl rfl ?_
    refine st37 t ?_
    refine XS.iloadN X37.here hx rfl (hb hby d5_124) rfl ?_
    refine st40 t ?_
    refine XS.aloadN X40.here hx rfl (hb hby d5_126) rfl rfl ?_
    refine st64 t ?_
    show Steps p.tables e below (T64.setTop (mkF m 130 #[.val (.ref a1), .val (.int p2), .val (.int p3), .val .null, .val (.ref a5), .val (.int p6), .val (.int p7), .unset] [(.ref w_taken_a1)])) _
    refine XS.aloadN X64.here hx rfl (hb hby d5_130) rfl rfl ?_
    refine st66 t ?_
    refine XS.aloadN X66.here hx rfl (hb hby d5_134) rfl rfl ?_
    refine st69 t ?_
    refine XS.aloadN X69.here hx rfl (hb hby d5_136) rfl rfl ?_
    refine st93 t ?_
    refine XS.aloadN X93.here hx rfl (hb hby d5_140) rfl rfl ?_
    refine st95 t ?_
    refine XS.aload X95.here hx rfl (hb hby d5_144) rfl rfl ?_
    refine st98 t ?_
    show Steps p.tables e below (T98.setTop (mkF m 147 #[.val (.ref a1), .val (.int p2), .val (.int p3), .val .null, .val (.ref a5), .val (.int p6), .val (.int p7), .unset] [])) _
    refine XS.aloadN X98.here hx rfl (hb hby d5_147) rfl rfl ?_
    refine st122 t ?_
    refine XS.aloadN X122.here hx rfl (hb hby d5_151) rfl rfl ?_
    refine st124 t ?_
    refine XS.iload X124.here hx rfl (hb hby d5_155) rfl ?_
    refine st127 t ?_
    refine XS.aloadN X127.here hx rfl (hb hby d5_158) rfl rfl ?_
    refine st151 t ?_
    refine XS.aloadN X151.here hx rfl (hb hby d5_162) rfl rfl ?_
    refine st153 t ?_
    show Steps p.tables e below (T153.setTop (mkF m 166 #[.val (.ref a1), .val (.int p2), .val (.int p3), .val .null, .val (.ref a5), .val (.int p6), .val (.int p7), .unset] [(.int (2 : Int32)), (.ref w_position_a1)])) _
    refine XS.iload X153.here hx rfl (hb hby d5_166) rfl ?_
    refine st156 t ?_
    refine XS.aloadN X156.here hx rfl (hb hby d5_169) rfl rfl ?_
    refine XS.dup X156.here hx rfl (hb hby d5_170) rfl rfl ?_
    refine st180 t ?_
    refine XS.iconst X180.here hx rfl (hb hby d5_174) ?_
    refine XS.iadd X180.here hx rfl (hb hby d5_175) rfl ?_
    refine st182 t ?_
    refine XS.aloadN X182.here hx rfl (hb hby d5_179) rfl rfl ?_
    refine XS.dup X182.here hx rfl (hb hby d5_180) rfl rfl ?_
    show Steps p.tables e below (T182.setTop (mkF m 181 #[.val (.ref a1), .val (.int p2), .val (.int p3), .val .null, .val (.ref a5), .val (.int p6), .val (.int p7), .unset] [(.ref a1), (.ref a1)])) _
    refine st206 t ?_
    refine XS.aloadN X206.here hx rfl (hb hby d5_184) rfl rfl ?_
    refine st208 t ?_
    refine XS.aload X208.here hx rfl (hb hby d5_188) rfl rfl ?_
    refine st210 t ?_
    refine XS.ladd X210.here hx rfl (hb hby d5_193) rfl ?_
    refine XS.ladd X210.here hx rfl (hb hby d5_194) rfl ?_
    refine st212 t ?_
    exact kt
  obtain ⟨fs, hr, hrun, hended, hW, hsame⟩ := X212.leave (v := none) (fun _ => rfl)
  refine ⟨_, _, hEN _ (pre236 _ ?_), hrun, hended, _, _, rfl, ?_, ⟨_, rfl⟩, hW, hsame.mono (by decide) (by decide)⟩
  · exact X212.returnOut hx Bd.returns (hb hby d5_198) hr
  · show Q5s2 Z a1 p2 p3 a5 p6 p7 w_target_a1 w_slot_a1 w_sender_a1 w_position_a1 w_value_a1 w_taken_a1 w_starts_a1 w_grouped_a1 w_next_a1 w_valuesCost_a1 el_w_target_a1 el_w_slot_a1 el_w_sender_a1 el_w_position_a1 el_w_value_a1 el_w_taken_a1 z_a5 el_a5 h0 n0 _ T212.heap _
    rw [e212]
    exact ⟨rfl, N212, K212, F233_212, F221_212, F222_212, F217_212, F216_212, F213_212, F215_212, F220_212, F219_212, F214_212, F218_212, Fw212, F231_212, F230_212, F227_212, F226_212, F225_212, F229_212, F224_212, F228_212⟩
theorem d4_0 : decode prog_52_method_5_code 0 = .ok (.aload_n 0, 1) := by decide +kernel
theorem d4_1 : decode prog_52_method_5_code 1 = .ok (.iload_n 1, 1) := by decide +kernel
theorem d4_2 : decode prog_52_method_5_code 2 = .ok (.bipush (-3), 2) := by decide +kernel
theorem d4_4 : decode prog_52_method_5_code 4 = .ok (.aload_n 2, 1) := by decide +kernel
theorem d4_5 : decode prog_52_method_5_code 5 = .ok (.aload_n 3, 1) := by decide +kernel
theorem d4_6 : decode prog_52_method_5_code 6 = .ok (.iload 4, 2) := by decide +kernel
theorem d4_8 : decode prog_52_method_5_code 8 = .ok (.iload 5, 2) := by decide +kernel
theorem d4_10 : decode prog_52_method_5_code 10 = .ok (.invokevirtual 42, 3) := by decide +kernel
theorem d4_13 : decode prog_52_method_5_code 13 = .ok (.return_, 1) := by decide +kernel
theorem pd__II_B_BII_V : parseMethodDescriptor "(II[B[BII)V" = some ⟨[.int, .int, (.array .byte), (.array .byte), .int, .int], none⟩ := by decide +kernel
theorem ef_4 (m : MethodId) (x0 : Addr) (x1 : Int32) (x2 : Addr) (x3 : Addr) (x4 : Int32) (x5 : Int32) : entryFrame m #[(.ref x0), (.int x1), (.ref x2), (.ref x3), (.int x4), (.int x5)] 6 = mkF m 0 #[.val (.ref x0), .val (.int x1), .val (.ref x2), .val (.ref x3), .val (.int x4), .val (.int x5)] [] := by first | (simp [entryFrame, mkF, argsToLocals, Value.category]; done) | rfl
def Q4 (Z : State) (a1 : Addr) (p2 : Int32) (a3 : Addr) (a4 : Addr) (p5 : Int32) (p6 : Int32) (w_target_a1 : Addr) (w_slot_a1 : Addr) (w_sender_a1 : Addr) (w_position_a1 : Addr) (w_value_a1 : Addr) (w_taken_a1 : Addr) (w_starts_a1 : Addr) (w_grouped_a1 : Addr) (w_next_a1 : Addr) (w_valuesCost_a1 : Int64) (el_w_target_a1 : Nat → Int32) (el_w_slot_a1 : Nat → Int32) (el_w_sender_a1 : Nat → Int32) (el_w_position_a1 : Nat → Int32) (el_w_value_a1 : Nat → Value) (el_w_taken_a1 : Nat → Value) (z_a3 : Int32) (el_a3 : Nat → Int32) (z_a4 : Int32) (el_a4 : Nat → Int32) (h0 : Heap) (n0 : Nat) (v : Option Value) (h : Heap) (L : List Loc) : Prop := v = none ∧ Fr n0 L ∧ Keep h0 h [a1, w_position_a1, w_sender_a1, w_value_a1, w_taken_a1, w_slot_a1, w_target_a1] ∧ Exa Z h a1 "com/example/accrete/accrete/engine/Sendings" ∧ Fld Z h a1 "com/example/accrete/accrete/engine/Sendings" "grouped" "[I" (.ref w_grouped_a1) ∧ Fld Z h a1 "com/example/accrete/accrete/engine/Sendings" "next" "[I" (.ref w_next_a1) ∧ Fld Z h a1 "com/example/accrete/accrete/engine/Sendings" "position" "[I" (.ref w_position_a1) ∧ Fld Z h a1 "com/example/accrete/accrete/engine/Sendings" "sender" "[I" (.ref w_sender_a1) ∧ Fld Z h a1 "com/example/accrete/accrete/engine/Sendings" "size" "I" (.int (1 : Int32)) ∧ Fld Z h a1 "com/example/accrete/accrete/engine/Sendings" "slot" "[I" (.ref w_slot_a1) ∧ Fld Z h a1 "com/example/accrete/accrete/engine/Sendings" "starts" "[I" (.ref w_starts_a1) ∧ Fld Z h a1 "com/example/accrete/accrete/engine/Sendings" "taken" "[[B" (.ref w_taken_a1) ∧ Fld Z h a1 "com/example/accrete/accrete/engine/Sendings" "target" "[I" (.ref w_target_a1) ∧ Fld Z h a1 "com/example/accrete/accrete/engine/Sendings" "value" "[[B" (.ref w_value_a1) ∧ Fld Z h a1 "com/example/accrete/accrete/engine/Sendings" "valuesCost" "J" (.long (w_valuesCost_a1 + ((((16 : Int32) + z_a3).toInt64) + (((16 : Int32) + z_a4).toInt64)))) ∧ OvcA Z h w_taken_a1 .byte "[B" ∧ OvcA Z h w_value_a1 .byte "[B" ∧ Arf Z h w_position_a1 .int (1024 : Int32) (fun i => (.int ((own_upd el_w_position_a1 ((0 : Int32)).toNatClampNeg p6) i))) ∧ Arf Z h w_sender_a1 .int (1024 : Int32) (fun i => (.int ((own_upd el_w_sender_a1 ((0 : Int32)).toNatClampNeg p5) i))) ∧ Arf Z h w_slot_a1 .int (1024 : Int32) (fun i => (.int ((own_upd el_w_slot_a1 ((0 : Int32)).toNatClampNeg (-3 : Int32)) i))) ∧ Arf Z h w_taken_a1 (.array .byte) (1024 : Int32) (own_upd el_w_taken_a1 ((0 : Int32)).toNatClampNeg (Value.ref a3)) ∧ Arf Z h w_target_a1 .int (1024 : Int32) (fun i => (.int ((own_upd el_w_target_a1 ((0 : Int32)).toNatClampNeg p2) i))) ∧ Arf Z h w_value_a1 (.array .byte) (1024 : Int32) (own_upd el_w_value_a1 ((0 : Int32)).toNatClampNeg (Value.ref a4))
set_option maxRecDepth 65536 in
set_option maxHeartbeats 40000000 in
theorem rm4 (l : Launch) (Z : State) (a0 : Array Value) (hw : ∀ d ∈ tables_1, d.before a0 Z = true) (ws : List Jvm.Cond) (a1 : Addr) (p2 : Int32) (a3 : Addr) (a4 : Addr) (p5 : Int32) (p6 : Int32) (w_target_a1 : Addr) (w_slot_a1 : Addr) (w_sender_a1 : Addr) (w_position_a1 : Addr) (w_value_a1 : Addr) (w_taken_a1 : Addr) (w_starts_a1 : Addr) (w_grouped_a1 : Addr) (w_next_a1 : Addr) (w_valuesCost_a1 : Int64) (el_w_target_a1 : Nat → Int32) (el_w_slot_a1 : Nat → Int32) (el_w_sender_a1 : Nat → Int32) (el_w_position_a1 : Nat → Int32) (el_w_value_a1 : Nat → Value) (el_w_taken_a1 : Nat → Value) (z_a3 : Int32) (el_a3 : Nat → Int32) (z_a4 : Int32) (el_a4 : Nat → Int32) (h0 : Heap) (n0 : Nat) (Z0 : n0 ≤ h0.size) (F_size_a1 : Fld Z h0 a1 "com/example/accrete/accrete/engine/Sendings" "size" "I" (.int (0 : Int32))) (F_target_a1 : Fld Z h0 a1 "com/example/accrete/accrete/engine/Sendings" "target" "[I" (.ref w_target_a1)) (F_slot_a1 : Fld Z h0 a1 "com/example/accrete/accrete/engine/Sendings" "slot" "[I" (.ref w_slot_a1)) (F_sender_a1 : Fld Z h0 a1 "com/example/accrete/accrete/engine/Sendings" "sender" "[I" (.ref w_sender_a1)) (F_position_a1 : Fld Z h0 a1 "com/example/accrete/accrete/engine/Sendings" "position" "[I" (.ref w_position_a1)) (F_value_a1 : Fld Z h0 a1 "com/example/accrete/accrete/engine/Sendings" "value" "[[B" (.ref w_value_a1)) (F_taken_a1 : Fld Z h0 a1 "com/example/accrete/accrete/engine/Sendings" "taken" "[[B" (.ref w_taken_a1)) (F_starts_a1 : Fld Z h0 a1 "com/example/accrete/accrete/engine/Sendings" "starts" "[I" (.ref w_starts_a1)) (F_grouped_a1 : Fld Z h0 a1 "com/example/accrete/accrete/engine/Sendings" "grouped" "[I" (.ref w_grouped_a1)) (F_next_a1 : Fld Z h0 a1 "com/example/accrete/accrete/engine/Sendings" "next" "[I" (.ref w_next_a1)) (F_valuesCost_a1 : Fld Z h0 a1 "com/example/accrete/accrete/engine/Sendings" "valuesCost" "J" (.long w_valuesCost_a1)) (V_w_target_a1 : Arf Z h0 w_target_a1 .int (1024 : Int32) (fun i => (.int (el_w_target_a1 i)))) (V_w_slot_a1 : Arf Z h0 w_slot_a1 .int (1024 : Int32) (fun i => (.int (el_w_slot_a1 i)))) (V_w_sender_a1 : Arf Z h0 w_sender_a1 .int (1024 : Int32) (fun i => (.int (el_w_sender_a1 i)))) (V_w_position_a1 : Arf Z h0 w_position_a1 .int (1024 : Int32) (fun i => (.int (el_w_position_a1 i)))) (V_w_value_a1 : Arf Z h0 w_value_a1 (.array .byte) (1024 : Int32) el_w_value_a1) (V_w_taken_a1 : Arf Z h0 w_taken_a1 (.array .byte) (1024 : Int32) el_w_taken_a1) (O_w_value_a1 : OvcA Z h0 w_value_a1 .byte "[B") (O_w_taken_a1 : OvcA Z h0 w_taken_a1 .byte "[B") (g_w_target_a1 : n0 ≤ w_target_a1) (ne_a1_w_target_a1 : a1 ≠ w_target_a1) (ne_w_slot_a1_w_target_a1 : w_slot_a1 ≠ w_target_a1) (ne_w_sender_a1_w_target_a1 : w_sender_a1 ≠ w_target_a1) (ne_w_position_a1_w_target_a1 : w_position_a1 ≠ w_target_a1) (ne_w_value_a1_w_target_a1 : w_value_a1 ≠ w_target_a1) (ne_w_taken_a1_w_target_a1 : w_taken_a1 ≠ w_target_a1) (g_w_slot_a1 : n0 ≤ w_slot_a1) (ne_a1_w_slot_a1 : a1 ≠ w_slot_a1) (ne_w_sender_a1_w_slot_a1 : w_sender_a1 ≠ w_slot_a1) (ne_w_position_a1_w_slot_a1 : w_position_a1 ≠ w_slot_a1) (ne_w_value_a1_w_slot_a1 : w_value_a1 ≠ w_slot_a1) (ne_w_taken_a1_w_slot_a1 : w_taken_a1 ≠ w_slot_a1) (g_w_taken_a1 : n0 ≤ w_taken_a1) (E_a3 : Exa Z h0 a3 "[B") (ne_a1_w_taken_a1 : a1 ≠ w_taken_a1) (ne_w_sender_a1_w_taken_a1 : w_sender_a1 ≠ w_taken_a1) (ne_w_position_a1_w_taken_a1 : w_position_a1 ≠ w_taken_a1) (ne_w_value_a1_w_taken_a1 : w_value_a1 ≠ w_taken_a1) (g_w_value_a1 : n0 ≤ w_value_a1) (E_a4 : Exa Z h0 a4 "[B") (ne_a1_w_value_a1 : a1 ≠ w_value_a1) (ne_w_sender_a1_w_value_a1 : w_sender_a1 ≠ w_value_a1) (ne_w_position_a1_w_value_a1 : w_position_a1 ≠ w_value_a1) (g_w_sender_a1 : n0 ≤ w_sender_a1) (ne_a1_w_sender_a1 : a1 ≠ w_sender_a1) (ne_w_position_a1_w_sender_a1 : w_position_a1 ≠ w_sender_a1) (g_w_position_a1 : n0 ≤ w_position_a1) (ne_a1_w_position_a1 : a1 ≠ w_position_a1) (E_a1 : Exa Z h0 a1 "com/example/accrete/accrete/engine/Sendings") (g_a1 : n0 ≤ a1) (V_a3 : Arf Z h0 a3 .byte z_a3 (fun i => (.int (el_a3 i)))) (ne_a3_w_target_a1 : a3 ≠ w_target_a1) (ne_a3_w_slot_a1 : a3 ≠ w_slot_a1) (ne_a3_w_taken_a1 : a3 ≠ w_taken_a1) (ne_a3_w_value_a1 : a3 ≠ w_value_a1) (ne_a3_w_sender_a1 : a3 ≠ w_sender_a1) (ne_a3_w_position_a1 : a3 ≠ w_position_a1) (ne_a3_a1 : a3 ≠ a1) (V_a4 : Arf Z h0 a4 .byte z_a4 (fun i => (.int (el_a4 i)))) (ne_a4_w_target_a1 : a4 ≠ w_target_a1) (ne_a4_w_slot_a1 : a4 ≠ w_slot_a1) (ne_a4_w_taken_a1 : a4 ≠ w_taken_a1) (ne_a4_w_value_a1 : a4 ≠ w_value_a1) (ne_a4_w_sender_a1 : a4 ≠ w_sender_a1) (ne_a4_w_position_a1 : a4 ≠ w_position_a1) (ne_a4_a1 : a4 ≠ a1) :
    MetFree l (⟨"com/example/accrete/accrete/engine/Sendings", "sendInPlace", "(I[B[BII)V"⟩ : MethodName) (head1 (Jvm.Cond.code (⟨"com/example/accrete/accrete/engine/Sendings", "sendInPlace", "(I[B[BII)V"⟩ : MethodName) prog_52_method_5_code 6 none :: ws) ({ frames := 2, cells := 0, slots := 0, locals := 36 } : Room)) (fun a U => a = #[(.ref a1), (.int p2), (.ref a3), (.ref a4), (.int p5), (.int p6)] ∧ Z.Warmed39 U.vm ∧ U.heap = h0) (fun _ _ _ _ _ => True) (fun _ U o U' => ∃ v L, o = .returned v ∧ Q4 Z a1 p2 a3 a4 p5 p6 w_target_a1 w_slot_a1 w_sender_a1 w_position_a1 w_value_a1 w_taken_a1 w_starts_a1 w_grouped_a1 w_next_a1 w_valuesCost_a1 el_w_target_a1 el_w_slot_a1 el_w_sender_a1 el_w_position_a1 el_w_value_a1 el_w_taken_a1 z_a3 el_a3 z_a4 el_a4 h0 n0 v U'.heap L ∧ FrameEnd U o U' L ({ frames := 2, cells := 0, slots := 0, locals := 36 } : Room).cells ({ frames := 2, cells := 0, slots := 0, locals := 36 } : Room).slots) := by
  refine MetFree.of_bodySF (plainFor_of_name pn_com_example_accrete_accrete_engine_Sendings) hisR ?_
  intro p e s m args below meth c s₁ Bd hml0 hP hK
  obtain ⟨rfl, hZ, hh⟩ := hP
  have hx := Bd.exec
  have hby := Bd.bytes
  have hml : c.maxLocals = 6 := hml0
  have hown : s.vm.findClass "com/example/accrete/accrete/engine/Sendings" = some m.cls := findClass_of_methodNamed Bd.named
  have hnm := (name_of_methodNamed Bd.named Bd.method).1
  have X0 : Stand p l e ({ frames := 2, cells := 0, slots := 0, locals := 36 } : Room) s m #[(.ref a1), (.int p2), (.ref a3), (.ref a4), (.int p5), (.int p6)] below meth c s₁ [] 0 0 := Stand.of_body Bd
  have e0 : s₁.heap = h0 := by rw [← hh, Bd.state]; rfl
  have N0 := Fr.nil n0
  have pre0 : ∀ t, Steps p.tables e below (s₁.setTop (mkF m 0 #[.val (.ref a1), .val (.int p2), .val (.ref a3), .val (.ref a4), .val (.int p5), .val (.int p6)] [])) t → Steps p.tables e below (s₁.setTop (entryFrame m #[(.ref a1), (.int p2), (.ref a3), (.ref a4), (.int p5), (.int p6)] 6)) t := fun t k => castTop (ef_4 m a1 p2 a3 a4 p5 p6) k
  have pre1 : ∀ t, Steps p.tables e below (s₁.setTop (mkF m 10 #[.val (.ref a1), .val (.int p2), .val (.ref a3), .val (.ref a4), .val (.int p5), .val (.int p6)] [(.int p6), (.int p5), (.ref a4), (.ref a3), (.int (-3 : Int32)), (.int p2), (.ref a1)])) t → Steps p.tables e below (s₁.setTop (entryFrame m #[(.ref a1), (.int p2), (.ref a3), (.ref a4), (.int p5), (.int p6)] 6)) t := fun t kt => by
    refine pre0 t ?_
    refine XS.aloadN X0.here hx rfl (hb hby d4_0) rfl rfl ?_
    show Steps p.tables e below (s₁.setTop (mkF m 1 #[.val (.ref a1), .val (.int p2), .val (.ref a3), .val (.ref a4), .val (.int p5), .val (.int p6)] [(.ref a1)])) _
    refine XS.iloadN X0.here hx rfl (hb hby d4_1) rfl ?_
    show Steps p.tables e below (s₁.setTop (mkF m 2 #[.val (.ref a1), .val (.int p2), .val (.ref a3), .val (.ref a4), .val (.int p5), .val (.int p6)] [(.int p2), (.ref a1)])) _
    refine XS.bipush X0.here hx rfl (hb hby d4_2) ?_
    show Steps p.tables e below (s₁.setTop (mkF m 4 #[.val (.ref a1), .val (.int p2), .val (.ref a3), .val (.ref a4), .val (.int p5), .val (.int p6)] [(.int (-3 : Int32)), (.int p2), (.ref a1)])) _
    refine XS.aloadN X0.here hx rfl (hb hby d4_4) rfl rfl ?_
    show Steps p.tables e below (s₁.setTop (mkF m 5 #[.val (.ref a1), .val (.int p2), .val (.ref a3), .val (.ref a4), .val (.int p5), .val (.int p6)] [(.ref a3), (.int (-3 : Int32)), (.int p2), (.ref a1)])) _
    refine XS.aloadN X0.here hx rfl (hb hby d4_5) rfl rfl ?_
    show Steps p.tables e below (s₁.setTop (mkF m 6 #[.val (.ref a1), .val (.int p2), .val (.ref a3), .val (.ref a4), .val (.int p5), .val (.int p6)] [(.ref a4), (.ref a3), (.int (-3 : Int32)), (.int p2), (.ref a1)])) _
    refine XS.iload X0.here hx rfl (hb hby d4_6) rfl ?_
    show Steps p.tables e below (s₁.setTop (mkF m 8 #[.val (.ref a1), .val (.int p2), .val (.ref a3), .val (.ref a4), .val (.int p5), .val (.int p6)] [(.int p5), (.ref a4), (.ref a3), (.int (-3 : Int32)), (.int p2), (.ref a1)])) _
    refine XS.iload X0.here hx rfl (hb hby d4_8) rfl ?_
    show Steps p.tables e below (s₁.setTop (mkF m 10 #[.val (.ref a1), .val (.int p2), .val (.ref a3), .val (.ref a4), .val (.int p5), .val (.int p6)] [(.int p6), (.int p5), (.ref a4), (.ref a3), (.int (-3 : Int32)), (.int p2), (.ref a1)])) _
    exact kt
  obtain ⟨cq2, q2, q2'⟩ := E_a1.cell
  obtain ⟨_, _, ⟨T2, L2, k2, n2⟩, -, X2, ⟨Lc2, hQ2, l2, y2, z2⟩, st2⟩ := X0.privateBack hx (y := (⟨"com/example/accrete/accrete/engine/Sendings", "add", "(II[B[BII)V"⟩ : MethodName)) hown (mvT hZ (hw _ (mgE 46 rfl))) (mvT hZ (hw _ (mgE 47 rfl))) (own_sel (mvT hZ (hw _ (mgE 3 rfl))) (Cond.privateMethod_at (mvP hZ (hw _ (mgE 48 rfl)) (args := #[]))) (mvT hZ (hw _ (mgE 47 rfl))) (by decide)) (Cond.privateMethod_at (mvP hZ (hw _ (mgE 48 rfl)) (args := #[]))) (mvT hZ (hw _ (mgE 49 rfl))) (by decide) (backOf (W := 0) (rm5s0 l Z a0 hw [] a1 p2 (-3 : Int32) a3 a4 p5 p6 w_target_a1 w_slot_a1 w_sender_a1 w_position_a1 w_value_a1 w_taken_a1 w_starts_a1 w_grouped_a1 w_next_a1 w_valuesCost_a1 el_w_target_a1 el_w_slot_a1 el_w_sender_a1 el_w_position_a1 el_w_value_a1 el_w_taken_a1 z_a3 el_a3 z_a4 el_a4 h0 n0 Z0 F_size_a1 F_target_a1 F_slot_a1 F_sender_a1 F_position_a1 F_value_a1 F_taken_a1 F_starts_a1 F_grouped_a1 F_next_a1 F_valuesCost_a1 V_w_target_a1 V_w_slot_a1 V_w_sender_a1 V_w_position_a1 V_w_value_a1 V_w_taken_a1 O_w_value_a1 O_w_taken_a1 g_w_target_a1 ne_a1_w_target_a1 ne_w_slot_a1_w_target_a1 ne_w_sender_a1_w_target_a1 ne_w_position_a1_w_target_a1 ne_w_value_a1_w_target_a1 ne_w_taken_a1_w_target_a1 g_w_slot_a1 ne_a1_w_slot_a1 ne_w_sender_a1_w_slot_a1 ne_w_position_a1_w_slot_a1 ne_w_value_a1_w_slot_a1 ne_w_taken_a1_w_slot_a1 g_w_taken_a1 E_a3 ne_a1_w_taken_a1 ne_w_sender_a1_w_taken_a1 ne_w_position_a1_w_taken_a1 ne_w_value_a1_w_taken_a1 g_w_value_a1 E_a4 ne_a1_w_value_a1 ne_w_sender_a1_w_value_a1 ne_w_position_a1_w_value_a1 g_w_sender_a1 ne_a1_w_sender_a1 ne_w_position_a1_w_sender_a1 g_w_position_a1 ne_a1_w_position_a1 E_a1 g_a1 V_a3 ne_a3_w_target_a1 ne_a3_w_slot_a1 ne_a3_w_taken_a1 ne_a3_w_value_a1 ne_a3_w_sender_a1 ne_a3_w_position_a1 ne_a3_a1 V_a4 ne_a4_w_target_a1 ne_a4_w_slot_a1 ne_a4_w_taken_a1 ne_a4_w_value_a1 ne_a4_w_sender_a1 ne_a4_w_position_a1 ne_a4_a1) hZ (hw _ (mgE 49 rfl)) (hw _ (mgE 4 rfl)) (by decide) (by decide)) (g := (mkF m 10 #[.val (.ref a1), .val (.int p2), .val (.ref a3), .val (.ref a4), .val (.int p5), .val (.int p6)] [(.int p6), (.int p5), (.ref a4), (.ref a3), (.int (-3 : Int32)), (.int p2), (.ref a1)])) rfl (by rw [hml]; rfl) (Steps.refl _) (a := a1) (by rw [e0]; exact q2) q2' (argsL := [(.int p2), (.int (-3 : Int32)), (.ref a3), (.ref a4), (.int p5), (.int p6)]) (rest := []) (lenOf pd__II_B_BII_V rfl) rfl (by show 2 * 0 + _ ≤ _; exact Nat.le_of_eq rfl) (hb hby d4_10) (fun _ _ => ⟨rfl, e0, (by decide : 0 + 0 ≤ _), (by decide : 0 + 0 ≤ _)⟩)
  dsimp only [Pt.U, Pt.locs, Pt.cells, Pt.slots] at X2 l2 y2 z2 st2 hQ2
  subst l2 y2 z2
  obtain ⟨rfl, N2q, K2, Q2_0, Q2_1, Q2_2, Q2_3, Q2_4, Q2_5, Q2_6, Q2_7, Q2_8, Q2_9, Q2_10, Q2_11, Q2_12, Q2_13, Q2_14, Q2_15, Q2_16, Q2_17, Q2_18, Q2_19⟩ := hQ2
  have KK2 : Keep h0 T2.heap [a1, w_position_a1, w_sender_a1, w_value_a1, w_taken_a1, w_slot_a1, w_target_a1] := Keep.trans (Keep.refl h0 [a1, w_position_a1, w_sender_a1, w_value_a1, w_taken_a1, w_slot_a1, w_target_a1]) K2 (allS (Or.inl (mgE 6 rfl)) (allS (Or.inl (mgE 5 rfl)) (allS (Or.inl (mgE 4 rfl)) (allS (Or.inl (mgE 3 rfl)) (allS (Or.inl (mgE 2 rfl)) (allS (Or.inl (mgE 1 rfl)) (allS (Or.inl (mgE 0 rfl)) all0)))))))
  have pre27 : ∀ t, Steps p.tables e below (T2.setTop (mkF m 13 #[.val (.ref a1), .val (.int p2), .val (.ref a3), .val (.ref a4), .val (.int p5), .val (.int p6)] [])) t → Steps p.tables e below (s₁.setTop (entryFrame m #[(.ref a1), (.int p2), (.ref a3), (.ref a4), (.int p5), (.int p6)] 6)) t := fun t kt => pre1 t (st2.trans kt)
  have N2 := Fr.app N0 N2q
  obtain ⟨fs, hr, hrun, hended, hW, hsame⟩ := X2.leave (v := none) (fun _ => rfl)
  refine ⟨_, _, pre27 _ ?_, hrun, hended, _, _, rfl, ?_, ⟨_, rfl⟩, hW, hsame.mono (by decide) (by decide)⟩
  · exact X2.returnOut hx Bd.returns (hb hby d4_13) hr
  · show Q4 Z a1 p2 a3 a4 p5 p6 w_target_a1 w_slot_a1 w_sender_a1 w_position_a1 w_value_a1 w_taken_a1 w_starts_a1 w_grouped_a1 w_next_a1 w_valuesCost_a1 el_w_target_a1 el_w_slot_a1 el_w_sender_a1 el_w_position_a1 el_w_value_a1 el_w_taken_a1 z_a3 el_a3 z_a4 el_a4 h0 n0 _ T2.heap _
    exact ⟨rfl, N2, KK2, Q2_0, Q2_1, Q2_2, Q2_3, Q2_4, Q2_5, Q2_6, Q2_7, Q2_8, Q2_9, Q2_10, Q2_11, Q2_12, Q2_13, Q2_14, Q2_15, Q2_16, Q2_17, Q2_18, Q2_19⟩
theorem d7_0 : decode prog_52_method_2_code 0 = .ok (.aload_n 0, 1) := by decide +kernel
theorem d7_1 : decode prog_52_method_2_code 1 = .ok (.iload_n 1, 1) := by decide +kernel
theorem d7_2 : decode prog_52_method_2_code 2 = .ok (.iload_n 2, 1) := by decide +kernel
theorem d7_3 : decode prog_52_method_2_code 3 = .ok (.aconst_null, 1) := by decide +kernel
theorem d7_4 : decode prog_52_method_2_code 4 = .ok (.aload_n 3, 1) := by decide +kernel
theorem d7_5 : decode prog_52_method_2_code 5 = .ok (.iload 4, 2) := by decide +kernel
theorem d7_7 : decode prog_52_method_2_code 7 = .ok (.iconst (-1), 1) := by decide +kernel
theorem d7_8 : decode prog_52_method_2_code 8 = .ok (.invokevirtual 42, 3) := by decide +kernel
theorem d7_11 : decode prog_52_method_2_code 11 = .ok (.return_, 1) := by decide +kernel
theorem ef_7v (m : MethodId) (x0 : Addr) (x1 : Int32) (x2 : Int32) (x3 : Addr) (x4 : Int32) : entryFrame m #[(.ref x0), (.int x1), (.int x2), (.ref x3), (.int x4)] 5 = mkF m 0 #[.val (.ref x0), .val (.int x1), .val (.int x2), .val (.ref x3), .val (.int x4)] [] := by first | (simp [entryFrame, mkF, argsToLocals, Value.category]; done) | rfl
def Q7v (Z : State) (a1 : Addr) (p2 : Int32) (p3 : Int32) (a4 : Addr) (p5 : Int32) (w_target_a1 : Addr) (w_slot_a1 : Addr) (w_sender_a1 : Addr) (w_position_a1 : Addr) (w_value_a1 : Addr) (w_taken_a1 : Addr) (w_starts_a1 : Addr) (w_grouped_a1 : Addr) (w_next_a1 : Addr) (w_valuesCost_a1 : Int64) (el_w_target_a1 : Nat → Int32) (el_w_slot_a1 : Nat → Int32) (el_w_sender_a1 : Nat → Int32) (el_w_position_a1 : Nat → Int32) (el_w_value_a1 : Nat → Value) (el_w_taken_a1 : Nat → Value) (z_a4 : Int32) (el_a4 : Nat → Int32) (h0 : Heap) (n0 : Nat) (v : Option Value) (h : Heap) (L : List Loc) : Prop := v = none ∧ Fr n0 L ∧ Keep h0 h [a1, w_position_a1, w_sender_a1, w_value_a1, w_taken_a1, w_slot_a1, w_target_a1] ∧ Exa Z h a1 "com/example/accrete/accrete/engine/Sendings" ∧ Fld Z h a1 "com/example/accrete/accrete/engine/Sendings" "grouped" "[I" (.ref w_grouped_a1) ∧ Fld Z h a1 "com/example/accrete/accrete/engine/Sendings" "next" "[I" (.ref w_next_a1) ∧ Fld Z h a1 "com/example/accrete/accrete/engine/Sendings" "position" "[I" (.ref w_position_a1) ∧ Fld Z h a1 "com/example/accrete/accrete/engine/Sendings" "sender" "[I" (.ref w_sender_a1) ∧ Fld Z h a1 "com/example/accrete/accrete/engine/Sendings" "size" "I" (.int (2 : Int32)) ∧ Fld Z h a1 "com/example/accrete/accrete/engine/Sendings" "slot" "[I" (.ref w_slot_a1) ∧ Fld Z h a1 "com/example/accrete/accrete/engine/Sendings" "starts" "[I" (.ref w_starts_a1) ∧ Fld Z h a1 "com/example/accrete/accrete/engine/Sendings" "taken" "[[B" (.ref w_taken_a1) ∧ Fld Z h a1 "com/example/accrete/accrete/engine/Sendings" "target" "[I" (.ref w_target_a1) ∧ Fld Z h a1 "com/example/accrete/accrete/engine/Sendings" "value" "[[B" (.ref w_value_a1) ∧ Fld Z h a1 "com/example/accrete/accrete/engine/Sendings" "valuesCost" "J" (.long (w_valuesCost_a1 + ((0 : Int64) + (((16 : Int32) + z_a4).toInt64)))) ∧ OvcA Z h w_taken_a1 .byte "[B" ∧ OvcA Z h w_value_a1 .byte "[B" ∧ Arf Z h w_position_a1 .int (1024 : Int32) (fun i => (.int ((own_upd el_w_position_a1 ((1 : Int32)).toNatClampNeg (-1 : Int32)) i))) ∧ Arf Z h w_sender_a1 .int (1024 : Int32) (fun i => (.int ((own_upd el_w_sender_a1 ((1 : Int32)).toNatClampNeg p5) i))) ∧ Arf Z h w_slot_a1 .int (1024 : Int32) (fun i => (.int ((own_upd el_w_slot_a1 ((1 : Int32)).toNatClampNeg p3) i))) ∧ Arf Z h w_taken_a1 (.array .byte) (1024 : Int32) (own_upd el_w_taken_a1 ((1 : Int32)).toNatClampNeg Value.null) ∧ Arf Z h w_target_a1 .int (1024 : Int32) (fun i => (.int ((own_upd el_w_target_a1 ((1 : Int32)).toNatClampNeg p2) i))) ∧ Arf Z h w_value_a1 (.array .byte) (1024 : Int32) (own_upd el_w_value_a1 ((1 : Int32)).toNatClampNeg (Value.ref a4))
set_option maxRecDepth 65536 in
set_option maxHeartbeats 40000000 in
theorem rm7v (l : Launch) (Z : State) (a0 : Array Value) (hw : ∀ d ∈ tables_1, d.before a0 Z = true) (ws : List Jvm.Cond) (a1 : Addr) (p2 : Int32) (p3 : Int32) (a4 : Addr) (p5 : Int32) (w_target_a1 : Addr) (w_slot_a1 : Addr) (w_sender_a1 : Addr) (w_position_a1 : Addr) (w_value_a1 : Addr) (w_taken_a1 : Addr) (w_starts_a1 : Addr) (w_grouped_a1 : Addr) (w_next_a1 : Addr) (w_valuesCost_a1 : Int64) (el_w_target_a1 : Nat → Int32) (el_w_slot_a1 : Nat → Int32) (el_w_sender_a1 : Nat → Int32) (el_w_position_a1 : Nat → Int32) (el_w_value_a1 : Nat → Value) (el_w_taken_a1 : Nat → Value) (z_a4 : Int32) (el_a4 : Nat → Int32) (h0 : Heap) (n0 : Nat) (Z0 : n0 ≤ h0.size) (F_size_a1 : Fld Z h0 a1 "com/example/accrete/accrete/engine/Sendings" "size" "I" (.int (1 : Int32))) (F_target_a1 : Fld Z h0 a1 "com/example/accrete/accrete/engine/Sendings" "target" "[I" (.ref w_target_a1)) (F_slot_a1 : Fld Z h0 a1 "com/example/accrete/accrete/engine/Sendings" "slot" "[I" (.ref w_slot_a1)) (F_sender_a1 : Fld Z h0 a1 "com/example/accrete/accrete/engine/Sendings" "sender" "[I" (.ref w_sender_a1)) (F_position_a1 : Fld Z h0 a1 "com/example/accrete/accrete/engine/Sendings" "position" "[I" (.ref w_position_a1)) (F_value_a1 : Fld Z h0 a1 "com/example/accrete/accrete/engine/Sendings" "value" "[[B" (.ref w_value_a1)) (F_taken_a1 : Fld Z h0 a1 "com/example/accrete/accrete/engine/Sendings" "taken" "[[B" (.ref w_taken_a1)) (F_starts_a1 : Fld Z h0 a1 "com/example/accrete/accrete/engine/Sendings" "starts" "[I" (.ref w_starts_a1)) (F_grouped_a1 : Fld Z h0 a1 "com/example/accrete/accrete/engine/Sendings" "grouped" "[I" (.ref w_grouped_a1)) (F_next_a1 : Fld Z h0 a1 "com/example/accrete/accrete/engine/Sendings" "next" "[I" (.ref w_next_a1)) (F_valuesCost_a1 : Fld Z h0 a1 "com/example/accrete/accrete/engine/Sendings" "valuesCost" "J" (.long w_valuesCost_a1)) (V_w_target_a1 : Arf Z h0 w_target_a1 .int (1024 : Int32) (fun i => (.int (el_w_target_a1 i)))) (V_w_slot_a1 : Arf Z h0 w_slot_a1 .int (1024 : Int32) (fun i => (.int (el_w_slot_a1 i)))) (V_w_sender_a1 : Arf Z h0 w_sender_a1 .int (1024 : Int32) (fun i => (.int (el_w_sender_a1 i)))) (V_w_position_a1 : Arf Z h0 w_position_a1 .int (1024 : Int32) (fun i => (.int (el_w_position_a1 i)))) (V_w_value_a1 : Arf Z h0 w_value_a1 (.array .byte) (1024 : Int32) el_w_value_a1) (V_w_taken_a1 : Arf Z h0 w_taken_a1 (.array .byte) (1024 : Int32) el_w_taken_a1) (O_w_value_a1 : OvcA Z h0 w_value_a1 .byte "[B") (O_w_taken_a1 : OvcA Z h0 w_taken_a1 .byte "[B") (g_w_target_a1 : n0 ≤ w_target_a1) (ne_a1_w_target_a1 : a1 ≠ w_target_a1) (ne_w_slot_a1_w_target_a1 : w_slot_a1 ≠ w_target_a1) (ne_w_sender_a1_w_target_a1 : w_sender_a1 ≠ w_target_a1) (ne_w_position_a1_w_target_a1 : w_position_a1 ≠ w_target_a1) (ne_w_value_a1_w_target_a1 : w_value_a1 ≠ w_target_a1) (ne_w_taken_a1_w_target_a1 : w_taken_a1 ≠ w_target_a1) (g_w_slot_a1 : n0 ≤ w_slot_a1) (ne_a1_w_slot_a1 : a1 ≠ w_slot_a1) (ne_w_sender_a1_w_slot_a1 : w_sender_a1 ≠ w_slot_a1) (ne_w_position_a1_w_slot_a1 : w_position_a1 ≠ w_slot_a1) (ne_w_value_a1_w_slot_a1 : w_value_a1 ≠ w_slot_a1) (ne_w_taken_a1_w_slot_a1 : w_taken_a1 ≠ w_slot_a1) (g_w_taken_a1 : n0 ≤ w_taken_a1) (ne_a1_w_taken_a1 : a1 ≠ w_taken_a1) (ne_w_sender_a1_w_taken_a1 : w_sender_a1 ≠ w_taken_a1) (ne_w_position_a1_w_taken_a1 : w_position_a1 ≠ w_taken_a1) (ne_w_value_a1_w_taken_a1 : w_value_a1 ≠ w_taken_a1) (g_w_value_a1 : n0 ≤ w_value_a1) (E_a4 : Exa Z h0 a4 "[B") (ne_a1_w_value_a1 : a1 ≠ w_value_a1) (ne_w_sender_a1_w_value_a1 : w_sender_a1 ≠ w_value_a1) (ne_w_position_a1_w_value_a1 : w_position_a1 ≠ w_value_a1) (g_w_sender_a1 : n0 ≤ w_sender_a1) (ne_a1_w_sender_a1 : a1 ≠ w_sender_a1) (ne_w_position_a1_w_sender_a1 : w_position_a1 ≠ w_sender_a1) (g_w_position_a1 : n0 ≤ w_position_a1) (ne_a1_w_position_a1 : a1 ≠ w_position_a1) (E_a1 : Exa Z h0 a1 "com/example/accrete/accrete/engine/Sendings") (g_a1 : n0 ≤ a1) (V_a4 : Arf Z h0 a4 .byte z_a4 (fun i => (.int (el_a4 i)))) (ne_a4_w_target_a1 : a4 ≠ w_target_a1) (ne_a4_w_slot_a1 : a4 ≠ w_slot_a1) (ne_a4_w_taken_a1 : a4 ≠ w_taken_a1) (ne_a4_w_value_a1 : a4 ≠ w_value_a1) (ne_a4_w_sender_a1 : a4 ≠ w_sender_a1) (ne_a4_w_position_a1 : a4 ≠ w_position_a1) (ne_a4_a1 : a4 ≠ a1) :
    MetFree l (⟨"com/example/accrete/accrete/engine/Sendings", "putInSlot", "(II[BI)V"⟩ : MethodName) (head1 (Jvm.Cond.code (⟨"com/example/accrete/accrete/engine/Sendings", "putInSlot", "(II[BI)V"⟩ : MethodName) prog_52_method_2_code 5 none :: ws) ({ frames := 2, cells := 0, slots := 0, locals := 36 } : Room)) (fun a U => a = #[(.ref a1), (.int p2), (.int p3), (.ref a4), (.int p5)] ∧ Z.Warmed39 U.vm ∧ U.heap = h0) (fun _ _ _ _ _ => True) (fun _ U o U' => ∃ v L, o = .returned v ∧ Q7v Z a1 p2 p3 a4 p5 w_target_a1 w_slot_a1 w_sender_a1 w_position_a1 w_value_a1 w_taken_a1 w_starts_a1 w_grouped_a1 w_next_a1 w_valuesCost_a1 el_w_target_a1 el_w_slot_a1 el_w_sender_a1 el_w_position_a1 el_w_value_a1 el_w_taken_a1 z_a4 el_a4 h0 n0 v U'.heap L ∧ FrameEnd U o U' L ({ frames := 2, cells := 0, slots := 0, locals := 36 } : Room).cells ({ frames := 2, cells := 0, slots := 0, locals := 36 } : Room).slots) := by
  refine MetFree.of_bodySF (plainFor_of_name pn_com_example_accrete_accrete_engine_Sendings) hisR ?_
  intro p e s m args below meth c s₁ Bd hml0 hP hK
  obtain ⟨rfl, hZ, hh⟩ := hP
  have hx := Bd.exec
  have hby := Bd.bytes
  have hml : c.maxLocals = 5 := hml0
  have hown : s.vm.findClass "com/example/accrete/accrete/engine/Sendings" = some m.cls := findClass_of_methodNamed Bd.named
  have hnm := (name_of_methodNamed Bd.named Bd.method).1
  have X0 : Stand p l e ({ frames := 2, cells := 0, slots := 0, locals := 36 } : Room) s m #[(.ref a1), (.int p2), (.int p3), (.ref a4), (.int p5)] below meth c s₁ [] 0 0 := Stand.of_body Bd
  have e0 : s₁.heap = h0 := by rw [← hh, Bd.state]; rfl
  have N0 := Fr.nil n0
  have pre0 : ∀ t, Steps p.tables e below (s₁.setTop (mkF m 0 #[.val (.ref a1), .val (.int p2), .val (.int p3), .val (.ref a4), .val (.int p5)] [])) t → Steps p.tables e below (s₁.setTop (entryFrame m #[(.ref a1), (.int p2), (.int p3), (.ref a4), (.int p5)] 5)) t := fun t k => castTop (ef_7v m a1 p2 p3 a4 p5) k
  have pre1 : ∀ t, Steps p.tables e below (s₁.setTop (mkF m 8 #[.val (.ref a1), .val (.int p2), .val (.int p3), .val (.ref a4), .val (.int p5)] [(.int (-1 : Int32)), (.int p5), (.ref a4), .null, (.int p3), (.int p2), (.ref a1)])) t → Steps p.tables e below (s₁.setTop (entryFrame m #[(.ref a1), (.int p2), (.int p3), (.ref a4), (.int p5)] 5)) t := fun t kt => by
    refine pre0 t ?_
    refine XS.aloadN X0.here hx rfl (hb hby d7_0) rfl rfl ?_
    show Steps p.tables e below (s₁.setTop (mkF m 1 #[.val (.ref a1), .val (.int p2), .val (.int p3), .val (.ref a4), .val (.int p5)] [(.ref a1)])) _
    refine XS.iloadN X0.here hx rfl (hb hby d7_1) rfl ?_
    show Steps p.tables e below (s₁.setTop (mkF m 2 #[.val (.ref a1), .val (.int p2), .val (.int p3), .val (.ref a4), .val (.int p5)] [(.int p2), (.ref a1)])) _
    refine XS.iloadN X0.here hx rfl (hb hby d7_2) rfl ?_
    show Steps p.tables e below (s₁.setTop (mkF m 3 #[.val (.ref a1), .val (.int p2), .val (.int p3), .val (.ref a4), .val (.int p5)] [(.int p3), (.int p2), (.ref a1)])) _
    refine XS.aconstNull X0.here hx rfl (hb hby d7_3) ?_
    show Steps p.tables e below (s₁.setTop (mkF m 4 #[.val (.ref a1), .val (.int p2), .val (.int p3), .val (.ref a4), .val (.int p5)] [.null, (.int p3), (.int p2), (.ref a1)])) _
    refine XS.aloadN X0.here hx rfl (hb hby d7_4) rfl rfl ?_
    show Steps p.tables e below (s₁.setTop (mkF m 5 #[.val (.ref a1), .val (.int p2), .val (.int p3), .val (.ref a4), .val (.int p5)] [(.ref a4), .null, (.int p3), (.int p2), (.ref a1)])) _
    refine XS.iload X0.here hx rfl (hb hby d7_5) rfl ?_
    show Steps p.tables e below (s₁.setTop (mkF m 7 #[.val (.ref a1), .val (.int p2), .val (.int p3), .val (.ref a4), .val (.int p5)] [(.int p5), (.ref a4), .null, (.int p3), (.int p2), (.ref a1)])) _
    refine XS.iconst X0.here hx rfl (hb hby d7_7) ?_
    show Steps p.tables e below (s₁.setTop (mkF m 8 #[.val (.ref a1), .val (.int p2), .val (.int p3), .val (.ref a4), .val (.int p5)] [(.int (-1 : Int32)), (.int p5), (.ref a4), .null, (.int p3), (.int p2), (.ref a1)])) _
    exact kt
  obtain ⟨cq2, q2, q2'⟩ := E_a1.cell
  obtain ⟨_, _, ⟨T2, L2, k2, n2⟩, -, X2, ⟨Lc2, hQ2, l2, y2, z2⟩, st2⟩ := X0.privateBack hx (y := (⟨"com/example/accrete/accrete/engine/Sendings", "add", "(II[B[BII)V"⟩ : MethodName)) hown (mvT hZ (hw _ (mgE 46 rfl))) (mvT hZ (hw _ (mgE 47 rfl))) (own_sel (mvT hZ (hw _ (mgE 3 rfl))) (Cond.privateMethod_at (mvP hZ (hw _ (mgE 48 rfl)) (args := #[]))) (mvT hZ (hw _ (mgE 47 rfl))) (by decide)) (Cond.privateMethod_at (mvP hZ (hw _ (mgE 48 rfl)) (args := #[]))) (mvT hZ (hw _ (mgE 49 rfl))) (by decide) (backOf (W := 0) (rm5s1v l Z a0 hw [] a1 p2 p3 a4 p5 (-1 : Int32) w_target_a1 w_slot_a1 w_sender_a1 w_position_a1 w_value_a1 w_taken_a1 w_starts_a1 w_grouped_a1 w_next_a1 w_valuesCost_a1 el_w_target_a1 el_w_slot_a1 el_w_sender_a1 el_w_position_a1 el_w_value_a1 el_w_taken_a1 z_a4 el_a4 h0 n0 Z0 F_size_a1 F_target_a1 F_slot_a1 F_sender_a1 F_position_a1 F_value_a1 F_taken_a1 F_starts_a1 F_grouped_a1 F_next_a1 F_valuesCost_a1 V_w_target_a1 V_w_slot_a1 V_w_sender_a1 V_w_position_a1 V_w_value_a1 V_w_taken_a1 O_w_value_a1 O_w_taken_a1 g_w_target_a1 ne_a1_w_target_a1 ne_w_slot_a1_w_target_a1 ne_w_sender_a1_w_target_a1 ne_w_position_a1_w_target_a1 ne_w_value_a1_w_target_a1 ne_w_taken_a1_w_target_a1 g_w_slot_a1 ne_a1_w_slot_a1 ne_w_sender_a1_w_slot_a1 ne_w_position_a1_w_slot_a1 ne_w_value_a1_w_slot_a1 ne_w_taken_a1_w_slot_a1 g_w_taken_a1 ne_a1_w_taken_a1 ne_w_sender_a1_w_taken_a1 ne_w_position_a1_w_taken_a1 ne_w_value_a1_w_taken_a1 g_w_value_a1 E_a4 ne_a1_w_value_a1 ne_w_sender_a1_w_value_a1 ne_w_position_a1_w_value_a1 g_w_sender_a1 ne_a1_w_sender_a1 ne_w_position_a1_w_sender_a1 g_w_position_a1 ne_a1_w_position_a1 E_a1 g_a1 V_a4 ne_a4_w_target_a1 ne_a4_w_slot_a1 ne_a4_w_taken_a1 ne_a4_w_value_a1 ne_a4_w_sender_a1 ne_a4_w_position_a1 ne_a4_a1) hZ (hw _ (mgE 49 rfl)) (hw _ (mgE 4 rfl)) (by decide) (by decide)) (g := (mkF m 8 #[.val (.ref a1), .val (.int p2), .val (.int p3), .val (.ref a4), .val (.int p5)] [(.int (-1 : Int32)), (.int p5), (.ref a4), .null, (.int p3), (.int p2), (.ref a1)])) rfl (by rw [hml]; rfl) (Steps.refl _) (a := a1) (by rw [e0]; exact q2) q2' (argsL := [(.int p2), (.int p3), .null, (.ref a4), (.int p5), (.int (-1 : Int32))]) (rest := []) (lenOf pd__II_B_BII_V rfl) rfl (by show 2 * 0 + _ ≤ _; exact Nat.le_of_eq rfl) (hb hby d7_8) (fun _ _ => ⟨rfl, e0, (by decide : 0 + 0 ≤ _), (by decide : 0 + 0 ≤ _)⟩)
  dsimp only [Pt.U, Pt.locs, Pt.cells, Pt.slots] at X2 l2 y2 z2 st2 hQ2
  subst l2 y2 z2
  obtain ⟨rfl, N2q, K2, Q2_0, Q2_1, Q2_2, Q2_3, Q2_4, Q2_5, Q2_6, Q2_7, Q2_8, Q2_9, Q2_10, Q2_11, Q2_12, Q2_13, Q2_14, Q2_15, Q2_16, Q2_17, Q2_18, Q2_19⟩ := hQ2
  have KK2 : Keep h0 T2.heap [a1, w_position_a1, w_sender_a1, w_value_a1, w_taken_a1, w_slot_a1, w_target_a1] := Keep.trans (Keep.refl h0 [a1, w_position_a1, w_sender_a1, w_value_a1, w_taken_a1, w_slot_a1, w_target_a1]) K2 (allS (Or.inl (mgE 6 rfl)) (allS (Or.inl (mgE 5 rfl)) (allS (Or.inl (mgE 4 rfl)) (allS (Or.inl (mgE 3 rfl)) (allS (Or.inl (mgE 2 rfl)) (allS (Or.inl (mgE 1 rfl)) (allS (Or.inl (mgE 0 rfl)) all0)))))))
  have pre25 : ∀ t, Steps p.tables e below (T2.setTop (mkF m 11 #[.val (.ref a1), .val (.int p2), .val (.int p3), .val (.ref a4), .val (.int p5)] [])) t → Steps p.tables e below (s₁.setTop (entryFrame m #[(.ref a1), (.int p2), (.int p3), (.ref a4), (.int p5)] 5)) t := fun t kt => pre1 t (st2.trans kt)
  have N2 := Fr.app N0 N2q
  obtain ⟨fs, hr, hrun, hended, hW, hsame⟩ := X2.leave (v := none) (fun _ => rfl)
  refine ⟨_, _, pre25 _ ?_, hrun, hended, _, _, rfl, ?_, ⟨_, rfl⟩, hW, hsame.mono (by decide) (by decide)⟩
  · exact X2.returnOut hx Bd.returns (hb hby d7_11) hr
  · show Q7v Z a1 p2 p3 a4 p5 w_target_a1 w_slot_a1 w_sender_a1 w_position_a1 w_value_a1 w_taken_a1 w_starts_a1 w_grouped_a1 w_next_a1 w_valuesCost_a1 el_w_target_a1 el_w_slot_a1 el_w_sender_a1 el_w_position_a1 el_w_value_a1 el_w_taken_a1 z_a4 el_a4 h0 n0 _ T2.heap _
    exact ⟨rfl, N2, KK2, Q2_0, Q2_1, Q2_2, Q2_3, Q2_4, Q2_5, Q2_6, Q2_7, Q2_8, Q2_9, Q2_10, Q2_11, Q2_12, Q2_13, Q2_14, Q2_15, Q2_16, Q2_17, Q2_18, Q2_19⟩
theorem ef_7n (m : MethodId) (x0 : Addr) (x1 : Int32) (x2 : Int32) (x4 : Int32) : entryFrame m #[(.ref x0), (.int x1), (.int x2), .null, (.int x4)] 5 = mkF m 0 #[.val (.ref x0), .val (.int x1), .val (.int x2), .val .null, .val (.int x4)] [] := by first | (simp [entryFrame, mkF, argsToLocals, Value.category]; done) | rfl
def Q7n (Z : State) (a1 : Addr) (p2 : Int32) (p3 : Int32) (p5 : Int32) (w_target_a1 : Addr) (w_slot_a1 : Addr) (w_sender_a1 : Addr) (w_position_a1 : Addr) (w_value_a1 : Addr) (w_taken_a1 : Addr) (w_starts_a1 : Addr) (w_grouped_a1 : Addr) (w_next_a1 : Addr) (w_valuesCost_a1 : Int64) (el_w_target_a1 : Nat → Int32) (el_w_slot_a1 : Nat → Int32) (el_w_sender_a1 : Nat → Int32) (el_w_position_a1 : Nat → Int32) (el_w_value_a1 : Nat → Value) (el_w_taken_a1 : Nat → Value) (h0 : Heap) (n0 : Nat) (v : Option Value) (h : Heap) (L : List Loc) : Prop := v = none ∧ Fr n0 L ∧ Keep h0 h [a1, w_position_a1, w_sender_a1, w_value_a1, w_taken_a1, w_slot_a1, w_target_a1] ∧ Exa Z h a1 "com/example/accrete/accrete/engine/Sendings" ∧ Fld Z h a1 "com/example/accrete/accrete/engine/Sendings" "grouped" "[I" (.ref w_grouped_a1) ∧ Fld Z h a1 "com/example/accrete/accrete/engine/Sendings" "next" "[I" (.ref w_next_a1) ∧ Fld Z h a1 "com/example/accrete/accrete/engine/Sendings" "position" "[I" (.ref w_position_a1) ∧ Fld Z h a1 "com/example/accrete/accrete/engine/Sendings" "sender" "[I" (.ref w_sender_a1) ∧ Fld Z h a1 "com/example/accrete/accrete/engine/Sendings" "size" "I" (.int (2 : Int32)) ∧ Fld Z h a1 "com/example/accrete/accrete/engine/Sendings" "slot" "[I" (.ref w_slot_a1) ∧ Fld Z h a1 "com/example/accrete/accrete/engine/Sendings" "starts" "[I" (.ref w_starts_a1) ∧ Fld Z h a1 "com/example/accrete/accrete/engine/Sendings" "taken" "[[B" (.ref w_taken_a1) ∧ Fld Z h a1 "com/example/accrete/accrete/engine/Sendings" "target" "[I" (.ref w_target_a1) ∧ Fld Z h a1 "com/example/accrete/accrete/engine/Sendings" "value" "[[B" (.ref w_value_a1) ∧ Fld Z h a1 "com/example/accrete/accrete/engine/Sendings" "valuesCost" "J" (.long (w_valuesCost_a1 + (0 : Int64))) ∧ OvcA Z h w_taken_a1 .byte "[B" ∧ OvcA Z h w_value_a1 .byte "[B" ∧ Arf Z h w_position_a1 .int (1024 : Int32) (fun i => (.int ((own_upd el_w_position_a1 ((1 : Int32)).toNatClampNeg (-1 : Int32)) i))) ∧ Arf Z h w_sender_a1 .int (1024 : Int32) (fun i => (.int ((own_upd el_w_sender_a1 ((1 : Int32)).toNatClampNeg p5) i))) ∧ Arf Z h w_slot_a1 .int (1024 : Int32) (fun i => (.int ((own_upd el_w_slot_a1 ((1 : Int32)).toNatClampNeg p3) i))) ∧ Arf Z h w_taken_a1 (.array .byte) (1024 : Int32) (own_upd el_w_taken_a1 ((1 : Int32)).toNatClampNeg Value.null) ∧ Arf Z h w_target_a1 .int (1024 : Int32) (fun i => (.int ((own_upd el_w_target_a1 ((1 : Int32)).toNatClampNeg p2) i))) ∧ Arf Z h w_value_a1 (.array .byte) (1024 : Int32) (own_upd el_w_value_a1 ((1 : Int32)).toNatClampNeg Value.null)
set_option maxRecDepth 65536 in
set_option maxHeartbeats 40000000 in
theorem rm7n (l : Launch) (Z : State) (a0 : Array Value) (hw : ∀ d ∈ tables_1, d.before a0 Z = true) (ws : List Jvm.Cond) (a1 : Addr) (p2 : Int32) (p3 : Int32) (p5 : Int32) (w_target_a1 : Addr) (w_slot_a1 : Addr) (w_sender_a1 : Addr) (w_position_a1 : Addr) (w_value_a1 : Addr) (w_taken_a1 : Addr) (w_starts_a1 : Addr) (w_grouped_a1 : Addr) (w_next_a1 : Addr) (w_valuesCost_a1 : Int64) (el_w_target_a1 : Nat → Int32) (el_w_slot_a1 : Nat → Int32) (el_w_sender_a1 : Nat → Int32) (el_w_position_a1 : Nat → Int32) (el_w_value_a1 : Nat → Value) (el_w_taken_a1 : Nat → Value) (h0 : Heap) (n0 : Nat) (Z0 : n0 ≤ h0.size) (F_size_a1 : Fld Z h0 a1 "com/example/accrete/accrete/engine/Sendings" "size" "I" (.int (1 : Int32))) (F_target_a1 : Fld Z h0 a1 "com/example/accrete/accrete/engine/Sendings" "target" "[I" (.ref w_target_a1)) (F_slot_a1 : Fld Z h0 a1 "com/example/accrete/accrete/engine/Sendings" "slot" "[I" (.ref w_slot_a1)) (F_sender_a1 : Fld Z h0 a1 "com/example/accrete/accrete/engine/Sendings" "sender" "[I" (.ref w_sender_a1)) (F_position_a1 : Fld Z h0 a1 "com/example/accrete/accrete/engine/Sendings" "position" "[I" (.ref w_position_a1)) (F_value_a1 : Fld Z h0 a1 "com/example/accrete/accrete/engine/Sendings" "value" "[[B" (.ref w_value_a1)) (F_taken_a1 : Fld Z h0 a1 "com/example/accrete/accrete/engine/Sendings" "taken" "[[B" (.ref w_taken_a1)) (F_starts_a1 : Fld Z h0 a1 "com/example/accrete/accrete/engine/Sendings" "starts" "[I" (.ref w_starts_a1)) (F_grouped_a1 : Fld Z h0 a1 "com/example/accrete/accrete/engine/Sendings" "grouped" "[I" (.ref w_grouped_a1)) (F_next_a1 : Fld Z h0 a1 "com/example/accrete/accrete/engine/Sendings" "next" "[I" (.ref w_next_a1)) (F_valuesCost_a1 : Fld Z h0 a1 "com/example/accrete/accrete/engine/Sendings" "valuesCost" "J" (.long w_valuesCost_a1)) (V_w_target_a1 : Arf Z h0 w_target_a1 .int (1024 : Int32) (fun i => (.int (el_w_target_a1 i)))) (V_w_slot_a1 : Arf Z h0 w_slot_a1 .int (1024 : Int32) (fun i => (.int (el_w_slot_a1 i)))) (V_w_sender_a1 : Arf Z h0 w_sender_a1 .int (1024 : Int32) (fun i => (.int (el_w_sender_a1 i)))) (V_w_position_a1 : Arf Z h0 w_position_a1 .int (1024 : Int32) (fun i => (.int (el_w_position_a1 i)))) (V_w_value_a1 : Arf Z h0 w_value_a1 (.array .byte) (1024 : Int32) el_w_value_a1) (V_w_taken_a1 : Arf Z h0 w_taken_a1 (.array .byte) (1024 : Int32) el_w_taken_a1) (O_w_value_a1 : OvcA Z h0 w_value_a1 .byte "[B") (O_w_taken_a1 : OvcA Z h0 w_taken_a1 .byte "[B") (g_w_target_a1 : n0 ≤ w_target_a1) (ne_a1_w_target_a1 : a1 ≠ w_target_a1) (ne_w_slot_a1_w_target_a1 : w_slot_a1 ≠ w_target_a1) (ne_w_sender_a1_w_target_a1 : w_sender_a1 ≠ w_target_a1) (ne_w_position_a1_w_target_a1 : w_position_a1 ≠ w_target_a1) (ne_w_value_a1_w_target_a1 : w_value_a1 ≠ w_target_a1) (ne_w_taken_a1_w_target_a1 : w_taken_a1 ≠ w_target_a1) (g_w_slot_a1 : n0 ≤ w_slot_a1) (ne_a1_w_slot_a1 : a1 ≠ w_slot_a1) (ne_w_sender_a1_w_slot_a1 : w_sender_a1 ≠ w_slot_a1) (ne_w_position_a1_w_slot_a1 : w_position_a1 ≠ w_slot_a1) (ne_w_value_a1_w_slot_a1 : w_value_a1 ≠ w_slot_a1) (ne_w_taken_a1_w_slot_a1 : w_taken_a1 ≠ w_slot_a1) (g_w_taken_a1 : n0 ≤ w_taken_a1) (ne_a1_w_taken_a1 : a1 ≠ w_taken_a1) (ne_w_sender_a1_w_taken_a1 : w_sender_a1 ≠ w_taken_a1) (ne_w_position_a1_w_taken_a1 : w_position_a1 ≠ w_taken_a1) (ne_w_value_a1_w_taken_a1 : w_value_a1 ≠ w_taken_a1) (g_w_value_a1 : n0 ≤ w_value_a1) (ne_a1_w_value_a1 : a1 ≠ w_value_a1) (ne_w_sender_a1_w_value_a1 : w_sender_a1 ≠ w_value_a1) (ne_w_position_a1_w_value_a1 : w_position_a1 ≠ w_value_a1) (g_w_sender_a1 : n0 ≤ w_sender_a1) (ne_a1_w_sender_a1 : a1 ≠ w_sender_a1) (ne_w_position_a1_w_sender_a1 : w_position_a1 ≠ w_sender_a1) (g_w_position_a1 : n0 ≤ w_position_a1) (ne_a1_w_position_a1 : a1 ≠ w_position_a1) (E_a1 : Exa Z h0 a1 "com/example/accrete/accrete/engine/Sendings") (g_a1 : n0 ≤ a1) :
    MetFree l (⟨"com/example/accrete/accrete/engine/Sendings", "putInSlot", "(II[BI)V"⟩ : MethodName) (head1 (Jvm.Cond.code (⟨"com/example/accrete/accrete/engine/Sendings", "putInSlot", "(II[BI)V"⟩ : MethodName) prog_52_method_2_code 5 none :: ws) ({ frames := 2, cells := 0, slots := 0, locals := 36 } : Room)) (fun a U => a = #[(.ref a1), (.int p2), (.int p3), .null, (.int p5)] ∧ Z.Warmed39 U.vm ∧ U.heap = h0) (fun _ _ _ _ _ => True) (fun _ U o U' => ∃ v L, o = .returned v ∧ Q7n Z a1 p2 p3 p5 w_target_a1 w_slot_a1 w_sender_a1 w_position_a1 w_value_a1 w_taken_a1 w_starts_a1 w_grouped_a1 w_next_a1 w_valuesCost_a1 el_w_target_a1 el_w_slot_a1 el_w_sender_a1 el_w_position_a1 el_w_value_a1 el_w_taken_a1 h0 n0 v U'.heap L ∧ FrameEnd U o U' L ({ frames := 2, cells := 0, slots := 0, locals := 36 } : Room).cells ({ frames := 2, cells := 0, slots := 0, locals := 36 } : Room).slots) := by
  refine MetFree.of_bodySF (plainFor_of_name pn_com_example_accrete_accrete_engine_Sendings) hisR ?_
  intro p e s m args below meth c s₁ Bd hml0 hP hK
  obtain ⟨rfl, hZ, hh⟩ := hP
  have hx := Bd.exec
  have hby := Bd.bytes
  have hml : c.maxLocals = 5 := hml0
  have hown : s.vm.findClass "com/example/accrete/accrete/engine/Sendings" = some m.cls := findClass_of_methodNamed Bd.named
  have hnm := (name_of_methodNamed Bd.named Bd.method).1
  have X0 : Stand p l e ({ frames := 2, cells := 0, slots := 0, locals := 36 } : Room) s m #[(.ref a1), (.int p2), (.int p3), .null, (.int p5)] below meth c s₁ [] 0 0 := Stand.of_body Bd
  have e0 : s₁.heap = h0 := by rw [← hh, Bd.state]; rfl
  have N0 := Fr.nil n0
  have pre0 : ∀ t, Steps p.tables e below (s₁.setTop (mkF m 0 #[.val (.ref a1), .val (.int p2), .val (.int p3), .val .null, .val (.int p5)] [])) t → Steps p.tables e below (s₁.setTop (entryFrame m #[(.ref a1), (.int p2), (.int p3), .null, (.int p5)] 5)) t := fun t k => castTop (ef_7n m a1 p2 p3 p5) k
  have pre1 : ∀ t, Steps p.tables e below (s₁.setTop (mkF m 8 #[.val (.ref a1), .val (.int p2), .val (.int p3), .val .null, .val (.int p5)] [(.int (-1 : Int32)), (.int p5), .null, .null, (.int p3), (.int p2), (.ref a1)])) t → Steps p.tables e below (s₁.setTop (entryFrame m #[(.ref a1), (.int p2), (.int p3), .null, (.int p5)] 5)) t := fun t kt => by
    refine pre0 t ?_
    refine XS.aloadN X0.here hx rfl (hb hby d7_0) rfl rfl ?_
    show Steps p.tables e below (s₁.setTop (mkF m 1 #[.val (.ref a1), .val (.int p2), .val (.int p3), .val .null, .val (.int p5)] [(.ref a1)])) _
    refine XS.iloadN X0.here hx rfl (hb hby d7_1) rfl ?_
    show Steps p.tables e below (s₁.setTop (mkF m 2 #[.val (.ref a1), .val (.int p2), .val (.int p3), .val .null, .val (.int p5)] [(.int p2), (.ref a1)])) _
    refine XS.iloadN X0.here hx rfl (hb hby d7_2) rfl ?_
    show Steps p.tables e below (s₁.setTop (mkF m 3 #[.val (.ref a1), .val (.int p2), .val (.int p3), .val .null, .val (.int p5)] [(.int p3), (.int p2), (.ref a1)])) _
    refine XS.aconstNull X0.here hx rfl (hb hby d7_3) ?_
    show Steps p.tables e below (s₁.setTop (mkF m 4 #[.val (.ref a1), .val (.int p2), .val (.int p3), .val .null, .val (.int p5)] [.null, (.int p3), (.int p2), (.ref a1)])) _
    refine XS.aloadN X0.here hx rfl (hb hby d7_4) rfl rfl ?_
    show Steps p.tables e below (s₁.setTop (mkF m 5 #[.val (.ref a1), .val (.int p2), .val (.int p3), .val .null, .val (.int p5)] [.null, .null, (.int p3), (.int p2), (.ref a1)])) _
    refine XS.iload X0.here hx rfl (hb hby d7_5) rfl ?_
    show Steps p.tables e below (s₁.setTop (mkF m 7 #[.val (.ref a1), .val (.int p2), .val (.int p3), .val .null, .val (.int p5)] [(.int p5), .null, .null, (.int p3), (.int p2), (.ref a1)])) _
    refine XS.iconst X0.here hx rfl (hb hby d7_7) ?_
    show Steps p.tables e below (s₁.setTop (mkF m 8 #[.val (.ref a1), .val (.int p2), .val (.int p3), .val .null, .val (.int p5)] [(.int (-1 : Int32)), (.int p5), .null, .null, (.int p3), (.int p2), (.ref a1)])) _
    exact kt
  obtain ⟨cq2, q2, q2'⟩ := E_a1.cell
  obtain ⟨_, _, ⟨T2, L2, k2, n2⟩, -, X2, ⟨Lc2, hQ2, l2, y2, z2⟩, st2⟩ := X0.privateBack hx (y := (⟨"com/example/accrete/accrete/engine/Sendings", "add", "(II[B[BII)V"⟩ : MethodName)) hown (mvT hZ (hw _ (mgE 46 rfl))) (mvT hZ (hw _ (mgE 47 rfl))) (own_sel (mvT hZ (hw _ (mgE 3 rfl))) (Cond.privateMethod_at (mvP hZ (hw _ (mgE 48 rfl)) (args := #[]))) (mvT hZ (hw _ (mgE 47 rfl))) (by decide)) (Cond.privateMethod_at (mvP hZ (hw _ (mgE 48 rfl)) (args := #[]))) (mvT hZ (hw _ (mgE 49 rfl))) (by decide) (backOf (W := 0) (rm5s1n l Z a0 hw [] a1 p2 p3 p5 (-1 : Int32) w_target_a1 w_slot_a1 w_sender_a1 w_position_a1 w_value_a1 w_taken_a1 w_starts_a1 w_grouped_a1 w_next_a1 w_valuesCost_a1 el_w_target_a1 el_w_slot_a1 el_w_sender_a1 el_w_position_a1 el_w_value_a1 el_w_taken_a1 h0 n0 Z0 F_size_a1 F_target_a1 F_slot_a1 F_sender_a1 F_position_a1 F_value_a1 F_taken_a1 F_starts_a1 F_grouped_a1 F_next_a1 F_valuesCost_a1 V_w_target_a1 V_w_slot_a1 V_w_sender_a1 V_w_position_a1 V_w_value_a1 V_w_taken_a1 O_w_value_a1 O_w_taken_a1 g_w_target_a1 ne_a1_w_target_a1 ne_w_slot_a1_w_target_a1 ne_w_sender_a1_w_target_a1 ne_w_position_a1_w_target_a1 ne_w_value_a1_w_target_a1 ne_w_taken_a1_w_target_a1 g_w_slot_a1 ne_a1_w_slot_a1 ne_w_sender_a1_w_slot_a1 ne_w_position_a1_w_slot_a1 ne_w_value_a1_w_slot_a1 ne_w_taken_a1_w_slot_a1 g_w_taken_a1 ne_a1_w_taken_a1 ne_w_sender_a1_w_taken_a1 ne_w_position_a1_w_taken_a1 ne_w_value_a1_w_taken_a1 g_w_value_a1 ne_a1_w_value_a1 ne_w_sender_a1_w_value_a1 ne_w_position_a1_w_value_a1 g_w_sender_a1 ne_a1_w_sender_a1 ne_w_position_a1_w_sender_a1 g_w_position_a1 ne_a1_w_position_a1 E_a1 g_a1) hZ (hw _ (mgE 49 rfl)) (hw _ (mgE 4 rfl)) (by decide) (by decide)) (g := (mkF m 8 #[.val (.ref a1), .val (.int p2), .val (.int p3), .val .null, .val (.int p5)] [(.int (-1 : Int32)), (.int p5), .null, .null, (.int p3), (.int p2), (.ref a1)])) rfl (by rw [hml]; rfl) (Steps.refl _) (a := a1) (by rw [e0]; exact q2) q2' (argsL := [(.int p2), (.int p3), .null, .null, (.int p5), (.int (-1 : Int32))]) (rest := []) (lenOf pd__II_B_BII_V rfl) rfl (by show 2 * 0 + _ ≤ _; exact Nat.le_of_eq rfl) (hb hby d7_8) (fun _ _ => ⟨rfl, e0, (by decide : 0 + 0 ≤ _), (by decide : 0 + 0 ≤ _)⟩)
  dsimp only [Pt.U, Pt.locs, Pt.cells, Pt.slots] at X2 l2 y2 z2 st2 hQ2
  subst l2 y2 z2
  obtain ⟨rfl, N2q, K2, Q2_0, Q2_1, Q2_2, Q2_3, Q2_4, Q2_5, Q2_6, Q2_7, Q2_8, Q2_9, Q2_10, Q2_11, Q2_12, Q2_13, Q2_14, Q2_15, Q2_16, Q2_17, Q2_18, Q2_19⟩ := hQ2
  have KK2 : Keep h0 T2.heap [a1, w_position_a1, w_sender_a1, w_value_a1, w_taken_a1, w_slot_a1, w_target_a1] := Keep.trans (Keep.refl h0 [a1, w_position_a1, w_sender_a1, w_value_a1, w_taken_a1, w_slot_a1, w_target_a1]) K2 (allS (Or.inl (mgE 6 rfl)) (allS (Or.inl (mgE 5 rfl)) (allS (Or.inl (mgE 4 rfl)) (allS (Or.inl (mgE 3 rfl)) (allS (Or.inl (mgE 2 rfl)) (allS (Or.inl (mgE 1 rfl)) (allS (Or.inl (mgE 0 rfl)) all0)))))))
  have pre23 : ∀ t, Steps p.tables e below (T2.setTop (mkF m 11 #[.val (.ref a1), .val (.int p2), .val (.int p3), .val .null, .val (.int p5)] [])) t → Steps p.tables e below (s₁.setTop (entryFrame m #[(.ref a1), (.int p2), (.int p3), .null, (.int p5)] 5)) t := fun t kt => pre1 t (st2.trans kt)
  have N2 := Fr.app N0 N2q
  obtain ⟨fs, hr, hrun, hended, hW, hsame⟩ := X2.leave (v := none) (fun _ => rfl)
  refine ⟨_, _, pre23 _ ?_, hrun, hended, _, _, rfl, ?_, ⟨_, rfl⟩, hW, hsame.mono (by decide) (by decide)⟩
  · exact X2.returnOut hx Bd.returns (hb hby d7_11) hr
  · show Q7n Z a1 p2 p3 p5 w_target_a1 w_slot_a1 w_sender_a1 w_position_a1 w_value_a1 w_taken_a1 w_starts_a1 w_grouped_a1 w_next_a1 w_valuesCost_a1 el_w_target_a1 el_w_slot_a1 el_w_sender_a1 el_w_position_a1 el_w_value_a1 el_w_taken_a1 h0 n0 _ T2.heap _
    exact ⟨rfl, N2, KK2, Q2_0, Q2_1, Q2_2, Q2_3, Q2_4, Q2_5, Q2_6, Q2_7, Q2_8, Q2_9, Q2_10, Q2_11, Q2_12, Q2_13, Q2_14, Q2_15, Q2_16, Q2_17, Q2_18, Q2_19⟩
theorem d8_0 : decode prog_52_method_3_code 0 = .ok (.aload_n 0, 1) := by decide +kernel
theorem d8_1 : decode prog_52_method_3_code 1 = .ok (.iload_n 1, 1) := by decide +kernel
theorem d8_2 : decode prog_52_method_3_code 2 = .ok (.iconst (-1), 1) := by decide +kernel
theorem d8_3 : decode prog_52_method_3_code 3 = .ok (.aconst_null, 1) := by decide +kernel
theorem d8_4 : decode prog_52_method_3_code 4 = .ok (.aload_n 2, 1) := by decide +kernel
theorem d8_5 : decode prog_52_method_3_code 5 = .ok (.iload_n 3, 1) := by decide +kernel
theorem d8_6 : decode prog_52_method_3_code 6 = .ok (.iconst (-1), 1) := by decide +kernel
theorem d8_7 : decode prog_52_method_3_code 7 = .ok (.invokevirtual 42, 3) := by decide +kernel
theorem d8_10 : decode prog_52_method_3_code 10 = .ok (.return_, 1) := by decide +kernel
theorem ef_8 (m : MethodId) (x0 : Addr) (x1 : Int32) (x2 : Addr) (x3 : Int32) : entryFrame m #[(.ref x0), (.int x1), (.ref x2), (.int x3)] 4 = mkF m 0 #[.val (.ref x0), .val (.int x1), .val (.ref x2), .val (.int x3)] [] := by first | (simp [entryFrame, mkF, argsToLocals, Value.category]; done) | rfl
def Q8 (Z : State) (a1 : Addr) (p2 : Int32) (a3 : Addr) (p4 : Int32) (w_target_a1 : Addr) (w_slot_a1 : Addr) (w_sender_a1 : Addr) (w_position_a1 : Addr) (w_value_a1 : Addr) (w_taken_a1 : Addr) (w_starts_a1 : Addr) (w_grouped_a1 : Addr) (w_next_a1 : Addr) (w_valuesCost_a1 : Int64) (el_w_target_a1 : Nat → Int32) (el_w_slot_a1 : Nat → Int32) (el_w_sender_a1 : Nat → Int32) (el_w_position_a1 : Nat → Int32) (el_w_value_a1 : Nat → Value) (el_w_taken_a1 : Nat → Value) (z_a3 : Int32) (el_a3 : Nat → Int32) (h0 : Heap) (n0 : Nat) (v : Option Value) (h : Heap) (L : List Loc) : Prop := v = none ∧ Fr n0 L ∧ Keep h0 h [a1, w_position_a1, w_sender_a1, w_value_a1, w_taken_a1, w_slot_a1, w_target_a1] ∧ Exa Z h a1 "com/example/accrete/accrete/engine/Sendings" ∧ Fld Z h a1 "com/example/accrete/accrete/engine/Sendings" "grouped" "[I" (.ref w_grouped_a1) ∧ Fld Z h a1 "com/example/accrete/accrete/engine/Sendings" "next" "[I" (.ref w_next_a1) ∧ Fld Z h a1 "com/example/accrete/accrete/engine/Sendings" "position" "[I" (.ref w_position_a1) ∧ Fld Z h a1 "com/example/accrete/accrete/engine/Sendings" "sender" "[I" (.ref w_sender_a1) ∧ Fld Z h a1 "com/example/accrete/accrete/engine/Sendings" "size" "I" (.int (3 : Int32)) ∧ Fld Z h a1 "com/example/accrete/accrete/engine/Sendings" "slot" "[I" (.ref w_slot_a1) ∧ Fld Z h a1 "com/example/accrete/accrete/engine/Sendings" "starts" "[I" (.ref w_starts_a1) ∧ Fld Z h a1 "com/example/accrete/accrete/engine/Sendings" "taken" "[[B" (.ref w_taken_a1) ∧ Fld Z h a1 "com/example/accrete/accrete/engine/Sendings" "target" "[I" (.ref w_target_a1) ∧ Fld Z h a1 "com/example/accrete/accrete/engine/Sendings" "value" "[[B" (.ref w_value_a1) ∧ Fld Z h a1 "com/example/accrete/accrete/engine/Sendings" "valuesCost" "J" (.long (w_valuesCost_a1 + ((0 : Int64) + (((16 : Int32) + z_a3).toInt64)))) ∧ OvcA Z h w_taken_a1 .byte "[B" ∧ OvcA Z h w_value_a1 .byte "[B" ∧ Arf Z h w_position_a1 .int (1024 : Int32) (fun i => (.int ((own_upd el_w_position_a1 ((2 : Int32)).toNatClampNeg (-1 : Int32)) i))) ∧ Arf Z h w_sender_a1 .int (1024 : Int32) (fun i => (.int ((own_upd el_w_sender_a1 ((2 : Int32)).toNatClampNeg p4) i))) ∧ Arf Z h w_slot_a1 .int (1024 : Int32) (fun i => (.int ((own_upd el_w_slot_a1 ((2 : Int32)).toNatClampNeg (-1 : Int32)) i))) ∧ Arf Z h w_taken_a1 (.array .byte) (1024 : Int32) (own_upd el_w_taken_a1 ((2 : Int32)).toNatClampNeg Value.null) ∧ Arf Z h w_target_a1 .int (1024 : Int32) (fun i => (.int ((own_upd el_w_target_a1 ((2 : Int32)).toNatClampNeg p2) i))) ∧ Arf Z h w_value_a1 (.array .byte) (1024 : Int32) (own_upd el_w_value_a1 ((2 : Int32)).toNatClampNeg (Value.ref a3))
set_option maxRecDepth 65536 in
set_option maxHeartbeats 40000000 in
theorem rm8 (l : Launch) (Z : State) (a0 : Array Value) (hw : ∀ d ∈ tables_1, d.before a0 Z = true) (ws : List Jvm.Cond) (a1 : Addr) (p2 : Int32) (a3 : Addr) (p4 : Int32) (w_target_a1 : Addr) (w_slot_a1 : Addr) (w_sender_a1 : Addr) (w_position_a1 : Addr) (w_value_a1 : Addr) (w_taken_a1 : Addr) (w_starts_a1 : Addr) (w_grouped_a1 : Addr) (w_next_a1 : Addr) (w_valuesCost_a1 : Int64) (el_w_target_a1 : Nat → Int32) (el_w_slot_a1 : Nat → Int32) (el_w_sender_a1 : Nat → Int32) (el_w_position_a1 : Nat → Int32) (el_w_value_a1 : Nat → Value) (el_w_taken_a1 : Nat → Value) (z_a3 : Int32) (el_a3 : Nat → Int32) (h0 : Heap) (n0 : Nat) (Z0 : n0 ≤ h0.size) (F_size_a1 : Fld Z h0 a1 "com/example/accrete/accrete/engine/Sendings" "size" "I" (.int (2 : Int32))) (F_target_a1 : Fld Z h0 a1 "com/example/accrete/accrete/engine/Sendings" "target" "[I" (.ref w_target_a1)) (F_slot_a1 : Fld Z h0 a1 "com/example/accrete/accrete/engine/Sendings" "slot" "[I" (.ref w_slot_a1)) (F_sender_a1 : Fld Z h0 a1 "com/example/accrete/accrete/engine/Sendings" "sender" "[I" (.ref w_sender_a1)) (F_position_a1 : Fld Z h0 a1 "com/example/accrete/accrete/engine/Sendings" "position" "[I" (.ref w_position_a1)) (F_value_a1 : Fld Z h0 a1 "com/example/accrete/accrete/engine/Sendings" "value" "[[B" (.ref w_value_a1)) (F_taken_a1 : Fld Z h0 a1 "com/example/accrete/accrete/engine/Sendings" "taken" "[[B" (.ref w_taken_a1)) (F_starts_a1 : Fld Z h0 a1 "com/example/accrete/accrete/engine/Sendings" "starts" "[I" (.ref w_starts_a1)) (F_grouped_a1 : Fld Z h0 a1 "com/example/accrete/accrete/engine/Sendings" "grouped" "[I" (.ref w_grouped_a1)) (F_next_a1 : Fld Z h0 a1 "com/example/accrete/accrete/engine/Sendings" "next" "[I" (.ref w_next_a1)) (F_valuesCost_a1 : Fld Z h0 a1 "com/example/accrete/accrete/engine/Sendings" "valuesCost" "J" (.long w_valuesCost_a1)) (V_w_target_a1 : Arf Z h0 w_target_a1 .int (1024 : Int32) (fun i => (.int (el_w_target_a1 i)))) (V_w_slot_a1 : Arf Z h0 w_slot_a1 .int (1024 : Int32) (fun i => (.int (el_w_slot_a1 i)))) (V_w_sender_a1 : Arf Z h0 w_sender_a1 .int (1024 : Int32) (fun i => (.int (el_w_sender_a1 i)))) (V_w_position_a1 : Arf Z h0 w_position_a1 .int (1024 : Int32) (fun i => (.int (el_w_position_a1 i)))) (V_w_value_a1 : Arf Z h0 w_value_a1 (.array .byte) (1024 : Int32) el_w_value_a1) (V_w_taken_a1 : Arf Z h0 w_taken_a1 (.array .byte) (1024 : Int32) el_w_taken_a1) (O_w_value_a1 : OvcA Z h0 w_value_a1 .byte "[B") (O_w_taken_a1 : OvcA Z h0 w_taken_a1 .byte "[B") (g_w_target_a1 : n0 ≤ w_target_a1) (ne_a1_w_target_a1 : a1 ≠ w_target_a1) (ne_w_slot_a1_w_target_a1 : w_slot_a1 ≠ w_target_a1) (ne_w_sender_a1_w_target_a1 : w_sender_a1 ≠ w_target_a1) (ne_w_position_a1_w_target_a1 : w_position_a1 ≠ w_target_a1) (ne_w_value_a1_w_target_a1 : w_value_a1 ≠ w_target_a1) (ne_w_taken_a1_w_target_a1 : w_taken_a1 ≠ w_target_a1) (g_w_slot_a1 : n0 ≤ w_slot_a1) (ne_a1_w_slot_a1 : a1 ≠ w_slot_a1) (ne_w_sender_a1_w_slot_a1 : w_sender_a1 ≠ w_slot_a1) (ne_w_position_a1_w_slot_a1 : w_position_a1 ≠ w_slot_a1) (ne_w_value_a1_w_slot_a1 : w_value_a1 ≠ w_slot_a1) (ne_w_taken_a1_w_slot_a1 : w_taken_a1 ≠ w_slot_a1) (g_w_taken_a1 : n0 ≤ w_taken_a1) (ne_a1_w_taken_a1 : a1 ≠ w_taken_a1) (ne_w_sender_a1_w_taken_a1 : w_sender_a1 ≠ w_taken_a1) (ne_w_position_a1_w_taken_a1 : w_position_a1 ≠ w_taken_a1) (ne_w_value_a1_w_taken_a1 : w_value_a1 ≠ w_taken_a1) (g_w_value_a1 : n0 ≤ w_value_a1) (E_a3 : Exa Z h0 a3 "[B") (ne_a1_w_value_a1 : a1 ≠ w_value_a1) (ne_w_sender_a1_w_value_a1 : w_sender_a1 ≠ w_value_a1) (ne_w_position_a1_w_value_a1 : w_position_a1 ≠ w_value_a1) (g_w_sender_a1 : n0 ≤ w_sender_a1) (ne_a1_w_sender_a1 : a1 ≠ w_sender_a1) (ne_w_position_a1_w_sender_a1 : w_position_a1 ≠ w_sender_a1) (g_w_position_a1 : n0 ≤ w_position_a1) (ne_a1_w_position_a1 : a1 ≠ w_position_a1) (E_a1 : Exa Z h0 a1 "com/example/accrete/accrete/engine/Sendings") (g_a1 : n0 ≤ a1) (V_a3 : Arf Z h0 a3 .byte z_a3 (fun i => (.int (el_a3 i)))) (ne_a3_w_target_a1 : a3 ≠ w_target_a1) (ne_a3_w_slot_a1 : a3 ≠ w_slot_a1) (ne_a3_w_taken_a1 : a3 ≠ w_taken_a1) (ne_a3_w_value_a1 : a3 ≠ w_value_a1) (ne_a3_w_sender_a1 : a3 ≠ w_sender_a1) (ne_a3_w_position_a1 : a3 ≠ w_position_a1) (ne_a3_a1 : a3 ≠ a1) :
    MetFree l (⟨"com/example/accrete/accrete/engine/Sendings", "takeBack", "(I[BI)V"⟩ : MethodName) (head1 (Jvm.Cond.code (⟨"com/example/accrete/accrete/engine/Sendings", "takeBack", "(I[BI)V"⟩ : MethodName) prog_52_method_3_code 4 none :: ws) ({ frames := 2, cells := 0, slots := 0, locals := 36 } : Room)) (fun a U => a = #[(.ref a1), (.int p2), (.ref a3), (.int p4)] ∧ Z.Warmed39 U.vm ∧ U.heap = h0) (fun _ _ _ _ _ => True) (fun _ U o U' => ∃ v L, o = .returned v ∧ Q8 Z a1 p2 a3 p4 w_target_a1 w_slot_a1 w_sender_a1 w_position_a1 w_value_a1 w_taken_a1 w_starts_a1 w_grouped_a1 w_next_a1 w_valuesCost_a1 el_w_target_a1 el_w_slot_a1 el_w_sender_a1 el_w_position_a1 el_w_value_a1 el_w_taken_a1 z_a3 el_a3 h0 n0 v U'.heap L ∧ FrameEnd U o U' L ({ frames := 2, cells := 0, slots := 0, locals := 36 } : Room).cells ({ frames := 2, cells := 0, slots := 0, locals := 36 } : Room).slots) := by
  refine MetFree.of_bodySF (plainFor_of_name pn_com_example_accrete_accrete_engine_Sendings) hisR ?_
  intro p e s m args below meth c s₁ Bd hml0 hP hK
  obtain ⟨rfl, hZ, hh⟩ := hP
  have hx := Bd.exec
  have hby := Bd.bytes
  have hml : c.maxLocals = 4 := hml0
  have hown : s.vm.findClass "com/example/accrete/accrete/engine/Sendings" = some m.cls := findClass_of_methodNamed Bd.named
  have hnm := (name_of_methodNamed Bd.named Bd.method).1
  have X0 : Stand p l e ({ frames := 2, cells := 0, slots := 0, locals := 36 } : Room) s m #[(.ref a1), (.int p2), (.ref a3), (.int p4)] below meth c s₁ [] 0 0 := Stand.of_body Bd
  have e0 : s₁.heap = h0 := by rw [← hh, Bd.state]; rfl
  have N0 := Fr.nil n0
  have pre0 : ∀ t, Steps p.tables e below (s₁.setTop (mkF m 0 #[.val (.ref a1), .val (.int p2), .val (.ref a3), .val (.int p4)] [])) t → Steps p.tables e below (s₁.setTop (entryFrame m #[(.ref a1), (.int p2), (.ref a3), (.int p4)] 4)) t := fun t k => castTop (ef_8 m a1 p2 a3 p4) k
  have pre1 : ∀ t, Steps p.tables e below (s₁.setTop (mkF m 7 #[.val (.ref a1), .val (.int p2), .val (.ref a3), .val (.int p4)] [(.int (-1 : Int32)), (.int p4), (.ref a3), .null, (.int (-1 : Int32)), (.int p2), (.ref a1)])) t → Steps p.tables e below (s₁.setTop (entryFrame m #[(.ref a1), (.int p2), (.ref a3), (.int p4)] 4)) t := fun t kt => by
    refine pre0 t ?_
    refine XS.aloadN X0.here hx rfl (hb hby d8_0) rfl rfl ?_
    show Steps p.tables e below (s₁.setTop (mkF m 1 #[.val (.ref a1), .val (.int p2), .val (.ref a3), .val (.int p4)] [(.ref a1)])) _
    refine XS.iloadN X0.here hx rfl (hb hby d8_1) rfl ?_
    show Steps p.tables e below (s₁.setTop (mkF m 2 #[.val (.ref a1), .val (.int p2), .val (.ref a3), .val (.int p4)] [(.int p2), (.ref a1)])) _
    refine XS.iconst X0.here hx rfl (hb hby d8_2) ?_
    show Steps p.tables e below (s₁.setTop (mkF m 3 #[.val (.ref a1), .val (.int p2), .val (.ref a3), .val (.int p4)] [(.int (-1 : Int32)), (.int p2), (.ref a1)])) _
    refine XS.aconstNull X0.here hx rfl (hb hby d8_3) ?_
    show Steps p.tables e below (s₁.setTop (mkF m 4 #[.val (.ref a1), .val (.int p2), .val (.ref a3), .val (.int p4)] [.null, (.int (-1 : Int32)), (.int p2), (.ref a1)])) _
    refine XS.aloadN X0.here hx rfl (hb hby d8_4) rfl rfl ?_
    show Steps p.tables e below (s₁.setTop (mkF m 5 #[.val (.ref a1), .val (.int p2), .val (.ref a3), .val (.int p4)] [(.ref a3), .null, (.int (-1 : Int32)), (.int p2), (.ref a1)])) _
    refine XS.iloadN X0.here hx rfl (hb hby d8_5) rfl ?_
    show Steps p.tables e below (s₁.setTop (mkF m 6 #[.val (.ref a1), .val (.int p2), .val (.ref a3), .val (.int p4)] [(.int p4), (.ref a3), .null, (.int (-1 : Int32)), (.int p2), (.ref a1)])) _
    refine XS.iconst X0.here hx rfl (hb hby d8_6) ?_
    show Steps p.tables e below (s₁.setTop (mkF m 7 #[.val (.ref a1), .val (.int p2), .val (.ref a3), .val (.int p4)] [(.int (-1 : Int32)), (.int p4), (.ref a3), .null, (.int (-1 : Int32)), (.int p2), (.ref a1)])) _
    exact kt
  obtain ⟨cq2, q2, q2'⟩ := E_a1.cell
  obtain ⟨_, _, ⟨T2, L2, k2, n2⟩, -, X2, ⟨Lc2, hQ2, l2, y2, z2⟩, st2⟩ := X0.privateBack hx (y := (⟨"com/example/accrete/accrete/engine/Sendings", "add", "(II[B[BII)V"⟩ : MethodName)) hown (mvT hZ (hw _ (mgE 46 rfl))) (mvT hZ (hw _ (mgE 47 rfl))) (own_sel (mvT hZ (hw _ (mgE 3 rfl))) (Cond.privateMethod_at (mvP hZ (hw _ (mgE 48 rfl)) (args := #[]))) (mvT hZ (hw _ (mgE 47 rfl))) (by decide)) (Cond.privateMethod_at (mvP hZ (hw _ (mgE 48 rfl)) (args := #[]))) (mvT hZ (hw _ (mgE 49 rfl))) (by decide) (backOf (W := 0) (rm5s2 l Z a0 hw [] a1 p2 (-1 : Int32) a3 p4 (-1 : Int32) w_target_a1 w_slot_a1 w_sender_a1 w_position_a1 w_value_a1 w_taken_a1 w_starts_a1 w_grouped_a1 w_next_a1 w_valuesCost_a1 el_w_target_a1 el_w_slot_a1 el_w_sender_a1 el_w_position_a1 el_w_value_a1 el_w_taken_a1 z_a3 el_a3 h0 n0 Z0 F_size_a1 F_target_a1 F_slot_a1 F_sender_a1 F_position_a1 F_value_a1 F_taken_a1 F_starts_a1 F_grouped_a1 F_next_a1 F_valuesCost_a1 V_w_target_a1 V_w_slot_a1 V_w_sender_a1 V_w_position_a1 V_w_value_a1 V_w_taken_a1 O_w_value_a1 O_w_taken_a1 g_w_target_a1 ne_a1_w_target_a1 ne_w_slot_a1_w_target_a1 ne_w_sender_a1_w_target_a1 ne_w_position_a1_w_target_a1 ne_w_value_a1_w_target_a1 ne_w_taken_a1_w_target_a1 g_w_slot_a1 ne_a1_w_slot_a1 ne_w_sender_a1_w_slot_a1 ne_w_position_a1_w_slot_a1 ne_w_value_a1_w_slot_a1 ne_w_taken_a1_w_slot_a1 g_w_taken_a1 ne_a1_w_taken_a1 ne_w_sender_a1_w_taken_a1 ne_w_position_a1_w_taken_a1 ne_w_value_a1_w_taken_a1 g_w_value_a1 E_a3 ne_a1_w_value_a1 ne_w_sender_a1_w_value_a1 ne_w_position_a1_w_value_a1 g_w_sender_a1 ne_a1_w_sender_a1 ne_w_position_a1_w_sender_a1 g_w_position_a1 ne_a1_w_position_a1 E_a1 g_a1 V_a3 ne_a3_w_target_a1 ne_a3_w_slot_a1 ne_a3_w_taken_a1 ne_a3_w_value_a1 ne_a3_w_sender_a1 ne_a3_w_position_a1 ne_a3_a1) hZ (hw _ (mgE 49 rfl)) (hw _ (mgE 4 rfl)) (by decide) (by decide)) (g := (mkF m 7 #[.val (.ref a1), .val (.int p2), .val (.ref a3), .val (.int p4)] [(.int (-1 : Int32)), (.int p4), (.ref a3), .null, (.int (-1 : Int32)), (.int p2), (.ref a1)])) rfl (by rw [hml]; rfl) (Steps.refl _) (a := a1) (by rw [e0]; exact q2) q2' (argsL := [(.int p2), (.int (-1 : Int32)), .null, (.ref a3), (.int p4), (.int (-1 : Int32))]) (rest := []) (lenOf pd__II_B_BII_V rfl) rfl (by show 2 * 0 + _ ≤ _; exact Nat.le_of_eq rfl) (hb hby d8_7) (fun _ _ => ⟨rfl, e0, (by decide : 0 + 0 ≤ _), (by decide : 0 + 0 ≤ _)⟩)
  dsimp only [Pt.U, Pt.locs, Pt.cells, Pt.slots] at X2 l2 y2 z2 st2 hQ2
  subst l2 y2 z2
  obtain ⟨rfl, N2q, K2, Q2_0, Q2_1, Q2_2, Q2_3, Q2_4, Q2_5, Q2_6, Q2_7, Q2_8, Q2_9, Q2_10, Q2_11, Q2_12, Q2_13, Q2_14, Q2_15, Q2_16, Q2_17, Q2_18, Q2_19⟩ := hQ2
  have KK2 : Keep h0 T2.heap [a1, w_position_a1, w_sender_a1, w_value_a1, w_taken_a1, w_slot_a1, w_target_a1] := Keep.trans (Keep.refl h0 [a1, w_position_a1, w_sender_a1, w_value_a1, w_taken_a1, w_slot_a1, w_target_a1]) K2 (allS (Or.inl (mgE 6 rfl)) (allS (Or.inl (mgE 5 rfl)) (allS (Or.inl (mgE 4 rfl)) (allS (Or.inl (mgE 3 rfl)) (allS (Or.inl (mgE 2 rfl)) (allS (Or.inl (mgE 1 rfl)) (allS (Or.inl (mgE 0 rfl)) all0)))))))
  have pre25 : ∀ t, Steps p.tables e below (T2.setTop (mkF m 10 #[.val (.ref a1), .val (.int p2), .val (.ref a3), .val (.int p4)] [])) t → Steps p.tables e below (s₁.setTop (entryFrame m #[(.ref a1), (.int p2), (.ref a3), (.int p4)] 4)) t := fun t kt => pre1 t (st2.trans kt)
  have N2 := Fr.app N0 N2q
  obtain ⟨fs, hr, hrun, hended, hW, hsame⟩ := X2.leave (v := none) (fun _ => rfl)
  refine ⟨_, _, pre25 _ ?_, hrun, hended, _, _, rfl, ?_, ⟨_, rfl⟩, hW, hsame.mono (by decide) (by decide)⟩
  · exact X2.returnOut hx Bd.returns (hb hby d8_10) hr
  · show Q8 Z a1 p2 a3 p4 w_target_a1 w_slot_a1 w_sender_a1 w_position_a1 w_value_a1 w_taken_a1 w_starts_a1 w_grouped_a1 w_next_a1 w_valuesCost_a1 el_w_target_a1 el_w_slot_a1 el_w_sender_a1 el_w_position_a1 el_w_value_a1 el_w_taken_a1 z_a3 el_a3 h0 n0 _ T2.heap _
    exact ⟨rfl, N2, KK2, Q2_0, Q2_1, Q2_2, Q2_3, Q2_4, Q2_5, Q2_6, Q2_7, Q2_8, Q2_9, Q2_10, Q2_11, Q2_12, Q2_13, Q2_14, Q2_15, Q2_16, Q2_17, Q2_18, Q2_19⟩
theorem d17_0 : decode prog_52_method_4_code 0 = .ok (.aload_n 0, 1) := by decide +kernel
theorem d17_1 : decode prog_52_method_4_code 1 = .ok (.iload_n 1, 1) := by decide +kernel
theorem d17_2 : decode prog_52_method_4_code 2 = .ok (.bipush (-2), 2) := by decide +kernel
theorem d17_4 : decode prog_52_method_4_code 4 = .ok (.aconst_null, 1) := by decide +kernel
theorem d17_5 : decode prog_52_method_4_code 5 = .ok (.aload_n 2, 1) := by decide +kernel
theorem d17_6 : decode prog_52_method_4_code 6 = .ok (.iload_n 3, 1) := by decide +kernel
theorem d17_7 : decode prog_52_method_4_code 7 = .ok (.iload 4, 2) := by decide +kernel
theorem d17_9 : decode prog_52_method_4_code 9 = .ok (.invokevirtual 42, 3) := by decide +kernel
theorem d17_12 : decode prog_52_method_4_code 12 = .ok (.return_, 1) := by decide +kernel
theorem ef_17 (m : MethodId) (x0 : Addr) (x1 : Int32) (x2 : Addr) (x3 : Int32) (x4 : Int32) : entryFrame m #[(.ref x0), (.int x1), (.ref x2), (.int x3), (.int x4)] 5 = mkF m 0 #[.val (.ref x0), .val (.int x1), .val (.ref x2), .val (.int x3), .val (.int x4)] [] := by first | (simp [entryFrame, mkF, argsToLocals, Value.category]; done) | rfl
def Q17 (Z : State) (a1 : Addr) (p2 : Int32) (a3 : Addr) (p4 : Int32) (p5 : Int32) (w_target_a1 : Addr) (w_slot_a1 : Addr) (w_sender_a1 : Addr) (w_position_a1 : Addr) (w_value_a1 : Addr) (w_taken_a1 : Addr) (w_starts_a1 : Addr) (w_grouped_a1 : Addr) (w_next_a1 : Addr) (w_valuesCost_a1 : Int64) (el_w_target_a1 : Nat → Int32) (el_w_slot_a1 : Nat → Int32) (el_w_sender_a1 : Nat → Int32) (el_w_position_a1 : Nat → Int32) (el_w_value_a1 : Nat → Value) (el_w_taken_a1 : Nat → Value) (z_a3 : Int32) (el_a3 : Nat → Int32) (h0 : Heap) (n0 : Nat) (v : Option Value) (h : Heap) (L : List Loc) : Prop := v = none ∧ Fr n0 L ∧ Keep h0 h [a1, w_position_a1, w_sender_a1, w_value_a1, w_taken_a1, w_slot_a1, w_target_a1] ∧ Exa Z h a1 "com/example/accrete/accrete/engine/Sendings" ∧ Fld Z h a1 "com/example/accrete/accrete/engine/Sendings" "grouped" "[I" (.ref w_grouped_a1) ∧ Fld Z h a1 "com/example/accrete/accrete/engine/Sendings" "next" "[I" (.ref w_next_a1) ∧ Fld Z h a1 "com/example/accrete/accrete/engine/Sendings" "position" "[I" (.ref w_position_a1) ∧ Fld Z h a1 "com/example/accrete/accrete/engine/Sendings" "sender" "[I" (.ref w_sender_a1) ∧ Fld Z h a1 "com/example/accrete/accrete/engine/Sendings" "size" "I" (.int (3 : Int32)) ∧ Fld Z h a1 "com/example/accrete/accrete/engine/Sendings" "slot" "[I" (.ref w_slot_a1) ∧ Fld Z h a1 "com/example/accrete/accrete/engine/Sendings" "starts" "[I" (.ref w_starts_a1) ∧ Fld Z h a1 "com/example/accrete/accrete/engine/Sendings" "taken" "[[B" (.ref w_taken_a1) ∧ Fld Z h a1 "com/example/accrete/accrete/engine/Sendings" "target" "[I" (.ref w_target_a1) ∧ Fld Z h a1 "com/example/accrete/accrete/engine/Sendings" "value" "[[B" (.ref w_value_a1) ∧ Fld Z h a1 "com/example/accrete/accrete/engine/Sendings" "valuesCost" "J" (.long (w_valuesCost_a1 + ((0 : Int64) + (((16 : Int32) + z_a3).toInt64)))) ∧ OvcA Z h w_taken_a1 .byte "[B" ∧ OvcA Z h w_value_a1 .byte "[B" ∧ Arf Z h w_position_a1 .int (1024 : Int32) (fun i => (.int ((own_upd el_w_position_a1 ((2 : Int32)).toNatClampNeg p5) i))) ∧ Arf Z h w_sender_a1 .int (1024 : Int32) (fun i => (.int ((own_upd el_w_sender_a1 ((2 : Int32)).toNatClampNeg p4) i))) ∧ Arf Z h w_slot_a1 .int (1024 : Int32) (fun i => (.int ((own_upd el_w_slot_a1 ((2 : Int32)).toNatClampNeg (-2 : Int32)) i))) ∧ Arf Z h w_taken_a1 (.array .byte) (1024 : Int32) (own_upd el_w_taken_a1 ((2 : Int32)).toNatClampNeg Value.null) ∧ Arf Z h w_target_a1 .int (1024 : Int32) (fun i => (.int ((own_upd el_w_target_a1 ((2 : Int32)).toNatClampNeg p2) i))) ∧ Arf Z h w_value_a1 (.array .byte) (1024 : Int32) (own_upd el_w_value_a1 ((2 : Int32)).toNatClampNeg (Value.ref a3))
set_option maxRecDepth 65536 in
set_option maxHeartbeats 40000000 in
theorem rm17 (l : Launch) (Z : State) (a0 : Array Value) (hw : ∀ d ∈ tables_1, d.before a0 Z = true) (ws : List Jvm.Cond) (a1 : Addr) (p2 : Int32) (a3 : Addr) (p4 : Int32) (p5 : Int32) (w_target_a1 : Addr) (w_slot_a1 : Addr) (w_sender_a1 : Addr) (w_position_a1 : Addr) (w_value_a1 : Addr) (w_taken_a1 : Addr) (w_starts_a1 : Addr) (w_grouped_a1 : Addr) (w_next_a1 : Addr) (w_valuesCost_a1 : Int64) (el_w_target_a1 : Nat → Int32) (el_w_slot_a1 : Nat → Int32) (el_w_sender_a1 : Nat → Int32) (el_w_position_a1 : Nat → Int32) (el_w_value_a1 : Nat → Value) (el_w_taken_a1 : Nat → Value) (z_a3 : Int32) (el_a3 : Nat → Int32) (h0 : Heap) (n0 : Nat) (Z0 : n0 ≤ h0.size) (F_size_a1 : Fld Z h0 a1 "com/example/accrete/accrete/engine/Sendings" "size" "I" (.int (2 : Int32))) (F_target_a1 : Fld Z h0 a1 "com/example/accrete/accrete/engine/Sendings" "target" "[I" (.ref w_target_a1)) (F_slot_a1 : Fld Z h0 a1 "com/example/accrete/accrete/engine/Sendings" "slot" "[I" (.ref w_slot_a1)) (F_sender_a1 : Fld Z h0 a1 "com/example/accrete/accrete/engine/Sendings" "sender" "[I" (.ref w_sender_a1)) (F_position_a1 : Fld Z h0 a1 "com/example/accrete/accrete/engine/Sendings" "position" "[I" (.ref w_position_a1)) (F_value_a1 : Fld Z h0 a1 "com/example/accrete/accrete/engine/Sendings" "value" "[[B" (.ref w_value_a1)) (F_taken_a1 : Fld Z h0 a1 "com/example/accrete/accrete/engine/Sendings" "taken" "[[B" (.ref w_taken_a1)) (F_starts_a1 : Fld Z h0 a1 "com/example/accrete/accrete/engine/Sendings" "starts" "[I" (.ref w_starts_a1)) (F_grouped_a1 : Fld Z h0 a1 "com/example/accrete/accrete/engine/Sendings" "grouped" "[I" (.ref w_grouped_a1)) (F_next_a1 : Fld Z h0 a1 "com/example/accrete/accrete/engine/Sendings" "next" "[I" (.ref w_next_a1)) (F_valuesCost_a1 : Fld Z h0 a1 "com/example/accrete/accrete/engine/Sendings" "valuesCost" "J" (.long w_valuesCost_a1)) (V_w_target_a1 : Arf Z h0 w_target_a1 .int (1024 : Int32) (fun i => (.int (el_w_target_a1 i)))) (V_w_slot_a1 : Arf Z h0 w_slot_a1 .int (1024 : Int32) (fun i => (.int (el_w_slot_a1 i)))) (V_w_sender_a1 : Arf Z h0 w_sender_a1 .int (1024 : Int32) (fun i => (.int (el_w_sender_a1 i)))) (V_w_position_a1 : Arf Z h0 w_position_a1 .int (1024 : Int32) (fun i => (.int (el_w_position_a1 i)))) (V_w_value_a1 : Arf Z h0 w_value_a1 (.array .byte) (1024 : Int32) el_w_value_a1) (V_w_taken_a1 : Arf Z h0 w_taken_a1 (.array .byte) (1024 : Int32) el_w_taken_a1) (O_w_value_a1 : OvcA Z h0 w_value_a1 .byte "[B") (O_w_taken_a1 : OvcA Z h0 w_taken_a1 .byte "[B") (g_w_target_a1 : n0 ≤ w_target_a1) (ne_a1_w_target_a1 : a1 ≠ w_target_a1) (ne_w_slot_a1_w_target_a1 : w_slot_a1 ≠ w_target_a1) (ne_w_sender_a1_w_target_a1 : w_sender_a1 ≠ w_target_a1) (ne_w_position_a1_w_target_a1 : w_position_a1 ≠ w_target_a1) (ne_w_value_a1_w_target_a1 : w_value_a1 ≠ w_target_a1) (ne_w_taken_a1_w_target_a1 : w_taken_a1 ≠ w_target_a1) (g_w_slot_a1 : n0 ≤ w_slot_a1) (ne_a1_w_slot_a1 : a1 ≠ w_slot_a1) (ne_w_sender_a1_w_slot_a1 : w_sender_a1 ≠ w_slot_a1) (ne_w_position_a1_w_slot_a1 : w_position_a1 ≠ w_slot_a1) (ne_w_value_a1_w_slot_a1 : w_value_a1 ≠ w_slot_a1) (ne_w_taken_a1_w_slot_a1 : w_taken_a1 ≠ w_slot_a1) (g_w_taken_a1 : n0 ≤ w_taken_a1) (ne_a1_w_taken_a1 : a1 ≠ w_taken_a1) (ne_w_sender_a1_w_taken_a1 : w_sender_a1 ≠ w_taken_a1) (ne_w_position_a1_w_taken_a1 : w_position_a1 ≠ w_taken_a1) (ne_w_value_a1_w_taken_a1 : w_value_a1 ≠ w_taken_a1) (g_w_value_a1 : n0 ≤ w_value_a1) (E_a3 : Exa Z h0 a3 "[B") (ne_a1_w_value_a1 : a1 ≠ w_value_a1) (ne_w_sender_a1_w_value_a1 : w_sender_a1 ≠ w_value_a1) (ne_w_position_a1_w_value_a1 : w_position_a1 ≠ w_value_a1) (g_w_sender_a1 : n0 ≤ w_sender_a1) (ne_a1_w_sender_a1 : a1 ≠ w_sender_a1) (ne_w_position_a1_w_sender_a1 : w_position_a1 ≠ w_sender_a1) (g_w_position_a1 : n0 ≤ w_position_a1) (ne_a1_w_position_a1 : a1 ≠ w_position_a1) (E_a1 : Exa Z h0 a1 "com/example/accrete/accrete/engine/Sendings") (g_a1 : n0 ≤ a1) (V_a3 : Arf Z h0 a3 .byte z_a3 (fun i => (.int (el_a3 i)))) (ne_a3_w_target_a1 : a3 ≠ w_target_a1) (ne_a3_w_slot_a1 : a3 ≠ w_slot_a1) (ne_a3_w_taken_a1 : a3 ≠ w_taken_a1) (ne_a3_w_value_a1 : a3 ≠ w_value_a1) (ne_a3_w_sender_a1 : a3 ≠ w_sender_a1) (ne_a3_w_position_a1 : a3 ≠ w_position_a1) (ne_a3_a1 : a3 ≠ a1) :
    MetFree l (⟨"com/example/accrete/accrete/engine/Sendings", "send", "(I[BII)V"⟩ : MethodName) (head1 (Jvm.Cond.code (⟨"com/example/accrete/accrete/engine/Sendings", "send", "(I[BII)V"⟩ : MethodName) prog_52_method_4_code 5 none :: ws) ({ frames := 2, cells := 0, slots := 0, locals := 36 } : Room)) (fun a U => a = #[(.ref a1), (.int p2), (.ref a3), (.int p4), (.int p5)] ∧ Z.Warmed39 U.vm ∧ U.heap = h0) (fun _ _ _ _ _ => True) (fun _ U o U' => ∃ v L, o = .returned v ∧ Q17 Z a1 p2 a3 p4 p5 w_target_a1 w_slot_a1 w_sender_a1 w_position_a1 w_value_a1 w_taken_a1 w_starts_a1 w_grouped_a1 w_next_a1 w_valuesCost_a1 el_w_target_a1 el_w_slot_a1 el_w_sender_a1 el_w_position_a1 el_w_value_a1 el_w_taken_a1 z_a3 el_a3 h0 n0 v U'.heap L ∧ FrameEnd U o U' L ({ frames := 2, cells := 0, slots := 0, locals := 36 } : Room).cells ({ frames := 2, cells := 0, slots := 0, locals := 36 } : Room).slots) := by
  refine MetFree.of_bodySF (plainFor_of_name pn_com_example_accrete_accrete_engine_Sendings) hisR ?_
  intro p e s m args below meth c s₁ Bd hml0 hP hK
  obtain ⟨rfl, hZ, hh⟩ := hP
  have hx := Bd.exec
  have hby := Bd.bytes
  have hml : c.maxLocals = 5 := hml0
  have hown : s.vm.findClass "com/example/accrete/accrete/engine/Sendings" = some m.cls := findClass_of_methodNamed Bd.named
  have hnm := (name_of_methodNamed Bd.named Bd.method).1
  have X0 : Stand p l e ({ frames := 2, cells := 0, slots := 0, locals := 36 } : Room) s m #[(.ref a1), (.int p2), (.ref a3), (.int p4), (.int p5)] below meth c s₁ [] 0 0 := Stand.of_body Bd
  have e0 : s₁.heap = h0 := by rw [← hh, Bd.state]; rfl
  have N0 := Fr.nil n0
  have pre0 : ∀ t, Steps p.tables e below (s₁.setTop (mkF m 0 #[.val (.ref a1), .val (.int p2), .val (.ref a3), .val (.int p4), .val (.int p5)] [])) t → Steps p.tables e below (s₁.setTop (entryFrame m #[(.ref a1), (.int p2), (.ref a3), (.int p4), (.int p5)] 5)) t := fun t k => castTop (ef_17 m a1 p2 a3 p4 p5) k
  have pre1 : ∀ t, Steps p.tables e below (s₁.setTop (mkF m 9 #[.val (.ref a1), .val (.int p2), .val (.ref a3), .val (.int p4), .val (.int p5)] [(.int p5), (.int p4), (.ref a3), .null, (.int (-2 : Int32)), (.int p2), (.ref a1)])) t → Steps p.tables e below (s₁.setTop (entryFrame m #[(.ref a1), (.int p2), (.ref a3), (.int p4), (.int p5)] 5)) t := fun t kt => by
    refine pre0 t ?_
    refine XS.aloadN X0.here hx rfl (hb hby d17_0) rfl rfl ?_
    show Steps p.tables e below (s₁.setTop (mkF m 1 #[.val (.ref a1), .val (.int p2), .val (.ref a3), .val (.int p4), .val (.int p5)] [(.ref a1)])) _
    refine XS.iloadN X0.here hx rfl (hb hby d17_1) rfl ?_
    show Steps p.tables e below (s₁.setTop (mkF m 2 #[.val (.ref a1), .val (.int p2), .val (.ref a3), .val (.int p4), .val (.int p5)] [(.int p2), (.ref a1)])) _
    refine XS.bipush X0.here hx rfl (hb hby d17_2) ?_
    show Steps p.tables e below (s₁.setTop (mkF m 4 #[.val (.ref a1), .val (.int p2), .val (.ref a3), .val (.int p4), .val (.int p5)] [(.int (-2 : Int32)), (.int p2), (.ref a1)])) _
    refine XS.aconstNull X0.here hx rfl (hb hby d17_4) ?_
    show Steps p.tables e below (s₁.setTop (mkF m 5 #[.val (.ref a1), .val (.int p2), .val (.ref a3), .val (.int p4), .val (.int p5)] [.null, (.int (-2 : Int32)), (.int p2), (.ref a1)])) _
    refine XS.aloadN X0.here hx rfl (hb hby d17_5) rfl rfl ?_
    show Steps p.tables e below (s₁.setTop (mkF m 6 #[.val (.ref a1), .val (.int p2), .val (.ref a3), .val (.int p4), .val (.int p5)] [(.ref a3), .null, (.int (-2 : Int32)), (.int p2), (.ref a1)])) _
    refine XS.iloadN X0.here hx rfl (hb hby d17_6) rfl ?_
    show Steps p.tables e below (s₁.setTop (mkF m 7 #[.val (.ref a1), .val (.int p2), .val (.ref a3), .val (.int p4), .val (.int p5)] [(.int p4), (.ref a3), .null, (.int (-2 : Int32)), (.int p2), (.ref a1)])) _
    refine XS.iload X0.here hx rfl (hb hby d17_7) rfl ?_
    show Steps p.tables e below (s₁.setTop (mkF m 9 #[.val (.ref a1), .val (.int p2), .val (.ref a3), .val (.int p4), .val (.int p5)] [(.int p5), (.int p4), (.ref a3), .null, (.int (-2 : Int32)), (.int p2), (.ref a1)])) _
    exact kt
  obtain ⟨cq2, q2, q2'⟩ := E_a1.cell
  obtain ⟨_, _, ⟨T2, L2, k2, n2⟩, -, X2, ⟨Lc2, hQ2, l2, y2, z2⟩, st2⟩ := X0.privateBack hx (y := (⟨"com/example/accrete/accrete/engine/Sendings", "add", "(II[B[BII)V"⟩ : MethodName)) hown (mvT hZ (hw _ (mgE 46 rfl))) (mvT hZ (hw _ (mgE 47 rfl))) (own_sel (mvT hZ (hw _ (mgE 3 rfl))) (Cond.privateMethod_at (mvP hZ (hw _ (mgE 48 rfl)) (args := #[]))) (mvT hZ (hw _ (mgE 47 rfl))) (by decide)) (Cond.privateMethod_at (mvP hZ (hw _ (mgE 48 rfl)) (args := #[]))) (mvT hZ (hw _ (mgE 49 rfl))) (by decide) (backOf (W := 0) (rm5s2 l Z a0 hw [] a1 p2 (-2 : Int32) a3 p4 p5 w_target_a1 w_slot_a1 w_sender_a1 w_position_a1 w_value_a1 w_taken_a1 w_starts_a1 w_grouped_a1 w_next_a1 w_valuesCost_a1 el_w_target_a1 el_w_slot_a1 el_w_sender_a1 el_w_position_a1 el_w_value_a1 el_w_taken_a1 z_a3 el_a3 h0 n0 Z0 F_size_a1 F_target_a1 F_slot_a1 F_sender_a1 F_position_a1 F_value_a1 F_taken_a1 F_starts_a1 F_grouped_a1 F_next_a1 F_valuesCost_a1 V_w_target_a1 V_w_slot_a1 V_w_sender_a1 V_w_position_a1 V_w_value_a1 V_w_taken_a1 O_w_value_a1 O_w_taken_a1 g_w_target_a1 ne_a1_w_target_a1 ne_w_slot_a1_w_target_a1 ne_w_sender_a1_w_target_a1 ne_w_position_a1_w_target_a1 ne_w_value_a1_w_target_a1 ne_w_taken_a1_w_target_a1 g_w_slot_a1 ne_a1_w_slot_a1 ne_w_sender_a1_w_slot_a1 ne_w_position_a1_w_slot_a1 ne_w_value_a1_w_slot_a1 ne_w_taken_a1_w_slot_a1 g_w_taken_a1 ne_a1_w_taken_a1 ne_w_sender_a1_w_taken_a1 ne_w_position_a1_w_taken_a1 ne_w_value_a1_w_taken_a1 g_w_value_a1 E_a3 ne_a1_w_value_a1 ne_w_sender_a1_w_value_a1 ne_w_position_a1_w_value_a1 g_w_sender_a1 ne_a1_w_sender_a1 ne_w_position_a1_w_sender_a1 g_w_position_a1 ne_a1_w_position_a1 E_a1 g_a1 V_a3 ne_a3_w_target_a1 ne_a3_w_slot_a1 ne_a3_w_taken_a1 ne_a3_w_value_a1 ne_a3_w_sender_a1 ne_a3_w_position_a1 ne_a3_a1) hZ (hw _ (mgE 49 rfl)) (hw _ (mgE 4 rfl)) (by decide) (by decide)) (g := (mkF m 9 #[.val (.ref a1), .val (.int p2), .val (.ref a3), .val (.int p4), .val (.int p5)] [(.int p5), (.int p4), (.ref a3), .null, (.int (-2 : Int32)), (.int p2), (.ref a1)])) rfl (by rw [hml]; rfl) (Steps.refl _) (a := a1) (by rw [e0]; exact q2) q2' (argsL := [(.int p2), (.int (-2 : Int32)), .null, (.ref a3), (.int p4), (.int p5)]) (rest := []) (lenOf pd__II_B_BII_V rfl) rfl (by show 2 * 0 + _ ≤ _; exact Nat.le_of_eq rfl) (hb hby d17_9) (fun _ _ => ⟨rfl, e0, (by decide : 0 + 0 ≤ _), (by decide : 0 + 0 ≤ _)⟩)
  dsimp only [Pt.U, Pt.locs, Pt.cells, Pt.slots] at X2 l2 y2 z2 st2 hQ2
  subst l2 y2 z2
  obtain ⟨rfl, N2q, K2, Q2_0, Q2_1, Q2_2, Q2_3, Q2_4, Q2_5, Q2_6, Q2_7, Q2_8, Q2_9, Q2_10, Q2_11, Q2_12, Q2_13, Q2_14, Q2_15, Q2_16, Q2_17, Q2_18, Q2_19⟩ := hQ2
  have KK2 : Keep h0 T2.heap [a1, w_position_a1, w_sender_a1, w_value_a1, w_taken_a1, w_slot_a1, w_target_a1] := Keep.trans (Keep.refl h0 [a1, w_position_a1, w_sender_a1, w_value_a1, w_taken_a1, w_slot_a1, w_target_a1]) K2 (allS (Or.inl (mgE 6 rfl)) (allS (Or.inl (mgE 5 rfl)) (allS (Or.inl (mgE 4 rfl)) (allS (Or.inl (mgE 3 rfl)) (allS (Or.inl (mgE 2 rfl)) (allS (Or.inl (mgE 1 rfl)) (allS (Or.inl (mgE 0 rfl)) all0)))))))
  have pre25 : ∀ t, Steps p.tables e below (T2.setTop (mkF m 12 #[.val (.ref a1), .val (.int p2), .val (.ref a3), .val (.int p4), .val (.int p5)] [])) t → Steps p.tables e below (s₁.setTop (entryFrame m #[(.ref a1), (.int p2), (.ref a3), (.int p4), (.int p5)] 5)) t := fun t kt => pre1 t (st2.trans kt)
  have N2 := Fr.app N0 N2q
  obtain ⟨fs, hr, hrun, hended, hW, hsame⟩ := X2.leave (v := none) (fun _ => rfl)
  refine ⟨_, _, pre25 _ ?_, hrun, hended, _, _, rfl, ?_, ⟨_, rfl⟩, hW, hsame.mono (by decide) (by decide)⟩
  · exact X2.returnOut hx Bd.returns (hb hby d17_12) hr
  · show Q17 Z a1 p2 a3 p4 p5 w_target_a1 w_slot_a1 w_sender_a1 w_position_a1 w_value_a1 w_taken_a1 w_starts_a1 w_grouped_a1 w_next_a1 w_valuesCost_a1 el_w_target_a1 el_w_slot_a1 el_w_sender_a1 el_w_position_a1 el_w_value_a1 el_w_taken_a1 z_a3 el_a3 h0 n0 _ T2.heap _
    exact ⟨rfl, N2, KK2, Q2_0, Q2_1, Q2_2, Q2_3, Q2_4, Q2_5, Q2_6, Q2_7, Q2_8, Q2_9, Q2_10, Q2_11, Q2_12, Q2_13, Q2_14, Q2_15, Q2_16, Q2_17, Q2_18, Q2_19⟩
theorem d11_0 : decode jdk_29_method_66_code 0 = .ok (.lload_n 0, 1) := by decide +kernel
theorem d11_1 : decode jdk_29_method_66_code 1 = .ok (.lload_n 2, 1) := by decide +kernel
theorem d11_2 : decode jdk_29_method_66_code 2 = .ok (.lcmp, 1) := by decide +kernel
theorem d11_3 : decode jdk_29_method_66_code 3 = .ok (.ifCond .lt 7, 3) := by decide +kernel
theorem d11_6 : decode jdk_29_method_66_code 6 = .ok (.lload_n 0, 1) := by decide +kernel
theorem d11_7 : decode jdk_29_method_66_code 7 = .ok (.goto 4, 3) := by decide +kernel
theorem d11_10 : decode jdk_29_method_66_code 10 = .ok (.lload_n 2, 1) := by decide +kernel
theorem d11_11 : decode jdk_29_method_66_code 11 = .ok (.lreturn, 1) := by decide +kernel
theorem ef_11 (m : MethodId) (x0 : Int64) (x1 : Int64) : entryFrame m #[(.long x0), (.long x1)] 4 = mkF m 0 #[.val (.long x0), .second, .val (.long x1), .second] [] := by first | (simp [entryFrame, mkF, argsToLocals, Value.category]; done) | rfl
def r11 (q1 : Int64) (q2 : Int64) : Int64 := (if (lcmpW q1 q2) < (0 : Int32) then q2 else q1)
def Q11 (Z : State) (q1 : Int64) (q2 : Int64) (h0 : Heap) (n0 : Nat) (v : Option Value) (h : Heap) (L : List Loc) : Prop := v = some (.long (r11 q1 q2)) ∧ Fr n0 L ∧ h = h0
set_option maxRecDepth 65536 in
set_option maxHeartbeats 40000000 in
theorem rm11 (l : Launch) (Z : State) (a0 : Array Value) (hw : ∀ d ∈ tables_1, d.before a0 Z = true) (ws : List Jvm.Cond) (q1 : Int64) (q2 : Int64) (h0 : Heap) (n0 : Nat) (Z0 : n0 ≤ h0.size)  :
    MetFree l (⟨"java/lang/Math", "max", "(JJ)J"⟩ : MethodName) (head1 (Jvm.Cond.code (⟨"java/lang/Math", "max", "(JJ)J"⟩ : MethodName) jdk_29_method_66_code 4 (some .long) :: ws) ({ frames := 0, cells := 0, slots := 0, locals := 0 } : Room)) (fun a U => a = #[(.long q1), (.long q2)] ∧ Z.Warmed39 U.vm ∧ U.heap = h0) (fun _ _ _ _ _ => True) (fun _ U o U' => ∃ v L, o = .returned v ∧ Q11 Z q1 q2 h0 n0 v U'.heap L ∧ FrameEnd U o U' L ({ frames := 0, cells := 0, slots := 0, locals := 0 } : Room).cells ({ frames := 0, cells := 0, slots := 0, locals := 0 } : Room).slots) := by
  refine MetFree.of_bodySF (Jvm.Free.JP.mathPlain rfl (by decide +kernel)) hisR ?_
  intro p e s m args below meth c s₁ Bd hml0 hP hK
  obtain ⟨rfl, hZ, hh⟩ := hP
  have hx := Bd.exec
  have hby := Bd.bytes
  have hml : c.maxLocals = 4 := hml0
  have hown : s.vm.findClass "java/lang/Math" = some m.cls := findClass_of_methodNamed Bd.named
  have hnm := (name_of_methodNamed Bd.named Bd.method).1
  have X0 : Stand p l e ({ frames := 0, cells := 0, slots := 0, locals := 0 } : Room) s m #[(.long q1), (.long q2)] below meth c s₁ [] 0 0 := Stand.of_body Bd
  have e0 : s₁.heap = h0 := by rw [← hh, Bd.state]; rfl
  have N0 := Fr.nil n0
  have pre0 : ∀ t, Steps p.tables e below (s₁.setTop (mkF m 0 #[.val (.long q1), .second, .val (.long q2), .second] [])) t → Steps p.tables e below (s₁.setTop (entryFrame m #[(.long q1), (.long q2)] 4)) t := fun t k => castTop (ef_11 m q1 q2) k
  by_cases hc3 : (lcmpW q1 q2) < (0 : Int32)
  · skip
    have pre1 : ∀ t, Steps p.tables e below (s₁.setTop (mkF m 11 #[.val (.long q1), .second, .val (.long q2), .second] [(.long q2)])) t → Steps p.tables e below (s₁.setTop (entryFrame m #[(.long q1), (.long q2)] 4)) t := fun t kt => by
      refine pre0 t ?_
      refine XS.lloadN X0.here hx rfl (hb hby d11_0) rfl ?_
      show Steps p.tables e below (s₁.setTop (mkF m 1 #[.val (.long q1), .second, .val (.long q2), .second] [(.long q1)])) _
      refine XS.lloadN X0.here hx rfl (hb hby d11_1) rfl ?_
      show Steps p.tables e below (s₁.setTop (mkF m 2 #[.val (.long q1), .second, .val (.long q2), .second] [(.long q2), (.long q1)])) _
      refine XS.lcmp X0.here hx rfl (hb hby d11_2) rfl ?_
      show Steps p.tables e below (s₁.setTop (mkF m 3 #[.val (.long q1), .second, .val (.long q2), .second] [(.int (lcmpW q1 q2))])) _
      refine XS.ifYes X0.here hx rfl (pc0 := 3) (pc' := 10) rfl (hb hby d11_3) rfl ((if0 _ _).trans (tlt hc3).1) (by decide) (by decide) ?_
      show Steps p.tables e below (s₁.setTop (mkF m 10 #[.val (.long q1), .second, .val (.long q2), .second] [])) _
      refine XS.lloadN X0.here hx rfl (hb hby d11_10) rfl ?_
      show Steps p.tables e below (s₁.setTop (mkF m 11 #[.val (.long q1), .second, .val (.long q2), .second] [(.long q2)])) _
      exact kt
    obtain ⟨fs, hr, hrun, hended, hW, hsame⟩ := X0.leave (v := some (.long q2)) (fun h => by rw [Bd.returns] at h; cases h)
    refine ⟨_, _, pre1 _ ?_, hrun, hended, _, _, rfl, ?_, ⟨_, rfl⟩, hW, hsame.mono (by decide) (by decide)⟩
    · exact retJ X0 hx Bd.returns (hb hby d11_11) hr
    · show Q11 Z q1 q2 h0 n0 _ s₁.heap _
      rw [e0]
      exact ⟨by first | rfl | (simp only [r11, if_pos hc3]), N0, rfl⟩
  · skip
    have pre2 : ∀ t, Steps p.tables e below (s₁.setTop (mkF m 11 #[.val (.long q1), .second, .val (.long q2), .second] [(.long q1)])) t → Steps p.tables e below (s₁.setTop (entryFrame m #[(.long q1), (.long q2)] 4)) t := fun t kt => by
      refine pre0 t ?_
      refine XS.lloadN X0.here hx rfl (hb hby d11_0) rfl ?_
      show Steps p.tables e below (s₁.setTop (mkF m 1 #[.val (.long q1), .second, .val (.long q2), .second] [(.long q1)])) _
      refine XS.lloadN X0.here hx rfl (hb hby d11_1) rfl ?_
      show Steps p.tables e below (s₁.setTop (mkF m 2 #[.val (.long q1), .second, .val (.long q2), .second] [(.long q2), (.long q1)])) _
      refine XS.lcmp X0.here hx rfl (hb hby d11_2) rfl ?_
      show Steps p.tables e below (s₁.setTop (mkF m 3 #[.val (.long q1), .second, .val (.long q2), .second] [(.int (lcmpW q1 q2))])) _
      refine XS.ifNo X0.here hx rfl (hb hby d11_3) rfl ((if0 _ _).trans (flt hc3).1) ?_
      show Steps p.tables e below (s₁.setTop (mkF m 6 #[.val (.long q1), .second, .val (.long q2), .second] [])) _
      refine XS.lloadN X0.here hx rfl (hb hby d11_6) rfl ?_
      show Steps p.tables e below (s₁.setTop (mkF m 7 #[.val (.long q1), .second, .val (.long q2), .second] [(.long q1)])) _
      refine XS.goto X0.here hx rfl (pc0 := 7) (pc' := 11) rfl (hb hby d11_7) (by decide) (by decide) ?_
      show Steps p.tables e below (s₁.setTop (mkF m 11 #[.val (.long q1), .second, .val (.long q2), .second] [(.long q1)])) _
      exact kt
    obtain ⟨fs, hr, hrun, hended, hW, hsame⟩ := X0.leave (v := some (.long q1)) (fun h => by rw [Bd.returns] at h; cases h)
    refine ⟨_, _, pre2 _ ?_, hrun, hended, _, _, rfl, ?_, ⟨_, rfl⟩, hW, hsame.mono (by decide) (by decide)⟩
    · exact retJ X0 hx Bd.returns (hb hby d11_11) hr
    · show Q11 Z q1 q2 h0 n0 _ s₁.heap _
      rw [e0]
      exact ⟨by first | rfl | (simp only [r11, if_neg hc3]), N0, rfl⟩
theorem d12_0 : decode jdk_29_method_70_code 0 = .ok (.lload_n 0, 1) := by decide +kernel
theorem d12_1 : decode jdk_29_method_70_code 1 = .ok (.lload_n 2, 1) := by decide +kernel
theorem d12_2 : decode jdk_29_method_70_code 2 = .ok (.lcmp, 1) := by decide +kernel
theorem d12_3 : decode jdk_29_method_70_code 3 = .ok (.ifCond .gt 7, 3) := by decide +kernel
theorem d12_6 : decode jdk_29_method_70_code 6 = .ok (.lload_n 0, 1) := by decide +kernel
theorem d12_7 : decode jdk_29_method_70_code 7 = .ok (.goto 4, 3) := by decide +kernel
theorem d12_10 : decode jdk_29_method_70_code 10 = .ok (.lload_n 2, 1) := by decide +kernel
theorem d12_11 : decode jdk_29_method_70_code 11 = .ok (.lreturn, 1) := by decide +kernel
theorem ef_12 (m : MethodId) (x0 : Int64) (x1 : Int64) : entryFrame m #[(.long x0), (.long x1)] 4 = mkF m 0 #[.val (.long x0), .second, .val (.long x1), .second] [] := by first | (simp [entryFrame, mkF, argsToLocals, Value.category]; done) | rfl
def r12 (q1 : Int64) (q2 : Int64) : Int64 := (if (0 : Int32) < (lcmpW q1 q2) then q2 else q1)
def Q12 (Z : State) (q1 : Int64) (q2 : Int64) (h0 : Heap) (n0 : Nat) (v : Option Value) (h : Heap) (L : List Loc) : Prop := v = some (.long (r12 q1 q2)) ∧ Fr n0 L ∧ h = h0
set_option maxRecDepth 65536 in
set_option maxHeartbeats 40000000 in
theorem rm12 (l : Launch) (Z : State) (a0 : Array Value) (hw : ∀ d ∈ tables_1, d.before a0 Z = true) (ws : List Jvm.Cond) (q1 : Int64) (q2 : Int64) (h0 : Heap) (n0 : Nat) (Z0 : n0 ≤ h0.size)  :
    MetFree l (⟨"java/lang/Math", "min", "(JJ)J"⟩ : MethodName) (head1 (Jvm.Cond.code (⟨"java/lang/Math", "min", "(JJ)J"⟩ : MethodName) jdk_29_method_70_code 4 (some .long) :: ws) ({ frames := 0, cells := 0, slots := 0, locals := 0 } : Room)) (fun a U => a = #[(.long q1), (.long q2)] ∧ Z.Warmed39 U.vm ∧ U.heap = h0) (fun _ _ _ _ _ => True) (fun _ U o U' => ∃ v L, o = .returned v ∧ Q12 Z q1 q2 h0 n0 v U'.heap L ∧ FrameEnd U o U' L ({ frames := 0, cells := 0, slots := 0, locals := 0 } : Room).cells ({ frames := 0, cells := 0, slots := 0, locals := 0 } : Room).slots) := by
  refine MetFree.of_bodySF (Jvm.Free.JP.mathPlain rfl (by decide +kernel)) hisR ?_
  intro p e s m args below meth c s₁ Bd hml0 hP hK
  obtain ⟨rfl, hZ, hh⟩ := hP
  have hx := Bd.exec
  have hby := Bd.bytes
  have hml : c.maxLocals = 4 := hml0
  have hown : s.vm.findClass "java/lang/Math" = some m.cls := findClass_of_methodNamed Bd.named
  have hnm := (name_of_methodNamed Bd.named Bd.method).1
  have X0 : Stand p l e ({ frames := 0, cells := 0, slots := 0, locals := 0 } : Room) s m #[(.long q1), (.long q2)] below meth c s₁ [] 0 0 := Stand.of_body Bd
  have e0 : s₁.heap = h0 := by rw [← hh, Bd.state]; rfl
  have N0 := Fr.nil n0
  have pre0 : ∀ t, Steps p.tables e below (s₁.setTop (mkF m 0 #[.val (.long q1), .second, .val (.long q2), .second] [])) t → Steps p.tables e below (s₁.setTop (entryFrame m #[(.long q1), (.long q2)] 4)) t := fun t k => castTop (ef_12 m q1 q2) k
  by_cases hc3 : (0 : Int32) < (lcmpW q1 q2)
  · skip
    have pre1 : ∀ t, Steps p.tables e below (s₁.setTop (mkF m 11 #[.val (.long q1), .second, .val (.long q2), .second] [(.long q2)])) t → Steps p.tables e below (s₁.setTop (entryFrame m #[(.long q1), (.long q2)] 4)) t := fun t kt => by
      refine pre0 t ?_
      refine XS.lloadN X0.here hx rfl (hb hby d12_0) rfl ?_
      show Steps p.tables e below (s₁.setTop (mkF m 1 #[.val (.long q1), .second, .val (.long q2), .second] [(.long q1)])) _
      refine XS.lloadN X0.here hx rfl (hb hby d12_1) rfl ?_
      show Steps p.tables e below (s₁.setTop (mkF m 2 #[.val (.long q1), .second, .val (.long q2), .second] [(.long q2), (.long q1)])) _
      refine XS.lcmp X0.here hx rfl (hb hby d12_2) rfl ?_
      show Steps p.tables e below (s₁.setTop (mkF m 3 #[.val (.long q1), .second, .val (.long q2), .second] [(.int (lcmpW q1 q2))])) _
      refine XS.ifYes X0.here hx rfl (pc0 := 3) (pc' := 10) rfl (hb hby d12_3) rfl ((if0 _ _).trans (tlt hc3).2.2.1) (by decide) (by decide) ?_
      show Steps p.tables e below (s₁.setTop (mkF m 10 #[.val (.long q1), .second, .val (.long q2), .second] [])) _
      refine XS.lloadN X0.here hx rfl (hb hby d12_10) rfl ?_
      show Steps p.tables e below (s₁.setTop (mkF m 11 #[.val (.long q1), .second, .val (.long q2), .second] [(.long q2)])) _
      exact kt
    obtain ⟨fs, hr, hrun, hended, hW, hsame⟩ := X0.leave (v := some (.long q2)) (fun h => by rw [Bd.returns] at h; cases h)
    refine ⟨_, _, pre1 _ ?_, hrun, hended, _, _, rfl, ?_, ⟨_, rfl⟩, hW, hsame.mono (by decide) (by decide)⟩
    · exact retJ X0 hx Bd.returns (hb hby d12_11) hr
    · show Q12 Z q1 q2 h0 n0 _ s₁.heap _
      rw [e0]
      exact ⟨by first | rfl | (simp only [r12, if_pos hc3]), N0, rfl⟩
  · skip
    have pre2 : ∀ t, Steps p.tables e below (s₁.setTop (mkF m 11 #[.val (.long q1), .second, .val (.long q2), .second] [(.long q1)])) t → Steps p.tables e below (s₁.setTop (entryFrame m #[(.long q1), (.long q2)] 4)) t := fun t kt => by
      refine pre0 t ?_
      refine XS.lloadN X0.here hx rfl (hb hby d12_0) rfl ?_
      show Steps p.tables e below (s₁.setTop (mkF m 1 #[.val (.long q1), .second, .val (.long q2), .second] [(.long q1)])) _
      refine XS.lloadN X0.here hx rfl (hb hby d12_1) rfl ?_
      show Steps p.tables e below (s₁.setTop (mkF m 2 #[.val (.long q1), .second, .val (.long q2), .second] [(.long q2), (.long q1)])) _
      refine XS.lcmp X0.here hx rfl (hb hby d12_2) rfl ?_
      show Steps p.tables e below (s₁.setTop (mkF m 3 #[.val (.long q1), .second, .val (.long q2), .second] [(.int (lcmpW q1 q2))])) _
      refine XS.ifNo X0.here hx rfl (hb hby d12_3) rfl ((if0 _ _).trans (flt hc3).2.2.1) ?_
      show Steps p.tables e below (s₁.setTop (mkF m 6 #[.val (.long q1), .second, .val (.long q2), .second] [])) _
      refine XS.lloadN X0.here hx rfl (hb hby d12_6) rfl ?_
      show Steps p.tables e below (s₁.setTop (mkF m 7 #[.val (.long q1), .second, .val (.long q2), .second] [(.long q1)])) _
      refine XS.goto X0.here hx rfl (pc0 := 7) (pc' := 11) rfl (hb hby d12_7) (by decide) (by decide) ?_
      show Steps p.tables e below (s₁.setTop (mkF m 11 #[.val (.long q1), .second, .val (.long q2), .second] [(.long q1)])) _
      exact kt
    obtain ⟨fs, hr, hrun, hended, hW, hsame⟩ := X0.leave (v := some (.long q1)) (fun h => by rw [Bd.returns] at h; cases h)
    refine ⟨_, _, pre2 _ ?_, hrun, hended, _, _, rfl, ?_, ⟨_, rfl⟩, hW, hsame.mono (by decide) (by decide)⟩
    · exact retJ X0 hx Bd.returns (hb hby d12_11) hr
    · show Q12 Z q1 q2 h0 n0 _ s₁.heap _
      rw [e0]
      exact ⟨by first | rfl | (simp only [r12, if_neg hc3]), N0, rfl⟩
theorem d10_0 : decode prog_66_method_12_code 0 = .ok (.iload_n 0, 1) := by decide +kernel
theorem d10_1 : decode prog_66_method_12_code 1 = .ok (.i2l, 1) := by decide +kernel
theorem d10_2 : decode prog_66_method_12_code 2 = .ok (.iload_n 1, 1) := by decide +kernel
theorem d10_3 : decode prog_66_method_12_code 3 = .ok (.i2l, 1) := by decide +kernel
theorem d10_4 : decode prog_66_method_12_code 4 = .ok (.ladd, 1) := by decide +kernel
theorem d10_5 : decode prog_66_method_12_code 5 = .ok (.lstore_n 2, 1) := by decide +kernel
theorem d10_6 : decode prog_66_method_12_code 6 = .ok (.lload_n 2, 1) := by decide +kernel
theorem d10_7 : decode prog_66_method_12_code 7 = .ok (.ldc2_w 92, 3) := by decide +kernel
theorem d10_10 : decode prog_66_method_12_code 10 = .ok (.lcmp, 1) := by decide +kernel
theorem d10_11 : decode prog_66_method_12_code 11 = .ok (.ifCond .le 13, 3) := by decide +kernel
theorem d10_24 : decode prog_66_method_12_code 24 = .ok (.ldc2_w 92, 3) := by decide +kernel
theorem d10_27 : decode prog_66_method_12_code 27 = .ok (.lload_n 2, 1) := by decide +kernel
theorem d10_28 : decode prog_66_method_12_code 28 = .ok (.ldc2_w 101, 3) := by decide +kernel
theorem d10_31 : decode prog_66_method_12_code 31 = .ok (.iload_n 0, 1) := by decide +kernel
theorem d10_32 : decode prog_66_method_12_code 32 = .ok (.i2l, 1) := by decide +kernel
theorem d10_33 : decode prog_66_method_12_code 33 = .ok (.lmul, 1) := by decide +kernel
theorem d10_34 : decode prog_66_method_12_code 34 = .ok (.invokestatic 103, 3) := by decide +kernel
theorem d10_37 : decode prog_66_method_12_code 37 = .ok (.invokestatic 109, 3) := by decide +kernel
theorem d10_40 : decode prog_66_method_12_code 40 = .ok (.l2i, 1) := by decide +kernel
theorem d10_41 : decode prog_66_method_12_code 41 = .ok (.ireturn, 1) := by decide +kernel
theorem pn_com_example_accrete_accrete_io_KeyTable : plainName "com/example/accrete/accrete/io/KeyTable" = true := by first | (simp [plainName, overriddenIn]; done) | decide +kernel
theorem pd__JJ_J : parseMethodDescriptor "(JJ)J" = some ⟨[.long, .long], some .long⟩ := by decide +kernel
theorem ef_10 (m : MethodId) (x0 : Int32) (x1 : Int32) : entryFrame m #[(.int x0), (.int x1)] 4 = mkF m 0 #[.val (.int x0), .val (.int x1), .unset, .unset] [] := by first | (simp [entryFrame, mkF, argsToLocals, Value.category]; done) | rfl
def grw (p1 : Int32) (p2 : Int32) : Int32 := ((r12 (2147483639 : Int64) (r11 ((p1.toInt64) + (p2.toInt64)) ((2 : Int64) * (p1.toInt64)))).toInt32)
def Q10 (Z : State) (p1 : Int32) (p2 : Int32) (h0 : Heap) (n0 : Nat) (v : Option Value) (h : Heap) (L : List Loc) : Prop := v = some (.int (grw p1 p2)) ∧ Fr n0 L ∧ h = h0
set_option maxRecDepth 65536 in
set_option maxHeartbeats 40000000 in
theorem rm10 (l : Launch) (Z : State) (a0 : Array Value) (hw : ∀ d ∈ tables_1, d.before a0 Z = true) (ws : List Jvm.Cond) (p1 : Int32) (p2 : Int32) (h0 : Heap) (n0 : Nat) (Z0 : n0 ≤ h0.size) (hA : ¬ ((0 : Int32) < (lcmpW ((p1.toInt64) + (p2.toInt64)) (2147483639 : Int64)))) :
    MetFree l (⟨"com/example/accrete/accrete/io/KeyTable", "grownCapacity", "(II)I"⟩ : MethodName) (head1 (Jvm.Cond.code (⟨"com/example/accrete/accrete/io/KeyTable", "grownCapacity", "(II)I"⟩ : MethodName) prog_66_method_12_code 4 (some .int) :: ws) ({ frames := 1, cells := 0, slots := 0, locals := 17 } : Room)) (fun a U => a = #[(.int p1), (.int p2)] ∧ Z.Warmed39 U.vm ∧ U.heap = h0) (fun _ _ _ _ _ => True) (fun _ U o U' => ∃ v L, o = .returned v ∧ Q10 Z p1 p2 h0 n0 v U'.heap L ∧ FrameEnd U o U' L ({ frames := 1, cells := 0, slots := 0, locals := 17 } : Room).cells ({ frames := 1, cells := 0, slots := 0, locals := 17 } : Room).slots) := by
  refine MetFree.of_bodySF (plainFor_of_name pn_com_example_accrete_accrete_io_KeyTable) hisR ?_
  intro p e s m args below meth c s₁ Bd hml0 hP hK
  obtain ⟨rfl, hZ, hh⟩ := hP
  have hx := Bd.exec
  have hby := Bd.bytes
  have hml : c.maxLocals = 4 := hml0
  have hown : s.vm.findClass "com/example/accrete/accrete/io/KeyTable" = some m.cls := findClass_of_methodNamed Bd.named
  have hnm := (name_of_methodNamed Bd.named Bd.method).1
  have X0 : Stand p l e ({ frames := 1, cells := 0, slots := 0, locals := 17 } : Room) s m #[(.int p1), (.int p2)] below meth c s₁ [] 0 0 := Stand.of_body Bd
  have e0 : s₁.heap = h0 := by rw [← hh, Bd.state]; rfl
  have N0 := Fr.nil n0
  have pre0 : ∀ t, Steps p.tables e below (s₁.setTop (mkF m 0 #[.val (.int p1), .val (.int p2), .unset, .unset] [])) t → Steps p.tables e below (s₁.setTop (entryFrame m #[(.int p1), (.int p2)] 4)) t := fun t k => castTop (ef_10 m p1 p2) k
  have hc11 : ¬ ((0 : Int32) < (lcmpW ((p1.toInt64) + (p2.toInt64)) (2147483639 : Int64))) := hA
  have pre1 : ∀ t, Steps p.tables e below (s₁.setTop (mkF m 34 #[.val (.int p1), .val (.int p2), .val (.long ((p1.toInt64) + (p2.toInt64))), .second] [(.long ((2 : Int64) * (p1.toInt64))), (.long ((p1.toInt64) + (p2.toInt64))), (.long (2147483639 : Int64))])) t → Steps p.tables e below (s₁.setTop (entryFrame m #[(.int p1), (.int p2)] 4)) t := fun t kt => by
    refine pre0 t ?_
    refine XS.iloadN X0.here hx rfl (hb hby d10_0) rfl ?_
    show Steps p.tables e below (s₁.setTop (mkF m 1 #[.val (.int p1), .val (.int p2), .unset, .unset] [(.int p1)])) _
    refine XS.i2l X0.here hx rfl (hb hby d10_1) rfl ?_
    show Steps p.tables e below (s₁.setTop (mkF m 2 #[.val (.int p1), .val (.int p2), .unset, .unset] [(.long (p1.toInt64))])) _
    refine XS.iloadN X0.here hx rfl (hb hby d10_2) rfl ?_
    show Steps p.tables e below (s₁.setTop (mkF m 3 #[.val (.int p1), .val (.int p2), .unset, .unset] [(.int p2), (.long (p1.toInt64))])) _
    refine XS.i2l X0.here hx rfl (hb hby d10_3) rfl ?_
    show Steps p.tables e below (s₁.setTop (mkF m 4 #[.val (.int p1), .val (.int p2), .unset, .unset] [(.long (p2.toInt64)), (.long (p1.toInt64))])) _
    refine XS.ladd X0.here hx rfl (hb hby d10_4) rfl ?_
    show Steps p.tables e below (s₁.setTop (mkF m 5 #[.val (.int p1), .val (.int p2), .unset, .unset] [(.long ((p1.toInt64) + (p2.toInt64)))])) _
    refine XS.lstoreN X0.here hx rfl (hb hby d10_5) rfl (l' := #[.val (.int p1), .val (.int p2), .val (.long ((p1.toInt64) + (p2.toInt64))), .second]) rfl ?_
    show Steps p.tables e below (s₁.setTop (mkF m 6 #[.val (.int p1), .val (.int p2), .val (.long ((p1.toInt64) + (p2.toInt64))), .second] [])) _
    refine XS.lloadN X0.here hx rfl (hb hby d10_6) rfl ?_
    show Steps p.tables e below (s₁.setTop (mkF m 7 #[.val (.int p1), .val (.int p2), .val (.long ((p1.toInt64) + (p2.toInt64))), .second] [(.long ((p1.toInt64) + (p2.toInt64)))])) _
    refine X0.ldc2Long hx hown (mvT hZ (hw _ (mgE 75 rfl))) (g := (mkF m 7 #[.val (.int p1), .val (.int p2), .val (.long ((p1.toInt64) + (p2.toInt64))), .second] [(.long ((p1.toInt64) + (p2.toInt64)))])) rfl (hb hby d10_7) _ ?_
    show Steps p.tables e below (s₁.setTop (mkF m 10 #[.val (.int p1), .val (.int p2), .val (.long ((p1.toInt64) + (p2.toInt64))), .second] [(.long (2147483639 : Int64)), (.long ((p1.toInt64) + (p2.toInt64)))])) _
    refine XS.lcmp X0.here hx rfl (hb hby d10_10) rfl ?_
    show Steps p.tables e below (s₁.setTop (mkF m 11 #[.val (.int p1), .val (.int p2), .val (.long ((p1.toInt64) + (p2.toInt64))), .second] [(.int (lcmpW ((p1.toInt64) + (p2.toInt64)) (2147483639 : Int64)))])) _
    refine XS.ifYes X0.here hx rfl (pc0 := 11) (pc' := 24) rfl (hb hby d10_11) rfl ((if0 _ _).trans (flt hc11).2.2.2) (by decide) (by decide) ?_
    show Steps p.tables e below (s₁.setTop (mkF m 24 #[.val (.int p1), .val (.int p2), .val (.long ((p1.toInt64) + (p2.toInt64))), .second] [])) _
    refine X0.ldc2Long hx hown (mvT hZ (hw _ (mgE 75 rfl))) (g := (mkF m 24 #[.val (.int p1), .val (.int p2), .val (.long ((p1.toInt64) + (p2.toInt64))), .second] [])) rfl (hb hby d10_24) _ ?_
    show Steps p.tables e below (s₁.setTop (mkF m 27 #[.val (.int p1), .val (.int p2), .val (.long ((p1.toInt64) + (p2.toInt64))), .second] [(.long (2147483639 : Int64))])) _
    refine XS.lloadN X0.here hx rfl (hb hby d10_27) rfl ?_
    show Steps p.tables e below (s₁.setTop (mkF m 28 #[.val (.int p1), .val (.int p2), .val (.long ((p1.toInt64) + (p2.toInt64))), .second] [(.long ((p1.toInt64) + (p2.toInt64))), (.long (2147483639 : Int64))])) _
    refine X0.ldc2Long hx hown (mvT hZ (hw _ (mgE 76 rfl))) (g := (mkF m 28 #[.val (.int p1), .val (.int p2), .val (.long ((p1.toInt64) + (p2.toInt64))), .second] [(.long ((p1.toInt64) + (p2.toInt64))), (.long (2147483639 : Int64))])) rfl (hb hby d10_28) _ ?_
    show Steps p.tables e below (s₁.setTop (mkF m 31 #[.val (.int p1), .val (.int p2), .val (.long ((p1.toInt64) + (p2.toInt64))), .second] [(.long (2 : Int64)), (.long ((p1.toInt64) + (p2.toInt64))), (.long (2147483639 : Int64))])) _
    refine XS.iloadN X0.here hx rfl (hb hby d10_31) rfl ?_
    show Steps p.tables e below (s₁.setTop (mkF m 32 #[.val (.int p1), .val (.int p2), .val (.long ((p1.toInt64) + (p2.toInt64))), .second] [(.int p1), (.long (2 : Int64)), (.long ((p1.toInt64) + (p2.toInt64))), (.long (2147483639 : Int64))])) _
    refine XS.i2l X0.here hx rfl (hb hby d10_32) rfl ?_
    show Steps p.tables e below (s₁.setTop (mkF m 33 #[.val (.int p1), .val (.int p2), .val (.long ((p1.toInt64) + (p2.toInt64))), .second] [(.long (p1.toInt64)), (.long (2 : Int64)), (.long ((p1.toInt64) + (p2.toInt64))), (.long (2147483639 : Int64))])) _
    refine XS.lmul X0.here hx rfl (hb hby d10_33) rfl ?_
    show Steps p.tables e below (s₁.setTop (mkF m 34 #[.val (.int p1), .val (.int p2), .val (.long ((p1.toInt64) + (p2.toInt64))), .second] [(.long ((2 : Int64) * (p1.toInt64))), (.long ((p1.toInt64) + (p2.toInt64))), (.long (2147483639 : Int64))])) _
    exact kt
  obtain ⟨_, _, ⟨T2, L2, k2, n2⟩, -, X2, ⟨Lc2, hQ2, l2, y2, z2⟩, st2⟩ := Jvm.LawKit.callS X0 hx (y := (⟨"java/lang/Math", "max", "(JJ)J"⟩ : MethodName)) hown (mvT hZ (hw _ (mgE 77 rfl))) (mvT hZ (hw _ (mgE 78 rfl))) (mvT hZ (hw _ (mgE 79 rfl))) (mvT hZ (hw _ (mgE 80 rfl))) (by decide) (backOf (W := 2) (rm11 l Z a0 hw [] ((p1.toInt64) + (p2.toInt64)) ((2 : Int64) * (p1.toInt64)) h0 n0 Z0 ) hZ (hw _ (mgE 80 rfl)) (hw _ (mgE 79 rfl)) (by decide) (by decide)) (g := (mkF m 34 #[.val (.int p1), .val (.int p2), .val (.long ((p1.toInt64) + (p2.toInt64))), .second] [(.long ((2 : Int64) * (p1.toInt64))), (.long ((p1.toInt64) + (p2.toInt64))), (.long (2147483639 : Int64))])) rfl (by rw [hml]; rfl) (argsL := [(.long ((p1.toInt64) + (p2.toInt64))), (.long ((2 : Int64) * (p1.toInt64)))]) (rest := [(.long (2147483639 : Int64))]) (lenOf pd__JJ_J rfl) rfl (by show 2 * 0 + _ ≤ _; exact Nat.le_of_eq rfl) (hb hby d10_34) (fun _ _ => ⟨rfl, e0, (by decide : 0 + 0 ≤ _), (by decide : 0 + 0 ≤ _)⟩)
  dsimp only [Pt.U, Pt.locs, Pt.cells, Pt.slots] at X2 l2 y2 z2 st2 hQ2
  subst l2 y2 z2
  obtain ⟨rfl, N2q, e2⟩ := hQ2
  have pre3 : ∀ t, Steps p.tables e below (T2.setTop (mkF m 37 #[.val (.int p1), .val (.int p2), .val (.long ((p1.toInt64) + (p2.toInt64))), .second] [(.long (r11 ((p1.toInt64) + (p2.toInt64)) ((2 : Int64) * (p1.toInt64)))), (.long (2147483639 : Int64))])) t → Steps p.tables e below (s₁.setTop (entryFrame m #[(.int p1), (.int p2)] 4)) t := fun t kt => pre1 t (st2 t kt)
  have N2 := Fr.app N0 N2q
  obtain ⟨_, _, ⟨T4, L4, k4, n4⟩, -, X4, ⟨Lc4, hQ4, l4, y4, z4⟩, st4⟩ := Jvm.LawKit.callS X2 hx (y := (⟨"java/lang/Math", "min", "(JJ)J"⟩ : MethodName)) hown (mvT hZ (hw _ (mgE 81 rfl))) (mvT hZ (hw _ (mgE 82 rfl))) (mvT hZ (hw _ (mgE 79 rfl))) (mvT hZ (hw _ (mgE 83 rfl))) (by decide) (backOf (W := 0) (rm12 l Z a0 hw [] (2147483639 : Int64) (r11 ((p1.toInt64) + (p2.toInt64)) ((2 : Int64) * (p1.toInt64))) h0 n0 Z0 ) hZ (hw _ (mgE 83 rfl)) (hw _ (mgE 79 rfl)) (by decide) (by decide)) (g := (mkF m 37 #[.val (.int p1), .val (.int p2), .val (.long ((p1.toInt64) + (p2.toInt64))), .second] [(.long (r11 ((p1.toInt64) + (p2.toInt64)) ((2 : Int64) * (p1.toInt64)))), (.long (2147483639 : Int64))])) rfl (by rw [hml]; rfl) (argsL := [(.long (2147483639 : Int64)), (.long (r11 ((p1.toInt64) + (p2.toInt64)) ((2 : Int64) * (p1.toInt64))))]) (rest := []) (lenOf pd__JJ_J rfl) rfl (by show 2 * 0 + _ ≤ _; exact Nat.le_of_eq rfl) (hb hby d10_37) (fun _ _ => ⟨rfl, e2, (by decide : 0 + 0 ≤ _), (by decide : 0 + 0 ≤ _)⟩)
  dsimp only [Pt.U, Pt.locs, Pt.cells, Pt.slots] at X4 l4 y4 z4 st4 hQ4
  subst l4 y4 z4
  obtain ⟨rfl, N4q, e4⟩ := hQ4
  have pre5 : ∀ t, Steps p.tables e below (T4.setTop (mkF m 40 #[.val (.int p1), .val (.int p2), .val (.long ((p1.toInt64) + (p2.toInt64))), .second] [(.long (r12 (2147483639 : Int64) (r11 ((p1.toInt64) + (p2.toInt64)) ((2 : Int64) * (p1.toInt64)))))])) t → Steps p.tables e below (s₁.setTop (entryFrame m #[(.int p1), (.int p2)] 4)) t := fun t kt => pre3 t (st4 t kt)
  have N4 := Fr.app N2 N4q
  have pre6 : ∀ t, Steps p.tables e below (T4.setTop (mkF m 41 #[.val (.int p1), .val (.int p2), .val (.long ((p1.toInt64) + (p2.toInt64))), .second] [(.int ((r12 (2147483639 : Int64) (r11 ((p1.toInt64) + (p2.toInt64)) ((2 : Int64) * (p1.toInt64)))).toInt32))])) t → Steps p.tables e below (s₁.setTop (entryFrame m #[(.int p1), (.int p2)] 4)) t := fun t kt => by
    refine pre5 t ?_
    refine XS.l2i X4.here hx rfl (hb hby d10_40) rfl ?_
    show Steps p.tables e below (T4.setTop (mkF m 41 #[.val (.int p1), .val (.int p2), .val (.long ((p1.toInt64) + (p2.toInt64))), .second] [(.int ((r12 (2147483639 : Int64) (r11 ((p1.toInt64) + (p2.toInt64)) ((2 : Int64) * (p1.toInt64)))).toInt32))])) _
    exact kt
  obtain ⟨fs, hr, hrun, hended, hW, hsame⟩ := X4.leave (v := some (.int ((r12 (2147483639 : Int64) (r11 ((p1.toInt64) + (p2.toInt64)) ((2 : Int64) * (p1.toInt64)))).toInt32))) (fun h => by rw [Bd.returns] at h; cases h)
  refine ⟨_, _, pre6 _ ?_, hrun, hended, _, _, rfl, ?_, ⟨_, rfl⟩, hW, hsame.mono (by decide) (by decide)⟩
  · exact retI X4 hx Bd.returns (hb hby d10_41) hr
  · show Q10 Z p1 p2 h0 n0 _ T4.heap _
    rw [e4]
    exact ⟨by first | rfl | (simp only [grw]), N4, rfl⟩
theorem d14_0 : decode jdk_65_method_30_code 0 = .ok (.iload_n 1, 1) := by decide +kernel
theorem d14_1 : decode jdk_65_method_30_code 1 = .ok (.iload_n 2, 1) := by decide +kernel
theorem d14_2 : decode jdk_65_method_30_code 2 = .ok (.if_icmp .le 44, 3) := by decide +kernel
theorem d14_46 : decode jdk_65_method_30_code 46 = .ok (.iload_n 1, 1) := by decide +kernel
theorem d14_47 : decode jdk_65_method_30_code 47 = .ok (.ifCond .ge 12, 3) := by decide +kernel
theorem d14_59 : decode jdk_65_method_30_code 59 = .ok (.iload_n 2, 1) := by decide +kernel
theorem d14_60 : decode jdk_65_method_30_code 60 = .ok (.iload_n 0, 1) := by decide +kernel
theorem d14_61 : decode jdk_65_method_30_code 61 = .ok (.if_icmp .le 12, 3) := by decide +kernel
theorem d14_73 : decode jdk_65_method_30_code 73 = .ok (.return_, 1) := by decide +kernel
theorem pn_java_util_Arrays : plainName "java/util/Arrays" = true := by first | (simp [plainName, overriddenIn]; done) | decide +kernel
theorem ef_14 (m : MethodId) (x0 : Int32) (x1 : Int32) (x2 : Int32) : entryFrame m #[(.int x0), (.int x1), (.int x2)] 3 = mkF m 0 #[.val (.int x0), .val (.int x1), .val (.int x2)] [] := by first | (simp [entryFrame, mkF, argsToLocals, Value.category]; done) | rfl
def Q14 (Z : State) (p1 : Int32) (p2 : Int32) (p3 : Int32) (h0 : Heap) (n0 : Nat) (v : Option Value) (h : Heap) (L : List Loc) : Prop := v = none ∧ Fr n0 L ∧ h = h0
set_option maxRecDepth 65536 in
set_option maxHeartbeats 40000000 in
theorem rm14 (l : Launch) (Z : State) (a0 : Array Value) (hw : ∀ d ∈ tables_1, d.before a0 Z = true) (ws : List Jvm.Cond) (p1 : Int32) (p2 : Int32) (p3 : Int32) (h0 : Heap) (n0 : Nat) (Z0 : n0 ≤ h0.size) (hA : ¬ (p3 < p2)) (hB : ¬ (p2 < (0 : Int32))) (hC : ¬ (p1 < p3)) :
    MetFree l (⟨"java/util/Arrays", "rangeCheck", "(III)V"⟩ : MethodName) (head1 (Jvm.Cond.code (⟨"java/util/Arrays", "rangeCheck", "(III)V"⟩ : MethodName) jdk_65_method_30_code 3 none :: ws) ({ frames := 0, cells := 0, slots := 0, locals := 0 } : Room)) (fun a U => a = #[(.int p1), (.int p2), (.int p3)] ∧ Z.Warmed39 U.vm ∧ U.heap = h0) (fun _ _ _ _ _ => True) (fun _ U o U' => ∃ v L, o = .returned v ∧ Q14 Z p1 p2 p3 h0 n0 v U'.heap L ∧ FrameEnd U o U' L ({ frames := 0, cells := 0, slots := 0, locals := 0 } : Room).cells ({ frames := 0, cells := 0, slots := 0, locals := 0 } : Room).slots) := by
  refine MetFree.of_bodySF (plainFor_of_name pn_java_util_Arrays) hisR ?_
  intro p e s m args below meth c s₁ Bd hml0 hP hK
  obtain ⟨rfl, hZ, hh⟩ := hP
  have hx := Bd.exec
  have hby := Bd.bytes
  have hml : c.maxLocals = 3 := hml0
  have hown : s.vm.findClass "java/util/Arrays" = some m.cls := findClass_of_methodNamed Bd.named
  have hnm := (name_of_methodNamed Bd.named Bd.method).1
  have X0 : Stand p l e ({ frames := 0, cells := 0, slots := 0, locals := 0 } : Room) s m #[(.int p1), (.int p2), (.int p3)] below meth c s₁ [] 0 0 := Stand.of_body Bd
  have e0 : s₁.heap = h0 := by rw [← hh, Bd.state]; rfl
  have N0 := Fr.nil n0
  have pre0 : ∀ t, Steps p.tables e below (s₁.setTop (mkF m 0 #[.val (.int p1), .val (.int p2), .val (.int p3)] [])) t → Steps p.tables e below (s₁.setTop (entryFrame m #[(.int p1), (.int p2), (.int p3)] 3)) t := fun t k => castTop (ef_14 m p1 p2 p3) k
  have hc2 : ¬ (p3 < p2) := hA
  have hc47 : ¬ (p2 < (0 : Int32)) := hB
  have hc61 : ¬ (p1 < p3) := hC
  have pre1 : ∀ t, Steps p.tables e below (s₁.setTop (mkF m 73 #[.val (.int p1), .val (.int p2), .val (.int p3)] [])) t → Steps p.tables e below (s₁.setTop (entryFrame m #[(.int p1), (.int p2), (.int p3)] 3)) t := fun t kt => by
    refine pre0 t ?_
    refine XS.iloadN X0.here hx rfl (hb hby d14_0) rfl ?_
    show Steps p.tables e below (s₁.setTop (mkF m 1 #[.val (.int p1), .val (.int p2), .val (.int p3)] [(.int p2)])) _
    refine XS.iloadN X0.here hx rfl (hb hby d14_1) rfl ?_
    show Steps p.tables e below (s₁.setTop (mkF m 2 #[.val (.int p1), .val (.int p2), .val (.int p3)] [(.int p3), (.int p2)])) _
    refine XS.icmpYes X0.here hx rfl (pc0 := 2) (pc' := 46) rfl (hb hby d14_2) rfl (flt hc2).2.2.2 (by decide) (by decide) ?_
    show Steps p.tables e below (s₁.setTop (mkF m 46 #[.val (.int p1), .val (.int p2), .val (.int p3)] [])) _
    refine XS.iloadN X0.here hx rfl (hb hby d14_46) rfl ?_
    show Steps p.tables e below (s₁.setTop (mkF m 47 #[.val (.int p1), .val (.int p2), .val (.int p3)] [(.int p2)])) _
    refine XS.ifYes X0.here hx rfl (pc0 := 47) (pc' := 59) rfl (hb hby d14_47) rfl ((if0 _ _).trans (flt hc47).2.1) (by decide) (by decide) ?_
    show Steps p.tables e below (s₁.setTop (mkF m 59 #[.val (.int p1), .val (.int p2), .val (.int p3)] [])) _
    refine XS.iloadN X0.here hx rfl (hb hby d14_59) rfl ?_
    show Steps p.tables e below (s₁.setTop (mkF m 60 #[.val (.int p1), .val (.int p2), .val (.int p3)] [(.int p3)])) _
    refine XS.iloadN X0.here hx rfl (hb hby d14_60) rfl ?_
    show Steps p.tables e below (s₁.setTop (mkF m 61 #[.val (.int p1), .val (.int p2), .val (.int p3)] [(.int p1), (.int p3)])) _
    refine XS.icmpYes X0.here hx rfl (pc0 := 61) (pc' := 73) rfl (hb hby d14_61) rfl (flt hc61).2.2.2 (by decide) (by decide) ?_
    show Steps p.tables e below (s₁.setTop (mkF m 73 #[.val (.int p1), .val (.int p2), .val (.int p3)] [])) _
    exact kt
  obtain ⟨fs, hr, hrun, hended, hW, hsame⟩ := X0.leave (v := none) (fun _ => rfl)
  refine ⟨_, _, pre1 _ ?_, hrun, hended, _, _, rfl, ?_, ⟨_, rfl⟩, hW, hsame.mono (by decide) (by decide)⟩
  · exact X0.returnOut hx Bd.returns (hb hby d14_73) hr
  · show Q14 Z p1 p2 p3 h0 n0 _ s₁.heap _
    rw [e0]
    exact ⟨rfl, N0, rfl⟩
theorem d13_0 : decode jdk_65_method_104_code 0 = .ok (.aload_n 0, 1) := by decide +kernel
theorem d13_1 : decode jdk_65_method_104_code 1 = .ok (.arraylength, 1) := by decide +kernel
theorem d13_2 : decode jdk_65_method_104_code 2 = .ok (.iload_n 1, 1) := by decide +kernel
theorem d13_3 : decode jdk_65_method_104_code 3 = .ok (.iload_n 2, 1) := by decide +kernel
theorem d13_4 : decode jdk_65_method_104_code 4 = .ok (.invokestatic 13, 3) := by decide +kernel
theorem d13_7 : decode jdk_65_method_104_code 7 = .ok (.iload_n 1, 1) := by decide +kernel
theorem d13_8 : decode jdk_65_method_104_code 8 = .ok (.istore 4, 2) := by decide +kernel
theorem d13_10 : decode jdk_65_method_104_code 10 = .ok (.iload 4, 2) := by decide +kernel
theorem d13_12 : decode jdk_65_method_104_code 12 = .ok (.iload_n 2, 1) := by decide +kernel
theorem d13_13 : decode jdk_65_method_104_code 13 = .ok (.if_icmp .ge 14, 3) := by decide +kernel
theorem d13_16 : decode jdk_65_method_104_code 16 = .ok (.aload_n 0, 1) := by decide +kernel
theorem d13_17 : decode jdk_65_method_104_code 17 = .ok (.iload 4, 2) := by decide +kernel
theorem d13_19 : decode jdk_65_method_104_code 19 = .ok (.iload_n 3, 1) := by decide +kernel
theorem d13_20 : decode jdk_65_method_104_code 20 = .ok (.iastore, 1) := by decide +kernel
theorem d13_21 : decode jdk_65_method_104_code 21 = .ok (.iinc 4 1, 3) := by decide +kernel
theorem d13_24 : decode jdk_65_method_104_code 24 = .ok (.goto (-14), 3) := by decide +kernel
theorem d13_27 : decode jdk_65_method_104_code 27 = .ok (.return_, 1) := by decide +kernel
theorem pd__III_V : parseMethodDescriptor "(III)V" = some ⟨[.int, .int, .int], none⟩ := by decide +kernel
theorem ef_13 (m : MethodId) (x0 : Addr) (x1 : Int32) (x2 : Int32) (x3 : Int32) : entryFrame m #[(.ref x0), (.int x1), (.int x2), (.int x3)] 5 = mkF m 0 #[.val (.ref x0), .val (.int x1), .val (.int x2), .val (.int x3), .unset] [] := by first | (simp [entryFrame, mkF, argsToLocals, Value.category]; done) | rfl
def Q13 (Z : State) (a1 : Addr) (p2 : Int32) (p3 : Int32) (p4 : Int32) (z_a1 : Int32) (el_a1 : Nat → Int32) (h0 : Heap) (n0 : Nat) (v : Option Value) (h : Heap) (L : List Loc) : Prop := v = none ∧ Fr n0 L ∧ Keep h0 h [a1] ∧ Arf Z h a1 .int z_a1 (fun i => (.int ((fil el_a1 p2 p3 p4) i)))
set_option maxRecDepth 65536 in
set_option maxHeartbeats 40000000 in
theorem rm13 (l : Launch) (Z : State) (a0 : Array Value) (hw : ∀ d ∈ tables_1, d.before a0 Z = true) (ws : List Jvm.Cond) (a1 : Addr) (p2 : Int32) (p3 : Int32) (p4 : Int32) (z_a1 : Int32) (el_a1 : Nat → Int32) (h0 : Heap) (n0 : Nat) (Z0 : n0 ≤ h0.size) (V_a1 : Arf Z h0 a1 .int z_a1 (fun i => (.int (el_a1 i)))) (g_a1 : n0 ≤ a1) (hA : ¬ (p3 < p2)) (hB : ¬ (p2 < (0 : Int32))) (hC : ¬ (z_a1 < p3)) :
    MetFree l (⟨"java/util/Arrays", "fill", "([IIII)V"⟩ : MethodName) (head1 (Jvm.Cond.code (⟨"java/util/Arrays", "fill", "([IIII)V"⟩ : MethodName) jdk_65_method_104_code 5 none :: ws) ({ frames := 1, cells := 0, slots := 0, locals := 14 } : Room)) (fun a U => a = #[(.ref a1), (.int p2), (.int p3), (.int p4)] ∧ Z.Warmed39 U.vm ∧ U.heap = h0) (fun _ _ _ _ _ => True) (fun _ U o U' => ∃ v L, o = .returned v ∧ Q13 Z a1 p2 p3 p4 z_a1 el_a1 h0 n0 v U'.heap L ∧ FrameEnd U o U' L ({ frames := 1, cells := 0, slots := 0, locals := 14 } : Room).cells ({ frames := 1, cells := 0, slots := 0, locals := 14 } : Room).slots) := by
  refine MetFree.of_bodySF (plainFor_of_name pn_java_util_Arrays) hisR ?_
  intro p e s m args below meth c s₁ Bd hml0 hP hK
  obtain ⟨rfl, hZ, hh⟩ := hP
  have hx := Bd.exec
  have hby := Bd.bytes
  have hml : c.maxLocals = 5 := hml0
  have hown : s.vm.findClass "java/util/Arrays" = some m.cls := findClass_of_methodNamed Bd.named
  have hnm := (name_of_methodNamed Bd.named Bd.method).1
  have X0 : Stand p l e ({ frames := 1, cells := 0, slots := 0, locals := 14 } : Room) s m #[(.ref a1), (.int p2), (.int p3), (.int p4)] below meth c s₁ [] 0 0 := Stand.of_body Bd
  have e0 : s₁.heap = h0 := by rw [← hh, Bd.state]; rfl
  have N0 := Fr.nil n0
  have pre0 : ∀ t, Steps p.tables e below (s₁.setTop (mkF m 0 #[.val (.ref a1), .val (.int p2), .val (.int p3), .val (.int p4), .unset] [])) t → Steps p.tables e below (s₁.setTop (entryFrame m #[(.ref a1), (.int p2), (.int p3), (.int p4)] 5)) t := fun t k => castTop (ef_13 m a1 p2 p3 p4) k
  have pre1 : ∀ t, Steps p.tables e below (s₁.setTop (mkF m 1 #[.val (.ref a1), .val (.int p2), .val (.int p3), .val (.int p4), .unset] [(.ref a1)])) t → Steps p.tables e below (s₁.setTop (entryFrame m #[(.ref a1), (.int p2), (.int p3), (.int p4)] 5)) t := fun t kt => by
    refine pre0 t ?_
    refine XS.aloadN X0.here hx rfl (hb hby d13_0) rfl rfl ?_
    show Steps p.tables e below (s₁.setTop (mkF m 1 #[.val (.ref a1), .val (.int p2), .val (.int p3), .val (.int p4), .unset] [(.ref a1)])) _
    exact kt
  obtain ⟨cl2, Ar2, S2, Ng2, H2⟩ := id V_a1
  have pre3 : ∀ t, Steps p.tables e below (s₁.setTop (mkF m 4 #[.val (.ref a1), .val (.int p2), .val (.int p3), .val (.int p4), .unset] [(.int p3), (.int p2), (.int z_a1)])) t → Steps p.tables e below (s₁.setTop (entryFrame m #[(.ref a1), (.int p2), (.int p3), (.int p4)] 5)) t := fun t kt => by
    refine pre1 t ?_
    refine X0.arraylength hx (by rw [e0]; exact Ar2.1) (State.isArrayOf_alike hZ.alike Ar2.2.1) (g := (mkF m 1 #[.val (.ref a1), .val (.int p2), .val (.int p3), .val (.int p4), .unset] [(.ref a1)])) rfl rfl (hb hby d13_1) _ ?_
    rw [len_of S2 Ng2]
    show Steps p.tables e below (s₁.setTop (mkF m 2 #[.val (.ref a1), .val (.int p2), .val (.int p3), .val (.int p4), .unset] [(.int z_a1)])) _
    refine XS.iloadN X0.here hx rfl (hb hby d13_2) rfl ?_
    show Steps p.tables e below (s₁.setTop (mkF m 3 #[.val (.ref a1), .val (.int p2), .val (.int p3), .val (.int p4), .unset] [(.int p2), (.int z_a1)])) _
    refine XS.iloadN X0.here hx rfl (hb hby d13_3) rfl ?_
    show Steps p.tables e below (s₁.setTop (mkF m 4 #[.val (.ref a1), .val (.int p2), .val (.int p3), .val (.int p4), .unset] [(.int p3), (.int p2), (.int z_a1)])) _
    exact kt
  obtain ⟨_, _, ⟨T4, L4, k4, n4⟩, -, X4, ⟨Lc4, hQ4, l4, y4, z4⟩, st4⟩ := Jvm.LawKit.callS X0 hx (y := (⟨"java/util/Arrays", "rangeCheck", "(III)V"⟩ : MethodName)) hown (mvT hZ (hw _ (mgE 88 rfl))) (mvT hZ (hw _ (mgE 89 rfl))) (mvT hZ (hw _ (mgE 86 rfl))) (mvT hZ (hw _ (mgE 90 rfl))) (by decide) (backOf (W := 0) (rm14 l Z a0 hw [] z_a1 p2 p3 h0 n0 Z0 (hA) (hB) (hC)) hZ (hw _ (mgE 90 rfl)) (hw _ (mgE 86 rfl)) (by decide) (by decide)) (g := (mkF m 4 #[.val (.ref a1), .val (.int p2), .val (.int p3), .val (.int p4), .unset] [(.int p3), (.int p2), (.int z_a1)])) rfl (by rw [hml]; rfl) (argsL := [(.int z_a1), (.int p2), (.int p3)]) (rest := []) (lenOf pd__III_V rfl) rfl (by show 2 * 0 + _ ≤ _; exact Nat.le_of_eq rfl) (hb hby d13_4) (fun _ _ => ⟨rfl, e0, (by decide : 0 + 0 ≤ _), (by decide : 0 + 0 ≤ _)⟩)
  dsimp only [Pt.U, Pt.locs, Pt.cells, Pt.slots] at X4 l4 y4 z4 st4 hQ4
  subst l4 y4 z4
  obtain ⟨rfl, N4q, e4⟩ := hQ4
  have pre5 : ∀ t, Steps p.tables e below (T4.setTop (mkF m 7 #[.val (.ref a1), .val (.int p2), .val (.int p3), .val (.int p4), .unset] [])) t → Steps p.tables e below (s₁.setTop (entryFrame m #[(.ref a1), (.int p2), (.int p3), (.int p4)] 5)) t := fun t kt => pre3 t (st4 t kt)
  have N4 := Fr.app N0 N4q
  have w1 := Int32.not_lt.mp hA
  have w2 := Int32.not_lt.mp hB
  have w3 := Int32.not_lt.mp hC
  rw [Int32.le_iff_toInt_le] at w1 w2 w3
  rw [show (0 : Int32).toInt = 0 from by decide] at w2
  have pre6 : ∀ t, Steps p.tables e below (T4.setTop (mkF m 10 #[.val (.ref a1), .val (.int p2), .val (.int p3), .val (.int p4), .val (.int p2)] [])) t → Steps p.tables e below (s₁.setTop (entryFrame m #[(.ref a1), (.int p2), (.int p3), (.int p4)] 5)) t := fun t kt => by
    refine pre5 t ?_
    refine XS.iloadN X4.here hx rfl (hb hby d13_7) rfl ?_
    show Steps p.tables e below (T4.setTop (mkF m 8 #[.val (.ref a1), .val (.int p2), .val (.int p3), .val (.int p4), .unset] [(.int p2)])) _
    refine XS.istore X4.here hx rfl (hb hby d13_8) rfl (l' := #[.val (.ref a1), .val (.int p2), .val (.int p3), .val (.int p4), .val (.int p2)]) rfl ?_
    show Steps p.tables e below (T4.setTop (mkF m 10 #[.val (.ref a1), .val (.int p2), .val (.int p3), .val (.int p4), .val (.int p2)] [])) _
    exact kt
  have hloop10 : ∀ (k : Nat) (vi : Int32) (TL : State) (LL : List Loc) (hL : Heap), (p2.toInt ≤ vi.toInt) → (vi.toInt ≤ p3.toInt) → (p3.toInt - vi.toInt).toNat < k → Stand p l e ({ frames := 1, cells := 0, slots := 0, locals := 14 } : Room) s m #[(.ref a1), (.int p2), (.int p3), (.int p4)] below meth c TL LL 0 0 → TL.heap = hL → Fr n0 LL → Keep h0 hL [a1] → Arf Z hL a1 .int z_a1 (fun i => (.int ((fil el_a1 p2 vi p4) i))) → ∃ (Tx : State) (Lx : List Loc) (hx_ : Heap) (vix : Int32), (vix = p3) ∧ Stand p l e ({ frames := 1, cells := 0, slots := 0, locals := 14 } : Room) s m #[(.ref a1), (.int p2), (.int p3), (.int p4)] below meth c Tx Lx 0 0 ∧ Tx.heap = hx_ ∧ Fr n0 Lx ∧ Keep h0 hx_ [a1] ∧ Arf Z hx_ a1 .int z_a1 (fun i => (.int ((fil el_a1 p2 vix p4) i))) ∧ (∀ t, Steps p.tables e below (Tx.setTop (mkF m 27 #[.val (.ref a1), .val (.int p2), .val (.int p3), .val (.int p4), .val (.int vix)] [])) t → Steps p.tables e below (TL.setTop (mkF m 10 #[.val (.ref a1), .val (.int p2), .val (.int p3), .val (.int p4), .val (.int vi)] [])) t) := by
    intro k
    induction k with
    | zero => intro vi TL LL hL hlo hhi hm; exact absurd hm (Nat.not_lt_zero _)
    | succ k ih =>
      intro vi TL LL hL hlo hhi hm XL eL NL KL VL0
      have ZL : n0 ≤ hL.size := Nat.le_trans Z0 KL.1
      by_cases hc13 : vi < p3
      · skip
        have pre8 : ∀ t, Steps p.tables e below (TL.setTop (mkF m 20 #[.val (.ref a1), .val (.int p2), .val (.int p3), .val (.int p4), .val (.int vi)] [(.int p4), (.int vi), (.ref a1)])) t → Steps p.tables e below (TL.setTop (mkF m 10 #[.val (.ref a1), .val (.int p2), .val (.int p3), .val (.int p4), .val (.int vi)] [])) t := fun t kt => by
          refine (fun t (kt : Steps p.tables e below (TL.setTop (mkF m 10 #[.val (.ref a1), .val (.int p2), .val (.int p3), .val (.int p4), .val (.int vi)] [])) t) => kt) t ?_
          refine XS.iload XL.here hx rfl (hb hby d13_10) rfl ?_
          show Steps p.tables e below (TL.setTop (mkF m 12 #[.val (.ref a1), .val (.int p2), .val (.int p3), .val (.int p4), .val (.int vi)] [(.int vi)])) _
          refine XS.iloadN XL.here hx rfl (hb hby d13_12) rfl ?_
          show Steps p.tables e below (TL.setTop (mkF m 13 #[.val (.ref a1), .val (.int p2), .val (.int p3), .val (.int p4), .val (.int vi)] [(.int p3), (.int vi)])) _
          refine XS.icmpNo XL.here hx rfl (hb hby d13_13) rfl (tlt hc13).2.1 ?_
          show Steps p.tables e below (TL.setTop (mkF m 16 #[.val (.ref a1), .val (.int p2), .val (.int p3), .val (.int p4), .val (.int vi)] [])) _
          refine XS.aloadN XL.here hx rfl (hb hby d13_16) rfl rfl ?_
          show Steps p.tables e below (TL.setTop (mkF m 17 #[.val (.ref a1), .val (.int p2), .val (.int p3), .val (.int p4), .val (.int vi)] [(.ref a1)])) _
          refine XS.iload XL.here hx rfl (hb hby d13_17) rfl ?_
          show Steps p.tables e below (TL.setTop (mkF m 19 #[.val (.ref a1), .val (.int p2), .val (.int p3), .val (.int p4), .val (.int vi)] [(.int vi), (.ref a1)])) _
          refine XS.iloadN XL.here hx rfl (hb hby d13_19) rfl ?_
          show Steps p.tables e below (TL.setTop (mkF m 20 #[.val (.ref a1), .val (.int p2), .val (.int p3), .val (.int p4), .val (.int vi)] [(.int p4), (.int vi), (.ref a1)])) _
          exact kt
        obtain ⟨cl9, Ar9, S9, Ng9, H9⟩ := id VL0
        have hj9 : ¬ vi < 0 ∧ vi < z_a1 := ⟨own_lt0 vi (by omega), Int32.lt_iff_toInt_lt.mpr (by have w4 := Int32.lt_iff_toInt_lt.mp hc13; omega)⟩
        have hin9 := inb_of S9 hj9
        obtain ⟨T10, h10, X10, e10, W10, st10⟩ := stI XL hx hZ eL Ar9 (j := vi) hin9 (g := (mkF m 20 #[.val (.ref a1), .val (.int p2), .val (.int p3), .val (.int p4), .val (.int vi)] [(.int p4), (.int vi), (.ref a1)])) rfl rfl (hb hby d13_20)
        have V10_a1 : Arf Z h10 a1 .int z_a1 (fun i => (.int ((own_upd (fil el_a1 p2 vi p4) (vi).toNatClampNeg p4) i))) := upd_int _ _ _ ▸ (VL0.set W10)
        have K10 : Keep h0 h10 [a1] := KL.wr W10 (Or.inl (mgE 0 rfl))
        have pre12 : ∀ t, Steps p.tables e below (T10.setTop (mkF m 21 #[.val (.ref a1), .val (.int p2), .val (.int p3), .val (.int p4), .val (.int vi)] [])) t → Steps p.tables e below (TL.setTop (mkF m 10 #[.val (.ref a1), .val (.int p2), .val (.int p3), .val (.int p4), .val (.int vi)] [])) t := fun t kt => pre8 t (st10 t kt)
        have N10 := Fr.snoc X10 NL g_a1
        have pre13 : ∀ t, Steps p.tables e below (T10.setTop (mkF m 10 #[.val (.ref a1), .val (.int p2), .val (.int p3), .val (.int p4), .val (.int (vi + (1 : Int32)))] [])) t → Steps p.tables e below (TL.setTop (mkF m 10 #[.val (.ref a1), .val (.int p2), .val (.int p3), .val (.int p4), .val (.int vi)] [])) t := fun t kt => by
          refine pre12 t ?_
          refine XS.iinc X10.here hx rfl (hb hby d13_21) rfl (l' := #[.val (.ref a1), .val (.int p2), .val (.int p3), .val (.int p4), .val (.int (vi + (1 : Int32)))]) rfl ?_
          show Steps p.tables e below (T10.setTop (mkF m 24 #[.val (.ref a1), .val (.int p2), .val (.int p3), .val (.int p4), .val (.int (vi + (1 : Int32)))] [])) _
          refine XS.goto X10.here hx rfl (pc0 := 24) (pc' := 10) rfl (hb hby d13_24) (by decide) (by decide) ?_
          show Steps p.tables e below (T10.setTop (mkF m 10 #[.val (.ref a1), .val (.int p2), .val (.int p3), .val (.int p4), .val (.int (vi + (1 : Int32)))] [])) _
          exact kt
        obtain ⟨Tx, Lx, hx_, vix, px0, Xx, ex_, Nx, Kx, Vx0, lp⟩ := ih (vi + (1 : Int32)) _ _ _ (by rw [own_nx vi p3 hc13]; omega) (by rw [own_nx vi p3 hc13]; have w4 := Int32.lt_iff_toInt_lt.mp hc13; omega) (by rw [own_nx vi p3 hc13]; have w4 := Int32.lt_iff_toInt_lt.mp hc13; omega) X10 e10 N10 K10 (V10_a1.cong (fun i _ => congrArg Value.int (own_filS el_a1 p2 vi p3 p4 w2 hlo hc13 i)) : Arf Z h10 a1 .int z_a1 (fun i => (.int ((fil el_a1 p2 (vi + (1 : Int32)) p4) i))))
        exact ⟨Tx, Lx, hx_, vix, px0, Xx, ex_, Nx, Kx, Vx0, fun t kt => pre13 t (lp t kt)⟩
      · skip
        have pre14 : ∀ t, Steps p.tables e below (TL.setTop (mkF m 27 #[.val (.ref a1), .val (.int p2), .val (.int p3), .val (.int p4), .val (.int vi)] [])) t → Steps p.tables e below (TL.setTop (mkF m 10 #[.val (.ref a1), .val (.int p2), .val (.int p3), .val (.int p4), .val (.int vi)] [])) t := fun t kt => by
          refine (fun t (kt : Steps p.tables e below (TL.setTop (mkF m 10 #[.val (.ref a1), .val (.int p2), .val (.int p3), .val (.int p4), .val (.int vi)] [])) t) => kt) t ?_
          refine XS.iload XL.here hx rfl (hb hby d13_10) rfl ?_
          show Steps p.tables e below (TL.setTop (mkF m 12 #[.val (.ref a1), .val (.int p2), .val (.int p3), .val (.int p4), .val (.int vi)] [(.int vi)])) _
          refine XS.iloadN XL.here hx rfl (hb hby d13_12) rfl ?_
          show Steps p.tables e below (TL.setTop (mkF m 13 #[.val (.ref a1), .val (.int p2), .val (.int p3), .val (.int p4), .val (.int vi)] [(.int p3), (.int vi)])) _
          refine XS.icmpYes XL.here hx rfl (pc0 := 13) (pc' := 27) rfl (hb hby d13_13) rfl (flt hc13).2.1 (by decide) (by decide) ?_
          show Steps p.tables e below (TL.setTop (mkF m 27 #[.val (.ref a1), .val (.int p2), .val (.int p3), .val (.int p4), .val (.int vi)] [])) _
          exact kt
        exact ⟨TL, _, _, vi, (Int32.toInt_inj.mp (by have w4 := mt Int32.lt_iff_toInt_lt.mpr hc13; omega)), XL, eL, NL, KL, VL0, pre14⟩
  obtain ⟨T15, L15, h15, vfin, px, X15, e15, N15, K15, VQ15_0, lq15⟩ := hloop10 ((p3.toInt - p2.toInt).toNat + 1) p2 _ _ _ (Int.le_refl _) (w1) (Nat.lt_succ_self _) X4 e4 N4 (Keep.refl _ _) (V_a1.cong (fun i _ => congrArg Value.int (own_fil0 el_a1 p2 p4 i)) : Arf Z h0 a1 .int z_a1 (fun i => (.int ((fil el_a1 p2 p2 p4) i))))
  have KK15 : Keep h0 h15 [a1] := Keep.trans (Keep.refl h0 [a1]) K15 (allS (Or.inl (mgE 0 rfl)) all0)
  have pre17 : ∀ t, Steps p.tables e below (T15.setTop (mkF m 27 #[.val (.ref a1), .val (.int p2), .val (.int p3), .val (.int p4), .val (.int vfin)] [])) t → Steps p.tables e below (s₁.setTop (entryFrame m #[(.ref a1), (.int p2), (.int p3), (.int p4)] 5)) t := fun t kt => pre6 t (lq15 t kt)
  have px_y := px.symm
  subst px_y
  obtain ⟨fs, hr, hrun, hended, hW, hsame⟩ := X15.leave (v := none) (fun _ => rfl)
  refine ⟨_, _, pre17 _ ?_, hrun, hended, _, _, rfl, ?_, ⟨_, rfl⟩, hW, hsame.mono (by decide) (by decide)⟩
  · exact X15.returnOut hx Bd.returns (hb hby d13_27) hr
  · show Q13 Z a1 p2 p3 p4 z_a1 el_a1 h0 n0 _ T15.heap _
    rw [e15]
    exact ⟨rfl, N15, KK15, VQ15_0⟩
theorem d16_0 : decode jdk_65_method_118_code 0 = .ok (.aload_n 0, 1) := by decide +kernel
theorem d16_1 : decode jdk_65_method_118_code 1 = .ok (.arraylength, 1) := by decide +kernel
theorem d16_2 : decode jdk_65_method_118_code 2 = .ok (.iload_n 1, 1) := by decide +kernel
theorem d16_3 : decode jdk_65_method_118_code 3 = .ok (.iload_n 2, 1) := by decide +kernel
theorem d16_4 : decode jdk_65_method_118_code 4 = .ok (.invokestatic 13, 3) := by decide +kernel
theorem d16_7 : decode jdk_65_method_118_code 7 = .ok (.iload_n 1, 1) := by decide +kernel
theorem d16_8 : decode jdk_65_method_118_code 8 = .ok (.istore 4, 2) := by decide +kernel
theorem d16_10 : decode jdk_65_method_118_code 10 = .ok (.iload 4, 2) := by decide +kernel
theorem d16_12 : decode jdk_65_method_118_code 12 = .ok (.iload_n 2, 1) := by decide +kernel
theorem d16_13 : decode jdk_65_method_118_code 13 = .ok (.if_icmp .ge 14, 3) := by decide +kernel
theorem d16_16 : decode jdk_65_method_118_code 16 = .ok (.aload_n 0, 1) := by decide +kernel
theorem d16_17 : decode jdk_65_method_118_code 17 = .ok (.iload 4, 2) := by decide +kernel
theorem d16_19 : decode jdk_65_method_118_code 19 = .ok (.aload_n 3, 1) := by decide +kernel
theorem d16_20 : decode jdk_65_method_118_code 20 = .ok (.aastore, 1) := by decide +kernel
theorem d16_21 : decode jdk_65_method_118_code 21 = .ok (.iinc 4 1, 3) := by decide +kernel
theorem d16_24 : decode jdk_65_method_118_code 24 = .ok (.goto (-14), 3) := by decide +kernel
theorem d16_27 : decode jdk_65_method_118_code 27 = .ok (.return_, 1) := by decide +kernel
theorem ef_16n3 (m : MethodId) (x0 : Addr) : entryFrame m #[(.ref x0), (.int (0 : Int32)), (.int (3 : Int32)), .null] 5 = mkF m 0 #[.val (.ref x0), .val (.int (0 : Int32)), .val (.int (3 : Int32)), .val .null, .unset] [] := by first | (simp [entryFrame, mkF, argsToLocals, Value.category]; done) | rfl
def Q16n3 (Z : State) (a1 : Addr) (el_a1 : Nat → Value) (h0 : Heap) (n0 : Nat) (v : Option Value) (h : Heap) (L : List Loc) : Prop := v = none ∧ Fr n0 L ∧ Keep h0 h [a1] ∧ Arf Z h a1 (.array .byte) (1024 : Int32) (own_upd (own_upd (own_upd el_a1 ((0 : Int32)).toNatClampNeg Value.null) ((1 : Int32)).toNatClampNeg Value.null) ((2 : Int32)).toNatClampNeg Value.null)
set_option maxRecDepth 65536 in
set_option maxHeartbeats 40000000 in
theorem rm16n3 (l : Launch) (Z : State) (a0 : Array Value) (hw : ∀ d ∈ tables_1, d.before a0 Z = true) (ws : List Jvm.Cond) (a1 : Addr) (el_a1 : Nat → Value) (h0 : Heap) (n0 : Nat) (Z0 : n0 ≤ h0.size) (V_a1 : Arf Z h0 a1 (.array .byte) (1024 : Int32) el_a1) (g_a1 : n0 ≤ a1) :
    MetFree l (⟨"java/util/Arrays", "fill", "([Ljava/lang/Object;IILjava/lang/Object;)V"⟩ : MethodName) (head1 (Jvm.Cond.code (⟨"java/util/Arrays", "fill", "([Ljava/lang/Object;IILjava/lang/Object;)V"⟩ : MethodName) jdk_65_method_118_code 5 none :: ws) ({ frames := 1, cells := 0, slots := 0, locals := 14 } : Room)) (fun a U => a = #[(.ref a1), (.int (0 : Int32)), (.int (3 : Int32)), .null] ∧ Z.Warmed39 U.vm ∧ U.heap = h0) (fun _ _ _ _ _ => True) (fun _ U o U' => ∃ v L, o = .returned v ∧ Q16n3 Z a1 el_a1 h0 n0 v U'.heap L ∧ FrameEnd U o U' L ({ frames := 1, cells := 0, slots := 0, locals := 14 } : Room).cells ({ frames := 1, cells := 0, slots := 0, locals := 14 } : Room).slots) := by
  refine MetFree.of_bodySF (plainFor_of_name pn_java_util_Arrays) hisR ?_
  intro p e s m args below meth c s₁ Bd hml0 hP hK
  obtain ⟨rfl, hZ, hh⟩ := hP
  have hx := Bd.exec
  have hby := Bd.bytes
  have hml : c.maxLocals = 5 := hml0
  have hown : s.vm.findClass "java/util/Arrays" = some m.cls := findClass_of_methodNamed Bd.named
  have hnm := (name_of_methodNamed Bd.named Bd.method).1
  have X0 : Stand p l e ({ frames := 1, cells := 0, slots := 0, locals := 14 } : Room) s m #[(.ref a1), (.int (0 : Int32)), (.int (3 : Int32)), .null] below meth c s₁ [] 0 0 := Stand.of_body Bd
  have e0 : s₁.heap = h0 := by rw [← hh, Bd.state]; rfl
  have N0 := Fr.nil n0
  obtain ⟨EN, hEN, pre0⟩ : ∃ EN : _ → Prop, (∀ t, EN t → Steps p.tables e below (s₁.setTop (entryFrame m #[(.ref a1), (.int (0 : Int32)), (.int (3 : Int32)), .null] 5)) t) ∧ (∀ t, Steps p.tables e below (s₁.setTop (mkF m 0 #[.val (.ref a1), .val (.int (0 : Int32)), .val (.int (3 : Int32)), .val .null, .unset] [])) t → EN t) := ⟨_, fun _ h => h, fun t k => castTop (ef_16n3 m a1) k⟩
  obtain ⟨cl1, Ar1, S1, Ng1, H1⟩ := id V_a1
  obtain ⟨_, _, ⟨T2, L2, k2, n2⟩, -, X2, ⟨Lc2, hQ2, l2, y2, z2⟩, st2⟩ := Jvm.LawKit.callS X0 hx (y := (⟨"java/util/Arrays", "rangeCheck", "(III)V"⟩ : MethodName)) hown (mvT hZ (hw _ (mgE 88 rfl))) (mvT hZ (hw _ (mgE 89 rfl))) (mvT hZ (hw _ (mgE 86 rfl))) (mvT hZ (hw _ (mgE 90 rfl))) (by decide) (backOf (W := 0) (rm14 l Z a0 hw [] (1024 : Int32) (0 : Int32) (3 : Int32) h0 n0 Z0 (by decide) (by decide) (by decide)) hZ (hw _ (mgE 90 rfl)) (hw _ (mgE 86 rfl)) (by decide) (by decide)) (g := (mkF m 4 #[.val (.ref a1), .val (.int (0 : Int32)), .val (.int (3 : Int32)), .val .null, .unset] [(.int (3 : Int32)), (.int (0 : Int32)), (.int (1024 : Int32))])) rfl (by rw [hml]; rfl) (argsL := [(.int (1024 : Int32)), (.int (0 : Int32)), (.int (3 : Int32))]) (rest := []) (lenOf pd__III_V rfl) rfl (by show 2 * 0 + _ ≤ _; exact Nat.le_of_eq rfl) (hb hby d16_4) (fun _ _ => ⟨rfl, e0, (by decide : 0 + 0 ≤ _), (by decide : 0 + 0 ≤ _)⟩)
  dsimp only [Pt.U, Pt.locs, Pt.cells, Pt.slots] at X2 l2 y2 z2 st2 hQ2
  subst l2 y2 z2
  obtain ⟨rfl, N2q, e2⟩ := hQ2
  have N2 := Fr.app N0 N2q
  obtain ⟨cl4, Ar4, S4, Ng4, H4⟩ := id V_a1
  have hj4 : ¬ (0 : Int32) < 0 ∧ (0 : Int32) < (1024 : Int32) := ⟨by decide, by decide⟩
  have hin4 := inb_of S4 hj4
  obtain ⟨T5, h5, X5, e5, W5, st5⟩ := stR X2 hx hZ e2 Ar4 (j := (0 : Int32)) hin4 rfl (Or.inl rfl) (g := (mkF m 20 #[.val (.ref a1), .val (.int (0 : Int32)), .val (.int (3 : Int32)), .val .null, .val (.int (0 : Int32))] [.null, (.int (0 : Int32)), (.ref a1)])) rfl rfl (hb hby d16_20)
  have V5_a1 : Arf Z h5 a1 (.array .byte) (1024 : Int32) (own_upd el_a1 ((0 : Int32)).toNatClampNeg Value.null) := (V_a1.set W5)
  have K5 : Keep h0 h5 [a1] := (Keep.refl h0 [a1]).wr W5 (Or.inl (mgE 0 rfl))
  have N5 := Fr.snoc X5 N2 g_a1
  obtain ⟨cl8, Ar8, S8, Ng8, H8⟩ := id V5_a1
  have hj8 : ¬ (1 : Int32) < 0 ∧ (1 : Int32) < (1024 : Int32) := ⟨by decide, by decide⟩
  have hin8 := inb_of S8 hj8
  obtain ⟨T9, h9, X9, e9, W9, st9⟩ := stR X5 hx hZ e5 Ar8 (j := (1 : Int32)) hin8 rfl (Or.inl rfl) (g := (mkF m 20 #[.val (.ref a1), .val (.int (0 : Int32)), .val (.int (3 : Int32)), .val .null, .val (.int (1 : Int32))] [.null, (.int (1 : Int32)), (.ref a1)])) rfl rfl (hb hby d16_20)
  have V9_a1 : Arf Z h9 a1 (.array .byte) (1024 : Int32) (own_upd (own_upd el_a1 ((0 : Int32)).toNatClampNeg Value.null) ((1 : Int32)).toNatClampNeg Value.null) := (V5_a1.set W9)
  have K9 : Keep h0 h9 [a1] := K5.wr W9 (Or.inl (mgE 0 rfl))
  have N9 := Fr.snoc X9 N5 g_a1
  obtain ⟨cl12, Ar12, S12, Ng12, H12⟩ := id V9_a1
  have hj12 : ¬ (2 : Int32) < 0 ∧ (2 : Int32) < (1024 : Int32) := ⟨by decide, by decide⟩
  have hin12 := inb_of S12 hj12
  obtain ⟨T13, h13, X13, e13, W13, st13⟩ := stR X9 hx hZ e9 Ar12 (j := (2 : Int32)) hin12 rfl (Or.inl rfl) (g := (mkF m 20 #[.val (.ref a1), .val (.int (0 : Int32)), .val (.int (3 : Int32)), .val .null, .val (.int (2 : Int32))] [.null, (.int (2 : Int32)), (.ref a1)])) rfl rfl (hb hby d16_20)
  have V13_a1 : Arf Z h13 a1 (.array .byte) (1024 : Int32) (own_upd (own_upd (own_upd el_a1 ((0 : Int32)).toNatClampNeg Value.null) ((1 : Int32)).toNatClampNeg Value.null) ((2 : Int32)).toNatClampNeg Value.null) := (V9_a1.set W13)
  have K13 : Keep h0 h13 [a1] := K9.wr W13 (Or.inl (mgE 0 rfl))
  have N13 := Fr.snoc X13 N9 g_a1
  have pre16 : ∀ t, Steps p.tables e below (T13.setTop (mkF m 27 #[.val (.ref a1), .val (.int (0 : Int32)), .val (.int (3 : Int32)), .val .null, .val (.int (3 : Int32))] [])) t → EN t := fun t kt => by
    refine pre0 t ?_
    refine XS.aloadN X0.here hx rfl (hb hby d16_0) rfl rfl ?_
    refine X0.arraylength hx (by rw [e0]; exact Ar1.1) (State.isArrayOf_alike hZ.alike Ar1.2.1) (g := (mkF m 1 #[.val (.ref a1), .val (.int (0 : Int32)), .val (.int (3 : Int32)), .val .null, .unset] [(.ref a1)])) rfl rfl (hb hby d16_1) _ ?_
    rw [len_of S1 Ng1]
    refine XS.iloadN X0.here hx rfl (hb hby d16_2) rfl ?_
    refine XS.iloadN X0.here hx rfl (hb hby d16_3) rfl ?_
    refine st2 t ?_
    refine XS.iloadN X2.here hx rfl (hb hby d16_7) rfl ?_
    refine XS.istore X2.here hx rfl (hb hby d16_8) rfl (l' := #[.val (.ref a1), .val (.int (0 : Int32)), .val (.int (3 : Int32)), .val .null, .val (.int (0 : Int32))]) rfl ?_
    refine XS.iload X2.here hx rfl (hb hby d16_10) rfl ?_
    refine XS.iloadN X2.here hx rfl (hb hby d16_12) rfl ?_
    refine XS.icmpNo X2.here hx rfl (hb hby d16_13) rfl (tlt (by decide : (0 : Int32) < (3 : Int32))).2.1 ?_
    show Steps p.tables e below (T2.setTop (mkF m 16 #[.val (.ref a1), .val (.int (0 : Int32)), .val (.int (3 : Int32)), .val .null, .val (.int (0 : Int32))] [])) _
    refine XS.aloadN X2.here hx rfl (hb hby d16_16) rfl rfl ?_
    refine XS.iload X2.here hx rfl (hb hby d16_17) rfl ?_
    refine XS.aloadN X2.here hx rfl (hb hby d16_19) rfl rfl ?_
    refine st5 t ?_
    refine XS.iinc X5.here hx rfl (hb hby d16_21) rfl (l' := #[.val (.ref a1), .val (.int (0 : Int32)), .val (.int (3 : Int32)), .val .null, .val (.int (1 : Int32))]) rfl ?_
    refine XS.goto X5.here hx rfl (pc0 := 24) (pc' := 10) rfl (hb hby d16_24) (by decide) (by decide) ?_
    refine XS.iload X5.here hx rfl (hb hby d16_10) rfl ?_
    refine XS.iloadN X5.here hx rfl (hb hby d16_12) rfl ?_
    refine XS.icmpNo X5.here hx rfl (hb hby d16_13) rfl (tlt (by decide : (1 : Int32) < (3 : Int32))).2.1 ?_
    refine XS.aloadN X5.here hx rfl (hb hby d16_16) rfl rfl ?_
    show Steps p.tables e below (T5.setTop (mkF m 17 #[.val (.ref a1), .val (.int (0 : Int32)), .val (.int (3 : Int32)), .val .null, .val (.int (1 : Int32))] [(.ref a1)])) _
    refine XS.iload X5.here hx rfl (hb hby d16_17) rfl ?_
    refine XS.aloadN X5.here hx rfl (hb hby d16_19) rfl rfl ?_
    refine st9 t ?_
    refine XS.iinc X9.here hx rfl (hb hby d16_21) rfl (l' := #[.val (.ref a1), .val (.int (0 : Int32)), .val (.int (3 : Int32)), .val .null, .val (.int (2 : Int32))]) rfl ?_
    refine XS.goto X9.here hx rfl (pc0 := 24) (pc' := 10) rfl (hb hby d16_24) (by decide) (by decide) ?_
    refine XS.iload X9.here hx rfl (hb hby d16_10) rfl ?_
    refine XS.iloadN X9.here hx rfl (hb hby d16_12) rfl ?_
    refine XS.icmpNo X9.here hx rfl (hb hby d16_13) rfl (tlt (by decide : (2 : Int32) < (3 : Int32))).2.1 ?_
    refine XS.aloadN X9.here hx rfl (hb hby d16_16) rfl rfl ?_
    refine XS.iload X9.here hx rfl (hb hby d16_17) rfl ?_
    show Steps p.tables e below (T9.setTop (mkF m 19 #[.val (.ref a1), .val (.int (0 : Int32)), .val (.int (3 : Int32)), .val .null, .val (.int (2 : Int32))] [(.int (2 : Int32)), (.ref a1)])) _
    refine XS.aloadN X9.here hx rfl (hb hby d16_19) rfl rfl ?_
    refine st13 t ?_
    refine XS.iinc X13.here hx rfl (hb hby d16_21) rfl (l' := #[.val (.ref a1), .val (.int (0 : Int32)), .val (.int (3 : Int32)), .val .null, .val (.int (3 : Int32))]) rfl ?_
    refine XS.goto X13.here hx rfl (pc0 := 24) (pc' := 10) rfl (hb hby d16_24) (by decide) (by decide) ?_
    refine XS.iload X13.here hx rfl (hb hby d16_10) rfl ?_
    refine XS.iloadN X13.here hx rfl (hb hby d16_12) rfl ?_
    refine XS.icmpYes X13.here hx rfl (pc0 := 13) (pc' := 27) rfl (hb hby d16_13) rfl (flt (by decide : ¬ ((3 : Int32) < (3 : Int32)))).2.1 (by decide) (by decide) ?_
    exact kt
  obtain ⟨fs, hr, hrun, hended, hW, hsame⟩ := X13.leave (v := none) (fun _ => rfl)
  refine ⟨_, _, hEN _ (pre16 _ ?_), hrun, hended, _, _, rfl, ?_, ⟨_, rfl⟩, hW, hsame.mono (by decide) (by decide)⟩
  · exact X13.returnOut hx Bd.returns (hb hby d16_27) hr
  · show Q16n3 Z a1 el_a1 h0 n0 _ T13.heap _
    rw [e13]
    exact ⟨rfl, N13, K13, V13_a1⟩
theorem d15_0 : decode prog_52_method_15_code 0 = .ok (.aload_n 0, 1) := by decide +kernel
theorem d15_1 : decode prog_52_method_15_code 1 = .ok (.getfield 20, 3) := by decide +kernel
theorem d15_4 : decode prog_52_method_15_code 4 = .ok (.iconst 0, 1) := by decide +kernel
theorem d15_5 : decode prog_52_method_15_code 5 = .ok (.aload_n 0, 1) := by decide +kernel
theorem d15_6 : decode prog_52_method_15_code 6 = .ok (.getfield 46, 3) := by decide +kernel
theorem d15_9 : decode prog_52_method_15_code 9 = .ok (.aconst_null, 1) := by decide +kernel
theorem d15_10 : decode prog_52_method_15_code 10 = .ok (.invokestatic 142, 3) := by decide +kernel
theorem d15_13 : decode prog_52_method_15_code 13 = .ok (.aload_n 0, 1) := by decide +kernel
theorem d15_14 : decode prog_52_method_15_code 14 = .ok (.getfield 24, 3) := by decide +kernel
theorem d15_17 : decode prog_52_method_15_code 17 = .ok (.iconst 0, 1) := by decide +kernel
theorem d15_18 : decode prog_52_method_15_code 18 = .ok (.aload_n 0, 1) := by decide +kernel
theorem d15_19 : decode prog_52_method_15_code 19 = .ok (.getfield 46, 3) := by decide +kernel
theorem d15_22 : decode prog_52_method_15_code 22 = .ok (.aconst_null, 1) := by decide +kernel
theorem d15_23 : decode prog_52_method_15_code 23 = .ok (.invokestatic 142, 3) := by decide +kernel
theorem d15_26 : decode prog_52_method_15_code 26 = .ok (.aload_n 0, 1) := by decide +kernel
theorem d15_27 : decode prog_52_method_15_code 27 = .ok (.iconst 0, 1) := by decide +kernel
theorem d15_28 : decode prog_52_method_15_code 28 = .ok (.putfield 46, 3) := by decide +kernel
theorem d15_31 : decode prog_52_method_15_code 31 = .ok (.aload_n 0, 1) := by decide +kernel
theorem d15_32 : decode prog_52_method_15_code 32 = .ok (.lconst 0, 1) := by decide +kernel
theorem d15_33 : decode prog_52_method_15_code 33 = .ok (.putfield 66, 3) := by decide +kernel
theorem d15_36 : decode prog_52_method_15_code 36 = .ok (.return_, 1) := by decide +kernel
theorem pd___Ljava_lang_Object_IILjava_lang_Object__V : parseMethodDescriptor "([Ljava/lang/Object;IILjava/lang/Object;)V" = some ⟨[(.array (.object "java/lang/Object")), .int, .int, (.object "java/lang/Object")], none⟩ := by decide +kernel
theorem ef_15 (m : MethodId) (x0 : Addr) : entryFrame m #[(.ref x0)] 1 = mkF m 0 #[.val (.ref x0)] [] := by first | (simp [entryFrame, mkF, argsToLocals, Value.category]; done) | rfl
def Q15 (Z : State) (a1 : Addr) (w_target_a1 : Addr) (w_slot_a1 : Addr) (w_sender_a1 : Addr) (w_position_a1 : Addr) (w_value_a1 : Addr) (w_taken_a1 : Addr) (w_starts_a1 : Addr) (w_grouped_a1 : Addr) (w_next_a1 : Addr) (el_w_value_a1 : Nat → Value) (el_w_taken_a1 : Nat → Value) (u_valuesCost_a1 : Value) (h0 : Heap) (n0 : Nat) (v : Option Value) (h : Heap) (L : List Loc) : Prop := v = none ∧ Fr n0 L ∧ Keep h0 h [w_value_a1, w_taken_a1, a1] ∧ Exa Z h a1 "com/example/accrete/accrete/engine/Sendings" ∧ Fld Z h a1 "com/example/accrete/accrete/engine/Sendings" "grouped" "[I" (.ref w_grouped_a1) ∧ Fld Z h a1 "com/example/accrete/accrete/engine/Sendings" "next" "[I" (.ref w_next_a1) ∧ Fld Z h a1 "com/example/accrete/accrete/engine/Sendings" "position" "[I" (.ref w_position_a1) ∧ Fld Z h a1 "com/example/accrete/accrete/engine/Sendings" "sender" "[I" (.ref w_sender_a1) ∧ Fld Z h a1 "com/example/accrete/accrete/engine/Sendings" "size" "I" (.int (0 : Int32)) ∧ Fld Z h a1 "com/example/accrete/accrete/engine/Sendings" "slot" "[I" (.ref w_slot_a1) ∧ Fld Z h a1 "com/example/accrete/accrete/engine/Sendings" "starts" "[I" (.ref w_starts_a1) ∧ Fld Z h a1 "com/example/accrete/accrete/engine/Sendings" "taken" "[[B" (.ref w_taken_a1) ∧ Fld Z h a1 "com/example/accrete/accrete/engine/Sendings" "target" "[I" (.ref w_target_a1) ∧ Fld Z h a1 "com/example/accrete/accrete/engine/Sendings" "value" "[[B" (.ref w_value_a1) ∧ Fld Z h a1 "com/example/accrete/accrete/engine/Sendings" "valuesCost" "J" (.long (0 : Int64)) ∧ Arf Z h w_taken_a1 (.array .byte) (1024 : Int32) (own_upd (own_upd (own_upd el_w_taken_a1 ((0 : Int32)).toNatClampNeg Value.null) ((1 : Int32)).toNatClampNeg Value.null) ((2 : Int32)).toNatClampNeg Value.null) ∧ Arf Z h w_value_a1 (.array .byte) (1024 : Int32) (own_upd (own_upd (own_upd el_w_value_a1 ((0 : Int32)).toNatClampNeg Value.null) ((1 : Int32)).toNatClampNeg Value.null) ((2 : Int32)).toNatClampNeg Value.null)
set_option maxRecDepth 65536 in
set_option maxHeartbeats 40000000 in
theorem rm15 (l : Launch) (Z : State) (a0 : Array Value) (hw : ∀ d ∈ tables_1, d.before a0 Z = true) (ws : List Jvm.Cond) (a1 : Addr) (w_target_a1 : Addr) (w_slot_a1 : Addr) (w_sender_a1 : Addr) (w_position_a1 : Addr) (w_value_a1 : Addr) (w_taken_a1 : Addr) (w_starts_a1 : Addr) (w_grouped_a1 : Addr) (w_next_a1 : Addr) (el_w_value_a1 : Nat → Value) (el_w_taken_a1 : Nat → Value) (u_valuesCost_a1 : Value) (h0 : Heap) (n0 : Nat) (Z0 : n0 ≤ h0.size) (F_size_a1 : Fld Z h0 a1 "com/example/accrete/accrete/engine/Sendings" "size" "I" (.int (3 : Int32))) (F_target_a1 : Fld Z h0 a1 "com/example/accrete/accrete/engine/Sendings" "target" "[I" (.ref w_target_a1)) (F_slot_a1 : Fld Z h0 a1 "com/example/accrete/accrete/engine/Sendings" "slot" "[I" (.ref w_slot_a1)) (F_sender_a1 : Fld Z h0 a1 "com/example/accrete/accrete/engine/Sendings" "sender" "[I" (.ref w_sender_a1)) (F_position_a1 : Fld Z h0 a1 "com/example/accrete/accrete/engine/Sendings" "position" "[I" (.ref w_position_a1)) (F_value_a1 : Fld Z h0 a1 "com/example/accrete/accrete/engine/Sendings" "value" "[[B" (.ref w_value_a1)) (F_taken_a1 : Fld Z h0 a1 "com/example/accrete/accrete/engine/Sendings" "taken" "[[B" (.ref w_taken_a1)) (F_starts_a1 : Fld Z h0 a1 "com/example/accrete/accrete/engine/Sendings" "starts" "[I" (.ref w_starts_a1)) (F_grouped_a1 : Fld Z h0 a1 "com/example/accrete/accrete/engine/Sendings" "grouped" "[I" (.ref w_grouped_a1)) (F_next_a1 : Fld Z h0 a1 "com/example/accrete/accrete/engine/Sendings" "next" "[I" (.ref w_next_a1)) (V_w_value_a1 : Arf Z h0 w_value_a1 (.array .byte) (1024 : Int32) el_w_value_a1) (g_w_value_a1 : n0 ≤ w_value_a1) (ne_a1_w_value_a1 : a1 ≠ w_value_a1) (V_w_taken_a1 : Arf Z h0 w_taken_a1 (.array .byte) (1024 : Int32) el_w_taken_a1) (ne_w_taken_a1_w_value_a1 : w_taken_a1 ≠ w_value_a1) (g_w_taken_a1 : n0 ≤ w_taken_a1) (ne_a1_w_taken_a1 : a1 ≠ w_taken_a1) (E_a1 : Exa Z h0 a1 "com/example/accrete/accrete/engine/Sendings") (g_a1 : n0 ≤ a1) (F_valuesCost_a1 : Fld Z h0 a1 "com/example/accrete/accrete/engine/Sendings" "valuesCost" "J" u_valuesCost_a1) :
    MetFree l (⟨"com/example/accrete/accrete/engine/Sendings", "clear", "()V"⟩ : MethodName) (head1 (Jvm.Cond.code (⟨"com/example/accrete/accrete/engine/Sendings", "clear", "()V"⟩ : MethodName) prog_52_method_15_code 1 none :: ws) ({ frames := 2, cells := 0, slots := 0, locals := 30 } : Room)) (fun a U => a = #[(.ref a1)] ∧ Z.Warmed39 U.vm ∧ U.heap = h0) (fun _ _ _ _ _ => True) (fun _ U o U' => ∃ v L, o = .returned v ∧ Q15 Z a1 w_target_a1 w_slot_a1 w_sender_a1 w_position_a1 w_value_a1 w_taken_a1 w_starts_a1 w_grouped_a1 w_next_a1 el_w_value_a1 el_w_taken_a1 u_valuesCost_a1 h0 n0 v U'.heap L ∧ FrameEnd U o U' L ({ frames := 2, cells := 0, slots := 0, locals := 30 } : Room).cells ({ frames := 2, cells := 0, slots := 0, locals := 30 } : Room).slots) := by
  refine MetFree.of_bodySF (plainFor_of_name pn_com_example_accrete_accrete_engine_Sendings) hisR ?_
  intro p e s m args below meth c s₁ Bd hml0 hP hK
  obtain ⟨rfl, hZ, hh⟩ := hP
  have hx := Bd.exec
  have hby := Bd.bytes
  have hml : c.maxLocals = 1 := hml0
  have hown : s.vm.findClass "com/example/accrete/accrete/engine/Sendings" = some m.cls := findClass_of_methodNamed Bd.named
  have hnm := (name_of_methodNamed Bd.named Bd.method).1
  have X0 : Stand p l e ({ frames := 2, cells := 0, slots := 0, locals := 30 } : Room) s m #[(.ref a1)] below meth c s₁ [] 0 0 := Stand.of_body Bd
  have e0 : s₁.heap = h0 := by rw [← hh, Bd.state]; rfl
  have N0 := Fr.nil n0
  obtain ⟨EN, hEN, pre0⟩ : ∃ EN : _ → Prop, (∀ t, EN t → Steps p.tables e below (s₁.setTop (entryFrame m #[(.ref a1)] 1)) t) ∧ (∀ t, Steps p.tables e below (s₁.setTop (mkF m 0 #[.val (.ref a1)] [])) t → EN t) := ⟨_, fun _ h => h, fun t k => castTop (ef_15 m a1) k⟩
  obtain ⟨T1, X1, e1, st1⟩ := getF X0 hx hZ hown (host := "") (Or.inl (hw _ (mgE 18 rfl))) Via.refl e0 F_value_a1 (g := (mkF m 1 #[.val (.ref a1)] [(.ref a1)])) rfl rfl (hb hby d15_1)
  obtain ⟨T3, X3, e3, st3⟩ := getF X1 hx hZ hown (host := "") (Or.inl (hw _ (mgE 50 rfl))) Via.refl e1 F_size_a1 (g := (mkF m 6 #[.val (.ref a1)] [(.ref a1), (.int (0 : Int32)), (.ref w_value_a1)])) rfl rfl (hb hby d15_6)
  obtain ⟨_, _, ⟨T5, L5, k5, n5⟩, -, X5, ⟨Lc5, hQ5, l5, y5, z5⟩, st5⟩ := Jvm.LawKit.callS X3 hx (y := (⟨"java/util/Arrays", "fill", "([Ljava/lang/Object;IILjava/lang/Object;)V"⟩ : MethodName)) hown (mvT hZ (hw _ (mgE 100 rfl))) (mvT hZ (hw _ (mgE 101 rfl))) (mvT hZ (hw _ (mgE 86 rfl))) (mvT hZ (hw _ (mgE 102 rfl))) (by decide) (backOf (W := 0) (rm16n3 l Z a0 hw [] w_value_a1 el_w_value_a1 h0 n0 Z0 V_w_value_a1 g_w_value_a1) hZ (hw _ (mgE 102 rfl)) (hw _ (mgE 86 rfl)) (by decide) (by decide)) (g := (mkF m 10 #[.val (.ref a1)] [.null, (.int (3 : Int32)), (.int (0 : Int32)), (.ref w_value_a1)])) rfl (by rw [hml]; rfl) (argsL := [(.ref w_value_a1), (.int (0 : Int32)), (.int (3 : Int32)), .null]) (rest := []) (lenOf pd___Ljava_lang_Object_IILjava_lang_Object__V rfl) rfl (by show 2 * 0 + _ ≤ _; exact Nat.le_of_eq rfl) (hb hby d15_10) (fun _ _ => ⟨rfl, e3, (by decide : 0 + 0 ≤ _), (by decide : 0 + 0 ≤ _)⟩)
  dsimp only [Pt.U, Pt.locs, Pt.cells, Pt.slots] at X5 l5 y5 z5 st5 hQ5
  subst l5 y5 z5
  obtain ⟨rfl, N5q, K5, Q5_0⟩ := hQ5
  have F6_5 := F_size_a1.keep K5 (ninS ne_a1_w_value_a1 nin0)
  have F7_5 := F_target_a1.keep K5 (ninS ne_a1_w_value_a1 nin0)
  have F8_5 := F_slot_a1.keep K5 (ninS ne_a1_w_value_a1 nin0)
  have F9_5 := F_sender_a1.keep K5 (ninS ne_a1_w_value_a1 nin0)
  have F10_5 := F_position_a1.keep K5 (ninS ne_a1_w_value_a1 nin0)
  have F11_5 := F_value_a1.keep K5 (ninS ne_a1_w_value_a1 nin0)
  have F12_5 := F_taken_a1.keep K5 (ninS ne_a1_w_value_a1 nin0)
  have F13_5 := F_starts_a1.keep K5 (ninS ne_a1_w_value_a1 nin0)
  have F14_5 := F_grouped_a1.keep K5 (ninS ne_a1_w_value_a1 nin0)
  have F15_5 := F_next_a1.keep K5 (ninS ne_a1_w_value_a1 nin0)
  have F17_5 := V_w_taken_a1.keep K5 (ninS ne_w_taken_a1_w_value_a1 nin0)
  have F18_5 := E_a1.keep K5
  have F19_5 := F_valuesCost_a1.keep K5 (ninS ne_a1_w_value_a1 nin0)
  have KK5 : Keep h0 T5.heap [w_value_a1, w_taken_a1, a1] := Keep.trans (Keep.refl h0 [w_value_a1, w_taken_a1, a1]) K5 (allS (Or.inl (mgE 0 rfl)) all0)
  have Z5 : n0 ≤ T5.heap.size := Nat.le_trans Z0 K5.1
  have N5 := Fr.app N0 N5q
  obtain ⟨T21, X21, e21, st21⟩ := getF X5 hx hZ hown (host := "") (Or.inl (hw _ (mgE 20 rfl))) Via.refl rfl F12_5 (g := (mkF m 14 #[.val (.ref a1)] [(.ref a1)])) rfl rfl (hb hby d15_14)
  obtain ⟨T23, X23, e23, st23⟩ := getF X21 hx hZ hown (host := "") (Or.inl (hw _ (mgE 50 rfl))) Via.refl e21 F6_5 (g := (mkF m 19 #[.val (.ref a1)] [(.ref a1), (.int (0 : Int32)), (.ref w_taken_a1)])) rfl rfl (hb hby d15_19)
  obtain ⟨_, _, ⟨T25, L25, k25, n25⟩, -, X25, ⟨Lc25, hQ25, l25, y25, z25⟩, st25⟩ := Jvm.LawKit.callS X23 hx (y := (⟨"java/util/Arrays", "fill", "([Ljava/lang/Object;IILjava/lang/Object;)V"⟩ : MethodName)) hown (mvT hZ (hw _ (mgE 100 rfl))) (mvT hZ (hw _ (mgE 101 rfl))) (mvT hZ (hw _ (mgE 86 rfl))) (mvT hZ (hw _ (mgE 102 rfl))) (by decide) (backOf (W := 0) (rm16n3 l Z a0 hw [] w_taken_a1 el_w_taken_a1 T5.heap n0 Z5 F17_5 g_w_taken_a1) hZ (hw _ (mgE 102 rfl)) (hw _ (mgE 86 rfl)) (by decide) (by decide)) (g := (mkF m 23 #[.val (.ref a1)] [.null, (.int (3 : Int32)), (.int (0 : Int32)), (.ref w_taken_a1)])) rfl (by rw [hml]; rfl) (argsL := [(.ref w_taken_a1), (.int (0 : Int32)), (.int (3 : Int32)), .null]) (rest := []) (lenOf pd___Ljava_lang_Object_IILjava_lang_Object__V rfl) rfl (by show 2 * 0 + _ ≤ _; exact Nat.le_of_eq rfl) (hb hby d15_23) (fun _ _ => ⟨rfl, e23, (by decide : 0 + 0 ≤ _), (by decide : 0 + 0 ≤ _)⟩)
  dsimp only [Pt.U, Pt.locs, Pt.cells, Pt.slots] at X25 l25 y25 z25 st25 hQ25
  subst l25 y25 z25
  obtain ⟨rfl, N25q, K25, Q25_0⟩ := hQ25
  have F26_25 := F6_5.keep K25 (ninS ne_a1_w_taken_a1 nin0)
  have F27_25 := F7_5.keep K25 (ninS ne_a1_w_taken_a1 nin0)
  have F28_25 := F8_5.keep K25 (ninS ne_a1_w_taken_a1 nin0)
  have F29_25 := F9_5.keep K25 (ninS ne_a1_w_taken_a1 nin0)
  have F30_25 := F10_5.keep K25 (ninS ne_a1_w_taken_a1 nin0)
  have F31_25 := F11_5.keep K25 (ninS ne_a1_w_taken_a1 nin0)
  have F32_25 := F12_5.keep K25 (ninS ne_a1_w_taken_a1 nin0)
  have F33_25 := F13_5.keep K25 (ninS ne_a1_w_taken_a1 nin0)
  have F34_25 := F14_5.keep K25 (ninS ne_a1_w_taken_a1 nin0)
  have F35_25 := F15_5.keep K25 (ninS ne_a1_w_taken_a1 nin0)
  have F37_25 := F18_5.keep K25
  have F38_25 := F19_5.keep K25 (ninS ne_a1_w_taken_a1 nin0)
  have F39_25 := Q5_0.keep K25 (ninS (Ne.symm ne_w_taken_a1_w_value_a1) nin0)
  have KK25 : Keep h0 T25.heap [w_value_a1, w_taken_a1, a1] := Keep.trans KK5 K25 (allS (Or.inl (mgE 1 rfl)) all0)
  have N25 := Fr.app N5 N25q
  obtain ⟨T41, h41, X41, e41, W41, st41⟩ := putF X25 hx hZ hown (host := "") (Or.inl (hw _ (mgE 50 rfl))) Via.refl rfl F26_25 F37_25 (Or.inl (hw _ (mgE 51 rfl))) (hw _ (mgE 3 rfl)) (ty := .int) (by decide) rfl rfl (g := (mkF m 28 #[.val (.ref a1)] [(.int (0 : Int32)), (.ref a1)])) rfl rfl (hb hby d15_28)
  have F43_41 := F27_25.other W41 (Or.inr (slot_ne (Or.inl (hw _ (mgE 13 rfl))) (Or.inl (hw _ (mgE 51 rfl))) (by decide) (t := (.array .int)) (t' := .int) (by decide) (by decide)))
  have F44_41 := F28_25.other W41 (Or.inr (slot_ne (Or.inl (hw _ (mgE 15 rfl))) (Or.inl (hw _ (mgE 51 rfl))) (by decide) (t := (.array .int)) (t' := .int) (by decide) (by decide)))
  have F45_41 := F29_25.other W41 (Or.inr (slot_ne (Or.inl (hw _ (mgE 23 rfl))) (Or.inl (hw _ (mgE 51 rfl))) (by decide) (t := (.array .int)) (t' := .int) (by decide) (by decide)))
  have F46_41 := F30_25.other W41 (Or.inr (slot_ne (Or.inl (hw _ (mgE 25 rfl))) (Or.inl (hw _ (mgE 51 rfl))) (by decide) (t := (.array .int)) (t' := .int) (by decide) (by decide)))
  have F47_41 := F31_25.other W41 (Or.inr (slot_ne (Or.inl (hw _ (mgE 19 rfl))) (Or.inl (hw _ (mgE 51 rfl))) (by decide) (t := (.array (.array .byte))) (t' := .int) (by decide) (by decide)))
  have F48_41 := F32_25.other W41 (Or.inr (slot_ne (Or.inl (hw _ (mgE 21 rfl))) (Or.inl (hw _ (mgE 51 rfl))) (by decide) (t := (.array (.array .byte))) (t' := .int) (by decide) (by decide)))
  have F49_41 := F33_25.other W41 (Or.inr (slot_ne (Or.inl (hw _ (mgE 27 rfl))) (Or.inl (hw _ (mgE 51 rfl))) (by decide) (t := (.array .int)) (t' := .int) (by decide) (by decide)))
  have F50_41 := F34_25.other W41 (Or.inr (slot_ne (Or.inl (hw _ (mgE 29 rfl))) (Or.inl (hw _ (mgE 51 rfl))) (by decide) (t := (.array .int)) (t' := .int) (by decide) (by decide)))
  have F51_41 := F35_25.other W41 (Or.inr (slot_ne (Or.inl (hw _ (mgE 31 rfl))) (Or.inl (hw _ (mgE 51 rfl))) (by decide) (t := (.array .int)) (t' := .int) (by decide) (by decide)))
  have F52_41 := F37_25.wr W41
  have F53_41 := F38_25.other W41 (Or.inr (slot_ne (Or.inl (hw _ (mgE 40 rfl))) (Or.inl (hw _ (mgE 51 rfl))) (by decide) (t := .long) (t' := .int) (by decide) (by decide)))
  have F54_41 := F39_25.other W41 (Ne.symm ne_a1_w_value_a1)
  have F55_41 := Q25_0.other W41 (Ne.symm ne_a1_w_taken_a1)
  have Fw41 := F26_25.same W41
  have K41 : Keep h0 h41 [w_value_a1, w_taken_a1, a1] := KK25.wr W41 (Or.inl (mgE 2 rfl))
  have N41 := Fr.snoc X41 N25 g_a1
  obtain ⟨T57, h57, X57, e57, W57, st57⟩ := putF X41 hx hZ hown (host := "") (Or.inl (hw _ (mgE 39 rfl))) Via.refl e41 F53_41 F52_41 (Or.inl (hw _ (mgE 40 rfl))) (hw _ (mgE 3 rfl)) (ty := .long) (by decide) rfl rfl (g := (mkF m 33 #[.val (.ref a1)] [(.long (0 : Int64)), (.ref a1)])) rfl rfl (hb hby d15_33)
  have F58_57 := Fw41.other W57 (Or.inr (slot_ne (Or.inl (hw _ (mgE 51 rfl))) (Or.inl (hw _ (mgE 40 rfl))) (by decide) (t := .int) (t' := .long) (by decide) (by decide)))
  have F59_57 := F43_41.other W57 (Or.inr (slot_ne (Or.inl (hw _ (mgE 13 rfl))) (Or.inl (hw _ (mgE 40 rfl))) (by decide) (t := (.array .int)) (t' := .long) (by decide) (by decide)))
  have F60_57 := F44_41.other W57 (Or.inr (slot_ne (Or.inl (hw _ (mgE 15 rfl))) (Or.inl (hw _ (mgE 40 rfl))) (by decide) (t := (.array .int)) (t' := .long) (by decide) (by decide)))
  have F61_57 := F45_41.other W57 (Or.inr (slot_ne (Or.inl (hw _ (mgE 23 rfl))) (Or.inl (hw _ (mgE 40 rfl))) (by decide) (t := (.array .int)) (t' := .long) (by decide) (by decide)))
  have F62_57 := F46_41.other W57 (Or.inr (slot_ne (Or.inl (hw _ (mgE 25 rfl))) (Or.inl (hw _ (mgE 40 rfl))) (by decide) (t := (.array .int)) (t' := .long) (by decide) (by decide)))
  have F63_57 := F47_41.other W57 (Or.inr (slot_ne (Or.inl (hw _ (mgE 19 rfl))) (Or.inl (hw _ (mgE 40 rfl))) (by decide) (t := (.array (.array .byte))) (t' := .long) (by decide) (by decide)))
  have F64_57 := F48_41.other W57 (Or.inr (slot_ne (Or.inl (hw _ (mgE 21 rfl))) (Or.inl (hw _ (mgE 40 rfl))) (by decide) (t := (.array (.array .byte))) (t' := .long) (by decide) (by decide)))
  have F65_57 := F49_41.other W57 (Or.inr (slot_ne (Or.inl (hw _ (mgE 27 rfl))) (Or.inl (hw _ (mgE 40 rfl))) (by decide) (t := (.array .int)) (t' := .long) (by decide) (by decide)))
  have F66_57 := F50_41.other W57 (Or.inr (slot_ne (Or.inl (hw _ (mgE 29 rfl))) (Or.inl (hw _ (mgE 40 rfl))) (by decide) (t := (.array .int)) (t' := .long) (by decide) (by decide)))
  have F67_57 := F51_41.other W57 (Or.inr (slot_ne (Or.inl (hw _ (mgE 31 rfl))) (Or.inl (hw _ (mgE 40 rfl))) (by decide) (t := (.array .int)) (t' := .long) (by decide) (by decide)))
  have F68_57 := F52_41.wr W57
  have F70_57 := F54_41.other W57 (Ne.symm ne_a1_w_value_a1)
  have F71_57 := F55_41.other W57 (Ne.symm ne_a1_w_taken_a1)
  have Fw57 := F53_41.same W57
  have K57 : Keep h0 h57 [w_value_a1, w_taken_a1, a1] := K41.wr W57 (Or.inl (mgE 2 rfl))
  have N57 := Fr.snoc X57 N41 g_a1
  have pre73 : ∀ t, Steps p.tables e below (T57.setTop (mkF m 36 #[.val (.ref a1)] [])) t → EN t := fun t kt => by
    refine pre0 t ?_
    refine XS.aloadN X0.here hx rfl (hb hby d15_0) rfl rfl ?_
    refine st1 t ?_
    refine XS.iconst X1.here hx rfl (hb hby d15_4) ?_
    refine XS.aloadN X1.here hx rfl (hb hby d15_5) rfl rfl ?_
    refine st3 t ?_
    refine XS.aconstNull X3.here hx rfl (hb hby d15_9) ?_
    refine st5 t ?_
    refine XS.aloadN X5.here hx rfl (hb hby d15_13) rfl rfl ?_
    refine st21 t ?_
    refine XS.iconst X21.here hx rfl (hb hby d15_17) ?_
    show Steps p.tables e below (T21.setTop (mkF m 18 #[.val (.ref a1)] [(.int (0 : Int32)), (.ref w_taken_a1)])) _
    refine XS.aloadN X21.here hx rfl (hb hby d15_18) rfl rfl ?_
    refine st23 t ?_
    refine XS.aconstNull X23.here hx rfl (hb hby d15_22) ?_
    refine st25 t ?_
    refine XS.aloadN X25.here hx rfl (hb hby d15_26) rfl rfl ?_
    refine XS.iconst X25.here hx rfl (hb hby d15_27) ?_
    refine st41 t ?_
    refine XS.aloadN X41.here hx rfl (hb hby d15_31) rfl rfl ?_
    refine XS.lconst X41.here hx rfl (hb hby d15_32) ?_
    refine st57 t ?_
    show Steps p.tables e below (T57.setTop (mkF m 36 #[.val (.ref a1)] [])) _
    exact kt
  obtain ⟨fs, hr, hrun, hended, hW, hsame⟩ := X57.leave (v := none) (fun _ => rfl)
  refine ⟨_, _, hEN _ (pre73 _ ?_), hrun, hended, _, _, rfl, ?_, ⟨_, rfl⟩, hW, hsame.mono (by decide) (by decide)⟩
  · exact X57.returnOut hx Bd.returns (hb hby d15_36) hr
  · show Q15 Z a1 w_target_a1 w_slot_a1 w_sender_a1 w_position_a1 w_value_a1 w_taken_a1 w_starts_a1 w_grouped_a1 w_next_a1 el_w_value_a1 el_w_taken_a1 u_valuesCost_a1 h0 n0 _ T57.heap _
    rw [e57]
    exact ⟨rfl, N57, K57, F68_57, F66_57, F67_57, F62_57, F61_57, F58_57, F60_57, F65_57, F64_57, F59_57, F63_57, Fw57, F71_57, F70_57⟩
theorem own_8 (p2 : Int32) (h : 1 ≤ p2.toInt ∧ p2.toInt ≤ 8) : ∃ n : Nat, n < 9 ∧ 1 ≤ n ∧ p2 = Int32.ofNat n := ⟨p2.toInt.toNat, by omega, by omega, Int32.toInt_inj.mp (by rw [Int32.toInt_ofNat_of_lt (by omega)]; omega)⟩
theorem own_ky1 (p2 : Int32) (h : 1 ≤ p2.toInt ∧ p2.toInt ≤ 8) : (1 : Int32) < (p2 + (1 : Int32)) := by obtain ⟨n, h1, h2, rfl⟩ := own_8 p2 h; clear h; revert n; decide
theorem own_grA (p2 : Int32) (h : 1 ≤ p2.toInt ∧ p2.toInt ≤ 8) : ¬ ((0 : Int32) < (lcmpW (((1 : Int32).toInt64) + (((p2 + (1 : Int32)) - (1 : Int32)).toInt64)) (2147483639 : Int64))) := by obtain ⟨n, h1, h2, rfl⟩ := own_8 p2 h; clear h; revert n; decide
theorem own_gr1 (p2 : Int32) (h : 1 ≤ p2.toInt ∧ p2.toInt ≤ 8) : (grw (1 : Int32) ((p2 + (1 : Int32)) - (1 : Int32))) = (p2 + (1 : Int32)) := by obtain ⟨n, h1, h2, rfl⟩ := own_8 p2 h; clear h; revert n; decide
theorem own_kn (p2 : Int32) (h : 1 ≤ p2.toInt ∧ p2.toInt ≤ 8) : ¬ (p2 + (1 : Int32)) < 0 := by obtain ⟨n, h1, h2, rfl⟩ := own_8 p2 h; clear h; revert n; decide
theorem own_kc (p2 : Int32) (h : 1 ≤ p2.toInt ∧ p2.toInt ≤ 8) : (p2 + (1 : Int32)).toNatClampNeg ≤ 9 := by obtain ⟨n, h1, h2, rfl⟩ := own_8 p2 h; clear h; revert n; decide
theorem own_fA (p2 : Int32) (h : 1 ≤ p2.toInt ∧ p2.toInt ≤ 8) : ¬ ((p2 + (1 : Int32)) < (0 : Int32)) := own_kn p2 h
theorem own_kyI (p2 : Int32) (h : 1 ≤ p2.toInt ∧ p2.toInt ≤ 8) : (p2 + (1 : Int32)).toInt = p2.toInt + 1 := by obtain ⟨n, h1, h2, rfl⟩ := own_8 p2 h; clear h; revert n; decide
theorem own_cp0 (p2 : Int32) (h : 1 ≤ p2.toInt ∧ p2.toInt ≤ 8) : p2.toNatClampNeg ≤ (p2 + (1 : Int32)).toNatClampNeg := by obtain ⟨n, h1, h2, rfl⟩ := own_8 p2 h; clear h; revert n; decide
theorem own_cp (p2 : Int32) (h : 1 ≤ p2.toInt ∧ p2.toInt ≤ 8) : (0 : Int32).toNatClampNeg + p2.toNatClampNeg ≤ (p2 + (1 : Int32)).toNatClampNeg := by obtain ⟨n, h1, h2, rfl⟩ := own_8 p2 h; clear h; revert n; decide
theorem own_cpl (p2 : Int32) (h : 1 ≤ p2.toInt ∧ p2.toInt ≤ 8) {g : Nat → Value} : (0 : Int32).toNatClampNeg + p2.toNatClampNeg ≤ ((List.range (p2 + (1 : Int32)).toNatClampNeg).map g).length := by rw [List.length_map, List.length_range]; exact own_cp p2 h
theorem own_t1 (t p2 : Int32) (h : 1 ≤ p2.toInt ∧ p2.toInt ≤ 8) (ht : 0 ≤ t.toInt ∧ t.toInt < p2.toInt) : (t + (1 : Int32)).toInt = t.toInt + 1 := own_nx t p2 (Int32.lt_iff_toInt_lt.mpr ht.2)
theorem own_ixs (t p2 : Int32) (h : 1 ≤ p2.toInt ∧ p2.toInt ≤ 8) (ht : 0 ≤ t.toInt ∧ t.toInt < p2.toInt) : ¬ (t + (1 : Int32)) < 0 ∧ (t + (1 : Int32)) < (p2 + (1 : Int32)) := by
  have a := own_t1 t p2 h ht
  have b := own_kyI p2 h
  exact ⟨own_lt0 _ (by omega), Int32.lt_iff_toInt_lt.mpr (by omega)⟩
theorem own_ixt (t p2 : Int32) (h : 1 ≤ p2.toInt ∧ p2.toInt ≤ 8) (ht : 0 ≤ t.toInt ∧ t.toInt < p2.toInt) : ¬ t < 0 ∧ t < (p2 + (1 : Int32)) := by
  have b := own_kyI p2 h
  exact ⟨own_lt0 _ (by omega), Int32.lt_iff_toInt_lt.mpr (by omega)⟩
theorem own_ixk (t p2 : Int32) (h : 1 ≤ p2.toInt ∧ p2.toInt ≤ 8) (hl : 0 ≤ t.toInt) (q : t < p2) : ¬ (t + (1 : Int32)) < 0 ∧ (t + (1 : Int32)) < (p2 + (1 : Int32)) := own_ixs t p2 h ⟨hl, Int32.lt_iff_toInt_lt.mp q⟩
theorem own_ixm (t p2 : Int32) (h : 1 ≤ p2.toInt ∧ p2.toInt ≤ 8) (hl : 0 ≤ t.toInt) (q : t < p2) : ¬ t < 0 ∧ t < (p2 + (1 : Int32)) := own_ixt t p2 h ⟨hl, Int32.lt_iff_toInt_lt.mp q⟩
def one_ (p : Prop) [Decidable p] : Int32 := if p then 1 else 0
def ltS (t1 t2 t3 : Int32) (j : Nat) : Int32 := (one_ (t1.toNatClampNeg < j) + one_ (t2.toNatClampNeg < j)) + one_ (t3.toNatClampNeg < j)
def cbS (t1 t2 t3 : Int32) : Nat → Int32 := bump (bump (bump (fun _ => (0 : Int32)) ((t1 + (1 : Int32))).toNatClampNeg) ((t2 + (1 : Int32))).toNatClampNeg) ((t3 + (1 : Int32))).toNatClampNeg
def prefS (t1 t2 t3 vk : Int32) : Nat → Int32 := fun j => if j ≤ vk.toNatClampNeg then ltS t1 t2 t3 j else cbS t1 t2 t3 j
def nxtS (t1 t2 t3 p2 : Int32) : Nat → Int32 := fun i => if i < p2.toNatClampNeg then (prefS t1 t2 t3 p2) i else (fun _ => (0 : Int32)) i
theorem own_bump (f : Nat → Int32) (a j : Nat) : bump f a j = f j + one_ (j = a) := by
  unfold bump own_upd one_
  by_cases h : j = a
  · subst h; simp
  · simp [h]
theorem own_cb (t1 t2 t3 : Int32) (j : Nat) : cbS t1 t2 t3 j = (one_ (j = ((t1 + (1 : Int32))).toNatClampNeg) + one_ (j = ((t2 + (1 : Int32))).toNatClampNeg)) + one_ (j = ((t3 + (1 : Int32))).toNatClampNeg) := by
  unfold cbS
  rw [own_bump, own_bump, own_bump, Int32.zero_add]
theorem own_tn (t p2 : Int32) (h : 1 ≤ p2.toInt ∧ p2.toInt ≤ 8) (ht : 0 ≤ t.toInt ∧ t.toInt < p2.toInt) : (t + (1 : Int32)).toNatClampNeg = t.toNatClampNeg + 1 := by
  have a := own_t1 t p2 h ht
  show (t + (1 : Int32)).toInt.toNat = t.toInt.toNat + 1
  omega
theorem own_oneE (a V : Nat) : one_ (a < V + 1) = one_ (V + 1 = a + 1) + one_ (a < V) := by
  unfold one_
  by_cases h : a < V
  · simp [h, show a < V + 1 from by omega, show ¬ V = a from by omega]
  · by_cases h2 : V = a
    · subst h2; simp
    · simp [h, h2, show ¬ a < V + 1 from by omega]
theorem own_sum6 (a b d x y z : Int32) : ((a + b) + d) + ((x + y) + z) = ((a + x) + (b + y)) + (d + z) := by
  ac_rfl
theorem own_preS (t1 t2 t3 vk p2 : Int32) (h : 1 ≤ p2.toInt ∧ p2.toInt ≤ 8) (h1 : 0 ≤ t1.toInt ∧ t1.toInt < p2.toInt) (h2 : 0 ≤ t2.toInt ∧ t2.toInt < p2.toInt) (h3 : 0 ≤ t3.toInt ∧ t3.toInt < p2.toInt) (hl : 0 ≤ vk.toInt) (q : vk < p2) (i : Nat) :
    own_upd (prefS t1 t2 t3 vk) ((vk + (1 : Int32))).toNatClampNeg ((prefS t1 t2 t3 vk ((vk + (1 : Int32))).toNatClampNeg) + (prefS t1 t2 t3 vk (vk).toNatClampNeg)) i = prefS t1 t2 t3 (vk + (1 : Int32)) i := by
  have e := own_tn vk p2 h ⟨hl, Int32.lt_iff_toInt_lt.mp q⟩
  rw [e]
  unfold own_upd
  by_cases w : i = vk.toNatClampNeg + 1
  · subst w
    rw [if_pos rfl]
    unfold prefS
    rw [if_neg (by omega), if_pos (Nat.le_refl _), e, if_pos (Nat.le_refl _), own_cb, own_tn t1 p2 h h1, own_tn t2 p2 h h2, own_tn t3 p2 h h3]
    unfold ltS
    rw [own_sum6, ← own_oneE, ← own_oneE, ← own_oneE]
  · rw [if_neg w]
    unfold prefS
    rw [e]
    by_cases v : i ≤ vk.toNatClampNeg
    · rw [if_pos v, if_pos (by omega)]
    · rw [if_neg v, if_neg (by omega)]
theorem own_pre0 (t1 t2 t3 p2 : Int32) (h : 1 ≤ p2.toInt ∧ p2.toInt ≤ 8) (h1 : 0 ≤ t1.toInt ∧ t1.toInt < p2.toInt) (h2 : 0 ≤ t2.toInt ∧ t2.toInt < p2.toInt) (h3 : 0 ≤ t3.toInt ∧ t3.toInt < p2.toInt) (i : Nat) : cbS t1 t2 t3 i = prefS t1 t2 t3 (0 : Int32) i := by
  unfold prefS
  by_cases v : i ≤ (0 : Int32).toNatClampNeg
  · rw [if_pos v, own_cb, own_tn t1 p2 h h1, own_tn t2 p2 h h2, own_tn t3 p2 h h3]
    have z : (0 : Int32).toNatClampNeg = 0 := by decide
    have z2 : i = 0 := by omega
    subst z2
    simp [ltS, one_]
  · rw [if_neg v]
theorem own_lt3 (t1 t2 t3 : Int32) (a b d : Nat) (ha : t1.toNatClampNeg = a) (hb : t2.toNatClampNeg = b) (hd : t3.toNatClampNeg = d) (j : Nat) : (ltS t1 t2 t3 j).toInt = (if a < j then 1 else 0) + (if b < j then 1 else 0) + (if d < j then 1 else 0) := by
  subst ha hb hd
  unfold ltS one_
  repeat' split
  all_goals decide
theorem own_r3 (v : Int32) (h : 0 ≤ v.toInt ∧ v.toInt ≤ 2) : ¬ v < 0 ∧ v < (3 : Int32) := ⟨own_lt0 v h.1, Int32.lt_iff_toInt_lt.mpr (by rw [show (3 : Int32).toInt = 3 from by decide]; omega)⟩
theorem own_nxt (t1 t2 t3 p2 t : Int32) (nxt : Nat → Int32) (h : 1 ≤ p2.toInt ∧ p2.toInt ≤ 8) (ht : 0 ≤ t.toInt ∧ t.toInt < p2.toInt) (hn : nxt = (fun i => if i < p2.toNatClampNeg then (prefS t1 t2 t3 p2) i else (fun _ => (0 : Int32)) i)) : nxt t.toNatClampNeg = ltS t1 t2 t3 t.toNatClampNeg := by
  have q : t.toNatClampNeg < p2.toNatClampNeg := by show t.toInt.toNat < p2.toInt.toNat; omega
  rw [hn]
  simp only [if_pos q]
  unfold prefS
  rw [if_pos (Nat.le_of_lt q)]
theorem own_ixg0 (t1 t2 t3 p2 : Int32) (nxt : Nat → Int32) (h : 1 ≤ p2.toInt ∧ p2.toInt ≤ 8) (h1 : 0 ≤ t1.toInt ∧ t1.toInt < p2.toInt) (h2 : 0 ≤ t2.toInt ∧ t2.toInt < p2.toInt) (h3 : 0 ≤ t3.toInt ∧ t3.toInt < p2.toInt) (hn : nxt = (fun i => if i < p2.toNatClampNeg then (prefS t1 t2 t3 p2) i else (fun _ => (0 : Int32)) i)) : ¬ (nxt (t1).toNatClampNeg) < 0 ∧ (nxt (t1).toNatClampNeg) < (3 : Int32) := by
  rw [own_nxt t1 t2 t3 p2 t1 nxt h h1 hn]
  apply own_r3
  unfold ltS one_
  repeat' split
  all_goals first | (exfalso; omega) | decide
theorem own_ixg1 (t1 t2 t3 p2 : Int32) (nxt : Nat → Int32) (h : 1 ≤ p2.toInt ∧ p2.toInt ≤ 8) (h1 : 0 ≤ t1.toInt ∧ t1.toInt < p2.toInt) (h2 : 0 ≤ t2.toInt ∧ t2.toInt < p2.toInt) (h3 : 0 ≤ t3.toInt ∧ t3.toInt < p2.toInt) (hn : nxt = (fun i => if i < p2.toNatClampNeg then (prefS t1 t2 t3 p2) i else (fun _ => (0 : Int32)) i)) : ¬ ((own_upd nxt (t1).toNatClampNeg ((nxt (t1).toNatClampNeg) + (1 : Int32))) (t2).toNatClampNeg) < 0 ∧ ((own_upd nxt (t1).toNatClampNeg ((nxt (t1).toNatClampNeg) + (1 : Int32))) (t2).toNatClampNeg) < (3 : Int32) := by
  show ¬ (bump nxt t1.toNatClampNeg t2.toNatClampNeg) < 0 ∧ (bump nxt t1.toNatClampNeg t2.toNatClampNeg) < (3 : Int32)
  rw [own_bump, own_nxt t1 t2 t3 p2 t2 nxt h h2 hn]
  apply own_r3
  unfold ltS one_
  repeat' split
  all_goals first | (exfalso; omega) | decide
theorem own_ixg2 (t1 t2 t3 p2 : Int32) (nxt : Nat → Int32) (h : 1 ≤ p2.toInt ∧ p2.toInt ≤ 8) (h1 : 0 ≤ t1.toInt ∧ t1.toInt < p2.toInt) (h2 : 0 ≤ t2.toInt ∧ t2.toInt < p2.toInt) (h3 : 0 ≤ t3.toInt ∧ t3.toInt < p2.toInt) (hn : nxt = (fun i => if i < p2.toNatClampNeg then (prefS t1 t2 t3 p2) i else (fun _ => (0 : Int32)) i)) :
    ¬ ((own_upd (own_upd nxt (t1).toNatClampNeg ((nxt (t1).toNatClampNeg) + (1 : Int32))) (t2).toNatClampNeg (((own_upd nxt (t1).toNatClampNeg ((nxt (t1).toNatClampNeg) + (1 : Int32))) (t2).toNatClampNeg) + (1 : Int32))) (t3).toNatClampNeg) < 0 ∧ ((own_upd (own_upd nxt (t1).toNatClampNeg ((nxt (t1).toNatClampNeg) + (1 : Int32))) (t2).toNatClampNeg (((own_upd nxt (t1).toNatClampNeg ((nxt (t1).toNatClampNeg) + (1 : Int32))) (t2).toNatClampNeg) + (1 : Int32))) (t3).toNatClampNeg) < (3 : Int32) := by
  show ¬ (bump (bump nxt t1.toNatClampNeg) t2.toNatClampNeg t3.toNatClampNeg) < 0 ∧ (bump (bump nxt t1.toNatClampNeg) t2.toNatClampNeg t3.toNatClampNeg) < (3 : Int32)
  rw [own_bump, own_bump, own_nxt t1 t2 t3 p2 t3 nxt h h3 hn]
  apply own_r3
  unfold ltS one_
  repeat' split
  all_goals first | (exfalso; omega) | decide
theorem own_15 (x y : Int32) (h : y = (x &&& (15 : Int32))) : 0 ≤ y.toInt ∧ y.toInt ≤ 15 := by rw [h]; exact c_and x 15 (by decide)
theorem own_n15 (y : Int32) (h : 0 ≤ y.toInt ∧ y.toInt ≤ 15) : ¬ y < 0 := own_lt0 y h.1
theorem own_c15 (y : Int32) (h : 0 ≤ y.toInt ∧ y.toInt ≤ 15) : y.toNatClampNeg ≤ 15 := by show y.toInt.toNat ≤ 15; omega
theorem own_kys (x y : Int32) (h : y = ((x &&& (7 : Int32)) + (1 : Int32))) : 1 ≤ y.toInt ∧ y.toInt ≤ 8 := by
  have a := c_and x (7 : Int32) (by decide)
  have s := c_iadd (x &&& (7 : Int32)) (1 : Int32)
  rw [← h, show (1 : Int32).toInt = 1 from by decide] at s
  rw [show (7 : Int32).toInt = 7 from by decide] at a
  have r := rng32 y
  omega
theorem own_knz (y : Int32) (h : 1 ≤ y.toInt ∧ y.toInt ≤ 8) : ¬ (y = (0 : Int32)) := fun z => by rw [z, show (0 : Int32).toInt = 0 from by decide] at h; omega
theorem own_mod (x n y : Int32) (h : 1 ≤ n.toInt ∧ n.toInt ≤ 8) (hy : y = ((x &&& (2147483647 : Int32)) % n)) : 0 ≤ y.toInt ∧ y.toInt < n.toInt := by
  have a := c_and x (2147483647 : Int32) (by decide)
  have v := (c_iremV (x &&& (2147483647 : Int32)) n).1 a.1 (by omega)
  rw [← hy] at v
  omega

theorem own_cst1 (X : Int64) : cst (1024 : Int32) (1 : Int32) (0 : Int32) (1 : Int32) X = (24584 : Int64) + X := by
  unfold cst
  rw [show ((24 : Int64) * ((1024 : Int32).toInt64)) + ((4 : Int64) * ((((1 : Int32) + (0 : Int32)) + (1 : Int32)).toInt64)) = (24584 : Int64) from by decide]
theorem own_cst2 (k : Int32) (h : 1 ≤ k.toInt ∧ k.toInt ≤ 8) (X : Int64) : cst (1024 : Int32) (k + (1 : Int32)) (3 : Int32) (k + (1 : Int32)) X = ((24576 : Int64) + ((4 : Int64) * ((((k.toInt64) + (1 : Int64)) + (3 : Int64)) + ((k.toInt64) + (1 : Int64))))) + X := by
  unfold cst
  congr 1
  obtain ⟨n, h1, h2, rfl⟩ := own_8 k h; clear h; revert n; decide
theorem own_16 (y : Int32) (h : 0 ≤ y.toInt ∧ y.toInt ≤ 15) : (((16 : Int32) + y).toInt64) = (16 : Int64) + (y.toInt64) := by
  apply Int64.toInt_inj.mp
  have a := c_iadd (16 : Int32) y
  have r := rng32 ((16 : Int32) + y)
  have d := c_ladd (16 : Int64) y.toInt64
  have r2 := rng64 ((16 : Int64) + y.toInt64)
  rw [c_i2l, show (16 : Int64).toInt = 16 from by decide] at d
  rw [show (16 : Int32).toInt = 16 from by decide] at a
  rw [c_i2l]
  omega

theorem d9_0 : decode prog_52_method_12_code 0 = .ok (.aload_n 0, 1) := by decide +kernel
theorem d9_1 : decode prog_52_method_12_code 1 = .ok (.getfield 33, 3) := by decide +kernel
theorem d9_4 : decode prog_52_method_12_code 4 = .ok (.arraylength, 1) := by decide +kernel
theorem d9_5 : decode prog_52_method_12_code 5 = .ok (.iload_n 1, 1) := by decide +kernel
theorem d9_6 : decode prog_52_method_12_code 6 = .ok (.iconst 1, 1) := by decide +kernel
theorem d9_7 : decode prog_52_method_12_code 7 = .ok (.iadd, 1) := by decide +kernel
theorem d9_8 : decode prog_52_method_12_code 8 = .ok (.if_icmp .ge 37, 3) := by decide +kernel
theorem d9_11 : decode prog_52_method_12_code 11 = .ok (.aload_n 0, 1) := by decide +kernel
theorem d9_12 : decode prog_52_method_12_code 12 = .ok (.aload_n 0, 1) := by decide +kernel
theorem d9_13 : decode prog_52_method_12_code 13 = .ok (.getfield 33, 3) := by decide +kernel
theorem d9_16 : decode prog_52_method_12_code 16 = .ok (.arraylength, 1) := by decide +kernel
theorem d9_17 : decode prog_52_method_12_code 17 = .ok (.iload_n 1, 1) := by decide +kernel
theorem d9_18 : decode prog_52_method_12_code 18 = .ok (.iconst 1, 1) := by decide +kernel
theorem d9_19 : decode prog_52_method_12_code 19 = .ok (.iadd, 1) := by decide +kernel
theorem d9_20 : decode prog_52_method_12_code 20 = .ok (.aload_n 0, 1) := by decide +kernel
theorem d9_21 : decode prog_52_method_12_code 21 = .ok (.getfield 33, 3) := by decide +kernel
theorem d9_24 : decode prog_52_method_12_code 24 = .ok (.arraylength, 1) := by decide +kernel
theorem d9_25 : decode prog_52_method_12_code 25 = .ok (.isub, 1) := by decide +kernel
theorem d9_26 : decode prog_52_method_12_code 26 = .ok (.invokestatic 50, 3) := by decide +kernel
theorem d9_29 : decode prog_52_method_12_code 29 = .ok (.newarray .int, 2) := by decide +kernel
theorem d9_31 : decode prog_52_method_12_code 31 = .ok (.putfield 33, 3) := by decide +kernel
theorem d9_34 : decode prog_52_method_12_code 34 = .ok (.aload_n 0, 1) := by decide +kernel
theorem d9_35 : decode prog_52_method_12_code 35 = .ok (.aload_n 0, 1) := by decide +kernel
theorem d9_36 : decode prog_52_method_12_code 36 = .ok (.getfield 33, 3) := by decide +kernel
theorem d9_39 : decode prog_52_method_12_code 39 = .ok (.arraylength, 1) := by decide +kernel
theorem d9_40 : decode prog_52_method_12_code 40 = .ok (.newarray .int, 2) := by decide +kernel
theorem d9_42 : decode prog_52_method_12_code 42 = .ok (.putfield 39, 3) := by decide +kernel
theorem d9_45 : decode prog_52_method_12_code 45 = .ok (.aload_n 0, 1) := by decide +kernel
theorem d9_46 : decode prog_52_method_12_code 46 = .ok (.getfield 33, 3) := by decide +kernel
theorem d9_49 : decode prog_52_method_12_code 49 = .ok (.iconst 0, 1) := by decide +kernel
theorem d9_50 : decode prog_52_method_12_code 50 = .ok (.iload_n 1, 1) := by decide +kernel
theorem d9_51 : decode prog_52_method_12_code 51 = .ok (.iconst 1, 1) := by decide +kernel
theorem d9_52 : decode prog_52_method_12_code 52 = .ok (.iadd, 1) := by decide +kernel
theorem d9_53 : decode prog_52_method_12_code 53 = .ok (.iconst 0, 1) := by decide +kernel
theorem d9_54 : decode prog_52_method_12_code 54 = .ok (.invokestatic 132, 3) := by decide +kernel
theorem d9_57 : decode prog_52_method_12_code 57 = .ok (.iconst 0, 1) := by decide +kernel
theorem d9_58 : decode prog_52_method_12_code 58 = .ok (.istore_n 2, 1) := by decide +kernel
theorem d9_59 : decode prog_52_method_12_code 59 = .ok (.iload_n 2, 1) := by decide +kernel
theorem d9_60 : decode prog_52_method_12_code 60 = .ok (.aload_n 0, 1) := by decide +kernel
theorem d9_61 : decode prog_52_method_12_code 61 = .ok (.getfield 46, 3) := by decide +kernel
theorem d9_64 : decode prog_52_method_12_code 64 = .ok (.if_icmp .ge 26, 3) := by decide +kernel
theorem d9_67 : decode prog_52_method_12_code 67 = .ok (.aload_n 0, 1) := by decide +kernel
theorem d9_68 : decode prog_52_method_12_code 68 = .ok (.getfield 33, 3) := by decide +kernel
theorem d9_71 : decode prog_52_method_12_code 71 = .ok (.aload_n 0, 1) := by decide +kernel
theorem d9_72 : decode prog_52_method_12_code 72 = .ok (.getfield 9, 3) := by decide +kernel
theorem d9_75 : decode prog_52_method_12_code 75 = .ok (.iload_n 2, 1) := by decide +kernel
theorem d9_76 : decode prog_52_method_12_code 76 = .ok (.iaload, 1) := by decide +kernel
theorem d9_77 : decode prog_52_method_12_code 77 = .ok (.iconst 1, 1) := by decide +kernel
theorem d9_78 : decode prog_52_method_12_code 78 = .ok (.iadd, 1) := by decide +kernel
theorem d9_79 : decode prog_52_method_12_code 79 = .ok (.dup2, 1) := by decide +kernel
theorem d9_80 : decode prog_52_method_12_code 80 = .ok (.iaload, 1) := by decide +kernel
theorem d9_81 : decode prog_52_method_12_code 81 = .ok (.iconst 1, 1) := by decide +kernel
theorem d9_82 : decode prog_52_method_12_code 82 = .ok (.iadd, 1) := by decide +kernel
theorem d9_83 : decode prog_52_method_12_code 83 = .ok (.iastore, 1) := by decide +kernel
theorem d9_84 : decode prog_52_method_12_code 84 = .ok (.iinc 2 1, 3) := by decide +kernel
theorem d9_87 : decode prog_52_method_12_code 87 = .ok (.goto (-28), 3) := by decide +kernel
theorem d9_90 : decode prog_52_method_12_code 90 = .ok (.iconst 0, 1) := by decide +kernel
theorem d9_91 : decode prog_52_method_12_code 91 = .ok (.istore_n 2, 1) := by decide +kernel
theorem d9_92 : decode prog_52_method_12_code 92 = .ok (.iload_n 2, 1) := by decide +kernel
theorem d9_93 : decode prog_52_method_12_code 93 = .ok (.iload_n 1, 1) := by decide +kernel
theorem d9_94 : decode prog_52_method_12_code 94 = .ok (.if_icmp .ge 26, 3) := by decide +kernel
theorem d9_97 : decode prog_52_method_12_code 97 = .ok (.aload_n 0, 1) := by decide +kernel
theorem d9_98 : decode prog_52_method_12_code 98 = .ok (.getfield 33, 3) := by decide +kernel
theorem d9_101 : decode prog_52_method_12_code 101 = .ok (.iload_n 2, 1) := by decide +kernel
theorem d9_102 : decode prog_52_method_12_code 102 = .ok (.iconst 1, 1) := by decide +kernel
theorem d9_103 : decode prog_52_method_12_code 103 = .ok (.iadd, 1) := by decide +kernel
theorem d9_104 : decode prog_52_method_12_code 104 = .ok (.dup2, 1) := by decide +kernel
theorem d9_105 : decode prog_52_method_12_code 105 = .ok (.iaload, 1) := by decide +kernel
theorem d9_106 : decode prog_52_method_12_code 106 = .ok (.aload_n 0, 1) := by decide +kernel
theorem d9_107 : decode prog_52_method_12_code 107 = .ok (.getfield 33, 3) := by decide +kernel
theorem d9_110 : decode prog_52_method_12_code 110 = .ok (.iload_n 2, 1) := by decide +kernel
theorem d9_111 : decode prog_52_method_12_code 111 = .ok (.iaload, 1) := by decide +kernel
theorem d9_112 : decode prog_52_method_12_code 112 = .ok (.iadd, 1) := by decide +kernel
theorem d9_113 : decode prog_52_method_12_code 113 = .ok (.iastore, 1) := by decide +kernel
theorem d9_114 : decode prog_52_method_12_code 114 = .ok (.iinc 2 1, 3) := by decide +kernel
theorem d9_117 : decode prog_52_method_12_code 117 = .ok (.goto (-25), 3) := by decide +kernel
theorem d9_120 : decode prog_52_method_12_code 120 = .ok (.aload_n 0, 1) := by decide +kernel
theorem d9_121 : decode prog_52_method_12_code 121 = .ok (.getfield 36, 3) := by decide +kernel
theorem d9_124 : decode prog_52_method_12_code 124 = .ok (.arraylength, 1) := by decide +kernel
theorem d9_125 : decode prog_52_method_12_code 125 = .ok (.aload_n 0, 1) := by decide +kernel
theorem d9_126 : decode prog_52_method_12_code 126 = .ok (.getfield 46, 3) := by decide +kernel
theorem d9_129 : decode prog_52_method_12_code 129 = .ok (.if_icmp .ge 27, 3) := by decide +kernel
theorem d9_132 : decode prog_52_method_12_code 132 = .ok (.aload_n 0, 1) := by decide +kernel
theorem d9_133 : decode prog_52_method_12_code 133 = .ok (.aload_n 0, 1) := by decide +kernel
theorem d9_134 : decode prog_52_method_12_code 134 = .ok (.getfield 36, 3) := by decide +kernel
theorem d9_137 : decode prog_52_method_12_code 137 = .ok (.arraylength, 1) := by decide +kernel
theorem d9_138 : decode prog_52_method_12_code 138 = .ok (.aload_n 0, 1) := by decide +kernel
theorem d9_139 : decode prog_52_method_12_code 139 = .ok (.getfield 46, 3) := by decide +kernel
theorem d9_142 : decode prog_52_method_12_code 142 = .ok (.aload_n 0, 1) := by decide +kernel
theorem d9_143 : decode prog_52_method_12_code 143 = .ok (.getfield 36, 3) := by decide +kernel
theorem d9_146 : decode prog_52_method_12_code 146 = .ok (.arraylength, 1) := by decide +kernel
theorem d9_147 : decode prog_52_method_12_code 147 = .ok (.isub, 1) := by decide +kernel
theorem d9_148 : decode prog_52_method_12_code 148 = .ok (.invokestatic 50, 3) := by decide +kernel
theorem d9_151 : decode prog_52_method_12_code 151 = .ok (.newarray .int, 2) := by decide +kernel
theorem d9_153 : decode prog_52_method_12_code 153 = .ok (.putfield 36, 3) := by decide +kernel
theorem d9_156 : decode prog_52_method_12_code 156 = .ok (.aload_n 0, 1) := by decide +kernel
theorem d9_157 : decode prog_52_method_12_code 157 = .ok (.getfield 33, 3) := by decide +kernel
theorem d9_160 : decode prog_52_method_12_code 160 = .ok (.iconst 0, 1) := by decide +kernel
theorem d9_161 : decode prog_52_method_12_code 161 = .ok (.aload_n 0, 1) := by decide +kernel
theorem d9_162 : decode prog_52_method_12_code 162 = .ok (.getfield 39, 3) := by decide +kernel
theorem d9_165 : decode prog_52_method_12_code 165 = .ok (.iconst 0, 1) := by decide +kernel
theorem d9_166 : decode prog_52_method_12_code 166 = .ok (.iload_n 1, 1) := by decide +kernel
theorem d9_167 : decode prog_52_method_12_code 167 = .ok (.invokestatic 136, 3) := by decide +kernel
theorem d9_170 : decode prog_52_method_12_code 170 = .ok (.iconst 0, 1) := by decide +kernel
theorem d9_171 : decode prog_52_method_12_code 171 = .ok (.istore_n 2, 1) := by decide +kernel
theorem d9_172 : decode prog_52_method_12_code 172 = .ok (.iload_n 2, 1) := by decide +kernel
theorem d9_173 : decode prog_52_method_12_code 173 = .ok (.aload_n 0, 1) := by decide +kernel
theorem d9_174 : decode prog_52_method_12_code 174 = .ok (.getfield 46, 3) := by decide +kernel
theorem d9_177 : decode prog_52_method_12_code 177 = .ok (.if_icmp .ge 31, 3) := by decide +kernel
theorem d9_180 : decode prog_52_method_12_code 180 = .ok (.aload_n 0, 1) := by decide +kernel
theorem d9_181 : decode prog_52_method_12_code 181 = .ok (.getfield 36, 3) := by decide +kernel
theorem d9_184 : decode prog_52_method_12_code 184 = .ok (.aload_n 0, 1) := by decide +kernel
theorem d9_185 : decode prog_52_method_12_code 185 = .ok (.getfield 39, 3) := by decide +kernel
theorem d9_188 : decode prog_52_method_12_code 188 = .ok (.aload_n 0, 1) := by decide +kernel
theorem d9_189 : decode prog_52_method_12_code 189 = .ok (.getfield 9, 3) := by decide +kernel
theorem d9_192 : decode prog_52_method_12_code 192 = .ok (.iload_n 2, 1) := by decide +kernel
theorem d9_193 : decode prog_52_method_12_code 193 = .ok (.iaload, 1) := by decide +kernel
theorem d9_194 : decode prog_52_method_12_code 194 = .ok (.dup2, 1) := by decide +kernel
theorem d9_195 : decode prog_52_method_12_code 195 = .ok (.iaload, 1) := by decide +kernel
theorem d9_196 : decode prog_52_method_12_code 196 = .ok (.dup_x2, 1) := by decide +kernel
theorem d9_197 : decode prog_52_method_12_code 197 = .ok (.iconst 1, 1) := by decide +kernel
theorem d9_198 : decode prog_52_method_12_code 198 = .ok (.iadd, 1) := by decide +kernel
theorem d9_199 : decode prog_52_method_12_code 199 = .ok (.iastore, 1) := by decide +kernel
theorem d9_200 : decode prog_52_method_12_code 200 = .ok (.iload_n 2, 1) := by decide +kernel
theorem d9_201 : decode prog_52_method_12_code 201 = .ok (.iastore, 1) := by decide +kernel
theorem d9_202 : decode prog_52_method_12_code 202 = .ok (.iinc 2 1, 3) := by decide +kernel
theorem d9_205 : decode prog_52_method_12_code 205 = .ok (.goto (-33), 3) := by decide +kernel
theorem d9_208 : decode prog_52_method_12_code 208 = .ok (.return_, 1) := by decide +kernel
theorem pd__II_I : parseMethodDescriptor "(II)I" = some ⟨[.int, .int], some .int⟩ := by decide +kernel
theorem pd___IIII_V : parseMethodDescriptor "([IIII)V" = some ⟨[(.array .int), .int, .int, .int], none⟩ := by decide +kernel
theorem ef_9 (m : MethodId) (x0 : Addr) (x1 : Int32) : entryFrame m #[(.ref x0), (.int x1)] 3 = mkF m 0 #[.val (.ref x0), .val (.int x1), .unset] [] := by first | (simp [entryFrame, mkF, argsToLocals, Value.category]; done) | rfl
def Q9 (Z : State) (a1 : Addr) (p2 : Int32) (w_target_a1 : Addr) (w_slot_a1 : Addr) (w_sender_a1 : Addr) (w_position_a1 : Addr) (w_value_a1 : Addr) (w_taken_a1 : Addr) (w_starts_a1 : Addr) (w_grouped_a1 : Addr) (w_next_a1 : Addr) (w_valuesCost_a1 : Int64) (el_w_starts_a1 : Nat → Int32) (el_w_grouped_a1 : Nat → Int32) (el_w_next_a1 : Nat → Int32) (tt1 : Int32) (tt2 : Int32) (tt3 : Int32) (h0 : Heap) (n0 : Nat) (v : Option Value) (h : Heap) (L : List Loc) : Prop := ∃ fx1 fx2 fx3 : Addr, v = none ∧ Fr n0 L ∧ Keep h0 h [a1] ∧ h0.size ≤ fx1 ∧ h0.size ≤ fx2 ∧ h0.size ≤ fx3 ∧ fx1 ≠ fx2 ∧ fx1 ≠ fx3 ∧ fx2 ≠ fx3 ∧ Exa Z h a1 "com/example/accrete/accrete/engine/Sendings" ∧ Fld Z h a1 "com/example/accrete/accrete/engine/Sendings" "grouped" "[I" (.ref fx1) ∧ Fld Z h a1 "com/example/accrete/accrete/engine/Sendings" "next" "[I" (.ref fx2) ∧ Fld Z h a1 "com/example/accrete/accrete/engine/Sendings" "position" "[I" (.ref w_position_a1) ∧ Fld Z h a1 "com/example/accrete/accrete/engine/Sendings" "sender" "[I" (.ref w_sender_a1) ∧ Fld Z h a1 "com/example/accrete/accrete/engine/Sendings" "size" "I" (.int (3 : Int32)) ∧ Fld Z h a1 "com/example/accrete/accrete/engine/Sendings" "slot" "[I" (.ref w_slot_a1) ∧ Fld Z h a1 "com/example/accrete/accrete/engine/Sendings" "starts" "[I" (.ref fx3) ∧ Fld Z h a1 "com/example/accrete/accrete/engine/Sendings" "taken" "[[B" (.ref w_taken_a1) ∧ Fld Z h a1 "com/example/accrete/accrete/engine/Sendings" "target" "[I" (.ref w_target_a1) ∧ Fld Z h a1 "com/example/accrete/accrete/engine/Sendings" "value" "[[B" (.ref w_value_a1) ∧ Fld Z h a1 "com/example/accrete/accrete/engine/Sendings" "valuesCost" "J" (.long w_valuesCost_a1) ∧ Arf Z h fx1 .int (3 : Int32) (fun i => (.int ((own_upd (own_upd (own_upd (fun _ => (0 : Int32)) (((nxtS tt1 tt2 tt3 p2) (tt1).toNatClampNeg)).toNatClampNeg (0 : Int32)) (((own_upd (nxtS tt1 tt2 tt3 p2) (tt1).toNatClampNeg (((nxtS tt1 tt2 tt3 p2) (tt1).toNatClampNeg) + (1 : Int32))) (tt2).toNatClampNeg)).toNatClampNeg (1 : Int32)) (((own_upd (own_upd (nxtS tt1 tt2 tt3 p2) (tt1).toNatClampNeg (((nxtS tt1 tt2 tt3 p2) (tt1).toNatClampNeg) + (1 : Int32))) (tt2).toNatClampNeg (((own_upd (nxtS tt1 tt2 tt3 p2) (tt1).toNatClampNeg (((nxtS tt1 tt2 tt3 p2) (tt1).toNatClampNeg) + (1 : Int32))) (tt2).toNatClampNeg) + (1 : Int32))) (tt3).toNatClampNeg)).toNatClampNeg (2 : Int32)) i))) ∧ Arf Z h fx2 .int (p2 + (1 : Int32)) (fun i => (.int ((own_upd (own_upd (own_upd (nxtS tt1 tt2 tt3 p2) (tt1).toNatClampNeg (((nxtS tt1 tt2 tt3 p2) (tt1).toNatClampNeg) + (1 : Int32))) (tt2).toNatClampNeg (((own_upd (nxtS tt1 tt2 tt3 p2) (tt1).toNatClampNeg (((nxtS tt1 tt2 tt3 p2) (tt1).toNatClampNeg) + (1 : Int32))) (tt2).toNatClampNeg) + (1 : Int32))) (tt3).toNatClampNeg (((own_upd (own_upd (nxtS tt1 tt2 tt3 p2) (tt1).toNatClampNeg (((nxtS tt1 tt2 tt3 p2) (tt1).toNatClampNeg) + (1 : Int32))) (tt2).toNatClampNeg (((own_upd (nxtS tt1 tt2 tt3 p2) (tt1).toNatClampNeg (((nxtS tt1 tt2 tt3 p2) (tt1).toNatClampNeg) + (1 : Int32))) (tt2).toNatClampNeg) + (1 : Int32))) (tt3).toNatClampNeg) + (1 : Int32))) i))) ∧ Arf Z h fx3 .int (p2 + (1 : Int32)) (fun i => (.int ((prefS tt1 tt2 tt3 p2) i)))
set_option maxRecDepth 65536 in
set_option maxHeartbeats 40000000 in
theorem rm9 (l : Launch) (Z : State) (a0 : Array Value) (hw : ∀ d ∈ tables_1, d.before a0 Z = true) (ws : List Jvm.Cond) (a1 : Addr) (p2 : Int32) (w_target_a1 : Addr) (w_slot_a1 : Addr) (w_sender_a1 : Addr) (w_position_a1 : Addr) (w_value_a1 : Addr) (w_taken_a1 : Addr) (w_starts_a1 : Addr) (w_grouped_a1 : Addr) (w_next_a1 : Addr) (w_valuesCost_a1 : Int64) (el_w_starts_a1 : Nat → Int32) (el_w_grouped_a1 : Nat → Int32) (el_w_next_a1 : Nat → Int32) (tt1 : Int32) (tt2 : Int32) (tt3 : Int32) (h0 : Heap) (n0 : Nat) (Z0 : n0 ≤ h0.size) (F_size_a1 : Fld Z h0 a1 "com/example/accrete/accrete/engine/Sendings" "size" "I" (.int (3 : Int32))) (F_target_a1 : Fld Z h0 a1 "com/example/accrete/accrete/engine/Sendings" "target" "[I" (.ref w_target_a1)) (F_slot_a1 : Fld Z h0 a1 "com/example/accrete/accrete/engine/Sendings" "slot" "[I" (.ref w_slot_a1)) (F_sender_a1 : Fld Z h0 a1 "com/example/accrete/accrete/engine/Sendings" "sender" "[I" (.ref w_sender_a1)) (F_position_a1 : Fld Z h0 a1 "com/example/accrete/accrete/engine/Sendings" "position" "[I" (.ref w_position_a1)) (F_value_a1 : Fld Z h0 a1 "com/example/accrete/accrete/engine/Sendings" "value" "[[B" (.ref w_value_a1)) (F_taken_a1 : Fld Z h0 a1 "com/example/accrete/accrete/engine/Sendings" "taken" "[[B" (.ref w_taken_a1)) (F_starts_a1 : Fld Z h0 a1 "com/example/accrete/accrete/engine/Sendings" "starts" "[I" (.ref w_starts_a1)) (F_grouped_a1 : Fld Z h0 a1 "com/example/accrete/accrete/engine/Sendings" "grouped" "[I" (.ref w_grouped_a1)) (F_next_a1 : Fld Z h0 a1 "com/example/accrete/accrete/engine/Sendings" "next" "[I" (.ref w_next_a1)) (F_valuesCost_a1 : Fld Z h0 a1 "com/example/accrete/accrete/engine/Sendings" "valuesCost" "J" (.long w_valuesCost_a1)) (V_w_target_a1 : Arf Z h0 w_target_a1 .int (1024 : Int32) (fun i => (.int ((own_upd (own_upd (own_upd (fun _ => (0 : Int32)) ((0 : Int32)).toNatClampNeg tt1) ((1 : Int32)).toNatClampNeg tt2) ((2 : Int32)).toNatClampNeg tt3) i)))) (V_w_starts_a1 : Arf Z h0 w_starts_a1 .int (1 : Int32) (fun i => (.int (el_w_starts_a1 i)))) (V_w_grouped_a1 : Arf Z h0 w_grouped_a1 .int (0 : Int32) (fun i => (.int (el_w_grouped_a1 i)))) (V_w_next_a1 : Arf Z h0 w_next_a1 .int (1 : Int32) (fun i => (.int (el_w_next_a1 i)))) (E_a1 : Exa Z h0 a1 "com/example/accrete/accrete/engine/Sendings") (g_a1 : n0 ≤ a1) (ne_w_target_a1_a1 : w_target_a1 ≠ a1) (ne_w_starts_a1_a1 : w_starts_a1 ≠ a1) (ne_w_grouped_a1_a1 : w_grouped_a1 ≠ a1) (ne_w_next_a1_a1 : w_next_a1 ≠ a1) (hky : 1 ≤ p2.toInt ∧ p2.toInt ≤ 8) (ht1 : 0 ≤ tt1.toInt ∧ tt1.toInt < p2.toInt) (ht2 : 0 ≤ tt2.toInt ∧ tt2.toInt < p2.toInt) (ht3 : 0 ≤ tt3.toInt ∧ tt3.toInt < p2.toInt) :
    MetFree l (⟨"com/example/accrete/accrete/engine/Sendings", "groupByKey", "(I)V"⟩ : MethodName) (head1 (Jvm.Cond.code (⟨"com/example/accrete/accrete/engine/Sendings", "groupByKey", "(I)V"⟩ : MethodName) prog_52_method_12_code 3 none :: ws) ({ frames := 2, cells := 3, slots := 21, locals := 64 } : Room)) (fun a U => a = #[(.ref a1), (.int p2)] ∧ Z.Warmed39 U.vm ∧ U.heap = h0) (fun _ _ _ _ _ => True) (fun _ U o U' => ∃ v L, o = .returned v ∧ Q9 Z a1 p2 w_target_a1 w_slot_a1 w_sender_a1 w_position_a1 w_value_a1 w_taken_a1 w_starts_a1 w_grouped_a1 w_next_a1 w_valuesCost_a1 el_w_starts_a1 el_w_grouped_a1 el_w_next_a1 tt1 tt2 tt3 h0 n0 v U'.heap L ∧ FrameEnd U o U' L ({ frames := 2, cells := 3, slots := 21, locals := 64 } : Room).cells ({ frames := 2, cells := 3, slots := 21, locals := 64 } : Room).slots) := by
  refine MetFree.of_bodySF (plainFor_of_name pn_com_example_accrete_accrete_engine_Sendings) hisR ?_
  intro p e s m args below meth c s₁ Bd hml0 hP hK
  obtain ⟨rfl, hZ, hh⟩ := hP
  have hx := Bd.exec
  have hby := Bd.bytes
  have hml : c.maxLocals = 3 := hml0
  have hown : s.vm.findClass "com/example/accrete/accrete/engine/Sendings" = some m.cls := findClass_of_methodNamed Bd.named
  have hnm := (name_of_methodNamed Bd.named Bd.method).1
  have X0 : Stand p l e ({ frames := 2, cells := 3, slots := 21, locals := 64 } : Room) s m #[(.ref a1), (.int p2)] below meth c s₁ [] 0 0 := Stand.of_body Bd
  have e0 : s₁.heap = h0 := by rw [← hh, Bd.state]; rfl
  have N0 := Fr.nil n0
  obtain ⟨EN, hEN, pre0⟩ : ∃ EN : _ → Prop, (∀ t, EN t → Steps p.tables e below (s₁.setTop (entryFrame m #[(.ref a1), (.int p2)] 3)) t) ∧ (∀ t, Steps p.tables e below (s₁.setTop (mkF m 0 #[.val (.ref a1), .val (.int p2), .unset] [])) t → EN t) := ⟨_, fun _ h => h, fun t k => castTop (ef_9 m a1 p2) k⟩
  obtain ⟨T1, X1, e1, st1⟩ := getF X0 hx hZ hown (host := "") (Or.inl (hw _ (mgE 26 rfl))) Via.refl e0 F_starts_a1 (g := (mkF m 1 #[.val (.ref a1), .val (.int p2), .unset] [(.ref a1)])) rfl rfl (hb hby d9_1)
  obtain ⟨cl3, Ar3, S3, Ng3, H3⟩ := id V_w_starts_a1
  have hc8 : (1 : Int32) < (p2 + (1 : Int32)) := own_ky1 p2 hky
  obtain ⟨T4, X4, e4, st4⟩ := getF X1 hx hZ hown (host := "") (Or.inl (hw _ (mgE 26 rfl))) Via.refl e1 F_starts_a1 (g := (mkF m 13 #[.val (.ref a1), .val (.int p2), .unset] [(.ref a1), (.ref a1)])) rfl rfl (hb hby d9_13)
  obtain ⟨cl6, Ar6, S6, Ng6, H6⟩ := id V_w_starts_a1
  obtain ⟨T7, X7, e7, st7⟩ := getF X4 hx hZ hown (host := "") (Or.inl (hw _ (mgE 26 rfl))) Via.refl e4 F_starts_a1 (g := (mkF m 21 #[.val (.ref a1), .val (.int p2), .unset] [(.ref a1), (.int (p2 + (1 : Int32))), (.int (1 : Int32)), (.ref a1)])) rfl rfl (hb hby d9_21)
  obtain ⟨cl9, Ar9, S9, Ng9, H9⟩ := id V_w_starts_a1
  obtain ⟨_, _, ⟨T10, L10, k10, n10⟩, -, X10, ⟨Lc10, hQ10, l10, y10, z10⟩, st10⟩ := Jvm.LawKit.callS X7 hx (y := (⟨"com/example/accrete/accrete/io/KeyTable", "grownCapacity", "(II)I"⟩ : MethodName)) hown (mvT hZ (hw _ (mgE 71 rfl))) (mvT hZ (hw _ (mgE 72 rfl))) (mvT hZ (hw _ (mgE 73 rfl))) (mvT hZ (hw _ (mgE 74 rfl))) (by decide) (backOf (W := 1) (rm10 l Z a0 hw [] (1 : Int32) ((p2 + (1 : Int32)) - (1 : Int32)) h0 n0 Z0 (own_grA p2 hky)) hZ (hw _ (mgE 74 rfl)) (hw _ (mgE 73 rfl)) (by decide) (by decide)) (g := (mkF m 26 #[.val (.ref a1), .val (.int p2), .unset] [(.int ((p2 + (1 : Int32)) - (1 : Int32))), (.int (1 : Int32)), (.ref a1)])) rfl (by rw [hml]; rfl) (argsL := [(.int (1 : Int32)), (.int ((p2 + (1 : Int32)) - (1 : Int32)))]) (rest := [(.ref a1)]) (lenOf pd__II_I rfl) rfl (by show 2 * 0 + _ ≤ _; exact Nat.le_of_eq rfl) (hb hby d9_26) (fun _ _ => ⟨rfl, e7, (by decide : 0 + 0 ≤ _), (by decide : 0 + 0 ≤ _)⟩)
  dsimp only [Pt.U, Pt.locs, Pt.cells, Pt.slots] at X10 l10 y10 z10 st10 hQ10
  subst l10 y10 z10
  obtain ⟨rfl, N10q, e10⟩ := hQ10
  have N10 := Fr.app N0 N10q
  have pre12 : ∀ t, Steps p.tables e below (T10.setTop (mkF m 29 #[.val (.ref a1), .val (.int p2), .unset] [(.int (grw (1 : Int32) ((p2 + (1 : Int32)) - (1 : Int32)))), (.ref a1)])) t → EN t := fun t kt => by
    refine pre0 t ?_
    refine XS.aloadN X0.here hx rfl (hb hby d9_0) rfl rfl ?_
    refine st1 t ?_
    refine X1.arraylength hx (by rw [e1]; exact Ar3.1) (State.isArrayOf_alike hZ.alike Ar3.2.1) (g := (mkF m 4 #[.val (.ref a1), .val (.int p2), .unset] [(.ref w_starts_a1)])) rfl rfl (hb hby d9_4) _ ?_
    rw [len_of S3 Ng3]
    refine XS.iloadN X1.here hx rfl (hb hby d9_5) rfl ?_
    refine XS.iconst X1.here hx rfl (hb hby d9_6) ?_
    refine XS.iadd X1.here hx rfl (hb hby d9_7) rfl ?_
    refine XS.icmpNo X1.here hx rfl (hb hby d9_8) rfl (tlt hc8).2.1 ?_
    refine XS.aloadN X1.here hx rfl (hb hby d9_11) rfl rfl ?_
    refine XS.aloadN X1.here hx rfl (hb hby d9_12) rfl rfl ?_
    refine st4 t ?_
    show Steps p.tables e below (T4.setTop (mkF m 16 #[.val (.ref a1), .val (.int p2), .unset] [(.ref w_starts_a1), (.ref a1)])) _
    refine X4.arraylength hx (by rw [e4]; exact Ar6.1) (State.isArrayOf_alike hZ.alike Ar6.2.1) (g := (mkF m 16 #[.val (.ref a1), .val (.int p2), .unset] [(.ref w_starts_a1), (.ref a1)])) rfl rfl (hb hby d9_16) _ ?_
    rw [len_of S6 Ng6]
    refine XS.iloadN X4.here hx rfl (hb hby d9_17) rfl ?_
    refine XS.iconst X4.here hx rfl (hb hby d9_18) ?_
    refine XS.iadd X4.here hx rfl (hb hby d9_19) rfl ?_
    refine XS.aloadN X4.here hx rfl (hb hby d9_20) rfl rfl ?_
    refine st7 t ?_
    refine X7.arraylength hx (by rw [e7]; exact Ar9.1) (State.isArrayOf_alike hZ.alike Ar9.2.1) (g := (mkF m 24 #[.val (.ref a1), .val (.int p2), .unset] [(.ref w_starts_a1), (.int (p2 + (1 : Int32))), (.int (1 : Int32)), (.ref a1)])) rfl rfl (hb hby d9_24) _ ?_
    rw [len_of S9 Ng9]
    refine XS.isub X7.here hx rfl (hb hby d9_25) rfl ?_
    refine st10 t ?_
    exact kt
  have hl13 : (grw (1 : Int32) ((p2 + (1 : Int32)) - (1 : Int32))) = (p2 + (1 : Int32)) := own_gr1 p2 hky
  rw [hl13] at pre12
  obtain ⟨T14, h14, k14, X14, e14, E14, A14, st14⟩ := newP X10 hx hZ (hw _ (mgE 11 rfl)) e10 (g := (mkF m 29 #[.val (.ref a1), .val (.int p2), .unset] [(.int (p2 + (1 : Int32))), (.ref a1)])) rfl (hb hby d9_29) rfl (own_kn p2 hky) (cap := 9) (own_kc p2 hky) (by decide) (by decide) (by decide)
  obtain ⟨b14, g14⟩ : ∃ z, z = h0.size := ⟨_, rfl⟩
  rw [← g14] at A14 st14
  have ne_a1_b14 : a1 ≠ b14 := Nat.ne_of_lt (Nat.lt_of_lt_of_le F_size_a1.lt (Nat.le_of_eq g14.symm))
  have ne_w_target_a1_b14 : w_target_a1 ≠ b14 := Nat.ne_of_lt (Nat.lt_of_lt_of_le V_w_target_a1.lt (Nat.le_of_eq g14.symm))
  have ne_w_grouped_a1_b14 : w_grouped_a1 ≠ b14 := Nat.ne_of_lt (Nat.lt_of_lt_of_le V_w_grouped_a1.lt (Nat.le_of_eq g14.symm))
  have g_b14 : n0 ≤ b14 := Nat.le_trans Z0 (Nat.le_of_eq g14.symm)
  have sz_b14 : h0.size ≤ b14 := Nat.le_trans (Keep.refl h0 [a1]).1 (Nat.le_of_eq g14.symm)
  have K14 : Keep h0 h14 [a1] := (Keep.refl h0 [a1]).ext E14
  have Z14 : n0 ≤ h14.size := Nat.le_trans Z0 E14.1
  have F15_14 := F_size_a1.ext E14
  have F16_14 := F_target_a1.ext E14
  have F17_14 := F_slot_a1.ext E14
  have F18_14 := F_sender_a1.ext E14
  have F19_14 := F_position_a1.ext E14
  have F20_14 := F_value_a1.ext E14
  have F21_14 := F_taken_a1.ext E14
  have F22_14 := F_starts_a1.ext E14
  have F23_14 := F_grouped_a1.ext E14
  have F24_14 := F_next_a1.ext E14
  have F25_14 := F_valuesCost_a1.ext E14
  have F26_14 := V_w_target_a1.ext E14
  have F28_14 := V_w_grouped_a1.ext E14
  have F30_14 := E_a1.ext E14
  have V_b14 : Arf Z h14 b14 .int (p2 + (1 : Int32)) (fun i => (.int ((fun _ => (0 : Int32)) i))) := Arf.new A14 (own_kn p2 hky)
  obtain ⟨T32, h32, X32, e32, W32, st32⟩ := putF X14 hx hZ hown (host := "") (Or.inl (hw _ (mgE 26 rfl))) Via.refl e14 F22_14 F30_14 (Or.inl (hw _ (mgE 27 rfl))) (hw _ (mgE 3 rfl)) (ty := (.array .int)) (by decide) rfl rfl (g := (mkF m 31 #[.val (.ref a1), .val (.int p2), .unset] [(.ref b14), (.ref a1)])) rfl rfl (hb hby d9_31)
  have F33_32 := F15_14.other W32 (Or.inr (slot_ne (Or.inl (hw _ (mgE 51 rfl))) (Or.inl (hw _ (mgE 27 rfl))) (by decide) (t := .int) (t' := (.array .int)) (by decide) (by decide)))
  have F34_32 := F16_14.other W32 (Or.inr (slot_ne (Or.inl (hw _ (mgE 13 rfl))) (Or.inl (hw _ (mgE 27 rfl))) (by decide) (t := (.array .int)) (t' := (.array .int)) (by decide) (by decide)))
  have F35_32 := F17_14.other W32 (Or.inr (slot_ne (Or.inl (hw _ (mgE 15 rfl))) (Or.inl (hw _ (mgE 27 rfl))) (by decide) (t := (.array .int)) (t' := (.array .int)) (by decide) (by decide)))
  have F36_32 := F18_14.other W32 (Or.inr (slot_ne (Or.inl (hw _ (mgE 23 rfl))) (Or.inl (hw _ (mgE 27 rfl))) (by decide) (t := (.array .int)) (t' := (.array .int)) (by decide) (by decide)))
  have F37_32 := F19_14.other W32 (Or.inr (slot_ne (Or.inl (hw _ (mgE 25 rfl))) (Or.inl (hw _ (mgE 27 rfl))) (by decide) (t := (.array .int)) (t' := (.array .int)) (by decide) (by decide)))
  have F38_32 := F20_14.other W32 (Or.inr (slot_ne (Or.inl (hw _ (mgE 19 rfl))) (Or.inl (hw _ (mgE 27 rfl))) (by decide) (t := (.array (.array .byte))) (t' := (.array .int)) (by decide) (by decide)))
  have F39_32 := F21_14.other W32 (Or.inr (slot_ne (Or.inl (hw _ (mgE 21 rfl))) (Or.inl (hw _ (mgE 27 rfl))) (by decide) (t := (.array (.array .byte))) (t' := (.array .int)) (by decide) (by decide)))
  have F41_32 := F23_14.other W32 (Or.inr (slot_ne (Or.inl (hw _ (mgE 29 rfl))) (Or.inl (hw _ (mgE 27 rfl))) (by decide) (t := (.array .int)) (t' := (.array .int)) (by decide) (by decide)))
  have F42_32 := F24_14.other W32 (Or.inr (slot_ne (Or.inl (hw _ (mgE 31 rfl))) (Or.inl (hw _ (mgE 27 rfl))) (by decide) (t := (.array .int)) (t' := (.array .int)) (by decide) (by decide)))
  have F43_32 := F25_14.other W32 (Or.inr (slot_ne (Or.inl (hw _ (mgE 40 rfl))) (Or.inl (hw _ (mgE 27 rfl))) (by decide) (t := .long) (t' := (.array .int)) (by decide) (by decide)))
  have F44_32 := F26_14.other W32 ne_w_target_a1_a1
  have F46_32 := F28_14.other W32 ne_w_grouped_a1_a1
  have F48_32 := F30_14.wr W32
  have F49_32 := V_b14.other W32 (Ne.symm ne_a1_b14)
  have Fw32 := F22_14.same W32
  have K32 : Keep h0 h32 [a1] := K14.wr W32 (Or.inl (mgE 0 rfl))
  have Z32 : n0 ≤ h32.size := Nat.le_trans Z14 (Keep.of_wr W32).1
  have N32 := Fr.snoc X32 N10 g_a1
  obtain ⟨T51, X51, e51, st51⟩ := getF X32 hx hZ hown (host := "") (Or.inl (hw _ (mgE 26 rfl))) Via.refl e32 Fw32 (g := (mkF m 36 #[.val (.ref a1), .val (.int p2), .unset] [(.ref a1), (.ref a1)])) rfl rfl (hb hby d9_36)
  obtain ⟨cl53, Ar53, S53, Ng53, H53⟩ := id F49_32
  obtain ⟨T54, h54, k54, X54, e54, E54, A54, st54⟩ := newP X51 hx hZ (hw _ (mgE 11 rfl)) e51 (g := (mkF m 40 #[.val (.ref a1), .val (.int p2), .unset] [(.int (p2 + (1 : Int32))), (.ref a1)])) rfl (hb hby d9_40) rfl (own_kn p2 hky) (cap := 9) (own_kc p2 hky) (by decide) (by decide) (by decide)
  obtain ⟨b54, g54⟩ : ∃ z, z = h32.size := ⟨_, rfl⟩
  rw [← g54] at A54 st54
  have ne_a1_b54 : a1 ≠ b54 := Nat.ne_of_lt (Nat.lt_of_lt_of_le F33_32.lt (Nat.le_of_eq g54.symm))
  have ne_w_target_a1_b54 : w_target_a1 ≠ b54 := Nat.ne_of_lt (Nat.lt_of_lt_of_le F44_32.lt (Nat.le_of_eq g54.symm))
  have ne_b14_b54 : b14 ≠ b54 := Nat.ne_of_lt (Nat.lt_of_lt_of_le F49_32.lt (Nat.le_of_eq g54.symm))
  have g_b54 : n0 ≤ b54 := Nat.le_trans Z32 (Nat.le_of_eq g54.symm)
  have sz_b54 : h0.size ≤ b54 := Nat.le_trans K32.1 (Nat.le_of_eq g54.symm)
  have K54 : Keep h0 h54 [a1] := K32.ext E54
  have Z54 : n0 ≤ h54.size := Nat.le_trans Z32 E54.1
  have F55_54 := F33_32.ext E54
  have F56_54 := F34_32.ext E54
  have F57_54 := F35_32.ext E54
  have F58_54 := F36_32.ext E54
  have F59_54 := F37_32.ext E54
  have F60_54 := F38_32.ext E54
  have F61_54 := F39_32.ext E54
  have F62_54 := Fw32.ext E54
  have F63_54 := F41_32.ext E54
  have F64_54 := F42_32.ext E54
  have F65_54 := F43_32.ext E54
  have F66_54 := F44_32.ext E54
  have F68_54 := F46_32.ext E54
  have F70_54 := F48_32.ext E54
  have F71_54 := F49_32.ext E54
  have V_b54 : Arf Z h54 b54 .int (p2 + (1 : Int32)) (fun i => (.int ((fun _ => (0 : Int32)) i))) := Arf.new A54 (own_kn p2 hky)
  obtain ⟨T73, h73, X73, e73, W73, st73⟩ := putF X54 hx hZ hown (host := "") (Or.inl (hw _ (mgE 30 rfl))) Via.refl e54 F64_54 F70_54 (Or.inl (hw _ (mgE 31 rfl))) (hw _ (mgE 3 rfl)) (ty := (.array .int)) (by decide) rfl rfl (g := (mkF m 42 #[.val (.ref a1), .val (.int p2), .unset] [(.ref b54), (.ref a1)])) rfl rfl (hb hby d9_42)
  have F74_73 := F55_54.other W73 (Or.inr (slot_ne (Or.inl (hw _ (mgE 51 rfl))) (Or.inl (hw _ (mgE 31 rfl))) (by decide) (t := .int) (t' := (.array .int)) (by decide) (by decide)))
  have F75_73 := F56_54.other W73 (Or.inr (slot_ne (Or.inl (hw _ (mgE 13 rfl))) (Or.inl (hw _ (mgE 31 rfl))) (by decide) (t := (.array .int)) (t' := (.array .int)) (by decide) (by decide)))
  have F76_73 := F57_54.other W73 (Or.inr (slot_ne (Or.inl (hw _ (mgE 15 rfl))) (Or.inl (hw _ (mgE 31 rfl))) (by decide) (t := (.array .int)) (t' := (.array .int)) (by decide) (by decide)))
  have F77_73 := F58_54.other W73 (Or.inr (slot_ne (Or.inl (hw _ (mgE 23 rfl))) (Or.inl (hw _ (mgE 31 rfl))) (by decide) (t := (.array .int)) (t' := (.array .int)) (by decide) (by decide)))
  have F78_73 := F59_54.other W73 (Or.inr (slot_ne (Or.inl (hw _ (mgE 25 rfl))) (Or.inl (hw _ (mgE 31 rfl))) (by decide) (t := (.array .int)) (t' := (.array .int)) (by decide) (by decide)))
  have F79_73 := F60_54.other W73 (Or.inr (slot_ne (Or.inl (hw _ (mgE 19 rfl))) (Or.inl (hw _ (mgE 31 rfl))) (by decide) (t := (.array (.array .byte))) (t' := (.array .int)) (by decide) (by decide)))
  have F80_73 := F61_54.other W73 (Or.inr (slot_ne (Or.inl (hw _ (mgE 21 rfl))) (Or.inl (hw _ (mgE 31 rfl))) (by decide) (t := (.array (.array .byte))) (t' := (.array .int)) (by decide) (by decide)))
  have F81_73 := F62_54.other W73 (Or.inr (slot_ne (Or.inl (hw _ (mgE 27 rfl))) (Or.inl (hw _ (mgE 31 rfl))) (by decide) (t := (.array .int)) (t' := (.array .int)) (by decide) (by decide)))
  have F82_73 := F63_54.other W73 (Or.inr (slot_ne (Or.inl (hw _ (mgE 29 rfl))) (Or.inl (hw _ (mgE 31 rfl))) (by decide) (t := (.array .int)) (t' := (.array .int)) (by decide) (by decide)))
  have F84_73 := F65_54.other W73 (Or.inr (slot_ne (Or.inl (hw _ (mgE 40 rfl))) (Or.inl (hw _ (mgE 31 rfl))) (by decide) (t := .long) (t' := (.array .int)) (by decide) (by decide)))
  have F85_73 := F66_54.other W73 ne_w_target_a1_a1
  have F87_73 := F68_54.other W73 ne_w_grouped_a1_a1
  have F89_73 := F70_54.wr W73
  have F90_73 := F71_54.other W73 (Ne.symm ne_a1_b14)
  have F91_73 := V_b54.other W73 (Ne.symm ne_a1_b54)
  have Fw73 := F64_54.same W73
  have K73 : Keep h0 h73 [a1] := K54.wr W73 (Or.inl (mgE 0 rfl))
  have Z73 : n0 ≤ h73.size := Nat.le_trans Z54 (Keep.of_wr W73).1
  have N73 := Fr.snoc X73 N32 g_a1
  obtain ⟨T93, X93, e93, st93⟩ := getF X73 hx hZ hown (host := "") (Or.inl (hw _ (mgE 26 rfl))) Via.refl e73 F81_73 (g := (mkF m 46 #[.val (.ref a1), .val (.int p2), .unset] [(.ref a1)])) rfl rfl (hb hby d9_46)
  obtain ⟨_, _, ⟨T95, L95, k95, n95⟩, -, X95, ⟨Lc95, hQ95, l95, y95, z95⟩, st95⟩ := Jvm.LawKit.callS X93 hx (y := (⟨"java/util/Arrays", "fill", "([IIII)V"⟩ : MethodName)) hown (mvT hZ (hw _ (mgE 84 rfl))) (mvT hZ (hw _ (mgE 85 rfl))) (mvT hZ (hw _ (mgE 86 rfl))) (mvT hZ (hw _ (mgE 87 rfl))) (by decide) (backOf (W := 0) (rm13 l Z a0 hw [] b14 (0 : Int32) (p2 + (1 : Int32)) (0 : Int32) (p2 + (1 : Int32)) (fun _ => (0 : Int32)) h73 n0 Z73 F90_73 g_b14 (own_fA p2 hky) (by decide) (Int32.lt_irrefl)) hZ (hw _ (mgE 87 rfl)) (hw _ (mgE 86 rfl)) (by decide) (by decide)) (g := (mkF m 54 #[.val (.ref a1), .val (.int p2), .unset] [(.int (0 : Int32)), (.int (p2 + (1 : Int32))), (.int (0 : Int32)), (.ref b14)])) rfl (by rw [hml]; rfl) (argsL := [(.ref b14), (.int (0 : Int32)), (.int (p2 + (1 : Int32))), (.int (0 : Int32))]) (rest := []) (lenOf pd___IIII_V rfl) rfl (by show 2 * 0 + _ ≤ _; exact Nat.le_of_eq rfl) (hb hby d9_54) (fun _ _ => ⟨rfl, e93, (by decide : 2 + 0 ≤ _), (by decide : 18 + 0 ≤ _)⟩)
  dsimp only [Pt.U, Pt.locs, Pt.cells, Pt.slots] at X95 l95 y95 z95 st95 hQ95
  subst l95 y95 z95
  obtain ⟨rfl, N95q, K95, Q95_0⟩ := hQ95
  have F96_95 := F74_73.keep K95 (ninS ne_a1_b14 nin0)
  have F97_95 := F75_73.keep K95 (ninS ne_a1_b14 nin0)
  have F98_95 := F76_73.keep K95 (ninS ne_a1_b14 nin0)
  have F99_95 := F77_73.keep K95 (ninS ne_a1_b14 nin0)
  have F100_95 := F78_73.keep K95 (ninS ne_a1_b14 nin0)
  have F101_95 := F79_73.keep K95 (ninS ne_a1_b14 nin0)
  have F102_95 := F80_73.keep K95 (ninS ne_a1_b14 nin0)
  have F103_95 := F81_73.keep K95 (ninS ne_a1_b14 nin0)
  have F104_95 := F82_73.keep K95 (ninS ne_a1_b14 nin0)
  have F105_95 := Fw73.keep K95 (ninS ne_a1_b14 nin0)
  have F106_95 := F84_73.keep K95 (ninS ne_a1_b14 nin0)
  have F107_95 := F85_73.keep K95 (ninS ne_w_target_a1_b14 nin0)
  have F109_95 := F87_73.keep K95 (ninS ne_w_grouped_a1_b14 nin0)
  have F111_95 := F89_73.keep K95
  have F113_95 := F91_73.keep K95 (ninS (Ne.symm ne_b14_b54) nin0)
  have KK95 : Keep h0 T95.heap [a1] := Keep.trans K73 K95 (allS (Or.inr sz_b14) all0)
  have Z95 : n0 ≤ T95.heap.size := Nat.le_trans Z73 K95.1
  have N95 := Fr.app N73 N95q
  have pre115 : ∀ t, Steps p.tables e below (T95.setTop (mkF m 57 #[.val (.ref a1), .val (.int p2), .unset] [])) t → EN t := fun t kt => by
    refine pre12 t ?_
    refine st14 t ?_
    refine st32 t ?_
    refine XS.aloadN X32.here hx rfl (hb hby d9_34) rfl rfl ?_
    refine XS.aloadN X32.here hx rfl (hb hby d9_35) rfl rfl ?_
    refine st51 t ?_
    refine X51.arraylength hx (by rw [e51]; exact Ar53.1) (State.isArrayOf_alike hZ.alike Ar53.2.1) (g := (mkF m 39 #[.val (.ref a1), .val (.int p2), .unset] [(.ref b14), (.ref a1)])) rfl rfl (hb hby d9_39) _ ?_
    rw [len_of S53 Ng53]
    refine st54 t ?_
    refine st73 t ?_
    refine XS.aloadN X73.here hx rfl (hb hby d9_45) rfl rfl ?_
    refine st93 t ?_
    show Steps p.tables e below (T93.setTop (mkF m 49 #[.val (.ref a1), .val (.int p2), .unset] [(.ref b14)])) _
    refine XS.iconst X93.here hx rfl (hb hby d9_49) ?_
    refine XS.iloadN X93.here hx rfl (hb hby d9_50) rfl ?_
    refine XS.iconst X93.here hx rfl (hb hby d9_51) ?_
    refine XS.iadd X93.here hx rfl (hb hby d9_52) rfl ?_
    refine XS.iconst X93.here hx rfl (hb hby d9_53) ?_
    refine st95 t ?_
    exact kt
  have F116 : Arf Z T95.heap b14 .int (p2 + (1 : Int32)) (fun i => (.int ((fun _ => (0 : Int32)) i))) := Q95_0.cong (fun i _ => by unfold fil; split <;> rfl)
  obtain ⟨T117, X117, e117, st117⟩ := getF X95 hx hZ hown (host := "") (Or.inl (hw _ (mgE 50 rfl))) Via.refl rfl F96_95 (g := (mkF m 61 #[.val (.ref a1), .val (.int p2), .val (.int (0 : Int32))] [(.ref a1), (.int (0 : Int32))])) rfl rfl (hb hby d9_61)
  obtain ⟨T119, X119, e119, st119⟩ := getF X117 hx hZ hown (host := "") (Or.inl (hw _ (mgE 26 rfl))) Via.refl e117 F103_95 (g := (mkF m 68 #[.val (.ref a1), .val (.int p2), .val (.int (0 : Int32))] [(.ref a1)])) rfl rfl (hb hby d9_68)
  obtain ⟨T121, X121, e121, st121⟩ := getF X119 hx hZ hown (host := "") (Or.inl (hw _ (mgE 12 rfl))) Via.refl e119 F97_95 (g := (mkF m 72 #[.val (.ref a1), .val (.int p2), .val (.int (0 : Int32))] [(.ref a1), (.ref b14)])) rfl rfl (hb hby d9_72)
  obtain ⟨cl123, Ar123, S123, Ng123, H123⟩ := id F107_95
  have hj123 : ¬ (0 : Int32) < 0 ∧ (0 : Int32) < (1024 : Int32) := ⟨by decide, by decide⟩
  have hin123 := inb_of S123 hj123
  have lt123 : ((0 : Int32)).toNatClampNeg < ((1024 : Int32)).toNatClampNeg := by rw [← S123]; exact Nat.lt_of_not_le fun q => hin123 (Or.inr q)
  have hv123 : ((.int ((own_upd (own_upd (own_upd (fun _ => (0 : Int32)) ((0 : Int32)).toNatClampNeg tt1) ((1 : Int32)).toNatClampNeg tt2) ((2 : Int32)).toNatClampNeg tt3) ((0 : Int32)).toNatClampNeg)) : Value) = (.int tt1) := rfl
  obtain ⟨cl124, Ar124, S124, Ng124, H124⟩ := id F116
  have hj124 : ¬ (tt1 + (1 : Int32)) < 0 ∧ (tt1 + (1 : Int32)) < (p2 + (1 : Int32)) := own_ixs tt1 p2 hky ht1
  have hin124 := inb_of S124 hj124
  have lt124 : ((tt1 + (1 : Int32))).toNatClampNeg < ((p2 + (1 : Int32))).toNatClampNeg := by rw [← S124]; exact Nat.lt_of_not_le fun q => hin124 (Or.inr q)
  obtain ⟨cl125, Ar125, S125, Ng125, H125⟩ := id F116
  have hj125 : ¬ (tt1 + (1 : Int32)) < 0 ∧ (tt1 + (1 : Int32)) < (p2 + (1 : Int32)) := own_ixs tt1 p2 hky ht1
  have hin125 := inb_of S125 hj125
  obtain ⟨T126, h126, X126, e126, W126, st126⟩ := stI X121 hx hZ e121 Ar125 (j := (tt1 + (1 : Int32))) hin125 (g := (mkF m 83 #[.val (.ref a1), .val (.int p2), .val (.int (0 : Int32))] [(.int (((fun _ => (0 : Int32)) ((tt1 + (1 : Int32))).toNatClampNeg) + (1 : Int32))), (.int (tt1 + (1 : Int32))), (.ref b14)])) rfl rfl (hb hby d9_83)
  have F127_126 := F96_95.other W126 (Or.inl ne_a1_b14)
  have F128_126 := F97_95.other W126 (Or.inl ne_a1_b14)
  have F129_126 := F98_95.other W126 (Or.inl ne_a1_b14)
  have F130_126 := F99_95.other W126 (Or.inl ne_a1_b14)
  have F131_126 := F100_95.other W126 (Or.inl ne_a1_b14)
  have F132_126 := F101_95.other W126 (Or.inl ne_a1_b14)
  have F133_126 := F102_95.other W126 (Or.inl ne_a1_b14)
  have F134_126 := F103_95.other W126 (Or.inl ne_a1_b14)
  have F135_126 := F104_95.other W126 (Or.inl ne_a1_b14)
  have F136_126 := F105_95.other W126 (Or.inl ne_a1_b14)
  have F137_126 := F106_95.other W126 (Or.inl ne_a1_b14)
  have F138_126 := F107_95.other W126 ne_w_target_a1_b14
  have F140_126 := F109_95.other W126 ne_w_grouped_a1_b14
  have F142_126 := F111_95.wr W126
  have F143_126 := F113_95.other W126 (Ne.symm ne_b14_b54)
  have V126_b14 : Arf Z h126 b14 .int (p2 + (1 : Int32)) (fun i => (.int ((own_upd (fun _ => (0 : Int32)) ((tt1 + (1 : Int32))).toNatClampNeg (((fun _ => (0 : Int32)) ((tt1 + (1 : Int32))).toNatClampNeg) + (1 : Int32))) i))) := upd_int _ _ _ ▸ (F116.set W126)
  have K126 : Keep h0 h126 [a1] := KK95.wr W126 (Or.inr sz_b14)
  have Z126 : n0 ≤ h126.size := Nat.le_trans Z95 (Keep.of_wr W126).1
  have N126 := Fr.snoc X126 N95 g_b14
  obtain ⟨T146, X146, e146, st146⟩ := getF X126 hx hZ hown (host := "") (Or.inl (hw _ (mgE 50 rfl))) Via.refl e126 F127_126 (g := (mkF m 61 #[.val (.ref a1), .val (.int p2), .val (.int (1 : Int32))] [(.ref a1), (.int (1 : Int32))])) rfl rfl (hb hby d9_61)
  obtain ⟨T148, X148, e148, st148⟩ := getF X146 hx hZ hown (host := "") (Or.inl (hw _ (mgE 26 rfl))) Via.refl e146 F134_126 (g := (mkF m 68 #[.val (.ref a1), .val (.int p2), .val (.int (1 : Int32))] [(.ref a1)])) rfl rfl (hb hby d9_68)
  obtain ⟨T150, X150, e150, st150⟩ := getF X148 hx hZ hown (host := "") (Or.inl (hw _ (mgE 12 rfl))) Via.refl e148 F128_126 (g := (mkF m 72 #[.val (.ref a1), .val (.int p2), .val (.int (1 : Int32))] [(.ref a1), (.ref b14)])) rfl rfl (hb hby d9_72)
  obtain ⟨cl152, Ar152, S152, Ng152, H152⟩ := id F138_126
  have hj152 : ¬ (1 : Int32) < 0 ∧ (1 : Int32) < (1024 : Int32) := ⟨by decide, by decide⟩
  have hin152 := inb_of S152 hj152
  have lt152 : ((1 : Int32)).toNatClampNeg < ((1024 : Int32)).toNatClampNeg := by rw [← S152]; exact Nat.lt_of_not_le fun q => hin152 (Or.inr q)
  have hv152 : ((.int ((own_upd (own_upd (own_upd (fun _ => (0 : Int32)) ((0 : Int32)).toNatClampNeg tt1) ((1 : Int32)).toNatClampNeg tt2) ((2 : Int32)).toNatClampNeg tt3) ((1 : Int32)).toNatClampNeg)) : Value) = (.int tt2) := rfl
  obtain ⟨cl153, Ar153, S153, Ng153, H153⟩ := id V126_b14
  have hj153 : ¬ (tt2 + (1 : Int32)) < 0 ∧ (tt2 + (1 : Int32)) < (p2 + (1 : Int32)) := own_ixs tt2 p2 hky ht2
  have hin153 := inb_of S153 hj153
  have lt153 : ((tt2 + (1 : Int32))).toNatClampNeg < ((p2 + (1 : Int32))).toNatClampNeg := by rw [← S153]; exact Nat.lt_of_not_le fun q => hin153 (Or.inr q)
  obtain ⟨cl154, Ar154, S154, Ng154, H154⟩ := id V126_b14
  have hj154 : ¬ (tt2 + (1 : Int32)) < 0 ∧ (tt2 + (1 : Int32)) < (p2 + (1 : Int32)) := own_ixs tt2 p2 hky ht2
  have hin154 := inb_of S154 hj154
  obtain ⟨T155, h155, X155, e155, W155, st155⟩ := stI X150 hx hZ e150 Ar154 (j := (tt2 + (1 : Int32))) hin154 (g := (mkF m 83 #[.val (.ref a1), .val (.int p2), .val (.int (1 : Int32))] [(.int (((own_upd (fun _ => (0 : Int32)) ((tt1 + (1 : Int32))).toNatClampNeg (((fun _ => (0 : Int32)) ((tt1 + (1 : Int32))).toNatClampNeg) + (1 : Int32))) ((tt2 + (1 : Int32))).toNatClampNeg) + (1 : Int32))), (.int (tt2 + (1 : Int32))), (.ref b14)])) rfl rfl (hb hby d9_83)
  have F156_155 := F127_126.other W155 (Or.inl ne_a1_b14)
  have F157_155 := F128_126.other W155 (Or.inl ne_a1_b14)
  have F158_155 := F129_126.other W155 (Or.inl ne_a1_b14)
  have F159_155 := F130_126.other W155 (Or.inl ne_a1_b14)
  have F160_155 := F131_126.other W155 (Or.inl ne_a1_b14)
  have F161_155 := F132_126.other W155 (Or.inl ne_a1_b14)
  have F162_155 := F133_126.other W155 (Or.inl ne_a1_b14)
  have F163_155 := F134_126.other W155 (Or.inl ne_a1_b14)
  have F164_155 := F135_126.other W155 (Or.inl ne_a1_b14)
  have F165_155 := F136_126.other W155 (Or.inl ne_a1_b14)
  have F166_155 := F137_126.other W155 (Or.inl ne_a1_b14)
  have F167_155 := F138_126.other W155 ne_w_target_a1_b14
  have F169_155 := F140_126.other W155 ne_w_grouped_a1_b14
  have F171_155 := F142_126.wr W155
  have F172_155 := F143_126.other W155 (Ne.symm ne_b14_b54)
  have V155_b14 : Arf Z h155 b14 .int (p2 + (1 : Int32)) (fun i => (.int ((own_upd (own_upd (fun _ => (0 : Int32)) ((tt1 + (1 : Int32))).toNatClampNeg (((fun _ => (0 : Int32)) ((tt1 + (1 : Int32))).toNatClampNeg) + (1 : Int32))) ((tt2 + (1 : Int32))).toNatClampNeg (((own_upd (fun _ => (0 : Int32)) ((tt1 + (1 : Int32))).toNatClampNeg (((fun _ => (0 : Int32)) ((tt1 + (1 : Int32))).toNatClampNeg) + (1 : Int32))) ((tt2 + (1 : Int32))).toNatClampNeg) + (1 : Int32))) i))) := upd_int _ _ _ ▸ (V126_b14.set W155)
  have K155 : Keep h0 h155 [a1] := K126.wr W155 (Or.inr sz_b14)
  have Z155 : n0 ≤ h155.size := Nat.le_trans Z126 (Keep.of_wr W155).1
  have N155 := Fr.snoc X155 N126 g_b14
  obtain ⟨T175, X175, e175, st175⟩ := getF X155 hx hZ hown (host := "") (Or.inl (hw _ (mgE 50 rfl))) Via.refl e155 F156_155 (g := (mkF m 61 #[.val (.ref a1), .val (.int p2), .val (.int (2 : Int32))] [(.ref a1), (.int (2 : Int32))])) rfl rfl (hb hby d9_61)
  obtain ⟨T177, X177, e177, st177⟩ := getF X175 hx hZ hown (host := "") (Or.inl (hw _ (mgE 26 rfl))) Via.refl e175 F163_155 (g := (mkF m 68 #[.val (.ref a1), .val (.int p2), .val (.int (2 : Int32))] [(.ref a1)])) rfl rfl (hb hby d9_68)
  obtain ⟨T179, X179, e179, st179⟩ := getF X177 hx hZ hown (host := "") (Or.inl (hw _ (mgE 12 rfl))) Via.refl e177 F157_155 (g := (mkF m 72 #[.val (.ref a1), .val (.int p2), .val (.int (2 : Int32))] [(.ref a1), (.ref b14)])) rfl rfl (hb hby d9_72)
  obtain ⟨cl181, Ar181, S181, Ng181, H181⟩ := id F167_155
  have hj181 : ¬ (2 : Int32) < 0 ∧ (2 : Int32) < (1024 : Int32) := ⟨by decide, by decide⟩
  have hin181 := inb_of S181 hj181
  have lt181 : ((2 : Int32)).toNatClampNeg < ((1024 : Int32)).toNatClampNeg := by rw [← S181]; exact Nat.lt_of_not_le fun q => hin181 (Or.inr q)
  have hv181 : ((.int ((own_upd (own_upd (own_upd (fun _ => (0 : Int32)) ((0 : Int32)).toNatClampNeg tt1) ((1 : Int32)).toNatClampNeg tt2) ((2 : Int32)).toNatClampNeg tt3) ((2 : Int32)).toNatClampNeg)) : Value) = (.int tt3) := rfl
  obtain ⟨cl182, Ar182, S182, Ng182, H182⟩ := id V155_b14
  have hj182 : ¬ (tt3 + (1 : Int32)) < 0 ∧ (tt3 + (1 : Int32)) < (p2 + (1 : Int32)) := own_ixs tt3 p2 hky ht3
  have hin182 := inb_of S182 hj182
  have lt182 : ((tt3 + (1 : Int32))).toNatClampNeg < ((p2 + (1 : Int32))).toNatClampNeg := by rw [← S182]; exact Nat.lt_of_not_le fun q => hin182 (Or.inr q)
  obtain ⟨cl183, Ar183, S183, Ng183, H183⟩ := id V155_b14
  have hj183 : ¬ (tt3 + (1 : Int32)) < 0 ∧ (tt3 + (1 : Int32)) < (p2 + (1 : Int32)) := own_ixs tt3 p2 hky ht3
  have hin183 := inb_of S183 hj183
  obtain ⟨T184, h184, X184, e184, W184, st184⟩ := stI X179 hx hZ e179 Ar183 (j := (tt3 + (1 : Int32))) hin183 (g := (mkF m 83 #[.val (.ref a1), .val (.int p2), .val (.int (2 : Int32))] [(.int (((own_upd (own_upd (fun _ => (0 : Int32)) ((tt1 + (1 : Int32))).toNatClampNeg (((fun _ => (0 : Int32)) ((tt1 + (1 : Int32))).toNatClampNeg) + (1 : Int32))) ((tt2 + (1 : Int32))).toNatClampNeg (((own_upd (fun _ => (0 : Int32)) ((tt1 + (1 : Int32))).toNatClampNeg (((fun _ => (0 : Int32)) ((tt1 + (1 : Int32))).toNatClampNeg) + (1 : Int32))) ((tt2 + (1 : Int32))).toNatClampNeg) + (1 : Int32))) ((tt3 + (1 : Int32))).toNatClampNeg) + (1 : Int32))), (.int (tt3 + (1 : Int32))), (.ref b14)])) rfl rfl (hb hby d9_83)
  have F185_184 := F156_155.other W184 (Or.inl ne_a1_b14)
  have F186_184 := F157_155.other W184 (Or.inl ne_a1_b14)
  have F187_184 := F158_155.other W184 (Or.inl ne_a1_b14)
  have F188_184 := F159_155.other W184 (Or.inl ne_a1_b14)
  have F189_184 := F160_155.other W184 (Or.inl ne_a1_b14)
  have F190_184 := F161_155.other W184 (Or.inl ne_a1_b14)
  have F191_184 := F162_155.other W184 (Or.inl ne_a1_b14)
  have F192_184 := F163_155.other W184 (Or.inl ne_a1_b14)
  have F193_184 := F164_155.other W184 (Or.inl ne_a1_b14)
  have F194_184 := F165_155.other W184 (Or.inl ne_a1_b14)
  have F195_184 := F166_155.other W184 (Or.inl ne_a1_b14)
  have F196_184 := F167_155.other W184 ne_w_target_a1_b14
  have F198_184 := F169_155.other W184 ne_w_grouped_a1_b14
  have F200_184 := F171_155.wr W184
  have F201_184 := F172_155.other W184 (Ne.symm ne_b14_b54)
  have V184_b14 : Arf Z h184 b14 .int (p2 + (1 : Int32)) (fun i => (.int ((own_upd (own_upd (own_upd (fun _ => (0 : Int32)) ((tt1 + (1 : Int32))).toNatClampNeg (((fun _ => (0 : Int32)) ((tt1 + (1 : Int32))).toNatClampNeg) + (1 : Int32))) ((tt2 + (1 : Int32))).toNatClampNeg (((own_upd (fun _ => (0 : Int32)) ((tt1 + (1 : Int32))).toNatClampNeg (((fun _ => (0 : Int32)) ((tt1 + (1 : Int32))).toNatClampNeg) + (1 : Int32))) ((tt2 + (1 : Int32))).toNatClampNeg) + (1 : Int32))) ((tt3 + (1 : Int32))).toNatClampNeg (((own_upd (own_upd (fun _ => (0 : Int32)) ((tt1 + (1 : Int32))).toNatClampNeg (((fun _ => (0 : Int32)) ((tt1 + (1 : Int32))).toNatClampNeg) + (1 : Int32))) ((tt2 + (1 : Int32))).toNatClampNeg (((own_upd (fun _ => (0 : Int32)) ((tt1 + (1 : Int32))).toNatClampNeg (((fun _ => (0 : Int32)) ((tt1 + (1 : Int32))).toNatClampNeg) + (1 : Int32))) ((tt2 + (1 : Int32))).toNatClampNeg) + (1 : Int32))) ((tt3 + (1 : Int32))).toNatClampNeg) + (1 : Int32))) i))) := upd_int _ _ _ ▸ (V155_b14.set W184)
  have K184 : Keep h0 h184 [a1] := K155.wr W184 (Or.inr sz_b14)
  have Z184 : n0 ≤ h184.size := Nat.le_trans Z155 (Keep.of_wr W184).1
  have N184 := Fr.snoc X184 N155 g_b14
  obtain ⟨T204, X204, e204, st204⟩ := getF X184 hx hZ hown (host := "") (Or.inl (hw _ (mgE 50 rfl))) Via.refl e184 F185_184 (g := (mkF m 61 #[.val (.ref a1), .val (.int p2), .val (.int (3 : Int32))] [(.ref a1), (.int (3 : Int32))])) rfl rfl (hb hby d9_61)
  have pre206 : ∀ t, Steps p.tables e below (T204.setTop (mkF m 90 #[.val (.ref a1), .val (.int p2), .val (.int (3 : Int32))] [])) t → EN t := fun t kt => by
    refine pre115 t ?_
    refine XS.iconst X95.here hx rfl (hb hby d9_57) ?_
    refine XS.istoreN X95.here hx rfl (hb hby d9_58) rfl (l' := #[.val (.ref a1), .val (.int p2), .val (.int (0 : Int32))]) rfl ?_
    refine XS.iloadN X95.here hx rfl (hb hby d9_59) rfl ?_
    refine XS.aloadN X95.here hx rfl (hb hby d9_60) rfl rfl ?_
    refine st117 t ?_
    refine XS.icmpNo X117.here hx rfl (hb hby d9_64) rfl (tlt (by decide : (0 : Int32) < (3 : Int32))).2.1 ?_
    refine XS.aloadN X117.here hx rfl (hb hby d9_67) rfl rfl ?_
    refine st119 t ?_
    refine XS.aloadN X119.here hx rfl (hb hby d9_71) rfl rfl ?_
    refine st121 t ?_
    show Steps p.tables e below (T121.setTop (mkF m 75 #[.val (.ref a1), .val (.int p2), .val (.int (0 : Int32))] [(.ref w_target_a1), (.ref b14)])) _
    refine XS.iloadN X121.here hx rfl (hb hby d9_75) rfl ?_
    refine X121.iaload hx (j := (0 : Int32)) (v := (.int tt1)) (by rw [e121]; exact Ar123.1) (State.isArrayOf_alike hZ.alike Ar123.2.1) Ar123.2.2 hin123 ((H123 _ lt123).trans (congrArg some hv123)) (g := (mkF m 76 #[.val (.ref a1), .val (.int p2), .val (.int (0 : Int32))] [(.int (0 : Int32)), (.ref w_target_a1), (.ref b14)])) rfl rfl (hb hby d9_76) _ ?_
    refine XS.iconst X121.here hx rfl (hb hby d9_77) ?_
    refine XS.iadd X121.here hx rfl (hb hby d9_78) rfl ?_
    jvm_step X121.here [X121.here.top, hx, (hb hby d9_79), Value.category]
    refine X121.iaload hx (j := (tt1 + (1 : Int32))) (v := (.int ((fun _ => (0 : Int32)) ((tt1 + (1 : Int32))).toNatClampNeg))) (by rw [e121]; exact Ar124.1) (State.isArrayOf_alike hZ.alike Ar124.2.1) Ar124.2.2 hin124 (H124 _ lt124) (g := (mkF m 80 #[.val (.ref a1), .val (.int p2), .val (.int (0 : Int32))] [(.int (tt1 + (1 : Int32))), (.ref b14), (.int (tt1 + (1 : Int32))), (.ref b14)])) rfl rfl (hb hby d9_80) _ ?_
    refine XS.iconst X121.here hx rfl (hb hby d9_81) ?_
    refine XS.iadd X121.here hx rfl (hb hby d9_82) rfl ?_
    refine st126 t ?_
    refine XS.iinc X126.here hx rfl (hb hby d9_84) rfl (l' := #[.val (.ref a1), .val (.int p2), .val (.int (1 : Int32))]) rfl ?_
    show Steps p.tables e below (T126.setTop (mkF m 87 #[.val (.ref a1), .val (.int p2), .val (.int (1 : Int32))] [])) _
    refine XS.goto X126.here hx rfl (pc0 := 87) (pc' := 59) rfl (hb hby d9_87) (by decide) (by decide) ?_
    refine XS.iloadN X126.here hx rfl (hb hby d9_59) rfl ?_
    refine XS.aloadN X126.here hx rfl (hb hby d9_60) rfl rfl ?_
    refine st146 t ?_
    refine XS.icmpNo X146.here hx rfl (hb hby d9_64) rfl (tlt (by decide : (1 : Int32) < (3 : Int32))).2.1 ?_
    refine XS.aloadN X146.here hx rfl (hb hby d9_67) rfl rfl ?_
    refine st148 t ?_
    refine XS.aloadN X148.here hx rfl (hb hby d9_71) rfl rfl ?_
    refine st150 t ?_
    refine XS.iloadN X150.here hx rfl (hb hby d9_75) rfl ?_
    show Steps p.tables e below (T150.setTop (mkF m 76 #[.val (.ref a1), .val (.int p2), .val (.int (1 : Int32))] [(.int (1 : Int32)), (.ref w_target_a1), (.ref b14)])) _
    refine X150.iaload hx (j := (1 : Int32)) (v := (.int tt2)) (by rw [e150]; exact Ar152.1) (State.isArrayOf_alike hZ.alike Ar152.2.1) Ar152.2.2 hin152 ((H152 _ lt152).trans (congrArg some hv152)) (g := (mkF m 76 #[.val (.ref a1), .val (.int p2), .val (.int (1 : Int32))] [(.int (1 : Int32)), (.ref w_target_a1), (.ref b14)])) rfl rfl (hb hby d9_76) _ ?_
    refine XS.iconst X150.here hx rfl (hb hby d9_77) ?_
    refine XS.iadd X150.here hx rfl (hb hby d9_78) rfl ?_
    jvm_step X150.here [X150.here.top, hx, (hb hby d9_79), Value.category]
    refine X150.iaload hx (j := (tt2 + (1 : Int32))) (v := (.int ((own_upd (fun _ => (0 : Int32)) ((tt1 + (1 : Int32))).toNatClampNeg (((fun _ => (0 : Int32)) ((tt1 + (1 : Int32))).toNatClampNeg) + (1 : Int32))) ((tt2 + (1 : Int32))).toNatClampNeg))) (by rw [e150]; exact Ar153.1) (State.isArrayOf_alike hZ.alike Ar153.2.1) Ar153.2.2 hin153 (H153 _ lt153) (g := (mkF m 80 #[.val (.ref a1), .val (.int p2), .val (.int (1 : Int32))] [(.int (tt2 + (1 : Int32))), (.ref b14), (.int (tt2 + (1 : Int32))), (.ref b14)])) rfl rfl (hb hby d9_80) _ ?_
    refine XS.iconst X150.here hx rfl (hb hby d9_81) ?_
    refine XS.iadd X150.here hx rfl (hb hby d9_82) rfl ?_
    refine st155 t ?_
    refine XS.iinc X155.here hx rfl (hb hby d9_84) rfl (l' := #[.val (.ref a1), .val (.int p2), .val (.int (2 : Int32))]) rfl ?_
    refine XS.goto X155.here hx rfl (pc0 := 87) (pc' := 59) rfl (hb hby d9_87) (by decide) (by decide) ?_
    show Steps p.tables e below (T155.setTop (mkF m 59 #[.val (.ref a1), .val (.int p2), .val (.int (2 : Int32))] [])) _
    refine XS.iloadN X155.here hx rfl (hb hby d9_59) rfl ?_
    refine XS.aloadN X155.here hx rfl (hb hby d9_60) rfl rfl ?_
    refine st175 t ?_
    refine XS.icmpNo X175.here hx rfl (hb hby d9_64) rfl (tlt (by decide : (2 : Int32) < (3 : Int32))).2.1 ?_
    refine XS.aloadN X175.here hx rfl (hb hby d9_67) rfl rfl ?_
    refine st177 t ?_
    refine XS.aloadN X177.here hx rfl (hb hby d9_71) rfl rfl ?_
    refine st179 t ?_
    refine XS.iloadN X179.here hx rfl (hb hby d9_75) rfl ?_
    refine X179.iaload hx (j := (2 : Int32)) (v := (.int tt3)) (by rw [e179]; exact Ar181.1) (State.isArrayOf_alike hZ.alike Ar181.2.1) Ar181.2.2 hin181 ((H181 _ lt181).trans (congrArg some hv181)) (g := (mkF m 76 #[.val (.ref a1), .val (.int p2), .val (.int (2 : Int32))] [(.int (2 : Int32)), (.ref w_target_a1), (.ref b14)])) rfl rfl (hb hby d9_76) _ ?_
    show Steps p.tables e below (T179.setTop (mkF m 77 #[.val (.ref a1), .val (.int p2), .val (.int (2 : Int32))] [(.int tt3), (.ref b14)])) _
    refine XS.iconst X179.here hx rfl (hb hby d9_77) ?_
    refine XS.iadd X179.here hx rfl (hb hby d9_78) rfl ?_
    jvm_step X179.here [X179.here.top, hx, (hb hby d9_79), Value.category]
    refine X179.iaload hx (j := (tt3 + (1 : Int32))) (v := (.int ((own_upd (own_upd (fun _ => (0 : Int32)) ((tt1 + (1 : Int32))).toNatClampNeg (((fun _ => (0 : Int32)) ((tt1 + (1 : Int32))).toNatClampNeg) + (1 : Int32))) ((tt2 + (1 : Int32))).toNatClampNeg (((own_upd (fun _ => (0 : Int32)) ((tt1 + (1 : Int32))).toNatClampNeg (((fun _ => (0 : Int32)) ((tt1 + (1 : Int32))).toNatClampNeg) + (1 : Int32))) ((tt2 + (1 : Int32))).toNatClampNeg) + (1 : Int32))) ((tt3 + (1 : Int32))).toNatClampNeg))) (by rw [e179]; exact Ar182.1) (State.isArrayOf_alike hZ.alike Ar182.2.1) Ar182.2.2 hin182 (H182 _ lt182) (g := (mkF m 80 #[.val (.ref a1), .val (.int p2), .val (.int (2 : Int32))] [(.int (tt3 + (1 : Int32))), (.ref b14), (.int (tt3 + (1 : Int32))), (.ref b14)])) rfl rfl (hb hby d9_80) _ ?_
    refine XS.iconst X179.here hx rfl (hb hby d9_81) ?_
    refine XS.iadd X179.here hx rfl (hb hby d9_82) rfl ?_
    refine st184 t ?_
    refine XS.iinc X184.here hx rfl (hb hby d9_84) rfl (l' := #[.val (.ref a1), .val (.int p2), .val (.int (3 : Int32))]) rfl ?_
    refine XS.goto X184.here hx rfl (pc0 := 87) (pc' := 59) rfl (hb hby d9_87) (by decide) (by decide) ?_
    refine XS.iloadN X184.here hx rfl (hb hby d9_59) rfl ?_
    show Steps p.tables e below (T184.setTop (mkF m 60 #[.val (.ref a1), .val (.int p2), .val (.int (3 : Int32))] [(.int (3 : Int32))])) _
    refine XS.aloadN X184.here hx rfl (hb hby d9_60) rfl rfl ?_
    refine st204 t ?_
    refine XS.icmpYes X204.here hx rfl (pc0 := 64) (pc' := 90) rfl (hb hby d9_64) rfl (flt (by decide : ¬ ((3 : Int32) < (3 : Int32)))).2.1 (by decide) (by decide) ?_
    exact kt
  have F207 : Arf Z h184 b14 .int (p2 + (1 : Int32)) (fun i => (.int ((cbS tt1 tt2 tt3) i))) := V184_b14.cong (fun i _ => rfl)
  have pre208 : ∀ t, Steps p.tables e below (T204.setTop (mkF m 92 #[.val (.ref a1), .val (.int p2), .val (.int (0 : Int32))] [])) t → EN t := fun t kt => by
    refine pre206 t ?_
    refine XS.iconst X204.here hx rfl (hb hby d9_90) ?_
    refine XS.istoreN X204.here hx rfl (hb hby d9_91) rfl (l' := #[.val (.ref a1), .val (.int p2), .val (.int (0 : Int32))]) rfl ?_
    exact kt
  have hloop92 : ∀ (k : Nat) (vk : Int32) (TL : State) (LL : List Loc) (hL : Heap), (0 ≤ vk.toInt) → (vk.toInt ≤ p2.toInt) → (p2.toInt - vk.toInt).toNat < k → Stand p l e ({ frames := 2, cells := 3, slots := 21, locals := 64 } : Room) s m #[(.ref a1), (.int p2)] below meth c TL LL 2 18 → TL.heap = hL → Fr n0 LL → Keep h184 hL [b14] → Arf Z hL b14 .int (p2 + (1 : Int32)) (fun i => (.int ((prefS tt1 tt2 tt3 vk) i))) → ∃ (Tx : State) (Lx : List Loc) (hx_ : Heap) (vkx : Int32), (vkx = p2) ∧ Stand p l e ({ frames := 2, cells := 3, slots := 21, locals := 64 } : Room) s m #[(.ref a1), (.int p2)] below meth c Tx Lx 2 18 ∧ Tx.heap = hx_ ∧ Fr n0 Lx ∧ Keep h184 hx_ [b14] ∧ Arf Z hx_ b14 .int (p2 + (1 : Int32)) (fun i => (.int ((prefS tt1 tt2 tt3 vkx) i))) ∧ (∀ t, Steps p.tables e below (Tx.setTop (mkF m 120 #[.val (.ref a1), .val (.int p2), .val (.int vkx)] [])) t → Steps p.tables e below (TL.setTop (mkF m 92 #[.val (.ref a1), .val (.int p2), .val (.int vk)] [])) t) := by
    intro k
    induction k with
    | zero => intro vk TL LL hL hlo hhi hm; exact absurd hm (Nat.not_lt_zero _)
    | succ k ih =>
      intro vk TL LL hL hlo hhi hm XL eL NL KL VL0
      have ZL : n0 ≤ hL.size := Nat.le_trans Z184 KL.1
      have F216_KL := F192_184.keep KL (ninS ne_a1_b14 nin0)
      by_cases hc94 : vk < p2
      · skip
        obtain ⟨T227, X227, e227, st227⟩ := getF XL hx hZ hown (host := "") (Or.inl (hw _ (mgE 26 rfl))) Via.refl eL F216_KL (g := (mkF m 98 #[.val (.ref a1), .val (.int p2), .val (.int vk)] [(.ref a1)])) rfl rfl (hb hby d9_98)
        obtain ⟨cl229, Ar229, S229, Ng229, H229⟩ := id VL0
        have hj229 : ¬ (vk + (1 : Int32)) < 0 ∧ (vk + (1 : Int32)) < (p2 + (1 : Int32)) := own_ixk vk p2 hky hlo hc94
        have hin229 := inb_of S229 hj229
        have lt229 : ((vk + (1 : Int32))).toNatClampNeg < ((p2 + (1 : Int32))).toNatClampNeg := by rw [← S229]; exact Nat.lt_of_not_le fun q => hin229 (Or.inr q)
        obtain ⟨T230, X230, e230, st230⟩ := getF X227 hx hZ hown (host := "") (Or.inl (hw _ (mgE 26 rfl))) Via.refl e227 F216_KL (g := (mkF m 107 #[.val (.ref a1), .val (.int p2), .val (.int vk)] [(.ref a1), (.int ((prefS tt1 tt2 tt3 vk) ((vk + (1 : Int32))).toNatClampNeg)), (.int (vk + (1 : Int32))), (.ref b14)])) rfl rfl (hb hby d9_107)
        obtain ⟨cl232, Ar232, S232, Ng232, H232⟩ := id VL0
        have hj232 : ¬ vk < 0 ∧ vk < (p2 + (1 : Int32)) := own_ixm vk p2 hky hlo hc94
        have hin232 := inb_of S232 hj232
        have lt232 : (vk).toNatClampNeg < ((p2 + (1 : Int32))).toNatClampNeg := by rw [← S232]; exact Nat.lt_of_not_le fun q => hin232 (Or.inr q)
        obtain ⟨cl233, Ar233, S233, Ng233, H233⟩ := id VL0
        have hj233 : ¬ (vk + (1 : Int32)) < 0 ∧ (vk + (1 : Int32)) < (p2 + (1 : Int32)) := own_ixk vk p2 hky hlo hc94
        have hin233 := inb_of S233 hj233
        obtain ⟨T234, h234, X234, e234, W234, st234⟩ := stI X230 hx hZ e230 Ar233 (j := (vk + (1 : Int32))) hin233 (g := (mkF m 113 #[.val (.ref a1), .val (.int p2), .val (.int vk)] [(.int (((prefS tt1 tt2 tt3 vk) ((vk + (1 : Int32))).toNatClampNeg) + ((prefS tt1 tt2 tt3 vk) (vk).toNatClampNeg))), (.int (vk + (1 : Int32))), (.ref b14)])) rfl rfl (hb hby d9_113)
        have V234_b14 : Arf Z h234 b14 .int (p2 + (1 : Int32)) (fun i => (.int ((own_upd (prefS tt1 tt2 tt3 vk) ((vk + (1 : Int32))).toNatClampNeg (((prefS tt1 tt2 tt3 vk) ((vk + (1 : Int32))).toNatClampNeg) + ((prefS tt1 tt2 tt3 vk) (vk).toNatClampNeg))) i))) := upd_int _ _ _ ▸ (VL0.set W234)
        have K234 : Keep h184 h234 [b14] := KL.wr W234 (Or.inl (mgE 0 rfl))
        have N234 := Fr.snoc X234 NL g_b14
        have pre254 : ∀ t, Steps p.tables e below (T234.setTop (mkF m 92 #[.val (.ref a1), .val (.int p2), .val (.int (vk + (1 : Int32)))] [])) t → Steps p.tables e below (TL.setTop (mkF m 92 #[.val (.ref a1), .val (.int p2), .val (.int vk)] [])) t := fun t kt => by
          refine (fun t (kt : Steps p.tables e below (TL.setTop (mkF m 92 #[.val (.ref a1), .val (.int p2), .val (.int vk)] [])) t) => kt) t ?_
          refine XS.iloadN XL.here hx rfl (hb hby d9_92) rfl ?_
          refine XS.iloadN XL.here hx rfl (hb hby d9_93) rfl ?_
          refine XS.icmpNo XL.here hx rfl (hb hby d9_94) rfl (tlt hc94).2.1 ?_
          refine XS.aloadN XL.here hx rfl (hb hby d9_97) rfl rfl ?_
          refine st227 t ?_
          refine XS.iloadN X227.here hx rfl (hb hby d9_101) rfl ?_
          refine XS.iconst X227.here hx rfl (hb hby d9_102) ?_
          refine XS.iadd X227.here hx rfl (hb hby d9_103) rfl ?_
          jvm_step X227.here [X227.here.top, hx, (hb hby d9_104), Value.category]
          refine X227.iaload hx (j := (vk + (1 : Int32))) (v := (.int ((prefS tt1 tt2 tt3 vk) ((vk + (1 : Int32))).toNatClampNeg))) (by rw [e227]; exact Ar229.1) (State.isArrayOf_alike hZ.alike Ar229.2.1) Ar229.2.2 hin229 (H229 _ lt229) (g := (mkF m 105 #[.val (.ref a1), .val (.int p2), .val (.int vk)] [(.int (vk + (1 : Int32))), (.ref b14), (.int (vk + (1 : Int32))), (.ref b14)])) rfl rfl (hb hby d9_105) _ ?_
          show Steps p.tables e below (T227.setTop (mkF m 106 #[.val (.ref a1), .val (.int p2), .val (.int vk)] [(.int ((prefS tt1 tt2 tt3 vk) ((vk + (1 : Int32))).toNatClampNeg)), (.int (vk + (1 : Int32))), (.ref b14)])) _
          refine XS.aloadN X227.here hx rfl (hb hby d9_106) rfl rfl ?_
          refine st230 t ?_
          refine XS.iloadN X230.here hx rfl (hb hby d9_110) rfl ?_
          refine X230.iaload hx (j := vk) (v := (.int ((prefS tt1 tt2 tt3 vk) (vk).toNatClampNeg))) (by rw [e230]; exact Ar232.1) (State.isArrayOf_alike hZ.alike Ar232.2.1) Ar232.2.2 hin232 (H232 _ lt232) (g := (mkF m 111 #[.val (.ref a1), .val (.int p2), .val (.int vk)] [(.int vk), (.ref b14), (.int ((prefS tt1 tt2 tt3 vk) ((vk + (1 : Int32))).toNatClampNeg)), (.int (vk + (1 : Int32))), (.ref b14)])) rfl rfl (hb hby d9_111) _ ?_
          refine XS.iadd X230.here hx rfl (hb hby d9_112) rfl ?_
          refine st234 t ?_
          refine XS.iinc X234.here hx rfl (hb hby d9_114) rfl (l' := #[.val (.ref a1), .val (.int p2), .val (.int (vk + (1 : Int32)))]) rfl ?_
          refine XS.goto X234.here hx rfl (pc0 := 117) (pc' := 92) rfl (hb hby d9_117) (by decide) (by decide) ?_
          exact kt
        obtain ⟨Tx, Lx, hx_, vkx, px0, Xx, ex_, Nx, Kx, Vx0, lp⟩ := ih (vk + (1 : Int32)) _ _ _ (by rw [own_nx vk p2 hc94]; omega) (by rw [own_nx vk p2 hc94]; have w4 := Int32.lt_iff_toInt_lt.mp hc94; omega) (by rw [own_nx vk p2 hc94]; have w4 := Int32.lt_iff_toInt_lt.mp hc94; omega) X234 e234 N234 K234 (V234_b14.cong (fun i _ => congrArg Value.int (own_preS tt1 tt2 tt3 vk p2 hky ht1 ht2 ht3 hlo hc94 i)) : Arf Z h234 b14 .int (p2 + (1 : Int32)) (fun i => (.int ((prefS tt1 tt2 tt3 (vk + (1 : Int32))) i))))
        exact ⟨Tx, Lx, hx_, vkx, px0, Xx, ex_, Nx, Kx, Vx0, fun t kt => pre254 t (lp t kt)⟩
      · skip
        have pre255 : ∀ t, Steps p.tables e below (TL.setTop (mkF m 120 #[.val (.ref a1), .val (.int p2), .val (.int vk)] [])) t → Steps p.tables e below (TL.setTop (mkF m 92 #[.val (.ref a1), .val (.int p2), .val (.int vk)] [])) t := fun t kt => by
          refine (fun t (kt : Steps p.tables e below (TL.setTop (mkF m 92 #[.val (.ref a1), .val (.int p2), .val (.int vk)] [])) t) => kt) t ?_
          refine XS.iloadN XL.here hx rfl (hb hby d9_92) rfl ?_
          refine XS.iloadN XL.here hx rfl (hb hby d9_93) rfl ?_
          refine XS.icmpYes XL.here hx rfl (pc0 := 94) (pc' := 120) rfl (hb hby d9_94) rfl (flt hc94).2.1 (by decide) (by decide) ?_
          exact kt
        exact ⟨TL, _, _, vk, (Int32.toInt_inj.mp (by have w4 := mt Int32.lt_iff_toInt_lt.mpr hc94; omega)), XL, eL, NL, KL, VL0, pre255⟩
  obtain ⟨T256, L256, h256, kfin, pk, X256, e256, N256, K256, VQ256_0, lq256⟩ := hloop92 ((p2.toInt - (0 : Int32).toInt).toNat + 1) (0 : Int32) _ _ _ (by decide) (by rw [show (0 : Int32).toInt = 0 from by decide]; omega) (Nat.lt_succ_self _) X204 e204 N184 (Keep.refl _ _) (F207.cong (fun i _ => congrArg Value.int (own_pre0 tt1 tt2 tt3 p2 hky ht1 ht2 ht3 i)) : Arf Z h184 b14 .int (p2 + (1 : Int32)) (fun i => (.int ((prefS tt1 tt2 tt3 (0 : Int32)) i))))
  have F257_K256 := F185_184.keep K256 (ninS ne_a1_b14 nin0)
  have F258_K256 := F186_184.keep K256 (ninS ne_a1_b14 nin0)
  have F259_K256 := F187_184.keep K256 (ninS ne_a1_b14 nin0)
  have F260_K256 := F188_184.keep K256 (ninS ne_a1_b14 nin0)
  have F261_K256 := F189_184.keep K256 (ninS ne_a1_b14 nin0)
  have F262_K256 := F190_184.keep K256 (ninS ne_a1_b14 nin0)
  have F263_K256 := F191_184.keep K256 (ninS ne_a1_b14 nin0)
  have F264_K256 := F192_184.keep K256 (ninS ne_a1_b14 nin0)
  have F265_K256 := F193_184.keep K256 (ninS ne_a1_b14 nin0)
  have F266_K256 := F194_184.keep K256 (ninS ne_a1_b14 nin0)
  have F267_K256 := F195_184.keep K256 (ninS ne_a1_b14 nin0)
  have F268_K256 := F196_184.keep K256 (ninS ne_w_target_a1_b14 nin0)
  have F270_K256 := F198_184.keep K256 (ninS ne_w_grouped_a1_b14 nin0)
  have F272_K256 := F200_184.keep K256
  have F273_K256 := F201_184.keep K256 (ninS (Ne.symm ne_b14_b54) nin0)
  have KK256 : Keep h0 h256 [a1] := Keep.trans K184 K256 (allS (Or.inr sz_b14) all0)
  have Z256 : n0 ≤ h256.size := Nat.le_trans Z184 K256.1
  have pre275 : ∀ t, Steps p.tables e below (T256.setTop (mkF m 120 #[.val (.ref a1), .val (.int p2), .val (.int kfin)] [])) t → EN t := fun t kt => pre208 t (lq256 t kt)
  have pk_y := pk.symm
  subst pk_y
  obtain ⟨T276, X276, e276, st276⟩ := getF X256 hx hZ hown (host := "") (Or.inl (hw _ (mgE 28 rfl))) Via.refl e256 F265_K256 (g := (mkF m 121 #[.val (.ref a1), .val (.int p2), .val (.int p2)] [(.ref a1)])) rfl rfl (hb hby d9_121)
  obtain ⟨cl278, Ar278, S278, Ng278, H278⟩ := id F270_K256
  obtain ⟨T279, X279, e279, st279⟩ := getF X276 hx hZ hown (host := "") (Or.inl (hw _ (mgE 50 rfl))) Via.refl e276 F257_K256 (g := (mkF m 126 #[.val (.ref a1), .val (.int p2), .val (.int p2)] [(.ref a1), (.int (0 : Int32))])) rfl rfl (hb hby d9_126)
  obtain ⟨T281, X281, e281, st281⟩ := getF X279 hx hZ hown (host := "") (Or.inl (hw _ (mgE 28 rfl))) Via.refl e279 F265_K256 (g := (mkF m 134 #[.val (.ref a1), .val (.int p2), .val (.int p2)] [(.ref a1), (.ref a1)])) rfl rfl (hb hby d9_134)
  obtain ⟨cl283, Ar283, S283, Ng283, H283⟩ := id F270_K256
  obtain ⟨T284, X284, e284, st284⟩ := getF X281 hx hZ hown (host := "") (Or.inl (hw _ (mgE 50 rfl))) Via.refl e281 F257_K256 (g := (mkF m 139 #[.val (.ref a1), .val (.int p2), .val (.int p2)] [(.ref a1), (.int (0 : Int32)), (.ref a1)])) rfl rfl (hb hby d9_139)
  obtain ⟨T286, X286, e286, st286⟩ := getF X284 hx hZ hown (host := "") (Or.inl (hw _ (mgE 28 rfl))) Via.refl e284 F265_K256 (g := (mkF m 143 #[.val (.ref a1), .val (.int p2), .val (.int p2)] [(.ref a1), (.int (3 : Int32)), (.int (0 : Int32)), (.ref a1)])) rfl rfl (hb hby d9_143)
  obtain ⟨cl288, Ar288, S288, Ng288, H288⟩ := id F270_K256
  obtain ⟨_, _, ⟨T289, L289, k289, n289⟩, -, X289, ⟨Lc289, hQ289, l289, y289, z289⟩, st289⟩ := Jvm.LawKit.callS X286 hx (y := (⟨"com/example/accrete/accrete/io/KeyTable", "grownCapacity", "(II)I"⟩ : MethodName)) hown (mvT hZ (hw _ (mgE 71 rfl))) (mvT hZ (hw _ (mgE 72 rfl))) (mvT hZ (hw _ (mgE 73 rfl))) (mvT hZ (hw _ (mgE 74 rfl))) (by decide) (backOf (W := 1) (rm10 l Z a0 hw [] (0 : Int32) (3 : Int32) h256 n0 Z256 (by decide)) hZ (hw _ (mgE 74 rfl)) (hw _ (mgE 73 rfl)) (by decide) (by decide)) (g := (mkF m 148 #[.val (.ref a1), .val (.int p2), .val (.int p2)] [(.int (3 : Int32)), (.int (0 : Int32)), (.ref a1)])) rfl (by rw [hml]; rfl) (argsL := [(.int (0 : Int32)), (.int (3 : Int32))]) (rest := [(.ref a1)]) (lenOf pd__II_I rfl) rfl (by show 2 * 0 + _ ≤ _; exact Nat.le_of_eq rfl) (hb hby d9_148) (fun _ _ => ⟨rfl, e286, (by decide : 2 + 0 ≤ _), (by decide : 18 + 0 ≤ _)⟩)
  dsimp only [Pt.U, Pt.locs, Pt.cells, Pt.slots] at X289 l289 y289 z289 st289 hQ289
  subst l289 y289 z289
  obtain ⟨rfl, N289q, e289⟩ := hQ289
  have N289 := Fr.app N256 N289q
  have pre291 : ∀ t, Steps p.tables e below (T289.setTop (mkF m 151 #[.val (.ref a1), .val (.int p2), .val (.int p2)] [(.int (grw (0 : Int32) (3 : Int32))), (.ref a1)])) t → EN t := fun t kt => by
    refine pre275 t ?_
    refine XS.aloadN X256.here hx rfl (hb hby d9_120) rfl rfl ?_
    refine st276 t ?_
    refine X276.arraylength hx (by rw [e276]; exact Ar278.1) (State.isArrayOf_alike hZ.alike Ar278.2.1) (g := (mkF m 124 #[.val (.ref a1), .val (.int p2), .val (.int p2)] [(.ref w_grouped_a1)])) rfl rfl (hb hby d9_124) _ ?_
    rw [len_of S278 Ng278]
    refine XS.aloadN X276.here hx rfl (hb hby d9_125) rfl rfl ?_
    refine st279 t ?_
    refine XS.icmpNo X279.here hx rfl (hb hby d9_129) rfl (tlt (by decide : (0 : Int32) < (3 : Int32))).2.1 ?_
    refine XS.aloadN X279.here hx rfl (hb hby d9_132) rfl rfl ?_
    refine XS.aloadN X279.here hx rfl (hb hby d9_133) rfl rfl ?_
    refine st281 t ?_
    refine X281.arraylength hx (by rw [e281]; exact Ar283.1) (State.isArrayOf_alike hZ.alike Ar283.2.1) (g := (mkF m 137 #[.val (.ref a1), .val (.int p2), .val (.int p2)] [(.ref w_grouped_a1), (.ref a1)])) rfl rfl (hb hby d9_137) _ ?_
    rw [len_of S283 Ng283]
    show Steps p.tables e below (T281.setTop (mkF m 138 #[.val (.ref a1), .val (.int p2), .val (.int p2)] [(.int (0 : Int32)), (.ref a1)])) _
    refine XS.aloadN X281.here hx rfl (hb hby d9_138) rfl rfl ?_
    refine st284 t ?_
    refine XS.aloadN X284.here hx rfl (hb hby d9_142) rfl rfl ?_
    refine st286 t ?_
    refine X286.arraylength hx (by rw [e286]; exact Ar288.1) (State.isArrayOf_alike hZ.alike Ar288.2.1) (g := (mkF m 146 #[.val (.ref a1), .val (.int p2), .val (.int p2)] [(.ref w_grouped_a1), (.int (3 : Int32)), (.int (0 : Int32)), (.ref a1)])) rfl rfl (hb hby d9_146) _ ?_
    rw [len_of S288 Ng288]
    refine XS.isub X286.here hx rfl (hb hby d9_147) rfl ?_
    refine st289 t ?_
    exact kt
  have hl292 : (grw (0 : Int32) (3 : Int32)) = (3 : Int32) := by decide
  rw [hl292] at pre291
  obtain ⟨T293, h293, k293, X293, e293, E293, A293, st293⟩ := newP X289 hx hZ (hw _ (mgE 11 rfl)) e289 (g := (mkF m 151 #[.val (.ref a1), .val (.int p2), .val (.int p2)] [(.int (3 : Int32)), (.ref a1)])) rfl (hb hby d9_151) rfl (by decide) (cap := 3) (by decide) (by decide) (by decide) (by decide)
  obtain ⟨b293, g293⟩ : ∃ z, z = h256.size := ⟨_, rfl⟩
  rw [← g293] at A293 st293
  have ne_a1_b293 : a1 ≠ b293 := Nat.ne_of_lt (Nat.lt_of_lt_of_le F257_K256.lt (Nat.le_of_eq g293.symm))
  have ne_w_target_a1_b293 : w_target_a1 ≠ b293 := Nat.ne_of_lt (Nat.lt_of_lt_of_le F268_K256.lt (Nat.le_of_eq g293.symm))
  have ne_b54_b293 : b54 ≠ b293 := Nat.ne_of_lt (Nat.lt_of_lt_of_le F273_K256.lt (Nat.le_of_eq g293.symm))
  have ne_b14_b293 : b14 ≠ b293 := Nat.ne_of_lt (Nat.lt_of_lt_of_le VQ256_0.lt (Nat.le_of_eq g293.symm))
  have g_b293 : n0 ≤ b293 := Nat.le_trans Z256 (Nat.le_of_eq g293.symm)
  have sz_b293 : h0.size ≤ b293 := Nat.le_trans KK256.1 (Nat.le_of_eq g293.symm)
  have K293 : Keep h0 h293 [a1] := KK256.ext E293
  have F294_293 := F257_K256.ext E293
  have F295_293 := F258_K256.ext E293
  have F296_293 := F259_K256.ext E293
  have F297_293 := F260_K256.ext E293
  have F298_293 := F261_K256.ext E293
  have F299_293 := F262_K256.ext E293
  have F300_293 := F263_K256.ext E293
  have F301_293 := F264_K256.ext E293
  have F302_293 := F265_K256.ext E293
  have F303_293 := F266_K256.ext E293
  have F304_293 := F267_K256.ext E293
  have F305_293 := F268_K256.ext E293
  have F309_293 := F272_K256.ext E293
  have F310_293 := F273_K256.ext E293
  have F311_293 := VQ256_0.ext E293
  have V_b293 : Arf Z h293 b293 .int (3 : Int32) (fun i => (.int ((fun _ => (0 : Int32)) i))) := Arf.new A293 (by decide)
  obtain ⟨T313, h313, X313, e313, W313, st313⟩ := putF X293 hx hZ hown (host := "") (Or.inl (hw _ (mgE 28 rfl))) Via.refl e293 F302_293 F309_293 (Or.inl (hw _ (mgE 29 rfl))) (hw _ (mgE 3 rfl)) (ty := (.array .int)) (by decide) rfl rfl (g := (mkF m 153 #[.val (.ref a1), .val (.int p2), .val (.int p2)] [(.ref b293), (.ref a1)])) rfl rfl (hb hby d9_153)
  have F314_313 := F294_293.other W313 (Or.inr (slot_ne (Or.inl (hw _ (mgE 51 rfl))) (Or.inl (hw _ (mgE 29 rfl))) (by decide) (t := .int) (t' := (.array .int)) (by decide) (by decide)))
  have F315_313 := F295_293.other W313 (Or.inr (slot_ne (Or.inl (hw _ (mgE 13 rfl))) (Or.inl (hw _ (mgE 29 rfl))) (by decide) (t := (.array .int)) (t' := (.array .int)) (by decide) (by decide)))
  have F316_313 := F296_293.other W313 (Or.inr (slot_ne (Or.inl (hw _ (mgE 15 rfl))) (Or.inl (hw _ (mgE 29 rfl))) (by decide) (t := (.array .int)) (t' := (.array .int)) (by decide) (by decide)))
  have F317_313 := F297_293.other W313 (Or.inr (slot_ne (Or.inl (hw _ (mgE 23 rfl))) (Or.inl (hw _ (mgE 29 rfl))) (by decide) (t := (.array .int)) (t' := (.array .int)) (by decide) (by decide)))
  have F318_313 := F298_293.other W313 (Or.inr (slot_ne (Or.inl (hw _ (mgE 25 rfl))) (Or.inl (hw _ (mgE 29 rfl))) (by decide) (t := (.array .int)) (t' := (.array .int)) (by decide) (by decide)))
  have F319_313 := F299_293.other W313 (Or.inr (slot_ne (Or.inl (hw _ (mgE 19 rfl))) (Or.inl (hw _ (mgE 29 rfl))) (by decide) (t := (.array (.array .byte))) (t' := (.array .int)) (by decide) (by decide)))
  have F320_313 := F300_293.other W313 (Or.inr (slot_ne (Or.inl (hw _ (mgE 21 rfl))) (Or.inl (hw _ (mgE 29 rfl))) (by decide) (t := (.array (.array .byte))) (t' := (.array .int)) (by decide) (by decide)))
  have F321_313 := F301_293.other W313 (Or.inr (slot_ne (Or.inl (hw _ (mgE 27 rfl))) (Or.inl (hw _ (mgE 29 rfl))) (by decide) (t := (.array .int)) (t' := (.array .int)) (by decide) (by decide)))
  have F323_313 := F303_293.other W313 (Or.inr (slot_ne (Or.inl (hw _ (mgE 31 rfl))) (Or.inl (hw _ (mgE 29 rfl))) (by decide) (t := (.array .int)) (t' := (.array .int)) (by decide) (by decide)))
  have F324_313 := F304_293.other W313 (Or.inr (slot_ne (Or.inl (hw _ (mgE 40 rfl))) (Or.inl (hw _ (mgE 29 rfl))) (by decide) (t := .long) (t' := (.array .int)) (by decide) (by decide)))
  have F325_313 := F305_293.other W313 ne_w_target_a1_a1
  have F329_313 := F309_293.wr W313
  have F330_313 := F310_293.other W313 (Ne.symm ne_a1_b54)
  have F331_313 := F311_293.other W313 (Ne.symm ne_a1_b14)
  have F332_313 := V_b293.other W313 (Ne.symm ne_a1_b293)
  have Fw313 := F302_293.same W313
  have K313 : Keep h0 h313 [a1] := K293.wr W313 (Or.inl (mgE 0 rfl))
  have N313 := Fr.snoc X313 N289 g_a1
  obtain ⟨T334, X334, e334, st334⟩ := getF X313 hx hZ hown (host := "") (Or.inl (hw _ (mgE 26 rfl))) Via.refl e313 F321_313 (g := (mkF m 157 #[.val (.ref a1), .val (.int p2), .val (.int p2)] [(.ref a1)])) rfl rfl (hb hby d9_157)
  obtain ⟨T336, X336, e336, st336⟩ := getF X334 hx hZ hown (host := "") (Or.inl (hw _ (mgE 30 rfl))) Via.refl e334 F323_313 (g := (mkF m 162 #[.val (.ref a1), .val (.int p2), .val (.int p2)] [(.ref a1), (.int (0 : Int32)), (.ref b14)])) rfl rfl (hb hby d9_162)
  obtain ⟨ka338, Aa338⟩ := own_toArv F331_313
  obtain ⟨kb338, Ab338⟩ := own_toArv F330_313
  obtain ⟨T338, h338, L338, X338, e338, N338, K338, Vr338, st338⟩ := cpA X336 hx hZ hown (hw _ (mgE 91 rfl)) (hw _ (mgE 94 rfl)) (hw _ (mgE 92 rfl)) (hw _ (mgE 93 rfl)) e336 Aa338 Ab338 (Or.inl ⟨rfl, rfl⟩) (by decide) (by decide) (own_lt0 p2 (by omega)) (own_cp p2 hky) (own_cp p2 hky) rfl (own_cpl p2 hky) N313 g_b54 (g := (mkF m 167 #[.val (.ref a1), .val (.int p2), .val (.int p2)] [(.int p2), (.int (0 : Int32)), (.ref b54), (.int (0 : Int32)), (.ref b14)])) rfl (by rw [hml]; rfl) rfl (hb hby d9_167) (by decide) (W := 0) (by show 2 * 0 + _ ≤ _; exact Nat.le_of_eq rfl) (by decide)
  have F339_338 := F314_313.keep K338 (ninS ne_a1_b54 nin0)
  have F340_338 := F315_313.keep K338 (ninS ne_a1_b54 nin0)
  have F341_338 := F316_313.keep K338 (ninS ne_a1_b54 nin0)
  have F342_338 := F317_313.keep K338 (ninS ne_a1_b54 nin0)
  have F343_338 := F318_313.keep K338 (ninS ne_a1_b54 nin0)
  have F344_338 := F319_313.keep K338 (ninS ne_a1_b54 nin0)
  have F345_338 := F320_313.keep K338 (ninS ne_a1_b54 nin0)
  have F346_338 := F321_313.keep K338 (ninS ne_a1_b54 nin0)
  have F347_338 := Fw313.keep K338 (ninS ne_a1_b54 nin0)
  have F348_338 := F323_313.keep K338 (ninS ne_a1_b54 nin0)
  have F349_338 := F324_313.keep K338 (ninS ne_a1_b54 nin0)
  have F350_338 := F325_313.keep K338 (ninS ne_w_target_a1_b54 nin0)
  have F354_338 := F329_313.keep K338
  have F356_338 := F331_313.keep K338 (ninS ne_b14_b54 nin0)
  have F357_338 := F332_313.keep K338 (ninS (Ne.symm ne_b54_b293) nin0)
  have V338_b54 : Arf Z h338 b54 .int (p2 + (1 : Int32)) (fun i => (.int ((fun i => if i < p2.toNatClampNeg then (prefS tt1 tt2 tt3 p2) i else (fun _ => (0 : Int32)) i) i))) := own_ofCpy (own_cp0 p2 hky) (own_cp0 p2 hky) Vr338
  have KK338 : Keep h0 h338 [a1] := Keep.trans K313 K338 (allS (Or.inr sz_b54) all0)
  have pre359 : ∀ t, Steps p.tables e below (T338.setTop (mkF m 170 #[.val (.ref a1), .val (.int p2), .val (.int p2)] [])) t → EN t := fun t kt => by
    refine pre291 t ?_
    refine st293 t ?_
    refine st313 t ?_
    refine XS.aloadN X313.here hx rfl (hb hby d9_156) rfl rfl ?_
    refine st334 t ?_
    refine XS.iconst X334.here hx rfl (hb hby d9_160) ?_
    refine XS.aloadN X334.here hx rfl (hb hby d9_161) rfl rfl ?_
    refine st336 t ?_
    refine XS.iconst X336.here hx rfl (hb hby d9_165) ?_
    refine XS.iloadN X336.here hx rfl (hb hby d9_166) rfl ?_
    refine st338 t ?_
    show Steps p.tables e below (T338.setTop (mkF m 170 #[.val (.ref a1), .val (.int p2), .val (.int p2)] [])) _
    exact kt
  have F360 : Arf Z h338 b54 .int (p2 + (1 : Int32)) (fun i => (.int ((nxtS tt1 tt2 tt3 p2) i))) := V338_b54.cong (fun i _ => rfl)
  obtain ⟨T361, X361, e361, st361⟩ := getF X338 hx hZ hown (host := "") (Or.inl (hw _ (mgE 50 rfl))) Via.refl e338 F339_338 (g := (mkF m 174 #[.val (.ref a1), .val (.int p2), .val (.int (0 : Int32))] [(.ref a1), (.int (0 : Int32))])) rfl rfl (hb hby d9_174)
  obtain ⟨T363, X363, e363, st363⟩ := getF X361 hx hZ hown (host := "") (Or.inl (hw _ (mgE 28 rfl))) Via.refl e361 F347_338 (g := (mkF m 181 #[.val (.ref a1), .val (.int p2), .val (.int (0 : Int32))] [(.ref a1)])) rfl rfl (hb hby d9_181)
  obtain ⟨T365, X365, e365, st365⟩ := getF X363 hx hZ hown (host := "") (Or.inl (hw _ (mgE 30 rfl))) Via.refl e363 F348_338 (g := (mkF m 185 #[.val (.ref a1), .val (.int p2), .val (.int (0 : Int32))] [(.ref a1), (.ref b293)])) rfl rfl (hb hby d9_185)
  obtain ⟨T367, X367, e367, st367⟩ := getF X365 hx hZ hown (host := "") (Or.inl (hw _ (mgE 12 rfl))) Via.refl e365 F340_338 (g := (mkF m 189 #[.val (.ref a1), .val (.int p2), .val (.int (0 : Int32))] [(.ref a1), (.ref b54), (.ref b293)])) rfl rfl (hb hby d9_189)
  obtain ⟨cl369, Ar369, S369, Ng369, H369⟩ := id F350_338
  have hj369 : ¬ (0 : Int32) < 0 ∧ (0 : Int32) < (1024 : Int32) := ⟨by decide, by decide⟩
  have hin369 := inb_of S369 hj369
  have lt369 : ((0 : Int32)).toNatClampNeg < ((1024 : Int32)).toNatClampNeg := by rw [← S369]; exact Nat.lt_of_not_le fun q => hin369 (Or.inr q)
  have hv369 : ((.int ((own_upd (own_upd (own_upd (fun _ => (0 : Int32)) ((0 : Int32)).toNatClampNeg tt1) ((1 : Int32)).toNatClampNeg tt2) ((2 : Int32)).toNatClampNeg tt3) ((0 : Int32)).toNatClampNeg)) : Value) = (.int tt1) := rfl
  obtain ⟨cl370, Ar370, S370, Ng370, H370⟩ := id F360
  have hj370 : ¬ tt1 < 0 ∧ tt1 < (p2 + (1 : Int32)) := own_ixt tt1 p2 hky ht1
  have hin370 := inb_of S370 hj370
  have lt370 : (tt1).toNatClampNeg < ((p2 + (1 : Int32))).toNatClampNeg := by rw [← S370]; exact Nat.lt_of_not_le fun q => hin370 (Or.inr q)
  obtain ⟨cl371, Ar371, S371, Ng371, H371⟩ := id F360
  have hj371 : ¬ tt1 < 0 ∧ tt1 < (p2 + (1 : Int32)) := own_ixt tt1 p2 hky ht1
  have hin371 := inb_of S371 hj371
  obtain ⟨T372, h372, X372, e372, W372, st372⟩ := stI X367 hx hZ e367 Ar371 (j := tt1) hin371 (g := (mkF m 199 #[.val (.ref a1), .val (.int p2), .val (.int (0 : Int32))] [(.int (((nxtS tt1 tt2 tt3 p2) (tt1).toNatClampNeg) + (1 : Int32))), (.int tt1), (.ref b54), (.int ((nxtS tt1 tt2 tt3 p2) (tt1).toNatClampNeg)), (.ref b293)])) rfl rfl (hb hby d9_199)
  have F373_372 := F339_338.other W372 (Or.inl ne_a1_b54)
  have F374_372 := F340_338.other W372 (Or.inl ne_a1_b54)
  have F375_372 := F341_338.other W372 (Or.inl ne_a1_b54)
  have F376_372 := F342_338.other W372 (Or.inl ne_a1_b54)
  have F377_372 := F343_338.other W372 (Or.inl ne_a1_b54)
  have F378_372 := F344_338.other W372 (Or.inl ne_a1_b54)
  have F379_372 := F345_338.other W372 (Or.inl ne_a1_b54)
  have F380_372 := F346_338.other W372 (Or.inl ne_a1_b54)
  have F381_372 := F347_338.other W372 (Or.inl ne_a1_b54)
  have F382_372 := F348_338.other W372 (Or.inl ne_a1_b54)
  have F383_372 := F349_338.other W372 (Or.inl ne_a1_b54)
  have F384_372 := F350_338.other W372 ne_w_target_a1_b54
  have F388_372 := F354_338.wr W372
  have F389_372 := F356_338.other W372 ne_b14_b54
  have F390_372 := F357_338.other W372 (Ne.symm ne_b54_b293)
  have V372_b54 : Arf Z h372 b54 .int (p2 + (1 : Int32)) (fun i => (.int ((own_upd (nxtS tt1 tt2 tt3 p2) (tt1).toNatClampNeg (((nxtS tt1 tt2 tt3 p2) (tt1).toNatClampNeg) + (1 : Int32))) i))) := upd_int _ _ _ ▸ (F360.set W372)
  have K372 : Keep h0 h372 [a1] := KK338.wr W372 (Or.inr sz_b54)
  have N372 := Fr.snoc X372 N338 g_b54
  obtain ⟨cl393, Ar393, S393, Ng393, H393⟩ := id F390_372
  have hj393 : ¬ ((nxtS tt1 tt2 tt3 p2) (tt1).toNatClampNeg) < 0 ∧ ((nxtS tt1 tt2 tt3 p2) (tt1).toNatClampNeg) < (3 : Int32) := own_ixg0 tt1 tt2 tt3 p2 (nxtS tt1 tt2 tt3 p2) hky ht1 ht2 ht3 rfl
  have hin393 := inb_of S393 hj393
  obtain ⟨T394, h394, X394, e394, W394, st394⟩ := stI X372 hx hZ e372 Ar393 (j := ((nxtS tt1 tt2 tt3 p2) (tt1).toNatClampNeg)) hin393 (g := (mkF m 201 #[.val (.ref a1), .val (.int p2), .val (.int (0 : Int32))] [(.int (0 : Int32)), (.int ((nxtS tt1 tt2 tt3 p2) (tt1).toNatClampNeg)), (.ref b293)])) rfl rfl (hb hby d9_201)
  have F395_394 := F373_372.other W394 (Or.inl ne_a1_b293)
  have F396_394 := F374_372.other W394 (Or.inl ne_a1_b293)
  have F397_394 := F375_372.other W394 (Or.inl ne_a1_b293)
  have F398_394 := F376_372.other W394 (Or.inl ne_a1_b293)
  have F399_394 := F377_372.other W394 (Or.inl ne_a1_b293)
  have F400_394 := F378_372.other W394 (Or.inl ne_a1_b293)
  have F401_394 := F379_372.other W394 (Or.inl ne_a1_b293)
  have F402_394 := F380_372.other W394 (Or.inl ne_a1_b293)
  have F403_394 := F381_372.other W394 (Or.inl ne_a1_b293)
  have F404_394 := F382_372.other W394 (Or.inl ne_a1_b293)
  have F405_394 := F383_372.other W394 (Or.inl ne_a1_b293)
  have F406_394 := F384_372.other W394 ne_w_target_a1_b293
  have F410_394 := F388_372.wr W394
  have F411_394 := F389_372.other W394 ne_b14_b293
  have F413_394 := V372_b54.other W394 ne_b54_b293
  have V394_b293 : Arf Z h394 b293 .int (3 : Int32) (fun i => (.int ((own_upd (fun _ => (0 : Int32)) (((nxtS tt1 tt2 tt3 p2) (tt1).toNatClampNeg)).toNatClampNeg (0 : Int32)) i))) := upd_int _ _ _ ▸ (F390_372.set W394)
  have K394 : Keep h0 h394 [a1] := K372.wr W394 (Or.inr sz_b293)
  have N394 := Fr.snoc X394 N372 g_b293
  obtain ⟨T415, X415, e415, st415⟩ := getF X394 hx hZ hown (host := "") (Or.inl (hw _ (mgE 50 rfl))) Via.refl e394 F395_394 (g := (mkF m 174 #[.val (.ref a1), .val (.int p2), .val (.int (1 : Int32))] [(.ref a1), (.int (1 : Int32))])) rfl rfl (hb hby d9_174)
  obtain ⟨T417, X417, e417, st417⟩ := getF X415 hx hZ hown (host := "") (Or.inl (hw _ (mgE 28 rfl))) Via.refl e415 F403_394 (g := (mkF m 181 #[.val (.ref a1), .val (.int p2), .val (.int (1 : Int32))] [(.ref a1)])) rfl rfl (hb hby d9_181)
  obtain ⟨T419, X419, e419, st419⟩ := getF X417 hx hZ hown (host := "") (Or.inl (hw _ (mgE 30 rfl))) Via.refl e417 F404_394 (g := (mkF m 185 #[.val (.ref a1), .val (.int p2), .val (.int (1 : Int32))] [(.ref a1), (.ref b293)])) rfl rfl (hb hby d9_185)
  obtain ⟨T421, X421, e421, st421⟩ := getF X419 hx hZ hown (host := "") (Or.inl (hw _ (mgE 12 rfl))) Via.refl e419 F396_394 (g := (mkF m 189 #[.val (.ref a1), .val (.int p2), .val (.int (1 : Int32))] [(.ref a1), (.ref b54), (.ref b293)])) rfl rfl (hb hby d9_189)
  obtain ⟨cl423, Ar423, S423, Ng423, H423⟩ := id F406_394
  have hj423 : ¬ (1 : Int32) < 0 ∧ (1 : Int32) < (1024 : Int32) := ⟨by decide, by decide⟩
  have hin423 := inb_of S423 hj423
  have lt423 : ((1 : Int32)).toNatClampNeg < ((1024 : Int32)).toNatClampNeg := by rw [← S423]; exact Nat.lt_of_not_le fun q => hin423 (Or.inr q)
  have hv423 : ((.int ((own_upd (own_upd (own_upd (fun _ => (0 : Int32)) ((0 : Int32)).toNatClampNeg tt1) ((1 : Int32)).toNatClampNeg tt2) ((2 : Int32)).toNatClampNeg tt3) ((1 : Int32)).toNatClampNeg)) : Value) = (.int tt2) := rfl
  obtain ⟨cl424, Ar424, S424, Ng424, H424⟩ := id F413_394
  have hj424 : ¬ tt2 < 0 ∧ tt2 < (p2 + (1 : Int32)) := own_ixt tt2 p2 hky ht2
  have hin424 := inb_of S424 hj424
  have lt424 : (tt2).toNatClampNeg < ((p2 + (1 : Int32))).toNatClampNeg := by rw [← S424]; exact Nat.lt_of_not_le fun q => hin424 (Or.inr q)
  obtain ⟨cl425, Ar425, S425, Ng425, H425⟩ := id F413_394
  have hj425 : ¬ tt2 < 0 ∧ tt2 < (p2 + (1 : Int32)) := own_ixt tt2 p2 hky ht2
  have hin425 := inb_of S425 hj425
  obtain ⟨T426, h426, X426, e426, W426, st426⟩ := stI X421 hx hZ e421 Ar425 (j := tt2) hin425 (g := (mkF m 199 #[.val (.ref a1), .val (.int p2), .val (.int (1 : Int32))] [(.int (((own_upd (nxtS tt1 tt2 tt3 p2) (tt1).toNatClampNeg (((nxtS tt1 tt2 tt3 p2) (tt1).toNatClampNeg) + (1 : Int32))) (tt2).toNatClampNeg) + (1 : Int32))), (.int tt2), (.ref b54), (.int ((own_upd (nxtS tt1 tt2 tt3 p2) (tt1).toNatClampNeg (((nxtS tt1 tt2 tt3 p2) (tt1).toNatClampNeg) + (1 : Int32))) (tt2).toNatClampNeg)), (.ref b293)])) rfl rfl (hb hby d9_199)
  have F427_426 := F395_394.other W426 (Or.inl ne_a1_b54)
  have F428_426 := F396_394.other W426 (Or.inl ne_a1_b54)
  have F429_426 := F397_394.other W426 (Or.inl ne_a1_b54)
  have F430_426 := F398_394.other W426 (Or.inl ne_a1_b54)
  have F431_426 := F399_394.other W426 (Or.inl ne_a1_b54)
  have F432_426 := F400_394.other W426 (Or.inl ne_a1_b54)
  have F433_426 := F401_394.other W426 (Or.inl ne_a1_b54)
  have F434_426 := F402_394.other W426 (Or.inl ne_a1_b54)
  have F435_426 := F403_394.other W426 (Or.inl ne_a1_b54)
  have F436_426 := F404_394.other W426 (Or.inl ne_a1_b54)
  have F437_426 := F405_394.other W426 (Or.inl ne_a1_b54)
  have F438_426 := F406_394.other W426 ne_w_target_a1_b54
  have F442_426 := F410_394.wr W426
  have F443_426 := F411_394.other W426 ne_b14_b54
  have F444_426 := V394_b293.other W426 (Ne.symm ne_b54_b293)
  have V426_b54 : Arf Z h426 b54 .int (p2 + (1 : Int32)) (fun i => (.int ((own_upd (own_upd (nxtS tt1 tt2 tt3 p2) (tt1).toNatClampNeg (((nxtS tt1 tt2 tt3 p2) (tt1).toNatClampNeg) + (1 : Int32))) (tt2).toNatClampNeg (((own_upd (nxtS tt1 tt2 tt3 p2) (tt1).toNatClampNeg (((nxtS tt1 tt2 tt3 p2) (tt1).toNatClampNeg) + (1 : Int32))) (tt2).toNatClampNeg) + (1 : Int32))) i))) := upd_int _ _ _ ▸ (F413_394.set W426)
  have K426 : Keep h0 h426 [a1] := K394.wr W426 (Or.inr sz_b54)
  have N426 := Fr.snoc X426 N394 g_b54
  obtain ⟨cl447, Ar447, S447, Ng447, H447⟩ := id F444_426
  have hj447 : ¬ ((own_upd (nxtS tt1 tt2 tt3 p2) (tt1).toNatClampNeg (((nxtS tt1 tt2 tt3 p2) (tt1).toNatClampNeg) + (1 : Int32))) (tt2).toNatClampNeg) < 0 ∧ ((own_upd (nxtS tt1 tt2 tt3 p2) (tt1).toNatClampNeg (((nxtS tt1 tt2 tt3 p2) (tt1).toNatClampNeg) + (1 : Int32))) (tt2).toNatClampNeg) < (3 : Int32) := own_ixg1 tt1 tt2 tt3 p2 (nxtS tt1 tt2 tt3 p2) hky ht1 ht2 ht3 rfl
  have hin447 := inb_of S447 hj447
  obtain ⟨T448, h448, X448, e448, W448, st448⟩ := stI X426 hx hZ e426 Ar447 (j := ((own_upd (nxtS tt1 tt2 tt3 p2) (tt1).toNatClampNeg (((nxtS tt1 tt2 tt3 p2) (tt1).toNatClampNeg) + (1 : Int32))) (tt2).toNatClampNeg)) hin447 (g := (mkF m 201 #[.val (.ref a1), .val (.int p2), .val (.int (1 : Int32))] [(.int (1 : Int32)), (.int ((own_upd (nxtS tt1 tt2 tt3 p2) (tt1).toNatClampNeg (((nxtS tt1 tt2 tt3 p2) (tt1).toNatClampNeg) + (1 : Int32))) (tt2).toNatClampNeg)), (.ref b293)])) rfl rfl (hb hby d9_201)
  have F449_448 := F427_426.other W448 (Or.inl ne_a1_b293)
  have F450_448 := F428_426.other W448 (Or.inl ne_a1_b293)
  have F451_448 := F429_426.other W448 (Or.inl ne_a1_b293)
  have F452_448 := F430_426.other W448 (Or.inl ne_a1_b293)
  have F453_448 := F431_426.other W448 (Or.inl ne_a1_b293)
  have F454_448 := F432_426.other W448 (Or.inl ne_a1_b293)
  have F455_448 := F433_426.other W448 (Or.inl ne_a1_b293)
  have F456_448 := F434_426.other W448 (Or.inl ne_a1_b293)
  have F457_448 := F435_426.other W448 (Or.inl ne_a1_b293)
  have F458_448 := F436_426.other W448 (Or.inl ne_a1_b293)
  have F459_448 := F437_426.other W448 (Or.inl ne_a1_b293)
  have F460_448 := F438_426.other W448 ne_w_target_a1_b293
  have F464_448 := F442_426.wr W448
  have F465_448 := F443_426.other W448 ne_b14_b293
  have F467_448 := V426_b54.other W448 ne_b54_b293
  have V448_b293 : Arf Z h448 b293 .int (3 : Int32) (fun i => (.int ((own_upd (own_upd (fun _ => (0 : Int32)) (((nxtS tt1 tt2 tt3 p2) (tt1).toNatClampNeg)).toNatClampNeg (0 : Int32)) (((own_upd (nxtS tt1 tt2 tt3 p2) (tt1).toNatClampNeg (((nxtS tt1 tt2 tt3 p2) (tt1).toNatClampNeg) + (1 : Int32))) (tt2).toNatClampNeg)).toNatClampNeg (1 : Int32)) i))) := upd_int _ _ _ ▸ (F444_426.set W448)
  have K448 : Keep h0 h448 [a1] := K426.wr W448 (Or.inr sz_b293)
  have N448 := Fr.snoc X448 N426 g_b293
  obtain ⟨T469, X469, e469, st469⟩ := getF X448 hx hZ hown (host := "") (Or.inl (hw _ (mgE 50 rfl))) Via.refl e448 F449_448 (g := (mkF m 174 #[.val (.ref a1), .val (.int p2), .val (.int (2 : Int32))] [(.ref a1), (.int (2 : Int32))])) rfl rfl (hb hby d9_174)
  obtain ⟨T471, X471, e471, st471⟩ := getF X469 hx hZ hown (host := "") (Or.inl (hw _ (mgE 28 rfl))) Via.refl e469 F457_448 (g := (mkF m 181 #[.val (.ref a1), .val (.int p2), .val (.int (2 : Int32))] [(.ref a1)])) rfl rfl (hb hby d9_181)
  obtain ⟨T473, X473, e473, st473⟩ := getF X471 hx hZ hown (host := "") (Or.inl (hw _ (mgE 30 rfl))) Via.refl e471 F458_448 (g := (mkF m 185 #[.val (.ref a1), .val (.int p2), .val (.int (2 : Int32))] [(.ref a1), (.ref b293)])) rfl rfl (hb hby d9_185)
  obtain ⟨T475, X475, e475, st475⟩ := getF X473 hx hZ hown (host := "") (Or.inl (hw _ (mgE 12 rfl))) Via.refl e473 F450_448 (g := (mkF m 189 #[.val (.ref a1), .val (.int p2), .val (.int (2 : Int32))] [(.ref a1), (.ref b54), (.ref b293)])) rfl rfl (hb hby d9_189)
  obtain ⟨cl477, Ar477, S477, Ng477, H477⟩ := id F460_448
  have hj477 : ¬ (2 : Int32) < 0 ∧ (2 : Int32) < (1024 : Int32) := ⟨by decide, by decide⟩
  have hin477 := inb_of S477 hj477
  have lt477 : ((2 : Int32)).toNatClampNeg < ((1024 : Int32)).toNatClampNeg := by rw [← S477]; exact Nat.lt_of_not_le fun q => hin477 (Or.inr q)
  have hv477 : ((.int ((own_upd (own_upd (own_upd (fun _ => (0 : Int32)) ((0 : Int32)).toNatClampNeg tt1) ((1 : Int32)).toNatClampNeg tt2) ((2 : Int32)).toNatClampNeg tt3) ((2 : Int32)).toNatClampNeg)) : Value) = (.int tt3) := rfl
  obtain ⟨cl478, Ar478, S478, Ng478, H478⟩ := id F467_448
  have hj478 : ¬ tt3 < 0 ∧ tt3 < (p2 + (1 : Int32)) := own_ixt tt3 p2 hky ht3
  have hin478 := inb_of S478 hj478
  have lt478 : (tt3).toNatClampNeg < ((p2 + (1 : Int32))).toNatClampNeg := by rw [← S478]; exact Nat.lt_of_not_le fun q => hin478 (Or.inr q)
  obtain ⟨cl479, Ar479, S479, Ng479, H479⟩ := id F467_448
  have hj479 : ¬ tt3 < 0 ∧ tt3 < (p2 + (1 : Int32)) := own_ixt tt3 p2 hky ht3
  have hin479 := inb_of S479 hj479
  obtain ⟨T480, h480, X480, e480, W480, st480⟩ := stI X475 hx hZ e475 Ar479 (j := tt3) hin479 (g := (mkF m 199 #[.val (.ref a1), .val (.int p2), .val (.int (2 : Int32))] [(.int (((own_upd (own_upd (nxtS tt1 tt2 tt3 p2) (tt1).toNatClampNeg (((nxtS tt1 tt2 tt3 p2) (tt1).toNatClampNeg) + (1 : Int32))) (tt2).toNatClampNeg (((own_upd (nxtS tt1 tt2 tt3 p2) (tt1).toNatClampNeg (((nxtS tt1 tt2 tt3 p2) (tt1).toNatClampNeg) + (1 : Int32))) (tt2).toNatClampNeg) + (1 : Int32))) (tt3).toNatClampNeg) + (1 : Int32))), (.int tt3), (.ref b54), (.int ((own_upd (own_upd (nxtS tt1 tt2 tt3 p2) (tt1).toNatClampNeg (((nxtS tt1 tt2 tt3 p2) (tt1).toNatClampNeg) + (1 : Int32))) (tt2).toNatClampNeg (((own_upd (nxtS tt1 tt2 tt3 p2) (tt1).toNatClampNeg (((nxtS tt1 tt2 tt3 p2) (tt1).toNatClampNeg) + (1 : Int32))) (tt2).toNatClampNeg) + (1 : Int32))) (tt3).toNatClampNeg)), (.ref b293)])) rfl rfl (hb hby d9_199)
  have F481_480 := F449_448.other W480 (Or.inl ne_a1_b54)
  have F482_480 := F450_448.other W480 (Or.inl ne_a1_b54)
  have F483_480 := F451_448.other W480 (Or.inl ne_a1_b54)
  have F484_480 := F452_448.other W480 (Or.inl ne_a1_b54)
  have F485_480 := F453_448.other W480 (Or.inl ne_a1_b54)
  have F486_480 := F454_448.other W480 (Or.inl ne_a1_b54)
  have F487_480 := F455_448.other W480 (Or.inl ne_a1_b54)
  have F488_480 := F456_448.other W480 (Or.inl ne_a1_b54)
  have F489_480 := F457_448.other W480 (Or.inl ne_a1_b54)
  have F490_480 := F458_448.other W480 (Or.inl ne_a1_b54)
  have F491_480 := F459_448.other W480 (Or.inl ne_a1_b54)
  have F496_480 := F464_448.wr W480
  have F497_480 := F465_448.other W480 ne_b14_b54
  have F498_480 := V448_b293.other W480 (Ne.symm ne_b54_b293)
  have V480_b54 : Arf Z h480 b54 .int (p2 + (1 : Int32)) (fun i => (.int ((own_upd (own_upd (own_upd (nxtS tt1 tt2 tt3 p2) (tt1).toNatClampNeg (((nxtS tt1 tt2 tt3 p2) (tt1).toNatClampNeg) + (1 : Int32))) (tt2).toNatClampNeg (((own_upd (nxtS tt1 tt2 tt3 p2) (tt1).toNatClampNeg (((nxtS tt1 tt2 tt3 p2) (tt1).toNatClampNeg) + (1 : Int32))) (tt2).toNatClampNeg) + (1 : Int32))) (tt3).toNatClampNeg (((own_upd (own_upd (nxtS tt1 tt2 tt3 p2) (tt1).toNatClampNeg (((nxtS tt1 tt2 tt3 p2) (tt1).toNatClampNeg) + (1 : Int32))) (tt2).toNatClampNeg (((own_upd (nxtS tt1 tt2 tt3 p2) (tt1).toNatClampNeg (((nxtS tt1 tt2 tt3 p2) (tt1).toNatClampNeg) + (1 : Int32))) (tt2).toNatClampNeg) + (1 : Int32))) (tt3).toNatClampNeg) + (1 : Int32))) i))) := upd_int _ _ _ ▸ (F467_448.set W480)
  have K480 : Keep h0 h480 [a1] := K448.wr W480 (Or.inr sz_b54)
  have N480 := Fr.snoc X480 N448 g_b54
  obtain ⟨cl501, Ar501, S501, Ng501, H501⟩ := id F498_480
  have hj501 : ¬ ((own_upd (own_upd (nxtS tt1 tt2 tt3 p2) (tt1).toNatClampNeg (((nxtS tt1 tt2 tt3 p2) (tt1).toNatClampNeg) + (1 : Int32))) (tt2).toNatClampNeg (((own_upd (nxtS tt1 tt2 tt3 p2) (tt1).toNatClampNeg (((nxtS tt1 tt2 tt3 p2) (tt1).toNatClampNeg) + (1 : Int32))) (tt2).toNatClampNeg) + (1 : Int32))) (tt3).toNatClampNeg) < 0 ∧ ((own_upd (own_upd (nxtS tt1 tt2 tt3 p2) (tt1).toNatClampNeg (((nxtS tt1 tt2 tt3 p2) (tt1).toNatClampNeg) + (1 : Int32))) (tt2).toNatClampNeg (((own_upd (nxtS tt1 tt2 tt3 p2) (tt1).toNatClampNeg (((nxtS tt1 tt2 tt3 p2) (tt1).toNatClampNeg) + (1 : Int32))) (tt2).toNatClampNeg) + (1 : Int32))) (tt3).toNatClampNeg) < (3 : Int32) := own_ixg2 tt1 tt2 tt3 p2 (nxtS tt1 tt2 tt3 p2) hky ht1 ht2 ht3 rfl
  have hin501 := inb_of S501 hj501
  obtain ⟨T502, h502, X502, e502, W502, st502⟩ := stI X480 hx hZ e480 Ar501 (j := ((own_upd (own_upd (nxtS tt1 tt2 tt3 p2) (tt1).toNatClampNeg (((nxtS tt1 tt2 tt3 p2) (tt1).toNatClampNeg) + (1 : Int32))) (tt2).toNatClampNeg (((own_upd (nxtS tt1 tt2 tt3 p2) (tt1).toNatClampNeg (((nxtS tt1 tt2 tt3 p2) (tt1).toNatClampNeg) + (1 : Int32))) (tt2).toNatClampNeg) + (1 : Int32))) (tt3).toNatClampNeg)) hin501 (g := (mkF m 201 #[.val (.ref a1), .val (.int p2), .val (.int (2 : Int32))] [(.int (2 : Int32)), (.int ((own_upd (own_upd (nxtS tt1 tt2 tt3 p2) (tt1).toNatClampNeg (((nxtS tt1 tt2 tt3 p2) (tt1).toNatClampNeg) + (1 : Int32))) (tt2).toNatClampNeg (((own_upd (nxtS tt1 tt2 tt3 p2) (tt1).toNatClampNeg (((nxtS tt1 tt2 tt3 p2) (tt1).toNatClampNeg) + (1 : Int32))) (tt2).toNatClampNeg) + (1 : Int32))) (tt3).toNatClampNeg)), (.ref b293)])) rfl rfl (hb hby d9_201)
  have F503_502 := F481_480.other W502 (Or.inl ne_a1_b293)
  have F504_502 := F482_480.other W502 (Or.inl ne_a1_b293)
  have F505_502 := F483_480.other W502 (Or.inl ne_a1_b293)
  have F506_502 := F484_480.other W502 (Or.inl ne_a1_b293)
  have F507_502 := F485_480.other W502 (Or.inl ne_a1_b293)
  have F508_502 := F486_480.other W502 (Or.inl ne_a1_b293)
  have F509_502 := F487_480.other W502 (Or.inl ne_a1_b293)
  have F510_502 := F488_480.other W502 (Or.inl ne_a1_b293)
  have F511_502 := F489_480.other W502 (Or.inl ne_a1_b293)
  have F512_502 := F490_480.other W502 (Or.inl ne_a1_b293)
  have F513_502 := F491_480.other W502 (Or.inl ne_a1_b293)
  have F518_502 := F496_480.wr W502
  have F519_502 := F497_480.other W502 ne_b14_b293
  have F521_502 := V480_b54.other W502 ne_b54_b293
  have V502_b293 : Arf Z h502 b293 .int (3 : Int32) (fun i => (.int ((own_upd (own_upd (own_upd (fun _ => (0 : Int32)) (((nxtS tt1 tt2 tt3 p2) (tt1).toNatClampNeg)).toNatClampNeg (0 : Int32)) (((own_upd (nxtS tt1 tt2 tt3 p2) (tt1).toNatClampNeg (((nxtS tt1 tt2 tt3 p2) (tt1).toNatClampNeg) + (1 : Int32))) (tt2).toNatClampNeg)).toNatClampNeg (1 : Int32)) (((own_upd (own_upd (nxtS tt1 tt2 tt3 p2) (tt1).toNatClampNeg (((nxtS tt1 tt2 tt3 p2) (tt1).toNatClampNeg) + (1 : Int32))) (tt2).toNatClampNeg (((own_upd (nxtS tt1 tt2 tt3 p2) (tt1).toNatClampNeg (((nxtS tt1 tt2 tt3 p2) (tt1).toNatClampNeg) + (1 : Int32))) (tt2).toNatClampNeg) + (1 : Int32))) (tt3).toNatClampNeg)).toNatClampNeg (2 : Int32)) i))) := upd_int _ _ _ ▸ (F498_480.set W502)
  have K502 : Keep h0 h502 [a1] := K480.wr W502 (Or.inr sz_b293)
  have N502 := Fr.snoc X502 N480 g_b293
  obtain ⟨T523, X523, e523, st523⟩ := getF X502 hx hZ hown (host := "") (Or.inl (hw _ (mgE 50 rfl))) Via.refl e502 F503_502 (g := (mkF m 174 #[.val (.ref a1), .val (.int p2), .val (.int (3 : Int32))] [(.ref a1), (.int (3 : Int32))])) rfl rfl (hb hby d9_174)
  have pre525 : ∀ t, Steps p.tables e below (T523.setTop (mkF m 208 #[.val (.ref a1), .val (.int p2), .val (.int (3 : Int32))] [])) t → EN t := fun t kt => by
    refine pre359 t ?_
    refine XS.iconst X338.here hx rfl (hb hby d9_170) ?_
    refine XS.istoreN X338.here hx rfl (hb hby d9_171) rfl (l' := #[.val (.ref a1), .val (.int p2), .val (.int (0 : Int32))]) rfl ?_
    refine XS.iloadN X338.here hx rfl (hb hby d9_172) rfl ?_
    refine XS.aloadN X338.here hx rfl (hb hby d9_173) rfl rfl ?_
    refine st361 t ?_
    refine XS.icmpNo X361.here hx rfl (hb hby d9_177) rfl (tlt (by decide : (0 : Int32) < (3 : Int32))).2.1 ?_
    refine XS.aloadN X361.here hx rfl (hb hby d9_180) rfl rfl ?_
    refine st363 t ?_
    refine XS.aloadN X363.here hx rfl (hb hby d9_184) rfl rfl ?_
    refine st365 t ?_
    show Steps p.tables e below (T365.setTop (mkF m 188 #[.val (.ref a1), .val (.int p2), .val (.int (0 : Int32))] [(.ref b54), (.ref b293)])) _
    refine XS.aloadN X365.here hx rfl (hb hby d9_188) rfl rfl ?_
    refine st367 t ?_
    refine XS.iloadN X367.here hx rfl (hb hby d9_192) rfl ?_
    refine X367.iaload hx (j := (0 : Int32)) (v := (.int tt1)) (by rw [e367]; exact Ar369.1) (State.isArrayOf_alike hZ.alike Ar369.2.1) Ar369.2.2 hin369 ((H369 _ lt369).trans (congrArg some hv369)) (g := (mkF m 193 #[.val (.ref a1), .val (.int p2), .val (.int (0 : Int32))] [(.int (0 : Int32)), (.ref w_target_a1), (.ref b54), (.ref b293)])) rfl rfl (hb hby d9_193) _ ?_
    jvm_step X367.here [X367.here.top, hx, (hb hby d9_194), Value.category]
    refine X367.iaload hx (j := tt1) (v := (.int ((nxtS tt1 tt2 tt3 p2) (tt1).toNatClampNeg))) (by rw [e367]; exact Ar370.1) (State.isArrayOf_alike hZ.alike Ar370.2.1) Ar370.2.2 hin370 (H370 _ lt370) (g := (mkF m 195 #[.val (.ref a1), .val (.int p2), .val (.int (0 : Int32))] [(.int tt1), (.ref b54), (.int tt1), (.ref b54), (.ref b293)])) rfl rfl (hb hby d9_195) _ ?_
    jvm_step X367.here [X367.here.top, hx, (hb hby d9_196), Value.category]
    refine XS.iconst X367.here hx rfl (hb hby d9_197) ?_
    refine XS.iadd X367.here hx rfl (hb hby d9_198) rfl ?_
    refine st372 t ?_
    show Steps p.tables e below (T372.setTop (mkF m 200 #[.val (.ref a1), .val (.int p2), .val (.int (0 : Int32))] [(.int ((nxtS tt1 tt2 tt3 p2) (tt1).toNatClampNeg)), (.ref b293)])) _
    refine XS.iloadN X372.here hx rfl (hb hby d9_200) rfl ?_
    refine st394 t ?_
    refine XS.iinc X394.here hx rfl (hb hby d9_202) rfl (l' := #[.val (.ref a1), .val (.int p2), .val (.int (1 : Int32))]) rfl ?_
    refine XS.goto X394.here hx rfl (pc0 := 205) (pc' := 172) rfl (hb hby d9_205) (by decide) (by decide) ?_
    refine XS.iloadN X394.here hx rfl (hb hby d9_172) rfl ?_
    refine XS.aloadN X394.here hx rfl (hb hby d9_173) rfl rfl ?_
    refine st415 t ?_
    refine XS.icmpNo X415.here hx rfl (hb hby d9_177) rfl (tlt (by decide : (1 : Int32) < (3 : Int32))).2.1 ?_
    refine XS.aloadN X415.here hx rfl (hb hby d9_180) rfl rfl ?_
    refine st417 t ?_
    show Steps p.tables e below (T417.setTop (mkF m 184 #[.val (.ref a1), .val (.int p2), .val (.int (1 : Int32))] [(.ref b293)])) _
    refine XS.aloadN X417.here hx rfl (hb hby d9_184) rfl rfl ?_
    refine st419 t ?_
    refine XS.aloadN X419.here hx rfl (hb hby d9_188) rfl rfl ?_
    refine st421 t ?_
    refine XS.iloadN X421.here hx rfl (hb hby d9_192) rfl ?_
    refine X421.iaload hx (j := (1 : Int32)) (v := (.int tt2)) (by rw [e421]; exact Ar423.1) (State.isArrayOf_alike hZ.alike Ar423.2.1) Ar423.2.2 hin423 ((H423 _ lt423).trans (congrArg some hv423)) (g := (mkF m 193 #[.val (.ref a1), .val (.int p2), .val (.int (1 : Int32))] [(.int (1 : Int32)), (.ref w_target_a1), (.ref b54), (.ref b293)])) rfl rfl (hb hby d9_193) _ ?_
    jvm_step X421.here [X421.here.top, hx, (hb hby d9_194), Value.category]
    refine X421.iaload hx (j := tt2) (v := (.int ((own_upd (nxtS tt1 tt2 tt3 p2) (tt1).toNatClampNeg (((nxtS tt1 tt2 tt3 p2) (tt1).toNatClampNeg) + (1 : Int32))) (tt2).toNatClampNeg))) (by rw [e421]; exact Ar424.1) (State.isArrayOf_alike hZ.alike Ar424.2.1) Ar424.2.2 hin424 (H424 _ lt424) (g := (mkF m 195 #[.val (.ref a1), .val (.int p2), .val (.int (1 : Int32))] [(.int tt2), (.ref b54), (.int tt2), (.ref b54), (.ref b293)])) rfl rfl (hb hby d9_195) _ ?_
    jvm_step X421.here [X421.here.top, hx, (hb hby d9_196), Value.category]
    refine XS.iconst X421.here hx rfl (hb hby d9_197) ?_
    show Steps p.tables e below (T421.setTop (mkF m 198 #[.val (.ref a1), .val (.int p2), .val (.int (1 : Int32))] [(.int (1 : Int32)), (.int ((own_upd (nxtS tt1 tt2 tt3 p2) (tt1).toNatClampNeg (((nxtS tt1 tt2 tt3 p2) (tt1).toNatClampNeg) + (1 : Int32))) (tt2).toNatClampNeg)), (.int tt2), (.ref b54), (.int ((own_upd (nxtS tt1 tt2 tt3 p2) (tt1).toNatClampNeg (((nxtS tt1 tt2 tt3 p2) (tt1).toNatClampNeg) + (1 : Int32))) (tt2).toNatClampNeg)), (.ref b293)])) _
    refine XS.iadd X421.here hx rfl (hb hby d9_198) rfl ?_
    refine st426 t ?_
    refine XS.iloadN X426.here hx rfl (hb hby d9_200) rfl ?_
    refine st448 t ?_
    refine XS.iinc X448.here hx rfl (hb hby d9_202) rfl (l' := #[.val (.ref a1), .val (.int p2), .val (.int (2 : Int32))]) rfl ?_
    refine XS.goto X448.here hx rfl (pc0 := 205) (pc' := 172) rfl (hb hby d9_205) (by decide) (by decide) ?_
    refine XS.iloadN X448.here hx rfl (hb hby d9_172) rfl ?_
    refine XS.aloadN X448.here hx rfl (hb hby d9_173) rfl rfl ?_
    refine st469 t ?_
    refine XS.icmpNo X469.here hx rfl (hb hby d9_177) rfl (tlt (by decide : (2 : Int32) < (3 : Int32))).2.1 ?_
    show Steps p.tables e below (T469.setTop (mkF m 180 #[.val (.ref a1), .val (.int p2), .val (.int (2 : Int32))] [])) _
    refine XS.aloadN X469.here hx rfl (hb hby d9_180) rfl rfl ?_
    refine st471 t ?_
    refine XS.aloadN X471.here hx rfl (hb hby d9_184) rfl rfl ?_
    refine st473 t ?_
    refine XS.aloadN X473.here hx rfl (hb hby d9_188) rfl rfl ?_
    refine st475 t ?_
    refine XS.iloadN X475.here hx rfl (hb hby d9_192) rfl ?_
    refine X475.iaload hx (j := (2 : Int32)) (v := (.int tt3)) (by rw [e475]; exact Ar477.1) (State.isArrayOf_alike hZ.alike Ar477.2.1) Ar477.2.2 hin477 ((H477 _ lt477).trans (congrArg some hv477)) (g := (mkF m 193 #[.val (.ref a1), .val (.int p2), .val (.int (2 : Int32))] [(.int (2 : Int32)), (.ref w_target_a1), (.ref b54), (.ref b293)])) rfl rfl (hb hby d9_193) _ ?_
    jvm_step X475.here [X475.here.top, hx, (hb hby d9_194), Value.category]
    refine X475.iaload hx (j := tt3) (v := (.int ((own_upd (own_upd (nxtS tt1 tt2 tt3 p2) (tt1).toNatClampNeg (((nxtS tt1 tt2 tt3 p2) (tt1).toNatClampNeg) + (1 : Int32))) (tt2).toNatClampNeg (((own_upd (nxtS tt1 tt2 tt3 p2) (tt1).toNatClampNeg (((nxtS tt1 tt2 tt3 p2) (tt1).toNatClampNeg) + (1 : Int32))) (tt2).toNatClampNeg) + (1 : Int32))) (tt3).toNatClampNeg))) (by rw [e475]; exact Ar478.1) (State.isArrayOf_alike hZ.alike Ar478.2.1) Ar478.2.2 hin478 (H478 _ lt478) (g := (mkF m 195 #[.val (.ref a1), .val (.int p2), .val (.int (2 : Int32))] [(.int tt3), (.ref b54), (.int tt3), (.ref b54), (.ref b293)])) rfl rfl (hb hby d9_195) _ ?_
    show Steps p.tables e below (T475.setTop (mkF m 196 #[.val (.ref a1), .val (.int p2), .val (.int (2 : Int32))] [(.int ((own_upd (own_upd (nxtS tt1 tt2 tt3 p2) (tt1).toNatClampNeg (((nxtS tt1 tt2 tt3 p2) (tt1).toNatClampNeg) + (1 : Int32))) (tt2).toNatClampNeg (((own_upd (nxtS tt1 tt2 tt3 p2) (tt1).toNatClampNeg (((nxtS tt1 tt2 tt3 p2) (tt1).toNatClampNeg) + (1 : Int32))) (tt2).toNatClampNeg) + (1 : Int32))) (tt3).toNatClampNeg)), (.int tt3), (.ref b54), (.ref b293)])) _
    jvm_step X475.here [X475.here.top, hx, (hb hby d9_196), Value.category]
    refine XS.iconst X475.here hx rfl (hb hby d9_197) ?_
    refine XS.iadd X475.here hx rfl (hb hby d9_198) rfl ?_
    refine st480 t ?_
    refine XS.iloadN X480.here hx rfl (hb hby d9_200) rfl ?_
    refine st502 t ?_
    refine XS.iinc X502.here hx rfl (hb hby d9_202) rfl (l' := #[.val (.ref a1), .val (.int p2), .val (.int (3 : Int32))]) rfl ?_
    refine XS.goto X502.here hx rfl (pc0 := 205) (pc' := 172) rfl (hb hby d9_205) (by decide) (by decide) ?_
    refine XS.iloadN X502.here hx rfl (hb hby d9_172) rfl ?_
    refine XS.aloadN X502.here hx rfl (hb hby d9_173) rfl rfl ?_
    show Steps p.tables e below (T502.setTop (mkF m 174 #[.val (.ref a1), .val (.int p2), .val (.int (3 : Int32))] [(.ref a1), (.int (3 : Int32))])) _
    refine st523 t ?_
    refine XS.icmpYes X523.here hx rfl (pc0 := 177) (pc' := 208) rfl (hb hby d9_177) rfl (flt (by decide : ¬ ((3 : Int32) < (3 : Int32)))).2.1 (by decide) (by decide) ?_
    exact kt
  obtain ⟨fs, hr, hrun, hended, hW, hsame⟩ := X523.leave (v := none) (fun _ => rfl)
  refine ⟨_, _, hEN _ (pre525 _ ?_), hrun, hended, _, _, rfl, ?_, ⟨_, rfl⟩, hW, hsame.mono (by decide) (by decide)⟩
  · exact X523.returnOut hx Bd.returns (hb hby d9_208) hr
  · show Q9 Z a1 p2 w_target_a1 w_slot_a1 w_sender_a1 w_position_a1 w_value_a1 w_taken_a1 w_starts_a1 w_grouped_a1 w_next_a1 w_valuesCost_a1 el_w_starts_a1 el_w_grouped_a1 el_w_next_a1 tt1 tt2 tt3 h0 n0 _ T523.heap _
    rw [e523]
    exact ⟨b293, b54, b14, rfl, N502, K502, sz_b293, sz_b54, sz_b14, (Ne.symm ne_b54_b293), (Ne.symm ne_b14_b293), (Ne.symm ne_b14_b54), F518_502, F511_502, F512_502, F507_502, F506_502, F503_502, F505_502, F510_502, F509_502, F504_502, F508_502, F513_502, V502_b293, F521_502, F519_502⟩
theorem pn_com_example_accrete_accrete_engine_SendingsCostPinLaw : plainName "com/example/accrete/accrete/engine/SendingsCostPinLaw" = true := by first | (simp [plainName, overriddenIn]; done) | decide +kernel
theorem pd___V : parseMethodDescriptor "()V" = some ⟨[], none⟩ := by decide +kernel
theorem pd___J : parseMethodDescriptor "()J" = some ⟨[], some .long⟩ := by decide +kernel
theorem pd__I_B_BII_V : parseMethodDescriptor "(I[B[BII)V" = some ⟨[.int, (.array .byte), (.array .byte), .int, .int], none⟩ := by decide +kernel
theorem pd__II_BI_V : parseMethodDescriptor "(II[BI)V" = some ⟨[.int, .int, (.array .byte), .int], none⟩ := by decide +kernel
theorem pd__I_BI_V : parseMethodDescriptor "(I[BI)V" = some ⟨[.int, (.array .byte), .int], none⟩ := by decide +kernel
theorem pd__I_V : parseMethodDescriptor "(I)V" = some ⟨[.int], none⟩ := by decide +kernel
theorem pd__I_BII_V : parseMethodDescriptor "(I[BII)V" = some ⟨[.int, (.array .byte), .int, .int], none⟩ := by decide +kernel
theorem ef_0 (m : MethodId) (x0 : Int32) (x1 : Int32) (x2 : Int32) (x3 : Int32) (x4 : Int32) (x5 : Int32) : entryFrame m #[(.int x0), (.int x1), (.int x2), (.int x3), (.int x4), (.int x5)] maxLocals = mkF m 0 #[.val (.int x0), .val (.int x1), .val (.int x2), .val (.int x3), .val (.int x4), .val (.int x5), .unset, .unset, .unset, .unset, .unset, .unset, .unset, .unset, .unset, .unset, .unset, .unset, .unset, .unset, .unset, .unset, .unset, .unset, .unset, .unset, .unset, .unset, .unset, .unset, .unset, .unset, .unset, .unset, .unset] [] := by first | (simp [entryFrame, mkF, argsToLocals, Value.category, maxLocals]; done) | rfl
def Q0 (Z : State) (p1 : Int32) (p2 : Int32) (p3 : Int32) (p4 : Int32) (p5 : Int32) (p6 : Int32) (h0 : Heap) (n0 : Nat) (v : Option Value) (h : Heap) (L : List Loc) : Prop := v = some (.int 1) ∧ Fr n0 L
set_option maxRecDepth 65536 in
set_option maxHeartbeats 40000000 in
theorem rm0 (l : Launch) (Z : State) (a0 : Array Value) (hw : ∀ d ∈ tables_1, d.before a0 Z = true) (ws : List Jvm.Cond) (p1 : Int32) (p2 : Int32) (p3 : Int32) (p4 : Int32) (p5 : Int32) (p6 : Int32) (h0 : Heap) (n0 : Nat) (Z0 : n0 ≤ h0.size)  :
    MetFree l x (head1 (Jvm.Cond.code x code maxLocals ret :: ws) room_1) (fun a U => a = #[(.int p1), (.int p2), (.int p3), (.int p4), (.int p5), (.int p6)] ∧ Z.Warmed39 U.vm ∧ U.heap = h0) (fun _ _ _ _ _ => True) (fun _ U o U' => ∃ v L, o = .returned v ∧ Q0 Z p1 p2 p3 p4 p5 p6 h0 n0 v U'.heap L ∧ FrameEnd U o U' L room_1.cells room_1.slots) := by
  refine MetFree.of_bodySF (plainFor_of_name pn_com_example_accrete_accrete_engine_SendingsCostPinLaw) hisR ?_
  intro p e s m args below meth c s₁ Bd hml0 hP hK
  obtain ⟨rfl, hZ, hh⟩ := hP
  have hx := Bd.exec
  have hby := Bd.bytes
  have hml : c.maxLocals = 35 := hml0
  have hown : s.vm.findClass "com/example/accrete/accrete/engine/SendingsCostPinLaw" = some m.cls := findClass_of_methodNamed Bd.named
  have hnm := (name_of_methodNamed Bd.named Bd.method).1
  have X0 : Stand p l e room_1 s m #[(.int p1), (.int p2), (.int p3), (.int p4), (.int p5), (.int p6)] below meth c s₁ [] 0 0 := Stand.of_body Bd
  have e0 : s₁.heap = h0 := by rw [← hh, Bd.state]; rfl
  have N0 := Fr.nil n0
  obtain ⟨EN, hEN, pre0⟩ : ∃ EN : _ → Prop, (∀ t, EN t → Steps p.tables e below (s₁.setTop (entryFrame m #[(.int p1), (.int p2), (.int p3), (.int p4), (.int p5), (.int p6)] maxLocals)) t) ∧ (∀ t, Steps p.tables e below (s₁.setTop (mkF m 0 #[.val (.int p1), .val (.int p2), .val (.int p3), .val (.int p4), .val (.int p5), .val (.int p6), .unset, .unset, .unset, .unset, .unset, .unset, .unset, .unset, .unset, .unset, .unset, .unset, .unset, .unset, .unset, .unset, .unset, .unset, .unset, .unset, .unset, .unset, .unset, .unset, .unset, .unset, .unset, .unset, .unset] [])) t → EN t) := ⟨_, fun _ h => h, fun t k => castTop (ef_0 m p1 p2 p3 p4 p5 p6) k⟩
  have pre1 : ∀ t, Steps p.tables e below (s₁.setTop (mkF m 6 #[.val (.int p1), .val (.int p2), .val (.int p3), .val (.int p4), .val (.int p5), .val (.int p6), .val (.int (p1 &&& (15 : Int32))), .unset, .unset, .unset, .unset, .unset, .unset, .unset, .unset, .unset, .unset, .unset, .unset, .unset, .unset, .unset, .unset, .unset, .unset, .unset, .unset, .unset, .unset, .unset, .unset, .unset, .unset, .unset, .unset] [])) t → EN t := fun t kt => by
    refine pre0 t ?_
    refine XS.iloadN X0.here hx rfl (hb hby at_0) rfl ?_
    refine XS.bipush X0.here hx rfl (hb hby at_1) ?_
    refine XS.iand X0.here hx rfl (hb hby at_3) rfl ?_
    refine XS.istore X0.here hx rfl (hb hby at_4) rfl (l' := #[.val (.int p1), .val (.int p2), .val (.int p3), .val (.int p4), .val (.int p5), .val (.int p6), .val (.int (p1 &&& (15 : Int32))), .unset, .unset, .unset, .unset, .unset, .unset, .unset, .unset, .unset, .unset, .unset, .unset, .unset, .unset, .unset, .unset, .unset, .unset, .unset, .unset, .unset, .unset, .unset, .unset, .unset, .unset, .unset, .unset]) rfl ?_
    exact kt
  obtain ⟨la, h_la⟩ : ∃ z, z = (p1 &&& (15 : Int32)) := ⟨_, rfl⟩
  rw [← h_la] at pre1
  have b_la := own_15 _ la h_la
  have pre2 : ∀ t, Steps p.tables e below (s₁.setTop (mkF m 14 #[.val (.int p1), .val (.int p2), .val (.int p3), .val (.int p4), .val (.int p5), .val (.int p6), .val (.int la), .val (.int (((p1.toUInt32 >>> ((4 : Int32) &&& 31).toUInt32).toInt32) &&& (15 : Int32))), .unset, .unset, .unset, .unset, .unset, .unset, .unset, .unset, .unset, .unset, .unset, .unset, .unset, .unset, .unset, .unset, .unset, .unset, .unset, .unset, .unset, .unset, .unset, .unset, .unset, .unset, .unset] [])) t → EN t := fun t kt => by
    refine pre1 t ?_
    refine XS.iloadN X0.here hx rfl (hb hby at_6) rfl ?_
    refine XS.iconst X0.here hx rfl (hb hby at_7) ?_
    refine XS.iushr X0.here hx rfl (hb hby at_8) rfl ?_
    refine XS.bipush X0.here hx rfl (hb hby at_9) ?_
    refine XS.iand X0.here hx rfl (hb hby at_11) rfl ?_
    refine XS.istore X0.here hx rfl (hb hby at_12) rfl (l' := #[.val (.int p1), .val (.int p2), .val (.int p3), .val (.int p4), .val (.int p5), .val (.int p6), .val (.int la), .val (.int (((p1.toUInt32 >>> ((4 : Int32) &&& 31).toUInt32).toInt32) &&& (15 : Int32))), .unset, .unset, .unset, .unset, .unset, .unset, .unset, .unset, .unset, .unset, .unset, .unset, .unset, .unset, .unset, .unset, .unset, .unset, .unset, .unset, .unset, .unset, .unset, .unset, .unset, .unset, .unset]) rfl ?_
    exact kt
  obtain ⟨lb, h_lb⟩ : ∃ z, z = (((p1.toUInt32 >>> ((4 : Int32) &&& 31).toUInt32).toInt32) &&& (15 : Int32)) := ⟨_, rfl⟩
  rw [← h_lb] at pre2
  have b_lb := own_15 _ lb h_lb
  have pre3 : ∀ t, Steps p.tables e below (s₁.setTop (mkF m 23 #[.val (.int p1), .val (.int p2), .val (.int p3), .val (.int p4), .val (.int p5), .val (.int p6), .val (.int la), .val (.int lb), .val (.int (((p1.toUInt32 >>> ((8 : Int32) &&& 31).toUInt32).toInt32) &&& (15 : Int32))), .unset, .unset, .unset, .unset, .unset, .unset, .unset, .unset, .unset, .unset, .unset, .unset, .unset, .unset, .unset, .unset, .unset, .unset, .unset, .unset, .unset, .unset, .unset, .unset, .unset, .unset] [])) t → EN t := fun t kt => by
    refine pre2 t ?_
    refine XS.iloadN X0.here hx rfl (hb hby at_14) rfl ?_
    refine XS.bipush X0.here hx rfl (hb hby at_15) ?_
    refine XS.iushr X0.here hx rfl (hb hby at_17) rfl ?_
    refine XS.bipush X0.here hx rfl (hb hby at_18) ?_
    refine XS.iand X0.here hx rfl (hb hby at_20) rfl ?_
    refine XS.istore X0.here hx rfl (hb hby at_21) rfl (l' := #[.val (.int p1), .val (.int p2), .val (.int p3), .val (.int p4), .val (.int p5), .val (.int p6), .val (.int la), .val (.int lb), .val (.int (((p1.toUInt32 >>> ((8 : Int32) &&& 31).toUInt32).toInt32) &&& (15 : Int32))), .unset, .unset, .unset, .unset, .unset, .unset, .unset, .unset, .unset, .unset, .unset, .unset, .unset, .unset, .unset, .unset, .unset, .unset, .unset, .unset, .unset, .unset, .unset, .unset, .unset, .unset]) rfl ?_
    exact kt
  obtain ⟨lc, h_lc⟩ : ∃ z, z = (((p1.toUInt32 >>> ((8 : Int32) &&& 31).toUInt32).toInt32) &&& (15 : Int32)) := ⟨_, rfl⟩
  rw [← h_lc] at pre3
  have b_lc := own_15 _ lc h_lc
  have pre4 : ∀ t, Steps p.tables e below (s₁.setTop (mkF m 32 #[.val (.int p1), .val (.int p2), .val (.int p3), .val (.int p4), .val (.int p5), .val (.int p6), .val (.int la), .val (.int lb), .val (.int lc), .val (.int (((p1.toUInt32 >>> ((12 : Int32) &&& 31).toUInt32).toInt32) &&& (15 : Int32))), .unset, .unset, .unset, .unset, .unset, .unset, .unset, .unset, .unset, .unset, .unset, .unset, .unset, .unset, .unset, .unset, .unset, .unset, .unset, .unset, .unset, .unset, .unset, .unset, .unset] [])) t → EN t := fun t kt => by
    refine pre3 t ?_
    refine XS.iloadN X0.here hx rfl (hb hby at_23) rfl ?_
    refine XS.bipush X0.here hx rfl (hb hby at_24) ?_
    refine XS.iushr X0.here hx rfl (hb hby at_26) rfl ?_
    refine XS.bipush X0.here hx rfl (hb hby at_27) ?_
    refine XS.iand X0.here hx rfl (hb hby at_29) rfl ?_
    refine XS.istore X0.here hx rfl (hb hby at_30) rfl (l' := #[.val (.int p1), .val (.int p2), .val (.int p3), .val (.int p4), .val (.int p5), .val (.int p6), .val (.int la), .val (.int lb), .val (.int lc), .val (.int (((p1.toUInt32 >>> ((12 : Int32) &&& 31).toUInt32).toInt32) &&& (15 : Int32))), .unset, .unset, .unset, .unset, .unset, .unset, .unset, .unset, .unset, .unset, .unset, .unset, .unset, .unset, .unset, .unset, .unset, .unset, .unset, .unset, .unset, .unset, .unset, .unset, .unset]) rfl ?_
    exact kt
  obtain ⟨ld, h_ld⟩ : ∃ z, z = (((p1.toUInt32 >>> ((12 : Int32) &&& 31).toUInt32).toInt32) &&& (15 : Int32)) := ⟨_, rfl⟩
  rw [← h_ld] at pre4
  have b_ld := own_15 _ ld h_ld
  by_cases hc38 : (((p1.toUInt32 >>> ((16 : Int32) &&& 31).toUInt32).toInt32) &&& (1 : Int32)) = (0 : Int32)
  · skip
    by_cases hc54 : (((p1.toUInt32 >>> ((17 : Int32) &&& 31).toUInt32).toInt32) &&& (1 : Int32)) = (0 : Int32)
    · skip
      have pre5 : ∀ t, Steps p.tables e below (s₁.setTop (mkF m 75 #[.val (.int p1), .val (.int p2), .val (.int p3), .val (.int p4), .val (.int p5), .val (.int p6), .val (.int la), .val (.int lb), .val (.int lc), .val (.int ld), .val (.int (0 : Int32)), .val (.int (0 : Int32)), .val (.int ((((p1.toUInt32 >>> ((18 : Int32) &&& 31).toUInt32).toInt32) &&& (7 : Int32)) + (1 : Int32))), .unset, .unset, .unset, .unset, .unset, .unset, .unset, .unset, .unset, .unset, .unset, .unset, .unset, .unset, .unset, .unset, .unset, .unset, .unset, .unset, .unset, .unset] [])) t → EN t := fun t kt => by
        refine pre4 t ?_
        refine XS.iloadN X0.here hx rfl (hb hby at_32) rfl ?_
        refine XS.bipush X0.here hx rfl (hb hby at_33) ?_
        refine XS.iushr X0.here hx rfl (hb hby at_35) rfl ?_
        refine XS.iconst X0.here hx rfl (hb hby at_36) ?_
        refine XS.iand X0.here hx rfl (hb hby at_37) rfl ?_
        refine XS.ifYes X0.here hx rfl (pc0 := 38) (pc' := 45) rfl (hb hby at_38) rfl ((if0 _ _).trans (teq hc38).1) (by decide) (by decide) ?_
        refine XS.iconst X0.here hx rfl (hb hby at_45) ?_
        refine XS.istore X0.here hx rfl (hb hby at_46) rfl (l' := #[.val (.int p1), .val (.int p2), .val (.int p3), .val (.int p4), .val (.int p5), .val (.int p6), .val (.int la), .val (.int lb), .val (.int lc), .val (.int ld), .val (.int (0 : Int32)), .unset, .unset, .unset, .unset, .unset, .unset, .unset, .unset, .unset, .unset, .unset, .unset, .unset, .unset, .unset, .unset, .unset, .unset, .unset, .unset, .unset, .unset, .unset, .unset]) rfl ?_
        refine XS.iloadN X0.here hx rfl (hb hby at_48) rfl ?_
        refine XS.bipush X0.here hx rfl (hb hby at_49) ?_
        show Steps p.tables e below (s₁.setTop (mkF m 51 #[.val (.int p1), .val (.int p2), .val (.int p3), .val (.int p4), .val (.int p5), .val (.int p6), .val (.int la), .val (.int lb), .val (.int lc), .val (.int ld), .val (.int (0 : Int32)), .unset, .unset, .unset, .unset, .unset, .unset, .unset, .unset, .unset, .unset, .unset, .unset, .unset, .unset, .unset, .unset, .unset, .unset, .unset, .unset, .unset, .unset, .unset, .unset] [(.int (17 : Int32)), (.int p1)])) _
        refine XS.iushr X0.here hx rfl (hb hby at_51) rfl ?_
        refine XS.iconst X0.here hx rfl (hb hby at_52) ?_
        refine XS.iand X0.here hx rfl (hb hby at_53) rfl ?_
        refine XS.ifYes X0.here hx rfl (pc0 := 54) (pc' := 61) rfl (hb hby at_54) rfl ((if0 _ _).trans (teq hc54).1) (by decide) (by decide) ?_
        refine XS.iconst X0.here hx rfl (hb hby at_61) ?_
        refine XS.istore X0.here hx rfl (hb hby at_62) rfl (l' := #[.val (.int p1), .val (.int p2), .val (.int p3), .val (.int p4), .val (.int p5), .val (.int p6), .val (.int la), .val (.int lb), .val (.int lc), .val (.int ld), .val (.int (0 : Int32)), .val (.int (0 : Int32)), .unset, .unset, .unset, .unset, .unset, .unset, .unset, .unset, .unset, .unset, .unset, .unset, .unset, .unset, .unset, .unset, .unset, .unset, .unset, .unset, .unset, .unset, .unset]) rfl ?_
        refine XS.iloadN X0.here hx rfl (hb hby at_64) rfl ?_
        refine XS.bipush X0.here hx rfl (hb hby at_65) ?_
        refine XS.iushr X0.here hx rfl (hb hby at_67) rfl ?_
        refine XS.bipush X0.here hx rfl (hb hby at_68) ?_
        show Steps p.tables e below (s₁.setTop (mkF m 70 #[.val (.int p1), .val (.int p2), .val (.int p3), .val (.int p4), .val (.int p5), .val (.int p6), .val (.int la), .val (.int lb), .val (.int lc), .val (.int ld), .val (.int (0 : Int32)), .val (.int (0 : Int32)), .unset, .unset, .unset, .unset, .unset, .unset, .unset, .unset, .unset, .unset, .unset, .unset, .unset, .unset, .unset, .unset, .unset, .unset, .unset, .unset, .unset, .unset, .unset] [(.int (7 : Int32)), (.int ((p1.toUInt32 >>> ((18 : Int32) &&& 31).toUInt32).toInt32))])) _
        refine XS.iand X0.here hx rfl (hb hby at_70) rfl ?_
        refine XS.iconst X0.here hx rfl (hb hby at_71) ?_
        refine XS.iadd X0.here hx rfl (hb hby at_72) rfl ?_
        refine XS.istore X0.here hx rfl (hb hby at_73) rfl (l' := #[.val (.int p1), .val (.int p2), .val (.int p3), .val (.int p4), .val (.int p5), .val (.int p6), .val (.int la), .val (.int lb), .val (.int lc), .val (.int ld), .val (.int (0 : Int32)), .val (.int (0 : Int32)), .val (.int ((((p1.toUInt32 >>> ((18 : Int32) &&& 31).toUInt32).toInt32) &&& (7 : Int32)) + (1 : Int32))), .unset, .unset, .unset, .unset, .unset, .unset, .unset, .unset, .unset, .unset, .unset, .unset, .unset, .unset, .unset, .unset, .unset, .unset, .unset, .unset, .unset, .unset]) rfl ?_
        exact kt
      obtain ⟨kys, h_kys⟩ : ∃ z, z = ((((p1.toUInt32 >>> ((18 : Int32) &&& 31).toUInt32).toInt32) &&& (7 : Int32)) + (1 : Int32)) := ⟨_, rfl⟩
      rw [← h_kys] at pre5
      have hkys := own_kys _ kys h_kys
      have pre6 : ∀ t, Steps p.tables e below (s₁.setTop (mkF m 84 #[.val (.int p1), .val (.int p2), .val (.int p3), .val (.int p4), .val (.int p5), .val (.int p6), .val (.int la), .val (.int lb), .val (.int lc), .val (.int ld), .val (.int (0 : Int32)), .val (.int (0 : Int32)), .val (.int kys), .val (.int ((p2 &&& (2147483647 : Int32)) % kys)), .unset, .unset, .unset, .unset, .unset, .unset, .unset, .unset, .unset, .unset, .unset, .unset, .unset, .unset, .unset, .unset, .unset, .unset, .unset, .unset, .unset] [])) t → EN t := fun t kt => by
        refine pre5 t ?_
        refine XS.iloadN X0.here hx rfl (hb hby at_75) rfl ?_
        refine X0.ldcInt hx hown (mvT hZ (hw _ (mgE 0 rfl))) (g := (mkF m 76 #[.val (.int p1), .val (.int p2), .val (.int p3), .val (.int p4), .val (.int p5), .val (.int p6), .val (.int la), .val (.int lb), .val (.int lc), .val (.int ld), .val (.int (0 : Int32)), .val (.int (0 : Int32)), .val (.int kys), .unset, .unset, .unset, .unset, .unset, .unset, .unset, .unset, .unset, .unset, .unset, .unset, .unset, .unset, .unset, .unset, .unset, .unset, .unset, .unset, .unset, .unset] [(.int p2)])) rfl (hb hby at_76) _ ?_
        refine XS.iand X0.here hx rfl (hb hby at_78) rfl ?_
        refine XS.iload X0.here hx rfl (hb hby at_79) rfl ?_
        have hnz81 : ¬ (kys = (0 : Int32)) := own_knz kys hkys
        refine iremM X0 hx rfl (hb hby at_81) rfl hnz81 ?_
        refine XS.istore X0.here hx rfl (hb hby at_82) rfl (l' := #[.val (.int p1), .val (.int p2), .val (.int p3), .val (.int p4), .val (.int p5), .val (.int p6), .val (.int la), .val (.int lb), .val (.int lc), .val (.int ld), .val (.int (0 : Int32)), .val (.int (0 : Int32)), .val (.int kys), .val (.int ((p2 &&& (2147483647 : Int32)) % kys)), .unset, .unset, .unset, .unset, .unset, .unset, .unset, .unset, .unset, .unset, .unset, .unset, .unset, .unset, .unset, .unset, .unset, .unset, .unset, .unset, .unset]) rfl ?_
        exact kt
      obtain ⟨tv1, h_tv1⟩ : ∃ z, z = ((p2 &&& (2147483647 : Int32)) % kys) := ⟨_, rfl⟩
      rw [← h_tv1] at pre6
      have ht1 := own_mod _ kys tv1 hkys h_tv1
      have pre7 : ∀ t, Steps p.tables e below (s₁.setTop (mkF m 93 #[.val (.int p1), .val (.int p2), .val (.int p3), .val (.int p4), .val (.int p5), .val (.int p6), .val (.int la), .val (.int lb), .val (.int lc), .val (.int ld), .val (.int (0 : Int32)), .val (.int (0 : Int32)), .val (.int kys), .val (.int tv1), .val (.int ((p3 &&& (2147483647 : Int32)) % kys)), .unset, .unset, .unset, .unset, .unset, .unset, .unset, .unset, .unset, .unset, .unset, .unset, .unset, .unset, .unset, .unset, .unset, .unset, .unset, .unset] [])) t → EN t := fun t kt => by
        refine pre6 t ?_
        refine XS.iloadN X0.here hx rfl (hb hby at_84) rfl ?_
        refine X0.ldcInt hx hown (mvT hZ (hw _ (mgE 0 rfl))) (g := (mkF m 85 #[.val (.int p1), .val (.int p2), .val (.int p3), .val (.int p4), .val (.int p5), .val (.int p6), .val (.int la), .val (.int lb), .val (.int lc), .val (.int ld), .val (.int (0 : Int32)), .val (.int (0 : Int32)), .val (.int kys), .val (.int tv1), .unset, .unset, .unset, .unset, .unset, .unset, .unset, .unset, .unset, .unset, .unset, .unset, .unset, .unset, .unset, .unset, .unset, .unset, .unset, .unset, .unset] [(.int p3)])) rfl (hb hby at_85) _ ?_
        refine XS.iand X0.here hx rfl (hb hby at_87) rfl ?_
        refine XS.iload X0.here hx rfl (hb hby at_88) rfl ?_
        have hnz90 : ¬ (kys = (0 : Int32)) := own_knz kys hkys
        refine iremM X0 hx rfl (hb hby at_90) rfl hnz90 ?_
        refine XS.istore X0.here hx rfl (hb hby at_91) rfl (l' := #[.val (.int p1), .val (.int p2), .val (.int p3), .val (.int p4), .val (.int p5), .val (.int p6), .val (.int la), .val (.int lb), .val (.int lc), .val (.int ld), .val (.int (0 : Int32)), .val (.int (0 : Int32)), .val (.int kys), .val (.int tv1), .val (.int ((p3 &&& (2147483647 : Int32)) % kys)), .unset, .unset, .unset, .unset, .unset, .unset, .unset, .unset, .unset, .unset, .unset, .unset, .unset, .unset, .unset, .unset, .unset, .unset, .unset, .unset]) rfl ?_
        exact kt
      obtain ⟨tv2, h_tv2⟩ : ∃ z, z = ((p3 &&& (2147483647 : Int32)) % kys) := ⟨_, rfl⟩
      rw [← h_tv2] at pre7
      have ht2 := own_mod _ kys tv2 hkys h_tv2
      have pre8 : ∀ t, Steps p.tables e below (s₁.setTop (mkF m 102 #[.val (.int p1), .val (.int p2), .val (.int p3), .val (.int p4), .val (.int p5), .val (.int p6), .val (.int la), .val (.int lb), .val (.int lc), .val (.int ld), .val (.int (0 : Int32)), .val (.int (0 : Int32)), .val (.int kys), .val (.int tv1), .val (.int tv2), .val (.int ((p4 &&& (2147483647 : Int32)) % kys)), .unset, .unset, .unset, .unset, .unset, .unset, .unset, .unset, .unset, .unset, .unset, .unset, .unset, .unset, .unset, .unset, .unset, .unset, .unset] [])) t → EN t := fun t kt => by
        refine pre7 t ?_
        refine XS.iloadN X0.here hx rfl (hb hby at_93) rfl ?_
        refine X0.ldcInt hx hown (mvT hZ (hw _ (mgE 0 rfl))) (g := (mkF m 94 #[.val (.int p1), .val (.int p2), .val (.int p3), .val (.int p4), .val (.int p5), .val (.int p6), .val (.int la), .val (.int lb), .val (.int lc), .val (.int ld), .val (.int (0 : Int32)), .val (.int (0 : Int32)), .val (.int kys), .val (.int tv1), .val (.int tv2), .unset, .unset, .unset, .unset, .unset, .unset, .unset, .unset, .unset, .unset, .unset, .unset, .unset, .unset, .unset, .unset, .unset, .unset, .unset, .unset] [(.int p4)])) rfl (hb hby at_94) _ ?_
        refine XS.iand X0.here hx rfl (hb hby at_96) rfl ?_
        refine XS.iload X0.here hx rfl (hb hby at_97) rfl ?_
        have hnz99 : ¬ (kys = (0 : Int32)) := own_knz kys hkys
        refine iremM X0 hx rfl (hb hby at_99) rfl hnz99 ?_
        refine XS.istore X0.here hx rfl (hb hby at_100) rfl (l' := #[.val (.int p1), .val (.int p2), .val (.int p3), .val (.int p4), .val (.int p5), .val (.int p6), .val (.int la), .val (.int lb), .val (.int lc), .val (.int ld), .val (.int (0 : Int32)), .val (.int (0 : Int32)), .val (.int kys), .val (.int tv1), .val (.int tv2), .val (.int ((p4 &&& (2147483647 : Int32)) % kys)), .unset, .unset, .unset, .unset, .unset, .unset, .unset, .unset, .unset, .unset, .unset, .unset, .unset, .unset, .unset, .unset, .unset, .unset, .unset]) rfl ?_
        exact kt
      obtain ⟨tv3, h_tv3⟩ : ∃ z, z = ((p4 &&& (2147483647 : Int32)) % kys) := ⟨_, rfl⟩
      rw [← h_tv3] at pre8
      have ht3 := own_mod _ kys tv3 hkys h_tv3
      obtain ⟨T9, h9, k9, X9, e9, E9, A9, Ex9, st9⟩ := newPE X0 hx hZ (hw _ (mgE 1 rfl)) e0 (g := (mkF m 104 #[.val (.int p1), .val (.int p2), .val (.int p3), .val (.int p4), .val (.int p5), .val (.int p6), .val (.int la), .val (.int lb), .val (.int lc), .val (.int ld), .val (.int (0 : Int32)), .val (.int (0 : Int32)), .val (.int kys), .val (.int tv1), .val (.int tv2), .val (.int tv3), .unset, .unset, .unset, .unset, .unset, .unset, .unset, .unset, .unset, .unset, .unset, .unset, .unset, .unset, .unset, .unset, .unset, .unset, .unset] [(.int la)])) rfl (hb hby at_104) rfl (own_n15 _ b_la) (cap := 15) (own_c15 _ b_la) (by decide) (by decide) (by decide) (ad := "[B") (by decide)
      obtain ⟨b9, g9⟩ : ∃ z, z = h0.size := ⟨_, rfl⟩
      rw [← g9] at A9 Ex9 st9
      have Z9 : n0 ≤ h9.size := Nat.le_trans Z0 E9.1
      have V_b9 : Arf Z h9 b9 .byte la (fun i => (.int ((fun _ => (0 : Int32)) i))) := Arf.new A9 (own_n15 _ b_la)
      obtain ⟨T11, h11, k11, X11, e11, E11, A11, Ex11, st11⟩ := newPE X9 hx hZ (hw _ (mgE 1 rfl)) e9 (g := (mkF m 110 #[.val (.int p1), .val (.int p2), .val (.int p3), .val (.int p4), .val (.int p5), .val (.int p6), .val (.int la), .val (.int lb), .val (.int lc), .val (.int ld), .val (.int (0 : Int32)), .val (.int (0 : Int32)), .val (.int kys), .val (.int tv1), .val (.int tv2), .val (.int tv3), .val (.ref b9), .unset, .unset, .unset, .unset, .unset, .unset, .unset, .unset, .unset, .unset, .unset, .unset, .unset, .unset, .unset, .unset, .unset, .unset] [(.int lb)])) rfl (hb hby at_110) rfl (own_n15 _ b_lb) (cap := 15) (own_c15 _ b_lb) (by decide) (by decide) (by decide) (ad := "[B") (by decide)
      obtain ⟨b11, g11⟩ : ∃ z, z = h9.size := ⟨_, rfl⟩
      rw [← g11] at A11 Ex11 st11
      have Z11 : n0 ≤ h11.size := Nat.le_trans Z9 E11.1
      have F12_11 := Ex9.ext E11
      have F13_11 := V_b9.ext E11
      have V_b11 : Arf Z h11 b11 .byte lb (fun i => (.int ((fun _ => (0 : Int32)) i))) := Arf.new A11 (own_n15 _ b_lb)
      obtain ⟨T15, h15, k15, X15, e15, E15, A15, Ex15, st15⟩ := newPE X11 hx hZ (hw _ (mgE 1 rfl)) e11 (g := (mkF m 125 #[.val (.int p1), .val (.int p2), .val (.int p3), .val (.int p4), .val (.int p5), .val (.int p6), .val (.int la), .val (.int lb), .val (.int lc), .val (.int ld), .val (.int (0 : Int32)), .val (.int (0 : Int32)), .val (.int kys), .val (.int tv1), .val (.int tv2), .val (.int tv3), .val (.ref b9), .val (.ref b11), .unset, .unset, .unset, .unset, .unset, .unset, .unset, .unset, .unset, .unset, .unset, .unset, .unset, .unset, .unset, .unset, .unset] [(.int lc)])) rfl (hb hby at_125) rfl (own_n15 _ b_lc) (cap := 15) (own_c15 _ b_lc) (by decide) (by decide) (by decide) (ad := "[B") (by decide)
      obtain ⟨b15, g15⟩ : ∃ z, z = h11.size := ⟨_, rfl⟩
      rw [← g15] at A15 Ex15 st15
      have Z15 : n0 ≤ h15.size := Nat.le_trans Z11 E15.1
      have F16_15 := F12_11.ext E15
      have F17_15 := F13_11.ext E15
      have F18_15 := Ex11.ext E15
      have F19_15 := V_b11.ext E15
      have V_b15 : Arf Z h15 b15 .byte lc (fun i => (.int ((fun _ => (0 : Int32)) i))) := Arf.new A15 (own_n15 _ b_lc)
      obtain ⟨T21, h21, k21, X21, e21, E21, A21, Ex21, st21⟩ := newPE X15 hx hZ (hw _ (mgE 1 rfl)) e15 (g := (mkF m 131 #[.val (.int p1), .val (.int p2), .val (.int p3), .val (.int p4), .val (.int p5), .val (.int p6), .val (.int la), .val (.int lb), .val (.int lc), .val (.int ld), .val (.int (0 : Int32)), .val (.int (0 : Int32)), .val (.int kys), .val (.int tv1), .val (.int tv2), .val (.int tv3), .val (.ref b9), .val (.ref b11), .val (.ref b15), .unset, .unset, .unset, .unset, .unset, .unset, .unset, .unset, .unset, .unset, .unset, .unset, .unset, .unset, .unset, .unset] [(.int ld)])) rfl (hb hby at_131) rfl (own_n15 _ b_ld) (cap := 15) (own_c15 _ b_ld) (by decide) (by decide) (by decide) (ad := "[B") (by decide)
      obtain ⟨b21, g21⟩ : ∃ z, z = h15.size := ⟨_, rfl⟩
      rw [← g21] at A21 Ex21 st21
      have Z21 : n0 ≤ h21.size := Nat.le_trans Z15 E21.1
      have F22_21 := F16_15.ext E21
      have F23_21 := F17_15.ext E21
      have F24_21 := F18_15.ext E21
      have F25_21 := F19_15.ext E21
      have F26_21 := Ex15.ext E21
      have F27_21 := V_b15.ext E21
      have V_b21 : Arf Z h21 b21 .byte ld (fun i => (.int ((fun _ => (0 : Int32)) i))) := Arf.new A21 (own_n15 _ b_ld)
      obtain ⟨T29, h29, X29, e29, E29, A29, D29, -, st29⟩ := newO X21 hx hZ hown (hw _ (mgE 2 rfl)) (hw _ (mgE 3 rfl)) (hw _ (mgE 4 rfl)) e21 (g := (mkF m 135 #[.val (.int p1), .val (.int p2), .val (.int p3), .val (.int p4), .val (.int p5), .val (.int p6), .val (.int la), .val (.int lb), .val (.int lc), .val (.int ld), .val (.int (0 : Int32)), .val (.int (0 : Int32)), .val (.int kys), .val (.int tv1), .val (.int tv2), .val (.int tv3), .val (.ref b9), .val (.ref b11), .val (.ref b15), .val (.ref b21), .unset, .unset, .unset, .unset, .unset, .unset, .unset, .unset, .unset, .unset, .unset, .unset, .unset, .unset, .unset] [])) rfl (hb hby at_135) (by decide) (by decide)
      obtain ⟨b29, g29⟩ : ∃ z, z = h21.size := ⟨_, rfl⟩
      rw [← g29] at A29 D29 st29
      have ne_b9_b29 : b9 ≠ b29 := Nat.ne_of_lt (Nat.lt_of_lt_of_le F22_21.lt (Nat.le_of_eq g29.symm))
      have ne_b11_b29 : b11 ≠ b29 := Nat.ne_of_lt (Nat.lt_of_lt_of_le F24_21.lt (Nat.le_of_eq g29.symm))
      have ne_b15_b29 : b15 ≠ b29 := Nat.ne_of_lt (Nat.lt_of_lt_of_le F26_21.lt (Nat.le_of_eq g29.symm))
      have ne_b21_b29 : b21 ≠ b29 := Nat.ne_of_lt (Nat.lt_of_lt_of_le Ex21.lt (Nat.le_of_eq g29.symm))
      have g_b29 : n0 ≤ b29 := Nat.le_trans Z21 (Nat.le_of_eq g29.symm)
      have Z29 : n0 ≤ h29.size := Nat.le_trans Z21 E29.1
      have F30_29 := F22_21.ext E29
      have F31_29 := F23_21.ext E29
      have F32_29 := F24_21.ext E29
      have F33_29 := F25_21.ext E29
      have F34_29 := F26_21.ext E29
      have F35_29 := F27_21.ext E29
      have F36_29 := Ex21.ext E29
      have F37_29 := V_b21.ext E29
      have F_target_b29 : Fld Z h29 b29 "com/example/accrete/accrete/engine/Sendings" "target" "[I" .null := D29 (Or.inl (hw _ (mgE 13 rfl))) (ty := (.array .int)) (by decide)
      have F_slot_b29 : Fld Z h29 b29 "com/example/accrete/accrete/engine/Sendings" "slot" "[I" .null := D29 (Or.inl (hw _ (mgE 15 rfl))) (ty := (.array .int)) (by decide)
      have F_value_b29 : Fld Z h29 b29 "com/example/accrete/accrete/engine/Sendings" "value" "[[B" .null := D29 (Or.inl (hw _ (mgE 19 rfl))) (ty := (.array (.array .byte))) (by decide)
      have F_taken_b29 : Fld Z h29 b29 "com/example/accrete/accrete/engine/Sendings" "taken" "[[B" .null := D29 (Or.inl (hw _ (mgE 21 rfl))) (ty := (.array (.array .byte))) (by decide)
      have F_sender_b29 : Fld Z h29 b29 "com/example/accrete/accrete/engine/Sendings" "sender" "[I" .null := D29 (Or.inl (hw _ (mgE 23 rfl))) (ty := (.array .int)) (by decide)
      have F_position_b29 : Fld Z h29 b29 "com/example/accrete/accrete/engine/Sendings" "position" "[I" .null := D29 (Or.inl (hw _ (mgE 25 rfl))) (ty := (.array .int)) (by decide)
      have F_starts_b29 : Fld Z h29 b29 "com/example/accrete/accrete/engine/Sendings" "starts" "[I" .null := D29 (Or.inl (hw _ (mgE 27 rfl))) (ty := (.array .int)) (by decide)
      have F_grouped_b29 : Fld Z h29 b29 "com/example/accrete/accrete/engine/Sendings" "grouped" "[I" .null := D29 (Or.inl (hw _ (mgE 29 rfl))) (ty := (.array .int)) (by decide)
      have F_next_b29 : Fld Z h29 b29 "com/example/accrete/accrete/engine/Sendings" "next" "[I" .null := D29 (Or.inl (hw _ (mgE 31 rfl))) (ty := (.array .int)) (by decide)
      have F_valuesCost_b29 : Fld Z h29 b29 "com/example/accrete/accrete/engine/Sendings" "valuesCost" "J" (.long (0 : Int64)) := D29 (Or.inl (hw _ (mgE 40 rfl))) (ty := .long) (by decide)
      have F_size_b29 : Fld Z h29 b29 "com/example/accrete/accrete/engine/Sendings" "size" "I" (.int (0 : Int32)) := D29 (Or.inl (hw _ (mgE 51 rfl))) (ty := .int) (by decide)
      obtain ⟨_, _, ⟨T39, L39, k39, n39⟩, -, X39, ⟨Lc39, hQ39, l39, y39, z39⟩, st39⟩ := X29.specialBack hx (y := (⟨"com/example/accrete/accrete/engine/Sendings", "<init>", "()V"⟩ : MethodName)) rfl hown (mvT hZ (hw _ (mgE 5 rfl))) (mvT hZ (hw _ (mgE 6 rfl))) (mvT hZ (hw _ (mgE 7 rfl))) (by decide) (backOf (W := 1) (rm1 l Z a0 hw [] b29 (.null) (.null) (.null) (.null) (.null) (.null) (.null) (.null) (.null) h29 n0 Z29 F_size_b29 F_valuesCost_b29 A29 F_target_b29 g_b29 F_slot_b29 F_value_b29 F_taken_b29 F_sender_b29 F_position_b29 F_starts_b29 F_grouped_b29 F_next_b29) hZ (hw _ (mgE 7 rfl)) (hw _ (mgE 4 rfl)) (by decide) (by decide)) (g := (mkF m 139 #[.val (.int p1), .val (.int p2), .val (.int p3), .val (.int p4), .val (.int p5), .val (.int p6), .val (.int la), .val (.int lb), .val (.int lc), .val (.int ld), .val (.int (0 : Int32)), .val (.int (0 : Int32)), .val (.int kys), .val (.int tv1), .val (.int tv2), .val (.int tv3), .val (.ref b9), .val (.ref b11), .val (.ref b15), .val (.ref b21), .unset, .unset, .unset, .unset, .unset, .unset, .unset, .unset, .unset, .unset, .unset, .unset, .unset, .unset, .unset] [(.ref b29), (.ref b29)])) rfl (by rw [hml]; rfl) (Steps.refl _) (a := b29) (argsL := []) (rest := [(.ref b29)]) (lenOf pd___V rfl) rfl (by show 2 * 0 + _ ≤ _; exact Nat.le_of_eq rfl) (hb hby at_139) (fun _ _ => ⟨rfl, e29, (by decide : 5 + 9 ≤ _), (by decide : 71 + 6146 ≤ _)⟩)
      dsimp only [Pt.U, Pt.locs, Pt.cells, Pt.slots] at X39 l39 y39 z39 st39 hQ39
      subst l39 y39 z39
      obtain ⟨ob39_1, ob39_2, ob39_3, ob39_4, ob39_5, ob39_6, ob39_7, ob39_8, ob39_9, rfl, N39q, K39, ozob39_1, ozob39_2, ozob39_3, ozob39_4, ozob39_5, ozob39_6, ozob39_7, ozob39_8, ozob39_9, ne_ob39_1_ob39_2, ne_ob39_1_ob39_3, ne_ob39_2_ob39_3, ne_ob39_1_ob39_4, ne_ob39_2_ob39_4, ne_ob39_3_ob39_4, ne_ob39_1_ob39_5, ne_ob39_2_ob39_5, ne_ob39_3_ob39_5, ne_ob39_4_ob39_5, ne_ob39_1_ob39_6, ne_ob39_2_ob39_6, ne_ob39_3_ob39_6, ne_ob39_4_ob39_6, ne_ob39_5_ob39_6, ne_ob39_1_ob39_7, ne_ob39_2_ob39_7, ne_ob39_3_ob39_7, ne_ob39_4_ob39_7, ne_ob39_5_ob39_7, ne_ob39_6_ob39_7, ne_ob39_1_ob39_8, ne_ob39_2_ob39_8, ne_ob39_3_ob39_8, ne_ob39_4_ob39_8, ne_ob39_5_ob39_8, ne_ob39_6_ob39_8, ne_ob39_7_ob39_8, ne_ob39_1_ob39_9, ne_ob39_2_ob39_9, ne_ob39_3_ob39_9, ne_ob39_4_ob39_9, ne_ob39_5_ob39_9, ne_ob39_6_ob39_9, ne_ob39_7_ob39_9, ne_ob39_8_ob39_9, Q39_0, Q39_1, Q39_2, Q39_3, Q39_4, Q39_5, Q39_6, Q39_7, Q39_8, Q39_9, Q39_10, Q39_11, Q39_12, Q39_13, Q39_14, Q39_15, Q39_16, Q39_17, Q39_18, Q39_19, Q39_20, Q39_21, Q39_22⟩ := hQ39
      have ne_b29_ob39_1 : b29 ≠ ob39_1 := Nat.ne_of_lt (Nat.lt_of_lt_of_le A29.lt ozob39_1)
      have ne_b29_ob39_2 : b29 ≠ ob39_2 := Nat.ne_of_lt (Nat.lt_of_lt_of_le A29.lt ozob39_2)
      have ne_b9_ob39_3 : b9 ≠ ob39_3 := Nat.ne_of_lt (Nat.lt_of_lt_of_le F30_29.lt ozob39_3)
      have ne_b11_ob39_3 : b11 ≠ ob39_3 := Nat.ne_of_lt (Nat.lt_of_lt_of_le F32_29.lt ozob39_3)
      have ne_b15_ob39_3 : b15 ≠ ob39_3 := Nat.ne_of_lt (Nat.lt_of_lt_of_le F34_29.lt ozob39_3)
      have ne_b21_ob39_3 : b21 ≠ ob39_3 := Nat.ne_of_lt (Nat.lt_of_lt_of_le F36_29.lt ozob39_3)
      have ne_b29_ob39_3 : b29 ≠ ob39_3 := Nat.ne_of_lt (Nat.lt_of_lt_of_le A29.lt ozob39_3)
      have g_ob39_3 : n0 ≤ ob39_3 := Nat.le_trans Z29 ozob39_3
      have ne_b9_ob39_4 : b9 ≠ ob39_4 := Nat.ne_of_lt (Nat.lt_of_lt_of_le F30_29.lt ozob39_4)
      have ne_b11_ob39_4 : b11 ≠ ob39_4 := Nat.ne_of_lt (Nat.lt_of_lt_of_le F32_29.lt ozob39_4)
      have ne_b15_ob39_4 : b15 ≠ ob39_4 := Nat.ne_of_lt (Nat.lt_of_lt_of_le F34_29.lt ozob39_4)
      have ne_b21_ob39_4 : b21 ≠ ob39_4 := Nat.ne_of_lt (Nat.lt_of_lt_of_le F36_29.lt ozob39_4)
      have ne_b29_ob39_4 : b29 ≠ ob39_4 := Nat.ne_of_lt (Nat.lt_of_lt_of_le A29.lt ozob39_4)
      have g_ob39_4 : n0 ≤ ob39_4 := Nat.le_trans Z29 ozob39_4
      have ne_b9_ob39_5 : b9 ≠ ob39_5 := Nat.ne_of_lt (Nat.lt_of_lt_of_le F30_29.lt ozob39_5)
      have ne_b11_ob39_5 : b11 ≠ ob39_5 := Nat.ne_of_lt (Nat.lt_of_lt_of_le F32_29.lt ozob39_5)
      have ne_b15_ob39_5 : b15 ≠ ob39_5 := Nat.ne_of_lt (Nat.lt_of_lt_of_le F34_29.lt ozob39_5)
      have ne_b21_ob39_5 : b21 ≠ ob39_5 := Nat.ne_of_lt (Nat.lt_of_lt_of_le F36_29.lt ozob39_5)
      have ne_b29_ob39_5 : b29 ≠ ob39_5 := Nat.ne_of_lt (Nat.lt_of_lt_of_le A29.lt ozob39_5)
      have g_ob39_5 : n0 ≤ ob39_5 := Nat.le_trans Z29 ozob39_5
      have ne_b29_ob39_6 : b29 ≠ ob39_6 := Nat.ne_of_lt (Nat.lt_of_lt_of_le A29.lt ozob39_6)
      have ne_b9_ob39_7 : b9 ≠ ob39_7 := Nat.ne_of_lt (Nat.lt_of_lt_of_le F30_29.lt ozob39_7)
      have ne_b11_ob39_7 : b11 ≠ ob39_7 := Nat.ne_of_lt (Nat.lt_of_lt_of_le F32_29.lt ozob39_7)
      have ne_b15_ob39_7 : b15 ≠ ob39_7 := Nat.ne_of_lt (Nat.lt_of_lt_of_le F34_29.lt ozob39_7)
      have ne_b21_ob39_7 : b21 ≠ ob39_7 := Nat.ne_of_lt (Nat.lt_of_lt_of_le F36_29.lt ozob39_7)
      have ne_b29_ob39_7 : b29 ≠ ob39_7 := Nat.ne_of_lt (Nat.lt_of_lt_of_le A29.lt ozob39_7)
      have g_ob39_7 : n0 ≤ ob39_7 := Nat.le_trans Z29 ozob39_7
      have ne_b9_ob39_8 : b9 ≠ ob39_8 := Nat.ne_of_lt (Nat.lt_of_lt_of_le F30_29.lt ozob39_8)
      have ne_b11_ob39_8 : b11 ≠ ob39_8 := Nat.ne_of_lt (Nat.lt_of_lt_of_le F32_29.lt ozob39_8)
      have ne_b15_ob39_8 : b15 ≠ ob39_8 := Nat.ne_of_lt (Nat.lt_of_lt_of_le F34_29.lt ozob39_8)
      have ne_b21_ob39_8 : b21 ≠ ob39_8 := Nat.ne_of_lt (Nat.lt_of_lt_of_le F36_29.lt ozob39_8)
      have ne_b29_ob39_8 : b29 ≠ ob39_8 := Nat.ne_of_lt (Nat.lt_of_lt_of_le A29.lt ozob39_8)
      have g_ob39_8 : n0 ≤ ob39_8 := Nat.le_trans Z29 ozob39_8
      have ne_b9_ob39_9 : b9 ≠ ob39_9 := Nat.ne_of_lt (Nat.lt_of_lt_of_le F30_29.lt ozob39_9)
      have ne_b11_ob39_9 : b11 ≠ ob39_9 := Nat.ne_of_lt (Nat.lt_of_lt_of_le F32_29.lt ozob39_9)
      have ne_b15_ob39_9 : b15 ≠ ob39_9 := Nat.ne_of_lt (Nat.lt_of_lt_of_le F34_29.lt ozob39_9)
      have ne_b21_ob39_9 : b21 ≠ ob39_9 := Nat.ne_of_lt (Nat.lt_of_lt_of_le F36_29.lt ozob39_9)
      have ne_b29_ob39_9 : b29 ≠ ob39_9 := Nat.ne_of_lt (Nat.lt_of_lt_of_le A29.lt ozob39_9)
      have g_ob39_9 : n0 ≤ ob39_9 := Nat.le_trans Z29 ozob39_9
      have F40_39 := F30_29.keep K39
      have F41_39 := F31_29.keep K39 (ninS ne_b9_b29 nin0)
      have F42_39 := F32_29.keep K39
      have F43_39 := F33_29.keep K39 (ninS ne_b11_b29 nin0)
      have F44_39 := F34_29.keep K39
      have F45_39 := F35_29.keep K39 (ninS ne_b15_b29 nin0)
      have F46_39 := F36_29.keep K39
      have F47_39 := F37_29.keep K39 (ninS ne_b21_b29 nin0)
      have Z39 : n0 ≤ T39.heap.size := Nat.le_trans Z29 K39.1
      have N39 := Fr.app N0 N39q
      obtain ⟨cq61, kq61, q61a, q61b, q61c⟩ := isOf hZ rfl Q39_0
      obtain ⟨_, _, ⟨T61, L61, k61, n61⟩, -, X61, ⟨Lc61, hQ61, l61, y61, z61⟩, st61⟩ := X39.virtualBack hx (y := (⟨"com/example/accrete/accrete/engine/Sendings", "cost", "()J"⟩ : MethodName)) (z := (⟨"com/example/accrete/accrete/engine/Sendings", "cost", "()J"⟩ : MethodName)) hown (mvT hZ (hw _ (mgE 32 rfl))) (mvT hZ (hw _ (mgE 33 rfl))) (notFace_of_selects (args := #[]) (mvT hZ (hw _ (mgE 35 rfl)))) (mvT hZ (hw _ (mgE 35 rfl))) (mvT hZ (hw _ (mgE 34 rfl))) (by decide) (backOf (W := 0) (rm3 l Z a0 hw [] b29 ob39_8 (1024 : Int32) (fun _ => (0 : Int32)) ob39_6 (1 : Int32) (fun _ => (0 : Int32)) ob39_1 (0 : Int32) (fun _ => (0 : Int32)) ob39_2 (1 : Int32) (fun _ => (0 : Int32)) (0 : Int64) T39.heap n0 Z39 Q39_9 Q39_21 Q39_7 Q39_19 Q39_1 Q39_14 Q39_2 Q39_15 Q39_11) hZ (hw _ (mgE 36 rfl)) (hw _ (mgE 4 rfl)) (by decide) (by decide)) q61a q61c (g := (mkF m 146 #[.val (.int p1), .val (.int p2), .val (.int p3), .val (.int p4), .val (.int p5), .val (.int p6), .val (.int la), .val (.int lb), .val (.int lc), .val (.int ld), .val (.int (0 : Int32)), .val (.int (0 : Int32)), .val (.int kys), .val (.int tv1), .val (.int tv2), .val (.int tv3), .val (.ref b9), .val (.ref b11), .val (.ref b15), .val (.ref b21), .val (.ref b29), .unset, .unset, .unset, .unset, .unset, .unset, .unset, .unset, .unset, .unset, .unset, .unset, .unset, .unset] [(.ref b29)])) rfl (by rw [hml]; rfl) (Steps.refl _) (argsL := []) (rest := []) (lenOf pd___J rfl) rfl (by show 2 * 0 + _ ≤ _; exact Nat.le_of_eq rfl) (hb hby at_146) (fun _ _ => ⟨rfl, rfl, (by decide : 14 + 0 ≤ _), (by decide : 6217 + 0 ≤ _)⟩)
      dsimp only [Pt.U, Pt.locs, Pt.cells, Pt.slots] at X61 l61 y61 z61 st61 hQ61
      subst l61 y61 z61
      obtain ⟨rfl, N61q, e61⟩ := hQ61
      have N61 := Fr.app N39 N61q
      have pre63 : ∀ t, Steps p.tables e below (T61.setTop (mkF m 151 #[.val (.int p1), .val (.int p2), .val (.int p3), .val (.int p4), .val (.int p5), .val (.int p6), .val (.int la), .val (.int lb), .val (.int lc), .val (.int ld), .val (.int (0 : Int32)), .val (.int (0 : Int32)), .val (.int kys), .val (.int tv1), .val (.int tv2), .val (.int tv3), .val (.ref b9), .val (.ref b11), .val (.ref b15), .val (.ref b21), .val (.ref b29), .val (.long (cst (1024 : Int32) (1 : Int32) (0 : Int32) (1 : Int32) (0 : Int64))), .second, .unset, .unset, .unset, .unset, .unset, .unset, .unset, .unset, .unset, .unset, .unset, .unset] [])) t → EN t := fun t kt => by
        refine pre8 t ?_
        refine XS.iload X0.here hx rfl (hb hby at_102) rfl ?_
        refine st9 t ?_
        refine XS.astore X9.here hx rfl (hb hby at_106) rfl rfl (l' := #[.val (.int p1), .val (.int p2), .val (.int p3), .val (.int p4), .val (.int p5), .val (.int p6), .val (.int la), .val (.int lb), .val (.int lc), .val (.int ld), .val (.int (0 : Int32)), .val (.int (0 : Int32)), .val (.int kys), .val (.int tv1), .val (.int tv2), .val (.int tv3), .val (.ref b9), .unset, .unset, .unset, .unset, .unset, .unset, .unset, .unset, .unset, .unset, .unset, .unset, .unset, .unset, .unset, .unset, .unset, .unset]) rfl ?_
        refine XS.iload X9.here hx rfl (hb hby at_108) rfl ?_
        refine st11 t ?_
        refine XS.astore X11.here hx rfl (hb hby at_112) rfl rfl (l' := #[.val (.int p1), .val (.int p2), .val (.int p3), .val (.int p4), .val (.int p5), .val (.int p6), .val (.int la), .val (.int lb), .val (.int lc), .val (.int ld), .val (.int (0 : Int32)), .val (.int (0 : Int32)), .val (.int kys), .val (.int tv1), .val (.int tv2), .val (.int tv3), .val (.ref b9), .val (.ref b11), .unset, .unset, .unset, .unset, .unset, .unset, .unset, .unset, .unset, .unset, .unset, .unset, .unset, .unset, .unset, .unset, .unset]) rfl ?_
        refine XS.iload X11.here hx rfl (hb hby at_114) rfl ?_
        refine XS.ifYes X11.here hx rfl (pc0 := 116) (pc' := 123) rfl (hb hby at_116) rfl ((if0 _ _).trans (teq (by decide : (0 : Int32) = (0 : Int32))).1) (by decide) (by decide) ?_
        refine XS.iload X11.here hx rfl (hb hby at_123) rfl ?_
        refine st15 t ?_
        show Steps p.tables e below (T15.setTop (mkF m 127 #[.val (.int p1), .val (.int p2), .val (.int p3), .val (.int p4), .val (.int p5), .val (.int p6), .val (.int la), .val (.int lb), .val (.int lc), .val (.int ld), .val (.int (0 : Int32)), .val (.int (0 : Int32)), .val (.int kys), .val (.int tv1), .val (.int tv2), .val (.int tv3), .val (.ref b9), .val (.ref b11), .unset, .unset, .unset, .unset, .unset, .unset, .unset, .unset, .unset, .unset, .unset, .unset, .unset, .unset, .unset, .unset, .unset] [(.ref b15)])) _
        refine XS.astore X15.here hx rfl (hb hby at_127) rfl rfl (l' := #[.val (.int p1), .val (.int p2), .val (.int p3), .val (.int p4), .val (.int p5), .val (.int p6), .val (.int la), .val (.int lb), .val (.int lc), .val (.int ld), .val (.int (0 : Int32)), .val (.int (0 : Int32)), .val (.int kys), .val (.int tv1), .val (.int tv2), .val (.int tv3), .val (.ref b9), .val (.ref b11), .val (.ref b15), .unset, .unset, .unset, .unset, .unset, .unset, .unset, .unset, .unset, .unset, .unset, .unset, .unset, .unset, .unset, .unset]) rfl ?_
        refine XS.iload X15.here hx rfl (hb hby at_129) rfl ?_
        refine st21 t ?_
        refine XS.astore X21.here hx rfl (hb hby at_133) rfl rfl (l' := #[.val (.int p1), .val (.int p2), .val (.int p3), .val (.int p4), .val (.int p5), .val (.int p6), .val (.int la), .val (.int lb), .val (.int lc), .val (.int ld), .val (.int (0 : Int32)), .val (.int (0 : Int32)), .val (.int kys), .val (.int tv1), .val (.int tv2), .val (.int tv3), .val (.ref b9), .val (.ref b11), .val (.ref b15), .val (.ref b21), .unset, .unset, .unset, .unset, .unset, .unset, .unset, .unset, .unset, .unset, .unset, .unset, .unset, .unset, .unset]) rfl ?_
        refine st29 t ?_
        refine XS.dup X29.here hx rfl (hb hby at_138) rfl rfl ?_
        refine st39.trans ?_
        refine XS.astore X39.here hx rfl (hb hby at_142) rfl rfl (l' := #[.val (.int p1), .val (.int p2), .val (.int p3), .val (.int p4), .val (.int p5), .val (.int p6), .val (.int la), .val (.int lb), .val (.int lc), .val (.int ld), .val (.int (0 : Int32)), .val (.int (0 : Int32)), .val (.int kys), .val (.int tv1), .val (.int tv2), .val (.int tv3), .val (.ref b9), .val (.ref b11), .val (.ref b15), .val (.ref b21), .val (.ref b29), .unset, .unset, .unset, .unset, .unset, .unset, .unset, .unset, .unset, .unset, .unset, .unset, .unset, .unset]) rfl ?_
        refine XS.aload X39.here hx rfl (hb hby at_144) rfl rfl ?_
        refine st61.trans ?_
        show Steps p.tables e below (T61.setTop (mkF m 149 #[.val (.int p1), .val (.int p2), .val (.int p3), .val (.int p4), .val (.int p5), .val (.int p6), .val (.int la), .val (.int lb), .val (.int lc), .val (.int ld), .val (.int (0 : Int32)), .val (.int (0 : Int32)), .val (.int kys), .val (.int tv1), .val (.int tv2), .val (.int tv3), .val (.ref b9), .val (.ref b11), .val (.ref b15), .val (.ref b21), .val (.ref b29), .unset, .unset, .unset, .unset, .unset, .unset, .unset, .unset, .unset, .unset, .unset, .unset, .unset, .unset] [(.long (cst (1024 : Int32) (1 : Int32) (0 : Int32) (1 : Int32) (0 : Int64)))])) _
        refine XS.lstore X61.here hx rfl (hb hby at_149) rfl (l' := #[.val (.int p1), .val (.int p2), .val (.int p3), .val (.int p4), .val (.int p5), .val (.int p6), .val (.int la), .val (.int lb), .val (.int lc), .val (.int ld), .val (.int (0 : Int32)), .val (.int (0 : Int32)), .val (.int kys), .val (.int tv1), .val (.int tv2), .val (.int tv3), .val (.ref b9), .val (.ref b11), .val (.ref b15), .val (.ref b21), .val (.ref b29), .val (.long (cst (1024 : Int32) (1 : Int32) (0 : Int32) (1 : Int32) (0 : Int64))), .second, .unset, .unset, .unset, .unset, .unset, .unset, .unset, .unset, .unset, .unset, .unset, .unset]) rfl ?_
        exact kt
      obtain ⟨fre, h_fre⟩ : ∃ z, z = (cst (1024 : Int32) (1 : Int32) (0 : Int32) (1 : Int32) (0 : Int64)) := ⟨_, rfl⟩
      rw [← h_fre] at pre63
      obtain ⟨cq64, kq64, q64a, q64b, q64c⟩ := isOf hZ e61 Q39_0
      obtain ⟨_, _, ⟨T64, L64, k64, n64⟩, -, X64, ⟨Lc64, hQ64, l64, y64, z64⟩, st64⟩ := X61.virtualBack hx (y := (⟨"com/example/accrete/accrete/engine/Sendings", "sendInPlace", "(I[B[BII)V"⟩ : MethodName)) (z := (⟨"com/example/accrete/accrete/engine/Sendings", "sendInPlace", "(I[B[BII)V"⟩ : MethodName)) hown (mvT hZ (hw _ (mgE 41 rfl))) (mvT hZ (hw _ (mgE 42 rfl))) (notFace_of_selects (args := #[]) (mvT hZ (hw _ (mgE 44 rfl)))) (mvT hZ (hw _ (mgE 44 rfl))) (mvT hZ (hw _ (mgE 43 rfl))) (by decide) (backOf (W := 0) (rm4 l Z a0 hw [] b29 tv1 b9 b11 p6 p5 ob39_8 ob39_5 ob39_4 ob39_3 ob39_9 ob39_7 ob39_6 ob39_1 ob39_2 (0 : Int64) (fun _ => (0 : Int32)) (fun _ => (0 : Int32)) (fun _ => (0 : Int32)) (fun _ => (0 : Int32)) (fun _ => Value.null) (fun _ => Value.null) la (fun _ => (0 : Int32)) lb (fun _ => (0 : Int32)) T39.heap n0 Z39 Q39_5 Q39_9 Q39_6 Q39_4 Q39_3 Q39_10 Q39_8 Q39_7 Q39_1 Q39_2 Q39_11 Q39_21 Q39_18 Q39_17 Q39_16 Q39_22 Q39_20 Q39_13 Q39_12 g_ob39_8 ne_b29_ob39_8 ne_ob39_5_ob39_8 ne_ob39_4_ob39_8 ne_ob39_3_ob39_8 (Ne.symm ne_ob39_8_ob39_9) ne_ob39_7_ob39_8 g_ob39_5 ne_b29_ob39_5 ne_ob39_4_ob39_5 ne_ob39_3_ob39_5 (Ne.symm ne_ob39_5_ob39_9) (Ne.symm ne_ob39_5_ob39_7) g_ob39_7 F40_39 ne_b29_ob39_7 ne_ob39_4_ob39_7 ne_ob39_3_ob39_7 (Ne.symm ne_ob39_7_ob39_9) g_ob39_9 F42_39 ne_b29_ob39_9 ne_ob39_4_ob39_9 ne_ob39_3_ob39_9 g_ob39_4 ne_b29_ob39_4 ne_ob39_3_ob39_4 g_ob39_3 ne_b29_ob39_3 Q39_0 g_b29 F41_39 ne_b9_ob39_8 ne_b9_ob39_5 ne_b9_ob39_7 ne_b9_ob39_9 ne_b9_ob39_4 ne_b9_ob39_3 ne_b9_b29 F43_39 ne_b11_ob39_8 ne_b11_ob39_5 ne_b11_ob39_7 ne_b11_ob39_9 ne_b11_ob39_4 ne_b11_ob39_3 ne_b11_b29) hZ (hw _ (mgE 45 rfl)) (hw _ (mgE 4 rfl)) (by decide) (by decide)) q64a q64c (g := (mkF m 163 #[.val (.int p1), .val (.int p2), .val (.int p3), .val (.int p4), .val (.int p5), .val (.int p6), .val (.int la), .val (.int lb), .val (.int lc), .val (.int ld), .val (.int (0 : Int32)), .val (.int (0 : Int32)), .val (.int kys), .val (.int tv1), .val (.int tv2), .val (.int tv3), .val (.ref b9), .val (.ref b11), .val (.ref b15), .val (.ref b21), .val (.ref b29), .val (.long fre), .second, .unset, .unset, .unset, .unset, .unset, .unset, .unset, .unset, .unset, .unset, .unset, .unset] [(.int p5), (.int p6), (.ref b11), (.ref b9), (.int tv1), (.ref b29)])) rfl (by rw [hml]; rfl) (Steps.refl _) (argsL := [(.int tv1), (.ref b9), (.ref b11), (.int p6), (.int p5)]) (rest := []) (lenOf pd__I_B_BII_V rfl) rfl (by show 2 * 0 + _ ≤ _; exact Nat.le_of_eq rfl) (hb hby at_163) (fun _ _ => ⟨rfl, e61, (by decide : 14 + 0 ≤ _), (by decide : 6217 + 0 ≤ _)⟩)
      dsimp only [Pt.U, Pt.locs, Pt.cells, Pt.slots] at X64 l64 y64 z64 st64 hQ64
      subst l64 y64 z64
      obtain ⟨rfl, N64q, K64, Q64_0, Q64_1, Q64_2, Q64_3, Q64_4, Q64_5, Q64_6, Q64_7, Q64_8, Q64_9, Q64_10, Q64_11, Q64_12, Q64_13, Q64_14, Q64_15, Q64_16, Q64_17, Q64_18, Q64_19⟩ := hQ64
      have F69_64 := F44_39.keep K64
      have F70_64 := F45_39.keep K64 (ninS ne_b15_b29 (ninS ne_b15_ob39_3 (ninS ne_b15_ob39_4 (ninS ne_b15_ob39_9 (ninS ne_b15_ob39_7 (ninS ne_b15_ob39_5 (ninS ne_b15_ob39_8 nin0)))))))
      have F71_64 := F46_39.keep K64
      have F72_64 := F47_39.keep K64 (ninS ne_b21_b29 (ninS ne_b21_ob39_3 (ninS ne_b21_ob39_4 (ninS ne_b21_ob39_9 (ninS ne_b21_ob39_7 (ninS ne_b21_ob39_5 (ninS ne_b21_ob39_8 nin0)))))))
      have F87_64 := Q39_14.keep K64 (ninS (Ne.symm ne_b29_ob39_1) (ninS ne_ob39_1_ob39_3 (ninS ne_ob39_1_ob39_4 (ninS ne_ob39_1_ob39_9 (ninS ne_ob39_1_ob39_7 (ninS ne_ob39_1_ob39_5 (ninS ne_ob39_1_ob39_8 nin0)))))))
      have F88_64 := Q39_15.keep K64 (ninS (Ne.symm ne_b29_ob39_2) (ninS ne_ob39_2_ob39_3 (ninS ne_ob39_2_ob39_4 (ninS ne_ob39_2_ob39_9 (ninS ne_ob39_2_ob39_7 (ninS ne_ob39_2_ob39_5 (ninS ne_ob39_2_ob39_8 nin0)))))))
      have F92_64 := Q39_19.keep K64 (ninS (Ne.symm ne_b29_ob39_6) (ninS (Ne.symm ne_ob39_3_ob39_6) (ninS (Ne.symm ne_ob39_4_ob39_6) (ninS ne_ob39_6_ob39_9 (ninS ne_ob39_6_ob39_7 (ninS (Ne.symm ne_ob39_5_ob39_6) (ninS ne_ob39_6_ob39_8 nin0)))))))
      have Z64 : n0 ≤ T64.heap.size := Nat.le_trans Z39 K64.1
      have N64 := Fr.app N61 N64q
      obtain ⟨cq97, kq97, q97a, q97b, q97c⟩ := isOf hZ rfl Q64_0
      obtain ⟨_, _, ⟨T97, L97, k97, n97⟩, -, X97, ⟨Lc97, hQ97, l97, y97, z97⟩, st97⟩ := X64.virtualBack hx (y := (⟨"com/example/accrete/accrete/engine/Sendings", "putInSlot", "(II[BI)V"⟩ : MethodName)) (z := (⟨"com/example/accrete/accrete/engine/Sendings", "putInSlot", "(II[BI)V"⟩ : MethodName)) hown (mvT hZ (hw _ (mgE 56 rfl))) (mvT hZ (hw _ (mgE 57 rfl))) (notFace_of_selects (args := #[]) (mvT hZ (hw _ (mgE 59 rfl)))) (mvT hZ (hw _ (mgE 59 rfl))) (mvT hZ (hw _ (mgE 58 rfl))) (by decide) (backOf (W := 0) (rm7v l Z a0 hw [] b29 tv2 p5 b15 p6 ob39_8 ob39_5 ob39_4 ob39_3 ob39_9 ob39_7 ob39_6 ob39_1 ob39_2 ((0 : Int64) + ((((16 : Int32) + la).toInt64) + (((16 : Int32) + lb).toInt64))) (own_upd (fun _ => (0 : Int32)) ((0 : Int32)).toNatClampNeg tv1) (own_upd (fun _ => (0 : Int32)) ((0 : Int32)).toNatClampNeg (-3 : Int32)) (own_upd (fun _ => (0 : Int32)) ((0 : Int32)).toNatClampNeg p6) (own_upd (fun _ => (0 : Int32)) ((0 : Int32)).toNatClampNeg p5) (own_upd (fun _ => Value.null) ((0 : Int32)).toNatClampNeg (Value.ref b11)) (own_upd (fun _ => Value.null) ((0 : Int32)).toNatClampNeg (Value.ref b9)) lc (fun _ => (0 : Int32)) T64.heap n0 Z64 Q64_5 Q64_9 Q64_6 Q64_4 Q64_3 Q64_10 Q64_8 Q64_7 Q64_1 Q64_2 Q64_11 Q64_18 Q64_16 Q64_15 Q64_14 Q64_19 Q64_17 Q64_13 Q64_12 g_ob39_8 ne_b29_ob39_8 ne_ob39_5_ob39_8 ne_ob39_4_ob39_8 ne_ob39_3_ob39_8 (Ne.symm ne_ob39_8_ob39_9) ne_ob39_7_ob39_8 g_ob39_5 ne_b29_ob39_5 ne_ob39_4_ob39_5 ne_ob39_3_ob39_5 (Ne.symm ne_ob39_5_ob39_9) (Ne.symm ne_ob39_5_ob39_7) g_ob39_7 ne_b29_ob39_7 ne_ob39_4_ob39_7 ne_ob39_3_ob39_7 (Ne.symm ne_ob39_7_ob39_9) g_ob39_9 F69_64 ne_b29_ob39_9 ne_ob39_4_ob39_9 ne_ob39_3_ob39_9 g_ob39_4 ne_b29_ob39_4 ne_ob39_3_ob39_4 g_ob39_3 ne_b29_ob39_3 Q64_0 g_b29 F70_64 ne_b15_ob39_8 ne_b15_ob39_5 ne_b15_ob39_7 ne_b15_ob39_9 ne_b15_ob39_4 ne_b15_ob39_3 ne_b15_b29) hZ (hw _ (mgE 60 rfl)) (hw _ (mgE 4 rfl)) (by decide) (by decide)) q97a q97c (g := (mkF m 176 #[.val (.int p1), .val (.int p2), .val (.int p3), .val (.int p4), .val (.int p5), .val (.int p6), .val (.int la), .val (.int lb), .val (.int lc), .val (.int ld), .val (.int (0 : Int32)), .val (.int (0 : Int32)), .val (.int kys), .val (.int tv1), .val (.int tv2), .val (.int tv3), .val (.ref b9), .val (.ref b11), .val (.ref b15), .val (.ref b21), .val (.ref b29), .val (.long fre), .second, .unset, .unset, .unset, .unset, .unset, .unset, .unset, .unset, .unset, .unset, .unset, .unset] [(.int p6), (.ref b15), (.int p5), (.int tv2), (.ref b29)])) rfl (by rw [hml]; rfl) (Steps.refl _) (argsL := [(.int tv2), (.int p5), (.ref b15), (.int p6)]) (rest := []) (lenOf pd__II_BI_V rfl) rfl (by show 2 * 0 + _ ≤ _; exact Nat.le_of_eq rfl) (hb hby at_176) (fun _ _ => ⟨rfl, rfl, (by decide : 14 + 0 ≤ _), (by decide : 6217 + 0 ≤ _)⟩)
      dsimp only [Pt.U, Pt.locs, Pt.cells, Pt.slots] at X97 l97 y97 z97 st97 hQ97
      subst l97 y97 z97
      obtain ⟨rfl, N97q, K97, Q97_0, Q97_1, Q97_2, Q97_3, Q97_4, Q97_5, Q97_6, Q97_7, Q97_8, Q97_9, Q97_10, Q97_11, Q97_12, Q97_13, Q97_14, Q97_15, Q97_16, Q97_17, Q97_18, Q97_19⟩ := hQ97
      have F104_97 := F71_64.keep K97
      have F105_97 := F72_64.keep K97 (ninS ne_b21_b29 (ninS ne_b21_ob39_3 (ninS ne_b21_ob39_4 (ninS ne_b21_ob39_9 (ninS ne_b21_ob39_7 (ninS ne_b21_ob39_5 (ninS ne_b21_ob39_8 nin0)))))))
      have F109_97 := F87_64.keep K97 (ninS (Ne.symm ne_b29_ob39_1) (ninS ne_ob39_1_ob39_3 (ninS ne_ob39_1_ob39_4 (ninS ne_ob39_1_ob39_9 (ninS ne_ob39_1_ob39_7 (ninS ne_ob39_1_ob39_5 (ninS ne_ob39_1_ob39_8 nin0)))))))
      have F110_97 := F88_64.keep K97 (ninS (Ne.symm ne_b29_ob39_2) (ninS ne_ob39_2_ob39_3 (ninS ne_ob39_2_ob39_4 (ninS ne_ob39_2_ob39_9 (ninS ne_ob39_2_ob39_7 (ninS ne_ob39_2_ob39_5 (ninS ne_ob39_2_ob39_8 nin0)))))))
      have F111_97 := F92_64.keep K97 (ninS (Ne.symm ne_b29_ob39_6) (ninS (Ne.symm ne_ob39_3_ob39_6) (ninS (Ne.symm ne_ob39_4_ob39_6) (ninS ne_ob39_6_ob39_9 (ninS ne_ob39_6_ob39_7 (ninS (Ne.symm ne_ob39_5_ob39_6) (ninS ne_ob39_6_ob39_8 nin0)))))))
      have Z97 : n0 ≤ T97.heap.size := Nat.le_trans Z64 K97.1
      have N97 := Fr.app N64 N97q
      obtain ⟨cq130, kq130, q130a, q130b, q130c⟩ := isOf hZ rfl Q97_0
      obtain ⟨_, _, ⟨T130, L130, k130, n130⟩, -, X130, ⟨Lc130, hQ130, l130, y130, z130⟩, st130⟩ := X97.virtualBack hx (y := (⟨"com/example/accrete/accrete/engine/Sendings", "takeBack", "(I[BI)V"⟩ : MethodName)) (z := (⟨"com/example/accrete/accrete/engine/Sendings", "takeBack", "(I[BI)V"⟩ : MethodName)) hown (mvT hZ (hw _ (mgE 61 rfl))) (mvT hZ (hw _ (mgE 62 rfl))) (notFace_of_selects (args := #[]) (mvT hZ (hw _ (mgE 64 rfl)))) (mvT hZ (hw _ (mgE 64 rfl))) (mvT hZ (hw _ (mgE 63 rfl))) (by decide) (backOf (W := 0) (rm8 l Z a0 hw [] b29 tv3 b21 p6 ob39_8 ob39_5 ob39_4 ob39_3 ob39_9 ob39_7 ob39_6 ob39_1 ob39_2 (((0 : Int64) + ((((16 : Int32) + la).toInt64) + (((16 : Int32) + lb).toInt64))) + ((0 : Int64) + (((16 : Int32) + lc).toInt64))) (own_upd (own_upd (fun _ => (0 : Int32)) ((0 : Int32)).toNatClampNeg tv1) ((1 : Int32)).toNatClampNeg tv2) (own_upd (own_upd (fun _ => (0 : Int32)) ((0 : Int32)).toNatClampNeg (-3 : Int32)) ((1 : Int32)).toNatClampNeg p5) (own_upd (own_upd (fun _ => (0 : Int32)) ((0 : Int32)).toNatClampNeg p6) ((1 : Int32)).toNatClampNeg p6) (own_upd (own_upd (fun _ => (0 : Int32)) ((0 : Int32)).toNatClampNeg p5) ((1 : Int32)).toNatClampNeg (-1 : Int32)) (own_upd (own_upd (fun _ => Value.null) ((0 : Int32)).toNatClampNeg (Value.ref b11)) ((1 : Int32)).toNatClampNeg (Value.ref b15)) (own_upd (own_upd (fun _ => Value.null) ((0 : Int32)).toNatClampNeg (Value.ref b9)) ((1 : Int32)).toNatClampNeg Value.null) ld (fun _ => (0 : Int32)) T97.heap n0 Z97 Q97_5 Q97_9 Q97_6 Q97_4 Q97_3 Q97_10 Q97_8 Q97_7 Q97_1 Q97_2 Q97_11 Q97_18 Q97_16 Q97_15 Q97_14 Q97_19 Q97_17 Q97_13 Q97_12 g_ob39_8 ne_b29_ob39_8 ne_ob39_5_ob39_8 ne_ob39_4_ob39_8 ne_ob39_3_ob39_8 (Ne.symm ne_ob39_8_ob39_9) ne_ob39_7_ob39_8 g_ob39_5 ne_b29_ob39_5 ne_ob39_4_ob39_5 ne_ob39_3_ob39_5 (Ne.symm ne_ob39_5_ob39_9) (Ne.symm ne_ob39_5_ob39_7) g_ob39_7 ne_b29_ob39_7 ne_ob39_4_ob39_7 ne_ob39_3_ob39_7 (Ne.symm ne_ob39_7_ob39_9) g_ob39_9 F104_97 ne_b29_ob39_9 ne_ob39_4_ob39_9 ne_ob39_3_ob39_9 g_ob39_4 ne_b29_ob39_4 ne_ob39_3_ob39_4 g_ob39_3 ne_b29_ob39_3 Q97_0 g_b29 F105_97 ne_b21_ob39_8 ne_b21_ob39_5 ne_b21_ob39_7 ne_b21_ob39_9 ne_b21_ob39_4 ne_b21_ob39_3 ne_b21_b29) hZ (hw _ (mgE 65 rfl)) (hw _ (mgE 4 rfl)) (by decide) (by decide)) q130a q130c (g := (mkF m 208 #[.val (.int p1), .val (.int p2), .val (.int p3), .val (.int p4), .val (.int p5), .val (.int p6), .val (.int la), .val (.int lb), .val (.int lc), .val (.int ld), .val (.int (0 : Int32)), .val (.int (0 : Int32)), .val (.int kys), .val (.int tv1), .val (.int tv2), .val (.int tv3), .val (.ref b9), .val (.ref b11), .val (.ref b15), .val (.ref b21), .val (.ref b29), .val (.long fre), .second, .unset, .unset, .unset, .unset, .unset, .unset, .unset, .unset, .unset, .unset, .unset, .unset] [(.int p6), (.ref b21), (.int tv3), (.ref b29)])) rfl (by rw [hml]; rfl) (Steps.refl _) (argsL := [(.int tv3), (.ref b21), (.int p6)]) (rest := []) (lenOf pd__I_BI_V rfl) rfl (by show 2 * 0 + _ ≤ _; exact Nat.le_of_eq rfl) (hb hby at_208) (fun _ _ => ⟨rfl, rfl, (by decide : 14 + 0 ≤ _), (by decide : 6217 + 0 ≤ _)⟩)
      dsimp only [Pt.U, Pt.locs, Pt.cells, Pt.slots] at X130 l130 y130 z130 st130 hQ130
      subst l130 y130 z130
      obtain ⟨rfl, N130q, K130, Q130_0, Q130_1, Q130_2, Q130_3, Q130_4, Q130_5, Q130_6, Q130_7, Q130_8, Q130_9, Q130_10, Q130_11, Q130_12, Q130_13, Q130_14, Q130_15, Q130_16, Q130_17, Q130_18, Q130_19⟩ := hQ130
      have F142_130 := F109_97.keep K130 (ninS (Ne.symm ne_b29_ob39_1) (ninS ne_ob39_1_ob39_3 (ninS ne_ob39_1_ob39_4 (ninS ne_ob39_1_ob39_9 (ninS ne_ob39_1_ob39_7 (ninS ne_ob39_1_ob39_5 (ninS ne_ob39_1_ob39_8 nin0)))))))
      have F143_130 := F110_97.keep K130 (ninS (Ne.symm ne_b29_ob39_2) (ninS ne_ob39_2_ob39_3 (ninS ne_ob39_2_ob39_4 (ninS ne_ob39_2_ob39_9 (ninS ne_ob39_2_ob39_7 (ninS ne_ob39_2_ob39_5 (ninS ne_ob39_2_ob39_8 nin0)))))))
      have F144_130 := F111_97.keep K130 (ninS (Ne.symm ne_b29_ob39_6) (ninS (Ne.symm ne_ob39_3_ob39_6) (ninS (Ne.symm ne_ob39_4_ob39_6) (ninS ne_ob39_6_ob39_9 (ninS ne_ob39_6_ob39_7 (ninS (Ne.symm ne_ob39_5_ob39_6) (ninS ne_ob39_6_ob39_8 nin0)))))))
      have Z130 : n0 ≤ T130.heap.size := Nat.le_trans Z97 K130.1
      have N130 := Fr.app N97 N130q
      obtain ⟨cq163, kq163, q163a, q163b, q163c⟩ := isOf hZ rfl Q130_0
      obtain ⟨_, _, ⟨T163, L163, k163, n163⟩, -, X163, ⟨Lc163, hQ163, l163, y163, z163⟩, st163⟩ := X130.virtualBack hx (y := (⟨"com/example/accrete/accrete/engine/Sendings", "cost", "()J"⟩ : MethodName)) (z := (⟨"com/example/accrete/accrete/engine/Sendings", "cost", "()J"⟩ : MethodName)) hown (mvT hZ (hw _ (mgE 32 rfl))) (mvT hZ (hw _ (mgE 33 rfl))) (notFace_of_selects (args := #[]) (mvT hZ (hw _ (mgE 35 rfl)))) (mvT hZ (hw _ (mgE 35 rfl))) (mvT hZ (hw _ (mgE 34 rfl))) (by decide) (backOf (W := 0) (rm3 l Z a0 hw [] b29 ob39_8 (1024 : Int32) (own_upd (own_upd (own_upd (fun _ => (0 : Int32)) ((0 : Int32)).toNatClampNeg tv1) ((1 : Int32)).toNatClampNeg tv2) ((2 : Int32)).toNatClampNeg tv3) ob39_6 (1 : Int32) (fun _ => (0 : Int32)) ob39_1 (0 : Int32) (fun _ => (0 : Int32)) ob39_2 (1 : Int32) (fun _ => (0 : Int32)) ((((0 : Int64) + ((((16 : Int32) + la).toInt64) + (((16 : Int32) + lb).toInt64))) + ((0 : Int64) + (((16 : Int32) + lc).toInt64))) + ((0 : Int64) + (((16 : Int32) + ld).toInt64))) T130.heap n0 Z130 Q130_9 Q130_18 Q130_7 F144_130 Q130_1 F142_130 Q130_2 F143_130 Q130_11) hZ (hw _ (mgE 36 rfl)) (hw _ (mgE 4 rfl)) (by decide) (by decide)) q163a q163c (g := (mkF m 213 #[.val (.int p1), .val (.int p2), .val (.int p3), .val (.int p4), .val (.int p5), .val (.int p6), .val (.int la), .val (.int lb), .val (.int lc), .val (.int ld), .val (.int (0 : Int32)), .val (.int (0 : Int32)), .val (.int kys), .val (.int tv1), .val (.int tv2), .val (.int tv3), .val (.ref b9), .val (.ref b11), .val (.ref b15), .val (.ref b21), .val (.ref b29), .val (.long fre), .second, .unset, .unset, .unset, .unset, .unset, .unset, .unset, .unset, .unset, .unset, .unset, .unset] [(.ref b29)])) rfl (by rw [hml]; rfl) (Steps.refl _) (argsL := []) (rest := []) (lenOf pd___J rfl) rfl (by show 2 * 0 + _ ≤ _; exact Nat.le_of_eq rfl) (hb hby at_213) (fun _ _ => ⟨rfl, rfl, (by decide : 14 + 0 ≤ _), (by decide : 6217 + 0 ≤ _)⟩)
      dsimp only [Pt.U, Pt.locs, Pt.cells, Pt.slots] at X163 l163 y163 z163 st163 hQ163
      subst l163 y163 z163
      obtain ⟨rfl, N163q, e163⟩ := hQ163
      have N163 := Fr.app N130 N163q
      have pre165 : ∀ t, Steps p.tables e below (T163.setTop (mkF m 218 #[.val (.int p1), .val (.int p2), .val (.int p3), .val (.int p4), .val (.int p5), .val (.int p6), .val (.int la), .val (.int lb), .val (.int lc), .val (.int ld), .val (.int (0 : Int32)), .val (.int (0 : Int32)), .val (.int kys), .val (.int tv1), .val (.int tv2), .val (.int tv3), .val (.ref b9), .val (.ref b11), .val (.ref b15), .val (.ref b21), .val (.ref b29), .val (.long fre), .second, .val (.long (cst (1024 : Int32) (1 : Int32) (0 : Int32) (1 : Int32) ((((0 : Int64) + ((((16 : Int32) + la).toInt64) + (((16 : Int32) + lb).toInt64))) + ((0 : Int64) + (((16 : Int32) + lc).toInt64))) + ((0 : Int64) + (((16 : Int32) + ld).toInt64))))), .second, .unset, .unset, .unset, .unset, .unset, .unset, .unset, .unset, .unset, .unset] [])) t → EN t := fun t kt => by
        refine pre63 t ?_
        refine XS.aload X61.here hx rfl (hb hby at_151) rfl rfl ?_
        refine XS.iload X61.here hx rfl (hb hby at_153) rfl ?_
        refine XS.aload X61.here hx rfl (hb hby at_155) rfl rfl ?_
        refine XS.aload X61.here hx rfl (hb hby at_157) rfl rfl ?_
        refine XS.iload X61.here hx rfl (hb hby at_159) rfl ?_
        refine XS.iload X61.here hx rfl (hb hby at_161) rfl ?_
        refine st64.trans ?_
        refine XS.aload X64.here hx rfl (hb hby at_166) rfl rfl ?_
        refine XS.iload X64.here hx rfl (hb hby at_168) rfl ?_
        refine XS.iload X64.here hx rfl (hb hby at_170) rfl ?_
        show Steps p.tables e below (T64.setTop (mkF m 172 #[.val (.int p1), .val (.int p2), .val (.int p3), .val (.int p4), .val (.int p5), .val (.int p6), .val (.int la), .val (.int lb), .val (.int lc), .val (.int ld), .val (.int (0 : Int32)), .val (.int (0 : Int32)), .val (.int kys), .val (.int tv1), .val (.int tv2), .val (.int tv3), .val (.ref b9), .val (.ref b11), .val (.ref b15), .val (.ref b21), .val (.ref b29), .val (.long fre), .second, .unset, .unset, .unset, .unset, .unset, .unset, .unset, .unset, .unset, .unset, .unset, .unset] [(.int p5), (.int tv2), (.ref b29)])) _
        refine XS.aload X64.here hx rfl (hb hby at_172) rfl rfl ?_
        refine XS.iload X64.here hx rfl (hb hby at_174) rfl ?_
        refine st97.trans ?_
        refine XS.iload X97.here hx rfl (hb hby at_179) rfl ?_
        refine XS.ifYes X97.here hx rfl (pc0 := 181) (pc' := 200) rfl (hb hby at_181) rfl ((if0 _ _).trans (teq (by decide : (0 : Int32) = (0 : Int32))).1) (by decide) (by decide) ?_
        refine XS.aload X97.here hx rfl (hb hby at_200) rfl rfl ?_
        refine XS.iload X97.here hx rfl (hb hby at_202) rfl ?_
        refine XS.aload X97.here hx rfl (hb hby at_204) rfl rfl ?_
        refine XS.iload X97.here hx rfl (hb hby at_206) rfl ?_
        refine st130.trans ?_
        show Steps p.tables e below (T130.setTop (mkF m 211 #[.val (.int p1), .val (.int p2), .val (.int p3), .val (.int p4), .val (.int p5), .val (.int p6), .val (.int la), .val (.int lb), .val (.int lc), .val (.int ld), .val (.int (0 : Int32)), .val (.int (0 : Int32)), .val (.int kys), .val (.int tv1), .val (.int tv2), .val (.int tv3), .val (.ref b9), .val (.ref b11), .val (.ref b15), .val (.ref b21), .val (.ref b29), .val (.long fre), .second, .unset, .unset, .unset, .unset, .unset, .unset, .unset, .unset, .unset, .unset, .unset, .unset] [])) _
        refine XS.aload X130.here hx rfl (hb hby at_211) rfl rfl ?_
        refine st163.trans ?_
        refine XS.lstore X163.here hx rfl (hb hby at_216) rfl (l' := #[.val (.int p1), .val (.int p2), .val (.int p3), .val (.int p4), .val (.int p5), .val (.int p6), .val (.int la), .val (.int lb), .val (.int lc), .val (.int ld), .val (.int (0 : Int32)), .val (.int (0 : Int32)), .val (.int kys), .val (.int tv1), .val (.int tv2), .val (.int tv3), .val (.ref b9), .val (.ref b11), .val (.ref b15), .val (.ref b21), .val (.ref b29), .val (.long fre), .second, .val (.long (cst (1024 : Int32) (1 : Int32) (0 : Int32) (1 : Int32) ((((0 : Int64) + ((((16 : Int32) + la).toInt64) + (((16 : Int32) + lb).toInt64))) + ((0 : Int64) + (((16 : Int32) + lc).toInt64))) + ((0 : Int64) + (((16 : Int32) + ld).toInt64))))), .second, .unset, .unset, .unset, .unset, .unset, .unset, .unset, .unset, .unset, .unset]) rfl ?_
        exact kt
      obtain ⟨fil1, h_fil1⟩ : ∃ z, z = (cst (1024 : Int32) (1 : Int32) (0 : Int32) (1 : Int32) ((((0 : Int64) + ((((16 : Int32) + la).toInt64) + (((16 : Int32) + lb).toInt64))) + ((0 : Int64) + (((16 : Int32) + lc).toInt64))) + ((0 : Int64) + (((16 : Int32) + ld).toInt64)))) := ⟨_, rfl⟩
      rw [← h_fil1] at pre165
      obtain ⟨cq166, kq166, q166a, q166b, q166c⟩ := isOf hZ e163 Q130_0
      obtain ⟨_, _, ⟨T166, L166, k166, n166⟩, -, X166, ⟨Lc166, hQ166, l166, y166, z166⟩, st166⟩ := X163.virtualBack hx (y := (⟨"com/example/accrete/accrete/engine/Sendings", "groupByKey", "(I)V"⟩ : MethodName)) (z := (⟨"com/example/accrete/accrete/engine/Sendings", "groupByKey", "(I)V"⟩ : MethodName)) hown (mvT hZ (hw _ (mgE 66 rfl))) (mvT hZ (hw _ (mgE 67 rfl))) (notFace_of_selects (args := #[]) (mvT hZ (hw _ (mgE 69 rfl)))) (mvT hZ (hw _ (mgE 69 rfl))) (mvT hZ (hw _ (mgE 68 rfl))) (by decide) (backOf (W := 0) (rm9 l Z a0 hw [] b29 kys ob39_8 ob39_5 ob39_4 ob39_3 ob39_9 ob39_7 ob39_6 ob39_1 ob39_2 ((((0 : Int64) + ((((16 : Int32) + la).toInt64) + (((16 : Int32) + lb).toInt64))) + ((0 : Int64) + (((16 : Int32) + lc).toInt64))) + ((0 : Int64) + (((16 : Int32) + ld).toInt64))) (fun _ => (0 : Int32)) (fun _ => (0 : Int32)) (fun _ => (0 : Int32)) tv1 tv2 tv3 T130.heap n0 Z130 Q130_5 Q130_9 Q130_6 Q130_4 Q130_3 Q130_10 Q130_8 Q130_7 Q130_1 Q130_2 Q130_11 Q130_18 F144_130 F142_130 F143_130 Q130_0 g_b29 (Ne.symm ne_b29_ob39_8) (Ne.symm ne_b29_ob39_6) (Ne.symm ne_b29_ob39_1) (Ne.symm ne_b29_ob39_2) (hkys) (ht1) (ht2) (ht3)) hZ (hw _ (mgE 70 rfl)) (hw _ (mgE 4 rfl)) (by decide) (by decide)) q166a q166c (g := (mkF m 222 #[.val (.int p1), .val (.int p2), .val (.int p3), .val (.int p4), .val (.int p5), .val (.int p6), .val (.int la), .val (.int lb), .val (.int lc), .val (.int ld), .val (.int (0 : Int32)), .val (.int (0 : Int32)), .val (.int kys), .val (.int tv1), .val (.int tv2), .val (.int tv3), .val (.ref b9), .val (.ref b11), .val (.ref b15), .val (.ref b21), .val (.ref b29), .val (.long fre), .second, .val (.long fil1), .second, .unset, .unset, .unset, .unset, .unset, .unset, .unset, .unset, .unset, .unset] [(.int kys), (.ref b29)])) rfl (by rw [hml]; rfl) (Steps.refl _) (argsL := [(.int kys)]) (rest := []) (lenOf pd__I_V rfl) rfl (by show 2 * 0 + _ ≤ _; exact Nat.le_of_eq rfl) (hb hby at_222) (fun _ _ => ⟨rfl, e163, (by decide : 14 + 3 ≤ _), (by decide : 6217 + 21 ≤ _)⟩)
      dsimp only [Pt.U, Pt.locs, Pt.cells, Pt.slots] at X166 l166 y166 z166 st166 hQ166
      subst l166 y166 z166
      obtain ⟨ob166_1, ob166_2, ob166_3, rfl, N166q, K166, ozob166_1, ozob166_2, ozob166_3, ne_ob166_1_ob166_2, ne_ob166_1_ob166_3, ne_ob166_2_ob166_3, Q166_0, Q166_1, Q166_2, Q166_3, Q166_4, Q166_5, Q166_6, Q166_7, Q166_8, Q166_9, Q166_10, Q166_11, Q166_12, Q166_13, Q166_14⟩ := hQ166
      have ne_b29_ob166_1 : b29 ≠ ob166_1 := Nat.ne_of_lt (Nat.lt_of_lt_of_le Q130_0.lt ozob166_1)
      have ne_ob39_7_ob166_1 : ob39_7 ≠ ob166_1 := Nat.ne_of_lt (Nat.lt_of_lt_of_le Q130_17.lt ozob166_1)
      have ne_ob39_9_ob166_1 : ob39_9 ≠ ob166_1 := Nat.ne_of_lt (Nat.lt_of_lt_of_le Q130_19.lt ozob166_1)
      have ne_b29_ob166_2 : b29 ≠ ob166_2 := Nat.ne_of_lt (Nat.lt_of_lt_of_le Q130_0.lt ozob166_2)
      have ne_ob39_7_ob166_2 : ob39_7 ≠ ob166_2 := Nat.ne_of_lt (Nat.lt_of_lt_of_le Q130_17.lt ozob166_2)
      have ne_ob39_9_ob166_2 : ob39_9 ≠ ob166_2 := Nat.ne_of_lt (Nat.lt_of_lt_of_le Q130_19.lt ozob166_2)
      have ne_b29_ob166_3 : b29 ≠ ob166_3 := Nat.ne_of_lt (Nat.lt_of_lt_of_le Q130_0.lt ozob166_3)
      have ne_ob39_7_ob166_3 : ob39_7 ≠ ob166_3 := Nat.ne_of_lt (Nat.lt_of_lt_of_le Q130_17.lt ozob166_3)
      have ne_ob39_9_ob166_3 : ob39_9 ≠ ob166_3 := Nat.ne_of_lt (Nat.lt_of_lt_of_le Q130_19.lt ozob166_3)
      have F195_166 := Q130_17.keep K166 (ninS (Ne.symm ne_b29_ob39_7) nin0)
      have F196_166 := Q130_18.keep K166 (ninS (Ne.symm ne_b29_ob39_8) nin0)
      have F197_166 := Q130_19.keep K166 (ninS (Ne.symm ne_b29_ob39_9) nin0)
      have Z166 : n0 ≤ T166.heap.size := Nat.le_trans Z130 K166.1
      have N166 := Fr.app N163 N166q
      obtain ⟨cq199, kq199, q199a, q199b, q199c⟩ := isOf hZ rfl Q166_0
      obtain ⟨_, _, ⟨T199, L199, k199, n199⟩, -, X199, ⟨Lc199, hQ199, l199, y199, z199⟩, st199⟩ := X166.virtualBack hx (y := (⟨"com/example/accrete/accrete/engine/Sendings", "cost", "()J"⟩ : MethodName)) (z := (⟨"com/example/accrete/accrete/engine/Sendings", "cost", "()J"⟩ : MethodName)) hown (mvT hZ (hw _ (mgE 32 rfl))) (mvT hZ (hw _ (mgE 33 rfl))) (notFace_of_selects (args := #[]) (mvT hZ (hw _ (mgE 35 rfl)))) (mvT hZ (hw _ (mgE 35 rfl))) (mvT hZ (hw _ (mgE 34 rfl))) (by decide) (backOf (W := 0) (rm3 l Z a0 hw [] b29 ob39_8 (1024 : Int32) (own_upd (own_upd (own_upd (fun _ => (0 : Int32)) ((0 : Int32)).toNatClampNeg tv1) ((1 : Int32)).toNatClampNeg tv2) ((2 : Int32)).toNatClampNeg tv3) ob166_3 (kys + (1 : Int32)) (prefS tv1 tv2 tv3 kys) ob166_1 (3 : Int32) (own_upd (own_upd (own_upd (fun _ => (0 : Int32)) (((nxtS tv1 tv2 tv3 kys) (tv1).toNatClampNeg)).toNatClampNeg (0 : Int32)) (((own_upd (nxtS tv1 tv2 tv3 kys) (tv1).toNatClampNeg (((nxtS tv1 tv2 tv3 kys) (tv1).toNatClampNeg) + (1 : Int32))) (tv2).toNatClampNeg)).toNatClampNeg (1 : Int32)) (((own_upd (own_upd (nxtS tv1 tv2 tv3 kys) (tv1).toNatClampNeg (((nxtS tv1 tv2 tv3 kys) (tv1).toNatClampNeg) + (1 : Int32))) (tv2).toNatClampNeg (((own_upd (nxtS tv1 tv2 tv3 kys) (tv1).toNatClampNeg (((nxtS tv1 tv2 tv3 kys) (tv1).toNatClampNeg) + (1 : Int32))) (tv2).toNatClampNeg) + (1 : Int32))) (tv3).toNatClampNeg)).toNatClampNeg (2 : Int32)) ob166_2 (kys + (1 : Int32)) (own_upd (own_upd (own_upd (nxtS tv1 tv2 tv3 kys) (tv1).toNatClampNeg (((nxtS tv1 tv2 tv3 kys) (tv1).toNatClampNeg) + (1 : Int32))) (tv2).toNatClampNeg (((own_upd (nxtS tv1 tv2 tv3 kys) (tv1).toNatClampNeg (((nxtS tv1 tv2 tv3 kys) (tv1).toNatClampNeg) + (1 : Int32))) (tv2).toNatClampNeg) + (1 : Int32))) (tv3).toNatClampNeg (((own_upd (own_upd (nxtS tv1 tv2 tv3 kys) (tv1).toNatClampNeg (((nxtS tv1 tv2 tv3 kys) (tv1).toNatClampNeg) + (1 : Int32))) (tv2).toNatClampNeg (((own_upd (nxtS tv1 tv2 tv3 kys) (tv1).toNatClampNeg (((nxtS tv1 tv2 tv3 kys) (tv1).toNatClampNeg) + (1 : Int32))) (tv2).toNatClampNeg) + (1 : Int32))) (tv3).toNatClampNeg) + (1 : Int32))) ((((0 : Int64) + ((((16 : Int32) + la).toInt64) + (((16 : Int32) + lb).toInt64))) + ((0 : Int64) + (((16 : Int32) + lc).toInt64))) + ((0 : Int64) + (((16 : Int32) + ld).toInt64))) T166.heap n0 Z166 Q166_9 F196_166 Q166_7 Q166_14 Q166_1 Q166_12 Q166_2 Q166_13 Q166_11) hZ (hw _ (mgE 36 rfl)) (hw _ (mgE 4 rfl)) (by decide) (by decide)) q199a q199c (g := (mkF m 227 #[.val (.int p1), .val (.int p2), .val (.int p3), .val (.int p4), .val (.int p5), .val (.int p6), .val (.int la), .val (.int lb), .val (.int lc), .val (.int ld), .val (.int (0 : Int32)), .val (.int (0 : Int32)), .val (.int kys), .val (.int tv1), .val (.int tv2), .val (.int tv3), .val (.ref b9), .val (.ref b11), .val (.ref b15), .val (.ref b21), .val (.ref b29), .val (.long fre), .second, .val (.long fil1), .second, .unset, .unset, .unset, .unset, .unset, .unset, .unset, .unset, .unset, .unset] [(.ref b29)])) rfl (by rw [hml]; rfl) (Steps.refl _) (argsL := []) (rest := []) (lenOf pd___J rfl) rfl (by show 2 * 0 + _ ≤ _; exact Nat.le_of_eq rfl) (hb hby at_227) (fun _ _ => ⟨rfl, rfl, (by decide : 17 + 0 ≤ _), (by decide : 6238 + 0 ≤ _)⟩)
      dsimp only [Pt.U, Pt.locs, Pt.cells, Pt.slots] at X199 l199 y199 z199 st199 hQ199
      subst l199 y199 z199
      obtain ⟨rfl, N199q, e199⟩ := hQ199
      have N199 := Fr.app N166 N199q
      have pre201 : ∀ t, Steps p.tables e below (T199.setTop (mkF m 232 #[.val (.int p1), .val (.int p2), .val (.int p3), .val (.int p4), .val (.int p5), .val (.int p6), .val (.int la), .val (.int lb), .val (.int lc), .val (.int ld), .val (.int (0 : Int32)), .val (.int (0 : Int32)), .val (.int kys), .val (.int tv1), .val (.int tv2), .val (.int tv3), .val (.ref b9), .val (.ref b11), .val (.ref b15), .val (.ref b21), .val (.ref b29), .val (.long fre), .second, .val (.long fil1), .second, .val (.long (cst (1024 : Int32) (kys + (1 : Int32)) (3 : Int32) (kys + (1 : Int32)) ((((0 : Int64) + ((((16 : Int32) + la).toInt64) + (((16 : Int32) + lb).toInt64))) + ((0 : Int64) + (((16 : Int32) + lc).toInt64))) + ((0 : Int64) + (((16 : Int32) + ld).toInt64))))), .second, .unset, .unset, .unset, .unset, .unset, .unset, .unset, .unset] [])) t → EN t := fun t kt => by
        refine pre165 t ?_
        refine XS.aload X163.here hx rfl (hb hby at_218) rfl rfl ?_
        refine XS.iload X163.here hx rfl (hb hby at_220) rfl ?_
        refine st166.trans ?_
        refine XS.aload X166.here hx rfl (hb hby at_225) rfl rfl ?_
        refine st199.trans ?_
        refine XS.lstore X199.here hx rfl (hb hby at_230) rfl (l' := #[.val (.int p1), .val (.int p2), .val (.int p3), .val (.int p4), .val (.int p5), .val (.int p6), .val (.int la), .val (.int lb), .val (.int lc), .val (.int ld), .val (.int (0 : Int32)), .val (.int (0 : Int32)), .val (.int kys), .val (.int tv1), .val (.int tv2), .val (.int tv3), .val (.ref b9), .val (.ref b11), .val (.ref b15), .val (.ref b21), .val (.ref b29), .val (.long fre), .second, .val (.long fil1), .second, .val (.long (cst (1024 : Int32) (kys + (1 : Int32)) (3 : Int32) (kys + (1 : Int32)) ((((0 : Int64) + ((((16 : Int32) + la).toInt64) + (((16 : Int32) + lb).toInt64))) + ((0 : Int64) + (((16 : Int32) + lc).toInt64))) + ((0 : Int64) + (((16 : Int32) + ld).toInt64))))), .second, .unset, .unset, .unset, .unset, .unset, .unset, .unset, .unset]) rfl ?_
        exact kt
      obtain ⟨gro, h_gro⟩ : ∃ z, z = (cst (1024 : Int32) (kys + (1 : Int32)) (3 : Int32) (kys + (1 : Int32)) ((((0 : Int64) + ((((16 : Int32) + la).toInt64) + (((16 : Int32) + lb).toInt64))) + ((0 : Int64) + (((16 : Int32) + lc).toInt64))) + ((0 : Int64) + (((16 : Int32) + ld).toInt64)))) := ⟨_, rfl⟩
      rw [← h_gro] at pre201
      obtain ⟨cq202, kq202, q202a, q202b, q202c⟩ := isOf hZ e199 Q166_0
      obtain ⟨_, _, ⟨T202, L202, k202, n202⟩, -, X202, ⟨Lc202, hQ202, l202, y202, z202⟩, st202⟩ := X199.virtualBack hx (y := (⟨"com/example/accrete/accrete/engine/Sendings", "clear", "()V"⟩ : MethodName)) (z := (⟨"com/example/accrete/accrete/engine/Sendings", "clear", "()V"⟩ : MethodName)) hown (mvT hZ (hw _ (mgE 95 rfl))) (mvT hZ (hw _ (mgE 96 rfl))) (notFace_of_selects (args := #[]) (mvT hZ (hw _ (mgE 98 rfl)))) (mvT hZ (hw _ (mgE 98 rfl))) (mvT hZ (hw _ (mgE 97 rfl))) (by decide) (backOf (W := 0) (rm15 l Z a0 hw [] b29 ob39_8 ob39_5 ob39_4 ob39_3 ob39_9 ob39_7 ob166_3 ob166_1 ob166_2 (own_upd (own_upd (own_upd (fun _ => Value.null) ((0 : Int32)).toNatClampNeg (Value.ref b11)) ((1 : Int32)).toNatClampNeg (Value.ref b15)) ((2 : Int32)).toNatClampNeg (Value.ref b21)) (own_upd (own_upd (own_upd (fun _ => Value.null) ((0 : Int32)).toNatClampNeg (Value.ref b9)) ((1 : Int32)).toNatClampNeg Value.null) ((2 : Int32)).toNatClampNeg Value.null) (.long ((((0 : Int64) + ((((16 : Int32) + la).toInt64) + (((16 : Int32) + lb).toInt64))) + ((0 : Int64) + (((16 : Int32) + lc).toInt64))) + ((0 : Int64) + (((16 : Int32) + ld).toInt64)))) T166.heap n0 Z166 Q166_5 Q166_9 Q166_6 Q166_4 Q166_3 Q166_10 Q166_8 Q166_7 Q166_1 Q166_2 F197_166 g_ob39_9 ne_b29_ob39_9 F195_166 ne_ob39_7_ob39_9 g_ob39_7 ne_b29_ob39_7 Q166_0 g_b29 Q166_11) hZ (hw _ (mgE 99 rfl)) (hw _ (mgE 4 rfl)) (by decide) (by decide)) q202a q202c (g := (mkF m 234 #[.val (.int p1), .val (.int p2), .val (.int p3), .val (.int p4), .val (.int p5), .val (.int p6), .val (.int la), .val (.int lb), .val (.int lc), .val (.int ld), .val (.int (0 : Int32)), .val (.int (0 : Int32)), .val (.int kys), .val (.int tv1), .val (.int tv2), .val (.int tv3), .val (.ref b9), .val (.ref b11), .val (.ref b15), .val (.ref b21), .val (.ref b29), .val (.long fre), .second, .val (.long fil1), .second, .val (.long gro), .second, .unset, .unset, .unset, .unset, .unset, .unset, .unset, .unset] [(.ref b29)])) rfl (by rw [hml]; rfl) (Steps.refl _) (argsL := []) (rest := []) (lenOf pd___V rfl) rfl (by show 2 * 0 + _ ≤ _; exact Nat.le_of_eq rfl) (hb hby at_234) (fun _ _ => ⟨rfl, e199, (by decide : 17 + 0 ≤ _), (by decide : 6238 + 0 ≤ _)⟩)
      dsimp only [Pt.U, Pt.locs, Pt.cells, Pt.slots] at X202 l202 y202 z202 st202 hQ202
      subst l202 y202 z202
      obtain ⟨rfl, N202q, K202, Q202_0, Q202_1, Q202_2, Q202_3, Q202_4, Q202_5, Q202_6, Q202_7, Q202_8, Q202_9, Q202_10, Q202_11, Q202_12, Q202_13⟩ := hQ202
      have F221_202 := F196_166.keep K202 (ninS ne_ob39_8_ob39_9 (ninS (Ne.symm ne_ob39_7_ob39_8) (ninS (Ne.symm ne_b29_ob39_8) nin0)))
      have F234_202 := Q166_12.keep K202 (ninS (Ne.symm ne_ob39_9_ob166_1) (ninS (Ne.symm ne_ob39_7_ob166_1) (ninS (Ne.symm ne_b29_ob166_1) nin0)))
      have F235_202 := Q166_13.keep K202 (ninS (Ne.symm ne_ob39_9_ob166_2) (ninS (Ne.symm ne_ob39_7_ob166_2) (ninS (Ne.symm ne_b29_ob166_2) nin0)))
      have F236_202 := Q166_14.keep K202 (ninS (Ne.symm ne_ob39_9_ob166_3) (ninS (Ne.symm ne_ob39_7_ob166_3) (ninS (Ne.symm ne_b29_ob166_3) nin0)))
      have Z202 : n0 ≤ T202.heap.size := Nat.le_trans Z166 K202.1
      have N202 := Fr.app N199 N202q
      obtain ⟨cq238, kq238, q238a, q238b, q238c⟩ := isOf hZ rfl Q202_0
      obtain ⟨_, _, ⟨T238, L238, k238, n238⟩, -, X238, ⟨Lc238, hQ238, l238, y238, z238⟩, st238⟩ := X202.virtualBack hx (y := (⟨"com/example/accrete/accrete/engine/Sendings", "cost", "()J"⟩ : MethodName)) (z := (⟨"com/example/accrete/accrete/engine/Sendings", "cost", "()J"⟩ : MethodName)) hown (mvT hZ (hw _ (mgE 32 rfl))) (mvT hZ (hw _ (mgE 33 rfl))) (notFace_of_selects (args := #[]) (mvT hZ (hw _ (mgE 35 rfl)))) (mvT hZ (hw _ (mgE 35 rfl))) (mvT hZ (hw _ (mgE 34 rfl))) (by decide) (backOf (W := 0) (rm3 l Z a0 hw [] b29 ob39_8 (1024 : Int32) (own_upd (own_upd (own_upd (fun _ => (0 : Int32)) ((0 : Int32)).toNatClampNeg tv1) ((1 : Int32)).toNatClampNeg tv2) ((2 : Int32)).toNatClampNeg tv3) ob166_3 (kys + (1 : Int32)) (prefS tv1 tv2 tv3 kys) ob166_1 (3 : Int32) (own_upd (own_upd (own_upd (fun _ => (0 : Int32)) (((nxtS tv1 tv2 tv3 kys) (tv1).toNatClampNeg)).toNatClampNeg (0 : Int32)) (((own_upd (nxtS tv1 tv2 tv3 kys) (tv1).toNatClampNeg (((nxtS tv1 tv2 tv3 kys) (tv1).toNatClampNeg) + (1 : Int32))) (tv2).toNatClampNeg)).toNatClampNeg (1 : Int32)) (((own_upd (own_upd (nxtS tv1 tv2 tv3 kys) (tv1).toNatClampNeg (((nxtS tv1 tv2 tv3 kys) (tv1).toNatClampNeg) + (1 : Int32))) (tv2).toNatClampNeg (((own_upd (nxtS tv1 tv2 tv3 kys) (tv1).toNatClampNeg (((nxtS tv1 tv2 tv3 kys) (tv1).toNatClampNeg) + (1 : Int32))) (tv2).toNatClampNeg) + (1 : Int32))) (tv3).toNatClampNeg)).toNatClampNeg (2 : Int32)) ob166_2 (kys + (1 : Int32)) (own_upd (own_upd (own_upd (nxtS tv1 tv2 tv3 kys) (tv1).toNatClampNeg (((nxtS tv1 tv2 tv3 kys) (tv1).toNatClampNeg) + (1 : Int32))) (tv2).toNatClampNeg (((own_upd (nxtS tv1 tv2 tv3 kys) (tv1).toNatClampNeg (((nxtS tv1 tv2 tv3 kys) (tv1).toNatClampNeg) + (1 : Int32))) (tv2).toNatClampNeg) + (1 : Int32))) (tv3).toNatClampNeg (((own_upd (own_upd (nxtS tv1 tv2 tv3 kys) (tv1).toNatClampNeg (((nxtS tv1 tv2 tv3 kys) (tv1).toNatClampNeg) + (1 : Int32))) (tv2).toNatClampNeg (((own_upd (nxtS tv1 tv2 tv3 kys) (tv1).toNatClampNeg (((nxtS tv1 tv2 tv3 kys) (tv1).toNatClampNeg) + (1 : Int32))) (tv2).toNatClampNeg) + (1 : Int32))) (tv3).toNatClampNeg) + (1 : Int32))) (0 : Int64) T202.heap n0 Z202 Q202_9 F221_202 Q202_7 F236_202 Q202_1 F234_202 Q202_2 F235_202 Q202_11) hZ (hw _ (mgE 36 rfl)) (hw _ (mgE 4 rfl)) (by decide) (by decide)) q238a q238c (g := (mkF m 239 #[.val (.int p1), .val (.int p2), .val (.int p3), .val (.int p4), .val (.int p5), .val (.int p6), .val (.int la), .val (.int lb), .val (.int lc), .val (.int ld), .val (.int (0 : Int32)), .val (.int (0 : Int32)), .val (.int kys), .val (.int tv1), .val (.int tv2), .val (.int tv3), .val (.ref b9), .val (.ref b11), .val (.ref b15), .val (.ref b21), .val (.ref b29), .val (.long fre), .second, .val (.long fil1), .second, .val (.long gro), .second, .unset, .unset, .unset, .unset, .unset, .unset, .unset, .unset] [(.ref b29)])) rfl (by rw [hml]; rfl) (Steps.refl _) (argsL := []) (rest := []) (lenOf pd___J rfl) rfl (by show 2 * 0 + _ ≤ _; exact Nat.le_of_eq rfl) (hb hby at_239) (fun _ _ => ⟨rfl, rfl, (by decide : 17 + 0 ≤ _), (by decide : 6238 + 0 ≤ _)⟩)
      dsimp only [Pt.U, Pt.locs, Pt.cells, Pt.slots] at X238 l238 y238 z238 st238 hQ238
      subst l238 y238 z238
      obtain ⟨rfl, N238q, e238⟩ := hQ238
      have N238 := Fr.app N202 N238q
      have pre240 : ∀ t, Steps p.tables e below (T238.setTop (mkF m 244 #[.val (.int p1), .val (.int p2), .val (.int p3), .val (.int p4), .val (.int p5), .val (.int p6), .val (.int la), .val (.int lb), .val (.int lc), .val (.int ld), .val (.int (0 : Int32)), .val (.int (0 : Int32)), .val (.int kys), .val (.int tv1), .val (.int tv2), .val (.int tv3), .val (.ref b9), .val (.ref b11), .val (.ref b15), .val (.ref b21), .val (.ref b29), .val (.long fre), .second, .val (.long fil1), .second, .val (.long gro), .second, .val (.long (cst (1024 : Int32) (kys + (1 : Int32)) (3 : Int32) (kys + (1 : Int32)) (0 : Int64))), .second, .unset, .unset, .unset, .unset, .unset, .unset] [])) t → EN t := fun t kt => by
        refine pre201 t ?_
        refine XS.aload X199.here hx rfl (hb hby at_232) rfl rfl ?_
        refine st202.trans ?_
        refine XS.aload X202.here hx rfl (hb hby at_237) rfl rfl ?_
        refine st238.trans ?_
        refine XS.lstore X238.here hx rfl (hb hby at_242) rfl (l' := #[.val (.int p1), .val (.int p2), .val (.int p3), .val (.int p4), .val (.int p5), .val (.int p6), .val (.int la), .val (.int lb), .val (.int lc), .val (.int ld), .val (.int (0 : Int32)), .val (.int (0 : Int32)), .val (.int kys), .val (.int tv1), .val (.int tv2), .val (.int tv3), .val (.ref b9), .val (.ref b11), .val (.ref b15), .val (.ref b21), .val (.ref b29), .val (.long fre), .second, .val (.long fil1), .second, .val (.long gro), .second, .val (.long (cst (1024 : Int32) (kys + (1 : Int32)) (3 : Int32) (kys + (1 : Int32)) (0 : Int64))), .second, .unset, .unset, .unset, .unset, .unset, .unset]) rfl ?_
        exact kt
      obtain ⟨cle, h_cle⟩ : ∃ z, z = (cst (1024 : Int32) (kys + (1 : Int32)) (3 : Int32) (kys + (1 : Int32)) (0 : Int64)) := ⟨_, rfl⟩
      rw [← h_cle] at pre240
      have pre241 : ∀ t, Steps p.tables e below (T238.setTop (mkF m 286 #[.val (.int p1), .val (.int p2), .val (.int p3), .val (.int p4), .val (.int p5), .val (.int p6), .val (.int la), .val (.int lb), .val (.int lc), .val (.int ld), .val (.int (0 : Int32)), .val (.int (0 : Int32)), .val (.int kys), .val (.int tv1), .val (.int tv2), .val (.int tv3), .val (.ref b9), .val (.ref b11), .val (.ref b15), .val (.ref b21), .val (.ref b29), .val (.long fre), .second, .val (.long fil1), .second, .val (.long gro), .second, .val (.long cle), .second, .val (.long (((((16 : Int64) + (la.toInt64)) + ((16 : Int64) + (lb.toInt64))) + ((16 : Int64) + (lc.toInt64))) + ((16 : Int64) + (ld.toInt64)))), .second, .unset, .unset, .unset, .unset] [])) t → EN t := fun t kt => by
        refine pre240 t ?_
        refine X238.ldc2Long hx hown (mvT hZ (hw _ (mgE 103 rfl))) (g := (mkF m 244 #[.val (.int p1), .val (.int p2), .val (.int p3), .val (.int p4), .val (.int p5), .val (.int p6), .val (.int la), .val (.int lb), .val (.int lc), .val (.int ld), .val (.int (0 : Int32)), .val (.int (0 : Int32)), .val (.int kys), .val (.int tv1), .val (.int tv2), .val (.int tv3), .val (.ref b9), .val (.ref b11), .val (.ref b15), .val (.ref b21), .val (.ref b29), .val (.long fre), .second, .val (.long fil1), .second, .val (.long gro), .second, .val (.long cle), .second, .unset, .unset, .unset, .unset, .unset, .unset] [])) rfl (hb hby at_244) _ ?_
        refine XS.iload X238.here hx rfl (hb hby at_247) rfl ?_
        refine XS.i2l X238.here hx rfl (hb hby at_249) rfl ?_
        refine XS.ladd X238.here hx rfl (hb hby at_250) rfl ?_
        refine X238.ldc2Long hx hown (mvT hZ (hw _ (mgE 103 rfl))) (g := (mkF m 251 #[.val (.int p1), .val (.int p2), .val (.int p3), .val (.int p4), .val (.int p5), .val (.int p6), .val (.int la), .val (.int lb), .val (.int lc), .val (.int ld), .val (.int (0 : Int32)), .val (.int (0 : Int32)), .val (.int kys), .val (.int tv1), .val (.int tv2), .val (.int tv3), .val (.ref b9), .val (.ref b11), .val (.ref b15), .val (.ref b21), .val (.ref b29), .val (.long fre), .second, .val (.long fil1), .second, .val (.long gro), .second, .val (.long cle), .second, .unset, .unset, .unset, .unset, .unset, .unset] [(.long ((16 : Int64) + (la.toInt64)))])) rfl (hb hby at_251) _ ?_
        refine XS.iload X238.here hx rfl (hb hby at_254) rfl ?_
        refine XS.i2l X238.here hx rfl (hb hby at_256) rfl ?_
        refine XS.ladd X238.here hx rfl (hb hby at_257) rfl ?_
        refine XS.ladd X238.here hx rfl (hb hby at_258) rfl ?_
        refine XS.iload X238.here hx rfl (hb hby at_259) rfl ?_
        show Steps p.tables e below (T238.setTop (mkF m 261 #[.val (.int p1), .val (.int p2), .val (.int p3), .val (.int p4), .val (.int p5), .val (.int p6), .val (.int la), .val (.int lb), .val (.int lc), .val (.int ld), .val (.int (0 : Int32)), .val (.int (0 : Int32)), .val (.int kys), .val (.int tv1), .val (.int tv2), .val (.int tv3), .val (.ref b9), .val (.ref b11), .val (.ref b15), .val (.ref b21), .val (.ref b29), .val (.long fre), .second, .val (.long fil1), .second, .val (.long gro), .second, .val (.long cle), .second, .unset, .unset, .unset, .unset, .unset, .unset] [(.int (0 : Int32)), (.long (((16 : Int64) + (la.toInt64)) + ((16 : Int64) + (lb.toInt64))))])) _
        refine XS.ifYes X238.here hx rfl (pc0 := 261) (pc' := 268) rfl (hb hby at_261) rfl ((if0 _ _).trans (teq (by decide : (0 : Int32) = (0 : Int32))).1) (by decide) (by decide) ?_
        refine X238.ldc2Long hx hown (mvT hZ (hw _ (mgE 103 rfl))) (g := (mkF m 268 #[.val (.int p1), .val (.int p2), .val (.int p3), .val (.int p4), .val (.int p5), .val (.int p6), .val (.int la), .val (.int lb), .val (.int lc), .val (.int ld), .val (.int (0 : Int32)), .val (.int (0 : Int32)), .val (.int kys), .val (.int tv1), .val (.int tv2), .val (.int tv3), .val (.ref b9), .val (.ref b11), .val (.ref b15), .val (.ref b21), .val (.ref b29), .val (.long fre), .second, .val (.long fil1), .second, .val (.long gro), .second, .val (.long cle), .second, .unset, .unset, .unset, .unset, .unset, .unset] [(.long (((16 : Int64) + (la.toInt64)) + ((16 : Int64) + (lb.toInt64))))])) rfl (hb hby at_268) _ ?_
        refine XS.iload X238.here hx rfl (hb hby at_271) rfl ?_
        refine XS.i2l X238.here hx rfl (hb hby at_273) rfl ?_
        refine XS.ladd X238.here hx rfl (hb hby at_274) rfl ?_
        refine XS.ladd X238.here hx rfl (hb hby at_275) rfl ?_
        refine X238.ldc2Long hx hown (mvT hZ (hw _ (mgE 103 rfl))) (g := (mkF m 276 #[.val (.int p1), .val (.int p2), .val (.int p3), .val (.int p4), .val (.int p5), .val (.int p6), .val (.int la), .val (.int lb), .val (.int lc), .val (.int ld), .val (.int (0 : Int32)), .val (.int (0 : Int32)), .val (.int kys), .val (.int tv1), .val (.int tv2), .val (.int tv3), .val (.ref b9), .val (.ref b11), .val (.ref b15), .val (.ref b21), .val (.ref b29), .val (.long fre), .second, .val (.long fil1), .second, .val (.long gro), .second, .val (.long cle), .second, .unset, .unset, .unset, .unset, .unset, .unset] [(.long ((((16 : Int64) + (la.toInt64)) + ((16 : Int64) + (lb.toInt64))) + ((16 : Int64) + (lc.toInt64))))])) rfl (hb hby at_276) _ ?_
        refine XS.iload X238.here hx rfl (hb hby at_279) rfl ?_
        refine XS.i2l X238.here hx rfl (hb hby at_281) rfl ?_
        refine XS.ladd X238.here hx rfl (hb hby at_282) rfl ?_
        show Steps p.tables e below (T238.setTop (mkF m 283 #[.val (.int p1), .val (.int p2), .val (.int p3), .val (.int p4), .val (.int p5), .val (.int p6), .val (.int la), .val (.int lb), .val (.int lc), .val (.int ld), .val (.int (0 : Int32)), .val (.int (0 : Int32)), .val (.int kys), .val (.int tv1), .val (.int tv2), .val (.int tv3), .val (.ref b9), .val (.ref b11), .val (.ref b15), .val (.ref b21), .val (.ref b29), .val (.long fre), .second, .val (.long fil1), .second, .val (.long gro), .second, .val (.long cle), .second, .unset, .unset, .unset, .unset, .unset, .unset] [(.long ((16 : Int64) + (ld.toInt64))), (.long ((((16 : Int64) + (la.toInt64)) + ((16 : Int64) + (lb.toInt64))) + ((16 : Int64) + (lc.toInt64))))])) _
        refine XS.ladd X238.here hx rfl (hb hby at_283) rfl ?_
        refine XS.lstore X238.here hx rfl (hb hby at_284) rfl (l' := #[.val (.int p1), .val (.int p2), .val (.int p3), .val (.int p4), .val (.int p5), .val (.int p6), .val (.int la), .val (.int lb), .val (.int lc), .val (.int ld), .val (.int (0 : Int32)), .val (.int (0 : Int32)), .val (.int kys), .val (.int tv1), .val (.int tv2), .val (.int tv3), .val (.ref b9), .val (.ref b11), .val (.ref b15), .val (.ref b21), .val (.ref b29), .val (.long fre), .second, .val (.long fil1), .second, .val (.long gro), .second, .val (.long cle), .second, .val (.long (((((16 : Int64) + (la.toInt64)) + ((16 : Int64) + (lb.toInt64))) + ((16 : Int64) + (lc.toInt64))) + ((16 : Int64) + (ld.toInt64)))), .second, .unset, .unset, .unset, .unset]) rfl ?_
        exact kt
      obtain ⟨vls, h_vls⟩ : ∃ z, z = (((((16 : Int64) + (la.toInt64)) + ((16 : Int64) + (lb.toInt64))) + ((16 : Int64) + (lc.toInt64))) + ((16 : Int64) + (ld.toInt64))) := ⟨_, rfl⟩
      rw [← h_vls] at pre241
      have hc321 : (lcmpW fre (24584 : Int64)) = (0 : Int32) := by rw [h_fre]; decide
      have hc332 : (lcmpW fil1 ((24584 : Int64) + vls)) = (0 : Int32) := by rw [lw_eq, h_fil1, own_cst1, h_vls]; simp only [own_16 la b_la, own_16 lb b_lb, own_16 lc b_lc, own_16 ld b_ld, Int64.zero_add]
      have hc343 : (lcmpW gro (((24576 : Int64) + ((4 : Int64) * ((((kys.toInt64) + (1 : Int64)) + (3 : Int64)) + ((kys.toInt64) + (1 : Int64))))) + vls)) = (0 : Int32) := by rw [lw_eq, h_gro, own_cst2 kys hkys, h_vls]; simp only [own_16 la b_la, own_16 lb b_lb, own_16 lc b_lc, own_16 ld b_ld, Int64.zero_add]
      have hc351 : (lcmpW cle ((24576 : Int64) + ((4 : Int64) * ((((kys.toInt64) + (1 : Int64)) + (3 : Int64)) + ((kys.toInt64) + (1 : Int64)))))) = (0 : Int32) := by rw [lw_eq, h_cle, own_cst2 kys hkys, Int64.add_zero]
      have pre242 : ∀ t, Steps p.tables e below (T238.setTop (mkF m 359 #[.val (.int p1), .val (.int p2), .val (.int p3), .val (.int p4), .val (.int p5), .val (.int p6), .val (.int la), .val (.int lb), .val (.int lc), .val (.int ld), .val (.int (0 : Int32)), .val (.int (0 : Int32)), .val (.int kys), .val (.int tv1), .val (.int tv2), .val (.int tv3), .val (.ref b9), .val (.ref b11), .val (.ref b15), .val (.ref b21), .val (.ref b29), .val (.long fre), .second, .val (.long fil1), .second, .val (.long gro), .second, .val (.long cle), .second, .val (.long vls), .second, .val (.long (24584 : Int64)), .second, .val (.long ((24576 : Int64) + ((4 : Int64) * ((((kys.toInt64) + (1 : Int64)) + (3 : Int64)) + ((kys.toInt64) + (1 : Int64)))))), .second] [(.int (1 : Int32))])) t → EN t := fun t kt => by
        refine pre241 t ?_
        refine X238.ldc2Long hx hown (mvT hZ (hw _ (mgE 104 rfl))) (g := (mkF m 286 #[.val (.int p1), .val (.int p2), .val (.int p3), .val (.int p4), .val (.int p5), .val (.int p6), .val (.int la), .val (.int lb), .val (.int lc), .val (.int ld), .val (.int (0 : Int32)), .val (.int (0 : Int32)), .val (.int kys), .val (.int tv1), .val (.int tv2), .val (.int tv3), .val (.ref b9), .val (.ref b11), .val (.ref b15), .val (.ref b21), .val (.ref b29), .val (.long fre), .second, .val (.long fil1), .second, .val (.long gro), .second, .val (.long cle), .second, .val (.long vls), .second, .unset, .unset, .unset, .unset] [])) rfl (hb hby at_286) _ ?_
        refine XS.lstore X238.here hx rfl (hb hby at_289) rfl (l' := #[.val (.int p1), .val (.int p2), .val (.int p3), .val (.int p4), .val (.int p5), .val (.int p6), .val (.int la), .val (.int lb), .val (.int lc), .val (.int ld), .val (.int (0 : Int32)), .val (.int (0 : Int32)), .val (.int kys), .val (.int tv1), .val (.int tv2), .val (.int tv3), .val (.ref b9), .val (.ref b11), .val (.ref b15), .val (.ref b21), .val (.ref b29), .val (.long fre), .second, .val (.long fil1), .second, .val (.long gro), .second, .val (.long cle), .second, .val (.long vls), .second, .val (.long (24584 : Int64)), .second, .unset, .unset]) rfl ?_
        refine X238.ldc2Long hx hown (mvT hZ (hw _ (mgE 105 rfl))) (g := (mkF m 291 #[.val (.int p1), .val (.int p2), .val (.int p3), .val (.int p4), .val (.int p5), .val (.int p6), .val (.int la), .val (.int lb), .val (.int lc), .val (.int ld), .val (.int (0 : Int32)), .val (.int (0 : Int32)), .val (.int kys), .val (.int tv1), .val (.int tv2), .val (.int tv3), .val (.ref b9), .val (.ref b11), .val (.ref b15), .val (.ref b21), .val (.ref b29), .val (.long fre), .second, .val (.long fil1), .second, .val (.long gro), .second, .val (.long cle), .second, .val (.long vls), .second, .val (.long (24584 : Int64)), .second, .unset, .unset] [])) rfl (hb hby at_291) _ ?_
        refine X238.ldc2Long hx hown (mvT hZ (hw _ (mgE 106 rfl))) (g := (mkF m 294 #[.val (.int p1), .val (.int p2), .val (.int p3), .val (.int p4), .val (.int p5), .val (.int p6), .val (.int la), .val (.int lb), .val (.int lc), .val (.int ld), .val (.int (0 : Int32)), .val (.int (0 : Int32)), .val (.int kys), .val (.int tv1), .val (.int tv2), .val (.int tv3), .val (.ref b9), .val (.ref b11), .val (.ref b15), .val (.ref b21), .val (.ref b29), .val (.long fre), .second, .val (.long fil1), .second, .val (.long gro), .second, .val (.long cle), .second, .val (.long vls), .second, .val (.long (24584 : Int64)), .second, .unset, .unset] [(.long (24576 : Int64))])) rfl (hb hby at_294) _ ?_
        refine XS.iload X238.here hx rfl (hb hby at_297) rfl ?_
        refine XS.i2l X238.here hx rfl (hb hby at_299) rfl ?_
        refine XS.lconst X238.here hx rfl (hb hby at_300) ?_
        refine XS.ladd X238.here hx rfl (hb hby at_301) rfl ?_
        refine X238.ldc2Long hx hown (mvT hZ (hw _ (mgE 107 rfl))) (g := (mkF m 302 #[.val (.int p1), .val (.int p2), .val (.int p3), .val (.int p4), .val (.int p5), .val (.int p6), .val (.int la), .val (.int lb), .val (.int lc), .val (.int ld), .val (.int (0 : Int32)), .val (.int (0 : Int32)), .val (.int kys), .val (.int tv1), .val (.int tv2), .val (.int tv3), .val (.ref b9), .val (.ref b11), .val (.ref b15), .val (.ref b21), .val (.ref b29), .val (.long fre), .second, .val (.long fil1), .second, .val (.long gro), .second, .val (.long cle), .second, .val (.long vls), .second, .val (.long (24584 : Int64)), .second, .unset, .unset] [(.long ((kys.toInt64) + (1 : Int64))), (.long (4 : Int64)), (.long (24576 : Int64))])) rfl (hb hby at_302) _ ?_
        refine XS.ladd X238.here hx rfl (hb hby at_305) rfl ?_
        show Steps p.tables e below (T238.setTop (mkF m 306 #[.val (.int p1), .val (.int p2), .val (.int p3), .val (.int p4), .val (.int p5), .val (.int p6), .val (.int la), .val (.int lb), .val (.int lc), .val (.int ld), .val (.int (0 : Int32)), .val (.int (0 : Int32)), .val (.int kys), .val (.int tv1), .val (.int tv2), .val (.int tv3), .val (.ref b9), .val (.ref b11), .val (.ref b15), .val (.ref b21), .val (.ref b29), .val (.long fre), .second, .val (.long fil1), .second, .val (.long gro), .second, .val (.long cle), .second, .val (.long vls), .second, .val (.long (24584 : Int64)), .second, .unset, .unset] [(.long (((kys.toInt64) + (1 : Int64)) + (3 : Int64))), (.long (4 : Int64)), (.long (24576 : Int64))])) _
        refine XS.iload X238.here hx rfl (hb hby at_306) rfl ?_
        refine XS.i2l X238.here hx rfl (hb hby at_308) rfl ?_
        refine XS.lconst X238.here hx rfl (hb hby at_309) ?_
        refine XS.ladd X238.here hx rfl (hb hby at_310) rfl ?_
        refine XS.ladd X238.here hx rfl (hb hby at_311) rfl ?_
        refine XS.lmul X238.here hx rfl (hb hby at_312) rfl ?_
        refine XS.ladd X238.here hx rfl (hb hby at_313) rfl ?_
        refine XS.lstore X238.here hx rfl (hb hby at_314) rfl (l' := #[.val (.int p1), .val (.int p2), .val (.int p3), .val (.int p4), .val (.int p5), .val (.int p6), .val (.int la), .val (.int lb), .val (.int lc), .val (.int ld), .val (.int (0 : Int32)), .val (.int (0 : Int32)), .val (.int kys), .val (.int tv1), .val (.int tv2), .val (.int tv3), .val (.ref b9), .val (.ref b11), .val (.ref b15), .val (.ref b21), .val (.ref b29), .val (.long fre), .second, .val (.long fil1), .second, .val (.long gro), .second, .val (.long cle), .second, .val (.long vls), .second, .val (.long (24584 : Int64)), .second, .val (.long ((24576 : Int64) + ((4 : Int64) * ((((kys.toInt64) + (1 : Int64)) + (3 : Int64)) + ((kys.toInt64) + (1 : Int64)))))), .second]) rfl ?_
        refine XS.lload X238.here hx rfl (hb hby at_316) rfl ?_
        refine XS.lload X238.here hx rfl (hb hby at_318) rfl ?_
        show Steps p.tables e below (T238.setTop (mkF m 320 #[.val (.int p1), .val (.int p2), .val (.int p3), .val (.int p4), .val (.int p5), .val (.int p6), .val (.int la), .val (.int lb), .val (.int lc), .val (.int ld), .val (.int (0 : Int32)), .val (.int (0 : Int32)), .val (.int kys), .val (.int tv1), .val (.int tv2), .val (.int tv3), .val (.ref b9), .val (.ref b11), .val (.ref b15), .val (.ref b21), .val (.ref b29), .val (.long fre), .second, .val (.long fil1), .second, .val (.long gro), .second, .val (.long cle), .second, .val (.long vls), .second, .val (.long (24584 : Int64)), .second, .val (.long ((24576 : Int64) + ((4 : Int64) * ((((kys.toInt64) + (1 : Int64)) + (3 : Int64)) + ((kys.toInt64) + (1 : Int64)))))), .second] [(.long (24584 : Int64)), (.long fre)])) _
        refine XS.lcmp X238.here hx rfl (hb hby at_320) rfl ?_
        refine XS.ifNo X238.here hx rfl (hb hby at_321) rfl ((if0 _ _).trans (teq hc321).2) ?_
        refine XS.lload X238.here hx rfl (hb hby at_324) rfl ?_
        refine XS.lload X238.here hx rfl (hb hby at_326) rfl ?_
        refine XS.lload X238.here hx rfl (hb hby at_328) rfl ?_
        refine XS.ladd X238.here hx rfl (hb hby at_330) rfl ?_
        refine XS.lcmp X238.here hx rfl (hb hby at_331) rfl ?_
        refine XS.ifNo X238.here hx rfl (hb hby at_332) rfl ((if0 _ _).trans (teq hc332).2) ?_
        refine XS.lload X238.here hx rfl (hb hby at_335) rfl ?_
        refine XS.lload X238.here hx rfl (hb hby at_337) rfl ?_
        show Steps p.tables e below (T238.setTop (mkF m 339 #[.val (.int p1), .val (.int p2), .val (.int p3), .val (.int p4), .val (.int p5), .val (.int p6), .val (.int la), .val (.int lb), .val (.int lc), .val (.int ld), .val (.int (0 : Int32)), .val (.int (0 : Int32)), .val (.int kys), .val (.int tv1), .val (.int tv2), .val (.int tv3), .val (.ref b9), .val (.ref b11), .val (.ref b15), .val (.ref b21), .val (.ref b29), .val (.long fre), .second, .val (.long fil1), .second, .val (.long gro), .second, .val (.long cle), .second, .val (.long vls), .second, .val (.long (24584 : Int64)), .second, .val (.long ((24576 : Int64) + ((4 : Int64) * ((((kys.toInt64) + (1 : Int64)) + (3 : Int64)) + ((kys.toInt64) + (1 : Int64)))))), .second] [(.long ((24576 : Int64) + ((4 : Int64) * ((((kys.toInt64) + (1 : Int64)) + (3 : Int64)) + ((kys.toInt64) + (1 : Int64)))))), (.long gro)])) _
        refine XS.lload X238.here hx rfl (hb hby at_339) rfl ?_
        refine XS.ladd X238.here hx rfl (hb hby at_341) rfl ?_
        refine XS.lcmp X238.here hx rfl (hb hby at_342) rfl ?_
        refine XS.ifNo X238.here hx rfl (hb hby at_343) rfl ((if0 _ _).trans (teq hc343).2) ?_
        refine XS.lload X238.here hx rfl (hb hby at_346) rfl ?_
        refine XS.lload X238.here hx rfl (hb hby at_348) rfl ?_
        refine XS.lcmp X238.here hx rfl (hb hby at_350) rfl ?_
        refine XS.ifNo X238.here hx rfl (hb hby at_351) rfl ((if0 _ _).trans (teq hc351).2) ?_
        refine XS.iconst X238.here hx rfl (hb hby at_354) ?_
        refine XS.goto X238.here hx rfl (pc0 := 355) (pc' := 359) rfl (hb hby at_355) (by decide) (by decide) ?_
        show Steps p.tables e below (T238.setTop (mkF m 359 #[.val (.int p1), .val (.int p2), .val (.int p3), .val (.int p4), .val (.int p5), .val (.int p6), .val (.int la), .val (.int lb), .val (.int lc), .val (.int ld), .val (.int (0 : Int32)), .val (.int (0 : Int32)), .val (.int kys), .val (.int tv1), .val (.int tv2), .val (.int tv3), .val (.ref b9), .val (.ref b11), .val (.ref b15), .val (.ref b21), .val (.ref b29), .val (.long fre), .second, .val (.long fil1), .second, .val (.long gro), .second, .val (.long cle), .second, .val (.long vls), .second, .val (.long (24584 : Int64)), .second, .val (.long ((24576 : Int64) + ((4 : Int64) * ((((kys.toInt64) + (1 : Int64)) + (3 : Int64)) + ((kys.toInt64) + (1 : Int64)))))), .second] [(.int (1 : Int32))])) _
        exact kt
      obtain ⟨fs, hr, hrun, hended, hW, hsame⟩ := X238.leave (v := some (.int (1 : Int32))) (fun h => by rw [Bd.returns] at h; cases h)
      refine ⟨_, _, hEN _ (pre242 _ ?_), hrun, hended, _, _, rfl, ?_, ⟨_, rfl⟩, hW, hsame.mono (by decide) (by decide)⟩
      · exact retN X238 hx (t := .boolean) Bd.returns (by simp) (hb hby at_359) hr
      · show Q0 Z p1 p2 p3 p4 p5 p6 h0 n0 _ T238.heap _
        rw [e238]
        exact ⟨rfl, N238⟩
    · skip
      have pre243 : ∀ t, Steps p.tables e below (s₁.setTop (mkF m 75 #[.val (.int p1), .val (.int p2), .val (.int p3), .val (.int p4), .val (.int p5), .val (.int p6), .val (.int la), .val (.int lb), .val (.int lc), .val (.int ld), .val (.int (0 : Int32)), .val (.int (1 : Int32)), .val (.int ((((p1.toUInt32 >>> ((18 : Int32) &&& 31).toUInt32).toInt32) &&& (7 : Int32)) + (1 : Int32))), .unset, .unset, .unset, .unset, .unset, .unset, .unset, .unset, .unset, .unset, .unset, .unset, .unset, .unset, .unset, .unset, .unset, .unset, .unset, .unset, .unset, .unset] [])) t → EN t := fun t kt => by
        refine pre4 t ?_
        refine XS.iloadN X0.here hx rfl (hb hby at_32) rfl ?_
        refine XS.bipush X0.here hx rfl (hb hby at_33) ?_
        refine XS.iushr X0.here hx rfl (hb hby at_35) rfl ?_
        refine XS.iconst X0.here hx rfl (hb hby at_36) ?_
        refine XS.iand X0.here hx rfl (hb hby at_37) rfl ?_
        refine XS.ifYes X0.here hx rfl (pc0 := 38) (pc' := 45) rfl (hb hby at_38) rfl ((if0 _ _).trans (teq hc38).1) (by decide) (by decide) ?_
        refine XS.iconst X0.here hx rfl (hb hby at_45) ?_
        refine XS.istore X0.here hx rfl (hb hby at_46) rfl (l' := #[.val (.int p1), .val (.int p2), .val (.int p3), .val (.int p4), .val (.int p5), .val (.int p6), .val (.int la), .val (.int lb), .val (.int lc), .val (.int ld), .val (.int (0 : Int32)), .unset, .unset, .unset, .unset, .unset, .unset, .unset, .unset, .unset, .unset, .unset, .unset, .unset, .unset, .unset, .unset, .unset, .unset, .unset, .unset, .unset, .unset, .unset, .unset]) rfl ?_
        refine XS.iloadN X0.here hx rfl (hb hby at_48) rfl ?_
        refine XS.bipush X0.here hx rfl (hb hby at_49) ?_
        show Steps p.tables e below (s₁.setTop (mkF m 51 #[.val (.int p1), .val (.int p2), .val (.int p3), .val (.int p4), .val (.int p5), .val (.int p6), .val (.int la), .val (.int lb), .val (.int lc), .val (.int ld), .val (.int (0 : Int32)), .unset, .unset, .unset, .unset, .unset, .unset, .unset, .unset, .unset, .unset, .unset, .unset, .unset, .unset, .unset, .unset, .unset, .unset, .unset, .unset, .unset, .unset, .unset, .unset] [(.int (17 : Int32)), (.int p1)])) _
        refine XS.iushr X0.here hx rfl (hb hby at_51) rfl ?_
        refine XS.iconst X0.here hx rfl (hb hby at_52) ?_
        refine XS.iand X0.here hx rfl (hb hby at_53) rfl ?_
        refine XS.ifNo X0.here hx rfl (hb hby at_54) rfl ((if0 _ _).trans (feq hc54).1) ?_
        refine XS.iconst X0.here hx rfl (hb hby at_57) ?_
        refine XS.goto X0.here hx rfl (pc0 := 58) (pc' := 62) rfl (hb hby at_58) (by decide) (by decide) ?_
        refine XS.istore X0.here hx rfl (hb hby at_62) rfl (l' := #[.val (.int p1), .val (.int p2), .val (.int p3), .val (.int p4), .val (.int p5), .val (.int p6), .val (.int la), .val (.int lb), .val (.int lc), .val (.int ld), .val (.int (0 : Int32)), .val (.int (1 : Int32)), .unset, .unset, .unset, .unset, .unset, .unset, .unset, .unset, .unset, .unset, .unset, .unset, .unset, .unset, .unset, .unset, .unset, .unset, .unset, .unset, .unset, .unset, .unset]) rfl ?_
        refine XS.iloadN X0.here hx rfl (hb hby at_64) rfl ?_
        refine XS.bipush X0.here hx rfl (hb hby at_65) ?_
        refine XS.iushr X0.here hx rfl (hb hby at_67) rfl ?_
        show Steps p.tables e below (s₁.setTop (mkF m 68 #[.val (.int p1), .val (.int p2), .val (.int p3), .val (.int p4), .val (.int p5), .val (.int p6), .val (.int la), .val (.int lb), .val (.int lc), .val (.int ld), .val (.int (0 : Int32)), .val (.int (1 : Int32)), .unset, .unset, .unset, .unset, .unset, .unset, .unset, .unset, .unset, .unset, .unset, .unset, .unset, .unset, .unset, .unset, .unset, .unset, .unset, .unset, .unset, .unset, .unset] [(.int ((p1.toUInt32 >>> ((18 : Int32) &&& 31).toUInt32).toInt32))])) _
        refine XS.bipush X0.here hx rfl (hb hby at_68) ?_
        refine XS.iand X0.here hx rfl (hb hby at_70) rfl ?_
        refine XS.iconst X0.here hx rfl (hb hby at_71) ?_
        refine XS.iadd X0.here hx rfl (hb hby at_72) rfl ?_
        refine XS.istore X0.here hx rfl (hb hby at_73) rfl (l' := #[.val (.int p1), .val (.int p2), .val (.int p3), .val (.int p4), .val (.int p5), .val (.int p6), .val (.int la), .val (.int lb), .val (.int lc), .val (.int ld), .val (.int (0 : Int32)), .val (.int (1 : Int32)), .val (.int ((((p1.toUInt32 >>> ((18 : Int32) &&& 31).toUInt32).toInt32) &&& (7 : Int32)) + (1 : Int32))), .unset, .unset, .unset, .unset, .unset, .unset, .unset, .unset, .unset, .unset, .unset, .unset, .unset, .unset, .unset, .unset, .unset, .unset, .unset, .unset, .unset, .unset]) rfl ?_
        exact kt
      obtain ⟨kys, h_kys⟩ : ∃ z, z = ((((p1.toUInt32 >>> ((18 : Int32) &&& 31).toUInt32).toInt32) &&& (7 : Int32)) + (1 : Int32)) := ⟨_, rfl⟩
      rw [← h_kys] at pre243
      have hkys := own_kys _ kys h_kys
      have pre244 : ∀ t, Steps p.tables e below (s₁.setTop (mkF m 84 #[.val (.int p1), .val (.int p2), .val (.int p3), .val (.int p4), .val (.int p5), .val (.int p6), .val (.int la), .val (.int lb), .val (.int lc), .val (.int ld), .val (.int (0 : Int32)), .val (.int (1 : Int32)), .val (.int kys), .val (.int ((p2 &&& (2147483647 : Int32)) % kys)), .unset, .unset, .unset, .unset, .unset, .unset, .unset, .unset, .unset, .unset, .unset, .unset, .unset, .unset, .unset, .unset, .unset, .unset, .unset, .unset, .unset] [])) t → EN t := fun t kt => by
        refine pre243 t ?_
        refine XS.iloadN X0.here hx rfl (hb hby at_75) rfl ?_
        refine X0.ldcInt hx hown (mvT hZ (hw _ (mgE 0 rfl))) (g := (mkF m 76 #[.val (.int p1), .val (.int p2), .val (.int p3), .val (.int p4), .val (.int p5), .val (.int p6), .val (.int la), .val (.int lb), .val (.int lc), .val (.int ld), .val (.int (0 : Int32)), .val (.int (1 : Int32)), .val (.int kys), .unset, .unset, .unset, .unset, .unset, .unset, .unset, .unset, .unset, .unset, .unset, .unset, .unset, .unset, .unset, .unset, .unset, .unset, .unset, .unset, .unset, .unset] [(.int p2)])) rfl (hb hby at_76) _ ?_
        refine XS.iand X0.here hx rfl (hb hby at_78) rfl ?_
        refine XS.iload X0.here hx rfl (hb hby at_79) rfl ?_
        have hnz81 : ¬ (kys = (0 : Int32)) := own_knz kys hkys
        refine iremM X0 hx rfl (hb hby at_81) rfl hnz81 ?_
        refine XS.istore X0.here hx rfl (hb hby at_82) rfl (l' := #[.val (.int p1), .val (.int p2), .val (.int p3), .val (.int p4), .val (.int p5), .val (.int p6), .val (.int la), .val (.int lb), .val (.int lc), .val (.int ld), .val (.int (0 : Int32)), .val (.int (1 : Int32)), .val (.int kys), .val (.int ((p2 &&& (2147483647 : Int32)) % kys)), .unset, .unset, .unset, .unset, .unset, .unset, .unset, .unset, .unset, .unset, .unset, .unset, .unset, .unset, .unset, .unset, .unset, .unset, .unset, .unset, .unset]) rfl ?_
        exact kt
      obtain ⟨tv1, h_tv1⟩ : ∃ z, z = ((p2 &&& (2147483647 : Int32)) % kys) := ⟨_, rfl⟩
      rw [← h_tv1] at pre244
      have ht1 := own_mod _ kys tv1 hkys h_tv1
      have pre245 : ∀ t, Steps p.tables e below (s₁.setTop (mkF m 93 #[.val (.int p1), .val (.int p2), .val (.int p3), .val (.int p4), .val (.int p5), .val (.int p6), .val (.int la), .val (.int lb), .val (.int lc), .val (.int ld), .val (.int (0 : Int32)), .val (.int (1 : Int32)), .val (.int kys), .val (.int tv1), .val (.int ((p3 &&& (2147483647 : Int32)) % kys)), .unset, .unset, .unset, .unset, .unset, .unset, .unset, .unset, .unset, .unset, .unset, .unset, .unset, .unset, .unset, .unset, .unset, .unset, .unset, .unset] [])) t → EN t := fun t kt => by
        refine pre244 t ?_
        refine XS.iloadN X0.here hx rfl (hb hby at_84) rfl ?_
        refine X0.ldcInt hx hown (mvT hZ (hw _ (mgE 0 rfl))) (g := (mkF m 85 #[.val (.int p1), .val (.int p2), .val (.int p3), .val (.int p4), .val (.int p5), .val (.int p6), .val (.int la), .val (.int lb), .val (.int lc), .val (.int ld), .val (.int (0 : Int32)), .val (.int (1 : Int32)), .val (.int kys), .val (.int tv1), .unset, .unset, .unset, .unset, .unset, .unset, .unset, .unset, .unset, .unset, .unset, .unset, .unset, .unset, .unset, .unset, .unset, .unset, .unset, .unset, .unset] [(.int p3)])) rfl (hb hby at_85) _ ?_
        refine XS.iand X0.here hx rfl (hb hby at_87) rfl ?_
        refine XS.iload X0.here hx rfl (hb hby at_88) rfl ?_
        have hnz90 : ¬ (kys = (0 : Int32)) := own_knz kys hkys
        refine iremM X0 hx rfl (hb hby at_90) rfl hnz90 ?_
        refine XS.istore X0.here hx rfl (hb hby at_91) rfl (l' := #[.val (.int p1), .val (.int p2), .val (.int p3), .val (.int p4), .val (.int p5), .val (.int p6), .val (.int la), .val (.int lb), .val (.int lc), .val (.int ld), .val (.int (0 : Int32)), .val (.int (1 : Int32)), .val (.int kys), .val (.int tv1), .val (.int ((p3 &&& (2147483647 : Int32)) % kys)), .unset, .unset, .unset, .unset, .unset, .unset, .unset, .unset, .unset, .unset, .unset, .unset, .unset, .unset, .unset, .unset, .unset, .unset, .unset, .unset]) rfl ?_
        exact kt
      obtain ⟨tv2, h_tv2⟩ : ∃ z, z = ((p3 &&& (2147483647 : Int32)) % kys) := ⟨_, rfl⟩
      rw [← h_tv2] at pre245
      have ht2 := own_mod _ kys tv2 hkys h_tv2
      have pre246 : ∀ t, Steps p.tables e below (s₁.setTop (mkF m 102 #[.val (.int p1), .val (.int p2), .val (.int p3), .val (.int p4), .val (.int p5), .val (.int p6), .val (.int la), .val (.int lb), .val (.int lc), .val (.int ld), .val (.int (0 : Int32)), .val (.int (1 : Int32)), .val (.int kys), .val (.int tv1), .val (.int tv2), .val (.int ((p4 &&& (2147483647 : Int32)) % kys)), .unset, .unset, .unset, .unset, .unset, .unset, .unset, .unset, .unset, .unset, .unset, .unset, .unset, .unset, .unset, .unset, .unset, .unset, .unset] [])) t → EN t := fun t kt => by
        refine pre245 t ?_
        refine XS.iloadN X0.here hx rfl (hb hby at_93) rfl ?_
        refine X0.ldcInt hx hown (mvT hZ (hw _ (mgE 0 rfl))) (g := (mkF m 94 #[.val (.int p1), .val (.int p2), .val (.int p3), .val (.int p4), .val (.int p5), .val (.int p6), .val (.int la), .val (.int lb), .val (.int lc), .val (.int ld), .val (.int (0 : Int32)), .val (.int (1 : Int32)), .val (.int kys), .val (.int tv1), .val (.int tv2), .unset, .unset, .unset, .unset, .unset, .unset, .unset, .unset, .unset, .unset, .unset, .unset, .unset, .unset, .unset, .unset, .unset, .unset, .unset, .unset] [(.int p4)])) rfl (hb hby at_94) _ ?_
        refine XS.iand X0.here hx rfl (hb hby at_96) rfl ?_
        refine XS.iload X0.here hx rfl (hb hby at_97) rfl ?_
        have hnz99 : ¬ (kys = (0 : Int32)) := own_knz kys hkys
        refine iremM X0 hx rfl (hb hby at_99) rfl hnz99 ?_
        refine XS.istore X0.here hx rfl (hb hby at_100) rfl (l' := #[.val (.int p1), .val (.int p2), .val (.int p3), .val (.int p4), .val (.int p5), .val (.int p6), .val (.int la), .val (.int lb), .val (.int lc), .val (.int ld), .val (.int (0 : Int32)), .val (.int (1 : Int32)), .val (.int kys), .val (.int tv1), .val (.int tv2), .val (.int ((p4 &&& (2147483647 : Int32)) % kys)), .unset, .unset, .unset, .unset, .unset, .unset, .unset, .unset, .unset, .unset, .unset, .unset, .unset, .unset, .unset, .unset, .unset, .unset, .unset]) rfl ?_
        exact kt
      obtain ⟨tv3, h_tv3⟩ : ∃ z, z = ((p4 &&& (2147483647 : Int32)) % kys) := ⟨_, rfl⟩
      rw [← h_tv3] at pre246
      have ht3 := own_mod _ kys tv3 hkys h_tv3
      obtain ⟨T247, h247, k247, X247, e247, E247, A247, Ex247, st247⟩ := newPE X0 hx hZ (hw _ (mgE 1 rfl)) e0 (g := (mkF m 104 #[.val (.int p1), .val (.int p2), .val (.int p3), .val (.int p4), .val (.int p5), .val (.int p6), .val (.int la), .val (.int lb), .val (.int lc), .val (.int ld), .val (.int (0 : Int32)), .val (.int (1 : Int32)), .val (.int kys), .val (.int tv1), .val (.int tv2), .val (.int tv3), .unset, .unset, .unset, .unset, .unset, .unset, .unset, .unset, .unset, .unset, .unset, .unset, .unset, .unset, .unset, .unset, .unset, .unset, .unset] [(.int la)])) rfl (hb hby at_104) rfl (own_n15 _ b_la) (cap := 15) (own_c15 _ b_la) (by decide) (by decide) (by decide) (ad := "[B") (by decide)
      obtain ⟨b247, g247⟩ : ∃ z, z = h0.size := ⟨_, rfl⟩
      rw [← g247] at A247 Ex247 st247
      have Z247 : n0 ≤ h247.size := Nat.le_trans Z0 E247.1
      have V_b247 : Arf Z h247 b247 .byte la (fun i => (.int ((fun _ => (0 : Int32)) i))) := Arf.new A247 (own_n15 _ b_la)
      obtain ⟨T249, h249, k249, X249, e249, E249, A249, Ex249, st249⟩ := newPE X247 hx hZ (hw _ (mgE 1 rfl)) e247 (g := (mkF m 110 #[.val (.int p1), .val (.int p2), .val (.int p3), .val (.int p4), .val (.int p5), .val (.int p6), .val (.int la), .val (.int lb), .val (.int lc), .val (.int ld), .val (.int (0 : Int32)), .val (.int (1 : Int32)), .val (.int kys), .val (.int tv1), .val (.int tv2), .val (.int tv3), .val (.ref b247), .unset, .unset, .unset, .unset, .unset, .unset, .unset, .unset, .unset, .unset, .unset, .unset, .unset, .unset, .unset, .unset, .unset, .unset] [(.int lb)])) rfl (hb hby at_110) rfl (own_n15 _ b_lb) (cap := 15) (own_c15 _ b_lb) (by decide) (by decide) (by decide) (ad := "[B") (by decide)
      obtain ⟨b249, g249⟩ : ∃ z, z = h247.size := ⟨_, rfl⟩
      rw [← g249] at A249 Ex249 st249
      have Z249 : n0 ≤ h249.size := Nat.le_trans Z247 E249.1
      have F250_249 := Ex247.ext E249
      have F251_249 := V_b247.ext E249
      have V_b249 : Arf Z h249 b249 .byte lb (fun i => (.int ((fun _ => (0 : Int32)) i))) := Arf.new A249 (own_n15 _ b_lb)
      obtain ⟨T253, h253, k253, X253, e253, E253, A253, Ex253, st253⟩ := newPE X249 hx hZ (hw _ (mgE 1 rfl)) e249 (g := (mkF m 125 #[.val (.int p1), .val (.int p2), .val (.int p3), .val (.int p4), .val (.int p5), .val (.int p6), .val (.int la), .val (.int lb), .val (.int lc), .val (.int ld), .val (.int (0 : Int32)), .val (.int (1 : Int32)), .val (.int kys), .val (.int tv1), .val (.int tv2), .val (.int tv3), .val (.ref b247), .val (.ref b249), .unset, .unset, .unset, .unset, .unset, .unset, .unset, .unset, .unset, .unset, .unset, .unset, .unset, .unset, .unset, .unset, .unset] [(.int lc)])) rfl (hb hby at_125) rfl (own_n15 _ b_lc) (cap := 15) (own_c15 _ b_lc) (by decide) (by decide) (by decide) (ad := "[B") (by decide)
      obtain ⟨b253, g253⟩ : ∃ z, z = h249.size := ⟨_, rfl⟩
      rw [← g253] at A253 Ex253 st253
      have Z253 : n0 ≤ h253.size := Nat.le_trans Z249 E253.1
      have F254_253 := F250_249.ext E253
      have F255_253 := F251_249.ext E253
      have F256_253 := Ex249.ext E253
      have F257_253 := V_b249.ext E253
      have V_b253 : Arf Z h253 b253 .byte lc (fun i => (.int ((fun _ => (0 : Int32)) i))) := Arf.new A253 (own_n15 _ b_lc)
      obtain ⟨T259, h259, k259, X259, e259, E259, A259, Ex259, st259⟩ := newPE X253 hx hZ (hw _ (mgE 1 rfl)) e253 (g := (mkF m 131 #[.val (.int p1), .val (.int p2), .val (.int p3), .val (.int p4), .val (.int p5), .val (.int p6), .val (.int la), .val (.int lb), .val (.int lc), .val (.int ld), .val (.int (0 : Int32)), .val (.int (1 : Int32)), .val (.int kys), .val (.int tv1), .val (.int tv2), .val (.int tv3), .val (.ref b247), .val (.ref b249), .val (.ref b253), .unset, .unset, .unset, .unset, .unset, .unset, .unset, .unset, .unset, .unset, .unset, .unset, .unset, .unset, .unset, .unset] [(.int ld)])) rfl (hb hby at_131) rfl (own_n15 _ b_ld) (cap := 15) (own_c15 _ b_ld) (by decide) (by decide) (by decide) (ad := "[B") (by decide)
      obtain ⟨b259, g259⟩ : ∃ z, z = h253.size := ⟨_, rfl⟩
      rw [← g259] at A259 Ex259 st259
      have Z259 : n0 ≤ h259.size := Nat.le_trans Z253 E259.1
      have F260_259 := F254_253.ext E259
      have F261_259 := F255_253.ext E259
      have F262_259 := F256_253.ext E259
      have F263_259 := F257_253.ext E259
      have F264_259 := Ex253.ext E259
      have F265_259 := V_b253.ext E259
      have V_b259 : Arf Z h259 b259 .byte ld (fun i => (.int ((fun _ => (0 : Int32)) i))) := Arf.new A259 (own_n15 _ b_ld)
      obtain ⟨T267, h267, X267, e267, E267, A267, D267, -, st267⟩ := newO X259 hx hZ hown (hw _ (mgE 2 rfl)) (hw _ (mgE 3 rfl)) (hw _ (mgE 4 rfl)) e259 (g := (mkF m 135 #[.val (.int p1), .val (.int p2), .val (.int p3), .val (.int p4), .val (.int p5), .val (.int p6), .val (.int la), .val (.int lb), .val (.int lc), .val (.int ld), .val (.int (0 : Int32)), .val (.int (1 : Int32)), .val (.int kys), .val (.int tv1), .val (.int tv2), .val (.int tv3), .val (.ref b247), .val (.ref b249), .val (.ref b253), .val (.ref b259), .unset, .unset, .unset, .unset, .unset, .unset, .unset, .unset, .unset, .unset, .unset, .unset, .unset, .unset, .unset] [])) rfl (hb hby at_135) (by decide) (by decide)
      obtain ⟨b267, g267⟩ : ∃ z, z = h259.size := ⟨_, rfl⟩
      rw [← g267] at A267 D267 st267
      have ne_b247_b267 : b247 ≠ b267 := Nat.ne_of_lt (Nat.lt_of_lt_of_le F260_259.lt (Nat.le_of_eq g267.symm))
      have ne_b249_b267 : b249 ≠ b267 := Nat.ne_of_lt (Nat.lt_of_lt_of_le F262_259.lt (Nat.le_of_eq g267.symm))
      have ne_b253_b267 : b253 ≠ b267 := Nat.ne_of_lt (Nat.lt_of_lt_of_le F264_259.lt (Nat.le_of_eq g267.symm))
      have ne_b259_b267 : b259 ≠ b267 := Nat.ne_of_lt (Nat.lt_of_lt_of_le Ex259.lt (Nat.le_of_eq g267.symm))
      have g_b267 : n0 ≤ b267 := Nat.le_trans Z259 (Nat.le_of_eq g267.symm)
      have Z267 : n0 ≤ h267.size := Nat.le_trans Z259 E267.1
      have F268_267 := F260_259.ext E267
      have F269_267 := F261_259.ext E267
      have F270_267 := F262_259.ext E267
      have F271_267 := F263_259.ext E267
      have F272_267 := F264_259.ext E267
      have F273_267 := F265_259.ext E267
      have F274_267 := Ex259.ext E267
      have F275_267 := V_b259.ext E267
      have F_target_b267 : Fld Z h267 b267 "com/example/accrete/accrete/engine/Sendings" "target" "[I" .null := D267 (Or.inl (hw _ (mgE 13 rfl))) (ty := (.array .int)) (by decide)
      have F_slot_b267 : Fld Z h267 b267 "com/example/accrete/accrete/engine/Sendings" "slot" "[I" .null := D267 (Or.inl (hw _ (mgE 15 rfl))) (ty := (.array .int)) (by decide)
      have F_value_b267 : Fld Z h267 b267 "com/example/accrete/accrete/engine/Sendings" "value" "[[B" .null := D267 (Or.inl (hw _ (mgE 19 rfl))) (ty := (.array (.array .byte))) (by decide)
      have F_taken_b267 : Fld Z h267 b267 "com/example/accrete/accrete/engine/Sendings" "taken" "[[B" .null := D267 (Or.inl (hw _ (mgE 21 rfl))) (ty := (.array (.array .byte))) (by decide)
      have F_sender_b267 : Fld Z h267 b267 "com/example/accrete/accrete/engine/Sendings" "sender" "[I" .null := D267 (Or.inl (hw _ (mgE 23 rfl))) (ty := (.array .int)) (by decide)
      have F_position_b267 : Fld Z h267 b267 "com/example/accrete/accrete/engine/Sendings" "position" "[I" .null := D267 (Or.inl (hw _ (mgE 25 rfl))) (ty := (.array .int)) (by decide)
      have F_starts_b267 : Fld Z h267 b267 "com/example/accrete/accrete/engine/Sendings" "starts" "[I" .null := D267 (Or.inl (hw _ (mgE 27 rfl))) (ty := (.array .int)) (by decide)
      have F_grouped_b267 : Fld Z h267 b267 "com/example/accrete/accrete/engine/Sendings" "grouped" "[I" .null := D267 (Or.inl (hw _ (mgE 29 rfl))) (ty := (.array .int)) (by decide)
      have F_next_b267 : Fld Z h267 b267 "com/example/accrete/accrete/engine/Sendings" "next" "[I" .null := D267 (Or.inl (hw _ (mgE 31 rfl))) (ty := (.array .int)) (by decide)
      have F_valuesCost_b267 : Fld Z h267 b267 "com/example/accrete/accrete/engine/Sendings" "valuesCost" "J" (.long (0 : Int64)) := D267 (Or.inl (hw _ (mgE 40 rfl))) (ty := .long) (by decide)
      have F_size_b267 : Fld Z h267 b267 "com/example/accrete/accrete/engine/Sendings" "size" "I" (.int (0 : Int32)) := D267 (Or.inl (hw _ (mgE 51 rfl))) (ty := .int) (by decide)
      obtain ⟨_, _, ⟨T277, L277, k277, n277⟩, -, X277, ⟨Lc277, hQ277, l277, y277, z277⟩, st277⟩ := X267.specialBack hx (y := (⟨"com/example/accrete/accrete/engine/Sendings", "<init>", "()V"⟩ : MethodName)) rfl hown (mvT hZ (hw _ (mgE 5 rfl))) (mvT hZ (hw _ (mgE 6 rfl))) (mvT hZ (hw _ (mgE 7 rfl))) (by decide) (backOf (W := 1) (rm1 l Z a0 hw [] b267 (.null) (.null) (.null) (.null) (.null) (.null) (.null) (.null) (.null) h267 n0 Z267 F_size_b267 F_valuesCost_b267 A267 F_target_b267 g_b267 F_slot_b267 F_value_b267 F_taken_b267 F_sender_b267 F_position_b267 F_starts_b267 F_grouped_b267 F_next_b267) hZ (hw _ (mgE 7 rfl)) (hw _ (mgE 4 rfl)) (by decide) (by decide)) (g := (mkF m 139 #[.val (.int p1), .val (.int p2), .val (.int p3), .val (.int p4), .val (.int p5), .val (.int p6), .val (.int la), .val (.int lb), .val (.int lc), .val (.int ld), .val (.int (0 : Int32)), .val (.int (1 : Int32)), .val (.int kys), .val (.int tv1), .val (.int tv2), .val (.int tv3), .val (.ref b247), .val (.ref b249), .val (.ref b253), .val (.ref b259), .unset, .unset, .unset, .unset, .unset, .unset, .unset, .unset, .unset, .unset, .unset, .unset, .unset, .unset, .unset] [(.ref b267), (.ref b267)])) rfl (by rw [hml]; rfl) (Steps.refl _) (a := b267) (argsL := []) (rest := [(.ref b267)]) (lenOf pd___V rfl) rfl (by show 2 * 0 + _ ≤ _; exact Nat.le_of_eq rfl) (hb hby at_139) (fun _ _ => ⟨rfl, e267, (by decide : 5 + 9 ≤ _), (by decide : 71 + 6146 ≤ _)⟩)
      dsimp only [Pt.U, Pt.locs, Pt.cells, Pt.slots] at X277 l277 y277 z277 st277 hQ277
      subst l277 y277 z277
      obtain ⟨ob277_1, ob277_2, ob277_3, ob277_4, ob277_5, ob277_6, ob277_7, ob277_8, ob277_9, rfl, N277q, K277, ozob277_1, ozob277_2, ozob277_3, ozob277_4, ozob277_5, ozob277_6, ozob277_7, ozob277_8, ozob277_9, ne_ob277_1_ob277_2, ne_ob277_1_ob277_3, ne_ob277_2_ob277_3, ne_ob277_1_ob277_4, ne_ob277_2_ob277_4, ne_ob277_3_ob277_4, ne_ob277_1_ob277_5, ne_ob277_2_ob277_5, ne_ob277_3_ob277_5, ne_ob277_4_ob277_5, ne_ob277_1_ob277_6, ne_ob277_2_ob277_6, ne_ob277_3_ob277_6, ne_ob277_4_ob277_6, ne_ob277_5_ob277_6, ne_ob277_1_ob277_7, ne_ob277_2_ob277_7, ne_ob277_3_ob277_7, ne_ob277_4_ob277_7, ne_ob277_5_ob277_7, ne_ob277_6_ob277_7, ne_ob277_1_ob277_8, ne_ob277_2_ob277_8, ne_ob277_3_ob277_8, ne_ob277_4_ob277_8, ne_ob277_5_ob277_8, ne_ob277_6_ob277_8, ne_ob277_7_ob277_8, ne_ob277_1_ob277_9, ne_ob277_2_ob277_9, ne_ob277_3_ob277_9, ne_ob277_4_ob277_9, ne_ob277_5_ob277_9, ne_ob277_6_ob277_9, ne_ob277_7_ob277_9, ne_ob277_8_ob277_9, Q277_0, Q277_1, Q277_2, Q277_3, Q277_4, Q277_5, Q277_6, Q277_7, Q277_8, Q277_9, Q277_10, Q277_11, Q277_12, Q277_13, Q277_14, Q277_15, Q277_16, Q277_17, Q277_18, Q277_19, Q277_20, Q277_21, Q277_22⟩ := hQ277
      have ne_b267_ob277_1 : b267 ≠ ob277_1 := Nat.ne_of_lt (Nat.lt_of_lt_of_le A267.lt ozob277_1)
      have ne_b267_ob277_2 : b267 ≠ ob277_2 := Nat.ne_of_lt (Nat.lt_of_lt_of_le A267.lt ozob277_2)
      have ne_b247_ob277_3 : b247 ≠ ob277_3 := Nat.ne_of_lt (Nat.lt_of_lt_of_le F268_267.lt ozob277_3)
      have ne_b249_ob277_3 : b249 ≠ ob277_3 := Nat.ne_of_lt (Nat.lt_of_lt_of_le F270_267.lt ozob277_3)
      have ne_b253_ob277_3 : b253 ≠ ob277_3 := Nat.ne_of_lt (Nat.lt_of_lt_of_le F272_267.lt ozob277_3)
      have ne_b259_ob277_3 : b259 ≠ ob277_3 := Nat.ne_of_lt (Nat.lt_of_lt_of_le F274_267.lt ozob277_3)
      have ne_b267_ob277_3 : b267 ≠ ob277_3 := Nat.ne_of_lt (Nat.lt_of_lt_of_le A267.lt ozob277_3)
      have g_ob277_3 : n0 ≤ ob277_3 := Nat.le_trans Z267 ozob277_3
      have ne_b247_ob277_4 : b247 ≠ ob277_4 := Nat.ne_of_lt (Nat.lt_of_lt_of_le F268_267.lt ozob277_4)
      have ne_b249_ob277_4 : b249 ≠ ob277_4 := Nat.ne_of_lt (Nat.lt_of_lt_of_le F270_267.lt ozob277_4)
      have ne_b253_ob277_4 : b253 ≠ ob277_4 := Nat.ne_of_lt (Nat.lt_of_lt_of_le F272_267.lt ozob277_4)
      have ne_b259_ob277_4 : b259 ≠ ob277_4 := Nat.ne_of_lt (Nat.lt_of_lt_of_le F274_267.lt ozob277_4)
      have ne_b267_ob277_4 : b267 ≠ ob277_4 := Nat.ne_of_lt (Nat.lt_of_lt_of_le A267.lt ozob277_4)
      have g_ob277_4 : n0 ≤ ob277_4 := Nat.le_trans Z267 ozob277_4
      have ne_b247_ob277_5 : b247 ≠ ob277_5 := Nat.ne_of_lt (Nat.lt_of_lt_of_le F268_267.lt ozob277_5)
      have ne_b249_ob277_5 : b249 ≠ ob277_5 := Nat.ne_of_lt (Nat.lt_of_lt_of_le F270_267.lt ozob277_5)
      have ne_b253_ob277_5 : b253 ≠ ob277_5 := Nat.ne_of_lt (Nat.lt_of_lt_of_le F272_267.lt ozob277_5)
      have ne_b259_ob277_5 : b259 ≠ ob277_5 := Nat.ne_of_lt (Nat.lt_of_lt_of_le F274_267.lt ozob277_5)
      have ne_b267_ob277_5 : b267 ≠ ob277_5 := Nat.ne_of_lt (Nat.lt_of_lt_of_le A267.lt ozob277_5)
      have g_ob277_5 : n0 ≤ ob277_5 := Nat.le_trans Z267 ozob277_5
      have ne_b267_ob277_6 : b267 ≠ ob277_6 := Nat.ne_of_lt (Nat.lt_of_lt_of_le A267.lt ozob277_6)
      have ne_b247_ob277_7 : b247 ≠ ob277_7 := Nat.ne_of_lt (Nat.lt_of_lt_of_le F268_267.lt ozob277_7)
      have ne_b249_ob277_7 : b249 ≠ ob277_7 := Nat.ne_of_lt (Nat.lt_of_lt_of_le F270_267.lt ozob277_7)
      have ne_b253_ob277_7 : b253 ≠ ob277_7 := Nat.ne_of_lt (Nat.lt_of_lt_of_le F272_267.lt ozob277_7)
      have ne_b259_ob277_7 : b259 ≠ ob277_7 := Nat.ne_of_lt (Nat.lt_of_lt_of_le F274_267.lt ozob277_7)
      have ne_b267_ob277_7 : b267 ≠ ob277_7 := Nat.ne_of_lt (Nat.lt_of_lt_of_le A267.lt ozob277_7)
      have g_ob277_7 : n0 ≤ ob277_7 := Nat.le_trans Z267 ozob277_7
      have ne_b247_ob277_8 : b247 ≠ ob277_8 := Nat.ne_of_lt (Nat.lt_of_lt_of_le F268_267.lt ozob277_8)
      have ne_b249_ob277_8 : b249 ≠ ob277_8 := Nat.ne_of_lt (Nat.lt_of_lt_of_le F270_267.lt ozob277_8)
      have ne_b253_ob277_8 : b253 ≠ ob277_8 := Nat.ne_of_lt (Nat.lt_of_lt_of_le F272_267.lt ozob277_8)
      have ne_b259_ob277_8 : b259 ≠ ob277_8 := Nat.ne_of_lt (Nat.lt_of_lt_of_le F274_267.lt ozob277_8)
      have ne_b267_ob277_8 : b267 ≠ ob277_8 := Nat.ne_of_lt (Nat.lt_of_lt_of_le A267.lt ozob277_8)
      have g_ob277_8 : n0 ≤ ob277_8 := Nat.le_trans Z267 ozob277_8
      have ne_b247_ob277_9 : b247 ≠ ob277_9 := Nat.ne_of_lt (Nat.lt_of_lt_of_le F268_267.lt ozob277_9)
      have ne_b249_ob277_9 : b249 ≠ ob277_9 := Nat.ne_of_lt (Nat.lt_of_lt_of_le F270_267.lt ozob277_9)
      have ne_b253_ob277_9 : b253 ≠ ob277_9 := Nat.ne_of_lt (Nat.lt_of_lt_of_le F272_267.lt ozob277_9)
      have ne_b259_ob277_9 : b259 ≠ ob277_9 := Nat.ne_of_lt (Nat.lt_of_lt_of_le F274_267.lt ozob277_9)
      have ne_b267_ob277_9 : b267 ≠ ob277_9 := Nat.ne_of_lt (Nat.lt_of_lt_of_le A267.lt ozob277_9)
      have g_ob277_9 : n0 ≤ ob277_9 := Nat.le_trans Z267 ozob277_9
      have F278_277 := F268_267.keep K277
      have F279_277 := F269_267.keep K277 (ninS ne_b247_b267 nin0)
      have F280_277 := F270_267.keep K277
      have F281_277 := F271_267.keep K277 (ninS ne_b249_b267 nin0)
      have F282_277 := F272_267.keep K277
      have F283_277 := F273_267.keep K277 (ninS ne_b253_b267 nin0)
      have F284_277 := F274_267.keep K277
      have F285_277 := F275_267.keep K277 (ninS ne_b259_b267 nin0)
      have Z277 : n0 ≤ T277.heap.size := Nat.le_trans Z267 K277.1
      have N277 := Fr.app N0 N277q
      obtain ⟨cq299, kq299, q299a, q299b, q299c⟩ := isOf hZ rfl Q277_0
      obtain ⟨_, _, ⟨T299, L299, k299, n299⟩, -, X299, ⟨Lc299, hQ299, l299, y299, z299⟩, st299⟩ := X277.virtualBack hx (y := (⟨"com/example/accrete/accrete/engine/Sendings", "cost", "()J"⟩ : MethodName)) (z := (⟨"com/example/accrete/accrete/engine/Sendings", "cost", "()J"⟩ : MethodName)) hown (mvT hZ (hw _ (mgE 32 rfl))) (mvT hZ (hw _ (mgE 33 rfl))) (notFace_of_selects (args := #[]) (mvT hZ (hw _ (mgE 35 rfl)))) (mvT hZ (hw _ (mgE 35 rfl))) (mvT hZ (hw _ (mgE 34 rfl))) (by decide) (backOf (W := 0) (rm3 l Z a0 hw [] b267 ob277_8 (1024 : Int32) (fun _ => (0 : Int32)) ob277_6 (1 : Int32) (fun _ => (0 : Int32)) ob277_1 (0 : Int32) (fun _ => (0 : Int32)) ob277_2 (1 : Int32) (fun _ => (0 : Int32)) (0 : Int64) T277.heap n0 Z277 Q277_9 Q277_21 Q277_7 Q277_19 Q277_1 Q277_14 Q277_2 Q277_15 Q277_11) hZ (hw _ (mgE 36 rfl)) (hw _ (mgE 4 rfl)) (by decide) (by decide)) q299a q299c (g := (mkF m 146 #[.val (.int p1), .val (.int p2), .val (.int p3), .val (.int p4), .val (.int p5), .val (.int p6), .val (.int la), .val (.int lb), .val (.int lc), .val (.int ld), .val (.int (0 : Int32)), .val (.int (1 : Int32)), .val (.int kys), .val (.int tv1), .val (.int tv2), .val (.int tv3), .val (.ref b247), .val (.ref b249), .val (.ref b253), .val (.ref b259), .val (.ref b267), .unset, .unset, .unset, .unset, .unset, .unset, .unset, .unset, .unset, .unset, .unset, .unset, .unset, .unset] [(.ref b267)])) rfl (by rw [hml]; rfl) (Steps.refl _) (argsL := []) (rest := []) (lenOf pd___J rfl) rfl (by show 2 * 0 + _ ≤ _; exact Nat.le_of_eq rfl) (hb hby at_146) (fun _ _ => ⟨rfl, rfl, (by decide : 14 + 0 ≤ _), (by decide : 6217 + 0 ≤ _)⟩)
      dsimp only [Pt.U, Pt.locs, Pt.cells, Pt.slots] at X299 l299 y299 z299 st299 hQ299
      subst l299 y299 z299
      obtain ⟨rfl, N299q, e299⟩ := hQ299
      have N299 := Fr.app N277 N299q
      have pre301 : ∀ t, Steps p.tables e below (T299.setTop (mkF m 151 #[.val (.int p1), .val (.int p2), .val (.int p3), .val (.int p4), .val (.int p5), .val (.int p6), .val (.int la), .val (.int lb), .val (.int lc), .val (.int ld), .val (.int (0 : Int32)), .val (.int (1 : Int32)), .val (.int kys), .val (.int tv1), .val (.int tv2), .val (.int tv3), .val (.ref b247), .val (.ref b249), .val (.ref b253), .val (.ref b259), .val (.ref b267), .val (.long (cst (1024 : Int32) (1 : Int32) (0 : Int32) (1 : Int32) (0 : Int64))), .second, .unset, .unset, .unset, .unset, .unset, .unset, .unset, .unset, .unset, .unset, .unset, .unset] [])) t → EN t := fun t kt => by
        refine pre246 t ?_
        refine XS.iload X0.here hx rfl (hb hby at_102) rfl ?_
        refine st247 t ?_
        refine XS.astore X247.here hx rfl (hb hby at_106) rfl rfl (l' := #[.val (.int p1), .val (.int p2), .val (.int p3), .val (.int p4), .val (.int p5), .val (.int p6), .val (.int la), .val (.int lb), .val (.int lc), .val (.int ld), .val (.int (0 : Int32)), .val (.int (1 : Int32)), .val (.int kys), .val (.int tv1), .val (.int tv2), .val (.int tv3), .val (.ref b247), .unset, .unset, .unset, .unset, .unset, .unset, .unset, .unset, .unset, .unset, .unset, .unset, .unset, .unset, .unset, .unset, .unset, .unset]) rfl ?_
        refine XS.iload X247.here hx rfl (hb hby at_108) rfl ?_
        refine st249 t ?_
        refine XS.astore X249.here hx rfl (hb hby at_112) rfl rfl (l' := #[.val (.int p1), .val (.int p2), .val (.int p3), .val (.int p4), .val (.int p5), .val (.int p6), .val (.int la), .val (.int lb), .val (.int lc), .val (.int ld), .val (.int (0 : Int32)), .val (.int (1 : Int32)), .val (.int kys), .val (.int tv1), .val (.int tv2), .val (.int tv3), .val (.ref b247), .val (.ref b249), .unset, .unset, .unset, .unset, .unset, .unset, .unset, .unset, .unset, .unset, .unset, .unset, .unset, .unset, .unset, .unset, .unset]) rfl ?_
        refine XS.iload X249.here hx rfl (hb hby at_114) rfl ?_
        refine XS.ifYes X249.here hx rfl (pc0 := 116) (pc' := 123) rfl (hb hby at_116) rfl ((if0 _ _).trans (teq (by decide : (0 : Int32) = (0 : Int32))).1) (by decide) (by decide) ?_
        refine XS.iload X249.here hx rfl (hb hby at_123) rfl ?_
        refine st253 t ?_
        show Steps p.tables e below (T253.setTop (mkF m 127 #[.val (.int p1), .val (.int p2), .val (.int p3), .val (.int p4), .val (.int p5), .val (.int p6), .val (.int la), .val (.int lb), .val (.int lc), .val (.int ld), .val (.int (0 : Int32)), .val (.int (1 : Int32)), .val (.int kys), .val (.int tv1), .val (.int tv2), .val (.int tv3), .val (.ref b247), .val (.ref b249), .unset, .unset, .unset, .unset, .unset, .unset, .unset, .unset, .unset, .unset, .unset, .unset, .unset, .unset, .unset, .unset, .unset] [(.ref b253)])) _
        refine XS.astore X253.here hx rfl (hb hby at_127) rfl rfl (l' := #[.val (.int p1), .val (.int p2), .val (.int p3), .val (.int p4), .val (.int p5), .val (.int p6), .val (.int la), .val (.int lb), .val (.int lc), .val (.int ld), .val (.int (0 : Int32)), .val (.int (1 : Int32)), .val (.int kys), .val (.int tv1), .val (.int tv2), .val (.int tv3), .val (.ref b247), .val (.ref b249), .val (.ref b253), .unset, .unset, .unset, .unset, .unset, .unset, .unset, .unset, .unset, .unset, .unset, .unset, .unset, .unset, .unset, .unset]) rfl ?_
        refine XS.iload X253.here hx rfl (hb hby at_129) rfl ?_
        refine st259 t ?_
        refine XS.astore X259.here hx rfl (hb hby at_133) rfl rfl (l' := #[.val (.int p1), .val (.int p2), .val (.int p3), .val (.int p4), .val (.int p5), .val (.int p6), .val (.int la), .val (.int lb), .val (.int lc), .val (.int ld), .val (.int (0 : Int32)), .val (.int (1 : Int32)), .val (.int kys), .val (.int tv1), .val (.int tv2), .val (.int tv3), .val (.ref b247), .val (.ref b249), .val (.ref b253), .val (.ref b259), .unset, .unset, .unset, .unset, .unset, .unset, .unset, .unset, .unset, .unset, .unset, .unset, .unset, .unset, .unset]) rfl ?_
        refine st267 t ?_
        refine XS.dup X267.here hx rfl (hb hby at_138) rfl rfl ?_
        refine st277.trans ?_
        refine XS.astore X277.here hx rfl (hb hby at_142) rfl rfl (l' := #[.val (.int p1), .val (.int p2), .val (.int p3), .val (.int p4), .val (.int p5), .val (.int p6), .val (.int la), .val (.int lb), .val (.int lc), .val (.int ld), .val (.int (0 : Int32)), .val (.int (1 : Int32)), .val (.int kys), .val (.int tv1), .val (.int tv2), .val (.int tv3), .val (.ref b247), .val (.ref b249), .val (.ref b253), .val (.ref b259), .val (.ref b267), .unset, .unset, .unset, .unset, .unset, .unset, .unset, .unset, .unset, .unset, .unset, .unset, .unset, .unset]) rfl ?_
        refine XS.aload X277.here hx rfl (hb hby at_144) rfl rfl ?_
        refine st299.trans ?_
        show Steps p.tables e below (T299.setTop (mkF m 149 #[.val (.int p1), .val (.int p2), .val (.int p3), .val (.int p4), .val (.int p5), .val (.int p6), .val (.int la), .val (.int lb), .val (.int lc), .val (.int ld), .val (.int (0 : Int32)), .val (.int (1 : Int32)), .val (.int kys), .val (.int tv1), .val (.int tv2), .val (.int tv3), .val (.ref b247), .val (.ref b249), .val (.ref b253), .val (.ref b259), .val (.ref b267), .unset, .unset, .unset, .unset, .unset, .unset, .unset, .unset, .unset, .unset, .unset, .unset, .unset, .unset] [(.long (cst (1024 : Int32) (1 : Int32) (0 : Int32) (1 : Int32) (0 : Int64)))])) _
        refine XS.lstore X299.here hx rfl (hb hby at_149) rfl (l' := #[.val (.int p1), .val (.int p2), .val (.int p3), .val (.int p4), .val (.int p5), .val (.int p6), .val (.int la), .val (.int lb), .val (.int lc), .val (.int ld), .val (.int (0 : Int32)), .val (.int (1 : Int32)), .val (.int kys), .val (.int tv1), .val (.int tv2), .val (.int tv3), .val (.ref b247), .val (.ref b249), .val (.ref b253), .val (.ref b259), .val (.ref b267), .val (.long (cst (1024 : Int32) (1 : Int32) (0 : Int32) (1 : Int32) (0 : Int64))), .second, .unset, .unset, .unset, .unset, .unset, .unset, .unset, .unset, .unset, .unset, .unset, .unset]) rfl ?_
        exact kt
      obtain ⟨fre, h_fre⟩ : ∃ z, z = (cst (1024 : Int32) (1 : Int32) (0 : Int32) (1 : Int32) (0 : Int64)) := ⟨_, rfl⟩
      rw [← h_fre] at pre301
      obtain ⟨cq302, kq302, q302a, q302b, q302c⟩ := isOf hZ e299 Q277_0
      obtain ⟨_, _, ⟨T302, L302, k302, n302⟩, -, X302, ⟨Lc302, hQ302, l302, y302, z302⟩, st302⟩ := X299.virtualBack hx (y := (⟨"com/example/accrete/accrete/engine/Sendings", "sendInPlace", "(I[B[BII)V"⟩ : MethodName)) (z := (⟨"com/example/accrete/accrete/engine/Sendings", "sendInPlace", "(I[B[BII)V"⟩ : MethodName)) hown (mvT hZ (hw _ (mgE 41 rfl))) (mvT hZ (hw _ (mgE 42 rfl))) (notFace_of_selects (args := #[]) (mvT hZ (hw _ (mgE 44 rfl)))) (mvT hZ (hw _ (mgE 44 rfl))) (mvT hZ (hw _ (mgE 43 rfl))) (by decide) (backOf (W := 0) (rm4 l Z a0 hw [] b267 tv1 b247 b249 p6 p5 ob277_8 ob277_5 ob277_4 ob277_3 ob277_9 ob277_7 ob277_6 ob277_1 ob277_2 (0 : Int64) (fun _ => (0 : Int32)) (fun _ => (0 : Int32)) (fun _ => (0 : Int32)) (fun _ => (0 : Int32)) (fun _ => Value.null) (fun _ => Value.null) la (fun _ => (0 : Int32)) lb (fun _ => (0 : Int32)) T277.heap n0 Z277 Q277_5 Q277_9 Q277_6 Q277_4 Q277_3 Q277_10 Q277_8 Q277_7 Q277_1 Q277_2 Q277_11 Q277_21 Q277_18 Q277_17 Q277_16 Q277_22 Q277_20 Q277_13 Q277_12 g_ob277_8 ne_b267_ob277_8 ne_ob277_5_ob277_8 ne_ob277_4_ob277_8 ne_ob277_3_ob277_8 (Ne.symm ne_ob277_8_ob277_9) ne_ob277_7_ob277_8 g_ob277_5 ne_b267_ob277_5 ne_ob277_4_ob277_5 ne_ob277_3_ob277_5 (Ne.symm ne_ob277_5_ob277_9) (Ne.symm ne_ob277_5_ob277_7) g_ob277_7 F278_277 ne_b267_ob277_7 ne_ob277_4_ob277_7 ne_ob277_3_ob277_7 (Ne.symm ne_ob277_7_ob277_9) g_ob277_9 F280_277 ne_b267_ob277_9 ne_ob277_4_ob277_9 ne_ob277_3_ob277_9 g_ob277_4 ne_b267_ob277_4 ne_ob277_3_ob277_4 g_ob277_3 ne_b267_ob277_3 Q277_0 g_b267 F279_277 ne_b247_ob277_8 ne_b247_ob277_5 ne_b247_ob277_7 ne_b247_ob277_9 ne_b247_ob277_4 ne_b247_ob277_3 ne_b247_b267 F281_277 ne_b249_ob277_8 ne_b249_ob277_5 ne_b249_ob277_7 ne_b249_ob277_9 ne_b249_ob277_4 ne_b249_ob277_3 ne_b249_b267) hZ (hw _ (mgE 45 rfl)) (hw _ (mgE 4 rfl)) (by decide) (by decide)) q302a q302c (g := (mkF m 163 #[.val (.int p1), .val (.int p2), .val (.int p3), .val (.int p4), .val (.int p5), .val (.int p6), .val (.int la), .val (.int lb), .val (.int lc), .val (.int ld), .val (.int (0 : Int32)), .val (.int (1 : Int32)), .val (.int kys), .val (.int tv1), .val (.int tv2), .val (.int tv3), .val (.ref b247), .val (.ref b249), .val (.ref b253), .val (.ref b259), .val (.ref b267), .val (.long fre), .second, .unset, .unset, .unset, .unset, .unset, .unset, .unset, .unset, .unset, .unset, .unset, .unset] [(.int p5), (.int p6), (.ref b249), (.ref b247), (.int tv1), (.ref b267)])) rfl (by rw [hml]; rfl) (Steps.refl _) (argsL := [(.int tv1), (.ref b247), (.ref b249), (.int p6), (.int p5)]) (rest := []) (lenOf pd__I_B_BII_V rfl) rfl (by show 2 * 0 + _ ≤ _; exact Nat.le_of_eq rfl) (hb hby at_163) (fun _ _ => ⟨rfl, e299, (by decide : 14 + 0 ≤ _), (by decide : 6217 + 0 ≤ _)⟩)
      dsimp only [Pt.U, Pt.locs, Pt.cells, Pt.slots] at X302 l302 y302 z302 st302 hQ302
      subst l302 y302 z302
      obtain ⟨rfl, N302q, K302, Q302_0, Q302_1, Q302_2, Q302_3, Q302_4, Q302_5, Q302_6, Q302_7, Q302_8, Q302_9, Q302_10, Q302_11, Q302_12, Q302_13, Q302_14, Q302_15, Q302_16, Q302_17, Q302_18, Q302_19⟩ := hQ302
      have F307_302 := F282_277.keep K302
      have F308_302 := F283_277.keep K302 (ninS ne_b253_b267 (ninS ne_b253_ob277_3 (ninS ne_b253_ob277_4 (ninS ne_b253_ob277_9 (ninS ne_b253_ob277_7 (ninS ne_b253_ob277_5 (ninS ne_b253_ob277_8 nin0)))))))
      have F309_302 := F284_277.keep K302
      have F310_302 := F285_277.keep K302 (ninS ne_b259_b267 (ninS ne_b259_ob277_3 (ninS ne_b259_ob277_4 (ninS ne_b259_ob277_9 (ninS ne_b259_ob277_7 (ninS ne_b259_ob277_5 (ninS ne_b259_ob277_8 nin0)))))))
      have F325_302 := Q277_14.keep K302 (ninS (Ne.symm ne_b267_ob277_1) (ninS ne_ob277_1_ob277_3 (ninS ne_ob277_1_ob277_4 (ninS ne_ob277_1_ob277_9 (ninS ne_ob277_1_ob277_7 (ninS ne_ob277_1_ob277_5 (ninS ne_ob277_1_ob277_8 nin0)))))))
      have F326_302 := Q277_15.keep K302 (ninS (Ne.symm ne_b267_ob277_2) (ninS ne_ob277_2_ob277_3 (ninS ne_ob277_2_ob277_4 (ninS ne_ob277_2_ob277_9 (ninS ne_ob277_2_ob277_7 (ninS ne_ob277_2_ob277_5 (ninS ne_ob277_2_ob277_8 nin0)))))))
      have F330_302 := Q277_19.keep K302 (ninS (Ne.symm ne_b267_ob277_6) (ninS (Ne.symm ne_ob277_3_ob277_6) (ninS (Ne.symm ne_ob277_4_ob277_6) (ninS ne_ob277_6_ob277_9 (ninS ne_ob277_6_ob277_7 (ninS (Ne.symm ne_ob277_5_ob277_6) (ninS ne_ob277_6_ob277_8 nin0)))))))
      have Z302 : n0 ≤ T302.heap.size := Nat.le_trans Z277 K302.1
      have N302 := Fr.app N299 N302q
      obtain ⟨cq335, kq335, q335a, q335b, q335c⟩ := isOf hZ rfl Q302_0
      obtain ⟨_, _, ⟨T335, L335, k335, n335⟩, -, X335, ⟨Lc335, hQ335, l335, y335, z335⟩, st335⟩ := X302.virtualBack hx (y := (⟨"com/example/accrete/accrete/engine/Sendings", "putInSlot", "(II[BI)V"⟩ : MethodName)) (z := (⟨"com/example/accrete/accrete/engine/Sendings", "putInSlot", "(II[BI)V"⟩ : MethodName)) hown (mvT hZ (hw _ (mgE 56 rfl))) (mvT hZ (hw _ (mgE 57 rfl))) (notFace_of_selects (args := #[]) (mvT hZ (hw _ (mgE 59 rfl)))) (mvT hZ (hw _ (mgE 59 rfl))) (mvT hZ (hw _ (mgE 58 rfl))) (by decide) (backOf (W := 0) (rm7v l Z a0 hw [] b267 tv2 p5 b253 p6 ob277_8 ob277_5 ob277_4 ob277_3 ob277_9 ob277_7 ob277_6 ob277_1 ob277_2 ((0 : Int64) + ((((16 : Int32) + la).toInt64) + (((16 : Int32) + lb).toInt64))) (own_upd (fun _ => (0 : Int32)) ((0 : Int32)).toNatClampNeg tv1) (own_upd (fun _ => (0 : Int32)) ((0 : Int32)).toNatClampNeg (-3 : Int32)) (own_upd (fun _ => (0 : Int32)) ((0 : Int32)).toNatClampNeg p6) (own_upd (fun _ => (0 : Int32)) ((0 : Int32)).toNatClampNeg p5) (own_upd (fun _ => Value.null) ((0 : Int32)).toNatClampNeg (Value.ref b249)) (own_upd (fun _ => Value.null) ((0 : Int32)).toNatClampNeg (Value.ref b247)) lc (fun _ => (0 : Int32)) T302.heap n0 Z302 Q302_5 Q302_9 Q302_6 Q302_4 Q302_3 Q302_10 Q302_8 Q302_7 Q302_1 Q302_2 Q302_11 Q302_18 Q302_16 Q302_15 Q302_14 Q302_19 Q302_17 Q302_13 Q302_12 g_ob277_8 ne_b267_ob277_8 ne_ob277_5_ob277_8 ne_ob277_4_ob277_8 ne_ob277_3_ob277_8 (Ne.symm ne_ob277_8_ob277_9) ne_ob277_7_ob277_8 g_ob277_5 ne_b267_ob277_5 ne_ob277_4_ob277_5 ne_ob277_3_ob277_5 (Ne.symm ne_ob277_5_ob277_9) (Ne.symm ne_ob277_5_ob277_7) g_ob277_7 ne_b267_ob277_7 ne_ob277_4_ob277_7 ne_ob277_3_ob277_7 (Ne.symm ne_ob277_7_ob277_9) g_ob277_9 F307_302 ne_b267_ob277_9 ne_ob277_4_ob277_9 ne_ob277_3_ob277_9 g_ob277_4 ne_b267_ob277_4 ne_ob277_3_ob277_4 g_ob277_3 ne_b267_ob277_3 Q302_0 g_b267 F308_302 ne_b253_ob277_8 ne_b253_ob277_5 ne_b253_ob277_7 ne_b253_ob277_9 ne_b253_ob277_4 ne_b253_ob277_3 ne_b253_b267) hZ (hw _ (mgE 60 rfl)) (hw _ (mgE 4 rfl)) (by decide) (by decide)) q335a q335c (g := (mkF m 176 #[.val (.int p1), .val (.int p2), .val (.int p3), .val (.int p4), .val (.int p5), .val (.int p6), .val (.int la), .val (.int lb), .val (.int lc), .val (.int ld), .val (.int (0 : Int32)), .val (.int (1 : Int32)), .val (.int kys), .val (.int tv1), .val (.int tv2), .val (.int tv3), .val (.ref b247), .val (.ref b249), .val (.ref b253), .val (.ref b259), .val (.ref b267), .val (.long fre), .second, .unset, .unset, .unset, .unset, .unset, .unset, .unset, .unset, .unset, .unset, .unset, .unset] [(.int p6), (.ref b253), (.int p5), (.int tv2), (.ref b267)])) rfl (by rw [hml]; rfl) (Steps.refl _) (argsL := [(.int tv2), (.int p5), (.ref b253), (.int p6)]) (rest := []) (lenOf pd__II_BI_V rfl) rfl (by show 2 * 0 + _ ≤ _; exact Nat.le_of_eq rfl) (hb hby at_176) (fun _ _ => ⟨rfl, rfl, (by decide : 14 + 0 ≤ _), (by decide : 6217 + 0 ≤ _)⟩)
      dsimp only [Pt.U, Pt.locs, Pt.cells, Pt.slots] at X335 l335 y335 z335 st335 hQ335
      subst l335 y335 z335
      obtain ⟨rfl, N335q, K335, Q335_0, Q335_1, Q335_2, Q335_3, Q335_4, Q335_5, Q335_6, Q335_7, Q335_8, Q335_9, Q335_10, Q335_11, Q335_12, Q335_13, Q335_14, Q335_15, Q335_16, Q335_17, Q335_18, Q335_19⟩ := hQ335
      have F342_335 := F309_302.keep K335
      have F343_335 := F310_302.keep K335 (ninS ne_b259_b267 (ninS ne_b259_ob277_3 (ninS ne_b259_ob277_4 (ninS ne_b259_ob277_9 (ninS ne_b259_ob277_7 (ninS ne_b259_ob277_5 (ninS ne_b259_ob277_8 nin0)))))))
      have F347_335 := F325_302.keep K335 (ninS (Ne.symm ne_b267_ob277_1) (ninS ne_ob277_1_ob277_3 (ninS ne_ob277_1_ob277_4 (ninS ne_ob277_1_ob277_9 (ninS ne_ob277_1_ob277_7 (ninS ne_ob277_1_ob277_5 (ninS ne_ob277_1_ob277_8 nin0)))))))
      have F348_335 := F326_302.keep K335 (ninS (Ne.symm ne_b267_ob277_2) (ninS ne_ob277_2_ob277_3 (ninS ne_ob277_2_ob277_4 (ninS ne_ob277_2_ob277_9 (ninS ne_ob277_2_ob277_7 (ninS ne_ob277_2_ob277_5 (ninS ne_ob277_2_ob277_8 nin0)))))))
      have F349_335 := F330_302.keep K335 (ninS (Ne.symm ne_b267_ob277_6) (ninS (Ne.symm ne_ob277_3_ob277_6) (ninS (Ne.symm ne_ob277_4_ob277_6) (ninS ne_ob277_6_ob277_9 (ninS ne_ob277_6_ob277_7 (ninS (Ne.symm ne_ob277_5_ob277_6) (ninS ne_ob277_6_ob277_8 nin0)))))))
      have Z335 : n0 ≤ T335.heap.size := Nat.le_trans Z302 K335.1
      have N335 := Fr.app N302 N335q
      obtain ⟨cq368, kq368, q368a, q368b, q368c⟩ := isOf hZ rfl Q335_0
      obtain ⟨_, _, ⟨T368, L368, k368, n368⟩, -, X368, ⟨Lc368, hQ368, l368, y368, z368⟩, st368⟩ := X335.virtualBack hx (y := (⟨"com/example/accrete/accrete/engine/Sendings", "send", "(I[BII)V"⟩ : MethodName)) (z := (⟨"com/example/accrete/accrete/engine/Sendings", "send", "(I[BII)V"⟩ : MethodName)) hown (mvT hZ (hw _ (mgE 108 rfl))) (mvT hZ (hw _ (mgE 109 rfl))) (notFace_of_selects (args := #[]) (mvT hZ (hw _ (mgE 111 rfl)))) (mvT hZ (hw _ (mgE 111 rfl))) (mvT hZ (hw _ (mgE 110 rfl))) (by decide) (backOf (W := 0) (rm17 l Z a0 hw [] b267 tv3 b259 p6 p5 ob277_8 ob277_5 ob277_4 ob277_3 ob277_9 ob277_7 ob277_6 ob277_1 ob277_2 (((0 : Int64) + ((((16 : Int32) + la).toInt64) + (((16 : Int32) + lb).toInt64))) + ((0 : Int64) + (((16 : Int32) + lc).toInt64))) (own_upd (own_upd (fun _ => (0 : Int32)) ((0 : Int32)).toNatClampNeg tv1) ((1 : Int32)).toNatClampNeg tv2) (own_upd (own_upd (fun _ => (0 : Int32)) ((0 : Int32)).toNatClampNeg (-3 : Int32)) ((1 : Int32)).toNatClampNeg p5) (own_upd (own_upd (fun _ => (0 : Int32)) ((0 : Int32)).toNatClampNeg p6) ((1 : Int32)).toNatClampNeg p6) (own_upd (own_upd (fun _ => (0 : Int32)) ((0 : Int32)).toNatClampNeg p5) ((1 : Int32)).toNatClampNeg (-1 : Int32)) (own_upd (own_upd (fun _ => Value.null) ((0 : Int32)).toNatClampNeg (Value.ref b249)) ((1 : Int32)).toNatClampNeg (Value.ref b253)) (own_upd (own_upd (fun _ => Value.null) ((0 : Int32)).toNatClampNeg (Value.ref b247)) ((1 : Int32)).toNatClampNeg Value.null) ld (fun _ => (0 : Int32)) T335.heap n0 Z335 Q335_5 Q335_9 Q335_6 Q335_4 Q335_3 Q335_10 Q335_8 Q335_7 Q335_1 Q335_2 Q335_11 Q335_18 Q335_16 Q335_15 Q335_14 Q335_19 Q335_17 Q335_13 Q335_12 g_ob277_8 ne_b267_ob277_8 ne_ob277_5_ob277_8 ne_ob277_4_ob277_8 ne_ob277_3_ob277_8 (Ne.symm ne_ob277_8_ob277_9) ne_ob277_7_ob277_8 g_ob277_5 ne_b267_ob277_5 ne_ob277_4_ob277_5 ne_ob277_3_ob277_5 (Ne.symm ne_ob277_5_ob277_9) (Ne.symm ne_ob277_5_ob277_7) g_ob277_7 ne_b267_ob277_7 ne_ob277_4_ob277_7 ne_ob277_3_ob277_7 (Ne.symm ne_ob277_7_ob277_9) g_ob277_9 F342_335 ne_b267_ob277_9 ne_ob277_4_ob277_9 ne_ob277_3_ob277_9 g_ob277_4 ne_b267_ob277_4 ne_ob277_3_ob277_4 g_ob277_3 ne_b267_ob277_3 Q335_0 g_b267 F343_335 ne_b259_ob277_8 ne_b259_ob277_5 ne_b259_ob277_7 ne_b259_ob277_9 ne_b259_ob277_4 ne_b259_ob277_3 ne_b259_b267) hZ (hw _ (mgE 112 rfl)) (hw _ (mgE 4 rfl)) (by decide) (by decide)) q368a q368c (g := (mkF m 194 #[.val (.int p1), .val (.int p2), .val (.int p3), .val (.int p4), .val (.int p5), .val (.int p6), .val (.int la), .val (.int lb), .val (.int lc), .val (.int ld), .val (.int (0 : Int32)), .val (.int (1 : Int32)), .val (.int kys), .val (.int tv1), .val (.int tv2), .val (.int tv3), .val (.ref b247), .val (.ref b249), .val (.ref b253), .val (.ref b259), .val (.ref b267), .val (.long fre), .second, .unset, .unset, .unset, .unset, .unset, .unset, .unset, .unset, .unset, .unset, .unset, .unset] [(.int p5), (.int p6), (.ref b259), (.int tv3), (.ref b267)])) rfl (by rw [hml]; rfl) (Steps.refl _) (argsL := [(.int tv3), (.ref b259), (.int p6), (.int p5)]) (rest := []) (lenOf pd__I_BII_V rfl) rfl (by show 2 * 0 + _ ≤ _; exact Nat.le_of_eq rfl) (hb hby at_194) (fun _ _ => ⟨rfl, rfl, (by decide : 14 + 0 ≤ _), (by decide : 6217 + 0 ≤ _)⟩)
      dsimp only [Pt.U, Pt.locs, Pt.cells, Pt.slots] at X368 l368 y368 z368 st368 hQ368
      subst l368 y368 z368
      obtain ⟨rfl, N368q, K368, Q368_0, Q368_1, Q368_2, Q368_3, Q368_4, Q368_5, Q368_6, Q368_7, Q368_8, Q368_9, Q368_10, Q368_11, Q368_12, Q368_13, Q368_14, Q368_15, Q368_16, Q368_17, Q368_18, Q368_19⟩ := hQ368
      have F380_368 := F347_335.keep K368 (ninS (Ne.symm ne_b267_ob277_1) (ninS ne_ob277_1_ob277_3 (ninS ne_ob277_1_ob277_4 (ninS ne_ob277_1_ob277_9 (ninS ne_ob277_1_ob277_7 (ninS ne_ob277_1_ob277_5 (ninS ne_ob277_1_ob277_8 nin0)))))))
      have F381_368 := F348_335.keep K368 (ninS (Ne.symm ne_b267_ob277_2) (ninS ne_ob277_2_ob277_3 (ninS ne_ob277_2_ob277_4 (ninS ne_ob277_2_ob277_9 (ninS ne_ob277_2_ob277_7 (ninS ne_ob277_2_ob277_5 (ninS ne_ob277_2_ob277_8 nin0)))))))
      have F382_368 := F349_335.keep K368 (ninS (Ne.symm ne_b267_ob277_6) (ninS (Ne.symm ne_ob277_3_ob277_6) (ninS (Ne.symm ne_ob277_4_ob277_6) (ninS ne_ob277_6_ob277_9 (ninS ne_ob277_6_ob277_7 (ninS (Ne.symm ne_ob277_5_ob277_6) (ninS ne_ob277_6_ob277_8 nin0)))))))
      have Z368 : n0 ≤ T368.heap.size := Nat.le_trans Z335 K368.1
      have N368 := Fr.app N335 N368q
      obtain ⟨cq401, kq401, q401a, q401b, q401c⟩ := isOf hZ rfl Q368_0
      obtain ⟨_, _, ⟨T401, L401, k401, n401⟩, -, X401, ⟨Lc401, hQ401, l401, y401, z401⟩, st401⟩ := X368.virtualBack hx (y := (⟨"com/example/accrete/accrete/engine/Sendings", "cost", "()J"⟩ : MethodName)) (z := (⟨"com/example/accrete/accrete/engine/Sendings", "cost", "()J"⟩ : MethodName)) hown (mvT hZ (hw _ (mgE 32 rfl))) (mvT hZ (hw _ (mgE 33 rfl))) (notFace_of_selects (args := #[]) (mvT hZ (hw _ (mgE 35 rfl)))) (mvT hZ (hw _ (mgE 35 rfl))) (mvT hZ (hw _ (mgE 34 rfl))) (by decide) (backOf (W := 0) (rm3 l Z a0 hw [] b267 ob277_8 (1024 : Int32) (own_upd (own_upd (own_upd (fun _ => (0 : Int32)) ((0 : Int32)).toNatClampNeg tv1) ((1 : Int32)).toNatClampNeg tv2) ((2 : Int32)).toNatClampNeg tv3) ob277_6 (1 : Int32) (fun _ => (0 : Int32)) ob277_1 (0 : Int32) (fun _ => (0 : Int32)) ob277_2 (1 : Int32) (fun _ => (0 : Int32)) ((((0 : Int64) + ((((16 : Int32) + la).toInt64) + (((16 : Int32) + lb).toInt64))) + ((0 : Int64) + (((16 : Int32) + lc).toInt64))) + ((0 : Int64) + (((16 : Int32) + ld).toInt64))) T368.heap n0 Z368 Q368_9 Q368_18 Q368_7 F382_368 Q368_1 F380_368 Q368_2 F381_368 Q368_11) hZ (hw _ (mgE 36 rfl)) (hw _ (mgE 4 rfl)) (by decide) (by decide)) q401a q401c (g := (mkF m 213 #[.val (.int p1), .val (.int p2), .val (.int p3), .val (.int p4), .val (.int p5), .val (.int p6), .val (.int la), .val (.int lb), .val (.int lc), .val (.int ld), .val (.int (0 : Int32)), .val (.int (1 : Int32)), .val (.int kys), .val (.int tv1), .val (.int tv2), .val (.int tv3), .val (.ref b247), .val (.ref b249), .val (.ref b253), .val (.ref b259), .val (.ref b267), .val (.long fre), .second, .unset, .unset, .unset, .unset, .unset, .unset, .unset, .unset, .unset, .unset, .unset, .unset] [(.ref b267)])) rfl (by rw [hml]; rfl) (Steps.refl _) (argsL := []) (rest := []) (lenOf pd___J rfl) rfl (by show 2 * 0 + _ ≤ _; exact Nat.le_of_eq rfl) (hb hby at_213) (fun _ _ => ⟨rfl, rfl, (by decide : 14 + 0 ≤ _), (by decide : 6217 + 0 ≤ _)⟩)
      dsimp only [Pt.U, Pt.locs, Pt.cells, Pt.slots] at X401 l401 y401 z401 st401 hQ401
      subst l401 y401 z401
      obtain ⟨rfl, N401q, e401⟩ := hQ401
      have N401 := Fr.app N368 N401q
      have pre403 : ∀ t, Steps p.tables e below (T401.setTop (mkF m 218 #[.val (.int p1), .val (.int p2), .val (.int p3), .val (.int p4), .val (.int p5), .val (.int p6), .val (.int la), .val (.int lb), .val (.int lc), .val (.int ld), .val (.int (0 : Int32)), .val (.int (1 : Int32)), .val (.int kys), .val (.int tv1), .val (.int tv2), .val (.int tv3), .val (.ref b247), .val (.ref b249), .val (.ref b253), .val (.ref b259), .val (.ref b267), .val (.long fre), .second, .val (.long (cst (1024 : Int32) (1 : Int32) (0 : Int32) (1 : Int32) ((((0 : Int64) + ((((16 : Int32) + la).toInt64) + (((16 : Int32) + lb).toInt64))) + ((0 : Int64) + (((16 : Int32) + lc).toInt64))) + ((0 : Int64) + (((16 : Int32) + ld).toInt64))))), .second, .unset, .unset, .unset, .unset, .unset, .unset, .unset, .unset, .unset, .unset] [])) t → EN t := fun t kt => by
        refine pre301 t ?_
        refine XS.aload X299.here hx rfl (hb hby at_151) rfl rfl ?_
        refine XS.iload X299.here hx rfl (hb hby at_153) rfl ?_
        refine XS.aload X299.here hx rfl (hb hby at_155) rfl rfl ?_
        refine XS.aload X299.here hx rfl (hb hby at_157) rfl rfl ?_
        refine XS.iload X299.here hx rfl (hb hby at_159) rfl ?_
        refine XS.iload X299.here hx rfl (hb hby at_161) rfl ?_
        refine st302.trans ?_
        refine XS.aload X302.here hx rfl (hb hby at_166) rfl rfl ?_
        refine XS.iload X302.here hx rfl (hb hby at_168) rfl ?_
        refine XS.iload X302.here hx rfl (hb hby at_170) rfl ?_
        show Steps p.tables e below (T302.setTop (mkF m 172 #[.val (.int p1), .val (.int p2), .val (.int p3), .val (.int p4), .val (.int p5), .val (.int p6), .val (.int la), .val (.int lb), .val (.int lc), .val (.int ld), .val (.int (0 : Int32)), .val (.int (1 : Int32)), .val (.int kys), .val (.int tv1), .val (.int tv2), .val (.int tv3), .val (.ref b247), .val (.ref b249), .val (.ref b253), .val (.ref b259), .val (.ref b267), .val (.long fre), .second, .unset, .unset, .unset, .unset, .unset, .unset, .unset, .unset, .unset, .unset, .unset, .unset] [(.int p5), (.int tv2), (.ref b267)])) _
        refine XS.aload X302.here hx rfl (hb hby at_172) rfl rfl ?_
        refine XS.iload X302.here hx rfl (hb hby at_174) rfl ?_
        refine st335.trans ?_
        refine XS.iload X335.here hx rfl (hb hby at_179) rfl ?_
        refine XS.ifNo X335.here hx rfl (hb hby at_181) rfl ((if0 _ _).trans (feq (by decide : ¬ ((1 : Int32) = (0 : Int32)))).1) ?_
        refine XS.aload X335.here hx rfl (hb hby at_184) rfl rfl ?_
        refine XS.iload X335.here hx rfl (hb hby at_186) rfl ?_
        refine XS.aload X335.here hx rfl (hb hby at_188) rfl rfl ?_
        refine XS.iload X335.here hx rfl (hb hby at_190) rfl ?_
        refine XS.iload X335.here hx rfl (hb hby at_192) rfl ?_
        show Steps p.tables e below (T335.setTop (mkF m 194 #[.val (.int p1), .val (.int p2), .val (.int p3), .val (.int p4), .val (.int p5), .val (.int p6), .val (.int la), .val (.int lb), .val (.int lc), .val (.int ld), .val (.int (0 : Int32)), .val (.int (1 : Int32)), .val (.int kys), .val (.int tv1), .val (.int tv2), .val (.int tv3), .val (.ref b247), .val (.ref b249), .val (.ref b253), .val (.ref b259), .val (.ref b267), .val (.long fre), .second, .unset, .unset, .unset, .unset, .unset, .unset, .unset, .unset, .unset, .unset, .unset, .unset] [(.int p5), (.int p6), (.ref b259), (.int tv3), (.ref b267)])) _
        refine st368.trans ?_
        refine XS.goto X368.here hx rfl (pc0 := 197) (pc' := 211) rfl (hb hby at_197) (by decide) (by decide) ?_
        refine XS.aload X368.here hx rfl (hb hby at_211) rfl rfl ?_
        refine st401.trans ?_
        refine XS.lstore X401.here hx rfl (hb hby at_216) rfl (l' := #[.val (.int p1), .val (.int p2), .val (.int p3), .val (.int p4), .val (.int p5), .val (.int p6), .val (.int la), .val (.int lb), .val (.int lc), .val (.int ld), .val (.int (0 : Int32)), .val (.int (1 : Int32)), .val (.int kys), .val (.int tv1), .val (.int tv2), .val (.int tv3), .val (.ref b247), .val (.ref b249), .val (.ref b253), .val (.ref b259), .val (.ref b267), .val (.long fre), .second, .val (.long (cst (1024 : Int32) (1 : Int32) (0 : Int32) (1 : Int32) ((((0 : Int64) + ((((16 : Int32) + la).toInt64) + (((16 : Int32) + lb).toInt64))) + ((0 : Int64) + (((16 : Int32) + lc).toInt64))) + ((0 : Int64) + (((16 : Int32) + ld).toInt64))))), .second, .unset, .unset, .unset, .unset, .unset, .unset, .unset, .unset, .unset, .unset]) rfl ?_
        exact kt
      obtain ⟨fil1, h_fil1⟩ : ∃ z, z = (cst (1024 : Int32) (1 : Int32) (0 : Int32) (1 : Int32) ((((0 : Int64) + ((((16 : Int32) + la).toInt64) + (((16 : Int32) + lb).toInt64))) + ((0 : Int64) + (((16 : Int32) + lc).toInt64))) + ((0 : Int64) + (((16 : Int32) + ld).toInt64)))) := ⟨_, rfl⟩
      rw [← h_fil1] at pre403
      obtain ⟨cq404, kq404, q404a, q404b, q404c⟩ := isOf hZ e401 Q368_0
      obtain ⟨_, _, ⟨T404, L404, k404, n404⟩, -, X404, ⟨Lc404, hQ404, l404, y404, z404⟩, st404⟩ := X401.virtualBack hx (y := (⟨"com/example/accrete/accrete/engine/Sendings", "groupByKey", "(I)V"⟩ : MethodName)) (z := (⟨"com/example/accrete/accrete/engine/Sendings", "groupByKey", "(I)V"⟩ : MethodName)) hown (mvT hZ (hw _ (mgE 66 rfl))) (mvT hZ (hw _ (mgE 67 rfl))) (notFace_of_selects (args := #[]) (mvT hZ (hw _ (mgE 69 rfl)))) (mvT hZ (hw _ (mgE 69 rfl))) (mvT hZ (hw _ (mgE 68 rfl))) (by decide) (backOf (W := 0) (rm9 l Z a0 hw [] b267 kys ob277_8 ob277_5 ob277_4 ob277_3 ob277_9 ob277_7 ob277_6 ob277_1 ob277_2 ((((0 : Int64) + ((((16 : Int32) + la).toInt64) + (((16 : Int32) + lb).toInt64))) + ((0 : Int64) + (((16 : Int32) + lc).toInt64))) + ((0 : Int64) + (((16 : Int32) + ld).toInt64))) (fun _ => (0 : Int32)) (fun _ => (0 : Int32)) (fun _ => (0 : Int32)) tv1 tv2 tv3 T368.heap n0 Z368 Q368_5 Q368_9 Q368_6 Q368_4 Q368_3 Q368_10 Q368_8 Q368_7 Q368_1 Q368_2 Q368_11 Q368_18 F382_368 F380_368 F381_368 Q368_0 g_b267 (Ne.symm ne_b267_ob277_8) (Ne.symm ne_b267_ob277_6) (Ne.symm ne_b267_ob277_1) (Ne.symm ne_b267_ob277_2) (hkys) (ht1) (ht2) (ht3)) hZ (hw _ (mgE 70 rfl)) (hw _ (mgE 4 rfl)) (by decide) (by decide)) q404a q404c (g := (mkF m 222 #[.val (.int p1), .val (.int p2), .val (.int p3), .val (.int p4), .val (.int p5), .val (.int p6), .val (.int la), .val (.int lb), .val (.int lc), .val (.int ld), .val (.int (0 : Int32)), .val (.int (1 : Int32)), .val (.int kys), .val (.int tv1), .val (.int tv2), .val (.int tv3), .val (.ref b247), .val (.ref b249), .val (.ref b253), .val (.ref b259), .val (.ref b267), .val (.long fre), .second, .val (.long fil1), .second, .unset, .unset, .unset, .unset, .unset, .unset, .unset, .unset, .unset, .unset] [(.int kys), (.ref b267)])) rfl (by rw [hml]; rfl) (Steps.refl _) (argsL := [(.int kys)]) (rest := []) (lenOf pd__I_V rfl) rfl (by show 2 * 0 + _ ≤ _; exact Nat.le_of_eq rfl) (hb hby at_222) (fun _ _ => ⟨rfl, e401, (by decide : 14 + 3 ≤ _), (by decide : 6217 + 21 ≤ _)⟩)
      dsimp only [Pt.U, Pt.locs, Pt.cells, Pt.slots] at X404 l404 y404 z404 st404 hQ404
      subst l404 y404 z404
      obtain ⟨ob404_1, ob404_2, ob404_3, rfl, N404q, K404, ozob404_1, ozob404_2, ozob404_3, ne_ob404_1_ob404_2, ne_ob404_1_ob404_3, ne_ob404_2_ob404_3, Q404_0, Q404_1, Q404_2, Q404_3, Q404_4, Q404_5, Q404_6, Q404_7, Q404_8, Q404_9, Q404_10, Q404_11, Q404_12, Q404_13, Q404_14⟩ := hQ404
      have ne_b267_ob404_1 : b267 ≠ ob404_1 := Nat.ne_of_lt (Nat.lt_of_lt_of_le Q368_0.lt ozob404_1)
      have ne_ob277_7_ob404_1 : ob277_7 ≠ ob404_1 := Nat.ne_of_lt (Nat.lt_of_lt_of_le Q368_17.lt ozob404_1)
      have ne_ob277_9_ob404_1 : ob277_9 ≠ ob404_1 := Nat.ne_of_lt (Nat.lt_of_lt_of_le Q368_19.lt ozob404_1)
      have ne_b267_ob404_2 : b267 ≠ ob404_2 := Nat.ne_of_lt (Nat.lt_of_lt_of_le Q368_0.lt ozob404_2)
      have ne_ob277_7_ob404_2 : ob277_7 ≠ ob404_2 := Nat.ne_of_lt (Nat.lt_of_lt_of_le Q368_17.lt ozob404_2)
      have ne_ob277_9_ob404_2 : ob277_9 ≠ ob404_2 := Nat.ne_of_lt (Nat.lt_of_lt_of_le Q368_19.lt ozob404_2)
      have ne_b267_ob404_3 : b267 ≠ ob404_3 := Nat.ne_of_lt (Nat.lt_of_lt_of_le Q368_0.lt ozob404_3)
      have ne_ob277_7_ob404_3 : ob277_7 ≠ ob404_3 := Nat.ne_of_lt (Nat.lt_of_lt_of_le Q368_17.lt ozob404_3)
      have ne_ob277_9_ob404_3 : ob277_9 ≠ ob404_3 := Nat.ne_of_lt (Nat.lt_of_lt_of_le Q368_19.lt ozob404_3)
      have F433_404 := Q368_17.keep K404 (ninS (Ne.symm ne_b267_ob277_7) nin0)
      have F434_404 := Q368_18.keep K404 (ninS (Ne.symm ne_b267_ob277_8) nin0)
      have F435_404 := Q368_19.keep K404 (ninS (Ne.symm ne_b267_ob277_9) nin0)
      have Z404 : n0 ≤ T404.heap.size := Nat.le_trans Z368 K404.1
      have N404 := Fr.app N401 N404q
      obtain ⟨cq437, kq437, q437a, q437b, q437c⟩ := isOf hZ rfl Q404_0
      obtain ⟨_, _, ⟨T437, L437, k437, n437⟩, -, X437, ⟨Lc437, hQ437, l437, y437, z437⟩, st437⟩ := X404.virtualBack hx (y := (⟨"com/example/accrete/accrete/engine/Sendings", "cost", "()J"⟩ : MethodName)) (z := (⟨"com/example/accrete/accrete/engine/Sendings", "cost", "()J"⟩ : MethodName)) hown (mvT hZ (hw _ (mgE 32 rfl))) (mvT hZ (hw _ (mgE 33 rfl))) (notFace_of_selects (args := #[]) (mvT hZ (hw _ (mgE 35 rfl)))) (mvT hZ (hw _ (mgE 35 rfl))) (mvT hZ (hw _ (mgE 34 rfl))) (by decide) (backOf (W := 0) (rm3 l Z a0 hw [] b267 ob277_8 (1024 : Int32) (own_upd (own_upd (own_upd (fun _ => (0 : Int32)) ((0 : Int32)).toNatClampNeg tv1) ((1 : Int32)).toNatClampNeg tv2) ((2 : Int32)).toNatClampNeg tv3) ob404_3 (kys + (1 : Int32)) (prefS tv1 tv2 tv3 kys) ob404_1 (3 : Int32) (own_upd (own_upd (own_upd (fun _ => (0 : Int32)) (((nxtS tv1 tv2 tv3 kys) (tv1).toNatClampNeg)).toNatClampNeg (0 : Int32)) (((own_upd (nxtS tv1 tv2 tv3 kys) (tv1).toNatClampNeg (((nxtS tv1 tv2 tv3 kys) (tv1).toNatClampNeg) + (1 : Int32))) (tv2).toNatClampNeg)).toNatClampNeg (1 : Int32)) (((own_upd (own_upd (nxtS tv1 tv2 tv3 kys) (tv1).toNatClampNeg (((nxtS tv1 tv2 tv3 kys) (tv1).toNatClampNeg) + (1 : Int32))) (tv2).toNatClampNeg (((own_upd (nxtS tv1 tv2 tv3 kys) (tv1).toNatClampNeg (((nxtS tv1 tv2 tv3 kys) (tv1).toNatClampNeg) + (1 : Int32))) (tv2).toNatClampNeg) + (1 : Int32))) (tv3).toNatClampNeg)).toNatClampNeg (2 : Int32)) ob404_2 (kys + (1 : Int32)) (own_upd (own_upd (own_upd (nxtS tv1 tv2 tv3 kys) (tv1).toNatClampNeg (((nxtS tv1 tv2 tv3 kys) (tv1).toNatClampNeg) + (1 : Int32))) (tv2).toNatClampNeg (((own_upd (nxtS tv1 tv2 tv3 kys) (tv1).toNatClampNeg (((nxtS tv1 tv2 tv3 kys) (tv1).toNatClampNeg) + (1 : Int32))) (tv2).toNatClampNeg) + (1 : Int32))) (tv3).toNatClampNeg (((own_upd (own_upd (nxtS tv1 tv2 tv3 kys) (tv1).toNatClampNeg (((nxtS tv1 tv2 tv3 kys) (tv1).toNatClampNeg) + (1 : Int32))) (tv2).toNatClampNeg (((own_upd (nxtS tv1 tv2 tv3 kys) (tv1).toNatClampNeg (((nxtS tv1 tv2 tv3 kys) (tv1).toNatClampNeg) + (1 : Int32))) (tv2).toNatClampNeg) + (1 : Int32))) (tv3).toNatClampNeg) + (1 : Int32))) ((((0 : Int64) + ((((16 : Int32) + la).toInt64) + (((16 : Int32) + lb).toInt64))) + ((0 : Int64) + (((16 : Int32) + lc).toInt64))) + ((0 : Int64) + (((16 : Int32) + ld).toInt64))) T404.heap n0 Z404 Q404_9 F434_404 Q404_7 Q404_14 Q404_1 Q404_12 Q404_2 Q404_13 Q404_11) hZ (hw _ (mgE 36 rfl)) (hw _ (mgE 4 rfl)) (by decide) (by decide)) q437a q437c (g := (mkF m 227 #[.val (.int p1), .val (.int p2), .val (.int p3), .val (.int p4), .val (.int p5), .val (.int p6), .val (.int la), .val (.int lb), .val (.int lc), .val (.int ld), .val (.int (0 : Int32)), .val (.int (1 : Int32)), .val (.int kys), .val (.int tv1), .val (.int tv2), .val (.int tv3), .val (.ref b247), .val (.ref b249), .val (.ref b253), .val (.ref b259), .val (.ref b267), .val (.long fre), .second, .val (.long fil1), .second, .unset, .unset, .unset, .unset, .unset, .unset, .unset, .unset, .unset, .unset] [(.ref b267)])) rfl (by rw [hml]; rfl) (Steps.refl _) (argsL := []) (rest := []) (lenOf pd___J rfl) rfl (by show 2 * 0 + _ ≤ _; exact Nat.le_of_eq rfl) (hb hby at_227) (fun _ _ => ⟨rfl, rfl, (by decide : 17 + 0 ≤ _), (by decide : 6238 + 0 ≤ _)⟩)
      dsimp only [Pt.U, Pt.locs, Pt.cells, Pt.slots] at X437 l437 y437 z437 st437 hQ437
      subst l437 y437 z437
      obtain ⟨rfl, N437q, e437⟩ := hQ437
      have N437 := Fr.app N404 N437q
      have pre439 : ∀ t, Steps p.tables e below (T437.setTop (mkF m 232 #[.val (.int p1), .val (.int p2), .val (.int p3), .val (.int p4), .val (.int p5), .val (.int p6), .val (.int la), .val (.int lb), .val (.int lc), .val (.int ld), .val (.int (0 : Int32)), .val (.int (1 : Int32)), .val (.int kys), .val (.int tv1), .val (.int tv2), .val (.int tv3), .val (.ref b247), .val (.ref b249), .val (.ref b253), .val (.ref b259), .val (.ref b267), .val (.long fre), .second, .val (.long fil1), .second, .val (.long (cst (1024 : Int32) (kys + (1 : Int32)) (3 : Int32) (kys + (1 : Int32)) ((((0 : Int64) + ((((16 : Int32) + la).toInt64) + (((16 : Int32) + lb).toInt64))) + ((0 : Int64) + (((16 : Int32) + lc).toInt64))) + ((0 : Int64) + (((16 : Int32) + ld).toInt64))))), .second, .unset, .unset, .unset, .unset, .unset, .unset, .unset, .unset] [])) t → EN t := fun t kt => by
        refine pre403 t ?_
        refine XS.aload X401.here hx rfl (hb hby at_218) rfl rfl ?_
        refine XS.iload X401.here hx rfl (hb hby at_220) rfl ?_
        refine st404.trans ?_
        refine XS.aload X404.here hx rfl (hb hby at_225) rfl rfl ?_
        refine st437.trans ?_
        refine XS.lstore X437.here hx rfl (hb hby at_230) rfl (l' := #[.val (.int p1), .val (.int p2), .val (.int p3), .val (.int p4), .val (.int p5), .val (.int p6), .val (.int la), .val (.int lb), .val (.int lc), .val (.int ld), .val (.int (0 : Int32)), .val (.int (1 : Int32)), .val (.int kys), .val (.int tv1), .val (.int tv2), .val (.int tv3), .val (.ref b247), .val (.ref b249), .val (.ref b253), .val (.ref b259), .val (.ref b267), .val (.long fre), .second, .val (.long fil1), .second, .val (.long (cst (1024 : Int32) (kys + (1 : Int32)) (3 : Int32) (kys + (1 : Int32)) ((((0 : Int64) + ((((16 : Int32) + la).toInt64) + (((16 : Int32) + lb).toInt64))) + ((0 : Int64) + (((16 : Int32) + lc).toInt64))) + ((0 : Int64) + (((16 : Int32) + ld).toInt64))))), .second, .unset, .unset, .unset, .unset, .unset, .unset, .unset, .unset]) rfl ?_
        exact kt
      obtain ⟨gro, h_gro⟩ : ∃ z, z = (cst (1024 : Int32) (kys + (1 : Int32)) (3 : Int32) (kys + (1 : Int32)) ((((0 : Int64) + ((((16 : Int32) + la).toInt64) + (((16 : Int32) + lb).toInt64))) + ((0 : Int64) + (((16 : Int32) + lc).toInt64))) + ((0 : Int64) + (((16 : Int32) + ld).toInt64)))) := ⟨_, rfl⟩
      rw [← h_gro] at pre439
      obtain ⟨cq440, kq440, q440a, q440b, q440c⟩ := isOf hZ e437 Q404_0
      obtain ⟨_, _, ⟨T440, L440, k440, n440⟩, -, X440, ⟨Lc440, hQ440, l440, y440, z440⟩, st440⟩ := X437.virtualBack hx (y := (⟨"com/example/accrete/accrete/engine/Sendings", "clear", "()V"⟩ : MethodName)) (z := (⟨"com/example/accrete/accrete/engine/Sendings", "clear", "()V"⟩ : MethodName)) hown (mvT hZ (hw _ (mgE 95 rfl))) (mvT hZ (hw _ (mgE 96 rfl))) (notFace_of_selects (args := #[]) (mvT hZ (hw _ (mgE 98 rfl)))) (mvT hZ (hw _ (mgE 98 rfl))) (mvT hZ (hw _ (mgE 97 rfl))) (by decide) (backOf (W := 0) (rm15 l Z a0 hw [] b267 ob277_8 ob277_5 ob277_4 ob277_3 ob277_9 ob277_7 ob404_3 ob404_1 ob404_2 (own_upd (own_upd (own_upd (fun _ => Value.null) ((0 : Int32)).toNatClampNeg (Value.ref b249)) ((1 : Int32)).toNatClampNeg (Value.ref b253)) ((2 : Int32)).toNatClampNeg (Value.ref b259)) (own_upd (own_upd (own_upd (fun _ => Value.null) ((0 : Int32)).toNatClampNeg (Value.ref b247)) ((1 : Int32)).toNatClampNeg Value.null) ((2 : Int32)).toNatClampNeg Value.null) (.long ((((0 : Int64) + ((((16 : Int32) + la).toInt64) + (((16 : Int32) + lb).toInt64))) + ((0 : Int64) + (((16 : Int32) + lc).toInt64))) + ((0 : Int64) + (((16 : Int32) + ld).toInt64)))) T404.heap n0 Z404 Q404_5 Q404_9 Q404_6 Q404_4 Q404_3 Q404_10 Q404_8 Q404_7 Q404_1 Q404_2 F435_404 g_ob277_9 ne_b267_ob277_9 F433_404 ne_ob277_7_ob277_9 g_ob277_7 ne_b267_ob277_7 Q404_0 g_b267 Q404_11) hZ (hw _ (mgE 99 rfl)) (hw _ (mgE 4 rfl)) (by decide) (by decide)) q440a q440c (g := (mkF m 234 #[.val (.int p1), .val (.int p2), .val (.int p3), .val (.int p4), .val (.int p5), .val (.int p6), .val (.int la), .val (.int lb), .val (.int lc), .val (.int ld), .val (.int (0 : Int32)), .val (.int (1 : Int32)), .val (.int kys), .val (.int tv1), .val (.int tv2), .val (.int tv3), .val (.ref b247), .val (.ref b249), .val (.ref b253), .val (.ref b259), .val (.ref b267), .val (.long fre), .second, .val (.long fil1), .second, .val (.long gro), .second, .unset, .unset, .unset, .unset, .unset, .unset, .unset, .unset] [(.ref b267)])) rfl (by rw [hml]; rfl) (Steps.refl _) (argsL := []) (rest := []) (lenOf pd___V rfl) rfl (by show 2 * 0 + _ ≤ _; exact Nat.le_of_eq rfl) (hb hby at_234) (fun _ _ => ⟨rfl, e437, (by decide : 17 + 0 ≤ _), (by decide : 6238 + 0 ≤ _)⟩)
      dsimp only [Pt.U, Pt.locs, Pt.cells, Pt.slots] at X440 l440 y440 z440 st440 hQ440
      subst l440 y440 z440
      obtain ⟨rfl, N440q, K440, Q440_0, Q440_1, Q440_2, Q440_3, Q440_4, Q440_5, Q440_6, Q440_7, Q440_8, Q440_9, Q440_10, Q440_11, Q440_12, Q440_13⟩ := hQ440
      have F459_440 := F434_404.keep K440 (ninS ne_ob277_8_ob277_9 (ninS (Ne.symm ne_ob277_7_ob277_8) (ninS (Ne.symm ne_b267_ob277_8) nin0)))
      have F472_440 := Q404_12.keep K440 (ninS (Ne.symm ne_ob277_9_ob404_1) (ninS (Ne.symm ne_ob277_7_ob404_1) (ninS (Ne.symm ne_b267_ob404_1) nin0)))
      have F473_440 := Q404_13.keep K440 (ninS (Ne.symm ne_ob277_9_ob404_2) (ninS (Ne.symm ne_ob277_7_ob404_2) (ninS (Ne.symm ne_b267_ob404_2) nin0)))
      have F474_440 := Q404_14.keep K440 (ninS (Ne.symm ne_ob277_9_ob404_3) (ninS (Ne.symm ne_ob277_7_ob404_3) (ninS (Ne.symm ne_b267_ob404_3) nin0)))
      have Z440 : n0 ≤ T440.heap.size := Nat.le_trans Z404 K440.1
      have N440 := Fr.app N437 N440q
      obtain ⟨cq476, kq476, q476a, q476b, q476c⟩ := isOf hZ rfl Q440_0
      obtain ⟨_, _, ⟨T476, L476, k476, n476⟩, -, X476, ⟨Lc476, hQ476, l476, y476, z476⟩, st476⟩ := X440.virtualBack hx (y := (⟨"com/example/accrete/accrete/engine/Sendings", "cost", "()J"⟩ : MethodName)) (z := (⟨"com/example/accrete/accrete/engine/Sendings", "cost", "()J"⟩ : MethodName)) hown (mvT hZ (hw _ (mgE 32 rfl))) (mvT hZ (hw _ (mgE 33 rfl))) (notFace_of_selects (args := #[]) (mvT hZ (hw _ (mgE 35 rfl)))) (mvT hZ (hw _ (mgE 35 rfl))) (mvT hZ (hw _ (mgE 34 rfl))) (by decide) (backOf (W := 0) (rm3 l Z a0 hw [] b267 ob277_8 (1024 : Int32) (own_upd (own_upd (own_upd (fun _ => (0 : Int32)) ((0 : Int32)).toNatClampNeg tv1) ((1 : Int32)).toNatClampNeg tv2) ((2 : Int32)).toNatClampNeg tv3) ob404_3 (kys + (1 : Int32)) (prefS tv1 tv2 tv3 kys) ob404_1 (3 : Int32) (own_upd (own_upd (own_upd (fun _ => (0 : Int32)) (((nxtS tv1 tv2 tv3 kys) (tv1).toNatClampNeg)).toNatClampNeg (0 : Int32)) (((own_upd (nxtS tv1 tv2 tv3 kys) (tv1).toNatClampNeg (((nxtS tv1 tv2 tv3 kys) (tv1).toNatClampNeg) + (1 : Int32))) (tv2).toNatClampNeg)).toNatClampNeg (1 : Int32)) (((own_upd (own_upd (nxtS tv1 tv2 tv3 kys) (tv1).toNatClampNeg (((nxtS tv1 tv2 tv3 kys) (tv1).toNatClampNeg) + (1 : Int32))) (tv2).toNatClampNeg (((own_upd (nxtS tv1 tv2 tv3 kys) (tv1).toNatClampNeg (((nxtS tv1 tv2 tv3 kys) (tv1).toNatClampNeg) + (1 : Int32))) (tv2).toNatClampNeg) + (1 : Int32))) (tv3).toNatClampNeg)).toNatClampNeg (2 : Int32)) ob404_2 (kys + (1 : Int32)) (own_upd (own_upd (own_upd (nxtS tv1 tv2 tv3 kys) (tv1).toNatClampNeg (((nxtS tv1 tv2 tv3 kys) (tv1).toNatClampNeg) + (1 : Int32))) (tv2).toNatClampNeg (((own_upd (nxtS tv1 tv2 tv3 kys) (tv1).toNatClampNeg (((nxtS tv1 tv2 tv3 kys) (tv1).toNatClampNeg) + (1 : Int32))) (tv2).toNatClampNeg) + (1 : Int32))) (tv3).toNatClampNeg (((own_upd (own_upd (nxtS tv1 tv2 tv3 kys) (tv1).toNatClampNeg (((nxtS tv1 tv2 tv3 kys) (tv1).toNatClampNeg) + (1 : Int32))) (tv2).toNatClampNeg (((own_upd (nxtS tv1 tv2 tv3 kys) (tv1).toNatClampNeg (((nxtS tv1 tv2 tv3 kys) (tv1).toNatClampNeg) + (1 : Int32))) (tv2).toNatClampNeg) + (1 : Int32))) (tv3).toNatClampNeg) + (1 : Int32))) (0 : Int64) T440.heap n0 Z440 Q440_9 F459_440 Q440_7 F474_440 Q440_1 F472_440 Q440_2 F473_440 Q440_11) hZ (hw _ (mgE 36 rfl)) (hw _ (mgE 4 rfl)) (by decide) (by decide)) q476a q476c (g := (mkF m 239 #[.val (.int p1), .val (.int p2), .val (.int p3), .val (.int p4), .val (.int p5), .val (.int p6), .val (.int la), .val (.int lb), .val (.int lc), .val (.int ld), .val (.int (0 : Int32)), .val (.int (1 : Int32)), .val (.int kys), .val (.int tv1), .val (.int tv2), .val (.int tv3), .val (.ref b247), .val (.ref b249), .val (.ref b253), .val (.ref b259), .val (.ref b267), .val (.long fre), .second, .val (.long fil1), .second, .val (.long gro), .second, .unset, .unset, .unset, .unset, .unset, .unset, .unset, .unset] [(.ref b267)])) rfl (by rw [hml]; rfl) (Steps.refl _) (argsL := []) (rest := []) (lenOf pd___J rfl) rfl (by show 2 * 0 + _ ≤ _; exact Nat.le_of_eq rfl) (hb hby at_239) (fun _ _ => ⟨rfl, rfl, (by decide : 17 + 0 ≤ _), (by decide : 6238 + 0 ≤ _)⟩)
      dsimp only [Pt.U, Pt.locs, Pt.cells, Pt.slots] at X476 l476 y476 z476 st476 hQ476
      subst l476 y476 z476
      obtain ⟨rfl, N476q, e476⟩ := hQ476
      have N476 := Fr.app N440 N476q
      have pre478 : ∀ t, Steps p.tables e below (T476.setTop (mkF m 244 #[.val (.int p1), .val (.int p2), .val (.int p3), .val (.int p4), .val (.int p5), .val (.int p6), .val (.int la), .val (.int lb), .val (.int lc), .val (.int ld), .val (.int (0 : Int32)), .val (.int (1 : Int32)), .val (.int kys), .val (.int tv1), .val (.int tv2), .val (.int tv3), .val (.ref b247), .val (.ref b249), .val (.ref b253), .val (.ref b259), .val (.ref b267), .val (.long fre), .second, .val (.long fil1), .second, .val (.long gro), .second, .val (.long (cst (1024 : Int32) (kys + (1 : Int32)) (3 : Int32) (kys + (1 : Int32)) (0 : Int64))), .second, .unset, .unset, .unset, .unset, .unset, .unset] [])) t → EN t := fun t kt => by
        refine pre439 t ?_
        refine XS.aload X437.here hx rfl (hb hby at_232) rfl rfl ?_
        refine st440.trans ?_
        refine XS.aload X440.here hx rfl (hb hby at_237) rfl rfl ?_
        refine st476.trans ?_
        refine XS.lstore X476.here hx rfl (hb hby at_242) rfl (l' := #[.val (.int p1), .val (.int p2), .val (.int p3), .val (.int p4), .val (.int p5), .val (.int p6), .val (.int la), .val (.int lb), .val (.int lc), .val (.int ld), .val (.int (0 : Int32)), .val (.int (1 : Int32)), .val (.int kys), .val (.int tv1), .val (.int tv2), .val (.int tv3), .val (.ref b247), .val (.ref b249), .val (.ref b253), .val (.ref b259), .val (.ref b267), .val (.long fre), .second, .val (.long fil1), .second, .val (.long gro), .second, .val (.long (cst (1024 : Int32) (kys + (1 : Int32)) (3 : Int32) (kys + (1 : Int32)) (0 : Int64))), .second, .unset, .unset, .unset, .unset, .unset, .unset]) rfl ?_
        exact kt
      obtain ⟨cle, h_cle⟩ : ∃ z, z = (cst (1024 : Int32) (kys + (1 : Int32)) (3 : Int32) (kys + (1 : Int32)) (0 : Int64)) := ⟨_, rfl⟩
      rw [← h_cle] at pre478
      have pre479 : ∀ t, Steps p.tables e below (T476.setTop (mkF m 286 #[.val (.int p1), .val (.int p2), .val (.int p3), .val (.int p4), .val (.int p5), .val (.int p6), .val (.int la), .val (.int lb), .val (.int lc), .val (.int ld), .val (.int (0 : Int32)), .val (.int (1 : Int32)), .val (.int kys), .val (.int tv1), .val (.int tv2), .val (.int tv3), .val (.ref b247), .val (.ref b249), .val (.ref b253), .val (.ref b259), .val (.ref b267), .val (.long fre), .second, .val (.long fil1), .second, .val (.long gro), .second, .val (.long cle), .second, .val (.long (((((16 : Int64) + (la.toInt64)) + ((16 : Int64) + (lb.toInt64))) + ((16 : Int64) + (lc.toInt64))) + ((16 : Int64) + (ld.toInt64)))), .second, .unset, .unset, .unset, .unset] [])) t → EN t := fun t kt => by
        refine pre478 t ?_
        refine X476.ldc2Long hx hown (mvT hZ (hw _ (mgE 103 rfl))) (g := (mkF m 244 #[.val (.int p1), .val (.int p2), .val (.int p3), .val (.int p4), .val (.int p5), .val (.int p6), .val (.int la), .val (.int lb), .val (.int lc), .val (.int ld), .val (.int (0 : Int32)), .val (.int (1 : Int32)), .val (.int kys), .val (.int tv1), .val (.int tv2), .val (.int tv3), .val (.ref b247), .val (.ref b249), .val (.ref b253), .val (.ref b259), .val (.ref b267), .val (.long fre), .second, .val (.long fil1), .second, .val (.long gro), .second, .val (.long cle), .second, .unset, .unset, .unset, .unset, .unset, .unset] [])) rfl (hb hby at_244) _ ?_
        refine XS.iload X476.here hx rfl (hb hby at_247) rfl ?_
        refine XS.i2l X476.here hx rfl (hb hby at_249) rfl ?_
        refine XS.ladd X476.here hx rfl (hb hby at_250) rfl ?_
        refine X476.ldc2Long hx hown (mvT hZ (hw _ (mgE 103 rfl))) (g := (mkF m 251 #[.val (.int p1), .val (.int p2), .val (.int p3), .val (.int p4), .val (.int p5), .val (.int p6), .val (.int la), .val (.int lb), .val (.int lc), .val (.int ld), .val (.int (0 : Int32)), .val (.int (1 : Int32)), .val (.int kys), .val (.int tv1), .val (.int tv2), .val (.int tv3), .val (.ref b247), .val (.ref b249), .val (.ref b253), .val (.ref b259), .val (.ref b267), .val (.long fre), .second, .val (.long fil1), .second, .val (.long gro), .second, .val (.long cle), .second, .unset, .unset, .unset, .unset, .unset, .unset] [(.long ((16 : Int64) + (la.toInt64)))])) rfl (hb hby at_251) _ ?_
        refine XS.iload X476.here hx rfl (hb hby at_254) rfl ?_
        refine XS.i2l X476.here hx rfl (hb hby at_256) rfl ?_
        refine XS.ladd X476.here hx rfl (hb hby at_257) rfl ?_
        refine XS.ladd X476.here hx rfl (hb hby at_258) rfl ?_
        refine XS.iload X476.here hx rfl (hb hby at_259) rfl ?_
        show Steps p.tables e below (T476.setTop (mkF m 261 #[.val (.int p1), .val (.int p2), .val (.int p3), .val (.int p4), .val (.int p5), .val (.int p6), .val (.int la), .val (.int lb), .val (.int lc), .val (.int ld), .val (.int (0 : Int32)), .val (.int (1 : Int32)), .val (.int kys), .val (.int tv1), .val (.int tv2), .val (.int tv3), .val (.ref b247), .val (.ref b249), .val (.ref b253), .val (.ref b259), .val (.ref b267), .val (.long fre), .second, .val (.long fil1), .second, .val (.long gro), .second, .val (.long cle), .second, .unset, .unset, .unset, .unset, .unset, .unset] [(.int (0 : Int32)), (.long (((16 : Int64) + (la.toInt64)) + ((16 : Int64) + (lb.toInt64))))])) _
        refine XS.ifYes X476.here hx rfl (pc0 := 261) (pc' := 268) rfl (hb hby at_261) rfl ((if0 _ _).trans (teq (by decide : (0 : Int32) = (0 : Int32))).1) (by decide) (by decide) ?_
        refine X476.ldc2Long hx hown (mvT hZ (hw _ (mgE 103 rfl))) (g := (mkF m 268 #[.val (.int p1), .val (.int p2), .val (.int p3), .val (.int p4), .val (.int p5), .val (.int p6), .val (.int la), .val (.int lb), .val (.int lc), .val (.int ld), .val (.int (0 : Int32)), .val (.int (1 : Int32)), .val (.int kys), .val (.int tv1), .val (.int tv2), .val (.int tv3), .val (.ref b247), .val (.ref b249), .val (.ref b253), .val (.ref b259), .val (.ref b267), .val (.long fre), .second, .val (.long fil1), .second, .val (.long gro), .second, .val (.long cle), .second, .unset, .unset, .unset, .unset, .unset, .unset] [(.long (((16 : Int64) + (la.toInt64)) + ((16 : Int64) + (lb.toInt64))))])) rfl (hb hby at_268) _ ?_
        refine XS.iload X476.here hx rfl (hb hby at_271) rfl ?_
        refine XS.i2l X476.here hx rfl (hb hby at_273) rfl ?_
        refine XS.ladd X476.here hx rfl (hb hby at_274) rfl ?_
        refine XS.ladd X476.here hx rfl (hb hby at_275) rfl ?_
        refine X476.ldc2Long hx hown (mvT hZ (hw _ (mgE 103 rfl))) (g := (mkF m 276 #[.val (.int p1), .val (.int p2), .val (.int p3), .val (.int p4), .val (.int p5), .val (.int p6), .val (.int la), .val (.int lb), .val (.int lc), .val (.int ld), .val (.int (0 : Int32)), .val (.int (1 : Int32)), .val (.int kys), .val (.int tv1), .val (.int tv2), .val (.int tv3), .val (.ref b247), .val (.ref b249), .val (.ref b253), .val (.ref b259), .val (.ref b267), .val (.long fre), .second, .val (.long fil1), .second, .val (.long gro), .second, .val (.long cle), .second, .unset, .unset, .unset, .unset, .unset, .unset] [(.long ((((16 : Int64) + (la.toInt64)) + ((16 : Int64) + (lb.toInt64))) + ((16 : Int64) + (lc.toInt64))))])) rfl (hb hby at_276) _ ?_
        refine XS.iload X476.here hx rfl (hb hby at_279) rfl ?_
        refine XS.i2l X476.here hx rfl (hb hby at_281) rfl ?_
        refine XS.ladd X476.here hx rfl (hb hby at_282) rfl ?_
        show Steps p.tables e below (T476.setTop (mkF m 283 #[.val (.int p1), .val (.int p2), .val (.int p3), .val (.int p4), .val (.int p5), .val (.int p6), .val (.int la), .val (.int lb), .val (.int lc), .val (.int ld), .val (.int (0 : Int32)), .val (.int (1 : Int32)), .val (.int kys), .val (.int tv1), .val (.int tv2), .val (.int tv3), .val (.ref b247), .val (.ref b249), .val (.ref b253), .val (.ref b259), .val (.ref b267), .val (.long fre), .second, .val (.long fil1), .second, .val (.long gro), .second, .val (.long cle), .second, .unset, .unset, .unset, .unset, .unset, .unset] [(.long ((16 : Int64) + (ld.toInt64))), (.long ((((16 : Int64) + (la.toInt64)) + ((16 : Int64) + (lb.toInt64))) + ((16 : Int64) + (lc.toInt64))))])) _
        refine XS.ladd X476.here hx rfl (hb hby at_283) rfl ?_
        refine XS.lstore X476.here hx rfl (hb hby at_284) rfl (l' := #[.val (.int p1), .val (.int p2), .val (.int p3), .val (.int p4), .val (.int p5), .val (.int p6), .val (.int la), .val (.int lb), .val (.int lc), .val (.int ld), .val (.int (0 : Int32)), .val (.int (1 : Int32)), .val (.int kys), .val (.int tv1), .val (.int tv2), .val (.int tv3), .val (.ref b247), .val (.ref b249), .val (.ref b253), .val (.ref b259), .val (.ref b267), .val (.long fre), .second, .val (.long fil1), .second, .val (.long gro), .second, .val (.long cle), .second, .val (.long (((((16 : Int64) + (la.toInt64)) + ((16 : Int64) + (lb.toInt64))) + ((16 : Int64) + (lc.toInt64))) + ((16 : Int64) + (ld.toInt64)))), .second, .unset, .unset, .unset, .unset]) rfl ?_
        exact kt
      obtain ⟨vls, h_vls⟩ : ∃ z, z = (((((16 : Int64) + (la.toInt64)) + ((16 : Int64) + (lb.toInt64))) + ((16 : Int64) + (lc.toInt64))) + ((16 : Int64) + (ld.toInt64))) := ⟨_, rfl⟩
      rw [← h_vls] at pre479
      have hc321 : (lcmpW fre (24584 : Int64)) = (0 : Int32) := by rw [h_fre]; decide
      have hc332 : (lcmpW fil1 ((24584 : Int64) + vls)) = (0 : Int32) := by rw [lw_eq, h_fil1, own_cst1, h_vls]; simp only [own_16 la b_la, own_16 lb b_lb, own_16 lc b_lc, own_16 ld b_ld, Int64.zero_add]
      have hc343 : (lcmpW gro (((24576 : Int64) + ((4 : Int64) * ((((kys.toInt64) + (1 : Int64)) + (3 : Int64)) + ((kys.toInt64) + (1 : Int64))))) + vls)) = (0 : Int32) := by rw [lw_eq, h_gro, own_cst2 kys hkys, h_vls]; simp only [own_16 la b_la, own_16 lb b_lb, own_16 lc b_lc, own_16 ld b_ld, Int64.zero_add]
      have hc351 : (lcmpW cle ((24576 : Int64) + ((4 : Int64) * ((((kys.toInt64) + (1 : Int64)) + (3 : Int64)) + ((kys.toInt64) + (1 : Int64)))))) = (0 : Int32) := by rw [lw_eq, h_cle, own_cst2 kys hkys, Int64.add_zero]
      have pre480 : ∀ t, Steps p.tables e below (T476.setTop (mkF m 359 #[.val (.int p1), .val (.int p2), .val (.int p3), .val (.int p4), .val (.int p5), .val (.int p6), .val (.int la), .val (.int lb), .val (.int lc), .val (.int ld), .val (.int (0 : Int32)), .val (.int (1 : Int32)), .val (.int kys), .val (.int tv1), .val (.int tv2), .val (.int tv3), .val (.ref b247), .val (.ref b249), .val (.ref b253), .val (.ref b259), .val (.ref b267), .val (.long fre), .second, .val (.long fil1), .second, .val (.long gro), .second, .val (.long cle), .second, .val (.long vls), .second, .val (.long (24584 : Int64)), .second, .val (.long ((24576 : Int64) + ((4 : Int64) * ((((kys.toInt64) + (1 : Int64)) + (3 : Int64)) + ((kys.toInt64) + (1 : Int64)))))), .second] [(.int (1 : Int32))])) t → EN t := fun t kt => by
        refine pre479 t ?_
        refine X476.ldc2Long hx hown (mvT hZ (hw _ (mgE 104 rfl))) (g := (mkF m 286 #[.val (.int p1), .val (.int p2), .val (.int p3), .val (.int p4), .val (.int p5), .val (.int p6), .val (.int la), .val (.int lb), .val (.int lc), .val (.int ld), .val (.int (0 : Int32)), .val (.int (1 : Int32)), .val (.int kys), .val (.int tv1), .val (.int tv2), .val (.int tv3), .val (.ref b247), .val (.ref b249), .val (.ref b253), .val (.ref b259), .val (.ref b267), .val (.long fre), .second, .val (.long fil1), .second, .val (.long gro), .second, .val (.long cle), .second, .val (.long vls), .second, .unset, .unset, .unset, .unset] [])) rfl (hb hby at_286) _ ?_
        refine XS.lstore X476.here hx rfl (hb hby at_289) rfl (l' := #[.val (.int p1), .val (.int p2), .val (.int p3), .val (.int p4), .val (.int p5), .val (.int p6), .val (.int la), .val (.int lb), .val (.int lc), .val (.int ld), .val (.int (0 : Int32)), .val (.int (1 : Int32)), .val (.int kys), .val (.int tv1), .val (.int tv2), .val (.int tv3), .val (.ref b247), .val (.ref b249), .val (.ref b253), .val (.ref b259), .val (.ref b267), .val (.long fre), .second, .val (.long fil1), .second, .val (.long gro), .second, .val (.long cle), .second, .val (.long vls), .second, .val (.long (24584 : Int64)), .second, .unset, .unset]) rfl ?_
        refine X476.ldc2Long hx hown (mvT hZ (hw _ (mgE 105 rfl))) (g := (mkF m 291 #[.val (.int p1), .val (.int p2), .val (.int p3), .val (.int p4), .val (.int p5), .val (.int p6), .val (.int la), .val (.int lb), .val (.int lc), .val (.int ld), .val (.int (0 : Int32)), .val (.int (1 : Int32)), .val (.int kys), .val (.int tv1), .val (.int tv2), .val (.int tv3), .val (.ref b247), .val (.ref b249), .val (.ref b253), .val (.ref b259), .val (.ref b267), .val (.long fre), .second, .val (.long fil1), .second, .val (.long gro), .second, .val (.long cle), .second, .val (.long vls), .second, .val (.long (24584 : Int64)), .second, .unset, .unset] [])) rfl (hb hby at_291) _ ?_
        refine X476.ldc2Long hx hown (mvT hZ (hw _ (mgE 106 rfl))) (g := (mkF m 294 #[.val (.int p1), .val (.int p2), .val (.int p3), .val (.int p4), .val (.int p5), .val (.int p6), .val (.int la), .val (.int lb), .val (.int lc), .val (.int ld), .val (.int (0 : Int32)), .val (.int (1 : Int32)), .val (.int kys), .val (.int tv1), .val (.int tv2), .val (.int tv3), .val (.ref b247), .val (.ref b249), .val (.ref b253), .val (.ref b259), .val (.ref b267), .val (.long fre), .second, .val (.long fil1), .second, .val (.long gro), .second, .val (.long cle), .second, .val (.long vls), .second, .val (.long (24584 : Int64)), .second, .unset, .unset] [(.long (24576 : Int64))])) rfl (hb hby at_294) _ ?_
        refine XS.iload X476.here hx rfl (hb hby at_297) rfl ?_
        refine XS.i2l X476.here hx rfl (hb hby at_299) rfl ?_
        refine XS.lconst X476.here hx rfl (hb hby at_300) ?_
        refine XS.ladd X476.here hx rfl (hb hby at_301) rfl ?_
        refine X476.ldc2Long hx hown (mvT hZ (hw _ (mgE 107 rfl))) (g := (mkF m 302 #[.val (.int p1), .val (.int p2), .val (.int p3), .val (.int p4), .val (.int p5), .val (.int p6), .val (.int la), .val (.int lb), .val (.int lc), .val (.int ld), .val (.int (0 : Int32)), .val (.int (1 : Int32)), .val (.int kys), .val (.int tv1), .val (.int tv2), .val (.int tv3), .val (.ref b247), .val (.ref b249), .val (.ref b253), .val (.ref b259), .val (.ref b267), .val (.long fre), .second, .val (.long fil1), .second, .val (.long gro), .second, .val (.long cle), .second, .val (.long vls), .second, .val (.long (24584 : Int64)), .second, .unset, .unset] [(.long ((kys.toInt64) + (1 : Int64))), (.long (4 : Int64)), (.long (24576 : Int64))])) rfl (hb hby at_302) _ ?_
        refine XS.ladd X476.here hx rfl (hb hby at_305) rfl ?_
        show Steps p.tables e below (T476.setTop (mkF m 306 #[.val (.int p1), .val (.int p2), .val (.int p3), .val (.int p4), .val (.int p5), .val (.int p6), .val (.int la), .val (.int lb), .val (.int lc), .val (.int ld), .val (.int (0 : Int32)), .val (.int (1 : Int32)), .val (.int kys), .val (.int tv1), .val (.int tv2), .val (.int tv3), .val (.ref b247), .val (.ref b249), .val (.ref b253), .val (.ref b259), .val (.ref b267), .val (.long fre), .second, .val (.long fil1), .second, .val (.long gro), .second, .val (.long cle), .second, .val (.long vls), .second, .val (.long (24584 : Int64)), .second, .unset, .unset] [(.long (((kys.toInt64) + (1 : Int64)) + (3 : Int64))), (.long (4 : Int64)), (.long (24576 : Int64))])) _
        refine XS.iload X476.here hx rfl (hb hby at_306) rfl ?_
        refine XS.i2l X476.here hx rfl (hb hby at_308) rfl ?_
        refine XS.lconst X476.here hx rfl (hb hby at_309) ?_
        refine XS.ladd X476.here hx rfl (hb hby at_310) rfl ?_
        refine XS.ladd X476.here hx rfl (hb hby at_311) rfl ?_
        refine XS.lmul X476.here hx rfl (hb hby at_312) rfl ?_
        refine XS.ladd X476.here hx rfl (hb hby at_313) rfl ?_
        refine XS.lstore X476.here hx rfl (hb hby at_314) rfl (l' := #[.val (.int p1), .val (.int p2), .val (.int p3), .val (.int p4), .val (.int p5), .val (.int p6), .val (.int la), .val (.int lb), .val (.int lc), .val (.int ld), .val (.int (0 : Int32)), .val (.int (1 : Int32)), .val (.int kys), .val (.int tv1), .val (.int tv2), .val (.int tv3), .val (.ref b247), .val (.ref b249), .val (.ref b253), .val (.ref b259), .val (.ref b267), .val (.long fre), .second, .val (.long fil1), .second, .val (.long gro), .second, .val (.long cle), .second, .val (.long vls), .second, .val (.long (24584 : Int64)), .second, .val (.long ((24576 : Int64) + ((4 : Int64) * ((((kys.toInt64) + (1 : Int64)) + (3 : Int64)) + ((kys.toInt64) + (1 : Int64)))))), .second]) rfl ?_
        refine XS.lload X476.here hx rfl (hb hby at_316) rfl ?_
        refine XS.lload X476.here hx rfl (hb hby at_318) rfl ?_
        show Steps p.tables e below (T476.setTop (mkF m 320 #[.val (.int p1), .val (.int p2), .val (.int p3), .val (.int p4), .val (.int p5), .val (.int p6), .val (.int la), .val (.int lb), .val (.int lc), .val (.int ld), .val (.int (0 : Int32)), .val (.int (1 : Int32)), .val (.int kys), .val (.int tv1), .val (.int tv2), .val (.int tv3), .val (.ref b247), .val (.ref b249), .val (.ref b253), .val (.ref b259), .val (.ref b267), .val (.long fre), .second, .val (.long fil1), .second, .val (.long gro), .second, .val (.long cle), .second, .val (.long vls), .second, .val (.long (24584 : Int64)), .second, .val (.long ((24576 : Int64) + ((4 : Int64) * ((((kys.toInt64) + (1 : Int64)) + (3 : Int64)) + ((kys.toInt64) + (1 : Int64)))))), .second] [(.long (24584 : Int64)), (.long fre)])) _
        refine XS.lcmp X476.here hx rfl (hb hby at_320) rfl ?_
        refine XS.ifNo X476.here hx rfl (hb hby at_321) rfl ((if0 _ _).trans (teq hc321).2) ?_
        refine XS.lload X476.here hx rfl (hb hby at_324) rfl ?_
        refine XS.lload X476.here hx rfl (hb hby at_326) rfl ?_
        refine XS.lload X476.here hx rfl (hb hby at_328) rfl ?_
        refine XS.ladd X476.here hx rfl (hb hby at_330) rfl ?_
        refine XS.lcmp X476.here hx rfl (hb hby at_331) rfl ?_
        refine XS.ifNo X476.here hx rfl (hb hby at_332) rfl ((if0 _ _).trans (teq hc332).2) ?_
        refine XS.lload X476.here hx rfl (hb hby at_335) rfl ?_
        refine XS.lload X476.here hx rfl (hb hby at_337) rfl ?_
        show Steps p.tables e below (T476.setTop (mkF m 339 #[.val (.int p1), .val (.int p2), .val (.int p3), .val (.int p4), .val (.int p5), .val (.int p6), .val (.int la), .val (.int lb), .val (.int lc), .val (.int ld), .val (.int (0 : Int32)), .val (.int (1 : Int32)), .val (.int kys), .val (.int tv1), .val (.int tv2), .val (.int tv3), .val (.ref b247), .val (.ref b249), .val (.ref b253), .val (.ref b259), .val (.ref b267), .val (.long fre), .second, .val (.long fil1), .second, .val (.long gro), .second, .val (.long cle), .second, .val (.long vls), .second, .val (.long (24584 : Int64)), .second, .val (.long ((24576 : Int64) + ((4 : Int64) * ((((kys.toInt64) + (1 : Int64)) + (3 : Int64)) + ((kys.toInt64) + (1 : Int64)))))), .second] [(.long ((24576 : Int64) + ((4 : Int64) * ((((kys.toInt64) + (1 : Int64)) + (3 : Int64)) + ((kys.toInt64) + (1 : Int64)))))), (.long gro)])) _
        refine XS.lload X476.here hx rfl (hb hby at_339) rfl ?_
        refine XS.ladd X476.here hx rfl (hb hby at_341) rfl ?_
        refine XS.lcmp X476.here hx rfl (hb hby at_342) rfl ?_
        refine XS.ifNo X476.here hx rfl (hb hby at_343) rfl ((if0 _ _).trans (teq hc343).2) ?_
        refine XS.lload X476.here hx rfl (hb hby at_346) rfl ?_
        refine XS.lload X476.here hx rfl (hb hby at_348) rfl ?_
        refine XS.lcmp X476.here hx rfl (hb hby at_350) rfl ?_
        refine XS.ifNo X476.here hx rfl (hb hby at_351) rfl ((if0 _ _).trans (teq hc351).2) ?_
        refine XS.iconst X476.here hx rfl (hb hby at_354) ?_
        refine XS.goto X476.here hx rfl (pc0 := 355) (pc' := 359) rfl (hb hby at_355) (by decide) (by decide) ?_
        show Steps p.tables e below (T476.setTop (mkF m 359 #[.val (.int p1), .val (.int p2), .val (.int p3), .val (.int p4), .val (.int p5), .val (.int p6), .val (.int la), .val (.int lb), .val (.int lc), .val (.int ld), .val (.int (0 : Int32)), .val (.int (1 : Int32)), .val (.int kys), .val (.int tv1), .val (.int tv2), .val (.int tv3), .val (.ref b247), .val (.ref b249), .val (.ref b253), .val (.ref b259), .val (.ref b267), .val (.long fre), .second, .val (.long fil1), .second, .val (.long gro), .second, .val (.long cle), .second, .val (.long vls), .second, .val (.long (24584 : Int64)), .second, .val (.long ((24576 : Int64) + ((4 : Int64) * ((((kys.toInt64) + (1 : Int64)) + (3 : Int64)) + ((kys.toInt64) + (1 : Int64)))))), .second] [(.int (1 : Int32))])) _
        exact kt
      obtain ⟨fs, hr, hrun, hended, hW, hsame⟩ := X476.leave (v := some (.int (1 : Int32))) (fun h => by rw [Bd.returns] at h; cases h)
      refine ⟨_, _, hEN _ (pre480 _ ?_), hrun, hended, _, _, rfl, ?_, ⟨_, rfl⟩, hW, hsame.mono (by decide) (by decide)⟩
      · exact retN X476 hx (t := .boolean) Bd.returns (by simp) (hb hby at_359) hr
      · show Q0 Z p1 p2 p3 p4 p5 p6 h0 n0 _ T476.heap _
        rw [e476]
        exact ⟨rfl, N476⟩
  · skip
    by_cases hc54 : (((p1.toUInt32 >>> ((17 : Int32) &&& 31).toUInt32).toInt32) &&& (1 : Int32)) = (0 : Int32)
    · skip
      have pre481 : ∀ t, Steps p.tables e below (s₁.setTop (mkF m 75 #[.val (.int p1), .val (.int p2), .val (.int p3), .val (.int p4), .val (.int p5), .val (.int p6), .val (.int la), .val (.int lb), .val (.int lc), .val (.int ld), .val (.int (1 : Int32)), .val (.int (0 : Int32)), .val (.int ((((p1.toUInt32 >>> ((18 : Int32) &&& 31).toUInt32).toInt32) &&& (7 : Int32)) + (1 : Int32))), .unset, .unset, .unset, .unset, .unset, .unset, .unset, .unset, .unset, .unset, .unset, .unset, .unset, .unset, .unset, .unset, .unset, .unset, .unset, .unset, .unset, .unset] [])) t → EN t := fun t kt => by
        refine pre4 t ?_
        refine XS.iloadN X0.here hx rfl (hb hby at_32) rfl ?_
        refine XS.bipush X0.here hx rfl (hb hby at_33) ?_
        refine XS.iushr X0.here hx rfl (hb hby at_35) rfl ?_
        refine XS.iconst X0.here hx rfl (hb hby at_36) ?_
        refine XS.iand X0.here hx rfl (hb hby at_37) rfl ?_
        refine XS.ifNo X0.here hx rfl (hb hby at_38) rfl ((if0 _ _).trans (feq hc38).1) ?_
        refine XS.iconst X0.here hx rfl (hb hby at_41) ?_
        refine XS.goto X0.here hx rfl (pc0 := 42) (pc' := 46) rfl (hb hby at_42) (by decide) (by decide) ?_
        refine XS.istore X0.here hx rfl (hb hby at_46) rfl (l' := #[.val (.int p1), .val (.int p2), .val (.int p3), .val (.int p4), .val (.int p5), .val (.int p6), .val (.int la), .val (.int lb), .val (.int lc), .val (.int ld), .val (.int (1 : Int32)), .unset, .unset, .unset, .unset, .unset, .unset, .unset, .unset, .unset, .unset, .unset, .unset, .unset, .unset, .unset, .unset, .unset, .unset, .unset, .unset, .unset, .unset, .unset, .unset]) rfl ?_
        refine XS.iloadN X0.here hx rfl (hb hby at_48) rfl ?_
        show Steps p.tables e below (s₁.setTop (mkF m 49 #[.val (.int p1), .val (.int p2), .val (.int p3), .val (.int p4), .val (.int p5), .val (.int p6), .val (.int la), .val (.int lb), .val (.int lc), .val (.int ld), .val (.int (1 : Int32)), .unset, .unset, .unset, .unset, .unset, .unset, .unset, .unset, .unset, .unset, .unset, .unset, .unset, .unset, .unset, .unset, .unset, .unset, .unset, .unset, .unset, .unset, .unset, .unset] [(.int p1)])) _
        refine XS.bipush X0.here hx rfl (hb hby at_49) ?_
        refine XS.iushr X0.here hx rfl (hb hby at_51) rfl ?_
        refine XS.iconst X0.here hx rfl (hb hby at_52) ?_
        refine XS.iand X0.here hx rfl (hb hby at_53) rfl ?_
        refine XS.ifYes X0.here hx rfl (pc0 := 54) (pc' := 61) rfl (hb hby at_54) rfl ((if0 _ _).trans (teq hc54).1) (by decide) (by decide) ?_
        refine XS.iconst X0.here hx rfl (hb hby at_61) ?_
        refine XS.istore X0.here hx rfl (hb hby at_62) rfl (l' := #[.val (.int p1), .val (.int p2), .val (.int p3), .val (.int p4), .val (.int p5), .val (.int p6), .val (.int la), .val (.int lb), .val (.int lc), .val (.int ld), .val (.int (1 : Int32)), .val (.int (0 : Int32)), .unset, .unset, .unset, .unset, .unset, .unset, .unset, .unset, .unset, .unset, .unset, .unset, .unset, .unset, .unset, .unset, .unset, .unset, .unset, .unset, .unset, .unset, .unset]) rfl ?_
        refine XS.iloadN X0.here hx rfl (hb hby at_64) rfl ?_
        refine XS.bipush X0.here hx rfl (hb hby at_65) ?_
        refine XS.iushr X0.here hx rfl (hb hby at_67) rfl ?_
        show Steps p.tables e below (s₁.setTop (mkF m 68 #[.val (.int p1), .val (.int p2), .val (.int p3), .val (.int p4), .val (.int p5), .val (.int p6), .val (.int la), .val (.int lb), .val (.int lc), .val (.int ld), .val (.int (1 : Int32)), .val (.int (0 : Int32)), .unset, .unset, .unset, .unset, .unset, .unset, .unset, .unset, .unset, .unset, .unset, .unset, .unset, .unset, .unset, .unset, .unset, .unset, .unset, .unset, .unset, .unset, .unset] [(.int ((p1.toUInt32 >>> ((18 : Int32) &&& 31).toUInt32).toInt32))])) _
        refine XS.bipush X0.here hx rfl (hb hby at_68) ?_
        refine XS.iand X0.here hx rfl (hb hby at_70) rfl ?_
        refine XS.iconst X0.here hx rfl (hb hby at_71) ?_
        refine XS.iadd X0.here hx rfl (hb hby at_72) rfl ?_
        refine XS.istore X0.here hx rfl (hb hby at_73) rfl (l' := #[.val (.int p1), .val (.int p2), .val (.int p3), .val (.int p4), .val (.int p5), .val (.int p6), .val (.int la), .val (.int lb), .val (.int lc), .val (.int ld), .val (.int (1 : Int32)), .val (.int (0 : Int32)), .val (.int ((((p1.toUInt32 >>> ((18 : Int32) &&& 31).toUInt32).toInt32) &&& (7 : Int32)) + (1 : Int32))), .unset, .unset, .unset, .unset, .unset, .unset, .unset, .unset, .unset, .unset, .unset, .unset, .unset, .unset, .unset, .unset, .unset, .unset, .unset, .unset, .unset, .unset]) rfl ?_
        exact kt
      obtain ⟨kys, h_kys⟩ : ∃ z, z = ((((p1.toUInt32 >>> ((18 : Int32) &&& 31).toUInt32).toInt32) &&& (7 : Int32)) + (1 : Int32)) := ⟨_, rfl⟩
      rw [← h_kys] at pre481
      have hkys := own_kys _ kys h_kys
      have pre482 : ∀ t, Steps p.tables e below (s₁.setTop (mkF m 84 #[.val (.int p1), .val (.int p2), .val (.int p3), .val (.int p4), .val (.int p5), .val (.int p6), .val (.int la), .val (.int lb), .val (.int lc), .val (.int ld), .val (.int (1 : Int32)), .val (.int (0 : Int32)), .val (.int kys), .val (.int ((p2 &&& (2147483647 : Int32)) % kys)), .unset, .unset, .unset, .unset, .unset, .unset, .unset, .unset, .unset, .unset, .unset, .unset, .unset, .unset, .unset, .unset, .unset, .unset, .unset, .unset, .unset] [])) t → EN t := fun t kt => by
        refine pre481 t ?_
        refine XS.iloadN X0.here hx rfl (hb hby at_75) rfl ?_
        refine X0.ldcInt hx hown (mvT hZ (hw _ (mgE 0 rfl))) (g := (mkF m 76 #[.val (.int p1), .val (.int p2), .val (.int p3), .val (.int p4), .val (.int p5), .val (.int p6), .val (.int la), .val (.int lb), .val (.int lc), .val (.int ld), .val (.int (1 : Int32)), .val (.int (0 : Int32)), .val (.int kys), .unset, .unset, .unset, .unset, .unset, .unset, .unset, .unset, .unset, .unset, .unset, .unset, .unset, .unset, .unset, .unset, .unset, .unset, .unset, .unset, .unset, .unset] [(.int p2)])) rfl (hb hby at_76) _ ?_
        refine XS.iand X0.here hx rfl (hb hby at_78) rfl ?_
        refine XS.iload X0.here hx rfl (hb hby at_79) rfl ?_
        have hnz81 : ¬ (kys = (0 : Int32)) := own_knz kys hkys
        refine iremM X0 hx rfl (hb hby at_81) rfl hnz81 ?_
        refine XS.istore X0.here hx rfl (hb hby at_82) rfl (l' := #[.val (.int p1), .val (.int p2), .val (.int p3), .val (.int p4), .val (.int p5), .val (.int p6), .val (.int la), .val (.int lb), .val (.int lc), .val (.int ld), .val (.int (1 : Int32)), .val (.int (0 : Int32)), .val (.int kys), .val (.int ((p2 &&& (2147483647 : Int32)) % kys)), .unset, .unset, .unset, .unset, .unset, .unset, .unset, .unset, .unset, .unset, .unset, .unset, .unset, .unset, .unset, .unset, .unset, .unset, .unset, .unset, .unset]) rfl ?_
        exact kt
      obtain ⟨tv1, h_tv1⟩ : ∃ z, z = ((p2 &&& (2147483647 : Int32)) % kys) := ⟨_, rfl⟩
      rw [← h_tv1] at pre482
      have ht1 := own_mod _ kys tv1 hkys h_tv1
      have pre483 : ∀ t, Steps p.tables e below (s₁.setTop (mkF m 93 #[.val (.int p1), .val (.int p2), .val (.int p3), .val (.int p4), .val (.int p5), .val (.int p6), .val (.int la), .val (.int lb), .val (.int lc), .val (.int ld), .val (.int (1 : Int32)), .val (.int (0 : Int32)), .val (.int kys), .val (.int tv1), .val (.int ((p3 &&& (2147483647 : Int32)) % kys)), .unset, .unset, .unset, .unset, .unset, .unset, .unset, .unset, .unset, .unset, .unset, .unset, .unset, .unset, .unset, .unset, .unset, .unset, .unset, .unset] [])) t → EN t := fun t kt => by
        refine pre482 t ?_
        refine XS.iloadN X0.here hx rfl (hb hby at_84) rfl ?_
        refine X0.ldcInt hx hown (mvT hZ (hw _ (mgE 0 rfl))) (g := (mkF m 85 #[.val (.int p1), .val (.int p2), .val (.int p3), .val (.int p4), .val (.int p5), .val (.int p6), .val (.int la), .val (.int lb), .val (.int lc), .val (.int ld), .val (.int (1 : Int32)), .val (.int (0 : Int32)), .val (.int kys), .val (.int tv1), .unset, .unset, .unset, .unset, .unset, .unset, .unset, .unset, .unset, .unset, .unset, .unset, .unset, .unset, .unset, .unset, .unset, .unset, .unset, .unset, .unset] [(.int p3)])) rfl (hb hby at_85) _ ?_
        refine XS.iand X0.here hx rfl (hb hby at_87) rfl ?_
        refine XS.iload X0.here hx rfl (hb hby at_88) rfl ?_
        have hnz90 : ¬ (kys = (0 : Int32)) := own_knz kys hkys
        refine iremM X0 hx rfl (hb hby at_90) rfl hnz90 ?_
        refine XS.istore X0.here hx rfl (hb hby at_91) rfl (l' := #[.val (.int p1), .val (.int p2), .val (.int p3), .val (.int p4), .val (.int p5), .val (.int p6), .val (.int la), .val (.int lb), .val (.int lc), .val (.int ld), .val (.int (1 : Int32)), .val (.int (0 : Int32)), .val (.int kys), .val (.int tv1), .val (.int ((p3 &&& (2147483647 : Int32)) % kys)), .unset, .unset, .unset, .unset, .unset, .unset, .unset, .unset, .unset, .unset, .unset, .unset, .unset, .unset, .unset, .unset, .unset, .unset, .unset, .unset]) rfl ?_
        exact kt
      obtain ⟨tv2, h_tv2⟩ : ∃ z, z = ((p3 &&& (2147483647 : Int32)) % kys) := ⟨_, rfl⟩
      rw [← h_tv2] at pre483
      have ht2 := own_mod _ kys tv2 hkys h_tv2
      have pre484 : ∀ t, Steps p.tables e below (s₁.setTop (mkF m 102 #[.val (.int p1), .val (.int p2), .val (.int p3), .val (.int p4), .val (.int p5), .val (.int p6), .val (.int la), .val (.int lb), .val (.int lc), .val (.int ld), .val (.int (1 : Int32)), .val (.int (0 : Int32)), .val (.int kys), .val (.int tv1), .val (.int tv2), .val (.int ((p4 &&& (2147483647 : Int32)) % kys)), .unset, .unset, .unset, .unset, .unset, .unset, .unset, .unset, .unset, .unset, .unset, .unset, .unset, .unset, .unset, .unset, .unset, .unset, .unset] [])) t → EN t := fun t kt => by
        refine pre483 t ?_
        refine XS.iloadN X0.here hx rfl (hb hby at_93) rfl ?_
        refine X0.ldcInt hx hown (mvT hZ (hw _ (mgE 0 rfl))) (g := (mkF m 94 #[.val (.int p1), .val (.int p2), .val (.int p3), .val (.int p4), .val (.int p5), .val (.int p6), .val (.int la), .val (.int lb), .val (.int lc), .val (.int ld), .val (.int (1 : Int32)), .val (.int (0 : Int32)), .val (.int kys), .val (.int tv1), .val (.int tv2), .unset, .unset, .unset, .unset, .unset, .unset, .unset, .unset, .unset, .unset, .unset, .unset, .unset, .unset, .unset, .unset, .unset, .unset, .unset, .unset] [(.int p4)])) rfl (hb hby at_94) _ ?_
        refine XS.iand X0.here hx rfl (hb hby at_96) rfl ?_
        refine XS.iload X0.here hx rfl (hb hby at_97) rfl ?_
        have hnz99 : ¬ (kys = (0 : Int32)) := own_knz kys hkys
        refine iremM X0 hx rfl (hb hby at_99) rfl hnz99 ?_
        refine XS.istore X0.here hx rfl (hb hby at_100) rfl (l' := #[.val (.int p1), .val (.int p2), .val (.int p3), .val (.int p4), .val (.int p5), .val (.int p6), .val (.int la), .val (.int lb), .val (.int lc), .val (.int ld), .val (.int (1 : Int32)), .val (.int (0 : Int32)), .val (.int kys), .val (.int tv1), .val (.int tv2), .val (.int ((p4 &&& (2147483647 : Int32)) % kys)), .unset, .unset, .unset, .unset, .unset, .unset, .unset, .unset, .unset, .unset, .unset, .unset, .unset, .unset, .unset, .unset, .unset, .unset, .unset]) rfl ?_
        exact kt
      obtain ⟨tv3, h_tv3⟩ : ∃ z, z = ((p4 &&& (2147483647 : Int32)) % kys) := ⟨_, rfl⟩
      rw [← h_tv3] at pre484
      have ht3 := own_mod _ kys tv3 hkys h_tv3
      obtain ⟨T485, h485, k485, X485, e485, E485, A485, Ex485, st485⟩ := newPE X0 hx hZ (hw _ (mgE 1 rfl)) e0 (g := (mkF m 104 #[.val (.int p1), .val (.int p2), .val (.int p3), .val (.int p4), .val (.int p5), .val (.int p6), .val (.int la), .val (.int lb), .val (.int lc), .val (.int ld), .val (.int (1 : Int32)), .val (.int (0 : Int32)), .val (.int kys), .val (.int tv1), .val (.int tv2), .val (.int tv3), .unset, .unset, .unset, .unset, .unset, .unset, .unset, .unset, .unset, .unset, .unset, .unset, .unset, .unset, .unset, .unset, .unset, .unset, .unset] [(.int la)])) rfl (hb hby at_104) rfl (own_n15 _ b_la) (cap := 15) (own_c15 _ b_la) (by decide) (by decide) (by decide) (ad := "[B") (by decide)
      obtain ⟨b485, g485⟩ : ∃ z, z = h0.size := ⟨_, rfl⟩
      rw [← g485] at A485 Ex485 st485
      have Z485 : n0 ≤ h485.size := Nat.le_trans Z0 E485.1
      have V_b485 : Arf Z h485 b485 .byte la (fun i => (.int ((fun _ => (0 : Int32)) i))) := Arf.new A485 (own_n15 _ b_la)
      obtain ⟨T487, h487, k487, X487, e487, E487, A487, Ex487, st487⟩ := newPE X485 hx hZ (hw _ (mgE 1 rfl)) e485 (g := (mkF m 110 #[.val (.int p1), .val (.int p2), .val (.int p3), .val (.int p4), .val (.int p5), .val (.int p6), .val (.int la), .val (.int lb), .val (.int lc), .val (.int ld), .val (.int (1 : Int32)), .val (.int (0 : Int32)), .val (.int kys), .val (.int tv1), .val (.int tv2), .val (.int tv3), .val (.ref b485), .unset, .unset, .unset, .unset, .unset, .unset, .unset, .unset, .unset, .unset, .unset, .unset, .unset, .unset, .unset, .unset, .unset, .unset] [(.int lb)])) rfl (hb hby at_110) rfl (own_n15 _ b_lb) (cap := 15) (own_c15 _ b_lb) (by decide) (by decide) (by decide) (ad := "[B") (by decide)
      obtain ⟨b487, g487⟩ : ∃ z, z = h485.size := ⟨_, rfl⟩
      rw [← g487] at A487 Ex487 st487
      have Z487 : n0 ≤ h487.size := Nat.le_trans Z485 E487.1
      have F488_487 := Ex485.ext E487
      have F489_487 := V_b485.ext E487
      have V_b487 : Arf Z h487 b487 .byte lb (fun i => (.int ((fun _ => (0 : Int32)) i))) := Arf.new A487 (own_n15 _ b_lb)
      obtain ⟨T491, h491, k491, X491, e491, E491, A491, Ex491, st491⟩ := newPE X487 hx hZ (hw _ (mgE 1 rfl)) e487 (g := (mkF m 131 #[.val (.int p1), .val (.int p2), .val (.int p3), .val (.int p4), .val (.int p5), .val (.int p6), .val (.int la), .val (.int lb), .val (.int lc), .val (.int ld), .val (.int (1 : Int32)), .val (.int (0 : Int32)), .val (.int kys), .val (.int tv1), .val (.int tv2), .val (.int tv3), .val (.ref b485), .val (.ref b487), .val .null, .unset, .unset, .unset, .unset, .unset, .unset, .unset, .unset, .unset, .unset, .unset, .unset, .unset, .unset, .unset, .unset] [(.int ld)])) rfl (hb hby at_131) rfl (own_n15 _ b_ld) (cap := 15) (own_c15 _ b_ld) (by decide) (by decide) (by decide) (ad := "[B") (by decide)
      obtain ⟨b491, g491⟩ : ∃ z, z = h487.size := ⟨_, rfl⟩
      rw [← g491] at A491 Ex491 st491
      have Z491 : n0 ≤ h491.size := Nat.le_trans Z487 E491.1
      have F492_491 := F488_487.ext E491
      have F493_491 := F489_487.ext E491
      have F494_491 := Ex487.ext E491
      have F495_491 := V_b487.ext E491
      have V_b491 : Arf Z h491 b491 .byte ld (fun i => (.int ((fun _ => (0 : Int32)) i))) := Arf.new A491 (own_n15 _ b_ld)
      obtain ⟨T497, h497, X497, e497, E497, A497, D497, -, st497⟩ := newO X491 hx hZ hown (hw _ (mgE 2 rfl)) (hw _ (mgE 3 rfl)) (hw _ (mgE 4 rfl)) e491 (g := (mkF m 135 #[.val (.int p1), .val (.int p2), .val (.int p3), .val (.int p4), .val (.int p5), .val (.int p6), .val (.int la), .val (.int lb), .val (.int lc), .val (.int ld), .val (.int (1 : Int32)), .val (.int (0 : Int32)), .val (.int kys), .val (.int tv1), .val (.int tv2), .val (.int tv3), .val (.ref b485), .val (.ref b487), .val .null, .val (.ref b491), .unset, .unset, .unset, .unset, .unset, .unset, .unset, .unset, .unset, .unset, .unset, .unset, .unset, .unset, .unset] [])) rfl (hb hby at_135) (by decide) (by decide)
      obtain ⟨b497, g497⟩ : ∃ z, z = h491.size := ⟨_, rfl⟩
      rw [← g497] at A497 D497 st497
      have ne_b485_b497 : b485 ≠ b497 := Nat.ne_of_lt (Nat.lt_of_lt_of_le F492_491.lt (Nat.le_of_eq g497.symm))
      have ne_b487_b497 : b487 ≠ b497 := Nat.ne_of_lt (Nat.lt_of_lt_of_le F494_491.lt (Nat.le_of_eq g497.symm))
      have ne_b491_b497 : b491 ≠ b497 := Nat.ne_of_lt (Nat.lt_of_lt_of_le Ex491.lt (Nat.le_of_eq g497.symm))
      have g_b497 : n0 ≤ b497 := Nat.le_trans Z491 (Nat.le_of_eq g497.symm)
      have Z497 : n0 ≤ h497.size := Nat.le_trans Z491 E497.1
      have F498_497 := F492_491.ext E497
      have F499_497 := F493_491.ext E497
      have F500_497 := F494_491.ext E497
      have F501_497 := F495_491.ext E497
      have F502_497 := Ex491.ext E497
      have F503_497 := V_b491.ext E497
      have F_target_b497 : Fld Z h497 b497 "com/example/accrete/accrete/engine/Sendings" "target" "[I" .null := D497 (Or.inl (hw _ (mgE 13 rfl))) (ty := (.array .int)) (by decide)
      have F_slot_b497 : Fld Z h497 b497 "com/example/accrete/accrete/engine/Sendings" "slot" "[I" .null := D497 (Or.inl (hw _ (mgE 15 rfl))) (ty := (.array .int)) (by decide)
      have F_value_b497 : Fld Z h497 b497 "com/example/accrete/accrete/engine/Sendings" "value" "[[B" .null := D497 (Or.inl (hw _ (mgE 19 rfl))) (ty := (.array (.array .byte))) (by decide)
      have F_taken_b497 : Fld Z h497 b497 "com/example/accrete/accrete/engine/Sendings" "taken" "[[B" .null := D497 (Or.inl (hw _ (mgE 21 rfl))) (ty := (.array (.array .byte))) (by decide)
      have F_sender_b497 : Fld Z h497 b497 "com/example/accrete/accrete/engine/Sendings" "sender" "[I" .null := D497 (Or.inl (hw _ (mgE 23 rfl))) (ty := (.array .int)) (by decide)
      have F_position_b497 : Fld Z h497 b497 "com/example/accrete/accrete/engine/Sendings" "position" "[I" .null := D497 (Or.inl (hw _ (mgE 25 rfl))) (ty := (.array .int)) (by decide)
      have F_starts_b497 : Fld Z h497 b497 "com/example/accrete/accrete/engine/Sendings" "starts" "[I" .null := D497 (Or.inl (hw _ (mgE 27 rfl))) (ty := (.array .int)) (by decide)
      have F_grouped_b497 : Fld Z h497 b497 "com/example/accrete/accrete/engine/Sendings" "grouped" "[I" .null := D497 (Or.inl (hw _ (mgE 29 rfl))) (ty := (.array .int)) (by decide)
      have F_next_b497 : Fld Z h497 b497 "com/example/accrete/accrete/engine/Sendings" "next" "[I" .null := D497 (Or.inl (hw _ (mgE 31 rfl))) (ty := (.array .int)) (by decide)
      have F_valuesCost_b497 : Fld Z h497 b497 "com/example/accrete/accrete/engine/Sendings" "valuesCost" "J" (.long (0 : Int64)) := D497 (Or.inl (hw _ (mgE 40 rfl))) (ty := .long) (by decide)
      have F_size_b497 : Fld Z h497 b497 "com/example/accrete/accrete/engine/Sendings" "size" "I" (.int (0 : Int32)) := D497 (Or.inl (hw _ (mgE 51 rfl))) (ty := .int) (by decide)
      obtain ⟨_, _, ⟨T505, L505, k505, n505⟩, -, X505, ⟨Lc505, hQ505, l505, y505, z505⟩, st505⟩ := X497.specialBack hx (y := (⟨"com/example/accrete/accrete/engine/Sendings", "<init>", "()V"⟩ : MethodName)) rfl hown (mvT hZ (hw _ (mgE 5 rfl))) (mvT hZ (hw _ (mgE 6 rfl))) (mvT hZ (hw _ (mgE 7 rfl))) (by decide) (backOf (W := 1) (rm1 l Z a0 hw [] b497 (.null) (.null) (.null) (.null) (.null) (.null) (.null) (.null) (.null) h497 n0 Z497 F_size_b497 F_valuesCost_b497 A497 F_target_b497 g_b497 F_slot_b497 F_value_b497 F_taken_b497 F_sender_b497 F_position_b497 F_starts_b497 F_grouped_b497 F_next_b497) hZ (hw _ (mgE 7 rfl)) (hw _ (mgE 4 rfl)) (by decide) (by decide)) (g := (mkF m 139 #[.val (.int p1), .val (.int p2), .val (.int p3), .val (.int p4), .val (.int p5), .val (.int p6), .val (.int la), .val (.int lb), .val (.int lc), .val (.int ld), .val (.int (1 : Int32)), .val (.int (0 : Int32)), .val (.int kys), .val (.int tv1), .val (.int tv2), .val (.int tv3), .val (.ref b485), .val (.ref b487), .val .null, .val (.ref b491), .unset, .unset, .unset, .unset, .unset, .unset, .unset, .unset, .unset, .unset, .unset, .unset, .unset, .unset, .unset] [(.ref b497), (.ref b497)])) rfl (by rw [hml]; rfl) (Steps.refl _) (a := b497) (argsL := []) (rest := [(.ref b497)]) (lenOf pd___V rfl) rfl (by show 2 * 0 + _ ≤ _; exact Nat.le_of_eq rfl) (hb hby at_139) (fun _ _ => ⟨rfl, e497, (by decide : 4 + 9 ≤ _), (by decide : 56 + 6146 ≤ _)⟩)
      dsimp only [Pt.U, Pt.locs, Pt.cells, Pt.slots] at X505 l505 y505 z505 st505 hQ505
      subst l505 y505 z505
      obtain ⟨ob505_1, ob505_2, ob505_3, ob505_4, ob505_5, ob505_6, ob505_7, ob505_8, ob505_9, rfl, N505q, K505, ozob505_1, ozob505_2, ozob505_3, ozob505_4, ozob505_5, ozob505_6, ozob505_7, ozob505_8, ozob505_9, ne_ob505_1_ob505_2, ne_ob505_1_ob505_3, ne_ob505_2_ob505_3, ne_ob505_1_ob505_4, ne_ob505_2_ob505_4, ne_ob505_3_ob505_4, ne_ob505_1_ob505_5, ne_ob505_2_ob505_5, ne_ob505_3_ob505_5, ne_ob505_4_ob505_5, ne_ob505_1_ob505_6, ne_ob505_2_ob505_6, ne_ob505_3_ob505_6, ne_ob505_4_ob505_6, ne_ob505_5_ob505_6, ne_ob505_1_ob505_7, ne_ob505_2_ob505_7, ne_ob505_3_ob505_7, ne_ob505_4_ob505_7, ne_ob505_5_ob505_7, ne_ob505_6_ob505_7, ne_ob505_1_ob505_8, ne_ob505_2_ob505_8, ne_ob505_3_ob505_8, ne_ob505_4_ob505_8, ne_ob505_5_ob505_8, ne_ob505_6_ob505_8, ne_ob505_7_ob505_8, ne_ob505_1_ob505_9, ne_ob505_2_ob505_9, ne_ob505_3_ob505_9, ne_ob505_4_ob505_9, ne_ob505_5_ob505_9, ne_ob505_6_ob505_9, ne_ob505_7_ob505_9, ne_ob505_8_ob505_9, Q505_0, Q505_1, Q505_2, Q505_3, Q505_4, Q505_5, Q505_6, Q505_7, Q505_8, Q505_9, Q505_10, Q505_11, Q505_12, Q505_13, Q505_14, Q505_15, Q505_16, Q505_17, Q505_18, Q505_19, Q505_20, Q505_21, Q505_22⟩ := hQ505
      have ne_b497_ob505_1 : b497 ≠ ob505_1 := Nat.ne_of_lt (Nat.lt_of_lt_of_le A497.lt ozob505_1)
      have ne_b497_ob505_2 : b497 ≠ ob505_2 := Nat.ne_of_lt (Nat.lt_of_lt_of_le A497.lt ozob505_2)
      have ne_b485_ob505_3 : b485 ≠ ob505_3 := Nat.ne_of_lt (Nat.lt_of_lt_of_le F498_497.lt ozob505_3)
      have ne_b487_ob505_3 : b487 ≠ ob505_3 := Nat.ne_of_lt (Nat.lt_of_lt_of_le F500_497.lt ozob505_3)
      have ne_b491_ob505_3 : b491 ≠ ob505_3 := Nat.ne_of_lt (Nat.lt_of_lt_of_le F502_497.lt ozob505_3)
      have ne_b497_ob505_3 : b497 ≠ ob505_3 := Nat.ne_of_lt (Nat.lt_of_lt_of_le A497.lt ozob505_3)
      have g_ob505_3 : n0 ≤ ob505_3 := Nat.le_trans Z497 ozob505_3
      have ne_b485_ob505_4 : b485 ≠ ob505_4 := Nat.ne_of_lt (Nat.lt_of_lt_of_le F498_497.lt ozob505_4)
      have ne_b487_ob505_4 : b487 ≠ ob505_4 := Nat.ne_of_lt (Nat.lt_of_lt_of_le F500_497.lt ozob505_4)
      have ne_b491_ob505_4 : b491 ≠ ob505_4 := Nat.ne_of_lt (Nat.lt_of_lt_of_le F502_497.lt ozob505_4)
      have ne_b497_ob505_4 : b497 ≠ ob505_4 := Nat.ne_of_lt (Nat.lt_of_lt_of_le A497.lt ozob505_4)
      have g_ob505_4 : n0 ≤ ob505_4 := Nat.le_trans Z497 ozob505_4
      have ne_b485_ob505_5 : b485 ≠ ob505_5 := Nat.ne_of_lt (Nat.lt_of_lt_of_le F498_497.lt ozob505_5)
      have ne_b487_ob505_5 : b487 ≠ ob505_5 := Nat.ne_of_lt (Nat.lt_of_lt_of_le F500_497.lt ozob505_5)
      have ne_b491_ob505_5 : b491 ≠ ob505_5 := Nat.ne_of_lt (Nat.lt_of_lt_of_le F502_497.lt ozob505_5)
      have ne_b497_ob505_5 : b497 ≠ ob505_5 := Nat.ne_of_lt (Nat.lt_of_lt_of_le A497.lt ozob505_5)
      have g_ob505_5 : n0 ≤ ob505_5 := Nat.le_trans Z497 ozob505_5
      have ne_b497_ob505_6 : b497 ≠ ob505_6 := Nat.ne_of_lt (Nat.lt_of_lt_of_le A497.lt ozob505_6)
      have ne_b485_ob505_7 : b485 ≠ ob505_7 := Nat.ne_of_lt (Nat.lt_of_lt_of_le F498_497.lt ozob505_7)
      have ne_b487_ob505_7 : b487 ≠ ob505_7 := Nat.ne_of_lt (Nat.lt_of_lt_of_le F500_497.lt ozob505_7)
      have ne_b491_ob505_7 : b491 ≠ ob505_7 := Nat.ne_of_lt (Nat.lt_of_lt_of_le F502_497.lt ozob505_7)
      have ne_b497_ob505_7 : b497 ≠ ob505_7 := Nat.ne_of_lt (Nat.lt_of_lt_of_le A497.lt ozob505_7)
      have g_ob505_7 : n0 ≤ ob505_7 := Nat.le_trans Z497 ozob505_7
      have ne_b485_ob505_8 : b485 ≠ ob505_8 := Nat.ne_of_lt (Nat.lt_of_lt_of_le F498_497.lt ozob505_8)
      have ne_b487_ob505_8 : b487 ≠ ob505_8 := Nat.ne_of_lt (Nat.lt_of_lt_of_le F500_497.lt ozob505_8)
      have ne_b491_ob505_8 : b491 ≠ ob505_8 := Nat.ne_of_lt (Nat.lt_of_lt_of_le F502_497.lt ozob505_8)
      have ne_b497_ob505_8 : b497 ≠ ob505_8 := Nat.ne_of_lt (Nat.lt_of_lt_of_le A497.lt ozob505_8)
      have g_ob505_8 : n0 ≤ ob505_8 := Nat.le_trans Z497 ozob505_8
      have ne_b485_ob505_9 : b485 ≠ ob505_9 := Nat.ne_of_lt (Nat.lt_of_lt_of_le F498_497.lt ozob505_9)
      have ne_b487_ob505_9 : b487 ≠ ob505_9 := Nat.ne_of_lt (Nat.lt_of_lt_of_le F500_497.lt ozob505_9)
      have ne_b491_ob505_9 : b491 ≠ ob505_9 := Nat.ne_of_lt (Nat.lt_of_lt_of_le F502_497.lt ozob505_9)
      have ne_b497_ob505_9 : b497 ≠ ob505_9 := Nat.ne_of_lt (Nat.lt_of_lt_of_le A497.lt ozob505_9)
      have g_ob505_9 : n0 ≤ ob505_9 := Nat.le_trans Z497 ozob505_9
      have F506_505 := F498_497.keep K505
      have F507_505 := F499_497.keep K505 (ninS ne_b485_b497 nin0)
      have F508_505 := F500_497.keep K505
      have F509_505 := F501_497.keep K505 (ninS ne_b487_b497 nin0)
      have F510_505 := F502_497.keep K505
      have F511_505 := F503_497.keep K505 (ninS ne_b491_b497 nin0)
      have Z505 : n0 ≤ T505.heap.size := Nat.le_trans Z497 K505.1
      have N505 := Fr.app N0 N505q
      obtain ⟨cq525, kq525, q525a, q525b, q525c⟩ := isOf hZ rfl Q505_0
      obtain ⟨_, _, ⟨T525, L525, k525, n525⟩, -, X525, ⟨Lc525, hQ525, l525, y525, z525⟩, st525⟩ := X505.virtualBack hx (y := (⟨"com/example/accrete/accrete/engine/Sendings", "cost", "()J"⟩ : MethodName)) (z := (⟨"com/example/accrete/accrete/engine/Sendings", "cost", "()J"⟩ : MethodName)) hown (mvT hZ (hw _ (mgE 32 rfl))) (mvT hZ (hw _ (mgE 33 rfl))) (notFace_of_selects (args := #[]) (mvT hZ (hw _ (mgE 35 rfl)))) (mvT hZ (hw _ (mgE 35 rfl))) (mvT hZ (hw _ (mgE 34 rfl))) (by decide) (backOf (W := 0) (rm3 l Z a0 hw [] b497 ob505_8 (1024 : Int32) (fun _ => (0 : Int32)) ob505_6 (1 : Int32) (fun _ => (0 : Int32)) ob505_1 (0 : Int32) (fun _ => (0 : Int32)) ob505_2 (1 : Int32) (fun _ => (0 : Int32)) (0 : Int64) T505.heap n0 Z505 Q505_9 Q505_21 Q505_7 Q505_19 Q505_1 Q505_14 Q505_2 Q505_15 Q505_11) hZ (hw _ (mgE 36 rfl)) (hw _ (mgE 4 rfl)) (by decide) (by decide)) q525a q525c (g := (mkF m 146 #[.val (.int p1), .val (.int p2), .val (.int p3), .val (.int p4), .val (.int p5), .val (.int p6), .val (.int la), .val (.int lb), .val (.int lc), .val (.int ld), .val (.int (1 : Int32)), .val (.int (0 : Int32)), .val (.int kys), .val (.int tv1), .val (.int tv2), .val (.int tv3), .val (.ref b485), .val (.ref b487), .val .null, .val (.ref b491), .val (.ref b497), .unset, .unset, .unset, .unset, .unset, .unset, .unset, .unset, .unset, .unset, .unset, .unset, .unset, .unset] [(.ref b497)])) rfl (by rw [hml]; rfl) (Steps.refl _) (argsL := []) (rest := []) (lenOf pd___J rfl) rfl (by show 2 * 0 + _ ≤ _; exact Nat.le_of_eq rfl) (hb hby at_146) (fun _ _ => ⟨rfl, rfl, (by decide : 13 + 0 ≤ _), (by decide : 6202 + 0 ≤ _)⟩)
      dsimp only [Pt.U, Pt.locs, Pt.cells, Pt.slots] at X525 l525 y525 z525 st525 hQ525
      subst l525 y525 z525
      obtain ⟨rfl, N525q, e525⟩ := hQ525
      have N525 := Fr.app N505 N525q
      have pre527 : ∀ t, Steps p.tables e below (T525.setTop (mkF m 151 #[.val (.int p1), .val (.int p2), .val (.int p3), .val (.int p4), .val (.int p5), .val (.int p6), .val (.int la), .val (.int lb), .val (.int lc), .val (.int ld), .val (.int (1 : Int32)), .val (.int (0 : Int32)), .val (.int kys), .val (.int tv1), .val (.int tv2), .val (.int tv3), .val (.ref b485), .val (.ref b487), .val .null, .val (.ref b491), .val (.ref b497), .val (.long (cst (1024 : Int32) (1 : Int32) (0 : Int32) (1 : Int32) (0 : Int64))), .second, .unset, .unset, .unset, .unset, .unset, .unset, .unset, .unset, .unset, .unset, .unset, .unset] [])) t → EN t := fun t kt => by
        refine pre484 t ?_
        refine XS.iload X0.here hx rfl (hb hby at_102) rfl ?_
        refine st485 t ?_
        refine XS.astore X485.here hx rfl (hb hby at_106) rfl rfl (l' := #[.val (.int p1), .val (.int p2), .val (.int p3), .val (.int p4), .val (.int p5), .val (.int p6), .val (.int la), .val (.int lb), .val (.int lc), .val (.int ld), .val (.int (1 : Int32)), .val (.int (0 : Int32)), .val (.int kys), .val (.int tv1), .val (.int tv2), .val (.int tv3), .val (.ref b485), .unset, .unset, .unset, .unset, .unset, .unset, .unset, .unset, .unset, .unset, .unset, .unset, .unset, .unset, .unset, .unset, .unset, .unset]) rfl ?_
        refine XS.iload X485.here hx rfl (hb hby at_108) rfl ?_
        refine st487 t ?_
        refine XS.astore X487.here hx rfl (hb hby at_112) rfl rfl (l' := #[.val (.int p1), .val (.int p2), .val (.int p3), .val (.int p4), .val (.int p5), .val (.int p6), .val (.int la), .val (.int lb), .val (.int lc), .val (.int ld), .val (.int (1 : Int32)), .val (.int (0 : Int32)), .val (.int kys), .val (.int tv1), .val (.int tv2), .val (.int tv3), .val (.ref b485), .val (.ref b487), .unset, .unset, .unset, .unset, .unset, .unset, .unset, .unset, .unset, .unset, .unset, .unset, .unset, .unset, .unset, .unset, .unset]) rfl ?_
        refine XS.iload X487.here hx rfl (hb hby at_114) rfl ?_
        refine XS.ifNo X487.here hx rfl (hb hby at_116) rfl ((if0 _ _).trans (feq (by decide : ¬ ((1 : Int32) = (0 : Int32)))).1) ?_
        refine XS.aconstNull X487.here hx rfl (hb hby at_119) ?_
        refine XS.goto X487.here hx rfl (pc0 := 120) (pc' := 127) rfl (hb hby at_120) (by decide) (by decide) ?_
        show Steps p.tables e below (T487.setTop (mkF m 127 #[.val (.int p1), .val (.int p2), .val (.int p3), .val (.int p4), .val (.int p5), .val (.int p6), .val (.int la), .val (.int lb), .val (.int lc), .val (.int ld), .val (.int (1 : Int32)), .val (.int (0 : Int32)), .val (.int kys), .val (.int tv1), .val (.int tv2), .val (.int tv3), .val (.ref b485), .val (.ref b487), .unset, .unset, .unset, .unset, .unset, .unset, .unset, .unset, .unset, .unset, .unset, .unset, .unset, .unset, .unset, .unset, .unset] [.null])) _
        refine XS.astore X487.here hx rfl (hb hby at_127) rfl rfl (l' := #[.val (.int p1), .val (.int p2), .val (.int p3), .val (.int p4), .val (.int p5), .val (.int p6), .val (.int la), .val (.int lb), .val (.int lc), .val (.int ld), .val (.int (1 : Int32)), .val (.int (0 : Int32)), .val (.int kys), .val (.int tv1), .val (.int tv2), .val (.int tv3), .val (.ref b485), .val (.ref b487), .val .null, .unset, .unset, .unset, .unset, .unset, .unset, .unset, .unset, .unset, .unset, .unset, .unset, .unset, .unset, .unset, .unset]) rfl ?_
        refine XS.iload X487.here hx rfl (hb hby at_129) rfl ?_
        refine st491 t ?_
        refine XS.astore X491.here hx rfl (hb hby at_133) rfl rfl (l' := #[.val (.int p1), .val (.int p2), .val (.int p3), .val (.int p4), .val (.int p5), .val (.int p6), .val (.int la), .val (.int lb), .val (.int lc), .val (.int ld), .val (.int (1 : Int32)), .val (.int (0 : Int32)), .val (.int kys), .val (.int tv1), .val (.int tv2), .val (.int tv3), .val (.ref b485), .val (.ref b487), .val .null, .val (.ref b491), .unset, .unset, .unset, .unset, .unset, .unset, .unset, .unset, .unset, .unset, .unset, .unset, .unset, .unset, .unset]) rfl ?_
        refine st497 t ?_
        refine XS.dup X497.here hx rfl (hb hby at_138) rfl rfl ?_
        refine st505.trans ?_
        refine XS.astore X505.here hx rfl (hb hby at_142) rfl rfl (l' := #[.val (.int p1), .val (.int p2), .val (.int p3), .val (.int p4), .val (.int p5), .val (.int p6), .val (.int la), .val (.int lb), .val (.int lc), .val (.int ld), .val (.int (1 : Int32)), .val (.int (0 : Int32)), .val (.int kys), .val (.int tv1), .val (.int tv2), .val (.int tv3), .val (.ref b485), .val (.ref b487), .val .null, .val (.ref b491), .val (.ref b497), .unset, .unset, .unset, .unset, .unset, .unset, .unset, .unset, .unset, .unset, .unset, .unset, .unset, .unset]) rfl ?_
        refine XS.aload X505.here hx rfl (hb hby at_144) rfl rfl ?_
        refine st525.trans ?_
        show Steps p.tables e below (T525.setTop (mkF m 149 #[.val (.int p1), .val (.int p2), .val (.int p3), .val (.int p4), .val (.int p5), .val (.int p6), .val (.int la), .val (.int lb), .val (.int lc), .val (.int ld), .val (.int (1 : Int32)), .val (.int (0 : Int32)), .val (.int kys), .val (.int tv1), .val (.int tv2), .val (.int tv3), .val (.ref b485), .val (.ref b487), .val .null, .val (.ref b491), .val (.ref b497), .unset, .unset, .unset, .unset, .unset, .unset, .unset, .unset, .unset, .unset, .unset, .unset, .unset, .unset] [(.long (cst (1024 : Int32) (1 : Int32) (0 : Int32) (1 : Int32) (0 : Int64)))])) _
        refine XS.lstore X525.here hx rfl (hb hby at_149) rfl (l' := #[.val (.int p1), .val (.int p2), .val (.int p3), .val (.int p4), .val (.int p5), .val (.int p6), .val (.int la), .val (.int lb), .val (.int lc), .val (.int ld), .val (.int (1 : Int32)), .val (.int (0 : Int32)), .val (.int kys), .val (.int tv1), .val (.int tv2), .val (.int tv3), .val (.ref b485), .val (.ref b487), .val .null, .val (.ref b491), .val (.ref b497), .val (.long (cst (1024 : Int32) (1 : Int32) (0 : Int32) (1 : Int32) (0 : Int64))), .second, .unset, .unset, .unset, .unset, .unset, .unset, .unset, .unset, .unset, .unset, .unset, .unset]) rfl ?_
        exact kt
      obtain ⟨fre, h_fre⟩ : ∃ z, z = (cst (1024 : Int32) (1 : Int32) (0 : Int32) (1 : Int32) (0 : Int64)) := ⟨_, rfl⟩
      rw [← h_fre] at pre527
      obtain ⟨cq528, kq528, q528a, q528b, q528c⟩ := isOf hZ e525 Q505_0
      obtain ⟨_, _, ⟨T528, L528, k528, n528⟩, -, X528, ⟨Lc528, hQ528, l528, y528, z528⟩, st528⟩ := X525.virtualBack hx (y := (⟨"com/example/accrete/accrete/engine/Sendings", "sendInPlace", "(I[B[BII)V"⟩ : MethodName)) (z := (⟨"com/example/accrete/accrete/engine/Sendings", "sendInPlace", "(I[B[BII)V"⟩ : MethodName)) hown (mvT hZ (hw _ (mgE 41 rfl))) (mvT hZ (hw _ (mgE 42 rfl))) (notFace_of_selects (args := #[]) (mvT hZ (hw _ (mgE 44 rfl)))) (mvT hZ (hw _ (mgE 44 rfl))) (mvT hZ (hw _ (mgE 43 rfl))) (by decide) (backOf (W := 0) (rm4 l Z a0 hw [] b497 tv1 b485 b487 p6 p5 ob505_8 ob505_5 ob505_4 ob505_3 ob505_9 ob505_7 ob505_6 ob505_1 ob505_2 (0 : Int64) (fun _ => (0 : Int32)) (fun _ => (0 : Int32)) (fun _ => (0 : Int32)) (fun _ => (0 : Int32)) (fun _ => Value.null) (fun _ => Value.null) la (fun _ => (0 : Int32)) lb (fun _ => (0 : Int32)) T505.heap n0 Z505 Q505_5 Q505_9 Q505_6 Q505_4 Q505_3 Q505_10 Q505_8 Q505_7 Q505_1 Q505_2 Q505_11 Q505_21 Q505_18 Q505_17 Q505_16 Q505_22 Q505_20 Q505_13 Q505_12 g_ob505_8 ne_b497_ob505_8 ne_ob505_5_ob505_8 ne_ob505_4_ob505_8 ne_ob505_3_ob505_8 (Ne.symm ne_ob505_8_ob505_9) ne_ob505_7_ob505_8 g_ob505_5 ne_b497_ob505_5 ne_ob505_4_ob505_5 ne_ob505_3_ob505_5 (Ne.symm ne_ob505_5_ob505_9) (Ne.symm ne_ob505_5_ob505_7) g_ob505_7 F506_505 ne_b497_ob505_7 ne_ob505_4_ob505_7 ne_ob505_3_ob505_7 (Ne.symm ne_ob505_7_ob505_9) g_ob505_9 F508_505 ne_b497_ob505_9 ne_ob505_4_ob505_9 ne_ob505_3_ob505_9 g_ob505_4 ne_b497_ob505_4 ne_ob505_3_ob505_4 g_ob505_3 ne_b497_ob505_3 Q505_0 g_b497 F507_505 ne_b485_ob505_8 ne_b485_ob505_5 ne_b485_ob505_7 ne_b485_ob505_9 ne_b485_ob505_4 ne_b485_ob505_3 ne_b485_b497 F509_505 ne_b487_ob505_8 ne_b487_ob505_5 ne_b487_ob505_7 ne_b487_ob505_9 ne_b487_ob505_4 ne_b487_ob505_3 ne_b487_b497) hZ (hw _ (mgE 45 rfl)) (hw _ (mgE 4 rfl)) (by decide) (by decide)) q528a q528c (g := (mkF m 163 #[.val (.int p1), .val (.int p2), .val (.int p3), .val (.int p4), .val (.int p5), .val (.int p6), .val (.int la), .val (.int lb), .val (.int lc), .val (.int ld), .val (.int (1 : Int32)), .val (.int (0 : Int32)), .val (.int kys), .val (.int tv1), .val (.int tv2), .val (.int tv3), .val (.ref b485), .val (.ref b487), .val .null, .val (.ref b491), .val (.ref b497), .val (.long fre), .second, .unset, .unset, .unset, .unset, .unset, .unset, .unset, .unset, .unset, .unset, .unset, .unset] [(.int p5), (.int p6), (.ref b487), (.ref b485), (.int tv1), (.ref b497)])) rfl (by rw [hml]; rfl) (Steps.refl _) (argsL := [(.int tv1), (.ref b485), (.ref b487), (.int p6), (.int p5)]) (rest := []) (lenOf pd__I_B_BII_V rfl) rfl (by show 2 * 0 + _ ≤ _; exact Nat.le_of_eq rfl) (hb hby at_163) (fun _ _ => ⟨rfl, e525, (by decide : 13 + 0 ≤ _), (by decide : 6202 + 0 ≤ _)⟩)
      dsimp only [Pt.U, Pt.locs, Pt.cells, Pt.slots] at X528 l528 y528 z528 st528 hQ528
      subst l528 y528 z528
      obtain ⟨rfl, N528q, K528, Q528_0, Q528_1, Q528_2, Q528_3, Q528_4, Q528_5, Q528_6, Q528_7, Q528_8, Q528_9, Q528_10, Q528_11, Q528_12, Q528_13, Q528_14, Q528_15, Q528_16, Q528_17, Q528_18, Q528_19⟩ := hQ528
      have F533_528 := F510_505.keep K528
      have F534_528 := F511_505.keep K528 (ninS ne_b491_b497 (ninS ne_b491_ob505_3 (ninS ne_b491_ob505_4 (ninS ne_b491_ob505_9 (ninS ne_b491_ob505_7 (ninS ne_b491_ob505_5 (ninS ne_b491_ob505_8 nin0)))))))
      have F549_528 := Q505_14.keep K528 (ninS (Ne.symm ne_b497_ob505_1) (ninS ne_ob505_1_ob505_3 (ninS ne_ob505_1_ob505_4 (ninS ne_ob505_1_ob505_9 (ninS ne_ob505_1_ob505_7 (ninS ne_ob505_1_ob505_5 (ninS ne_ob505_1_ob505_8 nin0)))))))
      have F550_528 := Q505_15.keep K528 (ninS (Ne.symm ne_b497_ob505_2) (ninS ne_ob505_2_ob505_3 (ninS ne_ob505_2_ob505_4 (ninS ne_ob505_2_ob505_9 (ninS ne_ob505_2_ob505_7 (ninS ne_ob505_2_ob505_5 (ninS ne_ob505_2_ob505_8 nin0)))))))
      have F554_528 := Q505_19.keep K528 (ninS (Ne.symm ne_b497_ob505_6) (ninS (Ne.symm ne_ob505_3_ob505_6) (ninS (Ne.symm ne_ob505_4_ob505_6) (ninS ne_ob505_6_ob505_9 (ninS ne_ob505_6_ob505_7 (ninS (Ne.symm ne_ob505_5_ob505_6) (ninS ne_ob505_6_ob505_8 nin0)))))))
      have Z528 : n0 ≤ T528.heap.size := Nat.le_trans Z505 K528.1
      have N528 := Fr.app N525 N528q
      obtain ⟨cq559, kq559, q559a, q559b, q559c⟩ := isOf hZ rfl Q528_0
      obtain ⟨_, _, ⟨T559, L559, k559, n559⟩, -, X559, ⟨Lc559, hQ559, l559, y559, z559⟩, st559⟩ := X528.virtualBack hx (y := (⟨"com/example/accrete/accrete/engine/Sendings", "putInSlot", "(II[BI)V"⟩ : MethodName)) (z := (⟨"com/example/accrete/accrete/engine/Sendings", "putInSlot", "(II[BI)V"⟩ : MethodName)) hown (mvT hZ (hw _ (mgE 56 rfl))) (mvT hZ (hw _ (mgE 57 rfl))) (notFace_of_selects (args := #[]) (mvT hZ (hw _ (mgE 59 rfl)))) (mvT hZ (hw _ (mgE 59 rfl))) (mvT hZ (hw _ (mgE 58 rfl))) (by decide) (backOf (W := 0) (rm7n l Z a0 hw [] b497 tv2 p5 p6 ob505_8 ob505_5 ob505_4 ob505_3 ob505_9 ob505_7 ob505_6 ob505_1 ob505_2 ((0 : Int64) + ((((16 : Int32) + la).toInt64) + (((16 : Int32) + lb).toInt64))) (own_upd (fun _ => (0 : Int32)) ((0 : Int32)).toNatClampNeg tv1) (own_upd (fun _ => (0 : Int32)) ((0 : Int32)).toNatClampNeg (-3 : Int32)) (own_upd (fun _ => (0 : Int32)) ((0 : Int32)).toNatClampNeg p6) (own_upd (fun _ => (0 : Int32)) ((0 : Int32)).toNatClampNeg p5) (own_upd (fun _ => Value.null) ((0 : Int32)).toNatClampNeg (Value.ref b487)) (own_upd (fun _ => Value.null) ((0 : Int32)).toNatClampNeg (Value.ref b485)) T528.heap n0 Z528 Q528_5 Q528_9 Q528_6 Q528_4 Q528_3 Q528_10 Q528_8 Q528_7 Q528_1 Q528_2 Q528_11 Q528_18 Q528_16 Q528_15 Q528_14 Q528_19 Q528_17 Q528_13 Q528_12 g_ob505_8 ne_b497_ob505_8 ne_ob505_5_ob505_8 ne_ob505_4_ob505_8 ne_ob505_3_ob505_8 (Ne.symm ne_ob505_8_ob505_9) ne_ob505_7_ob505_8 g_ob505_5 ne_b497_ob505_5 ne_ob505_4_ob505_5 ne_ob505_3_ob505_5 (Ne.symm ne_ob505_5_ob505_9) (Ne.symm ne_ob505_5_ob505_7) g_ob505_7 ne_b497_ob505_7 ne_ob505_4_ob505_7 ne_ob505_3_ob505_7 (Ne.symm ne_ob505_7_ob505_9) g_ob505_9 ne_b497_ob505_9 ne_ob505_4_ob505_9 ne_ob505_3_ob505_9 g_ob505_4 ne_b497_ob505_4 ne_ob505_3_ob505_4 g_ob505_3 ne_b497_ob505_3 Q528_0 g_b497) hZ (hw _ (mgE 60 rfl)) (hw _ (mgE 4 rfl)) (by decide) (by decide)) q559a q559c (g := (mkF m 176 #[.val (.int p1), .val (.int p2), .val (.int p3), .val (.int p4), .val (.int p5), .val (.int p6), .val (.int la), .val (.int lb), .val (.int lc), .val (.int ld), .val (.int (1 : Int32)), .val (.int (0 : Int32)), .val (.int kys), .val (.int tv1), .val (.int tv2), .val (.int tv3), .val (.ref b485), .val (.ref b487), .val .null, .val (.ref b491), .val (.ref b497), .val (.long fre), .second, .unset, .unset, .unset, .unset, .unset, .unset, .unset, .unset, .unset, .unset, .unset, .unset] [(.int p6), .null, (.int p5), (.int tv2), (.ref b497)])) rfl (by rw [hml]; rfl) (Steps.refl _) (argsL := [(.int tv2), (.int p5), .null, (.int p6)]) (rest := []) (lenOf pd__II_BI_V rfl) rfl (by show 2 * 0 + _ ≤ _; exact Nat.le_of_eq rfl) (hb hby at_176) (fun _ _ => ⟨rfl, rfl, (by decide : 13 + 0 ≤ _), (by decide : 6202 + 0 ≤ _)⟩)
      dsimp only [Pt.U, Pt.locs, Pt.cells, Pt.slots] at X559 l559 y559 z559 st559 hQ559
      subst l559 y559 z559
      obtain ⟨rfl, N559q, K559, Q559_0, Q559_1, Q559_2, Q559_3, Q559_4, Q559_5, Q559_6, Q559_7, Q559_8, Q559_9, Q559_10, Q559_11, Q559_12, Q559_13, Q559_14, Q559_15, Q559_16, Q559_17, Q559_18, Q559_19⟩ := hQ559
      have F564_559 := F533_528.keep K559
      have F565_559 := F534_528.keep K559 (ninS ne_b491_b497 (ninS ne_b491_ob505_3 (ninS ne_b491_ob505_4 (ninS ne_b491_ob505_9 (ninS ne_b491_ob505_7 (ninS ne_b491_ob505_5 (ninS ne_b491_ob505_8 nin0)))))))
      have F569_559 := F549_528.keep K559 (ninS (Ne.symm ne_b497_ob505_1) (ninS ne_ob505_1_ob505_3 (ninS ne_ob505_1_ob505_4 (ninS ne_ob505_1_ob505_9 (ninS ne_ob505_1_ob505_7 (ninS ne_ob505_1_ob505_5 (ninS ne_ob505_1_ob505_8 nin0)))))))
      have F570_559 := F550_528.keep K559 (ninS (Ne.symm ne_b497_ob505_2) (ninS ne_ob505_2_ob505_3 (ninS ne_ob505_2_ob505_4 (ninS ne_ob505_2_ob505_9 (ninS ne_ob505_2_ob505_7 (ninS ne_ob505_2_ob505_5 (ninS ne_ob505_2_ob505_8 nin0)))))))
      have F571_559 := F554_528.keep K559 (ninS (Ne.symm ne_b497_ob505_6) (ninS (Ne.symm ne_ob505_3_ob505_6) (ninS (Ne.symm ne_ob505_4_ob505_6) (ninS ne_ob505_6_ob505_9 (ninS ne_ob505_6_ob505_7 (ninS (Ne.symm ne_ob505_5_ob505_6) (ninS ne_ob505_6_ob505_8 nin0)))))))
      have Z559 : n0 ≤ T559.heap.size := Nat.le_trans Z528 K559.1
      have N559 := Fr.app N528 N559q
      obtain ⟨cq590, kq590, q590a, q590b, q590c⟩ := isOf hZ rfl Q559_0
      obtain ⟨_, _, ⟨T590, L590, k590, n590⟩, -, X590, ⟨Lc590, hQ590, l590, y590, z590⟩, st590⟩ := X559.virtualBack hx (y := (⟨"com/example/accrete/accrete/engine/Sendings", "takeBack", "(I[BI)V"⟩ : MethodName)) (z := (⟨"com/example/accrete/accrete/engine/Sendings", "takeBack", "(I[BI)V"⟩ : MethodName)) hown (mvT hZ (hw _ (mgE 61 rfl))) (mvT hZ (hw _ (mgE 62 rfl))) (notFace_of_selects (args := #[]) (mvT hZ (hw _ (mgE 64 rfl)))) (mvT hZ (hw _ (mgE 64 rfl))) (mvT hZ (hw _ (mgE 63 rfl))) (by decide) (backOf (W := 0) (rm8 l Z a0 hw [] b497 tv3 b491 p6 ob505_8 ob505_5 ob505_4 ob505_3 ob505_9 ob505_7 ob505_6 ob505_1 ob505_2 (((0 : Int64) + ((((16 : Int32) + la).toInt64) + (((16 : Int32) + lb).toInt64))) + (0 : Int64)) (own_upd (own_upd (fun _ => (0 : Int32)) ((0 : Int32)).toNatClampNeg tv1) ((1 : Int32)).toNatClampNeg tv2) (own_upd (own_upd (fun _ => (0 : Int32)) ((0 : Int32)).toNatClampNeg (-3 : Int32)) ((1 : Int32)).toNatClampNeg p5) (own_upd (own_upd (fun _ => (0 : Int32)) ((0 : Int32)).toNatClampNeg p6) ((1 : Int32)).toNatClampNeg p6) (own_upd (own_upd (fun _ => (0 : Int32)) ((0 : Int32)).toNatClampNeg p5) ((1 : Int32)).toNatClampNeg (-1 : Int32)) (own_upd (own_upd (fun _ => Value.null) ((0 : Int32)).toNatClampNeg (Value.ref b487)) ((1 : Int32)).toNatClampNeg Value.null) (own_upd (own_upd (fun _ => Value.null) ((0 : Int32)).toNatClampNeg (Value.ref b485)) ((1 : Int32)).toNatClampNeg Value.null) ld (fun _ => (0 : Int32)) T559.heap n0 Z559 Q559_5 Q559_9 Q559_6 Q559_4 Q559_3 Q559_10 Q559_8 Q559_7 Q559_1 Q559_2 Q559_11 Q559_18 Q559_16 Q559_15 Q559_14 Q559_19 Q559_17 Q559_13 Q559_12 g_ob505_8 ne_b497_ob505_8 ne_ob505_5_ob505_8 ne_ob505_4_ob505_8 ne_ob505_3_ob505_8 (Ne.symm ne_ob505_8_ob505_9) ne_ob505_7_ob505_8 g_ob505_5 ne_b497_ob505_5 ne_ob505_4_ob505_5 ne_ob505_3_ob505_5 (Ne.symm ne_ob505_5_ob505_9) (Ne.symm ne_ob505_5_ob505_7) g_ob505_7 ne_b497_ob505_7 ne_ob505_4_ob505_7 ne_ob505_3_ob505_7 (Ne.symm ne_ob505_7_ob505_9) g_ob505_9 F564_559 ne_b497_ob505_9 ne_ob505_4_ob505_9 ne_ob505_3_ob505_9 g_ob505_4 ne_b497_ob505_4 ne_ob505_3_ob505_4 g_ob505_3 ne_b497_ob505_3 Q559_0 g_b497 F565_559 ne_b491_ob505_8 ne_b491_ob505_5 ne_b491_ob505_7 ne_b491_ob505_9 ne_b491_ob505_4 ne_b491_ob505_3 ne_b491_b497) hZ (hw _ (mgE 65 rfl)) (hw _ (mgE 4 rfl)) (by decide) (by decide)) q590a q590c (g := (mkF m 208 #[.val (.int p1), .val (.int p2), .val (.int p3), .val (.int p4), .val (.int p5), .val (.int p6), .val (.int la), .val (.int lb), .val (.int lc), .val (.int ld), .val (.int (1 : Int32)), .val (.int (0 : Int32)), .val (.int kys), .val (.int tv1), .val (.int tv2), .val (.int tv3), .val (.ref b485), .val (.ref b487), .val .null, .val (.ref b491), .val (.ref b497), .val (.long fre), .second, .unset, .unset, .unset, .unset, .unset, .unset, .unset, .unset, .unset, .unset, .unset, .unset] [(.int p6), (.ref b491), (.int tv3), (.ref b497)])) rfl (by rw [hml]; rfl) (Steps.refl _) (argsL := [(.int tv3), (.ref b491), (.int p6)]) (rest := []) (lenOf pd__I_BI_V rfl) rfl (by show 2 * 0 + _ ≤ _; exact Nat.le_of_eq rfl) (hb hby at_208) (fun _ _ => ⟨rfl, rfl, (by decide : 13 + 0 ≤ _), (by decide : 6202 + 0 ≤ _)⟩)
      dsimp only [Pt.U, Pt.locs, Pt.cells, Pt.slots] at X590 l590 y590 z590 st590 hQ590
      subst l590 y590 z590
      obtain ⟨rfl, N590q, K590, Q590_0, Q590_1, Q590_2, Q590_3, Q590_4, Q590_5, Q590_6, Q590_7, Q590_8, Q590_9, Q590_10, Q590_11, Q590_12, Q590_13, Q590_14, Q590_15, Q590_16, Q590_17, Q590_18, Q590_19⟩ := hQ590
      have F600_590 := F569_559.keep K590 (ninS (Ne.symm ne_b497_ob505_1) (ninS ne_ob505_1_ob505_3 (ninS ne_ob505_1_ob505_4 (ninS ne_ob505_1_ob505_9 (ninS ne_ob505_1_ob505_7 (ninS ne_ob505_1_ob505_5 (ninS ne_ob505_1_ob505_8 nin0)))))))
      have F601_590 := F570_559.keep K590 (ninS (Ne.symm ne_b497_ob505_2) (ninS ne_ob505_2_ob505_3 (ninS ne_ob505_2_ob505_4 (ninS ne_ob505_2_ob505_9 (ninS ne_ob505_2_ob505_7 (ninS ne_ob505_2_ob505_5 (ninS ne_ob505_2_ob505_8 nin0)))))))
      have F602_590 := F571_559.keep K590 (ninS (Ne.symm ne_b497_ob505_6) (ninS (Ne.symm ne_ob505_3_ob505_6) (ninS (Ne.symm ne_ob505_4_ob505_6) (ninS ne_ob505_6_ob505_9 (ninS ne_ob505_6_ob505_7 (ninS (Ne.symm ne_ob505_5_ob505_6) (ninS ne_ob505_6_ob505_8 nin0)))))))
      have Z590 : n0 ≤ T590.heap.size := Nat.le_trans Z559 K590.1
      have N590 := Fr.app N559 N590q
      obtain ⟨cq621, kq621, q621a, q621b, q621c⟩ := isOf hZ rfl Q590_0
      obtain ⟨_, _, ⟨T621, L621, k621, n621⟩, -, X621, ⟨Lc621, hQ621, l621, y621, z621⟩, st621⟩ := X590.virtualBack hx (y := (⟨"com/example/accrete/accrete/engine/Sendings", "cost", "()J"⟩ : MethodName)) (z := (⟨"com/example/accrete/accrete/engine/Sendings", "cost", "()J"⟩ : MethodName)) hown (mvT hZ (hw _ (mgE 32 rfl))) (mvT hZ (hw _ (mgE 33 rfl))) (notFace_of_selects (args := #[]) (mvT hZ (hw _ (mgE 35 rfl)))) (mvT hZ (hw _ (mgE 35 rfl))) (mvT hZ (hw _ (mgE 34 rfl))) (by decide) (backOf (W := 0) (rm3 l Z a0 hw [] b497 ob505_8 (1024 : Int32) (own_upd (own_upd (own_upd (fun _ => (0 : Int32)) ((0 : Int32)).toNatClampNeg tv1) ((1 : Int32)).toNatClampNeg tv2) ((2 : Int32)).toNatClampNeg tv3) ob505_6 (1 : Int32) (fun _ => (0 : Int32)) ob505_1 (0 : Int32) (fun _ => (0 : Int32)) ob505_2 (1 : Int32) (fun _ => (0 : Int32)) ((((0 : Int64) + ((((16 : Int32) + la).toInt64) + (((16 : Int32) + lb).toInt64))) + (0 : Int64)) + ((0 : Int64) + (((16 : Int32) + ld).toInt64))) T590.heap n0 Z590 Q590_9 Q590_18 Q590_7 F602_590 Q590_1 F600_590 Q590_2 F601_590 Q590_11) hZ (hw _ (mgE 36 rfl)) (hw _ (mgE 4 rfl)) (by decide) (by decide)) q621a q621c (g := (mkF m 213 #[.val (.int p1), .val (.int p2), .val (.int p3), .val (.int p4), .val (.int p5), .val (.int p6), .val (.int la), .val (.int lb), .val (.int lc), .val (.int ld), .val (.int (1 : Int32)), .val (.int (0 : Int32)), .val (.int kys), .val (.int tv1), .val (.int tv2), .val (.int tv3), .val (.ref b485), .val (.ref b487), .val .null, .val (.ref b491), .val (.ref b497), .val (.long fre), .second, .unset, .unset, .unset, .unset, .unset, .unset, .unset, .unset, .unset, .unset, .unset, .unset] [(.ref b497)])) rfl (by rw [hml]; rfl) (Steps.refl _) (argsL := []) (rest := []) (lenOf pd___J rfl) rfl (by show 2 * 0 + _ ≤ _; exact Nat.le_of_eq rfl) (hb hby at_213) (fun _ _ => ⟨rfl, rfl, (by decide : 13 + 0 ≤ _), (by decide : 6202 + 0 ≤ _)⟩)
      dsimp only [Pt.U, Pt.locs, Pt.cells, Pt.slots] at X621 l621 y621 z621 st621 hQ621
      subst l621 y621 z621
      obtain ⟨rfl, N621q, e621⟩ := hQ621
      have N621 := Fr.app N590 N621q
      have pre623 : ∀ t, Steps p.tables e below (T621.setTop (mkF m 218 #[.val (.int p1), .val (.int p2), .val (.int p3), .val (.int p4), .val (.int p5), .val (.int p6), .val (.int la), .val (.int lb), .val (.int lc), .val (.int ld), .val (.int (1 : Int32)), .val (.int (0 : Int32)), .val (.int kys), .val (.int tv1), .val (.int tv2), .val (.int tv3), .val (.ref b485), .val (.ref b487), .val .null, .val (.ref b491), .val (.ref b497), .val (.long fre), .second, .val (.long (cst (1024 : Int32) (1 : Int32) (0 : Int32) (1 : Int32) ((((0 : Int64) + ((((16 : Int32) + la).toInt64) + (((16 : Int32) + lb).toInt64))) + (0 : Int64)) + ((0 : Int64) + (((16 : Int32) + ld).toInt64))))), .second, .unset, .unset, .unset, .unset, .unset, .unset, .unset, .unset, .unset, .unset] [])) t → EN t := fun t kt => by
        refine pre527 t ?_
        refine XS.aload X525.here hx rfl (hb hby at_151) rfl rfl ?_
        refine XS.iload X525.here hx rfl (hb hby at_153) rfl ?_
        refine XS.aload X525.here hx rfl (hb hby at_155) rfl rfl ?_
        refine XS.aload X525.here hx rfl (hb hby at_157) rfl rfl ?_
        refine XS.iload X525.here hx rfl (hb hby at_159) rfl ?_
        refine XS.iload X525.here hx rfl (hb hby at_161) rfl ?_
        refine st528.trans ?_
        refine XS.aload X528.here hx rfl (hb hby at_166) rfl rfl ?_
        refine XS.iload X528.here hx rfl (hb hby at_168) rfl ?_
        refine XS.iload X528.here hx rfl (hb hby at_170) rfl ?_
        show Steps p.tables e below (T528.setTop (mkF m 172 #[.val (.int p1), .val (.int p2), .val (.int p3), .val (.int p4), .val (.int p5), .val (.int p6), .val (.int la), .val (.int lb), .val (.int lc), .val (.int ld), .val (.int (1 : Int32)), .val (.int (0 : Int32)), .val (.int kys), .val (.int tv1), .val (.int tv2), .val (.int tv3), .val (.ref b485), .val (.ref b487), .val .null, .val (.ref b491), .val (.ref b497), .val (.long fre), .second, .unset, .unset, .unset, .unset, .unset, .unset, .unset, .unset, .unset, .unset, .unset, .unset] [(.int p5), (.int tv2), (.ref b497)])) _
        refine XS.aload X528.here hx rfl (hb hby at_172) rfl rfl ?_
        refine XS.iload X528.here hx rfl (hb hby at_174) rfl ?_
        refine st559.trans ?_
        refine XS.iload X559.here hx rfl (hb hby at_179) rfl ?_
        refine XS.ifYes X559.here hx rfl (pc0 := 181) (pc' := 200) rfl (hb hby at_181) rfl ((if0 _ _).trans (teq (by decide : (0 : Int32) = (0 : Int32))).1) (by decide) (by decide) ?_
        refine XS.aload X559.here hx rfl (hb hby at_200) rfl rfl ?_
        refine XS.iload X559.here hx rfl (hb hby at_202) rfl ?_
        refine XS.aload X559.here hx rfl (hb hby at_204) rfl rfl ?_
        refine XS.iload X559.here hx rfl (hb hby at_206) rfl ?_
        refine st590.trans ?_
        show Steps p.tables e below (T590.setTop (mkF m 211 #[.val (.int p1), .val (.int p2), .val (.int p3), .val (.int p4), .val (.int p5), .val (.int p6), .val (.int la), .val (.int lb), .val (.int lc), .val (.int ld), .val (.int (1 : Int32)), .val (.int (0 : Int32)), .val (.int kys), .val (.int tv1), .val (.int tv2), .val (.int tv3), .val (.ref b485), .val (.ref b487), .val .null, .val (.ref b491), .val (.ref b497), .val (.long fre), .second, .unset, .unset, .unset, .unset, .unset, .unset, .unset, .unset, .unset, .unset, .unset, .unset] [])) _
        refine XS.aload X590.here hx rfl (hb hby at_211) rfl rfl ?_
        refine st621.trans ?_
        refine XS.lstore X621.here hx rfl (hb hby at_216) rfl (l' := #[.val (.int p1), .val (.int p2), .val (.int p3), .val (.int p4), .val (.int p5), .val (.int p6), .val (.int la), .val (.int lb), .val (.int lc), .val (.int ld), .val (.int (1 : Int32)), .val (.int (0 : Int32)), .val (.int kys), .val (.int tv1), .val (.int tv2), .val (.int tv3), .val (.ref b485), .val (.ref b487), .val .null, .val (.ref b491), .val (.ref b497), .val (.long fre), .second, .val (.long (cst (1024 : Int32) (1 : Int32) (0 : Int32) (1 : Int32) ((((0 : Int64) + ((((16 : Int32) + la).toInt64) + (((16 : Int32) + lb).toInt64))) + (0 : Int64)) + ((0 : Int64) + (((16 : Int32) + ld).toInt64))))), .second, .unset, .unset, .unset, .unset, .unset, .unset, .unset, .unset, .unset, .unset]) rfl ?_
        exact kt
      obtain ⟨fil1, h_fil1⟩ : ∃ z, z = (cst (1024 : Int32) (1 : Int32) (0 : Int32) (1 : Int32) ((((0 : Int64) + ((((16 : Int32) + la).toInt64) + (((16 : Int32) + lb).toInt64))) + (0 : Int64)) + ((0 : Int64) + (((16 : Int32) + ld).toInt64)))) := ⟨_, rfl⟩
      rw [← h_fil1] at pre623
      obtain ⟨cq624, kq624, q624a, q624b, q624c⟩ := isOf hZ e621 Q590_0
      obtain ⟨_, _, ⟨T624, L624, k624, n624⟩, -, X624, ⟨Lc624, hQ624, l624, y624, z624⟩, st624⟩ := X621.virtualBack hx (y := (⟨"com/example/accrete/accrete/engine/Sendings", "groupByKey", "(I)V"⟩ : MethodName)) (z := (⟨"com/example/accrete/accrete/engine/Sendings", "groupByKey", "(I)V"⟩ : MethodName)) hown (mvT hZ (hw _ (mgE 66 rfl))) (mvT hZ (hw _ (mgE 67 rfl))) (notFace_of_selects (args := #[]) (mvT hZ (hw _ (mgE 69 rfl)))) (mvT hZ (hw _ (mgE 69 rfl))) (mvT hZ (hw _ (mgE 68 rfl))) (by decide) (backOf (W := 0) (rm9 l Z a0 hw [] b497 kys ob505_8 ob505_5 ob505_4 ob505_3 ob505_9 ob505_7 ob505_6 ob505_1 ob505_2 ((((0 : Int64) + ((((16 : Int32) + la).toInt64) + (((16 : Int32) + lb).toInt64))) + (0 : Int64)) + ((0 : Int64) + (((16 : Int32) + ld).toInt64))) (fun _ => (0 : Int32)) (fun _ => (0 : Int32)) (fun _ => (0 : Int32)) tv1 tv2 tv3 T590.heap n0 Z590 Q590_5 Q590_9 Q590_6 Q590_4 Q590_3 Q590_10 Q590_8 Q590_7 Q590_1 Q590_2 Q590_11 Q590_18 F602_590 F600_590 F601_590 Q590_0 g_b497 (Ne.symm ne_b497_ob505_8) (Ne.symm ne_b497_ob505_6) (Ne.symm ne_b497_ob505_1) (Ne.symm ne_b497_ob505_2) (hkys) (ht1) (ht2) (ht3)) hZ (hw _ (mgE 70 rfl)) (hw _ (mgE 4 rfl)) (by decide) (by decide)) q624a q624c (g := (mkF m 222 #[.val (.int p1), .val (.int p2), .val (.int p3), .val (.int p4), .val (.int p5), .val (.int p6), .val (.int la), .val (.int lb), .val (.int lc), .val (.int ld), .val (.int (1 : Int32)), .val (.int (0 : Int32)), .val (.int kys), .val (.int tv1), .val (.int tv2), .val (.int tv3), .val (.ref b485), .val (.ref b487), .val .null, .val (.ref b491), .val (.ref b497), .val (.long fre), .second, .val (.long fil1), .second, .unset, .unset, .unset, .unset, .unset, .unset, .unset, .unset, .unset, .unset] [(.int kys), (.ref b497)])) rfl (by rw [hml]; rfl) (Steps.refl _) (argsL := [(.int kys)]) (rest := []) (lenOf pd__I_V rfl) rfl (by show 2 * 0 + _ ≤ _; exact Nat.le_of_eq rfl) (hb hby at_222) (fun _ _ => ⟨rfl, e621, (by decide : 13 + 3 ≤ _), (by decide : 6202 + 21 ≤ _)⟩)
      dsimp only [Pt.U, Pt.locs, Pt.cells, Pt.slots] at X624 l624 y624 z624 st624 hQ624
      subst l624 y624 z624
      obtain ⟨ob624_1, ob624_2, ob624_3, rfl, N624q, K624, ozob624_1, ozob624_2, ozob624_3, ne_ob624_1_ob624_2, ne_ob624_1_ob624_3, ne_ob624_2_ob624_3, Q624_0, Q624_1, Q624_2, Q624_3, Q624_4, Q624_5, Q624_6, Q624_7, Q624_8, Q624_9, Q624_10, Q624_11, Q624_12, Q624_13, Q624_14⟩ := hQ624
      have ne_b497_ob624_1 : b497 ≠ ob624_1 := Nat.ne_of_lt (Nat.lt_of_lt_of_le Q590_0.lt ozob624_1)
      have ne_ob505_7_ob624_1 : ob505_7 ≠ ob624_1 := Nat.ne_of_lt (Nat.lt_of_lt_of_le Q590_17.lt ozob624_1)
      have ne_ob505_9_ob624_1 : ob505_9 ≠ ob624_1 := Nat.ne_of_lt (Nat.lt_of_lt_of_le Q590_19.lt ozob624_1)
      have ne_b497_ob624_2 : b497 ≠ ob624_2 := Nat.ne_of_lt (Nat.lt_of_lt_of_le Q590_0.lt ozob624_2)
      have ne_ob505_7_ob624_2 : ob505_7 ≠ ob624_2 := Nat.ne_of_lt (Nat.lt_of_lt_of_le Q590_17.lt ozob624_2)
      have ne_ob505_9_ob624_2 : ob505_9 ≠ ob624_2 := Nat.ne_of_lt (Nat.lt_of_lt_of_le Q590_19.lt ozob624_2)
      have ne_b497_ob624_3 : b497 ≠ ob624_3 := Nat.ne_of_lt (Nat.lt_of_lt_of_le Q590_0.lt ozob624_3)
      have ne_ob505_7_ob624_3 : ob505_7 ≠ ob624_3 := Nat.ne_of_lt (Nat.lt_of_lt_of_le Q590_17.lt ozob624_3)
      have ne_ob505_9_ob624_3 : ob505_9 ≠ ob624_3 := Nat.ne_of_lt (Nat.lt_of_lt_of_le Q590_19.lt ozob624_3)
      have F651_624 := Q590_17.keep K624 (ninS (Ne.symm ne_b497_ob505_7) nin0)
      have F652_624 := Q590_18.keep K624 (ninS (Ne.symm ne_b497_ob505_8) nin0)
      have F653_624 := Q590_19.keep K624 (ninS (Ne.symm ne_b497_ob505_9) nin0)
      have Z624 : n0 ≤ T624.heap.size := Nat.le_trans Z590 K624.1
      have N624 := Fr.app N621 N624q
      obtain ⟨cq655, kq655, q655a, q655b, q655c⟩ := isOf hZ rfl Q624_0
      obtain ⟨_, _, ⟨T655, L655, k655, n655⟩, -, X655, ⟨Lc655, hQ655, l655, y655, z655⟩, st655⟩ := X624.virtualBack hx (y := (⟨"com/example/accrete/accrete/engine/Sendings", "cost", "()J"⟩ : MethodName)) (z := (⟨"com/example/accrete/accrete/engine/Sendings", "cost", "()J"⟩ : MethodName)) hown (mvT hZ (hw _ (mgE 32 rfl))) (mvT hZ (hw _ (mgE 33 rfl))) (notFace_of_selects (args := #[]) (mvT hZ (hw _ (mgE 35 rfl)))) (mvT hZ (hw _ (mgE 35 rfl))) (mvT hZ (hw _ (mgE 34 rfl))) (by decide) (backOf (W := 0) (rm3 l Z a0 hw [] b497 ob505_8 (1024 : Int32) (own_upd (own_upd (own_upd (fun _ => (0 : Int32)) ((0 : Int32)).toNatClampNeg tv1) ((1 : Int32)).toNatClampNeg tv2) ((2 : Int32)).toNatClampNeg tv3) ob624_3 (kys + (1 : Int32)) (prefS tv1 tv2 tv3 kys) ob624_1 (3 : Int32) (own_upd (own_upd (own_upd (fun _ => (0 : Int32)) (((nxtS tv1 tv2 tv3 kys) (tv1).toNatClampNeg)).toNatClampNeg (0 : Int32)) (((own_upd (nxtS tv1 tv2 tv3 kys) (tv1).toNatClampNeg (((nxtS tv1 tv2 tv3 kys) (tv1).toNatClampNeg) + (1 : Int32))) (tv2).toNatClampNeg)).toNatClampNeg (1 : Int32)) (((own_upd (own_upd (nxtS tv1 tv2 tv3 kys) (tv1).toNatClampNeg (((nxtS tv1 tv2 tv3 kys) (tv1).toNatClampNeg) + (1 : Int32))) (tv2).toNatClampNeg (((own_upd (nxtS tv1 tv2 tv3 kys) (tv1).toNatClampNeg (((nxtS tv1 tv2 tv3 kys) (tv1).toNatClampNeg) + (1 : Int32))) (tv2).toNatClampNeg) + (1 : Int32))) (tv3).toNatClampNeg)).toNatClampNeg (2 : Int32)) ob624_2 (kys + (1 : Int32)) (own_upd (own_upd (own_upd (nxtS tv1 tv2 tv3 kys) (tv1).toNatClampNeg (((nxtS tv1 tv2 tv3 kys) (tv1).toNatClampNeg) + (1 : Int32))) (tv2).toNatClampNeg (((own_upd (nxtS tv1 tv2 tv3 kys) (tv1).toNatClampNeg (((nxtS tv1 tv2 tv3 kys) (tv1).toNatClampNeg) + (1 : Int32))) (tv2).toNatClampNeg) + (1 : Int32))) (tv3).toNatClampNeg (((own_upd (own_upd (nxtS tv1 tv2 tv3 kys) (tv1).toNatClampNeg (((nxtS tv1 tv2 tv3 kys) (tv1).toNatClampNeg) + (1 : Int32))) (tv2).toNatClampNeg (((own_upd (nxtS tv1 tv2 tv3 kys) (tv1).toNatClampNeg (((nxtS tv1 tv2 tv3 kys) (tv1).toNatClampNeg) + (1 : Int32))) (tv2).toNatClampNeg) + (1 : Int32))) (tv3).toNatClampNeg) + (1 : Int32))) ((((0 : Int64) + ((((16 : Int32) + la).toInt64) + (((16 : Int32) + lb).toInt64))) + (0 : Int64)) + ((0 : Int64) + (((16 : Int32) + ld).toInt64))) T624.heap n0 Z624 Q624_9 F652_624 Q624_7 Q624_14 Q624_1 Q624_12 Q624_2 Q624_13 Q624_11) hZ (hw _ (mgE 36 rfl)) (hw _ (mgE 4 rfl)) (by decide) (by decide)) q655a q655c (g := (mkF m 227 #[.val (.int p1), .val (.int p2), .val (.int p3), .val (.int p4), .val (.int p5), .val (.int p6), .val (.int la), .val (.int lb), .val (.int lc), .val (.int ld), .val (.int (1 : Int32)), .val (.int (0 : Int32)), .val (.int kys), .val (.int tv1), .val (.int tv2), .val (.int tv3), .val (.ref b485), .val (.ref b487), .val .null, .val (.ref b491), .val (.ref b497), .val (.long fre), .second, .val (.long fil1), .second, .unset, .unset, .unset, .unset, .unset, .unset, .unset, .unset, .unset, .unset] [(.ref b497)])) rfl (by rw [hml]; rfl) (Steps.refl _) (argsL := []) (rest := []) (lenOf pd___J rfl) rfl (by show 2 * 0 + _ ≤ _; exact Nat.le_of_eq rfl) (hb hby at_227) (fun _ _ => ⟨rfl, rfl, (by decide : 16 + 0 ≤ _), (by decide : 6223 + 0 ≤ _)⟩)
      dsimp only [Pt.U, Pt.locs, Pt.cells, Pt.slots] at X655 l655 y655 z655 st655 hQ655
      subst l655 y655 z655
      obtain ⟨rfl, N655q, e655⟩ := hQ655
      have N655 := Fr.app N624 N655q
      have pre657 : ∀ t, Steps p.tables e below (T655.setTop (mkF m 232 #[.val (.int p1), .val (.int p2), .val (.int p3), .val (.int p4), .val (.int p5), .val (.int p6), .val (.int la), .val (.int lb), .val (.int lc), .val (.int ld), .val (.int (1 : Int32)), .val (.int (0 : Int32)), .val (.int kys), .val (.int tv1), .val (.int tv2), .val (.int tv3), .val (.ref b485), .val (.ref b487), .val .null, .val (.ref b491), .val (.ref b497), .val (.long fre), .second, .val (.long fil1), .second, .val (.long (cst (1024 : Int32) (kys + (1 : Int32)) (3 : Int32) (kys + (1 : Int32)) ((((0 : Int64) + ((((16 : Int32) + la).toInt64) + (((16 : Int32) + lb).toInt64))) + (0 : Int64)) + ((0 : Int64) + (((16 : Int32) + ld).toInt64))))), .second, .unset, .unset, .unset, .unset, .unset, .unset, .unset, .unset] [])) t → EN t := fun t kt => by
        refine pre623 t ?_
        refine XS.aload X621.here hx rfl (hb hby at_218) rfl rfl ?_
        refine XS.iload X621.here hx rfl (hb hby at_220) rfl ?_
        refine st624.trans ?_
        refine XS.aload X624.here hx rfl (hb hby at_225) rfl rfl ?_
        refine st655.trans ?_
        refine XS.lstore X655.here hx rfl (hb hby at_230) rfl (l' := #[.val (.int p1), .val (.int p2), .val (.int p3), .val (.int p4), .val (.int p5), .val (.int p6), .val (.int la), .val (.int lb), .val (.int lc), .val (.int ld), .val (.int (1 : Int32)), .val (.int (0 : Int32)), .val (.int kys), .val (.int tv1), .val (.int tv2), .val (.int tv3), .val (.ref b485), .val (.ref b487), .val .null, .val (.ref b491), .val (.ref b497), .val (.long fre), .second, .val (.long fil1), .second, .val (.long (cst (1024 : Int32) (kys + (1 : Int32)) (3 : Int32) (kys + (1 : Int32)) ((((0 : Int64) + ((((16 : Int32) + la).toInt64) + (((16 : Int32) + lb).toInt64))) + (0 : Int64)) + ((0 : Int64) + (((16 : Int32) + ld).toInt64))))), .second, .unset, .unset, .unset, .unset, .unset, .unset, .unset, .unset]) rfl ?_
        exact kt
      obtain ⟨gro, h_gro⟩ : ∃ z, z = (cst (1024 : Int32) (kys + (1 : Int32)) (3 : Int32) (kys + (1 : Int32)) ((((0 : Int64) + ((((16 : Int32) + la).toInt64) + (((16 : Int32) + lb).toInt64))) + (0 : Int64)) + ((0 : Int64) + (((16 : Int32) + ld).toInt64)))) := ⟨_, rfl⟩
      rw [← h_gro] at pre657
      obtain ⟨cq658, kq658, q658a, q658b, q658c⟩ := isOf hZ e655 Q624_0
      obtain ⟨_, _, ⟨T658, L658, k658, n658⟩, -, X658, ⟨Lc658, hQ658, l658, y658, z658⟩, st658⟩ := X655.virtualBack hx (y := (⟨"com/example/accrete/accrete/engine/Sendings", "clear", "()V"⟩ : MethodName)) (z := (⟨"com/example/accrete/accrete/engine/Sendings", "clear", "()V"⟩ : MethodName)) hown (mvT hZ (hw _ (mgE 95 rfl))) (mvT hZ (hw _ (mgE 96 rfl))) (notFace_of_selects (args := #[]) (mvT hZ (hw _ (mgE 98 rfl)))) (mvT hZ (hw _ (mgE 98 rfl))) (mvT hZ (hw _ (mgE 97 rfl))) (by decide) (backOf (W := 0) (rm15 l Z a0 hw [] b497 ob505_8 ob505_5 ob505_4 ob505_3 ob505_9 ob505_7 ob624_3 ob624_1 ob624_2 (own_upd (own_upd (own_upd (fun _ => Value.null) ((0 : Int32)).toNatClampNeg (Value.ref b487)) ((1 : Int32)).toNatClampNeg Value.null) ((2 : Int32)).toNatClampNeg (Value.ref b491)) (own_upd (own_upd (own_upd (fun _ => Value.null) ((0 : Int32)).toNatClampNeg (Value.ref b485)) ((1 : Int32)).toNatClampNeg Value.null) ((2 : Int32)).toNatClampNeg Value.null) (.long ((((0 : Int64) + ((((16 : Int32) + la).toInt64) + (((16 : Int32) + lb).toInt64))) + (0 : Int64)) + ((0 : Int64) + (((16 : Int32) + ld).toInt64)))) T624.heap n0 Z624 Q624_5 Q624_9 Q624_6 Q624_4 Q624_3 Q624_10 Q624_8 Q624_7 Q624_1 Q624_2 F653_624 g_ob505_9 ne_b497_ob505_9 F651_624 ne_ob505_7_ob505_9 g_ob505_7 ne_b497_ob505_7 Q624_0 g_b497 Q624_11) hZ (hw _ (mgE 99 rfl)) (hw _ (mgE 4 rfl)) (by decide) (by decide)) q658a q658c (g := (mkF m 234 #[.val (.int p1), .val (.int p2), .val (.int p3), .val (.int p4), .val (.int p5), .val (.int p6), .val (.int la), .val (.int lb), .val (.int lc), .val (.int ld), .val (.int (1 : Int32)), .val (.int (0 : Int32)), .val (.int kys), .val (.int tv1), .val (.int tv2), .val (.int tv3), .val (.ref b485), .val (.ref b487), .val .null, .val (.ref b491), .val (.ref b497), .val (.long fre), .second, .val (.long fil1), .second, .val (.long gro), .second, .unset, .unset, .unset, .unset, .unset, .unset, .unset, .unset] [(.ref b497)])) rfl (by rw [hml]; rfl) (Steps.refl _) (argsL := []) (rest := []) (lenOf pd___V rfl) rfl (by show 2 * 0 + _ ≤ _; exact Nat.le_of_eq rfl) (hb hby at_234) (fun _ _ => ⟨rfl, e655, (by decide : 16 + 0 ≤ _), (by decide : 6223 + 0 ≤ _)⟩)
      dsimp only [Pt.U, Pt.locs, Pt.cells, Pt.slots] at X658 l658 y658 z658 st658 hQ658
      subst l658 y658 z658
      obtain ⟨rfl, N658q, K658, Q658_0, Q658_1, Q658_2, Q658_3, Q658_4, Q658_5, Q658_6, Q658_7, Q658_8, Q658_9, Q658_10, Q658_11, Q658_12, Q658_13⟩ := hQ658
      have F675_658 := F652_624.keep K658 (ninS ne_ob505_8_ob505_9 (ninS (Ne.symm ne_ob505_7_ob505_8) (ninS (Ne.symm ne_b497_ob505_8) nin0)))
      have F688_658 := Q624_12.keep K658 (ninS (Ne.symm ne_ob505_9_ob624_1) (ninS (Ne.symm ne_ob505_7_ob624_1) (ninS (Ne.symm ne_b497_ob624_1) nin0)))
      have F689_658 := Q624_13.keep K658 (ninS (Ne.symm ne_ob505_9_ob624_2) (ninS (Ne.symm ne_ob505_7_ob624_2) (ninS (Ne.symm ne_b497_ob624_2) nin0)))
      have F690_658 := Q624_14.keep K658 (ninS (Ne.symm ne_ob505_9_ob624_3) (ninS (Ne.symm ne_ob505_7_ob624_3) (ninS (Ne.symm ne_b497_ob624_3) nin0)))
      have Z658 : n0 ≤ T658.heap.size := Nat.le_trans Z624 K658.1
      have N658 := Fr.app N655 N658q
      obtain ⟨cq692, kq692, q692a, q692b, q692c⟩ := isOf hZ rfl Q658_0
      obtain ⟨_, _, ⟨T692, L692, k692, n692⟩, -, X692, ⟨Lc692, hQ692, l692, y692, z692⟩, st692⟩ := X658.virtualBack hx (y := (⟨"com/example/accrete/accrete/engine/Sendings", "cost", "()J"⟩ : MethodName)) (z := (⟨"com/example/accrete/accrete/engine/Sendings", "cost", "()J"⟩ : MethodName)) hown (mvT hZ (hw _ (mgE 32 rfl))) (mvT hZ (hw _ (mgE 33 rfl))) (notFace_of_selects (args := #[]) (mvT hZ (hw _ (mgE 35 rfl)))) (mvT hZ (hw _ (mgE 35 rfl))) (mvT hZ (hw _ (mgE 34 rfl))) (by decide) (backOf (W := 0) (rm3 l Z a0 hw [] b497 ob505_8 (1024 : Int32) (own_upd (own_upd (own_upd (fun _ => (0 : Int32)) ((0 : Int32)).toNatClampNeg tv1) ((1 : Int32)).toNatClampNeg tv2) ((2 : Int32)).toNatClampNeg tv3) ob624_3 (kys + (1 : Int32)) (prefS tv1 tv2 tv3 kys) ob624_1 (3 : Int32) (own_upd (own_upd (own_upd (fun _ => (0 : Int32)) (((nxtS tv1 tv2 tv3 kys) (tv1).toNatClampNeg)).toNatClampNeg (0 : Int32)) (((own_upd (nxtS tv1 tv2 tv3 kys) (tv1).toNatClampNeg (((nxtS tv1 tv2 tv3 kys) (tv1).toNatClampNeg) + (1 : Int32))) (tv2).toNatClampNeg)).toNatClampNeg (1 : Int32)) (((own_upd (own_upd (nxtS tv1 tv2 tv3 kys) (tv1).toNatClampNeg (((nxtS tv1 tv2 tv3 kys) (tv1).toNatClampNeg) + (1 : Int32))) (tv2).toNatClampNeg (((own_upd (nxtS tv1 tv2 tv3 kys) (tv1).toNatClampNeg (((nxtS tv1 tv2 tv3 kys) (tv1).toNatClampNeg) + (1 : Int32))) (tv2).toNatClampNeg) + (1 : Int32))) (tv3).toNatClampNeg)).toNatClampNeg (2 : Int32)) ob624_2 (kys + (1 : Int32)) (own_upd (own_upd (own_upd (nxtS tv1 tv2 tv3 kys) (tv1).toNatClampNeg (((nxtS tv1 tv2 tv3 kys) (tv1).toNatClampNeg) + (1 : Int32))) (tv2).toNatClampNeg (((own_upd (nxtS tv1 tv2 tv3 kys) (tv1).toNatClampNeg (((nxtS tv1 tv2 tv3 kys) (tv1).toNatClampNeg) + (1 : Int32))) (tv2).toNatClampNeg) + (1 : Int32))) (tv3).toNatClampNeg (((own_upd (own_upd (nxtS tv1 tv2 tv3 kys) (tv1).toNatClampNeg (((nxtS tv1 tv2 tv3 kys) (tv1).toNatClampNeg) + (1 : Int32))) (tv2).toNatClampNeg (((own_upd (nxtS tv1 tv2 tv3 kys) (tv1).toNatClampNeg (((nxtS tv1 tv2 tv3 kys) (tv1).toNatClampNeg) + (1 : Int32))) (tv2).toNatClampNeg) + (1 : Int32))) (tv3).toNatClampNeg) + (1 : Int32))) (0 : Int64) T658.heap n0 Z658 Q658_9 F675_658 Q658_7 F690_658 Q658_1 F688_658 Q658_2 F689_658 Q658_11) hZ (hw _ (mgE 36 rfl)) (hw _ (mgE 4 rfl)) (by decide) (by decide)) q692a q692c (g := (mkF m 239 #[.val (.int p1), .val (.int p2), .val (.int p3), .val (.int p4), .val (.int p5), .val (.int p6), .val (.int la), .val (.int lb), .val (.int lc), .val (.int ld), .val (.int (1 : Int32)), .val (.int (0 : Int32)), .val (.int kys), .val (.int tv1), .val (.int tv2), .val (.int tv3), .val (.ref b485), .val (.ref b487), .val .null, .val (.ref b491), .val (.ref b497), .val (.long fre), .second, .val (.long fil1), .second, .val (.long gro), .second, .unset, .unset, .unset, .unset, .unset, .unset, .unset, .unset] [(.ref b497)])) rfl (by rw [hml]; rfl) (Steps.refl _) (argsL := []) (rest := []) (lenOf pd___J rfl) rfl (by show 2 * 0 + _ ≤ _; exact Nat.le_of_eq rfl) (hb hby at_239) (fun _ _ => ⟨rfl, rfl, (by decide : 16 + 0 ≤ _), (by decide : 6223 + 0 ≤ _)⟩)
      dsimp only [Pt.U, Pt.locs, Pt.cells, Pt.slots] at X692 l692 y692 z692 st692 hQ692
      subst l692 y692 z692
      obtain ⟨rfl, N692q, e692⟩ := hQ692
      have N692 := Fr.app N658 N692q
      have pre694 : ∀ t, Steps p.tables e below (T692.setTop (mkF m 244 #[.val (.int p1), .val (.int p2), .val (.int p3), .val (.int p4), .val (.int p5), .val (.int p6), .val (.int la), .val (.int lb), .val (.int lc), .val (.int ld), .val (.int (1 : Int32)), .val (.int (0 : Int32)), .val (.int kys), .val (.int tv1), .val (.int tv2), .val (.int tv3), .val (.ref b485), .val (.ref b487), .val .null, .val (.ref b491), .val (.ref b497), .val (.long fre), .second, .val (.long fil1), .second, .val (.long gro), .second, .val (.long (cst (1024 : Int32) (kys + (1 : Int32)) (3 : Int32) (kys + (1 : Int32)) (0 : Int64))), .second, .unset, .unset, .unset, .unset, .unset, .unset] [])) t → EN t := fun t kt => by
        refine pre657 t ?_
        refine XS.aload X655.here hx rfl (hb hby at_232) rfl rfl ?_
        refine st658.trans ?_
        refine XS.aload X658.here hx rfl (hb hby at_237) rfl rfl ?_
        refine st692.trans ?_
        refine XS.lstore X692.here hx rfl (hb hby at_242) rfl (l' := #[.val (.int p1), .val (.int p2), .val (.int p3), .val (.int p4), .val (.int p5), .val (.int p6), .val (.int la), .val (.int lb), .val (.int lc), .val (.int ld), .val (.int (1 : Int32)), .val (.int (0 : Int32)), .val (.int kys), .val (.int tv1), .val (.int tv2), .val (.int tv3), .val (.ref b485), .val (.ref b487), .val .null, .val (.ref b491), .val (.ref b497), .val (.long fre), .second, .val (.long fil1), .second, .val (.long gro), .second, .val (.long (cst (1024 : Int32) (kys + (1 : Int32)) (3 : Int32) (kys + (1 : Int32)) (0 : Int64))), .second, .unset, .unset, .unset, .unset, .unset, .unset]) rfl ?_
        exact kt
      obtain ⟨cle, h_cle⟩ : ∃ z, z = (cst (1024 : Int32) (kys + (1 : Int32)) (3 : Int32) (kys + (1 : Int32)) (0 : Int64)) := ⟨_, rfl⟩
      rw [← h_cle] at pre694
      have pre695 : ∀ t, Steps p.tables e below (T692.setTop (mkF m 286 #[.val (.int p1), .val (.int p2), .val (.int p3), .val (.int p4), .val (.int p5), .val (.int p6), .val (.int la), .val (.int lb), .val (.int lc), .val (.int ld), .val (.int (1 : Int32)), .val (.int (0 : Int32)), .val (.int kys), .val (.int tv1), .val (.int tv2), .val (.int tv3), .val (.ref b485), .val (.ref b487), .val .null, .val (.ref b491), .val (.ref b497), .val (.long fre), .second, .val (.long fil1), .second, .val (.long gro), .second, .val (.long cle), .second, .val (.long (((((16 : Int64) + (la.toInt64)) + ((16 : Int64) + (lb.toInt64))) + (0 : Int64)) + ((16 : Int64) + (ld.toInt64)))), .second, .unset, .unset, .unset, .unset] [])) t → EN t := fun t kt => by
        refine pre694 t ?_
        refine X692.ldc2Long hx hown (mvT hZ (hw _ (mgE 103 rfl))) (g := (mkF m 244 #[.val (.int p1), .val (.int p2), .val (.int p3), .val (.int p4), .val (.int p5), .val (.int p6), .val (.int la), .val (.int lb), .val (.int lc), .val (.int ld), .val (.int (1 : Int32)), .val (.int (0 : Int32)), .val (.int kys), .val (.int tv1), .val (.int tv2), .val (.int tv3), .val (.ref b485), .val (.ref b487), .val .null, .val (.ref b491), .val (.ref b497), .val (.long fre), .second, .val (.long fil1), .second, .val (.long gro), .second, .val (.long cle), .second, .unset, .unset, .unset, .unset, .unset, .unset] [])) rfl (hb hby at_244) _ ?_
        refine XS.iload X692.here hx rfl (hb hby at_247) rfl ?_
        refine XS.i2l X692.here hx rfl (hb hby at_249) rfl ?_
        refine XS.ladd X692.here hx rfl (hb hby at_250) rfl ?_
        refine X692.ldc2Long hx hown (mvT hZ (hw _ (mgE 103 rfl))) (g := (mkF m 251 #[.val (.int p1), .val (.int p2), .val (.int p3), .val (.int p4), .val (.int p5), .val (.int p6), .val (.int la), .val (.int lb), .val (.int lc), .val (.int ld), .val (.int (1 : Int32)), .val (.int (0 : Int32)), .val (.int kys), .val (.int tv1), .val (.int tv2), .val (.int tv3), .val (.ref b485), .val (.ref b487), .val .null, .val (.ref b491), .val (.ref b497), .val (.long fre), .second, .val (.long fil1), .second, .val (.long gro), .second, .val (.long cle), .second, .unset, .unset, .unset, .unset, .unset, .unset] [(.long ((16 : Int64) + (la.toInt64)))])) rfl (hb hby at_251) _ ?_
        refine XS.iload X692.here hx rfl (hb hby at_254) rfl ?_
        refine XS.i2l X692.here hx rfl (hb hby at_256) rfl ?_
        refine XS.ladd X692.here hx rfl (hb hby at_257) rfl ?_
        refine XS.ladd X692.here hx rfl (hb hby at_258) rfl ?_
        refine XS.iload X692.here hx rfl (hb hby at_259) rfl ?_
        show Steps p.tables e below (T692.setTop (mkF m 261 #[.val (.int p1), .val (.int p2), .val (.int p3), .val (.int p4), .val (.int p5), .val (.int p6), .val (.int la), .val (.int lb), .val (.int lc), .val (.int ld), .val (.int (1 : Int32)), .val (.int (0 : Int32)), .val (.int kys), .val (.int tv1), .val (.int tv2), .val (.int tv3), .val (.ref b485), .val (.ref b487), .val .null, .val (.ref b491), .val (.ref b497), .val (.long fre), .second, .val (.long fil1), .second, .val (.long gro), .second, .val (.long cle), .second, .unset, .unset, .unset, .unset, .unset, .unset] [(.int (1 : Int32)), (.long (((16 : Int64) + (la.toInt64)) + ((16 : Int64) + (lb.toInt64))))])) _
        refine XS.ifNo X692.here hx rfl (hb hby at_261) rfl ((if0 _ _).trans (feq (by decide : ¬ ((1 : Int32) = (0 : Int32)))).1) ?_
        refine XS.lconst X692.here hx rfl (hb hby at_264) ?_
        refine XS.goto X692.here hx rfl (pc0 := 265) (pc' := 275) rfl (hb hby at_265) (by decide) (by decide) ?_
        refine XS.ladd X692.here hx rfl (hb hby at_275) rfl ?_
        refine X692.ldc2Long hx hown (mvT hZ (hw _ (mgE 103 rfl))) (g := (mkF m 276 #[.val (.int p1), .val (.int p2), .val (.int p3), .val (.int p4), .val (.int p5), .val (.int p6), .val (.int la), .val (.int lb), .val (.int lc), .val (.int ld), .val (.int (1 : Int32)), .val (.int (0 : Int32)), .val (.int kys), .val (.int tv1), .val (.int tv2), .val (.int tv3), .val (.ref b485), .val (.ref b487), .val .null, .val (.ref b491), .val (.ref b497), .val (.long fre), .second, .val (.long fil1), .second, .val (.long gro), .second, .val (.long cle), .second, .unset, .unset, .unset, .unset, .unset, .unset] [(.long ((((16 : Int64) + (la.toInt64)) + ((16 : Int64) + (lb.toInt64))) + (0 : Int64)))])) rfl (hb hby at_276) _ ?_
        refine XS.iload X692.here hx rfl (hb hby at_279) rfl ?_
        refine XS.i2l X692.here hx rfl (hb hby at_281) rfl ?_
        refine XS.ladd X692.here hx rfl (hb hby at_282) rfl ?_
        refine XS.ladd X692.here hx rfl (hb hby at_283) rfl ?_
        refine XS.lstore X692.here hx rfl (hb hby at_284) rfl (l' := #[.val (.int p1), .val (.int p2), .val (.int p3), .val (.int p4), .val (.int p5), .val (.int p6), .val (.int la), .val (.int lb), .val (.int lc), .val (.int ld), .val (.int (1 : Int32)), .val (.int (0 : Int32)), .val (.int kys), .val (.int tv1), .val (.int tv2), .val (.int tv3), .val (.ref b485), .val (.ref b487), .val .null, .val (.ref b491), .val (.ref b497), .val (.long fre), .second, .val (.long fil1), .second, .val (.long gro), .second, .val (.long cle), .second, .val (.long (((((16 : Int64) + (la.toInt64)) + ((16 : Int64) + (lb.toInt64))) + (0 : Int64)) + ((16 : Int64) + (ld.toInt64)))), .second, .unset, .unset, .unset, .unset]) rfl ?_
        show Steps p.tables e below (T692.setTop (mkF m 286 #[.val (.int p1), .val (.int p2), .val (.int p3), .val (.int p4), .val (.int p5), .val (.int p6), .val (.int la), .val (.int lb), .val (.int lc), .val (.int ld), .val (.int (1 : Int32)), .val (.int (0 : Int32)), .val (.int kys), .val (.int tv1), .val (.int tv2), .val (.int tv3), .val (.ref b485), .val (.ref b487), .val .null, .val (.ref b491), .val (.ref b497), .val (.long fre), .second, .val (.long fil1), .second, .val (.long gro), .second, .val (.long cle), .second, .val (.long (((((16 : Int64) + (la.toInt64)) + ((16 : Int64) + (lb.toInt64))) + (0 : Int64)) + ((16 : Int64) + (ld.toInt64)))), .second, .unset, .unset, .unset, .unset] [])) _
        exact kt
      obtain ⟨vls, h_vls⟩ : ∃ z, z = (((((16 : Int64) + (la.toInt64)) + ((16 : Int64) + (lb.toInt64))) + (0 : Int64)) + ((16 : Int64) + (ld.toInt64))) := ⟨_, rfl⟩
      rw [← h_vls] at pre695
      have hc321 : (lcmpW fre (24584 : Int64)) = (0 : Int32) := by rw [h_fre]; decide
      have hc332 : (lcmpW fil1 ((24584 : Int64) + vls)) = (0 : Int32) := by rw [lw_eq, h_fil1, own_cst1, h_vls]; simp only [own_16 la b_la, own_16 lb b_lb, own_16 lc b_lc, own_16 ld b_ld, Int64.zero_add]
      have hc343 : (lcmpW gro (((24576 : Int64) + ((4 : Int64) * ((((kys.toInt64) + (1 : Int64)) + (3 : Int64)) + ((kys.toInt64) + (1 : Int64))))) + vls)) = (0 : Int32) := by rw [lw_eq, h_gro, own_cst2 kys hkys, h_vls]; simp only [own_16 la b_la, own_16 lb b_lb, own_16 lc b_lc, own_16 ld b_ld, Int64.zero_add]
      have hc351 : (lcmpW cle ((24576 : Int64) + ((4 : Int64) * ((((kys.toInt64) + (1 : Int64)) + (3 : Int64)) + ((kys.toInt64) + (1 : Int64)))))) = (0 : Int32) := by rw [lw_eq, h_cle, own_cst2 kys hkys, Int64.add_zero]
      have pre696 : ∀ t, Steps p.tables e below (T692.setTop (mkF m 359 #[.val (.int p1), .val (.int p2), .val (.int p3), .val (.int p4), .val (.int p5), .val (.int p6), .val (.int la), .val (.int lb), .val (.int lc), .val (.int ld), .val (.int (1 : Int32)), .val (.int (0 : Int32)), .val (.int kys), .val (.int tv1), .val (.int tv2), .val (.int tv3), .val (.ref b485), .val (.ref b487), .val .null, .val (.ref b491), .val (.ref b497), .val (.long fre), .second, .val (.long fil1), .second, .val (.long gro), .second, .val (.long cle), .second, .val (.long vls), .second, .val (.long (24584 : Int64)), .second, .val (.long ((24576 : Int64) + ((4 : Int64) * ((((kys.toInt64) + (1 : Int64)) + (3 : Int64)) + ((kys.toInt64) + (1 : Int64)))))), .second] [(.int (1 : Int32))])) t → EN t := fun t kt => by
        refine pre695 t ?_
        refine X692.ldc2Long hx hown (mvT hZ (hw _ (mgE 104 rfl))) (g := (mkF m 286 #[.val (.int p1), .val (.int p2), .val (.int p3), .val (.int p4), .val (.int p5), .val (.int p6), .val (.int la), .val (.int lb), .val (.int lc), .val (.int ld), .val (.int (1 : Int32)), .val (.int (0 : Int32)), .val (.int kys), .val (.int tv1), .val (.int tv2), .val (.int tv3), .val (.ref b485), .val (.ref b487), .val .null, .val (.ref b491), .val (.ref b497), .val (.long fre), .second, .val (.long fil1), .second, .val (.long gro), .second, .val (.long cle), .second, .val (.long vls), .second, .unset, .unset, .unset, .unset] [])) rfl (hb hby at_286) _ ?_
        refine XS.lstore X692.here hx rfl (hb hby at_289) rfl (l' := #[.val (.int p1), .val (.int p2), .val (.int p3), .val (.int p4), .val (.int p5), .val (.int p6), .val (.int la), .val (.int lb), .val (.int lc), .val (.int ld), .val (.int (1 : Int32)), .val (.int (0 : Int32)), .val (.int kys), .val (.int tv1), .val (.int tv2), .val (.int tv3), .val (.ref b485), .val (.ref b487), .val .null, .val (.ref b491), .val (.ref b497), .val (.long fre), .second, .val (.long fil1), .second, .val (.long gro), .second, .val (.long cle), .second, .val (.long vls), .second, .val (.long (24584 : Int64)), .second, .unset, .unset]) rfl ?_
        refine X692.ldc2Long hx hown (mvT hZ (hw _ (mgE 105 rfl))) (g := (mkF m 291 #[.val (.int p1), .val (.int p2), .val (.int p3), .val (.int p4), .val (.int p5), .val (.int p6), .val (.int la), .val (.int lb), .val (.int lc), .val (.int ld), .val (.int (1 : Int32)), .val (.int (0 : Int32)), .val (.int kys), .val (.int tv1), .val (.int tv2), .val (.int tv3), .val (.ref b485), .val (.ref b487), .val .null, .val (.ref b491), .val (.ref b497), .val (.long fre), .second, .val (.long fil1), .second, .val (.long gro), .second, .val (.long cle), .second, .val (.long vls), .second, .val (.long (24584 : Int64)), .second, .unset, .unset] [])) rfl (hb hby at_291) _ ?_
        refine X692.ldc2Long hx hown (mvT hZ (hw _ (mgE 106 rfl))) (g := (mkF m 294 #[.val (.int p1), .val (.int p2), .val (.int p3), .val (.int p4), .val (.int p5), .val (.int p6), .val (.int la), .val (.int lb), .val (.int lc), .val (.int ld), .val (.int (1 : Int32)), .val (.int (0 : Int32)), .val (.int kys), .val (.int tv1), .val (.int tv2), .val (.int tv3), .val (.ref b485), .val (.ref b487), .val .null, .val (.ref b491), .val (.ref b497), .val (.long fre), .second, .val (.long fil1), .second, .val (.long gro), .second, .val (.long cle), .second, .val (.long vls), .second, .val (.long (24584 : Int64)), .second, .unset, .unset] [(.long (24576 : Int64))])) rfl (hb hby at_294) _ ?_
        refine XS.iload X692.here hx rfl (hb hby at_297) rfl ?_
        refine XS.i2l X692.here hx rfl (hb hby at_299) rfl ?_
        refine XS.lconst X692.here hx rfl (hb hby at_300) ?_
        refine XS.ladd X692.here hx rfl (hb hby at_301) rfl ?_
        refine X692.ldc2Long hx hown (mvT hZ (hw _ (mgE 107 rfl))) (g := (mkF m 302 #[.val (.int p1), .val (.int p2), .val (.int p3), .val (.int p4), .val (.int p5), .val (.int p6), .val (.int la), .val (.int lb), .val (.int lc), .val (.int ld), .val (.int (1 : Int32)), .val (.int (0 : Int32)), .val (.int kys), .val (.int tv1), .val (.int tv2), .val (.int tv3), .val (.ref b485), .val (.ref b487), .val .null, .val (.ref b491), .val (.ref b497), .val (.long fre), .second, .val (.long fil1), .second, .val (.long gro), .second, .val (.long cle), .second, .val (.long vls), .second, .val (.long (24584 : Int64)), .second, .unset, .unset] [(.long ((kys.toInt64) + (1 : Int64))), (.long (4 : Int64)), (.long (24576 : Int64))])) rfl (hb hby at_302) _ ?_
        refine XS.ladd X692.here hx rfl (hb hby at_305) rfl ?_
        show Steps p.tables e below (T692.setTop (mkF m 306 #[.val (.int p1), .val (.int p2), .val (.int p3), .val (.int p4), .val (.int p5), .val (.int p6), .val (.int la), .val (.int lb), .val (.int lc), .val (.int ld), .val (.int (1 : Int32)), .val (.int (0 : Int32)), .val (.int kys), .val (.int tv1), .val (.int tv2), .val (.int tv3), .val (.ref b485), .val (.ref b487), .val .null, .val (.ref b491), .val (.ref b497), .val (.long fre), .second, .val (.long fil1), .second, .val (.long gro), .second, .val (.long cle), .second, .val (.long vls), .second, .val (.long (24584 : Int64)), .second, .unset, .unset] [(.long (((kys.toInt64) + (1 : Int64)) + (3 : Int64))), (.long (4 : Int64)), (.long (24576 : Int64))])) _
        refine XS.iload X692.here hx rfl (hb hby at_306) rfl ?_
        refine XS.i2l X692.here hx rfl (hb hby at_308) rfl ?_
        refine XS.lconst X692.here hx rfl (hb hby at_309) ?_
        refine XS.ladd X692.here hx rfl (hb hby at_310) rfl ?_
        refine XS.ladd X692.here hx rfl (hb hby at_311) rfl ?_
        refine XS.lmul X692.here hx rfl (hb hby at_312) rfl ?_
        refine XS.ladd X692.here hx rfl (hb hby at_313) rfl ?_
        refine XS.lstore X692.here hx rfl (hb hby at_314) rfl (l' := #[.val (.int p1), .val (.int p2), .val (.int p3), .val (.int p4), .val (.int p5), .val (.int p6), .val (.int la), .val (.int lb), .val (.int lc), .val (.int ld), .val (.int (1 : Int32)), .val (.int (0 : Int32)), .val (.int kys), .val (.int tv1), .val (.int tv2), .val (.int tv3), .val (.ref b485), .val (.ref b487), .val .null, .val (.ref b491), .val (.ref b497), .val (.long fre), .second, .val (.long fil1), .second, .val (.long gro), .second, .val (.long cle), .second, .val (.long vls), .second, .val (.long (24584 : Int64)), .second, .val (.long ((24576 : Int64) + ((4 : Int64) * ((((kys.toInt64) + (1 : Int64)) + (3 : Int64)) + ((kys.toInt64) + (1 : Int64)))))), .second]) rfl ?_
        refine XS.lload X692.here hx rfl (hb hby at_316) rfl ?_
        refine XS.lload X692.here hx rfl (hb hby at_318) rfl ?_
        show Steps p.tables e below (T692.setTop (mkF m 320 #[.val (.int p1), .val (.int p2), .val (.int p3), .val (.int p4), .val (.int p5), .val (.int p6), .val (.int la), .val (.int lb), .val (.int lc), .val (.int ld), .val (.int (1 : Int32)), .val (.int (0 : Int32)), .val (.int kys), .val (.int tv1), .val (.int tv2), .val (.int tv3), .val (.ref b485), .val (.ref b487), .val .null, .val (.ref b491), .val (.ref b497), .val (.long fre), .second, .val (.long fil1), .second, .val (.long gro), .second, .val (.long cle), .second, .val (.long vls), .second, .val (.long (24584 : Int64)), .second, .val (.long ((24576 : Int64) + ((4 : Int64) * ((((kys.toInt64) + (1 : Int64)) + (3 : Int64)) + ((kys.toInt64) + (1 : Int64)))))), .second] [(.long (24584 : Int64)), (.long fre)])) _
        refine XS.lcmp X692.here hx rfl (hb hby at_320) rfl ?_
        refine XS.ifNo X692.here hx rfl (hb hby at_321) rfl ((if0 _ _).trans (teq hc321).2) ?_
        refine XS.lload X692.here hx rfl (hb hby at_324) rfl ?_
        refine XS.lload X692.here hx rfl (hb hby at_326) rfl ?_
        refine XS.lload X692.here hx rfl (hb hby at_328) rfl ?_
        refine XS.ladd X692.here hx rfl (hb hby at_330) rfl ?_
        refine XS.lcmp X692.here hx rfl (hb hby at_331) rfl ?_
        refine XS.ifNo X692.here hx rfl (hb hby at_332) rfl ((if0 _ _).trans (teq hc332).2) ?_
        refine XS.lload X692.here hx rfl (hb hby at_335) rfl ?_
        refine XS.lload X692.here hx rfl (hb hby at_337) rfl ?_
        show Steps p.tables e below (T692.setTop (mkF m 339 #[.val (.int p1), .val (.int p2), .val (.int p3), .val (.int p4), .val (.int p5), .val (.int p6), .val (.int la), .val (.int lb), .val (.int lc), .val (.int ld), .val (.int (1 : Int32)), .val (.int (0 : Int32)), .val (.int kys), .val (.int tv1), .val (.int tv2), .val (.int tv3), .val (.ref b485), .val (.ref b487), .val .null, .val (.ref b491), .val (.ref b497), .val (.long fre), .second, .val (.long fil1), .second, .val (.long gro), .second, .val (.long cle), .second, .val (.long vls), .second, .val (.long (24584 : Int64)), .second, .val (.long ((24576 : Int64) + ((4 : Int64) * ((((kys.toInt64) + (1 : Int64)) + (3 : Int64)) + ((kys.toInt64) + (1 : Int64)))))), .second] [(.long ((24576 : Int64) + ((4 : Int64) * ((((kys.toInt64) + (1 : Int64)) + (3 : Int64)) + ((kys.toInt64) + (1 : Int64)))))), (.long gro)])) _
        refine XS.lload X692.here hx rfl (hb hby at_339) rfl ?_
        refine XS.ladd X692.here hx rfl (hb hby at_341) rfl ?_
        refine XS.lcmp X692.here hx rfl (hb hby at_342) rfl ?_
        refine XS.ifNo X692.here hx rfl (hb hby at_343) rfl ((if0 _ _).trans (teq hc343).2) ?_
        refine XS.lload X692.here hx rfl (hb hby at_346) rfl ?_
        refine XS.lload X692.here hx rfl (hb hby at_348) rfl ?_
        refine XS.lcmp X692.here hx rfl (hb hby at_350) rfl ?_
        refine XS.ifNo X692.here hx rfl (hb hby at_351) rfl ((if0 _ _).trans (teq hc351).2) ?_
        refine XS.iconst X692.here hx rfl (hb hby at_354) ?_
        refine XS.goto X692.here hx rfl (pc0 := 355) (pc' := 359) rfl (hb hby at_355) (by decide) (by decide) ?_
        show Steps p.tables e below (T692.setTop (mkF m 359 #[.val (.int p1), .val (.int p2), .val (.int p3), .val (.int p4), .val (.int p5), .val (.int p6), .val (.int la), .val (.int lb), .val (.int lc), .val (.int ld), .val (.int (1 : Int32)), .val (.int (0 : Int32)), .val (.int kys), .val (.int tv1), .val (.int tv2), .val (.int tv3), .val (.ref b485), .val (.ref b487), .val .null, .val (.ref b491), .val (.ref b497), .val (.long fre), .second, .val (.long fil1), .second, .val (.long gro), .second, .val (.long cle), .second, .val (.long vls), .second, .val (.long (24584 : Int64)), .second, .val (.long ((24576 : Int64) + ((4 : Int64) * ((((kys.toInt64) + (1 : Int64)) + (3 : Int64)) + ((kys.toInt64) + (1 : Int64)))))), .second] [(.int (1 : Int32))])) _
        exact kt
      obtain ⟨fs, hr, hrun, hended, hW, hsame⟩ := X692.leave (v := some (.int (1 : Int32))) (fun h => by rw [Bd.returns] at h; cases h)
      refine ⟨_, _, hEN _ (pre696 _ ?_), hrun, hended, _, _, rfl, ?_, ⟨_, rfl⟩, hW, hsame.mono (by decide) (by decide)⟩
      · exact retN X692 hx (t := .boolean) Bd.returns (by simp) (hb hby at_359) hr
      · show Q0 Z p1 p2 p3 p4 p5 p6 h0 n0 _ T692.heap _
        rw [e692]
        exact ⟨rfl, N692⟩
    · skip
      have pre697 : ∀ t, Steps p.tables e below (s₁.setTop (mkF m 75 #[.val (.int p1), .val (.int p2), .val (.int p3), .val (.int p4), .val (.int p5), .val (.int p6), .val (.int la), .val (.int lb), .val (.int lc), .val (.int ld), .val (.int (1 : Int32)), .val (.int (1 : Int32)), .val (.int ((((p1.toUInt32 >>> ((18 : Int32) &&& 31).toUInt32).toInt32) &&& (7 : Int32)) + (1 : Int32))), .unset, .unset, .unset, .unset, .unset, .unset, .unset, .unset, .unset, .unset, .unset, .unset, .unset, .unset, .unset, .unset, .unset, .unset, .unset, .unset, .unset, .unset] [])) t → EN t := fun t kt => by
        refine pre4 t ?_
        refine XS.iloadN X0.here hx rfl (hb hby at_32) rfl ?_
        refine XS.bipush X0.here hx rfl (hb hby at_33) ?_
        refine XS.iushr X0.here hx rfl (hb hby at_35) rfl ?_
        refine XS.iconst X0.here hx rfl (hb hby at_36) ?_
        refine XS.iand X0.here hx rfl (hb hby at_37) rfl ?_
        refine XS.ifNo X0.here hx rfl (hb hby at_38) rfl ((if0 _ _).trans (feq hc38).1) ?_
        refine XS.iconst X0.here hx rfl (hb hby at_41) ?_
        refine XS.goto X0.here hx rfl (pc0 := 42) (pc' := 46) rfl (hb hby at_42) (by decide) (by decide) ?_
        refine XS.istore X0.here hx rfl (hb hby at_46) rfl (l' := #[.val (.int p1), .val (.int p2), .val (.int p3), .val (.int p4), .val (.int p5), .val (.int p6), .val (.int la), .val (.int lb), .val (.int lc), .val (.int ld), .val (.int (1 : Int32)), .unset, .unset, .unset, .unset, .unset, .unset, .unset, .unset, .unset, .unset, .unset, .unset, .unset, .unset, .unset, .unset, .unset, .unset, .unset, .unset, .unset, .unset, .unset, .unset]) rfl ?_
        refine XS.iloadN X0.here hx rfl (hb hby at_48) rfl ?_
        show Steps p.tables e below (s₁.setTop (mkF m 49 #[.val (.int p1), .val (.int p2), .val (.int p3), .val (.int p4), .val (.int p5), .val (.int p6), .val (.int la), .val (.int lb), .val (.int lc), .val (.int ld), .val (.int (1 : Int32)), .unset, .unset, .unset, .unset, .unset, .unset, .unset, .unset, .unset, .unset, .unset, .unset, .unset, .unset, .unset, .unset, .unset, .unset, .unset, .unset, .unset, .unset, .unset, .unset] [(.int p1)])) _
        refine XS.bipush X0.here hx rfl (hb hby at_49) ?_
        refine XS.iushr X0.here hx rfl (hb hby at_51) rfl ?_
        refine XS.iconst X0.here hx rfl (hb hby at_52) ?_
        refine XS.iand X0.here hx rfl (hb hby at_53) rfl ?_
        refine XS.ifNo X0.here hx rfl (hb hby at_54) rfl ((if0 _ _).trans (feq hc54).1) ?_
        refine XS.iconst X0.here hx rfl (hb hby at_57) ?_
        refine XS.goto X0.here hx rfl (pc0 := 58) (pc' := 62) rfl (hb hby at_58) (by decide) (by decide) ?_
        refine XS.istore X0.here hx rfl (hb hby at_62) rfl (l' := #[.val (.int p1), .val (.int p2), .val (.int p3), .val (.int p4), .val (.int p5), .val (.int p6), .val (.int la), .val (.int lb), .val (.int lc), .val (.int ld), .val (.int (1 : Int32)), .val (.int (1 : Int32)), .unset, .unset, .unset, .unset, .unset, .unset, .unset, .unset, .unset, .unset, .unset, .unset, .unset, .unset, .unset, .unset, .unset, .unset, .unset, .unset, .unset, .unset, .unset]) rfl ?_
        refine XS.iloadN X0.here hx rfl (hb hby at_64) rfl ?_
        refine XS.bipush X0.here hx rfl (hb hby at_65) ?_
        show Steps p.tables e below (s₁.setTop (mkF m 67 #[.val (.int p1), .val (.int p2), .val (.int p3), .val (.int p4), .val (.int p5), .val (.int p6), .val (.int la), .val (.int lb), .val (.int lc), .val (.int ld), .val (.int (1 : Int32)), .val (.int (1 : Int32)), .unset, .unset, .unset, .unset, .unset, .unset, .unset, .unset, .unset, .unset, .unset, .unset, .unset, .unset, .unset, .unset, .unset, .unset, .unset, .unset, .unset, .unset, .unset] [(.int (18 : Int32)), (.int p1)])) _
        refine XS.iushr X0.here hx rfl (hb hby at_67) rfl ?_
        refine XS.bipush X0.here hx rfl (hb hby at_68) ?_
        refine XS.iand X0.here hx rfl (hb hby at_70) rfl ?_
        refine XS.iconst X0.here hx rfl (hb hby at_71) ?_
        refine XS.iadd X0.here hx rfl (hb hby at_72) rfl ?_
        refine XS.istore X0.here hx rfl (hb hby at_73) rfl (l' := #[.val (.int p1), .val (.int p2), .val (.int p3), .val (.int p4), .val (.int p5), .val (.int p6), .val (.int la), .val (.int lb), .val (.int lc), .val (.int ld), .val (.int (1 : Int32)), .val (.int (1 : Int32)), .val (.int ((((p1.toUInt32 >>> ((18 : Int32) &&& 31).toUInt32).toInt32) &&& (7 : Int32)) + (1 : Int32))), .unset, .unset, .unset, .unset, .unset, .unset, .unset, .unset, .unset, .unset, .unset, .unset, .unset, .unset, .unset, .unset, .unset, .unset, .unset, .unset, .unset, .unset]) rfl ?_
        exact kt
      obtain ⟨kys, h_kys⟩ : ∃ z, z = ((((p1.toUInt32 >>> ((18 : Int32) &&& 31).toUInt32).toInt32) &&& (7 : Int32)) + (1 : Int32)) := ⟨_, rfl⟩
      rw [← h_kys] at pre697
      have hkys := own_kys _ kys h_kys
      have pre698 : ∀ t, Steps p.tables e below (s₁.setTop (mkF m 84 #[.val (.int p1), .val (.int p2), .val (.int p3), .val (.int p4), .val (.int p5), .val (.int p6), .val (.int la), .val (.int lb), .val (.int lc), .val (.int ld), .val (.int (1 : Int32)), .val (.int (1 : Int32)), .val (.int kys), .val (.int ((p2 &&& (2147483647 : Int32)) % kys)), .unset, .unset, .unset, .unset, .unset, .unset, .unset, .unset, .unset, .unset, .unset, .unset, .unset, .unset, .unset, .unset, .unset, .unset, .unset, .unset, .unset] [])) t → EN t := fun t kt => by
        refine pre697 t ?_
        refine XS.iloadN X0.here hx rfl (hb hby at_75) rfl ?_
        refine X0.ldcInt hx hown (mvT hZ (hw _ (mgE 0 rfl))) (g := (mkF m 76 #[.val (.int p1), .val (.int p2), .val (.int p3), .val (.int p4), .val (.int p5), .val (.int p6), .val (.int la), .val (.int lb), .val (.int lc), .val (.int ld), .val (.int (1 : Int32)), .val (.int (1 : Int32)), .val (.int kys), .unset, .unset, .unset, .unset, .unset, .unset, .unset, .unset, .unset, .unset, .unset, .unset, .unset, .unset, .unset, .unset, .unset, .unset, .unset, .unset, .unset, .unset] [(.int p2)])) rfl (hb hby at_76) _ ?_
        refine XS.iand X0.here hx rfl (hb hby at_78) rfl ?_
        refine XS.iload X0.here hx rfl (hb hby at_79) rfl ?_
        have hnz81 : ¬ (kys = (0 : Int32)) := own_knz kys hkys
        refine iremM X0 hx rfl (hb hby at_81) rfl hnz81 ?_
        refine XS.istore X0.here hx rfl (hb hby at_82) rfl (l' := #[.val (.int p1), .val (.int p2), .val (.int p3), .val (.int p4), .val (.int p5), .val (.int p6), .val (.int la), .val (.int lb), .val (.int lc), .val (.int ld), .val (.int (1 : Int32)), .val (.int (1 : Int32)), .val (.int kys), .val (.int ((p2 &&& (2147483647 : Int32)) % kys)), .unset, .unset, .unset, .unset, .unset, .unset, .unset, .unset, .unset, .unset, .unset, .unset, .unset, .unset, .unset, .unset, .unset, .unset, .unset, .unset, .unset]) rfl ?_
        exact kt
      obtain ⟨tv1, h_tv1⟩ : ∃ z, z = ((p2 &&& (2147483647 : Int32)) % kys) := ⟨_, rfl⟩
      rw [← h_tv1] at pre698
      have ht1 := own_mod _ kys tv1 hkys h_tv1
      have pre699 : ∀ t, Steps p.tables e below (s₁.setTop (mkF m 93 #[.val (.int p1), .val (.int p2), .val (.int p3), .val (.int p4), .val (.int p5), .val (.int p6), .val (.int la), .val (.int lb), .val (.int lc), .val (.int ld), .val (.int (1 : Int32)), .val (.int (1 : Int32)), .val (.int kys), .val (.int tv1), .val (.int ((p3 &&& (2147483647 : Int32)) % kys)), .unset, .unset, .unset, .unset, .unset, .unset, .unset, .unset, .unset, .unset, .unset, .unset, .unset, .unset, .unset, .unset, .unset, .unset, .unset, .unset] [])) t → EN t := fun t kt => by
        refine pre698 t ?_
        refine XS.iloadN X0.here hx rfl (hb hby at_84) rfl ?_
        refine X0.ldcInt hx hown (mvT hZ (hw _ (mgE 0 rfl))) (g := (mkF m 85 #[.val (.int p1), .val (.int p2), .val (.int p3), .val (.int p4), .val (.int p5), .val (.int p6), .val (.int la), .val (.int lb), .val (.int lc), .val (.int ld), .val (.int (1 : Int32)), .val (.int (1 : Int32)), .val (.int kys), .val (.int tv1), .unset, .unset, .unset, .unset, .unset, .unset, .unset, .unset, .unset, .unset, .unset, .unset, .unset, .unset, .unset, .unset, .unset, .unset, .unset, .unset, .unset] [(.int p3)])) rfl (hb hby at_85) _ ?_
        refine XS.iand X0.here hx rfl (hb hby at_87) rfl ?_
        refine XS.iload X0.here hx rfl (hb hby at_88) rfl ?_
        have hnz90 : ¬ (kys = (0 : Int32)) := own_knz kys hkys
        refine iremM X0 hx rfl (hb hby at_90) rfl hnz90 ?_
        refine XS.istore X0.here hx rfl (hb hby at_91) rfl (l' := #[.val (.int p1), .val (.int p2), .val (.int p3), .val (.int p4), .val (.int p5), .val (.int p6), .val (.int la), .val (.int lb), .val (.int lc), .val (.int ld), .val (.int (1 : Int32)), .val (.int (1 : Int32)), .val (.int kys), .val (.int tv1), .val (.int ((p3 &&& (2147483647 : Int32)) % kys)), .unset, .unset, .unset, .unset, .unset, .unset, .unset, .unset, .unset, .unset, .unset, .unset, .unset, .unset, .unset, .unset, .unset, .unset, .unset, .unset]) rfl ?_
        exact kt
      obtain ⟨tv2, h_tv2⟩ : ∃ z, z = ((p3 &&& (2147483647 : Int32)) % kys) := ⟨_, rfl⟩
      rw [← h_tv2] at pre699
      have ht2 := own_mod _ kys tv2 hkys h_tv2
      have pre700 : ∀ t, Steps p.tables e below (s₁.setTop (mkF m 102 #[.val (.int p1), .val (.int p2), .val (.int p3), .val (.int p4), .val (.int p5), .val (.int p6), .val (.int la), .val (.int lb), .val (.int lc), .val (.int ld), .val (.int (1 : Int32)), .val (.int (1 : Int32)), .val (.int kys), .val (.int tv1), .val (.int tv2), .val (.int ((p4 &&& (2147483647 : Int32)) % kys)), .unset, .unset, .unset, .unset, .unset, .unset, .unset, .unset, .unset, .unset, .unset, .unset, .unset, .unset, .unset, .unset, .unset, .unset, .unset] [])) t → EN t := fun t kt => by
        refine pre699 t ?_
        refine XS.iloadN X0.here hx rfl (hb hby at_93) rfl ?_
        refine X0.ldcInt hx hown (mvT hZ (hw _ (mgE 0 rfl))) (g := (mkF m 94 #[.val (.int p1), .val (.int p2), .val (.int p3), .val (.int p4), .val (.int p5), .val (.int p6), .val (.int la), .val (.int lb), .val (.int lc), .val (.int ld), .val (.int (1 : Int32)), .val (.int (1 : Int32)), .val (.int kys), .val (.int tv1), .val (.int tv2), .unset, .unset, .unset, .unset, .unset, .unset, .unset, .unset, .unset, .unset, .unset, .unset, .unset, .unset, .unset, .unset, .unset, .unset, .unset, .unset] [(.int p4)])) rfl (hb hby at_94) _ ?_
        refine XS.iand X0.here hx rfl (hb hby at_96) rfl ?_
        refine XS.iload X0.here hx rfl (hb hby at_97) rfl ?_
        have hnz99 : ¬ (kys = (0 : Int32)) := own_knz kys hkys
        refine iremM X0 hx rfl (hb hby at_99) rfl hnz99 ?_
        refine XS.istore X0.here hx rfl (hb hby at_100) rfl (l' := #[.val (.int p1), .val (.int p2), .val (.int p3), .val (.int p4), .val (.int p5), .val (.int p6), .val (.int la), .val (.int lb), .val (.int lc), .val (.int ld), .val (.int (1 : Int32)), .val (.int (1 : Int32)), .val (.int kys), .val (.int tv1), .val (.int tv2), .val (.int ((p4 &&& (2147483647 : Int32)) % kys)), .unset, .unset, .unset, .unset, .unset, .unset, .unset, .unset, .unset, .unset, .unset, .unset, .unset, .unset, .unset, .unset, .unset, .unset, .unset]) rfl ?_
        exact kt
      obtain ⟨tv3, h_tv3⟩ : ∃ z, z = ((p4 &&& (2147483647 : Int32)) % kys) := ⟨_, rfl⟩
      rw [← h_tv3] at pre700
      have ht3 := own_mod _ kys tv3 hkys h_tv3
      obtain ⟨T701, h701, k701, X701, e701, E701, A701, Ex701, st701⟩ := newPE X0 hx hZ (hw _ (mgE 1 rfl)) e0 (g := (mkF m 104 #[.val (.int p1), .val (.int p2), .val (.int p3), .val (.int p4), .val (.int p5), .val (.int p6), .val (.int la), .val (.int lb), .val (.int lc), .val (.int ld), .val (.int (1 : Int32)), .val (.int (1 : Int32)), .val (.int kys), .val (.int tv1), .val (.int tv2), .val (.int tv3), .unset, .unset, .unset, .unset, .unset, .unset, .unset, .unset, .unset, .unset, .unset, .unset, .unset, .unset, .unset, .unset, .unset, .unset, .unset] [(.int la)])) rfl (hb hby at_104) rfl (own_n15 _ b_la) (cap := 15) (own_c15 _ b_la) (by decide) (by decide) (by decide) (ad := "[B") (by decide)
      obtain ⟨b701, g701⟩ : ∃ z, z = h0.size := ⟨_, rfl⟩
      rw [← g701] at A701 Ex701 st701
      have Z701 : n0 ≤ h701.size := Nat.le_trans Z0 E701.1
      have V_b701 : Arf Z h701 b701 .byte la (fun i => (.int ((fun _ => (0 : Int32)) i))) := Arf.new A701 (own_n15 _ b_la)
      obtain ⟨T703, h703, k703, X703, e703, E703, A703, Ex703, st703⟩ := newPE X701 hx hZ (hw _ (mgE 1 rfl)) e701 (g := (mkF m 110 #[.val (.int p1), .val (.int p2), .val (.int p3), .val (.int p4), .val (.int p5), .val (.int p6), .val (.int la), .val (.int lb), .val (.int lc), .val (.int ld), .val (.int (1 : Int32)), .val (.int (1 : Int32)), .val (.int kys), .val (.int tv1), .val (.int tv2), .val (.int tv3), .val (.ref b701), .unset, .unset, .unset, .unset, .unset, .unset, .unset, .unset, .unset, .unset, .unset, .unset, .unset, .unset, .unset, .unset, .unset, .unset] [(.int lb)])) rfl (hb hby at_110) rfl (own_n15 _ b_lb) (cap := 15) (own_c15 _ b_lb) (by decide) (by decide) (by decide) (ad := "[B") (by decide)
      obtain ⟨b703, g703⟩ : ∃ z, z = h701.size := ⟨_, rfl⟩
      rw [← g703] at A703 Ex703 st703
      have Z703 : n0 ≤ h703.size := Nat.le_trans Z701 E703.1
      have F704_703 := Ex701.ext E703
      have F705_703 := V_b701.ext E703
      have V_b703 : Arf Z h703 b703 .byte lb (fun i => (.int ((fun _ => (0 : Int32)) i))) := Arf.new A703 (own_n15 _ b_lb)
      obtain ⟨T707, h707, k707, X707, e707, E707, A707, Ex707, st707⟩ := newPE X703 hx hZ (hw _ (mgE 1 rfl)) e703 (g := (mkF m 131 #[.val (.int p1), .val (.int p2), .val (.int p3), .val (.int p4), .val (.int p5), .val (.int p6), .val (.int la), .val (.int lb), .val (.int lc), .val (.int ld), .val (.int (1 : Int32)), .val (.int (1 : Int32)), .val (.int kys), .val (.int tv1), .val (.int tv2), .val (.int tv3), .val (.ref b701), .val (.ref b703), .val .null, .unset, .unset, .unset, .unset, .unset, .unset, .unset, .unset, .unset, .unset, .unset, .unset, .unset, .unset, .unset, .unset] [(.int ld)])) rfl (hb hby at_131) rfl (own_n15 _ b_ld) (cap := 15) (own_c15 _ b_ld) (by decide) (by decide) (by decide) (ad := "[B") (by decide)
      obtain ⟨b707, g707⟩ : ∃ z, z = h703.size := ⟨_, rfl⟩
      rw [← g707] at A707 Ex707 st707
      have Z707 : n0 ≤ h707.size := Nat.le_trans Z703 E707.1
      have F708_707 := F704_703.ext E707
      have F709_707 := F705_703.ext E707
      have F710_707 := Ex703.ext E707
      have F711_707 := V_b703.ext E707
      have V_b707 : Arf Z h707 b707 .byte ld (fun i => (.int ((fun _ => (0 : Int32)) i))) := Arf.new A707 (own_n15 _ b_ld)
      obtain ⟨T713, h713, X713, e713, E713, A713, D713, -, st713⟩ := newO X707 hx hZ hown (hw _ (mgE 2 rfl)) (hw _ (mgE 3 rfl)) (hw _ (mgE 4 rfl)) e707 (g := (mkF m 135 #[.val (.int p1), .val (.int p2), .val (.int p3), .val (.int p4), .val (.int p5), .val (.int p6), .val (.int la), .val (.int lb), .val (.int lc), .val (.int ld), .val (.int (1 : Int32)), .val (.int (1 : Int32)), .val (.int kys), .val (.int tv1), .val (.int tv2), .val (.int tv3), .val (.ref b701), .val (.ref b703), .val .null, .val (.ref b707), .unset, .unset, .unset, .unset, .unset, .unset, .unset, .unset, .unset, .unset, .unset, .unset, .unset, .unset, .unset] [])) rfl (hb hby at_135) (by decide) (by decide)
      obtain ⟨b713, g713⟩ : ∃ z, z = h707.size := ⟨_, rfl⟩
      rw [← g713] at A713 D713 st713
      have ne_b701_b713 : b701 ≠ b713 := Nat.ne_of_lt (Nat.lt_of_lt_of_le F708_707.lt (Nat.le_of_eq g713.symm))
      have ne_b703_b713 : b703 ≠ b713 := Nat.ne_of_lt (Nat.lt_of_lt_of_le F710_707.lt (Nat.le_of_eq g713.symm))
      have ne_b707_b713 : b707 ≠ b713 := Nat.ne_of_lt (Nat.lt_of_lt_of_le Ex707.lt (Nat.le_of_eq g713.symm))
      have g_b713 : n0 ≤ b713 := Nat.le_trans Z707 (Nat.le_of_eq g713.symm)
      have Z713 : n0 ≤ h713.size := Nat.le_trans Z707 E713.1
      have F714_713 := F708_707.ext E713
      have F715_713 := F709_707.ext E713
      have F716_713 := F710_707.ext E713
      have F717_713 := F711_707.ext E713
      have F718_713 := Ex707.ext E713
      have F719_713 := V_b707.ext E713
      have F_target_b713 : Fld Z h713 b713 "com/example/accrete/accrete/engine/Sendings" "target" "[I" .null := D713 (Or.inl (hw _ (mgE 13 rfl))) (ty := (.array .int)) (by decide)
      have F_slot_b713 : Fld Z h713 b713 "com/example/accrete/accrete/engine/Sendings" "slot" "[I" .null := D713 (Or.inl (hw _ (mgE 15 rfl))) (ty := (.array .int)) (by decide)
      have F_value_b713 : Fld Z h713 b713 "com/example/accrete/accrete/engine/Sendings" "value" "[[B" .null := D713 (Or.inl (hw _ (mgE 19 rfl))) (ty := (.array (.array .byte))) (by decide)
      have F_taken_b713 : Fld Z h713 b713 "com/example/accrete/accrete/engine/Sendings" "taken" "[[B" .null := D713 (Or.inl (hw _ (mgE 21 rfl))) (ty := (.array (.array .byte))) (by decide)
      have F_sender_b713 : Fld Z h713 b713 "com/example/accrete/accrete/engine/Sendings" "sender" "[I" .null := D713 (Or.inl (hw _ (mgE 23 rfl))) (ty := (.array .int)) (by decide)
      have F_position_b713 : Fld Z h713 b713 "com/example/accrete/accrete/engine/Sendings" "position" "[I" .null := D713 (Or.inl (hw _ (mgE 25 rfl))) (ty := (.array .int)) (by decide)
      have F_starts_b713 : Fld Z h713 b713 "com/example/accrete/accrete/engine/Sendings" "starts" "[I" .null := D713 (Or.inl (hw _ (mgE 27 rfl))) (ty := (.array .int)) (by decide)
      have F_grouped_b713 : Fld Z h713 b713 "com/example/accrete/accrete/engine/Sendings" "grouped" "[I" .null := D713 (Or.inl (hw _ (mgE 29 rfl))) (ty := (.array .int)) (by decide)
      have F_next_b713 : Fld Z h713 b713 "com/example/accrete/accrete/engine/Sendings" "next" "[I" .null := D713 (Or.inl (hw _ (mgE 31 rfl))) (ty := (.array .int)) (by decide)
      have F_valuesCost_b713 : Fld Z h713 b713 "com/example/accrete/accrete/engine/Sendings" "valuesCost" "J" (.long (0 : Int64)) := D713 (Or.inl (hw _ (mgE 40 rfl))) (ty := .long) (by decide)
      have F_size_b713 : Fld Z h713 b713 "com/example/accrete/accrete/engine/Sendings" "size" "I" (.int (0 : Int32)) := D713 (Or.inl (hw _ (mgE 51 rfl))) (ty := .int) (by decide)
      obtain ⟨_, _, ⟨T721, L721, k721, n721⟩, -, X721, ⟨Lc721, hQ721, l721, y721, z721⟩, st721⟩ := X713.specialBack hx (y := (⟨"com/example/accrete/accrete/engine/Sendings", "<init>", "()V"⟩ : MethodName)) rfl hown (mvT hZ (hw _ (mgE 5 rfl))) (mvT hZ (hw _ (mgE 6 rfl))) (mvT hZ (hw _ (mgE 7 rfl))) (by decide) (backOf (W := 1) (rm1 l Z a0 hw [] b713 (.null) (.null) (.null) (.null) (.null) (.null) (.null) (.null) (.null) h713 n0 Z713 F_size_b713 F_valuesCost_b713 A713 F_target_b713 g_b713 F_slot_b713 F_value_b713 F_taken_b713 F_sender_b713 F_position_b713 F_starts_b713 F_grouped_b713 F_next_b713) hZ (hw _ (mgE 7 rfl)) (hw _ (mgE 4 rfl)) (by decide) (by decide)) (g := (mkF m 139 #[.val (.int p1), .val (.int p2), .val (.int p3), .val (.int p4), .val (.int p5), .val (.int p6), .val (.int la), .val (.int lb), .val (.int lc), .val (.int ld), .val (.int (1 : Int32)), .val (.int (1 : Int32)), .val (.int kys), .val (.int tv1), .val (.int tv2), .val (.int tv3), .val (.ref b701), .val (.ref b703), .val .null, .val (.ref b707), .unset, .unset, .unset, .unset, .unset, .unset, .unset, .unset, .unset, .unset, .unset, .unset, .unset, .unset, .unset] [(.ref b713), (.ref b713)])) rfl (by rw [hml]; rfl) (Steps.refl _) (a := b713) (argsL := []) (rest := [(.ref b713)]) (lenOf pd___V rfl) rfl (by show 2 * 0 + _ ≤ _; exact Nat.le_of_eq rfl) (hb hby at_139) (fun _ _ => ⟨rfl, e713, (by decide : 4 + 9 ≤ _), (by decide : 56 + 6146 ≤ _)⟩)
      dsimp only [Pt.U, Pt.locs, Pt.cells, Pt.slots] at X721 l721 y721 z721 st721 hQ721
      subst l721 y721 z721
      obtain ⟨ob721_1, ob721_2, ob721_3, ob721_4, ob721_5, ob721_6, ob721_7, ob721_8, ob721_9, rfl, N721q, K721, ozob721_1, ozob721_2, ozob721_3, ozob721_4, ozob721_5, ozob721_6, ozob721_7, ozob721_8, ozob721_9, ne_ob721_1_ob721_2, ne_ob721_1_ob721_3, ne_ob721_2_ob721_3, ne_ob721_1_ob721_4, ne_ob721_2_ob721_4, ne_ob721_3_ob721_4, ne_ob721_1_ob721_5, ne_ob721_2_ob721_5, ne_ob721_3_ob721_5, ne_ob721_4_ob721_5, ne_ob721_1_ob721_6, ne_ob721_2_ob721_6, ne_ob721_3_ob721_6, ne_ob721_4_ob721_6, ne_ob721_5_ob721_6, ne_ob721_1_ob721_7, ne_ob721_2_ob721_7, ne_ob721_3_ob721_7, ne_ob721_4_ob721_7, ne_ob721_5_ob721_7, ne_ob721_6_ob721_7, ne_ob721_1_ob721_8, ne_ob721_2_ob721_8, ne_ob721_3_ob721_8, ne_ob721_4_ob721_8, ne_ob721_5_ob721_8, ne_ob721_6_ob721_8, ne_ob721_7_ob721_8, ne_ob721_1_ob721_9, ne_ob721_2_ob721_9, ne_ob721_3_ob721_9, ne_ob721_4_ob721_9, ne_ob721_5_ob721_9, ne_ob721_6_ob721_9, ne_ob721_7_ob721_9, ne_ob721_8_ob721_9, Q721_0, Q721_1, Q721_2, Q721_3, Q721_4, Q721_5, Q721_6, Q721_7, Q721_8, Q721_9, Q721_10, Q721_11, Q721_12, Q721_13, Q721_14, Q721_15, Q721_16, Q721_17, Q721_18, Q721_19, Q721_20, Q721_21, Q721_22⟩ := hQ721
      have ne_b713_ob721_1 : b713 ≠ ob721_1 := Nat.ne_of_lt (Nat.lt_of_lt_of_le A713.lt ozob721_1)
      have ne_b713_ob721_2 : b713 ≠ ob721_2 := Nat.ne_of_lt (Nat.lt_of_lt_of_le A713.lt ozob721_2)
      have ne_b701_ob721_3 : b701 ≠ ob721_3 := Nat.ne_of_lt (Nat.lt_of_lt_of_le F714_713.lt ozob721_3)
      have ne_b703_ob721_3 : b703 ≠ ob721_3 := Nat.ne_of_lt (Nat.lt_of_lt_of_le F716_713.lt ozob721_3)
      have ne_b707_ob721_3 : b707 ≠ ob721_3 := Nat.ne_of_lt (Nat.lt_of_lt_of_le F718_713.lt ozob721_3)
      have ne_b713_ob721_3 : b713 ≠ ob721_3 := Nat.ne_of_lt (Nat.lt_of_lt_of_le A713.lt ozob721_3)
      have g_ob721_3 : n0 ≤ ob721_3 := Nat.le_trans Z713 ozob721_3
      have ne_b701_ob721_4 : b701 ≠ ob721_4 := Nat.ne_of_lt (Nat.lt_of_lt_of_le F714_713.lt ozob721_4)
      have ne_b703_ob721_4 : b703 ≠ ob721_4 := Nat.ne_of_lt (Nat.lt_of_lt_of_le F716_713.lt ozob721_4)
      have ne_b707_ob721_4 : b707 ≠ ob721_4 := Nat.ne_of_lt (Nat.lt_of_lt_of_le F718_713.lt ozob721_4)
      have ne_b713_ob721_4 : b713 ≠ ob721_4 := Nat.ne_of_lt (Nat.lt_of_lt_of_le A713.lt ozob721_4)
      have g_ob721_4 : n0 ≤ ob721_4 := Nat.le_trans Z713 ozob721_4
      have ne_b701_ob721_5 : b701 ≠ ob721_5 := Nat.ne_of_lt (Nat.lt_of_lt_of_le F714_713.lt ozob721_5)
      have ne_b703_ob721_5 : b703 ≠ ob721_5 := Nat.ne_of_lt (Nat.lt_of_lt_of_le F716_713.lt ozob721_5)
      have ne_b707_ob721_5 : b707 ≠ ob721_5 := Nat.ne_of_lt (Nat.lt_of_lt_of_le F718_713.lt ozob721_5)
      have ne_b713_ob721_5 : b713 ≠ ob721_5 := Nat.ne_of_lt (Nat.lt_of_lt_of_le A713.lt ozob721_5)
      have g_ob721_5 : n0 ≤ ob721_5 := Nat.le_trans Z713 ozob721_5
      have ne_b713_ob721_6 : b713 ≠ ob721_6 := Nat.ne_of_lt (Nat.lt_of_lt_of_le A713.lt ozob721_6)
      have ne_b701_ob721_7 : b701 ≠ ob721_7 := Nat.ne_of_lt (Nat.lt_of_lt_of_le F714_713.lt ozob721_7)
      have ne_b703_ob721_7 : b703 ≠ ob721_7 := Nat.ne_of_lt (Nat.lt_of_lt_of_le F716_713.lt ozob721_7)
      have ne_b707_ob721_7 : b707 ≠ ob721_7 := Nat.ne_of_lt (Nat.lt_of_lt_of_le F718_713.lt ozob721_7)
      have ne_b713_ob721_7 : b713 ≠ ob721_7 := Nat.ne_of_lt (Nat.lt_of_lt_of_le A713.lt ozob721_7)
      have g_ob721_7 : n0 ≤ ob721_7 := Nat.le_trans Z713 ozob721_7
      have ne_b701_ob721_8 : b701 ≠ ob721_8 := Nat.ne_of_lt (Nat.lt_of_lt_of_le F714_713.lt ozob721_8)
      have ne_b703_ob721_8 : b703 ≠ ob721_8 := Nat.ne_of_lt (Nat.lt_of_lt_of_le F716_713.lt ozob721_8)
      have ne_b707_ob721_8 : b707 ≠ ob721_8 := Nat.ne_of_lt (Nat.lt_of_lt_of_le F718_713.lt ozob721_8)
      have ne_b713_ob721_8 : b713 ≠ ob721_8 := Nat.ne_of_lt (Nat.lt_of_lt_of_le A713.lt ozob721_8)
      have g_ob721_8 : n0 ≤ ob721_8 := Nat.le_trans Z713 ozob721_8
      have ne_b701_ob721_9 : b701 ≠ ob721_9 := Nat.ne_of_lt (Nat.lt_of_lt_of_le F714_713.lt ozob721_9)
      have ne_b703_ob721_9 : b703 ≠ ob721_9 := Nat.ne_of_lt (Nat.lt_of_lt_of_le F716_713.lt ozob721_9)
      have ne_b707_ob721_9 : b707 ≠ ob721_9 := Nat.ne_of_lt (Nat.lt_of_lt_of_le F718_713.lt ozob721_9)
      have ne_b713_ob721_9 : b713 ≠ ob721_9 := Nat.ne_of_lt (Nat.lt_of_lt_of_le A713.lt ozob721_9)
      have g_ob721_9 : n0 ≤ ob721_9 := Nat.le_trans Z713 ozob721_9
      have F722_721 := F714_713.keep K721
      have F723_721 := F715_713.keep K721 (ninS ne_b701_b713 nin0)
      have F724_721 := F716_713.keep K721
      have F725_721 := F717_713.keep K721 (ninS ne_b703_b713 nin0)
      have F726_721 := F718_713.keep K721
      have F727_721 := F719_713.keep K721 (ninS ne_b707_b713 nin0)
      have Z721 : n0 ≤ T721.heap.size := Nat.le_trans Z713 K721.1
      have N721 := Fr.app N0 N721q
      obtain ⟨cq741, kq741, q741a, q741b, q741c⟩ := isOf hZ rfl Q721_0
      obtain ⟨_, _, ⟨T741, L741, k741, n741⟩, -, X741, ⟨Lc741, hQ741, l741, y741, z741⟩, st741⟩ := X721.virtualBack hx (y := (⟨"com/example/accrete/accrete/engine/Sendings", "cost", "()J"⟩ : MethodName)) (z := (⟨"com/example/accrete/accrete/engine/Sendings", "cost", "()J"⟩ : MethodName)) hown (mvT hZ (hw _ (mgE 32 rfl))) (mvT hZ (hw _ (mgE 33 rfl))) (notFace_of_selects (args := #[]) (mvT hZ (hw _ (mgE 35 rfl)))) (mvT hZ (hw _ (mgE 35 rfl))) (mvT hZ (hw _ (mgE 34 rfl))) (by decide) (backOf (W := 0) (rm3 l Z a0 hw [] b713 ob721_8 (1024 : Int32) (fun _ => (0 : Int32)) ob721_6 (1 : Int32) (fun _ => (0 : Int32)) ob721_1 (0 : Int32) (fun _ => (0 : Int32)) ob721_2 (1 : Int32) (fun _ => (0 : Int32)) (0 : Int64) T721.heap n0 Z721 Q721_9 Q721_21 Q721_7 Q721_19 Q721_1 Q721_14 Q721_2 Q721_15 Q721_11) hZ (hw _ (mgE 36 rfl)) (hw _ (mgE 4 rfl)) (by decide) (by decide)) q741a q741c (g := (mkF m 146 #[.val (.int p1), .val (.int p2), .val (.int p3), .val (.int p4), .val (.int p5), .val (.int p6), .val (.int la), .val (.int lb), .val (.int lc), .val (.int ld), .val (.int (1 : Int32)), .val (.int (1 : Int32)), .val (.int kys), .val (.int tv1), .val (.int tv2), .val (.int tv3), .val (.ref b701), .val (.ref b703), .val .null, .val (.ref b707), .val (.ref b713), .unset, .unset, .unset, .unset, .unset, .unset, .unset, .unset, .unset, .unset, .unset, .unset, .unset, .unset] [(.ref b713)])) rfl (by rw [hml]; rfl) (Steps.refl _) (argsL := []) (rest := []) (lenOf pd___J rfl) rfl (by show 2 * 0 + _ ≤ _; exact Nat.le_of_eq rfl) (hb hby at_146) (fun _ _ => ⟨rfl, rfl, (by decide : 13 + 0 ≤ _), (by decide : 6202 + 0 ≤ _)⟩)
      dsimp only [Pt.U, Pt.locs, Pt.cells, Pt.slots] at X741 l741 y741 z741 st741 hQ741
      subst l741 y741 z741
      obtain ⟨rfl, N741q, e741⟩ := hQ741
      have N741 := Fr.app N721 N741q
      have pre743 : ∀ t, Steps p.tables e below (T741.setTop (mkF m 151 #[.val (.int p1), .val (.int p2), .val (.int p3), .val (.int p4), .val (.int p5), .val (.int p6), .val (.int la), .val (.int lb), .val (.int lc), .val (.int ld), .val (.int (1 : Int32)), .val (.int (1 : Int32)), .val (.int kys), .val (.int tv1), .val (.int tv2), .val (.int tv3), .val (.ref b701), .val (.ref b703), .val .null, .val (.ref b707), .val (.ref b713), .val (.long (cst (1024 : Int32) (1 : Int32) (0 : Int32) (1 : Int32) (0 : Int64))), .second, .unset, .unset, .unset, .unset, .unset, .unset, .unset, .unset, .unset, .unset, .unset, .unset] [])) t → EN t := fun t kt => by
        refine pre700 t ?_
        refine XS.iload X0.here hx rfl (hb hby at_102) rfl ?_
        refine st701 t ?_
        refine XS.astore X701.here hx rfl (hb hby at_106) rfl rfl (l' := #[.val (.int p1), .val (.int p2), .val (.int p3), .val (.int p4), .val (.int p5), .val (.int p6), .val (.int la), .val (.int lb), .val (.int lc), .val (.int ld), .val (.int (1 : Int32)), .val (.int (1 : Int32)), .val (.int kys), .val (.int tv1), .val (.int tv2), .val (.int tv3), .val (.ref b701), .unset, .unset, .unset, .unset, .unset, .unset, .unset, .unset, .unset, .unset, .unset, .unset, .unset, .unset, .unset, .unset, .unset, .unset]) rfl ?_
        refine XS.iload X701.here hx rfl (hb hby at_108) rfl ?_
        refine st703 t ?_
        refine XS.astore X703.here hx rfl (hb hby at_112) rfl rfl (l' := #[.val (.int p1), .val (.int p2), .val (.int p3), .val (.int p4), .val (.int p5), .val (.int p6), .val (.int la), .val (.int lb), .val (.int lc), .val (.int ld), .val (.int (1 : Int32)), .val (.int (1 : Int32)), .val (.int kys), .val (.int tv1), .val (.int tv2), .val (.int tv3), .val (.ref b701), .val (.ref b703), .unset, .unset, .unset, .unset, .unset, .unset, .unset, .unset, .unset, .unset, .unset, .unset, .unset, .unset, .unset, .unset, .unset]) rfl ?_
        refine XS.iload X703.here hx rfl (hb hby at_114) rfl ?_
        refine XS.ifNo X703.here hx rfl (hb hby at_116) rfl ((if0 _ _).trans (feq (by decide : ¬ ((1 : Int32) = (0 : Int32)))).1) ?_
        refine XS.aconstNull X703.here hx rfl (hb hby at_119) ?_
        refine XS.goto X703.here hx rfl (pc0 := 120) (pc' := 127) rfl (hb hby at_120) (by decide) (by decide) ?_
        show Steps p.tables e below (T703.setTop (mkF m 127 #[.val (.int p1), .val (.int p2), .val (.int p3), .val (.int p4), .val (.int p5), .val (.int p6), .val (.int la), .val (.int lb), .val (.int lc), .val (.int ld), .val (.int (1 : Int32)), .val (.int (1 : Int32)), .val (.int kys), .val (.int tv1), .val (.int tv2), .val (.int tv3), .val (.ref b701), .val (.ref b703), .unset, .unset, .unset, .unset, .unset, .unset, .unset, .unset, .unset, .unset, .unset, .unset, .unset, .unset, .unset, .unset, .unset] [.null])) _
        refine XS.astore X703.here hx rfl (hb hby at_127) rfl rfl (l' := #[.val (.int p1), .val (.int p2), .val (.int p3), .val (.int p4), .val (.int p5), .val (.int p6), .val (.int la), .val (.int lb), .val (.int lc), .val (.int ld), .val (.int (1 : Int32)), .val (.int (1 : Int32)), .val (.int kys), .val (.int tv1), .val (.int tv2), .val (.int tv3), .val (.ref b701), .val (.ref b703), .val .null, .unset, .unset, .unset, .unset, .unset, .unset, .unset, .unset, .unset, .unset, .unset, .unset, .unset, .unset, .unset, .unset]) rfl ?_
        refine XS.iload X703.here hx rfl (hb hby at_129) rfl ?_
        refine st707 t ?_
        refine XS.astore X707.here hx rfl (hb hby at_133) rfl rfl (l' := #[.val (.int p1), .val (.int p2), .val (.int p3), .val (.int p4), .val (.int p5), .val (.int p6), .val (.int la), .val (.int lb), .val (.int lc), .val (.int ld), .val (.int (1 : Int32)), .val (.int (1 : Int32)), .val (.int kys), .val (.int tv1), .val (.int tv2), .val (.int tv3), .val (.ref b701), .val (.ref b703), .val .null, .val (.ref b707), .unset, .unset, .unset, .unset, .unset, .unset, .unset, .unset, .unset, .unset, .unset, .unset, .unset, .unset, .unset]) rfl ?_
        refine st713 t ?_
        refine XS.dup X713.here hx rfl (hb hby at_138) rfl rfl ?_
        refine st721.trans ?_
        refine XS.astore X721.here hx rfl (hb hby at_142) rfl rfl (l' := #[.val (.int p1), .val (.int p2), .val (.int p3), .val (.int p4), .val (.int p5), .val (.int p6), .val (.int la), .val (.int lb), .val (.int lc), .val (.int ld), .val (.int (1 : Int32)), .val (.int (1 : Int32)), .val (.int kys), .val (.int tv1), .val (.int tv2), .val (.int tv3), .val (.ref b701), .val (.ref b703), .val .null, .val (.ref b707), .val (.ref b713), .unset, .unset, .unset, .unset, .unset, .unset, .unset, .unset, .unset, .unset, .unset, .unset, .unset, .unset]) rfl ?_
        refine XS.aload X721.here hx rfl (hb hby at_144) rfl rfl ?_
        refine st741.trans ?_
        show Steps p.tables e below (T741.setTop (mkF m 149 #[.val (.int p1), .val (.int p2), .val (.int p3), .val (.int p4), .val (.int p5), .val (.int p6), .val (.int la), .val (.int lb), .val (.int lc), .val (.int ld), .val (.int (1 : Int32)), .val (.int (1 : Int32)), .val (.int kys), .val (.int tv1), .val (.int tv2), .val (.int tv3), .val (.ref b701), .val (.ref b703), .val .null, .val (.ref b707), .val (.ref b713), .unset, .unset, .unset, .unset, .unset, .unset, .unset, .unset, .unset, .unset, .unset, .unset, .unset, .unset] [(.long (cst (1024 : Int32) (1 : Int32) (0 : Int32) (1 : Int32) (0 : Int64)))])) _
        refine XS.lstore X741.here hx rfl (hb hby at_149) rfl (l' := #[.val (.int p1), .val (.int p2), .val (.int p3), .val (.int p4), .val (.int p5), .val (.int p6), .val (.int la), .val (.int lb), .val (.int lc), .val (.int ld), .val (.int (1 : Int32)), .val (.int (1 : Int32)), .val (.int kys), .val (.int tv1), .val (.int tv2), .val (.int tv3), .val (.ref b701), .val (.ref b703), .val .null, .val (.ref b707), .val (.ref b713), .val (.long (cst (1024 : Int32) (1 : Int32) (0 : Int32) (1 : Int32) (0 : Int64))), .second, .unset, .unset, .unset, .unset, .unset, .unset, .unset, .unset, .unset, .unset, .unset, .unset]) rfl ?_
        exact kt
      obtain ⟨fre, h_fre⟩ : ∃ z, z = (cst (1024 : Int32) (1 : Int32) (0 : Int32) (1 : Int32) (0 : Int64)) := ⟨_, rfl⟩
      rw [← h_fre] at pre743
      obtain ⟨cq744, kq744, q744a, q744b, q744c⟩ := isOf hZ e741 Q721_0
      obtain ⟨_, _, ⟨T744, L744, k744, n744⟩, -, X744, ⟨Lc744, hQ744, l744, y744, z744⟩, st744⟩ := X741.virtualBack hx (y := (⟨"com/example/accrete/accrete/engine/Sendings", "sendInPlace", "(I[B[BII)V"⟩ : MethodName)) (z := (⟨"com/example/accrete/accrete/engine/Sendings", "sendInPlace", "(I[B[BII)V"⟩ : MethodName)) hown (mvT hZ (hw _ (mgE 41 rfl))) (mvT hZ (hw _ (mgE 42 rfl))) (notFace_of_selects (args := #[]) (mvT hZ (hw _ (mgE 44 rfl)))) (mvT hZ (hw _ (mgE 44 rfl))) (mvT hZ (hw _ (mgE 43 rfl))) (by decide) (backOf (W := 0) (rm4 l Z a0 hw [] b713 tv1 b701 b703 p6 p5 ob721_8 ob721_5 ob721_4 ob721_3 ob721_9 ob721_7 ob721_6 ob721_1 ob721_2 (0 : Int64) (fun _ => (0 : Int32)) (fun _ => (0 : Int32)) (fun _ => (0 : Int32)) (fun _ => (0 : Int32)) (fun _ => Value.null) (fun _ => Value.null) la (fun _ => (0 : Int32)) lb (fun _ => (0 : Int32)) T721.heap n0 Z721 Q721_5 Q721_9 Q721_6 Q721_4 Q721_3 Q721_10 Q721_8 Q721_7 Q721_1 Q721_2 Q721_11 Q721_21 Q721_18 Q721_17 Q721_16 Q721_22 Q721_20 Q721_13 Q721_12 g_ob721_8 ne_b713_ob721_8 ne_ob721_5_ob721_8 ne_ob721_4_ob721_8 ne_ob721_3_ob721_8 (Ne.symm ne_ob721_8_ob721_9) ne_ob721_7_ob721_8 g_ob721_5 ne_b713_ob721_5 ne_ob721_4_ob721_5 ne_ob721_3_ob721_5 (Ne.symm ne_ob721_5_ob721_9) (Ne.symm ne_ob721_5_ob721_7) g_ob721_7 F722_721 ne_b713_ob721_7 ne_ob721_4_ob721_7 ne_ob721_3_ob721_7 (Ne.symm ne_ob721_7_ob721_9) g_ob721_9 F724_721 ne_b713_ob721_9 ne_ob721_4_ob721_9 ne_ob721_3_ob721_9 g_ob721_4 ne_b713_ob721_4 ne_ob721_3_ob721_4 g_ob721_3 ne_b713_ob721_3 Q721_0 g_b713 F723_721 ne_b701_ob721_8 ne_b701_ob721_5 ne_b701_ob721_7 ne_b701_ob721_9 ne_b701_ob721_4 ne_b701_ob721_3 ne_b701_b713 F725_721 ne_b703_ob721_8 ne_b703_ob721_5 ne_b703_ob721_7 ne_b703_ob721_9 ne_b703_ob721_4 ne_b703_ob721_3 ne_b703_b713) hZ (hw _ (mgE 45 rfl)) (hw _ (mgE 4 rfl)) (by decide) (by decide)) q744a q744c (g := (mkF m 163 #[.val (.int p1), .val (.int p2), .val (.int p3), .val (.int p4), .val (.int p5), .val (.int p6), .val (.int la), .val (.int lb), .val (.int lc), .val (.int ld), .val (.int (1 : Int32)), .val (.int (1 : Int32)), .val (.int kys), .val (.int tv1), .val (.int tv2), .val (.int tv3), .val (.ref b701), .val (.ref b703), .val .null, .val (.ref b707), .val (.ref b713), .val (.long fre), .second, .unset, .unset, .unset, .unset, .unset, .unset, .unset, .unset, .unset, .unset, .unset, .unset] [(.int p5), (.int p6), (.ref b703), (.ref b701), (.int tv1), (.ref b713)])) rfl (by rw [hml]; rfl) (Steps.refl _) (argsL := [(.int tv1), (.ref b701), (.ref b703), (.int p6), (.int p5)]) (rest := []) (lenOf pd__I_B_BII_V rfl) rfl (by show 2 * 0 + _ ≤ _; exact Nat.le_of_eq rfl) (hb hby at_163) (fun _ _ => ⟨rfl, e741, (by decide : 13 + 0 ≤ _), (by decide : 6202 + 0 ≤ _)⟩)
      dsimp only [Pt.U, Pt.locs, Pt.cells, Pt.slots] at X744 l744 y744 z744 st744 hQ744
      subst l744 y744 z744
      obtain ⟨rfl, N744q, K744, Q744_0, Q744_1, Q744_2, Q744_3, Q744_4, Q744_5, Q744_6, Q744_7, Q744_8, Q744_9, Q744_10, Q744_11, Q744_12, Q744_13, Q744_14, Q744_15, Q744_16, Q744_17, Q744_18, Q744_19⟩ := hQ744
      have F749_744 := F726_721.keep K744
      have F750_744 := F727_721.keep K744 (ninS ne_b707_b713 (ninS ne_b707_ob721_3 (ninS ne_b707_ob721_4 (ninS ne_b707_ob721_9 (ninS ne_b707_ob721_7 (ninS ne_b707_ob721_5 (ninS ne_b707_ob721_8 nin0)))))))
      have F765_744 := Q721_14.keep K744 (ninS (Ne.symm ne_b713_ob721_1) (ninS ne_ob721_1_ob721_3 (ninS ne_ob721_1_ob721_4 (ninS ne_ob721_1_ob721_9 (ninS ne_ob721_1_ob721_7 (ninS ne_ob721_1_ob721_5 (ninS ne_ob721_1_ob721_8 nin0)))))))
      have F766_744 := Q721_15.keep K744 (ninS (Ne.symm ne_b713_ob721_2) (ninS ne_ob721_2_ob721_3 (ninS ne_ob721_2_ob721_4 (ninS ne_ob721_2_ob721_9 (ninS ne_ob721_2_ob721_7 (ninS ne_ob721_2_ob721_5 (ninS ne_ob721_2_ob721_8 nin0)))))))
      have F770_744 := Q721_19.keep K744 (ninS (Ne.symm ne_b713_ob721_6) (ninS (Ne.symm ne_ob721_3_ob721_6) (ninS (Ne.symm ne_ob721_4_ob721_6) (ninS ne_ob721_6_ob721_9 (ninS ne_ob721_6_ob721_7 (ninS (Ne.symm ne_ob721_5_ob721_6) (ninS ne_ob721_6_ob721_8 nin0)))))))
      have Z744 : n0 ≤ T744.heap.size := Nat.le_trans Z721 K744.1
      have N744 := Fr.app N741 N744q
      obtain ⟨cq775, kq775, q775a, q775b, q775c⟩ := isOf hZ rfl Q744_0
      obtain ⟨_, _, ⟨T775, L775, k775, n775⟩, -, X775, ⟨Lc775, hQ775, l775, y775, z775⟩, st775⟩ := X744.virtualBack hx (y := (⟨"com/example/accrete/accrete/engine/Sendings", "putInSlot", "(II[BI)V"⟩ : MethodName)) (z := (⟨"com/example/accrete/accrete/engine/Sendings", "putInSlot", "(II[BI)V"⟩ : MethodName)) hown (mvT hZ (hw _ (mgE 56 rfl))) (mvT hZ (hw _ (mgE 57 rfl))) (notFace_of_selects (args := #[]) (mvT hZ (hw _ (mgE 59 rfl)))) (mvT hZ (hw _ (mgE 59 rfl))) (mvT hZ (hw _ (mgE 58 rfl))) (by decide) (backOf (W := 0) (rm7n l Z a0 hw [] b713 tv2 p5 p6 ob721_8 ob721_5 ob721_4 ob721_3 ob721_9 ob721_7 ob721_6 ob721_1 ob721_2 ((0 : Int64) + ((((16 : Int32) + la).toInt64) + (((16 : Int32) + lb).toInt64))) (own_upd (fun _ => (0 : Int32)) ((0 : Int32)).toNatClampNeg tv1) (own_upd (fun _ => (0 : Int32)) ((0 : Int32)).toNatClampNeg (-3 : Int32)) (own_upd (fun _ => (0 : Int32)) ((0 : Int32)).toNatClampNeg p6) (own_upd (fun _ => (0 : Int32)) ((0 : Int32)).toNatClampNeg p5) (own_upd (fun _ => Value.null) ((0 : Int32)).toNatClampNeg (Value.ref b703)) (own_upd (fun _ => Value.null) ((0 : Int32)).toNatClampNeg (Value.ref b701)) T744.heap n0 Z744 Q744_5 Q744_9 Q744_6 Q744_4 Q744_3 Q744_10 Q744_8 Q744_7 Q744_1 Q744_2 Q744_11 Q744_18 Q744_16 Q744_15 Q744_14 Q744_19 Q744_17 Q744_13 Q744_12 g_ob721_8 ne_b713_ob721_8 ne_ob721_5_ob721_8 ne_ob721_4_ob721_8 ne_ob721_3_ob721_8 (Ne.symm ne_ob721_8_ob721_9) ne_ob721_7_ob721_8 g_ob721_5 ne_b713_ob721_5 ne_ob721_4_ob721_5 ne_ob721_3_ob721_5 (Ne.symm ne_ob721_5_ob721_9) (Ne.symm ne_ob721_5_ob721_7) g_ob721_7 ne_b713_ob721_7 ne_ob721_4_ob721_7 ne_ob721_3_ob721_7 (Ne.symm ne_ob721_7_ob721_9) g_ob721_9 ne_b713_ob721_9 ne_ob721_4_ob721_9 ne_ob721_3_ob721_9 g_ob721_4 ne_b713_ob721_4 ne_ob721_3_ob721_4 g_ob721_3 ne_b713_ob721_3 Q744_0 g_b713) hZ (hw _ (mgE 60 rfl)) (hw _ (mgE 4 rfl)) (by decide) (by decide)) q775a q775c (g := (mkF m 176 #[.val (.int p1), .val (.int p2), .val (.int p3), .val (.int p4), .val (.int p5), .val (.int p6), .val (.int la), .val (.int lb), .val (.int lc), .val (.int ld), .val (.int (1 : Int32)), .val (.int (1 : Int32)), .val (.int kys), .val (.int tv1), .val (.int tv2), .val (.int tv3), .val (.ref b701), .val (.ref b703), .val .null, .val (.ref b707), .val (.ref b713), .val (.long fre), .second, .unset, .unset, .unset, .unset, .unset, .unset, .unset, .unset, .unset, .unset, .unset, .unset] [(.int p6), .null, (.int p5), (.int tv2), (.ref b713)])) rfl (by rw [hml]; rfl) (Steps.refl _) (argsL := [(.int tv2), (.int p5), .null, (.int p6)]) (rest := []) (lenOf pd__II_BI_V rfl) rfl (by show 2 * 0 + _ ≤ _; exact Nat.le_of_eq rfl) (hb hby at_176) (fun _ _ => ⟨rfl, rfl, (by decide : 13 + 0 ≤ _), (by decide : 6202 + 0 ≤ _)⟩)
      dsimp only [Pt.U, Pt.locs, Pt.cells, Pt.slots] at X775 l775 y775 z775 st775 hQ775
      subst l775 y775 z775
      obtain ⟨rfl, N775q, K775, Q775_0, Q775_1, Q775_2, Q775_3, Q775_4, Q775_5, Q775_6, Q775_7, Q775_8, Q775_9, Q775_10, Q775_11, Q775_12, Q775_13, Q775_14, Q775_15, Q775_16, Q775_17, Q775_18, Q775_19⟩ := hQ775
      have F780_775 := F749_744.keep K775
      have F781_775 := F750_744.keep K775 (ninS ne_b707_b713 (ninS ne_b707_ob721_3 (ninS ne_b707_ob721_4 (ninS ne_b707_ob721_9 (ninS ne_b707_ob721_7 (ninS ne_b707_ob721_5 (ninS ne_b707_ob721_8 nin0)))))))
      have F785_775 := F765_744.keep K775 (ninS (Ne.symm ne_b713_ob721_1) (ninS ne_ob721_1_ob721_3 (ninS ne_ob721_1_ob721_4 (ninS ne_ob721_1_ob721_9 (ninS ne_ob721_1_ob721_7 (ninS ne_ob721_1_ob721_5 (ninS ne_ob721_1_ob721_8 nin0)))))))
      have F786_775 := F766_744.keep K775 (ninS (Ne.symm ne_b713_ob721_2) (ninS ne_ob721_2_ob721_3 (ninS ne_ob721_2_ob721_4 (ninS ne_ob721_2_ob721_9 (ninS ne_ob721_2_ob721_7 (ninS ne_ob721_2_ob721_5 (ninS ne_ob721_2_ob721_8 nin0)))))))
      have F787_775 := F770_744.keep K775 (ninS (Ne.symm ne_b713_ob721_6) (ninS (Ne.symm ne_ob721_3_ob721_6) (ninS (Ne.symm ne_ob721_4_ob721_6) (ninS ne_ob721_6_ob721_9 (ninS ne_ob721_6_ob721_7 (ninS (Ne.symm ne_ob721_5_ob721_6) (ninS ne_ob721_6_ob721_8 nin0)))))))
      have Z775 : n0 ≤ T775.heap.size := Nat.le_trans Z744 K775.1
      have N775 := Fr.app N744 N775q
      obtain ⟨cq806, kq806, q806a, q806b, q806c⟩ := isOf hZ rfl Q775_0
      obtain ⟨_, _, ⟨T806, L806, k806, n806⟩, -, X806, ⟨Lc806, hQ806, l806, y806, z806⟩, st806⟩ := X775.virtualBack hx (y := (⟨"com/example/accrete/accrete/engine/Sendings", "send", "(I[BII)V"⟩ : MethodName)) (z := (⟨"com/example/accrete/accrete/engine/Sendings", "send", "(I[BII)V"⟩ : MethodName)) hown (mvT hZ (hw _ (mgE 108 rfl))) (mvT hZ (hw _ (mgE 109 rfl))) (notFace_of_selects (args := #[]) (mvT hZ (hw _ (mgE 111 rfl)))) (mvT hZ (hw _ (mgE 111 rfl))) (mvT hZ (hw _ (mgE 110 rfl))) (by decide) (backOf (W := 0) (rm17 l Z a0 hw [] b713 tv3 b707 p6 p5 ob721_8 ob721_5 ob721_4 ob721_3 ob721_9 ob721_7 ob721_6 ob721_1 ob721_2 (((0 : Int64) + ((((16 : Int32) + la).toInt64) + (((16 : Int32) + lb).toInt64))) + (0 : Int64)) (own_upd (own_upd (fun _ => (0 : Int32)) ((0 : Int32)).toNatClampNeg tv1) ((1 : Int32)).toNatClampNeg tv2) (own_upd (own_upd (fun _ => (0 : Int32)) ((0 : Int32)).toNatClampNeg (-3 : Int32)) ((1 : Int32)).toNatClampNeg p5) (own_upd (own_upd (fun _ => (0 : Int32)) ((0 : Int32)).toNatClampNeg p6) ((1 : Int32)).toNatClampNeg p6) (own_upd (own_upd (fun _ => (0 : Int32)) ((0 : Int32)).toNatClampNeg p5) ((1 : Int32)).toNatClampNeg (-1 : Int32)) (own_upd (own_upd (fun _ => Value.null) ((0 : Int32)).toNatClampNeg (Value.ref b703)) ((1 : Int32)).toNatClampNeg Value.null) (own_upd (own_upd (fun _ => Value.null) ((0 : Int32)).toNatClampNeg (Value.ref b701)) ((1 : Int32)).toNatClampNeg Value.null) ld (fun _ => (0 : Int32)) T775.heap n0 Z775 Q775_5 Q775_9 Q775_6 Q775_4 Q775_3 Q775_10 Q775_8 Q775_7 Q775_1 Q775_2 Q775_11 Q775_18 Q775_16 Q775_15 Q775_14 Q775_19 Q775_17 Q775_13 Q775_12 g_ob721_8 ne_b713_ob721_8 ne_ob721_5_ob721_8 ne_ob721_4_ob721_8 ne_ob721_3_ob721_8 (Ne.symm ne_ob721_8_ob721_9) ne_ob721_7_ob721_8 g_ob721_5 ne_b713_ob721_5 ne_ob721_4_ob721_5 ne_ob721_3_ob721_5 (Ne.symm ne_ob721_5_ob721_9) (Ne.symm ne_ob721_5_ob721_7) g_ob721_7 ne_b713_ob721_7 ne_ob721_4_ob721_7 ne_ob721_3_ob721_7 (Ne.symm ne_ob721_7_ob721_9) g_ob721_9 F780_775 ne_b713_ob721_9 ne_ob721_4_ob721_9 ne_ob721_3_ob721_9 g_ob721_4 ne_b713_ob721_4 ne_ob721_3_ob721_4 g_ob721_3 ne_b713_ob721_3 Q775_0 g_b713 F781_775 ne_b707_ob721_8 ne_b707_ob721_5 ne_b707_ob721_7 ne_b707_ob721_9 ne_b707_ob721_4 ne_b707_ob721_3 ne_b707_b713) hZ (hw _ (mgE 112 rfl)) (hw _ (mgE 4 rfl)) (by decide) (by decide)) q806a q806c (g := (mkF m 194 #[.val (.int p1), .val (.int p2), .val (.int p3), .val (.int p4), .val (.int p5), .val (.int p6), .val (.int la), .val (.int lb), .val (.int lc), .val (.int ld), .val (.int (1 : Int32)), .val (.int (1 : Int32)), .val (.int kys), .val (.int tv1), .val (.int tv2), .val (.int tv3), .val (.ref b701), .val (.ref b703), .val .null, .val (.ref b707), .val (.ref b713), .val (.long fre), .second, .unset, .unset, .unset, .unset, .unset, .unset, .unset, .unset, .unset, .unset, .unset, .unset] [(.int p5), (.int p6), (.ref b707), (.int tv3), (.ref b713)])) rfl (by rw [hml]; rfl) (Steps.refl _) (argsL := [(.int tv3), (.ref b707), (.int p6), (.int p5)]) (rest := []) (lenOf pd__I_BII_V rfl) rfl (by show 2 * 0 + _ ≤ _; exact Nat.le_of_eq rfl) (hb hby at_194) (fun _ _ => ⟨rfl, rfl, (by decide : 13 + 0 ≤ _), (by decide : 6202 + 0 ≤ _)⟩)
      dsimp only [Pt.U, Pt.locs, Pt.cells, Pt.slots] at X806 l806 y806 z806 st806 hQ806
      subst l806 y806 z806
      obtain ⟨rfl, N806q, K806, Q806_0, Q806_1, Q806_2, Q806_3, Q806_4, Q806_5, Q806_6, Q806_7, Q806_8, Q806_9, Q806_10, Q806_11, Q806_12, Q806_13, Q806_14, Q806_15, Q806_16, Q806_17, Q806_18, Q806_19⟩ := hQ806
      have F816_806 := F785_775.keep K806 (ninS (Ne.symm ne_b713_ob721_1) (ninS ne_ob721_1_ob721_3 (ninS ne_ob721_1_ob721_4 (ninS ne_ob721_1_ob721_9 (ninS ne_ob721_1_ob721_7 (ninS ne_ob721_1_ob721_5 (ninS ne_ob721_1_ob721_8 nin0)))))))
      have F817_806 := F786_775.keep K806 (ninS (Ne.symm ne_b713_ob721_2) (ninS ne_ob721_2_ob721_3 (ninS ne_ob721_2_ob721_4 (ninS ne_ob721_2_ob721_9 (ninS ne_ob721_2_ob721_7 (ninS ne_ob721_2_ob721_5 (ninS ne_ob721_2_ob721_8 nin0)))))))
      have F818_806 := F787_775.keep K806 (ninS (Ne.symm ne_b713_ob721_6) (ninS (Ne.symm ne_ob721_3_ob721_6) (ninS (Ne.symm ne_ob721_4_ob721_6) (ninS ne_ob721_6_ob721_9 (ninS ne_ob721_6_ob721_7 (ninS (Ne.symm ne_ob721_5_ob721_6) (ninS ne_ob721_6_ob721_8 nin0)))))))
      have Z806 : n0 ≤ T806.heap.size := Nat.le_trans Z775 K806.1
      have N806 := Fr.app N775 N806q
      obtain ⟨cq837, kq837, q837a, q837b, q837c⟩ := isOf hZ rfl Q806_0
      obtain ⟨_, _, ⟨T837, L837, k837, n837⟩, -, X837, ⟨Lc837, hQ837, l837, y837, z837⟩, st837⟩ := X806.virtualBack hx (y := (⟨"com/example/accrete/accrete/engine/Sendings", "cost", "()J"⟩ : MethodName)) (z := (⟨"com/example/accrete/accrete/engine/Sendings", "cost", "()J"⟩ : MethodName)) hown (mvT hZ (hw _ (mgE 32 rfl))) (mvT hZ (hw _ (mgE 33 rfl))) (notFace_of_selects (args := #[]) (mvT hZ (hw _ (mgE 35 rfl)))) (mvT hZ (hw _ (mgE 35 rfl))) (mvT hZ (hw _ (mgE 34 rfl))) (by decide) (backOf (W := 0) (rm3 l Z a0 hw [] b713 ob721_8 (1024 : Int32) (own_upd (own_upd (own_upd (fun _ => (0 : Int32)) ((0 : Int32)).toNatClampNeg tv1) ((1 : Int32)).toNatClampNeg tv2) ((2 : Int32)).toNatClampNeg tv3) ob721_6 (1 : Int32) (fun _ => (0 : Int32)) ob721_1 (0 : Int32) (fun _ => (0 : Int32)) ob721_2 (1 : Int32) (fun _ => (0 : Int32)) ((((0 : Int64) + ((((16 : Int32) + la).toInt64) + (((16 : Int32) + lb).toInt64))) + (0 : Int64)) + ((0 : Int64) + (((16 : Int32) + ld).toInt64))) T806.heap n0 Z806 Q806_9 Q806_18 Q806_7 F818_806 Q806_1 F816_806 Q806_2 F817_806 Q806_11) hZ (hw _ (mgE 36 rfl)) (hw _ (mgE 4 rfl)) (by decide) (by decide)) q837a q837c (g := (mkF m 213 #[.val (.int p1), .val (.int p2), .val (.int p3), .val (.int p4), .val (.int p5), .val (.int p6), .val (.int la), .val (.int lb), .val (.int lc), .val (.int ld), .val (.int (1 : Int32)), .val (.int (1 : Int32)), .val (.int kys), .val (.int tv1), .val (.int tv2), .val (.int tv3), .val (.ref b701), .val (.ref b703), .val .null, .val (.ref b707), .val (.ref b713), .val (.long fre), .second, .unset, .unset, .unset, .unset, .unset, .unset, .unset, .unset, .unset, .unset, .unset, .unset] [(.ref b713)])) rfl (by rw [hml]; rfl) (Steps.refl _) (argsL := []) (rest := []) (lenOf pd___J rfl) rfl (by show 2 * 0 + _ ≤ _; exact Nat.le_of_eq rfl) (hb hby at_213) (fun _ _ => ⟨rfl, rfl, (by decide : 13 + 0 ≤ _), (by decide : 6202 + 0 ≤ _)⟩)
      dsimp only [Pt.U, Pt.locs, Pt.cells, Pt.slots] at X837 l837 y837 z837 st837 hQ837
      subst l837 y837 z837
      obtain ⟨rfl, N837q, e837⟩ := hQ837
      have N837 := Fr.app N806 N837q
      have pre839 : ∀ t, Steps p.tables e below (T837.setTop (mkF m 218 #[.val (.int p1), .val (.int p2), .val (.int p3), .val (.int p4), .val (.int p5), .val (.int p6), .val (.int la), .val (.int lb), .val (.int lc), .val (.int ld), .val (.int (1 : Int32)), .val (.int (1 : Int32)), .val (.int kys), .val (.int tv1), .val (.int tv2), .val (.int tv3), .val (.ref b701), .val (.ref b703), .val .null, .val (.ref b707), .val (.ref b713), .val (.long fre), .second, .val (.long (cst (1024 : Int32) (1 : Int32) (0 : Int32) (1 : Int32) ((((0 : Int64) + ((((16 : Int32) + la).toInt64) + (((16 : Int32) + lb).toInt64))) + (0 : Int64)) + ((0 : Int64) + (((16 : Int32) + ld).toInt64))))), .second, .unset, .unset, .unset, .unset, .unset, .unset, .unset, .unset, .unset, .unset] [])) t → EN t := fun t kt => by
        refine pre743 t ?_
        refine XS.aload X741.here hx rfl (hb hby at_151) rfl rfl ?_
        refine XS.iload X741.here hx rfl (hb hby at_153) rfl ?_
        refine XS.aload X741.here hx rfl (hb hby at_155) rfl rfl ?_
        refine XS.aload X741.here hx rfl (hb hby at_157) rfl rfl ?_
        refine XS.iload X741.here hx rfl (hb hby at_159) rfl ?_
        refine XS.iload X741.here hx rfl (hb hby at_161) rfl ?_
        refine st744.trans ?_
        refine XS.aload X744.here hx rfl (hb hby at_166) rfl rfl ?_
        refine XS.iload X744.here hx rfl (hb hby at_168) rfl ?_
        refine XS.iload X744.here hx rfl (hb hby at_170) rfl ?_
        show Steps p.tables e below (T744.setTop (mkF m 172 #[.val (.int p1), .val (.int p2), .val (.int p3), .val (.int p4), .val (.int p5), .val (.int p6), .val (.int la), .val (.int lb), .val (.int lc), .val (.int ld), .val (.int (1 : Int32)), .val (.int (1 : Int32)), .val (.int kys), .val (.int tv1), .val (.int tv2), .val (.int tv3), .val (.ref b701), .val (.ref b703), .val .null, .val (.ref b707), .val (.ref b713), .val (.long fre), .second, .unset, .unset, .unset, .unset, .unset, .unset, .unset, .unset, .unset, .unset, .unset, .unset] [(.int p5), (.int tv2), (.ref b713)])) _
        refine XS.aload X744.here hx rfl (hb hby at_172) rfl rfl ?_
        refine XS.iload X744.here hx rfl (hb hby at_174) rfl ?_
        refine st775.trans ?_
        refine XS.iload X775.here hx rfl (hb hby at_179) rfl ?_
        refine XS.ifNo X775.here hx rfl (hb hby at_181) rfl ((if0 _ _).trans (feq (by decide : ¬ ((1 : Int32) = (0 : Int32)))).1) ?_
        refine XS.aload X775.here hx rfl (hb hby at_184) rfl rfl ?_
        refine XS.iload X775.here hx rfl (hb hby at_186) rfl ?_
        refine XS.aload X775.here hx rfl (hb hby at_188) rfl rfl ?_
        refine XS.iload X775.here hx rfl (hb hby at_190) rfl ?_
        refine XS.iload X775.here hx rfl (hb hby at_192) rfl ?_
        show Steps p.tables e below (T775.setTop (mkF m 194 #[.val (.int p1), .val (.int p2), .val (.int p3), .val (.int p4), .val (.int p5), .val (.int p6), .val (.int la), .val (.int lb), .val (.int lc), .val (.int ld), .val (.int (1 : Int32)), .val (.int (1 : Int32)), .val (.int kys), .val (.int tv1), .val (.int tv2), .val (.int tv3), .val (.ref b701), .val (.ref b703), .val .null, .val (.ref b707), .val (.ref b713), .val (.long fre), .second, .unset, .unset, .unset, .unset, .unset, .unset, .unset, .unset, .unset, .unset, .unset, .unset] [(.int p5), (.int p6), (.ref b707), (.int tv3), (.ref b713)])) _
        refine st806.trans ?_
        refine XS.goto X806.here hx rfl (pc0 := 197) (pc' := 211) rfl (hb hby at_197) (by decide) (by decide) ?_
        refine XS.aload X806.here hx rfl (hb hby at_211) rfl rfl ?_
        refine st837.trans ?_
        refine XS.lstore X837.here hx rfl (hb hby at_216) rfl (l' := #[.val (.int p1), .val (.int p2), .val (.int p3), .val (.int p4), .val (.int p5), .val (.int p6), .val (.int la), .val (.int lb), .val (.int lc), .val (.int ld), .val (.int (1 : Int32)), .val (.int (1 : Int32)), .val (.int kys), .val (.int tv1), .val (.int tv2), .val (.int tv3), .val (.ref b701), .val (.ref b703), .val .null, .val (.ref b707), .val (.ref b713), .val (.long fre), .second, .val (.long (cst (1024 : Int32) (1 : Int32) (0 : Int32) (1 : Int32) ((((0 : Int64) + ((((16 : Int32) + la).toInt64) + (((16 : Int32) + lb).toInt64))) + (0 : Int64)) + ((0 : Int64) + (((16 : Int32) + ld).toInt64))))), .second, .unset, .unset, .unset, .unset, .unset, .unset, .unset, .unset, .unset, .unset]) rfl ?_
        exact kt
      obtain ⟨fil1, h_fil1⟩ : ∃ z, z = (cst (1024 : Int32) (1 : Int32) (0 : Int32) (1 : Int32) ((((0 : Int64) + ((((16 : Int32) + la).toInt64) + (((16 : Int32) + lb).toInt64))) + (0 : Int64)) + ((0 : Int64) + (((16 : Int32) + ld).toInt64)))) := ⟨_, rfl⟩
      rw [← h_fil1] at pre839
      obtain ⟨cq840, kq840, q840a, q840b, q840c⟩ := isOf hZ e837 Q806_0
      obtain ⟨_, _, ⟨T840, L840, k840, n840⟩, -, X840, ⟨Lc840, hQ840, l840, y840, z840⟩, st840⟩ := X837.virtualBack hx (y := (⟨"com/example/accrete/accrete/engine/Sendings", "groupByKey", "(I)V"⟩ : MethodName)) (z := (⟨"com/example/accrete/accrete/engine/Sendings", "groupByKey", "(I)V"⟩ : MethodName)) hown (mvT hZ (hw _ (mgE 66 rfl))) (mvT hZ (hw _ (mgE 67 rfl))) (notFace_of_selects (args := #[]) (mvT hZ (hw _ (mgE 69 rfl)))) (mvT hZ (hw _ (mgE 69 rfl))) (mvT hZ (hw _ (mgE 68 rfl))) (by decide) (backOf (W := 0) (rm9 l Z a0 hw [] b713 kys ob721_8 ob721_5 ob721_4 ob721_3 ob721_9 ob721_7 ob721_6 ob721_1 ob721_2 ((((0 : Int64) + ((((16 : Int32) + la).toInt64) + (((16 : Int32) + lb).toInt64))) + (0 : Int64)) + ((0 : Int64) + (((16 : Int32) + ld).toInt64))) (fun _ => (0 : Int32)) (fun _ => (0 : Int32)) (fun _ => (0 : Int32)) tv1 tv2 tv3 T806.heap n0 Z806 Q806_5 Q806_9 Q806_6 Q806_4 Q806_3 Q806_10 Q806_8 Q806_7 Q806_1 Q806_2 Q806_11 Q806_18 F818_806 F816_806 F817_806 Q806_0 g_b713 (Ne.symm ne_b713_ob721_8) (Ne.symm ne_b713_ob721_6) (Ne.symm ne_b713_ob721_1) (Ne.symm ne_b713_ob721_2) (hkys) (ht1) (ht2) (ht3)) hZ (hw _ (mgE 70 rfl)) (hw _ (mgE 4 rfl)) (by decide) (by decide)) q840a q840c (g := (mkF m 222 #[.val (.int p1), .val (.int p2), .val (.int p3), .val (.int p4), .val (.int p5), .val (.int p6), .val (.int la), .val (.int lb), .val (.int lc), .val (.int ld), .val (.int (1 : Int32)), .val (.int (1 : Int32)), .val (.int kys), .val (.int tv1), .val (.int tv2), .val (.int tv3), .val (.ref b701), .val (.ref b703), .val .null, .val (.ref b707), .val (.ref b713), .val (.long fre), .second, .val (.long fil1), .second, .unset, .unset, .unset, .unset, .unset, .unset, .unset, .unset, .unset, .unset] [(.int kys), (.ref b713)])) rfl (by rw [hml]; rfl) (Steps.refl _) (argsL := [(.int kys)]) (rest := []) (lenOf pd__I_V rfl) rfl (by show 2 * 0 + _ ≤ _; exact Nat.le_of_eq rfl) (hb hby at_222) (fun _ _ => ⟨rfl, e837, (by decide : 13 + 3 ≤ _), (by decide : 6202 + 21 ≤ _)⟩)
      dsimp only [Pt.U, Pt.locs, Pt.cells, Pt.slots] at X840 l840 y840 z840 st840 hQ840
      subst l840 y840 z840
      obtain ⟨ob840_1, ob840_2, ob840_3, rfl, N840q, K840, ozob840_1, ozob840_2, ozob840_3, ne_ob840_1_ob840_2, ne_ob840_1_ob840_3, ne_ob840_2_ob840_3, Q840_0, Q840_1, Q840_2, Q840_3, Q840_4, Q840_5, Q840_6, Q840_7, Q840_8, Q840_9, Q840_10, Q840_11, Q840_12, Q840_13, Q840_14⟩ := hQ840
      have ne_b713_ob840_1 : b713 ≠ ob840_1 := Nat.ne_of_lt (Nat.lt_of_lt_of_le Q806_0.lt ozob840_1)
      have ne_ob721_7_ob840_1 : ob721_7 ≠ ob840_1 := Nat.ne_of_lt (Nat.lt_of_lt_of_le Q806_17.lt ozob840_1)
      have ne_ob721_9_ob840_1 : ob721_9 ≠ ob840_1 := Nat.ne_of_lt (Nat.lt_of_lt_of_le Q806_19.lt ozob840_1)
      have ne_b713_ob840_2 : b713 ≠ ob840_2 := Nat.ne_of_lt (Nat.lt_of_lt_of_le Q806_0.lt ozob840_2)
      have ne_ob721_7_ob840_2 : ob721_7 ≠ ob840_2 := Nat.ne_of_lt (Nat.lt_of_lt_of_le Q806_17.lt ozob840_2)
      have ne_ob721_9_ob840_2 : ob721_9 ≠ ob840_2 := Nat.ne_of_lt (Nat.lt_of_lt_of_le Q806_19.lt ozob840_2)
      have ne_b713_ob840_3 : b713 ≠ ob840_3 := Nat.ne_of_lt (Nat.lt_of_lt_of_le Q806_0.lt ozob840_3)
      have ne_ob721_7_ob840_3 : ob721_7 ≠ ob840_3 := Nat.ne_of_lt (Nat.lt_of_lt_of_le Q806_17.lt ozob840_3)
      have ne_ob721_9_ob840_3 : ob721_9 ≠ ob840_3 := Nat.ne_of_lt (Nat.lt_of_lt_of_le Q806_19.lt ozob840_3)
      have F867_840 := Q806_17.keep K840 (ninS (Ne.symm ne_b713_ob721_7) nin0)
      have F868_840 := Q806_18.keep K840 (ninS (Ne.symm ne_b713_ob721_8) nin0)
      have F869_840 := Q806_19.keep K840 (ninS (Ne.symm ne_b713_ob721_9) nin0)
      have Z840 : n0 ≤ T840.heap.size := Nat.le_trans Z806 K840.1
      have N840 := Fr.app N837 N840q
      obtain ⟨cq871, kq871, q871a, q871b, q871c⟩ := isOf hZ rfl Q840_0
      obtain ⟨_, _, ⟨T871, L871, k871, n871⟩, -, X871, ⟨Lc871, hQ871, l871, y871, z871⟩, st871⟩ := X840.virtualBack hx (y := (⟨"com/example/accrete/accrete/engine/Sendings", "cost", "()J"⟩ : MethodName)) (z := (⟨"com/example/accrete/accrete/engine/Sendings", "cost", "()J"⟩ : MethodName)) hown (mvT hZ (hw _ (mgE 32 rfl))) (mvT hZ (hw _ (mgE 33 rfl))) (notFace_of_selects (args := #[]) (mvT hZ (hw _ (mgE 35 rfl)))) (mvT hZ (hw _ (mgE 35 rfl))) (mvT hZ (hw _ (mgE 34 rfl))) (by decide) (backOf (W := 0) (rm3 l Z a0 hw [] b713 ob721_8 (1024 : Int32) (own_upd (own_upd (own_upd (fun _ => (0 : Int32)) ((0 : Int32)).toNatClampNeg tv1) ((1 : Int32)).toNatClampNeg tv2) ((2 : Int32)).toNatClampNeg tv3) ob840_3 (kys + (1 : Int32)) (prefS tv1 tv2 tv3 kys) ob840_1 (3 : Int32) (own_upd (own_upd (own_upd (fun _ => (0 : Int32)) (((nxtS tv1 tv2 tv3 kys) (tv1).toNatClampNeg)).toNatClampNeg (0 : Int32)) (((own_upd (nxtS tv1 tv2 tv3 kys) (tv1).toNatClampNeg (((nxtS tv1 tv2 tv3 kys) (tv1).toNatClampNeg) + (1 : Int32))) (tv2).toNatClampNeg)).toNatClampNeg (1 : Int32)) (((own_upd (own_upd (nxtS tv1 tv2 tv3 kys) (tv1).toNatClampNeg (((nxtS tv1 tv2 tv3 kys) (tv1).toNatClampNeg) + (1 : Int32))) (tv2).toNatClampNeg (((own_upd (nxtS tv1 tv2 tv3 kys) (tv1).toNatClampNeg (((nxtS tv1 tv2 tv3 kys) (tv1).toNatClampNeg) + (1 : Int32))) (tv2).toNatClampNeg) + (1 : Int32))) (tv3).toNatClampNeg)).toNatClampNeg (2 : Int32)) ob840_2 (kys + (1 : Int32)) (own_upd (own_upd (own_upd (nxtS tv1 tv2 tv3 kys) (tv1).toNatClampNeg (((nxtS tv1 tv2 tv3 kys) (tv1).toNatClampNeg) + (1 : Int32))) (tv2).toNatClampNeg (((own_upd (nxtS tv1 tv2 tv3 kys) (tv1).toNatClampNeg (((nxtS tv1 tv2 tv3 kys) (tv1).toNatClampNeg) + (1 : Int32))) (tv2).toNatClampNeg) + (1 : Int32))) (tv3).toNatClampNeg (((own_upd (own_upd (nxtS tv1 tv2 tv3 kys) (tv1).toNatClampNeg (((nxtS tv1 tv2 tv3 kys) (tv1).toNatClampNeg) + (1 : Int32))) (tv2).toNatClampNeg (((own_upd (nxtS tv1 tv2 tv3 kys) (tv1).toNatClampNeg (((nxtS tv1 tv2 tv3 kys) (tv1).toNatClampNeg) + (1 : Int32))) (tv2).toNatClampNeg) + (1 : Int32))) (tv3).toNatClampNeg) + (1 : Int32))) ((((0 : Int64) + ((((16 : Int32) + la).toInt64) + (((16 : Int32) + lb).toInt64))) + (0 : Int64)) + ((0 : Int64) + (((16 : Int32) + ld).toInt64))) T840.heap n0 Z840 Q840_9 F868_840 Q840_7 Q840_14 Q840_1 Q840_12 Q840_2 Q840_13 Q840_11) hZ (hw _ (mgE 36 rfl)) (hw _ (mgE 4 rfl)) (by decide) (by decide)) q871a q871c (g := (mkF m 227 #[.val (.int p1), .val (.int p2), .val (.int p3), .val (.int p4), .val (.int p5), .val (.int p6), .val (.int la), .val (.int lb), .val (.int lc), .val (.int ld), .val (.int (1 : Int32)), .val (.int (1 : Int32)), .val (.int kys), .val (.int tv1), .val (.int tv2), .val (.int tv3), .val (.ref b701), .val (.ref b703), .val .null, .val (.ref b707), .val (.ref b713), .val (.long fre), .second, .val (.long fil1), .second, .unset, .unset, .unset, .unset, .unset, .unset, .unset, .unset, .unset, .unset] [(.ref b713)])) rfl (by rw [hml]; rfl) (Steps.refl _) (argsL := []) (rest := []) (lenOf pd___J rfl) rfl (by show 2 * 0 + _ ≤ _; exact Nat.le_of_eq rfl) (hb hby at_227) (fun _ _ => ⟨rfl, rfl, (by decide : 16 + 0 ≤ _), (by decide : 6223 + 0 ≤ _)⟩)
      dsimp only [Pt.U, Pt.locs, Pt.cells, Pt.slots] at X871 l871 y871 z871 st871 hQ871
      subst l871 y871 z871
      obtain ⟨rfl, N871q, e871⟩ := hQ871
      have N871 := Fr.app N840 N871q
      have pre873 : ∀ t, Steps p.tables e below (T871.setTop (mkF m 232 #[.val (.int p1), .val (.int p2), .val (.int p3), .val (.int p4), .val (.int p5), .val (.int p6), .val (.int la), .val (.int lb), .val (.int lc), .val (.int ld), .val (.int (1 : Int32)), .val (.int (1 : Int32)), .val (.int kys), .val (.int tv1), .val (.int tv2), .val (.int tv3), .val (.ref b701), .val (.ref b703), .val .null, .val (.ref b707), .val (.ref b713), .val (.long fre), .second, .val (.long fil1), .second, .val (.long (cst (1024 : Int32) (kys + (1 : Int32)) (3 : Int32) (kys + (1 : Int32)) ((((0 : Int64) + ((((16 : Int32) + la).toInt64) + (((16 : Int32) + lb).toInt64))) + (0 : Int64)) + ((0 : Int64) + (((16 : Int32) + ld).toInt64))))), .second, .unset, .unset, .unset, .unset, .unset, .unset, .unset, .unset] [])) t → EN t := fun t kt => by
        refine pre839 t ?_
        refine XS.aload X837.here hx rfl (hb hby at_218) rfl rfl ?_
        refine XS.iload X837.here hx rfl (hb hby at_220) rfl ?_
        refine st840.trans ?_
        refine XS.aload X840.here hx rfl (hb hby at_225) rfl rfl ?_
        refine st871.trans ?_
        refine XS.lstore X871.here hx rfl (hb hby at_230) rfl (l' := #[.val (.int p1), .val (.int p2), .val (.int p3), .val (.int p4), .val (.int p5), .val (.int p6), .val (.int la), .val (.int lb), .val (.int lc), .val (.int ld), .val (.int (1 : Int32)), .val (.int (1 : Int32)), .val (.int kys), .val (.int tv1), .val (.int tv2), .val (.int tv3), .val (.ref b701), .val (.ref b703), .val .null, .val (.ref b707), .val (.ref b713), .val (.long fre), .second, .val (.long fil1), .second, .val (.long (cst (1024 : Int32) (kys + (1 : Int32)) (3 : Int32) (kys + (1 : Int32)) ((((0 : Int64) + ((((16 : Int32) + la).toInt64) + (((16 : Int32) + lb).toInt64))) + (0 : Int64)) + ((0 : Int64) + (((16 : Int32) + ld).toInt64))))), .second, .unset, .unset, .unset, .unset, .unset, .unset, .unset, .unset]) rfl ?_
        exact kt
      obtain ⟨gro, h_gro⟩ : ∃ z, z = (cst (1024 : Int32) (kys + (1 : Int32)) (3 : Int32) (kys + (1 : Int32)) ((((0 : Int64) + ((((16 : Int32) + la).toInt64) + (((16 : Int32) + lb).toInt64))) + (0 : Int64)) + ((0 : Int64) + (((16 : Int32) + ld).toInt64)))) := ⟨_, rfl⟩
      rw [← h_gro] at pre873
      obtain ⟨cq874, kq874, q874a, q874b, q874c⟩ := isOf hZ e871 Q840_0
      obtain ⟨_, _, ⟨T874, L874, k874, n874⟩, -, X874, ⟨Lc874, hQ874, l874, y874, z874⟩, st874⟩ := X871.virtualBack hx (y := (⟨"com/example/accrete/accrete/engine/Sendings", "clear", "()V"⟩ : MethodName)) (z := (⟨"com/example/accrete/accrete/engine/Sendings", "clear", "()V"⟩ : MethodName)) hown (mvT hZ (hw _ (mgE 95 rfl))) (mvT hZ (hw _ (mgE 96 rfl))) (notFace_of_selects (args := #[]) (mvT hZ (hw _ (mgE 98 rfl)))) (mvT hZ (hw _ (mgE 98 rfl))) (mvT hZ (hw _ (mgE 97 rfl))) (by decide) (backOf (W := 0) (rm15 l Z a0 hw [] b713 ob721_8 ob721_5 ob721_4 ob721_3 ob721_9 ob721_7 ob840_3 ob840_1 ob840_2 (own_upd (own_upd (own_upd (fun _ => Value.null) ((0 : Int32)).toNatClampNeg (Value.ref b703)) ((1 : Int32)).toNatClampNeg Value.null) ((2 : Int32)).toNatClampNeg (Value.ref b707)) (own_upd (own_upd (own_upd (fun _ => Value.null) ((0 : Int32)).toNatClampNeg (Value.ref b701)) ((1 : Int32)).toNatClampNeg Value.null) ((2 : Int32)).toNatClampNeg Value.null) (.long ((((0 : Int64) + ((((16 : Int32) + la).toInt64) + (((16 : Int32) + lb).toInt64))) + (0 : Int64)) + ((0 : Int64) + (((16 : Int32) + ld).toInt64)))) T840.heap n0 Z840 Q840_5 Q840_9 Q840_6 Q840_4 Q840_3 Q840_10 Q840_8 Q840_7 Q840_1 Q840_2 F869_840 g_ob721_9 ne_b713_ob721_9 F867_840 ne_ob721_7_ob721_9 g_ob721_7 ne_b713_ob721_7 Q840_0 g_b713 Q840_11) hZ (hw _ (mgE 99 rfl)) (hw _ (mgE 4 rfl)) (by decide) (by decide)) q874a q874c (g := (mkF m 234 #[.val (.int p1), .val (.int p2), .val (.int p3), .val (.int p4), .val (.int p5), .val (.int p6), .val (.int la), .val (.int lb), .val (.int lc), .val (.int ld), .val (.int (1 : Int32)), .val (.int (1 : Int32)), .val (.int kys), .val (.int tv1), .val (.int tv2), .val (.int tv3), .val (.ref b701), .val (.ref b703), .val .null, .val (.ref b707), .val (.ref b713), .val (.long fre), .second, .val (.long fil1), .second, .val (.long gro), .second, .unset, .unset, .unset, .unset, .unset, .unset, .unset, .unset] [(.ref b713)])) rfl (by rw [hml]; rfl) (Steps.refl _) (argsL := []) (rest := []) (lenOf pd___V rfl) rfl (by show 2 * 0 + _ ≤ _; exact Nat.le_of_eq rfl) (hb hby at_234) (fun _ _ => ⟨rfl, e871, (by decide : 16 + 0 ≤ _), (by decide : 6223 + 0 ≤ _)⟩)
      dsimp only [Pt.U, Pt.locs, Pt.cells, Pt.slots] at X874 l874 y874 z874 st874 hQ874
      subst l874 y874 z874
      obtain ⟨rfl, N874q, K874, Q874_0, Q874_1, Q874_2, Q874_3, Q874_4, Q874_5, Q874_6, Q874_7, Q874_8, Q874_9, Q874_10, Q874_11, Q874_12, Q874_13⟩ := hQ874
      have F891_874 := F868_840.keep K874 (ninS ne_ob721_8_ob721_9 (ninS (Ne.symm ne_ob721_7_ob721_8) (ninS (Ne.symm ne_b713_ob721_8) nin0)))
      have F904_874 := Q840_12.keep K874 (ninS (Ne.symm ne_ob721_9_ob840_1) (ninS (Ne.symm ne_ob721_7_ob840_1) (ninS (Ne.symm ne_b713_ob840_1) nin0)))
      have F905_874 := Q840_13.keep K874 (ninS (Ne.symm ne_ob721_9_ob840_2) (ninS (Ne.symm ne_ob721_7_ob840_2) (ninS (Ne.symm ne_b713_ob840_2) nin0)))
      have F906_874 := Q840_14.keep K874 (ninS (Ne.symm ne_ob721_9_ob840_3) (ninS (Ne.symm ne_ob721_7_ob840_3) (ninS (Ne.symm ne_b713_ob840_3) nin0)))
      have Z874 : n0 ≤ T874.heap.size := Nat.le_trans Z840 K874.1
      have N874 := Fr.app N871 N874q
      obtain ⟨cq908, kq908, q908a, q908b, q908c⟩ := isOf hZ rfl Q874_0
      obtain ⟨_, _, ⟨T908, L908, k908, n908⟩, -, X908, ⟨Lc908, hQ908, l908, y908, z908⟩, st908⟩ := X874.virtualBack hx (y := (⟨"com/example/accrete/accrete/engine/Sendings", "cost", "()J"⟩ : MethodName)) (z := (⟨"com/example/accrete/accrete/engine/Sendings", "cost", "()J"⟩ : MethodName)) hown (mvT hZ (hw _ (mgE 32 rfl))) (mvT hZ (hw _ (mgE 33 rfl))) (notFace_of_selects (args := #[]) (mvT hZ (hw _ (mgE 35 rfl)))) (mvT hZ (hw _ (mgE 35 rfl))) (mvT hZ (hw _ (mgE 34 rfl))) (by decide) (backOf (W := 0) (rm3 l Z a0 hw [] b713 ob721_8 (1024 : Int32) (own_upd (own_upd (own_upd (fun _ => (0 : Int32)) ((0 : Int32)).toNatClampNeg tv1) ((1 : Int32)).toNatClampNeg tv2) ((2 : Int32)).toNatClampNeg tv3) ob840_3 (kys + (1 : Int32)) (prefS tv1 tv2 tv3 kys) ob840_1 (3 : Int32) (own_upd (own_upd (own_upd (fun _ => (0 : Int32)) (((nxtS tv1 tv2 tv3 kys) (tv1).toNatClampNeg)).toNatClampNeg (0 : Int32)) (((own_upd (nxtS tv1 tv2 tv3 kys) (tv1).toNatClampNeg (((nxtS tv1 tv2 tv3 kys) (tv1).toNatClampNeg) + (1 : Int32))) (tv2).toNatClampNeg)).toNatClampNeg (1 : Int32)) (((own_upd (own_upd (nxtS tv1 tv2 tv3 kys) (tv1).toNatClampNeg (((nxtS tv1 tv2 tv3 kys) (tv1).toNatClampNeg) + (1 : Int32))) (tv2).toNatClampNeg (((own_upd (nxtS tv1 tv2 tv3 kys) (tv1).toNatClampNeg (((nxtS tv1 tv2 tv3 kys) (tv1).toNatClampNeg) + (1 : Int32))) (tv2).toNatClampNeg) + (1 : Int32))) (tv3).toNatClampNeg)).toNatClampNeg (2 : Int32)) ob840_2 (kys + (1 : Int32)) (own_upd (own_upd (own_upd (nxtS tv1 tv2 tv3 kys) (tv1).toNatClampNeg (((nxtS tv1 tv2 tv3 kys) (tv1).toNatClampNeg) + (1 : Int32))) (tv2).toNatClampNeg (((own_upd (nxtS tv1 tv2 tv3 kys) (tv1).toNatClampNeg (((nxtS tv1 tv2 tv3 kys) (tv1).toNatClampNeg) + (1 : Int32))) (tv2).toNatClampNeg) + (1 : Int32))) (tv3).toNatClampNeg (((own_upd (own_upd (nxtS tv1 tv2 tv3 kys) (tv1).toNatClampNeg (((nxtS tv1 tv2 tv3 kys) (tv1).toNatClampNeg) + (1 : Int32))) (tv2).toNatClampNeg (((own_upd (nxtS tv1 tv2 tv3 kys) (tv1).toNatClampNeg (((nxtS tv1 tv2 tv3 kys) (tv1).toNatClampNeg) + (1 : Int32))) (tv2).toNatClampNeg) + (1 : Int32))) (tv3).toNatClampNeg) + (1 : Int32))) (0 : Int64) T874.heap n0 Z874 Q874_9 F891_874 Q874_7 F906_874 Q874_1 F904_874 Q874_2 F905_874 Q874_11) hZ (hw _ (mgE 36 rfl)) (hw _ (mgE 4 rfl)) (by decide) (by decide)) q908a q908c (g := (mkF m 239 #[.val (.int p1), .val (.int p2), .val (.int p3), .val (.int p4), .val (.int p5), .val (.int p6), .val (.int la), .val (.int lb), .val (.int lc), .val (.int ld), .val (.int (1 : Int32)), .val (.int (1 : Int32)), .val (.int kys), .val (.int tv1), .val (.int tv2), .val (.int tv3), .val (.ref b701), .val (.ref b703), .val .null, .val (.ref b707), .val (.ref b713), .val (.long fre), .second, .val (.long fil1), .second, .val (.long gro), .second, .unset, .unset, .unset, .unset, .unset, .unset, .unset, .unset] [(.ref b713)])) rfl (by rw [hml]; rfl) (Steps.refl _) (argsL := []) (rest := []) (lenOf pd___J rfl) rfl (by show 2 * 0 + _ ≤ _; exact Nat.le_of_eq rfl) (hb hby at_239) (fun _ _ => ⟨rfl, rfl, (by decide : 16 + 0 ≤ _), (by decide : 6223 + 0 ≤ _)⟩)
      dsimp only [Pt.U, Pt.locs, Pt.cells, Pt.slots] at X908 l908 y908 z908 st908 hQ908
      subst l908 y908 z908
      obtain ⟨rfl, N908q, e908⟩ := hQ908
      have N908 := Fr.app N874 N908q
      have pre910 : ∀ t, Steps p.tables e below (T908.setTop (mkF m 244 #[.val (.int p1), .val (.int p2), .val (.int p3), .val (.int p4), .val (.int p5), .val (.int p6), .val (.int la), .val (.int lb), .val (.int lc), .val (.int ld), .val (.int (1 : Int32)), .val (.int (1 : Int32)), .val (.int kys), .val (.int tv1), .val (.int tv2), .val (.int tv3), .val (.ref b701), .val (.ref b703), .val .null, .val (.ref b707), .val (.ref b713), .val (.long fre), .second, .val (.long fil1), .second, .val (.long gro), .second, .val (.long (cst (1024 : Int32) (kys + (1 : Int32)) (3 : Int32) (kys + (1 : Int32)) (0 : Int64))), .second, .unset, .unset, .unset, .unset, .unset, .unset] [])) t → EN t := fun t kt => by
        refine pre873 t ?_
        refine XS.aload X871.here hx rfl (hb hby at_232) rfl rfl ?_
        refine st874.trans ?_
        refine XS.aload X874.here hx rfl (hb hby at_237) rfl rfl ?_
        refine st908.trans ?_
        refine XS.lstore X908.here hx rfl (hb hby at_242) rfl (l' := #[.val (.int p1), .val (.int p2), .val (.int p3), .val (.int p4), .val (.int p5), .val (.int p6), .val (.int la), .val (.int lb), .val (.int lc), .val (.int ld), .val (.int (1 : Int32)), .val (.int (1 : Int32)), .val (.int kys), .val (.int tv1), .val (.int tv2), .val (.int tv3), .val (.ref b701), .val (.ref b703), .val .null, .val (.ref b707), .val (.ref b713), .val (.long fre), .second, .val (.long fil1), .second, .val (.long gro), .second, .val (.long (cst (1024 : Int32) (kys + (1 : Int32)) (3 : Int32) (kys + (1 : Int32)) (0 : Int64))), .second, .unset, .unset, .unset, .unset, .unset, .unset]) rfl ?_
        exact kt
      obtain ⟨cle, h_cle⟩ : ∃ z, z = (cst (1024 : Int32) (kys + (1 : Int32)) (3 : Int32) (kys + (1 : Int32)) (0 : Int64)) := ⟨_, rfl⟩
      rw [← h_cle] at pre910
      have pre911 : ∀ t, Steps p.tables e below (T908.setTop (mkF m 286 #[.val (.int p1), .val (.int p2), .val (.int p3), .val (.int p4), .val (.int p5), .val (.int p6), .val (.int la), .val (.int lb), .val (.int lc), .val (.int ld), .val (.int (1 : Int32)), .val (.int (1 : Int32)), .val (.int kys), .val (.int tv1), .val (.int tv2), .val (.int tv3), .val (.ref b701), .val (.ref b703), .val .null, .val (.ref b707), .val (.ref b713), .val (.long fre), .second, .val (.long fil1), .second, .val (.long gro), .second, .val (.long cle), .second, .val (.long (((((16 : Int64) + (la.toInt64)) + ((16 : Int64) + (lb.toInt64))) + (0 : Int64)) + ((16 : Int64) + (ld.toInt64)))), .second, .unset, .unset, .unset, .unset] [])) t → EN t := fun t kt => by
        refine pre910 t ?_
        refine X908.ldc2Long hx hown (mvT hZ (hw _ (mgE 103 rfl))) (g := (mkF m 244 #[.val (.int p1), .val (.int p2), .val (.int p3), .val (.int p4), .val (.int p5), .val (.int p6), .val (.int la), .val (.int lb), .val (.int lc), .val (.int ld), .val (.int (1 : Int32)), .val (.int (1 : Int32)), .val (.int kys), .val (.int tv1), .val (.int tv2), .val (.int tv3), .val (.ref b701), .val (.ref b703), .val .null, .val (.ref b707), .val (.ref b713), .val (.long fre), .second, .val (.long fil1), .second, .val (.long gro), .second, .val (.long cle), .second, .unset, .unset, .unset, .unset, .unset, .unset] [])) rfl (hb hby at_244) _ ?_
        refine XS.iload X908.here hx rfl (hb hby at_247) rfl ?_
        refine XS.i2l X908.here hx rfl (hb hby at_249) rfl ?_
        refine XS.ladd X908.here hx rfl (hb hby at_250) rfl ?_
        refine X908.ldc2Long hx hown (mvT hZ (hw _ (mgE 103 rfl))) (g := (mkF m 251 #[.val (.int p1), .val (.int p2), .val (.int p3), .val (.int p4), .val (.int p5), .val (.int p6), .val (.int la), .val (.int lb), .val (.int lc), .val (.int ld), .val (.int (1 : Int32)), .val (.int (1 : Int32)), .val (.int kys), .val (.int tv1), .val (.int tv2), .val (.int tv3), .val (.ref b701), .val (.ref b703), .val .null, .val (.ref b707), .val (.ref b713), .val (.long fre), .second, .val (.long fil1), .second, .val (.long gro), .second, .val (.long cle), .second, .unset, .unset, .unset, .unset, .unset, .unset] [(.long ((16 : Int64) + (la.toInt64)))])) rfl (hb hby at_251) _ ?_
        refine XS.iload X908.here hx rfl (hb hby at_254) rfl ?_
        refine XS.i2l X908.here hx rfl (hb hby at_256) rfl ?_
        refine XS.ladd X908.here hx rfl (hb hby at_257) rfl ?_
        refine XS.ladd X908.here hx rfl (hb hby at_258) rfl ?_
        refine XS.iload X908.here hx rfl (hb hby at_259) rfl ?_
        show Steps p.tables e below (T908.setTop (mkF m 261 #[.val (.int p1), .val (.int p2), .val (.int p3), .val (.int p4), .val (.int p5), .val (.int p6), .val (.int la), .val (.int lb), .val (.int lc), .val (.int ld), .val (.int (1 : Int32)), .val (.int (1 : Int32)), .val (.int kys), .val (.int tv1), .val (.int tv2), .val (.int tv3), .val (.ref b701), .val (.ref b703), .val .null, .val (.ref b707), .val (.ref b713), .val (.long fre), .second, .val (.long fil1), .second, .val (.long gro), .second, .val (.long cle), .second, .unset, .unset, .unset, .unset, .unset, .unset] [(.int (1 : Int32)), (.long (((16 : Int64) + (la.toInt64)) + ((16 : Int64) + (lb.toInt64))))])) _
        refine XS.ifNo X908.here hx rfl (hb hby at_261) rfl ((if0 _ _).trans (feq (by decide : ¬ ((1 : Int32) = (0 : Int32)))).1) ?_
        refine XS.lconst X908.here hx rfl (hb hby at_264) ?_
        refine XS.goto X908.here hx rfl (pc0 := 265) (pc' := 275) rfl (hb hby at_265) (by decide) (by decide) ?_
        refine XS.ladd X908.here hx rfl (hb hby at_275) rfl ?_
        refine X908.ldc2Long hx hown (mvT hZ (hw _ (mgE 103 rfl))) (g := (mkF m 276 #[.val (.int p1), .val (.int p2), .val (.int p3), .val (.int p4), .val (.int p5), .val (.int p6), .val (.int la), .val (.int lb), .val (.int lc), .val (.int ld), .val (.int (1 : Int32)), .val (.int (1 : Int32)), .val (.int kys), .val (.int tv1), .val (.int tv2), .val (.int tv3), .val (.ref b701), .val (.ref b703), .val .null, .val (.ref b707), .val (.ref b713), .val (.long fre), .second, .val (.long fil1), .second, .val (.long gro), .second, .val (.long cle), .second, .unset, .unset, .unset, .unset, .unset, .unset] [(.long ((((16 : Int64) + (la.toInt64)) + ((16 : Int64) + (lb.toInt64))) + (0 : Int64)))])) rfl (hb hby at_276) _ ?_
        refine XS.iload X908.here hx rfl (hb hby at_279) rfl ?_
        refine XS.i2l X908.here hx rfl (hb hby at_281) rfl ?_
        refine XS.ladd X908.here hx rfl (hb hby at_282) rfl ?_
        refine XS.ladd X908.here hx rfl (hb hby at_283) rfl ?_
        refine XS.lstore X908.here hx rfl (hb hby at_284) rfl (l' := #[.val (.int p1), .val (.int p2), .val (.int p3), .val (.int p4), .val (.int p5), .val (.int p6), .val (.int la), .val (.int lb), .val (.int lc), .val (.int ld), .val (.int (1 : Int32)), .val (.int (1 : Int32)), .val (.int kys), .val (.int tv1), .val (.int tv2), .val (.int tv3), .val (.ref b701), .val (.ref b703), .val .null, .val (.ref b707), .val (.ref b713), .val (.long fre), .second, .val (.long fil1), .second, .val (.long gro), .second, .val (.long cle), .second, .val (.long (((((16 : Int64) + (la.toInt64)) + ((16 : Int64) + (lb.toInt64))) + (0 : Int64)) + ((16 : Int64) + (ld.toInt64)))), .second, .unset, .unset, .unset, .unset]) rfl ?_
        show Steps p.tables e below (T908.setTop (mkF m 286 #[.val (.int p1), .val (.int p2), .val (.int p3), .val (.int p4), .val (.int p5), .val (.int p6), .val (.int la), .val (.int lb), .val (.int lc), .val (.int ld), .val (.int (1 : Int32)), .val (.int (1 : Int32)), .val (.int kys), .val (.int tv1), .val (.int tv2), .val (.int tv3), .val (.ref b701), .val (.ref b703), .val .null, .val (.ref b707), .val (.ref b713), .val (.long fre), .second, .val (.long fil1), .second, .val (.long gro), .second, .val (.long cle), .second, .val (.long (((((16 : Int64) + (la.toInt64)) + ((16 : Int64) + (lb.toInt64))) + (0 : Int64)) + ((16 : Int64) + (ld.toInt64)))), .second, .unset, .unset, .unset, .unset] [])) _
        exact kt
      obtain ⟨vls, h_vls⟩ : ∃ z, z = (((((16 : Int64) + (la.toInt64)) + ((16 : Int64) + (lb.toInt64))) + (0 : Int64)) + ((16 : Int64) + (ld.toInt64))) := ⟨_, rfl⟩
      rw [← h_vls] at pre911
      have hc321 : (lcmpW fre (24584 : Int64)) = (0 : Int32) := by rw [h_fre]; decide
      have hc332 : (lcmpW fil1 ((24584 : Int64) + vls)) = (0 : Int32) := by rw [lw_eq, h_fil1, own_cst1, h_vls]; simp only [own_16 la b_la, own_16 lb b_lb, own_16 lc b_lc, own_16 ld b_ld, Int64.zero_add]
      have hc343 : (lcmpW gro (((24576 : Int64) + ((4 : Int64) * ((((kys.toInt64) + (1 : Int64)) + (3 : Int64)) + ((kys.toInt64) + (1 : Int64))))) + vls)) = (0 : Int32) := by rw [lw_eq, h_gro, own_cst2 kys hkys, h_vls]; simp only [own_16 la b_la, own_16 lb b_lb, own_16 lc b_lc, own_16 ld b_ld, Int64.zero_add]
      have hc351 : (lcmpW cle ((24576 : Int64) + ((4 : Int64) * ((((kys.toInt64) + (1 : Int64)) + (3 : Int64)) + ((kys.toInt64) + (1 : Int64)))))) = (0 : Int32) := by rw [lw_eq, h_cle, own_cst2 kys hkys, Int64.add_zero]
      have pre912 : ∀ t, Steps p.tables e below (T908.setTop (mkF m 359 #[.val (.int p1), .val (.int p2), .val (.int p3), .val (.int p4), .val (.int p5), .val (.int p6), .val (.int la), .val (.int lb), .val (.int lc), .val (.int ld), .val (.int (1 : Int32)), .val (.int (1 : Int32)), .val (.int kys), .val (.int tv1), .val (.int tv2), .val (.int tv3), .val (.ref b701), .val (.ref b703), .val .null, .val (.ref b707), .val (.ref b713), .val (.long fre), .second, .val (.long fil1), .second, .val (.long gro), .second, .val (.long cle), .second, .val (.long vls), .second, .val (.long (24584 : Int64)), .second, .val (.long ((24576 : Int64) + ((4 : Int64) * ((((kys.toInt64) + (1 : Int64)) + (3 : Int64)) + ((kys.toInt64) + (1 : Int64)))))), .second] [(.int (1 : Int32))])) t → EN t := fun t kt => by
        refine pre911 t ?_
        refine X908.ldc2Long hx hown (mvT hZ (hw _ (mgE 104 rfl))) (g := (mkF m 286 #[.val (.int p1), .val (.int p2), .val (.int p3), .val (.int p4), .val (.int p5), .val (.int p6), .val (.int la), .val (.int lb), .val (.int lc), .val (.int ld), .val (.int (1 : Int32)), .val (.int (1 : Int32)), .val (.int kys), .val (.int tv1), .val (.int tv2), .val (.int tv3), .val (.ref b701), .val (.ref b703), .val .null, .val (.ref b707), .val (.ref b713), .val (.long fre), .second, .val (.long fil1), .second, .val (.long gro), .second, .val (.long cle), .second, .val (.long vls), .second, .unset, .unset, .unset, .unset] [])) rfl (hb hby at_286) _ ?_
        refine XS.lstore X908.here hx rfl (hb hby at_289) rfl (l' := #[.val (.int p1), .val (.int p2), .val (.int p3), .val (.int p4), .val (.int p5), .val (.int p6), .val (.int la), .val (.int lb), .val (.int lc), .val (.int ld), .val (.int (1 : Int32)), .val (.int (1 : Int32)), .val (.int kys), .val (.int tv1), .val (.int tv2), .val (.int tv3), .val (.ref b701), .val (.ref b703), .val .null, .val (.ref b707), .val (.ref b713), .val (.long fre), .second, .val (.long fil1), .second, .val (.long gro), .second, .val (.long cle), .second, .val (.long vls), .second, .val (.long (24584 : Int64)), .second, .unset, .unset]) rfl ?_
        refine X908.ldc2Long hx hown (mvT hZ (hw _ (mgE 105 rfl))) (g := (mkF m 291 #[.val (.int p1), .val (.int p2), .val (.int p3), .val (.int p4), .val (.int p5), .val (.int p6), .val (.int la), .val (.int lb), .val (.int lc), .val (.int ld), .val (.int (1 : Int32)), .val (.int (1 : Int32)), .val (.int kys), .val (.int tv1), .val (.int tv2), .val (.int tv3), .val (.ref b701), .val (.ref b703), .val .null, .val (.ref b707), .val (.ref b713), .val (.long fre), .second, .val (.long fil1), .second, .val (.long gro), .second, .val (.long cle), .second, .val (.long vls), .second, .val (.long (24584 : Int64)), .second, .unset, .unset] [])) rfl (hb hby at_291) _ ?_
        refine X908.ldc2Long hx hown (mvT hZ (hw _ (mgE 106 rfl))) (g := (mkF m 294 #[.val (.int p1), .val (.int p2), .val (.int p3), .val (.int p4), .val (.int p5), .val (.int p6), .val (.int la), .val (.int lb), .val (.int lc), .val (.int ld), .val (.int (1 : Int32)), .val (.int (1 : Int32)), .val (.int kys), .val (.int tv1), .val (.int tv2), .val (.int tv3), .val (.ref b701), .val (.ref b703), .val .null, .val (.ref b707), .val (.ref b713), .val (.long fre), .second, .val (.long fil1), .second, .val (.long gro), .second, .val (.long cle), .second, .val (.long vls), .second, .val (.long (24584 : Int64)), .second, .unset, .unset] [(.long (24576 : Int64))])) rfl (hb hby at_294) _ ?_
        refine XS.iload X908.here hx rfl (hb hby at_297) rfl ?_
        refine XS.i2l X908.here hx rfl (hb hby at_299) rfl ?_
        refine XS.lconst X908.here hx rfl (hb hby at_300) ?_
        refine XS.ladd X908.here hx rfl (hb hby at_301) rfl ?_
        refine X908.ldc2Long hx hown (mvT hZ (hw _ (mgE 107 rfl))) (g := (mkF m 302 #[.val (.int p1), .val (.int p2), .val (.int p3), .val (.int p4), .val (.int p5), .val (.int p6), .val (.int la), .val (.int lb), .val (.int lc), .val (.int ld), .val (.int (1 : Int32)), .val (.int (1 : Int32)), .val (.int kys), .val (.int tv1), .val (.int tv2), .val (.int tv3), .val (.ref b701), .val (.ref b703), .val .null, .val (.ref b707), .val (.ref b713), .val (.long fre), .second, .val (.long fil1), .second, .val (.long gro), .second, .val (.long cle), .second, .val (.long vls), .second, .val (.long (24584 : Int64)), .second, .unset, .unset] [(.long ((kys.toInt64) + (1 : Int64))), (.long (4 : Int64)), (.long (24576 : Int64))])) rfl (hb hby at_302) _ ?_
        refine XS.ladd X908.here hx rfl (hb hby at_305) rfl ?_
        show Steps p.tables e below (T908.setTop (mkF m 306 #[.val (.int p1), .val (.int p2), .val (.int p3), .val (.int p4), .val (.int p5), .val (.int p6), .val (.int la), .val (.int lb), .val (.int lc), .val (.int ld), .val (.int (1 : Int32)), .val (.int (1 : Int32)), .val (.int kys), .val (.int tv1), .val (.int tv2), .val (.int tv3), .val (.ref b701), .val (.ref b703), .val .null, .val (.ref b707), .val (.ref b713), .val (.long fre), .second, .val (.long fil1), .second, .val (.long gro), .second, .val (.long cle), .second, .val (.long vls), .second, .val (.long (24584 : Int64)), .second, .unset, .unset] [(.long (((kys.toInt64) + (1 : Int64)) + (3 : Int64))), (.long (4 : Int64)), (.long (24576 : Int64))])) _
        refine XS.iload X908.here hx rfl (hb hby at_306) rfl ?_
        refine XS.i2l X908.here hx rfl (hb hby at_308) rfl ?_
        refine XS.lconst X908.here hx rfl (hb hby at_309) ?_
        refine XS.ladd X908.here hx rfl (hb hby at_310) rfl ?_
        refine XS.ladd X908.here hx rfl (hb hby at_311) rfl ?_
        refine XS.lmul X908.here hx rfl (hb hby at_312) rfl ?_
        refine XS.ladd X908.here hx rfl (hb hby at_313) rfl ?_
        refine XS.lstore X908.here hx rfl (hb hby at_314) rfl (l' := #[.val (.int p1), .val (.int p2), .val (.int p3), .val (.int p4), .val (.int p5), .val (.int p6), .val (.int la), .val (.int lb), .val (.int lc), .val (.int ld), .val (.int (1 : Int32)), .val (.int (1 : Int32)), .val (.int kys), .val (.int tv1), .val (.int tv2), .val (.int tv3), .val (.ref b701), .val (.ref b703), .val .null, .val (.ref b707), .val (.ref b713), .val (.long fre), .second, .val (.long fil1), .second, .val (.long gro), .second, .val (.long cle), .second, .val (.long vls), .second, .val (.long (24584 : Int64)), .second, .val (.long ((24576 : Int64) + ((4 : Int64) * ((((kys.toInt64) + (1 : Int64)) + (3 : Int64)) + ((kys.toInt64) + (1 : Int64)))))), .second]) rfl ?_
        refine XS.lload X908.here hx rfl (hb hby at_316) rfl ?_
        refine XS.lload X908.here hx rfl (hb hby at_318) rfl ?_
        show Steps p.tables e below (T908.setTop (mkF m 320 #[.val (.int p1), .val (.int p2), .val (.int p3), .val (.int p4), .val (.int p5), .val (.int p6), .val (.int la), .val (.int lb), .val (.int lc), .val (.int ld), .val (.int (1 : Int32)), .val (.int (1 : Int32)), .val (.int kys), .val (.int tv1), .val (.int tv2), .val (.int tv3), .val (.ref b701), .val (.ref b703), .val .null, .val (.ref b707), .val (.ref b713), .val (.long fre), .second, .val (.long fil1), .second, .val (.long gro), .second, .val (.long cle), .second, .val (.long vls), .second, .val (.long (24584 : Int64)), .second, .val (.long ((24576 : Int64) + ((4 : Int64) * ((((kys.toInt64) + (1 : Int64)) + (3 : Int64)) + ((kys.toInt64) + (1 : Int64)))))), .second] [(.long (24584 : Int64)), (.long fre)])) _
        refine XS.lcmp X908.here hx rfl (hb hby at_320) rfl ?_
        refine XS.ifNo X908.here hx rfl (hb hby at_321) rfl ((if0 _ _).trans (teq hc321).2) ?_
        refine XS.lload X908.here hx rfl (hb hby at_324) rfl ?_
        refine XS.lload X908.here hx rfl (hb hby at_326) rfl ?_
        refine XS.lload X908.here hx rfl (hb hby at_328) rfl ?_
        refine XS.ladd X908.here hx rfl (hb hby at_330) rfl ?_
        refine XS.lcmp X908.here hx rfl (hb hby at_331) rfl ?_
        refine XS.ifNo X908.here hx rfl (hb hby at_332) rfl ((if0 _ _).trans (teq hc332).2) ?_
        refine XS.lload X908.here hx rfl (hb hby at_335) rfl ?_
        refine XS.lload X908.here hx rfl (hb hby at_337) rfl ?_
        show Steps p.tables e below (T908.setTop (mkF m 339 #[.val (.int p1), .val (.int p2), .val (.int p3), .val (.int p4), .val (.int p5), .val (.int p6), .val (.int la), .val (.int lb), .val (.int lc), .val (.int ld), .val (.int (1 : Int32)), .val (.int (1 : Int32)), .val (.int kys), .val (.int tv1), .val (.int tv2), .val (.int tv3), .val (.ref b701), .val (.ref b703), .val .null, .val (.ref b707), .val (.ref b713), .val (.long fre), .second, .val (.long fil1), .second, .val (.long gro), .second, .val (.long cle), .second, .val (.long vls), .second, .val (.long (24584 : Int64)), .second, .val (.long ((24576 : Int64) + ((4 : Int64) * ((((kys.toInt64) + (1 : Int64)) + (3 : Int64)) + ((kys.toInt64) + (1 : Int64)))))), .second] [(.long ((24576 : Int64) + ((4 : Int64) * ((((kys.toInt64) + (1 : Int64)) + (3 : Int64)) + ((kys.toInt64) + (1 : Int64)))))), (.long gro)])) _
        refine XS.lload X908.here hx rfl (hb hby at_339) rfl ?_
        refine XS.ladd X908.here hx rfl (hb hby at_341) rfl ?_
        refine XS.lcmp X908.here hx rfl (hb hby at_342) rfl ?_
        refine XS.ifNo X908.here hx rfl (hb hby at_343) rfl ((if0 _ _).trans (teq hc343).2) ?_
        refine XS.lload X908.here hx rfl (hb hby at_346) rfl ?_
        refine XS.lload X908.here hx rfl (hb hby at_348) rfl ?_
        refine XS.lcmp X908.here hx rfl (hb hby at_350) rfl ?_
        refine XS.ifNo X908.here hx rfl (hb hby at_351) rfl ((if0 _ _).trans (teq hc351).2) ?_
        refine XS.iconst X908.here hx rfl (hb hby at_354) ?_
        refine XS.goto X908.here hx rfl (pc0 := 355) (pc' := 359) rfl (hb hby at_355) (by decide) (by decide) ?_
        show Steps p.tables e below (T908.setTop (mkF m 359 #[.val (.int p1), .val (.int p2), .val (.int p3), .val (.int p4), .val (.int p5), .val (.int p6), .val (.int la), .val (.int lb), .val (.int lc), .val (.int ld), .val (.int (1 : Int32)), .val (.int (1 : Int32)), .val (.int kys), .val (.int tv1), .val (.int tv2), .val (.int tv3), .val (.ref b701), .val (.ref b703), .val .null, .val (.ref b707), .val (.ref b713), .val (.long fre), .second, .val (.long fil1), .second, .val (.long gro), .second, .val (.long cle), .second, .val (.long vls), .second, .val (.long (24584 : Int64)), .second, .val (.long ((24576 : Int64) + ((4 : Int64) * ((((kys.toInt64) + (1 : Int64)) + (3 : Int64)) + ((kys.toInt64) + (1 : Int64)))))), .second] [(.int (1 : Int32))])) _
        exact kt
      obtain ⟨fs, hr, hrun, hended, hW, hsame⟩ := X908.leave (v := some (.int (1 : Int32))) (fun h => by rw [Bd.returns] at h; cases h)
      refine ⟨_, _, hEN _ (pre912 _ ?_), hrun, hended, _, _, rfl, ?_, ⟨_, rfl⟩, hW, hsame.mono (by decide) (by decide)⟩
      · exact retN X908 hx (t := .boolean) Bd.returns (by simp) (hb hby at_359) hr
      · show Q0 Z p1 p2 p3 p4 p5 p6 h0 n0 _ T908.heap _
        rw [e908]
        exact ⟨rfl, N908⟩
set_option maxRecDepth 65536 in
set_option maxHeartbeats 40000000 in
theorem comes_1 {Post : Tables → Env → Array Value → State → Outcome → State → Prop} (hpost : ∀ tb e args s v u, (limb_1_1.after args s (.returned v) u = true ∧ limb_1_2.after args s (.returned v) u = true ∧ True) → FrameEnd s (.returned v) u (Jvm.fieldLocs frame_1_writes args s ++ Jvm.arrayLocs frame_1_arrays args s ++ Jvm.staticLocs frame_1_statics s) 48 12544 → Post tb e args s (.returned v) u) :
    ArmFor flags0 classFile x code maxLocals ret World_1 tables_1 room_1 Calls_1 rest_1 Pre_1 Post := by
  intro l hfl _ _ p e ha hc hk s m args below hf hA hF happ hP
  obtain ⟨hcalls, hrest, hpre⟩ := hP
  obtain ⟨-, -, -, hnamed, -, -, -, hat⟩ := (Spec.applies_iff hf).mp happ
  obtain ⟨hg, hn⟩ := and_e (Cond.before_iff.mp (show (Jvm.Cond.and given_1 narrow_1).before args s = true from hpre))
  obtain ⟨g1, g2⟩ := and_e hg
  obtain ⟨g3, g4⟩ := and_e g2
  obtain ⟨g5, g6⟩ := and_e g4
  obtain ⟨g7, g8⟩ := and_e g6
  obtain ⟨g9, g10⟩ := and_e g8
  obtain ⟨g11, g12⟩ := and_e g10
  obtain ⟨w0, w1, w2, w3, w4, w5, rfl⟩ : ∃ w0 w1 w2 w3 w4 w5 : Value, args = #[w0, w1, w2, w3, w4, w5] := by
    have hs : args.size = 6 := by simpa [Cond.value, given_1] using g1
    obtain ⟨L⟩ := args
    match L, hs with
    | [w0, w1, w2, w3, w4, w5], _ => exact ⟨w0, w1, w2, w3, w4, w5, rfl⟩
  have hw := fun d (hd : d ∈ tables_1) => atoms_spec (ws := Jvm.Cond.code x code maxLocals ret :: tables_1) hat d (List.mem_cons_of_mem _ hd)
  have hfit : Fit s := fun {y c} hc i hi => by
    obtain ⟨ha, rfl⟩ := Array.getElem?_eq_some_iff.mp hc
    have q := List.all_eq_true.mp ((Array.all_eq_true_iff_forall_mem.mp hF) _ (Array.getElem_mem ha)) i (List.mem_range.mpr hi)
    simpa [Array.getElem?_eq_getElem hi] using q
  obtain ⟨i0, ei0⟩ := is_v g3
  obtain rfl : w0 = (.int i0) := Option.some.inj ei0
  obtain ⟨i1, ei1⟩ := is_v g5
  obtain rfl : w1 = (.int i1) := Option.some.inj ei1
  obtain ⟨i2, ei2⟩ := is_v g7
  obtain rfl : w2 = (.int i2) := Option.some.inj ei2
  obtain ⟨i3, ei3⟩ := is_v g9
  obtain rfl : w3 = (.int i3) := Option.some.inj ei3
  obtain ⟨i4, ei4⟩ := is_v g11
  obtain rfl : w4 = (.int i4) := Option.some.inj ei4
  obtain ⟨i5, ei5⟩ := is_v g12
  obtain rfl : w5 = (.int i5) := Option.some.inj ei5
  obtain ⟨n, o, h1, h2, h3, _, L, rfl, ⟨rfl, N⟩, hq⟩ := rm0 l s _ hw tables_1 i0 i1 i2 i3 i4 i5 s.heap s.heap.size (Nat.le_refl _)  p e ha hc hk s m _ below hf ((Spec.applies_iff_loose hf).mp happ).1 ⟨rfl, State.Warmed39.refl s, rfl⟩ trivial
  refine ⟨n, _, h1, h2, h3, hpost _ _ _ _ _ _ ⟨Cond.after_iff.mpr rfl, Cond.after_iff.mpr (eq_i res_at (Term.int_eval (1)) rfl), trivial⟩ ⟨hq.1, hq.2.1, (hq.2.2.sift fun y hy => Or.inr (N y hy)).mono (by decide) (by decide)⟩⟩
theorem main_1_1 : Claimed_1_1 := comes_1 fun _ _ _ _ _ _ h hF => ⟨h.1, hF⟩
theorem main_1_2 : Claimed_1_2 := comes_1 fun _ _ _ _ _ _ h hF => ⟨h.2.1, hF⟩
end Jvm.Pilot.@@N@@
namespace Jvm.Pilot.@@N@@
open Jvm Jvm.ClassFile Sem Op Lib Jvm.Free Jvm.Stand Jvm.Pilot.@@N@@.Jvm.D
/-! MADE BY PROGRAM (witnessworld.py) out of the Statement's table words and the real class files: 14 classes; the members and pool entries that the words name. The judged class is class 1, her method 1. -/
namespace start1
open Jvm.ClassFile
def u (s : String) : CpInfo := .utf8 (stringToUtf16 s)
/-- a pool by its gaps: so many unusable entries, then the entry; so many at the end -/
def gap : Nat → List CpInfo → List CpInfo
  | 0, r => r
  | n + 1, r => .unusable :: gap n r
def poolList (es : List (Nat × CpInfo)) (last : Nat) : List CpInfo := es.foldr (fun e r => gap e.1 (e.2 :: r)) (gap last [])
def pool (es : List (Nat × CpInfo)) (last : Nat) : Array CpInfo := ⟨poolList es last⟩
def fileOf (pool : Array CpInfo) (this : Nat) (attrs : Array Attribute := #[]) (ms : Array MethodInfo := #[]) (fl : Nat := 33) (sup : Nat := 0) (ifs : Array Nat := #[]) (fds : Array FieldInfo := #[]) : ClassFile where
  minorVersion := 0
  majorVersion := 65
  constantPool := pool
  accessFlags := fl
  thisClass := this
  superClass := sup
  interfaces := ifs
  fields := fds
  methods := ms
  attributes := attrs
def plain (name : String) (sup : Option ClassId) : Class where
  name := name
  kind := .ordinary
  loader := none
  accessFlags := 33
  super := sup
  interfaces := #[]
  cf := none
  fields := #[]
  methods := #[]
  instanceTypes := #[]
  staticTypes := #[]
  resolved := #[]
  callSites := []
  init := .initialized
  statics := none
  mirror := none

def pool0 : Array CpInfo := pool [(5, u "<init>"), (0, u "()V"), (1, .class_ 10), (1, u "java/lang/Object")] 113

def k0c0 : Code := { maxStack := 0, maxLocals := 1, code := object_method_1_code, exceptionTable := #[], attributes := #[] }
def k0m0 : Method := { name := "<init>", desc := "()V", sig := { parameters := [], returnType := none }, accessFlags := 1, code := some k0c0 }
/-- java/lang/Object -/
def k0 : Class := { plain "java/lang/Object" none with
  accessFlags := 33
  interfaces := #[]
  cf := some (fileOf pool0 8 #[] #[{ accessFlags := 1, nameIndex := 5, descriptorIndex := 6, attributes := #[] }] 33 0 #[] #[])
  fields := #[]
  methods := #[k0m0]
  instanceTypes := #[]
  staticTypes := #[]
  resolved := Array.replicate 124 none
  statics := none }

def pool1 : Array CpInfo := pool [(2, .class_ 4), (0, .nameAndType 5 6), (0, u "java/lang/Object"), (0, u "<init>"), (0, u "()V"), (0, .integer 2147483647), (0, .class_ 9), (0, u "com/example/accrete/accrete/engine/Sendings"), (0, .methodref 8 3), (0, .methodref 8 12), (0, .nameAndType 13 14), (0, u "cost"), (0, u "()J"), (0, .methodref 8 16), (0, .nameAndType 17 18), (0, u "sendInPlace"), (0, u "(I[B[BII)V"), (0, .methodref 8 20), (0, .nameAndType 21 22), (0, u "putInSlot"), (0, u "(II[BI)V"), (0, .methodref 8 24), (0, .nameAndType 25 26), (0, u "send"), (0, u "(I[BII)V"), (0, .methodref 8 28), (0, .nameAndType 29 30), (0, u "takeBack"), (0, u "(I[BI)V"), (0, .methodref 8 32), (0, .nameAndType 33 34), (0, u "groupByKey"), (0, u "(I)V"), (0, .methodref 8 36), (0, .nameAndType 37 6), (0, u "clear"), (0, .long 16), (1, .long 24584), (1, .long 24576), (1, .long 4), (1, .long 3), (1, .class_ 49), (0, u "com/example/accrete/accrete/engine/SendingsCostPinLaw"), (2, u "law"), (0, u "(IIIIII)Z")] 5

def k1m0 : Method := { name := "<init>", desc := "()V", sig := { parameters := [], returnType := none }, accessFlags := 1, code := none }
def k1c1 : Code := { maxStack := 10, maxLocals := 35, code := code, exceptionTable := #[], attributes := #[] }
def k1m1 : Method := { name := "law", desc := "(IIIIII)Z", sig := { parameters := [.int, .int, .int, .int, .int, .int], returnType := some .boolean }, accessFlags := 9, code := some k1c1 }
/-- com/example/accrete/accrete/engine/SendingsCostPinLaw -/
def k1 : Class := { plain "com/example/accrete/accrete/engine/SendingsCostPinLaw" (some 0) with
  accessFlags := 49
  interfaces := #[]
  cf := some (fileOf pool1 48 #[] #[{ accessFlags := 1, nameIndex := 5, descriptorIndex := 6, attributes := #[] }, { accessFlags := 9, nameIndex := 52, descriptorIndex := 53, attributes := #[] }] 49 2 #[] #[])
  fields := #[]
  methods := #[k1m0, k1m1]
  instanceTypes := #[]
  staticTypes := #[]
  resolved := Array.replicate 59 none
  statics := none }

def pool2 : Array CpInfo := pool [(3, .methodref 4 5), (0, .class_ 6), (0, .nameAndType 7 8), (0, u "java/lang/Object"), (0, u "<init>"), (0, u "()V"), (0, .fieldref 10 11), (0, .class_ 12), (0, .nameAndType 13 14), (0, u "com/example/accrete/accrete/engine/Sendings"), (0, u "target"), (0, u "[I"), (0, .fieldref 10 16), (0, .nameAndType 17 14), (0, u "slot"), (0, .class_ 19), (0, u "[B"), (0, .fieldref 10 21), (0, .nameAndType 22 23), (0, u "value"), (0, u "[[B"), (0, .fieldref 10 25), (0, .nameAndType 26 23), (0, u "taken"), (0, .fieldref 10 28), (0, .nameAndType 29 14), (0, u "sender"), (0, .fieldref 10 31), (0, .nameAndType 32 14), (0, u "position"), (0, .fieldref 10 34), (0, .nameAndType 35 14), (0, u "starts"), (0, .fieldref 10 37), (0, .nameAndType 38 14), (0, u "grouped"), (0, .fieldref 10 40), (0, .nameAndType 41 14), (0, u "next"), (0, .methodref 10 43), (0, .nameAndType 44 45), (0, u "add"), (0, u "(II[B[BII)V"), (0, .fieldref 10 47), (0, .nameAndType 48 49), (0, u "size"), (0, u "I"), (0, .methodref 51 52), (0, .class_ 53), (0, .nameAndType 54 55), (0, u "com/example/accrete/accrete/io/KeyTable"), (0, u "grownCapacity"), (0, u "(II)I"), (1, .class_ 59), (1, u "java/util/Arrays"), (6, .fieldref 10 67), (0, .nameAndType 68 69), (0, u "valuesCost"), (0, u "J"), (0, .methodref 10 71), (0, .nameAndType 72 73), (0, u "cost"), (0, u "([B)J"), (32, u "()J"), (16, .class_ 124), (0, u "com/example/accrete/accrete/engine/Sendings$Entry"), (3, .long 24), (1, .long 4), (1, .methodref 57 133), (0, .nameAndType 134 135), (0, u "fill"), (0, u "([IIII)V"), (0, .methodref 137 138), (0, .class_ 139), (0, .nameAndType 140 141), (0, u "java/lang/System"), (0, u "arraycopy"), (0, u "(Ljava/lang/Object;ILjava/lang/Object;II)V"), (0, .methodref 57 143), (0, .nameAndType 134 144), (0, u "([Ljava/lang/Object;IILjava/lang/Object;)V"), (0, u "TAKES_BACK"), (2, u "SENDS"), (1, u "MATCHED"), (1, u "HEAD"), (1, u "ARRAY_HEADER"), (3, u "putInSlot"), (0, u "(II[BI)V"), (0, u "takeBack"), (0, u "(I[BI)V"), (0, u "send"), (0, u "(I[BII)V"), (0, u "sendInPlace"), (0, u "(I[B[BII)V"), (6, u "groupByKey"), (0, u "(I)V"), (3, u "clear")] 5

def k2c0 : Code := { maxStack := 2, maxLocals := 1, code := prog_52_method_1_code, exceptionTable := #[], attributes := #[] }
def k2m0 : Method := { name := "<init>", desc := "()V", sig := { parameters := [], returnType := none }, accessFlags := 0, code := some k2c0 }
def k2c1 : Code := { maxStack := 7, maxLocals := 5, code := prog_52_method_2_code, exceptionTable := #[], attributes := #[] }
def k2m1 : Method := { name := "putInSlot", desc := "(II[BI)V", sig := { parameters := [.int, .int, (.array .byte), .int], returnType := none }, accessFlags := 0, code := some k2c1 }
def k2c2 : Code := { maxStack := 7, maxLocals := 4, code := prog_52_method_3_code, exceptionTable := #[], attributes := #[] }
def k2m2 : Method := { name := "takeBack", desc := "(I[BI)V", sig := { parameters := [.int, (.array .byte), .int], returnType := none }, accessFlags := 0, code := some k2c2 }
def k2c3 : Code := { maxStack := 7, maxLocals := 5, code := prog_52_method_4_code, exceptionTable := #[], attributes := #[] }
def k2m3 : Method := { name := "send", desc := "(I[BII)V", sig := { parameters := [.int, (.array .byte), .int, .int], returnType := none }, accessFlags := 0, code := some k2c3 }
def k2c4 : Code := { maxStack := 7, maxLocals := 6, code := prog_52_method_5_code, exceptionTable := #[], attributes := #[] }
def k2m4 : Method := { name := "sendInPlace", desc := "(I[B[BII)V", sig := { parameters := [.int, (.array .byte), (.array .byte), .int, .int], returnType := none }, accessFlags := 0, code := some k2c4 }
def k2c5 : Code := { maxStack := 7, maxLocals := 8, code := prog_52_method_6_code, exceptionTable := #[], attributes := #[] }
def k2m5 : Method := { name := "add", desc := "(II[B[BII)V", sig := { parameters := [.int, .int, (.array .byte), (.array .byte), .int, .int], returnType := none }, accessFlags := 2, code := some k2c5 }
def k2c6 : Code := { maxStack := 2, maxLocals := 1, code := prog_52_method_7_code, exceptionTable := #[], attributes := #[] }
def k2m6 : Method := { name := "cost", desc := "([B)J", sig := { parameters := [(.array .byte)], returnType := some .long }, accessFlags := 10, code := some k2c6 }
def k2c7 : Code := { maxStack := 6, maxLocals := 3, code := prog_52_method_11_code, exceptionTable := #[], attributes := #[] }
def k2m7 : Method := { name := "cost", desc := "()J", sig := { parameters := [], returnType := some .long }, accessFlags := 0, code := some k2c7 }
def k2c8 : Code := { maxStack := 6, maxLocals := 3, code := prog_52_method_12_code, exceptionTable := #[], attributes := #[] }
def k2m8 : Method := { name := "groupByKey", desc := "(I)V", sig := { parameters := [.int], returnType := none }, accessFlags := 0, code := some k2c8 }
def k2c9 : Code := { maxStack := 4, maxLocals := 1, code := prog_52_method_15_code, exceptionTable := #[], attributes := #[] }
def k2m9 : Method := { name := "clear", desc := "()V", sig := { parameters := [], returnType := none }, accessFlags := 0, code := some k2c9 }
/-- com/example/accrete/accrete/engine/Sendings -/
def k2 : Class := { plain "com/example/accrete/accrete/engine/Sendings" (some 0) with
  accessFlags := 48
  interfaces := #[]
  cf := some (fileOf pool2 10 #[.nestMembers #[123]] #[{ accessFlags := 0, nameIndex := 7, descriptorIndex := 8, attributes := #[] }, { accessFlags := 0, nameIndex := 158, descriptorIndex := 159, attributes := #[] }, { accessFlags := 0, nameIndex := 160, descriptorIndex := 161, attributes := #[] }, { accessFlags := 0, nameIndex := 162, descriptorIndex := 163, attributes := #[] }, { accessFlags := 0, nameIndex := 164, descriptorIndex := 165, attributes := #[] }, { accessFlags := 2, nameIndex := 44, descriptorIndex := 45, attributes := #[] }, { accessFlags := 10, nameIndex := 72, descriptorIndex := 73, attributes := #[] }, { accessFlags := 0, nameIndex := 72, descriptorIndex := 106, attributes := #[] }, { accessFlags := 0, nameIndex := 172, descriptorIndex := 173, attributes := #[] }, { accessFlags := 0, nameIndex := 177, descriptorIndex := 8, attributes := #[] }] 48 4 #[] #[{ accessFlags := 24, nameIndex := 145, descriptorIndex := 49, attributes := #[] }, { accessFlags := 24, nameIndex := 148, descriptorIndex := 49, attributes := #[] }, { accessFlags := 24, nameIndex := 150, descriptorIndex := 49, attributes := #[] }, { accessFlags := 26, nameIndex := 152, descriptorIndex := 49, attributes := #[] }, { accessFlags := 26, nameIndex := 154, descriptorIndex := 49, attributes := #[] }, { accessFlags := 0, nameIndex := 48, descriptorIndex := 49, attributes := #[] }, { accessFlags := 0, nameIndex := 13, descriptorIndex := 14, attributes := #[] }, { accessFlags := 0, nameIndex := 17, descriptorIndex := 14, attributes := #[] }, { accessFlags := 0, nameIndex := 22, descriptorIndex := 23, attributes := #[] }, { accessFlags := 0, nameIndex := 26, descriptorIndex := 23, attributes := #[] }, { accessFlags := 0, nameIndex := 29, descriptorIndex := 14, attributes := #[] }, { accessFlags := 0, nameIndex := 32, descriptorIndex := 14, attributes := #[] }, { accessFlags := 2, nameIndex := 35, descriptorIndex := 14, attributes := #[] }, { accessFlags := 2, nameIndex := 38, descriptorIndex := 14, attributes := #[] }, { accessFlags := 2, nameIndex := 41, descriptorIndex := 14, attributes := #[] }, { accessFlags := 2, nameIndex := 68, descriptorIndex := 69, attributes := #[] }])
  fields := #[{ name := "TAKES_BACK", type := .int, accessFlags := 24, slot := 0, constantValue := 0 }, { name := "SENDS", type := .int, accessFlags := 24, slot := 1, constantValue := 0 }, { name := "MATCHED", type := .int, accessFlags := 24, slot := 2, constantValue := 0 }, { name := "HEAD", type := .int, accessFlags := 26, slot := 3, constantValue := 0 }, { name := "ARRAY_HEADER", type := .int, accessFlags := 26, slot := 4, constantValue := 0 }, { name := "size", type := .int, accessFlags := 0, slot := 0, constantValue := 0 }, { name := "target", type := (.array .int), accessFlags := 0, slot := 1, constantValue := 0 }, { name := "slot", type := (.array .int), accessFlags := 0, slot := 2, constantValue := 0 }, { name := "value", type := (.array (.array .byte)), accessFlags := 0, slot := 3, constantValue := 0 }, { name := "taken", type := (.array (.array .byte)), accessFlags := 0, slot := 4, constantValue := 0 }, { name := "sender", type := (.array .int), accessFlags := 0, slot := 5, constantValue := 0 }, { name := "position", type := (.array .int), accessFlags := 0, slot := 6, constantValue := 0 }, { name := "starts", type := (.array .int), accessFlags := 2, slot := 7, constantValue := 0 }, { name := "grouped", type := (.array .int), accessFlags := 2, slot := 8, constantValue := 0 }, { name := "next", type := (.array .int), accessFlags := 2, slot := 9, constantValue := 0 }, { name := "valuesCost", type := .long, accessFlags := 2, slot := 10, constantValue := 0 }]
  methods := #[k2m0, k2m1, k2m2, k2m3, k2m4, k2m5, k2m6, k2m7, k2m8, k2m9]
  instanceTypes := #[.int, (.array .int), (.array .int), (.array (.array .byte)), (.array (.array .byte)), (.array .int), (.array .int), (.array .int), (.array .int), (.array .int), .long]
  staticTypes := #[.int, .int, .int, .int, .int]
  resolved := Array.replicate 183 none
  statics := none }

def pool3 : Array CpInfo := pool [(4, .class_ 6), (1, u "java/lang/Object"), (0, u "<init>"), (0, u "()V"), (1, .class_ 12), (1, u "com/example/accrete/accrete/io/KeyTable"), (0, u "arena"), (0, u "[B"), (2, u "keys"), (0, u "[I"), (2, u "slots"), (10, u "size"), (0, u "I"), (2, u "grownCapacity"), (0, u "(II)I"), (8, u "arenaUsed"), (40, .class_ 88), (0, u "com/example/accrete/accrete/io/KeyTable$1"), (3, .long 2147483639), (8, .long 2), (1, .methodref 104 105), (0, .class_ 106), (0, .nameAndType 107 108), (0, u "java/lang/Math"), (0, u "max"), (0, u "(JJ)J"), (0, .methodref 104 110), (0, .nameAndType 111 108), (0, u "min"), (25, u "STRIDE"), (2, u "HASH"), (1, u "START"), (1, u "LENGTH"), (1, u "MAX_ARRAY"), (1, u "MOST_HELD"), (0, u "J")] 26

def k3m0 : Method := { name := "<init>", desc := "()V", sig := { parameters := [], returnType := none }, accessFlags := 1, code := none }
def k3c1 : Code := { maxStack := 8, maxLocals := 4, code := prog_66_method_12_code, exceptionTable := #[], attributes := #[] }
def k3m1 : Method := { name := "grownCapacity", desc := "(II)I", sig := { parameters := [.int, .int], returnType := some .int }, accessFlags := 9, code := some k3c1 }
/-- com/example/accrete/accrete/io/KeyTable -/
def k3 : Class := { plain "com/example/accrete/accrete/io/KeyTable" (some 0) with
  accessFlags := 49
  interfaces := #[]
  cf := some (fileOf pool3 10 #[.nestMembers #[87]] #[{ accessFlags := 1, nameIndex := 7, descriptorIndex := 8, attributes := #[] }, { accessFlags := 9, nameIndex := 36, descriptorIndex := 37, attributes := #[] }] 49 4 #[] #[{ accessFlags := 26, nameIndex := 137, descriptorIndex := 33, attributes := #[] }, { accessFlags := 26, nameIndex := 140, descriptorIndex := 33, attributes := #[] }, { accessFlags := 26, nameIndex := 142, descriptorIndex := 33, attributes := #[] }, { accessFlags := 26, nameIndex := 144, descriptorIndex := 33, attributes := #[] }, { accessFlags := 26, nameIndex := 146, descriptorIndex := 33, attributes := #[] }, { accessFlags := 25, nameIndex := 148, descriptorIndex := 149, attributes := #[] }, { accessFlags := 2, nameIndex := 13, descriptorIndex := 14, attributes := #[] }, { accessFlags := 2, nameIndex := 46, descriptorIndex := 33, attributes := #[] }, { accessFlags := 2, nameIndex := 17, descriptorIndex := 18, attributes := #[] }, { accessFlags := 2, nameIndex := 32, descriptorIndex := 33, attributes := #[] }, { accessFlags := 2, nameIndex := 21, descriptorIndex := 18, attributes := #[] }])
  fields := #[{ name := "STRIDE", type := .int, accessFlags := 26, slot := 0, constantValue := 0 }, { name := "HASH", type := .int, accessFlags := 26, slot := 1, constantValue := 0 }, { name := "START", type := .int, accessFlags := 26, slot := 2, constantValue := 0 }, { name := "LENGTH", type := .int, accessFlags := 26, slot := 3, constantValue := 0 }, { name := "MAX_ARRAY", type := .int, accessFlags := 26, slot := 4, constantValue := 0 }, { name := "MOST_HELD", type := .long, accessFlags := 25, slot := 5, constantValue := 0 }, { name := "arena", type := (.array .byte), accessFlags := 2, slot := 0, constantValue := 0 }, { name := "arenaUsed", type := .int, accessFlags := 2, slot := 1, constantValue := 0 }, { name := "keys", type := (.array .int), accessFlags := 2, slot := 2, constantValue := 0 }, { name := "size", type := .int, accessFlags := 2, slot := 3, constantValue := 0 }, { name := "slots", type := (.array .int), accessFlags := 2, slot := 4, constantValue := 0 }]
  methods := #[k3m0, k3m1]
  instanceTypes := #[(.array .byte), .int, (.array .int), .int, (.array .int)]
  staticTypes := #[.int, .int, .int, .int, .int, .long]
  resolved := Array.replicate 176 none
  statics := none }

def pool4 : Array CpInfo := pool [(1, .class_ 2), (0, u "java/lang/Math"), (1, .class_ 6), (1, u "java/lang/Object"), (0, u "<init>"), (0, u "()V"), (89, .class_ 100), (1, u "java/lang/Math$RandomNumberGeneratorHolder"), (20, u "(JJ)J"), (50, u "negativeZeroFloatBits"), (0, u "J"), (2, u "negativeZeroDoubleBits"), (21, u "max"), (2, u "min"), (43, u "$assertionsDisabled"), (0, u "Z"), (91, u "twoToTheDoubleScaleDown"), (0, u "D"), (4, u "twoToTheDoubleScaleUp"), (9, u "E"), (3, u "PI"), (2, u "TAU"), (2, u "DEGREES_TO_RADIANS"), (0, u "RADIANS_TO_DEGREES")] 94

def k4m0 : Method := { name := "<init>", desc := "()V", sig := { parameters := [], returnType := none }, accessFlags := 2, code := none }
def k4c1 : Code := { maxStack := 4, maxLocals := 4, code := jdk_29_method_66_code, exceptionTable := #[], attributes := #[] }
def k4m1 : Method := { name := "max", desc := "(JJ)J", sig := { parameters := [.long, .long], returnType := some .long }, accessFlags := 9, code := some k4c1 }
def k4c2 : Code := { maxStack := 4, maxLocals := 4, code := jdk_29_method_70_code, exceptionTable := #[], attributes := #[] }
def k4m2 : Method := { name := "min", desc := "(JJ)J", sig := { parameters := [.long, .long], returnType := some .long }, accessFlags := 9, code := some k4c2 }
/-- java/lang/Math -/
def k4 : Class := { plain "java/lang/Math" (some 0) with
  accessFlags := 49
  interfaces := #[]
  cf := some (fileOf pool4 1 #[.nestMembers #[98]] #[{ accessFlags := 2, nameIndex := 7, descriptorIndex := 8, attributes := #[] }, { accessFlags := 9, nameIndex := 198, descriptorIndex := 121, attributes := #[] }, { accessFlags := 9, nameIndex := 201, descriptorIndex := 121, attributes := #[] }] 49 4 #[] #[{ accessFlags := 25, nameIndex := 354, descriptorIndex := 339, attributes := #[] }, { accessFlags := 25, nameIndex := 358, descriptorIndex := 339, attributes := #[] }, { accessFlags := 25, nameIndex := 361, descriptorIndex := 339, attributes := #[] }, { accessFlags := 26, nameIndex := 364, descriptorIndex := 339, attributes := #[] }, { accessFlags := 26, nameIndex := 365, descriptorIndex := 339, attributes := #[] }, { accessFlags := 26, nameIndex := 172, descriptorIndex := 173, attributes := #[] }, { accessFlags := 26, nameIndex := 176, descriptorIndex := 173, attributes := #[] }, { accessFlags := 8, nameIndex := 344, descriptorIndex := 339, attributes := #[] }, { accessFlags := 8, nameIndex := 338, descriptorIndex := 339, attributes := #[] }, { accessFlags := 4120, nameIndex := 245, descriptorIndex := 246, attributes := #[] }])
  fields := #[{ name := "E", type := .double, accessFlags := 25, slot := 0, constantValue := 0 }, { name := "PI", type := .double, accessFlags := 25, slot := 1, constantValue := 0 }, { name := "TAU", type := .double, accessFlags := 25, slot := 2, constantValue := 0 }, { name := "DEGREES_TO_RADIANS", type := .double, accessFlags := 26, slot := 3, constantValue := 0 }, { name := "RADIANS_TO_DEGREES", type := .double, accessFlags := 26, slot := 4, constantValue := 0 }, { name := "negativeZeroFloatBits", type := .long, accessFlags := 26, slot := 5, constantValue := 0 }, { name := "negativeZeroDoubleBits", type := .long, accessFlags := 26, slot := 6, constantValue := 0 }, { name := "twoToTheDoubleScaleUp", type := .double, accessFlags := 8, slot := 7, constantValue := 0 }, { name := "twoToTheDoubleScaleDown", type := .double, accessFlags := 8, slot := 8, constantValue := 0 }, { name := "$assertionsDisabled", type := .boolean, accessFlags := 4120, slot := 9, constantValue := 0 }]
  methods := #[k4m0, k4m1, k4m2]
  instanceTypes := #[]
  staticTypes := #[.double, .double, .double, .double, .double, .long, .long, .double, .double, .boolean]
  resolved := Array.replicate 460 none
  statics := none }

def pool5 : Array CpInfo := pool [(2, .class_ 4), (1, u "java/lang/Object"), (0, u "<init>"), (0, u "()V"), (5, u "([IIII)V"), (0, .methodref 14 15), (0, .class_ 16), (0, .nameAndType 17 18), (0, u "java/util/Arrays"), (0, u "rangeCheck"), (0, u "(III)V"), (55, .class_ 76), (1, u "java/util/Arrays$NaturalOrder"), (36, .class_ 115), (1, u "java/util/Arrays$LegacyMergeSort"), (1, u "Z"), (257, .class_ 376), (0, u "java/util/Arrays$ArrayList"), (68, u "$assertionsDisabled"), (269, u "MIN_ARRAY_SORT_GRAN"), (0, u "I"), (2, u "INSERTIONSORT_THRESHOLD"), (120, u "fill"), (18, u "([Ljava/lang/Object;IILjava/lang/Object;)V"), (115, .class_ 976), (0, u "java/util/Arrays$ArrayItr")] 52

def k5m0 : Method := { name := "<init>", desc := "()V", sig := { parameters := [], returnType := none }, accessFlags := 2, code := none }
def k5c1 : Code := { maxStack := 4, maxLocals := 3, code := jdk_65_method_30_code, exceptionTable := #[], attributes := #[] }
def k5m1 : Method := { name := "rangeCheck", desc := "(III)V", sig := { parameters := [.int, .int, .int], returnType := none }, accessFlags := 8, code := some k5c1 }
def k5c2 : Code := { maxStack := 3, maxLocals := 5, code := jdk_65_method_104_code, exceptionTable := #[], attributes := #[] }
def k5m2 : Method := { name := "fill", desc := "([IIII)V", sig := { parameters := [(.array .int), .int, .int, .int], returnType := none }, accessFlags := 9, code := some k5c2 }
def k5c3 : Code := { maxStack := 3, maxLocals := 5, code := jdk_65_method_118_code, exceptionTable := #[], attributes := #[] }
def k5m3 : Method := { name := "fill", desc := "([Ljava/lang/Object;IILjava/lang/Object;)V", sig := { parameters := [(.array (.object "java/lang/Object")), .int, .int, (.object "java/lang/Object")], returnType := none }, accessFlags := 9, code := some k5c3 }
/-- java/util/Arrays -/
def k5 : Class := { plain "java/util/Arrays" (some 0) with
  accessFlags := 49
  interfaces := #[]
  cf := some (fileOf pool5 14 #[.nestMembers #[975, 375, 113, 74]] #[{ accessFlags := 2, nameIndex := 5, descriptorIndex := 6, attributes := #[] }, { accessFlags := 8, nameIndex := 17, descriptorIndex := 18, attributes := #[] }, { accessFlags := 9, nameIndex := 840, descriptorIndex := 12, attributes := #[] }, { accessFlags := 9, nameIndex := 840, descriptorIndex := 859, attributes := #[] }] 49 2 #[] #[{ accessFlags := 26, nameIndex := 715, descriptorIndex := 716, attributes := #[] }, { accessFlags := 26, nameIndex := 719, descriptorIndex := 716, attributes := #[] }, { accessFlags := 4120, nameIndex := 445, descriptorIndex := 117, attributes := #[] }])
  fields := #[{ name := "MIN_ARRAY_SORT_GRAN", type := .int, accessFlags := 26, slot := 0, constantValue := 0 }, { name := "INSERTIONSORT_THRESHOLD", type := .int, accessFlags := 26, slot := 1, constantValue := 0 }, { name := "$assertionsDisabled", type := .boolean, accessFlags := 4120, slot := 2, constantValue := 0 }]
  methods := #[k5m0, k5m1, k5m2, k5m3]
  instanceTypes := #[]
  staticTypes := #[.int, .int, .boolean]
  resolved := Array.replicate 1029 none
  statics := none }

def pool6 : Array CpInfo := pool [(2, .class_ 4), (1, u "java/lang/Object"), (0, u "<init>"), (0, u "()V"), (1, .class_ 10), (1, u "java/lang/System"), (0, u "allowSecurityManager"), (0, u "I"), (16, u "cons"), (0, u "Ljava/io/Console;"), (77, .class_ 110), (1, u "java/lang/System$CallersHolder"), (43, u "initialErrStream"), (0, u "Ljava/io/PrintStream;"), (19, u "security"), (0, u "Ljava/lang/SecurityManager;"), (31, .class_ 209), (0, u "java/lang/System$1"), (7, u "props"), (0, u "Ljava/util/Properties;"), (2, u "lineSeparator"), (0, u "Ljava/lang/String;"), (96, .class_ 321), (1, u "java/lang/System$LoggerFinder"), (5, .class_ 328), (0, u "java/lang/System$Logger"), (67, u "err"), (2, u "out"), (91, u "notSupportedJnuEncoding"), (15, u "in"), (17, u "initialIn"), (0, u "Ljava/io/InputStream;"), (35, u "bootLayer"), (0, u "Ljava/lang/ModuleLayer;"), (99, .class_ 664), (0, u "java/lang/System$2"), (9, u "NEVER"), (2, u "MAYBE"), (49, u "arraycopy"), (0, u "(Ljava/lang/Object;ILjava/lang/Object;II)V"), (72, .class_ 802), (0, u "java/lang/System$Logger$Level")] 31

def k6m0 : Method := { name := "<init>", desc := "()V", sig := { parameters := [], returnType := none }, accessFlags := 2, code := none }
def k6m1 : Method := { name := "arraycopy", desc := "(Ljava/lang/Object;ILjava/lang/Object;II)V", sig := { parameters := [(.object "java/lang/Object"), .int, (.object "java/lang/Object"), .int, .int], returnType := none }, accessFlags := 265, code := none }
/-- java/lang/System -/
def k6 : Class := { plain "java/lang/System" (some 0) with
  accessFlags := 49
  interfaces := #[]
  cf := some (fileOf pool6 8 #[.nestMembers #[319, 327, 801, 108, 663, 208]] #[{ accessFlags := 2, nameIndex := 5, descriptorIndex := 6, attributes := #[] }, { accessFlags := 265, nameIndex := 727, descriptorIndex := 728, attributes := #[] }] 49 2 #[] #[{ accessFlags := 25, nameIndex := 507, descriptorIndex := 526, attributes := #[] }, { accessFlags := 25, nameIndex := 399, descriptorIndex := 155, attributes := #[] }, { accessFlags := 25, nameIndex := 396, descriptorIndex := 155, attributes := #[] }, { accessFlags := 10, nameIndex := 525, descriptorIndex := 526, attributes := #[] }, { accessFlags := 26, nameIndex := 674, descriptorIndex := 12, attributes := #[] }, { accessFlags := 26, nameIndex := 677, descriptorIndex := 12, attributes := #[] }, { accessFlags := 10, nameIndex := 11, descriptorIndex := 12, attributes := #[] }, { accessFlags := 74, nameIndex := 175, descriptorIndex := 176, attributes := #[] }, { accessFlags := 10, nameIndex := 491, descriptorIndex := 222, attributes := #[] }, { accessFlags := 74, nameIndex := 29, descriptorIndex := 30, attributes := #[] }, { accessFlags := 74, nameIndex := 154, descriptorIndex := 155, attributes := #[] }, { accessFlags := 10, nameIndex := 217, descriptorIndex := 218, attributes := #[] }, { accessFlags := 10, nameIndex := 221, descriptorIndex := 222, attributes := #[] }, { accessFlags := 8, nameIndex := 562, descriptorIndex := 563, attributes := #[] }])
  fields := #[{ name := "in", type := (.object "java/io/InputStream"), accessFlags := 25, slot := 0, constantValue := 0 }, { name := "out", type := (.object "java/io/PrintStream"), accessFlags := 25, slot := 1, constantValue := 0 }, { name := "err", type := (.object "java/io/PrintStream"), accessFlags := 25, slot := 2, constantValue := 0 }, { name := "initialIn", type := (.object "java/io/InputStream"), accessFlags := 10, slot := 3, constantValue := 0 }, { name := "NEVER", type := .int, accessFlags := 26, slot := 4, constantValue := 0 }, { name := "MAYBE", type := .int, accessFlags := 26, slot := 5, constantValue := 0 }, { name := "allowSecurityManager", type := .int, accessFlags := 10, slot := 6, constantValue := 0 }, { name := "security", type := (.object "java/lang/SecurityManager"), accessFlags := 74, slot := 7, constantValue := 0 }, { name := "notSupportedJnuEncoding", type := (.object "java/lang/String"), accessFlags := 10, slot := 8, constantValue := 0 }, { name := "cons", type := (.object "java/io/Console"), accessFlags := 74, slot := 9, constantValue := 0 }, { name := "initialErrStream", type := (.object "java/io/PrintStream"), accessFlags := 74, slot := 10, constantValue := 0 }, { name := "props", type := (.object "java/util/Properties"), accessFlags := 10, slot := 11, constantValue := 0 }, { name := "lineSeparator", type := (.object "java/lang/String"), accessFlags := 10, slot := 12, constantValue := 0 }, { name := "bootLayer", type := (.object "java/lang/ModuleLayer"), accessFlags := 8, slot := 13, constantValue := 0 }]
  methods := #[k6m0, k6m1]
  instanceTypes := #[]
  staticTypes := #[(.object "java/io/InputStream"), (.object "java/io/PrintStream"), (.object "java/io/PrintStream"), (.object "java/io/InputStream"), .int, .int, .int, (.object "java/lang/SecurityManager"), (.object "java/lang/String"), (.object "java/io/Console"), (.object "java/io/PrintStream"), (.object "java/util/Properties"), (.object "java/lang/String"), (.object "java/lang/ModuleLayer")]
  resolved := Array.replicate 834 none
  statics := none }

def pool7 : Array CpInfo := pool [(1, u "java/lang/Cloneable"), (0, .class_ 1), (0, u "java/lang/Object"), (0, .class_ 3)] 3

/-- java/lang/Cloneable -/
def k7 : Class := { plain "java/lang/Cloneable" (some 0) with
  accessFlags := 1537
  interfaces := #[]
  cf := some (fileOf pool7 2 #[] #[] 1537 4 #[] #[])
  fields := #[]
  methods := #[]
  instanceTypes := #[]
  staticTypes := #[]
  resolved := Array.replicate 8 none
  statics := none }

def pool8 : Array CpInfo := pool [(1, u "java/io/Serializable"), (0, .class_ 1), (0, u "java/lang/Object"), (0, .class_ 3)] 3

/-- java/io/Serializable -/
def k8 : Class := { plain "java/io/Serializable" (some 0) with
  accessFlags := 1537
  interfaces := #[]
  cf := some (fileOf pool8 2 #[] #[] 1537 4 #[] #[])
  fields := #[]
  methods := #[]
  instanceTypes := #[]
  staticTypes := #[]
  resolved := Array.replicate 8 none
  statics := none }

/-- the primitive byte -/
def k9 : Class := { plain "byte" none with kind := .primitive 'B', accessFlags := 0x411 }
/-- [B -/
def k10 : Class := { plain "[B" (some 0) with kind := .array 9 .byte, interfaces := #[7, 8], accessFlags := 1041 }

/-- the primitive int -/
def k11 : Class := { plain "int" none with kind := .primitive 'I', accessFlags := 0x411 }
/-- [I -/
def k12 : Class := { plain "[I" (some 0) with kind := .array 11 .int, interfaces := #[7, 8], accessFlags := 1041 }

/-- [L[B; -/
def k13 : Class := { plain "[[B" (some 0) with kind := .array 10 (.array .byte), interfaces := #[7, 8], accessFlags := 1041 }

def heap : Heap := #[{ cls := 13, slots := #[.null], vm := .none }]
def classes : Array Class := #[k0, k1, k2, k3, k4, k5, k6, k7, k8, k9, k10, k11, k12, k13]
def interned : List (Array UInt16 × Addr) := []
def slotsUsed : Nat := 1
def theMethod : MethodId := ⟨1, 1⟩
def args0 : Array Value := #[.int 74565, .int 3, .int 9, .int 12, .int 2, .int 1]
def aboutOver (below : List Frame) : State where
  vm := { classes := classes, interned := interned.toArray }
  heap := heap
  slotsUsed := slotsUsed
  threads := #[{ frames := .invoking theMethod args0 :: below }]
def below0 : List Frame := [.native { method := ⟨0, 0⟩, args := #[] }]
def about1 : State := aboutOver below0
def p0 : Program := .bare "" "" ""
def e0 : Env := launch0.env 0 0 0
theorem w_frames : about1.frames = Frame.invoking theMethod args0 :: below0 := rfl
set_option maxRecDepth 65536 in
theorem w_args : argsFit about1.vm theMethod args0 = true := by decide +kernel
set_option maxRecDepth 65536 in
theorem w_heap : heapFits about1 = true := by decide +kernel
set_option maxRecDepth 65536 in
theorem w_runnable : about1.curStatus? = some .runnable := by decide +kernel
set_option maxRecDepth 65536 in
theorem w_alone : about1.alone = true := by decide +kernel
set_option maxRecDepth 65536 in
theorem w_named : about1.methodNamed? x = some theMethod := by decide +kernel
set_option maxRecDepth 65536 in
theorem w_hears : about1.hears theMethod below0 = true := by decide +kernel
set_option maxRecDepth 65536 in
theorem w_ripe : about1.ripe theMethod args0 below0 = true := by decide +kernel
theorem w_running : about1.status = .running := rfl
set_option maxRecDepth 65536 in
theorem w_room : about1.hasRoom e0.platform room_1 = true :=
  launch0.hasRoom_least _ room_1 (by decide +kernel) (by decide +kernel) (by decide +kernel) (by decide +kernel) (by decide +kernel) (by decide +kernel)
theorem allAtoms_all (ts : List Jvm.Cond) (a : Array Jvm.Value) (st : Jvm.State) : (allAtoms ts).before a st = ts.all (fun c => c.before a st) := by
  induction ts with
  | nil => rfl
  | cons c t ih =>
    show (Jvm.Cond.and c (allAtoms t)).before a st = _
    rw [Jvm.Cond.before_and, ih, List.all_cons]
def words1 : List Jvm.Cond := Jvm.Cond.code x code maxLocals ret :: tables_1
/-- a 'code' word, met by the world's own term for the bytes: nothing is compared byte by byte -/
theorem code_word {y : MethodName} {bytes : ByteArray} {mx : Nat} {rt : Option FieldType} {a : Array Value} {s : State} {m : MethodId} {meth : Method} {c : Code} (h1 : s.methodNamed? y = some m) (h2 : s.vm.method? m = some meth) (h3 : meth.code = some c) (h4 : c.code = bytes)
    (h5 : (c.maxLocals == mx && c.exceptionTable.isEmpty && decide (c.maxStack ≤ mostOperands) && decide (meth.sig.returnType = rt) && !meth.locks && decide (parseMethodDescriptor y.desc = some meth.sig)) = true) : (Jvm.Cond.code y bytes mx rt).before a s = true := by
  simp only [Bool.and_eq_true, beq_iff_eq, Bool.not_eq_true', decide_eq_true_eq] at h5
  obtain ⟨⟨⟨⟨⟨g1, g2⟩, g3⟩, g4⟩, g5⟩, g6⟩ := h5
  simp [Cond.before, Cond.holds, Cond.value, h1, h2, h3, h4, g1, g2, g3, g4, g5, g6]
def isCode : Jvm.Cond → Bool
  | .code _ _ _ _ => true
  | _ => false
theorem all_split {L : List Jvm.Cond} {P : Jvm.Cond → Bool} (h1 : L.all (fun c => isCode c || P c) = true) (h2 : ∀ c ∈ L.filter isCode, P c = true) : L.all P = true := by
  refine List.all_eq_true.mpr fun c hc => ?_
  have h := List.all_eq_true.mp h1 c hc
  rcases Bool.eq_false_or_eq_true (isCode c) with hi | hi
  · exact h2 c (List.mem_filter.mpr ⟨hc, hi⟩)
  · simpa [hi] using h
set_option maxRecDepth 65536 in
theorem w_c0 : (Jvm.Cond.code x code maxLocals ret).before args0 about1 = true := code_word (m := ⟨1, 1⟩) (meth := k1m1) (c := k1c1) (by decide +kernel) rfl rfl rfl (by decide +kernel)
set_option maxRecDepth 65536 in
theorem w_c1 : (Jvm.Cond.code ({ cls := "com/example/accrete/accrete/engine/Sendings", name := "<init>", desc := "()V" } : Jvm.MethodName) prog_52_method_1_code (1 : Nat) (Option.none : Option Jvm.ClassFile.FieldType)).before args0 about1 = true := code_word (m := ⟨2, 0⟩) (meth := k2m0) (c := k2c0) (by decide +kernel) rfl rfl rfl (by decide +kernel)
set_option maxRecDepth 65536 in
theorem w_c2 : (Jvm.Cond.code ({ cls := "java/lang/Object", name := "<init>", desc := "()V" } : Jvm.MethodName) object_method_1_code (1 : Nat) (Option.none : Option Jvm.ClassFile.FieldType)).before args0 about1 = true := code_word (m := ⟨0, 0⟩) (meth := k0m0) (c := k0c0) (by decide +kernel) rfl rfl rfl (by decide +kernel)
set_option maxRecDepth 65536 in
theorem w_c3 : (Jvm.Cond.code ({ cls := "com/example/accrete/accrete/engine/Sendings", name := "cost", desc := "()J" } : Jvm.MethodName) prog_52_method_11_code (3 : Nat) (Option.some Jvm.ClassFile.FieldType.long)).before args0 about1 = true := code_word (m := ⟨2, 7⟩) (meth := k2m7) (c := k2c7) (by decide +kernel) rfl rfl rfl (by decide +kernel)
set_option maxRecDepth 65536 in
theorem w_c4 : (Jvm.Cond.code ({ cls := "com/example/accrete/accrete/engine/Sendings", name := "sendInPlace", desc := "(I[B[BII)V" } : Jvm.MethodName) prog_52_method_5_code (6 : Nat) (Option.none : Option Jvm.ClassFile.FieldType)).before args0 about1 = true := code_word (m := ⟨2, 4⟩) (meth := k2m4) (c := k2c4) (by decide +kernel) rfl rfl rfl (by decide +kernel)
set_option maxRecDepth 65536 in
theorem w_c5 : (Jvm.Cond.code ({ cls := "com/example/accrete/accrete/engine/Sendings", name := "add", desc := "(II[B[BII)V" } : Jvm.MethodName) prog_52_method_6_code (8 : Nat) (Option.none : Option Jvm.ClassFile.FieldType)).before args0 about1 = true := code_word (m := ⟨2, 5⟩) (meth := k2m5) (c := k2c5) (by decide +kernel) rfl rfl rfl (by decide +kernel)
set_option maxRecDepth 65536 in
theorem w_c6 : (Jvm.Cond.code ({ cls := "com/example/accrete/accrete/engine/Sendings", name := "cost", desc := "([B)J" } : Jvm.MethodName) prog_52_method_7_code (1 : Nat) (Option.some Jvm.ClassFile.FieldType.long)).before args0 about1 = true := code_word (m := ⟨2, 6⟩) (meth := k2m6) (c := k2c6) (by decide +kernel) rfl rfl rfl (by decide +kernel)
set_option maxRecDepth 65536 in
theorem w_c7 : (Jvm.Cond.code ({ cls := "com/example/accrete/accrete/engine/Sendings", name := "putInSlot", desc := "(II[BI)V" } : Jvm.MethodName) prog_52_method_2_code (5 : Nat) (Option.none : Option Jvm.ClassFile.FieldType)).before args0 about1 = true := code_word (m := ⟨2, 1⟩) (meth := k2m1) (c := k2c1) (by decide +kernel) rfl rfl rfl (by decide +kernel)
set_option maxRecDepth 65536 in
theorem w_c8 : (Jvm.Cond.code ({ cls := "com/example/accrete/accrete/engine/Sendings", name := "takeBack", desc := "(I[BI)V" } : Jvm.MethodName) prog_52_method_3_code (4 : Nat) (Option.none : Option Jvm.ClassFile.FieldType)).before args0 about1 = true := code_word (m := ⟨2, 2⟩) (meth := k2m2) (c := k2c2) (by decide +kernel) rfl rfl rfl (by decide +kernel)
set_option maxRecDepth 65536 in
theorem w_c9 : (Jvm.Cond.code ({ cls := "com/example/accrete/accrete/engine/Sendings", name := "groupByKey", desc := "(I)V" } : Jvm.MethodName) prog_52_method_12_code (3 : Nat) (Option.none : Option Jvm.ClassFile.FieldType)).before args0 about1 = true := code_word (m := ⟨2, 8⟩) (meth := k2m8) (c := k2c8) (by decide +kernel) rfl rfl rfl (by decide +kernel)
set_option maxRecDepth 65536 in
theorem w_c10 : (Jvm.Cond.code ({ cls := "com/example/accrete/accrete/io/KeyTable", name := "grownCapacity", desc := "(II)I" } : Jvm.MethodName) prog_66_method_12_code (4 : Nat) (Option.some Jvm.ClassFile.FieldType.int)).before args0 about1 = true := code_word (m := ⟨3, 1⟩) (meth := k3m1) (c := k3c1) (by decide +kernel) rfl rfl rfl (by decide +kernel)
set_option maxRecDepth 65536 in
theorem w_c11 : (Jvm.Cond.code ({ cls := "java/lang/Math", name := "max", desc := "(JJ)J" } : Jvm.MethodName) jdk_29_method_66_code (4 : Nat) (Option.some Jvm.ClassFile.FieldType.long)).before args0 about1 = true := code_word (m := ⟨4, 1⟩) (meth := k4m1) (c := k4c1) (by decide +kernel) rfl rfl rfl (by decide +kernel)
set_option maxRecDepth 65536 in
theorem w_c12 : (Jvm.Cond.code ({ cls := "java/lang/Math", name := "min", desc := "(JJ)J" } : Jvm.MethodName) jdk_29_method_70_code (4 : Nat) (Option.some Jvm.ClassFile.FieldType.long)).before args0 about1 = true := code_word (m := ⟨4, 2⟩) (meth := k4m2) (c := k4c2) (by decide +kernel) rfl rfl rfl (by decide +kernel)
set_option maxRecDepth 65536 in
theorem w_c13 : (Jvm.Cond.code ({ cls := "java/util/Arrays", name := "fill", desc := "([IIII)V" } : Jvm.MethodName) jdk_65_method_104_code (5 : Nat) (Option.none : Option Jvm.ClassFile.FieldType)).before args0 about1 = true := code_word (m := ⟨5, 2⟩) (meth := k5m2) (c := k5c2) (by decide +kernel) rfl rfl rfl (by decide +kernel)
set_option maxRecDepth 65536 in
theorem w_c14 : (Jvm.Cond.code ({ cls := "java/util/Arrays", name := "rangeCheck", desc := "(III)V" } : Jvm.MethodName) jdk_65_method_30_code (3 : Nat) (Option.none : Option Jvm.ClassFile.FieldType)).before args0 about1 = true := code_word (m := ⟨5, 1⟩) (meth := k5m1) (c := k5c1) (by decide +kernel) rfl rfl rfl (by decide +kernel)
set_option maxRecDepth 65536 in
theorem w_c15 : (Jvm.Cond.code ({ cls := "com/example/accrete/accrete/engine/Sendings", name := "clear", desc := "()V" } : Jvm.MethodName) prog_52_method_15_code (1 : Nat) (Option.none : Option Jvm.ClassFile.FieldType)).before args0 about1 = true := code_word (m := ⟨2, 9⟩) (meth := k2m9) (c := k2c9) (by decide +kernel) rfl rfl rfl (by decide +kernel)
set_option maxRecDepth 65536 in
theorem w_c16 : (Jvm.Cond.code ({ cls := "java/util/Arrays", name := "fill", desc := "([Ljava/lang/Object;IILjava/lang/Object;)V" } : Jvm.MethodName) jdk_65_method_118_code (5 : Nat) (Option.none : Option Jvm.ClassFile.FieldType)).before args0 about1 = true := code_word (m := ⟨5, 3⟩) (meth := k5m3) (c := k5c3) (by decide +kernel) rfl rfl rfl (by decide +kernel)
set_option maxRecDepth 65536 in
theorem w_c17 : (Jvm.Cond.code ({ cls := "com/example/accrete/accrete/engine/Sendings", name := "send", desc := "(I[BII)V" } : Jvm.MethodName) prog_52_method_4_code (5 : Nat) (Option.none : Option Jvm.ClassFile.FieldType)).before args0 about1 = true := code_word (m := ⟨2, 3⟩) (meth := k2m3) (c := k2c3) (by decide +kernel) rfl rfl rfl (by decide +kernel)
def codes1 : List Jvm.Cond := [Jvm.Cond.code x code maxLocals ret, Jvm.Cond.code ({ cls := "com/example/accrete/accrete/engine/Sendings", name := "<init>", desc := "()V" } : Jvm.MethodName) prog_52_method_1_code (1 : Nat) (Option.none : Option Jvm.ClassFile.FieldType), Jvm.Cond.code ({ cls := "java/lang/Object", name := "<init>", desc := "()V" } : Jvm.MethodName) object_method_1_code (1 : Nat) (Option.none : Option Jvm.ClassFile.FieldType), Jvm.Cond.code ({ cls := "com/example/accrete/accrete/engine/Sendings", name := "cost", desc := "()J" } : Jvm.MethodName) prog_52_method_11_code (3 : Nat) (Option.some Jvm.ClassFile.FieldType.long), Jvm.Cond.code ({ cls := "com/example/accrete/accrete/engine/Sendings", name := "sendInPlace", desc := "(I[B[BII)V" } : Jvm.MethodName) prog_52_method_5_code (6 : Nat) (Option.none : Option Jvm.ClassFile.FieldType), Jvm.Cond.code ({ cls := "com/example/accrete/accrete/engine/Sendings", name := "add", desc := "(II[B[BII)V" } : Jvm.MethodName) prog_52_method_6_code (8 : Nat) (Option.none : Option Jvm.ClassFile.FieldType), Jvm.Cond.code ({ cls := "com/example/accrete/accrete/engine/Sendings", name := "cost", desc := "([B)J" } : Jvm.MethodName) prog_52_method_7_code (1 : Nat) (Option.some Jvm.ClassFile.FieldType.long), Jvm.Cond.code ({ cls := "com/example/accrete/accrete/engine/Sendings", name := "putInSlot", desc := "(II[BI)V" } : Jvm.MethodName) prog_52_method_2_code (5 : Nat) (Option.none : Option Jvm.ClassFile.FieldType), Jvm.Cond.code ({ cls := "com/example/accrete/accrete/engine/Sendings", name := "takeBack", desc := "(I[BI)V" } : Jvm.MethodName) prog_52_method_3_code (4 : Nat) (Option.none : Option Jvm.ClassFile.FieldType), Jvm.Cond.code ({ cls := "com/example/accrete/accrete/engine/Sendings", name := "groupByKey", desc := "(I)V" } : Jvm.MethodName) prog_52_method_12_code (3 : Nat) (Option.none : Option Jvm.ClassFile.FieldType), Jvm.Cond.code ({ cls := "com/example/accrete/accrete/io/KeyTable", name := "grownCapacity", desc := "(II)I" } : Jvm.MethodName) prog_66_method_12_code (4 : Nat) (Option.some Jvm.ClassFile.FieldType.int), Jvm.Cond.code ({ cls := "java/lang/Math", name := "max", desc := "(JJ)J" } : Jvm.MethodName) jdk_29_method_66_code (4 : Nat) (Option.some Jvm.ClassFile.FieldType.long), Jvm.Cond.code ({ cls := "java/lang/Math", name := "min", desc := "(JJ)J" } : Jvm.MethodName) jdk_29_method_70_code (4 : Nat) (Option.some Jvm.ClassFile.FieldType.long), Jvm.Cond.code ({ cls := "java/util/Arrays", name := "fill", desc := "([IIII)V" } : Jvm.MethodName) jdk_65_method_104_code (5 : Nat) (Option.none : Option Jvm.ClassFile.FieldType), Jvm.Cond.code ({ cls := "java/util/Arrays", name := "rangeCheck", desc := "(III)V" } : Jvm.MethodName) jdk_65_method_30_code (3 : Nat) (Option.none : Option Jvm.ClassFile.FieldType), Jvm.Cond.code ({ cls := "com/example/accrete/accrete/engine/Sendings", name := "clear", desc := "()V" } : Jvm.MethodName) prog_52_method_15_code (1 : Nat) (Option.none : Option Jvm.ClassFile.FieldType), Jvm.Cond.code ({ cls := "java/util/Arrays", name := "fill", desc := "([Ljava/lang/Object;IILjava/lang/Object;)V" } : Jvm.MethodName) jdk_65_method_118_code (5 : Nat) (Option.none : Option Jvm.ClassFile.FieldType), Jvm.Cond.code ({ cls := "com/example/accrete/accrete/engine/Sendings", name := "send", desc := "(I[BII)V" } : Jvm.MethodName) prog_52_method_4_code (5 : Nat) (Option.none : Option Jvm.ClassFile.FieldType)]
set_option maxRecDepth 65536 in
theorem codes_eq : words1.filter isCode = codes1 := rfl
theorem w_codes : ∀ c ∈ words1.filter isCode, c.before args0 about1 = true := by
  rw [codes_eq]
  intro c hc
  simp only [codes1, List.mem_cons, List.not_mem_nil, or_false] at hc
  rcases hc with rfl | rfl | rfl | rfl | rfl | rfl | rfl | rfl | rfl | rfl | rfl | rfl | rfl | rfl | rfl | rfl | rfl | rfl
  · exact w_c0
  · exact w_c1
  · exact w_c2
  · exact w_c3
  · exact w_c4
  · exact w_c5
  · exact w_c6
  · exact w_c7
  · exact w_c8
  · exact w_c9
  · exact w_c10
  · exact w_c11
  · exact w_c12
  · exact w_c13
  · exact w_c14
  · exact w_c15
  · exact w_c16
  · exact w_c17
set_option maxRecDepth 65536 in
theorem w_t1 : (words1.take 24).all (fun c => isCode c || c.before args0 about1) = true := by decide +kernel
set_option maxRecDepth 65536 in
theorem w_t2 : ((words1.drop 24).take 24).all (fun c => isCode c || c.before args0 about1) = true := by decide +kernel
set_option maxRecDepth 65536 in
theorem w_t3 : (((words1.drop 24).drop 24).take 24).all (fun c => isCode c || c.before args0 about1) = true := by decide +kernel
set_option maxRecDepth 65536 in
theorem w_t4 : ((((words1.drop 24).drop 24).drop 24).take 24).all (fun c => isCode c || c.before args0 about1) = true := by decide +kernel
set_option maxRecDepth 65536 in
theorem w_t5 : ((((words1.drop 24).drop 24).drop 24).drop 24).all (fun c => isCode c || c.before args0 about1) = true := by decide +kernel
theorem w_tables : (allAtoms (Jvm.Cond.code x code maxLocals ret :: tables_1)).before args0 about1 = true := by
  rw [allAtoms_all]
  show words1.all (fun c => c.before args0 about1) = true
  refine all_split ?_ w_codes
  rw [← List.take_append_drop 24 words1, List.all_append, w_t1, ← List.take_append_drop 24 (words1.drop 24), List.all_append, w_t2, ← List.take_append_drop 24 ((words1.drop 24).drop 24), List.all_append, w_t3, ← List.take_append_drop 24 (((words1.drop 24).drop 24).drop 24), List.all_append, w_t4, w_t5]
  rfl
set_option maxRecDepth 65536 in
theorem w_case : (Jvm.Cond.and given_1 narrow_1).before args0 about1 = true := by decide +kernel
theorem w_applies : (headSpec (Jvm.Cond.code x code maxLocals ret :: tables_1) room_1).applies x e0.platform about1 = true :=
  (Spec.applies_iff w_frames).mpr ⟨w_running, w_runnable, w_alone, w_named, w_hears, w_ripe, w_room, w_tables⟩
theorem atStart : AtStart classFile x code maxLocals ret World_1 tables_1 room_1 Calls_1 rest_1 Pre_1 launch0 p0 e0 about1 theMethod args0 below0 :=
  ⟨lists_1, trivial, launch0.admits_env _ _ _, launch0.least_env, fairChoices_fair.cas, fairChoices_fair.clock, w_frames, w_args, w_heap, w_applies, trivial, trivial, w_case⟩
end start1
theorem witness_1 : WitnessClaimed_1 := ⟨start1.p0, start1.e0, start1.about1, start1.theMethod, start1.args0, start1.below0, start1.atStart⟩
end Jvm.Pilot.@@N@@
