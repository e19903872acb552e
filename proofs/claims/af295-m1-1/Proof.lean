import JvmDerived
import JvmDerived.Pilot.@@N@@Statement
import JvmDerived.Pilot.@@N@@Code
set_option linter.unusedVariables false
set_option linter.unusedSimpArgs false
@@BLOCK:NumsL.lean.txt@@
namespace Jvm.RoadKit
open Sem ClassFile Op Lib Jvm.Stand Jvm.Free Jvm.LawKit
section New
variable {p : Program} {l : Launch} {e : Env} {R : Room} {s : State} {m : MethodId} {args : Array Value} {below : List Frame} {meth : Method} {c : Code} {T : State} {locs : List Loc} {cells slots : Nat}
theorem retI (X : Stand p l e R s m args below meth c T locs cells slots) (hx : p.tables.exec = Jvm.exec) {pc : Nat} {Ls : Array Slot} {z : Int32} {rest : List Value} (hret : meth.sig.returnType = some .int) (hd : decode c.code pc = .ok (.ireturn, 1)) {fs : List Frame}
    (hl : ∀ (f : JFrame) (acts : List Action), f.method = m → f.locked = none → f.entered = [] → (doReturn e (T.setTop f) acts (some (.int z))).1 = T.setFrames fs) : Steps p.tables e below (T.setTop (mkF m pc Ls (.int z :: rest))) (T.setFrames fs) := by
  have hm' : T.vm.method? m = some meth := X.method'
  have hn : narrow .int (.int z) = .int z := rfl
  show Steps p.tables e below (T.setTop { method := m, pc := pc, locals := Ls, stack := _ :: rest, locked := none }) _
  jvm_step X.here [X.here.top, hx, hd, hm', hret, hn]
  first | (intro acts; rw [hl _ acts rfl rfl rfl]) | rw [hl _ _ rfl rfl rfl]
  exact Steps.refl _
theorem own_retA (X : Stand p l e R s m args below meth c T locs cells slots) (hx : p.tables.exec = Jvm.exec) {pc : Nat} {Ls : Array Slot} {t : FieldType} {w : Value} {rest : List Value} (hret : meth.sig.returnType = some t) (ht : t.isReference = true) (hw : w.isRef = true) (hd : decode c.code pc = .ok (.areturn, 1)) {fs : List Frame}
    (hl : ∀ (f : JFrame) (acts : List Action), f.method = m → f.locked = none → f.entered = [] → (doReturn e (T.setTop f) acts (some w)).1 = T.setFrames fs) : Steps p.tables e below (T.setTop (mkF m pc Ls (w :: rest))) (T.setFrames fs) :=
  retOut X hx hret (by cases t <;> simp_all [narrow, FieldType.isReference]) (Or.inr (Or.inr (Or.inr (Or.inr ⟨rfl, ht, hw⟩)))) hd hl
end New
end Jvm.RoadKit
namespace Jvm.Pilot.@@N@@
open Jvm Jvm.ClassFile Sem Op Lib Jvm.Free Jvm.Stand Jvm.LawKit Jvm.RoadKit Bundle Jvm.Pilot.@@N@@.Jvm.D
abbrev own_jv (x : Int64) : Slot := .val (.long x)
/-- a callee that leaves the heap as it was and returns r -/
def own_QP (r : Option Value) (h0 : Heap) (n0 : Nat) (v : Option Value) (h : Heap) (L : List Loc) : Prop := v = r ∧ Fr n0 L ∧ h = h0
def own_QL (n0 : Nat) (v : Option Value) (h : Heap) (L : List Loc) : Prop := v = some (.int 1) ∧ Fr n0 L
theorem own_eqv {args : Array Value} {first s : State} {o : Option Outcome} {idx : List Nat} {a b : Term} {x : Value} (h : (Cond.eq a b).value args first o s idx = some true) (hb : b.eval args first o idx s = some x) (hx : x.isRef = true ∨ ∃ n, x = .int n) : a.eval args first o idx s = some x := by
  cases ha : a.eval args first o idx s with
  | none => simp [Cond.value, ha, hb] at h
  | some y =>
    rcases hx with hx | ⟨n, rfl⟩
    · rcases ref_cases hx with rfl | ⟨z, rfl⟩ <;> cases y <;> simp_all [Cond.value]
    · cases y <;> simp_all [Cond.value]
theorem own_len {Z : State} {args : Array Value} {t : Term} {a : Addr} {cl : Cell} {ty : FieldType} {n : Int32} (ev : t.eval args Z none [] Z = some (.ref a)) (A : Arr Z Z.heap a cl ty) (h : (Term.length t).eval args Z none [] Z = some (.int n)) : cl.slots.size < 2 ^ 31 ∧ cl.slots.size.toInt32 = n := by
  have hA : Z.arrayAt? a = some cl := Arr.fin (U := Z) (Vm.Alike.refl _) A
  by_cases q : cl.slots.size < 2 ^ 31
  · rw [len_f ev hA q] at h
    exact ⟨q, Value.int.inj (Option.some.inj h)⟩
  · simp [Term.eval, ev, hA, q] at h
theorem own_nei {a b : Int32} (h : a ≠ b) : (Value.int a) ≠ (Value.int b) := fun q => h (Value.int.inj q)
theorem own_Sta_keep {Z : State} {h h' : Heap} {C n d : String} {v : Value} {ws : List Addr} (F : Sta Z h C n d v) (K : Keep h h' ws) (q : ∀ a ∈ ws, ∀ c : Cell, h[a]? = some c → c.vm.isStatics = false) : Sta Z h' C n d v := by
  obtain ⟨cf, i, k, f, st, cell, h1, h2, h3, h4, h5, h6, h7⟩ := F
  exact ⟨cf, i, k, f, st, cell, h1, h2, h3, h4, K.2.1 st cell h5 (fun z => by rw [q st z cell h5] at h6; cases h6), h6, h7⟩
theorem own_st0 {h : Heap} : ∀ a ∈ ([] : List Addr), ∀ c : Cell, h[a]? = some c → c.vm.isStatics = false := fun _ q => nomatch q
theorem own_stS {Z : State} {h : Heap} {b : Addr} {C : String} {L : List Addr} (E : Exa Z h b C) (q : ∀ a ∈ L, ∀ c : Cell, h[a]? = some c → c.vm.isStatics = false) : ∀ a ∈ b :: L, ∀ c : Cell, h[a]? = some c → c.vm.isStatics = false := fun a z c hc => by
  rcases List.mem_cons.mp z with rfl | z
  · obtain ⟨cell, _, h1, _, _, h4, _⟩ := E
    cases h1.symm.trans hc; exact h4
  · exact q a z c hc
/-- a callee that leaves the heap as it was and returns a reference or null -/
def own_QR (h0 : Heap) (n0 : Nat) (v : Option Value) (h : Heap) (L : List Loc) : Prop := ∃ u : Value, v = some u ∧ u.isRef = true ∧ Fr n0 L ∧ h = h0
theorem own_weak {l : Launch} {x : MethodName} {S : Spec} {P : Array Value → State → Prop} {K : Program → Env → List Frame → State → Array Value → Prop} {w : Value} {h0 : Heap} {n0 k j : Nat} (hw : w.isRef = true)
    (h : MetFree l x S P K (fun _ U o U' => ∃ v L, o = .returned v ∧ own_QP (some w) h0 n0 v U'.heap L ∧ FrameEnd U o U' L k j)) :
    MetFree l x S P K (fun _ U o U' => ∃ v L, o = .returned v ∧ own_QR h0 n0 v U'.heap L ∧ FrameEnd U o U' L k j) := fun p e a b c s m args below h1 h2 h3 h4 => by
  obtain ⟨n, o, q1, q2, q3, v, L, e1, ⟨e2, e3, e4⟩, e5⟩ := h p e a b c s m args below h1 h2 h3 h4
  exact ⟨n, o, q1, q2, q3, v, L, e1, ⟨w, e2, hw, e3, e4⟩, e5⟩
theorem own_narO {C : String} (v : Value) (h : v.isRef = true) : narrow (.object C) v = v := by rcases ref_cases h with q | ⟨_, q⟩ <;> (subst q; rfl)
theorem own_fitsO {C : String} {v : Value} (h : v.isRef = true) : fits (.object C) v = true := by rcases ref_cases h with q | ⟨_, q⟩ <;> (subst q; rfl)
theorem own_imp {l : Launch} {x : MethodName} {S : Spec} {P : Array Value → State → Prop} {K : Program → Env → List Frame → State → Array Value → Prop} {Q Q' : Option Value → Heap → List Loc → Prop} {k j : Nat}
    (h : MetFree l x S P K (fun _ U o U' => ∃ v L, o = .returned v ∧ Q v U'.heap L ∧ FrameEnd U o U' L k j)) (hq : ∀ v h L, Q v h L → Q' v h L) :
    MetFree l x S P K (fun _ U o U' => ∃ v L, o = .returned v ∧ Q' v U'.heap L ∧ FrameEnd U o U' L k j) := fun p e a b c s m args below h1 h2 h3 h4 => by
  obtain ⟨n, o, q1, q2, q3, v, L, e1, e2, e3⟩ := h p e a b c s m args below h1 h2 h3 h4
  exact ⟨n, o, q1, q2, q3, v, L, e1, hq _ _ _ e2, e3⟩
/-- an array of 256 objects of the class C -/
def own_Cache (Z : State) (h : Heap) (a : Addr) (C : String) : Prop := ∃ cl : Cell, Arr Z h a cl (.object C) ∧ cl.slots.size = 256 ∧ ∀ i, i < 256 → ∃ b, cl.slots[i]? = some (.ref b) ∧ Exa Z h b C
theorem own_Cache_lt {Z : State} {h : Heap} {a : Addr} {C : String} (F : own_Cache Z h a C) : a < h.size := by
  obtain ⟨cl, A, -⟩ := F; exact A.lt
theorem own_Cache_ext {Z : State} {h h' : Heap} {a : Addr} {C : String} (F : own_Cache Z h a C) (E : Ext h h') : own_Cache Z h' a C := by
  obtain ⟨cl, A, S, H⟩ := F
  exact ⟨cl, A.ext E, S, fun i hi => by obtain ⟨b, q, e⟩ := H i hi; exact ⟨b, q, e.ext E⟩⟩
theorem own_Cache_keep {Z : State} {h h' : Heap} {a : Addr} {C : String} {ws : List Addr} (F : own_Cache Z h a C) (K : Keep h h' ws) (q : a ∉ ws) : own_Cache Z h' a C := by
  obtain ⟨cl, A, S, H⟩ := F
  exact ⟨cl, ⟨K.2.1 a cl A.1 q, A.2⟩, S, fun i hi => by obtain ⟨b, q, e⟩ := H i hi; exact ⟨b, q, e.keep K⟩⟩
theorem own_Cache_other {Z : State} {h h' : Heap} {a b : Addr} {C : String} {sl : Nat} {v : Value} (F : own_Cache Z h a C) (W : Wr h h' b sl v) (q : a ≠ b) : own_Cache Z h' a C := by
  obtain ⟨cl, A, S, H⟩ := F
  exact ⟨cl, A.other W q, S, fun i hi => by obtain ⟨b, q, e⟩ := H i hi; exact ⟨b, q, e.wr W⟩⟩
theorem own_cache_start {Z : State} {args : Array Value} {t : Term} {a : Addr} {cl : Cell} {C : String} {P : Jvm.Cond} (ht : ∀ idx, t.eval args Z none idx Z = some (.ref a)) (A : Arr Z Z.heap a cl (.object C)) (hsz : cl.slots.size = 256)
    (hall : (Cond.all t (.and (.exactly (.elem t (.index 0)) C) P)).value args Z none Z [] = some true) : own_Cache Z Z.heap a C := by
  have hA : Z.arrayAt? a = some cl := Arr.fin (U := Z) (Vm.Alike.refl _) A
  refine ⟨cl, A, hsz, fun i hi => ?_⟩
  have h := (and_e (Cond.all_elim (ht []) hA hall i (by omega))).1
  obtain ⟨b, c', cell, k, e1, e2, e3, e4, e5, rfl, e7⟩ := Cond.exactly_spec (beq_iff_eq.mpr h : (Cond.exactly _ C).holds args Z none Z [i] = true)
  refine ⟨b, ?_, cell, k, e3, e2, e4, e5, e7⟩
  obtain ⟨a', j, cell', q1, q2, q3, q4, q5⟩ := Term.elem_spec e1
  cases (ht [i]).symm.trans q1
  cases hA.symm.trans q3
  have ej : i.toInt32 = j := by simpa [Term.eval] using q2
  subst ej
  have e : (i.toInt32).toNatClampNeg = i := by simp only [Int32.toNatClampNeg, len_toInt (show i < 2 ^ 31 by omega)]; rfl
  rw [e] at q5; exact q5
theorem own_size256 {cl : Cell} (q : cl.slots.size < 2 ^ 31) (h : cl.slots.size.toInt32 = (256 : Int32)) : cl.slots.size = 256 := by
  have e := len_toInt q
  rw [h, show (256 : Int32).toInt = 256 from by decide] at e
  omega
theorem own_idxI {p : Int32} (h1 : ¬ (p < (-128 : Int32))) (h2 : ¬ ((127 : Int32) < p)) : ¬ ((p + (128 : Int32)) < 0 ∨ 256 ≤ (p + (128 : Int32)).toNatClampNeg) ∧ (p + (128 : Int32)).toNatClampNeg < 256 := by
  rw [Int32.lt_iff_toInt_lt] at h1 h2
  have e1 : (-128 : Int32).toInt = -128 := by decide
  have e2 : (127 : Int32).toInt = 127 := by decide
  have e3 : (128 : Int32).toInt = 128 := by decide
  have e0 : (0 : Int32).toInt = 0 := by decide
  have e : (p + (128 : Int32)).toInt = p.toInt + 128 := by rw [Jvm.Kit.i32_add (by omega) (by omega), e3]
  have e' : (p + (128 : Int32)).toNatClampNeg = (p.toInt + 128).toNat := by simp only [Int32.toNatClampNeg, e]
  rw [Int32.lt_iff_toInt_lt, e, e']
  omega
theorem own_idxJ {p : Int64} (h1 : ¬ (p < (-128 : Int64))) (h2 : ¬ ((127 : Int64) < p)) : ¬ ((p.toInt32 + (128 : Int32)) < 0 ∨ 256 ≤ (p.toInt32 + (128 : Int32)).toNatClampNeg) ∧ (p.toInt32 + (128 : Int32)).toNatClampNeg < 256 := by
  rw [Int64.lt_iff_toInt_lt] at h1 h2
  have e1 : (-128 : Int64).toInt = -128 := by decide
  have e2 : (127 : Int64).toInt = 127 := by decide
  have e : p.toInt32.toInt = p.toInt := Jvm.Kit.i32_of_i64 (by omega) (by omega)
  refine own_idxI ?_ ?_
  · rw [Int32.lt_iff_toInt_lt, e, show (-128 : Int32).toInt = -128 from by decide]; omega
  · rw [Int32.lt_iff_toInt_lt, e, show (127 : Int32).toInt = 127 from by decide]; omega
/-- a callee that writes nothing old and returns an object of exactly the class C -/
def own_QB (Z : State) (C : String) (h0 : Heap) (n0 : Nat) (v : Option Value) (h : Heap) (L : List Loc) : Prop := ∃ b : Addr, v = some (.ref b) ∧ Fr n0 L ∧ Keep h0 h [] ∧ Exa Z h b C
theorem own_NSroot {Z : State} {a0 : Array Value} {O K : String} {n : Nat} (w : (Cond.noSuperclass O).before a0 Z = true) (wk : (Cond.instantiable K n).before a0 Z = true) (hn : O ≠ K) : NS Z O K := by
  obtain ⟨c, k, h1, h2, h3, -, -⟩ := Cond.noSuperclass_spec w
  obtain ⟨t, kt, g1, -⟩ := Cond.instantiable_spec wk
  have ne := ids_ne h1 g1 hn
  refine ⟨c, t, h1, g1, fun fuel => ?_⟩
  cases fuel with
  | zero => rfl
  | succ f => simp [Vm.isSubclassAux, ne, h2, h3]
theorem own_NSno {Z : State} {a0 : Array Value} {C S K : String} {n : Nat} (w : (Cond.superclass C S).before a0 Z = true) (wk : (Cond.instantiable K n).before a0 Z = true) (m : NS Z C K) (hn : C ≠ K) : ∃ c t, Z.vm.findClass C = some c ∧ Z.vm.findClass K = some t ∧ Z.vm.assignable c t = false := by
  obtain ⟨c, t, h0, g0, n3⟩ := m
  obtain ⟨p, k, kp, h1, h2, h3, h4, h5, -, h7⟩ := Cond.superclass_spec h0 w
  obtain ⟨t', kt, g1, g2, g5, g7, -⟩ := Cond.instantiable_spec wk
  cases g0.symm.trans g1
  have ne := ids_ne h0 g0 hn
  have g8 : kt.isInterface = false := (Bool.or_eq_false_iff.mp g7).1
  refine ⟨c, t, h0, g0, ?_⟩
  show Z.vm.assignableAux (255 + 1) c t = false
  simp [Vm.assignableAux, ne, h2, g2, h5, g5, g8, Vm.isSubclass, n3]
theorem own_s1 (p : Int32) : (p &&& (1 : Int32)) = (0 : Int32) ∨ (p &&& (1 : Int32)) = (1 : Int32) := by
  have e := Jvm.Kit.i32_mask p 1 (k := 1) (by decide) (by decide)
  have h : (p &&& (1 : Int32)).toInt = 0 ∨ (p &&& (1 : Int32)).toInt = 1 := by omega
  rcases h with h | h
  · exact Or.inl (Int32.toInt_inj.mp (h.trans (by decide)))
  · exact Or.inr ((Int32.toInt_inj.mp (h.trans (by decide))))
theorem own_s3 (p : Int32) : (p &&& (3 : Int32)) = (0 : Int32) ∨ (p &&& (3 : Int32)) = (1 : Int32) ∨ (p &&& (3 : Int32)) = (2 : Int32) ∨ (p &&& (3 : Int32)) = (3 : Int32) := by
  have e := Jvm.Kit.i32_mask p 3 (k := 2) (by decide) (by decide)
  have h : (p &&& (3 : Int32)).toInt = 0 ∨ (p &&& (3 : Int32)).toInt = 1 ∨ (p &&& (3 : Int32)).toInt = 2 ∨ (p &&& (3 : Int32)).toInt = 3 := by omega
  rcases h with h | h | h | h
  · exact Or.inl (Int32.toInt_inj.mp (h.trans (by decide)))
  · exact Or.inr (Or.inl (Int32.toInt_inj.mp (h.trans (by decide))))
  · exact Or.inr (Or.inr (Or.inl (Int32.toInt_inj.mp (h.trans (by decide)))))
  · exact Or.inr (Or.inr (Or.inr ((Int32.toInt_inj.mp (h.trans (by decide))))))
theorem own_rng64 (p : Int64) : p < (-128 : Int64) ∨ (¬ (p < (-128 : Int64)) ∧ (127 : Int64) < p) ∨ (¬ (p < (-128 : Int64)) ∧ ¬ ((127 : Int64) < p)) := by
  by_cases h1 : p < (-128 : Int64)
  · exact Or.inl h1
  by_cases h2 : (127 : Int64) < p
  · exact Or.inr (Or.inl ⟨h1, h2⟩)
  exact Or.inr (Or.inr ⟨h1, h2⟩)
theorem own_m (p : Int64) : ∃ z, (p &&& (9223372036854775807 : Int64)) = z ∧ ¬ (z < (0 : Int64)) := by
  refine ⟨_, rfl, ?_⟩
  have e := Jvm.Kit.i64_mask p 9223372036854775807 (k := 63) (by decide) (by decide)
  rw [Int64.lt_iff_toInt_lt, e, show (0 : Int64).toInt = 0 from by decide]
  omega
theorem own_s2 (p : Int32) : (p &&& (2 : Int32)) = (0 : Int32) ∨ ¬ ((p &&& (2 : Int32)) = (0 : Int32)) := Classical.em _
theorem own_two64 (a b : Int64) : (a = b ∧ b = a) ∨ (¬ (a = b) ∧ ¬ (b = a)) := by
  by_cases h : a = b
  · exact Or.inl ⟨h, h.symm⟩
  · exact Or.inr ⟨h, fun q => h q.symm⟩
theorem d1_0 : decode prog_21_method_1_code 0 = .ok (.aload_n 0, 1) := by decide +kernel
theorem d1_1 : decode prog_21_method_1_code 1 = .ok (.invokespecial 1, 3) := by decide +kernel
theorem d1_4 : decode prog_21_method_1_code 4 = .ok (.lload_n 1, 1) := by decide +kernel
theorem d1_5 : decode prog_21_method_1_code 5 = .ok (.lconst 0, 1) := by decide +kernel
theorem d1_6 : decode prog_21_method_1_code 6 = .ok (.lcmp, 1) := by decide +kernel
theorem d1_7 : decode prog_21_method_1_code 7 = .ok (.ifCond .lt 9, 3) := by decide +kernel
theorem d1_10 : decode prog_21_method_1_code 10 = .ok (.lload_n 3, 1) := by decide +kernel
theorem d1_11 : decode prog_21_method_1_code 11 = .ok (.lconst 0, 1) := by decide +kernel
theorem d1_12 : decode prog_21_method_1_code 12 = .ok (.lcmp, 1) := by decide +kernel
theorem d1_13 : decode prog_21_method_1_code 13 = .ok (.ifCond .ge 18, 3) := by decide +kernel
theorem d1_31 : decode prog_21_method_1_code 31 = .ok (.aload_n 0, 1) := by decide +kernel
theorem d1_32 : decode prog_21_method_1_code 32 = .ok (.lload_n 1, 1) := by decide +kernel
theorem d1_33 : decode prog_21_method_1_code 33 = .ok (.putfield 16, 3) := by decide +kernel
theorem d1_36 : decode prog_21_method_1_code 36 = .ok (.aload_n 0, 1) := by decide +kernel
theorem d1_37 : decode prog_21_method_1_code 37 = .ok (.lload_n 3, 1) := by decide +kernel
theorem d1_38 : decode prog_21_method_1_code 38 = .ok (.putfield 22, 3) := by decide +kernel
theorem d1_41 : decode prog_21_method_1_code 41 = .ok (.return_, 1) := by decide +kernel
theorem d3_0 : decode prog_21_method_4_code 0 = .ok (.aload_n 1, 1) := by decide +kernel
theorem d3_1 : decode prog_21_method_4_code 1 = .ok (.instanceof 17, 3) := by decide +kernel
theorem d3_4 : decode prog_21_method_4_code 4 = .ok (.ifCond .eq 36, 3) := by decide +kernel
theorem d3_7 : decode prog_21_method_4_code 7 = .ok (.aload_n 1, 1) := by decide +kernel
theorem d3_8 : decode prog_21_method_4_code 8 = .ok (.checkcast 17, 3) := by decide +kernel
theorem d3_11 : decode prog_21_method_4_code 11 = .ok (.astore_n 2, 1) := by decide +kernel
theorem d3_12 : decode prog_21_method_4_code 12 = .ok (.aload_n 2, 1) := by decide +kernel
theorem d3_13 : decode prog_21_method_4_code 13 = .ok (.getfield 16, 3) := by decide +kernel
theorem d3_16 : decode prog_21_method_4_code 16 = .ok (.aload_n 0, 1) := by decide +kernel
theorem d3_17 : decode prog_21_method_4_code 17 = .ok (.getfield 16, 3) := by decide +kernel
theorem d3_20 : decode prog_21_method_4_code 20 = .ok (.lcmp, 1) := by decide +kernel
theorem d3_21 : decode prog_21_method_4_code 21 = .ok (.ifCond .ne 19, 3) := by decide +kernel
theorem d3_24 : decode prog_21_method_4_code 24 = .ok (.aload_n 2, 1) := by decide +kernel
theorem d3_25 : decode prog_21_method_4_code 25 = .ok (.getfield 22, 3) := by decide +kernel
theorem d3_28 : decode prog_21_method_4_code 28 = .ok (.aload_n 0, 1) := by decide +kernel
theorem d3_29 : decode prog_21_method_4_code 29 = .ok (.getfield 22, 3) := by decide +kernel
theorem d3_32 : decode prog_21_method_4_code 32 = .ok (.lcmp, 1) := by decide +kernel
theorem d3_33 : decode prog_21_method_4_code 33 = .ok (.ifCond .ne 7, 3) := by decide +kernel
theorem d3_36 : decode prog_21_method_4_code 36 = .ok (.iconst 1, 1) := by decide +kernel
theorem d3_37 : decode prog_21_method_4_code 37 = .ok (.goto 4, 3) := by decide +kernel
theorem d3_40 : decode prog_21_method_4_code 40 = .ok (.iconst 0, 1) := by decide +kernel
theorem d3_41 : decode prog_21_method_4_code 41 = .ok (.ireturn, 1) := by decide +kernel
theorem d4_0 : decode jdk_35_method_24_code 0 = .ok (.sipush 128, 3) := by decide +kernel
theorem d4_3 : decode jdk_35_method_24_code 3 = .ok (.istore_n 2, 1) := by decide +kernel
theorem d4_4 : decode jdk_35_method_24_code 4 = .ok (.lload_n 0, 1) := by decide +kernel
theorem d4_5 : decode jdk_35_method_24_code 5 = .ok (.ldc2_w 230, 3) := by decide +kernel
theorem d4_8 : decode jdk_35_method_24_code 8 = .ok (.lcmp, 1) := by decide +kernel
theorem d4_9 : decode jdk_35_method_24_code 9 = .ok (.ifCond .lt 22, 3) := by decide +kernel
theorem d4_12 : decode jdk_35_method_24_code 12 = .ok (.lload_n 0, 1) := by decide +kernel
theorem d4_13 : decode jdk_35_method_24_code 13 = .ok (.ldc2_w 232, 3) := by decide +kernel
theorem d4_16 : decode jdk_35_method_24_code 16 = .ok (.lcmp, 1) := by decide +kernel
theorem d4_17 : decode jdk_35_method_24_code 17 = .ok (.ifCond .gt 14, 3) := by decide +kernel
theorem d4_20 : decode jdk_35_method_24_code 20 = .ok (.getstatic 234, 3) := by decide +kernel
theorem d4_23 : decode jdk_35_method_24_code 23 = .ok (.lload_n 0, 1) := by decide +kernel
theorem d4_24 : decode jdk_35_method_24_code 24 = .ok (.l2i, 1) := by decide +kernel
theorem d4_25 : decode jdk_35_method_24_code 25 = .ok (.sipush 128, 3) := by decide +kernel
theorem d4_28 : decode jdk_35_method_24_code 28 = .ok (.iadd, 1) := by decide +kernel
theorem d4_29 : decode jdk_35_method_24_code 29 = .ok (.aaload, 1) := by decide +kernel
theorem d4_30 : decode jdk_35_method_24_code 30 = .ok (.areturn, 1) := by decide +kernel
theorem d4_31 : decode jdk_35_method_24_code 31 = .ok (.new 1, 3) := by decide +kernel
theorem d4_34 : decode jdk_35_method_24_code 34 = .ok (.dup, 1) := by decide +kernel
theorem d4_35 : decode jdk_35_method_24_code 35 = .ok (.lload_n 0, 1) := by decide +kernel
theorem d4_36 : decode jdk_35_method_24_code 36 = .ok (.invokespecial 240, 3) := by decide +kernel
theorem d4_39 : decode jdk_35_method_24_code 39 = .ok (.areturn, 1) := by decide +kernel
theorem d5_0 : decode jdk_35_method_26_code 0 = .ok (.aload_n 0, 1) := by decide +kernel
theorem d5_1 : decode jdk_35_method_26_code 1 = .ok (.invokespecial 270, 3) := by decide +kernel
theorem d5_4 : decode jdk_35_method_26_code 4 = .ok (.aload_n 0, 1) := by decide +kernel
theorem d5_5 : decode jdk_35_method_26_code 5 = .ok (.lload_n 1, 1) := by decide +kernel
theorem d5_6 : decode jdk_35_method_26_code 6 = .ok (.putfield 273, 3) := by decide +kernel
theorem d5_9 : decode jdk_35_method_26_code 9 = .ok (.return_, 1) := by decide +kernel
theorem d6_0 : decode jdk_18_method_1_code 0 = .ok (.aload_n 0, 1) := by decide +kernel
theorem d6_1 : decode jdk_18_method_1_code 1 = .ok (.invokespecial 1, 3) := by decide +kernel
theorem d6_4 : decode jdk_18_method_1_code 4 = .ok (.return_, 1) := by decide +kernel
theorem pn_0 : plainName "java/lang/Number" = true := by first | (simp [plainName, overriddenIn]; done) | decide +kernel
theorem pn_1 : plainName "java/lang/Long" = true := by first | (simp [plainName, overriddenIn]; done) | decide +kernel
theorem pn_2 : plainName "com/example/allotd/allotd/engine/Tokens" = true := by first | (simp [plainName, overriddenIn]; done) | decide +kernel
theorem pn_3 : plainName "com/example/allotd/allotd/engine/TokensEqualsPinLaw" = true := by first | (simp [plainName, overriddenIn]; done) | decide +kernel
theorem pd_0 : parseMethodDescriptor "()V" = some ⟨[], none⟩ := by decide +kernel
theorem pd_1 : parseMethodDescriptor "(J)V" = some ⟨[.long], none⟩ := by decide +kernel
theorem pd_2 : parseMethodDescriptor "(JJ)V" = some ⟨[.long, .long], none⟩ := by decide +kernel
theorem pd_3 : parseMethodDescriptor "(Ljava/lang/Object;)Z" = some ⟨[(.object "java/lang/Object")], some .boolean⟩ := by decide +kernel
theorem pd_4 : parseMethodDescriptor "(J)Ljava/lang/Long;" = some ⟨[.long], some (.object "java/lang/Long")⟩ := by decide +kernel
theorem ef_6_R (m : MethodId) (x0 : Addr) : entryFrame m #[(.ref x0)] 1 = mkF m 0 #[rv x0] [] := by first | (simp [entryFrame, mkF, argsToLocals, Value.category]; done) | rfl
theorem ef_5_RJ (m : MethodId) (x0 : Addr) (x1 : Int64) : entryFrame m #[(.ref x0), (.long x1)] 3 = mkF m 0 #[rv x0, own_jv x1, .second] [] := by first | (simp [entryFrame, mkF, argsToLocals, Value.category]; done) | rfl
theorem ef_4_J (m : MethodId) (x0 : Int64) : entryFrame m #[(.long x0)] 3 = mkF m 0 #[own_jv x0, .second, .unset] [] := by first | (simp [entryFrame, mkF, argsToLocals, Value.category]; done) | rfl
theorem ef_1_RJJ (m : MethodId) (x0 : Addr) (x1 : Int64) (x2 : Int64) : entryFrame m #[(.ref x0), (.long x1), (.long x2)] 5 = mkF m 0 #[rv x0, own_jv x1, .second, own_jv x2, .second] [] := by first | (simp [entryFrame, mkF, argsToLocals, Value.category]; done) | rfl
theorem ef_3_RR (m : MethodId) (x0 : Addr) (x1 : Addr) : entryFrame m #[(.ref x0), (.ref x1)] 3 = mkF m 0 #[rv x0, rv x1, .unset] [] := by first | (simp [entryFrame, mkF, argsToLocals, Value.category]; done) | rfl
theorem ef_0_JJJJI (m : MethodId) (x0 : Int64) (x1 : Int64) (x2 : Int64) (x3 : Int64) (x4 : Int32) : entryFrame m #[(.long x0), (.long x1), (.long x2), (.long x3), (.int x4)] maxLocals = mkF m 0 #[own_jv x0, .second, own_jv x1, .second, own_jv x2, .second, own_jv x3, .second, iv x4, .unset, .unset, .unset, .unset, .unset, .unset, .unset, .unset, .unset, .unset, .unset, .unset] [] := by first | (simp [entryFrame, mkF, argsToLocals, Value.category, maxLocals]; done) | rfl
theorem ef_3_Rn (m : MethodId) (x0 : Addr) : entryFrame m #[(.ref x0), .null] 3 = mkF m 0 #[rv x0, .val .null, .unset] [] := by first | (simp [entryFrame, mkF, argsToLocals, Value.category]; done) | rfl
set_option maxRecDepth 65536 in
set_option maxHeartbeats 40000000 in
theorem rm6_0 (l : Launch) (Z : State) (a0 : Array Value) (hw : ∀ d ∈ tables_1, d.before a0 Z = true) (ws : List Jvm.Cond) (b1_1 : Addr) (h0 : Heap) (n0 : Nat) (Z0 : n0 ≤ h0.size) :
    MetFree l (⟨"java/lang/Number", "<init>", "()V"⟩ : MethodName) (head1 (Jvm.Cond.code (⟨"java/lang/Number", "<init>", "()V"⟩ : MethodName) jdk_18_method_1_code 1 none :: ws) ({ frames := 1, cells := 0, slots := 0, locals := 12 } : Room)) (fun a U => a = #[(.ref b1_1)] ∧ Z.Warmed39 U.vm ∧ U.heap = h0) (fun _ _ _ _ _ => True) (fun _ U o U' => ∃ v L, o = .returned v ∧ own_QP none h0 n0 v U'.heap L ∧ FrameEnd U o U' L ({ frames := 1, cells := 0, slots := 0, locals := 12 } : Room).cells ({ frames := 1, cells := 0, slots := 0, locals := 12 } : Room).slots) := by
  refine MetFree.of_bodySF (plainFor_of_name pn_0) hisR ?_
  intro p e s m args below meth c s₁ Bd hml0 hP hK
  obtain ⟨rfl, hZ, hh⟩ := hP
  have hx := Bd.exec
  have hby := Bd.bytes
  have hml : c.maxLocals = 1 := hml0
  have hown : s.vm.findClass "java/lang/Number" = some m.cls := findClass_of_methodNamed Bd.named
  have hnm := (name_of_methodNamed Bd.named Bd.method).1
  have X0 : Stand p l e ({ frames := 1, cells := 0, slots := 0, locals := 12 } : Room) s m #[(.ref b1_1)] below meth c s₁ [] 0 0 := Stand.of_body Bd
  have e0 : s₁.heap = h0 := by rw [← hh, Bd.state]; rfl
  have N0 := Fr.nil n0
  have pre0 : ∀ t, Steps p.tables e below (s₁.setTop (mkF m 0 #[rv b1_1] [])) t → Steps p.tables e below (s₁.setTop (entryFrame m #[(.ref b1_1)] 1)) t := fun t k => castTop (ef_6_R m b1_1) k
  obtain ⟨T1, X1, e1, st1⟩ := initO X0 hx hZ hown (hw _ (List.mem_of_getElem? (i := 39) rfl)) (hw _ (List.mem_of_getElem? (i := 8) rfl)) (hw _ (List.mem_of_getElem? (i := 9) rfl)) e0 (g := (mkF m 1 #[rv b1_1] [(.ref b1_1)])) rfl (by rw [hml]; rfl) rfl (hb hby d6_1) (by decide) (W := 0) (by show 2 * 0 + _ ≤ _; exact Nat.le_of_eq rfl) (by decide)
  obtain ⟨fs, hr, hrun, hended, hW, hsame⟩ := X1.leave (v := none) (fun _ => rfl)
  refine ⟨_, _, pre0 _ ?_, hrun, hended, _, _, rfl, ?_, ⟨_, rfl⟩, hW, hsame.mono (by decide) (by decide)⟩
  · show Steps p.tables e below (s₁.setTop (mkF m 0 #[rv b1_1] [])) _
    refine XS.aloadN X0.here hx rfl (hb hby d6_0) rfl rfl ?_
    refine st1 _ ?_
    exact X1.returnOut hx Bd.returns (hb hby d6_4) hr
  · exact ⟨rfl, N0, e1⟩
def Q_rm5_0 (Z : State) (jk : Int64) (b1_1 : Addr) (h0 : Heap) (n0 : Nat) (v : Option Value) (h : Heap) (L : List Loc) : Prop := (v = none) ∧ (Fr n0 L) ∧ (Keep h0 h [b1_1]) ∧ (Fld Z h b1_1 "java/lang/Long" "value" "J" (.long jk)) ∧ (Exa Z h b1_1 "java/lang/Long")
set_option maxRecDepth 65536 in
set_option maxHeartbeats 40000000 in
theorem rm5_0 (l : Launch) (Z : State) (a0 : Array Value) (hw : ∀ d ∈ tables_1, d.before a0 Z = true) (ws : List Jvm.Cond) (jk : Int64) (b1_1 : Addr) (h0 : Heap) (n0 : Nat) (Z0 : n0 ≤ h0.size) (E_b1_1 : Exa Z h0 b1_1 "java/lang/Long") (F_b1_1_value : Fld Z h0 b1_1 "java/lang/Long" "value" "J" (.long (0 : Int64))) (g_b1_1 : n0 ≤ b1_1) :
    MetFree l (⟨"java/lang/Long", "<init>", "(J)V"⟩ : MethodName) (head1 (Jvm.Cond.code (⟨"java/lang/Long", "<init>", "(J)V"⟩ : MethodName) jdk_35_method_26_code 3 none :: ws) ({ frames := 2, cells := 0, slots := 0, locals := 24 } : Room)) (fun a U => a = #[(.ref b1_1), (.long jk)] ∧ Z.Warmed39 U.vm ∧ U.heap = h0) (fun _ _ _ _ _ => True) (fun _ U o U' => ∃ v L, o = .returned v ∧ Q_rm5_0 Z jk b1_1 h0 n0 v U'.heap L ∧ FrameEnd U o U' L ({ frames := 2, cells := 0, slots := 0, locals := 24 } : Room).cells ({ frames := 2, cells := 0, slots := 0, locals := 24 } : Room).slots) := by
  refine MetFree.of_bodySF (plainFor_of_name pn_1) hisR ?_
  intro p e s m args below meth c s₁ Bd hml0 hP hK
  obtain ⟨rfl, hZ, hh⟩ := hP
  have hx := Bd.exec
  have hby := Bd.bytes
  have hml : c.maxLocals = 3 := hml0
  have hown : s.vm.findClass "java/lang/Long" = some m.cls := findClass_of_methodNamed Bd.named
  have hnm := (name_of_methodNamed Bd.named Bd.method).1
  have X0 : Stand p l e ({ frames := 2, cells := 0, slots := 0, locals := 24 } : Room) s m #[(.ref b1_1), (.long jk)] below meth c s₁ [] 0 0 := Stand.of_body Bd
  have e0 : s₁.heap = h0 := by rw [← hh, Bd.state]; rfl
  have N0 := Fr.nil n0
  have pre0 : ∀ t, Steps p.tables e below (s₁.setTop (mkF m 0 #[rv b1_1, own_jv jk, .second] [])) t → Steps p.tables e below (s₁.setTop (entryFrame m #[(.ref b1_1), (.long jk)] 3)) t := fun t k => castTop (ef_5_RJ m b1_1 jk) k
  obtain ⟨_, _, ⟨T1, L1, k1, n1⟩, -, X1, ⟨Lc1, hQ1, l1, y1, z1⟩, st1⟩ := X0.specialBack hx (y := (⟨"java/lang/Number", "<init>", "()V"⟩ : MethodName)) rfl hown (mvT hZ (hw _ (List.mem_of_getElem? (i := 33) rfl))) (mvT hZ (hw _ (List.mem_of_getElem? (i := 34) rfl))) (mvT hZ (hw _ (List.mem_of_getElem? (i := 38) rfl))) (by decide) (backOf (W := 0) (rm6_0 l Z a0 hw [] b1_1 h0 n0 Z0 ) hZ (hw _ (List.mem_of_getElem? (i := 38) rfl)) (hw _ (List.mem_of_getElem? (i := 37) rfl)) (by decide) (by decide)) (g := (mkF m 1 #[rv b1_1, own_jv jk, .second] [(.ref b1_1)])) rfl (by rw [hml]; rfl) (Steps.refl _) (a := b1_1) (argsL := []) (rest := []) (lenOf pd_0 rfl) rfl (by show 2 * 0 + _ ≤ _; exact Nat.le_of_eq rfl) (hb hby d5_1) (fun _ _ => ⟨rfl, e0, (by decide : 0 + 0 ≤ _), (by decide : 0 + 0 ≤ _)⟩)
  dsimp only [Pt.U, Pt.locs, Pt.cells, Pt.slots] at X1 l1 y1 z1 st1 hQ1
  subst l1 y1 z1
  obtain ⟨rfl, N1q, e1⟩ := hQ1
  have N1 := Fr.app N0 N1q
  obtain ⟨T2, h2, X2, e2, W2, st2⟩ := putF X1 hx hZ hown (host := "") (Or.inl (hw _ (List.mem_of_getElem? (i := 40) rfl))) Via.refl e1 F_b1_1_value E_b1_1 (Or.inr ⟨(hw _ (List.mem_of_getElem? (i := 41) rfl)), rfl, hnm⟩) (hw _ (List.mem_of_getElem? (i := 28) rfl)) (ty := .long) (by decide) rfl rfl (g := (mkF m 6 #[rv b1_1, own_jv jk, .second] [(.long jk), (.ref b1_1)])) rfl rfl (hb hby d5_6)
  have fw2 : Fld Z h2 b1_1 "java/lang/Long" "value" "J" (.long jk) := F_b1_1_value.same W2
  have Z2 : n0 ≤ h2.size := Nat.le_trans Z0 (Keep.of_wr W2).1
  have KK2 : Keep h0 h2 [b1_1] := (Keep.refl h0 [b1_1]).wr W2 (Or.inl (List.mem_of_getElem? (i := 0) rfl))
  have N2 := Fr.snoc X2 N1 g_b1_1
  have c3 := (E_b1_1.wr W2)
  obtain ⟨fs, hr, hrun, hended, hW, hsame⟩ := X2.leave (v := none) (fun _ => rfl)
  refine ⟨_, _, pre0 _ ?_, hrun, hended, _, _, rfl, ?_, ⟨_, rfl⟩, hW, hsame.mono (by decide) (by decide)⟩
  · show Steps p.tables e below (s₁.setTop (mkF m 0 #[rv b1_1, own_jv jk, .second] [])) _
    refine XS.aloadN X0.here hx rfl (hb hby d5_0) rfl rfl ?_
    refine st1.trans ?_
    refine XS.aloadN X1.here hx rfl (hb hby d5_4) rfl rfl ?_
    refine XS.lloadN X1.here hx rfl (hb hby d5_5) rfl ?_
    refine st2 _ ?_
    exact X2.returnOut hx Bd.returns (hb hby d5_9) hr
  · exact (by show Q_rm5_0 Z jk b1_1 h0 n0 _ T2.heap _; rw [e2]; exact ⟨rfl, N2, KK2, fw2, c3⟩)
def Q_rk_boxJ_0 (Z : State) (jk : Int64) (h0 : Heap) (n0 : Nat) (v : Option Value) (h : Heap) (L : List Loc) : Prop := ∃ b1_1 : Addr, (v = (some (.ref b1_1))) ∧ (Fr n0 L) ∧ (Keep h0 h []) ∧ (n0 ≤ b1_1) ∧ (h0.size ≤ b1_1) ∧ (Exa Z h b1_1 "java/lang/Long") ∧ (Fld Z h b1_1 "java/lang/Long" "value" "J" (.long jk))
set_option maxRecDepth 65536 in
set_option maxHeartbeats 40000000 in
theorem rk_boxJ_0 (l : Launch) (Z : State) (a0 : Array Value) (hw : ∀ d ∈ tables_1, d.before a0 Z = true) (ws : List Jvm.Cond) (jk : Int64) (h0 : Heap) (n0 : Nat) (Z0 : n0 ≤ h0.size) (hlo : jk < (-128 : Int64)) :
    MetFree l (⟨"java/lang/Long", "valueOf", "(J)Ljava/lang/Long;"⟩ : MethodName) (head1 (Jvm.Cond.code (⟨"java/lang/Long", "valueOf", "(J)Ljava/lang/Long;"⟩ : MethodName) jdk_35_method_24_code 3 (some (.object "java/lang/Long")) :: ws) ({ frames := 3, cells := 1, slots := 1, locals := 39 } : Room)) (fun a U => a = #[(.long jk)] ∧ Z.Warmed39 U.vm ∧ U.heap = h0) (fun _ _ _ _ _ => True) (fun _ U o U' => ∃ v L, o = .returned v ∧ Q_rk_boxJ_0 Z jk h0 n0 v U'.heap L ∧ FrameEnd U o U' L ({ frames := 3, cells := 1, slots := 1, locals := 39 } : Room).cells ({ frames := 3, cells := 1, slots := 1, locals := 39 } : Room).slots) := by
  refine MetFree.of_bodySF (plainFor_of_name pn_1) hisR ?_
  intro p e s m args below meth c s₁ Bd hml0 hP hK
  obtain ⟨rfl, hZ, hh⟩ := hP
  have hx := Bd.exec
  have hby := Bd.bytes
  have hml : c.maxLocals = 3 := hml0
  have hown : s.vm.findClass "java/lang/Long" = some m.cls := findClass_of_methodNamed Bd.named
  have hnm := (name_of_methodNamed Bd.named Bd.method).1
  have X0 : Stand p l e ({ frames := 3, cells := 1, slots := 1, locals := 39 } : Room) s m #[(.long jk)] below meth c s₁ [] 0 0 := Stand.of_body Bd
  have e0 : s₁.heap = h0 := by rw [← hh, Bd.state]; rfl
  have N0 := Fr.nil n0
  have pre0 : ∀ t, Steps p.tables e below (s₁.setTop (mkF m 0 #[own_jv jk, .second, .unset] [])) t → Steps p.tables e below (s₁.setTop (entryFrame m #[(.long jk)] 3)) t := fun t k => castTop (ef_4_J m jk) k
  obtain ⟨T1, h1, X1, e1, E1, A1, D1, -, st1⟩ := newO X0 hx hZ hown (hw _ (List.mem_of_getElem? (i := 27) rfl)) (hw _ (List.mem_of_getElem? (i := 28) rfl)) (hw _ (List.mem_of_getElem? (i := 23) rfl)) e0 (g := (mkF m 31 #[own_jv jk, .second, iv (128 : Int32)] [])) rfl (hb hby d4_31) (by decide) (by decide)
  obtain ⟨b1_1, gg1⟩ : ∃ z, z = h0.size := ⟨_, rfl⟩
  rw [← gg1] at A1 D1 st1
  have g_b1_1 : n0 ≤ b1_1 := Nat.le_trans Z0 (Nat.le_of_eq gg1.symm)
  have sz_b1_1 : h0.size ≤ b1_1 := Nat.le_trans (Keep.refl h0 []).1 (Nat.le_of_eq gg1.symm)
  have Z1 : n0 ≤ h1.size := Nat.le_trans Z0 E1.1
  have KK1 : Keep h0 h1 [] := (Keep.refl h0 []).ext E1
  have E_b1_1 : Exa Z h1 b1_1 "java/lang/Long" := A1
  have F_b1_1_value : Fld Z h1 b1_1 "java/lang/Long" "value" "J" (.long (0 : Int64)) := D1 (Or.inr (hw _ (List.mem_of_getElem? (i := 41) rfl))) (ty := .long) (by decide)
  obtain ⟨_, _, ⟨T2, L2, k2, n2⟩, -, X2, ⟨Lc2, hQ2, l2, y2, z2⟩, st2⟩ := X1.specialBack hx (y := (⟨"java/lang/Long", "<init>", "(J)V"⟩ : MethodName)) rfl hown (mvT hZ (hw _ (List.mem_of_getElem? (i := 29) rfl))) (mvT hZ (hw _ (List.mem_of_getElem? (i := 30) rfl))) (mvT hZ (hw _ (List.mem_of_getElem? (i := 32) rfl))) (by decide) (backOf (W := 1) (rm5_0 l Z a0 hw [] jk b1_1 h1 n0 Z1 E_b1_1 F_b1_1_value g_b1_1) hZ (hw _ (List.mem_of_getElem? (i := 32) rfl)) (hw _ (List.mem_of_getElem? (i := 23) rfl)) (by decide) (by decide)) (g := (mkF m 36 #[own_jv jk, .second, iv (128 : Int32)] [(.long jk), (.ref b1_1), (.ref b1_1)])) rfl (by rw [hml]; rfl) (Steps.refl _) (a := b1_1) (argsL := [(.long jk)]) (rest := [(.ref b1_1)]) (lenOf pd_1 rfl) rfl (by show 2 * 0 + _ ≤ _; exact Nat.le_of_eq rfl) (hb hby d4_36) (fun _ _ => ⟨rfl, e1, (by decide : 1 + 0 ≤ _), (by decide : 1 + 0 ≤ _)⟩)
  dsimp only [Pt.U, Pt.locs, Pt.cells, Pt.slots] at X2 l2 y2 z2 st2 hQ2
  subst l2 y2 z2
  obtain ⟨rfl, N2q, K2, fq2_0, fq2_1⟩ := hQ2
  have KK2 : Keep h0 T2.heap [] := KK1.trans K2 (allS (P := fun x => x ∈ [] ∨ h0.size ≤ x) (Or.inr sz_b1_1) all0)
  have Z2 : n0 ≤ T2.heap.size := Nat.le_trans Z1 K2.1
  have N2 := Fr.app N0 N2q
  obtain ⟨fs, hr, hrun, hended, hW, hsame⟩ := X2.leave (v := (some (.ref b1_1))) (fun h => by rw [Bd.returns] at h; cases h)
  refine ⟨_, _, pre0 _ ?_, hrun, hended, _, _, rfl, ?_, ⟨_, rfl⟩, hW, hsame.mono (by decide) (by decide)⟩
  · show Steps p.tables e below (s₁.setTop (mkF m 0 #[own_jv jk, .second, .unset] [])) _
    refine XS.sipush X0.here hx rfl (hb hby d4_0) ?_
    refine XS.istoreN X0.here hx rfl (hb hby d4_3) rfl (l' := #[own_jv jk, .second, iv (128 : Int32)]) rfl ?_
    refine XS.lloadN X0.here hx rfl (hb hby d4_4) rfl ?_
    refine X0.ldc2Long hx hown (mvT hZ (hw _ (List.mem_of_getElem? (i := 25) rfl))) (g := (mkF m 5 #[own_jv jk, .second, iv (128 : Int32)] [(.long jk)])) rfl (hb hby d4_5) _ ?_
    refine XS.lcmp X0.here hx rfl (hb hby d4_8) rfl ?_
    refine XS.ifYes X0.here hx rfl (pc0 := 9) (pc' := 31) rfl (hb hby d4_9) rfl ((if0 _ _).trans ((if0 _ _).symm.trans (Jvm.Free.XT.ll_lt_t hlo))) (by decide) (by decide) ?_
    refine st1 _ ?_
    refine XS.dup X1.here hx rfl (hb hby d4_34) rfl rfl ?_
    show Steps p.tables e below (T1.setTop (mkF m 35 #[own_jv jk, .second, iv (128 : Int32)] [(.ref b1_1), (.ref b1_1)])) _
    refine XS.lloadN X1.here hx rfl (hb hby d4_35) rfl ?_
    refine st2.trans ?_
    exact own_retA X2 hx Bd.returns rfl rfl (hb hby d4_39) hr
  · exact (by show Q_rk_boxJ_0 Z jk h0 n0 _ T2.heap _; exact ⟨b1_1, rfl, N2, KK2, g_b1_1, sz_b1_1, fq2_1, fq2_0⟩)
def Q_rk_boxJ_1 (Z : State) (jk : Int64) (h0 : Heap) (n0 : Nat) (v : Option Value) (h : Heap) (L : List Loc) : Prop := ∃ b1_1 : Addr, (v = (some (.ref b1_1))) ∧ (Fr n0 L) ∧ (Keep h0 h []) ∧ (n0 ≤ b1_1) ∧ (h0.size ≤ b1_1) ∧ (Exa Z h b1_1 "java/lang/Long") ∧ (Fld Z h b1_1 "java/lang/Long" "value" "J" (.long jk))
set_option maxRecDepth 65536 in
set_option maxHeartbeats 40000000 in
theorem rk_boxJ_1 (l : Launch) (Z : State) (a0 : Array Value) (hw : ∀ d ∈ tables_1, d.before a0 Z = true) (ws : List Jvm.Cond) (jk : Int64) (h0 : Heap) (n0 : Nat) (Z0 : n0 ≤ h0.size) (hlo : ¬ (jk < (-128 : Int64))) (hhi : (127 : Int64) < jk) :
    MetFree l (⟨"java/lang/Long", "valueOf", "(J)Ljava/lang/Long;"⟩ : MethodName) (head1 (Jvm.Cond.code (⟨"java/lang/Long", "valueOf", "(J)Ljava/lang/Long;"⟩ : MethodName) jdk_35_method_24_code 3 (some (.object "java/lang/Long")) :: ws) ({ frames := 3, cells := 1, slots := 1, locals := 39 } : Room)) (fun a U => a = #[(.long jk)] ∧ Z.Warmed39 U.vm ∧ U.heap = h0) (fun _ _ _ _ _ => True) (fun _ U o U' => ∃ v L, o = .returned v ∧ Q_rk_boxJ_1 Z jk h0 n0 v U'.heap L ∧ FrameEnd U o U' L ({ frames := 3, cells := 1, slots := 1, locals := 39 } : Room).cells ({ frames := 3, cells := 1, slots := 1, locals := 39 } : Room).slots) := by
  refine MetFree.of_bodySF (plainFor_of_name pn_1) hisR ?_
  intro p e s m args below meth c s₁ Bd hml0 hP hK
  obtain ⟨rfl, hZ, hh⟩ := hP
  have hx := Bd.exec
  have hby := Bd.bytes
  have hml : c.maxLocals = 3 := hml0
  have hown : s.vm.findClass "java/lang/Long" = some m.cls := findClass_of_methodNamed Bd.named
  have hnm := (name_of_methodNamed Bd.named Bd.method).1
  have X0 : Stand p l e ({ frames := 3, cells := 1, slots := 1, locals := 39 } : Room) s m #[(.long jk)] below meth c s₁ [] 0 0 := Stand.of_body Bd
  have e0 : s₁.heap = h0 := by rw [← hh, Bd.state]; rfl
  have N0 := Fr.nil n0
  have pre0 : ∀ t, Steps p.tables e below (s₁.setTop (mkF m 0 #[own_jv jk, .second, .unset] [])) t → Steps p.tables e below (s₁.setTop (entryFrame m #[(.long jk)] 3)) t := fun t k => castTop (ef_4_J m jk) k
  obtain ⟨T1, h1, X1, e1, E1, A1, D1, -, st1⟩ := newO X0 hx hZ hown (hw _ (List.mem_of_getElem? (i := 27) rfl)) (hw _ (List.mem_of_getElem? (i := 28) rfl)) (hw _ (List.mem_of_getElem? (i := 23) rfl)) e0 (g := (mkF m 31 #[own_jv jk, .second, iv (128 : Int32)] [])) rfl (hb hby d4_31) (by decide) (by decide)
  obtain ⟨b1_1, gg1⟩ : ∃ z, z = h0.size := ⟨_, rfl⟩
  rw [← gg1] at A1 D1 st1
  have g_b1_1 : n0 ≤ b1_1 := Nat.le_trans Z0 (Nat.le_of_eq gg1.symm)
  have sz_b1_1 : h0.size ≤ b1_1 := Nat.le_trans (Keep.refl h0 []).1 (Nat.le_of_eq gg1.symm)
  have Z1 : n0 ≤ h1.size := Nat.le_trans Z0 E1.1
  have KK1 : Keep h0 h1 [] := (Keep.refl h0 []).ext E1
  have E_b1_1 : Exa Z h1 b1_1 "java/lang/Long" := A1
  have F_b1_1_value : Fld Z h1 b1_1 "java/lang/Long" "value" "J" (.long (0 : Int64)) := D1 (Or.inr (hw _ (List.mem_of_getElem? (i := 41) rfl))) (ty := .long) (by decide)
  obtain ⟨_, _, ⟨T2, L2, k2, n2⟩, -, X2, ⟨Lc2, hQ2, l2, y2, z2⟩, st2⟩ := X1.specialBack hx (y := (⟨"java/lang/Long", "<init>", "(J)V"⟩ : MethodName)) rfl hown (mvT hZ (hw _ (List.mem_of_getElem? (i := 29) rfl))) (mvT hZ (hw _ (List.mem_of_getElem? (i := 30) rfl))) (mvT hZ (hw _ (List.mem_of_getElem? (i := 32) rfl))) (by decide) (backOf (W := 1) (rm5_0 l Z a0 hw [] jk b1_1 h1 n0 Z1 E_b1_1 F_b1_1_value g_b1_1) hZ (hw _ (List.mem_of_getElem? (i := 32) rfl)) (hw _ (List.mem_of_getElem? (i := 23) rfl)) (by decide) (by decide)) (g := (mkF m 36 #[own_jv jk, .second, iv (128 : Int32)] [(.long jk), (.ref b1_1), (.ref b1_1)])) rfl (by rw [hml]; rfl) (Steps.refl _) (a := b1_1) (argsL := [(.long jk)]) (rest := [(.ref b1_1)]) (lenOf pd_1 rfl) rfl (by show 2 * 0 + _ ≤ _; exact Nat.le_of_eq rfl) (hb hby d4_36) (fun _ _ => ⟨rfl, e1, (by decide : 1 + 0 ≤ _), (by decide : 1 + 0 ≤ _)⟩)
  dsimp only [Pt.U, Pt.locs, Pt.cells, Pt.slots] at X2 l2 y2 z2 st2 hQ2
  subst l2 y2 z2
  obtain ⟨rfl, N2q, K2, fq2_0, fq2_1⟩ := hQ2
  have KK2 : Keep h0 T2.heap [] := KK1.trans K2 (allS (P := fun x => x ∈ [] ∨ h0.size ≤ x) (Or.inr sz_b1_1) all0)
  have Z2 : n0 ≤ T2.heap.size := Nat.le_trans Z1 K2.1
  have N2 := Fr.app N0 N2q
  obtain ⟨fs, hr, hrun, hended, hW, hsame⟩ := X2.leave (v := (some (.ref b1_1))) (fun h => by rw [Bd.returns] at h; cases h)
  refine ⟨_, _, pre0 _ ?_, hrun, hended, _, _, rfl, ?_, ⟨_, rfl⟩, hW, hsame.mono (by decide) (by decide)⟩
  · show Steps p.tables e below (s₁.setTop (mkF m 0 #[own_jv jk, .second, .unset] [])) _
    refine XS.sipush X0.here hx rfl (hb hby d4_0) ?_
    refine XS.istoreN X0.here hx rfl (hb hby d4_3) rfl (l' := #[own_jv jk, .second, iv (128 : Int32)]) rfl ?_
    refine XS.lloadN X0.here hx rfl (hb hby d4_4) rfl ?_
    refine X0.ldc2Long hx hown (mvT hZ (hw _ (List.mem_of_getElem? (i := 25) rfl))) (g := (mkF m 5 #[own_jv jk, .second, iv (128 : Int32)] [(.long jk)])) rfl (hb hby d4_5) _ ?_
    refine XS.lcmp X0.here hx rfl (hb hby d4_8) rfl ?_
    refine XS.ifNo X0.here hx rfl (hb hby d4_9) rfl ((if0 _ _).trans ((if0 _ _).symm.trans (Jvm.Free.XT.ll_lt_f hlo))) ?_
    refine XS.lloadN X0.here hx rfl (hb hby d4_12) rfl ?_
    refine X0.ldc2Long hx hown (mvT hZ (hw _ (List.mem_of_getElem? (i := 26) rfl))) (g := (mkF m 13 #[own_jv jk, .second, iv (128 : Int32)] [(.long jk)])) rfl (hb hby d4_13) _ ?_
    show Steps p.tables e below (s₁.setTop (mkF m 16 #[own_jv jk, .second, iv (128 : Int32)] [(.long (127 : Int64)), (.long jk)])) _
    refine XS.lcmp X0.here hx rfl (hb hby d4_16) rfl ?_
    refine XS.ifYes X0.here hx rfl (pc0 := 17) (pc' := 31) rfl (hb hby d4_17) rfl ((if0 _ _).trans ((if0 _ _).symm.trans (Jvm.Free.XT.ll_gt_t hhi))) (by decide) (by decide) ?_
    refine st1 _ ?_
    refine XS.dup X1.here hx rfl (hb hby d4_34) rfl rfl ?_
    refine XS.lloadN X1.here hx rfl (hb hby d4_35) rfl ?_
    refine st2.trans ?_
    exact own_retA X2 hx Bd.returns rfl rfl (hb hby d4_39) hr
  · exact (by show Q_rk_boxJ_1 Z jk h0 n0 _ T2.heap _; exact ⟨b1_1, rfl, N2, KK2, g_b1_1, sz_b1_1, fq2_1, fq2_0⟩)
def Q_rk_boxJ_2 (Z : State)  (h0 : Heap) (n0 : Nat) (v : Option Value) (h : Heap) (L : List Loc) : Prop := ∃ b1_2 : Addr, (v = (some (.ref b1_2))) ∧ (Fr n0 L) ∧ (Keep h0 h []) ∧ (Exa Z h b1_2 "java/lang/Long")
set_option maxRecDepth 65536 in
set_option maxHeartbeats 40000000 in
theorem rk_boxJ_2 (l : Launch) (Z : State) (a0 : Array Value) (hw : ∀ d ∈ tables_1, d.before a0 Z = true) (ws : List Jvm.Cond) (w_LongCache_cache : Addr) (jk : Int64) (h0 : Heap) (n0 : Nat) (Z0 : n0 ≤ h0.size) (hlo : ¬ (jk < (-128 : Int64))) (hhi : ¬ ((127 : Int64) < jk)) (S_LongCache_cache : Sta Z h0 "java/lang/Long$LongCache" "cache" "[Ljava/lang/Long;" (.ref w_LongCache_cache)) (CA_w_LongCache_cache : own_Cache Z h0 w_LongCache_cache "java/lang/Long") :
    MetFree l (⟨"java/lang/Long", "valueOf", "(J)Ljava/lang/Long;"⟩ : MethodName) (head1 (Jvm.Cond.code (⟨"java/lang/Long", "valueOf", "(J)Ljava/lang/Long;"⟩ : MethodName) jdk_35_method_24_code 3 (some (.object "java/lang/Long")) :: ws) ({ frames := 3, cells := 1, slots := 1, locals := 39 } : Room)) (fun a U => a = #[(.long jk)] ∧ Z.Warmed39 U.vm ∧ U.heap = h0) (fun _ _ _ _ _ => True) (fun _ U o U' => ∃ v L, o = .returned v ∧ Q_rk_boxJ_2 Z  h0 n0 v U'.heap L ∧ FrameEnd U o U' L ({ frames := 3, cells := 1, slots := 1, locals := 39 } : Room).cells ({ frames := 3, cells := 1, slots := 1, locals := 39 } : Room).slots) := by
  refine MetFree.of_bodySF (plainFor_of_name pn_1) hisR ?_
  intro p e s m args below meth c s₁ Bd hml0 hP hK
  obtain ⟨rfl, hZ, hh⟩ := hP
  have hx := Bd.exec
  have hby := Bd.bytes
  have hml : c.maxLocals = 3 := hml0
  have hown : s.vm.findClass "java/lang/Long" = some m.cls := findClass_of_methodNamed Bd.named
  have hnm := (name_of_methodNamed Bd.named Bd.method).1
  have X0 : Stand p l e ({ frames := 3, cells := 1, slots := 1, locals := 39 } : Room) s m #[(.long jk)] below meth c s₁ [] 0 0 := Stand.of_body Bd
  have e0 : s₁.heap = h0 := by rw [← hh, Bd.state]; rfl
  have N0 := Fr.nil n0
  have pre0 : ∀ t, Steps p.tables e below (s₁.setTop (mkF m 0 #[own_jv jk, .second, .unset] [])) t → Steps p.tables e below (s₁.setTop (entryFrame m #[(.long jk)] 3)) t := fun t k => castTop (ef_4_J m jk) k
  obtain ⟨T1, X1, e1, st1⟩ := getS2 X0 hx hZ hown (host := "") (Or.inl (hw _ (List.mem_of_getElem? (i := 45) rfl))) Via.refl e0 S_LongCache_cache (g := (mkF m 20 #[own_jv jk, .second, iv (128 : Int32)] [])) rfl (hb hby d4_20)
  obtain ⟨cl2, Ar2, Sz2, Hc2⟩ := id CA_w_LongCache_cache
  obtain ⟨b1_2, hat2, E_b1_2⟩ := Hc2 _ (own_idxJ hlo hhi).2
  obtain ⟨fs, hr, hrun, hended, hW, hsame⟩ := X1.leave (v := (some (.ref b1_2))) (fun h => by rw [Bd.returns] at h; cases h)
  refine ⟨_, _, pre0 _ ?_, hrun, hended, _, _, rfl, ?_, ⟨_, rfl⟩, hW, hsame.mono (by decide) (by decide)⟩
  · show Steps p.tables e below (s₁.setTop (mkF m 0 #[own_jv jk, .second, .unset] [])) _
    refine XS.sipush X0.here hx rfl (hb hby d4_0) ?_
    refine XS.istoreN X0.here hx rfl (hb hby d4_3) rfl (l' := #[own_jv jk, .second, iv (128 : Int32)]) rfl ?_
    refine XS.lloadN X0.here hx rfl (hb hby d4_4) rfl ?_
    refine X0.ldc2Long hx hown (mvT hZ (hw _ (List.mem_of_getElem? (i := 25) rfl))) (g := (mkF m 5 #[own_jv jk, .second, iv (128 : Int32)] [(.long jk)])) rfl (hb hby d4_5) _ ?_
    refine XS.lcmp X0.here hx rfl (hb hby d4_8) rfl ?_
    refine XS.ifNo X0.here hx rfl (hb hby d4_9) rfl ((if0 _ _).trans ((if0 _ _).symm.trans (Jvm.Free.XT.ll_lt_f hlo))) ?_
    refine XS.lloadN X0.here hx rfl (hb hby d4_12) rfl ?_
    refine X0.ldc2Long hx hown (mvT hZ (hw _ (List.mem_of_getElem? (i := 26) rfl))) (g := (mkF m 13 #[own_jv jk, .second, iv (128 : Int32)] [(.long jk)])) rfl (hb hby d4_13) _ ?_
    show Steps p.tables e below (s₁.setTop (mkF m 16 #[own_jv jk, .second, iv (128 : Int32)] [(.long (127 : Int64)), (.long jk)])) _
    refine XS.lcmp X0.here hx rfl (hb hby d4_16) rfl ?_
    refine XS.ifNo X0.here hx rfl (hb hby d4_17) rfl ((if0 _ _).trans ((if0 _ _).symm.trans (Jvm.Free.XT.ll_gt_f hhi))) ?_
    refine st1 _ ?_
    refine XS.lloadN X1.here hx rfl (hb hby d4_23) rfl ?_
    refine XS.l2i X1.here hx rfl (hb hby d4_24) rfl ?_
    refine XS.sipush X1.here hx rfl (hb hby d4_25) ?_
    refine XS.iadd X1.here hx rfl (hb hby d4_28) rfl ?_
    refine X1.aaload hx (j := ((jk.toInt32) + (128 : Int32))) (v := (.ref b1_2)) (by rw [e1]; exact Ar2.1) (State.isArrayOf_alike hZ.alike Ar2.2.1) rfl Ar2.2.2 (by rw [Sz2]; exact (own_idxJ hlo hhi).1) hat2 (g := (mkF m 29 #[own_jv jk, .second, iv (128 : Int32)] [(.int ((jk.toInt32) + (128 : Int32))), (.ref w_LongCache_cache)])) rfl rfl (hb hby d4_29) _ ?_
    show Steps p.tables e below (T1.setTop (mkF m 30 #[own_jv jk, .second, iv (128 : Int32)] [(.ref b1_2)])) _
    exact own_retA X1 hx Bd.returns rfl rfl (hb hby d4_30) hr
  · exact (by show Q_rk_boxJ_2 Z  h0 n0 _ T1.heap _; rw [e1]; exact ⟨b1_2, rfl, N0, (Keep.refl h0 []), E_b1_2⟩)
set_option maxRecDepth 65536 in
set_option maxHeartbeats 40000000 in
theorem rk_boxJ (l : Launch) (Z : State) (a0 : Array Value) (hw : ∀ d ∈ tables_1, d.before a0 Z = true) (ws : List Jvm.Cond) (w_LongCache_cache : Addr) (jk : Int64) (h0 : Heap) (n0 : Nat) (Z0 : n0 ≤ h0.size) (S_LongCache_cache : Sta Z h0 "java/lang/Long$LongCache" "cache" "[Ljava/lang/Long;" (.ref w_LongCache_cache)) (CA_w_LongCache_cache : own_Cache Z h0 w_LongCache_cache "java/lang/Long") :
    MetFree l (⟨"java/lang/Long", "valueOf", "(J)Ljava/lang/Long;"⟩ : MethodName) (head1 (Jvm.Cond.code (⟨"java/lang/Long", "valueOf", "(J)Ljava/lang/Long;"⟩ : MethodName) jdk_35_method_24_code 3 (some (.object "java/lang/Long")) :: ws) ({ frames := 3, cells := 1, slots := 1, locals := 39 } : Room)) (fun a U => a = #[(.long jk)] ∧ Z.Warmed39 U.vm ∧ U.heap = h0) (fun _ _ _ _ _ => True) (fun _ U o U' => ∃ v L, o = .returned v ∧ own_QB Z "java/lang/Long" h0 n0 v U'.heap L ∧ FrameEnd U o U' L ({ frames := 3, cells := 1, slots := 1, locals := 39 } : Room).cells ({ frames := 3, cells := 1, slots := 1, locals := 39 } : Room).slots) := by
  rcases own_rng64 jk with hlo | ⟨hlo, hhi⟩ | ⟨hlo, hhi⟩
  · exact own_imp (rk_boxJ_0 l Z a0 hw ws jk h0 n0 Z0 hlo) (fun v h L q => by obtain ⟨b, rfl, N, K, -, -, E, -⟩ := q; exact ⟨b, rfl, N, K, E⟩)
  · exact own_imp (rk_boxJ_1 l Z a0 hw ws jk h0 n0 Z0 hlo hhi) (fun v h L q => by obtain ⟨b, rfl, N, K, -, -, E, -⟩ := q; exact ⟨b, rfl, N, K, E⟩)
  · exact own_imp (rk_boxJ_2 l Z a0 hw ws w_LongCache_cache jk h0 n0 Z0 hlo hhi S_LongCache_cache CA_w_LongCache_cache) (fun v h L q => by obtain ⟨b, rfl, N, K, E⟩ := q; exact ⟨b, rfl, N, K, E⟩)
def Q_rm1_2 (Z : State) (m0 : Int64) (m1 : Int64) (b0_1 : Addr) (h0 : Heap) (n0 : Nat) (v : Option Value) (h : Heap) (L : List Loc) : Prop := (v = none) ∧ (Fr n0 L) ∧ (Keep h0 h [b0_1]) ∧ (Fld Z h b0_1 "com/example/allotd/allotd/engine/Tokens" "input" "J" (.long m0)) ∧ (Fld Z h b0_1 "com/example/allotd/allotd/engine/Tokens" "output" "J" (.long m1)) ∧ (Exa Z h b0_1 "com/example/allotd/allotd/engine/Tokens")
set_option maxRecDepth 65536 in
set_option maxHeartbeats 40000000 in
theorem rm1_2 (l : Launch) (Z : State) (a0 : Array Value) (hw : ∀ d ∈ tables_1, d.before a0 Z = true) (ws : List Jvm.Cond) (m0 : Int64) (m1 : Int64) (b0_1 : Addr) (h0 : Heap) (n0 : Nat) (Z0 : n0 ≤ h0.size) (hn0 : ¬ (m0 < (0 : Int64))) (hn1 : ¬ (m1 < (0 : Int64))) (E_b0_1 : Exa Z h0 b0_1 "com/example/allotd/allotd/engine/Tokens") (F_b0_1_input : Fld Z h0 b0_1 "com/example/allotd/allotd/engine/Tokens" "input" "J" (.long (0 : Int64))) (g_b0_1 : n0 ≤ b0_1) (F_b0_1_output : Fld Z h0 b0_1 "com/example/allotd/allotd/engine/Tokens" "output" "J" (.long (0 : Int64))) :
    MetFree l (⟨"com/example/allotd/allotd/engine/Tokens", "<init>", "(JJ)V"⟩ : MethodName) (head1 (Jvm.Cond.code (⟨"com/example/allotd/allotd/engine/Tokens", "<init>", "(JJ)V"⟩ : MethodName) prog_21_method_1_code 5 none :: ws) ({ frames := 1, cells := 0, slots := 0, locals := 12 } : Room)) (fun a U => a = #[(.ref b0_1), (.long m0), (.long m1)] ∧ Z.Warmed39 U.vm ∧ U.heap = h0) (fun _ _ _ _ _ => True) (fun _ U o U' => ∃ v L, o = .returned v ∧ Q_rm1_2 Z m0 m1 b0_1 h0 n0 v U'.heap L ∧ FrameEnd U o U' L ({ frames := 1, cells := 0, slots := 0, locals := 12 } : Room).cells ({ frames := 1, cells := 0, slots := 0, locals := 12 } : Room).slots) := by
  refine MetFree.of_bodySF (plainFor_of_name pn_2) hisR ?_
  intro p e s m args below meth c s₁ Bd hml0 hP hK
  obtain ⟨rfl, hZ, hh⟩ := hP
  have hx := Bd.exec
  have hby := Bd.bytes
  have hml : c.maxLocals = 5 := hml0
  have hown : s.vm.findClass "com/example/allotd/allotd/engine/Tokens" = some m.cls := findClass_of_methodNamed Bd.named
  have hnm := (name_of_methodNamed Bd.named Bd.method).1
  have X0 : Stand p l e ({ frames := 1, cells := 0, slots := 0, locals := 12 } : Room) s m #[(.ref b0_1), (.long m0), (.long m1)] below meth c s₁ [] 0 0 := Stand.of_body Bd
  have e0 : s₁.heap = h0 := by rw [← hh, Bd.state]; rfl
  have N0 := Fr.nil n0
  have pre0 : ∀ t, Steps p.tables e below (s₁.setTop (mkF m 0 #[rv b0_1, own_jv m0, .second, own_jv m1, .second] [])) t → Steps p.tables e below (s₁.setTop (entryFrame m #[(.ref b0_1), (.long m0), (.long m1)] 5)) t := fun t k => castTop (ef_1_RJJ m b0_1 m0 m1) k
  obtain ⟨T1, X1, e1, st1⟩ := initO X0 hx hZ hown (hw _ (List.mem_of_getElem? (i := 7) rfl)) (hw _ (List.mem_of_getElem? (i := 8) rfl)) (hw _ (List.mem_of_getElem? (i := 9) rfl)) e0 (g := (mkF m 1 #[rv b0_1, own_jv m0, .second, own_jv m1, .second] [(.ref b0_1)])) rfl (by rw [hml]; rfl) rfl (hb hby d1_1) (by decide) (W := 0) (by show 2 * 0 + _ ≤ _; exact Nat.le_of_eq rfl) (by decide)
  obtain ⟨T2, h2, X2, e2, W2, st2⟩ := putF X1 hx hZ hown (host := "") (Or.inl (hw _ (List.mem_of_getElem? (i := 10) rfl))) Via.refl e1 F_b0_1_input E_b0_1 (Or.inr ⟨(hw _ (List.mem_of_getElem? (i := 11) rfl)), rfl, hnm⟩) (hw _ (List.mem_of_getElem? (i := 2) rfl)) (ty := .long) (by decide) rfl rfl (g := (mkF m 33 #[rv b0_1, own_jv m0, .second, own_jv m1, .second] [(.long m0), (.ref b0_1)])) rfl rfl (hb hby d1_33)
  have fw2 : Fld Z h2 b0_1 "com/example/allotd/allotd/engine/Tokens" "input" "J" (.long m0) := F_b0_1_input.same W2
  have Z2 : n0 ≤ h2.size := Nat.le_trans Z0 (Keep.of_wr W2).1
  have KK2 : Keep h0 h2 [b0_1] := (Keep.refl h0 [b0_1]).wr W2 (Or.inl (List.mem_of_getElem? (i := 0) rfl))
  have N2 := Fr.snoc X2 N0 g_b0_1
  have c3 := (E_b0_1.wr W2)
  have c4 := (F_b0_1_output.other W2 (Or.inr (slot_ne (Or.inr (hw _ (List.mem_of_getElem? (i := 13) rfl))) (Or.inr (hw _ (List.mem_of_getElem? (i := 11) rfl))) (by decide) (t := .long) (t' := .long) (by decide) (by decide))))
  obtain ⟨T5, h5, X5, e5, W5, st5⟩ := putF X2 hx hZ hown (host := "") (Or.inl (hw _ (List.mem_of_getElem? (i := 12) rfl))) Via.refl e2 c4 c3 (Or.inr ⟨(hw _ (List.mem_of_getElem? (i := 13) rfl)), rfl, hnm⟩) (hw _ (List.mem_of_getElem? (i := 2) rfl)) (ty := .long) (by decide) rfl rfl (g := (mkF m 38 #[rv b0_1, own_jv m0, .second, own_jv m1, .second] [(.long m1), (.ref b0_1)])) rfl rfl (hb hby d1_38)
  have fw5 : Fld Z h5 b0_1 "com/example/allotd/allotd/engine/Tokens" "output" "J" (.long m1) := c4.same W5
  have Z5 : n0 ≤ h5.size := Nat.le_trans Z2 (Keep.of_wr W5).1
  have KK5 : Keep h0 h5 [b0_1] := KK2.wr W5 (Or.inl (List.mem_of_getElem? (i := 0) rfl))
  have N5 := Fr.snoc X5 N2 g_b0_1
  have c6 := (fw2.other W5 (Or.inr (slot_ne (Or.inr (hw _ (List.mem_of_getElem? (i := 11) rfl))) (Or.inr (hw _ (List.mem_of_getElem? (i := 13) rfl))) (by decide) (t := .long) (t' := .long) (by decide) (by decide))))
  have c7 := (c3.wr W5)
  obtain ⟨fs, hr, hrun, hended, hW, hsame⟩ := X5.leave (v := none) (fun _ => rfl)
  refine ⟨_, _, pre0 _ ?_, hrun, hended, _, _, rfl, ?_, ⟨_, rfl⟩, hW, hsame.mono (by decide) (by decide)⟩
  · show Steps p.tables e below (s₁.setTop (mkF m 0 #[rv b0_1, own_jv m0, .second, own_jv m1, .second] [])) _
    refine XS.aloadN X0.here hx rfl (hb hby d1_0) rfl rfl ?_
    refine st1 _ ?_
    refine XS.lloadN X1.here hx rfl (hb hby d1_4) rfl ?_
    refine XS.lconst X1.here hx rfl (hb hby d1_5) ?_
    refine XS.lcmp X1.here hx rfl (hb hby d1_6) rfl ?_
    refine XS.ifNo X1.here hx rfl (hb hby d1_7) rfl ((if0 _ _).trans ((if0 _ _).symm.trans (Jvm.Free.XT.ll_lt_f hn0))) ?_
    refine XS.lloadN X1.here hx rfl (hb hby d1_10) rfl ?_
    refine XS.lconst X1.here hx rfl (hb hby d1_11) ?_
    show Steps p.tables e below (T1.setTop (mkF m 12 #[rv b0_1, own_jv m0, .second, own_jv m1, .second] [(.long (0 : Int64)), (.long m1)])) _
    refine XS.lcmp X1.here hx rfl (hb hby d1_12) rfl ?_
    refine XS.ifYes X1.here hx rfl (pc0 := 13) (pc' := 31) rfl (hb hby d1_13) rfl ((if0 _ _).trans ((if0 _ _).symm.trans (Jvm.Free.XT.ll_ge_t hn1))) (by decide) (by decide) ?_
    refine XS.aloadN X1.here hx rfl (hb hby d1_31) rfl rfl ?_
    refine XS.lloadN X1.here hx rfl (hb hby d1_32) rfl ?_
    refine st2 _ ?_
    refine XS.aloadN X2.here hx rfl (hb hby d1_36) rfl rfl ?_
    refine XS.lloadN X2.here hx rfl (hb hby d1_37) rfl ?_
    refine st5 _ ?_
    show Steps p.tables e below (T5.setTop (mkF m 41 #[rv b0_1, own_jv m0, .second, own_jv m1, .second] [])) _
    exact X5.returnOut hx Bd.returns (hb hby d1_41) hr
  · exact (by show Q_rm1_2 Z m0 m1 b0_1 h0 n0 _ T5.heap _; rw [e5]; exact ⟨rfl, N5, KK5, c6, fw5, c7⟩)
def Q_rm1_3 (Z : State) (m2 : Int64) (m3 : Int64) (b0_3 : Addr) (h0 : Heap) (n0 : Nat) (v : Option Value) (h : Heap) (L : List Loc) : Prop := (v = none) ∧ (Fr n0 L) ∧ (Keep h0 h [b0_3]) ∧ (Fld Z h b0_3 "com/example/allotd/allotd/engine/Tokens" "input" "J" (.long m2)) ∧ (Fld Z h b0_3 "com/example/allotd/allotd/engine/Tokens" "output" "J" (.long m3)) ∧ (Exa Z h b0_3 "com/example/allotd/allotd/engine/Tokens")
set_option maxRecDepth 65536 in
set_option maxHeartbeats 40000000 in
theorem rm1_3 (l : Launch) (Z : State) (a0 : Array Value) (hw : ∀ d ∈ tables_1, d.before a0 Z = true) (ws : List Jvm.Cond) (m2 : Int64) (m3 : Int64) (b0_3 : Addr) (h0 : Heap) (n0 : Nat) (Z0 : n0 ≤ h0.size) (hn2 : ¬ (m2 < (0 : Int64))) (hn3 : ¬ (m3 < (0 : Int64))) (E_b0_3 : Exa Z h0 b0_3 "com/example/allotd/allotd/engine/Tokens") (F_b0_3_input : Fld Z h0 b0_3 "com/example/allotd/allotd/engine/Tokens" "input" "J" (.long (0 : Int64))) (g_b0_3 : n0 ≤ b0_3) (F_b0_3_output : Fld Z h0 b0_3 "com/example/allotd/allotd/engine/Tokens" "output" "J" (.long (0 : Int64))) :
    MetFree l (⟨"com/example/allotd/allotd/engine/Tokens", "<init>", "(JJ)V"⟩ : MethodName) (head1 (Jvm.Cond.code (⟨"com/example/allotd/allotd/engine/Tokens", "<init>", "(JJ)V"⟩ : MethodName) prog_21_method_1_code 5 none :: ws) ({ frames := 1, cells := 0, slots := 0, locals := 12 } : Room)) (fun a U => a = #[(.ref b0_3), (.long m2), (.long m3)] ∧ Z.Warmed39 U.vm ∧ U.heap = h0) (fun _ _ _ _ _ => True) (fun _ U o U' => ∃ v L, o = .returned v ∧ Q_rm1_3 Z m2 m3 b0_3 h0 n0 v U'.heap L ∧ FrameEnd U o U' L ({ frames := 1, cells := 0, slots := 0, locals := 12 } : Room).cells ({ frames := 1, cells := 0, slots := 0, locals := 12 } : Room).slots) := by
  refine MetFree.of_bodySF (plainFor_of_name pn_2) hisR ?_
  intro p e s m args below meth c s₁ Bd hml0 hP hK
  obtain ⟨rfl, hZ, hh⟩ := hP
  have hx := Bd.exec
  have hby := Bd.bytes
  have hml : c.maxLocals = 5 := hml0
  have hown : s.vm.findClass "com/example/allotd/allotd/engine/Tokens" = some m.cls := findClass_of_methodNamed Bd.named
  have hnm := (name_of_methodNamed Bd.named Bd.method).1
  have X0 : Stand p l e ({ frames := 1, cells := 0, slots := 0, locals := 12 } : Room) s m #[(.ref b0_3), (.long m2), (.long m3)] below meth c s₁ [] 0 0 := Stand.of_body Bd
  have e0 : s₁.heap = h0 := by rw [← hh, Bd.state]; rfl
  have N0 := Fr.nil n0
  have pre0 : ∀ t, Steps p.tables e below (s₁.setTop (mkF m 0 #[rv b0_3, own_jv m2, .second, own_jv m3, .second] [])) t → Steps p.tables e below (s₁.setTop (entryFrame m #[(.ref b0_3), (.long m2), (.long m3)] 5)) t := fun t k => castTop (ef_1_RJJ m b0_3 m2 m3) k
  obtain ⟨T1, X1, e1, st1⟩ := initO X0 hx hZ hown (hw _ (List.mem_of_getElem? (i := 7) rfl)) (hw _ (List.mem_of_getElem? (i := 8) rfl)) (hw _ (List.mem_of_getElem? (i := 9) rfl)) e0 (g := (mkF m 1 #[rv b0_3, own_jv m2, .second, own_jv m3, .second] [(.ref b0_3)])) rfl (by rw [hml]; rfl) rfl (hb hby d1_1) (by decide) (W := 0) (by show 2 * 0 + _ ≤ _; exact Nat.le_of_eq rfl) (by decide)
  obtain ⟨T2, h2, X2, e2, W2, st2⟩ := putF X1 hx hZ hown (host := "") (Or.inl (hw _ (List.mem_of_getElem? (i := 10) rfl))) Via.refl e1 F_b0_3_input E_b0_3 (Or.inr ⟨(hw _ (List.mem_of_getElem? (i := 11) rfl)), rfl, hnm⟩) (hw _ (List.mem_of_getElem? (i := 2) rfl)) (ty := .long) (by decide) rfl rfl (g := (mkF m 33 #[rv b0_3, own_jv m2, .second, own_jv m3, .second] [(.long m2), (.ref b0_3)])) rfl rfl (hb hby d1_33)
  have fw2 : Fld Z h2 b0_3 "com/example/allotd/allotd/engine/Tokens" "input" "J" (.long m2) := F_b0_3_input.same W2
  have Z2 : n0 ≤ h2.size := Nat.le_trans Z0 (Keep.of_wr W2).1
  have KK2 : Keep h0 h2 [b0_3] := (Keep.refl h0 [b0_3]).wr W2 (Or.inl (List.mem_of_getElem? (i := 0) rfl))
  have N2 := Fr.snoc X2 N0 g_b0_3
  have c3 := (E_b0_3.wr W2)
  have c4 := (F_b0_3_output.other W2 (Or.inr (slot_ne (Or.inr (hw _ (List.mem_of_getElem? (i := 13) rfl))) (Or.inr (hw _ (List.mem_of_getElem? (i := 11) rfl))) (by decide) (t := .long) (t' := .long) (by decide) (by decide))))
  obtain ⟨T5, h5, X5, e5, W5, st5⟩ := putF X2 hx hZ hown (host := "") (Or.inl (hw _ (List.mem_of_getElem? (i := 12) rfl))) Via.refl e2 c4 c3 (Or.inr ⟨(hw _ (List.mem_of_getElem? (i := 13) rfl)), rfl, hnm⟩) (hw _ (List.mem_of_getElem? (i := 2) rfl)) (ty := .long) (by decide) rfl rfl (g := (mkF m 38 #[rv b0_3, own_jv m2, .second, own_jv m3, .second] [(.long m3), (.ref b0_3)])) rfl rfl (hb hby d1_38)
  have fw5 : Fld Z h5 b0_3 "com/example/allotd/allotd/engine/Tokens" "output" "J" (.long m3) := c4.same W5
  have Z5 : n0 ≤ h5.size := Nat.le_trans Z2 (Keep.of_wr W5).1
  have KK5 : Keep h0 h5 [b0_3] := KK2.wr W5 (Or.inl (List.mem_of_getElem? (i := 0) rfl))
  have N5 := Fr.snoc X5 N2 g_b0_3
  have c6 := (fw2.other W5 (Or.inr (slot_ne (Or.inr (hw _ (List.mem_of_getElem? (i := 11) rfl))) (Or.inr (hw _ (List.mem_of_getElem? (i := 13) rfl))) (by decide) (t := .long) (t' := .long) (by decide) (by decide))))
  have c7 := (c3.wr W5)
  obtain ⟨fs, hr, hrun, hended, hW, hsame⟩ := X5.leave (v := none) (fun _ => rfl)
  refine ⟨_, _, pre0 _ ?_, hrun, hended, _, _, rfl, ?_, ⟨_, rfl⟩, hW, hsame.mono (by decide) (by decide)⟩
  · show Steps p.tables e below (s₁.setTop (mkF m 0 #[rv b0_3, own_jv m2, .second, own_jv m3, .second] [])) _
    refine XS.aloadN X0.here hx rfl (hb hby d1_0) rfl rfl ?_
    refine st1 _ ?_
    refine XS.lloadN X1.here hx rfl (hb hby d1_4) rfl ?_
    refine XS.lconst X1.here hx rfl (hb hby d1_5) ?_
    refine XS.lcmp X1.here hx rfl (hb hby d1_6) rfl ?_
    refine XS.ifNo X1.here hx rfl (hb hby d1_7) rfl ((if0 _ _).trans ((if0 _ _).symm.trans (Jvm.Free.XT.ll_lt_f hn2))) ?_
    refine XS.lloadN X1.here hx rfl (hb hby d1_10) rfl ?_
    refine XS.lconst X1.here hx rfl (hb hby d1_11) ?_
    show Steps p.tables e below (T1.setTop (mkF m 12 #[rv b0_3, own_jv m2, .second, own_jv m3, .second] [(.long (0 : Int64)), (.long m3)])) _
    refine XS.lcmp X1.here hx rfl (hb hby d1_12) rfl ?_
    refine XS.ifYes X1.here hx rfl (pc0 := 13) (pc' := 31) rfl (hb hby d1_13) rfl ((if0 _ _).trans ((if0 _ _).symm.trans (Jvm.Free.XT.ll_ge_t hn3))) (by decide) (by decide) ?_
    refine XS.aloadN X1.here hx rfl (hb hby d1_31) rfl rfl ?_
    refine XS.lloadN X1.here hx rfl (hb hby d1_32) rfl ?_
    refine st2 _ ?_
    refine XS.aloadN X2.here hx rfl (hb hby d1_36) rfl rfl ?_
    refine XS.lloadN X2.here hx rfl (hb hby d1_37) rfl ?_
    refine st5 _ ?_
    show Steps p.tables e below (T5.setTop (mkF m 41 #[rv b0_3, own_jv m2, .second, own_jv m3, .second] [])) _
    exact X5.returnOut hx Bd.returns (hb hby d1_41) hr
  · exact (by show Q_rm1_3 Z m2 m3 b0_3 h0 n0 _ T5.heap _; rw [e5]; exact ⟨rfl, N5, KK5, c6, fw5, c7⟩)
set_option maxRecDepth 65536 in
set_option maxHeartbeats 40000000 in
theorem rm3_4 (l : Launch) (Z : State) (a0 : Array Value) (hw : ∀ d ∈ tables_1, d.before a0 Z = true) (ws : List Jvm.Cond) (m0 : Int64) (m1 : Int64) (m2 : Int64) (m3 : Int64) (b0_1 : Addr) (b0_3 : Addr) (h0 : Heap) (n0 : Nat) (Z0 : n0 ≤ h0.size) (E_b0_3 : Exa Z h0 b0_3 "com/example/allotd/allotd/engine/Tokens") (F_b0_3_input : Fld Z h0 b0_3 "com/example/allotd/allotd/engine/Tokens" "input" "J" (.long m2)) (F_b0_1_input : Fld Z h0 b0_1 "com/example/allotd/allotd/engine/Tokens" "input" "J" (.long m0)) (hi2 : m2 = m0) (F_b0_3_output : Fld Z h0 b0_3 "com/example/allotd/allotd/engine/Tokens" "output" "J" (.long m3)) (F_b0_1_output : Fld Z h0 b0_1 "com/example/allotd/allotd/engine/Tokens" "output" "J" (.long m1)) (ho2 : m3 = m1) :
    MetFree l (⟨"com/example/allotd/allotd/engine/Tokens", "equals", "(Ljava/lang/Object;)Z"⟩ : MethodName) (head1 (Jvm.Cond.code (⟨"com/example/allotd/allotd/engine/Tokens", "equals", "(Ljava/lang/Object;)Z"⟩ : MethodName) prog_21_method_4_code 3 (some .boolean) :: ws) ({ frames := 0, cells := 0, slots := 0, locals := 0 } : Room)) (fun a U => a = #[(.ref b0_1), (.ref b0_3)] ∧ Z.Warmed39 U.vm ∧ U.heap = h0) (fun _ _ _ _ _ => True) (fun _ U o U' => ∃ v L, o = .returned v ∧ own_QP (some (.int (1 : Int32))) h0 n0 v U'.heap L ∧ FrameEnd U o U' L ({ frames := 0, cells := 0, slots := 0, locals := 0 } : Room).cells ({ frames := 0, cells := 0, slots := 0, locals := 0 } : Room).slots) := by
  refine MetFree.of_bodySF (plainFor_of_name pn_2) hisR ?_
  intro p e s m args below meth c s₁ Bd hml0 hP hK
  obtain ⟨rfl, hZ, hh⟩ := hP
  have hx := Bd.exec
  have hby := Bd.bytes
  have hml : c.maxLocals = 3 := hml0
  have hown : s.vm.findClass "com/example/allotd/allotd/engine/Tokens" = some m.cls := findClass_of_methodNamed Bd.named
  have hnm := (name_of_methodNamed Bd.named Bd.method).1
  have X0 : Stand p l e ({ frames := 0, cells := 0, slots := 0, locals := 0 } : Room) s m #[(.ref b0_1), (.ref b0_3)] below meth c s₁ [] 0 0 := Stand.of_body Bd
  have e0 : s₁.heap = h0 := by rw [← hh, Bd.state]; rfl
  have N0 := Fr.nil n0
  have pre0 : ∀ t, Steps p.tables e below (s₁.setTop (mkF m 0 #[rv b0_1, rv b0_3, .unset] [])) t → Steps p.tables e below (s₁.setTop (entryFrame m #[(.ref b0_1), (.ref b0_3)] 3)) t := fun t k => castTop (ef_3_RR m b0_1 b0_3) k
  obtain ⟨T1, X1, e1, st1⟩ := instY X0 hx hZ hown (hw _ (List.mem_of_getElem? (i := 19) rfl)) e0 (Ins.self E_b0_3) (g := (mkF m 1 #[rv b0_1, rv b0_3, .unset] [(.ref b0_3)])) rfl rfl (hb hby d3_1)
  obtain ⟨T2, X2, e2, st2⟩ := castY X1 hx hZ hown (hw _ (List.mem_of_getElem? (i := 19) rfl)) e1 (Ins.self E_b0_3) (g := (mkF m 8 #[rv b0_1, rv b0_3, .unset] [(.ref b0_3)])) rfl rfl (hb hby d3_8)
  obtain ⟨T3, X3, e3, st3⟩ := getF X2 hx hZ hown (host := "") (Or.inl (hw _ (List.mem_of_getElem? (i := 10) rfl))) Via.refl e2 F_b0_3_input (g := (mkF m 13 #[rv b0_1, rv b0_3, rv b0_3] [(.ref b0_3)])) rfl rfl (hb hby d3_13)
  obtain ⟨T4, X4, e4, st4⟩ := getF X3 hx hZ hown (host := "") (Or.inl (hw _ (List.mem_of_getElem? (i := 10) rfl))) Via.refl e3 F_b0_1_input (g := (mkF m 17 #[rv b0_1, rv b0_3, rv b0_3] [(.ref b0_1), (.long m2)])) rfl rfl (hb hby d3_17)
  obtain ⟨T5, X5, e5, st5⟩ := getF X4 hx hZ hown (host := "") (Or.inl (hw _ (List.mem_of_getElem? (i := 12) rfl))) Via.refl e4 F_b0_3_output (g := (mkF m 25 #[rv b0_1, rv b0_3, rv b0_3] [(.ref b0_3)])) rfl rfl (hb hby d3_25)
  obtain ⟨T6, X6, e6, st6⟩ := getF X5 hx hZ hown (host := "") (Or.inl (hw _ (List.mem_of_getElem? (i := 12) rfl))) Via.refl e5 F_b0_1_output (g := (mkF m 29 #[rv b0_1, rv b0_3, rv b0_3] [(.ref b0_1), (.long m3)])) rfl rfl (hb hby d3_29)
  obtain ⟨fs, hr, hrun, hended, hW, hsame⟩ := X6.leave (v := (some (.int (1 : Int32)))) (fun h => by rw [Bd.returns] at h; cases h)
  refine ⟨_, _, pre0 _ ?_, hrun, hended, _, _, rfl, ?_, ⟨_, rfl⟩, hW, hsame.mono (by decide) (by decide)⟩
  · show Steps p.tables e below (s₁.setTop (mkF m 0 #[rv b0_1, rv b0_3, .unset] [])) _
    refine XS.aloadN X0.here hx rfl (hb hby d3_0) rfl rfl ?_
    refine st1 _ ?_
    refine XS.ifNo X1.here hx rfl (hb hby d3_4) rfl ((if0 _ _).trans (feq (by decide +kernel : ¬ ((1 : Int32) = (0 : Int32)))).1) ?_
    refine XS.aloadN X1.here hx rfl (hb hby d3_7) rfl rfl ?_
    refine st2 _ ?_
    refine XS.astoreN X2.here hx rfl (hb hby d3_11) rfl rfl (l' := #[rv b0_1, rv b0_3, rv b0_3]) rfl ?_
    refine XS.aloadN X2.here hx rfl (hb hby d3_12) rfl rfl ?_
    refine st3 _ ?_
    show Steps p.tables e below (T3.setTop (mkF m 16 #[rv b0_1, rv b0_3, rv b0_3] [(.long m2)])) _
    refine XS.aloadN X3.here hx rfl (hb hby d3_16) rfl rfl ?_
    refine st4 _ ?_
    refine XS.lcmp X4.here hx rfl (hb hby d3_20) rfl ?_
    refine XS.ifNo X4.here hx rfl (hb hby d3_21) rfl ((if0 _ _).trans ((if0 _ _).symm.trans (Jvm.Free.XT.ll_ne_f hi2))) ?_
    refine XS.aloadN X4.here hx rfl (hb hby d3_24) rfl rfl ?_
    refine st5 _ ?_
    refine XS.aloadN X5.here hx rfl (hb hby d3_28) rfl rfl ?_
    refine st6 _ ?_
    show Steps p.tables e below (T6.setTop (mkF m 32 #[rv b0_1, rv b0_3, rv b0_3] [(.long m1), (.long m3)])) _
    refine XS.lcmp X6.here hx rfl (hb hby d3_32) rfl ?_
    refine XS.ifNo X6.here hx rfl (hb hby d3_33) rfl ((if0 _ _).trans ((if0 _ _).symm.trans (Jvm.Free.XT.ll_ne_f ho2))) ?_
    refine XS.iconst X6.here hx rfl (hb hby d3_36) ?_
    refine XS.goto X6.here hx rfl (pc0 := 37) (pc' := 41) rfl (hb hby d3_37) (by decide) (by decide) ?_
    exact retN X6 hx (t := .boolean) Bd.returns (by simp) (hb hby d3_41) hr
  · exact ⟨rfl, N0, e6⟩
set_option maxRecDepth 65536 in
set_option maxHeartbeats 40000000 in
theorem rm3_5 (l : Launch) (Z : State) (a0 : Array Value) (hw : ∀ d ∈ tables_1, d.before a0 Z = true) (ws : List Jvm.Cond) (m0 : Int64) (m1 : Int64) (m2 : Int64) (m3 : Int64) (b0_1 : Addr) (b0_3 : Addr) (h0 : Heap) (n0 : Nat) (Z0 : n0 ≤ h0.size) (E_b0_1 : Exa Z h0 b0_1 "com/example/allotd/allotd/engine/Tokens") (F_b0_1_input : Fld Z h0 b0_1 "com/example/allotd/allotd/engine/Tokens" "input" "J" (.long m0)) (F_b0_3_input : Fld Z h0 b0_3 "com/example/allotd/allotd/engine/Tokens" "input" "J" (.long m2)) (hi1 : m0 = m2) (F_b0_1_output : Fld Z h0 b0_1 "com/example/allotd/allotd/engine/Tokens" "output" "J" (.long m1)) (F_b0_3_output : Fld Z h0 b0_3 "com/example/allotd/allotd/engine/Tokens" "output" "J" (.long m3)) (ho1 : m1 = m3) :
    MetFree l (⟨"com/example/allotd/allotd/engine/Tokens", "equals", "(Ljava/lang/Object;)Z"⟩ : MethodName) (head1 (Jvm.Cond.code (⟨"com/example/allotd/allotd/engine/Tokens", "equals", "(Ljava/lang/Object;)Z"⟩ : MethodName) prog_21_method_4_code 3 (some .boolean) :: ws) ({ frames := 0, cells := 0, slots := 0, locals := 0 } : Room)) (fun a U => a = #[(.ref b0_3), (.ref b0_1)] ∧ Z.Warmed39 U.vm ∧ U.heap = h0) (fun _ _ _ _ _ => True) (fun _ U o U' => ∃ v L, o = .returned v ∧ own_QP (some (.int (1 : Int32))) h0 n0 v U'.heap L ∧ FrameEnd U o U' L ({ frames := 0, cells := 0, slots := 0, locals := 0 } : Room).cells ({ frames := 0, cells := 0, slots := 0, locals := 0 } : Room).slots) := by
  refine MetFree.of_bodySF (plainFor_of_name pn_2) hisR ?_
  intro p e s m args below meth c s₁ Bd hml0 hP hK
  obtain ⟨rfl, hZ, hh⟩ := hP
  have hx := Bd.exec
  have hby := Bd.bytes
  have hml : c.maxLocals = 3 := hml0
  have hown : s.vm.findClass "com/example/allotd/allotd/engine/Tokens" = some m.cls := findClass_of_methodNamed Bd.named
  have hnm := (name_of_methodNamed Bd.named Bd.method).1
  have X0 : Stand p l e ({ frames := 0, cells := 0, slots := 0, locals := 0 } : Room) s m #[(.ref b0_3), (.ref b0_1)] below meth c s₁ [] 0 0 := Stand.of_body Bd
  have e0 : s₁.heap = h0 := by rw [← hh, Bd.state]; rfl
  have N0 := Fr.nil n0
  have pre0 : ∀ t, Steps p.tables e below (s₁.setTop (mkF m 0 #[rv b0_3, rv b0_1, .unset] [])) t → Steps p.tables e below (s₁.setTop (entryFrame m #[(.ref b0_3), (.ref b0_1)] 3)) t := fun t k => castTop (ef_3_RR m b0_3 b0_1) k
  obtain ⟨T1, X1, e1, st1⟩ := instY X0 hx hZ hown (hw _ (List.mem_of_getElem? (i := 19) rfl)) e0 (Ins.self E_b0_1) (g := (mkF m 1 #[rv b0_3, rv b0_1, .unset] [(.ref b0_1)])) rfl rfl (hb hby d3_1)
  obtain ⟨T2, X2, e2, st2⟩ := castY X1 hx hZ hown (hw _ (List.mem_of_getElem? (i := 19) rfl)) e1 (Ins.self E_b0_1) (g := (mkF m 8 #[rv b0_3, rv b0_1, .unset] [(.ref b0_1)])) rfl rfl (hb hby d3_8)
  obtain ⟨T3, X3, e3, st3⟩ := getF X2 hx hZ hown (host := "") (Or.inl (hw _ (List.mem_of_getElem? (i := 10) rfl))) Via.refl e2 F_b0_1_input (g := (mkF m 13 #[rv b0_3, rv b0_1, rv b0_1] [(.ref b0_1)])) rfl rfl (hb hby d3_13)
  obtain ⟨T4, X4, e4, st4⟩ := getF X3 hx hZ hown (host := "") (Or.inl (hw _ (List.mem_of_getElem? (i := 10) rfl))) Via.refl e3 F_b0_3_input (g := (mkF m 17 #[rv b0_3, rv b0_1, rv b0_1] [(.ref b0_3), (.long m0)])) rfl rfl (hb hby d3_17)
  obtain ⟨T5, X5, e5, st5⟩ := getF X4 hx hZ hown (host := "") (Or.inl (hw _ (List.mem_of_getElem? (i := 12) rfl))) Via.refl e4 F_b0_1_output (g := (mkF m 25 #[rv b0_3, rv b0_1, rv b0_1] [(.ref b0_1)])) rfl rfl (hb hby d3_25)
  obtain ⟨T6, X6, e6, st6⟩ := getF X5 hx hZ hown (host := "") (Or.inl (hw _ (List.mem_of_getElem? (i := 12) rfl))) Via.refl e5 F_b0_3_output (g := (mkF m 29 #[rv b0_3, rv b0_1, rv b0_1] [(.ref b0_3), (.long m1)])) rfl rfl (hb hby d3_29)
  obtain ⟨fs, hr, hrun, hended, hW, hsame⟩ := X6.leave (v := (some (.int (1 : Int32)))) (fun h => by rw [Bd.returns] at h; cases h)
  refine ⟨_, _, pre0 _ ?_, hrun, hended, _, _, rfl, ?_, ⟨_, rfl⟩, hW, hsame.mono (by decide) (by decide)⟩
  · show Steps p.tables e below (s₁.setTop (mkF m 0 #[rv b0_3, rv b0_1, .unset] [])) _
    refine XS.aloadN X0.here hx rfl (hb hby d3_0) rfl rfl ?_
    refine st1 _ ?_
    refine XS.ifNo X1.here hx rfl (hb hby d3_4) rfl ((if0 _ _).trans (feq (by decide +kernel : ¬ ((1 : Int32) = (0 : Int32)))).1) ?_
    refine XS.aloadN X1.here hx rfl (hb hby d3_7) rfl rfl ?_
    refine st2 _ ?_
    refine XS.astoreN X2.here hx rfl (hb hby d3_11) rfl rfl (l' := #[rv b0_3, rv b0_1, rv b0_1]) rfl ?_
    refine XS.aloadN X2.here hx rfl (hb hby d3_12) rfl rfl ?_
    refine st3 _ ?_
    show Steps p.tables e below (T3.setTop (mkF m 16 #[rv b0_3, rv b0_1, rv b0_1] [(.long m0)])) _
    refine XS.aloadN X3.here hx rfl (hb hby d3_16) rfl rfl ?_
    refine st4 _ ?_
    refine XS.lcmp X4.here hx rfl (hb hby d3_20) rfl ?_
    refine XS.ifNo X4.here hx rfl (hb hby d3_21) rfl ((if0 _ _).trans ((if0 _ _).symm.trans (Jvm.Free.XT.ll_ne_f hi1))) ?_
    refine XS.aloadN X4.here hx rfl (hb hby d3_24) rfl rfl ?_
    refine st5 _ ?_
    refine XS.aloadN X5.here hx rfl (hb hby d3_28) rfl rfl ?_
    refine st6 _ ?_
    show Steps p.tables e below (T6.setTop (mkF m 32 #[rv b0_3, rv b0_1, rv b0_1] [(.long m3), (.long m1)])) _
    refine XS.lcmp X6.here hx rfl (hb hby d3_32) rfl ?_
    refine XS.ifNo X6.here hx rfl (hb hby d3_33) rfl ((if0 _ _).trans ((if0 _ _).symm.trans (Jvm.Free.XT.ll_ne_f ho1))) ?_
    refine XS.iconst X6.here hx rfl (hb hby d3_36) ?_
    refine XS.goto X6.here hx rfl (pc0 := 37) (pc' := 41) rfl (hb hby d3_37) (by decide) (by decide) ?_
    exact retN X6 hx (t := .boolean) Bd.returns (by simp) (hb hby d3_41) hr
  · exact ⟨rfl, N0, e6⟩
set_option maxRecDepth 65536 in
set_option maxHeartbeats 40000000 in
theorem rm0_0 (l : Launch) (Z : State) (a0 : Array Value) (hw : ∀ d ∈ tables_1, d.before a0 Z = true) (ws : List Jvm.Cond) (p0 : Int64) (p1 : Int64) (p2 : Int64) (p3 : Int64) (p4 : Int32) (m0 : Int64) (m1 : Int64) (m2 : Int64) (m3 : Int64) (h0 : Heap) (n0 : Nat) (Z0 : n0 ≤ h0.size) (hm0 : (p0 &&& (9223372036854775807 : Int64)) = m0) (hm1 : (p1 &&& (9223372036854775807 : Int64)) = m1) (hk1 : (p4 &&& (1 : Int32)) = (0 : Int32)) (hm2 : (p2 &&& (9223372036854775807 : Int64)) = m2) (hk2 : (p4 &&& (2 : Int32)) = (0 : Int32)) (hm3 : (p3 &&& (9223372036854775807 : Int64)) = m3) (hn0 : ¬ (m0 < (0 : Int64))) (hn1 : ¬ (m1 < (0 : Int64))) (hn2 : ¬ (m2 < (0 : Int64))) (hn3 : ¬ (m3 < (0 : Int64))) (hkk : (((p4.toUInt32 >>> ((2 : Int32) &&& 31).toUInt32).toInt32) &&& (3 : Int32)) = (0 : Int32)) (hi1 : m0 = m2) (ho1 : m1 = m3) (hi2 : m2 = m0) (ho2 : m3 = m1) :
    MetFree l x (head1 (Jvm.Cond.code x code maxLocals ret :: ws) room_1) (fun a U => a = #[(.long p0), (.long p1), (.long p2), (.long p3), (.int p4)] ∧ Z.Warmed39 U.vm ∧ U.heap = h0) (fun _ _ _ _ _ => True) (fun _ U o U' => ∃ v L, o = .returned v ∧ own_QL n0 v U'.heap L ∧ FrameEnd U o U' L room_1.cells room_1.slots) := by
  refine MetFree.of_bodySF (plainFor_of_name pn_3) hisR ?_
  intro p e s m args below meth c s₁ Bd hml0 hP hK
  obtain ⟨rfl, hZ, hh⟩ := hP
  have hx := Bd.exec
  have hby := Bd.bytes
  have hml : c.maxLocals = 21 := hml0
  have hown : s.vm.findClass "com/example/allotd/allotd/engine/TokensEqualsPinLaw" = some m.cls := findClass_of_methodNamed Bd.named
  have hnm := (name_of_methodNamed Bd.named Bd.method).1
  have X0 : Stand p l e room_1 s m #[(.long p0), (.long p1), (.long p2), (.long p3), (.int p4)] below meth c s₁ [] 0 0 := Stand.of_body Bd
  have e0 : s₁.heap = h0 := by rw [← hh, Bd.state]; rfl
  have N0 := Fr.nil n0
  have pre0 : ∀ t, Steps p.tables e below (s₁.setTop (mkF m 0 #[own_jv p0, .second, own_jv p1, .second, own_jv p2, .second, own_jv p3, .second, iv p4, .unset, .unset, .unset, .unset, .unset, .unset, .unset, .unset, .unset, .unset, .unset, .unset] [])) t → Steps p.tables e below (s₁.setTop (entryFrame m #[(.long p0), (.long p1), (.long p2), (.long p3), (.int p4)] maxLocals)) t := fun t k => castTop (ef_0_JJJJI m p0 p1 p2 p3 p4) k
  obtain ⟨T1, h1, X1, e1, E1, A1, D1, -, st1⟩ := newO X0 hx hZ hown (hw _ (List.mem_of_getElem? (i := 1) rfl)) (hw _ (List.mem_of_getElem? (i := 2) rfl)) (hw _ (List.mem_of_getElem? (i := 3) rfl)) e0 (g := (mkF m 54 #[own_jv p0, .second, own_jv p1, .second, own_jv p2, .second, own_jv p3, .second, iv p4, own_jv m0, .second, own_jv m1, .second, own_jv m2, .second, own_jv m3, .second, .unset, .unset, .unset, .unset] [])) rfl (hb hby at_54) (by decide) (by decide)
  obtain ⟨b0_1, gg1⟩ : ∃ z, z = h0.size := ⟨_, rfl⟩
  rw [← gg1] at A1 D1 st1
  have g_b0_1 : n0 ≤ b0_1 := Nat.le_trans Z0 (Nat.le_of_eq gg1.symm)
  have sz_b0_1 : h0.size ≤ b0_1 := Nat.le_trans (Keep.refl h0 []).1 (Nat.le_of_eq gg1.symm)
  have Z1 : n0 ≤ h1.size := Nat.le_trans Z0 E1.1
  have KK1 : Keep h0 h1 [] := (Keep.refl h0 []).ext E1
  have E_b0_1 : Exa Z h1 b0_1 "com/example/allotd/allotd/engine/Tokens" := A1
  have F_b0_1_input : Fld Z h1 b0_1 "com/example/allotd/allotd/engine/Tokens" "input" "J" (.long (0 : Int64)) := D1 (Or.inr (hw _ (List.mem_of_getElem? (i := 11) rfl))) (ty := .long) (by decide)
  have F_b0_1_output : Fld Z h1 b0_1 "com/example/allotd/allotd/engine/Tokens" "output" "J" (.long (0 : Int64)) := D1 (Or.inr (hw _ (List.mem_of_getElem? (i := 13) rfl))) (ty := .long) (by decide)
  obtain ⟨_, _, ⟨T2, L2, k2, n2⟩, -, X2, ⟨Lc2, hQ2, l2, y2, z2⟩, st2⟩ := X1.specialBack hx (y := (⟨"com/example/allotd/allotd/engine/Tokens", "<init>", "(JJ)V"⟩ : MethodName)) rfl hown (mvT hZ (hw _ (List.mem_of_getElem? (i := 4) rfl))) (mvT hZ (hw _ (List.mem_of_getElem? (i := 5) rfl))) (mvT hZ (hw _ (List.mem_of_getElem? (i := 6) rfl))) (by decide) (backOf (W := 1) (rm1_2 l Z a0 hw [] m0 m1 b0_1 h1 n0 Z1 hn0 hn1 E_b0_1 F_b0_1_input g_b0_1 F_b0_1_output) hZ (hw _ (List.mem_of_getElem? (i := 6) rfl)) (hw _ (List.mem_of_getElem? (i := 3) rfl)) (by decide) (by decide)) (g := (mkF m 62 #[own_jv p0, .second, own_jv p1, .second, own_jv p2, .second, own_jv p3, .second, iv p4, own_jv m0, .second, own_jv m1, .second, own_jv m2, .second, own_jv m3, .second, .unset, .unset, .unset, .unset] [(.long m1), (.long m0), (.ref b0_1), (.ref b0_1)])) rfl (by rw [hml]; rfl) (Steps.refl _) (a := b0_1) (argsL := [(.long m0), (.long m1)]) (rest := [(.ref b0_1)]) (lenOf pd_2 rfl) rfl (by show 2 * 0 + _ ≤ _; exact Nat.le_of_eq rfl) (hb hby at_62) (fun _ _ => ⟨rfl, e1, (by decide : 1 + 0 ≤ _), (by decide : 2 + 0 ≤ _)⟩)
  dsimp only [Pt.U, Pt.locs, Pt.cells, Pt.slots] at X2 l2 y2 z2 st2 hQ2
  subst l2 y2 z2
  obtain ⟨rfl, N2q, K2, fq2_0, fq2_1, fq2_2⟩ := hQ2
  have KK2 : Keep h0 T2.heap [] := KK1.trans K2 (allS (P := fun x => x ∈ [] ∨ h0.size ≤ x) (Or.inr sz_b0_1) all0)
  have Z2 : n0 ≤ T2.heap.size := Nat.le_trans Z1 K2.1
  have N2 := Fr.app N0 N2q
  obtain ⟨T3, h3, X3, e3, E3, A3, D3, -, st3⟩ := newO X2 hx hZ hown (hw _ (List.mem_of_getElem? (i := 1) rfl)) (hw _ (List.mem_of_getElem? (i := 2) rfl)) (hw _ (List.mem_of_getElem? (i := 3) rfl)) rfl (g := (mkF m 67 #[own_jv p0, .second, own_jv p1, .second, own_jv p2, .second, own_jv p3, .second, iv p4, own_jv m0, .second, own_jv m1, .second, own_jv m2, .second, own_jv m3, .second, rv b0_1, .unset, .unset, .unset] [])) rfl (hb hby at_67) (by decide) (by decide)
  obtain ⟨b0_3, gg3⟩ : ∃ z, z = T2.heap.size := ⟨_, rfl⟩
  rw [← gg3] at A3 D3 st3
  have g_b0_3 : n0 ≤ b0_3 := Nat.le_trans Z2 (Nat.le_of_eq gg3.symm)
  have sz_b0_3 : h0.size ≤ b0_3 := Nat.le_trans KK2.1 (Nat.le_of_eq gg3.symm)
  have Z3 : n0 ≤ h3.size := Nat.le_trans Z2 E3.1
  have KK3 : Keep h0 h3 [] := KK2.ext E3
  have E_b0_3 : Exa Z h3 b0_3 "com/example/allotd/allotd/engine/Tokens" := A3
  have F_b0_3_input : Fld Z h3 b0_3 "com/example/allotd/allotd/engine/Tokens" "input" "J" (.long (0 : Int64)) := D3 (Or.inr (hw _ (List.mem_of_getElem? (i := 11) rfl))) (ty := .long) (by decide)
  have F_b0_3_output : Fld Z h3 b0_3 "com/example/allotd/allotd/engine/Tokens" "output" "J" (.long (0 : Int64)) := D3 (Or.inr (hw _ (List.mem_of_getElem? (i := 13) rfl))) (ty := .long) (by decide)
  obtain ⟨_, _, ⟨T4, L4, k4, n4⟩, -, X4, ⟨Lc4, hQ4, l4, y4, z4⟩, st4⟩ := X3.specialBack hx (y := (⟨"com/example/allotd/allotd/engine/Tokens", "<init>", "(JJ)V"⟩ : MethodName)) rfl hown (mvT hZ (hw _ (List.mem_of_getElem? (i := 4) rfl))) (mvT hZ (hw _ (List.mem_of_getElem? (i := 5) rfl))) (mvT hZ (hw _ (List.mem_of_getElem? (i := 6) rfl))) (by decide) (backOf (W := 1) (rm1_3 l Z a0 hw [] m2 m3 b0_3 h3 n0 Z3 hn2 hn3 E_b0_3 F_b0_3_input g_b0_3 F_b0_3_output) hZ (hw _ (List.mem_of_getElem? (i := 6) rfl)) (hw _ (List.mem_of_getElem? (i := 3) rfl)) (by decide) (by decide)) (g := (mkF m 75 #[own_jv p0, .second, own_jv p1, .second, own_jv p2, .second, own_jv p3, .second, iv p4, own_jv m0, .second, own_jv m1, .second, own_jv m2, .second, own_jv m3, .second, rv b0_1, .unset, .unset, .unset] [(.long m3), (.long m2), (.ref b0_3), (.ref b0_3)])) rfl (by rw [hml]; rfl) (Steps.refl _) (a := b0_3) (argsL := [(.long m2), (.long m3)]) (rest := [(.ref b0_3)]) (lenOf pd_2 rfl) rfl (by show 2 * 0 + _ ≤ _; exact Nat.le_of_eq rfl) (hb hby at_75) (fun _ _ => ⟨rfl, e3, (by decide : 2 + 0 ≤ _), (by decide : 4 + 0 ≤ _)⟩)
  dsimp only [Pt.U, Pt.locs, Pt.cells, Pt.slots] at X4 l4 y4 z4 st4 hQ4
  subst l4 y4 z4
  obtain ⟨rfl, N4q, K4, fq4_0, fq4_1, fq4_2⟩ := hQ4
  have KK4 : Keep h0 T4.heap [] := KK3.trans K4 (allS (P := fun x => x ∈ [] ∨ h0.size ≤ x) (Or.inr sz_b0_3) all0)
  have Z4 : n0 ≤ T4.heap.size := Nat.le_trans Z3 K4.1
  have N4 := Fr.app N2 N4q
  have ne_b0_1_b0_3_6 : ¬ (b0_1 = b0_3) := (Nat.ne_of_lt (Nat.lt_of_lt_of_le ((E_b0_1.keep K2)).lt (Nat.le_of_eq gg3.symm)))
  have c7 := ((fq2_0.ext E3).keep K4 (ninS ne_b0_1_b0_3_6 nin0))
  have c8 := ((fq2_1.ext E3).keep K4 (ninS ne_b0_1_b0_3_6 nin0))
  have c9 := ((fq2_2.ext E3).keep K4)
  obtain ⟨cq5, kq5, q5a, q5b, q5c⟩ := isOf hZ rfl c9
  obtain ⟨_, _, ⟨T5, L5, k5, n5⟩, -, X5, ⟨Lc5, hQ5, l5, y5, z5⟩, st5⟩ := X4.virtualBack hx (y := (⟨"com/example/allotd/allotd/engine/Tokens", "equals", "(Ljava/lang/Object;)Z"⟩ : MethodName)) (z := (⟨"com/example/allotd/allotd/engine/Tokens", "equals", "(Ljava/lang/Object;)Z"⟩ : MethodName)) hown (mvT hZ (hw _ (List.mem_of_getElem? (i := 14) rfl))) (mvT hZ (hw _ (List.mem_of_getElem? (i := 15) rfl))) (notFace_of_selects (args := #[]) (mvT hZ (hw _ (List.mem_of_getElem? (i := 17) rfl)))) (mvT hZ (hw _ (List.mem_of_getElem? (i := 17) rfl))) (mvT hZ (hw _ (List.mem_of_getElem? (i := 16) rfl))) (by decide) (backOf (W := 0) (rm3_4 l Z a0 hw [] m0 m1 m2 m3 b0_1 b0_3 T4.heap n0 Z4 fq4_2 fq4_0 c7 hi2 fq4_1 c8 ho2) hZ (hw _ (List.mem_of_getElem? (i := 18) rfl)) (hw _ (List.mem_of_getElem? (i := 3) rfl)) (by decide) (by decide)) q5a q5c (g := (mkF m 120 #[own_jv p0, .second, own_jv p1, .second, own_jv p2, .second, own_jv p3, .second, iv p4, own_jv m0, .second, own_jv m1, .second, own_jv m2, .second, own_jv m3, .second, rv b0_1, rv b0_3, iv (0 : Int32), iv (1 : Int32)] [(.ref b0_3), (.ref b0_1)])) rfl (by rw [hml]; rfl) (Steps.refl _) (argsL := [(.ref b0_3)]) (rest := []) (lenOf pd_3 rfl) rfl (by show 2 * 0 + _ ≤ _; exact Nat.le_of_eq rfl) (hb hby at_120) (fun _ _ => ⟨rfl, rfl, (by decide : 2 + 0 ≤ _), (by decide : 4 + 0 ≤ _)⟩)
  dsimp only [Pt.U, Pt.locs, Pt.cells, Pt.slots] at X5 l5 y5 z5 st5 hQ5
  subst l5 y5 z5
  obtain ⟨rfl, N5q, e5⟩ := hQ5
  have N5 := Fr.app N4 N5q
  obtain ⟨cq10, kq10, q10a, q10b, q10c⟩ := isOf hZ e5 fq4_2
  obtain ⟨_, _, ⟨T10, L10, k10, n10⟩, -, X10, ⟨Lc10, hQ10, l10, y10, z10⟩, st10⟩ := X5.virtualBack hx (y := (⟨"com/example/allotd/allotd/engine/Tokens", "equals", "(Ljava/lang/Object;)Z"⟩ : MethodName)) (z := (⟨"com/example/allotd/allotd/engine/Tokens", "equals", "(Ljava/lang/Object;)Z"⟩ : MethodName)) hown (mvT hZ (hw _ (List.mem_of_getElem? (i := 14) rfl))) (mvT hZ (hw _ (List.mem_of_getElem? (i := 15) rfl))) (notFace_of_selects (args := #[]) (mvT hZ (hw _ (List.mem_of_getElem? (i := 17) rfl)))) (mvT hZ (hw _ (List.mem_of_getElem? (i := 17) rfl))) (mvT hZ (hw _ (List.mem_of_getElem? (i := 16) rfl))) (by decide) (backOf (W := 0) (rm3_5 l Z a0 hw [] m0 m1 m2 m3 b0_1 b0_3 T4.heap n0 Z4 c9 c7 fq4_0 hi1 c8 fq4_1 ho1) hZ (hw _ (List.mem_of_getElem? (i := 18) rfl)) (hw _ (List.mem_of_getElem? (i := 3) rfl)) (by decide) (by decide)) q10a q10c (g := (mkF m 132 #[own_jv p0, .second, own_jv p1, .second, own_jv p2, .second, own_jv p3, .second, iv p4, own_jv m0, .second, own_jv m1, .second, own_jv m2, .second, own_jv m3, .second, rv b0_1, rv b0_3, iv (0 : Int32), iv (1 : Int32)] [(.ref b0_1), (.ref b0_3)])) rfl (by rw [hml]; rfl) (Steps.refl _) (argsL := [(.ref b0_1)]) (rest := []) (lenOf pd_3 rfl) rfl (by show 2 * 0 + _ ≤ _; exact Nat.le_of_eq rfl) (hb hby at_132) (fun _ _ => ⟨rfl, e5, (by decide : 2 + 0 ≤ _), (by decide : 4 + 0 ≤ _)⟩)
  dsimp only [Pt.U, Pt.locs, Pt.cells, Pt.slots] at X10 l10 y10 z10 st10 hQ10
  subst l10 y10 z10
  obtain ⟨rfl, N10q, e10⟩ := hQ10
  have N10 := Fr.app N5 N10q
  obtain ⟨fs, hr, hrun, hended, hW, hsame⟩ := X10.leave (v := (some (.int (1 : Int32)))) (fun h => by rw [Bd.returns] at h; cases h)
  refine ⟨_, _, pre0 _ ?_, hrun, hended, _, _, rfl, ?_, ⟨_, rfl⟩, hW, hsame.mono (by decide) (by decide)⟩
  · show Steps p.tables e below (s₁.setTop (mkF m 0 #[own_jv p0, .second, own_jv p1, .second, own_jv p2, .second, own_jv p3, .second, iv p4, .unset, .unset, .unset, .unset, .unset, .unset, .unset, .unset, .unset, .unset, .unset, .unset] [])) _
    refine XS.lloadN X0.here hx rfl (hb hby at_0) rfl ?_
    refine X0.ldc2Long hx hown (mvT hZ (hw _ (List.mem_of_getElem? (i := 0) rfl))) (g := (mkF m 1 #[own_jv p0, .second, own_jv p1, .second, own_jv p2, .second, own_jv p3, .second, iv p4, .unset, .unset, .unset, .unset, .unset, .unset, .unset, .unset, .unset, .unset, .unset, .unset] [(.long p0)])) rfl (hb hby at_1) _ ?_
    refine XS.land X0.here hx rfl (hb hby at_4) rfl ?_
    show Steps p.tables e below (s₁.setTop (mkF m 5 #[own_jv p0, .second, own_jv p1, .second, own_jv p2, .second, own_jv p3, .second, iv p4, .unset, .unset, .unset, .unset, .unset, .unset, .unset, .unset, .unset, .unset, .unset, .unset] [(.long (p0 &&& (9223372036854775807 : Int64)))])) _
    rewrite [hm0]
    refine XS.lstore X0.here hx rfl (hb hby at_5) rfl (l' := #[own_jv p0, .second, own_jv p1, .second, own_jv p2, .second, own_jv p3, .second, iv p4, own_jv m0, .second, .unset, .unset, .unset, .unset, .unset, .unset, .unset, .unset, .unset, .unset]) rfl ?_
    refine XS.lloadN X0.here hx rfl (hb hby at_7) rfl ?_
    refine X0.ldc2Long hx hown (mvT hZ (hw _ (List.mem_of_getElem? (i := 0) rfl))) (g := (mkF m 8 #[own_jv p0, .second, own_jv p1, .second, own_jv p2, .second, own_jv p3, .second, iv p4, own_jv m0, .second, .unset, .unset, .unset, .unset, .unset, .unset, .unset, .unset, .unset, .unset] [(.long p1)])) rfl (hb hby at_8) _ ?_
    refine XS.land X0.here hx rfl (hb hby at_11) rfl ?_
    show Steps p.tables e below (s₁.setTop (mkF m 12 #[own_jv p0, .second, own_jv p1, .second, own_jv p2, .second, own_jv p3, .second, iv p4, own_jv m0, .second, .unset, .unset, .unset, .unset, .unset, .unset, .unset, .unset, .unset, .unset] [(.long (p1 &&& (9223372036854775807 : Int64)))])) _
    rewrite [hm1]
    refine XS.lstore X0.here hx rfl (hb hby at_12) rfl (l' := #[own_jv p0, .second, own_jv p1, .second, own_jv p2, .second, own_jv p3, .second, iv p4, own_jv m0, .second, own_jv m1, .second, .unset, .unset, .unset, .unset, .unset, .unset, .unset, .unset]) rfl ?_
    show Steps p.tables e below (s₁.setTop (mkF m 14 #[own_jv p0, .second, own_jv p1, .second, own_jv p2, .second, own_jv p3, .second, iv p4, own_jv m0, .second, own_jv m1, .second, .unset, .unset, .unset, .unset, .unset, .unset, .unset, .unset] [])) _
    refine XS.iload X0.here hx rfl (hb hby at_14) rfl ?_
    refine XS.iconst X0.here hx rfl (hb hby at_16) ?_
    refine XS.iand X0.here hx rfl (hb hby at_17) rfl ?_
    show Steps p.tables e below (s₁.setTop (mkF m 18 #[own_jv p0, .second, own_jv p1, .second, own_jv p2, .second, own_jv p3, .second, iv p4, own_jv m0, .second, own_jv m1, .second, .unset, .unset, .unset, .unset, .unset, .unset, .unset, .unset] [(.int (p4 &&& (1 : Int32)))])) _
    rewrite [hk1]
    refine XS.ifYes X0.here hx rfl (pc0 := 18) (pc' := 26) rfl (hb hby at_18) rfl ((if0 _ _).trans (teq (by decide +kernel : (0 : Int32) = (0 : Int32))).1) (by decide) (by decide) ?_
    refine XS.lload X0.here hx rfl (hb hby at_26) rfl ?_
    refine X0.ldc2Long hx hown (mvT hZ (hw _ (List.mem_of_getElem? (i := 0) rfl))) (g := (mkF m 28 #[own_jv p0, .second, own_jv p1, .second, own_jv p2, .second, own_jv p3, .second, iv p4, own_jv m0, .second, own_jv m1, .second, .unset, .unset, .unset, .unset, .unset, .unset, .unset, .unset] [(.long p2)])) rfl (hb hby at_28) _ ?_
    refine XS.land X0.here hx rfl (hb hby at_31) rfl ?_
    show Steps p.tables e below (s₁.setTop (mkF m 32 #[own_jv p0, .second, own_jv p1, .second, own_jv p2, .second, own_jv p3, .second, iv p4, own_jv m0, .second, own_jv m1, .second, .unset, .unset, .unset, .unset, .unset, .unset, .unset, .unset] [(.long (p2 &&& (9223372036854775807 : Int64)))])) _
    rewrite [hm2]
    refine XS.lstore X0.here hx rfl (hb hby at_32) rfl (l' := #[own_jv p0, .second, own_jv p1, .second, own_jv p2, .second, own_jv p3, .second, iv p4, own_jv m0, .second, own_jv m1, .second, own_jv m2, .second, .unset, .unset, .unset, .unset, .unset, .unset]) rfl ?_
    show Steps p.tables e below (s₁.setTop (mkF m 34 #[own_jv p0, .second, own_jv p1, .second, own_jv p2, .second, own_jv p3, .second, iv p4, own_jv m0, .second, own_jv m1, .second, own_jv m2, .second, .unset, .unset, .unset, .unset, .unset, .unset] [])) _
    refine XS.iload X0.here hx rfl (hb hby at_34) rfl ?_
    refine XS.iconst X0.here hx rfl (hb hby at_36) ?_
    refine XS.iand X0.here hx rfl (hb hby at_37) rfl ?_
    refine XS.ifYes X0.here hx rfl (pc0 := 38) (pc' := 46) rfl (hb hby at_38) rfl ((if0 _ _).trans (teq hk2).1) (by decide) (by decide) ?_
    refine XS.lload X0.here hx rfl (hb hby at_46) rfl ?_
    refine X0.ldc2Long hx hown (mvT hZ (hw _ (List.mem_of_getElem? (i := 0) rfl))) (g := (mkF m 48 #[own_jv p0, .second, own_jv p1, .second, own_jv p2, .second, own_jv p3, .second, iv p4, own_jv m0, .second, own_jv m1, .second, own_jv m2, .second, .unset, .unset, .unset, .unset, .unset, .unset] [(.long p3)])) rfl (hb hby at_48) _ ?_
    refine XS.land X0.here hx rfl (hb hby at_51) rfl ?_
    show Steps p.tables e below (s₁.setTop (mkF m 52 #[own_jv p0, .second, own_jv p1, .second, own_jv p2, .second, own_jv p3, .second, iv p4, own_jv m0, .second, own_jv m1, .second, own_jv m2, .second, .unset, .unset, .unset, .unset, .unset, .unset] [(.long (p3 &&& (9223372036854775807 : Int64)))])) _
    rewrite [hm3]
    refine XS.lstore X0.here hx rfl (hb hby at_52) rfl (l' := #[own_jv p0, .second, own_jv p1, .second, own_jv p2, .second, own_jv p3, .second, iv p4, own_jv m0, .second, own_jv m1, .second, own_jv m2, .second, own_jv m3, .second, .unset, .unset, .unset, .unset]) rfl ?_
    show Steps p.tables e below (s₁.setTop (mkF m 54 #[own_jv p0, .second, own_jv p1, .second, own_jv p2, .second, own_jv p3, .second, iv p4, own_jv m0, .second, own_jv m1, .second, own_jv m2, .second, own_jv m3, .second, .unset, .unset, .unset, .unset] [])) _
    refine st1 _ ?_
    refine XS.dup X1.here hx rfl (hb hby at_57) rfl rfl ?_
    refine XS.lload X1.here hx rfl (hb hby at_58) rfl ?_
    refine XS.lload X1.here hx rfl (hb hby at_60) rfl ?_
    refine st2.trans ?_
    refine XS.astore X2.here hx rfl (hb hby at_65) rfl rfl (l' := #[own_jv p0, .second, own_jv p1, .second, own_jv p2, .second, own_jv p3, .second, iv p4, own_jv m0, .second, own_jv m1, .second, own_jv m2, .second, own_jv m3, .second, rv b0_1, .unset, .unset, .unset]) rfl ?_
    refine st3 _ ?_
    refine XS.dup X3.here hx rfl (hb hby at_70) rfl rfl ?_
    show Steps p.tables e below (T3.setTop (mkF m 71 #[own_jv p0, .second, own_jv p1, .second, own_jv p2, .second, own_jv p3, .second, iv p4, own_jv m0, .second, own_jv m1, .second, own_jv m2, .second, own_jv m3, .second, rv b0_1, .unset, .unset, .unset] [(.ref b0_3), (.ref b0_3)])) _
    refine XS.lload X3.here hx rfl (hb hby at_71) rfl ?_
    refine XS.lload X3.here hx rfl (hb hby at_73) rfl ?_
    refine st4.trans ?_
    refine XS.astore X4.here hx rfl (hb hby at_78) rfl rfl (l' := #[own_jv p0, .second, own_jv p1, .second, own_jv p2, .second, own_jv p3, .second, iv p4, own_jv m0, .second, own_jv m1, .second, own_jv m2, .second, own_jv m3, .second, rv b0_1, rv b0_3, .unset, .unset]) rfl ?_
    refine XS.iload X4.here hx rfl (hb hby at_80) rfl ?_
    refine XS.iconst X4.here hx rfl (hb hby at_82) ?_
    refine XS.iushr X4.here hx rfl (hb hby at_83) rfl ?_
    refine XS.iconst X4.here hx rfl (hb hby at_84) ?_
    show Steps p.tables e below (T4.setTop (mkF m 85 #[own_jv p0, .second, own_jv p1, .second, own_jv p2, .second, own_jv p3, .second, iv p4, own_jv m0, .second, own_jv m1, .second, own_jv m2, .second, own_jv m3, .second, rv b0_1, rv b0_3, .unset, .unset] [(.int (3 : Int32)), (.int ((p4.toUInt32 >>> ((2 : Int32) &&& 31).toUInt32).toInt32))])) _
    refine XS.iand X4.here hx rfl (hb hby at_85) rfl ?_
    show Steps p.tables e below (T4.setTop (mkF m 86 #[own_jv p0, .second, own_jv p1, .second, own_jv p2, .second, own_jv p3, .second, iv p4, own_jv m0, .second, own_jv m1, .second, own_jv m2, .second, own_jv m3, .second, rv b0_1, rv b0_3, .unset, .unset] [(.int (((p4.toUInt32 >>> ((2 : Int32) &&& 31).toUInt32).toInt32) &&& (3 : Int32)))])) _
    rewrite [hkk]
    refine XS.istore X4.here hx rfl (hb hby at_86) rfl (l' := #[own_jv p0, .second, own_jv p1, .second, own_jv p2, .second, own_jv p3, .second, iv p4, own_jv m0, .second, own_jv m1, .second, own_jv m2, .second, own_jv m3, .second, rv b0_1, rv b0_3, iv (0 : Int32), .unset]) rfl ?_
    refine XS.iload X4.here hx rfl (hb hby at_88) rfl ?_
    refine XS.ifNo X4.here hx rfl (hb hby at_90) rfl ((if0 _ _).trans (teq (by decide +kernel : (0 : Int32) = (0 : Int32))).2) ?_
    refine XS.lload X4.here hx rfl (hb hby at_93) rfl ?_
    refine XS.lload X4.here hx rfl (hb hby at_95) rfl ?_
    refine XS.lcmp X4.here hx rfl (hb hby at_97) rfl ?_
    refine XS.ifNo X4.here hx rfl (hb hby at_98) rfl ((if0 _ _).trans ((if0 _ _).symm.trans (Jvm.Free.XT.ll_ne_f hi1))) ?_
    show Steps p.tables e below (T4.setTop (mkF m 101 #[own_jv p0, .second, own_jv p1, .second, own_jv p2, .second, own_jv p3, .second, iv p4, own_jv m0, .second, own_jv m1, .second, own_jv m2, .second, own_jv m3, .second, rv b0_1, rv b0_3, iv (0 : Int32), .unset] [])) _
    refine XS.lload X4.here hx rfl (hb hby at_101) rfl ?_
    refine XS.lload X4.here hx rfl (hb hby at_103) rfl ?_
    refine XS.lcmp X4.here hx rfl (hb hby at_105) rfl ?_
    refine XS.ifNo X4.here hx rfl (hb hby at_106) rfl ((if0 _ _).trans ((if0 _ _).symm.trans (Jvm.Free.XT.ll_ne_f ho1))) ?_
    refine XS.iconst X4.here hx rfl (hb hby at_109) ?_
    refine XS.goto X4.here hx rfl (pc0 := 110) (pc' := 114) rfl (hb hby at_110) (by decide) (by decide) ?_
    refine XS.istore X4.here hx rfl (hb hby at_114) rfl (l' := #[own_jv p0, .second, own_jv p1, .second, own_jv p2, .second, own_jv p3, .second, iv p4, own_jv m0, .second, own_jv m1, .second, own_jv m2, .second, own_jv m3, .second, rv b0_1, rv b0_3, iv (0 : Int32), iv (1 : Int32)]) rfl ?_
    refine XS.aload X4.here hx rfl (hb hby at_116) rfl rfl ?_
    show Steps p.tables e below (T4.setTop (mkF m 118 #[own_jv p0, .second, own_jv p1, .second, own_jv p2, .second, own_jv p3, .second, iv p4, own_jv m0, .second, own_jv m1, .second, own_jv m2, .second, own_jv m3, .second, rv b0_1, rv b0_3, iv (0 : Int32), iv (1 : Int32)] [(.ref b0_1)])) _
    refine XS.aload X4.here hx rfl (hb hby at_118) rfl rfl ?_
    refine st5.trans ?_
    refine XS.iload X5.here hx rfl (hb hby at_123) rfl ?_
    refine XS.icmpNo X5.here hx rfl (hb hby at_125) rfl (teq (by decide +kernel : (1 : Int32) = (1 : Int32))).2 ?_
    refine XS.aload X5.here hx rfl (hb hby at_128) rfl rfl ?_
    refine XS.aload X5.here hx rfl (hb hby at_130) rfl rfl ?_
    refine st10.trans ?_
    refine XS.iload X10.here hx rfl (hb hby at_135) rfl ?_
    show Steps p.tables e below (T10.setTop (mkF m 137 #[own_jv p0, .second, own_jv p1, .second, own_jv p2, .second, own_jv p3, .second, iv p4, own_jv m0, .second, own_jv m1, .second, own_jv m2, .second, own_jv m3, .second, rv b0_1, rv b0_3, iv (0 : Int32), iv (1 : Int32)] [(.int (1 : Int32)), (.int (1 : Int32))])) _
    refine XS.icmpNo X10.here hx rfl (hb hby at_137) rfl (teq (by decide +kernel : (1 : Int32) = (1 : Int32))).2 ?_
    refine XS.iconst X10.here hx rfl (hb hby at_140) ?_
    refine XS.goto X10.here hx rfl (pc0 := 141) (pc' := 145) rfl (hb hby at_141) (by decide) (by decide) ?_
    exact retN X10 hx (t := .boolean) Bd.returns (by simp) (hb hby at_145) hr
  · exact ⟨rfl, N10⟩
set_option maxRecDepth 65536 in
set_option maxHeartbeats 40000000 in
theorem rm3_6 (l : Launch) (Z : State) (a0 : Array Value) (hw : ∀ d ∈ tables_1, d.before a0 Z = true) (ws : List Jvm.Cond) (m0 : Int64) (m1 : Int64) (m2 : Int64) (m3 : Int64) (b0_1 : Addr) (b0_3 : Addr) (h0 : Heap) (n0 : Nat) (Z0 : n0 ≤ h0.size) (E_b0_3 : Exa Z h0 b0_3 "com/example/allotd/allotd/engine/Tokens") (F_b0_3_input : Fld Z h0 b0_3 "com/example/allotd/allotd/engine/Tokens" "input" "J" (.long m2)) (F_b0_1_input : Fld Z h0 b0_1 "com/example/allotd/allotd/engine/Tokens" "input" "J" (.long m0)) (hi2 : m2 = m0) (F_b0_3_output : Fld Z h0 b0_3 "com/example/allotd/allotd/engine/Tokens" "output" "J" (.long m3)) (F_b0_1_output : Fld Z h0 b0_1 "com/example/allotd/allotd/engine/Tokens" "output" "J" (.long m1)) (ho2 : ¬ (m3 = m1)) :
    MetFree l (⟨"com/example/allotd/allotd/engine/Tokens", "equals", "(Ljava/lang/Object;)Z"⟩ : MethodName) (head1 (Jvm.Cond.code (⟨"com/example/allotd/allotd/engine/Tokens", "equals", "(Ljava/lang/Object;)Z"⟩ : MethodName) prog_21_method_4_code 3 (some .boolean) :: ws) ({ frames := 0, cells := 0, slots := 0, locals := 0 } : Room)) (fun a U => a = #[(.ref b0_1), (.ref b0_3)] ∧ Z.Warmed39 U.vm ∧ U.heap = h0) (fun _ _ _ _ _ => True) (fun _ U o U' => ∃ v L, o = .returned v ∧ own_QP (some (.int (0 : Int32))) h0 n0 v U'.heap L ∧ FrameEnd U o U' L ({ frames := 0, cells := 0, slots := 0, locals := 0 } : Room).cells ({ frames := 0, cells := 0, slots := 0, locals := 0 } : Room).slots) := by
  refine MetFree.of_bodySF (plainFor_of_name pn_2) hisR ?_
  intro p e s m args below meth c s₁ Bd hml0 hP hK
  obtain ⟨rfl, hZ, hh⟩ := hP
  have hx := Bd.exec
  have hby := Bd.bytes
  have hml : c.maxLocals = 3 := hml0
  have hown : s.vm.findClass "com/example/allotd/allotd/engine/Tokens" = some m.cls := findClass_of_methodNamed Bd.named
  have hnm := (name_of_methodNamed Bd.named Bd.method).1
  have X0 : Stand p l e ({ frames := 0, cells := 0, slots := 0, locals := 0 } : Room) s m #[(.ref b0_1), (.ref b0_3)] below meth c s₁ [] 0 0 := Stand.of_body Bd
  have e0 : s₁.heap = h0 := by rw [← hh, Bd.state]; rfl
  have N0 := Fr.nil n0
  have pre0 : ∀ t, Steps p.tables e below (s₁.setTop (mkF m 0 #[rv b0_1, rv b0_3, .unset] [])) t → Steps p.tables e below (s₁.setTop (entryFrame m #[(.ref b0_1), (.ref b0_3)] 3)) t := fun t k => castTop (ef_3_RR m b0_1 b0_3) k
  obtain ⟨T1, X1, e1, st1⟩ := instY X0 hx hZ hown (hw _ (List.mem_of_getElem? (i := 19) rfl)) e0 (Ins.self E_b0_3) (g := (mkF m 1 #[rv b0_1, rv b0_3, .unset] [(.ref b0_3)])) rfl rfl (hb hby d3_1)
  obtain ⟨T2, X2, e2, st2⟩ := castY X1 hx hZ hown (hw _ (List.mem_of_getElem? (i := 19) rfl)) e1 (Ins.self E_b0_3) (g := (mkF m 8 #[rv b0_1, rv b0_3, .unset] [(.ref b0_3)])) rfl rfl (hb hby d3_8)
  obtain ⟨T3, X3, e3, st3⟩ := getF X2 hx hZ hown (host := "") (Or.inl (hw _ (List.mem_of_getElem? (i := 10) rfl))) Via.refl e2 F_b0_3_input (g := (mkF m 13 #[rv b0_1, rv b0_3, rv b0_3] [(.ref b0_3)])) rfl rfl (hb hby d3_13)
  obtain ⟨T4, X4, e4, st4⟩ := getF X3 hx hZ hown (host := "") (Or.inl (hw _ (List.mem_of_getElem? (i := 10) rfl))) Via.refl e3 F_b0_1_input (g := (mkF m 17 #[rv b0_1, rv b0_3, rv b0_3] [(.ref b0_1), (.long m2)])) rfl rfl (hb hby d3_17)
  obtain ⟨T5, X5, e5, st5⟩ := getF X4 hx hZ hown (host := "") (Or.inl (hw _ (List.mem_of_getElem? (i := 12) rfl))) Via.refl e4 F_b0_3_output (g := (mkF m 25 #[rv b0_1, rv b0_3, rv b0_3] [(.ref b0_3)])) rfl rfl (hb hby d3_25)
  obtain ⟨T6, X6, e6, st6⟩ := getF X5 hx hZ hown (host := "") (Or.inl (hw _ (List.mem_of_getElem? (i := 12) rfl))) Via.refl e5 F_b0_1_output (g := (mkF m 29 #[rv b0_1, rv b0_3, rv b0_3] [(.ref b0_1), (.long m3)])) rfl rfl (hb hby d3_29)
  obtain ⟨fs, hr, hrun, hended, hW, hsame⟩ := X6.leave (v := (some (.int (0 : Int32)))) (fun h => by rw [Bd.returns] at h; cases h)
  refine ⟨_, _, pre0 _ ?_, hrun, hended, _, _, rfl, ?_, ⟨_, rfl⟩, hW, hsame.mono (by decide) (by decide)⟩
  · show Steps p.tables e below (s₁.setTop (mkF m 0 #[rv b0_1, rv b0_3, .unset] [])) _
    refine XS.aloadN X0.here hx rfl (hb hby d3_0) rfl rfl ?_
    refine st1 _ ?_
    refine XS.ifNo X1.here hx rfl (hb hby d3_4) rfl ((if0 _ _).trans (feq (by decide +kernel : ¬ ((1 : Int32) = (0 : Int32)))).1) ?_
    refine XS.aloadN X1.here hx rfl (hb hby d3_7) rfl rfl ?_
    refine st2 _ ?_
    refine XS.astoreN X2.here hx rfl (hb hby d3_11) rfl rfl (l' := #[rv b0_1, rv b0_3, rv b0_3]) rfl ?_
    refine XS.aloadN X2.here hx rfl (hb hby d3_12) rfl rfl ?_
    refine st3 _ ?_
    show Steps p.tables e below (T3.setTop (mkF m 16 #[rv b0_1, rv b0_3, rv b0_3] [(.long m2)])) _
    refine XS.aloadN X3.here hx rfl (hb hby d3_16) rfl rfl ?_
    refine st4 _ ?_
    refine XS.lcmp X4.here hx rfl (hb hby d3_20) rfl ?_
    refine XS.ifNo X4.here hx rfl (hb hby d3_21) rfl ((if0 _ _).trans ((if0 _ _).symm.trans (Jvm.Free.XT.ll_ne_f hi2))) ?_
    refine XS.aloadN X4.here hx rfl (hb hby d3_24) rfl rfl ?_
    refine st5 _ ?_
    refine XS.aloadN X5.here hx rfl (hb hby d3_28) rfl rfl ?_
    refine st6 _ ?_
    show Steps p.tables e below (T6.setTop (mkF m 32 #[rv b0_1, rv b0_3, rv b0_3] [(.long m1), (.long m3)])) _
    refine XS.lcmp X6.here hx rfl (hb hby d3_32) rfl ?_
    refine XS.ifYes X6.here hx rfl (pc0 := 33) (pc' := 40) rfl (hb hby d3_33) rfl ((if0 _ _).trans ((if0 _ _).symm.trans (Jvm.Free.XT.ll_ne_t ho2))) (by decide) (by decide) ?_
    refine XS.iconst X6.here hx rfl (hb hby d3_40) ?_
    exact retN X6 hx (t := .boolean) Bd.returns (by simp) (hb hby d3_41) hr
  · exact ⟨rfl, N0, e6⟩
set_option maxRecDepth 65536 in
set_option maxHeartbeats 40000000 in
theorem rm3_7 (l : Launch) (Z : State) (a0 : Array Value) (hw : ∀ d ∈ tables_1, d.before a0 Z = true) (ws : List Jvm.Cond) (m0 : Int64) (m1 : Int64) (m2 : Int64) (m3 : Int64) (b0_1 : Addr) (b0_3 : Addr) (h0 : Heap) (n0 : Nat) (Z0 : n0 ≤ h0.size) (E_b0_1 : Exa Z h0 b0_1 "com/example/allotd/allotd/engine/Tokens") (F_b0_1_input : Fld Z h0 b0_1 "com/example/allotd/allotd/engine/Tokens" "input" "J" (.long m0)) (F_b0_3_input : Fld Z h0 b0_3 "com/example/allotd/allotd/engine/Tokens" "input" "J" (.long m2)) (hi1 : m0 = m2) (F_b0_1_output : Fld Z h0 b0_1 "com/example/allotd/allotd/engine/Tokens" "output" "J" (.long m1)) (F_b0_3_output : Fld Z h0 b0_3 "com/example/allotd/allotd/engine/Tokens" "output" "J" (.long m3)) (ho1 : ¬ (m1 = m3)) :
    MetFree l (⟨"com/example/allotd/allotd/engine/Tokens", "equals", "(Ljava/lang/Object;)Z"⟩ : MethodName) (head1 (Jvm.Cond.code (⟨"com/example/allotd/allotd/engine/Tokens", "equals", "(Ljava/lang/Object;)Z"⟩ : MethodName) prog_21_method_4_code 3 (some .boolean) :: ws) ({ frames := 0, cells := 0, slots := 0, locals := 0 } : Room)) (fun a U => a = #[(.ref b0_3), (.ref b0_1)] ∧ Z.Warmed39 U.vm ∧ U.heap = h0) (fun _ _ _ _ _ => True) (fun _ U o U' => ∃ v L, o = .returned v ∧ own_QP (some (.int (0 : Int32))) h0 n0 v U'.heap L ∧ FrameEnd U o U' L ({ frames := 0, cells := 0, slots := 0, locals := 0 } : Room).cells ({ frames := 0, cells := 0, slots := 0, locals := 0 } : Room).slots) := by
  refine MetFree.of_bodySF (plainFor_of_name pn_2) hisR ?_
  intro p e s m args below meth c s₁ Bd hml0 hP hK
  obtain ⟨rfl, hZ, hh⟩ := hP
  have hx := Bd.exec
  have hby := Bd.bytes
  have hml : c.maxLocals = 3 := hml0
  have hown : s.vm.findClass "com/example/allotd/allotd/engine/Tokens" = some m.cls := findClass_of_methodNamed Bd.named
  have hnm := (name_of_methodNamed Bd.named Bd.method).1
  have X0 : Stand p l e ({ frames := 0, cells := 0, slots := 0, locals := 0 } : Room) s m #[(.ref b0_3), (.ref b0_1)] below meth c s₁ [] 0 0 := Stand.of_body Bd
  have e0 : s₁.heap = h0 := by rw [← hh, Bd.state]; rfl
  have N0 := Fr.nil n0
  have pre0 : ∀ t, Steps p.tables e below (s₁.setTop (mkF m 0 #[rv b0_3, rv b0_1, .unset] [])) t → Steps p.tables e below (s₁.setTop (entryFrame m #[(.ref b0_3), (.ref b0_1)] 3)) t := fun t k => castTop (ef_3_RR m b0_3 b0_1) k
  obtain ⟨T1, X1, e1, st1⟩ := instY X0 hx hZ hown (hw _ (List.mem_of_getElem? (i := 19) rfl)) e0 (Ins.self E_b0_1) (g := (mkF m 1 #[rv b0_3, rv b0_1, .unset] [(.ref b0_1)])) rfl rfl (hb hby d3_1)
  obtain ⟨T2, X2, e2, st2⟩ := castY X1 hx hZ hown (hw _ (List.mem_of_getElem? (i := 19) rfl)) e1 (Ins.self E_b0_1) (g := (mkF m 8 #[rv b0_3, rv b0_1, .unset] [(.ref b0_1)])) rfl rfl (hb hby d3_8)
  obtain ⟨T3, X3, e3, st3⟩ := getF X2 hx hZ hown (host := "") (Or.inl (hw _ (List.mem_of_getElem? (i := 10) rfl))) Via.refl e2 F_b0_1_input (g := (mkF m 13 #[rv b0_3, rv b0_1, rv b0_1] [(.ref b0_1)])) rfl rfl (hb hby d3_13)
  obtain ⟨T4, X4, e4, st4⟩ := getF X3 hx hZ hown (host := "") (Or.inl (hw _ (List.mem_of_getElem? (i := 10) rfl))) Via.refl e3 F_b0_3_input (g := (mkF m 17 #[rv b0_3, rv b0_1, rv b0_1] [(.ref b0_3), (.long m0)])) rfl rfl (hb hby d3_17)
  obtain ⟨T5, X5, e5, st5⟩ := getF X4 hx hZ hown (host := "") (Or.inl (hw _ (List.mem_of_getElem? (i := 12) rfl))) Via.refl e4 F_b0_1_output (g := (mkF m 25 #[rv b0_3, rv b0_1, rv b0_1] [(.ref b0_1)])) rfl rfl (hb hby d3_25)
  obtain ⟨T6, X6, e6, st6⟩ := getF X5 hx hZ hown (host := "") (Or.inl (hw _ (List.mem_of_getElem? (i := 12) rfl))) Via.refl e5 F_b0_3_output (g := (mkF m 29 #[rv b0_3, rv b0_1, rv b0_1] [(.ref b0_3), (.long m1)])) rfl rfl (hb hby d3_29)
  obtain ⟨fs, hr, hrun, hended, hW, hsame⟩ := X6.leave (v := (some (.int (0 : Int32)))) (fun h => by rw [Bd.returns] at h; cases h)
  refine ⟨_, _, pre0 _ ?_, hrun, hended, _, _, rfl, ?_, ⟨_, rfl⟩, hW, hsame.mono (by decide) (by decide)⟩
  · show Steps p.tables e below (s₁.setTop (mkF m 0 #[rv b0_3, rv b0_1, .unset] [])) _
    refine XS.aloadN X0.here hx rfl (hb hby d3_0) rfl rfl ?_
    refine st1 _ ?_
    refine XS.ifNo X1.here hx rfl (hb hby d3_4) rfl ((if0 _ _).trans (feq (by decide +kernel : ¬ ((1 : Int32) = (0 : Int32)))).1) ?_
    refine XS.aloadN X1.here hx rfl (hb hby d3_7) rfl rfl ?_
    refine st2 _ ?_
    refine XS.astoreN X2.here hx rfl (hb hby d3_11) rfl rfl (l' := #[rv b0_3, rv b0_1, rv b0_1]) rfl ?_
    refine XS.aloadN X2.here hx rfl (hb hby d3_12) rfl rfl ?_
    refine st3 _ ?_
    show Steps p.tables e below (T3.setTop (mkF m 16 #[rv b0_3, rv b0_1, rv b0_1] [(.long m0)])) _
    refine XS.aloadN X3.here hx rfl (hb hby d3_16) rfl rfl ?_
    refine st4 _ ?_
    refine XS.lcmp X4.here hx rfl (hb hby d3_20) rfl ?_
    refine XS.ifNo X4.here hx rfl (hb hby d3_21) rfl ((if0 _ _).trans ((if0 _ _).symm.trans (Jvm.Free.XT.ll_ne_f hi1))) ?_
    refine XS.aloadN X4.here hx rfl (hb hby d3_24) rfl rfl ?_
    refine st5 _ ?_
    refine XS.aloadN X5.here hx rfl (hb hby d3_28) rfl rfl ?_
    refine st6 _ ?_
    show Steps p.tables e below (T6.setTop (mkF m 32 #[rv b0_3, rv b0_1, rv b0_1] [(.long m3), (.long m1)])) _
    refine XS.lcmp X6.here hx rfl (hb hby d3_32) rfl ?_
    refine XS.ifYes X6.here hx rfl (pc0 := 33) (pc' := 40) rfl (hb hby d3_33) rfl ((if0 _ _).trans ((if0 _ _).symm.trans (Jvm.Free.XT.ll_ne_t ho1))) (by decide) (by decide) ?_
    refine XS.iconst X6.here hx rfl (hb hby d3_40) ?_
    exact retN X6 hx (t := .boolean) Bd.returns (by simp) (hb hby d3_41) hr
  · exact ⟨rfl, N0, e6⟩
set_option maxRecDepth 65536 in
set_option maxHeartbeats 40000000 in
theorem rm0_1 (l : Launch) (Z : State) (a0 : Array Value) (hw : ∀ d ∈ tables_1, d.before a0 Z = true) (ws : List Jvm.Cond) (p0 : Int64) (p1 : Int64) (p2 : Int64) (p3 : Int64) (p4 : Int32) (m0 : Int64) (m1 : Int64) (m2 : Int64) (m3 : Int64) (h0 : Heap) (n0 : Nat) (Z0 : n0 ≤ h0.size) (hm0 : (p0 &&& (9223372036854775807 : Int64)) = m0) (hm1 : (p1 &&& (9223372036854775807 : Int64)) = m1) (hk1 : (p4 &&& (1 : Int32)) = (0 : Int32)) (hm2 : (p2 &&& (9223372036854775807 : Int64)) = m2) (hk2 : (p4 &&& (2 : Int32)) = (0 : Int32)) (hm3 : (p3 &&& (9223372036854775807 : Int64)) = m3) (hn0 : ¬ (m0 < (0 : Int64))) (hn1 : ¬ (m1 < (0 : Int64))) (hn2 : ¬ (m2 < (0 : Int64))) (hn3 : ¬ (m3 < (0 : Int64))) (hkk : (((p4.toUInt32 >>> ((2 : Int32) &&& 31).toUInt32).toInt32) &&& (3 : Int32)) = (0 : Int32)) (hi1 : m0 = m2) (ho1 : ¬ (m1 = m3)) (hi2 : m2 = m0) (ho2 : ¬ (m3 = m1)) :
    MetFree l x (head1 (Jvm.Cond.code x code maxLocals ret :: ws) room_1) (fun a U => a = #[(.long p0), (.long p1), (.long p2), (.long p3), (.int p4)] ∧ Z.Warmed39 U.vm ∧ U.heap = h0) (fun _ _ _ _ _ => True) (fun _ U o U' => ∃ v L, o = .returned v ∧ own_QL n0 v U'.heap L ∧ FrameEnd U o U' L room_1.cells room_1.slots) := by
  refine MetFree.of_bodySF (plainFor_of_name pn_3) hisR ?_
  intro p e s m args below meth c s₁ Bd hml0 hP hK
  obtain ⟨rfl, hZ, hh⟩ := hP
  have hx := Bd.exec
  have hby := Bd.bytes
  have hml : c.maxLocals = 21 := hml0
  have hown : s.vm.findClass "com/example/allotd/allotd/engine/TokensEqualsPinLaw" = some m.cls := findClass_of_methodNamed Bd.named
  have hnm := (name_of_methodNamed Bd.named Bd.method).1
  have X0 : Stand p l e room_1 s m #[(.long p0), (.long p1), (.long p2), (.long p3), (.int p4)] below meth c s₁ [] 0 0 := Stand.of_body Bd
  have e0 : s₁.heap = h0 := by rw [← hh, Bd.state]; rfl
  have N0 := Fr.nil n0
  have pre0 : ∀ t, Steps p.tables e below (s₁.setTop (mkF m 0 #[own_jv p0, .second, own_jv p1, .second, own_jv p2, .second, own_jv p3, .second, iv p4, .unset, .unset, .unset, .unset, .unset, .unset, .unset, .unset, .unset, .unset, .unset, .unset] [])) t → Steps p.tables e below (s₁.setTop (entryFrame m #[(.long p0), (.long p1), (.long p2), (.long p3), (.int p4)] maxLocals)) t := fun t k => castTop (ef_0_JJJJI m p0 p1 p2 p3 p4) k
  obtain ⟨T1, h1, X1, e1, E1, A1, D1, -, st1⟩ := newO X0 hx hZ hown (hw _ (List.mem_of_getElem? (i := 1) rfl)) (hw _ (List.mem_of_getElem? (i := 2) rfl)) (hw _ (List.mem_of_getElem? (i := 3) rfl)) e0 (g := (mkF m 54 #[own_jv p0, .second, own_jv p1, .second, own_jv p2, .second, own_jv p3, .second, iv p4, own_jv m0, .second, own_jv m1, .second, own_jv m2, .second, own_jv m3, .second, .unset, .unset, .unset, .unset] [])) rfl (hb hby at_54) (by decide) (by decide)
  obtain ⟨b0_1, gg1⟩ : ∃ z, z = h0.size := ⟨_, rfl⟩
  rw [← gg1] at A1 D1 st1
  have g_b0_1 : n0 ≤ b0_1 := Nat.le_trans Z0 (Nat.le_of_eq gg1.symm)
  have sz_b0_1 : h0.size ≤ b0_1 := Nat.le_trans (Keep.refl h0 []).1 (Nat.le_of_eq gg1.symm)
  have Z1 : n0 ≤ h1.size := Nat.le_trans Z0 E1.1
  have KK1 : Keep h0 h1 [] := (Keep.refl h0 []).ext E1
  have E_b0_1 : Exa Z h1 b0_1 "com/example/allotd/allotd/engine/Tokens" := A1
  have F_b0_1_input : Fld Z h1 b0_1 "com/example/allotd/allotd/engine/Tokens" "input" "J" (.long (0 : Int64)) := D1 (Or.inr (hw _ (List.mem_of_getElem? (i := 11) rfl))) (ty := .long) (by decide)
  have F_b0_1_output : Fld Z h1 b0_1 "com/example/allotd/allotd/engine/Tokens" "output" "J" (.long (0 : Int64)) := D1 (Or.inr (hw _ (List.mem_of_getElem? (i := 13) rfl))) (ty := .long) (by decide)
  obtain ⟨_, _, ⟨T2, L2, k2, n2⟩, -, X2, ⟨Lc2, hQ2, l2, y2, z2⟩, st2⟩ := X1.specialBack hx (y := (⟨"com/example/allotd/allotd/engine/Tokens", "<init>", "(JJ)V"⟩ : MethodName)) rfl hown (mvT hZ (hw _ (List.mem_of_getElem? (i := 4) rfl))) (mvT hZ (hw _ (List.mem_of_getElem? (i := 5) rfl))) (mvT hZ (hw _ (List.mem_of_getElem? (i := 6) rfl))) (by decide) (backOf (W := 1) (rm1_2 l Z a0 hw [] m0 m1 b0_1 h1 n0 Z1 hn0 hn1 E_b0_1 F_b0_1_input g_b0_1 F_b0_1_output) hZ (hw _ (List.mem_of_getElem? (i := 6) rfl)) (hw _ (List.mem_of_getElem? (i := 3) rfl)) (by decide) (by decide)) (g := (mkF m 62 #[own_jv p0, .second, own_jv p1, .second, own_jv p2, .second, own_jv p3, .second, iv p4, own_jv m0, .second, own_jv m1, .second, own_jv m2, .second, own_jv m3, .second, .unset, .unset, .unset, .unset] [(.long m1), (.long m0), (.ref b0_1), (.ref b0_1)])) rfl (by rw [hml]; rfl) (Steps.refl _) (a := b0_1) (argsL := [(.long m0), (.long m1)]) (rest := [(.ref b0_1)]) (lenOf pd_2 rfl) rfl (by show 2 * 0 + _ ≤ _; exact Nat.le_of_eq rfl) (hb hby at_62) (fun _ _ => ⟨rfl, e1, (by decide : 1 + 0 ≤ _), (by decide : 2 + 0 ≤ _)⟩)
  dsimp only [Pt.U, Pt.locs, Pt.cells, Pt.slots] at X2 l2 y2 z2 st2 hQ2
  subst l2 y2 z2
  obtain ⟨rfl, N2q, K2, fq2_0, fq2_1, fq2_2⟩ := hQ2
  have KK2 : Keep h0 T2.heap [] := KK1.trans K2 (allS (P := fun x => x ∈ [] ∨ h0.size ≤ x) (Or.inr sz_b0_1) all0)
  have Z2 : n0 ≤ T2.heap.size := Nat.le_trans Z1 K2.1
  have N2 := Fr.app N0 N2q
  obtain ⟨T3, h3, X3, e3, E3, A3, D3, -, st3⟩ := newO X2 hx hZ hown (hw _ (List.mem_of_getElem? (i := 1) rfl)) (hw _ (List.mem_of_getElem? (i := 2) rfl)) (hw _ (List.mem_of_getElem? (i := 3) rfl)) rfl (g := (mkF m 67 #[own_jv p0, .second, own_jv p1, .second, own_jv p2, .second, own_jv p3, .second, iv p4, own_jv m0, .second, own_jv m1, .second, own_jv m2, .second, own_jv m3, .second, rv b0_1, .unset, .unset, .unset] [])) rfl (hb hby at_67) (by decide) (by decide)
  obtain ⟨b0_3, gg3⟩ : ∃ z, z = T2.heap.size := ⟨_, rfl⟩
  rw [← gg3] at A3 D3 st3
  have g_b0_3 : n0 ≤ b0_3 := Nat.le_trans Z2 (Nat.le_of_eq gg3.symm)
  have sz_b0_3 : h0.size ≤ b0_3 := Nat.le_trans KK2.1 (Nat.le_of_eq gg3.symm)
  have Z3 : n0 ≤ h3.size := Nat.le_trans Z2 E3.1
  have KK3 : Keep h0 h3 [] := KK2.ext E3
  have E_b0_3 : Exa Z h3 b0_3 "com/example/allotd/allotd/engine/Tokens" := A3
  have F_b0_3_input : Fld Z h3 b0_3 "com/example/allotd/allotd/engine/Tokens" "input" "J" (.long (0 : Int64)) := D3 (Or.inr (hw _ (List.mem_of_getElem? (i := 11) rfl))) (ty := .long) (by decide)
  have F_b0_3_output : Fld Z h3 b0_3 "com/example/allotd/allotd/engine/Tokens" "output" "J" (.long (0 : Int64)) := D3 (Or.inr (hw _ (List.mem_of_getElem? (i := 13) rfl))) (ty := .long) (by decide)
  obtain ⟨_, _, ⟨T4, L4, k4, n4⟩, -, X4, ⟨Lc4, hQ4, l4, y4, z4⟩, st4⟩ := X3.specialBack hx (y := (⟨"com/example/allotd/allotd/engine/Tokens", "<init>", "(JJ)V"⟩ : MethodName)) rfl hown (mvT hZ (hw _ (List.mem_of_getElem? (i := 4) rfl))) (mvT hZ (hw _ (List.mem_of_getElem? (i := 5) rfl))) (mvT hZ (hw _ (List.mem_of_getElem? (i := 6) rfl))) (by decide) (backOf (W := 1) (rm1_3 l Z a0 hw [] m2 m3 b0_3 h3 n0 Z3 hn2 hn3 E_b0_3 F_b0_3_input g_b0_3 F_b0_3_output) hZ (hw _ (List.mem_of_getElem? (i := 6) rfl)) (hw _ (List.mem_of_getElem? (i := 3) rfl)) (by decide) (by decide)) (g := (mkF m 75 #[own_jv p0, .second, own_jv p1, .second, own_jv p2, .second, own_jv p3, .second, iv p4, own_jv m0, .second, own_jv m1, .second, own_jv m2, .second, own_jv m3, .second, rv b0_1, .unset, .unset, .unset] [(.long m3), (.long m2), (.ref b0_3), (.ref b0_3)])) rfl (by rw [hml]; rfl) (Steps.refl _) (a := b0_3) (argsL := [(.long m2), (.long m3)]) (rest := [(.ref b0_3)]) (lenOf pd_2 rfl) rfl (by show 2 * 0 + _ ≤ _; exact Nat.le_of_eq rfl) (hb hby at_75) (fun _ _ => ⟨rfl, e3, (by decide : 2 + 0 ≤ _), (by decide : 4 + 0 ≤ _)⟩)
  dsimp only [Pt.U, Pt.locs, Pt.cells, Pt.slots] at X4 l4 y4 z4 st4 hQ4
  subst l4 y4 z4
  obtain ⟨rfl, N4q, K4, fq4_0, fq4_1, fq4_2⟩ := hQ4
  have KK4 : Keep h0 T4.heap [] := KK3.trans K4 (allS (P := fun x => x ∈ [] ∨ h0.size ≤ x) (Or.inr sz_b0_3) all0)
  have Z4 : n0 ≤ T4.heap.size := Nat.le_trans Z3 K4.1
  have N4 := Fr.app N2 N4q
  have ne_b0_1_b0_3_6 : ¬ (b0_1 = b0_3) := (Nat.ne_of_lt (Nat.lt_of_lt_of_le ((E_b0_1.keep K2)).lt (Nat.le_of_eq gg3.symm)))
  have c7 := ((fq2_0.ext E3).keep K4 (ninS ne_b0_1_b0_3_6 nin0))
  have c8 := ((fq2_1.ext E3).keep K4 (ninS ne_b0_1_b0_3_6 nin0))
  have c9 := ((fq2_2.ext E3).keep K4)
  obtain ⟨cq5, kq5, q5a, q5b, q5c⟩ := isOf hZ rfl c9
  obtain ⟨_, _, ⟨T5, L5, k5, n5⟩, -, X5, ⟨Lc5, hQ5, l5, y5, z5⟩, st5⟩ := X4.virtualBack hx (y := (⟨"com/example/allotd/allotd/engine/Tokens", "equals", "(Ljava/lang/Object;)Z"⟩ : MethodName)) (z := (⟨"com/example/allotd/allotd/engine/Tokens", "equals", "(Ljava/lang/Object;)Z"⟩ : MethodName)) hown (mvT hZ (hw _ (List.mem_of_getElem? (i := 14) rfl))) (mvT hZ (hw _ (List.mem_of_getElem? (i := 15) rfl))) (notFace_of_selects (args := #[]) (mvT hZ (hw _ (List.mem_of_getElem? (i := 17) rfl)))) (mvT hZ (hw _ (List.mem_of_getElem? (i := 17) rfl))) (mvT hZ (hw _ (List.mem_of_getElem? (i := 16) rfl))) (by decide) (backOf (W := 0) (rm3_6 l Z a0 hw [] m0 m1 m2 m3 b0_1 b0_3 T4.heap n0 Z4 fq4_2 fq4_0 c7 hi2 fq4_1 c8 ho2) hZ (hw _ (List.mem_of_getElem? (i := 18) rfl)) (hw _ (List.mem_of_getElem? (i := 3) rfl)) (by decide) (by decide)) q5a q5c (g := (mkF m 120 #[own_jv p0, .second, own_jv p1, .second, own_jv p2, .second, own_jv p3, .second, iv p4, own_jv m0, .second, own_jv m1, .second, own_jv m2, .second, own_jv m3, .second, rv b0_1, rv b0_3, iv (0 : Int32), iv (0 : Int32)] [(.ref b0_3), (.ref b0_1)])) rfl (by rw [hml]; rfl) (Steps.refl _) (argsL := [(.ref b0_3)]) (rest := []) (lenOf pd_3 rfl) rfl (by show 2 * 0 + _ ≤ _; exact Nat.le_of_eq rfl) (hb hby at_120) (fun _ _ => ⟨rfl, rfl, (by decide : 2 + 0 ≤ _), (by decide : 4 + 0 ≤ _)⟩)
  dsimp only [Pt.U, Pt.locs, Pt.cells, Pt.slots] at X5 l5 y5 z5 st5 hQ5
  subst l5 y5 z5
  obtain ⟨rfl, N5q, e5⟩ := hQ5
  have N5 := Fr.app N4 N5q
  obtain ⟨cq10, kq10, q10a, q10b, q10c⟩ := isOf hZ e5 fq4_2
  obtain ⟨_, _, ⟨T10, L10, k10, n10⟩, -, X10, ⟨Lc10, hQ10, l10, y10, z10⟩, st10⟩ := X5.virtualBack hx (y := (⟨"com/example/allotd/allotd/engine/Tokens", "equals", "(Ljava/lang/Object;)Z"⟩ : MethodName)) (z := (⟨"com/example/allotd/allotd/engine/Tokens", "equals", "(Ljava/lang/Object;)Z"⟩ : MethodName)) hown (mvT hZ (hw _ (List.mem_of_getElem? (i := 14) rfl))) (mvT hZ (hw _ (List.mem_of_getElem? (i := 15) rfl))) (notFace_of_selects (args := #[]) (mvT hZ (hw _ (List.mem_of_getElem? (i := 17) rfl)))) (mvT hZ (hw _ (List.mem_of_getElem? (i := 17) rfl))) (mvT hZ (hw _ (List.mem_of_getElem? (i := 16) rfl))) (by decide) (backOf (W := 0) (rm3_7 l Z a0 hw [] m0 m1 m2 m3 b0_1 b0_3 T4.heap n0 Z4 c9 c7 fq4_0 hi1 c8 fq4_1 ho1) hZ (hw _ (List.mem_of_getElem? (i := 18) rfl)) (hw _ (List.mem_of_getElem? (i := 3) rfl)) (by decide) (by decide)) q10a q10c (g := (mkF m 132 #[own_jv p0, .second, own_jv p1, .second, own_jv p2, .second, own_jv p3, .second, iv p4, own_jv m0, .second, own_jv m1, .second, own_jv m2, .second, own_jv m3, .second, rv b0_1, rv b0_3, iv (0 : Int32), iv (0 : Int32)] [(.ref b0_1), (.ref b0_3)])) rfl (by rw [hml]; rfl) (Steps.refl _) (argsL := [(.ref b0_1)]) (rest := []) (lenOf pd_3 rfl) rfl (by show 2 * 0 + _ ≤ _; exact Nat.le_of_eq rfl) (hb hby at_132) (fun _ _ => ⟨rfl, e5, (by decide : 2 + 0 ≤ _), (by decide : 4 + 0 ≤ _)⟩)
  dsimp only [Pt.U, Pt.locs, Pt.cells, Pt.slots] at X10 l10 y10 z10 st10 hQ10
  subst l10 y10 z10
  obtain ⟨rfl, N10q, e10⟩ := hQ10
  have N10 := Fr.app N5 N10q
  obtain ⟨fs, hr, hrun, hended, hW, hsame⟩ := X10.leave (v := (some (.int (1 : Int32)))) (fun h => by rw [Bd.returns] at h; cases h)
  refine ⟨_, _, pre0 _ ?_, hrun, hended, _, _, rfl, ?_, ⟨_, rfl⟩, hW, hsame.mono (by decide) (by decide)⟩
  · show Steps p.tables e below (s₁.setTop (mkF m 0 #[own_jv p0, .second, own_jv p1, .second, own_jv p2, .second, own_jv p3, .second, iv p4, .unset, .unset, .unset, .unset, .unset, .unset, .unset, .unset, .unset, .unset, .unset, .unset] [])) _
    refine XS.lloadN X0.here hx rfl (hb hby at_0) rfl ?_
    refine X0.ldc2Long hx hown (mvT hZ (hw _ (List.mem_of_getElem? (i := 0) rfl))) (g := (mkF m 1 #[own_jv p0, .second, own_jv p1, .second, own_jv p2, .second, own_jv p3, .second, iv p4, .unset, .unset, .unset, .unset, .unset, .unset, .unset, .unset, .unset, .unset, .unset, .unset] [(.long p0)])) rfl (hb hby at_1) _ ?_
    refine XS.land X0.here hx rfl (hb hby at_4) rfl ?_
    show Steps p.tables e below (s₁.setTop (mkF m 5 #[own_jv p0, .second, own_jv p1, .second, own_jv p2, .second, own_jv p3, .second, iv p4, .unset, .unset, .unset, .unset, .unset, .unset, .unset, .unset, .unset, .unset, .unset, .unset] [(.long (p0 &&& (9223372036854775807 : Int64)))])) _
    rewrite [hm0]
    refine XS.lstore X0.here hx rfl (hb hby at_5) rfl (l' := #[own_jv p0, .second, own_jv p1, .second, own_jv p2, .second, own_jv p3, .second, iv p4, own_jv m0, .second, .unset, .unset, .unset, .unset, .unset, .unset, .unset, .unset, .unset, .unset]) rfl ?_
    refine XS.lloadN X0.here hx rfl (hb hby at_7) rfl ?_
    refine X0.ldc2Long hx hown (mvT hZ (hw _ (List.mem_of_getElem? (i := 0) rfl))) (g := (mkF m 8 #[own_jv p0, .second, own_jv p1, .second, own_jv p2, .second, own_jv p3, .second, iv p4, own_jv m0, .second, .unset, .unset, .unset, .unset, .unset, .unset, .unset, .unset, .unset, .unset] [(.long p1)])) rfl (hb hby at_8) _ ?_
    refine XS.land X0.here hx rfl (hb hby at_11) rfl ?_
    show Steps p.tables e below (s₁.setTop (mkF m 12 #[own_jv p0, .second, own_jv p1, .second, own_jv p2, .second, own_jv p3, .second, iv p4, own_jv m0, .second, .unset, .unset, .unset, .unset, .unset, .unset, .unset, .unset, .unset, .unset] [(.long (p1 &&& (9223372036854775807 : Int64)))])) _
    rewrite [hm1]
    refine XS.lstore X0.here hx rfl (hb hby at_12) rfl (l' := #[own_jv p0, .second, own_jv p1, .second, own_jv p2, .second, own_jv p3, .second, iv p4, own_jv m0, .second, own_jv m1, .second, .unset, .unset, .unset, .unset, .unset, .unset, .unset, .unset]) rfl ?_
    show Steps p.tables e below (s₁.setTop (mkF m 14 #[own_jv p0, .second, own_jv p1, .second, own_jv p2, .second, own_jv p3, .second, iv p4, own_jv m0, .second, own_jv m1, .second, .unset, .unset, .unset, .unset, .unset, .unset, .unset, .unset] [])) _
    refine XS.iload X0.here hx rfl (hb hby at_14) rfl ?_
    refine XS.iconst X0.here hx rfl (hb hby at_16) ?_
    refine XS.iand X0.here hx rfl (hb hby at_17) rfl ?_
    show Steps p.tables e below (s₁.setTop (mkF m 18 #[own_jv p0, .second, own_jv p1, .second, own_jv p2, .second, own_jv p3, .second, iv p4, own_jv m0, .second, own_jv m1, .second, .unset, .unset, .unset, .unset, .unset, .unset, .unset, .unset] [(.int (p4 &&& (1 : Int32)))])) _
    rewrite [hk1]
    refine XS.ifYes X0.here hx rfl (pc0 := 18) (pc' := 26) rfl (hb hby at_18) rfl ((if0 _ _).trans (teq (by decide +kernel : (0 : Int32) = (0 : Int32))).1) (by decide) (by decide) ?_
    refine XS.lload X0.here hx rfl (hb hby at_26) rfl ?_
    refine X0.ldc2Long hx hown (mvT hZ (hw _ (List.mem_of_getElem? (i := 0) rfl))) (g := (mkF m 28 #[own_jv p0, .second, own_jv p1, .second, own_jv p2, .second, own_jv p3, .second, iv p4, own_jv m0, .second, own_jv m1, .second, .unset, .unset, .unset, .unset, .unset, .unset, .unset, .unset] [(.long p2)])) rfl (hb hby at_28) _ ?_
    refine XS.land X0.here hx rfl (hb hby at_31) rfl ?_
    show Steps p.tables e below (s₁.setTop (mkF m 32 #[own_jv p0, .second, own_jv p1, .second, own_jv p2, .second, own_jv p3, .second, iv p4, own_jv m0, .second, own_jv m1, .second, .unset, .unset, .unset, .unset, .unset, .unset, .unset, .unset] [(.long (p2 &&& (9223372036854775807 : Int64)))])) _
    rewrite [hm2]
    refine XS.lstore X0.here hx rfl (hb hby at_32) rfl (l' := #[own_jv p0, .second, own_jv p1, .second, own_jv p2, .second, own_jv p3, .second, iv p4, own_jv m0, .second, own_jv m1, .second, own_jv m2, .second, .unset, .unset, .unset, .unset, .unset, .unset]) rfl ?_
    show Steps p.tables e below (s₁.setTop (mkF m 34 #[own_jv p0, .second, own_jv p1, .second, own_jv p2, .second, own_jv p3, .second, iv p4, own_jv m0, .second, own_jv m1, .second, own_jv m2, .second, .unset, .unset, .unset, .unset, .unset, .unset] [])) _
    refine XS.iload X0.here hx rfl (hb hby at_34) rfl ?_
    refine XS.iconst X0.here hx rfl (hb hby at_36) ?_
    refine XS.iand X0.here hx rfl (hb hby at_37) rfl ?_
    refine XS.ifYes X0.here hx rfl (pc0 := 38) (pc' := 46) rfl (hb hby at_38) rfl ((if0 _ _).trans (teq hk2).1) (by decide) (by decide) ?_
    refine XS.lload X0.here hx rfl (hb hby at_46) rfl ?_
    refine X0.ldc2Long hx hown (mvT hZ (hw _ (List.mem_of_getElem? (i := 0) rfl))) (g := (mkF m 48 #[own_jv p0, .second, own_jv p1, .second, own_jv p2, .second, own_jv p3, .second, iv p4, own_jv m0, .second, own_jv m1, .second, own_jv m2, .second, .unset, .unset, .unset, .unset, .unset, .unset] [(.long p3)])) rfl (hb hby at_48) _ ?_
    refine XS.land X0.here hx rfl (hb hby at_51) rfl ?_
    show Steps p.tables e below (s₁.setTop (mkF m 52 #[own_jv p0, .second, own_jv p1, .second, own_jv p2, .second, own_jv p3, .second, iv p4, own_jv m0, .second, own_jv m1, .second, own_jv m2, .second, .unset, .unset, .unset, .unset, .unset, .unset] [(.long (p3 &&& (9223372036854775807 : Int64)))])) _
    rewrite [hm3]
    refine XS.lstore X0.here hx rfl (hb hby at_52) rfl (l' := #[own_jv p0, .second, own_jv p1, .second, own_jv p2, .second, own_jv p3, .second, iv p4, own_jv m0, .second, own_jv m1, .second, own_jv m2, .second, own_jv m3, .second, .unset, .unset, .unset, .unset]) rfl ?_
    show Steps p.tables e below (s₁.setTop (mkF m 54 #[own_jv p0, .second, own_jv p1, .second, own_jv p2, .second, own_jv p3, .second, iv p4, own_jv m0, .second, own_jv m1, .second, own_jv m2, .second, own_jv m3, .second, .unset, .unset, .unset, .unset] [])) _
    refine st1 _ ?_
    refine XS.dup X1.here hx rfl (hb hby at_57) rfl rfl ?_
    refine XS.lload X1.here hx rfl (hb hby at_58) rfl ?_
    refine XS.lload X1.here hx rfl (hb hby at_60) rfl ?_
    refine st2.trans ?_
    refine XS.astore X2.here hx rfl (hb hby at_65) rfl rfl (l' := #[own_jv p0, .second, own_jv p1, .second, own_jv p2, .second, own_jv p3, .second, iv p4, own_jv m0, .second, own_jv m1, .second, own_jv m2, .second, own_jv m3, .second, rv b0_1, .unset, .unset, .unset]) rfl ?_
    refine st3 _ ?_
    refine XS.dup X3.here hx rfl (hb hby at_70) rfl rfl ?_
    show Steps p.tables e below (T3.setTop (mkF m 71 #[own_jv p0, .second, own_jv p1, .second, own_jv p2, .second, own_jv p3, .second, iv p4, own_jv m0, .second, own_jv m1, .second, own_jv m2, .second, own_jv m3, .second, rv b0_1, .unset, .unset, .unset] [(.ref b0_3), (.ref b0_3)])) _
    refine XS.lload X3.here hx rfl (hb hby at_71) rfl ?_
    refine XS.lload X3.here hx rfl (hb hby at_73) rfl ?_
    refine st4.trans ?_
    refine XS.astore X4.here hx rfl (hb hby at_78) rfl rfl (l' := #[own_jv p0, .second, own_jv p1, .second, own_jv p2, .second, own_jv p3, .second, iv p4, own_jv m0, .second, own_jv m1, .second, own_jv m2, .second, own_jv m3, .second, rv b0_1, rv b0_3, .unset, .unset]) rfl ?_
    refine XS.iload X4.here hx rfl (hb hby at_80) rfl ?_
    refine XS.iconst X4.here hx rfl (hb hby at_82) ?_
    refine XS.iushr X4.here hx rfl (hb hby at_83) rfl ?_
    refine XS.iconst X4.here hx rfl (hb hby at_84) ?_
    show Steps p.tables e below (T4.setTop (mkF m 85 #[own_jv p0, .second, own_jv p1, .second, own_jv p2, .second, own_jv p3, .second, iv p4, own_jv m0, .second, own_jv m1, .second, own_jv m2, .second, own_jv m3, .second, rv b0_1, rv b0_3, .unset, .unset] [(.int (3 : Int32)), (.int ((p4.toUInt32 >>> ((2 : Int32) &&& 31).toUInt32).toInt32))])) _
    refine XS.iand X4.here hx rfl (hb hby at_85) rfl ?_
    show Steps p.tables e below (T4.setTop (mkF m 86 #[own_jv p0, .second, own_jv p1, .second, own_jv p2, .second, own_jv p3, .second, iv p4, own_jv m0, .second, own_jv m1, .second, own_jv m2, .second, own_jv m3, .second, rv b0_1, rv b0_3, .unset, .unset] [(.int (((p4.toUInt32 >>> ((2 : Int32) &&& 31).toUInt32).toInt32) &&& (3 : Int32)))])) _
    rewrite [hkk]
    refine XS.istore X4.here hx rfl (hb hby at_86) rfl (l' := #[own_jv p0, .second, own_jv p1, .second, own_jv p2, .second, own_jv p3, .second, iv p4, own_jv m0, .second, own_jv m1, .second, own_jv m2, .second, own_jv m3, .second, rv b0_1, rv b0_3, iv (0 : Int32), .unset]) rfl ?_
    refine XS.iload X4.here hx rfl (hb hby at_88) rfl ?_
    refine XS.ifNo X4.here hx rfl (hb hby at_90) rfl ((if0 _ _).trans (teq (by decide +kernel : (0 : Int32) = (0 : Int32))).2) ?_
    refine XS.lload X4.here hx rfl (hb hby at_93) rfl ?_
    refine XS.lload X4.here hx rfl (hb hby at_95) rfl ?_
    refine XS.lcmp X4.here hx rfl (hb hby at_97) rfl ?_
    refine XS.ifNo X4.here hx rfl (hb hby at_98) rfl ((if0 _ _).trans ((if0 _ _).symm.trans (Jvm.Free.XT.ll_ne_f hi1))) ?_
    show Steps p.tables e below (T4.setTop (mkF m 101 #[own_jv p0, .second, own_jv p1, .second, own_jv p2, .second, own_jv p3, .second, iv p4, own_jv m0, .second, own_jv m1, .second, own_jv m2, .second, own_jv m3, .second, rv b0_1, rv b0_3, iv (0 : Int32), .unset] [])) _
    refine XS.lload X4.here hx rfl (hb hby at_101) rfl ?_
    refine XS.lload X4.here hx rfl (hb hby at_103) rfl ?_
    refine XS.lcmp X4.here hx rfl (hb hby at_105) rfl ?_
    refine XS.ifYes X4.here hx rfl (pc0 := 106) (pc' := 113) rfl (hb hby at_106) rfl ((if0 _ _).trans ((if0 _ _).symm.trans (Jvm.Free.XT.ll_ne_t ho1))) (by decide) (by decide) ?_
    refine XS.iconst X4.here hx rfl (hb hby at_113) ?_
    refine XS.istore X4.here hx rfl (hb hby at_114) rfl (l' := #[own_jv p0, .second, own_jv p1, .second, own_jv p2, .second, own_jv p3, .second, iv p4, own_jv m0, .second, own_jv m1, .second, own_jv m2, .second, own_jv m3, .second, rv b0_1, rv b0_3, iv (0 : Int32), iv (0 : Int32)]) rfl ?_
    refine XS.aload X4.here hx rfl (hb hby at_116) rfl rfl ?_
    refine XS.aload X4.here hx rfl (hb hby at_118) rfl rfl ?_
    show Steps p.tables e below (T4.setTop (mkF m 120 #[own_jv p0, .second, own_jv p1, .second, own_jv p2, .second, own_jv p3, .second, iv p4, own_jv m0, .second, own_jv m1, .second, own_jv m2, .second, own_jv m3, .second, rv b0_1, rv b0_3, iv (0 : Int32), iv (0 : Int32)] [(.ref b0_3), (.ref b0_1)])) _
    refine st5.trans ?_
    refine XS.iload X5.here hx rfl (hb hby at_123) rfl ?_
    refine XS.icmpNo X5.here hx rfl (hb hby at_125) rfl (teq (by decide +kernel : (0 : Int32) = (0 : Int32))).2 ?_
    refine XS.aload X5.here hx rfl (hb hby at_128) rfl rfl ?_
    refine XS.aload X5.here hx rfl (hb hby at_130) rfl rfl ?_
    refine st10.trans ?_
    refine XS.iload X10.here hx rfl (hb hby at_135) rfl ?_
    refine XS.icmpNo X10.here hx rfl (hb hby at_137) rfl (teq (by decide +kernel : (0 : Int32) = (0 : Int32))).2 ?_
    show Steps p.tables e below (T10.setTop (mkF m 140 #[own_jv p0, .second, own_jv p1, .second, own_jv p2, .second, own_jv p3, .second, iv p4, own_jv m0, .second, own_jv m1, .second, own_jv m2, .second, own_jv m3, .second, rv b0_1, rv b0_3, iv (0 : Int32), iv (0 : Int32)] [])) _
    refine XS.iconst X10.here hx rfl (hb hby at_140) ?_
    refine XS.goto X10.here hx rfl (pc0 := 141) (pc' := 145) rfl (hb hby at_141) (by decide) (by decide) ?_
    exact retN X10 hx (t := .boolean) Bd.returns (by simp) (hb hby at_145) hr
  · exact ⟨rfl, N10⟩
def Q_rm1_8 (Z : State) (m1 : Int64) (m2 : Int64) (b0_3 : Addr) (h0 : Heap) (n0 : Nat) (v : Option Value) (h : Heap) (L : List Loc) : Prop := (v = none) ∧ (Fr n0 L) ∧ (Keep h0 h [b0_3]) ∧ (Fld Z h b0_3 "com/example/allotd/allotd/engine/Tokens" "input" "J" (.long m2)) ∧ (Fld Z h b0_3 "com/example/allotd/allotd/engine/Tokens" "output" "J" (.long m1)) ∧ (Exa Z h b0_3 "com/example/allotd/allotd/engine/Tokens")
set_option maxRecDepth 65536 in
set_option maxHeartbeats 40000000 in
theorem rm1_8 (l : Launch) (Z : State) (a0 : Array Value) (hw : ∀ d ∈ tables_1, d.before a0 Z = true) (ws : List Jvm.Cond) (m1 : Int64) (m2 : Int64) (b0_3 : Addr) (h0 : Heap) (n0 : Nat) (Z0 : n0 ≤ h0.size) (hn2 : ¬ (m2 < (0 : Int64))) (hn1 : ¬ (m1 < (0 : Int64))) (E_b0_3 : Exa Z h0 b0_3 "com/example/allotd/allotd/engine/Tokens") (F_b0_3_input : Fld Z h0 b0_3 "com/example/allotd/allotd/engine/Tokens" "input" "J" (.long (0 : Int64))) (g_b0_3 : n0 ≤ b0_3) (F_b0_3_output : Fld Z h0 b0_3 "com/example/allotd/allotd/engine/Tokens" "output" "J" (.long (0 : Int64))) :
    MetFree l (⟨"com/example/allotd/allotd/engine/Tokens", "<init>", "(JJ)V"⟩ : MethodName) (head1 (Jvm.Cond.code (⟨"com/example/allotd/allotd/engine/Tokens", "<init>", "(JJ)V"⟩ : MethodName) prog_21_method_1_code 5 none :: ws) ({ frames := 1, cells := 0, slots := 0, locals := 12 } : Room)) (fun a U => a = #[(.ref b0_3), (.long m2), (.long m1)] ∧ Z.Warmed39 U.vm ∧ U.heap = h0) (fun _ _ _ _ _ => True) (fun _ U o U' => ∃ v L, o = .returned v ∧ Q_rm1_8 Z m1 m2 b0_3 h0 n0 v U'.heap L ∧ FrameEnd U o U' L ({ frames := 1, cells := 0, slots := 0, locals := 12 } : Room).cells ({ frames := 1, cells := 0, slots := 0, locals := 12 } : Room).slots) := by
  refine MetFree.of_bodySF (plainFor_of_name pn_2) hisR ?_
  intro p e s m args below meth c s₁ Bd hml0 hP hK
  obtain ⟨rfl, hZ, hh⟩ := hP
  have hx := Bd.exec
  have hby := Bd.bytes
  have hml : c.maxLocals = 5 := hml0
  have hown : s.vm.findClass "com/example/allotd/allotd/engine/Tokens" = some m.cls := findClass_of_methodNamed Bd.named
  have hnm := (name_of_methodNamed Bd.named Bd.method).1
  have X0 : Stand p l e ({ frames := 1, cells := 0, slots := 0, locals := 12 } : Room) s m #[(.ref b0_3), (.long m2), (.long m1)] below meth c s₁ [] 0 0 := Stand.of_body Bd
  have e0 : s₁.heap = h0 := by rw [← hh, Bd.state]; rfl
  have N0 := Fr.nil n0
  have pre0 : ∀ t, Steps p.tables e below (s₁.setTop (mkF m 0 #[rv b0_3, own_jv m2, .second, own_jv m1, .second] [])) t → Steps p.tables e below (s₁.setTop (entryFrame m #[(.ref b0_3), (.long m2), (.long m1)] 5)) t := fun t k => castTop (ef_1_RJJ m b0_3 m2 m1) k
  obtain ⟨T1, X1, e1, st1⟩ := initO X0 hx hZ hown (hw _ (List.mem_of_getElem? (i := 7) rfl)) (hw _ (List.mem_of_getElem? (i := 8) rfl)) (hw _ (List.mem_of_getElem? (i := 9) rfl)) e0 (g := (mkF m 1 #[rv b0_3, own_jv m2, .second, own_jv m1, .second] [(.ref b0_3)])) rfl (by rw [hml]; rfl) rfl (hb hby d1_1) (by decide) (W := 0) (by show 2 * 0 + _ ≤ _; exact Nat.le_of_eq rfl) (by decide)
  obtain ⟨T2, h2, X2, e2, W2, st2⟩ := putF X1 hx hZ hown (host := "") (Or.inl (hw _ (List.mem_of_getElem? (i := 10) rfl))) Via.refl e1 F_b0_3_input E_b0_3 (Or.inr ⟨(hw _ (List.mem_of_getElem? (i := 11) rfl)), rfl, hnm⟩) (hw _ (List.mem_of_getElem? (i := 2) rfl)) (ty := .long) (by decide) rfl rfl (g := (mkF m 33 #[rv b0_3, own_jv m2, .second, own_jv m1, .second] [(.long m2), (.ref b0_3)])) rfl rfl (hb hby d1_33)
  have fw2 : Fld Z h2 b0_3 "com/example/allotd/allotd/engine/Tokens" "input" "J" (.long m2) := F_b0_3_input.same W2
  have Z2 : n0 ≤ h2.size := Nat.le_trans Z0 (Keep.of_wr W2).1
  have KK2 : Keep h0 h2 [b0_3] := (Keep.refl h0 [b0_3]).wr W2 (Or.inl (List.mem_of_getElem? (i := 0) rfl))
  have N2 := Fr.snoc X2 N0 g_b0_3
  have c3 := (E_b0_3.wr W2)
  have c4 := (F_b0_3_output.other W2 (Or.inr (slot_ne (Or.inr (hw _ (List.mem_of_getElem? (i := 13) rfl))) (Or.inr (hw _ (List.mem_of_getElem? (i := 11) rfl))) (by decide) (t := .long) (t' := .long) (by decide) (by decide))))
  obtain ⟨T5, h5, X5, e5, W5, st5⟩ := putF X2 hx hZ hown (host := "") (Or.inl (hw _ (List.mem_of_getElem? (i := 12) rfl))) Via.refl e2 c4 c3 (Or.inr ⟨(hw _ (List.mem_of_getElem? (i := 13) rfl)), rfl, hnm⟩) (hw _ (List.mem_of_getElem? (i := 2) rfl)) (ty := .long) (by decide) rfl rfl (g := (mkF m 38 #[rv b0_3, own_jv m2, .second, own_jv m1, .second] [(.long m1), (.ref b0_3)])) rfl rfl (hb hby d1_38)
  have fw5 : Fld Z h5 b0_3 "com/example/allotd/allotd/engine/Tokens" "output" "J" (.long m1) := c4.same W5
  have Z5 : n0 ≤ h5.size := Nat.le_trans Z2 (Keep.of_wr W5).1
  have KK5 : Keep h0 h5 [b0_3] := KK2.wr W5 (Or.inl (List.mem_of_getElem? (i := 0) rfl))
  have N5 := Fr.snoc X5 N2 g_b0_3
  have c6 := (fw2.other W5 (Or.inr (slot_ne (Or.inr (hw _ (List.mem_of_getElem? (i := 11) rfl))) (Or.inr (hw _ (List.mem_of_getElem? (i := 13) rfl))) (by decide) (t := .long) (t' := .long) (by decide) (by decide))))
  have c7 := (c3.wr W5)
  obtain ⟨fs, hr, hrun, hended, hW, hsame⟩ := X5.leave (v := none) (fun _ => rfl)
  refine ⟨_, _, pre0 _ ?_, hrun, hended, _, _, rfl, ?_, ⟨_, rfl⟩, hW, hsame.mono (by decide) (by decide)⟩
  · show Steps p.tables e below (s₁.setTop (mkF m 0 #[rv b0_3, own_jv m2, .second, own_jv m1, .second] [])) _
    refine XS.aloadN X0.here hx rfl (hb hby d1_0) rfl rfl ?_
    refine st1 _ ?_
    refine XS.lloadN X1.here hx rfl (hb hby d1_4) rfl ?_
    refine XS.lconst X1.here hx rfl (hb hby d1_5) ?_
    refine XS.lcmp X1.here hx rfl (hb hby d1_6) rfl ?_
    refine XS.ifNo X1.here hx rfl (hb hby d1_7) rfl ((if0 _ _).trans ((if0 _ _).symm.trans (Jvm.Free.XT.ll_lt_f hn2))) ?_
    refine XS.lloadN X1.here hx rfl (hb hby d1_10) rfl ?_
    refine XS.lconst X1.here hx rfl (hb hby d1_11) ?_
    show Steps p.tables e below (T1.setTop (mkF m 12 #[rv b0_3, own_jv m2, .second, own_jv m1, .second] [(.long (0 : Int64)), (.long m1)])) _
    refine XS.lcmp X1.here hx rfl (hb hby d1_12) rfl ?_
    refine XS.ifYes X1.here hx rfl (pc0 := 13) (pc' := 31) rfl (hb hby d1_13) rfl ((if0 _ _).trans ((if0 _ _).symm.trans (Jvm.Free.XT.ll_ge_t hn1))) (by decide) (by decide) ?_
    refine XS.aloadN X1.here hx rfl (hb hby d1_31) rfl rfl ?_
    refine XS.lloadN X1.here hx rfl (hb hby d1_32) rfl ?_
    refine st2 _ ?_
    refine XS.aloadN X2.here hx rfl (hb hby d1_36) rfl rfl ?_
    refine XS.lloadN X2.here hx rfl (hb hby d1_37) rfl ?_
    refine st5 _ ?_
    show Steps p.tables e below (T5.setTop (mkF m 41 #[rv b0_3, own_jv m2, .second, own_jv m1, .second] [])) _
    exact X5.returnOut hx Bd.returns (hb hby d1_41) hr
  · exact (by show Q_rm1_8 Z m1 m2 b0_3 h0 n0 _ T5.heap _; rw [e5]; exact ⟨rfl, N5, KK5, c6, fw5, c7⟩)
set_option maxRecDepth 65536 in
set_option maxHeartbeats 40000000 in
theorem rm3_9 (l : Launch) (Z : State) (a0 : Array Value) (hw : ∀ d ∈ tables_1, d.before a0 Z = true) (ws : List Jvm.Cond) (m0 : Int64) (m1 : Int64) (m2 : Int64) (b0_1 : Addr) (b0_3 : Addr) (h0 : Heap) (n0 : Nat) (Z0 : n0 ≤ h0.size) (E_b0_3 : Exa Z h0 b0_3 "com/example/allotd/allotd/engine/Tokens") (F_b0_3_input : Fld Z h0 b0_3 "com/example/allotd/allotd/engine/Tokens" "input" "J" (.long m2)) (F_b0_1_input : Fld Z h0 b0_1 "com/example/allotd/allotd/engine/Tokens" "input" "J" (.long m0)) (hi2 : m2 = m0) (F_b0_3_output : Fld Z h0 b0_3 "com/example/allotd/allotd/engine/Tokens" "output" "J" (.long m1)) (F_b0_1_output : Fld Z h0 b0_1 "com/example/allotd/allotd/engine/Tokens" "output" "J" (.long m1)) :
    MetFree l (⟨"com/example/allotd/allotd/engine/Tokens", "equals", "(Ljava/lang/Object;)Z"⟩ : MethodName) (head1 (Jvm.Cond.code (⟨"com/example/allotd/allotd/engine/Tokens", "equals", "(Ljava/lang/Object;)Z"⟩ : MethodName) prog_21_method_4_code 3 (some .boolean) :: ws) ({ frames := 0, cells := 0, slots := 0, locals := 0 } : Room)) (fun a U => a = #[(.ref b0_1), (.ref b0_3)] ∧ Z.Warmed39 U.vm ∧ U.heap = h0) (fun _ _ _ _ _ => True) (fun _ U o U' => ∃ v L, o = .returned v ∧ own_QP (some (.int (1 : Int32))) h0 n0 v U'.heap L ∧ FrameEnd U o U' L ({ frames := 0, cells := 0, slots := 0, locals := 0 } : Room).cells ({ frames := 0, cells := 0, slots := 0, locals := 0 } : Room).slots) := by
  refine MetFree.of_bodySF (plainFor_of_name pn_2) hisR ?_
  intro p e s m args below meth c s₁ Bd hml0 hP hK
  obtain ⟨rfl, hZ, hh⟩ := hP
  have hx := Bd.exec
  have hby := Bd.bytes
  have hml : c.maxLocals = 3 := hml0
  have hown : s.vm.findClass "com/example/allotd/allotd/engine/Tokens" = some m.cls := findClass_of_methodNamed Bd.named
  have hnm := (name_of_methodNamed Bd.named Bd.method).1
  have X0 : Stand p l e ({ frames := 0, cells := 0, slots := 0, locals := 0 } : Room) s m #[(.ref b0_1), (.ref b0_3)] below meth c s₁ [] 0 0 := Stand.of_body Bd
  have e0 : s₁.heap = h0 := by rw [← hh, Bd.state]; rfl
  have N0 := Fr.nil n0
  have pre0 : ∀ t, Steps p.tables e below (s₁.setTop (mkF m 0 #[rv b0_1, rv b0_3, .unset] [])) t → Steps p.tables e below (s₁.setTop (entryFrame m #[(.ref b0_1), (.ref b0_3)] 3)) t := fun t k => castTop (ef_3_RR m b0_1 b0_3) k
  obtain ⟨T1, X1, e1, st1⟩ := instY X0 hx hZ hown (hw _ (List.mem_of_getElem? (i := 19) rfl)) e0 (Ins.self E_b0_3) (g := (mkF m 1 #[rv b0_1, rv b0_3, .unset] [(.ref b0_3)])) rfl rfl (hb hby d3_1)
  obtain ⟨T2, X2, e2, st2⟩ := castY X1 hx hZ hown (hw _ (List.mem_of_getElem? (i := 19) rfl)) e1 (Ins.self E_b0_3) (g := (mkF m 8 #[rv b0_1, rv b0_3, .unset] [(.ref b0_3)])) rfl rfl (hb hby d3_8)
  obtain ⟨T3, X3, e3, st3⟩ := getF X2 hx hZ hown (host := "") (Or.inl (hw _ (List.mem_of_getElem? (i := 10) rfl))) Via.refl e2 F_b0_3_input (g := (mkF m 13 #[rv b0_1, rv b0_3, rv b0_3] [(.ref b0_3)])) rfl rfl (hb hby d3_13)
  obtain ⟨T4, X4, e4, st4⟩ := getF X3 hx hZ hown (host := "") (Or.inl (hw _ (List.mem_of_getElem? (i := 10) rfl))) Via.refl e3 F_b0_1_input (g := (mkF m 17 #[rv b0_1, rv b0_3, rv b0_3] [(.ref b0_1), (.long m2)])) rfl rfl (hb hby d3_17)
  obtain ⟨T5, X5, e5, st5⟩ := getF X4 hx hZ hown (host := "") (Or.inl (hw _ (List.mem_of_getElem? (i := 12) rfl))) Via.refl e4 F_b0_3_output (g := (mkF m 25 #[rv b0_1, rv b0_3, rv b0_3] [(.ref b0_3)])) rfl rfl (hb hby d3_25)
  obtain ⟨T6, X6, e6, st6⟩ := getF X5 hx hZ hown (host := "") (Or.inl (hw _ (List.mem_of_getElem? (i := 12) rfl))) Via.refl e5 F_b0_1_output (g := (mkF m 29 #[rv b0_1, rv b0_3, rv b0_3] [(.ref b0_1), (.long m1)])) rfl rfl (hb hby d3_29)
  obtain ⟨fs, hr, hrun, hended, hW, hsame⟩ := X6.leave (v := (some (.int (1 : Int32)))) (fun h => by rw [Bd.returns] at h; cases h)
  refine ⟨_, _, pre0 _ ?_, hrun, hended, _, _, rfl, ?_, ⟨_, rfl⟩, hW, hsame.mono (by decide) (by decide)⟩
  · show Steps p.tables e below (s₁.setTop (mkF m 0 #[rv b0_1, rv b0_3, .unset] [])) _
    refine XS.aloadN X0.here hx rfl (hb hby d3_0) rfl rfl ?_
    refine st1 _ ?_
    refine XS.ifNo X1.here hx rfl (hb hby d3_4) rfl ((if0 _ _).trans (feq (by decide +kernel : ¬ ((1 : Int32) = (0 : Int32)))).1) ?_
    refine XS.aloadN X1.here hx rfl (hb hby d3_7) rfl rfl ?_
    refine st2 _ ?_
    refine XS.astoreN X2.here hx rfl (hb hby d3_11) rfl rfl (l' := #[rv b0_1, rv b0_3, rv b0_3]) rfl ?_
    refine XS.aloadN X2.here hx rfl (hb hby d3_12) rfl rfl ?_
    refine st3 _ ?_
    show Steps p.tables e below (T3.setTop (mkF m 16 #[rv b0_1, rv b0_3, rv b0_3] [(.long m2)])) _
    refine XS.aloadN X3.here hx rfl (hb hby d3_16) rfl rfl ?_
    refine st4 _ ?_
    refine XS.lcmp X4.here hx rfl (hb hby d3_20) rfl ?_
    refine XS.ifNo X4.here hx rfl (hb hby d3_21) rfl ((if0 _ _).trans ((if0 _ _).symm.trans (Jvm.Free.XT.ll_ne_f hi2))) ?_
    refine XS.aloadN X4.here hx rfl (hb hby d3_24) rfl rfl ?_
    refine st5 _ ?_
    refine XS.aloadN X5.here hx rfl (hb hby d3_28) rfl rfl ?_
    refine st6 _ ?_
    show Steps p.tables e below (T6.setTop (mkF m 32 #[rv b0_1, rv b0_3, rv b0_3] [(.long m1), (.long m1)])) _
    refine XS.lcmp X6.here hx rfl (hb hby d3_32) rfl ?_
    refine XS.ifNo X6.here hx rfl (hb hby d3_33) rfl ((if0 _ _).trans ((if0 _ _).symm.trans (Jvm.Free.XT.ll_ne_f rfl))) ?_
    refine XS.iconst X6.here hx rfl (hb hby d3_36) ?_
    refine XS.goto X6.here hx rfl (pc0 := 37) (pc' := 41) rfl (hb hby d3_37) (by decide) (by decide) ?_
    exact retN X6 hx (t := .boolean) Bd.returns (by simp) (hb hby d3_41) hr
  · exact ⟨rfl, N0, e6⟩
set_option maxRecDepth 65536 in
set_option maxHeartbeats 40000000 in
theorem rm3_10 (l : Launch) (Z : State) (a0 : Array Value) (hw : ∀ d ∈ tables_1, d.before a0 Z = true) (ws : List Jvm.Cond) (m0 : Int64) (m1 : Int64) (m2 : Int64) (b0_1 : Addr) (b0_3 : Addr) (h0 : Heap) (n0 : Nat) (Z0 : n0 ≤ h0.size) (E_b0_1 : Exa Z h0 b0_1 "com/example/allotd/allotd/engine/Tokens") (F_b0_1_input : Fld Z h0 b0_1 "com/example/allotd/allotd/engine/Tokens" "input" "J" (.long m0)) (F_b0_3_input : Fld Z h0 b0_3 "com/example/allotd/allotd/engine/Tokens" "input" "J" (.long m2)) (hi1 : m0 = m2) (F_b0_1_output : Fld Z h0 b0_1 "com/example/allotd/allotd/engine/Tokens" "output" "J" (.long m1)) (F_b0_3_output : Fld Z h0 b0_3 "com/example/allotd/allotd/engine/Tokens" "output" "J" (.long m1)) :
    MetFree l (⟨"com/example/allotd/allotd/engine/Tokens", "equals", "(Ljava/lang/Object;)Z"⟩ : MethodName) (head1 (Jvm.Cond.code (⟨"com/example/allotd/allotd/engine/Tokens", "equals", "(Ljava/lang/Object;)Z"⟩ : MethodName) prog_21_method_4_code 3 (some .boolean) :: ws) ({ frames := 0, cells := 0, slots := 0, locals := 0 } : Room)) (fun a U => a = #[(.ref b0_3), (.ref b0_1)] ∧ Z.Warmed39 U.vm ∧ U.heap = h0) (fun _ _ _ _ _ => True) (fun _ U o U' => ∃ v L, o = .returned v ∧ own_QP (some (.int (1 : Int32))) h0 n0 v U'.heap L ∧ FrameEnd U o U' L ({ frames := 0, cells := 0, slots := 0, locals := 0 } : Room).cells ({ frames := 0, cells := 0, slots := 0, locals := 0 } : Room).slots) := by
  refine MetFree.of_bodySF (plainFor_of_name pn_2) hisR ?_
  intro p e s m args below meth c s₁ Bd hml0 hP hK
  obtain ⟨rfl, hZ, hh⟩ := hP
  have hx := Bd.exec
  have hby := Bd.bytes
  have hml : c.maxLocals = 3 := hml0
  have hown : s.vm.findClass "com/example/allotd/allotd/engine/Tokens" = some m.cls := findClass_of_methodNamed Bd.named
  have hnm := (name_of_methodNamed Bd.named Bd.method).1
  have X0 : Stand p l e ({ frames := 0, cells := 0, slots := 0, locals := 0 } : Room) s m #[(.ref b0_3), (.ref b0_1)] below meth c s₁ [] 0 0 := Stand.of_body Bd
  have e0 : s₁.heap = h0 := by rw [← hh, Bd.state]; rfl
  have N0 := Fr.nil n0
  have pre0 : ∀ t, Steps p.tables e below (s₁.setTop (mkF m 0 #[rv b0_3, rv b0_1, .unset] [])) t → Steps p.tables e below (s₁.setTop (entryFrame m #[(.ref b0_3), (.ref b0_1)] 3)) t := fun t k => castTop (ef_3_RR m b0_3 b0_1) k
  obtain ⟨T1, X1, e1, st1⟩ := instY X0 hx hZ hown (hw _ (List.mem_of_getElem? (i := 19) rfl)) e0 (Ins.self E_b0_1) (g := (mkF m 1 #[rv b0_3, rv b0_1, .unset] [(.ref b0_1)])) rfl rfl (hb hby d3_1)
  obtain ⟨T2, X2, e2, st2⟩ := castY X1 hx hZ hown (hw _ (List.mem_of_getElem? (i := 19) rfl)) e1 (Ins.self E_b0_1) (g := (mkF m 8 #[rv b0_3, rv b0_1, .unset] [(.ref b0_1)])) rfl rfl (hb hby d3_8)
  obtain ⟨T3, X3, e3, st3⟩ := getF X2 hx hZ hown (host := "") (Or.inl (hw _ (List.mem_of_getElem? (i := 10) rfl))) Via.refl e2 F_b0_1_input (g := (mkF m 13 #[rv b0_3, rv b0_1, rv b0_1] [(.ref b0_1)])) rfl rfl (hb hby d3_13)
  obtain ⟨T4, X4, e4, st4⟩ := getF X3 hx hZ hown (host := "") (Or.inl (hw _ (List.mem_of_getElem? (i := 10) rfl))) Via.refl e3 F_b0_3_input (g := (mkF m 17 #[rv b0_3, rv b0_1, rv b0_1] [(.ref b0_3), (.long m0)])) rfl rfl (hb hby d3_17)
  obtain ⟨T5, X5, e5, st5⟩ := getF X4 hx hZ hown (host := "") (Or.inl (hw _ (List.mem_of_getElem? (i := 12) rfl))) Via.refl e4 F_b0_1_output (g := (mkF m 25 #[rv b0_3, rv b0_1, rv b0_1] [(.ref b0_1)])) rfl rfl (hb hby d3_25)
  obtain ⟨T6, X6, e6, st6⟩ := getF X5 hx hZ hown (host := "") (Or.inl (hw _ (List.mem_of_getElem? (i := 12) rfl))) Via.refl e5 F_b0_3_output (g := (mkF m 29 #[rv b0_3, rv b0_1, rv b0_1] [(.ref b0_3), (.long m1)])) rfl rfl (hb hby d3_29)
  obtain ⟨fs, hr, hrun, hended, hW, hsame⟩ := X6.leave (v := (some (.int (1 : Int32)))) (fun h => by rw [Bd.returns] at h; cases h)
  refine ⟨_, _, pre0 _ ?_, hrun, hended, _, _, rfl, ?_, ⟨_, rfl⟩, hW, hsame.mono (by decide) (by decide)⟩
  · show Steps p.tables e below (s₁.setTop (mkF m 0 #[rv b0_3, rv b0_1, .unset] [])) _
    refine XS.aloadN X0.here hx rfl (hb hby d3_0) rfl rfl ?_
    refine st1 _ ?_
    refine XS.ifNo X1.here hx rfl (hb hby d3_4) rfl ((if0 _ _).trans (feq (by decide +kernel : ¬ ((1 : Int32) = (0 : Int32)))).1) ?_
    refine XS.aloadN X1.here hx rfl (hb hby d3_7) rfl rfl ?_
    refine st2 _ ?_
    refine XS.astoreN X2.here hx rfl (hb hby d3_11) rfl rfl (l' := #[rv b0_3, rv b0_1, rv b0_1]) rfl ?_
    refine XS.aloadN X2.here hx rfl (hb hby d3_12) rfl rfl ?_
    refine st3 _ ?_
    show Steps p.tables e below (T3.setTop (mkF m 16 #[rv b0_3, rv b0_1, rv b0_1] [(.long m0)])) _
    refine XS.aloadN X3.here hx rfl (hb hby d3_16) rfl rfl ?_
    refine st4 _ ?_
    refine XS.lcmp X4.here hx rfl (hb hby d3_20) rfl ?_
    refine XS.ifNo X4.here hx rfl (hb hby d3_21) rfl ((if0 _ _).trans ((if0 _ _).symm.trans (Jvm.Free.XT.ll_ne_f hi1))) ?_
    refine XS.aloadN X4.here hx rfl (hb hby d3_24) rfl rfl ?_
    refine st5 _ ?_
    refine XS.aloadN X5.here hx rfl (hb hby d3_28) rfl rfl ?_
    refine st6 _ ?_
    show Steps p.tables e below (T6.setTop (mkF m 32 #[rv b0_3, rv b0_1, rv b0_1] [(.long m1), (.long m1)])) _
    refine XS.lcmp X6.here hx rfl (hb hby d3_32) rfl ?_
    refine XS.ifNo X6.here hx rfl (hb hby d3_33) rfl ((if0 _ _).trans ((if0 _ _).symm.trans (Jvm.Free.XT.ll_ne_f rfl))) ?_
    refine XS.iconst X6.here hx rfl (hb hby d3_36) ?_
    refine XS.goto X6.here hx rfl (pc0 := 37) (pc' := 41) rfl (hb hby d3_37) (by decide) (by decide) ?_
    exact retN X6 hx (t := .boolean) Bd.returns (by simp) (hb hby d3_41) hr
  · exact ⟨rfl, N0, e6⟩
set_option maxRecDepth 65536 in
set_option maxHeartbeats 40000000 in
theorem rm0_2 (l : Launch) (Z : State) (a0 : Array Value) (hw : ∀ d ∈ tables_1, d.before a0 Z = true) (ws : List Jvm.Cond) (p0 : Int64) (p1 : Int64) (p2 : Int64) (p3 : Int64) (p4 : Int32) (m0 : Int64) (m1 : Int64) (m2 : Int64) (h0 : Heap) (n0 : Nat) (Z0 : n0 ≤ h0.size) (hm0 : (p0 &&& (9223372036854775807 : Int64)) = m0) (hm1 : (p1 &&& (9223372036854775807 : Int64)) = m1) (hk1 : (p4 &&& (1 : Int32)) = (0 : Int32)) (hm2 : (p2 &&& (9223372036854775807 : Int64)) = m2) (hk2 : ¬ ((p4 &&& (2 : Int32)) = (0 : Int32))) (hn0 : ¬ (m0 < (0 : Int64))) (hn1 : ¬ (m1 < (0 : Int64))) (hn2 : ¬ (m2 < (0 : Int64))) (hkk : (((p4.toUInt32 >>> ((2 : Int32) &&& 31).toUInt32).toInt32) &&& (3 : Int32)) = (0 : Int32)) (hi1 : m0 = m2) (hi2 : m2 = m0) :
    MetFree l x (head1 (Jvm.Cond.code x code maxLocals ret :: ws) room_1) (fun a U => a = #[(.long p0), (.long p1), (.long p2), (.long p3), (.int p4)] ∧ Z.Warmed39 U.vm ∧ U.heap = h0) (fun _ _ _ _ _ => True) (fun _ U o U' => ∃ v L, o = .returned v ∧ own_QL n0 v U'.heap L ∧ FrameEnd U o U' L room_1.cells room_1.slots) := by
  refine MetFree.of_bodySF (plainFor_of_name pn_3) hisR ?_
  intro p e s m args below meth c s₁ Bd hml0 hP hK
  obtain ⟨rfl, hZ, hh⟩ := hP
  have hx := Bd.exec
  have hby := Bd.bytes
  have hml : c.maxLocals = 21 := hml0
  have hown : s.vm.findClass "com/example/allotd/allotd/engine/TokensEqualsPinLaw" = some m.cls := findClass_of_methodNamed Bd.named
  have hnm := (name_of_methodNamed Bd.named Bd.method).1
  have X0 : Stand p l e room_1 s m #[(.long p0), (.long p1), (.long p2), (.long p3), (.int p4)] below meth c s₁ [] 0 0 := Stand.of_body Bd
  have e0 : s₁.heap = h0 := by rw [← hh, Bd.state]; rfl
  have N0 := Fr.nil n0
  have pre0 : ∀ t, Steps p.tables e below (s₁.setTop (mkF m 0 #[own_jv p0, .second, own_jv p1, .second, own_jv p2, .second, own_jv p3, .second, iv p4, .unset, .unset, .unset, .unset, .unset, .unset, .unset, .unset, .unset, .unset, .unset, .unset] [])) t → Steps p.tables e below (s₁.setTop (entryFrame m #[(.long p0), (.long p1), (.long p2), (.long p3), (.int p4)] maxLocals)) t := fun t k => castTop (ef_0_JJJJI m p0 p1 p2 p3 p4) k
  obtain ⟨T1, h1, X1, e1, E1, A1, D1, -, st1⟩ := newO X0 hx hZ hown (hw _ (List.mem_of_getElem? (i := 1) rfl)) (hw _ (List.mem_of_getElem? (i := 2) rfl)) (hw _ (List.mem_of_getElem? (i := 3) rfl)) e0 (g := (mkF m 54 #[own_jv p0, .second, own_jv p1, .second, own_jv p2, .second, own_jv p3, .second, iv p4, own_jv m0, .second, own_jv m1, .second, own_jv m2, .second, own_jv m1, .second, .unset, .unset, .unset, .unset] [])) rfl (hb hby at_54) (by decide) (by decide)
  obtain ⟨b0_1, gg1⟩ : ∃ z, z = h0.size := ⟨_, rfl⟩
  rw [← gg1] at A1 D1 st1
  have g_b0_1 : n0 ≤ b0_1 := Nat.le_trans Z0 (Nat.le_of_eq gg1.symm)
  have sz_b0_1 : h0.size ≤ b0_1 := Nat.le_trans (Keep.refl h0 []).1 (Nat.le_of_eq gg1.symm)
  have Z1 : n0 ≤ h1.size := Nat.le_trans Z0 E1.1
  have KK1 : Keep h0 h1 [] := (Keep.refl h0 []).ext E1
  have E_b0_1 : Exa Z h1 b0_1 "com/example/allotd/allotd/engine/Tokens" := A1
  have F_b0_1_input : Fld Z h1 b0_1 "com/example/allotd/allotd/engine/Tokens" "input" "J" (.long (0 : Int64)) := D1 (Or.inr (hw _ (List.mem_of_getElem? (i := 11) rfl))) (ty := .long) (by decide)
  have F_b0_1_output : Fld Z h1 b0_1 "com/example/allotd/allotd/engine/Tokens" "output" "J" (.long (0 : Int64)) := D1 (Or.inr (hw _ (List.mem_of_getElem? (i := 13) rfl))) (ty := .long) (by decide)
  obtain ⟨_, _, ⟨T2, L2, k2, n2⟩, -, X2, ⟨Lc2, hQ2, l2, y2, z2⟩, st2⟩ := X1.specialBack hx (y := (⟨"com/example/allotd/allotd/engine/Tokens", "<init>", "(JJ)V"⟩ : MethodName)) rfl hown (mvT hZ (hw _ (List.mem_of_getElem? (i := 4) rfl))) (mvT hZ (hw _ (List.mem_of_getElem? (i := 5) rfl))) (mvT hZ (hw _ (List.mem_of_getElem? (i := 6) rfl))) (by decide) (backOf (W := 1) (rm1_2 l Z a0 hw [] m0 m1 b0_1 h1 n0 Z1 hn0 hn1 E_b0_1 F_b0_1_input g_b0_1 F_b0_1_output) hZ (hw _ (List.mem_of_getElem? (i := 6) rfl)) (hw _ (List.mem_of_getElem? (i := 3) rfl)) (by decide) (by decide)) (g := (mkF m 62 #[own_jv p0, .second, own_jv p1, .second, own_jv p2, .second, own_jv p3, .second, iv p4, own_jv m0, .second, own_jv m1, .second, own_jv m2, .second, own_jv m1, .second, .unset, .unset, .unset, .unset] [(.long m1), (.long m0), (.ref b0_1), (.ref b0_1)])) rfl (by rw [hml]; rfl) (Steps.refl _) (a := b0_1) (argsL := [(.long m0), (.long m1)]) (rest := [(.ref b0_1)]) (lenOf pd_2 rfl) rfl (by show 2 * 0 + _ ≤ _; exact Nat.le_of_eq rfl) (hb hby at_62) (fun _ _ => ⟨rfl, e1, (by decide : 1 + 0 ≤ _), (by decide : 2 + 0 ≤ _)⟩)
  dsimp only [Pt.U, Pt.locs, Pt.cells, Pt.slots] at X2 l2 y2 z2 st2 hQ2
  subst l2 y2 z2
  obtain ⟨rfl, N2q, K2, fq2_0, fq2_1, fq2_2⟩ := hQ2
  have KK2 : Keep h0 T2.heap [] := KK1.trans K2 (allS (P := fun x => x ∈ [] ∨ h0.size ≤ x) (Or.inr sz_b0_1) all0)
  have Z2 : n0 ≤ T2.heap.size := Nat.le_trans Z1 K2.1
  have N2 := Fr.app N0 N2q
  obtain ⟨T3, h3, X3, e3, E3, A3, D3, -, st3⟩ := newO X2 hx hZ hown (hw _ (List.mem_of_getElem? (i := 1) rfl)) (hw _ (List.mem_of_getElem? (i := 2) rfl)) (hw _ (List.mem_of_getElem? (i := 3) rfl)) rfl (g := (mkF m 67 #[own_jv p0, .second, own_jv p1, .second, own_jv p2, .second, own_jv p3, .second, iv p4, own_jv m0, .second, own_jv m1, .second, own_jv m2, .second, own_jv m1, .second, rv b0_1, .unset, .unset, .unset] [])) rfl (hb hby at_67) (by decide) (by decide)
  obtain ⟨b0_3, gg3⟩ : ∃ z, z = T2.heap.size := ⟨_, rfl⟩
  rw [← gg3] at A3 D3 st3
  have g_b0_3 : n0 ≤ b0_3 := Nat.le_trans Z2 (Nat.le_of_eq gg3.symm)
  have sz_b0_3 : h0.size ≤ b0_3 := Nat.le_trans KK2.1 (Nat.le_of_eq gg3.symm)
  have Z3 : n0 ≤ h3.size := Nat.le_trans Z2 E3.1
  have KK3 : Keep h0 h3 [] := KK2.ext E3
  have E_b0_3 : Exa Z h3 b0_3 "com/example/allotd/allotd/engine/Tokens" := A3
  have F_b0_3_input : Fld Z h3 b0_3 "com/example/allotd/allotd/engine/Tokens" "input" "J" (.long (0 : Int64)) := D3 (Or.inr (hw _ (List.mem_of_getElem? (i := 11) rfl))) (ty := .long) (by decide)
  have F_b0_3_output : Fld Z h3 b0_3 "com/example/allotd/allotd/engine/Tokens" "output" "J" (.long (0 : Int64)) := D3 (Or.inr (hw _ (List.mem_of_getElem? (i := 13) rfl))) (ty := .long) (by decide)
  obtain ⟨_, _, ⟨T4, L4, k4, n4⟩, -, X4, ⟨Lc4, hQ4, l4, y4, z4⟩, st4⟩ := X3.specialBack hx (y := (⟨"com/example/allotd/allotd/engine/Tokens", "<init>", "(JJ)V"⟩ : MethodName)) rfl hown (mvT hZ (hw _ (List.mem_of_getElem? (i := 4) rfl))) (mvT hZ (hw _ (List.mem_of_getElem? (i := 5) rfl))) (mvT hZ (hw _ (List.mem_of_getElem? (i := 6) rfl))) (by decide) (backOf (W := 1) (rm1_8 l Z a0 hw [] m1 m2 b0_3 h3 n0 Z3 hn2 hn1 E_b0_3 F_b0_3_input g_b0_3 F_b0_3_output) hZ (hw _ (List.mem_of_getElem? (i := 6) rfl)) (hw _ (List.mem_of_getElem? (i := 3) rfl)) (by decide) (by decide)) (g := (mkF m 75 #[own_jv p0, .second, own_jv p1, .second, own_jv p2, .second, own_jv p3, .second, iv p4, own_jv m0, .second, own_jv m1, .second, own_jv m2, .second, own_jv m1, .second, rv b0_1, .unset, .unset, .unset] [(.long m1), (.long m2), (.ref b0_3), (.ref b0_3)])) rfl (by rw [hml]; rfl) (Steps.refl _) (a := b0_3) (argsL := [(.long m2), (.long m1)]) (rest := [(.ref b0_3)]) (lenOf pd_2 rfl) rfl (by show 2 * 0 + _ ≤ _; exact Nat.le_of_eq rfl) (hb hby at_75) (fun _ _ => ⟨rfl, e3, (by decide : 2 + 0 ≤ _), (by decide : 4 + 0 ≤ _)⟩)
  dsimp only [Pt.U, Pt.locs, Pt.cells, Pt.slots] at X4 l4 y4 z4 st4 hQ4
  subst l4 y4 z4
  obtain ⟨rfl, N4q, K4, fq4_0, fq4_1, fq4_2⟩ := hQ4
  have KK4 : Keep h0 T4.heap [] := KK3.trans K4 (allS (P := fun x => x ∈ [] ∨ h0.size ≤ x) (Or.inr sz_b0_3) all0)
  have Z4 : n0 ≤ T4.heap.size := Nat.le_trans Z3 K4.1
  have N4 := Fr.app N2 N4q
  have ne_b0_1_b0_3_6 : ¬ (b0_1 = b0_3) := (Nat.ne_of_lt (Nat.lt_of_lt_of_le ((E_b0_1.keep K2)).lt (Nat.le_of_eq gg3.symm)))
  have c7 := ((fq2_0.ext E3).keep K4 (ninS ne_b0_1_b0_3_6 nin0))
  have c8 := ((fq2_1.ext E3).keep K4 (ninS ne_b0_1_b0_3_6 nin0))
  have c9 := ((fq2_2.ext E3).keep K4)
  obtain ⟨cq5, kq5, q5a, q5b, q5c⟩ := isOf hZ rfl c9
  obtain ⟨_, _, ⟨T5, L5, k5, n5⟩, -, X5, ⟨Lc5, hQ5, l5, y5, z5⟩, st5⟩ := X4.virtualBack hx (y := (⟨"com/example/allotd/allotd/engine/Tokens", "equals", "(Ljava/lang/Object;)Z"⟩ : MethodName)) (z := (⟨"com/example/allotd/allotd/engine/Tokens", "equals", "(Ljava/lang/Object;)Z"⟩ : MethodName)) hown (mvT hZ (hw _ (List.mem_of_getElem? (i := 14) rfl))) (mvT hZ (hw _ (List.mem_of_getElem? (i := 15) rfl))) (notFace_of_selects (args := #[]) (mvT hZ (hw _ (List.mem_of_getElem? (i := 17) rfl)))) (mvT hZ (hw _ (List.mem_of_getElem? (i := 17) rfl))) (mvT hZ (hw _ (List.mem_of_getElem? (i := 16) rfl))) (by decide) (backOf (W := 0) (rm3_9 l Z a0 hw [] m0 m1 m2 b0_1 b0_3 T4.heap n0 Z4 fq4_2 fq4_0 c7 hi2 fq4_1 c8) hZ (hw _ (List.mem_of_getElem? (i := 18) rfl)) (hw _ (List.mem_of_getElem? (i := 3) rfl)) (by decide) (by decide)) q5a q5c (g := (mkF m 120 #[own_jv p0, .second, own_jv p1, .second, own_jv p2, .second, own_jv p3, .second, iv p4, own_jv m0, .second, own_jv m1, .second, own_jv m2, .second, own_jv m1, .second, rv b0_1, rv b0_3, iv (0 : Int32), iv (1 : Int32)] [(.ref b0_3), (.ref b0_1)])) rfl (by rw [hml]; rfl) (Steps.refl _) (argsL := [(.ref b0_3)]) (rest := []) (lenOf pd_3 rfl) rfl (by show 2 * 0 + _ ≤ _; exact Nat.le_of_eq rfl) (hb hby at_120) (fun _ _ => ⟨rfl, rfl, (by decide : 2 + 0 ≤ _), (by decide : 4 + 0 ≤ _)⟩)
  dsimp only [Pt.U, Pt.locs, Pt.cells, Pt.slots] at X5 l5 y5 z5 st5 hQ5
  subst l5 y5 z5
  obtain ⟨rfl, N5q, e5⟩ := hQ5
  have N5 := Fr.app N4 N5q
  obtain ⟨cq10, kq10, q10a, q10b, q10c⟩ := isOf hZ e5 fq4_2
  obtain ⟨_, _, ⟨T10, L10, k10, n10⟩, -, X10, ⟨Lc10, hQ10, l10, y10, z10⟩, st10⟩ := X5.virtualBack hx (y := (⟨"com/example/allotd/allotd/engine/Tokens", "equals", "(Ljava/lang/Object;)Z"⟩ : MethodName)) (z := (⟨"com/example/allotd/allotd/engine/Tokens", "equals", "(Ljava/lang/Object;)Z"⟩ : MethodName)) hown (mvT hZ (hw _ (List.mem_of_getElem? (i := 14) rfl))) (mvT hZ (hw _ (List.mem_of_getElem? (i := 15) rfl))) (notFace_of_selects (args := #[]) (mvT hZ (hw _ (List.mem_of_getElem? (i := 17) rfl)))) (mvT hZ (hw _ (List.mem_of_getElem? (i := 17) rfl))) (mvT hZ (hw _ (List.mem_of_getElem? (i := 16) rfl))) (by decide) (backOf (W := 0) (rm3_10 l Z a0 hw [] m0 m1 m2 b0_1 b0_3 T4.heap n0 Z4 c9 c7 fq4_0 hi1 c8 fq4_1) hZ (hw _ (List.mem_of_getElem? (i := 18) rfl)) (hw _ (List.mem_of_getElem? (i := 3) rfl)) (by decide) (by decide)) q10a q10c (g := (mkF m 132 #[own_jv p0, .second, own_jv p1, .second, own_jv p2, .second, own_jv p3, .second, iv p4, own_jv m0, .second, own_jv m1, .second, own_jv m2, .second, own_jv m1, .second, rv b0_1, rv b0_3, iv (0 : Int32), iv (1 : Int32)] [(.ref b0_1), (.ref b0_3)])) rfl (by rw [hml]; rfl) (Steps.refl _) (argsL := [(.ref b0_1)]) (rest := []) (lenOf pd_3 rfl) rfl (by show 2 * 0 + _ ≤ _; exact Nat.le_of_eq rfl) (hb hby at_132) (fun _ _ => ⟨rfl, e5, (by decide : 2 + 0 ≤ _), (by decide : 4 + 0 ≤ _)⟩)
  dsimp only [Pt.U, Pt.locs, Pt.cells, Pt.slots] at X10 l10 y10 z10 st10 hQ10
  subst l10 y10 z10
  obtain ⟨rfl, N10q, e10⟩ := hQ10
  have N10 := Fr.app N5 N10q
  obtain ⟨fs, hr, hrun, hended, hW, hsame⟩ := X10.leave (v := (some (.int (1 : Int32)))) (fun h => by rw [Bd.returns] at h; cases h)
  refine ⟨_, _, pre0 _ ?_, hrun, hended, _, _, rfl, ?_, ⟨_, rfl⟩, hW, hsame.mono (by decide) (by decide)⟩
  · show Steps p.tables e below (s₁.setTop (mkF m 0 #[own_jv p0, .second, own_jv p1, .second, own_jv p2, .second, own_jv p3, .second, iv p4, .unset, .unset, .unset, .unset, .unset, .unset, .unset, .unset, .unset, .unset, .unset, .unset] [])) _
    refine XS.lloadN X0.here hx rfl (hb hby at_0) rfl ?_
    refine X0.ldc2Long hx hown (mvT hZ (hw _ (List.mem_of_getElem? (i := 0) rfl))) (g := (mkF m 1 #[own_jv p0, .second, own_jv p1, .second, own_jv p2, .second, own_jv p3, .second, iv p4, .unset, .unset, .unset, .unset, .unset, .unset, .unset, .unset, .unset, .unset, .unset, .unset] [(.long p0)])) rfl (hb hby at_1) _ ?_
    refine XS.land X0.here hx rfl (hb hby at_4) rfl ?_
    show Steps p.tables e below (s₁.setTop (mkF m 5 #[own_jv p0, .second, own_jv p1, .second, own_jv p2, .second, own_jv p3, .second, iv p4, .unset, .unset, .unset, .unset, .unset, .unset, .unset, .unset, .unset, .unset, .unset, .unset] [(.long (p0 &&& (9223372036854775807 : Int64)))])) _
    rewrite [hm0]
    refine XS.lstore X0.here hx rfl (hb hby at_5) rfl (l' := #[own_jv p0, .second, own_jv p1, .second, own_jv p2, .second, own_jv p3, .second, iv p4, own_jv m0, .second, .unset, .unset, .unset, .unset, .unset, .unset, .unset, .unset, .unset, .unset]) rfl ?_
    refine XS.lloadN X0.here hx rfl (hb hby at_7) rfl ?_
    refine X0.ldc2Long hx hown (mvT hZ (hw _ (List.mem_of_getElem? (i := 0) rfl))) (g := (mkF m 8 #[own_jv p0, .second, own_jv p1, .second, own_jv p2, .second, own_jv p3, .second, iv p4, own_jv m0, .second, .unset, .unset, .unset, .unset, .unset, .unset, .unset, .unset, .unset, .unset] [(.long p1)])) rfl (hb hby at_8) _ ?_
    refine XS.land X0.here hx rfl (hb hby at_11) rfl ?_
    show Steps p.tables e below (s₁.setTop (mkF m 12 #[own_jv p0, .second, own_jv p1, .second, own_jv p2, .second, own_jv p3, .second, iv p4, own_jv m0, .second, .unset, .unset, .unset, .unset, .unset, .unset, .unset, .unset, .unset, .unset] [(.long (p1 &&& (9223372036854775807 : Int64)))])) _
    rewrite [hm1]
    refine XS.lstore X0.here hx rfl (hb hby at_12) rfl (l' := #[own_jv p0, .second, own_jv p1, .second, own_jv p2, .second, own_jv p3, .second, iv p4, own_jv m0, .second, own_jv m1, .second, .unset, .unset, .unset, .unset, .unset, .unset, .unset, .unset]) rfl ?_
    show Steps p.tables e below (s₁.setTop (mkF m 14 #[own_jv p0, .second, own_jv p1, .second, own_jv p2, .second, own_jv p3, .second, iv p4, own_jv m0, .second, own_jv m1, .second, .unset, .unset, .unset, .unset, .unset, .unset, .unset, .unset] [])) _
    refine XS.iload X0.here hx rfl (hb hby at_14) rfl ?_
    refine XS.iconst X0.here hx rfl (hb hby at_16) ?_
    refine XS.iand X0.here hx rfl (hb hby at_17) rfl ?_
    show Steps p.tables e below (s₁.setTop (mkF m 18 #[own_jv p0, .second, own_jv p1, .second, own_jv p2, .second, own_jv p3, .second, iv p4, own_jv m0, .second, own_jv m1, .second, .unset, .unset, .unset, .unset, .unset, .unset, .unset, .unset] [(.int (p4 &&& (1 : Int32)))])) _
    rewrite [hk1]
    refine XS.ifYes X0.here hx rfl (pc0 := 18) (pc' := 26) rfl (hb hby at_18) rfl ((if0 _ _).trans (teq (by decide +kernel : (0 : Int32) = (0 : Int32))).1) (by decide) (by decide) ?_
    refine XS.lload X0.here hx rfl (hb hby at_26) rfl ?_
    refine X0.ldc2Long hx hown (mvT hZ (hw _ (List.mem_of_getElem? (i := 0) rfl))) (g := (mkF m 28 #[own_jv p0, .second, own_jv p1, .second, own_jv p2, .second, own_jv p3, .second, iv p4, own_jv m0, .second, own_jv m1, .second, .unset, .unset, .unset, .unset, .unset, .unset, .unset, .unset] [(.long p2)])) rfl (hb hby at_28) _ ?_
    refine XS.land X0.here hx rfl (hb hby at_31) rfl ?_
    show Steps p.tables e below (s₁.setTop (mkF m 32 #[own_jv p0, .second, own_jv p1, .second, own_jv p2, .second, own_jv p3, .second, iv p4, own_jv m0, .second, own_jv m1, .second, .unset, .unset, .unset, .unset, .unset, .unset, .unset, .unset] [(.long (p2 &&& (9223372036854775807 : Int64)))])) _
    rewrite [hm2]
    refine XS.lstore X0.here hx rfl (hb hby at_32) rfl (l' := #[own_jv p0, .second, own_jv p1, .second, own_jv p2, .second, own_jv p3, .second, iv p4, own_jv m0, .second, own_jv m1, .second, own_jv m2, .second, .unset, .unset, .unset, .unset, .unset, .unset]) rfl ?_
    show Steps p.tables e below (s₁.setTop (mkF m 34 #[own_jv p0, .second, own_jv p1, .second, own_jv p2, .second, own_jv p3, .second, iv p4, own_jv m0, .second, own_jv m1, .second, own_jv m2, .second, .unset, .unset, .unset, .unset, .unset, .unset] [])) _
    refine XS.iload X0.here hx rfl (hb hby at_34) rfl ?_
    refine XS.iconst X0.here hx rfl (hb hby at_36) ?_
    refine XS.iand X0.here hx rfl (hb hby at_37) rfl ?_
    refine XS.ifNo X0.here hx rfl (hb hby at_38) rfl ((if0 _ _).trans (feq hk2).1) ?_
    refine XS.lload X0.here hx rfl (hb hby at_41) rfl ?_
    refine XS.goto X0.here hx rfl (pc0 := 43) (pc' := 52) rfl (hb hby at_43) (by decide) (by decide) ?_
    refine XS.lstore X0.here hx rfl (hb hby at_52) rfl (l' := #[own_jv p0, .second, own_jv p1, .second, own_jv p2, .second, own_jv p3, .second, iv p4, own_jv m0, .second, own_jv m1, .second, own_jv m2, .second, own_jv m1, .second, .unset, .unset, .unset, .unset]) rfl ?_
    refine st1 _ ?_
    show Steps p.tables e below (T1.setTop (mkF m 57 #[own_jv p0, .second, own_jv p1, .second, own_jv p2, .second, own_jv p3, .second, iv p4, own_jv m0, .second, own_jv m1, .second, own_jv m2, .second, own_jv m1, .second, .unset, .unset, .unset, .unset] [(.ref b0_1)])) _
    refine XS.dup X1.here hx rfl (hb hby at_57) rfl rfl ?_
    refine XS.lload X1.here hx rfl (hb hby at_58) rfl ?_
    refine XS.lload X1.here hx rfl (hb hby at_60) rfl ?_
    refine st2.trans ?_
    refine XS.astore X2.here hx rfl (hb hby at_65) rfl rfl (l' := #[own_jv p0, .second, own_jv p1, .second, own_jv p2, .second, own_jv p3, .second, iv p4, own_jv m0, .second, own_jv m1, .second, own_jv m2, .second, own_jv m1, .second, rv b0_1, .unset, .unset, .unset]) rfl ?_
    refine st3 _ ?_
    refine XS.dup X3.here hx rfl (hb hby at_70) rfl rfl ?_
    refine XS.lload X3.here hx rfl (hb hby at_71) rfl ?_
    show Steps p.tables e below (T3.setTop (mkF m 73 #[own_jv p0, .second, own_jv p1, .second, own_jv p2, .second, own_jv p3, .second, iv p4, own_jv m0, .second, own_jv m1, .second, own_jv m2, .second, own_jv m1, .second, rv b0_1, .unset, .unset, .unset] [(.long m2), (.ref b0_3), (.ref b0_3)])) _
    refine XS.lload X3.here hx rfl (hb hby at_73) rfl ?_
    refine st4.trans ?_
    refine XS.astore X4.here hx rfl (hb hby at_78) rfl rfl (l' := #[own_jv p0, .second, own_jv p1, .second, own_jv p2, .second, own_jv p3, .second, iv p4, own_jv m0, .second, own_jv m1, .second, own_jv m2, .second, own_jv m1, .second, rv b0_1, rv b0_3, .unset, .unset]) rfl ?_
    refine XS.iload X4.here hx rfl (hb hby at_80) rfl ?_
    refine XS.iconst X4.here hx rfl (hb hby at_82) ?_
    refine XS.iushr X4.here hx rfl (hb hby at_83) rfl ?_
    refine XS.iconst X4.here hx rfl (hb hby at_84) ?_
    refine XS.iand X4.here hx rfl (hb hby at_85) rfl ?_
    show Steps p.tables e below (T4.setTop (mkF m 86 #[own_jv p0, .second, own_jv p1, .second, own_jv p2, .second, own_jv p3, .second, iv p4, own_jv m0, .second, own_jv m1, .second, own_jv m2, .second, own_jv m1, .second, rv b0_1, rv b0_3, .unset, .unset] [(.int (((p4.toUInt32 >>> ((2 : Int32) &&& 31).toUInt32).toInt32) &&& (3 : Int32)))])) _
    rewrite [hkk]
    show Steps p.tables e below (T4.setTop (mkF m 86 #[own_jv p0, .second, own_jv p1, .second, own_jv p2, .second, own_jv p3, .second, iv p4, own_jv m0, .second, own_jv m1, .second, own_jv m2, .second, own_jv m1, .second, rv b0_1, rv b0_3, .unset, .unset] [(.int (0 : Int32))])) _
    refine XS.istore X4.here hx rfl (hb hby at_86) rfl (l' := #[own_jv p0, .second, own_jv p1, .second, own_jv p2, .second, own_jv p3, .second, iv p4, own_jv m0, .second, own_jv m1, .second, own_jv m2, .second, own_jv m1, .second, rv b0_1, rv b0_3, iv (0 : Int32), .unset]) rfl ?_
    refine XS.iload X4.here hx rfl (hb hby at_88) rfl ?_
    refine XS.ifNo X4.here hx rfl (hb hby at_90) rfl ((if0 _ _).trans (teq (by decide +kernel : (0 : Int32) = (0 : Int32))).2) ?_
    refine XS.lload X4.here hx rfl (hb hby at_93) rfl ?_
    refine XS.lload X4.here hx rfl (hb hby at_95) rfl ?_
    refine XS.lcmp X4.here hx rfl (hb hby at_97) rfl ?_
    refine XS.ifNo X4.here hx rfl (hb hby at_98) rfl ((if0 _ _).trans ((if0 _ _).symm.trans (Jvm.Free.XT.ll_ne_f hi1))) ?_
    refine XS.lload X4.here hx rfl (hb hby at_101) rfl ?_
    show Steps p.tables e below (T4.setTop (mkF m 103 #[own_jv p0, .second, own_jv p1, .second, own_jv p2, .second, own_jv p3, .second, iv p4, own_jv m0, .second, own_jv m1, .second, own_jv m2, .second, own_jv m1, .second, rv b0_1, rv b0_3, iv (0 : Int32), .unset] [(.long m1)])) _
    refine XS.lload X4.here hx rfl (hb hby at_103) rfl ?_
    refine XS.lcmp X4.here hx rfl (hb hby at_105) rfl ?_
    refine XS.ifNo X4.here hx rfl (hb hby at_106) rfl ((if0 _ _).trans ((if0 _ _).symm.trans (Jvm.Free.XT.ll_ne_f rfl))) ?_
    refine XS.iconst X4.here hx rfl (hb hby at_109) ?_
    refine XS.goto X4.here hx rfl (pc0 := 110) (pc' := 114) rfl (hb hby at_110) (by decide) (by decide) ?_
    refine XS.istore X4.here hx rfl (hb hby at_114) rfl (l' := #[own_jv p0, .second, own_jv p1, .second, own_jv p2, .second, own_jv p3, .second, iv p4, own_jv m0, .second, own_jv m1, .second, own_jv m2, .second, own_jv m1, .second, rv b0_1, rv b0_3, iv (0 : Int32), iv (1 : Int32)]) rfl ?_
    refine XS.aload X4.here hx rfl (hb hby at_116) rfl rfl ?_
    refine XS.aload X4.here hx rfl (hb hby at_118) rfl rfl ?_
    show Steps p.tables e below (T4.setTop (mkF m 120 #[own_jv p0, .second, own_jv p1, .second, own_jv p2, .second, own_jv p3, .second, iv p4, own_jv m0, .second, own_jv m1, .second, own_jv m2, .second, own_jv m1, .second, rv b0_1, rv b0_3, iv (0 : Int32), iv (1 : Int32)] [(.ref b0_3), (.ref b0_1)])) _
    refine st5.trans ?_
    refine XS.iload X5.here hx rfl (hb hby at_123) rfl ?_
    refine XS.icmpNo X5.here hx rfl (hb hby at_125) rfl (teq (by decide +kernel : (1 : Int32) = (1 : Int32))).2 ?_
    refine XS.aload X5.here hx rfl (hb hby at_128) rfl rfl ?_
    refine XS.aload X5.here hx rfl (hb hby at_130) rfl rfl ?_
    refine st10.trans ?_
    refine XS.iload X10.here hx rfl (hb hby at_135) rfl ?_
    refine XS.icmpNo X10.here hx rfl (hb hby at_137) rfl (teq (by decide +kernel : (1 : Int32) = (1 : Int32))).2 ?_
    show Steps p.tables e below (T10.setTop (mkF m 140 #[own_jv p0, .second, own_jv p1, .second, own_jv p2, .second, own_jv p3, .second, iv p4, own_jv m0, .second, own_jv m1, .second, own_jv m2, .second, own_jv m1, .second, rv b0_1, rv b0_3, iv (0 : Int32), iv (1 : Int32)] [])) _
    refine XS.iconst X10.here hx rfl (hb hby at_140) ?_
    refine XS.goto X10.here hx rfl (pc0 := 141) (pc' := 145) rfl (hb hby at_141) (by decide) (by decide) ?_
    exact retN X10 hx (t := .boolean) Bd.returns (by simp) (hb hby at_145) hr
  · exact ⟨rfl, N10⟩
set_option maxRecDepth 65536 in
set_option maxHeartbeats 40000000 in
theorem rm3_11 (l : Launch) (Z : State) (a0 : Array Value) (hw : ∀ d ∈ tables_1, d.before a0 Z = true) (ws : List Jvm.Cond) (m0 : Int64) (m2 : Int64) (b0_1 : Addr) (b0_3 : Addr) (h0 : Heap) (n0 : Nat) (Z0 : n0 ≤ h0.size) (E_b0_3 : Exa Z h0 b0_3 "com/example/allotd/allotd/engine/Tokens") (F_b0_3_input : Fld Z h0 b0_3 "com/example/allotd/allotd/engine/Tokens" "input" "J" (.long m2)) (F_b0_1_input : Fld Z h0 b0_1 "com/example/allotd/allotd/engine/Tokens" "input" "J" (.long m0)) (hi2 : ¬ (m2 = m0)) :
    MetFree l (⟨"com/example/allotd/allotd/engine/Tokens", "equals", "(Ljava/lang/Object;)Z"⟩ : MethodName) (head1 (Jvm.Cond.code (⟨"com/example/allotd/allotd/engine/Tokens", "equals", "(Ljava/lang/Object;)Z"⟩ : MethodName) prog_21_method_4_code 3 (some .boolean) :: ws) ({ frames := 0, cells := 0, slots := 0, locals := 0 } : Room)) (fun a U => a = #[(.ref b0_1), (.ref b0_3)] ∧ Z.Warmed39 U.vm ∧ U.heap = h0) (fun _ _ _ _ _ => True) (fun _ U o U' => ∃ v L, o = .returned v ∧ own_QP (some (.int (0 : Int32))) h0 n0 v U'.heap L ∧ FrameEnd U o U' L ({ frames := 0, cells := 0, slots := 0, locals := 0 } : Room).cells ({ frames := 0, cells := 0, slots := 0, locals := 0 } : Room).slots) := by
  refine MetFree.of_bodySF (plainFor_of_name pn_2) hisR ?_
  intro p e s m args below meth c s₁ Bd hml0 hP hK
  obtain ⟨rfl, hZ, hh⟩ := hP
  have hx := Bd.exec
  have hby := Bd.bytes
  have hml : c.maxLocals = 3 := hml0
  have hown : s.vm.findClass "com/example/allotd/allotd/engine/Tokens" = some m.cls := findClass_of_methodNamed Bd.named
  have hnm := (name_of_methodNamed Bd.named Bd.method).1
  have X0 : Stand p l e ({ frames := 0, cells := 0, slots := 0, locals := 0 } : Room) s m #[(.ref b0_1), (.ref b0_3)] below meth c s₁ [] 0 0 := Stand.of_body Bd
  have e0 : s₁.heap = h0 := by rw [← hh, Bd.state]; rfl
  have N0 := Fr.nil n0
  have pre0 : ∀ t, Steps p.tables e below (s₁.setTop (mkF m 0 #[rv b0_1, rv b0_3, .unset] [])) t → Steps p.tables e below (s₁.setTop (entryFrame m #[(.ref b0_1), (.ref b0_3)] 3)) t := fun t k => castTop (ef_3_RR m b0_1 b0_3) k
  obtain ⟨T1, X1, e1, st1⟩ := instY X0 hx hZ hown (hw _ (List.mem_of_getElem? (i := 19) rfl)) e0 (Ins.self E_b0_3) (g := (mkF m 1 #[rv b0_1, rv b0_3, .unset] [(.ref b0_3)])) rfl rfl (hb hby d3_1)
  obtain ⟨T2, X2, e2, st2⟩ := castY X1 hx hZ hown (hw _ (List.mem_of_getElem? (i := 19) rfl)) e1 (Ins.self E_b0_3) (g := (mkF m 8 #[rv b0_1, rv b0_3, .unset] [(.ref b0_3)])) rfl rfl (hb hby d3_8)
  obtain ⟨T3, X3, e3, st3⟩ := getF X2 hx hZ hown (host := "") (Or.inl (hw _ (List.mem_of_getElem? (i := 10) rfl))) Via.refl e2 F_b0_3_input (g := (mkF m 13 #[rv b0_1, rv b0_3, rv b0_3] [(.ref b0_3)])) rfl rfl (hb hby d3_13)
  obtain ⟨T4, X4, e4, st4⟩ := getF X3 hx hZ hown (host := "") (Or.inl (hw _ (List.mem_of_getElem? (i := 10) rfl))) Via.refl e3 F_b0_1_input (g := (mkF m 17 #[rv b0_1, rv b0_3, rv b0_3] [(.ref b0_1), (.long m2)])) rfl rfl (hb hby d3_17)
  obtain ⟨fs, hr, hrun, hended, hW, hsame⟩ := X4.leave (v := (some (.int (0 : Int32)))) (fun h => by rw [Bd.returns] at h; cases h)
  refine ⟨_, _, pre0 _ ?_, hrun, hended, _, _, rfl, ?_, ⟨_, rfl⟩, hW, hsame.mono (by decide) (by decide)⟩
  · show Steps p.tables e below (s₁.setTop (mkF m 0 #[rv b0_1, rv b0_3, .unset] [])) _
    refine XS.aloadN X0.here hx rfl (hb hby d3_0) rfl rfl ?_
    refine st1 _ ?_
    refine XS.ifNo X1.here hx rfl (hb hby d3_4) rfl ((if0 _ _).trans (feq (by decide +kernel : ¬ ((1 : Int32) = (0 : Int32)))).1) ?_
    refine XS.aloadN X1.here hx rfl (hb hby d3_7) rfl rfl ?_
    refine st2 _ ?_
    refine XS.astoreN X2.here hx rfl (hb hby d3_11) rfl rfl (l' := #[rv b0_1, rv b0_3, rv b0_3]) rfl ?_
    refine XS.aloadN X2.here hx rfl (hb hby d3_12) rfl rfl ?_
    refine st3 _ ?_
    show Steps p.tables e below (T3.setTop (mkF m 16 #[rv b0_1, rv b0_3, rv b0_3] [(.long m2)])) _
    refine XS.aloadN X3.here hx rfl (hb hby d3_16) rfl rfl ?_
    refine st4 _ ?_
    refine XS.lcmp X4.here hx rfl (hb hby d3_20) rfl ?_
    refine XS.ifYes X4.here hx rfl (pc0 := 21) (pc' := 40) rfl (hb hby d3_21) rfl ((if0 _ _).trans ((if0 _ _).symm.trans (Jvm.Free.XT.ll_ne_t hi2))) (by decide) (by decide) ?_
    refine XS.iconst X4.here hx rfl (hb hby d3_40) ?_
    exact retN X4 hx (t := .boolean) Bd.returns (by simp) (hb hby d3_41) hr
  · exact ⟨rfl, N0, e4⟩
set_option maxRecDepth 65536 in
set_option maxHeartbeats 40000000 in
theorem rm3_12 (l : Launch) (Z : State) (a0 : Array Value) (hw : ∀ d ∈ tables_1, d.before a0 Z = true) (ws : List Jvm.Cond) (m0 : Int64) (m2 : Int64) (b0_1 : Addr) (b0_3 : Addr) (h0 : Heap) (n0 : Nat) (Z0 : n0 ≤ h0.size) (E_b0_1 : Exa Z h0 b0_1 "com/example/allotd/allotd/engine/Tokens") (F_b0_1_input : Fld Z h0 b0_1 "com/example/allotd/allotd/engine/Tokens" "input" "J" (.long m0)) (F_b0_3_input : Fld Z h0 b0_3 "com/example/allotd/allotd/engine/Tokens" "input" "J" (.long m2)) (hi1 : ¬ (m0 = m2)) :
    MetFree l (⟨"com/example/allotd/allotd/engine/Tokens", "equals", "(Ljava/lang/Object;)Z"⟩ : MethodName) (head1 (Jvm.Cond.code (⟨"com/example/allotd/allotd/engine/Tokens", "equals", "(Ljava/lang/Object;)Z"⟩ : MethodName) prog_21_method_4_code 3 (some .boolean) :: ws) ({ frames := 0, cells := 0, slots := 0, locals := 0 } : Room)) (fun a U => a = #[(.ref b0_3), (.ref b0_1)] ∧ Z.Warmed39 U.vm ∧ U.heap = h0) (fun _ _ _ _ _ => True) (fun _ U o U' => ∃ v L, o = .returned v ∧ own_QP (some (.int (0 : Int32))) h0 n0 v U'.heap L ∧ FrameEnd U o U' L ({ frames := 0, cells := 0, slots := 0, locals := 0 } : Room).cells ({ frames := 0, cells := 0, slots := 0, locals := 0 } : Room).slots) := by
  refine MetFree.of_bodySF (plainFor_of_name pn_2) hisR ?_
  intro p e s m args below meth c s₁ Bd hml0 hP hK
  obtain ⟨rfl, hZ, hh⟩ := hP
  have hx := Bd.exec
  have hby := Bd.bytes
  have hml : c.maxLocals = 3 := hml0
  have hown : s.vm.findClass "com/example/allotd/allotd/engine/Tokens" = some m.cls := findClass_of_methodNamed Bd.named
  have hnm := (name_of_methodNamed Bd.named Bd.method).1
  have X0 : Stand p l e ({ frames := 0, cells := 0, slots := 0, locals := 0 } : Room) s m #[(.ref b0_3), (.ref b0_1)] below meth c s₁ [] 0 0 := Stand.of_body Bd
  have e0 : s₁.heap = h0 := by rw [← hh, Bd.state]; rfl
  have N0 := Fr.nil n0
  have pre0 : ∀ t, Steps p.tables e below (s₁.setTop (mkF m 0 #[rv b0_3, rv b0_1, .unset] [])) t → Steps p.tables e below (s₁.setTop (entryFrame m #[(.ref b0_3), (.ref b0_1)] 3)) t := fun t k => castTop (ef_3_RR m b0_3 b0_1) k
  obtain ⟨T1, X1, e1, st1⟩ := instY X0 hx hZ hown (hw _ (List.mem_of_getElem? (i := 19) rfl)) e0 (Ins.self E_b0_1) (g := (mkF m 1 #[rv b0_3, rv b0_1, .unset] [(.ref b0_1)])) rfl rfl (hb hby d3_1)
  obtain ⟨T2, X2, e2, st2⟩ := castY X1 hx hZ hown (hw _ (List.mem_of_getElem? (i := 19) rfl)) e1 (Ins.self E_b0_1) (g := (mkF m 8 #[rv b0_3, rv b0_1, .unset] [(.ref b0_1)])) rfl rfl (hb hby d3_8)
  obtain ⟨T3, X3, e3, st3⟩ := getF X2 hx hZ hown (host := "") (Or.inl (hw _ (List.mem_of_getElem? (i := 10) rfl))) Via.refl e2 F_b0_1_input (g := (mkF m 13 #[rv b0_3, rv b0_1, rv b0_1] [(.ref b0_1)])) rfl rfl (hb hby d3_13)
  obtain ⟨T4, X4, e4, st4⟩ := getF X3 hx hZ hown (host := "") (Or.inl (hw _ (List.mem_of_getElem? (i := 10) rfl))) Via.refl e3 F_b0_3_input (g := (mkF m 17 #[rv b0_3, rv b0_1, rv b0_1] [(.ref b0_3), (.long m0)])) rfl rfl (hb hby d3_17)
  obtain ⟨fs, hr, hrun, hended, hW, hsame⟩ := X4.leave (v := (some (.int (0 : Int32)))) (fun h => by rw [Bd.returns] at h; cases h)
  refine ⟨_, _, pre0 _ ?_, hrun, hended, _, _, rfl, ?_, ⟨_, rfl⟩, hW, hsame.mono (by decide) (by decide)⟩
  · show Steps p.tables e below (s₁.setTop (mkF m 0 #[rv b0_3, rv b0_1, .unset] [])) _
    refine XS.aloadN X0.here hx rfl (hb hby d3_0) rfl rfl ?_
    refine st1 _ ?_
    refine XS.ifNo X1.here hx rfl (hb hby d3_4) rfl ((if0 _ _).trans (feq (by decide +kernel : ¬ ((1 : Int32) = (0 : Int32)))).1) ?_
    refine XS.aloadN X1.here hx rfl (hb hby d3_7) rfl rfl ?_
    refine st2 _ ?_
    refine XS.astoreN X2.here hx rfl (hb hby d3_11) rfl rfl (l' := #[rv b0_3, rv b0_1, rv b0_1]) rfl ?_
    refine XS.aloadN X2.here hx rfl (hb hby d3_12) rfl rfl ?_
    refine st3 _ ?_
    show Steps p.tables e below (T3.setTop (mkF m 16 #[rv b0_3, rv b0_1, rv b0_1] [(.long m0)])) _
    refine XS.aloadN X3.here hx rfl (hb hby d3_16) rfl rfl ?_
    refine st4 _ ?_
    refine XS.lcmp X4.here hx rfl (hb hby d3_20) rfl ?_
    refine XS.ifYes X4.here hx rfl (pc0 := 21) (pc' := 40) rfl (hb hby d3_21) rfl ((if0 _ _).trans ((if0 _ _).symm.trans (Jvm.Free.XT.ll_ne_t hi1))) (by decide) (by decide) ?_
    refine XS.iconst X4.here hx rfl (hb hby d3_40) ?_
    exact retN X4 hx (t := .boolean) Bd.returns (by simp) (hb hby d3_41) hr
  · exact ⟨rfl, N0, e4⟩
set_option maxRecDepth 65536 in
set_option maxHeartbeats 40000000 in
theorem rm0_3 (l : Launch) (Z : State) (a0 : Array Value) (hw : ∀ d ∈ tables_1, d.before a0 Z = true) (ws : List Jvm.Cond) (p0 : Int64) (p1 : Int64) (p2 : Int64) (p3 : Int64) (p4 : Int32) (m0 : Int64) (m1 : Int64) (m2 : Int64) (m3 : Int64) (h0 : Heap) (n0 : Nat) (Z0 : n0 ≤ h0.size) (hm0 : (p0 &&& (9223372036854775807 : Int64)) = m0) (hm1 : (p1 &&& (9223372036854775807 : Int64)) = m1) (hk1 : (p4 &&& (1 : Int32)) = (0 : Int32)) (hm2 : (p2 &&& (9223372036854775807 : Int64)) = m2) (hk2 : (p4 &&& (2 : Int32)) = (0 : Int32)) (hm3 : (p3 &&& (9223372036854775807 : Int64)) = m3) (hn0 : ¬ (m0 < (0 : Int64))) (hn1 : ¬ (m1 < (0 : Int64))) (hn2 : ¬ (m2 < (0 : Int64))) (hn3 : ¬ (m3 < (0 : Int64))) (hkk : (((p4.toUInt32 >>> ((2 : Int32) &&& 31).toUInt32).toInt32) &&& (3 : Int32)) = (0 : Int32)) (hi1 : ¬ (m0 = m2)) (hi2 : ¬ (m2 = m0)) :
    MetFree l x (head1 (Jvm.Cond.code x code maxLocals ret :: ws) room_1) (fun a U => a = #[(.long p0), (.long p1), (.long p2), (.long p3), (.int p4)] ∧ Z.Warmed39 U.vm ∧ U.heap = h0) (fun _ _ _ _ _ => True) (fun _ U o U' => ∃ v L, o = .returned v ∧ own_QL n0 v U'.heap L ∧ FrameEnd U o U' L room_1.cells room_1.slots) := by
  refine MetFree.of_bodySF (plainFor_of_name pn_3) hisR ?_
  intro p e s m args below meth c s₁ Bd hml0 hP hK
  obtain ⟨rfl, hZ, hh⟩ := hP
  have hx := Bd.exec
  have hby := Bd.bytes
  have hml : c.maxLocals = 21 := hml0
  have hown : s.vm.findClass "com/example/allotd/allotd/engine/TokensEqualsPinLaw" = some m.cls := findClass_of_methodNamed Bd.named
  have hnm := (name_of_methodNamed Bd.named Bd.method).1
  have X0 : Stand p l e room_1 s m #[(.long p0), (.long p1), (.long p2), (.long p3), (.int p4)] below meth c s₁ [] 0 0 := Stand.of_body Bd
  have e0 : s₁.heap = h0 := by rw [← hh, Bd.state]; rfl
  have N0 := Fr.nil n0
  have pre0 : ∀ t, Steps p.tables e below (s₁.setTop (mkF m 0 #[own_jv p0, .second, own_jv p1, .second, own_jv p2, .second, own_jv p3, .second, iv p4, .unset, .unset, .unset, .unset, .unset, .unset, .unset, .unset, .unset, .unset, .unset, .unset] [])) t → Steps p.tables e below (s₁.setTop (entryFrame m #[(.long p0), (.long p1), (.long p2), (.long p3), (.int p4)] maxLocals)) t := fun t k => castTop (ef_0_JJJJI m p0 p1 p2 p3 p4) k
  obtain ⟨T1, h1, X1, e1, E1, A1, D1, -, st1⟩ := newO X0 hx hZ hown (hw _ (List.mem_of_getElem? (i := 1) rfl)) (hw _ (List.mem_of_getElem? (i := 2) rfl)) (hw _ (List.mem_of_getElem? (i := 3) rfl)) e0 (g := (mkF m 54 #[own_jv p0, .second, own_jv p1, .second, own_jv p2, .second, own_jv p3, .second, iv p4, own_jv m0, .second, own_jv m1, .second, own_jv m2, .second, own_jv m3, .second, .unset, .unset, .unset, .unset] [])) rfl (hb hby at_54) (by decide) (by decide)
  obtain ⟨b0_1, gg1⟩ : ∃ z, z = h0.size := ⟨_, rfl⟩
  rw [← gg1] at A1 D1 st1
  have g_b0_1 : n0 ≤ b0_1 := Nat.le_trans Z0 (Nat.le_of_eq gg1.symm)
  have sz_b0_1 : h0.size ≤ b0_1 := Nat.le_trans (Keep.refl h0 []).1 (Nat.le_of_eq gg1.symm)
  have Z1 : n0 ≤ h1.size := Nat.le_trans Z0 E1.1
  have KK1 : Keep h0 h1 [] := (Keep.refl h0 []).ext E1
  have E_b0_1 : Exa Z h1 b0_1 "com/example/allotd/allotd/engine/Tokens" := A1
  have F_b0_1_input : Fld Z h1 b0_1 "com/example/allotd/allotd/engine/Tokens" "input" "J" (.long (0 : Int64)) := D1 (Or.inr (hw _ (List.mem_of_getElem? (i := 11) rfl))) (ty := .long) (by decide)
  have F_b0_1_output : Fld Z h1 b0_1 "com/example/allotd/allotd/engine/Tokens" "output" "J" (.long (0 : Int64)) := D1 (Or.inr (hw _ (List.mem_of_getElem? (i := 13) rfl))) (ty := .long) (by decide)
  obtain ⟨_, _, ⟨T2, L2, k2, n2⟩, -, X2, ⟨Lc2, hQ2, l2, y2, z2⟩, st2⟩ := X1.specialBack hx (y := (⟨"com/example/allotd/allotd/engine/Tokens", "<init>", "(JJ)V"⟩ : MethodName)) rfl hown (mvT hZ (hw _ (List.mem_of_getElem? (i := 4) rfl))) (mvT hZ (hw _ (List.mem_of_getElem? (i := 5) rfl))) (mvT hZ (hw _ (List.mem_of_getElem? (i := 6) rfl))) (by decide) (backOf (W := 1) (rm1_2 l Z a0 hw [] m0 m1 b0_1 h1 n0 Z1 hn0 hn1 E_b0_1 F_b0_1_input g_b0_1 F_b0_1_output) hZ (hw _ (List.mem_of_getElem? (i := 6) rfl)) (hw _ (List.mem_of_getElem? (i := 3) rfl)) (by decide) (by decide)) (g := (mkF m 62 #[own_jv p0, .second, own_jv p1, .second, own_jv p2, .second, own_jv p3, .second, iv p4, own_jv m0, .second, own_jv m1, .second, own_jv m2, .second, own_jv m3, .second, .unset, .unset, .unset, .unset] [(.long m1), (.long m0), (.ref b0_1), (.ref b0_1)])) rfl (by rw [hml]; rfl) (Steps.refl _) (a := b0_1) (argsL := [(.long m0), (.long m1)]) (rest := [(.ref b0_1)]) (lenOf pd_2 rfl) rfl (by show 2 * 0 + _ ≤ _; exact Nat.le_of_eq rfl) (hb hby at_62) (fun _ _ => ⟨rfl, e1, (by decide : 1 + 0 ≤ _), (by decide : 2 + 0 ≤ _)⟩)
  dsimp only [Pt.U, Pt.locs, Pt.cells, Pt.slots] at X2 l2 y2 z2 st2 hQ2
  subst l2 y2 z2
  obtain ⟨rfl, N2q, K2, fq2_0, fq2_1, fq2_2⟩ := hQ2
  have KK2 : Keep h0 T2.heap [] := KK1.trans K2 (allS (P := fun x => x ∈ [] ∨ h0.size ≤ x) (Or.inr sz_b0_1) all0)
  have Z2 : n0 ≤ T2.heap.size := Nat.le_trans Z1 K2.1
  have N2 := Fr.app N0 N2q
  obtain ⟨T3, h3, X3, e3, E3, A3, D3, -, st3⟩ := newO X2 hx hZ hown (hw _ (List.mem_of_getElem? (i := 1) rfl)) (hw _ (List.mem_of_getElem? (i := 2) rfl)) (hw _ (List.mem_of_getElem? (i := 3) rfl)) rfl (g := (mkF m 67 #[own_jv p0, .second, own_jv p1, .second, own_jv p2, .second, own_jv p3, .second, iv p4, own_jv m0, .second, own_jv m1, .second, own_jv m2, .second, own_jv m3, .second, rv b0_1, .unset, .unset, .unset] [])) rfl (hb hby at_67) (by decide) (by decide)
  obtain ⟨b0_3, gg3⟩ : ∃ z, z = T2.heap.size := ⟨_, rfl⟩
  rw [← gg3] at A3 D3 st3
  have g_b0_3 : n0 ≤ b0_3 := Nat.le_trans Z2 (Nat.le_of_eq gg3.symm)
  have sz_b0_3 : h0.size ≤ b0_3 := Nat.le_trans KK2.1 (Nat.le_of_eq gg3.symm)
  have Z3 : n0 ≤ h3.size := Nat.le_trans Z2 E3.1
  have KK3 : Keep h0 h3 [] := KK2.ext E3
  have E_b0_3 : Exa Z h3 b0_3 "com/example/allotd/allotd/engine/Tokens" := A3
  have F_b0_3_input : Fld Z h3 b0_3 "com/example/allotd/allotd/engine/Tokens" "input" "J" (.long (0 : Int64)) := D3 (Or.inr (hw _ (List.mem_of_getElem? (i := 11) rfl))) (ty := .long) (by decide)
  have F_b0_3_output : Fld Z h3 b0_3 "com/example/allotd/allotd/engine/Tokens" "output" "J" (.long (0 : Int64)) := D3 (Or.inr (hw _ (List.mem_of_getElem? (i := 13) rfl))) (ty := .long) (by decide)
  obtain ⟨_, _, ⟨T4, L4, k4, n4⟩, -, X4, ⟨Lc4, hQ4, l4, y4, z4⟩, st4⟩ := X3.specialBack hx (y := (⟨"com/example/allotd/allotd/engine/Tokens", "<init>", "(JJ)V"⟩ : MethodName)) rfl hown (mvT hZ (hw _ (List.mem_of_getElem? (i := 4) rfl))) (mvT hZ (hw _ (List.mem_of_getElem? (i := 5) rfl))) (mvT hZ (hw _ (List.mem_of_getElem? (i := 6) rfl))) (by decide) (backOf (W := 1) (rm1_3 l Z a0 hw [] m2 m3 b0_3 h3 n0 Z3 hn2 hn3 E_b0_3 F_b0_3_input g_b0_3 F_b0_3_output) hZ (hw _ (List.mem_of_getElem? (i := 6) rfl)) (hw _ (List.mem_of_getElem? (i := 3) rfl)) (by decide) (by decide)) (g := (mkF m 75 #[own_jv p0, .second, own_jv p1, .second, own_jv p2, .second, own_jv p3, .second, iv p4, own_jv m0, .second, own_jv m1, .second, own_jv m2, .second, own_jv m3, .second, rv b0_1, .unset, .unset, .unset] [(.long m3), (.long m2), (.ref b0_3), (.ref b0_3)])) rfl (by rw [hml]; rfl) (Steps.refl _) (a := b0_3) (argsL := [(.long m2), (.long m3)]) (rest := [(.ref b0_3)]) (lenOf pd_2 rfl) rfl (by show 2 * 0 + _ ≤ _; exact Nat.le_of_eq rfl) (hb hby at_75) (fun _ _ => ⟨rfl, e3, (by decide : 2 + 0 ≤ _), (by decide : 4 + 0 ≤ _)⟩)
  dsimp only [Pt.U, Pt.locs, Pt.cells, Pt.slots] at X4 l4 y4 z4 st4 hQ4
  subst l4 y4 z4
  obtain ⟨rfl, N4q, K4, fq4_0, fq4_1, fq4_2⟩ := hQ4
  have KK4 : Keep h0 T4.heap [] := KK3.trans K4 (allS (P := fun x => x ∈ [] ∨ h0.size ≤ x) (Or.inr sz_b0_3) all0)
  have Z4 : n0 ≤ T4.heap.size := Nat.le_trans Z3 K4.1
  have N4 := Fr.app N2 N4q
  have ne_b0_1_b0_3_6 : ¬ (b0_1 = b0_3) := (Nat.ne_of_lt (Nat.lt_of_lt_of_le ((E_b0_1.keep K2)).lt (Nat.le_of_eq gg3.symm)))
  have c7 := ((fq2_0.ext E3).keep K4 (ninS ne_b0_1_b0_3_6 nin0))
  have c8 := ((fq2_2.ext E3).keep K4)
  obtain ⟨cq5, kq5, q5a, q5b, q5c⟩ := isOf hZ rfl c8
  obtain ⟨_, _, ⟨T5, L5, k5, n5⟩, -, X5, ⟨Lc5, hQ5, l5, y5, z5⟩, st5⟩ := X4.virtualBack hx (y := (⟨"com/example/allotd/allotd/engine/Tokens", "equals", "(Ljava/lang/Object;)Z"⟩ : MethodName)) (z := (⟨"com/example/allotd/allotd/engine/Tokens", "equals", "(Ljava/lang/Object;)Z"⟩ : MethodName)) hown (mvT hZ (hw _ (List.mem_of_getElem? (i := 14) rfl))) (mvT hZ (hw _ (List.mem_of_getElem? (i := 15) rfl))) (notFace_of_selects (args := #[]) (mvT hZ (hw _ (List.mem_of_getElem? (i := 17) rfl)))) (mvT hZ (hw _ (List.mem_of_getElem? (i := 17) rfl))) (mvT hZ (hw _ (List.mem_of_getElem? (i := 16) rfl))) (by decide) (backOf (W := 0) (rm3_11 l Z a0 hw [] m0 m2 b0_1 b0_3 T4.heap n0 Z4 fq4_2 fq4_0 c7 hi2) hZ (hw _ (List.mem_of_getElem? (i := 18) rfl)) (hw _ (List.mem_of_getElem? (i := 3) rfl)) (by decide) (by decide)) q5a q5c (g := (mkF m 120 #[own_jv p0, .second, own_jv p1, .second, own_jv p2, .second, own_jv p3, .second, iv p4, own_jv m0, .second, own_jv m1, .second, own_jv m2, .second, own_jv m3, .second, rv b0_1, rv b0_3, iv (0 : Int32), iv (0 : Int32)] [(.ref b0_3), (.ref b0_1)])) rfl (by rw [hml]; rfl) (Steps.refl _) (argsL := [(.ref b0_3)]) (rest := []) (lenOf pd_3 rfl) rfl (by show 2 * 0 + _ ≤ _; exact Nat.le_of_eq rfl) (hb hby at_120) (fun _ _ => ⟨rfl, rfl, (by decide : 2 + 0 ≤ _), (by decide : 4 + 0 ≤ _)⟩)
  dsimp only [Pt.U, Pt.locs, Pt.cells, Pt.slots] at X5 l5 y5 z5 st5 hQ5
  subst l5 y5 z5
  obtain ⟨rfl, N5q, e5⟩ := hQ5
  have N5 := Fr.app N4 N5q
  obtain ⟨cq9, kq9, q9a, q9b, q9c⟩ := isOf hZ e5 fq4_2
  obtain ⟨_, _, ⟨T9, L9, k9, n9⟩, -, X9, ⟨Lc9, hQ9, l9, y9, z9⟩, st9⟩ := X5.virtualBack hx (y := (⟨"com/example/allotd/allotd/engine/Tokens", "equals", "(Ljava/lang/Object;)Z"⟩ : MethodName)) (z := (⟨"com/example/allotd/allotd/engine/Tokens", "equals", "(Ljava/lang/Object;)Z"⟩ : MethodName)) hown (mvT hZ (hw _ (List.mem_of_getElem? (i := 14) rfl))) (mvT hZ (hw _ (List.mem_of_getElem? (i := 15) rfl))) (notFace_of_selects (args := #[]) (mvT hZ (hw _ (List.mem_of_getElem? (i := 17) rfl)))) (mvT hZ (hw _ (List.mem_of_getElem? (i := 17) rfl))) (mvT hZ (hw _ (List.mem_of_getElem? (i := 16) rfl))) (by decide) (backOf (W := 0) (rm3_12 l Z a0 hw [] m0 m2 b0_1 b0_3 T4.heap n0 Z4 c8 c7 fq4_0 hi1) hZ (hw _ (List.mem_of_getElem? (i := 18) rfl)) (hw _ (List.mem_of_getElem? (i := 3) rfl)) (by decide) (by decide)) q9a q9c (g := (mkF m 132 #[own_jv p0, .second, own_jv p1, .second, own_jv p2, .second, own_jv p3, .second, iv p4, own_jv m0, .second, own_jv m1, .second, own_jv m2, .second, own_jv m3, .second, rv b0_1, rv b0_3, iv (0 : Int32), iv (0 : Int32)] [(.ref b0_1), (.ref b0_3)])) rfl (by rw [hml]; rfl) (Steps.refl _) (argsL := [(.ref b0_1)]) (rest := []) (lenOf pd_3 rfl) rfl (by show 2 * 0 + _ ≤ _; exact Nat.le_of_eq rfl) (hb hby at_132) (fun _ _ => ⟨rfl, e5, (by decide : 2 + 0 ≤ _), (by decide : 4 + 0 ≤ _)⟩)
  dsimp only [Pt.U, Pt.locs, Pt.cells, Pt.slots] at X9 l9 y9 z9 st9 hQ9
  subst l9 y9 z9
  obtain ⟨rfl, N9q, e9⟩ := hQ9
  have N9 := Fr.app N5 N9q
  obtain ⟨fs, hr, hrun, hended, hW, hsame⟩ := X9.leave (v := (some (.int (1 : Int32)))) (fun h => by rw [Bd.returns] at h; cases h)
  refine ⟨_, _, pre0 _ ?_, hrun, hended, _, _, rfl, ?_, ⟨_, rfl⟩, hW, hsame.mono (by decide) (by decide)⟩
  · show Steps p.tables e below (s₁.setTop (mkF m 0 #[own_jv p0, .second, own_jv p1, .second, own_jv p2, .second, own_jv p3, .second, iv p4, .unset, .unset, .unset, .unset, .unset, .unset, .unset, .unset, .unset, .unset, .unset, .unset] [])) _
    refine XS.lloadN X0.here hx rfl (hb hby at_0) rfl ?_
    refine X0.ldc2Long hx hown (mvT hZ (hw _ (List.mem_of_getElem? (i := 0) rfl))) (g := (mkF m 1 #[own_jv p0, .second, own_jv p1, .second, own_jv p2, .second, own_jv p3, .second, iv p4, .unset, .unset, .unset, .unset, .unset, .unset, .unset, .unset, .unset, .unset, .unset, .unset] [(.long p0)])) rfl (hb hby at_1) _ ?_
    refine XS.land X0.here hx rfl (hb hby at_4) rfl ?_
    show Steps p.tables e below (s₁.setTop (mkF m 5 #[own_jv p0, .second, own_jv p1, .second, own_jv p2, .second, own_jv p3, .second, iv p4, .unset, .unset, .unset, .unset, .unset, .unset, .unset, .unset, .unset, .unset, .unset, .unset] [(.long (p0 &&& (9223372036854775807 : Int64)))])) _
    rewrite [hm0]
    refine XS.lstore X0.here hx rfl (hb hby at_5) rfl (l' := #[own_jv p0, .second, own_jv p1, .second, own_jv p2, .second, own_jv p3, .second, iv p4, own_jv m0, .second, .unset, .unset, .unset, .unset, .unset, .unset, .unset, .unset, .unset, .unset]) rfl ?_
    refine XS.lloadN X0.here hx rfl (hb hby at_7) rfl ?_
    refine X0.ldc2Long hx hown (mvT hZ (hw _ (List.mem_of_getElem? (i := 0) rfl))) (g := (mkF m 8 #[own_jv p0, .second, own_jv p1, .second, own_jv p2, .second, own_jv p3, .second, iv p4, own_jv m0, .second, .unset, .unset, .unset, .unset, .unset, .unset, .unset, .unset, .unset, .unset] [(.long p1)])) rfl (hb hby at_8) _ ?_
    refine XS.land X0.here hx rfl (hb hby at_11) rfl ?_
    show Steps p.tables e below (s₁.setTop (mkF m 12 #[own_jv p0, .second, own_jv p1, .second, own_jv p2, .second, own_jv p3, .second, iv p4, own_jv m0, .second, .unset, .unset, .unset, .unset, .unset, .unset, .unset, .unset, .unset, .unset] [(.long (p1 &&& (9223372036854775807 : Int64)))])) _
    rewrite [hm1]
    refine XS.lstore X0.here hx rfl (hb hby at_12) rfl (l' := #[own_jv p0, .second, own_jv p1, .second, own_jv p2, .second, own_jv p3, .second, iv p4, own_jv m0, .second, own_jv m1, .second, .unset, .unset, .unset, .unset, .unset, .unset, .unset, .unset]) rfl ?_
    show Steps p.tables e below (s₁.setTop (mkF m 14 #[own_jv p0, .second, own_jv p1, .second, own_jv p2, .second, own_jv p3, .second, iv p4, own_jv m0, .second, own_jv m1, .second, .unset, .unset, .unset, .unset, .unset, .unset, .unset, .unset] [])) _
    refine XS.iload X0.here hx rfl (hb hby at_14) rfl ?_
    refine XS.iconst X0.here hx rfl (hb hby at_16) ?_
    refine XS.iand X0.here hx rfl (hb hby at_17) rfl ?_
    show Steps p.tables e below (s₁.setTop (mkF m 18 #[own_jv p0, .second, own_jv p1, .second, own_jv p2, .second, own_jv p3, .second, iv p4, own_jv m0, .second, own_jv m1, .second, .unset, .unset, .unset, .unset, .unset, .unset, .unset, .unset] [(.int (p4 &&& (1 : Int32)))])) _
    rewrite [hk1]
    refine XS.ifYes X0.here hx rfl (pc0 := 18) (pc' := 26) rfl (hb hby at_18) rfl ((if0 _ _).trans (teq (by decide +kernel : (0 : Int32) = (0 : Int32))).1) (by decide) (by decide) ?_
    refine XS.lload X0.here hx rfl (hb hby at_26) rfl ?_
    refine X0.ldc2Long hx hown (mvT hZ (hw _ (List.mem_of_getElem? (i := 0) rfl))) (g := (mkF m 28 #[own_jv p0, .second, own_jv p1, .second, own_jv p2, .second, own_jv p3, .second, iv p4, own_jv m0, .second, own_jv m1, .second, .unset, .unset, .unset, .unset, .unset, .unset, .unset, .unset] [(.long p2)])) rfl (hb hby at_28) _ ?_
    refine XS.land X0.here hx rfl (hb hby at_31) rfl ?_
    show Steps p.tables e below (s₁.setTop (mkF m 32 #[own_jv p0, .second, own_jv p1, .second, own_jv p2, .second, own_jv p3, .second, iv p4, own_jv m0, .second, own_jv m1, .second, .unset, .unset, .unset, .unset, .unset, .unset, .unset, .unset] [(.long (p2 &&& (9223372036854775807 : Int64)))])) _
    rewrite [hm2]
    refine XS.lstore X0.here hx rfl (hb hby at_32) rfl (l' := #[own_jv p0, .second, own_jv p1, .second, own_jv p2, .second, own_jv p3, .second, iv p4, own_jv m0, .second, own_jv m1, .second, own_jv m2, .second, .unset, .unset, .unset, .unset, .unset, .unset]) rfl ?_
    show Steps p.tables e below (s₁.setTop (mkF m 34 #[own_jv p0, .second, own_jv p1, .second, own_jv p2, .second, own_jv p3, .second, iv p4, own_jv m0, .second, own_jv m1, .second, own_jv m2, .second, .unset, .unset, .unset, .unset, .unset, .unset] [])) _
    refine XS.iload X0.here hx rfl (hb hby at_34) rfl ?_
    refine XS.iconst X0.here hx rfl (hb hby at_36) ?_
    refine XS.iand X0.here hx rfl (hb hby at_37) rfl ?_
    refine XS.ifYes X0.here hx rfl (pc0 := 38) (pc' := 46) rfl (hb hby at_38) rfl ((if0 _ _).trans (teq hk2).1) (by decide) (by decide) ?_
    refine XS.lload X0.here hx rfl (hb hby at_46) rfl ?_
    refine X0.ldc2Long hx hown (mvT hZ (hw _ (List.mem_of_getElem? (i := 0) rfl))) (g := (mkF m 48 #[own_jv p0, .second, own_jv p1, .second, own_jv p2, .second, own_jv p3, .second, iv p4, own_jv m0, .second, own_jv m1, .second, own_jv m2, .second, .unset, .unset, .unset, .unset, .unset, .unset] [(.long p3)])) rfl (hb hby at_48) _ ?_
    refine XS.land X0.here hx rfl (hb hby at_51) rfl ?_
    show Steps p.tables e below (s₁.setTop (mkF m 52 #[own_jv p0, .second, own_jv p1, .second, own_jv p2, .second, own_jv p3, .second, iv p4, own_jv m0, .second, own_jv m1, .second, own_jv m2, .second, .unset, .unset, .unset, .unset, .unset, .unset] [(.long (p3 &&& (9223372036854775807 : Int64)))])) _
    rewrite [hm3]
    refine XS.lstore X0.here hx rfl (hb hby at_52) rfl (l' := #[own_jv p0, .second, own_jv p1, .second, own_jv p2, .second, own_jv p3, .second, iv p4, own_jv m0, .second, own_jv m1, .second, own_jv m2, .second, own_jv m3, .second, .unset, .unset, .unset, .unset]) rfl ?_
    show Steps p.tables e below (s₁.setTop (mkF m 54 #[own_jv p0, .second, own_jv p1, .second, own_jv p2, .second, own_jv p3, .second, iv p4, own_jv m0, .second, own_jv m1, .second, own_jv m2, .second, own_jv m3, .second, .unset, .unset, .unset, .unset] [])) _
    refine st1 _ ?_
    refine XS.dup X1.here hx rfl (hb hby at_57) rfl rfl ?_
    refine XS.lload X1.here hx rfl (hb hby at_58) rfl ?_
    refine XS.lload X1.here hx rfl (hb hby at_60) rfl ?_
    refine st2.trans ?_
    refine XS.astore X2.here hx rfl (hb hby at_65) rfl rfl (l' := #[own_jv p0, .second, own_jv p1, .second, own_jv p2, .second, own_jv p3, .second, iv p4, own_jv m0, .second, own_jv m1, .second, own_jv m2, .second, own_jv m3, .second, rv b0_1, .unset, .unset, .unset]) rfl ?_
    refine st3 _ ?_
    refine XS.dup X3.here hx rfl (hb hby at_70) rfl rfl ?_
    show Steps p.tables e below (T3.setTop (mkF m 71 #[own_jv p0, .second, own_jv p1, .second, own_jv p2, .second, own_jv p3, .second, iv p4, own_jv m0, .second, own_jv m1, .second, own_jv m2, .second, own_jv m3, .second, rv b0_1, .unset, .unset, .unset] [(.ref b0_3), (.ref b0_3)])) _
    refine XS.lload X3.here hx rfl (hb hby at_71) rfl ?_
    refine XS.lload X3.here hx rfl (hb hby at_73) rfl ?_
    refine st4.trans ?_
    refine XS.astore X4.here hx rfl (hb hby at_78) rfl rfl (l' := #[own_jv p0, .second, own_jv p1, .second, own_jv p2, .second, own_jv p3, .second, iv p4, own_jv m0, .second, own_jv m1, .second, own_jv m2, .second, own_jv m3, .second, rv b0_1, rv b0_3, .unset, .unset]) rfl ?_
    refine XS.iload X4.here hx rfl (hb hby at_80) rfl ?_
    refine XS.iconst X4.here hx rfl (hb hby at_82) ?_
    refine XS.iushr X4.here hx rfl (hb hby at_83) rfl ?_
    refine XS.iconst X4.here hx rfl (hb hby at_84) ?_
    show Steps p.tables e below (T4.setTop (mkF m 85 #[own_jv p0, .second, own_jv p1, .second, own_jv p2, .second, own_jv p3, .second, iv p4, own_jv m0, .second, own_jv m1, .second, own_jv m2, .second, own_jv m3, .second, rv b0_1, rv b0_3, .unset, .unset] [(.int (3 : Int32)), (.int ((p4.toUInt32 >>> ((2 : Int32) &&& 31).toUInt32).toInt32))])) _
    refine XS.iand X4.here hx rfl (hb hby at_85) rfl ?_
    show Steps p.tables e below (T4.setTop (mkF m 86 #[own_jv p0, .second, own_jv p1, .second, own_jv p2, .second, own_jv p3, .second, iv p4, own_jv m0, .second, own_jv m1, .second, own_jv m2, .second, own_jv m3, .second, rv b0_1, rv b0_3, .unset, .unset] [(.int (((p4.toUInt32 >>> ((2 : Int32) &&& 31).toUInt32).toInt32) &&& (3 : Int32)))])) _
    rewrite [hkk]
    refine XS.istore X4.here hx rfl (hb hby at_86) rfl (l' := #[own_jv p0, .second, own_jv p1, .second, own_jv p2, .second, own_jv p3, .second, iv p4, own_jv m0, .second, own_jv m1, .second, own_jv m2, .second, own_jv m3, .second, rv b0_1, rv b0_3, iv (0 : Int32), .unset]) rfl ?_
    refine XS.iload X4.here hx rfl (hb hby at_88) rfl ?_
    refine XS.ifNo X4.here hx rfl (hb hby at_90) rfl ((if0 _ _).trans (teq (by decide +kernel : (0 : Int32) = (0 : Int32))).2) ?_
    refine XS.lload X4.here hx rfl (hb hby at_93) rfl ?_
    refine XS.lload X4.here hx rfl (hb hby at_95) rfl ?_
    refine XS.lcmp X4.here hx rfl (hb hby at_97) rfl ?_
    refine XS.ifYes X4.here hx rfl (pc0 := 98) (pc' := 113) rfl (hb hby at_98) rfl ((if0 _ _).trans ((if0 _ _).symm.trans (Jvm.Free.XT.ll_ne_t hi1))) (by decide) (by decide) ?_
    show Steps p.tables e below (T4.setTop (mkF m 113 #[own_jv p0, .second, own_jv p1, .second, own_jv p2, .second, own_jv p3, .second, iv p4, own_jv m0, .second, own_jv m1, .second, own_jv m2, .second, own_jv m3, .second, rv b0_1, rv b0_3, iv (0 : Int32), .unset] [])) _
    refine XS.iconst X4.here hx rfl (hb hby at_113) ?_
    refine XS.istore X4.here hx rfl (hb hby at_114) rfl (l' := #[own_jv p0, .second, own_jv p1, .second, own_jv p2, .second, own_jv p3, .second, iv p4, own_jv m0, .second, own_jv m1, .second, own_jv m2, .second, own_jv m3, .second, rv b0_1, rv b0_3, iv (0 : Int32), iv (0 : Int32)]) rfl ?_
    refine XS.aload X4.here hx rfl (hb hby at_116) rfl rfl ?_
    refine XS.aload X4.here hx rfl (hb hby at_118) rfl rfl ?_
    refine st5.trans ?_
    refine XS.iload X5.here hx rfl (hb hby at_123) rfl ?_
    refine XS.icmpNo X5.here hx rfl (hb hby at_125) rfl (teq (by decide +kernel : (0 : Int32) = (0 : Int32))).2 ?_
    refine XS.aload X5.here hx rfl (hb hby at_128) rfl rfl ?_
    show Steps p.tables e below (T5.setTop (mkF m 130 #[own_jv p0, .second, own_jv p1, .second, own_jv p2, .second, own_jv p3, .second, iv p4, own_jv m0, .second, own_jv m1, .second, own_jv m2, .second, own_jv m3, .second, rv b0_1, rv b0_3, iv (0 : Int32), iv (0 : Int32)] [(.ref b0_3)])) _
    refine XS.aload X5.here hx rfl (hb hby at_130) rfl rfl ?_
    refine st9.trans ?_
    refine XS.iload X9.here hx rfl (hb hby at_135) rfl ?_
    refine XS.icmpNo X9.here hx rfl (hb hby at_137) rfl (teq (by decide +kernel : (0 : Int32) = (0 : Int32))).2 ?_
    refine XS.iconst X9.here hx rfl (hb hby at_140) ?_
    refine XS.goto X9.here hx rfl (pc0 := 141) (pc' := 145) rfl (hb hby at_141) (by decide) (by decide) ?_
    exact retN X9 hx (t := .boolean) Bd.returns (by simp) (hb hby at_145) hr
  · exact ⟨rfl, N9⟩
set_option maxRecDepth 65536 in
set_option maxHeartbeats 40000000 in
theorem rm0_4 (l : Launch) (Z : State) (a0 : Array Value) (hw : ∀ d ∈ tables_1, d.before a0 Z = true) (ws : List Jvm.Cond) (p0 : Int64) (p1 : Int64) (p2 : Int64) (p3 : Int64) (p4 : Int32) (m0 : Int64) (m1 : Int64) (m2 : Int64) (m3 : Int64) (h0 : Heap) (n0 : Nat) (Z0 : n0 ≤ h0.size) (hm0 : (p0 &&& (9223372036854775807 : Int64)) = m0) (hm1 : (p1 &&& (9223372036854775807 : Int64)) = m1) (hk1 : (p4 &&& (1 : Int32)) = (0 : Int32)) (hm2 : (p2 &&& (9223372036854775807 : Int64)) = m2) (hk2 : (p4 &&& (2 : Int32)) = (0 : Int32)) (hm3 : (p3 &&& (9223372036854775807 : Int64)) = m3) (hn0 : ¬ (m0 < (0 : Int64))) (hn1 : ¬ (m1 < (0 : Int64))) (hn2 : ¬ (m2 < (0 : Int64))) (hn3 : ¬ (m3 < (0 : Int64))) (hkk : (((p4.toUInt32 >>> ((2 : Int32) &&& 31).toUInt32).toInt32) &&& (3 : Int32)) = (0 : Int32)) (hi1 : ¬ (m0 = m2)) (hi2 : ¬ (m2 = m0)) :
    MetFree l x (head1 (Jvm.Cond.code x code maxLocals ret :: ws) room_1) (fun a U => a = #[(.long p0), (.long p1), (.long p2), (.long p3), (.int p4)] ∧ Z.Warmed39 U.vm ∧ U.heap = h0) (fun _ _ _ _ _ => True) (fun _ U o U' => ∃ v L, o = .returned v ∧ own_QL n0 v U'.heap L ∧ FrameEnd U o U' L room_1.cells room_1.slots) := by
  refine MetFree.of_bodySF (plainFor_of_name pn_3) hisR ?_
  intro p e s m args below meth c s₁ Bd hml0 hP hK
  obtain ⟨rfl, hZ, hh⟩ := hP
  have hx := Bd.exec
  have hby := Bd.bytes
  have hml : c.maxLocals = 21 := hml0
  have hown : s.vm.findClass "com/example/allotd/allotd/engine/TokensEqualsPinLaw" = some m.cls := findClass_of_methodNamed Bd.named
  have hnm := (name_of_methodNamed Bd.named Bd.method).1
  have X0 : Stand p l e room_1 s m #[(.long p0), (.long p1), (.long p2), (.long p3), (.int p4)] below meth c s₁ [] 0 0 := Stand.of_body Bd
  have e0 : s₁.heap = h0 := by rw [← hh, Bd.state]; rfl
  have N0 := Fr.nil n0
  have pre0 : ∀ t, Steps p.tables e below (s₁.setTop (mkF m 0 #[own_jv p0, .second, own_jv p1, .second, own_jv p2, .second, own_jv p3, .second, iv p4, .unset, .unset, .unset, .unset, .unset, .unset, .unset, .unset, .unset, .unset, .unset, .unset] [])) t → Steps p.tables e below (s₁.setTop (entryFrame m #[(.long p0), (.long p1), (.long p2), (.long p3), (.int p4)] maxLocals)) t := fun t k => castTop (ef_0_JJJJI m p0 p1 p2 p3 p4) k
  obtain ⟨T1, h1, X1, e1, E1, A1, D1, -, st1⟩ := newO X0 hx hZ hown (hw _ (List.mem_of_getElem? (i := 1) rfl)) (hw _ (List.mem_of_getElem? (i := 2) rfl)) (hw _ (List.mem_of_getElem? (i := 3) rfl)) e0 (g := (mkF m 54 #[own_jv p0, .second, own_jv p1, .second, own_jv p2, .second, own_jv p3, .second, iv p4, own_jv m0, .second, own_jv m1, .second, own_jv m2, .second, own_jv m3, .second, .unset, .unset, .unset, .unset] [])) rfl (hb hby at_54) (by decide) (by decide)
  obtain ⟨b0_1, gg1⟩ : ∃ z, z = h0.size := ⟨_, rfl⟩
  rw [← gg1] at A1 D1 st1
  have g_b0_1 : n0 ≤ b0_1 := Nat.le_trans Z0 (Nat.le_of_eq gg1.symm)
  have sz_b0_1 : h0.size ≤ b0_1 := Nat.le_trans (Keep.refl h0 []).1 (Nat.le_of_eq gg1.symm)
  have Z1 : n0 ≤ h1.size := Nat.le_trans Z0 E1.1
  have KK1 : Keep h0 h1 [] := (Keep.refl h0 []).ext E1
  have E_b0_1 : Exa Z h1 b0_1 "com/example/allotd/allotd/engine/Tokens" := A1
  have F_b0_1_input : Fld Z h1 b0_1 "com/example/allotd/allotd/engine/Tokens" "input" "J" (.long (0 : Int64)) := D1 (Or.inr (hw _ (List.mem_of_getElem? (i := 11) rfl))) (ty := .long) (by decide)
  have F_b0_1_output : Fld Z h1 b0_1 "com/example/allotd/allotd/engine/Tokens" "output" "J" (.long (0 : Int64)) := D1 (Or.inr (hw _ (List.mem_of_getElem? (i := 13) rfl))) (ty := .long) (by decide)
  obtain ⟨_, _, ⟨T2, L2, k2, n2⟩, -, X2, ⟨Lc2, hQ2, l2, y2, z2⟩, st2⟩ := X1.specialBack hx (y := (⟨"com/example/allotd/allotd/engine/Tokens", "<init>", "(JJ)V"⟩ : MethodName)) rfl hown (mvT hZ (hw _ (List.mem_of_getElem? (i := 4) rfl))) (mvT hZ (hw _ (List.mem_of_getElem? (i := 5) rfl))) (mvT hZ (hw _ (List.mem_of_getElem? (i := 6) rfl))) (by decide) (backOf (W := 1) (rm1_2 l Z a0 hw [] m0 m1 b0_1 h1 n0 Z1 hn0 hn1 E_b0_1 F_b0_1_input g_b0_1 F_b0_1_output) hZ (hw _ (List.mem_of_getElem? (i := 6) rfl)) (hw _ (List.mem_of_getElem? (i := 3) rfl)) (by decide) (by decide)) (g := (mkF m 62 #[own_jv p0, .second, own_jv p1, .second, own_jv p2, .second, own_jv p3, .second, iv p4, own_jv m0, .second, own_jv m1, .second, own_jv m2, .second, own_jv m3, .second, .unset, .unset, .unset, .unset] [(.long m1), (.long m0), (.ref b0_1), (.ref b0_1)])) rfl (by rw [hml]; rfl) (Steps.refl _) (a := b0_1) (argsL := [(.long m0), (.long m1)]) (rest := [(.ref b0_1)]) (lenOf pd_2 rfl) rfl (by show 2 * 0 + _ ≤ _; exact Nat.le_of_eq rfl) (hb hby at_62) (fun _ _ => ⟨rfl, e1, (by decide : 1 + 0 ≤ _), (by decide : 2 + 0 ≤ _)⟩)
  dsimp only [Pt.U, Pt.locs, Pt.cells, Pt.slots] at X2 l2 y2 z2 st2 hQ2
  subst l2 y2 z2
  obtain ⟨rfl, N2q, K2, fq2_0, fq2_1, fq2_2⟩ := hQ2
  have KK2 : Keep h0 T2.heap [] := KK1.trans K2 (allS (P := fun x => x ∈ [] ∨ h0.size ≤ x) (Or.inr sz_b0_1) all0)
  have Z2 : n0 ≤ T2.heap.size := Nat.le_trans Z1 K2.1
  have N2 := Fr.app N0 N2q
  obtain ⟨T3, h3, X3, e3, E3, A3, D3, -, st3⟩ := newO X2 hx hZ hown (hw _ (List.mem_of_getElem? (i := 1) rfl)) (hw _ (List.mem_of_getElem? (i := 2) rfl)) (hw _ (List.mem_of_getElem? (i := 3) rfl)) rfl (g := (mkF m 67 #[own_jv p0, .second, own_jv p1, .second, own_jv p2, .second, own_jv p3, .second, iv p4, own_jv m0, .second, own_jv m1, .second, own_jv m2, .second, own_jv m3, .second, rv b0_1, .unset, .unset, .unset] [])) rfl (hb hby at_67) (by decide) (by decide)
  obtain ⟨b0_3, gg3⟩ : ∃ z, z = T2.heap.size := ⟨_, rfl⟩
  rw [← gg3] at A3 D3 st3
  have g_b0_3 : n0 ≤ b0_3 := Nat.le_trans Z2 (Nat.le_of_eq gg3.symm)
  have sz_b0_3 : h0.size ≤ b0_3 := Nat.le_trans KK2.1 (Nat.le_of_eq gg3.symm)
  have Z3 : n0 ≤ h3.size := Nat.le_trans Z2 E3.1
  have KK3 : Keep h0 h3 [] := KK2.ext E3
  have E_b0_3 : Exa Z h3 b0_3 "com/example/allotd/allotd/engine/Tokens" := A3
  have F_b0_3_input : Fld Z h3 b0_3 "com/example/allotd/allotd/engine/Tokens" "input" "J" (.long (0 : Int64)) := D3 (Or.inr (hw _ (List.mem_of_getElem? (i := 11) rfl))) (ty := .long) (by decide)
  have F_b0_3_output : Fld Z h3 b0_3 "com/example/allotd/allotd/engine/Tokens" "output" "J" (.long (0 : Int64)) := D3 (Or.inr (hw _ (List.mem_of_getElem? (i := 13) rfl))) (ty := .long) (by decide)
  obtain ⟨_, _, ⟨T4, L4, k4, n4⟩, -, X4, ⟨Lc4, hQ4, l4, y4, z4⟩, st4⟩ := X3.specialBack hx (y := (⟨"com/example/allotd/allotd/engine/Tokens", "<init>", "(JJ)V"⟩ : MethodName)) rfl hown (mvT hZ (hw _ (List.mem_of_getElem? (i := 4) rfl))) (mvT hZ (hw _ (List.mem_of_getElem? (i := 5) rfl))) (mvT hZ (hw _ (List.mem_of_getElem? (i := 6) rfl))) (by decide) (backOf (W := 1) (rm1_3 l Z a0 hw [] m2 m3 b0_3 h3 n0 Z3 hn2 hn3 E_b0_3 F_b0_3_input g_b0_3 F_b0_3_output) hZ (hw _ (List.mem_of_getElem? (i := 6) rfl)) (hw _ (List.mem_of_getElem? (i := 3) rfl)) (by decide) (by decide)) (g := (mkF m 75 #[own_jv p0, .second, own_jv p1, .second, own_jv p2, .second, own_jv p3, .second, iv p4, own_jv m0, .second, own_jv m1, .second, own_jv m2, .second, own_jv m3, .second, rv b0_1, .unset, .unset, .unset] [(.long m3), (.long m2), (.ref b0_3), (.ref b0_3)])) rfl (by rw [hml]; rfl) (Steps.refl _) (a := b0_3) (argsL := [(.long m2), (.long m3)]) (rest := [(.ref b0_3)]) (lenOf pd_2 rfl) rfl (by show 2 * 0 + _ ≤ _; exact Nat.le_of_eq rfl) (hb hby at_75) (fun _ _ => ⟨rfl, e3, (by decide : 2 + 0 ≤ _), (by decide : 4 + 0 ≤ _)⟩)
  dsimp only [Pt.U, Pt.locs, Pt.cells, Pt.slots] at X4 l4 y4 z4 st4 hQ4
  subst l4 y4 z4
  obtain ⟨rfl, N4q, K4, fq4_0, fq4_1, fq4_2⟩ := hQ4
  have KK4 : Keep h0 T4.heap [] := KK3.trans K4 (allS (P := fun x => x ∈ [] ∨ h0.size ≤ x) (Or.inr sz_b0_3) all0)
  have Z4 : n0 ≤ T4.heap.size := Nat.le_trans Z3 K4.1
  have N4 := Fr.app N2 N4q
  have ne_b0_1_b0_3_6 : ¬ (b0_1 = b0_3) := (Nat.ne_of_lt (Nat.lt_of_lt_of_le ((E_b0_1.keep K2)).lt (Nat.le_of_eq gg3.symm)))
  have c7 := ((fq2_0.ext E3).keep K4 (ninS ne_b0_1_b0_3_6 nin0))
  have c8 := ((fq2_2.ext E3).keep K4)
  obtain ⟨cq5, kq5, q5a, q5b, q5c⟩ := isOf hZ rfl c8
  obtain ⟨_, _, ⟨T5, L5, k5, n5⟩, -, X5, ⟨Lc5, hQ5, l5, y5, z5⟩, st5⟩ := X4.virtualBack hx (y := (⟨"com/example/allotd/allotd/engine/Tokens", "equals", "(Ljava/lang/Object;)Z"⟩ : MethodName)) (z := (⟨"com/example/allotd/allotd/engine/Tokens", "equals", "(Ljava/lang/Object;)Z"⟩ : MethodName)) hown (mvT hZ (hw _ (List.mem_of_getElem? (i := 14) rfl))) (mvT hZ (hw _ (List.mem_of_getElem? (i := 15) rfl))) (notFace_of_selects (args := #[]) (mvT hZ (hw _ (List.mem_of_getElem? (i := 17) rfl)))) (mvT hZ (hw _ (List.mem_of_getElem? (i := 17) rfl))) (mvT hZ (hw _ (List.mem_of_getElem? (i := 16) rfl))) (by decide) (backOf (W := 0) (rm3_11 l Z a0 hw [] m0 m2 b0_1 b0_3 T4.heap n0 Z4 fq4_2 fq4_0 c7 hi2) hZ (hw _ (List.mem_of_getElem? (i := 18) rfl)) (hw _ (List.mem_of_getElem? (i := 3) rfl)) (by decide) (by decide)) q5a q5c (g := (mkF m 120 #[own_jv p0, .second, own_jv p1, .second, own_jv p2, .second, own_jv p3, .second, iv p4, own_jv m0, .second, own_jv m1, .second, own_jv m2, .second, own_jv m3, .second, rv b0_1, rv b0_3, iv (0 : Int32), iv (0 : Int32)] [(.ref b0_3), (.ref b0_1)])) rfl (by rw [hml]; rfl) (Steps.refl _) (argsL := [(.ref b0_3)]) (rest := []) (lenOf pd_3 rfl) rfl (by show 2 * 0 + _ ≤ _; exact Nat.le_of_eq rfl) (hb hby at_120) (fun _ _ => ⟨rfl, rfl, (by decide : 2 + 0 ≤ _), (by decide : 4 + 0 ≤ _)⟩)
  dsimp only [Pt.U, Pt.locs, Pt.cells, Pt.slots] at X5 l5 y5 z5 st5 hQ5
  subst l5 y5 z5
  obtain ⟨rfl, N5q, e5⟩ := hQ5
  have N5 := Fr.app N4 N5q
  obtain ⟨cq9, kq9, q9a, q9b, q9c⟩ := isOf hZ e5 fq4_2
  obtain ⟨_, _, ⟨T9, L9, k9, n9⟩, -, X9, ⟨Lc9, hQ9, l9, y9, z9⟩, st9⟩ := X5.virtualBack hx (y := (⟨"com/example/allotd/allotd/engine/Tokens", "equals", "(Ljava/lang/Object;)Z"⟩ : MethodName)) (z := (⟨"com/example/allotd/allotd/engine/Tokens", "equals", "(Ljava/lang/Object;)Z"⟩ : MethodName)) hown (mvT hZ (hw _ (List.mem_of_getElem? (i := 14) rfl))) (mvT hZ (hw _ (List.mem_of_getElem? (i := 15) rfl))) (notFace_of_selects (args := #[]) (mvT hZ (hw _ (List.mem_of_getElem? (i := 17) rfl)))) (mvT hZ (hw _ (List.mem_of_getElem? (i := 17) rfl))) (mvT hZ (hw _ (List.mem_of_getElem? (i := 16) rfl))) (by decide) (backOf (W := 0) (rm3_12 l Z a0 hw [] m0 m2 b0_1 b0_3 T4.heap n0 Z4 c8 c7 fq4_0 hi1) hZ (hw _ (List.mem_of_getElem? (i := 18) rfl)) (hw _ (List.mem_of_getElem? (i := 3) rfl)) (by decide) (by decide)) q9a q9c (g := (mkF m 132 #[own_jv p0, .second, own_jv p1, .second, own_jv p2, .second, own_jv p3, .second, iv p4, own_jv m0, .second, own_jv m1, .second, own_jv m2, .second, own_jv m3, .second, rv b0_1, rv b0_3, iv (0 : Int32), iv (0 : Int32)] [(.ref b0_1), (.ref b0_3)])) rfl (by rw [hml]; rfl) (Steps.refl _) (argsL := [(.ref b0_1)]) (rest := []) (lenOf pd_3 rfl) rfl (by show 2 * 0 + _ ≤ _; exact Nat.le_of_eq rfl) (hb hby at_132) (fun _ _ => ⟨rfl, e5, (by decide : 2 + 0 ≤ _), (by decide : 4 + 0 ≤ _)⟩)
  dsimp only [Pt.U, Pt.locs, Pt.cells, Pt.slots] at X9 l9 y9 z9 st9 hQ9
  subst l9 y9 z9
  obtain ⟨rfl, N9q, e9⟩ := hQ9
  have N9 := Fr.app N5 N9q
  obtain ⟨fs, hr, hrun, hended, hW, hsame⟩ := X9.leave (v := (some (.int (1 : Int32)))) (fun h => by rw [Bd.returns] at h; cases h)
  refine ⟨_, _, pre0 _ ?_, hrun, hended, _, _, rfl, ?_, ⟨_, rfl⟩, hW, hsame.mono (by decide) (by decide)⟩
  · show Steps p.tables e below (s₁.setTop (mkF m 0 #[own_jv p0, .second, own_jv p1, .second, own_jv p2, .second, own_jv p3, .second, iv p4, .unset, .unset, .unset, .unset, .unset, .unset, .unset, .unset, .unset, .unset, .unset, .unset] [])) _
    refine XS.lloadN X0.here hx rfl (hb hby at_0) rfl ?_
    refine X0.ldc2Long hx hown (mvT hZ (hw _ (List.mem_of_getElem? (i := 0) rfl))) (g := (mkF m 1 #[own_jv p0, .second, own_jv p1, .second, own_jv p2, .second, own_jv p3, .second, iv p4, .unset, .unset, .unset, .unset, .unset, .unset, .unset, .unset, .unset, .unset, .unset, .unset] [(.long p0)])) rfl (hb hby at_1) _ ?_
    refine XS.land X0.here hx rfl (hb hby at_4) rfl ?_
    show Steps p.tables e below (s₁.setTop (mkF m 5 #[own_jv p0, .second, own_jv p1, .second, own_jv p2, .second, own_jv p3, .second, iv p4, .unset, .unset, .unset, .unset, .unset, .unset, .unset, .unset, .unset, .unset, .unset, .unset] [(.long (p0 &&& (9223372036854775807 : Int64)))])) _
    rewrite [hm0]
    refine XS.lstore X0.here hx rfl (hb hby at_5) rfl (l' := #[own_jv p0, .second, own_jv p1, .second, own_jv p2, .second, own_jv p3, .second, iv p4, own_jv m0, .second, .unset, .unset, .unset, .unset, .unset, .unset, .unset, .unset, .unset, .unset]) rfl ?_
    refine XS.lloadN X0.here hx rfl (hb hby at_7) rfl ?_
    refine X0.ldc2Long hx hown (mvT hZ (hw _ (List.mem_of_getElem? (i := 0) rfl))) (g := (mkF m 8 #[own_jv p0, .second, own_jv p1, .second, own_jv p2, .second, own_jv p3, .second, iv p4, own_jv m0, .second, .unset, .unset, .unset, .unset, .unset, .unset, .unset, .unset, .unset, .unset] [(.long p1)])) rfl (hb hby at_8) _ ?_
    refine XS.land X0.here hx rfl (hb hby at_11) rfl ?_
    show Steps p.tables e below (s₁.setTop (mkF m 12 #[own_jv p0, .second, own_jv p1, .second, own_jv p2, .second, own_jv p3, .second, iv p4, own_jv m0, .second, .unset, .unset, .unset, .unset, .unset, .unset, .unset, .unset, .unset, .unset] [(.long (p1 &&& (9223372036854775807 : Int64)))])) _
    rewrite [hm1]
    refine XS.lstore X0.here hx rfl (hb hby at_12) rfl (l' := #[own_jv p0, .second, own_jv p1, .second, own_jv p2, .second, own_jv p3, .second, iv p4, own_jv m0, .second, own_jv m1, .second, .unset, .unset, .unset, .unset, .unset, .unset, .unset, .unset]) rfl ?_
    show Steps p.tables e below (s₁.setTop (mkF m 14 #[own_jv p0, .second, own_jv p1, .second, own_jv p2, .second, own_jv p3, .second, iv p4, own_jv m0, .second, own_jv m1, .second, .unset, .unset, .unset, .unset, .unset, .unset, .unset, .unset] [])) _
    refine XS.iload X0.here hx rfl (hb hby at_14) rfl ?_
    refine XS.iconst X0.here hx rfl (hb hby at_16) ?_
    refine XS.iand X0.here hx rfl (hb hby at_17) rfl ?_
    show Steps p.tables e below (s₁.setTop (mkF m 18 #[own_jv p0, .second, own_jv p1, .second, own_jv p2, .second, own_jv p3, .second, iv p4, own_jv m0, .second, own_jv m1, .second, .unset, .unset, .unset, .unset, .unset, .unset, .unset, .unset] [(.int (p4 &&& (1 : Int32)))])) _
    rewrite [hk1]
    refine XS.ifYes X0.here hx rfl (pc0 := 18) (pc' := 26) rfl (hb hby at_18) rfl ((if0 _ _).trans (teq (by decide +kernel : (0 : Int32) = (0 : Int32))).1) (by decide) (by decide) ?_
    refine XS.lload X0.here hx rfl (hb hby at_26) rfl ?_
    refine X0.ldc2Long hx hown (mvT hZ (hw _ (List.mem_of_getElem? (i := 0) rfl))) (g := (mkF m 28 #[own_jv p0, .second, own_jv p1, .second, own_jv p2, .second, own_jv p3, .second, iv p4, own_jv m0, .second, own_jv m1, .second, .unset, .unset, .unset, .unset, .unset, .unset, .unset, .unset] [(.long p2)])) rfl (hb hby at_28) _ ?_
    refine XS.land X0.here hx rfl (hb hby at_31) rfl ?_
    show Steps p.tables e below (s₁.setTop (mkF m 32 #[own_jv p0, .second, own_jv p1, .second, own_jv p2, .second, own_jv p3, .second, iv p4, own_jv m0, .second, own_jv m1, .second, .unset, .unset, .unset, .unset, .unset, .unset, .unset, .unset] [(.long (p2 &&& (9223372036854775807 : Int64)))])) _
    rewrite [hm2]
    refine XS.lstore X0.here hx rfl (hb hby at_32) rfl (l' := #[own_jv p0, .second, own_jv p1, .second, own_jv p2, .second, own_jv p3, .second, iv p4, own_jv m0, .second, own_jv m1, .second, own_jv m2, .second, .unset, .unset, .unset, .unset, .unset, .unset]) rfl ?_
    show Steps p.tables e below (s₁.setTop (mkF m 34 #[own_jv p0, .second, own_jv p1, .second, own_jv p2, .second, own_jv p3, .second, iv p4, own_jv m0, .second, own_jv m1, .second, own_jv m2, .second, .unset, .unset, .unset, .unset, .unset, .unset] [])) _
    refine XS.iload X0.here hx rfl (hb hby at_34) rfl ?_
    refine XS.iconst X0.here hx rfl (hb hby at_36) ?_
    refine XS.iand X0.here hx rfl (hb hby at_37) rfl ?_
    refine XS.ifYes X0.here hx rfl (pc0 := 38) (pc' := 46) rfl (hb hby at_38) rfl ((if0 _ _).trans (teq hk2).1) (by decide) (by decide) ?_
    refine XS.lload X0.here hx rfl (hb hby at_46) rfl ?_
    refine X0.ldc2Long hx hown (mvT hZ (hw _ (List.mem_of_getElem? (i := 0) rfl))) (g := (mkF m 48 #[own_jv p0, .second, own_jv p1, .second, own_jv p2, .second, own_jv p3, .second, iv p4, own_jv m0, .second, own_jv m1, .second, own_jv m2, .second, .unset, .unset, .unset, .unset, .unset, .unset] [(.long p3)])) rfl (hb hby at_48) _ ?_
    refine XS.land X0.here hx rfl (hb hby at_51) rfl ?_
    show Steps p.tables e below (s₁.setTop (mkF m 52 #[own_jv p0, .second, own_jv p1, .second, own_jv p2, .second, own_jv p3, .second, iv p4, own_jv m0, .second, own_jv m1, .second, own_jv m2, .second, .unset, .unset, .unset, .unset, .unset, .unset] [(.long (p3 &&& (9223372036854775807 : Int64)))])) _
    rewrite [hm3]
    refine XS.lstore X0.here hx rfl (hb hby at_52) rfl (l' := #[own_jv p0, .second, own_jv p1, .second, own_jv p2, .second, own_jv p3, .second, iv p4, own_jv m0, .second, own_jv m1, .second, own_jv m2, .second, own_jv m3, .second, .unset, .unset, .unset, .unset]) rfl ?_
    show Steps p.tables e below (s₁.setTop (mkF m 54 #[own_jv p0, .second, own_jv p1, .second, own_jv p2, .second, own_jv p3, .second, iv p4, own_jv m0, .second, own_jv m1, .second, own_jv m2, .second, own_jv m3, .second, .unset, .unset, .unset, .unset] [])) _
    refine st1 _ ?_
    refine XS.dup X1.here hx rfl (hb hby at_57) rfl rfl ?_
    refine XS.lload X1.here hx rfl (hb hby at_58) rfl ?_
    refine XS.lload X1.here hx rfl (hb hby at_60) rfl ?_
    refine st2.trans ?_
    refine XS.astore X2.here hx rfl (hb hby at_65) rfl rfl (l' := #[own_jv p0, .second, own_jv p1, .second, own_jv p2, .second, own_jv p3, .second, iv p4, own_jv m0, .second, own_jv m1, .second, own_jv m2, .second, own_jv m3, .second, rv b0_1, .unset, .unset, .unset]) rfl ?_
    refine st3 _ ?_
    refine XS.dup X3.here hx rfl (hb hby at_70) rfl rfl ?_
    show Steps p.tables e below (T3.setTop (mkF m 71 #[own_jv p0, .second, own_jv p1, .second, own_jv p2, .second, own_jv p3, .second, iv p4, own_jv m0, .second, own_jv m1, .second, own_jv m2, .second, own_jv m3, .second, rv b0_1, .unset, .unset, .unset] [(.ref b0_3), (.ref b0_3)])) _
    refine XS.lload X3.here hx rfl (hb hby at_71) rfl ?_
    refine XS.lload X3.here hx rfl (hb hby at_73) rfl ?_
    refine st4.trans ?_
    refine XS.astore X4.here hx rfl (hb hby at_78) rfl rfl (l' := #[own_jv p0, .second, own_jv p1, .second, own_jv p2, .second, own_jv p3, .second, iv p4, own_jv m0, .second, own_jv m1, .second, own_jv m2, .second, own_jv m3, .second, rv b0_1, rv b0_3, .unset, .unset]) rfl ?_
    refine XS.iload X4.here hx rfl (hb hby at_80) rfl ?_
    refine XS.iconst X4.here hx rfl (hb hby at_82) ?_
    refine XS.iushr X4.here hx rfl (hb hby at_83) rfl ?_
    refine XS.iconst X4.here hx rfl (hb hby at_84) ?_
    show Steps p.tables e below (T4.setTop (mkF m 85 #[own_jv p0, .second, own_jv p1, .second, own_jv p2, .second, own_jv p3, .second, iv p4, own_jv m0, .second, own_jv m1, .second, own_jv m2, .second, own_jv m3, .second, rv b0_1, rv b0_3, .unset, .unset] [(.int (3 : Int32)), (.int ((p4.toUInt32 >>> ((2 : Int32) &&& 31).toUInt32).toInt32))])) _
    refine XS.iand X4.here hx rfl (hb hby at_85) rfl ?_
    show Steps p.tables e below (T4.setTop (mkF m 86 #[own_jv p0, .second, own_jv p1, .second, own_jv p2, .second, own_jv p3, .second, iv p4, own_jv m0, .second, own_jv m1, .second, own_jv m2, .second, own_jv m3, .second, rv b0_1, rv b0_3, .unset, .unset] [(.int (((p4.toUInt32 >>> ((2 : Int32) &&& 31).toUInt32).toInt32) &&& (3 : Int32)))])) _
    rewrite [hkk]
    refine XS.istore X4.here hx rfl (hb hby at_86) rfl (l' := #[own_jv p0, .second, own_jv p1, .second, own_jv p2, .second, own_jv p3, .second, iv p4, own_jv m0, .second, own_jv m1, .second, own_jv m2, .second, own_jv m3, .second, rv b0_1, rv b0_3, iv (0 : Int32), .unset]) rfl ?_
    refine XS.iload X4.here hx rfl (hb hby at_88) rfl ?_
    refine XS.ifNo X4.here hx rfl (hb hby at_90) rfl ((if0 _ _).trans (teq (by decide +kernel : (0 : Int32) = (0 : Int32))).2) ?_
    refine XS.lload X4.here hx rfl (hb hby at_93) rfl ?_
    refine XS.lload X4.here hx rfl (hb hby at_95) rfl ?_
    refine XS.lcmp X4.here hx rfl (hb hby at_97) rfl ?_
    refine XS.ifYes X4.here hx rfl (pc0 := 98) (pc' := 113) rfl (hb hby at_98) rfl ((if0 _ _).trans ((if0 _ _).symm.trans (Jvm.Free.XT.ll_ne_t hi1))) (by decide) (by decide) ?_
    show Steps p.tables e below (T4.setTop (mkF m 113 #[own_jv p0, .second, own_jv p1, .second, own_jv p2, .second, own_jv p3, .second, iv p4, own_jv m0, .second, own_jv m1, .second, own_jv m2, .second, own_jv m3, .second, rv b0_1, rv b0_3, iv (0 : Int32), .unset] [])) _
    refine XS.iconst X4.here hx rfl (hb hby at_113) ?_
    refine XS.istore X4.here hx rfl (hb hby at_114) rfl (l' := #[own_jv p0, .second, own_jv p1, .second, own_jv p2, .second, own_jv p3, .second, iv p4, own_jv m0, .second, own_jv m1, .second, own_jv m2, .second, own_jv m3, .second, rv b0_1, rv b0_3, iv (0 : Int32), iv (0 : Int32)]) rfl ?_
    refine XS.aload X4.here hx rfl (hb hby at_116) rfl rfl ?_
    refine XS.aload X4.here hx rfl (hb hby at_118) rfl rfl ?_
    refine st5.trans ?_
    refine XS.iload X5.here hx rfl (hb hby at_123) rfl ?_
    refine XS.icmpNo X5.here hx rfl (hb hby at_125) rfl (teq (by decide +kernel : (0 : Int32) = (0 : Int32))).2 ?_
    refine XS.aload X5.here hx rfl (hb hby at_128) rfl rfl ?_
    show Steps p.tables e below (T5.setTop (mkF m 130 #[own_jv p0, .second, own_jv p1, .second, own_jv p2, .second, own_jv p3, .second, iv p4, own_jv m0, .second, own_jv m1, .second, own_jv m2, .second, own_jv m3, .second, rv b0_1, rv b0_3, iv (0 : Int32), iv (0 : Int32)] [(.ref b0_3)])) _
    refine XS.aload X5.here hx rfl (hb hby at_130) rfl rfl ?_
    refine st9.trans ?_
    refine XS.iload X9.here hx rfl (hb hby at_135) rfl ?_
    refine XS.icmpNo X9.here hx rfl (hb hby at_137) rfl (teq (by decide +kernel : (0 : Int32) = (0 : Int32))).2 ?_
    refine XS.iconst X9.here hx rfl (hb hby at_140) ?_
    refine XS.goto X9.here hx rfl (pc0 := 141) (pc' := 145) rfl (hb hby at_141) (by decide) (by decide) ?_
    exact retN X9 hx (t := .boolean) Bd.returns (by simp) (hb hby at_145) hr
  · exact ⟨rfl, N9⟩
set_option maxRecDepth 65536 in
set_option maxHeartbeats 40000000 in
theorem rm0_5 (l : Launch) (Z : State) (a0 : Array Value) (hw : ∀ d ∈ tables_1, d.before a0 Z = true) (ws : List Jvm.Cond) (p0 : Int64) (p1 : Int64) (p2 : Int64) (p3 : Int64) (p4 : Int32) (m0 : Int64) (m1 : Int64) (m2 : Int64) (h0 : Heap) (n0 : Nat) (Z0 : n0 ≤ h0.size) (hm0 : (p0 &&& (9223372036854775807 : Int64)) = m0) (hm1 : (p1 &&& (9223372036854775807 : Int64)) = m1) (hk1 : (p4 &&& (1 : Int32)) = (0 : Int32)) (hm2 : (p2 &&& (9223372036854775807 : Int64)) = m2) (hk2 : ¬ ((p4 &&& (2 : Int32)) = (0 : Int32))) (hn0 : ¬ (m0 < (0 : Int64))) (hn1 : ¬ (m1 < (0 : Int64))) (hn2 : ¬ (m2 < (0 : Int64))) (hkk : (((p4.toUInt32 >>> ((2 : Int32) &&& 31).toUInt32).toInt32) &&& (3 : Int32)) = (0 : Int32)) (hi1 : ¬ (m0 = m2)) (hi2 : ¬ (m2 = m0)) :
    MetFree l x (head1 (Jvm.Cond.code x code maxLocals ret :: ws) room_1) (fun a U => a = #[(.long p0), (.long p1), (.long p2), (.long p3), (.int p4)] ∧ Z.Warmed39 U.vm ∧ U.heap = h0) (fun _ _ _ _ _ => True) (fun _ U o U' => ∃ v L, o = .returned v ∧ own_QL n0 v U'.heap L ∧ FrameEnd U o U' L room_1.cells room_1.slots) := by
  refine MetFree.of_bodySF (plainFor_of_name pn_3) hisR ?_
  intro p e s m args below meth c s₁ Bd hml0 hP hK
  obtain ⟨rfl, hZ, hh⟩ := hP
  have hx := Bd.exec
  have hby := Bd.bytes
  have hml : c.maxLocals = 21 := hml0
  have hown : s.vm.findClass "com/example/allotd/allotd/engine/TokensEqualsPinLaw" = some m.cls := findClass_of_methodNamed Bd.named
  have hnm := (name_of_methodNamed Bd.named Bd.method).1
  have X0 : Stand p l e room_1 s m #[(.long p0), (.long p1), (.long p2), (.long p3), (.int p4)] below meth c s₁ [] 0 0 := Stand.of_body Bd
  have e0 : s₁.heap = h0 := by rw [← hh, Bd.state]; rfl
  have N0 := Fr.nil n0
  have pre0 : ∀ t, Steps p.tables e below (s₁.setTop (mkF m 0 #[own_jv p0, .second, own_jv p1, .second, own_jv p2, .second, own_jv p3, .second, iv p4, .unset, .unset, .unset, .unset, .unset, .unset, .unset, .unset, .unset, .unset, .unset, .unset] [])) t → Steps p.tables e below (s₁.setTop (entryFrame m #[(.long p0), (.long p1), (.long p2), (.long p3), (.int p4)] maxLocals)) t := fun t k => castTop (ef_0_JJJJI m p0 p1 p2 p3 p4) k
  obtain ⟨T1, h1, X1, e1, E1, A1, D1, -, st1⟩ := newO X0 hx hZ hown (hw _ (List.mem_of_getElem? (i := 1) rfl)) (hw _ (List.mem_of_getElem? (i := 2) rfl)) (hw _ (List.mem_of_getElem? (i := 3) rfl)) e0 (g := (mkF m 54 #[own_jv p0, .second, own_jv p1, .second, own_jv p2, .second, own_jv p3, .second, iv p4, own_jv m0, .second, own_jv m1, .second, own_jv m2, .second, own_jv m1, .second, .unset, .unset, .unset, .unset] [])) rfl (hb hby at_54) (by decide) (by decide)
  obtain ⟨b0_1, gg1⟩ : ∃ z, z = h0.size := ⟨_, rfl⟩
  rw [← gg1] at A1 D1 st1
  have g_b0_1 : n0 ≤ b0_1 := Nat.le_trans Z0 (Nat.le_of_eq gg1.symm)
  have sz_b0_1 : h0.size ≤ b0_1 := Nat.le_trans (Keep.refl h0 []).1 (Nat.le_of_eq gg1.symm)
  have Z1 : n0 ≤ h1.size := Nat.le_trans Z0 E1.1
  have KK1 : Keep h0 h1 [] := (Keep.refl h0 []).ext E1
  have E_b0_1 : Exa Z h1 b0_1 "com/example/allotd/allotd/engine/Tokens" := A1
  have F_b0_1_input : Fld Z h1 b0_1 "com/example/allotd/allotd/engine/Tokens" "input" "J" (.long (0 : Int64)) := D1 (Or.inr (hw _ (List.mem_of_getElem? (i := 11) rfl))) (ty := .long) (by decide)
  have F_b0_1_output : Fld Z h1 b0_1 "com/example/allotd/allotd/engine/Tokens" "output" "J" (.long (0 : Int64)) := D1 (Or.inr (hw _ (List.mem_of_getElem? (i := 13) rfl))) (ty := .long) (by decide)
  obtain ⟨_, _, ⟨T2, L2, k2, n2⟩, -, X2, ⟨Lc2, hQ2, l2, y2, z2⟩, st2⟩ := X1.specialBack hx (y := (⟨"com/example/allotd/allotd/engine/Tokens", "<init>", "(JJ)V"⟩ : MethodName)) rfl hown (mvT hZ (hw _ (List.mem_of_getElem? (i := 4) rfl))) (mvT hZ (hw _ (List.mem_of_getElem? (i := 5) rfl))) (mvT hZ (hw _ (List.mem_of_getElem? (i := 6) rfl))) (by decide) (backOf (W := 1) (rm1_2 l Z a0 hw [] m0 m1 b0_1 h1 n0 Z1 hn0 hn1 E_b0_1 F_b0_1_input g_b0_1 F_b0_1_output) hZ (hw _ (List.mem_of_getElem? (i := 6) rfl)) (hw _ (List.mem_of_getElem? (i := 3) rfl)) (by decide) (by decide)) (g := (mkF m 62 #[own_jv p0, .second, own_jv p1, .second, own_jv p2, .second, own_jv p3, .second, iv p4, own_jv m0, .second, own_jv m1, .second, own_jv m2, .second, own_jv m1, .second, .unset, .unset, .unset, .unset] [(.long m1), (.long m0), (.ref b0_1), (.ref b0_1)])) rfl (by rw [hml]; rfl) (Steps.refl _) (a := b0_1) (argsL := [(.long m0), (.long m1)]) (rest := [(.ref b0_1)]) (lenOf pd_2 rfl) rfl (by show 2 * 0 + _ ≤ _; exact Nat.le_of_eq rfl) (hb hby at_62) (fun _ _ => ⟨rfl, e1, (by decide : 1 + 0 ≤ _), (by decide : 2 + 0 ≤ _)⟩)
  dsimp only [Pt.U, Pt.locs, Pt.cells, Pt.slots] at X2 l2 y2 z2 st2 hQ2
  subst l2 y2 z2
  obtain ⟨rfl, N2q, K2, fq2_0, fq2_1, fq2_2⟩ := hQ2
  have KK2 : Keep h0 T2.heap [] := KK1.trans K2 (allS (P := fun x => x ∈ [] ∨ h0.size ≤ x) (Or.inr sz_b0_1) all0)
  have Z2 : n0 ≤ T2.heap.size := Nat.le_trans Z1 K2.1
  have N2 := Fr.app N0 N2q
  obtain ⟨T3, h3, X3, e3, E3, A3, D3, -, st3⟩ := newO X2 hx hZ hown (hw _ (List.mem_of_getElem? (i := 1) rfl)) (hw _ (List.mem_of_getElem? (i := 2) rfl)) (hw _ (List.mem_of_getElem? (i := 3) rfl)) rfl (g := (mkF m 67 #[own_jv p0, .second, own_jv p1, .second, own_jv p2, .second, own_jv p3, .second, iv p4, own_jv m0, .second, own_jv m1, .second, own_jv m2, .second, own_jv m1, .second, rv b0_1, .unset, .unset, .unset] [])) rfl (hb hby at_67) (by decide) (by decide)
  obtain ⟨b0_3, gg3⟩ : ∃ z, z = T2.heap.size := ⟨_, rfl⟩
  rw [← gg3] at A3 D3 st3
  have g_b0_3 : n0 ≤ b0_3 := Nat.le_trans Z2 (Nat.le_of_eq gg3.symm)
  have sz_b0_3 : h0.size ≤ b0_3 := Nat.le_trans KK2.1 (Nat.le_of_eq gg3.symm)
  have Z3 : n0 ≤ h3.size := Nat.le_trans Z2 E3.1
  have KK3 : Keep h0 h3 [] := KK2.ext E3
  have E_b0_3 : Exa Z h3 b0_3 "com/example/allotd/allotd/engine/Tokens" := A3
  have F_b0_3_input : Fld Z h3 b0_3 "com/example/allotd/allotd/engine/Tokens" "input" "J" (.long (0 : Int64)) := D3 (Or.inr (hw _ (List.mem_of_getElem? (i := 11) rfl))) (ty := .long) (by decide)
  have F_b0_3_output : Fld Z h3 b0_3 "com/example/allotd/allotd/engine/Tokens" "output" "J" (.long (0 : Int64)) := D3 (Or.inr (hw _ (List.mem_of_getElem? (i := 13) rfl))) (ty := .long) (by decide)
  obtain ⟨_, _, ⟨T4, L4, k4, n4⟩, -, X4, ⟨Lc4, hQ4, l4, y4, z4⟩, st4⟩ := X3.specialBack hx (y := (⟨"com/example/allotd/allotd/engine/Tokens", "<init>", "(JJ)V"⟩ : MethodName)) rfl hown (mvT hZ (hw _ (List.mem_of_getElem? (i := 4) rfl))) (mvT hZ (hw _ (List.mem_of_getElem? (i := 5) rfl))) (mvT hZ (hw _ (List.mem_of_getElem? (i := 6) rfl))) (by decide) (backOf (W := 1) (rm1_8 l Z a0 hw [] m1 m2 b0_3 h3 n0 Z3 hn2 hn1 E_b0_3 F_b0_3_input g_b0_3 F_b0_3_output) hZ (hw _ (List.mem_of_getElem? (i := 6) rfl)) (hw _ (List.mem_of_getElem? (i := 3) rfl)) (by decide) (by decide)) (g := (mkF m 75 #[own_jv p0, .second, own_jv p1, .second, own_jv p2, .second, own_jv p3, .second, iv p4, own_jv m0, .second, own_jv m1, .second, own_jv m2, .second, own_jv m1, .second, rv b0_1, .unset, .unset, .unset] [(.long m1), (.long m2), (.ref b0_3), (.ref b0_3)])) rfl (by rw [hml]; rfl) (Steps.refl _) (a := b0_3) (argsL := [(.long m2), (.long m1)]) (rest := [(.ref b0_3)]) (lenOf pd_2 rfl) rfl (by show 2 * 0 + _ ≤ _; exact Nat.le_of_eq rfl) (hb hby at_75) (fun _ _ => ⟨rfl, e3, (by decide : 2 + 0 ≤ _), (by decide : 4 + 0 ≤ _)⟩)
  dsimp only [Pt.U, Pt.locs, Pt.cells, Pt.slots] at X4 l4 y4 z4 st4 hQ4
  subst l4 y4 z4
  obtain ⟨rfl, N4q, K4, fq4_0, fq4_1, fq4_2⟩ := hQ4
  have KK4 : Keep h0 T4.heap [] := KK3.trans K4 (allS (P := fun x => x ∈ [] ∨ h0.size ≤ x) (Or.inr sz_b0_3) all0)
  have Z4 : n0 ≤ T4.heap.size := Nat.le_trans Z3 K4.1
  have N4 := Fr.app N2 N4q
  have ne_b0_1_b0_3_6 : ¬ (b0_1 = b0_3) := (Nat.ne_of_lt (Nat.lt_of_lt_of_le ((E_b0_1.keep K2)).lt (Nat.le_of_eq gg3.symm)))
  have c7 := ((fq2_0.ext E3).keep K4 (ninS ne_b0_1_b0_3_6 nin0))
  have c8 := ((fq2_2.ext E3).keep K4)
  obtain ⟨cq5, kq5, q5a, q5b, q5c⟩ := isOf hZ rfl c8
  obtain ⟨_, _, ⟨T5, L5, k5, n5⟩, -, X5, ⟨Lc5, hQ5, l5, y5, z5⟩, st5⟩ := X4.virtualBack hx (y := (⟨"com/example/allotd/allotd/engine/Tokens", "equals", "(Ljava/lang/Object;)Z"⟩ : MethodName)) (z := (⟨"com/example/allotd/allotd/engine/Tokens", "equals", "(Ljava/lang/Object;)Z"⟩ : MethodName)) hown (mvT hZ (hw _ (List.mem_of_getElem? (i := 14) rfl))) (mvT hZ (hw _ (List.mem_of_getElem? (i := 15) rfl))) (notFace_of_selects (args := #[]) (mvT hZ (hw _ (List.mem_of_getElem? (i := 17) rfl)))) (mvT hZ (hw _ (List.mem_of_getElem? (i := 17) rfl))) (mvT hZ (hw _ (List.mem_of_getElem? (i := 16) rfl))) (by decide) (backOf (W := 0) (rm3_11 l Z a0 hw [] m0 m2 b0_1 b0_3 T4.heap n0 Z4 fq4_2 fq4_0 c7 hi2) hZ (hw _ (List.mem_of_getElem? (i := 18) rfl)) (hw _ (List.mem_of_getElem? (i := 3) rfl)) (by decide) (by decide)) q5a q5c (g := (mkF m 120 #[own_jv p0, .second, own_jv p1, .second, own_jv p2, .second, own_jv p3, .second, iv p4, own_jv m0, .second, own_jv m1, .second, own_jv m2, .second, own_jv m1, .second, rv b0_1, rv b0_3, iv (0 : Int32), iv (0 : Int32)] [(.ref b0_3), (.ref b0_1)])) rfl (by rw [hml]; rfl) (Steps.refl _) (argsL := [(.ref b0_3)]) (rest := []) (lenOf pd_3 rfl) rfl (by show 2 * 0 + _ ≤ _; exact Nat.le_of_eq rfl) (hb hby at_120) (fun _ _ => ⟨rfl, rfl, (by decide : 2 + 0 ≤ _), (by decide : 4 + 0 ≤ _)⟩)
  dsimp only [Pt.U, Pt.locs, Pt.cells, Pt.slots] at X5 l5 y5 z5 st5 hQ5
  subst l5 y5 z5
  obtain ⟨rfl, N5q, e5⟩ := hQ5
  have N5 := Fr.app N4 N5q
  obtain ⟨cq9, kq9, q9a, q9b, q9c⟩ := isOf hZ e5 fq4_2
  obtain ⟨_, _, ⟨T9, L9, k9, n9⟩, -, X9, ⟨Lc9, hQ9, l9, y9, z9⟩, st9⟩ := X5.virtualBack hx (y := (⟨"com/example/allotd/allotd/engine/Tokens", "equals", "(Ljava/lang/Object;)Z"⟩ : MethodName)) (z := (⟨"com/example/allotd/allotd/engine/Tokens", "equals", "(Ljava/lang/Object;)Z"⟩ : MethodName)) hown (mvT hZ (hw _ (List.mem_of_getElem? (i := 14) rfl))) (mvT hZ (hw _ (List.mem_of_getElem? (i := 15) rfl))) (notFace_of_selects (args := #[]) (mvT hZ (hw _ (List.mem_of_getElem? (i := 17) rfl)))) (mvT hZ (hw _ (List.mem_of_getElem? (i := 17) rfl))) (mvT hZ (hw _ (List.mem_of_getElem? (i := 16) rfl))) (by decide) (backOf (W := 0) (rm3_12 l Z a0 hw [] m0 m2 b0_1 b0_3 T4.heap n0 Z4 c8 c7 fq4_0 hi1) hZ (hw _ (List.mem_of_getElem? (i := 18) rfl)) (hw _ (List.mem_of_getElem? (i := 3) rfl)) (by decide) (by decide)) q9a q9c (g := (mkF m 132 #[own_jv p0, .second, own_jv p1, .second, own_jv p2, .second, own_jv p3, .second, iv p4, own_jv m0, .second, own_jv m1, .second, own_jv m2, .second, own_jv m1, .second, rv b0_1, rv b0_3, iv (0 : Int32), iv (0 : Int32)] [(.ref b0_1), (.ref b0_3)])) rfl (by rw [hml]; rfl) (Steps.refl _) (argsL := [(.ref b0_1)]) (rest := []) (lenOf pd_3 rfl) rfl (by show 2 * 0 + _ ≤ _; exact Nat.le_of_eq rfl) (hb hby at_132) (fun _ _ => ⟨rfl, e5, (by decide : 2 + 0 ≤ _), (by decide : 4 + 0 ≤ _)⟩)
  dsimp only [Pt.U, Pt.locs, Pt.cells, Pt.slots] at X9 l9 y9 z9 st9 hQ9
  subst l9 y9 z9
  obtain ⟨rfl, N9q, e9⟩ := hQ9
  have N9 := Fr.app N5 N9q
  obtain ⟨fs, hr, hrun, hended, hW, hsame⟩ := X9.leave (v := (some (.int (1 : Int32)))) (fun h => by rw [Bd.returns] at h; cases h)
  refine ⟨_, _, pre0 _ ?_, hrun, hended, _, _, rfl, ?_, ⟨_, rfl⟩, hW, hsame.mono (by decide) (by decide)⟩
  · show Steps p.tables e below (s₁.setTop (mkF m 0 #[own_jv p0, .second, own_jv p1, .second, own_jv p2, .second, own_jv p3, .second, iv p4, .unset, .unset, .unset, .unset, .unset, .unset, .unset, .unset, .unset, .unset, .unset, .unset] [])) _
    refine XS.lloadN X0.here hx rfl (hb hby at_0) rfl ?_
    refine X0.ldc2Long hx hown (mvT hZ (hw _ (List.mem_of_getElem? (i := 0) rfl))) (g := (mkF m 1 #[own_jv p0, .second, own_jv p1, .second, own_jv p2, .second, own_jv p3, .second, iv p4, .unset, .unset, .unset, .unset, .unset, .unset, .unset, .unset, .unset, .unset, .unset, .unset] [(.long p0)])) rfl (hb hby at_1) _ ?_
    refine XS.land X0.here hx rfl (hb hby at_4) rfl ?_
    show Steps p.tables e below (s₁.setTop (mkF m 5 #[own_jv p0, .second, own_jv p1, .second, own_jv p2, .second, own_jv p3, .second, iv p4, .unset, .unset, .unset, .unset, .unset, .unset, .unset, .unset, .unset, .unset, .unset, .unset] [(.long (p0 &&& (9223372036854775807 : Int64)))])) _
    rewrite [hm0]
    refine XS.lstore X0.here hx rfl (hb hby at_5) rfl (l' := #[own_jv p0, .second, own_jv p1, .second, own_jv p2, .second, own_jv p3, .second, iv p4, own_jv m0, .second, .unset, .unset, .unset, .unset, .unset, .unset, .unset, .unset, .unset, .unset]) rfl ?_
    refine XS.lloadN X0.here hx rfl (hb hby at_7) rfl ?_
    refine X0.ldc2Long hx hown (mvT hZ (hw _ (List.mem_of_getElem? (i := 0) rfl))) (g := (mkF m 8 #[own_jv p0, .second, own_jv p1, .second, own_jv p2, .second, own_jv p3, .second, iv p4, own_jv m0, .second, .unset, .unset, .unset, .unset, .unset, .unset, .unset, .unset, .unset, .unset] [(.long p1)])) rfl (hb hby at_8) _ ?_
    refine XS.land X0.here hx rfl (hb hby at_11) rfl ?_
    show Steps p.tables e below (s₁.setTop (mkF m 12 #[own_jv p0, .second, own_jv p1, .second, own_jv p2, .second, own_jv p3, .second, iv p4, own_jv m0, .second, .unset, .unset, .unset, .unset, .unset, .unset, .unset, .unset, .unset, .unset] [(.long (p1 &&& (9223372036854775807 : Int64)))])) _
    rewrite [hm1]
    refine XS.lstore X0.here hx rfl (hb hby at_12) rfl (l' := #[own_jv p0, .second, own_jv p1, .second, own_jv p2, .second, own_jv p3, .second, iv p4, own_jv m0, .second, own_jv m1, .second, .unset, .unset, .unset, .unset, .unset, .unset, .unset, .unset]) rfl ?_
    show Steps p.tables e below (s₁.setTop (mkF m 14 #[own_jv p0, .second, own_jv p1, .second, own_jv p2, .second, own_jv p3, .second, iv p4, own_jv m0, .second, own_jv m1, .second, .unset, .unset, .unset, .unset, .unset, .unset, .unset, .unset] [])) _
    refine XS.iload X0.here hx rfl (hb hby at_14) rfl ?_
    refine XS.iconst X0.here hx rfl (hb hby at_16) ?_
    refine XS.iand X0.here hx rfl (hb hby at_17) rfl ?_
    show Steps p.tables e below (s₁.setTop (mkF m 18 #[own_jv p0, .second, own_jv p1, .second, own_jv p2, .second, own_jv p3, .second, iv p4, own_jv m0, .second, own_jv m1, .second, .unset, .unset, .unset, .unset, .unset, .unset, .unset, .unset] [(.int (p4 &&& (1 : Int32)))])) _
    rewrite [hk1]
    refine XS.ifYes X0.here hx rfl (pc0 := 18) (pc' := 26) rfl (hb hby at_18) rfl ((if0 _ _).trans (teq (by decide +kernel : (0 : Int32) = (0 : Int32))).1) (by decide) (by decide) ?_
    refine XS.lload X0.here hx rfl (hb hby at_26) rfl ?_
    refine X0.ldc2Long hx hown (mvT hZ (hw _ (List.mem_of_getElem? (i := 0) rfl))) (g := (mkF m 28 #[own_jv p0, .second, own_jv p1, .second, own_jv p2, .second, own_jv p3, .second, iv p4, own_jv m0, .second, own_jv m1, .second, .unset, .unset, .unset, .unset, .unset, .unset, .unset, .unset] [(.long p2)])) rfl (hb hby at_28) _ ?_
    refine XS.land X0.here hx rfl (hb hby at_31) rfl ?_
    show Steps p.tables e below (s₁.setTop (mkF m 32 #[own_jv p0, .second, own_jv p1, .second, own_jv p2, .second, own_jv p3, .second, iv p4, own_jv m0, .second, own_jv m1, .second, .unset, .unset, .unset, .unset, .unset, .unset, .unset, .unset] [(.long (p2 &&& (9223372036854775807 : Int64)))])) _
    rewrite [hm2]
    refine XS.lstore X0.here hx rfl (hb hby at_32) rfl (l' := #[own_jv p0, .second, own_jv p1, .second, own_jv p2, .second, own_jv p3, .second, iv p4, own_jv m0, .second, own_jv m1, .second, own_jv m2, .second, .unset, .unset, .unset, .unset, .unset, .unset]) rfl ?_
    show Steps p.tables e below (s₁.setTop (mkF m 34 #[own_jv p0, .second, own_jv p1, .second, own_jv p2, .second, own_jv p3, .second, iv p4, own_jv m0, .second, own_jv m1, .second, own_jv m2, .second, .unset, .unset, .unset, .unset, .unset, .unset] [])) _
    refine XS.iload X0.here hx rfl (hb hby at_34) rfl ?_
    refine XS.iconst X0.here hx rfl (hb hby at_36) ?_
    refine XS.iand X0.here hx rfl (hb hby at_37) rfl ?_
    refine XS.ifNo X0.here hx rfl (hb hby at_38) rfl ((if0 _ _).trans (feq hk2).1) ?_
    refine XS.lload X0.here hx rfl (hb hby at_41) rfl ?_
    refine XS.goto X0.here hx rfl (pc0 := 43) (pc' := 52) rfl (hb hby at_43) (by decide) (by decide) ?_
    refine XS.lstore X0.here hx rfl (hb hby at_52) rfl (l' := #[own_jv p0, .second, own_jv p1, .second, own_jv p2, .second, own_jv p3, .second, iv p4, own_jv m0, .second, own_jv m1, .second, own_jv m2, .second, own_jv m1, .second, .unset, .unset, .unset, .unset]) rfl ?_
    refine st1 _ ?_
    show Steps p.tables e below (T1.setTop (mkF m 57 #[own_jv p0, .second, own_jv p1, .second, own_jv p2, .second, own_jv p3, .second, iv p4, own_jv m0, .second, own_jv m1, .second, own_jv m2, .second, own_jv m1, .second, .unset, .unset, .unset, .unset] [(.ref b0_1)])) _
    refine XS.dup X1.here hx rfl (hb hby at_57) rfl rfl ?_
    refine XS.lload X1.here hx rfl (hb hby at_58) rfl ?_
    refine XS.lload X1.here hx rfl (hb hby at_60) rfl ?_
    refine st2.trans ?_
    refine XS.astore X2.here hx rfl (hb hby at_65) rfl rfl (l' := #[own_jv p0, .second, own_jv p1, .second, own_jv p2, .second, own_jv p3, .second, iv p4, own_jv m0, .second, own_jv m1, .second, own_jv m2, .second, own_jv m1, .second, rv b0_1, .unset, .unset, .unset]) rfl ?_
    refine st3 _ ?_
    refine XS.dup X3.here hx rfl (hb hby at_70) rfl rfl ?_
    refine XS.lload X3.here hx rfl (hb hby at_71) rfl ?_
    show Steps p.tables e below (T3.setTop (mkF m 73 #[own_jv p0, .second, own_jv p1, .second, own_jv p2, .second, own_jv p3, .second, iv p4, own_jv m0, .second, own_jv m1, .second, own_jv m2, .second, own_jv m1, .second, rv b0_1, .unset, .unset, .unset] [(.long m2), (.ref b0_3), (.ref b0_3)])) _
    refine XS.lload X3.here hx rfl (hb hby at_73) rfl ?_
    refine st4.trans ?_
    refine XS.astore X4.here hx rfl (hb hby at_78) rfl rfl (l' := #[own_jv p0, .second, own_jv p1, .second, own_jv p2, .second, own_jv p3, .second, iv p4, own_jv m0, .second, own_jv m1, .second, own_jv m2, .second, own_jv m1, .second, rv b0_1, rv b0_3, .unset, .unset]) rfl ?_
    refine XS.iload X4.here hx rfl (hb hby at_80) rfl ?_
    refine XS.iconst X4.here hx rfl (hb hby at_82) ?_
    refine XS.iushr X4.here hx rfl (hb hby at_83) rfl ?_
    refine XS.iconst X4.here hx rfl (hb hby at_84) ?_
    refine XS.iand X4.here hx rfl (hb hby at_85) rfl ?_
    show Steps p.tables e below (T4.setTop (mkF m 86 #[own_jv p0, .second, own_jv p1, .second, own_jv p2, .second, own_jv p3, .second, iv p4, own_jv m0, .second, own_jv m1, .second, own_jv m2, .second, own_jv m1, .second, rv b0_1, rv b0_3, .unset, .unset] [(.int (((p4.toUInt32 >>> ((2 : Int32) &&& 31).toUInt32).toInt32) &&& (3 : Int32)))])) _
    rewrite [hkk]
    show Steps p.tables e below (T4.setTop (mkF m 86 #[own_jv p0, .second, own_jv p1, .second, own_jv p2, .second, own_jv p3, .second, iv p4, own_jv m0, .second, own_jv m1, .second, own_jv m2, .second, own_jv m1, .second, rv b0_1, rv b0_3, .unset, .unset] [(.int (0 : Int32))])) _
    refine XS.istore X4.here hx rfl (hb hby at_86) rfl (l' := #[own_jv p0, .second, own_jv p1, .second, own_jv p2, .second, own_jv p3, .second, iv p4, own_jv m0, .second, own_jv m1, .second, own_jv m2, .second, own_jv m1, .second, rv b0_1, rv b0_3, iv (0 : Int32), .unset]) rfl ?_
    refine XS.iload X4.here hx rfl (hb hby at_88) rfl ?_
    refine XS.ifNo X4.here hx rfl (hb hby at_90) rfl ((if0 _ _).trans (teq (by decide +kernel : (0 : Int32) = (0 : Int32))).2) ?_
    refine XS.lload X4.here hx rfl (hb hby at_93) rfl ?_
    refine XS.lload X4.here hx rfl (hb hby at_95) rfl ?_
    refine XS.lcmp X4.here hx rfl (hb hby at_97) rfl ?_
    refine XS.ifYes X4.here hx rfl (pc0 := 98) (pc' := 113) rfl (hb hby at_98) rfl ((if0 _ _).trans ((if0 _ _).symm.trans (Jvm.Free.XT.ll_ne_t hi1))) (by decide) (by decide) ?_
    refine XS.iconst X4.here hx rfl (hb hby at_113) ?_
    show Steps p.tables e below (T4.setTop (mkF m 114 #[own_jv p0, .second, own_jv p1, .second, own_jv p2, .second, own_jv p3, .second, iv p4, own_jv m0, .second, own_jv m1, .second, own_jv m2, .second, own_jv m1, .second, rv b0_1, rv b0_3, iv (0 : Int32), .unset] [(.int (0 : Int32))])) _
    refine XS.istore X4.here hx rfl (hb hby at_114) rfl (l' := #[own_jv p0, .second, own_jv p1, .second, own_jv p2, .second, own_jv p3, .second, iv p4, own_jv m0, .second, own_jv m1, .second, own_jv m2, .second, own_jv m1, .second, rv b0_1, rv b0_3, iv (0 : Int32), iv (0 : Int32)]) rfl ?_
    refine XS.aload X4.here hx rfl (hb hby at_116) rfl rfl ?_
    refine XS.aload X4.here hx rfl (hb hby at_118) rfl rfl ?_
    refine st5.trans ?_
    refine XS.iload X5.here hx rfl (hb hby at_123) rfl ?_
    refine XS.icmpNo X5.here hx rfl (hb hby at_125) rfl (teq (by decide +kernel : (0 : Int32) = (0 : Int32))).2 ?_
    refine XS.aload X5.here hx rfl (hb hby at_128) rfl rfl ?_
    refine XS.aload X5.here hx rfl (hb hby at_130) rfl rfl ?_
    show Steps p.tables e below (T5.setTop (mkF m 132 #[own_jv p0, .second, own_jv p1, .second, own_jv p2, .second, own_jv p3, .second, iv p4, own_jv m0, .second, own_jv m1, .second, own_jv m2, .second, own_jv m1, .second, rv b0_1, rv b0_3, iv (0 : Int32), iv (0 : Int32)] [(.ref b0_1), (.ref b0_3)])) _
    refine st9.trans ?_
    refine XS.iload X9.here hx rfl (hb hby at_135) rfl ?_
    refine XS.icmpNo X9.here hx rfl (hb hby at_137) rfl (teq (by decide +kernel : (0 : Int32) = (0 : Int32))).2 ?_
    refine XS.iconst X9.here hx rfl (hb hby at_140) ?_
    refine XS.goto X9.here hx rfl (pc0 := 141) (pc' := 145) rfl (hb hby at_141) (by decide) (by decide) ?_
    exact retN X9 hx (t := .boolean) Bd.returns (by simp) (hb hby at_145) hr
  · exact ⟨rfl, N9⟩
def Q_rm1_13 (Z : State) (m0 : Int64) (m3 : Int64) (b0_3 : Addr) (h0 : Heap) (n0 : Nat) (v : Option Value) (h : Heap) (L : List Loc) : Prop := (v = none) ∧ (Fr n0 L) ∧ (Keep h0 h [b0_3]) ∧ (Fld Z h b0_3 "com/example/allotd/allotd/engine/Tokens" "input" "J" (.long m0)) ∧ (Fld Z h b0_3 "com/example/allotd/allotd/engine/Tokens" "output" "J" (.long m3)) ∧ (Exa Z h b0_3 "com/example/allotd/allotd/engine/Tokens")
set_option maxRecDepth 65536 in
set_option maxHeartbeats 40000000 in
theorem rm1_13 (l : Launch) (Z : State) (a0 : Array Value) (hw : ∀ d ∈ tables_1, d.before a0 Z = true) (ws : List Jvm.Cond) (m0 : Int64) (m3 : Int64) (b0_3 : Addr) (h0 : Heap) (n0 : Nat) (Z0 : n0 ≤ h0.size) (hn0 : ¬ (m0 < (0 : Int64))) (hn3 : ¬ (m3 < (0 : Int64))) (E_b0_3 : Exa Z h0 b0_3 "com/example/allotd/allotd/engine/Tokens") (F_b0_3_input : Fld Z h0 b0_3 "com/example/allotd/allotd/engine/Tokens" "input" "J" (.long (0 : Int64))) (g_b0_3 : n0 ≤ b0_3) (F_b0_3_output : Fld Z h0 b0_3 "com/example/allotd/allotd/engine/Tokens" "output" "J" (.long (0 : Int64))) :
    MetFree l (⟨"com/example/allotd/allotd/engine/Tokens", "<init>", "(JJ)V"⟩ : MethodName) (head1 (Jvm.Cond.code (⟨"com/example/allotd/allotd/engine/Tokens", "<init>", "(JJ)V"⟩ : MethodName) prog_21_method_1_code 5 none :: ws) ({ frames := 1, cells := 0, slots := 0, locals := 12 } : Room)) (fun a U => a = #[(.ref b0_3), (.long m0), (.long m3)] ∧ Z.Warmed39 U.vm ∧ U.heap = h0) (fun _ _ _ _ _ => True) (fun _ U o U' => ∃ v L, o = .returned v ∧ Q_rm1_13 Z m0 m3 b0_3 h0 n0 v U'.heap L ∧ FrameEnd U o U' L ({ frames := 1, cells := 0, slots := 0, locals := 12 } : Room).cells ({ frames := 1, cells := 0, slots := 0, locals := 12 } : Room).slots) := by
  refine MetFree.of_bodySF (plainFor_of_name pn_2) hisR ?_
  intro p e s m args below meth c s₁ Bd hml0 hP hK
  obtain ⟨rfl, hZ, hh⟩ := hP
  have hx := Bd.exec
  have hby := Bd.bytes
  have hml : c.maxLocals = 5 := hml0
  have hown : s.vm.findClass "com/example/allotd/allotd/engine/Tokens" = some m.cls := findClass_of_methodNamed Bd.named
  have hnm := (name_of_methodNamed Bd.named Bd.method).1
  have X0 : Stand p l e ({ frames := 1, cells := 0, slots := 0, locals := 12 } : Room) s m #[(.ref b0_3), (.long m0), (.long m3)] below meth c s₁ [] 0 0 := Stand.of_body Bd
  have e0 : s₁.heap = h0 := by rw [← hh, Bd.state]; rfl
  have N0 := Fr.nil n0
  have pre0 : ∀ t, Steps p.tables e below (s₁.setTop (mkF m 0 #[rv b0_3, own_jv m0, .second, own_jv m3, .second] [])) t → Steps p.tables e below (s₁.setTop (entryFrame m #[(.ref b0_3), (.long m0), (.long m3)] 5)) t := fun t k => castTop (ef_1_RJJ m b0_3 m0 m3) k
  obtain ⟨T1, X1, e1, st1⟩ := initO X0 hx hZ hown (hw _ (List.mem_of_getElem? (i := 7) rfl)) (hw _ (List.mem_of_getElem? (i := 8) rfl)) (hw _ (List.mem_of_getElem? (i := 9) rfl)) e0 (g := (mkF m 1 #[rv b0_3, own_jv m0, .second, own_jv m3, .second] [(.ref b0_3)])) rfl (by rw [hml]; rfl) rfl (hb hby d1_1) (by decide) (W := 0) (by show 2 * 0 + _ ≤ _; exact Nat.le_of_eq rfl) (by decide)
  obtain ⟨T2, h2, X2, e2, W2, st2⟩ := putF X1 hx hZ hown (host := "") (Or.inl (hw _ (List.mem_of_getElem? (i := 10) rfl))) Via.refl e1 F_b0_3_input E_b0_3 (Or.inr ⟨(hw _ (List.mem_of_getElem? (i := 11) rfl)), rfl, hnm⟩) (hw _ (List.mem_of_getElem? (i := 2) rfl)) (ty := .long) (by decide) rfl rfl (g := (mkF m 33 #[rv b0_3, own_jv m0, .second, own_jv m3, .second] [(.long m0), (.ref b0_3)])) rfl rfl (hb hby d1_33)
  have fw2 : Fld Z h2 b0_3 "com/example/allotd/allotd/engine/Tokens" "input" "J" (.long m0) := F_b0_3_input.same W2
  have Z2 : n0 ≤ h2.size := Nat.le_trans Z0 (Keep.of_wr W2).1
  have KK2 : Keep h0 h2 [b0_3] := (Keep.refl h0 [b0_3]).wr W2 (Or.inl (List.mem_of_getElem? (i := 0) rfl))
  have N2 := Fr.snoc X2 N0 g_b0_3
  have c3 := (E_b0_3.wr W2)
  have c4 := (F_b0_3_output.other W2 (Or.inr (slot_ne (Or.inr (hw _ (List.mem_of_getElem? (i := 13) rfl))) (Or.inr (hw _ (List.mem_of_getElem? (i := 11) rfl))) (by decide) (t := .long) (t' := .long) (by decide) (by decide))))
  obtain ⟨T5, h5, X5, e5, W5, st5⟩ := putF X2 hx hZ hown (host := "") (Or.inl (hw _ (List.mem_of_getElem? (i := 12) rfl))) Via.refl e2 c4 c3 (Or.inr ⟨(hw _ (List.mem_of_getElem? (i := 13) rfl)), rfl, hnm⟩) (hw _ (List.mem_of_getElem? (i := 2) rfl)) (ty := .long) (by decide) rfl rfl (g := (mkF m 38 #[rv b0_3, own_jv m0, .second, own_jv m3, .second] [(.long m3), (.ref b0_3)])) rfl rfl (hb hby d1_38)
  have fw5 : Fld Z h5 b0_3 "com/example/allotd/allotd/engine/Tokens" "output" "J" (.long m3) := c4.same W5
  have Z5 : n0 ≤ h5.size := Nat.le_trans Z2 (Keep.of_wr W5).1
  have KK5 : Keep h0 h5 [b0_3] := KK2.wr W5 (Or.inl (List.mem_of_getElem? (i := 0) rfl))
  have N5 := Fr.snoc X5 N2 g_b0_3
  have c6 := (fw2.other W5 (Or.inr (slot_ne (Or.inr (hw _ (List.mem_of_getElem? (i := 11) rfl))) (Or.inr (hw _ (List.mem_of_getElem? (i := 13) rfl))) (by decide) (t := .long) (t' := .long) (by decide) (by decide))))
  have c7 := (c3.wr W5)
  obtain ⟨fs, hr, hrun, hended, hW, hsame⟩ := X5.leave (v := none) (fun _ => rfl)
  refine ⟨_, _, pre0 _ ?_, hrun, hended, _, _, rfl, ?_, ⟨_, rfl⟩, hW, hsame.mono (by decide) (by decide)⟩
  · show Steps p.tables e below (s₁.setTop (mkF m 0 #[rv b0_3, own_jv m0, .second, own_jv m3, .second] [])) _
    refine XS.aloadN X0.here hx rfl (hb hby d1_0) rfl rfl ?_
    refine st1 _ ?_
    refine XS.lloadN X1.here hx rfl (hb hby d1_4) rfl ?_
    refine XS.lconst X1.here hx rfl (hb hby d1_5) ?_
    refine XS.lcmp X1.here hx rfl (hb hby d1_6) rfl ?_
    refine XS.ifNo X1.here hx rfl (hb hby d1_7) rfl ((if0 _ _).trans ((if0 _ _).symm.trans (Jvm.Free.XT.ll_lt_f hn0))) ?_
    refine XS.lloadN X1.here hx rfl (hb hby d1_10) rfl ?_
    refine XS.lconst X1.here hx rfl (hb hby d1_11) ?_
    show Steps p.tables e below (T1.setTop (mkF m 12 #[rv b0_3, own_jv m0, .second, own_jv m3, .second] [(.long (0 : Int64)), (.long m3)])) _
    refine XS.lcmp X1.here hx rfl (hb hby d1_12) rfl ?_
    refine XS.ifYes X1.here hx rfl (pc0 := 13) (pc' := 31) rfl (hb hby d1_13) rfl ((if0 _ _).trans ((if0 _ _).symm.trans (Jvm.Free.XT.ll_ge_t hn3))) (by decide) (by decide) ?_
    refine XS.aloadN X1.here hx rfl (hb hby d1_31) rfl rfl ?_
    refine XS.lloadN X1.here hx rfl (hb hby d1_32) rfl ?_
    refine st2 _ ?_
    refine XS.aloadN X2.here hx rfl (hb hby d1_36) rfl rfl ?_
    refine XS.lloadN X2.here hx rfl (hb hby d1_37) rfl ?_
    refine st5 _ ?_
    show Steps p.tables e below (T5.setTop (mkF m 41 #[rv b0_3, own_jv m0, .second, own_jv m3, .second] [])) _
    exact X5.returnOut hx Bd.returns (hb hby d1_41) hr
  · exact (by show Q_rm1_13 Z m0 m3 b0_3 h0 n0 _ T5.heap _; rw [e5]; exact ⟨rfl, N5, KK5, c6, fw5, c7⟩)
set_option maxRecDepth 65536 in
set_option maxHeartbeats 40000000 in
theorem rm3_14 (l : Launch) (Z : State) (a0 : Array Value) (hw : ∀ d ∈ tables_1, d.before a0 Z = true) (ws : List Jvm.Cond) (m0 : Int64) (m1 : Int64) (m3 : Int64) (b0_1 : Addr) (b0_3 : Addr) (h0 : Heap) (n0 : Nat) (Z0 : n0 ≤ h0.size) (E_b0_3 : Exa Z h0 b0_3 "com/example/allotd/allotd/engine/Tokens") (F_b0_3_input : Fld Z h0 b0_3 "com/example/allotd/allotd/engine/Tokens" "input" "J" (.long m0)) (F_b0_1_input : Fld Z h0 b0_1 "com/example/allotd/allotd/engine/Tokens" "input" "J" (.long m0)) (F_b0_3_output : Fld Z h0 b0_3 "com/example/allotd/allotd/engine/Tokens" "output" "J" (.long m3)) (F_b0_1_output : Fld Z h0 b0_1 "com/example/allotd/allotd/engine/Tokens" "output" "J" (.long m1)) (ho2 : m3 = m1) :
    MetFree l (⟨"com/example/allotd/allotd/engine/Tokens", "equals", "(Ljava/lang/Object;)Z"⟩ : MethodName) (head1 (Jvm.Cond.code (⟨"com/example/allotd/allotd/engine/Tokens", "equals", "(Ljava/lang/Object;)Z"⟩ : MethodName) prog_21_method_4_code 3 (some .boolean) :: ws) ({ frames := 0, cells := 0, slots := 0, locals := 0 } : Room)) (fun a U => a = #[(.ref b0_1), (.ref b0_3)] ∧ Z.Warmed39 U.vm ∧ U.heap = h0) (fun _ _ _ _ _ => True) (fun _ U o U' => ∃ v L, o = .returned v ∧ own_QP (some (.int (1 : Int32))) h0 n0 v U'.heap L ∧ FrameEnd U o U' L ({ frames := 0, cells := 0, slots := 0, locals := 0 } : Room).cells ({ frames := 0, cells := 0, slots := 0, locals := 0 } : Room).slots) := by
  refine MetFree.of_bodySF (plainFor_of_name pn_2) hisR ?_
  intro p e s m args below meth c s₁ Bd hml0 hP hK
  obtain ⟨rfl, hZ, hh⟩ := hP
  have hx := Bd.exec
  have hby := Bd.bytes
  have hml : c.maxLocals = 3 := hml0
  have hown : s.vm.findClass "com/example/allotd/allotd/engine/Tokens" = some m.cls := findClass_of_methodNamed Bd.named
  have hnm := (name_of_methodNamed Bd.named Bd.method).1
  have X0 : Stand p l e ({ frames := 0, cells := 0, slots := 0, locals := 0 } : Room) s m #[(.ref b0_1), (.ref b0_3)] below meth c s₁ [] 0 0 := Stand.of_body Bd
  have e0 : s₁.heap = h0 := by rw [← hh, Bd.state]; rfl
  have N0 := Fr.nil n0
  have pre0 : ∀ t, Steps p.tables e below (s₁.setTop (mkF m 0 #[rv b0_1, rv b0_3, .unset] [])) t → Steps p.tables e below (s₁.setTop (entryFrame m #[(.ref b0_1), (.ref b0_3)] 3)) t := fun t k => castTop (ef_3_RR m b0_1 b0_3) k
  obtain ⟨T1, X1, e1, st1⟩ := instY X0 hx hZ hown (hw _ (List.mem_of_getElem? (i := 19) rfl)) e0 (Ins.self E_b0_3) (g := (mkF m 1 #[rv b0_1, rv b0_3, .unset] [(.ref b0_3)])) rfl rfl (hb hby d3_1)
  obtain ⟨T2, X2, e2, st2⟩ := castY X1 hx hZ hown (hw _ (List.mem_of_getElem? (i := 19) rfl)) e1 (Ins.self E_b0_3) (g := (mkF m 8 #[rv b0_1, rv b0_3, .unset] [(.ref b0_3)])) rfl rfl (hb hby d3_8)
  obtain ⟨T3, X3, e3, st3⟩ := getF X2 hx hZ hown (host := "") (Or.inl (hw _ (List.mem_of_getElem? (i := 10) rfl))) Via.refl e2 F_b0_3_input (g := (mkF m 13 #[rv b0_1, rv b0_3, rv b0_3] [(.ref b0_3)])) rfl rfl (hb hby d3_13)
  obtain ⟨T4, X4, e4, st4⟩ := getF X3 hx hZ hown (host := "") (Or.inl (hw _ (List.mem_of_getElem? (i := 10) rfl))) Via.refl e3 F_b0_1_input (g := (mkF m 17 #[rv b0_1, rv b0_3, rv b0_3] [(.ref b0_1), (.long m0)])) rfl rfl (hb hby d3_17)
  obtain ⟨T5, X5, e5, st5⟩ := getF X4 hx hZ hown (host := "") (Or.inl (hw _ (List.mem_of_getElem? (i := 12) rfl))) Via.refl e4 F_b0_3_output (g := (mkF m 25 #[rv b0_1, rv b0_3, rv b0_3] [(.ref b0_3)])) rfl rfl (hb hby d3_25)
  obtain ⟨T6, X6, e6, st6⟩ := getF X5 hx hZ hown (host := "") (Or.inl (hw _ (List.mem_of_getElem? (i := 12) rfl))) Via.refl e5 F_b0_1_output (g := (mkF m 29 #[rv b0_1, rv b0_3, rv b0_3] [(.ref b0_1), (.long m3)])) rfl rfl (hb hby d3_29)
  obtain ⟨fs, hr, hrun, hended, hW, hsame⟩ := X6.leave (v := (some (.int (1 : Int32)))) (fun h => by rw [Bd.returns] at h; cases h)
  refine ⟨_, _, pre0 _ ?_, hrun, hended, _, _, rfl, ?_, ⟨_, rfl⟩, hW, hsame.mono (by decide) (by decide)⟩
  · show Steps p.tables e below (s₁.setTop (mkF m 0 #[rv b0_1, rv b0_3, .unset] [])) _
    refine XS.aloadN X0.here hx rfl (hb hby d3_0) rfl rfl ?_
    refine st1 _ ?_
    refine XS.ifNo X1.here hx rfl (hb hby d3_4) rfl ((if0 _ _).trans (feq (by decide +kernel : ¬ ((1 : Int32) = (0 : Int32)))).1) ?_
    refine XS.aloadN X1.here hx rfl (hb hby d3_7) rfl rfl ?_
    refine st2 _ ?_
    refine XS.astoreN X2.here hx rfl (hb hby d3_11) rfl rfl (l' := #[rv b0_1, rv b0_3, rv b0_3]) rfl ?_
    refine XS.aloadN X2.here hx rfl (hb hby d3_12) rfl rfl ?_
    refine st3 _ ?_
    show Steps p.tables e below (T3.setTop (mkF m 16 #[rv b0_1, rv b0_3, rv b0_3] [(.long m0)])) _
    refine XS.aloadN X3.here hx rfl (hb hby d3_16) rfl rfl ?_
    refine st4 _ ?_
    refine XS.lcmp X4.here hx rfl (hb hby d3_20) rfl ?_
    refine XS.ifNo X4.here hx rfl (hb hby d3_21) rfl ((if0 _ _).trans ((if0 _ _).symm.trans (Jvm.Free.XT.ll_ne_f rfl))) ?_
    refine XS.aloadN X4.here hx rfl (hb hby d3_24) rfl rfl ?_
    refine st5 _ ?_
    refine XS.aloadN X5.here hx rfl (hb hby d3_28) rfl rfl ?_
    refine st6 _ ?_
    show Steps p.tables e below (T6.setTop (mkF m 32 #[rv b0_1, rv b0_3, rv b0_3] [(.long m1), (.long m3)])) _
    refine XS.lcmp X6.here hx rfl (hb hby d3_32) rfl ?_
    refine XS.ifNo X6.here hx rfl (hb hby d3_33) rfl ((if0 _ _).trans ((if0 _ _).symm.trans (Jvm.Free.XT.ll_ne_f ho2))) ?_
    refine XS.iconst X6.here hx rfl (hb hby d3_36) ?_
    refine XS.goto X6.here hx rfl (pc0 := 37) (pc' := 41) rfl (hb hby d3_37) (by decide) (by decide) ?_
    exact retN X6 hx (t := .boolean) Bd.returns (by simp) (hb hby d3_41) hr
  · exact ⟨rfl, N0, e6⟩
set_option maxRecDepth 65536 in
set_option maxHeartbeats 40000000 in
theorem rm3_15 (l : Launch) (Z : State) (a0 : Array Value) (hw : ∀ d ∈ tables_1, d.before a0 Z = true) (ws : List Jvm.Cond) (m0 : Int64) (m1 : Int64) (m3 : Int64) (b0_1 : Addr) (b0_3 : Addr) (h0 : Heap) (n0 : Nat) (Z0 : n0 ≤ h0.size) (E_b0_1 : Exa Z h0 b0_1 "com/example/allotd/allotd/engine/Tokens") (F_b0_1_input : Fld Z h0 b0_1 "com/example/allotd/allotd/engine/Tokens" "input" "J" (.long m0)) (F_b0_3_input : Fld Z h0 b0_3 "com/example/allotd/allotd/engine/Tokens" "input" "J" (.long m0)) (F_b0_1_output : Fld Z h0 b0_1 "com/example/allotd/allotd/engine/Tokens" "output" "J" (.long m1)) (F_b0_3_output : Fld Z h0 b0_3 "com/example/allotd/allotd/engine/Tokens" "output" "J" (.long m3)) (ho1 : m1 = m3) :
    MetFree l (⟨"com/example/allotd/allotd/engine/Tokens", "equals", "(Ljava/lang/Object;)Z"⟩ : MethodName) (head1 (Jvm.Cond.code (⟨"com/example/allotd/allotd/engine/Tokens", "equals", "(Ljava/lang/Object;)Z"⟩ : MethodName) prog_21_method_4_code 3 (some .boolean) :: ws) ({ frames := 0, cells := 0, slots := 0, locals := 0 } : Room)) (fun a U => a = #[(.ref b0_3), (.ref b0_1)] ∧ Z.Warmed39 U.vm ∧ U.heap = h0) (fun _ _ _ _ _ => True) (fun _ U o U' => ∃ v L, o = .returned v ∧ own_QP (some (.int (1 : Int32))) h0 n0 v U'.heap L ∧ FrameEnd U o U' L ({ frames := 0, cells := 0, slots := 0, locals := 0 } : Room).cells ({ frames := 0, cells := 0, slots := 0, locals := 0 } : Room).slots) := by
  refine MetFree.of_bodySF (plainFor_of_name pn_2) hisR ?_
  intro p e s m args below meth c s₁ Bd hml0 hP hK
  obtain ⟨rfl, hZ, hh⟩ := hP
  have hx := Bd.exec
  have hby := Bd.bytes
  have hml : c.maxLocals = 3 := hml0
  have hown : s.vm.findClass "com/example/allotd/allotd/engine/Tokens" = some m.cls := findClass_of_methodNamed Bd.named
  have hnm := (name_of_methodNamed Bd.named Bd.method).1
  have X0 : Stand p l e ({ frames := 0, cells := 0, slots := 0, locals := 0 } : Room) s m #[(.ref b0_3), (.ref b0_1)] below meth c s₁ [] 0 0 := Stand.of_body Bd
  have e0 : s₁.heap = h0 := by rw [← hh, Bd.state]; rfl
  have N0 := Fr.nil n0
  have pre0 : ∀ t, Steps p.tables e below (s₁.setTop (mkF m 0 #[rv b0_3, rv b0_1, .unset] [])) t → Steps p.tables e below (s₁.setTop (entryFrame m #[(.ref b0_3), (.ref b0_1)] 3)) t := fun t k => castTop (ef_3_RR m b0_3 b0_1) k
  obtain ⟨T1, X1, e1, st1⟩ := instY X0 hx hZ hown (hw _ (List.mem_of_getElem? (i := 19) rfl)) e0 (Ins.self E_b0_1) (g := (mkF m 1 #[rv b0_3, rv b0_1, .unset] [(.ref b0_1)])) rfl rfl (hb hby d3_1)
  obtain ⟨T2, X2, e2, st2⟩ := castY X1 hx hZ hown (hw _ (List.mem_of_getElem? (i := 19) rfl)) e1 (Ins.self E_b0_1) (g := (mkF m 8 #[rv b0_3, rv b0_1, .unset] [(.ref b0_1)])) rfl rfl (hb hby d3_8)
  obtain ⟨T3, X3, e3, st3⟩ := getF X2 hx hZ hown (host := "") (Or.inl (hw _ (List.mem_of_getElem? (i := 10) rfl))) Via.refl e2 F_b0_1_input (g := (mkF m 13 #[rv b0_3, rv b0_1, rv b0_1] [(.ref b0_1)])) rfl rfl (hb hby d3_13)
  obtain ⟨T4, X4, e4, st4⟩ := getF X3 hx hZ hown (host := "") (Or.inl (hw _ (List.mem_of_getElem? (i := 10) rfl))) Via.refl e3 F_b0_3_input (g := (mkF m 17 #[rv b0_3, rv b0_1, rv b0_1] [(.ref b0_3), (.long m0)])) rfl rfl (hb hby d3_17)
  obtain ⟨T5, X5, e5, st5⟩ := getF X4 hx hZ hown (host := "") (Or.inl (hw _ (List.mem_of_getElem? (i := 12) rfl))) Via.refl e4 F_b0_1_output (g := (mkF m 25 #[rv b0_3, rv b0_1, rv b0_1] [(.ref b0_1)])) rfl rfl (hb hby d3_25)
  obtain ⟨T6, X6, e6, st6⟩ := getF X5 hx hZ hown (host := "") (Or.inl (hw _ (List.mem_of_getElem? (i := 12) rfl))) Via.refl e5 F_b0_3_output (g := (mkF m 29 #[rv b0_3, rv b0_1, rv b0_1] [(.ref b0_3), (.long m1)])) rfl rfl (hb hby d3_29)
  obtain ⟨fs, hr, hrun, hended, hW, hsame⟩ := X6.leave (v := (some (.int (1 : Int32)))) (fun h => by rw [Bd.returns] at h; cases h)
  refine ⟨_, _, pre0 _ ?_, hrun, hended, _, _, rfl, ?_, ⟨_, rfl⟩, hW, hsame.mono (by decide) (by decide)⟩
  · show Steps p.tables e below (s₁.setTop (mkF m 0 #[rv b0_3, rv b0_1, .unset] [])) _
    refine XS.aloadN X0.here hx rfl (hb hby d3_0) rfl rfl ?_
    refine st1 _ ?_
    refine XS.ifNo X1.here hx rfl (hb hby d3_4) rfl ((if0 _ _).trans (feq (by decide +kernel : ¬ ((1 : Int32) = (0 : Int32)))).1) ?_
    refine XS.aloadN X1.here hx rfl (hb hby d3_7) rfl rfl ?_
    refine st2 _ ?_
    refine XS.astoreN X2.here hx rfl (hb hby d3_11) rfl rfl (l' := #[rv b0_3, rv b0_1, rv b0_1]) rfl ?_
    refine XS.aloadN X2.here hx rfl (hb hby d3_12) rfl rfl ?_
    refine st3 _ ?_
    show Steps p.tables e below (T3.setTop (mkF m 16 #[rv b0_3, rv b0_1, rv b0_1] [(.long m0)])) _
    refine XS.aloadN X3.here hx rfl (hb hby d3_16) rfl rfl ?_
    refine st4 _ ?_
    refine XS.lcmp X4.here hx rfl (hb hby d3_20) rfl ?_
    refine XS.ifNo X4.here hx rfl (hb hby d3_21) rfl ((if0 _ _).trans ((if0 _ _).symm.trans (Jvm.Free.XT.ll_ne_f rfl))) ?_
    refine XS.aloadN X4.here hx rfl (hb hby d3_24) rfl rfl ?_
    refine st5 _ ?_
    refine XS.aloadN X5.here hx rfl (hb hby d3_28) rfl rfl ?_
    refine st6 _ ?_
    show Steps p.tables e below (T6.setTop (mkF m 32 #[rv b0_3, rv b0_1, rv b0_1] [(.long m3), (.long m1)])) _
    refine XS.lcmp X6.here hx rfl (hb hby d3_32) rfl ?_
    refine XS.ifNo X6.here hx rfl (hb hby d3_33) rfl ((if0 _ _).trans ((if0 _ _).symm.trans (Jvm.Free.XT.ll_ne_f ho1))) ?_
    refine XS.iconst X6.here hx rfl (hb hby d3_36) ?_
    refine XS.goto X6.here hx rfl (pc0 := 37) (pc' := 41) rfl (hb hby d3_37) (by decide) (by decide) ?_
    exact retN X6 hx (t := .boolean) Bd.returns (by simp) (hb hby d3_41) hr
  · exact ⟨rfl, N0, e6⟩
set_option maxRecDepth 65536 in
set_option maxHeartbeats 40000000 in
theorem rm0_6 (l : Launch) (Z : State) (a0 : Array Value) (hw : ∀ d ∈ tables_1, d.before a0 Z = true) (ws : List Jvm.Cond) (p0 : Int64) (p1 : Int64) (p2 : Int64) (p3 : Int64) (p4 : Int32) (m0 : Int64) (m1 : Int64) (m3 : Int64) (h0 : Heap) (n0 : Nat) (Z0 : n0 ≤ h0.size) (hm0 : (p0 &&& (9223372036854775807 : Int64)) = m0) (hm1 : (p1 &&& (9223372036854775807 : Int64)) = m1) (hk1 : (p4 &&& (1 : Int32)) = (1 : Int32)) (hk2 : (p4 &&& (2 : Int32)) = (0 : Int32)) (hm3 : (p3 &&& (9223372036854775807 : Int64)) = m3) (hn0 : ¬ (m0 < (0 : Int64))) (hn1 : ¬ (m1 < (0 : Int64))) (hn3 : ¬ (m3 < (0 : Int64))) (hkk : (((p4.toUInt32 >>> ((2 : Int32) &&& 31).toUInt32).toInt32) &&& (3 : Int32)) = (0 : Int32)) (ho1 : m1 = m3) (ho2 : m3 = m1) :
    MetFree l x (head1 (Jvm.Cond.code x code maxLocals ret :: ws) room_1) (fun a U => a = #[(.long p0), (.long p1), (.long p2), (.long p3), (.int p4)] ∧ Z.Warmed39 U.vm ∧ U.heap = h0) (fun _ _ _ _ _ => True) (fun _ U o U' => ∃ v L, o = .returned v ∧ own_QL n0 v U'.heap L ∧ FrameEnd U o U' L room_1.cells room_1.slots) := by
  refine MetFree.of_bodySF (plainFor_of_name pn_3) hisR ?_
  intro p e s m args below meth c s₁ Bd hml0 hP hK
  obtain ⟨rfl, hZ, hh⟩ := hP
  have hx := Bd.exec
  have hby := Bd.bytes
  have hml : c.maxLocals = 21 := hml0
  have hown : s.vm.findClass "com/example/allotd/allotd/engine/TokensEqualsPinLaw" = some m.cls := findClass_of_methodNamed Bd.named
  have hnm := (name_of_methodNamed Bd.named Bd.method).1
  have X0 : Stand p l e room_1 s m #[(.long p0), (.long p1), (.long p2), (.long p3), (.int p4)] below meth c s₁ [] 0 0 := Stand.of_body Bd
  have e0 : s₁.heap = h0 := by rw [← hh, Bd.state]; rfl
  have N0 := Fr.nil n0
  have pre0 : ∀ t, Steps p.tables e below (s₁.setTop (mkF m 0 #[own_jv p0, .second, own_jv p1, .second, own_jv p2, .second, own_jv p3, .second, iv p4, .unset, .unset, .unset, .unset, .unset, .unset, .unset, .unset, .unset, .unset, .unset, .unset] [])) t → Steps p.tables e below (s₁.setTop (entryFrame m #[(.long p0), (.long p1), (.long p2), (.long p3), (.int p4)] maxLocals)) t := fun t k => castTop (ef_0_JJJJI m p0 p1 p2 p3 p4) k
  obtain ⟨T1, h1, X1, e1, E1, A1, D1, -, st1⟩ := newO X0 hx hZ hown (hw _ (List.mem_of_getElem? (i := 1) rfl)) (hw _ (List.mem_of_getElem? (i := 2) rfl)) (hw _ (List.mem_of_getElem? (i := 3) rfl)) e0 (g := (mkF m 54 #[own_jv p0, .second, own_jv p1, .second, own_jv p2, .second, own_jv p3, .second, iv p4, own_jv m0, .second, own_jv m1, .second, own_jv m0, .second, own_jv m3, .second, .unset, .unset, .unset, .unset] [])) rfl (hb hby at_54) (by decide) (by decide)
  obtain ⟨b0_1, gg1⟩ : ∃ z, z = h0.size := ⟨_, rfl⟩
  rw [← gg1] at A1 D1 st1
  have g_b0_1 : n0 ≤ b0_1 := Nat.le_trans Z0 (Nat.le_of_eq gg1.symm)
  have sz_b0_1 : h0.size ≤ b0_1 := Nat.le_trans (Keep.refl h0 []).1 (Nat.le_of_eq gg1.symm)
  have Z1 : n0 ≤ h1.size := Nat.le_trans Z0 E1.1
  have KK1 : Keep h0 h1 [] := (Keep.refl h0 []).ext E1
  have E_b0_1 : Exa Z h1 b0_1 "com/example/allotd/allotd/engine/Tokens" := A1
  have F_b0_1_input : Fld Z h1 b0_1 "com/example/allotd/allotd/engine/Tokens" "input" "J" (.long (0 : Int64)) := D1 (Or.inr (hw _ (List.mem_of_getElem? (i := 11) rfl))) (ty := .long) (by decide)
  have F_b0_1_output : Fld Z h1 b0_1 "com/example/allotd/allotd/engine/Tokens" "output" "J" (.long (0 : Int64)) := D1 (Or.inr (hw _ (List.mem_of_getElem? (i := 13) rfl))) (ty := .long) (by decide)
  obtain ⟨_, _, ⟨T2, L2, k2, n2⟩, -, X2, ⟨Lc2, hQ2, l2, y2, z2⟩, st2⟩ := X1.specialBack hx (y := (⟨"com/example/allotd/allotd/engine/Tokens", "<init>", "(JJ)V"⟩ : MethodName)) rfl hown (mvT hZ (hw _ (List.mem_of_getElem? (i := 4) rfl))) (mvT hZ (hw _ (List.mem_of_getElem? (i := 5) rfl))) (mvT hZ (hw _ (List.mem_of_getElem? (i := 6) rfl))) (by decide) (backOf (W := 1) (rm1_2 l Z a0 hw [] m0 m1 b0_1 h1 n0 Z1 hn0 hn1 E_b0_1 F_b0_1_input g_b0_1 F_b0_1_output) hZ (hw _ (List.mem_of_getElem? (i := 6) rfl)) (hw _ (List.mem_of_getElem? (i := 3) rfl)) (by decide) (by decide)) (g := (mkF m 62 #[own_jv p0, .second, own_jv p1, .second, own_jv p2, .second, own_jv p3, .second, iv p4, own_jv m0, .second, own_jv m1, .second, own_jv m0, .second, own_jv m3, .second, .unset, .unset, .unset, .unset] [(.long m1), (.long m0), (.ref b0_1), (.ref b0_1)])) rfl (by rw [hml]; rfl) (Steps.refl _) (a := b0_1) (argsL := [(.long m0), (.long m1)]) (rest := [(.ref b0_1)]) (lenOf pd_2 rfl) rfl (by show 2 * 0 + _ ≤ _; exact Nat.le_of_eq rfl) (hb hby at_62) (fun _ _ => ⟨rfl, e1, (by decide : 1 + 0 ≤ _), (by decide : 2 + 0 ≤ _)⟩)
  dsimp only [Pt.U, Pt.locs, Pt.cells, Pt.slots] at X2 l2 y2 z2 st2 hQ2
  subst l2 y2 z2
  obtain ⟨rfl, N2q, K2, fq2_0, fq2_1, fq2_2⟩ := hQ2
  have KK2 : Keep h0 T2.heap [] := KK1.trans K2 (allS (P := fun x => x ∈ [] ∨ h0.size ≤ x) (Or.inr sz_b0_1) all0)
  have Z2 : n0 ≤ T2.heap.size := Nat.le_trans Z1 K2.1
  have N2 := Fr.app N0 N2q
  obtain ⟨T3, h3, X3, e3, E3, A3, D3, -, st3⟩ := newO X2 hx hZ hown (hw _ (List.mem_of_getElem? (i := 1) rfl)) (hw _ (List.mem_of_getElem? (i := 2) rfl)) (hw _ (List.mem_of_getElem? (i := 3) rfl)) rfl (g := (mkF m 67 #[own_jv p0, .second, own_jv p1, .second, own_jv p2, .second, own_jv p3, .second, iv p4, own_jv m0, .second, own_jv m1, .second, own_jv m0, .second, own_jv m3, .second, rv b0_1, .unset, .unset, .unset] [])) rfl (hb hby at_67) (by decide) (by decide)
  obtain ⟨b0_3, gg3⟩ : ∃ z, z = T2.heap.size := ⟨_, rfl⟩
  rw [← gg3] at A3 D3 st3
  have g_b0_3 : n0 ≤ b0_3 := Nat.le_trans Z2 (Nat.le_of_eq gg3.symm)
  have sz_b0_3 : h0.size ≤ b0_3 := Nat.le_trans KK2.1 (Nat.le_of_eq gg3.symm)
  have Z3 : n0 ≤ h3.size := Nat.le_trans Z2 E3.1
  have KK3 : Keep h0 h3 [] := KK2.ext E3
  have E_b0_3 : Exa Z h3 b0_3 "com/example/allotd/allotd/engine/Tokens" := A3
  have F_b0_3_input : Fld Z h3 b0_3 "com/example/allotd/allotd/engine/Tokens" "input" "J" (.long (0 : Int64)) := D3 (Or.inr (hw _ (List.mem_of_getElem? (i := 11) rfl))) (ty := .long) (by decide)
  have F_b0_3_output : Fld Z h3 b0_3 "com/example/allotd/allotd/engine/Tokens" "output" "J" (.long (0 : Int64)) := D3 (Or.inr (hw _ (List.mem_of_getElem? (i := 13) rfl))) (ty := .long) (by decide)
  obtain ⟨_, _, ⟨T4, L4, k4, n4⟩, -, X4, ⟨Lc4, hQ4, l4, y4, z4⟩, st4⟩ := X3.specialBack hx (y := (⟨"com/example/allotd/allotd/engine/Tokens", "<init>", "(JJ)V"⟩ : MethodName)) rfl hown (mvT hZ (hw _ (List.mem_of_getElem? (i := 4) rfl))) (mvT hZ (hw _ (List.mem_of_getElem? (i := 5) rfl))) (mvT hZ (hw _ (List.mem_of_getElem? (i := 6) rfl))) (by decide) (backOf (W := 1) (rm1_13 l Z a0 hw [] m0 m3 b0_3 h3 n0 Z3 hn0 hn3 E_b0_3 F_b0_3_input g_b0_3 F_b0_3_output) hZ (hw _ (List.mem_of_getElem? (i := 6) rfl)) (hw _ (List.mem_of_getElem? (i := 3) rfl)) (by decide) (by decide)) (g := (mkF m 75 #[own_jv p0, .second, own_jv p1, .second, own_jv p2, .second, own_jv p3, .second, iv p4, own_jv m0, .second, own_jv m1, .second, own_jv m0, .second, own_jv m3, .second, rv b0_1, .unset, .unset, .unset] [(.long m3), (.long m0), (.ref b0_3), (.ref b0_3)])) rfl (by rw [hml]; rfl) (Steps.refl _) (a := b0_3) (argsL := [(.long m0), (.long m3)]) (rest := [(.ref b0_3)]) (lenOf pd_2 rfl) rfl (by show 2 * 0 + _ ≤ _; exact Nat.le_of_eq rfl) (hb hby at_75) (fun _ _ => ⟨rfl, e3, (by decide : 2 + 0 ≤ _), (by decide : 4 + 0 ≤ _)⟩)
  dsimp only [Pt.U, Pt.locs, Pt.cells, Pt.slots] at X4 l4 y4 z4 st4 hQ4
  subst l4 y4 z4
  obtain ⟨rfl, N4q, K4, fq4_0, fq4_1, fq4_2⟩ := hQ4
  have KK4 : Keep h0 T4.heap [] := KK3.trans K4 (allS (P := fun x => x ∈ [] ∨ h0.size ≤ x) (Or.inr sz_b0_3) all0)
  have Z4 : n0 ≤ T4.heap.size := Nat.le_trans Z3 K4.1
  have N4 := Fr.app N2 N4q
  have ne_b0_1_b0_3_6 : ¬ (b0_1 = b0_3) := (Nat.ne_of_lt (Nat.lt_of_lt_of_le ((E_b0_1.keep K2)).lt (Nat.le_of_eq gg3.symm)))
  have c7 := ((fq2_0.ext E3).keep K4 (ninS ne_b0_1_b0_3_6 nin0))
  have c8 := ((fq2_1.ext E3).keep K4 (ninS ne_b0_1_b0_3_6 nin0))
  have c9 := ((fq2_2.ext E3).keep K4)
  obtain ⟨cq5, kq5, q5a, q5b, q5c⟩ := isOf hZ rfl c9
  obtain ⟨_, _, ⟨T5, L5, k5, n5⟩, -, X5, ⟨Lc5, hQ5, l5, y5, z5⟩, st5⟩ := X4.virtualBack hx (y := (⟨"com/example/allotd/allotd/engine/Tokens", "equals", "(Ljava/lang/Object;)Z"⟩ : MethodName)) (z := (⟨"com/example/allotd/allotd/engine/Tokens", "equals", "(Ljava/lang/Object;)Z"⟩ : MethodName)) hown (mvT hZ (hw _ (List.mem_of_getElem? (i := 14) rfl))) (mvT hZ (hw _ (List.mem_of_getElem? (i := 15) rfl))) (notFace_of_selects (args := #[]) (mvT hZ (hw _ (List.mem_of_getElem? (i := 17) rfl)))) (mvT hZ (hw _ (List.mem_of_getElem? (i := 17) rfl))) (mvT hZ (hw _ (List.mem_of_getElem? (i := 16) rfl))) (by decide) (backOf (W := 0) (rm3_14 l Z a0 hw [] m0 m1 m3 b0_1 b0_3 T4.heap n0 Z4 fq4_2 fq4_0 c7 fq4_1 c8 ho2) hZ (hw _ (List.mem_of_getElem? (i := 18) rfl)) (hw _ (List.mem_of_getElem? (i := 3) rfl)) (by decide) (by decide)) q5a q5c (g := (mkF m 120 #[own_jv p0, .second, own_jv p1, .second, own_jv p2, .second, own_jv p3, .second, iv p4, own_jv m0, .second, own_jv m1, .second, own_jv m0, .second, own_jv m3, .second, rv b0_1, rv b0_3, iv (0 : Int32), iv (1 : Int32)] [(.ref b0_3), (.ref b0_1)])) rfl (by rw [hml]; rfl) (Steps.refl _) (argsL := [(.ref b0_3)]) (rest := []) (lenOf pd_3 rfl) rfl (by show 2 * 0 + _ ≤ _; exact Nat.le_of_eq rfl) (hb hby at_120) (fun _ _ => ⟨rfl, rfl, (by decide : 2 + 0 ≤ _), (by decide : 4 + 0 ≤ _)⟩)
  dsimp only [Pt.U, Pt.locs, Pt.cells, Pt.slots] at X5 l5 y5 z5 st5 hQ5
  subst l5 y5 z5
  obtain ⟨rfl, N5q, e5⟩ := hQ5
  have N5 := Fr.app N4 N5q
  obtain ⟨cq10, kq10, q10a, q10b, q10c⟩ := isOf hZ e5 fq4_2
  obtain ⟨_, _, ⟨T10, L10, k10, n10⟩, -, X10, ⟨Lc10, hQ10, l10, y10, z10⟩, st10⟩ := X5.virtualBack hx (y := (⟨"com/example/allotd/allotd/engine/Tokens", "equals", "(Ljava/lang/Object;)Z"⟩ : MethodName)) (z := (⟨"com/example/allotd/allotd/engine/Tokens", "equals", "(Ljava/lang/Object;)Z"⟩ : MethodName)) hown (mvT hZ (hw _ (List.mem_of_getElem? (i := 14) rfl))) (mvT hZ (hw _ (List.mem_of_getElem? (i := 15) rfl))) (notFace_of_selects (args := #[]) (mvT hZ (hw _ (List.mem_of_getElem? (i := 17) rfl)))) (mvT hZ (hw _ (List.mem_of_getElem? (i := 17) rfl))) (mvT hZ (hw _ (List.mem_of_getElem? (i := 16) rfl))) (by decide) (backOf (W := 0) (rm3_15 l Z a0 hw [] m0 m1 m3 b0_1 b0_3 T4.heap n0 Z4 c9 c7 fq4_0 c8 fq4_1 ho1) hZ (hw _ (List.mem_of_getElem? (i := 18) rfl)) (hw _ (List.mem_of_getElem? (i := 3) rfl)) (by decide) (by decide)) q10a q10c (g := (mkF m 132 #[own_jv p0, .second, own_jv p1, .second, own_jv p2, .second, own_jv p3, .second, iv p4, own_jv m0, .second, own_jv m1, .second, own_jv m0, .second, own_jv m3, .second, rv b0_1, rv b0_3, iv (0 : Int32), iv (1 : Int32)] [(.ref b0_1), (.ref b0_3)])) rfl (by rw [hml]; rfl) (Steps.refl _) (argsL := [(.ref b0_1)]) (rest := []) (lenOf pd_3 rfl) rfl (by show 2 * 0 + _ ≤ _; exact Nat.le_of_eq rfl) (hb hby at_132) (fun _ _ => ⟨rfl, e5, (by decide : 2 + 0 ≤ _), (by decide : 4 + 0 ≤ _)⟩)
  dsimp only [Pt.U, Pt.locs, Pt.cells, Pt.slots] at X10 l10 y10 z10 st10 hQ10
  subst l10 y10 z10
  obtain ⟨rfl, N10q, e10⟩ := hQ10
  have N10 := Fr.app N5 N10q
  obtain ⟨fs, hr, hrun, hended, hW, hsame⟩ := X10.leave (v := (some (.int (1 : Int32)))) (fun h => by rw [Bd.returns] at h; cases h)
  refine ⟨_, _, pre0 _ ?_, hrun, hended, _, _, rfl, ?_, ⟨_, rfl⟩, hW, hsame.mono (by decide) (by decide)⟩
  · show Steps p.tables e below (s₁.setTop (mkF m 0 #[own_jv p0, .second, own_jv p1, .second, own_jv p2, .second, own_jv p3, .second, iv p4, .unset, .unset, .unset, .unset, .unset, .unset, .unset, .unset, .unset, .unset, .unset, .unset] [])) _
    refine XS.lloadN X0.here hx rfl (hb hby at_0) rfl ?_
    refine X0.ldc2Long hx hown (mvT hZ (hw _ (List.mem_of_getElem? (i := 0) rfl))) (g := (mkF m 1 #[own_jv p0, .second, own_jv p1, .second, own_jv p2, .second, own_jv p3, .second, iv p4, .unset, .unset, .unset, .unset, .unset, .unset, .unset, .unset, .unset, .unset, .unset, .unset] [(.long p0)])) rfl (hb hby at_1) _ ?_
    refine XS.land X0.here hx rfl (hb hby at_4) rfl ?_
    show Steps p.tables e below (s₁.setTop (mkF m 5 #[own_jv p0, .second, own_jv p1, .second, own_jv p2, .second, own_jv p3, .second, iv p4, .unset, .unset, .unset, .unset, .unset, .unset, .unset, .unset, .unset, .unset, .unset, .unset] [(.long (p0 &&& (9223372036854775807 : Int64)))])) _
    rewrite [hm0]
    refine XS.lstore X0.here hx rfl (hb hby at_5) rfl (l' := #[own_jv p0, .second, own_jv p1, .second, own_jv p2, .second, own_jv p3, .second, iv p4, own_jv m0, .second, .unset, .unset, .unset, .unset, .unset, .unset, .unset, .unset, .unset, .unset]) rfl ?_
    refine XS.lloadN X0.here hx rfl (hb hby at_7) rfl ?_
    refine X0.ldc2Long hx hown (mvT hZ (hw _ (List.mem_of_getElem? (i := 0) rfl))) (g := (mkF m 8 #[own_jv p0, .second, own_jv p1, .second, own_jv p2, .second, own_jv p3, .second, iv p4, own_jv m0, .second, .unset, .unset, .unset, .unset, .unset, .unset, .unset, .unset, .unset, .unset] [(.long p1)])) rfl (hb hby at_8) _ ?_
    refine XS.land X0.here hx rfl (hb hby at_11) rfl ?_
    show Steps p.tables e below (s₁.setTop (mkF m 12 #[own_jv p0, .second, own_jv p1, .second, own_jv p2, .second, own_jv p3, .second, iv p4, own_jv m0, .second, .unset, .unset, .unset, .unset, .unset, .unset, .unset, .unset, .unset, .unset] [(.long (p1 &&& (9223372036854775807 : Int64)))])) _
    rewrite [hm1]
    refine XS.lstore X0.here hx rfl (hb hby at_12) rfl (l' := #[own_jv p0, .second, own_jv p1, .second, own_jv p2, .second, own_jv p3, .second, iv p4, own_jv m0, .second, own_jv m1, .second, .unset, .unset, .unset, .unset, .unset, .unset, .unset, .unset]) rfl ?_
    show Steps p.tables e below (s₁.setTop (mkF m 14 #[own_jv p0, .second, own_jv p1, .second, own_jv p2, .second, own_jv p3, .second, iv p4, own_jv m0, .second, own_jv m1, .second, .unset, .unset, .unset, .unset, .unset, .unset, .unset, .unset] [])) _
    refine XS.iload X0.here hx rfl (hb hby at_14) rfl ?_
    refine XS.iconst X0.here hx rfl (hb hby at_16) ?_
    refine XS.iand X0.here hx rfl (hb hby at_17) rfl ?_
    show Steps p.tables e below (s₁.setTop (mkF m 18 #[own_jv p0, .second, own_jv p1, .second, own_jv p2, .second, own_jv p3, .second, iv p4, own_jv m0, .second, own_jv m1, .second, .unset, .unset, .unset, .unset, .unset, .unset, .unset, .unset] [(.int (p4 &&& (1 : Int32)))])) _
    rewrite [hk1]
    refine XS.ifNo X0.here hx rfl (hb hby at_18) rfl ((if0 _ _).trans (feq (by decide +kernel : ¬ ((1 : Int32) = (0 : Int32)))).1) ?_
    refine XS.lload X0.here hx rfl (hb hby at_21) rfl ?_
    refine XS.goto X0.here hx rfl (pc0 := 23) (pc' := 32) rfl (hb hby at_23) (by decide) (by decide) ?_
    refine XS.lstore X0.here hx rfl (hb hby at_32) rfl (l' := #[own_jv p0, .second, own_jv p1, .second, own_jv p2, .second, own_jv p3, .second, iv p4, own_jv m0, .second, own_jv m1, .second, own_jv m0, .second, .unset, .unset, .unset, .unset, .unset, .unset]) rfl ?_
    refine XS.iload X0.here hx rfl (hb hby at_34) rfl ?_
    show Steps p.tables e below (s₁.setTop (mkF m 36 #[own_jv p0, .second, own_jv p1, .second, own_jv p2, .second, own_jv p3, .second, iv p4, own_jv m0, .second, own_jv m1, .second, own_jv m0, .second, .unset, .unset, .unset, .unset, .unset, .unset] [(.int p4)])) _
    refine XS.iconst X0.here hx rfl (hb hby at_36) ?_
    refine XS.iand X0.here hx rfl (hb hby at_37) rfl ?_
    refine XS.ifYes X0.here hx rfl (pc0 := 38) (pc' := 46) rfl (hb hby at_38) rfl ((if0 _ _).trans (teq hk2).1) (by decide) (by decide) ?_
    refine XS.lload X0.here hx rfl (hb hby at_46) rfl ?_
    refine X0.ldc2Long hx hown (mvT hZ (hw _ (List.mem_of_getElem? (i := 0) rfl))) (g := (mkF m 48 #[own_jv p0, .second, own_jv p1, .second, own_jv p2, .second, own_jv p3, .second, iv p4, own_jv m0, .second, own_jv m1, .second, own_jv m0, .second, .unset, .unset, .unset, .unset, .unset, .unset] [(.long p3)])) rfl (hb hby at_48) _ ?_
    refine XS.land X0.here hx rfl (hb hby at_51) rfl ?_
    show Steps p.tables e below (s₁.setTop (mkF m 52 #[own_jv p0, .second, own_jv p1, .second, own_jv p2, .second, own_jv p3, .second, iv p4, own_jv m0, .second, own_jv m1, .second, own_jv m0, .second, .unset, .unset, .unset, .unset, .unset, .unset] [(.long (p3 &&& (9223372036854775807 : Int64)))])) _
    rewrite [hm3]
    refine XS.lstore X0.here hx rfl (hb hby at_52) rfl (l' := #[own_jv p0, .second, own_jv p1, .second, own_jv p2, .second, own_jv p3, .second, iv p4, own_jv m0, .second, own_jv m1, .second, own_jv m0, .second, own_jv m3, .second, .unset, .unset, .unset, .unset]) rfl ?_
    refine st1 _ ?_
    show Steps p.tables e below (T1.setTop (mkF m 57 #[own_jv p0, .second, own_jv p1, .second, own_jv p2, .second, own_jv p3, .second, iv p4, own_jv m0, .second, own_jv m1, .second, own_jv m0, .second, own_jv m3, .second, .unset, .unset, .unset, .unset] [(.ref b0_1)])) _
    refine XS.dup X1.here hx rfl (hb hby at_57) rfl rfl ?_
    refine XS.lload X1.here hx rfl (hb hby at_58) rfl ?_
    refine XS.lload X1.here hx rfl (hb hby at_60) rfl ?_
    refine st2.trans ?_
    refine XS.astore X2.here hx rfl (hb hby at_65) rfl rfl (l' := #[own_jv p0, .second, own_jv p1, .second, own_jv p2, .second, own_jv p3, .second, iv p4, own_jv m0, .second, own_jv m1, .second, own_jv m0, .second, own_jv m3, .second, rv b0_1, .unset, .unset, .unset]) rfl ?_
    refine st3 _ ?_
    refine XS.dup X3.here hx rfl (hb hby at_70) rfl rfl ?_
    refine XS.lload X3.here hx rfl (hb hby at_71) rfl ?_
    show Steps p.tables e below (T3.setTop (mkF m 73 #[own_jv p0, .second, own_jv p1, .second, own_jv p2, .second, own_jv p3, .second, iv p4, own_jv m0, .second, own_jv m1, .second, own_jv m0, .second, own_jv m3, .second, rv b0_1, .unset, .unset, .unset] [(.long m0), (.ref b0_3), (.ref b0_3)])) _
    refine XS.lload X3.here hx rfl (hb hby at_73) rfl ?_
    refine st4.trans ?_
    refine XS.astore X4.here hx rfl (hb hby at_78) rfl rfl (l' := #[own_jv p0, .second, own_jv p1, .second, own_jv p2, .second, own_jv p3, .second, iv p4, own_jv m0, .second, own_jv m1, .second, own_jv m0, .second, own_jv m3, .second, rv b0_1, rv b0_3, .unset, .unset]) rfl ?_
    refine XS.iload X4.here hx rfl (hb hby at_80) rfl ?_
    refine XS.iconst X4.here hx rfl (hb hby at_82) ?_
    refine XS.iushr X4.here hx rfl (hb hby at_83) rfl ?_
    refine XS.iconst X4.here hx rfl (hb hby at_84) ?_
    refine XS.iand X4.here hx rfl (hb hby at_85) rfl ?_
    show Steps p.tables e below (T4.setTop (mkF m 86 #[own_jv p0, .second, own_jv p1, .second, own_jv p2, .second, own_jv p3, .second, iv p4, own_jv m0, .second, own_jv m1, .second, own_jv m0, .second, own_jv m3, .second, rv b0_1, rv b0_3, .unset, .unset] [(.int (((p4.toUInt32 >>> ((2 : Int32) &&& 31).toUInt32).toInt32) &&& (3 : Int32)))])) _
    rewrite [hkk]
    show Steps p.tables e below (T4.setTop (mkF m 86 #[own_jv p0, .second, own_jv p1, .second, own_jv p2, .second, own_jv p3, .second, iv p4, own_jv m0, .second, own_jv m1, .second, own_jv m0, .second, own_jv m3, .second, rv b0_1, rv b0_3, .unset, .unset] [(.int (0 : Int32))])) _
    refine XS.istore X4.here hx rfl (hb hby at_86) rfl (l' := #[own_jv p0, .second, own_jv p1, .second, own_jv p2, .second, own_jv p3, .second, iv p4, own_jv m0, .second, own_jv m1, .second, own_jv m0, .second, own_jv m3, .second, rv b0_1, rv b0_3, iv (0 : Int32), .unset]) rfl ?_
    refine XS.iload X4.here hx rfl (hb hby at_88) rfl ?_
    refine XS.ifNo X4.here hx rfl (hb hby at_90) rfl ((if0 _ _).trans (teq (by decide +kernel : (0 : Int32) = (0 : Int32))).2) ?_
    refine XS.lload X4.here hx rfl (hb hby at_93) rfl ?_
    refine XS.lload X4.here hx rfl (hb hby at_95) rfl ?_
    refine XS.lcmp X4.here hx rfl (hb hby at_97) rfl ?_
    refine XS.ifNo X4.here hx rfl (hb hby at_98) rfl ((if0 _ _).trans ((if0 _ _).symm.trans (Jvm.Free.XT.ll_ne_f rfl))) ?_
    refine XS.lload X4.here hx rfl (hb hby at_101) rfl ?_
    show Steps p.tables e below (T4.setTop (mkF m 103 #[own_jv p0, .second, own_jv p1, .second, own_jv p2, .second, own_jv p3, .second, iv p4, own_jv m0, .second, own_jv m1, .second, own_jv m0, .second, own_jv m3, .second, rv b0_1, rv b0_3, iv (0 : Int32), .unset] [(.long m1)])) _
    refine XS.lload X4.here hx rfl (hb hby at_103) rfl ?_
    refine XS.lcmp X4.here hx rfl (hb hby at_105) rfl ?_
    refine XS.ifNo X4.here hx rfl (hb hby at_106) rfl ((if0 _ _).trans ((if0 _ _).symm.trans (Jvm.Free.XT.ll_ne_f ho1))) ?_
    refine XS.iconst X4.here hx rfl (hb hby at_109) ?_
    refine XS.goto X4.here hx rfl (pc0 := 110) (pc' := 114) rfl (hb hby at_110) (by decide) (by decide) ?_
    refine XS.istore X4.here hx rfl (hb hby at_114) rfl (l' := #[own_jv p0, .second, own_jv p1, .second, own_jv p2, .second, own_jv p3, .second, iv p4, own_jv m0, .second, own_jv m1, .second, own_jv m0, .second, own_jv m3, .second, rv b0_1, rv b0_3, iv (0 : Int32), iv (1 : Int32)]) rfl ?_
    refine XS.aload X4.here hx rfl (hb hby at_116) rfl rfl ?_
    refine XS.aload X4.here hx rfl (hb hby at_118) rfl rfl ?_
    show Steps p.tables e below (T4.setTop (mkF m 120 #[own_jv p0, .second, own_jv p1, .second, own_jv p2, .second, own_jv p3, .second, iv p4, own_jv m0, .second, own_jv m1, .second, own_jv m0, .second, own_jv m3, .second, rv b0_1, rv b0_3, iv (0 : Int32), iv (1 : Int32)] [(.ref b0_3), (.ref b0_1)])) _
    refine st5.trans ?_
    refine XS.iload X5.here hx rfl (hb hby at_123) rfl ?_
    refine XS.icmpNo X5.here hx rfl (hb hby at_125) rfl (teq (by decide +kernel : (1 : Int32) = (1 : Int32))).2 ?_
    refine XS.aload X5.here hx rfl (hb hby at_128) rfl rfl ?_
    refine XS.aload X5.here hx rfl (hb hby at_130) rfl rfl ?_
    refine st10.trans ?_
    refine XS.iload X10.here hx rfl (hb hby at_135) rfl ?_
    refine XS.icmpNo X10.here hx rfl (hb hby at_137) rfl (teq (by decide +kernel : (1 : Int32) = (1 : Int32))).2 ?_
    show Steps p.tables e below (T10.setTop (mkF m 140 #[own_jv p0, .second, own_jv p1, .second, own_jv p2, .second, own_jv p3, .second, iv p4, own_jv m0, .second, own_jv m1, .second, own_jv m0, .second, own_jv m3, .second, rv b0_1, rv b0_3, iv (0 : Int32), iv (1 : Int32)] [])) _
    refine XS.iconst X10.here hx rfl (hb hby at_140) ?_
    refine XS.goto X10.here hx rfl (pc0 := 141) (pc' := 145) rfl (hb hby at_141) (by decide) (by decide) ?_
    exact retN X10 hx (t := .boolean) Bd.returns (by simp) (hb hby at_145) hr
  · exact ⟨rfl, N10⟩
set_option maxRecDepth 65536 in
set_option maxHeartbeats 40000000 in
theorem rm3_16 (l : Launch) (Z : State) (a0 : Array Value) (hw : ∀ d ∈ tables_1, d.before a0 Z = true) (ws : List Jvm.Cond) (m0 : Int64) (m1 : Int64) (m3 : Int64) (b0_1 : Addr) (b0_3 : Addr) (h0 : Heap) (n0 : Nat) (Z0 : n0 ≤ h0.size) (E_b0_3 : Exa Z h0 b0_3 "com/example/allotd/allotd/engine/Tokens") (F_b0_3_input : Fld Z h0 b0_3 "com/example/allotd/allotd/engine/Tokens" "input" "J" (.long m0)) (F_b0_1_input : Fld Z h0 b0_1 "com/example/allotd/allotd/engine/Tokens" "input" "J" (.long m0)) (F_b0_3_output : Fld Z h0 b0_3 "com/example/allotd/allotd/engine/Tokens" "output" "J" (.long m3)) (F_b0_1_output : Fld Z h0 b0_1 "com/example/allotd/allotd/engine/Tokens" "output" "J" (.long m1)) (ho2 : ¬ (m3 = m1)) :
    MetFree l (⟨"com/example/allotd/allotd/engine/Tokens", "equals", "(Ljava/lang/Object;)Z"⟩ : MethodName) (head1 (Jvm.Cond.code (⟨"com/example/allotd/allotd/engine/Tokens", "equals", "(Ljava/lang/Object;)Z"⟩ : MethodName) prog_21_method_4_code 3 (some .boolean) :: ws) ({ frames := 0, cells := 0, slots := 0, locals := 0 } : Room)) (fun a U => a = #[(.ref b0_1), (.ref b0_3)] ∧ Z.Warmed39 U.vm ∧ U.heap = h0) (fun _ _ _ _ _ => True) (fun _ U o U' => ∃ v L, o = .returned v ∧ own_QP (some (.int (0 : Int32))) h0 n0 v U'.heap L ∧ FrameEnd U o U' L ({ frames := 0, cells := 0, slots := 0, locals := 0 } : Room).cells ({ frames := 0, cells := 0, slots := 0, locals := 0 } : Room).slots) := by
  refine MetFree.of_bodySF (plainFor_of_name pn_2) hisR ?_
  intro p e s m args below meth c s₁ Bd hml0 hP hK
  obtain ⟨rfl, hZ, hh⟩ := hP
  have hx := Bd.exec
  have hby := Bd.bytes
  have hml : c.maxLocals = 3 := hml0
  have hown : s.vm.findClass "com/example/allotd/allotd/engine/Tokens" = some m.cls := findClass_of_methodNamed Bd.named
  have hnm := (name_of_methodNamed Bd.named Bd.method).1
  have X0 : Stand p l e ({ frames := 0, cells := 0, slots := 0, locals := 0 } : Room) s m #[(.ref b0_1), (.ref b0_3)] below meth c s₁ [] 0 0 := Stand.of_body Bd
  have e0 : s₁.heap = h0 := by rw [← hh, Bd.state]; rfl
  have N0 := Fr.nil n0
  have pre0 : ∀ t, Steps p.tables e below (s₁.setTop (mkF m 0 #[rv b0_1, rv b0_3, .unset] [])) t → Steps p.tables e below (s₁.setTop (entryFrame m #[(.ref b0_1), (.ref b0_3)] 3)) t := fun t k => castTop (ef_3_RR m b0_1 b0_3) k
  obtain ⟨T1, X1, e1, st1⟩ := instY X0 hx hZ hown (hw _ (List.mem_of_getElem? (i := 19) rfl)) e0 (Ins.self E_b0_3) (g := (mkF m 1 #[rv b0_1, rv b0_3, .unset] [(.ref b0_3)])) rfl rfl (hb hby d3_1)
  obtain ⟨T2, X2, e2, st2⟩ := castY X1 hx hZ hown (hw _ (List.mem_of_getElem? (i := 19) rfl)) e1 (Ins.self E_b0_3) (g := (mkF m 8 #[rv b0_1, rv b0_3, .unset] [(.ref b0_3)])) rfl rfl (hb hby d3_8)
  obtain ⟨T3, X3, e3, st3⟩ := getF X2 hx hZ hown (host := "") (Or.inl (hw _ (List.mem_of_getElem? (i := 10) rfl))) Via.refl e2 F_b0_3_input (g := (mkF m 13 #[rv b0_1, rv b0_3, rv b0_3] [(.ref b0_3)])) rfl rfl (hb hby d3_13)
  obtain ⟨T4, X4, e4, st4⟩ := getF X3 hx hZ hown (host := "") (Or.inl (hw _ (List.mem_of_getElem? (i := 10) rfl))) Via.refl e3 F_b0_1_input (g := (mkF m 17 #[rv b0_1, rv b0_3, rv b0_3] [(.ref b0_1), (.long m0)])) rfl rfl (hb hby d3_17)
  obtain ⟨T5, X5, e5, st5⟩ := getF X4 hx hZ hown (host := "") (Or.inl (hw _ (List.mem_of_getElem? (i := 12) rfl))) Via.refl e4 F_b0_3_output (g := (mkF m 25 #[rv b0_1, rv b0_3, rv b0_3] [(.ref b0_3)])) rfl rfl (hb hby d3_25)
  obtain ⟨T6, X6, e6, st6⟩ := getF X5 hx hZ hown (host := "") (Or.inl (hw _ (List.mem_of_getElem? (i := 12) rfl))) Via.refl e5 F_b0_1_output (g := (mkF m 29 #[rv b0_1, rv b0_3, rv b0_3] [(.ref b0_1), (.long m3)])) rfl rfl (hb hby d3_29)
  obtain ⟨fs, hr, hrun, hended, hW, hsame⟩ := X6.leave (v := (some (.int (0 : Int32)))) (fun h => by rw [Bd.returns] at h; cases h)
  refine ⟨_, _, pre0 _ ?_, hrun, hended, _, _, rfl, ?_, ⟨_, rfl⟩, hW, hsame.mono (by decide) (by decide)⟩
  · show Steps p.tables e below (s₁.setTop (mkF m 0 #[rv b0_1, rv b0_3, .unset] [])) _
    refine XS.aloadN X0.here hx rfl (hb hby d3_0) rfl rfl ?_
    refine st1 _ ?_
    refine XS.ifNo X1.here hx rfl (hb hby d3_4) rfl ((if0 _ _).trans (feq (by decide +kernel : ¬ ((1 : Int32) = (0 : Int32)))).1) ?_
    refine XS.aloadN X1.here hx rfl (hb hby d3_7) rfl rfl ?_
    refine st2 _ ?_
    refine XS.astoreN X2.here hx rfl (hb hby d3_11) rfl rfl (l' := #[rv b0_1, rv b0_3, rv b0_3]) rfl ?_
    refine XS.aloadN X2.here hx rfl (hb hby d3_12) rfl rfl ?_
    refine st3 _ ?_
    show Steps p.tables e below (T3.setTop (mkF m 16 #[rv b0_1, rv b0_3, rv b0_3] [(.long m0)])) _
    refine XS.aloadN X3.here hx rfl (hb hby d3_16) rfl rfl ?_
    refine st4 _ ?_
    refine XS.lcmp X4.here hx rfl (hb hby d3_20) rfl ?_
    refine XS.ifNo X4.here hx rfl (hb hby d3_21) rfl ((if0 _ _).trans ((if0 _ _).symm.trans (Jvm.Free.XT.ll_ne_f rfl))) ?_
    refine XS.aloadN X4.here hx rfl (hb hby d3_24) rfl rfl ?_
    refine st5 _ ?_
    refine XS.aloadN X5.here hx rfl (hb hby d3_28) rfl rfl ?_
    refine st6 _ ?_
    show Steps p.tables e below (T6.setTop (mkF m 32 #[rv b0_1, rv b0_3, rv b0_3] [(.long m1), (.long m3)])) _
    refine XS.lcmp X6.here hx rfl (hb hby d3_32) rfl ?_
    refine XS.ifYes X6.here hx rfl (pc0 := 33) (pc' := 40) rfl (hb hby d3_33) rfl ((if0 _ _).trans ((if0 _ _).symm.trans (Jvm.Free.XT.ll_ne_t ho2))) (by decide) (by decide) ?_
    refine XS.iconst X6.here hx rfl (hb hby d3_40) ?_
    exact retN X6 hx (t := .boolean) Bd.returns (by simp) (hb hby d3_41) hr
  · exact ⟨rfl, N0, e6⟩
set_option maxRecDepth 65536 in
set_option maxHeartbeats 40000000 in
theorem rm3_17 (l : Launch) (Z : State) (a0 : Array Value) (hw : ∀ d ∈ tables_1, d.before a0 Z = true) (ws : List Jvm.Cond) (m0 : Int64) (m1 : Int64) (m3 : Int64) (b0_1 : Addr) (b0_3 : Addr) (h0 : Heap) (n0 : Nat) (Z0 : n0 ≤ h0.size) (E_b0_1 : Exa Z h0 b0_1 "com/example/allotd/allotd/engine/Tokens") (F_b0_1_input : Fld Z h0 b0_1 "com/example/allotd/allotd/engine/Tokens" "input" "J" (.long m0)) (F_b0_3_input : Fld Z h0 b0_3 "com/example/allotd/allotd/engine/Tokens" "input" "J" (.long m0)) (F_b0_1_output : Fld Z h0 b0_1 "com/example/allotd/allotd/engine/Tokens" "output" "J" (.long m1)) (F_b0_3_output : Fld Z h0 b0_3 "com/example/allotd/allotd/engine/Tokens" "output" "J" (.long m3)) (ho1 : ¬ (m1 = m3)) :
    MetFree l (⟨"com/example/allotd/allotd/engine/Tokens", "equals", "(Ljava/lang/Object;)Z"⟩ : MethodName) (head1 (Jvm.Cond.code (⟨"com/example/allotd/allotd/engine/Tokens", "equals", "(Ljava/lang/Object;)Z"⟩ : MethodName) prog_21_method_4_code 3 (some .boolean) :: ws) ({ frames := 0, cells := 0, slots := 0, locals := 0 } : Room)) (fun a U => a = #[(.ref b0_3), (.ref b0_1)] ∧ Z.Warmed39 U.vm ∧ U.heap = h0) (fun _ _ _ _ _ => True) (fun _ U o U' => ∃ v L, o = .returned v ∧ own_QP (some (.int (0 : Int32))) h0 n0 v U'.heap L ∧ FrameEnd U o U' L ({ frames := 0, cells := 0, slots := 0, locals := 0 } : Room).cells ({ frames := 0, cells := 0, slots := 0, locals := 0 } : Room).slots) := by
  refine MetFree.of_bodySF (plainFor_of_name pn_2) hisR ?_
  intro p e s m args below meth c s₁ Bd hml0 hP hK
  obtain ⟨rfl, hZ, hh⟩ := hP
  have hx := Bd.exec
  have hby := Bd.bytes
  have hml : c.maxLocals = 3 := hml0
  have hown : s.vm.findClass "com/example/allotd/allotd/engine/Tokens" = some m.cls := findClass_of_methodNamed Bd.named
  have hnm := (name_of_methodNamed Bd.named Bd.method).1
  have X0 : Stand p l e ({ frames := 0, cells := 0, slots := 0, locals := 0 } : Room) s m #[(.ref b0_3), (.ref b0_1)] below meth c s₁ [] 0 0 := Stand.of_body Bd
  have e0 : s₁.heap = h0 := by rw [← hh, Bd.state]; rfl
  have N0 := Fr.nil n0
  have pre0 : ∀ t, Steps p.tables e below (s₁.setTop (mkF m 0 #[rv b0_3, rv b0_1, .unset] [])) t → Steps p.tables e below (s₁.setTop (entryFrame m #[(.ref b0_3), (.ref b0_1)] 3)) t := fun t k => castTop (ef_3_RR m b0_3 b0_1) k
  obtain ⟨T1, X1, e1, st1⟩ := instY X0 hx hZ hown (hw _ (List.mem_of_getElem? (i := 19) rfl)) e0 (Ins.self E_b0_1) (g := (mkF m 1 #[rv b0_3, rv b0_1, .unset] [(.ref b0_1)])) rfl rfl (hb hby d3_1)
  obtain ⟨T2, X2, e2, st2⟩ := castY X1 hx hZ hown (hw _ (List.mem_of_getElem? (i := 19) rfl)) e1 (Ins.self E_b0_1) (g := (mkF m 8 #[rv b0_3, rv b0_1, .unset] [(.ref b0_1)])) rfl rfl (hb hby d3_8)
  obtain ⟨T3, X3, e3, st3⟩ := getF X2 hx hZ hown (host := "") (Or.inl (hw _ (List.mem_of_getElem? (i := 10) rfl))) Via.refl e2 F_b0_1_input (g := (mkF m 13 #[rv b0_3, rv b0_1, rv b0_1] [(.ref b0_1)])) rfl rfl (hb hby d3_13)
  obtain ⟨T4, X4, e4, st4⟩ := getF X3 hx hZ hown (host := "") (Or.inl (hw _ (List.mem_of_getElem? (i := 10) rfl))) Via.refl e3 F_b0_3_input (g := (mkF m 17 #[rv b0_3, rv b0_1, rv b0_1] [(.ref b0_3), (.long m0)])) rfl rfl (hb hby d3_17)
  obtain ⟨T5, X5, e5, st5⟩ := getF X4 hx hZ hown (host := "") (Or.inl (hw _ (List.mem_of_getElem? (i := 12) rfl))) Via.refl e4 F_b0_1_output (g := (mkF m 25 #[rv b0_3, rv b0_1, rv b0_1] [(.ref b0_1)])) rfl rfl (hb hby d3_25)
  obtain ⟨T6, X6, e6, st6⟩ := getF X5 hx hZ hown (host := "") (Or.inl (hw _ (List.mem_of_getElem? (i := 12) rfl))) Via.refl e5 F_b0_3_output (g := (mkF m 29 #[rv b0_3, rv b0_1, rv b0_1] [(.ref b0_3), (.long m1)])) rfl rfl (hb hby d3_29)
  obtain ⟨fs, hr, hrun, hended, hW, hsame⟩ := X6.leave (v := (some (.int (0 : Int32)))) (fun h => by rw [Bd.returns] at h; cases h)
  refine ⟨_, _, pre0 _ ?_, hrun, hended, _, _, rfl, ?_, ⟨_, rfl⟩, hW, hsame.mono (by decide) (by decide)⟩
  · show Steps p.tables e below (s₁.setTop (mkF m 0 #[rv b0_3, rv b0_1, .unset] [])) _
    refine XS.aloadN X0.here hx rfl (hb hby d3_0) rfl rfl ?_
    refine st1 _ ?_
    refine XS.ifNo X1.here hx rfl (hb hby d3_4) rfl ((if0 _ _).trans (feq (by decide +kernel : ¬ ((1 : Int32) = (0 : Int32)))).1) ?_
    refine XS.aloadN X1.here hx rfl (hb hby d3_7) rfl rfl ?_
    refine st2 _ ?_
    refine XS.astoreN X2.here hx rfl (hb hby d3_11) rfl rfl (l' := #[rv b0_3, rv b0_1, rv b0_1]) rfl ?_
    refine XS.aloadN X2.here hx rfl (hb hby d3_12) rfl rfl ?_
    refine st3 _ ?_
    show Steps p.tables e below (T3.setTop (mkF m 16 #[rv b0_3, rv b0_1, rv b0_1] [(.long m0)])) _
    refine XS.aloadN X3.here hx rfl (hb hby d3_16) rfl rfl ?_
    refine st4 _ ?_
    refine XS.lcmp X4.here hx rfl (hb hby d3_20) rfl ?_
    refine XS.ifNo X4.here hx rfl (hb hby d3_21) rfl ((if0 _ _).trans ((if0 _ _).symm.trans (Jvm.Free.XT.ll_ne_f rfl))) ?_
    refine XS.aloadN X4.here hx rfl (hb hby d3_24) rfl rfl ?_
    refine st5 _ ?_
    refine XS.aloadN X5.here hx rfl (hb hby d3_28) rfl rfl ?_
    refine st6 _ ?_
    show Steps p.tables e below (T6.setTop (mkF m 32 #[rv b0_3, rv b0_1, rv b0_1] [(.long m3), (.long m1)])) _
    refine XS.lcmp X6.here hx rfl (hb hby d3_32) rfl ?_
    refine XS.ifYes X6.here hx rfl (pc0 := 33) (pc' := 40) rfl (hb hby d3_33) rfl ((if0 _ _).trans ((if0 _ _).symm.trans (Jvm.Free.XT.ll_ne_t ho1))) (by decide) (by decide) ?_
    refine XS.iconst X6.here hx rfl (hb hby d3_40) ?_
    exact retN X6 hx (t := .boolean) Bd.returns (by simp) (hb hby d3_41) hr
  · exact ⟨rfl, N0, e6⟩
set_option maxRecDepth 65536 in
set_option maxHeartbeats 40000000 in
theorem rm0_7 (l : Launch) (Z : State) (a0 : Array Value) (hw : ∀ d ∈ tables_1, d.before a0 Z = true) (ws : List Jvm.Cond) (p0 : Int64) (p1 : Int64) (p2 : Int64) (p3 : Int64) (p4 : Int32) (m0 : Int64) (m1 : Int64) (m3 : Int64) (h0 : Heap) (n0 : Nat) (Z0 : n0 ≤ h0.size) (hm0 : (p0 &&& (9223372036854775807 : Int64)) = m0) (hm1 : (p1 &&& (9223372036854775807 : Int64)) = m1) (hk1 : (p4 &&& (1 : Int32)) = (1 : Int32)) (hk2 : (p4 &&& (2 : Int32)) = (0 : Int32)) (hm3 : (p3 &&& (9223372036854775807 : Int64)) = m3) (hn0 : ¬ (m0 < (0 : Int64))) (hn1 : ¬ (m1 < (0 : Int64))) (hn3 : ¬ (m3 < (0 : Int64))) (hkk : (((p4.toUInt32 >>> ((2 : Int32) &&& 31).toUInt32).toInt32) &&& (3 : Int32)) = (0 : Int32)) (ho1 : ¬ (m1 = m3)) (ho2 : ¬ (m3 = m1)) :
    MetFree l x (head1 (Jvm.Cond.code x code maxLocals ret :: ws) room_1) (fun a U => a = #[(.long p0), (.long p1), (.long p2), (.long p3), (.int p4)] ∧ Z.Warmed39 U.vm ∧ U.heap = h0) (fun _ _ _ _ _ => True) (fun _ U o U' => ∃ v L, o = .returned v ∧ own_QL n0 v U'.heap L ∧ FrameEnd U o U' L room_1.cells room_1.slots) := by
  refine MetFree.of_bodySF (plainFor_of_name pn_3) hisR ?_
  intro p e s m args below meth c s₁ Bd hml0 hP hK
  obtain ⟨rfl, hZ, hh⟩ := hP
  have hx := Bd.exec
  have hby := Bd.bytes
  have hml : c.maxLocals = 21 := hml0
  have hown : s.vm.findClass "com/example/allotd/allotd/engine/TokensEqualsPinLaw" = some m.cls := findClass_of_methodNamed Bd.named
  have hnm := (name_of_methodNamed Bd.named Bd.method).1
  have X0 : Stand p l e room_1 s m #[(.long p0), (.long p1), (.long p2), (.long p3), (.int p4)] below meth c s₁ [] 0 0 := Stand.of_body Bd
  have e0 : s₁.heap = h0 := by rw [← hh, Bd.state]; rfl
  have N0 := Fr.nil n0
  have pre0 : ∀ t, Steps p.tables e below (s₁.setTop (mkF m 0 #[own_jv p0, .second, own_jv p1, .second, own_jv p2, .second, own_jv p3, .second, iv p4, .unset, .unset, .unset, .unset, .unset, .unset, .unset, .unset, .unset, .unset, .unset, .unset] [])) t → Steps p.tables e below (s₁.setTop (entryFrame m #[(.long p0), (.long p1), (.long p2), (.long p3), (.int p4)] maxLocals)) t := fun t k => castTop (ef_0_JJJJI m p0 p1 p2 p3 p4) k
  obtain ⟨T1, h1, X1, e1, E1, A1, D1, -, st1⟩ := newO X0 hx hZ hown (hw _ (List.mem_of_getElem? (i := 1) rfl)) (hw _ (List.mem_of_getElem? (i := 2) rfl)) (hw _ (List.mem_of_getElem? (i := 3) rfl)) e0 (g := (mkF m 54 #[own_jv p0, .second, own_jv p1, .second, own_jv p2, .second, own_jv p3, .second, iv p4, own_jv m0, .second, own_jv m1, .second, own_jv m0, .second, own_jv m3, .second, .unset, .unset, .unset, .unset] [])) rfl (hb hby at_54) (by decide) (by decide)
  obtain ⟨b0_1, gg1⟩ : ∃ z, z = h0.size := ⟨_, rfl⟩
  rw [← gg1] at A1 D1 st1
  have g_b0_1 : n0 ≤ b0_1 := Nat.le_trans Z0 (Nat.le_of_eq gg1.symm)
  have sz_b0_1 : h0.size ≤ b0_1 := Nat.le_trans (Keep.refl h0 []).1 (Nat.le_of_eq gg1.symm)
  have Z1 : n0 ≤ h1.size := Nat.le_trans Z0 E1.1
  have KK1 : Keep h0 h1 [] := (Keep.refl h0 []).ext E1
  have E_b0_1 : Exa Z h1 b0_1 "com/example/allotd/allotd/engine/Tokens" := A1
  have F_b0_1_input : Fld Z h1 b0_1 "com/example/allotd/allotd/engine/Tokens" "input" "J" (.long (0 : Int64)) := D1 (Or.inr (hw _ (List.mem_of_getElem? (i := 11) rfl))) (ty := .long) (by decide)
  have F_b0_1_output : Fld Z h1 b0_1 "com/example/allotd/allotd/engine/Tokens" "output" "J" (.long (0 : Int64)) := D1 (Or.inr (hw _ (List.mem_of_getElem? (i := 13) rfl))) (ty := .long) (by decide)
  obtain ⟨_, _, ⟨T2, L2, k2, n2⟩, -, X2, ⟨Lc2, hQ2, l2, y2, z2⟩, st2⟩ := X1.specialBack hx (y := (⟨"com/example/allotd/allotd/engine/Tokens", "<init>", "(JJ)V"⟩ : MethodName)) rfl hown (mvT hZ (hw _ (List.mem_of_getElem? (i := 4) rfl))) (mvT hZ (hw _ (List.mem_of_getElem? (i := 5) rfl))) (mvT hZ (hw _ (List.mem_of_getElem? (i := 6) rfl))) (by decide) (backOf (W := 1) (rm1_2 l Z a0 hw [] m0 m1 b0_1 h1 n0 Z1 hn0 hn1 E_b0_1 F_b0_1_input g_b0_1 F_b0_1_output) hZ (hw _ (List.mem_of_getElem? (i := 6) rfl)) (hw _ (List.mem_of_getElem? (i := 3) rfl)) (by decide) (by decide)) (g := (mkF m 62 #[own_jv p0, .second, own_jv p1, .second, own_jv p2, .second, own_jv p3, .second, iv p4, own_jv m0, .second, own_jv m1, .second, own_jv m0, .second, own_jv m3, .second, .unset, .unset, .unset, .unset] [(.long m1), (.long m0), (.ref b0_1), (.ref b0_1)])) rfl (by rw [hml]; rfl) (Steps.refl _) (a := b0_1) (argsL := [(.long m0), (.long m1)]) (rest := [(.ref b0_1)]) (lenOf pd_2 rfl) rfl (by show 2 * 0 + _ ≤ _; exact Nat.le_of_eq rfl) (hb hby at_62) (fun _ _ => ⟨rfl, e1, (by decide : 1 + 0 ≤ _), (by decide : 2 + 0 ≤ _)⟩)
  dsimp only [Pt.U, Pt.locs, Pt.cells, Pt.slots] at X2 l2 y2 z2 st2 hQ2
  subst l2 y2 z2
  obtain ⟨rfl, N2q, K2, fq2_0, fq2_1, fq2_2⟩ := hQ2
  have KK2 : Keep h0 T2.heap [] := KK1.trans K2 (allS (P := fun x => x ∈ [] ∨ h0.size ≤ x) (Or.inr sz_b0_1) all0)
  have Z2 : n0 ≤ T2.heap.size := Nat.le_trans Z1 K2.1
  have N2 := Fr.app N0 N2q
  obtain ⟨T3, h3, X3, e3, E3, A3, D3, -, st3⟩ := newO X2 hx hZ hown (hw _ (List.mem_of_getElem? (i := 1) rfl)) (hw _ (List.mem_of_getElem? (i := 2) rfl)) (hw _ (List.mem_of_getElem? (i := 3) rfl)) rfl (g := (mkF m 67 #[own_jv p0, .second, own_jv p1, .second, own_jv p2, .second, own_jv p3, .second, iv p4, own_jv m0, .second, own_jv m1, .second, own_jv m0, .second, own_jv m3, .second, rv b0_1, .unset, .unset, .unset] [])) rfl (hb hby at_67) (by decide) (by decide)
  obtain ⟨b0_3, gg3⟩ : ∃ z, z = T2.heap.size := ⟨_, rfl⟩
  rw [← gg3] at A3 D3 st3
  have g_b0_3 : n0 ≤ b0_3 := Nat.le_trans Z2 (Nat.le_of_eq gg3.symm)
  have sz_b0_3 : h0.size ≤ b0_3 := Nat.le_trans KK2.1 (Nat.le_of_eq gg3.symm)
  have Z3 : n0 ≤ h3.size := Nat.le_trans Z2 E3.1
  have KK3 : Keep h0 h3 [] := KK2.ext E3
  have E_b0_3 : Exa Z h3 b0_3 "com/example/allotd/allotd/engine/Tokens" := A3
  have F_b0_3_input : Fld Z h3 b0_3 "com/example/allotd/allotd/engine/Tokens" "input" "J" (.long (0 : Int64)) := D3 (Or.inr (hw _ (List.mem_of_getElem? (i := 11) rfl))) (ty := .long) (by decide)
  have F_b0_3_output : Fld Z h3 b0_3 "com/example/allotd/allotd/engine/Tokens" "output" "J" (.long (0 : Int64)) := D3 (Or.inr (hw _ (List.mem_of_getElem? (i := 13) rfl))) (ty := .long) (by decide)
  obtain ⟨_, _, ⟨T4, L4, k4, n4⟩, -, X4, ⟨Lc4, hQ4, l4, y4, z4⟩, st4⟩ := X3.specialBack hx (y := (⟨"com/example/allotd/allotd/engine/Tokens", "<init>", "(JJ)V"⟩ : MethodName)) rfl hown (mvT hZ (hw _ (List.mem_of_getElem? (i := 4) rfl))) (mvT hZ (hw _ (List.mem_of_getElem? (i := 5) rfl))) (mvT hZ (hw _ (List.mem_of_getElem? (i := 6) rfl))) (by decide) (backOf (W := 1) (rm1_13 l Z a0 hw [] m0 m3 b0_3 h3 n0 Z3 hn0 hn3 E_b0_3 F_b0_3_input g_b0_3 F_b0_3_output) hZ (hw _ (List.mem_of_getElem? (i := 6) rfl)) (hw _ (List.mem_of_getElem? (i := 3) rfl)) (by decide) (by decide)) (g := (mkF m 75 #[own_jv p0, .second, own_jv p1, .second, own_jv p2, .second, own_jv p3, .second, iv p4, own_jv m0, .second, own_jv m1, .second, own_jv m0, .second, own_jv m3, .second, rv b0_1, .unset, .unset, .unset] [(.long m3), (.long m0), (.ref b0_3), (.ref b0_3)])) rfl (by rw [hml]; rfl) (Steps.refl _) (a := b0_3) (argsL := [(.long m0), (.long m3)]) (rest := [(.ref b0_3)]) (lenOf pd_2 rfl) rfl (by show 2 * 0 + _ ≤ _; exact Nat.le_of_eq rfl) (hb hby at_75) (fun _ _ => ⟨rfl, e3, (by decide : 2 + 0 ≤ _), (by decide : 4 + 0 ≤ _)⟩)
  dsimp only [Pt.U, Pt.locs, Pt.cells, Pt.slots] at X4 l4 y4 z4 st4 hQ4
  subst l4 y4 z4
  obtain ⟨rfl, N4q, K4, fq4_0, fq4_1, fq4_2⟩ := hQ4
  have KK4 : Keep h0 T4.heap [] := KK3.trans K4 (allS (P := fun x => x ∈ [] ∨ h0.size ≤ x) (Or.inr sz_b0_3) all0)
  have Z4 : n0 ≤ T4.heap.size := Nat.le_trans Z3 K4.1
  have N4 := Fr.app N2 N4q
  have ne_b0_1_b0_3_6 : ¬ (b0_1 = b0_3) := (Nat.ne_of_lt (Nat.lt_of_lt_of_le ((E_b0_1.keep K2)).lt (Nat.le_of_eq gg3.symm)))
  have c7 := ((fq2_0.ext E3).keep K4 (ninS ne_b0_1_b0_3_6 nin0))
  have c8 := ((fq2_1.ext E3).keep K4 (ninS ne_b0_1_b0_3_6 nin0))
  have c9 := ((fq2_2.ext E3).keep K4)
  obtain ⟨cq5, kq5, q5a, q5b, q5c⟩ := isOf hZ rfl c9
  obtain ⟨_, _, ⟨T5, L5, k5, n5⟩, -, X5, ⟨Lc5, hQ5, l5, y5, z5⟩, st5⟩ := X4.virtualBack hx (y := (⟨"com/example/allotd/allotd/engine/Tokens", "equals", "(Ljava/lang/Object;)Z"⟩ : MethodName)) (z := (⟨"com/example/allotd/allotd/engine/Tokens", "equals", "(Ljava/lang/Object;)Z"⟩ : MethodName)) hown (mvT hZ (hw _ (List.mem_of_getElem? (i := 14) rfl))) (mvT hZ (hw _ (List.mem_of_getElem? (i := 15) rfl))) (notFace_of_selects (args := #[]) (mvT hZ (hw _ (List.mem_of_getElem? (i := 17) rfl)))) (mvT hZ (hw _ (List.mem_of_getElem? (i := 17) rfl))) (mvT hZ (hw _ (List.mem_of_getElem? (i := 16) rfl))) (by decide) (backOf (W := 0) (rm3_16 l Z a0 hw [] m0 m1 m3 b0_1 b0_3 T4.heap n0 Z4 fq4_2 fq4_0 c7 fq4_1 c8 ho2) hZ (hw _ (List.mem_of_getElem? (i := 18) rfl)) (hw _ (List.mem_of_getElem? (i := 3) rfl)) (by decide) (by decide)) q5a q5c (g := (mkF m 120 #[own_jv p0, .second, own_jv p1, .second, own_jv p2, .second, own_jv p3, .second, iv p4, own_jv m0, .second, own_jv m1, .second, own_jv m0, .second, own_jv m3, .second, rv b0_1, rv b0_3, iv (0 : Int32), iv (0 : Int32)] [(.ref b0_3), (.ref b0_1)])) rfl (by rw [hml]; rfl) (Steps.refl _) (argsL := [(.ref b0_3)]) (rest := []) (lenOf pd_3 rfl) rfl (by show 2 * 0 + _ ≤ _; exact Nat.le_of_eq rfl) (hb hby at_120) (fun _ _ => ⟨rfl, rfl, (by decide : 2 + 0 ≤ _), (by decide : 4 + 0 ≤ _)⟩)
  dsimp only [Pt.U, Pt.locs, Pt.cells, Pt.slots] at X5 l5 y5 z5 st5 hQ5
  subst l5 y5 z5
  obtain ⟨rfl, N5q, e5⟩ := hQ5
  have N5 := Fr.app N4 N5q
  obtain ⟨cq10, kq10, q10a, q10b, q10c⟩ := isOf hZ e5 fq4_2
  obtain ⟨_, _, ⟨T10, L10, k10, n10⟩, -, X10, ⟨Lc10, hQ10, l10, y10, z10⟩, st10⟩ := X5.virtualBack hx (y := (⟨"com/example/allotd/allotd/engine/Tokens", "equals", "(Ljava/lang/Object;)Z"⟩ : MethodName)) (z := (⟨"com/example/allotd/allotd/engine/Tokens", "equals", "(Ljava/lang/Object;)Z"⟩ : MethodName)) hown (mvT hZ (hw _ (List.mem_of_getElem? (i := 14) rfl))) (mvT hZ (hw _ (List.mem_of_getElem? (i := 15) rfl))) (notFace_of_selects (args := #[]) (mvT hZ (hw _ (List.mem_of_getElem? (i := 17) rfl)))) (mvT hZ (hw _ (List.mem_of_getElem? (i := 17) rfl))) (mvT hZ (hw _ (List.mem_of_getElem? (i := 16) rfl))) (by decide) (backOf (W := 0) (rm3_17 l Z a0 hw [] m0 m1 m3 b0_1 b0_3 T4.heap n0 Z4 c9 c7 fq4_0 c8 fq4_1 ho1) hZ (hw _ (List.mem_of_getElem? (i := 18) rfl)) (hw _ (List.mem_of_getElem? (i := 3) rfl)) (by decide) (by decide)) q10a q10c (g := (mkF m 132 #[own_jv p0, .second, own_jv p1, .second, own_jv p2, .second, own_jv p3, .second, iv p4, own_jv m0, .second, own_jv m1, .second, own_jv m0, .second, own_jv m3, .second, rv b0_1, rv b0_3, iv (0 : Int32), iv (0 : Int32)] [(.ref b0_1), (.ref b0_3)])) rfl (by rw [hml]; rfl) (Steps.refl _) (argsL := [(.ref b0_1)]) (rest := []) (lenOf pd_3 rfl) rfl (by show 2 * 0 + _ ≤ _; exact Nat.le_of_eq rfl) (hb hby at_132) (fun _ _ => ⟨rfl, e5, (by decide : 2 + 0 ≤ _), (by decide : 4 + 0 ≤ _)⟩)
  dsimp only [Pt.U, Pt.locs, Pt.cells, Pt.slots] at X10 l10 y10 z10 st10 hQ10
  subst l10 y10 z10
  obtain ⟨rfl, N10q, e10⟩ := hQ10
  have N10 := Fr.app N5 N10q
  obtain ⟨fs, hr, hrun, hended, hW, hsame⟩ := X10.leave (v := (some (.int (1 : Int32)))) (fun h => by rw [Bd.returns] at h; cases h)
  refine ⟨_, _, pre0 _ ?_, hrun, hended, _, _, rfl, ?_, ⟨_, rfl⟩, hW, hsame.mono (by decide) (by decide)⟩
  · show Steps p.tables e below (s₁.setTop (mkF m 0 #[own_jv p0, .second, own_jv p1, .second, own_jv p2, .second, own_jv p3, .second, iv p4, .unset, .unset, .unset, .unset, .unset, .unset, .unset, .unset, .unset, .unset, .unset, .unset] [])) _
    refine XS.lloadN X0.here hx rfl (hb hby at_0) rfl ?_
    refine X0.ldc2Long hx hown (mvT hZ (hw _ (List.mem_of_getElem? (i := 0) rfl))) (g := (mkF m 1 #[own_jv p0, .second, own_jv p1, .second, own_jv p2, .second, own_jv p3, .second, iv p4, .unset, .unset, .unset, .unset, .unset, .unset, .unset, .unset, .unset, .unset, .unset, .unset] [(.long p0)])) rfl (hb hby at_1) _ ?_
    refine XS.land X0.here hx rfl (hb hby at_4) rfl ?_
    show Steps p.tables e below (s₁.setTop (mkF m 5 #[own_jv p0, .second, own_jv p1, .second, own_jv p2, .second, own_jv p3, .second, iv p4, .unset, .unset, .unset, .unset, .unset, .unset, .unset, .unset, .unset, .unset, .unset, .unset] [(.long (p0 &&& (9223372036854775807 : Int64)))])) _
    rewrite [hm0]
    refine XS.lstore X0.here hx rfl (hb hby at_5) rfl (l' := #[own_jv p0, .second, own_jv p1, .second, own_jv p2, .second, own_jv p3, .second, iv p4, own_jv m0, .second, .unset, .unset, .unset, .unset, .unset, .unset, .unset, .unset, .unset, .unset]) rfl ?_
    refine XS.lloadN X0.here hx rfl (hb hby at_7) rfl ?_
    refine X0.ldc2Long hx hown (mvT hZ (hw _ (List.mem_of_getElem? (i := 0) rfl))) (g := (mkF m 8 #[own_jv p0, .second, own_jv p1, .second, own_jv p2, .second, own_jv p3, .second, iv p4, own_jv m0, .second, .unset, .unset, .unset, .unset, .unset, .unset, .unset, .unset, .unset, .unset] [(.long p1)])) rfl (hb hby at_8) _ ?_
    refine XS.land X0.here hx rfl (hb hby at_11) rfl ?_
    show Steps p.tables e below (s₁.setTop (mkF m 12 #[own_jv p0, .second, own_jv p1, .second, own_jv p2, .second, own_jv p3, .second, iv p4, own_jv m0, .second, .unset, .unset, .unset, .unset, .unset, .unset, .unset, .unset, .unset, .unset] [(.long (p1 &&& (9223372036854775807 : Int64)))])) _
    rewrite [hm1]
    refine XS.lstore X0.here hx rfl (hb hby at_12) rfl (l' := #[own_jv p0, .second, own_jv p1, .second, own_jv p2, .second, own_jv p3, .second, iv p4, own_jv m0, .second, own_jv m1, .second, .unset, .unset, .unset, .unset, .unset, .unset, .unset, .unset]) rfl ?_
    show Steps p.tables e below (s₁.setTop (mkF m 14 #[own_jv p0, .second, own_jv p1, .second, own_jv p2, .second, own_jv p3, .second, iv p4, own_jv m0, .second, own_jv m1, .second, .unset, .unset, .unset, .unset, .unset, .unset, .unset, .unset] [])) _
    refine XS.iload X0.here hx rfl (hb hby at_14) rfl ?_
    refine XS.iconst X0.here hx rfl (hb hby at_16) ?_
    refine XS.iand X0.here hx rfl (hb hby at_17) rfl ?_
    show Steps p.tables e below (s₁.setTop (mkF m 18 #[own_jv p0, .second, own_jv p1, .second, own_jv p2, .second, own_jv p3, .second, iv p4, own_jv m0, .second, own_jv m1, .second, .unset, .unset, .unset, .unset, .unset, .unset, .unset, .unset] [(.int (p4 &&& (1 : Int32)))])) _
    rewrite [hk1]
    refine XS.ifNo X0.here hx rfl (hb hby at_18) rfl ((if0 _ _).trans (feq (by decide +kernel : ¬ ((1 : Int32) = (0 : Int32)))).1) ?_
    refine XS.lload X0.here hx rfl (hb hby at_21) rfl ?_
    refine XS.goto X0.here hx rfl (pc0 := 23) (pc' := 32) rfl (hb hby at_23) (by decide) (by decide) ?_
    refine XS.lstore X0.here hx rfl (hb hby at_32) rfl (l' := #[own_jv p0, .second, own_jv p1, .second, own_jv p2, .second, own_jv p3, .second, iv p4, own_jv m0, .second, own_jv m1, .second, own_jv m0, .second, .unset, .unset, .unset, .unset, .unset, .unset]) rfl ?_
    refine XS.iload X0.here hx rfl (hb hby at_34) rfl ?_
    show Steps p.tables e below (s₁.setTop (mkF m 36 #[own_jv p0, .second, own_jv p1, .second, own_jv p2, .second, own_jv p3, .second, iv p4, own_jv m0, .second, own_jv m1, .second, own_jv m0, .second, .unset, .unset, .unset, .unset, .unset, .unset] [(.int p4)])) _
    refine XS.iconst X0.here hx rfl (hb hby at_36) ?_
    refine XS.iand X0.here hx rfl (hb hby at_37) rfl ?_
    refine XS.ifYes X0.here hx rfl (pc0 := 38) (pc' := 46) rfl (hb hby at_38) rfl ((if0 _ _).trans (teq hk2).1) (by decide) (by decide) ?_
    refine XS.lload X0.here hx rfl (hb hby at_46) rfl ?_
    refine X0.ldc2Long hx hown (mvT hZ (hw _ (List.mem_of_getElem? (i := 0) rfl))) (g := (mkF m 48 #[own_jv p0, .second, own_jv p1, .second, own_jv p2, .second, own_jv p3, .second, iv p4, own_jv m0, .second, own_jv m1, .second, own_jv m0, .second, .unset, .unset, .unset, .unset, .unset, .unset] [(.long p3)])) rfl (hb hby at_48) _ ?_
    refine XS.land X0.here hx rfl (hb hby at_51) rfl ?_
    show Steps p.tables e below (s₁.setTop (mkF m 52 #[own_jv p0, .second, own_jv p1, .second, own_jv p2, .second, own_jv p3, .second, iv p4, own_jv m0, .second, own_jv m1, .second, own_jv m0, .second, .unset, .unset, .unset, .unset, .unset, .unset] [(.long (p3 &&& (9223372036854775807 : Int64)))])) _
    rewrite [hm3]
    refine XS.lstore X0.here hx rfl (hb hby at_52) rfl (l' := #[own_jv p0, .second, own_jv p1, .second, own_jv p2, .second, own_jv p3, .second, iv p4, own_jv m0, .second, own_jv m1, .second, own_jv m0, .second, own_jv m3, .second, .unset, .unset, .unset, .unset]) rfl ?_
    refine st1 _ ?_
    show Steps p.tables e below (T1.setTop (mkF m 57 #[own_jv p0, .second, own_jv p1, .second, own_jv p2, .second, own_jv p3, .second, iv p4, own_jv m0, .second, own_jv m1, .second, own_jv m0, .second, own_jv m3, .second, .unset, .unset, .unset, .unset] [(.ref b0_1)])) _
    refine XS.dup X1.here hx rfl (hb hby at_57) rfl rfl ?_
    refine XS.lload X1.here hx rfl (hb hby at_58) rfl ?_
    refine XS.lload X1.here hx rfl (hb hby at_60) rfl ?_
    refine st2.trans ?_
    refine XS.astore X2.here hx rfl (hb hby at_65) rfl rfl (l' := #[own_jv p0, .second, own_jv p1, .second, own_jv p2, .second, own_jv p3, .second, iv p4, own_jv m0, .second, own_jv m1, .second, own_jv m0, .second, own_jv m3, .second, rv b0_1, .unset, .unset, .unset]) rfl ?_
    refine st3 _ ?_
    refine XS.dup X3.here hx rfl (hb hby at_70) rfl rfl ?_
    refine XS.lload X3.here hx rfl (hb hby at_71) rfl ?_
    show Steps p.tables e below (T3.setTop (mkF m 73 #[own_jv p0, .second, own_jv p1, .second, own_jv p2, .second, own_jv p3, .second, iv p4, own_jv m0, .second, own_jv m1, .second, own_jv m0, .second, own_jv m3, .second, rv b0_1, .unset, .unset, .unset] [(.long m0), (.ref b0_3), (.ref b0_3)])) _
    refine XS.lload X3.here hx rfl (hb hby at_73) rfl ?_
    refine st4.trans ?_
    refine XS.astore X4.here hx rfl (hb hby at_78) rfl rfl (l' := #[own_jv p0, .second, own_jv p1, .second, own_jv p2, .second, own_jv p3, .second, iv p4, own_jv m0, .second, own_jv m1, .second, own_jv m0, .second, own_jv m3, .second, rv b0_1, rv b0_3, .unset, .unset]) rfl ?_
    refine XS.iload X4.here hx rfl (hb hby at_80) rfl ?_
    refine XS.iconst X4.here hx rfl (hb hby at_82) ?_
    refine XS.iushr X4.here hx rfl (hb hby at_83) rfl ?_
    refine XS.iconst X4.here hx rfl (hb hby at_84) ?_
    refine XS.iand X4.here hx rfl (hb hby at_85) rfl ?_
    show Steps p.tables e below (T4.setTop (mkF m 86 #[own_jv p0, .second, own_jv p1, .second, own_jv p2, .second, own_jv p3, .second, iv p4, own_jv m0, .second, own_jv m1, .second, own_jv m0, .second, own_jv m3, .second, rv b0_1, rv b0_3, .unset, .unset] [(.int (((p4.toUInt32 >>> ((2 : Int32) &&& 31).toUInt32).toInt32) &&& (3 : Int32)))])) _
    rewrite [hkk]
    show Steps p.tables e below (T4.setTop (mkF m 86 #[own_jv p0, .second, own_jv p1, .second, own_jv p2, .second, own_jv p3, .second, iv p4, own_jv m0, .second, own_jv m1, .second, own_jv m0, .second, own_jv m3, .second, rv b0_1, rv b0_3, .unset, .unset] [(.int (0 : Int32))])) _
    refine XS.istore X4.here hx rfl (hb hby at_86) rfl (l' := #[own_jv p0, .second, own_jv p1, .second, own_jv p2, .second, own_jv p3, .second, iv p4, own_jv m0, .second, own_jv m1, .second, own_jv m0, .second, own_jv m3, .second, rv b0_1, rv b0_3, iv (0 : Int32), .unset]) rfl ?_
    refine XS.iload X4.here hx rfl (hb hby at_88) rfl ?_
    refine XS.ifNo X4.here hx rfl (hb hby at_90) rfl ((if0 _ _).trans (teq (by decide +kernel : (0 : Int32) = (0 : Int32))).2) ?_
    refine XS.lload X4.here hx rfl (hb hby at_93) rfl ?_
    refine XS.lload X4.here hx rfl (hb hby at_95) rfl ?_
    refine XS.lcmp X4.here hx rfl (hb hby at_97) rfl ?_
    refine XS.ifNo X4.here hx rfl (hb hby at_98) rfl ((if0 _ _).trans ((if0 _ _).symm.trans (Jvm.Free.XT.ll_ne_f rfl))) ?_
    refine XS.lload X4.here hx rfl (hb hby at_101) rfl ?_
    show Steps p.tables e below (T4.setTop (mkF m 103 #[own_jv p0, .second, own_jv p1, .second, own_jv p2, .second, own_jv p3, .second, iv p4, own_jv m0, .second, own_jv m1, .second, own_jv m0, .second, own_jv m3, .second, rv b0_1, rv b0_3, iv (0 : Int32), .unset] [(.long m1)])) _
    refine XS.lload X4.here hx rfl (hb hby at_103) rfl ?_
    refine XS.lcmp X4.here hx rfl (hb hby at_105) rfl ?_
    refine XS.ifYes X4.here hx rfl (pc0 := 106) (pc' := 113) rfl (hb hby at_106) rfl ((if0 _ _).trans ((if0 _ _).symm.trans (Jvm.Free.XT.ll_ne_t ho1))) (by decide) (by decide) ?_
    refine XS.iconst X4.here hx rfl (hb hby at_113) ?_
    refine XS.istore X4.here hx rfl (hb hby at_114) rfl (l' := #[own_jv p0, .second, own_jv p1, .second, own_jv p2, .second, own_jv p3, .second, iv p4, own_jv m0, .second, own_jv m1, .second, own_jv m0, .second, own_jv m3, .second, rv b0_1, rv b0_3, iv (0 : Int32), iv (0 : Int32)]) rfl ?_
    refine XS.aload X4.here hx rfl (hb hby at_116) rfl rfl ?_
    refine XS.aload X4.here hx rfl (hb hby at_118) rfl rfl ?_
    refine st5.trans ?_
    show Steps p.tables e below (T5.setTop (mkF m 123 #[own_jv p0, .second, own_jv p1, .second, own_jv p2, .second, own_jv p3, .second, iv p4, own_jv m0, .second, own_jv m1, .second, own_jv m0, .second, own_jv m3, .second, rv b0_1, rv b0_3, iv (0 : Int32), iv (0 : Int32)] [(.int (0 : Int32))])) _
    refine XS.iload X5.here hx rfl (hb hby at_123) rfl ?_
    refine XS.icmpNo X5.here hx rfl (hb hby at_125) rfl (teq (by decide +kernel : (0 : Int32) = (0 : Int32))).2 ?_
    refine XS.aload X5.here hx rfl (hb hby at_128) rfl rfl ?_
    refine XS.aload X5.here hx rfl (hb hby at_130) rfl rfl ?_
    refine st10.trans ?_
    refine XS.iload X10.here hx rfl (hb hby at_135) rfl ?_
    refine XS.icmpNo X10.here hx rfl (hb hby at_137) rfl (teq (by decide +kernel : (0 : Int32) = (0 : Int32))).2 ?_
    refine XS.iconst X10.here hx rfl (hb hby at_140) ?_
    show Steps p.tables e below (T10.setTop (mkF m 141 #[own_jv p0, .second, own_jv p1, .second, own_jv p2, .second, own_jv p3, .second, iv p4, own_jv m0, .second, own_jv m1, .second, own_jv m0, .second, own_jv m3, .second, rv b0_1, rv b0_3, iv (0 : Int32), iv (0 : Int32)] [(.int (1 : Int32))])) _
    refine XS.goto X10.here hx rfl (pc0 := 141) (pc' := 145) rfl (hb hby at_141) (by decide) (by decide) ?_
    exact retN X10 hx (t := .boolean) Bd.returns (by simp) (hb hby at_145) hr
  · exact ⟨rfl, N10⟩
def Q_rm1_18 (Z : State) (m0 : Int64) (m1 : Int64) (b0_3 : Addr) (h0 : Heap) (n0 : Nat) (v : Option Value) (h : Heap) (L : List Loc) : Prop := (v = none) ∧ (Fr n0 L) ∧ (Keep h0 h [b0_3]) ∧ (Fld Z h b0_3 "com/example/allotd/allotd/engine/Tokens" "input" "J" (.long m0)) ∧ (Fld Z h b0_3 "com/example/allotd/allotd/engine/Tokens" "output" "J" (.long m1)) ∧ (Exa Z h b0_3 "com/example/allotd/allotd/engine/Tokens")
set_option maxRecDepth 65536 in
set_option maxHeartbeats 40000000 in
theorem rm1_18 (l : Launch) (Z : State) (a0 : Array Value) (hw : ∀ d ∈ tables_1, d.before a0 Z = true) (ws : List Jvm.Cond) (m0 : Int64) (m1 : Int64) (b0_3 : Addr) (h0 : Heap) (n0 : Nat) (Z0 : n0 ≤ h0.size) (hn0 : ¬ (m0 < (0 : Int64))) (hn1 : ¬ (m1 < (0 : Int64))) (E_b0_3 : Exa Z h0 b0_3 "com/example/allotd/allotd/engine/Tokens") (F_b0_3_input : Fld Z h0 b0_3 "com/example/allotd/allotd/engine/Tokens" "input" "J" (.long (0 : Int64))) (g_b0_3 : n0 ≤ b0_3) (F_b0_3_output : Fld Z h0 b0_3 "com/example/allotd/allotd/engine/Tokens" "output" "J" (.long (0 : Int64))) :
    MetFree l (⟨"com/example/allotd/allotd/engine/Tokens", "<init>", "(JJ)V"⟩ : MethodName) (head1 (Jvm.Cond.code (⟨"com/example/allotd/allotd/engine/Tokens", "<init>", "(JJ)V"⟩ : MethodName) prog_21_method_1_code 5 none :: ws) ({ frames := 1, cells := 0, slots := 0, locals := 12 } : Room)) (fun a U => a = #[(.ref b0_3), (.long m0), (.long m1)] ∧ Z.Warmed39 U.vm ∧ U.heap = h0) (fun _ _ _ _ _ => True) (fun _ U o U' => ∃ v L, o = .returned v ∧ Q_rm1_18 Z m0 m1 b0_3 h0 n0 v U'.heap L ∧ FrameEnd U o U' L ({ frames := 1, cells := 0, slots := 0, locals := 12 } : Room).cells ({ frames := 1, cells := 0, slots := 0, locals := 12 } : Room).slots) := by
  refine MetFree.of_bodySF (plainFor_of_name pn_2) hisR ?_
  intro p e s m args below meth c s₁ Bd hml0 hP hK
  obtain ⟨rfl, hZ, hh⟩ := hP
  have hx := Bd.exec
  have hby := Bd.bytes
  have hml : c.maxLocals = 5 := hml0
  have hown : s.vm.findClass "com/example/allotd/allotd/engine/Tokens" = some m.cls := findClass_of_methodNamed Bd.named
  have hnm := (name_of_methodNamed Bd.named Bd.method).1
  have X0 : Stand p l e ({ frames := 1, cells := 0, slots := 0, locals := 12 } : Room) s m #[(.ref b0_3), (.long m0), (.long m1)] below meth c s₁ [] 0 0 := Stand.of_body Bd
  have e0 : s₁.heap = h0 := by rw [← hh, Bd.state]; rfl
  have N0 := Fr.nil n0
  have pre0 : ∀ t, Steps p.tables e below (s₁.setTop (mkF m 0 #[rv b0_3, own_jv m0, .second, own_jv m1, .second] [])) t → Steps p.tables e below (s₁.setTop (entryFrame m #[(.ref b0_3), (.long m0), (.long m1)] 5)) t := fun t k => castTop (ef_1_RJJ m b0_3 m0 m1) k
  obtain ⟨T1, X1, e1, st1⟩ := initO X0 hx hZ hown (hw _ (List.mem_of_getElem? (i := 7) rfl)) (hw _ (List.mem_of_getElem? (i := 8) rfl)) (hw _ (List.mem_of_getElem? (i := 9) rfl)) e0 (g := (mkF m 1 #[rv b0_3, own_jv m0, .second, own_jv m1, .second] [(.ref b0_3)])) rfl (by rw [hml]; rfl) rfl (hb hby d1_1) (by decide) (W := 0) (by show 2 * 0 + _ ≤ _; exact Nat.le_of_eq rfl) (by decide)
  obtain ⟨T2, h2, X2, e2, W2, st2⟩ := putF X1 hx hZ hown (host := "") (Or.inl (hw _ (List.mem_of_getElem? (i := 10) rfl))) Via.refl e1 F_b0_3_input E_b0_3 (Or.inr ⟨(hw _ (List.mem_of_getElem? (i := 11) rfl)), rfl, hnm⟩) (hw _ (List.mem_of_getElem? (i := 2) rfl)) (ty := .long) (by decide) rfl rfl (g := (mkF m 33 #[rv b0_3, own_jv m0, .second, own_jv m1, .second] [(.long m0), (.ref b0_3)])) rfl rfl (hb hby d1_33)
  have fw2 : Fld Z h2 b0_3 "com/example/allotd/allotd/engine/Tokens" "input" "J" (.long m0) := F_b0_3_input.same W2
  have Z2 : n0 ≤ h2.size := Nat.le_trans Z0 (Keep.of_wr W2).1
  have KK2 : Keep h0 h2 [b0_3] := (Keep.refl h0 [b0_3]).wr W2 (Or.inl (List.mem_of_getElem? (i := 0) rfl))
  have N2 := Fr.snoc X2 N0 g_b0_3
  have c3 := (E_b0_3.wr W2)
  have c4 := (F_b0_3_output.other W2 (Or.inr (slot_ne (Or.inr (hw _ (List.mem_of_getElem? (i := 13) rfl))) (Or.inr (hw _ (List.mem_of_getElem? (i := 11) rfl))) (by decide) (t := .long) (t' := .long) (by decide) (by decide))))
  obtain ⟨T5, h5, X5, e5, W5, st5⟩ := putF X2 hx hZ hown (host := "") (Or.inl (hw _ (List.mem_of_getElem? (i := 12) rfl))) Via.refl e2 c4 c3 (Or.inr ⟨(hw _ (List.mem_of_getElem? (i := 13) rfl)), rfl, hnm⟩) (hw _ (List.mem_of_getElem? (i := 2) rfl)) (ty := .long) (by decide) rfl rfl (g := (mkF m 38 #[rv b0_3, own_jv m0, .second, own_jv m1, .second] [(.long m1), (.ref b0_3)])) rfl rfl (hb hby d1_38)
  have fw5 : Fld Z h5 b0_3 "com/example/allotd/allotd/engine/Tokens" "output" "J" (.long m1) := c4.same W5
  have Z5 : n0 ≤ h5.size := Nat.le_trans Z2 (Keep.of_wr W5).1
  have KK5 : Keep h0 h5 [b0_3] := KK2.wr W5 (Or.inl (List.mem_of_getElem? (i := 0) rfl))
  have N5 := Fr.snoc X5 N2 g_b0_3
  have c6 := (fw2.other W5 (Or.inr (slot_ne (Or.inr (hw _ (List.mem_of_getElem? (i := 11) rfl))) (Or.inr (hw _ (List.mem_of_getElem? (i := 13) rfl))) (by decide) (t := .long) (t' := .long) (by decide) (by decide))))
  have c7 := (c3.wr W5)
  obtain ⟨fs, hr, hrun, hended, hW, hsame⟩ := X5.leave (v := none) (fun _ => rfl)
  refine ⟨_, _, pre0 _ ?_, hrun, hended, _, _, rfl, ?_, ⟨_, rfl⟩, hW, hsame.mono (by decide) (by decide)⟩
  · show Steps p.tables e below (s₁.setTop (mkF m 0 #[rv b0_3, own_jv m0, .second, own_jv m1, .second] [])) _
    refine XS.aloadN X0.here hx rfl (hb hby d1_0) rfl rfl ?_
    refine st1 _ ?_
    refine XS.lloadN X1.here hx rfl (hb hby d1_4) rfl ?_
    refine XS.lconst X1.here hx rfl (hb hby d1_5) ?_
    refine XS.lcmp X1.here hx rfl (hb hby d1_6) rfl ?_
    refine XS.ifNo X1.here hx rfl (hb hby d1_7) rfl ((if0 _ _).trans ((if0 _ _).symm.trans (Jvm.Free.XT.ll_lt_f hn0))) ?_
    refine XS.lloadN X1.here hx rfl (hb hby d1_10) rfl ?_
    refine XS.lconst X1.here hx rfl (hb hby d1_11) ?_
    show Steps p.tables e below (T1.setTop (mkF m 12 #[rv b0_3, own_jv m0, .second, own_jv m1, .second] [(.long (0 : Int64)), (.long m1)])) _
    refine XS.lcmp X1.here hx rfl (hb hby d1_12) rfl ?_
    refine XS.ifYes X1.here hx rfl (pc0 := 13) (pc' := 31) rfl (hb hby d1_13) rfl ((if0 _ _).trans ((if0 _ _).symm.trans (Jvm.Free.XT.ll_ge_t hn1))) (by decide) (by decide) ?_
    refine XS.aloadN X1.here hx rfl (hb hby d1_31) rfl rfl ?_
    refine XS.lloadN X1.here hx rfl (hb hby d1_32) rfl ?_
    refine st2 _ ?_
    refine XS.aloadN X2.here hx rfl (hb hby d1_36) rfl rfl ?_
    refine XS.lloadN X2.here hx rfl (hb hby d1_37) rfl ?_
    refine st5 _ ?_
    show Steps p.tables e below (T5.setTop (mkF m 41 #[rv b0_3, own_jv m0, .second, own_jv m1, .second] [])) _
    exact X5.returnOut hx Bd.returns (hb hby d1_41) hr
  · exact (by show Q_rm1_18 Z m0 m1 b0_3 h0 n0 _ T5.heap _; rw [e5]; exact ⟨rfl, N5, KK5, c6, fw5, c7⟩)
set_option maxRecDepth 65536 in
set_option maxHeartbeats 40000000 in
theorem rm3_19 (l : Launch) (Z : State) (a0 : Array Value) (hw : ∀ d ∈ tables_1, d.before a0 Z = true) (ws : List Jvm.Cond) (m0 : Int64) (m1 : Int64) (b0_1 : Addr) (b0_3 : Addr) (h0 : Heap) (n0 : Nat) (Z0 : n0 ≤ h0.size) (E_b0_3 : Exa Z h0 b0_3 "com/example/allotd/allotd/engine/Tokens") (F_b0_3_input : Fld Z h0 b0_3 "com/example/allotd/allotd/engine/Tokens" "input" "J" (.long m0)) (F_b0_1_input : Fld Z h0 b0_1 "com/example/allotd/allotd/engine/Tokens" "input" "J" (.long m0)) (F_b0_3_output : Fld Z h0 b0_3 "com/example/allotd/allotd/engine/Tokens" "output" "J" (.long m1)) (F_b0_1_output : Fld Z h0 b0_1 "com/example/allotd/allotd/engine/Tokens" "output" "J" (.long m1)) :
    MetFree l (⟨"com/example/allotd/allotd/engine/Tokens", "equals", "(Ljava/lang/Object;)Z"⟩ : MethodName) (head1 (Jvm.Cond.code (⟨"com/example/allotd/allotd/engine/Tokens", "equals", "(Ljava/lang/Object;)Z"⟩ : MethodName) prog_21_method_4_code 3 (some .boolean) :: ws) ({ frames := 0, cells := 0, slots := 0, locals := 0 } : Room)) (fun a U => a = #[(.ref b0_1), (.ref b0_3)] ∧ Z.Warmed39 U.vm ∧ U.heap = h0) (fun _ _ _ _ _ => True) (fun _ U o U' => ∃ v L, o = .returned v ∧ own_QP (some (.int (1 : Int32))) h0 n0 v U'.heap L ∧ FrameEnd U o U' L ({ frames := 0, cells := 0, slots := 0, locals := 0 } : Room).cells ({ frames := 0, cells := 0, slots := 0, locals := 0 } : Room).slots) := by
  refine MetFree.of_bodySF (plainFor_of_name pn_2) hisR ?_
  intro p e s m args below meth c s₁ Bd hml0 hP hK
  obtain ⟨rfl, hZ, hh⟩ := hP
  have hx := Bd.exec
  have hby := Bd.bytes
  have hml : c.maxLocals = 3 := hml0
  have hown : s.vm.findClass "com/example/allotd/allotd/engine/Tokens" = some m.cls := findClass_of_methodNamed Bd.named
  have hnm := (name_of_methodNamed Bd.named Bd.method).1
  have X0 : Stand p l e ({ frames := 0, cells := 0, slots := 0, locals := 0 } : Room) s m #[(.ref b0_1), (.ref b0_3)] below meth c s₁ [] 0 0 := Stand.of_body Bd
  have e0 : s₁.heap = h0 := by rw [← hh, Bd.state]; rfl
  have N0 := Fr.nil n0
  have pre0 : ∀ t, Steps p.tables e below (s₁.setTop (mkF m 0 #[rv b0_1, rv b0_3, .unset] [])) t → Steps p.tables e below (s₁.setTop (entryFrame m #[(.ref b0_1), (.ref b0_3)] 3)) t := fun t k => castTop (ef_3_RR m b0_1 b0_3) k
  obtain ⟨T1, X1, e1, st1⟩ := instY X0 hx hZ hown (hw _ (List.mem_of_getElem? (i := 19) rfl)) e0 (Ins.self E_b0_3) (g := (mkF m 1 #[rv b0_1, rv b0_3, .unset] [(.ref b0_3)])) rfl rfl (hb hby d3_1)
  obtain ⟨T2, X2, e2, st2⟩ := castY X1 hx hZ hown (hw _ (List.mem_of_getElem? (i := 19) rfl)) e1 (Ins.self E_b0_3) (g := (mkF m 8 #[rv b0_1, rv b0_3, .unset] [(.ref b0_3)])) rfl rfl (hb hby d3_8)
  obtain ⟨T3, X3, e3, st3⟩ := getF X2 hx hZ hown (host := "") (Or.inl (hw _ (List.mem_of_getElem? (i := 10) rfl))) Via.refl e2 F_b0_3_input (g := (mkF m 13 #[rv b0_1, rv b0_3, rv b0_3] [(.ref b0_3)])) rfl rfl (hb hby d3_13)
  obtain ⟨T4, X4, e4, st4⟩ := getF X3 hx hZ hown (host := "") (Or.inl (hw _ (List.mem_of_getElem? (i := 10) rfl))) Via.refl e3 F_b0_1_input (g := (mkF m 17 #[rv b0_1, rv b0_3, rv b0_3] [(.ref b0_1), (.long m0)])) rfl rfl (hb hby d3_17)
  obtain ⟨T5, X5, e5, st5⟩ := getF X4 hx hZ hown (host := "") (Or.inl (hw _ (List.mem_of_getElem? (i := 12) rfl))) Via.refl e4 F_b0_3_output (g := (mkF m 25 #[rv b0_1, rv b0_3, rv b0_3] [(.ref b0_3)])) rfl rfl (hb hby d3_25)
  obtain ⟨T6, X6, e6, st6⟩ := getF X5 hx hZ hown (host := "") (Or.inl (hw _ (List.mem_of_getElem? (i := 12) rfl))) Via.refl e5 F_b0_1_output (g := (mkF m 29 #[rv b0_1, rv b0_3, rv b0_3] [(.ref b0_1), (.long m1)])) rfl rfl (hb hby d3_29)
  obtain ⟨fs, hr, hrun, hended, hW, hsame⟩ := X6.leave (v := (some (.int (1 : Int32)))) (fun h => by rw [Bd.returns] at h; cases h)
  refine ⟨_, _, pre0 _ ?_, hrun, hended, _, _, rfl, ?_, ⟨_, rfl⟩, hW, hsame.mono (by decide) (by decide)⟩
  · show Steps p.tables e below (s₁.setTop (mkF m 0 #[rv b0_1, rv b0_3, .unset] [])) _
    refine XS.aloadN X0.here hx rfl (hb hby d3_0) rfl rfl ?_
    refine st1 _ ?_
    refine XS.ifNo X1.here hx rfl (hb hby d3_4) rfl ((if0 _ _).trans (feq (by decide +kernel : ¬ ((1 : Int32) = (0 : Int32)))).1) ?_
    refine XS.aloadN X1.here hx rfl (hb hby d3_7) rfl rfl ?_
    refine st2 _ ?_
    refine XS.astoreN X2.here hx rfl (hb hby d3_11) rfl rfl (l' := #[rv b0_1, rv b0_3, rv b0_3]) rfl ?_
    refine XS.aloadN X2.here hx rfl (hb hby d3_12) rfl rfl ?_
    refine st3 _ ?_
    show Steps p.tables e below (T3.setTop (mkF m 16 #[rv b0_1, rv b0_3, rv b0_3] [(.long m0)])) _
    refine XS.aloadN X3.here hx rfl (hb hby d3_16) rfl rfl ?_
    refine st4 _ ?_
    refine XS.lcmp X4.here hx rfl (hb hby d3_20) rfl ?_
    refine XS.ifNo X4.here hx rfl (hb hby d3_21) rfl ((if0 _ _).trans ((if0 _ _).symm.trans (Jvm.Free.XT.ll_ne_f rfl))) ?_
    refine XS.aloadN X4.here hx rfl (hb hby d3_24) rfl rfl ?_
    refine st5 _ ?_
    refine XS.aloadN X5.here hx rfl (hb hby d3_28) rfl rfl ?_
    refine st6 _ ?_
    show Steps p.tables e below (T6.setTop (mkF m 32 #[rv b0_1, rv b0_3, rv b0_3] [(.long m1), (.long m1)])) _
    refine XS.lcmp X6.here hx rfl (hb hby d3_32) rfl ?_
    refine XS.ifNo X6.here hx rfl (hb hby d3_33) rfl ((if0 _ _).trans ((if0 _ _).symm.trans (Jvm.Free.XT.ll_ne_f rfl))) ?_
    refine XS.iconst X6.here hx rfl (hb hby d3_36) ?_
    refine XS.goto X6.here hx rfl (pc0 := 37) (pc' := 41) rfl (hb hby d3_37) (by decide) (by decide) ?_
    exact retN X6 hx (t := .boolean) Bd.returns (by simp) (hb hby d3_41) hr
  · exact ⟨rfl, N0, e6⟩
set_option maxRecDepth 65536 in
set_option maxHeartbeats 40000000 in
theorem rm3_20 (l : Launch) (Z : State) (a0 : Array Value) (hw : ∀ d ∈ tables_1, d.before a0 Z = true) (ws : List Jvm.Cond) (m0 : Int64) (m1 : Int64) (b0_1 : Addr) (b0_3 : Addr) (h0 : Heap) (n0 : Nat) (Z0 : n0 ≤ h0.size) (E_b0_1 : Exa Z h0 b0_1 "com/example/allotd/allotd/engine/Tokens") (F_b0_1_input : Fld Z h0 b0_1 "com/example/allotd/allotd/engine/Tokens" "input" "J" (.long m0)) (F_b0_3_input : Fld Z h0 b0_3 "com/example/allotd/allotd/engine/Tokens" "input" "J" (.long m0)) (F_b0_1_output : Fld Z h0 b0_1 "com/example/allotd/allotd/engine/Tokens" "output" "J" (.long m1)) (F_b0_3_output : Fld Z h0 b0_3 "com/example/allotd/allotd/engine/Tokens" "output" "J" (.long m1)) :
    MetFree l (⟨"com/example/allotd/allotd/engine/Tokens", "equals", "(Ljava/lang/Object;)Z"⟩ : MethodName) (head1 (Jvm.Cond.code (⟨"com/example/allotd/allotd/engine/Tokens", "equals", "(Ljava/lang/Object;)Z"⟩ : MethodName) prog_21_method_4_code 3 (some .boolean) :: ws) ({ frames := 0, cells := 0, slots := 0, locals := 0 } : Room)) (fun a U => a = #[(.ref b0_3), (.ref b0_1)] ∧ Z.Warmed39 U.vm ∧ U.heap = h0) (fun _ _ _ _ _ => True) (fun _ U o U' => ∃ v L, o = .returned v ∧ own_QP (some (.int (1 : Int32))) h0 n0 v U'.heap L ∧ FrameEnd U o U' L ({ frames := 0, cells := 0, slots := 0, locals := 0 } : Room).cells ({ frames := 0, cells := 0, slots := 0, locals := 0 } : Room).slots) := by
  refine MetFree.of_bodySF (plainFor_of_name pn_2) hisR ?_
  intro p e s m args below meth c s₁ Bd hml0 hP hK
  obtain ⟨rfl, hZ, hh⟩ := hP
  have hx := Bd.exec
  have hby := Bd.bytes
  have hml : c.maxLocals = 3 := hml0
  have hown : s.vm.findClass "com/example/allotd/allotd/engine/Tokens" = some m.cls := findClass_of_methodNamed Bd.named
  have hnm := (name_of_methodNamed Bd.named Bd.method).1
  have X0 : Stand p l e ({ frames := 0, cells := 0, slots := 0, locals := 0 } : Room) s m #[(.ref b0_3), (.ref b0_1)] below meth c s₁ [] 0 0 := Stand.of_body Bd
  have e0 : s₁.heap = h0 := by rw [← hh, Bd.state]; rfl
  have N0 := Fr.nil n0
  have pre0 : ∀ t, Steps p.tables e below (s₁.setTop (mkF m 0 #[rv b0_3, rv b0_1, .unset] [])) t → Steps p.tables e below (s₁.setTop (entryFrame m #[(.ref b0_3), (.ref b0_1)] 3)) t := fun t k => castTop (ef_3_RR m b0_3 b0_1) k
  obtain ⟨T1, X1, e1, st1⟩ := instY X0 hx hZ hown (hw _ (List.mem_of_getElem? (i := 19) rfl)) e0 (Ins.self E_b0_1) (g := (mkF m 1 #[rv b0_3, rv b0_1, .unset] [(.ref b0_1)])) rfl rfl (hb hby d3_1)
  obtain ⟨T2, X2, e2, st2⟩ := castY X1 hx hZ hown (hw _ (List.mem_of_getElem? (i := 19) rfl)) e1 (Ins.self E_b0_1) (g := (mkF m 8 #[rv b0_3, rv b0_1, .unset] [(.ref b0_1)])) rfl rfl (hb hby d3_8)
  obtain ⟨T3, X3, e3, st3⟩ := getF X2 hx hZ hown (host := "") (Or.inl (hw _ (List.mem_of_getElem? (i := 10) rfl))) Via.refl e2 F_b0_1_input (g := (mkF m 13 #[rv b0_3, rv b0_1, rv b0_1] [(.ref b0_1)])) rfl rfl (hb hby d3_13)
  obtain ⟨T4, X4, e4, st4⟩ := getF X3 hx hZ hown (host := "") (Or.inl (hw _ (List.mem_of_getElem? (i := 10) rfl))) Via.refl e3 F_b0_3_input (g := (mkF m 17 #[rv b0_3, rv b0_1, rv b0_1] [(.ref b0_3), (.long m0)])) rfl rfl (hb hby d3_17)
  obtain ⟨T5, X5, e5, st5⟩ := getF X4 hx hZ hown (host := "") (Or.inl (hw _ (List.mem_of_getElem? (i := 12) rfl))) Via.refl e4 F_b0_1_output (g := (mkF m 25 #[rv b0_3, rv b0_1, rv b0_1] [(.ref b0_1)])) rfl rfl (hb hby d3_25)
  obtain ⟨T6, X6, e6, st6⟩ := getF X5 hx hZ hown (host := "") (Or.inl (hw _ (List.mem_of_getElem? (i := 12) rfl))) Via.refl e5 F_b0_3_output (g := (mkF m 29 #[rv b0_3, rv b0_1, rv b0_1] [(.ref b0_3), (.long m1)])) rfl rfl (hb hby d3_29)
  obtain ⟨fs, hr, hrun, hended, hW, hsame⟩ := X6.leave (v := (some (.int (1 : Int32)))) (fun h => by rw [Bd.returns] at h; cases h)
  refine ⟨_, _, pre0 _ ?_, hrun, hended, _, _, rfl, ?_, ⟨_, rfl⟩, hW, hsame.mono (by decide) (by decide)⟩
  · show Steps p.tables e below (s₁.setTop (mkF m 0 #[rv b0_3, rv b0_1, .unset] [])) _
    refine XS.aloadN X0.here hx rfl (hb hby d3_0) rfl rfl ?_
    refine st1 _ ?_
    refine XS.ifNo X1.here hx rfl (hb hby d3_4) rfl ((if0 _ _).trans (feq (by decide +kernel : ¬ ((1 : Int32) = (0 : Int32)))).1) ?_
    refine XS.aloadN X1.here hx rfl (hb hby d3_7) rfl rfl ?_
    refine st2 _ ?_
    refine XS.astoreN X2.here hx rfl (hb hby d3_11) rfl rfl (l' := #[rv b0_3, rv b0_1, rv b0_1]) rfl ?_
    refine XS.aloadN X2.here hx rfl (hb hby d3_12) rfl rfl ?_
    refine st3 _ ?_
    show Steps p.tables e below (T3.setTop (mkF m 16 #[rv b0_3, rv b0_1, rv b0_1] [(.long m0)])) _
    refine XS.aloadN X3.here hx rfl (hb hby d3_16) rfl rfl ?_
    refine st4 _ ?_
    refine XS.lcmp X4.here hx rfl (hb hby d3_20) rfl ?_
    refine XS.ifNo X4.here hx rfl (hb hby d3_21) rfl ((if0 _ _).trans ((if0 _ _).symm.trans (Jvm.Free.XT.ll_ne_f rfl))) ?_
    refine XS.aloadN X4.here hx rfl (hb hby d3_24) rfl rfl ?_
    refine st5 _ ?_
    refine XS.aloadN X5.here hx rfl (hb hby d3_28) rfl rfl ?_
    refine st6 _ ?_
    show Steps p.tables e below (T6.setTop (mkF m 32 #[rv b0_3, rv b0_1, rv b0_1] [(.long m1), (.long m1)])) _
    refine XS.lcmp X6.here hx rfl (hb hby d3_32) rfl ?_
    refine XS.ifNo X6.here hx rfl (hb hby d3_33) rfl ((if0 _ _).trans ((if0 _ _).symm.trans (Jvm.Free.XT.ll_ne_f rfl))) ?_
    refine XS.iconst X6.here hx rfl (hb hby d3_36) ?_
    refine XS.goto X6.here hx rfl (pc0 := 37) (pc' := 41) rfl (hb hby d3_37) (by decide) (by decide) ?_
    exact retN X6 hx (t := .boolean) Bd.returns (by simp) (hb hby d3_41) hr
  · exact ⟨rfl, N0, e6⟩
set_option maxRecDepth 65536 in
set_option maxHeartbeats 40000000 in
theorem rm0_8 (l : Launch) (Z : State) (a0 : Array Value) (hw : ∀ d ∈ tables_1, d.before a0 Z = true) (ws : List Jvm.Cond) (p0 : Int64) (p1 : Int64) (p2 : Int64) (p3 : Int64) (p4 : Int32) (m0 : Int64) (m1 : Int64) (h0 : Heap) (n0 : Nat) (Z0 : n0 ≤ h0.size) (hm0 : (p0 &&& (9223372036854775807 : Int64)) = m0) (hm1 : (p1 &&& (9223372036854775807 : Int64)) = m1) (hk1 : (p4 &&& (1 : Int32)) = (1 : Int32)) (hk2 : ¬ ((p4 &&& (2 : Int32)) = (0 : Int32))) (hn0 : ¬ (m0 < (0 : Int64))) (hn1 : ¬ (m1 < (0 : Int64))) (hkk : (((p4.toUInt32 >>> ((2 : Int32) &&& 31).toUInt32).toInt32) &&& (3 : Int32)) = (0 : Int32)) :
    MetFree l x (head1 (Jvm.Cond.code x code maxLocals ret :: ws) room_1) (fun a U => a = #[(.long p0), (.long p1), (.long p2), (.long p3), (.int p4)] ∧ Z.Warmed39 U.vm ∧ U.heap = h0) (fun _ _ _ _ _ => True) (fun _ U o U' => ∃ v L, o = .returned v ∧ own_QL n0 v U'.heap L ∧ FrameEnd U o U' L room_1.cells room_1.slots) := by
  refine MetFree.of_bodySF (plainFor_of_name pn_3) hisR ?_
  intro p e s m args below meth c s₁ Bd hml0 hP hK
  obtain ⟨rfl, hZ, hh⟩ := hP
  have hx := Bd.exec
  have hby := Bd.bytes
  have hml : c.maxLocals = 21 := hml0
  have hown : s.vm.findClass "com/example/allotd/allotd/engine/TokensEqualsPinLaw" = some m.cls := findClass_of_methodNamed Bd.named
  have hnm := (name_of_methodNamed Bd.named Bd.method).1
  have X0 : Stand p l e room_1 s m #[(.long p0), (.long p1), (.long p2), (.long p3), (.int p4)] below meth c s₁ [] 0 0 := Stand.of_body Bd
  have e0 : s₁.heap = h0 := by rw [← hh, Bd.state]; rfl
  have N0 := Fr.nil n0
  have pre0 : ∀ t, Steps p.tables e below (s₁.setTop (mkF m 0 #[own_jv p0, .second, own_jv p1, .second, own_jv p2, .second, own_jv p3, .second, iv p4, .unset, .unset, .unset, .unset, .unset, .unset, .unset, .unset, .unset, .unset, .unset, .unset] [])) t → Steps p.tables e below (s₁.setTop (entryFrame m #[(.long p0), (.long p1), (.long p2), (.long p3), (.int p4)] maxLocals)) t := fun t k => castTop (ef_0_JJJJI m p0 p1 p2 p3 p4) k
  obtain ⟨T1, h1, X1, e1, E1, A1, D1, -, st1⟩ := newO X0 hx hZ hown (hw _ (List.mem_of_getElem? (i := 1) rfl)) (hw _ (List.mem_of_getElem? (i := 2) rfl)) (hw _ (List.mem_of_getElem? (i := 3) rfl)) e0 (g := (mkF m 54 #[own_jv p0, .second, own_jv p1, .second, own_jv p2, .second, own_jv p3, .second, iv p4, own_jv m0, .second, own_jv m1, .second, own_jv m0, .second, own_jv m1, .second, .unset, .unset, .unset, .unset] [])) rfl (hb hby at_54) (by decide) (by decide)
  obtain ⟨b0_1, gg1⟩ : ∃ z, z = h0.size := ⟨_, rfl⟩
  rw [← gg1] at A1 D1 st1
  have g_b0_1 : n0 ≤ b0_1 := Nat.le_trans Z0 (Nat.le_of_eq gg1.symm)
  have sz_b0_1 : h0.size ≤ b0_1 := Nat.le_trans (Keep.refl h0 []).1 (Nat.le_of_eq gg1.symm)
  have Z1 : n0 ≤ h1.size := Nat.le_trans Z0 E1.1
  have KK1 : Keep h0 h1 [] := (Keep.refl h0 []).ext E1
  have E_b0_1 : Exa Z h1 b0_1 "com/example/allotd/allotd/engine/Tokens" := A1
  have F_b0_1_input : Fld Z h1 b0_1 "com/example/allotd/allotd/engine/Tokens" "input" "J" (.long (0 : Int64)) := D1 (Or.inr (hw _ (List.mem_of_getElem? (i := 11) rfl))) (ty := .long) (by decide)
  have F_b0_1_output : Fld Z h1 b0_1 "com/example/allotd/allotd/engine/Tokens" "output" "J" (.long (0 : Int64)) := D1 (Or.inr (hw _ (List.mem_of_getElem? (i := 13) rfl))) (ty := .long) (by decide)
  obtain ⟨_, _, ⟨T2, L2, k2, n2⟩, -, X2, ⟨Lc2, hQ2, l2, y2, z2⟩, st2⟩ := X1.specialBack hx (y := (⟨"com/example/allotd/allotd/engine/Tokens", "<init>", "(JJ)V"⟩ : MethodName)) rfl hown (mvT hZ (hw _ (List.mem_of_getElem? (i := 4) rfl))) (mvT hZ (hw _ (List.mem_of_getElem? (i := 5) rfl))) (mvT hZ (hw _ (List.mem_of_getElem? (i := 6) rfl))) (by decide) (backOf (W := 1) (rm1_2 l Z a0 hw [] m0 m1 b0_1 h1 n0 Z1 hn0 hn1 E_b0_1 F_b0_1_input g_b0_1 F_b0_1_output) hZ (hw _ (List.mem_of_getElem? (i := 6) rfl)) (hw _ (List.mem_of_getElem? (i := 3) rfl)) (by decide) (by decide)) (g := (mkF m 62 #[own_jv p0, .second, own_jv p1, .second, own_jv p2, .second, own_jv p3, .second, iv p4, own_jv m0, .second, own_jv m1, .second, own_jv m0, .second, own_jv m1, .second, .unset, .unset, .unset, .unset] [(.long m1), (.long m0), (.ref b0_1), (.ref b0_1)])) rfl (by rw [hml]; rfl) (Steps.refl _) (a := b0_1) (argsL := [(.long m0), (.long m1)]) (rest := [(.ref b0_1)]) (lenOf pd_2 rfl) rfl (by show 2 * 0 + _ ≤ _; exact Nat.le_of_eq rfl) (hb hby at_62) (fun _ _ => ⟨rfl, e1, (by decide : 1 + 0 ≤ _), (by decide : 2 + 0 ≤ _)⟩)
  dsimp only [Pt.U, Pt.locs, Pt.cells, Pt.slots] at X2 l2 y2 z2 st2 hQ2
  subst l2 y2 z2
  obtain ⟨rfl, N2q, K2, fq2_0, fq2_1, fq2_2⟩ := hQ2
  have KK2 : Keep h0 T2.heap [] := KK1.trans K2 (allS (P := fun x => x ∈ [] ∨ h0.size ≤ x) (Or.inr sz_b0_1) all0)
  have Z2 : n0 ≤ T2.heap.size := Nat.le_trans Z1 K2.1
  have N2 := Fr.app N0 N2q
  obtain ⟨T3, h3, X3, e3, E3, A3, D3, -, st3⟩ := newO X2 hx hZ hown (hw _ (List.mem_of_getElem? (i := 1) rfl)) (hw _ (List.mem_of_getElem? (i := 2) rfl)) (hw _ (List.mem_of_getElem? (i := 3) rfl)) rfl (g := (mkF m 67 #[own_jv p0, .second, own_jv p1, .second, own_jv p2, .second, own_jv p3, .second, iv p4, own_jv m0, .second, own_jv m1, .second, own_jv m0, .second, own_jv m1, .second, rv b0_1, .unset, .unset, .unset] [])) rfl (hb hby at_67) (by decide) (by decide)
  obtain ⟨b0_3, gg3⟩ : ∃ z, z = T2.heap.size := ⟨_, rfl⟩
  rw [← gg3] at A3 D3 st3
  have g_b0_3 : n0 ≤ b0_3 := Nat.le_trans Z2 (Nat.le_of_eq gg3.symm)
  have sz_b0_3 : h0.size ≤ b0_3 := Nat.le_trans KK2.1 (Nat.le_of_eq gg3.symm)
  have Z3 : n0 ≤ h3.size := Nat.le_trans Z2 E3.1
  have KK3 : Keep h0 h3 [] := KK2.ext E3
  have E_b0_3 : Exa Z h3 b0_3 "com/example/allotd/allotd/engine/Tokens" := A3
  have F_b0_3_input : Fld Z h3 b0_3 "com/example/allotd/allotd/engine/Tokens" "input" "J" (.long (0 : Int64)) := D3 (Or.inr (hw _ (List.mem_of_getElem? (i := 11) rfl))) (ty := .long) (by decide)
  have F_b0_3_output : Fld Z h3 b0_3 "com/example/allotd/allotd/engine/Tokens" "output" "J" (.long (0 : Int64)) := D3 (Or.inr (hw _ (List.mem_of_getElem? (i := 13) rfl))) (ty := .long) (by decide)
  obtain ⟨_, _, ⟨T4, L4, k4, n4⟩, -, X4, ⟨Lc4, hQ4, l4, y4, z4⟩, st4⟩ := X3.specialBack hx (y := (⟨"com/example/allotd/allotd/engine/Tokens", "<init>", "(JJ)V"⟩ : MethodName)) rfl hown (mvT hZ (hw _ (List.mem_of_getElem? (i := 4) rfl))) (mvT hZ (hw _ (List.mem_of_getElem? (i := 5) rfl))) (mvT hZ (hw _ (List.mem_of_getElem? (i := 6) rfl))) (by decide) (backOf (W := 1) (rm1_18 l Z a0 hw [] m0 m1 b0_3 h3 n0 Z3 hn0 hn1 E_b0_3 F_b0_3_input g_b0_3 F_b0_3_output) hZ (hw _ (List.mem_of_getElem? (i := 6) rfl)) (hw _ (List.mem_of_getElem? (i := 3) rfl)) (by decide) (by decide)) (g := (mkF m 75 #[own_jv p0, .second, own_jv p1, .second, own_jv p2, .second, own_jv p3, .second, iv p4, own_jv m0, .second, own_jv m1, .second, own_jv m0, .second, own_jv m1, .second, rv b0_1, .unset, .unset, .unset] [(.long m1), (.long m0), (.ref b0_3), (.ref b0_3)])) rfl (by rw [hml]; rfl) (Steps.refl _) (a := b0_3) (argsL := [(.long m0), (.long m1)]) (rest := [(.ref b0_3)]) (lenOf pd_2 rfl) rfl (by show 2 * 0 + _ ≤ _; exact Nat.le_of_eq rfl) (hb hby at_75) (fun _ _ => ⟨rfl, e3, (by decide : 2 + 0 ≤ _), (by decide : 4 + 0 ≤ _)⟩)
  dsimp only [Pt.U, Pt.locs, Pt.cells, Pt.slots] at X4 l4 y4 z4 st4 hQ4
  subst l4 y4 z4
  obtain ⟨rfl, N4q, K4, fq4_0, fq4_1, fq4_2⟩ := hQ4
  have KK4 : Keep h0 T4.heap [] := KK3.trans K4 (allS (P := fun x => x ∈ [] ∨ h0.size ≤ x) (Or.inr sz_b0_3) all0)
  have Z4 : n0 ≤ T4.heap.size := Nat.le_trans Z3 K4.1
  have N4 := Fr.app N2 N4q
  have ne_b0_1_b0_3_6 : ¬ (b0_1 = b0_3) := (Nat.ne_of_lt (Nat.lt_of_lt_of_le ((E_b0_1.keep K2)).lt (Nat.le_of_eq gg3.symm)))
  have c7 := ((fq2_0.ext E3).keep K4 (ninS ne_b0_1_b0_3_6 nin0))
  have c8 := ((fq2_1.ext E3).keep K4 (ninS ne_b0_1_b0_3_6 nin0))
  have c9 := ((fq2_2.ext E3).keep K4)
  obtain ⟨cq5, kq5, q5a, q5b, q5c⟩ := isOf hZ rfl c9
  obtain ⟨_, _, ⟨T5, L5, k5, n5⟩, -, X5, ⟨Lc5, hQ5, l5, y5, z5⟩, st5⟩ := X4.virtualBack hx (y := (⟨"com/example/allotd/allotd/engine/Tokens", "equals", "(Ljava/lang/Object;)Z"⟩ : MethodName)) (z := (⟨"com/example/allotd/allotd/engine/Tokens", "equals", "(Ljava/lang/Object;)Z"⟩ : MethodName)) hown (mvT hZ (hw _ (List.mem_of_getElem? (i := 14) rfl))) (mvT hZ (hw _ (List.mem_of_getElem? (i := 15) rfl))) (notFace_of_selects (args := #[]) (mvT hZ (hw _ (List.mem_of_getElem? (i := 17) rfl)))) (mvT hZ (hw _ (List.mem_of_getElem? (i := 17) rfl))) (mvT hZ (hw _ (List.mem_of_getElem? (i := 16) rfl))) (by decide) (backOf (W := 0) (rm3_19 l Z a0 hw [] m0 m1 b0_1 b0_3 T4.heap n0 Z4 fq4_2 fq4_0 c7 fq4_1 c8) hZ (hw _ (List.mem_of_getElem? (i := 18) rfl)) (hw _ (List.mem_of_getElem? (i := 3) rfl)) (by decide) (by decide)) q5a q5c (g := (mkF m 120 #[own_jv p0, .second, own_jv p1, .second, own_jv p2, .second, own_jv p3, .second, iv p4, own_jv m0, .second, own_jv m1, .second, own_jv m0, .second, own_jv m1, .second, rv b0_1, rv b0_3, iv (0 : Int32), iv (1 : Int32)] [(.ref b0_3), (.ref b0_1)])) rfl (by rw [hml]; rfl) (Steps.refl _) (argsL := [(.ref b0_3)]) (rest := []) (lenOf pd_3 rfl) rfl (by show 2 * 0 + _ ≤ _; exact Nat.le_of_eq rfl) (hb hby at_120) (fun _ _ => ⟨rfl, rfl, (by decide : 2 + 0 ≤ _), (by decide : 4 + 0 ≤ _)⟩)
  dsimp only [Pt.U, Pt.locs, Pt.cells, Pt.slots] at X5 l5 y5 z5 st5 hQ5
  subst l5 y5 z5
  obtain ⟨rfl, N5q, e5⟩ := hQ5
  have N5 := Fr.app N4 N5q
  obtain ⟨cq10, kq10, q10a, q10b, q10c⟩ := isOf hZ e5 fq4_2
  obtain ⟨_, _, ⟨T10, L10, k10, n10⟩, -, X10, ⟨Lc10, hQ10, l10, y10, z10⟩, st10⟩ := X5.virtualBack hx (y := (⟨"com/example/allotd/allotd/engine/Tokens", "equals", "(Ljava/lang/Object;)Z"⟩ : MethodName)) (z := (⟨"com/example/allotd/allotd/engine/Tokens", "equals", "(Ljava/lang/Object;)Z"⟩ : MethodName)) hown (mvT hZ (hw _ (List.mem_of_getElem? (i := 14) rfl))) (mvT hZ (hw _ (List.mem_of_getElem? (i := 15) rfl))) (notFace_of_selects (args := #[]) (mvT hZ (hw _ (List.mem_of_getElem? (i := 17) rfl)))) (mvT hZ (hw _ (List.mem_of_getElem? (i := 17) rfl))) (mvT hZ (hw _ (List.mem_of_getElem? (i := 16) rfl))) (by decide) (backOf (W := 0) (rm3_20 l Z a0 hw [] m0 m1 b0_1 b0_3 T4.heap n0 Z4 c9 c7 fq4_0 c8 fq4_1) hZ (hw _ (List.mem_of_getElem? (i := 18) rfl)) (hw _ (List.mem_of_getElem? (i := 3) rfl)) (by decide) (by decide)) q10a q10c (g := (mkF m 132 #[own_jv p0, .second, own_jv p1, .second, own_jv p2, .second, own_jv p3, .second, iv p4, own_jv m0, .second, own_jv m1, .second, own_jv m0, .second, own_jv m1, .second, rv b0_1, rv b0_3, iv (0 : Int32), iv (1 : Int32)] [(.ref b0_1), (.ref b0_3)])) rfl (by rw [hml]; rfl) (Steps.refl _) (argsL := [(.ref b0_1)]) (rest := []) (lenOf pd_3 rfl) rfl (by show 2 * 0 + _ ≤ _; exact Nat.le_of_eq rfl) (hb hby at_132) (fun _ _ => ⟨rfl, e5, (by decide : 2 + 0 ≤ _), (by decide : 4 + 0 ≤ _)⟩)
  dsimp only [Pt.U, Pt.locs, Pt.cells, Pt.slots] at X10 l10 y10 z10 st10 hQ10
  subst l10 y10 z10
  obtain ⟨rfl, N10q, e10⟩ := hQ10
  have N10 := Fr.app N5 N10q
  obtain ⟨fs, hr, hrun, hended, hW, hsame⟩ := X10.leave (v := (some (.int (1 : Int32)))) (fun h => by rw [Bd.returns] at h; cases h)
  refine ⟨_, _, pre0 _ ?_, hrun, hended, _, _, rfl, ?_, ⟨_, rfl⟩, hW, hsame.mono (by decide) (by decide)⟩
  · show Steps p.tables e below (s₁.setTop (mkF m 0 #[own_jv p0, .second, own_jv p1, .second, own_jv p2, .second, own_jv p3, .second, iv p4, .unset, .unset, .unset, .unset, .unset, .unset, .unset, .unset, .unset, .unset, .unset, .unset] [])) _
    refine XS.lloadN X0.here hx rfl (hb hby at_0) rfl ?_
    refine X0.ldc2Long hx hown (mvT hZ (hw _ (List.mem_of_getElem? (i := 0) rfl))) (g := (mkF m 1 #[own_jv p0, .second, own_jv p1, .second, own_jv p2, .second, own_jv p3, .second, iv p4, .unset, .unset, .unset, .unset, .unset, .unset, .unset, .unset, .unset, .unset, .unset, .unset] [(.long p0)])) rfl (hb hby at_1) _ ?_
    refine XS.land X0.here hx rfl (hb hby at_4) rfl ?_
    show Steps p.tables e below (s₁.setTop (mkF m 5 #[own_jv p0, .second, own_jv p1, .second, own_jv p2, .second, own_jv p3, .second, iv p4, .unset, .unset, .unset, .unset, .unset, .unset, .unset, .unset, .unset, .unset, .unset, .unset] [(.long (p0 &&& (9223372036854775807 : Int64)))])) _
    rewrite [hm0]
    refine XS.lstore X0.here hx rfl (hb hby at_5) rfl (l' := #[own_jv p0, .second, own_jv p1, .second, own_jv p2, .second, own_jv p3, .second, iv p4, own_jv m0, .second, .unset, .unset, .unset, .unset, .unset, .unset, .unset, .unset, .unset, .unset]) rfl ?_
    refine XS.lloadN X0.here hx rfl (hb hby at_7) rfl ?_
    refine X0.ldc2Long hx hown (mvT hZ (hw _ (List.mem_of_getElem? (i := 0) rfl))) (g := (mkF m 8 #[own_jv p0, .second, own_jv p1, .second, own_jv p2, .second, own_jv p3, .second, iv p4, own_jv m0, .second, .unset, .unset, .unset, .unset, .unset, .unset, .unset, .unset, .unset, .unset] [(.long p1)])) rfl (hb hby at_8) _ ?_
    refine XS.land X0.here hx rfl (hb hby at_11) rfl ?_
    show Steps p.tables e below (s₁.setTop (mkF m 12 #[own_jv p0, .second, own_jv p1, .second, own_jv p2, .second, own_jv p3, .second, iv p4, own_jv m0, .second, .unset, .unset, .unset, .unset, .unset, .unset, .unset, .unset, .unset, .unset] [(.long (p1 &&& (9223372036854775807 : Int64)))])) _
    rewrite [hm1]
    refine XS.lstore X0.here hx rfl (hb hby at_12) rfl (l' := #[own_jv p0, .second, own_jv p1, .second, own_jv p2, .second, own_jv p3, .second, iv p4, own_jv m0, .second, own_jv m1, .second, .unset, .unset, .unset, .unset, .unset, .unset, .unset, .unset]) rfl ?_
    show Steps p.tables e below (s₁.setTop (mkF m 14 #[own_jv p0, .second, own_jv p1, .second, own_jv p2, .second, own_jv p3, .second, iv p4, own_jv m0, .second, own_jv m1, .second, .unset, .unset, .unset, .unset, .unset, .unset, .unset, .unset] [])) _
    refine XS.iload X0.here hx rfl (hb hby at_14) rfl ?_
    refine XS.iconst X0.here hx rfl (hb hby at_16) ?_
    refine XS.iand X0.here hx rfl (hb hby at_17) rfl ?_
    show Steps p.tables e below (s₁.setTop (mkF m 18 #[own_jv p0, .second, own_jv p1, .second, own_jv p2, .second, own_jv p3, .second, iv p4, own_jv m0, .second, own_jv m1, .second, .unset, .unset, .unset, .unset, .unset, .unset, .unset, .unset] [(.int (p4 &&& (1 : Int32)))])) _
    rewrite [hk1]
    refine XS.ifNo X0.here hx rfl (hb hby at_18) rfl ((if0 _ _).trans (feq (by decide +kernel : ¬ ((1 : Int32) = (0 : Int32)))).1) ?_
    refine XS.lload X0.here hx rfl (hb hby at_21) rfl ?_
    refine XS.goto X0.here hx rfl (pc0 := 23) (pc' := 32) rfl (hb hby at_23) (by decide) (by decide) ?_
    refine XS.lstore X0.here hx rfl (hb hby at_32) rfl (l' := #[own_jv p0, .second, own_jv p1, .second, own_jv p2, .second, own_jv p3, .second, iv p4, own_jv m0, .second, own_jv m1, .second, own_jv m0, .second, .unset, .unset, .unset, .unset, .unset, .unset]) rfl ?_
    refine XS.iload X0.here hx rfl (hb hby at_34) rfl ?_
    show Steps p.tables e below (s₁.setTop (mkF m 36 #[own_jv p0, .second, own_jv p1, .second, own_jv p2, .second, own_jv p3, .second, iv p4, own_jv m0, .second, own_jv m1, .second, own_jv m0, .second, .unset, .unset, .unset, .unset, .unset, .unset] [(.int p4)])) _
    refine XS.iconst X0.here hx rfl (hb hby at_36) ?_
    refine XS.iand X0.here hx rfl (hb hby at_37) rfl ?_
    refine XS.ifNo X0.here hx rfl (hb hby at_38) rfl ((if0 _ _).trans (feq hk2).1) ?_
    refine XS.lload X0.here hx rfl (hb hby at_41) rfl ?_
    refine XS.goto X0.here hx rfl (pc0 := 43) (pc' := 52) rfl (hb hby at_43) (by decide) (by decide) ?_
    refine XS.lstore X0.here hx rfl (hb hby at_52) rfl (l' := #[own_jv p0, .second, own_jv p1, .second, own_jv p2, .second, own_jv p3, .second, iv p4, own_jv m0, .second, own_jv m1, .second, own_jv m0, .second, own_jv m1, .second, .unset, .unset, .unset, .unset]) rfl ?_
    refine st1 _ ?_
    refine XS.dup X1.here hx rfl (hb hby at_57) rfl rfl ?_
    show Steps p.tables e below (T1.setTop (mkF m 58 #[own_jv p0, .second, own_jv p1, .second, own_jv p2, .second, own_jv p3, .second, iv p4, own_jv m0, .second, own_jv m1, .second, own_jv m0, .second, own_jv m1, .second, .unset, .unset, .unset, .unset] [(.ref b0_1), (.ref b0_1)])) _
    refine XS.lload X1.here hx rfl (hb hby at_58) rfl ?_
    refine XS.lload X1.here hx rfl (hb hby at_60) rfl ?_
    refine st2.trans ?_
    refine XS.astore X2.here hx rfl (hb hby at_65) rfl rfl (l' := #[own_jv p0, .second, own_jv p1, .second, own_jv p2, .second, own_jv p3, .second, iv p4, own_jv m0, .second, own_jv m1, .second, own_jv m0, .second, own_jv m1, .second, rv b0_1, .unset, .unset, .unset]) rfl ?_
    refine st3 _ ?_
    refine XS.dup X3.here hx rfl (hb hby at_70) rfl rfl ?_
    refine XS.lload X3.here hx rfl (hb hby at_71) rfl ?_
    refine XS.lload X3.here hx rfl (hb hby at_73) rfl ?_
    show Steps p.tables e below (T3.setTop (mkF m 75 #[own_jv p0, .second, own_jv p1, .second, own_jv p2, .second, own_jv p3, .second, iv p4, own_jv m0, .second, own_jv m1, .second, own_jv m0, .second, own_jv m1, .second, rv b0_1, .unset, .unset, .unset] [(.long m1), (.long m0), (.ref b0_3), (.ref b0_3)])) _
    refine st4.trans ?_
    refine XS.astore X4.here hx rfl (hb hby at_78) rfl rfl (l' := #[own_jv p0, .second, own_jv p1, .second, own_jv p2, .second, own_jv p3, .second, iv p4, own_jv m0, .second, own_jv m1, .second, own_jv m0, .second, own_jv m1, .second, rv b0_1, rv b0_3, .unset, .unset]) rfl ?_
    refine XS.iload X4.here hx rfl (hb hby at_80) rfl ?_
    refine XS.iconst X4.here hx rfl (hb hby at_82) ?_
    refine XS.iushr X4.here hx rfl (hb hby at_83) rfl ?_
    refine XS.iconst X4.here hx rfl (hb hby at_84) ?_
    refine XS.iand X4.here hx rfl (hb hby at_85) rfl ?_
    show Steps p.tables e below (T4.setTop (mkF m 86 #[own_jv p0, .second, own_jv p1, .second, own_jv p2, .second, own_jv p3, .second, iv p4, own_jv m0, .second, own_jv m1, .second, own_jv m0, .second, own_jv m1, .second, rv b0_1, rv b0_3, .unset, .unset] [(.int (((p4.toUInt32 >>> ((2 : Int32) &&& 31).toUInt32).toInt32) &&& (3 : Int32)))])) _
    rewrite [hkk]
    refine XS.istore X4.here hx rfl (hb hby at_86) rfl (l' := #[own_jv p0, .second, own_jv p1, .second, own_jv p2, .second, own_jv p3, .second, iv p4, own_jv m0, .second, own_jv m1, .second, own_jv m0, .second, own_jv m1, .second, rv b0_1, rv b0_3, iv (0 : Int32), .unset]) rfl ?_
    show Steps p.tables e below (T4.setTop (mkF m 88 #[own_jv p0, .second, own_jv p1, .second, own_jv p2, .second, own_jv p3, .second, iv p4, own_jv m0, .second, own_jv m1, .second, own_jv m0, .second, own_jv m1, .second, rv b0_1, rv b0_3, iv (0 : Int32), .unset] [])) _
    refine XS.iload X4.here hx rfl (hb hby at_88) rfl ?_
    refine XS.ifNo X4.here hx rfl (hb hby at_90) rfl ((if0 _ _).trans (teq (by decide +kernel : (0 : Int32) = (0 : Int32))).2) ?_
    refine XS.lload X4.here hx rfl (hb hby at_93) rfl ?_
    refine XS.lload X4.here hx rfl (hb hby at_95) rfl ?_
    refine XS.lcmp X4.here hx rfl (hb hby at_97) rfl ?_
    refine XS.ifNo X4.here hx rfl (hb hby at_98) rfl ((if0 _ _).trans ((if0 _ _).symm.trans (Jvm.Free.XT.ll_ne_f rfl))) ?_
    refine XS.lload X4.here hx rfl (hb hby at_101) rfl ?_
    refine XS.lload X4.here hx rfl (hb hby at_103) rfl ?_
    show Steps p.tables e below (T4.setTop (mkF m 105 #[own_jv p0, .second, own_jv p1, .second, own_jv p2, .second, own_jv p3, .second, iv p4, own_jv m0, .second, own_jv m1, .second, own_jv m0, .second, own_jv m1, .second, rv b0_1, rv b0_3, iv (0 : Int32), .unset] [(.long m1), (.long m1)])) _
    refine XS.lcmp X4.here hx rfl (hb hby at_105) rfl ?_
    refine XS.ifNo X4.here hx rfl (hb hby at_106) rfl ((if0 _ _).trans ((if0 _ _).symm.trans (Jvm.Free.XT.ll_ne_f rfl))) ?_
    refine XS.iconst X4.here hx rfl (hb hby at_109) ?_
    refine XS.goto X4.here hx rfl (pc0 := 110) (pc' := 114) rfl (hb hby at_110) (by decide) (by decide) ?_
    refine XS.istore X4.here hx rfl (hb hby at_114) rfl (l' := #[own_jv p0, .second, own_jv p1, .second, own_jv p2, .second, own_jv p3, .second, iv p4, own_jv m0, .second, own_jv m1, .second, own_jv m0, .second, own_jv m1, .second, rv b0_1, rv b0_3, iv (0 : Int32), iv (1 : Int32)]) rfl ?_
    refine XS.aload X4.here hx rfl (hb hby at_116) rfl rfl ?_
    refine XS.aload X4.here hx rfl (hb hby at_118) rfl rfl ?_
    refine st5.trans ?_
    show Steps p.tables e below (T5.setTop (mkF m 123 #[own_jv p0, .second, own_jv p1, .second, own_jv p2, .second, own_jv p3, .second, iv p4, own_jv m0, .second, own_jv m1, .second, own_jv m0, .second, own_jv m1, .second, rv b0_1, rv b0_3, iv (0 : Int32), iv (1 : Int32)] [(.int (1 : Int32))])) _
    refine XS.iload X5.here hx rfl (hb hby at_123) rfl ?_
    refine XS.icmpNo X5.here hx rfl (hb hby at_125) rfl (teq (by decide +kernel : (1 : Int32) = (1 : Int32))).2 ?_
    refine XS.aload X5.here hx rfl (hb hby at_128) rfl rfl ?_
    refine XS.aload X5.here hx rfl (hb hby at_130) rfl rfl ?_
    refine st10.trans ?_
    refine XS.iload X10.here hx rfl (hb hby at_135) rfl ?_
    refine XS.icmpNo X10.here hx rfl (hb hby at_137) rfl (teq (by decide +kernel : (1 : Int32) = (1 : Int32))).2 ?_
    refine XS.iconst X10.here hx rfl (hb hby at_140) ?_
    show Steps p.tables e below (T10.setTop (mkF m 141 #[own_jv p0, .second, own_jv p1, .second, own_jv p2, .second, own_jv p3, .second, iv p4, own_jv m0, .second, own_jv m1, .second, own_jv m0, .second, own_jv m1, .second, rv b0_1, rv b0_3, iv (0 : Int32), iv (1 : Int32)] [(.int (1 : Int32))])) _
    refine XS.goto X10.here hx rfl (pc0 := 141) (pc' := 145) rfl (hb hby at_141) (by decide) (by decide) ?_
    exact retN X10 hx (t := .boolean) Bd.returns (by simp) (hb hby at_145) hr
  · exact ⟨rfl, N10⟩
set_option maxRecDepth 65536 in
set_option maxHeartbeats 40000000 in
theorem rm3_21 (l : Launch) (Z : State) (a0 : Array Value) (hw : ∀ d ∈ tables_1, d.before a0 Z = true) (ws : List Jvm.Cond) (b0_1 : Addr) (h0 : Heap) (n0 : Nat) (Z0 : n0 ≤ h0.size) :
    MetFree l (⟨"com/example/allotd/allotd/engine/Tokens", "equals", "(Ljava/lang/Object;)Z"⟩ : MethodName) (head1 (Jvm.Cond.code (⟨"com/example/allotd/allotd/engine/Tokens", "equals", "(Ljava/lang/Object;)Z"⟩ : MethodName) prog_21_method_4_code 3 (some .boolean) :: ws) ({ frames := 0, cells := 0, slots := 0, locals := 0 } : Room)) (fun a U => a = #[(.ref b0_1), .null] ∧ Z.Warmed39 U.vm ∧ U.heap = h0) (fun _ _ _ _ _ => True) (fun _ U o U' => ∃ v L, o = .returned v ∧ own_QP (some (.int (0 : Int32))) h0 n0 v U'.heap L ∧ FrameEnd U o U' L ({ frames := 0, cells := 0, slots := 0, locals := 0 } : Room).cells ({ frames := 0, cells := 0, slots := 0, locals := 0 } : Room).slots) := by
  refine MetFree.of_bodySF (plainFor_of_name pn_2) hisR ?_
  intro p e s m args below meth c s₁ Bd hml0 hP hK
  obtain ⟨rfl, hZ, hh⟩ := hP
  have hx := Bd.exec
  have hby := Bd.bytes
  have hml : c.maxLocals = 3 := hml0
  have hown : s.vm.findClass "com/example/allotd/allotd/engine/Tokens" = some m.cls := findClass_of_methodNamed Bd.named
  have hnm := (name_of_methodNamed Bd.named Bd.method).1
  have X0 : Stand p l e ({ frames := 0, cells := 0, slots := 0, locals := 0 } : Room) s m #[(.ref b0_1), .null] below meth c s₁ [] 0 0 := Stand.of_body Bd
  have e0 : s₁.heap = h0 := by rw [← hh, Bd.state]; rfl
  have N0 := Fr.nil n0
  have pre0 : ∀ t, Steps p.tables e below (s₁.setTop (mkF m 0 #[rv b0_1, .val .null, .unset] [])) t → Steps p.tables e below (s₁.setTop (entryFrame m #[(.ref b0_1), .null] 3)) t := fun t k => castTop (ef_3_Rn m b0_1) k
  obtain ⟨fs, hr, hrun, hended, hW, hsame⟩ := X0.leave (v := (some (.int (0 : Int32)))) (fun h => by rw [Bd.returns] at h; cases h)
  refine ⟨_, _, pre0 _ ?_, hrun, hended, _, _, rfl, ?_, ⟨_, rfl⟩, hW, hsame.mono (by decide) (by decide)⟩
  · show Steps p.tables e below (s₁.setTop (mkF m 0 #[rv b0_1, .val .null, .unset] [])) _
    refine XS.aloadN X0.here hx rfl (hb hby d3_0) rfl rfl ?_
    refine X0.instanceofNull hx (g := (mkF m 1 #[rv b0_1, .val .null, .unset] [.null])) rfl rfl (hb hby d3_1) _ ?_
    refine XS.ifYes X0.here hx rfl (pc0 := 4) (pc' := 40) rfl (hb hby d3_4) rfl ((if0 _ _).trans (teq (by decide +kernel : (0 : Int32) = (0 : Int32))).1) (by decide) (by decide) ?_
    refine XS.iconst X0.here hx rfl (hb hby d3_40) ?_
    exact retN X0 hx (t := .boolean) Bd.returns (by simp) (hb hby d3_41) hr
  · exact ⟨rfl, N0, e0⟩
set_option maxRecDepth 65536 in
set_option maxHeartbeats 40000000 in
theorem rm0_9 (l : Launch) (Z : State) (a0 : Array Value) (hw : ∀ d ∈ tables_1, d.before a0 Z = true) (ws : List Jvm.Cond) (p0 : Int64) (p1 : Int64) (p2 : Int64) (p3 : Int64) (p4 : Int32) (m0 : Int64) (m1 : Int64) (m2 : Int64) (m3 : Int64) (h0 : Heap) (n0 : Nat) (Z0 : n0 ≤ h0.size) (hm0 : (p0 &&& (9223372036854775807 : Int64)) = m0) (hm1 : (p1 &&& (9223372036854775807 : Int64)) = m1) (hk1 : (p4 &&& (1 : Int32)) = (0 : Int32)) (hm2 : (p2 &&& (9223372036854775807 : Int64)) = m2) (hk2 : (p4 &&& (2 : Int32)) = (0 : Int32)) (hm3 : (p3 &&& (9223372036854775807 : Int64)) = m3) (hn0 : ¬ (m0 < (0 : Int64))) (hn1 : ¬ (m1 < (0 : Int64))) (hn2 : ¬ (m2 < (0 : Int64))) (hn3 : ¬ (m3 < (0 : Int64))) (hkk : (((p4.toUInt32 >>> ((2 : Int32) &&& 31).toUInt32).toInt32) &&& (3 : Int32)) = (1 : Int32)) :
    MetFree l x (head1 (Jvm.Cond.code x code maxLocals ret :: ws) room_1) (fun a U => a = #[(.long p0), (.long p1), (.long p2), (.long p3), (.int p4)] ∧ Z.Warmed39 U.vm ∧ U.heap = h0) (fun _ _ _ _ _ => True) (fun _ U o U' => ∃ v L, o = .returned v ∧ own_QL n0 v U'.heap L ∧ FrameEnd U o U' L room_1.cells room_1.slots) := by
  refine MetFree.of_bodySF (plainFor_of_name pn_3) hisR ?_
  intro p e s m args below meth c s₁ Bd hml0 hP hK
  obtain ⟨rfl, hZ, hh⟩ := hP
  have hx := Bd.exec
  have hby := Bd.bytes
  have hml : c.maxLocals = 21 := hml0
  have hown : s.vm.findClass "com/example/allotd/allotd/engine/TokensEqualsPinLaw" = some m.cls := findClass_of_methodNamed Bd.named
  have hnm := (name_of_methodNamed Bd.named Bd.method).1
  have X0 : Stand p l e room_1 s m #[(.long p0), (.long p1), (.long p2), (.long p3), (.int p4)] below meth c s₁ [] 0 0 := Stand.of_body Bd
  have e0 : s₁.heap = h0 := by rw [← hh, Bd.state]; rfl
  have N0 := Fr.nil n0
  have pre0 : ∀ t, Steps p.tables e below (s₁.setTop (mkF m 0 #[own_jv p0, .second, own_jv p1, .second, own_jv p2, .second, own_jv p3, .second, iv p4, .unset, .unset, .unset, .unset, .unset, .unset, .unset, .unset, .unset, .unset, .unset, .unset] [])) t → Steps p.tables e below (s₁.setTop (entryFrame m #[(.long p0), (.long p1), (.long p2), (.long p3), (.int p4)] maxLocals)) t := fun t k => castTop (ef_0_JJJJI m p0 p1 p2 p3 p4) k
  obtain ⟨T1, h1, X1, e1, E1, A1, D1, -, st1⟩ := newO X0 hx hZ hown (hw _ (List.mem_of_getElem? (i := 1) rfl)) (hw _ (List.mem_of_getElem? (i := 2) rfl)) (hw _ (List.mem_of_getElem? (i := 3) rfl)) e0 (g := (mkF m 54 #[own_jv p0, .second, own_jv p1, .second, own_jv p2, .second, own_jv p3, .second, iv p4, own_jv m0, .second, own_jv m1, .second, own_jv m2, .second, own_jv m3, .second, .unset, .unset, .unset, .unset] [])) rfl (hb hby at_54) (by decide) (by decide)
  obtain ⟨b0_1, gg1⟩ : ∃ z, z = h0.size := ⟨_, rfl⟩
  rw [← gg1] at A1 D1 st1
  have g_b0_1 : n0 ≤ b0_1 := Nat.le_trans Z0 (Nat.le_of_eq gg1.symm)
  have sz_b0_1 : h0.size ≤ b0_1 := Nat.le_trans (Keep.refl h0 []).1 (Nat.le_of_eq gg1.symm)
  have Z1 : n0 ≤ h1.size := Nat.le_trans Z0 E1.1
  have KK1 : Keep h0 h1 [] := (Keep.refl h0 []).ext E1
  have E_b0_1 : Exa Z h1 b0_1 "com/example/allotd/allotd/engine/Tokens" := A1
  have F_b0_1_input : Fld Z h1 b0_1 "com/example/allotd/allotd/engine/Tokens" "input" "J" (.long (0 : Int64)) := D1 (Or.inr (hw _ (List.mem_of_getElem? (i := 11) rfl))) (ty := .long) (by decide)
  have F_b0_1_output : Fld Z h1 b0_1 "com/example/allotd/allotd/engine/Tokens" "output" "J" (.long (0 : Int64)) := D1 (Or.inr (hw _ (List.mem_of_getElem? (i := 13) rfl))) (ty := .long) (by decide)
  obtain ⟨_, _, ⟨T2, L2, k2, n2⟩, -, X2, ⟨Lc2, hQ2, l2, y2, z2⟩, st2⟩ := X1.specialBack hx (y := (⟨"com/example/allotd/allotd/engine/Tokens", "<init>", "(JJ)V"⟩ : MethodName)) rfl hown (mvT hZ (hw _ (List.mem_of_getElem? (i := 4) rfl))) (mvT hZ (hw _ (List.mem_of_getElem? (i := 5) rfl))) (mvT hZ (hw _ (List.mem_of_getElem? (i := 6) rfl))) (by decide) (backOf (W := 1) (rm1_2 l Z a0 hw [] m0 m1 b0_1 h1 n0 Z1 hn0 hn1 E_b0_1 F_b0_1_input g_b0_1 F_b0_1_output) hZ (hw _ (List.mem_of_getElem? (i := 6) rfl)) (hw _ (List.mem_of_getElem? (i := 3) rfl)) (by decide) (by decide)) (g := (mkF m 62 #[own_jv p0, .second, own_jv p1, .second, own_jv p2, .second, own_jv p3, .second, iv p4, own_jv m0, .second, own_jv m1, .second, own_jv m2, .second, own_jv m3, .second, .unset, .unset, .unset, .unset] [(.long m1), (.long m0), (.ref b0_1), (.ref b0_1)])) rfl (by rw [hml]; rfl) (Steps.refl _) (a := b0_1) (argsL := [(.long m0), (.long m1)]) (rest := [(.ref b0_1)]) (lenOf pd_2 rfl) rfl (by show 2 * 0 + _ ≤ _; exact Nat.le_of_eq rfl) (hb hby at_62) (fun _ _ => ⟨rfl, e1, (by decide : 1 + 0 ≤ _), (by decide : 2 + 0 ≤ _)⟩)
  dsimp only [Pt.U, Pt.locs, Pt.cells, Pt.slots] at X2 l2 y2 z2 st2 hQ2
  subst l2 y2 z2
  obtain ⟨rfl, N2q, K2, fq2_0, fq2_1, fq2_2⟩ := hQ2
  have KK2 : Keep h0 T2.heap [] := KK1.trans K2 (allS (P := fun x => x ∈ [] ∨ h0.size ≤ x) (Or.inr sz_b0_1) all0)
  have Z2 : n0 ≤ T2.heap.size := Nat.le_trans Z1 K2.1
  have N2 := Fr.app N0 N2q
  obtain ⟨T3, h3, X3, e3, E3, A3, D3, -, st3⟩ := newO X2 hx hZ hown (hw _ (List.mem_of_getElem? (i := 1) rfl)) (hw _ (List.mem_of_getElem? (i := 2) rfl)) (hw _ (List.mem_of_getElem? (i := 3) rfl)) rfl (g := (mkF m 67 #[own_jv p0, .second, own_jv p1, .second, own_jv p2, .second, own_jv p3, .second, iv p4, own_jv m0, .second, own_jv m1, .second, own_jv m2, .second, own_jv m3, .second, rv b0_1, .unset, .unset, .unset] [])) rfl (hb hby at_67) (by decide) (by decide)
  obtain ⟨b0_3, gg3⟩ : ∃ z, z = T2.heap.size := ⟨_, rfl⟩
  rw [← gg3] at A3 D3 st3
  have g_b0_3 : n0 ≤ b0_3 := Nat.le_trans Z2 (Nat.le_of_eq gg3.symm)
  have sz_b0_3 : h0.size ≤ b0_3 := Nat.le_trans KK2.1 (Nat.le_of_eq gg3.symm)
  have Z3 : n0 ≤ h3.size := Nat.le_trans Z2 E3.1
  have KK3 : Keep h0 h3 [] := KK2.ext E3
  have E_b0_3 : Exa Z h3 b0_3 "com/example/allotd/allotd/engine/Tokens" := A3
  have F_b0_3_input : Fld Z h3 b0_3 "com/example/allotd/allotd/engine/Tokens" "input" "J" (.long (0 : Int64)) := D3 (Or.inr (hw _ (List.mem_of_getElem? (i := 11) rfl))) (ty := .long) (by decide)
  have F_b0_3_output : Fld Z h3 b0_3 "com/example/allotd/allotd/engine/Tokens" "output" "J" (.long (0 : Int64)) := D3 (Or.inr (hw _ (List.mem_of_getElem? (i := 13) rfl))) (ty := .long) (by decide)
  obtain ⟨_, _, ⟨T4, L4, k4, n4⟩, -, X4, ⟨Lc4, hQ4, l4, y4, z4⟩, st4⟩ := X3.specialBack hx (y := (⟨"com/example/allotd/allotd/engine/Tokens", "<init>", "(JJ)V"⟩ : MethodName)) rfl hown (mvT hZ (hw _ (List.mem_of_getElem? (i := 4) rfl))) (mvT hZ (hw _ (List.mem_of_getElem? (i := 5) rfl))) (mvT hZ (hw _ (List.mem_of_getElem? (i := 6) rfl))) (by decide) (backOf (W := 1) (rm1_3 l Z a0 hw [] m2 m3 b0_3 h3 n0 Z3 hn2 hn3 E_b0_3 F_b0_3_input g_b0_3 F_b0_3_output) hZ (hw _ (List.mem_of_getElem? (i := 6) rfl)) (hw _ (List.mem_of_getElem? (i := 3) rfl)) (by decide) (by decide)) (g := (mkF m 75 #[own_jv p0, .second, own_jv p1, .second, own_jv p2, .second, own_jv p3, .second, iv p4, own_jv m0, .second, own_jv m1, .second, own_jv m2, .second, own_jv m3, .second, rv b0_1, .unset, .unset, .unset] [(.long m3), (.long m2), (.ref b0_3), (.ref b0_3)])) rfl (by rw [hml]; rfl) (Steps.refl _) (a := b0_3) (argsL := [(.long m2), (.long m3)]) (rest := [(.ref b0_3)]) (lenOf pd_2 rfl) rfl (by show 2 * 0 + _ ≤ _; exact Nat.le_of_eq rfl) (hb hby at_75) (fun _ _ => ⟨rfl, e3, (by decide : 2 + 0 ≤ _), (by decide : 4 + 0 ≤ _)⟩)
  dsimp only [Pt.U, Pt.locs, Pt.cells, Pt.slots] at X4 l4 y4 z4 st4 hQ4
  subst l4 y4 z4
  obtain ⟨rfl, N4q, K4, fq4_0, fq4_1, fq4_2⟩ := hQ4
  have KK4 : Keep h0 T4.heap [] := KK3.trans K4 (allS (P := fun x => x ∈ [] ∨ h0.size ≤ x) (Or.inr sz_b0_3) all0)
  have Z4 : n0 ≤ T4.heap.size := Nat.le_trans Z3 K4.1
  have N4 := Fr.app N2 N4q
  have c6 := ((fq2_2.ext E3).keep K4)
  obtain ⟨cq5, kq5, q5a, q5b, q5c⟩ := isOf hZ rfl c6
  obtain ⟨_, _, ⟨T5, L5, k5, n5⟩, -, X5, ⟨Lc5, hQ5, l5, y5, z5⟩, st5⟩ := X4.virtualBack hx (y := (⟨"com/example/allotd/allotd/engine/Tokens", "equals", "(Ljava/lang/Object;)Z"⟩ : MethodName)) (z := (⟨"com/example/allotd/allotd/engine/Tokens", "equals", "(Ljava/lang/Object;)Z"⟩ : MethodName)) hown (mvT hZ (hw _ (List.mem_of_getElem? (i := 14) rfl))) (mvT hZ (hw _ (List.mem_of_getElem? (i := 15) rfl))) (notFace_of_selects (args := #[]) (mvT hZ (hw _ (List.mem_of_getElem? (i := 17) rfl)))) (mvT hZ (hw _ (List.mem_of_getElem? (i := 17) rfl))) (mvT hZ (hw _ (List.mem_of_getElem? (i := 16) rfl))) (by decide) (backOf (W := 0) (rm3_21 l Z a0 hw [] b0_1 T4.heap n0 Z4 ) hZ (hw _ (List.mem_of_getElem? (i := 18) rfl)) (hw _ (List.mem_of_getElem? (i := 3) rfl)) (by decide) (by decide)) q5a q5c (g := (mkF m 159 #[own_jv p0, .second, own_jv p1, .second, own_jv p2, .second, own_jv p3, .second, iv p4, own_jv m0, .second, own_jv m1, .second, own_jv m2, .second, own_jv m3, .second, rv b0_1, rv b0_3, iv (1 : Int32), .val .null] [.null, (.ref b0_1)])) rfl (by rw [hml]; rfl) (Steps.refl _) (argsL := [.null]) (rest := []) (lenOf pd_3 rfl) rfl (by show 2 * 0 + _ ≤ _; exact Nat.le_of_eq rfl) (hb hby at_159) (fun _ _ => ⟨rfl, rfl, (by decide : 2 + 0 ≤ _), (by decide : 4 + 0 ≤ _)⟩)
  dsimp only [Pt.U, Pt.locs, Pt.cells, Pt.slots] at X5 l5 y5 z5 st5 hQ5
  subst l5 y5 z5
  obtain ⟨rfl, N5q, e5⟩ := hQ5
  have N5 := Fr.app N4 N5q
  obtain ⟨fs, hr, hrun, hended, hW, hsame⟩ := X5.leave (v := (some (.int (1 : Int32)))) (fun h => by rw [Bd.returns] at h; cases h)
  refine ⟨_, _, pre0 _ ?_, hrun, hended, _, _, rfl, ?_, ⟨_, rfl⟩, hW, hsame.mono (by decide) (by decide)⟩
  · show Steps p.tables e below (s₁.setTop (mkF m 0 #[own_jv p0, .second, own_jv p1, .second, own_jv p2, .second, own_jv p3, .second, iv p4, .unset, .unset, .unset, .unset, .unset, .unset, .unset, .unset, .unset, .unset, .unset, .unset] [])) _
    refine XS.lloadN X0.here hx rfl (hb hby at_0) rfl ?_
    refine X0.ldc2Long hx hown (mvT hZ (hw _ (List.mem_of_getElem? (i := 0) rfl))) (g := (mkF m 1 #[own_jv p0, .second, own_jv p1, .second, own_jv p2, .second, own_jv p3, .second, iv p4, .unset, .unset, .unset, .unset, .unset, .unset, .unset, .unset, .unset, .unset, .unset, .unset] [(.long p0)])) rfl (hb hby at_1) _ ?_
    refine XS.land X0.here hx rfl (hb hby at_4) rfl ?_
    show Steps p.tables e below (s₁.setTop (mkF m 5 #[own_jv p0, .second, own_jv p1, .second, own_jv p2, .second, own_jv p3, .second, iv p4, .unset, .unset, .unset, .unset, .unset, .unset, .unset, .unset, .unset, .unset, .unset, .unset] [(.long (p0 &&& (9223372036854775807 : Int64)))])) _
    rewrite [hm0]
    refine XS.lstore X0.here hx rfl (hb hby at_5) rfl (l' := #[own_jv p0, .second, own_jv p1, .second, own_jv p2, .second, own_jv p3, .second, iv p4, own_jv m0, .second, .unset, .unset, .unset, .unset, .unset, .unset, .unset, .unset, .unset, .unset]) rfl ?_
    refine XS.lloadN X0.here hx rfl (hb hby at_7) rfl ?_
    refine X0.ldc2Long hx hown (mvT hZ (hw _ (List.mem_of_getElem? (i := 0) rfl))) (g := (mkF m 8 #[own_jv p0, .second, own_jv p1, .second, own_jv p2, .second, own_jv p3, .second, iv p4, own_jv m0, .second, .unset, .unset, .unset, .unset, .unset, .unset, .unset, .unset, .unset, .unset] [(.long p1)])) rfl (hb hby at_8) _ ?_
    refine XS.land X0.here hx rfl (hb hby at_11) rfl ?_
    show Steps p.tables e below (s₁.setTop (mkF m 12 #[own_jv p0, .second, own_jv p1, .second, own_jv p2, .second, own_jv p3, .second, iv p4, own_jv m0, .second, .unset, .unset, .unset, .unset, .unset, .unset, .unset, .unset, .unset, .unset] [(.long (p1 &&& (9223372036854775807 : Int64)))])) _
    rewrite [hm1]
    refine XS.lstore X0.here hx rfl (hb hby at_12) rfl (l' := #[own_jv p0, .second, own_jv p1, .second, own_jv p2, .second, own_jv p3, .second, iv p4, own_jv m0, .second, own_jv m1, .second, .unset, .unset, .unset, .unset, .unset, .unset, .unset, .unset]) rfl ?_
    show Steps p.tables e below (s₁.setTop (mkF m 14 #[own_jv p0, .second, own_jv p1, .second, own_jv p2, .second, own_jv p3, .second, iv p4, own_jv m0, .second, own_jv m1, .second, .unset, .unset, .unset, .unset, .unset, .unset, .unset, .unset] [])) _
    refine XS.iload X0.here hx rfl (hb hby at_14) rfl ?_
    refine XS.iconst X0.here hx rfl (hb hby at_16) ?_
    refine XS.iand X0.here hx rfl (hb hby at_17) rfl ?_
    show Steps p.tables e below (s₁.setTop (mkF m 18 #[own_jv p0, .second, own_jv p1, .second, own_jv p2, .second, own_jv p3, .second, iv p4, own_jv m0, .second, own_jv m1, .second, .unset, .unset, .unset, .unset, .unset, .unset, .unset, .unset] [(.int (p4 &&& (1 : Int32)))])) _
    rewrite [hk1]
    refine XS.ifYes X0.here hx rfl (pc0 := 18) (pc' := 26) rfl (hb hby at_18) rfl ((if0 _ _).trans (teq (by decide +kernel : (0 : Int32) = (0 : Int32))).1) (by decide) (by decide) ?_
    refine XS.lload X0.here hx rfl (hb hby at_26) rfl ?_
    refine X0.ldc2Long hx hown (mvT hZ (hw _ (List.mem_of_getElem? (i := 0) rfl))) (g := (mkF m 28 #[own_jv p0, .second, own_jv p1, .second, own_jv p2, .second, own_jv p3, .second, iv p4, own_jv m0, .second, own_jv m1, .second, .unset, .unset, .unset, .unset, .unset, .unset, .unset, .unset] [(.long p2)])) rfl (hb hby at_28) _ ?_
    refine XS.land X0.here hx rfl (hb hby at_31) rfl ?_
    show Steps p.tables e below (s₁.setTop (mkF m 32 #[own_jv p0, .second, own_jv p1, .second, own_jv p2, .second, own_jv p3, .second, iv p4, own_jv m0, .second, own_jv m1, .second, .unset, .unset, .unset, .unset, .unset, .unset, .unset, .unset] [(.long (p2 &&& (9223372036854775807 : Int64)))])) _
    rewrite [hm2]
    refine XS.lstore X0.here hx rfl (hb hby at_32) rfl (l' := #[own_jv p0, .second, own_jv p1, .second, own_jv p2, .second, own_jv p3, .second, iv p4, own_jv m0, .second, own_jv m1, .second, own_jv m2, .second, .unset, .unset, .unset, .unset, .unset, .unset]) rfl ?_
    show Steps p.tables e below (s₁.setTop (mkF m 34 #[own_jv p0, .second, own_jv p1, .second, own_jv p2, .second, own_jv p3, .second, iv p4, own_jv m0, .second, own_jv m1, .second, own_jv m2, .second, .unset, .unset, .unset, .unset, .unset, .unset] [])) _
    refine XS.iload X0.here hx rfl (hb hby at_34) rfl ?_
    refine XS.iconst X0.here hx rfl (hb hby at_36) ?_
    refine XS.iand X0.here hx rfl (hb hby at_37) rfl ?_
    refine XS.ifYes X0.here hx rfl (pc0 := 38) (pc' := 46) rfl (hb hby at_38) rfl ((if0 _ _).trans (teq hk2).1) (by decide) (by decide) ?_
    refine XS.lload X0.here hx rfl (hb hby at_46) rfl ?_
    refine X0.ldc2Long hx hown (mvT hZ (hw _ (List.mem_of_getElem? (i := 0) rfl))) (g := (mkF m 48 #[own_jv p0, .second, own_jv p1, .second, own_jv p2, .second, own_jv p3, .second, iv p4, own_jv m0, .second, own_jv m1, .second, own_jv m2, .second, .unset, .unset, .unset, .unset, .unset, .unset] [(.long p3)])) rfl (hb hby at_48) _ ?_
    refine XS.land X0.here hx rfl (hb hby at_51) rfl ?_
    show Steps p.tables e below (s₁.setTop (mkF m 52 #[own_jv p0, .second, own_jv p1, .second, own_jv p2, .second, own_jv p3, .second, iv p4, own_jv m0, .second, own_jv m1, .second, own_jv m2, .second, .unset, .unset, .unset, .unset, .unset, .unset] [(.long (p3 &&& (9223372036854775807 : Int64)))])) _
    rewrite [hm3]
    refine XS.lstore X0.here hx rfl (hb hby at_52) rfl (l' := #[own_jv p0, .second, own_jv p1, .second, own_jv p2, .second, own_jv p3, .second, iv p4, own_jv m0, .second, own_jv m1, .second, own_jv m2, .second, own_jv m3, .second, .unset, .unset, .unset, .unset]) rfl ?_
    show Steps p.tables e below (s₁.setTop (mkF m 54 #[own_jv p0, .second, own_jv p1, .second, own_jv p2, .second, own_jv p3, .second, iv p4, own_jv m0, .second, own_jv m1, .second, own_jv m2, .second, own_jv m3, .second, .unset, .unset, .unset, .unset] [])) _
    refine st1 _ ?_
    refine XS.dup X1.here hx rfl (hb hby at_57) rfl rfl ?_
    refine XS.lload X1.here hx rfl (hb hby at_58) rfl ?_
    refine XS.lload X1.here hx rfl (hb hby at_60) rfl ?_
    refine st2.trans ?_
    refine XS.astore X2.here hx rfl (hb hby at_65) rfl rfl (l' := #[own_jv p0, .second, own_jv p1, .second, own_jv p2, .second, own_jv p3, .second, iv p4, own_jv m0, .second, own_jv m1, .second, own_jv m2, .second, own_jv m3, .second, rv b0_1, .unset, .unset, .unset]) rfl ?_
    refine st3 _ ?_
    refine XS.dup X3.here hx rfl (hb hby at_70) rfl rfl ?_
    show Steps p.tables e below (T3.setTop (mkF m 71 #[own_jv p0, .second, own_jv p1, .second, own_jv p2, .second, own_jv p3, .second, iv p4, own_jv m0, .second, own_jv m1, .second, own_jv m2, .second, own_jv m3, .second, rv b0_1, .unset, .unset, .unset] [(.ref b0_3), (.ref b0_3)])) _
    refine XS.lload X3.here hx rfl (hb hby at_71) rfl ?_
    refine XS.lload X3.here hx rfl (hb hby at_73) rfl ?_
    refine st4.trans ?_
    refine XS.astore X4.here hx rfl (hb hby at_78) rfl rfl (l' := #[own_jv p0, .second, own_jv p1, .second, own_jv p2, .second, own_jv p3, .second, iv p4, own_jv m0, .second, own_jv m1, .second, own_jv m2, .second, own_jv m3, .second, rv b0_1, rv b0_3, .unset, .unset]) rfl ?_
    refine XS.iload X4.here hx rfl (hb hby at_80) rfl ?_
    refine XS.iconst X4.here hx rfl (hb hby at_82) ?_
    refine XS.iushr X4.here hx rfl (hb hby at_83) rfl ?_
    refine XS.iconst X4.here hx rfl (hb hby at_84) ?_
    show Steps p.tables e below (T4.setTop (mkF m 85 #[own_jv p0, .second, own_jv p1, .second, own_jv p2, .second, own_jv p3, .second, iv p4, own_jv m0, .second, own_jv m1, .second, own_jv m2, .second, own_jv m3, .second, rv b0_1, rv b0_3, .unset, .unset] [(.int (3 : Int32)), (.int ((p4.toUInt32 >>> ((2 : Int32) &&& 31).toUInt32).toInt32))])) _
    refine XS.iand X4.here hx rfl (hb hby at_85) rfl ?_
    show Steps p.tables e below (T4.setTop (mkF m 86 #[own_jv p0, .second, own_jv p1, .second, own_jv p2, .second, own_jv p3, .second, iv p4, own_jv m0, .second, own_jv m1, .second, own_jv m2, .second, own_jv m3, .second, rv b0_1, rv b0_3, .unset, .unset] [(.int (((p4.toUInt32 >>> ((2 : Int32) &&& 31).toUInt32).toInt32) &&& (3 : Int32)))])) _
    rewrite [hkk]
    refine XS.istore X4.here hx rfl (hb hby at_86) rfl (l' := #[own_jv p0, .second, own_jv p1, .second, own_jv p2, .second, own_jv p3, .second, iv p4, own_jv m0, .second, own_jv m1, .second, own_jv m2, .second, own_jv m3, .second, rv b0_1, rv b0_3, iv (1 : Int32), .unset]) rfl ?_
    refine XS.iload X4.here hx rfl (hb hby at_88) rfl ?_
    refine XS.ifYes X4.here hx rfl (pc0 := 90) (pc' := 146) rfl (hb hby at_90) rfl ((if0 _ _).trans (feq (by decide +kernel : ¬ ((1 : Int32) = (0 : Int32)))).2) (by decide) (by decide) ?_
    refine XS.iload X4.here hx rfl (hb hby at_146) rfl ?_
    refine XS.iconst X4.here hx rfl (hb hby at_148) ?_
    refine XS.icmpNo X4.here hx rfl (hb hby at_149) rfl (teq (by decide +kernel : (1 : Int32) = (1 : Int32))).2 ?_
    refine XS.aconstNull X4.here hx rfl (hb hby at_152) ?_
    show Steps p.tables e below (T4.setTop (mkF m 153 #[own_jv p0, .second, own_jv p1, .second, own_jv p2, .second, own_jv p3, .second, iv p4, own_jv m0, .second, own_jv m1, .second, own_jv m2, .second, own_jv m3, .second, rv b0_1, rv b0_3, iv (1 : Int32), .unset] [.null])) _
    refine XS.astore X4.here hx rfl (hb hby at_153) rfl rfl (l' := #[own_jv p0, .second, own_jv p1, .second, own_jv p2, .second, own_jv p3, .second, iv p4, own_jv m0, .second, own_jv m1, .second, own_jv m2, .second, own_jv m3, .second, rv b0_1, rv b0_3, iv (1 : Int32), .val .null]) rfl ?_
    refine XS.aload X4.here hx rfl (hb hby at_155) rfl rfl ?_
    refine XS.aload X4.here hx rfl (hb hby at_157) rfl rfl ?_
    refine st5.trans ?_
    refine XS.ifNo X5.here hx rfl (hb hby at_162) rfl ((if0 _ _).trans (teq (by decide +kernel : (0 : Int32) = (0 : Int32))).2) ?_
    refine XS.iconst X5.here hx rfl (hb hby at_165) ?_
    refine XS.goto X5.here hx rfl (pc0 := 166) (pc' := 170) rfl (hb hby at_166) (by decide) (by decide) ?_
    exact retN X5 hx (t := .boolean) Bd.returns (by simp) (hb hby at_170) hr
  · exact ⟨rfl, N5⟩
set_option maxRecDepth 65536 in
set_option maxHeartbeats 40000000 in
theorem rm0_10 (l : Launch) (Z : State) (a0 : Array Value) (hw : ∀ d ∈ tables_1, d.before a0 Z = true) (ws : List Jvm.Cond) (p0 : Int64) (p1 : Int64) (p2 : Int64) (p3 : Int64) (p4 : Int32) (m0 : Int64) (m1 : Int64) (m2 : Int64) (h0 : Heap) (n0 : Nat) (Z0 : n0 ≤ h0.size) (hm0 : (p0 &&& (9223372036854775807 : Int64)) = m0) (hm1 : (p1 &&& (9223372036854775807 : Int64)) = m1) (hk1 : (p4 &&& (1 : Int32)) = (0 : Int32)) (hm2 : (p2 &&& (9223372036854775807 : Int64)) = m2) (hk2 : ¬ ((p4 &&& (2 : Int32)) = (0 : Int32))) (hn0 : ¬ (m0 < (0 : Int64))) (hn1 : ¬ (m1 < (0 : Int64))) (hn2 : ¬ (m2 < (0 : Int64))) (hkk : (((p4.toUInt32 >>> ((2 : Int32) &&& 31).toUInt32).toInt32) &&& (3 : Int32)) = (1 : Int32)) :
    MetFree l x (head1 (Jvm.Cond.code x code maxLocals ret :: ws) room_1) (fun a U => a = #[(.long p0), (.long p1), (.long p2), (.long p3), (.int p4)] ∧ Z.Warmed39 U.vm ∧ U.heap = h0) (fun _ _ _ _ _ => True) (fun _ U o U' => ∃ v L, o = .returned v ∧ own_QL n0 v U'.heap L ∧ FrameEnd U o U' L room_1.cells room_1.slots) := by
  refine MetFree.of_bodySF (plainFor_of_name pn_3) hisR ?_
  intro p e s m args below meth c s₁ Bd hml0 hP hK
  obtain ⟨rfl, hZ, hh⟩ := hP
  have hx := Bd.exec
  have hby := Bd.bytes
  have hml : c.maxLocals = 21 := hml0
  have hown : s.vm.findClass "com/example/allotd/allotd/engine/TokensEqualsPinLaw" = some m.cls := findClass_of_methodNamed Bd.named
  have hnm := (name_of_methodNamed Bd.named Bd.method).1
  have X0 : Stand p l e room_1 s m #[(.long p0), (.long p1), (.long p2), (.long p3), (.int p4)] below meth c s₁ [] 0 0 := Stand.of_body Bd
  have e0 : s₁.heap = h0 := by rw [← hh, Bd.state]; rfl
  have N0 := Fr.nil n0
  have pre0 : ∀ t, Steps p.tables e below (s₁.setTop (mkF m 0 #[own_jv p0, .second, own_jv p1, .second, own_jv p2, .second, own_jv p3, .second, iv p4, .unset, .unset, .unset, .unset, .unset, .unset, .unset, .unset, .unset, .unset, .unset, .unset] [])) t → Steps p.tables e below (s₁.setTop (entryFrame m #[(.long p0), (.long p1), (.long p2), (.long p3), (.int p4)] maxLocals)) t := fun t k => castTop (ef_0_JJJJI m p0 p1 p2 p3 p4) k
  obtain ⟨T1, h1, X1, e1, E1, A1, D1, -, st1⟩ := newO X0 hx hZ hown (hw _ (List.mem_of_getElem? (i := 1) rfl)) (hw _ (List.mem_of_getElem? (i := 2) rfl)) (hw _ (List.mem_of_getElem? (i := 3) rfl)) e0 (g := (mkF m 54 #[own_jv p0, .second, own_jv p1, .second, own_jv p2, .second, own_jv p3, .second, iv p4, own_jv m0, .second, own_jv m1, .second, own_jv m2, .second, own_jv m1, .second, .unset, .unset, .unset, .unset] [])) rfl (hb hby at_54) (by decide) (by decide)
  obtain ⟨b0_1, gg1⟩ : ∃ z, z = h0.size := ⟨_, rfl⟩
  rw [← gg1] at A1 D1 st1
  have g_b0_1 : n0 ≤ b0_1 := Nat.le_trans Z0 (Nat.le_of_eq gg1.symm)
  have sz_b0_1 : h0.size ≤ b0_1 := Nat.le_trans (Keep.refl h0 []).1 (Nat.le_of_eq gg1.symm)
  have Z1 : n0 ≤ h1.size := Nat.le_trans Z0 E1.1
  have KK1 : Keep h0 h1 [] := (Keep.refl h0 []).ext E1
  have E_b0_1 : Exa Z h1 b0_1 "com/example/allotd/allotd/engine/Tokens" := A1
  have F_b0_1_input : Fld Z h1 b0_1 "com/example/allotd/allotd/engine/Tokens" "input" "J" (.long (0 : Int64)) := D1 (Or.inr (hw _ (List.mem_of_getElem? (i := 11) rfl))) (ty := .long) (by decide)
  have F_b0_1_output : Fld Z h1 b0_1 "com/example/allotd/allotd/engine/Tokens" "output" "J" (.long (0 : Int64)) := D1 (Or.inr (hw _ (List.mem_of_getElem? (i := 13) rfl))) (ty := .long) (by decide)
  obtain ⟨_, _, ⟨T2, L2, k2, n2⟩, -, X2, ⟨Lc2, hQ2, l2, y2, z2⟩, st2⟩ := X1.specialBack hx (y := (⟨"com/example/allotd/allotd/engine/Tokens", "<init>", "(JJ)V"⟩ : MethodName)) rfl hown (mvT hZ (hw _ (List.mem_of_getElem? (i := 4) rfl))) (mvT hZ (hw _ (List.mem_of_getElem? (i := 5) rfl))) (mvT hZ (hw _ (List.mem_of_getElem? (i := 6) rfl))) (by decide) (backOf (W := 1) (rm1_2 l Z a0 hw [] m0 m1 b0_1 h1 n0 Z1 hn0 hn1 E_b0_1 F_b0_1_input g_b0_1 F_b0_1_output) hZ (hw _ (List.mem_of_getElem? (i := 6) rfl)) (hw _ (List.mem_of_getElem? (i := 3) rfl)) (by decide) (by decide)) (g := (mkF m 62 #[own_jv p0, .second, own_jv p1, .second, own_jv p2, .second, own_jv p3, .second, iv p4, own_jv m0, .second, own_jv m1, .second, own_jv m2, .second, own_jv m1, .second, .unset, .unset, .unset, .unset] [(.long m1), (.long m0), (.ref b0_1), (.ref b0_1)])) rfl (by rw [hml]; rfl) (Steps.refl _) (a := b0_1) (argsL := [(.long m0), (.long m1)]) (rest := [(.ref b0_1)]) (lenOf pd_2 rfl) rfl (by show 2 * 0 + _ ≤ _; exact Nat.le_of_eq rfl) (hb hby at_62) (fun _ _ => ⟨rfl, e1, (by decide : 1 + 0 ≤ _), (by decide : 2 + 0 ≤ _)⟩)
  dsimp only [Pt.U, Pt.locs, Pt.cells, Pt.slots] at X2 l2 y2 z2 st2 hQ2
  subst l2 y2 z2
  obtain ⟨rfl, N2q, K2, fq2_0, fq2_1, fq2_2⟩ := hQ2
  have KK2 : Keep h0 T2.heap [] := KK1.trans K2 (allS (P := fun x => x ∈ [] ∨ h0.size ≤ x) (Or.inr sz_b0_1) all0)
  have Z2 : n0 ≤ T2.heap.size := Nat.le_trans Z1 K2.1
  have N2 := Fr.app N0 N2q
  obtain ⟨T3, h3, X3, e3, E3, A3, D3, -, st3⟩ := newO X2 hx hZ hown (hw _ (List.mem_of_getElem? (i := 1) rfl)) (hw _ (List.mem_of_getElem? (i := 2) rfl)) (hw _ (List.mem_of_getElem? (i := 3) rfl)) rfl (g := (mkF m 67 #[own_jv p0, .second, own_jv p1, .second, own_jv p2, .second, own_jv p3, .second, iv p4, own_jv m0, .second, own_jv m1, .second, own_jv m2, .second, own_jv m1, .second, rv b0_1, .unset, .unset, .unset] [])) rfl (hb hby at_67) (by decide) (by decide)
  obtain ⟨b0_3, gg3⟩ : ∃ z, z = T2.heap.size := ⟨_, rfl⟩
  rw [← gg3] at A3 D3 st3
  have g_b0_3 : n0 ≤ b0_3 := Nat.le_trans Z2 (Nat.le_of_eq gg3.symm)
  have sz_b0_3 : h0.size ≤ b0_3 := Nat.le_trans KK2.1 (Nat.le_of_eq gg3.symm)
  have Z3 : n0 ≤ h3.size := Nat.le_trans Z2 E3.1
  have KK3 : Keep h0 h3 [] := KK2.ext E3
  have E_b0_3 : Exa Z h3 b0_3 "com/example/allotd/allotd/engine/Tokens" := A3
  have F_b0_3_input : Fld Z h3 b0_3 "com/example/allotd/allotd/engine/Tokens" "input" "J" (.long (0 : Int64)) := D3 (Or.inr (hw _ (List.mem_of_getElem? (i := 11) rfl))) (ty := .long) (by decide)
  have F_b0_3_output : Fld Z h3 b0_3 "com/example/allotd/allotd/engine/Tokens" "output" "J" (.long (0 : Int64)) := D3 (Or.inr (hw _ (List.mem_of_getElem? (i := 13) rfl))) (ty := .long) (by decide)
  obtain ⟨_, _, ⟨T4, L4, k4, n4⟩, -, X4, ⟨Lc4, hQ4, l4, y4, z4⟩, st4⟩ := X3.specialBack hx (y := (⟨"com/example/allotd/allotd/engine/Tokens", "<init>", "(JJ)V"⟩ : MethodName)) rfl hown (mvT hZ (hw _ (List.mem_of_getElem? (i := 4) rfl))) (mvT hZ (hw _ (List.mem_of_getElem? (i := 5) rfl))) (mvT hZ (hw _ (List.mem_of_getElem? (i := 6) rfl))) (by decide) (backOf (W := 1) (rm1_8 l Z a0 hw [] m1 m2 b0_3 h3 n0 Z3 hn2 hn1 E_b0_3 F_b0_3_input g_b0_3 F_b0_3_output) hZ (hw _ (List.mem_of_getElem? (i := 6) rfl)) (hw _ (List.mem_of_getElem? (i := 3) rfl)) (by decide) (by decide)) (g := (mkF m 75 #[own_jv p0, .second, own_jv p1, .second, own_jv p2, .second, own_jv p3, .second, iv p4, own_jv m0, .second, own_jv m1, .second, own_jv m2, .second, own_jv m1, .second, rv b0_1, .unset, .unset, .unset] [(.long m1), (.long m2), (.ref b0_3), (.ref b0_3)])) rfl (by rw [hml]; rfl) (Steps.refl _) (a := b0_3) (argsL := [(.long m2), (.long m1)]) (rest := [(.ref b0_3)]) (lenOf pd_2 rfl) rfl (by show 2 * 0 + _ ≤ _; exact Nat.le_of_eq rfl) (hb hby at_75) (fun _ _ => ⟨rfl, e3, (by decide : 2 + 0 ≤ _), (by decide : 4 + 0 ≤ _)⟩)
  dsimp only [Pt.U, Pt.locs, Pt.cells, Pt.slots] at X4 l4 y4 z4 st4 hQ4
  subst l4 y4 z4
  obtain ⟨rfl, N4q, K4, fq4_0, fq4_1, fq4_2⟩ := hQ4
  have KK4 : Keep h0 T4.heap [] := KK3.trans K4 (allS (P := fun x => x ∈ [] ∨ h0.size ≤ x) (Or.inr sz_b0_3) all0)
  have Z4 : n0 ≤ T4.heap.size := Nat.le_trans Z3 K4.1
  have N4 := Fr.app N2 N4q
  have c6 := ((fq2_2.ext E3).keep K4)
  obtain ⟨cq5, kq5, q5a, q5b, q5c⟩ := isOf hZ rfl c6
  obtain ⟨_, _, ⟨T5, L5, k5, n5⟩, -, X5, ⟨Lc5, hQ5, l5, y5, z5⟩, st5⟩ := X4.virtualBack hx (y := (⟨"com/example/allotd/allotd/engine/Tokens", "equals", "(Ljava/lang/Object;)Z"⟩ : MethodName)) (z := (⟨"com/example/allotd/allotd/engine/Tokens", "equals", "(Ljava/lang/Object;)Z"⟩ : MethodName)) hown (mvT hZ (hw _ (List.mem_of_getElem? (i := 14) rfl))) (mvT hZ (hw _ (List.mem_of_getElem? (i := 15) rfl))) (notFace_of_selects (args := #[]) (mvT hZ (hw _ (List.mem_of_getElem? (i := 17) rfl)))) (mvT hZ (hw _ (List.mem_of_getElem? (i := 17) rfl))) (mvT hZ (hw _ (List.mem_of_getElem? (i := 16) rfl))) (by decide) (backOf (W := 0) (rm3_21 l Z a0 hw [] b0_1 T4.heap n0 Z4 ) hZ (hw _ (List.mem_of_getElem? (i := 18) rfl)) (hw _ (List.mem_of_getElem? (i := 3) rfl)) (by decide) (by decide)) q5a q5c (g := (mkF m 159 #[own_jv p0, .second, own_jv p1, .second, own_jv p2, .second, own_jv p3, .second, iv p4, own_jv m0, .second, own_jv m1, .second, own_jv m2, .second, own_jv m1, .second, rv b0_1, rv b0_3, iv (1 : Int32), .val .null] [.null, (.ref b0_1)])) rfl (by rw [hml]; rfl) (Steps.refl _) (argsL := [.null]) (rest := []) (lenOf pd_3 rfl) rfl (by show 2 * 0 + _ ≤ _; exact Nat.le_of_eq rfl) (hb hby at_159) (fun _ _ => ⟨rfl, rfl, (by decide : 2 + 0 ≤ _), (by decide : 4 + 0 ≤ _)⟩)
  dsimp only [Pt.U, Pt.locs, Pt.cells, Pt.slots] at X5 l5 y5 z5 st5 hQ5
  subst l5 y5 z5
  obtain ⟨rfl, N5q, e5⟩ := hQ5
  have N5 := Fr.app N4 N5q
  obtain ⟨fs, hr, hrun, hended, hW, hsame⟩ := X5.leave (v := (some (.int (1 : Int32)))) (fun h => by rw [Bd.returns] at h; cases h)
  refine ⟨_, _, pre0 _ ?_, hrun, hended, _, _, rfl, ?_, ⟨_, rfl⟩, hW, hsame.mono (by decide) (by decide)⟩
  · show Steps p.tables e below (s₁.setTop (mkF m 0 #[own_jv p0, .second, own_jv p1, .second, own_jv p2, .second, own_jv p3, .second, iv p4, .unset, .unset, .unset, .unset, .unset, .unset, .unset, .unset, .unset, .unset, .unset, .unset] [])) _
    refine XS.lloadN X0.here hx rfl (hb hby at_0) rfl ?_
    refine X0.ldc2Long hx hown (mvT hZ (hw _ (List.mem_of_getElem? (i := 0) rfl))) (g := (mkF m 1 #[own_jv p0, .second, own_jv p1, .second, own_jv p2, .second, own_jv p3, .second, iv p4, .unset, .unset, .unset, .unset, .unset, .unset, .unset, .unset, .unset, .unset, .unset, .unset] [(.long p0)])) rfl (hb hby at_1) _ ?_
    refine XS.land X0.here hx rfl (hb hby at_4) rfl ?_
    show Steps p.tables e below (s₁.setTop (mkF m 5 #[own_jv p0, .second, own_jv p1, .second, own_jv p2, .second, own_jv p3, .second, iv p4, .unset, .unset, .unset, .unset, .unset, .unset, .unset, .unset, .unset, .unset, .unset, .unset] [(.long (p0 &&& (9223372036854775807 : Int64)))])) _
    rewrite [hm0]
    refine XS.lstore X0.here hx rfl (hb hby at_5) rfl (l' := #[own_jv p0, .second, own_jv p1, .second, own_jv p2, .second, own_jv p3, .second, iv p4, own_jv m0, .second, .unset, .unset, .unset, .unset, .unset, .unset, .unset, .unset, .unset, .unset]) rfl ?_
    refine XS.lloadN X0.here hx rfl (hb hby at_7) rfl ?_
    refine X0.ldc2Long hx hown (mvT hZ (hw _ (List.mem_of_getElem? (i := 0) rfl))) (g := (mkF m 8 #[own_jv p0, .second, own_jv p1, .second, own_jv p2, .second, own_jv p3, .second, iv p4, own_jv m0, .second, .unset, .unset, .unset, .unset, .unset, .unset, .unset, .unset, .unset, .unset] [(.long p1)])) rfl (hb hby at_8) _ ?_
    refine XS.land X0.here hx rfl (hb hby at_11) rfl ?_
    show Steps p.tables e below (s₁.setTop (mkF m 12 #[own_jv p0, .second, own_jv p1, .second, own_jv p2, .second, own_jv p3, .second, iv p4, own_jv m0, .second, .unset, .unset, .unset, .unset, .unset, .unset, .unset, .unset, .unset, .unset] [(.long (p1 &&& (9223372036854775807 : Int64)))])) _
    rewrite [hm1]
    refine XS.lstore X0.here hx rfl (hb hby at_12) rfl (l' := #[own_jv p0, .second, own_jv p1, .second, own_jv p2, .second, own_jv p3, .second, iv p4, own_jv m0, .second, own_jv m1, .second, .unset, .unset, .unset, .unset, .unset, .unset, .unset, .unset]) rfl ?_
    show Steps p.tables e below (s₁.setTop (mkF m 14 #[own_jv p0, .second, own_jv p1, .second, own_jv p2, .second, own_jv p3, .second, iv p4, own_jv m0, .second, own_jv m1, .second, .unset, .unset, .unset, .unset, .unset, .unset, .unset, .unset] [])) _
    refine XS.iload X0.here hx rfl (hb hby at_14) rfl ?_
    refine XS.iconst X0.here hx rfl (hb hby at_16) ?_
    refine XS.iand X0.here hx rfl (hb hby at_17) rfl ?_
    show Steps p.tables e below (s₁.setTop (mkF m 18 #[own_jv p0, .second, own_jv p1, .second, own_jv p2, .second, own_jv p3, .second, iv p4, own_jv m0, .second, own_jv m1, .second, .unset, .unset, .unset, .unset, .unset, .unset, .unset, .unset] [(.int (p4 &&& (1 : Int32)))])) _
    rewrite [hk1]
    refine XS.ifYes X0.here hx rfl (pc0 := 18) (pc' := 26) rfl (hb hby at_18) rfl ((if0 _ _).trans (teq (by decide +kernel : (0 : Int32) = (0 : Int32))).1) (by decide) (by decide) ?_
    refine XS.lload X0.here hx rfl (hb hby at_26) rfl ?_
    refine X0.ldc2Long hx hown (mvT hZ (hw _ (List.mem_of_getElem? (i := 0) rfl))) (g := (mkF m 28 #[own_jv p0, .second, own_jv p1, .second, own_jv p2, .second, own_jv p3, .second, iv p4, own_jv m0, .second, own_jv m1, .second, .unset, .unset, .unset, .unset, .unset, .unset, .unset, .unset] [(.long p2)])) rfl (hb hby at_28) _ ?_
    refine XS.land X0.here hx rfl (hb hby at_31) rfl ?_
    show Steps p.tables e below (s₁.setTop (mkF m 32 #[own_jv p0, .second, own_jv p1, .second, own_jv p2, .second, own_jv p3, .second, iv p4, own_jv m0, .second, own_jv m1, .second, .unset, .unset, .unset, .unset, .unset, .unset, .unset, .unset] [(.long (p2 &&& (9223372036854775807 : Int64)))])) _
    rewrite [hm2]
    refine XS.lstore X0.here hx rfl (hb hby at_32) rfl (l' := #[own_jv p0, .second, own_jv p1, .second, own_jv p2, .second, own_jv p3, .second, iv p4, own_jv m0, .second, own_jv m1, .second, own_jv m2, .second, .unset, .unset, .unset, .unset, .unset, .unset]) rfl ?_
    show Steps p.tables e below (s₁.setTop (mkF m 34 #[own_jv p0, .second, own_jv p1, .second, own_jv p2, .second, own_jv p3, .second, iv p4, own_jv m0, .second, own_jv m1, .second, own_jv m2, .second, .unset, .unset, .unset, .unset, .unset, .unset] [])) _
    refine XS.iload X0.here hx rfl (hb hby at_34) rfl ?_
    refine XS.iconst X0.here hx rfl (hb hby at_36) ?_
    refine XS.iand X0.here hx rfl (hb hby at_37) rfl ?_
    refine XS.ifNo X0.here hx rfl (hb hby at_38) rfl ((if0 _ _).trans (feq hk2).1) ?_
    refine XS.lload X0.here hx rfl (hb hby at_41) rfl ?_
    refine XS.goto X0.here hx rfl (pc0 := 43) (pc' := 52) rfl (hb hby at_43) (by decide) (by decide) ?_
    refine XS.lstore X0.here hx rfl (hb hby at_52) rfl (l' := #[own_jv p0, .second, own_jv p1, .second, own_jv p2, .second, own_jv p3, .second, iv p4, own_jv m0, .second, own_jv m1, .second, own_jv m2, .second, own_jv m1, .second, .unset, .unset, .unset, .unset]) rfl ?_
    refine st1 _ ?_
    show Steps p.tables e below (T1.setTop (mkF m 57 #[own_jv p0, .second, own_jv p1, .second, own_jv p2, .second, own_jv p3, .second, iv p4, own_jv m0, .second, own_jv m1, .second, own_jv m2, .second, own_jv m1, .second, .unset, .unset, .unset, .unset] [(.ref b0_1)])) _
    refine XS.dup X1.here hx rfl (hb hby at_57) rfl rfl ?_
    refine XS.lload X1.here hx rfl (hb hby at_58) rfl ?_
    refine XS.lload X1.here hx rfl (hb hby at_60) rfl ?_
    refine st2.trans ?_
    refine XS.astore X2.here hx rfl (hb hby at_65) rfl rfl (l' := #[own_jv p0, .second, own_jv p1, .second, own_jv p2, .second, own_jv p3, .second, iv p4, own_jv m0, .second, own_jv m1, .second, own_jv m2, .second, own_jv m1, .second, rv b0_1, .unset, .unset, .unset]) rfl ?_
    refine st3 _ ?_
    refine XS.dup X3.here hx rfl (hb hby at_70) rfl rfl ?_
    refine XS.lload X3.here hx rfl (hb hby at_71) rfl ?_
    show Steps p.tables e below (T3.setTop (mkF m 73 #[own_jv p0, .second, own_jv p1, .second, own_jv p2, .second, own_jv p3, .second, iv p4, own_jv m0, .second, own_jv m1, .second, own_jv m2, .second, own_jv m1, .second, rv b0_1, .unset, .unset, .unset] [(.long m2), (.ref b0_3), (.ref b0_3)])) _
    refine XS.lload X3.here hx rfl (hb hby at_73) rfl ?_
    refine st4.trans ?_
    refine XS.astore X4.here hx rfl (hb hby at_78) rfl rfl (l' := #[own_jv p0, .second, own_jv p1, .second, own_jv p2, .second, own_jv p3, .second, iv p4, own_jv m0, .second, own_jv m1, .second, own_jv m2, .second, own_jv m1, .second, rv b0_1, rv b0_3, .unset, .unset]) rfl ?_
    refine XS.iload X4.here hx rfl (hb hby at_80) rfl ?_
    refine XS.iconst X4.here hx rfl (hb hby at_82) ?_
    refine XS.iushr X4.here hx rfl (hb hby at_83) rfl ?_
    refine XS.iconst X4.here hx rfl (hb hby at_84) ?_
    refine XS.iand X4.here hx rfl (hb hby at_85) rfl ?_
    show Steps p.tables e below (T4.setTop (mkF m 86 #[own_jv p0, .second, own_jv p1, .second, own_jv p2, .second, own_jv p3, .second, iv p4, own_jv m0, .second, own_jv m1, .second, own_jv m2, .second, own_jv m1, .second, rv b0_1, rv b0_3, .unset, .unset] [(.int (((p4.toUInt32 >>> ((2 : Int32) &&& 31).toUInt32).toInt32) &&& (3 : Int32)))])) _
    rewrite [hkk]
    show Steps p.tables e below (T4.setTop (mkF m 86 #[own_jv p0, .second, own_jv p1, .second, own_jv p2, .second, own_jv p3, .second, iv p4, own_jv m0, .second, own_jv m1, .second, own_jv m2, .second, own_jv m1, .second, rv b0_1, rv b0_3, .unset, .unset] [(.int (1 : Int32))])) _
    refine XS.istore X4.here hx rfl (hb hby at_86) rfl (l' := #[own_jv p0, .second, own_jv p1, .second, own_jv p2, .second, own_jv p3, .second, iv p4, own_jv m0, .second, own_jv m1, .second, own_jv m2, .second, own_jv m1, .second, rv b0_1, rv b0_3, iv (1 : Int32), .unset]) rfl ?_
    refine XS.iload X4.here hx rfl (hb hby at_88) rfl ?_
    refine XS.ifYes X4.here hx rfl (pc0 := 90) (pc' := 146) rfl (hb hby at_90) rfl ((if0 _ _).trans (feq (by decide +kernel : ¬ ((1 : Int32) = (0 : Int32)))).2) (by decide) (by decide) ?_
    refine XS.iload X4.here hx rfl (hb hby at_146) rfl ?_
    refine XS.iconst X4.here hx rfl (hb hby at_148) ?_
    refine XS.icmpNo X4.here hx rfl (hb hby at_149) rfl (teq (by decide +kernel : (1 : Int32) = (1 : Int32))).2 ?_
    refine XS.aconstNull X4.here hx rfl (hb hby at_152) ?_
    refine XS.astore X4.here hx rfl (hb hby at_153) rfl rfl (l' := #[own_jv p0, .second, own_jv p1, .second, own_jv p2, .second, own_jv p3, .second, iv p4, own_jv m0, .second, own_jv m1, .second, own_jv m2, .second, own_jv m1, .second, rv b0_1, rv b0_3, iv (1 : Int32), .val .null]) rfl ?_
    show Steps p.tables e below (T4.setTop (mkF m 155 #[own_jv p0, .second, own_jv p1, .second, own_jv p2, .second, own_jv p3, .second, iv p4, own_jv m0, .second, own_jv m1, .second, own_jv m2, .second, own_jv m1, .second, rv b0_1, rv b0_3, iv (1 : Int32), .val .null] [])) _
    refine XS.aload X4.here hx rfl (hb hby at_155) rfl rfl ?_
    refine XS.aload X4.here hx rfl (hb hby at_157) rfl rfl ?_
    refine st5.trans ?_
    refine XS.ifNo X5.here hx rfl (hb hby at_162) rfl ((if0 _ _).trans (teq (by decide +kernel : (0 : Int32) = (0 : Int32))).2) ?_
    refine XS.iconst X5.here hx rfl (hb hby at_165) ?_
    refine XS.goto X5.here hx rfl (pc0 := 166) (pc' := 170) rfl (hb hby at_166) (by decide) (by decide) ?_
    exact retN X5 hx (t := .boolean) Bd.returns (by simp) (hb hby at_170) hr
  · exact ⟨rfl, N5⟩
set_option maxRecDepth 65536 in
set_option maxHeartbeats 40000000 in
theorem rm0_11 (l : Launch) (Z : State) (a0 : Array Value) (hw : ∀ d ∈ tables_1, d.before a0 Z = true) (ws : List Jvm.Cond) (p0 : Int64) (p1 : Int64) (p2 : Int64) (p3 : Int64) (p4 : Int32) (m0 : Int64) (m1 : Int64) (m3 : Int64) (h0 : Heap) (n0 : Nat) (Z0 : n0 ≤ h0.size) (hm0 : (p0 &&& (9223372036854775807 : Int64)) = m0) (hm1 : (p1 &&& (9223372036854775807 : Int64)) = m1) (hk1 : (p4 &&& (1 : Int32)) = (1 : Int32)) (hk2 : (p4 &&& (2 : Int32)) = (0 : Int32)) (hm3 : (p3 &&& (9223372036854775807 : Int64)) = m3) (hn0 : ¬ (m0 < (0 : Int64))) (hn1 : ¬ (m1 < (0 : Int64))) (hn3 : ¬ (m3 < (0 : Int64))) (hkk : (((p4.toUInt32 >>> ((2 : Int32) &&& 31).toUInt32).toInt32) &&& (3 : Int32)) = (1 : Int32)) :
    MetFree l x (head1 (Jvm.Cond.code x code maxLocals ret :: ws) room_1) (fun a U => a = #[(.long p0), (.long p1), (.long p2), (.long p3), (.int p4)] ∧ Z.Warmed39 U.vm ∧ U.heap = h0) (fun _ _ _ _ _ => True) (fun _ U o U' => ∃ v L, o = .returned v ∧ own_QL n0 v U'.heap L ∧ FrameEnd U o U' L room_1.cells room_1.slots) := by
  refine MetFree.of_bodySF (plainFor_of_name pn_3) hisR ?_
  intro p e s m args below meth c s₁ Bd hml0 hP hK
  obtain ⟨rfl, hZ, hh⟩ := hP
  have hx := Bd.exec
  have hby := Bd.bytes
  have hml : c.maxLocals = 21 := hml0
  have hown : s.vm.findClass "com/example/allotd/allotd/engine/TokensEqualsPinLaw" = some m.cls := findClass_of_methodNamed Bd.named
  have hnm := (name_of_methodNamed Bd.named Bd.method).1
  have X0 : Stand p l e room_1 s m #[(.long p0), (.long p1), (.long p2), (.long p3), (.int p4)] below meth c s₁ [] 0 0 := Stand.of_body Bd
  have e0 : s₁.heap = h0 := by rw [← hh, Bd.state]; rfl
  have N0 := Fr.nil n0
  have pre0 : ∀ t, Steps p.tables e below (s₁.setTop (mkF m 0 #[own_jv p0, .second, own_jv p1, .second, own_jv p2, .second, own_jv p3, .second, iv p4, .unset, .unset, .unset, .unset, .unset, .unset, .unset, .unset, .unset, .unset, .unset, .unset] [])) t → Steps p.tables e below (s₁.setTop (entryFrame m #[(.long p0), (.long p1), (.long p2), (.long p3), (.int p4)] maxLocals)) t := fun t k => castTop (ef_0_JJJJI m p0 p1 p2 p3 p4) k
  obtain ⟨T1, h1, X1, e1, E1, A1, D1, -, st1⟩ := newO X0 hx hZ hown (hw _ (List.mem_of_getElem? (i := 1) rfl)) (hw _ (List.mem_of_getElem? (i := 2) rfl)) (hw _ (List.mem_of_getElem? (i := 3) rfl)) e0 (g := (mkF m 54 #[own_jv p0, .second, own_jv p1, .second, own_jv p2, .second, own_jv p3, .second, iv p4, own_jv m0, .second, own_jv m1, .second, own_jv m0, .second, own_jv m3, .second, .unset, .unset, .unset, .unset] [])) rfl (hb hby at_54) (by decide) (by decide)
  obtain ⟨b0_1, gg1⟩ : ∃ z, z = h0.size := ⟨_, rfl⟩
  rw [← gg1] at A1 D1 st1
  have g_b0_1 : n0 ≤ b0_1 := Nat.le_trans Z0 (Nat.le_of_eq gg1.symm)
  have sz_b0_1 : h0.size ≤ b0_1 := Nat.le_trans (Keep.refl h0 []).1 (Nat.le_of_eq gg1.symm)
  have Z1 : n0 ≤ h1.size := Nat.le_trans Z0 E1.1
  have KK1 : Keep h0 h1 [] := (Keep.refl h0 []).ext E1
  have E_b0_1 : Exa Z h1 b0_1 "com/example/allotd/allotd/engine/Tokens" := A1
  have F_b0_1_input : Fld Z h1 b0_1 "com/example/allotd/allotd/engine/Tokens" "input" "J" (.long (0 : Int64)) := D1 (Or.inr (hw _ (List.mem_of_getElem? (i := 11) rfl))) (ty := .long) (by decide)
  have F_b0_1_output : Fld Z h1 b0_1 "com/example/allotd/allotd/engine/Tokens" "output" "J" (.long (0 : Int64)) := D1 (Or.inr (hw _ (List.mem_of_getElem? (i := 13) rfl))) (ty := .long) (by decide)
  obtain ⟨_, _, ⟨T2, L2, k2, n2⟩, -, X2, ⟨Lc2, hQ2, l2, y2, z2⟩, st2⟩ := X1.specialBack hx (y := (⟨"com/example/allotd/allotd/engine/Tokens", "<init>", "(JJ)V"⟩ : MethodName)) rfl hown (mvT hZ (hw _ (List.mem_of_getElem? (i := 4) rfl))) (mvT hZ (hw _ (List.mem_of_getElem? (i := 5) rfl))) (mvT hZ (hw _ (List.mem_of_getElem? (i := 6) rfl))) (by decide) (backOf (W := 1) (rm1_2 l Z a0 hw [] m0 m1 b0_1 h1 n0 Z1 hn0 hn1 E_b0_1 F_b0_1_input g_b0_1 F_b0_1_output) hZ (hw _ (List.mem_of_getElem? (i := 6) rfl)) (hw _ (List.mem_of_getElem? (i := 3) rfl)) (by decide) (by decide)) (g := (mkF m 62 #[own_jv p0, .second, own_jv p1, .second, own_jv p2, .second, own_jv p3, .second, iv p4, own_jv m0, .second, own_jv m1, .second, own_jv m0, .second, own_jv m3, .second, .unset, .unset, .unset, .unset] [(.long m1), (.long m0), (.ref b0_1), (.ref b0_1)])) rfl (by rw [hml]; rfl) (Steps.refl _) (a := b0_1) (argsL := [(.long m0), (.long m1)]) (rest := [(.ref b0_1)]) (lenOf pd_2 rfl) rfl (by show 2 * 0 + _ ≤ _; exact Nat.le_of_eq rfl) (hb hby at_62) (fun _ _ => ⟨rfl, e1, (by decide : 1 + 0 ≤ _), (by decide : 2 + 0 ≤ _)⟩)
  dsimp only [Pt.U, Pt.locs, Pt.cells, Pt.slots] at X2 l2 y2 z2 st2 hQ2
  subst l2 y2 z2
  obtain ⟨rfl, N2q, K2, fq2_0, fq2_1, fq2_2⟩ := hQ2
  have KK2 : Keep h0 T2.heap [] := KK1.trans K2 (allS (P := fun x => x ∈ [] ∨ h0.size ≤ x) (Or.inr sz_b0_1) all0)
  have Z2 : n0 ≤ T2.heap.size := Nat.le_trans Z1 K2.1
  have N2 := Fr.app N0 N2q
  obtain ⟨T3, h3, X3, e3, E3, A3, D3, -, st3⟩ := newO X2 hx hZ hown (hw _ (List.mem_of_getElem? (i := 1) rfl)) (hw _ (List.mem_of_getElem? (i := 2) rfl)) (hw _ (List.mem_of_getElem? (i := 3) rfl)) rfl (g := (mkF m 67 #[own_jv p0, .second, own_jv p1, .second, own_jv p2, .second, own_jv p3, .second, iv p4, own_jv m0, .second, own_jv m1, .second, own_jv m0, .second, own_jv m3, .second, rv b0_1, .unset, .unset, .unset] [])) rfl (hb hby at_67) (by decide) (by decide)
  obtain ⟨b0_3, gg3⟩ : ∃ z, z = T2.heap.size := ⟨_, rfl⟩
  rw [← gg3] at A3 D3 st3
  have g_b0_3 : n0 ≤ b0_3 := Nat.le_trans Z2 (Nat.le_of_eq gg3.symm)
  have sz_b0_3 : h0.size ≤ b0_3 := Nat.le_trans KK2.1 (Nat.le_of_eq gg3.symm)
  have Z3 : n0 ≤ h3.size := Nat.le_trans Z2 E3.1
  have KK3 : Keep h0 h3 [] := KK2.ext E3
  have E_b0_3 : Exa Z h3 b0_3 "com/example/allotd/allotd/engine/Tokens" := A3
  have F_b0_3_input : Fld Z h3 b0_3 "com/example/allotd/allotd/engine/Tokens" "input" "J" (.long (0 : Int64)) := D3 (Or.inr (hw _ (List.mem_of_getElem? (i := 11) rfl))) (ty := .long) (by decide)
  have F_b0_3_output : Fld Z h3 b0_3 "com/example/allotd/allotd/engine/Tokens" "output" "J" (.long (0 : Int64)) := D3 (Or.inr (hw _ (List.mem_of_getElem? (i := 13) rfl))) (ty := .long) (by decide)
  obtain ⟨_, _, ⟨T4, L4, k4, n4⟩, -, X4, ⟨Lc4, hQ4, l4, y4, z4⟩, st4⟩ := X3.specialBack hx (y := (⟨"com/example/allotd/allotd/engine/Tokens", "<init>", "(JJ)V"⟩ : MethodName)) rfl hown (mvT hZ (hw _ (List.mem_of_getElem? (i := 4) rfl))) (mvT hZ (hw _ (List.mem_of_getElem? (i := 5) rfl))) (mvT hZ (hw _ (List.mem_of_getElem? (i := 6) rfl))) (by decide) (backOf (W := 1) (rm1_13 l Z a0 hw [] m0 m3 b0_3 h3 n0 Z3 hn0 hn3 E_b0_3 F_b0_3_input g_b0_3 F_b0_3_output) hZ (hw _ (List.mem_of_getElem? (i := 6) rfl)) (hw _ (List.mem_of_getElem? (i := 3) rfl)) (by decide) (by decide)) (g := (mkF m 75 #[own_jv p0, .second, own_jv p1, .second, own_jv p2, .second, own_jv p3, .second, iv p4, own_jv m0, .second, own_jv m1, .second, own_jv m0, .second, own_jv m3, .second, rv b0_1, .unset, .unset, .unset] [(.long m3), (.long m0), (.ref b0_3), (.ref b0_3)])) rfl (by rw [hml]; rfl) (Steps.refl _) (a := b0_3) (argsL := [(.long m0), (.long m3)]) (rest := [(.ref b0_3)]) (lenOf pd_2 rfl) rfl (by show 2 * 0 + _ ≤ _; exact Nat.le_of_eq rfl) (hb hby at_75) (fun _ _ => ⟨rfl, e3, (by decide : 2 + 0 ≤ _), (by decide : 4 + 0 ≤ _)⟩)
  dsimp only [Pt.U, Pt.locs, Pt.cells, Pt.slots] at X4 l4 y4 z4 st4 hQ4
  subst l4 y4 z4
  obtain ⟨rfl, N4q, K4, fq4_0, fq4_1, fq4_2⟩ := hQ4
  have KK4 : Keep h0 T4.heap [] := KK3.trans K4 (allS (P := fun x => x ∈ [] ∨ h0.size ≤ x) (Or.inr sz_b0_3) all0)
  have Z4 : n0 ≤ T4.heap.size := Nat.le_trans Z3 K4.1
  have N4 := Fr.app N2 N4q
  have c6 := ((fq2_2.ext E3).keep K4)
  obtain ⟨cq5, kq5, q5a, q5b, q5c⟩ := isOf hZ rfl c6
  obtain ⟨_, _, ⟨T5, L5, k5, n5⟩, -, X5, ⟨Lc5, hQ5, l5, y5, z5⟩, st5⟩ := X4.virtualBack hx (y := (⟨"com/example/allotd/allotd/engine/Tokens", "equals", "(Ljava/lang/Object;)Z"⟩ : MethodName)) (z := (⟨"com/example/allotd/allotd/engine/Tokens", "equals", "(Ljava/lang/Object;)Z"⟩ : MethodName)) hown (mvT hZ (hw _ (List.mem_of_getElem? (i := 14) rfl))) (mvT hZ (hw _ (List.mem_of_getElem? (i := 15) rfl))) (notFace_of_selects (args := #[]) (mvT hZ (hw _ (List.mem_of_getElem? (i := 17) rfl)))) (mvT hZ (hw _ (List.mem_of_getElem? (i := 17) rfl))) (mvT hZ (hw _ (List.mem_of_getElem? (i := 16) rfl))) (by decide) (backOf (W := 0) (rm3_21 l Z a0 hw [] b0_1 T4.heap n0 Z4 ) hZ (hw _ (List.mem_of_getElem? (i := 18) rfl)) (hw _ (List.mem_of_getElem? (i := 3) rfl)) (by decide) (by decide)) q5a q5c (g := (mkF m 159 #[own_jv p0, .second, own_jv p1, .second, own_jv p2, .second, own_jv p3, .second, iv p4, own_jv m0, .second, own_jv m1, .second, own_jv m0, .second, own_jv m3, .second, rv b0_1, rv b0_3, iv (1 : Int32), .val .null] [.null, (.ref b0_1)])) rfl (by rw [hml]; rfl) (Steps.refl _) (argsL := [.null]) (rest := []) (lenOf pd_3 rfl) rfl (by show 2 * 0 + _ ≤ _; exact Nat.le_of_eq rfl) (hb hby at_159) (fun _ _ => ⟨rfl, rfl, (by decide : 2 + 0 ≤ _), (by decide : 4 + 0 ≤ _)⟩)
  dsimp only [Pt.U, Pt.locs, Pt.cells, Pt.slots] at X5 l5 y5 z5 st5 hQ5
  subst l5 y5 z5
  obtain ⟨rfl, N5q, e5⟩ := hQ5
  have N5 := Fr.app N4 N5q
  obtain ⟨fs, hr, hrun, hended, hW, hsame⟩ := X5.leave (v := (some (.int (1 : Int32)))) (fun h => by rw [Bd.returns] at h; cases h)
  refine ⟨_, _, pre0 _ ?_, hrun, hended, _, _, rfl, ?_, ⟨_, rfl⟩, hW, hsame.mono (by decide) (by decide)⟩
  · show Steps p.tables e below (s₁.setTop (mkF m 0 #[own_jv p0, .second, own_jv p1, .second, own_jv p2, .second, own_jv p3, .second, iv p4, .unset, .unset, .unset, .unset, .unset, .unset, .unset, .unset, .unset, .unset, .unset, .unset] [])) _
    refine XS.lloadN X0.here hx rfl (hb hby at_0) rfl ?_
    refine X0.ldc2Long hx hown (mvT hZ (hw _ (List.mem_of_getElem? (i := 0) rfl))) (g := (mkF m 1 #[own_jv p0, .second, own_jv p1, .second, own_jv p2, .second, own_jv p3, .second, iv p4, .unset, .unset, .unset, .unset, .unset, .unset, .unset, .unset, .unset, .unset, .unset, .unset] [(.long p0)])) rfl (hb hby at_1) _ ?_
    refine XS.land X0.here hx rfl (hb hby at_4) rfl ?_
    show Steps p.tables e below (s₁.setTop (mkF m 5 #[own_jv p0, .second, own_jv p1, .second, own_jv p2, .second, own_jv p3, .second, iv p4, .unset, .unset, .unset, .unset, .unset, .unset, .unset, .unset, .unset, .unset, .unset, .unset] [(.long (p0 &&& (9223372036854775807 : Int64)))])) _
    rewrite [hm0]
    refine XS.lstore X0.here hx rfl (hb hby at_5) rfl (l' := #[own_jv p0, .second, own_jv p1, .second, own_jv p2, .second, own_jv p3, .second, iv p4, own_jv m0, .second, .unset, .unset, .unset, .unset, .unset, .unset, .unset, .unset, .unset, .unset]) rfl ?_
    refine XS.lloadN X0.here hx rfl (hb hby at_7) rfl ?_
    refine X0.ldc2Long hx hown (mvT hZ (hw _ (List.mem_of_getElem? (i := 0) rfl))) (g := (mkF m 8 #[own_jv p0, .second, own_jv p1, .second, own_jv p2, .second, own_jv p3, .second, iv p4, own_jv m0, .second, .unset, .unset, .unset, .unset, .unset, .unset, .unset, .unset, .unset, .unset] [(.long p1)])) rfl (hb hby at_8) _ ?_
    refine XS.land X0.here hx rfl (hb hby at_11) rfl ?_
    show Steps p.tables e below (s₁.setTop (mkF m 12 #[own_jv p0, .second, own_jv p1, .second, own_jv p2, .second, own_jv p3, .second, iv p4, own_jv m0, .second, .unset, .unset, .unset, .unset, .unset, .unset, .unset, .unset, .unset, .unset] [(.long (p1 &&& (9223372036854775807 : Int64)))])) _
    rewrite [hm1]
    refine XS.lstore X0.here hx rfl (hb hby at_12) rfl (l' := #[own_jv p0, .second, own_jv p1, .second, own_jv p2, .second, own_jv p3, .second, iv p4, own_jv m0, .second, own_jv m1, .second, .unset, .unset, .unset, .unset, .unset, .unset, .unset, .unset]) rfl ?_
    show Steps p.tables e below (s₁.setTop (mkF m 14 #[own_jv p0, .second, own_jv p1, .second, own_jv p2, .second, own_jv p3, .second, iv p4, own_jv m0, .second, own_jv m1, .second, .unset, .unset, .unset, .unset, .unset, .unset, .unset, .unset] [])) _
    refine XS.iload X0.here hx rfl (hb hby at_14) rfl ?_
    refine XS.iconst X0.here hx rfl (hb hby at_16) ?_
    refine XS.iand X0.here hx rfl (hb hby at_17) rfl ?_
    show Steps p.tables e below (s₁.setTop (mkF m 18 #[own_jv p0, .second, own_jv p1, .second, own_jv p2, .second, own_jv p3, .second, iv p4, own_jv m0, .second, own_jv m1, .second, .unset, .unset, .unset, .unset, .unset, .unset, .unset, .unset] [(.int (p4 &&& (1 : Int32)))])) _
    rewrite [hk1]
    refine XS.ifNo X0.here hx rfl (hb hby at_18) rfl ((if0 _ _).trans (feq (by decide +kernel : ¬ ((1 : Int32) = (0 : Int32)))).1) ?_
    refine XS.lload X0.here hx rfl (hb hby at_21) rfl ?_
    refine XS.goto X0.here hx rfl (pc0 := 23) (pc' := 32) rfl (hb hby at_23) (by decide) (by decide) ?_
    refine XS.lstore X0.here hx rfl (hb hby at_32) rfl (l' := #[own_jv p0, .second, own_jv p1, .second, own_jv p2, .second, own_jv p3, .second, iv p4, own_jv m0, .second, own_jv m1, .second, own_jv m0, .second, .unset, .unset, .unset, .unset, .unset, .unset]) rfl ?_
    refine XS.iload X0.here hx rfl (hb hby at_34) rfl ?_
    show Steps p.tables e below (s₁.setTop (mkF m 36 #[own_jv p0, .second, own_jv p1, .second, own_jv p2, .second, own_jv p3, .second, iv p4, own_jv m0, .second, own_jv m1, .second, own_jv m0, .second, .unset, .unset, .unset, .unset, .unset, .unset] [(.int p4)])) _
    refine XS.iconst X0.here hx rfl (hb hby at_36) ?_
    refine XS.iand X0.here hx rfl (hb hby at_37) rfl ?_
    refine XS.ifYes X0.here hx rfl (pc0 := 38) (pc' := 46) rfl (hb hby at_38) rfl ((if0 _ _).trans (teq hk2).1) (by decide) (by decide) ?_
    refine XS.lload X0.here hx rfl (hb hby at_46) rfl ?_
    refine X0.ldc2Long hx hown (mvT hZ (hw _ (List.mem_of_getElem? (i := 0) rfl))) (g := (mkF m 48 #[own_jv p0, .second, own_jv p1, .second, own_jv p2, .second, own_jv p3, .second, iv p4, own_jv m0, .second, own_jv m1, .second, own_jv m0, .second, .unset, .unset, .unset, .unset, .unset, .unset] [(.long p3)])) rfl (hb hby at_48) _ ?_
    refine XS.land X0.here hx rfl (hb hby at_51) rfl ?_
    show Steps p.tables e below (s₁.setTop (mkF m 52 #[own_jv p0, .second, own_jv p1, .second, own_jv p2, .second, own_jv p3, .second, iv p4, own_jv m0, .second, own_jv m1, .second, own_jv m0, .second, .unset, .unset, .unset, .unset, .unset, .unset] [(.long (p3 &&& (9223372036854775807 : Int64)))])) _
    rewrite [hm3]
    refine XS.lstore X0.here hx rfl (hb hby at_52) rfl (l' := #[own_jv p0, .second, own_jv p1, .second, own_jv p2, .second, own_jv p3, .second, iv p4, own_jv m0, .second, own_jv m1, .second, own_jv m0, .second, own_jv m3, .second, .unset, .unset, .unset, .unset]) rfl ?_
    refine st1 _ ?_
    show Steps p.tables e below (T1.setTop (mkF m 57 #[own_jv p0, .second, own_jv p1, .second, own_jv p2, .second, own_jv p3, .second, iv p4, own_jv m0, .second, own_jv m1, .second, own_jv m0, .second, own_jv m3, .second, .unset, .unset, .unset, .unset] [(.ref b0_1)])) _
    refine XS.dup X1.here hx rfl (hb hby at_57) rfl rfl ?_
    refine XS.lload X1.here hx rfl (hb hby at_58) rfl ?_
    refine XS.lload X1.here hx rfl (hb hby at_60) rfl ?_
    refine st2.trans ?_
    refine XS.astore X2.here hx rfl (hb hby at_65) rfl rfl (l' := #[own_jv p0, .second, own_jv p1, .second, own_jv p2, .second, own_jv p3, .second, iv p4, own_jv m0, .second, own_jv m1, .second, own_jv m0, .second, own_jv m3, .second, rv b0_1, .unset, .unset, .unset]) rfl ?_
    refine st3 _ ?_
    refine XS.dup X3.here hx rfl (hb hby at_70) rfl rfl ?_
    refine XS.lload X3.here hx rfl (hb hby at_71) rfl ?_
    show Steps p.tables e below (T3.setTop (mkF m 73 #[own_jv p0, .second, own_jv p1, .second, own_jv p2, .second, own_jv p3, .second, iv p4, own_jv m0, .second, own_jv m1, .second, own_jv m0, .second, own_jv m3, .second, rv b0_1, .unset, .unset, .unset] [(.long m0), (.ref b0_3), (.ref b0_3)])) _
    refine XS.lload X3.here hx rfl (hb hby at_73) rfl ?_
    refine st4.trans ?_
    refine XS.astore X4.here hx rfl (hb hby at_78) rfl rfl (l' := #[own_jv p0, .second, own_jv p1, .second, own_jv p2, .second, own_jv p3, .second, iv p4, own_jv m0, .second, own_jv m1, .second, own_jv m0, .second, own_jv m3, .second, rv b0_1, rv b0_3, .unset, .unset]) rfl ?_
    refine XS.iload X4.here hx rfl (hb hby at_80) rfl ?_
    refine XS.iconst X4.here hx rfl (hb hby at_82) ?_
    refine XS.iushr X4.here hx rfl (hb hby at_83) rfl ?_
    refine XS.iconst X4.here hx rfl (hb hby at_84) ?_
    refine XS.iand X4.here hx rfl (hb hby at_85) rfl ?_
    show Steps p.tables e below (T4.setTop (mkF m 86 #[own_jv p0, .second, own_jv p1, .second, own_jv p2, .second, own_jv p3, .second, iv p4, own_jv m0, .second, own_jv m1, .second, own_jv m0, .second, own_jv m3, .second, rv b0_1, rv b0_3, .unset, .unset] [(.int (((p4.toUInt32 >>> ((2 : Int32) &&& 31).toUInt32).toInt32) &&& (3 : Int32)))])) _
    rewrite [hkk]
    show Steps p.tables e below (T4.setTop (mkF m 86 #[own_jv p0, .second, own_jv p1, .second, own_jv p2, .second, own_jv p3, .second, iv p4, own_jv m0, .second, own_jv m1, .second, own_jv m0, .second, own_jv m3, .second, rv b0_1, rv b0_3, .unset, .unset] [(.int (1 : Int32))])) _
    refine XS.istore X4.here hx rfl (hb hby at_86) rfl (l' := #[own_jv p0, .second, own_jv p1, .second, own_jv p2, .second, own_jv p3, .second, iv p4, own_jv m0, .second, own_jv m1, .second, own_jv m0, .second, own_jv m3, .second, rv b0_1, rv b0_3, iv (1 : Int32), .unset]) rfl ?_
    refine XS.iload X4.here hx rfl (hb hby at_88) rfl ?_
    refine XS.ifYes X4.here hx rfl (pc0 := 90) (pc' := 146) rfl (hb hby at_90) rfl ((if0 _ _).trans (feq (by decide +kernel : ¬ ((1 : Int32) = (0 : Int32)))).2) (by decide) (by decide) ?_
    refine XS.iload X4.here hx rfl (hb hby at_146) rfl ?_
    refine XS.iconst X4.here hx rfl (hb hby at_148) ?_
    refine XS.icmpNo X4.here hx rfl (hb hby at_149) rfl (teq (by decide +kernel : (1 : Int32) = (1 : Int32))).2 ?_
    refine XS.aconstNull X4.here hx rfl (hb hby at_152) ?_
    refine XS.astore X4.here hx rfl (hb hby at_153) rfl rfl (l' := #[own_jv p0, .second, own_jv p1, .second, own_jv p2, .second, own_jv p3, .second, iv p4, own_jv m0, .second, own_jv m1, .second, own_jv m0, .second, own_jv m3, .second, rv b0_1, rv b0_3, iv (1 : Int32), .val .null]) rfl ?_
    show Steps p.tables e below (T4.setTop (mkF m 155 #[own_jv p0, .second, own_jv p1, .second, own_jv p2, .second, own_jv p3, .second, iv p4, own_jv m0, .second, own_jv m1, .second, own_jv m0, .second, own_jv m3, .second, rv b0_1, rv b0_3, iv (1 : Int32), .val .null] [])) _
    refine XS.aload X4.here hx rfl (hb hby at_155) rfl rfl ?_
    refine XS.aload X4.here hx rfl (hb hby at_157) rfl rfl ?_
    refine st5.trans ?_
    refine XS.ifNo X5.here hx rfl (hb hby at_162) rfl ((if0 _ _).trans (teq (by decide +kernel : (0 : Int32) = (0 : Int32))).2) ?_
    refine XS.iconst X5.here hx rfl (hb hby at_165) ?_
    refine XS.goto X5.here hx rfl (pc0 := 166) (pc' := 170) rfl (hb hby at_166) (by decide) (by decide) ?_
    exact retN X5 hx (t := .boolean) Bd.returns (by simp) (hb hby at_170) hr
  · exact ⟨rfl, N5⟩
set_option maxRecDepth 65536 in
set_option maxHeartbeats 40000000 in
theorem rm0_12 (l : Launch) (Z : State) (a0 : Array Value) (hw : ∀ d ∈ tables_1, d.before a0 Z = true) (ws : List Jvm.Cond) (p0 : Int64) (p1 : Int64) (p2 : Int64) (p3 : Int64) (p4 : Int32) (m0 : Int64) (m1 : Int64) (h0 : Heap) (n0 : Nat) (Z0 : n0 ≤ h0.size) (hm0 : (p0 &&& (9223372036854775807 : Int64)) = m0) (hm1 : (p1 &&& (9223372036854775807 : Int64)) = m1) (hk1 : (p4 &&& (1 : Int32)) = (1 : Int32)) (hk2 : ¬ ((p4 &&& (2 : Int32)) = (0 : Int32))) (hn0 : ¬ (m0 < (0 : Int64))) (hn1 : ¬ (m1 < (0 : Int64))) (hkk : (((p4.toUInt32 >>> ((2 : Int32) &&& 31).toUInt32).toInt32) &&& (3 : Int32)) = (1 : Int32)) :
    MetFree l x (head1 (Jvm.Cond.code x code maxLocals ret :: ws) room_1) (fun a U => a = #[(.long p0), (.long p1), (.long p2), (.long p3), (.int p4)] ∧ Z.Warmed39 U.vm ∧ U.heap = h0) (fun _ _ _ _ _ => True) (fun _ U o U' => ∃ v L, o = .returned v ∧ own_QL n0 v U'.heap L ∧ FrameEnd U o U' L room_1.cells room_1.slots) := by
  refine MetFree.of_bodySF (plainFor_of_name pn_3) hisR ?_
  intro p e s m args below meth c s₁ Bd hml0 hP hK
  obtain ⟨rfl, hZ, hh⟩ := hP
  have hx := Bd.exec
  have hby := Bd.bytes
  have hml : c.maxLocals = 21 := hml0
  have hown : s.vm.findClass "com/example/allotd/allotd/engine/TokensEqualsPinLaw" = some m.cls := findClass_of_methodNamed Bd.named
  have hnm := (name_of_methodNamed Bd.named Bd.method).1
  have X0 : Stand p l e room_1 s m #[(.long p0), (.long p1), (.long p2), (.long p3), (.int p4)] below meth c s₁ [] 0 0 := Stand.of_body Bd
  have e0 : s₁.heap = h0 := by rw [← hh, Bd.state]; rfl
  have N0 := Fr.nil n0
  have pre0 : ∀ t, Steps p.tables e below (s₁.setTop (mkF m 0 #[own_jv p0, .second, own_jv p1, .second, own_jv p2, .second, own_jv p3, .second, iv p4, .unset, .unset, .unset, .unset, .unset, .unset, .unset, .unset, .unset, .unset, .unset, .unset] [])) t → Steps p.tables e below (s₁.setTop (entryFrame m #[(.long p0), (.long p1), (.long p2), (.long p3), (.int p4)] maxLocals)) t := fun t k => castTop (ef_0_JJJJI m p0 p1 p2 p3 p4) k
  obtain ⟨T1, h1, X1, e1, E1, A1, D1, -, st1⟩ := newO X0 hx hZ hown (hw _ (List.mem_of_getElem? (i := 1) rfl)) (hw _ (List.mem_of_getElem? (i := 2) rfl)) (hw _ (List.mem_of_getElem? (i := 3) rfl)) e0 (g := (mkF m 54 #[own_jv p0, .second, own_jv p1, .second, own_jv p2, .second, own_jv p3, .second, iv p4, own_jv m0, .second, own_jv m1, .second, own_jv m0, .second, own_jv m1, .second, .unset, .unset, .unset, .unset] [])) rfl (hb hby at_54) (by decide) (by decide)
  obtain ⟨b0_1, gg1⟩ : ∃ z, z = h0.size := ⟨_, rfl⟩
  rw [← gg1] at A1 D1 st1
  have g_b0_1 : n0 ≤ b0_1 := Nat.le_trans Z0 (Nat.le_of_eq gg1.symm)
  have sz_b0_1 : h0.size ≤ b0_1 := Nat.le_trans (Keep.refl h0 []).1 (Nat.le_of_eq gg1.symm)
  have Z1 : n0 ≤ h1.size := Nat.le_trans Z0 E1.1
  have KK1 : Keep h0 h1 [] := (Keep.refl h0 []).ext E1
  have E_b0_1 : Exa Z h1 b0_1 "com/example/allotd/allotd/engine/Tokens" := A1
  have F_b0_1_input : Fld Z h1 b0_1 "com/example/allotd/allotd/engine/Tokens" "input" "J" (.long (0 : Int64)) := D1 (Or.inr (hw _ (List.mem_of_getElem? (i := 11) rfl))) (ty := .long) (by decide)
  have F_b0_1_output : Fld Z h1 b0_1 "com/example/allotd/allotd/engine/Tokens" "output" "J" (.long (0 : Int64)) := D1 (Or.inr (hw _ (List.mem_of_getElem? (i := 13) rfl))) (ty := .long) (by decide)
  obtain ⟨_, _, ⟨T2, L2, k2, n2⟩, -, X2, ⟨Lc2, hQ2, l2, y2, z2⟩, st2⟩ := X1.specialBack hx (y := (⟨"com/example/allotd/allotd/engine/Tokens", "<init>", "(JJ)V"⟩ : MethodName)) rfl hown (mvT hZ (hw _ (List.mem_of_getElem? (i := 4) rfl))) (mvT hZ (hw _ (List.mem_of_getElem? (i := 5) rfl))) (mvT hZ (hw _ (List.mem_of_getElem? (i := 6) rfl))) (by decide) (backOf (W := 1) (rm1_2 l Z a0 hw [] m0 m1 b0_1 h1 n0 Z1 hn0 hn1 E_b0_1 F_b0_1_input g_b0_1 F_b0_1_output) hZ (hw _ (List.mem_of_getElem? (i := 6) rfl)) (hw _ (List.mem_of_getElem? (i := 3) rfl)) (by decide) (by decide)) (g := (mkF m 62 #[own_jv p0, .second, own_jv p1, .second, own_jv p2, .second, own_jv p3, .second, iv p4, own_jv m0, .second, own_jv m1, .second, own_jv m0, .second, own_jv m1, .second, .unset, .unset, .unset, .unset] [(.long m1), (.long m0), (.ref b0_1), (.ref b0_1)])) rfl (by rw [hml]; rfl) (Steps.refl _) (a := b0_1) (argsL := [(.long m0), (.long m1)]) (rest := [(.ref b0_1)]) (lenOf pd_2 rfl) rfl (by show 2 * 0 + _ ≤ _; exact Nat.le_of_eq rfl) (hb hby at_62) (fun _ _ => ⟨rfl, e1, (by decide : 1 + 0 ≤ _), (by decide : 2 + 0 ≤ _)⟩)
  dsimp only [Pt.U, Pt.locs, Pt.cells, Pt.slots] at X2 l2 y2 z2 st2 hQ2
  subst l2 y2 z2
  obtain ⟨rfl, N2q, K2, fq2_0, fq2_1, fq2_2⟩ := hQ2
  have KK2 : Keep h0 T2.heap [] := KK1.trans K2 (allS (P := fun x => x ∈ [] ∨ h0.size ≤ x) (Or.inr sz_b0_1) all0)
  have Z2 : n0 ≤ T2.heap.size := Nat.le_trans Z1 K2.1
  have N2 := Fr.app N0 N2q
  obtain ⟨T3, h3, X3, e3, E3, A3, D3, -, st3⟩ := newO X2 hx hZ hown (hw _ (List.mem_of_getElem? (i := 1) rfl)) (hw _ (List.mem_of_getElem? (i := 2) rfl)) (hw _ (List.mem_of_getElem? (i := 3) rfl)) rfl (g := (mkF m 67 #[own_jv p0, .second, own_jv p1, .second, own_jv p2, .second, own_jv p3, .second, iv p4, own_jv m0, .second, own_jv m1, .second, own_jv m0, .second, own_jv m1, .second, rv b0_1, .unset, .unset, .unset] [])) rfl (hb hby at_67) (by decide) (by decide)
  obtain ⟨b0_3, gg3⟩ : ∃ z, z = T2.heap.size := ⟨_, rfl⟩
  rw [← gg3] at A3 D3 st3
  have g_b0_3 : n0 ≤ b0_3 := Nat.le_trans Z2 (Nat.le_of_eq gg3.symm)
  have sz_b0_3 : h0.size ≤ b0_3 := Nat.le_trans KK2.1 (Nat.le_of_eq gg3.symm)
  have Z3 : n0 ≤ h3.size := Nat.le_trans Z2 E3.1
  have KK3 : Keep h0 h3 [] := KK2.ext E3
  have E_b0_3 : Exa Z h3 b0_3 "com/example/allotd/allotd/engine/Tokens" := A3
  have F_b0_3_input : Fld Z h3 b0_3 "com/example/allotd/allotd/engine/Tokens" "input" "J" (.long (0 : Int64)) := D3 (Or.inr (hw _ (List.mem_of_getElem? (i := 11) rfl))) (ty := .long) (by decide)
  have F_b0_3_output : Fld Z h3 b0_3 "com/example/allotd/allotd/engine/Tokens" "output" "J" (.long (0 : Int64)) := D3 (Or.inr (hw _ (List.mem_of_getElem? (i := 13) rfl))) (ty := .long) (by decide)
  obtain ⟨_, _, ⟨T4, L4, k4, n4⟩, -, X4, ⟨Lc4, hQ4, l4, y4, z4⟩, st4⟩ := X3.specialBack hx (y := (⟨"com/example/allotd/allotd/engine/Tokens", "<init>", "(JJ)V"⟩ : MethodName)) rfl hown (mvT hZ (hw _ (List.mem_of_getElem? (i := 4) rfl))) (mvT hZ (hw _ (List.mem_of_getElem? (i := 5) rfl))) (mvT hZ (hw _ (List.mem_of_getElem? (i := 6) rfl))) (by decide) (backOf (W := 1) (rm1_18 l Z a0 hw [] m0 m1 b0_3 h3 n0 Z3 hn0 hn1 E_b0_3 F_b0_3_input g_b0_3 F_b0_3_output) hZ (hw _ (List.mem_of_getElem? (i := 6) rfl)) (hw _ (List.mem_of_getElem? (i := 3) rfl)) (by decide) (by decide)) (g := (mkF m 75 #[own_jv p0, .second, own_jv p1, .second, own_jv p2, .second, own_jv p3, .second, iv p4, own_jv m0, .second, own_jv m1, .second, own_jv m0, .second, own_jv m1, .second, rv b0_1, .unset, .unset, .unset] [(.long m1), (.long m0), (.ref b0_3), (.ref b0_3)])) rfl (by rw [hml]; rfl) (Steps.refl _) (a := b0_3) (argsL := [(.long m0), (.long m1)]) (rest := [(.ref b0_3)]) (lenOf pd_2 rfl) rfl (by show 2 * 0 + _ ≤ _; exact Nat.le_of_eq rfl) (hb hby at_75) (fun _ _ => ⟨rfl, e3, (by decide : 2 + 0 ≤ _), (by decide : 4 + 0 ≤ _)⟩)
  dsimp only [Pt.U, Pt.locs, Pt.cells, Pt.slots] at X4 l4 y4 z4 st4 hQ4
  subst l4 y4 z4
  obtain ⟨rfl, N4q, K4, fq4_0, fq4_1, fq4_2⟩ := hQ4
  have KK4 : Keep h0 T4.heap [] := KK3.trans K4 (allS (P := fun x => x ∈ [] ∨ h0.size ≤ x) (Or.inr sz_b0_3) all0)
  have Z4 : n0 ≤ T4.heap.size := Nat.le_trans Z3 K4.1
  have N4 := Fr.app N2 N4q
  have c6 := ((fq2_2.ext E3).keep K4)
  obtain ⟨cq5, kq5, q5a, q5b, q5c⟩ := isOf hZ rfl c6
  obtain ⟨_, _, ⟨T5, L5, k5, n5⟩, -, X5, ⟨Lc5, hQ5, l5, y5, z5⟩, st5⟩ := X4.virtualBack hx (y := (⟨"com/example/allotd/allotd/engine/Tokens", "equals", "(Ljava/lang/Object;)Z"⟩ : MethodName)) (z := (⟨"com/example/allotd/allotd/engine/Tokens", "equals", "(Ljava/lang/Object;)Z"⟩ : MethodName)) hown (mvT hZ (hw _ (List.mem_of_getElem? (i := 14) rfl))) (mvT hZ (hw _ (List.mem_of_getElem? (i := 15) rfl))) (notFace_of_selects (args := #[]) (mvT hZ (hw _ (List.mem_of_getElem? (i := 17) rfl)))) (mvT hZ (hw _ (List.mem_of_getElem? (i := 17) rfl))) (mvT hZ (hw _ (List.mem_of_getElem? (i := 16) rfl))) (by decide) (backOf (W := 0) (rm3_21 l Z a0 hw [] b0_1 T4.heap n0 Z4 ) hZ (hw _ (List.mem_of_getElem? (i := 18) rfl)) (hw _ (List.mem_of_getElem? (i := 3) rfl)) (by decide) (by decide)) q5a q5c (g := (mkF m 159 #[own_jv p0, .second, own_jv p1, .second, own_jv p2, .second, own_jv p3, .second, iv p4, own_jv m0, .second, own_jv m1, .second, own_jv m0, .second, own_jv m1, .second, rv b0_1, rv b0_3, iv (1 : Int32), .val .null] [.null, (.ref b0_1)])) rfl (by rw [hml]; rfl) (Steps.refl _) (argsL := [.null]) (rest := []) (lenOf pd_3 rfl) rfl (by show 2 * 0 + _ ≤ _; exact Nat.le_of_eq rfl) (hb hby at_159) (fun _ _ => ⟨rfl, rfl, (by decide : 2 + 0 ≤ _), (by decide : 4 + 0 ≤ _)⟩)
  dsimp only [Pt.U, Pt.locs, Pt.cells, Pt.slots] at X5 l5 y5 z5 st5 hQ5
  subst l5 y5 z5
  obtain ⟨rfl, N5q, e5⟩ := hQ5
  have N5 := Fr.app N4 N5q
  obtain ⟨fs, hr, hrun, hended, hW, hsame⟩ := X5.leave (v := (some (.int (1 : Int32)))) (fun h => by rw [Bd.returns] at h; cases h)
  refine ⟨_, _, pre0 _ ?_, hrun, hended, _, _, rfl, ?_, ⟨_, rfl⟩, hW, hsame.mono (by decide) (by decide)⟩
  · show Steps p.tables e below (s₁.setTop (mkF m 0 #[own_jv p0, .second, own_jv p1, .second, own_jv p2, .second, own_jv p3, .second, iv p4, .unset, .unset, .unset, .unset, .unset, .unset, .unset, .unset, .unset, .unset, .unset, .unset] [])) _
    refine XS.lloadN X0.here hx rfl (hb hby at_0) rfl ?_
    refine X0.ldc2Long hx hown (mvT hZ (hw _ (List.mem_of_getElem? (i := 0) rfl))) (g := (mkF m 1 #[own_jv p0, .second, own_jv p1, .second, own_jv p2, .second, own_jv p3, .second, iv p4, .unset, .unset, .unset, .unset, .unset, .unset, .unset, .unset, .unset, .unset, .unset, .unset] [(.long p0)])) rfl (hb hby at_1) _ ?_
    refine XS.land X0.here hx rfl (hb hby at_4) rfl ?_
    show Steps p.tables e below (s₁.setTop (mkF m 5 #[own_jv p0, .second, own_jv p1, .second, own_jv p2, .second, own_jv p3, .second, iv p4, .unset, .unset, .unset, .unset, .unset, .unset, .unset, .unset, .unset, .unset, .unset, .unset] [(.long (p0 &&& (9223372036854775807 : Int64)))])) _
    rewrite [hm0]
    refine XS.lstore X0.here hx rfl (hb hby at_5) rfl (l' := #[own_jv p0, .second, own_jv p1, .second, own_jv p2, .second, own_jv p3, .second, iv p4, own_jv m0, .second, .unset, .unset, .unset, .unset, .unset, .unset, .unset, .unset, .unset, .unset]) rfl ?_
    refine XS.lloadN X0.here hx rfl (hb hby at_7) rfl ?_
    refine X0.ldc2Long hx hown (mvT hZ (hw _ (List.mem_of_getElem? (i := 0) rfl))) (g := (mkF m 8 #[own_jv p0, .second, own_jv p1, .second, own_jv p2, .second, own_jv p3, .second, iv p4, own_jv m0, .second, .unset, .unset, .unset, .unset, .unset, .unset, .unset, .unset, .unset, .unset] [(.long p1)])) rfl (hb hby at_8) _ ?_
    refine XS.land X0.here hx rfl (hb hby at_11) rfl ?_
    show Steps p.tables e below (s₁.setTop (mkF m 12 #[own_jv p0, .second, own_jv p1, .second, own_jv p2, .second, own_jv p3, .second, iv p4, own_jv m0, .second, .unset, .unset, .unset, .unset, .unset, .unset, .unset, .unset, .unset, .unset] [(.long (p1 &&& (9223372036854775807 : Int64)))])) _
    rewrite [hm1]
    refine XS.lstore X0.here hx rfl (hb hby at_12) rfl (l' := #[own_jv p0, .second, own_jv p1, .second, own_jv p2, .second, own_jv p3, .second, iv p4, own_jv m0, .second, own_jv m1, .second, .unset, .unset, .unset, .unset, .unset, .unset, .unset, .unset]) rfl ?_
    show Steps p.tables e below (s₁.setTop (mkF m 14 #[own_jv p0, .second, own_jv p1, .second, own_jv p2, .second, own_jv p3, .second, iv p4, own_jv m0, .second, own_jv m1, .second, .unset, .unset, .unset, .unset, .unset, .unset, .unset, .unset] [])) _
    refine XS.iload X0.here hx rfl (hb hby at_14) rfl ?_
    refine XS.iconst X0.here hx rfl (hb hby at_16) ?_
    refine XS.iand X0.here hx rfl (hb hby at_17) rfl ?_
    show Steps p.tables e below (s₁.setTop (mkF m 18 #[own_jv p0, .second, own_jv p1, .second, own_jv p2, .second, own_jv p3, .second, iv p4, own_jv m0, .second, own_jv m1, .second, .unset, .unset, .unset, .unset, .unset, .unset, .unset, .unset] [(.int (p4 &&& (1 : Int32)))])) _
    rewrite [hk1]
    refine XS.ifNo X0.here hx rfl (hb hby at_18) rfl ((if0 _ _).trans (feq (by decide +kernel : ¬ ((1 : Int32) = (0 : Int32)))).1) ?_
    refine XS.lload X0.here hx rfl (hb hby at_21) rfl ?_
    refine XS.goto X0.here hx rfl (pc0 := 23) (pc' := 32) rfl (hb hby at_23) (by decide) (by decide) ?_
    refine XS.lstore X0.here hx rfl (hb hby at_32) rfl (l' := #[own_jv p0, .second, own_jv p1, .second, own_jv p2, .second, own_jv p3, .second, iv p4, own_jv m0, .second, own_jv m1, .second, own_jv m0, .second, .unset, .unset, .unset, .unset, .unset, .unset]) rfl ?_
    refine XS.iload X0.here hx rfl (hb hby at_34) rfl ?_
    show Steps p.tables e below (s₁.setTop (mkF m 36 #[own_jv p0, .second, own_jv p1, .second, own_jv p2, .second, own_jv p3, .second, iv p4, own_jv m0, .second, own_jv m1, .second, own_jv m0, .second, .unset, .unset, .unset, .unset, .unset, .unset] [(.int p4)])) _
    refine XS.iconst X0.here hx rfl (hb hby at_36) ?_
    refine XS.iand X0.here hx rfl (hb hby at_37) rfl ?_
    refine XS.ifNo X0.here hx rfl (hb hby at_38) rfl ((if0 _ _).trans (feq hk2).1) ?_
    refine XS.lload X0.here hx rfl (hb hby at_41) rfl ?_
    refine XS.goto X0.here hx rfl (pc0 := 43) (pc' := 52) rfl (hb hby at_43) (by decide) (by decide) ?_
    refine XS.lstore X0.here hx rfl (hb hby at_52) rfl (l' := #[own_jv p0, .second, own_jv p1, .second, own_jv p2, .second, own_jv p3, .second, iv p4, own_jv m0, .second, own_jv m1, .second, own_jv m0, .second, own_jv m1, .second, .unset, .unset, .unset, .unset]) rfl ?_
    refine st1 _ ?_
    refine XS.dup X1.here hx rfl (hb hby at_57) rfl rfl ?_
    show Steps p.tables e below (T1.setTop (mkF m 58 #[own_jv p0, .second, own_jv p1, .second, own_jv p2, .second, own_jv p3, .second, iv p4, own_jv m0, .second, own_jv m1, .second, own_jv m0, .second, own_jv m1, .second, .unset, .unset, .unset, .unset] [(.ref b0_1), (.ref b0_1)])) _
    refine XS.lload X1.here hx rfl (hb hby at_58) rfl ?_
    refine XS.lload X1.here hx rfl (hb hby at_60) rfl ?_
    refine st2.trans ?_
    refine XS.astore X2.here hx rfl (hb hby at_65) rfl rfl (l' := #[own_jv p0, .second, own_jv p1, .second, own_jv p2, .second, own_jv p3, .second, iv p4, own_jv m0, .second, own_jv m1, .second, own_jv m0, .second, own_jv m1, .second, rv b0_1, .unset, .unset, .unset]) rfl ?_
    refine st3 _ ?_
    refine XS.dup X3.here hx rfl (hb hby at_70) rfl rfl ?_
    refine XS.lload X3.here hx rfl (hb hby at_71) rfl ?_
    refine XS.lload X3.here hx rfl (hb hby at_73) rfl ?_
    show Steps p.tables e below (T3.setTop (mkF m 75 #[own_jv p0, .second, own_jv p1, .second, own_jv p2, .second, own_jv p3, .second, iv p4, own_jv m0, .second, own_jv m1, .second, own_jv m0, .second, own_jv m1, .second, rv b0_1, .unset, .unset, .unset] [(.long m1), (.long m0), (.ref b0_3), (.ref b0_3)])) _
    refine st4.trans ?_
    refine XS.astore X4.here hx rfl (hb hby at_78) rfl rfl (l' := #[own_jv p0, .second, own_jv p1, .second, own_jv p2, .second, own_jv p3, .second, iv p4, own_jv m0, .second, own_jv m1, .second, own_jv m0, .second, own_jv m1, .second, rv b0_1, rv b0_3, .unset, .unset]) rfl ?_
    refine XS.iload X4.here hx rfl (hb hby at_80) rfl ?_
    refine XS.iconst X4.here hx rfl (hb hby at_82) ?_
    refine XS.iushr X4.here hx rfl (hb hby at_83) rfl ?_
    refine XS.iconst X4.here hx rfl (hb hby at_84) ?_
    refine XS.iand X4.here hx rfl (hb hby at_85) rfl ?_
    show Steps p.tables e below (T4.setTop (mkF m 86 #[own_jv p0, .second, own_jv p1, .second, own_jv p2, .second, own_jv p3, .second, iv p4, own_jv m0, .second, own_jv m1, .second, own_jv m0, .second, own_jv m1, .second, rv b0_1, rv b0_3, .unset, .unset] [(.int (((p4.toUInt32 >>> ((2 : Int32) &&& 31).toUInt32).toInt32) &&& (3 : Int32)))])) _
    rewrite [hkk]
    refine XS.istore X4.here hx rfl (hb hby at_86) rfl (l' := #[own_jv p0, .second, own_jv p1, .second, own_jv p2, .second, own_jv p3, .second, iv p4, own_jv m0, .second, own_jv m1, .second, own_jv m0, .second, own_jv m1, .second, rv b0_1, rv b0_3, iv (1 : Int32), .unset]) rfl ?_
    show Steps p.tables e below (T4.setTop (mkF m 88 #[own_jv p0, .second, own_jv p1, .second, own_jv p2, .second, own_jv p3, .second, iv p4, own_jv m0, .second, own_jv m1, .second, own_jv m0, .second, own_jv m1, .second, rv b0_1, rv b0_3, iv (1 : Int32), .unset] [])) _
    refine XS.iload X4.here hx rfl (hb hby at_88) rfl ?_
    refine XS.ifYes X4.here hx rfl (pc0 := 90) (pc' := 146) rfl (hb hby at_90) rfl ((if0 _ _).trans (feq (by decide +kernel : ¬ ((1 : Int32) = (0 : Int32)))).2) (by decide) (by decide) ?_
    refine XS.iload X4.here hx rfl (hb hby at_146) rfl ?_
    refine XS.iconst X4.here hx rfl (hb hby at_148) ?_
    refine XS.icmpNo X4.here hx rfl (hb hby at_149) rfl (teq (by decide +kernel : (1 : Int32) = (1 : Int32))).2 ?_
    refine XS.aconstNull X4.here hx rfl (hb hby at_152) ?_
    refine XS.astore X4.here hx rfl (hb hby at_153) rfl rfl (l' := #[own_jv p0, .second, own_jv p1, .second, own_jv p2, .second, own_jv p3, .second, iv p4, own_jv m0, .second, own_jv m1, .second, own_jv m0, .second, own_jv m1, .second, rv b0_1, rv b0_3, iv (1 : Int32), .val .null]) rfl ?_
    refine XS.aload X4.here hx rfl (hb hby at_155) rfl rfl ?_
    show Steps p.tables e below (T4.setTop (mkF m 157 #[own_jv p0, .second, own_jv p1, .second, own_jv p2, .second, own_jv p3, .second, iv p4, own_jv m0, .second, own_jv m1, .second, own_jv m0, .second, own_jv m1, .second, rv b0_1, rv b0_3, iv (1 : Int32), .val .null] [(.ref b0_1)])) _
    refine XS.aload X4.here hx rfl (hb hby at_157) rfl rfl ?_
    refine st5.trans ?_
    refine XS.ifNo X5.here hx rfl (hb hby at_162) rfl ((if0 _ _).trans (teq (by decide +kernel : (0 : Int32) = (0 : Int32))).2) ?_
    refine XS.iconst X5.here hx rfl (hb hby at_165) ?_
    refine XS.goto X5.here hx rfl (pc0 := 166) (pc' := 170) rfl (hb hby at_166) (by decide) (by decide) ?_
    exact retN X5 hx (t := .boolean) Bd.returns (by simp) (hb hby at_170) hr
  · exact ⟨rfl, N5⟩
set_option maxRecDepth 65536 in
set_option maxHeartbeats 40000000 in
theorem rm3_22 (l : Launch) (Z : State) (a0 : Array Value) (hw : ∀ d ∈ tables_1, d.before a0 Z = true) (ws : List Jvm.Cond) (b0_1 : Addr) (b0_5 : Addr) (h0 : Heap) (n0 : Nat) (Z0 : n0 ≤ h0.size) (E_b0_5 : Exa Z h0 b0_5 "java/lang/Long") :
    MetFree l (⟨"com/example/allotd/allotd/engine/Tokens", "equals", "(Ljava/lang/Object;)Z"⟩ : MethodName) (head1 (Jvm.Cond.code (⟨"com/example/allotd/allotd/engine/Tokens", "equals", "(Ljava/lang/Object;)Z"⟩ : MethodName) prog_21_method_4_code 3 (some .boolean) :: ws) ({ frames := 0, cells := 0, slots := 0, locals := 0 } : Room)) (fun a U => a = #[(.ref b0_1), (.ref b0_5)] ∧ Z.Warmed39 U.vm ∧ U.heap = h0) (fun _ _ _ _ _ => True) (fun _ U o U' => ∃ v L, o = .returned v ∧ own_QP (some (.int (0 : Int32))) h0 n0 v U'.heap L ∧ FrameEnd U o U' L ({ frames := 0, cells := 0, slots := 0, locals := 0 } : Room).cells ({ frames := 0, cells := 0, slots := 0, locals := 0 } : Room).slots) := by
  refine MetFree.of_bodySF (plainFor_of_name pn_2) hisR ?_
  intro p e s m args below meth c s₁ Bd hml0 hP hK
  obtain ⟨rfl, hZ, hh⟩ := hP
  have hx := Bd.exec
  have hby := Bd.bytes
  have hml : c.maxLocals = 3 := hml0
  have hown : s.vm.findClass "com/example/allotd/allotd/engine/Tokens" = some m.cls := findClass_of_methodNamed Bd.named
  have hnm := (name_of_methodNamed Bd.named Bd.method).1
  have X0 : Stand p l e ({ frames := 0, cells := 0, slots := 0, locals := 0 } : Room) s m #[(.ref b0_1), (.ref b0_5)] below meth c s₁ [] 0 0 := Stand.of_body Bd
  have e0 : s₁.heap = h0 := by rw [← hh, Bd.state]; rfl
  have N0 := Fr.nil n0
  have pre0 : ∀ t, Steps p.tables e below (s₁.setTop (mkF m 0 #[rv b0_1, rv b0_5, .unset] [])) t → Steps p.tables e below (s₁.setTop (entryFrame m #[(.ref b0_1), (.ref b0_5)] 3)) t := fun t k => castTop (ef_3_RR m b0_1 b0_5) k
  obtain ⟨T1, X1, e1, st1⟩ := instNo X0 hx hZ hown (hw _ (List.mem_of_getElem? (i := 19) rfl)) e0 E_b0_5 (own_NSno (hw _ (List.mem_of_getElem? (i := 42) rfl)) (hw _ (List.mem_of_getElem? (i := 2) rfl)) (NS.step (hw _ (List.mem_of_getElem? (i := 42) rfl)) (NS.step (hw _ (List.mem_of_getElem? (i := 43) rfl)) (own_NSroot (hw _ (List.mem_of_getElem? (i := 44) rfl)) (hw _ (List.mem_of_getElem? (i := 2) rfl)) (by decide)) (by decide)) (by decide)) (by decide)) (g := (mkF m 1 #[rv b0_1, rv b0_5, .unset] [(.ref b0_5)])) rfl rfl (hb hby d3_1)
  obtain ⟨fs, hr, hrun, hended, hW, hsame⟩ := X1.leave (v := (some (.int (0 : Int32)))) (fun h => by rw [Bd.returns] at h; cases h)
  refine ⟨_, _, pre0 _ ?_, hrun, hended, _, _, rfl, ?_, ⟨_, rfl⟩, hW, hsame.mono (by decide) (by decide)⟩
  · show Steps p.tables e below (s₁.setTop (mkF m 0 #[rv b0_1, rv b0_5, .unset] [])) _
    refine XS.aloadN X0.here hx rfl (hb hby d3_0) rfl rfl ?_
    refine st1 _ ?_
    refine XS.ifYes X1.here hx rfl (pc0 := 4) (pc' := 40) rfl (hb hby d3_4) rfl ((if0 _ _).trans (teq (by decide +kernel : (0 : Int32) = (0 : Int32))).1) (by decide) (by decide) ?_
    refine XS.iconst X1.here hx rfl (hb hby d3_40) ?_
    exact retN X1 hx (t := .boolean) Bd.returns (by simp) (hb hby d3_41) hr
  · exact ⟨rfl, N0, e1⟩
set_option maxRecDepth 65536 in
set_option maxHeartbeats 40000000 in
theorem rm0_13 (l : Launch) (Z : State) (a0 : Array Value) (hw : ∀ d ∈ tables_1, d.before a0 Z = true) (ws : List Jvm.Cond) (p0 : Int64) (p1 : Int64) (p2 : Int64) (p3 : Int64) (p4 : Int32) (w_LongCache_cache : Addr) (m0 : Int64) (m1 : Int64) (m2 : Int64) (m3 : Int64) (h0 : Heap) (n0 : Nat) (Z0 : n0 ≤ h0.size) (hm0 : (p0 &&& (9223372036854775807 : Int64)) = m0) (hm1 : (p1 &&& (9223372036854775807 : Int64)) = m1) (hk1 : (p4 &&& (1 : Int32)) = (0 : Int32)) (hm2 : (p2 &&& (9223372036854775807 : Int64)) = m2) (hk2 : (p4 &&& (2 : Int32)) = (0 : Int32)) (hm3 : (p3 &&& (9223372036854775807 : Int64)) = m3) (hn0 : ¬ (m0 < (0 : Int64))) (hn1 : ¬ (m1 < (0 : Int64))) (hn2 : ¬ (m2 < (0 : Int64))) (hn3 : ¬ (m3 < (0 : Int64))) (hkk : (((p4.toUInt32 >>> ((2 : Int32) &&& 31).toUInt32).toInt32) &&& (3 : Int32)) = (2 : Int32)) (S_LongCache_cache : Sta Z h0 "java/lang/Long$LongCache" "cache" "[Ljava/lang/Long;" (.ref w_LongCache_cache)) (CA_w_LongCache_cache : own_Cache Z h0 w_LongCache_cache "java/lang/Long") :
    MetFree l x (head1 (Jvm.Cond.code x code maxLocals ret :: ws) room_1) (fun a U => a = #[(.long p0), (.long p1), (.long p2), (.long p3), (.int p4)] ∧ Z.Warmed39 U.vm ∧ U.heap = h0) (fun _ _ _ _ _ => True) (fun _ U o U' => ∃ v L, o = .returned v ∧ own_QL n0 v U'.heap L ∧ FrameEnd U o U' L room_1.cells room_1.slots) := by
  refine MetFree.of_bodySF (plainFor_of_name pn_3) hisR ?_
  intro p e s m args below meth c s₁ Bd hml0 hP hK
  obtain ⟨rfl, hZ, hh⟩ := hP
  have hx := Bd.exec
  have hby := Bd.bytes
  have hml : c.maxLocals = 21 := hml0
  have hown : s.vm.findClass "com/example/allotd/allotd/engine/TokensEqualsPinLaw" = some m.cls := findClass_of_methodNamed Bd.named
  have hnm := (name_of_methodNamed Bd.named Bd.method).1
  have X0 : Stand p l e room_1 s m #[(.long p0), (.long p1), (.long p2), (.long p3), (.int p4)] below meth c s₁ [] 0 0 := Stand.of_body Bd
  have e0 : s₁.heap = h0 := by rw [← hh, Bd.state]; rfl
  have N0 := Fr.nil n0
  have pre0 : ∀ t, Steps p.tables e below (s₁.setTop (mkF m 0 #[own_jv p0, .second, own_jv p1, .second, own_jv p2, .second, own_jv p3, .second, iv p4, .unset, .unset, .unset, .unset, .unset, .unset, .unset, .unset, .unset, .unset, .unset, .unset] [])) t → Steps p.tables e below (s₁.setTop (entryFrame m #[(.long p0), (.long p1), (.long p2), (.long p3), (.int p4)] maxLocals)) t := fun t k => castTop (ef_0_JJJJI m p0 p1 p2 p3 p4) k
  obtain ⟨T1, h1, X1, e1, E1, A1, D1, -, st1⟩ := newO X0 hx hZ hown (hw _ (List.mem_of_getElem? (i := 1) rfl)) (hw _ (List.mem_of_getElem? (i := 2) rfl)) (hw _ (List.mem_of_getElem? (i := 3) rfl)) e0 (g := (mkF m 54 #[own_jv p0, .second, own_jv p1, .second, own_jv p2, .second, own_jv p3, .second, iv p4, own_jv m0, .second, own_jv m1, .second, own_jv m2, .second, own_jv m3, .second, .unset, .unset, .unset, .unset] [])) rfl (hb hby at_54) (by decide) (by decide)
  obtain ⟨b0_1, gg1⟩ : ∃ z, z = h0.size := ⟨_, rfl⟩
  rw [← gg1] at A1 D1 st1
  have g_b0_1 : n0 ≤ b0_1 := Nat.le_trans Z0 (Nat.le_of_eq gg1.symm)
  have sz_b0_1 : h0.size ≤ b0_1 := Nat.le_trans (Keep.refl h0 []).1 (Nat.le_of_eq gg1.symm)
  have Z1 : n0 ≤ h1.size := Nat.le_trans Z0 E1.1
  have KK1 : Keep h0 h1 [] := (Keep.refl h0 []).ext E1
  have E_b0_1 : Exa Z h1 b0_1 "com/example/allotd/allotd/engine/Tokens" := A1
  have F_b0_1_input : Fld Z h1 b0_1 "com/example/allotd/allotd/engine/Tokens" "input" "J" (.long (0 : Int64)) := D1 (Or.inr (hw _ (List.mem_of_getElem? (i := 11) rfl))) (ty := .long) (by decide)
  have F_b0_1_output : Fld Z h1 b0_1 "com/example/allotd/allotd/engine/Tokens" "output" "J" (.long (0 : Int64)) := D1 (Or.inr (hw _ (List.mem_of_getElem? (i := 13) rfl))) (ty := .long) (by decide)
  obtain ⟨_, _, ⟨T2, L2, k2, n2⟩, -, X2, ⟨Lc2, hQ2, l2, y2, z2⟩, st2⟩ := X1.specialBack hx (y := (⟨"com/example/allotd/allotd/engine/Tokens", "<init>", "(JJ)V"⟩ : MethodName)) rfl hown (mvT hZ (hw _ (List.mem_of_getElem? (i := 4) rfl))) (mvT hZ (hw _ (List.mem_of_getElem? (i := 5) rfl))) (mvT hZ (hw _ (List.mem_of_getElem? (i := 6) rfl))) (by decide) (backOf (W := 1) (rm1_2 l Z a0 hw [] m0 m1 b0_1 h1 n0 Z1 hn0 hn1 E_b0_1 F_b0_1_input g_b0_1 F_b0_1_output) hZ (hw _ (List.mem_of_getElem? (i := 6) rfl)) (hw _ (List.mem_of_getElem? (i := 3) rfl)) (by decide) (by decide)) (g := (mkF m 62 #[own_jv p0, .second, own_jv p1, .second, own_jv p2, .second, own_jv p3, .second, iv p4, own_jv m0, .second, own_jv m1, .second, own_jv m2, .second, own_jv m3, .second, .unset, .unset, .unset, .unset] [(.long m1), (.long m0), (.ref b0_1), (.ref b0_1)])) rfl (by rw [hml]; rfl) (Steps.refl _) (a := b0_1) (argsL := [(.long m0), (.long m1)]) (rest := [(.ref b0_1)]) (lenOf pd_2 rfl) rfl (by show 2 * 0 + _ ≤ _; exact Nat.le_of_eq rfl) (hb hby at_62) (fun _ _ => ⟨rfl, e1, (by decide : 1 + 0 ≤ _), (by decide : 2 + 0 ≤ _)⟩)
  dsimp only [Pt.U, Pt.locs, Pt.cells, Pt.slots] at X2 l2 y2 z2 st2 hQ2
  subst l2 y2 z2
  obtain ⟨rfl, N2q, K2, fq2_0, fq2_1, fq2_2⟩ := hQ2
  have KK2 : Keep h0 T2.heap [] := KK1.trans K2 (allS (P := fun x => x ∈ [] ∨ h0.size ≤ x) (Or.inr sz_b0_1) all0)
  have Z2 : n0 ≤ T2.heap.size := Nat.le_trans Z1 K2.1
  have N2 := Fr.app N0 N2q
  obtain ⟨T3, h3, X3, e3, E3, A3, D3, -, st3⟩ := newO X2 hx hZ hown (hw _ (List.mem_of_getElem? (i := 1) rfl)) (hw _ (List.mem_of_getElem? (i := 2) rfl)) (hw _ (List.mem_of_getElem? (i := 3) rfl)) rfl (g := (mkF m 67 #[own_jv p0, .second, own_jv p1, .second, own_jv p2, .second, own_jv p3, .second, iv p4, own_jv m0, .second, own_jv m1, .second, own_jv m2, .second, own_jv m3, .second, rv b0_1, .unset, .unset, .unset] [])) rfl (hb hby at_67) (by decide) (by decide)
  obtain ⟨b0_3, gg3⟩ : ∃ z, z = T2.heap.size := ⟨_, rfl⟩
  rw [← gg3] at A3 D3 st3
  have g_b0_3 : n0 ≤ b0_3 := Nat.le_trans Z2 (Nat.le_of_eq gg3.symm)
  have sz_b0_3 : h0.size ≤ b0_3 := Nat.le_trans KK2.1 (Nat.le_of_eq gg3.symm)
  have Z3 : n0 ≤ h3.size := Nat.le_trans Z2 E3.1
  have KK3 : Keep h0 h3 [] := KK2.ext E3
  have E_b0_3 : Exa Z h3 b0_3 "com/example/allotd/allotd/engine/Tokens" := A3
  have F_b0_3_input : Fld Z h3 b0_3 "com/example/allotd/allotd/engine/Tokens" "input" "J" (.long (0 : Int64)) := D3 (Or.inr (hw _ (List.mem_of_getElem? (i := 11) rfl))) (ty := .long) (by decide)
  have F_b0_3_output : Fld Z h3 b0_3 "com/example/allotd/allotd/engine/Tokens" "output" "J" (.long (0 : Int64)) := D3 (Or.inr (hw _ (List.mem_of_getElem? (i := 13) rfl))) (ty := .long) (by decide)
  obtain ⟨_, _, ⟨T4, L4, k4, n4⟩, -, X4, ⟨Lc4, hQ4, l4, y4, z4⟩, st4⟩ := X3.specialBack hx (y := (⟨"com/example/allotd/allotd/engine/Tokens", "<init>", "(JJ)V"⟩ : MethodName)) rfl hown (mvT hZ (hw _ (List.mem_of_getElem? (i := 4) rfl))) (mvT hZ (hw _ (List.mem_of_getElem? (i := 5) rfl))) (mvT hZ (hw _ (List.mem_of_getElem? (i := 6) rfl))) (by decide) (backOf (W := 1) (rm1_3 l Z a0 hw [] m2 m3 b0_3 h3 n0 Z3 hn2 hn3 E_b0_3 F_b0_3_input g_b0_3 F_b0_3_output) hZ (hw _ (List.mem_of_getElem? (i := 6) rfl)) (hw _ (List.mem_of_getElem? (i := 3) rfl)) (by decide) (by decide)) (g := (mkF m 75 #[own_jv p0, .second, own_jv p1, .second, own_jv p2, .second, own_jv p3, .second, iv p4, own_jv m0, .second, own_jv m1, .second, own_jv m2, .second, own_jv m3, .second, rv b0_1, .unset, .unset, .unset] [(.long m3), (.long m2), (.ref b0_3), (.ref b0_3)])) rfl (by rw [hml]; rfl) (Steps.refl _) (a := b0_3) (argsL := [(.long m2), (.long m3)]) (rest := [(.ref b0_3)]) (lenOf pd_2 rfl) rfl (by show 2 * 0 + _ ≤ _; exact Nat.le_of_eq rfl) (hb hby at_75) (fun _ _ => ⟨rfl, e3, (by decide : 2 + 0 ≤ _), (by decide : 4 + 0 ≤ _)⟩)
  dsimp only [Pt.U, Pt.locs, Pt.cells, Pt.slots] at X4 l4 y4 z4 st4 hQ4
  subst l4 y4 z4
  obtain ⟨rfl, N4q, K4, fq4_0, fq4_1, fq4_2⟩ := hQ4
  have KK4 : Keep h0 T4.heap [] := KK3.trans K4 (allS (P := fun x => x ∈ [] ∨ h0.size ≤ x) (Or.inr sz_b0_3) all0)
  have Z4 : n0 ≤ T4.heap.size := Nat.le_trans Z3 K4.1
  have N4 := Fr.app N2 N4q
  have c6 := (own_Sta_keep ((own_Sta_keep (S_LongCache_cache.ext E1) K2 (own_stS E_b0_1 own_st0)).ext E3) K4 (own_stS E_b0_3 own_st0))
  have ne_b0_1_w_LongCache_cache_7 : ¬ (b0_1 = w_LongCache_cache) := (Ne.symm (Nat.ne_of_lt (Nat.lt_of_lt_of_le (own_Cache_lt CA_w_LongCache_cache) (Nat.le_of_eq gg1.symm))))
  have ne_b0_3_w_LongCache_cache_8 : ¬ (b0_3 = w_LongCache_cache) := (Ne.symm (Nat.ne_of_lt (Nat.lt_of_lt_of_le (own_Cache_lt (own_Cache_keep (own_Cache_ext CA_w_LongCache_cache E1) K2 (ninS (Ne.symm ne_b0_1_w_LongCache_cache_7) nin0))) (Nat.le_of_eq gg3.symm))))
  have c9 := (own_Cache_keep (own_Cache_ext (own_Cache_keep (own_Cache_ext CA_w_LongCache_cache E1) K2 (ninS (Ne.symm ne_b0_1_w_LongCache_cache_7) nin0)) E3) K4 (ninS (Ne.symm ne_b0_3_w_LongCache_cache_8) nin0))
  obtain ⟨_, _, ⟨T5, L5, k5, n5⟩, -, X5, ⟨Lc5, hQ5, l5, y5, z5⟩, st5⟩ := Jvm.LawKit.callS X4 hx (y := (⟨"java/lang/Long", "valueOf", "(J)Ljava/lang/Long;"⟩ : MethodName)) hown (mvT hZ (hw _ (List.mem_of_getElem? (i := 21) rfl))) (mvT hZ (hw _ (List.mem_of_getElem? (i := 22) rfl))) (mvT hZ (hw _ (List.mem_of_getElem? (i := 23) rfl))) (mvT hZ (hw _ (List.mem_of_getElem? (i := 24) rfl))) (by decide) (backOf (W := 0) (rk_boxJ l Z a0 hw [] w_LongCache_cache m0 T4.heap n0 Z4 c6 c9) hZ (hw _ (List.mem_of_getElem? (i := 24) rfl)) (hw _ (List.mem_of_getElem? (i := 23) rfl)) (by decide) (by decide)) (g := (mkF m 179 #[own_jv p0, .second, own_jv p1, .second, own_jv p2, .second, own_jv p3, .second, iv p4, own_jv m0, .second, own_jv m1, .second, own_jv m2, .second, own_jv m3, .second, rv b0_1, rv b0_3, iv (2 : Int32), .unset] [(.long m0)])) rfl (by rw [hml]; rfl) (argsL := [(.long m0)]) (rest := []) (lenOf pd_4 rfl) rfl (by show 2 * 0 + _ ≤ _; exact Nat.le_of_eq rfl) (hb hby at_179) (fun _ _ => ⟨rfl, rfl, (by decide : 2 + 1 ≤ _), (by decide : 4 + 1 ≤ _)⟩)
  dsimp only [Pt.U, Pt.locs, Pt.cells, Pt.slots] at X5 l5 y5 z5 st5 hQ5
  subst l5 y5 z5
  obtain ⟨b0_5, rfl, N5q, K5, E_b0_5⟩ := hQ5
  have KK5 : Keep h0 T5.heap [] := KK4.trans K5 all0
  have Z5 : n0 ≤ T5.heap.size := Nat.le_trans Z4 K5.1
  have N5 := Fr.app N4 N5q
  have c11 := (((fq2_2.ext E3).keep K4).keep K5)
  obtain ⟨cq10, kq10, q10a, q10b, q10c⟩ := isOf hZ rfl c11
  obtain ⟨_, _, ⟨T10, L10, k10, n10⟩, -, X10, ⟨Lc10, hQ10, l10, y10, z10⟩, st10⟩ := X5.virtualBack hx (y := (⟨"com/example/allotd/allotd/engine/Tokens", "equals", "(Ljava/lang/Object;)Z"⟩ : MethodName)) (z := (⟨"com/example/allotd/allotd/engine/Tokens", "equals", "(Ljava/lang/Object;)Z"⟩ : MethodName)) hown (mvT hZ (hw _ (List.mem_of_getElem? (i := 14) rfl))) (mvT hZ (hw _ (List.mem_of_getElem? (i := 15) rfl))) (notFace_of_selects (args := #[]) (mvT hZ (hw _ (List.mem_of_getElem? (i := 17) rfl)))) (mvT hZ (hw _ (List.mem_of_getElem? (i := 17) rfl))) (mvT hZ (hw _ (List.mem_of_getElem? (i := 16) rfl))) (by decide) (backOf (W := 0) (rm3_22 l Z a0 hw [] b0_1 b0_5 T5.heap n0 Z5 E_b0_5) hZ (hw _ (List.mem_of_getElem? (i := 18) rfl)) (hw _ (List.mem_of_getElem? (i := 3) rfl)) (by decide) (by decide)) q10a q10c (g := (mkF m 188 #[own_jv p0, .second, own_jv p1, .second, own_jv p2, .second, own_jv p3, .second, iv p4, own_jv m0, .second, own_jv m1, .second, own_jv m2, .second, own_jv m3, .second, rv b0_1, rv b0_3, iv (2 : Int32), rv b0_5] [(.ref b0_5), (.ref b0_1)])) rfl (by rw [hml]; rfl) (Steps.refl _) (argsL := [(.ref b0_5)]) (rest := []) (lenOf pd_3 rfl) rfl (by show 2 * 0 + _ ≤ _; exact Nat.le_of_eq rfl) (hb hby at_188) (fun _ _ => ⟨rfl, rfl, (by decide : 3 + 0 ≤ _), (by decide : 5 + 0 ≤ _)⟩)
  dsimp only [Pt.U, Pt.locs, Pt.cells, Pt.slots] at X10 l10 y10 z10 st10 hQ10
  subst l10 y10 z10
  obtain ⟨rfl, N10q, e10⟩ := hQ10
  have N10 := Fr.app N5 N10q
  obtain ⟨fs, hr, hrun, hended, hW, hsame⟩ := X10.leave (v := (some (.int (1 : Int32)))) (fun h => by rw [Bd.returns] at h; cases h)
  refine ⟨_, _, pre0 _ ?_, hrun, hended, _, _, rfl, ?_, ⟨_, rfl⟩, hW, hsame.mono (by decide) (by decide)⟩
  · show Steps p.tables e below (s₁.setTop (mkF m 0 #[own_jv p0, .second, own_jv p1, .second, own_jv p2, .second, own_jv p3, .second, iv p4, .unset, .unset, .unset, .unset, .unset, .unset, .unset, .unset, .unset, .unset, .unset, .unset] [])) _
    refine XS.lloadN X0.here hx rfl (hb hby at_0) rfl ?_
    refine X0.ldc2Long hx hown (mvT hZ (hw _ (List.mem_of_getElem? (i := 0) rfl))) (g := (mkF m 1 #[own_jv p0, .second, own_jv p1, .second, own_jv p2, .second, own_jv p3, .second, iv p4, .unset, .unset, .unset, .unset, .unset, .unset, .unset, .unset, .unset, .unset, .unset, .unset] [(.long p0)])) rfl (hb hby at_1) _ ?_
    refine XS.land X0.here hx rfl (hb hby at_4) rfl ?_
    show Steps p.tables e below (s₁.setTop (mkF m 5 #[own_jv p0, .second, own_jv p1, .second, own_jv p2, .second, own_jv p3, .second, iv p4, .unset, .unset, .unset, .unset, .unset, .unset, .unset, .unset, .unset, .unset, .unset, .unset] [(.long (p0 &&& (9223372036854775807 : Int64)))])) _
    rewrite [hm0]
    refine XS.lstore X0.here hx rfl (hb hby at_5) rfl (l' := #[own_jv p0, .second, own_jv p1, .second, own_jv p2, .second, own_jv p3, .second, iv p4, own_jv m0, .second, .unset, .unset, .unset, .unset, .unset, .unset, .unset, .unset, .unset, .unset]) rfl ?_
    refine XS.lloadN X0.here hx rfl (hb hby at_7) rfl ?_
    refine X0.ldc2Long hx hown (mvT hZ (hw _ (List.mem_of_getElem? (i := 0) rfl))) (g := (mkF m 8 #[own_jv p0, .second, own_jv p1, .second, own_jv p2, .second, own_jv p3, .second, iv p4, own_jv m0, .second, .unset, .unset, .unset, .unset, .unset, .unset, .unset, .unset, .unset, .unset] [(.long p1)])) rfl (hb hby at_8) _ ?_
    refine XS.land X0.here hx rfl (hb hby at_11) rfl ?_
    show Steps p.tables e below (s₁.setTop (mkF m 12 #[own_jv p0, .second, own_jv p1, .second, own_jv p2, .second, own_jv p3, .second, iv p4, own_jv m0, .second, .unset, .unset, .unset, .unset, .unset, .unset, .unset, .unset, .unset, .unset] [(.long (p1 &&& (9223372036854775807 : Int64)))])) _
    rewrite [hm1]
    refine XS.lstore X0.here hx rfl (hb hby at_12) rfl (l' := #[own_jv p0, .second, own_jv p1, .second, own_jv p2, .second, own_jv p3, .second, iv p4, own_jv m0, .second, own_jv m1, .second, .unset, .unset, .unset, .unset, .unset, .unset, .unset, .unset]) rfl ?_
    show Steps p.tables e below (s₁.setTop (mkF m 14 #[own_jv p0, .second, own_jv p1, .second, own_jv p2, .second, own_jv p3, .second, iv p4, own_jv m0, .second, own_jv m1, .second, .unset, .unset, .unset, .unset, .unset, .unset, .unset, .unset] [])) _
    refine XS.iload X0.here hx rfl (hb hby at_14) rfl ?_
    refine XS.iconst X0.here hx rfl (hb hby at_16) ?_
    refine XS.iand X0.here hx rfl (hb hby at_17) rfl ?_
    show Steps p.tables e below (s₁.setTop (mkF m 18 #[own_jv p0, .second, own_jv p1, .second, own_jv p2, .second, own_jv p3, .second, iv p4, own_jv m0, .second, own_jv m1, .second, .unset, .unset, .unset, .unset, .unset, .unset, .unset, .unset] [(.int (p4 &&& (1 : Int32)))])) _
    rewrite [hk1]
    refine XS.ifYes X0.here hx rfl (pc0 := 18) (pc' := 26) rfl (hb hby at_18) rfl ((if0 _ _).trans (teq (by decide +kernel : (0 : Int32) = (0 : Int32))).1) (by decide) (by decide) ?_
    refine XS.lload X0.here hx rfl (hb hby at_26) rfl ?_
    refine X0.ldc2Long hx hown (mvT hZ (hw _ (List.mem_of_getElem? (i := 0) rfl))) (g := (mkF m 28 #[own_jv p0, .second, own_jv p1, .second, own_jv p2, .second, own_jv p3, .second, iv p4, own_jv m0, .second, own_jv m1, .second, .unset, .unset, .unset, .unset, .unset, .unset, .unset, .unset] [(.long p2)])) rfl (hb hby at_28) _ ?_
    refine XS.land X0.here hx rfl (hb hby at_31) rfl ?_
    show Steps p.tables e below (s₁.setTop (mkF m 32 #[own_jv p0, .second, own_jv p1, .second, own_jv p2, .second, own_jv p3, .second, iv p4, own_jv m0, .second, own_jv m1, .second, .unset, .unset, .unset, .unset, .unset, .unset, .unset, .unset] [(.long (p2 &&& (9223372036854775807 : Int64)))])) _
    rewrite [hm2]
    refine XS.lstore X0.here hx rfl (hb hby at_32) rfl (l' := #[own_jv p0, .second, own_jv p1, .second, own_jv p2, .second, own_jv p3, .second, iv p4, own_jv m0, .second, own_jv m1, .second, own_jv m2, .second, .unset, .unset, .unset, .unset, .unset, .unset]) rfl ?_
    show Steps p.tables e below (s₁.setTop (mkF m 34 #[own_jv p0, .second, own_jv p1, .second, own_jv p2, .second, own_jv p3, .second, iv p4, own_jv m0, .second, own_jv m1, .second, own_jv m2, .second, .unset, .unset, .unset, .unset, .unset, .unset] [])) _
    refine XS.iload X0.here hx rfl (hb hby at_34) rfl ?_
    refine XS.iconst X0.here hx rfl (hb hby at_36) ?_
    refine XS.iand X0.here hx rfl (hb hby at_37) rfl ?_
    refine XS.ifYes X0.here hx rfl (pc0 := 38) (pc' := 46) rfl (hb hby at_38) rfl ((if0 _ _).trans (teq hk2).1) (by decide) (by decide) ?_
    refine XS.lload X0.here hx rfl (hb hby at_46) rfl ?_
    refine X0.ldc2Long hx hown (mvT hZ (hw _ (List.mem_of_getElem? (i := 0) rfl))) (g := (mkF m 48 #[own_jv p0, .second, own_jv p1, .second, own_jv p2, .second, own_jv p3, .second, iv p4, own_jv m0, .second, own_jv m1, .second, own_jv m2, .second, .unset, .unset, .unset, .unset, .unset, .unset] [(.long p3)])) rfl (hb hby at_48) _ ?_
    refine XS.land X0.here hx rfl (hb hby at_51) rfl ?_
    show Steps p.tables e below (s₁.setTop (mkF m 52 #[own_jv p0, .second, own_jv p1, .second, own_jv p2, .second, own_jv p3, .second, iv p4, own_jv m0, .second, own_jv m1, .second, own_jv m2, .second, .unset, .unset, .unset, .unset, .unset, .unset] [(.long (p3 &&& (9223372036854775807 : Int64)))])) _
    rewrite [hm3]
    refine XS.lstore X0.here hx rfl (hb hby at_52) rfl (l' := #[own_jv p0, .second, own_jv p1, .second, own_jv p2, .second, own_jv p3, .second, iv p4, own_jv m0, .second, own_jv m1, .second, own_jv m2, .second, own_jv m3, .second, .unset, .unset, .unset, .unset]) rfl ?_
    show Steps p.tables e below (s₁.setTop (mkF m 54 #[own_jv p0, .second, own_jv p1, .second, own_jv p2, .second, own_jv p3, .second, iv p4, own_jv m0, .second, own_jv m1, .second, own_jv m2, .second, own_jv m3, .second, .unset, .unset, .unset, .unset] [])) _
    refine st1 _ ?_
    refine XS.dup X1.here hx rfl (hb hby at_57) rfl rfl ?_
    refine XS.lload X1.here hx rfl (hb hby at_58) rfl ?_
    refine XS.lload X1.here hx rfl (hb hby at_60) rfl ?_
    refine st2.trans ?_
    refine XS.astore X2.here hx rfl (hb hby at_65) rfl rfl (l' := #[own_jv p0, .second, own_jv p1, .second, own_jv p2, .second, own_jv p3, .second, iv p4, own_jv m0, .second, own_jv m1, .second, own_jv m2, .second, own_jv m3, .second, rv b0_1, .unset, .unset, .unset]) rfl ?_
    refine st3 _ ?_
    refine XS.dup X3.here hx rfl (hb hby at_70) rfl rfl ?_
    show Steps p.tables e below (T3.setTop (mkF m 71 #[own_jv p0, .second, own_jv p1, .second, own_jv p2, .second, own_jv p3, .second, iv p4, own_jv m0, .second, own_jv m1, .second, own_jv m2, .second, own_jv m3, .second, rv b0_1, .unset, .unset, .unset] [(.ref b0_3), (.ref b0_3)])) _
    refine XS.lload X3.here hx rfl (hb hby at_71) rfl ?_
    refine XS.lload X3.here hx rfl (hb hby at_73) rfl ?_
    refine st4.trans ?_
    refine XS.astore X4.here hx rfl (hb hby at_78) rfl rfl (l' := #[own_jv p0, .second, own_jv p1, .second, own_jv p2, .second, own_jv p3, .second, iv p4, own_jv m0, .second, own_jv m1, .second, own_jv m2, .second, own_jv m3, .second, rv b0_1, rv b0_3, .unset, .unset]) rfl ?_
    refine XS.iload X4.here hx rfl (hb hby at_80) rfl ?_
    refine XS.iconst X4.here hx rfl (hb hby at_82) ?_
    refine XS.iushr X4.here hx rfl (hb hby at_83) rfl ?_
    refine XS.iconst X4.here hx rfl (hb hby at_84) ?_
    show Steps p.tables e below (T4.setTop (mkF m 85 #[own_jv p0, .second, own_jv p1, .second, own_jv p2, .second, own_jv p3, .second, iv p4, own_jv m0, .second, own_jv m1, .second, own_jv m2, .second, own_jv m3, .second, rv b0_1, rv b0_3, .unset, .unset] [(.int (3 : Int32)), (.int ((p4.toUInt32 >>> ((2 : Int32) &&& 31).toUInt32).toInt32))])) _
    refine XS.iand X4.here hx rfl (hb hby at_85) rfl ?_
    show Steps p.tables e below (T4.setTop (mkF m 86 #[own_jv p0, .second, own_jv p1, .second, own_jv p2, .second, own_jv p3, .second, iv p4, own_jv m0, .second, own_jv m1, .second, own_jv m2, .second, own_jv m3, .second, rv b0_1, rv b0_3, .unset, .unset] [(.int (((p4.toUInt32 >>> ((2 : Int32) &&& 31).toUInt32).toInt32) &&& (3 : Int32)))])) _
    rewrite [hkk]
    refine XS.istore X4.here hx rfl (hb hby at_86) rfl (l' := #[own_jv p0, .second, own_jv p1, .second, own_jv p2, .second, own_jv p3, .second, iv p4, own_jv m0, .second, own_jv m1, .second, own_jv m2, .second, own_jv m3, .second, rv b0_1, rv b0_3, iv (2 : Int32), .unset]) rfl ?_
    refine XS.iload X4.here hx rfl (hb hby at_88) rfl ?_
    refine XS.ifYes X4.here hx rfl (pc0 := 90) (pc' := 146) rfl (hb hby at_90) rfl ((if0 _ _).trans (feq (by decide +kernel : ¬ ((2 : Int32) = (0 : Int32)))).2) (by decide) (by decide) ?_
    refine XS.iload X4.here hx rfl (hb hby at_146) rfl ?_
    refine XS.iconst X4.here hx rfl (hb hby at_148) ?_
    refine XS.icmpYes X4.here hx rfl (pc0 := 149) (pc' := 171) rfl (hb hby at_149) rfl (feq (by decide +kernel : ¬ ((2 : Int32) = (1 : Int32)))).2 (by decide) (by decide) ?_
    refine XS.iload X4.here hx rfl (hb hby at_171) rfl ?_
    show Steps p.tables e below (T4.setTop (mkF m 173 #[own_jv p0, .second, own_jv p1, .second, own_jv p2, .second, own_jv p3, .second, iv p4, own_jv m0, .second, own_jv m1, .second, own_jv m2, .second, own_jv m3, .second, rv b0_1, rv b0_3, iv (2 : Int32), .unset] [(.int (2 : Int32))])) _
    refine XS.iconst X4.here hx rfl (hb hby at_173) ?_
    refine XS.icmpNo X4.here hx rfl (hb hby at_174) rfl (teq (by decide +kernel : (2 : Int32) = (2 : Int32))).2 ?_
    refine XS.lload X4.here hx rfl (hb hby at_177) rfl ?_
    refine st5 _ ?_
    refine XS.astore X5.here hx rfl (hb hby at_182) rfl rfl (l' := #[own_jv p0, .second, own_jv p1, .second, own_jv p2, .second, own_jv p3, .second, iv p4, own_jv m0, .second, own_jv m1, .second, own_jv m2, .second, own_jv m3, .second, rv b0_1, rv b0_3, iv (2 : Int32), rv b0_5]) rfl ?_
    refine XS.aload X5.here hx rfl (hb hby at_184) rfl rfl ?_
    refine XS.aload X5.here hx rfl (hb hby at_186) rfl rfl ?_
    refine st10.trans ?_
    show Steps p.tables e below (T10.setTop (mkF m 191 #[own_jv p0, .second, own_jv p1, .second, own_jv p2, .second, own_jv p3, .second, iv p4, own_jv m0, .second, own_jv m1, .second, own_jv m2, .second, own_jv m3, .second, rv b0_1, rv b0_3, iv (2 : Int32), rv b0_5] [(.int (0 : Int32))])) _
    refine XS.ifNo X10.here hx rfl (hb hby at_191) rfl ((if0 _ _).trans (teq (by decide +kernel : (0 : Int32) = (0 : Int32))).2) ?_
    refine XS.iconst X10.here hx rfl (hb hby at_194) ?_
    refine XS.goto X10.here hx rfl (pc0 := 195) (pc' := 199) rfl (hb hby at_195) (by decide) (by decide) ?_
    exact retN X10 hx (t := .boolean) Bd.returns (by simp) (hb hby at_199) hr
  · exact ⟨rfl, N10⟩
set_option maxRecDepth 65536 in
set_option maxHeartbeats 40000000 in
theorem rm0_14 (l : Launch) (Z : State) (a0 : Array Value) (hw : ∀ d ∈ tables_1, d.before a0 Z = true) (ws : List Jvm.Cond) (p0 : Int64) (p1 : Int64) (p2 : Int64) (p3 : Int64) (p4 : Int32) (w_LongCache_cache : Addr) (m0 : Int64) (m1 : Int64) (m2 : Int64) (h0 : Heap) (n0 : Nat) (Z0 : n0 ≤ h0.size) (hm0 : (p0 &&& (9223372036854775807 : Int64)) = m0) (hm1 : (p1 &&& (9223372036854775807 : Int64)) = m1) (hk1 : (p4 &&& (1 : Int32)) = (0 : Int32)) (hm2 : (p2 &&& (9223372036854775807 : Int64)) = m2) (hk2 : ¬ ((p4 &&& (2 : Int32)) = (0 : Int32))) (hn0 : ¬ (m0 < (0 : Int64))) (hn1 : ¬ (m1 < (0 : Int64))) (hn2 : ¬ (m2 < (0 : Int64))) (hkk : (((p4.toUInt32 >>> ((2 : Int32) &&& 31).toUInt32).toInt32) &&& (3 : Int32)) = (2 : Int32)) (S_LongCache_cache : Sta Z h0 "java/lang/Long$LongCache" "cache" "[Ljava/lang/Long;" (.ref w_LongCache_cache)) (CA_w_LongCache_cache : own_Cache Z h0 w_LongCache_cache "java/lang/Long") :
    MetFree l x (head1 (Jvm.Cond.code x code maxLocals ret :: ws) room_1) (fun a U => a = #[(.long p0), (.long p1), (.long p2), (.long p3), (.int p4)] ∧ Z.Warmed39 U.vm ∧ U.heap = h0) (fun _ _ _ _ _ => True) (fun _ U o U' => ∃ v L, o = .returned v ∧ own_QL n0 v U'.heap L ∧ FrameEnd U o U' L room_1.cells room_1.slots) := by
  refine MetFree.of_bodySF (plainFor_of_name pn_3) hisR ?_
  intro p e s m args below meth c s₁ Bd hml0 hP hK
  obtain ⟨rfl, hZ, hh⟩ := hP
  have hx := Bd.exec
  have hby := Bd.bytes
  have hml : c.maxLocals = 21 := hml0
  have hown : s.vm.findClass "com/example/allotd/allotd/engine/TokensEqualsPinLaw" = some m.cls := findClass_of_methodNamed Bd.named
  have hnm := (name_of_methodNamed Bd.named Bd.method).1
  have X0 : Stand p l e room_1 s m #[(.long p0), (.long p1), (.long p2), (.long p3), (.int p4)] below meth c s₁ [] 0 0 := Stand.of_body Bd
  have e0 : s₁.heap = h0 := by rw [← hh, Bd.state]; rfl
  have N0 := Fr.nil n0
  have pre0 : ∀ t, Steps p.tables e below (s₁.setTop (mkF m 0 #[own_jv p0, .second, own_jv p1, .second, own_jv p2, .second, own_jv p3, .second, iv p4, .unset, .unset, .unset, .unset, .unset, .unset, .unset, .unset, .unset, .unset, .unset, .unset] [])) t → Steps p.tables e below (s₁.setTop (entryFrame m #[(.long p0), (.long p1), (.long p2), (.long p3), (.int p4)] maxLocals)) t := fun t k => castTop (ef_0_JJJJI m p0 p1 p2 p3 p4) k
  obtain ⟨T1, h1, X1, e1, E1, A1, D1, -, st1⟩ := newO X0 hx hZ hown (hw _ (List.mem_of_getElem? (i := 1) rfl)) (hw _ (List.mem_of_getElem? (i := 2) rfl)) (hw _ (List.mem_of_getElem? (i := 3) rfl)) e0 (g := (mkF m 54 #[own_jv p0, .second, own_jv p1, .second, own_jv p2, .second, own_jv p3, .second, iv p4, own_jv m0, .second, own_jv m1, .second, own_jv m2, .second, own_jv m1, .second, .unset, .unset, .unset, .unset] [])) rfl (hb hby at_54) (by decide) (by decide)
  obtain ⟨b0_1, gg1⟩ : ∃ z, z = h0.size := ⟨_, rfl⟩
  rw [← gg1] at A1 D1 st1
  have g_b0_1 : n0 ≤ b0_1 := Nat.le_trans Z0 (Nat.le_of_eq gg1.symm)
  have sz_b0_1 : h0.size ≤ b0_1 := Nat.le_trans (Keep.refl h0 []).1 (Nat.le_of_eq gg1.symm)
  have Z1 : n0 ≤ h1.size := Nat.le_trans Z0 E1.1
  have KK1 : Keep h0 h1 [] := (Keep.refl h0 []).ext E1
  have E_b0_1 : Exa Z h1 b0_1 "com/example/allotd/allotd/engine/Tokens" := A1
  have F_b0_1_input : Fld Z h1 b0_1 "com/example/allotd/allotd/engine/Tokens" "input" "J" (.long (0 : Int64)) := D1 (Or.inr (hw _ (List.mem_of_getElem? (i := 11) rfl))) (ty := .long) (by decide)
  have F_b0_1_output : Fld Z h1 b0_1 "com/example/allotd/allotd/engine/Tokens" "output" "J" (.long (0 : Int64)) := D1 (Or.inr (hw _ (List.mem_of_getElem? (i := 13) rfl))) (ty := .long) (by decide)
  obtain ⟨_, _, ⟨T2, L2, k2, n2⟩, -, X2, ⟨Lc2, hQ2, l2, y2, z2⟩, st2⟩ := X1.specialBack hx (y := (⟨"com/example/allotd/allotd/engine/Tokens", "<init>", "(JJ)V"⟩ : MethodName)) rfl hown (mvT hZ (hw _ (List.mem_of_getElem? (i := 4) rfl))) (mvT hZ (hw _ (List.mem_of_getElem? (i := 5) rfl))) (mvT hZ (hw _ (List.mem_of_getElem? (i := 6) rfl))) (by decide) (backOf (W := 1) (rm1_2 l Z a0 hw [] m0 m1 b0_1 h1 n0 Z1 hn0 hn1 E_b0_1 F_b0_1_input g_b0_1 F_b0_1_output) hZ (hw _ (List.mem_of_getElem? (i := 6) rfl)) (hw _ (List.mem_of_getElem? (i := 3) rfl)) (by decide) (by decide)) (g := (mkF m 62 #[own_jv p0, .second, own_jv p1, .second, own_jv p2, .second, own_jv p3, .second, iv p4, own_jv m0, .second, own_jv m1, .second, own_jv m2, .second, own_jv m1, .second, .unset, .unset, .unset, .unset] [(.long m1), (.long m0), (.ref b0_1), (.ref b0_1)])) rfl (by rw [hml]; rfl) (Steps.refl _) (a := b0_1) (argsL := [(.long m0), (.long m1)]) (rest := [(.ref b0_1)]) (lenOf pd_2 rfl) rfl (by show 2 * 0 + _ ≤ _; exact Nat.le_of_eq rfl) (hb hby at_62) (fun _ _ => ⟨rfl, e1, (by decide : 1 + 0 ≤ _), (by decide : 2 + 0 ≤ _)⟩)
  dsimp only [Pt.U, Pt.locs, Pt.cells, Pt.slots] at X2 l2 y2 z2 st2 hQ2
  subst l2 y2 z2
  obtain ⟨rfl, N2q, K2, fq2_0, fq2_1, fq2_2⟩ := hQ2
  have KK2 : Keep h0 T2.heap [] := KK1.trans K2 (allS (P := fun x => x ∈ [] ∨ h0.size ≤ x) (Or.inr sz_b0_1) all0)
  have Z2 : n0 ≤ T2.heap.size := Nat.le_trans Z1 K2.1
  have N2 := Fr.app N0 N2q
  obtain ⟨T3, h3, X3, e3, E3, A3, D3, -, st3⟩ := newO X2 hx hZ hown (hw _ (List.mem_of_getElem? (i := 1) rfl)) (hw _ (List.mem_of_getElem? (i := 2) rfl)) (hw _ (List.mem_of_getElem? (i := 3) rfl)) rfl (g := (mkF m 67 #[own_jv p0, .second, own_jv p1, .second, own_jv p2, .second, own_jv p3, .second, iv p4, own_jv m0, .second, own_jv m1, .second, own_jv m2, .second, own_jv m1, .second, rv b0_1, .unset, .unset, .unset] [])) rfl (hb hby at_67) (by decide) (by decide)
  obtain ⟨b0_3, gg3⟩ : ∃ z, z = T2.heap.size := ⟨_, rfl⟩
  rw [← gg3] at A3 D3 st3
  have g_b0_3 : n0 ≤ b0_3 := Nat.le_trans Z2 (Nat.le_of_eq gg3.symm)
  have sz_b0_3 : h0.size ≤ b0_3 := Nat.le_trans KK2.1 (Nat.le_of_eq gg3.symm)
  have Z3 : n0 ≤ h3.size := Nat.le_trans Z2 E3.1
  have KK3 : Keep h0 h3 [] := KK2.ext E3
  have E_b0_3 : Exa Z h3 b0_3 "com/example/allotd/allotd/engine/Tokens" := A3
  have F_b0_3_input : Fld Z h3 b0_3 "com/example/allotd/allotd/engine/Tokens" "input" "J" (.long (0 : Int64)) := D3 (Or.inr (hw _ (List.mem_of_getElem? (i := 11) rfl))) (ty := .long) (by decide)
  have F_b0_3_output : Fld Z h3 b0_3 "com/example/allotd/allotd/engine/Tokens" "output" "J" (.long (0 : Int64)) := D3 (Or.inr (hw _ (List.mem_of_getElem? (i := 13) rfl))) (ty := .long) (by decide)
  obtain ⟨_, _, ⟨T4, L4, k4, n4⟩, -, X4, ⟨Lc4, hQ4, l4, y4, z4⟩, st4⟩ := X3.specialBack hx (y := (⟨"com/example/allotd/allotd/engine/Tokens", "<init>", "(JJ)V"⟩ : MethodName)) rfl hown (mvT hZ (hw _ (List.mem_of_getElem? (i := 4) rfl))) (mvT hZ (hw _ (List.mem_of_getElem? (i := 5) rfl))) (mvT hZ (hw _ (List.mem_of_getElem? (i := 6) rfl))) (by decide) (backOf (W := 1) (rm1_8 l Z a0 hw [] m1 m2 b0_3 h3 n0 Z3 hn2 hn1 E_b0_3 F_b0_3_input g_b0_3 F_b0_3_output) hZ (hw _ (List.mem_of_getElem? (i := 6) rfl)) (hw _ (List.mem_of_getElem? (i := 3) rfl)) (by decide) (by decide)) (g := (mkF m 75 #[own_jv p0, .second, own_jv p1, .second, own_jv p2, .second, own_jv p3, .second, iv p4, own_jv m0, .second, own_jv m1, .second, own_jv m2, .second, own_jv m1, .second, rv b0_1, .unset, .unset, .unset] [(.long m1), (.long m2), (.ref b0_3), (.ref b0_3)])) rfl (by rw [hml]; rfl) (Steps.refl _) (a := b0_3) (argsL := [(.long m2), (.long m1)]) (rest := [(.ref b0_3)]) (lenOf pd_2 rfl) rfl (by show 2 * 0 + _ ≤ _; exact Nat.le_of_eq rfl) (hb hby at_75) (fun _ _ => ⟨rfl, e3, (by decide : 2 + 0 ≤ _), (by decide : 4 + 0 ≤ _)⟩)
  dsimp only [Pt.U, Pt.locs, Pt.cells, Pt.slots] at X4 l4 y4 z4 st4 hQ4
  subst l4 y4 z4
  obtain ⟨rfl, N4q, K4, fq4_0, fq4_1, fq4_2⟩ := hQ4
  have KK4 : Keep h0 T4.heap [] := KK3.trans K4 (allS (P := fun x => x ∈ [] ∨ h0.size ≤ x) (Or.inr sz_b0_3) all0)
  have Z4 : n0 ≤ T4.heap.size := Nat.le_trans Z3 K4.1
  have N4 := Fr.app N2 N4q
  have c6 := (own_Sta_keep ((own_Sta_keep (S_LongCache_cache.ext E1) K2 (own_stS E_b0_1 own_st0)).ext E3) K4 (own_stS E_b0_3 own_st0))
  have ne_b0_1_w_LongCache_cache_7 : ¬ (b0_1 = w_LongCache_cache) := (Ne.symm (Nat.ne_of_lt (Nat.lt_of_lt_of_le (own_Cache_lt CA_w_LongCache_cache) (Nat.le_of_eq gg1.symm))))
  have ne_b0_3_w_LongCache_cache_8 : ¬ (b0_3 = w_LongCache_cache) := (Ne.symm (Nat.ne_of_lt (Nat.lt_of_lt_of_le (own_Cache_lt (own_Cache_keep (own_Cache_ext CA_w_LongCache_cache E1) K2 (ninS (Ne.symm ne_b0_1_w_LongCache_cache_7) nin0))) (Nat.le_of_eq gg3.symm))))
  have c9 := (own_Cache_keep (own_Cache_ext (own_Cache_keep (own_Cache_ext CA_w_LongCache_cache E1) K2 (ninS (Ne.symm ne_b0_1_w_LongCache_cache_7) nin0)) E3) K4 (ninS (Ne.symm ne_b0_3_w_LongCache_cache_8) nin0))
  obtain ⟨_, _, ⟨T5, L5, k5, n5⟩, -, X5, ⟨Lc5, hQ5, l5, y5, z5⟩, st5⟩ := Jvm.LawKit.callS X4 hx (y := (⟨"java/lang/Long", "valueOf", "(J)Ljava/lang/Long;"⟩ : MethodName)) hown (mvT hZ (hw _ (List.mem_of_getElem? (i := 21) rfl))) (mvT hZ (hw _ (List.mem_of_getElem? (i := 22) rfl))) (mvT hZ (hw _ (List.mem_of_getElem? (i := 23) rfl))) (mvT hZ (hw _ (List.mem_of_getElem? (i := 24) rfl))) (by decide) (backOf (W := 0) (rk_boxJ l Z a0 hw [] w_LongCache_cache m0 T4.heap n0 Z4 c6 c9) hZ (hw _ (List.mem_of_getElem? (i := 24) rfl)) (hw _ (List.mem_of_getElem? (i := 23) rfl)) (by decide) (by decide)) (g := (mkF m 179 #[own_jv p0, .second, own_jv p1, .second, own_jv p2, .second, own_jv p3, .second, iv p4, own_jv m0, .second, own_jv m1, .second, own_jv m2, .second, own_jv m1, .second, rv b0_1, rv b0_3, iv (2 : Int32), .unset] [(.long m0)])) rfl (by rw [hml]; rfl) (argsL := [(.long m0)]) (rest := []) (lenOf pd_4 rfl) rfl (by show 2 * 0 + _ ≤ _; exact Nat.le_of_eq rfl) (hb hby at_179) (fun _ _ => ⟨rfl, rfl, (by decide : 2 + 1 ≤ _), (by decide : 4 + 1 ≤ _)⟩)
  dsimp only [Pt.U, Pt.locs, Pt.cells, Pt.slots] at X5 l5 y5 z5 st5 hQ5
  subst l5 y5 z5
  obtain ⟨b0_5, rfl, N5q, K5, E_b0_5⟩ := hQ5
  have KK5 : Keep h0 T5.heap [] := KK4.trans K5 all0
  have Z5 : n0 ≤ T5.heap.size := Nat.le_trans Z4 K5.1
  have N5 := Fr.app N4 N5q
  have c11 := (((fq2_2.ext E3).keep K4).keep K5)
  obtain ⟨cq10, kq10, q10a, q10b, q10c⟩ := isOf hZ rfl c11
  obtain ⟨_, _, ⟨T10, L10, k10, n10⟩, -, X10, ⟨Lc10, hQ10, l10, y10, z10⟩, st10⟩ := X5.virtualBack hx (y := (⟨"com/example/allotd/allotd/engine/Tokens", "equals", "(Ljava/lang/Object;)Z"⟩ : MethodName)) (z := (⟨"com/example/allotd/allotd/engine/Tokens", "equals", "(Ljava/lang/Object;)Z"⟩ : MethodName)) hown (mvT hZ (hw _ (List.mem_of_getElem? (i := 14) rfl))) (mvT hZ (hw _ (List.mem_of_getElem? (i := 15) rfl))) (notFace_of_selects (args := #[]) (mvT hZ (hw _ (List.mem_of_getElem? (i := 17) rfl)))) (mvT hZ (hw _ (List.mem_of_getElem? (i := 17) rfl))) (mvT hZ (hw _ (List.mem_of_getElem? (i := 16) rfl))) (by decide) (backOf (W := 0) (rm3_22 l Z a0 hw [] b0_1 b0_5 T5.heap n0 Z5 E_b0_5) hZ (hw _ (List.mem_of_getElem? (i := 18) rfl)) (hw _ (List.mem_of_getElem? (i := 3) rfl)) (by decide) (by decide)) q10a q10c (g := (mkF m 188 #[own_jv p0, .second, own_jv p1, .second, own_jv p2, .second, own_jv p3, .second, iv p4, own_jv m0, .second, own_jv m1, .second, own_jv m2, .second, own_jv m1, .second, rv b0_1, rv b0_3, iv (2 : Int32), rv b0_5] [(.ref b0_5), (.ref b0_1)])) rfl (by rw [hml]; rfl) (Steps.refl _) (argsL := [(.ref b0_5)]) (rest := []) (lenOf pd_3 rfl) rfl (by show 2 * 0 + _ ≤ _; exact Nat.le_of_eq rfl) (hb hby at_188) (fun _ _ => ⟨rfl, rfl, (by decide : 3 + 0 ≤ _), (by decide : 5 + 0 ≤ _)⟩)
  dsimp only [Pt.U, Pt.locs, Pt.cells, Pt.slots] at X10 l10 y10 z10 st10 hQ10
  subst l10 y10 z10
  obtain ⟨rfl, N10q, e10⟩ := hQ10
  have N10 := Fr.app N5 N10q
  obtain ⟨fs, hr, hrun, hended, hW, hsame⟩ := X10.leave (v := (some (.int (1 : Int32)))) (fun h => by rw [Bd.returns] at h; cases h)
  refine ⟨_, _, pre0 _ ?_, hrun, hended, _, _, rfl, ?_, ⟨_, rfl⟩, hW, hsame.mono (by decide) (by decide)⟩
  · show Steps p.tables e below (s₁.setTop (mkF m 0 #[own_jv p0, .second, own_jv p1, .second, own_jv p2, .second, own_jv p3, .second, iv p4, .unset, .unset, .unset, .unset, .unset, .unset, .unset, .unset, .unset, .unset, .unset, .unset] [])) _
    refine XS.lloadN X0.here hx rfl (hb hby at_0) rfl ?_
    refine X0.ldc2Long hx hown (mvT hZ (hw _ (List.mem_of_getElem? (i := 0) rfl))) (g := (mkF m 1 #[own_jv p0, .second, own_jv p1, .second, own_jv p2, .second, own_jv p3, .second, iv p4, .unset, .unset, .unset, .unset, .unset, .unset, .unset, .unset, .unset, .unset, .unset, .unset] [(.long p0)])) rfl (hb hby at_1) _ ?_
    refine XS.land X0.here hx rfl (hb hby at_4) rfl ?_
    show Steps p.tables e below (s₁.setTop (mkF m 5 #[own_jv p0, .second, own_jv p1, .second, own_jv p2, .second, own_jv p3, .second, iv p4, .unset, .unset, .unset, .unset, .unset, .unset, .unset, .unset, .unset, .unset, .unset, .unset] [(.long (p0 &&& (9223372036854775807 : Int64)))])) _
    rewrite [hm0]
    refine XS.lstore X0.here hx rfl (hb hby at_5) rfl (l' := #[own_jv p0, .second, own_jv p1, .second, own_jv p2, .second, own_jv p3, .second, iv p4, own_jv m0, .second, .unset, .unset, .unset, .unset, .unset, .unset, .unset, .unset, .unset, .unset]) rfl ?_
    refine XS.lloadN X0.here hx rfl (hb hby at_7) rfl ?_
    refine X0.ldc2Long hx hown (mvT hZ (hw _ (List.mem_of_getElem? (i := 0) rfl))) (g := (mkF m 8 #[own_jv p0, .second, own_jv p1, .second, own_jv p2, .second, own_jv p3, .second, iv p4, own_jv m0, .second, .unset, .unset, .unset, .unset, .unset, .unset, .unset, .unset, .unset, .unset] [(.long p1)])) rfl (hb hby at_8) _ ?_
    refine XS.land X0.here hx rfl (hb hby at_11) rfl ?_
    show Steps p.tables e below (s₁.setTop (mkF m 12 #[own_jv p0, .second, own_jv p1, .second, own_jv p2, .second, own_jv p3, .second, iv p4, own_jv m0, .second, .unset, .unset, .unset, .unset, .unset, .unset, .unset, .unset, .unset, .unset] [(.long (p1 &&& (9223372036854775807 : Int64)))])) _
    rewrite [hm1]
    refine XS.lstore X0.here hx rfl (hb hby at_12) rfl (l' := #[own_jv p0, .second, own_jv p1, .second, own_jv p2, .second, own_jv p3, .second, iv p4, own_jv m0, .second, own_jv m1, .second, .unset, .unset, .unset, .unset, .unset, .unset, .unset, .unset]) rfl ?_
    show Steps p.tables e below (s₁.setTop (mkF m 14 #[own_jv p0, .second, own_jv p1, .second, own_jv p2, .second, own_jv p3, .second, iv p4, own_jv m0, .second, own_jv m1, .second, .unset, .unset, .unset, .unset, .unset, .unset, .unset, .unset] [])) _
    refine XS.iload X0.here hx rfl (hb hby at_14) rfl ?_
    refine XS.iconst X0.here hx rfl (hb hby at_16) ?_
    refine XS.iand X0.here hx rfl (hb hby at_17) rfl ?_
    show Steps p.tables e below (s₁.setTop (mkF m 18 #[own_jv p0, .second, own_jv p1, .second, own_jv p2, .second, own_jv p3, .second, iv p4, own_jv m0, .second, own_jv m1, .second, .unset, .unset, .unset, .unset, .unset, .unset, .unset, .unset] [(.int (p4 &&& (1 : Int32)))])) _
    rewrite [hk1]
    refine XS.ifYes X0.here hx rfl (pc0 := 18) (pc' := 26) rfl (hb hby at_18) rfl ((if0 _ _).trans (teq (by decide +kernel : (0 : Int32) = (0 : Int32))).1) (by decide) (by decide) ?_
    refine XS.lload X0.here hx rfl (hb hby at_26) rfl ?_
    refine X0.ldc2Long hx hown (mvT hZ (hw _ (List.mem_of_getElem? (i := 0) rfl))) (g := (mkF m 28 #[own_jv p0, .second, own_jv p1, .second, own_jv p2, .second, own_jv p3, .second, iv p4, own_jv m0, .second, own_jv m1, .second, .unset, .unset, .unset, .unset, .unset, .unset, .unset, .unset] [(.long p2)])) rfl (hb hby at_28) _ ?_
    refine XS.land X0.here hx rfl (hb hby at_31) rfl ?_
    show Steps p.tables e below (s₁.setTop (mkF m 32 #[own_jv p0, .second, own_jv p1, .second, own_jv p2, .second, own_jv p3, .second, iv p4, own_jv m0, .second, own_jv m1, .second, .unset, .unset, .unset, .unset, .unset, .unset, .unset, .unset] [(.long (p2 &&& (9223372036854775807 : Int64)))])) _
    rewrite [hm2]
    refine XS.lstore X0.here hx rfl (hb hby at_32) rfl (l' := #[own_jv p0, .second, own_jv p1, .second, own_jv p2, .second, own_jv p3, .second, iv p4, own_jv m0, .second, own_jv m1, .second, own_jv m2, .second, .unset, .unset, .unset, .unset, .unset, .unset]) rfl ?_
    show Steps p.tables e below (s₁.setTop (mkF m 34 #[own_jv p0, .second, own_jv p1, .second, own_jv p2, .second, own_jv p3, .second, iv p4, own_jv m0, .second, own_jv m1, .second, own_jv m2, .second, .unset, .unset, .unset, .unset, .unset, .unset] [])) _
    refine XS.iload X0.here hx rfl (hb hby at_34) rfl ?_
    refine XS.iconst X0.here hx rfl (hb hby at_36) ?_
    refine XS.iand X0.here hx rfl (hb hby at_37) rfl ?_
    refine XS.ifNo X0.here hx rfl (hb hby at_38) rfl ((if0 _ _).trans (feq hk2).1) ?_
    refine XS.lload X0.here hx rfl (hb hby at_41) rfl ?_
    refine XS.goto X0.here hx rfl (pc0 := 43) (pc' := 52) rfl (hb hby at_43) (by decide) (by decide) ?_
    refine XS.lstore X0.here hx rfl (hb hby at_52) rfl (l' := #[own_jv p0, .second, own_jv p1, .second, own_jv p2, .second, own_jv p3, .second, iv p4, own_jv m0, .second, own_jv m1, .second, own_jv m2, .second, own_jv m1, .second, .unset, .unset, .unset, .unset]) rfl ?_
    refine st1 _ ?_
    show Steps p.tables e below (T1.setTop (mkF m 57 #[own_jv p0, .second, own_jv p1, .second, own_jv p2, .second, own_jv p3, .second, iv p4, own_jv m0, .second, own_jv m1, .second, own_jv m2, .second, own_jv m1, .second, .unset, .unset, .unset, .unset] [(.ref b0_1)])) _
    refine XS.dup X1.here hx rfl (hb hby at_57) rfl rfl ?_
    refine XS.lload X1.here hx rfl (hb hby at_58) rfl ?_
    refine XS.lload X1.here hx rfl (hb hby at_60) rfl ?_
    refine st2.trans ?_
    refine XS.astore X2.here hx rfl (hb hby at_65) rfl rfl (l' := #[own_jv p0, .second, own_jv p1, .second, own_jv p2, .second, own_jv p3, .second, iv p4, own_jv m0, .second, own_jv m1, .second, own_jv m2, .second, own_jv m1, .second, rv b0_1, .unset, .unset, .unset]) rfl ?_
    refine st3 _ ?_
    refine XS.dup X3.here hx rfl (hb hby at_70) rfl rfl ?_
    refine XS.lload X3.here hx rfl (hb hby at_71) rfl ?_
    show Steps p.tables e below (T3.setTop (mkF m 73 #[own_jv p0, .second, own_jv p1, .second, own_jv p2, .second, own_jv p3, .second, iv p4, own_jv m0, .second, own_jv m1, .second, own_jv m2, .second, own_jv m1, .second, rv b0_1, .unset, .unset, .unset] [(.long m2), (.ref b0_3), (.ref b0_3)])) _
    refine XS.lload X3.here hx rfl (hb hby at_73) rfl ?_
    refine st4.trans ?_
    refine XS.astore X4.here hx rfl (hb hby at_78) rfl rfl (l' := #[own_jv p0, .second, own_jv p1, .second, own_jv p2, .second, own_jv p3, .second, iv p4, own_jv m0, .second, own_jv m1, .second, own_jv m2, .second, own_jv m1, .second, rv b0_1, rv b0_3, .unset, .unset]) rfl ?_
    refine XS.iload X4.here hx rfl (hb hby at_80) rfl ?_
    refine XS.iconst X4.here hx rfl (hb hby at_82) ?_
    refine XS.iushr X4.here hx rfl (hb hby at_83) rfl ?_
    refine XS.iconst X4.here hx rfl (hb hby at_84) ?_
    refine XS.iand X4.here hx rfl (hb hby at_85) rfl ?_
    show Steps p.tables e below (T4.setTop (mkF m 86 #[own_jv p0, .second, own_jv p1, .second, own_jv p2, .second, own_jv p3, .second, iv p4, own_jv m0, .second, own_jv m1, .second, own_jv m2, .second, own_jv m1, .second, rv b0_1, rv b0_3, .unset, .unset] [(.int (((p4.toUInt32 >>> ((2 : Int32) &&& 31).toUInt32).toInt32) &&& (3 : Int32)))])) _
    rewrite [hkk]
    show Steps p.tables e below (T4.setTop (mkF m 86 #[own_jv p0, .second, own_jv p1, .second, own_jv p2, .second, own_jv p3, .second, iv p4, own_jv m0, .second, own_jv m1, .second, own_jv m2, .second, own_jv m1, .second, rv b0_1, rv b0_3, .unset, .unset] [(.int (2 : Int32))])) _
    refine XS.istore X4.here hx rfl (hb hby at_86) rfl (l' := #[own_jv p0, .second, own_jv p1, .second, own_jv p2, .second, own_jv p3, .second, iv p4, own_jv m0, .second, own_jv m1, .second, own_jv m2, .second, own_jv m1, .second, rv b0_1, rv b0_3, iv (2 : Int32), .unset]) rfl ?_
    refine XS.iload X4.here hx rfl (hb hby at_88) rfl ?_
    refine XS.ifYes X4.here hx rfl (pc0 := 90) (pc' := 146) rfl (hb hby at_90) rfl ((if0 _ _).trans (feq (by decide +kernel : ¬ ((2 : Int32) = (0 : Int32)))).2) (by decide) (by decide) ?_
    refine XS.iload X4.here hx rfl (hb hby at_146) rfl ?_
    refine XS.iconst X4.here hx rfl (hb hby at_148) ?_
    refine XS.icmpYes X4.here hx rfl (pc0 := 149) (pc' := 171) rfl (hb hby at_149) rfl (feq (by decide +kernel : ¬ ((2 : Int32) = (1 : Int32)))).2 (by decide) (by decide) ?_
    refine XS.iload X4.here hx rfl (hb hby at_171) rfl ?_
    refine XS.iconst X4.here hx rfl (hb hby at_173) ?_
    show Steps p.tables e below (T4.setTop (mkF m 174 #[own_jv p0, .second, own_jv p1, .second, own_jv p2, .second, own_jv p3, .second, iv p4, own_jv m0, .second, own_jv m1, .second, own_jv m2, .second, own_jv m1, .second, rv b0_1, rv b0_3, iv (2 : Int32), .unset] [(.int (2 : Int32)), (.int (2 : Int32))])) _
    refine XS.icmpNo X4.here hx rfl (hb hby at_174) rfl (teq (by decide +kernel : (2 : Int32) = (2 : Int32))).2 ?_
    refine XS.lload X4.here hx rfl (hb hby at_177) rfl ?_
    refine st5 _ ?_
    refine XS.astore X5.here hx rfl (hb hby at_182) rfl rfl (l' := #[own_jv p0, .second, own_jv p1, .second, own_jv p2, .second, own_jv p3, .second, iv p4, own_jv m0, .second, own_jv m1, .second, own_jv m2, .second, own_jv m1, .second, rv b0_1, rv b0_3, iv (2 : Int32), rv b0_5]) rfl ?_
    refine XS.aload X5.here hx rfl (hb hby at_184) rfl rfl ?_
    refine XS.aload X5.here hx rfl (hb hby at_186) rfl rfl ?_
    refine st10.trans ?_
    refine XS.ifNo X10.here hx rfl (hb hby at_191) rfl ((if0 _ _).trans (teq (by decide +kernel : (0 : Int32) = (0 : Int32))).2) ?_
    show Steps p.tables e below (T10.setTop (mkF m 194 #[own_jv p0, .second, own_jv p1, .second, own_jv p2, .second, own_jv p3, .second, iv p4, own_jv m0, .second, own_jv m1, .second, own_jv m2, .second, own_jv m1, .second, rv b0_1, rv b0_3, iv (2 : Int32), rv b0_5] [])) _
    refine XS.iconst X10.here hx rfl (hb hby at_194) ?_
    refine XS.goto X10.here hx rfl (pc0 := 195) (pc' := 199) rfl (hb hby at_195) (by decide) (by decide) ?_
    exact retN X10 hx (t := .boolean) Bd.returns (by simp) (hb hby at_199) hr
  · exact ⟨rfl, N10⟩
set_option maxRecDepth 65536 in
set_option maxHeartbeats 40000000 in
theorem rm0_15 (l : Launch) (Z : State) (a0 : Array Value) (hw : ∀ d ∈ tables_1, d.before a0 Z = true) (ws : List Jvm.Cond) (p0 : Int64) (p1 : Int64) (p2 : Int64) (p3 : Int64) (p4 : Int32) (w_LongCache_cache : Addr) (m0 : Int64) (m1 : Int64) (m3 : Int64) (h0 : Heap) (n0 : Nat) (Z0 : n0 ≤ h0.size) (hm0 : (p0 &&& (9223372036854775807 : Int64)) = m0) (hm1 : (p1 &&& (9223372036854775807 : Int64)) = m1) (hk1 : (p4 &&& (1 : Int32)) = (1 : Int32)) (hk2 : (p4 &&& (2 : Int32)) = (0 : Int32)) (hm3 : (p3 &&& (9223372036854775807 : Int64)) = m3) (hn0 : ¬ (m0 < (0 : Int64))) (hn1 : ¬ (m1 < (0 : Int64))) (hn3 : ¬ (m3 < (0 : Int64))) (hkk : (((p4.toUInt32 >>> ((2 : Int32) &&& 31).toUInt32).toInt32) &&& (3 : Int32)) = (2 : Int32)) (S_LongCache_cache : Sta Z h0 "java/lang/Long$LongCache" "cache" "[Ljava/lang/Long;" (.ref w_LongCache_cache)) (CA_w_LongCache_cache : own_Cache Z h0 w_LongCache_cache "java/lang/Long") :
    MetFree l x (head1 (Jvm.Cond.code x code maxLocals ret :: ws) room_1) (fun a U => a = #[(.long p0), (.long p1), (.long p2), (.long p3), (.int p4)] ∧ Z.Warmed39 U.vm ∧ U.heap = h0) (fun _ _ _ _ _ => True) (fun _ U o U' => ∃ v L, o = .returned v ∧ own_QL n0 v U'.heap L ∧ FrameEnd U o U' L room_1.cells room_1.slots) := by
  refine MetFree.of_bodySF (plainFor_of_name pn_3) hisR ?_
  intro p e s m args below meth c s₁ Bd hml0 hP hK
  obtain ⟨rfl, hZ, hh⟩ := hP
  have hx := Bd.exec
  have hby := Bd.bytes
  have hml : c.maxLocals = 21 := hml0
  have hown : s.vm.findClass "com/example/allotd/allotd/engine/TokensEqualsPinLaw" = some m.cls := findClass_of_methodNamed Bd.named
  have hnm := (name_of_methodNamed Bd.named Bd.method).1
  have X0 : Stand p l e room_1 s m #[(.long p0), (.long p1), (.long p2), (.long p3), (.int p4)] below meth c s₁ [] 0 0 := Stand.of_body Bd
  have e0 : s₁.heap = h0 := by rw [← hh, Bd.state]; rfl
  have N0 := Fr.nil n0
  have pre0 : ∀ t, Steps p.tables e below (s₁.setTop (mkF m 0 #[own_jv p0, .second, own_jv p1, .second, own_jv p2, .second, own_jv p3, .second, iv p4, .unset, .unset, .unset, .unset, .unset, .unset, .unset, .unset, .unset, .unset, .unset, .unset] [])) t → Steps p.tables e below (s₁.setTop (entryFrame m #[(.long p0), (.long p1), (.long p2), (.long p3), (.int p4)] maxLocals)) t := fun t k => castTop (ef_0_JJJJI m p0 p1 p2 p3 p4) k
  obtain ⟨T1, h1, X1, e1, E1, A1, D1, -, st1⟩ := newO X0 hx hZ hown (hw _ (List.mem_of_getElem? (i := 1) rfl)) (hw _ (List.mem_of_getElem? (i := 2) rfl)) (hw _ (List.mem_of_getElem? (i := 3) rfl)) e0 (g := (mkF m 54 #[own_jv p0, .second, own_jv p1, .second, own_jv p2, .second, own_jv p3, .second, iv p4, own_jv m0, .second, own_jv m1, .second, own_jv m0, .second, own_jv m3, .second, .unset, .unset, .unset, .unset] [])) rfl (hb hby at_54) (by decide) (by decide)
  obtain ⟨b0_1, gg1⟩ : ∃ z, z = h0.size := ⟨_, rfl⟩
  rw [← gg1] at A1 D1 st1
  have g_b0_1 : n0 ≤ b0_1 := Nat.le_trans Z0 (Nat.le_of_eq gg1.symm)
  have sz_b0_1 : h0.size ≤ b0_1 := Nat.le_trans (Keep.refl h0 []).1 (Nat.le_of_eq gg1.symm)
  have Z1 : n0 ≤ h1.size := Nat.le_trans Z0 E1.1
  have KK1 : Keep h0 h1 [] := (Keep.refl h0 []).ext E1
  have E_b0_1 : Exa Z h1 b0_1 "com/example/allotd/allotd/engine/Tokens" := A1
  have F_b0_1_input : Fld Z h1 b0_1 "com/example/allotd/allotd/engine/Tokens" "input" "J" (.long (0 : Int64)) := D1 (Or.inr (hw _ (List.mem_of_getElem? (i := 11) rfl))) (ty := .long) (by decide)
  have F_b0_1_output : Fld Z h1 b0_1 "com/example/allotd/allotd/engine/Tokens" "output" "J" (.long (0 : Int64)) := D1 (Or.inr (hw _ (List.mem_of_getElem? (i := 13) rfl))) (ty := .long) (by decide)
  obtain ⟨_, _, ⟨T2, L2, k2, n2⟩, -, X2, ⟨Lc2, hQ2, l2, y2, z2⟩, st2⟩ := X1.specialBack hx (y := (⟨"com/example/allotd/allotd/engine/Tokens", "<init>", "(JJ)V"⟩ : MethodName)) rfl hown (mvT hZ (hw _ (List.mem_of_getElem? (i := 4) rfl))) (mvT hZ (hw _ (List.mem_of_getElem? (i := 5) rfl))) (mvT hZ (hw _ (List.mem_of_getElem? (i := 6) rfl))) (by decide) (backOf (W := 1) (rm1_2 l Z a0 hw [] m0 m1 b0_1 h1 n0 Z1 hn0 hn1 E_b0_1 F_b0_1_input g_b0_1 F_b0_1_output) hZ (hw _ (List.mem_of_getElem? (i := 6) rfl)) (hw _ (List.mem_of_getElem? (i := 3) rfl)) (by decide) (by decide)) (g := (mkF m 62 #[own_jv p0, .second, own_jv p1, .second, own_jv p2, .second, own_jv p3, .second, iv p4, own_jv m0, .second, own_jv m1, .second, own_jv m0, .second, own_jv m3, .second, .unset, .unset, .unset, .unset] [(.long m1), (.long m0), (.ref b0_1), (.ref b0_1)])) rfl (by rw [hml]; rfl) (Steps.refl _) (a := b0_1) (argsL := [(.long m0), (.long m1)]) (rest := [(.ref b0_1)]) (lenOf pd_2 rfl) rfl (by show 2 * 0 + _ ≤ _; exact Nat.le_of_eq rfl) (hb hby at_62) (fun _ _ => ⟨rfl, e1, (by decide : 1 + 0 ≤ _), (by decide : 2 + 0 ≤ _)⟩)
  dsimp only [Pt.U, Pt.locs, Pt.cells, Pt.slots] at X2 l2 y2 z2 st2 hQ2
  subst l2 y2 z2
  obtain ⟨rfl, N2q, K2, fq2_0, fq2_1, fq2_2⟩ := hQ2
  have KK2 : Keep h0 T2.heap [] := KK1.trans K2 (allS (P := fun x => x ∈ [] ∨ h0.size ≤ x) (Or.inr sz_b0_1) all0)
  have Z2 : n0 ≤ T2.heap.size := Nat.le_trans Z1 K2.1
  have N2 := Fr.app N0 N2q
  obtain ⟨T3, h3, X3, e3, E3, A3, D3, -, st3⟩ := newO X2 hx hZ hown (hw _ (List.mem_of_getElem? (i := 1) rfl)) (hw _ (List.mem_of_getElem? (i := 2) rfl)) (hw _ (List.mem_of_getElem? (i := 3) rfl)) rfl (g := (mkF m 67 #[own_jv p0, .second, own_jv p1, .second, own_jv p2, .second, own_jv p3, .second, iv p4, own_jv m0, .second, own_jv m1, .second, own_jv m0, .second, own_jv m3, .second, rv b0_1, .unset, .unset, .unset] [])) rfl (hb hby at_67) (by decide) (by decide)
  obtain ⟨b0_3, gg3⟩ : ∃ z, z = T2.heap.size := ⟨_, rfl⟩
  rw [← gg3] at A3 D3 st3
  have g_b0_3 : n0 ≤ b0_3 := Nat.le_trans Z2 (Nat.le_of_eq gg3.symm)
  have sz_b0_3 : h0.size ≤ b0_3 := Nat.le_trans KK2.1 (Nat.le_of_eq gg3.symm)
  have Z3 : n0 ≤ h3.size := Nat.le_trans Z2 E3.1
  have KK3 : Keep h0 h3 [] := KK2.ext E3
  have E_b0_3 : Exa Z h3 b0_3 "com/example/allotd/allotd/engine/Tokens" := A3
  have F_b0_3_input : Fld Z h3 b0_3 "com/example/allotd/allotd/engine/Tokens" "input" "J" (.long (0 : Int64)) := D3 (Or.inr (hw _ (List.mem_of_getElem? (i := 11) rfl))) (ty := .long) (by decide)
  have F_b0_3_output : Fld Z h3 b0_3 "com/example/allotd/allotd/engine/Tokens" "output" "J" (.long (0 : Int64)) := D3 (Or.inr (hw _ (List.mem_of_getElem? (i := 13) rfl))) (ty := .long) (by decide)
  obtain ⟨_, _, ⟨T4, L4, k4, n4⟩, -, X4, ⟨Lc4, hQ4, l4, y4, z4⟩, st4⟩ := X3.specialBack hx (y := (⟨"com/example/allotd/allotd/engine/Tokens", "<init>", "(JJ)V"⟩ : MethodName)) rfl hown (mvT hZ (hw _ (List.mem_of_getElem? (i := 4) rfl))) (mvT hZ (hw _ (List.mem_of_getElem? (i := 5) rfl))) (mvT hZ (hw _ (List.mem_of_getElem? (i := 6) rfl))) (by decide) (backOf (W := 1) (rm1_13 l Z a0 hw [] m0 m3 b0_3 h3 n0 Z3 hn0 hn3 E_b0_3 F_b0_3_input g_b0_3 F_b0_3_output) hZ (hw _ (List.mem_of_getElem? (i := 6) rfl)) (hw _ (List.mem_of_getElem? (i := 3) rfl)) (by decide) (by decide)) (g := (mkF m 75 #[own_jv p0, .second, own_jv p1, .second, own_jv p2, .second, own_jv p3, .second, iv p4, own_jv m0, .second, own_jv m1, .second, own_jv m0, .second, own_jv m3, .second, rv b0_1, .unset, .unset, .unset] [(.long m3), (.long m0), (.ref b0_3), (.ref b0_3)])) rfl (by rw [hml]; rfl) (Steps.refl _) (a := b0_3) (argsL := [(.long m0), (.long m3)]) (rest := [(.ref b0_3)]) (lenOf pd_2 rfl) rfl (by show 2 * 0 + _ ≤ _; exact Nat.le_of_eq rfl) (hb hby at_75) (fun _ _ => ⟨rfl, e3, (by decide : 2 + 0 ≤ _), (by decide : 4 + 0 ≤ _)⟩)
  dsimp only [Pt.U, Pt.locs, Pt.cells, Pt.slots] at X4 l4 y4 z4 st4 hQ4
  subst l4 y4 z4
  obtain ⟨rfl, N4q, K4, fq4_0, fq4_1, fq4_2⟩ := hQ4
  have KK4 : Keep h0 T4.heap [] := KK3.trans K4 (allS (P := fun x => x ∈ [] ∨ h0.size ≤ x) (Or.inr sz_b0_3) all0)
  have Z4 : n0 ≤ T4.heap.size := Nat.le_trans Z3 K4.1
  have N4 := Fr.app N2 N4q
  have c6 := (own_Sta_keep ((own_Sta_keep (S_LongCache_cache.ext E1) K2 (own_stS E_b0_1 own_st0)).ext E3) K4 (own_stS E_b0_3 own_st0))
  have ne_b0_1_w_LongCache_cache_7 : ¬ (b0_1 = w_LongCache_cache) := (Ne.symm (Nat.ne_of_lt (Nat.lt_of_lt_of_le (own_Cache_lt CA_w_LongCache_cache) (Nat.le_of_eq gg1.symm))))
  have ne_b0_3_w_LongCache_cache_8 : ¬ (b0_3 = w_LongCache_cache) := (Ne.symm (Nat.ne_of_lt (Nat.lt_of_lt_of_le (own_Cache_lt (own_Cache_keep (own_Cache_ext CA_w_LongCache_cache E1) K2 (ninS (Ne.symm ne_b0_1_w_LongCache_cache_7) nin0))) (Nat.le_of_eq gg3.symm))))
  have c9 := (own_Cache_keep (own_Cache_ext (own_Cache_keep (own_Cache_ext CA_w_LongCache_cache E1) K2 (ninS (Ne.symm ne_b0_1_w_LongCache_cache_7) nin0)) E3) K4 (ninS (Ne.symm ne_b0_3_w_LongCache_cache_8) nin0))
  obtain ⟨_, _, ⟨T5, L5, k5, n5⟩, -, X5, ⟨Lc5, hQ5, l5, y5, z5⟩, st5⟩ := Jvm.LawKit.callS X4 hx (y := (⟨"java/lang/Long", "valueOf", "(J)Ljava/lang/Long;"⟩ : MethodName)) hown (mvT hZ (hw _ (List.mem_of_getElem? (i := 21) rfl))) (mvT hZ (hw _ (List.mem_of_getElem? (i := 22) rfl))) (mvT hZ (hw _ (List.mem_of_getElem? (i := 23) rfl))) (mvT hZ (hw _ (List.mem_of_getElem? (i := 24) rfl))) (by decide) (backOf (W := 0) (rk_boxJ l Z a0 hw [] w_LongCache_cache m0 T4.heap n0 Z4 c6 c9) hZ (hw _ (List.mem_of_getElem? (i := 24) rfl)) (hw _ (List.mem_of_getElem? (i := 23) rfl)) (by decide) (by decide)) (g := (mkF m 179 #[own_jv p0, .second, own_jv p1, .second, own_jv p2, .second, own_jv p3, .second, iv p4, own_jv m0, .second, own_jv m1, .second, own_jv m0, .second, own_jv m3, .second, rv b0_1, rv b0_3, iv (2 : Int32), .unset] [(.long m0)])) rfl (by rw [hml]; rfl) (argsL := [(.long m0)]) (rest := []) (lenOf pd_4 rfl) rfl (by show 2 * 0 + _ ≤ _; exact Nat.le_of_eq rfl) (hb hby at_179) (fun _ _ => ⟨rfl, rfl, (by decide : 2 + 1 ≤ _), (by decide : 4 + 1 ≤ _)⟩)
  dsimp only [Pt.U, Pt.locs, Pt.cells, Pt.slots] at X5 l5 y5 z5 st5 hQ5
  subst l5 y5 z5
  obtain ⟨b0_5, rfl, N5q, K5, E_b0_5⟩ := hQ5
  have KK5 : Keep h0 T5.heap [] := KK4.trans K5 all0
  have Z5 : n0 ≤ T5.heap.size := Nat.le_trans Z4 K5.1
  have N5 := Fr.app N4 N5q
  have c11 := (((fq2_2.ext E3).keep K4).keep K5)
  obtain ⟨cq10, kq10, q10a, q10b, q10c⟩ := isOf hZ rfl c11
  obtain ⟨_, _, ⟨T10, L10, k10, n10⟩, -, X10, ⟨Lc10, hQ10, l10, y10, z10⟩, st10⟩ := X5.virtualBack hx (y := (⟨"com/example/allotd/allotd/engine/Tokens", "equals", "(Ljava/lang/Object;)Z"⟩ : MethodName)) (z := (⟨"com/example/allotd/allotd/engine/Tokens", "equals", "(Ljava/lang/Object;)Z"⟩ : MethodName)) hown (mvT hZ (hw _ (List.mem_of_getElem? (i := 14) rfl))) (mvT hZ (hw _ (List.mem_of_getElem? (i := 15) rfl))) (notFace_of_selects (args := #[]) (mvT hZ (hw _ (List.mem_of_getElem? (i := 17) rfl)))) (mvT hZ (hw _ (List.mem_of_getElem? (i := 17) rfl))) (mvT hZ (hw _ (List.mem_of_getElem? (i := 16) rfl))) (by decide) (backOf (W := 0) (rm3_22 l Z a0 hw [] b0_1 b0_5 T5.heap n0 Z5 E_b0_5) hZ (hw _ (List.mem_of_getElem? (i := 18) rfl)) (hw _ (List.mem_of_getElem? (i := 3) rfl)) (by decide) (by decide)) q10a q10c (g := (mkF m 188 #[own_jv p0, .second, own_jv p1, .second, own_jv p2, .second, own_jv p3, .second, iv p4, own_jv m0, .second, own_jv m1, .second, own_jv m0, .second, own_jv m3, .second, rv b0_1, rv b0_3, iv (2 : Int32), rv b0_5] [(.ref b0_5), (.ref b0_1)])) rfl (by rw [hml]; rfl) (Steps.refl _) (argsL := [(.ref b0_5)]) (rest := []) (lenOf pd_3 rfl) rfl (by show 2 * 0 + _ ≤ _; exact Nat.le_of_eq rfl) (hb hby at_188) (fun _ _ => ⟨rfl, rfl, (by decide : 3 + 0 ≤ _), (by decide : 5 + 0 ≤ _)⟩)
  dsimp only [Pt.U, Pt.locs, Pt.cells, Pt.slots] at X10 l10 y10 z10 st10 hQ10
  subst l10 y10 z10
  obtain ⟨rfl, N10q, e10⟩ := hQ10
  have N10 := Fr.app N5 N10q
  obtain ⟨fs, hr, hrun, hended, hW, hsame⟩ := X10.leave (v := (some (.int (1 : Int32)))) (fun h => by rw [Bd.returns] at h; cases h)
  refine ⟨_, _, pre0 _ ?_, hrun, hended, _, _, rfl, ?_, ⟨_, rfl⟩, hW, hsame.mono (by decide) (by decide)⟩
  · show Steps p.tables e below (s₁.setTop (mkF m 0 #[own_jv p0, .second, own_jv p1, .second, own_jv p2, .second, own_jv p3, .second, iv p4, .unset, .unset, .unset, .unset, .unset, .unset, .unset, .unset, .unset, .unset, .unset, .unset] [])) _
    refine XS.lloadN X0.here hx rfl (hb hby at_0) rfl ?_
    refine X0.ldc2Long hx hown (mvT hZ (hw _ (List.mem_of_getElem? (i := 0) rfl))) (g := (mkF m 1 #[own_jv p0, .second, own_jv p1, .second, own_jv p2, .second, own_jv p3, .second, iv p4, .unset, .unset, .unset, .unset, .unset, .unset, .unset, .unset, .unset, .unset, .unset, .unset] [(.long p0)])) rfl (hb hby at_1) _ ?_
    refine XS.land X0.here hx rfl (hb hby at_4) rfl ?_
    show Steps p.tables e below (s₁.setTop (mkF m 5 #[own_jv p0, .second, own_jv p1, .second, own_jv p2, .second, own_jv p3, .second, iv p4, .unset, .unset, .unset, .unset, .unset, .unset, .unset, .unset, .unset, .unset, .unset, .unset] [(.long (p0 &&& (9223372036854775807 : Int64)))])) _
    rewrite [hm0]
    refine XS.lstore X0.here hx rfl (hb hby at_5) rfl (l' := #[own_jv p0, .second, own_jv p1, .second, own_jv p2, .second, own_jv p3, .second, iv p4, own_jv m0, .second, .unset, .unset, .unset, .unset, .unset, .unset, .unset, .unset, .unset, .unset]) rfl ?_
    refine XS.lloadN X0.here hx rfl (hb hby at_7) rfl ?_
    refine X0.ldc2Long hx hown (mvT hZ (hw _ (List.mem_of_getElem? (i := 0) rfl))) (g := (mkF m 8 #[own_jv p0, .second, own_jv p1, .second, own_jv p2, .second, own_jv p3, .second, iv p4, own_jv m0, .second, .unset, .unset, .unset, .unset, .unset, .unset, .unset, .unset, .unset, .unset] [(.long p1)])) rfl (hb hby at_8) _ ?_
    refine XS.land X0.here hx rfl (hb hby at_11) rfl ?_
    show Steps p.tables e below (s₁.setTop (mkF m 12 #[own_jv p0, .second, own_jv p1, .second, own_jv p2, .second, own_jv p3, .second, iv p4, own_jv m0, .second, .unset, .unset, .unset, .unset, .unset, .unset, .unset, .unset, .unset, .unset] [(.long (p1 &&& (9223372036854775807 : Int64)))])) _
    rewrite [hm1]
    refine XS.lstore X0.here hx rfl (hb hby at_12) rfl (l' := #[own_jv p0, .second, own_jv p1, .second, own_jv p2, .second, own_jv p3, .second, iv p4, own_jv m0, .second, own_jv m1, .second, .unset, .unset, .unset, .unset, .unset, .unset, .unset, .unset]) rfl ?_
    show Steps p.tables e below (s₁.setTop (mkF m 14 #[own_jv p0, .second, own_jv p1, .second, own_jv p2, .second, own_jv p3, .second, iv p4, own_jv m0, .second, own_jv m1, .second, .unset, .unset, .unset, .unset, .unset, .unset, .unset, .unset] [])) _
    refine XS.iload X0.here hx rfl (hb hby at_14) rfl ?_
    refine XS.iconst X0.here hx rfl (hb hby at_16) ?_
    refine XS.iand X0.here hx rfl (hb hby at_17) rfl ?_
    show Steps p.tables e below (s₁.setTop (mkF m 18 #[own_jv p0, .second, own_jv p1, .second, own_jv p2, .second, own_jv p3, .second, iv p4, own_jv m0, .second, own_jv m1, .second, .unset, .unset, .unset, .unset, .unset, .unset, .unset, .unset] [(.int (p4 &&& (1 : Int32)))])) _
    rewrite [hk1]
    refine XS.ifNo X0.here hx rfl (hb hby at_18) rfl ((if0 _ _).trans (feq (by decide +kernel : ¬ ((1 : Int32) = (0 : Int32)))).1) ?_
    refine XS.lload X0.here hx rfl (hb hby at_21) rfl ?_
    refine XS.goto X0.here hx rfl (pc0 := 23) (pc' := 32) rfl (hb hby at_23) (by decide) (by decide) ?_
    refine XS.lstore X0.here hx rfl (hb hby at_32) rfl (l' := #[own_jv p0, .second, own_jv p1, .second, own_jv p2, .second, own_jv p3, .second, iv p4, own_jv m0, .second, own_jv m1, .second, own_jv m0, .second, .unset, .unset, .unset, .unset, .unset, .unset]) rfl ?_
    refine XS.iload X0.here hx rfl (hb hby at_34) rfl ?_
    show Steps p.tables e below (s₁.setTop (mkF m 36 #[own_jv p0, .second, own_jv p1, .second, own_jv p2, .second, own_jv p3, .second, iv p4, own_jv m0, .second, own_jv m1, .second, own_jv m0, .second, .unset, .unset, .unset, .unset, .unset, .unset] [(.int p4)])) _
    refine XS.iconst X0.here hx rfl (hb hby at_36) ?_
    refine XS.iand X0.here hx rfl (hb hby at_37) rfl ?_
    refine XS.ifYes X0.here hx rfl (pc0 := 38) (pc' := 46) rfl (hb hby at_38) rfl ((if0 _ _).trans (teq hk2).1) (by decide) (by decide) ?_
    refine XS.lload X0.here hx rfl (hb hby at_46) rfl ?_
    refine X0.ldc2Long hx hown (mvT hZ (hw _ (List.mem_of_getElem? (i := 0) rfl))) (g := (mkF m 48 #[own_jv p0, .second, own_jv p1, .second, own_jv p2, .second, own_jv p3, .second, iv p4, own_jv m0, .second, own_jv m1, .second, own_jv m0, .second, .unset, .unset, .unset, .unset, .unset, .unset] [(.long p3)])) rfl (hb hby at_48) _ ?_
    refine XS.land X0.here hx rfl (hb hby at_51) rfl ?_
    show Steps p.tables e below (s₁.setTop (mkF m 52 #[own_jv p0, .second, own_jv p1, .second, own_jv p2, .second, own_jv p3, .second, iv p4, own_jv m0, .second, own_jv m1, .second, own_jv m0, .second, .unset, .unset, .unset, .unset, .unset, .unset] [(.long (p3 &&& (9223372036854775807 : Int64)))])) _
    rewrite [hm3]
    refine XS.lstore X0.here hx rfl (hb hby at_52) rfl (l' := #[own_jv p0, .second, own_jv p1, .second, own_jv p2, .second, own_jv p3, .second, iv p4, own_jv m0, .second, own_jv m1, .second, own_jv m0, .second, own_jv m3, .second, .unset, .unset, .unset, .unset]) rfl ?_
    refine st1 _ ?_
    show Steps p.tables e below (T1.setTop (mkF m 57 #[own_jv p0, .second, own_jv p1, .second, own_jv p2, .second, own_jv p3, .second, iv p4, own_jv m0, .second, own_jv m1, .second, own_jv m0, .second, own_jv m3, .second, .unset, .unset, .unset, .unset] [(.ref b0_1)])) _
    refine XS.dup X1.here hx rfl (hb hby at_57) rfl rfl ?_
    refine XS.lload X1.here hx rfl (hb hby at_58) rfl ?_
    refine XS.lload X1.here hx rfl (hb hby at_60) rfl ?_
    refine st2.trans ?_
    refine XS.astore X2.here hx rfl (hb hby at_65) rfl rfl (l' := #[own_jv p0, .second, own_jv p1, .second, own_jv p2, .second, own_jv p3, .second, iv p4, own_jv m0, .second, own_jv m1, .second, own_jv m0, .second, own_jv m3, .second, rv b0_1, .unset, .unset, .unset]) rfl ?_
    refine st3 _ ?_
    refine XS.dup X3.here hx rfl (hb hby at_70) rfl rfl ?_
    refine XS.lload X3.here hx rfl (hb hby at_71) rfl ?_
    show Steps p.tables e below (T3.setTop (mkF m 73 #[own_jv p0, .second, own_jv p1, .second, own_jv p2, .second, own_jv p3, .second, iv p4, own_jv m0, .second, own_jv m1, .second, own_jv m0, .second, own_jv m3, .second, rv b0_1, .unset, .unset, .unset] [(.long m0), (.ref b0_3), (.ref b0_3)])) _
    refine XS.lload X3.here hx rfl (hb hby at_73) rfl ?_
    refine st4.trans ?_
    refine XS.astore X4.here hx rfl (hb hby at_78) rfl rfl (l' := #[own_jv p0, .second, own_jv p1, .second, own_jv p2, .second, own_jv p3, .second, iv p4, own_jv m0, .second, own_jv m1, .second, own_jv m0, .second, own_jv m3, .second, rv b0_1, rv b0_3, .unset, .unset]) rfl ?_
    refine XS.iload X4.here hx rfl (hb hby at_80) rfl ?_
    refine XS.iconst X4.here hx rfl (hb hby at_82) ?_
    refine XS.iushr X4.here hx rfl (hb hby at_83) rfl ?_
    refine XS.iconst X4.here hx rfl (hb hby at_84) ?_
    refine XS.iand X4.here hx rfl (hb hby at_85) rfl ?_
    show Steps p.tables e below (T4.setTop (mkF m 86 #[own_jv p0, .second, own_jv p1, .second, own_jv p2, .second, own_jv p3, .second, iv p4, own_jv m0, .second, own_jv m1, .second, own_jv m0, .second, own_jv m3, .second, rv b0_1, rv b0_3, .unset, .unset] [(.int (((p4.toUInt32 >>> ((2 : Int32) &&& 31).toUInt32).toInt32) &&& (3 : Int32)))])) _
    rewrite [hkk]
    show Steps p.tables e below (T4.setTop (mkF m 86 #[own_jv p0, .second, own_jv p1, .second, own_jv p2, .second, own_jv p3, .second, iv p4, own_jv m0, .second, own_jv m1, .second, own_jv m0, .second, own_jv m3, .second, rv b0_1, rv b0_3, .unset, .unset] [(.int (2 : Int32))])) _
    refine XS.istore X4.here hx rfl (hb hby at_86) rfl (l' := #[own_jv p0, .second, own_jv p1, .second, own_jv p2, .second, own_jv p3, .second, iv p4, own_jv m0, .second, own_jv m1, .second, own_jv m0, .second, own_jv m3, .second, rv b0_1, rv b0_3, iv (2 : Int32), .unset]) rfl ?_
    refine XS.iload X4.here hx rfl (hb hby at_88) rfl ?_
    refine XS.ifYes X4.here hx rfl (pc0 := 90) (pc' := 146) rfl (hb hby at_90) rfl ((if0 _ _).trans (feq (by decide +kernel : ¬ ((2 : Int32) = (0 : Int32)))).2) (by decide) (by decide) ?_
    refine XS.iload X4.here hx rfl (hb hby at_146) rfl ?_
    refine XS.iconst X4.here hx rfl (hb hby at_148) ?_
    refine XS.icmpYes X4.here hx rfl (pc0 := 149) (pc' := 171) rfl (hb hby at_149) rfl (feq (by decide +kernel : ¬ ((2 : Int32) = (1 : Int32)))).2 (by decide) (by decide) ?_
    refine XS.iload X4.here hx rfl (hb hby at_171) rfl ?_
    refine XS.iconst X4.here hx rfl (hb hby at_173) ?_
    show Steps p.tables e below (T4.setTop (mkF m 174 #[own_jv p0, .second, own_jv p1, .second, own_jv p2, .second, own_jv p3, .second, iv p4, own_jv m0, .second, own_jv m1, .second, own_jv m0, .second, own_jv m3, .second, rv b0_1, rv b0_3, iv (2 : Int32), .unset] [(.int (2 : Int32)), (.int (2 : Int32))])) _
    refine XS.icmpNo X4.here hx rfl (hb hby at_174) rfl (teq (by decide +kernel : (2 : Int32) = (2 : Int32))).2 ?_
    refine XS.lload X4.here hx rfl (hb hby at_177) rfl ?_
    refine st5 _ ?_
    refine XS.astore X5.here hx rfl (hb hby at_182) rfl rfl (l' := #[own_jv p0, .second, own_jv p1, .second, own_jv p2, .second, own_jv p3, .second, iv p4, own_jv m0, .second, own_jv m1, .second, own_jv m0, .second, own_jv m3, .second, rv b0_1, rv b0_3, iv (2 : Int32), rv b0_5]) rfl ?_
    refine XS.aload X5.here hx rfl (hb hby at_184) rfl rfl ?_
    refine XS.aload X5.here hx rfl (hb hby at_186) rfl rfl ?_
    refine st10.trans ?_
    refine XS.ifNo X10.here hx rfl (hb hby at_191) rfl ((if0 _ _).trans (teq (by decide +kernel : (0 : Int32) = (0 : Int32))).2) ?_
    show Steps p.tables e below (T10.setTop (mkF m 194 #[own_jv p0, .second, own_jv p1, .second, own_jv p2, .second, own_jv p3, .second, iv p4, own_jv m0, .second, own_jv m1, .second, own_jv m0, .second, own_jv m3, .second, rv b0_1, rv b0_3, iv (2 : Int32), rv b0_5] [])) _
    refine XS.iconst X10.here hx rfl (hb hby at_194) ?_
    refine XS.goto X10.here hx rfl (pc0 := 195) (pc' := 199) rfl (hb hby at_195) (by decide) (by decide) ?_
    exact retN X10 hx (t := .boolean) Bd.returns (by simp) (hb hby at_199) hr
  · exact ⟨rfl, N10⟩
set_option maxRecDepth 65536 in
set_option maxHeartbeats 40000000 in
theorem rm0_16 (l : Launch) (Z : State) (a0 : Array Value) (hw : ∀ d ∈ tables_1, d.before a0 Z = true) (ws : List Jvm.Cond) (p0 : Int64) (p1 : Int64) (p2 : Int64) (p3 : Int64) (p4 : Int32) (w_LongCache_cache : Addr) (m0 : Int64) (m1 : Int64) (h0 : Heap) (n0 : Nat) (Z0 : n0 ≤ h0.size) (hm0 : (p0 &&& (9223372036854775807 : Int64)) = m0) (hm1 : (p1 &&& (9223372036854775807 : Int64)) = m1) (hk1 : (p4 &&& (1 : Int32)) = (1 : Int32)) (hk2 : ¬ ((p4 &&& (2 : Int32)) = (0 : Int32))) (hn0 : ¬ (m0 < (0 : Int64))) (hn1 : ¬ (m1 < (0 : Int64))) (hkk : (((p4.toUInt32 >>> ((2 : Int32) &&& 31).toUInt32).toInt32) &&& (3 : Int32)) = (2 : Int32)) (S_LongCache_cache : Sta Z h0 "java/lang/Long$LongCache" "cache" "[Ljava/lang/Long;" (.ref w_LongCache_cache)) (CA_w_LongCache_cache : own_Cache Z h0 w_LongCache_cache "java/lang/Long") :
    MetFree l x (head1 (Jvm.Cond.code x code maxLocals ret :: ws) room_1) (fun a U => a = #[(.long p0), (.long p1), (.long p2), (.long p3), (.int p4)] ∧ Z.Warmed39 U.vm ∧ U.heap = h0) (fun _ _ _ _ _ => True) (fun _ U o U' => ∃ v L, o = .returned v ∧ own_QL n0 v U'.heap L ∧ FrameEnd U o U' L room_1.cells room_1.slots) := by
  refine MetFree.of_bodySF (plainFor_of_name pn_3) hisR ?_
  intro p e s m args below meth c s₁ Bd hml0 hP hK
  obtain ⟨rfl, hZ, hh⟩ := hP
  have hx := Bd.exec
  have hby := Bd.bytes
  have hml : c.maxLocals = 21 := hml0
  have hown : s.vm.findClass "com/example/allotd/allotd/engine/TokensEqualsPinLaw" = some m.cls := findClass_of_methodNamed Bd.named
  have hnm := (name_of_methodNamed Bd.named Bd.method).1
  have X0 : Stand p l e room_1 s m #[(.long p0), (.long p1), (.long p2), (.long p3), (.int p4)] below meth c s₁ [] 0 0 := Stand.of_body Bd
  have e0 : s₁.heap = h0 := by rw [← hh, Bd.state]; rfl
  have N0 := Fr.nil n0
  have pre0 : ∀ t, Steps p.tables e below (s₁.setTop (mkF m 0 #[own_jv p0, .second, own_jv p1, .second, own_jv p2, .second, own_jv p3, .second, iv p4, .unset, .unset, .unset, .unset, .unset, .unset, .unset, .unset, .unset, .unset, .unset, .unset] [])) t → Steps p.tables e below (s₁.setTop (entryFrame m #[(.long p0), (.long p1), (.long p2), (.long p3), (.int p4)] maxLocals)) t := fun t k => castTop (ef_0_JJJJI m p0 p1 p2 p3 p4) k
  obtain ⟨T1, h1, X1, e1, E1, A1, D1, -, st1⟩ := newO X0 hx hZ hown (hw _ (List.mem_of_getElem? (i := 1) rfl)) (hw _ (List.mem_of_getElem? (i := 2) rfl)) (hw _ (List.mem_of_getElem? (i := 3) rfl)) e0 (g := (mkF m 54 #[own_jv p0, .second, own_jv p1, .second, own_jv p2, .second, own_jv p3, .second, iv p4, own_jv m0, .second, own_jv m1, .second, own_jv m0, .second, own_jv m1, .second, .unset, .unset, .unset, .unset] [])) rfl (hb hby at_54) (by decide) (by decide)
  obtain ⟨b0_1, gg1⟩ : ∃ z, z = h0.size := ⟨_, rfl⟩
  rw [← gg1] at A1 D1 st1
  have g_b0_1 : n0 ≤ b0_1 := Nat.le_trans Z0 (Nat.le_of_eq gg1.symm)
  have sz_b0_1 : h0.size ≤ b0_1 := Nat.le_trans (Keep.refl h0 []).1 (Nat.le_of_eq gg1.symm)
  have Z1 : n0 ≤ h1.size := Nat.le_trans Z0 E1.1
  have KK1 : Keep h0 h1 [] := (Keep.refl h0 []).ext E1
  have E_b0_1 : Exa Z h1 b0_1 "com/example/allotd/allotd/engine/Tokens" := A1
  have F_b0_1_input : Fld Z h1 b0_1 "com/example/allotd/allotd/engine/Tokens" "input" "J" (.long (0 : Int64)) := D1 (Or.inr (hw _ (List.mem_of_getElem? (i := 11) rfl))) (ty := .long) (by decide)
  have F_b0_1_output : Fld Z h1 b0_1 "com/example/allotd/allotd/engine/Tokens" "output" "J" (.long (0 : Int64)) := D1 (Or.inr (hw _ (List.mem_of_getElem? (i := 13) rfl))) (ty := .long) (by decide)
  obtain ⟨_, _, ⟨T2, L2, k2, n2⟩, -, X2, ⟨Lc2, hQ2, l2, y2, z2⟩, st2⟩ := X1.specialBack hx (y := (⟨"com/example/allotd/allotd/engine/Tokens", "<init>", "(JJ)V"⟩ : MethodName)) rfl hown (mvT hZ (hw _ (List.mem_of_getElem? (i := 4) rfl))) (mvT hZ (hw _ (List.mem_of_getElem? (i := 5) rfl))) (mvT hZ (hw _ (List.mem_of_getElem? (i := 6) rfl))) (by decide) (backOf (W := 1) (rm1_2 l Z a0 hw [] m0 m1 b0_1 h1 n0 Z1 hn0 hn1 E_b0_1 F_b0_1_input g_b0_1 F_b0_1_output) hZ (hw _ (List.mem_of_getElem? (i := 6) rfl)) (hw _ (List.mem_of_getElem? (i := 3) rfl)) (by decide) (by decide)) (g := (mkF m 62 #[own_jv p0, .second, own_jv p1, .second, own_jv p2, .second, own_jv p3, .second, iv p4, own_jv m0, .second, own_jv m1, .second, own_jv m0, .second, own_jv m1, .second, .unset, .unset, .unset, .unset] [(.long m1), (.long m0), (.ref b0_1), (.ref b0_1)])) rfl (by rw [hml]; rfl) (Steps.refl _) (a := b0_1) (argsL := [(.long m0), (.long m1)]) (rest := [(.ref b0_1)]) (lenOf pd_2 rfl) rfl (by show 2 * 0 + _ ≤ _; exact Nat.le_of_eq rfl) (hb hby at_62) (fun _ _ => ⟨rfl, e1, (by decide : 1 + 0 ≤ _), (by decide : 2 + 0 ≤ _)⟩)
  dsimp only [Pt.U, Pt.locs, Pt.cells, Pt.slots] at X2 l2 y2 z2 st2 hQ2
  subst l2 y2 z2
  obtain ⟨rfl, N2q, K2, fq2_0, fq2_1, fq2_2⟩ := hQ2
  have KK2 : Keep h0 T2.heap [] := KK1.trans K2 (allS (P := fun x => x ∈ [] ∨ h0.size ≤ x) (Or.inr sz_b0_1) all0)
  have Z2 : n0 ≤ T2.heap.size := Nat.le_trans Z1 K2.1
  have N2 := Fr.app N0 N2q
  obtain ⟨T3, h3, X3, e3, E3, A3, D3, -, st3⟩ := newO X2 hx hZ hown (hw _ (List.mem_of_getElem? (i := 1) rfl)) (hw _ (List.mem_of_getElem? (i := 2) rfl)) (hw _ (List.mem_of_getElem? (i := 3) rfl)) rfl (g := (mkF m 67 #[own_jv p0, .second, own_jv p1, .second, own_jv p2, .second, own_jv p3, .second, iv p4, own_jv m0, .second, own_jv m1, .second, own_jv m0, .second, own_jv m1, .second, rv b0_1, .unset, .unset, .unset] [])) rfl (hb hby at_67) (by decide) (by decide)
  obtain ⟨b0_3, gg3⟩ : ∃ z, z = T2.heap.size := ⟨_, rfl⟩
  rw [← gg3] at A3 D3 st3
  have g_b0_3 : n0 ≤ b0_3 := Nat.le_trans Z2 (Nat.le_of_eq gg3.symm)
  have sz_b0_3 : h0.size ≤ b0_3 := Nat.le_trans KK2.1 (Nat.le_of_eq gg3.symm)
  have Z3 : n0 ≤ h3.size := Nat.le_trans Z2 E3.1
  have KK3 : Keep h0 h3 [] := KK2.ext E3
  have E_b0_3 : Exa Z h3 b0_3 "com/example/allotd/allotd/engine/Tokens" := A3
  have F_b0_3_input : Fld Z h3 b0_3 "com/example/allotd/allotd/engine/Tokens" "input" "J" (.long (0 : Int64)) := D3 (Or.inr (hw _ (List.mem_of_getElem? (i := 11) rfl))) (ty := .long) (by decide)
  have F_b0_3_output : Fld Z h3 b0_3 "com/example/allotd/allotd/engine/Tokens" "output" "J" (.long (0 : Int64)) := D3 (Or.inr (hw _ (List.mem_of_getElem? (i := 13) rfl))) (ty := .long) (by decide)
  obtain ⟨_, _, ⟨T4, L4, k4, n4⟩, -, X4, ⟨Lc4, hQ4, l4, y4, z4⟩, st4⟩ := X3.specialBack hx (y := (⟨"com/example/allotd/allotd/engine/Tokens", "<init>", "(JJ)V"⟩ : MethodName)) rfl hown (mvT hZ (hw _ (List.mem_of_getElem? (i := 4) rfl))) (mvT hZ (hw _ (List.mem_of_getElem? (i := 5) rfl))) (mvT hZ (hw _ (List.mem_of_getElem? (i := 6) rfl))) (by decide) (backOf (W := 1) (rm1_18 l Z a0 hw [] m0 m1 b0_3 h3 n0 Z3 hn0 hn1 E_b0_3 F_b0_3_input g_b0_3 F_b0_3_output) hZ (hw _ (List.mem_of_getElem? (i := 6) rfl)) (hw _ (List.mem_of_getElem? (i := 3) rfl)) (by decide) (by decide)) (g := (mkF m 75 #[own_jv p0, .second, own_jv p1, .second, own_jv p2, .second, own_jv p3, .second, iv p4, own_jv m0, .second, own_jv m1, .second, own_jv m0, .second, own_jv m1, .second, rv b0_1, .unset, .unset, .unset] [(.long m1), (.long m0), (.ref b0_3), (.ref b0_3)])) rfl (by rw [hml]; rfl) (Steps.refl _) (a := b0_3) (argsL := [(.long m0), (.long m1)]) (rest := [(.ref b0_3)]) (lenOf pd_2 rfl) rfl (by show 2 * 0 + _ ≤ _; exact Nat.le_of_eq rfl) (hb hby at_75) (fun _ _ => ⟨rfl, e3, (by decide : 2 + 0 ≤ _), (by decide : 4 + 0 ≤ _)⟩)
  dsimp only [Pt.U, Pt.locs, Pt.cells, Pt.slots] at X4 l4 y4 z4 st4 hQ4
  subst l4 y4 z4
  obtain ⟨rfl, N4q, K4, fq4_0, fq4_1, fq4_2⟩ := hQ4
  have KK4 : Keep h0 T4.heap [] := KK3.trans K4 (allS (P := fun x => x ∈ [] ∨ h0.size ≤ x) (Or.inr sz_b0_3) all0)
  have Z4 : n0 ≤ T4.heap.size := Nat.le_trans Z3 K4.1
  have N4 := Fr.app N2 N4q
  have c6 := (own_Sta_keep ((own_Sta_keep (S_LongCache_cache.ext E1) K2 (own_stS E_b0_1 own_st0)).ext E3) K4 (own_stS E_b0_3 own_st0))
  have ne_b0_1_w_LongCache_cache_7 : ¬ (b0_1 = w_LongCache_cache) := (Ne.symm (Nat.ne_of_lt (Nat.lt_of_lt_of_le (own_Cache_lt CA_w_LongCache_cache) (Nat.le_of_eq gg1.symm))))
  have ne_b0_3_w_LongCache_cache_8 : ¬ (b0_3 = w_LongCache_cache) := (Ne.symm (Nat.ne_of_lt (Nat.lt_of_lt_of_le (own_Cache_lt (own_Cache_keep (own_Cache_ext CA_w_LongCache_cache E1) K2 (ninS (Ne.symm ne_b0_1_w_LongCache_cache_7) nin0))) (Nat.le_of_eq gg3.symm))))
  have c9 := (own_Cache_keep (own_Cache_ext (own_Cache_keep (own_Cache_ext CA_w_LongCache_cache E1) K2 (ninS (Ne.symm ne_b0_1_w_LongCache_cache_7) nin0)) E3) K4 (ninS (Ne.symm ne_b0_3_w_LongCache_cache_8) nin0))
  obtain ⟨_, _, ⟨T5, L5, k5, n5⟩, -, X5, ⟨Lc5, hQ5, l5, y5, z5⟩, st5⟩ := Jvm.LawKit.callS X4 hx (y := (⟨"java/lang/Long", "valueOf", "(J)Ljava/lang/Long;"⟩ : MethodName)) hown (mvT hZ (hw _ (List.mem_of_getElem? (i := 21) rfl))) (mvT hZ (hw _ (List.mem_of_getElem? (i := 22) rfl))) (mvT hZ (hw _ (List.mem_of_getElem? (i := 23) rfl))) (mvT hZ (hw _ (List.mem_of_getElem? (i := 24) rfl))) (by decide) (backOf (W := 0) (rk_boxJ l Z a0 hw [] w_LongCache_cache m0 T4.heap n0 Z4 c6 c9) hZ (hw _ (List.mem_of_getElem? (i := 24) rfl)) (hw _ (List.mem_of_getElem? (i := 23) rfl)) (by decide) (by decide)) (g := (mkF m 179 #[own_jv p0, .second, own_jv p1, .second, own_jv p2, .second, own_jv p3, .second, iv p4, own_jv m0, .second, own_jv m1, .second, own_jv m0, .second, own_jv m1, .second, rv b0_1, rv b0_3, iv (2 : Int32), .unset] [(.long m0)])) rfl (by rw [hml]; rfl) (argsL := [(.long m0)]) (rest := []) (lenOf pd_4 rfl) rfl (by show 2 * 0 + _ ≤ _; exact Nat.le_of_eq rfl) (hb hby at_179) (fun _ _ => ⟨rfl, rfl, (by decide : 2 + 1 ≤ _), (by decide : 4 + 1 ≤ _)⟩)
  dsimp only [Pt.U, Pt.locs, Pt.cells, Pt.slots] at X5 l5 y5 z5 st5 hQ5
  subst l5 y5 z5
  obtain ⟨b0_5, rfl, N5q, K5, E_b0_5⟩ := hQ5
  have KK5 : Keep h0 T5.heap [] := KK4.trans K5 all0
  have Z5 : n0 ≤ T5.heap.size := Nat.le_trans Z4 K5.1
  have N5 := Fr.app N4 N5q
  have c11 := (((fq2_2.ext E3).keep K4).keep K5)
  obtain ⟨cq10, kq10, q10a, q10b, q10c⟩ := isOf hZ rfl c11
  obtain ⟨_, _, ⟨T10, L10, k10, n10⟩, -, X10, ⟨Lc10, hQ10, l10, y10, z10⟩, st10⟩ := X5.virtualBack hx (y := (⟨"com/example/allotd/allotd/engine/Tokens", "equals", "(Ljava/lang/Object;)Z"⟩ : MethodName)) (z := (⟨"com/example/allotd/allotd/engine/Tokens", "equals", "(Ljava/lang/Object;)Z"⟩ : MethodName)) hown (mvT hZ (hw _ (List.mem_of_getElem? (i := 14) rfl))) (mvT hZ (hw _ (List.mem_of_getElem? (i := 15) rfl))) (notFace_of_selects (args := #[]) (mvT hZ (hw _ (List.mem_of_getElem? (i := 17) rfl)))) (mvT hZ (hw _ (List.mem_of_getElem? (i := 17) rfl))) (mvT hZ (hw _ (List.mem_of_getElem? (i := 16) rfl))) (by decide) (backOf (W := 0) (rm3_22 l Z a0 hw [] b0_1 b0_5 T5.heap n0 Z5 E_b0_5) hZ (hw _ (List.mem_of_getElem? (i := 18) rfl)) (hw _ (List.mem_of_getElem? (i := 3) rfl)) (by decide) (by decide)) q10a q10c (g := (mkF m 188 #[own_jv p0, .second, own_jv p1, .second, own_jv p2, .second, own_jv p3, .second, iv p4, own_jv m0, .second, own_jv m1, .second, own_jv m0, .second, own_jv m1, .second, rv b0_1, rv b0_3, iv (2 : Int32), rv b0_5] [(.ref b0_5), (.ref b0_1)])) rfl (by rw [hml]; rfl) (Steps.refl _) (argsL := [(.ref b0_5)]) (rest := []) (lenOf pd_3 rfl) rfl (by show 2 * 0 + _ ≤ _; exact Nat.le_of_eq rfl) (hb hby at_188) (fun _ _ => ⟨rfl, rfl, (by decide : 3 + 0 ≤ _), (by decide : 5 + 0 ≤ _)⟩)
  dsimp only [Pt.U, Pt.locs, Pt.cells, Pt.slots] at X10 l10 y10 z10 st10 hQ10
  subst l10 y10 z10
  obtain ⟨rfl, N10q, e10⟩ := hQ10
  have N10 := Fr.app N5 N10q
  obtain ⟨fs, hr, hrun, hended, hW, hsame⟩ := X10.leave (v := (some (.int (1 : Int32)))) (fun h => by rw [Bd.returns] at h; cases h)
  refine ⟨_, _, pre0 _ ?_, hrun, hended, _, _, rfl, ?_, ⟨_, rfl⟩, hW, hsame.mono (by decide) (by decide)⟩
  · show Steps p.tables e below (s₁.setTop (mkF m 0 #[own_jv p0, .second, own_jv p1, .second, own_jv p2, .second, own_jv p3, .second, iv p4, .unset, .unset, .unset, .unset, .unset, .unset, .unset, .unset, .unset, .unset, .unset, .unset] [])) _
    refine XS.lloadN X0.here hx rfl (hb hby at_0) rfl ?_
    refine X0.ldc2Long hx hown (mvT hZ (hw _ (List.mem_of_getElem? (i := 0) rfl))) (g := (mkF m 1 #[own_jv p0, .second, own_jv p1, .second, own_jv p2, .second, own_jv p3, .second, iv p4, .unset, .unset, .unset, .unset, .unset, .unset, .unset, .unset, .unset, .unset, .unset, .unset] [(.long p0)])) rfl (hb hby at_1) _ ?_
    refine XS.land X0.here hx rfl (hb hby at_4) rfl ?_
    show Steps p.tables e below (s₁.setTop (mkF m 5 #[own_jv p0, .second, own_jv p1, .second, own_jv p2, .second, own_jv p3, .second, iv p4, .unset, .unset, .unset, .unset, .unset, .unset, .unset, .unset, .unset, .unset, .unset, .unset] [(.long (p0 &&& (9223372036854775807 : Int64)))])) _
    rewrite [hm0]
    refine XS.lstore X0.here hx rfl (hb hby at_5) rfl (l' := #[own_jv p0, .second, own_jv p1, .second, own_jv p2, .second, own_jv p3, .second, iv p4, own_jv m0, .second, .unset, .unset, .unset, .unset, .unset, .unset, .unset, .unset, .unset, .unset]) rfl ?_
    refine XS.lloadN X0.here hx rfl (hb hby at_7) rfl ?_
    refine X0.ldc2Long hx hown (mvT hZ (hw _ (List.mem_of_getElem? (i := 0) rfl))) (g := (mkF m 8 #[own_jv p0, .second, own_jv p1, .second, own_jv p2, .second, own_jv p3, .second, iv p4, own_jv m0, .second, .unset, .unset, .unset, .unset, .unset, .unset, .unset, .unset, .unset, .unset] [(.long p1)])) rfl (hb hby at_8) _ ?_
    refine XS.land X0.here hx rfl (hb hby at_11) rfl ?_
    show Steps p.tables e below (s₁.setTop (mkF m 12 #[own_jv p0, .second, own_jv p1, .second, own_jv p2, .second, own_jv p3, .second, iv p4, own_jv m0, .second, .unset, .unset, .unset, .unset, .unset, .unset, .unset, .unset, .unset, .unset] [(.long (p1 &&& (9223372036854775807 : Int64)))])) _
    rewrite [hm1]
    refine XS.lstore X0.here hx rfl (hb hby at_12) rfl (l' := #[own_jv p0, .second, own_jv p1, .second, own_jv p2, .second, own_jv p3, .second, iv p4, own_jv m0, .second, own_jv m1, .second, .unset, .unset, .unset, .unset, .unset, .unset, .unset, .unset]) rfl ?_
    show Steps p.tables e below (s₁.setTop (mkF m 14 #[own_jv p0, .second, own_jv p1, .second, own_jv p2, .second, own_jv p3, .second, iv p4, own_jv m0, .second, own_jv m1, .second, .unset, .unset, .unset, .unset, .unset, .unset, .unset, .unset] [])) _
    refine XS.iload X0.here hx rfl (hb hby at_14) rfl ?_
    refine XS.iconst X0.here hx rfl (hb hby at_16) ?_
    refine XS.iand X0.here hx rfl (hb hby at_17) rfl ?_
    show Steps p.tables e below (s₁.setTop (mkF m 18 #[own_jv p0, .second, own_jv p1, .second, own_jv p2, .second, own_jv p3, .second, iv p4, own_jv m0, .second, own_jv m1, .second, .unset, .unset, .unset, .unset, .unset, .unset, .unset, .unset] [(.int (p4 &&& (1 : Int32)))])) _
    rewrite [hk1]
    refine XS.ifNo X0.here hx rfl (hb hby at_18) rfl ((if0 _ _).trans (feq (by decide +kernel : ¬ ((1 : Int32) = (0 : Int32)))).1) ?_
    refine XS.lload X0.here hx rfl (hb hby at_21) rfl ?_
    refine XS.goto X0.here hx rfl (pc0 := 23) (pc' := 32) rfl (hb hby at_23) (by decide) (by decide) ?_
    refine XS.lstore X0.here hx rfl (hb hby at_32) rfl (l' := #[own_jv p0, .second, own_jv p1, .second, own_jv p2, .second, own_jv p3, .second, iv p4, own_jv m0, .second, own_jv m1, .second, own_jv m0, .second, .unset, .unset, .unset, .unset, .unset, .unset]) rfl ?_
    refine XS.iload X0.here hx rfl (hb hby at_34) rfl ?_
    show Steps p.tables e below (s₁.setTop (mkF m 36 #[own_jv p0, .second, own_jv p1, .second, own_jv p2, .second, own_jv p3, .second, iv p4, own_jv m0, .second, own_jv m1, .second, own_jv m0, .second, .unset, .unset, .unset, .unset, .unset, .unset] [(.int p4)])) _
    refine XS.iconst X0.here hx rfl (hb hby at_36) ?_
    refine XS.iand X0.here hx rfl (hb hby at_37) rfl ?_
    refine XS.ifNo X0.here hx rfl (hb hby at_38) rfl ((if0 _ _).trans (feq hk2).1) ?_
    refine XS.lload X0.here hx rfl (hb hby at_41) rfl ?_
    refine XS.goto X0.here hx rfl (pc0 := 43) (pc' := 52) rfl (hb hby at_43) (by decide) (by decide) ?_
    refine XS.lstore X0.here hx rfl (hb hby at_52) rfl (l' := #[own_jv p0, .second, own_jv p1, .second, own_jv p2, .second, own_jv p3, .second, iv p4, own_jv m0, .second, own_jv m1, .second, own_jv m0, .second, own_jv m1, .second, .unset, .unset, .unset, .unset]) rfl ?_
    refine st1 _ ?_
    refine XS.dup X1.here hx rfl (hb hby at_57) rfl rfl ?_
    show Steps p.tables e below (T1.setTop (mkF m 58 #[own_jv p0, .second, own_jv p1, .second, own_jv p2, .second, own_jv p3, .second, iv p4, own_jv m0, .second, own_jv m1, .second, own_jv m0, .second, own_jv m1, .second, .unset, .unset, .unset, .unset] [(.ref b0_1), (.ref b0_1)])) _
    refine XS.lload X1.here hx rfl (hb hby at_58) rfl ?_
    refine XS.lload X1.here hx rfl (hb hby at_60) rfl ?_
    refine st2.trans ?_
    refine XS.astore X2.here hx rfl (hb hby at_65) rfl rfl (l' := #[own_jv p0, .second, own_jv p1, .second, own_jv p2, .second, own_jv p3, .second, iv p4, own_jv m0, .second, own_jv m1, .second, own_jv m0, .second, own_jv m1, .second, rv b0_1, .unset, .unset, .unset]) rfl ?_
    refine st3 _ ?_
    refine XS.dup X3.here hx rfl (hb hby at_70) rfl rfl ?_
    refine XS.lload X3.here hx rfl (hb hby at_71) rfl ?_
    refine XS.lload X3.here hx rfl (hb hby at_73) rfl ?_
    show Steps p.tables e below (T3.setTop (mkF m 75 #[own_jv p0, .second, own_jv p1, .second, own_jv p2, .second, own_jv p3, .second, iv p4, own_jv m0, .second, own_jv m1, .second, own_jv m0, .second, own_jv m1, .second, rv b0_1, .unset, .unset, .unset] [(.long m1), (.long m0), (.ref b0_3), (.ref b0_3)])) _
    refine st4.trans ?_
    refine XS.astore X4.here hx rfl (hb hby at_78) rfl rfl (l' := #[own_jv p0, .second, own_jv p1, .second, own_jv p2, .second, own_jv p3, .second, iv p4, own_jv m0, .second, own_jv m1, .second, own_jv m0, .second, own_jv m1, .second, rv b0_1, rv b0_3, .unset, .unset]) rfl ?_
    refine XS.iload X4.here hx rfl (hb hby at_80) rfl ?_
    refine XS.iconst X4.here hx rfl (hb hby at_82) ?_
    refine XS.iushr X4.here hx rfl (hb hby at_83) rfl ?_
    refine XS.iconst X4.here hx rfl (hb hby at_84) ?_
    refine XS.iand X4.here hx rfl (hb hby at_85) rfl ?_
    show Steps p.tables e below (T4.setTop (mkF m 86 #[own_jv p0, .second, own_jv p1, .second, own_jv p2, .second, own_jv p3, .second, iv p4, own_jv m0, .second, own_jv m1, .second, own_jv m0, .second, own_jv m1, .second, rv b0_1, rv b0_3, .unset, .unset] [(.int (((p4.toUInt32 >>> ((2 : Int32) &&& 31).toUInt32).toInt32) &&& (3 : Int32)))])) _
    rewrite [hkk]
    refine XS.istore X4.here hx rfl (hb hby at_86) rfl (l' := #[own_jv p0, .second, own_jv p1, .second, own_jv p2, .second, own_jv p3, .second, iv p4, own_jv m0, .second, own_jv m1, .second, own_jv m0, .second, own_jv m1, .second, rv b0_1, rv b0_3, iv (2 : Int32), .unset]) rfl ?_
    show Steps p.tables e below (T4.setTop (mkF m 88 #[own_jv p0, .second, own_jv p1, .second, own_jv p2, .second, own_jv p3, .second, iv p4, own_jv m0, .second, own_jv m1, .second, own_jv m0, .second, own_jv m1, .second, rv b0_1, rv b0_3, iv (2 : Int32), .unset] [])) _
    refine XS.iload X4.here hx rfl (hb hby at_88) rfl ?_
    refine XS.ifYes X4.here hx rfl (pc0 := 90) (pc' := 146) rfl (hb hby at_90) rfl ((if0 _ _).trans (feq (by decide +kernel : ¬ ((2 : Int32) = (0 : Int32)))).2) (by decide) (by decide) ?_
    refine XS.iload X4.here hx rfl (hb hby at_146) rfl ?_
    refine XS.iconst X4.here hx rfl (hb hby at_148) ?_
    refine XS.icmpYes X4.here hx rfl (pc0 := 149) (pc' := 171) rfl (hb hby at_149) rfl (feq (by decide +kernel : ¬ ((2 : Int32) = (1 : Int32)))).2 (by decide) (by decide) ?_
    refine XS.iload X4.here hx rfl (hb hby at_171) rfl ?_
    refine XS.iconst X4.here hx rfl (hb hby at_173) ?_
    refine XS.icmpNo X4.here hx rfl (hb hby at_174) rfl (teq (by decide +kernel : (2 : Int32) = (2 : Int32))).2 ?_
    show Steps p.tables e below (T4.setTop (mkF m 177 #[own_jv p0, .second, own_jv p1, .second, own_jv p2, .second, own_jv p3, .second, iv p4, own_jv m0, .second, own_jv m1, .second, own_jv m0, .second, own_jv m1, .second, rv b0_1, rv b0_3, iv (2 : Int32), .unset] [])) _
    refine XS.lload X4.here hx rfl (hb hby at_177) rfl ?_
    refine st5 _ ?_
    refine XS.astore X5.here hx rfl (hb hby at_182) rfl rfl (l' := #[own_jv p0, .second, own_jv p1, .second, own_jv p2, .second, own_jv p3, .second, iv p4, own_jv m0, .second, own_jv m1, .second, own_jv m0, .second, own_jv m1, .second, rv b0_1, rv b0_3, iv (2 : Int32), rv b0_5]) rfl ?_
    refine XS.aload X5.here hx rfl (hb hby at_184) rfl rfl ?_
    refine XS.aload X5.here hx rfl (hb hby at_186) rfl rfl ?_
    refine st10.trans ?_
    refine XS.ifNo X10.here hx rfl (hb hby at_191) rfl ((if0 _ _).trans (teq (by decide +kernel : (0 : Int32) = (0 : Int32))).2) ?_
    refine XS.iconst X10.here hx rfl (hb hby at_194) ?_
    show Steps p.tables e below (T10.setTop (mkF m 195 #[own_jv p0, .second, own_jv p1, .second, own_jv p2, .second, own_jv p3, .second, iv p4, own_jv m0, .second, own_jv m1, .second, own_jv m0, .second, own_jv m1, .second, rv b0_1, rv b0_3, iv (2 : Int32), rv b0_5] [(.int (1 : Int32))])) _
    refine XS.goto X10.here hx rfl (pc0 := 195) (pc' := 199) rfl (hb hby at_195) (by decide) (by decide) ?_
    exact retN X10 hx (t := .boolean) Bd.returns (by simp) (hb hby at_199) hr
  · exact ⟨rfl, N10⟩
set_option maxRecDepth 65536 in
set_option maxHeartbeats 40000000 in
theorem rm3_23 (l : Launch) (Z : State) (a0 : Array Value) (hw : ∀ d ∈ tables_1, d.before a0 Z = true) (ws : List Jvm.Cond) (m0 : Int64) (m1 : Int64) (b0_1 : Addr) (h0 : Heap) (n0 : Nat) (Z0 : n0 ≤ h0.size) (E_b0_1 : Exa Z h0 b0_1 "com/example/allotd/allotd/engine/Tokens") (F_b0_1_input : Fld Z h0 b0_1 "com/example/allotd/allotd/engine/Tokens" "input" "J" (.long m0)) (F_b0_1_output : Fld Z h0 b0_1 "com/example/allotd/allotd/engine/Tokens" "output" "J" (.long m1)) :
    MetFree l (⟨"com/example/allotd/allotd/engine/Tokens", "equals", "(Ljava/lang/Object;)Z"⟩ : MethodName) (head1 (Jvm.Cond.code (⟨"com/example/allotd/allotd/engine/Tokens", "equals", "(Ljava/lang/Object;)Z"⟩ : MethodName) prog_21_method_4_code 3 (some .boolean) :: ws) ({ frames := 0, cells := 0, slots := 0, locals := 0 } : Room)) (fun a U => a = #[(.ref b0_1), (.ref b0_1)] ∧ Z.Warmed39 U.vm ∧ U.heap = h0) (fun _ _ _ _ _ => True) (fun _ U o U' => ∃ v L, o = .returned v ∧ own_QP (some (.int (1 : Int32))) h0 n0 v U'.heap L ∧ FrameEnd U o U' L ({ frames := 0, cells := 0, slots := 0, locals := 0 } : Room).cells ({ frames := 0, cells := 0, slots := 0, locals := 0 } : Room).slots) := by
  refine MetFree.of_bodySF (plainFor_of_name pn_2) hisR ?_
  intro p e s m args below meth c s₁ Bd hml0 hP hK
  obtain ⟨rfl, hZ, hh⟩ := hP
  have hx := Bd.exec
  have hby := Bd.bytes
  have hml : c.maxLocals = 3 := hml0
  have hown : s.vm.findClass "com/example/allotd/allotd/engine/Tokens" = some m.cls := findClass_of_methodNamed Bd.named
  have hnm := (name_of_methodNamed Bd.named Bd.method).1
  have X0 : Stand p l e ({ frames := 0, cells := 0, slots := 0, locals := 0 } : Room) s m #[(.ref b0_1), (.ref b0_1)] below meth c s₁ [] 0 0 := Stand.of_body Bd
  have e0 : s₁.heap = h0 := by rw [← hh, Bd.state]; rfl
  have N0 := Fr.nil n0
  have pre0 : ∀ t, Steps p.tables e below (s₁.setTop (mkF m 0 #[rv b0_1, rv b0_1, .unset] [])) t → Steps p.tables e below (s₁.setTop (entryFrame m #[(.ref b0_1), (.ref b0_1)] 3)) t := fun t k => castTop (ef_3_RR m b0_1 b0_1) k
  obtain ⟨T1, X1, e1, st1⟩ := instY X0 hx hZ hown (hw _ (List.mem_of_getElem? (i := 19) rfl)) e0 (Ins.self E_b0_1) (g := (mkF m 1 #[rv b0_1, rv b0_1, .unset] [(.ref b0_1)])) rfl rfl (hb hby d3_1)
  obtain ⟨T2, X2, e2, st2⟩ := castY X1 hx hZ hown (hw _ (List.mem_of_getElem? (i := 19) rfl)) e1 (Ins.self E_b0_1) (g := (mkF m 8 #[rv b0_1, rv b0_1, .unset] [(.ref b0_1)])) rfl rfl (hb hby d3_8)
  obtain ⟨T3, X3, e3, st3⟩ := getF X2 hx hZ hown (host := "") (Or.inl (hw _ (List.mem_of_getElem? (i := 10) rfl))) Via.refl e2 F_b0_1_input (g := (mkF m 13 #[rv b0_1, rv b0_1, rv b0_1] [(.ref b0_1)])) rfl rfl (hb hby d3_13)
  obtain ⟨T4, X4, e4, st4⟩ := getF X3 hx hZ hown (host := "") (Or.inl (hw _ (List.mem_of_getElem? (i := 10) rfl))) Via.refl e3 F_b0_1_input (g := (mkF m 17 #[rv b0_1, rv b0_1, rv b0_1] [(.ref b0_1), (.long m0)])) rfl rfl (hb hby d3_17)
  obtain ⟨T5, X5, e5, st5⟩ := getF X4 hx hZ hown (host := "") (Or.inl (hw _ (List.mem_of_getElem? (i := 12) rfl))) Via.refl e4 F_b0_1_output (g := (mkF m 25 #[rv b0_1, rv b0_1, rv b0_1] [(.ref b0_1)])) rfl rfl (hb hby d3_25)
  obtain ⟨T6, X6, e6, st6⟩ := getF X5 hx hZ hown (host := "") (Or.inl (hw _ (List.mem_of_getElem? (i := 12) rfl))) Via.refl e5 F_b0_1_output (g := (mkF m 29 #[rv b0_1, rv b0_1, rv b0_1] [(.ref b0_1), (.long m1)])) rfl rfl (hb hby d3_29)
  obtain ⟨fs, hr, hrun, hended, hW, hsame⟩ := X6.leave (v := (some (.int (1 : Int32)))) (fun h => by rw [Bd.returns] at h; cases h)
  refine ⟨_, _, pre0 _ ?_, hrun, hended, _, _, rfl, ?_, ⟨_, rfl⟩, hW, hsame.mono (by decide) (by decide)⟩
  · show Steps p.tables e below (s₁.setTop (mkF m 0 #[rv b0_1, rv b0_1, .unset] [])) _
    refine XS.aloadN X0.here hx rfl (hb hby d3_0) rfl rfl ?_
    refine st1 _ ?_
    refine XS.ifNo X1.here hx rfl (hb hby d3_4) rfl ((if0 _ _).trans (feq (by decide +kernel : ¬ ((1 : Int32) = (0 : Int32)))).1) ?_
    refine XS.aloadN X1.here hx rfl (hb hby d3_7) rfl rfl ?_
    refine st2 _ ?_
    refine XS.astoreN X2.here hx rfl (hb hby d3_11) rfl rfl (l' := #[rv b0_1, rv b0_1, rv b0_1]) rfl ?_
    refine XS.aloadN X2.here hx rfl (hb hby d3_12) rfl rfl ?_
    refine st3 _ ?_
    show Steps p.tables e below (T3.setTop (mkF m 16 #[rv b0_1, rv b0_1, rv b0_1] [(.long m0)])) _
    refine XS.aloadN X3.here hx rfl (hb hby d3_16) rfl rfl ?_
    refine st4 _ ?_
    refine XS.lcmp X4.here hx rfl (hb hby d3_20) rfl ?_
    refine XS.ifNo X4.here hx rfl (hb hby d3_21) rfl ((if0 _ _).trans ((if0 _ _).symm.trans (Jvm.Free.XT.ll_ne_f rfl))) ?_
    refine XS.aloadN X4.here hx rfl (hb hby d3_24) rfl rfl ?_
    refine st5 _ ?_
    refine XS.aloadN X5.here hx rfl (hb hby d3_28) rfl rfl ?_
    refine st6 _ ?_
    show Steps p.tables e below (T6.setTop (mkF m 32 #[rv b0_1, rv b0_1, rv b0_1] [(.long m1), (.long m1)])) _
    refine XS.lcmp X6.here hx rfl (hb hby d3_32) rfl ?_
    refine XS.ifNo X6.here hx rfl (hb hby d3_33) rfl ((if0 _ _).trans ((if0 _ _).symm.trans (Jvm.Free.XT.ll_ne_f rfl))) ?_
    refine XS.iconst X6.here hx rfl (hb hby d3_36) ?_
    refine XS.goto X6.here hx rfl (pc0 := 37) (pc' := 41) rfl (hb hby d3_37) (by decide) (by decide) ?_
    exact retN X6 hx (t := .boolean) Bd.returns (by simp) (hb hby d3_41) hr
  · exact ⟨rfl, N0, e6⟩
set_option maxRecDepth 65536 in
set_option maxHeartbeats 40000000 in
theorem rm0_17 (l : Launch) (Z : State) (a0 : Array Value) (hw : ∀ d ∈ tables_1, d.before a0 Z = true) (ws : List Jvm.Cond) (p0 : Int64) (p1 : Int64) (p2 : Int64) (p3 : Int64) (p4 : Int32) (m0 : Int64) (m1 : Int64) (m2 : Int64) (m3 : Int64) (h0 : Heap) (n0 : Nat) (Z0 : n0 ≤ h0.size) (hm0 : (p0 &&& (9223372036854775807 : Int64)) = m0) (hm1 : (p1 &&& (9223372036854775807 : Int64)) = m1) (hk1 : (p4 &&& (1 : Int32)) = (0 : Int32)) (hm2 : (p2 &&& (9223372036854775807 : Int64)) = m2) (hk2 : (p4 &&& (2 : Int32)) = (0 : Int32)) (hm3 : (p3 &&& (9223372036854775807 : Int64)) = m3) (hn0 : ¬ (m0 < (0 : Int64))) (hn1 : ¬ (m1 < (0 : Int64))) (hn2 : ¬ (m2 < (0 : Int64))) (hn3 : ¬ (m3 < (0 : Int64))) (hkk : (((p4.toUInt32 >>> ((2 : Int32) &&& 31).toUInt32).toInt32) &&& (3 : Int32)) = (3 : Int32)) :
    MetFree l x (head1 (Jvm.Cond.code x code maxLocals ret :: ws) room_1) (fun a U => a = #[(.long p0), (.long p1), (.long p2), (.long p3), (.int p4)] ∧ Z.Warmed39 U.vm ∧ U.heap = h0) (fun _ _ _ _ _ => True) (fun _ U o U' => ∃ v L, o = .returned v ∧ own_QL n0 v U'.heap L ∧ FrameEnd U o U' L room_1.cells room_1.slots) := by
  refine MetFree.of_bodySF (plainFor_of_name pn_3) hisR ?_
  intro p e s m args below meth c s₁ Bd hml0 hP hK
  obtain ⟨rfl, hZ, hh⟩ := hP
  have hx := Bd.exec
  have hby := Bd.bytes
  have hml : c.maxLocals = 21 := hml0
  have hown : s.vm.findClass "com/example/allotd/allotd/engine/TokensEqualsPinLaw" = some m.cls := findClass_of_methodNamed Bd.named
  have hnm := (name_of_methodNamed Bd.named Bd.method).1
  have X0 : Stand p l e room_1 s m #[(.long p0), (.long p1), (.long p2), (.long p3), (.int p4)] below meth c s₁ [] 0 0 := Stand.of_body Bd
  have e0 : s₁.heap = h0 := by rw [← hh, Bd.state]; rfl
  have N0 := Fr.nil n0
  have pre0 : ∀ t, Steps p.tables e below (s₁.setTop (mkF m 0 #[own_jv p0, .second, own_jv p1, .second, own_jv p2, .second, own_jv p3, .second, iv p4, .unset, .unset, .unset, .unset, .unset, .unset, .unset, .unset, .unset, .unset, .unset, .unset] [])) t → Steps p.tables e below (s₁.setTop (entryFrame m #[(.long p0), (.long p1), (.long p2), (.long p3), (.int p4)] maxLocals)) t := fun t k => castTop (ef_0_JJJJI m p0 p1 p2 p3 p4) k
  obtain ⟨T1, h1, X1, e1, E1, A1, D1, -, st1⟩ := newO X0 hx hZ hown (hw _ (List.mem_of_getElem? (i := 1) rfl)) (hw _ (List.mem_of_getElem? (i := 2) rfl)) (hw _ (List.mem_of_getElem? (i := 3) rfl)) e0 (g := (mkF m 54 #[own_jv p0, .second, own_jv p1, .second, own_jv p2, .second, own_jv p3, .second, iv p4, own_jv m0, .second, own_jv m1, .second, own_jv m2, .second, own_jv m3, .second, .unset, .unset, .unset, .unset] [])) rfl (hb hby at_54) (by decide) (by decide)
  obtain ⟨b0_1, gg1⟩ : ∃ z, z = h0.size := ⟨_, rfl⟩
  rw [← gg1] at A1 D1 st1
  have g_b0_1 : n0 ≤ b0_1 := Nat.le_trans Z0 (Nat.le_of_eq gg1.symm)
  have sz_b0_1 : h0.size ≤ b0_1 := Nat.le_trans (Keep.refl h0 []).1 (Nat.le_of_eq gg1.symm)
  have Z1 : n0 ≤ h1.size := Nat.le_trans Z0 E1.1
  have KK1 : Keep h0 h1 [] := (Keep.refl h0 []).ext E1
  have E_b0_1 : Exa Z h1 b0_1 "com/example/allotd/allotd/engine/Tokens" := A1
  have F_b0_1_input : Fld Z h1 b0_1 "com/example/allotd/allotd/engine/Tokens" "input" "J" (.long (0 : Int64)) := D1 (Or.inr (hw _ (List.mem_of_getElem? (i := 11) rfl))) (ty := .long) (by decide)
  have F_b0_1_output : Fld Z h1 b0_1 "com/example/allotd/allotd/engine/Tokens" "output" "J" (.long (0 : Int64)) := D1 (Or.inr (hw _ (List.mem_of_getElem? (i := 13) rfl))) (ty := .long) (by decide)
  obtain ⟨_, _, ⟨T2, L2, k2, n2⟩, -, X2, ⟨Lc2, hQ2, l2, y2, z2⟩, st2⟩ := X1.specialBack hx (y := (⟨"com/example/allotd/allotd/engine/Tokens", "<init>", "(JJ)V"⟩ : MethodName)) rfl hown (mvT hZ (hw _ (List.mem_of_getElem? (i := 4) rfl))) (mvT hZ (hw _ (List.mem_of_getElem? (i := 5) rfl))) (mvT hZ (hw _ (List.mem_of_getElem? (i := 6) rfl))) (by decide) (backOf (W := 1) (rm1_2 l Z a0 hw [] m0 m1 b0_1 h1 n0 Z1 hn0 hn1 E_b0_1 F_b0_1_input g_b0_1 F_b0_1_output) hZ (hw _ (List.mem_of_getElem? (i := 6) rfl)) (hw _ (List.mem_of_getElem? (i := 3) rfl)) (by decide) (by decide)) (g := (mkF m 62 #[own_jv p0, .second, own_jv p1, .second, own_jv p2, .second, own_jv p3, .second, iv p4, own_jv m0, .second, own_jv m1, .second, own_jv m2, .second, own_jv m3, .second, .unset, .unset, .unset, .unset] [(.long m1), (.long m0), (.ref b0_1), (.ref b0_1)])) rfl (by rw [hml]; rfl) (Steps.refl _) (a := b0_1) (argsL := [(.long m0), (.long m1)]) (rest := [(.ref b0_1)]) (lenOf pd_2 rfl) rfl (by show 2 * 0 + _ ≤ _; exact Nat.le_of_eq rfl) (hb hby at_62) (fun _ _ => ⟨rfl, e1, (by decide : 1 + 0 ≤ _), (by decide : 2 + 0 ≤ _)⟩)
  dsimp only [Pt.U, Pt.locs, Pt.cells, Pt.slots] at X2 l2 y2 z2 st2 hQ2
  subst l2 y2 z2
  obtain ⟨rfl, N2q, K2, fq2_0, fq2_1, fq2_2⟩ := hQ2
  have KK2 : Keep h0 T2.heap [] := KK1.trans K2 (allS (P := fun x => x ∈ [] ∨ h0.size ≤ x) (Or.inr sz_b0_1) all0)
  have Z2 : n0 ≤ T2.heap.size := Nat.le_trans Z1 K2.1
  have N2 := Fr.app N0 N2q
  obtain ⟨T3, h3, X3, e3, E3, A3, D3, -, st3⟩ := newO X2 hx hZ hown (hw _ (List.mem_of_getElem? (i := 1) rfl)) (hw _ (List.mem_of_getElem? (i := 2) rfl)) (hw _ (List.mem_of_getElem? (i := 3) rfl)) rfl (g := (mkF m 67 #[own_jv p0, .second, own_jv p1, .second, own_jv p2, .second, own_jv p3, .second, iv p4, own_jv m0, .second, own_jv m1, .second, own_jv m2, .second, own_jv m3, .second, rv b0_1, .unset, .unset, .unset] [])) rfl (hb hby at_67) (by decide) (by decide)
  obtain ⟨b0_3, gg3⟩ : ∃ z, z = T2.heap.size := ⟨_, rfl⟩
  rw [← gg3] at A3 D3 st3
  have g_b0_3 : n0 ≤ b0_3 := Nat.le_trans Z2 (Nat.le_of_eq gg3.symm)
  have sz_b0_3 : h0.size ≤ b0_3 := Nat.le_trans KK2.1 (Nat.le_of_eq gg3.symm)
  have Z3 : n0 ≤ h3.size := Nat.le_trans Z2 E3.1
  have KK3 : Keep h0 h3 [] := KK2.ext E3
  have E_b0_3 : Exa Z h3 b0_3 "com/example/allotd/allotd/engine/Tokens" := A3
  have F_b0_3_input : Fld Z h3 b0_3 "com/example/allotd/allotd/engine/Tokens" "input" "J" (.long (0 : Int64)) := D3 (Or.inr (hw _ (List.mem_of_getElem? (i := 11) rfl))) (ty := .long) (by decide)
  have F_b0_3_output : Fld Z h3 b0_3 "com/example/allotd/allotd/engine/Tokens" "output" "J" (.long (0 : Int64)) := D3 (Or.inr (hw _ (List.mem_of_getElem? (i := 13) rfl))) (ty := .long) (by decide)
  obtain ⟨_, _, ⟨T4, L4, k4, n4⟩, -, X4, ⟨Lc4, hQ4, l4, y4, z4⟩, st4⟩ := X3.specialBack hx (y := (⟨"com/example/allotd/allotd/engine/Tokens", "<init>", "(JJ)V"⟩ : MethodName)) rfl hown (mvT hZ (hw _ (List.mem_of_getElem? (i := 4) rfl))) (mvT hZ (hw _ (List.mem_of_getElem? (i := 5) rfl))) (mvT hZ (hw _ (List.mem_of_getElem? (i := 6) rfl))) (by decide) (backOf (W := 1) (rm1_3 l Z a0 hw [] m2 m3 b0_3 h3 n0 Z3 hn2 hn3 E_b0_3 F_b0_3_input g_b0_3 F_b0_3_output) hZ (hw _ (List.mem_of_getElem? (i := 6) rfl)) (hw _ (List.mem_of_getElem? (i := 3) rfl)) (by decide) (by decide)) (g := (mkF m 75 #[own_jv p0, .second, own_jv p1, .second, own_jv p2, .second, own_jv p3, .second, iv p4, own_jv m0, .second, own_jv m1, .second, own_jv m2, .second, own_jv m3, .second, rv b0_1, .unset, .unset, .unset] [(.long m3), (.long m2), (.ref b0_3), (.ref b0_3)])) rfl (by rw [hml]; rfl) (Steps.refl _) (a := b0_3) (argsL := [(.long m2), (.long m3)]) (rest := [(.ref b0_3)]) (lenOf pd_2 rfl) rfl (by show 2 * 0 + _ ≤ _; exact Nat.le_of_eq rfl) (hb hby at_75) (fun _ _ => ⟨rfl, e3, (by decide : 2 + 0 ≤ _), (by decide : 4 + 0 ≤ _)⟩)
  dsimp only [Pt.U, Pt.locs, Pt.cells, Pt.slots] at X4 l4 y4 z4 st4 hQ4
  subst l4 y4 z4
  obtain ⟨rfl, N4q, K4, fq4_0, fq4_1, fq4_2⟩ := hQ4
  have KK4 : Keep h0 T4.heap [] := KK3.trans K4 (allS (P := fun x => x ∈ [] ∨ h0.size ≤ x) (Or.inr sz_b0_3) all0)
  have Z4 : n0 ≤ T4.heap.size := Nat.le_trans Z3 K4.1
  have N4 := Fr.app N2 N4q
  have c6 := ((fq2_2.ext E3).keep K4)
  have ne_b0_1_b0_3_7 : ¬ (b0_1 = b0_3) := (Nat.ne_of_lt (Nat.lt_of_lt_of_le ((E_b0_1.keep K2)).lt (Nat.le_of_eq gg3.symm)))
  have c8 := ((fq2_0.ext E3).keep K4 (ninS ne_b0_1_b0_3_7 nin0))
  have c9 := ((fq2_1.ext E3).keep K4 (ninS ne_b0_1_b0_3_7 nin0))
  obtain ⟨cq5, kq5, q5a, q5b, q5c⟩ := isOf hZ rfl c6
  obtain ⟨_, _, ⟨T5, L5, k5, n5⟩, -, X5, ⟨Lc5, hQ5, l5, y5, z5⟩, st5⟩ := X4.virtualBack hx (y := (⟨"com/example/allotd/allotd/engine/Tokens", "equals", "(Ljava/lang/Object;)Z"⟩ : MethodName)) (z := (⟨"com/example/allotd/allotd/engine/Tokens", "equals", "(Ljava/lang/Object;)Z"⟩ : MethodName)) hown (mvT hZ (hw _ (List.mem_of_getElem? (i := 14) rfl))) (mvT hZ (hw _ (List.mem_of_getElem? (i := 15) rfl))) (notFace_of_selects (args := #[]) (mvT hZ (hw _ (List.mem_of_getElem? (i := 17) rfl)))) (mvT hZ (hw _ (List.mem_of_getElem? (i := 17) rfl))) (mvT hZ (hw _ (List.mem_of_getElem? (i := 16) rfl))) (by decide) (backOf (W := 0) (rm3_23 l Z a0 hw [] m0 m1 b0_1 T4.heap n0 Z4 c6 c8 c9) hZ (hw _ (List.mem_of_getElem? (i := 18) rfl)) (hw _ (List.mem_of_getElem? (i := 3) rfl)) (by decide) (by decide)) q5a q5c (g := (mkF m 204 #[own_jv p0, .second, own_jv p1, .second, own_jv p2, .second, own_jv p3, .second, iv p4, own_jv m0, .second, own_jv m1, .second, own_jv m2, .second, own_jv m3, .second, rv b0_1, rv b0_3, iv (3 : Int32), .unset] [(.ref b0_1), (.ref b0_1)])) rfl (by rw [hml]; rfl) (Steps.refl _) (argsL := [(.ref b0_1)]) (rest := []) (lenOf pd_3 rfl) rfl (by show 2 * 0 + _ ≤ _; exact Nat.le_of_eq rfl) (hb hby at_204) (fun _ _ => ⟨rfl, rfl, (by decide : 2 + 0 ≤ _), (by decide : 4 + 0 ≤ _)⟩)
  dsimp only [Pt.U, Pt.locs, Pt.cells, Pt.slots] at X5 l5 y5 z5 st5 hQ5
  subst l5 y5 z5
  obtain ⟨rfl, N5q, e5⟩ := hQ5
  have N5 := Fr.app N4 N5q
  obtain ⟨fs, hr, hrun, hended, hW, hsame⟩ := X5.leave (v := (some (.int (1 : Int32)))) (fun h => by rw [Bd.returns] at h; cases h)
  refine ⟨_, _, pre0 _ ?_, hrun, hended, _, _, rfl, ?_, ⟨_, rfl⟩, hW, hsame.mono (by decide) (by decide)⟩
  · show Steps p.tables e below (s₁.setTop (mkF m 0 #[own_jv p0, .second, own_jv p1, .second, own_jv p2, .second, own_jv p3, .second, iv p4, .unset, .unset, .unset, .unset, .unset, .unset, .unset, .unset, .unset, .unset, .unset, .unset] [])) _
    refine XS.lloadN X0.here hx rfl (hb hby at_0) rfl ?_
    refine X0.ldc2Long hx hown (mvT hZ (hw _ (List.mem_of_getElem? (i := 0) rfl))) (g := (mkF m 1 #[own_jv p0, .second, own_jv p1, .second, own_jv p2, .second, own_jv p3, .second, iv p4, .unset, .unset, .unset, .unset, .unset, .unset, .unset, .unset, .unset, .unset, .unset, .unset] [(.long p0)])) rfl (hb hby at_1) _ ?_
    refine XS.land X0.here hx rfl (hb hby at_4) rfl ?_
    show Steps p.tables e below (s₁.setTop (mkF m 5 #[own_jv p0, .second, own_jv p1, .second, own_jv p2, .second, own_jv p3, .second, iv p4, .unset, .unset, .unset, .unset, .unset, .unset, .unset, .unset, .unset, .unset, .unset, .unset] [(.long (p0 &&& (9223372036854775807 : Int64)))])) _
    rewrite [hm0]
    refine XS.lstore X0.here hx rfl (hb hby at_5) rfl (l' := #[own_jv p0, .second, own_jv p1, .second, own_jv p2, .second, own_jv p3, .second, iv p4, own_jv m0, .second, .unset, .unset, .unset, .unset, .unset, .unset, .unset, .unset, .unset, .unset]) rfl ?_
    refine XS.lloadN X0.here hx rfl (hb hby at_7) rfl ?_
    refine X0.ldc2Long hx hown (mvT hZ (hw _ (List.mem_of_getElem? (i := 0) rfl))) (g := (mkF m 8 #[own_jv p0, .second, own_jv p1, .second, own_jv p2, .second, own_jv p3, .second, iv p4, own_jv m0, .second, .unset, .unset, .unset, .unset, .unset, .unset, .unset, .unset, .unset, .unset] [(.long p1)])) rfl (hb hby at_8) _ ?_
    refine XS.land X0.here hx rfl (hb hby at_11) rfl ?_
    show Steps p.tables e below (s₁.setTop (mkF m 12 #[own_jv p0, .second, own_jv p1, .second, own_jv p2, .second, own_jv p3, .second, iv p4, own_jv m0, .second, .unset, .unset, .unset, .unset, .unset, .unset, .unset, .unset, .unset, .unset] [(.long (p1 &&& (9223372036854775807 : Int64)))])) _
    rewrite [hm1]
    refine XS.lstore X0.here hx rfl (hb hby at_12) rfl (l' := #[own_jv p0, .second, own_jv p1, .second, own_jv p2, .second, own_jv p3, .second, iv p4, own_jv m0, .second, own_jv m1, .second, .unset, .unset, .unset, .unset, .unset, .unset, .unset, .unset]) rfl ?_
    show Steps p.tables e below (s₁.setTop (mkF m 14 #[own_jv p0, .second, own_jv p1, .second, own_jv p2, .second, own_jv p3, .second, iv p4, own_jv m0, .second, own_jv m1, .second, .unset, .unset, .unset, .unset, .unset, .unset, .unset, .unset] [])) _
    refine XS.iload X0.here hx rfl (hb hby at_14) rfl ?_
    refine XS.iconst X0.here hx rfl (hb hby at_16) ?_
    refine XS.iand X0.here hx rfl (hb hby at_17) rfl ?_
    show Steps p.tables e below (s₁.setTop (mkF m 18 #[own_jv p0, .second, own_jv p1, .second, own_jv p2, .second, own_jv p3, .second, iv p4, own_jv m0, .second, own_jv m1, .second, .unset, .unset, .unset, .unset, .unset, .unset, .unset, .unset] [(.int (p4 &&& (1 : Int32)))])) _
    rewrite [hk1]
    refine XS.ifYes X0.here hx rfl (pc0 := 18) (pc' := 26) rfl (hb hby at_18) rfl ((if0 _ _).trans (teq (by decide +kernel : (0 : Int32) = (0 : Int32))).1) (by decide) (by decide) ?_
    refine XS.lload X0.here hx rfl (hb hby at_26) rfl ?_
    refine X0.ldc2Long hx hown (mvT hZ (hw _ (List.mem_of_getElem? (i := 0) rfl))) (g := (mkF m 28 #[own_jv p0, .second, own_jv p1, .second, own_jv p2, .second, own_jv p3, .second, iv p4, own_jv m0, .second, own_jv m1, .second, .unset, .unset, .unset, .unset, .unset, .unset, .unset, .unset] [(.long p2)])) rfl (hb hby at_28) _ ?_
    refine XS.land X0.here hx rfl (hb hby at_31) rfl ?_
    show Steps p.tables e below (s₁.setTop (mkF m 32 #[own_jv p0, .second, own_jv p1, .second, own_jv p2, .second, own_jv p3, .second, iv p4, own_jv m0, .second, own_jv m1, .second, .unset, .unset, .unset, .unset, .unset, .unset, .unset, .unset] [(.long (p2 &&& (9223372036854775807 : Int64)))])) _
    rewrite [hm2]
    refine XS.lstore X0.here hx rfl (hb hby at_32) rfl (l' := #[own_jv p0, .second, own_jv p1, .second, own_jv p2, .second, own_jv p3, .second, iv p4, own_jv m0, .second, own_jv m1, .second, own_jv m2, .second, .unset, .unset, .unset, .unset, .unset, .unset]) rfl ?_
    show Steps p.tables e below (s₁.setTop (mkF m 34 #[own_jv p0, .second, own_jv p1, .second, own_jv p2, .second, own_jv p3, .second, iv p4, own_jv m0, .second, own_jv m1, .second, own_jv m2, .second, .unset, .unset, .unset, .unset, .unset, .unset] [])) _
    refine XS.iload X0.here hx rfl (hb hby at_34) rfl ?_
    refine XS.iconst X0.here hx rfl (hb hby at_36) ?_
    refine XS.iand X0.here hx rfl (hb hby at_37) rfl ?_
    refine XS.ifYes X0.here hx rfl (pc0 := 38) (pc' := 46) rfl (hb hby at_38) rfl ((if0 _ _).trans (teq hk2).1) (by decide) (by decide) ?_
    refine XS.lload X0.here hx rfl (hb hby at_46) rfl ?_
    refine X0.ldc2Long hx hown (mvT hZ (hw _ (List.mem_of_getElem? (i := 0) rfl))) (g := (mkF m 48 #[own_jv p0, .second, own_jv p1, .second, own_jv p2, .second, own_jv p3, .second, iv p4, own_jv m0, .second, own_jv m1, .second, own_jv m2, .second, .unset, .unset, .unset, .unset, .unset, .unset] [(.long p3)])) rfl (hb hby at_48) _ ?_
    refine XS.land X0.here hx rfl (hb hby at_51) rfl ?_
    show Steps p.tables e below (s₁.setTop (mkF m 52 #[own_jv p0, .second, own_jv p1, .second, own_jv p2, .second, own_jv p3, .second, iv p4, own_jv m0, .second, own_jv m1, .second, own_jv m2, .second, .unset, .unset, .unset, .unset, .unset, .unset] [(.long (p3 &&& (9223372036854775807 : Int64)))])) _
    rewrite [hm3]
    refine XS.lstore X0.here hx rfl (hb hby at_52) rfl (l' := #[own_jv p0, .second, own_jv p1, .second, own_jv p2, .second, own_jv p3, .second, iv p4, own_jv m0, .second, own_jv m1, .second, own_jv m2, .second, own_jv m3, .second, .unset, .unset, .unset, .unset]) rfl ?_
    show Steps p.tables e below (s₁.setTop (mkF m 54 #[own_jv p0, .second, own_jv p1, .second, own_jv p2, .second, own_jv p3, .second, iv p4, own_jv m0, .second, own_jv m1, .second, own_jv m2, .second, own_jv m3, .second, .unset, .unset, .unset, .unset] [])) _
    refine st1 _ ?_
    refine XS.dup X1.here hx rfl (hb hby at_57) rfl rfl ?_
    refine XS.lload X1.here hx rfl (hb hby at_58) rfl ?_
    refine XS.lload X1.here hx rfl (hb hby at_60) rfl ?_
    refine st2.trans ?_
    refine XS.astore X2.here hx rfl (hb hby at_65) rfl rfl (l' := #[own_jv p0, .second, own_jv p1, .second, own_jv p2, .second, own_jv p3, .second, iv p4, own_jv m0, .second, own_jv m1, .second, own_jv m2, .second, own_jv m3, .second, rv b0_1, .unset, .unset, .unset]) rfl ?_
    refine st3 _ ?_
    refine XS.dup X3.here hx rfl (hb hby at_70) rfl rfl ?_
    show Steps p.tables e below (T3.setTop (mkF m 71 #[own_jv p0, .second, own_jv p1, .second, own_jv p2, .second, own_jv p3, .second, iv p4, own_jv m0, .second, own_jv m1, .second, own_jv m2, .second, own_jv m3, .second, rv b0_1, .unset, .unset, .unset] [(.ref b0_3), (.ref b0_3)])) _
    refine XS.lload X3.here hx rfl (hb hby at_71) rfl ?_
    refine XS.lload X3.here hx rfl (hb hby at_73) rfl ?_
    refine st4.trans ?_
    refine XS.astore X4.here hx rfl (hb hby at_78) rfl rfl (l' := #[own_jv p0, .second, own_jv p1, .second, own_jv p2, .second, own_jv p3, .second, iv p4, own_jv m0, .second, own_jv m1, .second, own_jv m2, .second, own_jv m3, .second, rv b0_1, rv b0_3, .unset, .unset]) rfl ?_
    refine XS.iload X4.here hx rfl (hb hby at_80) rfl ?_
    refine XS.iconst X4.here hx rfl (hb hby at_82) ?_
    refine XS.iushr X4.here hx rfl (hb hby at_83) rfl ?_
    refine XS.iconst X4.here hx rfl (hb hby at_84) ?_
    show Steps p.tables e below (T4.setTop (mkF m 85 #[own_jv p0, .second, own_jv p1, .second, own_jv p2, .second, own_jv p3, .second, iv p4, own_jv m0, .second, own_jv m1, .second, own_jv m2, .second, own_jv m3, .second, rv b0_1, rv b0_3, .unset, .unset] [(.int (3 : Int32)), (.int ((p4.toUInt32 >>> ((2 : Int32) &&& 31).toUInt32).toInt32))])) _
    refine XS.iand X4.here hx rfl (hb hby at_85) rfl ?_
    show Steps p.tables e below (T4.setTop (mkF m 86 #[own_jv p0, .second, own_jv p1, .second, own_jv p2, .second, own_jv p3, .second, iv p4, own_jv m0, .second, own_jv m1, .second, own_jv m2, .second, own_jv m3, .second, rv b0_1, rv b0_3, .unset, .unset] [(.int (((p4.toUInt32 >>> ((2 : Int32) &&& 31).toUInt32).toInt32) &&& (3 : Int32)))])) _
    rewrite [hkk]
    refine XS.istore X4.here hx rfl (hb hby at_86) rfl (l' := #[own_jv p0, .second, own_jv p1, .second, own_jv p2, .second, own_jv p3, .second, iv p4, own_jv m0, .second, own_jv m1, .second, own_jv m2, .second, own_jv m3, .second, rv b0_1, rv b0_3, iv (3 : Int32), .unset]) rfl ?_
    refine XS.iload X4.here hx rfl (hb hby at_88) rfl ?_
    refine XS.ifYes X4.here hx rfl (pc0 := 90) (pc' := 146) rfl (hb hby at_90) rfl ((if0 _ _).trans (feq (by decide +kernel : ¬ ((3 : Int32) = (0 : Int32)))).2) (by decide) (by decide) ?_
    refine XS.iload X4.here hx rfl (hb hby at_146) rfl ?_
    refine XS.iconst X4.here hx rfl (hb hby at_148) ?_
    refine XS.icmpYes X4.here hx rfl (pc0 := 149) (pc' := 171) rfl (hb hby at_149) rfl (feq (by decide +kernel : ¬ ((3 : Int32) = (1 : Int32)))).2 (by decide) (by decide) ?_
    refine XS.iload X4.here hx rfl (hb hby at_171) rfl ?_
    show Steps p.tables e below (T4.setTop (mkF m 173 #[own_jv p0, .second, own_jv p1, .second, own_jv p2, .second, own_jv p3, .second, iv p4, own_jv m0, .second, own_jv m1, .second, own_jv m2, .second, own_jv m3, .second, rv b0_1, rv b0_3, iv (3 : Int32), .unset] [(.int (3 : Int32))])) _
    refine XS.iconst X4.here hx rfl (hb hby at_173) ?_
    refine XS.icmpYes X4.here hx rfl (pc0 := 174) (pc' := 200) rfl (hb hby at_174) rfl (feq (by decide +kernel : ¬ ((3 : Int32) = (2 : Int32)))).2 (by decide) (by decide) ?_
    refine XS.aload X4.here hx rfl (hb hby at_200) rfl rfl ?_
    refine XS.aload X4.here hx rfl (hb hby at_202) rfl rfl ?_
    refine st5.trans ?_
    exact retN X5 hx (t := .boolean) Bd.returns (by simp) (hb hby at_207) hr
  · exact ⟨rfl, N5⟩
set_option maxRecDepth 65536 in
set_option maxHeartbeats 40000000 in
theorem rm0_18 (l : Launch) (Z : State) (a0 : Array Value) (hw : ∀ d ∈ tables_1, d.before a0 Z = true) (ws : List Jvm.Cond) (p0 : Int64) (p1 : Int64) (p2 : Int64) (p3 : Int64) (p4 : Int32) (m0 : Int64) (m1 : Int64) (m2 : Int64) (h0 : Heap) (n0 : Nat) (Z0 : n0 ≤ h0.size) (hm0 : (p0 &&& (9223372036854775807 : Int64)) = m0) (hm1 : (p1 &&& (9223372036854775807 : Int64)) = m1) (hk1 : (p4 &&& (1 : Int32)) = (0 : Int32)) (hm2 : (p2 &&& (9223372036854775807 : Int64)) = m2) (hk2 : ¬ ((p4 &&& (2 : Int32)) = (0 : Int32))) (hn0 : ¬ (m0 < (0 : Int64))) (hn1 : ¬ (m1 < (0 : Int64))) (hn2 : ¬ (m2 < (0 : Int64))) (hkk : (((p4.toUInt32 >>> ((2 : Int32) &&& 31).toUInt32).toInt32) &&& (3 : Int32)) = (3 : Int32)) :
    MetFree l x (head1 (Jvm.Cond.code x code maxLocals ret :: ws) room_1) (fun a U => a = #[(.long p0), (.long p1), (.long p2), (.long p3), (.int p4)] ∧ Z.Warmed39 U.vm ∧ U.heap = h0) (fun _ _ _ _ _ => True) (fun _ U o U' => ∃ v L, o = .returned v ∧ own_QL n0 v U'.heap L ∧ FrameEnd U o U' L room_1.cells room_1.slots) := by
  refine MetFree.of_bodySF (plainFor_of_name pn_3) hisR ?_
  intro p e s m args below meth c s₁ Bd hml0 hP hK
  obtain ⟨rfl, hZ, hh⟩ := hP
  have hx := Bd.exec
  have hby := Bd.bytes
  have hml : c.maxLocals = 21 := hml0
  have hown : s.vm.findClass "com/example/allotd/allotd/engine/TokensEqualsPinLaw" = some m.cls := findClass_of_methodNamed Bd.named
  have hnm := (name_of_methodNamed Bd.named Bd.method).1
  have X0 : Stand p l e room_1 s m #[(.long p0), (.long p1), (.long p2), (.long p3), (.int p4)] below meth c s₁ [] 0 0 := Stand.of_body Bd
  have e0 : s₁.heap = h0 := by rw [← hh, Bd.state]; rfl
  have N0 := Fr.nil n0
  have pre0 : ∀ t, Steps p.tables e below (s₁.setTop (mkF m 0 #[own_jv p0, .second, own_jv p1, .second, own_jv p2, .second, own_jv p3, .second, iv p4, .unset, .unset, .unset, .unset, .unset, .unset, .unset, .unset, .unset, .unset, .unset, .unset] [])) t → Steps p.tables e below (s₁.setTop (entryFrame m #[(.long p0), (.long p1), (.long p2), (.long p3), (.int p4)] maxLocals)) t := fun t k => castTop (ef_0_JJJJI m p0 p1 p2 p3 p4) k
  obtain ⟨T1, h1, X1, e1, E1, A1, D1, -, st1⟩ := newO X0 hx hZ hown (hw _ (List.mem_of_getElem? (i := 1) rfl)) (hw _ (List.mem_of_getElem? (i := 2) rfl)) (hw _ (List.mem_of_getElem? (i := 3) rfl)) e0 (g := (mkF m 54 #[own_jv p0, .second, own_jv p1, .second, own_jv p2, .second, own_jv p3, .second, iv p4, own_jv m0, .second, own_jv m1, .second, own_jv m2, .second, own_jv m1, .second, .unset, .unset, .unset, .unset] [])) rfl (hb hby at_54) (by decide) (by decide)
  obtain ⟨b0_1, gg1⟩ : ∃ z, z = h0.size := ⟨_, rfl⟩
  rw [← gg1] at A1 D1 st1
  have g_b0_1 : n0 ≤ b0_1 := Nat.le_trans Z0 (Nat.le_of_eq gg1.symm)
  have sz_b0_1 : h0.size ≤ b0_1 := Nat.le_trans (Keep.refl h0 []).1 (Nat.le_of_eq gg1.symm)
  have Z1 : n0 ≤ h1.size := Nat.le_trans Z0 E1.1
  have KK1 : Keep h0 h1 [] := (Keep.refl h0 []).ext E1
  have E_b0_1 : Exa Z h1 b0_1 "com/example/allotd/allotd/engine/Tokens" := A1
  have F_b0_1_input : Fld Z h1 b0_1 "com/example/allotd/allotd/engine/Tokens" "input" "J" (.long (0 : Int64)) := D1 (Or.inr (hw _ (List.mem_of_getElem? (i := 11) rfl))) (ty := .long) (by decide)
  have F_b0_1_output : Fld Z h1 b0_1 "com/example/allotd/allotd/engine/Tokens" "output" "J" (.long (0 : Int64)) := D1 (Or.inr (hw _ (List.mem_of_getElem? (i := 13) rfl))) (ty := .long) (by decide)
  obtain ⟨_, _, ⟨T2, L2, k2, n2⟩, -, X2, ⟨Lc2, hQ2, l2, y2, z2⟩, st2⟩ := X1.specialBack hx (y := (⟨"com/example/allotd/allotd/engine/Tokens", "<init>", "(JJ)V"⟩ : MethodName)) rfl hown (mvT hZ (hw _ (List.mem_of_getElem? (i := 4) rfl))) (mvT hZ (hw _ (List.mem_of_getElem? (i := 5) rfl))) (mvT hZ (hw _ (List.mem_of_getElem? (i := 6) rfl))) (by decide) (backOf (W := 1) (rm1_2 l Z a0 hw [] m0 m1 b0_1 h1 n0 Z1 hn0 hn1 E_b0_1 F_b0_1_input g_b0_1 F_b0_1_output) hZ (hw _ (List.mem_of_getElem? (i := 6) rfl)) (hw _ (List.mem_of_getElem? (i := 3) rfl)) (by decide) (by decide)) (g := (mkF m 62 #[own_jv p0, .second, own_jv p1, .second, own_jv p2, .second, own_jv p3, .second, iv p4, own_jv m0, .second, own_jv m1, .second, own_jv m2, .second, own_jv m1, .second, .unset, .unset, .unset, .unset] [(.long m1), (.long m0), (.ref b0_1), (.ref b0_1)])) rfl (by rw [hml]; rfl) (Steps.refl _) (a := b0_1) (argsL := [(.long m0), (.long m1)]) (rest := [(.ref b0_1)]) (lenOf pd_2 rfl) rfl (by show 2 * 0 + _ ≤ _; exact Nat.le_of_eq rfl) (hb hby at_62) (fun _ _ => ⟨rfl, e1, (by decide : 1 + 0 ≤ _), (by decide : 2 + 0 ≤ _)⟩)
  dsimp only [Pt.U, Pt.locs, Pt.cells, Pt.slots] at X2 l2 y2 z2 st2 hQ2
  subst l2 y2 z2
  obtain ⟨rfl, N2q, K2, fq2_0, fq2_1, fq2_2⟩ := hQ2
  have KK2 : Keep h0 T2.heap [] := KK1.trans K2 (allS (P := fun x => x ∈ [] ∨ h0.size ≤ x) (Or.inr sz_b0_1) all0)
  have Z2 : n0 ≤ T2.heap.size := Nat.le_trans Z1 K2.1
  have N2 := Fr.app N0 N2q
  obtain ⟨T3, h3, X3, e3, E3, A3, D3, -, st3⟩ := newO X2 hx hZ hown (hw _ (List.mem_of_getElem? (i := 1) rfl)) (hw _ (List.mem_of_getElem? (i := 2) rfl)) (hw _ (List.mem_of_getElem? (i := 3) rfl)) rfl (g := (mkF m 67 #[own_jv p0, .second, own_jv p1, .second, own_jv p2, .second, own_jv p3, .second, iv p4, own_jv m0, .second, own_jv m1, .second, own_jv m2, .second, own_jv m1, .second, rv b0_1, .unset, .unset, .unset] [])) rfl (hb hby at_67) (by decide) (by decide)
  obtain ⟨b0_3, gg3⟩ : ∃ z, z = T2.heap.size := ⟨_, rfl⟩
  rw [← gg3] at A3 D3 st3
  have g_b0_3 : n0 ≤ b0_3 := Nat.le_trans Z2 (Nat.le_of_eq gg3.symm)
  have sz_b0_3 : h0.size ≤ b0_3 := Nat.le_trans KK2.1 (Nat.le_of_eq gg3.symm)
  have Z3 : n0 ≤ h3.size := Nat.le_trans Z2 E3.1
  have KK3 : Keep h0 h3 [] := KK2.ext E3
  have E_b0_3 : Exa Z h3 b0_3 "com/example/allotd/allotd/engine/Tokens" := A3
  have F_b0_3_input : Fld Z h3 b0_3 "com/example/allotd/allotd/engine/Tokens" "input" "J" (.long (0 : Int64)) := D3 (Or.inr (hw _ (List.mem_of_getElem? (i := 11) rfl))) (ty := .long) (by decide)
  have F_b0_3_output : Fld Z h3 b0_3 "com/example/allotd/allotd/engine/Tokens" "output" "J" (.long (0 : Int64)) := D3 (Or.inr (hw _ (List.mem_of_getElem? (i := 13) rfl))) (ty := .long) (by decide)
  obtain ⟨_, _, ⟨T4, L4, k4, n4⟩, -, X4, ⟨Lc4, hQ4, l4, y4, z4⟩, st4⟩ := X3.specialBack hx (y := (⟨"com/example/allotd/allotd/engine/Tokens", "<init>", "(JJ)V"⟩ : MethodName)) rfl hown (mvT hZ (hw _ (List.mem_of_getElem? (i := 4) rfl))) (mvT hZ (hw _ (List.mem_of_getElem? (i := 5) rfl))) (mvT hZ (hw _ (List.mem_of_getElem? (i := 6) rfl))) (by decide) (backOf (W := 1) (rm1_8 l Z a0 hw [] m1 m2 b0_3 h3 n0 Z3 hn2 hn1 E_b0_3 F_b0_3_input g_b0_3 F_b0_3_output) hZ (hw _ (List.mem_of_getElem? (i := 6) rfl)) (hw _ (List.mem_of_getElem? (i := 3) rfl)) (by decide) (by decide)) (g := (mkF m 75 #[own_jv p0, .second, own_jv p1, .second, own_jv p2, .second, own_jv p3, .second, iv p4, own_jv m0, .second, own_jv m1, .second, own_jv m2, .second, own_jv m1, .second, rv b0_1, .unset, .unset, .unset] [(.long m1), (.long m2), (.ref b0_3), (.ref b0_3)])) rfl (by rw [hml]; rfl) (Steps.refl _) (a := b0_3) (argsL := [(.long m2), (.long m1)]) (rest := [(.ref b0_3)]) (lenOf pd_2 rfl) rfl (by show 2 * 0 + _ ≤ _; exact Nat.le_of_eq rfl) (hb hby at_75) (fun _ _ => ⟨rfl, e3, (by decide : 2 + 0 ≤ _), (by decide : 4 + 0 ≤ _)⟩)
  dsimp only [Pt.U, Pt.locs, Pt.cells, Pt.slots] at X4 l4 y4 z4 st4 hQ4
  subst l4 y4 z4
  obtain ⟨rfl, N4q, K4, fq4_0, fq4_1, fq4_2⟩ := hQ4
  have KK4 : Keep h0 T4.heap [] := KK3.trans K4 (allS (P := fun x => x ∈ [] ∨ h0.size ≤ x) (Or.inr sz_b0_3) all0)
  have Z4 : n0 ≤ T4.heap.size := Nat.le_trans Z3 K4.1
  have N4 := Fr.app N2 N4q
  have c6 := ((fq2_2.ext E3).keep K4)
  have ne_b0_1_b0_3_7 : ¬ (b0_1 = b0_3) := (Nat.ne_of_lt (Nat.lt_of_lt_of_le ((E_b0_1.keep K2)).lt (Nat.le_of_eq gg3.symm)))
  have c8 := ((fq2_0.ext E3).keep K4 (ninS ne_b0_1_b0_3_7 nin0))
  have c9 := ((fq2_1.ext E3).keep K4 (ninS ne_b0_1_b0_3_7 nin0))
  obtain ⟨cq5, kq5, q5a, q5b, q5c⟩ := isOf hZ rfl c6
  obtain ⟨_, _, ⟨T5, L5, k5, n5⟩, -, X5, ⟨Lc5, hQ5, l5, y5, z5⟩, st5⟩ := X4.virtualBack hx (y := (⟨"com/example/allotd/allotd/engine/Tokens", "equals", "(Ljava/lang/Object;)Z"⟩ : MethodName)) (z := (⟨"com/example/allotd/allotd/engine/Tokens", "equals", "(Ljava/lang/Object;)Z"⟩ : MethodName)) hown (mvT hZ (hw _ (List.mem_of_getElem? (i := 14) rfl))) (mvT hZ (hw _ (List.mem_of_getElem? (i := 15) rfl))) (notFace_of_selects (args := #[]) (mvT hZ (hw _ (List.mem_of_getElem? (i := 17) rfl)))) (mvT hZ (hw _ (List.mem_of_getElem? (i := 17) rfl))) (mvT hZ (hw _ (List.mem_of_getElem? (i := 16) rfl))) (by decide) (backOf (W := 0) (rm3_23 l Z a0 hw [] m0 m1 b0_1 T4.heap n0 Z4 c6 c8 c9) hZ (hw _ (List.mem_of_getElem? (i := 18) rfl)) (hw _ (List.mem_of_getElem? (i := 3) rfl)) (by decide) (by decide)) q5a q5c (g := (mkF m 204 #[own_jv p0, .second, own_jv p1, .second, own_jv p2, .second, own_jv p3, .second, iv p4, own_jv m0, .second, own_jv m1, .second, own_jv m2, .second, own_jv m1, .second, rv b0_1, rv b0_3, iv (3 : Int32), .unset] [(.ref b0_1), (.ref b0_1)])) rfl (by rw [hml]; rfl) (Steps.refl _) (argsL := [(.ref b0_1)]) (rest := []) (lenOf pd_3 rfl) rfl (by show 2 * 0 + _ ≤ _; exact Nat.le_of_eq rfl) (hb hby at_204) (fun _ _ => ⟨rfl, rfl, (by decide : 2 + 0 ≤ _), (by decide : 4 + 0 ≤ _)⟩)
  dsimp only [Pt.U, Pt.locs, Pt.cells, Pt.slots] at X5 l5 y5 z5 st5 hQ5
  subst l5 y5 z5
  obtain ⟨rfl, N5q, e5⟩ := hQ5
  have N5 := Fr.app N4 N5q
  obtain ⟨fs, hr, hrun, hended, hW, hsame⟩ := X5.leave (v := (some (.int (1 : Int32)))) (fun h => by rw [Bd.returns] at h; cases h)
  refine ⟨_, _, pre0 _ ?_, hrun, hended, _, _, rfl, ?_, ⟨_, rfl⟩, hW, hsame.mono (by decide) (by decide)⟩
  · show Steps p.tables e below (s₁.setTop (mkF m 0 #[own_jv p0, .second, own_jv p1, .second, own_jv p2, .second, own_jv p3, .second, iv p4, .unset, .unset, .unset, .unset, .unset, .unset, .unset, .unset, .unset, .unset, .unset, .unset] [])) _
    refine XS.lloadN X0.here hx rfl (hb hby at_0) rfl ?_
    refine X0.ldc2Long hx hown (mvT hZ (hw _ (List.mem_of_getElem? (i := 0) rfl))) (g := (mkF m 1 #[own_jv p0, .second, own_jv p1, .second, own_jv p2, .second, own_jv p3, .second, iv p4, .unset, .unset, .unset, .unset, .unset, .unset, .unset, .unset, .unset, .unset, .unset, .unset] [(.long p0)])) rfl (hb hby at_1) _ ?_
    refine XS.land X0.here hx rfl (hb hby at_4) rfl ?_
    show Steps p.tables e below (s₁.setTop (mkF m 5 #[own_jv p0, .second, own_jv p1, .second, own_jv p2, .second, own_jv p3, .second, iv p4, .unset, .unset, .unset, .unset, .unset, .unset, .unset, .unset, .unset, .unset, .unset, .unset] [(.long (p0 &&& (9223372036854775807 : Int64)))])) _
    rewrite [hm0]
    refine XS.lstore X0.here hx rfl (hb hby at_5) rfl (l' := #[own_jv p0, .second, own_jv p1, .second, own_jv p2, .second, own_jv p3, .second, iv p4, own_jv m0, .second, .unset, .unset, .unset, .unset, .unset, .unset, .unset, .unset, .unset, .unset]) rfl ?_
    refine XS.lloadN X0.here hx rfl (hb hby at_7) rfl ?_
    refine X0.ldc2Long hx hown (mvT hZ (hw _ (List.mem_of_getElem? (i := 0) rfl))) (g := (mkF m 8 #[own_jv p0, .second, own_jv p1, .second, own_jv p2, .second, own_jv p3, .second, iv p4, own_jv m0, .second, .unset, .unset, .unset, .unset, .unset, .unset, .unset, .unset, .unset, .unset] [(.long p1)])) rfl (hb hby at_8) _ ?_
    refine XS.land X0.here hx rfl (hb hby at_11) rfl ?_
    show Steps p.tables e below (s₁.setTop (mkF m 12 #[own_jv p0, .second, own_jv p1, .second, own_jv p2, .second, own_jv p3, .second, iv p4, own_jv m0, .second, .unset, .unset, .unset, .unset, .unset, .unset, .unset, .unset, .unset, .unset] [(.long (p1 &&& (9223372036854775807 : Int64)))])) _
    rewrite [hm1]
    refine XS.lstore X0.here hx rfl (hb hby at_12) rfl (l' := #[own_jv p0, .second, own_jv p1, .second, own_jv p2, .second, own_jv p3, .second, iv p4, own_jv m0, .second, own_jv m1, .second, .unset, .unset, .unset, .unset, .unset, .unset, .unset, .unset]) rfl ?_
    show Steps p.tables e below (s₁.setTop (mkF m 14 #[own_jv p0, .second, own_jv p1, .second, own_jv p2, .second, own_jv p3, .second, iv p4, own_jv m0, .second, own_jv m1, .second, .unset, .unset, .unset, .unset, .unset, .unset, .unset, .unset] [])) _
    refine XS.iload X0.here hx rfl (hb hby at_14) rfl ?_
    refine XS.iconst X0.here hx rfl (hb hby at_16) ?_
    refine XS.iand X0.here hx rfl (hb hby at_17) rfl ?_
    show Steps p.tables e below (s₁.setTop (mkF m 18 #[own_jv p0, .second, own_jv p1, .second, own_jv p2, .second, own_jv p3, .second, iv p4, own_jv m0, .second, own_jv m1, .second, .unset, .unset, .unset, .unset, .unset, .unset, .unset, .unset] [(.int (p4 &&& (1 : Int32)))])) _
    rewrite [hk1]
    refine XS.ifYes X0.here hx rfl (pc0 := 18) (pc' := 26) rfl (hb hby at_18) rfl ((if0 _ _).trans (teq (by decide +kernel : (0 : Int32) = (0 : Int32))).1) (by decide) (by decide) ?_
    refine XS.lload X0.here hx rfl (hb hby at_26) rfl ?_
    refine X0.ldc2Long hx hown (mvT hZ (hw _ (List.mem_of_getElem? (i := 0) rfl))) (g := (mkF m 28 #[own_jv p0, .second, own_jv p1, .second, own_jv p2, .second, own_jv p3, .second, iv p4, own_jv m0, .second, own_jv m1, .second, .unset, .unset, .unset, .unset, .unset, .unset, .unset, .unset] [(.long p2)])) rfl (hb hby at_28) _ ?_
    refine XS.land X0.here hx rfl (hb hby at_31) rfl ?_
    show Steps p.tables e below (s₁.setTop (mkF m 32 #[own_jv p0, .second, own_jv p1, .second, own_jv p2, .second, own_jv p3, .second, iv p4, own_jv m0, .second, own_jv m1, .second, .unset, .unset, .unset, .unset, .unset, .unset, .unset, .unset] [(.long (p2 &&& (9223372036854775807 : Int64)))])) _
    rewrite [hm2]
    refine XS.lstore X0.here hx rfl (hb hby at_32) rfl (l' := #[own_jv p0, .second, own_jv p1, .second, own_jv p2, .second, own_jv p3, .second, iv p4, own_jv m0, .second, own_jv m1, .second, own_jv m2, .second, .unset, .unset, .unset, .unset, .unset, .unset]) rfl ?_
    show Steps p.tables e below (s₁.setTop (mkF m 34 #[own_jv p0, .second, own_jv p1, .second, own_jv p2, .second, own_jv p3, .second, iv p4, own_jv m0, .second, own_jv m1, .second, own_jv m2, .second, .unset, .unset, .unset, .unset, .unset, .unset] [])) _
    refine XS.iload X0.here hx rfl (hb hby at_34) rfl ?_
    refine XS.iconst X0.here hx rfl (hb hby at_36) ?_
    refine XS.iand X0.here hx rfl (hb hby at_37) rfl ?_
    refine XS.ifNo X0.here hx rfl (hb hby at_38) rfl ((if0 _ _).trans (feq hk2).1) ?_
    refine XS.lload X0.here hx rfl (hb hby at_41) rfl ?_
    refine XS.goto X0.here hx rfl (pc0 := 43) (pc' := 52) rfl (hb hby at_43) (by decide) (by decide) ?_
    refine XS.lstore X0.here hx rfl (hb hby at_52) rfl (l' := #[own_jv p0, .second, own_jv p1, .second, own_jv p2, .second, own_jv p3, .second, iv p4, own_jv m0, .second, own_jv m1, .second, own_jv m2, .second, own_jv m1, .second, .unset, .unset, .unset, .unset]) rfl ?_
    refine st1 _ ?_
    show Steps p.tables e below (T1.setTop (mkF m 57 #[own_jv p0, .second, own_jv p1, .second, own_jv p2, .second, own_jv p3, .second, iv p4, own_jv m0, .second, own_jv m1, .second, own_jv m2, .second, own_jv m1, .second, .unset, .unset, .unset, .unset] [(.ref b0_1)])) _
    refine XS.dup X1.here hx rfl (hb hby at_57) rfl rfl ?_
    refine XS.lload X1.here hx rfl (hb hby at_58) rfl ?_
    refine XS.lload X1.here hx rfl (hb hby at_60) rfl ?_
    refine st2.trans ?_
    refine XS.astore X2.here hx rfl (hb hby at_65) rfl rfl (l' := #[own_jv p0, .second, own_jv p1, .second, own_jv p2, .second, own_jv p3, .second, iv p4, own_jv m0, .second, own_jv m1, .second, own_jv m2, .second, own_jv m1, .second, rv b0_1, .unset, .unset, .unset]) rfl ?_
    refine st3 _ ?_
    refine XS.dup X3.here hx rfl (hb hby at_70) rfl rfl ?_
    refine XS.lload X3.here hx rfl (hb hby at_71) rfl ?_
    show Steps p.tables e below (T3.setTop (mkF m 73 #[own_jv p0, .second, own_jv p1, .second, own_jv p2, .second, own_jv p3, .second, iv p4, own_jv m0, .second, own_jv m1, .second, own_jv m2, .second, own_jv m1, .second, rv b0_1, .unset, .unset, .unset] [(.long m2), (.ref b0_3), (.ref b0_3)])) _
    refine XS.lload X3.here hx rfl (hb hby at_73) rfl ?_
    refine st4.trans ?_
    refine XS.astore X4.here hx rfl (hb hby at_78) rfl rfl (l' := #[own_jv p0, .second, own_jv p1, .second, own_jv p2, .second, own_jv p3, .second, iv p4, own_jv m0, .second, own_jv m1, .second, own_jv m2, .second, own_jv m1, .second, rv b0_1, rv b0_3, .unset, .unset]) rfl ?_
    refine XS.iload X4.here hx rfl (hb hby at_80) rfl ?_
    refine XS.iconst X4.here hx rfl (hb hby at_82) ?_
    refine XS.iushr X4.here hx rfl (hb hby at_83) rfl ?_
    refine XS.iconst X4.here hx rfl (hb hby at_84) ?_
    refine XS.iand X4.here hx rfl (hb hby at_85) rfl ?_
    show Steps p.tables e below (T4.setTop (mkF m 86 #[own_jv p0, .second, own_jv p1, .second, own_jv p2, .second, own_jv p3, .second, iv p4, own_jv m0, .second, own_jv m1, .second, own_jv m2, .second, own_jv m1, .second, rv b0_1, rv b0_3, .unset, .unset] [(.int (((p4.toUInt32 >>> ((2 : Int32) &&& 31).toUInt32).toInt32) &&& (3 : Int32)))])) _
    rewrite [hkk]
    show Steps p.tables e below (T4.setTop (mkF m 86 #[own_jv p0, .second, own_jv p1, .second, own_jv p2, .second, own_jv p3, .second, iv p4, own_jv m0, .second, own_jv m1, .second, own_jv m2, .second, own_jv m1, .second, rv b0_1, rv b0_3, .unset, .unset] [(.int (3 : Int32))])) _
    refine XS.istore X4.here hx rfl (hb hby at_86) rfl (l' := #[own_jv p0, .second, own_jv p1, .second, own_jv p2, .second, own_jv p3, .second, iv p4, own_jv m0, .second, own_jv m1, .second, own_jv m2, .second, own_jv m1, .second, rv b0_1, rv b0_3, iv (3 : Int32), .unset]) rfl ?_
    refine XS.iload X4.here hx rfl (hb hby at_88) rfl ?_
    refine XS.ifYes X4.here hx rfl (pc0 := 90) (pc' := 146) rfl (hb hby at_90) rfl ((if0 _ _).trans (feq (by decide +kernel : ¬ ((3 : Int32) = (0 : Int32)))).2) (by decide) (by decide) ?_
    refine XS.iload X4.here hx rfl (hb hby at_146) rfl ?_
    refine XS.iconst X4.here hx rfl (hb hby at_148) ?_
    refine XS.icmpYes X4.here hx rfl (pc0 := 149) (pc' := 171) rfl (hb hby at_149) rfl (feq (by decide +kernel : ¬ ((3 : Int32) = (1 : Int32)))).2 (by decide) (by decide) ?_
    refine XS.iload X4.here hx rfl (hb hby at_171) rfl ?_
    refine XS.iconst X4.here hx rfl (hb hby at_173) ?_
    show Steps p.tables e below (T4.setTop (mkF m 174 #[own_jv p0, .second, own_jv p1, .second, own_jv p2, .second, own_jv p3, .second, iv p4, own_jv m0, .second, own_jv m1, .second, own_jv m2, .second, own_jv m1, .second, rv b0_1, rv b0_3, iv (3 : Int32), .unset] [(.int (2 : Int32)), (.int (3 : Int32))])) _
    refine XS.icmpYes X4.here hx rfl (pc0 := 174) (pc' := 200) rfl (hb hby at_174) rfl (feq (by decide +kernel : ¬ ((3 : Int32) = (2 : Int32)))).2 (by decide) (by decide) ?_
    refine XS.aload X4.here hx rfl (hb hby at_200) rfl rfl ?_
    refine XS.aload X4.here hx rfl (hb hby at_202) rfl rfl ?_
    refine st5.trans ?_
    exact retN X5 hx (t := .boolean) Bd.returns (by simp) (hb hby at_207) hr
  · exact ⟨rfl, N5⟩
set_option maxRecDepth 65536 in
set_option maxHeartbeats 40000000 in
theorem rm0_19 (l : Launch) (Z : State) (a0 : Array Value) (hw : ∀ d ∈ tables_1, d.before a0 Z = true) (ws : List Jvm.Cond) (p0 : Int64) (p1 : Int64) (p2 : Int64) (p3 : Int64) (p4 : Int32) (m0 : Int64) (m1 : Int64) (m3 : Int64) (h0 : Heap) (n0 : Nat) (Z0 : n0 ≤ h0.size) (hm0 : (p0 &&& (9223372036854775807 : Int64)) = m0) (hm1 : (p1 &&& (9223372036854775807 : Int64)) = m1) (hk1 : (p4 &&& (1 : Int32)) = (1 : Int32)) (hk2 : (p4 &&& (2 : Int32)) = (0 : Int32)) (hm3 : (p3 &&& (9223372036854775807 : Int64)) = m3) (hn0 : ¬ (m0 < (0 : Int64))) (hn1 : ¬ (m1 < (0 : Int64))) (hn3 : ¬ (m3 < (0 : Int64))) (hkk : (((p4.toUInt32 >>> ((2 : Int32) &&& 31).toUInt32).toInt32) &&& (3 : Int32)) = (3 : Int32)) :
    MetFree l x (head1 (Jvm.Cond.code x code maxLocals ret :: ws) room_1) (fun a U => a = #[(.long p0), (.long p1), (.long p2), (.long p3), (.int p4)] ∧ Z.Warmed39 U.vm ∧ U.heap = h0) (fun _ _ _ _ _ => True) (fun _ U o U' => ∃ v L, o = .returned v ∧ own_QL n0 v U'.heap L ∧ FrameEnd U o U' L room_1.cells room_1.slots) := by
  refine MetFree.of_bodySF (plainFor_of_name pn_3) hisR ?_
  intro p e s m args below meth c s₁ Bd hml0 hP hK
  obtain ⟨rfl, hZ, hh⟩ := hP
  have hx := Bd.exec
  have hby := Bd.bytes
  have hml : c.maxLocals = 21 := hml0
  have hown : s.vm.findClass "com/example/allotd/allotd/engine/TokensEqualsPinLaw" = some m.cls := findClass_of_methodNamed Bd.named
  have hnm := (name_of_methodNamed Bd.named Bd.method).1
  have X0 : Stand p l e room_1 s m #[(.long p0), (.long p1), (.long p2), (.long p3), (.int p4)] below meth c s₁ [] 0 0 := Stand.of_body Bd
  have e0 : s₁.heap = h0 := by rw [← hh, Bd.state]; rfl
  have N0 := Fr.nil n0
  have pre0 : ∀ t, Steps p.tables e below (s₁.setTop (mkF m 0 #[own_jv p0, .second, own_jv p1, .second, own_jv p2, .second, own_jv p3, .second, iv p4, .unset, .unset, .unset, .unset, .unset, .unset, .unset, .unset, .unset, .unset, .unset, .unset] [])) t → Steps p.tables e below (s₁.setTop (entryFrame m #[(.long p0), (.long p1), (.long p2), (.long p3), (.int p4)] maxLocals)) t := fun t k => castTop (ef_0_JJJJI m p0 p1 p2 p3 p4) k
  obtain ⟨T1, h1, X1, e1, E1, A1, D1, -, st1⟩ := newO X0 hx hZ hown (hw _ (List.mem_of_getElem? (i := 1) rfl)) (hw _ (List.mem_of_getElem? (i := 2) rfl)) (hw _ (List.mem_of_getElem? (i := 3) rfl)) e0 (g := (mkF m 54 #[own_jv p0, .second, own_jv p1, .second, own_jv p2, .second, own_jv p3, .second, iv p4, own_jv m0, .second, own_jv m1, .second, own_jv m0, .second, own_jv m3, .second, .unset, .unset, .unset, .unset] [])) rfl (hb hby at_54) (by decide) (by decide)
  obtain ⟨b0_1, gg1⟩ : ∃ z, z = h0.size := ⟨_, rfl⟩
  rw [← gg1] at A1 D1 st1
  have g_b0_1 : n0 ≤ b0_1 := Nat.le_trans Z0 (Nat.le_of_eq gg1.symm)
  have sz_b0_1 : h0.size ≤ b0_1 := Nat.le_trans (Keep.refl h0 []).1 (Nat.le_of_eq gg1.symm)
  have Z1 : n0 ≤ h1.size := Nat.le_trans Z0 E1.1
  have KK1 : Keep h0 h1 [] := (Keep.refl h0 []).ext E1
  have E_b0_1 : Exa Z h1 b0_1 "com/example/allotd/allotd/engine/Tokens" := A1
  have F_b0_1_input : Fld Z h1 b0_1 "com/example/allotd/allotd/engine/Tokens" "input" "J" (.long (0 : Int64)) := D1 (Or.inr (hw _ (List.mem_of_getElem? (i := 11) rfl))) (ty := .long) (by decide)
  have F_b0_1_output : Fld Z h1 b0_1 "com/example/allotd/allotd/engine/Tokens" "output" "J" (.long (0 : Int64)) := D1 (Or.inr (hw _ (List.mem_of_getElem? (i := 13) rfl))) (ty := .long) (by decide)
  obtain ⟨_, _, ⟨T2, L2, k2, n2⟩, -, X2, ⟨Lc2, hQ2, l2, y2, z2⟩, st2⟩ := X1.specialBack hx (y := (⟨"com/example/allotd/allotd/engine/Tokens", "<init>", "(JJ)V"⟩ : MethodName)) rfl hown (mvT hZ (hw _ (List.mem_of_getElem? (i := 4) rfl))) (mvT hZ (hw _ (List.mem_of_getElem? (i := 5) rfl))) (mvT hZ (hw _ (List.mem_of_getElem? (i := 6) rfl))) (by decide) (backOf (W := 1) (rm1_2 l Z a0 hw [] m0 m1 b0_1 h1 n0 Z1 hn0 hn1 E_b0_1 F_b0_1_input g_b0_1 F_b0_1_output) hZ (hw _ (List.mem_of_getElem? (i := 6) rfl)) (hw _ (List.mem_of_getElem? (i := 3) rfl)) (by decide) (by decide)) (g := (mkF m 62 #[own_jv p0, .second, own_jv p1, .second, own_jv p2, .second, own_jv p3, .second, iv p4, own_jv m0, .second, own_jv m1, .second, own_jv m0, .second, own_jv m3, .second, .unset, .unset, .unset, .unset] [(.long m1), (.long m0), (.ref b0_1), (.ref b0_1)])) rfl (by rw [hml]; rfl) (Steps.refl _) (a := b0_1) (argsL := [(.long m0), (.long m1)]) (rest := [(.ref b0_1)]) (lenOf pd_2 rfl) rfl (by show 2 * 0 + _ ≤ _; exact Nat.le_of_eq rfl) (hb hby at_62) (fun _ _ => ⟨rfl, e1, (by decide : 1 + 0 ≤ _), (by decide : 2 + 0 ≤ _)⟩)
  dsimp only [Pt.U, Pt.locs, Pt.cells, Pt.slots] at X2 l2 y2 z2 st2 hQ2
  subst l2 y2 z2
  obtain ⟨rfl, N2q, K2, fq2_0, fq2_1, fq2_2⟩ := hQ2
  have KK2 : Keep h0 T2.heap [] := KK1.trans K2 (allS (P := fun x => x ∈ [] ∨ h0.size ≤ x) (Or.inr sz_b0_1) all0)
  have Z2 : n0 ≤ T2.heap.size := Nat.le_trans Z1 K2.1
  have N2 := Fr.app N0 N2q
  obtain ⟨T3, h3, X3, e3, E3, A3, D3, -, st3⟩ := newO X2 hx hZ hown (hw _ (List.mem_of_getElem? (i := 1) rfl)) (hw _ (List.mem_of_getElem? (i := 2) rfl)) (hw _ (List.mem_of_getElem? (i := 3) rfl)) rfl (g := (mkF m 67 #[own_jv p0, .second, own_jv p1, .second, own_jv p2, .second, own_jv p3, .second, iv p4, own_jv m0, .second, own_jv m1, .second, own_jv m0, .second, own_jv m3, .second, rv b0_1, .unset, .unset, .unset] [])) rfl (hb hby at_67) (by decide) (by decide)
  obtain ⟨b0_3, gg3⟩ : ∃ z, z = T2.heap.size := ⟨_, rfl⟩
  rw [← gg3] at A3 D3 st3
  have g_b0_3 : n0 ≤ b0_3 := Nat.le_trans Z2 (Nat.le_of_eq gg3.symm)
  have sz_b0_3 : h0.size ≤ b0_3 := Nat.le_trans KK2.1 (Nat.le_of_eq gg3.symm)
  have Z3 : n0 ≤ h3.size := Nat.le_trans Z2 E3.1
  have KK3 : Keep h0 h3 [] := KK2.ext E3
  have E_b0_3 : Exa Z h3 b0_3 "com/example/allotd/allotd/engine/Tokens" := A3
  have F_b0_3_input : Fld Z h3 b0_3 "com/example/allotd/allotd/engine/Tokens" "input" "J" (.long (0 : Int64)) := D3 (Or.inr (hw _ (List.mem_of_getElem? (i := 11) rfl))) (ty := .long) (by decide)
  have F_b0_3_output : Fld Z h3 b0_3 "com/example/allotd/allotd/engine/Tokens" "output" "J" (.long (0 : Int64)) := D3 (Or.inr (hw _ (List.mem_of_getElem? (i := 13) rfl))) (ty := .long) (by decide)
  obtain ⟨_, _, ⟨T4, L4, k4, n4⟩, -, X4, ⟨Lc4, hQ4, l4, y4, z4⟩, st4⟩ := X3.specialBack hx (y := (⟨"com/example/allotd/allotd/engine/Tokens", "<init>", "(JJ)V"⟩ : MethodName)) rfl hown (mvT hZ (hw _ (List.mem_of_getElem? (i := 4) rfl))) (mvT hZ (hw _ (List.mem_of_getElem? (i := 5) rfl))) (mvT hZ (hw _ (List.mem_of_getElem? (i := 6) rfl))) (by decide) (backOf (W := 1) (rm1_13 l Z a0 hw [] m0 m3 b0_3 h3 n0 Z3 hn0 hn3 E_b0_3 F_b0_3_input g_b0_3 F_b0_3_output) hZ (hw _ (List.mem_of_getElem? (i := 6) rfl)) (hw _ (List.mem_of_getElem? (i := 3) rfl)) (by decide) (by decide)) (g := (mkF m 75 #[own_jv p0, .second, own_jv p1, .second, own_jv p2, .second, own_jv p3, .second, iv p4, own_jv m0, .second, own_jv m1, .second, own_jv m0, .second, own_jv m3, .second, rv b0_1, .unset, .unset, .unset] [(.long m3), (.long m0), (.ref b0_3), (.ref b0_3)])) rfl (by rw [hml]; rfl) (Steps.refl _) (a := b0_3) (argsL := [(.long m0), (.long m3)]) (rest := [(.ref b0_3)]) (lenOf pd_2 rfl) rfl (by show 2 * 0 + _ ≤ _; exact Nat.le_of_eq rfl) (hb hby at_75) (fun _ _ => ⟨rfl, e3, (by decide : 2 + 0 ≤ _), (by decide : 4 + 0 ≤ _)⟩)
  dsimp only [Pt.U, Pt.locs, Pt.cells, Pt.slots] at X4 l4 y4 z4 st4 hQ4
  subst l4 y4 z4
  obtain ⟨rfl, N4q, K4, fq4_0, fq4_1, fq4_2⟩ := hQ4
  have KK4 : Keep h0 T4.heap [] := KK3.trans K4 (allS (P := fun x => x ∈ [] ∨ h0.size ≤ x) (Or.inr sz_b0_3) all0)
  have Z4 : n0 ≤ T4.heap.size := Nat.le_trans Z3 K4.1
  have N4 := Fr.app N2 N4q
  have c6 := ((fq2_2.ext E3).keep K4)
  have ne_b0_1_b0_3_7 : ¬ (b0_1 = b0_3) := (Nat.ne_of_lt (Nat.lt_of_lt_of_le ((E_b0_1.keep K2)).lt (Nat.le_of_eq gg3.symm)))
  have c8 := ((fq2_0.ext E3).keep K4 (ninS ne_b0_1_b0_3_7 nin0))
  have c9 := ((fq2_1.ext E3).keep K4 (ninS ne_b0_1_b0_3_7 nin0))
  obtain ⟨cq5, kq5, q5a, q5b, q5c⟩ := isOf hZ rfl c6
  obtain ⟨_, _, ⟨T5, L5, k5, n5⟩, -, X5, ⟨Lc5, hQ5, l5, y5, z5⟩, st5⟩ := X4.virtualBack hx (y := (⟨"com/example/allotd/allotd/engine/Tokens", "equals", "(Ljava/lang/Object;)Z"⟩ : MethodName)) (z := (⟨"com/example/allotd/allotd/engine/Tokens", "equals", "(Ljava/lang/Object;)Z"⟩ : MethodName)) hown (mvT hZ (hw _ (List.mem_of_getElem? (i := 14) rfl))) (mvT hZ (hw _ (List.mem_of_getElem? (i := 15) rfl))) (notFace_of_selects (args := #[]) (mvT hZ (hw _ (List.mem_of_getElem? (i := 17) rfl)))) (mvT hZ (hw _ (List.mem_of_getElem? (i := 17) rfl))) (mvT hZ (hw _ (List.mem_of_getElem? (i := 16) rfl))) (by decide) (backOf (W := 0) (rm3_23 l Z a0 hw [] m0 m1 b0_1 T4.heap n0 Z4 c6 c8 c9) hZ (hw _ (List.mem_of_getElem? (i := 18) rfl)) (hw _ (List.mem_of_getElem? (i := 3) rfl)) (by decide) (by decide)) q5a q5c (g := (mkF m 204 #[own_jv p0, .second, own_jv p1, .second, own_jv p2, .second, own_jv p3, .second, iv p4, own_jv m0, .second, own_jv m1, .second, own_jv m0, .second, own_jv m3, .second, rv b0_1, rv b0_3, iv (3 : Int32), .unset] [(.ref b0_1), (.ref b0_1)])) rfl (by rw [hml]; rfl) (Steps.refl _) (argsL := [(.ref b0_1)]) (rest := []) (lenOf pd_3 rfl) rfl (by show 2 * 0 + _ ≤ _; exact Nat.le_of_eq rfl) (hb hby at_204) (fun _ _ => ⟨rfl, rfl, (by decide : 2 + 0 ≤ _), (by decide : 4 + 0 ≤ _)⟩)
  dsimp only [Pt.U, Pt.locs, Pt.cells, Pt.slots] at X5 l5 y5 z5 st5 hQ5
  subst l5 y5 z5
  obtain ⟨rfl, N5q, e5⟩ := hQ5
  have N5 := Fr.app N4 N5q
  obtain ⟨fs, hr, hrun, hended, hW, hsame⟩ := X5.leave (v := (some (.int (1 : Int32)))) (fun h => by rw [Bd.returns] at h; cases h)
  refine ⟨_, _, pre0 _ ?_, hrun, hended, _, _, rfl, ?_, ⟨_, rfl⟩, hW, hsame.mono (by decide) (by decide)⟩
  · show Steps p.tables e below (s₁.setTop (mkF m 0 #[own_jv p0, .second, own_jv p1, .second, own_jv p2, .second, own_jv p3, .second, iv p4, .unset, .unset, .unset, .unset, .unset, .unset, .unset, .unset, .unset, .unset, .unset, .unset] [])) _
    refine XS.lloadN X0.here hx rfl (hb hby at_0) rfl ?_
    refine X0.ldc2Long hx hown (mvT hZ (hw _ (List.mem_of_getElem? (i := 0) rfl))) (g := (mkF m 1 #[own_jv p0, .second, own_jv p1, .second, own_jv p2, .second, own_jv p3, .second, iv p4, .unset, .unset, .unset, .unset, .unset, .unset, .unset, .unset, .unset, .unset, .unset, .unset] [(.long p0)])) rfl (hb hby at_1) _ ?_
    refine XS.land X0.here hx rfl (hb hby at_4) rfl ?_
    show Steps p.tables e below (s₁.setTop (mkF m 5 #[own_jv p0, .second, own_jv p1, .second, own_jv p2, .second, own_jv p3, .second, iv p4, .unset, .unset, .unset, .unset, .unset, .unset, .unset, .unset, .unset, .unset, .unset, .unset] [(.long (p0 &&& (9223372036854775807 : Int64)))])) _
    rewrite [hm0]
    refine XS.lstore X0.here hx rfl (hb hby at_5) rfl (l' := #[own_jv p0, .second, own_jv p1, .second, own_jv p2, .second, own_jv p3, .second, iv p4, own_jv m0, .second, .unset, .unset, .unset, .unset, .unset, .unset, .unset, .unset, .unset, .unset]) rfl ?_
    refine XS.lloadN X0.here hx rfl (hb hby at_7) rfl ?_
    refine X0.ldc2Long hx hown (mvT hZ (hw _ (List.mem_of_getElem? (i := 0) rfl))) (g := (mkF m 8 #[own_jv p0, .second, own_jv p1, .second, own_jv p2, .second, own_jv p3, .second, iv p4, own_jv m0, .second, .unset, .unset, .unset, .unset, .unset, .unset, .unset, .unset, .unset, .unset] [(.long p1)])) rfl (hb hby at_8) _ ?_
    refine XS.land X0.here hx rfl (hb hby at_11) rfl ?_
    show Steps p.tables e below (s₁.setTop (mkF m 12 #[own_jv p0, .second, own_jv p1, .second, own_jv p2, .second, own_jv p3, .second, iv p4, own_jv m0, .second, .unset, .unset, .unset, .unset, .unset, .unset, .unset, .unset, .unset, .unset] [(.long (p1 &&& (9223372036854775807 : Int64)))])) _
    rewrite [hm1]
    refine XS.lstore X0.here hx rfl (hb hby at_12) rfl (l' := #[own_jv p0, .second, own_jv p1, .second, own_jv p2, .second, own_jv p3, .second, iv p4, own_jv m0, .second, own_jv m1, .second, .unset, .unset, .unset, .unset, .unset, .unset, .unset, .unset]) rfl ?_
    show Steps p.tables e below (s₁.setTop (mkF m 14 #[own_jv p0, .second, own_jv p1, .second, own_jv p2, .second, own_jv p3, .second, iv p4, own_jv m0, .second, own_jv m1, .second, .unset, .unset, .unset, .unset, .unset, .unset, .unset, .unset] [])) _
    refine XS.iload X0.here hx rfl (hb hby at_14) rfl ?_
    refine XS.iconst X0.here hx rfl (hb hby at_16) ?_
    refine XS.iand X0.here hx rfl (hb hby at_17) rfl ?_
    show Steps p.tables e below (s₁.setTop (mkF m 18 #[own_jv p0, .second, own_jv p1, .second, own_jv p2, .second, own_jv p3, .second, iv p4, own_jv m0, .second, own_jv m1, .second, .unset, .unset, .unset, .unset, .unset, .unset, .unset, .unset] [(.int (p4 &&& (1 : Int32)))])) _
    rewrite [hk1]
    refine XS.ifNo X0.here hx rfl (hb hby at_18) rfl ((if0 _ _).trans (feq (by decide +kernel : ¬ ((1 : Int32) = (0 : Int32)))).1) ?_
    refine XS.lload X0.here hx rfl (hb hby at_21) rfl ?_
    refine XS.goto X0.here hx rfl (pc0 := 23) (pc' := 32) rfl (hb hby at_23) (by decide) (by decide) ?_
    refine XS.lstore X0.here hx rfl (hb hby at_32) rfl (l' := #[own_jv p0, .second, own_jv p1, .second, own_jv p2, .second, own_jv p3, .second, iv p4, own_jv m0, .second, own_jv m1, .second, own_jv m0, .second, .unset, .unset, .unset, .unset, .unset, .unset]) rfl ?_
    refine XS.iload X0.here hx rfl (hb hby at_34) rfl ?_
    show Steps p.tables e below (s₁.setTop (mkF m 36 #[own_jv p0, .second, own_jv p1, .second, own_jv p2, .second, own_jv p3, .second, iv p4, own_jv m0, .second, own_jv m1, .second, own_jv m0, .second, .unset, .unset, .unset, .unset, .unset, .unset] [(.int p4)])) _
    refine XS.iconst X0.here hx rfl (hb hby at_36) ?_
    refine XS.iand X0.here hx rfl (hb hby at_37) rfl ?_
    refine XS.ifYes X0.here hx rfl (pc0 := 38) (pc' := 46) rfl (hb hby at_38) rfl ((if0 _ _).trans (teq hk2).1) (by decide) (by decide) ?_
    refine XS.lload X0.here hx rfl (hb hby at_46) rfl ?_
    refine X0.ldc2Long hx hown (mvT hZ (hw _ (List.mem_of_getElem? (i := 0) rfl))) (g := (mkF m 48 #[own_jv p0, .second, own_jv p1, .second, own_jv p2, .second, own_jv p3, .second, iv p4, own_jv m0, .second, own_jv m1, .second, own_jv m0, .second, .unset, .unset, .unset, .unset, .unset, .unset] [(.long p3)])) rfl (hb hby at_48) _ ?_
    refine XS.land X0.here hx rfl (hb hby at_51) rfl ?_
    show Steps p.tables e below (s₁.setTop (mkF m 52 #[own_jv p0, .second, own_jv p1, .second, own_jv p2, .second, own_jv p3, .second, iv p4, own_jv m0, .second, own_jv m1, .second, own_jv m0, .second, .unset, .unset, .unset, .unset, .unset, .unset] [(.long (p3 &&& (9223372036854775807 : Int64)))])) _
    rewrite [hm3]
    refine XS.lstore X0.here hx rfl (hb hby at_52) rfl (l' := #[own_jv p0, .second, own_jv p1, .second, own_jv p2, .second, own_jv p3, .second, iv p4, own_jv m0, .second, own_jv m1, .second, own_jv m0, .second, own_jv m3, .second, .unset, .unset, .unset, .unset]) rfl ?_
    refine st1 _ ?_
    show Steps p.tables e below (T1.setTop (mkF m 57 #[own_jv p0, .second, own_jv p1, .second, own_jv p2, .second, own_jv p3, .second, iv p4, own_jv m0, .second, own_jv m1, .second, own_jv m0, .second, own_jv m3, .second, .unset, .unset, .unset, .unset] [(.ref b0_1)])) _
    refine XS.dup X1.here hx rfl (hb hby at_57) rfl rfl ?_
    refine XS.lload X1.here hx rfl (hb hby at_58) rfl ?_
    refine XS.lload X1.here hx rfl (hb hby at_60) rfl ?_
    refine st2.trans ?_
    refine XS.astore X2.here hx rfl (hb hby at_65) rfl rfl (l' := #[own_jv p0, .second, own_jv p1, .second, own_jv p2, .second, own_jv p3, .second, iv p4, own_jv m0, .second, own_jv m1, .second, own_jv m0, .second, own_jv m3, .second, rv b0_1, .unset, .unset, .unset]) rfl ?_
    refine st3 _ ?_
    refine XS.dup X3.here hx rfl (hb hby at_70) rfl rfl ?_
    refine XS.lload X3.here hx rfl (hb hby at_71) rfl ?_
    show Steps p.tables e below (T3.setTop (mkF m 73 #[own_jv p0, .second, own_jv p1, .second, own_jv p2, .second, own_jv p3, .second, iv p4, own_jv m0, .second, own_jv m1, .second, own_jv m0, .second, own_jv m3, .second, rv b0_1, .unset, .unset, .unset] [(.long m0), (.ref b0_3), (.ref b0_3)])) _
    refine XS.lload X3.here hx rfl (hb hby at_73) rfl ?_
    refine st4.trans ?_
    refine XS.astore X4.here hx rfl (hb hby at_78) rfl rfl (l' := #[own_jv p0, .second, own_jv p1, .second, own_jv p2, .second, own_jv p3, .second, iv p4, own_jv m0, .second, own_jv m1, .second, own_jv m0, .second, own_jv m3, .second, rv b0_1, rv b0_3, .unset, .unset]) rfl ?_
    refine XS.iload X4.here hx rfl (hb hby at_80) rfl ?_
    refine XS.iconst X4.here hx rfl (hb hby at_82) ?_
    refine XS.iushr X4.here hx rfl (hb hby at_83) rfl ?_
    refine XS.iconst X4.here hx rfl (hb hby at_84) ?_
    refine XS.iand X4.here hx rfl (hb hby at_85) rfl ?_
    show Steps p.tables e below (T4.setTop (mkF m 86 #[own_jv p0, .second, own_jv p1, .second, own_jv p2, .second, own_jv p3, .second, iv p4, own_jv m0, .second, own_jv m1, .second, own_jv m0, .second, own_jv m3, .second, rv b0_1, rv b0_3, .unset, .unset] [(.int (((p4.toUInt32 >>> ((2 : Int32) &&& 31).toUInt32).toInt32) &&& (3 : Int32)))])) _
    rewrite [hkk]
    show Steps p.tables e below (T4.setTop (mkF m 86 #[own_jv p0, .second, own_jv p1, .second, own_jv p2, .second, own_jv p3, .second, iv p4, own_jv m0, .second, own_jv m1, .second, own_jv m0, .second, own_jv m3, .second, rv b0_1, rv b0_3, .unset, .unset] [(.int (3 : Int32))])) _
    refine XS.istore X4.here hx rfl (hb hby at_86) rfl (l' := #[own_jv p0, .second, own_jv p1, .second, own_jv p2, .second, own_jv p3, .second, iv p4, own_jv m0, .second, own_jv m1, .second, own_jv m0, .second, own_jv m3, .second, rv b0_1, rv b0_3, iv (3 : Int32), .unset]) rfl ?_
    refine XS.iload X4.here hx rfl (hb hby at_88) rfl ?_
    refine XS.ifYes X4.here hx rfl (pc0 := 90) (pc' := 146) rfl (hb hby at_90) rfl ((if0 _ _).trans (feq (by decide +kernel : ¬ ((3 : Int32) = (0 : Int32)))).2) (by decide) (by decide) ?_
    refine XS.iload X4.here hx rfl (hb hby at_146) rfl ?_
    refine XS.iconst X4.here hx rfl (hb hby at_148) ?_
    refine XS.icmpYes X4.here hx rfl (pc0 := 149) (pc' := 171) rfl (hb hby at_149) rfl (feq (by decide +kernel : ¬ ((3 : Int32) = (1 : Int32)))).2 (by decide) (by decide) ?_
    refine XS.iload X4.here hx rfl (hb hby at_171) rfl ?_
    refine XS.iconst X4.here hx rfl (hb hby at_173) ?_
    show Steps p.tables e below (T4.setTop (mkF m 174 #[own_jv p0, .second, own_jv p1, .second, own_jv p2, .second, own_jv p3, .second, iv p4, own_jv m0, .second, own_jv m1, .second, own_jv m0, .second, own_jv m3, .second, rv b0_1, rv b0_3, iv (3 : Int32), .unset] [(.int (2 : Int32)), (.int (3 : Int32))])) _
    refine XS.icmpYes X4.here hx rfl (pc0 := 174) (pc' := 200) rfl (hb hby at_174) rfl (feq (by decide +kernel : ¬ ((3 : Int32) = (2 : Int32)))).2 (by decide) (by decide) ?_
    refine XS.aload X4.here hx rfl (hb hby at_200) rfl rfl ?_
    refine XS.aload X4.here hx rfl (hb hby at_202) rfl rfl ?_
    refine st5.trans ?_
    exact retN X5 hx (t := .boolean) Bd.returns (by simp) (hb hby at_207) hr
  · exact ⟨rfl, N5⟩
set_option maxRecDepth 65536 in
set_option maxHeartbeats 40000000 in
theorem rm0_20 (l : Launch) (Z : State) (a0 : Array Value) (hw : ∀ d ∈ tables_1, d.before a0 Z = true) (ws : List Jvm.Cond) (p0 : Int64) (p1 : Int64) (p2 : Int64) (p3 : Int64) (p4 : Int32) (m0 : Int64) (m1 : Int64) (h0 : Heap) (n0 : Nat) (Z0 : n0 ≤ h0.size) (hm0 : (p0 &&& (9223372036854775807 : Int64)) = m0) (hm1 : (p1 &&& (9223372036854775807 : Int64)) = m1) (hk1 : (p4 &&& (1 : Int32)) = (1 : Int32)) (hk2 : ¬ ((p4 &&& (2 : Int32)) = (0 : Int32))) (hn0 : ¬ (m0 < (0 : Int64))) (hn1 : ¬ (m1 < (0 : Int64))) (hkk : (((p4.toUInt32 >>> ((2 : Int32) &&& 31).toUInt32).toInt32) &&& (3 : Int32)) = (3 : Int32)) :
    MetFree l x (head1 (Jvm.Cond.code x code maxLocals ret :: ws) room_1) (fun a U => a = #[(.long p0), (.long p1), (.long p2), (.long p3), (.int p4)] ∧ Z.Warmed39 U.vm ∧ U.heap = h0) (fun _ _ _ _ _ => True) (fun _ U o U' => ∃ v L, o = .returned v ∧ own_QL n0 v U'.heap L ∧ FrameEnd U o U' L room_1.cells room_1.slots) := by
  refine MetFree.of_bodySF (plainFor_of_name pn_3) hisR ?_
  intro p e s m args below meth c s₁ Bd hml0 hP hK
  obtain ⟨rfl, hZ, hh⟩ := hP
  have hx := Bd.exec
  have hby := Bd.bytes
  have hml : c.maxLocals = 21 := hml0
  have hown : s.vm.findClass "com/example/allotd/allotd/engine/TokensEqualsPinLaw" = some m.cls := findClass_of_methodNamed Bd.named
  have hnm := (name_of_methodNamed Bd.named Bd.method).1
  have X0 : Stand p l e room_1 s m #[(.long p0), (.long p1), (.long p2), (.long p3), (.int p4)] below meth c s₁ [] 0 0 := Stand.of_body Bd
  have e0 : s₁.heap = h0 := by rw [← hh, Bd.state]; rfl
  have N0 := Fr.nil n0
  have pre0 : ∀ t, Steps p.tables e below (s₁.setTop (mkF m 0 #[own_jv p0, .second, own_jv p1, .second, own_jv p2, .second, own_jv p3, .second, iv p4, .unset, .unset, .unset, .unset, .unset, .unset, .unset, .unset, .unset, .unset, .unset, .unset] [])) t → Steps p.tables e below (s₁.setTop (entryFrame m #[(.long p0), (.long p1), (.long p2), (.long p3), (.int p4)] maxLocals)) t := fun t k => castTop (ef_0_JJJJI m p0 p1 p2 p3 p4) k
  obtain ⟨T1, h1, X1, e1, E1, A1, D1, -, st1⟩ := newO X0 hx hZ hown (hw _ (List.mem_of_getElem? (i := 1) rfl)) (hw _ (List.mem_of_getElem? (i := 2) rfl)) (hw _ (List.mem_of_getElem? (i := 3) rfl)) e0 (g := (mkF m 54 #[own_jv p0, .second, own_jv p1, .second, own_jv p2, .second, own_jv p3, .second, iv p4, own_jv m0, .second, own_jv m1, .second, own_jv m0, .second, own_jv m1, .second, .unset, .unset, .unset, .unset] [])) rfl (hb hby at_54) (by decide) (by decide)
  obtain ⟨b0_1, gg1⟩ : ∃ z, z = h0.size := ⟨_, rfl⟩
  rw [← gg1] at A1 D1 st1
  have g_b0_1 : n0 ≤ b0_1 := Nat.le_trans Z0 (Nat.le_of_eq gg1.symm)
  have sz_b0_1 : h0.size ≤ b0_1 := Nat.le_trans (Keep.refl h0 []).1 (Nat.le_of_eq gg1.symm)
  have Z1 : n0 ≤ h1.size := Nat.le_trans Z0 E1.1
  have KK1 : Keep h0 h1 [] := (Keep.refl h0 []).ext E1
  have E_b0_1 : Exa Z h1 b0_1 "com/example/allotd/allotd/engine/Tokens" := A1
  have F_b0_1_input : Fld Z h1 b0_1 "com/example/allotd/allotd/engine/Tokens" "input" "J" (.long (0 : Int64)) := D1 (Or.inr (hw _ (List.mem_of_getElem? (i := 11) rfl))) (ty := .long) (by decide)
  have F_b0_1_output : Fld Z h1 b0_1 "com/example/allotd/allotd/engine/Tokens" "output" "J" (.long (0 : Int64)) := D1 (Or.inr (hw _ (List.mem_of_getElem? (i := 13) rfl))) (ty := .long) (by decide)
  obtain ⟨_, _, ⟨T2, L2, k2, n2⟩, -, X2, ⟨Lc2, hQ2, l2, y2, z2⟩, st2⟩ := X1.specialBack hx (y := (⟨"com/example/allotd/allotd/engine/Tokens", "<init>", "(JJ)V"⟩ : MethodName)) rfl hown (mvT hZ (hw _ (List.mem_of_getElem? (i := 4) rfl))) (mvT hZ (hw _ (List.mem_of_getElem? (i := 5) rfl))) (mvT hZ (hw _ (List.mem_of_getElem? (i := 6) rfl))) (by decide) (backOf (W := 1) (rm1_2 l Z a0 hw [] m0 m1 b0_1 h1 n0 Z1 hn0 hn1 E_b0_1 F_b0_1_input g_b0_1 F_b0_1_output) hZ (hw _ (List.mem_of_getElem? (i := 6) rfl)) (hw _ (List.mem_of_getElem? (i := 3) rfl)) (by decide) (by decide)) (g := (mkF m 62 #[own_jv p0, .second, own_jv p1, .second, own_jv p2, .second, own_jv p3, .second, iv p4, own_jv m0, .second, own_jv m1, .second, own_jv m0, .second, own_jv m1, .second, .unset, .unset, .unset, .unset] [(.long m1), (.long m0), (.ref b0_1), (.ref b0_1)])) rfl (by rw [hml]; rfl) (Steps.refl _) (a := b0_1) (argsL := [(.long m0), (.long m1)]) (rest := [(.ref b0_1)]) (lenOf pd_2 rfl) rfl (by show 2 * 0 + _ ≤ _; exact Nat.le_of_eq rfl) (hb hby at_62) (fun _ _ => ⟨rfl, e1, (by decide : 1 + 0 ≤ _), (by decide : 2 + 0 ≤ _)⟩)
  dsimp only [Pt.U, Pt.locs, Pt.cells, Pt.slots] at X2 l2 y2 z2 st2 hQ2
  subst l2 y2 z2
  obtain ⟨rfl, N2q, K2, fq2_0, fq2_1, fq2_2⟩ := hQ2
  have KK2 : Keep h0 T2.heap [] := KK1.trans K2 (allS (P := fun x => x ∈ [] ∨ h0.size ≤ x) (Or.inr sz_b0_1) all0)
  have Z2 : n0 ≤ T2.heap.size := Nat.le_trans Z1 K2.1
  have N2 := Fr.app N0 N2q
  obtain ⟨T3, h3, X3, e3, E3, A3, D3, -, st3⟩ := newO X2 hx hZ hown (hw _ (List.mem_of_getElem? (i := 1) rfl)) (hw _ (List.mem_of_getElem? (i := 2) rfl)) (hw _ (List.mem_of_getElem? (i := 3) rfl)) rfl (g := (mkF m 67 #[own_jv p0, .second, own_jv p1, .second, own_jv p2, .second, own_jv p3, .second, iv p4, own_jv m0, .second, own_jv m1, .second, own_jv m0, .second, own_jv m1, .second, rv b0_1, .unset, .unset, .unset] [])) rfl (hb hby at_67) (by decide) (by decide)
  obtain ⟨b0_3, gg3⟩ : ∃ z, z = T2.heap.size := ⟨_, rfl⟩
  rw [← gg3] at A3 D3 st3
  have g_b0_3 : n0 ≤ b0_3 := Nat.le_trans Z2 (Nat.le_of_eq gg3.symm)
  have sz_b0_3 : h0.size ≤ b0_3 := Nat.le_trans KK2.1 (Nat.le_of_eq gg3.symm)
  have Z3 : n0 ≤ h3.size := Nat.le_trans Z2 E3.1
  have KK3 : Keep h0 h3 [] := KK2.ext E3
  have E_b0_3 : Exa Z h3 b0_3 "com/example/allotd/allotd/engine/Tokens" := A3
  have F_b0_3_input : Fld Z h3 b0_3 "com/example/allotd/allotd/engine/Tokens" "input" "J" (.long (0 : Int64)) := D3 (Or.inr (hw _ (List.mem_of_getElem? (i := 11) rfl))) (ty := .long) (by decide)
  have F_b0_3_output : Fld Z h3 b0_3 "com/example/allotd/allotd/engine/Tokens" "output" "J" (.long (0 : Int64)) := D3 (Or.inr (hw _ (List.mem_of_getElem? (i := 13) rfl))) (ty := .long) (by decide)
  obtain ⟨_, _, ⟨T4, L4, k4, n4⟩, -, X4, ⟨Lc4, hQ4, l4, y4, z4⟩, st4⟩ := X3.specialBack hx (y := (⟨"com/example/allotd/allotd/engine/Tokens", "<init>", "(JJ)V"⟩ : MethodName)) rfl hown (mvT hZ (hw _ (List.mem_of_getElem? (i := 4) rfl))) (mvT hZ (hw _ (List.mem_of_getElem? (i := 5) rfl))) (mvT hZ (hw _ (List.mem_of_getElem? (i := 6) rfl))) (by decide) (backOf (W := 1) (rm1_18 l Z a0 hw [] m0 m1 b0_3 h3 n0 Z3 hn0 hn1 E_b0_3 F_b0_3_input g_b0_3 F_b0_3_output) hZ (hw _ (List.mem_of_getElem? (i := 6) rfl)) (hw _ (List.mem_of_getElem? (i := 3) rfl)) (by decide) (by decide)) (g := (mkF m 75 #[own_jv p0, .second, own_jv p1, .second, own_jv p2, .second, own_jv p3, .second, iv p4, own_jv m0, .second, own_jv m1, .second, own_jv m0, .second, own_jv m1, .second, rv b0_1, .unset, .unset, .unset] [(.long m1), (.long m0), (.ref b0_3), (.ref b0_3)])) rfl (by rw [hml]; rfl) (Steps.refl _) (a := b0_3) (argsL := [(.long m0), (.long m1)]) (rest := [(.ref b0_3)]) (lenOf pd_2 rfl) rfl (by show 2 * 0 + _ ≤ _; exact Nat.le_of_eq rfl) (hb hby at_75) (fun _ _ => ⟨rfl, e3, (by decide : 2 + 0 ≤ _), (by decide : 4 + 0 ≤ _)⟩)
  dsimp only [Pt.U, Pt.locs, Pt.cells, Pt.slots] at X4 l4 y4 z4 st4 hQ4
  subst l4 y4 z4
  obtain ⟨rfl, N4q, K4, fq4_0, fq4_1, fq4_2⟩ := hQ4
  have KK4 : Keep h0 T4.heap [] := KK3.trans K4 (allS (P := fun x => x ∈ [] ∨ h0.size ≤ x) (Or.inr sz_b0_3) all0)
  have Z4 : n0 ≤ T4.heap.size := Nat.le_trans Z3 K4.1
  have N4 := Fr.app N2 N4q
  have c6 := ((fq2_2.ext E3).keep K4)
  have ne_b0_1_b0_3_7 : ¬ (b0_1 = b0_3) := (Nat.ne_of_lt (Nat.lt_of_lt_of_le ((E_b0_1.keep K2)).lt (Nat.le_of_eq gg3.symm)))
  have c8 := ((fq2_0.ext E3).keep K4 (ninS ne_b0_1_b0_3_7 nin0))
  have c9 := ((fq2_1.ext E3).keep K4 (ninS ne_b0_1_b0_3_7 nin0))
  obtain ⟨cq5, kq5, q5a, q5b, q5c⟩ := isOf hZ rfl c6
  obtain ⟨_, _, ⟨T5, L5, k5, n5⟩, -, X5, ⟨Lc5, hQ5, l5, y5, z5⟩, st5⟩ := X4.virtualBack hx (y := (⟨"com/example/allotd/allotd/engine/Tokens", "equals", "(Ljava/lang/Object;)Z"⟩ : MethodName)) (z := (⟨"com/example/allotd/allotd/engine/Tokens", "equals", "(Ljava/lang/Object;)Z"⟩ : MethodName)) hown (mvT hZ (hw _ (List.mem_of_getElem? (i := 14) rfl))) (mvT hZ (hw _ (List.mem_of_getElem? (i := 15) rfl))) (notFace_of_selects (args := #[]) (mvT hZ (hw _ (List.mem_of_getElem? (i := 17) rfl)))) (mvT hZ (hw _ (List.mem_of_getElem? (i := 17) rfl))) (mvT hZ (hw _ (List.mem_of_getElem? (i := 16) rfl))) (by decide) (backOf (W := 0) (rm3_23 l Z a0 hw [] m0 m1 b0_1 T4.heap n0 Z4 c6 c8 c9) hZ (hw _ (List.mem_of_getElem? (i := 18) rfl)) (hw _ (List.mem_of_getElem? (i := 3) rfl)) (by decide) (by decide)) q5a q5c (g := (mkF m 204 #[own_jv p0, .second, own_jv p1, .second, own_jv p2, .second, own_jv p3, .second, iv p4, own_jv m0, .second, own_jv m1, .second, own_jv m0, .second, own_jv m1, .second, rv b0_1, rv b0_3, iv (3 : Int32), .unset] [(.ref b0_1), (.ref b0_1)])) rfl (by rw [hml]; rfl) (Steps.refl _) (argsL := [(.ref b0_1)]) (rest := []) (lenOf pd_3 rfl) rfl (by show 2 * 0 + _ ≤ _; exact Nat.le_of_eq rfl) (hb hby at_204) (fun _ _ => ⟨rfl, rfl, (by decide : 2 + 0 ≤ _), (by decide : 4 + 0 ≤ _)⟩)
  dsimp only [Pt.U, Pt.locs, Pt.cells, Pt.slots] at X5 l5 y5 z5 st5 hQ5
  subst l5 y5 z5
  obtain ⟨rfl, N5q, e5⟩ := hQ5
  have N5 := Fr.app N4 N5q
  obtain ⟨fs, hr, hrun, hended, hW, hsame⟩ := X5.leave (v := (some (.int (1 : Int32)))) (fun h => by rw [Bd.returns] at h; cases h)
  refine ⟨_, _, pre0 _ ?_, hrun, hended, _, _, rfl, ?_, ⟨_, rfl⟩, hW, hsame.mono (by decide) (by decide)⟩
  · show Steps p.tables e below (s₁.setTop (mkF m 0 #[own_jv p0, .second, own_jv p1, .second, own_jv p2, .second, own_jv p3, .second, iv p4, .unset, .unset, .unset, .unset, .unset, .unset, .unset, .unset, .unset, .unset, .unset, .unset] [])) _
    refine XS.lloadN X0.here hx rfl (hb hby at_0) rfl ?_
    refine X0.ldc2Long hx hown (mvT hZ (hw _ (List.mem_of_getElem? (i := 0) rfl))) (g := (mkF m 1 #[own_jv p0, .second, own_jv p1, .second, own_jv p2, .second, own_jv p3, .second, iv p4, .unset, .unset, .unset, .unset, .unset, .unset, .unset, .unset, .unset, .unset, .unset, .unset] [(.long p0)])) rfl (hb hby at_1) _ ?_
    refine XS.land X0.here hx rfl (hb hby at_4) rfl ?_
    show Steps p.tables e below (s₁.setTop (mkF m 5 #[own_jv p0, .second, own_jv p1, .second, own_jv p2, .second, own_jv p3, .second, iv p4, .unset, .unset, .unset, .unset, .unset, .unset, .unset, .unset, .unset, .unset, .unset, .unset] [(.long (p0 &&& (9223372036854775807 : Int64)))])) _
    rewrite [hm0]
    refine XS.lstore X0.here hx rfl (hb hby at_5) rfl (l' := #[own_jv p0, .second, own_jv p1, .second, own_jv p2, .second, own_jv p3, .second, iv p4, own_jv m0, .second, .unset, .unset, .unset, .unset, .unset, .unset, .unset, .unset, .unset, .unset]) rfl ?_
    refine XS.lloadN X0.here hx rfl (hb hby at_7) rfl ?_
    refine X0.ldc2Long hx hown (mvT hZ (hw _ (List.mem_of_getElem? (i := 0) rfl))) (g := (mkF m 8 #[own_jv p0, .second, own_jv p1, .second, own_jv p2, .second, own_jv p3, .second, iv p4, own_jv m0, .second, .unset, .unset, .unset, .unset, .unset, .unset, .unset, .unset, .unset, .unset] [(.long p1)])) rfl (hb hby at_8) _ ?_
    refine XS.land X0.here hx rfl (hb hby at_11) rfl ?_
    show Steps p.tables e below (s₁.setTop (mkF m 12 #[own_jv p0, .second, own_jv p1, .second, own_jv p2, .second, own_jv p3, .second, iv p4, own_jv m0, .second, .unset, .unset, .unset, .unset, .unset, .unset, .unset, .unset, .unset, .unset] [(.long (p1 &&& (9223372036854775807 : Int64)))])) _
    rewrite [hm1]
    refine XS.lstore X0.here hx rfl (hb hby at_12) rfl (l' := #[own_jv p0, .second, own_jv p1, .second, own_jv p2, .second, own_jv p3, .second, iv p4, own_jv m0, .second, own_jv m1, .second, .unset, .unset, .unset, .unset, .unset, .unset, .unset, .unset]) rfl ?_
    show Steps p.tables e below (s₁.setTop (mkF m 14 #[own_jv p0, .second, own_jv p1, .second, own_jv p2, .second, own_jv p3, .second, iv p4, own_jv m0, .second, own_jv m1, .second, .unset, .unset, .unset, .unset, .unset, .unset, .unset, .unset] [])) _
    refine XS.iload X0.here hx rfl (hb hby at_14) rfl ?_
    refine XS.iconst X0.here hx rfl (hb hby at_16) ?_
    refine XS.iand X0.here hx rfl (hb hby at_17) rfl ?_
    show Steps p.tables e below (s₁.setTop (mkF m 18 #[own_jv p0, .second, own_jv p1, .second, own_jv p2, .second, own_jv p3, .second, iv p4, own_jv m0, .second, own_jv m1, .second, .unset, .unset, .unset, .unset, .unset, .unset, .unset, .unset] [(.int (p4 &&& (1 : Int32)))])) _
    rewrite [hk1]
    refine XS.ifNo X0.here hx rfl (hb hby at_18) rfl ((if0 _ _).trans (feq (by decide +kernel : ¬ ((1 : Int32) = (0 : Int32)))).1) ?_
    refine XS.lload X0.here hx rfl (hb hby at_21) rfl ?_
    refine XS.goto X0.here hx rfl (pc0 := 23) (pc' := 32) rfl (hb hby at_23) (by decide) (by decide) ?_
    refine XS.lstore X0.here hx rfl (hb hby at_32) rfl (l' := #[own_jv p0, .second, own_jv p1, .second, own_jv p2, .second, own_jv p3, .second, iv p4, own_jv m0, .second, own_jv m1, .second, own_jv m0, .second, .unset, .unset, .unset, .unset, .unset, .unset]) rfl ?_
    refine XS.iload X0.here hx rfl (hb hby at_34) rfl ?_
    show Steps p.tables e below (s₁.setTop (mkF m 36 #[own_jv p0, .second, own_jv p1, .second, own_jv p2, .second, own_jv p3, .second, iv p4, own_jv m0, .second, own_jv m1, .second, own_jv m0, .second, .unset, .unset, .unset, .unset, .unset, .unset] [(.int p4)])) _
    refine XS.iconst X0.here hx rfl (hb hby at_36) ?_
    refine XS.iand X0.here hx rfl (hb hby at_37) rfl ?_
    refine XS.ifNo X0.here hx rfl (hb hby at_38) rfl ((if0 _ _).trans (feq hk2).1) ?_
    refine XS.lload X0.here hx rfl (hb hby at_41) rfl ?_
    refine XS.goto X0.here hx rfl (pc0 := 43) (pc' := 52) rfl (hb hby at_43) (by decide) (by decide) ?_
    refine XS.lstore X0.here hx rfl (hb hby at_52) rfl (l' := #[own_jv p0, .second, own_jv p1, .second, own_jv p2, .second, own_jv p3, .second, iv p4, own_jv m0, .second, own_jv m1, .second, own_jv m0, .second, own_jv m1, .second, .unset, .unset, .unset, .unset]) rfl ?_
    refine st1 _ ?_
    refine XS.dup X1.here hx rfl (hb hby at_57) rfl rfl ?_
    show Steps p.tables e below (T1.setTop (mkF m 58 #[own_jv p0, .second, own_jv p1, .second, own_jv p2, .second, own_jv p3, .second, iv p4, own_jv m0, .second, own_jv m1, .second, own_jv m0, .second, own_jv m1, .second, .unset, .unset, .unset, .unset] [(.ref b0_1), (.ref b0_1)])) _
    refine XS.lload X1.here hx rfl (hb hby at_58) rfl ?_
    refine XS.lload X1.here hx rfl (hb hby at_60) rfl ?_
    refine st2.trans ?_
    refine XS.astore X2.here hx rfl (hb hby at_65) rfl rfl (l' := #[own_jv p0, .second, own_jv p1, .second, own_jv p2, .second, own_jv p3, .second, iv p4, own_jv m0, .second, own_jv m1, .second, own_jv m0, .second, own_jv m1, .second, rv b0_1, .unset, .unset, .unset]) rfl ?_
    refine st3 _ ?_
    refine XS.dup X3.here hx rfl (hb hby at_70) rfl rfl ?_
    refine XS.lload X3.here hx rfl (hb hby at_71) rfl ?_
    refine XS.lload X3.here hx rfl (hb hby at_73) rfl ?_
    show Steps p.tables e below (T3.setTop (mkF m 75 #[own_jv p0, .second, own_jv p1, .second, own_jv p2, .second, own_jv p3, .second, iv p4, own_jv m0, .second, own_jv m1, .second, own_jv m0, .second, own_jv m1, .second, rv b0_1, .unset, .unset, .unset] [(.long m1), (.long m0), (.ref b0_3), (.ref b0_3)])) _
    refine st4.trans ?_
    refine XS.astore X4.here hx rfl (hb hby at_78) rfl rfl (l' := #[own_jv p0, .second, own_jv p1, .second, own_jv p2, .second, own_jv p3, .second, iv p4, own_jv m0, .second, own_jv m1, .second, own_jv m0, .second, own_jv m1, .second, rv b0_1, rv b0_3, .unset, .unset]) rfl ?_
    refine XS.iload X4.here hx rfl (hb hby at_80) rfl ?_
    refine XS.iconst X4.here hx rfl (hb hby at_82) ?_
    refine XS.iushr X4.here hx rfl (hb hby at_83) rfl ?_
    refine XS.iconst X4.here hx rfl (hb hby at_84) ?_
    refine XS.iand X4.here hx rfl (hb hby at_85) rfl ?_
    show Steps p.tables e below (T4.setTop (mkF m 86 #[own_jv p0, .second, own_jv p1, .second, own_jv p2, .second, own_jv p3, .second, iv p4, own_jv m0, .second, own_jv m1, .second, own_jv m0, .second, own_jv m1, .second, rv b0_1, rv b0_3, .unset, .unset] [(.int (((p4.toUInt32 >>> ((2 : Int32) &&& 31).toUInt32).toInt32) &&& (3 : Int32)))])) _
    rewrite [hkk]
    refine XS.istore X4.here hx rfl (hb hby at_86) rfl (l' := #[own_jv p0, .second, own_jv p1, .second, own_jv p2, .second, own_jv p3, .second, iv p4, own_jv m0, .second, own_jv m1, .second, own_jv m0, .second, own_jv m1, .second, rv b0_1, rv b0_3, iv (3 : Int32), .unset]) rfl ?_
    show Steps p.tables e below (T4.setTop (mkF m 88 #[own_jv p0, .second, own_jv p1, .second, own_jv p2, .second, own_jv p3, .second, iv p4, own_jv m0, .second, own_jv m1, .second, own_jv m0, .second, own_jv m1, .second, rv b0_1, rv b0_3, iv (3 : Int32), .unset] [])) _
    refine XS.iload X4.here hx rfl (hb hby at_88) rfl ?_
    refine XS.ifYes X4.here hx rfl (pc0 := 90) (pc' := 146) rfl (hb hby at_90) rfl ((if0 _ _).trans (feq (by decide +kernel : ¬ ((3 : Int32) = (0 : Int32)))).2) (by decide) (by decide) ?_
    refine XS.iload X4.here hx rfl (hb hby at_146) rfl ?_
    refine XS.iconst X4.here hx rfl (hb hby at_148) ?_
    refine XS.icmpYes X4.here hx rfl (pc0 := 149) (pc' := 171) rfl (hb hby at_149) rfl (feq (by decide +kernel : ¬ ((3 : Int32) = (1 : Int32)))).2 (by decide) (by decide) ?_
    refine XS.iload X4.here hx rfl (hb hby at_171) rfl ?_
    refine XS.iconst X4.here hx rfl (hb hby at_173) ?_
    refine XS.icmpYes X4.here hx rfl (pc0 := 174) (pc' := 200) rfl (hb hby at_174) rfl (feq (by decide +kernel : ¬ ((3 : Int32) = (2 : Int32)))).2 (by decide) (by decide) ?_
    show Steps p.tables e below (T4.setTop (mkF m 200 #[own_jv p0, .second, own_jv p1, .second, own_jv p2, .second, own_jv p3, .second, iv p4, own_jv m0, .second, own_jv m1, .second, own_jv m0, .second, own_jv m1, .second, rv b0_1, rv b0_3, iv (3 : Int32), .unset] [])) _
    refine XS.aload X4.here hx rfl (hb hby at_200) rfl rfl ?_
    refine XS.aload X4.here hx rfl (hb hby at_202) rfl rfl ?_
    refine st5.trans ?_
    exact retN X5 hx (t := .boolean) Bd.returns (by simp) (hb hby at_207) hr
  · exact ⟨rfl, N5⟩
theorem rm0 (l : Launch) (Z : State) (a0 : Array Value) (hw : ∀ d ∈ tables_1, d.before a0 Z = true) (ws : List Jvm.Cond) (p0 : Int64) (p1 : Int64) (p2 : Int64) (p3 : Int64) (p4 : Int32) (w_LongCache_cache : Addr) (h0 : Heap) (n0 : Nat) (Z0 : n0 ≤ h0.size) (S_LongCache_cache : Sta Z h0 "java/lang/Long$LongCache" "cache" "[Ljava/lang/Long;" (.ref w_LongCache_cache)) (CA_w_LongCache_cache : own_Cache Z h0 w_LongCache_cache "java/lang/Long") :
    MetFree l x (head1 (Jvm.Cond.code x code maxLocals ret :: ws) room_1) (fun a U => a = #[(.long p0), (.long p1), (.long p2), (.long p3), (.int p4)] ∧ Z.Warmed39 U.vm ∧ U.heap = h0) (fun _ _ _ _ _ => True) (fun _ U o U' => ∃ v L, o = .returned v ∧ own_QL n0 v U'.heap L ∧ FrameEnd U o U' L room_1.cells room_1.slots) := by
  rcases own_m p0 with ⟨m0, hm0, hn0⟩
  rcases own_m p1 with ⟨m1, hm1, hn1⟩
  rcases own_m p2 with ⟨m2, hm2, hn2⟩
  rcases own_m p3 with ⟨m3, hm3, hn3⟩
  rcases own_s3 ((p4.toUInt32 >>> ((2 : Int32) &&& 31).toUInt32).toInt32) with hkk | hkk | hkk | hkk
  · rcases own_s1 p4 with hk1 | hk1
    · rcases own_two64 m0 m2 with ⟨hi1, hi2⟩ | ⟨hi1, hi2⟩
      · rcases own_s2 p4 with hk2 | hk2
        · rcases own_two64 m1 m3 with ⟨ho1, ho2⟩ | ⟨ho1, ho2⟩
          · exact rm0_0 l Z a0 hw ws p0 p1 p2 p3 p4 m0 m1 m2 m3 h0 n0 Z0 hm0 hm1 hk1 hm2 hk2 hm3 hn0 hn1 hn2 hn3 hkk hi1 ho1 hi2 ho2
          · exact rm0_1 l Z a0 hw ws p0 p1 p2 p3 p4 m0 m1 m2 m3 h0 n0 Z0 hm0 hm1 hk1 hm2 hk2 hm3 hn0 hn1 hn2 hn3 hkk hi1 ho1 hi2 ho2
        · exact rm0_2 l Z a0 hw ws p0 p1 p2 p3 p4 m0 m1 m2 h0 n0 Z0 hm0 hm1 hk1 hm2 hk2 hn0 hn1 hn2 hkk hi1 hi2
      · rcases own_s2 p4 with hk2 | hk2
        · rcases own_two64 m1 m3 with ⟨ho1, ho2⟩ | ⟨ho1, ho2⟩
          · exact rm0_3 l Z a0 hw ws p0 p1 p2 p3 p4 m0 m1 m2 m3 h0 n0 Z0 hm0 hm1 hk1 hm2 hk2 hm3 hn0 hn1 hn2 hn3 hkk hi1 hi2
          · exact rm0_4 l Z a0 hw ws p0 p1 p2 p3 p4 m0 m1 m2 m3 h0 n0 Z0 hm0 hm1 hk1 hm2 hk2 hm3 hn0 hn1 hn2 hn3 hkk hi1 hi2
        · exact rm0_5 l Z a0 hw ws p0 p1 p2 p3 p4 m0 m1 m2 h0 n0 Z0 hm0 hm1 hk1 hm2 hk2 hn0 hn1 hn2 hkk hi1 hi2
    · rcases own_s2 p4 with hk2 | hk2
      · rcases own_two64 m1 m3 with ⟨ho1, ho2⟩ | ⟨ho1, ho2⟩
        · exact rm0_6 l Z a0 hw ws p0 p1 p2 p3 p4 m0 m1 m3 h0 n0 Z0 hm0 hm1 hk1 hk2 hm3 hn0 hn1 hn3 hkk ho1 ho2
        · exact rm0_7 l Z a0 hw ws p0 p1 p2 p3 p4 m0 m1 m3 h0 n0 Z0 hm0 hm1 hk1 hk2 hm3 hn0 hn1 hn3 hkk ho1 ho2
      · exact rm0_8 l Z a0 hw ws p0 p1 p2 p3 p4 m0 m1 h0 n0 Z0 hm0 hm1 hk1 hk2 hn0 hn1 hkk
  · rcases own_s1 p4 with hk1 | hk1
    · rcases own_s2 p4 with hk2 | hk2
      · exact rm0_9 l Z a0 hw ws p0 p1 p2 p3 p4 m0 m1 m2 m3 h0 n0 Z0 hm0 hm1 hk1 hm2 hk2 hm3 hn0 hn1 hn2 hn3 hkk
      · exact rm0_10 l Z a0 hw ws p0 p1 p2 p3 p4 m0 m1 m2 h0 n0 Z0 hm0 hm1 hk1 hm2 hk2 hn0 hn1 hn2 hkk
    · rcases own_s2 p4 with hk2 | hk2
      · exact rm0_11 l Z a0 hw ws p0 p1 p2 p3 p4 m0 m1 m3 h0 n0 Z0 hm0 hm1 hk1 hk2 hm3 hn0 hn1 hn3 hkk
      · exact rm0_12 l Z a0 hw ws p0 p1 p2 p3 p4 m0 m1 h0 n0 Z0 hm0 hm1 hk1 hk2 hn0 hn1 hkk
  · rcases own_s1 p4 with hk1 | hk1
    · rcases own_s2 p4 with hk2 | hk2
      · exact rm0_13 l Z a0 hw ws p0 p1 p2 p3 p4 w_LongCache_cache m0 m1 m2 m3 h0 n0 Z0 hm0 hm1 hk1 hm2 hk2 hm3 hn0 hn1 hn2 hn3 hkk S_LongCache_cache CA_w_LongCache_cache
      · exact rm0_14 l Z a0 hw ws p0 p1 p2 p3 p4 w_LongCache_cache m0 m1 m2 h0 n0 Z0 hm0 hm1 hk1 hm2 hk2 hn0 hn1 hn2 hkk S_LongCache_cache CA_w_LongCache_cache
    · rcases own_s2 p4 with hk2 | hk2
      · exact rm0_15 l Z a0 hw ws p0 p1 p2 p3 p4 w_LongCache_cache m0 m1 m3 h0 n0 Z0 hm0 hm1 hk1 hk2 hm3 hn0 hn1 hn3 hkk S_LongCache_cache CA_w_LongCache_cache
      · exact rm0_16 l Z a0 hw ws p0 p1 p2 p3 p4 w_LongCache_cache m0 m1 h0 n0 Z0 hm0 hm1 hk1 hk2 hn0 hn1 hkk S_LongCache_cache CA_w_LongCache_cache
  · rcases own_s1 p4 with hk1 | hk1
    · rcases own_s2 p4 with hk2 | hk2
      · exact rm0_17 l Z a0 hw ws p0 p1 p2 p3 p4 m0 m1 m2 m3 h0 n0 Z0 hm0 hm1 hk1 hm2 hk2 hm3 hn0 hn1 hn2 hn3 hkk
      · exact rm0_18 l Z a0 hw ws p0 p1 p2 p3 p4 m0 m1 m2 h0 n0 Z0 hm0 hm1 hk1 hm2 hk2 hn0 hn1 hn2 hkk
    · rcases own_s2 p4 with hk2 | hk2
      · exact rm0_19 l Z a0 hw ws p0 p1 p2 p3 p4 m0 m1 m3 h0 n0 Z0 hm0 hm1 hk1 hk2 hm3 hn0 hn1 hn3 hkk
      · exact rm0_20 l Z a0 hw ws p0 p1 p2 p3 p4 m0 m1 h0 n0 Z0 hm0 hm1 hk1 hk2 hn0 hn1 hkk
set_option maxRecDepth 65536 in
set_option maxHeartbeats 40000000 in
theorem comes_1 {Post : Tables → Env → Array Value → State → Outcome → State → Prop} (hpost : ∀ tb e args s v u, (limb_1_1.after args s (.returned v) u = true ∧ limb_1_2.after args s (.returned v) u = true ∧ True) → FrameEnd s (.returned v) u (Jvm.fieldLocs frame_1_writes args s ++ Jvm.arrayLocs frame_1_arrays args s ++ Jvm.staticLocs frame_1_statics s) 16 128 → Post tb e args s (.returned v) u) :
    ArmFor flags0 classFile x code maxLocals ret World_1 tables_1 room_1 Calls_1 rest_1 Pre_1 Post := by
  intro l hfl _ _ p e ha hc hk s m args below hf hA hF happ hP
  obtain ⟨hcalls, hrest, hpre⟩ := hP
  obtain ⟨-, -, -, hnamed, -, -, -, hat⟩ := (Spec.applies_iff hf).mp happ
  obtain ⟨hg, hn⟩ := and_e (Cond.before_iff.mp (show (Jvm.Cond.and given_1 narrow_1).before args s = true from hpre))
  obtain ⟨g0, g0r⟩ := and_e hg
  obtain ⟨g1, g1r⟩ := and_e g0r
  obtain ⟨g2, g2r⟩ := and_e g1r
  obtain ⟨g3, g3r⟩ := and_e g2r
  obtain ⟨g4, g4r⟩ := and_e g3r
  obtain ⟨v0, v1, v2, v3, v4, rfl⟩ : ∃ v0 v1 v2 v3 v4 : Value, args = #[v0, v1, v2, v3, v4] := by
    have hs : args.size = 5 := by simpa [Cond.value, given_1] using g0
    obtain ⟨L⟩ := args
    match L, hs with
    | [v0, v1, v2, v3, v4], _ => exact ⟨v0, v1, v2, v3, v4, rfl⟩
  have hw := fun d (hd : d ∈ tables_1) => atoms_spec (ws := Jvm.Cond.code x code maxLocals ret :: tables_1) hat d (List.mem_cons_of_mem _ hd)
  have hfit : Fit s := fun {y c} hc i hi => by
    obtain ⟨ha, rfl⟩ := Array.getElem?_eq_some_iff.mp hc
    have q := List.all_eq_true.mp ((Array.all_eq_true_iff_forall_mem.mp hF) _ (Array.getElem_mem ha)) i (List.mem_range.mpr hi)
    simpa [Array.getElem?_eq_getElem hi] using q
  obtain ⟨p0, ei0⟩ := isL_v g1
  obtain rfl : v0 = (.long p0) := Option.some.inj ei0
  obtain ⟨p1, ei1⟩ := isL_v g2
  obtain rfl : v1 = (.long p1) := Option.some.inj ei1
  obtain ⟨p2, ei2⟩ := isL_v g3
  obtain rfl : v2 = (.long p2) := Option.some.inj ei2
  obtain ⟨p3, ei3⟩ := isL_v g4
  obtain rfl : v3 = (.long p3) := Option.some.inj ei3
  obtain ⟨p4, ei4⟩ := is_v g4r
  obtain rfl : v4 = (.int p4) := Option.some.inj ei4
  obtain ⟨hsets, hown0⟩ := atoms_of _ (rest_1_c_eq ▸ (show rest_1_c.before _ s = true from hrest))
  obtain ⟨w_LongCache_cache, ev_w_LongCache_cache⟩ := arr_v (Cond.before_iff.mp (hsets _ (List.mem_of_getElem? (i := 2) rfl)))
  have S_LongCache_cache : Sta s s.heap "java/lang/Long$LongCache" "cache" "[Ljava/lang/Long;" (.ref w_LongCache_cache) := Sta.start ev_w_LongCache_cache (Or.inl (hsets _ (List.mem_of_getElem? (i := 1) rfl)))
  obtain ⟨cl_w_LongCache_cache, Ar_w_LongCache_cache⟩ := Arr.start ev_w_LongCache_cache (Cond.before_iff.mp (hsets _ (List.mem_of_getElem? (i := 2) rfl)))
  obtain ⟨q_w_LongCache_cache, l_w_LongCache_cache⟩ := own_len ev_w_LongCache_cache Ar_w_LongCache_cache (own_eqv (Cond.before_iff.mp (hsets _ (List.mem_of_getElem? (i := 4) rfl))) (Term.int_eval _) (Or.inr ⟨_, rfl⟩))
  have CA_w_LongCache_cache : own_Cache s s.heap w_LongCache_cache "java/lang/Long" := own_cache_start (fun _ => ev_w_LongCache_cache) Ar_w_LongCache_cache (own_size256 q_w_LongCache_cache l_w_LongCache_cache) (Cond.before_iff.mp (hsets _ (List.mem_of_getElem? (i := 5) rfl)))
  obtain ⟨n, o, h1, h2, h3, _, L, rfl, ⟨rfl, N⟩, hq⟩ := rm0 l s _ hw tables_1 p0 p1 p2 p3 p4 w_LongCache_cache s.heap s.heap.size (Nat.le_refl _) S_LongCache_cache CA_w_LongCache_cache p e ha hc hk s m _ below hf ((Spec.applies_iff_loose hf).mp happ).1 ⟨rfl, State.Warmed39.refl s, rfl⟩ trivial
  refine ⟨n, _, h1, h2, h3, hpost _ _ _ _ _ _ ⟨Cond.after_iff.mpr rfl, Cond.after_iff.mpr (eq_i res_at (Term.int_eval (1)) rfl), trivial⟩ ⟨hq.1, hq.2.1, (hq.2.2.sift fun y hy => Or.inr (N y hy)).mono (by decide) (by decide)⟩⟩
theorem main_1_1 : Claimed_1_1 := comes_1 fun _ _ _ _ _ _ h hF => ⟨h.1, hF⟩
theorem main_1_2 : Claimed_1_2 := comes_1 fun _ _ _ _ _ _ h hF => ⟨h.2.1, hF⟩
end Jvm.Pilot.@@N@@
namespace Jvm.Pilot.@@N@@
open Jvm Jvm.ClassFile Sem Op Lib Jvm.Free Jvm.Stand Jvm.Pilot.@@N@@.Jvm.D
/-! MADE BY PROGRAM (witnessworld.py) out of the Statement's table words and the real class files: 16 classes; the members and pool entries that the words name. The judged class is class 1, her method 1. -/
namespace start1
open Jvm.ClassFile
def u (s : String) : CpInfo := .utf8 (stringToUtf16 s)
/-- a pool by its gaps: so many unusable entries, then the entry; so many at the end -/
def gap : Nat → List CpInfo → List CpInfo
  | 0, r => r
  | n + 1, r => .unusable :: gap n r
def poolList (es : List (Nat × CpInfo)) (last : Nat) : List CpInfo := es.foldr (fun e r => gap e.1 (e.2 :: r)) (gap last [])
def pool (es : List (Nat × CpInfo)) (last : Nat) : Array CpInfo := ⟨poolList es last⟩
def fileOf (pool : Array CpInfo) (this : Nat) (attrs : Array Attribute := #[]) (ms : Array MethodInfo := #[]) (fl : Nat := 33) (sup : Nat := 0) (ifs : Array Nat := #[]) (fds : Array FieldInfo := #[]) : ClassFile where
  minorVersion := 0
  majorVersion := 65
  constantPool := pool
  accessFlags := fl
  thisClass := this
  superClass := sup
  interfaces := ifs
  fields := fds
  methods := ms
  attributes := attrs
def plain (name : String) (sup : Option ClassId) : Class where
  name := name
  kind := .ordinary
  loader := none
  accessFlags := 33
  super := sup
  interfaces := #[]
  cf := none
  fields := #[]
  methods := #[]
  instanceTypes := #[]
  staticTypes := #[]
  resolved := #[]
  callSites := []
  init := .initialized
  statics := none
  mirror := none

def pool0 : Array CpInfo := pool [(5, u "<init>"), (0, u "()V"), (1, .class_ 10), (1, u "java/lang/Object")] 113

def k0c0 : Code := { maxStack := 0, maxLocals := 1, code := object_method_1_code, exceptionTable := #[], attributes := #[] }
def k0m0 : Method := { name := "<init>", desc := "()V", sig := { parameters := [], returnType := none }, accessFlags := 1, code := some k0c0 }
/-- java/lang/Object -/
def k0 : Class := { plain "java/lang/Object" none with
  accessFlags := 33
  interfaces := #[]
  cf := some (fileOf pool0 8 #[] #[{ accessFlags := 1, nameIndex := 5, descriptorIndex := 6, attributes := #[] }] 33 0 #[] #[])
  fields := #[]
  methods := #[k0m0]
  instanceTypes := #[]
  staticTypes := #[]
  resolved := Array.replicate 124 none
  statics := none }

def pool1 : Array CpInfo := pool [(2, .class_ 4), (1, u "java/lang/Object"), (0, u "<init>"), (0, u "()V"), (0, .long 9223372036854775807), (1, .class_ 10), (0, u "com/example/allotd/allotd/engine/Tokens"), (0, .methodref 9 12), (0, .nameAndType 5 13), (0, u "(JJ)V"), (0, .methodref 9 15), (0, .nameAndType 16 17), (0, u "equals"), (0, u "(Ljava/lang/Object;)Z"), (0, .methodref 19 20), (0, .class_ 21), (0, .nameAndType 22 23), (0, u "java/lang/Long"), (0, u "valueOf"), (0, u "(J)Ljava/lang/Long;"), (0, .class_ 25), (0, u "com/example/allotd/allotd/engine/TokensEqualsPinLaw"), (2, u "law"), (0, u "(JJJJI)Z")] 3

def k1m0 : Method := { name := "<init>", desc := "()V", sig := { parameters := [], returnType := none }, accessFlags := 1, code := none }
def k1c1 : Code := { maxStack := 6, maxLocals := 21, code := code, exceptionTable := #[], attributes := #[] }
def k1m1 : Method := { name := "law", desc := "(JJJJI)Z", sig := { parameters := [.long, .long, .long, .long, .int], returnType := some .boolean }, accessFlags := 9, code := some k1c1 }
/-- com/example/allotd/allotd/engine/TokensEqualsPinLaw -/
def k1 : Class := { plain "com/example/allotd/allotd/engine/TokensEqualsPinLaw" (some 0) with
  accessFlags := 49
  interfaces := #[]
  cf := some (fileOf pool1 24 #[] #[{ accessFlags := 1, nameIndex := 5, descriptorIndex := 6, attributes := #[] }, { accessFlags := 9, nameIndex := 28, descriptorIndex := 29, attributes := #[] }] 49 2 #[] #[])
  fields := #[]
  methods := #[k1m0, k1m1]
  instanceTypes := #[]
  staticTypes := #[]
  resolved := Array.replicate 33 none
  statics := none }

def pool2 : Array CpInfo := pool [(1, .methodref 2 3), (0, .class_ 4), (0, .nameAndType 5 6), (0, u "java/lang/Object"), (0, u "<init>"), (0, u "()V"), (9, .fieldref 17 18), (0, .class_ 19), (0, .nameAndType 20 21), (0, u "com/example/allotd/allotd/engine/Tokens"), (0, u "input"), (0, u "J"), (0, .fieldref 17 23), (0, .nameAndType 24 21), (0, u "output"), (13, u "(JJ)V"), (4, u "equals"), (0, u "(Ljava/lang/Object;)Z")] 23

def k2c0 : Code := { maxStack := 6, maxLocals := 5, code := prog_21_method_1_code, exceptionTable := #[], attributes := #[] }
def k2m0 : Method := { name := "<init>", desc := "(JJ)V", sig := { parameters := [.long, .long], returnType := none }, accessFlags := 1, code := some k2c0 }
def k2c1 : Code := { maxStack := 4, maxLocals := 3, code := prog_21_method_4_code, exceptionTable := #[], attributes := #[] }
def k2m1 : Method := { name := "equals", desc := "(Ljava/lang/Object;)Z", sig := { parameters := [(.object "java/lang/Object")], returnType := some .boolean }, accessFlags := 1, code := some k2c1 }
/-- com/example/allotd/allotd/engine/Tokens -/
def k2 : Class := { plain "com/example/allotd/allotd/engine/Tokens" (some 0) with
  accessFlags := 33
  interfaces := #[]
  cf := some (fileOf pool2 17 #[] #[{ accessFlags := 1, nameIndex := 5, descriptorIndex := 38, attributes := #[] }, { accessFlags := 1, nameIndex := 43, descriptorIndex := 44, attributes := #[] }] 33 2 #[] #[{ accessFlags := 18, nameIndex := 20, descriptorIndex := 21, attributes := #[] }, { accessFlags := 18, nameIndex := 24, descriptorIndex := 21, attributes := #[] }])
  fields := #[{ name := "input", type := .long, accessFlags := 18, slot := 0, constantValue := 0 }, { name := "output", type := .long, accessFlags := 18, slot := 1, constantValue := 0 }]
  methods := #[k2m0, k2m1]
  instanceTypes := #[.long, .long]
  staticTypes := #[]
  resolved := Array.replicate 68 none
  statics := none }

def pool3 : Array CpInfo := pool [(1, .class_ 2), (0, u "java/io/Serializable"), (0, .class_ 4), (0, u "java/lang/Object")] 2

/-- java/io/Serializable -/
def k3 : Class := { plain "java/io/Serializable" (some 0) with
  accessFlags := 1537
  interfaces := #[]
  cf := some (fileOf pool3 1 #[] #[] 1537 3 #[] #[])
  fields := #[]
  methods := #[]
  instanceTypes := #[]
  staticTypes := #[]
  resolved := Array.replicate 7 none
  statics := none }

def pool4 : Array CpInfo := pool [(1, .methodref 2 3), (0, .class_ 4), (0, .nameAndType 5 6), (0, u "java/lang/Object"), (0, u "<init>"), (0, u "()V"), (1, .class_ 10), (1, u "java/lang/Number"), (2, .class_ 14), (0, u "java/io/Serializable"), (0, u "serialVersionUID"), (0, u "J")] 20

def k4c0 : Code := { maxStack := 1, maxLocals := 1, code := jdk_18_method_1_code, exceptionTable := #[], attributes := #[] }
def k4m0 : Method := { name := "<init>", desc := "()V", sig := { parameters := [], returnType := none }, accessFlags := 1, code := some k4c0 }
/-- java/lang/Number -/
def k4 : Class := { plain "java/lang/Number" (some 0) with
  accessFlags := 1057
  interfaces := #[3]
  cf := some (fileOf pool4 8 #[] #[{ accessFlags := 1, nameIndex := 5, descriptorIndex := 6, attributes := #[] }] 1057 2 #[13] #[{ accessFlags := 26, nameIndex := 15, descriptorIndex := 16, attributes := #[] }])
  fields := #[{ name := "serialVersionUID", type := .long, accessFlags := 26, slot := 0, constantValue := 0 }]
  methods := #[k4m0]
  instanceTypes := #[]
  staticTypes := #[.long]
  resolved := Array.replicate 37 none
  statics := none }

def pool5 : Array CpInfo := pool [(1, .class_ 2), (0, u "java/lang/Comparable"), (0, .class_ 4), (0, u "java/lang/Object")] 7

/-- java/lang/Comparable -/
def k5 : Class := { plain "java/lang/Comparable" (some 0) with
  accessFlags := 1537
  interfaces := #[]
  cf := some (fileOf pool5 1 #[] #[] 1537 3 #[] #[])
  fields := #[]
  methods := #[]
  instanceTypes := #[]
  staticTypes := #[]
  resolved := Array.replicate 12 none
  statics := none }

def pool6 : Array CpInfo := pool [(1, .class_ 2), (0, u "java/lang/constant/Constable"), (0, .class_ 4), (0, u "java/lang/Object")] 6

/-- java/lang/constant/Constable -/
def k6 : Class := { plain "java/lang/constant/Constable" (some 0) with
  accessFlags := 1537
  interfaces := #[]
  cf := some (fileOf pool6 1 #[] #[] 1537 3 #[] #[])
  fields := #[]
  methods := #[]
  instanceTypes := #[]
  staticTypes := #[]
  resolved := Array.replicate 11 none
  statics := none }

def pool7 : Array CpInfo := pool [(1, .class_ 2), (0, u "java/lang/constant/ConstantDesc"), (0, .class_ 4), (0, u "java/lang/Object")] 32

/-- java/lang/constant/ConstantDesc -/
def k7 : Class := { plain "java/lang/constant/ConstantDesc" (some 0) with
  accessFlags := 1537
  interfaces := #[]
  cf := some (fileOf pool7 1 #[] #[] 1537 3 #[] #[])
  fields := #[]
  methods := #[]
  instanceTypes := #[]
  staticTypes := #[]
  resolved := Array.replicate 37 none
  statics := none }

def pool8 : Array CpInfo := pool [(1, .class_ 2), (0, u "java/lang/Long"), (55, .nameAndType 59 60), (0, u "<init>"), (0, u "()V"), (24, u "valueOf"), (143, u "(J)Ljava/lang/Long;"), (0, .long 18446744073709551488), (1, .long 127), (1, .fieldref 235 236), (0, .class_ 237), (0, .nameAndType 238 239), (0, u "java/lang/Long$LongCache"), (0, u "cache"), (0, u "[Ljava/lang/Long;"), (0, .methodref 1 241), (0, .nameAndType 59 242), (0, u "(J)V"), (27, .methodref 271 58), (0, .class_ 272), (0, u "java/lang/Number"), (0, .fieldref 1 274), (0, .nameAndType 275 276), (0, u "value"), (0, u "J"), (84, u "TYPE"), (0, u "Ljava/lang/Class;"), (0, .class_ 364), (0, u "java/lang/Comparable"), (0, .class_ 366), (0, u "java/lang/constant/Constable"), (0, .class_ 368), (0, u "java/lang/constant/ConstantDesc"), (0, u "MIN_VALUE"), (1, u "MAX_VALUE"), (4, u "SIZE"), (0, u "I"), (1, u "BYTES"), (1, u "serialVersionUID")] 142

def k8c0 : Code := { maxStack := 4, maxLocals := 3, code := jdk_35_method_24_code, exceptionTable := #[], attributes := #[] }
def k8m0 : Method := { name := "valueOf", desc := "(J)Ljava/lang/Long;", sig := { parameters := [.long], returnType := some (.object "java/lang/Long") }, accessFlags := 9, code := some k8c0 }
def k8c1 : Code := { maxStack := 3, maxLocals := 3, code := jdk_35_method_26_code, exceptionTable := #[], attributes := #[] }
def k8m1 : Method := { name := "<init>", desc := "(J)V", sig := { parameters := [.long], returnType := none }, accessFlags := 1, code := some k8c1 }
/-- java/lang/Long -/
def k8 : Class := { plain "java/lang/Long" (some 4) with
  accessFlags := 49
  interfaces := #[5, 6, 7]
  cf := some (fileOf pool8 1 #[.nestMembers #[235]] #[{ accessFlags := 9, nameIndex := 85, descriptorIndex := 229, attributes := #[] }, { accessFlags := 1, nameIndex := 59, descriptorIndex := 242, attributes := #[] }] 49 271 #[363, 365, 367] #[{ accessFlags := 25, nameIndex := 369, descriptorIndex := 276, attributes := #[] }, { accessFlags := 25, nameIndex := 371, descriptorIndex := 276, attributes := #[] }, { accessFlags := 25, nameIndex := 361, descriptorIndex := 362, attributes := #[] }, { accessFlags := 18, nameIndex := 275, descriptorIndex := 276, attributes := #[] }, { accessFlags := 25, nameIndex := 376, descriptorIndex := 377, attributes := #[] }, { accessFlags := 25, nameIndex := 379, descriptorIndex := 377, attributes := #[] }, { accessFlags := 26, nameIndex := 381, descriptorIndex := 276, attributes := #[] }])
  fields := #[{ name := "MIN_VALUE", type := .long, accessFlags := 25, slot := 0, constantValue := 0 }, { name := "MAX_VALUE", type := .long, accessFlags := 25, slot := 1, constantValue := 0 }, { name := "TYPE", type := (.object "java/lang/Class"), accessFlags := 25, slot := 2, constantValue := 0 }, { name := "value", type := .long, accessFlags := 18, slot := 0, constantValue := 0 }, { name := "SIZE", type := .int, accessFlags := 25, slot := 3, constantValue := 0 }, { name := "BYTES", type := .int, accessFlags := 25, slot := 4, constantValue := 0 }, { name := "serialVersionUID", type := .long, accessFlags := 26, slot := 5, constantValue := 0 }]
  methods := #[k8m0, k8m1]
  instanceTypes := #[.long]
  staticTypes := #[.long, .long, (.object "java/lang/Class"), .int, .int, .long]
  resolved := Array.replicate 524 none
  statics := none }

def pool9 : Array CpInfo := pool [(2, .class_ 4), (1, u "java/lang/Object"), (0, u "<init>"), (0, u "()V"), (0, .class_ 8), (0, u "java/lang/Long"), (7, .class_ 18), (1, u "java/lang/Long$LongCache"), (0, u "$assertionsDisabled"), (0, u "Z"), (8, u "archivedCache"), (0, u "[Ljava/lang/Long;"), (7, u "cache")] 24

def k9m0 : Method := { name := "<init>", desc := "()V", sig := { parameters := [], returnType := none }, accessFlags := 2, code := none }
/-- java/lang/Long$LongCache -/
def k9 : Class := { plain "java/lang/Long$LongCache" (some 0) with
  accessFlags := 48
  interfaces := #[]
  cf := some (fileOf pool9 16 #[.nestHost 7] #[{ accessFlags := 2, nameIndex := 5, descriptorIndex := 6, attributes := #[] }] 48 2 #[] #[{ accessFlags := 24, nameIndex := 38, descriptorIndex := 30, attributes := #[] }, { accessFlags := 8, nameIndex := 29, descriptorIndex := 30, attributes := #[] }, { accessFlags := 4120, nameIndex := 19, descriptorIndex := 20, attributes := #[] }])
  fields := #[{ name := "cache", type := (.array (.object "java/lang/Long")), accessFlags := 24, slot := 0, constantValue := 0 }, { name := "archivedCache", type := (.array (.object "java/lang/Long")), accessFlags := 8, slot := 1, constantValue := 0 }, { name := "$assertionsDisabled", type := .boolean, accessFlags := 4120, slot := 2, constantValue := 0 }]
  methods := #[k9m0]
  instanceTypes := #[]
  staticTypes := #[(.array (.object "java/lang/Long")), (.array (.object "java/lang/Long")), .boolean]
  resolved := Array.replicate 63 none
  statics := some 0 }

def pool10 : Array CpInfo := pool [(1, u "java/lang/Cloneable"), (0, .class_ 1), (0, u "java/lang/Object"), (0, .class_ 3)] 3

/-- java/lang/Cloneable -/
def k10 : Class := { plain "java/lang/Cloneable" (some 0) with
  accessFlags := 1537
  interfaces := #[]
  cf := some (fileOf pool10 2 #[] #[] 1537 4 #[] #[])
  fields := #[]
  methods := #[]
  instanceTypes := #[]
  staticTypes := #[]
  resolved := Array.replicate 8 none
  statics := none }

/-- the primitive byte -/
def k11 : Class := { plain "byte" none with kind := .primitive 'B', accessFlags := 0x411 }
/-- [B -/
def k12 : Class := { plain "[B" (some 0) with kind := .array 11 .byte, interfaces := #[10, 3], accessFlags := 1041 }

/-- the primitive int -/
def k13 : Class := { plain "int" none with kind := .primitive 'I', accessFlags := 0x411 }
/-- [I -/
def k14 : Class := { plain "[I" (some 0) with kind := .array 13 .int, interfaces := #[10, 3], accessFlags := 1041 }

/-- [Ljava/lang/Long; -/
def k15 : Class := { plain "[Ljava/lang/Long;" (some 0) with kind := .array 8 (.object "java/lang/Long"), interfaces := #[10, 3], accessFlags := 1041 }

def heap : Heap := #[{ cls := 9, slots := #[.ref 1, .null, .int 0], vm := .statics 9 },
  { cls := 15, slots := #[.ref 2, .ref 3, .ref 4, .ref 5, .ref 6, .ref 7, .ref 8, .ref 9, .ref 10, .ref 11, .ref 12, .ref 13, .ref 14, .ref 15, .ref 16, .ref 17, .ref 18, .ref 19, .ref 20, .ref 21, .ref 22, .ref 23, .ref 24, .ref 25, .ref 26, .ref 27, .ref 28, .ref 29, .ref 30, .ref 31, .ref 32, .ref 33, .ref 34, .ref 35, .ref 36, .ref 37, .ref 38, .ref 39, .ref 40, .ref 41, .ref 42, .ref 43, .ref 44, .ref 45, .ref 46, .ref 47, .ref 48, .ref 49, .ref 50, .ref 51, .ref 52, .ref 53, .ref 54, .ref 55, .ref 56, .ref 57, .ref 58, .ref 59, .ref 60, .ref 61, .ref 62, .ref 63, .ref 64, .ref 65, .ref 66, .ref 67, .ref 68, .ref 69, .ref 70, .ref 71, .ref 72, .ref 73, .ref 74, .ref 75, .ref 76, .ref 77, .ref 78, .ref 79, .ref 80, .ref 81, .ref 82, .ref 83, .ref 84, .ref 85, .ref 86, .ref 87, .ref 88, .ref 89, .ref 90, .ref 91, .ref 92, .ref 93, .ref 94, .ref 95, .ref 96, .ref 97, .ref 98, .ref 99, .ref 100, .ref 101, .ref 102, .ref 103, .ref 104, .ref 105, .ref 106, .ref 107, .ref 108, .ref 109, .ref 110, .ref 111, .ref 112, .ref 113, .ref 114, .ref 115, .ref 116, .ref 117, .ref 118, .ref 119, .ref 120, .ref 121, .ref 122, .ref 123, .ref 124, .ref 125, .ref 126, .ref 127, .ref 128, .ref 129, .ref 130, .ref 131, .ref 132, .ref 133, .ref 134, .ref 135, .ref 136, .ref 137, .ref 138, .ref 139, .ref 140, .ref 141, .ref 142, .ref 143, .ref 144, .ref 145, .ref 146, .ref 147, .ref 148, .ref 149, .ref 150, .ref 151, .ref 152, .ref 153, .ref 154, .ref 155, .ref 156, .ref 157, .ref 158, .ref 159, .ref 160, .ref 161, .ref 162, .ref 163, .ref 164, .ref 165, .ref 166, .ref 167, .ref 168, .ref 169, .ref 170, .ref 171, .ref 172, .ref 173, .ref 174, .ref 175, .ref 176, .ref 177, .ref 178, .ref 179, .ref 180, .ref 181, .ref 182, .ref 183, .ref 184, .ref 185, .ref 186, .ref 187, .ref 188, .ref 189, .ref 190, .ref 191, .ref 192, .ref 193, .ref 194, .ref 195, .ref 196, .ref 197, .ref 198, .ref 199, .ref 200, .ref 201, .ref 202, .ref 203, .ref 204, .ref 205, .ref 206, .ref 207, .ref 208, .ref 209, .ref 210, .ref 211, .ref 212, .ref 213, .ref 214, .ref 215, .ref 216, .ref 217, .ref 218, .ref 219, .ref 220, .ref 221, .ref 222, .ref 223, .ref 224, .ref 225, .ref 226, .ref 227, .ref 228, .ref 229, .ref 230, .ref 231, .ref 232, .ref 233, .ref 234, .ref 235, .ref 236, .ref 237, .ref 238, .ref 239, .ref 240, .ref 241, .ref 242, .ref 243, .ref 244, .ref 245, .ref 246, .ref 247, .ref 248, .ref 249, .ref 250, .ref 251, .ref 252, .ref 253, .ref 254, .ref 255, .ref 256, .ref 257], vm := .none },
  { cls := 8, slots := #[.long (-128)], vm := .none },
  { cls := 8, slots := #[.long (-127)], vm := .none },
  { cls := 8, slots := #[.long (-126)], vm := .none },
  { cls := 8, slots := #[.long (-125)], vm := .none },
  { cls := 8, slots := #[.long (-124)], vm := .none },
  { cls := 8, slots := #[.long (-123)], vm := .none },
  { cls := 8, slots := #[.long (-122)], vm := .none },
  { cls := 8, slots := #[.long (-121)], vm := .none },
  { cls := 8, slots := #[.long (-120)], vm := .none },
  { cls := 8, slots := #[.long (-119)], vm := .none },
  { cls := 8, slots := #[.long (-118)], vm := .none },
  { cls := 8, slots := #[.long (-117)], vm := .none },
  { cls := 8, slots := #[.long (-116)], vm := .none },
  { cls := 8, slots := #[.long (-115)], vm := .none },
  { cls := 8, slots := #[.long (-114)], vm := .none },
  { cls := 8, slots := #[.long (-113)], vm := .none },
  { cls := 8, slots := #[.long (-112)], vm := .none },
  { cls := 8, slots := #[.long (-111)], vm := .none },
  { cls := 8, slots := #[.long (-110)], vm := .none },
  { cls := 8, slots := #[.long (-109)], vm := .none },
  { cls := 8, slots := #[.long (-108)], vm := .none },
  { cls := 8, slots := #[.long (-107)], vm := .none },
  { cls := 8, slots := #[.long (-106)], vm := .none },
  { cls := 8, slots := #[.long (-105)], vm := .none },
  { cls := 8, slots := #[.long (-104)], vm := .none },
  { cls := 8, slots := #[.long (-103)], vm := .none },
  { cls := 8, slots := #[.long (-102)], vm := .none },
  { cls := 8, slots := #[.long (-101)], vm := .none },
  { cls := 8, slots := #[.long (-100)], vm := .none },
  { cls := 8, slots := #[.long (-99)], vm := .none },
  { cls := 8, slots := #[.long (-98)], vm := .none },
  { cls := 8, slots := #[.long (-97)], vm := .none },
  { cls := 8, slots := #[.long (-96)], vm := .none },
  { cls := 8, slots := #[.long (-95)], vm := .none },
  { cls := 8, slots := #[.long (-94)], vm := .none },
  { cls := 8, slots := #[.long (-93)], vm := .none },
  { cls := 8, slots := #[.long (-92)], vm := .none },
  { cls := 8, slots := #[.long (-91)], vm := .none },
  { cls := 8, slots := #[.long (-90)], vm := .none },
  { cls := 8, slots := #[.long (-89)], vm := .none },
  { cls := 8, slots := #[.long (-88)], vm := .none },
  { cls := 8, slots := #[.long (-87)], vm := .none },
  { cls := 8, slots := #[.long (-86)], vm := .none },
  { cls := 8, slots := #[.long (-85)], vm := .none },
  { cls := 8, slots := #[.long (-84)], vm := .none },
  { cls := 8, slots := #[.long (-83)], vm := .none },
  { cls := 8, slots := #[.long (-82)], vm := .none },
  { cls := 8, slots := #[.long (-81)], vm := .none },
  { cls := 8, slots := #[.long (-80)], vm := .none },
  { cls := 8, slots := #[.long (-79)], vm := .none },
  { cls := 8, slots := #[.long (-78)], vm := .none },
  { cls := 8, slots := #[.long (-77)], vm := .none },
  { cls := 8, slots := #[.long (-76)], vm := .none },
  { cls := 8, slots := #[.long (-75)], vm := .none },
  { cls := 8, slots := #[.long (-74)], vm := .none },
  { cls := 8, slots := #[.long (-73)], vm := .none },
  { cls := 8, slots := #[.long (-72)], vm := .none },
  { cls := 8, slots := #[.long (-71)], vm := .none },
  { cls := 8, slots := #[.long (-70)], vm := .none },
  { cls := 8, slots := #[.long (-69)], vm := .none },
  { cls := 8, slots := #[.long (-68)], vm := .none },
  { cls := 8, slots := #[.long (-67)], vm := .none },
  { cls := 8, slots := #[.long (-66)], vm := .none },
  { cls := 8, slots := #[.long (-65)], vm := .none },
  { cls := 8, slots := #[.long (-64)], vm := .none },
  { cls := 8, slots := #[.long (-63)], vm := .none },
  { cls := 8, slots := #[.long (-62)], vm := .none },
  { cls := 8, slots := #[.long (-61)], vm := .none },
  { cls := 8, slots := #[.long (-60)], vm := .none },
  { cls := 8, slots := #[.long (-59)], vm := .none },
  { cls := 8, slots := #[.long (-58)], vm := .none },
  { cls := 8, slots := #[.long (-57)], vm := .none },
  { cls := 8, slots := #[.long (-56)], vm := .none },
  { cls := 8, slots := #[.long (-55)], vm := .none },
  { cls := 8, slots := #[.long (-54)], vm := .none },
  { cls := 8, slots := #[.long (-53)], vm := .none },
  { cls := 8, slots := #[.long (-52)], vm := .none },
  { cls := 8, slots := #[.long (-51)], vm := .none },
  { cls := 8, slots := #[.long (-50)], vm := .none },
  { cls := 8, slots := #[.long (-49)], vm := .none },
  { cls := 8, slots := #[.long (-48)], vm := .none },
  { cls := 8, slots := #[.long (-47)], vm := .none },
  { cls := 8, slots := #[.long (-46)], vm := .none },
  { cls := 8, slots := #[.long (-45)], vm := .none },
  { cls := 8, slots := #[.long (-44)], vm := .none },
  { cls := 8, slots := #[.long (-43)], vm := .none },
  { cls := 8, slots := #[.long (-42)], vm := .none },
  { cls := 8, slots := #[.long (-41)], vm := .none },
  { cls := 8, slots := #[.long (-40)], vm := .none },
  { cls := 8, slots := #[.long (-39)], vm := .none },
  { cls := 8, slots := #[.long (-38)], vm := .none },
  { cls := 8, slots := #[.long (-37)], vm := .none },
  { cls := 8, slots := #[.long (-36)], vm := .none },
  { cls := 8, slots := #[.long (-35)], vm := .none },
  { cls := 8, slots := #[.long (-34)], vm := .none },
  { cls := 8, slots := #[.long (-33)], vm := .none },
  { cls := 8, slots := #[.long (-32)], vm := .none },
  { cls := 8, slots := #[.long (-31)], vm := .none },
  { cls := 8, slots := #[.long (-30)], vm := .none },
  { cls := 8, slots := #[.long (-29)], vm := .none },
  { cls := 8, slots := #[.long (-28)], vm := .none },
  { cls := 8, slots := #[.long (-27)], vm := .none },
  { cls := 8, slots := #[.long (-26)], vm := .none },
  { cls := 8, slots := #[.long (-25)], vm := .none },
  { cls := 8, slots := #[.long (-24)], vm := .none },
  { cls := 8, slots := #[.long (-23)], vm := .none },
  { cls := 8, slots := #[.long (-22)], vm := .none },
  { cls := 8, slots := #[.long (-21)], vm := .none },
  { cls := 8, slots := #[.long (-20)], vm := .none },
  { cls := 8, slots := #[.long (-19)], vm := .none },
  { cls := 8, slots := #[.long (-18)], vm := .none },
  { cls := 8, slots := #[.long (-17)], vm := .none },
  { cls := 8, slots := #[.long (-16)], vm := .none },
  { cls := 8, slots := #[.long (-15)], vm := .none },
  { cls := 8, slots := #[.long (-14)], vm := .none },
  { cls := 8, slots := #[.long (-13)], vm := .none },
  { cls := 8, slots := #[.long (-12)], vm := .none },
  { cls := 8, slots := #[.long (-11)], vm := .none },
  { cls := 8, slots := #[.long (-10)], vm := .none },
  { cls := 8, slots := #[.long (-9)], vm := .none },
  { cls := 8, slots := #[.long (-8)], vm := .none },
  { cls := 8, slots := #[.long (-7)], vm := .none },
  { cls := 8, slots := #[.long (-6)], vm := .none },
  { cls := 8, slots := #[.long (-5)], vm := .none },
  { cls := 8, slots := #[.long (-4)], vm := .none },
  { cls := 8, slots := #[.long (-3)], vm := .none },
  { cls := 8, slots := #[.long (-2)], vm := .none },
  { cls := 8, slots := #[.long (-1)], vm := .none },
  { cls := 8, slots := #[.long 0], vm := .none },
  { cls := 8, slots := #[.long 1], vm := .none },
  { cls := 8, slots := #[.long 2], vm := .none },
  { cls := 8, slots := #[.long 3], vm := .none },
  { cls := 8, slots := #[.long 4], vm := .none },
  { cls := 8, slots := #[.long 5], vm := .none },
  { cls := 8, slots := #[.long 6], vm := .none },
  { cls := 8, slots := #[.long 7], vm := .none },
  { cls := 8, slots := #[.long 8], vm := .none },
  { cls := 8, slots := #[.long 9], vm := .none },
  { cls := 8, slots := #[.long 10], vm := .none },
  { cls := 8, slots := #[.long 11], vm := .none },
  { cls := 8, slots := #[.long 12], vm := .none },
  { cls := 8, slots := #[.long 13], vm := .none },
  { cls := 8, slots := #[.long 14], vm := .none },
  { cls := 8, slots := #[.long 15], vm := .none },
  { cls := 8, slots := #[.long 16], vm := .none },
  { cls := 8, slots := #[.long 17], vm := .none },
  { cls := 8, slots := #[.long 18], vm := .none },
  { cls := 8, slots := #[.long 19], vm := .none },
  { cls := 8, slots := #[.long 20], vm := .none },
  { cls := 8, slots := #[.long 21], vm := .none },
  { cls := 8, slots := #[.long 22], vm := .none },
  { cls := 8, slots := #[.long 23], vm := .none },
  { cls := 8, slots := #[.long 24], vm := .none },
  { cls := 8, slots := #[.long 25], vm := .none },
  { cls := 8, slots := #[.long 26], vm := .none },
  { cls := 8, slots := #[.long 27], vm := .none },
  { cls := 8, slots := #[.long 28], vm := .none },
  { cls := 8, slots := #[.long 29], vm := .none },
  { cls := 8, slots := #[.long 30], vm := .none },
  { cls := 8, slots := #[.long 31], vm := .none },
  { cls := 8, slots := #[.long 32], vm := .none },
  { cls := 8, slots := #[.long 33], vm := .none },
  { cls := 8, slots := #[.long 34], vm := .none },
  { cls := 8, slots := #[.long 35], vm := .none },
  { cls := 8, slots := #[.long 36], vm := .none },
  { cls := 8, slots := #[.long 37], vm := .none },
  { cls := 8, slots := #[.long 38], vm := .none },
  { cls := 8, slots := #[.long 39], vm := .none },
  { cls := 8, slots := #[.long 40], vm := .none },
  { cls := 8, slots := #[.long 41], vm := .none },
  { cls := 8, slots := #[.long 42], vm := .none },
  { cls := 8, slots := #[.long 43], vm := .none },
  { cls := 8, slots := #[.long 44], vm := .none },
  { cls := 8, slots := #[.long 45], vm := .none },
  { cls := 8, slots := #[.long 46], vm := .none },
  { cls := 8, slots := #[.long 47], vm := .none },
  { cls := 8, slots := #[.long 48], vm := .none },
  { cls := 8, slots := #[.long 49], vm := .none },
  { cls := 8, slots := #[.long 50], vm := .none },
  { cls := 8, slots := #[.long 51], vm := .none },
  { cls := 8, slots := #[.long 52], vm := .none },
  { cls := 8, slots := #[.long 53], vm := .none },
  { cls := 8, slots := #[.long 54], vm := .none },
  { cls := 8, slots := #[.long 55], vm := .none },
  { cls := 8, slots := #[.long 56], vm := .none },
  { cls := 8, slots := #[.long 57], vm := .none },
  { cls := 8, slots := #[.long 58], vm := .none },
  { cls := 8, slots := #[.long 59], vm := .none },
  { cls := 8, slots := #[.long 60], vm := .none },
  { cls := 8, slots := #[.long 61], vm := .none },
  { cls := 8, slots := #[.long 62], vm := .none },
  { cls := 8, slots := #[.long 63], vm := .none },
  { cls := 8, slots := #[.long 64], vm := .none },
  { cls := 8, slots := #[.long 65], vm := .none },
  { cls := 8, slots := #[.long 66], vm := .none },
  { cls := 8, slots := #[.long 67], vm := .none },
  { cls := 8, slots := #[.long 68], vm := .none },
  { cls := 8, slots := #[.long 69], vm := .none },
  { cls := 8, slots := #[.long 70], vm := .none },
  { cls := 8, slots := #[.long 71], vm := .none },
  { cls := 8, slots := #[.long 72], vm := .none },
  { cls := 8, slots := #[.long 73], vm := .none },
  { cls := 8, slots := #[.long 74], vm := .none },
  { cls := 8, slots := #[.long 75], vm := .none },
  { cls := 8, slots := #[.long 76], vm := .none },
  { cls := 8, slots := #[.long 77], vm := .none },
  { cls := 8, slots := #[.long 78], vm := .none },
  { cls := 8, slots := #[.long 79], vm := .none },
  { cls := 8, slots := #[.long 80], vm := .none },
  { cls := 8, slots := #[.long 81], vm := .none },
  { cls := 8, slots := #[.long 82], vm := .none },
  { cls := 8, slots := #[.long 83], vm := .none },
  { cls := 8, slots := #[.long 84], vm := .none },
  { cls := 8, slots := #[.long 85], vm := .none },
  { cls := 8, slots := #[.long 86], vm := .none },
  { cls := 8, slots := #[.long 87], vm := .none },
  { cls := 8, slots := #[.long 88], vm := .none },
  { cls := 8, slots := #[.long 89], vm := .none },
  { cls := 8, slots := #[.long 90], vm := .none },
  { cls := 8, slots := #[.long 91], vm := .none },
  { cls := 8, slots := #[.long 92], vm := .none },
  { cls := 8, slots := #[.long 93], vm := .none },
  { cls := 8, slots := #[.long 94], vm := .none },
  { cls := 8, slots := #[.long 95], vm := .none },
  { cls := 8, slots := #[.long 96], vm := .none },
  { cls := 8, slots := #[.long 97], vm := .none },
  { cls := 8, slots := #[.long 98], vm := .none },
  { cls := 8, slots := #[.long 99], vm := .none },
  { cls := 8, slots := #[.long 100], vm := .none },
  { cls := 8, slots := #[.long 101], vm := .none },
  { cls := 8, slots := #[.long 102], vm := .none },
  { cls := 8, slots := #[.long 103], vm := .none },
  { cls := 8, slots := #[.long 104], vm := .none },
  { cls := 8, slots := #[.long 105], vm := .none },
  { cls := 8, slots := #[.long 106], vm := .none },
  { cls := 8, slots := #[.long 107], vm := .none },
  { cls := 8, slots := #[.long 108], vm := .none },
  { cls := 8, slots := #[.long 109], vm := .none },
  { cls := 8, slots := #[.long 110], vm := .none },
  { cls := 8, slots := #[.long 111], vm := .none },
  { cls := 8, slots := #[.long 112], vm := .none },
  { cls := 8, slots := #[.long 113], vm := .none },
  { cls := 8, slots := #[.long 114], vm := .none },
  { cls := 8, slots := #[.long 115], vm := .none },
  { cls := 8, slots := #[.long 116], vm := .none },
  { cls := 8, slots := #[.long 117], vm := .none },
  { cls := 8, slots := #[.long 118], vm := .none },
  { cls := 8, slots := #[.long 119], vm := .none },
  { cls := 8, slots := #[.long 120], vm := .none },
  { cls := 8, slots := #[.long 121], vm := .none },
  { cls := 8, slots := #[.long 122], vm := .none },
  { cls := 8, slots := #[.long 123], vm := .none },
  { cls := 8, slots := #[.long 124], vm := .none },
  { cls := 8, slots := #[.long 125], vm := .none },
  { cls := 8, slots := #[.long 126], vm := .none },
  { cls := 8, slots := #[.long 127], vm := .none }]
def classes : Array Class := #[k0, k1, k2, k3, k4, k5, k6, k7, k8, k9, k10, k11, k12, k13, k14, k15]
def interned : List (Array UInt16 × Addr) := []
def slotsUsed : Nat := 515
def theMethod : MethodId := ⟨1, 1⟩
def args0 : Array Value := #[.long 5, .long 6, .long 7, .long 8, .int 9]
def aboutOver (below : List Frame) : State where
  vm := { classes := classes, interned := interned.toArray }
  heap := heap
  slotsUsed := slotsUsed
  threads := #[{ frames := .invoking theMethod args0 :: below }]
def below0 : List Frame := [.native { method := ⟨0, 0⟩, args := #[] }]
def about1 : State := aboutOver below0
def p0 : Program := .bare "" "" ""
def e0 : Env := launch0.env 0 0 0
theorem w_frames : about1.frames = Frame.invoking theMethod args0 :: below0 := rfl
set_option maxRecDepth 65536 in
theorem w_args : argsFit about1.vm theMethod args0 = true := by decide +kernel
set_option maxRecDepth 65536 in
theorem w_heap : heapFits about1 = true := by decide +kernel
set_option maxRecDepth 65536 in
theorem w_runnable : about1.curStatus? = some .runnable := by decide +kernel
set_option maxRecDepth 65536 in
theorem w_alone : about1.alone = true := by decide +kernel
set_option maxRecDepth 65536 in
theorem w_named : about1.methodNamed? x = some theMethod := by decide +kernel
set_option maxRecDepth 65536 in
theorem w_hears : about1.hears theMethod below0 = true := by decide +kernel
set_option maxRecDepth 65536 in
theorem w_ripe : about1.ripe theMethod args0 below0 = true := by decide +kernel
theorem w_running : about1.status = .running := rfl
set_option maxRecDepth 65536 in
theorem w_room : about1.hasRoom e0.platform room_1 = true :=
  launch0.hasRoom_least _ room_1 (by decide +kernel) (by decide +kernel) (by decide +kernel) (by decide +kernel) (by decide +kernel) (by decide +kernel)
theorem allAtoms_all (ts : List Jvm.Cond) (a : Array Jvm.Value) (st : Jvm.State) : (allAtoms ts).before a st = ts.all (fun c => c.before a st) := by
  induction ts with
  | nil => rfl
  | cons c t ih =>
    show (Jvm.Cond.and c (allAtoms t)).before a st = _
    rw [Jvm.Cond.before_and, ih, List.all_cons]
def words1 : List Jvm.Cond := Jvm.Cond.code x code maxLocals ret :: tables_1
/-- a 'code' word, met by the world's own term for the bytes: nothing is compared byte by byte -/
theorem code_word {y : MethodName} {bytes : ByteArray} {mx : Nat} {rt : Option FieldType} {a : Array Value} {s : State} {m : MethodId} {meth : Method} {c : Code} (h1 : s.methodNamed? y = some m) (h2 : s.vm.method? m = some meth) (h3 : meth.code = some c) (h4 : c.code = bytes)
    (h5 : (c.maxLocals == mx && c.exceptionTable.isEmpty && decide (c.maxStack ≤ mostOperands) && decide (meth.sig.returnType = rt) && !meth.locks && decide (parseMethodDescriptor y.desc = some meth.sig)) = true) : (Jvm.Cond.code y bytes mx rt).before a s = true := by
  simp only [Bool.and_eq_true, beq_iff_eq, Bool.not_eq_true', decide_eq_true_eq] at h5
  obtain ⟨⟨⟨⟨⟨g1, g2⟩, g3⟩, g4⟩, g5⟩, g6⟩ := h5
  simp [Cond.before, Cond.holds, Cond.value, h1, h2, h3, h4, g1, g2, g3, g4, g5, g6]
def isCode : Jvm.Cond → Bool
  | .code _ _ _ _ => true
  | _ => false
theorem all_split {L : List Jvm.Cond} {P : Jvm.Cond → Bool} (h1 : L.all (fun c => isCode c || P c) = true) (h2 : ∀ c ∈ L.filter isCode, P c = true) : L.all P = true := by
  refine List.all_eq_true.mpr fun c hc => ?_
  have h := List.all_eq_true.mp h1 c hc
  rcases Bool.eq_false_or_eq_true (isCode c) with hi | hi
  · exact h2 c (List.mem_filter.mpr ⟨hc, hi⟩)
  · simpa [hi] using h
set_option maxRecDepth 65536 in
theorem w_c0 : (Jvm.Cond.code x code maxLocals ret).before args0 about1 = true := code_word (m := ⟨1, 1⟩) (meth := k1m1) (c := k1c1) (by decide +kernel) rfl rfl rfl (by decide +kernel)
set_option maxRecDepth 65536 in
theorem w_c1 : (Jvm.Cond.code ({ cls := "com/example/allotd/allotd/engine/Tokens", name := "<init>", desc := "(JJ)V" } : Jvm.MethodName) prog_21_method_1_code (5 : Nat) (Option.none : Option Jvm.ClassFile.FieldType)).before args0 about1 = true := code_word (m := ⟨2, 0⟩) (meth := k2m0) (c := k2c0) (by decide +kernel) rfl rfl rfl (by decide +kernel)
set_option maxRecDepth 65536 in
theorem w_c2 : (Jvm.Cond.code ({ cls := "java/lang/Object", name := "<init>", desc := "()V" } : Jvm.MethodName) object_method_1_code (1 : Nat) (Option.none : Option Jvm.ClassFile.FieldType)).before args0 about1 = true := code_word (m := ⟨0, 0⟩) (meth := k0m0) (c := k0c0) (by decide +kernel) rfl rfl rfl (by decide +kernel)
set_option maxRecDepth 65536 in
theorem w_c3 : (Jvm.Cond.code ({ cls := "com/example/allotd/allotd/engine/Tokens", name := "equals", desc := "(Ljava/lang/Object;)Z" } : Jvm.MethodName) prog_21_method_4_code (3 : Nat) (Option.some Jvm.ClassFile.FieldType.boolean)).before args0 about1 = true := code_word (m := ⟨2, 1⟩) (meth := k2m1) (c := k2c1) (by decide +kernel) rfl rfl rfl (by decide +kernel)
set_option maxRecDepth 65536 in
theorem w_c4 : (Jvm.Cond.code ({ cls := "java/lang/Long", name := "valueOf", desc := "(J)Ljava/lang/Long;" } : Jvm.MethodName) jdk_35_method_24_code (3 : Nat) (Option.some (Jvm.ClassFile.FieldType.object "java/lang/Long"))).before args0 about1 = true := code_word (m := ⟨8, 0⟩) (meth := k8m0) (c := k8c0) (by decide +kernel) rfl rfl rfl (by decide +kernel)
set_option maxRecDepth 65536 in
theorem w_c5 : (Jvm.Cond.code ({ cls := "java/lang/Long", name := "<init>", desc := "(J)V" } : Jvm.MethodName) jdk_35_method_26_code (3 : Nat) (Option.none : Option Jvm.ClassFile.FieldType)).before args0 about1 = true := code_word (m := ⟨8, 1⟩) (meth := k8m1) (c := k8c1) (by decide +kernel) rfl rfl rfl (by decide +kernel)
set_option maxRecDepth 65536 in
theorem w_c6 : (Jvm.Cond.code ({ cls := "java/lang/Number", name := "<init>", desc := "()V" } : Jvm.MethodName) jdk_18_method_1_code (1 : Nat) (Option.none : Option Jvm.ClassFile.FieldType)).before args0 about1 = true := code_word (m := ⟨4, 0⟩) (meth := k4m0) (c := k4c0) (by decide +kernel) rfl rfl rfl (by decide +kernel)
def codes1 : List Jvm.Cond := [Jvm.Cond.code x code maxLocals ret, Jvm.Cond.code ({ cls := "com/example/allotd/allotd/engine/Tokens", name := "<init>", desc := "(JJ)V" } : Jvm.MethodName) prog_21_method_1_code (5 : Nat) (Option.none : Option Jvm.ClassFile.FieldType), Jvm.Cond.code ({ cls := "java/lang/Object", name := "<init>", desc := "()V" } : Jvm.MethodName) object_method_1_code (1 : Nat) (Option.none : Option Jvm.ClassFile.FieldType), Jvm.Cond.code ({ cls := "com/example/allotd/allotd/engine/Tokens", name := "equals", desc := "(Ljava/lang/Object;)Z" } : Jvm.MethodName) prog_21_method_4_code (3 : Nat) (Option.some Jvm.ClassFile.FieldType.boolean), Jvm.Cond.code ({ cls := "java/lang/Long", name := "valueOf", desc := "(J)Ljava/lang/Long;" } : Jvm.MethodName) jdk_35_method_24_code (3 : Nat) (Option.some (Jvm.ClassFile.FieldType.object "java/lang/Long")), Jvm.Cond.code ({ cls := "java/lang/Long", name := "<init>", desc := "(J)V" } : Jvm.MethodName) jdk_35_method_26_code (3 : Nat) (Option.none : Option Jvm.ClassFile.FieldType), Jvm.Cond.code ({ cls := "java/lang/Number", name := "<init>", desc := "()V" } : Jvm.MethodName) jdk_18_method_1_code (1 : Nat) (Option.none : Option Jvm.ClassFile.FieldType)]
set_option maxRecDepth 65536 in
theorem codes_eq : words1.filter isCode = codes1 := rfl
theorem w_codes : ∀ c ∈ words1.filter isCode, c.before args0 about1 = true := by
  rw [codes_eq]
  intro c hc
  simp only [codes1, List.mem_cons, List.not_mem_nil, or_false] at hc
  rcases hc with rfl | rfl | rfl | rfl | rfl | rfl | rfl
  · exact w_c0
  · exact w_c1
  · exact w_c2
  · exact w_c3
  · exact w_c4
  · exact w_c5
  · exact w_c6
set_option maxRecDepth 65536 in
theorem w_t1 : (words1.take 24).all (fun c => isCode c || c.before args0 about1) = true := by decide +kernel
set_option maxRecDepth 65536 in
theorem w_t2 : (words1.drop 24).all (fun c => isCode c || c.before args0 about1) = true := by decide +kernel
theorem w_tables : (allAtoms (Jvm.Cond.code x code maxLocals ret :: tables_1)).before args0 about1 = true := by
  rw [allAtoms_all]
  show words1.all (fun c => c.before args0 about1) = true
  refine all_split ?_ w_codes
  rw [← List.take_append_drop 24 words1, List.all_append, w_t1, w_t2]
  rfl
set_option maxRecDepth 65536 in
theorem w_rest : rest_1_c.before args0 about1 = true := by decide +kernel
set_option maxRecDepth 65536 in
theorem w_case : (Jvm.Cond.and given_1 narrow_1).before args0 about1 = true := by decide +kernel
theorem w_applies : (headSpec (Jvm.Cond.code x code maxLocals ret :: tables_1) room_1).applies x e0.platform about1 = true :=
  (Spec.applies_iff w_frames).mpr ⟨w_running, w_runnable, w_alone, w_named, w_hears, w_ripe, w_room, w_tables⟩
theorem atStart : AtStart classFile x code maxLocals ret World_1 tables_1 room_1 Calls_1 rest_1 Pre_1 launch0 p0 e0 about1 theMethod args0 below0 :=
  ⟨lists_1, trivial, launch0.admits_env _ _ _, launch0.least_env, fairChoices_fair.cas, fairChoices_fair.clock, w_frames, w_args, w_heap, w_applies, trivial, w_rest, w_case⟩
end start1
theorem witness_1 : WitnessClaimed_1 := ⟨start1.p0, start1.e0, start1.about1, start1.theMethod, start1.args0, start1.below0, start1.atStart⟩
end Jvm.Pilot.@@N@@
