import JvmDerived
import JvmDerived.Pilot.@@N@@Statement
import JvmDerived.Pilot.@@N@@Code
set_option linter.unusedVariables false
set_option linter.unusedSimpArgs false
@@BLOCK:NumsL.lean.txt@@
namespace Jvm.RoadKit
open Sem ClassFile Op Lib Jvm.Stand Jvm.Free Jvm.LawKit
section New
variable {p : Program} {l : Launch} {e : Env} {R : Room} {s : State} {m : MethodId} {args : Array Value} {below : List Frame} {meth : Method} {c : Code} {T : State} {locs : List Loc} {cells slots : Nat}
theorem retI (X : Stand p l e R s m args below meth c T locs cells slots) (hx : p.tables.exec = Jvm.exec) {pc : Nat} {Ls : Array Slot} {z : Int32} {rest : List Value} (hret : meth.sig.returnType = some .int) (hd : decode c.code pc = .ok (.ireturn, 1)) {fs : List Frame}
    (hl : ∀ (f : JFrame) (acts : List Action), f.method = m → f.locked = none → f.entered = [] → (doReturn e (T.setTop f) acts (some (.int z))).1 = T.setFrames fs) : Steps p.tables e below (T.setTop (mkF m pc Ls (.int z :: rest))) (T.setFrames fs) := by
  have hm' : T.vm.method? m = some meth := X.method'
  have hn : narrow .int (.int z) = .int z := rfl
  show Steps p.tables e below (T.setTop { method := m, pc := pc, locals := Ls, stack := _ :: rest, locked := none }) _
  jvm_step X.here [X.here.top, hx, hd, hm', hret, hn]
  first | (intro acts; rw [hl _ acts rfl rfl rfl]) | rw [hl _ _ rfl rfl rfl]
  exact Steps.refl _
theorem own_retA (X : Stand p l e R s m args below meth c T locs cells slots) (hx : p.tables.exec = Jvm.exec) {pc : Nat} {Ls : Array Slot} {t : FieldType} {w : Value} {rest : List Value} (hret : meth.sig.returnType = some t) (ht : t.isReference = true) (hw : w.isRef = true) (hd : decode c.code pc = .ok (.areturn, 1)) {fs : List Frame}
    (hl : ∀ (f : JFrame) (acts : List Action), f.method = m → f.locked = none → f.entered = [] → (doReturn e (T.setTop f) acts (some w)).1 = T.setFrames fs) : Steps p.tables e below (T.setTop (mkF m pc Ls (w :: rest))) (T.setFrames fs) :=
  retOut X hx hret (by cases t <;> simp_all [narrow, FieldType.isReference]) (Or.inr (Or.inr (Or.inr (Or.inr ⟨rfl, ht, hw⟩)))) hd hl
end New
end Jvm.RoadKit
namespace Jvm.Pilot.@@N@@
open Jvm Jvm.ClassFile Sem Op Lib Jvm.Free Jvm.Stand Jvm.LawKit Jvm.RoadKit Bundle Jvm.Pilot.@@N@@.Jvm.D
abbrev own_jv (x : Int64) : Slot := .val (.long x)
/-- a callee that leaves the heap as it was and returns r -/
def own_QP (r : Option Value) (h0 : Heap) (n0 : Nat) (v : Option Value) (h : Heap) (L : List Loc) : Prop := v = r ∧ Fr n0 L ∧ h = h0
def own_QL (n0 : Nat) (v : Option Value) (h : Heap) (L : List Loc) : Prop := v = some (.int 1) ∧ Fr n0 L
theorem own_eqv {args : Array Value} {first s : State} {o : Option Outcome} {idx : List Nat} {a b : Term} {x : Value} (h : (Cond.eq a b).value args first o s idx = some true) (hb : b.eval args first o idx s = some x) (hx : x.isRef = true ∨ ∃ n, x = .int n) : a.eval args first o idx s = some x := by
  cases ha : a.eval args first o idx s with
  | none => simp [Cond.value, ha, hb] at h
  | some y =>
    rcases hx with hx | ⟨n, rfl⟩
    · rcases ref_cases hx with rfl | ⟨z, rfl⟩ <;> cases y <;> simp_all [Cond.value]
    · cases y <;> simp_all [Cond.value]
theorem own_len {Z : State} {args : Array Value} {t : Term} {a : Addr} {cl : Cell} {ty : FieldType} {n : Int32} (ev : t.eval args Z none [] Z = some (.ref a)) (A : Arr Z Z.heap a cl ty) (h : (Term.length t).eval args Z none [] Z = some (.int n)) : cl.slots.size < 2 ^ 31 ∧ cl.slots.size.toInt32 = n := by
  have hA : Z.arrayAt? a = some cl := Arr.fin (U := Z) (Vm.Alike.refl _) A
  by_cases q : cl.slots.size < 2 ^ 31
  · rw [len_f ev hA q] at h
    exact ⟨q, Value.int.inj (Option.some.inj h)⟩
  · simp [Term.eval, ev, hA, q] at h
theorem own_nei {a b : Int32} (h : a ≠ b) : (Value.int a) ≠ (Value.int b) := fun q => h (Value.int.inj q)
theorem own_Sta_keep {Z : State} {h h' : Heap} {C n d : String} {v : Value} {ws : List Addr} (F : Sta Z h C n d v) (K : Keep h h' ws) (q : ∀ a ∈ ws, ∀ c : Cell, h[a]? = some c → c.vm.isStatics = false) : Sta Z h' C n d v := by
  obtain ⟨cf, i, k, f, st, cell, h1, h2, h3, h4, h5, h6, h7⟩ := F
  exact ⟨cf, i, k, f, st, cell, h1, h2, h3, h4, K.2.1 st cell h5 (fun z => by rw [q st z cell h5] at h6; cases h6), h6, h7⟩
theorem own_st0 {h : Heap} : ∀ a ∈ ([] : List Addr), ∀ c : Cell, h[a]? = some c → c.vm.isStatics = false := fun _ q => nomatch q
theorem own_stS {Z : State} {h : Heap} {b : Addr} {C : String} {L : List Addr} (E : Exa Z h b C) (q : ∀ a ∈ L, ∀ c : Cell, h[a]? = some c → c.vm.isStatics = false) : ∀ a ∈ b :: L, ∀ c : Cell, h[a]? = some c → c.vm.isStatics = false := fun a z c hc => by
  rcases List.mem_cons.mp z with rfl | z
  · obtain ⟨cell, _, h1, _, _, h4, _⟩ := E
    cases h1.symm.trans hc; exact h4
  · exact q a z c hc
/-- a callee that leaves the heap as it was and returns a reference or null -/
def own_QR (h0 : Heap) (n0 : Nat) (v : Option Value) (h : Heap) (L : List Loc) : Prop := ∃ u : Value, v = some u ∧ u.isRef = true ∧ Fr n0 L ∧ h = h0
theorem own_weak {l : Launch} {x : MethodName} {S : Spec} {P : Array Value → State → Prop} {K : Program → Env → List Frame → State → Array Value → Prop} {w : Value} {h0 : Heap} {n0 k j : Nat} (hw : w.isRef = true)
    (h : MetFree l x S P K (fun _ U o U' => ∃ v L, o = .returned v ∧ own_QP (some w) h0 n0 v U'.heap L ∧ FrameEnd U o U' L k j)) :
    MetFree l x S P K (fun _ U o U' => ∃ v L, o = .returned v ∧ own_QR h0 n0 v U'.heap L ∧ FrameEnd U o U' L k j) := fun p e a b c s m args below h1 h2 h3 h4 => by
  obtain ⟨n, o, q1, q2, q3, v, L, e1, ⟨e2, e3, e4⟩, e5⟩ := h p e a b c s m args below h1 h2 h3 h4
  exact ⟨n, o, q1, q2, q3, v, L, e1, ⟨w, e2, hw, e3, e4⟩, e5⟩
theorem own_narO {C : String} (v : Value) (h : v.isRef = true) : narrow (.object C) v = v := by rcases ref_cases h with q | ⟨_, q⟩ <;> (subst q; rfl)
theorem own_fitsO {C : String} {v : Value} (h : v.isRef = true) : fits (.object C) v = true := by rcases ref_cases h with q | ⟨_, q⟩ <;> (subst q; rfl)
theorem own_s1 (p : Int32) : (p &&& (1 : Int32)) = (0 : Int32) ∨ (p &&& (1 : Int32)) = (1 : Int32) := by
  have e := Jvm.Kit.i32_mask p 1 (k := 1) (by decide) (by decide)
  have h : (p &&& (1 : Int32)).toInt = 0 ∨ (p &&& (1 : Int32)).toInt = 1 := by omega
  rcases h with h | h
  · exact Or.inl (Int32.toInt_inj.mp (h.trans (by decide)))
  · exact Or.inr ((Int32.toInt_inj.mp (h.trans (by decide))))
theorem own_s15 (p : Int32) : (p &&& (15 : Int32)) = (0 : Int32) ∨ (p &&& (15 : Int32)) = (1 : Int32) ∨ (p &&& (15 : Int32)) = (2 : Int32) ∨ (p &&& (15 : Int32)) = (3 : Int32) ∨ (p &&& (15 : Int32)) = (4 : Int32) ∨ (p &&& (15 : Int32)) = (5 : Int32) ∨ (p &&& (15 : Int32)) = (6 : Int32) ∨ (p &&& (15 : Int32)) = (7 : Int32) ∨ (p &&& (15 : Int32)) = (8 : Int32) ∨ (p &&& (15 : Int32)) = (9 : Int32) ∨ (p &&& (15 : Int32)) = (10 : Int32) ∨ (p &&& (15 : Int32)) = (11 : Int32) ∨ (p &&& (15 : Int32)) = (12 : Int32) ∨ (p &&& (15 : Int32)) = (13 : Int32) ∨ (p &&& (15 : Int32)) = (14 : Int32) ∨ (p &&& (15 : Int32)) = (15 : Int32) := by
  have e := Jvm.Kit.i32_mask p 15 (k := 4) (by decide) (by decide)
  have h : (p &&& (15 : Int32)).toInt = 0 ∨ (p &&& (15 : Int32)).toInt = 1 ∨ (p &&& (15 : Int32)).toInt = 2 ∨ (p &&& (15 : Int32)).toInt = 3 ∨ (p &&& (15 : Int32)).toInt = 4 ∨ (p &&& (15 : Int32)).toInt = 5 ∨ (p &&& (15 : Int32)).toInt = 6 ∨ (p &&& (15 : Int32)).toInt = 7 ∨ (p &&& (15 : Int32)).toInt = 8 ∨ (p &&& (15 : Int32)).toInt = 9 ∨ (p &&& (15 : Int32)).toInt = 10 ∨ (p &&& (15 : Int32)).toInt = 11 ∨ (p &&& (15 : Int32)).toInt = 12 ∨ (p &&& (15 : Int32)).toInt = 13 ∨ (p &&& (15 : Int32)).toInt = 14 ∨ (p &&& (15 : Int32)).toInt = 15 := by omega
  rcases h with h | h | h | h | h | h | h | h | h | h | h | h | h | h | h | h
  · exact Or.inl (Int32.toInt_inj.mp (h.trans (by decide)))
  · exact Or.inr (Or.inl (Int32.toInt_inj.mp (h.trans (by decide))))
  · exact Or.inr (Or.inr (Or.inl (Int32.toInt_inj.mp (h.trans (by decide)))))
  · exact Or.inr (Or.inr (Or.inr (Or.inl (Int32.toInt_inj.mp (h.trans (by decide))))))
  · exact Or.inr (Or.inr (Or.inr (Or.inr (Or.inl (Int32.toInt_inj.mp (h.trans (by decide)))))))
  · exact Or.inr (Or.inr (Or.inr (Or.inr (Or.inr (Or.inl (Int32.toInt_inj.mp (h.trans (by decide))))))))
  · exact Or.inr (Or.inr (Or.inr (Or.inr (Or.inr (Or.inr (Or.inl (Int32.toInt_inj.mp (h.trans (by decide)))))))))
  · exact Or.inr (Or.inr (Or.inr (Or.inr (Or.inr (Or.inr (Or.inr (Or.inl (Int32.toInt_inj.mp (h.trans (by decide))))))))))
  · exact Or.inr (Or.inr (Or.inr (Or.inr (Or.inr (Or.inr (Or.inr (Or.inr (Or.inl (Int32.toInt_inj.mp (h.trans (by decide)))))))))))
  · exact Or.inr (Or.inr (Or.inr (Or.inr (Or.inr (Or.inr (Or.inr (Or.inr (Or.inr (Or.inl (Int32.toInt_inj.mp (h.trans (by decide))))))))))))
  · exact Or.inr (Or.inr (Or.inr (Or.inr (Or.inr (Or.inr (Or.inr (Or.inr (Or.inr (Or.inr (Or.inl (Int32.toInt_inj.mp (h.trans (by decide)))))))))))))
  · exact Or.inr (Or.inr (Or.inr (Or.inr (Or.inr (Or.inr (Or.inr (Or.inr (Or.inr (Or.inr (Or.inr (Or.inl (Int32.toInt_inj.mp (h.trans (by decide))))))))))))))
  · exact Or.inr (Or.inr (Or.inr (Or.inr (Or.inr (Or.inr (Or.inr (Or.inr (Or.inr (Or.inr (Or.inr (Or.inr (Or.inl (Int32.toInt_inj.mp (h.trans (by decide)))))))))))))))
  · exact Or.inr (Or.inr (Or.inr (Or.inr (Or.inr (Or.inr (Or.inr (Or.inr (Or.inr (Or.inr (Or.inr (Or.inr (Or.inr (Or.inl (Int32.toInt_inj.mp (h.trans (by decide))))))))))))))))
  · exact Or.inr (Or.inr (Or.inr (Or.inr (Or.inr (Or.inr (Or.inr (Or.inr (Or.inr (Or.inr (Or.inr (Or.inr (Or.inr (Or.inr (Or.inl (Int32.toInt_inj.mp (h.trans (by decide)))))))))))))))))
  · exact Or.inr (Or.inr (Or.inr (Or.inr (Or.inr (Or.inr (Or.inr (Or.inr (Or.inr (Or.inr (Or.inr (Or.inr (Or.inr (Or.inr (Or.inr ((Int32.toInt_inj.mp (h.trans (by decide))))))))))))))))))
theorem own_s48 (p : Int32) : (p &&& (48 : Int32)) = (48 : Int32) ∨ ¬ ((p &&& (48 : Int32)) = (48 : Int32)) := Classical.em _
theorem own_s3 (p : Int32) : p = (0 : Int32) ∨ p = (1 : Int32) ∨ p = (2 : Int32) ∨ (¬ (p = (0 : Int32)) ∧ ¬ (p = (1 : Int32)) ∧ ¬ (p = (2 : Int32))) := by
  by_cases h0 : p = (0 : Int32)
  · exact Or.inl h0
  by_cases h1 : p = (1 : Int32)
  · exact Or.inr (Or.inl h1)
  by_cases h2 : p = (2 : Int32)
  · exact Or.inr (Or.inr (Or.inl h2))
  exact Or.inr (Or.inr (Or.inr ⟨h0, h1, h2⟩))
theorem own_tsw {p : Int32} (h0 : ¬ (p = (0 : Int32))) (h1 : ¬ (p = (1 : Int32))) (h2 : ¬ (p = (2 : Int32))) : p.toInt < 0 ∨ p.toInt > 2 := by
  have e0 : p.toInt ≠ 0 := fun q => h0 (Int32.toInt_inj.mp (q.trans (by decide)))
  have e1 : p.toInt ≠ 1 := fun q => h1 (Int32.toInt_inj.mp (q.trans (by decide)))
  have e2 : p.toInt ≠ 2 := fun q => h2 (Int32.toInt_inj.mp (q.trans (by decide)))
  omega
theorem d1_0 : decode method_2_code 0 = .ok (.iload_n 0, 1) := by decide +kernel
theorem d1_1 : decode method_2_code 1 = .ok (.bipush 48, 2) := by decide +kernel
theorem d1_3 : decode method_2_code 3 = .ok (.iand, 1) := by decide +kernel
theorem d1_4 : decode method_2_code 4 = .ok (.bipush 48, 2) := by decide +kernel
theorem d1_6 : decode method_2_code 6 = .ok (.if_icmp .ne 5, 3) := by decide +kernel
theorem d1_9 : decode method_2_code 9 = .ok (.aconst_null, 1) := by decide +kernel
theorem d1_10 : decode method_2_code 10 = .ok (.areturn, 1) := by decide +kernel
theorem d1_11 : decode method_2_code 11 = .ok (.iload_n 0, 1) := by decide +kernel
theorem d1_12 : decode method_2_code 12 = .ok (.bipush 15, 2) := by decide +kernel
theorem d1_14 : decode method_2_code 14 = .ok (.iand, 1) := by decide +kernel
theorem d1_15 : decode method_2_code 15 = .ok (.istore_n 1, 1) := by decide +kernel
theorem d1_16 : decode method_2_code 16 = .ok (.iload_n 1, 1) := by decide +kernel
theorem d1_17 : decode method_2_code 17 = .ok (.bipush 8, 2) := by decide +kernel
theorem d1_19 : decode method_2_code 19 = .ok (.if_icmp .ge 70, 3) := by decide +kernel
theorem d1_22 : decode method_2_code 22 = .ok (.iload_n 1, 1) := by decide +kernel
theorem d1_23 : decode method_2_code 23 = .ok (.iconst 4, 1) := by decide +kernel
theorem d1_24 : decode method_2_code 24 = .ok (.if_icmp .ge 33, 3) := by decide +kernel
theorem d1_27 : decode method_2_code 27 = .ok (.iload_n 1, 1) := by decide +kernel
theorem d1_28 : decode method_2_code 28 = .ok (.ifCond .ne 7, 3) := by decide +kernel
theorem d1_31 : decode method_2_code 31 = .ok (.getstatic 7, 3) := by decide +kernel
theorem d1_34 : decode method_2_code 34 = .ok (.areturn, 1) := by decide +kernel
theorem d1_35 : decode method_2_code 35 = .ok (.iload_n 1, 1) := by decide +kernel
theorem d1_36 : decode method_2_code 36 = .ok (.iconst 1, 1) := by decide +kernel
theorem d1_37 : decode method_2_code 37 = .ok (.if_icmp .ne 7, 3) := by decide +kernel
theorem d1_40 : decode method_2_code 40 = .ok (.getstatic 13, 3) := by decide +kernel
theorem d1_43 : decode method_2_code 43 = .ok (.areturn, 1) := by decide +kernel
theorem d1_44 : decode method_2_code 44 = .ok (.iload_n 1, 1) := by decide +kernel
theorem d1_45 : decode method_2_code 45 = .ok (.iconst 2, 1) := by decide +kernel
theorem d1_46 : decode method_2_code 46 = .ok (.if_icmp .ne 7, 3) := by decide +kernel
theorem d1_49 : decode method_2_code 49 = .ok (.getstatic 16, 3) := by decide +kernel
theorem d1_52 : decode method_2_code 52 = .ok (.areturn, 1) := by decide +kernel
theorem d1_53 : decode method_2_code 53 = .ok (.getstatic 19, 3) := by decide +kernel
theorem d1_56 : decode method_2_code 56 = .ok (.areturn, 1) := by decide +kernel
theorem d1_57 : decode method_2_code 57 = .ok (.iload_n 1, 1) := by decide +kernel
theorem d1_58 : decode method_2_code 58 = .ok (.iconst 4, 1) := by decide +kernel
theorem d1_59 : decode method_2_code 59 = .ok (.if_icmp .ne 7, 3) := by decide +kernel
theorem d1_62 : decode method_2_code 62 = .ok (.getstatic 22, 3) := by decide +kernel
theorem d1_65 : decode method_2_code 65 = .ok (.areturn, 1) := by decide +kernel
theorem d1_66 : decode method_2_code 66 = .ok (.iload_n 1, 1) := by decide +kernel
theorem d1_67 : decode method_2_code 67 = .ok (.iconst 5, 1) := by decide +kernel
theorem d1_68 : decode method_2_code 68 = .ok (.if_icmp .ne 7, 3) := by decide +kernel
theorem d1_71 : decode method_2_code 71 = .ok (.getstatic 25, 3) := by decide +kernel
theorem d1_74 : decode method_2_code 74 = .ok (.areturn, 1) := by decide +kernel
theorem d1_75 : decode method_2_code 75 = .ok (.iload_n 1, 1) := by decide +kernel
theorem d1_76 : decode method_2_code 76 = .ok (.bipush 6, 2) := by decide +kernel
theorem d1_78 : decode method_2_code 78 = .ok (.if_icmp .ne 7, 3) := by decide +kernel
theorem d1_81 : decode method_2_code 81 = .ok (.getstatic 28, 3) := by decide +kernel
theorem d1_84 : decode method_2_code 84 = .ok (.areturn, 1) := by decide +kernel
theorem d1_85 : decode method_2_code 85 = .ok (.getstatic 31, 3) := by decide +kernel
theorem d1_88 : decode method_2_code 88 = .ok (.areturn, 1) := by decide +kernel
theorem d1_89 : decode method_2_code 89 = .ok (.iload_n 1, 1) := by decide +kernel
theorem d1_90 : decode method_2_code 90 = .ok (.bipush 12, 2) := by decide +kernel
theorem d1_92 : decode method_2_code 92 = .ok (.if_icmp .ge 37, 3) := by decide +kernel
theorem d1_95 : decode method_2_code 95 = .ok (.iload_n 1, 1) := by decide +kernel
theorem d1_96 : decode method_2_code 96 = .ok (.bipush 8, 2) := by decide +kernel
theorem d1_98 : decode method_2_code 98 = .ok (.if_icmp .ne 7, 3) := by decide +kernel
theorem d1_101 : decode method_2_code 101 = .ok (.getstatic 34, 3) := by decide +kernel
theorem d1_104 : decode method_2_code 104 = .ok (.areturn, 1) := by decide +kernel
theorem d1_105 : decode method_2_code 105 = .ok (.iload_n 1, 1) := by decide +kernel
theorem d1_106 : decode method_2_code 106 = .ok (.bipush 9, 2) := by decide +kernel
theorem d1_108 : decode method_2_code 108 = .ok (.if_icmp .ne 7, 3) := by decide +kernel
theorem d1_111 : decode method_2_code 111 = .ok (.getstatic 37, 3) := by decide +kernel
theorem d1_114 : decode method_2_code 114 = .ok (.areturn, 1) := by decide +kernel
theorem d1_115 : decode method_2_code 115 = .ok (.iload_n 1, 1) := by decide +kernel
theorem d1_116 : decode method_2_code 116 = .ok (.bipush 10, 2) := by decide +kernel
theorem d1_118 : decode method_2_code 118 = .ok (.if_icmp .ne 7, 3) := by decide +kernel
theorem d1_121 : decode method_2_code 121 = .ok (.getstatic 40, 3) := by decide +kernel
theorem d1_124 : decode method_2_code 124 = .ok (.areturn, 1) := by decide +kernel
theorem d1_125 : decode method_2_code 125 = .ok (.getstatic 43, 3) := by decide +kernel
theorem d1_128 : decode method_2_code 128 = .ok (.areturn, 1) := by decide +kernel
theorem d1_129 : decode method_2_code 129 = .ok (.iload_n 1, 1) := by decide +kernel
theorem d1_130 : decode method_2_code 130 = .ok (.bipush 12, 2) := by decide +kernel
theorem d1_132 : decode method_2_code 132 = .ok (.if_icmp .ne 7, 3) := by decide +kernel
theorem d1_135 : decode method_2_code 135 = .ok (.getstatic 46, 3) := by decide +kernel
theorem d1_138 : decode method_2_code 138 = .ok (.areturn, 1) := by decide +kernel
theorem d1_139 : decode method_2_code 139 = .ok (.iload_n 1, 1) := by decide +kernel
theorem d1_140 : decode method_2_code 140 = .ok (.bipush 13, 2) := by decide +kernel
theorem d1_142 : decode method_2_code 142 = .ok (.if_icmp .ne 7, 3) := by decide +kernel
theorem d1_145 : decode method_2_code 145 = .ok (.getstatic 49, 3) := by decide +kernel
theorem d1_148 : decode method_2_code 148 = .ok (.areturn, 1) := by decide +kernel
theorem d1_149 : decode method_2_code 149 = .ok (.iload_n 1, 1) := by decide +kernel
theorem d1_150 : decode method_2_code 150 = .ok (.bipush 14, 2) := by decide +kernel
theorem d1_152 : decode method_2_code 152 = .ok (.if_icmp .ne 7, 3) := by decide +kernel
theorem d1_155 : decode method_2_code 155 = .ok (.getstatic 52, 3) := by decide +kernel
theorem d1_158 : decode method_2_code 158 = .ok (.areturn, 1) := by decide +kernel
theorem d1_159 : decode method_2_code 159 = .ok (.getstatic 55, 3) := by decide +kernel
theorem d1_162 : decode method_2_code 162 = .ok (.areturn, 1) := by decide +kernel
theorem d2_0 : decode prog_25_method_2_code 0 = .ok (.aload_n 0, 1) := by decide +kernel
theorem d2_1 : decode prog_25_method_2_code 1 = .ok (.invokespecial 1, 3) := by decide +kernel
theorem d2_4 : decode prog_25_method_2_code 4 = .ok (.aload_n 0, 1) := by decide +kernel
theorem d2_5 : decode prog_25_method_2_code 5 = .ok (.aload_n 1, 1) := by decide +kernel
theorem d2_6 : decode prog_25_method_2_code 6 = .ok (.putfield 7, 3) := by decide +kernel
theorem d2_9 : decode prog_25_method_2_code 9 = .ok (.aload_n 0, 1) := by decide +kernel
theorem d2_10 : decode prog_25_method_2_code 10 = .ok (.aload_n 2, 1) := by decide +kernel
theorem d2_11 : decode prog_25_method_2_code 11 = .ok (.putfield 13, 3) := by decide +kernel
theorem d2_14 : decode prog_25_method_2_code 14 = .ok (.aload_n 0, 1) := by decide +kernel
theorem d2_15 : decode prog_25_method_2_code 15 = .ok (.aload_n 3, 1) := by decide +kernel
theorem d2_16 : decode prog_25_method_2_code 16 = .ok (.putfield 16, 3) := by decide +kernel
theorem d2_19 : decode prog_25_method_2_code 19 = .ok (.aload_n 0, 1) := by decide +kernel
theorem d2_20 : decode prog_25_method_2_code 20 = .ok (.aload 4, 2) := by decide +kernel
theorem d2_22 : decode prog_25_method_2_code 22 = .ok (.putfield 19, 3) := by decide +kernel
theorem d2_25 : decode prog_25_method_2_code 25 = .ok (.aload_n 0, 1) := by decide +kernel
theorem d2_26 : decode prog_25_method_2_code 26 = .ok (.iload 5, 2) := by decide +kernel
theorem d2_28 : decode prog_25_method_2_code 28 = .ok (.putfield 22, 3) := by decide +kernel
theorem d2_31 : decode prog_25_method_2_code 31 = .ok (.return_, 1) := by decide +kernel
theorem d3_0 : decode jdk_30_method_1_code 0 = .ok (.aload_n 0, 1) := by decide +kernel
theorem d3_1 : decode jdk_30_method_1_code 1 = .ok (.invokespecial 1, 3) := by decide +kernel
theorem d3_4 : decode jdk_30_method_1_code 4 = .ok (.return_, 1) := by decide +kernel
theorem d5_0 : decode prog_25_method_3_code 0 = .ok (.iload_n 1, 1) := by decide +kernel
theorem d5_1 : decode prog_25_method_3_code 1 = .ok (.tableswitch 48 0 2 #[27, 34, 41], 27) := by decide +kernel
theorem d5_28 : decode prog_25_method_3_code 28 = .ok (.aload_n 0, 1) := by decide +kernel
theorem d5_29 : decode prog_25_method_3_code 29 = .ok (.getfield 7, 3) := by decide +kernel
theorem d5_32 : decode prog_25_method_3_code 32 = .ok (.goto 21, 3) := by decide +kernel
theorem d5_35 : decode prog_25_method_3_code 35 = .ok (.aload_n 0, 1) := by decide +kernel
theorem d5_36 : decode prog_25_method_3_code 36 = .ok (.getfield 13, 3) := by decide +kernel
theorem d5_39 : decode prog_25_method_3_code 39 = .ok (.goto 14, 3) := by decide +kernel
theorem d5_42 : decode prog_25_method_3_code 42 = .ok (.aload_n 0, 1) := by decide +kernel
theorem d5_43 : decode prog_25_method_3_code 43 = .ok (.getfield 16, 3) := by decide +kernel
theorem d5_46 : decode prog_25_method_3_code 46 = .ok (.goto 7, 3) := by decide +kernel
theorem d5_49 : decode prog_25_method_3_code 49 = .ok (.aload_n 0, 1) := by decide +kernel
theorem d5_50 : decode prog_25_method_3_code 50 = .ok (.getfield 19, 3) := by decide +kernel
theorem d5_53 : decode prog_25_method_3_code 53 = .ok (.areturn, 1) := by decide +kernel
theorem pn_0 : plainName "com/example/pipewright/pipewright/io/StateGetPinLaw" = true := by first | (simp [plainName, overriddenIn]; done) | decide +kernel
theorem pn_1 : plainName "java/lang/Record" = true := by first | (simp [plainName, overriddenIn]; done) | decide +kernel
theorem pn_2 : plainName "com/example/pipewright/pipewright/io/Iso2022Layout$State" = true := by first | (simp [plainName, overriddenIn]; done) | decide +kernel
theorem pd_0 : parseMethodDescriptor "(I)Lcom/example/pipewright/pipewright/io/Iso2022Layout$GraphicSet;" = some ⟨[.int], some (.object "com/example/pipewright/pipewright/io/Iso2022Layout$GraphicSet")⟩ := by decide +kernel
theorem pd_1 : parseMethodDescriptor "()V" = some ⟨[], none⟩ := by decide +kernel
theorem pd_2 : parseMethodDescriptor "(Lcom/example/pipewright/pipewright/io/Iso2022Layout$GraphicSet;Lcom/example/pipewright/pipewright/io/Iso2022Layout$GraphicSet;Lcom/example/pipewright/pipewright/io/Iso2022Layout$GraphicSet;Lcom/example/pipewright/pipewright/io/Iso2022Layout$GraphicSet;Z)V" = some ⟨[(.object "com/example/pipewright/pipewright/io/Iso2022Layout$GraphicSet"), (.object "com/example/pipewright/pipewright/io/Iso2022Layout$GraphicSet"), (.object "com/example/pipewright/pipewright/io/Iso2022Layout$GraphicSet"), (.object "com/example/pipewright/pipewright/io/Iso2022Layout$GraphicSet"), .boolean], none⟩ := by decide +kernel
theorem ef_1_I (m : MethodId) (x0 : Int32) : entryFrame m #[(.int x0)] 2 = mkF m 0 #[iv x0, .unset] [] := by first | (simp [entryFrame, mkF, argsToLocals, Value.category]; done) | rfl
theorem ef_3_R (m : MethodId) (x0 : Addr) : entryFrame m #[(.ref x0)] 1 = mkF m 0 #[rv x0] [] := by first | (simp [entryFrame, mkF, argsToLocals, Value.category]; done) | rfl
theorem ef_2_RVVVVI (m : MethodId) (x0 : Addr) (x1 : Value) (x2 : Value) (x3 : Value) (x4 : Value) (x5 : Int32) (hx1 : x1.isRef = true) (hx2 : x2.isRef = true) (hx3 : x3.isRef = true) (hx4 : x4.isRef = true) : entryFrame m #[(.ref x0), x1, x2, x3, x4, (.int x5)] 6 = mkF m 0 #[rv x0, .val x1, .val x2, .val x3, .val x4, iv x5] [] := by
  rcases ref_cases hx1 with qx1 | ⟨_, qx1⟩ <;> subst qx1 <;> rcases ref_cases hx2 with qx2 | ⟨_, qx2⟩ <;> subst qx2 <;> rcases ref_cases hx3 with qx3 | ⟨_, qx3⟩ <;> subst qx3 <;> rcases ref_cases hx4 with qx4 | ⟨_, qx4⟩ <;> subst qx4
  all_goals first | (simp [entryFrame, mkF, argsToLocals, Value.category]; done) | rfl
theorem ef_5_RI (m : MethodId) (x0 : Addr) (x1 : Int32) : entryFrame m #[(.ref x0), (.int x1)] 2 = mkF m 0 #[rv x0, iv x1] [] := by first | (simp [entryFrame, mkF, argsToLocals, Value.category]; done) | rfl
theorem ef_0_IIIIII (m : MethodId) (x0 : Int32) (x1 : Int32) (x2 : Int32) (x3 : Int32) (x4 : Int32) (x5 : Int32) : entryFrame m #[(.int x0), (.int x1), (.int x2), (.int x3), (.int x4), (.int x5)] maxLocals = mkF m 0 #[iv x0, iv x1, iv x2, iv x3, iv x4, iv x5, .unset, .unset, .unset, .unset, .unset, .unset, .unset, .unset] [] := by first | (simp [entryFrame, mkF, argsToLocals, Value.category, maxLocals]; done) | rfl
set_option maxRecDepth 65536 in
set_option maxHeartbeats 40000000 in
theorem rk1_0 (l : Launch) (Z : State) (a0 : Array Value) (hw : ∀ d ∈ tables_1, d.before a0 Z = true) (ws : List Jvm.Cond) (pk : Int32) (h0 : Heap) (n0 : Nat) (Z0 : n0 ≤ h0.size) (h48 : (pk &&& (48 : Int32)) = (48 : Int32)) :
    MetFree l (⟨"com/example/pipewright/pipewright/io/StateGetPinLaw", "pick", "(I)Lcom/example/pipewright/pipewright/io/Iso2022Layout$GraphicSet;"⟩ : MethodName) (head1 (Jvm.Cond.code (⟨"com/example/pipewright/pipewright/io/StateGetPinLaw", "pick", "(I)Lcom/example/pipewright/pipewright/io/Iso2022Layout$GraphicSet;"⟩ : MethodName) method_2_code 2 (some (.object "com/example/pipewright/pipewright/io/Iso2022Layout$GraphicSet")) :: ws) ({ frames := 0, cells := 0, slots := 0, locals := 0 } : Room)) (fun a U => a = #[(.int pk)] ∧ Z.Warmed39 U.vm ∧ U.heap = h0) (fun _ _ _ _ _ => True) (fun _ U o U' => ∃ v L, o = .returned v ∧ own_QP (some .null) h0 n0 v U'.heap L ∧ FrameEnd U o U' L ({ frames := 0, cells := 0, slots := 0, locals := 0 } : Room).cells ({ frames := 0, cells := 0, slots := 0, locals := 0 } : Room).slots) := by
  refine MetFree.of_bodySF (plainFor_of_name pn_0) hisR ?_
  intro p e s m args below meth c s₁ Bd hml0 hP hK
  obtain ⟨rfl, hZ, hh⟩ := hP
  have hx := Bd.exec
  have hby := Bd.bytes
  have hml : c.maxLocals = 2 := hml0
  have hown : s.vm.findClass "com/example/pipewright/pipewright/io/StateGetPinLaw" = some m.cls := findClass_of_methodNamed Bd.named
  have hnm := (name_of_methodNamed Bd.named Bd.method).1
  have X0 : Stand p l e ({ frames := 0, cells := 0, slots := 0, locals := 0 } : Room) s m #[(.int pk)] below meth c s₁ [] 0 0 := Stand.of_body Bd
  have e0 : s₁.heap = h0 := by rw [← hh, Bd.state]; rfl
  have N0 := Fr.nil n0
  have pre0 : ∀ t, Steps p.tables e below (s₁.setTop (mkF m 0 #[iv pk, .unset] [])) t → Steps p.tables e below (s₁.setTop (entryFrame m #[(.int pk)] 2)) t := fun t k => castTop (ef_1_I m pk) k
  obtain ⟨fs, hr, hrun, hended, hW, hsame⟩ := X0.leave (v := (some .null)) (fun h => by rw [Bd.returns] at h; cases h)
  refine ⟨_, _, pre0 _ ?_, hrun, hended, _, _, rfl, ?_, ⟨_, rfl⟩, hW, hsame.mono (by decide) (by decide)⟩
  · show Steps p.tables e below (s₁.setTop (mkF m 0 #[iv pk, .unset] [])) _
    refine XS.iloadN X0.here hx rfl (hb hby d1_0) rfl ?_
    show Steps p.tables e below (s₁.setTop (mkF m 1 #[iv pk, .unset] [(.int pk)])) _
    refine XS.bipush X0.here hx rfl (hb hby d1_1) ?_
    show Steps p.tables e below (s₁.setTop (mkF m 3 #[iv pk, .unset] [(.int (48 : Int32)), (.int pk)])) _
    refine XS.iand X0.here hx rfl (hb hby d1_3) rfl ?_
    show Steps p.tables e below (s₁.setTop (mkF m 4 #[iv pk, .unset] [(.int (pk &&& (48 : Int32)))])) _
    rewrite [h48]
    show Steps p.tables e below (s₁.setTop (mkF m 4 #[iv pk, .unset] [(.int (48 : Int32))])) _
    refine XS.bipush X0.here hx rfl (hb hby d1_4) ?_
    show Steps p.tables e below (s₁.setTop (mkF m 6 #[iv pk, .unset] [(.int (48 : Int32)), (.int (48 : Int32))])) _
    refine XS.icmpNo X0.here hx rfl (hb hby d1_6) rfl (teq (by decide +kernel : (48 : Int32) = (48 : Int32))).2 ?_
    show Steps p.tables e below (s₁.setTop (mkF m 9 #[iv pk, .unset] [])) _
    refine XS.aconstNull X0.here hx rfl (hb hby d1_9) ?_
    show Steps p.tables e below (s₁.setTop (mkF m 10 #[iv pk, .unset] [.null])) _
    exact own_retA X0 hx Bd.returns rfl rfl (hb hby d1_10) hr
  · exact ⟨rfl, N0, e0⟩
set_option maxRecDepth 65536 in
set_option maxHeartbeats 40000000 in
theorem rk1_1 (l : Launch) (Z : State) (a0 : Array Value) (hw : ∀ d ∈ tables_1, d.before a0 Z = true) (ws : List Jvm.Cond) (w_GraphicSet_ASCII : Addr) (pk : Int32) (h0 : Heap) (n0 : Nat) (Z0 : n0 ≤ h0.size) (h48 : ¬ ((pk &&& (48 : Int32)) = (48 : Int32))) (h15 : (pk &&& (15 : Int32)) = (0 : Int32)) (S_GraphicSet_ASCII : Sta Z h0 "com/example/pipewright/pipewright/io/Iso2022Layout$GraphicSet" "ASCII" "Lcom/example/pipewright/pipewright/io/Iso2022Layout$GraphicSet;" (.ref w_GraphicSet_ASCII)) :
    MetFree l (⟨"com/example/pipewright/pipewright/io/StateGetPinLaw", "pick", "(I)Lcom/example/pipewright/pipewright/io/Iso2022Layout$GraphicSet;"⟩ : MethodName) (head1 (Jvm.Cond.code (⟨"com/example/pipewright/pipewright/io/StateGetPinLaw", "pick", "(I)Lcom/example/pipewright/pipewright/io/Iso2022Layout$GraphicSet;"⟩ : MethodName) method_2_code 2 (some (.object "com/example/pipewright/pipewright/io/Iso2022Layout$GraphicSet")) :: ws) ({ frames := 0, cells := 0, slots := 0, locals := 0 } : Room)) (fun a U => a = #[(.int pk)] ∧ Z.Warmed39 U.vm ∧ U.heap = h0) (fun _ _ _ _ _ => True) (fun _ U o U' => ∃ v L, o = .returned v ∧ own_QP (some (.ref w_GraphicSet_ASCII)) h0 n0 v U'.heap L ∧ FrameEnd U o U' L ({ frames := 0, cells := 0, slots := 0, locals := 0 } : Room).cells ({ frames := 0, cells := 0, slots := 0, locals := 0 } : Room).slots) := by
  refine MetFree.of_bodySF (plainFor_of_name pn_0) hisR ?_
  intro p e s m args below meth c s₁ Bd hml0 hP hK
  obtain ⟨rfl, hZ, hh⟩ := hP
  have hx := Bd.exec
  have hby := Bd.bytes
  have hml : c.maxLocals = 2 := hml0
  have hown : s.vm.findClass "com/example/pipewright/pipewright/io/StateGetPinLaw" = some m.cls := findClass_of_methodNamed Bd.named
  have hnm := (name_of_methodNamed Bd.named Bd.method).1
  have X0 : Stand p l e ({ frames := 0, cells := 0, slots := 0, locals := 0 } : Room) s m #[(.int pk)] below meth c s₁ [] 0 0 := Stand.of_body Bd
  have e0 : s₁.heap = h0 := by rw [← hh, Bd.state]; rfl
  have N0 := Fr.nil n0
  have pre0 : ∀ t, Steps p.tables e below (s₁.setTop (mkF m 0 #[iv pk, .unset] [])) t → Steps p.tables e below (s₁.setTop (entryFrame m #[(.int pk)] 2)) t := fun t k => castTop (ef_1_I m pk) k
  obtain ⟨T1, X1, e1, st1⟩ := getS2 X0 hx hZ hown (host := "") (Or.inl (hw _ (List.mem_of_getElem? (i := 4) rfl))) Via.refl e0 S_GraphicSet_ASCII (g := (mkF m 31 #[iv pk, iv (0 : Int32)] [])) rfl (hb hby d1_31)
  obtain ⟨fs, hr, hrun, hended, hW, hsame⟩ := X1.leave (v := (some (.ref w_GraphicSet_ASCII))) (fun h => by rw [Bd.returns] at h; cases h)
  refine ⟨_, _, pre0 _ ?_, hrun, hended, _, _, rfl, ?_, ⟨_, rfl⟩, hW, hsame.mono (by decide) (by decide)⟩
  · show Steps p.tables e below (s₁.setTop (mkF m 0 #[iv pk, .unset] [])) _
    refine XS.iloadN X0.here hx rfl (hb hby d1_0) rfl ?_
    show Steps p.tables e below (s₁.setTop (mkF m 1 #[iv pk, .unset] [(.int pk)])) _
    refine XS.bipush X0.here hx rfl (hb hby d1_1) ?_
    show Steps p.tables e below (s₁.setTop (mkF m 3 #[iv pk, .unset] [(.int (48 : Int32)), (.int pk)])) _
    refine XS.iand X0.here hx rfl (hb hby d1_3) rfl ?_
    show Steps p.tables e below (s₁.setTop (mkF m 4 #[iv pk, .unset] [(.int (pk &&& (48 : Int32)))])) _
    refine XS.bipush X0.here hx rfl (hb hby d1_4) ?_
    show Steps p.tables e below (s₁.setTop (mkF m 6 #[iv pk, .unset] [(.int (48 : Int32)), (.int (pk &&& (48 : Int32)))])) _
    refine XS.icmpYes X0.here hx rfl (pc0 := 6) (pc' := 11) rfl (hb hby d1_6) rfl (feq h48).2 (by decide) (by decide) ?_
    show Steps p.tables e below (s₁.setTop (mkF m 11 #[iv pk, .unset] [])) _
    refine XS.iloadN X0.here hx rfl (hb hby d1_11) rfl ?_
    show Steps p.tables e below (s₁.setTop (mkF m 12 #[iv pk, .unset] [(.int pk)])) _
    refine XS.bipush X0.here hx rfl (hb hby d1_12) ?_
    show Steps p.tables e below (s₁.setTop (mkF m 14 #[iv pk, .unset] [(.int (15 : Int32)), (.int pk)])) _
    refine XS.iand X0.here hx rfl (hb hby d1_14) rfl ?_
    show Steps p.tables e below (s₁.setTop (mkF m 15 #[iv pk, .unset] [(.int (pk &&& (15 : Int32)))])) _
    rewrite [h15]
    show Steps p.tables e below (s₁.setTop (mkF m 15 #[iv pk, .unset] [(.int (0 : Int32))])) _
    refine XS.istoreN X0.here hx rfl (hb hby d1_15) rfl (l' := #[iv pk, iv (0 : Int32)]) rfl ?_
    show Steps p.tables e below (s₁.setTop (mkF m 16 #[iv pk, iv (0 : Int32)] [])) _
    refine XS.iloadN X0.here hx rfl (hb hby d1_16) rfl ?_
    show Steps p.tables e below (s₁.setTop (mkF m 17 #[iv pk, iv (0 : Int32)] [(.int (0 : Int32))])) _
    refine XS.bipush X0.here hx rfl (hb hby d1_17) ?_
    show Steps p.tables e below (s₁.setTop (mkF m 19 #[iv pk, iv (0 : Int32)] [(.int (8 : Int32)), (.int (0 : Int32))])) _
    refine XS.icmpNo X0.here hx rfl (hb hby d1_19) rfl (tlt (by decide +kernel : (0 : Int32) < (8 : Int32))).2.1 ?_
    show Steps p.tables e below (s₁.setTop (mkF m 22 #[iv pk, iv (0 : Int32)] [])) _
    refine XS.iloadN X0.here hx rfl (hb hby d1_22) rfl ?_
    show Steps p.tables e below (s₁.setTop (mkF m 23 #[iv pk, iv (0 : Int32)] [(.int (0 : Int32))])) _
    refine XS.iconst X0.here hx rfl (hb hby d1_23) ?_
    show Steps p.tables e below (s₁.setTop (mkF m 24 #[iv pk, iv (0 : Int32)] [(.int (4 : Int32)), (.int (0 : Int32))])) _
    refine XS.icmpNo X0.here hx rfl (hb hby d1_24) rfl (tlt (by decide +kernel : (0 : Int32) < (4 : Int32))).2.1 ?_
    show Steps p.tables e below (s₁.setTop (mkF m 27 #[iv pk, iv (0 : Int32)] [])) _
    refine XS.iloadN X0.here hx rfl (hb hby d1_27) rfl ?_
    show Steps p.tables e below (s₁.setTop (mkF m 28 #[iv pk, iv (0 : Int32)] [(.int (0 : Int32))])) _
    refine XS.ifNo X0.here hx rfl (hb hby d1_28) rfl ((if0 _ _).trans (teq (by decide +kernel : (0 : Int32) = (0 : Int32))).2) ?_
    show Steps p.tables e below (s₁.setTop (mkF m 31 #[iv pk, iv (0 : Int32)] [])) _
    refine st1 _ ?_
    show Steps p.tables e below (T1.setTop (mkF m 34 #[iv pk, iv (0 : Int32)] [(.ref w_GraphicSet_ASCII)])) _
    exact own_retA X1 hx Bd.returns rfl rfl (hb hby d1_34) hr
  · exact ⟨rfl, N0, e1⟩
set_option maxRecDepth 65536 in
set_option maxHeartbeats 40000000 in
theorem rk1_2 (l : Launch) (Z : State) (a0 : Array Value) (hw : ∀ d ∈ tables_1, d.before a0 Z = true) (ws : List Jvm.Cond) (w_GraphicSet_JIS_X_0201_ROMAN : Addr) (pk : Int32) (h0 : Heap) (n0 : Nat) (Z0 : n0 ≤ h0.size) (h48 : ¬ ((pk &&& (48 : Int32)) = (48 : Int32))) (h15 : (pk &&& (15 : Int32)) = (1 : Int32)) (S_GraphicSet_JIS_X_0201_ROMAN : Sta Z h0 "com/example/pipewright/pipewright/io/Iso2022Layout$GraphicSet" "JIS_X_0201_ROMAN" "Lcom/example/pipewright/pipewright/io/Iso2022Layout$GraphicSet;" (.ref w_GraphicSet_JIS_X_0201_ROMAN)) :
    MetFree l (⟨"com/example/pipewright/pipewright/io/StateGetPinLaw", "pick", "(I)Lcom/example/pipewright/pipewright/io/Iso2022Layout$GraphicSet;"⟩ : MethodName) (head1 (Jvm.Cond.code (⟨"com/example/pipewright/pipewright/io/StateGetPinLaw", "pick", "(I)Lcom/example/pipewright/pipewright/io/Iso2022Layout$GraphicSet;"⟩ : MethodName) method_2_code 2 (some (.object "com/example/pipewright/pipewright/io/Iso2022Layout$GraphicSet")) :: ws) ({ frames := 0, cells := 0, slots := 0, locals := 0 } : Room)) (fun a U => a = #[(.int pk)] ∧ Z.Warmed39 U.vm ∧ U.heap = h0) (fun _ _ _ _ _ => True) (fun _ U o U' => ∃ v L, o = .returned v ∧ own_QP (some (.ref w_GraphicSet_JIS_X_0201_ROMAN)) h0 n0 v U'.heap L ∧ FrameEnd U o U' L ({ frames := 0, cells := 0, slots := 0, locals := 0 } : Room).cells ({ frames := 0, cells := 0, slots := 0, locals := 0 } : Room).slots) := by
  refine MetFree.of_bodySF (plainFor_of_name pn_0) hisR ?_
  intro p e s m args below meth c s₁ Bd hml0 hP hK
  obtain ⟨rfl, hZ, hh⟩ := hP
  have hx := Bd.exec
  have hby := Bd.bytes
  have hml : c.maxLocals = 2 := hml0
  have hown : s.vm.findClass "com/example/pipewright/pipewright/io/StateGetPinLaw" = some m.cls := findClass_of_methodNamed Bd.named
  have hnm := (name_of_methodNamed Bd.named Bd.method).1
  have X0 : Stand p l e ({ frames := 0, cells := 0, slots := 0, locals := 0 } : Room) s m #[(.int pk)] below meth c s₁ [] 0 0 := Stand.of_body Bd
  have e0 : s₁.heap = h0 := by rw [← hh, Bd.state]; rfl
  have N0 := Fr.nil n0
  have pre0 : ∀ t, Steps p.tables e below (s₁.setTop (mkF m 0 #[iv pk, .unset] [])) t → Steps p.tables e below (s₁.setTop (entryFrame m #[(.int pk)] 2)) t := fun t k => castTop (ef_1_I m pk) k
  obtain ⟨T1, X1, e1, st1⟩ := getS2 X0 hx hZ hown (host := "") (Or.inl (hw _ (List.mem_of_getElem? (i := 11) rfl))) Via.refl e0 S_GraphicSet_JIS_X_0201_ROMAN (g := (mkF m 40 #[iv pk, iv (1 : Int32)] [])) rfl (hb hby d1_40)
  obtain ⟨fs, hr, hrun, hended, hW, hsame⟩ := X1.leave (v := (some (.ref w_GraphicSet_JIS_X_0201_ROMAN))) (fun h => by rw [Bd.returns] at h; cases h)
  refine ⟨_, _, pre0 _ ?_, hrun, hended, _, _, rfl, ?_, ⟨_, rfl⟩, hW, hsame.mono (by decide) (by decide)⟩
  · show Steps p.tables e below (s₁.setTop (mkF m 0 #[iv pk, .unset] [])) _
    refine XS.iloadN X0.here hx rfl (hb hby d1_0) rfl ?_
    show Steps p.tables e below (s₁.setTop (mkF m 1 #[iv pk, .unset] [(.int pk)])) _
    refine XS.bipush X0.here hx rfl (hb hby d1_1) ?_
    show Steps p.tables e below (s₁.setTop (mkF m 3 #[iv pk, .unset] [(.int (48 : Int32)), (.int pk)])) _
    refine XS.iand X0.here hx rfl (hb hby d1_3) rfl ?_
    show Steps p.tables e below (s₁.setTop (mkF m 4 #[iv pk, .unset] [(.int (pk &&& (48 : Int32)))])) _
    refine XS.bipush X0.here hx rfl (hb hby d1_4) ?_
    show Steps p.tables e below (s₁.setTop (mkF m 6 #[iv pk, .unset] [(.int (48 : Int32)), (.int (pk &&& (48 : Int32)))])) _
    refine XS.icmpYes X0.here hx rfl (pc0 := 6) (pc' := 11) rfl (hb hby d1_6) rfl (feq h48).2 (by decide) (by decide) ?_
    show Steps p.tables e below (s₁.setTop (mkF m 11 #[iv pk, .unset] [])) _
    refine XS.iloadN X0.here hx rfl (hb hby d1_11) rfl ?_
    show Steps p.tables e below (s₁.setTop (mkF m 12 #[iv pk, .unset] [(.int pk)])) _
    refine XS.bipush X0.here hx rfl (hb hby d1_12) ?_
    show Steps p.tables e below (s₁.setTop (mkF m 14 #[iv pk, .unset] [(.int (15 : Int32)), (.int pk)])) _
    refine XS.iand X0.here hx rfl (hb hby d1_14) rfl ?_
    show Steps p.tables e below (s₁.setTop (mkF m 15 #[iv pk, .unset] [(.int (pk &&& (15 : Int32)))])) _
    rewrite [h15]
    show Steps p.tables e below (s₁.setTop (mkF m 15 #[iv pk, .unset] [(.int (1 : Int32))])) _
    refine XS.istoreN X0.here hx rfl (hb hby d1_15) rfl (l' := #[iv pk, iv (1 : Int32)]) rfl ?_
    show Steps p.tables e below (s₁.setTop (mkF m 16 #[iv pk, iv (1 : Int32)] [])) _
    refine XS.iloadN X0.here hx rfl (hb hby d1_16) rfl ?_
    show Steps p.tables e below (s₁.setTop (mkF m 17 #[iv pk, iv (1 : Int32)] [(.int (1 : Int32))])) _
    refine XS.bipush X0.here hx rfl (hb hby d1_17) ?_
    show Steps p.tables e below (s₁.setTop (mkF m 19 #[iv pk, iv (1 : Int32)] [(.int (8 : Int32)), (.int (1 : Int32))])) _
    refine XS.icmpNo X0.here hx rfl (hb hby d1_19) rfl (tlt (by decide +kernel : (1 : Int32) < (8 : Int32))).2.1 ?_
    show Steps p.tables e below (s₁.setTop (mkF m 22 #[iv pk, iv (1 : Int32)] [])) _
    refine XS.iloadN X0.here hx rfl (hb hby d1_22) rfl ?_
    show Steps p.tables e below (s₁.setTop (mkF m 23 #[iv pk, iv (1 : Int32)] [(.int (1 : Int32))])) _
    refine XS.iconst X0.here hx rfl (hb hby d1_23) ?_
    show Steps p.tables e below (s₁.setTop (mkF m 24 #[iv pk, iv (1 : Int32)] [(.int (4 : Int32)), (.int (1 : Int32))])) _
    refine XS.icmpNo X0.here hx rfl (hb hby d1_24) rfl (tlt (by decide +kernel : (1 : Int32) < (4 : Int32))).2.1 ?_
    show Steps p.tables e below (s₁.setTop (mkF m 27 #[iv pk, iv (1 : Int32)] [])) _
    refine XS.iloadN X0.here hx rfl (hb hby d1_27) rfl ?_
    show Steps p.tables e below (s₁.setTop (mkF m 28 #[iv pk, iv (1 : Int32)] [(.int (1 : Int32))])) _
    refine XS.ifYes X0.here hx rfl (pc0 := 28) (pc' := 35) rfl (hb hby d1_28) rfl ((if0 _ _).trans (feq (by decide +kernel : ¬ ((1 : Int32) = (0 : Int32)))).2) (by decide) (by decide) ?_
    show Steps p.tables e below (s₁.setTop (mkF m 35 #[iv pk, iv (1 : Int32)] [])) _
    refine XS.iloadN X0.here hx rfl (hb hby d1_35) rfl ?_
    show Steps p.tables e below (s₁.setTop (mkF m 36 #[iv pk, iv (1 : Int32)] [(.int (1 : Int32))])) _
    refine XS.iconst X0.here hx rfl (hb hby d1_36) ?_
    show Steps p.tables e below (s₁.setTop (mkF m 37 #[iv pk, iv (1 : Int32)] [(.int (1 : Int32)), (.int (1 : Int32))])) _
    refine XS.icmpNo X0.here hx rfl (hb hby d1_37) rfl (teq (by decide +kernel : (1 : Int32) = (1 : Int32))).2 ?_
    show Steps p.tables e below (s₁.setTop (mkF m 40 #[iv pk, iv (1 : Int32)] [])) _
    refine st1 _ ?_
    show Steps p.tables e below (T1.setTop (mkF m 43 #[iv pk, iv (1 : Int32)] [(.ref w_GraphicSet_JIS_X_0201_ROMAN)])) _
    exact own_retA X1 hx Bd.returns rfl rfl (hb hby d1_43) hr
  · exact ⟨rfl, N0, e1⟩
set_option maxRecDepth 65536 in
set_option maxHeartbeats 40000000 in
theorem rk1_3 (l : Launch) (Z : State) (a0 : Array Value) (hw : ∀ d ∈ tables_1, d.before a0 Z = true) (ws : List Jvm.Cond) (w_GraphicSet_JIS_X_0201_KATAKANA : Addr) (pk : Int32) (h0 : Heap) (n0 : Nat) (Z0 : n0 ≤ h0.size) (h48 : ¬ ((pk &&& (48 : Int32)) = (48 : Int32))) (h15 : (pk &&& (15 : Int32)) = (2 : Int32)) (S_GraphicSet_JIS_X_0201_KATAKANA : Sta Z h0 "com/example/pipewright/pipewright/io/Iso2022Layout$GraphicSet" "JIS_X_0201_KATAKANA" "Lcom/example/pipewright/pipewright/io/Iso2022Layout$GraphicSet;" (.ref w_GraphicSet_JIS_X_0201_KATAKANA)) :
    MetFree l (⟨"com/example/pipewright/pipewright/io/StateGetPinLaw", "pick", "(I)Lcom/example/pipewright/pipewright/io/Iso2022Layout$GraphicSet;"⟩ : MethodName) (head1 (Jvm.Cond.code (⟨"com/example/pipewright/pipewright/io/StateGetPinLaw", "pick", "(I)Lcom/example/pipewright/pipewright/io/Iso2022Layout$GraphicSet;"⟩ : MethodName) method_2_code 2 (some (.object "com/example/pipewright/pipewright/io/Iso2022Layout$GraphicSet")) :: ws) ({ frames := 0, cells := 0, slots := 0, locals := 0 } : Room)) (fun a U => a = #[(.int pk)] ∧ Z.Warmed39 U.vm ∧ U.heap = h0) (fun _ _ _ _ _ => True) (fun _ U o U' => ∃ v L, o = .returned v ∧ own_QP (some (.ref w_GraphicSet_JIS_X_0201_KATAKANA)) h0 n0 v U'.heap L ∧ FrameEnd U o U' L ({ frames := 0, cells := 0, slots := 0, locals := 0 } : Room).cells ({ frames := 0, cells := 0, slots := 0, locals := 0 } : Room).slots) := by
  refine MetFree.of_bodySF (plainFor_of_name pn_0) hisR ?_
  intro p e s m args below meth c s₁ Bd hml0 hP hK
  obtain ⟨rfl, hZ, hh⟩ := hP
  have hx := Bd.exec
  have hby := Bd.bytes
  have hml : c.maxLocals = 2 := hml0
  have hown : s.vm.findClass "com/example/pipewright/pipewright/io/StateGetPinLaw" = some m.cls := findClass_of_methodNamed Bd.named
  have hnm := (name_of_methodNamed Bd.named Bd.method).1
  have X0 : Stand p l e ({ frames := 0, cells := 0, slots := 0, locals := 0 } : Room) s m #[(.int pk)] below meth c s₁ [] 0 0 := Stand.of_body Bd
  have e0 : s₁.heap = h0 := by rw [← hh, Bd.state]; rfl
  have N0 := Fr.nil n0
  have pre0 : ∀ t, Steps p.tables e below (s₁.setTop (mkF m 0 #[iv pk, .unset] [])) t → Steps p.tables e below (s₁.setTop (entryFrame m #[(.int pk)] 2)) t := fun t k => castTop (ef_1_I m pk) k
  obtain ⟨T1, X1, e1, st1⟩ := getS2 X0 hx hZ hown (host := "") (Or.inl (hw _ (List.mem_of_getElem? (i := 9) rfl))) Via.refl e0 S_GraphicSet_JIS_X_0201_KATAKANA (g := (mkF m 49 #[iv pk, iv (2 : Int32)] [])) rfl (hb hby d1_49)
  obtain ⟨fs, hr, hrun, hended, hW, hsame⟩ := X1.leave (v := (some (.ref w_GraphicSet_JIS_X_0201_KATAKANA))) (fun h => by rw [Bd.returns] at h; cases h)
  refine ⟨_, _, pre0 _ ?_, hrun, hended, _, _, rfl, ?_, ⟨_, rfl⟩, hW, hsame.mono (by decide) (by decide)⟩
  · show Steps p.tables e below (s₁.setTop (mkF m 0 #[iv pk, .unset] [])) _
    refine XS.iloadN X0.here hx rfl (hb hby d1_0) rfl ?_
    show Steps p.tables e below (s₁.setTop (mkF m 1 #[iv pk, .unset] [(.int pk)])) _
    refine XS.bipush X0.here hx rfl (hb hby d1_1) ?_
    show Steps p.tables e below (s₁.setTop (mkF m 3 #[iv pk, .unset] [(.int (48 : Int32)), (.int pk)])) _
    refine XS.iand X0.here hx rfl (hb hby d1_3) rfl ?_
    show Steps p.tables e below (s₁.setTop (mkF m 4 #[iv pk, .unset] [(.int (pk &&& (48 : Int32)))])) _
    refine XS.bipush X0.here hx rfl (hb hby d1_4) ?_
    show Steps p.tables e below (s₁.setTop (mkF m 6 #[iv pk, .unset] [(.int (48 : Int32)), (.int (pk &&& (48 : Int32)))])) _
    refine XS.icmpYes X0.here hx rfl (pc0 := 6) (pc' := 11) rfl (hb hby d1_6) rfl (feq h48).2 (by decide) (by decide) ?_
    show Steps p.tables e below (s₁.setTop (mkF m 11 #[iv pk, .unset] [])) _
    refine XS.iloadN X0.here hx rfl (hb hby d1_11) rfl ?_
    show Steps p.tables e below (s₁.setTop (mkF m 12 #[iv pk, .unset] [(.int pk)])) _
    refine XS.bipush X0.here hx rfl (hb hby d1_12) ?_
    show Steps p.tables e below (s₁.setTop (mkF m 14 #[iv pk, .unset] [(.int (15 : Int32)), (.int pk)])) _
    refine XS.iand X0.here hx rfl (hb hby d1_14) rfl ?_
    show Steps p.tables e below (s₁.setTop (mkF m 15 #[iv pk, .unset] [(.int (pk &&& (15 : Int32)))])) _
    rewrite [h15]
    show Steps p.tables e below (s₁.setTop (mkF m 15 #[iv pk, .unset] [(.int (2 : Int32))])) _
    refine XS.istoreN X0.here hx rfl (hb hby d1_15) rfl (l' := #[iv pk, iv (2 : Int32)]) rfl ?_
    show Steps p.tables e below (s₁.setTop (mkF m 16 #[iv pk, iv (2 : Int32)] [])) _
    refine XS.iloadN X0.here hx rfl (hb hby d1_16) rfl ?_
    show Steps p.tables e below (s₁.setTop (mkF m 17 #[iv pk, iv (2 : Int32)] [(.int (2 : Int32))])) _
    refine XS.bipush X0.here hx rfl (hb hby d1_17) ?_
    show Steps p.tables e below (s₁.setTop (mkF m 19 #[iv pk, iv (2 : Int32)] [(.int (8 : Int32)), (.int (2 : Int32))])) _
    refine XS.icmpNo X0.here hx rfl (hb hby d1_19) rfl (tlt (by decide +kernel : (2 : Int32) < (8 : Int32))).2.1 ?_
    show Steps p.tables e below (s₁.setTop (mkF m 22 #[iv pk, iv (2 : Int32)] [])) _
    refine XS.iloadN X0.here hx rfl (hb hby d1_22) rfl ?_
    show Steps p.tables e below (s₁.setTop (mkF m 23 #[iv pk, iv (2 : Int32)] [(.int (2 : Int32))])) _
    refine XS.iconst X0.here hx rfl (hb hby d1_23) ?_
    show Steps p.tables e below (s₁.setTop (mkF m 24 #[iv pk, iv (2 : Int32)] [(.int (4 : Int32)), (.int (2 : Int32))])) _
    refine XS.icmpNo X0.here hx rfl (hb hby d1_24) rfl (tlt (by decide +kernel : (2 : Int32) < (4 : Int32))).2.1 ?_
    show Steps p.tables e below (s₁.setTop (mkF m 27 #[iv pk, iv (2 : Int32)] [])) _
    refine XS.iloadN X0.here hx rfl (hb hby d1_27) rfl ?_
    show Steps p.tables e below (s₁.setTop (mkF m 28 #[iv pk, iv (2 : Int32)] [(.int (2 : Int32))])) _
    refine XS.ifYes X0.here hx rfl (pc0 := 28) (pc' := 35) rfl (hb hby d1_28) rfl ((if0 _ _).trans (feq (by decide +kernel : ¬ ((2 : Int32) = (0 : Int32)))).2) (by decide) (by decide) ?_
    show Steps p.tables e below (s₁.setTop (mkF m 35 #[iv pk, iv (2 : Int32)] [])) _
    refine XS.iloadN X0.here hx rfl (hb hby d1_35) rfl ?_
    show Steps p.tables e below (s₁.setTop (mkF m 36 #[iv pk, iv (2 : Int32)] [(.int (2 : Int32))])) _
    refine XS.iconst X0.here hx rfl (hb hby d1_36) ?_
    show Steps p.tables e below (s₁.setTop (mkF m 37 #[iv pk, iv (2 : Int32)] [(.int (1 : Int32)), (.int (2 : Int32))])) _
    refine XS.icmpYes X0.here hx rfl (pc0 := 37) (pc' := 44) rfl (hb hby d1_37) rfl (feq (by decide +kernel : ¬ ((2 : Int32) = (1 : Int32)))).2 (by decide) (by decide) ?_
    show Steps p.tables e below (s₁.setTop (mkF m 44 #[iv pk, iv (2 : Int32)] [])) _
    refine XS.iloadN X0.here hx rfl (hb hby d1_44) rfl ?_
    show Steps p.tables e below (s₁.setTop (mkF m 45 #[iv pk, iv (2 : Int32)] [(.int (2 : Int32))])) _
    refine XS.iconst X0.here hx rfl (hb hby d1_45) ?_
    show Steps p.tables e below (s₁.setTop (mkF m 46 #[iv pk, iv (2 : Int32)] [(.int (2 : Int32)), (.int (2 : Int32))])) _
    refine XS.icmpNo X0.here hx rfl (hb hby d1_46) rfl (teq (by decide +kernel : (2 : Int32) = (2 : Int32))).2 ?_
    show Steps p.tables e below (s₁.setTop (mkF m 49 #[iv pk, iv (2 : Int32)] [])) _
    refine st1 _ ?_
    show Steps p.tables e below (T1.setTop (mkF m 52 #[iv pk, iv (2 : Int32)] [(.ref w_GraphicSet_JIS_X_0201_KATAKANA)])) _
    exact own_retA X1 hx Bd.returns rfl rfl (hb hby d1_52) hr
  · exact ⟨rfl, N0, e1⟩
set_option maxRecDepth 65536 in
set_option maxHeartbeats 40000000 in
theorem rk1_4 (l : Launch) (Z : State) (a0 : Array Value) (hw : ∀ d ∈ tables_1, d.before a0 Z = true) (ws : List Jvm.Cond) (w_GraphicSet_UNREAD_ONE_BYTE : Addr) (pk : Int32) (h0 : Heap) (n0 : Nat) (Z0 : n0 ≤ h0.size) (h48 : ¬ ((pk &&& (48 : Int32)) = (48 : Int32))) (h15 : (pk &&& (15 : Int32)) = (3 : Int32)) (S_GraphicSet_UNREAD_ONE_BYTE : Sta Z h0 "com/example/pipewright/pipewright/io/Iso2022Layout$GraphicSet" "UNREAD_ONE_BYTE" "Lcom/example/pipewright/pipewright/io/Iso2022Layout$GraphicSet;" (.ref w_GraphicSet_UNREAD_ONE_BYTE)) :
    MetFree l (⟨"com/example/pipewright/pipewright/io/StateGetPinLaw", "pick", "(I)Lcom/example/pipewright/pipewright/io/Iso2022Layout$GraphicSet;"⟩ : MethodName) (head1 (Jvm.Cond.code (⟨"com/example/pipewright/pipewright/io/StateGetPinLaw", "pick", "(I)Lcom/example/pipewright/pipewright/io/Iso2022Layout$GraphicSet;"⟩ : MethodName) method_2_code 2 (some (.object "com/example/pipewright/pipewright/io/Iso2022Layout$GraphicSet")) :: ws) ({ frames := 0, cells := 0, slots := 0, locals := 0 } : Room)) (fun a U => a = #[(.int pk)] ∧ Z.Warmed39 U.vm ∧ U.heap = h0) (fun _ _ _ _ _ => True) (fun _ U o U' => ∃ v L, o = .returned v ∧ own_QP (some (.ref w_GraphicSet_UNREAD_ONE_BYTE)) h0 n0 v U'.heap L ∧ FrameEnd U o U' L ({ frames := 0, cells := 0, slots := 0, locals := 0 } : Room).cells ({ frames := 0, cells := 0, slots := 0, locals := 0 } : Room).slots) := by
  refine MetFree.of_bodySF (plainFor_of_name pn_0) hisR ?_
  intro p e s m args below meth c s₁ Bd hml0 hP hK
  obtain ⟨rfl, hZ, hh⟩ := hP
  have hx := Bd.exec
  have hby := Bd.bytes
  have hml : c.maxLocals = 2 := hml0
  have hown : s.vm.findClass "com/example/pipewright/pipewright/io/StateGetPinLaw" = some m.cls := findClass_of_methodNamed Bd.named
  have hnm := (name_of_methodNamed Bd.named Bd.method).1
  have X0 : Stand p l e ({ frames := 0, cells := 0, slots := 0, locals := 0 } : Room) s m #[(.int pk)] below meth c s₁ [] 0 0 := Stand.of_body Bd
  have e0 : s₁.heap = h0 := by rw [← hh, Bd.state]; rfl
  have N0 := Fr.nil n0
  have pre0 : ∀ t, Steps p.tables e below (s₁.setTop (mkF m 0 #[iv pk, .unset] [])) t → Steps p.tables e below (s₁.setTop (entryFrame m #[(.int pk)] 2)) t := fun t k => castTop (ef_1_I m pk) k
  obtain ⟨T1, X1, e1, st1⟩ := getS2 X0 hx hZ hown (host := "") (Or.inl (hw _ (List.mem_of_getElem? (i := 7) rfl))) Via.refl e0 S_GraphicSet_UNREAD_ONE_BYTE (g := (mkF m 53 #[iv pk, iv (3 : Int32)] [])) rfl (hb hby d1_53)
  obtain ⟨fs, hr, hrun, hended, hW, hsame⟩ := X1.leave (v := (some (.ref w_GraphicSet_UNREAD_ONE_BYTE))) (fun h => by rw [Bd.returns] at h; cases h)
  refine ⟨_, _, pre0 _ ?_, hrun, hended, _, _, rfl, ?_, ⟨_, rfl⟩, hW, hsame.mono (by decide) (by decide)⟩
  · show Steps p.tables e below (s₁.setTop (mkF m 0 #[iv pk, .unset] [])) _
    refine XS.iloadN X0.here hx rfl (hb hby d1_0) rfl ?_
    show Steps p.tables e below (s₁.setTop (mkF m 1 #[iv pk, .unset] [(.int pk)])) _
    refine XS.bipush X0.here hx rfl (hb hby d1_1) ?_
    show Steps p.tables e below (s₁.setTop (mkF m 3 #[iv pk, .unset] [(.int (48 : Int32)), (.int pk)])) _
    refine XS.iand X0.here hx rfl (hb hby d1_3) rfl ?_
    show Steps p.tables e below (s₁.setTop (mkF m 4 #[iv pk, .unset] [(.int (pk &&& (48 : Int32)))])) _
    refine XS.bipush X0.here hx rfl (hb hby d1_4) ?_
    show Steps p.tables e below (s₁.setTop (mkF m 6 #[iv pk, .unset] [(.int (48 : Int32)), (.int (pk &&& (48 : Int32)))])) _
    refine XS.icmpYes X0.here hx rfl (pc0 := 6) (pc' := 11) rfl (hb hby d1_6) rfl (feq h48).2 (by decide) (by decide) ?_
    show Steps p.tables e below (s₁.setTop (mkF m 11 #[iv pk, .unset] [])) _
    refine XS.iloadN X0.here hx rfl (hb hby d1_11) rfl ?_
    show Steps p.tables e below (s₁.setTop (mkF m 12 #[iv pk, .unset] [(.int pk)])) _
    refine XS.bipush X0.here hx rfl (hb hby d1_12) ?_
    show Steps p.tables e below (s₁.setTop (mkF m 14 #[iv pk, .unset] [(.int (15 : Int32)), (.int pk)])) _
    refine XS.iand X0.here hx rfl (hb hby d1_14) rfl ?_
    show Steps p.tables e below (s₁.setTop (mkF m 15 #[iv pk, .unset] [(.int (pk &&& (15 : Int32)))])) _
    rewrite [h15]
    show Steps p.tables e below (s₁.setTop (mkF m 15 #[iv pk, .unset] [(.int (3 : Int32))])) _
    refine XS.istoreN X0.here hx rfl (hb hby d1_15) rfl (l' := #[iv pk, iv (3 : Int32)]) rfl ?_
    show Steps p.tables e below (s₁.setTop (mkF m 16 #[iv pk, iv (3 : Int32)] [])) _
    refine XS.iloadN X0.here hx rfl (hb hby d1_16) rfl ?_
    show Steps p.tables e below (s₁.setTop (mkF m 17 #[iv pk, iv (3 : Int32)] [(.int (3 : Int32))])) _
    refine XS.bipush X0.here hx rfl (hb hby d1_17) ?_
    show Steps p.tables e below (s₁.setTop (mkF m 19 #[iv pk, iv (3 : Int32)] [(.int (8 : Int32)), (.int (3 : Int32))])) _
    refine XS.icmpNo X0.here hx rfl (hb hby d1_19) rfl (tlt (by decide +kernel : (3 : Int32) < (8 : Int32))).2.1 ?_
    show Steps p.tables e below (s₁.setTop (mkF m 22 #[iv pk, iv (3 : Int32)] [])) _
    refine XS.iloadN X0.here hx rfl (hb hby d1_22) rfl ?_
    show Steps p.tables e below (s₁.setTop (mkF m 23 #[iv pk, iv (3 : Int32)] [(.int (3 : Int32))])) _
    refine XS.iconst X0.here hx rfl (hb hby d1_23) ?_
    show Steps p.tables e below (s₁.setTop (mkF m 24 #[iv pk, iv (3 : Int32)] [(.int (4 : Int32)), (.int (3 : Int32))])) _
    refine XS.icmpNo X0.here hx rfl (hb hby d1_24) rfl (tlt (by decide +kernel : (3 : Int32) < (4 : Int32))).2.1 ?_
    show Steps p.tables e below (s₁.setTop (mkF m 27 #[iv pk, iv (3 : Int32)] [])) _
    refine XS.iloadN X0.here hx rfl (hb hby d1_27) rfl ?_
    show Steps p.tables e below (s₁.setTop (mkF m 28 #[iv pk, iv (3 : Int32)] [(.int (3 : Int32))])) _
    refine XS.ifYes X0.here hx rfl (pc0 := 28) (pc' := 35) rfl (hb hby d1_28) rfl ((if0 _ _).trans (feq (by decide +kernel : ¬ ((3 : Int32) = (0 : Int32)))).2) (by decide) (by decide) ?_
    show Steps p.tables e below (s₁.setTop (mkF m 35 #[iv pk, iv (3 : Int32)] [])) _
    refine XS.iloadN X0.here hx rfl (hb hby d1_35) rfl ?_
    show Steps p.tables e below (s₁.setTop (mkF m 36 #[iv pk, iv (3 : Int32)] [(.int (3 : Int32))])) _
    refine XS.iconst X0.here hx rfl (hb hby d1_36) ?_
    show Steps p.tables e below (s₁.setTop (mkF m 37 #[iv pk, iv (3 : Int32)] [(.int (1 : Int32)), (.int (3 : Int32))])) _
    refine XS.icmpYes X0.here hx rfl (pc0 := 37) (pc' := 44) rfl (hb hby d1_37) rfl (feq (by decide +kernel : ¬ ((3 : Int32) = (1 : Int32)))).2 (by decide) (by decide) ?_
    show Steps p.tables e below (s₁.setTop (mkF m 44 #[iv pk, iv (3 : Int32)] [])) _
    refine XS.iloadN X0.here hx rfl (hb hby d1_44) rfl ?_
    show Steps p.tables e below (s₁.setTop (mkF m 45 #[iv pk, iv (3 : Int32)] [(.int (3 : Int32))])) _
    refine XS.iconst X0.here hx rfl (hb hby d1_45) ?_
    show Steps p.tables e below (s₁.setTop (mkF m 46 #[iv pk, iv (3 : Int32)] [(.int (2 : Int32)), (.int (3 : Int32))])) _
    refine XS.icmpYes X0.here hx rfl (pc0 := 46) (pc' := 53) rfl (hb hby d1_46) rfl (feq (by decide +kernel : ¬ ((3 : Int32) = (2 : Int32)))).2 (by decide) (by decide) ?_
    show Steps p.tables e below (s₁.setTop (mkF m 53 #[iv pk, iv (3 : Int32)] [])) _
    refine st1 _ ?_
    show Steps p.tables e below (T1.setTop (mkF m 56 #[iv pk, iv (3 : Int32)] [(.ref w_GraphicSet_UNREAD_ONE_BYTE)])) _
    exact own_retA X1 hx Bd.returns rfl rfl (hb hby d1_56) hr
  · exact ⟨rfl, N0, e1⟩
set_option maxRecDepth 65536 in
set_option maxHeartbeats 40000000 in
theorem rk1_5 (l : Launch) (Z : State) (a0 : Array Value) (hw : ∀ d ∈ tables_1, d.before a0 Z = true) (ws : List Jvm.Cond) (w_GraphicSet_JIS_X_0208 : Addr) (pk : Int32) (h0 : Heap) (n0 : Nat) (Z0 : n0 ≤ h0.size) (h48 : ¬ ((pk &&& (48 : Int32)) = (48 : Int32))) (h15 : (pk &&& (15 : Int32)) = (4 : Int32)) (S_GraphicSet_JIS_X_0208 : Sta Z h0 "com/example/pipewright/pipewright/io/Iso2022Layout$GraphicSet" "JIS_X_0208" "Lcom/example/pipewright/pipewright/io/Iso2022Layout$GraphicSet;" (.ref w_GraphicSet_JIS_X_0208)) :
    MetFree l (⟨"com/example/pipewright/pipewright/io/StateGetPinLaw", "pick", "(I)Lcom/example/pipewright/pipewright/io/Iso2022Layout$GraphicSet;"⟩ : MethodName) (head1 (Jvm.Cond.code (⟨"com/example/pipewright/pipewright/io/StateGetPinLaw", "pick", "(I)Lcom/example/pipewright/pipewright/io/Iso2022Layout$GraphicSet;"⟩ : MethodName) method_2_code 2 (some (.object "com/example/pipewright/pipewright/io/Iso2022Layout$GraphicSet")) :: ws) ({ frames := 0, cells := 0, slots := 0, locals := 0 } : Room)) (fun a U => a = #[(.int pk)] ∧ Z.Warmed39 U.vm ∧ U.heap = h0) (fun _ _ _ _ _ => True) (fun _ U o U' => ∃ v L, o = .returned v ∧ own_QP (some (.ref w_GraphicSet_JIS_X_0208)) h0 n0 v U'.heap L ∧ FrameEnd U o U' L ({ frames := 0, cells := 0, slots := 0, locals := 0 } : Room).cells ({ frames := 0, cells := 0, slots := 0, locals := 0 } : Room).slots) := by
  refine MetFree.of_bodySF (plainFor_of_name pn_0) hisR ?_
  intro p e s m args below meth c s₁ Bd hml0 hP hK
  obtain ⟨rfl, hZ, hh⟩ := hP
  have hx := Bd.exec
  have hby := Bd.bytes
  have hml : c.maxLocals = 2 := hml0
  have hown : s.vm.findClass "com/example/pipewright/pipewright/io/StateGetPinLaw" = some m.cls := findClass_of_methodNamed Bd.named
  have hnm := (name_of_methodNamed Bd.named Bd.method).1
  have X0 : Stand p l e ({ frames := 0, cells := 0, slots := 0, locals := 0 } : Room) s m #[(.int pk)] below meth c s₁ [] 0 0 := Stand.of_body Bd
  have e0 : s₁.heap = h0 := by rw [← hh, Bd.state]; rfl
  have N0 := Fr.nil n0
  have pre0 : ∀ t, Steps p.tables e below (s₁.setTop (mkF m 0 #[iv pk, .unset] [])) t → Steps p.tables e below (s₁.setTop (entryFrame m #[(.int pk)] 2)) t := fun t k => castTop (ef_1_I m pk) k
  obtain ⟨T1, X1, e1, st1⟩ := getS2 X0 hx hZ hown (host := "") (Or.inl (hw _ (List.mem_of_getElem? (i := 42) rfl))) Via.refl e0 S_GraphicSet_JIS_X_0208 (g := (mkF m 62 #[iv pk, iv (4 : Int32)] [])) rfl (hb hby d1_62)
  obtain ⟨fs, hr, hrun, hended, hW, hsame⟩ := X1.leave (v := (some (.ref w_GraphicSet_JIS_X_0208))) (fun h => by rw [Bd.returns] at h; cases h)
  refine ⟨_, _, pre0 _ ?_, hrun, hended, _, _, rfl, ?_, ⟨_, rfl⟩, hW, hsame.mono (by decide) (by decide)⟩
  · show Steps p.tables e below (s₁.setTop (mkF m 0 #[iv pk, .unset] [])) _
    refine XS.iloadN X0.here hx rfl (hb hby d1_0) rfl ?_
    show Steps p.tables e below (s₁.setTop (mkF m 1 #[iv pk, .unset] [(.int pk)])) _
    refine XS.bipush X0.here hx rfl (hb hby d1_1) ?_
    show Steps p.tables e below (s₁.setTop (mkF m 3 #[iv pk, .unset] [(.int (48 : Int32)), (.int pk)])) _
    refine XS.iand X0.here hx rfl (hb hby d1_3) rfl ?_
    show Steps p.tables e below (s₁.setTop (mkF m 4 #[iv pk, .unset] [(.int (pk &&& (48 : Int32)))])) _
    refine XS.bipush X0.here hx rfl (hb hby d1_4) ?_
    show Steps p.tables e below (s₁.setTop (mkF m 6 #[iv pk, .unset] [(.int (48 : Int32)), (.int (pk &&& (48 : Int32)))])) _
    refine XS.icmpYes X0.here hx rfl (pc0 := 6) (pc' := 11) rfl (hb hby d1_6) rfl (feq h48).2 (by decide) (by decide) ?_
    show Steps p.tables e below (s₁.setTop (mkF m 11 #[iv pk, .unset] [])) _
    refine XS.iloadN X0.here hx rfl (hb hby d1_11) rfl ?_
    show Steps p.tables e below (s₁.setTop (mkF m 12 #[iv pk, .unset] [(.int pk)])) _
    refine XS.bipush X0.here hx rfl (hb hby d1_12) ?_
    show Steps p.tables e below (s₁.setTop (mkF m 14 #[iv pk, .unset] [(.int (15 : Int32)), (.int pk)])) _
    refine XS.iand X0.here hx rfl (hb hby d1_14) rfl ?_
    show Steps p.tables e below (s₁.setTop (mkF m 15 #[iv pk, .unset] [(.int (pk &&& (15 : Int32)))])) _
    rewrite [h15]
    show Steps p.tables e below (s₁.setTop (mkF m 15 #[iv pk, .unset] [(.int (4 : Int32))])) _
    refine XS.istoreN X0.here hx rfl (hb hby d1_15) rfl (l' := #[iv pk, iv (4 : Int32)]) rfl ?_
    show Steps p.tables e below (s₁.setTop (mkF m 16 #[iv pk, iv (4 : Int32)] [])) _
    refine XS.iloadN X0.here hx rfl (hb hby d1_16) rfl ?_
    show Steps p.tables e below (s₁.setTop (mkF m 17 #[iv pk, iv (4 : Int32)] [(.int (4 : Int32))])) _
    refine XS.bipush X0.here hx rfl (hb hby d1_17) ?_
    show Steps p.tables e below (s₁.setTop (mkF m 19 #[iv pk, iv (4 : Int32)] [(.int (8 : Int32)), (.int (4 : Int32))])) _
    refine XS.icmpNo X0.here hx rfl (hb hby d1_19) rfl (tlt (by decide +kernel : (4 : Int32) < (8 : Int32))).2.1 ?_
    show Steps p.tables e below (s₁.setTop (mkF m 22 #[iv pk, iv (4 : Int32)] [])) _
    refine XS.iloadN X0.here hx rfl (hb hby d1_22) rfl ?_
    show Steps p.tables e below (s₁.setTop (mkF m 23 #[iv pk, iv (4 : Int32)] [(.int (4 : Int32))])) _
    refine XS.iconst X0.here hx rfl (hb hby d1_23) ?_
    show Steps p.tables e below (s₁.setTop (mkF m 24 #[iv pk, iv (4 : Int32)] [(.int (4 : Int32)), (.int (4 : Int32))])) _
    refine XS.icmpYes X0.here hx rfl (pc0 := 24) (pc' := 57) rfl (hb hby d1_24) rfl (flt (by decide +kernel : ¬ ((4 : Int32) < (4 : Int32)))).2.1 (by decide) (by decide) ?_
    show Steps p.tables e below (s₁.setTop (mkF m 57 #[iv pk, iv (4 : Int32)] [])) _
    refine XS.iloadN X0.here hx rfl (hb hby d1_57) rfl ?_
    show Steps p.tables e below (s₁.setTop (mkF m 58 #[iv pk, iv (4 : Int32)] [(.int (4 : Int32))])) _
    refine XS.iconst X0.here hx rfl (hb hby d1_58) ?_
    show Steps p.tables e below (s₁.setTop (mkF m 59 #[iv pk, iv (4 : Int32)] [(.int (4 : Int32)), (.int (4 : Int32))])) _
    refine XS.icmpNo X0.here hx rfl (hb hby d1_59) rfl (teq (by decide +kernel : (4 : Int32) = (4 : Int32))).2 ?_
    show Steps p.tables e below (s₁.setTop (mkF m 62 #[iv pk, iv (4 : Int32)] [])) _
    refine st1 _ ?_
    show Steps p.tables e below (T1.setTop (mkF m 65 #[iv pk, iv (4 : Int32)] [(.ref w_GraphicSet_JIS_X_0208)])) _
    exact own_retA X1 hx Bd.returns rfl rfl (hb hby d1_65) hr
  · exact ⟨rfl, N0, e1⟩
set_option maxRecDepth 65536 in
set_option maxHeartbeats 40000000 in
theorem rk1_6 (l : Launch) (Z : State) (a0 : Array Value) (hw : ∀ d ∈ tables_1, d.before a0 Z = true) (ws : List Jvm.Cond) (w_GraphicSet_JIS_X_0212 : Addr) (pk : Int32) (h0 : Heap) (n0 : Nat) (Z0 : n0 ≤ h0.size) (h48 : ¬ ((pk &&& (48 : Int32)) = (48 : Int32))) (h15 : (pk &&& (15 : Int32)) = (5 : Int32)) (S_GraphicSet_JIS_X_0212 : Sta Z h0 "com/example/pipewright/pipewright/io/Iso2022Layout$GraphicSet" "JIS_X_0212" "Lcom/example/pipewright/pipewright/io/Iso2022Layout$GraphicSet;" (.ref w_GraphicSet_JIS_X_0212)) :
    MetFree l (⟨"com/example/pipewright/pipewright/io/StateGetPinLaw", "pick", "(I)Lcom/example/pipewright/pipewright/io/Iso2022Layout$GraphicSet;"⟩ : MethodName) (head1 (Jvm.Cond.code (⟨"com/example/pipewright/pipewright/io/StateGetPinLaw", "pick", "(I)Lcom/example/pipewright/pipewright/io/Iso2022Layout$GraphicSet;"⟩ : MethodName) method_2_code 2 (some (.object "com/example/pipewright/pipewright/io/Iso2022Layout$GraphicSet")) :: ws) ({ frames := 0, cells := 0, slots := 0, locals := 0 } : Room)) (fun a U => a = #[(.int pk)] ∧ Z.Warmed39 U.vm ∧ U.heap = h0) (fun _ _ _ _ _ => True) (fun _ U o U' => ∃ v L, o = .returned v ∧ own_QP (some (.ref w_GraphicSet_JIS_X_0212)) h0 n0 v U'.heap L ∧ FrameEnd U o U' L ({ frames := 0, cells := 0, slots := 0, locals := 0 } : Room).cells ({ frames := 0, cells := 0, slots := 0, locals := 0 } : Room).slots) := by
  refine MetFree.of_bodySF (plainFor_of_name pn_0) hisR ?_
  intro p e s m args below meth c s₁ Bd hml0 hP hK
  obtain ⟨rfl, hZ, hh⟩ := hP
  have hx := Bd.exec
  have hby := Bd.bytes
  have hml : c.maxLocals = 2 := hml0
  have hown : s.vm.findClass "com/example/pipewright/pipewright/io/StateGetPinLaw" = some m.cls := findClass_of_methodNamed Bd.named
  have hnm := (name_of_methodNamed Bd.named Bd.method).1
  have X0 : Stand p l e ({ frames := 0, cells := 0, slots := 0, locals := 0 } : Room) s m #[(.int pk)] below meth c s₁ [] 0 0 := Stand.of_body Bd
  have e0 : s₁.heap = h0 := by rw [← hh, Bd.state]; rfl
  have N0 := Fr.nil n0
  have pre0 : ∀ t, Steps p.tables e below (s₁.setTop (mkF m 0 #[iv pk, .unset] [])) t → Steps p.tables e below (s₁.setTop (entryFrame m #[(.int pk)] 2)) t := fun t k => castTop (ef_1_I m pk) k
  obtain ⟨T1, X1, e1, st1⟩ := getS2 X0 hx hZ hown (host := "") (Or.inl (hw _ (List.mem_of_getElem? (i := 60) rfl))) Via.refl e0 S_GraphicSet_JIS_X_0212 (g := (mkF m 71 #[iv pk, iv (5 : Int32)] [])) rfl (hb hby d1_71)
  obtain ⟨fs, hr, hrun, hended, hW, hsame⟩ := X1.leave (v := (some (.ref w_GraphicSet_JIS_X_0212))) (fun h => by rw [Bd.returns] at h; cases h)
  refine ⟨_, _, pre0 _ ?_, hrun, hended, _, _, rfl, ?_, ⟨_, rfl⟩, hW, hsame.mono (by decide) (by decide)⟩
  · show Steps p.tables e below (s₁.setTop (mkF m 0 #[iv pk, .unset] [])) _
    refine XS.iloadN X0.here hx rfl (hb hby d1_0) rfl ?_
    show Steps p.tables e below (s₁.setTop (mkF m 1 #[iv pk, .unset] [(.int pk)])) _
    refine XS.bipush X0.here hx rfl (hb hby d1_1) ?_
    show Steps p.tables e below (s₁.setTop (mkF m 3 #[iv pk, .unset] [(.int (48 : Int32)), (.int pk)])) _
    refine XS.iand X0.here hx rfl (hb hby d1_3) rfl ?_
    show Steps p.tables e below (s₁.setTop (mkF m 4 #[iv pk, .unset] [(.int (pk &&& (48 : Int32)))])) _
    refine XS.bipush X0.here hx rfl (hb hby d1_4) ?_
    show Steps p.tables e below (s₁.setTop (mkF m 6 #[iv pk, .unset] [(.int (48 : Int32)), (.int (pk &&& (48 : Int32)))])) _
    refine XS.icmpYes X0.here hx rfl (pc0 := 6) (pc' := 11) rfl (hb hby d1_6) rfl (feq h48).2 (by decide) (by decide) ?_
    show Steps p.tables e below (s₁.setTop (mkF m 11 #[iv pk, .unset] [])) _
    refine XS.iloadN X0.here hx rfl (hb hby d1_11) rfl ?_
    show Steps p.tables e below (s₁.setTop (mkF m 12 #[iv pk, .unset] [(.int pk)])) _
    refine XS.bipush X0.here hx rfl (hb hby d1_12) ?_
    show Steps p.tables e below (s₁.setTop (mkF m 14 #[iv pk, .unset] [(.int (15 : Int32)), (.int pk)])) _
    refine XS.iand X0.here hx rfl (hb hby d1_14) rfl ?_
    show Steps p.tables e below (s₁.setTop (mkF m 15 #[iv pk, .unset] [(.int (pk &&& (15 : Int32)))])) _
    rewrite [h15]
    show Steps p.tables e below (s₁.setTop (mkF m 15 #[iv pk, .unset] [(.int (5 : Int32))])) _
    refine XS.istoreN X0.here hx rfl (hb hby d1_15) rfl (l' := #[iv pk, iv (5 : Int32)]) rfl ?_
    show Steps p.tables e below (s₁.setTop (mkF m 16 #[iv pk, iv (5 : Int32)] [])) _
    refine XS.iloadN X0.here hx rfl (hb hby d1_16) rfl ?_
    show Steps p.tables e below (s₁.setTop (mkF m 17 #[iv pk, iv (5 : Int32)] [(.int (5 : Int32))])) _
    refine XS.bipush X0.here hx rfl (hb hby d1_17) ?_
    show Steps p.tables e below (s₁.setTop (mkF m 19 #[iv pk, iv (5 : Int32)] [(.int (8 : Int32)), (.int (5 : Int32))])) _
    refine XS.icmpNo X0.here hx rfl (hb hby d1_19) rfl (tlt (by decide +kernel : (5 : Int32) < (8 : Int32))).2.1 ?_
    show Steps p.tables e below (s₁.setTop (mkF m 22 #[iv pk, iv (5 : Int32)] [])) _
    refine XS.iloadN X0.here hx rfl (hb hby d1_22) rfl ?_
    show Steps p.tables e below (s₁.setTop (mkF m 23 #[iv pk, iv (5 : Int32)] [(.int (5 : Int32))])) _
    refine XS.iconst X0.here hx rfl (hb hby d1_23) ?_
    show Steps p.tables e below (s₁.setTop (mkF m 24 #[iv pk, iv (5 : Int32)] [(.int (4 : Int32)), (.int (5 : Int32))])) _
    refine XS.icmpYes X0.here hx rfl (pc0 := 24) (pc' := 57) rfl (hb hby d1_24) rfl (flt (by decide +kernel : ¬ ((5 : Int32) < (4 : Int32)))).2.1 (by decide) (by decide) ?_
    show Steps p.tables e below (s₁.setTop (mkF m 57 #[iv pk, iv (5 : Int32)] [])) _
    refine XS.iloadN X0.here hx rfl (hb hby d1_57) rfl ?_
    show Steps p.tables e below (s₁.setTop (mkF m 58 #[iv pk, iv (5 : Int32)] [(.int (5 : Int32))])) _
    refine XS.iconst X0.here hx rfl (hb hby d1_58) ?_
    show Steps p.tables e below (s₁.setTop (mkF m 59 #[iv pk, iv (5 : Int32)] [(.int (4 : Int32)), (.int (5 : Int32))])) _
    refine XS.icmpYes X0.here hx rfl (pc0 := 59) (pc' := 66) rfl (hb hby d1_59) rfl (feq (by decide +kernel : ¬ ((5 : Int32) = (4 : Int32)))).2 (by decide) (by decide) ?_
    show Steps p.tables e below (s₁.setTop (mkF m 66 #[iv pk, iv (5 : Int32)] [])) _
    refine XS.iloadN X0.here hx rfl (hb hby d1_66) rfl ?_
    show Steps p.tables e below (s₁.setTop (mkF m 67 #[iv pk, iv (5 : Int32)] [(.int (5 : Int32))])) _
    refine XS.iconst X0.here hx rfl (hb hby d1_67) ?_
    show Steps p.tables e below (s₁.setTop (mkF m 68 #[iv pk, iv (5 : Int32)] [(.int (5 : Int32)), (.int (5 : Int32))])) _
    refine XS.icmpNo X0.here hx rfl (hb hby d1_68) rfl (teq (by decide +kernel : (5 : Int32) = (5 : Int32))).2 ?_
    show Steps p.tables e below (s₁.setTop (mkF m 71 #[iv pk, iv (5 : Int32)] [])) _
    refine st1 _ ?_
    show Steps p.tables e below (T1.setTop (mkF m 74 #[iv pk, iv (5 : Int32)] [(.ref w_GraphicSet_JIS_X_0212)])) _
    exact own_retA X1 hx Bd.returns rfl rfl (hb hby d1_74) hr
  · exact ⟨rfl, N0, e1⟩
set_option maxRecDepth 65536 in
set_option maxHeartbeats 40000000 in
theorem rk1_7 (l : Launch) (Z : State) (a0 : Array Value) (hw : ∀ d ∈ tables_1, d.before a0 Z = true) (ws : List Jvm.Cond) (w_GraphicSet_GB_2312 : Addr) (pk : Int32) (h0 : Heap) (n0 : Nat) (Z0 : n0 ≤ h0.size) (h48 : ¬ ((pk &&& (48 : Int32)) = (48 : Int32))) (h15 : (pk &&& (15 : Int32)) = (6 : Int32)) (S_GraphicSet_GB_2312 : Sta Z h0 "com/example/pipewright/pipewright/io/Iso2022Layout$GraphicSet" "GB_2312" "Lcom/example/pipewright/pipewright/io/Iso2022Layout$GraphicSet;" (.ref w_GraphicSet_GB_2312)) :
    MetFree l (⟨"com/example/pipewright/pipewright/io/StateGetPinLaw", "pick", "(I)Lcom/example/pipewright/pipewright/io/Iso2022Layout$GraphicSet;"⟩ : MethodName) (head1 (Jvm.Cond.code (⟨"com/example/pipewright/pipewright/io/StateGetPinLaw", "pick", "(I)Lcom/example/pipewright/pipewright/io/Iso2022Layout$GraphicSet;"⟩ : MethodName) method_2_code 2 (some (.object "com/example/pipewright/pipewright/io/Iso2022Layout$GraphicSet")) :: ws) ({ frames := 0, cells := 0, slots := 0, locals := 0 } : Room)) (fun a U => a = #[(.int pk)] ∧ Z.Warmed39 U.vm ∧ U.heap = h0) (fun _ _ _ _ _ => True) (fun _ U o U' => ∃ v L, o = .returned v ∧ own_QP (some (.ref w_GraphicSet_GB_2312)) h0 n0 v U'.heap L ∧ FrameEnd U o U' L ({ frames := 0, cells := 0, slots := 0, locals := 0 } : Room).cells ({ frames := 0, cells := 0, slots := 0, locals := 0 } : Room).slots) := by
  refine MetFree.of_bodySF (plainFor_of_name pn_0) hisR ?_
  intro p e s m args below meth c s₁ Bd hml0 hP hK
  obtain ⟨rfl, hZ, hh⟩ := hP
  have hx := Bd.exec
  have hby := Bd.bytes
  have hml : c.maxLocals = 2 := hml0
  have hown : s.vm.findClass "com/example/pipewright/pipewright/io/StateGetPinLaw" = some m.cls := findClass_of_methodNamed Bd.named
  have hnm := (name_of_methodNamed Bd.named Bd.method).1
  have X0 : Stand p l e ({ frames := 0, cells := 0, slots := 0, locals := 0 } : Room) s m #[(.int pk)] below meth c s₁ [] 0 0 := Stand.of_body Bd
  have e0 : s₁.heap = h0 := by rw [← hh, Bd.state]; rfl
  have N0 := Fr.nil n0
  have pre0 : ∀ t, Steps p.tables e below (s₁.setTop (mkF m 0 #[iv pk, .unset] [])) t → Steps p.tables e below (s₁.setTop (entryFrame m #[(.int pk)] 2)) t := fun t k => castTop (ef_1_I m pk) k
  obtain ⟨T1, X1, e1, st1⟩ := getS2 X0 hx hZ hown (host := "") (Or.inl (hw _ (List.mem_of_getElem? (i := 62) rfl))) Via.refl e0 S_GraphicSet_GB_2312 (g := (mkF m 81 #[iv pk, iv (6 : Int32)] [])) rfl (hb hby d1_81)
  obtain ⟨fs, hr, hrun, hended, hW, hsame⟩ := X1.leave (v := (some (.ref w_GraphicSet_GB_2312))) (fun h => by rw [Bd.returns] at h; cases h)
  refine ⟨_, _, pre0 _ ?_, hrun, hended, _, _, rfl, ?_, ⟨_, rfl⟩, hW, hsame.mono (by decide) (by decide)⟩
  · show Steps p.tables e below (s₁.setTop (mkF m 0 #[iv pk, .unset] [])) _
    refine XS.iloadN X0.here hx rfl (hb hby d1_0) rfl ?_
    show Steps p.tables e below (s₁.setTop (mkF m 1 #[iv pk, .unset] [(.int pk)])) _
    refine XS.bipush X0.here hx rfl (hb hby d1_1) ?_
    show Steps p.tables e below (s₁.setTop (mkF m 3 #[iv pk, .unset] [(.int (48 : Int32)), (.int pk)])) _
    refine XS.iand X0.here hx rfl (hb hby d1_3) rfl ?_
    show Steps p.tables e below (s₁.setTop (mkF m 4 #[iv pk, .unset] [(.int (pk &&& (48 : Int32)))])) _
    refine XS.bipush X0.here hx rfl (hb hby d1_4) ?_
    show Steps p.tables e below (s₁.setTop (mkF m 6 #[iv pk, .unset] [(.int (48 : Int32)), (.int (pk &&& (48 : Int32)))])) _
    refine XS.icmpYes X0.here hx rfl (pc0 := 6) (pc' := 11) rfl (hb hby d1_6) rfl (feq h48).2 (by decide) (by decide) ?_
    show Steps p.tables e below (s₁.setTop (mkF m 11 #[iv pk, .unset] [])) _
    refine XS.iloadN X0.here hx rfl (hb hby d1_11) rfl ?_
    show Steps p.tables e below (s₁.setTop (mkF m 12 #[iv pk, .unset] [(.int pk)])) _
    refine XS.bipush X0.here hx rfl (hb hby d1_12) ?_
    show Steps p.tables e below (s₁.setTop (mkF m 14 #[iv pk, .unset] [(.int (15 : Int32)), (.int pk)])) _
    refine XS.iand X0.here hx rfl (hb hby d1_14) rfl ?_
    show Steps p.tables e below (s₁.setTop (mkF m 15 #[iv pk, .unset] [(.int (pk &&& (15 : Int32)))])) _
    rewrite [h15]
    show Steps p.tables e below (s₁.setTop (mkF m 15 #[iv pk, .unset] [(.int (6 : Int32))])) _
    refine XS.istoreN X0.here hx rfl (hb hby d1_15) rfl (l' := #[iv pk, iv (6 : Int32)]) rfl ?_
    show Steps p.tables e below (s₁.setTop (mkF m 16 #[iv pk, iv (6 : Int32)] [])) _
    refine XS.iloadN X0.here hx rfl (hb hby d1_16) rfl ?_
    show Steps p.tables e below (s₁.setTop (mkF m 17 #[iv pk, iv (6 : Int32)] [(.int (6 : Int32))])) _
    refine XS.bipush X0.here hx rfl (hb hby d1_17) ?_
    show Steps p.tables e below (s₁.setTop (mkF m 19 #[iv pk, iv (6 : Int32)] [(.int (8 : Int32)), (.int (6 : Int32))])) _
    refine XS.icmpNo X0.here hx rfl (hb hby d1_19) rfl (tlt (by decide +kernel : (6 : Int32) < (8 : Int32))).2.1 ?_
    show Steps p.tables e below (s₁.setTop (mkF m 22 #[iv pk, iv (6 : Int32)] [])) _
    refine XS.iloadN X0.here hx rfl (hb hby d1_22) rfl ?_
    show Steps p.tables e below (s₁.setTop (mkF m 23 #[iv pk, iv (6 : Int32)] [(.int (6 : Int32))])) _
    refine XS.iconst X0.here hx rfl (hb hby d1_23) ?_
    show Steps p.tables e below (s₁.setTop (mkF m 24 #[iv pk, iv (6 : Int32)] [(.int (4 : Int32)), (.int (6 : Int32))])) _
    refine XS.icmpYes X0.here hx rfl (pc0 := 24) (pc' := 57) rfl (hb hby d1_24) rfl (flt (by decide +kernel : ¬ ((6 : Int32) < (4 : Int32)))).2.1 (by decide) (by decide) ?_
    show Steps p.tables e below (s₁.setTop (mkF m 57 #[iv pk, iv (6 : Int32)] [])) _
    refine XS.iloadN X0.here hx rfl (hb hby d1_57) rfl ?_
    show Steps p.tables e below (s₁.setTop (mkF m 58 #[iv pk, iv (6 : Int32)] [(.int (6 : Int32))])) _
    refine XS.iconst X0.here hx rfl (hb hby d1_58) ?_
    show Steps p.tables e below (s₁.setTop (mkF m 59 #[iv pk, iv (6 : Int32)] [(.int (4 : Int32)), (.int (6 : Int32))])) _
    refine XS.icmpYes X0.here hx rfl (pc0 := 59) (pc' := 66) rfl (hb hby d1_59) rfl (feq (by decide +kernel : ¬ ((6 : Int32) = (4 : Int32)))).2 (by decide) (by decide) ?_
    show Steps p.tables e below (s₁.setTop (mkF m 66 #[iv pk, iv (6 : Int32)] [])) _
    refine XS.iloadN X0.here hx rfl (hb hby d1_66) rfl ?_
    show Steps p.tables e below (s₁.setTop (mkF m 67 #[iv pk, iv (6 : Int32)] [(.int (6 : Int32))])) _
    refine XS.iconst X0.here hx rfl (hb hby d1_67) ?_
    show Steps p.tables e below (s₁.setTop (mkF m 68 #[iv pk, iv (6 : Int32)] [(.int (5 : Int32)), (.int (6 : Int32))])) _
    refine XS.icmpYes X0.here hx rfl (pc0 := 68) (pc' := 75) rfl (hb hby d1_68) rfl (feq (by decide +kernel : ¬ ((6 : Int32) = (5 : Int32)))).2 (by decide) (by decide) ?_
    show Steps p.tables e below (s₁.setTop (mkF m 75 #[iv pk, iv (6 : Int32)] [])) _
    refine XS.iloadN X0.here hx rfl (hb hby d1_75) rfl ?_
    show Steps p.tables e below (s₁.setTop (mkF m 76 #[iv pk, iv (6 : Int32)] [(.int (6 : Int32))])) _
    refine XS.bipush X0.here hx rfl (hb hby d1_76) ?_
    show Steps p.tables e below (s₁.setTop (mkF m 78 #[iv pk, iv (6 : Int32)] [(.int (6 : Int32)), (.int (6 : Int32))])) _
    refine XS.icmpNo X0.here hx rfl (hb hby d1_78) rfl (teq (by decide +kernel : (6 : Int32) = (6 : Int32))).2 ?_
    show Steps p.tables e below (s₁.setTop (mkF m 81 #[iv pk, iv (6 : Int32)] [])) _
    refine st1 _ ?_
    show Steps p.tables e below (T1.setTop (mkF m 84 #[iv pk, iv (6 : Int32)] [(.ref w_GraphicSet_GB_2312)])) _
    exact own_retA X1 hx Bd.returns rfl rfl (hb hby d1_84) hr
  · exact ⟨rfl, N0, e1⟩
set_option maxRecDepth 65536 in
set_option maxHeartbeats 40000000 in
theorem rk1_8 (l : Launch) (Z : State) (a0 : Array Value) (hw : ∀ d ∈ tables_1, d.before a0 Z = true) (ws : List Jvm.Cond) (w_GraphicSet_KS_X_1001 : Addr) (pk : Int32) (h0 : Heap) (n0 : Nat) (Z0 : n0 ≤ h0.size) (h48 : ¬ ((pk &&& (48 : Int32)) = (48 : Int32))) (h15 : (pk &&& (15 : Int32)) = (7 : Int32)) (S_GraphicSet_KS_X_1001 : Sta Z h0 "com/example/pipewright/pipewright/io/Iso2022Layout$GraphicSet" "KS_X_1001" "Lcom/example/pipewright/pipewright/io/Iso2022Layout$GraphicSet;" (.ref w_GraphicSet_KS_X_1001)) :
    MetFree l (⟨"com/example/pipewright/pipewright/io/StateGetPinLaw", "pick", "(I)Lcom/example/pipewright/pipewright/io/Iso2022Layout$GraphicSet;"⟩ : MethodName) (head1 (Jvm.Cond.code (⟨"com/example/pipewright/pipewright/io/StateGetPinLaw", "pick", "(I)Lcom/example/pipewright/pipewright/io/Iso2022Layout$GraphicSet;"⟩ : MethodName) method_2_code 2 (some (.object "com/example/pipewright/pipewright/io/Iso2022Layout$GraphicSet")) :: ws) ({ frames := 0, cells := 0, slots := 0, locals := 0 } : Room)) (fun a U => a = #[(.int pk)] ∧ Z.Warmed39 U.vm ∧ U.heap = h0) (fun _ _ _ _ _ => True) (fun _ U o U' => ∃ v L, o = .returned v ∧ own_QP (some (.ref w_GraphicSet_KS_X_1001)) h0 n0 v U'.heap L ∧ FrameEnd U o U' L ({ frames := 0, cells := 0, slots := 0, locals := 0 } : Room).cells ({ frames := 0, cells := 0, slots := 0, locals := 0 } : Room).slots) := by
  refine MetFree.of_bodySF (plainFor_of_name pn_0) hisR ?_
  intro p e s m args below meth c s₁ Bd hml0 hP hK
  obtain ⟨rfl, hZ, hh⟩ := hP
  have hx := Bd.exec
  have hby := Bd.bytes
  have hml : c.maxLocals = 2 := hml0
  have hown : s.vm.findClass "com/example/pipewright/pipewright/io/StateGetPinLaw" = some m.cls := findClass_of_methodNamed Bd.named
  have hnm := (name_of_methodNamed Bd.named Bd.method).1
  have X0 : Stand p l e ({ frames := 0, cells := 0, slots := 0, locals := 0 } : Room) s m #[(.int pk)] below meth c s₁ [] 0 0 := Stand.of_body Bd
  have e0 : s₁.heap = h0 := by rw [← hh, Bd.state]; rfl
  have N0 := Fr.nil n0
  have pre0 : ∀ t, Steps p.tables e below (s₁.setTop (mkF m 0 #[iv pk, .unset] [])) t → Steps p.tables e below (s₁.setTop (entryFrame m #[(.int pk)] 2)) t := fun t k => castTop (ef_1_I m pk) k
  obtain ⟨T1, X1, e1, st1⟩ := getS2 X0 hx hZ hown (host := "") (Or.inl (hw _ (List.mem_of_getElem? (i := 48) rfl))) Via.refl e0 S_GraphicSet_KS_X_1001 (g := (mkF m 85 #[iv pk, iv (7 : Int32)] [])) rfl (hb hby d1_85)
  obtain ⟨fs, hr, hrun, hended, hW, hsame⟩ := X1.leave (v := (some (.ref w_GraphicSet_KS_X_1001))) (fun h => by rw [Bd.returns] at h; cases h)
  refine ⟨_, _, pre0 _ ?_, hrun, hended, _, _, rfl, ?_, ⟨_, rfl⟩, hW, hsame.mono (by decide) (by decide)⟩
  · show Steps p.tables e below (s₁.setTop (mkF m 0 #[iv pk, .unset] [])) _
    refine XS.iloadN X0.here hx rfl (hb hby d1_0) rfl ?_
    show Steps p.tables e below (s₁.setTop (mkF m 1 #[iv pk, .unset] [(.int pk)])) _
    refine XS.bipush X0.here hx rfl (hb hby d1_1) ?_
    show Steps p.tables e below (s₁.setTop (mkF m 3 #[iv pk, .unset] [(.int (48 : Int32)), (.int pk)])) _
    refine XS.iand X0.here hx rfl (hb hby d1_3) rfl ?_
    show Steps p.tables e below (s₁.setTop (mkF m 4 #[iv pk, .unset] [(.int (pk &&& (48 : Int32)))])) _
    refine XS.bipush X0.here hx rfl (hb hby d1_4) ?_
    show Steps p.tables e below (s₁.setTop (mkF m 6 #[iv pk, .unset] [(.int (48 : Int32)), (.int (pk &&& (48 : Int32)))])) _
    refine XS.icmpYes X0.here hx rfl (pc0 := 6) (pc' := 11) rfl (hb hby d1_6) rfl (feq h48).2 (by decide) (by decide) ?_
    show Steps p.tables e below (s₁.setTop (mkF m 11 #[iv pk, .unset] [])) _
    refine XS.iloadN X0.here hx rfl (hb hby d1_11) rfl ?_
    show Steps p.tables e below (s₁.setTop (mkF m 12 #[iv pk, .unset] [(.int pk)])) _
    refine XS.bipush X0.here hx rfl (hb hby d1_12) ?_
    show Steps p.tables e below (s₁.setTop (mkF m 14 #[iv pk, .unset] [(.int (15 : Int32)), (.int pk)])) _
    refine XS.iand X0.here hx rfl (hb hby d1_14) rfl ?_
    show Steps p.tables e below (s₁.setTop (mkF m 15 #[iv pk, .unset] [(.int (pk &&& (15 : Int32)))])) _
    rewrite [h15]
    show Steps p.tables e below (s₁.setTop (mkF m 15 #[iv pk, .unset] [(.int (7 : Int32))])) _
    refine XS.istoreN X0.here hx rfl (hb hby d1_15) rfl (l' := #[iv pk, iv (7 : Int32)]) rfl ?_
    show Steps p.tables e below (s₁.setTop (mkF m 16 #[iv pk, iv (7 : Int32)] [])) _
    refine XS.iloadN X0.here hx rfl (hb hby d1_16) rfl ?_
    show Steps p.tables e below (s₁.setTop (mkF m 17 #[iv pk, iv (7 : Int32)] [(.int (7 : Int32))])) _
    refine XS.bipush X0.here hx rfl (hb hby d1_17) ?_
    show Steps p.tables e below (s₁.setTop (mkF m 19 #[iv pk, iv (7 : Int32)] [(.int (8 : Int32)), (.int (7 : Int32))])) _
    refine XS.icmpNo X0.here hx rfl (hb hby d1_19) rfl (tlt (by decide +kernel : (7 : Int32) < (8 : Int32))).2.1 ?_
    show Steps p.tables e below (s₁.setTop (mkF m 22 #[iv pk, iv (7 : Int32)] [])) _
    refine XS.iloadN X0.here hx rfl (hb hby d1_22) rfl ?_
    show Steps p.tables e below (s₁.setTop (mkF m 23 #[iv pk, iv (7 : Int32)] [(.int (7 : Int32))])) _
    refine XS.iconst X0.here hx rfl (hb hby d1_23) ?_
    show Steps p.tables e below (s₁.setTop (mkF m 24 #[iv pk, iv (7 : Int32)] [(.int (4 : Int32)), (.int (7 : Int32))])) _
    refine XS.icmpYes X0.here hx rfl (pc0 := 24) (pc' := 57) rfl (hb hby d1_24) rfl (flt (by decide +kernel : ¬ ((7 : Int32) < (4 : Int32)))).2.1 (by decide) (by decide) ?_
    show Steps p.tables e below (s₁.setTop (mkF m 57 #[iv pk, iv (7 : Int32)] [])) _
    refine XS.iloadN X0.here hx rfl (hb hby d1_57) rfl ?_
    show Steps p.tables e below (s₁.setTop (mkF m 58 #[iv pk, iv (7 : Int32)] [(.int (7 : Int32))])) _
    refine XS.iconst X0.here hx rfl (hb hby d1_58) ?_
    show Steps p.tables e below (s₁.setTop (mkF m 59 #[iv pk, iv (7 : Int32)] [(.int (4 : Int32)), (.int (7 : Int32))])) _
    refine XS.icmpYes X0.here hx rfl (pc0 := 59) (pc' := 66) rfl (hb hby d1_59) rfl (feq (by decide +kernel : ¬ ((7 : Int32) = (4 : Int32)))).2 (by decide) (by decide) ?_
    show Steps p.tables e below (s₁.setTop (mkF m 66 #[iv pk, iv (7 : Int32)] [])) _
    refine XS.iloadN X0.here hx rfl (hb hby d1_66) rfl ?_
    show Steps p.tables e below (s₁.setTop (mkF m 67 #[iv pk, iv (7 : Int32)] [(.int (7 : Int32))])) _
    refine XS.iconst X0.here hx rfl (hb hby d1_67) ?_
    show Steps p.tables e below (s₁.setTop (mkF m 68 #[iv pk, iv (7 : Int32)] [(.int (5 : Int32)), (.int (7 : Int32))])) _
    refine XS.icmpYes X0.here hx rfl (pc0 := 68) (pc' := 75) rfl (hb hby d1_68) rfl (feq (by decide +kernel : ¬ ((7 : Int32) = (5 : Int32)))).2 (by decide) (by decide) ?_
    show Steps p.tables e below (s₁.setTop (mkF m 75 #[iv pk, iv (7 : Int32)] [])) _
    refine XS.iloadN X0.here hx rfl (hb hby d1_75) rfl ?_
    show Steps p.tables e below (s₁.setTop (mkF m 76 #[iv pk, iv (7 : Int32)] [(.int (7 : Int32))])) _
    refine XS.bipush X0.here hx rfl (hb hby d1_76) ?_
    show Steps p.tables e below (s₁.setTop (mkF m 78 #[iv pk, iv (7 : Int32)] [(.int (6 : Int32)), (.int (7 : Int32))])) _
    refine XS.icmpYes X0.here hx rfl (pc0 := 78) (pc' := 85) rfl (hb hby d1_78) rfl (feq (by decide +kernel : ¬ ((7 : Int32) = (6 : Int32)))).2 (by decide) (by decide) ?_
    show Steps p.tables e below (s₁.setTop (mkF m 85 #[iv pk, iv (7 : Int32)] [])) _
    refine st1 _ ?_
    show Steps p.tables e below (T1.setTop (mkF m 88 #[iv pk, iv (7 : Int32)] [(.ref w_GraphicSet_KS_X_1001)])) _
    exact own_retA X1 hx Bd.returns rfl rfl (hb hby d1_88) hr
  · exact ⟨rfl, N0, e1⟩
set_option maxRecDepth 65536 in
set_option maxHeartbeats 40000000 in
theorem rk1_9 (l : Launch) (Z : State) (a0 : Array Value) (hw : ∀ d ∈ tables_1, d.before a0 Z = true) (ws : List Jvm.Cond) (w_GraphicSet_CNS_11643_1 : Addr) (pk : Int32) (h0 : Heap) (n0 : Nat) (Z0 : n0 ≤ h0.size) (h48 : ¬ ((pk &&& (48 : Int32)) = (48 : Int32))) (h15 : (pk &&& (15 : Int32)) = (8 : Int32)) (S_GraphicSet_CNS_11643_1 : Sta Z h0 "com/example/pipewright/pipewright/io/Iso2022Layout$GraphicSet" "CNS_11643_1" "Lcom/example/pipewright/pipewright/io/Iso2022Layout$GraphicSet;" (.ref w_GraphicSet_CNS_11643_1)) :
    MetFree l (⟨"com/example/pipewright/pipewright/io/StateGetPinLaw", "pick", "(I)Lcom/example/pipewright/pipewright/io/Iso2022Layout$GraphicSet;"⟩ : MethodName) (head1 (Jvm.Cond.code (⟨"com/example/pipewright/pipewright/io/StateGetPinLaw", "pick", "(I)Lcom/example/pipewright/pipewright/io/Iso2022Layout$GraphicSet;"⟩ : MethodName) method_2_code 2 (some (.object "com/example/pipewright/pipewright/io/Iso2022Layout$GraphicSet")) :: ws) ({ frames := 0, cells := 0, slots := 0, locals := 0 } : Room)) (fun a U => a = #[(.int pk)] ∧ Z.Warmed39 U.vm ∧ U.heap = h0) (fun _ _ _ _ _ => True) (fun _ U o U' => ∃ v L, o = .returned v ∧ own_QP (some (.ref w_GraphicSet_CNS_11643_1)) h0 n0 v U'.heap L ∧ FrameEnd U o U' L ({ frames := 0, cells := 0, slots := 0, locals := 0 } : Room).cells ({ frames := 0, cells := 0, slots := 0, locals := 0 } : Room).slots) := by
  refine MetFree.of_bodySF (plainFor_of_name pn_0) hisR ?_
  intro p e s m args below meth c s₁ Bd hml0 hP hK
  obtain ⟨rfl, hZ, hh⟩ := hP
  have hx := Bd.exec
  have hby := Bd.bytes
  have hml : c.maxLocals = 2 := hml0
  have hown : s.vm.findClass "com/example/pipewright/pipewright/io/StateGetPinLaw" = some m.cls := findClass_of_methodNamed Bd.named
  have hnm := (name_of_methodNamed Bd.named Bd.method).1
  have X0 : Stand p l e ({ frames := 0, cells := 0, slots := 0, locals := 0 } : Room) s m #[(.int pk)] below meth c s₁ [] 0 0 := Stand.of_body Bd
  have e0 : s₁.heap = h0 := by rw [← hh, Bd.state]; rfl
  have N0 := Fr.nil n0
  have pre0 : ∀ t, Steps p.tables e below (s₁.setTop (mkF m 0 #[iv pk, .unset] [])) t → Steps p.tables e below (s₁.setTop (entryFrame m #[(.int pk)] 2)) t := fun t k => castTop (ef_1_I m pk) k
  obtain ⟨T1, X1, e1, st1⟩ := getS2 X0 hx hZ hown (host := "") (Or.inl (hw _ (List.mem_of_getElem? (i := 56) rfl))) Via.refl e0 S_GraphicSet_CNS_11643_1 (g := (mkF m 101 #[iv pk, iv (8 : Int32)] [])) rfl (hb hby d1_101)
  obtain ⟨fs, hr, hrun, hended, hW, hsame⟩ := X1.leave (v := (some (.ref w_GraphicSet_CNS_11643_1))) (fun h => by rw [Bd.returns] at h; cases h)
  refine ⟨_, _, pre0 _ ?_, hrun, hended, _, _, rfl, ?_, ⟨_, rfl⟩, hW, hsame.mono (by decide) (by decide)⟩
  · show Steps p.tables e below (s₁.setTop (mkF m 0 #[iv pk, .unset] [])) _
    refine XS.iloadN X0.here hx rfl (hb hby d1_0) rfl ?_
    show Steps p.tables e below (s₁.setTop (mkF m 1 #[iv pk, .unset] [(.int pk)])) _
    refine XS.bipush X0.here hx rfl (hb hby d1_1) ?_
    show Steps p.tables e below (s₁.setTop (mkF m 3 #[iv pk, .unset] [(.int (48 : Int32)), (.int pk)])) _
    refine XS.iand X0.here hx rfl (hb hby d1_3) rfl ?_
    show Steps p.tables e below (s₁.setTop (mkF m 4 #[iv pk, .unset] [(.int (pk &&& (48 : Int32)))])) _
    refine XS.bipush X0.here hx rfl (hb hby d1_4) ?_
    show Steps p.tables e below (s₁.setTop (mkF m 6 #[iv pk, .unset] [(.int (48 : Int32)), (.int (pk &&& (48 : Int32)))])) _
    refine XS.icmpYes X0.here hx rfl (pc0 := 6) (pc' := 11) rfl (hb hby d1_6) rfl (feq h48).2 (by decide) (by decide) ?_
    show Steps p.tables e below (s₁.setTop (mkF m 11 #[iv pk, .unset] [])) _
    refine XS.iloadN X0.here hx rfl (hb hby d1_11) rfl ?_
    show Steps p.tables e below (s₁.setTop (mkF m 12 #[iv pk, .unset] [(.int pk)])) _
    refine XS.bipush X0.here hx rfl (hb hby d1_12) ?_
    show Steps p.tables e below (s₁.setTop (mkF m 14 #[iv pk, .unset] [(.int (15 : Int32)), (.int pk)])) _
    refine XS.iand X0.here hx rfl (hb hby d1_14) rfl ?_
    show Steps p.tables e below (s₁.setTop (mkF m 15 #[iv pk, .unset] [(.int (pk &&& (15 : Int32)))])) _
    rewrite [h15]
    show Steps p.tables e below (s₁.setTop (mkF m 15 #[iv pk, .unset] [(.int (8 : Int32))])) _
    refine XS.istoreN X0.here hx rfl (hb hby d1_15) rfl (l' := #[iv pk, iv (8 : Int32)]) rfl ?_
    show Steps p.tables e below (s₁.setTop (mkF m 16 #[iv pk, iv (8 : Int32)] [])) _
    refine XS.iloadN X0.here hx rfl (hb hby d1_16) rfl ?_
    show Steps p.tables e below (s₁.setTop (mkF m 17 #[iv pk, iv (8 : Int32)] [(.int (8 : Int32))])) _
    refine XS.bipush X0.here hx rfl (hb hby d1_17) ?_
    show Steps p.tables e below (s₁.setTop (mkF m 19 #[iv pk, iv (8 : Int32)] [(.int (8 : Int32)), (.int (8 : Int32))])) _
    refine XS.icmpYes X0.here hx rfl (pc0 := 19) (pc' := 89) rfl (hb hby d1_19) rfl (flt (by decide +kernel : ¬ ((8 : Int32) < (8 : Int32)))).2.1 (by decide) (by decide) ?_
    show Steps p.tables e below (s₁.setTop (mkF m 89 #[iv pk, iv (8 : Int32)] [])) _
    refine XS.iloadN X0.here hx rfl (hb hby d1_89) rfl ?_
    show Steps p.tables e below (s₁.setTop (mkF m 90 #[iv pk, iv (8 : Int32)] [(.int (8 : Int32))])) _
    refine XS.bipush X0.here hx rfl (hb hby d1_90) ?_
    show Steps p.tables e below (s₁.setTop (mkF m 92 #[iv pk, iv (8 : Int32)] [(.int (12 : Int32)), (.int (8 : Int32))])) _
    refine XS.icmpNo X0.here hx rfl (hb hby d1_92) rfl (tlt (by decide +kernel : (8 : Int32) < (12 : Int32))).2.1 ?_
    show Steps p.tables e below (s₁.setTop (mkF m 95 #[iv pk, iv (8 : Int32)] [])) _
    refine XS.iloadN X0.here hx rfl (hb hby d1_95) rfl ?_
    show Steps p.tables e below (s₁.setTop (mkF m 96 #[iv pk, iv (8 : Int32)] [(.int (8 : Int32))])) _
    refine XS.bipush X0.here hx rfl (hb hby d1_96) ?_
    show Steps p.tables e below (s₁.setTop (mkF m 98 #[iv pk, iv (8 : Int32)] [(.int (8 : Int32)), (.int (8 : Int32))])) _
    refine XS.icmpNo X0.here hx rfl (hb hby d1_98) rfl (teq (by decide +kernel : (8 : Int32) = (8 : Int32))).2 ?_
    show Steps p.tables e below (s₁.setTop (mkF m 101 #[iv pk, iv (8 : Int32)] [])) _
    refine st1 _ ?_
    show Steps p.tables e below (T1.setTop (mkF m 104 #[iv pk, iv (8 : Int32)] [(.ref w_GraphicSet_CNS_11643_1)])) _
    exact own_retA X1 hx Bd.returns rfl rfl (hb hby d1_104) hr
  · exact ⟨rfl, N0, e1⟩
set_option maxRecDepth 65536 in
set_option maxHeartbeats 40000000 in
theorem rk1_10 (l : Launch) (Z : State) (a0 : Array Value) (hw : ∀ d ∈ tables_1, d.before a0 Z = true) (ws : List Jvm.Cond) (w_GraphicSet_CNS_11643_2 : Addr) (pk : Int32) (h0 : Heap) (n0 : Nat) (Z0 : n0 ≤ h0.size) (h48 : ¬ ((pk &&& (48 : Int32)) = (48 : Int32))) (h15 : (pk &&& (15 : Int32)) = (9 : Int32)) (S_GraphicSet_CNS_11643_2 : Sta Z h0 "com/example/pipewright/pipewright/io/Iso2022Layout$GraphicSet" "CNS_11643_2" "Lcom/example/pipewright/pipewright/io/Iso2022Layout$GraphicSet;" (.ref w_GraphicSet_CNS_11643_2)) :
    MetFree l (⟨"com/example/pipewright/pipewright/io/StateGetPinLaw", "pick", "(I)Lcom/example/pipewright/pipewright/io/Iso2022Layout$GraphicSet;"⟩ : MethodName) (head1 (Jvm.Cond.code (⟨"com/example/pipewright/pipewright/io/StateGetPinLaw", "pick", "(I)Lcom/example/pipewright/pipewright/io/Iso2022Layout$GraphicSet;"⟩ : MethodName) method_2_code 2 (some (.object "com/example/pipewright/pipewright/io/Iso2022Layout$GraphicSet")) :: ws) ({ frames := 0, cells := 0, slots := 0, locals := 0 } : Room)) (fun a U => a = #[(.int pk)] ∧ Z.Warmed39 U.vm ∧ U.heap = h0) (fun _ _ _ _ _ => True) (fun _ U o U' => ∃ v L, o = .returned v ∧ own_QP (some (.ref w_GraphicSet_CNS_11643_2)) h0 n0 v U'.heap L ∧ FrameEnd U o U' L ({ frames := 0, cells := 0, slots := 0, locals := 0 } : Room).cells ({ frames := 0, cells := 0, slots := 0, locals := 0 } : Room).slots) := by
  refine MetFree.of_bodySF (plainFor_of_name pn_0) hisR ?_
  intro p e s m args below meth c s₁ Bd hml0 hP hK
  obtain ⟨rfl, hZ, hh⟩ := hP
  have hx := Bd.exec
  have hby := Bd.bytes
  have hml : c.maxLocals = 2 := hml0
  have hown : s.vm.findClass "com/example/pipewright/pipewright/io/StateGetPinLaw" = some m.cls := findClass_of_methodNamed Bd.named
  have hnm := (name_of_methodNamed Bd.named Bd.method).1
  have X0 : Stand p l e ({ frames := 0, cells := 0, slots := 0, locals := 0 } : Room) s m #[(.int pk)] below meth c s₁ [] 0 0 := Stand.of_body Bd
  have e0 : s₁.heap = h0 := by rw [← hh, Bd.state]; rfl
  have N0 := Fr.nil n0
  have pre0 : ∀ t, Steps p.tables e below (s₁.setTop (mkF m 0 #[iv pk, .unset] [])) t → Steps p.tables e below (s₁.setTop (entryFrame m #[(.int pk)] 2)) t := fun t k => castTop (ef_1_I m pk) k
  obtain ⟨T1, X1, e1, st1⟩ := getS2 X0 hx hZ hown (host := "") (Or.inl (hw _ (List.mem_of_getElem? (i := 52) rfl))) Via.refl e0 S_GraphicSet_CNS_11643_2 (g := (mkF m 111 #[iv pk, iv (9 : Int32)] [])) rfl (hb hby d1_111)
  obtain ⟨fs, hr, hrun, hended, hW, hsame⟩ := X1.leave (v := (some (.ref w_GraphicSet_CNS_11643_2))) (fun h => by rw [Bd.returns] at h; cases h)
  refine ⟨_, _, pre0 _ ?_, hrun, hended, _, _, rfl, ?_, ⟨_, rfl⟩, hW, hsame.mono (by decide) (by decide)⟩
  · show Steps p.tables e below (s₁.setTop (mkF m 0 #[iv pk, .unset] [])) _
    refine XS.iloadN X0.here hx rfl (hb hby d1_0) rfl ?_
    show Steps p.tables e below (s₁.setTop (mkF m 1 #[iv pk, .unset] [(.int pk)])) _
    refine XS.bipush X0.here hx rfl (hb hby d1_1) ?_
    show Steps p.tables e below (s₁.setTop (mkF m 3 #[iv pk, .unset] [(.int (48 : Int32)), (.int pk)])) _
    refine XS.iand X0.here hx rfl (hb hby d1_3) rfl ?_
    show Steps p.tables e below (s₁.setTop (mkF m 4 #[iv pk, .unset] [(.int (pk &&& (48 : Int32)))])) _
    refine XS.bipush X0.here hx rfl (hb hby d1_4) ?_
    show Steps p.tables e below (s₁.setTop (mkF m 6 #[iv pk, .unset] [(.int (48 : Int32)), (.int (pk &&& (48 : Int32)))])) _
    refine XS.icmpYes X0.here hx rfl (pc0 := 6) (pc' := 11) rfl (hb hby d1_6) rfl (feq h48).2 (by decide) (by decide) ?_
    show Steps p.tables e below (s₁.setTop (mkF m 11 #[iv pk, .unset] [])) _
    refine XS.iloadN X0.here hx rfl (hb hby d1_11) rfl ?_
    show Steps p.tables e below (s₁.setTop (mkF m 12 #[iv pk, .unset] [(.int pk)])) _
    refine XS.bipush X0.here hx rfl (hb hby d1_12) ?_
    show Steps p.tables e below (s₁.setTop (mkF m 14 #[iv pk, .unset] [(.int (15 : Int32)), (.int pk)])) _
    refine XS.iand X0.here hx rfl (hb hby d1_14) rfl ?_
    show Steps p.tables e below (s₁.setTop (mkF m 15 #[iv pk, .unset] [(.int (pk &&& (15 : Int32)))])) _
    rewrite [h15]
    show Steps p.tables e below (s₁.setTop (mkF m 15 #[iv pk, .unset] [(.int (9 : Int32))])) _
    refine XS.istoreN X0.here hx rfl (hb hby d1_15) rfl (l' := #[iv pk, iv (9 : Int32)]) rfl ?_
    show Steps p.tables e below (s₁.setTop (mkF m 16 #[iv pk, iv (9 : Int32)] [])) _
    refine XS.iloadN X0.here hx rfl (hb hby d1_16) rfl ?_
    show Steps p.tables e below (s₁.setTop (mkF m 17 #[iv pk, iv (9 : Int32)] [(.int (9 : Int32))])) _
    refine XS.bipush X0.here hx rfl (hb hby d1_17) ?_
    show Steps p.tables e below (s₁.setTop (mkF m 19 #[iv pk, iv (9 : Int32)] [(.int (8 : Int32)), (.int (9 : Int32))])) _
    refine XS.icmpYes X0.here hx rfl (pc0 := 19) (pc' := 89) rfl (hb hby d1_19) rfl (flt (by decide +kernel : ¬ ((9 : Int32) < (8 : Int32)))).2.1 (by decide) (by decide) ?_
    show Steps p.tables e below (s₁.setTop (mkF m 89 #[iv pk, iv (9 : Int32)] [])) _
    refine XS.iloadN X0.here hx rfl (hb hby d1_89) rfl ?_
    show Steps p.tables e below (s₁.setTop (mkF m 90 #[iv pk, iv (9 : Int32)] [(.int (9 : Int32))])) _
    refine XS.bipush X0.here hx rfl (hb hby d1_90) ?_
    show Steps p.tables e below (s₁.setTop (mkF m 92 #[iv pk, iv (9 : Int32)] [(.int (12 : Int32)), (.int (9 : Int32))])) _
    refine XS.icmpNo X0.here hx rfl (hb hby d1_92) rfl (tlt (by decide +kernel : (9 : Int32) < (12 : Int32))).2.1 ?_
    show Steps p.tables e below (s₁.setTop (mkF m 95 #[iv pk, iv (9 : Int32)] [])) _
    refine XS.iloadN X0.here hx rfl (hb hby d1_95) rfl ?_
    show Steps p.tables e below (s₁.setTop (mkF m 96 #[iv pk, iv (9 : Int32)] [(.int (9 : Int32))])) _
    refine XS.bipush X0.here hx rfl (hb hby d1_96) ?_
    show Steps p.tables e below (s₁.setTop (mkF m 98 #[iv pk, iv (9 : Int32)] [(.int (8 : Int32)), (.int (9 : Int32))])) _
    refine XS.icmpYes X0.here hx rfl (pc0 := 98) (pc' := 105) rfl (hb hby d1_98) rfl (feq (by decide +kernel : ¬ ((9 : Int32) = (8 : Int32)))).2 (by decide) (by decide) ?_
    show Steps p.tables e below (s₁.setTop (mkF m 105 #[iv pk, iv (9 : Int32)] [])) _
    refine XS.iloadN X0.here hx rfl (hb hby d1_105) rfl ?_
    show Steps p.tables e below (s₁.setTop (mkF m 106 #[iv pk, iv (9 : Int32)] [(.int (9 : Int32))])) _
    refine XS.bipush X0.here hx rfl (hb hby d1_106) ?_
    show Steps p.tables e below (s₁.setTop (mkF m 108 #[iv pk, iv (9 : Int32)] [(.int (9 : Int32)), (.int (9 : Int32))])) _
    refine XS.icmpNo X0.here hx rfl (hb hby d1_108) rfl (teq (by decide +kernel : (9 : Int32) = (9 : Int32))).2 ?_
    show Steps p.tables e below (s₁.setTop (mkF m 111 #[iv pk, iv (9 : Int32)] [])) _
    refine st1 _ ?_
    show Steps p.tables e below (T1.setTop (mkF m 114 #[iv pk, iv (9 : Int32)] [(.ref w_GraphicSet_CNS_11643_2)])) _
    exact own_retA X1 hx Bd.returns rfl rfl (hb hby d1_114) hr
  · exact ⟨rfl, N0, e1⟩
set_option maxRecDepth 65536 in
set_option maxHeartbeats 40000000 in
theorem rk1_11 (l : Launch) (Z : State) (a0 : Array Value) (hw : ∀ d ∈ tables_1, d.before a0 Z = true) (ws : List Jvm.Cond) (w_GraphicSet_CNS_11643_3 : Addr) (pk : Int32) (h0 : Heap) (n0 : Nat) (Z0 : n0 ≤ h0.size) (h48 : ¬ ((pk &&& (48 : Int32)) = (48 : Int32))) (h15 : (pk &&& (15 : Int32)) = (10 : Int32)) (S_GraphicSet_CNS_11643_3 : Sta Z h0 "com/example/pipewright/pipewright/io/Iso2022Layout$GraphicSet" "CNS_11643_3" "Lcom/example/pipewright/pipewright/io/Iso2022Layout$GraphicSet;" (.ref w_GraphicSet_CNS_11643_3)) :
    MetFree l (⟨"com/example/pipewright/pipewright/io/StateGetPinLaw", "pick", "(I)Lcom/example/pipewright/pipewright/io/Iso2022Layout$GraphicSet;"⟩ : MethodName) (head1 (Jvm.Cond.code (⟨"com/example/pipewright/pipewright/io/StateGetPinLaw", "pick", "(I)Lcom/example/pipewright/pipewright/io/Iso2022Layout$GraphicSet;"⟩ : MethodName) method_2_code 2 (some (.object "com/example/pipewright/pipewright/io/Iso2022Layout$GraphicSet")) :: ws) ({ frames := 0, cells := 0, slots := 0, locals := 0 } : Room)) (fun a U => a = #[(.int pk)] ∧ Z.Warmed39 U.vm ∧ U.heap = h0) (fun _ _ _ _ _ => True) (fun _ U o U' => ∃ v L, o = .returned v ∧ own_QP (some (.ref w_GraphicSet_CNS_11643_3)) h0 n0 v U'.heap L ∧ FrameEnd U o U' L ({ frames := 0, cells := 0, slots := 0, locals := 0 } : Room).cells ({ frames := 0, cells := 0, slots := 0, locals := 0 } : Room).slots) := by
  refine MetFree.of_bodySF (plainFor_of_name pn_0) hisR ?_
  intro p e s m args below meth c s₁ Bd hml0 hP hK
  obtain ⟨rfl, hZ, hh⟩ := hP
  have hx := Bd.exec
  have hby := Bd.bytes
  have hml : c.maxLocals = 2 := hml0
  have hown : s.vm.findClass "com/example/pipewright/pipewright/io/StateGetPinLaw" = some m.cls := findClass_of_methodNamed Bd.named
  have hnm := (name_of_methodNamed Bd.named Bd.method).1
  have X0 : Stand p l e ({ frames := 0, cells := 0, slots := 0, locals := 0 } : Room) s m #[(.int pk)] below meth c s₁ [] 0 0 := Stand.of_body Bd
  have e0 : s₁.heap = h0 := by rw [← hh, Bd.state]; rfl
  have N0 := Fr.nil n0
  have pre0 : ∀ t, Steps p.tables e below (s₁.setTop (mkF m 0 #[iv pk, .unset] [])) t → Steps p.tables e below (s₁.setTop (entryFrame m #[(.int pk)] 2)) t := fun t k => castTop (ef_1_I m pk) k
  obtain ⟨T1, X1, e1, st1⟩ := getS2 X0 hx hZ hown (host := "") (Or.inl (hw _ (List.mem_of_getElem? (i := 44) rfl))) Via.refl e0 S_GraphicSet_CNS_11643_3 (g := (mkF m 121 #[iv pk, iv (10 : Int32)] [])) rfl (hb hby d1_121)
  obtain ⟨fs, hr, hrun, hended, hW, hsame⟩ := X1.leave (v := (some (.ref w_GraphicSet_CNS_11643_3))) (fun h => by rw [Bd.returns] at h; cases h)
  refine ⟨_, _, pre0 _ ?_, hrun, hended, _, _, rfl, ?_, ⟨_, rfl⟩, hW, hsame.mono (by decide) (by decide)⟩
  · show Steps p.tables e below (s₁.setTop (mkF m 0 #[iv pk, .unset] [])) _
    refine XS.iloadN X0.here hx rfl (hb hby d1_0) rfl ?_
    show Steps p.tables e below (s₁.setTop (mkF m 1 #[iv pk, .unset] [(.int pk)])) _
    refine XS.bipush X0.here hx rfl (hb hby d1_1) ?_
    show Steps p.tables e below (s₁.setTop (mkF m 3 #[iv pk, .unset] [(.int (48 : Int32)), (.int pk)])) _
    refine XS.iand X0.here hx rfl (hb hby d1_3) rfl ?_
    show Steps p.tables e below (s₁.setTop (mkF m 4 #[iv pk, .unset] [(.int (pk &&& (48 : Int32)))])) _
    refine XS.bipush X0.here hx rfl (hb hby d1_4) ?_
    show Steps p.tables e below (s₁.setTop (mkF m 6 #[iv pk, .unset] [(.int (48 : Int32)), (.int (pk &&& (48 : Int32)))])) _
    refine XS.icmpYes X0.here hx rfl (pc0 := 6) (pc' := 11) rfl (hb hby d1_6) rfl (feq h48).2 (by decide) (by decide) ?_
    show Steps p.tables e below (s₁.setTop (mkF m 11 #[iv pk, .unset] [])) _
    refine XS.iloadN X0.here hx rfl (hb hby d1_11) rfl ?_
    show Steps p.tables e below (s₁.setTop (mkF m 12 #[iv pk, .unset] [(.int pk)])) _
    refine XS.bipush X0.here hx rfl (hb hby d1_12) ?_
    show Steps p.tables e below (s₁.setTop (mkF m 14 #[iv pk, .unset] [(.int (15 : Int32)), (.int pk)])) _
    refine XS.iand X0.here hx rfl (hb hby d1_14) rfl ?_
    show Steps p.tables e below (s₁.setTop (mkF m 15 #[iv pk, .unset] [(.int (pk &&& (15 : Int32)))])) _
    rewrite [h15]
    show Steps p.tables e below (s₁.setTop (mkF m 15 #[iv pk, .unset] [(.int (10 : Int32))])) _
    refine XS.istoreN X0.here hx rfl (hb hby d1_15) rfl (l' := #[iv pk, iv (10 : Int32)]) rfl ?_
    show Steps p.tables e below (s₁.setTop (mkF m 16 #[iv pk, iv (10 : Int32)] [])) _
    refine XS.iloadN X0.here hx rfl (hb hby d1_16) rfl ?_
    show Steps p.tables e below (s₁.setTop (mkF m 17 #[iv pk, iv (10 : Int32)] [(.int (10 : Int32))])) _
    refine XS.bipush X0.here hx rfl (hb hby d1_17) ?_
    show Steps p.tables e below (s₁.setTop (mkF m 19 #[iv pk, iv (10 : Int32)] [(.int (8 : Int32)), (.int (10 : Int32))])) _
    refine XS.icmpYes X0.here hx rfl (pc0 := 19) (pc' := 89) rfl (hb hby d1_19) rfl (flt (by decide +kernel : ¬ ((10 : Int32) < (8 : Int32)))).2.1 (by decide) (by decide) ?_
    show Steps p.tables e below (s₁.setTop (mkF m 89 #[iv pk, iv (10 : Int32)] [])) _
    refine XS.iloadN X0.here hx rfl (hb hby d1_89) rfl ?_
    show Steps p.tables e below (s₁.setTop (mkF m 90 #[iv pk, iv (10 : Int32)] [(.int (10 : Int32))])) _
    refine XS.bipush X0.here hx rfl (hb hby d1_90) ?_
    show Steps p.tables e below (s₁.setTop (mkF m 92 #[iv pk, iv (10 : Int32)] [(.int (12 : Int32)), (.int (10 : Int32))])) _
    refine XS.icmpNo X0.here hx rfl (hb hby d1_92) rfl (tlt (by decide +kernel : (10 : Int32) < (12 : Int32))).2.1 ?_
    show Steps p.tables e below (s₁.setTop (mkF m 95 #[iv pk, iv (10 : Int32)] [])) _
    refine XS.iloadN X0.here hx rfl (hb hby d1_95) rfl ?_
    show Steps p.tables e below (s₁.setTop (mkF m 96 #[iv pk, iv (10 : Int32)] [(.int (10 : Int32))])) _
    refine XS.bipush X0.here hx rfl (hb hby d1_96) ?_
    show Steps p.tables e below (s₁.setTop (mkF m 98 #[iv pk, iv (10 : Int32)] [(.int (8 : Int32)), (.int (10 : Int32))])) _
    refine XS.icmpYes X0.here hx rfl (pc0 := 98) (pc' := 105) rfl (hb hby d1_98) rfl (feq (by decide +kernel : ¬ ((10 : Int32) = (8 : Int32)))).2 (by decide) (by decide) ?_
    show Steps p.tables e below (s₁.setTop (mkF m 105 #[iv pk, iv (10 : Int32)] [])) _
    refine XS.iloadN X0.here hx rfl (hb hby d1_105) rfl ?_
    show Steps p.tables e below (s₁.setTop (mkF m 106 #[iv pk, iv (10 : Int32)] [(.int (10 : Int32))])) _
    refine XS.bipush X0.here hx rfl (hb hby d1_106) ?_
    show Steps p.tables e below (s₁.setTop (mkF m 108 #[iv pk, iv (10 : Int32)] [(.int (9 : Int32)), (.int (10 : Int32))])) _
    refine XS.icmpYes X0.here hx rfl (pc0 := 108) (pc' := 115) rfl (hb hby d1_108) rfl (feq (by decide +kernel : ¬ ((10 : Int32) = (9 : Int32)))).2 (by decide) (by decide) ?_
    show Steps p.tables e below (s₁.setTop (mkF m 115 #[iv pk, iv (10 : Int32)] [])) _
    refine XS.iloadN X0.here hx rfl (hb hby d1_115) rfl ?_
    show Steps p.tables e below (s₁.setTop (mkF m 116 #[iv pk, iv (10 : Int32)] [(.int (10 : Int32))])) _
    refine XS.bipush X0.here hx rfl (hb hby d1_116) ?_
    show Steps p.tables e below (s₁.setTop (mkF m 118 #[iv pk, iv (10 : Int32)] [(.int (10 : Int32)), (.int (10 : Int32))])) _
    refine XS.icmpNo X0.here hx rfl (hb hby d1_118) rfl (teq (by decide +kernel : (10 : Int32) = (10 : Int32))).2 ?_
    show Steps p.tables e below (s₁.setTop (mkF m 121 #[iv pk, iv (10 : Int32)] [])) _
    refine st1 _ ?_
    show Steps p.tables e below (T1.setTop (mkF m 124 #[iv pk, iv (10 : Int32)] [(.ref w_GraphicSet_CNS_11643_3)])) _
    exact own_retA X1 hx Bd.returns rfl rfl (hb hby d1_124) hr
  · exact ⟨rfl, N0, e1⟩
set_option maxRecDepth 65536 in
set_option maxHeartbeats 40000000 in
theorem rk1_12 (l : Launch) (Z : State) (a0 : Array Value) (hw : ∀ d ∈ tables_1, d.before a0 Z = true) (ws : List Jvm.Cond) (w_GraphicSet_CNS_11643_4 : Addr) (pk : Int32) (h0 : Heap) (n0 : Nat) (Z0 : n0 ≤ h0.size) (h48 : ¬ ((pk &&& (48 : Int32)) = (48 : Int32))) (h15 : (pk &&& (15 : Int32)) = (11 : Int32)) (S_GraphicSet_CNS_11643_4 : Sta Z h0 "com/example/pipewright/pipewright/io/Iso2022Layout$GraphicSet" "CNS_11643_4" "Lcom/example/pipewright/pipewright/io/Iso2022Layout$GraphicSet;" (.ref w_GraphicSet_CNS_11643_4)) :
    MetFree l (⟨"com/example/pipewright/pipewright/io/StateGetPinLaw", "pick", "(I)Lcom/example/pipewright/pipewright/io/Iso2022Layout$GraphicSet;"⟩ : MethodName) (head1 (Jvm.Cond.code (⟨"com/example/pipewright/pipewright/io/StateGetPinLaw", "pick", "(I)Lcom/example/pipewright/pipewright/io/Iso2022Layout$GraphicSet;"⟩ : MethodName) method_2_code 2 (some (.object "com/example/pipewright/pipewright/io/Iso2022Layout$GraphicSet")) :: ws) ({ frames := 0, cells := 0, slots := 0, locals := 0 } : Room)) (fun a U => a = #[(.int pk)] ∧ Z.Warmed39 U.vm ∧ U.heap = h0) (fun _ _ _ _ _ => True) (fun _ U o U' => ∃ v L, o = .returned v ∧ own_QP (some (.ref w_GraphicSet_CNS_11643_4)) h0 n0 v U'.heap L ∧ FrameEnd U o U' L ({ frames := 0, cells := 0, slots := 0, locals := 0 } : Room).cells ({ frames := 0, cells := 0, slots := 0, locals := 0 } : Room).slots) := by
  refine MetFree.of_bodySF (plainFor_of_name pn_0) hisR ?_
  intro p e s m args below meth c s₁ Bd hml0 hP hK
  obtain ⟨rfl, hZ, hh⟩ := hP
  have hx := Bd.exec
  have hby := Bd.bytes
  have hml : c.maxLocals = 2 := hml0
  have hown : s.vm.findClass "com/example/pipewright/pipewright/io/StateGetPinLaw" = some m.cls := findClass_of_methodNamed Bd.named
  have hnm := (name_of_methodNamed Bd.named Bd.method).1
  have X0 : Stand p l e ({ frames := 0, cells := 0, slots := 0, locals := 0 } : Room) s m #[(.int pk)] below meth c s₁ [] 0 0 := Stand.of_body Bd
  have e0 : s₁.heap = h0 := by rw [← hh, Bd.state]; rfl
  have N0 := Fr.nil n0
  have pre0 : ∀ t, Steps p.tables e below (s₁.setTop (mkF m 0 #[iv pk, .unset] [])) t → Steps p.tables e below (s₁.setTop (entryFrame m #[(.int pk)] 2)) t := fun t k => castTop (ef_1_I m pk) k
  obtain ⟨T1, X1, e1, st1⟩ := getS2 X0 hx hZ hown (host := "") (Or.inl (hw _ (List.mem_of_getElem? (i := 58) rfl))) Via.refl e0 S_GraphicSet_CNS_11643_4 (g := (mkF m 125 #[iv pk, iv (11 : Int32)] [])) rfl (hb hby d1_125)
  obtain ⟨fs, hr, hrun, hended, hW, hsame⟩ := X1.leave (v := (some (.ref w_GraphicSet_CNS_11643_4))) (fun h => by rw [Bd.returns] at h; cases h)
  refine ⟨_, _, pre0 _ ?_, hrun, hended, _, _, rfl, ?_, ⟨_, rfl⟩, hW, hsame.mono (by decide) (by decide)⟩
  · show Steps p.tables e below (s₁.setTop (mkF m 0 #[iv pk, .unset] [])) _
    refine XS.iloadN X0.here hx rfl (hb hby d1_0) rfl ?_
    show Steps p.tables e below (s₁.setTop (mkF m 1 #[iv pk, .unset] [(.int pk)])) _
    refine XS.bipush X0.here hx rfl (hb hby d1_1) ?_
    show Steps p.tables e below (s₁.setTop (mkF m 3 #[iv pk, .unset] [(.int (48 : Int32)), (.int pk)])) _
    refine XS.iand X0.here hx rfl (hb hby d1_3) rfl ?_
    show Steps p.tables e below (s₁.setTop (mkF m 4 #[iv pk, .unset] [(.int (pk &&& (48 : Int32)))])) _
    refine XS.bipush X0.here hx rfl (hb hby d1_4) ?_
    show Steps p.tables e below (s₁.setTop (mkF m 6 #[iv pk, .unset] [(.int (48 : Int32)), (.int (pk &&& (48 : Int32)))])) _
    refine XS.icmpYes X0.here hx rfl (pc0 := 6) (pc' := 11) rfl (hb hby d1_6) rfl (feq h48).2 (by decide) (by decide) ?_
    show Steps p.tables e below (s₁.setTop (mkF m 11 #[iv pk, .unset] [])) _
    refine XS.iloadN X0.here hx rfl (hb hby d1_11) rfl ?_
    show Steps p.tables e below (s₁.setTop (mkF m 12 #[iv pk, .unset] [(.int pk)])) _
    refine XS.bipush X0.here hx rfl (hb hby d1_12) ?_
    show Steps p.tables e below (s₁.setTop (mkF m 14 #[iv pk, .unset] [(.int (15 : Int32)), (.int pk)])) _
    refine XS.iand X0.here hx rfl (hb hby d1_14) rfl ?_
    show Steps p.tables e below (s₁.setTop (mkF m 15 #[iv pk, .unset] [(.int (pk &&& (15 : Int32)))])) _
    rewrite [h15]
    show Steps p.tables e below (s₁.setTop (mkF m 15 #[iv pk, .unset] [(.int (11 : Int32))])) _
    refine XS.istoreN X0.here hx rfl (hb hby d1_15) rfl (l' := #[iv pk, iv (11 : Int32)]) rfl ?_
    show Steps p.tables e below (s₁.setTop (mkF m 16 #[iv pk, iv (11 : Int32)] [])) _
    refine XS.iloadN X0.here hx rfl (hb hby d1_16) rfl ?_
    show Steps p.tables e below (s₁.setTop (mkF m 17 #[iv pk, iv (11 : Int32)] [(.int (11 : Int32))])) _
    refine XS.bipush X0.here hx rfl (hb hby d1_17) ?_
    show Steps p.tables e below (s₁.setTop (mkF m 19 #[iv pk, iv (11 : Int32)] [(.int (8 : Int32)), (.int (11 : Int32))])) _
    refine XS.icmpYes X0.here hx rfl (pc0 := 19) (pc' := 89) rfl (hb hby d1_19) rfl (flt (by decide +kernel : ¬ ((11 : Int32) < (8 : Int32)))).2.1 (by decide) (by decide) ?_
    show Steps p.tables e below (s₁.setTop (mkF m 89 #[iv pk, iv (11 : Int32)] [])) _
    refine XS.iloadN X0.here hx rfl (hb hby d1_89) rfl ?_
    show Steps p.tables e below (s₁.setTop (mkF m 90 #[iv pk, iv (11 : Int32)] [(.int (11 : Int32))])) _
    refine XS.bipush X0.here hx rfl (hb hby d1_90) ?_
    show Steps p.tables e below (s₁.setTop (mkF m 92 #[iv pk, iv (11 : Int32)] [(.int (12 : Int32)), (.int (11 : Int32))])) _
    refine XS.icmpNo X0.here hx rfl (hb hby d1_92) rfl (tlt (by decide +kernel : (11 : Int32) < (12 : Int32))).2.1 ?_
    show Steps p.tables e below (s₁.setTop (mkF m 95 #[iv pk, iv (11 : Int32)] [])) _
    refine XS.iloadN X0.here hx rfl (hb hby d1_95) rfl ?_
    show Steps p.tables e below (s₁.setTop (mkF m 96 #[iv pk, iv (11 : Int32)] [(.int (11 : Int32))])) _
    refine XS.bipush X0.here hx rfl (hb hby d1_96) ?_
    show Steps p.tables e below (s₁.setTop (mkF m 98 #[iv pk, iv (11 : Int32)] [(.int (8 : Int32)), (.int (11 : Int32))])) _
    refine XS.icmpYes X0.here hx rfl (pc0 := 98) (pc' := 105) rfl (hb hby d1_98) rfl (feq (by decide +kernel : ¬ ((11 : Int32) = (8 : Int32)))).2 (by decide) (by decide) ?_
    show Steps p.tables e below (s₁.setTop (mkF m 105 #[iv pk, iv (11 : Int32)] [])) _
    refine XS.iloadN X0.here hx rfl (hb hby d1_105) rfl ?_
    show Steps p.tables e below (s₁.setTop (mkF m 106 #[iv pk, iv (11 : Int32)] [(.int (11 : Int32))])) _
    refine XS.bipush X0.here hx rfl (hb hby d1_106) ?_
    show Steps p.tables e below (s₁.setTop (mkF m 108 #[iv pk, iv (11 : Int32)] [(.int (9 : Int32)), (.int (11 : Int32))])) _
    refine XS.icmpYes X0.here hx rfl (pc0 := 108) (pc' := 115) rfl (hb hby d1_108) rfl (feq (by decide +kernel : ¬ ((11 : Int32) = (9 : Int32)))).2 (by decide) (by decide) ?_
    show Steps p.tables e below (s₁.setTop (mkF m 115 #[iv pk, iv (11 : Int32)] [])) _
    refine XS.iloadN X0.here hx rfl (hb hby d1_115) rfl ?_
    show Steps p.tables e below (s₁.setTop (mkF m 116 #[iv pk, iv (11 : Int32)] [(.int (11 : Int32))])) _
    refine XS.bipush X0.here hx rfl (hb hby d1_116) ?_
    show Steps p.tables e below (s₁.setTop (mkF m 118 #[iv pk, iv (11 : Int32)] [(.int (10 : Int32)), (.int (11 : Int32))])) _
    refine XS.icmpYes X0.here hx rfl (pc0 := 118) (pc' := 125) rfl (hb hby d1_118) rfl (feq (by decide +kernel : ¬ ((11 : Int32) = (10 : Int32)))).2 (by decide) (by decide) ?_
    show Steps p.tables e below (s₁.setTop (mkF m 125 #[iv pk, iv (11 : Int32)] [])) _
    refine st1 _ ?_
    show Steps p.tables e below (T1.setTop (mkF m 128 #[iv pk, iv (11 : Int32)] [(.ref w_GraphicSet_CNS_11643_4)])) _
    exact own_retA X1 hx Bd.returns rfl rfl (hb hby d1_128) hr
  · exact ⟨rfl, N0, e1⟩
set_option maxRecDepth 65536 in
set_option maxHeartbeats 40000000 in
theorem rk1_13 (l : Launch) (Z : State) (a0 : Array Value) (hw : ∀ d ∈ tables_1, d.before a0 Z = true) (ws : List Jvm.Cond) (w_GraphicSet_CNS_11643_5 : Addr) (pk : Int32) (h0 : Heap) (n0 : Nat) (Z0 : n0 ≤ h0.size) (h48 : ¬ ((pk &&& (48 : Int32)) = (48 : Int32))) (h15 : (pk &&& (15 : Int32)) = (12 : Int32)) (S_GraphicSet_CNS_11643_5 : Sta Z h0 "com/example/pipewright/pipewright/io/Iso2022Layout$GraphicSet" "CNS_11643_5" "Lcom/example/pipewright/pipewright/io/Iso2022Layout$GraphicSet;" (.ref w_GraphicSet_CNS_11643_5)) :
    MetFree l (⟨"com/example/pipewright/pipewright/io/StateGetPinLaw", "pick", "(I)Lcom/example/pipewright/pipewright/io/Iso2022Layout$GraphicSet;"⟩ : MethodName) (head1 (Jvm.Cond.code (⟨"com/example/pipewright/pipewright/io/StateGetPinLaw", "pick", "(I)Lcom/example/pipewright/pipewright/io/Iso2022Layout$GraphicSet;"⟩ : MethodName) method_2_code 2 (some (.object "com/example/pipewright/pipewright/io/Iso2022Layout$GraphicSet")) :: ws) ({ frames := 0, cells := 0, slots := 0, locals := 0 } : Room)) (fun a U => a = #[(.int pk)] ∧ Z.Warmed39 U.vm ∧ U.heap = h0) (fun _ _ _ _ _ => True) (fun _ U o U' => ∃ v L, o = .returned v ∧ own_QP (some (.ref w_GraphicSet_CNS_11643_5)) h0 n0 v U'.heap L ∧ FrameEnd U o U' L ({ frames := 0, cells := 0, slots := 0, locals := 0 } : Room).cells ({ frames := 0, cells := 0, slots := 0, locals := 0 } : Room).slots) := by
  refine MetFree.of_bodySF (plainFor_of_name pn_0) hisR ?_
  intro p e s m args below meth c s₁ Bd hml0 hP hK
  obtain ⟨rfl, hZ, hh⟩ := hP
  have hx := Bd.exec
  have hby := Bd.bytes
  have hml : c.maxLocals = 2 := hml0
  have hown : s.vm.findClass "com/example/pipewright/pipewright/io/StateGetPinLaw" = some m.cls := findClass_of_methodNamed Bd.named
  have hnm := (name_of_methodNamed Bd.named Bd.method).1
  have X0 : Stand p l e ({ frames := 0, cells := 0, slots := 0, locals := 0 } : Room) s m #[(.int pk)] below meth c s₁ [] 0 0 := Stand.of_body Bd
  have e0 : s₁.heap = h0 := by rw [← hh, Bd.state]; rfl
  have N0 := Fr.nil n0
  have pre0 : ∀ t, Steps p.tables e below (s₁.setTop (mkF m 0 #[iv pk, .unset] [])) t → Steps p.tables e below (s₁.setTop (entryFrame m #[(.int pk)] 2)) t := fun t k => castTop (ef_1_I m pk) k
  obtain ⟨T1, X1, e1, st1⟩ := getS2 X0 hx hZ hown (host := "") (Or.inl (hw _ (List.mem_of_getElem? (i := 54) rfl))) Via.refl e0 S_GraphicSet_CNS_11643_5 (g := (mkF m 135 #[iv pk, iv (12 : Int32)] [])) rfl (hb hby d1_135)
  obtain ⟨fs, hr, hrun, hended, hW, hsame⟩ := X1.leave (v := (some (.ref w_GraphicSet_CNS_11643_5))) (fun h => by rw [Bd.returns] at h; cases h)
  refine ⟨_, _, pre0 _ ?_, hrun, hended, _, _, rfl, ?_, ⟨_, rfl⟩, hW, hsame.mono (by decide) (by decide)⟩
  · show Steps p.tables e below (s₁.setTop (mkF m 0 #[iv pk, .unset] [])) _
    refine XS.iloadN X0.here hx rfl (hb hby d1_0) rfl ?_
    show Steps p.tables e below (s₁.setTop (mkF m 1 #[iv pk, .unset] [(.int pk)])) _
    refine XS.bipush X0.here hx rfl (hb hby d1_1) ?_
    show Steps p.tables e below (s₁.setTop (mkF m 3 #[iv pk, .unset] [(.int (48 : Int32)), (.int pk)])) _
    refine XS.iand X0.here hx rfl (hb hby d1_3) rfl ?_
    show Steps p.tables e below (s₁.setTop (mkF m 4 #[iv pk, .unset] [(.int (pk &&& (48 : Int32)))])) _
    refine XS.bipush X0.here hx rfl (hb hby d1_4) ?_
    show Steps p.tables e below (s₁.setTop (mkF m 6 #[iv pk, .unset] [(.int (48 : Int32)), (.int (pk &&& (48 : Int32)))])) _
    refine XS.icmpYes X0.here hx rfl (pc0 := 6) (pc' := 11) rfl (hb hby d1_6) rfl (feq h48).2 (by decide) (by decide) ?_
    show Steps p.tables e below (s₁.setTop (mkF m 11 #[iv pk, .unset] [])) _
    refine XS.iloadN X0.here hx rfl (hb hby d1_11) rfl ?_
    show Steps p.tables e below (s₁.setTop (mkF m 12 #[iv pk, .unset] [(.int pk)])) _
    refine XS.bipush X0.here hx rfl (hb hby d1_12) ?_
    show Steps p.tables e below (s₁.setTop (mkF m 14 #[iv pk, .unset] [(.int (15 : Int32)), (.int pk)])) _
    refine XS.iand X0.here hx rfl (hb hby d1_14) rfl ?_
    show Steps p.tables e below (s₁.setTop (mkF m 15 #[iv pk, .unset] [(.int (pk &&& (15 : Int32)))])) _
    rewrite [h15]
    show Steps p.tables e below (s₁.setTop (mkF m 15 #[iv pk, .unset] [(.int (12 : Int32))])) _
    refine XS.istoreN X0.here hx rfl (hb hby d1_15) rfl (l' := #[iv pk, iv (12 : Int32)]) rfl ?_
    show Steps p.tables e below (s₁.setTop (mkF m 16 #[iv pk, iv (12 : Int32)] [])) _
    refine XS.iloadN X0.here hx rfl (hb hby d1_16) rfl ?_
    show Steps p.tables e below (s₁.setTop (mkF m 17 #[iv pk, iv (12 : Int32)] [(.int (12 : Int32))])) _
    refine XS.bipush X0.here hx rfl (hb hby d1_17) ?_
    show Steps p.tables e below (s₁.setTop (mkF m 19 #[iv pk, iv (12 : Int32)] [(.int (8 : Int32)), (.int (12 : Int32))])) _
    refine XS.icmpYes X0.here hx rfl (pc0 := 19) (pc' := 89) rfl (hb hby d1_19) rfl (flt (by decide +kernel : ¬ ((12 : Int32) < (8 : Int32)))).2.1 (by decide) (by decide) ?_
    show Steps p.tables e below (s₁.setTop (mkF m 89 #[iv pk, iv (12 : Int32)] [])) _
    refine XS.iloadN X0.here hx rfl (hb hby d1_89) rfl ?_
    show Steps p.tables e below (s₁.setTop (mkF m 90 #[iv pk, iv (12 : Int32)] [(.int (12 : Int32))])) _
    refine XS.bipush X0.here hx rfl (hb hby d1_90) ?_
    show Steps p.tables e below (s₁.setTop (mkF m 92 #[iv pk, iv (12 : Int32)] [(.int (12 : Int32)), (.int (12 : Int32))])) _
    refine XS.icmpYes X0.here hx rfl (pc0 := 92) (pc' := 129) rfl (hb hby d1_92) rfl (flt (by decide +kernel : ¬ ((12 : Int32) < (12 : Int32)))).2.1 (by decide) (by decide) ?_
    show Steps p.tables e below (s₁.setTop (mkF m 129 #[iv pk, iv (12 : Int32)] [])) _
    refine XS.iloadN X0.here hx rfl (hb hby d1_129) rfl ?_
    show Steps p.tables e below (s₁.setTop (mkF m 130 #[iv pk, iv (12 : Int32)] [(.int (12 : Int32))])) _
    refine XS.bipush X0.here hx rfl (hb hby d1_130) ?_
    show Steps p.tables e below (s₁.setTop (mkF m 132 #[iv pk, iv (12 : Int32)] [(.int (12 : Int32)), (.int (12 : Int32))])) _
    refine XS.icmpNo X0.here hx rfl (hb hby d1_132) rfl (teq (by decide +kernel : (12 : Int32) = (12 : Int32))).2 ?_
    show Steps p.tables e below (s₁.setTop (mkF m 135 #[iv pk, iv (12 : Int32)] [])) _
    refine st1 _ ?_
    show Steps p.tables e below (T1.setTop (mkF m 138 #[iv pk, iv (12 : Int32)] [(.ref w_GraphicSet_CNS_11643_5)])) _
    exact own_retA X1 hx Bd.returns rfl rfl (hb hby d1_138) hr
  · exact ⟨rfl, N0, e1⟩
set_option maxRecDepth 65536 in
set_option maxHeartbeats 40000000 in
theorem rk1_14 (l : Launch) (Z : State) (a0 : Array Value) (hw : ∀ d ∈ tables_1, d.before a0 Z = true) (ws : List Jvm.Cond) (w_GraphicSet_CNS_11643_6 : Addr) (pk : Int32) (h0 : Heap) (n0 : Nat) (Z0 : n0 ≤ h0.size) (h48 : ¬ ((pk &&& (48 : Int32)) = (48 : Int32))) (h15 : (pk &&& (15 : Int32)) = (13 : Int32)) (S_GraphicSet_CNS_11643_6 : Sta Z h0 "com/example/pipewright/pipewright/io/Iso2022Layout$GraphicSet" "CNS_11643_6" "Lcom/example/pipewright/pipewright/io/Iso2022Layout$GraphicSet;" (.ref w_GraphicSet_CNS_11643_6)) :
    MetFree l (⟨"com/example/pipewright/pipewright/io/StateGetPinLaw", "pick", "(I)Lcom/example/pipewright/pipewright/io/Iso2022Layout$GraphicSet;"⟩ : MethodName) (head1 (Jvm.Cond.code (⟨"com/example/pipewright/pipewright/io/StateGetPinLaw", "pick", "(I)Lcom/example/pipewright/pipewright/io/Iso2022Layout$GraphicSet;"⟩ : MethodName) method_2_code 2 (some (.object "com/example/pipewright/pipewright/io/Iso2022Layout$GraphicSet")) :: ws) ({ frames := 0, cells := 0, slots := 0, locals := 0 } : Room)) (fun a U => a = #[(.int pk)] ∧ Z.Warmed39 U.vm ∧ U.heap = h0) (fun _ _ _ _ _ => True) (fun _ U o U' => ∃ v L, o = .returned v ∧ own_QP (some (.ref w_GraphicSet_CNS_11643_6)) h0 n0 v U'.heap L ∧ FrameEnd U o U' L ({ frames := 0, cells := 0, slots := 0, locals := 0 } : Room).cells ({ frames := 0, cells := 0, slots := 0, locals := 0 } : Room).slots) := by
  refine MetFree.of_bodySF (plainFor_of_name pn_0) hisR ?_
  intro p e s m args below meth c s₁ Bd hml0 hP hK
  obtain ⟨rfl, hZ, hh⟩ := hP
  have hx := Bd.exec
  have hby := Bd.bytes
  have hml : c.maxLocals = 2 := hml0
  have hown : s.vm.findClass "com/example/pipewright/pipewright/io/StateGetPinLaw" = some m.cls := findClass_of_methodNamed Bd.named
  have hnm := (name_of_methodNamed Bd.named Bd.method).1
  have X0 : Stand p l e ({ frames := 0, cells := 0, slots := 0, locals := 0 } : Room) s m #[(.int pk)] below meth c s₁ [] 0 0 := Stand.of_body Bd
  have e0 : s₁.heap = h0 := by rw [← hh, Bd.state]; rfl
  have N0 := Fr.nil n0
  have pre0 : ∀ t, Steps p.tables e below (s₁.setTop (mkF m 0 #[iv pk, .unset] [])) t → Steps p.tables e below (s₁.setTop (entryFrame m #[(.int pk)] 2)) t := fun t k => castTop (ef_1_I m pk) k
  obtain ⟨T1, X1, e1, st1⟩ := getS2 X0 hx hZ hown (host := "") (Or.inl (hw _ (List.mem_of_getElem? (i := 50) rfl))) Via.refl e0 S_GraphicSet_CNS_11643_6 (g := (mkF m 145 #[iv pk, iv (13 : Int32)] [])) rfl (hb hby d1_145)
  obtain ⟨fs, hr, hrun, hended, hW, hsame⟩ := X1.leave (v := (some (.ref w_GraphicSet_CNS_11643_6))) (fun h => by rw [Bd.returns] at h; cases h)
  refine ⟨_, _, pre0 _ ?_, hrun, hended, _, _, rfl, ?_, ⟨_, rfl⟩, hW, hsame.mono (by decide) (by decide)⟩
  · show Steps p.tables e below (s₁.setTop (mkF m 0 #[iv pk, .unset] [])) _
    refine XS.iloadN X0.here hx rfl (hb hby d1_0) rfl ?_
    show Steps p.tables e below (s₁.setTop (mkF m 1 #[iv pk, .unset] [(.int pk)])) _
    refine XS.bipush X0.here hx rfl (hb hby d1_1) ?_
    show Steps p.tables e below (s₁.setTop (mkF m 3 #[iv pk, .unset] [(.int (48 : Int32)), (.int pk)])) _
    refine XS.iand X0.here hx rfl (hb hby d1_3) rfl ?_
    show Steps p.tables e below (s₁.setTop (mkF m 4 #[iv pk, .unset] [(.int (pk &&& (48 : Int32)))])) _
    refine XS.bipush X0.here hx rfl (hb hby d1_4) ?_
    show Steps p.tables e below (s₁.setTop (mkF m 6 #[iv pk, .unset] [(.int (48 : Int32)), (.int (pk &&& (48 : Int32)))])) _
    refine XS.icmpYes X0.here hx rfl (pc0 := 6) (pc' := 11) rfl (hb hby d1_6) rfl (feq h48).2 (by decide) (by decide) ?_
    show Steps p.tables e below (s₁.setTop (mkF m 11 #[iv pk, .unset] [])) _
    refine XS.iloadN X0.here hx rfl (hb hby d1_11) rfl ?_
    show Steps p.tables e below (s₁.setTop (mkF m 12 #[iv pk, .unset] [(.int pk)])) _
    refine XS.bipush X0.here hx rfl (hb hby d1_12) ?_
    show Steps p.tables e below (s₁.setTop (mkF m 14 #[iv pk, .unset] [(.int (15 : Int32)), (.int pk)])) _
    refine XS.iand X0.here hx rfl (hb hby d1_14) rfl ?_
    show Steps p.tables e below (s₁.setTop (mkF m 15 #[iv pk, .unset] [(.int (pk &&& (15 : Int32)))])) _
    rewrite [h15]
    show Steps p.tables e below (s₁.setTop (mkF m 15 #[iv pk, .unset] [(.int (13 : Int32))])) _
    refine XS.istoreN X0.here hx rfl (hb hby d1_15) rfl (l' := #[iv pk, iv (13 : Int32)]) rfl ?_
    show Steps p.tables e below (s₁.setTop (mkF m 16 #[iv pk, iv (13 : Int32)] [])) _
    refine XS.iloadN X0.here hx rfl (hb hby d1_16) rfl ?_
    show Steps p.tables e below (s₁.setTop (mkF m 17 #[iv pk, iv (13 : Int32)] [(.int (13 : Int32))])) _
    refine XS.bipush X0.here hx rfl (hb hby d1_17) ?_
    show Steps p.tables e below (s₁.setTop (mkF m 19 #[iv pk, iv (13 : Int32)] [(.int (8 : Int32)), (.int (13 : Int32))])) _
    refine XS.icmpYes X0.here hx rfl (pc0 := 19) (pc' := 89) rfl (hb hby d1_19) rfl (flt (by decide +kernel : ¬ ((13 : Int32) < (8 : Int32)))).2.1 (by decide) (by decide) ?_
    show Steps p.tables e below (s₁.setTop (mkF m 89 #[iv pk, iv (13 : Int32)] [])) _
    refine XS.iloadN X0.here hx rfl (hb hby d1_89) rfl ?_
    show Steps p.tables e below (s₁.setTop (mkF m 90 #[iv pk, iv (13 : Int32)] [(.int (13 : Int32))])) _
    refine XS.bipush X0.here hx rfl (hb hby d1_90) ?_
    show Steps p.tables e below (s₁.setTop (mkF m 92 #[iv pk, iv (13 : Int32)] [(.int (12 : Int32)), (.int (13 : Int32))])) _
    refine XS.icmpYes X0.here hx rfl (pc0 := 92) (pc' := 129) rfl (hb hby d1_92) rfl (flt (by decide +kernel : ¬ ((13 : Int32) < (12 : Int32)))).2.1 (by decide) (by decide) ?_
    show Steps p.tables e below (s₁.setTop (mkF m 129 #[iv pk, iv (13 : Int32)] [])) _
    refine XS.iloadN X0.here hx rfl (hb hby d1_129) rfl ?_
    show Steps p.tables e below (s₁.setTop (mkF m 130 #[iv pk, iv (13 : Int32)] [(.int (13 : Int32))])) _
    refine XS.bipush X0.here hx rfl (hb hby d1_130) ?_
    show Steps p.tables e below (s₁.setTop (mkF m 132 #[iv pk, iv (13 : Int32)] [(.int (12 : Int32)), (.int (13 : Int32))])) _
    refine XS.icmpYes X0.here hx rfl (pc0 := 132) (pc' := 139) rfl (hb hby d1_132) rfl (feq (by decide +kernel : ¬ ((13 : Int32) = (12 : Int32)))).2 (by decide) (by decide) ?_
    show Steps p.tables e below (s₁.setTop (mkF m 139 #[iv pk, iv (13 : Int32)] [])) _
    refine XS.iloadN X0.here hx rfl (hb hby d1_139) rfl ?_
    show Steps p.tables e below (s₁.setTop (mkF m 140 #[iv pk, iv (13 : Int32)] [(.int (13 : Int32))])) _
    refine XS.bipush X0.here hx rfl (hb hby d1_140) ?_
    show Steps p.tables e below (s₁.setTop (mkF m 142 #[iv pk, iv (13 : Int32)] [(.int (13 : Int32)), (.int (13 : Int32))])) _
    refine XS.icmpNo X0.here hx rfl (hb hby d1_142) rfl (teq (by decide +kernel : (13 : Int32) = (13 : Int32))).2 ?_
    show Steps p.tables e below (s₁.setTop (mkF m 145 #[iv pk, iv (13 : Int32)] [])) _
    refine st1 _ ?_
    show Steps p.tables e below (T1.setTop (mkF m 148 #[iv pk, iv (13 : Int32)] [(.ref w_GraphicSet_CNS_11643_6)])) _
    exact own_retA X1 hx Bd.returns rfl rfl (hb hby d1_148) hr
  · exact ⟨rfl, N0, e1⟩
set_option maxRecDepth 65536 in
set_option maxHeartbeats 40000000 in
theorem rk1_15 (l : Launch) (Z : State) (a0 : Array Value) (hw : ∀ d ∈ tables_1, d.before a0 Z = true) (ws : List Jvm.Cond) (w_GraphicSet_CNS_11643_7 : Addr) (pk : Int32) (h0 : Heap) (n0 : Nat) (Z0 : n0 ≤ h0.size) (h48 : ¬ ((pk &&& (48 : Int32)) = (48 : Int32))) (h15 : (pk &&& (15 : Int32)) = (14 : Int32)) (S_GraphicSet_CNS_11643_7 : Sta Z h0 "com/example/pipewright/pipewright/io/Iso2022Layout$GraphicSet" "CNS_11643_7" "Lcom/example/pipewright/pipewright/io/Iso2022Layout$GraphicSet;" (.ref w_GraphicSet_CNS_11643_7)) :
    MetFree l (⟨"com/example/pipewright/pipewright/io/StateGetPinLaw", "pick", "(I)Lcom/example/pipewright/pipewright/io/Iso2022Layout$GraphicSet;"⟩ : MethodName) (head1 (Jvm.Cond.code (⟨"com/example/pipewright/pipewright/io/StateGetPinLaw", "pick", "(I)Lcom/example/pipewright/pipewright/io/Iso2022Layout$GraphicSet;"⟩ : MethodName) method_2_code 2 (some (.object "com/example/pipewright/pipewright/io/Iso2022Layout$GraphicSet")) :: ws) ({ frames := 0, cells := 0, slots := 0, locals := 0 } : Room)) (fun a U => a = #[(.int pk)] ∧ Z.Warmed39 U.vm ∧ U.heap = h0) (fun _ _ _ _ _ => True) (fun _ U o U' => ∃ v L, o = .returned v ∧ own_QP (some (.ref w_GraphicSet_CNS_11643_7)) h0 n0 v U'.heap L ∧ FrameEnd U o U' L ({ frames := 0, cells := 0, slots := 0, locals := 0 } : Room).cells ({ frames := 0, cells := 0, slots := 0, locals := 0 } : Room).slots) := by
  refine MetFree.of_bodySF (plainFor_of_name pn_0) hisR ?_
  intro p e s m args below meth c s₁ Bd hml0 hP hK
  obtain ⟨rfl, hZ, hh⟩ := hP
  have hx := Bd.exec
  have hby := Bd.bytes
  have hml : c.maxLocals = 2 := hml0
  have hown : s.vm.findClass "com/example/pipewright/pipewright/io/StateGetPinLaw" = some m.cls := findClass_of_methodNamed Bd.named
  have hnm := (name_of_methodNamed Bd.named Bd.method).1
  have X0 : Stand p l e ({ frames := 0, cells := 0, slots := 0, locals := 0 } : Room) s m #[(.int pk)] below meth c s₁ [] 0 0 := Stand.of_body Bd
  have e0 : s₁.heap = h0 := by rw [← hh, Bd.state]; rfl
  have N0 := Fr.nil n0
  have pre0 : ∀ t, Steps p.tables e below (s₁.setTop (mkF m 0 #[iv pk, .unset] [])) t → Steps p.tables e below (s₁.setTop (entryFrame m #[(.int pk)] 2)) t := fun t k => castTop (ef_1_I m pk) k
  obtain ⟨T1, X1, e1, st1⟩ := getS2 X0 hx hZ hown (host := "") (Or.inl (hw _ (List.mem_of_getElem? (i := 64) rfl))) Via.refl e0 S_GraphicSet_CNS_11643_7 (g := (mkF m 155 #[iv pk, iv (14 : Int32)] [])) rfl (hb hby d1_155)
  obtain ⟨fs, hr, hrun, hended, hW, hsame⟩ := X1.leave (v := (some (.ref w_GraphicSet_CNS_11643_7))) (fun h => by rw [Bd.returns] at h; cases h)
  refine ⟨_, _, pre0 _ ?_, hrun, hended, _, _, rfl, ?_, ⟨_, rfl⟩, hW, hsame.mono (by decide) (by decide)⟩
  · show Steps p.tables e below (s₁.setTop (mkF m 0 #[iv pk, .unset] [])) _
    refine XS.iloadN X0.here hx rfl (hb hby d1_0) rfl ?_
    show Steps p.tables e below (s₁.setTop (mkF m 1 #[iv pk, .unset] [(.int pk)])) _
    refine XS.bipush X0.here hx rfl (hb hby d1_1) ?_
    show Steps p.tables e below (s₁.setTop (mkF m 3 #[iv pk, .unset] [(.int (48 : Int32)), (.int pk)])) _
    refine XS.iand X0.here hx rfl (hb hby d1_3) rfl ?_
    show Steps p.tables e below (s₁.setTop (mkF m 4 #[iv pk, .unset] [(.int (pk &&& (48 : Int32)))])) _
    refine XS.bipush X0.here hx rfl (hb hby d1_4) ?_
    show Steps p.tables e below (s₁.setTop (mkF m 6 #[iv pk, .unset] [(.int (48 : Int32)), (.int (pk &&& (48 : Int32)))])) _
    refine XS.icmpYes X0.here hx rfl (pc0 := 6) (pc' := 11) rfl (hb hby d1_6) rfl (feq h48).2 (by decide) (by decide) ?_
    show Steps p.tables e below (s₁.setTop (mkF m 11 #[iv pk, .unset] [])) _
    refine XS.iloadN X0.here hx rfl (hb hby d1_11) rfl ?_
    show Steps p.tables e below (s₁.setTop (mkF m 12 #[iv pk, .unset] [(.int pk)])) _
    refine XS.bipush X0.here hx rfl (hb hby d1_12) ?_
    show Steps p.tables e below (s₁.setTop (mkF m 14 #[iv pk, .unset] [(.int (15 : Int32)), (.int pk)])) _
    refine XS.iand X0.here hx rfl (hb hby d1_14) rfl ?_
    show Steps p.tables e below (s₁.setTop (mkF m 15 #[iv pk, .unset] [(.int (pk &&& (15 : Int32)))])) _
    rewrite [h15]
    show Steps p.tables e below (s₁.setTop (mkF m 15 #[iv pk, .unset] [(.int (14 : Int32))])) _
    refine XS.istoreN X0.here hx rfl (hb hby d1_15) rfl (l' := #[iv pk, iv (14 : Int32)]) rfl ?_
    show Steps p.tables e below (s₁.setTop (mkF m 16 #[iv pk, iv (14 : Int32)] [])) _
    refine XS.iloadN X0.here hx rfl (hb hby d1_16) rfl ?_
    show Steps p.tables e below (s₁.setTop (mkF m 17 #[iv pk, iv (14 : Int32)] [(.int (14 : Int32))])) _
    refine XS.bipush X0.here hx rfl (hb hby d1_17) ?_
    show Steps p.tables e below (s₁.setTop (mkF m 19 #[iv pk, iv (14 : Int32)] [(.int (8 : Int32)), (.int (14 : Int32))])) _
    refine XS.icmpYes X0.here hx rfl (pc0 := 19) (pc' := 89) rfl (hb hby d1_19) rfl (flt (by decide +kernel : ¬ ((14 : Int32) < (8 : Int32)))).2.1 (by decide) (by decide) ?_
    show Steps p.tables e below (s₁.setTop (mkF m 89 #[iv pk, iv (14 : Int32)] [])) _
    refine XS.iloadN X0.here hx rfl (hb hby d1_89) rfl ?_
    show Steps p.tables e below (s₁.setTop (mkF m 90 #[iv pk, iv (14 : Int32)] [(.int (14 : Int32))])) _
    refine XS.bipush X0.here hx rfl (hb hby d1_90) ?_
    show Steps p.tables e below (s₁.setTop (mkF m 92 #[iv pk, iv (14 : Int32)] [(.int (12 : Int32)), (.int (14 : Int32))])) _
    refine XS.icmpYes X0.here hx rfl (pc0 := 92) (pc' := 129) rfl (hb hby d1_92) rfl (flt (by decide +kernel : ¬ ((14 : Int32) < (12 : Int32)))).2.1 (by decide) (by decide) ?_
    show Steps p.tables e below (s₁.setTop (mkF m 129 #[iv pk, iv (14 : Int32)] [])) _
    refine XS.iloadN X0.here hx rfl (hb hby d1_129) rfl ?_
    show Steps p.tables e below (s₁.setTop (mkF m 130 #[iv pk, iv (14 : Int32)] [(.int (14 : Int32))])) _
    refine XS.bipush X0.here hx rfl (hb hby d1_130) ?_
    show Steps p.tables e below (s₁.setTop (mkF m 132 #[iv pk, iv (14 : Int32)] [(.int (12 : Int32)), (.int (14 : Int32))])) _
    refine XS.icmpYes X0.here hx rfl (pc0 := 132) (pc' := 139) rfl (hb hby d1_132) rfl (feq (by decide +kernel : ¬ ((14 : Int32) = (12 : Int32)))).2 (by decide) (by decide) ?_
    show Steps p.tables e below (s₁.setTop (mkF m 139 #[iv pk, iv (14 : Int32)] [])) _
    refine XS.iloadN X0.here hx rfl (hb hby d1_139) rfl ?_
    show Steps p.tables e below (s₁.setTop (mkF m 140 #[iv pk, iv (14 : Int32)] [(.int (14 : Int32))])) _
    refine XS.bipush X0.here hx rfl (hb hby d1_140) ?_
    show Steps p.tables e below (s₁.setTop (mkF m 142 #[iv pk, iv (14 : Int32)] [(.int (13 : Int32)), (.int (14 : Int32))])) _
    refine XS.icmpYes X0.here hx rfl (pc0 := 142) (pc' := 149) rfl (hb hby d1_142) rfl (feq (by decide +kernel : ¬ ((14 : Int32) = (13 : Int32)))).2 (by decide) (by decide) ?_
    show Steps p.tables e below (s₁.setTop (mkF m 149 #[iv pk, iv (14 : Int32)] [])) _
    refine XS.iloadN X0.here hx rfl (hb hby d1_149) rfl ?_
    show Steps p.tables e below (s₁.setTop (mkF m 150 #[iv pk, iv (14 : Int32)] [(.int (14 : Int32))])) _
    refine XS.bipush X0.here hx rfl (hb hby d1_150) ?_
    show Steps p.tables e below (s₁.setTop (mkF m 152 #[iv pk, iv (14 : Int32)] [(.int (14 : Int32)), (.int (14 : Int32))])) _
    refine XS.icmpNo X0.here hx rfl (hb hby d1_152) rfl (teq (by decide +kernel : (14 : Int32) = (14 : Int32))).2 ?_
    show Steps p.tables e below (s₁.setTop (mkF m 155 #[iv pk, iv (14 : Int32)] [])) _
    refine st1 _ ?_
    show Steps p.tables e below (T1.setTop (mkF m 158 #[iv pk, iv (14 : Int32)] [(.ref w_GraphicSet_CNS_11643_7)])) _
    exact own_retA X1 hx Bd.returns rfl rfl (hb hby d1_158) hr
  · exact ⟨rfl, N0, e1⟩
set_option maxRecDepth 65536 in
set_option maxHeartbeats 40000000 in
theorem rk1_16 (l : Launch) (Z : State) (a0 : Array Value) (hw : ∀ d ∈ tables_1, d.before a0 Z = true) (ws : List Jvm.Cond) (w_GraphicSet_UNREAD_TWO_BYTES : Addr) (pk : Int32) (h0 : Heap) (n0 : Nat) (Z0 : n0 ≤ h0.size) (h48 : ¬ ((pk &&& (48 : Int32)) = (48 : Int32))) (h15 : (pk &&& (15 : Int32)) = (15 : Int32)) (S_GraphicSet_UNREAD_TWO_BYTES : Sta Z h0 "com/example/pipewright/pipewright/io/Iso2022Layout$GraphicSet" "UNREAD_TWO_BYTES" "Lcom/example/pipewright/pipewright/io/Iso2022Layout$GraphicSet;" (.ref w_GraphicSet_UNREAD_TWO_BYTES)) :
    MetFree l (⟨"com/example/pipewright/pipewright/io/StateGetPinLaw", "pick", "(I)Lcom/example/pipewright/pipewright/io/Iso2022Layout$GraphicSet;"⟩ : MethodName) (head1 (Jvm.Cond.code (⟨"com/example/pipewright/pipewright/io/StateGetPinLaw", "pick", "(I)Lcom/example/pipewright/pipewright/io/Iso2022Layout$GraphicSet;"⟩ : MethodName) method_2_code 2 (some (.object "com/example/pipewright/pipewright/io/Iso2022Layout$GraphicSet")) :: ws) ({ frames := 0, cells := 0, slots := 0, locals := 0 } : Room)) (fun a U => a = #[(.int pk)] ∧ Z.Warmed39 U.vm ∧ U.heap = h0) (fun _ _ _ _ _ => True) (fun _ U o U' => ∃ v L, o = .returned v ∧ own_QP (some (.ref w_GraphicSet_UNREAD_TWO_BYTES)) h0 n0 v U'.heap L ∧ FrameEnd U o U' L ({ frames := 0, cells := 0, slots := 0, locals := 0 } : Room).cells ({ frames := 0, cells := 0, slots := 0, locals := 0 } : Room).slots) := by
  refine MetFree.of_bodySF (plainFor_of_name pn_0) hisR ?_
  intro p e s m args below meth c s₁ Bd hml0 hP hK
  obtain ⟨rfl, hZ, hh⟩ := hP
  have hx := Bd.exec
  have hby := Bd.bytes
  have hml : c.maxLocals = 2 := hml0
  have hown : s.vm.findClass "com/example/pipewright/pipewright/io/StateGetPinLaw" = some m.cls := findClass_of_methodNamed Bd.named
  have hnm := (name_of_methodNamed Bd.named Bd.method).1
  have X0 : Stand p l e ({ frames := 0, cells := 0, slots := 0, locals := 0 } : Room) s m #[(.int pk)] below meth c s₁ [] 0 0 := Stand.of_body Bd
  have e0 : s₁.heap = h0 := by rw [← hh, Bd.state]; rfl
  have N0 := Fr.nil n0
  have pre0 : ∀ t, Steps p.tables e below (s₁.setTop (mkF m 0 #[iv pk, .unset] [])) t → Steps p.tables e below (s₁.setTop (entryFrame m #[(.int pk)] 2)) t := fun t k => castTop (ef_1_I m pk) k
  obtain ⟨T1, X1, e1, st1⟩ := getS2 X0 hx hZ hown (host := "") (Or.inl (hw _ (List.mem_of_getElem? (i := 46) rfl))) Via.refl e0 S_GraphicSet_UNREAD_TWO_BYTES (g := (mkF m 159 #[iv pk, iv (15 : Int32)] [])) rfl (hb hby d1_159)
  obtain ⟨fs, hr, hrun, hended, hW, hsame⟩ := X1.leave (v := (some (.ref w_GraphicSet_UNREAD_TWO_BYTES))) (fun h => by rw [Bd.returns] at h; cases h)
  refine ⟨_, _, pre0 _ ?_, hrun, hended, _, _, rfl, ?_, ⟨_, rfl⟩, hW, hsame.mono (by decide) (by decide)⟩
  · show Steps p.tables e below (s₁.setTop (mkF m 0 #[iv pk, .unset] [])) _
    refine XS.iloadN X0.here hx rfl (hb hby d1_0) rfl ?_
    show Steps p.tables e below (s₁.setTop (mkF m 1 #[iv pk, .unset] [(.int pk)])) _
    refine XS.bipush X0.here hx rfl (hb hby d1_1) ?_
    show Steps p.tables e below (s₁.setTop (mkF m 3 #[iv pk, .unset] [(.int (48 : Int32)), (.int pk)])) _
    refine XS.iand X0.here hx rfl (hb hby d1_3) rfl ?_
    show Steps p.tables e below (s₁.setTop (mkF m 4 #[iv pk, .unset] [(.int (pk &&& (48 : Int32)))])) _
    refine XS.bipush X0.here hx rfl (hb hby d1_4) ?_
    show Steps p.tables e below (s₁.setTop (mkF m 6 #[iv pk, .unset] [(.int (48 : Int32)), (.int (pk &&& (48 : Int32)))])) _
    refine XS.icmpYes X0.here hx rfl (pc0 := 6) (pc' := 11) rfl (hb hby d1_6) rfl (feq h48).2 (by decide) (by decide) ?_
    show Steps p.tables e below (s₁.setTop (mkF m 11 #[iv pk, .unset] [])) _
    refine XS.iloadN X0.here hx rfl (hb hby d1_11) rfl ?_
    show Steps p.tables e below (s₁.setTop (mkF m 12 #[iv pk, .unset] [(.int pk)])) _
    refine XS.bipush X0.here hx rfl (hb hby d1_12) ?_
    show Steps p.tables e below (s₁.setTop (mkF m 14 #[iv pk, .unset] [(.int (15 : Int32)), (.int pk)])) _
    refine XS.iand X0.here hx rfl (hb hby d1_14) rfl ?_
    show Steps p.tables e below (s₁.setTop (mkF m 15 #[iv pk, .unset] [(.int (pk &&& (15 : Int32)))])) _
    rewrite [h15]
    show Steps p.tables e below (s₁.setTop (mkF m 15 #[iv pk, .unset] [(.int (15 : Int32))])) _
    refine XS.istoreN X0.here hx rfl (hb hby d1_15) rfl (l' := #[iv pk, iv (15 : Int32)]) rfl ?_
    show Steps p.tables e below (s₁.setTop (mkF m 16 #[iv pk, iv (15 : Int32)] [])) _
    refine XS.iloadN X0.here hx rfl (hb hby d1_16) rfl ?_
    show Steps p.tables e below (s₁.setTop (mkF m 17 #[iv pk, iv (15 : Int32)] [(.int (15 : Int32))])) _
    refine XS.bipush X0.here hx rfl (hb hby d1_17) ?_
    show Steps p.tables e below (s₁.setTop (mkF m 19 #[iv pk, iv (15 : Int32)] [(.int (8 : Int32)), (.int (15 : Int32))])) _
    refine XS.icmpYes X0.here hx rfl (pc0 := 19) (pc' := 89) rfl (hb hby d1_19) rfl (flt (by decide +kernel : ¬ ((15 : Int32) < (8 : Int32)))).2.1 (by decide) (by decide) ?_
    show Steps p.tables e below (s₁.setTop (mkF m 89 #[iv pk, iv (15 : Int32)] [])) _
    refine XS.iloadN X0.here hx rfl (hb hby d1_89) rfl ?_
    show Steps p.tables e below (s₁.setTop (mkF m 90 #[iv pk, iv (15 : Int32)] [(.int (15 : Int32))])) _
    refine XS.bipush X0.here hx rfl (hb hby d1_90) ?_
    show Steps p.tables e below (s₁.setTop (mkF m 92 #[iv pk, iv (15 : Int32)] [(.int (12 : Int32)), (.int (15 : Int32))])) _
    refine XS.icmpYes X0.here hx rfl (pc0 := 92) (pc' := 129) rfl (hb hby d1_92) rfl (flt (by decide +kernel : ¬ ((15 : Int32) < (12 : Int32)))).2.1 (by decide) (by decide) ?_
    show Steps p.tables e below (s₁.setTop (mkF m 129 #[iv pk, iv (15 : Int32)] [])) _
    refine XS.iloadN X0.here hx rfl (hb hby d1_129) rfl ?_
    show Steps p.tables e below (s₁.setTop (mkF m 130 #[iv pk, iv (15 : Int32)] [(.int (15 : Int32))])) _
    refine XS.bipush X0.here hx rfl (hb hby d1_130) ?_
    show Steps p.tables e below (s₁.setTop (mkF m 132 #[iv pk, iv (15 : Int32)] [(.int (12 : Int32)), (.int (15 : Int32))])) _
    refine XS.icmpYes X0.here hx rfl (pc0 := 132) (pc' := 139) rfl (hb hby d1_132) rfl (feq (by decide +kernel : ¬ ((15 : Int32) = (12 : Int32)))).2 (by decide) (by decide) ?_
    show Steps p.tables e below (s₁.setTop (mkF m 139 #[iv pk, iv (15 : Int32)] [])) _
    refine XS.iloadN X0.here hx rfl (hb hby d1_139) rfl ?_
    show Steps p.tables e below (s₁.setTop (mkF m 140 #[iv pk, iv (15 : Int32)] [(.int (15 : Int32))])) _
    refine XS.bipush X0.here hx rfl (hb hby d1_140) ?_
    show Steps p.tables e below (s₁.setTop (mkF m 142 #[iv pk, iv (15 : Int32)] [(.int (13 : Int32)), (.int (15 : Int32))])) _
    refine XS.icmpYes X0.here hx rfl (pc0 := 142) (pc' := 149) rfl (hb hby d1_142) rfl (feq (by decide +kernel : ¬ ((15 : Int32) = (13 : Int32)))).2 (by decide) (by decide) ?_
    show Steps p.tables e below (s₁.setTop (mkF m 149 #[iv pk, iv (15 : Int32)] [])) _
    refine XS.iloadN X0.here hx rfl (hb hby d1_149) rfl ?_
    show Steps p.tables e below (s₁.setTop (mkF m 150 #[iv pk, iv (15 : Int32)] [(.int (15 : Int32))])) _
    refine XS.bipush X0.here hx rfl (hb hby d1_150) ?_
    show Steps p.tables e below (s₁.setTop (mkF m 152 #[iv pk, iv (15 : Int32)] [(.int (14 : Int32)), (.int (15 : Int32))])) _
    refine XS.icmpYes X0.here hx rfl (pc0 := 152) (pc' := 159) rfl (hb hby d1_152) rfl (feq (by decide +kernel : ¬ ((15 : Int32) = (14 : Int32)))).2 (by decide) (by decide) ?_
    show Steps p.tables e below (s₁.setTop (mkF m 159 #[iv pk, iv (15 : Int32)] [])) _
    refine st1 _ ?_
    show Steps p.tables e below (T1.setTop (mkF m 162 #[iv pk, iv (15 : Int32)] [(.ref w_GraphicSet_UNREAD_TWO_BYTES)])) _
    exact own_retA X1 hx Bd.returns rfl rfl (hb hby d1_162) hr
  · exact ⟨rfl, N0, e1⟩
theorem rk1 (l : Launch) (Z : State) (a0 : Array Value) (hw : ∀ d ∈ tables_1, d.before a0 Z = true) (ws : List Jvm.Cond) (w_GraphicSet_ASCII : Addr) (w_GraphicSet_UNREAD_ONE_BYTE : Addr) (w_GraphicSet_JIS_X_0201_KATAKANA : Addr) (w_GraphicSet_JIS_X_0201_ROMAN : Addr) (w_GraphicSet_JIS_X_0208 : Addr) (w_GraphicSet_CNS_11643_3 : Addr) (w_GraphicSet_UNREAD_TWO_BYTES : Addr) (w_GraphicSet_KS_X_1001 : Addr) (w_GraphicSet_CNS_11643_6 : Addr) (w_GraphicSet_CNS_11643_2 : Addr) (w_GraphicSet_CNS_11643_5 : Addr) (w_GraphicSet_CNS_11643_1 : Addr) (w_GraphicSet_CNS_11643_4 : Addr) (w_GraphicSet_JIS_X_0212 : Addr) (w_GraphicSet_GB_2312 : Addr) (w_GraphicSet_CNS_11643_7 : Addr) (pk : Int32) (h0 : Heap) (n0 : Nat) (Z0 : n0 ≤ h0.size) (S_GraphicSet_ASCII : Sta Z h0 "com/example/pipewright/pipewright/io/Iso2022Layout$GraphicSet" "ASCII" "Lcom/example/pipewright/pipewright/io/Iso2022Layout$GraphicSet;" (.ref w_GraphicSet_ASCII)) (S_GraphicSet_JIS_X_0201_ROMAN : Sta Z h0 "com/example/pipewright/pipewright/io/Iso2022Layout$GraphicSet" "JIS_X_0201_ROMAN" "Lcom/example/pipewright/pipewright/io/Iso2022Layout$GraphicSet;" (.ref w_GraphicSet_JIS_X_0201_ROMAN)) (S_GraphicSet_JIS_X_0201_KATAKANA : Sta Z h0 "com/example/pipewright/pipewright/io/Iso2022Layout$GraphicSet" "JIS_X_0201_KATAKANA" "Lcom/example/pipewright/pipewright/io/Iso2022Layout$GraphicSet;" (.ref w_GraphicSet_JIS_X_0201_KATAKANA)) (S_GraphicSet_UNREAD_ONE_BYTE : Sta Z h0 "com/example/pipewright/pipewright/io/Iso2022Layout$GraphicSet" "UNREAD_ONE_BYTE" "Lcom/example/pipewright/pipewright/io/Iso2022Layout$GraphicSet;" (.ref w_GraphicSet_UNREAD_ONE_BYTE)) (S_GraphicSet_JIS_X_0208 : Sta Z h0 "com/example/pipewright/pipewright/io/Iso2022Layout$GraphicSet" "JIS_X_0208" "Lcom/example/pipewright/pipewright/io/Iso2022Layout$GraphicSet;" (.ref w_GraphicSet_JIS_X_0208)) (S_GraphicSet_JIS_X_0212 : Sta Z h0 "com/example/pipewright/pipewright/io/Iso2022Layout$GraphicSet" "JIS_X_0212" "Lcom/example/pipewright/pipewright/io/Iso2022Layout$GraphicSet;" (.ref w_GraphicSet_JIS_X_0212)) (S_GraphicSet_GB_2312 : Sta Z h0 "com/example/pipewright/pipewright/io/Iso2022Layout$GraphicSet" "GB_2312" "Lcom/example/pipewright/pipewright/io/Iso2022Layout$GraphicSet;" (.ref w_GraphicSet_GB_2312)) (S_GraphicSet_KS_X_1001 : Sta Z h0 "com/example/pipewright/pipewright/io/Iso2022Layout$GraphicSet" "KS_X_1001" "Lcom/example/pipewright/pipewright/io/Iso2022Layout$GraphicSet;" (.ref w_GraphicSet_KS_X_1001)) (S_GraphicSet_CNS_11643_1 : Sta Z h0 "com/example/pipewright/pipewright/io/Iso2022Layout$GraphicSet" "CNS_11643_1" "Lcom/example/pipewright/pipewright/io/Iso2022Layout$GraphicSet;" (.ref w_GraphicSet_CNS_11643_1)) (S_GraphicSet_CNS_11643_2 : Sta Z h0 "com/example/pipewright/pipewright/io/Iso2022Layout$GraphicSet" "CNS_11643_2" "Lcom/example/pipewright/pipewright/io/Iso2022Layout$GraphicSet;" (.ref w_GraphicSet_CNS_11643_2)) (S_GraphicSet_CNS_11643_3 : Sta Z h0 "com/example/pipewright/pipewright/io/Iso2022Layout$GraphicSet" "CNS_11643_3" "Lcom/example/pipewright/pipewright/io/Iso2022Layout$GraphicSet;" (.ref w_GraphicSet_CNS_11643_3)) (S_GraphicSet_CNS_11643_4 : Sta Z h0 "com/example/pipewright/pipewright/io/Iso2022Layout$GraphicSet" "CNS_11643_4" "Lcom/example/pipewright/pipewright/io/Iso2022Layout$GraphicSet;" (.ref w_GraphicSet_CNS_11643_4)) (S_GraphicSet_CNS_11643_5 : Sta Z h0 "com/example/pipewright/pipewright/io/Iso2022Layout$GraphicSet" "CNS_11643_5" "Lcom/example/pipewright/pipewright/io/Iso2022Layout$GraphicSet;" (.ref w_GraphicSet_CNS_11643_5)) (S_GraphicSet_CNS_11643_6 : Sta Z h0 "com/example/pipewright/pipewright/io/Iso2022Layout$GraphicSet" "CNS_11643_6" "Lcom/example/pipewright/pipewright/io/Iso2022Layout$GraphicSet;" (.ref w_GraphicSet_CNS_11643_6)) (S_GraphicSet_CNS_11643_7 : Sta Z h0 "com/example/pipewright/pipewright/io/Iso2022Layout$GraphicSet" "CNS_11643_7" "Lcom/example/pipewright/pipewright/io/Iso2022Layout$GraphicSet;" (.ref w_GraphicSet_CNS_11643_7)) (S_GraphicSet_UNREAD_TWO_BYTES : Sta Z h0 "com/example/pipewright/pipewright/io/Iso2022Layout$GraphicSet" "UNREAD_TWO_BYTES" "Lcom/example/pipewright/pipewright/io/Iso2022Layout$GraphicSet;" (.ref w_GraphicSet_UNREAD_TWO_BYTES)) :
    MetFree l (⟨"com/example/pipewright/pipewright/io/StateGetPinLaw", "pick", "(I)Lcom/example/pipewright/pipewright/io/Iso2022Layout$GraphicSet;"⟩ : MethodName) (head1 (Jvm.Cond.code (⟨"com/example/pipewright/pipewright/io/StateGetPinLaw", "pick", "(I)Lcom/example/pipewright/pipewright/io/Iso2022Layout$GraphicSet;"⟩ : MethodName) method_2_code 2 (some (.object "com/example/pipewright/pipewright/io/Iso2022Layout$GraphicSet")) :: ws) ({ frames := 0, cells := 0, slots := 0, locals := 0 } : Room)) (fun a U => a = #[(.int pk)] ∧ Z.Warmed39 U.vm ∧ U.heap = h0) (fun _ _ _ _ _ => True) (fun _ U o U' => ∃ v L, o = .returned v ∧ own_QR h0 n0 v U'.heap L ∧ FrameEnd U o U' L ({ frames := 0, cells := 0, slots := 0, locals := 0 } : Room).cells ({ frames := 0, cells := 0, slots := 0, locals := 0 } : Room).slots) := by
  rcases own_s48 pk with h48 | h48
  · exact own_weak rfl (rk1_0 l Z a0 hw ws pk h0 n0 Z0 h48)
  · rcases own_s15 pk with h15 | h15 | h15 | h15 | h15 | h15 | h15 | h15 | h15 | h15 | h15 | h15 | h15 | h15 | h15 | h15
    · exact own_weak rfl (rk1_1 l Z a0 hw ws w_GraphicSet_ASCII pk h0 n0 Z0 h48 h15 S_GraphicSet_ASCII)
    · exact own_weak rfl (rk1_2 l Z a0 hw ws w_GraphicSet_JIS_X_0201_ROMAN pk h0 n0 Z0 h48 h15 S_GraphicSet_JIS_X_0201_ROMAN)
    · exact own_weak rfl (rk1_3 l Z a0 hw ws w_GraphicSet_JIS_X_0201_KATAKANA pk h0 n0 Z0 h48 h15 S_GraphicSet_JIS_X_0201_KATAKANA)
    · exact own_weak rfl (rk1_4 l Z a0 hw ws w_GraphicSet_UNREAD_ONE_BYTE pk h0 n0 Z0 h48 h15 S_GraphicSet_UNREAD_ONE_BYTE)
    · exact own_weak rfl (rk1_5 l Z a0 hw ws w_GraphicSet_JIS_X_0208 pk h0 n0 Z0 h48 h15 S_GraphicSet_JIS_X_0208)
    · exact own_weak rfl (rk1_6 l Z a0 hw ws w_GraphicSet_JIS_X_0212 pk h0 n0 Z0 h48 h15 S_GraphicSet_JIS_X_0212)
    · exact own_weak rfl (rk1_7 l Z a0 hw ws w_GraphicSet_GB_2312 pk h0 n0 Z0 h48 h15 S_GraphicSet_GB_2312)
    · exact own_weak rfl (rk1_8 l Z a0 hw ws w_GraphicSet_KS_X_1001 pk h0 n0 Z0 h48 h15 S_GraphicSet_KS_X_1001)
    · exact own_weak rfl (rk1_9 l Z a0 hw ws w_GraphicSet_CNS_11643_1 pk h0 n0 Z0 h48 h15 S_GraphicSet_CNS_11643_1)
    · exact own_weak rfl (rk1_10 l Z a0 hw ws w_GraphicSet_CNS_11643_2 pk h0 n0 Z0 h48 h15 S_GraphicSet_CNS_11643_2)
    · exact own_weak rfl (rk1_11 l Z a0 hw ws w_GraphicSet_CNS_11643_3 pk h0 n0 Z0 h48 h15 S_GraphicSet_CNS_11643_3)
    · exact own_weak rfl (rk1_12 l Z a0 hw ws w_GraphicSet_CNS_11643_4 pk h0 n0 Z0 h48 h15 S_GraphicSet_CNS_11643_4)
    · exact own_weak rfl (rk1_13 l Z a0 hw ws w_GraphicSet_CNS_11643_5 pk h0 n0 Z0 h48 h15 S_GraphicSet_CNS_11643_5)
    · exact own_weak rfl (rk1_14 l Z a0 hw ws w_GraphicSet_CNS_11643_6 pk h0 n0 Z0 h48 h15 S_GraphicSet_CNS_11643_6)
    · exact own_weak rfl (rk1_15 l Z a0 hw ws w_GraphicSet_CNS_11643_7 pk h0 n0 Z0 h48 h15 S_GraphicSet_CNS_11643_7)
    · exact own_weak rfl (rk1_16 l Z a0 hw ws w_GraphicSet_UNREAD_TWO_BYTES pk h0 n0 Z0 h48 h15 S_GraphicSet_UNREAD_TWO_BYTES)
set_option maxRecDepth 65536 in
set_option maxHeartbeats 40000000 in
theorem rm3_0 (l : Launch) (Z : State) (a0 : Array Value) (hw : ∀ d ∈ tables_1, d.before a0 Z = true) (ws : List Jvm.Cond) (b0_5 : Addr) (h0 : Heap) (n0 : Nat) (Z0 : n0 ≤ h0.size) :
    MetFree l (⟨"java/lang/Record", "<init>", "()V"⟩ : MethodName) (head1 (Jvm.Cond.code (⟨"java/lang/Record", "<init>", "()V"⟩ : MethodName) jdk_30_method_1_code 1 none :: ws) ({ frames := 1, cells := 0, slots := 0, locals := 12 } : Room)) (fun a U => a = #[(.ref b0_5)] ∧ Z.Warmed39 U.vm ∧ U.heap = h0) (fun _ _ _ _ _ => True) (fun _ U o U' => ∃ v L, o = .returned v ∧ own_QP none h0 n0 v U'.heap L ∧ FrameEnd U o U' L ({ frames := 1, cells := 0, slots := 0, locals := 12 } : Room).cells ({ frames := 1, cells := 0, slots := 0, locals := 12 } : Room).slots) := by
  refine MetFree.of_bodySF (plainFor_of_name pn_1) hisR ?_
  intro p e s m args below meth c s₁ Bd hml0 hP hK
  obtain ⟨rfl, hZ, hh⟩ := hP
  have hx := Bd.exec
  have hby := Bd.bytes
  have hml : c.maxLocals = 1 := hml0
  have hown : s.vm.findClass "java/lang/Record" = some m.cls := findClass_of_methodNamed Bd.named
  have hnm := (name_of_methodNamed Bd.named Bd.method).1
  have X0 : Stand p l e ({ frames := 1, cells := 0, slots := 0, locals := 12 } : Room) s m #[(.ref b0_5)] below meth c s₁ [] 0 0 := Stand.of_body Bd
  have e0 : s₁.heap = h0 := by rw [← hh, Bd.state]; rfl
  have N0 := Fr.nil n0
  have pre0 : ∀ t, Steps p.tables e below (s₁.setTop (mkF m 0 #[rv b0_5] [])) t → Steps p.tables e below (s₁.setTop (entryFrame m #[(.ref b0_5)] 1)) t := fun t k => castTop (ef_3_R m b0_5) k
  obtain ⟨T1, X1, e1, st1⟩ := initO X0 hx hZ hown (hw _ (List.mem_of_getElem? (i := 24) rfl)) (hw _ (List.mem_of_getElem? (i := 25) rfl)) (hw _ (List.mem_of_getElem? (i := 26) rfl)) e0 (g := (mkF m 1 #[rv b0_5] [(.ref b0_5)])) rfl (by rw [hml]; rfl) rfl (hb hby d3_1) (by decide) (W := 0) (by show 2 * 0 + _ ≤ _; exact Nat.le_of_eq rfl) (by decide)
  obtain ⟨fs, hr, hrun, hended, hW, hsame⟩ := X1.leave (v := none) (fun _ => rfl)
  refine ⟨_, _, pre0 _ ?_, hrun, hended, _, _, rfl, ?_, ⟨_, rfl⟩, hW, hsame.mono (by decide) (by decide)⟩
  · show Steps p.tables e below (s₁.setTop (mkF m 0 #[rv b0_5] [])) _
    refine XS.aloadN X0.here hx rfl (hb hby d3_0) rfl rfl ?_
    show Steps p.tables e below (s₁.setTop (mkF m 1 #[rv b0_5] [(.ref b0_5)])) _
    refine st1 _ ?_
    show Steps p.tables e below (T1.setTop (mkF m 4 #[rv b0_5] [])) _
    exact X1.returnOut hx Bd.returns (hb hby d3_4) hr
  · exact ⟨rfl, N0, e1⟩
def Q_rm2_0 (Z : State) (u0_1 : Value) (u0_2 : Value) (u0_3 : Value) (u0_4 : Value) (b0_5 : Addr) (h0 : Heap) (n0 : Nat) (v : Option Value) (h : Heap) (L : List Loc) : Prop := (v = none) ∧ (Fr n0 L) ∧ (Keep h0 h [b0_5]) ∧ (Fld Z h b0_5 "com/example/pipewright/pipewright/io/Iso2022Layout$State" "g0" "Lcom/example/pipewright/pipewright/io/Iso2022Layout$GraphicSet;" u0_1) ∧ (Fld Z h b0_5 "com/example/pipewright/pipewright/io/Iso2022Layout$State" "g1" "Lcom/example/pipewright/pipewright/io/Iso2022Layout$GraphicSet;" u0_2) ∧ (Fld Z h b0_5 "com/example/pipewright/pipewright/io/Iso2022Layout$State" "g2" "Lcom/example/pipewright/pipewright/io/Iso2022Layout$GraphicSet;" u0_3) ∧ (Fld Z h b0_5 "com/example/pipewright/pipewright/io/Iso2022Layout$State" "g3" "Lcom/example/pipewright/pipewright/io/Iso2022Layout$GraphicSet;" u0_4) ∧ (Fld Z h b0_5 "com/example/pipewright/pipewright/io/Iso2022Layout$State" "shifted" "Z" (.int (0 : Int32))) ∧ (Exa Z h b0_5 "com/example/pipewright/pipewright/io/Iso2022Layout$State")
set_option maxRecDepth 65536 in
set_option maxHeartbeats 40000000 in
theorem rm2_0 (l : Launch) (Z : State) (a0 : Array Value) (hw : ∀ d ∈ tables_1, d.before a0 Z = true) (ws : List Jvm.Cond) (u0_1 : Value) (u0_2 : Value) (u0_3 : Value) (u0_4 : Value) (b0_5 : Addr) (h0 : Heap) (n0 : Nat) (Z0 : n0 ≤ h0.size) (hr_u0_1 : u0_1.isRef = true) (E_b0_5 : Exa Z h0 b0_5 "com/example/pipewright/pipewright/io/Iso2022Layout$State") (F_b0_5_g0 : Fld Z h0 b0_5 "com/example/pipewright/pipewright/io/Iso2022Layout$State" "g0" "Lcom/example/pipewright/pipewright/io/Iso2022Layout$GraphicSet;" .null) (g_b0_5 : n0 ≤ b0_5) (hr_u0_2 : u0_2.isRef = true) (F_b0_5_g1 : Fld Z h0 b0_5 "com/example/pipewright/pipewright/io/Iso2022Layout$State" "g1" "Lcom/example/pipewright/pipewright/io/Iso2022Layout$GraphicSet;" .null) (hr_u0_3 : u0_3.isRef = true) (F_b0_5_g2 : Fld Z h0 b0_5 "com/example/pipewright/pipewright/io/Iso2022Layout$State" "g2" "Lcom/example/pipewright/pipewright/io/Iso2022Layout$GraphicSet;" .null) (hr_u0_4 : u0_4.isRef = true) (F_b0_5_g3 : Fld Z h0 b0_5 "com/example/pipewright/pipewright/io/Iso2022Layout$State" "g3" "Lcom/example/pipewright/pipewright/io/Iso2022Layout$GraphicSet;" .null) (F_b0_5_shifted : Fld Z h0 b0_5 "com/example/pipewright/pipewright/io/Iso2022Layout$State" "shifted" "Z" (.int (0 : Int32))) :
    MetFree l (⟨"com/example/pipewright/pipewright/io/Iso2022Layout$State", "<init>", "(Lcom/example/pipewright/pipewright/io/Iso2022Layout$GraphicSet;Lcom/example/pipewright/pipewright/io/Iso2022Layout$GraphicSet;Lcom/example/pipewright/pipewright/io/Iso2022Layout$GraphicSet;Lcom/example/pipewright/pipewright/io/Iso2022Layout$GraphicSet;Z)V"⟩ : MethodName) (head1 (Jvm.Cond.code (⟨"com/example/pipewright/pipewright/io/Iso2022Layout$State", "<init>", "(Lcom/example/pipewright/pipewright/io/Iso2022Layout$GraphicSet;Lcom/example/pipewright/pipewright/io/Iso2022Layout$GraphicSet;Lcom/example/pipewright/pipewright/io/Iso2022Layout$GraphicSet;Lcom/example/pipewright/pipewright/io/Iso2022Layout$GraphicSet;Z)V"⟩ : MethodName) prog_25_method_2_code 6 none :: ws) ({ frames := 2, cells := 0, slots := 0, locals := 24 } : Room)) (fun a U => a = #[(.ref b0_5), u0_1, u0_2, u0_3, u0_4, (.int (0 : Int32))] ∧ Z.Warmed39 U.vm ∧ U.heap = h0) (fun _ _ _ _ _ => True) (fun _ U o U' => ∃ v L, o = .returned v ∧ Q_rm2_0 Z u0_1 u0_2 u0_3 u0_4 b0_5 h0 n0 v U'.heap L ∧ FrameEnd U o U' L ({ frames := 2, cells := 0, slots := 0, locals := 24 } : Room).cells ({ frames := 2, cells := 0, slots := 0, locals := 24 } : Room).slots) := by
  refine MetFree.of_bodySF (plainFor_of_name pn_2) hisR ?_
  intro p e s m args below meth c s₁ Bd hml0 hP hK
  obtain ⟨rfl, hZ, hh⟩ := hP
  have hx := Bd.exec
  have hby := Bd.bytes
  have hml : c.maxLocals = 6 := hml0
  have hown : s.vm.findClass "com/example/pipewright/pipewright/io/Iso2022Layout$State" = some m.cls := findClass_of_methodNamed Bd.named
  have hnm := (name_of_methodNamed Bd.named Bd.method).1
  have X0 : Stand p l e ({ frames := 2, cells := 0, slots := 0, locals := 24 } : Room) s m #[(.ref b0_5), u0_1, u0_2, u0_3, u0_4, (.int (0 : Int32))] below meth c s₁ [] 0 0 := Stand.of_body Bd
  have e0 : s₁.heap = h0 := by rw [← hh, Bd.state]; rfl
  have N0 := Fr.nil n0
  have pre0 : ∀ t, Steps p.tables e below (s₁.setTop (mkF m 0 #[rv b0_5, .val u0_1, .val u0_2, .val u0_3, .val u0_4, iv (0 : Int32)] [])) t → Steps p.tables e below (s₁.setTop (entryFrame m #[(.ref b0_5), u0_1, u0_2, u0_3, u0_4, (.int (0 : Int32))] 6)) t := fun t k => castTop (ef_2_RVVVVI m b0_5 u0_1 u0_2 u0_3 u0_4 (0 : Int32) hr_u0_1 hr_u0_2 hr_u0_3 hr_u0_4) k
  obtain ⟨_, _, ⟨T1, L1, k1, n1⟩, -, X1, ⟨Lc1, hQ1, l1, y1, z1⟩, st1⟩ := X0.specialBack hx (y := (⟨"java/lang/Record", "<init>", "()V"⟩ : MethodName)) rfl hown (mvT hZ (hw _ (List.mem_of_getElem? (i := 19) rfl))) (mvT hZ (hw _ (List.mem_of_getElem? (i := 20) rfl))) (mvT hZ (hw _ (List.mem_of_getElem? (i := 23) rfl))) (by decide) (backOf (W := 0) (rm3_0 l Z a0 hw [] b0_5 h0 n0 Z0 ) hZ (hw _ (List.mem_of_getElem? (i := 23) rfl)) (hw _ (List.mem_of_getElem? (i := 22) rfl)) (by decide) (by decide)) (g := (mkF m 1 #[rv b0_5, .val u0_1, .val u0_2, .val u0_3, .val u0_4, iv (0 : Int32)] [(.ref b0_5)])) rfl (by rw [hml]; rfl) (Steps.refl _) (a := b0_5) (argsL := []) (rest := []) (lenOf pd_1 rfl) rfl (by show 2 * 0 + _ ≤ _; exact Nat.le_of_eq rfl) (hb hby d2_1) (fun _ _ => ⟨rfl, e0, (by decide : 0 + 0 ≤ _), (by decide : 0 + 0 ≤ _)⟩)
  dsimp only [Pt.U, Pt.locs, Pt.cells, Pt.slots] at X1 l1 y1 z1 st1 hQ1
  subst l1 y1 z1
  obtain ⟨rfl, N1q, e1⟩ := hQ1
  have N1 := Fr.app N0 N1q
  obtain ⟨T2, h2, X2, e2, W2, st2⟩ := putF X1 hx hZ hown (host := "") (Or.inl (hw _ (List.mem_of_getElem? (i := 27) rfl))) Via.refl e1 F_b0_5_g0 E_b0_5 (Or.inr ⟨(hw _ (List.mem_of_getElem? (i := 28) rfl)), rfl, hnm⟩) (hw _ (List.mem_of_getElem? (i := 14) rfl)) (ty := (.object "com/example/pipewright/pipewright/io/Iso2022Layout$GraphicSet")) (by decide) (own_narO _ hr_u0_1) (own_fitsO hr_u0_1) (g := (mkF m 6 #[rv b0_5, .val u0_1, .val u0_2, .val u0_3, .val u0_4, iv (0 : Int32)] [u0_1, (.ref b0_5)])) rfl rfl (hb hby d2_6)
  have fw2 : Fld Z h2 b0_5 "com/example/pipewright/pipewright/io/Iso2022Layout$State" "g0" "Lcom/example/pipewright/pipewright/io/Iso2022Layout$GraphicSet;" u0_1 := F_b0_5_g0.same W2
  have Z2 : n0 ≤ h2.size := Nat.le_trans Z0 (Keep.of_wr W2).1
  have KK2 : Keep h0 h2 [b0_5] := (Keep.refl h0 [b0_5]).wr W2 (Or.inl (List.mem_of_getElem? (i := 0) rfl))
  have N2 := Fr.snoc X2 N1 g_b0_5
  have c3 := (E_b0_5.wr W2)
  have c4 := (F_b0_5_g1.other W2 (Or.inr (slot_ne (Or.inr (hw _ (List.mem_of_getElem? (i := 30) rfl))) (Or.inr (hw _ (List.mem_of_getElem? (i := 28) rfl))) (by decide) (t := (.object "com/example/pipewright/pipewright/io/Iso2022Layout$GraphicSet")) (t' := (.object "com/example/pipewright/pipewright/io/Iso2022Layout$GraphicSet")) (by decide) (by decide))))
  obtain ⟨T5, h5, X5, e5, W5, st5⟩ := putF X2 hx hZ hown (host := "") (Or.inl (hw _ (List.mem_of_getElem? (i := 29) rfl))) Via.refl e2 c4 c3 (Or.inr ⟨(hw _ (List.mem_of_getElem? (i := 30) rfl)), rfl, hnm⟩) (hw _ (List.mem_of_getElem? (i := 14) rfl)) (ty := (.object "com/example/pipewright/pipewright/io/Iso2022Layout$GraphicSet")) (by decide) (own_narO _ hr_u0_2) (own_fitsO hr_u0_2) (g := (mkF m 11 #[rv b0_5, .val u0_1, .val u0_2, .val u0_3, .val u0_4, iv (0 : Int32)] [u0_2, (.ref b0_5)])) rfl rfl (hb hby d2_11)
  have fw5 : Fld Z h5 b0_5 "com/example/pipewright/pipewright/io/Iso2022Layout$State" "g1" "Lcom/example/pipewright/pipewright/io/Iso2022Layout$GraphicSet;" u0_2 := c4.same W5
  have Z5 : n0 ≤ h5.size := Nat.le_trans Z2 (Keep.of_wr W5).1
  have KK5 : Keep h0 h5 [b0_5] := KK2.wr W5 (Or.inl (List.mem_of_getElem? (i := 0) rfl))
  have N5 := Fr.snoc X5 N2 g_b0_5
  have c6 := (c3.wr W5)
  have c7 := ((F_b0_5_g2.other W2 (Or.inr (slot_ne (Or.inr (hw _ (List.mem_of_getElem? (i := 32) rfl))) (Or.inr (hw _ (List.mem_of_getElem? (i := 28) rfl))) (by decide) (t := (.object "com/example/pipewright/pipewright/io/Iso2022Layout$GraphicSet")) (t' := (.object "com/example/pipewright/pipewright/io/Iso2022Layout$GraphicSet")) (by decide) (by decide)))).other W5 (Or.inr (slot_ne (Or.inr (hw _ (List.mem_of_getElem? (i := 32) rfl))) (Or.inr (hw _ (List.mem_of_getElem? (i := 30) rfl))) (by decide) (t := (.object "com/example/pipewright/pipewright/io/Iso2022Layout$GraphicSet")) (t' := (.object "com/example/pipewright/pipewright/io/Iso2022Layout$GraphicSet")) (by decide) (by decide))))
  obtain ⟨T8, h8, X8, e8, W8, st8⟩ := putF X5 hx hZ hown (host := "") (Or.inl (hw _ (List.mem_of_getElem? (i := 31) rfl))) Via.refl e5 c7 c6 (Or.inr ⟨(hw _ (List.mem_of_getElem? (i := 32) rfl)), rfl, hnm⟩) (hw _ (List.mem_of_getElem? (i := 14) rfl)) (ty := (.object "com/example/pipewright/pipewright/io/Iso2022Layout$GraphicSet")) (by decide) (own_narO _ hr_u0_3) (own_fitsO hr_u0_3) (g := (mkF m 16 #[rv b0_5, .val u0_1, .val u0_2, .val u0_3, .val u0_4, iv (0 : Int32)] [u0_3, (.ref b0_5)])) rfl rfl (hb hby d2_16)
  have fw8 : Fld Z h8 b0_5 "com/example/pipewright/pipewright/io/Iso2022Layout$State" "g2" "Lcom/example/pipewright/pipewright/io/Iso2022Layout$GraphicSet;" u0_3 := c7.same W8
  have Z8 : n0 ≤ h8.size := Nat.le_trans Z5 (Keep.of_wr W8).1
  have KK8 : Keep h0 h8 [b0_5] := KK5.wr W8 (Or.inl (List.mem_of_getElem? (i := 0) rfl))
  have N8 := Fr.snoc X8 N5 g_b0_5
  have c9 := (c6.wr W8)
  have c10 := (((F_b0_5_g3.other W2 (Or.inr (slot_ne (Or.inr (hw _ (List.mem_of_getElem? (i := 34) rfl))) (Or.inr (hw _ (List.mem_of_getElem? (i := 28) rfl))) (by decide) (t := (.object "com/example/pipewright/pipewright/io/Iso2022Layout$GraphicSet")) (t' := (.object "com/example/pipewright/pipewright/io/Iso2022Layout$GraphicSet")) (by decide) (by decide)))).other W5 (Or.inr (slot_ne (Or.inr (hw _ (List.mem_of_getElem? (i := 34) rfl))) (Or.inr (hw _ (List.mem_of_getElem? (i := 30) rfl))) (by decide) (t := (.object "com/example/pipewright/pipewright/io/Iso2022Layout$GraphicSet")) (t' := (.object "com/example/pipewright/pipewright/io/Iso2022Layout$GraphicSet")) (by decide) (by decide)))).other W8 (Or.inr (slot_ne (Or.inr (hw _ (List.mem_of_getElem? (i := 34) rfl))) (Or.inr (hw _ (List.mem_of_getElem? (i := 32) rfl))) (by decide) (t := (.object "com/example/pipewright/pipewright/io/Iso2022Layout$GraphicSet")) (t' := (.object "com/example/pipewright/pipewright/io/Iso2022Layout$GraphicSet")) (by decide) (by decide))))
  obtain ⟨T11, h11, X11, e11, W11, st11⟩ := putF X8 hx hZ hown (host := "") (Or.inl (hw _ (List.mem_of_getElem? (i := 33) rfl))) Via.refl e8 c10 c9 (Or.inr ⟨(hw _ (List.mem_of_getElem? (i := 34) rfl)), rfl, hnm⟩) (hw _ (List.mem_of_getElem? (i := 14) rfl)) (ty := (.object "com/example/pipewright/pipewright/io/Iso2022Layout$GraphicSet")) (by decide) (own_narO _ hr_u0_4) (own_fitsO hr_u0_4) (g := (mkF m 22 #[rv b0_5, .val u0_1, .val u0_2, .val u0_3, .val u0_4, iv (0 : Int32)] [u0_4, (.ref b0_5)])) rfl rfl (hb hby d2_22)
  have fw11 : Fld Z h11 b0_5 "com/example/pipewright/pipewright/io/Iso2022Layout$State" "g3" "Lcom/example/pipewright/pipewright/io/Iso2022Layout$GraphicSet;" u0_4 := c10.same W11
  have Z11 : n0 ≤ h11.size := Nat.le_trans Z8 (Keep.of_wr W11).1
  have KK11 : Keep h0 h11 [b0_5] := KK8.wr W11 (Or.inl (List.mem_of_getElem? (i := 0) rfl))
  have N11 := Fr.snoc X11 N8 g_b0_5
  have c12 := (c9.wr W11)
  have c13 := ((((F_b0_5_shifted.other W2 (Or.inr (slot_ne (Or.inr (hw _ (List.mem_of_getElem? (i := 36) rfl))) (Or.inr (hw _ (List.mem_of_getElem? (i := 28) rfl))) (by decide) (t := .boolean) (t' := (.object "com/example/pipewright/pipewright/io/Iso2022Layout$GraphicSet")) (by decide) (by decide)))).other W5 (Or.inr (slot_ne (Or.inr (hw _ (List.mem_of_getElem? (i := 36) rfl))) (Or.inr (hw _ (List.mem_of_getElem? (i := 30) rfl))) (by decide) (t := .boolean) (t' := (.object "com/example/pipewright/pipewright/io/Iso2022Layout$GraphicSet")) (by decide) (by decide)))).other W8 (Or.inr (slot_ne (Or.inr (hw _ (List.mem_of_getElem? (i := 36) rfl))) (Or.inr (hw _ (List.mem_of_getElem? (i := 32) rfl))) (by decide) (t := .boolean) (t' := (.object "com/example/pipewright/pipewright/io/Iso2022Layout$GraphicSet")) (by decide) (by decide)))).other W11 (Or.inr (slot_ne (Or.inr (hw _ (List.mem_of_getElem? (i := 36) rfl))) (Or.inr (hw _ (List.mem_of_getElem? (i := 34) rfl))) (by decide) (t := .boolean) (t' := (.object "com/example/pipewright/pipewright/io/Iso2022Layout$GraphicSet")) (by decide) (by decide))))
  obtain ⟨T14, h14, X14, e14, W14, st14⟩ := putFN X11 hx hZ hown (hw _ (List.mem_of_getElem? (i := 35) rfl)) Via.refl e11 c13 c12 (Or.inr ⟨(hw _ (List.mem_of_getElem? (i := 36) rfl)), rfl, hnm⟩) (hw _ (List.mem_of_getElem? (i := 14) rfl)) (ty := .boolean) (v' := (.int (0 : Int32))) (by decide) rfl rfl (g := (mkF m 28 #[rv b0_5, .val u0_1, .val u0_2, .val u0_3, .val u0_4, iv (0 : Int32)] [(.int (0 : Int32)), (.ref b0_5)])) rfl rfl (hb hby d2_28)
  have fw14 : Fld Z h14 b0_5 "com/example/pipewright/pipewright/io/Iso2022Layout$State" "shifted" "Z" (.int (0 : Int32)) := c13.same W14
  have Z14 : n0 ≤ h14.size := Nat.le_trans Z11 (Keep.of_wr W14).1
  have KK14 : Keep h0 h14 [b0_5] := KK11.wr W14 (Or.inl (List.mem_of_getElem? (i := 0) rfl))
  have N14 := Fr.snoc X14 N11 g_b0_5
  have c15 := ((((fw2.other W5 (Or.inr (slot_ne (Or.inr (hw _ (List.mem_of_getElem? (i := 28) rfl))) (Or.inr (hw _ (List.mem_of_getElem? (i := 30) rfl))) (by decide) (t := (.object "com/example/pipewright/pipewright/io/Iso2022Layout$GraphicSet")) (t' := (.object "com/example/pipewright/pipewright/io/Iso2022Layout$GraphicSet")) (by decide) (by decide)))).other W8 (Or.inr (slot_ne (Or.inr (hw _ (List.mem_of_getElem? (i := 28) rfl))) (Or.inr (hw _ (List.mem_of_getElem? (i := 32) rfl))) (by decide) (t := (.object "com/example/pipewright/pipewright/io/Iso2022Layout$GraphicSet")) (t' := (.object "com/example/pipewright/pipewright/io/Iso2022Layout$GraphicSet")) (by decide) (by decide)))).other W11 (Or.inr (slot_ne (Or.inr (hw _ (List.mem_of_getElem? (i := 28) rfl))) (Or.inr (hw _ (List.mem_of_getElem? (i := 34) rfl))) (by decide) (t := (.object "com/example/pipewright/pipewright/io/Iso2022Layout$GraphicSet")) (t' := (.object "com/example/pipewright/pipewright/io/Iso2022Layout$GraphicSet")) (by decide) (by decide)))).other W14 (Or.inr (slot_ne (Or.inr (hw _ (List.mem_of_getElem? (i := 28) rfl))) (Or.inr (hw _ (List.mem_of_getElem? (i := 36) rfl))) (by decide) (t := (.object "com/example/pipewright/pipewright/io/Iso2022Layout$GraphicSet")) (t' := .boolean) (by decide) (by decide))))
  have c16 := (((fw5.other W8 (Or.inr (slot_ne (Or.inr (hw _ (List.mem_of_getElem? (i := 30) rfl))) (Or.inr (hw _ (List.mem_of_getElem? (i := 32) rfl))) (by decide) (t := (.object "com/example/pipewright/pipewright/io/Iso2022Layout$GraphicSet")) (t' := (.object "com/example/pipewright/pipewright/io/Iso2022Layout$GraphicSet")) (by decide) (by decide)))).other W11 (Or.inr (slot_ne (Or.inr (hw _ (List.mem_of_getElem? (i := 30) rfl))) (Or.inr (hw _ (List.mem_of_getElem? (i := 34) rfl))) (by decide) (t := (.object "com/example/pipewright/pipewright/io/Iso2022Layout$GraphicSet")) (t' := (.object "com/example/pipewright/pipewright/io/Iso2022Layout$GraphicSet")) (by decide) (by decide)))).other W14 (Or.inr (slot_ne (Or.inr (hw _ (List.mem_of_getElem? (i := 30) rfl))) (Or.inr (hw _ (List.mem_of_getElem? (i := 36) rfl))) (by decide) (t := (.object "com/example/pipewright/pipewright/io/Iso2022Layout$GraphicSet")) (t' := .boolean) (by decide) (by decide))))
  have c17 := ((fw8.other W11 (Or.inr (slot_ne (Or.inr (hw _ (List.mem_of_getElem? (i := 32) rfl))) (Or.inr (hw _ (List.mem_of_getElem? (i := 34) rfl))) (by decide) (t := (.object "com/example/pipewright/pipewright/io/Iso2022Layout$GraphicSet")) (t' := (.object "com/example/pipewright/pipewright/io/Iso2022Layout$GraphicSet")) (by decide) (by decide)))).other W14 (Or.inr (slot_ne (Or.inr (hw _ (List.mem_of_getElem? (i := 32) rfl))) (Or.inr (hw _ (List.mem_of_getElem? (i := 36) rfl))) (by decide) (t := (.object "com/example/pipewright/pipewright/io/Iso2022Layout$GraphicSet")) (t' := .boolean) (by decide) (by decide))))
  have c18 := (fw11.other W14 (Or.inr (slot_ne (Or.inr (hw _ (List.mem_of_getElem? (i := 34) rfl))) (Or.inr (hw _ (List.mem_of_getElem? (i := 36) rfl))) (by decide) (t := (.object "com/example/pipewright/pipewright/io/Iso2022Layout$GraphicSet")) (t' := .boolean) (by decide) (by decide))))
  have c19 := (c12.wr W14)
  obtain ⟨fs, hr, hrun, hended, hW, hsame⟩ := X14.leave (v := none) (fun _ => rfl)
  refine ⟨_, _, pre0 _ ?_, hrun, hended, _, _, rfl, ?_, ⟨_, rfl⟩, hW, hsame.mono (by decide) (by decide)⟩
  · show Steps p.tables e below (s₁.setTop (mkF m 0 #[rv b0_5, .val u0_1, .val u0_2, .val u0_3, .val u0_4, iv (0 : Int32)] [])) _
    refine XS.aloadN X0.here hx rfl (hb hby d2_0) rfl rfl ?_
    show Steps p.tables e below (s₁.setTop (mkF m 1 #[rv b0_5, .val u0_1, .val u0_2, .val u0_3, .val u0_4, iv (0 : Int32)] [(.ref b0_5)])) _
    refine st1.trans ?_
    show Steps p.tables e below (T1.setTop (mkF m 4 #[rv b0_5, .val u0_1, .val u0_2, .val u0_3, .val u0_4, iv (0 : Int32)] [])) _
    refine XS.aloadN X1.here hx rfl (hb hby d2_4) rfl rfl ?_
    show Steps p.tables e below (T1.setTop (mkF m 5 #[rv b0_5, .val u0_1, .val u0_2, .val u0_3, .val u0_4, iv (0 : Int32)] [(.ref b0_5)])) _
    refine XS.aloadN X1.here hx rfl (hb hby d2_5) rfl hr_u0_1 ?_
    show Steps p.tables e below (T1.setTop (mkF m 6 #[rv b0_5, .val u0_1, .val u0_2, .val u0_3, .val u0_4, iv (0 : Int32)] [u0_1, (.ref b0_5)])) _
    refine st2 _ ?_
    show Steps p.tables e below (T2.setTop (mkF m 9 #[rv b0_5, .val u0_1, .val u0_2, .val u0_3, .val u0_4, iv (0 : Int32)] [])) _
    refine XS.aloadN X2.here hx rfl (hb hby d2_9) rfl rfl ?_
    show Steps p.tables e below (T2.setTop (mkF m 10 #[rv b0_5, .val u0_1, .val u0_2, .val u0_3, .val u0_4, iv (0 : Int32)] [(.ref b0_5)])) _
    refine XS.aloadN X2.here hx rfl (hb hby d2_10) rfl hr_u0_2 ?_
    show Steps p.tables e below (T2.setTop (mkF m 11 #[rv b0_5, .val u0_1, .val u0_2, .val u0_3, .val u0_4, iv (0 : Int32)] [u0_2, (.ref b0_5)])) _
    refine st5 _ ?_
    show Steps p.tables e below (T5.setTop (mkF m 14 #[rv b0_5, .val u0_1, .val u0_2, .val u0_3, .val u0_4, iv (0 : Int32)] [])) _
    refine XS.aloadN X5.here hx rfl (hb hby d2_14) rfl rfl ?_
    show Steps p.tables e below (T5.setTop (mkF m 15 #[rv b0_5, .val u0_1, .val u0_2, .val u0_3, .val u0_4, iv (0 : Int32)] [(.ref b0_5)])) _
    refine XS.aloadN X5.here hx rfl (hb hby d2_15) rfl hr_u0_3 ?_
    show Steps p.tables e below (T5.setTop (mkF m 16 #[rv b0_5, .val u0_1, .val u0_2, .val u0_3, .val u0_4, iv (0 : Int32)] [u0_3, (.ref b0_5)])) _
    refine st8 _ ?_
    show Steps p.tables e below (T8.setTop (mkF m 19 #[rv b0_5, .val u0_1, .val u0_2, .val u0_3, .val u0_4, iv (0 : Int32)] [])) _
    refine XS.aloadN X8.here hx rfl (hb hby d2_19) rfl rfl ?_
    show Steps p.tables e below (T8.setTop (mkF m 20 #[rv b0_5, .val u0_1, .val u0_2, .val u0_3, .val u0_4, iv (0 : Int32)] [(.ref b0_5)])) _
    refine XS.aload X8.here hx rfl (hb hby d2_20) rfl hr_u0_4 ?_
    show Steps p.tables e below (T8.setTop (mkF m 22 #[rv b0_5, .val u0_1, .val u0_2, .val u0_3, .val u0_4, iv (0 : Int32)] [u0_4, (.ref b0_5)])) _
    refine st11 _ ?_
    show Steps p.tables e below (T11.setTop (mkF m 25 #[rv b0_5, .val u0_1, .val u0_2, .val u0_3, .val u0_4, iv (0 : Int32)] [])) _
    refine XS.aloadN X11.here hx rfl (hb hby d2_25) rfl rfl ?_
    show Steps p.tables e below (T11.setTop (mkF m 26 #[rv b0_5, .val u0_1, .val u0_2, .val u0_3, .val u0_4, iv (0 : Int32)] [(.ref b0_5)])) _
    refine XS.iload X11.here hx rfl (hb hby d2_26) rfl ?_
    show Steps p.tables e below (T11.setTop (mkF m 28 #[rv b0_5, .val u0_1, .val u0_2, .val u0_3, .val u0_4, iv (0 : Int32)] [(.int (0 : Int32)), (.ref b0_5)])) _
    refine st14 _ ?_
    show Steps p.tables e below (T14.setTop (mkF m 31 #[rv b0_5, .val u0_1, .val u0_2, .val u0_3, .val u0_4, iv (0 : Int32)] [])) _
    exact X14.returnOut hx Bd.returns (hb hby d2_31) hr
  · exact (by show Q_rm2_0 Z u0_1 u0_2 u0_3 u0_4 b0_5 h0 n0 _ T14.heap _; rw [e14]; exact ⟨rfl, N14, KK14, c15, c16, c17, c18, fw14, c19⟩)
set_option maxRecDepth 65536 in
set_option maxHeartbeats 40000000 in
theorem rm5_2 (l : Launch) (Z : State) (a0 : Array Value) (hw : ∀ d ∈ tables_1, d.before a0 Z = true) (ws : List Jvm.Cond) (u0_1 : Value) (b0_5 : Addr) (h0 : Heap) (n0 : Nat) (Z0 : n0 ≤ h0.size) (F_b0_5_g0 : Fld Z h0 b0_5 "com/example/pipewright/pipewright/io/Iso2022Layout$State" "g0" "Lcom/example/pipewright/pipewright/io/Iso2022Layout$GraphicSet;" u0_1) (hr_u0_1 : u0_1.isRef = true) :
    MetFree l (⟨"com/example/pipewright/pipewright/io/Iso2022Layout$State", "get", "(I)Lcom/example/pipewright/pipewright/io/Iso2022Layout$GraphicSet;"⟩ : MethodName) (head1 (Jvm.Cond.code (⟨"com/example/pipewright/pipewright/io/Iso2022Layout$State", "get", "(I)Lcom/example/pipewright/pipewright/io/Iso2022Layout$GraphicSet;"⟩ : MethodName) prog_25_method_3_code 2 (some (.object "com/example/pipewright/pipewright/io/Iso2022Layout$GraphicSet")) :: ws) ({ frames := 0, cells := 0, slots := 0, locals := 0 } : Room)) (fun a U => a = #[(.ref b0_5), (.int (0 : Int32))] ∧ Z.Warmed39 U.vm ∧ U.heap = h0) (fun _ _ _ _ _ => True) (fun _ U o U' => ∃ v L, o = .returned v ∧ own_QP (some u0_1) h0 n0 v U'.heap L ∧ FrameEnd U o U' L ({ frames := 0, cells := 0, slots := 0, locals := 0 } : Room).cells ({ frames := 0, cells := 0, slots := 0, locals := 0 } : Room).slots) := by
  refine MetFree.of_bodySF (plainFor_of_name pn_2) hisR ?_
  intro p e s m args below meth c s₁ Bd hml0 hP hK
  obtain ⟨rfl, hZ, hh⟩ := hP
  have hx := Bd.exec
  have hby := Bd.bytes
  have hml : c.maxLocals = 2 := hml0
  have hown : s.vm.findClass "com/example/pipewright/pipewright/io/Iso2022Layout$State" = some m.cls := findClass_of_methodNamed Bd.named
  have hnm := (name_of_methodNamed Bd.named Bd.method).1
  have X0 : Stand p l e ({ frames := 0, cells := 0, slots := 0, locals := 0 } : Room) s m #[(.ref b0_5), (.int (0 : Int32))] below meth c s₁ [] 0 0 := Stand.of_body Bd
  have e0 : s₁.heap = h0 := by rw [← hh, Bd.state]; rfl
  have N0 := Fr.nil n0
  have pre0 : ∀ t, Steps p.tables e below (s₁.setTop (mkF m 0 #[rv b0_5, iv (0 : Int32)] [])) t → Steps p.tables e below (s₁.setTop (entryFrame m #[(.ref b0_5), (.int (0 : Int32))] 2)) t := fun t k => castTop (ef_5_RI m b0_5 (0 : Int32)) k
  obtain ⟨T1, X1, e1, st1⟩ := getF X0 hx hZ hown (host := "") (Or.inl (hw _ (List.mem_of_getElem? (i := 27) rfl))) Via.refl e0 F_b0_5_g0 (g := (mkF m 29 #[rv b0_5, iv (0 : Int32)] [(.ref b0_5)])) rfl rfl (hb hby d5_29)
  obtain ⟨fs, hr, hrun, hended, hW, hsame⟩ := X1.leave (v := (some u0_1)) (fun h => by rw [Bd.returns] at h; cases h)
  refine ⟨_, _, pre0 _ ?_, hrun, hended, _, _, rfl, ?_, ⟨_, rfl⟩, hW, hsame.mono (by decide) (by decide)⟩
  · show Steps p.tables e below (s₁.setTop (mkF m 0 #[rv b0_5, iv (0 : Int32)] [])) _
    refine XS.iloadN X0.here hx rfl (hb hby d5_0) rfl ?_
    show Steps p.tables e below (s₁.setTop (mkF m 1 #[rv b0_5, iv (0 : Int32)] [(.int (0 : Int32))])) _
    refine XS.tswIn X0.here hx rfl (o := 27) (pc0 := 1) (pc' := 28) rfl (hb hby d5_1) rfl (by decide) (by decide) (by decide) (by decide) ?_
    show Steps p.tables e below (s₁.setTop (mkF m 28 #[rv b0_5, iv (0 : Int32)] [])) _
    refine XS.aloadN X0.here hx rfl (hb hby d5_28) rfl rfl ?_
    show Steps p.tables e below (s₁.setTop (mkF m 29 #[rv b0_5, iv (0 : Int32)] [(.ref b0_5)])) _
    refine st1 _ ?_
    show Steps p.tables e below (T1.setTop (mkF m 32 #[rv b0_5, iv (0 : Int32)] [u0_1])) _
    refine XS.goto X1.here hx rfl (pc0 := 32) (pc' := 53) rfl (hb hby d5_32) (by decide) (by decide) ?_
    show Steps p.tables e below (T1.setTop (mkF m 53 #[rv b0_5, iv (0 : Int32)] [u0_1])) _
    exact own_retA X1 hx Bd.returns rfl hr_u0_1 (hb hby d5_53) hr
  · exact ⟨rfl, N0, e1⟩
set_option maxRecDepth 65536 in
set_option maxHeartbeats 40000000 in
theorem rm0_0 (l : Launch) (Z : State) (a0 : Array Value) (hw : ∀ d ∈ tables_1, d.before a0 Z = true) (ws : List Jvm.Cond) (p0 : Int32) (p1 : Int32) (p2 : Int32) (p3 : Int32) (p4 : Int32) (w_GraphicSet_ASCII : Addr) (w_GraphicSet_UNREAD_ONE_BYTE : Addr) (w_GraphicSet_JIS_X_0201_KATAKANA : Addr) (w_GraphicSet_JIS_X_0201_ROMAN : Addr) (w_GraphicSet_JIS_X_0208 : Addr) (w_GraphicSet_CNS_11643_3 : Addr) (w_GraphicSet_UNREAD_TWO_BYTES : Addr) (w_GraphicSet_KS_X_1001 : Addr) (w_GraphicSet_CNS_11643_6 : Addr) (w_GraphicSet_CNS_11643_2 : Addr) (w_GraphicSet_CNS_11643_5 : Addr) (w_GraphicSet_CNS_11643_1 : Addr) (w_GraphicSet_CNS_11643_4 : Addr) (w_GraphicSet_JIS_X_0212 : Addr) (w_GraphicSet_GB_2312 : Addr) (w_GraphicSet_CNS_11643_7 : Addr) (h0 : Heap) (n0 : Nat) (Z0 : n0 ≤ h0.size) (S_GraphicSet_ASCII : Sta Z h0 "com/example/pipewright/pipewright/io/Iso2022Layout$GraphicSet" "ASCII" "Lcom/example/pipewright/pipewright/io/Iso2022Layout$GraphicSet;" (.ref w_GraphicSet_ASCII)) (S_GraphicSet_JIS_X_0201_ROMAN : Sta Z h0 "com/example/pipewright/pipewright/io/Iso2022Layout$GraphicSet" "JIS_X_0201_ROMAN" "Lcom/example/pipewright/pipewright/io/Iso2022Layout$GraphicSet;" (.ref w_GraphicSet_JIS_X_0201_ROMAN)) (S_GraphicSet_JIS_X_0201_KATAKANA : Sta Z h0 "com/example/pipewright/pipewright/io/Iso2022Layout$GraphicSet" "JIS_X_0201_KATAKANA" "Lcom/example/pipewright/pipewright/io/Iso2022Layout$GraphicSet;" (.ref w_GraphicSet_JIS_X_0201_KATAKANA)) (S_GraphicSet_UNREAD_ONE_BYTE : Sta Z h0 "com/example/pipewright/pipewright/io/Iso2022Layout$GraphicSet" "UNREAD_ONE_BYTE" "Lcom/example/pipewright/pipewright/io/Iso2022Layout$GraphicSet;" (.ref w_GraphicSet_UNREAD_ONE_BYTE)) (S_GraphicSet_JIS_X_0208 : Sta Z h0 "com/example/pipewright/pipewright/io/Iso2022Layout$GraphicSet" "JIS_X_0208" "Lcom/example/pipewright/pipewright/io/Iso2022Layout$GraphicSet;" (.ref w_GraphicSet_JIS_X_0208)) (S_GraphicSet_JIS_X_0212 : Sta Z h0 "com/example/pipewright/pipewright/io/Iso2022Layout$GraphicSet" "JIS_X_0212" "Lcom/example/pipewright/pipewright/io/Iso2022Layout$GraphicSet;" (.ref w_GraphicSet_JIS_X_0212)) (S_GraphicSet_GB_2312 : Sta Z h0 "com/example/pipewright/pipewright/io/Iso2022Layout$GraphicSet" "GB_2312" "Lcom/example/pipewright/pipewright/io/Iso2022Layout$GraphicSet;" (.ref w_GraphicSet_GB_2312)) (S_GraphicSet_KS_X_1001 : Sta Z h0 "com/example/pipewright/pipewright/io/Iso2022Layout$GraphicSet" "KS_X_1001" "Lcom/example/pipewright/pipewright/io/Iso2022Layout$GraphicSet;" (.ref w_GraphicSet_KS_X_1001)) (S_GraphicSet_CNS_11643_1 : Sta Z h0 "com/example/pipewright/pipewright/io/Iso2022Layout$GraphicSet" "CNS_11643_1" "Lcom/example/pipewright/pipewright/io/Iso2022Layout$GraphicSet;" (.ref w_GraphicSet_CNS_11643_1)) (S_GraphicSet_CNS_11643_2 : Sta Z h0 "com/example/pipewright/pipewright/io/Iso2022Layout$GraphicSet" "CNS_11643_2" "Lcom/example/pipewright/pipewright/io/Iso2022Layout$GraphicSet;" (.ref w_GraphicSet_CNS_11643_2)) (S_GraphicSet_CNS_11643_3 : Sta Z h0 "com/example/pipewright/pipewright/io/Iso2022Layout$GraphicSet" "CNS_11643_3" "Lcom/example/pipewright/pipewright/io/Iso2022Layout$GraphicSet;" (.ref w_GraphicSet_CNS_11643_3)) (S_GraphicSet_CNS_11643_4 : Sta Z h0 "com/example/pipewright/pipewright/io/Iso2022Layout$GraphicSet" "CNS_11643_4" "Lcom/example/pipewright/pipewright/io/Iso2022Layout$GraphicSet;" (.ref w_GraphicSet_CNS_11643_4)) (S_GraphicSet_CNS_11643_5 : Sta Z h0 "com/example/pipewright/pipewright/io/Iso2022Layout$GraphicSet" "CNS_11643_5" "Lcom/example/pipewright/pipewright/io/Iso2022Layout$GraphicSet;" (.ref w_GraphicSet_CNS_11643_5)) (S_GraphicSet_CNS_11643_6 : Sta Z h0 "com/example/pipewright/pipewright/io/Iso2022Layout$GraphicSet" "CNS_11643_6" "Lcom/example/pipewright/pipewright/io/Iso2022Layout$GraphicSet;" (.ref w_GraphicSet_CNS_11643_6)) (S_GraphicSet_CNS_11643_7 : Sta Z h0 "com/example/pipewright/pipewright/io/Iso2022Layout$GraphicSet" "CNS_11643_7" "Lcom/example/pipewright/pipewright/io/Iso2022Layout$GraphicSet;" (.ref w_GraphicSet_CNS_11643_7)) (S_GraphicSet_UNREAD_TWO_BYTES : Sta Z h0 "com/example/pipewright/pipewright/io/Iso2022Layout$GraphicSet" "UNREAD_TWO_BYTES" "Lcom/example/pipewright/pipewright/io/Iso2022Layout$GraphicSet;" (.ref w_GraphicSet_UNREAD_TWO_BYTES)) (h4 : (p4 &&& (1 : Int32)) = (0 : Int32)) :
    MetFree l x (head1 (Jvm.Cond.code x code maxLocals ret :: ws) room_1) (fun a U => a = #[(.int p0), (.int p1), (.int p2), (.int p3), (.int p4), (.int (0 : Int32))] ∧ Z.Warmed39 U.vm ∧ U.heap = h0) (fun _ _ _ _ _ => True) (fun _ U o U' => ∃ v L, o = .returned v ∧ own_QL n0 v U'.heap L ∧ FrameEnd U o U' L room_1.cells room_1.slots) := by
  refine MetFree.of_bodySF (plainFor_of_name pn_0) hisR ?_
  intro p e s m args below meth c s₁ Bd hml0 hP hK
  obtain ⟨rfl, hZ, hh⟩ := hP
  have hx := Bd.exec
  have hby := Bd.bytes
  have hml : c.maxLocals = 14 := hml0
  have hown : s.vm.findClass "com/example/pipewright/pipewright/io/StateGetPinLaw" = some m.cls := findClass_of_methodNamed Bd.named
  have hnm := (name_of_methodNamed Bd.named Bd.method).1
  have X0 : Stand p l e room_1 s m #[(.int p0), (.int p1), (.int p2), (.int p3), (.int p4), (.int (0 : Int32))] below meth c s₁ [] 0 0 := Stand.of_body Bd
  have e0 : s₁.heap = h0 := by rw [← hh, Bd.state]; rfl
  have N0 := Fr.nil n0
  have pre0 : ∀ t, Steps p.tables e below (s₁.setTop (mkF m 0 #[iv p0, iv p1, iv p2, iv p3, iv p4, iv (0 : Int32), .unset, .unset, .unset, .unset, .unset, .unset, .unset, .unset] [])) t → Steps p.tables e below (s₁.setTop (entryFrame m #[(.int p0), (.int p1), (.int p2), (.int p3), (.int p4), (.int (0 : Int32))] maxLocals)) t := fun t k => castTop (ef_0_IIIIII m p0 p1 p2 p3 p4 (0 : Int32)) k
  obtain ⟨_, _, ⟨T1, L1, k1, n1⟩, -, X1, ⟨Lc1, hQ1, l1, y1, z1⟩, st1⟩ := Jvm.LawKit.callS X0 hx (y := (⟨"com/example/pipewright/pipewright/io/StateGetPinLaw", "pick", "(I)Lcom/example/pipewright/pipewright/io/Iso2022Layout$GraphicSet;"⟩ : MethodName)) hown (mvT hZ (hw _ (List.mem_of_getElem? (i := 0) rfl))) (mvT hZ (hw _ (List.mem_of_getElem? (i := 1) rfl))) (mvT hZ (hw _ (List.mem_of_getElem? (i := 2) rfl))) (mvT hZ (hw _ (List.mem_of_getElem? (i := 3) rfl))) (by decide) (backOf (W := 0) (rk1 l Z a0 hw [] w_GraphicSet_ASCII w_GraphicSet_UNREAD_ONE_BYTE w_GraphicSet_JIS_X_0201_KATAKANA w_GraphicSet_JIS_X_0201_ROMAN w_GraphicSet_JIS_X_0208 w_GraphicSet_CNS_11643_3 w_GraphicSet_UNREAD_TWO_BYTES w_GraphicSet_KS_X_1001 w_GraphicSet_CNS_11643_6 w_GraphicSet_CNS_11643_2 w_GraphicSet_CNS_11643_5 w_GraphicSet_CNS_11643_1 w_GraphicSet_CNS_11643_4 w_GraphicSet_JIS_X_0212 w_GraphicSet_GB_2312 w_GraphicSet_CNS_11643_7 p0 h0 n0 Z0 S_GraphicSet_ASCII S_GraphicSet_JIS_X_0201_ROMAN S_GraphicSet_JIS_X_0201_KATAKANA S_GraphicSet_UNREAD_ONE_BYTE S_GraphicSet_JIS_X_0208 S_GraphicSet_JIS_X_0212 S_GraphicSet_GB_2312 S_GraphicSet_KS_X_1001 S_GraphicSet_CNS_11643_1 S_GraphicSet_CNS_11643_2 S_GraphicSet_CNS_11643_3 S_GraphicSet_CNS_11643_4 S_GraphicSet_CNS_11643_5 S_GraphicSet_CNS_11643_6 S_GraphicSet_CNS_11643_7 S_GraphicSet_UNREAD_TWO_BYTES) hZ (hw _ (List.mem_of_getElem? (i := 3) rfl)) (hw _ (List.mem_of_getElem? (i := 2) rfl)) (by decide) (by decide)) (g := (mkF m 1 #[iv p0, iv p1, iv p2, iv p3, iv p4, iv (0 : Int32), .unset, .unset, .unset, .unset, .unset, .unset, .unset, .unset] [(.int p0)])) rfl (by rw [hml]; rfl) (argsL := [(.int p0)]) (rest := []) (lenOf pd_0 rfl) rfl (by show 2 * 0 + _ ≤ _; exact Nat.le_of_eq rfl) (hb hby at_1) (fun _ _ => ⟨rfl, e0, (by decide : 0 + 0 ≤ _), (by decide : 0 + 0 ≤ _)⟩)
  dsimp only [Pt.U, Pt.locs, Pt.cells, Pt.slots] at X1 l1 y1 z1 st1 hQ1
  subst l1 y1 z1
  obtain ⟨u0_1, rfl, hr_u0_1, N1q, e1⟩ := hQ1
  have N1 := Fr.app N0 N1q
  obtain ⟨_, _, ⟨T2, L2, k2, n2⟩, -, X2, ⟨Lc2, hQ2, l2, y2, z2⟩, st2⟩ := Jvm.LawKit.callS X1 hx (y := (⟨"com/example/pipewright/pipewright/io/StateGetPinLaw", "pick", "(I)Lcom/example/pipewright/pipewright/io/Iso2022Layout$GraphicSet;"⟩ : MethodName)) hown (mvT hZ (hw _ (List.mem_of_getElem? (i := 0) rfl))) (mvT hZ (hw _ (List.mem_of_getElem? (i := 1) rfl))) (mvT hZ (hw _ (List.mem_of_getElem? (i := 2) rfl))) (mvT hZ (hw _ (List.mem_of_getElem? (i := 3) rfl))) (by decide) (backOf (W := 0) (rk1 l Z a0 hw [] w_GraphicSet_ASCII w_GraphicSet_UNREAD_ONE_BYTE w_GraphicSet_JIS_X_0201_KATAKANA w_GraphicSet_JIS_X_0201_ROMAN w_GraphicSet_JIS_X_0208 w_GraphicSet_CNS_11643_3 w_GraphicSet_UNREAD_TWO_BYTES w_GraphicSet_KS_X_1001 w_GraphicSet_CNS_11643_6 w_GraphicSet_CNS_11643_2 w_GraphicSet_CNS_11643_5 w_GraphicSet_CNS_11643_1 w_GraphicSet_CNS_11643_4 w_GraphicSet_JIS_X_0212 w_GraphicSet_GB_2312 w_GraphicSet_CNS_11643_7 p1 h0 n0 Z0 S_GraphicSet_ASCII S_GraphicSet_JIS_X_0201_ROMAN S_GraphicSet_JIS_X_0201_KATAKANA S_GraphicSet_UNREAD_ONE_BYTE S_GraphicSet_JIS_X_0208 S_GraphicSet_JIS_X_0212 S_GraphicSet_GB_2312 S_GraphicSet_KS_X_1001 S_GraphicSet_CNS_11643_1 S_GraphicSet_CNS_11643_2 S_GraphicSet_CNS_11643_3 S_GraphicSet_CNS_11643_4 S_GraphicSet_CNS_11643_5 S_GraphicSet_CNS_11643_6 S_GraphicSet_CNS_11643_7 S_GraphicSet_UNREAD_TWO_BYTES) hZ (hw _ (List.mem_of_getElem? (i := 3) rfl)) (hw _ (List.mem_of_getElem? (i := 2) rfl)) (by decide) (by decide)) (g := (mkF m 7 #[iv p0, iv p1, iv p2, iv p3, iv p4, iv (0 : Int32), .val u0_1, .unset, .unset, .unset, .unset, .unset, .unset, .unset] [(.int p1)])) rfl (by rw [hml]; rfl) (argsL := [(.int p1)]) (rest := []) (lenOf pd_0 rfl) rfl (by show 2 * 0 + _ ≤ _; exact Nat.le_of_eq rfl) (hb hby at_7) (fun _ _ => ⟨rfl, e1, (by decide : 0 + 0 ≤ _), (by decide : 0 + 0 ≤ _)⟩)
  dsimp only [Pt.U, Pt.locs, Pt.cells, Pt.slots] at X2 l2 y2 z2 st2 hQ2
  subst l2 y2 z2
  obtain ⟨u0_2, rfl, hr_u0_2, N2q, e2⟩ := hQ2
  have N2 := Fr.app N1 N2q
  obtain ⟨_, _, ⟨T3, L3, k3, n3⟩, -, X3, ⟨Lc3, hQ3, l3, y3, z3⟩, st3⟩ := Jvm.LawKit.callS X2 hx (y := (⟨"com/example/pipewright/pipewright/io/StateGetPinLaw", "pick", "(I)Lcom/example/pipewright/pipewright/io/Iso2022Layout$GraphicSet;"⟩ : MethodName)) hown (mvT hZ (hw _ (List.mem_of_getElem? (i := 0) rfl))) (mvT hZ (hw _ (List.mem_of_getElem? (i := 1) rfl))) (mvT hZ (hw _ (List.mem_of_getElem? (i := 2) rfl))) (mvT hZ (hw _ (List.mem_of_getElem? (i := 3) rfl))) (by decide) (backOf (W := 0) (rk1 l Z a0 hw [] w_GraphicSet_ASCII w_GraphicSet_UNREAD_ONE_BYTE w_GraphicSet_JIS_X_0201_KATAKANA w_GraphicSet_JIS_X_0201_ROMAN w_GraphicSet_JIS_X_0208 w_GraphicSet_CNS_11643_3 w_GraphicSet_UNREAD_TWO_BYTES w_GraphicSet_KS_X_1001 w_GraphicSet_CNS_11643_6 w_GraphicSet_CNS_11643_2 w_GraphicSet_CNS_11643_5 w_GraphicSet_CNS_11643_1 w_GraphicSet_CNS_11643_4 w_GraphicSet_JIS_X_0212 w_GraphicSet_GB_2312 w_GraphicSet_CNS_11643_7 p2 h0 n0 Z0 S_GraphicSet_ASCII S_GraphicSet_JIS_X_0201_ROMAN S_GraphicSet_JIS_X_0201_KATAKANA S_GraphicSet_UNREAD_ONE_BYTE S_GraphicSet_JIS_X_0208 S_GraphicSet_JIS_X_0212 S_GraphicSet_GB_2312 S_GraphicSet_KS_X_1001 S_GraphicSet_CNS_11643_1 S_GraphicSet_CNS_11643_2 S_GraphicSet_CNS_11643_3 S_GraphicSet_CNS_11643_4 S_GraphicSet_CNS_11643_5 S_GraphicSet_CNS_11643_6 S_GraphicSet_CNS_11643_7 S_GraphicSet_UNREAD_TWO_BYTES) hZ (hw _ (List.mem_of_getElem? (i := 3) rfl)) (hw _ (List.mem_of_getElem? (i := 2) rfl)) (by decide) (by decide)) (g := (mkF m 13 #[iv p0, iv p1, iv p2, iv p3, iv p4, iv (0 : Int32), .val u0_1, .val u0_2, .unset, .unset, .unset, .unset, .unset, .unset] [(.int p2)])) rfl (by rw [hml]; rfl) (argsL := [(.int p2)]) (rest := []) (lenOf pd_0 rfl) rfl (by show 2 * 0 + _ ≤ _; exact Nat.le_of_eq rfl) (hb hby at_13) (fun _ _ => ⟨rfl, e2, (by decide : 0 + 0 ≤ _), (by decide : 0 + 0 ≤ _)⟩)
  dsimp only [Pt.U, Pt.locs, Pt.cells, Pt.slots] at X3 l3 y3 z3 st3 hQ3
  subst l3 y3 z3
  obtain ⟨u0_3, rfl, hr_u0_3, N3q, e3⟩ := hQ3
  have N3 := Fr.app N2 N3q
  obtain ⟨_, _, ⟨T4, L4, k4, n4⟩, -, X4, ⟨Lc4, hQ4, l4, y4, z4⟩, st4⟩ := Jvm.LawKit.callS X3 hx (y := (⟨"com/example/pipewright/pipewright/io/StateGetPinLaw", "pick", "(I)Lcom/example/pipewright/pipewright/io/Iso2022Layout$GraphicSet;"⟩ : MethodName)) hown (mvT hZ (hw _ (List.mem_of_getElem? (i := 0) rfl))) (mvT hZ (hw _ (List.mem_of_getElem? (i := 1) rfl))) (mvT hZ (hw _ (List.mem_of_getElem? (i := 2) rfl))) (mvT hZ (hw _ (List.mem_of_getElem? (i := 3) rfl))) (by decide) (backOf (W := 0) (rk1 l Z a0 hw [] w_GraphicSet_ASCII w_GraphicSet_UNREAD_ONE_BYTE w_GraphicSet_JIS_X_0201_KATAKANA w_GraphicSet_JIS_X_0201_ROMAN w_GraphicSet_JIS_X_0208 w_GraphicSet_CNS_11643_3 w_GraphicSet_UNREAD_TWO_BYTES w_GraphicSet_KS_X_1001 w_GraphicSet_CNS_11643_6 w_GraphicSet_CNS_11643_2 w_GraphicSet_CNS_11643_5 w_GraphicSet_CNS_11643_1 w_GraphicSet_CNS_11643_4 w_GraphicSet_JIS_X_0212 w_GraphicSet_GB_2312 w_GraphicSet_CNS_11643_7 p3 h0 n0 Z0 S_GraphicSet_ASCII S_GraphicSet_JIS_X_0201_ROMAN S_GraphicSet_JIS_X_0201_KATAKANA S_GraphicSet_UNREAD_ONE_BYTE S_GraphicSet_JIS_X_0208 S_GraphicSet_JIS_X_0212 S_GraphicSet_GB_2312 S_GraphicSet_KS_X_1001 S_GraphicSet_CNS_11643_1 S_GraphicSet_CNS_11643_2 S_GraphicSet_CNS_11643_3 S_GraphicSet_CNS_11643_4 S_GraphicSet_CNS_11643_5 S_GraphicSet_CNS_11643_6 S_GraphicSet_CNS_11643_7 S_GraphicSet_UNREAD_TWO_BYTES) hZ (hw _ (List.mem_of_getElem? (i := 3) rfl)) (hw _ (List.mem_of_getElem? (i := 2) rfl)) (by decide) (by decide)) (g := (mkF m 19 #[iv p0, iv p1, iv p2, iv p3, iv p4, iv (0 : Int32), .val u0_1, .val u0_2, .val u0_3, .unset, .unset, .unset, .unset, .unset] [(.int p3)])) rfl (by rw [hml]; rfl) (argsL := [(.int p3)]) (rest := []) (lenOf pd_0 rfl) rfl (by show 2 * 0 + _ ≤ _; exact Nat.le_of_eq rfl) (hb hby at_19) (fun _ _ => ⟨rfl, e3, (by decide : 0 + 0 ≤ _), (by decide : 0 + 0 ≤ _)⟩)
  dsimp only [Pt.U, Pt.locs, Pt.cells, Pt.slots] at X4 l4 y4 z4 st4 hQ4
  subst l4 y4 z4
  obtain ⟨u0_4, rfl, hr_u0_4, N4q, e4⟩ := hQ4
  have N4 := Fr.app N3 N4q
  obtain ⟨T5, h5, X5, e5, E5, A5, D5, -, st5⟩ := newO X4 hx hZ hown (hw _ (List.mem_of_getElem? (i := 13) rfl)) (hw _ (List.mem_of_getElem? (i := 14) rfl)) (hw _ (List.mem_of_getElem? (i := 15) rfl)) e4 (g := (mkF m 38 #[iv p0, iv p1, iv p2, iv p3, iv p4, iv (0 : Int32), .val u0_1, .val u0_2, .val u0_3, .val u0_4, iv (0 : Int32), .unset, .unset, .unset] [])) rfl (hb hby at_38) (by decide) (by decide)
  obtain ⟨b0_5, gg5⟩ : ∃ z, z = h0.size := ⟨_, rfl⟩
  rw [← gg5] at A5 D5 st5
  have g_b0_5 : n0 ≤ b0_5 := Nat.le_trans Z0 (Nat.le_of_eq gg5.symm)
  have sz_b0_5 : h0.size ≤ b0_5 := Nat.le_trans (Keep.refl h0 []).1 (Nat.le_of_eq gg5.symm)
  have Z5 : n0 ≤ h5.size := Nat.le_trans Z0 E5.1
  have KK5 : Keep h0 h5 [] := (Keep.refl h0 []).ext E5
  have E_b0_5 : Exa Z h5 b0_5 "com/example/pipewright/pipewright/io/Iso2022Layout$State" := A5
  have F_b0_5_g0 : Fld Z h5 b0_5 "com/example/pipewright/pipewright/io/Iso2022Layout$State" "g0" "Lcom/example/pipewright/pipewright/io/Iso2022Layout$GraphicSet;" .null := D5 (Or.inr (hw _ (List.mem_of_getElem? (i := 28) rfl))) (ty := (.object "com/example/pipewright/pipewright/io/Iso2022Layout$GraphicSet")) (by decide)
  have F_b0_5_g1 : Fld Z h5 b0_5 "com/example/pipewright/pipewright/io/Iso2022Layout$State" "g1" "Lcom/example/pipewright/pipewright/io/Iso2022Layout$GraphicSet;" .null := D5 (Or.inr (hw _ (List.mem_of_getElem? (i := 30) rfl))) (ty := (.object "com/example/pipewright/pipewright/io/Iso2022Layout$GraphicSet")) (by decide)
  have F_b0_5_g2 : Fld Z h5 b0_5 "com/example/pipewright/pipewright/io/Iso2022Layout$State" "g2" "Lcom/example/pipewright/pipewright/io/Iso2022Layout$GraphicSet;" .null := D5 (Or.inr (hw _ (List.mem_of_getElem? (i := 32) rfl))) (ty := (.object "com/example/pipewright/pipewright/io/Iso2022Layout$GraphicSet")) (by decide)
  have F_b0_5_g3 : Fld Z h5 b0_5 "com/example/pipewright/pipewright/io/Iso2022Layout$State" "g3" "Lcom/example/pipewright/pipewright/io/Iso2022Layout$GraphicSet;" .null := D5 (Or.inr (hw _ (List.mem_of_getElem? (i := 34) rfl))) (ty := (.object "com/example/pipewright/pipewright/io/Iso2022Layout$GraphicSet")) (by decide)
  have F_b0_5_shifted : Fld Z h5 b0_5 "com/example/pipewright/pipewright/io/Iso2022Layout$State" "shifted" "Z" (.int (0 : Int32)) := D5 (Or.inr (hw _ (List.mem_of_getElem? (i := 36) rfl))) (ty := .boolean) (by decide)
  obtain ⟨_, _, ⟨T6, L6, k6, n6⟩, -, X6, ⟨Lc6, hQ6, l6, y6, z6⟩, st6⟩ := X5.specialBack hx (y := (⟨"com/example/pipewright/pipewright/io/Iso2022Layout$State", "<init>", "(Lcom/example/pipewright/pipewright/io/Iso2022Layout$GraphicSet;Lcom/example/pipewright/pipewright/io/Iso2022Layout$GraphicSet;Lcom/example/pipewright/pipewright/io/Iso2022Layout$GraphicSet;Lcom/example/pipewright/pipewright/io/Iso2022Layout$GraphicSet;Z)V"⟩ : MethodName)) rfl hown (mvT hZ (hw _ (List.mem_of_getElem? (i := 16) rfl))) (mvT hZ (hw _ (List.mem_of_getElem? (i := 17) rfl))) (mvT hZ (hw _ (List.mem_of_getElem? (i := 18) rfl))) (by decide) (backOf (W := 1) (rm2_0 l Z a0 hw [] u0_1 u0_2 u0_3 u0_4 b0_5 h5 n0 Z5 hr_u0_1 E_b0_5 F_b0_5_g0 g_b0_5 hr_u0_2 F_b0_5_g1 hr_u0_3 F_b0_5_g2 hr_u0_4 F_b0_5_g3 F_b0_5_shifted) hZ (hw _ (List.mem_of_getElem? (i := 18) rfl)) (hw _ (List.mem_of_getElem? (i := 15) rfl)) (by decide) (by decide)) (g := (mkF m 52 #[iv p0, iv p1, iv p2, iv p3, iv p4, iv (0 : Int32), .val u0_1, .val u0_2, .val u0_3, .val u0_4, iv (0 : Int32), .unset, .unset, .unset] [(.int (0 : Int32)), u0_4, u0_3, u0_2, u0_1, (.ref b0_5), (.ref b0_5)])) rfl (by rw [hml]; rfl) (Steps.refl _) (a := b0_5) (argsL := [u0_1, u0_2, u0_3, u0_4, (.int (0 : Int32))]) (rest := [(.ref b0_5)]) (lenOf pd_2 rfl) rfl (by show 2 * 0 + _ ≤ _; exact Nat.le_of_eq rfl) (hb hby at_52) (fun _ _ => ⟨rfl, e5, (by decide : 1 + 0 ≤ _), (by decide : 5 + 0 ≤ _)⟩)
  dsimp only [Pt.U, Pt.locs, Pt.cells, Pt.slots] at X6 l6 y6 z6 st6 hQ6
  subst l6 y6 z6
  obtain ⟨rfl, N6q, K6, fq6_0, fq6_1, fq6_2, fq6_3, fq6_4, fq6_5⟩ := hQ6
  have KK6 : Keep h0 T6.heap [] := KK5.trans K6 (allS (P := fun x => x ∈ [] ∨ h0.size ≤ x) (Or.inr sz_b0_5) all0)
  have Z6 : n0 ≤ T6.heap.size := Nat.le_trans Z5 K6.1
  have N6 := Fr.app N4 N6q
  obtain ⟨cq7, kq7, q7a, q7b, q7c⟩ := isOf hZ rfl fq6_5
  obtain ⟨_, _, ⟨T7, L7, k7, n7⟩, -, X7, ⟨Lc7, hQ7, l7, y7, z7⟩, st7⟩ := X6.virtualBack hx (y := (⟨"com/example/pipewright/pipewright/io/Iso2022Layout$State", "get", "(I)Lcom/example/pipewright/pipewright/io/Iso2022Layout$GraphicSet;"⟩ : MethodName)) (z := (⟨"com/example/pipewright/pipewright/io/Iso2022Layout$State", "get", "(I)Lcom/example/pipewright/pipewright/io/Iso2022Layout$GraphicSet;"⟩ : MethodName)) hown (mvT hZ (hw _ (List.mem_of_getElem? (i := 37) rfl))) (mvT hZ (hw _ (List.mem_of_getElem? (i := 38) rfl))) (notFace_of_selects (args := #[]) (mvT hZ (hw _ (List.mem_of_getElem? (i := 40) rfl)))) (mvT hZ (hw _ (List.mem_of_getElem? (i := 40) rfl))) (mvT hZ (hw _ (List.mem_of_getElem? (i := 39) rfl))) (by decide) (backOf (W := 0) (rm5_2 l Z a0 hw [] u0_1 b0_5 T6.heap n0 Z6 fq6_0 hr_u0_1) hZ (hw _ (List.mem_of_getElem? (i := 41) rfl)) (hw _ (List.mem_of_getElem? (i := 15) rfl)) (by decide) (by decide)) q7a q7c (g := (mkF m 61 #[iv p0, iv p1, iv p2, iv p3, iv p4, iv (0 : Int32), .val u0_1, .val u0_2, .val u0_3, .val u0_4, iv (0 : Int32), rv b0_5, .unset, .unset] [(.int (0 : Int32)), (.ref b0_5)])) rfl (by rw [hml]; rfl) (Steps.refl _) (argsL := [(.int (0 : Int32))]) (rest := []) (lenOf pd_0 rfl) rfl (by show 2 * 0 + _ ≤ _; exact Nat.le_of_eq rfl) (hb hby at_61) (fun _ _ => ⟨rfl, rfl, (by decide : 1 + 0 ≤ _), (by decide : 5 + 0 ≤ _)⟩)
  dsimp only [Pt.U, Pt.locs, Pt.cells, Pt.slots] at X7 l7 y7 z7 st7 hQ7
  subst l7 y7 z7
  obtain ⟨rfl, N7q, e7⟩ := hQ7
  have N7 := Fr.app N6 N7q
  obtain ⟨fs, hr, hrun, hended, hW, hsame⟩ := X7.leave (v := (some (.int (1 : Int32)))) (fun h => by rw [Bd.returns] at h; cases h)
  refine ⟨_, _, pre0 _ ?_, hrun, hended, _, _, rfl, ?_, ⟨_, rfl⟩, hW, hsame.mono (by decide) (by decide)⟩
  · show Steps p.tables e below (s₁.setTop (mkF m 0 #[iv p0, iv p1, iv p2, iv p3, iv p4, iv (0 : Int32), .unset, .unset, .unset, .unset, .unset, .unset, .unset, .unset] [])) _
    refine XS.iloadN X0.here hx rfl (hb hby at_0) rfl ?_
    show Steps p.tables e below (s₁.setTop (mkF m 1 #[iv p0, iv p1, iv p2, iv p3, iv p4, iv (0 : Int32), .unset, .unset, .unset, .unset, .unset, .unset, .unset, .unset] [(.int p0)])) _
    refine st1 _ ?_
    show Steps p.tables e below (T1.setTop (mkF m 4 #[iv p0, iv p1, iv p2, iv p3, iv p4, iv (0 : Int32), .unset, .unset, .unset, .unset, .unset, .unset, .unset, .unset] [u0_1])) _
    refine XS.astore X1.here hx rfl (hb hby at_4) rfl hr_u0_1 (l' := #[iv p0, iv p1, iv p2, iv p3, iv p4, iv (0 : Int32), .val u0_1, .unset, .unset, .unset, .unset, .unset, .unset, .unset]) (by rcases ref_cases hr_u0_1 with q | ⟨_, q⟩ <;> (subst q; rfl)) ?_
    show Steps p.tables e below (T1.setTop (mkF m 6 #[iv p0, iv p1, iv p2, iv p3, iv p4, iv (0 : Int32), .val u0_1, .unset, .unset, .unset, .unset, .unset, .unset, .unset] [])) _
    refine XS.iloadN X1.here hx rfl (hb hby at_6) rfl ?_
    show Steps p.tables e below (T1.setTop (mkF m 7 #[iv p0, iv p1, iv p2, iv p3, iv p4, iv (0 : Int32), .val u0_1, .unset, .unset, .unset, .unset, .unset, .unset, .unset] [(.int p1)])) _
    refine st2 _ ?_
    show Steps p.tables e below (T2.setTop (mkF m 10 #[iv p0, iv p1, iv p2, iv p3, iv p4, iv (0 : Int32), .val u0_1, .unset, .unset, .unset, .unset, .unset, .unset, .unset] [u0_2])) _
    refine XS.astore X2.here hx rfl (hb hby at_10) rfl hr_u0_2 (l' := #[iv p0, iv p1, iv p2, iv p3, iv p4, iv (0 : Int32), .val u0_1, .val u0_2, .unset, .unset, .unset, .unset, .unset, .unset]) (by rcases ref_cases hr_u0_2 with q | ⟨_, q⟩ <;> (subst q; rfl)) ?_
    show Steps p.tables e below (T2.setTop (mkF m 12 #[iv p0, iv p1, iv p2, iv p3, iv p4, iv (0 : Int32), .val u0_1, .val u0_2, .unset, .unset, .unset, .unset, .unset, .unset] [])) _
    refine XS.iloadN X2.here hx rfl (hb hby at_12) rfl ?_
    show Steps p.tables e below (T2.setTop (mkF m 13 #[iv p0, iv p1, iv p2, iv p3, iv p4, iv (0 : Int32), .val u0_1, .val u0_2, .unset, .unset, .unset, .unset, .unset, .unset] [(.int p2)])) _
    refine st3 _ ?_
    show Steps p.tables e below (T3.setTop (mkF m 16 #[iv p0, iv p1, iv p2, iv p3, iv p4, iv (0 : Int32), .val u0_1, .val u0_2, .unset, .unset, .unset, .unset, .unset, .unset] [u0_3])) _
    refine XS.astore X3.here hx rfl (hb hby at_16) rfl hr_u0_3 (l' := #[iv p0, iv p1, iv p2, iv p3, iv p4, iv (0 : Int32), .val u0_1, .val u0_2, .val u0_3, .unset, .unset, .unset, .unset, .unset]) (by rcases ref_cases hr_u0_3 with q | ⟨_, q⟩ <;> (subst q; rfl)) ?_
    show Steps p.tables e below (T3.setTop (mkF m 18 #[iv p0, iv p1, iv p2, iv p3, iv p4, iv (0 : Int32), .val u0_1, .val u0_2, .val u0_3, .unset, .unset, .unset, .unset, .unset] [])) _
    refine XS.iloadN X3.here hx rfl (hb hby at_18) rfl ?_
    show Steps p.tables e below (T3.setTop (mkF m 19 #[iv p0, iv p1, iv p2, iv p3, iv p4, iv (0 : Int32), .val u0_1, .val u0_2, .val u0_3, .unset, .unset, .unset, .unset, .unset] [(.int p3)])) _
    refine st4 _ ?_
    show Steps p.tables e below (T4.setTop (mkF m 22 #[iv p0, iv p1, iv p2, iv p3, iv p4, iv (0 : Int32), .val u0_1, .val u0_2, .val u0_3, .unset, .unset, .unset, .unset, .unset] [u0_4])) _
    refine XS.astore X4.here hx rfl (hb hby at_22) rfl hr_u0_4 (l' := #[iv p0, iv p1, iv p2, iv p3, iv p4, iv (0 : Int32), .val u0_1, .val u0_2, .val u0_3, .val u0_4, .unset, .unset, .unset, .unset]) (by rcases ref_cases hr_u0_4 with q | ⟨_, q⟩ <;> (subst q; rfl)) ?_
    show Steps p.tables e below (T4.setTop (mkF m 24 #[iv p0, iv p1, iv p2, iv p3, iv p4, iv (0 : Int32), .val u0_1, .val u0_2, .val u0_3, .val u0_4, .unset, .unset, .unset, .unset] [])) _
    refine XS.iload X4.here hx rfl (hb hby at_24) rfl ?_
    show Steps p.tables e below (T4.setTop (mkF m 26 #[iv p0, iv p1, iv p2, iv p3, iv p4, iv (0 : Int32), .val u0_1, .val u0_2, .val u0_3, .val u0_4, .unset, .unset, .unset, .unset] [(.int p4)])) _
    refine XS.iconst X4.here hx rfl (hb hby at_26) ?_
    show Steps p.tables e below (T4.setTop (mkF m 27 #[iv p0, iv p1, iv p2, iv p3, iv p4, iv (0 : Int32), .val u0_1, .val u0_2, .val u0_3, .val u0_4, .unset, .unset, .unset, .unset] [(.int (1 : Int32)), (.int p4)])) _
    refine XS.iand X4.here hx rfl (hb hby at_27) rfl ?_
    show Steps p.tables e below (T4.setTop (mkF m 28 #[iv p0, iv p1, iv p2, iv p3, iv p4, iv (0 : Int32), .val u0_1, .val u0_2, .val u0_3, .val u0_4, .unset, .unset, .unset, .unset] [(.int (p4 &&& (1 : Int32)))])) _
    rewrite [h4]
    show Steps p.tables e below (T4.setTop (mkF m 28 #[iv p0, iv p1, iv p2, iv p3, iv p4, iv (0 : Int32), .val u0_1, .val u0_2, .val u0_3, .val u0_4, .unset, .unset, .unset, .unset] [(.int (0 : Int32))])) _
    refine XS.ifYes X4.here hx rfl (pc0 := 28) (pc' := 35) rfl (hb hby at_28) rfl ((if0 _ _).trans (teq (by decide +kernel : (0 : Int32) = (0 : Int32))).1) (by decide) (by decide) ?_
    show Steps p.tables e below (T4.setTop (mkF m 35 #[iv p0, iv p1, iv p2, iv p3, iv p4, iv (0 : Int32), .val u0_1, .val u0_2, .val u0_3, .val u0_4, .unset, .unset, .unset, .unset] [])) _
    refine XS.iconst X4.here hx rfl (hb hby at_35) ?_
    show Steps p.tables e below (T4.setTop (mkF m 36 #[iv p0, iv p1, iv p2, iv p3, iv p4, iv (0 : Int32), .val u0_1, .val u0_2, .val u0_3, .val u0_4, .unset, .unset, .unset, .unset] [(.int (0 : Int32))])) _
    refine XS.istore X4.here hx rfl (hb hby at_36) rfl (l' := #[iv p0, iv p1, iv p2, iv p3, iv p4, iv (0 : Int32), .val u0_1, .val u0_2, .val u0_3, .val u0_4, iv (0 : Int32), .unset, .unset, .unset]) rfl ?_
    show Steps p.tables e below (T4.setTop (mkF m 38 #[iv p0, iv p1, iv p2, iv p3, iv p4, iv (0 : Int32), .val u0_1, .val u0_2, .val u0_3, .val u0_4, iv (0 : Int32), .unset, .unset, .unset] [])) _
    refine st5 _ ?_
    show Steps p.tables e below (T5.setTop (mkF m 41 #[iv p0, iv p1, iv p2, iv p3, iv p4, iv (0 : Int32), .val u0_1, .val u0_2, .val u0_3, .val u0_4, iv (0 : Int32), .unset, .unset, .unset] [(.ref b0_5)])) _
    refine XS.dup X5.here hx rfl (hb hby at_41) rfl rfl ?_
    show Steps p.tables e below (T5.setTop (mkF m 42 #[iv p0, iv p1, iv p2, iv p3, iv p4, iv (0 : Int32), .val u0_1, .val u0_2, .val u0_3, .val u0_4, iv (0 : Int32), .unset, .unset, .unset] [(.ref b0_5), (.ref b0_5)])) _
    refine XS.aload X5.here hx rfl (hb hby at_42) rfl hr_u0_1 ?_
    show Steps p.tables e below (T5.setTop (mkF m 44 #[iv p0, iv p1, iv p2, iv p3, iv p4, iv (0 : Int32), .val u0_1, .val u0_2, .val u0_3, .val u0_4, iv (0 : Int32), .unset, .unset, .unset] [u0_1, (.ref b0_5), (.ref b0_5)])) _
    refine XS.aload X5.here hx rfl (hb hby at_44) rfl hr_u0_2 ?_
    show Steps p.tables e below (T5.setTop (mkF m 46 #[iv p0, iv p1, iv p2, iv p3, iv p4, iv (0 : Int32), .val u0_1, .val u0_2, .val u0_3, .val u0_4, iv (0 : Int32), .unset, .unset, .unset] [u0_2, u0_1, (.ref b0_5), (.ref b0_5)])) _
    refine XS.aload X5.here hx rfl (hb hby at_46) rfl hr_u0_3 ?_
    show Steps p.tables e below (T5.setTop (mkF m 48 #[iv p0, iv p1, iv p2, iv p3, iv p4, iv (0 : Int32), .val u0_1, .val u0_2, .val u0_3, .val u0_4, iv (0 : Int32), .unset, .unset, .unset] [u0_3, u0_2, u0_1, (.ref b0_5), (.ref b0_5)])) _
    refine XS.aload X5.here hx rfl (hb hby at_48) rfl hr_u0_4 ?_
    show Steps p.tables e below (T5.setTop (mkF m 50 #[iv p0, iv p1, iv p2, iv p3, iv p4, iv (0 : Int32), .val u0_1, .val u0_2, .val u0_3, .val u0_4, iv (0 : Int32), .unset, .unset, .unset] [u0_4, u0_3, u0_2, u0_1, (.ref b0_5), (.ref b0_5)])) _
    refine XS.iload X5.here hx rfl (hb hby at_50) rfl ?_
    show Steps p.tables e below (T5.setTop (mkF m 52 #[iv p0, iv p1, iv p2, iv p3, iv p4, iv (0 : Int32), .val u0_1, .val u0_2, .val u0_3, .val u0_4, iv (0 : Int32), .unset, .unset, .unset] [(.int (0 : Int32)), u0_4, u0_3, u0_2, u0_1, (.ref b0_5), (.ref b0_5)])) _
    refine st6.trans ?_
    show Steps p.tables e below (T6.setTop (mkF m 55 #[iv p0, iv p1, iv p2, iv p3, iv p4, iv (0 : Int32), .val u0_1, .val u0_2, .val u0_3, .val u0_4, iv (0 : Int32), .unset, .unset, .unset] [(.ref b0_5)])) _
    refine XS.astore X6.here hx rfl (hb hby at_55) rfl rfl (l' := #[iv p0, iv p1, iv p2, iv p3, iv p4, iv (0 : Int32), .val u0_1, .val u0_2, .val u0_3, .val u0_4, iv (0 : Int32), rv b0_5, .unset, .unset]) rfl ?_
    show Steps p.tables e below (T6.setTop (mkF m 57 #[iv p0, iv p1, iv p2, iv p3, iv p4, iv (0 : Int32), .val u0_1, .val u0_2, .val u0_3, .val u0_4, iv (0 : Int32), rv b0_5, .unset, .unset] [])) _
    refine XS.aload X6.here hx rfl (hb hby at_57) rfl rfl ?_
    show Steps p.tables e below (T6.setTop (mkF m 59 #[iv p0, iv p1, iv p2, iv p3, iv p4, iv (0 : Int32), .val u0_1, .val u0_2, .val u0_3, .val u0_4, iv (0 : Int32), rv b0_5, .unset, .unset] [(.ref b0_5)])) _
    refine XS.iload X6.here hx rfl (hb hby at_59) rfl ?_
    show Steps p.tables e below (T6.setTop (mkF m 61 #[iv p0, iv p1, iv p2, iv p3, iv p4, iv (0 : Int32), .val u0_1, .val u0_2, .val u0_3, .val u0_4, iv (0 : Int32), rv b0_5, .unset, .unset] [(.int (0 : Int32)), (.ref b0_5)])) _
    refine st7.trans ?_
    show Steps p.tables e below (T7.setTop (mkF m 64 #[iv p0, iv p1, iv p2, iv p3, iv p4, iv (0 : Int32), .val u0_1, .val u0_2, .val u0_3, .val u0_4, iv (0 : Int32), rv b0_5, .unset, .unset] [u0_1])) _
    refine XS.astore X7.here hx rfl (hb hby at_64) rfl hr_u0_1 (l' := #[iv p0, iv p1, iv p2, iv p3, iv p4, iv (0 : Int32), .val u0_1, .val u0_2, .val u0_3, .val u0_4, iv (0 : Int32), rv b0_5, .val u0_1, .unset]) (by rcases ref_cases hr_u0_1 with q | ⟨_, q⟩ <;> (subst q; rfl)) ?_
    show Steps p.tables e below (T7.setTop (mkF m 66 #[iv p0, iv p1, iv p2, iv p3, iv p4, iv (0 : Int32), .val u0_1, .val u0_2, .val u0_3, .val u0_4, iv (0 : Int32), rv b0_5, .val u0_1, .unset] [])) _
    refine XS.iload X7.here hx rfl (hb hby at_66) rfl ?_
    show Steps p.tables e below (T7.setTop (mkF m 68 #[iv p0, iv p1, iv p2, iv p3, iv p4, iv (0 : Int32), .val u0_1, .val u0_2, .val u0_3, .val u0_4, iv (0 : Int32), rv b0_5, .val u0_1, .unset] [(.int (0 : Int32))])) _
    refine XS.ifNo X7.here hx rfl (hb hby at_68) rfl ((if0 _ _).trans (teq (by decide +kernel : (0 : Int32) = (0 : Int32))).2) ?_
    show Steps p.tables e below (T7.setTop (mkF m 71 #[iv p0, iv p1, iv p2, iv p3, iv p4, iv (0 : Int32), .val u0_1, .val u0_2, .val u0_3, .val u0_4, iv (0 : Int32), rv b0_5, .val u0_1, .unset] [])) _
    refine XS.aload X7.here hx rfl (hb hby at_71) rfl hr_u0_1 ?_
    show Steps p.tables e below (T7.setTop (mkF m 73 #[iv p0, iv p1, iv p2, iv p3, iv p4, iv (0 : Int32), .val u0_1, .val u0_2, .val u0_3, .val u0_4, iv (0 : Int32), rv b0_5, .val u0_1, .unset] [u0_1])) _
    refine XS.astore X7.here hx rfl (hb hby at_73) rfl hr_u0_1 (l' := #[iv p0, iv p1, iv p2, iv p3, iv p4, iv (0 : Int32), .val u0_1, .val u0_2, .val u0_3, .val u0_4, iv (0 : Int32), rv b0_5, .val u0_1, .val u0_1]) (by rcases ref_cases hr_u0_1 with q | ⟨_, q⟩ <;> (subst q; rfl)) ?_
    show Steps p.tables e below (T7.setTop (mkF m 75 #[iv p0, iv p1, iv p2, iv p3, iv p4, iv (0 : Int32), .val u0_1, .val u0_2, .val u0_3, .val u0_4, iv (0 : Int32), rv b0_5, .val u0_1, .val u0_1] [])) _
    refine XS.goto X7.here hx rfl (pc0 := 75) (pc' := 108) rfl (hb hby at_75) (by decide) (by decide) ?_
    show Steps p.tables e below (T7.setTop (mkF m 108 #[iv p0, iv p1, iv p2, iv p3, iv p4, iv (0 : Int32), .val u0_1, .val u0_2, .val u0_3, .val u0_4, iv (0 : Int32), rv b0_5, .val u0_1, .val u0_1] [])) _
    refine XS.aload X7.here hx rfl (hb hby at_108) rfl hr_u0_1 ?_
    show Steps p.tables e below (T7.setTop (mkF m 110 #[iv p0, iv p1, iv p2, iv p3, iv p4, iv (0 : Int32), .val u0_1, .val u0_2, .val u0_3, .val u0_4, iv (0 : Int32), rv b0_5, .val u0_1, .val u0_1] [u0_1])) _
    refine XS.aload X7.here hx rfl (hb hby at_110) rfl hr_u0_1 ?_
    show Steps p.tables e below (T7.setTop (mkF m 112 #[iv p0, iv p1, iv p2, iv p3, iv p4, iv (0 : Int32), .val u0_1, .val u0_2, .val u0_3, .val u0_4, iv (0 : Int32), rv b0_5, .val u0_1, .val u0_1] [u0_1, u0_1])) _
    refine Jvm.RoadKit.acmp (g := (mkF m 112 #[iv p0, iv p1, iv p2, iv p3, iv p4, iv (0 : Int32), .val u0_1, .val u0_2, .val u0_3, .val u0_4, iv (0 : Int32), rv b0_5, .val u0_1, .val u0_1] [u0_1, u0_1])) X7 hx rfl hr_u0_1 hr_u0_1 (pc0 := 112) (pc' := 115) (same := true) rfl (hb hby at_112) rfl (decide_eq_true rfl) (by decide) (by decide) ?_
    show Steps p.tables e below (T7.setTop (mkF m 115 #[iv p0, iv p1, iv p2, iv p3, iv p4, iv (0 : Int32), .val u0_1, .val u0_2, .val u0_3, .val u0_4, iv (0 : Int32), rv b0_5, .val u0_1, .val u0_1] [])) _
    refine XS.iconst X7.here hx rfl (hb hby at_115) ?_
    show Steps p.tables e below (T7.setTop (mkF m 116 #[iv p0, iv p1, iv p2, iv p3, iv p4, iv (0 : Int32), .val u0_1, .val u0_2, .val u0_3, .val u0_4, iv (0 : Int32), rv b0_5, .val u0_1, .val u0_1] [(.int (1 : Int32))])) _
    refine XS.goto X7.here hx rfl (pc0 := 116) (pc' := 120) rfl (hb hby at_116) (by decide) (by decide) ?_
    show Steps p.tables e below (T7.setTop (mkF m 120 #[iv p0, iv p1, iv p2, iv p3, iv p4, iv (0 : Int32), .val u0_1, .val u0_2, .val u0_3, .val u0_4, iv (0 : Int32), rv b0_5, .val u0_1, .val u0_1] [(.int (1 : Int32))])) _
    exact retN X7 hx (t := .boolean) Bd.returns (by simp) (hb hby at_120) hr
  · exact ⟨rfl, N7⟩
set_option maxRecDepth 65536 in
set_option maxHeartbeats 40000000 in
theorem rm5_3 (l : Launch) (Z : State) (a0 : Array Value) (hw : ∀ d ∈ tables_1, d.before a0 Z = true) (ws : List Jvm.Cond) (u0_2 : Value) (b0_5 : Addr) (h0 : Heap) (n0 : Nat) (Z0 : n0 ≤ h0.size) (F_b0_5_g1 : Fld Z h0 b0_5 "com/example/pipewright/pipewright/io/Iso2022Layout$State" "g1" "Lcom/example/pipewright/pipewright/io/Iso2022Layout$GraphicSet;" u0_2) (hr_u0_2 : u0_2.isRef = true) :
    MetFree l (⟨"com/example/pipewright/pipewright/io/Iso2022Layout$State", "get", "(I)Lcom/example/pipewright/pipewright/io/Iso2022Layout$GraphicSet;"⟩ : MethodName) (head1 (Jvm.Cond.code (⟨"com/example/pipewright/pipewright/io/Iso2022Layout$State", "get", "(I)Lcom/example/pipewright/pipewright/io/Iso2022Layout$GraphicSet;"⟩ : MethodName) prog_25_method_3_code 2 (some (.object "com/example/pipewright/pipewright/io/Iso2022Layout$GraphicSet")) :: ws) ({ frames := 0, cells := 0, slots := 0, locals := 0 } : Room)) (fun a U => a = #[(.ref b0_5), (.int (1 : Int32))] ∧ Z.Warmed39 U.vm ∧ U.heap = h0) (fun _ _ _ _ _ => True) (fun _ U o U' => ∃ v L, o = .returned v ∧ own_QP (some u0_2) h0 n0 v U'.heap L ∧ FrameEnd U o U' L ({ frames := 0, cells := 0, slots := 0, locals := 0 } : Room).cells ({ frames := 0, cells := 0, slots := 0, locals := 0 } : Room).slots) := by
  refine MetFree.of_bodySF (plainFor_of_name pn_2) hisR ?_
  intro p e s m args below meth c s₁ Bd hml0 hP hK
  obtain ⟨rfl, hZ, hh⟩ := hP
  have hx := Bd.exec
  have hby := Bd.bytes
  have hml : c.maxLocals = 2 := hml0
  have hown : s.vm.findClass "com/example/pipewright/pipewright/io/Iso2022Layout$State" = some m.cls := findClass_of_methodNamed Bd.named
  have hnm := (name_of_methodNamed Bd.named Bd.method).1
  have X0 : Stand p l e ({ frames := 0, cells := 0, slots := 0, locals := 0 } : Room) s m #[(.ref b0_5), (.int (1 : Int32))] below meth c s₁ [] 0 0 := Stand.of_body Bd
  have e0 : s₁.heap = h0 := by rw [← hh, Bd.state]; rfl
  have N0 := Fr.nil n0
  have pre0 : ∀ t, Steps p.tables e below (s₁.setTop (mkF m 0 #[rv b0_5, iv (1 : Int32)] [])) t → Steps p.tables e below (s₁.setTop (entryFrame m #[(.ref b0_5), (.int (1 : Int32))] 2)) t := fun t k => castTop (ef_5_RI m b0_5 (1 : Int32)) k
  obtain ⟨T1, X1, e1, st1⟩ := getF X0 hx hZ hown (host := "") (Or.inl (hw _ (List.mem_of_getElem? (i := 29) rfl))) Via.refl e0 F_b0_5_g1 (g := (mkF m 36 #[rv b0_5, iv (1 : Int32)] [(.ref b0_5)])) rfl rfl (hb hby d5_36)
  obtain ⟨fs, hr, hrun, hended, hW, hsame⟩ := X1.leave (v := (some u0_2)) (fun h => by rw [Bd.returns] at h; cases h)
  refine ⟨_, _, pre0 _ ?_, hrun, hended, _, _, rfl, ?_, ⟨_, rfl⟩, hW, hsame.mono (by decide) (by decide)⟩
  · show Steps p.tables e below (s₁.setTop (mkF m 0 #[rv b0_5, iv (1 : Int32)] [])) _
    refine XS.iloadN X0.here hx rfl (hb hby d5_0) rfl ?_
    show Steps p.tables e below (s₁.setTop (mkF m 1 #[rv b0_5, iv (1 : Int32)] [(.int (1 : Int32))])) _
    refine XS.tswIn X0.here hx rfl (o := 34) (pc0 := 1) (pc' := 35) rfl (hb hby d5_1) rfl (by decide) (by decide) (by decide) (by decide) ?_
    show Steps p.tables e below (s₁.setTop (mkF m 35 #[rv b0_5, iv (1 : Int32)] [])) _
    refine XS.aloadN X0.here hx rfl (hb hby d5_35) rfl rfl ?_
    show Steps p.tables e below (s₁.setTop (mkF m 36 #[rv b0_5, iv (1 : Int32)] [(.ref b0_5)])) _
    refine st1 _ ?_
    show Steps p.tables e below (T1.setTop (mkF m 39 #[rv b0_5, iv (1 : Int32)] [u0_2])) _
    refine XS.goto X1.here hx rfl (pc0 := 39) (pc' := 53) rfl (hb hby d5_39) (by decide) (by decide) ?_
    show Steps p.tables e below (T1.setTop (mkF m 53 #[rv b0_5, iv (1 : Int32)] [u0_2])) _
    exact own_retA X1 hx Bd.returns rfl hr_u0_2 (hb hby d5_53) hr
  · exact ⟨rfl, N0, e1⟩
set_option maxRecDepth 65536 in
set_option maxHeartbeats 40000000 in
theorem rm0_1 (l : Launch) (Z : State) (a0 : Array Value) (hw : ∀ d ∈ tables_1, d.before a0 Z = true) (ws : List Jvm.Cond) (p0 : Int32) (p1 : Int32) (p2 : Int32) (p3 : Int32) (p4 : Int32) (w_GraphicSet_ASCII : Addr) (w_GraphicSet_UNREAD_ONE_BYTE : Addr) (w_GraphicSet_JIS_X_0201_KATAKANA : Addr) (w_GraphicSet_JIS_X_0201_ROMAN : Addr) (w_GraphicSet_JIS_X_0208 : Addr) (w_GraphicSet_CNS_11643_3 : Addr) (w_GraphicSet_UNREAD_TWO_BYTES : Addr) (w_GraphicSet_KS_X_1001 : Addr) (w_GraphicSet_CNS_11643_6 : Addr) (w_GraphicSet_CNS_11643_2 : Addr) (w_GraphicSet_CNS_11643_5 : Addr) (w_GraphicSet_CNS_11643_1 : Addr) (w_GraphicSet_CNS_11643_4 : Addr) (w_GraphicSet_JIS_X_0212 : Addr) (w_GraphicSet_GB_2312 : Addr) (w_GraphicSet_CNS_11643_7 : Addr) (h0 : Heap) (n0 : Nat) (Z0 : n0 ≤ h0.size) (S_GraphicSet_ASCII : Sta Z h0 "com/example/pipewright/pipewright/io/Iso2022Layout$GraphicSet" "ASCII" "Lcom/example/pipewright/pipewright/io/Iso2022Layout$GraphicSet;" (.ref w_GraphicSet_ASCII)) (S_GraphicSet_JIS_X_0201_ROMAN : Sta Z h0 "com/example/pipewright/pipewright/io/Iso2022Layout$GraphicSet" "JIS_X_0201_ROMAN" "Lcom/example/pipewright/pipewright/io/Iso2022Layout$GraphicSet;" (.ref w_GraphicSet_JIS_X_0201_ROMAN)) (S_GraphicSet_JIS_X_0201_KATAKANA : Sta Z h0 "com/example/pipewright/pipewright/io/Iso2022Layout$GraphicSet" "JIS_X_0201_KATAKANA" "Lcom/example/pipewright/pipewright/io/Iso2022Layout$GraphicSet;" (.ref w_GraphicSet_JIS_X_0201_KATAKANA)) (S_GraphicSet_UNREAD_ONE_BYTE : Sta Z h0 "com/example/pipewright/pipewright/io/Iso2022Layout$GraphicSet" "UNREAD_ONE_BYTE" "Lcom/example/pipewright/pipewright/io/Iso2022Layout$GraphicSet;" (.ref w_GraphicSet_UNREAD_ONE_BYTE)) (S_GraphicSet_JIS_X_0208 : Sta Z h0 "com/example/pipewright/pipewright/io/Iso2022Layout$GraphicSet" "JIS_X_0208" "Lcom/example/pipewright/pipewright/io/Iso2022Layout$GraphicSet;" (.ref w_GraphicSet_JIS_X_0208)) (S_GraphicSet_JIS_X_0212 : Sta Z h0 "com/example/pipewright/pipewright/io/Iso2022Layout$GraphicSet" "JIS_X_0212" "Lcom/example/pipewright/pipewright/io/Iso2022Layout$GraphicSet;" (.ref w_GraphicSet_JIS_X_0212)) (S_GraphicSet_GB_2312 : Sta Z h0 "com/example/pipewright/pipewright/io/Iso2022Layout$GraphicSet" "GB_2312" "Lcom/example/pipewright/pipewright/io/Iso2022Layout$GraphicSet;" (.ref w_GraphicSet_GB_2312)) (S_GraphicSet_KS_X_1001 : Sta Z h0 "com/example/pipewright/pipewright/io/Iso2022Layout$GraphicSet" "KS_X_1001" "Lcom/example/pipewright/pipewright/io/Iso2022Layout$GraphicSet;" (.ref w_GraphicSet_KS_X_1001)) (S_GraphicSet_CNS_11643_1 : Sta Z h0 "com/example/pipewright/pipewright/io/Iso2022Layout$GraphicSet" "CNS_11643_1" "Lcom/example/pipewright/pipewright/io/Iso2022Layout$GraphicSet;" (.ref w_GraphicSet_CNS_11643_1)) (S_GraphicSet_CNS_11643_2 : Sta Z h0 "com/example/pipewright/pipewright/io/Iso2022Layout$GraphicSet" "CNS_11643_2" "Lcom/example/pipewright/pipewright/io/Iso2022Layout$GraphicSet;" (.ref w_GraphicSet_CNS_11643_2)) (S_GraphicSet_CNS_11643_3 : Sta Z h0 "com/example/pipewright/pipewright/io/Iso2022Layout$GraphicSet" "CNS_11643_3" "Lcom/example/pipewright/pipewright/io/Iso2022Layout$GraphicSet;" (.ref w_GraphicSet_CNS_11643_3)) (S_GraphicSet_CNS_11643_4 : Sta Z h0 "com/example/pipewright/pipewright/io/Iso2022Layout$GraphicSet" "CNS_11643_4" "Lcom/example/pipewright/pipewright/io/Iso2022Layout$GraphicSet;" (.ref w_GraphicSet_CNS_11643_4)) (S_GraphicSet_CNS_11643_5 : Sta Z h0 "com/example/pipewright/pipewright/io/Iso2022Layout$GraphicSet" "CNS_11643_5" "Lcom/example/pipewright/pipewright/io/Iso2022Layout$GraphicSet;" (.ref w_GraphicSet_CNS_11643_5)) (S_GraphicSet_CNS_11643_6 : Sta Z h0 "com/example/pipewright/pipewright/io/Iso2022Layout$GraphicSet" "CNS_11643_6" "Lcom/example/pipewright/pipewright/io/Iso2022Layout$GraphicSet;" (.ref w_GraphicSet_CNS_11643_6)) (S_GraphicSet_CNS_11643_7 : Sta Z h0 "com/example/pipewright/pipewright/io/Iso2022Layout$GraphicSet" "CNS_11643_7" "Lcom/example/pipewright/pipewright/io/Iso2022Layout$GraphicSet;" (.ref w_GraphicSet_CNS_11643_7)) (S_GraphicSet_UNREAD_TWO_BYTES : Sta Z h0 "com/example/pipewright/pipewright/io/Iso2022Layout$GraphicSet" "UNREAD_TWO_BYTES" "Lcom/example/pipewright/pipewright/io/Iso2022Layout$GraphicSet;" (.ref w_GraphicSet_UNREAD_TWO_BYTES)) (h4 : (p4 &&& (1 : Int32)) = (0 : Int32)) :
    MetFree l x (head1 (Jvm.Cond.code x code maxLocals ret :: ws) room_1) (fun a U => a = #[(.int p0), (.int p1), (.int p2), (.int p3), (.int p4), (.int (1 : Int32))] ∧ Z.Warmed39 U.vm ∧ U.heap = h0) (fun _ _ _ _ _ => True) (fun _ U o U' => ∃ v L, o = .returned v ∧ own_QL n0 v U'.heap L ∧ FrameEnd U o U' L room_1.cells room_1.slots) := by
  refine MetFree.of_bodySF (plainFor_of_name pn_0) hisR ?_
  intro p e s m args below meth c s₁ Bd hml0 hP hK
  obtain ⟨rfl, hZ, hh⟩ := hP
  have hx := Bd.exec
  have hby := Bd.bytes
  have hml : c.maxLocals = 14 := hml0
  have hown : s.vm.findClass "com/example/pipewright/pipewright/io/StateGetPinLaw" = some m.cls := findClass_of_methodNamed Bd.named
  have hnm := (name_of_methodNamed Bd.named Bd.method).1
  have X0 : Stand p l e room_1 s m #[(.int p0), (.int p1), (.int p2), (.int p3), (.int p4), (.int (1 : Int32))] below meth c s₁ [] 0 0 := Stand.of_body Bd
  have e0 : s₁.heap = h0 := by rw [← hh, Bd.state]; rfl
  have N0 := Fr.nil n0
  have pre0 : ∀ t, Steps p.tables e below (s₁.setTop (mkF m 0 #[iv p0, iv p1, iv p2, iv p3, iv p4, iv (1 : Int32), .unset, .unset, .unset, .unset, .unset, .unset, .unset, .unset] [])) t → Steps p.tables e below (s₁.setTop (entryFrame m #[(.int p0), (.int p1), (.int p2), (.int p3), (.int p4), (.int (1 : Int32))] maxLocals)) t := fun t k => castTop (ef_0_IIIIII m p0 p1 p2 p3 p4 (1 : Int32)) k
  obtain ⟨_, _, ⟨T1, L1, k1, n1⟩, -, X1, ⟨Lc1, hQ1, l1, y1, z1⟩, st1⟩ := Jvm.LawKit.callS X0 hx (y := (⟨"com/example/pipewright/pipewright/io/StateGetPinLaw", "pick", "(I)Lcom/example/pipewright/pipewright/io/Iso2022Layout$GraphicSet;"⟩ : MethodName)) hown (mvT hZ (hw _ (List.mem_of_getElem? (i := 0) rfl))) (mvT hZ (hw _ (List.mem_of_getElem? (i := 1) rfl))) (mvT hZ (hw _ (List.mem_of_getElem? (i := 2) rfl))) (mvT hZ (hw _ (List.mem_of_getElem? (i := 3) rfl))) (by decide) (backOf (W := 0) (rk1 l Z a0 hw [] w_GraphicSet_ASCII w_GraphicSet_UNREAD_ONE_BYTE w_GraphicSet_JIS_X_0201_KATAKANA w_GraphicSet_JIS_X_0201_ROMAN w_GraphicSet_JIS_X_0208 w_GraphicSet_CNS_11643_3 w_GraphicSet_UNREAD_TWO_BYTES w_GraphicSet_KS_X_1001 w_GraphicSet_CNS_11643_6 w_GraphicSet_CNS_11643_2 w_GraphicSet_CNS_11643_5 w_GraphicSet_CNS_11643_1 w_GraphicSet_CNS_11643_4 w_GraphicSet_JIS_X_0212 w_GraphicSet_GB_2312 w_GraphicSet_CNS_11643_7 p0 h0 n0 Z0 S_GraphicSet_ASCII S_GraphicSet_JIS_X_0201_ROMAN S_GraphicSet_JIS_X_0201_KATAKANA S_GraphicSet_UNREAD_ONE_BYTE S_GraphicSet_JIS_X_0208 S_GraphicSet_JIS_X_0212 S_GraphicSet_GB_2312 S_GraphicSet_KS_X_1001 S_GraphicSet_CNS_11643_1 S_GraphicSet_CNS_11643_2 S_GraphicSet_CNS_11643_3 S_GraphicSet_CNS_11643_4 S_GraphicSet_CNS_11643_5 S_GraphicSet_CNS_11643_6 S_GraphicSet_CNS_11643_7 S_GraphicSet_UNREAD_TWO_BYTES) hZ (hw _ (List.mem_of_getElem? (i := 3) rfl)) (hw _ (List.mem_of_getElem? (i := 2) rfl)) (by decide) (by decide)) (g := (mkF m 1 #[iv p0, iv p1, iv p2, iv p3, iv p4, iv (1 : Int32), .unset, .unset, .unset, .unset, .unset, .unset, .unset, .unset] [(.int p0)])) rfl (by rw [hml]; rfl) (argsL := [(.int p0)]) (rest := []) (lenOf pd_0 rfl) rfl (by show 2 * 0 + _ ≤ _; exact Nat.le_of_eq rfl) (hb hby at_1) (fun _ _ => ⟨rfl, e0, (by decide : 0 + 0 ≤ _), (by decide : 0 + 0 ≤ _)⟩)
  dsimp only [Pt.U, Pt.locs, Pt.cells, Pt.slots] at X1 l1 y1 z1 st1 hQ1
  subst l1 y1 z1
  obtain ⟨u0_1, rfl, hr_u0_1, N1q, e1⟩ := hQ1
  have N1 := Fr.app N0 N1q
  obtain ⟨_, _, ⟨T2, L2, k2, n2⟩, -, X2, ⟨Lc2, hQ2, l2, y2, z2⟩, st2⟩ := Jvm.LawKit.callS X1 hx (y := (⟨"com/example/pipewright/pipewright/io/StateGetPinLaw", "pick", "(I)Lcom/example/pipewright/pipewright/io/Iso2022Layout$GraphicSet;"⟩ : MethodName)) hown (mvT hZ (hw _ (List.mem_of_getElem? (i := 0) rfl))) (mvT hZ (hw _ (List.mem_of_getElem? (i := 1) rfl))) (mvT hZ (hw _ (List.mem_of_getElem? (i := 2) rfl))) (mvT hZ (hw _ (List.mem_of_getElem? (i := 3) rfl))) (by decide) (backOf (W := 0) (rk1 l Z a0 hw [] w_GraphicSet_ASCII w_GraphicSet_UNREAD_ONE_BYTE w_GraphicSet_JIS_X_0201_KATAKANA w_GraphicSet_JIS_X_0201_ROMAN w_GraphicSet_JIS_X_0208 w_GraphicSet_CNS_11643_3 w_GraphicSet_UNREAD_TWO_BYTES w_GraphicSet_KS_X_1001 w_GraphicSet_CNS_11643_6 w_GraphicSet_CNS_11643_2 w_GraphicSet_CNS_11643_5 w_GraphicSet_CNS_11643_1 w_GraphicSet_CNS_11643_4 w_GraphicSet_JIS_X_0212 w_GraphicSet_GB_2312 w_GraphicSet_CNS_11643_7 p1 h0 n0 Z0 S_GraphicSet_ASCII S_GraphicSet_JIS_X_0201_ROMAN S_GraphicSet_JIS_X_0201_KATAKANA S_GraphicSet_UNREAD_ONE_BYTE S_GraphicSet_JIS_X_0208 S_GraphicSet_JIS_X_0212 S_GraphicSet_GB_2312 S_GraphicSet_KS_X_1001 S_GraphicSet_CNS_11643_1 S_GraphicSet_CNS_11643_2 S_GraphicSet_CNS_11643_3 S_GraphicSet_CNS_11643_4 S_GraphicSet_CNS_11643_5 S_GraphicSet_CNS_11643_6 S_GraphicSet_CNS_11643_7 S_GraphicSet_UNREAD_TWO_BYTES) hZ (hw _ (List.mem_of_getElem? (i := 3) rfl)) (hw _ (List.mem_of_getElem? (i := 2) rfl)) (by decide) (by decide)) (g := (mkF m 7 #[iv p0, iv p1, iv p2, iv p3, iv p4, iv (1 : Int32), .val u0_1, .unset, .unset, .unset, .unset, .unset, .unset, .unset] [(.int p1)])) rfl (by rw [hml]; rfl) (argsL := [(.int p1)]) (rest := []) (lenOf pd_0 rfl) rfl (by show 2 * 0 + _ ≤ _; exact Nat.le_of_eq rfl) (hb hby at_7) (fun _ _ => ⟨rfl, e1, (by decide : 0 + 0 ≤ _), (by decide : 0 + 0 ≤ _)⟩)
  dsimp only [Pt.U, Pt.locs, Pt.cells, Pt.slots] at X2 l2 y2 z2 st2 hQ2
  subst l2 y2 z2
  obtain ⟨u0_2, rfl, hr_u0_2, N2q, e2⟩ := hQ2
  have N2 := Fr.app N1 N2q
  obtain ⟨_, _, ⟨T3, L3, k3, n3⟩, -, X3, ⟨Lc3, hQ3, l3, y3, z3⟩, st3⟩ := Jvm.LawKit.callS X2 hx (y := (⟨"com/example/pipewright/pipewright/io/StateGetPinLaw", "pick", "(I)Lcom/example/pipewright/pipewright/io/Iso2022Layout$GraphicSet;"⟩ : MethodName)) hown (mvT hZ (hw _ (List.mem_of_getElem? (i := 0) rfl))) (mvT hZ (hw _ (List.mem_of_getElem? (i := 1) rfl))) (mvT hZ (hw _ (List.mem_of_getElem? (i := 2) rfl))) (mvT hZ (hw _ (List.mem_of_getElem? (i := 3) rfl))) (by decide) (backOf (W := 0) (rk1 l Z a0 hw [] w_GraphicSet_ASCII w_GraphicSet_UNREAD_ONE_BYTE w_GraphicSet_JIS_X_0201_KATAKANA w_GraphicSet_JIS_X_0201_ROMAN w_GraphicSet_JIS_X_0208 w_GraphicSet_CNS_11643_3 w_GraphicSet_UNREAD_TWO_BYTES w_GraphicSet_KS_X_1001 w_GraphicSet_CNS_11643_6 w_GraphicSet_CNS_11643_2 w_GraphicSet_CNS_11643_5 w_GraphicSet_CNS_11643_1 w_GraphicSet_CNS_11643_4 w_GraphicSet_JIS_X_0212 w_GraphicSet_GB_2312 w_GraphicSet_CNS_11643_7 p2 h0 n0 Z0 S_GraphicSet_ASCII S_GraphicSet_JIS_X_0201_ROMAN S_GraphicSet_JIS_X_0201_KATAKANA S_GraphicSet_UNREAD_ONE_BYTE S_GraphicSet_JIS_X_0208 S_GraphicSet_JIS_X_0212 S_GraphicSet_GB_2312 S_GraphicSet_KS_X_1001 S_GraphicSet_CNS_11643_1 S_GraphicSet_CNS_11643_2 S_GraphicSet_CNS_11643_3 S_GraphicSet_CNS_11643_4 S_GraphicSet_CNS_11643_5 S_GraphicSet_CNS_11643_6 S_GraphicSet_CNS_11643_7 S_GraphicSet_UNREAD_TWO_BYTES) hZ (hw _ (List.mem_of_getElem? (i := 3) rfl)) (hw _ (List.mem_of_getElem? (i := 2) rfl)) (by decide) (by decide)) (g := (mkF m 13 #[iv p0, iv p1, iv p2, iv p3, iv p4, iv (1 : Int32), .val u0_1, .val u0_2, .unset, .unset, .unset, .unset, .unset, .unset] [(.int p2)])) rfl (by rw [hml]; rfl) (argsL := [(.int p2)]) (rest := []) (lenOf pd_0 rfl) rfl (by show 2 * 0 + _ ≤ _; exact Nat.le_of_eq rfl) (hb hby at_13) (fun _ _ => ⟨rfl, e2, (by decide : 0 + 0 ≤ _), (by decide : 0 + 0 ≤ _)⟩)
  dsimp only [Pt.U, Pt.locs, Pt.cells, Pt.slots] at X3 l3 y3 z3 st3 hQ3
  subst l3 y3 z3
  obtain ⟨u0_3, rfl, hr_u0_3, N3q, e3⟩ := hQ3
  have N3 := Fr.app N2 N3q
  obtain ⟨_, _, ⟨T4, L4, k4, n4⟩, -, X4, ⟨Lc4, hQ4, l4, y4, z4⟩, st4⟩ := Jvm.LawKit.callS X3 hx (y := (⟨"com/example/pipewright/pipewright/io/StateGetPinLaw", "pick", "(I)Lcom/example/pipewright/pipewright/io/Iso2022Layout$GraphicSet;"⟩ : MethodName)) hown (mvT hZ (hw _ (List.mem_of_getElem? (i := 0) rfl))) (mvT hZ (hw _ (List.mem_of_getElem? (i := 1) rfl))) (mvT hZ (hw _ (List.mem_of_getElem? (i := 2) rfl))) (mvT hZ (hw _ (List.mem_of_getElem? (i := 3) rfl))) (by decide) (backOf (W := 0) (rk1 l Z a0 hw [] w_GraphicSet_ASCII w_GraphicSet_UNREAD_ONE_BYTE w_GraphicSet_JIS_X_0201_KATAKANA w_GraphicSet_JIS_X_0201_ROMAN w_GraphicSet_JIS_X_0208 w_GraphicSet_CNS_11643_3 w_GraphicSet_UNREAD_TWO_BYTES w_GraphicSet_KS_X_1001 w_GraphicSet_CNS_11643_6 w_GraphicSet_CNS_11643_2 w_GraphicSet_CNS_11643_5 w_GraphicSet_CNS_11643_1 w_GraphicSet_CNS_11643_4 w_GraphicSet_JIS_X_0212 w_GraphicSet_GB_2312 w_GraphicSet_CNS_11643_7 p3 h0 n0 Z0 S_GraphicSet_ASCII S_GraphicSet_JIS_X_0201_ROMAN S_GraphicSet_JIS_X_0201_KATAKANA S_GraphicSet_UNREAD_ONE_BYTE S_GraphicSet_JIS_X_0208 S_GraphicSet_JIS_X_0212 S_GraphicSet_GB_2312 S_GraphicSet_KS_X_1001 S_GraphicSet_CNS_11643_1 S_GraphicSet_CNS_11643_2 S_GraphicSet_CNS_11643_3 S_GraphicSet_CNS_11643_4 S_GraphicSet_CNS_11643_5 S_GraphicSet_CNS_11643_6 S_GraphicSet_CNS_11643_7 S_GraphicSet_UNREAD_TWO_BYTES) hZ (hw _ (List.mem_of_getElem? (i := 3) rfl)) (hw _ (List.mem_of_getElem? (i := 2) rfl)) (by decide) (by decide)) (g := (mkF m 19 #[iv p0, iv p1, iv p2, iv p3, iv p4, iv (1 : Int32), .val u0_1, .val u0_2, .val u0_3, .unset, .unset, .unset, .unset, .unset] [(.int p3)])) rfl (by rw [hml]; rfl) (argsL := [(.int p3)]) (rest := []) (lenOf pd_0 rfl) rfl (by show 2 * 0 + _ ≤ _; exact Nat.le_of_eq rfl) (hb hby at_19) (fun _ _ => ⟨rfl, e3, (by decide : 0 + 0 ≤ _), (by decide : 0 + 0 ≤ _)⟩)
  dsimp only [Pt.U, Pt.locs, Pt.cells, Pt.slots] at X4 l4 y4 z4 st4 hQ4
  subst l4 y4 z4
  obtain ⟨u0_4, rfl, hr_u0_4, N4q, e4⟩ := hQ4
  have N4 := Fr.app N3 N4q
  obtain ⟨T5, h5, X5, e5, E5, A5, D5, -, st5⟩ := newO X4 hx hZ hown (hw _ (List.mem_of_getElem? (i := 13) rfl)) (hw _ (List.mem_of_getElem? (i := 14) rfl)) (hw _ (List.mem_of_getElem? (i := 15) rfl)) e4 (g := (mkF m 38 #[iv p0, iv p1, iv p2, iv p3, iv p4, iv (1 : Int32), .val u0_1, .val u0_2, .val u0_3, .val u0_4, iv (0 : Int32), .unset, .unset, .unset] [])) rfl (hb hby at_38) (by decide) (by decide)
  obtain ⟨b0_5, gg5⟩ : ∃ z, z = h0.size := ⟨_, rfl⟩
  rw [← gg5] at A5 D5 st5
  have g_b0_5 : n0 ≤ b0_5 := Nat.le_trans Z0 (Nat.le_of_eq gg5.symm)
  have sz_b0_5 : h0.size ≤ b0_5 := Nat.le_trans (Keep.refl h0 []).1 (Nat.le_of_eq gg5.symm)
  have Z5 : n0 ≤ h5.size := Nat.le_trans Z0 E5.1
  have KK5 : Keep h0 h5 [] := (Keep.refl h0 []).ext E5
  have E_b0_5 : Exa Z h5 b0_5 "com/example/pipewright/pipewright/io/Iso2022Layout$State" := A5
  have F_b0_5_g0 : Fld Z h5 b0_5 "com/example/pipewright/pipewright/io/Iso2022Layout$State" "g0" "Lcom/example/pipewright/pipewright/io/Iso2022Layout$GraphicSet;" .null := D5 (Or.inr (hw _ (List.mem_of_getElem? (i := 28) rfl))) (ty := (.object "com/example/pipewright/pipewright/io/Iso2022Layout$GraphicSet")) (by decide)
  have F_b0_5_g1 : Fld Z h5 b0_5 "com/example/pipewright/pipewright/io/Iso2022Layout$State" "g1" "Lcom/example/pipewright/pipewright/io/Iso2022Layout$GraphicSet;" .null := D5 (Or.inr (hw _ (List.mem_of_getElem? (i := 30) rfl))) (ty := (.object "com/example/pipewright/pipewright/io/Iso2022Layout$GraphicSet")) (by decide)
  have F_b0_5_g2 : Fld Z h5 b0_5 "com/example/pipewright/pipewright/io/Iso2022Layout$State" "g2" "Lcom/example/pipewright/pipewright/io/Iso2022Layout$GraphicSet;" .null := D5 (Or.inr (hw _ (List.mem_of_getElem? (i := 32) rfl))) (ty := (.object "com/example/pipewright/pipewright/io/Iso2022Layout$GraphicSet")) (by decide)
  have F_b0_5_g3 : Fld Z h5 b0_5 "com/example/pipewright/pipewright/io/Iso2022Layout$State" "g3" "Lcom/example/pipewright/pipewright/io/Iso2022Layout$GraphicSet;" .null := D5 (Or.inr (hw _ (List.mem_of_getElem? (i := 34) rfl))) (ty := (.object "com/example/pipewright/pipewright/io/Iso2022Layout$GraphicSet")) (by decide)
  have F_b0_5_shifted : Fld Z h5 b0_5 "com/example/pipewright/pipewright/io/Iso2022Layout$State" "shifted" "Z" (.int (0 : Int32)) := D5 (Or.inr (hw _ (List.mem_of_getElem? (i := 36) rfl))) (ty := .boolean) (by decide)
  obtain ⟨_, _, ⟨T6, L6, k6, n6⟩, -, X6, ⟨Lc6, hQ6, l6, y6, z6⟩, st6⟩ := X5.specialBack hx (y := (⟨"com/example/pipewright/pipewright/io/Iso2022Layout$State", "<init>", "(Lcom/example/pipewright/pipewright/io/Iso2022Layout$GraphicSet;Lcom/example/pipewright/pipewright/io/Iso2022Layout$GraphicSet;Lcom/example/pipewright/pipewright/io/Iso2022Layout$GraphicSet;Lcom/example/pipewright/pipewright/io/Iso2022Layout$GraphicSet;Z)V"⟩ : MethodName)) rfl hown (mvT hZ (hw _ (List.mem_of_getElem? (i := 16) rfl))) (mvT hZ (hw _ (List.mem_of_getElem? (i := 17) rfl))) (mvT hZ (hw _ (List.mem_of_getElem? (i := 18) rfl))) (by decide) (backOf (W := 1) (rm2_0 l Z a0 hw [] u0_1 u0_2 u0_3 u0_4 b0_5 h5 n0 Z5 hr_u0_1 E_b0_5 F_b0_5_g0 g_b0_5 hr_u0_2 F_b0_5_g1 hr_u0_3 F_b0_5_g2 hr_u0_4 F_b0_5_g3 F_b0_5_shifted) hZ (hw _ (List.mem_of_getElem? (i := 18) rfl)) (hw _ (List.mem_of_getElem? (i := 15) rfl)) (by decide) (by decide)) (g := (mkF m 52 #[iv p0, iv p1, iv p2, iv p3, iv p4, iv (1 : Int32), .val u0_1, .val u0_2, .val u0_3, .val u0_4, iv (0 : Int32), .unset, .unset, .unset] [(.int (0 : Int32)), u0_4, u0_3, u0_2, u0_1, (.ref b0_5), (.ref b0_5)])) rfl (by rw [hml]; rfl) (Steps.refl _) (a := b0_5) (argsL := [u0_1, u0_2, u0_3, u0_4, (.int (0 : Int32))]) (rest := [(.ref b0_5)]) (lenOf pd_2 rfl) rfl (by show 2 * 0 + _ ≤ _; exact Nat.le_of_eq rfl) (hb hby at_52) (fun _ _ => ⟨rfl, e5, (by decide : 1 + 0 ≤ _), (by decide : 5 + 0 ≤ _)⟩)
  dsimp only [Pt.U, Pt.locs, Pt.cells, Pt.slots] at X6 l6 y6 z6 st6 hQ6
  subst l6 y6 z6
  obtain ⟨rfl, N6q, K6, fq6_0, fq6_1, fq6_2, fq6_3, fq6_4, fq6_5⟩ := hQ6
  have KK6 : Keep h0 T6.heap [] := KK5.trans K6 (allS (P := fun x => x ∈ [] ∨ h0.size ≤ x) (Or.inr sz_b0_5) all0)
  have Z6 : n0 ≤ T6.heap.size := Nat.le_trans Z5 K6.1
  have N6 := Fr.app N4 N6q
  obtain ⟨cq7, kq7, q7a, q7b, q7c⟩ := isOf hZ rfl fq6_5
  obtain ⟨_, _, ⟨T7, L7, k7, n7⟩, -, X7, ⟨Lc7, hQ7, l7, y7, z7⟩, st7⟩ := X6.virtualBack hx (y := (⟨"com/example/pipewright/pipewright/io/Iso2022Layout$State", "get", "(I)Lcom/example/pipewright/pipewright/io/Iso2022Layout$GraphicSet;"⟩ : MethodName)) (z := (⟨"com/example/pipewright/pipewright/io/Iso2022Layout$State", "get", "(I)Lcom/example/pipewright/pipewright/io/Iso2022Layout$GraphicSet;"⟩ : MethodName)) hown (mvT hZ (hw _ (List.mem_of_getElem? (i := 37) rfl))) (mvT hZ (hw _ (List.mem_of_getElem? (i := 38) rfl))) (notFace_of_selects (args := #[]) (mvT hZ (hw _ (List.mem_of_getElem? (i := 40) rfl)))) (mvT hZ (hw _ (List.mem_of_getElem? (i := 40) rfl))) (mvT hZ (hw _ (List.mem_of_getElem? (i := 39) rfl))) (by decide) (backOf (W := 0) (rm5_3 l Z a0 hw [] u0_2 b0_5 T6.heap n0 Z6 fq6_1 hr_u0_2) hZ (hw _ (List.mem_of_getElem? (i := 41) rfl)) (hw _ (List.mem_of_getElem? (i := 15) rfl)) (by decide) (by decide)) q7a q7c (g := (mkF m 61 #[iv p0, iv p1, iv p2, iv p3, iv p4, iv (1 : Int32), .val u0_1, .val u0_2, .val u0_3, .val u0_4, iv (0 : Int32), rv b0_5, .unset, .unset] [(.int (1 : Int32)), (.ref b0_5)])) rfl (by rw [hml]; rfl) (Steps.refl _) (argsL := [(.int (1 : Int32))]) (rest := []) (lenOf pd_0 rfl) rfl (by show 2 * 0 + _ ≤ _; exact Nat.le_of_eq rfl) (hb hby at_61) (fun _ _ => ⟨rfl, rfl, (by decide : 1 + 0 ≤ _), (by decide : 5 + 0 ≤ _)⟩)
  dsimp only [Pt.U, Pt.locs, Pt.cells, Pt.slots] at X7 l7 y7 z7 st7 hQ7
  subst l7 y7 z7
  obtain ⟨rfl, N7q, e7⟩ := hQ7
  have N7 := Fr.app N6 N7q
  obtain ⟨fs, hr, hrun, hended, hW, hsame⟩ := X7.leave (v := (some (.int (1 : Int32)))) (fun h => by rw [Bd.returns] at h; cases h)
  refine ⟨_, _, pre0 _ ?_, hrun, hended, _, _, rfl, ?_, ⟨_, rfl⟩, hW, hsame.mono (by decide) (by decide)⟩
  · show Steps p.tables e below (s₁.setTop (mkF m 0 #[iv p0, iv p1, iv p2, iv p3, iv p4, iv (1 : Int32), .unset, .unset, .unset, .unset, .unset, .unset, .unset, .unset] [])) _
    refine XS.iloadN X0.here hx rfl (hb hby at_0) rfl ?_
    show Steps p.tables e below (s₁.setTop (mkF m 1 #[iv p0, iv p1, iv p2, iv p3, iv p4, iv (1 : Int32), .unset, .unset, .unset, .unset, .unset, .unset, .unset, .unset] [(.int p0)])) _
    refine st1 _ ?_
    show Steps p.tables e below (T1.setTop (mkF m 4 #[iv p0, iv p1, iv p2, iv p3, iv p4, iv (1 : Int32), .unset, .unset, .unset, .unset, .unset, .unset, .unset, .unset] [u0_1])) _
    refine XS.astore X1.here hx rfl (hb hby at_4) rfl hr_u0_1 (l' := #[iv p0, iv p1, iv p2, iv p3, iv p4, iv (1 : Int32), .val u0_1, .unset, .unset, .unset, .unset, .unset, .unset, .unset]) (by rcases ref_cases hr_u0_1 with q | ⟨_, q⟩ <;> (subst q; rfl)) ?_
    show Steps p.tables e below (T1.setTop (mkF m 6 #[iv p0, iv p1, iv p2, iv p3, iv p4, iv (1 : Int32), .val u0_1, .unset, .unset, .unset, .unset, .unset, .unset, .unset] [])) _
    refine XS.iloadN X1.here hx rfl (hb hby at_6) rfl ?_
    show Steps p.tables e below (T1.setTop (mkF m 7 #[iv p0, iv p1, iv p2, iv p3, iv p4, iv (1 : Int32), .val u0_1, .unset, .unset, .unset, .unset, .unset, .unset, .unset] [(.int p1)])) _
    refine st2 _ ?_
    show Steps p.tables e below (T2.setTop (mkF m 10 #[iv p0, iv p1, iv p2, iv p3, iv p4, iv (1 : Int32), .val u0_1, .unset, .unset, .unset, .unset, .unset, .unset, .unset] [u0_2])) _
    refine XS.astore X2.here hx rfl (hb hby at_10) rfl hr_u0_2 (l' := #[iv p0, iv p1, iv p2, iv p3, iv p4, iv (1 : Int32), .val u0_1, .val u0_2, .unset, .unset, .unset, .unset, .unset, .unset]) (by rcases ref_cases hr_u0_2 with q | ⟨_, q⟩ <;> (subst q; rfl)) ?_
    show Steps p.tables e below (T2.setTop (mkF m 12 #[iv p0, iv p1, iv p2, iv p3, iv p4, iv (1 : Int32), .val u0_1, .val u0_2, .unset, .unset, .unset, .unset, .unset, .unset] [])) _
    refine XS.iloadN X2.here hx rfl (hb hby at_12) rfl ?_
    show Steps p.tables e below (T2.setTop (mkF m 13 #[iv p0, iv p1, iv p2, iv p3, iv p4, iv (1 : Int32), .val u0_1, .val u0_2, .unset, .unset, .unset, .unset, .unset, .unset] [(.int p2)])) _
    refine st3 _ ?_
    show Steps p.tables e below (T3.setTop (mkF m 16 #[iv p0, iv p1, iv p2, iv p3, iv p4, iv (1 : Int32), .val u0_1, .val u0_2, .unset, .unset, .unset, .unset, .unset, .unset] [u0_3])) _
    refine XS.astore X3.here hx rfl (hb hby at_16) rfl hr_u0_3 (l' := #[iv p0, iv p1, iv p2, iv p3, iv p4, iv (1 : Int32), .val u0_1, .val u0_2, .val u0_3, .unset, .unset, .unset, .unset, .unset]) (by rcases ref_cases hr_u0_3 with q | ⟨_, q⟩ <;> (subst q; rfl)) ?_
    show Steps p.tables e below (T3.setTop (mkF m 18 #[iv p0, iv p1, iv p2, iv p3, iv p4, iv (1 : Int32), .val u0_1, .val u0_2, .val u0_3, .unset, .unset, .unset, .unset, .unset] [])) _
    refine XS.iloadN X3.here hx rfl (hb hby at_18) rfl ?_
    show Steps p.tables e below (T3.setTop (mkF m 19 #[iv p0, iv p1, iv p2, iv p3, iv p4, iv (1 : Int32), .val u0_1, .val u0_2, .val u0_3, .unset, .unset, .unset, .unset, .unset] [(.int p3)])) _
    refine st4 _ ?_
    show Steps p.tables e below (T4.setTop (mkF m 22 #[iv p0, iv p1, iv p2, iv p3, iv p4, iv (1 : Int32), .val u0_1, .val u0_2, .val u0_3, .unset, .unset, .unset, .unset, .unset] [u0_4])) _
    refine XS.astore X4.here hx rfl (hb hby at_22) rfl hr_u0_4 (l' := #[iv p0, iv p1, iv p2, iv p3, iv p4, iv (1 : Int32), .val u0_1, .val u0_2, .val u0_3, .val u0_4, .unset, .unset, .unset, .unset]) (by rcases ref_cases hr_u0_4 with q | ⟨_, q⟩ <;> (subst q; rfl)) ?_
    show Steps p.tables e below (T4.setTop (mkF m 24 #[iv p0, iv p1, iv p2, iv p3, iv p4, iv (1 : Int32), .val u0_1, .val u0_2, .val u0_3, .val u0_4, .unset, .unset, .unset, .unset] [])) _
    refine XS.iload X4.here hx rfl (hb hby at_24) rfl ?_
    show Steps p.tables e below (T4.setTop (mkF m 26 #[iv p0, iv p1, iv p2, iv p3, iv p4, iv (1 : Int32), .val u0_1, .val u0_2, .val u0_3, .val u0_4, .unset, .unset, .unset, .unset] [(.int p4)])) _
    refine XS.iconst X4.here hx rfl (hb hby at_26) ?_
    show Steps p.tables e below (T4.setTop (mkF m 27 #[iv p0, iv p1, iv p2, iv p3, iv p4, iv (1 : Int32), .val u0_1, .val u0_2, .val u0_3, .val u0_4, .unset, .unset, .unset, .unset] [(.int (1 : Int32)), (.int p4)])) _
    refine XS.iand X4.here hx rfl (hb hby at_27) rfl ?_
    show Steps p.tables e below (T4.setTop (mkF m 28 #[iv p0, iv p1, iv p2, iv p3, iv p4, iv (1 : Int32), .val u0_1, .val u0_2, .val u0_3, .val u0_4, .unset, .unset, .unset, .unset] [(.int (p4 &&& (1 : Int32)))])) _
    rewrite [h4]
    show Steps p.tables e below (T4.setTop (mkF m 28 #[iv p0, iv p1, iv p2, iv p3, iv p4, iv (1 : Int32), .val u0_1, .val u0_2, .val u0_3, .val u0_4, .unset, .unset, .unset, .unset] [(.int (0 : Int32))])) _
    refine XS.ifYes X4.here hx rfl (pc0 := 28) (pc' := 35) rfl (hb hby at_28) rfl ((if0 _ _).trans (teq (by decide +kernel : (0 : Int32) = (0 : Int32))).1) (by decide) (by decide) ?_
    show Steps p.tables e below (T4.setTop (mkF m 35 #[iv p0, iv p1, iv p2, iv p3, iv p4, iv (1 : Int32), .val u0_1, .val u0_2, .val u0_3, .val u0_4, .unset, .unset, .unset, .unset] [])) _
    refine XS.iconst X4.here hx rfl (hb hby at_35) ?_
    show Steps p.tables e below (T4.setTop (mkF m 36 #[iv p0, iv p1, iv p2, iv p3, iv p4, iv (1 : Int32), .val u0_1, .val u0_2, .val u0_3, .val u0_4, .unset, .unset, .unset, .unset] [(.int (0 : Int32))])) _
    refine XS.istore X4.here hx rfl (hb hby at_36) rfl (l' := #[iv p0, iv p1, iv p2, iv p3, iv p4, iv (1 : Int32), .val u0_1, .val u0_2, .val u0_3, .val u0_4, iv (0 : Int32), .unset, .unset, .unset]) rfl ?_
    show Steps p.tables e below (T4.setTop (mkF m 38 #[iv p0, iv p1, iv p2, iv p3, iv p4, iv (1 : Int32), .val u0_1, .val u0_2, .val u0_3, .val u0_4, iv (0 : Int32), .unset, .unset, .unset] [])) _
    refine st5 _ ?_
    show Steps p.tables e below (T5.setTop (mkF m 41 #[iv p0, iv p1, iv p2, iv p3, iv p4, iv (1 : Int32), .val u0_1, .val u0_2, .val u0_3, .val u0_4, iv (0 : Int32), .unset, .unset, .unset] [(.ref b0_5)])) _
    refine XS.dup X5.here hx rfl (hb hby at_41) rfl rfl ?_
    show Steps p.tables e below (T5.setTop (mkF m 42 #[iv p0, iv p1, iv p2, iv p3, iv p4, iv (1 : Int32), .val u0_1, .val u0_2, .val u0_3, .val u0_4, iv (0 : Int32), .unset, .unset, .unset] [(.ref b0_5), (.ref b0_5)])) _
    refine XS.aload X5.here hx rfl (hb hby at_42) rfl hr_u0_1 ?_
    show Steps p.tables e below (T5.setTop (mkF m 44 #[iv p0, iv p1, iv p2, iv p3, iv p4, iv (1 : Int32), .val u0_1, .val u0_2, .val u0_3, .val u0_4, iv (0 : Int32), .unset, .unset, .unset] [u0_1, (.ref b0_5), (.ref b0_5)])) _
    refine XS.aload X5.here hx rfl (hb hby at_44) rfl hr_u0_2 ?_
    show Steps p.tables e below (T5.setTop (mkF m 46 #[iv p0, iv p1, iv p2, iv p3, iv p4, iv (1 : Int32), .val u0_1, .val u0_2, .val u0_3, .val u0_4, iv (0 : Int32), .unset, .unset, .unset] [u0_2, u0_1, (.ref b0_5), (.ref b0_5)])) _
    refine XS.aload X5.here hx rfl (hb hby at_46) rfl hr_u0_3 ?_
    show Steps p.tables e below (T5.setTop (mkF m 48 #[iv p0, iv p1, iv p2, iv p3, iv p4, iv (1 : Int32), .val u0_1, .val u0_2, .val u0_3, .val u0_4, iv (0 : Int32), .unset, .unset, .unset] [u0_3, u0_2, u0_1, (.ref b0_5), (.ref b0_5)])) _
    refine XS.aload X5.here hx rfl (hb hby at_48) rfl hr_u0_4 ?_
    show Steps p.tables e below (T5.setTop (mkF m 50 #[iv p0, iv p1, iv p2, iv p3, iv p4, iv (1 : Int32), .val u0_1, .val u0_2, .val u0_3, .val u0_4, iv (0 : Int32), .unset, .unset, .unset] [u0_4, u0_3, u0_2, u0_1, (.ref b0_5), (.ref b0_5)])) _
    refine XS.iload X5.here hx rfl (hb hby at_50) rfl ?_
    show Steps p.tables e below (T5.setTop (mkF m 52 #[iv p0, iv p1, iv p2, iv p3, iv p4, iv (1 : Int32), .val u0_1, .val u0_2, .val u0_3, .val u0_4, iv (0 : Int32), .unset, .unset, .unset] [(.int (0 : Int32)), u0_4, u0_3, u0_2, u0_1, (.ref b0_5), (.ref b0_5)])) _
    refine st6.trans ?_
    show Steps p.tables e below (T6.setTop (mkF m 55 #[iv p0, iv p1, iv p2, iv p3, iv p4, iv (1 : Int32), .val u0_1, .val u0_2, .val u0_3, .val u0_4, iv (0 : Int32), .unset, .unset, .unset] [(.ref b0_5)])) _
    refine XS.astore X6.here hx rfl (hb hby at_55) rfl rfl (l' := #[iv p0, iv p1, iv p2, iv p3, iv p4, iv (1 : Int32), .val u0_1, .val u0_2, .val u0_3, .val u0_4, iv (0 : Int32), rv b0_5, .unset, .unset]) rfl ?_
    show Steps p.tables e below (T6.setTop (mkF m 57 #[iv p0, iv p1, iv p2, iv p3, iv p4, iv (1 : Int32), .val u0_1, .val u0_2, .val u0_3, .val u0_4, iv (0 : Int32), rv b0_5, .unset, .unset] [])) _
    refine XS.aload X6.here hx rfl (hb hby at_57) rfl rfl ?_
    show Steps p.tables e below (T6.setTop (mkF m 59 #[iv p0, iv p1, iv p2, iv p3, iv p4, iv (1 : Int32), .val u0_1, .val u0_2, .val u0_3, .val u0_4, iv (0 : Int32), rv b0_5, .unset, .unset] [(.ref b0_5)])) _
    refine XS.iload X6.here hx rfl (hb hby at_59) rfl ?_
    show Steps p.tables e below (T6.setTop (mkF m 61 #[iv p0, iv p1, iv p2, iv p3, iv p4, iv (1 : Int32), .val u0_1, .val u0_2, .val u0_3, .val u0_4, iv (0 : Int32), rv b0_5, .unset, .unset] [(.int (1 : Int32)), (.ref b0_5)])) _
    refine st7.trans ?_
    show Steps p.tables e below (T7.setTop (mkF m 64 #[iv p0, iv p1, iv p2, iv p3, iv p4, iv (1 : Int32), .val u0_1, .val u0_2, .val u0_3, .val u0_4, iv (0 : Int32), rv b0_5, .unset, .unset] [u0_2])) _
    refine XS.astore X7.here hx rfl (hb hby at_64) rfl hr_u0_2 (l' := #[iv p0, iv p1, iv p2, iv p3, iv p4, iv (1 : Int32), .val u0_1, .val u0_2, .val u0_3, .val u0_4, iv (0 : Int32), rv b0_5, .val u0_2, .unset]) (by rcases ref_cases hr_u0_2 with q | ⟨_, q⟩ <;> (subst q; rfl)) ?_
    show Steps p.tables e below (T7.setTop (mkF m 66 #[iv p0, iv p1, iv p2, iv p3, iv p4, iv (1 : Int32), .val u0_1, .val u0_2, .val u0_3, .val u0_4, iv (0 : Int32), rv b0_5, .val u0_2, .unset] [])) _
    refine XS.iload X7.here hx rfl (hb hby at_66) rfl ?_
    show Steps p.tables e below (T7.setTop (mkF m 68 #[iv p0, iv p1, iv p2, iv p3, iv p4, iv (1 : Int32), .val u0_1, .val u0_2, .val u0_3, .val u0_4, iv (0 : Int32), rv b0_5, .val u0_2, .unset] [(.int (1 : Int32))])) _
    refine XS.ifYes X7.here hx rfl (pc0 := 68) (pc' := 78) rfl (hb hby at_68) rfl ((if0 _ _).trans (feq (by decide +kernel : ¬ ((1 : Int32) = (0 : Int32)))).2) (by decide) (by decide) ?_
    show Steps p.tables e below (T7.setTop (mkF m 78 #[iv p0, iv p1, iv p2, iv p3, iv p4, iv (1 : Int32), .val u0_1, .val u0_2, .val u0_3, .val u0_4, iv (0 : Int32), rv b0_5, .val u0_2, .unset] [])) _
    refine XS.iload X7.here hx rfl (hb hby at_78) rfl ?_
    show Steps p.tables e below (T7.setTop (mkF m 80 #[iv p0, iv p1, iv p2, iv p3, iv p4, iv (1 : Int32), .val u0_1, .val u0_2, .val u0_3, .val u0_4, iv (0 : Int32), rv b0_5, .val u0_2, .unset] [(.int (1 : Int32))])) _
    refine XS.iconst X7.here hx rfl (hb hby at_80) ?_
    show Steps p.tables e below (T7.setTop (mkF m 81 #[iv p0, iv p1, iv p2, iv p3, iv p4, iv (1 : Int32), .val u0_1, .val u0_2, .val u0_3, .val u0_4, iv (0 : Int32), rv b0_5, .val u0_2, .unset] [(.int (1 : Int32)), (.int (1 : Int32))])) _
    refine XS.icmpNo X7.here hx rfl (hb hby at_81) rfl (teq (by decide +kernel : (1 : Int32) = (1 : Int32))).2 ?_
    show Steps p.tables e below (T7.setTop (mkF m 84 #[iv p0, iv p1, iv p2, iv p3, iv p4, iv (1 : Int32), .val u0_1, .val u0_2, .val u0_3, .val u0_4, iv (0 : Int32), rv b0_5, .val u0_2, .unset] [])) _
    refine XS.aload X7.here hx rfl (hb hby at_84) rfl hr_u0_2 ?_
    show Steps p.tables e below (T7.setTop (mkF m 86 #[iv p0, iv p1, iv p2, iv p3, iv p4, iv (1 : Int32), .val u0_1, .val u0_2, .val u0_3, .val u0_4, iv (0 : Int32), rv b0_5, .val u0_2, .unset] [u0_2])) _
    refine XS.astore X7.here hx rfl (hb hby at_86) rfl hr_u0_2 (l' := #[iv p0, iv p1, iv p2, iv p3, iv p4, iv (1 : Int32), .val u0_1, .val u0_2, .val u0_3, .val u0_4, iv (0 : Int32), rv b0_5, .val u0_2, .val u0_2]) (by rcases ref_cases hr_u0_2 with q | ⟨_, q⟩ <;> (subst q; rfl)) ?_
    show Steps p.tables e below (T7.setTop (mkF m 88 #[iv p0, iv p1, iv p2, iv p3, iv p4, iv (1 : Int32), .val u0_1, .val u0_2, .val u0_3, .val u0_4, iv (0 : Int32), rv b0_5, .val u0_2, .val u0_2] [])) _
    refine XS.goto X7.here hx rfl (pc0 := 88) (pc' := 108) rfl (hb hby at_88) (by decide) (by decide) ?_
    show Steps p.tables e below (T7.setTop (mkF m 108 #[iv p0, iv p1, iv p2, iv p3, iv p4, iv (1 : Int32), .val u0_1, .val u0_2, .val u0_3, .val u0_4, iv (0 : Int32), rv b0_5, .val u0_2, .val u0_2] [])) _
    refine XS.aload X7.here hx rfl (hb hby at_108) rfl hr_u0_2 ?_
    show Steps p.tables e below (T7.setTop (mkF m 110 #[iv p0, iv p1, iv p2, iv p3, iv p4, iv (1 : Int32), .val u0_1, .val u0_2, .val u0_3, .val u0_4, iv (0 : Int32), rv b0_5, .val u0_2, .val u0_2] [u0_2])) _
    refine XS.aload X7.here hx rfl (hb hby at_110) rfl hr_u0_2 ?_
    show Steps p.tables e below (T7.setTop (mkF m 112 #[iv p0, iv p1, iv p2, iv p3, iv p4, iv (1 : Int32), .val u0_1, .val u0_2, .val u0_3, .val u0_4, iv (0 : Int32), rv b0_5, .val u0_2, .val u0_2] [u0_2, u0_2])) _
    refine Jvm.RoadKit.acmp (g := (mkF m 112 #[iv p0, iv p1, iv p2, iv p3, iv p4, iv (1 : Int32), .val u0_1, .val u0_2, .val u0_3, .val u0_4, iv (0 : Int32), rv b0_5, .val u0_2, .val u0_2] [u0_2, u0_2])) X7 hx rfl hr_u0_2 hr_u0_2 (pc0 := 112) (pc' := 115) (same := true) rfl (hb hby at_112) rfl (decide_eq_true rfl) (by decide) (by decide) ?_
    show Steps p.tables e below (T7.setTop (mkF m 115 #[iv p0, iv p1, iv p2, iv p3, iv p4, iv (1 : Int32), .val u0_1, .val u0_2, .val u0_3, .val u0_4, iv (0 : Int32), rv b0_5, .val u0_2, .val u0_2] [])) _
    refine XS.iconst X7.here hx rfl (hb hby at_115) ?_
    show Steps p.tables e below (T7.setTop (mkF m 116 #[iv p0, iv p1, iv p2, iv p3, iv p4, iv (1 : Int32), .val u0_1, .val u0_2, .val u0_3, .val u0_4, iv (0 : Int32), rv b0_5, .val u0_2, .val u0_2] [(.int (1 : Int32))])) _
    refine XS.goto X7.here hx rfl (pc0 := 116) (pc' := 120) rfl (hb hby at_116) (by decide) (by decide) ?_
    show Steps p.tables e below (T7.setTop (mkF m 120 #[iv p0, iv p1, iv p2, iv p3, iv p4, iv (1 : Int32), .val u0_1, .val u0_2, .val u0_3, .val u0_4, iv (0 : Int32), rv b0_5, .val u0_2, .val u0_2] [(.int (1 : Int32))])) _
    exact retN X7 hx (t := .boolean) Bd.returns (by simp) (hb hby at_120) hr
  · exact ⟨rfl, N7⟩
set_option maxRecDepth 65536 in
set_option maxHeartbeats 40000000 in
theorem rm5_4 (l : Launch) (Z : State) (a0 : Array Value) (hw : ∀ d ∈ tables_1, d.before a0 Z = true) (ws : List Jvm.Cond) (u0_3 : Value) (b0_5 : Addr) (h0 : Heap) (n0 : Nat) (Z0 : n0 ≤ h0.size) (F_b0_5_g2 : Fld Z h0 b0_5 "com/example/pipewright/pipewright/io/Iso2022Layout$State" "g2" "Lcom/example/pipewright/pipewright/io/Iso2022Layout$GraphicSet;" u0_3) (hr_u0_3 : u0_3.isRef = true) :
    MetFree l (⟨"com/example/pipewright/pipewright/io/Iso2022Layout$State", "get", "(I)Lcom/example/pipewright/pipewright/io/Iso2022Layout$GraphicSet;"⟩ : MethodName) (head1 (Jvm.Cond.code (⟨"com/example/pipewright/pipewright/io/Iso2022Layout$State", "get", "(I)Lcom/example/pipewright/pipewright/io/Iso2022Layout$GraphicSet;"⟩ : MethodName) prog_25_method_3_code 2 (some (.object "com/example/pipewright/pipewright/io/Iso2022Layout$GraphicSet")) :: ws) ({ frames := 0, cells := 0, slots := 0, locals := 0 } : Room)) (fun a U => a = #[(.ref b0_5), (.int (2 : Int32))] ∧ Z.Warmed39 U.vm ∧ U.heap = h0) (fun _ _ _ _ _ => True) (fun _ U o U' => ∃ v L, o = .returned v ∧ own_QP (some u0_3) h0 n0 v U'.heap L ∧ FrameEnd U o U' L ({ frames := 0, cells := 0, slots := 0, locals := 0 } : Room).cells ({ frames := 0, cells := 0, slots := 0, locals := 0 } : Room).slots) := by
  refine MetFree.of_bodySF (plainFor_of_name pn_2) hisR ?_
  intro p e s m args below meth c s₁ Bd hml0 hP hK
  obtain ⟨rfl, hZ, hh⟩ := hP
  have hx := Bd.exec
  have hby := Bd.bytes
  have hml : c.maxLocals = 2 := hml0
  have hown : s.vm.findClass "com/example/pipewright/pipewright/io/Iso2022Layout$State" = some m.cls := findClass_of_methodNamed Bd.named
  have hnm := (name_of_methodNamed Bd.named Bd.method).1
  have X0 : Stand p l e ({ frames := 0, cells := 0, slots := 0, locals := 0 } : Room) s m #[(.ref b0_5), (.int (2 : Int32))] below meth c s₁ [] 0 0 := Stand.of_body Bd
  have e0 : s₁.heap = h0 := by rw [← hh, Bd.state]; rfl
  have N0 := Fr.nil n0
  have pre0 : ∀ t, Steps p.tables e below (s₁.setTop (mkF m 0 #[rv b0_5, iv (2 : Int32)] [])) t → Steps p.tables e below (s₁.setTop (entryFrame m #[(.ref b0_5), (.int (2 : Int32))] 2)) t := fun t k => castTop (ef_5_RI m b0_5 (2 : Int32)) k
  obtain ⟨T1, X1, e1, st1⟩ := getF X0 hx hZ hown (host := "") (Or.inl (hw _ (List.mem_of_getElem? (i := 31) rfl))) Via.refl e0 F_b0_5_g2 (g := (mkF m 43 #[rv b0_5, iv (2 : Int32)] [(.ref b0_5)])) rfl rfl (hb hby d5_43)
  obtain ⟨fs, hr, hrun, hended, hW, hsame⟩ := X1.leave (v := (some u0_3)) (fun h => by rw [Bd.returns] at h; cases h)
  refine ⟨_, _, pre0 _ ?_, hrun, hended, _, _, rfl, ?_, ⟨_, rfl⟩, hW, hsame.mono (by decide) (by decide)⟩
  · show Steps p.tables e below (s₁.setTop (mkF m 0 #[rv b0_5, iv (2 : Int32)] [])) _
    refine XS.iloadN X0.here hx rfl (hb hby d5_0) rfl ?_
    show Steps p.tables e below (s₁.setTop (mkF m 1 #[rv b0_5, iv (2 : Int32)] [(.int (2 : Int32))])) _
    refine XS.tswIn X0.here hx rfl (o := 41) (pc0 := 1) (pc' := 42) rfl (hb hby d5_1) rfl (by decide) (by decide) (by decide) (by decide) ?_
    show Steps p.tables e below (s₁.setTop (mkF m 42 #[rv b0_5, iv (2 : Int32)] [])) _
    refine XS.aloadN X0.here hx rfl (hb hby d5_42) rfl rfl ?_
    show Steps p.tables e below (s₁.setTop (mkF m 43 #[rv b0_5, iv (2 : Int32)] [(.ref b0_5)])) _
    refine st1 _ ?_
    show Steps p.tables e below (T1.setTop (mkF m 46 #[rv b0_5, iv (2 : Int32)] [u0_3])) _
    refine XS.goto X1.here hx rfl (pc0 := 46) (pc' := 53) rfl (hb hby d5_46) (by decide) (by decide) ?_
    show Steps p.tables e below (T1.setTop (mkF m 53 #[rv b0_5, iv (2 : Int32)] [u0_3])) _
    exact own_retA X1 hx Bd.returns rfl hr_u0_3 (hb hby d5_53) hr
  · exact ⟨rfl, N0, e1⟩
set_option maxRecDepth 65536 in
set_option maxHeartbeats 40000000 in
theorem rm0_2 (l : Launch) (Z : State) (a0 : Array Value) (hw : ∀ d ∈ tables_1, d.before a0 Z = true) (ws : List Jvm.Cond) (p0 : Int32) (p1 : Int32) (p2 : Int32) (p3 : Int32) (p4 : Int32) (w_GraphicSet_ASCII : Addr) (w_GraphicSet_UNREAD_ONE_BYTE : Addr) (w_GraphicSet_JIS_X_0201_KATAKANA : Addr) (w_GraphicSet_JIS_X_0201_ROMAN : Addr) (w_GraphicSet_JIS_X_0208 : Addr) (w_GraphicSet_CNS_11643_3 : Addr) (w_GraphicSet_UNREAD_TWO_BYTES : Addr) (w_GraphicSet_KS_X_1001 : Addr) (w_GraphicSet_CNS_11643_6 : Addr) (w_GraphicSet_CNS_11643_2 : Addr) (w_GraphicSet_CNS_11643_5 : Addr) (w_GraphicSet_CNS_11643_1 : Addr) (w_GraphicSet_CNS_11643_4 : Addr) (w_GraphicSet_JIS_X_0212 : Addr) (w_GraphicSet_GB_2312 : Addr) (w_GraphicSet_CNS_11643_7 : Addr) (h0 : Heap) (n0 : Nat) (Z0 : n0 ≤ h0.size) (S_GraphicSet_ASCII : Sta Z h0 "com/example/pipewright/pipewright/io/Iso2022Layout$GraphicSet" "ASCII" "Lcom/example/pipewright/pipewright/io/Iso2022Layout$GraphicSet;" (.ref w_GraphicSet_ASCII)) (S_GraphicSet_JIS_X_0201_ROMAN : Sta Z h0 "com/example/pipewright/pipewright/io/Iso2022Layout$GraphicSet" "JIS_X_0201_ROMAN" "Lcom/example/pipewright/pipewright/io/Iso2022Layout$GraphicSet;" (.ref w_GraphicSet_JIS_X_0201_ROMAN)) (S_GraphicSet_JIS_X_0201_KATAKANA : Sta Z h0 "com/example/pipewright/pipewright/io/Iso2022Layout$GraphicSet" "JIS_X_0201_KATAKANA" "Lcom/example/pipewright/pipewright/io/Iso2022Layout$GraphicSet;" (.ref w_GraphicSet_JIS_X_0201_KATAKANA)) (S_GraphicSet_UNREAD_ONE_BYTE : Sta Z h0 "com/example/pipewright/pipewright/io/Iso2022Layout$GraphicSet" "UNREAD_ONE_BYTE" "Lcom/example/pipewright/pipewright/io/Iso2022Layout$GraphicSet;" (.ref w_GraphicSet_UNREAD_ONE_BYTE)) (S_GraphicSet_JIS_X_0208 : Sta Z h0 "com/example/pipewright/pipewright/io/Iso2022Layout$GraphicSet" "JIS_X_0208" "Lcom/example/pipewright/pipewright/io/Iso2022Layout$GraphicSet;" (.ref w_GraphicSet_JIS_X_0208)) (S_GraphicSet_JIS_X_0212 : Sta Z h0 "com/example/pipewright/pipewright/io/Iso2022Layout$GraphicSet" "JIS_X_0212" "Lcom/example/pipewright/pipewright/io/Iso2022Layout$GraphicSet;" (.ref w_GraphicSet_JIS_X_0212)) (S_GraphicSet_GB_2312 : Sta Z h0 "com/example/pipewright/pipewright/io/Iso2022Layout$GraphicSet" "GB_2312" "Lcom/example/pipewright/pipewright/io/Iso2022Layout$GraphicSet;" (.ref w_GraphicSet_GB_2312)) (S_GraphicSet_KS_X_1001 : Sta Z h0 "com/example/pipewright/pipewright/io/Iso2022Layout$GraphicSet" "KS_X_1001" "Lcom/example/pipewright/pipewright/io/Iso2022Layout$GraphicSet;" (.ref w_GraphicSet_KS_X_1001)) (S_GraphicSet_CNS_11643_1 : Sta Z h0 "com/example/pipewright/pipewright/io/Iso2022Layout$GraphicSet" "CNS_11643_1" "Lcom/example/pipewright/pipewright/io/Iso2022Layout$GraphicSet;" (.ref w_GraphicSet_CNS_11643_1)) (S_GraphicSet_CNS_11643_2 : Sta Z h0 "com/example/pipewright/pipewright/io/Iso2022Layout$GraphicSet" "CNS_11643_2" "Lcom/example/pipewright/pipewright/io/Iso2022Layout$GraphicSet;" (.ref w_GraphicSet_CNS_11643_2)) (S_GraphicSet_CNS_11643_3 : Sta Z h0 "com/example/pipewright/pipewright/io/Iso2022Layout$GraphicSet" "CNS_11643_3" "Lcom/example/pipewright/pipewright/io/Iso2022Layout$GraphicSet;" (.ref w_GraphicSet_CNS_11643_3)) (S_GraphicSet_CNS_11643_4 : Sta Z h0 "com/example/pipewright/pipewright/io/Iso2022Layout$GraphicSet" "CNS_11643_4" "Lcom/example/pipewright/pipewright/io/Iso2022Layout$GraphicSet;" (.ref w_GraphicSet_CNS_11643_4)) (S_GraphicSet_CNS_11643_5 : Sta Z h0 "com/example/pipewright/pipewright/io/Iso2022Layout$GraphicSet" "CNS_11643_5" "Lcom/example/pipewright/pipewright/io/Iso2022Layout$GraphicSet;" (.ref w_GraphicSet_CNS_11643_5)) (S_GraphicSet_CNS_11643_6 : Sta Z h0 "com/example/pipewright/pipewright/io/Iso2022Layout$GraphicSet" "CNS_11643_6" "Lcom/example/pipewright/pipewright/io/Iso2022Layout$GraphicSet;" (.ref w_GraphicSet_CNS_11643_6)) (S_GraphicSet_CNS_11643_7 : Sta Z h0 "com/example/pipewright/pipewright/io/Iso2022Layout$GraphicSet" "CNS_11643_7" "Lcom/example/pipewright/pipewright/io/Iso2022Layout$GraphicSet;" (.ref w_GraphicSet_CNS_11643_7)) (S_GraphicSet_UNREAD_TWO_BYTES : Sta Z h0 "com/example/pipewright/pipewright/io/Iso2022Layout$GraphicSet" "UNREAD_TWO_BYTES" "Lcom/example/pipewright/pipewright/io/Iso2022Layout$GraphicSet;" (.ref w_GraphicSet_UNREAD_TWO_BYTES)) (h4 : (p4 &&& (1 : Int32)) = (0 : Int32)) :
    MetFree l x (head1 (Jvm.Cond.code x code maxLocals ret :: ws) room_1) (fun a U => a = #[(.int p0), (.int p1), (.int p2), (.int p3), (.int p4), (.int (2 : Int32))] ∧ Z.Warmed39 U.vm ∧ U.heap = h0) (fun _ _ _ _ _ => True) (fun _ U o U' => ∃ v L, o = .returned v ∧ own_QL n0 v U'.heap L ∧ FrameEnd U o U' L room_1.cells room_1.slots) := by
  refine MetFree.of_bodySF (plainFor_of_name pn_0) hisR ?_
  intro p e s m args below meth c s₁ Bd hml0 hP hK
  obtain ⟨rfl, hZ, hh⟩ := hP
  have hx := Bd.exec
  have hby := Bd.bytes
  have hml : c.maxLocals = 14 := hml0
  have hown : s.vm.findClass "com/example/pipewright/pipewright/io/StateGetPinLaw" = some m.cls := findClass_of_methodNamed Bd.named
  have hnm := (name_of_methodNamed Bd.named Bd.method).1
  have X0 : Stand p l e room_1 s m #[(.int p0), (.int p1), (.int p2), (.int p3), (.int p4), (.int (2 : Int32))] below meth c s₁ [] 0 0 := Stand.of_body Bd
  have e0 : s₁.heap = h0 := by rw [← hh, Bd.state]; rfl
  have N0 := Fr.nil n0
  have pre0 : ∀ t, Steps p.tables e below (s₁.setTop (mkF m 0 #[iv p0, iv p1, iv p2, iv p3, iv p4, iv (2 : Int32), .unset, .unset, .unset, .unset, .unset, .unset, .unset, .unset] [])) t → Steps p.tables e below (s₁.setTop (entryFrame m #[(.int p0), (.int p1), (.int p2), (.int p3), (.int p4), (.int (2 : Int32))] maxLocals)) t := fun t k => castTop (ef_0_IIIIII m p0 p1 p2 p3 p4 (2 : Int32)) k
  obtain ⟨_, _, ⟨T1, L1, k1, n1⟩, -, X1, ⟨Lc1, hQ1, l1, y1, z1⟩, st1⟩ := Jvm.LawKit.callS X0 hx (y := (⟨"com/example/pipewright/pipewright/io/StateGetPinLaw", "pick", "(I)Lcom/example/pipewright/pipewright/io/Iso2022Layout$GraphicSet;"⟩ : MethodName)) hown (mvT hZ (hw _ (List.mem_of_getElem? (i := 0) rfl))) (mvT hZ (hw _ (List.mem_of_getElem? (i := 1) rfl))) (mvT hZ (hw _ (List.mem_of_getElem? (i := 2) rfl))) (mvT hZ (hw _ (List.mem_of_getElem? (i := 3) rfl))) (by decide) (backOf (W := 0) (rk1 l Z a0 hw [] w_GraphicSet_ASCII w_GraphicSet_UNREAD_ONE_BYTE w_GraphicSet_JIS_X_0201_KATAKANA w_GraphicSet_JIS_X_0201_ROMAN w_GraphicSet_JIS_X_0208 w_GraphicSet_CNS_11643_3 w_GraphicSet_UNREAD_TWO_BYTES w_GraphicSet_KS_X_1001 w_GraphicSet_CNS_11643_6 w_GraphicSet_CNS_11643_2 w_GraphicSet_CNS_11643_5 w_GraphicSet_CNS_11643_1 w_GraphicSet_CNS_11643_4 w_GraphicSet_JIS_X_0212 w_GraphicSet_GB_2312 w_GraphicSet_CNS_11643_7 p0 h0 n0 Z0 S_GraphicSet_ASCII S_GraphicSet_JIS_X_0201_ROMAN S_GraphicSet_JIS_X_0201_KATAKANA S_GraphicSet_UNREAD_ONE_BYTE S_GraphicSet_JIS_X_0208 S_GraphicSet_JIS_X_0212 S_GraphicSet_GB_2312 S_GraphicSet_KS_X_1001 S_GraphicSet_CNS_11643_1 S_GraphicSet_CNS_11643_2 S_GraphicSet_CNS_11643_3 S_GraphicSet_CNS_11643_4 S_GraphicSet_CNS_11643_5 S_GraphicSet_CNS_11643_6 S_GraphicSet_CNS_11643_7 S_GraphicSet_UNREAD_TWO_BYTES) hZ (hw _ (List.mem_of_getElem? (i := 3) rfl)) (hw _ (List.mem_of_getElem? (i := 2) rfl)) (by decide) (by decide)) (g := (mkF m 1 #[iv p0, iv p1, iv p2, iv p3, iv p4, iv (2 : Int32), .unset, .unset, .unset, .unset, .unset, .unset, .unset, .unset] [(.int p0)])) rfl (by rw [hml]; rfl) (argsL := [(.int p0)]) (rest := []) (lenOf pd_0 rfl) rfl (by show 2 * 0 + _ ≤ _; exact Nat.le_of_eq rfl) (hb hby at_1) (fun _ _ => ⟨rfl, e0, (by decide : 0 + 0 ≤ _), (by decide : 0 + 0 ≤ _)⟩)
  dsimp only [Pt.U, Pt.locs, Pt.cells, Pt.slots] at X1 l1 y1 z1 st1 hQ1
  subst l1 y1 z1
  obtain ⟨u0_1, rfl, hr_u0_1, N1q, e1⟩ := hQ1
  have N1 := Fr.app N0 N1q
  obtain ⟨_, _, ⟨T2, L2, k2, n2⟩, -, X2, ⟨Lc2, hQ2, l2, y2, z2⟩, st2⟩ := Jvm.LawKit.callS X1 hx (y := (⟨"com/example/pipewright/pipewright/io/StateGetPinLaw", "pick", "(I)Lcom/example/pipewright/pipewright/io/Iso2022Layout$GraphicSet;"⟩ : MethodName)) hown (mvT hZ (hw _ (List.mem_of_getElem? (i := 0) rfl))) (mvT hZ (hw _ (List.mem_of_getElem? (i := 1) rfl))) (mvT hZ (hw _ (List.mem_of_getElem? (i := 2) rfl))) (mvT hZ (hw _ (List.mem_of_getElem? (i := 3) rfl))) (by decide) (backOf (W := 0) (rk1 l Z a0 hw [] w_GraphicSet_ASCII w_GraphicSet_UNREAD_ONE_BYTE w_GraphicSet_JIS_X_0201_KATAKANA w_GraphicSet_JIS_X_0201_ROMAN w_GraphicSet_JIS_X_0208 w_GraphicSet_CNS_11643_3 w_GraphicSet_UNREAD_TWO_BYTES w_GraphicSet_KS_X_1001 w_GraphicSet_CNS_11643_6 w_GraphicSet_CNS_11643_2 w_GraphicSet_CNS_11643_5 w_GraphicSet_CNS_11643_1 w_GraphicSet_CNS_11643_4 w_GraphicSet_JIS_X_0212 w_GraphicSet_GB_2312 w_GraphicSet_CNS_11643_7 p1 h0 n0 Z0 S_GraphicSet_ASCII S_GraphicSet_JIS_X_0201_ROMAN S_GraphicSet_JIS_X_0201_KATAKANA S_GraphicSet_UNREAD_ONE_BYTE S_GraphicSet_JIS_X_0208 S_GraphicSet_JIS_X_0212 S_GraphicSet_GB_2312 S_GraphicSet_KS_X_1001 S_GraphicSet_CNS_11643_1 S_GraphicSet_CNS_11643_2 S_GraphicSet_CNS_11643_3 S_GraphicSet_CNS_11643_4 S_GraphicSet_CNS_11643_5 S_GraphicSet_CNS_11643_6 S_GraphicSet_CNS_11643_7 S_GraphicSet_UNREAD_TWO_BYTES) hZ (hw _ (List.mem_of_getElem? (i := 3) rfl)) (hw _ (List.mem_of_getElem? (i := 2) rfl)) (by decide) (by decide)) (g := (mkF m 7 #[iv p0, iv p1, iv p2, iv p3, iv p4, iv (2 : Int32), .val u0_1, .unset, .unset, .unset, .unset, .unset, .unset, .unset] [(.int p1)])) rfl (by rw [hml]; rfl) (argsL := [(.int p1)]) (rest := []) (lenOf pd_0 rfl) rfl (by show 2 * 0 + _ ≤ _; exact Nat.le_of_eq rfl) (hb hby at_7) (fun _ _ => ⟨rfl, e1, (by decide : 0 + 0 ≤ _), (by decide : 0 + 0 ≤ _)⟩)
  dsimp only [Pt.U, Pt.locs, Pt.cells, Pt.slots] at X2 l2 y2 z2 st2 hQ2
  subst l2 y2 z2
  obtain ⟨u0_2, rfl, hr_u0_2, N2q, e2⟩ := hQ2
  have N2 := Fr.app N1 N2q
  obtain ⟨_, _, ⟨T3, L3, k3, n3⟩, -, X3, ⟨Lc3, hQ3, l3, y3, z3⟩, st3⟩ := Jvm.LawKit.callS X2 hx (y := (⟨"com/example/pipewright/pipewright/io/StateGetPinLaw", "pick", "(I)Lcom/example/pipewright/pipewright/io/Iso2022Layout$GraphicSet;"⟩ : MethodName)) hown (mvT hZ (hw _ (List.mem_of_getElem? (i := 0) rfl))) (mvT hZ (hw _ (List.mem_of_getElem? (i := 1) rfl))) (mvT hZ (hw _ (List.mem_of_getElem? (i := 2) rfl))) (mvT hZ (hw _ (List.mem_of_getElem? (i := 3) rfl))) (by decide) (backOf (W := 0) (rk1 l Z a0 hw [] w_GraphicSet_ASCII w_GraphicSet_UNREAD_ONE_BYTE w_GraphicSet_JIS_X_0201_KATAKANA w_GraphicSet_JIS_X_0201_ROMAN w_GraphicSet_JIS_X_0208 w_GraphicSet_CNS_11643_3 w_GraphicSet_UNREAD_TWO_BYTES w_GraphicSet_KS_X_1001 w_GraphicSet_CNS_11643_6 w_GraphicSet_CNS_11643_2 w_GraphicSet_CNS_11643_5 w_GraphicSet_CNS_11643_1 w_GraphicSet_CNS_11643_4 w_GraphicSet_JIS_X_0212 w_GraphicSet_GB_2312 w_GraphicSet_CNS_11643_7 p2 h0 n0 Z0 S_GraphicSet_ASCII S_GraphicSet_JIS_X_0201_ROMAN S_GraphicSet_JIS_X_0201_KATAKANA S_GraphicSet_UNREAD_ONE_BYTE S_GraphicSet_JIS_X_0208 S_GraphicSet_JIS_X_0212 S_GraphicSet_GB_2312 S_GraphicSet_KS_X_1001 S_GraphicSet_CNS_11643_1 S_GraphicSet_CNS_11643_2 S_GraphicSet_CNS_11643_3 S_GraphicSet_CNS_11643_4 S_GraphicSet_CNS_11643_5 S_GraphicSet_CNS_11643_6 S_GraphicSet_CNS_11643_7 S_GraphicSet_UNREAD_TWO_BYTES) hZ (hw _ (List.mem_of_getElem? (i := 3) rfl)) (hw _ (List.mem_of_getElem? (i := 2) rfl)) (by decide) (by decide)) (g := (mkF m 13 #[iv p0, iv p1, iv p2, iv p3, iv p4, iv (2 : Int32), .val u0_1, .val u0_2, .unset, .unset, .unset, .unset, .unset, .unset] [(.int p2)])) rfl (by rw [hml]; rfl) (argsL := [(.int p2)]) (rest := []) (lenOf pd_0 rfl) rfl (by show 2 * 0 + _ ≤ _; exact Nat.le_of_eq rfl) (hb hby at_13) (fun _ _ => ⟨rfl, e2, (by decide : 0 + 0 ≤ _), (by decide : 0 + 0 ≤ _)⟩)
  dsimp only [Pt.U, Pt.locs, Pt.cells, Pt.slots] at X3 l3 y3 z3 st3 hQ3
  subst l3 y3 z3
  obtain ⟨u0_3, rfl, hr_u0_3, N3q, e3⟩ := hQ3
  have N3 := Fr.app N2 N3q
  obtain ⟨_, _, ⟨T4, L4, k4, n4⟩, -, X4, ⟨Lc4, hQ4, l4, y4, z4⟩, st4⟩ := Jvm.LawKit.callS X3 hx (y := (⟨"com/example/pipewright/pipewright/io/StateGetPinLaw", "pick", "(I)Lcom/example/pipewright/pipewright/io/Iso2022Layout$GraphicSet;"⟩ : MethodName)) hown (mvT hZ (hw _ (List.mem_of_getElem? (i := 0) rfl))) (mvT hZ (hw _ (List.mem_of_getElem? (i := 1) rfl))) (mvT hZ (hw _ (List.mem_of_getElem? (i := 2) rfl))) (mvT hZ (hw _ (List.mem_of_getElem? (i := 3) rfl))) (by decide) (backOf (W := 0) (rk1 l Z a0 hw [] w_GraphicSet_ASCII w_GraphicSet_UNREAD_ONE_BYTE w_GraphicSet_JIS_X_0201_KATAKANA w_GraphicSet_JIS_X_0201_ROMAN w_GraphicSet_JIS_X_0208 w_GraphicSet_CNS_11643_3 w_GraphicSet_UNREAD_TWO_BYTES w_GraphicSet_KS_X_1001 w_GraphicSet_CNS_11643_6 w_GraphicSet_CNS_11643_2 w_GraphicSet_CNS_11643_5 w_GraphicSet_CNS_11643_1 w_GraphicSet_CNS_11643_4 w_GraphicSet_JIS_X_0212 w_GraphicSet_GB_2312 w_GraphicSet_CNS_11643_7 p3 h0 n0 Z0 S_GraphicSet_ASCII S_GraphicSet_JIS_X_0201_ROMAN S_GraphicSet_JIS_X_0201_KATAKANA S_GraphicSet_UNREAD_ONE_BYTE S_GraphicSet_JIS_X_0208 S_GraphicSet_JIS_X_0212 S_GraphicSet_GB_2312 S_GraphicSet_KS_X_1001 S_GraphicSet_CNS_11643_1 S_GraphicSet_CNS_11643_2 S_GraphicSet_CNS_11643_3 S_GraphicSet_CNS_11643_4 S_GraphicSet_CNS_11643_5 S_GraphicSet_CNS_11643_6 S_GraphicSet_CNS_11643_7 S_GraphicSet_UNREAD_TWO_BYTES) hZ (hw _ (List.mem_of_getElem? (i := 3) rfl)) (hw _ (List.mem_of_getElem? (i := 2) rfl)) (by decide) (by decide)) (g := (mkF m 19 #[iv p0, iv p1, iv p2, iv p3, iv p4, iv (2 : Int32), .val u0_1, .val u0_2, .val u0_3, .unset, .unset, .unset, .unset, .unset] [(.int p3)])) rfl (by rw [hml]; rfl) (argsL := [(.int p3)]) (rest := []) (lenOf pd_0 rfl) rfl (by show 2 * 0 + _ ≤ _; exact Nat.le_of_eq rfl) (hb hby at_19) (fun _ _ => ⟨rfl, e3, (by decide : 0 + 0 ≤ _), (by decide : 0 + 0 ≤ _)⟩)
  dsimp only [Pt.U, Pt.locs, Pt.cells, Pt.slots] at X4 l4 y4 z4 st4 hQ4
  subst l4 y4 z4
  obtain ⟨u0_4, rfl, hr_u0_4, N4q, e4⟩ := hQ4
  have N4 := Fr.app N3 N4q
  obtain ⟨T5, h5, X5, e5, E5, A5, D5, -, st5⟩ := newO X4 hx hZ hown (hw _ (List.mem_of_getElem? (i := 13) rfl)) (hw _ (List.mem_of_getElem? (i := 14) rfl)) (hw _ (List.mem_of_getElem? (i := 15) rfl)) e4 (g := (mkF m 38 #[iv p0, iv p1, iv p2, iv p3, iv p4, iv (2 : Int32), .val u0_1, .val u0_2, .val u0_3, .val u0_4, iv (0 : Int32), .unset, .unset, .unset] [])) rfl (hb hby at_38) (by decide) (by decide)
  obtain ⟨b0_5, gg5⟩ : ∃ z, z = h0.size := ⟨_, rfl⟩
  rw [← gg5] at A5 D5 st5
  have g_b0_5 : n0 ≤ b0_5 := Nat.le_trans Z0 (Nat.le_of_eq gg5.symm)
  have sz_b0_5 : h0.size ≤ b0_5 := Nat.le_trans (Keep.refl h0 []).1 (Nat.le_of_eq gg5.symm)
  have Z5 : n0 ≤ h5.size := Nat.le_trans Z0 E5.1
  have KK5 : Keep h0 h5 [] := (Keep.refl h0 []).ext E5
  have E_b0_5 : Exa Z h5 b0_5 "com/example/pipewright/pipewright/io/Iso2022Layout$State" := A5
  have F_b0_5_g0 : Fld Z h5 b0_5 "com/example/pipewright/pipewright/io/Iso2022Layout$State" "g0" "Lcom/example/pipewright/pipewright/io/Iso2022Layout$GraphicSet;" .null := D5 (Or.inr (hw _ (List.mem_of_getElem? (i := 28) rfl))) (ty := (.object "com/example/pipewright/pipewright/io/Iso2022Layout$GraphicSet")) (by decide)
  have F_b0_5_g1 : Fld Z h5 b0_5 "com/example/pipewright/pipewright/io/Iso2022Layout$State" "g1" "Lcom/example/pipewright/pipewright/io/Iso2022Layout$GraphicSet;" .null := D5 (Or.inr (hw _ (List.mem_of_getElem? (i := 30) rfl))) (ty := (.object "com/example/pipewright/pipewright/io/Iso2022Layout$GraphicSet")) (by decide)
  have F_b0_5_g2 : Fld Z h5 b0_5 "com/example/pipewright/pipewright/io/Iso2022Layout$State" "g2" "Lcom/example/pipewright/pipewright/io/Iso2022Layout$GraphicSet;" .null := D5 (Or.inr (hw _ (List.mem_of_getElem? (i := 32) rfl))) (ty := (.object "com/example/pipewright/pipewright/io/Iso2022Layout$GraphicSet")) (by decide)
  have F_b0_5_g3 : Fld Z h5 b0_5 "com/example/pipewright/pipewright/io/Iso2022Layout$State" "g3" "Lcom/example/pipewright/pipewright/io/Iso2022Layout$GraphicSet;" .null := D5 (Or.inr (hw _ (List.mem_of_getElem? (i := 34) rfl))) (ty := (.object "com/example/pipewright/pipewright/io/Iso2022Layout$GraphicSet")) (by decide)
  have F_b0_5_shifted : Fld Z h5 b0_5 "com/example/pipewright/pipewright/io/Iso2022Layout$State" "shifted" "Z" (.int (0 : Int32)) := D5 (Or.inr (hw _ (List.mem_of_getElem? (i := 36) rfl))) (ty := .boolean) (by decide)
  obtain ⟨_, _, ⟨T6, L6, k6, n6⟩, -, X6, ⟨Lc6, hQ6, l6, y6, z6⟩, st6⟩ := X5.specialBack hx (y := (⟨"com/example/pipewright/pipewright/io/Iso2022Layout$State", "<init>", "(Lcom/example/pipewright/pipewright/io/Iso2022Layout$GraphicSet;Lcom/example/pipewright/pipewright/io/Iso2022Layout$GraphicSet;Lcom/example/pipewright/pipewright/io/Iso2022Layout$GraphicSet;Lcom/example/pipewright/pipewright/io/Iso2022Layout$GraphicSet;Z)V"⟩ : MethodName)) rfl hown (mvT hZ (hw _ (List.mem_of_getElem? (i := 16) rfl))) (mvT hZ (hw _ (List.mem_of_getElem? (i := 17) rfl))) (mvT hZ (hw _ (List.mem_of_getElem? (i := 18) rfl))) (by decide) (backOf (W := 1) (rm2_0 l Z a0 hw [] u0_1 u0_2 u0_3 u0_4 b0_5 h5 n0 Z5 hr_u0_1 E_b0_5 F_b0_5_g0 g_b0_5 hr_u0_2 F_b0_5_g1 hr_u0_3 F_b0_5_g2 hr_u0_4 F_b0_5_g3 F_b0_5_shifted) hZ (hw _ (List.mem_of_getElem? (i := 18) rfl)) (hw _ (List.mem_of_getElem? (i := 15) rfl)) (by decide) (by decide)) (g := (mkF m 52 #[iv p0, iv p1, iv p2, iv p3, iv p4, iv (2 : Int32), .val u0_1, .val u0_2, .val u0_3, .val u0_4, iv (0 : Int32), .unset, .unset, .unset] [(.int (0 : Int32)), u0_4, u0_3, u0_2, u0_1, (.ref b0_5), (.ref b0_5)])) rfl (by rw [hml]; rfl) (Steps.refl _) (a := b0_5) (argsL := [u0_1, u0_2, u0_3, u0_4, (.int (0 : Int32))]) (rest := [(.ref b0_5)]) (lenOf pd_2 rfl) rfl (by show 2 * 0 + _ ≤ _; exact Nat.le_of_eq rfl) (hb hby at_52) (fun _ _ => ⟨rfl, e5, (by decide : 1 + 0 ≤ _), (by decide : 5 + 0 ≤ _)⟩)
  dsimp only [Pt.U, Pt.locs, Pt.cells, Pt.slots] at X6 l6 y6 z6 st6 hQ6
  subst l6 y6 z6
  obtain ⟨rfl, N6q, K6, fq6_0, fq6_1, fq6_2, fq6_3, fq6_4, fq6_5⟩ := hQ6
  have KK6 : Keep h0 T6.heap [] := KK5.trans K6 (allS (P := fun x => x ∈ [] ∨ h0.size ≤ x) (Or.inr sz_b0_5) all0)
  have Z6 : n0 ≤ T6.heap.size := Nat.le_trans Z5 K6.1
  have N6 := Fr.app N4 N6q
  obtain ⟨cq7, kq7, q7a, q7b, q7c⟩ := isOf hZ rfl fq6_5
  obtain ⟨_, _, ⟨T7, L7, k7, n7⟩, -, X7, ⟨Lc7, hQ7, l7, y7, z7⟩, st7⟩ := X6.virtualBack hx (y := (⟨"com/example/pipewright/pipewright/io/Iso2022Layout$State", "get", "(I)Lcom/example/pipewright/pipewright/io/Iso2022Layout$GraphicSet;"⟩ : MethodName)) (z := (⟨"com/example/pipewright/pipewright/io/Iso2022Layout$State", "get", "(I)Lcom/example/pipewright/pipewright/io/Iso2022Layout$GraphicSet;"⟩ : MethodName)) hown (mvT hZ (hw _ (List.mem_of_getElem? (i := 37) rfl))) (mvT hZ (hw _ (List.mem_of_getElem? (i := 38) rfl))) (notFace_of_selects (args := #[]) (mvT hZ (hw _ (List.mem_of_getElem? (i := 40) rfl)))) (mvT hZ (hw _ (List.mem_of_getElem? (i := 40) rfl))) (mvT hZ (hw _ (List.mem_of_getElem? (i := 39) rfl))) (by decide) (backOf (W := 0) (rm5_4 l Z a0 hw [] u0_3 b0_5 T6.heap n0 Z6 fq6_2 hr_u0_3) hZ (hw _ (List.mem_of_getElem? (i := 41) rfl)) (hw _ (List.mem_of_getElem? (i := 15) rfl)) (by decide) (by decide)) q7a q7c (g := (mkF m 61 #[iv p0, iv p1, iv p2, iv p3, iv p4, iv (2 : Int32), .val u0_1, .val u0_2, .val u0_3, .val u0_4, iv (0 : Int32), rv b0_5, .unset, .unset] [(.int (2 : Int32)), (.ref b0_5)])) rfl (by rw [hml]; rfl) (Steps.refl _) (argsL := [(.int (2 : Int32))]) (rest := []) (lenOf pd_0 rfl) rfl (by show 2 * 0 + _ ≤ _; exact Nat.le_of_eq rfl) (hb hby at_61) (fun _ _ => ⟨rfl, rfl, (by decide : 1 + 0 ≤ _), (by decide : 5 + 0 ≤ _)⟩)
  dsimp only [Pt.U, Pt.locs, Pt.cells, Pt.slots] at X7 l7 y7 z7 st7 hQ7
  subst l7 y7 z7
  obtain ⟨rfl, N7q, e7⟩ := hQ7
  have N7 := Fr.app N6 N7q
  obtain ⟨fs, hr, hrun, hended, hW, hsame⟩ := X7.leave (v := (some (.int (1 : Int32)))) (fun h => by rw [Bd.returns] at h; cases h)
  refine ⟨_, _, pre0 _ ?_, hrun, hended, _, _, rfl, ?_, ⟨_, rfl⟩, hW, hsame.mono (by decide) (by decide)⟩
  · show Steps p.tables e below (s₁.setTop (mkF m 0 #[iv p0, iv p1, iv p2, iv p3, iv p4, iv (2 : Int32), .unset, .unset, .unset, .unset, .unset, .unset, .unset, .unset] [])) _
    refine XS.iloadN X0.here hx rfl (hb hby at_0) rfl ?_
    show Steps p.tables e below (s₁.setTop (mkF m 1 #[iv p0, iv p1, iv p2, iv p3, iv p4, iv (2 : Int32), .unset, .unset, .unset, .unset, .unset, .unset, .unset, .unset] [(.int p0)])) _
    refine st1 _ ?_
    show Steps p.tables e below (T1.setTop (mkF m 4 #[iv p0, iv p1, iv p2, iv p3, iv p4, iv (2 : Int32), .unset, .unset, .unset, .unset, .unset, .unset, .unset, .unset] [u0_1])) _
    refine XS.astore X1.here hx rfl (hb hby at_4) rfl hr_u0_1 (l' := #[iv p0, iv p1, iv p2, iv p3, iv p4, iv (2 : Int32), .val u0_1, .unset, .unset, .unset, .unset, .unset, .unset, .unset]) (by rcases ref_cases hr_u0_1 with q | ⟨_, q⟩ <;> (subst q; rfl)) ?_
    show Steps p.tables e below (T1.setTop (mkF m 6 #[iv p0, iv p1, iv p2, iv p3, iv p4, iv (2 : Int32), .val u0_1, .unset, .unset, .unset, .unset, .unset, .unset, .unset] [])) _
    refine XS.iloadN X1.here hx rfl (hb hby at_6) rfl ?_
    show Steps p.tables e below (T1.setTop (mkF m 7 #[iv p0, iv p1, iv p2, iv p3, iv p4, iv (2 : Int32), .val u0_1, .unset, .unset, .unset, .unset, .unset, .unset, .unset] [(.int p1)])) _
    refine st2 _ ?_
    show Steps p.tables e below (T2.setTop (mkF m 10 #[iv p0, iv p1, iv p2, iv p3, iv p4, iv (2 : Int32), .val u0_1, .unset, .unset, .unset, .unset, .unset, .unset, .unset] [u0_2])) _
    refine XS.astore X2.here hx rfl (hb hby at_10) rfl hr_u0_2 (l' := #[iv p0, iv p1, iv p2, iv p3, iv p4, iv (2 : Int32), .val u0_1, .val u0_2, .unset, .unset, .unset, .unset, .unset, .unset]) (by rcases ref_cases hr_u0_2 with q | ⟨_, q⟩ <;> (subst q; rfl)) ?_
    show Steps p.tables e below (T2.setTop (mkF m 12 #[iv p0, iv p1, iv p2, iv p3, iv p4, iv (2 : Int32), .val u0_1, .val u0_2, .unset, .unset, .unset, .unset, .unset, .unset] [])) _
    refine XS.iloadN X2.here hx rfl (hb hby at_12) rfl ?_
    show Steps p.tables e below (T2.setTop (mkF m 13 #[iv p0, iv p1, iv p2, iv p3, iv p4, iv (2 : Int32), .val u0_1, .val u0_2, .unset, .unset, .unset, .unset, .unset, .unset] [(.int p2)])) _
    refine st3 _ ?_
    show Steps p.tables e below (T3.setTop (mkF m 16 #[iv p0, iv p1, iv p2, iv p3, iv p4, iv (2 : Int32), .val u0_1, .val u0_2, .unset, .unset, .unset, .unset, .unset, .unset] [u0_3])) _
    refine XS.astore X3.here hx rfl (hb hby at_16) rfl hr_u0_3 (l' := #[iv p0, iv p1, iv p2, iv p3, iv p4, iv (2 : Int32), .val u0_1, .val u0_2, .val u0_3, .unset, .unset, .unset, .unset, .unset]) (by rcases ref_cases hr_u0_3 with q | ⟨_, q⟩ <;> (subst q; rfl)) ?_
    show Steps p.tables e below (T3.setTop (mkF m 18 #[iv p0, iv p1, iv p2, iv p3, iv p4, iv (2 : Int32), .val u0_1, .val u0_2, .val u0_3, .unset, .unset, .unset, .unset, .unset] [])) _
    refine XS.iloadN X3.here hx rfl (hb hby at_18) rfl ?_
    show Steps p.tables e below (T3.setTop (mkF m 19 #[iv p0, iv p1, iv p2, iv p3, iv p4, iv (2 : Int32), .val u0_1, .val u0_2, .val u0_3, .unset, .unset, .unset, .unset, .unset] [(.int p3)])) _
    refine st4 _ ?_
    show Steps p.tables e below (T4.setTop (mkF m 22 #[iv p0, iv p1, iv p2, iv p3, iv p4, iv (2 : Int32), .val u0_1, .val u0_2, .val u0_3, .unset, .unset, .unset, .unset, .unset] [u0_4])) _
    refine XS.astore X4.here hx rfl (hb hby at_22) rfl hr_u0_4 (l' := #[iv p0, iv p1, iv p2, iv p3, iv p4, iv (2 : Int32), .val u0_1, .val u0_2, .val u0_3, .val u0_4, .unset, .unset, .unset, .unset]) (by rcases ref_cases hr_u0_4 with q | ⟨_, q⟩ <;> (subst q; rfl)) ?_
    show Steps p.tables e below (T4.setTop (mkF m 24 #[iv p0, iv p1, iv p2, iv p3, iv p4, iv (2 : Int32), .val u0_1, .val u0_2, .val u0_3, .val u0_4, .unset, .unset, .unset, .unset] [])) _
    refine XS.iload X4.here hx rfl (hb hby at_24) rfl ?_
    show Steps p.tables e below (T4.setTop (mkF m 26 #[iv p0, iv p1, iv p2, iv p3, iv p4, iv (2 : Int32), .val u0_1, .val u0_2, .val u0_3, .val u0_4, .unset, .unset, .unset, .unset] [(.int p4)])) _
    refine XS.iconst X4.here hx rfl (hb hby at_26) ?_
    show Steps p.tables e below (T4.setTop (mkF m 27 #[iv p0, iv p1, iv p2, iv p3, iv p4, iv (2 : Int32), .val u0_1, .val u0_2, .val u0_3, .val u0_4, .unset, .unset, .unset, .unset] [(.int (1 : Int32)), (.int p4)])) _
    refine XS.iand X4.here hx rfl (hb hby at_27) rfl ?_
    show Steps p.tables e below (T4.setTop (mkF m 28 #[iv p0, iv p1, iv p2, iv p3, iv p4, iv (2 : Int32), .val u0_1, .val u0_2, .val u0_3, .val u0_4, .unset, .unset, .unset, .unset] [(.int (p4 &&& (1 : Int32)))])) _
    rewrite [h4]
    show Steps p.tables e below (T4.setTop (mkF m 28 #[iv p0, iv p1, iv p2, iv p3, iv p4, iv (2 : Int32), .val u0_1, .val u0_2, .val u0_3, .val u0_4, .unset, .unset, .unset, .unset] [(.int (0 : Int32))])) _
    refine XS.ifYes X4.here hx rfl (pc0 := 28) (pc' := 35) rfl (hb hby at_28) rfl ((if0 _ _).trans (teq (by decide +kernel : (0 : Int32) = (0 : Int32))).1) (by decide) (by decide) ?_
    show Steps p.tables e below (T4.setTop (mkF m 35 #[iv p0, iv p1, iv p2, iv p3, iv p4, iv (2 : Int32), .val u0_1, .val u0_2, .val u0_3, .val u0_4, .unset, .unset, .unset, .unset] [])) _
    refine XS.iconst X4.here hx rfl (hb hby at_35) ?_
    show Steps p.tables e below (T4.setTop (mkF m 36 #[iv p0, iv p1, iv p2, iv p3, iv p4, iv (2 : Int32), .val u0_1, .val u0_2, .val u0_3, .val u0_4, .unset, .unset, .unset, .unset] [(.int (0 : Int32))])) _
    refine XS.istore X4.here hx rfl (hb hby at_36) rfl (l' := #[iv p0, iv p1, iv p2, iv p3, iv p4, iv (2 : Int32), .val u0_1, .val u0_2, .val u0_3, .val u0_4, iv (0 : Int32), .unset, .unset, .unset]) rfl ?_
    show Steps p.tables e below (T4.setTop (mkF m 38 #[iv p0, iv p1, iv p2, iv p3, iv p4, iv (2 : Int32), .val u0_1, .val u0_2, .val u0_3, .val u0_4, iv (0 : Int32), .unset, .unset, .unset] [])) _
    refine st5 _ ?_
    show Steps p.tables e below (T5.setTop (mkF m 41 #[iv p0, iv p1, iv p2, iv p3, iv p4, iv (2 : Int32), .val u0_1, .val u0_2, .val u0_3, .val u0_4, iv (0 : Int32), .unset, .unset, .unset] [(.ref b0_5)])) _
    refine XS.dup X5.here hx rfl (hb hby at_41) rfl rfl ?_
    show Steps p.tables e below (T5.setTop (mkF m 42 #[iv p0, iv p1, iv p2, iv p3, iv p4, iv (2 : Int32), .val u0_1, .val u0_2, .val u0_3, .val u0_4, iv (0 : Int32), .unset, .unset, .unset] [(.ref b0_5), (.ref b0_5)])) _
    refine XS.aload X5.here hx rfl (hb hby at_42) rfl hr_u0_1 ?_
    show Steps p.tables e below (T5.setTop (mkF m 44 #[iv p0, iv p1, iv p2, iv p3, iv p4, iv (2 : Int32), .val u0_1, .val u0_2, .val u0_3, .val u0_4, iv (0 : Int32), .unset, .unset, .unset] [u0_1, (.ref b0_5), (.ref b0_5)])) _
    refine XS.aload X5.here hx rfl (hb hby at_44) rfl hr_u0_2 ?_
    show Steps p.tables e below (T5.setTop (mkF m 46 #[iv p0, iv p1, iv p2, iv p3, iv p4, iv (2 : Int32), .val u0_1, .val u0_2, .val u0_3, .val u0_4, iv (0 : Int32), .unset, .unset, .unset] [u0_2, u0_1, (.ref b0_5), (.ref b0_5)])) _
    refine XS.aload X5.here hx rfl (hb hby at_46) rfl hr_u0_3 ?_
    show Steps p.tables e below (T5.setTop (mkF m 48 #[iv p0, iv p1, iv p2, iv p3, iv p4, iv (2 : Int32), .val u0_1, .val u0_2, .val u0_3, .val u0_4, iv (0 : Int32), .unset, .unset, .unset] [u0_3, u0_2, u0_1, (.ref b0_5), (.ref b0_5)])) _
    refine XS.aload X5.here hx rfl (hb hby at_48) rfl hr_u0_4 ?_
    show Steps p.tables e below (T5.setTop (mkF m 50 #[iv p0, iv p1, iv p2, iv p3, iv p4, iv (2 : Int32), .val u0_1, .val u0_2, .val u0_3, .val u0_4, iv (0 : Int32), .unset, .unset, .unset] [u0_4, u0_3, u0_2, u0_1, (.ref b0_5), (.ref b0_5)])) _
    refine XS.iload X5.here hx rfl (hb hby at_50) rfl ?_
    show Steps p.tables e below (T5.setTop (mkF m 52 #[iv p0, iv p1, iv p2, iv p3, iv p4, iv (2 : Int32), .val u0_1, .val u0_2, .val u0_3, .val u0_4, iv (0 : Int32), .unset, .unset, .unset] [(.int (0 : Int32)), u0_4, u0_3, u0_2, u0_1, (.ref b0_5), (.ref b0_5)])) _
    refine st6.trans ?_
    show Steps p.tables e below (T6.setTop (mkF m 55 #[iv p0, iv p1, iv p2, iv p3, iv p4, iv (2 : Int32), .val u0_1, .val u0_2, .val u0_3, .val u0_4, iv (0 : Int32), .unset, .unset, .unset] [(.ref b0_5)])) _
    refine XS.astore X6.here hx rfl (hb hby at_55) rfl rfl (l' := #[iv p0, iv p1, iv p2, iv p3, iv p4, iv (2 : Int32), .val u0_1, .val u0_2, .val u0_3, .val u0_4, iv (0 : Int32), rv b0_5, .unset, .unset]) rfl ?_
    show Steps p.tables e below (T6.setTop (mkF m 57 #[iv p0, iv p1, iv p2, iv p3, iv p4, iv (2 : Int32), .val u0_1, .val u0_2, .val u0_3, .val u0_4, iv (0 : Int32), rv b0_5, .unset, .unset] [])) _
    refine XS.aload X6.here hx rfl (hb hby at_57) rfl rfl ?_
    show Steps p.tables e below (T6.setTop (mkF m 59 #[iv p0, iv p1, iv p2, iv p3, iv p4, iv (2 : Int32), .val u0_1, .val u0_2, .val u0_3, .val u0_4, iv (0 : Int32), rv b0_5, .unset, .unset] [(.ref b0_5)])) _
    refine XS.iload X6.here hx rfl (hb hby at_59) rfl ?_
    show Steps p.tables e below (T6.setTop (mkF m 61 #[iv p0, iv p1, iv p2, iv p3, iv p4, iv (2 : Int32), .val u0_1, .val u0_2, .val u0_3, .val u0_4, iv (0 : Int32), rv b0_5, .unset, .unset] [(.int (2 : Int32)), (.ref b0_5)])) _
    refine st7.trans ?_
    show Steps p.tables e below (T7.setTop (mkF m 64 #[iv p0, iv p1, iv p2, iv p3, iv p4, iv (2 : Int32), .val u0_1, .val u0_2, .val u0_3, .val u0_4, iv (0 : Int32), rv b0_5, .unset, .unset] [u0_3])) _
    refine XS.astore X7.here hx rfl (hb hby at_64) rfl hr_u0_3 (l' := #[iv p0, iv p1, iv p2, iv p3, iv p4, iv (2 : Int32), .val u0_1, .val u0_2, .val u0_3, .val u0_4, iv (0 : Int32), rv b0_5, .val u0_3, .unset]) (by rcases ref_cases hr_u0_3 with q | ⟨_, q⟩ <;> (subst q; rfl)) ?_
    show Steps p.tables e below (T7.setTop (mkF m 66 #[iv p0, iv p1, iv p2, iv p3, iv p4, iv (2 : Int32), .val u0_1, .val u0_2, .val u0_3, .val u0_4, iv (0 : Int32), rv b0_5, .val u0_3, .unset] [])) _
    refine XS.iload X7.here hx rfl (hb hby at_66) rfl ?_
    show Steps p.tables e below (T7.setTop (mkF m 68 #[iv p0, iv p1, iv p2, iv p3, iv p4, iv (2 : Int32), .val u0_1, .val u0_2, .val u0_3, .val u0_4, iv (0 : Int32), rv b0_5, .val u0_3, .unset] [(.int (2 : Int32))])) _
    refine XS.ifYes X7.here hx rfl (pc0 := 68) (pc' := 78) rfl (hb hby at_68) rfl ((if0 _ _).trans (feq (by decide +kernel : ¬ ((2 : Int32) = (0 : Int32)))).2) (by decide) (by decide) ?_
    show Steps p.tables e below (T7.setTop (mkF m 78 #[iv p0, iv p1, iv p2, iv p3, iv p4, iv (2 : Int32), .val u0_1, .val u0_2, .val u0_3, .val u0_4, iv (0 : Int32), rv b0_5, .val u0_3, .unset] [])) _
    refine XS.iload X7.here hx rfl (hb hby at_78) rfl ?_
    show Steps p.tables e below (T7.setTop (mkF m 80 #[iv p0, iv p1, iv p2, iv p3, iv p4, iv (2 : Int32), .val u0_1, .val u0_2, .val u0_3, .val u0_4, iv (0 : Int32), rv b0_5, .val u0_3, .unset] [(.int (2 : Int32))])) _
    refine XS.iconst X7.here hx rfl (hb hby at_80) ?_
    show Steps p.tables e below (T7.setTop (mkF m 81 #[iv p0, iv p1, iv p2, iv p3, iv p4, iv (2 : Int32), .val u0_1, .val u0_2, .val u0_3, .val u0_4, iv (0 : Int32), rv b0_5, .val u0_3, .unset] [(.int (1 : Int32)), (.int (2 : Int32))])) _
    refine XS.icmpYes X7.here hx rfl (pc0 := 81) (pc' := 91) rfl (hb hby at_81) rfl (feq (by decide +kernel : ¬ ((2 : Int32) = (1 : Int32)))).2 (by decide) (by decide) ?_
    show Steps p.tables e below (T7.setTop (mkF m 91 #[iv p0, iv p1, iv p2, iv p3, iv p4, iv (2 : Int32), .val u0_1, .val u0_2, .val u0_3, .val u0_4, iv (0 : Int32), rv b0_5, .val u0_3, .unset] [])) _
    refine XS.iload X7.here hx rfl (hb hby at_91) rfl ?_
    show Steps p.tables e below (T7.setTop (mkF m 93 #[iv p0, iv p1, iv p2, iv p3, iv p4, iv (2 : Int32), .val u0_1, .val u0_2, .val u0_3, .val u0_4, iv (0 : Int32), rv b0_5, .val u0_3, .unset] [(.int (2 : Int32))])) _
    refine XS.iconst X7.here hx rfl (hb hby at_93) ?_
    show Steps p.tables e below (T7.setTop (mkF m 94 #[iv p0, iv p1, iv p2, iv p3, iv p4, iv (2 : Int32), .val u0_1, .val u0_2, .val u0_3, .val u0_4, iv (0 : Int32), rv b0_5, .val u0_3, .unset] [(.int (2 : Int32)), (.int (2 : Int32))])) _
    refine XS.icmpNo X7.here hx rfl (hb hby at_94) rfl (teq (by decide +kernel : (2 : Int32) = (2 : Int32))).2 ?_
    show Steps p.tables e below (T7.setTop (mkF m 97 #[iv p0, iv p1, iv p2, iv p3, iv p4, iv (2 : Int32), .val u0_1, .val u0_2, .val u0_3, .val u0_4, iv (0 : Int32), rv b0_5, .val u0_3, .unset] [])) _
    refine XS.aload X7.here hx rfl (hb hby at_97) rfl hr_u0_3 ?_
    show Steps p.tables e below (T7.setTop (mkF m 99 #[iv p0, iv p1, iv p2, iv p3, iv p4, iv (2 : Int32), .val u0_1, .val u0_2, .val u0_3, .val u0_4, iv (0 : Int32), rv b0_5, .val u0_3, .unset] [u0_3])) _
    refine XS.astore X7.here hx rfl (hb hby at_99) rfl hr_u0_3 (l' := #[iv p0, iv p1, iv p2, iv p3, iv p4, iv (2 : Int32), .val u0_1, .val u0_2, .val u0_3, .val u0_4, iv (0 : Int32), rv b0_5, .val u0_3, .val u0_3]) (by rcases ref_cases hr_u0_3 with q | ⟨_, q⟩ <;> (subst q; rfl)) ?_
    show Steps p.tables e below (T7.setTop (mkF m 101 #[iv p0, iv p1, iv p2, iv p3, iv p4, iv (2 : Int32), .val u0_1, .val u0_2, .val u0_3, .val u0_4, iv (0 : Int32), rv b0_5, .val u0_3, .val u0_3] [])) _
    refine XS.goto X7.here hx rfl (pc0 := 101) (pc' := 108) rfl (hb hby at_101) (by decide) (by decide) ?_
    show Steps p.tables e below (T7.setTop (mkF m 108 #[iv p0, iv p1, iv p2, iv p3, iv p4, iv (2 : Int32), .val u0_1, .val u0_2, .val u0_3, .val u0_4, iv (0 : Int32), rv b0_5, .val u0_3, .val u0_3] [])) _
    refine XS.aload X7.here hx rfl (hb hby at_108) rfl hr_u0_3 ?_
    show Steps p.tables e below (T7.setTop (mkF m 110 #[iv p0, iv p1, iv p2, iv p3, iv p4, iv (2 : Int32), .val u0_1, .val u0_2, .val u0_3, .val u0_4, iv (0 : Int32), rv b0_5, .val u0_3, .val u0_3] [u0_3])) _
    refine XS.aload X7.here hx rfl (hb hby at_110) rfl hr_u0_3 ?_
    show Steps p.tables e below (T7.setTop (mkF m 112 #[iv p0, iv p1, iv p2, iv p3, iv p4, iv (2 : Int32), .val u0_1, .val u0_2, .val u0_3, .val u0_4, iv (0 : Int32), rv b0_5, .val u0_3, .val u0_3] [u0_3, u0_3])) _
    refine Jvm.RoadKit.acmp (g := (mkF m 112 #[iv p0, iv p1, iv p2, iv p3, iv p4, iv (2 : Int32), .val u0_1, .val u0_2, .val u0_3, .val u0_4, iv (0 : Int32), rv b0_5, .val u0_3, .val u0_3] [u0_3, u0_3])) X7 hx rfl hr_u0_3 hr_u0_3 (pc0 := 112) (pc' := 115) (same := true) rfl (hb hby at_112) rfl (decide_eq_true rfl) (by decide) (by decide) ?_
    show Steps p.tables e below (T7.setTop (mkF m 115 #[iv p0, iv p1, iv p2, iv p3, iv p4, iv (2 : Int32), .val u0_1, .val u0_2, .val u0_3, .val u0_4, iv (0 : Int32), rv b0_5, .val u0_3, .val u0_3] [])) _
    refine XS.iconst X7.here hx rfl (hb hby at_115) ?_
    show Steps p.tables e below (T7.setTop (mkF m 116 #[iv p0, iv p1, iv p2, iv p3, iv p4, iv (2 : Int32), .val u0_1, .val u0_2, .val u0_3, .val u0_4, iv (0 : Int32), rv b0_5, .val u0_3, .val u0_3] [(.int (1 : Int32))])) _
    refine XS.goto X7.here hx rfl (pc0 := 116) (pc' := 120) rfl (hb hby at_116) (by decide) (by decide) ?_
    show Steps p.tables e below (T7.setTop (mkF m 120 #[iv p0, iv p1, iv p2, iv p3, iv p4, iv (2 : Int32), .val u0_1, .val u0_2, .val u0_3, .val u0_4, iv (0 : Int32), rv b0_5, .val u0_3, .val u0_3] [(.int (1 : Int32))])) _
    exact retN X7 hx (t := .boolean) Bd.returns (by simp) (hb hby at_120) hr
  · exact ⟨rfl, N7⟩
set_option maxRecDepth 65536 in
set_option maxHeartbeats 40000000 in
theorem rm5_5 (l : Launch) (Z : State) (a0 : Array Value) (hw : ∀ d ∈ tables_1, d.before a0 Z = true) (ws : List Jvm.Cond) (p5 : Int32) (u0_4 : Value) (b0_5 : Addr) (h0 : Heap) (n0 : Nat) (Z0 : n0 ≤ h0.size) (h5_0 : ¬ (p5 = (0 : Int32))) (h5_1 : ¬ (p5 = (1 : Int32))) (h5_2 : ¬ (p5 = (2 : Int32))) (F_b0_5_g3 : Fld Z h0 b0_5 "com/example/pipewright/pipewright/io/Iso2022Layout$State" "g3" "Lcom/example/pipewright/pipewright/io/Iso2022Layout$GraphicSet;" u0_4) (hr_u0_4 : u0_4.isRef = true) :
    MetFree l (⟨"com/example/pipewright/pipewright/io/Iso2022Layout$State", "get", "(I)Lcom/example/pipewright/pipewright/io/Iso2022Layout$GraphicSet;"⟩ : MethodName) (head1 (Jvm.Cond.code (⟨"com/example/pipewright/pipewright/io/Iso2022Layout$State", "get", "(I)Lcom/example/pipewright/pipewright/io/Iso2022Layout$GraphicSet;"⟩ : MethodName) prog_25_method_3_code 2 (some (.object "com/example/pipewright/pipewright/io/Iso2022Layout$GraphicSet")) :: ws) ({ frames := 0, cells := 0, slots := 0, locals := 0 } : Room)) (fun a U => a = #[(.ref b0_5), (.int p5)] ∧ Z.Warmed39 U.vm ∧ U.heap = h0) (fun _ _ _ _ _ => True) (fun _ U o U' => ∃ v L, o = .returned v ∧ own_QP (some u0_4) h0 n0 v U'.heap L ∧ FrameEnd U o U' L ({ frames := 0, cells := 0, slots := 0, locals := 0 } : Room).cells ({ frames := 0, cells := 0, slots := 0, locals := 0 } : Room).slots) := by
  refine MetFree.of_bodySF (plainFor_of_name pn_2) hisR ?_
  intro p e s m args below meth c s₁ Bd hml0 hP hK
  obtain ⟨rfl, hZ, hh⟩ := hP
  have hx := Bd.exec
  have hby := Bd.bytes
  have hml : c.maxLocals = 2 := hml0
  have hown : s.vm.findClass "com/example/pipewright/pipewright/io/Iso2022Layout$State" = some m.cls := findClass_of_methodNamed Bd.named
  have hnm := (name_of_methodNamed Bd.named Bd.method).1
  have X0 : Stand p l e ({ frames := 0, cells := 0, slots := 0, locals := 0 } : Room) s m #[(.ref b0_5), (.int p5)] below meth c s₁ [] 0 0 := Stand.of_body Bd
  have e0 : s₁.heap = h0 := by rw [← hh, Bd.state]; rfl
  have N0 := Fr.nil n0
  have pre0 : ∀ t, Steps p.tables e below (s₁.setTop (mkF m 0 #[rv b0_5, iv p5] [])) t → Steps p.tables e below (s₁.setTop (entryFrame m #[(.ref b0_5), (.int p5)] 2)) t := fun t k => castTop (ef_5_RI m b0_5 p5) k
  obtain ⟨T1, X1, e1, st1⟩ := getF X0 hx hZ hown (host := "") (Or.inl (hw _ (List.mem_of_getElem? (i := 33) rfl))) Via.refl e0 F_b0_5_g3 (g := (mkF m 50 #[rv b0_5, iv p5] [(.ref b0_5)])) rfl rfl (hb hby d5_50)
  obtain ⟨fs, hr, hrun, hended, hW, hsame⟩ := X1.leave (v := (some u0_4)) (fun h => by rw [Bd.returns] at h; cases h)
  refine ⟨_, _, pre0 _ ?_, hrun, hended, _, _, rfl, ?_, ⟨_, rfl⟩, hW, hsame.mono (by decide) (by decide)⟩
  · show Steps p.tables e below (s₁.setTop (mkF m 0 #[rv b0_5, iv p5] [])) _
    refine XS.iloadN X0.here hx rfl (hb hby d5_0) rfl ?_
    show Steps p.tables e below (s₁.setTop (mkF m 1 #[rv b0_5, iv p5] [(.int p5)])) _
    refine XS.tswOut X0.here hx rfl (pc0 := 1) (pc' := 49) rfl (hb hby d5_1) rfl (own_tsw h5_0 h5_1 h5_2) (by decide) (by decide) ?_
    show Steps p.tables e below (s₁.setTop (mkF m 49 #[rv b0_5, iv p5] [])) _
    refine XS.aloadN X0.here hx rfl (hb hby d5_49) rfl rfl ?_
    show Steps p.tables e below (s₁.setTop (mkF m 50 #[rv b0_5, iv p5] [(.ref b0_5)])) _
    refine st1 _ ?_
    show Steps p.tables e below (T1.setTop (mkF m 53 #[rv b0_5, iv p5] [u0_4])) _
    exact own_retA X1 hx Bd.returns rfl hr_u0_4 (hb hby d5_53) hr
  · exact ⟨rfl, N0, e1⟩
set_option maxRecDepth 65536 in
set_option maxHeartbeats 40000000 in
theorem rm0_3 (l : Launch) (Z : State) (a0 : Array Value) (hw : ∀ d ∈ tables_1, d.before a0 Z = true) (ws : List Jvm.Cond) (p0 : Int32) (p1 : Int32) (p2 : Int32) (p3 : Int32) (p4 : Int32) (p5 : Int32) (w_GraphicSet_ASCII : Addr) (w_GraphicSet_UNREAD_ONE_BYTE : Addr) (w_GraphicSet_JIS_X_0201_KATAKANA : Addr) (w_GraphicSet_JIS_X_0201_ROMAN : Addr) (w_GraphicSet_JIS_X_0208 : Addr) (w_GraphicSet_CNS_11643_3 : Addr) (w_GraphicSet_UNREAD_TWO_BYTES : Addr) (w_GraphicSet_KS_X_1001 : Addr) (w_GraphicSet_CNS_11643_6 : Addr) (w_GraphicSet_CNS_11643_2 : Addr) (w_GraphicSet_CNS_11643_5 : Addr) (w_GraphicSet_CNS_11643_1 : Addr) (w_GraphicSet_CNS_11643_4 : Addr) (w_GraphicSet_JIS_X_0212 : Addr) (w_GraphicSet_GB_2312 : Addr) (w_GraphicSet_CNS_11643_7 : Addr) (h0 : Heap) (n0 : Nat) (Z0 : n0 ≤ h0.size) (S_GraphicSet_ASCII : Sta Z h0 "com/example/pipewright/pipewright/io/Iso2022Layout$GraphicSet" "ASCII" "Lcom/example/pipewright/pipewright/io/Iso2022Layout$GraphicSet;" (.ref w_GraphicSet_ASCII)) (S_GraphicSet_JIS_X_0201_ROMAN : Sta Z h0 "com/example/pipewright/pipewright/io/Iso2022Layout$GraphicSet" "JIS_X_0201_ROMAN" "Lcom/example/pipewright/pipewright/io/Iso2022Layout$GraphicSet;" (.ref w_GraphicSet_JIS_X_0201_ROMAN)) (S_GraphicSet_JIS_X_0201_KATAKANA : Sta Z h0 "com/example/pipewright/pipewright/io/Iso2022Layout$GraphicSet" "JIS_X_0201_KATAKANA" "Lcom/example/pipewright/pipewright/io/Iso2022Layout$GraphicSet;" (.ref w_GraphicSet_JIS_X_0201_KATAKANA)) (S_GraphicSet_UNREAD_ONE_BYTE : Sta Z h0 "com/example/pipewright/pipewright/io/Iso2022Layout$GraphicSet" "UNREAD_ONE_BYTE" "Lcom/example/pipewright/pipewright/io/Iso2022Layout$GraphicSet;" (.ref w_GraphicSet_UNREAD_ONE_BYTE)) (S_GraphicSet_JIS_X_0208 : Sta Z h0 "com/example/pipewright/pipewright/io/Iso2022Layout$GraphicSet" "JIS_X_0208" "Lcom/example/pipewright/pipewright/io/Iso2022Layout$GraphicSet;" (.ref w_GraphicSet_JIS_X_0208)) (S_GraphicSet_JIS_X_0212 : Sta Z h0 "com/example/pipewright/pipewright/io/Iso2022Layout$GraphicSet" "JIS_X_0212" "Lcom/example/pipewright/pipewright/io/Iso2022Layout$GraphicSet;" (.ref w_GraphicSet_JIS_X_0212)) (S_GraphicSet_GB_2312 : Sta Z h0 "com/example/pipewright/pipewright/io/Iso2022Layout$GraphicSet" "GB_2312" "Lcom/example/pipewright/pipewright/io/Iso2022Layout$GraphicSet;" (.ref w_GraphicSet_GB_2312)) (S_GraphicSet_KS_X_1001 : Sta Z h0 "com/example/pipewright/pipewright/io/Iso2022Layout$GraphicSet" "KS_X_1001" "Lcom/example/pipewright/pipewright/io/Iso2022Layout$GraphicSet;" (.ref w_GraphicSet_KS_X_1001)) (S_GraphicSet_CNS_11643_1 : Sta Z h0 "com/example/pipewright/pipewright/io/Iso2022Layout$GraphicSet" "CNS_11643_1" "Lcom/example/pipewright/pipewright/io/Iso2022Layout$GraphicSet;" (.ref w_GraphicSet_CNS_11643_1)) (S_GraphicSet_CNS_11643_2 : Sta Z h0 "com/example/pipewright/pipewright/io/Iso2022Layout$GraphicSet" "CNS_11643_2" "Lcom/example/pipewright/pipewright/io/Iso2022Layout$GraphicSet;" (.ref w_GraphicSet_CNS_11643_2)) (S_GraphicSet_CNS_11643_3 : Sta Z h0 "com/example/pipewright/pipewright/io/Iso2022Layout$GraphicSet" "CNS_11643_3" "Lcom/example/pipewright/pipewright/io/Iso2022Layout$GraphicSet;" (.ref w_GraphicSet_CNS_11643_3)) (S_GraphicSet_CNS_11643_4 : Sta Z h0 "com/example/pipewright/pipewright/io/Iso2022Layout$GraphicSet" "CNS_11643_4" "Lcom/example/pipewright/pipewright/io/Iso2022Layout$GraphicSet;" (.ref w_GraphicSet_CNS_11643_4)) (S_GraphicSet_CNS_11643_5 : Sta Z h0 "com/example/pipewright/pipewright/io/Iso2022Layout$GraphicSet" "CNS_11643_5" "Lcom/example/pipewright/pipewright/io/Iso2022Layout$GraphicSet;" (.ref w_GraphicSet_CNS_11643_5)) (S_GraphicSet_CNS_11643_6 : Sta Z h0 "com/example/pipewright/pipewright/io/Iso2022Layout$GraphicSet" "CNS_11643_6" "Lcom/example/pipewright/pipewright/io/Iso2022Layout$GraphicSet;" (.ref w_GraphicSet_CNS_11643_6)) (S_GraphicSet_CNS_11643_7 : Sta Z h0 "com/example/pipewright/pipewright/io/Iso2022Layout$GraphicSet" "CNS_11643_7" "Lcom/example/pipewright/pipewright/io/Iso2022Layout$GraphicSet;" (.ref w_GraphicSet_CNS_11643_7)) (S_GraphicSet_UNREAD_TWO_BYTES : Sta Z h0 "com/example/pipewright/pipewright/io/Iso2022Layout$GraphicSet" "UNREAD_TWO_BYTES" "Lcom/example/pipewright/pipewright/io/Iso2022Layout$GraphicSet;" (.ref w_GraphicSet_UNREAD_TWO_BYTES)) (h4 : (p4 &&& (1 : Int32)) = (0 : Int32)) (h5_0 : ¬ (p5 = (0 : Int32))) (h5_1 : ¬ (p5 = (1 : Int32))) (h5_2 : ¬ (p5 = (2 : Int32))) :
    MetFree l x (head1 (Jvm.Cond.code x code maxLocals ret :: ws) room_1) (fun a U => a = #[(.int p0), (.int p1), (.int p2), (.int p3), (.int p4), (.int p5)] ∧ Z.Warmed39 U.vm ∧ U.heap = h0) (fun _ _ _ _ _ => True) (fun _ U o U' => ∃ v L, o = .returned v ∧ own_QL n0 v U'.heap L ∧ FrameEnd U o U' L room_1.cells room_1.slots) := by
  refine MetFree.of_bodySF (plainFor_of_name pn_0) hisR ?_
  intro p e s m args below meth c s₁ Bd hml0 hP hK
  obtain ⟨rfl, hZ, hh⟩ := hP
  have hx := Bd.exec
  have hby := Bd.bytes
  have hml : c.maxLocals = 14 := hml0
  have hown : s.vm.findClass "com/example/pipewright/pipewright/io/StateGetPinLaw" = some m.cls := findClass_of_methodNamed Bd.named
  have hnm := (name_of_methodNamed Bd.named Bd.method).1
  have X0 : Stand p l e room_1 s m #[(.int p0), (.int p1), (.int p2), (.int p3), (.int p4), (.int p5)] below meth c s₁ [] 0 0 := Stand.of_body Bd
  have e0 : s₁.heap = h0 := by rw [← hh, Bd.state]; rfl
  have N0 := Fr.nil n0
  have pre0 : ∀ t, Steps p.tables e below (s₁.setTop (mkF m 0 #[iv p0, iv p1, iv p2, iv p3, iv p4, iv p5, .unset, .unset, .unset, .unset, .unset, .unset, .unset, .unset] [])) t → Steps p.tables e below (s₁.setTop (entryFrame m #[(.int p0), (.int p1), (.int p2), (.int p3), (.int p4), (.int p5)] maxLocals)) t := fun t k => castTop (ef_0_IIIIII m p0 p1 p2 p3 p4 p5) k
  obtain ⟨_, _, ⟨T1, L1, k1, n1⟩, -, X1, ⟨Lc1, hQ1, l1, y1, z1⟩, st1⟩ := Jvm.LawKit.callS X0 hx (y := (⟨"com/example/pipewright/pipewright/io/StateGetPinLaw", "pick", "(I)Lcom/example/pipewright/pipewright/io/Iso2022Layout$GraphicSet;"⟩ : MethodName)) hown (mvT hZ (hw _ (List.mem_of_getElem? (i := 0) rfl))) (mvT hZ (hw _ (List.mem_of_getElem? (i := 1) rfl))) (mvT hZ (hw _ (List.mem_of_getElem? (i := 2) rfl))) (mvT hZ (hw _ (List.mem_of_getElem? (i := 3) rfl))) (by decide) (backOf (W := 0) (rk1 l Z a0 hw [] w_GraphicSet_ASCII w_GraphicSet_UNREAD_ONE_BYTE w_GraphicSet_JIS_X_0201_KATAKANA w_GraphicSet_JIS_X_0201_ROMAN w_GraphicSet_JIS_X_0208 w_GraphicSet_CNS_11643_3 w_GraphicSet_UNREAD_TWO_BYTES w_GraphicSet_KS_X_1001 w_GraphicSet_CNS_11643_6 w_GraphicSet_CNS_11643_2 w_GraphicSet_CNS_11643_5 w_GraphicSet_CNS_11643_1 w_GraphicSet_CNS_11643_4 w_GraphicSet_JIS_X_0212 w_GraphicSet_GB_2312 w_GraphicSet_CNS_11643_7 p0 h0 n0 Z0 S_GraphicSet_ASCII S_GraphicSet_JIS_X_0201_ROMAN S_GraphicSet_JIS_X_0201_KATAKANA S_GraphicSet_UNREAD_ONE_BYTE S_GraphicSet_JIS_X_0208 S_GraphicSet_JIS_X_0212 S_GraphicSet_GB_2312 S_GraphicSet_KS_X_1001 S_GraphicSet_CNS_11643_1 S_GraphicSet_CNS_11643_2 S_GraphicSet_CNS_11643_3 S_GraphicSet_CNS_11643_4 S_GraphicSet_CNS_11643_5 S_GraphicSet_CNS_11643_6 S_GraphicSet_CNS_11643_7 S_GraphicSet_UNREAD_TWO_BYTES) hZ (hw _ (List.mem_of_getElem? (i := 3) rfl)) (hw _ (List.mem_of_getElem? (i := 2) rfl)) (by decide) (by decide)) (g := (mkF m 1 #[iv p0, iv p1, iv p2, iv p3, iv p4, iv p5, .unset, .unset, .unset, .unset, .unset, .unset, .unset, .unset] [(.int p0)])) rfl (by rw [hml]; rfl) (argsL := [(.int p0)]) (rest := []) (lenOf pd_0 rfl) rfl (by show 2 * 0 + _ ≤ _; exact Nat.le_of_eq rfl) (hb hby at_1) (fun _ _ => ⟨rfl, e0, (by decide : 0 + 0 ≤ _), (by decide : 0 + 0 ≤ _)⟩)
  dsimp only [Pt.U, Pt.locs, Pt.cells, Pt.slots] at X1 l1 y1 z1 st1 hQ1
  subst l1 y1 z1
  obtain ⟨u0_1, rfl, hr_u0_1, N1q, e1⟩ := hQ1
  have N1 := Fr.app N0 N1q
  obtain ⟨_, _, ⟨T2, L2, k2, n2⟩, -, X2, ⟨Lc2, hQ2, l2, y2, z2⟩, st2⟩ := Jvm.LawKit.callS X1 hx (y := (⟨"com/example/pipewright/pipewright/io/StateGetPinLaw", "pick", "(I)Lcom/example/pipewright/pipewright/io/Iso2022Layout$GraphicSet;"⟩ : MethodName)) hown (mvT hZ (hw _ (List.mem_of_getElem? (i := 0) rfl))) (mvT hZ (hw _ (List.mem_of_getElem? (i := 1) rfl))) (mvT hZ (hw _ (List.mem_of_getElem? (i := 2) rfl))) (mvT hZ (hw _ (List.mem_of_getElem? (i := 3) rfl))) (by decide) (backOf (W := 0) (rk1 l Z a0 hw [] w_GraphicSet_ASCII w_GraphicSet_UNREAD_ONE_BYTE w_GraphicSet_JIS_X_0201_KATAKANA w_GraphicSet_JIS_X_0201_ROMAN w_GraphicSet_JIS_X_0208 w_GraphicSet_CNS_11643_3 w_GraphicSet_UNREAD_TWO_BYTES w_GraphicSet_KS_X_1001 w_GraphicSet_CNS_11643_6 w_GraphicSet_CNS_11643_2 w_GraphicSet_CNS_11643_5 w_GraphicSet_CNS_11643_1 w_GraphicSet_CNS_11643_4 w_GraphicSet_JIS_X_0212 w_GraphicSet_GB_2312 w_GraphicSet_CNS_11643_7 p1 h0 n0 Z0 S_GraphicSet_ASCII S_GraphicSet_JIS_X_0201_ROMAN S_GraphicSet_JIS_X_0201_KATAKANA S_GraphicSet_UNREAD_ONE_BYTE S_GraphicSet_JIS_X_0208 S_GraphicSet_JIS_X_0212 S_GraphicSet_GB_2312 S_GraphicSet_KS_X_1001 S_GraphicSet_CNS_11643_1 S_GraphicSet_CNS_11643_2 S_GraphicSet_CNS_11643_3 S_GraphicSet_CNS_11643_4 S_GraphicSet_CNS_11643_5 S_GraphicSet_CNS_11643_6 S_GraphicSet_CNS_11643_7 S_GraphicSet_UNREAD_TWO_BYTES) hZ (hw _ (List.mem_of_getElem? (i := 3) rfl)) (hw _ (List.mem_of_getElem? (i := 2) rfl)) (by decide) (by decide)) (g := (mkF m 7 #[iv p0, iv p1, iv p2, iv p3, iv p4, iv p5, .val u0_1, .unset, .unset, .unset, .unset, .unset, .unset, .unset] [(.int p1)])) rfl (by rw [hml]; rfl) (argsL := [(.int p1)]) (rest := []) (lenOf pd_0 rfl) rfl (by show 2 * 0 + _ ≤ _; exact Nat.le_of_eq rfl) (hb hby at_7) (fun _ _ => ⟨rfl, e1, (by decide : 0 + 0 ≤ _), (by decide : 0 + 0 ≤ _)⟩)
  dsimp only [Pt.U, Pt.locs, Pt.cells, Pt.slots] at X2 l2 y2 z2 st2 hQ2
  subst l2 y2 z2
  obtain ⟨u0_2, rfl, hr_u0_2, N2q, e2⟩ := hQ2
  have N2 := Fr.app N1 N2q
  obtain ⟨_, _, ⟨T3, L3, k3, n3⟩, -, X3, ⟨Lc3, hQ3, l3, y3, z3⟩, st3⟩ := Jvm.LawKit.callS X2 hx (y := (⟨"com/example/pipewright/pipewright/io/StateGetPinLaw", "pick", "(I)Lcom/example/pipewright/pipewright/io/Iso2022Layout$GraphicSet;"⟩ : MethodName)) hown (mvT hZ (hw _ (List.mem_of_getElem? (i := 0) rfl))) (mvT hZ (hw _ (List.mem_of_getElem? (i := 1) rfl))) (mvT hZ (hw _ (List.mem_of_getElem? (i := 2) rfl))) (mvT hZ (hw _ (List.mem_of_getElem? (i := 3) rfl))) (by decide) (backOf (W := 0) (rk1 l Z a0 hw [] w_GraphicSet_ASCII w_GraphicSet_UNREAD_ONE_BYTE w_GraphicSet_JIS_X_0201_KATAKANA w_GraphicSet_JIS_X_0201_ROMAN w_GraphicSet_JIS_X_0208 w_GraphicSet_CNS_11643_3 w_GraphicSet_UNREAD_TWO_BYTES w_GraphicSet_KS_X_1001 w_GraphicSet_CNS_11643_6 w_GraphicSet_CNS_11643_2 w_GraphicSet_CNS_11643_5 w_GraphicSet_CNS_11643_1 w_GraphicSet_CNS_11643_4 w_GraphicSet_JIS_X_0212 w_GraphicSet_GB_2312 w_GraphicSet_CNS_11643_7 p2 h0 n0 Z0 S_GraphicSet_ASCII S_GraphicSet_JIS_X_0201_ROMAN S_GraphicSet_JIS_X_0201_KATAKANA S_GraphicSet_UNREAD_ONE_BYTE S_GraphicSet_JIS_X_0208 S_GraphicSet_JIS_X_0212 S_GraphicSet_GB_2312 S_GraphicSet_KS_X_1001 S_GraphicSet_CNS_11643_1 S_GraphicSet_CNS_11643_2 S_GraphicSet_CNS_11643_3 S_GraphicSet_CNS_11643_4 S_GraphicSet_CNS_11643_5 S_GraphicSet_CNS_11643_6 S_GraphicSet_CNS_11643_7 S_GraphicSet_UNREAD_TWO_BYTES) hZ (hw _ (List.mem_of_getElem? (i := 3) rfl)) (hw _ (List.mem_of_getElem? (i := 2) rfl)) (by decide) (by decide)) (g := (mkF m 13 #[iv p0, iv p1, iv p2, iv p3, iv p4, iv p5, .val u0_1, .val u0_2, .unset, .unset, .unset, .unset, .unset, .unset] [(.int p2)])) rfl (by rw [hml]; rfl) (argsL := [(.int p2)]) (rest := []) (lenOf pd_0 rfl) rfl (by show 2 * 0 + _ ≤ _; exact Nat.le_of_eq rfl) (hb hby at_13) (fun _ _ => ⟨rfl, e2, (by decide : 0 + 0 ≤ _), (by decide : 0 + 0 ≤ _)⟩)
  dsimp only [Pt.U, Pt.locs, Pt.cells, Pt.slots] at X3 l3 y3 z3 st3 hQ3
  subst l3 y3 z3
  obtain ⟨u0_3, rfl, hr_u0_3, N3q, e3⟩ := hQ3
  have N3 := Fr.app N2 N3q
  obtain ⟨_, _, ⟨T4, L4, k4, n4⟩, -, X4, ⟨Lc4, hQ4, l4, y4, z4⟩, st4⟩ := Jvm.LawKit.callS X3 hx (y := (⟨"com/example/pipewright/pipewright/io/StateGetPinLaw", "pick", "(I)Lcom/example/pipewright/pipewright/io/Iso2022Layout$GraphicSet;"⟩ : MethodName)) hown (mvT hZ (hw _ (List.mem_of_getElem? (i := 0) rfl))) (mvT hZ (hw _ (List.mem_of_getElem? (i := 1) rfl))) (mvT hZ (hw _ (List.mem_of_getElem? (i := 2) rfl))) (mvT hZ (hw _ (List.mem_of_getElem? (i := 3) rfl))) (by decide) (backOf (W := 0) (rk1 l Z a0 hw [] w_GraphicSet_ASCII w_GraphicSet_UNREAD_ONE_BYTE w_GraphicSet_JIS_X_0201_KATAKANA w_GraphicSet_JIS_X_0201_ROMAN w_GraphicSet_JIS_X_0208 w_GraphicSet_CNS_11643_3 w_GraphicSet_UNREAD_TWO_BYTES w_GraphicSet_KS_X_1001 w_GraphicSet_CNS_11643_6 w_GraphicSet_CNS_11643_2 w_GraphicSet_CNS_11643_5 w_GraphicSet_CNS_11643_1 w_GraphicSet_CNS_11643_4 w_GraphicSet_JIS_X_0212 w_GraphicSet_GB_2312 w_GraphicSet_CNS_11643_7 p3 h0 n0 Z0 S_GraphicSet_ASCII S_GraphicSet_JIS_X_0201_ROMAN S_GraphicSet_JIS_X_0201_KATAKANA S_GraphicSet_UNREAD_ONE_BYTE S_GraphicSet_JIS_X_0208 S_GraphicSet_JIS_X_0212 S_GraphicSet_GB_2312 S_GraphicSet_KS_X_1001 S_GraphicSet_CNS_11643_1 S_GraphicSet_CNS_11643_2 S_GraphicSet_CNS_11643_3 S_GraphicSet_CNS_11643_4 S_GraphicSet_CNS_11643_5 S_GraphicSet_CNS_11643_6 S_GraphicSet_CNS_11643_7 S_GraphicSet_UNREAD_TWO_BYTES) hZ (hw _ (List.mem_of_getElem? (i := 3) rfl)) (hw _ (List.mem_of_getElem? (i := 2) rfl)) (by decide) (by decide)) (g := (mkF m 19 #[iv p0, iv p1, iv p2, iv p3, iv p4, iv p5, .val u0_1, .val u0_2, .val u0_3, .unset, .unset, .unset, .unset, .unset] [(.int p3)])) rfl (by rw [hml]; rfl) (argsL := [(.int p3)]) (rest := []) (lenOf pd_0 rfl) rfl (by show 2 * 0 + _ ≤ _; exact Nat.le_of_eq rfl) (hb hby at_19) (fun _ _ => ⟨rfl, e3, (by decide : 0 + 0 ≤ _), (by decide : 0 + 0 ≤ _)⟩)
  dsimp only [Pt.U, Pt.locs, Pt.cells, Pt.slots] at X4 l4 y4 z4 st4 hQ4
  subst l4 y4 z4
  obtain ⟨u0_4, rfl, hr_u0_4, N4q, e4⟩ := hQ4
  have N4 := Fr.app N3 N4q
  obtain ⟨T5, h5, X5, e5, E5, A5, D5, -, st5⟩ := newO X4 hx hZ hown (hw _ (List.mem_of_getElem? (i := 13) rfl)) (hw _ (List.mem_of_getElem? (i := 14) rfl)) (hw _ (List.mem_of_getElem? (i := 15) rfl)) e4 (g := (mkF m 38 #[iv p0, iv p1, iv p2, iv p3, iv p4, iv p5, .val u0_1, .val u0_2, .val u0_3, .val u0_4, iv (0 : Int32), .unset, .unset, .unset] [])) rfl (hb hby at_38) (by decide) (by decide)
  obtain ⟨b0_5, gg5⟩ : ∃ z, z = h0.size := ⟨_, rfl⟩
  rw [← gg5] at A5 D5 st5
  have g_b0_5 : n0 ≤ b0_5 := Nat.le_trans Z0 (Nat.le_of_eq gg5.symm)
  have sz_b0_5 : h0.size ≤ b0_5 := Nat.le_trans (Keep.refl h0 []).1 (Nat.le_of_eq gg5.symm)
  have Z5 : n0 ≤ h5.size := Nat.le_trans Z0 E5.1
  have KK5 : Keep h0 h5 [] := (Keep.refl h0 []).ext E5
  have E_b0_5 : Exa Z h5 b0_5 "com/example/pipewright/pipewright/io/Iso2022Layout$State" := A5
  have F_b0_5_g0 : Fld Z h5 b0_5 "com/example/pipewright/pipewright/io/Iso2022Layout$State" "g0" "Lcom/example/pipewright/pipewright/io/Iso2022Layout$GraphicSet;" .null := D5 (Or.inr (hw _ (List.mem_of_getElem? (i := 28) rfl))) (ty := (.object "com/example/pipewright/pipewright/io/Iso2022Layout$GraphicSet")) (by decide)
  have F_b0_5_g1 : Fld Z h5 b0_5 "com/example/pipewright/pipewright/io/Iso2022Layout$State" "g1" "Lcom/example/pipewright/pipewright/io/Iso2022Layout$GraphicSet;" .null := D5 (Or.inr (hw _ (List.mem_of_getElem? (i := 30) rfl))) (ty := (.object "com/example/pipewright/pipewright/io/Iso2022Layout$GraphicSet")) (by decide)
  have F_b0_5_g2 : Fld Z h5 b0_5 "com/example/pipewright/pipewright/io/Iso2022Layout$State" "g2" "Lcom/example/pipewright/pipewright/io/Iso2022Layout$GraphicSet;" .null := D5 (Or.inr (hw _ (List.mem_of_getElem? (i := 32) rfl))) (ty := (.object "com/example/pipewright/pipewright/io/Iso2022Layout$GraphicSet")) (by decide)
  have F_b0_5_g3 : Fld Z h5 b0_5 "com/example/pipewright/pipewright/io/Iso2022Layout$State" "g3" "Lcom/example/pipewright/pipewright/io/Iso2022Layout$GraphicSet;" .null := D5 (Or.inr (hw _ (List.mem_of_getElem? (i := 34) rfl))) (ty := (.object "com/example/pipewright/pipewright/io/Iso2022Layout$GraphicSet")) (by decide)
  have F_b0_5_shifted : Fld Z h5 b0_5 "com/example/pipewright/pipewright/io/Iso2022Layout$State" "shifted" "Z" (.int (0 : Int32)) := D5 (Or.inr (hw _ (List.mem_of_getElem? (i := 36) rfl))) (ty := .boolean) (by decide)
  obtain ⟨_, _, ⟨T6, L6, k6, n6⟩, -, X6, ⟨Lc6, hQ6, l6, y6, z6⟩, st6⟩ := X5.specialBack hx (y := (⟨"com/example/pipewright/pipewright/io/Iso2022Layout$State", "<init>", "(Lcom/example/pipewright/pipewright/io/Iso2022Layout$GraphicSet;Lcom/example/pipewright/pipewright/io/Iso2022Layout$GraphicSet;Lcom/example/pipewright/pipewright/io/Iso2022Layout$GraphicSet;Lcom/example/pipewright/pipewright/io/Iso2022Layout$GraphicSet;Z)V"⟩ : MethodName)) rfl hown (mvT hZ (hw _ (List.mem_of_getElem? (i := 16) rfl))) (mvT hZ (hw _ (List.mem_of_getElem? (i := 17) rfl))) (mvT hZ (hw _ (List.mem_of_getElem? (i := 18) rfl))) (by decide) (backOf (W := 1) (rm2_0 l Z a0 hw [] u0_1 u0_2 u0_3 u0_4 b0_5 h5 n0 Z5 hr_u0_1 E_b0_5 F_b0_5_g0 g_b0_5 hr_u0_2 F_b0_5_g1 hr_u0_3 F_b0_5_g2 hr_u0_4 F_b0_5_g3 F_b0_5_shifted) hZ (hw _ (List.mem_of_getElem? (i := 18) rfl)) (hw _ (List.mem_of_getElem? (i := 15) rfl)) (by decide) (by decide)) (g := (mkF m 52 #[iv p0, iv p1, iv p2, iv p3, iv p4, iv p5, .val u0_1, .val u0_2, .val u0_3, .val u0_4, iv (0 : Int32), .unset, .unset, .unset] [(.int (0 : Int32)), u0_4, u0_3, u0_2, u0_1, (.ref b0_5), (.ref b0_5)])) rfl (by rw [hml]; rfl) (Steps.refl _) (a := b0_5) (argsL := [u0_1, u0_2, u0_3, u0_4, (.int (0 : Int32))]) (rest := [(.ref b0_5)]) (lenOf pd_2 rfl) rfl (by show 2 * 0 + _ ≤ _; exact Nat.le_of_eq rfl) (hb hby at_52) (fun _ _ => ⟨rfl, e5, (by decide : 1 + 0 ≤ _), (by decide : 5 + 0 ≤ _)⟩)
  dsimp only [Pt.U, Pt.locs, Pt.cells, Pt.slots] at X6 l6 y6 z6 st6 hQ6
  subst l6 y6 z6
  obtain ⟨rfl, N6q, K6, fq6_0, fq6_1, fq6_2, fq6_3, fq6_4, fq6_5⟩ := hQ6
  have KK6 : Keep h0 T6.heap [] := KK5.trans K6 (allS (P := fun x => x ∈ [] ∨ h0.size ≤ x) (Or.inr sz_b0_5) all0)
  have Z6 : n0 ≤ T6.heap.size := Nat.le_trans Z5 K6.1
  have N6 := Fr.app N4 N6q
  obtain ⟨cq7, kq7, q7a, q7b, q7c⟩ := isOf hZ rfl fq6_5
  obtain ⟨_, _, ⟨T7, L7, k7, n7⟩, -, X7, ⟨Lc7, hQ7, l7, y7, z7⟩, st7⟩ := X6.virtualBack hx (y := (⟨"com/example/pipewright/pipewright/io/Iso2022Layout$State", "get", "(I)Lcom/example/pipewright/pipewright/io/Iso2022Layout$GraphicSet;"⟩ : MethodName)) (z := (⟨"com/example/pipewright/pipewright/io/Iso2022Layout$State", "get", "(I)Lcom/example/pipewright/pipewright/io/Iso2022Layout$GraphicSet;"⟩ : MethodName)) hown (mvT hZ (hw _ (List.mem_of_getElem? (i := 37) rfl))) (mvT hZ (hw _ (List.mem_of_getElem? (i := 38) rfl))) (notFace_of_selects (args := #[]) (mvT hZ (hw _ (List.mem_of_getElem? (i := 40) rfl)))) (mvT hZ (hw _ (List.mem_of_getElem? (i := 40) rfl))) (mvT hZ (hw _ (List.mem_of_getElem? (i := 39) rfl))) (by decide) (backOf (W := 0) (rm5_5 l Z a0 hw [] p5 u0_4 b0_5 T6.heap n0 Z6 h5_0 h5_1 h5_2 fq6_3 hr_u0_4) hZ (hw _ (List.mem_of_getElem? (i := 41) rfl)) (hw _ (List.mem_of_getElem? (i := 15) rfl)) (by decide) (by decide)) q7a q7c (g := (mkF m 61 #[iv p0, iv p1, iv p2, iv p3, iv p4, iv p5, .val u0_1, .val u0_2, .val u0_3, .val u0_4, iv (0 : Int32), rv b0_5, .unset, .unset] [(.int p5), (.ref b0_5)])) rfl (by rw [hml]; rfl) (Steps.refl _) (argsL := [(.int p5)]) (rest := []) (lenOf pd_0 rfl) rfl (by show 2 * 0 + _ ≤ _; exact Nat.le_of_eq rfl) (hb hby at_61) (fun _ _ => ⟨rfl, rfl, (by decide : 1 + 0 ≤ _), (by decide : 5 + 0 ≤ _)⟩)
  dsimp only [Pt.U, Pt.locs, Pt.cells, Pt.slots] at X7 l7 y7 z7 st7 hQ7
  subst l7 y7 z7
  obtain ⟨rfl, N7q, e7⟩ := hQ7
  have N7 := Fr.app N6 N7q
  obtain ⟨fs, hr, hrun, hended, hW, hsame⟩ := X7.leave (v := (some (.int (1 : Int32)))) (fun h => by rw [Bd.returns] at h; cases h)
  refine ⟨_, _, pre0 _ ?_, hrun, hended, _, _, rfl, ?_, ⟨_, rfl⟩, hW, hsame.mono (by decide) (by decide)⟩
  · show Steps p.tables e below (s₁.setTop (mkF m 0 #[iv p0, iv p1, iv p2, iv p3, iv p4, iv p5, .unset, .unset, .unset, .unset, .unset, .unset, .unset, .unset] [])) _
    refine XS.iloadN X0.here hx rfl (hb hby at_0) rfl ?_
    show Steps p.tables e below (s₁.setTop (mkF m 1 #[iv p0, iv p1, iv p2, iv p3, iv p4, iv p5, .unset, .unset, .unset, .unset, .unset, .unset, .unset, .unset] [(.int p0)])) _
    refine st1 _ ?_
    show Steps p.tables e below (T1.setTop (mkF m 4 #[iv p0, iv p1, iv p2, iv p3, iv p4, iv p5, .unset, .unset, .unset, .unset, .unset, .unset, .unset, .unset] [u0_1])) _
    refine XS.astore X1.here hx rfl (hb hby at_4) rfl hr_u0_1 (l' := #[iv p0, iv p1, iv p2, iv p3, iv p4, iv p5, .val u0_1, .unset, .unset, .unset, .unset, .unset, .unset, .unset]) (by rcases ref_cases hr_u0_1 with q | ⟨_, q⟩ <;> (subst q; rfl)) ?_
    show Steps p.tables e below (T1.setTop (mkF m 6 #[iv p0, iv p1, iv p2, iv p3, iv p4, iv p5, .val u0_1, .unset, .unset, .unset, .unset, .unset, .unset, .unset] [])) _
    refine XS.iloadN X1.here hx rfl (hb hby at_6) rfl ?_
    show Steps p.tables e below (T1.setTop (mkF m 7 #[iv p0, iv p1, iv p2, iv p3, iv p4, iv p5, .val u0_1, .unset, .unset, .unset, .unset, .unset, .unset, .unset] [(.int p1)])) _
    refine st2 _ ?_
    show Steps p.tables e below (T2.setTop (mkF m 10 #[iv p0, iv p1, iv p2, iv p3, iv p4, iv p5, .val u0_1, .unset, .unset, .unset, .unset, .unset, .unset, .unset] [u0_2])) _
    refine XS.astore X2.here hx rfl (hb hby at_10) rfl hr_u0_2 (l' := #[iv p0, iv p1, iv p2, iv p3, iv p4, iv p5, .val u0_1, .val u0_2, .unset, .unset, .unset, .unset, .unset, .unset]) (by rcases ref_cases hr_u0_2 with q | ⟨_, q⟩ <;> (subst q; rfl)) ?_
    show Steps p.tables e below (T2.setTop (mkF m 12 #[iv p0, iv p1, iv p2, iv p3, iv p4, iv p5, .val u0_1, .val u0_2, .unset, .unset, .unset, .unset, .unset, .unset] [])) _
    refine XS.iloadN X2.here hx rfl (hb hby at_12) rfl ?_
    show Steps p.tables e below (T2.setTop (mkF m 13 #[iv p0, iv p1, iv p2, iv p3, iv p4, iv p5, .val u0_1, .val u0_2, .unset, .unset, .unset, .unset, .unset, .unset] [(.int p2)])) _
    refine st3 _ ?_
    show Steps p.tables e below (T3.setTop (mkF m 16 #[iv p0, iv p1, iv p2, iv p3, iv p4, iv p5, .val u0_1, .val u0_2, .unset, .unset, .unset, .unset, .unset, .unset] [u0_3])) _
    refine XS.astore X3.here hx rfl (hb hby at_16) rfl hr_u0_3 (l' := #[iv p0, iv p1, iv p2, iv p3, iv p4, iv p5, .val u0_1, .val u0_2, .val u0_3, .unset, .unset, .unset, .unset, .unset]) (by rcases ref_cases hr_u0_3 with q | ⟨_, q⟩ <;> (subst q; rfl)) ?_
    show Steps p.tables e below (T3.setTop (mkF m 18 #[iv p0, iv p1, iv p2, iv p3, iv p4, iv p5, .val u0_1, .val u0_2, .val u0_3, .unset, .unset, .unset, .unset, .unset] [])) _
    refine XS.iloadN X3.here hx rfl (hb hby at_18) rfl ?_
    show Steps p.tables e below (T3.setTop (mkF m 19 #[iv p0, iv p1, iv p2, iv p3, iv p4, iv p5, .val u0_1, .val u0_2, .val u0_3, .unset, .unset, .unset, .unset, .unset] [(.int p3)])) _
    refine st4 _ ?_
    show Steps p.tables e below (T4.setTop (mkF m 22 #[iv p0, iv p1, iv p2, iv p3, iv p4, iv p5, .val u0_1, .val u0_2, .val u0_3, .unset, .unset, .unset, .unset, .unset] [u0_4])) _
    refine XS.astore X4.here hx rfl (hb hby at_22) rfl hr_u0_4 (l' := #[iv p0, iv p1, iv p2, iv p3, iv p4, iv p5, .val u0_1, .val u0_2, .val u0_3, .val u0_4, .unset, .unset, .unset, .unset]) (by rcases ref_cases hr_u0_4 with q | ⟨_, q⟩ <;> (subst q; rfl)) ?_
    show Steps p.tables e below (T4.setTop (mkF m 24 #[iv p0, iv p1, iv p2, iv p3, iv p4, iv p5, .val u0_1, .val u0_2, .val u0_3, .val u0_4, .unset, .unset, .unset, .unset] [])) _
    refine XS.iload X4.here hx rfl (hb hby at_24) rfl ?_
    show Steps p.tables e below (T4.setTop (mkF m 26 #[iv p0, iv p1, iv p2, iv p3, iv p4, iv p5, .val u0_1, .val u0_2, .val u0_3, .val u0_4, .unset, .unset, .unset, .unset] [(.int p4)])) _
    refine XS.iconst X4.here hx rfl (hb hby at_26) ?_
    show Steps p.tables e below (T4.setTop (mkF m 27 #[iv p0, iv p1, iv p2, iv p3, iv p4, iv p5, .val u0_1, .val u0_2, .val u0_3, .val u0_4, .unset, .unset, .unset, .unset] [(.int (1 : Int32)), (.int p4)])) _
    refine XS.iand X4.here hx rfl (hb hby at_27) rfl ?_
    show Steps p.tables e below (T4.setTop (mkF m 28 #[iv p0, iv p1, iv p2, iv p3, iv p4, iv p5, .val u0_1, .val u0_2, .val u0_3, .val u0_4, .unset, .unset, .unset, .unset] [(.int (p4 &&& (1 : Int32)))])) _
    rewrite [h4]
    show Steps p.tables e below (T4.setTop (mkF m 28 #[iv p0, iv p1, iv p2, iv p3, iv p4, iv p5, .val u0_1, .val u0_2, .val u0_3, .val u0_4, .unset, .unset, .unset, .unset] [(.int (0 : Int32))])) _
    refine XS.ifYes X4.here hx rfl (pc0 := 28) (pc' := 35) rfl (hb hby at_28) rfl ((if0 _ _).trans (teq (by decide +kernel : (0 : Int32) = (0 : Int32))).1) (by decide) (by decide) ?_
    show Steps p.tables e below (T4.setTop (mkF m 35 #[iv p0, iv p1, iv p2, iv p3, iv p4, iv p5, .val u0_1, .val u0_2, .val u0_3, .val u0_4, .unset, .unset, .unset, .unset] [])) _
    refine XS.iconst X4.here hx rfl (hb hby at_35) ?_
    show Steps p.tables e below (T4.setTop (mkF m 36 #[iv p0, iv p1, iv p2, iv p3, iv p4, iv p5, .val u0_1, .val u0_2, .val u0_3, .val u0_4, .unset, .unset, .unset, .unset] [(.int (0 : Int32))])) _
    refine XS.istore X4.here hx rfl (hb hby at_36) rfl (l' := #[iv p0, iv p1, iv p2, iv p3, iv p4, iv p5, .val u0_1, .val u0_2, .val u0_3, .val u0_4, iv (0 : Int32), .unset, .unset, .unset]) rfl ?_
    show Steps p.tables e below (T4.setTop (mkF m 38 #[iv p0, iv p1, iv p2, iv p3, iv p4, iv p5, .val u0_1, .val u0_2, .val u0_3, .val u0_4, iv (0 : Int32), .unset, .unset, .unset] [])) _
    refine st5 _ ?_
    show Steps p.tables e below (T5.setTop (mkF m 41 #[iv p0, iv p1, iv p2, iv p3, iv p4, iv p5, .val u0_1, .val u0_2, .val u0_3, .val u0_4, iv (0 : Int32), .unset, .unset, .unset] [(.ref b0_5)])) _
    refine XS.dup X5.here hx rfl (hb hby at_41) rfl rfl ?_
    show Steps p.tables e below (T5.setTop (mkF m 42 #[iv p0, iv p1, iv p2, iv p3, iv p4, iv p5, .val u0_1, .val u0_2, .val u0_3, .val u0_4, iv (0 : Int32), .unset, .unset, .unset] [(.ref b0_5), (.ref b0_5)])) _
    refine XS.aload X5.here hx rfl (hb hby at_42) rfl hr_u0_1 ?_
    show Steps p.tables e below (T5.setTop (mkF m 44 #[iv p0, iv p1, iv p2, iv p3, iv p4, iv p5, .val u0_1, .val u0_2, .val u0_3, .val u0_4, iv (0 : Int32), .unset, .unset, .unset] [u0_1, (.ref b0_5), (.ref b0_5)])) _
    refine XS.aload X5.here hx rfl (hb hby at_44) rfl hr_u0_2 ?_
    show Steps p.tables e below (T5.setTop (mkF m 46 #[iv p0, iv p1, iv p2, iv p3, iv p4, iv p5, .val u0_1, .val u0_2, .val u0_3, .val u0_4, iv (0 : Int32), .unset, .unset, .unset] [u0_2, u0_1, (.ref b0_5), (.ref b0_5)])) _
    refine XS.aload X5.here hx rfl (hb hby at_46) rfl hr_u0_3 ?_
    show Steps p.tables e below (T5.setTop (mkF m 48 #[iv p0, iv p1, iv p2, iv p3, iv p4, iv p5, .val u0_1, .val u0_2, .val u0_3, .val u0_4, iv (0 : Int32), .unset, .unset, .unset] [u0_3, u0_2, u0_1, (.ref b0_5), (.ref b0_5)])) _
    refine XS.aload X5.here hx rfl (hb hby at_48) rfl hr_u0_4 ?_
    show Steps p.tables e below (T5.setTop (mkF m 50 #[iv p0, iv p1, iv p2, iv p3, iv p4, iv p5, .val u0_1, .val u0_2, .val u0_3, .val u0_4, iv (0 : Int32), .unset, .unset, .unset] [u0_4, u0_3, u0_2, u0_1, (.ref b0_5), (.ref b0_5)])) _
    refine XS.iload X5.here hx rfl (hb hby at_50) rfl ?_
    show Steps p.tables e below (T5.setTop (mkF m 52 #[iv p0, iv p1, iv p2, iv p3, iv p4, iv p5, .val u0_1, .val u0_2, .val u0_3, .val u0_4, iv (0 : Int32), .unset, .unset, .unset] [(.int (0 : Int32)), u0_4, u0_3, u0_2, u0_1, (.ref b0_5), (.ref b0_5)])) _
    refine st6.trans ?_
    show Steps p.tables e below (T6.setTop (mkF m 55 #[iv p0, iv p1, iv p2, iv p3, iv p4, iv p5, .val u0_1, .val u0_2, .val u0_3, .val u0_4, iv (0 : Int32), .unset, .unset, .unset] [(.ref b0_5)])) _
    refine XS.astore X6.here hx rfl (hb hby at_55) rfl rfl (l' := #[iv p0, iv p1, iv p2, iv p3, iv p4, iv p5, .val u0_1, .val u0_2, .val u0_3, .val u0_4, iv (0 : Int32), rv b0_5, .unset, .unset]) rfl ?_
    show Steps p.tables e below (T6.setTop (mkF m 57 #[iv p0, iv p1, iv p2, iv p3, iv p4, iv p5, .val u0_1, .val u0_2, .val u0_3, .val u0_4, iv (0 : Int32), rv b0_5, .unset, .unset] [])) _
    refine XS.aload X6.here hx rfl (hb hby at_57) rfl rfl ?_
    show Steps p.tables e below (T6.setTop (mkF m 59 #[iv p0, iv p1, iv p2, iv p3, iv p4, iv p5, .val u0_1, .val u0_2, .val u0_3, .val u0_4, iv (0 : Int32), rv b0_5, .unset, .unset] [(.ref b0_5)])) _
    refine XS.iload X6.here hx rfl (hb hby at_59) rfl ?_
    show Steps p.tables e below (T6.setTop (mkF m 61 #[iv p0, iv p1, iv p2, iv p3, iv p4, iv p5, .val u0_1, .val u0_2, .val u0_3, .val u0_4, iv (0 : Int32), rv b0_5, .unset, .unset] [(.int p5), (.ref b0_5)])) _
    refine st7.trans ?_
    show Steps p.tables e below (T7.setTop (mkF m 64 #[iv p0, iv p1, iv p2, iv p3, iv p4, iv p5, .val u0_1, .val u0_2, .val u0_3, .val u0_4, iv (0 : Int32), rv b0_5, .unset, .unset] [u0_4])) _
    refine XS.astore X7.here hx rfl (hb hby at_64) rfl hr_u0_4 (l' := #[iv p0, iv p1, iv p2, iv p3, iv p4, iv p5, .val u0_1, .val u0_2, .val u0_3, .val u0_4, iv (0 : Int32), rv b0_5, .val u0_4, .unset]) (by rcases ref_cases hr_u0_4 with q | ⟨_, q⟩ <;> (subst q; rfl)) ?_
    show Steps p.tables e below (T7.setTop (mkF m 66 #[iv p0, iv p1, iv p2, iv p3, iv p4, iv p5, .val u0_1, .val u0_2, .val u0_3, .val u0_4, iv (0 : Int32), rv b0_5, .val u0_4, .unset] [])) _
    refine XS.iload X7.here hx rfl (hb hby at_66) rfl ?_
    show Steps p.tables e below (T7.setTop (mkF m 68 #[iv p0, iv p1, iv p2, iv p3, iv p4, iv p5, .val u0_1, .val u0_2, .val u0_3, .val u0_4, iv (0 : Int32), rv b0_5, .val u0_4, .unset] [(.int p5)])) _
    refine XS.ifYes X7.here hx rfl (pc0 := 68) (pc' := 78) rfl (hb hby at_68) rfl ((if0 _ _).trans (feq h5_0).2) (by decide) (by decide) ?_
    show Steps p.tables e below (T7.setTop (mkF m 78 #[iv p0, iv p1, iv p2, iv p3, iv p4, iv p5, .val u0_1, .val u0_2, .val u0_3, .val u0_4, iv (0 : Int32), rv b0_5, .val u0_4, .unset] [])) _
    refine XS.iload X7.here hx rfl (hb hby at_78) rfl ?_
    show Steps p.tables e below (T7.setTop (mkF m 80 #[iv p0, iv p1, iv p2, iv p3, iv p4, iv p5, .val u0_1, .val u0_2, .val u0_3, .val u0_4, iv (0 : Int32), rv b0_5, .val u0_4, .unset] [(.int p5)])) _
    refine XS.iconst X7.here hx rfl (hb hby at_80) ?_
    show Steps p.tables e below (T7.setTop (mkF m 81 #[iv p0, iv p1, iv p2, iv p3, iv p4, iv p5, .val u0_1, .val u0_2, .val u0_3, .val u0_4, iv (0 : Int32), rv b0_5, .val u0_4, .unset] [(.int (1 : Int32)), (.int p5)])) _
    refine XS.icmpYes X7.here hx rfl (pc0 := 81) (pc' := 91) rfl (hb hby at_81) rfl (feq h5_1).2 (by decide) (by decide) ?_
    show Steps p.tables e below (T7.setTop (mkF m 91 #[iv p0, iv p1, iv p2, iv p3, iv p4, iv p5, .val u0_1, .val u0_2, .val u0_3, .val u0_4, iv (0 : Int32), rv b0_5, .val u0_4, .unset] [])) _
    refine XS.iload X7.here hx rfl (hb hby at_91) rfl ?_
    show Steps p.tables e below (T7.setTop (mkF m 93 #[iv p0, iv p1, iv p2, iv p3, iv p4, iv p5, .val u0_1, .val u0_2, .val u0_3, .val u0_4, iv (0 : Int32), rv b0_5, .val u0_4, .unset] [(.int p5)])) _
    refine XS.iconst X7.here hx rfl (hb hby at_93) ?_
    show Steps p.tables e below (T7.setTop (mkF m 94 #[iv p0, iv p1, iv p2, iv p3, iv p4, iv p5, .val u0_1, .val u0_2, .val u0_3, .val u0_4, iv (0 : Int32), rv b0_5, .val u0_4, .unset] [(.int (2 : Int32)), (.int p5)])) _
    refine XS.icmpYes X7.here hx rfl (pc0 := 94) (pc' := 104) rfl (hb hby at_94) rfl (feq h5_2).2 (by decide) (by decide) ?_
    show Steps p.tables e below (T7.setTop (mkF m 104 #[iv p0, iv p1, iv p2, iv p3, iv p4, iv p5, .val u0_1, .val u0_2, .val u0_3, .val u0_4, iv (0 : Int32), rv b0_5, .val u0_4, .unset] [])) _
    refine XS.aload X7.here hx rfl (hb hby at_104) rfl hr_u0_4 ?_
    show Steps p.tables e below (T7.setTop (mkF m 106 #[iv p0, iv p1, iv p2, iv p3, iv p4, iv p5, .val u0_1, .val u0_2, .val u0_3, .val u0_4, iv (0 : Int32), rv b0_5, .val u0_4, .unset] [u0_4])) _
    refine XS.astore X7.here hx rfl (hb hby at_106) rfl hr_u0_4 (l' := #[iv p0, iv p1, iv p2, iv p3, iv p4, iv p5, .val u0_1, .val u0_2, .val u0_3, .val u0_4, iv (0 : Int32), rv b0_5, .val u0_4, .val u0_4]) (by rcases ref_cases hr_u0_4 with q | ⟨_, q⟩ <;> (subst q; rfl)) ?_
    show Steps p.tables e below (T7.setTop (mkF m 108 #[iv p0, iv p1, iv p2, iv p3, iv p4, iv p5, .val u0_1, .val u0_2, .val u0_3, .val u0_4, iv (0 : Int32), rv b0_5, .val u0_4, .val u0_4] [])) _
    refine XS.aload X7.here hx rfl (hb hby at_108) rfl hr_u0_4 ?_
    show Steps p.tables e below (T7.setTop (mkF m 110 #[iv p0, iv p1, iv p2, iv p3, iv p4, iv p5, .val u0_1, .val u0_2, .val u0_3, .val u0_4, iv (0 : Int32), rv b0_5, .val u0_4, .val u0_4] [u0_4])) _
    refine XS.aload X7.here hx rfl (hb hby at_110) rfl hr_u0_4 ?_
    show Steps p.tables e below (T7.setTop (mkF m 112 #[iv p0, iv p1, iv p2, iv p3, iv p4, iv p5, .val u0_1, .val u0_2, .val u0_3, .val u0_4, iv (0 : Int32), rv b0_5, .val u0_4, .val u0_4] [u0_4, u0_4])) _
    refine Jvm.RoadKit.acmp (g := (mkF m 112 #[iv p0, iv p1, iv p2, iv p3, iv p4, iv p5, .val u0_1, .val u0_2, .val u0_3, .val u0_4, iv (0 : Int32), rv b0_5, .val u0_4, .val u0_4] [u0_4, u0_4])) X7 hx rfl hr_u0_4 hr_u0_4 (pc0 := 112) (pc' := 115) (same := true) rfl (hb hby at_112) rfl (decide_eq_true rfl) (by decide) (by decide) ?_
    show Steps p.tables e below (T7.setTop (mkF m 115 #[iv p0, iv p1, iv p2, iv p3, iv p4, iv p5, .val u0_1, .val u0_2, .val u0_3, .val u0_4, iv (0 : Int32), rv b0_5, .val u0_4, .val u0_4] [])) _
    refine XS.iconst X7.here hx rfl (hb hby at_115) ?_
    show Steps p.tables e below (T7.setTop (mkF m 116 #[iv p0, iv p1, iv p2, iv p3, iv p4, iv p5, .val u0_1, .val u0_2, .val u0_3, .val u0_4, iv (0 : Int32), rv b0_5, .val u0_4, .val u0_4] [(.int (1 : Int32))])) _
    refine XS.goto X7.here hx rfl (pc0 := 116) (pc' := 120) rfl (hb hby at_116) (by decide) (by decide) ?_
    show Steps p.tables e below (T7.setTop (mkF m 120 #[iv p0, iv p1, iv p2, iv p3, iv p4, iv p5, .val u0_1, .val u0_2, .val u0_3, .val u0_4, iv (0 : Int32), rv b0_5, .val u0_4, .val u0_4] [(.int (1 : Int32))])) _
    exact retN X7 hx (t := .boolean) Bd.returns (by simp) (hb hby at_120) hr
  · exact ⟨rfl, N7⟩
def Q_rm2_6 (Z : State) (u0_1 : Value) (u0_2 : Value) (u0_3 : Value) (u0_4 : Value) (b0_5 : Addr) (h0 : Heap) (n0 : Nat) (v : Option Value) (h : Heap) (L : List Loc) : Prop := (v = none) ∧ (Fr n0 L) ∧ (Keep h0 h [b0_5]) ∧ (Fld Z h b0_5 "com/example/pipewright/pipewright/io/Iso2022Layout$State" "g0" "Lcom/example/pipewright/pipewright/io/Iso2022Layout$GraphicSet;" u0_1) ∧ (Fld Z h b0_5 "com/example/pipewright/pipewright/io/Iso2022Layout$State" "g1" "Lcom/example/pipewright/pipewright/io/Iso2022Layout$GraphicSet;" u0_2) ∧ (Fld Z h b0_5 "com/example/pipewright/pipewright/io/Iso2022Layout$State" "g2" "Lcom/example/pipewright/pipewright/io/Iso2022Layout$GraphicSet;" u0_3) ∧ (Fld Z h b0_5 "com/example/pipewright/pipewright/io/Iso2022Layout$State" "g3" "Lcom/example/pipewright/pipewright/io/Iso2022Layout$GraphicSet;" u0_4) ∧ (Fld Z h b0_5 "com/example/pipewright/pipewright/io/Iso2022Layout$State" "shifted" "Z" (.int (1 : Int32))) ∧ (Exa Z h b0_5 "com/example/pipewright/pipewright/io/Iso2022Layout$State")
set_option maxRecDepth 65536 in
set_option maxHeartbeats 40000000 in
theorem rm2_6 (l : Launch) (Z : State) (a0 : Array Value) (hw : ∀ d ∈ tables_1, d.before a0 Z = true) (ws : List Jvm.Cond) (u0_1 : Value) (u0_2 : Value) (u0_3 : Value) (u0_4 : Value) (b0_5 : Addr) (h0 : Heap) (n0 : Nat) (Z0 : n0 ≤ h0.size) (hr_u0_1 : u0_1.isRef = true) (E_b0_5 : Exa Z h0 b0_5 "com/example/pipewright/pipewright/io/Iso2022Layout$State") (F_b0_5_g0 : Fld Z h0 b0_5 "com/example/pipewright/pipewright/io/Iso2022Layout$State" "g0" "Lcom/example/pipewright/pipewright/io/Iso2022Layout$GraphicSet;" .null) (g_b0_5 : n0 ≤ b0_5) (hr_u0_2 : u0_2.isRef = true) (F_b0_5_g1 : Fld Z h0 b0_5 "com/example/pipewright/pipewright/io/Iso2022Layout$State" "g1" "Lcom/example/pipewright/pipewright/io/Iso2022Layout$GraphicSet;" .null) (hr_u0_3 : u0_3.isRef = true) (F_b0_5_g2 : Fld Z h0 b0_5 "com/example/pipewright/pipewright/io/Iso2022Layout$State" "g2" "Lcom/example/pipewright/pipewright/io/Iso2022Layout$GraphicSet;" .null) (hr_u0_4 : u0_4.isRef = true) (F_b0_5_g3 : Fld Z h0 b0_5 "com/example/pipewright/pipewright/io/Iso2022Layout$State" "g3" "Lcom/example/pipewright/pipewright/io/Iso2022Layout$GraphicSet;" .null) (F_b0_5_shifted : Fld Z h0 b0_5 "com/example/pipewright/pipewright/io/Iso2022Layout$State" "shifted" "Z" (.int (0 : Int32))) :
    MetFree l (⟨"com/example/pipewright/pipewright/io/Iso2022Layout$State", "<init>", "(Lcom/example/pipewright/pipewright/io/Iso2022Layout$GraphicSet;Lcom/example/pipewright/pipewright/io/Iso2022Layout$GraphicSet;Lcom/example/pipewright/pipewright/io/Iso2022Layout$GraphicSet;Lcom/example/pipewright/pipewright/io/Iso2022Layout$GraphicSet;Z)V"⟩ : MethodName) (head1 (Jvm.Cond.code (⟨"com/example/pipewright/pipewright/io/Iso2022Layout$State", "<init>", "(Lcom/example/pipewright/pipewright/io/Iso2022Layout$GraphicSet;Lcom/example/pipewright/pipewright/io/Iso2022Layout$GraphicSet;Lcom/example/pipewright/pipewright/io/Iso2022Layout$GraphicSet;Lcom/example/pipewright/pipewright/io/Iso2022Layout$GraphicSet;Z)V"⟩ : MethodName) prog_25_method_2_code 6 none :: ws) ({ frames := 2, cells := 0, slots := 0, locals := 24 } : Room)) (fun a U => a = #[(.ref b0_5), u0_1, u0_2, u0_3, u0_4, (.int (1 : Int32))] ∧ Z.Warmed39 U.vm ∧ U.heap = h0) (fun _ _ _ _ _ => True) (fun _ U o U' => ∃ v L, o = .returned v ∧ Q_rm2_6 Z u0_1 u0_2 u0_3 u0_4 b0_5 h0 n0 v U'.heap L ∧ FrameEnd U o U' L ({ frames := 2, cells := 0, slots := 0, locals := 24 } : Room).cells ({ frames := 2, cells := 0, slots := 0, locals := 24 } : Room).slots) := by
  refine MetFree.of_bodySF (plainFor_of_name pn_2) hisR ?_
  intro p e s m args below meth c s₁ Bd hml0 hP hK
  obtain ⟨rfl, hZ, hh⟩ := hP
  have hx := Bd.exec
  have hby := Bd.bytes
  have hml : c.maxLocals = 6 := hml0
  have hown : s.vm.findClass "com/example/pipewright/pipewright/io/Iso2022Layout$State" = some m.cls := findClass_of_methodNamed Bd.named
  have hnm := (name_of_methodNamed Bd.named Bd.method).1
  have X0 : Stand p l e ({ frames := 2, cells := 0, slots := 0, locals := 24 } : Room) s m #[(.ref b0_5), u0_1, u0_2, u0_3, u0_4, (.int (1 : Int32))] below meth c s₁ [] 0 0 := Stand.of_body Bd
  have e0 : s₁.heap = h0 := by rw [← hh, Bd.state]; rfl
  have N0 := Fr.nil n0
  have pre0 : ∀ t, Steps p.tables e below (s₁.setTop (mkF m 0 #[rv b0_5, .val u0_1, .val u0_2, .val u0_3, .val u0_4, iv (1 : Int32)] [])) t → Steps p.tables e below (s₁.setTop (entryFrame m #[(.ref b0_5), u0_1, u0_2, u0_3, u0_4, (.int (1 : Int32))] 6)) t := fun t k => castTop (ef_2_RVVVVI m b0_5 u0_1 u0_2 u0_3 u0_4 (1 : Int32) hr_u0_1 hr_u0_2 hr_u0_3 hr_u0_4) k
  obtain ⟨_, _, ⟨T1, L1, k1, n1⟩, -, X1, ⟨Lc1, hQ1, l1, y1, z1⟩, st1⟩ := X0.specialBack hx (y := (⟨"java/lang/Record", "<init>", "()V"⟩ : MethodName)) rfl hown (mvT hZ (hw _ (List.mem_of_getElem? (i := 19) rfl))) (mvT hZ (hw _ (List.mem_of_getElem? (i := 20) rfl))) (mvT hZ (hw _ (List.mem_of_getElem? (i := 23) rfl))) (by decide) (backOf (W := 0) (rm3_0 l Z a0 hw [] b0_5 h0 n0 Z0 ) hZ (hw _ (List.mem_of_getElem? (i := 23) rfl)) (hw _ (List.mem_of_getElem? (i := 22) rfl)) (by decide) (by decide)) (g := (mkF m 1 #[rv b0_5, .val u0_1, .val u0_2, .val u0_3, .val u0_4, iv (1 : Int32)] [(.ref b0_5)])) rfl (by rw [hml]; rfl) (Steps.refl _) (a := b0_5) (argsL := []) (rest := []) (lenOf pd_1 rfl) rfl (by show 2 * 0 + _ ≤ _; exact Nat.le_of_eq rfl) (hb hby d2_1) (fun _ _ => ⟨rfl, e0, (by decide : 0 + 0 ≤ _), (by decide : 0 + 0 ≤ _)⟩)
  dsimp only [Pt.U, Pt.locs, Pt.cells, Pt.slots] at X1 l1 y1 z1 st1 hQ1
  subst l1 y1 z1
  obtain ⟨rfl, N1q, e1⟩ := hQ1
  have N1 := Fr.app N0 N1q
  obtain ⟨T2, h2, X2, e2, W2, st2⟩ := putF X1 hx hZ hown (host := "") (Or.inl (hw _ (List.mem_of_getElem? (i := 27) rfl))) Via.refl e1 F_b0_5_g0 E_b0_5 (Or.inr ⟨(hw _ (List.mem_of_getElem? (i := 28) rfl)), rfl, hnm⟩) (hw _ (List.mem_of_getElem? (i := 14) rfl)) (ty := (.object "com/example/pipewright/pipewright/io/Iso2022Layout$GraphicSet")) (by decide) (own_narO _ hr_u0_1) (own_fitsO hr_u0_1) (g := (mkF m 6 #[rv b0_5, .val u0_1, .val u0_2, .val u0_3, .val u0_4, iv (1 : Int32)] [u0_1, (.ref b0_5)])) rfl rfl (hb hby d2_6)
  have fw2 : Fld Z h2 b0_5 "com/example/pipewright/pipewright/io/Iso2022Layout$State" "g0" "Lcom/example/pipewright/pipewright/io/Iso2022Layout$GraphicSet;" u0_1 := F_b0_5_g0.same W2
  have Z2 : n0 ≤ h2.size := Nat.le_trans Z0 (Keep.of_wr W2).1
  have KK2 : Keep h0 h2 [b0_5] := (Keep.refl h0 [b0_5]).wr W2 (Or.inl (List.mem_of_getElem? (i := 0) rfl))
  have N2 := Fr.snoc X2 N1 g_b0_5
  have c3 := (E_b0_5.wr W2)
  have c4 := (F_b0_5_g1.other W2 (Or.inr (slot_ne (Or.inr (hw _ (List.mem_of_getElem? (i := 30) rfl))) (Or.inr (hw _ (List.mem_of_getElem? (i := 28) rfl))) (by decide) (t := (.object "com/example/pipewright/pipewright/io/Iso2022Layout$GraphicSet")) (t' := (.object "com/example/pipewright/pipewright/io/Iso2022Layout$GraphicSet")) (by decide) (by decide))))
  obtain ⟨T5, h5, X5, e5, W5, st5⟩ := putF X2 hx hZ hown (host := "") (Or.inl (hw _ (List.mem_of_getElem? (i := 29) rfl))) Via.refl e2 c4 c3 (Or.inr ⟨(hw _ (List.mem_of_getElem? (i := 30) rfl)), rfl, hnm⟩) (hw _ (List.mem_of_getElem? (i := 14) rfl)) (ty := (.object "com/example/pipewright/pipewright/io/Iso2022Layout$GraphicSet")) (by decide) (own_narO _ hr_u0_2) (own_fitsO hr_u0_2) (g := (mkF m 11 #[rv b0_5, .val u0_1, .val u0_2, .val u0_3, .val u0_4, iv (1 : Int32)] [u0_2, (.ref b0_5)])) rfl rfl (hb hby d2_11)
  have fw5 : Fld Z h5 b0_5 "com/example/pipewright/pipewright/io/Iso2022Layout$State" "g1" "Lcom/example/pipewright/pipewright/io/Iso2022Layout$GraphicSet;" u0_2 := c4.same W5
  have Z5 : n0 ≤ h5.size := Nat.le_trans Z2 (Keep.of_wr W5).1
  have KK5 : Keep h0 h5 [b0_5] := KK2.wr W5 (Or.inl (List.mem_of_getElem? (i := 0) rfl))
  have N5 := Fr.snoc X5 N2 g_b0_5
  have c6 := (c3.wr W5)
  have c7 := ((F_b0_5_g2.other W2 (Or.inr (slot_ne (Or.inr (hw _ (List.mem_of_getElem? (i := 32) rfl))) (Or.inr (hw _ (List.mem_of_getElem? (i := 28) rfl))) (by decide) (t := (.object "com/example/pipewright/pipewright/io/Iso2022Layout$GraphicSet")) (t' := (.object "com/example/pipewright/pipewright/io/Iso2022Layout$GraphicSet")) (by decide) (by decide)))).other W5 (Or.inr (slot_ne (Or.inr (hw _ (List.mem_of_getElem? (i := 32) rfl))) (Or.inr (hw _ (List.mem_of_getElem? (i := 30) rfl))) (by decide) (t := (.object "com/example/pipewright/pipewright/io/Iso2022Layout$GraphicSet")) (t' := (.object "com/example/pipewright/pipewright/io/Iso2022Layout$GraphicSet")) (by decide) (by decide))))
  obtain ⟨T8, h8, X8, e8, W8, st8⟩ := putF X5 hx hZ hown (host := "") (Or.inl (hw _ (List.mem_of_getElem? (i := 31) rfl))) Via.refl e5 c7 c6 (Or.inr ⟨(hw _ (List.mem_of_getElem? (i := 32) rfl)), rfl, hnm⟩) (hw _ (List.mem_of_getElem? (i := 14) rfl)) (ty := (.object "com/example/pipewright/pipewright/io/Iso2022Layout$GraphicSet")) (by decide) (own_narO _ hr_u0_3) (own_fitsO hr_u0_3) (g := (mkF m 16 #[rv b0_5, .val u0_1, .val u0_2, .val u0_3, .val u0_4, iv (1 : Int32)] [u0_3, (.ref b0_5)])) rfl rfl (hb hby d2_16)
  have fw8 : Fld Z h8 b0_5 "com/example/pipewright/pipewright/io/Iso2022Layout$State" "g2" "Lcom/example/pipewright/pipewright/io/Iso2022Layout$GraphicSet;" u0_3 := c7.same W8
  have Z8 : n0 ≤ h8.size := Nat.le_trans Z5 (Keep.of_wr W8).1
  have KK8 : Keep h0 h8 [b0_5] := KK5.wr W8 (Or.inl (List.mem_of_getElem? (i := 0) rfl))
  have N8 := Fr.snoc X8 N5 g_b0_5
  have c9 := (c6.wr W8)
  have c10 := (((F_b0_5_g3.other W2 (Or.inr (slot_ne (Or.inr (hw _ (List.mem_of_getElem? (i := 34) rfl))) (Or.inr (hw _ (List.mem_of_getElem? (i := 28) rfl))) (by decide) (t := (.object "com/example/pipewright/pipewright/io/Iso2022Layout$GraphicSet")) (t' := (.object "com/example/pipewright/pipewright/io/Iso2022Layout$GraphicSet")) (by decide) (by decide)))).other W5 (Or.inr (slot_ne (Or.inr (hw _ (List.mem_of_getElem? (i := 34) rfl))) (Or.inr (hw _ (List.mem_of_getElem? (i := 30) rfl))) (by decide) (t := (.object "com/example/pipewright/pipewright/io/Iso2022Layout$GraphicSet")) (t' := (.object "com/example/pipewright/pipewright/io/Iso2022Layout$GraphicSet")) (by decide) (by decide)))).other W8 (Or.inr (slot_ne (Or.inr (hw _ (List.mem_of_getElem? (i := 34) rfl))) (Or.inr (hw _ (List.mem_of_getElem? (i := 32) rfl))) (by decide) (t := (.object "com/example/pipewright/pipewright/io/Iso2022Layout$GraphicSet")) (t' := (.object "com/example/pipewright/pipewright/io/Iso2022Layout$GraphicSet")) (by decide) (by decide))))
  obtain ⟨T11, h11, X11, e11, W11, st11⟩ := putF X8 hx hZ hown (host := "") (Or.inl (hw _ (List.mem_of_getElem? (i := 33) rfl))) Via.refl e8 c10 c9 (Or.inr ⟨(hw _ (List.mem_of_getElem? (i := 34) rfl)), rfl, hnm⟩) (hw _ (List.mem_of_getElem? (i := 14) rfl)) (ty := (.object "com/example/pipewright/pipewright/io/Iso2022Layout$GraphicSet")) (by decide) (own_narO _ hr_u0_4) (own_fitsO hr_u0_4) (g := (mkF m 22 #[rv b0_5, .val u0_1, .val u0_2, .val u0_3, .val u0_4, iv (1 : Int32)] [u0_4, (.ref b0_5)])) rfl rfl (hb hby d2_22)
  have fw11 : Fld Z h11 b0_5 "com/example/pipewright/pipewright/io/Iso2022Layout$State" "g3" "Lcom/example/pipewright/pipewright/io/Iso2022Layout$GraphicSet;" u0_4 := c10.same W11
  have Z11 : n0 ≤ h11.size := Nat.le_trans Z8 (Keep.of_wr W11).1
  have KK11 : Keep h0 h11 [b0_5] := KK8.wr W11 (Or.inl (List.mem_of_getElem? (i := 0) rfl))
  have N11 := Fr.snoc X11 N8 g_b0_5
  have c12 := (c9.wr W11)
  have c13 := ((((F_b0_5_shifted.other W2 (Or.inr (slot_ne (Or.inr (hw _ (List.mem_of_getElem? (i := 36) rfl))) (Or.inr (hw _ (List.mem_of_getElem? (i := 28) rfl))) (by decide) (t := .boolean) (t' := (.object "com/example/pipewright/pipewright/io/Iso2022Layout$GraphicSet")) (by decide) (by decide)))).other W5 (Or.inr (slot_ne (Or.inr (hw _ (List.mem_of_getElem? (i := 36) rfl))) (Or.inr (hw _ (List.mem_of_getElem? (i := 30) rfl))) (by decide) (t := .boolean) (t' := (.object "com/example/pipewright/pipewright/io/Iso2022Layout$GraphicSet")) (by decide) (by decide)))).other W8 (Or.inr (slot_ne (Or.inr (hw _ (List.mem_of_getElem? (i := 36) rfl))) (Or.inr (hw _ (List.mem_of_getElem? (i := 32) rfl))) (by decide) (t := .boolean) (t' := (.object "com/example/pipewright/pipewright/io/Iso2022Layout$GraphicSet")) (by decide) (by decide)))).other W11 (Or.inr (slot_ne (Or.inr (hw _ (List.mem_of_getElem? (i := 36) rfl))) (Or.inr (hw _ (List.mem_of_getElem? (i := 34) rfl))) (by decide) (t := .boolean) (t' := (.object "com/example/pipewright/pipewright/io/Iso2022Layout$GraphicSet")) (by decide) (by decide))))
  obtain ⟨T14, h14, X14, e14, W14, st14⟩ := putFN X11 hx hZ hown (hw _ (List.mem_of_getElem? (i := 35) rfl)) Via.refl e11 c13 c12 (Or.inr ⟨(hw _ (List.mem_of_getElem? (i := 36) rfl)), rfl, hnm⟩) (hw _ (List.mem_of_getElem? (i := 14) rfl)) (ty := .boolean) (v' := (.int (1 : Int32))) (by decide) rfl rfl (g := (mkF m 28 #[rv b0_5, .val u0_1, .val u0_2, .val u0_3, .val u0_4, iv (1 : Int32)] [(.int (1 : Int32)), (.ref b0_5)])) rfl rfl (hb hby d2_28)
  have fw14 : Fld Z h14 b0_5 "com/example/pipewright/pipewright/io/Iso2022Layout$State" "shifted" "Z" (.int (1 : Int32)) := c13.same W14
  have Z14 : n0 ≤ h14.size := Nat.le_trans Z11 (Keep.of_wr W14).1
  have KK14 : Keep h0 h14 [b0_5] := KK11.wr W14 (Or.inl (List.mem_of_getElem? (i := 0) rfl))
  have N14 := Fr.snoc X14 N11 g_b0_5
  have c15 := ((((fw2.other W5 (Or.inr (slot_ne (Or.inr (hw _ (List.mem_of_getElem? (i := 28) rfl))) (Or.inr (hw _ (List.mem_of_getElem? (i := 30) rfl))) (by decide) (t := (.object "com/example/pipewright/pipewright/io/Iso2022Layout$GraphicSet")) (t' := (.object "com/example/pipewright/pipewright/io/Iso2022Layout$GraphicSet")) (by decide) (by decide)))).other W8 (Or.inr (slot_ne (Or.inr (hw _ (List.mem_of_getElem? (i := 28) rfl))) (Or.inr (hw _ (List.mem_of_getElem? (i := 32) rfl))) (by decide) (t := (.object "com/example/pipewright/pipewright/io/Iso2022Layout$GraphicSet")) (t' := (.object "com/example/pipewright/pipewright/io/Iso2022Layout$GraphicSet")) (by decide) (by decide)))).other W11 (Or.inr (slot_ne (Or.inr (hw _ (List.mem_of_getElem? (i := 28) rfl))) (Or.inr (hw _ (List.mem_of_getElem? (i := 34) rfl))) (by decide) (t := (.object "com/example/pipewright/pipewright/io/Iso2022Layout$GraphicSet")) (t' := (.object "com/example/pipewright/pipewright/io/Iso2022Layout$GraphicSet")) (by decide) (by decide)))).other W14 (Or.inr (slot_ne (Or.inr (hw _ (List.mem_of_getElem? (i := 28) rfl))) (Or.inr (hw _ (List.mem_of_getElem? (i := 36) rfl))) (by decide) (t := (.object "com/example/pipewright/pipewright/io/Iso2022Layout$GraphicSet")) (t' := .boolean) (by decide) (by decide))))
  have c16 := (((fw5.other W8 (Or.inr (slot_ne (Or.inr (hw _ (List.mem_of_getElem? (i := 30) rfl))) (Or.inr (hw _ (List.mem_of_getElem? (i := 32) rfl))) (by decide) (t := (.object "com/example/pipewright/pipewright/io/Iso2022Layout$GraphicSet")) (t' := (.object "com/example/pipewright/pipewright/io/Iso2022Layout$GraphicSet")) (by decide) (by decide)))).other W11 (Or.inr (slot_ne (Or.inr (hw _ (List.mem_of_getElem? (i := 30) rfl))) (Or.inr (hw _ (List.mem_of_getElem? (i := 34) rfl))) (by decide) (t := (.object "com/example/pipewright/pipewright/io/Iso2022Layout$GraphicSet")) (t' := (.object "com/example/pipewright/pipewright/io/Iso2022Layout$GraphicSet")) (by decide) (by decide)))).other W14 (Or.inr (slot_ne (Or.inr (hw _ (List.mem_of_getElem? (i := 30) rfl))) (Or.inr (hw _ (List.mem_of_getElem? (i := 36) rfl))) (by decide) (t := (.object "com/example/pipewright/pipewright/io/Iso2022Layout$GraphicSet")) (t' := .boolean) (by decide) (by decide))))
  have c17 := ((fw8.other W11 (Or.inr (slot_ne (Or.inr (hw _ (List.mem_of_getElem? (i := 32) rfl))) (Or.inr (hw _ (List.mem_of_getElem? (i := 34) rfl))) (by decide) (t := (.object "com/example/pipewright/pipewright/io/Iso2022Layout$GraphicSet")) (t' := (.object "com/example/pipewright/pipewright/io/Iso2022Layout$GraphicSet")) (by decide) (by decide)))).other W14 (Or.inr (slot_ne (Or.inr (hw _ (List.mem_of_getElem? (i := 32) rfl))) (Or.inr (hw _ (List.mem_of_getElem? (i := 36) rfl))) (by decide) (t := (.object "com/example/pipewright/pipewright/io/Iso2022Layout$GraphicSet")) (t' := .boolean) (by decide) (by decide))))
  have c18 := (fw11.other W14 (Or.inr (slot_ne (Or.inr (hw _ (List.mem_of_getElem? (i := 34) rfl))) (Or.inr (hw _ (List.mem_of_getElem? (i := 36) rfl))) (by decide) (t := (.object "com/example/pipewright/pipewright/io/Iso2022Layout$GraphicSet")) (t' := .boolean) (by decide) (by decide))))
  have c19 := (c12.wr W14)
  obtain ⟨fs, hr, hrun, hended, hW, hsame⟩ := X14.leave (v := none) (fun _ => rfl)
  refine ⟨_, _, pre0 _ ?_, hrun, hended, _, _, rfl, ?_, ⟨_, rfl⟩, hW, hsame.mono (by decide) (by decide)⟩
  · show Steps p.tables e below (s₁.setTop (mkF m 0 #[rv b0_5, .val u0_1, .val u0_2, .val u0_3, .val u0_4, iv (1 : Int32)] [])) _
    refine XS.aloadN X0.here hx rfl (hb hby d2_0) rfl rfl ?_
    show Steps p.tables e below (s₁.setTop (mkF m 1 #[rv b0_5, .val u0_1, .val u0_2, .val u0_3, .val u0_4, iv (1 : Int32)] [(.ref b0_5)])) _
    refine st1.trans ?_
    show Steps p.tables e below (T1.setTop (mkF m 4 #[rv b0_5, .val u0_1, .val u0_2, .val u0_3, .val u0_4, iv (1 : Int32)] [])) _
    refine XS.aloadN X1.here hx rfl (hb hby d2_4) rfl rfl ?_
    show Steps p.tables e below (T1.setTop (mkF m 5 #[rv b0_5, .val u0_1, .val u0_2, .val u0_3, .val u0_4, iv (1 : Int32)] [(.ref b0_5)])) _
    refine XS.aloadN X1.here hx rfl (hb hby d2_5) rfl hr_u0_1 ?_
    show Steps p.tables e below (T1.setTop (mkF m 6 #[rv b0_5, .val u0_1, .val u0_2, .val u0_3, .val u0_4, iv (1 : Int32)] [u0_1, (.ref b0_5)])) _
    refine st2 _ ?_
    show Steps p.tables e below (T2.setTop (mkF m 9 #[rv b0_5, .val u0_1, .val u0_2, .val u0_3, .val u0_4, iv (1 : Int32)] [])) _
    refine XS.aloadN X2.here hx rfl (hb hby d2_9) rfl rfl ?_
    show Steps p.tables e below (T2.setTop (mkF m 10 #[rv b0_5, .val u0_1, .val u0_2, .val u0_3, .val u0_4, iv (1 : Int32)] [(.ref b0_5)])) _
    refine XS.aloadN X2.here hx rfl (hb hby d2_10) rfl hr_u0_2 ?_
    show Steps p.tables e below (T2.setTop (mkF m 11 #[rv b0_5, .val u0_1, .val u0_2, .val u0_3, .val u0_4, iv (1 : Int32)] [u0_2, (.ref b0_5)])) _
    refine st5 _ ?_
    show Steps p.tables e below (T5.setTop (mkF m 14 #[rv b0_5, .val u0_1, .val u0_2, .val u0_3, .val u0_4, iv (1 : Int32)] [])) _
    refine XS.aloadN X5.here hx rfl (hb hby d2_14) rfl rfl ?_
    show Steps p.tables e below (T5.setTop (mkF m 15 #[rv b0_5, .val u0_1, .val u0_2, .val u0_3, .val u0_4, iv (1 : Int32)] [(.ref b0_5)])) _
    refine XS.aloadN X5.here hx rfl (hb hby d2_15) rfl hr_u0_3 ?_
    show Steps p.tables e below (T5.setTop (mkF m 16 #[rv b0_5, .val u0_1, .val u0_2, .val u0_3, .val u0_4, iv (1 : Int32)] [u0_3, (.ref b0_5)])) _
    refine st8 _ ?_
    show Steps p.tables e below (T8.setTop (mkF m 19 #[rv b0_5, .val u0_1, .val u0_2, .val u0_3, .val u0_4, iv (1 : Int32)] [])) _
    refine XS.aloadN X8.here hx rfl (hb hby d2_19) rfl rfl ?_
    show Steps p.tables e below (T8.setTop (mkF m 20 #[rv b0_5, .val u0_1, .val u0_2, .val u0_3, .val u0_4, iv (1 : Int32)] [(.ref b0_5)])) _
    refine XS.aload X8.here hx rfl (hb hby d2_20) rfl hr_u0_4 ?_
    show Steps p.tables e below (T8.setTop (mkF m 22 #[rv b0_5, .val u0_1, .val u0_2, .val u0_3, .val u0_4, iv (1 : Int32)] [u0_4, (.ref b0_5)])) _
    refine st11 _ ?_
    show Steps p.tables e below (T11.setTop (mkF m 25 #[rv b0_5, .val u0_1, .val u0_2, .val u0_3, .val u0_4, iv (1 : Int32)] [])) _
    refine XS.aloadN X11.here hx rfl (hb hby d2_25) rfl rfl ?_
    show Steps p.tables e below (T11.setTop (mkF m 26 #[rv b0_5, .val u0_1, .val u0_2, .val u0_3, .val u0_4, iv (1 : Int32)] [(.ref b0_5)])) _
    refine XS.iload X11.here hx rfl (hb hby d2_26) rfl ?_
    show Steps p.tables e below (T11.setTop (mkF m 28 #[rv b0_5, .val u0_1, .val u0_2, .val u0_3, .val u0_4, iv (1 : Int32)] [(.int (1 : Int32)), (.ref b0_5)])) _
    refine st14 _ ?_
    show Steps p.tables e below (T14.setTop (mkF m 31 #[rv b0_5, .val u0_1, .val u0_2, .val u0_3, .val u0_4, iv (1 : Int32)] [])) _
    exact X14.returnOut hx Bd.returns (hb hby d2_31) hr
  · exact (by show Q_rm2_6 Z u0_1 u0_2 u0_3 u0_4 b0_5 h0 n0 _ T14.heap _; rw [e14]; exact ⟨rfl, N14, KK14, c15, c16, c17, c18, fw14, c19⟩)
set_option maxRecDepth 65536 in
set_option maxHeartbeats 40000000 in
theorem rm0_4 (l : Launch) (Z : State) (a0 : Array Value) (hw : ∀ d ∈ tables_1, d.before a0 Z = true) (ws : List Jvm.Cond) (p0 : Int32) (p1 : Int32) (p2 : Int32) (p3 : Int32) (p4 : Int32) (w_GraphicSet_ASCII : Addr) (w_GraphicSet_UNREAD_ONE_BYTE : Addr) (w_GraphicSet_JIS_X_0201_KATAKANA : Addr) (w_GraphicSet_JIS_X_0201_ROMAN : Addr) (w_GraphicSet_JIS_X_0208 : Addr) (w_GraphicSet_CNS_11643_3 : Addr) (w_GraphicSet_UNREAD_TWO_BYTES : Addr) (w_GraphicSet_KS_X_1001 : Addr) (w_GraphicSet_CNS_11643_6 : Addr) (w_GraphicSet_CNS_11643_2 : Addr) (w_GraphicSet_CNS_11643_5 : Addr) (w_GraphicSet_CNS_11643_1 : Addr) (w_GraphicSet_CNS_11643_4 : Addr) (w_GraphicSet_JIS_X_0212 : Addr) (w_GraphicSet_GB_2312 : Addr) (w_GraphicSet_CNS_11643_7 : Addr) (h0 : Heap) (n0 : Nat) (Z0 : n0 ≤ h0.size) (S_GraphicSet_ASCII : Sta Z h0 "com/example/pipewright/pipewright/io/Iso2022Layout$GraphicSet" "ASCII" "Lcom/example/pipewright/pipewright/io/Iso2022Layout$GraphicSet;" (.ref w_GraphicSet_ASCII)) (S_GraphicSet_JIS_X_0201_ROMAN : Sta Z h0 "com/example/pipewright/pipewright/io/Iso2022Layout$GraphicSet" "JIS_X_0201_ROMAN" "Lcom/example/pipewright/pipewright/io/Iso2022Layout$GraphicSet;" (.ref w_GraphicSet_JIS_X_0201_ROMAN)) (S_GraphicSet_JIS_X_0201_KATAKANA : Sta Z h0 "com/example/pipewright/pipewright/io/Iso2022Layout$GraphicSet" "JIS_X_0201_KATAKANA" "Lcom/example/pipewright/pipewright/io/Iso2022Layout$GraphicSet;" (.ref w_GraphicSet_JIS_X_0201_KATAKANA)) (S_GraphicSet_UNREAD_ONE_BYTE : Sta Z h0 "com/example/pipewright/pipewright/io/Iso2022Layout$GraphicSet" "UNREAD_ONE_BYTE" "Lcom/example/pipewright/pipewright/io/Iso2022Layout$GraphicSet;" (.ref w_GraphicSet_UNREAD_ONE_BYTE)) (S_GraphicSet_JIS_X_0208 : Sta Z h0 "com/example/pipewright/pipewright/io/Iso2022Layout$GraphicSet" "JIS_X_0208" "Lcom/example/pipewright/pipewright/io/Iso2022Layout$GraphicSet;" (.ref w_GraphicSet_JIS_X_0208)) (S_GraphicSet_JIS_X_0212 : Sta Z h0 "com/example/pipewright/pipewright/io/Iso2022Layout$GraphicSet" "JIS_X_0212" "Lcom/example/pipewright/pipewright/io/Iso2022Layout$GraphicSet;" (.ref w_GraphicSet_JIS_X_0212)) (S_GraphicSet_GB_2312 : Sta Z h0 "com/example/pipewright/pipewright/io/Iso2022Layout$GraphicSet" "GB_2312" "Lcom/example/pipewright/pipewright/io/Iso2022Layout$GraphicSet;" (.ref w_GraphicSet_GB_2312)) (S_GraphicSet_KS_X_1001 : Sta Z h0 "com/example/pipewright/pipewright/io/Iso2022Layout$GraphicSet" "KS_X_1001" "Lcom/example/pipewright/pipewright/io/Iso2022Layout$GraphicSet;" (.ref w_GraphicSet_KS_X_1001)) (S_GraphicSet_CNS_11643_1 : Sta Z h0 "com/example/pipewright/pipewright/io/Iso2022Layout$GraphicSet" "CNS_11643_1" "Lcom/example/pipewright/pipewright/io/Iso2022Layout$GraphicSet;" (.ref w_GraphicSet_CNS_11643_1)) (S_GraphicSet_CNS_11643_2 : Sta Z h0 "com/example/pipewright/pipewright/io/Iso2022Layout$GraphicSet" "CNS_11643_2" "Lcom/example/pipewright/pipewright/io/Iso2022Layout$GraphicSet;" (.ref w_GraphicSet_CNS_11643_2)) (S_GraphicSet_CNS_11643_3 : Sta Z h0 "com/example/pipewright/pipewright/io/Iso2022Layout$GraphicSet" "CNS_11643_3" "Lcom/example/pipewright/pipewright/io/Iso2022Layout$GraphicSet;" (.ref w_GraphicSet_CNS_11643_3)) (S_GraphicSet_CNS_11643_4 : Sta Z h0 "com/example/pipewright/pipewright/io/Iso2022Layout$GraphicSet" "CNS_11643_4" "Lcom/example/pipewright/pipewright/io/Iso2022Layout$GraphicSet;" (.ref w_GraphicSet_CNS_11643_4)) (S_GraphicSet_CNS_11643_5 : Sta Z h0 "com/example/pipewright/pipewright/io/Iso2022Layout$GraphicSet" "CNS_11643_5" "Lcom/example/pipewright/pipewright/io/Iso2022Layout$GraphicSet;" (.ref w_GraphicSet_CNS_11643_5)) (S_GraphicSet_CNS_11643_6 : Sta Z h0 "com/example/pipewright/pipewright/io/Iso2022Layout$GraphicSet" "CNS_11643_6" "Lcom/example/pipewright/pipewright/io/Iso2022Layout$GraphicSet;" (.ref w_GraphicSet_CNS_11643_6)) (S_GraphicSet_CNS_11643_7 : Sta Z h0 "com/example/pipewright/pipewright/io/Iso2022Layout$GraphicSet" "CNS_11643_7" "Lcom/example/pipewright/pipewright/io/Iso2022Layout$GraphicSet;" (.ref w_GraphicSet_CNS_11643_7)) (S_GraphicSet_UNREAD_TWO_BYTES : Sta Z h0 "com/example/pipewright/pipewright/io/Iso2022Layout$GraphicSet" "UNREAD_TWO_BYTES" "Lcom/example/pipewright/pipewright/io/Iso2022Layout$GraphicSet;" (.ref w_GraphicSet_UNREAD_TWO_BYTES)) (h4 : (p4 &&& (1 : Int32)) = (1 : Int32)) :
    MetFree l x (head1 (Jvm.Cond.code x code maxLocals ret :: ws) room_1) (fun a U => a = #[(.int p0), (.int p1), (.int p2), (.int p3), (.int p4), (.int (0 : Int32))] ∧ Z.Warmed39 U.vm ∧ U.heap = h0) (fun _ _ _ _ _ => True) (fun _ U o U' => ∃ v L, o = .returned v ∧ own_QL n0 v U'.heap L ∧ FrameEnd U o U' L room_1.cells room_1.slots) := by
  refine MetFree.of_bodySF (plainFor_of_name pn_0) hisR ?_
  intro p e s m args below meth c s₁ Bd hml0 hP hK
  obtain ⟨rfl, hZ, hh⟩ := hP
  have hx := Bd.exec
  have hby := Bd.bytes
  have hml : c.maxLocals = 14 := hml0
  have hown : s.vm.findClass "com/example/pipewright/pipewright/io/StateGetPinLaw" = some m.cls := findClass_of_methodNamed Bd.named
  have hnm := (name_of_methodNamed Bd.named Bd.method).1
  have X0 : Stand p l e room_1 s m #[(.int p0), (.int p1), (.int p2), (.int p3), (.int p4), (.int (0 : Int32))] below meth c s₁ [] 0 0 := Stand.of_body Bd
  have e0 : s₁.heap = h0 := by rw [← hh, Bd.state]; rfl
  have N0 := Fr.nil n0
  have pre0 : ∀ t, Steps p.tables e below (s₁.setTop (mkF m 0 #[iv p0, iv p1, iv p2, iv p3, iv p4, iv (0 : Int32), .unset, .unset, .unset, .unset, .unset, .unset, .unset, .unset] [])) t → Steps p.tables e below (s₁.setTop (entryFrame m #[(.int p0), (.int p1), (.int p2), (.int p3), (.int p4), (.int (0 : Int32))] maxLocals)) t := fun t k => castTop (ef_0_IIIIII m p0 p1 p2 p3 p4 (0 : Int32)) k
  obtain ⟨_, _, ⟨T1, L1, k1, n1⟩, -, X1, ⟨Lc1, hQ1, l1, y1, z1⟩, st1⟩ := Jvm.LawKit.callS X0 hx (y := (⟨"com/example/pipewright/pipewright/io/StateGetPinLaw", "pick", "(I)Lcom/example/pipewright/pipewright/io/Iso2022Layout$GraphicSet;"⟩ : MethodName)) hown (mvT hZ (hw _ (List.mem_of_getElem? (i := 0) rfl))) (mvT hZ (hw _ (List.mem_of_getElem? (i := 1) rfl))) (mvT hZ (hw _ (List.mem_of_getElem? (i := 2) rfl))) (mvT hZ (hw _ (List.mem_of_getElem? (i := 3) rfl))) (by decide) (backOf (W := 0) (rk1 l Z a0 hw [] w_GraphicSet_ASCII w_GraphicSet_UNREAD_ONE_BYTE w_GraphicSet_JIS_X_0201_KATAKANA w_GraphicSet_JIS_X_0201_ROMAN w_GraphicSet_JIS_X_0208 w_GraphicSet_CNS_11643_3 w_GraphicSet_UNREAD_TWO_BYTES w_GraphicSet_KS_X_1001 w_GraphicSet_CNS_11643_6 w_GraphicSet_CNS_11643_2 w_GraphicSet_CNS_11643_5 w_GraphicSet_CNS_11643_1 w_GraphicSet_CNS_11643_4 w_GraphicSet_JIS_X_0212 w_GraphicSet_GB_2312 w_GraphicSet_CNS_11643_7 p0 h0 n0 Z0 S_GraphicSet_ASCII S_GraphicSet_JIS_X_0201_ROMAN S_GraphicSet_JIS_X_0201_KATAKANA S_GraphicSet_UNREAD_ONE_BYTE S_GraphicSet_JIS_X_0208 S_GraphicSet_JIS_X_0212 S_GraphicSet_GB_2312 S_GraphicSet_KS_X_1001 S_GraphicSet_CNS_11643_1 S_GraphicSet_CNS_11643_2 S_GraphicSet_CNS_11643_3 S_GraphicSet_CNS_11643_4 S_GraphicSet_CNS_11643_5 S_GraphicSet_CNS_11643_6 S_GraphicSet_CNS_11643_7 S_GraphicSet_UNREAD_TWO_BYTES) hZ (hw _ (List.mem_of_getElem? (i := 3) rfl)) (hw _ (List.mem_of_getElem? (i := 2) rfl)) (by decide) (by decide)) (g := (mkF m 1 #[iv p0, iv p1, iv p2, iv p3, iv p4, iv (0 : Int32), .unset, .unset, .unset, .unset, .unset, .unset, .unset, .unset] [(.int p0)])) rfl (by rw [hml]; rfl) (argsL := [(.int p0)]) (rest := []) (lenOf pd_0 rfl) rfl (by show 2 * 0 + _ ≤ _; exact Nat.le_of_eq rfl) (hb hby at_1) (fun _ _ => ⟨rfl, e0, (by decide : 0 + 0 ≤ _), (by decide : 0 + 0 ≤ _)⟩)
  dsimp only [Pt.U, Pt.locs, Pt.cells, Pt.slots] at X1 l1 y1 z1 st1 hQ1
  subst l1 y1 z1
  obtain ⟨u0_1, rfl, hr_u0_1, N1q, e1⟩ := hQ1
  have N1 := Fr.app N0 N1q
  obtain ⟨_, _, ⟨T2, L2, k2, n2⟩, -, X2, ⟨Lc2, hQ2, l2, y2, z2⟩, st2⟩ := Jvm.LawKit.callS X1 hx (y := (⟨"com/example/pipewright/pipewright/io/StateGetPinLaw", "pick", "(I)Lcom/example/pipewright/pipewright/io/Iso2022Layout$GraphicSet;"⟩ : MethodName)) hown (mvT hZ (hw _ (List.mem_of_getElem? (i := 0) rfl))) (mvT hZ (hw _ (List.mem_of_getElem? (i := 1) rfl))) (mvT hZ (hw _ (List.mem_of_getElem? (i := 2) rfl))) (mvT hZ (hw _ (List.mem_of_getElem? (i := 3) rfl))) (by decide) (backOf (W := 0) (rk1 l Z a0 hw [] w_GraphicSet_ASCII w_GraphicSet_UNREAD_ONE_BYTE w_GraphicSet_JIS_X_0201_KATAKANA w_GraphicSet_JIS_X_0201_ROMAN w_GraphicSet_JIS_X_0208 w_GraphicSet_CNS_11643_3 w_GraphicSet_UNREAD_TWO_BYTES w_GraphicSet_KS_X_1001 w_GraphicSet_CNS_11643_6 w_GraphicSet_CNS_11643_2 w_GraphicSet_CNS_11643_5 w_GraphicSet_CNS_11643_1 w_GraphicSet_CNS_11643_4 w_GraphicSet_JIS_X_0212 w_GraphicSet_GB_2312 w_GraphicSet_CNS_11643_7 p1 h0 n0 Z0 S_GraphicSet_ASCII S_GraphicSet_JIS_X_0201_ROMAN S_GraphicSet_JIS_X_0201_KATAKANA S_GraphicSet_UNREAD_ONE_BYTE S_GraphicSet_JIS_X_0208 S_GraphicSet_JIS_X_0212 S_GraphicSet_GB_2312 S_GraphicSet_KS_X_1001 S_GraphicSet_CNS_11643_1 S_GraphicSet_CNS_11643_2 S_GraphicSet_CNS_11643_3 S_GraphicSet_CNS_11643_4 S_GraphicSet_CNS_11643_5 S_GraphicSet_CNS_11643_6 S_GraphicSet_CNS_11643_7 S_GraphicSet_UNREAD_TWO_BYTES) hZ (hw _ (List.mem_of_getElem? (i := 3) rfl)) (hw _ (List.mem_of_getElem? (i := 2) rfl)) (by decide) (by decide)) (g := (mkF m 7 #[iv p0, iv p1, iv p2, iv p3, iv p4, iv (0 : Int32), .val u0_1, .unset, .unset, .unset, .unset, .unset, .unset, .unset] [(.int p1)])) rfl (by rw [hml]; rfl) (argsL := [(.int p1)]) (rest := []) (lenOf pd_0 rfl) rfl (by show 2 * 0 + _ ≤ _; exact Nat.le_of_eq rfl) (hb hby at_7) (fun _ _ => ⟨rfl, e1, (by decide : 0 + 0 ≤ _), (by decide : 0 + 0 ≤ _)⟩)
  dsimp only [Pt.U, Pt.locs, Pt.cells, Pt.slots] at X2 l2 y2 z2 st2 hQ2
  subst l2 y2 z2
  obtain ⟨u0_2, rfl, hr_u0_2, N2q, e2⟩ := hQ2
  have N2 := Fr.app N1 N2q
  obtain ⟨_, _, ⟨T3, L3, k3, n3⟩, -, X3, ⟨Lc3, hQ3, l3, y3, z3⟩, st3⟩ := Jvm.LawKit.callS X2 hx (y := (⟨"com/example/pipewright/pipewright/io/StateGetPinLaw", "pick", "(I)Lcom/example/pipewright/pipewright/io/Iso2022Layout$GraphicSet;"⟩ : MethodName)) hown (mvT hZ (hw _ (List.mem_of_getElem? (i := 0) rfl))) (mvT hZ (hw _ (List.mem_of_getElem? (i := 1) rfl))) (mvT hZ (hw _ (List.mem_of_getElem? (i := 2) rfl))) (mvT hZ (hw _ (List.mem_of_getElem? (i := 3) rfl))) (by decide) (backOf (W := 0) (rk1 l Z a0 hw [] w_GraphicSet_ASCII w_GraphicSet_UNREAD_ONE_BYTE w_GraphicSet_JIS_X_0201_KATAKANA w_GraphicSet_JIS_X_0201_ROMAN w_GraphicSet_JIS_X_0208 w_GraphicSet_CNS_11643_3 w_GraphicSet_UNREAD_TWO_BYTES w_GraphicSet_KS_X_1001 w_GraphicSet_CNS_11643_6 w_GraphicSet_CNS_11643_2 w_GraphicSet_CNS_11643_5 w_GraphicSet_CNS_11643_1 w_GraphicSet_CNS_11643_4 w_GraphicSet_JIS_X_0212 w_GraphicSet_GB_2312 w_GraphicSet_CNS_11643_7 p2 h0 n0 Z0 S_GraphicSet_ASCII S_GraphicSet_JIS_X_0201_ROMAN S_GraphicSet_JIS_X_0201_KATAKANA S_GraphicSet_UNREAD_ONE_BYTE S_GraphicSet_JIS_X_0208 S_GraphicSet_JIS_X_0212 S_GraphicSet_GB_2312 S_GraphicSet_KS_X_1001 S_GraphicSet_CNS_11643_1 S_GraphicSet_CNS_11643_2 S_GraphicSet_CNS_11643_3 S_GraphicSet_CNS_11643_4 S_GraphicSet_CNS_11643_5 S_GraphicSet_CNS_11643_6 S_GraphicSet_CNS_11643_7 S_GraphicSet_UNREAD_TWO_BYTES) hZ (hw _ (List.mem_of_getElem? (i := 3) rfl)) (hw _ (List.mem_of_getElem? (i := 2) rfl)) (by decide) (by decide)) (g := (mkF m 13 #[iv p0, iv p1, iv p2, iv p3, iv p4, iv (0 : Int32), .val u0_1, .val u0_2, .unset, .unset, .unset, .unset, .unset, .unset] [(.int p2)])) rfl (by rw [hml]; rfl) (argsL := [(.int p2)]) (rest := []) (lenOf pd_0 rfl) rfl (by show 2 * 0 + _ ≤ _; exact Nat.le_of_eq rfl) (hb hby at_13) (fun _ _ => ⟨rfl, e2, (by decide : 0 + 0 ≤ _), (by decide : 0 + 0 ≤ _)⟩)
  dsimp only [Pt.U, Pt.locs, Pt.cells, Pt.slots] at X3 l3 y3 z3 st3 hQ3
  subst l3 y3 z3
  obtain ⟨u0_3, rfl, hr_u0_3, N3q, e3⟩ := hQ3
  have N3 := Fr.app N2 N3q
  obtain ⟨_, _, ⟨T4, L4, k4, n4⟩, -, X4, ⟨Lc4, hQ4, l4, y4, z4⟩, st4⟩ := Jvm.LawKit.callS X3 hx (y := (⟨"com/example/pipewright/pipewright/io/StateGetPinLaw", "pick", "(I)Lcom/example/pipewright/pipewright/io/Iso2022Layout$GraphicSet;"⟩ : MethodName)) hown (mvT hZ (hw _ (List.mem_of_getElem? (i := 0) rfl))) (mvT hZ (hw _ (List.mem_of_getElem? (i := 1) rfl))) (mvT hZ (hw _ (List.mem_of_getElem? (i := 2) rfl))) (mvT hZ (hw _ (List.mem_of_getElem? (i := 3) rfl))) (by decide) (backOf (W := 0) (rk1 l Z a0 hw [] w_GraphicSet_ASCII w_GraphicSet_UNREAD_ONE_BYTE w_GraphicSet_JIS_X_0201_KATAKANA w_GraphicSet_JIS_X_0201_ROMAN w_GraphicSet_JIS_X_0208 w_GraphicSet_CNS_11643_3 w_GraphicSet_UNREAD_TWO_BYTES w_GraphicSet_KS_X_1001 w_GraphicSet_CNS_11643_6 w_GraphicSet_CNS_11643_2 w_GraphicSet_CNS_11643_5 w_GraphicSet_CNS_11643_1 w_GraphicSet_CNS_11643_4 w_GraphicSet_JIS_X_0212 w_GraphicSet_GB_2312 w_GraphicSet_CNS_11643_7 p3 h0 n0 Z0 S_GraphicSet_ASCII S_GraphicSet_JIS_X_0201_ROMAN S_GraphicSet_JIS_X_0201_KATAKANA S_GraphicSet_UNREAD_ONE_BYTE S_GraphicSet_JIS_X_0208 S_GraphicSet_JIS_X_0212 S_GraphicSet_GB_2312 S_GraphicSet_KS_X_1001 S_GraphicSet_CNS_11643_1 S_GraphicSet_CNS_11643_2 S_GraphicSet_CNS_11643_3 S_GraphicSet_CNS_11643_4 S_GraphicSet_CNS_11643_5 S_GraphicSet_CNS_11643_6 S_GraphicSet_CNS_11643_7 S_GraphicSet_UNREAD_TWO_BYTES) hZ (hw _ (List.mem_of_getElem? (i := 3) rfl)) (hw _ (List.mem_of_getElem? (i := 2) rfl)) (by decide) (by decide)) (g := (mkF m 19 #[iv p0, iv p1, iv p2, iv p3, iv p4, iv (0 : Int32), .val u0_1, .val u0_2, .val u0_3, .unset, .unset, .unset, .unset, .unset] [(.int p3)])) rfl (by rw [hml]; rfl) (argsL := [(.int p3)]) (rest := []) (lenOf pd_0 rfl) rfl (by show 2 * 0 + _ ≤ _; exact Nat.le_of_eq rfl) (hb hby at_19) (fun _ _ => ⟨rfl, e3, (by decide : 0 + 0 ≤ _), (by decide : 0 + 0 ≤ _)⟩)
  dsimp only [Pt.U, Pt.locs, Pt.cells, Pt.slots] at X4 l4 y4 z4 st4 hQ4
  subst l4 y4 z4
  obtain ⟨u0_4, rfl, hr_u0_4, N4q, e4⟩ := hQ4
  have N4 := Fr.app N3 N4q
  obtain ⟨T5, h5, X5, e5, E5, A5, D5, -, st5⟩ := newO X4 hx hZ hown (hw _ (List.mem_of_getElem? (i := 13) rfl)) (hw _ (List.mem_of_getElem? (i := 14) rfl)) (hw _ (List.mem_of_getElem? (i := 15) rfl)) e4 (g := (mkF m 38 #[iv p0, iv p1, iv p2, iv p3, iv p4, iv (0 : Int32), .val u0_1, .val u0_2, .val u0_3, .val u0_4, iv (1 : Int32), .unset, .unset, .unset] [])) rfl (hb hby at_38) (by decide) (by decide)
  obtain ⟨b0_5, gg5⟩ : ∃ z, z = h0.size := ⟨_, rfl⟩
  rw [← gg5] at A5 D5 st5
  have g_b0_5 : n0 ≤ b0_5 := Nat.le_trans Z0 (Nat.le_of_eq gg5.symm)
  have sz_b0_5 : h0.size ≤ b0_5 := Nat.le_trans (Keep.refl h0 []).1 (Nat.le_of_eq gg5.symm)
  have Z5 : n0 ≤ h5.size := Nat.le_trans Z0 E5.1
  have KK5 : Keep h0 h5 [] := (Keep.refl h0 []).ext E5
  have E_b0_5 : Exa Z h5 b0_5 "com/example/pipewright/pipewright/io/Iso2022Layout$State" := A5
  have F_b0_5_g0 : Fld Z h5 b0_5 "com/example/pipewright/pipewright/io/Iso2022Layout$State" "g0" "Lcom/example/pipewright/pipewright/io/Iso2022Layout$GraphicSet;" .null := D5 (Or.inr (hw _ (List.mem_of_getElem? (i := 28) rfl))) (ty := (.object "com/example/pipewright/pipewright/io/Iso2022Layout$GraphicSet")) (by decide)
  have F_b0_5_g1 : Fld Z h5 b0_5 "com/example/pipewright/pipewright/io/Iso2022Layout$State" "g1" "Lcom/example/pipewright/pipewright/io/Iso2022Layout$GraphicSet;" .null := D5 (Or.inr (hw _ (List.mem_of_getElem? (i := 30) rfl))) (ty := (.object "com/example/pipewright/pipewright/io/Iso2022Layout$GraphicSet")) (by decide)
  have F_b0_5_g2 : Fld Z h5 b0_5 "com/example/pipewright/pipewright/io/Iso2022Layout$State" "g2" "Lcom/example/pipewright/pipewright/io/Iso2022Layout$GraphicSet;" .null := D5 (Or.inr (hw _ (List.mem_of_getElem? (i := 32) rfl))) (ty := (.object "com/example/pipewright/pipewright/io/Iso2022Layout$GraphicSet")) (by decide)
  have F_b0_5_g3 : Fld Z h5 b0_5 "com/example/pipewright/pipewright/io/Iso2022Layout$State" "g3" "Lcom/example/pipewright/pipewright/io/Iso2022Layout$GraphicSet;" .null := D5 (Or.inr (hw _ (List.mem_of_getElem? (i := 34) rfl))) (ty := (.object "com/example/pipewright/pipewright/io/Iso2022Layout$GraphicSet")) (by decide)
  have F_b0_5_shifted : Fld Z h5 b0_5 "com/example/pipewright/pipewright/io/Iso2022Layout$State" "shifted" "Z" (.int (0 : Int32)) := D5 (Or.inr (hw _ (List.mem_of_getElem? (i := 36) rfl))) (ty := .boolean) (by decide)
  obtain ⟨_, _, ⟨T6, L6, k6, n6⟩, -, X6, ⟨Lc6, hQ6, l6, y6, z6⟩, st6⟩ := X5.specialBack hx (y := (⟨"com/example/pipewright/pipewright/io/Iso2022Layout$State", "<init>", "(Lcom/example/pipewright/pipewright/io/Iso2022Layout$GraphicSet;Lcom/example/pipewright/pipewright/io/Iso2022Layout$GraphicSet;Lcom/example/pipewright/pipewright/io/Iso2022Layout$GraphicSet;Lcom/example/pipewright/pipewright/io/Iso2022Layout$GraphicSet;Z)V"⟩ : MethodName)) rfl hown (mvT hZ (hw _ (List.mem_of_getElem? (i := 16) rfl))) (mvT hZ (hw _ (List.mem_of_getElem? (i := 17) rfl))) (mvT hZ (hw _ (List.mem_of_getElem? (i := 18) rfl))) (by decide) (backOf (W := 1) (rm2_6 l Z a0 hw [] u0_1 u0_2 u0_3 u0_4 b0_5 h5 n0 Z5 hr_u0_1 E_b0_5 F_b0_5_g0 g_b0_5 hr_u0_2 F_b0_5_g1 hr_u0_3 F_b0_5_g2 hr_u0_4 F_b0_5_g3 F_b0_5_shifted) hZ (hw _ (List.mem_of_getElem? (i := 18) rfl)) (hw _ (List.mem_of_getElem? (i := 15) rfl)) (by decide) (by decide)) (g := (mkF m 52 #[iv p0, iv p1, iv p2, iv p3, iv p4, iv (0 : Int32), .val u0_1, .val u0_2, .val u0_3, .val u0_4, iv (1 : Int32), .unset, .unset, .unset] [(.int (1 : Int32)), u0_4, u0_3, u0_2, u0_1, (.ref b0_5), (.ref b0_5)])) rfl (by rw [hml]; rfl) (Steps.refl _) (a := b0_5) (argsL := [u0_1, u0_2, u0_3, u0_4, (.int (1 : Int32))]) (rest := [(.ref b0_5)]) (lenOf pd_2 rfl) rfl (by show 2 * 0 + _ ≤ _; exact Nat.le_of_eq rfl) (hb hby at_52) (fun _ _ => ⟨rfl, e5, (by decide : 1 + 0 ≤ _), (by decide : 5 + 0 ≤ _)⟩)
  dsimp only [Pt.U, Pt.locs, Pt.cells, Pt.slots] at X6 l6 y6 z6 st6 hQ6
  subst l6 y6 z6
  obtain ⟨rfl, N6q, K6, fq6_0, fq6_1, fq6_2, fq6_3, fq6_4, fq6_5⟩ := hQ6
  have KK6 : Keep h0 T6.heap [] := KK5.trans K6 (allS (P := fun x => x ∈ [] ∨ h0.size ≤ x) (Or.inr sz_b0_5) all0)
  have Z6 : n0 ≤ T6.heap.size := Nat.le_trans Z5 K6.1
  have N6 := Fr.app N4 N6q
  obtain ⟨cq7, kq7, q7a, q7b, q7c⟩ := isOf hZ rfl fq6_5
  obtain ⟨_, _, ⟨T7, L7, k7, n7⟩, -, X7, ⟨Lc7, hQ7, l7, y7, z7⟩, st7⟩ := X6.virtualBack hx (y := (⟨"com/example/pipewright/pipewright/io/Iso2022Layout$State", "get", "(I)Lcom/example/pipewright/pipewright/io/Iso2022Layout$GraphicSet;"⟩ : MethodName)) (z := (⟨"com/example/pipewright/pipewright/io/Iso2022Layout$State", "get", "(I)Lcom/example/pipewright/pipewright/io/Iso2022Layout$GraphicSet;"⟩ : MethodName)) hown (mvT hZ (hw _ (List.mem_of_getElem? (i := 37) rfl))) (mvT hZ (hw _ (List.mem_of_getElem? (i := 38) rfl))) (notFace_of_selects (args := #[]) (mvT hZ (hw _ (List.mem_of_getElem? (i := 40) rfl)))) (mvT hZ (hw _ (List.mem_of_getElem? (i := 40) rfl))) (mvT hZ (hw _ (List.mem_of_getElem? (i := 39) rfl))) (by decide) (backOf (W := 0) (rm5_2 l Z a0 hw [] u0_1 b0_5 T6.heap n0 Z6 fq6_0 hr_u0_1) hZ (hw _ (List.mem_of_getElem? (i := 41) rfl)) (hw _ (List.mem_of_getElem? (i := 15) rfl)) (by decide) (by decide)) q7a q7c (g := (mkF m 61 #[iv p0, iv p1, iv p2, iv p3, iv p4, iv (0 : Int32), .val u0_1, .val u0_2, .val u0_3, .val u0_4, iv (1 : Int32), rv b0_5, .unset, .unset] [(.int (0 : Int32)), (.ref b0_5)])) rfl (by rw [hml]; rfl) (Steps.refl _) (argsL := [(.int (0 : Int32))]) (rest := []) (lenOf pd_0 rfl) rfl (by show 2 * 0 + _ ≤ _; exact Nat.le_of_eq rfl) (hb hby at_61) (fun _ _ => ⟨rfl, rfl, (by decide : 1 + 0 ≤ _), (by decide : 5 + 0 ≤ _)⟩)
  dsimp only [Pt.U, Pt.locs, Pt.cells, Pt.slots] at X7 l7 y7 z7 st7 hQ7
  subst l7 y7 z7
  obtain ⟨rfl, N7q, e7⟩ := hQ7
  have N7 := Fr.app N6 N7q
  obtain ⟨fs, hr, hrun, hended, hW, hsame⟩ := X7.leave (v := (some (.int (1 : Int32)))) (fun h => by rw [Bd.returns] at h; cases h)
  refine ⟨_, _, pre0 _ ?_, hrun, hended, _, _, rfl, ?_, ⟨_, rfl⟩, hW, hsame.mono (by decide) (by decide)⟩
  · show Steps p.tables e below (s₁.setTop (mkF m 0 #[iv p0, iv p1, iv p2, iv p3, iv p4, iv (0 : Int32), .unset, .unset, .unset, .unset, .unset, .unset, .unset, .unset] [])) _
    refine XS.iloadN X0.here hx rfl (hb hby at_0) rfl ?_
    show Steps p.tables e below (s₁.setTop (mkF m 1 #[iv p0, iv p1, iv p2, iv p3, iv p4, iv (0 : Int32), .unset, .unset, .unset, .unset, .unset, .unset, .unset, .unset] [(.int p0)])) _
    refine st1 _ ?_
    show Steps p.tables e below (T1.setTop (mkF m 4 #[iv p0, iv p1, iv p2, iv p3, iv p4, iv (0 : Int32), .unset, .unset, .unset, .unset, .unset, .unset, .unset, .unset] [u0_1])) _
    refine XS.astore X1.here hx rfl (hb hby at_4) rfl hr_u0_1 (l' := #[iv p0, iv p1, iv p2, iv p3, iv p4, iv (0 : Int32), .val u0_1, .unset, .unset, .unset, .unset, .unset, .unset, .unset]) (by rcases ref_cases hr_u0_1 with q | ⟨_, q⟩ <;> (subst q; rfl)) ?_
    show Steps p.tables e below (T1.setTop (mkF m 6 #[iv p0, iv p1, iv p2, iv p3, iv p4, iv (0 : Int32), .val u0_1, .unset, .unset, .unset, .unset, .unset, .unset, .unset] [])) _
    refine XS.iloadN X1.here hx rfl (hb hby at_6) rfl ?_
    show Steps p.tables e below (T1.setTop (mkF m 7 #[iv p0, iv p1, iv p2, iv p3, iv p4, iv (0 : Int32), .val u0_1, .unset, .unset, .unset, .unset, .unset, .unset, .unset] [(.int p1)])) _
    refine st2 _ ?_
    show Steps p.tables e below (T2.setTop (mkF m 10 #[iv p0, iv p1, iv p2, iv p3, iv p4, iv (0 : Int32), .val u0_1, .unset, .unset, .unset, .unset, .unset, .unset, .unset] [u0_2])) _
    refine XS.astore X2.here hx rfl (hb hby at_10) rfl hr_u0_2 (l' := #[iv p0, iv p1, iv p2, iv p3, iv p4, iv (0 : Int32), .val u0_1, .val u0_2, .unset, .unset, .unset, .unset, .unset, .unset]) (by rcases ref_cases hr_u0_2 with q | ⟨_, q⟩ <;> (subst q; rfl)) ?_
    show Steps p.tables e below (T2.setTop (mkF m 12 #[iv p0, iv p1, iv p2, iv p3, iv p4, iv (0 : Int32), .val u0_1, .val u0_2, .unset, .unset, .unset, .unset, .unset, .unset] [])) _
    refine XS.iloadN X2.here hx rfl (hb hby at_12) rfl ?_
    show Steps p.tables e below (T2.setTop (mkF m 13 #[iv p0, iv p1, iv p2, iv p3, iv p4, iv (0 : Int32), .val u0_1, .val u0_2, .unset, .unset, .unset, .unset, .unset, .unset] [(.int p2)])) _
    refine st3 _ ?_
    show Steps p.tables e below (T3.setTop (mkF m 16 #[iv p0, iv p1, iv p2, iv p3, iv p4, iv (0 : Int32), .val u0_1, .val u0_2, .unset, .unset, .unset, .unset, .unset, .unset] [u0_3])) _
    refine XS.astore X3.here hx rfl (hb hby at_16) rfl hr_u0_3 (l' := #[iv p0, iv p1, iv p2, iv p3, iv p4, iv (0 : Int32), .val u0_1, .val u0_2, .val u0_3, .unset, .unset, .unset, .unset, .unset]) (by rcases ref_cases hr_u0_3 with q | ⟨_, q⟩ <;> (subst q; rfl)) ?_
    show Steps p.tables e below (T3.setTop (mkF m 18 #[iv p0, iv p1, iv p2, iv p3, iv p4, iv (0 : Int32), .val u0_1, .val u0_2, .val u0_3, .unset, .unset, .unset, .unset, .unset] [])) _
    refine XS.iloadN X3.here hx rfl (hb hby at_18) rfl ?_
    show Steps p.tables e below (T3.setTop (mkF m 19 #[iv p0, iv p1, iv p2, iv p3, iv p4, iv (0 : Int32), .val u0_1, .val u0_2, .val u0_3, .unset, .unset, .unset, .unset, .unset] [(.int p3)])) _
    refine st4 _ ?_
    show Steps p.tables e below (T4.setTop (mkF m 22 #[iv p0, iv p1, iv p2, iv p3, iv p4, iv (0 : Int32), .val u0_1, .val u0_2, .val u0_3, .unset, .unset, .unset, .unset, .unset] [u0_4])) _
    refine XS.astore X4.here hx rfl (hb hby at_22) rfl hr_u0_4 (l' := #[iv p0, iv p1, iv p2, iv p3, iv p4, iv (0 : Int32), .val u0_1, .val u0_2, .val u0_3, .val u0_4, .unset, .unset, .unset, .unset]) (by rcases ref_cases hr_u0_4 with q | ⟨_, q⟩ <;> (subst q; rfl)) ?_
    show Steps p.tables e below (T4.setTop (mkF m 24 #[iv p0, iv p1, iv p2, iv p3, iv p4, iv (0 : Int32), .val u0_1, .val u0_2, .val u0_3, .val u0_4, .unset, .unset, .unset, .unset] [])) _
    refine XS.iload X4.here hx rfl (hb hby at_24) rfl ?_
    show Steps p.tables e below (T4.setTop (mkF m 26 #[iv p0, iv p1, iv p2, iv p3, iv p4, iv (0 : Int32), .val u0_1, .val u0_2, .val u0_3, .val u0_4, .unset, .unset, .unset, .unset] [(.int p4)])) _
    refine XS.iconst X4.here hx rfl (hb hby at_26) ?_
    show Steps p.tables e below (T4.setTop (mkF m 27 #[iv p0, iv p1, iv p2, iv p3, iv p4, iv (0 : Int32), .val u0_1, .val u0_2, .val u0_3, .val u0_4, .unset, .unset, .unset, .unset] [(.int (1 : Int32)), (.int p4)])) _
    refine XS.iand X4.here hx rfl (hb hby at_27) rfl ?_
    show Steps p.tables e below (T4.setTop (mkF m 28 #[iv p0, iv p1, iv p2, iv p3, iv p4, iv (0 : Int32), .val u0_1, .val u0_2, .val u0_3, .val u0_4, .unset, .unset, .unset, .unset] [(.int (p4 &&& (1 : Int32)))])) _
    rewrite [h4]
    show Steps p.tables e below (T4.setTop (mkF m 28 #[iv p0, iv p1, iv p2, iv p3, iv p4, iv (0 : Int32), .val u0_1, .val u0_2, .val u0_3, .val u0_4, .unset, .unset, .unset, .unset] [(.int (1 : Int32))])) _
    refine XS.ifNo X4.here hx rfl (hb hby at_28) rfl ((if0 _ _).trans (feq (by decide +kernel : ¬ ((1 : Int32) = (0 : Int32)))).1) ?_
    show Steps p.tables e below (T4.setTop (mkF m 31 #[iv p0, iv p1, iv p2, iv p3, iv p4, iv (0 : Int32), .val u0_1, .val u0_2, .val u0_3, .val u0_4, .unset, .unset, .unset, .unset] [])) _
    refine XS.iconst X4.here hx rfl (hb hby at_31) ?_
    show Steps p.tables e below (T4.setTop (mkF m 32 #[iv p0, iv p1, iv p2, iv p3, iv p4, iv (0 : Int32), .val u0_1, .val u0_2, .val u0_3, .val u0_4, .unset, .unset, .unset, .unset] [(.int (1 : Int32))])) _
    refine XS.goto X4.here hx rfl (pc0 := 32) (pc' := 36) rfl (hb hby at_32) (by decide) (by decide) ?_
    show Steps p.tables e below (T4.setTop (mkF m 36 #[iv p0, iv p1, iv p2, iv p3, iv p4, iv (0 : Int32), .val u0_1, .val u0_2, .val u0_3, .val u0_4, .unset, .unset, .unset, .unset] [(.int (1 : Int32))])) _
    refine XS.istore X4.here hx rfl (hb hby at_36) rfl (l' := #[iv p0, iv p1, iv p2, iv p3, iv p4, iv (0 : Int32), .val u0_1, .val u0_2, .val u0_3, .val u0_4, iv (1 : Int32), .unset, .unset, .unset]) rfl ?_
    show Steps p.tables e below (T4.setTop (mkF m 38 #[iv p0, iv p1, iv p2, iv p3, iv p4, iv (0 : Int32), .val u0_1, .val u0_2, .val u0_3, .val u0_4, iv (1 : Int32), .unset, .unset, .unset] [])) _
    refine st5 _ ?_
    show Steps p.tables e below (T5.setTop (mkF m 41 #[iv p0, iv p1, iv p2, iv p3, iv p4, iv (0 : Int32), .val u0_1, .val u0_2, .val u0_3, .val u0_4, iv (1 : Int32), .unset, .unset, .unset] [(.ref b0_5)])) _
    refine XS.dup X5.here hx rfl (hb hby at_41) rfl rfl ?_
    show Steps p.tables e below (T5.setTop (mkF m 42 #[iv p0, iv p1, iv p2, iv p3, iv p4, iv (0 : Int32), .val u0_1, .val u0_2, .val u0_3, .val u0_4, iv (1 : Int32), .unset, .unset, .unset] [(.ref b0_5), (.ref b0_5)])) _
    refine XS.aload X5.here hx rfl (hb hby at_42) rfl hr_u0_1 ?_
    show Steps p.tables e below (T5.setTop (mkF m 44 #[iv p0, iv p1, iv p2, iv p3, iv p4, iv (0 : Int32), .val u0_1, .val u0_2, .val u0_3, .val u0_4, iv (1 : Int32), .unset, .unset, .unset] [u0_1, (.ref b0_5), (.ref b0_5)])) _
    refine XS.aload X5.here hx rfl (hb hby at_44) rfl hr_u0_2 ?_
    show Steps p.tables e below (T5.setTop (mkF m 46 #[iv p0, iv p1, iv p2, iv p3, iv p4, iv (0 : Int32), .val u0_1, .val u0_2, .val u0_3, .val u0_4, iv (1 : Int32), .unset, .unset, .unset] [u0_2, u0_1, (.ref b0_5), (.ref b0_5)])) _
    refine XS.aload X5.here hx rfl (hb hby at_46) rfl hr_u0_3 ?_
    show Steps p.tables e below (T5.setTop (mkF m 48 #[iv p0, iv p1, iv p2, iv p3, iv p4, iv (0 : Int32), .val u0_1, .val u0_2, .val u0_3, .val u0_4, iv (1 : Int32), .unset, .unset, .unset] [u0_3, u0_2, u0_1, (.ref b0_5), (.ref b0_5)])) _
    refine XS.aload X5.here hx rfl (hb hby at_48) rfl hr_u0_4 ?_
    show Steps p.tables e below (T5.setTop (mkF m 50 #[iv p0, iv p1, iv p2, iv p3, iv p4, iv (0 : Int32), .val u0_1, .val u0_2, .val u0_3, .val u0_4, iv (1 : Int32), .unset, .unset, .unset] [u0_4, u0_3, u0_2, u0_1, (.ref b0_5), (.ref b0_5)])) _
    refine XS.iload X5.here hx rfl (hb hby at_50) rfl ?_
    show Steps p.tables e below (T5.setTop (mkF m 52 #[iv p0, iv p1, iv p2, iv p3, iv p4, iv (0 : Int32), .val u0_1, .val u0_2, .val u0_3, .val u0_4, iv (1 : Int32), .unset, .unset, .unset] [(.int (1 : Int32)), u0_4, u0_3, u0_2, u0_1, (.ref b0_5), (.ref b0_5)])) _
    refine st6.trans ?_
    show Steps p.tables e below (T6.setTop (mkF m 55 #[iv p0, iv p1, iv p2, iv p3, iv p4, iv (0 : Int32), .val u0_1, .val u0_2, .val u0_3, .val u0_4, iv (1 : Int32), .unset, .unset, .unset] [(.ref b0_5)])) _
    refine XS.astore X6.here hx rfl (hb hby at_55) rfl rfl (l' := #[iv p0, iv p1, iv p2, iv p3, iv p4, iv (0 : Int32), .val u0_1, .val u0_2, .val u0_3, .val u0_4, iv (1 : Int32), rv b0_5, .unset, .unset]) rfl ?_
    show Steps p.tables e below (T6.setTop (mkF m 57 #[iv p0, iv p1, iv p2, iv p3, iv p4, iv (0 : Int32), .val u0_1, .val u0_2, .val u0_3, .val u0_4, iv (1 : Int32), rv b0_5, .unset, .unset] [])) _
    refine XS.aload X6.here hx rfl (hb hby at_57) rfl rfl ?_
    show Steps p.tables e below (T6.setTop (mkF m 59 #[iv p0, iv p1, iv p2, iv p3, iv p4, iv (0 : Int32), .val u0_1, .val u0_2, .val u0_3, .val u0_4, iv (1 : Int32), rv b0_5, .unset, .unset] [(.ref b0_5)])) _
    refine XS.iload X6.here hx rfl (hb hby at_59) rfl ?_
    show Steps p.tables e below (T6.setTop (mkF m 61 #[iv p0, iv p1, iv p2, iv p3, iv p4, iv (0 : Int32), .val u0_1, .val u0_2, .val u0_3, .val u0_4, iv (1 : Int32), rv b0_5, .unset, .unset] [(.int (0 : Int32)), (.ref b0_5)])) _
    refine st7.trans ?_
    show Steps p.tables e below (T7.setTop (mkF m 64 #[iv p0, iv p1, iv p2, iv p3, iv p4, iv (0 : Int32), .val u0_1, .val u0_2, .val u0_3, .val u0_4, iv (1 : Int32), rv b0_5, .unset, .unset] [u0_1])) _
    refine XS.astore X7.here hx rfl (hb hby at_64) rfl hr_u0_1 (l' := #[iv p0, iv p1, iv p2, iv p3, iv p4, iv (0 : Int32), .val u0_1, .val u0_2, .val u0_3, .val u0_4, iv (1 : Int32), rv b0_5, .val u0_1, .unset]) (by rcases ref_cases hr_u0_1 with q | ⟨_, q⟩ <;> (subst q; rfl)) ?_
    show Steps p.tables e below (T7.setTop (mkF m 66 #[iv p0, iv p1, iv p2, iv p3, iv p4, iv (0 : Int32), .val u0_1, .val u0_2, .val u0_3, .val u0_4, iv (1 : Int32), rv b0_5, .val u0_1, .unset] [])) _
    refine XS.iload X7.here hx rfl (hb hby at_66) rfl ?_
    show Steps p.tables e below (T7.setTop (mkF m 68 #[iv p0, iv p1, iv p2, iv p3, iv p4, iv (0 : Int32), .val u0_1, .val u0_2, .val u0_3, .val u0_4, iv (1 : Int32), rv b0_5, .val u0_1, .unset] [(.int (0 : Int32))])) _
    refine XS.ifNo X7.here hx rfl (hb hby at_68) rfl ((if0 _ _).trans (teq (by decide +kernel : (0 : Int32) = (0 : Int32))).2) ?_
    show Steps p.tables e below (T7.setTop (mkF m 71 #[iv p0, iv p1, iv p2, iv p3, iv p4, iv (0 : Int32), .val u0_1, .val u0_2, .val u0_3, .val u0_4, iv (1 : Int32), rv b0_5, .val u0_1, .unset] [])) _
    refine XS.aload X7.here hx rfl (hb hby at_71) rfl hr_u0_1 ?_
    show Steps p.tables e below (T7.setTop (mkF m 73 #[iv p0, iv p1, iv p2, iv p3, iv p4, iv (0 : Int32), .val u0_1, .val u0_2, .val u0_3, .val u0_4, iv (1 : Int32), rv b0_5, .val u0_1, .unset] [u0_1])) _
    refine XS.astore X7.here hx rfl (hb hby at_73) rfl hr_u0_1 (l' := #[iv p0, iv p1, iv p2, iv p3, iv p4, iv (0 : Int32), .val u0_1, .val u0_2, .val u0_3, .val u0_4, iv (1 : Int32), rv b0_5, .val u0_1, .val u0_1]) (by rcases ref_cases hr_u0_1 with q | ⟨_, q⟩ <;> (subst q; rfl)) ?_
    show Steps p.tables e below (T7.setTop (mkF m 75 #[iv p0, iv p1, iv p2, iv p3, iv p4, iv (0 : Int32), .val u0_1, .val u0_2, .val u0_3, .val u0_4, iv (1 : Int32), rv b0_5, .val u0_1, .val u0_1] [])) _
    refine XS.goto X7.here hx rfl (pc0 := 75) (pc' := 108) rfl (hb hby at_75) (by decide) (by decide) ?_
    show Steps p.tables e below (T7.setTop (mkF m 108 #[iv p0, iv p1, iv p2, iv p3, iv p4, iv (0 : Int32), .val u0_1, .val u0_2, .val u0_3, .val u0_4, iv (1 : Int32), rv b0_5, .val u0_1, .val u0_1] [])) _
    refine XS.aload X7.here hx rfl (hb hby at_108) rfl hr_u0_1 ?_
    show Steps p.tables e below (T7.setTop (mkF m 110 #[iv p0, iv p1, iv p2, iv p3, iv p4, iv (0 : Int32), .val u0_1, .val u0_2, .val u0_3, .val u0_4, iv (1 : Int32), rv b0_5, .val u0_1, .val u0_1] [u0_1])) _
    refine XS.aload X7.here hx rfl (hb hby at_110) rfl hr_u0_1 ?_
    show Steps p.tables e below (T7.setTop (mkF m 112 #[iv p0, iv p1, iv p2, iv p3, iv p4, iv (0 : Int32), .val u0_1, .val u0_2, .val u0_3, .val u0_4, iv (1 : Int32), rv b0_5, .val u0_1, .val u0_1] [u0_1, u0_1])) _
    refine Jvm.RoadKit.acmp (g := (mkF m 112 #[iv p0, iv p1, iv p2, iv p3, iv p4, iv (0 : Int32), .val u0_1, .val u0_2, .val u0_3, .val u0_4, iv (1 : Int32), rv b0_5, .val u0_1, .val u0_1] [u0_1, u0_1])) X7 hx rfl hr_u0_1 hr_u0_1 (pc0 := 112) (pc' := 115) (same := true) rfl (hb hby at_112) rfl (decide_eq_true rfl) (by decide) (by decide) ?_
    show Steps p.tables e below (T7.setTop (mkF m 115 #[iv p0, iv p1, iv p2, iv p3, iv p4, iv (0 : Int32), .val u0_1, .val u0_2, .val u0_3, .val u0_4, iv (1 : Int32), rv b0_5, .val u0_1, .val u0_1] [])) _
    refine XS.iconst X7.here hx rfl (hb hby at_115) ?_
    show Steps p.tables e below (T7.setTop (mkF m 116 #[iv p0, iv p1, iv p2, iv p3, iv p4, iv (0 : Int32), .val u0_1, .val u0_2, .val u0_3, .val u0_4, iv (1 : Int32), rv b0_5, .val u0_1, .val u0_1] [(.int (1 : Int32))])) _
    refine XS.goto X7.here hx rfl (pc0 := 116) (pc' := 120) rfl (hb hby at_116) (by decide) (by decide) ?_
    show Steps p.tables e below (T7.setTop (mkF m 120 #[iv p0, iv p1, iv p2, iv p3, iv p4, iv (0 : Int32), .val u0_1, .val u0_2, .val u0_3, .val u0_4, iv (1 : Int32), rv b0_5, .val u0_1, .val u0_1] [(.int (1 : Int32))])) _
    exact retN X7 hx (t := .boolean) Bd.returns (by simp) (hb hby at_120) hr
  · exact ⟨rfl, N7⟩
set_option maxRecDepth 65536 in
set_option maxHeartbeats 40000000 in
theorem rm0_5 (l : Launch) (Z : State) (a0 : Array Value) (hw : ∀ d ∈ tables_1, d.before a0 Z = true) (ws : List Jvm.Cond) (p0 : Int32) (p1 : Int32) (p2 : Int32) (p3 : Int32) (p4 : Int32) (w_GraphicSet_ASCII : Addr) (w_GraphicSet_UNREAD_ONE_BYTE : Addr) (w_GraphicSet_JIS_X_0201_KATAKANA : Addr) (w_GraphicSet_JIS_X_0201_ROMAN : Addr) (w_GraphicSet_JIS_X_0208 : Addr) (w_GraphicSet_CNS_11643_3 : Addr) (w_GraphicSet_UNREAD_TWO_BYTES : Addr) (w_GraphicSet_KS_X_1001 : Addr) (w_GraphicSet_CNS_11643_6 : Addr) (w_GraphicSet_CNS_11643_2 : Addr) (w_GraphicSet_CNS_11643_5 : Addr) (w_GraphicSet_CNS_11643_1 : Addr) (w_GraphicSet_CNS_11643_4 : Addr) (w_GraphicSet_JIS_X_0212 : Addr) (w_GraphicSet_GB_2312 : Addr) (w_GraphicSet_CNS_11643_7 : Addr) (h0 : Heap) (n0 : Nat) (Z0 : n0 ≤ h0.size) (S_GraphicSet_ASCII : Sta Z h0 "com/example/pipewright/pipewright/io/Iso2022Layout$GraphicSet" "ASCII" "Lcom/example/pipewright/pipewright/io/Iso2022Layout$GraphicSet;" (.ref w_GraphicSet_ASCII)) (S_GraphicSet_JIS_X_0201_ROMAN : Sta Z h0 "com/example/pipewright/pipewright/io/Iso2022Layout$GraphicSet" "JIS_X_0201_ROMAN" "Lcom/example/pipewright/pipewright/io/Iso2022Layout$GraphicSet;" (.ref w_GraphicSet_JIS_X_0201_ROMAN)) (S_GraphicSet_JIS_X_0201_KATAKANA : Sta Z h0 "com/example/pipewright/pipewright/io/Iso2022Layout$GraphicSet" "JIS_X_0201_KATAKANA" "Lcom/example/pipewright/pipewright/io/Iso2022Layout$GraphicSet;" (.ref w_GraphicSet_JIS_X_0201_KATAKANA)) (S_GraphicSet_UNREAD_ONE_BYTE : Sta Z h0 "com/example/pipewright/pipewright/io/Iso2022Layout$GraphicSet" "UNREAD_ONE_BYTE" "Lcom/example/pipewright/pipewright/io/Iso2022Layout$GraphicSet;" (.ref w_GraphicSet_UNREAD_ONE_BYTE)) (S_GraphicSet_JIS_X_0208 : Sta Z h0 "com/example/pipewright/pipewright/io/Iso2022Layout$GraphicSet" "JIS_X_0208" "Lcom/example/pipewright/pipewright/io/Iso2022Layout$GraphicSet;" (.ref w_GraphicSet_JIS_X_0208)) (S_GraphicSet_JIS_X_0212 : Sta Z h0 "com/example/pipewright/pipewright/io/Iso2022Layout$GraphicSet" "JIS_X_0212" "Lcom/example/pipewright/pipewright/io/Iso2022Layout$GraphicSet;" (.ref w_GraphicSet_JIS_X_0212)) (S_GraphicSet_GB_2312 : Sta Z h0 "com/example/pipewright/pipewright/io/Iso2022Layout$GraphicSet" "GB_2312" "Lcom/example/pipewright/pipewright/io/Iso2022Layout$GraphicSet;" (.ref w_GraphicSet_GB_2312)) (S_GraphicSet_KS_X_1001 : Sta Z h0 "com/example/pipewright/pipewright/io/Iso2022Layout$GraphicSet" "KS_X_1001" "Lcom/example/pipewright/pipewright/io/Iso2022Layout$GraphicSet;" (.ref w_GraphicSet_KS_X_1001)) (S_GraphicSet_CNS_11643_1 : Sta Z h0 "com/example/pipewright/pipewright/io/Iso2022Layout$GraphicSet" "CNS_11643_1" "Lcom/example/pipewright/pipewright/io/Iso2022Layout$GraphicSet;" (.ref w_GraphicSet_CNS_11643_1)) (S_GraphicSet_CNS_11643_2 : Sta Z h0 "com/example/pipewright/pipewright/io/Iso2022Layout$GraphicSet" "CNS_11643_2" "Lcom/example/pipewright/pipewright/io/Iso2022Layout$GraphicSet;" (.ref w_GraphicSet_CNS_11643_2)) (S_GraphicSet_CNS_11643_3 : Sta Z h0 "com/example/pipewright/pipewright/io/Iso2022Layout$GraphicSet" "CNS_11643_3" "Lcom/example/pipewright/pipewright/io/Iso2022Layout$GraphicSet;" (.ref w_GraphicSet_CNS_11643_3)) (S_GraphicSet_CNS_11643_4 : Sta Z h0 "com/example/pipewright/pipewright/io/Iso2022Layout$GraphicSet" "CNS_11643_4" "Lcom/example/pipewright/pipewright/io/Iso2022Layout$GraphicSet;" (.ref w_GraphicSet_CNS_11643_4)) (S_GraphicSet_CNS_11643_5 : Sta Z h0 "com/example/pipewright/pipewright/io/Iso2022Layout$GraphicSet" "CNS_11643_5" "Lcom/example/pipewright/pipewright/io/Iso2022Layout$GraphicSet;" (.ref w_GraphicSet_CNS_11643_5)) (S_GraphicSet_CNS_11643_6 : Sta Z h0 "com/example/pipewright/pipewright/io/Iso2022Layout$GraphicSet" "CNS_11643_6" "Lcom/example/pipewright/pipewright/io/Iso2022Layout$GraphicSet;" (.ref w_GraphicSet_CNS_11643_6)) (S_GraphicSet_CNS_11643_7 : Sta Z h0 "com/example/pipewright/pipewright/io/Iso2022Layout$GraphicSet" "CNS_11643_7" "Lcom/example/pipewright/pipewright/io/Iso2022Layout$GraphicSet;" (.ref w_GraphicSet_CNS_11643_7)) (S_GraphicSet_UNREAD_TWO_BYTES : Sta Z h0 "com/example/pipewright/pipewright/io/Iso2022Layout$GraphicSet" "UNREAD_TWO_BYTES" "Lcom/example/pipewright/pipewright/io/Iso2022Layout$GraphicSet;" (.ref w_GraphicSet_UNREAD_TWO_BYTES)) (h4 : (p4 &&& (1 : Int32)) = (1 : Int32)) :
    MetFree l x (head1 (Jvm.Cond.code x code maxLocals ret :: ws) room_1) (fun a U => a = #[(.int p0), (.int p1), (.int p2), (.int p3), (.int p4), (.int (1 : Int32))] ∧ Z.Warmed39 U.vm ∧ U.heap = h0) (fun _ _ _ _ _ => True) (fun _ U o U' => ∃ v L, o = .returned v ∧ own_QL n0 v U'.heap L ∧ FrameEnd U o U' L room_1.cells room_1.slots) := by
  refine MetFree.of_bodySF (plainFor_of_name pn_0) hisR ?_
  intro p e s m args below meth c s₁ Bd hml0 hP hK
  obtain ⟨rfl, hZ, hh⟩ := hP
  have hx := Bd.exec
  have hby := Bd.bytes
  have hml : c.maxLocals = 14 := hml0
  have hown : s.vm.findClass "com/example/pipewright/pipewright/io/StateGetPinLaw" = some m.cls := findClass_of_methodNamed Bd.named
  have hnm := (name_of_methodNamed Bd.named Bd.method).1
  have X0 : Stand p l e room_1 s m #[(.int p0), (.int p1), (.int p2), (.int p3), (.int p4), (.int (1 : Int32))] below meth c s₁ [] 0 0 := Stand.of_body Bd
  have e0 : s₁.heap = h0 := by rw [← hh, Bd.state]; rfl
  have N0 := Fr.nil n0
  have pre0 : ∀ t, Steps p.tables e below (s₁.setTop (mkF m 0 #[iv p0, iv p1, iv p2, iv p3, iv p4, iv (1 : Int32), .unset, .unset, .unset, .unset, .unset, .unset, .unset, .unset] [])) t → Steps p.tables e below (s₁.setTop (entryFrame m #[(.int p0), (.int p1), (.int p2), (.int p3), (.int p4), (.int (1 : Int32))] maxLocals)) t := fun t k => castTop (ef_0_IIIIII m p0 p1 p2 p3 p4 (1 : Int32)) k
  obtain ⟨_, _, ⟨T1, L1, k1, n1⟩, -, X1, ⟨Lc1, hQ1, l1, y1, z1⟩, st1⟩ := Jvm.LawKit.callS X0 hx (y := (⟨"com/example/pipewright/pipewright/io/StateGetPinLaw", "pick", "(I)Lcom/example/pipewright/pipewright/io/Iso2022Layout$GraphicSet;"⟩ : MethodName)) hown (mvT hZ (hw _ (List.mem_of_getElem? (i := 0) rfl))) (mvT hZ (hw _ (List.mem_of_getElem? (i := 1) rfl))) (mvT hZ (hw _ (List.mem_of_getElem? (i := 2) rfl))) (mvT hZ (hw _ (List.mem_of_getElem? (i := 3) rfl))) (by decide) (backOf (W := 0) (rk1 l Z a0 hw [] w_GraphicSet_ASCII w_GraphicSet_UNREAD_ONE_BYTE w_GraphicSet_JIS_X_0201_KATAKANA w_GraphicSet_JIS_X_0201_ROMAN w_GraphicSet_JIS_X_0208 w_GraphicSet_CNS_11643_3 w_GraphicSet_UNREAD_TWO_BYTES w_GraphicSet_KS_X_1001 w_GraphicSet_CNS_11643_6 w_GraphicSet_CNS_11643_2 w_GraphicSet_CNS_11643_5 w_GraphicSet_CNS_11643_1 w_GraphicSet_CNS_11643_4 w_GraphicSet_JIS_X_0212 w_GraphicSet_GB_2312 w_GraphicSet_CNS_11643_7 p0 h0 n0 Z0 S_GraphicSet_ASCII S_GraphicSet_JIS_X_0201_ROMAN S_GraphicSet_JIS_X_0201_KATAKANA S_GraphicSet_UNREAD_ONE_BYTE S_GraphicSet_JIS_X_0208 S_GraphicSet_JIS_X_0212 S_GraphicSet_GB_2312 S_GraphicSet_KS_X_1001 S_GraphicSet_CNS_11643_1 S_GraphicSet_CNS_11643_2 S_GraphicSet_CNS_11643_3 S_GraphicSet_CNS_11643_4 S_GraphicSet_CNS_11643_5 S_GraphicSet_CNS_11643_6 S_GraphicSet_CNS_11643_7 S_GraphicSet_UNREAD_TWO_BYTES) hZ (hw _ (List.mem_of_getElem? (i := 3) rfl)) (hw _ (List.mem_of_getElem? (i := 2) rfl)) (by decide) (by decide)) (g := (mkF m 1 #[iv p0, iv p1, iv p2, iv p3, iv p4, iv (1 : Int32), .unset, .unset, .unset, .unset, .unset, .unset, .unset, .unset] [(.int p0)])) rfl (by rw [hml]; rfl) (argsL := [(.int p0)]) (rest := []) (lenOf pd_0 rfl) rfl (by show 2 * 0 + _ ≤ _; exact Nat.le_of_eq rfl) (hb hby at_1) (fun _ _ => ⟨rfl, e0, (by decide : 0 + 0 ≤ _), (by decide : 0 + 0 ≤ _)⟩)
  dsimp only [Pt.U, Pt.locs, Pt.cells, Pt.slots] at X1 l1 y1 z1 st1 hQ1
  subst l1 y1 z1
  obtain ⟨u0_1, rfl, hr_u0_1, N1q, e1⟩ := hQ1
  have N1 := Fr.app N0 N1q
  obtain ⟨_, _, ⟨T2, L2, k2, n2⟩, -, X2, ⟨Lc2, hQ2, l2, y2, z2⟩, st2⟩ := Jvm.LawKit.callS X1 hx (y := (⟨"com/example/pipewright/pipewright/io/StateGetPinLaw", "pick", "(I)Lcom/example/pipewright/pipewright/io/Iso2022Layout$GraphicSet;"⟩ : MethodName)) hown (mvT hZ (hw _ (List.mem_of_getElem? (i := 0) rfl))) (mvT hZ (hw _ (List.mem_of_getElem? (i := 1) rfl))) (mvT hZ (hw _ (List.mem_of_getElem? (i := 2) rfl))) (mvT hZ (hw _ (List.mem_of_getElem? (i := 3) rfl))) (by decide) (backOf (W := 0) (rk1 l Z a0 hw [] w_GraphicSet_ASCII w_GraphicSet_UNREAD_ONE_BYTE w_GraphicSet_JIS_X_0201_KATAKANA w_GraphicSet_JIS_X_0201_ROMAN w_GraphicSet_JIS_X_0208 w_GraphicSet_CNS_11643_3 w_GraphicSet_UNREAD_TWO_BYTES w_GraphicSet_KS_X_1001 w_GraphicSet_CNS_11643_6 w_GraphicSet_CNS_11643_2 w_GraphicSet_CNS_11643_5 w_GraphicSet_CNS_11643_1 w_GraphicSet_CNS_11643_4 w_GraphicSet_JIS_X_0212 w_GraphicSet_GB_2312 w_GraphicSet_CNS_11643_7 p1 h0 n0 Z0 S_GraphicSet_ASCII S_GraphicSet_JIS_X_0201_ROMAN S_GraphicSet_JIS_X_0201_KATAKANA S_GraphicSet_UNREAD_ONE_BYTE S_GraphicSet_JIS_X_0208 S_GraphicSet_JIS_X_0212 S_GraphicSet_GB_2312 S_GraphicSet_KS_X_1001 S_GraphicSet_CNS_11643_1 S_GraphicSet_CNS_11643_2 S_GraphicSet_CNS_11643_3 S_GraphicSet_CNS_11643_4 S_GraphicSet_CNS_11643_5 S_GraphicSet_CNS_11643_6 S_GraphicSet_CNS_11643_7 S_GraphicSet_UNREAD_TWO_BYTES) hZ (hw _ (List.mem_of_getElem? (i := 3) rfl)) (hw _ (List.mem_of_getElem? (i := 2) rfl)) (by decide) (by decide)) (g := (mkF m 7 #[iv p0, iv p1, iv p2, iv p3, iv p4, iv (1 : Int32), .val u0_1, .unset, .unset, .unset, .unset, .unset, .unset, .unset] [(.int p1)])) rfl (by rw [hml]; rfl) (argsL := [(.int p1)]) (rest := []) (lenOf pd_0 rfl) rfl (by show 2 * 0 + _ ≤ _; exact Nat.le_of_eq rfl) (hb hby at_7) (fun _ _ => ⟨rfl, e1, (by decide : 0 + 0 ≤ _), (by decide : 0 + 0 ≤ _)⟩)
  dsimp only [Pt.U, Pt.locs, Pt.cells, Pt.slots] at X2 l2 y2 z2 st2 hQ2
  subst l2 y2 z2
  obtain ⟨u0_2, rfl, hr_u0_2, N2q, e2⟩ := hQ2
  have N2 := Fr.app N1 N2q
  obtain ⟨_, _, ⟨T3, L3, k3, n3⟩, -, X3, ⟨Lc3, hQ3, l3, y3, z3⟩, st3⟩ := Jvm.LawKit.callS X2 hx (y := (⟨"com/example/pipewright/pipewright/io/StateGetPinLaw", "pick", "(I)Lcom/example/pipewright/pipewright/io/Iso2022Layout$GraphicSet;"⟩ : MethodName)) hown (mvT hZ (hw _ (List.mem_of_getElem? (i := 0) rfl))) (mvT hZ (hw _ (List.mem_of_getElem? (i := 1) rfl))) (mvT hZ (hw _ (List.mem_of_getElem? (i := 2) rfl))) (mvT hZ (hw _ (List.mem_of_getElem? (i := 3) rfl))) (by decide) (backOf (W := 0) (rk1 l Z a0 hw [] w_GraphicSet_ASCII w_GraphicSet_UNREAD_ONE_BYTE w_GraphicSet_JIS_X_0201_KATAKANA w_GraphicSet_JIS_X_0201_ROMAN w_GraphicSet_JIS_X_0208 w_GraphicSet_CNS_11643_3 w_GraphicSet_UNREAD_TWO_BYTES w_GraphicSet_KS_X_1001 w_GraphicSet_CNS_11643_6 w_GraphicSet_CNS_11643_2 w_GraphicSet_CNS_11643_5 w_GraphicSet_CNS_11643_1 w_GraphicSet_CNS_11643_4 w_GraphicSet_JIS_X_0212 w_GraphicSet_GB_2312 w_GraphicSet_CNS_11643_7 p2 h0 n0 Z0 S_GraphicSet_ASCII S_GraphicSet_JIS_X_0201_ROMAN S_GraphicSet_JIS_X_0201_KATAKANA S_GraphicSet_UNREAD_ONE_BYTE S_GraphicSet_JIS_X_0208 S_GraphicSet_JIS_X_0212 S_GraphicSet_GB_2312 S_GraphicSet_KS_X_1001 S_GraphicSet_CNS_11643_1 S_GraphicSet_CNS_11643_2 S_GraphicSet_CNS_11643_3 S_GraphicSet_CNS_11643_4 S_GraphicSet_CNS_11643_5 S_GraphicSet_CNS_11643_6 S_GraphicSet_CNS_11643_7 S_GraphicSet_UNREAD_TWO_BYTES) hZ (hw _ (List.mem_of_getElem? (i := 3) rfl)) (hw _ (List.mem_of_getElem? (i := 2) rfl)) (by decide) (by decide)) (g := (mkF m 13 #[iv p0, iv p1, iv p2, iv p3, iv p4, iv (1 : Int32), .val u0_1, .val u0_2, .unset, .unset, .unset, .unset, .unset, .unset] [(.int p2)])) rfl (by rw [hml]; rfl) (argsL := [(.int p2)]) (rest := []) (lenOf pd_0 rfl) rfl (by show 2 * 0 + _ ≤ _; exact Nat.le_of_eq rfl) (hb hby at_13) (fun _ _ => ⟨rfl, e2, (by decide : 0 + 0 ≤ _), (by decide : 0 + 0 ≤ _)⟩)
  dsimp only [Pt.U, Pt.locs, Pt.cells, Pt.slots] at X3 l3 y3 z3 st3 hQ3
  subst l3 y3 z3
  obtain ⟨u0_3, rfl, hr_u0_3, N3q, e3⟩ := hQ3
  have N3 := Fr.app N2 N3q
  obtain ⟨_, _, ⟨T4, L4, k4, n4⟩, -, X4, ⟨Lc4, hQ4, l4, y4, z4⟩, st4⟩ := Jvm.LawKit.callS X3 hx (y := (⟨"com/example/pipewright/pipewright/io/StateGetPinLaw", "pick", "(I)Lcom/example/pipewright/pipewright/io/Iso2022Layout$GraphicSet;"⟩ : MethodName)) hown (mvT hZ (hw _ (List.mem_of_getElem? (i := 0) rfl))) (mvT hZ (hw _ (List.mem_of_getElem? (i := 1) rfl))) (mvT hZ (hw _ (List.mem_of_getElem? (i := 2) rfl))) (mvT hZ (hw _ (List.mem_of_getElem? (i := 3) rfl))) (by decide) (backOf (W := 0) (rk1 l Z a0 hw [] w_GraphicSet_ASCII w_GraphicSet_UNREAD_ONE_BYTE w_GraphicSet_JIS_X_0201_KATAKANA w_GraphicSet_JIS_X_0201_ROMAN w_GraphicSet_JIS_X_0208 w_GraphicSet_CNS_11643_3 w_GraphicSet_UNREAD_TWO_BYTES w_GraphicSet_KS_X_1001 w_GraphicSet_CNS_11643_6 w_GraphicSet_CNS_11643_2 w_GraphicSet_CNS_11643_5 w_GraphicSet_CNS_11643_1 w_GraphicSet_CNS_11643_4 w_GraphicSet_JIS_X_0212 w_GraphicSet_GB_2312 w_GraphicSet_CNS_11643_7 p3 h0 n0 Z0 S_GraphicSet_ASCII S_GraphicSet_JIS_X_0201_ROMAN S_GraphicSet_JIS_X_0201_KATAKANA S_GraphicSet_UNREAD_ONE_BYTE S_GraphicSet_JIS_X_0208 S_GraphicSet_JIS_X_0212 S_GraphicSet_GB_2312 S_GraphicSet_KS_X_1001 S_GraphicSet_CNS_11643_1 S_GraphicSet_CNS_11643_2 S_GraphicSet_CNS_11643_3 S_GraphicSet_CNS_11643_4 S_GraphicSet_CNS_11643_5 S_GraphicSet_CNS_11643_6 S_GraphicSet_CNS_11643_7 S_GraphicSet_UNREAD_TWO_BYTES) hZ (hw _ (List.mem_of_getElem? (i := 3) rfl)) (hw _ (List.mem_of_getElem? (i := 2) rfl)) (by decide) (by decide)) (g := (mkF m 19 #[iv p0, iv p1, iv p2, iv p3, iv p4, iv (1 : Int32), .val u0_1, .val u0_2, .val u0_3, .unset, .unset, .unset, .unset, .unset] [(.int p3)])) rfl (by rw [hml]; rfl) (argsL := [(.int p3)]) (rest := []) (lenOf pd_0 rfl) rfl (by show 2 * 0 + _ ≤ _; exact Nat.le_of_eq rfl) (hb hby at_19) (fun _ _ => ⟨rfl, e3, (by decide : 0 + 0 ≤ _), (by decide : 0 + 0 ≤ _)⟩)
  dsimp only [Pt.U, Pt.locs, Pt.cells, Pt.slots] at X4 l4 y4 z4 st4 hQ4
  subst l4 y4 z4
  obtain ⟨u0_4, rfl, hr_u0_4, N4q, e4⟩ := hQ4
  have N4 := Fr.app N3 N4q
  obtain ⟨T5, h5, X5, e5, E5, A5, D5, -, st5⟩ := newO X4 hx hZ hown (hw _ (List.mem_of_getElem? (i := 13) rfl)) (hw _ (List.mem_of_getElem? (i := 14) rfl)) (hw _ (List.mem_of_getElem? (i := 15) rfl)) e4 (g := (mkF m 38 #[iv p0, iv p1, iv p2, iv p3, iv p4, iv (1 : Int32), .val u0_1, .val u0_2, .val u0_3, .val u0_4, iv (1 : Int32), .unset, .unset, .unset] [])) rfl (hb hby at_38) (by decide) (by decide)
  obtain ⟨b0_5, gg5⟩ : ∃ z, z = h0.size := ⟨_, rfl⟩
  rw [← gg5] at A5 D5 st5
  have g_b0_5 : n0 ≤ b0_5 := Nat.le_trans Z0 (Nat.le_of_eq gg5.symm)
  have sz_b0_5 : h0.size ≤ b0_5 := Nat.le_trans (Keep.refl h0 []).1 (Nat.le_of_eq gg5.symm)
  have Z5 : n0 ≤ h5.size := Nat.le_trans Z0 E5.1
  have KK5 : Keep h0 h5 [] := (Keep.refl h0 []).ext E5
  have E_b0_5 : Exa Z h5 b0_5 "com/example/pipewright/pipewright/io/Iso2022Layout$State" := A5
  have F_b0_5_g0 : Fld Z h5 b0_5 "com/example/pipewright/pipewright/io/Iso2022Layout$State" "g0" "Lcom/example/pipewright/pipewright/io/Iso2022Layout$GraphicSet;" .null := D5 (Or.inr (hw _ (List.mem_of_getElem? (i := 28) rfl))) (ty := (.object "com/example/pipewright/pipewright/io/Iso2022Layout$GraphicSet")) (by decide)
  have F_b0_5_g1 : Fld Z h5 b0_5 "com/example/pipewright/pipewright/io/Iso2022Layout$State" "g1" "Lcom/example/pipewright/pipewright/io/Iso2022Layout$GraphicSet;" .null := D5 (Or.inr (hw _ (List.mem_of_getElem? (i := 30) rfl))) (ty := (.object "com/example/pipewright/pipewright/io/Iso2022Layout$GraphicSet")) (by decide)
  have F_b0_5_g2 : Fld Z h5 b0_5 "com/example/pipewright/pipewright/io/Iso2022Layout$State" "g2" "Lcom/example/pipewright/pipewright/io/Iso2022Layout$GraphicSet;" .null := D5 (Or.inr (hw _ (List.mem_of_getElem? (i := 32) rfl))) (ty := (.object "com/example/pipewright/pipewright/io/Iso2022Layout$GraphicSet")) (by decide)
  have F_b0_5_g3 : Fld Z h5 b0_5 "com/example/pipewright/pipewright/io/Iso2022Layout$State" "g3" "Lcom/example/pipewright/pipewright/io/Iso2022Layout$GraphicSet;" .null := D5 (Or.inr (hw _ (List.mem_of_getElem? (i := 34) rfl))) (ty := (.object "com/example/pipewright/pipewright/io/Iso2022Layout$GraphicSet")) (by decide)
  have F_b0_5_shifted : Fld Z h5 b0_5 "com/example/pipewright/pipewright/io/Iso2022Layout$State" "shifted" "Z" (.int (0 : Int32)) := D5 (Or.inr (hw _ (List.mem_of_getElem? (i := 36) rfl))) (ty := .boolean) (by decide)
  obtain ⟨_, _, ⟨T6, L6, k6, n6⟩, -, X6, ⟨Lc6, hQ6, l6, y6, z6⟩, st6⟩ := X5.specialBack hx (y := (⟨"com/example/pipewright/pipewright/io/Iso2022Layout$State", "<init>", "(Lcom/example/pipewright/pipewright/io/Iso2022Layout$GraphicSet;Lcom/example/pipewright/pipewright/io/Iso2022Layout$GraphicSet;Lcom/example/pipewright/pipewright/io/Iso2022Layout$GraphicSet;Lcom/example/pipewright/pipewright/io/Iso2022Layout$GraphicSet;Z)V"⟩ : MethodName)) rfl hown (mvT hZ (hw _ (List.mem_of_getElem? (i := 16) rfl))) (mvT hZ (hw _ (List.mem_of_getElem? (i := 17) rfl))) (mvT hZ (hw _ (List.mem_of_getElem? (i := 18) rfl))) (by decide) (backOf (W := 1) (rm2_6 l Z a0 hw [] u0_1 u0_2 u0_3 u0_4 b0_5 h5 n0 Z5 hr_u0_1 E_b0_5 F_b0_5_g0 g_b0_5 hr_u0_2 F_b0_5_g1 hr_u0_3 F_b0_5_g2 hr_u0_4 F_b0_5_g3 F_b0_5_shifted) hZ (hw _ (List.mem_of_getElem? (i := 18) rfl)) (hw _ (List.mem_of_getElem? (i := 15) rfl)) (by decide) (by decide)) (g := (mkF m 52 #[iv p0, iv p1, iv p2, iv p3, iv p4, iv (1 : Int32), .val u0_1, .val u0_2, .val u0_3, .val u0_4, iv (1 : Int32), .unset, .unset, .unset] [(.int (1 : Int32)), u0_4, u0_3, u0_2, u0_1, (.ref b0_5), (.ref b0_5)])) rfl (by rw [hml]; rfl) (Steps.refl _) (a := b0_5) (argsL := [u0_1, u0_2, u0_3, u0_4, (.int (1 : Int32))]) (rest := [(.ref b0_5)]) (lenOf pd_2 rfl) rfl (by show 2 * 0 + _ ≤ _; exact Nat.le_of_eq rfl) (hb hby at_52) (fun _ _ => ⟨rfl, e5, (by decide : 1 + 0 ≤ _), (by decide : 5 + 0 ≤ _)⟩)
  dsimp only [Pt.U, Pt.locs, Pt.cells, Pt.slots] at X6 l6 y6 z6 st6 hQ6
  subst l6 y6 z6
  obtain ⟨rfl, N6q, K6, fq6_0, fq6_1, fq6_2, fq6_3, fq6_4, fq6_5⟩ := hQ6
  have KK6 : Keep h0 T6.heap [] := KK5.trans K6 (allS (P := fun x => x ∈ [] ∨ h0.size ≤ x) (Or.inr sz_b0_5) all0)
  have Z6 : n0 ≤ T6.heap.size := Nat.le_trans Z5 K6.1
  have N6 := Fr.app N4 N6q
  obtain ⟨cq7, kq7, q7a, q7b, q7c⟩ := isOf hZ rfl fq6_5
  obtain ⟨_, _, ⟨T7, L7, k7, n7⟩, -, X7, ⟨Lc7, hQ7, l7, y7, z7⟩, st7⟩ := X6.virtualBack hx (y := (⟨"com/example/pipewright/pipewright/io/Iso2022Layout$State", "get", "(I)Lcom/example/pipewright/pipewright/io/Iso2022Layout$GraphicSet;"⟩ : MethodName)) (z := (⟨"com/example/pipewright/pipewright/io/Iso2022Layout$State", "get", "(I)Lcom/example/pipewright/pipewright/io/Iso2022Layout$GraphicSet;"⟩ : MethodName)) hown (mvT hZ (hw _ (List.mem_of_getElem? (i := 37) rfl))) (mvT hZ (hw _ (List.mem_of_getElem? (i := 38) rfl))) (notFace_of_selects (args := #[]) (mvT hZ (hw _ (List.mem_of_getElem? (i := 40) rfl)))) (mvT hZ (hw _ (List.mem_of_getElem? (i := 40) rfl))) (mvT hZ (hw _ (List.mem_of_getElem? (i := 39) rfl))) (by decide) (backOf (W := 0) (rm5_3 l Z a0 hw [] u0_2 b0_5 T6.heap n0 Z6 fq6_1 hr_u0_2) hZ (hw _ (List.mem_of_getElem? (i := 41) rfl)) (hw _ (List.mem_of_getElem? (i := 15) rfl)) (by decide) (by decide)) q7a q7c (g := (mkF m 61 #[iv p0, iv p1, iv p2, iv p3, iv p4, iv (1 : Int32), .val u0_1, .val u0_2, .val u0_3, .val u0_4, iv (1 : Int32), rv b0_5, .unset, .unset] [(.int (1 : Int32)), (.ref b0_5)])) rfl (by rw [hml]; rfl) (Steps.refl _) (argsL := [(.int (1 : Int32))]) (rest := []) (lenOf pd_0 rfl) rfl (by show 2 * 0 + _ ≤ _; exact Nat.le_of_eq rfl) (hb hby at_61) (fun _ _ => ⟨rfl, rfl, (by decide : 1 + 0 ≤ _), (by decide : 5 + 0 ≤ _)⟩)
  dsimp only [Pt.U, Pt.locs, Pt.cells, Pt.slots] at X7 l7 y7 z7 st7 hQ7
  subst l7 y7 z7
  obtain ⟨rfl, N7q, e7⟩ := hQ7
  have N7 := Fr.app N6 N7q
  obtain ⟨fs, hr, hrun, hended, hW, hsame⟩ := X7.leave (v := (some (.int (1 : Int32)))) (fun h => by rw [Bd.returns] at h; cases h)
  refine ⟨_, _, pre0 _ ?_, hrun, hended, _, _, rfl, ?_, ⟨_, rfl⟩, hW, hsame.mono (by decide) (by decide)⟩
  · show Steps p.tables e below (s₁.setTop (mkF m 0 #[iv p0, iv p1, iv p2, iv p3, iv p4, iv (1 : Int32), .unset, .unset, .unset, .unset, .unset, .unset, .unset, .unset] [])) _
    refine XS.iloadN X0.here hx rfl (hb hby at_0) rfl ?_
    show Steps p.tables e below (s₁.setTop (mkF m 1 #[iv p0, iv p1, iv p2, iv p3, iv p4, iv (1 : Int32), .unset, .unset, .unset, .unset, .unset, .unset, .unset, .unset] [(.int p0)])) _
    refine st1 _ ?_
    show Steps p.tables e below (T1.setTop (mkF m 4 #[iv p0, iv p1, iv p2, iv p3, iv p4, iv (1 : Int32), .unset, .unset, .unset, .unset, .unset, .unset, .unset, .unset] [u0_1])) _
    refine XS.astore X1.here hx rfl (hb hby at_4) rfl hr_u0_1 (l' := #[iv p0, iv p1, iv p2, iv p3, iv p4, iv (1 : Int32), .val u0_1, .unset, .unset, .unset, .unset, .unset, .unset, .unset]) (by rcases ref_cases hr_u0_1 with q | ⟨_, q⟩ <;> (subst q; rfl)) ?_
    show Steps p.tables e below (T1.setTop (mkF m 6 #[iv p0, iv p1, iv p2, iv p3, iv p4, iv (1 : Int32), .val u0_1, .unset, .unset, .unset, .unset, .unset, .unset, .unset] [])) _
    refine XS.iloadN X1.here hx rfl (hb hby at_6) rfl ?_
    show Steps p.tables e below (T1.setTop (mkF m 7 #[iv p0, iv p1, iv p2, iv p3, iv p4, iv (1 : Int32), .val u0_1, .unset, .unset, .unset, .unset, .unset, .unset, .unset] [(.int p1)])) _
    refine st2 _ ?_
    show Steps p.tables e below (T2.setTop (mkF m 10 #[iv p0, iv p1, iv p2, iv p3, iv p4, iv (1 : Int32), .val u0_1, .unset, .unset, .unset, .unset, .unset, .unset, .unset] [u0_2])) _
    refine XS.astore X2.here hx rfl (hb hby at_10) rfl hr_u0_2 (l' := #[iv p0, iv p1, iv p2, iv p3, iv p4, iv (1 : Int32), .val u0_1, .val u0_2, .unset, .unset, .unset, .unset, .unset, .unset]) (by rcases ref_cases hr_u0_2 with q | ⟨_, q⟩ <;> (subst q; rfl)) ?_
    show Steps p.tables e below (T2.setTop (mkF m 12 #[iv p0, iv p1, iv p2, iv p3, iv p4, iv (1 : Int32), .val u0_1, .val u0_2, .unset, .unset, .unset, .unset, .unset, .unset] [])) _
    refine XS.iloadN X2.here hx rfl (hb hby at_12) rfl ?_
    show Steps p.tables e below (T2.setTop (mkF m 13 #[iv p0, iv p1, iv p2, iv p3, iv p4, iv (1 : Int32), .val u0_1, .val u0_2, .unset, .unset, .unset, .unset, .unset, .unset] [(.int p2)])) _
    refine st3 _ ?_
    show Steps p.tables e below (T3.setTop (mkF m 16 #[iv p0, iv p1, iv p2, iv p3, iv p4, iv (1 : Int32), .val u0_1, .val u0_2, .unset, .unset, .unset, .unset, .unset, .unset] [u0_3])) _
    refine XS.astore X3.here hx rfl (hb hby at_16) rfl hr_u0_3 (l' := #[iv p0, iv p1, iv p2, iv p3, iv p4, iv (1 : Int32), .val u0_1, .val u0_2, .val u0_3, .unset, .unset, .unset, .unset, .unset]) (by rcases ref_cases hr_u0_3 with q | ⟨_, q⟩ <;> (subst q; rfl)) ?_
    show Steps p.tables e below (T3.setTop (mkF m 18 #[iv p0, iv p1, iv p2, iv p3, iv p4, iv (1 : Int32), .val u0_1, .val u0_2, .val u0_3, .unset, .unset, .unset, .unset, .unset] [])) _
    refine XS.iloadN X3.here hx rfl (hb hby at_18) rfl ?_
    show Steps p.tables e below (T3.setTop (mkF m 19 #[iv p0, iv p1, iv p2, iv p3, iv p4, iv (1 : Int32), .val u0_1, .val u0_2, .val u0_3, .unset, .unset, .unset, .unset, .unset] [(.int p3)])) _
    refine st4 _ ?_
    show Steps p.tables e below (T4.setTop (mkF m 22 #[iv p0, iv p1, iv p2, iv p3, iv p4, iv (1 : Int32), .val u0_1, .val u0_2, .val u0_3, .unset, .unset, .unset, .unset, .unset] [u0_4])) _
    refine XS.astore X4.here hx rfl (hb hby at_22) rfl hr_u0_4 (l' := #[iv p0, iv p1, iv p2, iv p3, iv p4, iv (1 : Int32), .val u0_1, .val u0_2, .val u0_3, .val u0_4, .unset, .unset, .unset, .unset]) (by rcases ref_cases hr_u0_4 with q | ⟨_, q⟩ <;> (subst q; rfl)) ?_
    show Steps p.tables e below (T4.setTop (mkF m 24 #[iv p0, iv p1, iv p2, iv p3, iv p4, iv (1 : Int32), .val u0_1, .val u0_2, .val u0_3, .val u0_4, .unset, .unset, .unset, .unset] [])) _
    refine XS.iload X4.here hx rfl (hb hby at_24) rfl ?_
    show Steps p.tables e below (T4.setTop (mkF m 26 #[iv p0, iv p1, iv p2, iv p3, iv p4, iv (1 : Int32), .val u0_1, .val u0_2, .val u0_3, .val u0_4, .unset, .unset, .unset, .unset] [(.int p4)])) _
    refine XS.iconst X4.here hx rfl (hb hby at_26) ?_
    show Steps p.tables e below (T4.setTop (mkF m 27 #[iv p0, iv p1, iv p2, iv p3, iv p4, iv (1 : Int32), .val u0_1, .val u0_2, .val u0_3, .val u0_4, .unset, .unset, .unset, .unset] [(.int (1 : Int32)), (.int p4)])) _
    refine XS.iand X4.here hx rfl (hb hby at_27) rfl ?_
    show Steps p.tables e below (T4.setTop (mkF m 28 #[iv p0, iv p1, iv p2, iv p3, iv p4, iv (1 : Int32), .val u0_1, .val u0_2, .val u0_3, .val u0_4, .unset, .unset, .unset, .unset] [(.int (p4 &&& (1 : Int32)))])) _
    rewrite [h4]
    show Steps p.tables e below (T4.setTop (mkF m 28 #[iv p0, iv p1, iv p2, iv p3, iv p4, iv (1 : Int32), .val u0_1, .val u0_2, .val u0_3, .val u0_4, .unset, .unset, .unset, .unset] [(.int (1 : Int32))])) _
    refine XS.ifNo X4.here hx rfl (hb hby at_28) rfl ((if0 _ _).trans (feq (by decide +kernel : ¬ ((1 : Int32) = (0 : Int32)))).1) ?_
    show Steps p.tables e below (T4.setTop (mkF m 31 #[iv p0, iv p1, iv p2, iv p3, iv p4, iv (1 : Int32), .val u0_1, .val u0_2, .val u0_3, .val u0_4, .unset, .unset, .unset, .unset] [])) _
    refine XS.iconst X4.here hx rfl (hb hby at_31) ?_
    show Steps p.tables e below (T4.setTop (mkF m 32 #[iv p0, iv p1, iv p2, iv p3, iv p4, iv (1 : Int32), .val u0_1, .val u0_2, .val u0_3, .val u0_4, .unset, .unset, .unset, .unset] [(.int (1 : Int32))])) _
    refine XS.goto X4.here hx rfl (pc0 := 32) (pc' := 36) rfl (hb hby at_32) (by decide) (by decide) ?_
    show Steps p.tables e below (T4.setTop (mkF m 36 #[iv p0, iv p1, iv p2, iv p3, iv p4, iv (1 : Int32), .val u0_1, .val u0_2, .val u0_3, .val u0_4, .unset, .unset, .unset, .unset] [(.int (1 : Int32))])) _
    refine XS.istore X4.here hx rfl (hb hby at_36) rfl (l' := #[iv p0, iv p1, iv p2, iv p3, iv p4, iv (1 : Int32), .val u0_1, .val u0_2, .val u0_3, .val u0_4, iv (1 : Int32), .unset, .unset, .unset]) rfl ?_
    show Steps p.tables e below (T4.setTop (mkF m 38 #[iv p0, iv p1, iv p2, iv p3, iv p4, iv (1 : Int32), .val u0_1, .val u0_2, .val u0_3, .val u0_4, iv (1 : Int32), .unset, .unset, .unset] [])) _
    refine st5 _ ?_
    show Steps p.tables e below (T5.setTop (mkF m 41 #[iv p0, iv p1, iv p2, iv p3, iv p4, iv (1 : Int32), .val u0_1, .val u0_2, .val u0_3, .val u0_4, iv (1 : Int32), .unset, .unset, .unset] [(.ref b0_5)])) _
    refine XS.dup X5.here hx rfl (hb hby at_41) rfl rfl ?_
    show Steps p.tables e below (T5.setTop (mkF m 42 #[iv p0, iv p1, iv p2, iv p3, iv p4, iv (1 : Int32), .val u0_1, .val u0_2, .val u0_3, .val u0_4, iv (1 : Int32), .unset, .unset, .unset] [(.ref b0_5), (.ref b0_5)])) _
    refine XS.aload X5.here hx rfl (hb hby at_42) rfl hr_u0_1 ?_
    show Steps p.tables e below (T5.setTop (mkF m 44 #[iv p0, iv p1, iv p2, iv p3, iv p4, iv (1 : Int32), .val u0_1, .val u0_2, .val u0_3, .val u0_4, iv (1 : Int32), .unset, .unset, .unset] [u0_1, (.ref b0_5), (.ref b0_5)])) _
    refine XS.aload X5.here hx rfl (hb hby at_44) rfl hr_u0_2 ?_
    show Steps p.tables e below (T5.setTop (mkF m 46 #[iv p0, iv p1, iv p2, iv p3, iv p4, iv (1 : Int32), .val u0_1, .val u0_2, .val u0_3, .val u0_4, iv (1 : Int32), .unset, .unset, .unset] [u0_2, u0_1, (.ref b0_5), (.ref b0_5)])) _
    refine XS.aload X5.here hx rfl (hb hby at_46) rfl hr_u0_3 ?_
    show Steps p.tables e below (T5.setTop (mkF m 48 #[iv p0, iv p1, iv p2, iv p3, iv p4, iv (1 : Int32), .val u0_1, .val u0_2, .val u0_3, .val u0_4, iv (1 : Int32), .unset, .unset, .unset] [u0_3, u0_2, u0_1, (.ref b0_5), (.ref b0_5)])) _
    refine XS.aload X5.here hx rfl (hb hby at_48) rfl hr_u0_4 ?_
    show Steps p.tables e below (T5.setTop (mkF m 50 #[iv p0, iv p1, iv p2, iv p3, iv p4, iv (1 : Int32), .val u0_1, .val u0_2, .val u0_3, .val u0_4, iv (1 : Int32), .unset, .unset, .unset] [u0_4, u0_3, u0_2, u0_1, (.ref b0_5), (.ref b0_5)])) _
    refine XS.iload X5.here hx rfl (hb hby at_50) rfl ?_
    show Steps p.tables e below (T5.setTop (mkF m 52 #[iv p0, iv p1, iv p2, iv p3, iv p4, iv (1 : Int32), .val u0_1, .val u0_2, .val u0_3, .val u0_4, iv (1 : Int32), .unset, .unset, .unset] [(.int (1 : Int32)), u0_4, u0_3, u0_2, u0_1, (.ref b0_5), (.ref b0_5)])) _
    refine st6.trans ?_
    show Steps p.tables e below (T6.setTop (mkF m 55 #[iv p0, iv p1, iv p2, iv p3, iv p4, iv (1 : Int32), .val u0_1, .val u0_2, .val u0_3, .val u0_4, iv (1 : Int32), .unset, .unset, .unset] [(.ref b0_5)])) _
    refine XS.astore X6.here hx rfl (hb hby at_55) rfl rfl (l' := #[iv p0, iv p1, iv p2, iv p3, iv p4, iv (1 : Int32), .val u0_1, .val u0_2, .val u0_3, .val u0_4, iv (1 : Int32), rv b0_5, .unset, .unset]) rfl ?_
    show Steps p.tables e below (T6.setTop (mkF m 57 #[iv p0, iv p1, iv p2, iv p3, iv p4, iv (1 : Int32), .val u0_1, .val u0_2, .val u0_3, .val u0_4, iv (1 : Int32), rv b0_5, .unset, .unset] [])) _
    refine XS.aload X6.here hx rfl (hb hby at_57) rfl rfl ?_
    show Steps p.tables e below (T6.setTop (mkF m 59 #[iv p0, iv p1, iv p2, iv p3, iv p4, iv (1 : Int32), .val u0_1, .val u0_2, .val u0_3, .val u0_4, iv (1 : Int32), rv b0_5, .unset, .unset] [(.ref b0_5)])) _
    refine XS.iload X6.here hx rfl (hb hby at_59) rfl ?_
    show Steps p.tables e below (T6.setTop (mkF m 61 #[iv p0, iv p1, iv p2, iv p3, iv p4, iv (1 : Int32), .val u0_1, .val u0_2, .val u0_3, .val u0_4, iv (1 : Int32), rv b0_5, .unset, .unset] [(.int (1 : Int32)), (.ref b0_5)])) _
    refine st7.trans ?_
    show Steps p.tables e below (T7.setTop (mkF m 64 #[iv p0, iv p1, iv p2, iv p3, iv p4, iv (1 : Int32), .val u0_1, .val u0_2, .val u0_3, .val u0_4, iv (1 : Int32), rv b0_5, .unset, .unset] [u0_2])) _
    refine XS.astore X7.here hx rfl (hb hby at_64) rfl hr_u0_2 (l' := #[iv p0, iv p1, iv p2, iv p3, iv p4, iv (1 : Int32), .val u0_1, .val u0_2, .val u0_3, .val u0_4, iv (1 : Int32), rv b0_5, .val u0_2, .unset]) (by rcases ref_cases hr_u0_2 with q | ⟨_, q⟩ <;> (subst q; rfl)) ?_
    show Steps p.tables e below (T7.setTop (mkF m 66 #[iv p0, iv p1, iv p2, iv p3, iv p4, iv (1 : Int32), .val u0_1, .val u0_2, .val u0_3, .val u0_4, iv (1 : Int32), rv b0_5, .val u0_2, .unset] [])) _
    refine XS.iload X7.here hx rfl (hb hby at_66) rfl ?_
    show Steps p.tables e below (T7.setTop (mkF m 68 #[iv p0, iv p1, iv p2, iv p3, iv p4, iv (1 : Int32), .val u0_1, .val u0_2, .val u0_3, .val u0_4, iv (1 : Int32), rv b0_5, .val u0_2, .unset] [(.int (1 : Int32))])) _
    refine XS.ifYes X7.here hx rfl (pc0 := 68) (pc' := 78) rfl (hb hby at_68) rfl ((if0 _ _).trans (feq (by decide +kernel : ¬ ((1 : Int32) = (0 : Int32)))).2) (by decide) (by decide) ?_
    show Steps p.tables e below (T7.setTop (mkF m 78 #[iv p0, iv p1, iv p2, iv p3, iv p4, iv (1 : Int32), .val u0_1, .val u0_2, .val u0_3, .val u0_4, iv (1 : Int32), rv b0_5, .val u0_2, .unset] [])) _
    refine XS.iload X7.here hx rfl (hb hby at_78) rfl ?_
    show Steps p.tables e below (T7.setTop (mkF m 80 #[iv p0, iv p1, iv p2, iv p3, iv p4, iv (1 : Int32), .val u0_1, .val u0_2, .val u0_3, .val u0_4, iv (1 : Int32), rv b0_5, .val u0_2, .unset] [(.int (1 : Int32))])) _
    refine XS.iconst X7.here hx rfl (hb hby at_80) ?_
    show Steps p.tables e below (T7.setTop (mkF m 81 #[iv p0, iv p1, iv p2, iv p3, iv p4, iv (1 : Int32), .val u0_1, .val u0_2, .val u0_3, .val u0_4, iv (1 : Int32), rv b0_5, .val u0_2, .unset] [(.int (1 : Int32)), (.int (1 : Int32))])) _
    refine XS.icmpNo X7.here hx rfl (hb hby at_81) rfl (teq (by decide +kernel : (1 : Int32) = (1 : Int32))).2 ?_
    show Steps p.tables e below (T7.setTop (mkF m 84 #[iv p0, iv p1, iv p2, iv p3, iv p4, iv (1 : Int32), .val u0_1, .val u0_2, .val u0_3, .val u0_4, iv (1 : Int32), rv b0_5, .val u0_2, .unset] [])) _
    refine XS.aload X7.here hx rfl (hb hby at_84) rfl hr_u0_2 ?_
    show Steps p.tables e below (T7.setTop (mkF m 86 #[iv p0, iv p1, iv p2, iv p3, iv p4, iv (1 : Int32), .val u0_1, .val u0_2, .val u0_3, .val u0_4, iv (1 : Int32), rv b0_5, .val u0_2, .unset] [u0_2])) _
    refine XS.astore X7.here hx rfl (hb hby at_86) rfl hr_u0_2 (l' := #[iv p0, iv p1, iv p2, iv p3, iv p4, iv (1 : Int32), .val u0_1, .val u0_2, .val u0_3, .val u0_4, iv (1 : Int32), rv b0_5, .val u0_2, .val u0_2]) (by rcases ref_cases hr_u0_2 with q | ⟨_, q⟩ <;> (subst q; rfl)) ?_
    show Steps p.tables e below (T7.setTop (mkF m 88 #[iv p0, iv p1, iv p2, iv p3, iv p4, iv (1 : Int32), .val u0_1, .val u0_2, .val u0_3, .val u0_4, iv (1 : Int32), rv b0_5, .val u0_2, .val u0_2] [])) _
    refine XS.goto X7.here hx rfl (pc0 := 88) (pc' := 108) rfl (hb hby at_88) (by decide) (by decide) ?_
    show Steps p.tables e below (T7.setTop (mkF m 108 #[iv p0, iv p1, iv p2, iv p3, iv p4, iv (1 : Int32), .val u0_1, .val u0_2, .val u0_3, .val u0_4, iv (1 : Int32), rv b0_5, .val u0_2, .val u0_2] [])) _
    refine XS.aload X7.here hx rfl (hb hby at_108) rfl hr_u0_2 ?_
    show Steps p.tables e below (T7.setTop (mkF m 110 #[iv p0, iv p1, iv p2, iv p3, iv p4, iv (1 : Int32), .val u0_1, .val u0_2, .val u0_3, .val u0_4, iv (1 : Int32), rv b0_5, .val u0_2, .val u0_2] [u0_2])) _
    refine XS.aload X7.here hx rfl (hb hby at_110) rfl hr_u0_2 ?_
    show Steps p.tables e below (T7.setTop (mkF m 112 #[iv p0, iv p1, iv p2, iv p3, iv p4, iv (1 : Int32), .val u0_1, .val u0_2, .val u0_3, .val u0_4, iv (1 : Int32), rv b0_5, .val u0_2, .val u0_2] [u0_2, u0_2])) _
    refine Jvm.RoadKit.acmp (g := (mkF m 112 #[iv p0, iv p1, iv p2, iv p3, iv p4, iv (1 : Int32), .val u0_1, .val u0_2, .val u0_3, .val u0_4, iv (1 : Int32), rv b0_5, .val u0_2, .val u0_2] [u0_2, u0_2])) X7 hx rfl hr_u0_2 hr_u0_2 (pc0 := 112) (pc' := 115) (same := true) rfl (hb hby at_112) rfl (decide_eq_true rfl) (by decide) (by decide) ?_
    show Steps p.tables e below (T7.setTop (mkF m 115 #[iv p0, iv p1, iv p2, iv p3, iv p4, iv (1 : Int32), .val u0_1, .val u0_2, .val u0_3, .val u0_4, iv (1 : Int32), rv b0_5, .val u0_2, .val u0_2] [])) _
    refine XS.iconst X7.here hx rfl (hb hby at_115) ?_
    show Steps p.tables e below (T7.setTop (mkF m 116 #[iv p0, iv p1, iv p2, iv p3, iv p4, iv (1 : Int32), .val u0_1, .val u0_2, .val u0_3, .val u0_4, iv (1 : Int32), rv b0_5, .val u0_2, .val u0_2] [(.int (1 : Int32))])) _
    refine XS.goto X7.here hx rfl (pc0 := 116) (pc' := 120) rfl (hb hby at_116) (by decide) (by decide) ?_
    show Steps p.tables e below (T7.setTop (mkF m 120 #[iv p0, iv p1, iv p2, iv p3, iv p4, iv (1 : Int32), .val u0_1, .val u0_2, .val u0_3, .val u0_4, iv (1 : Int32), rv b0_5, .val u0_2, .val u0_2] [(.int (1 : Int32))])) _
    exact retN X7 hx (t := .boolean) Bd.returns (by simp) (hb hby at_120) hr
  · exact ⟨rfl, N7⟩
set_option maxRecDepth 65536 in
set_option maxHeartbeats 40000000 in
theorem rm0_6 (l : Launch) (Z : State) (a0 : Array Value) (hw : ∀ d ∈ tables_1, d.before a0 Z = true) (ws : List Jvm.Cond) (p0 : Int32) (p1 : Int32) (p2 : Int32) (p3 : Int32) (p4 : Int32) (w_GraphicSet_ASCII : Addr) (w_GraphicSet_UNREAD_ONE_BYTE : Addr) (w_GraphicSet_JIS_X_0201_KATAKANA : Addr) (w_GraphicSet_JIS_X_0201_ROMAN : Addr) (w_GraphicSet_JIS_X_0208 : Addr) (w_GraphicSet_CNS_11643_3 : Addr) (w_GraphicSet_UNREAD_TWO_BYTES : Addr) (w_GraphicSet_KS_X_1001 : Addr) (w_GraphicSet_CNS_11643_6 : Addr) (w_GraphicSet_CNS_11643_2 : Addr) (w_GraphicSet_CNS_11643_5 : Addr) (w_GraphicSet_CNS_11643_1 : Addr) (w_GraphicSet_CNS_11643_4 : Addr) (w_GraphicSet_JIS_X_0212 : Addr) (w_GraphicSet_GB_2312 : Addr) (w_GraphicSet_CNS_11643_7 : Addr) (h0 : Heap) (n0 : Nat) (Z0 : n0 ≤ h0.size) (S_GraphicSet_ASCII : Sta Z h0 "com/example/pipewright/pipewright/io/Iso2022Layout$GraphicSet" "ASCII" "Lcom/example/pipewright/pipewright/io/Iso2022Layout$GraphicSet;" (.ref w_GraphicSet_ASCII)) (S_GraphicSet_JIS_X_0201_ROMAN : Sta Z h0 "com/example/pipewright/pipewright/io/Iso2022Layout$GraphicSet" "JIS_X_0201_ROMAN" "Lcom/example/pipewright/pipewright/io/Iso2022Layout$GraphicSet;" (.ref w_GraphicSet_JIS_X_0201_ROMAN)) (S_GraphicSet_JIS_X_0201_KATAKANA : Sta Z h0 "com/example/pipewright/pipewright/io/Iso2022Layout$GraphicSet" "JIS_X_0201_KATAKANA" "Lcom/example/pipewright/pipewright/io/Iso2022Layout$GraphicSet;" (.ref w_GraphicSet_JIS_X_0201_KATAKANA)) (S_GraphicSet_UNREAD_ONE_BYTE : Sta Z h0 "com/example/pipewright/pipewright/io/Iso2022Layout$GraphicSet" "UNREAD_ONE_BYTE" "Lcom/example/pipewright/pipewright/io/Iso2022Layout$GraphicSet;" (.ref w_GraphicSet_UNREAD_ONE_BYTE)) (S_GraphicSet_JIS_X_0208 : Sta Z h0 "com/example/pipewright/pipewright/io/Iso2022Layout$GraphicSet" "JIS_X_0208" "Lcom/example/pipewright/pipewright/io/Iso2022Layout$GraphicSet;" (.ref w_GraphicSet_JIS_X_0208)) (S_GraphicSet_JIS_X_0212 : Sta Z h0 "com/example/pipewright/pipewright/io/Iso2022Layout$GraphicSet" "JIS_X_0212" "Lcom/example/pipewright/pipewright/io/Iso2022Layout$GraphicSet;" (.ref w_GraphicSet_JIS_X_0212)) (S_GraphicSet_GB_2312 : Sta Z h0 "com/example/pipewright/pipewright/io/Iso2022Layout$GraphicSet" "GB_2312" "Lcom/example/pipewright/pipewright/io/Iso2022Layout$GraphicSet;" (.ref w_GraphicSet_GB_2312)) (S_GraphicSet_KS_X_1001 : Sta Z h0 "com/example/pipewright/pipewright/io/Iso2022Layout$GraphicSet" "KS_X_1001" "Lcom/example/pipewright/pipewright/io/Iso2022Layout$GraphicSet;" (.ref w_GraphicSet_KS_X_1001)) (S_GraphicSet_CNS_11643_1 : Sta Z h0 "com/example/pipewright/pipewright/io/Iso2022Layout$GraphicSet" "CNS_11643_1" "Lcom/example/pipewright/pipewright/io/Iso2022Layout$GraphicSet;" (.ref w_GraphicSet_CNS_11643_1)) (S_GraphicSet_CNS_11643_2 : Sta Z h0 "com/example/pipewright/pipewright/io/Iso2022Layout$GraphicSet" "CNS_11643_2" "Lcom/example/pipewright/pipewright/io/Iso2022Layout$GraphicSet;" (.ref w_GraphicSet_CNS_11643_2)) (S_GraphicSet_CNS_11643_3 : Sta Z h0 "com/example/pipewright/pipewright/io/Iso2022Layout$GraphicSet" "CNS_11643_3" "Lcom/example/pipewright/pipewright/io/Iso2022Layout$GraphicSet;" (.ref w_GraphicSet_CNS_11643_3)) (S_GraphicSet_CNS_11643_4 : Sta Z h0 "com/example/pipewright/pipewright/io/Iso2022Layout$GraphicSet" "CNS_11643_4" "Lcom/example/pipewright/pipewright/io/Iso2022Layout$GraphicSet;" (.ref w_GraphicSet_CNS_11643_4)) (S_GraphicSet_CNS_11643_5 : Sta Z h0 "com/example/pipewright/pipewright/io/Iso2022Layout$GraphicSet" "CNS_11643_5" "Lcom/example/pipewright/pipewright/io/Iso2022Layout$GraphicSet;" (.ref w_GraphicSet_CNS_11643_5)) (S_GraphicSet_CNS_11643_6 : Sta Z h0 "com/example/pipewright/pipewright/io/Iso2022Layout$GraphicSet" "CNS_11643_6" "Lcom/example/pipewright/pipewright/io/Iso2022Layout$GraphicSet;" (.ref w_GraphicSet_CNS_11643_6)) (S_GraphicSet_CNS_11643_7 : Sta Z h0 "com/example/pipewright/pipewright/io/Iso2022Layout$GraphicSet" "CNS_11643_7" "Lcom/example/pipewright/pipewright/io/Iso2022Layout$GraphicSet;" (.ref w_GraphicSet_CNS_11643_7)) (S_GraphicSet_UNREAD_TWO_BYTES : Sta Z h0 "com/example/pipewright/pipewright/io/Iso2022Layout$GraphicSet" "UNREAD_TWO_BYTES" "Lcom/example/pipewright/pipewright/io/Iso2022Layout$GraphicSet;" (.ref w_GraphicSet_UNREAD_TWO_BYTES)) (h4 : (p4 &&& (1 : Int32)) = (1 : Int32)) :
    MetFree l x (head1 (Jvm.Cond.code x code maxLocals ret :: ws) room_1) (fun a U => a = #[(.int p0), (.int p1), (.int p2), (.int p3), (.int p4), (.int (2 : Int32))] ∧ Z.Warmed39 U.vm ∧ U.heap = h0) (fun _ _ _ _ _ => True) (fun _ U o U' => ∃ v L, o = .returned v ∧ own_QL n0 v U'.heap L ∧ FrameEnd U o U' L room_1.cells room_1.slots) := by
  refine MetFree.of_bodySF (plainFor_of_name pn_0) hisR ?_
  intro p e s m args below meth c s₁ Bd hml0 hP hK
  obtain ⟨rfl, hZ, hh⟩ := hP
  have hx := Bd.exec
  have hby := Bd.bytes
  have hml : c.maxLocals = 14 := hml0
  have hown : s.vm.findClass "com/example/pipewright/pipewright/io/StateGetPinLaw" = some m.cls := findClass_of_methodNamed Bd.named
  have hnm := (name_of_methodNamed Bd.named Bd.method).1
  have X0 : Stand p l e room_1 s m #[(.int p0), (.int p1), (.int p2), (.int p3), (.int p4), (.int (2 : Int32))] below meth c s₁ [] 0 0 := Stand.of_body Bd
  have e0 : s₁.heap = h0 := by rw [← hh, Bd.state]; rfl
  have N0 := Fr.nil n0
  have pre0 : ∀ t, Steps p.tables e below (s₁.setTop (mkF m 0 #[iv p0, iv p1, iv p2, iv p3, iv p4, iv (2 : Int32), .unset, .unset, .unset, .unset, .unset, .unset, .unset, .unset] [])) t → Steps p.tables e below (s₁.setTop (entryFrame m #[(.int p0), (.int p1), (.int p2), (.int p3), (.int p4), (.int (2 : Int32))] maxLocals)) t := fun t k => castTop (ef_0_IIIIII m p0 p1 p2 p3 p4 (2 : Int32)) k
  obtain ⟨_, _, ⟨T1, L1, k1, n1⟩, -, X1, ⟨Lc1, hQ1, l1, y1, z1⟩, st1⟩ := Jvm.LawKit.callS X0 hx (y := (⟨"com/example/pipewright/pipewright/io/StateGetPinLaw", "pick", "(I)Lcom/example/pipewright/pipewright/io/Iso2022Layout$GraphicSet;"⟩ : MethodName)) hown (mvT hZ (hw _ (List.mem_of_getElem? (i := 0) rfl))) (mvT hZ (hw _ (List.mem_of_getElem? (i := 1) rfl))) (mvT hZ (hw _ (List.mem_of_getElem? (i := 2) rfl))) (mvT hZ (hw _ (List.mem_of_getElem? (i := 3) rfl))) (by decide) (backOf (W := 0) (rk1 l Z a0 hw [] w_GraphicSet_ASCII w_GraphicSet_UNREAD_ONE_BYTE w_GraphicSet_JIS_X_0201_KATAKANA w_GraphicSet_JIS_X_0201_ROMAN w_GraphicSet_JIS_X_0208 w_GraphicSet_CNS_11643_3 w_GraphicSet_UNREAD_TWO_BYTES w_GraphicSet_KS_X_1001 w_GraphicSet_CNS_11643_6 w_GraphicSet_CNS_11643_2 w_GraphicSet_CNS_11643_5 w_GraphicSet_CNS_11643_1 w_GraphicSet_CNS_11643_4 w_GraphicSet_JIS_X_0212 w_GraphicSet_GB_2312 w_GraphicSet_CNS_11643_7 p0 h0 n0 Z0 S_GraphicSet_ASCII S_GraphicSet_JIS_X_0201_ROMAN S_GraphicSet_JIS_X_0201_KATAKANA S_GraphicSet_UNREAD_ONE_BYTE S_GraphicSet_JIS_X_0208 S_GraphicSet_JIS_X_0212 S_GraphicSet_GB_2312 S_GraphicSet_KS_X_1001 S_GraphicSet_CNS_11643_1 S_GraphicSet_CNS_11643_2 S_GraphicSet_CNS_11643_3 S_GraphicSet_CNS_11643_4 S_GraphicSet_CNS_11643_5 S_GraphicSet_CNS_11643_6 S_GraphicSet_CNS_11643_7 S_GraphicSet_UNREAD_TWO_BYTES) hZ (hw _ (List.mem_of_getElem? (i := 3) rfl)) (hw _ (List.mem_of_getElem? (i := 2) rfl)) (by decide) (by decide)) (g := (mkF m 1 #[iv p0, iv p1, iv p2, iv p3, iv p4, iv (2 : Int32), .unset, .unset, .unset, .unset, .unset, .unset, .unset, .unset] [(.int p0)])) rfl (by rw [hml]; rfl) (argsL := [(.int p0)]) (rest := []) (lenOf pd_0 rfl) rfl (by show 2 * 0 + _ ≤ _; exact Nat.le_of_eq rfl) (hb hby at_1) (fun _ _ => ⟨rfl, e0, (by decide : 0 + 0 ≤ _), (by decide : 0 + 0 ≤ _)⟩)
  dsimp only [Pt.U, Pt.locs, Pt.cells, Pt.slots] at X1 l1 y1 z1 st1 hQ1
  subst l1 y1 z1
  obtain ⟨u0_1, rfl, hr_u0_1, N1q, e1⟩ := hQ1
  have N1 := Fr.app N0 N1q
  obtain ⟨_, _, ⟨T2, L2, k2, n2⟩, -, X2, ⟨Lc2, hQ2, l2, y2, z2⟩, st2⟩ := Jvm.LawKit.callS X1 hx (y := (⟨"com/example/pipewright/pipewright/io/StateGetPinLaw", "pick", "(I)Lcom/example/pipewright/pipewright/io/Iso2022Layout$GraphicSet;"⟩ : MethodName)) hown (mvT hZ (hw _ (List.mem_of_getElem? (i := 0) rfl))) (mvT hZ (hw _ (List.mem_of_getElem? (i := 1) rfl))) (mvT hZ (hw _ (List.mem_of_getElem? (i := 2) rfl))) (mvT hZ (hw _ (List.mem_of_getElem? (i := 3) rfl))) (by decide) (backOf (W := 0) (rk1 l Z a0 hw [] w_GraphicSet_ASCII w_GraphicSet_UNREAD_ONE_BYTE w_GraphicSet_JIS_X_0201_KATAKANA w_GraphicSet_JIS_X_0201_ROMAN w_GraphicSet_JIS_X_0208 w_GraphicSet_CNS_11643_3 w_GraphicSet_UNREAD_TWO_BYTES w_GraphicSet_KS_X_1001 w_GraphicSet_CNS_11643_6 w_GraphicSet_CNS_11643_2 w_GraphicSet_CNS_11643_5 w_GraphicSet_CNS_11643_1 w_GraphicSet_CNS_11643_4 w_GraphicSet_JIS_X_0212 w_GraphicSet_GB_2312 w_GraphicSet_CNS_11643_7 p1 h0 n0 Z0 S_GraphicSet_ASCII S_GraphicSet_JIS_X_0201_ROMAN S_GraphicSet_JIS_X_0201_KATAKANA S_GraphicSet_UNREAD_ONE_BYTE S_GraphicSet_JIS_X_0208 S_GraphicSet_JIS_X_0212 S_GraphicSet_GB_2312 S_GraphicSet_KS_X_1001 S_GraphicSet_CNS_11643_1 S_GraphicSet_CNS_11643_2 S_GraphicSet_CNS_11643_3 S_GraphicSet_CNS_11643_4 S_GraphicSet_CNS_11643_5 S_GraphicSet_CNS_11643_6 S_GraphicSet_CNS_11643_7 S_GraphicSet_UNREAD_TWO_BYTES) hZ (hw _ (List.mem_of_getElem? (i := 3) rfl)) (hw _ (List.mem_of_getElem? (i := 2) rfl)) (by decide) (by decide)) (g := (mkF m 7 #[iv p0, iv p1, iv p2, iv p3, iv p4, iv (2 : Int32), .val u0_1, .unset, .unset, .unset, .unset, .unset, .unset, .unset] [(.int p1)])) rfl (by rw [hml]; rfl) (argsL := [(.int p1)]) (rest := []) (lenOf pd_0 rfl) rfl (by show 2 * 0 + _ ≤ _; exact Nat.le_of_eq rfl) (hb hby at_7) (fun _ _ => ⟨rfl, e1, (by decide : 0 + 0 ≤ _), (by decide : 0 + 0 ≤ _)⟩)
  dsimp only [Pt.U, Pt.locs, Pt.cells, Pt.slots] at X2 l2 y2 z2 st2 hQ2
  subst l2 y2 z2
  obtain ⟨u0_2, rfl, hr_u0_2, N2q, e2⟩ := hQ2
  have N2 := Fr.app N1 N2q
  obtain ⟨_, _, ⟨T3, L3, k3, n3⟩, -, X3, ⟨Lc3, hQ3, l3, y3, z3⟩, st3⟩ := Jvm.LawKit.callS X2 hx (y := (⟨"com/example/pipewright/pipewright/io/StateGetPinLaw", "pick", "(I)Lcom/example/pipewright/pipewright/io/Iso2022Layout$GraphicSet;"⟩ : MethodName)) hown (mvT hZ (hw _ (List.mem_of_getElem? (i := 0) rfl))) (mvT hZ (hw _ (List.mem_of_getElem? (i := 1) rfl))) (mvT hZ (hw _ (List.mem_of_getElem? (i := 2) rfl))) (mvT hZ (hw _ (List.mem_of_getElem? (i := 3) rfl))) (by decide) (backOf (W := 0) (rk1 l Z a0 hw [] w_GraphicSet_ASCII w_GraphicSet_UNREAD_ONE_BYTE w_GraphicSet_JIS_X_0201_KATAKANA w_GraphicSet_JIS_X_0201_ROMAN w_GraphicSet_JIS_X_0208 w_GraphicSet_CNS_11643_3 w_GraphicSet_UNREAD_TWO_BYTES w_GraphicSet_KS_X_1001 w_GraphicSet_CNS_11643_6 w_GraphicSet_CNS_11643_2 w_GraphicSet_CNS_11643_5 w_GraphicSet_CNS_11643_1 w_GraphicSet_CNS_11643_4 w_GraphicSet_JIS_X_0212 w_GraphicSet_GB_2312 w_GraphicSet_CNS_11643_7 p2 h0 n0 Z0 S_GraphicSet_ASCII S_GraphicSet_JIS_X_0201_ROMAN S_GraphicSet_JIS_X_0201_KATAKANA S_GraphicSet_UNREAD_ONE_BYTE S_GraphicSet_JIS_X_0208 S_GraphicSet_JIS_X_0212 S_GraphicSet_GB_2312 S_GraphicSet_KS_X_1001 S_GraphicSet_CNS_11643_1 S_GraphicSet_CNS_11643_2 S_GraphicSet_CNS_11643_3 S_GraphicSet_CNS_11643_4 S_GraphicSet_CNS_11643_5 S_GraphicSet_CNS_11643_6 S_GraphicSet_CNS_11643_7 S_GraphicSet_UNREAD_TWO_BYTES) hZ (hw _ (List.mem_of_getElem? (i := 3) rfl)) (hw _ (List.mem_of_getElem? (i := 2) rfl)) (by decide) (by decide)) (g := (mkF m 13 #[iv p0, iv p1, iv p2, iv p3, iv p4, iv (2 : Int32), .val u0_1, .val u0_2, .unset, .unset, .unset, .unset, .unset, .unset] [(.int p2)])) rfl (by rw [hml]; rfl) (argsL := [(.int p2)]) (rest := []) (lenOf pd_0 rfl) rfl (by show 2 * 0 + _ ≤ _; exact Nat.le_of_eq rfl) (hb hby at_13) (fun _ _ => ⟨rfl, e2, (by decide : 0 + 0 ≤ _), (by decide : 0 + 0 ≤ _)⟩)
  dsimp only [Pt.U, Pt.locs, Pt.cells, Pt.slots] at X3 l3 y3 z3 st3 hQ3
  subst l3 y3 z3
  obtain ⟨u0_3, rfl, hr_u0_3, N3q, e3⟩ := hQ3
  have N3 := Fr.app N2 N3q
  obtain ⟨_, _, ⟨T4, L4, k4, n4⟩, -, X4, ⟨Lc4, hQ4, l4, y4, z4⟩, st4⟩ := Jvm.LawKit.callS X3 hx (y := (⟨"com/example/pipewright/pipewright/io/StateGetPinLaw", "pick", "(I)Lcom/example/pipewright/pipewright/io/Iso2022Layout$GraphicSet;"⟩ : MethodName)) hown (mvT hZ (hw _ (List.mem_of_getElem? (i := 0) rfl))) (mvT hZ (hw _ (List.mem_of_getElem? (i := 1) rfl))) (mvT hZ (hw _ (List.mem_of_getElem? (i := 2) rfl))) (mvT hZ (hw _ (List.mem_of_getElem? (i := 3) rfl))) (by decide) (backOf (W := 0) (rk1 l Z a0 hw [] w_GraphicSet_ASCII w_GraphicSet_UNREAD_ONE_BYTE w_GraphicSet_JIS_X_0201_KATAKANA w_GraphicSet_JIS_X_0201_ROMAN w_GraphicSet_JIS_X_0208 w_GraphicSet_CNS_11643_3 w_GraphicSet_UNREAD_TWO_BYTES w_GraphicSet_KS_X_1001 w_GraphicSet_CNS_11643_6 w_GraphicSet_CNS_11643_2 w_GraphicSet_CNS_11643_5 w_GraphicSet_CNS_11643_1 w_GraphicSet_CNS_11643_4 w_GraphicSet_JIS_X_0212 w_GraphicSet_GB_2312 w_GraphicSet_CNS_11643_7 p3 h0 n0 Z0 S_GraphicSet_ASCII S_GraphicSet_JIS_X_0201_ROMAN S_GraphicSet_JIS_X_0201_KATAKANA S_GraphicSet_UNREAD_ONE_BYTE S_GraphicSet_JIS_X_0208 S_GraphicSet_JIS_X_0212 S_GraphicSet_GB_2312 S_GraphicSet_KS_X_1001 S_GraphicSet_CNS_11643_1 S_GraphicSet_CNS_11643_2 S_GraphicSet_CNS_11643_3 S_GraphicSet_CNS_11643_4 S_GraphicSet_CNS_11643_5 S_GraphicSet_CNS_11643_6 S_GraphicSet_CNS_11643_7 S_GraphicSet_UNREAD_TWO_BYTES) hZ (hw _ (List.mem_of_getElem? (i := 3) rfl)) (hw _ (List.mem_of_getElem? (i := 2) rfl)) (by decide) (by decide)) (g := (mkF m 19 #[iv p0, iv p1, iv p2, iv p3, iv p4, iv (2 : Int32), .val u0_1, .val u0_2, .val u0_3, .unset, .unset, .unset, .unset, .unset] [(.int p3)])) rfl (by rw [hml]; rfl) (argsL := [(.int p3)]) (rest := []) (lenOf pd_0 rfl) rfl (by show 2 * 0 + _ ≤ _; exact Nat.le_of_eq rfl) (hb hby at_19) (fun _ _ => ⟨rfl, e3, (by decide : 0 + 0 ≤ _), (by decide : 0 + 0 ≤ _)⟩)
  dsimp only [Pt.U, Pt.locs, Pt.cells, Pt.slots] at X4 l4 y4 z4 st4 hQ4
  subst l4 y4 z4
  obtain ⟨u0_4, rfl, hr_u0_4, N4q, e4⟩ := hQ4
  have N4 := Fr.app N3 N4q
  obtain ⟨T5, h5, X5, e5, E5, A5, D5, -, st5⟩ := newO X4 hx hZ hown (hw _ (List.mem_of_getElem? (i := 13) rfl)) (hw _ (List.mem_of_getElem? (i := 14) rfl)) (hw _ (List.mem_of_getElem? (i := 15) rfl)) e4 (g := (mkF m 38 #[iv p0, iv p1, iv p2, iv p3, iv p4, iv (2 : Int32), .val u0_1, .val u0_2, .val u0_3, .val u0_4, iv (1 : Int32), .unset, .unset, .unset] [])) rfl (hb hby at_38) (by decide) (by decide)
  obtain ⟨b0_5, gg5⟩ : ∃ z, z = h0.size := ⟨_, rfl⟩
  rw [← gg5] at A5 D5 st5
  have g_b0_5 : n0 ≤ b0_5 := Nat.le_trans Z0 (Nat.le_of_eq gg5.symm)
  have sz_b0_5 : h0.size ≤ b0_5 := Nat.le_trans (Keep.refl h0 []).1 (Nat.le_of_eq gg5.symm)
  have Z5 : n0 ≤ h5.size := Nat.le_trans Z0 E5.1
  have KK5 : Keep h0 h5 [] := (Keep.refl h0 []).ext E5
  have E_b0_5 : Exa Z h5 b0_5 "com/example/pipewright/pipewright/io/Iso2022Layout$State" := A5
  have F_b0_5_g0 : Fld Z h5 b0_5 "com/example/pipewright/pipewright/io/Iso2022Layout$State" "g0" "Lcom/example/pipewright/pipewright/io/Iso2022Layout$GraphicSet;" .null := D5 (Or.inr (hw _ (List.mem_of_getElem? (i := 28) rfl))) (ty := (.object "com/example/pipewright/pipewright/io/Iso2022Layout$GraphicSet")) (by decide)
  have F_b0_5_g1 : Fld Z h5 b0_5 "com/example/pipewright/pipewright/io/Iso2022Layout$State" "g1" "Lcom/example/pipewright/pipewright/io/Iso2022Layout$GraphicSet;" .null := D5 (Or.inr (hw _ (List.mem_of_getElem? (i := 30) rfl))) (ty := (.object "com/example/pipewright/pipewright/io/Iso2022Layout$GraphicSet")) (by decide)
  have F_b0_5_g2 : Fld Z h5 b0_5 "com/example/pipewright/pipewright/io/Iso2022Layout$State" "g2" "Lcom/example/pipewright/pipewright/io/Iso2022Layout$GraphicSet;" .null := D5 (Or.inr (hw _ (List.mem_of_getElem? (i := 32) rfl))) (ty := (.object "com/example/pipewright/pipewright/io/Iso2022Layout$GraphicSet")) (by decide)
  have F_b0_5_g3 : Fld Z h5 b0_5 "com/example/pipewright/pipewright/io/Iso2022Layout$State" "g3" "Lcom/example/pipewright/pipewright/io/Iso2022Layout$GraphicSet;" .null := D5 (Or.inr (hw _ (List.mem_of_getElem? (i := 34) rfl))) (ty := (.object "com/example/pipewright/pipewright/io/Iso2022Layout$GraphicSet")) (by decide)
  have F_b0_5_shifted : Fld Z h5 b0_5 "com/example/pipewright/pipewright/io/Iso2022Layout$State" "shifted" "Z" (.int (0 : Int32)) := D5 (Or.inr (hw _ (List.mem_of_getElem? (i := 36) rfl))) (ty := .boolean) (by decide)
  obtain ⟨_, _, ⟨T6, L6, k6, n6⟩, -, X6, ⟨Lc6, hQ6, l6, y6, z6⟩, st6⟩ := X5.specialBack hx (y := (⟨"com/example/pipewright/pipewright/io/Iso2022Layout$State", "<init>", "(Lcom/example/pipewright/pipewright/io/Iso2022Layout$GraphicSet;Lcom/example/pipewright/pipewright/io/Iso2022Layout$GraphicSet;Lcom/example/pipewright/pipewright/io/Iso2022Layout$GraphicSet;Lcom/example/pipewright/pipewright/io/Iso2022Layout$GraphicSet;Z)V"⟩ : MethodName)) rfl hown (mvT hZ (hw _ (List.mem_of_getElem? (i := 16) rfl))) (mvT hZ (hw _ (List.mem_of_getElem? (i := 17) rfl))) (mvT hZ (hw _ (List.mem_of_getElem? (i := 18) rfl))) (by decide) (backOf (W := 1) (rm2_6 l Z a0 hw [] u0_1 u0_2 u0_3 u0_4 b0_5 h5 n0 Z5 hr_u0_1 E_b0_5 F_b0_5_g0 g_b0_5 hr_u0_2 F_b0_5_g1 hr_u0_3 F_b0_5_g2 hr_u0_4 F_b0_5_g3 F_b0_5_shifted) hZ (hw _ (List.mem_of_getElem? (i := 18) rfl)) (hw _ (List.mem_of_getElem? (i := 15) rfl)) (by decide) (by decide)) (g := (mkF m 52 #[iv p0, iv p1, iv p2, iv p3, iv p4, iv (2 : Int32), .val u0_1, .val u0_2, .val u0_3, .val u0_4, iv (1 : Int32), .unset, .unset, .unset] [(.int (1 : Int32)), u0_4, u0_3, u0_2, u0_1, (.ref b0_5), (.ref b0_5)])) rfl (by rw [hml]; rfl) (Steps.refl _) (a := b0_5) (argsL := [u0_1, u0_2, u0_3, u0_4, (.int (1 : Int32))]) (rest := [(.ref b0_5)]) (lenOf pd_2 rfl) rfl (by show 2 * 0 + _ ≤ _; exact Nat.le_of_eq rfl) (hb hby at_52) (fun _ _ => ⟨rfl, e5, (by decide : 1 + 0 ≤ _), (by decide : 5 + 0 ≤ _)⟩)
  dsimp only [Pt.U, Pt.locs, Pt.cells, Pt.slots] at X6 l6 y6 z6 st6 hQ6
  subst l6 y6 z6
  obtain ⟨rfl, N6q, K6, fq6_0, fq6_1, fq6_2, fq6_3, fq6_4, fq6_5⟩ := hQ6
  have KK6 : Keep h0 T6.heap [] := KK5.trans K6 (allS (P := fun x => x ∈ [] ∨ h0.size ≤ x) (Or.inr sz_b0_5) all0)
  have Z6 : n0 ≤ T6.heap.size := Nat.le_trans Z5 K6.1
  have N6 := Fr.app N4 N6q
  obtain ⟨cq7, kq7, q7a, q7b, q7c⟩ := isOf hZ rfl fq6_5
  obtain ⟨_, _, ⟨T7, L7, k7, n7⟩, -, X7, ⟨Lc7, hQ7, l7, y7, z7⟩, st7⟩ := X6.virtualBack hx (y := (⟨"com/example/pipewright/pipewright/io/Iso2022Layout$State", "get", "(I)Lcom/example/pipewright/pipewright/io/Iso2022Layout$GraphicSet;"⟩ : MethodName)) (z := (⟨"com/example/pipewright/pipewright/io/Iso2022Layout$State", "get", "(I)Lcom/example/pipewright/pipewright/io/Iso2022Layout$GraphicSet;"⟩ : MethodName)) hown (mvT hZ (hw _ (List.mem_of_getElem? (i := 37) rfl))) (mvT hZ (hw _ (List.mem_of_getElem? (i := 38) rfl))) (notFace_of_selects (args := #[]) (mvT hZ (hw _ (List.mem_of_getElem? (i := 40) rfl)))) (mvT hZ (hw _ (List.mem_of_getElem? (i := 40) rfl))) (mvT hZ (hw _ (List.mem_of_getElem? (i := 39) rfl))) (by decide) (backOf (W := 0) (rm5_4 l Z a0 hw [] u0_3 b0_5 T6.heap n0 Z6 fq6_2 hr_u0_3) hZ (hw _ (List.mem_of_getElem? (i := 41) rfl)) (hw _ (List.mem_of_getElem? (i := 15) rfl)) (by decide) (by decide)) q7a q7c (g := (mkF m 61 #[iv p0, iv p1, iv p2, iv p3, iv p4, iv (2 : Int32), .val u0_1, .val u0_2, .val u0_3, .val u0_4, iv (1 : Int32), rv b0_5, .unset, .unset] [(.int (2 : Int32)), (.ref b0_5)])) rfl (by rw [hml]; rfl) (Steps.refl _) (argsL := [(.int (2 : Int32))]) (rest := []) (lenOf pd_0 rfl) rfl (by show 2 * 0 + _ ≤ _; exact Nat.le_of_eq rfl) (hb hby at_61) (fun _ _ => ⟨rfl, rfl, (by decide : 1 + 0 ≤ _), (by decide : 5 + 0 ≤ _)⟩)
  dsimp only [Pt.U, Pt.locs, Pt.cells, Pt.slots] at X7 l7 y7 z7 st7 hQ7
  subst l7 y7 z7
  obtain ⟨rfl, N7q, e7⟩ := hQ7
  have N7 := Fr.app N6 N7q
  obtain ⟨fs, hr, hrun, hended, hW, hsame⟩ := X7.leave (v := (some (.int (1 : Int32)))) (fun h => by rw [Bd.returns] at h; cases h)
  refine ⟨_, _, pre0 _ ?_, hrun, hended, _, _, rfl, ?_, ⟨_, rfl⟩, hW, hsame.mono (by decide) (by decide)⟩
  · show Steps p.tables e below (s₁.setTop (mkF m 0 #[iv p0, iv p1, iv p2, iv p3, iv p4, iv (2 : Int32), .unset, .unset, .unset, .unset, .unset, .unset, .unset, .unset] [])) _
    refine XS.iloadN X0.here hx rfl (hb hby at_0) rfl ?_
    show Steps p.tables e below (s₁.setTop (mkF m 1 #[iv p0, iv p1, iv p2, iv p3, iv p4, iv (2 : Int32), .unset, .unset, .unset, .unset, .unset, .unset, .unset, .unset] [(.int p0)])) _
    refine st1 _ ?_
    show Steps p.tables e below (T1.setTop (mkF m 4 #[iv p0, iv p1, iv p2, iv p3, iv p4, iv (2 : Int32), .unset, .unset, .unset, .unset, .unset, .unset, .unset, .unset] [u0_1])) _
    refine XS.astore X1.here hx rfl (hb hby at_4) rfl hr_u0_1 (l' := #[iv p0, iv p1, iv p2, iv p3, iv p4, iv (2 : Int32), .val u0_1, .unset, .unset, .unset, .unset, .unset, .unset, .unset]) (by rcases ref_cases hr_u0_1 with q | ⟨_, q⟩ <;> (subst q; rfl)) ?_
    show Steps p.tables e below (T1.setTop (mkF m 6 #[iv p0, iv p1, iv p2, iv p3, iv p4, iv (2 : Int32), .val u0_1, .unset, .unset, .unset, .unset, .unset, .unset, .unset] [])) _
    refine XS.iloadN X1.here hx rfl (hb hby at_6) rfl ?_
    show Steps p.tables e below (T1.setTop (mkF m 7 #[iv p0, iv p1, iv p2, iv p3, iv p4, iv (2 : Int32), .val u0_1, .unset, .unset, .unset, .unset, .unset, .unset, .unset] [(.int p1)])) _
    refine st2 _ ?_
    show Steps p.tables e below (T2.setTop (mkF m 10 #[iv p0, iv p1, iv p2, iv p3, iv p4, iv (2 : Int32), .val u0_1, .unset, .unset, .unset, .unset, .unset, .unset, .unset] [u0_2])) _
    refine XS.astore X2.here hx rfl (hb hby at_10) rfl hr_u0_2 (l' := #[iv p0, iv p1, iv p2, iv p3, iv p4, iv (2 : Int32), .val u0_1, .val u0_2, .unset, .unset, .unset, .unset, .unset, .unset]) (by rcases ref_cases hr_u0_2 with q | ⟨_, q⟩ <;> (subst q; rfl)) ?_
    show Steps p.tables e below (T2.setTop (mkF m 12 #[iv p0, iv p1, iv p2, iv p3, iv p4, iv (2 : Int32), .val u0_1, .val u0_2, .unset, .unset, .unset, .unset, .unset, .unset] [])) _
    refine XS.iloadN X2.here hx rfl (hb hby at_12) rfl ?_
    show Steps p.tables e below (T2.setTop (mkF m 13 #[iv p0, iv p1, iv p2, iv p3, iv p4, iv (2 : Int32), .val u0_1, .val u0_2, .unset, .unset, .unset, .unset, .unset, .unset] [(.int p2)])) _
    refine st3 _ ?_
    show Steps p.tables e below (T3.setTop (mkF m 16 #[iv p0, iv p1, iv p2, iv p3, iv p4, iv (2 : Int32), .val u0_1, .val u0_2, .unset, .unset, .unset, .unset, .unset, .unset] [u0_3])) _
    refine XS.astore X3.here hx rfl (hb hby at_16) rfl hr_u0_3 (l' := #[iv p0, iv p1, iv p2, iv p3, iv p4, iv (2 : Int32), .val u0_1, .val u0_2, .val u0_3, .unset, .unset, .unset, .unset, .unset]) (by rcases ref_cases hr_u0_3 with q | ⟨_, q⟩ <;> (subst q; rfl)) ?_
    show Steps p.tables e below (T3.setTop (mkF m 18 #[iv p0, iv p1, iv p2, iv p3, iv p4, iv (2 : Int32), .val u0_1, .val u0_2, .val u0_3, .unset, .unset, .unset, .unset, .unset] [])) _
    refine XS.iloadN X3.here hx rfl (hb hby at_18) rfl ?_
    show Steps p.tables e below (T3.setTop (mkF m 19 #[iv p0, iv p1, iv p2, iv p3, iv p4, iv (2 : Int32), .val u0_1, .val u0_2, .val u0_3, .unset, .unset, .unset, .unset, .unset] [(.int p3)])) _
    refine st4 _ ?_
    show Steps p.tables e below (T4.setTop (mkF m 22 #[iv p0, iv p1, iv p2, iv p3, iv p4, iv (2 : Int32), .val u0_1, .val u0_2, .val u0_3, .unset, .unset, .unset, .unset, .unset] [u0_4])) _
    refine XS.astore X4.here hx rfl (hb hby at_22) rfl hr_u0_4 (l' := #[iv p0, iv p1, iv p2, iv p3, iv p4, iv (2 : Int32), .val u0_1, .val u0_2, .val u0_3, .val u0_4, .unset, .unset, .unset, .unset]) (by rcases ref_cases hr_u0_4 with q | ⟨_, q⟩ <;> (subst q; rfl)) ?_
    show Steps p.tables e below (T4.setTop (mkF m 24 #[iv p0, iv p1, iv p2, iv p3, iv p4, iv (2 : Int32), .val u0_1, .val u0_2, .val u0_3, .val u0_4, .unset, .unset, .unset, .unset] [])) _
    refine XS.iload X4.here hx rfl (hb hby at_24) rfl ?_
    show Steps p.tables e below (T4.setTop (mkF m 26 #[iv p0, iv p1, iv p2, iv p3, iv p4, iv (2 : Int32), .val u0_1, .val u0_2, .val u0_3, .val u0_4, .unset, .unset, .unset, .unset] [(.int p4)])) _
    refine XS.iconst X4.here hx rfl (hb hby at_26) ?_
    show Steps p.tables e below (T4.setTop (mkF m 27 #[iv p0, iv p1, iv p2, iv p3, iv p4, iv (2 : Int32), .val u0_1, .val u0_2, .val u0_3, .val u0_4, .unset, .unset, .unset, .unset] [(.int (1 : Int32)), (.int p4)])) _
    refine XS.iand X4.here hx rfl (hb hby at_27) rfl ?_
    show Steps p.tables e below (T4.setTop (mkF m 28 #[iv p0, iv p1, iv p2, iv p3, iv p4, iv (2 : Int32), .val u0_1, .val u0_2, .val u0_3, .val u0_4, .unset, .unset, .unset, .unset] [(.int (p4 &&& (1 : Int32)))])) _
    rewrite [h4]
    show Steps p.tables e below (T4.setTop (mkF m 28 #[iv p0, iv p1, iv p2, iv p3, iv p4, iv (2 : Int32), .val u0_1, .val u0_2, .val u0_3, .val u0_4, .unset, .unset, .unset, .unset] [(.int (1 : Int32))])) _
    refine XS.ifNo X4.here hx rfl (hb hby at_28) rfl ((if0 _ _).trans (feq (by decide +kernel : ¬ ((1 : Int32) = (0 : Int32)))).1) ?_
    show Steps p.tables e below (T4.setTop (mkF m 31 #[iv p0, iv p1, iv p2, iv p3, iv p4, iv (2 : Int32), .val u0_1, .val u0_2, .val u0_3, .val u0_4, .unset, .unset, .unset, .unset] [])) _
    refine XS.iconst X4.here hx rfl (hb hby at_31) ?_
    show Steps p.tables e below (T4.setTop (mkF m 32 #[iv p0, iv p1, iv p2, iv p3, iv p4, iv (2 : Int32), .val u0_1, .val u0_2, .val u0_3, .val u0_4, .unset, .unset, .unset, .unset] [(.int (1 : Int32))])) _
    refine XS.goto X4.here hx rfl (pc0 := 32) (pc' := 36) rfl (hb hby at_32) (by decide) (by decide) ?_
    show Steps p.tables e below (T4.setTop (mkF m 36 #[iv p0, iv p1, iv p2, iv p3, iv p4, iv (2 : Int32), .val u0_1, .val u0_2, .val u0_3, .val u0_4, .unset, .unset, .unset, .unset] [(.int (1 : Int32))])) _
    refine XS.istore X4.here hx rfl (hb hby at_36) rfl (l' := #[iv p0, iv p1, iv p2, iv p3, iv p4, iv (2 : Int32), .val u0_1, .val u0_2, .val u0_3, .val u0_4, iv (1 : Int32), .unset, .unset, .unset]) rfl ?_
    show Steps p.tables e below (T4.setTop (mkF m 38 #[iv p0, iv p1, iv p2, iv p3, iv p4, iv (2 : Int32), .val u0_1, .val u0_2, .val u0_3, .val u0_4, iv (1 : Int32), .unset, .unset, .unset] [])) _
    refine st5 _ ?_
    show Steps p.tables e below (T5.setTop (mkF m 41 #[iv p0, iv p1, iv p2, iv p3, iv p4, iv (2 : Int32), .val u0_1, .val u0_2, .val u0_3, .val u0_4, iv (1 : Int32), .unset, .unset, .unset] [(.ref b0_5)])) _
    refine XS.dup X5.here hx rfl (hb hby at_41) rfl rfl ?_
    show Steps p.tables e below (T5.setTop (mkF m 42 #[iv p0, iv p1, iv p2, iv p3, iv p4, iv (2 : Int32), .val u0_1, .val u0_2, .val u0_3, .val u0_4, iv (1 : Int32), .unset, .unset, .unset] [(.ref b0_5), (.ref b0_5)])) _
    refine XS.aload X5.here hx rfl (hb hby at_42) rfl hr_u0_1 ?_
    show Steps p.tables e below (T5.setTop (mkF m 44 #[iv p0, iv p1, iv p2, iv p3, iv p4, iv (2 : Int32), .val u0_1, .val u0_2, .val u0_3, .val u0_4, iv (1 : Int32), .unset, .unset, .unset] [u0_1, (.ref b0_5), (.ref b0_5)])) _
    refine XS.aload X5.here hx rfl (hb hby at_44) rfl hr_u0_2 ?_
    show Steps p.tables e below (T5.setTop (mkF m 46 #[iv p0, iv p1, iv p2, iv p3, iv p4, iv (2 : Int32), .val u0_1, .val u0_2, .val u0_3, .val u0_4, iv (1 : Int32), .unset, .unset, .unset] [u0_2, u0_1, (.ref b0_5), (.ref b0_5)])) _
    refine XS.aload X5.here hx rfl (hb hby at_46) rfl hr_u0_3 ?_
    show Steps p.tables e below (T5.setTop (mkF m 48 #[iv p0, iv p1, iv p2, iv p3, iv p4, iv (2 : Int32), .val u0_1, .val u0_2, .val u0_3, .val u0_4, iv (1 : Int32), .unset, .unset, .unset] [u0_3, u0_2, u0_1, (.ref b0_5), (.ref b0_5)])) _
    refine XS.aload X5.here hx rfl (hb hby at_48) rfl hr_u0_4 ?_
    show Steps p.tables e below (T5.setTop (mkF m 50 #[iv p0, iv p1, iv p2, iv p3, iv p4, iv (2 : Int32), .val u0_1, .val u0_2, .val u0_3, .val u0_4, iv (1 : Int32), .unset, .unset, .unset] [u0_4, u0_3, u0_2, u0_1, (.ref b0_5), (.ref b0_5)])) _
    refine XS.iload X5.here hx rfl (hb hby at_50) rfl ?_
    show Steps p.tables e below (T5.setTop (mkF m 52 #[iv p0, iv p1, iv p2, iv p3, iv p4, iv (2 : Int32), .val u0_1, .val u0_2, .val u0_3, .val u0_4, iv (1 : Int32), .unset, .unset, .unset] [(.int (1 : Int32)), u0_4, u0_3, u0_2, u0_1, (.ref b0_5), (.ref b0_5)])) _
    refine st6.trans ?_
    show Steps p.tables e below (T6.setTop (mkF m 55 #[iv p0, iv p1, iv p2, iv p3, iv p4, iv (2 : Int32), .val u0_1, .val u0_2, .val u0_3, .val u0_4, iv (1 : Int32), .unset, .unset, .unset] [(.ref b0_5)])) _
    refine XS.astore X6.here hx rfl (hb hby at_55) rfl rfl (l' := #[iv p0, iv p1, iv p2, iv p3, iv p4, iv (2 : Int32), .val u0_1, .val u0_2, .val u0_3, .val u0_4, iv (1 : Int32), rv b0_5, .unset, .unset]) rfl ?_
    show Steps p.tables e below (T6.setTop (mkF m 57 #[iv p0, iv p1, iv p2, iv p3, iv p4, iv (2 : Int32), .val u0_1, .val u0_2, .val u0_3, .val u0_4, iv (1 : Int32), rv b0_5, .unset, .unset] [])) _
    refine XS.aload X6.here hx rfl (hb hby at_57) rfl rfl ?_
    show Steps p.tables e below (T6.setTop (mkF m 59 #[iv p0, iv p1, iv p2, iv p3, iv p4, iv (2 : Int32), .val u0_1, .val u0_2, .val u0_3, .val u0_4, iv (1 : Int32), rv b0_5, .unset, .unset] [(.ref b0_5)])) _
    refine XS.iload X6.here hx rfl (hb hby at_59) rfl ?_
    show Steps p.tables e below (T6.setTop (mkF m 61 #[iv p0, iv p1, iv p2, iv p3, iv p4, iv (2 : Int32), .val u0_1, .val u0_2, .val u0_3, .val u0_4, iv (1 : Int32), rv b0_5, .unset, .unset] [(.int (2 : Int32)), (.ref b0_5)])) _
    refine st7.trans ?_
    show Steps p.tables e below (T7.setTop (mkF m 64 #[iv p0, iv p1, iv p2, iv p3, iv p4, iv (2 : Int32), .val u0_1, .val u0_2, .val u0_3, .val u0_4, iv (1 : Int32), rv b0_5, .unset, .unset] [u0_3])) _
    refine XS.astore X7.here hx rfl (hb hby at_64) rfl hr_u0_3 (l' := #[iv p0, iv p1, iv p2, iv p3, iv p4, iv (2 : Int32), .val u0_1, .val u0_2, .val u0_3, .val u0_4, iv (1 : Int32), rv b0_5, .val u0_3, .unset]) (by rcases ref_cases hr_u0_3 with q | ⟨_, q⟩ <;> (subst q; rfl)) ?_
    show Steps p.tables e below (T7.setTop (mkF m 66 #[iv p0, iv p1, iv p2, iv p3, iv p4, iv (2 : Int32), .val u0_1, .val u0_2, .val u0_3, .val u0_4, iv (1 : Int32), rv b0_5, .val u0_3, .unset] [])) _
    refine XS.iload X7.here hx rfl (hb hby at_66) rfl ?_
    show Steps p.tables e below (T7.setTop (mkF m 68 #[iv p0, iv p1, iv p2, iv p3, iv p4, iv (2 : Int32), .val u0_1, .val u0_2, .val u0_3, .val u0_4, iv (1 : Int32), rv b0_5, .val u0_3, .unset] [(.int (2 : Int32))])) _
    refine XS.ifYes X7.here hx rfl (pc0 := 68) (pc' := 78) rfl (hb hby at_68) rfl ((if0 _ _).trans (feq (by decide +kernel : ¬ ((2 : Int32) = (0 : Int32)))).2) (by decide) (by decide) ?_
    show Steps p.tables e below (T7.setTop (mkF m 78 #[iv p0, iv p1, iv p2, iv p3, iv p4, iv (2 : Int32), .val u0_1, .val u0_2, .val u0_3, .val u0_4, iv (1 : Int32), rv b0_5, .val u0_3, .unset] [])) _
    refine XS.iload X7.here hx rfl (hb hby at_78) rfl ?_
    show Steps p.tables e below (T7.setTop (mkF m 80 #[iv p0, iv p1, iv p2, iv p3, iv p4, iv (2 : Int32), .val u0_1, .val u0_2, .val u0_3, .val u0_4, iv (1 : Int32), rv b0_5, .val u0_3, .unset] [(.int (2 : Int32))])) _
    refine XS.iconst X7.here hx rfl (hb hby at_80) ?_
    show Steps p.tables e below (T7.setTop (mkF m 81 #[iv p0, iv p1, iv p2, iv p3, iv p4, iv (2 : Int32), .val u0_1, .val u0_2, .val u0_3, .val u0_4, iv (1 : Int32), rv b0_5, .val u0_3, .unset] [(.int (1 : Int32)), (.int (2 : Int32))])) _
    refine XS.icmpYes X7.here hx rfl (pc0 := 81) (pc' := 91) rfl (hb hby at_81) rfl (feq (by decide +kernel : ¬ ((2 : Int32) = (1 : Int32)))).2 (by decide) (by decide) ?_
    show Steps p.tables e below (T7.setTop (mkF m 91 #[iv p0, iv p1, iv p2, iv p3, iv p4, iv (2 : Int32), .val u0_1, .val u0_2, .val u0_3, .val u0_4, iv (1 : Int32), rv b0_5, .val u0_3, .unset] [])) _
    refine XS.iload X7.here hx rfl (hb hby at_91) rfl ?_
    show Steps p.tables e below (T7.setTop (mkF m 93 #[iv p0, iv p1, iv p2, iv p3, iv p4, iv (2 : Int32), .val u0_1, .val u0_2, .val u0_3, .val u0_4, iv (1 : Int32), rv b0_5, .val u0_3, .unset] [(.int (2 : Int32))])) _
    refine XS.iconst X7.here hx rfl (hb hby at_93) ?_
    show Steps p.tables e below (T7.setTop (mkF m 94 #[iv p0, iv p1, iv p2, iv p3, iv p4, iv (2 : Int32), .val u0_1, .val u0_2, .val u0_3, .val u0_4, iv (1 : Int32), rv b0_5, .val u0_3, .unset] [(.int (2 : Int32)), (.int (2 : Int32))])) _
    refine XS.icmpNo X7.here hx rfl (hb hby at_94) rfl (teq (by decide +kernel : (2 : Int32) = (2 : Int32))).2 ?_
    show Steps p.tables e below (T7.setTop (mkF m 97 #[iv p0, iv p1, iv p2, iv p3, iv p4, iv (2 : Int32), .val u0_1, .val u0_2, .val u0_3, .val u0_4, iv (1 : Int32), rv b0_5, .val u0_3, .unset] [])) _
    refine XS.aload X7.here hx rfl (hb hby at_97) rfl hr_u0_3 ?_
    show Steps p.tables e below (T7.setTop (mkF m 99 #[iv p0, iv p1, iv p2, iv p3, iv p4, iv (2 : Int32), .val u0_1, .val u0_2, .val u0_3, .val u0_4, iv (1 : Int32), rv b0_5, .val u0_3, .unset] [u0_3])) _
    refine XS.astore X7.here hx rfl (hb hby at_99) rfl hr_u0_3 (l' := #[iv p0, iv p1, iv p2, iv p3, iv p4, iv (2 : Int32), .val u0_1, .val u0_2, .val u0_3, .val u0_4, iv (1 : Int32), rv b0_5, .val u0_3, .val u0_3]) (by rcases ref_cases hr_u0_3 with q | ⟨_, q⟩ <;> (subst q; rfl)) ?_
    show Steps p.tables e below (T7.setTop (mkF m 101 #[iv p0, iv p1, iv p2, iv p3, iv p4, iv (2 : Int32), .val u0_1, .val u0_2, .val u0_3, .val u0_4, iv (1 : Int32), rv b0_5, .val u0_3, .val u0_3] [])) _
    refine XS.goto X7.here hx rfl (pc0 := 101) (pc' := 108) rfl (hb hby at_101) (by decide) (by decide) ?_
    show Steps p.tables e below (T7.setTop (mkF m 108 #[iv p0, iv p1, iv p2, iv p3, iv p4, iv (2 : Int32), .val u0_1, .val u0_2, .val u0_3, .val u0_4, iv (1 : Int32), rv b0_5, .val u0_3, .val u0_3] [])) _
    refine XS.aload X7.here hx rfl (hb hby at_108) rfl hr_u0_3 ?_
    show Steps p.tables e below (T7.setTop (mkF m 110 #[iv p0, iv p1, iv p2, iv p3, iv p4, iv (2 : Int32), .val u0_1, .val u0_2, .val u0_3, .val u0_4, iv (1 : Int32), rv b0_5, .val u0_3, .val u0_3] [u0_3])) _
    refine XS.aload X7.here hx rfl (hb hby at_110) rfl hr_u0_3 ?_
    show Steps p.tables e below (T7.setTop (mkF m 112 #[iv p0, iv p1, iv p2, iv p3, iv p4, iv (2 : Int32), .val u0_1, .val u0_2, .val u0_3, .val u0_4, iv (1 : Int32), rv b0_5, .val u0_3, .val u0_3] [u0_3, u0_3])) _
    refine Jvm.RoadKit.acmp (g := (mkF m 112 #[iv p0, iv p1, iv p2, iv p3, iv p4, iv (2 : Int32), .val u0_1, .val u0_2, .val u0_3, .val u0_4, iv (1 : Int32), rv b0_5, .val u0_3, .val u0_3] [u0_3, u0_3])) X7 hx rfl hr_u0_3 hr_u0_3 (pc0 := 112) (pc' := 115) (same := true) rfl (hb hby at_112) rfl (decide_eq_true rfl) (by decide) (by decide) ?_
    show Steps p.tables e below (T7.setTop (mkF m 115 #[iv p0, iv p1, iv p2, iv p3, iv p4, iv (2 : Int32), .val u0_1, .val u0_2, .val u0_3, .val u0_4, iv (1 : Int32), rv b0_5, .val u0_3, .val u0_3] [])) _
    refine XS.iconst X7.here hx rfl (hb hby at_115) ?_
    show Steps p.tables e below (T7.setTop (mkF m 116 #[iv p0, iv p1, iv p2, iv p3, iv p4, iv (2 : Int32), .val u0_1, .val u0_2, .val u0_3, .val u0_4, iv (1 : Int32), rv b0_5, .val u0_3, .val u0_3] [(.int (1 : Int32))])) _
    refine XS.goto X7.here hx rfl (pc0 := 116) (pc' := 120) rfl (hb hby at_116) (by decide) (by decide) ?_
    show Steps p.tables e below (T7.setTop (mkF m 120 #[iv p0, iv p1, iv p2, iv p3, iv p4, iv (2 : Int32), .val u0_1, .val u0_2, .val u0_3, .val u0_4, iv (1 : Int32), rv b0_5, .val u0_3, .val u0_3] [(.int (1 : Int32))])) _
    exact retN X7 hx (t := .boolean) Bd.returns (by simp) (hb hby at_120) hr
  · exact ⟨rfl, N7⟩
set_option maxRecDepth 65536 in
set_option maxHeartbeats 40000000 in
theorem rm0_7 (l : Launch) (Z : State) (a0 : Array Value) (hw : ∀ d ∈ tables_1, d.before a0 Z = true) (ws : List Jvm.Cond) (p0 : Int32) (p1 : Int32) (p2 : Int32) (p3 : Int32) (p4 : Int32) (p5 : Int32) (w_GraphicSet_ASCII : Addr) (w_GraphicSet_UNREAD_ONE_BYTE : Addr) (w_GraphicSet_JIS_X_0201_KATAKANA : Addr) (w_GraphicSet_JIS_X_0201_ROMAN : Addr) (w_GraphicSet_JIS_X_0208 : Addr) (w_GraphicSet_CNS_11643_3 : Addr) (w_GraphicSet_UNREAD_TWO_BYTES : Addr) (w_GraphicSet_KS_X_1001 : Addr) (w_GraphicSet_CNS_11643_6 : Addr) (w_GraphicSet_CNS_11643_2 : Addr) (w_GraphicSet_CNS_11643_5 : Addr) (w_GraphicSet_CNS_11643_1 : Addr) (w_GraphicSet_CNS_11643_4 : Addr) (w_GraphicSet_JIS_X_0212 : Addr) (w_GraphicSet_GB_2312 : Addr) (w_GraphicSet_CNS_11643_7 : Addr) (h0 : Heap) (n0 : Nat) (Z0 : n0 ≤ h0.size) (S_GraphicSet_ASCII : Sta Z h0 "com/example/pipewright/pipewright/io/Iso2022Layout$GraphicSet" "ASCII" "Lcom/example/pipewright/pipewright/io/Iso2022Layout$GraphicSet;" (.ref w_GraphicSet_ASCII)) (S_GraphicSet_JIS_X_0201_ROMAN : Sta Z h0 "com/example/pipewright/pipewright/io/Iso2022Layout$GraphicSet" "JIS_X_0201_ROMAN" "Lcom/example/pipewright/pipewright/io/Iso2022Layout$GraphicSet;" (.ref w_GraphicSet_JIS_X_0201_ROMAN)) (S_GraphicSet_JIS_X_0201_KATAKANA : Sta Z h0 "com/example/pipewright/pipewright/io/Iso2022Layout$GraphicSet" "JIS_X_0201_KATAKANA" "Lcom/example/pipewright/pipewright/io/Iso2022Layout$GraphicSet;" (.ref w_GraphicSet_JIS_X_0201_KATAKANA)) (S_GraphicSet_UNREAD_ONE_BYTE : Sta Z h0 "com/example/pipewright/pipewright/io/Iso2022Layout$GraphicSet" "UNREAD_ONE_BYTE" "Lcom/example/pipewright/pipewright/io/Iso2022Layout$GraphicSet;" (.ref w_GraphicSet_UNREAD_ONE_BYTE)) (S_GraphicSet_JIS_X_0208 : Sta Z h0 "com/example/pipewright/pipewright/io/Iso2022Layout$GraphicSet" "JIS_X_0208" "Lcom/example/pipewright/pipewright/io/Iso2022Layout$GraphicSet;" (.ref w_GraphicSet_JIS_X_0208)) (S_GraphicSet_JIS_X_0212 : Sta Z h0 "com/example/pipewright/pipewright/io/Iso2022Layout$GraphicSet" "JIS_X_0212" "Lcom/example/pipewright/pipewright/io/Iso2022Layout$GraphicSet;" (.ref w_GraphicSet_JIS_X_0212)) (S_GraphicSet_GB_2312 : Sta Z h0 "com/example/pipewright/pipewright/io/Iso2022Layout$GraphicSet" "GB_2312" "Lcom/example/pipewright/pipewright/io/Iso2022Layout$GraphicSet;" (.ref w_GraphicSet_GB_2312)) (S_GraphicSet_KS_X_1001 : Sta Z h0 "com/example/pipewright/pipewright/io/Iso2022Layout$GraphicSet" "KS_X_1001" "Lcom/example/pipewright/pipewright/io/Iso2022Layout$GraphicSet;" (.ref w_GraphicSet_KS_X_1001)) (S_GraphicSet_CNS_11643_1 : Sta Z h0 "com/example/pipewright/pipewright/io/Iso2022Layout$GraphicSet" "CNS_11643_1" "Lcom/example/pipewright/pipewright/io/Iso2022Layout$GraphicSet;" (.ref w_GraphicSet_CNS_11643_1)) (S_GraphicSet_CNS_11643_2 : Sta Z h0 "com/example/pipewright/pipewright/io/Iso2022Layout$GraphicSet" "CNS_11643_2" "Lcom/example/pipewright/pipewright/io/Iso2022Layout$GraphicSet;" (.ref w_GraphicSet_CNS_11643_2)) (S_GraphicSet_CNS_11643_3 : Sta Z h0 "com/example/pipewright/pipewright/io/Iso2022Layout$GraphicSet" "CNS_11643_3" "Lcom/example/pipewright/pipewright/io/Iso2022Layout$GraphicSet;" (.ref w_GraphicSet_CNS_11643_3)) (S_GraphicSet_CNS_11643_4 : Sta Z h0 "com/example/pipewright/pipewright/io/Iso2022Layout$GraphicSet" "CNS_11643_4" "Lcom/example/pipewright/pipewright/io/Iso2022Layout$GraphicSet;" (.ref w_GraphicSet_CNS_11643_4)) (S_GraphicSet_CNS_11643_5 : Sta Z h0 "com/example/pipewright/pipewright/io/Iso2022Layout$GraphicSet" "CNS_11643_5" "Lcom/example/pipewright/pipewright/io/Iso2022Layout$GraphicSet;" (.ref w_GraphicSet_CNS_11643_5)) (S_GraphicSet_CNS_11643_6 : Sta Z h0 "com/example/pipewright/pipewright/io/Iso2022Layout$GraphicSet" "CNS_11643_6" "Lcom/example/pipewright/pipewright/io/Iso2022Layout$GraphicSet;" (.ref w_GraphicSet_CNS_11643_6)) (S_GraphicSet_CNS_11643_7 : Sta Z h0 "com/example/pipewright/pipewright/io/Iso2022Layout$GraphicSet" "CNS_11643_7" "Lcom/example/pipewright/pipewright/io/Iso2022Layout$GraphicSet;" (.ref w_GraphicSet_CNS_11643_7)) (S_GraphicSet_UNREAD_TWO_BYTES : Sta Z h0 "com/example/pipewright/pipewright/io/Iso2022Layout$GraphicSet" "UNREAD_TWO_BYTES" "Lcom/example/pipewright/pipewright/io/Iso2022Layout$GraphicSet;" (.ref w_GraphicSet_UNREAD_TWO_BYTES)) (h4 : (p4 &&& (1 : Int32)) = (1 : Int32)) (h5_0 : ¬ (p5 = (0 : Int32))) (h5_1 : ¬ (p5 = (1 : Int32))) (h5_2 : ¬ (p5 = (2 : Int32))) :
    MetFree l x (head1 (Jvm.Cond.code x code maxLocals ret :: ws) room_1) (fun a U => a = #[(.int p0), (.int p1), (.int p2), (.int p3), (.int p4), (.int p5)] ∧ Z.Warmed39 U.vm ∧ U.heap = h0) (fun _ _ _ _ _ => True) (fun _ U o U' => ∃ v L, o = .returned v ∧ own_QL n0 v U'.heap L ∧ FrameEnd U o U' L room_1.cells room_1.slots) := by
  refine MetFree.of_bodySF (plainFor_of_name pn_0) hisR ?_
  intro p e s m args below meth c s₁ Bd hml0 hP hK
  obtain ⟨rfl, hZ, hh⟩ := hP
  have hx := Bd.exec
  have hby := Bd.bytes
  have hml : c.maxLocals = 14 := hml0
  have hown : s.vm.findClass "com/example/pipewright/pipewright/io/StateGetPinLaw" = some m.cls := findClass_of_methodNamed Bd.named
  have hnm := (name_of_methodNamed Bd.named Bd.method).1
  have X0 : Stand p l e room_1 s m #[(.int p0), (.int p1), (.int p2), (.int p3), (.int p4), (.int p5)] below meth c s₁ [] 0 0 := Stand.of_body Bd
  have e0 : s₁.heap = h0 := by rw [← hh, Bd.state]; rfl
  have N0 := Fr.nil n0
  have pre0 : ∀ t, Steps p.tables e below (s₁.setTop (mkF m 0 #[iv p0, iv p1, iv p2, iv p3, iv p4, iv p5, .unset, .unset, .unset, .unset, .unset, .unset, .unset, .unset] [])) t → Steps p.tables e below (s₁.setTop (entryFrame m #[(.int p0), (.int p1), (.int p2), (.int p3), (.int p4), (.int p5)] maxLocals)) t := fun t k => castTop (ef_0_IIIIII m p0 p1 p2 p3 p4 p5) k
  obtain ⟨_, _, ⟨T1, L1, k1, n1⟩, -, X1, ⟨Lc1, hQ1, l1, y1, z1⟩, st1⟩ := Jvm.LawKit.callS X0 hx (y := (⟨"com/example/pipewright/pipewright/io/StateGetPinLaw", "pick", "(I)Lcom/example/pipewright/pipewright/io/Iso2022Layout$GraphicSet;"⟩ : MethodName)) hown (mvT hZ (hw _ (List.mem_of_getElem? (i := 0) rfl))) (mvT hZ (hw _ (List.mem_of_getElem? (i := 1) rfl))) (mvT hZ (hw _ (List.mem_of_getElem? (i := 2) rfl))) (mvT hZ (hw _ (List.mem_of_getElem? (i := 3) rfl))) (by decide) (backOf (W := 0) (rk1 l Z a0 hw [] w_GraphicSet_ASCII w_GraphicSet_UNREAD_ONE_BYTE w_GraphicSet_JIS_X_0201_KATAKANA w_GraphicSet_JIS_X_0201_ROMAN w_GraphicSet_JIS_X_0208 w_GraphicSet_CNS_11643_3 w_GraphicSet_UNREAD_TWO_BYTES w_GraphicSet_KS_X_1001 w_GraphicSet_CNS_11643_6 w_GraphicSet_CNS_11643_2 w_GraphicSet_CNS_11643_5 w_GraphicSet_CNS_11643_1 w_GraphicSet_CNS_11643_4 w_GraphicSet_JIS_X_0212 w_GraphicSet_GB_2312 w_GraphicSet_CNS_11643_7 p0 h0 n0 Z0 S_GraphicSet_ASCII S_GraphicSet_JIS_X_0201_ROMAN S_GraphicSet_JIS_X_0201_KATAKANA S_GraphicSet_UNREAD_ONE_BYTE S_GraphicSet_JIS_X_0208 S_GraphicSet_JIS_X_0212 S_GraphicSet_GB_2312 S_GraphicSet_KS_X_1001 S_GraphicSet_CNS_11643_1 S_GraphicSet_CNS_11643_2 S_GraphicSet_CNS_11643_3 S_GraphicSet_CNS_11643_4 S_GraphicSet_CNS_11643_5 S_GraphicSet_CNS_11643_6 S_GraphicSet_CNS_11643_7 S_GraphicSet_UNREAD_TWO_BYTES) hZ (hw _ (List.mem_of_getElem? (i := 3) rfl)) (hw _ (List.mem_of_getElem? (i := 2) rfl)) (by decide) (by decide)) (g := (mkF m 1 #[iv p0, iv p1, iv p2, iv p3, iv p4, iv p5, .unset, .unset, .unset, .unset, .unset, .unset, .unset, .unset] [(.int p0)])) rfl (by rw [hml]; rfl) (argsL := [(.int p0)]) (rest := []) (lenOf pd_0 rfl) rfl (by show 2 * 0 + _ ≤ _; exact Nat.le_of_eq rfl) (hb hby at_1) (fun _ _ => ⟨rfl, e0, (by decide : 0 + 0 ≤ _), (by decide : 0 + 0 ≤ _)⟩)
  dsimp only [Pt.U, Pt.locs, Pt.cells, Pt.slots] at X1 l1 y1 z1 st1 hQ1
  subst l1 y1 z1
  obtain ⟨u0_1, rfl, hr_u0_1, N1q, e1⟩ := hQ1
  have N1 := Fr.app N0 N1q
  obtain ⟨_, _, ⟨T2, L2, k2, n2⟩, -, X2, ⟨Lc2, hQ2, l2, y2, z2⟩, st2⟩ := Jvm.LawKit.callS X1 hx (y := (⟨"com/example/pipewright/pipewright/io/StateGetPinLaw", "pick", "(I)Lcom/example/pipewright/pipewright/io/Iso2022Layout$GraphicSet;"⟩ : MethodName)) hown (mvT hZ (hw _ (List.mem_of_getElem? (i := 0) rfl))) (mvT hZ (hw _ (List.mem_of_getElem? (i := 1) rfl))) (mvT hZ (hw _ (List.mem_of_getElem? (i := 2) rfl))) (mvT hZ (hw _ (List.mem_of_getElem? (i := 3) rfl))) (by decide) (backOf (W := 0) (rk1 l Z a0 hw [] w_GraphicSet_ASCII w_GraphicSet_UNREAD_ONE_BYTE w_GraphicSet_JIS_X_0201_KATAKANA w_GraphicSet_JIS_X_0201_ROMAN w_GraphicSet_JIS_X_0208 w_GraphicSet_CNS_11643_3 w_GraphicSet_UNREAD_TWO_BYTES w_GraphicSet_KS_X_1001 w_GraphicSet_CNS_11643_6 w_GraphicSet_CNS_11643_2 w_GraphicSet_CNS_11643_5 w_GraphicSet_CNS_11643_1 w_GraphicSet_CNS_11643_4 w_GraphicSet_JIS_X_0212 w_GraphicSet_GB_2312 w_GraphicSet_CNS_11643_7 p1 h0 n0 Z0 S_GraphicSet_ASCII S_GraphicSet_JIS_X_0201_ROMAN S_GraphicSet_JIS_X_0201_KATAKANA S_GraphicSet_UNREAD_ONE_BYTE S_GraphicSet_JIS_X_0208 S_GraphicSet_JIS_X_0212 S_GraphicSet_GB_2312 S_GraphicSet_KS_X_1001 S_GraphicSet_CNS_11643_1 S_GraphicSet_CNS_11643_2 S_GraphicSet_CNS_11643_3 S_GraphicSet_CNS_11643_4 S_GraphicSet_CNS_11643_5 S_GraphicSet_CNS_11643_6 S_GraphicSet_CNS_11643_7 S_GraphicSet_UNREAD_TWO_BYTES) hZ (hw _ (List.mem_of_getElem? (i := 3) rfl)) (hw _ (List.mem_of_getElem? (i := 2) rfl)) (by decide) (by decide)) (g := (mkF m 7 #[iv p0, iv p1, iv p2, iv p3, iv p4, iv p5, .val u0_1, .unset, .unset, .unset, .unset, .unset, .unset, .unset] [(.int p1)])) rfl (by rw [hml]; rfl) (argsL := [(.int p1)]) (rest := []) (lenOf pd_0 rfl) rfl (by show 2 * 0 + _ ≤ _; exact Nat.le_of_eq rfl) (hb hby at_7) (fun _ _ => ⟨rfl, e1, (by decide : 0 + 0 ≤ _), (by decide : 0 + 0 ≤ _)⟩)
  dsimp only [Pt.U, Pt.locs, Pt.cells, Pt.slots] at X2 l2 y2 z2 st2 hQ2
  subst l2 y2 z2
  obtain ⟨u0_2, rfl, hr_u0_2, N2q, e2⟩ := hQ2
  have N2 := Fr.app N1 N2q
  obtain ⟨_, _, ⟨T3, L3, k3, n3⟩, -, X3, ⟨Lc3, hQ3, l3, y3, z3⟩, st3⟩ := Jvm.LawKit.callS X2 hx (y := (⟨"com/example/pipewright/pipewright/io/StateGetPinLaw", "pick", "(I)Lcom/example/pipewright/pipewright/io/Iso2022Layout$GraphicSet;"⟩ : MethodName)) hown (mvT hZ (hw _ (List.mem_of_getElem? (i := 0) rfl))) (mvT hZ (hw _ (List.mem_of_getElem? (i := 1) rfl))) (mvT hZ (hw _ (List.mem_of_getElem? (i := 2) rfl))) (mvT hZ (hw _ (List.mem_of_getElem? (i := 3) rfl))) (by decide) (backOf (W := 0) (rk1 l Z a0 hw [] w_GraphicSet_ASCII w_GraphicSet_UNREAD_ONE_BYTE w_GraphicSet_JIS_X_0201_KATAKANA w_GraphicSet_JIS_X_0201_ROMAN w_GraphicSet_JIS_X_0208 w_GraphicSet_CNS_11643_3 w_GraphicSet_UNREAD_TWO_BYTES w_GraphicSet_KS_X_1001 w_GraphicSet_CNS_11643_6 w_GraphicSet_CNS_11643_2 w_GraphicSet_CNS_11643_5 w_GraphicSet_CNS_11643_1 w_GraphicSet_CNS_11643_4 w_GraphicSet_JIS_X_0212 w_GraphicSet_GB_2312 w_GraphicSet_CNS_11643_7 p2 h0 n0 Z0 S_GraphicSet_ASCII S_GraphicSet_JIS_X_0201_ROMAN S_GraphicSet_JIS_X_0201_KATAKANA S_GraphicSet_UNREAD_ONE_BYTE S_GraphicSet_JIS_X_0208 S_GraphicSet_JIS_X_0212 S_GraphicSet_GB_2312 S_GraphicSet_KS_X_1001 S_GraphicSet_CNS_11643_1 S_GraphicSet_CNS_11643_2 S_GraphicSet_CNS_11643_3 S_GraphicSet_CNS_11643_4 S_GraphicSet_CNS_11643_5 S_GraphicSet_CNS_11643_6 S_GraphicSet_CNS_11643_7 S_GraphicSet_UNREAD_TWO_BYTES) hZ (hw _ (List.mem_of_getElem? (i := 3) rfl)) (hw _ (List.mem_of_getElem? (i := 2) rfl)) (by decide) (by decide)) (g := (mkF m 13 #[iv p0, iv p1, iv p2, iv p3, iv p4, iv p5, .val u0_1, .val u0_2, .unset, .unset, .unset, .unset, .unset, .unset] [(.int p2)])) rfl (by rw [hml]; rfl) (argsL := [(.int p2)]) (rest := []) (lenOf pd_0 rfl) rfl (by show 2 * 0 + _ ≤ _; exact Nat.le_of_eq rfl) (hb hby at_13) (fun _ _ => ⟨rfl, e2, (by decide : 0 + 0 ≤ _), (by decide : 0 + 0 ≤ _)⟩)
  dsimp only [Pt.U, Pt.locs, Pt.cells, Pt.slots] at X3 l3 y3 z3 st3 hQ3
  subst l3 y3 z3
  obtain ⟨u0_3, rfl, hr_u0_3, N3q, e3⟩ := hQ3
  have N3 := Fr.app N2 N3q
  obtain ⟨_, _, ⟨T4, L4, k4, n4⟩, -, X4, ⟨Lc4, hQ4, l4, y4, z4⟩, st4⟩ := Jvm.LawKit.callS X3 hx (y := (⟨"com/example/pipewright/pipewright/io/StateGetPinLaw", "pick", "(I)Lcom/example/pipewright/pipewright/io/Iso2022Layout$GraphicSet;"⟩ : MethodName)) hown (mvT hZ (hw _ (List.mem_of_getElem? (i := 0) rfl))) (mvT hZ (hw _ (List.mem_of_getElem? (i := 1) rfl))) (mvT hZ (hw _ (List.mem_of_getElem? (i := 2) rfl))) (mvT hZ (hw _ (List.mem_of_getElem? (i := 3) rfl))) (by decide) (backOf (W := 0) (rk1 l Z a0 hw [] w_GraphicSet_ASCII w_GraphicSet_UNREAD_ONE_BYTE w_GraphicSet_JIS_X_0201_KATAKANA w_GraphicSet_JIS_X_0201_ROMAN w_GraphicSet_JIS_X_0208 w_GraphicSet_CNS_11643_3 w_GraphicSet_UNREAD_TWO_BYTES w_GraphicSet_KS_X_1001 w_GraphicSet_CNS_11643_6 w_GraphicSet_CNS_11643_2 w_GraphicSet_CNS_11643_5 w_GraphicSet_CNS_11643_1 w_GraphicSet_CNS_11643_4 w_GraphicSet_JIS_X_0212 w_GraphicSet_GB_2312 w_GraphicSet_CNS_11643_7 p3 h0 n0 Z0 S_GraphicSet_ASCII S_GraphicSet_JIS_X_0201_ROMAN S_GraphicSet_JIS_X_0201_KATAKANA S_GraphicSet_UNREAD_ONE_BYTE S_GraphicSet_JIS_X_0208 S_GraphicSet_JIS_X_0212 S_GraphicSet_GB_2312 S_GraphicSet_KS_X_1001 S_GraphicSet_CNS_11643_1 S_GraphicSet_CNS_11643_2 S_GraphicSet_CNS_11643_3 S_GraphicSet_CNS_11643_4 S_GraphicSet_CNS_11643_5 S_GraphicSet_CNS_11643_6 S_GraphicSet_CNS_11643_7 S_GraphicSet_UNREAD_TWO_BYTES) hZ (hw _ (List.mem_of_getElem? (i := 3) rfl)) (hw _ (List.mem_of_getElem? (i := 2) rfl)) (by decide) (by decide)) (g := (mkF m 19 #[iv p0, iv p1, iv p2, iv p3, iv p4, iv p5, .val u0_1, .val u0_2, .val u0_3, .unset, .unset, .unset, .unset, .unset] [(.int p3)])) rfl (by rw [hml]; rfl) (argsL := [(.int p3)]) (rest := []) (lenOf pd_0 rfl) rfl (by show 2 * 0 + _ ≤ _; exact Nat.le_of_eq rfl) (hb hby at_19) (fun _ _ => ⟨rfl, e3, (by decide : 0 + 0 ≤ _), (by decide : 0 + 0 ≤ _)⟩)
  dsimp only [Pt.U, Pt.locs, Pt.cells, Pt.slots] at X4 l4 y4 z4 st4 hQ4
  subst l4 y4 z4
  obtain ⟨u0_4, rfl, hr_u0_4, N4q, e4⟩ := hQ4
  have N4 := Fr.app N3 N4q
  obtain ⟨T5, h5, X5, e5, E5, A5, D5, -, st5⟩ := newO X4 hx hZ hown (hw _ (List.mem_of_getElem? (i := 13) rfl)) (hw _ (List.mem_of_getElem? (i := 14) rfl)) (hw _ (List.mem_of_getElem? (i := 15) rfl)) e4 (g := (mkF m 38 #[iv p0, iv p1, iv p2, iv p3, iv p4, iv p5, .val u0_1, .val u0_2, .val u0_3, .val u0_4, iv (1 : Int32), .unset, .unset, .unset] [])) rfl (hb hby at_38) (by decide) (by decide)
  obtain ⟨b0_5, gg5⟩ : ∃ z, z = h0.size := ⟨_, rfl⟩
  rw [← gg5] at A5 D5 st5
  have g_b0_5 : n0 ≤ b0_5 := Nat.le_trans Z0 (Nat.le_of_eq gg5.symm)
  have sz_b0_5 : h0.size ≤ b0_5 := Nat.le_trans (Keep.refl h0 []).1 (Nat.le_of_eq gg5.symm)
  have Z5 : n0 ≤ h5.size := Nat.le_trans Z0 E5.1
  have KK5 : Keep h0 h5 [] := (Keep.refl h0 []).ext E5
  have E_b0_5 : Exa Z h5 b0_5 "com/example/pipewright/pipewright/io/Iso2022Layout$State" := A5
  have F_b0_5_g0 : Fld Z h5 b0_5 "com/example/pipewright/pipewright/io/Iso2022Layout$State" "g0" "Lcom/example/pipewright/pipewright/io/Iso2022Layout$GraphicSet;" .null := D5 (Or.inr (hw _ (List.mem_of_getElem? (i := 28) rfl))) (ty := (.object "com/example/pipewright/pipewright/io/Iso2022Layout$GraphicSet")) (by decide)
  have F_b0_5_g1 : Fld Z h5 b0_5 "com/example/pipewright/pipewright/io/Iso2022Layout$State" "g1" "Lcom/example/pipewright/pipewright/io/Iso2022Layout$GraphicSet;" .null := D5 (Or.inr (hw _ (List.mem_of_getElem? (i := 30) rfl))) (ty := (.object "com/example/pipewright/pipewright/io/Iso2022Layout$GraphicSet")) (by decide)
  have F_b0_5_g2 : Fld Z h5 b0_5 "com/example/pipewright/pipewright/io/Iso2022Layout$State" "g2" "Lcom/example/pipewright/pipewright/io/Iso2022Layout$GraphicSet;" .null := D5 (Or.inr (hw _ (List.mem_of_getElem? (i := 32) rfl))) (ty := (.object "com/example/pipewright/pipewright/io/Iso2022Layout$GraphicSet")) (by decide)
  have F_b0_5_g3 : Fld Z h5 b0_5 "com/example/pipewright/pipewright/io/Iso2022Layout$State" "g3" "Lcom/example/pipewright/pipewright/io/Iso2022Layout$GraphicSet;" .null := D5 (Or.inr (hw _ (List.mem_of_getElem? (i := 34) rfl))) (ty := (.object "com/example/pipewright/pipewright/io/Iso2022Layout$GraphicSet")) (by decide)
  have F_b0_5_shifted : Fld Z h5 b0_5 "com/example/pipewright/pipewright/io/Iso2022Layout$State" "shifted" "Z" (.int (0 : Int32)) := D5 (Or.inr (hw _ (List.mem_of_getElem? (i := 36) rfl))) (ty := .boolean) (by decide)
  obtain ⟨_, _, ⟨T6, L6, k6, n6⟩, -, X6, ⟨Lc6, hQ6, l6, y6, z6⟩, st6⟩ := X5.specialBack hx (y := (⟨"com/example/pipewright/pipewright/io/Iso2022Layout$State", "<init>", "(Lcom/example/pipewright/pipewright/io/Iso2022Layout$GraphicSet;Lcom/example/pipewright/pipewright/io/Iso2022Layout$GraphicSet;Lcom/example/pipewright/pipewright/io/Iso2022Layout$GraphicSet;Lcom/example/pipewright/pipewright/io/Iso2022Layout$GraphicSet;Z)V"⟩ : MethodName)) rfl hown (mvT hZ (hw _ (List.mem_of_getElem? (i := 16) rfl))) (mvT hZ (hw _ (List.mem_of_getElem? (i := 17) rfl))) (mvT hZ (hw _ (List.mem_of_getElem? (i := 18) rfl))) (by decide) (backOf (W := 1) (rm2_6 l Z a0 hw [] u0_1 u0_2 u0_3 u0_4 b0_5 h5 n0 Z5 hr_u0_1 E_b0_5 F_b0_5_g0 g_b0_5 hr_u0_2 F_b0_5_g1 hr_u0_3 F_b0_5_g2 hr_u0_4 F_b0_5_g3 F_b0_5_shifted) hZ (hw _ (List.mem_of_getElem? (i := 18) rfl)) (hw _ (List.mem_of_getElem? (i := 15) rfl)) (by decide) (by decide)) (g := (mkF m 52 #[iv p0, iv p1, iv p2, iv p3, iv p4, iv p5, .val u0_1, .val u0_2, .val u0_3, .val u0_4, iv (1 : Int32), .unset, .unset, .unset] [(.int (1 : Int32)), u0_4, u0_3, u0_2, u0_1, (.ref b0_5), (.ref b0_5)])) rfl (by rw [hml]; rfl) (Steps.refl _) (a := b0_5) (argsL := [u0_1, u0_2, u0_3, u0_4, (.int (1 : Int32))]) (rest := [(.ref b0_5)]) (lenOf pd_2 rfl) rfl (by show 2 * 0 + _ ≤ _; exact Nat.le_of_eq rfl) (hb hby at_52) (fun _ _ => ⟨rfl, e5, (by decide : 1 + 0 ≤ _), (by decide : 5 + 0 ≤ _)⟩)
  dsimp only [Pt.U, Pt.locs, Pt.cells, Pt.slots] at X6 l6 y6 z6 st6 hQ6
  subst l6 y6 z6
  obtain ⟨rfl, N6q, K6, fq6_0, fq6_1, fq6_2, fq6_3, fq6_4, fq6_5⟩ := hQ6
  have KK6 : Keep h0 T6.heap [] := KK5.trans K6 (allS (P := fun x => x ∈ [] ∨ h0.size ≤ x) (Or.inr sz_b0_5) all0)
  have Z6 : n0 ≤ T6.heap.size := Nat.le_trans Z5 K6.1
  have N6 := Fr.app N4 N6q
  obtain ⟨cq7, kq7, q7a, q7b, q7c⟩ := isOf hZ rfl fq6_5
  obtain ⟨_, _, ⟨T7, L7, k7, n7⟩, -, X7, ⟨Lc7, hQ7, l7, y7, z7⟩, st7⟩ := X6.virtualBack hx (y := (⟨"com/example/pipewright/pipewright/io/Iso2022Layout$State", "get", "(I)Lcom/example/pipewright/pipewright/io/Iso2022Layout$GraphicSet;"⟩ : MethodName)) (z := (⟨"com/example/pipewright/pipewright/io/Iso2022Layout$State", "get", "(I)Lcom/example/pipewright/pipewright/io/Iso2022Layout$GraphicSet;"⟩ : MethodName)) hown (mvT hZ (hw _ (List.mem_of_getElem? (i := 37) rfl))) (mvT hZ (hw _ (List.mem_of_getElem? (i := 38) rfl))) (notFace_of_selects (args := #[]) (mvT hZ (hw _ (List.mem_of_getElem? (i := 40) rfl)))) (mvT hZ (hw _ (List.mem_of_getElem? (i := 40) rfl))) (mvT hZ (hw _ (List.mem_of_getElem? (i := 39) rfl))) (by decide) (backOf (W := 0) (rm5_5 l Z a0 hw [] p5 u0_4 b0_5 T6.heap n0 Z6 h5_0 h5_1 h5_2 fq6_3 hr_u0_4) hZ (hw _ (List.mem_of_getElem? (i := 41) rfl)) (hw _ (List.mem_of_getElem? (i := 15) rfl)) (by decide) (by decide)) q7a q7c (g := (mkF m 61 #[iv p0, iv p1, iv p2, iv p3, iv p4, iv p5, .val u0_1, .val u0_2, .val u0_3, .val u0_4, iv (1 : Int32), rv b0_5, .unset, .unset] [(.int p5), (.ref b0_5)])) rfl (by rw [hml]; rfl) (Steps.refl _) (argsL := [(.int p5)]) (rest := []) (lenOf pd_0 rfl) rfl (by show 2 * 0 + _ ≤ _; exact Nat.le_of_eq rfl) (hb hby at_61) (fun _ _ => ⟨rfl, rfl, (by decide : 1 + 0 ≤ _), (by decide : 5 + 0 ≤ _)⟩)
  dsimp only [Pt.U, Pt.locs, Pt.cells, Pt.slots] at X7 l7 y7 z7 st7 hQ7
  subst l7 y7 z7
  obtain ⟨rfl, N7q, e7⟩ := hQ7
  have N7 := Fr.app N6 N7q
  obtain ⟨fs, hr, hrun, hended, hW, hsame⟩ := X7.leave (v := (some (.int (1 : Int32)))) (fun h => by rw [Bd.returns] at h; cases h)
  refine ⟨_, _, pre0 _ ?_, hrun, hended, _, _, rfl, ?_, ⟨_, rfl⟩, hW, hsame.mono (by decide) (by decide)⟩
  · show Steps p.tables e below (s₁.setTop (mkF m 0 #[iv p0, iv p1, iv p2, iv p3, iv p4, iv p5, .unset, .unset, .unset, .unset, .unset, .unset, .unset, .unset] [])) _
    refine XS.iloadN X0.here hx rfl (hb hby at_0) rfl ?_
    show Steps p.tables e below (s₁.setTop (mkF m 1 #[iv p0, iv p1, iv p2, iv p3, iv p4, iv p5, .unset, .unset, .unset, .unset, .unset, .unset, .unset, .unset] [(.int p0)])) _
    refine st1 _ ?_
    show Steps p.tables e below (T1.setTop (mkF m 4 #[iv p0, iv p1, iv p2, iv p3, iv p4, iv p5, .unset, .unset, .unset, .unset, .unset, .unset, .unset, .unset] [u0_1])) _
    refine XS.astore X1.here hx rfl (hb hby at_4) rfl hr_u0_1 (l' := #[iv p0, iv p1, iv p2, iv p3, iv p4, iv p5, .val u0_1, .unset, .unset, .unset, .unset, .unset, .unset, .unset]) (by rcases ref_cases hr_u0_1 with q | ⟨_, q⟩ <;> (subst q; rfl)) ?_
    show Steps p.tables e below (T1.setTop (mkF m 6 #[iv p0, iv p1, iv p2, iv p3, iv p4, iv p5, .val u0_1, .unset, .unset, .unset, .unset, .unset, .unset, .unset] [])) _
    refine XS.iloadN X1.here hx rfl (hb hby at_6) rfl ?_
    show Steps p.tables e below (T1.setTop (mkF m 7 #[iv p0, iv p1, iv p2, iv p3, iv p4, iv p5, .val u0_1, .unset, .unset, .unset, .unset, .unset, .unset, .unset] [(.int p1)])) _
    refine st2 _ ?_
    show Steps p.tables e below (T2.setTop (mkF m 10 #[iv p0, iv p1, iv p2, iv p3, iv p4, iv p5, .val u0_1, .unset, .unset, .unset, .unset, .unset, .unset, .unset] [u0_2])) _
    refine XS.astore X2.here hx rfl (hb hby at_10) rfl hr_u0_2 (l' := #[iv p0, iv p1, iv p2, iv p3, iv p4, iv p5, .val u0_1, .val u0_2, .unset, .unset, .unset, .unset, .unset, .unset]) (by rcases ref_cases hr_u0_2 with q | ⟨_, q⟩ <;> (subst q; rfl)) ?_
    show Steps p.tables e below (T2.setTop (mkF m 12 #[iv p0, iv p1, iv p2, iv p3, iv p4, iv p5, .val u0_1, .val u0_2, .unset, .unset, .unset, .unset, .unset, .unset] [])) _
    refine XS.iloadN X2.here hx rfl (hb hby at_12) rfl ?_
    show Steps p.tables e below (T2.setTop (mkF m 13 #[iv p0, iv p1, iv p2, iv p3, iv p4, iv p5, .val u0_1, .val u0_2, .unset, .unset, .unset, .unset, .unset, .unset] [(.int p2)])) _
    refine st3 _ ?_
    show Steps p.tables e below (T3.setTop (mkF m 16 #[iv p0, iv p1, iv p2, iv p3, iv p4, iv p5, .val u0_1, .val u0_2, .unset, .unset, .unset, .unset, .unset, .unset] [u0_3])) _
    refine XS.astore X3.here hx rfl (hb hby at_16) rfl hr_u0_3 (l' := #[iv p0, iv p1, iv p2, iv p3, iv p4, iv p5, .val u0_1, .val u0_2, .val u0_3, .unset, .unset, .unset, .unset, .unset]) (by rcases ref_cases hr_u0_3 with q | ⟨_, q⟩ <;> (subst q; rfl)) ?_
    show Steps p.tables e below (T3.setTop (mkF m 18 #[iv p0, iv p1, iv p2, iv p3, iv p4, iv p5, .val u0_1, .val u0_2, .val u0_3, .unset, .unset, .unset, .unset, .unset] [])) _
    refine XS.iloadN X3.here hx rfl (hb hby at_18) rfl ?_
    show Steps p.tables e below (T3.setTop (mkF m 19 #[iv p0, iv p1, iv p2, iv p3, iv p4, iv p5, .val u0_1, .val u0_2, .val u0_3, .unset, .unset, .unset, .unset, .unset] [(.int p3)])) _
    refine st4 _ ?_
    show Steps p.tables e below (T4.setTop (mkF m 22 #[iv p0, iv p1, iv p2, iv p3, iv p4, iv p5, .val u0_1, .val u0_2, .val u0_3, .unset, .unset, .unset, .unset, .unset] [u0_4])) _
    refine XS.astore X4.here hx rfl (hb hby at_22) rfl hr_u0_4 (l' := #[iv p0, iv p1, iv p2, iv p3, iv p4, iv p5, .val u0_1, .val u0_2, .val u0_3, .val u0_4, .unset, .unset, .unset, .unset]) (by rcases ref_cases hr_u0_4 with q | ⟨_, q⟩ <;> (subst q; rfl)) ?_
    show Steps p.tables e below (T4.setTop (mkF m 24 #[iv p0, iv p1, iv p2, iv p3, iv p4, iv p5, .val u0_1, .val u0_2, .val u0_3, .val u0_4, .unset, .unset, .unset, .unset] [])) _
    refine XS.iload X4.here hx rfl (hb hby at_24) rfl ?_
    show Steps p.tables e below (T4.setTop (mkF m 26 #[iv p0, iv p1, iv p2, iv p3, iv p4, iv p5, .val u0_1, .val u0_2, .val u0_3, .val u0_4, .unset, .unset, .unset, .unset] [(.int p4)])) _
    refine XS.iconst X4.here hx rfl (hb hby at_26) ?_
    show Steps p.tables e below (T4.setTop (mkF m 27 #[iv p0, iv p1, iv p2, iv p3, iv p4, iv p5, .val u0_1, .val u0_2, .val u0_3, .val u0_4, .unset, .unset, .unset, .unset] [(.int (1 : Int32)), (.int p4)])) _
    refine XS.iand X4.here hx rfl (hb hby at_27) rfl ?_
    show Steps p.tables e below (T4.setTop (mkF m 28 #[iv p0, iv p1, iv p2, iv p3, iv p4, iv p5, .val u0_1, .val u0_2, .val u0_3, .val u0_4, .unset, .unset, .unset, .unset] [(.int (p4 &&& (1 : Int32)))])) _
    rewrite [h4]
    show Steps p.tables e below (T4.setTop (mkF m 28 #[iv p0, iv p1, iv p2, iv p3, iv p4, iv p5, .val u0_1, .val u0_2, .val u0_3, .val u0_4, .unset, .unset, .unset, .unset] [(.int (1 : Int32))])) _
    refine XS.ifNo X4.here hx rfl (hb hby at_28) rfl ((if0 _ _).trans (feq (by decide +kernel : ¬ ((1 : Int32) = (0 : Int32)))).1) ?_
    show Steps p.tables e below (T4.setTop (mkF m 31 #[iv p0, iv p1, iv p2, iv p3, iv p4, iv p5, .val u0_1, .val u0_2, .val u0_3, .val u0_4, .unset, .unset, .unset, .unset] [])) _
    refine XS.iconst X4.here hx rfl (hb hby at_31) ?_
    show Steps p.tables e below (T4.setTop (mkF m 32 #[iv p0, iv p1, iv p2, iv p3, iv p4, iv p5, .val u0_1, .val u0_2, .val u0_3, .val u0_4, .unset, .unset, .unset, .unset] [(.int (1 : Int32))])) _
    refine XS.goto X4.here hx rfl (pc0 := 32) (pc' := 36) rfl (hb hby at_32) (by decide) (by decide) ?_
    show Steps p.tables e below (T4.setTop (mkF m 36 #[iv p0, iv p1, iv p2, iv p3, iv p4, iv p5, .val u0_1, .val u0_2, .val u0_3, .val u0_4, .unset, .unset, .unset, .unset] [(.int (1 : Int32))])) _
    refine XS.istore X4.here hx rfl (hb hby at_36) rfl (l' := #[iv p0, iv p1, iv p2, iv p3, iv p4, iv p5, .val u0_1, .val u0_2, .val u0_3, .val u0_4, iv (1 : Int32), .unset, .unset, .unset]) rfl ?_
    show Steps p.tables e below (T4.setTop (mkF m 38 #[iv p0, iv p1, iv p2, iv p3, iv p4, iv p5, .val u0_1, .val u0_2, .val u0_3, .val u0_4, iv (1 : Int32), .unset, .unset, .unset] [])) _
    refine st5 _ ?_
    show Steps p.tables e below (T5.setTop (mkF m 41 #[iv p0, iv p1, iv p2, iv p3, iv p4, iv p5, .val u0_1, .val u0_2, .val u0_3, .val u0_4, iv (1 : Int32), .unset, .unset, .unset] [(.ref b0_5)])) _
    refine XS.dup X5.here hx rfl (hb hby at_41) rfl rfl ?_
    show Steps p.tables e below (T5.setTop (mkF m 42 #[iv p0, iv p1, iv p2, iv p3, iv p4, iv p5, .val u0_1, .val u0_2, .val u0_3, .val u0_4, iv (1 : Int32), .unset, .unset, .unset] [(.ref b0_5), (.ref b0_5)])) _
    refine XS.aload X5.here hx rfl (hb hby at_42) rfl hr_u0_1 ?_
    show Steps p.tables e below (T5.setTop (mkF m 44 #[iv p0, iv p1, iv p2, iv p3, iv p4, iv p5, .val u0_1, .val u0_2, .val u0_3, .val u0_4, iv (1 : Int32), .unset, .unset, .unset] [u0_1, (.ref b0_5), (.ref b0_5)])) _
    refine XS.aload X5.here hx rfl (hb hby at_44) rfl hr_u0_2 ?_
    show Steps p.tables e below (T5.setTop (mkF m 46 #[iv p0, iv p1, iv p2, iv p3, iv p4, iv p5, .val u0_1, .val u0_2, .val u0_3, .val u0_4, iv (1 : Int32), .unset, .unset, .unset] [u0_2, u0_1, (.ref b0_5), (.ref b0_5)])) _
    refine XS.aload X5.here hx rfl (hb hby at_46) rfl hr_u0_3 ?_
    show Steps p.tables e below (T5.setTop (mkF m 48 #[iv p0, iv p1, iv p2, iv p3, iv p4, iv p5, .val u0_1, .val u0_2, .val u0_3, .val u0_4, iv (1 : Int32), .unset, .unset, .unset] [u0_3, u0_2, u0_1, (.ref b0_5), (.ref b0_5)])) _
    refine XS.aload X5.here hx rfl (hb hby at_48) rfl hr_u0_4 ?_
    show Steps p.tables e below (T5.setTop (mkF m 50 #[iv p0, iv p1, iv p2, iv p3, iv p4, iv p5, .val u0_1, .val u0_2, .val u0_3, .val u0_4, iv (1 : Int32), .unset, .unset, .unset] [u0_4, u0_3, u0_2, u0_1, (.ref b0_5), (.ref b0_5)])) _
    refine XS.iload X5.here hx rfl (hb hby at_50) rfl ?_
    show Steps p.tables e below (T5.setTop (mkF m 52 #[iv p0, iv p1, iv p2, iv p3, iv p4, iv p5, .val u0_1, .val u0_2, .val u0_3, .val u0_4, iv (1 : Int32), .unset, .unset, .unset] [(.int (1 : Int32)), u0_4, u0_3, u0_2, u0_1, (.ref b0_5), (.ref b0_5)])) _
    refine st6.trans ?_
    show Steps p.tables e below (T6.setTop (mkF m 55 #[iv p0, iv p1, iv p2, iv p3, iv p4, iv p5, .val u0_1, .val u0_2, .val u0_3, .val u0_4, iv (1 : Int32), .unset, .unset, .unset] [(.ref b0_5)])) _
    refine XS.astore X6.here hx rfl (hb hby at_55) rfl rfl (l' := #[iv p0, iv p1, iv p2, iv p3, iv p4, iv p5, .val u0_1, .val u0_2, .val u0_3, .val u0_4, iv (1 : Int32), rv b0_5, .unset, .unset]) rfl ?_
    show Steps p.tables e below (T6.setTop (mkF m 57 #[iv p0, iv p1, iv p2, iv p3, iv p4, iv p5, .val u0_1, .val u0_2, .val u0_3, .val u0_4, iv (1 : Int32), rv b0_5, .unset, .unset] [])) _
    refine XS.aload X6.here hx rfl (hb hby at_57) rfl rfl ?_
    show Steps p.tables e below (T6.setTop (mkF m 59 #[iv p0, iv p1, iv p2, iv p3, iv p4, iv p5, .val u0_1, .val u0_2, .val u0_3, .val u0_4, iv (1 : Int32), rv b0_5, .unset, .unset] [(.ref b0_5)])) _
    refine XS.iload X6.here hx rfl (hb hby at_59) rfl ?_
    show Steps p.tables e below (T6.setTop (mkF m 61 #[iv p0, iv p1, iv p2, iv p3, iv p4, iv p5, .val u0_1, .val u0_2, .val u0_3, .val u0_4, iv (1 : Int32), rv b0_5, .unset, .unset] [(.int p5), (.ref b0_5)])) _
    refine st7.trans ?_
    show Steps p.tables e below (T7.setTop (mkF m 64 #[iv p0, iv p1, iv p2, iv p3, iv p4, iv p5, .val u0_1, .val u0_2, .val u0_3, .val u0_4, iv (1 : Int32), rv b0_5, .unset, .unset] [u0_4])) _
    refine XS.astore X7.here hx rfl (hb hby at_64) rfl hr_u0_4 (l' := #[iv p0, iv p1, iv p2, iv p3, iv p4, iv p5, .val u0_1, .val u0_2, .val u0_3, .val u0_4, iv (1 : Int32), rv b0_5, .val u0_4, .unset]) (by rcases ref_cases hr_u0_4 with q | ⟨_, q⟩ <;> (subst q; rfl)) ?_
    show Steps p.tables e below (T7.setTop (mkF m 66 #[iv p0, iv p1, iv p2, iv p3, iv p4, iv p5, .val u0_1, .val u0_2, .val u0_3, .val u0_4, iv (1 : Int32), rv b0_5, .val u0_4, .unset] [])) _
    refine XS.iload X7.here hx rfl (hb hby at_66) rfl ?_
    show Steps p.tables e below (T7.setTop (mkF m 68 #[iv p0, iv p1, iv p2, iv p3, iv p4, iv p5, .val u0_1, .val u0_2, .val u0_3, .val u0_4, iv (1 : Int32), rv b0_5, .val u0_4, .unset] [(.int p5)])) _
    refine XS.ifYes X7.here hx rfl (pc0 := 68) (pc' := 78) rfl (hb hby at_68) rfl ((if0 _ _).trans (feq h5_0).2) (by decide) (by decide) ?_
    show Steps p.tables e below (T7.setTop (mkF m 78 #[iv p0, iv p1, iv p2, iv p3, iv p4, iv p5, .val u0_1, .val u0_2, .val u0_3, .val u0_4, iv (1 : Int32), rv b0_5, .val u0_4, .unset] [])) _
    refine XS.iload X7.here hx rfl (hb hby at_78) rfl ?_
    show Steps p.tables e below (T7.setTop (mkF m 80 #[iv p0, iv p1, iv p2, iv p3, iv p4, iv p5, .val u0_1, .val u0_2, .val u0_3, .val u0_4, iv (1 : Int32), rv b0_5, .val u0_4, .unset] [(.int p5)])) _
    refine XS.iconst X7.here hx rfl (hb hby at_80) ?_
    show Steps p.tables e below (T7.setTop (mkF m 81 #[iv p0, iv p1, iv p2, iv p3, iv p4, iv p5, .val u0_1, .val u0_2, .val u0_3, .val u0_4, iv (1 : Int32), rv b0_5, .val u0_4, .unset] [(.int (1 : Int32)), (.int p5)])) _
    refine XS.icmpYes X7.here hx rfl (pc0 := 81) (pc' := 91) rfl (hb hby at_81) rfl (feq h5_1).2 (by decide) (by decide) ?_
    show Steps p.tables e below (T7.setTop (mkF m 91 #[iv p0, iv p1, iv p2, iv p3, iv p4, iv p5, .val u0_1, .val u0_2, .val u0_3, .val u0_4, iv (1 : Int32), rv b0_5, .val u0_4, .unset] [])) _
    refine XS.iload X7.here hx rfl (hb hby at_91) rfl ?_
    show Steps p.tables e below (T7.setTop (mkF m 93 #[iv p0, iv p1, iv p2, iv p3, iv p4, iv p5, .val u0_1, .val u0_2, .val u0_3, .val u0_4, iv (1 : Int32), rv b0_5, .val u0_4, .unset] [(.int p5)])) _
    refine XS.iconst X7.here hx rfl (hb hby at_93) ?_
    show Steps p.tables e below (T7.setTop (mkF m 94 #[iv p0, iv p1, iv p2, iv p3, iv p4, iv p5, .val u0_1, .val u0_2, .val u0_3, .val u0_4, iv (1 : Int32), rv b0_5, .val u0_4, .unset] [(.int (2 : Int32)), (.int p5)])) _
    refine XS.icmpYes X7.here hx rfl (pc0 := 94) (pc' := 104) rfl (hb hby at_94) rfl (feq h5_2).2 (by decide) (by decide) ?_
    show Steps p.tables e below (T7.setTop (mkF m 104 #[iv p0, iv p1, iv p2, iv p3, iv p4, iv p5, .val u0_1, .val u0_2, .val u0_3, .val u0_4, iv (1 : Int32), rv b0_5, .val u0_4, .unset] [])) _
    refine XS.aload X7.here hx rfl (hb hby at_104) rfl hr_u0_4 ?_
    show Steps p.tables e below (T7.setTop (mkF m 106 #[iv p0, iv p1, iv p2, iv p3, iv p4, iv p5, .val u0_1, .val u0_2, .val u0_3, .val u0_4, iv (1 : Int32), rv b0_5, .val u0_4, .unset] [u0_4])) _
    refine XS.astore X7.here hx rfl (hb hby at_106) rfl hr_u0_4 (l' := #[iv p0, iv p1, iv p2, iv p3, iv p4, iv p5, .val u0_1, .val u0_2, .val u0_3, .val u0_4, iv (1 : Int32), rv b0_5, .val u0_4, .val u0_4]) (by rcases ref_cases hr_u0_4 with q | ⟨_, q⟩ <;> (subst q; rfl)) ?_
    show Steps p.tables e below (T7.setTop (mkF m 108 #[iv p0, iv p1, iv p2, iv p3, iv p4, iv p5, .val u0_1, .val u0_2, .val u0_3, .val u0_4, iv (1 : Int32), rv b0_5, .val u0_4, .val u0_4] [])) _
    refine XS.aload X7.here hx rfl (hb hby at_108) rfl hr_u0_4 ?_
    show Steps p.tables e below (T7.setTop (mkF m 110 #[iv p0, iv p1, iv p2, iv p3, iv p4, iv p5, .val u0_1, .val u0_2, .val u0_3, .val u0_4, iv (1 : Int32), rv b0_5, .val u0_4, .val u0_4] [u0_4])) _
    refine XS.aload X7.here hx rfl (hb hby at_110) rfl hr_u0_4 ?_
    show Steps p.tables e below (T7.setTop (mkF m 112 #[iv p0, iv p1, iv p2, iv p3, iv p4, iv p5, .val u0_1, .val u0_2, .val u0_3, .val u0_4, iv (1 : Int32), rv b0_5, .val u0_4, .val u0_4] [u0_4, u0_4])) _
    refine Jvm.RoadKit.acmp (g := (mkF m 112 #[iv p0, iv p1, iv p2, iv p3, iv p4, iv p5, .val u0_1, .val u0_2, .val u0_3, .val u0_4, iv (1 : Int32), rv b0_5, .val u0_4, .val u0_4] [u0_4, u0_4])) X7 hx rfl hr_u0_4 hr_u0_4 (pc0 := 112) (pc' := 115) (same := true) rfl (hb hby at_112) rfl (decide_eq_true rfl) (by decide) (by decide) ?_
    show Steps p.tables e below (T7.setTop (mkF m 115 #[iv p0, iv p1, iv p2, iv p3, iv p4, iv p5, .val u0_1, .val u0_2, .val u0_3, .val u0_4, iv (1 : Int32), rv b0_5, .val u0_4, .val u0_4] [])) _
    refine XS.iconst X7.here hx rfl (hb hby at_115) ?_
    show Steps p.tables e below (T7.setTop (mkF m 116 #[iv p0, iv p1, iv p2, iv p3, iv p4, iv p5, .val u0_1, .val u0_2, .val u0_3, .val u0_4, iv (1 : Int32), rv b0_5, .val u0_4, .val u0_4] [(.int (1 : Int32))])) _
    refine XS.goto X7.here hx rfl (pc0 := 116) (pc' := 120) rfl (hb hby at_116) (by decide) (by decide) ?_
    show Steps p.tables e below (T7.setTop (mkF m 120 #[iv p0, iv p1, iv p2, iv p3, iv p4, iv p5, .val u0_1, .val u0_2, .val u0_3, .val u0_4, iv (1 : Int32), rv b0_5, .val u0_4, .val u0_4] [(.int (1 : Int32))])) _
    exact retN X7 hx (t := .boolean) Bd.returns (by simp) (hb hby at_120) hr
  · exact ⟨rfl, N7⟩
theorem rm0 (l : Launch) (Z : State) (a0 : Array Value) (hw : ∀ d ∈ tables_1, d.before a0 Z = true) (ws : List Jvm.Cond) (p0 : Int32) (p1 : Int32) (p2 : Int32) (p3 : Int32) (p4 : Int32) (p5 : Int32) (w_GraphicSet_ASCII : Addr) (w_GraphicSet_UNREAD_ONE_BYTE : Addr) (w_GraphicSet_JIS_X_0201_KATAKANA : Addr) (w_GraphicSet_JIS_X_0201_ROMAN : Addr) (w_GraphicSet_JIS_X_0208 : Addr) (w_GraphicSet_CNS_11643_3 : Addr) (w_GraphicSet_UNREAD_TWO_BYTES : Addr) (w_GraphicSet_KS_X_1001 : Addr) (w_GraphicSet_CNS_11643_6 : Addr) (w_GraphicSet_CNS_11643_2 : Addr) (w_GraphicSet_CNS_11643_5 : Addr) (w_GraphicSet_CNS_11643_1 : Addr) (w_GraphicSet_CNS_11643_4 : Addr) (w_GraphicSet_JIS_X_0212 : Addr) (w_GraphicSet_GB_2312 : Addr) (w_GraphicSet_CNS_11643_7 : Addr) (h0 : Heap) (n0 : Nat) (Z0 : n0 ≤ h0.size) (S_GraphicSet_ASCII : Sta Z h0 "com/example/pipewright/pipewright/io/Iso2022Layout$GraphicSet" "ASCII" "Lcom/example/pipewright/pipewright/io/Iso2022Layout$GraphicSet;" (.ref w_GraphicSet_ASCII)) (S_GraphicSet_JIS_X_0201_ROMAN : Sta Z h0 "com/example/pipewright/pipewright/io/Iso2022Layout$GraphicSet" "JIS_X_0201_ROMAN" "Lcom/example/pipewright/pipewright/io/Iso2022Layout$GraphicSet;" (.ref w_GraphicSet_JIS_X_0201_ROMAN)) (S_GraphicSet_JIS_X_0201_KATAKANA : Sta Z h0 "com/example/pipewright/pipewright/io/Iso2022Layout$GraphicSet" "JIS_X_0201_KATAKANA" "Lcom/example/pipewright/pipewright/io/Iso2022Layout$GraphicSet;" (.ref w_GraphicSet_JIS_X_0201_KATAKANA)) (S_GraphicSet_UNREAD_ONE_BYTE : Sta Z h0 "com/example/pipewright/pipewright/io/Iso2022Layout$GraphicSet" "UNREAD_ONE_BYTE" "Lcom/example/pipewright/pipewright/io/Iso2022Layout$GraphicSet;" (.ref w_GraphicSet_UNREAD_ONE_BYTE)) (S_GraphicSet_JIS_X_0208 : Sta Z h0 "com/example/pipewright/pipewright/io/Iso2022Layout$GraphicSet" "JIS_X_0208" "Lcom/example/pipewright/pipewright/io/Iso2022Layout$GraphicSet;" (.ref w_GraphicSet_JIS_X_0208)) (S_GraphicSet_JIS_X_0212 : Sta Z h0 "com/example/pipewright/pipewright/io/Iso2022Layout$GraphicSet" "JIS_X_0212" "Lcom/example/pipewright/pipewright/io/Iso2022Layout$GraphicSet;" (.ref w_GraphicSet_JIS_X_0212)) (S_GraphicSet_GB_2312 : Sta Z h0 "com/example/pipewright/pipewright/io/Iso2022Layout$GraphicSet" "GB_2312" "Lcom/example/pipewright/pipewright/io/Iso2022Layout$GraphicSet;" (.ref w_GraphicSet_GB_2312)) (S_GraphicSet_KS_X_1001 : Sta Z h0 "com/example/pipewright/pipewright/io/Iso2022Layout$GraphicSet" "KS_X_1001" "Lcom/example/pipewright/pipewright/io/Iso2022Layout$GraphicSet;" (.ref w_GraphicSet_KS_X_1001)) (S_GraphicSet_CNS_11643_1 : Sta Z h0 "com/example/pipewright/pipewright/io/Iso2022Layout$GraphicSet" "CNS_11643_1" "Lcom/example/pipewright/pipewright/io/Iso2022Layout$GraphicSet;" (.ref w_GraphicSet_CNS_11643_1)) (S_GraphicSet_CNS_11643_2 : Sta Z h0 "com/example/pipewright/pipewright/io/Iso2022Layout$GraphicSet" "CNS_11643_2" "Lcom/example/pipewright/pipewright/io/Iso2022Layout$GraphicSet;" (.ref w_GraphicSet_CNS_11643_2)) (S_GraphicSet_CNS_11643_3 : Sta Z h0 "com/example/pipewright/pipewright/io/Iso2022Layout$GraphicSet" "CNS_11643_3" "Lcom/example/pipewright/pipewright/io/Iso2022Layout$GraphicSet;" (.ref w_GraphicSet_CNS_11643_3)) (S_GraphicSet_CNS_11643_4 : Sta Z h0 "com/example/pipewright/pipewright/io/Iso2022Layout$GraphicSet" "CNS_11643_4" "Lcom/example/pipewright/pipewright/io/Iso2022Layout$GraphicSet;" (.ref w_GraphicSet_CNS_11643_4)) (S_GraphicSet_CNS_11643_5 : Sta Z h0 "com/example/pipewright/pipewright/io/Iso2022Layout$GraphicSet" "CNS_11643_5" "Lcom/example/pipewright/pipewright/io/Iso2022Layout$GraphicSet;" (.ref w_GraphicSet_CNS_11643_5)) (S_GraphicSet_CNS_11643_6 : Sta Z h0 "com/example/pipewright/pipewright/io/Iso2022Layout$GraphicSet" "CNS_11643_6" "Lcom/example/pipewright/pipewright/io/Iso2022Layout$GraphicSet;" (.ref w_GraphicSet_CNS_11643_6)) (S_GraphicSet_CNS_11643_7 : Sta Z h0 "com/example/pipewright/pipewright/io/Iso2022Layout$GraphicSet" "CNS_11643_7" "Lcom/example/pipewright/pipewright/io/Iso2022Layout$GraphicSet;" (.ref w_GraphicSet_CNS_11643_7)) (S_GraphicSet_UNREAD_TWO_BYTES : Sta Z h0 "com/example/pipewright/pipewright/io/Iso2022Layout$GraphicSet" "UNREAD_TWO_BYTES" "Lcom/example/pipewright/pipewright/io/Iso2022Layout$GraphicSet;" (.ref w_GraphicSet_UNREAD_TWO_BYTES)) :
    MetFree l x (head1 (Jvm.Cond.code x code maxLocals ret :: ws) room_1) (fun a U => a = #[(.int p0), (.int p1), (.int p2), (.int p3), (.int p4), (.int p5)] ∧ Z.Warmed39 U.vm ∧ U.heap = h0) (fun _ _ _ _ _ => True) (fun _ U o U' => ∃ v L, o = .returned v ∧ own_QL n0 v U'.heap L ∧ FrameEnd U o U' L room_1.cells room_1.slots) := by
  rcases own_s1 p4 with h4 | h4
  · rcases own_s3 p5 with rfl | rfl | rfl | ⟨h5_0, h5_1, h5_2⟩
    · exact rm0_0 l Z a0 hw ws p0 p1 p2 p3 p4 w_GraphicSet_ASCII w_GraphicSet_UNREAD_ONE_BYTE w_GraphicSet_JIS_X_0201_KATAKANA w_GraphicSet_JIS_X_0201_ROMAN w_GraphicSet_JIS_X_0208 w_GraphicSet_CNS_11643_3 w_GraphicSet_UNREAD_TWO_BYTES w_GraphicSet_KS_X_1001 w_GraphicSet_CNS_11643_6 w_GraphicSet_CNS_11643_2 w_GraphicSet_CNS_11643_5 w_GraphicSet_CNS_11643_1 w_GraphicSet_CNS_11643_4 w_GraphicSet_JIS_X_0212 w_GraphicSet_GB_2312 w_GraphicSet_CNS_11643_7 h0 n0 Z0 S_GraphicSet_ASCII S_GraphicSet_JIS_X_0201_ROMAN S_GraphicSet_JIS_X_0201_KATAKANA S_GraphicSet_UNREAD_ONE_BYTE S_GraphicSet_JIS_X_0208 S_GraphicSet_JIS_X_0212 S_GraphicSet_GB_2312 S_GraphicSet_KS_X_1001 S_GraphicSet_CNS_11643_1 S_GraphicSet_CNS_11643_2 S_GraphicSet_CNS_11643_3 S_GraphicSet_CNS_11643_4 S_GraphicSet_CNS_11643_5 S_GraphicSet_CNS_11643_6 S_GraphicSet_CNS_11643_7 S_GraphicSet_UNREAD_TWO_BYTES h4
    · exact rm0_1 l Z a0 hw ws p0 p1 p2 p3 p4 w_GraphicSet_ASCII w_GraphicSet_UNREAD_ONE_BYTE w_GraphicSet_JIS_X_0201_KATAKANA w_GraphicSet_JIS_X_0201_ROMAN w_GraphicSet_JIS_X_0208 w_GraphicSet_CNS_11643_3 w_GraphicSet_UNREAD_TWO_BYTES w_GraphicSet_KS_X_1001 w_GraphicSet_CNS_11643_6 w_GraphicSet_CNS_11643_2 w_GraphicSet_CNS_11643_5 w_GraphicSet_CNS_11643_1 w_GraphicSet_CNS_11643_4 w_GraphicSet_JIS_X_0212 w_GraphicSet_GB_2312 w_GraphicSet_CNS_11643_7 h0 n0 Z0 S_GraphicSet_ASCII S_GraphicSet_JIS_X_0201_ROMAN S_GraphicSet_JIS_X_0201_KATAKANA S_GraphicSet_UNREAD_ONE_BYTE S_GraphicSet_JIS_X_0208 S_GraphicSet_JIS_X_0212 S_GraphicSet_GB_2312 S_GraphicSet_KS_X_1001 S_GraphicSet_CNS_11643_1 S_GraphicSet_CNS_11643_2 S_GraphicSet_CNS_11643_3 S_GraphicSet_CNS_11643_4 S_GraphicSet_CNS_11643_5 S_GraphicSet_CNS_11643_6 S_GraphicSet_CNS_11643_7 S_GraphicSet_UNREAD_TWO_BYTES h4
    · exact rm0_2 l Z a0 hw ws p0 p1 p2 p3 p4 w_GraphicSet_ASCII w_GraphicSet_UNREAD_ONE_BYTE w_GraphicSet_JIS_X_0201_KATAKANA w_GraphicSet_JIS_X_0201_ROMAN w_GraphicSet_JIS_X_0208 w_GraphicSet_CNS_11643_3 w_GraphicSet_UNREAD_TWO_BYTES w_GraphicSet_KS_X_1001 w_GraphicSet_CNS_11643_6 w_GraphicSet_CNS_11643_2 w_GraphicSet_CNS_11643_5 w_GraphicSet_CNS_11643_1 w_GraphicSet_CNS_11643_4 w_GraphicSet_JIS_X_0212 w_GraphicSet_GB_2312 w_GraphicSet_CNS_11643_7 h0 n0 Z0 S_GraphicSet_ASCII S_GraphicSet_JIS_X_0201_ROMAN S_GraphicSet_JIS_X_0201_KATAKANA S_GraphicSet_UNREAD_ONE_BYTE S_GraphicSet_JIS_X_0208 S_GraphicSet_JIS_X_0212 S_GraphicSet_GB_2312 S_GraphicSet_KS_X_1001 S_GraphicSet_CNS_11643_1 S_GraphicSet_CNS_11643_2 S_GraphicSet_CNS_11643_3 S_GraphicSet_CNS_11643_4 S_GraphicSet_CNS_11643_5 S_GraphicSet_CNS_11643_6 S_GraphicSet_CNS_11643_7 S_GraphicSet_UNREAD_TWO_BYTES h4
    · exact rm0_3 l Z a0 hw ws p0 p1 p2 p3 p4 p5 w_GraphicSet_ASCII w_GraphicSet_UNREAD_ONE_BYTE w_GraphicSet_JIS_X_0201_KATAKANA w_GraphicSet_JIS_X_0201_ROMAN w_GraphicSet_JIS_X_0208 w_GraphicSet_CNS_11643_3 w_GraphicSet_UNREAD_TWO_BYTES w_GraphicSet_KS_X_1001 w_GraphicSet_CNS_11643_6 w_GraphicSet_CNS_11643_2 w_GraphicSet_CNS_11643_5 w_GraphicSet_CNS_11643_1 w_GraphicSet_CNS_11643_4 w_GraphicSet_JIS_X_0212 w_GraphicSet_GB_2312 w_GraphicSet_CNS_11643_7 h0 n0 Z0 S_GraphicSet_ASCII S_GraphicSet_JIS_X_0201_ROMAN S_GraphicSet_JIS_X_0201_KATAKANA S_GraphicSet_UNREAD_ONE_BYTE S_GraphicSet_JIS_X_0208 S_GraphicSet_JIS_X_0212 S_GraphicSet_GB_2312 S_GraphicSet_KS_X_1001 S_GraphicSet_CNS_11643_1 S_GraphicSet_CNS_11643_2 S_GraphicSet_CNS_11643_3 S_GraphicSet_CNS_11643_4 S_GraphicSet_CNS_11643_5 S_GraphicSet_CNS_11643_6 S_GraphicSet_CNS_11643_7 S_GraphicSet_UNREAD_TWO_BYTES h4 h5_0 h5_1 h5_2
  · rcases own_s3 p5 with rfl | rfl | rfl | ⟨h5_0, h5_1, h5_2⟩
    · exact rm0_4 l Z a0 hw ws p0 p1 p2 p3 p4 w_GraphicSet_ASCII w_GraphicSet_UNREAD_ONE_BYTE w_GraphicSet_JIS_X_0201_KATAKANA w_GraphicSet_JIS_X_0201_ROMAN w_GraphicSet_JIS_X_0208 w_GraphicSet_CNS_11643_3 w_GraphicSet_UNREAD_TWO_BYTES w_GraphicSet_KS_X_1001 w_GraphicSet_CNS_11643_6 w_GraphicSet_CNS_11643_2 w_GraphicSet_CNS_11643_5 w_GraphicSet_CNS_11643_1 w_GraphicSet_CNS_11643_4 w_GraphicSet_JIS_X_0212 w_GraphicSet_GB_2312 w_GraphicSet_CNS_11643_7 h0 n0 Z0 S_GraphicSet_ASCII S_GraphicSet_JIS_X_0201_ROMAN S_GraphicSet_JIS_X_0201_KATAKANA S_GraphicSet_UNREAD_ONE_BYTE S_GraphicSet_JIS_X_0208 S_GraphicSet_JIS_X_0212 S_GraphicSet_GB_2312 S_GraphicSet_KS_X_1001 S_GraphicSet_CNS_11643_1 S_GraphicSet_CNS_11643_2 S_GraphicSet_CNS_11643_3 S_GraphicSet_CNS_11643_4 S_GraphicSet_CNS_11643_5 S_GraphicSet_CNS_11643_6 S_GraphicSet_CNS_11643_7 S_GraphicSet_UNREAD_TWO_BYTES h4
    · exact rm0_5 l Z a0 hw ws p0 p1 p2 p3 p4 w_GraphicSet_ASCII w_GraphicSet_UNREAD_ONE_BYTE w_GraphicSet_JIS_X_0201_KATAKANA w_GraphicSet_JIS_X_0201_ROMAN w_GraphicSet_JIS_X_0208 w_GraphicSet_CNS_11643_3 w_GraphicSet_UNREAD_TWO_BYTES w_GraphicSet_KS_X_1001 w_GraphicSet_CNS_11643_6 w_GraphicSet_CNS_11643_2 w_GraphicSet_CNS_11643_5 w_GraphicSet_CNS_11643_1 w_GraphicSet_CNS_11643_4 w_GraphicSet_JIS_X_0212 w_GraphicSet_GB_2312 w_GraphicSet_CNS_11643_7 h0 n0 Z0 S_GraphicSet_ASCII S_GraphicSet_JIS_X_0201_ROMAN S_GraphicSet_JIS_X_0201_KATAKANA S_GraphicSet_UNREAD_ONE_BYTE S_GraphicSet_JIS_X_0208 S_GraphicSet_JIS_X_0212 S_GraphicSet_GB_2312 S_GraphicSet_KS_X_1001 S_GraphicSet_CNS_11643_1 S_GraphicSet_CNS_11643_2 S_GraphicSet_CNS_11643_3 S_GraphicSet_CNS_11643_4 S_GraphicSet_CNS_11643_5 S_GraphicSet_CNS_11643_6 S_GraphicSet_CNS_11643_7 S_GraphicSet_UNREAD_TWO_BYTES h4
    · exact rm0_6 l Z a0 hw ws p0 p1 p2 p3 p4 w_GraphicSet_ASCII w_GraphicSet_UNREAD_ONE_BYTE w_GraphicSet_JIS_X_0201_KATAKANA w_GraphicSet_JIS_X_0201_ROMAN w_GraphicSet_JIS_X_0208 w_GraphicSet_CNS_11643_3 w_GraphicSet_UNREAD_TWO_BYTES w_GraphicSet_KS_X_1001 w_GraphicSet_CNS_11643_6 w_GraphicSet_CNS_11643_2 w_GraphicSet_CNS_11643_5 w_GraphicSet_CNS_11643_1 w_GraphicSet_CNS_11643_4 w_GraphicSet_JIS_X_0212 w_GraphicSet_GB_2312 w_GraphicSet_CNS_11643_7 h0 n0 Z0 S_GraphicSet_ASCII S_GraphicSet_JIS_X_0201_ROMAN S_GraphicSet_JIS_X_0201_KATAKANA S_GraphicSet_UNREAD_ONE_BYTE S_GraphicSet_JIS_X_0208 S_GraphicSet_JIS_X_0212 S_GraphicSet_GB_2312 S_GraphicSet_KS_X_1001 S_GraphicSet_CNS_11643_1 S_GraphicSet_CNS_11643_2 S_GraphicSet_CNS_11643_3 S_GraphicSet_CNS_11643_4 S_GraphicSet_CNS_11643_5 S_GraphicSet_CNS_11643_6 S_GraphicSet_CNS_11643_7 S_GraphicSet_UNREAD_TWO_BYTES h4
    · exact rm0_7 l Z a0 hw ws p0 p1 p2 p3 p4 p5 w_GraphicSet_ASCII w_GraphicSet_UNREAD_ONE_BYTE w_GraphicSet_JIS_X_0201_KATAKANA w_GraphicSet_JIS_X_0201_ROMAN w_GraphicSet_JIS_X_0208 w_GraphicSet_CNS_11643_3 w_GraphicSet_UNREAD_TWO_BYTES w_GraphicSet_KS_X_1001 w_GraphicSet_CNS_11643_6 w_GraphicSet_CNS_11643_2 w_GraphicSet_CNS_11643_5 w_GraphicSet_CNS_11643_1 w_GraphicSet_CNS_11643_4 w_GraphicSet_JIS_X_0212 w_GraphicSet_GB_2312 w_GraphicSet_CNS_11643_7 h0 n0 Z0 S_GraphicSet_ASCII S_GraphicSet_JIS_X_0201_ROMAN S_GraphicSet_JIS_X_0201_KATAKANA S_GraphicSet_UNREAD_ONE_BYTE S_GraphicSet_JIS_X_0208 S_GraphicSet_JIS_X_0212 S_GraphicSet_GB_2312 S_GraphicSet_KS_X_1001 S_GraphicSet_CNS_11643_1 S_GraphicSet_CNS_11643_2 S_GraphicSet_CNS_11643_3 S_GraphicSet_CNS_11643_4 S_GraphicSet_CNS_11643_5 S_GraphicSet_CNS_11643_6 S_GraphicSet_CNS_11643_7 S_GraphicSet_UNREAD_TWO_BYTES h4 h5_0 h5_1 h5_2
set_option maxRecDepth 65536 in
set_option maxHeartbeats 40000000 in
theorem comes_1 {Post : Tables → Env → Array Value → State → Outcome → State → Prop} (hpost : ∀ tb e args s v u, (limb_1_1.after args s (.returned v) u = true ∧ limb_1_2.after args s (.returned v) u = true ∧ True) → FrameEnd s (.returned v) u (Jvm.fieldLocs frame_1_writes args s ++ Jvm.arrayLocs frame_1_arrays args s ++ Jvm.staticLocs frame_1_statics s) 16 128 → Post tb e args s (.returned v) u) :
    ArmFor flags0 classFile x code maxLocals ret World_1 tables_1 room_1 Calls_1 rest_1 Pre_1 Post := by
  intro l hfl _ _ p e ha hc hk s m args below hf hA hF happ hP
  obtain ⟨hcalls, hrest, hpre⟩ := hP
  obtain ⟨-, -, -, hnamed, -, -, -, hat⟩ := (Spec.applies_iff hf).mp happ
  obtain ⟨hg, hn⟩ := and_e (Cond.before_iff.mp (show (Jvm.Cond.and given_1 narrow_1).before args s = true from hpre))
  obtain ⟨g0, g0r⟩ := and_e hg
  obtain ⟨g1, g1r⟩ := and_e g0r
  obtain ⟨g2, g2r⟩ := and_e g1r
  obtain ⟨g3, g3r⟩ := and_e g2r
  obtain ⟨g4, g4r⟩ := and_e g3r
  obtain ⟨g5, g5r⟩ := and_e g4r
  obtain ⟨v0, v1, v2, v3, v4, v5, rfl⟩ : ∃ v0 v1 v2 v3 v4 v5 : Value, args = #[v0, v1, v2, v3, v4, v5] := by
    have hs : args.size = 6 := by simpa [Cond.value, given_1] using g0
    obtain ⟨L⟩ := args
    match L, hs with
    | [v0, v1, v2, v3, v4, v5], _ => exact ⟨v0, v1, v2, v3, v4, v5, rfl⟩
  have hw := fun d (hd : d ∈ tables_1) => atoms_spec (ws := Jvm.Cond.code x code maxLocals ret :: tables_1) hat d (List.mem_cons_of_mem _ hd)
  have hfit : Fit s := fun {y c} hc i hi => by
    obtain ⟨ha, rfl⟩ := Array.getElem?_eq_some_iff.mp hc
    have q := List.all_eq_true.mp ((Array.all_eq_true_iff_forall_mem.mp hF) _ (Array.getElem_mem ha)) i (List.mem_range.mpr hi)
    simpa [Array.getElem?_eq_getElem hi] using q
  obtain ⟨p0, ei0⟩ := is_v g1
  obtain rfl : v0 = (.int p0) := Option.some.inj ei0
  obtain ⟨p1, ei1⟩ := is_v g2
  obtain rfl : v1 = (.int p1) := Option.some.inj ei1
  obtain ⟨p2, ei2⟩ := is_v g3
  obtain rfl : v2 = (.int p2) := Option.some.inj ei2
  obtain ⟨p3, ei3⟩ := is_v g4
  obtain rfl : v3 = (.int p3) := Option.some.inj ei3
  obtain ⟨p4, ei4⟩ := is_v g5
  obtain rfl : v4 = (.int p4) := Option.some.inj ei4
  obtain ⟨p5, ei5⟩ := is_v g5r
  obtain rfl : v5 = (.int p5) := Option.some.inj ei5
  obtain ⟨n0, n0r⟩ := and_e hn
  obtain ⟨n1, n1r⟩ := and_e n0r
  obtain ⟨n2, n2r⟩ := and_e n1r
  obtain ⟨n3, n3r⟩ := and_e n2r
  obtain ⟨n4, n4r⟩ := and_e n3r
  obtain ⟨n5, n5r⟩ := and_e n4r
  obtain ⟨n6, n6r⟩ := and_e n5r
  obtain ⟨n7, n7r⟩ := and_e n6r
  obtain ⟨n8, n8r⟩ := and_e n7r
  obtain ⟨n9, n9r⟩ := and_e n8r
  obtain ⟨n10, n10r⟩ := and_e n9r
  obtain ⟨n11, n11r⟩ := and_e n10r
  obtain ⟨n12, n12r⟩ := and_e n11r
  obtain ⟨n13, n13r⟩ := and_e n12r
  obtain ⟨n14, n14r⟩ := and_e n13r
  obtain ⟨w_GraphicSet_ASCII, ev_w_GraphicSet_ASCII⟩ := exa_v n0
  have S_GraphicSet_ASCII : Sta s s.heap "com/example/pipewright/pipewright/io/Iso2022Layout$GraphicSet" "ASCII" "Lcom/example/pipewright/pipewright/io/Iso2022Layout$GraphicSet;" (.ref w_GraphicSet_ASCII) := Sta.start ev_w_GraphicSet_ASCII (Or.inr ⟨(hw _ (List.mem_of_getElem? (i := 5) rfl)), (hw _ (List.mem_of_getElem? (i := 6) rfl))⟩)
  have E_w_GraphicSet_ASCII : Exa s s.heap w_GraphicSet_ASCII "com/example/pipewright/pipewright/io/Iso2022Layout$GraphicSet" := Exa.start ev_w_GraphicSet_ASCII n0
  obtain ⟨w_GraphicSet_UNREAD_ONE_BYTE, ev_w_GraphicSet_UNREAD_ONE_BYTE⟩ := exa_v n1
  have S_GraphicSet_UNREAD_ONE_BYTE : Sta s s.heap "com/example/pipewright/pipewright/io/Iso2022Layout$GraphicSet" "UNREAD_ONE_BYTE" "Lcom/example/pipewright/pipewright/io/Iso2022Layout$GraphicSet;" (.ref w_GraphicSet_UNREAD_ONE_BYTE) := Sta.start ev_w_GraphicSet_UNREAD_ONE_BYTE (Or.inr ⟨(hw _ (List.mem_of_getElem? (i := 5) rfl)), (hw _ (List.mem_of_getElem? (i := 8) rfl))⟩)
  have E_w_GraphicSet_UNREAD_ONE_BYTE : Exa s s.heap w_GraphicSet_UNREAD_ONE_BYTE "com/example/pipewright/pipewright/io/Iso2022Layout$GraphicSet" := Exa.start ev_w_GraphicSet_UNREAD_ONE_BYTE n1
  obtain ⟨w_GraphicSet_JIS_X_0201_KATAKANA, ev_w_GraphicSet_JIS_X_0201_KATAKANA⟩ := exa_v n2
  have S_GraphicSet_JIS_X_0201_KATAKANA : Sta s s.heap "com/example/pipewright/pipewright/io/Iso2022Layout$GraphicSet" "JIS_X_0201_KATAKANA" "Lcom/example/pipewright/pipewright/io/Iso2022Layout$GraphicSet;" (.ref w_GraphicSet_JIS_X_0201_KATAKANA) := Sta.start ev_w_GraphicSet_JIS_X_0201_KATAKANA (Or.inr ⟨(hw _ (List.mem_of_getElem? (i := 5) rfl)), (hw _ (List.mem_of_getElem? (i := 10) rfl))⟩)
  have E_w_GraphicSet_JIS_X_0201_KATAKANA : Exa s s.heap w_GraphicSet_JIS_X_0201_KATAKANA "com/example/pipewright/pipewright/io/Iso2022Layout$GraphicSet" := Exa.start ev_w_GraphicSet_JIS_X_0201_KATAKANA n2
  obtain ⟨w_GraphicSet_JIS_X_0201_ROMAN, ev_w_GraphicSet_JIS_X_0201_ROMAN⟩ := exa_v n3
  have S_GraphicSet_JIS_X_0201_ROMAN : Sta s s.heap "com/example/pipewright/pipewright/io/Iso2022Layout$GraphicSet" "JIS_X_0201_ROMAN" "Lcom/example/pipewright/pipewright/io/Iso2022Layout$GraphicSet;" (.ref w_GraphicSet_JIS_X_0201_ROMAN) := Sta.start ev_w_GraphicSet_JIS_X_0201_ROMAN (Or.inr ⟨(hw _ (List.mem_of_getElem? (i := 5) rfl)), (hw _ (List.mem_of_getElem? (i := 12) rfl))⟩)
  have E_w_GraphicSet_JIS_X_0201_ROMAN : Exa s s.heap w_GraphicSet_JIS_X_0201_ROMAN "com/example/pipewright/pipewright/io/Iso2022Layout$GraphicSet" := Exa.start ev_w_GraphicSet_JIS_X_0201_ROMAN n3
  obtain ⟨w_GraphicSet_JIS_X_0208, ev_w_GraphicSet_JIS_X_0208⟩ := exa_v n4
  have S_GraphicSet_JIS_X_0208 : Sta s s.heap "com/example/pipewright/pipewright/io/Iso2022Layout$GraphicSet" "JIS_X_0208" "Lcom/example/pipewright/pipewright/io/Iso2022Layout$GraphicSet;" (.ref w_GraphicSet_JIS_X_0208) := Sta.start ev_w_GraphicSet_JIS_X_0208 (Or.inr ⟨(hw _ (List.mem_of_getElem? (i := 5) rfl)), (hw _ (List.mem_of_getElem? (i := 43) rfl))⟩)
  have E_w_GraphicSet_JIS_X_0208 : Exa s s.heap w_GraphicSet_JIS_X_0208 "com/example/pipewright/pipewright/io/Iso2022Layout$GraphicSet" := Exa.start ev_w_GraphicSet_JIS_X_0208 n4
  obtain ⟨w_GraphicSet_CNS_11643_3, ev_w_GraphicSet_CNS_11643_3⟩ := exa_v n5
  have S_GraphicSet_CNS_11643_3 : Sta s s.heap "com/example/pipewright/pipewright/io/Iso2022Layout$GraphicSet" "CNS_11643_3" "Lcom/example/pipewright/pipewright/io/Iso2022Layout$GraphicSet;" (.ref w_GraphicSet_CNS_11643_3) := Sta.start ev_w_GraphicSet_CNS_11643_3 (Or.inr ⟨(hw _ (List.mem_of_getElem? (i := 5) rfl)), (hw _ (List.mem_of_getElem? (i := 45) rfl))⟩)
  have E_w_GraphicSet_CNS_11643_3 : Exa s s.heap w_GraphicSet_CNS_11643_3 "com/example/pipewright/pipewright/io/Iso2022Layout$GraphicSet" := Exa.start ev_w_GraphicSet_CNS_11643_3 n5
  obtain ⟨w_GraphicSet_UNREAD_TWO_BYTES, ev_w_GraphicSet_UNREAD_TWO_BYTES⟩ := exa_v n6
  have S_GraphicSet_UNREAD_TWO_BYTES : Sta s s.heap "com/example/pipewright/pipewright/io/Iso2022Layout$GraphicSet" "UNREAD_TWO_BYTES" "Lcom/example/pipewright/pipewright/io/Iso2022Layout$GraphicSet;" (.ref w_GraphicSet_UNREAD_TWO_BYTES) := Sta.start ev_w_GraphicSet_UNREAD_TWO_BYTES (Or.inr ⟨(hw _ (List.mem_of_getElem? (i := 5) rfl)), (hw _ (List.mem_of_getElem? (i := 47) rfl))⟩)
  have E_w_GraphicSet_UNREAD_TWO_BYTES : Exa s s.heap w_GraphicSet_UNREAD_TWO_BYTES "com/example/pipewright/pipewright/io/Iso2022Layout$GraphicSet" := Exa.start ev_w_GraphicSet_UNREAD_TWO_BYTES n6
  obtain ⟨w_GraphicSet_KS_X_1001, ev_w_GraphicSet_KS_X_1001⟩ := exa_v n7
  have S_GraphicSet_KS_X_1001 : Sta s s.heap "com/example/pipewright/pipewright/io/Iso2022Layout$GraphicSet" "KS_X_1001" "Lcom/example/pipewright/pipewright/io/Iso2022Layout$GraphicSet;" (.ref w_GraphicSet_KS_X_1001) := Sta.start ev_w_GraphicSet_KS_X_1001 (Or.inr ⟨(hw _ (List.mem_of_getElem? (i := 5) rfl)), (hw _ (List.mem_of_getElem? (i := 49) rfl))⟩)
  have E_w_GraphicSet_KS_X_1001 : Exa s s.heap w_GraphicSet_KS_X_1001 "com/example/pipewright/pipewright/io/Iso2022Layout$GraphicSet" := Exa.start ev_w_GraphicSet_KS_X_1001 n7
  obtain ⟨w_GraphicSet_CNS_11643_6, ev_w_GraphicSet_CNS_11643_6⟩ := exa_v n8
  have S_GraphicSet_CNS_11643_6 : Sta s s.heap "com/example/pipewright/pipewright/io/Iso2022Layout$GraphicSet" "CNS_11643_6" "Lcom/example/pipewright/pipewright/io/Iso2022Layout$GraphicSet;" (.ref w_GraphicSet_CNS_11643_6) := Sta.start ev_w_GraphicSet_CNS_11643_6 (Or.inr ⟨(hw _ (List.mem_of_getElem? (i := 5) rfl)), (hw _ (List.mem_of_getElem? (i := 51) rfl))⟩)
  have E_w_GraphicSet_CNS_11643_6 : Exa s s.heap w_GraphicSet_CNS_11643_6 "com/example/pipewright/pipewright/io/Iso2022Layout$GraphicSet" := Exa.start ev_w_GraphicSet_CNS_11643_6 n8
  obtain ⟨w_GraphicSet_CNS_11643_2, ev_w_GraphicSet_CNS_11643_2⟩ := exa_v n9
  have S_GraphicSet_CNS_11643_2 : Sta s s.heap "com/example/pipewright/pipewright/io/Iso2022Layout$GraphicSet" "CNS_11643_2" "Lcom/example/pipewright/pipewright/io/Iso2022Layout$GraphicSet;" (.ref w_GraphicSet_CNS_11643_2) := Sta.start ev_w_GraphicSet_CNS_11643_2 (Or.inr ⟨(hw _ (List.mem_of_getElem? (i := 5) rfl)), (hw _ (List.mem_of_getElem? (i := 53) rfl))⟩)
  have E_w_GraphicSet_CNS_11643_2 : Exa s s.heap w_GraphicSet_CNS_11643_2 "com/example/pipewright/pipewright/io/Iso2022Layout$GraphicSet" := Exa.start ev_w_GraphicSet_CNS_11643_2 n9
  obtain ⟨w_GraphicSet_CNS_11643_5, ev_w_GraphicSet_CNS_11643_5⟩ := exa_v n10
  have S_GraphicSet_CNS_11643_5 : Sta s s.heap "com/example/pipewright/pipewright/io/Iso2022Layout$GraphicSet" "CNS_11643_5" "Lcom/example/pipewright/pipewright/io/Iso2022Layout$GraphicSet;" (.ref w_GraphicSet_CNS_11643_5) := Sta.start ev_w_GraphicSet_CNS_11643_5 (Or.inr ⟨(hw _ (List.mem_of_getElem? (i := 5) rfl)), (hw _ (List.mem_of_getElem? (i := 55) rfl))⟩)
  have E_w_GraphicSet_CNS_11643_5 : Exa s s.heap w_GraphicSet_CNS_11643_5 "com/example/pipewright/pipewright/io/Iso2022Layout$GraphicSet" := Exa.start ev_w_GraphicSet_CNS_11643_5 n10
  obtain ⟨w_GraphicSet_CNS_11643_1, ev_w_GraphicSet_CNS_11643_1⟩ := exa_v n11
  have S_GraphicSet_CNS_11643_1 : Sta s s.heap "com/example/pipewright/pipewright/io/Iso2022Layout$GraphicSet" "CNS_11643_1" "Lcom/example/pipewright/pipewright/io/Iso2022Layout$GraphicSet;" (.ref w_GraphicSet_CNS_11643_1) := Sta.start ev_w_GraphicSet_CNS_11643_1 (Or.inr ⟨(hw _ (List.mem_of_getElem? (i := 5) rfl)), (hw _ (List.mem_of_getElem? (i := 57) rfl))⟩)
  have E_w_GraphicSet_CNS_11643_1 : Exa s s.heap w_GraphicSet_CNS_11643_1 "com/example/pipewright/pipewright/io/Iso2022Layout$GraphicSet" := Exa.start ev_w_GraphicSet_CNS_11643_1 n11
  obtain ⟨w_GraphicSet_CNS_11643_4, ev_w_GraphicSet_CNS_11643_4⟩ := exa_v n12
  have S_GraphicSet_CNS_11643_4 : Sta s s.heap "com/example/pipewright/pipewright/io/Iso2022Layout$GraphicSet" "CNS_11643_4" "Lcom/example/pipewright/pipewright/io/Iso2022Layout$GraphicSet;" (.ref w_GraphicSet_CNS_11643_4) := Sta.start ev_w_GraphicSet_CNS_11643_4 (Or.inr ⟨(hw _ (List.mem_of_getElem? (i := 5) rfl)), (hw _ (List.mem_of_getElem? (i := 59) rfl))⟩)
  have E_w_GraphicSet_CNS_11643_4 : Exa s s.heap w_GraphicSet_CNS_11643_4 "com/example/pipewright/pipewright/io/Iso2022Layout$GraphicSet" := Exa.start ev_w_GraphicSet_CNS_11643_4 n12
  obtain ⟨w_GraphicSet_JIS_X_0212, ev_w_GraphicSet_JIS_X_0212⟩ := exa_v n13
  have S_GraphicSet_JIS_X_0212 : Sta s s.heap "com/example/pipewright/pipewright/io/Iso2022Layout$GraphicSet" "JIS_X_0212" "Lcom/example/pipewright/pipewright/io/Iso2022Layout$GraphicSet;" (.ref w_GraphicSet_JIS_X_0212) := Sta.start ev_w_GraphicSet_JIS_X_0212 (Or.inr ⟨(hw _ (List.mem_of_getElem? (i := 5) rfl)), (hw _ (List.mem_of_getElem? (i := 61) rfl))⟩)
  have E_w_GraphicSet_JIS_X_0212 : Exa s s.heap w_GraphicSet_JIS_X_0212 "com/example/pipewright/pipewright/io/Iso2022Layout$GraphicSet" := Exa.start ev_w_GraphicSet_JIS_X_0212 n13
  obtain ⟨w_GraphicSet_GB_2312, ev_w_GraphicSet_GB_2312⟩ := exa_v n14
  have S_GraphicSet_GB_2312 : Sta s s.heap "com/example/pipewright/pipewright/io/Iso2022Layout$GraphicSet" "GB_2312" "Lcom/example/pipewright/pipewright/io/Iso2022Layout$GraphicSet;" (.ref w_GraphicSet_GB_2312) := Sta.start ev_w_GraphicSet_GB_2312 (Or.inr ⟨(hw _ (List.mem_of_getElem? (i := 5) rfl)), (hw _ (List.mem_of_getElem? (i := 63) rfl))⟩)
  have E_w_GraphicSet_GB_2312 : Exa s s.heap w_GraphicSet_GB_2312 "com/example/pipewright/pipewright/io/Iso2022Layout$GraphicSet" := Exa.start ev_w_GraphicSet_GB_2312 n14
  obtain ⟨w_GraphicSet_CNS_11643_7, ev_w_GraphicSet_CNS_11643_7⟩ := exa_v n14r
  have S_GraphicSet_CNS_11643_7 : Sta s s.heap "com/example/pipewright/pipewright/io/Iso2022Layout$GraphicSet" "CNS_11643_7" "Lcom/example/pipewright/pipewright/io/Iso2022Layout$GraphicSet;" (.ref w_GraphicSet_CNS_11643_7) := Sta.start ev_w_GraphicSet_CNS_11643_7 (Or.inr ⟨(hw _ (List.mem_of_getElem? (i := 5) rfl)), (hw _ (List.mem_of_getElem? (i := 65) rfl))⟩)
  have E_w_GraphicSet_CNS_11643_7 : Exa s s.heap w_GraphicSet_CNS_11643_7 "com/example/pipewright/pipewright/io/Iso2022Layout$GraphicSet" := Exa.start ev_w_GraphicSet_CNS_11643_7 n14r
  obtain ⟨n, o, h1, h2, h3, _, L, rfl, ⟨rfl, N⟩, hq⟩ := rm0 l s _ hw tables_1 p0 p1 p2 p3 p4 p5 w_GraphicSet_ASCII w_GraphicSet_UNREAD_ONE_BYTE w_GraphicSet_JIS_X_0201_KATAKANA w_GraphicSet_JIS_X_0201_ROMAN w_GraphicSet_JIS_X_0208 w_GraphicSet_CNS_11643_3 w_GraphicSet_UNREAD_TWO_BYTES w_GraphicSet_KS_X_1001 w_GraphicSet_CNS_11643_6 w_GraphicSet_CNS_11643_2 w_GraphicSet_CNS_11643_5 w_GraphicSet_CNS_11643_1 w_GraphicSet_CNS_11643_4 w_GraphicSet_JIS_X_0212 w_GraphicSet_GB_2312 w_GraphicSet_CNS_11643_7 s.heap s.heap.size (Nat.le_refl _) S_GraphicSet_ASCII S_GraphicSet_JIS_X_0201_ROMAN S_GraphicSet_JIS_X_0201_KATAKANA S_GraphicSet_UNREAD_ONE_BYTE S_GraphicSet_JIS_X_0208 S_GraphicSet_JIS_X_0212 S_GraphicSet_GB_2312 S_GraphicSet_KS_X_1001 S_GraphicSet_CNS_11643_1 S_GraphicSet_CNS_11643_2 S_GraphicSet_CNS_11643_3 S_GraphicSet_CNS_11643_4 S_GraphicSet_CNS_11643_5 S_GraphicSet_CNS_11643_6 S_GraphicSet_CNS_11643_7 S_GraphicSet_UNREAD_TWO_BYTES p e ha hc hk s m _ below hf ((Spec.applies_iff_loose hf).mp happ).1 ⟨rfl, State.Warmed39.refl s, rfl⟩ trivial
  refine ⟨n, _, h1, h2, h3, hpost _ _ _ _ _ _ ⟨Cond.after_iff.mpr rfl, Cond.after_iff.mpr (eq_i res_at (Term.int_eval (1)) rfl), trivial⟩ ⟨hq.1, hq.2.1, (hq.2.2.sift fun y hy => Or.inr (N y hy)).mono (by decide) (by decide)⟩⟩
theorem main_1_1 : Claimed_1_1 := comes_1 fun _ _ _ _ _ _ h hF => ⟨h.1, hF⟩
theorem main_1_2 : Claimed_1_2 := comes_1 fun _ _ _ _ _ _ h hF => ⟨h.2.1, hF⟩
end Jvm.Pilot.@@N@@
namespace Jvm.Pilot.@@N@@
open Jvm Jvm.ClassFile Sem Op Lib Jvm.Free Jvm.Stand Jvm.Pilot.@@N@@.Jvm.D
/-! MADE BY PROGRAM (witnessworld.py) out of the Statement's table words and the real class files: 14 classes; the members and pool entries that the words name. The judged class is class 1, her method 2. -/
namespace start1
open Jvm.ClassFile
def u (s : String) : CpInfo := .utf8 (stringToUtf16 s)
/-- a pool by its gaps: so many unusable entries, then the entry; so many at the end -/
def gap : Nat → List CpInfo → List CpInfo
  | 0, r => r
  | n + 1, r => .unusable :: gap n r
def poolList (es : List (Nat × CpInfo)) (last : Nat) : List CpInfo := es.foldr (fun e r => gap e.1 (e.2 :: r)) (gap last [])
def pool (es : List (Nat × CpInfo)) (last : Nat) : Array CpInfo := ⟨poolList es last⟩
def fileOf (pool : Array CpInfo) (this : Nat) (attrs : Array Attribute := #[]) (ms : Array MethodInfo := #[]) (fl : Nat := 33) (sup : Nat := 0) (ifs : Array Nat := #[]) (fds : Array FieldInfo := #[]) : ClassFile where
  minorVersion := 0
  majorVersion := 65
  constantPool := pool
  accessFlags := fl
  thisClass := this
  superClass := sup
  interfaces := ifs
  fields := fds
  methods := ms
  attributes := attrs
def plain (name : String) (sup : Option ClassId) : Class where
  name := name
  kind := .ordinary
  loader := none
  accessFlags := 33
  super := sup
  interfaces := #[]
  cf := none
  fields := #[]
  methods := #[]
  instanceTypes := #[]
  staticTypes := #[]
  resolved := #[]
  callSites := []
  init := .initialized
  statics := none
  mirror := none

def pool0 : Array CpInfo := pool [(5, u "<init>"), (0, u "()V"), (1, .class_ 10), (1, u "java/lang/Object")] 113

def k0c0 : Code := { maxStack := 0, maxLocals := 1, code := object_method_1_code, exceptionTable := #[], attributes := #[] }
def k0m0 : Method := { name := "<init>", desc := "()V", sig := { parameters := [], returnType := none }, accessFlags := 1, code := some k0c0 }
/-- java/lang/Object -/
def k0 : Class := { plain "java/lang/Object" none with
  accessFlags := 33
  interfaces := #[]
  cf := some (fileOf pool0 8 #[] #[{ accessFlags := 1, nameIndex := 5, descriptorIndex := 6, attributes := #[] }] 33 0 #[] #[])
  fields := #[]
  methods := #[k0m0]
  instanceTypes := #[]
  staticTypes := #[]
  resolved := Array.replicate 124 none
  statics := none }

def pool1 : Array CpInfo := pool [(2, .class_ 4), (1, u "java/lang/Object"), (0, u "<init>"), (0, u "()V"), (0, .fieldref 8 9), (0, .class_ 10), (0, .nameAndType 11 12), (0, u "com/example/pipewright/pipewright/io/Iso2022Layout$GraphicSet"), (0, u "ASCII"), (0, u "Lcom/example/pipewright/pipewright/io/Iso2022Layout$GraphicSet;"), (0, .fieldref 8 14), (0, .nameAndType 15 12), (0, u "JIS_X_0201_ROMAN"), (0, .fieldref 8 17), (0, .nameAndType 18 12), (0, u "JIS_X_0201_KATAKANA"), (0, .fieldref 8 20), (0, .nameAndType 21 12), (0, u "UNREAD_ONE_BYTE"), (0, .fieldref 8 23), (0, .nameAndType 24 12), (0, u "JIS_X_0208"), (0, .fieldref 8 26), (0, .nameAndType 27 12), (0, u "JIS_X_0212"), (0, .fieldref 8 29), (0, .nameAndType 30 12), (0, u "GB_2312"), (0, .fieldref 8 32), (0, .nameAndType 33 12), (0, u "KS_X_1001"), (0, .fieldref 8 35), (0, .nameAndType 36 12), (0, u "CNS_11643_1"), (0, .fieldref 8 38), (0, .nameAndType 39 12), (0, u "CNS_11643_2"), (0, .fieldref 8 41), (0, .nameAndType 42 12), (0, u "CNS_11643_3"), (0, .fieldref 8 44), (0, .nameAndType 45 12), (0, u "CNS_11643_4"), (0, .fieldref 8 47), (0, .nameAndType 48 12), (0, u "CNS_11643_5"), (0, .fieldref 8 50), (0, .nameAndType 51 12), (0, u "CNS_11643_6"), (0, .fieldref 8 53), (0, .nameAndType 54 12), (0, u "CNS_11643_7"), (0, .fieldref 8 56), (0, .nameAndType 57 12), (0, u "UNREAD_TWO_BYTES"), (0, .methodref 59 60), (0, .class_ 61), (0, .nameAndType 62 63), (0, u "com/example/pipewright/pipewright/io/StateGetPinLaw"), (0, u "pick"), (0, u "(I)Lcom/example/pipewright/pipewright/io/Iso2022Layout$GraphicSet;"), (0, .class_ 65), (0, u "com/example/pipewright/pipewright/io/Iso2022Layout$State"), (0, .methodref 64 67), (0, .nameAndType 5 68), (0, u "(Lcom/example/pipewright/pipewright/io/Iso2022Layout$GraphicSet;Lcom/example/pipewright/pipewright/io/Iso2022Layout$GraphicSet;Lcom/example/pipewright/pipewright/io/Iso2022Layout$GraphicSet;Lcom/example/pipewright/pipewright/io/Iso2022Layout$GraphicSet;Z)V"), (0, .methodref 64 70), (0, .nameAndType 71 63), (0, u "get"), (3, u "law"), (0, u "(IIIIII)Z")] 7

def k1m0 : Method := { name := "<init>", desc := "()V", sig := { parameters := [], returnType := none }, accessFlags := 1, code := none }
def k1c1 : Code := { maxStack := 2, maxLocals := 2, code := method_2_code, exceptionTable := #[], attributes := #[] }
def k1m1 : Method := { name := "pick", desc := "(I)Lcom/example/pipewright/pipewright/io/Iso2022Layout$GraphicSet;", sig := { parameters := [.int], returnType := some (.object "com/example/pipewright/pipewright/io/Iso2022Layout$GraphicSet") }, accessFlags := 10, code := some k1c1 }
def k1c2 : Code := { maxStack := 7, maxLocals := 14, code := code, exceptionTable := #[], attributes := #[] }
def k1m2 : Method := { name := "law", desc := "(IIIIII)Z", sig := { parameters := [.int, .int, .int, .int, .int, .int], returnType := some .boolean }, accessFlags := 9, code := some k1c2 }
/-- com/example/pipewright/pipewright/io/StateGetPinLaw -/
def k1 : Class := { plain "com/example/pipewright/pipewright/io/StateGetPinLaw" (some 0) with
  accessFlags := 49
  interfaces := #[]
  cf := some (fileOf pool1 59 #[] #[{ accessFlags := 1, nameIndex := 5, descriptorIndex := 6, attributes := #[] }, { accessFlags := 10, nameIndex := 62, descriptorIndex := 63, attributes := #[] }, { accessFlags := 9, nameIndex := 75, descriptorIndex := 76, attributes := #[] }] 49 2 #[] #[])
  fields := #[]
  methods := #[k1m0, k1m1, k1m2]
  instanceTypes := #[]
  staticTypes := #[]
  resolved := Array.replicate 84 none
  statics := none }

def pool2 : Array CpInfo := pool [(1, .class_ 2), (0, u "java/lang/constant/Constable"), (0, .class_ 4), (0, u "java/lang/Object")] 6

/-- java/lang/constant/Constable -/
def k2 : Class := { plain "java/lang/constant/Constable" (some 0) with
  accessFlags := 1537
  interfaces := #[]
  cf := some (fileOf pool2 1 #[] #[] 1537 3 #[] #[])
  fields := #[]
  methods := #[]
  instanceTypes := #[]
  staticTypes := #[]
  resolved := Array.replicate 11 none
  statics := none }

def pool3 : Array CpInfo := pool [(1, .class_ 2), (0, u "java/lang/Comparable"), (0, .class_ 4), (0, u "java/lang/Object")] 7

/-- java/lang/Comparable -/
def k3 : Class := { plain "java/lang/Comparable" (some 0) with
  accessFlags := 1537
  interfaces := #[]
  cf := some (fileOf pool3 1 #[] #[] 1537 3 #[] #[])
  fields := #[]
  methods := #[]
  instanceTypes := #[]
  staticTypes := #[]
  resolved := Array.replicate 12 none
  statics := none }

def pool4 : Array CpInfo := pool [(1, .class_ 2), (0, u "java/io/Serializable"), (0, .class_ 4), (0, u "java/lang/Object")] 2

/-- java/io/Serializable -/
def k4 : Class := { plain "java/io/Serializable" (some 0) with
  accessFlags := 1537
  interfaces := #[]
  cf := some (fileOf pool4 1 #[] #[] 1537 3 #[] #[])
  fields := #[]
  methods := #[]
  instanceTypes := #[]
  staticTypes := #[]
  resolved := Array.replicate 7 none
  statics := none }

def pool5 : Array CpInfo := pool [(2, .class_ 4), (1, u "java/lang/Enum"), (0, u "name"), (0, u "Ljava/lang/String;"), (2, u "ordinal"), (0, u "I"), (1, .class_ 14), (1, u "java/lang/Object"), (4, u "hash"), (86, .class_ 108), (1, u "java/lang/Enum$EnumDesc"), (2, .class_ 112), (0, u "java/lang/constant/Constable"), (0, .class_ 114), (0, u "java/lang/Comparable"), (0, .class_ 116), (0, u "java/io/Serializable")] 87

/-- java/lang/Enum -/
def k5 : Class := { plain "java/lang/Enum" (some 0) with
  accessFlags := 1057
  interfaces := #[2, 3, 4]
  cf := some (fileOf pool5 2 #[.nestMembers #[106]] #[] 1057 12 #[111, 113, 115] #[{ accessFlags := 18, nameIndex := 5, descriptorIndex := 6, attributes := #[] }, { accessFlags := 18, nameIndex := 9, descriptorIndex := 10, attributes := #[] }, { accessFlags := 2, nameIndex := 19, descriptorIndex := 10, attributes := #[] }])
  fields := #[{ name := "name", type := (.object "java/lang/String"), accessFlags := 18, slot := 0, constantValue := 0 }, { name := "ordinal", type := .int, accessFlags := 18, slot := 1, constantValue := 0 }, { name := "hash", type := .int, accessFlags := 2, slot := 2, constantValue := 0 }]
  methods := #[]
  instanceTypes := #[(.object "java/lang/String"), .int, .int]
  staticTypes := #[]
  resolved := Array.replicate 204 none
  statics := none }

def pool6 : Array CpInfo := pool [(1, .class_ 2), (0, u "com/example/pipewright/pipewright/io/Iso2022Layout"), (0, .class_ 4), (0, u "com/example/pipewright/pipewright/io/Iso2022Layout$GraphicSet"), (2, u "ASCII"), (0, u "Lcom/example/pipewright/pipewright/io/Iso2022Layout$GraphicSet;"), (2, u "JIS_X_0201_ROMAN"), (2, u "JIS_X_0201_KATAKANA"), (2, u "UNREAD_ONE_BYTE"), (2, u "JIS_X_0208"), (2, u "JIS_X_0212"), (2, u "GB_2312"), (2, u "KS_X_1001"), (2, u "CNS_11643_1"), (2, u "CNS_11643_2"), (2, u "CNS_11643_3"), (2, u "CNS_11643_4"), (2, u "CNS_11643_5"), (2, u "CNS_11643_6"), (2, u "CNS_11643_7"), (2, u "UNREAD_TWO_BYTES"), (2, u "$VALUES"), (0, u "[Lcom/example/pipewright/pipewright/io/Iso2022Layout$GraphicSet;"), (6, .class_ 66), (1, u "java/lang/Enum"), (8, u "width"), (0, u "I"), (2, u "eucCharset"), (0, u "Ljava/lang/String;"), (2, u "eucPrefix"), (0, u "[I"), (8, u "codePoints"), (6, u "held"), (109, u "SIDE")] 26

/-- com/example/pipewright/pipewright/io/Iso2022Layout$GraphicSet -/
def k6 : Class := { plain "com/example/pipewright/pipewright/io/Iso2022Layout$GraphicSet" (some 5) with
  accessFlags := 16432
  interfaces := #[]
  cf := some (fileOf pool6 3 #[.nestHost 1] #[] 16432 64 #[] #[{ accessFlags := 16409, nameIndex := 7, descriptorIndex := 8, attributes := #[] }, { accessFlags := 16409, nameIndex := 11, descriptorIndex := 8, attributes := #[] }, { accessFlags := 16409, nameIndex := 14, descriptorIndex := 8, attributes := #[] }, { accessFlags := 16409, nameIndex := 17, descriptorIndex := 8, attributes := #[] }, { accessFlags := 16409, nameIndex := 20, descriptorIndex := 8, attributes := #[] }, { accessFlags := 16409, nameIndex := 23, descriptorIndex := 8, attributes := #[] }, { accessFlags := 16409, nameIndex := 26, descriptorIndex := 8, attributes := #[] }, { accessFlags := 16409, nameIndex := 29, descriptorIndex := 8, attributes := #[] }, { accessFlags := 16409, nameIndex := 32, descriptorIndex := 8, attributes := #[] }, { accessFlags := 16409, nameIndex := 35, descriptorIndex := 8, attributes := #[] }, { accessFlags := 16409, nameIndex := 38, descriptorIndex := 8, attributes := #[] }, { accessFlags := 16409, nameIndex := 41, descriptorIndex := 8, attributes := #[] }, { accessFlags := 16409, nameIndex := 44, descriptorIndex := 8, attributes := #[] }, { accessFlags := 16409, nameIndex := 47, descriptorIndex := 8, attributes := #[] }, { accessFlags := 16409, nameIndex := 50, descriptorIndex := 8, attributes := #[] }, { accessFlags := 16409, nameIndex := 53, descriptorIndex := 8, attributes := #[] }, { accessFlags := 26, nameIndex := 210, descriptorIndex := 76, attributes := #[] }, { accessFlags := 18, nameIndex := 75, descriptorIndex := 76, attributes := #[] }, { accessFlags := 18, nameIndex := 79, descriptorIndex := 80, attributes := #[] }, { accessFlags := 18, nameIndex := 83, descriptorIndex := 84, attributes := #[] }, { accessFlags := 66, nameIndex := 93, descriptorIndex := 84, attributes := #[] }, { accessFlags := 66, nameIndex := 100, descriptorIndex := 84, attributes := #[] }, { accessFlags := 4122, nameIndex := 56, descriptorIndex := 57, attributes := #[] }])
  fields := #[{ name := "ASCII", type := (.object "com/example/pipewright/pipewright/io/Iso2022Layout$GraphicSet"), accessFlags := 16409, slot := 0, constantValue := 0 }, { name := "JIS_X_0201_ROMAN", type := (.object "com/example/pipewright/pipewright/io/Iso2022Layout$GraphicSet"), accessFlags := 16409, slot := 1, constantValue := 0 }, { name := "JIS_X_0201_KATAKANA", type := (.object "com/example/pipewright/pipewright/io/Iso2022Layout$GraphicSet"), accessFlags := 16409, slot := 2, constantValue := 0 }, { name := "UNREAD_ONE_BYTE", type := (.object "com/example/pipewright/pipewright/io/Iso2022Layout$GraphicSet"), accessFlags := 16409, slot := 3, constantValue := 0 }, { name := "JIS_X_0208", type := (.object "com/example/pipewright/pipewright/io/Iso2022Layout$GraphicSet"), accessFlags := 16409, slot := 4, constantValue := 0 }, { name := "JIS_X_0212", type := (.object "com/example/pipewright/pipewright/io/Iso2022Layout$GraphicSet"), accessFlags := 16409, slot := 5, constantValue := 0 }, { name := "GB_2312", type := (.object "com/example/pipewright/pipewright/io/Iso2022Layout$GraphicSet"), accessFlags := 16409, slot := 6, constantValue := 0 }, { name := "KS_X_1001", type := (.object "com/example/pipewright/pipewright/io/Iso2022Layout$GraphicSet"), accessFlags := 16409, slot := 7, constantValue := 0 }, { name := "CNS_11643_1", type := (.object "com/example/pipewright/pipewright/io/Iso2022Layout$GraphicSet"), accessFlags := 16409, slot := 8, constantValue := 0 }, { name := "CNS_11643_2", type := (.object "com/example/pipewright/pipewright/io/Iso2022Layout$GraphicSet"), accessFlags := 16409, slot := 9, constantValue := 0 }, { name := "CNS_11643_3", type := (.object "com/example/pipewright/pipewright/io/Iso2022Layout$GraphicSet"), accessFlags := 16409, slot := 10, constantValue := 0 }, { name := "CNS_11643_4", type := (.object "com/example/pipewright/pipewright/io/Iso2022Layout$GraphicSet"), accessFlags := 16409, slot := 11, constantValue := 0 }, { name := "CNS_11643_5", type := (.object "com/example/pipewright/pipewright/io/Iso2022Layout$GraphicSet"), accessFlags := 16409, slot := 12, constantValue := 0 }, { name := "CNS_11643_6", type := (.object "com/example/pipewright/pipewright/io/Iso2022Layout$GraphicSet"), accessFlags := 16409, slot := 13, constantValue := 0 }, { name := "CNS_11643_7", type := (.object "com/example/pipewright/pipewright/io/Iso2022Layout$GraphicSet"), accessFlags := 16409, slot := 14, constantValue := 0 }, { name := "UNREAD_TWO_BYTES", type := (.object "com/example/pipewright/pipewright/io/Iso2022Layout$GraphicSet"), accessFlags := 16409, slot := 15, constantValue := 0 }, { name := "SIDE", type := .int, accessFlags := 26, slot := 16, constantValue := 0 }, { name := "width", type := .int, accessFlags := 18, slot := 3, constantValue := 0 }, { name := "eucCharset", type := (.object "java/lang/String"), accessFlags := 18, slot := 4, constantValue := 0 }, { name := "eucPrefix", type := (.array .int), accessFlags := 18, slot := 5, constantValue := 0 }, { name := "codePoints", type := (.array .int), accessFlags := 66, slot := 6, constantValue := 0 }, { name := "held", type := (.array .int), accessFlags := 66, slot := 7, constantValue := 0 }, { name := "$VALUES", type := (.array (.object "com/example/pipewright/pipewright/io/Iso2022Layout$GraphicSet")), accessFlags := 4122, slot := 17, constantValue := 0 }]
  methods := #[]
  instanceTypes := #[(.object "java/lang/String"), .int, .int, .int, (.object "java/lang/String"), (.array .int), (.array .int), (.array .int)]
  staticTypes := #[(.object "com/example/pipewright/pipewright/io/Iso2022Layout$GraphicSet"), (.object "com/example/pipewright/pipewright/io/Iso2022Layout$GraphicSet"), (.object "com/example/pipewright/pipewright/io/Iso2022Layout$GraphicSet"), (.object "com/example/pipewright/pipewright/io/Iso2022Layout$GraphicSet"), (.object "com/example/pipewright/pipewright/io/Iso2022Layout$GraphicSet"), (.object "com/example/pipewright/pipewright/io/Iso2022Layout$GraphicSet"), (.object "com/example/pipewright/pipewright/io/Iso2022Layout$GraphicSet"), (.object "com/example/pipewright/pipewright/io/Iso2022Layout$GraphicSet"), (.object "com/example/pipewright/pipewright/io/Iso2022Layout$GraphicSet"), (.object "com/example/pipewright/pipewright/io/Iso2022Layout$GraphicSet"), (.object "com/example/pipewright/pipewright/io/Iso2022Layout$GraphicSet"), (.object "com/example/pipewright/pipewright/io/Iso2022Layout$GraphicSet"), (.object "com/example/pipewright/pipewright/io/Iso2022Layout$GraphicSet"), (.object "com/example/pipewright/pipewright/io/Iso2022Layout$GraphicSet"), (.object "com/example/pipewright/pipewright/io/Iso2022Layout$GraphicSet"), (.object "com/example/pipewright/pipewright/io/Iso2022Layout$GraphicSet"), .int, (.array (.object "com/example/pipewright/pipewright/io/Iso2022Layout$GraphicSet"))]
  resolved := Array.replicate 237 none
  statics := some 0 }

def pool7 : Array CpInfo := pool [(1, .methodref 2 3), (0, .class_ 4), (0, .nameAndType 5 6), (0, u "java/lang/Object"), (0, u "<init>"), (0, u "()V"), (0, .class_ 8), (0, u "java/lang/Record")] 13

def k7c0 : Code := { maxStack := 1, maxLocals := 1, code := jdk_30_method_1_code, exceptionTable := #[], attributes := #[] }
def k7m0 : Method := { name := "<init>", desc := "()V", sig := { parameters := [], returnType := none }, accessFlags := 4, code := some k7c0 }
/-- java/lang/Record -/
def k7 : Class := { plain "java/lang/Record" (some 0) with
  accessFlags := 1057
  interfaces := #[]
  cf := some (fileOf pool7 7 #[] #[{ accessFlags := 4, nameIndex := 5, descriptorIndex := 6, attributes := #[] }] 1057 2 #[] #[])
  fields := #[]
  methods := #[k7m0]
  instanceTypes := #[]
  staticTypes := #[]
  resolved := Array.replicate 22 none
  statics := none }

def pool8 : Array CpInfo := pool [(1, .methodref 2 3), (0, .class_ 4), (0, .nameAndType 5 6), (0, u "java/lang/Record"), (0, u "<init>"), (0, u "()V"), (0, .fieldref 8 9), (0, .class_ 10), (0, .nameAndType 11 12), (0, u "com/example/pipewright/pipewright/io/Iso2022Layout$State"), (0, u "g0"), (0, u "Lcom/example/pipewright/pipewright/io/Iso2022Layout$GraphicSet;"), (0, .fieldref 8 14), (0, .nameAndType 15 12), (0, u "g1"), (0, .fieldref 8 17), (0, .nameAndType 18 12), (0, u "g2"), (0, .fieldref 8 20), (0, .nameAndType 21 12), (0, u "g3"), (0, .fieldref 8 23), (0, .nameAndType 24 25), (0, u "shifted"), (0, u "Z"), (2, u "(Lcom/example/pipewright/pipewright/io/Iso2022Layout$GraphicSet;Lcom/example/pipewright/pipewright/io/Iso2022Layout$GraphicSet;Lcom/example/pipewright/pipewright/io/Iso2022Layout$GraphicSet;Lcom/example/pipewright/pipewright/io/Iso2022Layout$GraphicSet;Z)V"), (25, u "JIS_X_0201"), (0, u "Lcom/example/pipewright/pipewright/io/Iso2022Layout$State;"), (11, u "EUC_JP"), (5, u "EUC_KR"), (8, u "CNS_11643"), (3, u "get"), (0, u "(I)Lcom/example/pipewright/pipewright/io/Iso2022Layout$GraphicSet;"), (14, .class_ 103), (0, u "com/example/pipewright/pipewright/io/Iso2022Layout")] 24

def k8c0 : Code := { maxStack := 2, maxLocals := 6, code := prog_25_method_2_code, exceptionTable := #[], attributes := #[] }
def k8m0 : Method := { name := "<init>", desc := "(Lcom/example/pipewright/pipewright/io/Iso2022Layout$GraphicSet;Lcom/example/pipewright/pipewright/io/Iso2022Layout$GraphicSet;Lcom/example/pipewright/pipewright/io/Iso2022Layout$GraphicSet;Lcom/example/pipewright/pipewright/io/Iso2022Layout$GraphicSet;Z)V", sig := { parameters := [(.object "com/example/pipewright/pipewright/io/Iso2022Layout$GraphicSet"), (.object "com/example/pipewright/pipewright/io/Iso2022Layout$GraphicSet"), (.object "com/example/pipewright/pipewright/io/Iso2022Layout$GraphicSet"), (.object "com/example/pipewright/pipewright/io/Iso2022Layout$GraphicSet"), .boolean], returnType := none }, accessFlags := 0, code := some k8c0 }
def k8c1 : Code := { maxStack := 1, maxLocals := 2, code := prog_25_method_3_code, exceptionTable := #[], attributes := #[] }
def k8m1 : Method := { name := "get", desc := "(I)Lcom/example/pipewright/pipewright/io/Iso2022Layout$GraphicSet;", sig := { parameters := [.int], returnType := some (.object "com/example/pipewright/pipewright/io/Iso2022Layout$GraphicSet") }, accessFlags := 0, code := some k8c1 }
/-- com/example/pipewright/pipewright/io/Iso2022Layout$State -/
def k8 : Class := { plain "com/example/pipewright/pipewright/io/Iso2022Layout$State" (some 7) with
  accessFlags := 48
  interfaces := #[]
  cf := some (fileOf pool8 8 #[.nestHost 102] #[{ accessFlags := 0, nameIndex := 5, descriptorIndex := 28, attributes := #[] }, { accessFlags := 0, nameIndex := 86, descriptorIndex := 87, attributes := #[] }] 48 2 #[] #[{ accessFlags := 18, nameIndex := 11, descriptorIndex := 12, attributes := #[] }, { accessFlags := 18, nameIndex := 15, descriptorIndex := 12, attributes := #[] }, { accessFlags := 18, nameIndex := 18, descriptorIndex := 12, attributes := #[] }, { accessFlags := 18, nameIndex := 21, descriptorIndex := 12, attributes := #[] }, { accessFlags := 18, nameIndex := 24, descriptorIndex := 25, attributes := #[] }, { accessFlags := 24, nameIndex := 54, descriptorIndex := 55, attributes := #[] }, { accessFlags := 24, nameIndex := 67, descriptorIndex := 55, attributes := #[] }, { accessFlags := 24, nameIndex := 73, descriptorIndex := 55, attributes := #[] }, { accessFlags := 24, nameIndex := 82, descriptorIndex := 55, attributes := #[] }])
  fields := #[{ name := "g0", type := (.object "com/example/pipewright/pipewright/io/Iso2022Layout$GraphicSet"), accessFlags := 18, slot := 0, constantValue := 0 }, { name := "g1", type := (.object "com/example/pipewright/pipewright/io/Iso2022Layout$GraphicSet"), accessFlags := 18, slot := 1, constantValue := 0 }, { name := "g2", type := (.object "com/example/pipewright/pipewright/io/Iso2022Layout$GraphicSet"), accessFlags := 18, slot := 2, constantValue := 0 }, { name := "g3", type := (.object "com/example/pipewright/pipewright/io/Iso2022Layout$GraphicSet"), accessFlags := 18, slot := 3, constantValue := 0 }, { name := "shifted", type := .boolean, accessFlags := 18, slot := 4, constantValue := 0 }, { name := "JIS_X_0201", type := (.object "com/example/pipewright/pipewright/io/Iso2022Layout$State"), accessFlags := 24, slot := 0, constantValue := 0 }, { name := "EUC_JP", type := (.object "com/example/pipewright/pipewright/io/Iso2022Layout$State"), accessFlags := 24, slot := 1, constantValue := 0 }, { name := "EUC_KR", type := (.object "com/example/pipewright/pipewright/io/Iso2022Layout$State"), accessFlags := 24, slot := 2, constantValue := 0 }, { name := "CNS_11643", type := (.object "com/example/pipewright/pipewright/io/Iso2022Layout$State"), accessFlags := 24, slot := 3, constantValue := 0 }]
  methods := #[k8m0, k8m1]
  instanceTypes := #[(.object "com/example/pipewright/pipewright/io/Iso2022Layout$GraphicSet"), (.object "com/example/pipewright/pipewright/io/Iso2022Layout$GraphicSet"), (.object "com/example/pipewright/pipewright/io/Iso2022Layout$GraphicSet"), (.object "com/example/pipewright/pipewright/io/Iso2022Layout$GraphicSet"), .boolean]
  staticTypes := #[(.object "com/example/pipewright/pipewright/io/Iso2022Layout$State"), (.object "com/example/pipewright/pipewright/io/Iso2022Layout$State"), (.object "com/example/pipewright/pipewright/io/Iso2022Layout$State"), (.object "com/example/pipewright/pipewright/io/Iso2022Layout$State")]
  resolved := Array.replicate 128 none
  statics := none }

def pool9 : Array CpInfo := pool [(1, u "java/lang/Cloneable"), (0, .class_ 1), (0, u "java/lang/Object"), (0, .class_ 3)] 3

/-- java/lang/Cloneable -/
def k9 : Class := { plain "java/lang/Cloneable" (some 0) with
  accessFlags := 1537
  interfaces := #[]
  cf := some (fileOf pool9 2 #[] #[] 1537 4 #[] #[])
  fields := #[]
  methods := #[]
  instanceTypes := #[]
  staticTypes := #[]
  resolved := Array.replicate 8 none
  statics := none }

/-- the primitive byte -/
def k10 : Class := { plain "byte" none with kind := .primitive 'B', accessFlags := 0x411 }
/-- [B -/
def k11 : Class := { plain "[B" (some 0) with kind := .array 10 .byte, interfaces := #[9, 4], accessFlags := 1041 }

/-- the primitive int -/
def k12 : Class := { plain "int" none with kind := .primitive 'I', accessFlags := 0x411 }
/-- [I -/
def k13 : Class := { plain "[I" (some 0) with kind := .array 12 .int, interfaces := #[9, 4], accessFlags := 1041 }

def heap : Heap := #[{ cls := 6, slots := #[.ref 1, .ref 4, .ref 3, .ref 2, .ref 5, .ref 14, .ref 15, .ref 8, .ref 12, .ref 10, .ref 6, .ref 13, .ref 11, .ref 9, .ref 16, .ref 7, .int 0, .null], vm := .statics 6 },
  { cls := 6, slots := #[.null, .int 0, .int 0, .int 0, .null, .null, .null, .null], vm := .none },
  { cls := 6, slots := #[.null, .int 0, .int 0, .int 0, .null, .null, .null, .null], vm := .none },
  { cls := 6, slots := #[.null, .int 0, .int 0, .int 0, .null, .null, .null, .null], vm := .none },
  { cls := 6, slots := #[.null, .int 0, .int 0, .int 0, .null, .null, .null, .null], vm := .none },
  { cls := 6, slots := #[.null, .int 0, .int 0, .int 0, .null, .null, .null, .null], vm := .none },
  { cls := 6, slots := #[.null, .int 0, .int 0, .int 0, .null, .null, .null, .null], vm := .none },
  { cls := 6, slots := #[.null, .int 0, .int 0, .int 0, .null, .null, .null, .null], vm := .none },
  { cls := 6, slots := #[.null, .int 0, .int 0, .int 0, .null, .null, .null, .null], vm := .none },
  { cls := 6, slots := #[.null, .int 0, .int 0, .int 0, .null, .null, .null, .null], vm := .none },
  { cls := 6, slots := #[.null, .int 0, .int 0, .int 0, .null, .null, .null, .null], vm := .none },
  { cls := 6, slots := #[.null, .int 0, .int 0, .int 0, .null, .null, .null, .null], vm := .none },
  { cls := 6, slots := #[.null, .int 0, .int 0, .int 0, .null, .null, .null, .null], vm := .none },
  { cls := 6, slots := #[.null, .int 0, .int 0, .int 0, .null, .null, .null, .null], vm := .none },
  { cls := 6, slots := #[.null, .int 0, .int 0, .int 0, .null, .null, .null, .null], vm := .none },
  { cls := 6, slots := #[.null, .int 0, .int 0, .int 0, .null, .null, .null, .null], vm := .none },
  { cls := 6, slots := #[.null, .int 0, .int 0, .int 0, .null, .null, .null, .null], vm := .none }]
def classes : Array Class := #[k0, k1, k2, k3, k4, k5, k6, k7, k8, k9, k10, k11, k12, k13]
def interned : List (Array UInt16 × Addr) := []
def slotsUsed : Nat := 146
def theMethod : MethodId := ⟨1, 2⟩
def args0 : Array Value := #[.int 5, .int 9, .int 9, .int 9, .int 9, .int 9]
def aboutOver (below : List Frame) : State where
  vm := { classes := classes, interned := interned.toArray }
  heap := heap
  slotsUsed := slotsUsed
  threads := #[{ frames := .invoking theMethod args0 :: below }]
def below0 : List Frame := [.native { method := ⟨0, 0⟩, args := #[] }]
def about1 : State := aboutOver below0
def p0 : Program := .bare "" "" ""
def e0 : Env := launch0.env 0 0 0
theorem w_frames : about1.frames = Frame.invoking theMethod args0 :: below0 := rfl
set_option maxRecDepth 65536 in
theorem w_args : argsFit about1.vm theMethod args0 = true := by decide +kernel
set_option maxRecDepth 65536 in
theorem w_heap : heapFits about1 = true := by decide +kernel
set_option maxRecDepth 65536 in
theorem w_runnable : about1.curStatus? = some .runnable := by decide +kernel
set_option maxRecDepth 65536 in
theorem w_alone : about1.alone = true := by decide +kernel
set_option maxRecDepth 65536 in
theorem w_named : about1.methodNamed? x = some theMethod := by decide +kernel
set_option maxRecDepth 65536 in
theorem w_hears : about1.hears theMethod below0 = true := by decide +kernel
set_option maxRecDepth 65536 in
theorem w_ripe : about1.ripe theMethod args0 below0 = true := by decide +kernel
theorem w_running : about1.status = .running := rfl
set_option maxRecDepth 65536 in
theorem w_room : about1.hasRoom e0.platform room_1 = true :=
  launch0.hasRoom_least _ room_1 (by decide +kernel) (by decide +kernel) (by decide +kernel) (by decide +kernel) (by decide +kernel) (by decide +kernel)
theorem allAtoms_all (ts : List Jvm.Cond) (a : Array Jvm.Value) (st : Jvm.State) : (allAtoms ts).before a st = ts.all (fun c => c.before a st) := by
  induction ts with
  | nil => rfl
  | cons c t ih =>
    show (Jvm.Cond.and c (allAtoms t)).before a st = _
    rw [Jvm.Cond.before_and, ih, List.all_cons]
def words1 : List Jvm.Cond := Jvm.Cond.code x code maxLocals ret :: tables_1
/-- a 'code' word, met by the world's own term for the bytes: nothing is compared byte by byte -/
theorem code_word {y : MethodName} {bytes : ByteArray} {mx : Nat} {rt : Option FieldType} {a : Array Value} {s : State} {m : MethodId} {meth : Method} {c : Code} (h1 : s.methodNamed? y = some m) (h2 : s.vm.method? m = some meth) (h3 : meth.code = some c) (h4 : c.code = bytes)
    (h5 : (c.maxLocals == mx && c.exceptionTable.isEmpty && decide (c.maxStack ≤ mostOperands) && decide (meth.sig.returnType = rt) && !meth.locks && decide (parseMethodDescriptor y.desc = some meth.sig)) = true) : (Jvm.Cond.code y bytes mx rt).before a s = true := by
  simp only [Bool.and_eq_true, beq_iff_eq, Bool.not_eq_true', decide_eq_true_eq] at h5
  obtain ⟨⟨⟨⟨⟨g1, g2⟩, g3⟩, g4⟩, g5⟩, g6⟩ := h5
  simp [Cond.before, Cond.holds, Cond.value, h1, h2, h3, h4, g1, g2, g3, g4, g5, g6]
def isCode : Jvm.Cond → Bool
  | .code _ _ _ _ => true
  | _ => false
theorem all_split {L : List Jvm.Cond} {P : Jvm.Cond → Bool} (h1 : L.all (fun c => isCode c || P c) = true) (h2 : ∀ c ∈ L.filter isCode, P c = true) : L.all P = true := by
  refine List.all_eq_true.mpr fun c hc => ?_
  have h := List.all_eq_true.mp h1 c hc
  rcases Bool.eq_false_or_eq_true (isCode c) with hi | hi
  · exact h2 c (List.mem_filter.mpr ⟨hc, hi⟩)
  · simpa [hi] using h
set_option maxRecDepth 65536 in
theorem w_c0 : (Jvm.Cond.code x code maxLocals ret).before args0 about1 = true := code_word (m := ⟨1, 2⟩) (meth := k1m2) (c := k1c2) (by decide +kernel) rfl rfl rfl (by decide +kernel)
set_option maxRecDepth 65536 in
theorem w_c1 : (Jvm.Cond.code ({ cls := "com/example/pipewright/pipewright/io/StateGetPinLaw", name := "pick", desc := "(I)Lcom/example/pipewright/pipewright/io/Iso2022Layout$GraphicSet;" } : Jvm.MethodName) method_2_code (2 : Nat) (Option.some (Jvm.ClassFile.FieldType.object "com/example/pipewright/pipewright/io/Iso2022Layout$GraphicSet"))).before args0 about1 = true := code_word (m := ⟨1, 1⟩) (meth := k1m1) (c := k1c1) (by decide +kernel) rfl rfl rfl (by decide +kernel)
set_option maxRecDepth 65536 in
theorem w_c2 : (Jvm.Cond.code ({ cls := "com/example/pipewright/pipewright/io/Iso2022Layout$State", name := "<init>", desc := "(Lcom/example/pipewright/pipewright/io/Iso2022Layout$GraphicSet;Lcom/example/pipewright/pipewright/io/Iso2022Layout$GraphicSet;Lcom/example/pipewright/pipewright/io/Iso2022Layout$GraphicSet;Lcom/example/pipewright/pipewright/io/Iso2022Layout$GraphicSet;Z)V" } : Jvm.MethodName) prog_25_method_2_code (6 : Nat) (Option.none : Option Jvm.ClassFile.FieldType)).before args0 about1 = true := code_word (m := ⟨8, 0⟩) (meth := k8m0) (c := k8c0) (by decide +kernel) rfl rfl rfl (by decide +kernel)
set_option maxRecDepth 65536 in
theorem w_c3 : (Jvm.Cond.code ({ cls := "java/lang/Record", name := "<init>", desc := "()V" } : Jvm.MethodName) jdk_30_method_1_code (1 : Nat) (Option.none : Option Jvm.ClassFile.FieldType)).before args0 about1 = true := code_word (m := ⟨7, 0⟩) (meth := k7m0) (c := k7c0) (by decide +kernel) rfl rfl rfl (by decide +kernel)
set_option maxRecDepth 65536 in
theorem w_c4 : (Jvm.Cond.code ({ cls := "java/lang/Object", name := "<init>", desc := "()V" } : Jvm.MethodName) object_method_1_code (1 : Nat) (Option.none : Option Jvm.ClassFile.FieldType)).before args0 about1 = true := code_word (m := ⟨0, 0⟩) (meth := k0m0) (c := k0c0) (by decide +kernel) rfl rfl rfl (by decide +kernel)
set_option maxRecDepth 65536 in
theorem w_c5 : (Jvm.Cond.code ({ cls := "com/example/pipewright/pipewright/io/Iso2022Layout$State", name := "get", desc := "(I)Lcom/example/pipewright/pipewright/io/Iso2022Layout$GraphicSet;" } : Jvm.MethodName) prog_25_method_3_code (2 : Nat) (Option.some (Jvm.ClassFile.FieldType.object "com/example/pipewright/pipewright/io/Iso2022Layout$GraphicSet"))).before args0 about1 = true := code_word (m := ⟨8, 1⟩) (meth := k8m1) (c := k8c1) (by decide +kernel) rfl rfl rfl (by decide +kernel)
def codes1 : List Jvm.Cond := [Jvm.Cond.code x code maxLocals ret, Jvm.Cond.code ({ cls := "com/example/pipewright/pipewright/io/StateGetPinLaw", name := "pick", desc := "(I)Lcom/example/pipewright/pipewright/io/Iso2022Layout$GraphicSet;" } : Jvm.MethodName) method_2_code (2 : Nat) (Option.some (Jvm.ClassFile.FieldType.object "com/example/pipewright/pipewright/io/Iso2022Layout$GraphicSet")), Jvm.Cond.code ({ cls := "com/example/pipewright/pipewright/io/Iso2022Layout$State", name := "<init>", desc := "(Lcom/example/pipewright/pipewright/io/Iso2022Layout$GraphicSet;Lcom/example/pipewright/pipewright/io/Iso2022Layout$GraphicSet;Lcom/example/pipewright/pipewright/io/Iso2022Layout$GraphicSet;Lcom/example/pipewright/pipewright/io/Iso2022Layout$GraphicSet;Z)V" } : Jvm.MethodName) prog_25_method_2_code (6 : Nat) (Option.none : Option Jvm.ClassFile.FieldType), Jvm.Cond.code ({ cls := "java/lang/Record", name := "<init>", desc := "()V" } : Jvm.MethodName) jdk_30_method_1_code (1 : Nat) (Option.none : Option Jvm.ClassFile.FieldType), Jvm.Cond.code ({ cls := "java/lang/Object", name := "<init>", desc := "()V" } : Jvm.MethodName) object_method_1_code (1 : Nat) (Option.none : Option Jvm.ClassFile.FieldType), Jvm.Cond.code ({ cls := "com/example/pipewright/pipewright/io/Iso2022Layout$State", name := "get", desc := "(I)Lcom/example/pipewright/pipewright/io/Iso2022Layout$GraphicSet;" } : Jvm.MethodName) prog_25_method_3_code (2 : Nat) (Option.some (Jvm.ClassFile.FieldType.object "com/example/pipewright/pipewright/io/Iso2022Layout$GraphicSet"))]
set_option maxRecDepth 65536 in
theorem codes_eq : words1.filter isCode = codes1 := rfl
theorem w_codes : ∀ c ∈ words1.filter isCode, c.before args0 about1 = true := by
  rw [codes_eq]
  intro c hc
  simp only [codes1, List.mem_cons, List.not_mem_nil, or_false] at hc
  rcases hc with rfl | rfl | rfl | rfl | rfl | rfl
  · exact w_c0
  · exact w_c1
  · exact w_c2
  · exact w_c3
  · exact w_c4
  · exact w_c5
set_option maxRecDepth 65536 in
theorem w_t1 : (words1.take 24).all (fun c => isCode c || c.before args0 about1) = true := by decide +kernel
set_option maxRecDepth 65536 in
theorem w_t2 : ((words1.drop 24).take 24).all (fun c => isCode c || c.before args0 about1) = true := by decide +kernel
set_option maxRecDepth 65536 in
theorem w_t3 : ((words1.drop 24).drop 24).all (fun c => isCode c || c.before args0 about1) = true := by decide +kernel
theorem w_tables : (allAtoms (Jvm.Cond.code x code maxLocals ret :: tables_1)).before args0 about1 = true := by
  rw [allAtoms_all]
  show words1.all (fun c => c.before args0 about1) = true
  refine all_split ?_ w_codes
  rw [← List.take_append_drop 24 words1, List.all_append, w_t1, ← List.take_append_drop 24 (words1.drop 24), List.all_append, w_t2, w_t3]
  rfl
set_option maxRecDepth 65536 in
theorem w_case : (Jvm.Cond.and given_1 narrow_1).before args0 about1 = true := by decide +kernel
theorem w_applies : (headSpec (Jvm.Cond.code x code maxLocals ret :: tables_1) room_1).applies x e0.platform about1 = true :=
  (Spec.applies_iff w_frames).mpr ⟨w_running, w_runnable, w_alone, w_named, w_hears, w_ripe, w_room, w_tables⟩
theorem atStart : AtStart classFile x code maxLocals ret World_1 tables_1 room_1 Calls_1 rest_1 Pre_1 launch0 p0 e0 about1 theMethod args0 below0 :=
  ⟨lists_1, trivial, launch0.admits_env _ _ _, launch0.least_env, fairChoices_fair.cas, fairChoices_fair.clock, w_frames, w_args, w_heap, w_applies, trivial, trivial, w_case⟩
end start1
theorem witness_1 : WitnessClaimed_1 := ⟨start1.p0, start1.e0, start1.about1, start1.theMethod, start1.args0, start1.below0, start1.atStart⟩
end Jvm.Pilot.@@N@@
