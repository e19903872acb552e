import JvmDerived
import JvmDerived.Pilot.@@N@@Statement
import JvmDerived.Pilot.@@N@@Code
set_option linter.unusedVariables false
set_option linter.unusedSimpArgs false
@@BLOCK:NumsL.lean.txt@@
namespace Jvm.RoadKit
open Sem ClassFile Op Lib Jvm.Stand Jvm.Free Jvm.LawKit
section New
variable {p : Program} {l : Launch} {e : Env} {R : Room} {s : State} {m : MethodId} {args : Array Value} {below : List Frame} {meth : Method} {c : Code} {T : State} {locs : List Loc} {cells slots : Nat}
theorem retI (X : Stand p l e R s m args below meth c T locs cells slots) (hx : p.tables.exec = Jvm.exec) {pc : Nat} {Ls : Array Slot} {z : Int32} {rest : List Value} (hret : meth.sig.returnType = some .int) (hd : decode c.code pc = .ok (.ireturn, 1)) {fs : List Frame}
    (hl : ∀ (f : JFrame) (acts : List Action), f.method = m → f.locked = none → f.entered = [] → (doReturn e (T.setTop f) acts (some (.int z))).1 = T.setFrames fs) : Steps p.tables e below (T.setTop (mkF m pc Ls (.int z :: rest))) (T.setFrames fs) := by
  have hm' : T.vm.method? m = some meth := X.method'
  have hn : narrow .int (.int z) = .int z := rfl
  show Steps p.tables e below (T.setTop { method := m, pc := pc, locals := Ls, stack := _ :: rest, locked := none }) _
  jvm_step X.here [X.here.top, hx, hd, hm', hret, hn]
  first | (intro acts; rw [hl _ acts rfl rfl rfl]) | rw [hl _ _ rfl rfl rfl]
  exact Steps.refl _
theorem own_retA (X : Stand p l e R s m args below meth c T locs cells slots) (hx : p.tables.exec = Jvm.exec) {pc : Nat} {Ls : Array Slot} {t : FieldType} {w : Value} {rest : List Value} (hret : meth.sig.returnType = some t) (ht : t.isReference = true) (hw : w.isRef = true) (hd : decode c.code pc = .ok (.areturn, 1)) {fs : List Frame}
    (hl : ∀ (f : JFrame) (acts : List Action), f.method = m → f.locked = none → f.entered = [] → (doReturn e (T.setTop f) acts (some w)).1 = T.setFrames fs) : Steps p.tables e below (T.setTop (mkF m pc Ls (w :: rest))) (T.setFrames fs) :=
  retOut X hx hret (by cases t <;> simp_all [narrow, FieldType.isReference]) (Or.inr (Or.inr (Or.inr (Or.inr ⟨rfl, ht, hw⟩)))) hd hl
end New
end Jvm.RoadKit
namespace Jvm.Pilot.@@N@@
open Jvm Jvm.ClassFile Sem Op Lib Jvm.Free Jvm.Stand Jvm.LawKit Jvm.RoadKit Bundle Jvm.Pilot.@@N@@.Jvm.D
abbrev own_jv (x : Int64) : Slot := .val (.long x)
/-- a callee that leaves the heap as it was and returns r -/
def own_QP (r : Option Value) (h0 : Heap) (n0 : Nat) (v : Option Value) (h : Heap) (L : List Loc) : Prop := v = r ∧ Fr n0 L ∧ h = h0
def own_QL (n0 : Nat) (v : Option Value) (h : Heap) (L : List Loc) : Prop := v = some (.int 1) ∧ Fr n0 L
theorem own_eqv {args : Array Value} {first s : State} {o : Option Outcome} {idx : List Nat} {a b : Term} {x : Value} (h : (Cond.eq a b).value args first o s idx = some true) (hb : b.eval args first o idx s = some x) (hx : x.isRef = true ∨ ∃ n, x = .int n) : a.eval args first o idx s = some x := by
  cases ha : a.eval args first o idx s with
  | none => simp [Cond.value, ha, hb] at h
  | some y =>
    rcases hx with hx | ⟨n, rfl⟩
    · rcases ref_cases hx with rfl | ⟨z, rfl⟩ <;> cases y <;> simp_all [Cond.value]
    · cases y <;> simp_all [Cond.value]
theorem own_len {Z : State} {args : Array Value} {t : Term} {a : Addr} {cl : Cell} {ty : FieldType} {n : Int32} (ev : t.eval args Z none [] Z = some (.ref a)) (A : Arr Z Z.heap a cl ty) (h : (Term.length t).eval args Z none [] Z = some (.int n)) : cl.slots.size < 2 ^ 31 ∧ cl.slots.size.toInt32 = n := by
  have hA : Z.arrayAt? a = some cl := Arr.fin (U := Z) (Vm.Alike.refl _) A
  by_cases q : cl.slots.size < 2 ^ 31
  · rw [len_f ev hA q] at h
    exact ⟨q, Value.int.inj (Option.some.inj h)⟩
  · simp [Term.eval, ev, hA, q] at h
theorem own_nei {a b : Int32} (h : a ≠ b) : (Value.int a) ≠ (Value.int b) := fun q => h (Value.int.inj q)
theorem own_Sta_keep {Z : State} {h h' : Heap} {C n d : String} {v : Value} {ws : List Addr} (F : Sta Z h C n d v) (K : Keep h h' ws) (q : ∀ a ∈ ws, ∀ c : Cell, h[a]? = some c → c.vm.isStatics = false) : Sta Z h' C n d v := by
  obtain ⟨cf, i, k, f, st, cell, h1, h2, h3, h4, h5, h6, h7⟩ := F
  exact ⟨cf, i, k, f, st, cell, h1, h2, h3, h4, K.2.1 st cell h5 (fun z => by rw [q st z cell h5] at h6; cases h6), h6, h7⟩
theorem own_st0 {h : Heap} : ∀ a ∈ ([] : List Addr), ∀ c : Cell, h[a]? = some c → c.vm.isStatics = false := fun _ q => nomatch q
theorem own_stS {Z : State} {h : Heap} {b : Addr} {C : String} {L : List Addr} (E : Exa Z h b C) (q : ∀ a ∈ L, ∀ c : Cell, h[a]? = some c → c.vm.isStatics = false) : ∀ a ∈ b :: L, ∀ c : Cell, h[a]? = some c → c.vm.isStatics = false := fun a z c hc => by
  rcases List.mem_cons.mp z with rfl | z
  · obtain ⟨cell, _, h1, _, _, h4, _⟩ := E
    cases h1.symm.trans hc; exact h4
  · exact q a z c hc
/-- a callee that leaves the heap as it was and returns a reference or null -/
def own_QR (h0 : Heap) (n0 : Nat) (v : Option Value) (h : Heap) (L : List Loc) : Prop := ∃ u : Value, v = some u ∧ u.isRef = true ∧ Fr n0 L ∧ h = h0
theorem own_weak {l : Launch} {x : MethodName} {S : Spec} {P : Array Value → State → Prop} {K : Program → Env → List Frame → State → Array Value → Prop} {w : Value} {h0 : Heap} {n0 k j : Nat} (hw : w.isRef = true)
    (h : MetFree l x S P K (fun _ U o U' => ∃ v L, o = .returned v ∧ own_QP (some w) h0 n0 v U'.heap L ∧ FrameEnd U o U' L k j)) :
    MetFree l x S P K (fun _ U o U' => ∃ v L, o = .returned v ∧ own_QR h0 n0 v U'.heap L ∧ FrameEnd U o U' L k j) := fun p e a b c s m args below h1 h2 h3 h4 => by
  obtain ⟨n, o, q1, q2, q3, v, L, e1, ⟨e2, e3, e4⟩, e5⟩ := h p e a b c s m args below h1 h2 h3 h4
  exact ⟨n, o, q1, q2, q3, v, L, e1, ⟨w, e2, hw, e3, e4⟩, e5⟩
theorem own_narO {C : String} (v : Value) (h : v.isRef = true) : narrow (.object C) v = v := by rcases ref_cases h with q | ⟨_, q⟩ <;> (subst q; rfl)
theorem own_fitsO {C : String} {v : Value} (h : v.isRef = true) : fits (.object C) v = true := by rcases ref_cases h with q | ⟨_, q⟩ <;> (subst q; rfl)
theorem own_imp {l : Launch} {x : MethodName} {S : Spec} {P : Array Value → State → Prop} {K : Program → Env → List Frame → State → Array Value → Prop} {Q Q' : Option Value → Heap → List Loc → Prop} {k j : Nat}
    (h : MetFree l x S P K (fun _ U o U' => ∃ v L, o = .returned v ∧ Q v U'.heap L ∧ FrameEnd U o U' L k j)) (hq : ∀ v h L, Q v h L → Q' v h L) :
    MetFree l x S P K (fun _ U o U' => ∃ v L, o = .returned v ∧ Q' v U'.heap L ∧ FrameEnd U o U' L k j) := fun p e a b c s m args below h1 h2 h3 h4 => by
  obtain ⟨n, o, q1, q2, q3, v, L, e1, e2, e3⟩ := h p e a b c s m args below h1 h2 h3 h4
  exact ⟨n, o, q1, q2, q3, v, L, e1, hq _ _ _ e2, e3⟩
/-- a callee that writes nothing old and returns the reference (or null) u -/
def own_QV (val : Value) (h0 : Heap) (n0 : Nat) (v : Option Value) (h : Heap) (L : List Loc) : Prop := ∃ u : Value, v = some u ∧ u = val ∧ u.isRef = true ∧ Fr n0 L ∧ Keep h0 h []
theorem own_s1 (p : Int32) : (p &&& (1 : Int32)) = (0 : Int32) ∨ (p &&& (1 : Int32)) = (1 : Int32) := by
  have e := Jvm.Kit.i32_mask p 1 (k := 1) (by decide) (by decide)
  have h : (p &&& (1 : Int32)).toInt = 0 ∨ (p &&& (1 : Int32)).toInt = 1 := by omega
  rcases h with h | h
  · exact Or.inl (Int32.toInt_inj.mp (h.trans (by decide)))
  · exact Or.inr ((Int32.toInt_inj.mp (h.trans (by decide))))
theorem own_s18 (p : Int32) : ((p &&& (2147483647 : Int32)) % (18 : Int32)) = (0 : Int32) ∨ ((p &&& (2147483647 : Int32)) % (18 : Int32)) = (1 : Int32) ∨ ((p &&& (2147483647 : Int32)) % (18 : Int32)) = (2 : Int32) ∨ ((p &&& (2147483647 : Int32)) % (18 : Int32)) = (3 : Int32) ∨ ((p &&& (2147483647 : Int32)) % (18 : Int32)) = (4 : Int32) ∨ ((p &&& (2147483647 : Int32)) % (18 : Int32)) = (5 : Int32) ∨ ((p &&& (2147483647 : Int32)) % (18 : Int32)) = (6 : Int32) ∨ ((p &&& (2147483647 : Int32)) % (18 : Int32)) = (7 : Int32) ∨ ((p &&& (2147483647 : Int32)) % (18 : Int32)) = (8 : Int32) ∨ ((p &&& (2147483647 : Int32)) % (18 : Int32)) = (9 : Int32) ∨ ((p &&& (2147483647 : Int32)) % (18 : Int32)) = (10 : Int32) ∨ ((p &&& (2147483647 : Int32)) % (18 : Int32)) = (11 : Int32) ∨ ((p &&& (2147483647 : Int32)) % (18 : Int32)) = (12 : Int32) ∨ ((p &&& (2147483647 : Int32)) % (18 : Int32)) = (13 : Int32) ∨ ((p &&& (2147483647 : Int32)) % (18 : Int32)) = (14 : Int32) ∨ ((p &&& (2147483647 : Int32)) % (18 : Int32)) = (15 : Int32) ∨ ((p &&& (2147483647 : Int32)) % (18 : Int32)) = (16 : Int32) ∨ ((p &&& (2147483647 : Int32)) % (18 : Int32)) = (17 : Int32) := by
  have e := Jvm.Kit.i32_mask p 2147483647 (k := 31) (by decide) (by decide)
  have q : ((p &&& (2147483647 : Int32)) % (18 : Int32)).toInt = (p &&& (2147483647 : Int32)).toInt.tmod 18 := Int32.toInt_mod _ _
  rw [Int.tmod_eq_emod_of_nonneg (by omega)] at q
  have h : ((p &&& (2147483647 : Int32)) % (18 : Int32)).toInt = 0 ∨ ((p &&& (2147483647 : Int32)) % (18 : Int32)).toInt = 1 ∨ ((p &&& (2147483647 : Int32)) % (18 : Int32)).toInt = 2 ∨ ((p &&& (2147483647 : Int32)) % (18 : Int32)).toInt = 3 ∨ ((p &&& (2147483647 : Int32)) % (18 : Int32)).toInt = 4 ∨ ((p &&& (2147483647 : Int32)) % (18 : Int32)).toInt = 5 ∨ ((p &&& (2147483647 : Int32)) % (18 : Int32)).toInt = 6 ∨ ((p &&& (2147483647 : Int32)) % (18 : Int32)).toInt = 7 ∨ ((p &&& (2147483647 : Int32)) % (18 : Int32)).toInt = 8 ∨ ((p &&& (2147483647 : Int32)) % (18 : Int32)).toInt = 9 ∨ ((p &&& (2147483647 : Int32)) % (18 : Int32)).toInt = 10 ∨ ((p &&& (2147483647 : Int32)) % (18 : Int32)).toInt = 11 ∨ ((p &&& (2147483647 : Int32)) % (18 : Int32)).toInt = 12 ∨ ((p &&& (2147483647 : Int32)) % (18 : Int32)).toInt = 13 ∨ ((p &&& (2147483647 : Int32)) % (18 : Int32)).toInt = 14 ∨ ((p &&& (2147483647 : Int32)) % (18 : Int32)).toInt = 15 ∨ ((p &&& (2147483647 : Int32)) % (18 : Int32)).toInt = 16 ∨ ((p &&& (2147483647 : Int32)) % (18 : Int32)).toInt = 17 := by omega
  rcases h with h | h | h | h | h | h | h | h | h | h | h | h | h | h | h | h | h | h
  · exact Or.inl (Int32.toInt_inj.mp (h.trans (by decide)))
  · exact Or.inr (Or.inl (Int32.toInt_inj.mp (h.trans (by decide))))
  · exact Or.inr (Or.inr (Or.inl (Int32.toInt_inj.mp (h.trans (by decide)))))
  · exact Or.inr (Or.inr (Or.inr (Or.inl (Int32.toInt_inj.mp (h.trans (by decide))))))
  · exact Or.inr (Or.inr (Or.inr (Or.inr (Or.inl (Int32.toInt_inj.mp (h.trans (by decide)))))))
  · exact Or.inr (Or.inr (Or.inr (Or.inr (Or.inr (Or.inl (Int32.toInt_inj.mp (h.trans (by decide))))))))
  · exact Or.inr (Or.inr (Or.inr (Or.inr (Or.inr (Or.inr (Or.inl (Int32.toInt_inj.mp (h.trans (by decide)))))))))
  · exact Or.inr (Or.inr (Or.inr (Or.inr (Or.inr (Or.inr (Or.inr (Or.inl (Int32.toInt_inj.mp (h.trans (by decide))))))))))
  · exact Or.inr (Or.inr (Or.inr (Or.inr (Or.inr (Or.inr (Or.inr (Or.inr (Or.inl (Int32.toInt_inj.mp (h.trans (by decide)))))))))))
  · exact Or.inr (Or.inr (Or.inr (Or.inr (Or.inr (Or.inr (Or.inr (Or.inr (Or.inr (Or.inl (Int32.toInt_inj.mp (h.trans (by decide))))))))))))
  · exact Or.inr (Or.inr (Or.inr (Or.inr (Or.inr (Or.inr (Or.inr (Or.inr (Or.inr (Or.inr (Or.inl (Int32.toInt_inj.mp (h.trans (by decide)))))))))))))
  · exact Or.inr (Or.inr (Or.inr (Or.inr (Or.inr (Or.inr (Or.inr (Or.inr (Or.inr (Or.inr (Or.inr (Or.inl (Int32.toInt_inj.mp (h.trans (by decide))))))))))))))
  · exact Or.inr (Or.inr (Or.inr (Or.inr (Or.inr (Or.inr (Or.inr (Or.inr (Or.inr (Or.inr (Or.inr (Or.inr (Or.inl (Int32.toInt_inj.mp (h.trans (by decide)))))))))))))))
  · exact Or.inr (Or.inr (Or.inr (Or.inr (Or.inr (Or.inr (Or.inr (Or.inr (Or.inr (Or.inr (Or.inr (Or.inr (Or.inr (Or.inl (Int32.toInt_inj.mp (h.trans (by decide))))))))))))))))
  · exact Or.inr (Or.inr (Or.inr (Or.inr (Or.inr (Or.inr (Or.inr (Or.inr (Or.inr (Or.inr (Or.inr (Or.inr (Or.inr (Or.inr (Or.inl (Int32.toInt_inj.mp (h.trans (by decide)))))))))))))))))
  · exact Or.inr (Or.inr (Or.inr (Or.inr (Or.inr (Or.inr (Or.inr (Or.inr (Or.inr (Or.inr (Or.inr (Or.inr (Or.inr (Or.inr (Or.inr (Or.inl (Int32.toInt_inj.mp (h.trans (by decide))))))))))))))))))
  · exact Or.inr (Or.inr (Or.inr (Or.inr (Or.inr (Or.inr (Or.inr (Or.inr (Or.inr (Or.inr (Or.inr (Or.inr (Or.inr (Or.inr (Or.inr (Or.inr (Or.inl (Int32.toInt_inj.mp (h.trans (by decide)))))))))))))))))))
  · exact Or.inr (Or.inr (Or.inr (Or.inr (Or.inr (Or.inr (Or.inr (Or.inr (Or.inr (Or.inr (Or.inr (Or.inr (Or.inr (Or.inr (Or.inr (Or.inr (Or.inr ((Int32.toInt_inj.mp (h.trans (by decide))))))))))))))))))))
/-- a callee that writes nothing old and returns an object of the enum whose code is c -/
def own_QF (Z : State) (c : Int32) (h0 : Heap) (n0 : Nat) (v : Option Value) (h : Heap) (L : List Loc) : Prop := ∃ w : Addr, v = some (.ref w) ∧ Fr n0 L ∧ Keep h0 h [] ∧ Exa Z h w "com/example/stile/stile/Message$Type" ∧ Fld Z h w "com/example/stile/stile/Message$Type" "code" "I" (.int c)
def own_QN (h0 : Heap) (n0 : Nat) (v : Option Value) (h : Heap) (L : List Loc) : Prop := v = some .null ∧ Fr n0 L ∧ Keep h0 h []
theorem own_in {c : Int32} (h1 : ¬ (c < (1 : Int32))) (h2 : ¬ ((15 : Int32) < c)) : c = (1 : Int32) ∨ c = (2 : Int32) ∨ c = (3 : Int32) ∨ c = (4 : Int32) ∨ c = (5 : Int32) ∨ c = (6 : Int32) ∨ c = (7 : Int32) ∨ c = (8 : Int32) ∨ c = (9 : Int32) ∨ c = (10 : Int32) ∨ c = (11 : Int32) ∨ c = (12 : Int32) ∨ c = (13 : Int32) ∨ c = (14 : Int32) ∨ c = (15 : Int32) := by
  have e1 : (1 : Int32).toInt = 1 := by decide
  have e2 : (15 : Int32).toInt = 15 := by decide
  rw [Int32.lt_iff_toInt_lt] at h1 h2
  have h : c.toInt = 1 ∨ c.toInt = 2 ∨ c.toInt = 3 ∨ c.toInt = 4 ∨ c.toInt = 5 ∨ c.toInt = 6 ∨ c.toInt = 7 ∨ c.toInt = 8 ∨ c.toInt = 9 ∨ c.toInt = 10 ∨ c.toInt = 11 ∨ c.toInt = 12 ∨ c.toInt = 13 ∨ c.toInt = 14 ∨ c.toInt = 15 := by omega
  rcases h with h | h | h | h | h | h | h | h | h | h | h | h | h | h | h
  · exact Or.inl (Int32.toInt_inj.mp (h.trans (by decide)))
  · exact Or.inr (Or.inl (Int32.toInt_inj.mp (h.trans (by decide))))
  · exact Or.inr (Or.inr (Or.inl (Int32.toInt_inj.mp (h.trans (by decide)))))
  · exact Or.inr (Or.inr (Or.inr (Or.inl (Int32.toInt_inj.mp (h.trans (by decide))))))
  · exact Or.inr (Or.inr (Or.inr (Or.inr (Or.inl (Int32.toInt_inj.mp (h.trans (by decide)))))))
  · exact Or.inr (Or.inr (Or.inr (Or.inr (Or.inr (Or.inl (Int32.toInt_inj.mp (h.trans (by decide))))))))
  · exact Or.inr (Or.inr (Or.inr (Or.inr (Or.inr (Or.inr (Or.inl (Int32.toInt_inj.mp (h.trans (by decide)))))))))
  · exact Or.inr (Or.inr (Or.inr (Or.inr (Or.inr (Or.inr (Or.inr (Or.inl (Int32.toInt_inj.mp (h.trans (by decide))))))))))
  · exact Or.inr (Or.inr (Or.inr (Or.inr (Or.inr (Or.inr (Or.inr (Or.inr (Or.inl (Int32.toInt_inj.mp (h.trans (by decide)))))))))))
  · exact Or.inr (Or.inr (Or.inr (Or.inr (Or.inr (Or.inr (Or.inr (Or.inr (Or.inr (Or.inl (Int32.toInt_inj.mp (h.trans (by decide))))))))))))
  · exact Or.inr (Or.inr (Or.inr (Or.inr (Or.inr (Or.inr (Or.inr (Or.inr (Or.inr (Or.inr (Or.inl (Int32.toInt_inj.mp (h.trans (by decide)))))))))))))
  · exact Or.inr (Or.inr (Or.inr (Or.inr (Or.inr (Or.inr (Or.inr (Or.inr (Or.inr (Or.inr (Or.inr (Or.inl (Int32.toInt_inj.mp (h.trans (by decide))))))))))))))
  · exact Or.inr (Or.inr (Or.inr (Or.inr (Or.inr (Or.inr (Or.inr (Or.inr (Or.inr (Or.inr (Or.inr (Or.inr (Or.inl (Int32.toInt_inj.mp (h.trans (by decide)))))))))))))))
  · exact Or.inr (Or.inr (Or.inr (Or.inr (Or.inr (Or.inr (Or.inr (Or.inr (Or.inr (Or.inr (Or.inr (Or.inr (Or.inr (Or.inl (Int32.toInt_inj.mp (h.trans (by decide))))))))))))))))
  · exact Or.inr (Or.inr (Or.inr (Or.inr (Or.inr (Or.inr (Or.inr (Or.inr (Or.inr (Or.inr (Or.inr (Or.inr (Or.inr (Or.inr ((Int32.toInt_inj.mp (h.trans (by decide)))))))))))))))))
theorem own_out {c : Int32} (h : c < (1 : Int32) ∨ (15 : Int32) < c) : ¬ ((1 : Int32) = c) ∧ ¬ ((2 : Int32) = c) ∧ ¬ ((3 : Int32) = c) ∧ ¬ ((4 : Int32) = c) ∧ ¬ ((5 : Int32) = c) ∧ ¬ ((6 : Int32) = c) ∧ ¬ ((7 : Int32) = c) ∧ ¬ ((8 : Int32) = c) ∧ ¬ ((9 : Int32) = c) ∧ ¬ ((10 : Int32) = c) ∧ ¬ ((11 : Int32) = c) ∧ ¬ ((12 : Int32) = c) ∧ ¬ ((13 : Int32) = c) ∧ ¬ ((14 : Int32) = c) ∧ ¬ ((15 : Int32) = c) := by
  refine ⟨?_, ?_, ?_, ?_, ?_, ?_, ?_, ?_, ?_, ?_, ?_, ?_, ?_, ?_, ?_⟩ <;> (intro q; subst q; revert h; decide)
theorem own_three (c : Int32) : (¬ (c < (1 : Int32)) ∧ ¬ ((15 : Int32) < c)) ∨ (c < (1 : Int32) ∧ (c < (1 : Int32) ∨ (15 : Int32) < c)) ∨ (¬ (c < (1 : Int32)) ∧ (15 : Int32) < c ∧ (c < (1 : Int32) ∨ (15 : Int32) < c)) := by
  by_cases h1 : c < (1 : Int32)
  · exact Or.inr (Or.inl ⟨h1, Or.inl h1⟩)
  by_cases h2 : (15 : Int32) < c
  · exact Or.inr (Or.inr ⟨h1, h2, Or.inr h2⟩)
  exact Or.inl ⟨h1, h2⟩
theorem d1_0 : decode prog_48_method_8_code 0 = .ok (.invokestatic 82, 3) := by decide +kernel
theorem d1_3 : decode prog_48_method_8_code 3 = .ok (.astore_n 1, 1) := by decide +kernel
theorem d1_4 : decode prog_48_method_8_code 4 = .ok (.aload_n 1, 1) := by decide +kernel
theorem d1_5 : decode prog_48_method_8_code 5 = .ok (.arraylength, 1) := by decide +kernel
theorem d1_6 : decode prog_48_method_8_code 6 = .ok (.istore_n 2, 1) := by decide +kernel
theorem d1_7 : decode prog_48_method_8_code 7 = .ok (.iconst 0, 1) := by decide +kernel
theorem d1_8 : decode prog_48_method_8_code 8 = .ok (.istore_n 3, 1) := by decide +kernel
theorem d1_9 : decode prog_48_method_8_code 9 = .ok (.iload_n 3, 1) := by decide +kernel
theorem d1_10 : decode prog_48_method_8_code 10 = .ok (.iload_n 2, 1) := by decide +kernel
theorem d1_11 : decode prog_48_method_8_code 11 = .ok (.if_icmp .ge 26, 3) := by decide +kernel
theorem d1_14 : decode prog_48_method_8_code 14 = .ok (.aload_n 1, 1) := by decide +kernel
theorem d1_15 : decode prog_48_method_8_code 15 = .ok (.iload_n 3, 1) := by decide +kernel
theorem d1_16 : decode prog_48_method_8_code 16 = .ok (.aaload, 1) := by decide +kernel
theorem d1_17 : decode prog_48_method_8_code 17 = .ok (.astore 4, 2) := by decide +kernel
theorem d1_19 : decode prog_48_method_8_code 19 = .ok (.aload 4, 2) := by decide +kernel
theorem d1_21 : decode prog_48_method_8_code 21 = .ok (.getfield 71, 3) := by decide +kernel
theorem d1_24 : decode prog_48_method_8_code 24 = .ok (.iload_n 0, 1) := by decide +kernel
theorem d1_25 : decode prog_48_method_8_code 25 = .ok (.if_icmp .ne 6, 3) := by decide +kernel
theorem d1_28 : decode prog_48_method_8_code 28 = .ok (.aload 4, 2) := by decide +kernel
theorem d1_30 : decode prog_48_method_8_code 30 = .ok (.areturn, 1) := by decide +kernel
theorem d1_31 : decode prog_48_method_8_code 31 = .ok (.iinc 3 1, 3) := by decide +kernel
theorem d1_34 : decode prog_48_method_8_code 34 = .ok (.goto (-25), 3) := by decide +kernel
theorem d1_37 : decode prog_48_method_8_code 37 = .ok (.aconst_null, 1) := by decide +kernel
theorem d1_38 : decode prog_48_method_8_code 38 = .ok (.areturn, 1) := by decide +kernel
theorem d2_0 : decode prog_48_method_1_code 0 = .ok (.getstatic 49, 3) := by decide +kernel
theorem d2_3 : decode prog_48_method_1_code 3 = .ok (.invokevirtual 53, 3) := by decide +kernel
theorem d2_6 : decode prog_48_method_1_code 6 = .ok (.checkcast 54, 3) := by decide +kernel
theorem d2_9 : decode prog_48_method_1_code 9 = .ok (.areturn, 1) := by decide +kernel
theorem d3_0 : decode prog_48_method_5_code 0 = .ok (.aload_n 0, 1) := by decide +kernel
theorem d3_1 : decode prog_48_method_5_code 1 = .ok (.getfield 71, 3) := by decide +kernel
theorem d3_4 : decode prog_48_method_5_code 4 = .ok (.ireturn, 1) := by decide +kernel
theorem pn_0 : plainName "com/example/stile/stile/Message$Type" = true := by first | (simp [plainName, overriddenIn]; done) | decide +kernel
theorem pn_1 : plainName "com/example/stile/stile/TypeOfPinLaw" = true := by first | (simp [plainName, overriddenIn]; done) | decide +kernel
theorem pd_0 : parseMethodDescriptor "()[Lcom/example/stile/stile/Message$Type;" = some ⟨[], some (.array (.object "com/example/stile/stile/Message$Type"))⟩ := by decide +kernel
theorem pd_1 : parseMethodDescriptor "(I)Lcom/example/stile/stile/Message$Type;" = some ⟨[.int], some (.object "com/example/stile/stile/Message$Type")⟩ := by decide +kernel
theorem pd_2 : parseMethodDescriptor "()I" = some ⟨[], some .int⟩ := by decide +kernel
theorem ef_2_ (m : MethodId)  : entryFrame m #[] 0 = mkF m 0 #[] [] := by first | (simp [entryFrame, mkF, argsToLocals, Value.category]; done) | rfl
theorem ef_1_I (m : MethodId) (x0 : Int32) : entryFrame m #[(.int x0)] 5 = mkF m 0 #[iv x0, .unset, .unset, .unset, .unset] [] := by first | (simp [entryFrame, mkF, argsToLocals, Value.category]; done) | rfl
theorem ef_3_R (m : MethodId) (x0 : Addr) : entryFrame m #[(.ref x0)] 1 = mkF m 0 #[rv x0] [] := by first | (simp [entryFrame, mkF, argsToLocals, Value.category]; done) | rfl
theorem ef_0_II (m : MethodId) (x0 : Int32) (x1 : Int32) : entryFrame m #[(.int x0), (.int x1)] maxLocals = mkF m 0 #[iv x0, iv x1, .unset, .unset, .unset] [] := by first | (simp [entryFrame, mkF, argsToLocals, Value.category, maxLocals]; done) | rfl
def Q_rm2_0 (Z : State) (w_Type_REQUEST : Addr) (w_Type_REPLY : Addr) (w_Type_HEARTBEAT : Addr) (w_Type_ELECTION : Addr) (w_Type_ANSWER : Addr) (w_Type_COORDINATOR : Addr) (w_Type_GRANT : Addr) (w_Type_RELEASE : Addr) (w_Type_HELD : Addr) (w_Type_REPORTED : Addr) (w_Type_LOCKED : Addr) (w_Type_INQUIRE : Addr) (w_Type_FAILED : Addr) (w_Type_RELINQUISH : Addr) (w_Type_TOKEN : Addr) (k_w_Type__VALUES : ClassId) (h0 : Heap) (n0 : Nat) (v : Option Value) (h : Heap) (L : List Loc) : Prop := ∃ b2_2 : Addr, (v = (some (.ref b2_2))) ∧ (Fr n0 L) ∧ (Keep h0 h []) ∧ (n0 ≤ b2_2) ∧ (h0.size ≤ b2_2) ∧ (Arv Z h b2_2 k_w_Type__VALUES (.object "com/example/stile/stile/Message$Type") (15 : Int32) [(.ref w_Type_REQUEST), (.ref w_Type_REPLY), (.ref w_Type_HEARTBEAT), (.ref w_Type_ELECTION), (.ref w_Type_ANSWER), (.ref w_Type_COORDINATOR), (.ref w_Type_GRANT), (.ref w_Type_RELEASE), (.ref w_Type_HELD), (.ref w_Type_REPORTED), (.ref w_Type_LOCKED), (.ref w_Type_INQUIRE), (.ref w_Type_FAILED), (.ref w_Type_RELINQUISH), (.ref w_Type_TOKEN)] .null) ∧ (Exa Z h b2_2 "[Lcom/example/stile/stile/Message$Type;")
set_option maxRecDepth 65536 in
set_option maxHeartbeats 40000000 in
theorem rm2_0 (l : Launch) (Z : State) (a0 : Array Value) (hw : ∀ d ∈ tables_1, d.before a0 Z = true) (ws : List Jvm.Cond) (w_Type__VALUES : Addr) (w_Type_REQUEST : Addr) (w_Type_REPLY : Addr) (w_Type_HEARTBEAT : Addr) (w_Type_ELECTION : Addr) (w_Type_ANSWER : Addr) (w_Type_COORDINATOR : Addr) (w_Type_GRANT : Addr) (w_Type_RELEASE : Addr) (w_Type_HELD : Addr) (w_Type_REPORTED : Addr) (w_Type_LOCKED : Addr) (w_Type_INQUIRE : Addr) (w_Type_FAILED : Addr) (w_Type_RELINQUISH : Addr) (w_Type_TOKEN : Addr) (k_w_Type__VALUES : ClassId) (h0 : Heap) (n0 : Nat) (Z0 : n0 ≤ h0.size) (S_Type__VALUES : Sta Z h0 "com/example/stile/stile/Message$Type" "$VALUES" "[Lcom/example/stile/stile/Message$Type;" (.ref w_Type__VALUES)) (V_w_Type__VALUES : Arv Z h0 w_Type__VALUES k_w_Type__VALUES (.object "com/example/stile/stile/Message$Type") (15 : Int32) [(.ref w_Type_REQUEST), (.ref w_Type_REPLY), (.ref w_Type_HEARTBEAT), (.ref w_Type_ELECTION), (.ref w_Type_ANSWER), (.ref w_Type_COORDINATOR), (.ref w_Type_GRANT), (.ref w_Type_RELEASE), (.ref w_Type_HELD), (.ref w_Type_REPORTED), (.ref w_Type_LOCKED), (.ref w_Type_INQUIRE), (.ref w_Type_FAILED), (.ref w_Type_RELINQUISH), (.ref w_Type_TOKEN)] .null) (E_w_Type__VALUES : Exa Z h0 w_Type__VALUES "[Lcom/example/stile/stile/Message$Type;") :
    MetFree l (⟨"com/example/stile/stile/Message$Type", "values", "()[Lcom/example/stile/stile/Message$Type;"⟩ : MethodName) (head1 (Jvm.Cond.code (⟨"com/example/stile/stile/Message$Type", "values", "()[Lcom/example/stile/stile/Message$Type;"⟩ : MethodName) prog_48_method_1_code 0 (some (.array (.object "com/example/stile/stile/Message$Type"))) :: ws) ({ frames := 1, cells := 1, slots := 15, locals := 14 } : Room)) (fun a U => a = #[] ∧ Z.Warmed39 U.vm ∧ U.heap = h0) (fun _ _ _ _ _ => True) (fun _ U o U' => ∃ v L, o = .returned v ∧ Q_rm2_0 Z w_Type_REQUEST w_Type_REPLY w_Type_HEARTBEAT w_Type_ELECTION w_Type_ANSWER w_Type_COORDINATOR w_Type_GRANT w_Type_RELEASE w_Type_HELD w_Type_REPORTED w_Type_LOCKED w_Type_INQUIRE w_Type_FAILED w_Type_RELINQUISH w_Type_TOKEN k_w_Type__VALUES h0 n0 v U'.heap L ∧ FrameEnd U o U' L ({ frames := 1, cells := 1, slots := 15, locals := 14 } : Room).cells ({ frames := 1, cells := 1, slots := 15, locals := 14 } : Room).slots) := by
  refine MetFree.of_bodySF (plainFor_of_name pn_0) hisR ?_
  intro p e s m args below meth c s₁ Bd hml0 hP hK
  obtain ⟨rfl, hZ, hh⟩ := hP
  have hx := Bd.exec
  have hby := Bd.bytes
  have hml : c.maxLocals = 0 := hml0
  have hown : s.vm.findClass "com/example/stile/stile/Message$Type" = some m.cls := findClass_of_methodNamed Bd.named
  have hnm := (name_of_methodNamed Bd.named Bd.method).1
  have X0 : Stand p l e ({ frames := 1, cells := 1, slots := 15, locals := 14 } : Room) s m #[] below meth c s₁ [] 0 0 := Stand.of_body Bd
  have e0 : s₁.heap = h0 := by rw [← hh, Bd.state]; rfl
  have N0 := Fr.nil n0
  have pre0 : ∀ t, Steps p.tables e below (s₁.setTop (mkF m 0 #[] [])) t → Steps p.tables e below (s₁.setTop (entryFrame m #[] 0)) t := fun t k => castTop (ef_2_ m ) k
  obtain ⟨T1, X1, e1, st1⟩ := getS2 X0 hx hZ hown (host := "") (Or.inl (hw _ (List.mem_of_getElem? (i := 7) rfl))) Via.refl e0 S_Type__VALUES (g := (mkF m 0 #[] [])) rfl (hb hby d2_0)
  obtain ⟨T2, h2, X2, e2, E2, A2, B2, st2⟩ := cloneH X1 hx hZ hown (hw _ (List.mem_of_getElem? (i := 9) rfl)) (hw _ (List.mem_of_getElem? (i := 10) rfl)) (hw _ (List.mem_of_getElem? (i := 14) rfl)) (hw _ (List.mem_of_getElem? (i := 12) rfl)) (hw _ (List.mem_of_getElem? (i := 13) rfl)) (hw _ (List.mem_of_getElem? (i := 15) rfl)) e1 (Arv.arh V_w_Type__VALUES) E_w_Type__VALUES (g := (mkF m 3 #[] [(.ref w_Type__VALUES)])) rfl (by rw [hml]; rfl) rfl (hb hby d2_3) (by decide) (W := 0) (cap := 15) (by show 2 * 0 + _ ≤ _; exact Nat.le_of_eq rfl) (by decide) (by decide) (by decide) (by decide)
  obtain ⟨b2_2, gg2⟩ : ∃ z, z = h0.size := ⟨_, rfl⟩
  rw [← gg2] at A2 B2 st2
  have g_b2_2 : n0 ≤ b2_2 := Nat.le_trans Z0 (Nat.le_of_eq gg2.symm)
  have sz_b2_2 : h0.size ≤ b2_2 := Nat.le_trans (Keep.refl h0 []).1 (Nat.le_of_eq gg2.symm)
  have Z2 : n0 ≤ h2.size := Nat.le_trans Z0 E2.1
  have KK2 : Keep h0 h2 [] := (Keep.refl h0 []).ext E2
  have V_b2_2 : Arv Z h2 b2_2 k_w_Type__VALUES (.object "com/example/stile/stile/Message$Type") (15 : Int32) [(.ref w_Type_REQUEST), (.ref w_Type_REPLY), (.ref w_Type_HEARTBEAT), (.ref w_Type_ELECTION), (.ref w_Type_ANSWER), (.ref w_Type_COORDINATOR), (.ref w_Type_GRANT), (.ref w_Type_RELEASE), (.ref w_Type_HELD), (.ref w_Type_REPORTED), (.ref w_Type_LOCKED), (.ref w_Type_INQUIRE), (.ref w_Type_FAILED), (.ref w_Type_RELINQUISH), (.ref w_Type_TOKEN)] .null := A2
  have E_b2_2 : Exa Z h2 b2_2 "[Lcom/example/stile/stile/Message$Type;" := B2
  obtain ⟨T3, X3, e3, st3⟩ := castY X2 hx hZ hown (hw _ (List.mem_of_getElem? (i := 32) rfl)) e2 (Ins.self E_b2_2) (g := (mkF m 6 #[] [(.ref b2_2)])) rfl rfl (hb hby d2_6)
  obtain ⟨fs, hr, hrun, hended, hW, hsame⟩ := X3.leave (v := (some (.ref b2_2))) (fun h => by rw [Bd.returns] at h; cases h)
  refine ⟨_, _, pre0 _ ?_, hrun, hended, _, _, rfl, ?_, ⟨_, rfl⟩, hW, hsame.mono (by decide) (by decide)⟩
  · show Steps p.tables e below (s₁.setTop (mkF m 0 #[] [])) _
    refine st1 _ ?_
    refine st2 _ ?_
    refine st3 _ ?_
    exact own_retA X3 hx Bd.returns rfl rfl (hb hby d2_9) hr
  · exact (by show Q_rm2_0 Z w_Type_REQUEST w_Type_REPLY w_Type_HEARTBEAT w_Type_ELECTION w_Type_ANSWER w_Type_COORDINATOR w_Type_GRANT w_Type_RELEASE w_Type_HELD w_Type_REPORTED w_Type_LOCKED w_Type_INQUIRE w_Type_FAILED w_Type_RELINQUISH w_Type_TOKEN k_w_Type__VALUES h0 n0 _ T3.heap _; rw [e3]; exact ⟨b2_2, rfl, N0, KK2, g_b2_2, sz_b2_2, V_b2_2, E_b2_2⟩)
def Q_rk_found_0 (Z : State) (w_Type_REQUEST : Addr) (h0 : Heap) (n0 : Nat) (v : Option Value) (h : Heap) (L : List Loc) : Prop := (v = (some (.ref w_Type_REQUEST))) ∧ (Fr n0 L) ∧ (Keep h0 h [])
set_option maxRecDepth 65536 in
set_option maxHeartbeats 40000000 in
theorem rk_found_0 (l : Launch) (Z : State) (a0 : Array Value) (hw : ∀ d ∈ tables_1, d.before a0 Z = true) (ws : List Jvm.Cond) (w_Type__VALUES : Addr) (w_Type_REQUEST : Addr) (w_Type_REPLY : Addr) (w_Type_HEARTBEAT : Addr) (w_Type_ELECTION : Addr) (w_Type_ANSWER : Addr) (w_Type_COORDINATOR : Addr) (w_Type_GRANT : Addr) (w_Type_RELEASE : Addr) (w_Type_HELD : Addr) (w_Type_REPORTED : Addr) (w_Type_LOCKED : Addr) (w_Type_INQUIRE : Addr) (w_Type_FAILED : Addr) (w_Type_RELINQUISH : Addr) (w_Type_TOKEN : Addr) (k_w_Type__VALUES : ClassId) (h0 : Heap) (n0 : Nat) (Z0 : n0 ≤ h0.size) (S_Type__VALUES : Sta Z h0 "com/example/stile/stile/Message$Type" "$VALUES" "[Lcom/example/stile/stile/Message$Type;" (.ref w_Type__VALUES)) (V_w_Type__VALUES : Arv Z h0 w_Type__VALUES k_w_Type__VALUES (.object "com/example/stile/stile/Message$Type") (15 : Int32) [(.ref w_Type_REQUEST), (.ref w_Type_REPLY), (.ref w_Type_HEARTBEAT), (.ref w_Type_ELECTION), (.ref w_Type_ANSWER), (.ref w_Type_COORDINATOR), (.ref w_Type_GRANT), (.ref w_Type_RELEASE), (.ref w_Type_HELD), (.ref w_Type_REPORTED), (.ref w_Type_LOCKED), (.ref w_Type_INQUIRE), (.ref w_Type_FAILED), (.ref w_Type_RELINQUISH), (.ref w_Type_TOKEN)] .null) (E_w_Type__VALUES : Exa Z h0 w_Type__VALUES "[Lcom/example/stile/stile/Message$Type;") (F_w_Type_REQUEST_code : Fld Z h0 w_Type_REQUEST "com/example/stile/stile/Message$Type" "code" "I" (.int (1 : Int32))) :
    MetFree l (⟨"com/example/stile/stile/Message$Type", "of", "(I)Lcom/example/stile/stile/Message$Type;"⟩ : MethodName) (head1 (Jvm.Cond.code (⟨"com/example/stile/stile/Message$Type", "of", "(I)Lcom/example/stile/stile/Message$Type;"⟩ : MethodName) prog_48_method_8_code 5 (some (.object "com/example/stile/stile/Message$Type")) :: ws) ({ frames := 2, cells := 1, slots := 15, locals := 25 } : Room)) (fun a U => a = #[(.int (1 : Int32))] ∧ Z.Warmed39 U.vm ∧ U.heap = h0) (fun _ _ _ _ _ => True) (fun _ U o U' => ∃ v L, o = .returned v ∧ Q_rk_found_0 Z w_Type_REQUEST h0 n0 v U'.heap L ∧ FrameEnd U o U' L ({ frames := 2, cells := 1, slots := 15, locals := 25 } : Room).cells ({ frames := 2, cells := 1, slots := 15, locals := 25 } : Room).slots) := by
  refine MetFree.of_bodySF (plainFor_of_name pn_0) hisR ?_
  intro p e s m args below meth c s₁ Bd hml0 hP hK
  obtain ⟨rfl, hZ, hh⟩ := hP
  have hx := Bd.exec
  have hby := Bd.bytes
  have hml : c.maxLocals = 5 := hml0
  have hown : s.vm.findClass "com/example/stile/stile/Message$Type" = some m.cls := findClass_of_methodNamed Bd.named
  have hnm := (name_of_methodNamed Bd.named Bd.method).1
  have X0 : Stand p l e ({ frames := 2, cells := 1, slots := 15, locals := 25 } : Room) s m #[(.int (1 : Int32))] below meth c s₁ [] 0 0 := Stand.of_body Bd
  have e0 : s₁.heap = h0 := by rw [← hh, Bd.state]; rfl
  have N0 := Fr.nil n0
  have pre0 : ∀ t, Steps p.tables e below (s₁.setTop (mkF m 0 #[iv (1 : Int32), .unset, .unset, .unset, .unset] [])) t → Steps p.tables e below (s₁.setTop (entryFrame m #[(.int (1 : Int32))] 5)) t := fun t k => castTop (ef_1_I m (1 : Int32)) k
  obtain ⟨_, _, ⟨T1, L1, k1, n1⟩, -, X1, ⟨Lc1, hQ1, l1, y1, z1⟩, st1⟩ := Jvm.LawKit.callS X0 hx (y := (⟨"com/example/stile/stile/Message$Type", "values", "()[Lcom/example/stile/stile/Message$Type;"⟩ : MethodName)) hown (mvT hZ (hw _ (List.mem_of_getElem? (i := 4) rfl))) (mvT hZ (hw _ (List.mem_of_getElem? (i := 5) rfl))) (mvT hZ (hw _ (List.mem_of_getElem? (i := 2) rfl))) (mvT hZ (hw _ (List.mem_of_getElem? (i := 6) rfl))) (by decide) (backOf (W := 0) (rm2_0 l Z a0 hw [] w_Type__VALUES w_Type_REQUEST w_Type_REPLY w_Type_HEARTBEAT w_Type_ELECTION w_Type_ANSWER w_Type_COORDINATOR w_Type_GRANT w_Type_RELEASE w_Type_HELD w_Type_REPORTED w_Type_LOCKED w_Type_INQUIRE w_Type_FAILED w_Type_RELINQUISH w_Type_TOKEN k_w_Type__VALUES h0 n0 Z0 S_Type__VALUES V_w_Type__VALUES E_w_Type__VALUES) hZ (hw _ (List.mem_of_getElem? (i := 6) rfl)) (hw _ (List.mem_of_getElem? (i := 2) rfl)) (by decide) (by decide)) (g := (mkF m 0 #[iv (1 : Int32), .unset, .unset, .unset, .unset] [])) rfl (by rw [hml]; rfl) (argsL := []) (rest := []) (lenOf pd_0 rfl) rfl (by show 2 * 0 + _ ≤ _; exact Nat.le_of_eq rfl) (hb hby d1_0) (fun _ _ => ⟨rfl, e0, (by decide : 0 + 1 ≤ _), (by decide : 0 + 15 ≤ _)⟩)
  dsimp only [Pt.U, Pt.locs, Pt.cells, Pt.slots] at X1 l1 y1 z1 st1 hQ1
  subst l1 y1 z1
  obtain ⟨b1_1_0, rfl, N1q, K1, gq_b1_1_0, le_b1_1_0, fq1_0, fq1_1⟩ := hQ1
  have sz_b1_1_0 : h0.size ≤ b1_1_0 := Nat.le_trans (Keep.refl h0 []).1 le_b1_1_0
  have KK1 : Keep h0 T1.heap [] := (Keep.refl h0 []).trans K1 all0
  have Z1 : n0 ≤ T1.heap.size := Nat.le_trans Z0 K1.1
  have N1 := Fr.app N0 N1q
  obtain ⟨cl2, Ar2, -, Sz2, Nn2, -, -⟩ := id fq1_0
  obtain ⟨cl3, Ar3, -, Sz3, Nn3, Hs3, Gs3⟩ := id fq1_0
  have hin3 : ¬ ((0 : Int32) < 0 ∨ cl3.slots.size ≤ ((0 : Int32)).toNatClampNeg) := inb_of Sz3 ⟨by decide, by decide⟩
  have c4 := (F_w_Type_REQUEST_code.keep K1 nin0)
  obtain ⟨T5, X5, e5, st5⟩ := getF X1 hx hZ hown (host := "") (Or.inl (hw _ (List.mem_of_getElem? (i := 34) rfl))) Via.refl rfl c4 (g := (mkF m 21 #[iv (1 : Int32), rv b1_1_0, iv (15 : Int32), iv (0 : Int32), rv w_Type_REQUEST] [(.ref w_Type_REQUEST)])) rfl rfl (hb hby d1_21)
  obtain ⟨fs, hr, hrun, hended, hW, hsame⟩ := X5.leave (v := (some (.ref w_Type_REQUEST))) (fun h => by rw [Bd.returns] at h; cases h)
  refine ⟨_, _, pre0 _ ?_, hrun, hended, _, _, rfl, ?_, ⟨_, rfl⟩, hW, hsame.mono (by decide) (by decide)⟩
  · show Steps p.tables e below (s₁.setTop (mkF m 0 #[iv (1 : Int32), .unset, .unset, .unset, .unset] [])) _
    refine st1 _ ?_
    refine XS.astoreN X1.here hx rfl (hb hby d1_3) rfl rfl (l' := #[iv (1 : Int32), rv b1_1_0, .unset, .unset, .unset]) rfl ?_
    refine XS.aloadN X1.here hx rfl (hb hby d1_4) rfl rfl ?_
    refine X1.arraylength hx Ar2.1 (State.isArrayOf_alike hZ.alike Ar2.2.1) (g := (mkF m 5 #[iv (1 : Int32), rv b1_1_0, .unset, .unset, .unset] [(.ref b1_1_0)])) rfl rfl (hb hby d1_5) _ ?_
    rw [len_of Sz2 Nn2]
    refine XS.istoreN X1.here hx rfl (hb hby d1_6) rfl (l' := #[iv (1 : Int32), rv b1_1_0, iv (15 : Int32), .unset, .unset]) rfl ?_
    refine XS.iconst X1.here hx rfl (hb hby d1_7) ?_
    show Steps p.tables e below (T1.setTop (mkF m 8 #[iv (1 : Int32), rv b1_1_0, iv (15 : Int32), .unset, .unset] [(.int (0 : Int32))])) _
    refine XS.istoreN X1.here hx rfl (hb hby d1_8) rfl (l' := #[iv (1 : Int32), rv b1_1_0, iv (15 : Int32), iv (0 : Int32), .unset]) rfl ?_
    refine XS.iloadN X1.here hx rfl (hb hby d1_9) rfl ?_
    refine XS.iloadN X1.here hx rfl (hb hby d1_10) rfl ?_
    refine XS.icmpNo X1.here hx rfl (hb hby d1_11) rfl (tlt (by decide +kernel : (0 : Int32) < (15 : Int32))).2.1 ?_
    refine XS.aloadN X1.here hx rfl (hb hby d1_14) rfl rfl ?_
    refine XS.iloadN X1.here hx rfl (hb hby d1_15) rfl ?_
    show Steps p.tables e below (T1.setTop (mkF m 16 #[iv (1 : Int32), rv b1_1_0, iv (15 : Int32), iv (0 : Int32), .unset] [(.int (0 : Int32)), (.ref b1_1_0)])) _
    refine X1.aaload hx (j := (0 : Int32)) (v := (.ref w_Type_REQUEST)) Ar3.1 (State.isArrayOf_alike hZ.alike Ar3.2.1) rfl Ar3.2.2 hin3 (Hs3.at hin3 rfl) (g := (mkF m 16 #[iv (1 : Int32), rv b1_1_0, iv (15 : Int32), iv (0 : Int32), .unset] [(.int (0 : Int32)), (.ref b1_1_0)])) rfl rfl (hb hby d1_16) _ ?_
    refine XS.astore X1.here hx rfl (hb hby d1_17) rfl rfl (l' := #[iv (1 : Int32), rv b1_1_0, iv (15 : Int32), iv (0 : Int32), rv w_Type_REQUEST]) rfl ?_
    refine XS.aload X1.here hx rfl (hb hby d1_19) rfl rfl ?_
    refine st5 _ ?_
    refine XS.iloadN X5.here hx rfl (hb hby d1_24) rfl ?_
    refine XS.icmpNo X5.here hx rfl (hb hby d1_25) rfl (teq (by decide +kernel : (1 : Int32) = (1 : Int32))).2 ?_
    show Steps p.tables e below (T5.setTop (mkF m 28 #[iv (1 : Int32), rv b1_1_0, iv (15 : Int32), iv (0 : Int32), rv w_Type_REQUEST] [])) _
    refine XS.aload X5.here hx rfl (hb hby d1_28) rfl rfl ?_
    exact own_retA X5 hx Bd.returns rfl rfl (hb hby d1_30) hr
  · exact (by show Q_rk_found_0 Z w_Type_REQUEST h0 n0 _ T5.heap _; rw [e5]; exact ⟨rfl, N1, KK1⟩)
def Q_rk_found_1 (Z : State) (w_Type_REPLY : Addr) (h0 : Heap) (n0 : Nat) (v : Option Value) (h : Heap) (L : List Loc) : Prop := (v = (some (.ref w_Type_REPLY))) ∧ (Fr n0 L) ∧ (Keep h0 h [])
set_option maxRecDepth 65536 in
set_option maxHeartbeats 40000000 in
theorem rk_found_1 (l : Launch) (Z : State) (a0 : Array Value) (hw : ∀ d ∈ tables_1, d.before a0 Z = true) (ws : List Jvm.Cond) (w_Type__VALUES : Addr) (w_Type_REQUEST : Addr) (w_Type_REPLY : Addr) (w_Type_HEARTBEAT : Addr) (w_Type_ELECTION : Addr) (w_Type_ANSWER : Addr) (w_Type_COORDINATOR : Addr) (w_Type_GRANT : Addr) (w_Type_RELEASE : Addr) (w_Type_HELD : Addr) (w_Type_REPORTED : Addr) (w_Type_LOCKED : Addr) (w_Type_INQUIRE : Addr) (w_Type_FAILED : Addr) (w_Type_RELINQUISH : Addr) (w_Type_TOKEN : Addr) (k_w_Type__VALUES : ClassId) (h0 : Heap) (n0 : Nat) (Z0 : n0 ≤ h0.size) (S_Type__VALUES : Sta Z h0 "com/example/stile/stile/Message$Type" "$VALUES" "[Lcom/example/stile/stile/Message$Type;" (.ref w_Type__VALUES)) (V_w_Type__VALUES : Arv Z h0 w_Type__VALUES k_w_Type__VALUES (.object "com/example/stile/stile/Message$Type") (15 : Int32) [(.ref w_Type_REQUEST), (.ref w_Type_REPLY), (.ref w_Type_HEARTBEAT), (.ref w_Type_ELECTION), (.ref w_Type_ANSWER), (.ref w_Type_COORDINATOR), (.ref w_Type_GRANT), (.ref w_Type_RELEASE), (.ref w_Type_HELD), (.ref w_Type_REPORTED), (.ref w_Type_LOCKED), (.ref w_Type_INQUIRE), (.ref w_Type_FAILED), (.ref w_Type_RELINQUISH), (.ref w_Type_TOKEN)] .null) (E_w_Type__VALUES : Exa Z h0 w_Type__VALUES "[Lcom/example/stile/stile/Message$Type;") (F_w_Type_REQUEST_code : Fld Z h0 w_Type_REQUEST "com/example/stile/stile/Message$Type" "code" "I" (.int (1 : Int32))) (F_w_Type_REPLY_code : Fld Z h0 w_Type_REPLY "com/example/stile/stile/Message$Type" "code" "I" (.int (2 : Int32))) :
    MetFree l (⟨"com/example/stile/stile/Message$Type", "of", "(I)Lcom/example/stile/stile/Message$Type;"⟩ : MethodName) (head1 (Jvm.Cond.code (⟨"com/example/stile/stile/Message$Type", "of", "(I)Lcom/example/stile/stile/Message$Type;"⟩ : MethodName) prog_48_method_8_code 5 (some (.object "com/example/stile/stile/Message$Type")) :: ws) ({ frames := 2, cells := 1, slots := 15, locals := 25 } : Room)) (fun a U => a = #[(.int (2 : Int32))] ∧ Z.Warmed39 U.vm ∧ U.heap = h0) (fun _ _ _ _ _ => True) (fun _ U o U' => ∃ v L, o = .returned v ∧ Q_rk_found_1 Z w_Type_REPLY h0 n0 v U'.heap L ∧ FrameEnd U o U' L ({ frames := 2, cells := 1, slots := 15, locals := 25 } : Room).cells ({ frames := 2, cells := 1, slots := 15, locals := 25 } : Room).slots) := by
  refine MetFree.of_bodySF (plainFor_of_name pn_0) hisR ?_
  intro p e s m args below meth c s₁ Bd hml0 hP hK
  obtain ⟨rfl, hZ, hh⟩ := hP
  have hx := Bd.exec
  have hby := Bd.bytes
  have hml : c.maxLocals = 5 := hml0
  have hown : s.vm.findClass "com/example/stile/stile/Message$Type" = some m.cls := findClass_of_methodNamed Bd.named
  have hnm := (name_of_methodNamed Bd.named Bd.method).1
  have X0 : Stand p l e ({ frames := 2, cells := 1, slots := 15, locals := 25 } : Room) s m #[(.int (2 : Int32))] below meth c s₁ [] 0 0 := Stand.of_body Bd
  have e0 : s₁.heap = h0 := by rw [← hh, Bd.state]; rfl
  have N0 := Fr.nil n0
  have pre0 : ∀ t, Steps p.tables e below (s₁.setTop (mkF m 0 #[iv (2 : Int32), .unset, .unset, .unset, .unset] [])) t → Steps p.tables e below (s₁.setTop (entryFrame m #[(.int (2 : Int32))] 5)) t := fun t k => castTop (ef_1_I m (2 : Int32)) k
  obtain ⟨_, _, ⟨T1, L1, k1, n1⟩, -, X1, ⟨Lc1, hQ1, l1, y1, z1⟩, st1⟩ := Jvm.LawKit.callS X0 hx (y := (⟨"com/example/stile/stile/Message$Type", "values", "()[Lcom/example/stile/stile/Message$Type;"⟩ : MethodName)) hown (mvT hZ (hw _ (List.mem_of_getElem? (i := 4) rfl))) (mvT hZ (hw _ (List.mem_of_getElem? (i := 5) rfl))) (mvT hZ (hw _ (List.mem_of_getElem? (i := 2) rfl))) (mvT hZ (hw _ (List.mem_of_getElem? (i := 6) rfl))) (by decide) (backOf (W := 0) (rm2_0 l Z a0 hw [] w_Type__VALUES w_Type_REQUEST w_Type_REPLY w_Type_HEARTBEAT w_Type_ELECTION w_Type_ANSWER w_Type_COORDINATOR w_Type_GRANT w_Type_RELEASE w_Type_HELD w_Type_REPORTED w_Type_LOCKED w_Type_INQUIRE w_Type_FAILED w_Type_RELINQUISH w_Type_TOKEN k_w_Type__VALUES h0 n0 Z0 S_Type__VALUES V_w_Type__VALUES E_w_Type__VALUES) hZ (hw _ (List.mem_of_getElem? (i := 6) rfl)) (hw _ (List.mem_of_getElem? (i := 2) rfl)) (by decide) (by decide)) (g := (mkF m 0 #[iv (2 : Int32), .unset, .unset, .unset, .unset] [])) rfl (by rw [hml]; rfl) (argsL := []) (rest := []) (lenOf pd_0 rfl) rfl (by show 2 * 0 + _ ≤ _; exact Nat.le_of_eq rfl) (hb hby d1_0) (fun _ _ => ⟨rfl, e0, (by decide : 0 + 1 ≤ _), (by decide : 0 + 15 ≤ _)⟩)
  dsimp only [Pt.U, Pt.locs, Pt.cells, Pt.slots] at X1 l1 y1 z1 st1 hQ1
  subst l1 y1 z1
  obtain ⟨b1_1_0, rfl, N1q, K1, gq_b1_1_0, le_b1_1_0, fq1_0, fq1_1⟩ := hQ1
  have sz_b1_1_0 : h0.size ≤ b1_1_0 := Nat.le_trans (Keep.refl h0 []).1 le_b1_1_0
  have KK1 : Keep h0 T1.heap [] := (Keep.refl h0 []).trans K1 all0
  have Z1 : n0 ≤ T1.heap.size := Nat.le_trans Z0 K1.1
  have N1 := Fr.app N0 N1q
  obtain ⟨cl2, Ar2, -, Sz2, Nn2, -, -⟩ := id fq1_0
  obtain ⟨cl3, Ar3, -, Sz3, Nn3, Hs3, Gs3⟩ := id fq1_0
  have hin3 : ¬ ((0 : Int32) < 0 ∨ cl3.slots.size ≤ ((0 : Int32)).toNatClampNeg) := inb_of Sz3 ⟨by decide, by decide⟩
  have c4 := (F_w_Type_REQUEST_code.keep K1 nin0)
  obtain ⟨T5, X5, e5, st5⟩ := getF X1 hx hZ hown (host := "") (Or.inl (hw _ (List.mem_of_getElem? (i := 34) rfl))) Via.refl rfl c4 (g := (mkF m 21 #[iv (2 : Int32), rv b1_1_0, iv (15 : Int32), iv (0 : Int32), rv w_Type_REQUEST] [(.ref w_Type_REQUEST)])) rfl rfl (hb hby d1_21)
  obtain ⟨cl6, Ar6, -, Sz6, Nn6, Hs6, Gs6⟩ := id fq1_0
  have hin6 : ¬ ((1 : Int32) < 0 ∨ cl6.slots.size ≤ ((1 : Int32)).toNatClampNeg) := inb_of Sz6 ⟨by decide, by decide⟩
  have c7 := (F_w_Type_REPLY_code.keep K1 nin0)
  obtain ⟨T8, X8, e8, st8⟩ := getF X5 hx hZ hown (host := "") (Or.inl (hw _ (List.mem_of_getElem? (i := 34) rfl))) Via.refl e5 c7 (g := (mkF m 21 #[iv (2 : Int32), rv b1_1_0, iv (15 : Int32), iv (1 : Int32), rv w_Type_REPLY] [(.ref w_Type_REPLY)])) rfl rfl (hb hby d1_21)
  obtain ⟨fs, hr, hrun, hended, hW, hsame⟩ := X8.leave (v := (some (.ref w_Type_REPLY))) (fun h => by rw [Bd.returns] at h; cases h)
  refine ⟨_, _, pre0 _ ?_, hrun, hended, _, _, rfl, ?_, ⟨_, rfl⟩, hW, hsame.mono (by decide) (by decide)⟩
  · show Steps p.tables e below (s₁.setTop (mkF m 0 #[iv (2 : Int32), .unset, .unset, .unset, .unset] [])) _
    refine st1 _ ?_
    refine XS.astoreN X1.here hx rfl (hb hby d1_3) rfl rfl (l' := #[iv (2 : Int32), rv b1_1_0, .unset, .unset, .unset]) rfl ?_
    refine XS.aloadN X1.here hx rfl (hb hby d1_4) rfl rfl ?_
    refine X1.arraylength hx Ar2.1 (State.isArrayOf_alike hZ.alike Ar2.2.1) (g := (mkF m 5 #[iv (2 : Int32), rv b1_1_0, .unset, .unset, .unset] [(.ref b1_1_0)])) rfl rfl (hb hby d1_5) _ ?_
    rw [len_of Sz2 Nn2]
    refine XS.istoreN X1.here hx rfl (hb hby d1_6) rfl (l' := #[iv (2 : Int32), rv b1_1_0, iv (15 : Int32), .unset, .unset]) rfl ?_
    refine XS.iconst X1.here hx rfl (hb hby d1_7) ?_
    show Steps p.tables e below (T1.setTop (mkF m 8 #[iv (2 : Int32), rv b1_1_0, iv (15 : Int32), .unset, .unset] [(.int (0 : Int32))])) _
    refine XS.istoreN X1.here hx rfl (hb hby d1_8) rfl (l' := #[iv (2 : Int32), rv b1_1_0, iv (15 : Int32), iv (0 : Int32), .unset]) rfl ?_
    refine XS.iloadN X1.here hx rfl (hb hby d1_9) rfl ?_
    refine XS.iloadN X1.here hx rfl (hb hby d1_10) rfl ?_
    refine XS.icmpNo X1.here hx rfl (hb hby d1_11) rfl (tlt (by decide +kernel : (0 : Int32) < (15 : Int32))).2.1 ?_
    refine XS.aloadN X1.here hx rfl (hb hby d1_14) rfl rfl ?_
    refine XS.iloadN X1.here hx rfl (hb hby d1_15) rfl ?_
    show Steps p.tables e below (T1.setTop (mkF m 16 #[iv (2 : Int32), rv b1_1_0, iv (15 : Int32), iv (0 : Int32), .unset] [(.int (0 : Int32)), (.ref b1_1_0)])) _
    refine X1.aaload hx (j := (0 : Int32)) (v := (.ref w_Type_REQUEST)) Ar3.1 (State.isArrayOf_alike hZ.alike Ar3.2.1) rfl Ar3.2.2 hin3 (Hs3.at hin3 rfl) (g := (mkF m 16 #[iv (2 : Int32), rv b1_1_0, iv (15 : Int32), iv (0 : Int32), .unset] [(.int (0 : Int32)), (.ref b1_1_0)])) rfl rfl (hb hby d1_16) _ ?_
    refine XS.astore X1.here hx rfl (hb hby d1_17) rfl rfl (l' := #[iv (2 : Int32), rv b1_1_0, iv (15 : Int32), iv (0 : Int32), rv w_Type_REQUEST]) rfl ?_
    refine XS.aload X1.here hx rfl (hb hby d1_19) rfl rfl ?_
    refine st5 _ ?_
    refine XS.iloadN X5.here hx rfl (hb hby d1_24) rfl ?_
    refine XS.icmpYes X5.here hx rfl (pc0 := 25) (pc' := 31) rfl (hb hby d1_25) rfl (feq (by decide +kernel : ¬ ((1 : Int32) = (2 : Int32)))).2 (by decide) (by decide) ?_
    show Steps p.tables e below (T5.setTop (mkF m 31 #[iv (2 : Int32), rv b1_1_0, iv (15 : Int32), iv (0 : Int32), rv w_Type_REQUEST] [])) _
    refine XS.iinc X5.here hx rfl (hb hby d1_31) rfl (l' := #[iv (2 : Int32), rv b1_1_0, iv (15 : Int32), iv ((0 : Int32) + (1 : Int32)), rv w_Type_REQUEST]) rfl ?_
    show Steps p.tables e below (T5.setTop (mkF m 34 #[iv (2 : Int32), rv b1_1_0, iv (15 : Int32), iv ((0 : Int32) + (1 : Int32)), rv w_Type_REQUEST] [])) _
    rewrite [show ((0 : Int32) + (1 : Int32)) = (1 : Int32) from by decide +kernel]
    refine XS.goto X5.here hx rfl (pc0 := 34) (pc' := 9) rfl (hb hby d1_34) (by decide) (by decide) ?_
    refine XS.iloadN X5.here hx rfl (hb hby d1_9) rfl ?_
    refine XS.iloadN X5.here hx rfl (hb hby d1_10) rfl ?_
    refine XS.icmpNo X5.here hx rfl (hb hby d1_11) rfl (tlt (by decide +kernel : (1 : Int32) < (15 : Int32))).2.1 ?_
    refine XS.aloadN X5.here hx rfl (hb hby d1_14) rfl rfl ?_
    show Steps p.tables e below (T5.setTop (mkF m 15 #[iv (2 : Int32), rv b1_1_0, iv (15 : Int32), iv (1 : Int32), rv w_Type_REQUEST] [(.ref b1_1_0)])) _
    refine XS.iloadN X5.here hx rfl (hb hby d1_15) rfl ?_
    refine X5.aaload hx (j := (1 : Int32)) (v := (.ref w_Type_REPLY)) (by rw [e5]; exact Ar6.1) (State.isArrayOf_alike hZ.alike Ar6.2.1) rfl Ar6.2.2 hin6 (Hs6.at hin6 rfl) (g := (mkF m 16 #[iv (2 : Int32), rv b1_1_0, iv (15 : Int32), iv (1 : Int32), rv w_Type_REQUEST] [(.int (1 : Int32)), (.ref b1_1_0)])) rfl rfl (hb hby d1_16) _ ?_
    refine XS.astore X5.here hx rfl (hb hby d1_17) rfl rfl (l' := #[iv (2 : Int32), rv b1_1_0, iv (15 : Int32), iv (1 : Int32), rv w_Type_REPLY]) rfl ?_
    refine XS.aload X5.here hx rfl (hb hby d1_19) rfl rfl ?_
    refine st8 _ ?_
    refine XS.iloadN X8.here hx rfl (hb hby d1_24) rfl ?_
    show Steps p.tables e below (T8.setTop (mkF m 25 #[iv (2 : Int32), rv b1_1_0, iv (15 : Int32), iv (1 : Int32), rv w_Type_REPLY] [(.int (2 : Int32)), (.int (2 : Int32))])) _
    refine XS.icmpNo X8.here hx rfl (hb hby d1_25) rfl (teq (by decide +kernel : (2 : Int32) = (2 : Int32))).2 ?_
    refine XS.aload X8.here hx rfl (hb hby d1_28) rfl rfl ?_
    exact own_retA X8 hx Bd.returns rfl rfl (hb hby d1_30) hr
  · exact (by show Q_rk_found_1 Z w_Type_REPLY h0 n0 _ T8.heap _; rw [e8]; exact ⟨rfl, N1, KK1⟩)
def Q_rk_found_2 (Z : State) (w_Type_HEARTBEAT : Addr) (h0 : Heap) (n0 : Nat) (v : Option Value) (h : Heap) (L : List Loc) : Prop := (v = (some (.ref w_Type_HEARTBEAT))) ∧ (Fr n0 L) ∧ (Keep h0 h [])
set_option maxRecDepth 65536 in
set_option maxHeartbeats 40000000 in
theorem rk_found_2 (l : Launch) (Z : State) (a0 : Array Value) (hw : ∀ d ∈ tables_1, d.before a0 Z = true) (ws : List Jvm.Cond) (w_Type__VALUES : Addr) (w_Type_REQUEST : Addr) (w_Type_REPLY : Addr) (w_Type_HEARTBEAT : Addr) (w_Type_ELECTION : Addr) (w_Type_ANSWER : Addr) (w_Type_COORDINATOR : Addr) (w_Type_GRANT : Addr) (w_Type_RELEASE : Addr) (w_Type_HELD : Addr) (w_Type_REPORTED : Addr) (w_Type_LOCKED : Addr) (w_Type_INQUIRE : Addr) (w_Type_FAILED : Addr) (w_Type_RELINQUISH : Addr) (w_Type_TOKEN : Addr) (k_w_Type__VALUES : ClassId) (h0 : Heap) (n0 : Nat) (Z0 : n0 ≤ h0.size) (S_Type__VALUES : Sta Z h0 "com/example/stile/stile/Message$Type" "$VALUES" "[Lcom/example/stile/stile/Message$Type;" (.ref w_Type__VALUES)) (V_w_Type__VALUES : Arv Z h0 w_Type__VALUES k_w_Type__VALUES (.object "com/example/stile/stile/Message$Type") (15 : Int32) [(.ref w_Type_REQUEST), (.ref w_Type_REPLY), (.ref w_Type_HEARTBEAT), (.ref w_Type_ELECTION), (.ref w_Type_ANSWER), (.ref w_Type_COORDINATOR), (.ref w_Type_GRANT), (.ref w_Type_RELEASE), (.ref w_Type_HELD), (.ref w_Type_REPORTED), (.ref w_Type_LOCKED), (.ref w_Type_INQUIRE), (.ref w_Type_FAILED), (.ref w_Type_RELINQUISH), (.ref w_Type_TOKEN)] .null) (E_w_Type__VALUES : Exa Z h0 w_Type__VALUES "[Lcom/example/stile/stile/Message$Type;") (F_w_Type_REQUEST_code : Fld Z h0 w_Type_REQUEST "com/example/stile/stile/Message$Type" "code" "I" (.int (1 : Int32))) (F_w_Type_REPLY_code : Fld Z h0 w_Type_REPLY "com/example/stile/stile/Message$Type" "code" "I" (.int (2 : Int32))) (F_w_Type_HEARTBEAT_code : Fld Z h0 w_Type_HEARTBEAT "com/example/stile/stile/Message$Type" "code" "I" (.int (3 : Int32))) :
    MetFree l (⟨"com/example/stile/stile/Message$Type", "of", "(I)Lcom/example/stile/stile/Message$Type;"⟩ : MethodName) (head1 (Jvm.Cond.code (⟨"com/example/stile/stile/Message$Type", "of", "(I)Lcom/example/stile/stile/Message$Type;"⟩ : MethodName) prog_48_method_8_code 5 (some (.object "com/example/stile/stile/Message$Type")) :: ws) ({ frames := 2, cells := 1, slots := 15, locals := 25 } : Room)) (fun a U => a = #[(.int (3 : Int32))] ∧ Z.Warmed39 U.vm ∧ U.heap = h0) (fun _ _ _ _ _ => True) (fun _ U o U' => ∃ v L, o = .returned v ∧ Q_rk_found_2 Z w_Type_HEARTBEAT h0 n0 v U'.heap L ∧ FrameEnd U o U' L ({ frames := 2, cells := 1, slots := 15, locals := 25 } : Room).cells ({ frames := 2, cells := 1, slots := 15, locals := 25 } : Room).slots) := by
  refine MetFree.of_bodySF (plainFor_of_name pn_0) hisR ?_
  intro p e s m args below meth c s₁ Bd hml0 hP hK
  obtain ⟨rfl, hZ, hh⟩ := hP
  have hx := Bd.exec
  have hby := Bd.bytes
  have hml : c.maxLocals = 5 := hml0
  have hown : s.vm.findClass "com/example/stile/stile/Message$Type" = some m.cls := findClass_of_methodNamed Bd.named
  have hnm := (name_of_methodNamed Bd.named Bd.method).1
  have X0 : Stand p l e ({ frames := 2, cells := 1, slots := 15, locals := 25 } : Room) s m #[(.int (3 : Int32))] below meth c s₁ [] 0 0 := Stand.of_body Bd
  have e0 : s₁.heap = h0 := by rw [← hh, Bd.state]; rfl
  have N0 := Fr.nil n0
  have pre0 : ∀ t, Steps p.tables e below (s₁.setTop (mkF m 0 #[iv (3 : Int32), .unset, .unset, .unset, .unset] [])) t → Steps p.tables e below (s₁.setTop (entryFrame m #[(.int (3 : Int32))] 5)) t := fun t k => castTop (ef_1_I m (3 : Int32)) k
  obtain ⟨_, _, ⟨T1, L1, k1, n1⟩, -, X1, ⟨Lc1, hQ1, l1, y1, z1⟩, st1⟩ := Jvm.LawKit.callS X0 hx (y := (⟨"com/example/stile/stile/Message$Type", "values", "()[Lcom/example/stile/stile/Message$Type;"⟩ : MethodName)) hown (mvT hZ (hw _ (List.mem_of_getElem? (i := 4) rfl))) (mvT hZ (hw _ (List.mem_of_getElem? (i := 5) rfl))) (mvT hZ (hw _ (List.mem_of_getElem? (i := 2) rfl))) (mvT hZ (hw _ (List.mem_of_getElem? (i := 6) rfl))) (by decide) (backOf (W := 0) (rm2_0 l Z a0 hw [] w_Type__VALUES w_Type_REQUEST w_Type_REPLY w_Type_HEARTBEAT w_Type_ELECTION w_Type_ANSWER w_Type_COORDINATOR w_Type_GRANT w_Type_RELEASE w_Type_HELD w_Type_REPORTED w_Type_LOCKED w_Type_INQUIRE w_Type_FAILED w_Type_RELINQUISH w_Type_TOKEN k_w_Type__VALUES h0 n0 Z0 S_Type__VALUES V_w_Type__VALUES E_w_Type__VALUES) hZ (hw _ (List.mem_of_getElem? (i := 6) rfl)) (hw _ (List.mem_of_getElem? (i := 2) rfl)) (by decide) (by decide)) (g := (mkF m 0 #[iv (3 : Int32), .unset, .unset, .unset, .unset] [])) rfl (by rw [hml]; rfl) (argsL := []) (rest := []) (lenOf pd_0 rfl) rfl (by show 2 * 0 + _ ≤ _; exact Nat.le_of_eq rfl) (hb hby d1_0) (fun _ _ => ⟨rfl, e0, (by decide : 0 + 1 ≤ _), (by decide : 0 + 15 ≤ _)⟩)
  dsimp only [Pt.U, Pt.locs, Pt.cells, Pt.slots] at X1 l1 y1 z1 st1 hQ1
  subst l1 y1 z1
  obtain ⟨b1_1_0, rfl, N1q, K1, gq_b1_1_0, le_b1_1_0, fq1_0, fq1_1⟩ := hQ1
  have sz_b1_1_0 : h0.size ≤ b1_1_0 := Nat.le_trans (Keep.refl h0 []).1 le_b1_1_0
  have KK1 : Keep h0 T1.heap [] := (Keep.refl h0 []).trans K1 all0
  have Z1 : n0 ≤ T1.heap.size := Nat.le_trans Z0 K1.1
  have N1 := Fr.app N0 N1q
  obtain ⟨cl2, Ar2, -, Sz2, Nn2, -, -⟩ := id fq1_0
  obtain ⟨cl3, Ar3, -, Sz3, Nn3, Hs3, Gs3⟩ := id fq1_0
  have hin3 : ¬ ((0 : Int32) < 0 ∨ cl3.slots.size ≤ ((0 : Int32)).toNatClampNeg) := inb_of Sz3 ⟨by decide, by decide⟩
  have c4 := (F_w_Type_REQUEST_code.keep K1 nin0)
  obtain ⟨T5, X5, e5, st5⟩ := getF X1 hx hZ hown (host := "") (Or.inl (hw _ (List.mem_of_getElem? (i := 34) rfl))) Via.refl rfl c4 (g := (mkF m 21 #[iv (3 : Int32), rv b1_1_0, iv (15 : Int32), iv (0 : Int32), rv w_Type_REQUEST] [(.ref w_Type_REQUEST)])) rfl rfl (hb hby d1_21)
  obtain ⟨cl6, Ar6, -, Sz6, Nn6, Hs6, Gs6⟩ := id fq1_0
  have hin6 : ¬ ((1 : Int32) < 0 ∨ cl6.slots.size ≤ ((1 : Int32)).toNatClampNeg) := inb_of Sz6 ⟨by decide, by decide⟩
  have c7 := (F_w_Type_REPLY_code.keep K1 nin0)
  obtain ⟨T8, X8, e8, st8⟩ := getF X5 hx hZ hown (host := "") (Or.inl (hw _ (List.mem_of_getElem? (i := 34) rfl))) Via.refl e5 c7 (g := (mkF m 21 #[iv (3 : Int32), rv b1_1_0, iv (15 : Int32), iv (1 : Int32), rv w_Type_REPLY] [(.ref w_Type_REPLY)])) rfl rfl (hb hby d1_21)
  obtain ⟨cl9, Ar9, -, Sz9, Nn9, Hs9, Gs9⟩ := id fq1_0
  have hin9 : ¬ ((2 : Int32) < 0 ∨ cl9.slots.size ≤ ((2 : Int32)).toNatClampNeg) := inb_of Sz9 ⟨by decide, by decide⟩
  have c10 := (F_w_Type_HEARTBEAT_code.keep K1 nin0)
  obtain ⟨T11, X11, e11, st11⟩ := getF X8 hx hZ hown (host := "") (Or.inl (hw _ (List.mem_of_getElem? (i := 34) rfl))) Via.refl e8 c10 (g := (mkF m 21 #[iv (3 : Int32), rv b1_1_0, iv (15 : Int32), iv (2 : Int32), rv w_Type_HEARTBEAT] [(.ref w_Type_HEARTBEAT)])) rfl rfl (hb hby d1_21)
  obtain ⟨fs, hr, hrun, hended, hW, hsame⟩ := X11.leave (v := (some (.ref w_Type_HEARTBEAT))) (fun h => by rw [Bd.returns] at h; cases h)
  refine ⟨_, _, pre0 _ ?_, hrun, hended, _, _, rfl, ?_, ⟨_, rfl⟩, hW, hsame.mono (by decide) (by decide)⟩
  · show Steps p.tables e below (s₁.setTop (mkF m 0 #[iv (3 : Int32), .unset, .unset, .unset, .unset] [])) _
    refine st1 _ ?_
    refine XS.astoreN X1.here hx rfl (hb hby d1_3) rfl rfl (l' := #[iv (3 : Int32), rv b1_1_0, .unset, .unset, .unset]) rfl ?_
    refine XS.aloadN X1.here hx rfl (hb hby d1_4) rfl rfl ?_
    refine X1.arraylength hx Ar2.1 (State.isArrayOf_alike hZ.alike Ar2.2.1) (g := (mkF m 5 #[iv (3 : Int32), rv b1_1_0, .unset, .unset, .unset] [(.ref b1_1_0)])) rfl rfl (hb hby d1_5) _ ?_
    rw [len_of Sz2 Nn2]
    refine XS.istoreN X1.here hx rfl (hb hby d1_6) rfl (l' := #[iv (3 : Int32), rv b1_1_0, iv (15 : Int32), .unset, .unset]) rfl ?_
    refine XS.iconst X1.here hx rfl (hb hby d1_7) ?_
    show Steps p.tables e below (T1.setTop (mkF m 8 #[iv (3 : Int32), rv b1_1_0, iv (15 : Int32), .unset, .unset] [(.int (0 : Int32))])) _
    refine XS.istoreN X1.here hx rfl (hb hby d1_8) rfl (l' := #[iv (3 : Int32), rv b1_1_0, iv (15 : Int32), iv (0 : Int32), .unset]) rfl ?_
    refine XS.iloadN X1.here hx rfl (hb hby d1_9) rfl ?_
    refine XS.iloadN X1.here hx rfl (hb hby d1_10) rfl ?_
    refine XS.icmpNo X1.here hx rfl (hb hby d1_11) rfl (tlt (by decide +kernel : (0 : Int32) < (15 : Int32))).2.1 ?_
    refine XS.aloadN X1.here hx rfl (hb hby d1_14) rfl rfl ?_
    refine XS.iloadN X1.here hx rfl (hb hby d1_15) rfl ?_
    show Steps p.tables e below (T1.setTop (mkF m 16 #[iv (3 : Int32), rv b1_1_0, iv (15 : Int32), iv (0 : Int32), .unset] [(.int (0 : Int32)), (.ref b1_1_0)])) _
    refine X1.aaload hx (j := (0 : Int32)) (v := (.ref w_Type_REQUEST)) Ar3.1 (State.isArrayOf_alike hZ.alike Ar3.2.1) rfl Ar3.2.2 hin3 (Hs3.at hin3 rfl) (g := (mkF m 16 #[iv (3 : Int32), rv b1_1_0, iv (15 : Int32), iv (0 : Int32), .unset] [(.int (0 : Int32)), (.ref b1_1_0)])) rfl rfl (hb hby d1_16) _ ?_
    refine XS.astore X1.here hx rfl (hb hby d1_17) rfl rfl (l' := #[iv (3 : Int32), rv b1_1_0, iv (15 : Int32), iv (0 : Int32), rv w_Type_REQUEST]) rfl ?_
    refine XS.aload X1.here hx rfl (hb hby d1_19) rfl rfl ?_
    refine st5 _ ?_
    refine XS.iloadN X5.here hx rfl (hb hby d1_24) rfl ?_
    refine XS.icmpYes X5.here hx rfl (pc0 := 25) (pc' := 31) rfl (hb hby d1_25) rfl (feq (by decide +kernel : ¬ ((1 : Int32) = (3 : Int32)))).2 (by decide) (by decide) ?_
    show Steps p.tables e below (T5.setTop (mkF m 31 #[iv (3 : Int32), rv b1_1_0, iv (15 : Int32), iv (0 : Int32), rv w_Type_REQUEST] [])) _
    refine XS.iinc X5.here hx rfl (hb hby d1_31) rfl (l' := #[iv (3 : Int32), rv b1_1_0, iv (15 : Int32), iv ((0 : Int32) + (1 : Int32)), rv w_Type_REQUEST]) rfl ?_
    show Steps p.tables e below (T5.setTop (mkF m 34 #[iv (3 : Int32), rv b1_1_0, iv (15 : Int32), iv ((0 : Int32) + (1 : Int32)), rv w_Type_REQUEST] [])) _
    rewrite [show ((0 : Int32) + (1 : Int32)) = (1 : Int32) from by decide +kernel]
    refine XS.goto X5.here hx rfl (pc0 := 34) (pc' := 9) rfl (hb hby d1_34) (by decide) (by decide) ?_
    refine XS.iloadN X5.here hx rfl (hb hby d1_9) rfl ?_
    refine XS.iloadN X5.here hx rfl (hb hby d1_10) rfl ?_
    refine XS.icmpNo X5.here hx rfl (hb hby d1_11) rfl (tlt (by decide +kernel : (1 : Int32) < (15 : Int32))).2.1 ?_
    refine XS.aloadN X5.here hx rfl (hb hby d1_14) rfl rfl ?_
    show Steps p.tables e below (T5.setTop (mkF m 15 #[iv (3 : Int32), rv b1_1_0, iv (15 : Int32), iv (1 : Int32), rv w_Type_REQUEST] [(.ref b1_1_0)])) _
    refine XS.iloadN X5.here hx rfl (hb hby d1_15) rfl ?_
    refine X5.aaload hx (j := (1 : Int32)) (v := (.ref w_Type_REPLY)) (by rw [e5]; exact Ar6.1) (State.isArrayOf_alike hZ.alike Ar6.2.1) rfl Ar6.2.2 hin6 (Hs6.at hin6 rfl) (g := (mkF m 16 #[iv (3 : Int32), rv b1_1_0, iv (15 : Int32), iv (1 : Int32), rv w_Type_REQUEST] [(.int (1 : Int32)), (.ref b1_1_0)])) rfl rfl (hb hby d1_16) _ ?_
    refine XS.astore X5.here hx rfl (hb hby d1_17) rfl rfl (l' := #[iv (3 : Int32), rv b1_1_0, iv (15 : Int32), iv (1 : Int32), rv w_Type_REPLY]) rfl ?_
    refine XS.aload X5.here hx rfl (hb hby d1_19) rfl rfl ?_
    refine st8 _ ?_
    refine XS.iloadN X8.here hx rfl (hb hby d1_24) rfl ?_
    show Steps p.tables e below (T8.setTop (mkF m 25 #[iv (3 : Int32), rv b1_1_0, iv (15 : Int32), iv (1 : Int32), rv w_Type_REPLY] [(.int (3 : Int32)), (.int (2 : Int32))])) _
    refine XS.icmpYes X8.here hx rfl (pc0 := 25) (pc' := 31) rfl (hb hby d1_25) rfl (feq (by decide +kernel : ¬ ((2 : Int32) = (3 : Int32)))).2 (by decide) (by decide) ?_
    refine XS.iinc X8.here hx rfl (hb hby d1_31) rfl (l' := #[iv (3 : Int32), rv b1_1_0, iv (15 : Int32), iv ((1 : Int32) + (1 : Int32)), rv w_Type_REPLY]) rfl ?_
    show Steps p.tables e below (T8.setTop (mkF m 34 #[iv (3 : Int32), rv b1_1_0, iv (15 : Int32), iv ((1 : Int32) + (1 : Int32)), rv w_Type_REPLY] [])) _
    rewrite [show ((1 : Int32) + (1 : Int32)) = (2 : Int32) from by decide +kernel]
    refine XS.goto X8.here hx rfl (pc0 := 34) (pc' := 9) rfl (hb hby d1_34) (by decide) (by decide) ?_
    refine XS.iloadN X8.here hx rfl (hb hby d1_9) rfl ?_
    refine XS.iloadN X8.here hx rfl (hb hby d1_10) rfl ?_
    refine XS.icmpNo X8.here hx rfl (hb hby d1_11) rfl (tlt (by decide +kernel : (2 : Int32) < (15 : Int32))).2.1 ?_
    show Steps p.tables e below (T8.setTop (mkF m 14 #[iv (3 : Int32), rv b1_1_0, iv (15 : Int32), iv (2 : Int32), rv w_Type_REPLY] [])) _
    refine XS.aloadN X8.here hx rfl (hb hby d1_14) rfl rfl ?_
    refine XS.iloadN X8.here hx rfl (hb hby d1_15) rfl ?_
    refine X8.aaload hx (j := (2 : Int32)) (v := (.ref w_Type_HEARTBEAT)) (by rw [e8]; exact Ar9.1) (State.isArrayOf_alike hZ.alike Ar9.2.1) rfl Ar9.2.2 hin9 (Hs9.at hin9 rfl) (g := (mkF m 16 #[iv (3 : Int32), rv b1_1_0, iv (15 : Int32), iv (2 : Int32), rv w_Type_REPLY] [(.int (2 : Int32)), (.ref b1_1_0)])) rfl rfl (hb hby d1_16) _ ?_
    refine XS.astore X8.here hx rfl (hb hby d1_17) rfl rfl (l' := #[iv (3 : Int32), rv b1_1_0, iv (15 : Int32), iv (2 : Int32), rv w_Type_HEARTBEAT]) rfl ?_
    refine XS.aload X8.here hx rfl (hb hby d1_19) rfl rfl ?_
    refine st11 _ ?_
    show Steps p.tables e below (T11.setTop (mkF m 24 #[iv (3 : Int32), rv b1_1_0, iv (15 : Int32), iv (2 : Int32), rv w_Type_HEARTBEAT] [(.int (3 : Int32))])) _
    refine XS.iloadN X11.here hx rfl (hb hby d1_24) rfl ?_
    refine XS.icmpNo X11.here hx rfl (hb hby d1_25) rfl (teq (by decide +kernel : (3 : Int32) = (3 : Int32))).2 ?_
    refine XS.aload X11.here hx rfl (hb hby d1_28) rfl rfl ?_
    exact own_retA X11 hx Bd.returns rfl rfl (hb hby d1_30) hr
  · exact (by show Q_rk_found_2 Z w_Type_HEARTBEAT h0 n0 _ T11.heap _; rw [e11]; exact ⟨rfl, N1, KK1⟩)
def Q_rk_found_3 (Z : State) (w_Type_ELECTION : Addr) (h0 : Heap) (n0 : Nat) (v : Option Value) (h : Heap) (L : List Loc) : Prop := (v = (some (.ref w_Type_ELECTION))) ∧ (Fr n0 L) ∧ (Keep h0 h [])
set_option maxRecDepth 65536 in
set_option maxHeartbeats 40000000 in
theorem rk_found_3 (l : Launch) (Z : State) (a0 : Array Value) (hw : ∀ d ∈ tables_1, d.before a0 Z = true) (ws : List Jvm.Cond) (w_Type__VALUES : Addr) (w_Type_REQUEST : Addr) (w_Type_REPLY : Addr) (w_Type_HEARTBEAT : Addr) (w_Type_ELECTION : Addr) (w_Type_ANSWER : Addr) (w_Type_COORDINATOR : Addr) (w_Type_GRANT : Addr) (w_Type_RELEASE : Addr) (w_Type_HELD : Addr) (w_Type_REPORTED : Addr) (w_Type_LOCKED : Addr) (w_Type_INQUIRE : Addr) (w_Type_FAILED : Addr) (w_Type_RELINQUISH : Addr) (w_Type_TOKEN : Addr) (k_w_Type__VALUES : ClassId) (h0 : Heap) (n0 : Nat) (Z0 : n0 ≤ h0.size) (S_Type__VALUES : Sta Z h0 "com/example/stile/stile/Message$Type" "$VALUES" "[Lcom/example/stile/stile/Message$Type;" (.ref w_Type__VALUES)) (V_w_Type__VALUES : Arv Z h0 w_Type__VALUES k_w_Type__VALUES (.object "com/example/stile/stile/Message$Type") (15 : Int32) [(.ref w_Type_REQUEST), (.ref w_Type_REPLY), (.ref w_Type_HEARTBEAT), (.ref w_Type_ELECTION), (.ref w_Type_ANSWER), (.ref w_Type_COORDINATOR), (.ref w_Type_GRANT), (.ref w_Type_RELEASE), (.ref w_Type_HELD), (.ref w_Type_REPORTED), (.ref w_Type_LOCKED), (.ref w_Type_INQUIRE), (.ref w_Type_FAILED), (.ref w_Type_RELINQUISH), (.ref w_Type_TOKEN)] .null) (E_w_Type__VALUES : Exa Z h0 w_Type__VALUES "[Lcom/example/stile/stile/Message$Type;") (F_w_Type_REQUEST_code : Fld Z h0 w_Type_REQUEST "com/example/stile/stile/Message$Type" "code" "I" (.int (1 : Int32))) (F_w_Type_REPLY_code : Fld Z h0 w_Type_REPLY "com/example/stile/stile/Message$Type" "code" "I" (.int (2 : Int32))) (F_w_Type_HEARTBEAT_code : Fld Z h0 w_Type_HEARTBEAT "com/example/stile/stile/Message$Type" "code" "I" (.int (3 : Int32))) (F_w_Type_ELECTION_code : Fld Z h0 w_Type_ELECTION "com/example/stile/stile/Message$Type" "code" "I" (.int (4 : Int32))) :
    MetFree l (⟨"com/example/stile/stile/Message$Type", "of", "(I)Lcom/example/stile/stile/Message$Type;"⟩ : MethodName) (head1 (Jvm.Cond.code (⟨"com/example/stile/stile/Message$Type", "of", "(I)Lcom/example/stile/stile/Message$Type;"⟩ : MethodName) prog_48_method_8_code 5 (some (.object "com/example/stile/stile/Message$Type")) :: ws) ({ frames := 2, cells := 1, slots := 15, locals := 25 } : Room)) (fun a U => a = #[(.int (4 : Int32))] ∧ Z.Warmed39 U.vm ∧ U.heap = h0) (fun _ _ _ _ _ => True) (fun _ U o U' => ∃ v L, o = .returned v ∧ Q_rk_found_3 Z w_Type_ELECTION h0 n0 v U'.heap L ∧ FrameEnd U o U' L ({ frames := 2, cells := 1, slots := 15, locals := 25 } : Room).cells ({ frames := 2, cells := 1, slots := 15, locals := 25 } : Room).slots) := by
  refine MetFree.of_bodySF (plainFor_of_name pn_0) hisR ?_
  intro p e s m args below meth c s₁ Bd hml0 hP hK
  obtain ⟨rfl, hZ, hh⟩ := hP
  have hx := Bd.exec
  have hby := Bd.bytes
  have hml : c.maxLocals = 5 := hml0
  have hown : s.vm.findClass "com/example/stile/stile/Message$Type" = some m.cls := findClass_of_methodNamed Bd.named
  have hnm := (name_of_methodNamed Bd.named Bd.method).1
  have X0 : Stand p l e ({ frames := 2, cells := 1, slots := 15, locals := 25 } : Room) s m #[(.int (4 : Int32))] below meth c s₁ [] 0 0 := Stand.of_body Bd
  have e0 : s₁.heap = h0 := by rw [← hh, Bd.state]; rfl
  have N0 := Fr.nil n0
  have pre0 : ∀ t, Steps p.tables e below (s₁.setTop (mkF m 0 #[iv (4 : Int32), .unset, .unset, .unset, .unset] [])) t → Steps p.tables e below (s₁.setTop (entryFrame m #[(.int (4 : Int32))] 5)) t := fun t k => castTop (ef_1_I m (4 : Int32)) k
  obtain ⟨_, _, ⟨T1, L1, k1, n1⟩, -, X1, ⟨Lc1, hQ1, l1, y1, z1⟩, st1⟩ := Jvm.LawKit.callS X0 hx (y := (⟨"com/example/stile/stile/Message$Type", "values", "()[Lcom/example/stile/stile/Message$Type;"⟩ : MethodName)) hown (mvT hZ (hw _ (List.mem_of_getElem? (i := 4) rfl))) (mvT hZ (hw _ (List.mem_of_getElem? (i := 5) rfl))) (mvT hZ (hw _ (List.mem_of_getElem? (i := 2) rfl))) (mvT hZ (hw _ (List.mem_of_getElem? (i := 6) rfl))) (by decide) (backOf (W := 0) (rm2_0 l Z a0 hw [] w_Type__VALUES w_Type_REQUEST w_Type_REPLY w_Type_HEARTBEAT w_Type_ELECTION w_Type_ANSWER w_Type_COORDINATOR w_Type_GRANT w_Type_RELEASE w_Type_HELD w_Type_REPORTED w_Type_LOCKED w_Type_INQUIRE w_Type_FAILED w_Type_RELINQUISH w_Type_TOKEN k_w_Type__VALUES h0 n0 Z0 S_Type__VALUES V_w_Type__VALUES E_w_Type__VALUES) hZ (hw _ (List.mem_of_getElem? (i := 6) rfl)) (hw _ (List.mem_of_getElem? (i := 2) rfl)) (by decide) (by decide)) (g := (mkF m 0 #[iv (4 : Int32), .unset, .unset, .unset, .unset] [])) rfl (by rw [hml]; rfl) (argsL := []) (rest := []) (lenOf pd_0 rfl) rfl (by show 2 * 0 + _ ≤ _; exact Nat.le_of_eq rfl) (hb hby d1_0) (fun _ _ => ⟨rfl, e0, (by decide : 0 + 1 ≤ _), (by decide : 0 + 15 ≤ _)⟩)
  dsimp only [Pt.U, Pt.locs, Pt.cells, Pt.slots] at X1 l1 y1 z1 st1 hQ1
  subst l1 y1 z1
  obtain ⟨b1_1_0, rfl, N1q, K1, gq_b1_1_0, le_b1_1_0, fq1_0, fq1_1⟩ := hQ1
  have sz_b1_1_0 : h0.size ≤ b1_1_0 := Nat.le_trans (Keep.refl h0 []).1 le_b1_1_0
  have KK1 : Keep h0 T1.heap [] := (Keep.refl h0 []).trans K1 all0
  have Z1 : n0 ≤ T1.heap.size := Nat.le_trans Z0 K1.1
  have N1 := Fr.app N0 N1q
  obtain ⟨cl2, Ar2, -, Sz2, Nn2, -, -⟩ := id fq1_0
  obtain ⟨cl3, Ar3, -, Sz3, Nn3, Hs3, Gs3⟩ := id fq1_0
  have hin3 : ¬ ((0 : Int32) < 0 ∨ cl3.slots.size ≤ ((0 : Int32)).toNatClampNeg) := inb_of Sz3 ⟨by decide, by decide⟩
  have c4 := (F_w_Type_REQUEST_code.keep K1 nin0)
  obtain ⟨T5, X5, e5, st5⟩ := getF X1 hx hZ hown (host := "") (Or.inl (hw _ (List.mem_of_getElem? (i := 34) rfl))) Via.refl rfl c4 (g := (mkF m 21 #[iv (4 : Int32), rv b1_1_0, iv (15 : Int32), iv (0 : Int32), rv w_Type_REQUEST] [(.ref w_Type_REQUEST)])) rfl rfl (hb hby d1_21)
  obtain ⟨cl6, Ar6, -, Sz6, Nn6, Hs6, Gs6⟩ := id fq1_0
  have hin6 : ¬ ((1 : Int32) < 0 ∨ cl6.slots.size ≤ ((1 : Int32)).toNatClampNeg) := inb_of Sz6 ⟨by decide, by decide⟩
  have c7 := (F_w_Type_REPLY_code.keep K1 nin0)
  obtain ⟨T8, X8, e8, st8⟩ := getF X5 hx hZ hown (host := "") (Or.inl (hw _ (List.mem_of_getElem? (i := 34) rfl))) Via.refl e5 c7 (g := (mkF m 21 #[iv (4 : Int32), rv b1_1_0, iv (15 : Int32), iv (1 : Int32), rv w_Type_REPLY] [(.ref w_Type_REPLY)])) rfl rfl (hb hby d1_21)
  obtain ⟨cl9, Ar9, -, Sz9, Nn9, Hs9, Gs9⟩ := id fq1_0
  have hin9 : ¬ ((2 : Int32) < 0 ∨ cl9.slots.size ≤ ((2 : Int32)).toNatClampNeg) := inb_of Sz9 ⟨by decide, by decide⟩
  have c10 := (F_w_Type_HEARTBEAT_code.keep K1 nin0)
  obtain ⟨T11, X11, e11, st11⟩ := getF X8 hx hZ hown (host := "") (Or.inl (hw _ (List.mem_of_getElem? (i := 34) rfl))) Via.refl e8 c10 (g := (mkF m 21 #[iv (4 : Int32), rv b1_1_0, iv (15 : Int32), iv (2 : Int32), rv w_Type_HEARTBEAT] [(.ref w_Type_HEARTBEAT)])) rfl rfl (hb hby d1_21)
  obtain ⟨cl12, Ar12, -, Sz12, Nn12, Hs12, Gs12⟩ := id fq1_0
  have hin12 : ¬ ((3 : Int32) < 0 ∨ cl12.slots.size ≤ ((3 : Int32)).toNatClampNeg) := inb_of Sz12 ⟨by decide, by decide⟩
  have c13 := (F_w_Type_ELECTION_code.keep K1 nin0)
  obtain ⟨T14, X14, e14, st14⟩ := getF X11 hx hZ hown (host := "") (Or.inl (hw _ (List.mem_of_getElem? (i := 34) rfl))) Via.refl e11 c13 (g := (mkF m 21 #[iv (4 : Int32), rv b1_1_0, iv (15 : Int32), iv (3 : Int32), rv w_Type_ELECTION] [(.ref w_Type_ELECTION)])) rfl rfl (hb hby d1_21)
  obtain ⟨fs, hr, hrun, hended, hW, hsame⟩ := X14.leave (v := (some (.ref w_Type_ELECTION))) (fun h => by rw [Bd.returns] at h; cases h)
  refine ⟨_, _, pre0 _ ?_, hrun, hended, _, _, rfl, ?_, ⟨_, rfl⟩, hW, hsame.mono (by decide) (by decide)⟩
  · show Steps p.tables e below (s₁.setTop (mkF m 0 #[iv (4 : Int32), .unset, .unset, .unset, .unset] [])) _
    refine st1 _ ?_
    refine XS.astoreN X1.here hx rfl (hb hby d1_3) rfl rfl (l' := #[iv (4 : Int32), rv b1_1_0, .unset, .unset, .unset]) rfl ?_
    refine XS.aloadN X1.here hx rfl (hb hby d1_4) rfl rfl ?_
    refine X1.arraylength hx Ar2.1 (State.isArrayOf_alike hZ.alike Ar2.2.1) (g := (mkF m 5 #[iv (4 : Int32), rv b1_1_0, .unset, .unset, .unset] [(.ref b1_1_0)])) rfl rfl (hb hby d1_5) _ ?_
    rw [len_of Sz2 Nn2]
    refine XS.istoreN X1.here hx rfl (hb hby d1_6) rfl (l' := #[iv (4 : Int32), rv b1_1_0, iv (15 : Int32), .unset, .unset]) rfl ?_
    refine XS.iconst X1.here hx rfl (hb hby d1_7) ?_
    show Steps p.tables e below (T1.setTop (mkF m 8 #[iv (4 : Int32), rv b1_1_0, iv (15 : Int32), .unset, .unset] [(.int (0 : Int32))])) _
    refine XS.istoreN X1.here hx rfl (hb hby d1_8) rfl (l' := #[iv (4 : Int32), rv b1_1_0, iv (15 : Int32), iv (0 : Int32), .unset]) rfl ?_
    refine XS.iloadN X1.here hx rfl (hb hby d1_9) rfl ?_
    refine XS.iloadN X1.here hx rfl (hb hby d1_10) rfl ?_
    refine XS.icmpNo X1.here hx rfl (hb hby d1_11) rfl (tlt (by decide +kernel : (0 : Int32) < (15 : Int32))).2.1 ?_
    refine XS.aloadN X1.here hx rfl (hb hby d1_14) rfl rfl ?_
    refine XS.iloadN X1.here hx rfl (hb hby d1_15) rfl ?_
    show Steps p.tables e below (T1.setTop (mkF m 16 #[iv (4 : Int32), rv b1_1_0, iv (15 : Int32), iv (0 : Int32), .unset] [(.int (0 : Int32)), (.ref b1_1_0)])) _
    refine X1.aaload hx (j := (0 : Int32)) (v := (.ref w_Type_REQUEST)) Ar3.1 (State.isArrayOf_alike hZ.alike Ar3.2.1) rfl Ar3.2.2 hin3 (Hs3.at hin3 rfl) (g := (mkF m 16 #[iv (4 : Int32), rv b1_1_0, iv (15 : Int32), iv (0 : Int32), .unset] [(.int (0 : Int32)), (.ref b1_1_0)])) rfl rfl (hb hby d1_16) _ ?_
    refine XS.astore X1.here hx rfl (hb hby d1_17) rfl rfl (l' := #[iv (4 : Int32), rv b1_1_0, iv (15 : Int32), iv (0 : Int32), rv w_Type_REQUEST]) rfl ?_
    refine XS.aload X1.here hx rfl (hb hby d1_19) rfl rfl ?_
    refine st5 _ ?_
    refine XS.iloadN X5.here hx rfl (hb hby d1_24) rfl ?_
    refine XS.icmpYes X5.here hx rfl (pc0 := 25) (pc' := 31) rfl (hb hby d1_25) rfl (feq (by decide +kernel : ¬ ((1 : Int32) = (4 : Int32)))).2 (by decide) (by decide) ?_
    show Steps p.tables e below (T5.setTop (mkF m 31 #[iv (4 : Int32), rv b1_1_0, iv (15 : Int32), iv (0 : Int32), rv w_Type_REQUEST] [])) _
    refine XS.iinc X5.here hx rfl (hb hby d1_31) rfl (l' := #[iv (4 : Int32), rv b1_1_0, iv (15 : Int32), iv ((0 : Int32) + (1 : Int32)), rv w_Type_REQUEST]) rfl ?_
    show Steps p.tables e below (T5.setTop (mkF m 34 #[iv (4 : Int32), rv b1_1_0, iv (15 : Int32), iv ((0 : Int32) + (1 : Int32)), rv w_Type_REQUEST] [])) _
    rewrite [show ((0 : Int32) + (1 : Int32)) = (1 : Int32) from by decide +kernel]
    refine XS.goto X5.here hx rfl (pc0 := 34) (pc' := 9) rfl (hb hby d1_34) (by decide) (by decide) ?_
    refine XS.iloadN X5.here hx rfl (hb hby d1_9) rfl ?_
    refine XS.iloadN X5.here hx rfl (hb hby d1_10) rfl ?_
    refine XS.icmpNo X5.here hx rfl (hb hby d1_11) rfl (tlt (by decide +kernel : (1 : Int32) < (15 : Int32))).2.1 ?_
    refine XS.aloadN X5.here hx rfl (hb hby d1_14) rfl rfl ?_
    show Steps p.tables e below (T5.setTop (mkF m 15 #[iv (4 : Int32), rv b1_1_0, iv (15 : Int32), iv (1 : Int32), rv w_Type_REQUEST] [(.ref b1_1_0)])) _
    refine XS.iloadN X5.here hx rfl (hb hby d1_15) rfl ?_
    refine X5.aaload hx (j := (1 : Int32)) (v := (.ref w_Type_REPLY)) (by rw [e5]; exact Ar6.1) (State.isArrayOf_alike hZ.alike Ar6.2.1) rfl Ar6.2.2 hin6 (Hs6.at hin6 rfl) (g := (mkF m 16 #[iv (4 : Int32), rv b1_1_0, iv (15 : Int32), iv (1 : Int32), rv w_Type_REQUEST] [(.int (1 : Int32)), (.ref b1_1_0)])) rfl rfl (hb hby d1_16) _ ?_
    refine XS.astore X5.here hx rfl (hb hby d1_17) rfl rfl (l' := #[iv (4 : Int32), rv b1_1_0, iv (15 : Int32), iv (1 : Int32), rv w_Type_REPLY]) rfl ?_
    refine XS.aload X5.here hx rfl (hb hby d1_19) rfl rfl ?_
    refine st8 _ ?_
    refine XS.iloadN X8.here hx rfl (hb hby d1_24) rfl ?_
    show Steps p.tables e below (T8.setTop (mkF m 25 #[iv (4 : Int32), rv b1_1_0, iv (15 : Int32), iv (1 : Int32), rv w_Type_REPLY] [(.int (4 : Int32)), (.int (2 : Int32))])) _
    refine XS.icmpYes X8.here hx rfl (pc0 := 25) (pc' := 31) rfl (hb hby d1_25) rfl (feq (by decide +kernel : ¬ ((2 : Int32) = (4 : Int32)))).2 (by decide) (by decide) ?_
    refine XS.iinc X8.here hx rfl (hb hby d1_31) rfl (l' := #[iv (4 : Int32), rv b1_1_0, iv (15 : Int32), iv ((1 : Int32) + (1 : Int32)), rv w_Type_REPLY]) rfl ?_
    show Steps p.tables e below (T8.setTop (mkF m 34 #[iv (4 : Int32), rv b1_1_0, iv (15 : Int32), iv ((1 : Int32) + (1 : Int32)), rv w_Type_REPLY] [])) _
    rewrite [show ((1 : Int32) + (1 : Int32)) = (2 : Int32) from by decide +kernel]
    refine XS.goto X8.here hx rfl (pc0 := 34) (pc' := 9) rfl (hb hby d1_34) (by decide) (by decide) ?_
    refine XS.iloadN X8.here hx rfl (hb hby d1_9) rfl ?_
    refine XS.iloadN X8.here hx rfl (hb hby d1_10) rfl ?_
    refine XS.icmpNo X8.here hx rfl (hb hby d1_11) rfl (tlt (by decide +kernel : (2 : Int32) < (15 : Int32))).2.1 ?_
    show Steps p.tables e below (T8.setTop (mkF m 14 #[iv (4 : Int32), rv b1_1_0, iv (15 : Int32), iv (2 : Int32), rv w_Type_REPLY] [])) _
    refine XS.aloadN X8.here hx rfl (hb hby d1_14) rfl rfl ?_
    refine XS.iloadN X8.here hx rfl (hb hby d1_15) rfl ?_
    refine X8.aaload hx (j := (2 : Int32)) (v := (.ref w_Type_HEARTBEAT)) (by rw [e8]; exact Ar9.1) (State.isArrayOf_alike hZ.alike Ar9.2.1) rfl Ar9.2.2 hin9 (Hs9.at hin9 rfl) (g := (mkF m 16 #[iv (4 : Int32), rv b1_1_0, iv (15 : Int32), iv (2 : Int32), rv w_Type_REPLY] [(.int (2 : Int32)), (.ref b1_1_0)])) rfl rfl (hb hby d1_16) _ ?_
    refine XS.astore X8.here hx rfl (hb hby d1_17) rfl rfl (l' := #[iv (4 : Int32), rv b1_1_0, iv (15 : Int32), iv (2 : Int32), rv w_Type_HEARTBEAT]) rfl ?_
    refine XS.aload X8.here hx rfl (hb hby d1_19) rfl rfl ?_
    refine st11 _ ?_
    show Steps p.tables e below (T11.setTop (mkF m 24 #[iv (4 : Int32), rv b1_1_0, iv (15 : Int32), iv (2 : Int32), rv w_Type_HEARTBEAT] [(.int (3 : Int32))])) _
    refine XS.iloadN X11.here hx rfl (hb hby d1_24) rfl ?_
    refine XS.icmpYes X11.here hx rfl (pc0 := 25) (pc' := 31) rfl (hb hby d1_25) rfl (feq (by decide +kernel : ¬ ((3 : Int32) = (4 : Int32)))).2 (by decide) (by decide) ?_
    refine XS.iinc X11.here hx rfl (hb hby d1_31) rfl (l' := #[iv (4 : Int32), rv b1_1_0, iv (15 : Int32), iv ((2 : Int32) + (1 : Int32)), rv w_Type_HEARTBEAT]) rfl ?_
    show Steps p.tables e below (T11.setTop (mkF m 34 #[iv (4 : Int32), rv b1_1_0, iv (15 : Int32), iv ((2 : Int32) + (1 : Int32)), rv w_Type_HEARTBEAT] [])) _
    rewrite [show ((2 : Int32) + (1 : Int32)) = (3 : Int32) from by decide +kernel]
    refine XS.goto X11.here hx rfl (pc0 := 34) (pc' := 9) rfl (hb hby d1_34) (by decide) (by decide) ?_
    refine XS.iloadN X11.here hx rfl (hb hby d1_9) rfl ?_
    refine XS.iloadN X11.here hx rfl (hb hby d1_10) rfl ?_
    show Steps p.tables e below (T11.setTop (mkF m 11 #[iv (4 : Int32), rv b1_1_0, iv (15 : Int32), iv (3 : Int32), rv w_Type_HEARTBEAT] [(.int (15 : Int32)), (.int (3 : Int32))])) _
    refine XS.icmpNo X11.here hx rfl (hb hby d1_11) rfl (tlt (by decide +kernel : (3 : Int32) < (15 : Int32))).2.1 ?_
    refine XS.aloadN X11.here hx rfl (hb hby d1_14) rfl rfl ?_
    refine XS.iloadN X11.here hx rfl (hb hby d1_15) rfl ?_
    refine X11.aaload hx (j := (3 : Int32)) (v := (.ref w_Type_ELECTION)) (by rw [e11]; exact Ar12.1) (State.isArrayOf_alike hZ.alike Ar12.2.1) rfl Ar12.2.2 hin12 (Hs12.at hin12 rfl) (g := (mkF m 16 #[iv (4 : Int32), rv b1_1_0, iv (15 : Int32), iv (3 : Int32), rv w_Type_HEARTBEAT] [(.int (3 : Int32)), (.ref b1_1_0)])) rfl rfl (hb hby d1_16) _ ?_
    refine XS.astore X11.here hx rfl (hb hby d1_17) rfl rfl (l' := #[iv (4 : Int32), rv b1_1_0, iv (15 : Int32), iv (3 : Int32), rv w_Type_ELECTION]) rfl ?_
    refine XS.aload X11.here hx rfl (hb hby d1_19) rfl rfl ?_
    show Steps p.tables e below (T11.setTop (mkF m 21 #[iv (4 : Int32), rv b1_1_0, iv (15 : Int32), iv (3 : Int32), rv w_Type_ELECTION] [(.ref w_Type_ELECTION)])) _
    refine st14 _ ?_
    refine XS.iloadN X14.here hx rfl (hb hby d1_24) rfl ?_
    refine XS.icmpNo X14.here hx rfl (hb hby d1_25) rfl (teq (by decide +kernel : (4 : Int32) = (4 : Int32))).2 ?_
    refine XS.aload X14.here hx rfl (hb hby d1_28) rfl rfl ?_
    exact own_retA X14 hx Bd.returns rfl rfl (hb hby d1_30) hr
  · exact (by show Q_rk_found_3 Z w_Type_ELECTION h0 n0 _ T14.heap _; rw [e14]; exact ⟨rfl, N1, KK1⟩)
def Q_rk_found_4 (Z : State) (w_Type_ANSWER : Addr) (h0 : Heap) (n0 : Nat) (v : Option Value) (h : Heap) (L : List Loc) : Prop := (v = (some (.ref w_Type_ANSWER))) ∧ (Fr n0 L) ∧ (Keep h0 h [])
set_option maxRecDepth 65536 in
set_option maxHeartbeats 40000000 in
theorem rk_found_4 (l : Launch) (Z : State) (a0 : Array Value) (hw : ∀ d ∈ tables_1, d.before a0 Z = true) (ws : List Jvm.Cond) (w_Type__VALUES : Addr) (w_Type_REQUEST : Addr) (w_Type_REPLY : Addr) (w_Type_HEARTBEAT : Addr) (w_Type_ELECTION : Addr) (w_Type_ANSWER : Addr) (w_Type_COORDINATOR : Addr) (w_Type_GRANT : Addr) (w_Type_RELEASE : Addr) (w_Type_HELD : Addr) (w_Type_REPORTED : Addr) (w_Type_LOCKED : Addr) (w_Type_INQUIRE : Addr) (w_Type_FAILED : Addr) (w_Type_RELINQUISH : Addr) (w_Type_TOKEN : Addr) (k_w_Type__VALUES : ClassId) (h0 : Heap) (n0 : Nat) (Z0 : n0 ≤ h0.size) (S_Type__VALUES : Sta Z h0 "com/example/stile/stile/Message$Type" "$VALUES" "[Lcom/example/stile/stile/Message$Type;" (.ref w_Type__VALUES)) (V_w_Type__VALUES : Arv Z h0 w_Type__VALUES k_w_Type__VALUES (.object "com/example/stile/stile/Message$Type") (15 : Int32) [(.ref w_Type_REQUEST), (.ref w_Type_REPLY), (.ref w_Type_HEARTBEAT), (.ref w_Type_ELECTION), (.ref w_Type_ANSWER), (.ref w_Type_COORDINATOR), (.ref w_Type_GRANT), (.ref w_Type_RELEASE), (.ref w_Type_HELD), (.ref w_Type_REPORTED), (.ref w_Type_LOCKED), (.ref w_Type_INQUIRE), (.ref w_Type_FAILED), (.ref w_Type_RELINQUISH), (.ref w_Type_TOKEN)] .null) (E_w_Type__VALUES : Exa Z h0 w_Type__VALUES "[Lcom/example/stile/stile/Message$Type;") (F_w_Type_REQUEST_code : Fld Z h0 w_Type_REQUEST "com/example/stile/stile/Message$Type" "code" "I" (.int (1 : Int32))) (F_w_Type_REPLY_code : Fld Z h0 w_Type_REPLY "com/example/stile/stile/Message$Type" "code" "I" (.int (2 : Int32))) (F_w_Type_HEARTBEAT_code : Fld Z h0 w_Type_HEARTBEAT "com/example/stile/stile/Message$Type" "code" "I" (.int (3 : Int32))) (F_w_Type_ELECTION_code : Fld Z h0 w_Type_ELECTION "com/example/stile/stile/Message$Type" "code" "I" (.int (4 : Int32))) (F_w_Type_ANSWER_code : Fld Z h0 w_Type_ANSWER "com/example/stile/stile/Message$Type" "code" "I" (.int (5 : Int32))) :
    MetFree l (⟨"com/example/stile/stile/Message$Type", "of", "(I)Lcom/example/stile/stile/Message$Type;"⟩ : MethodName) (head1 (Jvm.Cond.code (⟨"com/example/stile/stile/Message$Type", "of", "(I)Lcom/example/stile/stile/Message$Type;"⟩ : MethodName) prog_48_method_8_code 5 (some (.object "com/example/stile/stile/Message$Type")) :: ws) ({ frames := 2, cells := 1, slots := 15, locals := 25 } : Room)) (fun a U => a = #[(.int (5 : Int32))] ∧ Z.Warmed39 U.vm ∧ U.heap = h0) (fun _ _ _ _ _ => True) (fun _ U o U' => ∃ v L, o = .returned v ∧ Q_rk_found_4 Z w_Type_ANSWER h0 n0 v U'.heap L ∧ FrameEnd U o U' L ({ frames := 2, cells := 1, slots := 15, locals := 25 } : Room).cells ({ frames := 2, cells := 1, slots := 15, locals := 25 } : Room).slots) := by
  refine MetFree.of_bodySF (plainFor_of_name pn_0) hisR ?_
  intro p e s m args below meth c s₁ Bd hml0 hP hK
  obtain ⟨rfl, hZ, hh⟩ := hP
  have hx := Bd.exec
  have hby := Bd.bytes
  have hml : c.maxLocals = 5 := hml0
  have hown : s.vm.findClass "com/example/stile/stile/Message$Type" = some m.cls := findClass_of_methodNamed Bd.named
  have hnm := (name_of_methodNamed Bd.named Bd.method).1
  have X0 : Stand p l e ({ frames := 2, cells := 1, slots := 15, locals := 25 } : Room) s m #[(.int (5 : Int32))] below meth c s₁ [] 0 0 := Stand.of_body Bd
  have e0 : s₁.heap = h0 := by rw [← hh, Bd.state]; rfl
  have N0 := Fr.nil n0
  have pre0 : ∀ t, Steps p.tables e below (s₁.setTop (mkF m 0 #[iv (5 : Int32), .unset, .unset, .unset, .unset] [])) t → Steps p.tables e below (s₁.setTop (entryFrame m #[(.int (5 : Int32))] 5)) t := fun t k => castTop (ef_1_I m (5 : Int32)) k
  obtain ⟨_, _, ⟨T1, L1, k1, n1⟩, -, X1, ⟨Lc1, hQ1, l1, y1, z1⟩, st1⟩ := Jvm.LawKit.callS X0 hx (y := (⟨"com/example/stile/stile/Message$Type", "values", "()[Lcom/example/stile/stile/Message$Type;"⟩ : MethodName)) hown (mvT hZ (hw _ (List.mem_of_getElem? (i := 4) rfl))) (mvT hZ (hw _ (List.mem_of_getElem? (i := 5) rfl))) (mvT hZ (hw _ (List.mem_of_getElem? (i := 2) rfl))) (mvT hZ (hw _ (List.mem_of_getElem? (i := 6) rfl))) (by decide) (backOf (W := 0) (rm2_0 l Z a0 hw [] w_Type__VALUES w_Type_REQUEST w_Type_REPLY w_Type_HEARTBEAT w_Type_ELECTION w_Type_ANSWER w_Type_COORDINATOR w_Type_GRANT w_Type_RELEASE w_Type_HELD w_Type_REPORTED w_Type_LOCKED w_Type_INQUIRE w_Type_FAILED w_Type_RELINQUISH w_Type_TOKEN k_w_Type__VALUES h0 n0 Z0 S_Type__VALUES V_w_Type__VALUES E_w_Type__VALUES) hZ (hw _ (List.mem_of_getElem? (i := 6) rfl)) (hw _ (List.mem_of_getElem? (i := 2) rfl)) (by decide) (by decide)) (g := (mkF m 0 #[iv (5 : Int32), .unset, .unset, .unset, .unset] [])) rfl (by rw [hml]; rfl) (argsL := []) (rest := []) (lenOf pd_0 rfl) rfl (by show 2 * 0 + _ ≤ _; exact Nat.le_of_eq rfl) (hb hby d1_0) (fun _ _ => ⟨rfl, e0, (by decide : 0 + 1 ≤ _), (by decide : 0 + 15 ≤ _)⟩)
  dsimp only [Pt.U, Pt.locs, Pt.cells, Pt.slots] at X1 l1 y1 z1 st1 hQ1
  subst l1 y1 z1
  obtain ⟨b1_1_0, rfl, N1q, K1, gq_b1_1_0, le_b1_1_0, fq1_0, fq1_1⟩ := hQ1
  have sz_b1_1_0 : h0.size ≤ b1_1_0 := Nat.le_trans (Keep.refl h0 []).1 le_b1_1_0
  have KK1 : Keep h0 T1.heap [] := (Keep.refl h0 []).trans K1 all0
  have Z1 : n0 ≤ T1.heap.size := Nat.le_trans Z0 K1.1
  have N1 := Fr.app N0 N1q
  obtain ⟨cl2, Ar2, -, Sz2, Nn2, -, -⟩ := id fq1_0
  obtain ⟨cl3, Ar3, -, Sz3, Nn3, Hs3, Gs3⟩ := id fq1_0
  have hin3 : ¬ ((0 : Int32) < 0 ∨ cl3.slots.size ≤ ((0 : Int32)).toNatClampNeg) := inb_of Sz3 ⟨by decide, by decide⟩
  have c4 := (F_w_Type_REQUEST_code.keep K1 nin0)
  obtain ⟨T5, X5, e5, st5⟩ := getF X1 hx hZ hown (host := "") (Or.inl (hw _ (List.mem_of_getElem? (i := 34) rfl))) Via.refl rfl c4 (g := (mkF m 21 #[iv (5 : Int32), rv b1_1_0, iv (15 : Int32), iv (0 : Int32), rv w_Type_REQUEST] [(.ref w_Type_REQUEST)])) rfl rfl (hb hby d1_21)
  obtain ⟨cl6, Ar6, -, Sz6, Nn6, Hs6, Gs6⟩ := id fq1_0
  have hin6 : ¬ ((1 : Int32) < 0 ∨ cl6.slots.size ≤ ((1 : Int32)).toNatClampNeg) := inb_of Sz6 ⟨by decide, by decide⟩
  have c7 := (F_w_Type_REPLY_code.keep K1 nin0)
  obtain ⟨T8, X8, e8, st8⟩ := getF X5 hx hZ hown (host := "") (Or.inl (hw _ (List.mem_of_getElem? (i := 34) rfl))) Via.refl e5 c7 (g := (mkF m 21 #[iv (5 : Int32), rv b1_1_0, iv (15 : Int32), iv (1 : Int32), rv w_Type_REPLY] [(.ref w_Type_REPLY)])) rfl rfl (hb hby d1_21)
  obtain ⟨cl9, Ar9, -, Sz9, Nn9, Hs9, Gs9⟩ := id fq1_0
  have hin9 : ¬ ((2 : Int32) < 0 ∨ cl9.slots.size ≤ ((2 : Int32)).toNatClampNeg) := inb_of Sz9 ⟨by decide, by decide⟩
  have c10 := (F_w_Type_HEARTBEAT_code.keep K1 nin0)
  obtain ⟨T11, X11, e11, st11⟩ := getF X8 hx hZ hown (host := "") (Or.inl (hw _ (List.mem_of_getElem? (i := 34) rfl))) Via.refl e8 c10 (g := (mkF m 21 #[iv (5 : Int32), rv b1_1_0, iv (15 : Int32), iv (2 : Int32), rv w_Type_HEARTBEAT] [(.ref w_Type_HEARTBEAT)])) rfl rfl (hb hby d1_21)
  obtain ⟨cl12, Ar12, -, Sz12, Nn12, Hs12, Gs12⟩ := id fq1_0
  have hin12 : ¬ ((3 : Int32) < 0 ∨ cl12.slots.size ≤ ((3 : Int32)).toNatClampNeg) := inb_of Sz12 ⟨by decide, by decide⟩
  have c13 := (F_w_Type_ELECTION_code.keep K1 nin0)
  obtain ⟨T14, X14, e14, st14⟩ := getF X11 hx hZ hown (host := "") (Or.inl (hw _ (List.mem_of_getElem? (i := 34) rfl))) Via.refl e11 c13 (g := (mkF m 21 #[iv (5 : Int32), rv b1_1_0, iv (15 : Int32), iv (3 : Int32), rv w_Type_ELECTION] [(.ref w_Type_ELECTION)])) rfl rfl (hb hby d1_21)
  obtain ⟨cl15, Ar15, -, Sz15, Nn15, Hs15, Gs15⟩ := id fq1_0
  have hin15 : ¬ ((4 : Int32) < 0 ∨ cl15.slots.size ≤ ((4 : Int32)).toNatClampNeg) := inb_of Sz15 ⟨by decide, by decide⟩
  have c16 := (F_w_Type_ANSWER_code.keep K1 nin0)
  obtain ⟨T17, X17, e17, st17⟩ := getF X14 hx hZ hown (host := "") (Or.inl (hw _ (List.mem_of_getElem? (i := 34) rfl))) Via.refl e14 c16 (g := (mkF m 21 #[iv (5 : Int32), rv b1_1_0, iv (15 : Int32), iv (4 : Int32), rv w_Type_ANSWER] [(.ref w_Type_ANSWER)])) rfl rfl (hb hby d1_21)
  obtain ⟨fs, hr, hrun, hended, hW, hsame⟩ := X17.leave (v := (some (.ref w_Type_ANSWER))) (fun h => by rw [Bd.returns] at h; cases h)
  refine ⟨_, _, pre0 _ ?_, hrun, hended, _, _, rfl, ?_, ⟨_, rfl⟩, hW, hsame.mono (by decide) (by decide)⟩
  · show Steps p.tables e below (s₁.setTop (mkF m 0 #[iv (5 : Int32), .unset, .unset, .unset, .unset] [])) _
    refine st1 _ ?_
    refine XS.astoreN X1.here hx rfl (hb hby d1_3) rfl rfl (l' := #[iv (5 : Int32), rv b1_1_0, .unset, .unset, .unset]) rfl ?_
    refine XS.aloadN X1.here hx rfl (hb hby d1_4) rfl rfl ?_
    refine X1.arraylength hx Ar2.1 (State.isArrayOf_alike hZ.alike Ar2.2.1) (g := (mkF m 5 #[iv (5 : Int32), rv b1_1_0, .unset, .unset, .unset] [(.ref b1_1_0)])) rfl rfl (hb hby d1_5) _ ?_
    rw [len_of Sz2 Nn2]
    refine XS.istoreN X1.here hx rfl (hb hby d1_6) rfl (l' := #[iv (5 : Int32), rv b1_1_0, iv (15 : Int32), .unset, .unset]) rfl ?_
    refine XS.iconst X1.here hx rfl (hb hby d1_7) ?_
    show Steps p.tables e below (T1.setTop (mkF m 8 #[iv (5 : Int32), rv b1_1_0, iv (15 : Int32), .unset, .unset] [(.int (0 : Int32))])) _
    refine XS.istoreN X1.here hx rfl (hb hby d1_8) rfl (l' := #[iv (5 : Int32), rv b1_1_0, iv (15 : Int32), iv (0 : Int32), .unset]) rfl ?_
    refine XS.iloadN X1.here hx rfl (hb hby d1_9) rfl ?_
    refine XS.iloadN X1.here hx rfl (hb hby d1_10) rfl ?_
    refine XS.icmpNo X1.here hx rfl (hb hby d1_11) rfl (tlt (by decide +kernel : (0 : Int32) < (15 : Int32))).2.1 ?_
    refine XS.aloadN X1.here hx rfl (hb hby d1_14) rfl rfl ?_
    refine XS.iloadN X1.here hx rfl (hb hby d1_15) rfl ?_
    show Steps p.tables e below (T1.setTop (mkF m 16 #[iv (5 : Int32), rv b1_1_0, iv (15 : Int32), iv (0 : Int32), .unset] [(.int (0 : Int32)), (.ref b1_1_0)])) _
    refine X1.aaload hx (j := (0 : Int32)) (v := (.ref w_Type_REQUEST)) Ar3.1 (State.isArrayOf_alike hZ.alike Ar3.2.1) rfl Ar3.2.2 hin3 (Hs3.at hin3 rfl) (g := (mkF m 16 #[iv (5 : Int32), rv b1_1_0, iv (15 : Int32), iv (0 : Int32), .unset] [(.int (0 : Int32)), (.ref b1_1_0)])) rfl rfl (hb hby d1_16) _ ?_
    refine XS.astore X1.here hx rfl (hb hby d1_17) rfl rfl (l' := #[iv (5 : Int32), rv b1_1_0, iv (15 : Int32), iv (0 : Int32), rv w_Type_REQUEST]) rfl ?_
    refine XS.aload X1.here hx rfl (hb hby d1_19) rfl rfl ?_
    refine st5 _ ?_
    refine XS.iloadN X5.here hx rfl (hb hby d1_24) rfl ?_
    refine XS.icmpYes X5.here hx rfl (pc0 := 25) (pc' := 31) rfl (hb hby d1_25) rfl (feq (by decide +kernel : ¬ ((1 : Int32) = (5 : Int32)))).2 (by decide) (by decide) ?_
    show Steps p.tables e below (T5.setTop (mkF m 31 #[iv (5 : Int32), rv b1_1_0, iv (15 : Int32), iv (0 : Int32), rv w_Type_REQUEST] [])) _
    refine XS.iinc X5.here hx rfl (hb hby d1_31) rfl (l' := #[iv (5 : Int32), rv b1_1_0, iv (15 : Int32), iv ((0 : Int32) + (1 : Int32)), rv w_Type_REQUEST]) rfl ?_
    show Steps p.tables e below (T5.setTop (mkF m 34 #[iv (5 : Int32), rv b1_1_0, iv (15 : Int32), iv ((0 : Int32) + (1 : Int32)), rv w_Type_REQUEST] [])) _
    rewrite [show ((0 : Int32) + (1 : Int32)) = (1 : Int32) from by decide +kernel]
    refine XS.goto X5.here hx rfl (pc0 := 34) (pc' := 9) rfl (hb hby d1_34) (by decide) (by decide) ?_
    refine XS.iloadN X5.here hx rfl (hb hby d1_9) rfl ?_
    refine XS.iloadN X5.here hx rfl (hb hby d1_10) rfl ?_
    refine XS.icmpNo X5.here hx rfl (hb hby d1_11) rfl (tlt (by decide +kernel : (1 : Int32) < (15 : Int32))).2.1 ?_
    refine XS.aloadN X5.here hx rfl (hb hby d1_14) rfl rfl ?_
    show Steps p.tables e below (T5.setTop (mkF m 15 #[iv (5 : Int32), rv b1_1_0, iv (15 : Int32), iv (1 : Int32), rv w_Type_REQUEST] [(.ref b1_1_0)])) _
    refine XS.iloadN X5.here hx rfl (hb hby d1_15) rfl ?_
    refine X5.aaload hx (j := (1 : Int32)) (v := (.ref w_Type_REPLY)) (by rw [e5]; exact Ar6.1) (State.isArrayOf_alike hZ.alike Ar6.2.1) rfl Ar6.2.2 hin6 (Hs6.at hin6 rfl) (g := (mkF m 16 #[iv (5 : Int32), rv b1_1_0, iv (15 : Int32), iv (1 : Int32), rv w_Type_REQUEST] [(.int (1 : Int32)), (.ref b1_1_0)])) rfl rfl (hb hby d1_16) _ ?_
    refine XS.astore X5.here hx rfl (hb hby d1_17) rfl rfl (l' := #[iv (5 : Int32), rv b1_1_0, iv (15 : Int32), iv (1 : Int32), rv w_Type_REPLY]) rfl ?_
    refine XS.aload X5.here hx rfl (hb hby d1_19) rfl rfl ?_
    refine st8 _ ?_
    refine XS.iloadN X8.here hx rfl (hb hby d1_24) rfl ?_
    show Steps p.tables e below (T8.setTop (mkF m 25 #[iv (5 : Int32), rv b1_1_0, iv (15 : Int32), iv (1 : Int32), rv w_Type_REPLY] [(.int (5 : Int32)), (.int (2 : Int32))])) _
    refine XS.icmpYes X8.here hx rfl (pc0 := 25) (pc' := 31) rfl (hb hby d1_25) rfl (feq (by decide +kernel : ¬ ((2 : Int32) = (5 : Int32)))).2 (by decide) (by decide) ?_
    refine XS.iinc X8.here hx rfl (hb hby d1_31) rfl (l' := #[iv (5 : Int32), rv b1_1_0, iv (15 : Int32), iv ((1 : Int32) + (1 : Int32)), rv w_Type_REPLY]) rfl ?_
    show Steps p.tables e below (T8.setTop (mkF m 34 #[iv (5 : Int32), rv b1_1_0, iv (15 : Int32), iv ((1 : Int32) + (1 : Int32)), rv w_Type_REPLY] [])) _
    rewrite [show ((1 : Int32) + (1 : Int32)) = (2 : Int32) from by decide +kernel]
    refine XS.goto X8.here hx rfl (pc0 := 34) (pc' := 9) rfl (hb hby d1_34) (by decide) (by decide) ?_
    refine XS.iloadN X8.here hx rfl (hb hby d1_9) rfl ?_
    refine XS.iloadN X8.here hx rfl (hb hby d1_10) rfl ?_
    refine XS.icmpNo X8.here hx rfl (hb hby d1_11) rfl (tlt (by decide +kernel : (2 : Int32) < (15 : Int32))).2.1 ?_
    show Steps p.tables e below (T8.setTop (mkF m 14 #[iv (5 : Int32), rv b1_1_0, iv (15 : Int32), iv (2 : Int32), rv w_Type_REPLY] [])) _
    refine XS.aloadN X8.here hx rfl (hb hby d1_14) rfl rfl ?_
    refine XS.iloadN X8.here hx rfl (hb hby d1_15) rfl ?_
    refine X8.aaload hx (j := (2 : Int32)) (v := (.ref w_Type_HEARTBEAT)) (by rw [e8]; exact Ar9.1) (State.isArrayOf_alike hZ.alike Ar9.2.1) rfl Ar9.2.2 hin9 (Hs9.at hin9 rfl) (g := (mkF m 16 #[iv (5 : Int32), rv b1_1_0, iv (15 : Int32), iv (2 : Int32), rv w_Type_REPLY] [(.int (2 : Int32)), (.ref b1_1_0)])) rfl rfl (hb hby d1_16) _ ?_
    refine XS.astore X8.here hx rfl (hb hby d1_17) rfl rfl (l' := #[iv (5 : Int32), rv b1_1_0, iv (15 : Int32), iv (2 : Int32), rv w_Type_HEARTBEAT]) rfl ?_
    refine XS.aload X8.here hx rfl (hb hby d1_19) rfl rfl ?_
    refine st11 _ ?_
    show Steps p.tables e below (T11.setTop (mkF m 24 #[iv (5 : Int32), rv b1_1_0, iv (15 : Int32), iv (2 : Int32), rv w_Type_HEARTBEAT] [(.int (3 : Int32))])) _
    refine XS.iloadN X11.here hx rfl (hb hby d1_24) rfl ?_
    refine XS.icmpYes X11.here hx rfl (pc0 := 25) (pc' := 31) rfl (hb hby d1_25) rfl (feq (by decide +kernel : ¬ ((3 : Int32) = (5 : Int32)))).2 (by decide) (by decide) ?_
    refine XS.iinc X11.here hx rfl (hb hby d1_31) rfl (l' := #[iv (5 : Int32), rv b1_1_0, iv (15 : Int32), iv ((2 : Int32) + (1 : Int32)), rv w_Type_HEARTBEAT]) rfl ?_
    show Steps p.tables e below (T11.setTop (mkF m 34 #[iv (5 : Int32), rv b1_1_0, iv (15 : Int32), iv ((2 : Int32) + (1 : Int32)), rv w_Type_HEARTBEAT] [])) _
    rewrite [show ((2 : Int32) + (1 : Int32)) = (3 : Int32) from by decide +kernel]
    refine XS.goto X11.here hx rfl (pc0 := 34) (pc' := 9) rfl (hb hby d1_34) (by decide) (by decide) ?_
    refine XS.iloadN X11.here hx rfl (hb hby d1_9) rfl ?_
    refine XS.iloadN X11.here hx rfl (hb hby d1_10) rfl ?_
    show Steps p.tables e below (T11.setTop (mkF m 11 #[iv (5 : Int32), rv b1_1_0, iv (15 : Int32), iv (3 : Int32), rv w_Type_HEARTBEAT] [(.int (15 : Int32)), (.int (3 : Int32))])) _
    refine XS.icmpNo X11.here hx rfl (hb hby d1_11) rfl (tlt (by decide +kernel : (3 : Int32) < (15 : Int32))).2.1 ?_
    refine XS.aloadN X11.here hx rfl (hb hby d1_14) rfl rfl ?_
    refine XS.iloadN X11.here hx rfl (hb hby d1_15) rfl ?_
    refine X11.aaload hx (j := (3 : Int32)) (v := (.ref w_Type_ELECTION)) (by rw [e11]; exact Ar12.1) (State.isArrayOf_alike hZ.alike Ar12.2.1) rfl Ar12.2.2 hin12 (Hs12.at hin12 rfl) (g := (mkF m 16 #[iv (5 : Int32), rv b1_1_0, iv (15 : Int32), iv (3 : Int32), rv w_Type_HEARTBEAT] [(.int (3 : Int32)), (.ref b1_1_0)])) rfl rfl (hb hby d1_16) _ ?_
    refine XS.astore X11.here hx rfl (hb hby d1_17) rfl rfl (l' := #[iv (5 : Int32), rv b1_1_0, iv (15 : Int32), iv (3 : Int32), rv w_Type_ELECTION]) rfl ?_
    refine XS.aload X11.here hx rfl (hb hby d1_19) rfl rfl ?_
    show Steps p.tables e below (T11.setTop (mkF m 21 #[iv (5 : Int32), rv b1_1_0, iv (15 : Int32), iv (3 : Int32), rv w_Type_ELECTION] [(.ref w_Type_ELECTION)])) _
    refine st14 _ ?_
    refine XS.iloadN X14.here hx rfl (hb hby d1_24) rfl ?_
    refine XS.icmpYes X14.here hx rfl (pc0 := 25) (pc' := 31) rfl (hb hby d1_25) rfl (feq (by decide +kernel : ¬ ((4 : Int32) = (5 : Int32)))).2 (by decide) (by decide) ?_
    refine XS.iinc X14.here hx rfl (hb hby d1_31) rfl (l' := #[iv (5 : Int32), rv b1_1_0, iv (15 : Int32), iv ((3 : Int32) + (1 : Int32)), rv w_Type_ELECTION]) rfl ?_
    show Steps p.tables e below (T14.setTop (mkF m 34 #[iv (5 : Int32), rv b1_1_0, iv (15 : Int32), iv ((3 : Int32) + (1 : Int32)), rv w_Type_ELECTION] [])) _
    rewrite [show ((3 : Int32) + (1 : Int32)) = (4 : Int32) from by decide +kernel]
    refine XS.goto X14.here hx rfl (pc0 := 34) (pc' := 9) rfl (hb hby d1_34) (by decide) (by decide) ?_
    refine XS.iloadN X14.here hx rfl (hb hby d1_9) rfl ?_
    show Steps p.tables e below (T14.setTop (mkF m 10 #[iv (5 : Int32), rv b1_1_0, iv (15 : Int32), iv (4 : Int32), rv w_Type_ELECTION] [(.int (4 : Int32))])) _
    refine XS.iloadN X14.here hx rfl (hb hby d1_10) rfl ?_
    refine XS.icmpNo X14.here hx rfl (hb hby d1_11) rfl (tlt (by decide +kernel : (4 : Int32) < (15 : Int32))).2.1 ?_
    refine XS.aloadN X14.here hx rfl (hb hby d1_14) rfl rfl ?_
    refine XS.iloadN X14.here hx rfl (hb hby d1_15) rfl ?_
    refine X14.aaload hx (j := (4 : Int32)) (v := (.ref w_Type_ANSWER)) (by rw [e14]; exact Ar15.1) (State.isArrayOf_alike hZ.alike Ar15.2.1) rfl Ar15.2.2 hin15 (Hs15.at hin15 rfl) (g := (mkF m 16 #[iv (5 : Int32), rv b1_1_0, iv (15 : Int32), iv (4 : Int32), rv w_Type_ELECTION] [(.int (4 : Int32)), (.ref b1_1_0)])) rfl rfl (hb hby d1_16) _ ?_
    refine XS.astore X14.here hx rfl (hb hby d1_17) rfl rfl (l' := #[iv (5 : Int32), rv b1_1_0, iv (15 : Int32), iv (4 : Int32), rv w_Type_ANSWER]) rfl ?_
    show Steps p.tables e below (T14.setTop (mkF m 19 #[iv (5 : Int32), rv b1_1_0, iv (15 : Int32), iv (4 : Int32), rv w_Type_ANSWER] [])) _
    refine XS.aload X14.here hx rfl (hb hby d1_19) rfl rfl ?_
    refine st17 _ ?_
    refine XS.iloadN X17.here hx rfl (hb hby d1_24) rfl ?_
    refine XS.icmpNo X17.here hx rfl (hb hby d1_25) rfl (teq (by decide +kernel : (5 : Int32) = (5 : Int32))).2 ?_
    refine XS.aload X17.here hx rfl (hb hby d1_28) rfl rfl ?_
    exact own_retA X17 hx Bd.returns rfl rfl (hb hby d1_30) hr
  · exact (by show Q_rk_found_4 Z w_Type_ANSWER h0 n0 _ T17.heap _; rw [e17]; exact ⟨rfl, N1, KK1⟩)
def Q_rk_found_5 (Z : State) (w_Type_COORDINATOR : Addr) (h0 : Heap) (n0 : Nat) (v : Option Value) (h : Heap) (L : List Loc) : Prop := (v = (some (.ref w_Type_COORDINATOR))) ∧ (Fr n0 L) ∧ (Keep h0 h [])
set_option maxRecDepth 65536 in
set_option maxHeartbeats 40000000 in
theorem rk_found_5 (l : Launch) (Z : State) (a0 : Array Value) (hw : ∀ d ∈ tables_1, d.before a0 Z = true) (ws : List Jvm.Cond) (w_Type__VALUES : Addr) (w_Type_REQUEST : Addr) (w_Type_REPLY : Addr) (w_Type_HEARTBEAT : Addr) (w_Type_ELECTION : Addr) (w_Type_ANSWER : Addr) (w_Type_COORDINATOR : Addr) (w_Type_GRANT : Addr) (w_Type_RELEASE : Addr) (w_Type_HELD : Addr) (w_Type_REPORTED : Addr) (w_Type_LOCKED : Addr) (w_Type_INQUIRE : Addr) (w_Type_FAILED : Addr) (w_Type_RELINQUISH : Addr) (w_Type_TOKEN : Addr) (k_w_Type__VALUES : ClassId) (h0 : Heap) (n0 : Nat) (Z0 : n0 ≤ h0.size) (S_Type__VALUES : Sta Z h0 "com/example/stile/stile/Message$Type" "$VALUES" "[Lcom/example/stile/stile/Message$Type;" (.ref w_Type__VALUES)) (V_w_Type__VALUES : Arv Z h0 w_Type__VALUES k_w_Type__VALUES (.object "com/example/stile/stile/Message$Type") (15 : Int32) [(.ref w_Type_REQUEST), (.ref w_Type_REPLY), (.ref w_Type_HEARTBEAT), (.ref w_Type_ELECTION), (.ref w_Type_ANSWER), (.ref w_Type_COORDINATOR), (.ref w_Type_GRANT), (.ref w_Type_RELEASE), (.ref w_Type_HELD), (.ref w_Type_REPORTED), (.ref w_Type_LOCKED), (.ref w_Type_INQUIRE), (.ref w_Type_FAILED), (.ref w_Type_RELINQUISH), (.ref w_Type_TOKEN)] .null) (E_w_Type__VALUES : Exa Z h0 w_Type__VALUES "[Lcom/example/stile/stile/Message$Type;") (F_w_Type_REQUEST_code : Fld Z h0 w_Type_REQUEST "com/example/stile/stile/Message$Type" "code" "I" (.int (1 : Int32))) (F_w_Type_REPLY_code : Fld Z h0 w_Type_REPLY "com/example/stile/stile/Message$Type" "code" "I" (.int (2 : Int32))) (F_w_Type_HEARTBEAT_code : Fld Z h0 w_Type_HEARTBEAT "com/example/stile/stile/Message$Type" "code" "I" (.int (3 : Int32))) (F_w_Type_ELECTION_code : Fld Z h0 w_Type_ELECTION "com/example/stile/stile/Message$Type" "code" "I" (.int (4 : Int32))) (F_w_Type_ANSWER_code : Fld Z h0 w_Type_ANSWER "com/example/stile/stile/Message$Type" "code" "I" (.int (5 : Int32))) (F_w_Type_COORDINATOR_code : Fld Z h0 w_Type_COORDINATOR "com/example/stile/stile/Message$Type" "code" "I" (.int (6 : Int32))) :
    MetFree l (⟨"com/example/stile/stile/Message$Type", "of", "(I)Lcom/example/stile/stile/Message$Type;"⟩ : MethodName) (head1 (Jvm.Cond.code (⟨"com/example/stile/stile/Message$Type", "of", "(I)Lcom/example/stile/stile/Message$Type;"⟩ : MethodName) prog_48_method_8_code 5 (some (.object "com/example/stile/stile/Message$Type")) :: ws) ({ frames := 2, cells := 1, slots := 15, locals := 25 } : Room)) (fun a U => a = #[(.int (6 : Int32))] ∧ Z.Warmed39 U.vm ∧ U.heap = h0) (fun _ _ _ _ _ => True) (fun _ U o U' => ∃ v L, o = .returned v ∧ Q_rk_found_5 Z w_Type_COORDINATOR h0 n0 v U'.heap L ∧ FrameEnd U o U' L ({ frames := 2, cells := 1, slots := 15, locals := 25 } : Room).cells ({ frames := 2, cells := 1, slots := 15, locals := 25 } : Room).slots) := by
  refine MetFree.of_bodySF (plainFor_of_name pn_0) hisR ?_
  intro p e s m args below meth c s₁ Bd hml0 hP hK
  obtain ⟨rfl, hZ, hh⟩ := hP
  have hx := Bd.exec
  have hby := Bd.bytes
  have hml : c.maxLocals = 5 := hml0
  have hown : s.vm.findClass "com/example/stile/stile/Message$Type" = some m.cls := findClass_of_methodNamed Bd.named
  have hnm := (name_of_methodNamed Bd.named Bd.method).1
  have X0 : Stand p l e ({ frames := 2, cells := 1, slots := 15, locals := 25 } : Room) s m #[(.int (6 : Int32))] below meth c s₁ [] 0 0 := Stand.of_body Bd
  have e0 : s₁.heap = h0 := by rw [← hh, Bd.state]; rfl
  have N0 := Fr.nil n0
  have pre0 : ∀ t, Steps p.tables e below (s₁.setTop (mkF m 0 #[iv (6 : Int32), .unset, .unset, .unset, .unset] [])) t → Steps p.tables e below (s₁.setTop (entryFrame m #[(.int (6 : Int32))] 5)) t := fun t k => castTop (ef_1_I m (6 : Int32)) k
  obtain ⟨_, _, ⟨T1, L1, k1, n1⟩, -, X1, ⟨Lc1, hQ1, l1, y1, z1⟩, st1⟩ := Jvm.LawKit.callS X0 hx (y := (⟨"com/example/stile/stile/Message$Type", "values", "()[Lcom/example/stile/stile/Message$Type;"⟩ : MethodName)) hown (mvT hZ (hw _ (List.mem_of_getElem? (i := 4) rfl))) (mvT hZ (hw _ (List.mem_of_getElem? (i := 5) rfl))) (mvT hZ (hw _ (List.mem_of_getElem? (i := 2) rfl))) (mvT hZ (hw _ (List.mem_of_getElem? (i := 6) rfl))) (by decide) (backOf (W := 0) (rm2_0 l Z a0 hw [] w_Type__VALUES w_Type_REQUEST w_Type_REPLY w_Type_HEARTBEAT w_Type_ELECTION w_Type_ANSWER w_Type_COORDINATOR w_Type_GRANT w_Type_RELEASE w_Type_HELD w_Type_REPORTED w_Type_LOCKED w_Type_INQUIRE w_Type_FAILED w_Type_RELINQUISH w_Type_TOKEN k_w_Type__VALUES h0 n0 Z0 S_Type__VALUES V_w_Type__VALUES E_w_Type__VALUES) hZ (hw _ (List.mem_of_getElem? (i := 6) rfl)) (hw _ (List.mem_of_getElem? (i := 2) rfl)) (by decide) (by decide)) (g := (mkF m 0 #[iv (6 : Int32), .unset, .unset, .unset, .unset] [])) rfl (by rw [hml]; rfl) (argsL := []) (rest := []) (lenOf pd_0 rfl) rfl (by show 2 * 0 + _ ≤ _; exact Nat.le_of_eq rfl) (hb hby d1_0) (fun _ _ => ⟨rfl, e0, (by decide : 0 + 1 ≤ _), (by decide : 0 + 15 ≤ _)⟩)
  dsimp only [Pt.U, Pt.locs, Pt.cells, Pt.slots] at X1 l1 y1 z1 st1 hQ1
  subst l1 y1 z1
  obtain ⟨b1_1_0, rfl, N1q, K1, gq_b1_1_0, le_b1_1_0, fq1_0, fq1_1⟩ := hQ1
  have sz_b1_1_0 : h0.size ≤ b1_1_0 := Nat.le_trans (Keep.refl h0 []).1 le_b1_1_0
  have KK1 : Keep h0 T1.heap [] := (Keep.refl h0 []).trans K1 all0
  have Z1 : n0 ≤ T1.heap.size := Nat.le_trans Z0 K1.1
  have N1 := Fr.app N0 N1q
  obtain ⟨cl2, Ar2, -, Sz2, Nn2, -, -⟩ := id fq1_0
  obtain ⟨cl3, Ar3, -, Sz3, Nn3, Hs3, Gs3⟩ := id fq1_0
  have hin3 : ¬ ((0 : Int32) < 0 ∨ cl3.slots.size ≤ ((0 : Int32)).toNatClampNeg) := inb_of Sz3 ⟨by decide, by decide⟩
  have c4 := (F_w_Type_REQUEST_code.keep K1 nin0)
  obtain ⟨T5, X5, e5, st5⟩ := getF X1 hx hZ hown (host := "") (Or.inl (hw _ (List.mem_of_getElem? (i := 34) rfl))) Via.refl rfl c4 (g := (mkF m 21 #[iv (6 : Int32), rv b1_1_0, iv (15 : Int32), iv (0 : Int32), rv w_Type_REQUEST] [(.ref w_Type_REQUEST)])) rfl rfl (hb hby d1_21)
  obtain ⟨cl6, Ar6, -, Sz6, Nn6, Hs6, Gs6⟩ := id fq1_0
  have hin6 : ¬ ((1 : Int32) < 0 ∨ cl6.slots.size ≤ ((1 : Int32)).toNatClampNeg) := inb_of Sz6 ⟨by decide, by decide⟩
  have c7 := (F_w_Type_REPLY_code.keep K1 nin0)
  obtain ⟨T8, X8, e8, st8⟩ := getF X5 hx hZ hown (host := "") (Or.inl (hw _ (List.mem_of_getElem? (i := 34) rfl))) Via.refl e5 c7 (g := (mkF m 21 #[iv (6 : Int32), rv b1_1_0, iv (15 : Int32), iv (1 : Int32), rv w_Type_REPLY] [(.ref w_Type_REPLY)])) rfl rfl (hb hby d1_21)
  obtain ⟨cl9, Ar9, -, Sz9, Nn9, Hs9, Gs9⟩ := id fq1_0
  have hin9 : ¬ ((2 : Int32) < 0 ∨ cl9.slots.size ≤ ((2 : Int32)).toNatClampNeg) := inb_of Sz9 ⟨by decide, by decide⟩
  have c10 := (F_w_Type_HEARTBEAT_code.keep K1 nin0)
  obtain ⟨T11, X11, e11, st11⟩ := getF X8 hx hZ hown (host := "") (Or.inl (hw _ (List.mem_of_getElem? (i := 34) rfl))) Via.refl e8 c10 (g := (mkF m 21 #[iv (6 : Int32), rv b1_1_0, iv (15 : Int32), iv (2 : Int32), rv w_Type_HEARTBEAT] [(.ref w_Type_HEARTBEAT)])) rfl rfl (hb hby d1_21)
  obtain ⟨cl12, Ar12, -, Sz12, Nn12, Hs12, Gs12⟩ := id fq1_0
  have hin12 : ¬ ((3 : Int32) < 0 ∨ cl12.slots.size ≤ ((3 : Int32)).toNatClampNeg) := inb_of Sz12 ⟨by decide, by decide⟩
  have c13 := (F_w_Type_ELECTION_code.keep K1 nin0)
  obtain ⟨T14, X14, e14, st14⟩ := getF X11 hx hZ hown (host := "") (Or.inl (hw _ (List.mem_of_getElem? (i := 34) rfl))) Via.refl e11 c13 (g := (mkF m 21 #[iv (6 : Int32), rv b1_1_0, iv (15 : Int32), iv (3 : Int32), rv w_Type_ELECTION] [(.ref w_Type_ELECTION)])) rfl rfl (hb hby d1_21)
  obtain ⟨cl15, Ar15, -, Sz15, Nn15, Hs15, Gs15⟩ := id fq1_0
  have hin15 : ¬ ((4 : Int32) < 0 ∨ cl15.slots.size ≤ ((4 : Int32)).toNatClampNeg) := inb_of Sz15 ⟨by decide, by decide⟩
  have c16 := (F_w_Type_ANSWER_code.keep K1 nin0)
  obtain ⟨T17, X17, e17, st17⟩ := getF X14 hx hZ hown (host := "") (Or.inl (hw _ (List.mem_of_getElem? (i := 34) rfl))) Via.refl e14 c16 (g := (mkF m 21 #[iv (6 : Int32), rv b1_1_0, iv (15 : Int32), iv (4 : Int32), rv w_Type_ANSWER] [(.ref w_Type_ANSWER)])) rfl rfl (hb hby d1_21)
  obtain ⟨cl18, Ar18, -, Sz18, Nn18, Hs18, Gs18⟩ := id fq1_0
  have hin18 : ¬ ((5 : Int32) < 0 ∨ cl18.slots.size ≤ ((5 : Int32)).toNatClampNeg) := inb_of Sz18 ⟨by decide, by decide⟩
  have c19 := (F_w_Type_COORDINATOR_code.keep K1 nin0)
  obtain ⟨T20, X20, e20, st20⟩ := getF X17 hx hZ hown (host := "") (Or.inl (hw _ (List.mem_of_getElem? (i := 34) rfl))) Via.refl e17 c19 (g := (mkF m 21 #[iv (6 : Int32), rv b1_1_0, iv (15 : Int32), iv (5 : Int32), rv w_Type_COORDINATOR] [(.ref w_Type_COORDINATOR)])) rfl rfl (hb hby d1_21)
  obtain ⟨fs, hr, hrun, hended, hW, hsame⟩ := X20.leave (v := (some (.ref w_Type_COORDINATOR))) (fun h => by rw [Bd.returns] at h; cases h)
  refine ⟨_, _, pre0 _ ?_, hrun, hended, _, _, rfl, ?_, ⟨_, rfl⟩, hW, hsame.mono (by decide) (by decide)⟩
  · show Steps p.tables e below (s₁.setTop (mkF m 0 #[iv (6 : Int32), .unset, .unset, .unset, .unset] [])) _
    refine st1 _ ?_
    refine XS.astoreN X1.here hx rfl (hb hby d1_3) rfl rfl (l' := #[iv (6 : Int32), rv b1_1_0, .unset, .unset, .unset]) rfl ?_
    refine XS.aloadN X1.here hx rfl (hb hby d1_4) rfl rfl ?_
    refine X1.arraylength hx Ar2.1 (State.isArrayOf_alike hZ.alike Ar2.2.1) (g := (mkF m 5 #[iv (6 : Int32), rv b1_1_0, .unset, .unset, .unset] [(.ref b1_1_0)])) rfl rfl (hb hby d1_5) _ ?_
    rw [len_of Sz2 Nn2]
    refine XS.istoreN X1.here hx rfl (hb hby d1_6) rfl (l' := #[iv (6 : Int32), rv b1_1_0, iv (15 : Int32), .unset, .unset]) rfl ?_
    refine XS.iconst X1.here hx rfl (hb hby d1_7) ?_
    show Steps p.tables e below (T1.setTop (mkF m 8 #[iv (6 : Int32), rv b1_1_0, iv (15 : Int32), .unset, .unset] [(.int (0 : Int32))])) _
    refine XS.istoreN X1.here hx rfl (hb hby d1_8) rfl (l' := #[iv (6 : Int32), rv b1_1_0, iv (15 : Int32), iv (0 : Int32), .unset]) rfl ?_
    refine XS.iloadN X1.here hx rfl (hb hby d1_9) rfl ?_
    refine XS.iloadN X1.here hx rfl (hb hby d1_10) rfl ?_
    refine XS.icmpNo X1.here hx rfl (hb hby d1_11) rfl (tlt (by decide +kernel : (0 : Int32) < (15 : Int32))).2.1 ?_
    refine XS.aloadN X1.here hx rfl (hb hby d1_14) rfl rfl ?_
    refine XS.iloadN X1.here hx rfl (hb hby d1_15) rfl ?_
    show Steps p.tables e below (T1.setTop (mkF m 16 #[iv (6 : Int32), rv b1_1_0, iv (15 : Int32), iv (0 : Int32), .unset] [(.int (0 : Int32)), (.ref b1_1_0)])) _
    refine X1.aaload hx (j := (0 : Int32)) (v := (.ref w_Type_REQUEST)) Ar3.1 (State.isArrayOf_alike hZ.alike Ar3.2.1) rfl Ar3.2.2 hin3 (Hs3.at hin3 rfl) (g := (mkF m 16 #[iv (6 : Int32), rv b1_1_0, iv (15 : Int32), iv (0 : Int32), .unset] [(.int (0 : Int32)), (.ref b1_1_0)])) rfl rfl (hb hby d1_16) _ ?_
    refine XS.astore X1.here hx rfl (hb hby d1_17) rfl rfl (l' := #[iv (6 : Int32), rv b1_1_0, iv (15 : Int32), iv (0 : Int32), rv w_Type_REQUEST]) rfl ?_
    refine XS.aload X1.here hx rfl (hb hby d1_19) rfl rfl ?_
    refine st5 _ ?_
    refine XS.iloadN X5.here hx rfl (hb hby d1_24) rfl ?_
    refine XS.icmpYes X5.here hx rfl (pc0 := 25) (pc' := 31) rfl (hb hby d1_25) rfl (feq (by decide +kernel : ¬ ((1 : Int32) = (6 : Int32)))).2 (by decide) (by decide) ?_
    show Steps p.tables e below (T5.setTop (mkF m 31 #[iv (6 : Int32), rv b1_1_0, iv (15 : Int32), iv (0 : Int32), rv w_Type_REQUEST] [])) _
    refine XS.iinc X5.here hx rfl (hb hby d1_31) rfl (l' := #[iv (6 : Int32), rv b1_1_0, iv (15 : Int32), iv ((0 : Int32) + (1 : Int32)), rv w_Type_REQUEST]) rfl ?_
    show Steps p.tables e below (T5.setTop (mkF m 34 #[iv (6 : Int32), rv b1_1_0, iv (15 : Int32), iv ((0 : Int32) + (1 : Int32)), rv w_Type_REQUEST] [])) _
    rewrite [show ((0 : Int32) + (1 : Int32)) = (1 : Int32) from by decide +kernel]
    refine XS.goto X5.here hx rfl (pc0 := 34) (pc' := 9) rfl (hb hby d1_34) (by decide) (by decide) ?_
    refine XS.iloadN X5.here hx rfl (hb hby d1_9) rfl ?_
    refine XS.iloadN X5.here hx rfl (hb hby d1_10) rfl ?_
    refine XS.icmpNo X5.here hx rfl (hb hby d1_11) rfl (tlt (by decide +kernel : (1 : Int32) < (15 : Int32))).2.1 ?_
    refine XS.aloadN X5.here hx rfl (hb hby d1_14) rfl rfl ?_
    show Steps p.tables e below (T5.setTop (mkF m 15 #[iv (6 : Int32), rv b1_1_0, iv (15 : Int32), iv (1 : Int32), rv w_Type_REQUEST] [(.ref b1_1_0)])) _
    refine XS.iloadN X5.here hx rfl (hb hby d1_15) rfl ?_
    refine X5.aaload hx (j := (1 : Int32)) (v := (.ref w_Type_REPLY)) (by rw [e5]; exact Ar6.1) (State.isArrayOf_alike hZ.alike Ar6.2.1) rfl Ar6.2.2 hin6 (Hs6.at hin6 rfl) (g := (mkF m 16 #[iv (6 : Int32), rv b1_1_0, iv (15 : Int32), iv (1 : Int32), rv w_Type_REQUEST] [(.int (1 : Int32)), (.ref b1_1_0)])) rfl rfl (hb hby d1_16) _ ?_
    refine XS.astore X5.here hx rfl (hb hby d1_17) rfl rfl (l' := #[iv (6 : Int32), rv b1_1_0, iv (15 : Int32), iv (1 : Int32), rv w_Type_REPLY]) rfl ?_
    refine XS.aload X5.here hx rfl (hb hby d1_19) rfl rfl ?_
    refine st8 _ ?_
    refine XS.iloadN X8.here hx rfl (hb hby d1_24) rfl ?_
    show Steps p.tables e below (T8.setTop (mkF m 25 #[iv (6 : Int32), rv b1_1_0, iv (15 : Int32), iv (1 : Int32), rv w_Type_REPLY] [(.int (6 : Int32)), (.int (2 : Int32))])) _
    refine XS.icmpYes X8.here hx rfl (pc0 := 25) (pc' := 31) rfl (hb hby d1_25) rfl (feq (by decide +kernel : ¬ ((2 : Int32) = (6 : Int32)))).2 (by decide) (by decide) ?_
    refine XS.iinc X8.here hx rfl (hb hby d1_31) rfl (l' := #[iv (6 : Int32), rv b1_1_0, iv (15 : Int32), iv ((1 : Int32) + (1 : Int32)), rv w_Type_REPLY]) rfl ?_
    show Steps p.tables e below (T8.setTop (mkF m 34 #[iv (6 : Int32), rv b1_1_0, iv (15 : Int32), iv ((1 : Int32) + (1 : Int32)), rv w_Type_REPLY] [])) _
    rewrite [show ((1 : Int32) + (1 : Int32)) = (2 : Int32) from by decide +kernel]
    refine XS.goto X8.here hx rfl (pc0 := 34) (pc' := 9) rfl (hb hby d1_34) (by decide) (by decide) ?_
    refine XS.iloadN X8.here hx rfl (hb hby d1_9) rfl ?_
    refine XS.iloadN X8.here hx rfl (hb hby d1_10) rfl ?_
    refine XS.icmpNo X8.here hx rfl (hb hby d1_11) rfl (tlt (by decide +kernel : (2 : Int32) < (15 : Int32))).2.1 ?_
    show Steps p.tables e below (T8.setTop (mkF m 14 #[iv (6 : Int32), rv b1_1_0, iv (15 : Int32), iv (2 : Int32), rv w_Type_REPLY] [])) _
    refine XS.aloadN X8.here hx rfl (hb hby d1_14) rfl rfl ?_
    refine XS.iloadN X8.here hx rfl (hb hby d1_15) rfl ?_
    refine X8.aaload hx (j := (2 : Int32)) (v := (.ref w_Type_HEARTBEAT)) (by rw [e8]; exact Ar9.1) (State.isArrayOf_alike hZ.alike Ar9.2.1) rfl Ar9.2.2 hin9 (Hs9.at hin9 rfl) (g := (mkF m 16 #[iv (6 : Int32), rv b1_1_0, iv (15 : Int32), iv (2 : Int32), rv w_Type_REPLY] [(.int (2 : Int32)), (.ref b1_1_0)])) rfl rfl (hb hby d1_16) _ ?_
    refine XS.astore X8.here hx rfl (hb hby d1_17) rfl rfl (l' := #[iv (6 : Int32), rv b1_1_0, iv (15 : Int32), iv (2 : Int32), rv w_Type_HEARTBEAT]) rfl ?_
    refine XS.aload X8.here hx rfl (hb hby d1_19) rfl rfl ?_
    refine st11 _ ?_
    show Steps p.tables e below (T11.setTop (mkF m 24 #[iv (6 : Int32), rv b1_1_0, iv (15 : Int32), iv (2 : Int32), rv w_Type_HEARTBEAT] [(.int (3 : Int32))])) _
    refine XS.iloadN X11.here hx rfl (hb hby d1_24) rfl ?_
    refine XS.icmpYes X11.here hx rfl (pc0 := 25) (pc' := 31) rfl (hb hby d1_25) rfl (feq (by decide +kernel : ¬ ((3 : Int32) = (6 : Int32)))).2 (by decide) (by decide) ?_
    refine XS.iinc X11.here hx rfl (hb hby d1_31) rfl (l' := #[iv (6 : Int32), rv b1_1_0, iv (15 : Int32), iv ((2 : Int32) + (1 : Int32)), rv w_Type_HEARTBEAT]) rfl ?_
    show Steps p.tables e below (T11.setTop (mkF m 34 #[iv (6 : Int32), rv b1_1_0, iv (15 : Int32), iv ((2 : Int32) + (1 : Int32)), rv w_Type_HEARTBEAT] [])) _
    rewrite [show ((2 : Int32) + (1 : Int32)) = (3 : Int32) from by decide +kernel]
    refine XS.goto X11.here hx rfl (pc0 := 34) (pc' := 9) rfl (hb hby d1_34) (by decide) (by decide) ?_
    refine XS.iloadN X11.here hx rfl (hb hby d1_9) rfl ?_
    refine XS.iloadN X11.here hx rfl (hb hby d1_10) rfl ?_
    show Steps p.tables e below (T11.setTop (mkF m 11 #[iv (6 : Int32), rv b1_1_0, iv (15 : Int32), iv (3 : Int32), rv w_Type_HEARTBEAT] [(.int (15 : Int32)), (.int (3 : Int32))])) _
    refine XS.icmpNo X11.here hx rfl (hb hby d1_11) rfl (tlt (by decide +kernel : (3 : Int32) < (15 : Int32))).2.1 ?_
    refine XS.aloadN X11.here hx rfl (hb hby d1_14) rfl rfl ?_
    refine XS.iloadN X11.here hx rfl (hb hby d1_15) rfl ?_
    refine X11.aaload hx (j := (3 : Int32)) (v := (.ref w_Type_ELECTION)) (by rw [e11]; exact Ar12.1) (State.isArrayOf_alike hZ.alike Ar12.2.1) rfl Ar12.2.2 hin12 (Hs12.at hin12 rfl) (g := (mkF m 16 #[iv (6 : Int32), rv b1_1_0, iv (15 : Int32), iv (3 : Int32), rv w_Type_HEARTBEAT] [(.int (3 : Int32)), (.ref b1_1_0)])) rfl rfl (hb hby d1_16) _ ?_
    refine XS.astore X11.here hx rfl (hb hby d1_17) rfl rfl (l' := #[iv (6 : Int32), rv b1_1_0, iv (15 : Int32), iv (3 : Int32), rv w_Type_ELECTION]) rfl ?_
    refine XS.aload X11.here hx rfl (hb hby d1_19) rfl rfl ?_
    show Steps p.tables e below (T11.setTop (mkF m 21 #[iv (6 : Int32), rv b1_1_0, iv (15 : Int32), iv (3 : Int32), rv w_Type_ELECTION] [(.ref w_Type_ELECTION)])) _
    refine st14 _ ?_
    refine XS.iloadN X14.here hx rfl (hb hby d1_24) rfl ?_
    refine XS.icmpYes X14.here hx rfl (pc0 := 25) (pc' := 31) rfl (hb hby d1_25) rfl (feq (by decide +kernel : ¬ ((4 : Int32) = (6 : Int32)))).2 (by decide) (by decide) ?_
    refine XS.iinc X14.here hx rfl (hb hby d1_31) rfl (l' := #[iv (6 : Int32), rv b1_1_0, iv (15 : Int32), iv ((3 : Int32) + (1 : Int32)), rv w_Type_ELECTION]) rfl ?_
    show Steps p.tables e below (T14.setTop (mkF m 34 #[iv (6 : Int32), rv b1_1_0, iv (15 : Int32), iv ((3 : Int32) + (1 : Int32)), rv w_Type_ELECTION] [])) _
    rewrite [show ((3 : Int32) + (1 : Int32)) = (4 : Int32) from by decide +kernel]
    refine XS.goto X14.here hx rfl (pc0 := 34) (pc' := 9) rfl (hb hby d1_34) (by decide) (by decide) ?_
    refine XS.iloadN X14.here hx rfl (hb hby d1_9) rfl ?_
    show Steps p.tables e below (T14.setTop (mkF m 10 #[iv (6 : Int32), rv b1_1_0, iv (15 : Int32), iv (4 : Int32), rv w_Type_ELECTION] [(.int (4 : Int32))])) _
    refine XS.iloadN X14.here hx rfl (hb hby d1_10) rfl ?_
    refine XS.icmpNo X14.here hx rfl (hb hby d1_11) rfl (tlt (by decide +kernel : (4 : Int32) < (15 : Int32))).2.1 ?_
    refine XS.aloadN X14.here hx rfl (hb hby d1_14) rfl rfl ?_
    refine XS.iloadN X14.here hx rfl (hb hby d1_15) rfl ?_
    refine X14.aaload hx (j := (4 : Int32)) (v := (.ref w_Type_ANSWER)) (by rw [e14]; exact Ar15.1) (State.isArrayOf_alike hZ.alike Ar15.2.1) rfl Ar15.2.2 hin15 (Hs15.at hin15 rfl) (g := (mkF m 16 #[iv (6 : Int32), rv b1_1_0, iv (15 : Int32), iv (4 : Int32), rv w_Type_ELECTION] [(.int (4 : Int32)), (.ref b1_1_0)])) rfl rfl (hb hby d1_16) _ ?_
    refine XS.astore X14.here hx rfl (hb hby d1_17) rfl rfl (l' := #[iv (6 : Int32), rv b1_1_0, iv (15 : Int32), iv (4 : Int32), rv w_Type_ANSWER]) rfl ?_
    show Steps p.tables e below (T14.setTop (mkF m 19 #[iv (6 : Int32), rv b1_1_0, iv (15 : Int32), iv (4 : Int32), rv w_Type_ANSWER] [])) _
    refine XS.aload X14.here hx rfl (hb hby d1_19) rfl rfl ?_
    refine st17 _ ?_
    refine XS.iloadN X17.here hx rfl (hb hby d1_24) rfl ?_
    refine XS.icmpYes X17.here hx rfl (pc0 := 25) (pc' := 31) rfl (hb hby d1_25) rfl (feq (by decide +kernel : ¬ ((5 : Int32) = (6 : Int32)))).2 (by decide) (by decide) ?_
    refine XS.iinc X17.here hx rfl (hb hby d1_31) rfl (l' := #[iv (6 : Int32), rv b1_1_0, iv (15 : Int32), iv ((4 : Int32) + (1 : Int32)), rv w_Type_ANSWER]) rfl ?_
    show Steps p.tables e below (T17.setTop (mkF m 34 #[iv (6 : Int32), rv b1_1_0, iv (15 : Int32), iv ((4 : Int32) + (1 : Int32)), rv w_Type_ANSWER] [])) _
    rewrite [show ((4 : Int32) + (1 : Int32)) = (5 : Int32) from by decide +kernel]
    refine XS.goto X17.here hx rfl (pc0 := 34) (pc' := 9) rfl (hb hby d1_34) (by decide) (by decide) ?_
    show Steps p.tables e below (T17.setTop (mkF m 9 #[iv (6 : Int32), rv b1_1_0, iv (15 : Int32), iv (5 : Int32), rv w_Type_ANSWER] [])) _
    refine XS.iloadN X17.here hx rfl (hb hby d1_9) rfl ?_
    refine XS.iloadN X17.here hx rfl (hb hby d1_10) rfl ?_
    refine XS.icmpNo X17.here hx rfl (hb hby d1_11) rfl (tlt (by decide +kernel : (5 : Int32) < (15 : Int32))).2.1 ?_
    refine XS.aloadN X17.here hx rfl (hb hby d1_14) rfl rfl ?_
    refine XS.iloadN X17.here hx rfl (hb hby d1_15) rfl ?_
    refine X17.aaload hx (j := (5 : Int32)) (v := (.ref w_Type_COORDINATOR)) (by rw [e17]; exact Ar18.1) (State.isArrayOf_alike hZ.alike Ar18.2.1) rfl Ar18.2.2 hin18 (Hs18.at hin18 rfl) (g := (mkF m 16 #[iv (6 : Int32), rv b1_1_0, iv (15 : Int32), iv (5 : Int32), rv w_Type_ANSWER] [(.int (5 : Int32)), (.ref b1_1_0)])) rfl rfl (hb hby d1_16) _ ?_
    show Steps p.tables e below (T17.setTop (mkF m 17 #[iv (6 : Int32), rv b1_1_0, iv (15 : Int32), iv (5 : Int32), rv w_Type_ANSWER] [(.ref w_Type_COORDINATOR)])) _
    refine XS.astore X17.here hx rfl (hb hby d1_17) rfl rfl (l' := #[iv (6 : Int32), rv b1_1_0, iv (15 : Int32), iv (5 : Int32), rv w_Type_COORDINATOR]) rfl ?_
    refine XS.aload X17.here hx rfl (hb hby d1_19) rfl rfl ?_
    refine st20 _ ?_
    refine XS.iloadN X20.here hx rfl (hb hby d1_24) rfl ?_
    refine XS.icmpNo X20.here hx rfl (hb hby d1_25) rfl (teq (by decide +kernel : (6 : Int32) = (6 : Int32))).2 ?_
    refine XS.aload X20.here hx rfl (hb hby d1_28) rfl rfl ?_
    show Steps p.tables e below (T20.setTop (mkF m 30 #[iv (6 : Int32), rv b1_1_0, iv (15 : Int32), iv (5 : Int32), rv w_Type_COORDINATOR] [(.ref w_Type_COORDINATOR)])) _
    exact own_retA X20 hx Bd.returns rfl rfl (hb hby d1_30) hr
  · exact (by show Q_rk_found_5 Z w_Type_COORDINATOR h0 n0 _ T20.heap _; rw [e20]; exact ⟨rfl, N1, KK1⟩)
def Q_rk_found_6 (Z : State) (w_Type_GRANT : Addr) (h0 : Heap) (n0 : Nat) (v : Option Value) (h : Heap) (L : List Loc) : Prop := (v = (some (.ref w_Type_GRANT))) ∧ (Fr n0 L) ∧ (Keep h0 h [])
set_option maxRecDepth 65536 in
set_option maxHeartbeats 40000000 in
theorem rk_found_6 (l : Launch) (Z : State) (a0 : Array Value) (hw : ∀ d ∈ tables_1, d.before a0 Z = true) (ws : List Jvm.Cond) (w_Type__VALUES : Addr) (w_Type_REQUEST : Addr) (w_Type_REPLY : Addr) (w_Type_HEARTBEAT : Addr) (w_Type_ELECTION : Addr) (w_Type_ANSWER : Addr) (w_Type_COORDINATOR : Addr) (w_Type_GRANT : Addr) (w_Type_RELEASE : Addr) (w_Type_HELD : Addr) (w_Type_REPORTED : Addr) (w_Type_LOCKED : Addr) (w_Type_INQUIRE : Addr) (w_Type_FAILED : Addr) (w_Type_RELINQUISH : Addr) (w_Type_TOKEN : Addr) (k_w_Type__VALUES : ClassId) (h0 : Heap) (n0 : Nat) (Z0 : n0 ≤ h0.size) (S_Type__VALUES : Sta Z h0 "com/example/stile/stile/Message$Type" "$VALUES" "[Lcom/example/stile/stile/Message$Type;" (.ref w_Type__VALUES)) (V_w_Type__VALUES : Arv Z h0 w_Type__VALUES k_w_Type__VALUES (.object "com/example/stile/stile/Message$Type") (15 : Int32) [(.ref w_Type_REQUEST), (.ref w_Type_REPLY), (.ref w_Type_HEARTBEAT), (.ref w_Type_ELECTION), (.ref w_Type_ANSWER), (.ref w_Type_COORDINATOR), (.ref w_Type_GRANT), (.ref w_Type_RELEASE), (.ref w_Type_HELD), (.ref w_Type_REPORTED), (.ref w_Type_LOCKED), (.ref w_Type_INQUIRE), (.ref w_Type_FAILED), (.ref w_Type_RELINQUISH), (.ref w_Type_TOKEN)] .null) (E_w_Type__VALUES : Exa Z h0 w_Type__VALUES "[Lcom/example/stile/stile/Message$Type;") (F_w_Type_REQUEST_code : Fld Z h0 w_Type_REQUEST "com/example/stile/stile/Message$Type" "code" "I" (.int (1 : Int32))) (F_w_Type_REPLY_code : Fld Z h0 w_Type_REPLY "com/example/stile/stile/Message$Type" "code" "I" (.int (2 : Int32))) (F_w_Type_HEARTBEAT_code : Fld Z h0 w_Type_HEARTBEAT "com/example/stile/stile/Message$Type" "code" "I" (.int (3 : Int32))) (F_w_Type_ELECTION_code : Fld Z h0 w_Type_ELECTION "com/example/stile/stile/Message$Type" "code" "I" (.int (4 : Int32))) (F_w_Type_ANSWER_code : Fld Z h0 w_Type_ANSWER "com/example/stile/stile/Message$Type" "code" "I" (.int (5 : Int32))) (F_w_Type_COORDINATOR_code : Fld Z h0 w_Type_COORDINATOR "com/example/stile/stile/Message$Type" "code" "I" (.int (6 : Int32))) (F_w_Type_GRANT_code : Fld Z h0 w_Type_GRANT "com/example/stile/stile/Message$Type" "code" "I" (.int (7 : Int32))) :
    MetFree l (⟨"com/example/stile/stile/Message$Type", "of", "(I)Lcom/example/stile/stile/Message$Type;"⟩ : MethodName) (head1 (Jvm.Cond.code (⟨"com/example/stile/stile/Message$Type", "of", "(I)Lcom/example/stile/stile/Message$Type;"⟩ : MethodName) prog_48_method_8_code 5 (some (.object "com/example/stile/stile/Message$Type")) :: ws) ({ frames := 2, cells := 1, slots := 15, locals := 25 } : Room)) (fun a U => a = #[(.int (7 : Int32))] ∧ Z.Warmed39 U.vm ∧ U.heap = h0) (fun _ _ _ _ _ => True) (fun _ U o U' => ∃ v L, o = .returned v ∧ Q_rk_found_6 Z w_Type_GRANT h0 n0 v U'.heap L ∧ FrameEnd U o U' L ({ frames := 2, cells := 1, slots := 15, locals := 25 } : Room).cells ({ frames := 2, cells := 1, slots := 15, locals := 25 } : Room).slots) := by
  refine MetFree.of_bodySF (plainFor_of_name pn_0) hisR ?_
  intro p e s m args below meth c s₁ Bd hml0 hP hK
  obtain ⟨rfl, hZ, hh⟩ := hP
  have hx := Bd.exec
  have hby := Bd.bytes
  have hml : c.maxLocals = 5 := hml0
  have hown : s.vm.findClass "com/example/stile/stile/Message$Type" = some m.cls := findClass_of_methodNamed Bd.named
  have hnm := (name_of_methodNamed Bd.named Bd.method).1
  have X0 : Stand p l e ({ frames := 2, cells := 1, slots := 15, locals := 25 } : Room) s m #[(.int (7 : Int32))] below meth c s₁ [] 0 0 := Stand.of_body Bd
  have e0 : s₁.heap = h0 := by rw [← hh, Bd.state]; rfl
  have N0 := Fr.nil n0
  have pre0 : ∀ t, Steps p.tables e below (s₁.setTop (mkF m 0 #[iv (7 : Int32), .unset, .unset, .unset, .unset] [])) t → Steps p.tables e below (s₁.setTop (entryFrame m #[(.int (7 : Int32))] 5)) t := fun t k => castTop (ef_1_I m (7 : Int32)) k
  obtain ⟨_, _, ⟨T1, L1, k1, n1⟩, -, X1, ⟨Lc1, hQ1, l1, y1, z1⟩, st1⟩ := Jvm.LawKit.callS X0 hx (y := (⟨"com/example/stile/stile/Message$Type", "values", "()[Lcom/example/stile/stile/Message$Type;"⟩ : MethodName)) hown (mvT hZ (hw _ (List.mem_of_getElem? (i := 4) rfl))) (mvT hZ (hw _ (List.mem_of_getElem? (i := 5) rfl))) (mvT hZ (hw _ (List.mem_of_getElem? (i := 2) rfl))) (mvT hZ (hw _ (List.mem_of_getElem? (i := 6) rfl))) (by decide) (backOf (W := 0) (rm2_0 l Z a0 hw [] w_Type__VALUES w_Type_REQUEST w_Type_REPLY w_Type_HEARTBEAT w_Type_ELECTION w_Type_ANSWER w_Type_COORDINATOR w_Type_GRANT w_Type_RELEASE w_Type_HELD w_Type_REPORTED w_Type_LOCKED w_Type_INQUIRE w_Type_FAILED w_Type_RELINQUISH w_Type_TOKEN k_w_Type__VALUES h0 n0 Z0 S_Type__VALUES V_w_Type__VALUES E_w_Type__VALUES) hZ (hw _ (List.mem_of_getElem? (i := 6) rfl)) (hw _ (List.mem_of_getElem? (i := 2) rfl)) (by decide) (by decide)) (g := (mkF m 0 #[iv (7 : Int32), .unset, .unset, .unset, .unset] [])) rfl (by rw [hml]; rfl) (argsL := []) (rest := []) (lenOf pd_0 rfl) rfl (by show 2 * 0 + _ ≤ _; exact Nat.le_of_eq rfl) (hb hby d1_0) (fun _ _ => ⟨rfl, e0, (by decide : 0 + 1 ≤ _), (by decide : 0 + 15 ≤ _)⟩)
  dsimp only [Pt.U, Pt.locs, Pt.cells, Pt.slots] at X1 l1 y1 z1 st1 hQ1
  subst l1 y1 z1
  obtain ⟨b1_1_0, rfl, N1q, K1, gq_b1_1_0, le_b1_1_0, fq1_0, fq1_1⟩ := hQ1
  have sz_b1_1_0 : h0.size ≤ b1_1_0 := Nat.le_trans (Keep.refl h0 []).1 le_b1_1_0
  have KK1 : Keep h0 T1.heap [] := (Keep.refl h0 []).trans K1 all0
  have Z1 : n0 ≤ T1.heap.size := Nat.le_trans Z0 K1.1
  have N1 := Fr.app N0 N1q
  obtain ⟨cl2, Ar2, -, Sz2, Nn2, -, -⟩ := id fq1_0
  obtain ⟨cl3, Ar3, -, Sz3, Nn3, Hs3, Gs3⟩ := id fq1_0
  have hin3 : ¬ ((0 : Int32) < 0 ∨ cl3.slots.size ≤ ((0 : Int32)).toNatClampNeg) := inb_of Sz3 ⟨by decide, by decide⟩
  have c4 := (F_w_Type_REQUEST_code.keep K1 nin0)
  obtain ⟨T5, X5, e5, st5⟩ := getF X1 hx hZ hown (host := "") (Or.inl (hw _ (List.mem_of_getElem? (i := 34) rfl))) Via.refl rfl c4 (g := (mkF m 21 #[iv (7 : Int32), rv b1_1_0, iv (15 : Int32), iv (0 : Int32), rv w_Type_REQUEST] [(.ref w_Type_REQUEST)])) rfl rfl (hb hby d1_21)
  obtain ⟨cl6, Ar6, -, Sz6, Nn6, Hs6, Gs6⟩ := id fq1_0
  have hin6 : ¬ ((1 : Int32) < 0 ∨ cl6.slots.size ≤ ((1 : Int32)).toNatClampNeg) := inb_of Sz6 ⟨by decide, by decide⟩
  have c7 := (F_w_Type_REPLY_code.keep K1 nin0)
  obtain ⟨T8, X8, e8, st8⟩ := getF X5 hx hZ hown (host := "") (Or.inl (hw _ (List.mem_of_getElem? (i := 34) rfl))) Via.refl e5 c7 (g := (mkF m 21 #[iv (7 : Int32), rv b1_1_0, iv (15 : Int32), iv (1 : Int32), rv w_Type_REPLY] [(.ref w_Type_REPLY)])) rfl rfl (hb hby d1_21)
  obtain ⟨cl9, Ar9, -, Sz9, Nn9, Hs9, Gs9⟩ := id fq1_0
  have hin9 : ¬ ((2 : Int32) < 0 ∨ cl9.slots.size ≤ ((2 : Int32)).toNatClampNeg) := inb_of Sz9 ⟨by decide, by decide⟩
  have c10 := (F_w_Type_HEARTBEAT_code.keep K1 nin0)
  obtain ⟨T11, X11, e11, st11⟩ := getF X8 hx hZ hown (host := "") (Or.inl (hw _ (List.mem_of_getElem? (i := 34) rfl))) Via.refl e8 c10 (g := (mkF m 21 #[iv (7 : Int32), rv b1_1_0, iv (15 : Int32), iv (2 : Int32), rv w_Type_HEARTBEAT] [(.ref w_Type_HEARTBEAT)])) rfl rfl (hb hby d1_21)
  obtain ⟨cl12, Ar12, -, Sz12, Nn12, Hs12, Gs12⟩ := id fq1_0
  have hin12 : ¬ ((3 : Int32) < 0 ∨ cl12.slots.size ≤ ((3 : Int32)).toNatClampNeg) := inb_of Sz12 ⟨by decide, by decide⟩
  have c13 := (F_w_Type_ELECTION_code.keep K1 nin0)
  obtain ⟨T14, X14, e14, st14⟩ := getF X11 hx hZ hown (host := "") (Or.inl (hw _ (List.mem_of_getElem? (i := 34) rfl))) Via.refl e11 c13 (g := (mkF m 21 #[iv (7 : Int32), rv b1_1_0, iv (15 : Int32), iv (3 : Int32), rv w_Type_ELECTION] [(.ref w_Type_ELECTION)])) rfl rfl (hb hby d1_21)
  obtain ⟨cl15, Ar15, -, Sz15, Nn15, Hs15, Gs15⟩ := id fq1_0
  have hin15 : ¬ ((4 : Int32) < 0 ∨ cl15.slots.size ≤ ((4 : Int32)).toNatClampNeg) := inb_of Sz15 ⟨by decide, by decide⟩
  have c16 := (F_w_Type_ANSWER_code.keep K1 nin0)
  obtain ⟨T17, X17, e17, st17⟩ := getF X14 hx hZ hown (host := "") (Or.inl (hw _ (List.mem_of_getElem? (i := 34) rfl))) Via.refl e14 c16 (g := (mkF m 21 #[iv (7 : Int32), rv b1_1_0, iv (15 : Int32), iv (4 : Int32), rv w_Type_ANSWER] [(.ref w_Type_ANSWER)])) rfl rfl (hb hby d1_21)
  obtain ⟨cl18, Ar18, -, Sz18, Nn18, Hs18, Gs18⟩ := id fq1_0
  have hin18 : ¬ ((5 : Int32) < 0 ∨ cl18.slots.size ≤ ((5 : Int32)).toNatClampNeg) := inb_of Sz18 ⟨by decide, by decide⟩
  have c19 := (F_w_Type_COORDINATOR_code.keep K1 nin0)
  obtain ⟨T20, X20, e20, st20⟩ := getF X17 hx hZ hown (host := "") (Or.inl (hw _ (List.mem_of_getElem? (i := 34) rfl))) Via.refl e17 c19 (g := (mkF m 21 #[iv (7 : Int32), rv b1_1_0, iv (15 : Int32), iv (5 : Int32), rv w_Type_COORDINATOR] [(.ref w_Type_COORDINATOR)])) rfl rfl (hb hby d1_21)
  obtain ⟨cl21, Ar21, -, Sz21, Nn21, Hs21, Gs21⟩ := id fq1_0
  have hin21 : ¬ ((6 : Int32) < 0 ∨ cl21.slots.size ≤ ((6 : Int32)).toNatClampNeg) := inb_of Sz21 ⟨by decide, by decide⟩
  have c22 := (F_w_Type_GRANT_code.keep K1 nin0)
  obtain ⟨T23, X23, e23, st23⟩ := getF X20 hx hZ hown (host := "") (Or.inl (hw _ (List.mem_of_getElem? (i := 34) rfl))) Via.refl e20 c22 (g := (mkF m 21 #[iv (7 : Int32), rv b1_1_0, iv (15 : Int32), iv (6 : Int32), rv w_Type_GRANT] [(.ref w_Type_GRANT)])) rfl rfl (hb hby d1_21)
  obtain ⟨fs, hr, hrun, hended, hW, hsame⟩ := X23.leave (v := (some (.ref w_Type_GRANT))) (fun h => by rw [Bd.returns] at h; cases h)
  refine ⟨_, _, pre0 _ ?_, hrun, hended, _, _, rfl, ?_, ⟨_, rfl⟩, hW, hsame.mono (by decide) (by decide)⟩
  · show Steps p.tables e below (s₁.setTop (mkF m 0 #[iv (7 : Int32), .unset, .unset, .unset, .unset] [])) _
    refine st1 _ ?_
    refine XS.astoreN X1.here hx rfl (hb hby d1_3) rfl rfl (l' := #[iv (7 : Int32), rv b1_1_0, .unset, .unset, .unset]) rfl ?_
    refine XS.aloadN X1.here hx rfl (hb hby d1_4) rfl rfl ?_
    refine X1.arraylength hx Ar2.1 (State.isArrayOf_alike hZ.alike Ar2.2.1) (g := (mkF m 5 #[iv (7 : Int32), rv b1_1_0, .unset, .unset, .unset] [(.ref b1_1_0)])) rfl rfl (hb hby d1_5) _ ?_
    rw [len_of Sz2 Nn2]
    refine XS.istoreN X1.here hx rfl (hb hby d1_6) rfl (l' := #[iv (7 : Int32), rv b1_1_0, iv (15 : Int32), .unset, .unset]) rfl ?_
    refine XS.iconst X1.here hx rfl (hb hby d1_7) ?_
    show Steps p.tables e below (T1.setTop (mkF m 8 #[iv (7 : Int32), rv b1_1_0, iv (15 : Int32), .unset, .unset] [(.int (0 : Int32))])) _
    refine XS.istoreN X1.here hx rfl (hb hby d1_8) rfl (l' := #[iv (7 : Int32), rv b1_1_0, iv (15 : Int32), iv (0 : Int32), .unset]) rfl ?_
    refine XS.iloadN X1.here hx rfl (hb hby d1_9) rfl ?_
    refine XS.iloadN X1.here hx rfl (hb hby d1_10) rfl ?_
    refine XS.icmpNo X1.here hx rfl (hb hby d1_11) rfl (tlt (by decide +kernel : (0 : Int32) < (15 : Int32))).2.1 ?_
    refine XS.aloadN X1.here hx rfl (hb hby d1_14) rfl rfl ?_
    refine XS.iloadN X1.here hx rfl (hb hby d1_15) rfl ?_
    show Steps p.tables e below (T1.setTop (mkF m 16 #[iv (7 : Int32), rv b1_1_0, iv (15 : Int32), iv (0 : Int32), .unset] [(.int (0 : Int32)), (.ref b1_1_0)])) _
    refine X1.aaload hx (j := (0 : Int32)) (v := (.ref w_Type_REQUEST)) Ar3.1 (State.isArrayOf_alike hZ.alike Ar3.2.1) rfl Ar3.2.2 hin3 (Hs3.at hin3 rfl) (g := (mkF m 16 #[iv (7 : Int32), rv b1_1_0, iv (15 : Int32), iv (0 : Int32), .unset] [(.int (0 : Int32)), (.ref b1_1_0)])) rfl rfl (hb hby d1_16) _ ?_
    refine XS.astore X1.here hx rfl (hb hby d1_17) rfl rfl (l' := #[iv (7 : Int32), rv b1_1_0, iv (15 : Int32), iv (0 : Int32), rv w_Type_REQUEST]) rfl ?_
    refine XS.aload X1.here hx rfl (hb hby d1_19) rfl rfl ?_
    refine st5 _ ?_
    refine XS.iloadN X5.here hx rfl (hb hby d1_24) rfl ?_
    refine XS.icmpYes X5.here hx rfl (pc0 := 25) (pc' := 31) rfl (hb hby d1_25) rfl (feq (by decide +kernel : ¬ ((1 : Int32) = (7 : Int32)))).2 (by decide) (by decide) ?_
    show Steps p.tables e below (T5.setTop (mkF m 31 #[iv (7 : Int32), rv b1_1_0, iv (15 : Int32), iv (0 : Int32), rv w_Type_REQUEST] [])) _
    refine XS.iinc X5.here hx rfl (hb hby d1_31) rfl (l' := #[iv (7 : Int32), rv b1_1_0, iv (15 : Int32), iv ((0 : Int32) + (1 : Int32)), rv w_Type_REQUEST]) rfl ?_
    show Steps p.tables e below (T5.setTop (mkF m 34 #[iv (7 : Int32), rv b1_1_0, iv (15 : Int32), iv ((0 : Int32) + (1 : Int32)), rv w_Type_REQUEST] [])) _
    rewrite [show ((0 : Int32) + (1 : Int32)) = (1 : Int32) from by decide +kernel]
    refine XS.goto X5.here hx rfl (pc0 := 34) (pc' := 9) rfl (hb hby d1_34) (by decide) (by decide) ?_
    refine XS.iloadN X5.here hx rfl (hb hby d1_9) rfl ?_
    refine XS.iloadN X5.here hx rfl (hb hby d1_10) rfl ?_
    refine XS.icmpNo X5.here hx rfl (hb hby d1_11) rfl (tlt (by decide +kernel : (1 : Int32) < (15 : Int32))).2.1 ?_
    refine XS.aloadN X5.here hx rfl (hb hby d1_14) rfl rfl ?_
    show Steps p.tables e below (T5.setTop (mkF m 15 #[iv (7 : Int32), rv b1_1_0, iv (15 : Int32), iv (1 : Int32), rv w_Type_REQUEST] [(.ref b1_1_0)])) _
    refine XS.iloadN X5.here hx rfl (hb hby d1_15) rfl ?_
    refine X5.aaload hx (j := (1 : Int32)) (v := (.ref w_Type_REPLY)) (by rw [e5]; exact Ar6.1) (State.isArrayOf_alike hZ.alike Ar6.2.1) rfl Ar6.2.2 hin6 (Hs6.at hin6 rfl) (g := (mkF m 16 #[iv (7 : Int32), rv b1_1_0, iv (15 : Int32), iv (1 : Int32), rv w_Type_REQUEST] [(.int (1 : Int32)), (.ref b1_1_0)])) rfl rfl (hb hby d1_16) _ ?_
    refine XS.astore X5.here hx rfl (hb hby d1_17) rfl rfl (l' := #[iv (7 : Int32), rv b1_1_0, iv (15 : Int32), iv (1 : Int32), rv w_Type_REPLY]) rfl ?_
    refine XS.aload X5.here hx rfl (hb hby d1_19) rfl rfl ?_
    refine st8 _ ?_
    refine XS.iloadN X8.here hx rfl (hb hby d1_24) rfl ?_
    show Steps p.tables e below (T8.setTop (mkF m 25 #[iv (7 : Int32), rv b1_1_0, iv (15 : Int32), iv (1 : Int32), rv w_Type_REPLY] [(.int (7 : Int32)), (.int (2 : Int32))])) _
    refine XS.icmpYes X8.here hx rfl (pc0 := 25) (pc' := 31) rfl (hb hby d1_25) rfl (feq (by decide +kernel : ¬ ((2 : Int32) = (7 : Int32)))).2 (by decide) (by decide) ?_
    refine XS.iinc X8.here hx rfl (hb hby d1_31) rfl (l' := #[iv (7 : Int32), rv b1_1_0, iv (15 : Int32), iv ((1 : Int32) + (1 : Int32)), rv w_Type_REPLY]) rfl ?_
    show Steps p.tables e below (T8.setTop (mkF m 34 #[iv (7 : Int32), rv b1_1_0, iv (15 : Int32), iv ((1 : Int32) + (1 : Int32)), rv w_Type_REPLY] [])) _
    rewrite [show ((1 : Int32) + (1 : Int32)) = (2 : Int32) from by decide +kernel]
    refine XS.goto X8.here hx rfl (pc0 := 34) (pc' := 9) rfl (hb hby d1_34) (by decide) (by decide) ?_
    refine XS.iloadN X8.here hx rfl (hb hby d1_9) rfl ?_
    refine XS.iloadN X8.here hx rfl (hb hby d1_10) rfl ?_
    refine XS.icmpNo X8.here hx rfl (hb hby d1_11) rfl (tlt (by decide +kernel : (2 : Int32) < (15 : Int32))).2.1 ?_
    show Steps p.tables e below (T8.setTop (mkF m 14 #[iv (7 : Int32), rv b1_1_0, iv (15 : Int32), iv (2 : Int32), rv w_Type_REPLY] [])) _
    refine XS.aloadN X8.here hx rfl (hb hby d1_14) rfl rfl ?_
    refine XS.iloadN X8.here hx rfl (hb hby d1_15) rfl ?_
    refine X8.aaload hx (j := (2 : Int32)) (v := (.ref w_Type_HEARTBEAT)) (by rw [e8]; exact Ar9.1) (State.isArrayOf_alike hZ.alike Ar9.2.1) rfl Ar9.2.2 hin9 (Hs9.at hin9 rfl) (g := (mkF m 16 #[iv (7 : Int32), rv b1_1_0, iv (15 : Int32), iv (2 : Int32), rv w_Type_REPLY] [(.int (2 : Int32)), (.ref b1_1_0)])) rfl rfl (hb hby d1_16) _ ?_
    refine XS.astore X8.here hx rfl (hb hby d1_17) rfl rfl (l' := #[iv (7 : Int32), rv b1_1_0, iv (15 : Int32), iv (2 : Int32), rv w_Type_HEARTBEAT]) rfl ?_
    refine XS.aload X8.here hx rfl (hb hby d1_19) rfl rfl ?_
    refine st11 _ ?_
    show Steps p.tables e below (T11.setTop (mkF m 24 #[iv (7 : Int32), rv b1_1_0, iv (15 : Int32), iv (2 : Int32), rv w_Type_HEARTBEAT] [(.int (3 : Int32))])) _
    refine XS.iloadN X11.here hx rfl (hb hby d1_24) rfl ?_
    refine XS.icmpYes X11.here hx rfl (pc0 := 25) (pc' := 31) rfl (hb hby d1_25) rfl (feq (by decide +kernel : ¬ ((3 : Int32) = (7 : Int32)))).2 (by decide) (by decide) ?_
    refine XS.iinc X11.here hx rfl (hb hby d1_31) rfl (l' := #[iv (7 : Int32), rv b1_1_0, iv (15 : Int32), iv ((2 : Int32) + (1 : Int32)), rv w_Type_HEARTBEAT]) rfl ?_
    show Steps p.tables e below (T11.setTop (mkF m 34 #[iv (7 : Int32), rv b1_1_0, iv (15 : Int32), iv ((2 : Int32) + (1 : Int32)), rv w_Type_HEARTBEAT] [])) _
    rewrite [show ((2 : Int32) + (1 : Int32)) = (3 : Int32) from by decide +kernel]
    refine XS.goto X11.here hx rfl (pc0 := 34) (pc' := 9) rfl (hb hby d1_34) (by decide) (by decide) ?_
    refine XS.iloadN X11.here hx rfl (hb hby d1_9) rfl ?_
    refine XS.iloadN X11.here hx rfl (hb hby d1_10) rfl ?_
    show Steps p.tables e below (T11.setTop (mkF m 11 #[iv (7 : Int32), rv b1_1_0, iv (15 : Int32), iv (3 : Int32), rv w_Type_HEARTBEAT] [(.int (15 : Int32)), (.int (3 : Int32))])) _
    refine XS.icmpNo X11.here hx rfl (hb hby d1_11) rfl (tlt (by decide +kernel : (3 : Int32) < (15 : Int32))).2.1 ?_
    refine XS.aloadN X11.here hx rfl (hb hby d1_14) rfl rfl ?_
    refine XS.iloadN X11.here hx rfl (hb hby d1_15) rfl ?_
    refine X11.aaload hx (j := (3 : Int32)) (v := (.ref w_Type_ELECTION)) (by rw [e11]; exact Ar12.1) (State.isArrayOf_alike hZ.alike Ar12.2.1) rfl Ar12.2.2 hin12 (Hs12.at hin12 rfl) (g := (mkF m 16 #[iv (7 : Int32), rv b1_1_0, iv (15 : Int32), iv (3 : Int32), rv w_Type_HEARTBEAT] [(.int (3 : Int32)), (.ref b1_1_0)])) rfl rfl (hb hby d1_16) _ ?_
    refine XS.astore X11.here hx rfl (hb hby d1_17) rfl rfl (l' := #[iv (7 : Int32), rv b1_1_0, iv (15 : Int32), iv (3 : Int32), rv w_Type_ELECTION]) rfl ?_
    refine XS.aload X11.here hx rfl (hb hby d1_19) rfl rfl ?_
    show Steps p.tables e below (T11.setTop (mkF m 21 #[iv (7 : Int32), rv b1_1_0, iv (15 : Int32), iv (3 : Int32), rv w_Type_ELECTION] [(.ref w_Type_ELECTION)])) _
    refine st14 _ ?_
    refine XS.iloadN X14.here hx rfl (hb hby d1_24) rfl ?_
    refine XS.icmpYes X14.here hx rfl (pc0 := 25) (pc' := 31) rfl (hb hby d1_25) rfl (feq (by decide +kernel : ¬ ((4 : Int32) = (7 : Int32)))).2 (by decide) (by decide) ?_
    refine XS.iinc X14.here hx rfl (hb hby d1_31) rfl (l' := #[iv (7 : Int32), rv b1_1_0, iv (15 : Int32), iv ((3 : Int32) + (1 : Int32)), rv w_Type_ELECTION]) rfl ?_
    show Steps p.tables e below (T14.setTop (mkF m 34 #[iv (7 : Int32), rv b1_1_0, iv (15 : Int32), iv ((3 : Int32) + (1 : Int32)), rv w_Type_ELECTION] [])) _
    rewrite [show ((3 : Int32) + (1 : Int32)) = (4 : Int32) from by decide +kernel]
    refine XS.goto X14.here hx rfl (pc0 := 34) (pc' := 9) rfl (hb hby d1_34) (by decide) (by decide) ?_
    refine XS.iloadN X14.here hx rfl (hb hby d1_9) rfl ?_
    show Steps p.tables e below (T14.setTop (mkF m 10 #[iv (7 : Int32), rv b1_1_0, iv (15 : Int32), iv (4 : Int32), rv w_Type_ELECTION] [(.int (4 : Int32))])) _
    refine XS.iloadN X14.here hx rfl (hb hby d1_10) rfl ?_
    refine XS.icmpNo X14.here hx rfl (hb hby d1_11) rfl (tlt (by decide +kernel : (4 : Int32) < (15 : Int32))).2.1 ?_
    refine XS.aloadN X14.here hx rfl (hb hby d1_14) rfl rfl ?_
    refine XS.iloadN X14.here hx rfl (hb hby d1_15) rfl ?_
    refine X14.aaload hx (j := (4 : Int32)) (v := (.ref w_Type_ANSWER)) (by rw [e14]; exact Ar15.1) (State.isArrayOf_alike hZ.alike Ar15.2.1) rfl Ar15.2.2 hin15 (Hs15.at hin15 rfl) (g := (mkF m 16 #[iv (7 : Int32), rv b1_1_0, iv (15 : Int32), iv (4 : Int32), rv w_Type_ELECTION] [(.int (4 : Int32)), (.ref b1_1_0)])) rfl rfl (hb hby d1_16) _ ?_
    refine XS.astore X14.here hx rfl (hb hby d1_17) rfl rfl (l' := #[iv (7 : Int32), rv b1_1_0, iv (15 : Int32), iv (4 : Int32), rv w_Type_ANSWER]) rfl ?_
    show Steps p.tables e below (T14.setTop (mkF m 19 #[iv (7 : Int32), rv b1_1_0, iv (15 : Int32), iv (4 : Int32), rv w_Type_ANSWER] [])) _
    refine XS.aload X14.here hx rfl (hb hby d1_19) rfl rfl ?_
    refine st17 _ ?_
    refine XS.iloadN X17.here hx rfl (hb hby d1_24) rfl ?_
    refine XS.icmpYes X17.here hx rfl (pc0 := 25) (pc' := 31) rfl (hb hby d1_25) rfl (feq (by decide +kernel : ¬ ((5 : Int32) = (7 : Int32)))).2 (by decide) (by decide) ?_
    refine XS.iinc X17.here hx rfl (hb hby d1_31) rfl (l' := #[iv (7 : Int32), rv b1_1_0, iv (15 : Int32), iv ((4 : Int32) + (1 : Int32)), rv w_Type_ANSWER]) rfl ?_
    show Steps p.tables e below (T17.setTop (mkF m 34 #[iv (7 : Int32), rv b1_1_0, iv (15 : Int32), iv ((4 : Int32) + (1 : Int32)), rv w_Type_ANSWER] [])) _
    rewrite [show ((4 : Int32) + (1 : Int32)) = (5 : Int32) from by decide +kernel]
    refine XS.goto X17.here hx rfl (pc0 := 34) (pc' := 9) rfl (hb hby d1_34) (by decide) (by decide) ?_
    show Steps p.tables e below (T17.setTop (mkF m 9 #[iv (7 : Int32), rv b1_1_0, iv (15 : Int32), iv (5 : Int32), rv w_Type_ANSWER] [])) _
    refine XS.iloadN X17.here hx rfl (hb hby d1_9) rfl ?_
    refine XS.iloadN X17.here hx rfl (hb hby d1_10) rfl ?_
    refine XS.icmpNo X17.here hx rfl (hb hby d1_11) rfl (tlt (by decide +kernel : (5 : Int32) < (15 : Int32))).2.1 ?_
    refine XS.aloadN X17.here hx rfl (hb hby d1_14) rfl rfl ?_
    refine XS.iloadN X17.here hx rfl (hb hby d1_15) rfl ?_
    refine X17.aaload hx (j := (5 : Int32)) (v := (.ref w_Type_COORDINATOR)) (by rw [e17]; exact Ar18.1) (State.isArrayOf_alike hZ.alike Ar18.2.1) rfl Ar18.2.2 hin18 (Hs18.at hin18 rfl) (g := (mkF m 16 #[iv (7 : Int32), rv b1_1_0, iv (15 : Int32), iv (5 : Int32), rv w_Type_ANSWER] [(.int (5 : Int32)), (.ref b1_1_0)])) rfl rfl (hb hby d1_16) _ ?_
    show Steps p.tables e below (T17.setTop (mkF m 17 #[iv (7 : Int32), rv b1_1_0, iv (15 : Int32), iv (5 : Int32), rv w_Type_ANSWER] [(.ref w_Type_COORDINATOR)])) _
    refine XS.astore X17.here hx rfl (hb hby d1_17) rfl rfl (l' := #[iv (7 : Int32), rv b1_1_0, iv (15 : Int32), iv (5 : Int32), rv w_Type_COORDINATOR]) rfl ?_
    refine XS.aload X17.here hx rfl (hb hby d1_19) rfl rfl ?_
    refine st20 _ ?_
    refine XS.iloadN X20.here hx rfl (hb hby d1_24) rfl ?_
    refine XS.icmpYes X20.here hx rfl (pc0 := 25) (pc' := 31) rfl (hb hby d1_25) rfl (feq (by decide +kernel : ¬ ((6 : Int32) = (7 : Int32)))).2 (by decide) (by decide) ?_
    refine XS.iinc X20.here hx rfl (hb hby d1_31) rfl (l' := #[iv (7 : Int32), rv b1_1_0, iv (15 : Int32), iv ((5 : Int32) + (1 : Int32)), rv w_Type_COORDINATOR]) rfl ?_
    show Steps p.tables e below (T20.setTop (mkF m 34 #[iv (7 : Int32), rv b1_1_0, iv (15 : Int32), iv ((5 : Int32) + (1 : Int32)), rv w_Type_COORDINATOR] [])) _
    rewrite [show ((5 : Int32) + (1 : Int32)) = (6 : Int32) from by decide +kernel]
    show Steps p.tables e below (T20.setTop (mkF m 34 #[iv (7 : Int32), rv b1_1_0, iv (15 : Int32), iv (6 : Int32), rv w_Type_COORDINATOR] [])) _
    refine XS.goto X20.here hx rfl (pc0 := 34) (pc' := 9) rfl (hb hby d1_34) (by decide) (by decide) ?_
    refine XS.iloadN X20.here hx rfl (hb hby d1_9) rfl ?_
    refine XS.iloadN X20.here hx rfl (hb hby d1_10) rfl ?_
    refine XS.icmpNo X20.here hx rfl (hb hby d1_11) rfl (tlt (by decide +kernel : (6 : Int32) < (15 : Int32))).2.1 ?_
    refine XS.aloadN X20.here hx rfl (hb hby d1_14) rfl rfl ?_
    refine XS.iloadN X20.here hx rfl (hb hby d1_15) rfl ?_
    show Steps p.tables e below (T20.setTop (mkF m 16 #[iv (7 : Int32), rv b1_1_0, iv (15 : Int32), iv (6 : Int32), rv w_Type_COORDINATOR] [(.int (6 : Int32)), (.ref b1_1_0)])) _
    refine X20.aaload hx (j := (6 : Int32)) (v := (.ref w_Type_GRANT)) (by rw [e20]; exact Ar21.1) (State.isArrayOf_alike hZ.alike Ar21.2.1) rfl Ar21.2.2 hin21 (Hs21.at hin21 rfl) (g := (mkF m 16 #[iv (7 : Int32), rv b1_1_0, iv (15 : Int32), iv (6 : Int32), rv w_Type_COORDINATOR] [(.int (6 : Int32)), (.ref b1_1_0)])) rfl rfl (hb hby d1_16) _ ?_
    refine XS.astore X20.here hx rfl (hb hby d1_17) rfl rfl (l' := #[iv (7 : Int32), rv b1_1_0, iv (15 : Int32), iv (6 : Int32), rv w_Type_GRANT]) rfl ?_
    refine XS.aload X20.here hx rfl (hb hby d1_19) rfl rfl ?_
    refine st23 _ ?_
    refine XS.iloadN X23.here hx rfl (hb hby d1_24) rfl ?_
    refine XS.icmpNo X23.here hx rfl (hb hby d1_25) rfl (teq (by decide +kernel : (7 : Int32) = (7 : Int32))).2 ?_
    show Steps p.tables e below (T23.setTop (mkF m 28 #[iv (7 : Int32), rv b1_1_0, iv (15 : Int32), iv (6 : Int32), rv w_Type_GRANT] [])) _
    refine XS.aload X23.here hx rfl (hb hby d1_28) rfl rfl ?_
    exact own_retA X23 hx Bd.returns rfl rfl (hb hby d1_30) hr
  · exact (by show Q_rk_found_6 Z w_Type_GRANT h0 n0 _ T23.heap _; rw [e23]; exact ⟨rfl, N1, KK1⟩)
def Q_rk_found_7 (Z : State) (w_Type_RELEASE : Addr) (h0 : Heap) (n0 : Nat) (v : Option Value) (h : Heap) (L : List Loc) : Prop := (v = (some (.ref w_Type_RELEASE))) ∧ (Fr n0 L) ∧ (Keep h0 h [])
set_option maxRecDepth 65536 in
set_option maxHeartbeats 40000000 in
theorem rk_found_7 (l : Launch) (Z : State) (a0 : Array Value) (hw : ∀ d ∈ tables_1, d.before a0 Z = true) (ws : List Jvm.Cond) (w_Type__VALUES : Addr) (w_Type_REQUEST : Addr) (w_Type_REPLY : Addr) (w_Type_HEARTBEAT : Addr) (w_Type_ELECTION : Addr) (w_Type_ANSWER : Addr) (w_Type_COORDINATOR : Addr) (w_Type_GRANT : Addr) (w_Type_RELEASE : Addr) (w_Type_HELD : Addr) (w_Type_REPORTED : Addr) (w_Type_LOCKED : Addr) (w_Type_INQUIRE : Addr) (w_Type_FAILED : Addr) (w_Type_RELINQUISH : Addr) (w_Type_TOKEN : Addr) (k_w_Type__VALUES : ClassId) (h0 : Heap) (n0 : Nat) (Z0 : n0 ≤ h0.size) (S_Type__VALUES : Sta Z h0 "com/example/stile/stile/Message$Type" "$VALUES" "[Lcom/example/stile/stile/Message$Type;" (.ref w_Type__VALUES)) (V_w_Type__VALUES : Arv Z h0 w_Type__VALUES k_w_Type__VALUES (.object "com/example/stile/stile/Message$Type") (15 : Int32) [(.ref w_Type_REQUEST), (.ref w_Type_REPLY), (.ref w_Type_HEARTBEAT), (.ref w_Type_ELECTION), (.ref w_Type_ANSWER), (.ref w_Type_COORDINATOR), (.ref w_Type_GRANT), (.ref w_Type_RELEASE), (.ref w_Type_HELD), (.ref w_Type_REPORTED), (.ref w_Type_LOCKED), (.ref w_Type_INQUIRE), (.ref w_Type_FAILED), (.ref w_Type_RELINQUISH), (.ref w_Type_TOKEN)] .null) (E_w_Type__VALUES : Exa Z h0 w_Type__VALUES "[Lcom/example/stile/stile/Message$Type;") (F_w_Type_REQUEST_code : Fld Z h0 w_Type_REQUEST "com/example/stile/stile/Message$Type" "code" "I" (.int (1 : Int32))) (F_w_Type_REPLY_code : Fld Z h0 w_Type_REPLY "com/example/stile/stile/Message$Type" "code" "I" (.int (2 : Int32))) (F_w_Type_HEARTBEAT_code : Fld Z h0 w_Type_HEARTBEAT "com/example/stile/stile/Message$Type" "code" "I" (.int (3 : Int32))) (F_w_Type_ELECTION_code : Fld Z h0 w_Type_ELECTION "com/example/stile/stile/Message$Type" "code" "I" (.int (4 : Int32))) (F_w_Type_ANSWER_code : Fld Z h0 w_Type_ANSWER "com/example/stile/stile/Message$Type" "code" "I" (.int (5 : Int32))) (F_w_Type_COORDINATOR_code : Fld Z h0 w_Type_COORDINATOR "com/example/stile/stile/Message$Type" "code" "I" (.int (6 : Int32))) (F_w_Type_GRANT_code : Fld Z h0 w_Type_GRANT "com/example/stile/stile/Message$Type" "code" "I" (.int (7 : Int32))) (F_w_Type_RELEASE_code : Fld Z h0 w_Type_RELEASE "com/example/stile/stile/Message$Type" "code" "I" (.int (8 : Int32))) :
    MetFree l (⟨"com/example/stile/stile/Message$Type", "of", "(I)Lcom/example/stile/stile/Message$Type;"⟩ : MethodName) (head1 (Jvm.Cond.code (⟨"com/example/stile/stile/Message$Type", "of", "(I)Lcom/example/stile/stile/Message$Type;"⟩ : MethodName) prog_48_method_8_code 5 (some (.object "com/example/stile/stile/Message$Type")) :: ws) ({ frames := 2, cells := 1, slots := 15, locals := 25 } : Room)) (fun a U => a = #[(.int (8 : Int32))] ∧ Z.Warmed39 U.vm ∧ U.heap = h0) (fun _ _ _ _ _ => True) (fun _ U o U' => ∃ v L, o = .returned v ∧ Q_rk_found_7 Z w_Type_RELEASE h0 n0 v U'.heap L ∧ FrameEnd U o U' L ({ frames := 2, cells := 1, slots := 15, locals := 25 } : Room).cells ({ frames := 2, cells := 1, slots := 15, locals := 25 } : Room).slots) := by
  refine MetFree.of_bodySF (plainFor_of_name pn_0) hisR ?_
  intro p e s m args below meth c s₁ Bd hml0 hP hK
  obtain ⟨rfl, hZ, hh⟩ := hP
  have hx := Bd.exec
  have hby := Bd.bytes
  have hml : c.maxLocals = 5 := hml0
  have hown : s.vm.findClass "com/example/stile/stile/Message$Type" = some m.cls := findClass_of_methodNamed Bd.named
  have hnm := (name_of_methodNamed Bd.named Bd.method).1
  have X0 : Stand p l e ({ frames := 2, cells := 1, slots := 15, locals := 25 } : Room) s m #[(.int (8 : Int32))] below meth c s₁ [] 0 0 := Stand.of_body Bd
  have e0 : s₁.heap = h0 := by rw [← hh, Bd.state]; rfl
  have N0 := Fr.nil n0
  have pre0 : ∀ t, Steps p.tables e below (s₁.setTop (mkF m 0 #[iv (8 : Int32), .unset, .unset, .unset, .unset] [])) t → Steps p.tables e below (s₁.setTop (entryFrame m #[(.int (8 : Int32))] 5)) t := fun t k => castTop (ef_1_I m (8 : Int32)) k
  obtain ⟨_, _, ⟨T1, L1, k1, n1⟩, -, X1, ⟨Lc1, hQ1, l1, y1, z1⟩, st1⟩ := Jvm.LawKit.callS X0 hx (y := (⟨"com/example/stile/stile/Message$Type", "values", "()[Lcom/example/stile/stile/Message$Type;"⟩ : MethodName)) hown (mvT hZ (hw _ (List.mem_of_getElem? (i := 4) rfl))) (mvT hZ (hw _ (List.mem_of_getElem? (i := 5) rfl))) (mvT hZ (hw _ (List.mem_of_getElem? (i := 2) rfl))) (mvT hZ (hw _ (List.mem_of_getElem? (i := 6) rfl))) (by decide) (backOf (W := 0) (rm2_0 l Z a0 hw [] w_Type__VALUES w_Type_REQUEST w_Type_REPLY w_Type_HEARTBEAT w_Type_ELECTION w_Type_ANSWER w_Type_COORDINATOR w_Type_GRANT w_Type_RELEASE w_Type_HELD w_Type_REPORTED w_Type_LOCKED w_Type_INQUIRE w_Type_FAILED w_Type_RELINQUISH w_Type_TOKEN k_w_Type__VALUES h0 n0 Z0 S_Type__VALUES V_w_Type__VALUES E_w_Type__VALUES) hZ (hw _ (List.mem_of_getElem? (i := 6) rfl)) (hw _ (List.mem_of_getElem? (i := 2) rfl)) (by decide) (by decide)) (g := (mkF m 0 #[iv (8 : Int32), .unset, .unset, .unset, .unset] [])) rfl (by rw [hml]; rfl) (argsL := []) (rest := []) (lenOf pd_0 rfl) rfl (by show 2 * 0 + _ ≤ _; exact Nat.le_of_eq rfl) (hb hby d1_0) (fun _ _ => ⟨rfl, e0, (by decide : 0 + 1 ≤ _), (by decide : 0 + 15 ≤ _)⟩)
  dsimp only [Pt.U, Pt.locs, Pt.cells, Pt.slots] at X1 l1 y1 z1 st1 hQ1
  subst l1 y1 z1
  obtain ⟨b1_1_0, rfl, N1q, K1, gq_b1_1_0, le_b1_1_0, fq1_0, fq1_1⟩ := hQ1
  have sz_b1_1_0 : h0.size ≤ b1_1_0 := Nat.le_trans (Keep.refl h0 []).1 le_b1_1_0
  have KK1 : Keep h0 T1.heap [] := (Keep.refl h0 []).trans K1 all0
  have Z1 : n0 ≤ T1.heap.size := Nat.le_trans Z0 K1.1
  have N1 := Fr.app N0 N1q
  obtain ⟨cl2, Ar2, -, Sz2, Nn2, -, -⟩ := id fq1_0
  obtain ⟨cl3, Ar3, -, Sz3, Nn3, Hs3, Gs3⟩ := id fq1_0
  have hin3 : ¬ ((0 : Int32) < 0 ∨ cl3.slots.size ≤ ((0 : Int32)).toNatClampNeg) := inb_of Sz3 ⟨by decide, by decide⟩
  have c4 := (F_w_Type_REQUEST_code.keep K1 nin0)
  obtain ⟨T5, X5, e5, st5⟩ := getF X1 hx hZ hown (host := "") (Or.inl (hw _ (List.mem_of_getElem? (i := 34) rfl))) Via.refl rfl c4 (g := (mkF m 21 #[iv (8 : Int32), rv b1_1_0, iv (15 : Int32), iv (0 : Int32), rv w_Type_REQUEST] [(.ref w_Type_REQUEST)])) rfl rfl (hb hby d1_21)
  obtain ⟨cl6, Ar6, -, Sz6, Nn6, Hs6, Gs6⟩ := id fq1_0
  have hin6 : ¬ ((1 : Int32) < 0 ∨ cl6.slots.size ≤ ((1 : Int32)).toNatClampNeg) := inb_of Sz6 ⟨by decide, by decide⟩
  have c7 := (F_w_Type_REPLY_code.keep K1 nin0)
  obtain ⟨T8, X8, e8, st8⟩ := getF X5 hx hZ hown (host := "") (Or.inl (hw _ (List.mem_of_getElem? (i := 34) rfl))) Via.refl e5 c7 (g := (mkF m 21 #[iv (8 : Int32), rv b1_1_0, iv (15 : Int32), iv (1 : Int32), rv w_Type_REPLY] [(.ref w_Type_REPLY)])) rfl rfl (hb hby d1_21)
  obtain ⟨cl9, Ar9, -, Sz9, Nn9, Hs9, Gs9⟩ := id fq1_0
  have hin9 : ¬ ((2 : Int32) < 0 ∨ cl9.slots.size ≤ ((2 : Int32)).toNatClampNeg) := inb_of Sz9 ⟨by decide, by decide⟩
  have c10 := (F_w_Type_HEARTBEAT_code.keep K1 nin0)
  obtain ⟨T11, X11, e11, st11⟩ := getF X8 hx hZ hown (host := "") (Or.inl (hw _ (List.mem_of_getElem? (i := 34) rfl))) Via.refl e8 c10 (g := (mkF m 21 #[iv (8 : Int32), rv b1_1_0, iv (15 : Int32), iv (2 : Int32), rv w_Type_HEARTBEAT] [(.ref w_Type_HEARTBEAT)])) rfl rfl (hb hby d1_21)
  obtain ⟨cl12, Ar12, -, Sz12, Nn12, Hs12, Gs12⟩ := id fq1_0
  have hin12 : ¬ ((3 : Int32) < 0 ∨ cl12.slots.size ≤ ((3 : Int32)).toNatClampNeg) := inb_of Sz12 ⟨by decide, by decide⟩
  have c13 := (F_w_Type_ELECTION_code.keep K1 nin0)
  obtain ⟨T14, X14, e14, st14⟩ := getF X11 hx hZ hown (host := "") (Or.inl (hw _ (List.mem_of_getElem? (i := 34) rfl))) Via.refl e11 c13 (g := (mkF m 21 #[iv (8 : Int32), rv b1_1_0, iv (15 : Int32), iv (3 : Int32), rv w_Type_ELECTION] [(.ref w_Type_ELECTION)])) rfl rfl (hb hby d1_21)
  obtain ⟨cl15, Ar15, -, Sz15, Nn15, Hs15, Gs15⟩ := id fq1_0
  have hin15 : ¬ ((4 : Int32) < 0 ∨ cl15.slots.size ≤ ((4 : Int32)).toNatClampNeg) := inb_of Sz15 ⟨by decide, by decide⟩
  have c16 := (F_w_Type_ANSWER_code.keep K1 nin0)
  obtain ⟨T17, X17, e17, st17⟩ := getF X14 hx hZ hown (host := "") (Or.inl (hw _ (List.mem_of_getElem? (i := 34) rfl))) Via.refl e14 c16 (g := (mkF m 21 #[iv (8 : Int32), rv b1_1_0, iv (15 : Int32), iv (4 : Int32), rv w_Type_ANSWER] [(.ref w_Type_ANSWER)])) rfl rfl (hb hby d1_21)
  obtain ⟨cl18, Ar18, -, Sz18, Nn18, Hs18, Gs18⟩ := id fq1_0
  have hin18 : ¬ ((5 : Int32) < 0 ∨ cl18.slots.size ≤ ((5 : Int32)).toNatClampNeg) := inb_of Sz18 ⟨by decide, by decide⟩
  have c19 := (F_w_Type_COORDINATOR_code.keep K1 nin0)
  obtain ⟨T20, X20, e20, st20⟩ := getF X17 hx hZ hown (host := "") (Or.inl (hw _ (List.mem_of_getElem? (i := 34) rfl))) Via.refl e17 c19 (g := (mkF m 21 #[iv (8 : Int32), rv b1_1_0, iv (15 : Int32), iv (5 : Int32), rv w_Type_COORDINATOR] [(.ref w_Type_COORDINATOR)])) rfl rfl (hb hby d1_21)
  obtain ⟨cl21, Ar21, -, Sz21, Nn21, Hs21, Gs21⟩ := id fq1_0
  have hin21 : ¬ ((6 : Int32) < 0 ∨ cl21.slots.size ≤ ((6 : Int32)).toNatClampNeg) := inb_of Sz21 ⟨by decide, by decide⟩
  have c22 := (F_w_Type_GRANT_code.keep K1 nin0)
  obtain ⟨T23, X23, e23, st23⟩ := getF X20 hx hZ hown (host := "") (Or.inl (hw _ (List.mem_of_getElem? (i := 34) rfl))) Via.refl e20 c22 (g := (mkF m 21 #[iv (8 : Int32), rv b1_1_0, iv (15 : Int32), iv (6 : Int32), rv w_Type_GRANT] [(.ref w_Type_GRANT)])) rfl rfl (hb hby d1_21)
  obtain ⟨cl24, Ar24, -, Sz24, Nn24, Hs24, Gs24⟩ := id fq1_0
  have hin24 : ¬ ((7 : Int32) < 0 ∨ cl24.slots.size ≤ ((7 : Int32)).toNatClampNeg) := inb_of Sz24 ⟨by decide, by decide⟩
  have c25 := (F_w_Type_RELEASE_code.keep K1 nin0)
  obtain ⟨T26, X26, e26, st26⟩ := getF X23 hx hZ hown (host := "") (Or.inl (hw _ (List.mem_of_getElem? (i := 34) rfl))) Via.refl e23 c25 (g := (mkF m 21 #[iv (8 : Int32), rv b1_1_0, iv (15 : Int32), iv (7 : Int32), rv w_Type_RELEASE] [(.ref w_Type_RELEASE)])) rfl rfl (hb hby d1_21)
  obtain ⟨fs, hr, hrun, hended, hW, hsame⟩ := X26.leave (v := (some (.ref w_Type_RELEASE))) (fun h => by rw [Bd.returns] at h; cases h)
  refine ⟨_, _, pre0 _ ?_, hrun, hended, _, _, rfl, ?_, ⟨_, rfl⟩, hW, hsame.mono (by decide) (by decide)⟩
  · show Steps p.tables e below (s₁.setTop (mkF m 0 #[iv (8 : Int32), .unset, .unset, .unset, .unset] [])) _
    refine st1 _ ?_
    refine XS.astoreN X1.here hx rfl (hb hby d1_3) rfl rfl (l' := #[iv (8 : Int32), rv b1_1_0, .unset, .unset, .unset]) rfl ?_
    refine XS.aloadN X1.here hx rfl (hb hby d1_4) rfl rfl ?_
    refine X1.arraylength hx Ar2.1 (State.isArrayOf_alike hZ.alike Ar2.2.1) (g := (mkF m 5 #[iv (8 : Int32), rv b1_1_0, .unset, .unset, .unset] [(.ref b1_1_0)])) rfl rfl (hb hby d1_5) _ ?_
    rw [len_of Sz2 Nn2]
    refine XS.istoreN X1.here hx rfl (hb hby d1_6) rfl (l' := #[iv (8 : Int32), rv b1_1_0, iv (15 : Int32), .unset, .unset]) rfl ?_
    refine XS.iconst X1.here hx rfl (hb hby d1_7) ?_
    show Steps p.tables e below (T1.setTop (mkF m 8 #[iv (8 : Int32), rv b1_1_0, iv (15 : Int32), .unset, .unset] [(.int (0 : Int32))])) _
    refine XS.istoreN X1.here hx rfl (hb hby d1_8) rfl (l' := #[iv (8 : Int32), rv b1_1_0, iv (15 : Int32), iv (0 : Int32), .unset]) rfl ?_
    refine XS.iloadN X1.here hx rfl (hb hby d1_9) rfl ?_
    refine XS.iloadN X1.here hx rfl (hb hby d1_10) rfl ?_
    refine XS.icmpNo X1.here hx rfl (hb hby d1_11) rfl (tlt (by decide +kernel : (0 : Int32) < (15 : Int32))).2.1 ?_
    refine XS.aloadN X1.here hx rfl (hb hby d1_14) rfl rfl ?_
    refine XS.iloadN X1.here hx rfl (hb hby d1_15) rfl ?_
    show Steps p.tables e below (T1.setTop (mkF m 16 #[iv (8 : Int32), rv b1_1_0, iv (15 : Int32), iv (0 : Int32), .unset] [(.int (0 : Int32)), (.ref b1_1_0)])) _
    refine X1.aaload hx (j := (0 : Int32)) (v := (.ref w_Type_REQUEST)) Ar3.1 (State.isArrayOf_alike hZ.alike Ar3.2.1) rfl Ar3.2.2 hin3 (Hs3.at hin3 rfl) (g := (mkF m 16 #[iv (8 : Int32), rv b1_1_0, iv (15 : Int32), iv (0 : Int32), .unset] [(.int (0 : Int32)), (.ref b1_1_0)])) rfl rfl (hb hby d1_16) _ ?_
    refine XS.astore X1.here hx rfl (hb hby d1_17) rfl rfl (l' := #[iv (8 : Int32), rv b1_1_0, iv (15 : Int32), iv (0 : Int32), rv w_Type_REQUEST]) rfl ?_
    refine XS.aload X1.here hx rfl (hb hby d1_19) rfl rfl ?_
    refine st5 _ ?_
    refine XS.iloadN X5.here hx rfl (hb hby d1_24) rfl ?_
    refine XS.icmpYes X5.here hx rfl (pc0 := 25) (pc' := 31) rfl (hb hby d1_25) rfl (feq (by decide +kernel : ¬ ((1 : Int32) = (8 : Int32)))).2 (by decide) (by decide) ?_
    show Steps p.tables e below (T5.setTop (mkF m 31 #[iv (8 : Int32), rv b1_1_0, iv (15 : Int32), iv (0 : Int32), rv w_Type_REQUEST] [])) _
    refine XS.iinc X5.here hx rfl (hb hby d1_31) rfl (l' := #[iv (8 : Int32), rv b1_1_0, iv (15 : Int32), iv ((0 : Int32) + (1 : Int32)), rv w_Type_REQUEST]) rfl ?_
    show Steps p.tables e below (T5.setTop (mkF m 34 #[iv (8 : Int32), rv b1_1_0, iv (15 : Int32), iv ((0 : Int32) + (1 : Int32)), rv w_Type_REQUEST] [])) _
    rewrite [show ((0 : Int32) + (1 : Int32)) = (1 : Int32) from by decide +kernel]
    refine XS.goto X5.here hx rfl (pc0 := 34) (pc' := 9) rfl (hb hby d1_34) (by decide) (by decide) ?_
    refine XS.iloadN X5.here hx rfl (hb hby d1_9) rfl ?_
    refine XS.iloadN X5.here hx rfl (hb hby d1_10) rfl ?_
    refine XS.icmpNo X5.here hx rfl (hb hby d1_11) rfl (tlt (by decide +kernel : (1 : Int32) < (15 : Int32))).2.1 ?_
    refine XS.aloadN X5.here hx rfl (hb hby d1_14) rfl rfl ?_
    show Steps p.tables e below (T5.setTop (mkF m 15 #[iv (8 : Int32), rv b1_1_0, iv (15 : Int32), iv (1 : Int32), rv w_Type_REQUEST] [(.ref b1_1_0)])) _
    refine XS.iloadN X5.here hx rfl (hb hby d1_15) rfl ?_
    refine X5.aaload hx (j := (1 : Int32)) (v := (.ref w_Type_REPLY)) (by rw [e5]; exact Ar6.1) (State.isArrayOf_alike hZ.alike Ar6.2.1) rfl Ar6.2.2 hin6 (Hs6.at hin6 rfl) (g := (mkF m 16 #[iv (8 : Int32), rv b1_1_0, iv (15 : Int32), iv (1 : Int32), rv w_Type_REQUEST] [(.int (1 : Int32)), (.ref b1_1_0)])) rfl rfl (hb hby d1_16) _ ?_
    refine XS.astore X5.here hx rfl (hb hby d1_17) rfl rfl (l' := #[iv (8 : Int32), rv b1_1_0, iv (15 : Int32), iv (1 : Int32), rv w_Type_REPLY]) rfl ?_
    refine XS.aload X5.here hx rfl (hb hby d1_19) rfl rfl ?_
    refine st8 _ ?_
    refine XS.iloadN X8.here hx rfl (hb hby d1_24) rfl ?_
    show Steps p.tables e below (T8.setTop (mkF m 25 #[iv (8 : Int32), rv b1_1_0, iv (15 : Int32), iv (1 : Int32), rv w_Type_REPLY] [(.int (8 : Int32)), (.int (2 : Int32))])) _
    refine XS.icmpYes X8.here hx rfl (pc0 := 25) (pc' := 31) rfl (hb hby d1_25) rfl (feq (by decide +kernel : ¬ ((2 : Int32) = (8 : Int32)))).2 (by decide) (by decide) ?_
    refine XS.iinc X8.here hx rfl (hb hby d1_31) rfl (l' := #[iv (8 : Int32), rv b1_1_0, iv (15 : Int32), iv ((1 : Int32) + (1 : Int32)), rv w_Type_REPLY]) rfl ?_
    show Steps p.tables e below (T8.setTop (mkF m 34 #[iv (8 : Int32), rv b1_1_0, iv (15 : Int32), iv ((1 : Int32) + (1 : Int32)), rv w_Type_REPLY] [])) _
    rewrite [show ((1 : Int32) + (1 : Int32)) = (2 : Int32) from by decide +kernel]
    refine XS.goto X8.here hx rfl (pc0 := 34) (pc' := 9) rfl (hb hby d1_34) (by decide) (by decide) ?_
    refine XS.iloadN X8.here hx rfl (hb hby d1_9) rfl ?_
    refine XS.iloadN X8.here hx rfl (hb hby d1_10) rfl ?_
    refine XS.icmpNo X8.here hx rfl (hb hby d1_11) rfl (tlt (by decide +kernel : (2 : Int32) < (15 : Int32))).2.1 ?_
    show Steps p.tables e below (T8.setTop (mkF m 14 #[iv (8 : Int32), rv b1_1_0, iv (15 : Int32), iv (2 : Int32), rv w_Type_REPLY] [])) _
    refine XS.aloadN X8.here hx rfl (hb hby d1_14) rfl rfl ?_
    refine XS.iloadN X8.here hx rfl (hb hby d1_15) rfl ?_
    refine X8.aaload hx (j := (2 : Int32)) (v := (.ref w_Type_HEARTBEAT)) (by rw [e8]; exact Ar9.1) (State.isArrayOf_alike hZ.alike Ar9.2.1) rfl Ar9.2.2 hin9 (Hs9.at hin9 rfl) (g := (mkF m 16 #[iv (8 : Int32), rv b1_1_0, iv (15 : Int32), iv (2 : Int32), rv w_Type_REPLY] [(.int (2 : Int32)), (.ref b1_1_0)])) rfl rfl (hb hby d1_16) _ ?_
    refine XS.astore X8.here hx rfl (hb hby d1_17) rfl rfl (l' := #[iv (8 : Int32), rv b1_1_0, iv (15 : Int32), iv (2 : Int32), rv w_Type_HEARTBEAT]) rfl ?_
    refine XS.aload X8.here hx rfl (hb hby d1_19) rfl rfl ?_
    refine st11 _ ?_
    show Steps p.tables e below (T11.setTop (mkF m 24 #[iv (8 : Int32), rv b1_1_0, iv (15 : Int32), iv (2 : Int32), rv w_Type_HEARTBEAT] [(.int (3 : Int32))])) _
    refine XS.iloadN X11.here hx rfl (hb hby d1_24) rfl ?_
    refine XS.icmpYes X11.here hx rfl (pc0 := 25) (pc' := 31) rfl (hb hby d1_25) rfl (feq (by decide +kernel : ¬ ((3 : Int32) = (8 : Int32)))).2 (by decide) (by decide) ?_
    refine XS.iinc X11.here hx rfl (hb hby d1_31) rfl (l' := #[iv (8 : Int32), rv b1_1_0, iv (15 : Int32), iv ((2 : Int32) + (1 : Int32)), rv w_Type_HEARTBEAT]) rfl ?_
    show Steps p.tables e below (T11.setTop (mkF m 34 #[iv (8 : Int32), rv b1_1_0, iv (15 : Int32), iv ((2 : Int32) + (1 : Int32)), rv w_Type_HEARTBEAT] [])) _
    rewrite [show ((2 : Int32) + (1 : Int32)) = (3 : Int32) from by decide +kernel]
    refine XS.goto X11.here hx rfl (pc0 := 34) (pc' := 9) rfl (hb hby d1_34) (by decide) (by decide) ?_
    refine XS.iloadN X11.here hx rfl (hb hby d1_9) rfl ?_
    refine XS.iloadN X11.here hx rfl (hb hby d1_10) rfl ?_
    show Steps p.tables e below (T11.setTop (mkF m 11 #[iv (8 : Int32), rv b1_1_0, iv (15 : Int32), iv (3 : Int32), rv w_Type_HEARTBEAT] [(.int (15 : Int32)), (.int (3 : Int32))])) _
    refine XS.icmpNo X11.here hx rfl (hb hby d1_11) rfl (tlt (by decide +kernel : (3 : Int32) < (15 : Int32))).2.1 ?_
    refine XS.aloadN X11.here hx rfl (hb hby d1_14) rfl rfl ?_
    refine XS.iloadN X11.here hx rfl (hb hby d1_15) rfl ?_
    refine X11.aaload hx (j := (3 : Int32)) (v := (.ref w_Type_ELECTION)) (by rw [e11]; exact Ar12.1) (State.isArrayOf_alike hZ.alike Ar12.2.1) rfl Ar12.2.2 hin12 (Hs12.at hin12 rfl) (g := (mkF m 16 #[iv (8 : Int32), rv b1_1_0, iv (15 : Int32), iv (3 : Int32), rv w_Type_HEARTBEAT] [(.int (3 : Int32)), (.ref b1_1_0)])) rfl rfl (hb hby d1_16) _ ?_
    refine XS.astore X11.here hx rfl (hb hby d1_17) rfl rfl (l' := #[iv (8 : Int32), rv b1_1_0, iv (15 : Int32), iv (3 : Int32), rv w_Type_ELECTION]) rfl ?_
    refine XS.aload X11.here hx rfl (hb hby d1_19) rfl rfl ?_
    show Steps p.tables e below (T11.setTop (mkF m 21 #[iv (8 : Int32), rv b1_1_0, iv (15 : Int32), iv (3 : Int32), rv w_Type_ELECTION] [(.ref w_Type_ELECTION)])) _
    refine st14 _ ?_
    refine XS.iloadN X14.here hx rfl (hb hby d1_24) rfl ?_
    refine XS.icmpYes X14.here hx rfl (pc0 := 25) (pc' := 31) rfl (hb hby d1_25) rfl (feq (by decide +kernel : ¬ ((4 : Int32) = (8 : Int32)))).2 (by decide) (by decide) ?_
    refine XS.iinc X14.here hx rfl (hb hby d1_31) rfl (l' := #[iv (8 : Int32), rv b1_1_0, iv (15 : Int32), iv ((3 : Int32) + (1 : Int32)), rv w_Type_ELECTION]) rfl ?_
    show Steps p.tables e below (T14.setTop (mkF m 34 #[iv (8 : Int32), rv b1_1_0, iv (15 : Int32), iv ((3 : Int32) + (1 : Int32)), rv w_Type_ELECTION] [])) _
    rewrite [show ((3 : Int32) + (1 : Int32)) = (4 : Int32) from by decide +kernel]
    refine XS.goto X14.here hx rfl (pc0 := 34) (pc' := 9) rfl (hb hby d1_34) (by decide) (by decide) ?_
    refine XS.iloadN X14.here hx rfl (hb hby d1_9) rfl ?_
    show Steps p.tables e below (T14.setTop (mkF m 10 #[iv (8 : Int32), rv b1_1_0, iv (15 : Int32), iv (4 : Int32), rv w_Type_ELECTION] [(.int (4 : Int32))])) _
    refine XS.iloadN X14.here hx rfl (hb hby d1_10) rfl ?_
    refine XS.icmpNo X14.here hx rfl (hb hby d1_11) rfl (tlt (by decide +kernel : (4 : Int32) < (15 : Int32))).2.1 ?_
    refine XS.aloadN X14.here hx rfl (hb hby d1_14) rfl rfl ?_
    refine XS.iloadN X14.here hx rfl (hb hby d1_15) rfl ?_
    refine X14.aaload hx (j := (4 : Int32)) (v := (.ref w_Type_ANSWER)) (by rw [e14]; exact Ar15.1) (State.isArrayOf_alike hZ.alike Ar15.2.1) rfl Ar15.2.2 hin15 (Hs15.at hin15 rfl) (g := (mkF m 16 #[iv (8 : Int32), rv b1_1_0, iv (15 : Int32), iv (4 : Int32), rv w_Type_ELECTION] [(.int (4 : Int32)), (.ref b1_1_0)])) rfl rfl (hb hby d1_16) _ ?_
    refine XS.astore X14.here hx rfl (hb hby d1_17) rfl rfl (l' := #[iv (8 : Int32), rv b1_1_0, iv (15 : Int32), iv (4 : Int32), rv w_Type_ANSWER]) rfl ?_
    show Steps p.tables e below (T14.setTop (mkF m 19 #[iv (8 : Int32), rv b1_1_0, iv (15 : Int32), iv (4 : Int32), rv w_Type_ANSWER] [])) _
    refine XS.aload X14.here hx rfl (hb hby d1_19) rfl rfl ?_
    refine st17 _ ?_
    refine XS.iloadN X17.here hx rfl (hb hby d1_24) rfl ?_
    refine XS.icmpYes X17.here hx rfl (pc0 := 25) (pc' := 31) rfl (hb hby d1_25) rfl (feq (by decide +kernel : ¬ ((5 : Int32) = (8 : Int32)))).2 (by decide) (by decide) ?_
    refine XS.iinc X17.here hx rfl (hb hby d1_31) rfl (l' := #[iv (8 : Int32), rv b1_1_0, iv (15 : Int32), iv ((4 : Int32) + (1 : Int32)), rv w_Type_ANSWER]) rfl ?_
    show Steps p.tables e below (T17.setTop (mkF m 34 #[iv (8 : Int32), rv b1_1_0, iv (15 : Int32), iv ((4 : Int32) + (1 : Int32)), rv w_Type_ANSWER] [])) _
    rewrite [show ((4 : Int32) + (1 : Int32)) = (5 : Int32) from by decide +kernel]
    refine XS.goto X17.here hx rfl (pc0 := 34) (pc' := 9) rfl (hb hby d1_34) (by decide) (by decide) ?_
    show Steps p.tables e below (T17.setTop (mkF m 9 #[iv (8 : Int32), rv b1_1_0, iv (15 : Int32), iv (5 : Int32), rv w_Type_ANSWER] [])) _
    refine XS.iloadN X17.here hx rfl (hb hby d1_9) rfl ?_
    refine XS.iloadN X17.here hx rfl (hb hby d1_10) rfl ?_
    refine XS.icmpNo X17.here hx rfl (hb hby d1_11) rfl (tlt (by decide +kernel : (5 : Int32) < (15 : Int32))).2.1 ?_
    refine XS.aloadN X17.here hx rfl (hb hby d1_14) rfl rfl ?_
    refine XS.iloadN X17.here hx rfl (hb hby d1_15) rfl ?_
    refine X17.aaload hx (j := (5 : Int32)) (v := (.ref w_Type_COORDINATOR)) (by rw [e17]; exact Ar18.1) (State.isArrayOf_alike hZ.alike Ar18.2.1) rfl Ar18.2.2 hin18 (Hs18.at hin18 rfl) (g := (mkF m 16 #[iv (8 : Int32), rv b1_1_0, iv (15 : Int32), iv (5 : Int32), rv w_Type_ANSWER] [(.int (5 : Int32)), (.ref b1_1_0)])) rfl rfl (hb hby d1_16) _ ?_
    show Steps p.tables e below (T17.setTop (mkF m 17 #[iv (8 : Int32), rv b1_1_0, iv (15 : Int32), iv (5 : Int32), rv w_Type_ANSWER] [(.ref w_Type_COORDINATOR)])) _
    refine XS.astore X17.here hx rfl (hb hby d1_17) rfl rfl (l' := #[iv (8 : Int32), rv b1_1_0, iv (15 : Int32), iv (5 : Int32), rv w_Type_COORDINATOR]) rfl ?_
    refine XS.aload X17.here hx rfl (hb hby d1_19) rfl rfl ?_
    refine st20 _ ?_
    refine XS.iloadN X20.here hx rfl (hb hby d1_24) rfl ?_
    refine XS.icmpYes X20.here hx rfl (pc0 := 25) (pc' := 31) rfl (hb hby d1_25) rfl (feq (by decide +kernel : ¬ ((6 : Int32) = (8 : Int32)))).2 (by decide) (by decide) ?_
    refine XS.iinc X20.here hx rfl (hb hby d1_31) rfl (l' := #[iv (8 : Int32), rv b1_1_0, iv (15 : Int32), iv ((5 : Int32) + (1 : Int32)), rv w_Type_COORDINATOR]) rfl ?_
    show Steps p.tables e below (T20.setTop (mkF m 34 #[iv (8 : Int32), rv b1_1_0, iv (15 : Int32), iv ((5 : Int32) + (1 : Int32)), rv w_Type_COORDINATOR] [])) _
    rewrite [show ((5 : Int32) + (1 : Int32)) = (6 : Int32) from by decide +kernel]
    show Steps p.tables e below (T20.setTop (mkF m 34 #[iv (8 : Int32), rv b1_1_0, iv (15 : Int32), iv (6 : Int32), rv w_Type_COORDINATOR] [])) _
    refine XS.goto X20.here hx rfl (pc0 := 34) (pc' := 9) rfl (hb hby d1_34) (by decide) (by decide) ?_
    refine XS.iloadN X20.here hx rfl (hb hby d1_9) rfl ?_
    refine XS.iloadN X20.here hx rfl (hb hby d1_10) rfl ?_
    refine XS.icmpNo X20.here hx rfl (hb hby d1_11) rfl (tlt (by decide +kernel : (6 : Int32) < (15 : Int32))).2.1 ?_
    refine XS.aloadN X20.here hx rfl (hb hby d1_14) rfl rfl ?_
    refine XS.iloadN X20.here hx rfl (hb hby d1_15) rfl ?_
    show Steps p.tables e below (T20.setTop (mkF m 16 #[iv (8 : Int32), rv b1_1_0, iv (15 : Int32), iv (6 : Int32), rv w_Type_COORDINATOR] [(.int (6 : Int32)), (.ref b1_1_0)])) _
    refine X20.aaload hx (j := (6 : Int32)) (v := (.ref w_Type_GRANT)) (by rw [e20]; exact Ar21.1) (State.isArrayOf_alike hZ.alike Ar21.2.1) rfl Ar21.2.2 hin21 (Hs21.at hin21 rfl) (g := (mkF m 16 #[iv (8 : Int32), rv b1_1_0, iv (15 : Int32), iv (6 : Int32), rv w_Type_COORDINATOR] [(.int (6 : Int32)), (.ref b1_1_0)])) rfl rfl (hb hby d1_16) _ ?_
    refine XS.astore X20.here hx rfl (hb hby d1_17) rfl rfl (l' := #[iv (8 : Int32), rv b1_1_0, iv (15 : Int32), iv (6 : Int32), rv w_Type_GRANT]) rfl ?_
    refine XS.aload X20.here hx rfl (hb hby d1_19) rfl rfl ?_
    refine st23 _ ?_
    refine XS.iloadN X23.here hx rfl (hb hby d1_24) rfl ?_
    refine XS.icmpYes X23.here hx rfl (pc0 := 25) (pc' := 31) rfl (hb hby d1_25) rfl (feq (by decide +kernel : ¬ ((7 : Int32) = (8 : Int32)))).2 (by decide) (by decide) ?_
    show Steps p.tables e below (T23.setTop (mkF m 31 #[iv (8 : Int32), rv b1_1_0, iv (15 : Int32), iv (6 : Int32), rv w_Type_GRANT] [])) _
    refine XS.iinc X23.here hx rfl (hb hby d1_31) rfl (l' := #[iv (8 : Int32), rv b1_1_0, iv (15 : Int32), iv ((6 : Int32) + (1 : Int32)), rv w_Type_GRANT]) rfl ?_
    show Steps p.tables e below (T23.setTop (mkF m 34 #[iv (8 : Int32), rv b1_1_0, iv (15 : Int32), iv ((6 : Int32) + (1 : Int32)), rv w_Type_GRANT] [])) _
    rewrite [show ((6 : Int32) + (1 : Int32)) = (7 : Int32) from by decide +kernel]
    refine XS.goto X23.here hx rfl (pc0 := 34) (pc' := 9) rfl (hb hby d1_34) (by decide) (by decide) ?_
    refine XS.iloadN X23.here hx rfl (hb hby d1_9) rfl ?_
    refine XS.iloadN X23.here hx rfl (hb hby d1_10) rfl ?_
    refine XS.icmpNo X23.here hx rfl (hb hby d1_11) rfl (tlt (by decide +kernel : (7 : Int32) < (15 : Int32))).2.1 ?_
    refine XS.aloadN X23.here hx rfl (hb hby d1_14) rfl rfl ?_
    show Steps p.tables e below (T23.setTop (mkF m 15 #[iv (8 : Int32), rv b1_1_0, iv (15 : Int32), iv (7 : Int32), rv w_Type_GRANT] [(.ref b1_1_0)])) _
    refine XS.iloadN X23.here hx rfl (hb hby d1_15) rfl ?_
    refine X23.aaload hx (j := (7 : Int32)) (v := (.ref w_Type_RELEASE)) (by rw [e23]; exact Ar24.1) (State.isArrayOf_alike hZ.alike Ar24.2.1) rfl Ar24.2.2 hin24 (Hs24.at hin24 rfl) (g := (mkF m 16 #[iv (8 : Int32), rv b1_1_0, iv (15 : Int32), iv (7 : Int32), rv w_Type_GRANT] [(.int (7 : Int32)), (.ref b1_1_0)])) rfl rfl (hb hby d1_16) _ ?_
    refine XS.astore X23.here hx rfl (hb hby d1_17) rfl rfl (l' := #[iv (8 : Int32), rv b1_1_0, iv (15 : Int32), iv (7 : Int32), rv w_Type_RELEASE]) rfl ?_
    refine XS.aload X23.here hx rfl (hb hby d1_19) rfl rfl ?_
    refine st26 _ ?_
    refine XS.iloadN X26.here hx rfl (hb hby d1_24) rfl ?_
    show Steps p.tables e below (T26.setTop (mkF m 25 #[iv (8 : Int32), rv b1_1_0, iv (15 : Int32), iv (7 : Int32), rv w_Type_RELEASE] [(.int (8 : Int32)), (.int (8 : Int32))])) _
    refine XS.icmpNo X26.here hx rfl (hb hby d1_25) rfl (teq (by decide +kernel : (8 : Int32) = (8 : Int32))).2 ?_
    refine XS.aload X26.here hx rfl (hb hby d1_28) rfl rfl ?_
    exact own_retA X26 hx Bd.returns rfl rfl (hb hby d1_30) hr
  · exact (by show Q_rk_found_7 Z w_Type_RELEASE h0 n0 _ T26.heap _; rw [e26]; exact ⟨rfl, N1, KK1⟩)
def Q_rk_found_8 (Z : State) (w_Type_HELD : Addr) (h0 : Heap) (n0 : Nat) (v : Option Value) (h : Heap) (L : List Loc) : Prop := (v = (some (.ref w_Type_HELD))) ∧ (Fr n0 L) ∧ (Keep h0 h [])
set_option maxRecDepth 65536 in
set_option maxHeartbeats 40000000 in
theorem rk_found_8 (l : Launch) (Z : State) (a0 : Array Value) (hw : ∀ d ∈ tables_1, d.before a0 Z = true) (ws : List Jvm.Cond) (w_Type__VALUES : Addr) (w_Type_REQUEST : Addr) (w_Type_REPLY : Addr) (w_Type_HEARTBEAT : Addr) (w_Type_ELECTION : Addr) (w_Type_ANSWER : Addr) (w_Type_COORDINATOR : Addr) (w_Type_GRANT : Addr) (w_Type_RELEASE : Addr) (w_Type_HELD : Addr) (w_Type_REPORTED : Addr) (w_Type_LOCKED : Addr) (w_Type_INQUIRE : Addr) (w_Type_FAILED : Addr) (w_Type_RELINQUISH : Addr) (w_Type_TOKEN : Addr) (k_w_Type__VALUES : ClassId) (h0 : Heap) (n0 : Nat) (Z0 : n0 ≤ h0.size) (S_Type__VALUES : Sta Z h0 "com/example/stile/stile/Message$Type" "$VALUES" "[Lcom/example/stile/stile/Message$Type;" (.ref w_Type__VALUES)) (V_w_Type__VALUES : Arv Z h0 w_Type__VALUES k_w_Type__VALUES (.object "com/example/stile/stile/Message$Type") (15 : Int32) [(.ref w_Type_REQUEST), (.ref w_Type_REPLY), (.ref w_Type_HEARTBEAT), (.ref w_Type_ELECTION), (.ref w_Type_ANSWER), (.ref w_Type_COORDINATOR), (.ref w_Type_GRANT), (.ref w_Type_RELEASE), (.ref w_Type_HELD), (.ref w_Type_REPORTED), (.ref w_Type_LOCKED), (.ref w_Type_INQUIRE), (.ref w_Type_FAILED), (.ref w_Type_RELINQUISH), (.ref w_Type_TOKEN)] .null) (E_w_Type__VALUES : Exa Z h0 w_Type__VALUES "[Lcom/example/stile/stile/Message$Type;") (F_w_Type_REQUEST_code : Fld Z h0 w_Type_REQUEST "com/example/stile/stile/Message$Type" "code" "I" (.int (1 : Int32))) (F_w_Type_REPLY_code : Fld Z h0 w_Type_REPLY "com/example/stile/stile/Message$Type" "code" "I" (.int (2 : Int32))) (F_w_Type_HEARTBEAT_code : Fld Z h0 w_Type_HEARTBEAT "com/example/stile/stile/Message$Type" "code" "I" (.int (3 : Int32))) (F_w_Type_ELECTION_code : Fld Z h0 w_Type_ELECTION "com/example/stile/stile/Message$Type" "code" "I" (.int (4 : Int32))) (F_w_Type_ANSWER_code : Fld Z h0 w_Type_ANSWER "com/example/stile/stile/Message$Type" "code" "I" (.int (5 : Int32))) (F_w_Type_COORDINATOR_code : Fld Z h0 w_Type_COORDINATOR "com/example/stile/stile/Message$Type" "code" "I" (.int (6 : Int32))) (F_w_Type_GRANT_code : Fld Z h0 w_Type_GRANT "com/example/stile/stile/Message$Type" "code" "I" (.int (7 : Int32))) (F_w_Type_RELEASE_code : Fld Z h0 w_Type_RELEASE "com/example/stile/stile/Message$Type" "code" "I" (.int (8 : Int32))) (F_w_Type_HELD_code : Fld Z h0 w_Type_HELD "com/example/stile/stile/Message$Type" "code" "I" (.int (9 : Int32))) :
    MetFree l (⟨"com/example/stile/stile/Message$Type", "of", "(I)Lcom/example/stile/stile/Message$Type;"⟩ : MethodName) (head1 (Jvm.Cond.code (⟨"com/example/stile/stile/Message$Type", "of", "(I)Lcom/example/stile/stile/Message$Type;"⟩ : MethodName) prog_48_method_8_code 5 (some (.object "com/example/stile/stile/Message$Type")) :: ws) ({ frames := 2, cells := 1, slots := 15, locals := 25 } : Room)) (fun a U => a = #[(.int (9 : Int32))] ∧ Z.Warmed39 U.vm ∧ U.heap = h0) (fun _ _ _ _ _ => True) (fun _ U o U' => ∃ v L, o = .returned v ∧ Q_rk_found_8 Z w_Type_HELD h0 n0 v U'.heap L ∧ FrameEnd U o U' L ({ frames := 2, cells := 1, slots := 15, locals := 25 } : Room).cells ({ frames := 2, cells := 1, slots := 15, locals := 25 } : Room).slots) := by
  refine MetFree.of_bodySF (plainFor_of_name pn_0) hisR ?_
  intro p e s m args below meth c s₁ Bd hml0 hP hK
  obtain ⟨rfl, hZ, hh⟩ := hP
  have hx := Bd.exec
  have hby := Bd.bytes
  have hml : c.maxLocals = 5 := hml0
  have hown : s.vm.findClass "com/example/stile/stile/Message$Type" = some m.cls := findClass_of_methodNamed Bd.named
  have hnm := (name_of_methodNamed Bd.named Bd.method).1
  have X0 : Stand p l e ({ frames := 2, cells := 1, slots := 15, locals := 25 } : Room) s m #[(.int (9 : Int32))] below meth c s₁ [] 0 0 := Stand.of_body Bd
  have e0 : s₁.heap = h0 := by rw [← hh, Bd.state]; rfl
  have N0 := Fr.nil n0
  have pre0 : ∀ t, Steps p.tables e below (s₁.setTop (mkF m 0 #[iv (9 : Int32), .unset, .unset, .unset, .unset] [])) t → Steps p.tables e below (s₁.setTop (entryFrame m #[(.int (9 : Int32))] 5)) t := fun t k => castTop (ef_1_I m (9 : Int32)) k
  obtain ⟨_, _, ⟨T1, L1, k1, n1⟩, -, X1, ⟨Lc1, hQ1, l1, y1, z1⟩, st1⟩ := Jvm.LawKit.callS X0 hx (y := (⟨"com/example/stile/stile/Message$Type", "values", "()[Lcom/example/stile/stile/Message$Type;"⟩ : MethodName)) hown (mvT hZ (hw _ (List.mem_of_getElem? (i := 4) rfl))) (mvT hZ (hw _ (List.mem_of_getElem? (i := 5) rfl))) (mvT hZ (hw _ (List.mem_of_getElem? (i := 2) rfl))) (mvT hZ (hw _ (List.mem_of_getElem? (i := 6) rfl))) (by decide) (backOf (W := 0) (rm2_0 l Z a0 hw [] w_Type__VALUES w_Type_REQUEST w_Type_REPLY w_Type_HEARTBEAT w_Type_ELECTION w_Type_ANSWER w_Type_COORDINATOR w_Type_GRANT w_Type_RELEASE w_Type_HELD w_Type_REPORTED w_Type_LOCKED w_Type_INQUIRE w_Type_FAILED w_Type_RELINQUISH w_Type_TOKEN k_w_Type__VALUES h0 n0 Z0 S_Type__VALUES V_w_Type__VALUES E_w_Type__VALUES) hZ (hw _ (List.mem_of_getElem? (i := 6) rfl)) (hw _ (List.mem_of_getElem? (i := 2) rfl)) (by decide) (by decide)) (g := (mkF m 0 #[iv (9 : Int32), .unset, .unset, .unset, .unset] [])) rfl (by rw [hml]; rfl) (argsL := []) (rest := []) (lenOf pd_0 rfl) rfl (by show 2 * 0 + _ ≤ _; exact Nat.le_of_eq rfl) (hb hby d1_0) (fun _ _ => ⟨rfl, e0, (by decide : 0 + 1 ≤ _), (by decide : 0 + 15 ≤ _)⟩)
  dsimp only [Pt.U, Pt.locs, Pt.cells, Pt.slots] at X1 l1 y1 z1 st1 hQ1
  subst l1 y1 z1
  obtain ⟨b1_1_0, rfl, N1q, K1, gq_b1_1_0, le_b1_1_0, fq1_0, fq1_1⟩ := hQ1
  have sz_b1_1_0 : h0.size ≤ b1_1_0 := Nat.le_trans (Keep.refl h0 []).1 le_b1_1_0
  have KK1 : Keep h0 T1.heap [] := (Keep.refl h0 []).trans K1 all0
  have Z1 : n0 ≤ T1.heap.size := Nat.le_trans Z0 K1.1
  have N1 := Fr.app N0 N1q
  obtain ⟨cl2, Ar2, -, Sz2, Nn2, -, -⟩ := id fq1_0
  obtain ⟨cl3, Ar3, -, Sz3, Nn3, Hs3, Gs3⟩ := id fq1_0
  have hin3 : ¬ ((0 : Int32) < 0 ∨ cl3.slots.size ≤ ((0 : Int32)).toNatClampNeg) := inb_of Sz3 ⟨by decide, by decide⟩
  have c4 := (F_w_Type_REQUEST_code.keep K1 nin0)
  obtain ⟨T5, X5, e5, st5⟩ := getF X1 hx hZ hown (host := "") (Or.inl (hw _ (List.mem_of_getElem? (i := 34) rfl))) Via.refl rfl c4 (g := (mkF m 21 #[iv (9 : Int32), rv b1_1_0, iv (15 : Int32), iv (0 : Int32), rv w_Type_REQUEST] [(.ref w_Type_REQUEST)])) rfl rfl (hb hby d1_21)
  obtain ⟨cl6, Ar6, -, Sz6, Nn6, Hs6, Gs6⟩ := id fq1_0
  have hin6 : ¬ ((1 : Int32) < 0 ∨ cl6.slots.size ≤ ((1 : Int32)).toNatClampNeg) := inb_of Sz6 ⟨by decide, by decide⟩
  have c7 := (F_w_Type_REPLY_code.keep K1 nin0)
  obtain ⟨T8, X8, e8, st8⟩ := getF X5 hx hZ hown (host := "") (Or.inl (hw _ (List.mem_of_getElem? (i := 34) rfl))) Via.refl e5 c7 (g := (mkF m 21 #[iv (9 : Int32), rv b1_1_0, iv (15 : Int32), iv (1 : Int32), rv w_Type_REPLY] [(.ref w_Type_REPLY)])) rfl rfl (hb hby d1_21)
  obtain ⟨cl9, Ar9, -, Sz9, Nn9, Hs9, Gs9⟩ := id fq1_0
  have hin9 : ¬ ((2 : Int32) < 0 ∨ cl9.slots.size ≤ ((2 : Int32)).toNatClampNeg) := inb_of Sz9 ⟨by decide, by decide⟩
  have c10 := (F_w_Type_HEARTBEAT_code.keep K1 nin0)
  obtain ⟨T11, X11, e11, st11⟩ := getF X8 hx hZ hown (host := "") (Or.inl (hw _ (List.mem_of_getElem? (i := 34) rfl))) Via.refl e8 c10 (g := (mkF m 21 #[iv (9 : Int32), rv b1_1_0, iv (15 : Int32), iv (2 : Int32), rv w_Type_HEARTBEAT] [(.ref w_Type_HEARTBEAT)])) rfl rfl (hb hby d1_21)
  obtain ⟨cl12, Ar12, -, Sz12, Nn12, Hs12, Gs12⟩ := id fq1_0
  have hin12 : ¬ ((3 : Int32) < 0 ∨ cl12.slots.size ≤ ((3 : Int32)).toNatClampNeg) := inb_of Sz12 ⟨by decide, by decide⟩
  have c13 := (F_w_Type_ELECTION_code.keep K1 nin0)
  obtain ⟨T14, X14, e14, st14⟩ := getF X11 hx hZ hown (host := "") (Or.inl (hw _ (List.mem_of_getElem? (i := 34) rfl))) Via.refl e11 c13 (g := (mkF m 21 #[iv (9 : Int32), rv b1_1_0, iv (15 : Int32), iv (3 : Int32), rv w_Type_ELECTION] [(.ref w_Type_ELECTION)])) rfl rfl (hb hby d1_21)
  obtain ⟨cl15, Ar15, -, Sz15, Nn15, Hs15, Gs15⟩ := id fq1_0
  have hin15 : ¬ ((4 : Int32) < 0 ∨ cl15.slots.size ≤ ((4 : Int32)).toNatClampNeg) := inb_of Sz15 ⟨by decide, by decide⟩
  have c16 := (F_w_Type_ANSWER_code.keep K1 nin0)
  obtain ⟨T17, X17, e17, st17⟩ := getF X14 hx hZ hown (host := "") (Or.inl (hw _ (List.mem_of_getElem? (i := 34) rfl))) Via.refl e14 c16 (g := (mkF m 21 #[iv (9 : Int32), rv b1_1_0, iv (15 : Int32), iv (4 : Int32), rv w_Type_ANSWER] [(.ref w_Type_ANSWER)])) rfl rfl (hb hby d1_21)
  obtain ⟨cl18, Ar18, -, Sz18, Nn18, Hs18, Gs18⟩ := id fq1_0
  have hin18 : ¬ ((5 : Int32) < 0 ∨ cl18.slots.size ≤ ((5 : Int32)).toNatClampNeg) := inb_of Sz18 ⟨by decide, by decide⟩
  have c19 := (F_w_Type_COORDINATOR_code.keep K1 nin0)
  obtain ⟨T20, X20, e20, st20⟩ := getF X17 hx hZ hown (host := "") (Or.inl (hw _ (List.mem_of_getElem? (i := 34) rfl))) Via.refl e17 c19 (g := (mkF m 21 #[iv (9 : Int32), rv b1_1_0, iv (15 : Int32), iv (5 : Int32), rv w_Type_COORDINATOR] [(.ref w_Type_COORDINATOR)])) rfl rfl (hb hby d1_21)
  obtain ⟨cl21, Ar21, -, Sz21, Nn21, Hs21, Gs21⟩ := id fq1_0
  have hin21 : ¬ ((6 : Int32) < 0 ∨ cl21.slots.size ≤ ((6 : Int32)).toNatClampNeg) := inb_of Sz21 ⟨by decide, by decide⟩
  have c22 := (F_w_Type_GRANT_code.keep K1 nin0)
  obtain ⟨T23, X23, e23, st23⟩ := getF X20 hx hZ hown (host := "") (Or.inl (hw _ (List.mem_of_getElem? (i := 34) rfl))) Via.refl e20 c22 (g := (mkF m 21 #[iv (9 : Int32), rv b1_1_0, iv (15 : Int32), iv (6 : Int32), rv w_Type_GRANT] [(.ref w_Type_GRANT)])) rfl rfl (hb hby d1_21)
  obtain ⟨cl24, Ar24, -, Sz24, Nn24, Hs24, Gs24⟩ := id fq1_0
  have hin24 : ¬ ((7 : Int32) < 0 ∨ cl24.slots.size ≤ ((7 : Int32)).toNatClampNeg) := inb_of Sz24 ⟨by decide, by decide⟩
  have c25 := (F_w_Type_RELEASE_code.keep K1 nin0)
  obtain ⟨T26, X26, e26, st26⟩ := getF X23 hx hZ hown (host := "") (Or.inl (hw _ (List.mem_of_getElem? (i := 34) rfl))) Via.refl e23 c25 (g := (mkF m 21 #[iv (9 : Int32), rv b1_1_0, iv (15 : Int32), iv (7 : Int32), rv w_Type_RELEASE] [(.ref w_Type_RELEASE)])) rfl rfl (hb hby d1_21)
  obtain ⟨cl27, Ar27, -, Sz27, Nn27, Hs27, Gs27⟩ := id fq1_0
  have hin27 : ¬ ((8 : Int32) < 0 ∨ cl27.slots.size ≤ ((8 : Int32)).toNatClampNeg) := inb_of Sz27 ⟨by decide, by decide⟩
  have c28 := (F_w_Type_HELD_code.keep K1 nin0)
  obtain ⟨T29, X29, e29, st29⟩ := getF X26 hx hZ hown (host := "") (Or.inl (hw _ (List.mem_of_getElem? (i := 34) rfl))) Via.refl e26 c28 (g := (mkF m 21 #[iv (9 : Int32), rv b1_1_0, iv (15 : Int32), iv (8 : Int32), rv w_Type_HELD] [(.ref w_Type_HELD)])) rfl rfl (hb hby d1_21)
  obtain ⟨fs, hr, hrun, hended, hW, hsame⟩ := X29.leave (v := (some (.ref w_Type_HELD))) (fun h => by rw [Bd.returns] at h; cases h)
  refine ⟨_, _, pre0 _ ?_, hrun, hended, _, _, rfl, ?_, ⟨_, rfl⟩, hW, hsame.mono (by decide) (by decide)⟩
  · show Steps p.tables e below (s₁.setTop (mkF m 0 #[iv (9 : Int32), .unset, .unset, .unset, .unset] [])) _
    refine st1 _ ?_
    refine XS.astoreN X1.here hx rfl (hb hby d1_3) rfl rfl (l' := #[iv (9 : Int32), rv b1_1_0, .unset, .unset, .unset]) rfl ?_
    refine XS.aloadN X1.here hx rfl (hb hby d1_4) rfl rfl ?_
    refine X1.arraylength hx Ar2.1 (State.isArrayOf_alike hZ.alike Ar2.2.1) (g := (mkF m 5 #[iv (9 : Int32), rv b1_1_0, .unset, .unset, .unset] [(.ref b1_1_0)])) rfl rfl (hb hby d1_5) _ ?_
    rw [len_of Sz2 Nn2]
    refine XS.istoreN X1.here hx rfl (hb hby d1_6) rfl (l' := #[iv (9 : Int32), rv b1_1_0, iv (15 : Int32), .unset, .unset]) rfl ?_
    refine XS.iconst X1.here hx rfl (hb hby d1_7) ?_
    show Steps p.tables e below (T1.setTop (mkF m 8 #[iv (9 : Int32), rv b1_1_0, iv (15 : Int32), .unset, .unset] [(.int (0 : Int32))])) _
    refine XS.istoreN X1.here hx rfl (hb hby d1_8) rfl (l' := #[iv (9 : Int32), rv b1_1_0, iv (15 : Int32), iv (0 : Int32), .unset]) rfl ?_
    refine XS.iloadN X1.here hx rfl (hb hby d1_9) rfl ?_
    refine XS.iloadN X1.here hx rfl (hb hby d1_10) rfl ?_
    refine XS.icmpNo X1.here hx rfl (hb hby d1_11) rfl (tlt (by decide +kernel : (0 : Int32) < (15 : Int32))).2.1 ?_
    refine XS.aloadN X1.here hx rfl (hb hby d1_14) rfl rfl ?_
    refine XS.iloadN X1.here hx rfl (hb hby d1_15) rfl ?_
    show Steps p.tables e below (T1.setTop (mkF m 16 #[iv (9 : Int32), rv b1_1_0, iv (15 : Int32), iv (0 : Int32), .unset] [(.int (0 : Int32)), (.ref b1_1_0)])) _
    refine X1.aaload hx (j := (0 : Int32)) (v := (.ref w_Type_REQUEST)) Ar3.1 (State.isArrayOf_alike hZ.alike Ar3.2.1) rfl Ar3.2.2 hin3 (Hs3.at hin3 rfl) (g := (mkF m 16 #[iv (9 : Int32), rv b1_1_0, iv (15 : Int32), iv (0 : Int32), .unset] [(.int (0 : Int32)), (.ref b1_1_0)])) rfl rfl (hb hby d1_16) _ ?_
    refine XS.astore X1.here hx rfl (hb hby d1_17) rfl rfl (l' := #[iv (9 : Int32), rv b1_1_0, iv (15 : Int32), iv (0 : Int32), rv w_Type_REQUEST]) rfl ?_
    refine XS.aload X1.here hx rfl (hb hby d1_19) rfl rfl ?_
    refine st5 _ ?_
    refine XS.iloadN X5.here hx rfl (hb hby d1_24) rfl ?_
    refine XS.icmpYes X5.here hx rfl (pc0 := 25) (pc' := 31) rfl (hb hby d1_25) rfl (feq (by decide +kernel : ¬ ((1 : Int32) = (9 : Int32)))).2 (by decide) (by decide) ?_
    show Steps p.tables e below (T5.setTop (mkF m 31 #[iv (9 : Int32), rv b1_1_0, iv (15 : Int32), iv (0 : Int32), rv w_Type_REQUEST] [])) _
    refine XS.iinc X5.here hx rfl (hb hby d1_31) rfl (l' := #[iv (9 : Int32), rv b1_1_0, iv (15 : Int32), iv ((0 : Int32) + (1 : Int32)), rv w_Type_REQUEST]) rfl ?_
    show Steps p.tables e below (T5.setTop (mkF m 34 #[iv (9 : Int32), rv b1_1_0, iv (15 : Int32), iv ((0 : Int32) + (1 : Int32)), rv w_Type_REQUEST] [])) _
    rewrite [show ((0 : Int32) + (1 : Int32)) = (1 : Int32) from by decide +kernel]
    refine XS.goto X5.here hx rfl (pc0 := 34) (pc' := 9) rfl (hb hby d1_34) (by decide) (by decide) ?_
    refine XS.iloadN X5.here hx rfl (hb hby d1_9) rfl ?_
    refine XS.iloadN X5.here hx rfl (hb hby d1_10) rfl ?_
    refine XS.icmpNo X5.here hx rfl (hb hby d1_11) rfl (tlt (by decide +kernel : (1 : Int32) < (15 : Int32))).2.1 ?_
    refine XS.aloadN X5.here hx rfl (hb hby d1_14) rfl rfl ?_
    show Steps p.tables e below (T5.setTop (mkF m 15 #[iv (9 : Int32), rv b1_1_0, iv (15 : Int32), iv (1 : Int32), rv w_Type_REQUEST] [(.ref b1_1_0)])) _
    refine XS.iloadN X5.here hx rfl (hb hby d1_15) rfl ?_
    refine X5.aaload hx (j := (1 : Int32)) (v := (.ref w_Type_REPLY)) (by rw [e5]; exact Ar6.1) (State.isArrayOf_alike hZ.alike Ar6.2.1) rfl Ar6.2.2 hin6 (Hs6.at hin6 rfl) (g := (mkF m 16 #[iv (9 : Int32), rv b1_1_0, iv (15 : Int32), iv (1 : Int32), rv w_Type_REQUEST] [(.int (1 : Int32)), (.ref b1_1_0)])) rfl rfl (hb hby d1_16) _ ?_
    refine XS.astore X5.here hx rfl (hb hby d1_17) rfl rfl (l' := #[iv (9 : Int32), rv b1_1_0, iv (15 : Int32), iv (1 : Int32), rv w_Type_REPLY]) rfl ?_
    refine XS.aload X5.here hx rfl (hb hby d1_19) rfl rfl ?_
    refine st8 _ ?_
    refine XS.iloadN X8.here hx rfl (hb hby d1_24) rfl ?_
    show Steps p.tables e below (T8.setTop (mkF m 25 #[iv (9 : Int32), rv b1_1_0, iv (15 : Int32), iv (1 : Int32), rv w_Type_REPLY] [(.int (9 : Int32)), (.int (2 : Int32))])) _
    refine XS.icmpYes X8.here hx rfl (pc0 := 25) (pc' := 31) rfl (hb hby d1_25) rfl (feq (by decide +kernel : ¬ ((2 : Int32) = (9 : Int32)))).2 (by decide) (by decide) ?_
    refine XS.iinc X8.here hx rfl (hb hby d1_31) rfl (l' := #[iv (9 : Int32), rv b1_1_0, iv (15 : Int32), iv ((1 : Int32) + (1 : Int32)), rv w_Type_REPLY]) rfl ?_
    show Steps p.tables e below (T8.setTop (mkF m 34 #[iv (9 : Int32), rv b1_1_0, iv (15 : Int32), iv ((1 : Int32) + (1 : Int32)), rv w_Type_REPLY] [])) _
    rewrite [show ((1 : Int32) + (1 : Int32)) = (2 : Int32) from by decide +kernel]
    refine XS.goto X8.here hx rfl (pc0 := 34) (pc' := 9) rfl (hb hby d1_34) (by decide) (by decide) ?_
    refine XS.iloadN X8.here hx rfl (hb hby d1_9) rfl ?_
    refine XS.iloadN X8.here hx rfl (hb hby d1_10) rfl ?_
    refine XS.icmpNo X8.here hx rfl (hb hby d1_11) rfl (tlt (by decide +kernel : (2 : Int32) < (15 : Int32))).2.1 ?_
    show Steps p.tables e below (T8.setTop (mkF m 14 #[iv (9 : Int32), rv b1_1_0, iv (15 : Int32), iv (2 : Int32), rv w_Type_REPLY] [])) _
    refine XS.aloadN X8.here hx rfl (hb hby d1_14) rfl rfl ?_
    refine XS.iloadN X8.here hx rfl (hb hby d1_15) rfl ?_
    refine X8.aaload hx (j := (2 : Int32)) (v := (.ref w_Type_HEARTBEAT)) (by rw [e8]; exact Ar9.1) (State.isArrayOf_alike hZ.alike Ar9.2.1) rfl Ar9.2.2 hin9 (Hs9.at hin9 rfl) (g := (mkF m 16 #[iv (9 : Int32), rv b1_1_0, iv (15 : Int32), iv (2 : Int32), rv w_Type_REPLY] [(.int (2 : Int32)), (.ref b1_1_0)])) rfl rfl (hb hby d1_16) _ ?_
    refine XS.astore X8.here hx rfl (hb hby d1_17) rfl rfl (l' := #[iv (9 : Int32), rv b1_1_0, iv (15 : Int32), iv (2 : Int32), rv w_Type_HEARTBEAT]) rfl ?_
    refine XS.aload X8.here hx rfl (hb hby d1_19) rfl rfl ?_
    refine st11 _ ?_
    show Steps p.tables e below (T11.setTop (mkF m 24 #[iv (9 : Int32), rv b1_1_0, iv (15 : Int32), iv (2 : Int32), rv w_Type_HEARTBEAT] [(.int (3 : Int32))])) _
    refine XS.iloadN X11.here hx rfl (hb hby d1_24) rfl ?_
    refine XS.icmpYes X11.here hx rfl (pc0 := 25) (pc' := 31) rfl (hb hby d1_25) rfl (feq (by decide +kernel : ¬ ((3 : Int32) = (9 : Int32)))).2 (by decide) (by decide) ?_
    refine XS.iinc X11.here hx rfl (hb hby d1_31) rfl (l' := #[iv (9 : Int32), rv b1_1_0, iv (15 : Int32), iv ((2 : Int32) + (1 : Int32)), rv w_Type_HEARTBEAT]) rfl ?_
    show Steps p.tables e below (T11.setTop (mkF m 34 #[iv (9 : Int32), rv b1_1_0, iv (15 : Int32), iv ((2 : Int32) + (1 : Int32)), rv w_Type_HEARTBEAT] [])) _
    rewrite [show ((2 : Int32) + (1 : Int32)) = (3 : Int32) from by decide +kernel]
    refine XS.goto X11.here hx rfl (pc0 := 34) (pc' := 9) rfl (hb hby d1_34) (by decide) (by decide) ?_
    refine XS.iloadN X11.here hx rfl (hb hby d1_9) rfl ?_
    refine XS.iloadN X11.here hx rfl (hb hby d1_10) rfl ?_
    show Steps p.tables e below (T11.setTop (mkF m 11 #[iv (9 : Int32), rv b1_1_0, iv (15 : Int32), iv (3 : Int32), rv w_Type_HEARTBEAT] [(.int (15 : Int32)), (.int (3 : Int32))])) _
    refine XS.icmpNo X11.here hx rfl (hb hby d1_11) rfl (tlt (by decide +kernel : (3 : Int32) < (15 : Int32))).2.1 ?_
    refine XS.aloadN X11.here hx rfl (hb hby d1_14) rfl rfl ?_
    refine XS.iloadN X11.here hx rfl (hb hby d1_15) rfl ?_
    refine X11.aaload hx (j := (3 : Int32)) (v := (.ref w_Type_ELECTION)) (by rw [e11]; exact Ar12.1) (State.isArrayOf_alike hZ.alike Ar12.2.1) rfl Ar12.2.2 hin12 (Hs12.at hin12 rfl) (g := (mkF m 16 #[iv (9 : Int32), rv b1_1_0, iv (15 : Int32), iv (3 : Int32), rv w_Type_HEARTBEAT] [(.int (3 : Int32)), (.ref b1_1_0)])) rfl rfl (hb hby d1_16) _ ?_
    refine XS.astore X11.here hx rfl (hb hby d1_17) rfl rfl (l' := #[iv (9 : Int32), rv b1_1_0, iv (15 : Int32), iv (3 : Int32), rv w_Type_ELECTION]) rfl ?_
    refine XS.aload X11.here hx rfl (hb hby d1_19) rfl rfl ?_
    show Steps p.tables e below (T11.setTop (mkF m 21 #[iv (9 : Int32), rv b1_1_0, iv (15 : Int32), iv (3 : Int32), rv w_Type_ELECTION] [(.ref w_Type_ELECTION)])) _
    refine st14 _ ?_
    refine XS.iloadN X14.here hx rfl (hb hby d1_24) rfl ?_
    refine XS.icmpYes X14.here hx rfl (pc0 := 25) (pc' := 31) rfl (hb hby d1_25) rfl (feq (by decide +kernel : ¬ ((4 : Int32) = (9 : Int32)))).2 (by decide) (by decide) ?_
    refine XS.iinc X14.here hx rfl (hb hby d1_31) rfl (l' := #[iv (9 : Int32), rv b1_1_0, iv (15 : Int32), iv ((3 : Int32) + (1 : Int32)), rv w_Type_ELECTION]) rfl ?_
    show Steps p.tables e below (T14.setTop (mkF m 34 #[iv (9 : Int32), rv b1_1_0, iv (15 : Int32), iv ((3 : Int32) + (1 : Int32)), rv w_Type_ELECTION] [])) _
    rewrite [show ((3 : Int32) + (1 : Int32)) = (4 : Int32) from by decide +kernel]
    refine XS.goto X14.here hx rfl (pc0 := 34) (pc' := 9) rfl (hb hby d1_34) (by decide) (by decide) ?_
    refine XS.iloadN X14.here hx rfl (hb hby d1_9) rfl ?_
    show Steps p.tables e below (T14.setTop (mkF m 10 #[iv (9 : Int32), rv b1_1_0, iv (15 : Int32), iv (4 : Int32), rv w_Type_ELECTION] [(.int (4 : Int32))])) _
    refine XS.iloadN X14.here hx rfl (hb hby d1_10) rfl ?_
    refine XS.icmpNo X14.here hx rfl (hb hby d1_11) rfl (tlt (by decide +kernel : (4 : Int32) < (15 : Int32))).2.1 ?_
    refine XS.aloadN X14.here hx rfl (hb hby d1_14) rfl rfl ?_
    refine XS.iloadN X14.here hx rfl (hb hby d1_15) rfl ?_
    refine X14.aaload hx (j := (4 : Int32)) (v := (.ref w_Type_ANSWER)) (by rw [e14]; exact Ar15.1) (State.isArrayOf_alike hZ.alike Ar15.2.1) rfl Ar15.2.2 hin15 (Hs15.at hin15 rfl) (g := (mkF m 16 #[iv (9 : Int32), rv b1_1_0, iv (15 : Int32), iv (4 : Int32), rv w_Type_ELECTION] [(.int (4 : Int32)), (.ref b1_1_0)])) rfl rfl (hb hby d1_16) _ ?_
    refine XS.astore X14.here hx rfl (hb hby d1_17) rfl rfl (l' := #[iv (9 : Int32), rv b1_1_0, iv (15 : Int32), iv (4 : Int32), rv w_Type_ANSWER]) rfl ?_
    show Steps p.tables e below (T14.setTop (mkF m 19 #[iv (9 : Int32), rv b1_1_0, iv (15 : Int32), iv (4 : Int32), rv w_Type_ANSWER] [])) _
    refine XS.aload X14.here hx rfl (hb hby d1_19) rfl rfl ?_
    refine st17 _ ?_
    refine XS.iloadN X17.here hx rfl (hb hby d1_24) rfl ?_
    refine XS.icmpYes X17.here hx rfl (pc0 := 25) (pc' := 31) rfl (hb hby d1_25) rfl (feq (by decide +kernel : ¬ ((5 : Int32) = (9 : Int32)))).2 (by decide) (by decide) ?_
    refine XS.iinc X17.here hx rfl (hb hby d1_31) rfl (l' := #[iv (9 : Int32), rv b1_1_0, iv (15 : Int32), iv ((4 : Int32) + (1 : Int32)), rv w_Type_ANSWER]) rfl ?_
    show Steps p.tables e below (T17.setTop (mkF m 34 #[iv (9 : Int32), rv b1_1_0, iv (15 : Int32), iv ((4 : Int32) + (1 : Int32)), rv w_Type_ANSWER] [])) _
    rewrite [show ((4 : Int32) + (1 : Int32)) = (5 : Int32) from by decide +kernel]
    refine XS.goto X17.here hx rfl (pc0 := 34) (pc' := 9) rfl (hb hby d1_34) (by decide) (by decide) ?_
    show Steps p.tables e below (T17.setTop (mkF m 9 #[iv (9 : Int32), rv b1_1_0, iv (15 : Int32), iv (5 : Int32), rv w_Type_ANSWER] [])) _
    refine XS.iloadN X17.here hx rfl (hb hby d1_9) rfl ?_
    refine XS.iloadN X17.here hx rfl (hb hby d1_10) rfl ?_
    refine XS.icmpNo X17.here hx rfl (hb hby d1_11) rfl (tlt (by decide +kernel : (5 : Int32) < (15 : Int32))).2.1 ?_
    refine XS.aloadN X17.here hx rfl (hb hby d1_14) rfl rfl ?_
    refine XS.iloadN X17.here hx rfl (hb hby d1_15) rfl ?_
    refine X17.aaload hx (j := (5 : Int32)) (v := (.ref w_Type_COORDINATOR)) (by rw [e17]; exact Ar18.1) (State.isArrayOf_alike hZ.alike Ar18.2.1) rfl Ar18.2.2 hin18 (Hs18.at hin18 rfl) (g := (mkF m 16 #[iv (9 : Int32), rv b1_1_0, iv (15 : Int32), iv (5 : Int32), rv w_Type_ANSWER] [(.int (5 : Int32)), (.ref b1_1_0)])) rfl rfl (hb hby d1_16) _ ?_
    show Steps p.tables e below (T17.setTop (mkF m 17 #[iv (9 : Int32), rv b1_1_0, iv (15 : Int32), iv (5 : Int32), rv w_Type_ANSWER] [(.ref w_Type_COORDINATOR)])) _
    refine XS.astore X17.here hx rfl (hb hby d1_17) rfl rfl (l' := #[iv (9 : Int32), rv b1_1_0, iv (15 : Int32), iv (5 : Int32), rv w_Type_COORDINATOR]) rfl ?_
    refine XS.aload X17.here hx rfl (hb hby d1_19) rfl rfl ?_
    refine st20 _ ?_
    refine XS.iloadN X20.here hx rfl (hb hby d1_24) rfl ?_
    refine XS.icmpYes X20.here hx rfl (pc0 := 25) (pc' := 31) rfl (hb hby d1_25) rfl (feq (by decide +kernel : ¬ ((6 : Int32) = (9 : Int32)))).2 (by decide) (by decide) ?_
    refine XS.iinc X20.here hx rfl (hb hby d1_31) rfl (l' := #[iv (9 : Int32), rv b1_1_0, iv (15 : Int32), iv ((5 : Int32) + (1 : Int32)), rv w_Type_COORDINATOR]) rfl ?_
    show Steps p.tables e below (T20.setTop (mkF m 34 #[iv (9 : Int32), rv b1_1_0, iv (15 : Int32), iv ((5 : Int32) + (1 : Int32)), rv w_Type_COORDINATOR] [])) _
    rewrite [show ((5 : Int32) + (1 : Int32)) = (6 : Int32) from by decide +kernel]
    show Steps p.tables e below (T20.setTop (mkF m 34 #[iv (9 : Int32), rv b1_1_0, iv (15 : Int32), iv (6 : Int32), rv w_Type_COORDINATOR] [])) _
    refine XS.goto X20.here hx rfl (pc0 := 34) (pc' := 9) rfl (hb hby d1_34) (by decide) (by decide) ?_
    refine XS.iloadN X20.here hx rfl (hb hby d1_9) rfl ?_
    refine XS.iloadN X20.here hx rfl (hb hby d1_10) rfl ?_
    refine XS.icmpNo X20.here hx rfl (hb hby d1_11) rfl (tlt (by decide +kernel : (6 : Int32) < (15 : Int32))).2.1 ?_
    refine XS.aloadN X20.here hx rfl (hb hby d1_14) rfl rfl ?_
    refine XS.iloadN X20.here hx rfl (hb hby d1_15) rfl ?_
    show Steps p.tables e below (T20.setTop (mkF m 16 #[iv (9 : Int32), rv b1_1_0, iv (15 : Int32), iv (6 : Int32), rv w_Type_COORDINATOR] [(.int (6 : Int32)), (.ref b1_1_0)])) _
    refine X20.aaload hx (j := (6 : Int32)) (v := (.ref w_Type_GRANT)) (by rw [e20]; exact Ar21.1) (State.isArrayOf_alike hZ.alike Ar21.2.1) rfl Ar21.2.2 hin21 (Hs21.at hin21 rfl) (g := (mkF m 16 #[iv (9 : Int32), rv b1_1_0, iv (15 : Int32), iv (6 : Int32), rv w_Type_COORDINATOR] [(.int (6 : Int32)), (.ref b1_1_0)])) rfl rfl (hb hby d1_16) _ ?_
    refine XS.astore X20.here hx rfl (hb hby d1_17) rfl rfl (l' := #[iv (9 : Int32), rv b1_1_0, iv (15 : Int32), iv (6 : Int32), rv w_Type_GRANT]) rfl ?_
    refine XS.aload X20.here hx rfl (hb hby d1_19) rfl rfl ?_
    refine st23 _ ?_
    refine XS.iloadN X23.here hx rfl (hb hby d1_24) rfl ?_
    refine XS.icmpYes X23.here hx rfl (pc0 := 25) (pc' := 31) rfl (hb hby d1_25) rfl (feq (by decide +kernel : ¬ ((7 : Int32) = (9 : Int32)))).2 (by decide) (by decide) ?_
    show Steps p.tables e below (T23.setTop (mkF m 31 #[iv (9 : Int32), rv b1_1_0, iv (15 : Int32), iv (6 : Int32), rv w_Type_GRANT] [])) _
    refine XS.iinc X23.here hx rfl (hb hby d1_31) rfl (l' := #[iv (9 : Int32), rv b1_1_0, iv (15 : Int32), iv ((6 : Int32) + (1 : Int32)), rv w_Type_GRANT]) rfl ?_
    show Steps p.tables e below (T23.setTop (mkF m 34 #[iv (9 : Int32), rv b1_1_0, iv (15 : Int32), iv ((6 : Int32) + (1 : Int32)), rv w_Type_GRANT] [])) _
    rewrite [show ((6 : Int32) + (1 : Int32)) = (7 : Int32) from by decide +kernel]
    refine XS.goto X23.here hx rfl (pc0 := 34) (pc' := 9) rfl (hb hby d1_34) (by decide) (by decide) ?_
    refine XS.iloadN X23.here hx rfl (hb hby d1_9) rfl ?_
    refine XS.iloadN X23.here hx rfl (hb hby d1_10) rfl ?_
    refine XS.icmpNo X23.here hx rfl (hb hby d1_11) rfl (tlt (by decide +kernel : (7 : Int32) < (15 : Int32))).2.1 ?_
    refine XS.aloadN X23.here hx rfl (hb hby d1_14) rfl rfl ?_
    show Steps p.tables e below (T23.setTop (mkF m 15 #[iv (9 : Int32), rv b1_1_0, iv (15 : Int32), iv (7 : Int32), rv w_Type_GRANT] [(.ref b1_1_0)])) _
    refine XS.iloadN X23.here hx rfl (hb hby d1_15) rfl ?_
    refine X23.aaload hx (j := (7 : Int32)) (v := (.ref w_Type_RELEASE)) (by rw [e23]; exact Ar24.1) (State.isArrayOf_alike hZ.alike Ar24.2.1) rfl Ar24.2.2 hin24 (Hs24.at hin24 rfl) (g := (mkF m 16 #[iv (9 : Int32), rv b1_1_0, iv (15 : Int32), iv (7 : Int32), rv w_Type_GRANT] [(.int (7 : Int32)), (.ref b1_1_0)])) rfl rfl (hb hby d1_16) _ ?_
    refine XS.astore X23.here hx rfl (hb hby d1_17) rfl rfl (l' := #[iv (9 : Int32), rv b1_1_0, iv (15 : Int32), iv (7 : Int32), rv w_Type_RELEASE]) rfl ?_
    refine XS.aload X23.here hx rfl (hb hby d1_19) rfl rfl ?_
    refine st26 _ ?_
    refine XS.iloadN X26.here hx rfl (hb hby d1_24) rfl ?_
    show Steps p.tables e below (T26.setTop (mkF m 25 #[iv (9 : Int32), rv b1_1_0, iv (15 : Int32), iv (7 : Int32), rv w_Type_RELEASE] [(.int (9 : Int32)), (.int (8 : Int32))])) _
    refine XS.icmpYes X26.here hx rfl (pc0 := 25) (pc' := 31) rfl (hb hby d1_25) rfl (feq (by decide +kernel : ¬ ((8 : Int32) = (9 : Int32)))).2 (by decide) (by decide) ?_
    refine XS.iinc X26.here hx rfl (hb hby d1_31) rfl (l' := #[iv (9 : Int32), rv b1_1_0, iv (15 : Int32), iv ((7 : Int32) + (1 : Int32)), rv w_Type_RELEASE]) rfl ?_
    show Steps p.tables e below (T26.setTop (mkF m 34 #[iv (9 : Int32), rv b1_1_0, iv (15 : Int32), iv ((7 : Int32) + (1 : Int32)), rv w_Type_RELEASE] [])) _
    rewrite [show ((7 : Int32) + (1 : Int32)) = (8 : Int32) from by decide +kernel]
    refine XS.goto X26.here hx rfl (pc0 := 34) (pc' := 9) rfl (hb hby d1_34) (by decide) (by decide) ?_
    refine XS.iloadN X26.here hx rfl (hb hby d1_9) rfl ?_
    refine XS.iloadN X26.here hx rfl (hb hby d1_10) rfl ?_
    refine XS.icmpNo X26.here hx rfl (hb hby d1_11) rfl (tlt (by decide +kernel : (8 : Int32) < (15 : Int32))).2.1 ?_
    show Steps p.tables e below (T26.setTop (mkF m 14 #[iv (9 : Int32), rv b1_1_0, iv (15 : Int32), iv (8 : Int32), rv w_Type_RELEASE] [])) _
    refine XS.aloadN X26.here hx rfl (hb hby d1_14) rfl rfl ?_
    refine XS.iloadN X26.here hx rfl (hb hby d1_15) rfl ?_
    refine X26.aaload hx (j := (8 : Int32)) (v := (.ref w_Type_HELD)) (by rw [e26]; exact Ar27.1) (State.isArrayOf_alike hZ.alike Ar27.2.1) rfl Ar27.2.2 hin27 (Hs27.at hin27 rfl) (g := (mkF m 16 #[iv (9 : Int32), rv b1_1_0, iv (15 : Int32), iv (8 : Int32), rv w_Type_RELEASE] [(.int (8 : Int32)), (.ref b1_1_0)])) rfl rfl (hb hby d1_16) _ ?_
    refine XS.astore X26.here hx rfl (hb hby d1_17) rfl rfl (l' := #[iv (9 : Int32), rv b1_1_0, iv (15 : Int32), iv (8 : Int32), rv w_Type_HELD]) rfl ?_
    refine XS.aload X26.here hx rfl (hb hby d1_19) rfl rfl ?_
    refine st29 _ ?_
    show Steps p.tables e below (T29.setTop (mkF m 24 #[iv (9 : Int32), rv b1_1_0, iv (15 : Int32), iv (8 : Int32), rv w_Type_HELD] [(.int (9 : Int32))])) _
    refine XS.iloadN X29.here hx rfl (hb hby d1_24) rfl ?_
    refine XS.icmpNo X29.here hx rfl (hb hby d1_25) rfl (teq (by decide +kernel : (9 : Int32) = (9 : Int32))).2 ?_
    refine XS.aload X29.here hx rfl (hb hby d1_28) rfl rfl ?_
    exact own_retA X29 hx Bd.returns rfl rfl (hb hby d1_30) hr
  · exact (by show Q_rk_found_8 Z w_Type_HELD h0 n0 _ T29.heap _; rw [e29]; exact ⟨rfl, N1, KK1⟩)
def Q_rk_found_9 (Z : State) (w_Type_REPORTED : Addr) (h0 : Heap) (n0 : Nat) (v : Option Value) (h : Heap) (L : List Loc) : Prop := (v = (some (.ref w_Type_REPORTED))) ∧ (Fr n0 L) ∧ (Keep h0 h [])
set_option maxRecDepth 65536 in
set_option maxHeartbeats 40000000 in
theorem rk_found_9 (l : Launch) (Z : State) (a0 : Array Value) (hw : ∀ d ∈ tables_1, d.before a0 Z = true) (ws : List Jvm.Cond) (w_Type__VALUES : Addr) (w_Type_REQUEST : Addr) (w_Type_REPLY : Addr) (w_Type_HEARTBEAT : Addr) (w_Type_ELECTION : Addr) (w_Type_ANSWER : Addr) (w_Type_COORDINATOR : Addr) (w_Type_GRANT : Addr) (w_Type_RELEASE : Addr) (w_Type_HELD : Addr) (w_Type_REPORTED : Addr) (w_Type_LOCKED : Addr) (w_Type_INQUIRE : Addr) (w_Type_FAILED : Addr) (w_Type_RELINQUISH : Addr) (w_Type_TOKEN : Addr) (k_w_Type__VALUES : ClassId) (h0 : Heap) (n0 : Nat) (Z0 : n0 ≤ h0.size) (S_Type__VALUES : Sta Z h0 "com/example/stile/stile/Message$Type" "$VALUES" "[Lcom/example/stile/stile/Message$Type;" (.ref w_Type__VALUES)) (V_w_Type__VALUES : Arv Z h0 w_Type__VALUES k_w_Type__VALUES (.object "com/example/stile/stile/Message$Type") (15 : Int32) [(.ref w_Type_REQUEST), (.ref w_Type_REPLY), (.ref w_Type_HEARTBEAT), (.ref w_Type_ELECTION), (.ref w_Type_ANSWER), (.ref w_Type_COORDINATOR), (.ref w_Type_GRANT), (.ref w_Type_RELEASE), (.ref w_Type_HELD), (.ref w_Type_REPORTED), (.ref w_Type_LOCKED), (.ref w_Type_INQUIRE), (.ref w_Type_FAILED), (.ref w_Type_RELINQUISH), (.ref w_Type_TOKEN)] .null) (E_w_Type__VALUES : Exa Z h0 w_Type__VALUES "[Lcom/example/stile/stile/Message$Type;") (F_w_Type_REQUEST_code : Fld Z h0 w_Type_REQUEST "com/example/stile/stile/Message$Type" "code" "I" (.int (1 : Int32))) (F_w_Type_REPLY_code : Fld Z h0 w_Type_REPLY "com/example/stile/stile/Message$Type" "code" "I" (.int (2 : Int32))) (F_w_Type_HEARTBEAT_code : Fld Z h0 w_Type_HEARTBEAT "com/example/stile/stile/Message$Type" "code" "I" (.int (3 : Int32))) (F_w_Type_ELECTION_code : Fld Z h0 w_Type_ELECTION "com/example/stile/stile/Message$Type" "code" "I" (.int (4 : Int32))) (F_w_Type_ANSWER_code : Fld Z h0 w_Type_ANSWER "com/example/stile/stile/Message$Type" "code" "I" (.int (5 : Int32))) (F_w_Type_COORDINATOR_code : Fld Z h0 w_Type_COORDINATOR "com/example/stile/stile/Message$Type" "code" "I" (.int (6 : Int32))) (F_w_Type_GRANT_code : Fld Z h0 w_Type_GRANT "com/example/stile/stile/Message$Type" "code" "I" (.int (7 : Int32))) (F_w_Type_RELEASE_code : Fld Z h0 w_Type_RELEASE "com/example/stile/stile/Message$Type" "code" "I" (.int (8 : Int32))) (F_w_Type_HELD_code : Fld Z h0 w_Type_HELD "com/example/stile/stile/Message$Type" "code" "I" (.int (9 : Int32))) (F_w_Type_REPORTED_code : Fld Z h0 w_Type_REPORTED "com/example/stile/stile/Message$Type" "code" "I" (.int (10 : Int32))) :
    MetFree l (⟨"com/example/stile/stile/Message$Type", "of", "(I)Lcom/example/stile/stile/Message$Type;"⟩ : MethodName) (head1 (Jvm.Cond.code (⟨"com/example/stile/stile/Message$Type", "of", "(I)Lcom/example/stile/stile/Message$Type;"⟩ : MethodName) prog_48_method_8_code 5 (some (.object "com/example/stile/stile/Message$Type")) :: ws) ({ frames := 2, cells := 1, slots := 15, locals := 25 } : Room)) (fun a U => a = #[(.int (10 : Int32))] ∧ Z.Warmed39 U.vm ∧ U.heap = h0) (fun _ _ _ _ _ => True) (fun _ U o U' => ∃ v L, o = .returned v ∧ Q_rk_found_9 Z w_Type_REPORTED h0 n0 v U'.heap L ∧ FrameEnd U o U' L ({ frames := 2, cells := 1, slots := 15, locals := 25 } : Room).cells ({ frames := 2, cells := 1, slots := 15, locals := 25 } : Room).slots) := by
  refine MetFree.of_bodySF (plainFor_of_name pn_0) hisR ?_
  intro p e s m args below meth c s₁ Bd hml0 hP hK
  obtain ⟨rfl, hZ, hh⟩ := hP
  have hx := Bd.exec
  have hby := Bd.bytes
  have hml : c.maxLocals = 5 := hml0
  have hown : s.vm.findClass "com/example/stile/stile/Message$Type" = some m.cls := findClass_of_methodNamed Bd.named
  have hnm := (name_of_methodNamed Bd.named Bd.method).1
  have X0 : Stand p l e ({ frames := 2, cells := 1, slots := 15, locals := 25 } : Room) s m #[(.int (10 : Int32))] below meth c s₁ [] 0 0 := Stand.of_body Bd
  have e0 : s₁.heap = h0 := by rw [← hh, Bd.state]; rfl
  have N0 := Fr.nil n0
  have pre0 : ∀ t, Steps p.tables e below (s₁.setTop (mkF m 0 #[iv (10 : Int32), .unset, .unset, .unset, .unset] [])) t → Steps p.tables e below (s₁.setTop (entryFrame m #[(.int (10 : Int32))] 5)) t := fun t k => castTop (ef_1_I m (10 : Int32)) k
  obtain ⟨_, _, ⟨T1, L1, k1, n1⟩, -, X1, ⟨Lc1, hQ1, l1, y1, z1⟩, st1⟩ := Jvm.LawKit.callS X0 hx (y := (⟨"com/example/stile/stile/Message$Type", "values", "()[Lcom/example/stile/stile/Message$Type;"⟩ : MethodName)) hown (mvT hZ (hw _ (List.mem_of_getElem? (i := 4) rfl))) (mvT hZ (hw _ (List.mem_of_getElem? (i := 5) rfl))) (mvT hZ (hw _ (List.mem_of_getElem? (i := 2) rfl))) (mvT hZ (hw _ (List.mem_of_getElem? (i := 6) rfl))) (by decide) (backOf (W := 0) (rm2_0 l Z a0 hw [] w_Type__VALUES w_Type_REQUEST w_Type_REPLY w_Type_HEARTBEAT w_Type_ELECTION w_Type_ANSWER w_Type_COORDINATOR w_Type_GRANT w_Type_RELEASE w_Type_HELD w_Type_REPORTED w_Type_LOCKED w_Type_INQUIRE w_Type_FAILED w_Type_RELINQUISH w_Type_TOKEN k_w_Type__VALUES h0 n0 Z0 S_Type__VALUES V_w_Type__VALUES E_w_Type__VALUES) hZ (hw _ (List.mem_of_getElem? (i := 6) rfl)) (hw _ (List.mem_of_getElem? (i := 2) rfl)) (by decide) (by decide)) (g := (mkF m 0 #[iv (10 : Int32), .unset, .unset, .unset, .unset] [])) rfl (by rw [hml]; rfl) (argsL := []) (rest := []) (lenOf pd_0 rfl) rfl (by show 2 * 0 + _ ≤ _; exact Nat.le_of_eq rfl) (hb hby d1_0) (fun _ _ => ⟨rfl, e0, (by decide : 0 + 1 ≤ _), (by decide : 0 + 15 ≤ _)⟩)
  dsimp only [Pt.U, Pt.locs, Pt.cells, Pt.slots] at X1 l1 y1 z1 st1 hQ1
  subst l1 y1 z1
  obtain ⟨b1_1_0, rfl, N1q, K1, gq_b1_1_0, le_b1_1_0, fq1_0, fq1_1⟩ := hQ1
  have sz_b1_1_0 : h0.size ≤ b1_1_0 := Nat.le_trans (Keep.refl h0 []).1 le_b1_1_0
  have KK1 : Keep h0 T1.heap [] := (Keep.refl h0 []).trans K1 all0
  have Z1 : n0 ≤ T1.heap.size := Nat.le_trans Z0 K1.1
  have N1 := Fr.app N0 N1q
  obtain ⟨cl2, Ar2, -, Sz2, Nn2, -, -⟩ := id fq1_0
  obtain ⟨cl3, Ar3, -, Sz3, Nn3, Hs3, Gs3⟩ := id fq1_0
  have hin3 : ¬ ((0 : Int32) < 0 ∨ cl3.slots.size ≤ ((0 : Int32)).toNatClampNeg) := inb_of Sz3 ⟨by decide, by decide⟩
  have c4 := (F_w_Type_REQUEST_code.keep K1 nin0)
  obtain ⟨T5, X5, e5, st5⟩ := getF X1 hx hZ hown (host := "") (Or.inl (hw _ (List.mem_of_getElem? (i := 34) rfl))) Via.refl rfl c4 (g := (mkF m 21 #[iv (10 : Int32), rv b1_1_0, iv (15 : Int32), iv (0 : Int32), rv w_Type_REQUEST] [(.ref w_Type_REQUEST)])) rfl rfl (hb hby d1_21)
  obtain ⟨cl6, Ar6, -, Sz6, Nn6, Hs6, Gs6⟩ := id fq1_0
  have hin6 : ¬ ((1 : Int32) < 0 ∨ cl6.slots.size ≤ ((1 : Int32)).toNatClampNeg) := inb_of Sz6 ⟨by decide, by decide⟩
  have c7 := (F_w_Type_REPLY_code.keep K1 nin0)
  obtain ⟨T8, X8, e8, st8⟩ := getF X5 hx hZ hown (host := "") (Or.inl (hw _ (List.mem_of_getElem? (i := 34) rfl))) Via.refl e5 c7 (g := (mkF m 21 #[iv (10 : Int32), rv b1_1_0, iv (15 : Int32), iv (1 : Int32), rv w_Type_REPLY] [(.ref w_Type_REPLY)])) rfl rfl (hb hby d1_21)
  obtain ⟨cl9, Ar9, -, Sz9, Nn9, Hs9, Gs9⟩ := id fq1_0
  have hin9 : ¬ ((2 : Int32) < 0 ∨ cl9.slots.size ≤ ((2 : Int32)).toNatClampNeg) := inb_of Sz9 ⟨by decide, by decide⟩
  have c10 := (F_w_Type_HEARTBEAT_code.keep K1 nin0)
  obtain ⟨T11, X11, e11, st11⟩ := getF X8 hx hZ hown (host := "") (Or.inl (hw _ (List.mem_of_getElem? (i := 34) rfl))) Via.refl e8 c10 (g := (mkF m 21 #[iv (10 : Int32), rv b1_1_0, iv (15 : Int32), iv (2 : Int32), rv w_Type_HEARTBEAT] [(.ref w_Type_HEARTBEAT)])) rfl rfl (hb hby d1_21)
  obtain ⟨cl12, Ar12, -, Sz12, Nn12, Hs12, Gs12⟩ := id fq1_0
  have hin12 : ¬ ((3 : Int32) < 0 ∨ cl12.slots.size ≤ ((3 : Int32)).toNatClampNeg) := inb_of Sz12 ⟨by decide, by decide⟩
  have c13 := (F_w_Type_ELECTION_code.keep K1 nin0)
  obtain ⟨T14, X14, e14, st14⟩ := getF X11 hx hZ hown (host := "") (Or.inl (hw _ (List.mem_of_getElem? (i := 34) rfl))) Via.refl e11 c13 (g := (mkF m 21 #[iv (10 : Int32), rv b1_1_0, iv (15 : Int32), iv (3 : Int32), rv w_Type_ELECTION] [(.ref w_Type_ELECTION)])) rfl rfl (hb hby d1_21)
  obtain ⟨cl15, Ar15, -, Sz15, Nn15, Hs15, Gs15⟩ := id fq1_0
  have hin15 : ¬ ((4 : Int32) < 0 ∨ cl15.slots.size ≤ ((4 : Int32)).toNatClampNeg) := inb_of Sz15 ⟨by decide, by decide⟩
  have c16 := (F_w_Type_ANSWER_code.keep K1 nin0)
  obtain ⟨T17, X17, e17, st17⟩ := getF X14 hx hZ hown (host := "") (Or.inl (hw _ (List.mem_of_getElem? (i := 34) rfl))) Via.refl e14 c16 (g := (mkF m 21 #[iv (10 : Int32), rv b1_1_0, iv (15 : Int32), iv (4 : Int32), rv w_Type_ANSWER] [(.ref w_Type_ANSWER)])) rfl rfl (hb hby d1_21)
  obtain ⟨cl18, Ar18, -, Sz18, Nn18, Hs18, Gs18⟩ := id fq1_0
  have hin18 : ¬ ((5 : Int32) < 0 ∨ cl18.slots.size ≤ ((5 : Int32)).toNatClampNeg) := inb_of Sz18 ⟨by decide, by decide⟩
  have c19 := (F_w_Type_COORDINATOR_code.keep K1 nin0)
  obtain ⟨T20, X20, e20, st20⟩ := getF X17 hx hZ hown (host := "") (Or.inl (hw _ (List.mem_of_getElem? (i := 34) rfl))) Via.refl e17 c19 (g := (mkF m 21 #[iv (10 : Int32), rv b1_1_0, iv (15 : Int32), iv (5 : Int32), rv w_Type_COORDINATOR] [(.ref w_Type_COORDINATOR)])) rfl rfl (hb hby d1_21)
  obtain ⟨cl21, Ar21, -, Sz21, Nn21, Hs21, Gs21⟩ := id fq1_0
  have hin21 : ¬ ((6 : Int32) < 0 ∨ cl21.slots.size ≤ ((6 : Int32)).toNatClampNeg) := inb_of Sz21 ⟨by decide, by decide⟩
  have c22 := (F_w_Type_GRANT_code.keep K1 nin0)
  obtain ⟨T23, X23, e23, st23⟩ := getF X20 hx hZ hown (host := "") (Or.inl (hw _ (List.mem_of_getElem? (i := 34) rfl))) Via.refl e20 c22 (g := (mkF m 21 #[iv (10 : Int32), rv b1_1_0, iv (15 : Int32), iv (6 : Int32), rv w_Type_GRANT] [(.ref w_Type_GRANT)])) rfl rfl (hb hby d1_21)
  obtain ⟨cl24, Ar24, -, Sz24, Nn24, Hs24, Gs24⟩ := id fq1_0
  have hin24 : ¬ ((7 : Int32) < 0 ∨ cl24.slots.size ≤ ((7 : Int32)).toNatClampNeg) := inb_of Sz24 ⟨by decide, by decide⟩
  have c25 := (F_w_Type_RELEASE_code.keep K1 nin0)
  obtain ⟨T26, X26, e26, st26⟩ := getF X23 hx hZ hown (host := "") (Or.inl (hw _ (List.mem_of_getElem? (i := 34) rfl))) Via.refl e23 c25 (g := (mkF m 21 #[iv (10 : Int32), rv b1_1_0, iv (15 : Int32), iv (7 : Int32), rv w_Type_RELEASE] [(.ref w_Type_RELEASE)])) rfl rfl (hb hby d1_21)
  obtain ⟨cl27, Ar27, -, Sz27, Nn27, Hs27, Gs27⟩ := id fq1_0
  have hin27 : ¬ ((8 : Int32) < 0 ∨ cl27.slots.size ≤ ((8 : Int32)).toNatClampNeg) := inb_of Sz27 ⟨by decide, by decide⟩
  have c28 := (F_w_Type_HELD_code.keep K1 nin0)
  obtain ⟨T29, X29, e29, st29⟩ := getF X26 hx hZ hown (host := "") (Or.inl (hw _ (List.mem_of_getElem? (i := 34) rfl))) Via.refl e26 c28 (g := (mkF m 21 #[iv (10 : Int32), rv b1_1_0, iv (15 : Int32), iv (8 : Int32), rv w_Type_HELD] [(.ref w_Type_HELD)])) rfl rfl (hb hby d1_21)
  obtain ⟨cl30, Ar30, -, Sz30, Nn30, Hs30, Gs30⟩ := id fq1_0
  have hin30 : ¬ ((9 : Int32) < 0 ∨ cl30.slots.size ≤ ((9 : Int32)).toNatClampNeg) := inb_of Sz30 ⟨by decide, by decide⟩
  have c31 := (F_w_Type_REPORTED_code.keep K1 nin0)
  obtain ⟨T32, X32, e32, st32⟩ := getF X29 hx hZ hown (host := "") (Or.inl (hw _ (List.mem_of_getElem? (i := 34) rfl))) Via.refl e29 c31 (g := (mkF m 21 #[iv (10 : Int32), rv b1_1_0, iv (15 : Int32), iv (9 : Int32), rv w_Type_REPORTED] [(.ref w_Type_REPORTED)])) rfl rfl (hb hby d1_21)
  obtain ⟨fs, hr, hrun, hended, hW, hsame⟩ := X32.leave (v := (some (.ref w_Type_REPORTED))) (fun h => by rw [Bd.returns] at h; cases h)
  refine ⟨_, _, pre0 _ ?_, hrun, hended, _, _, rfl, ?_, ⟨_, rfl⟩, hW, hsame.mono (by decide) (by decide)⟩
  · show Steps p.tables e below (s₁.setTop (mkF m 0 #[iv (10 : Int32), .unset, .unset, .unset, .unset] [])) _
    refine st1 _ ?_
    refine XS.astoreN X1.here hx rfl (hb hby d1_3) rfl rfl (l' := #[iv (10 : Int32), rv b1_1_0, .unset, .unset, .unset]) rfl ?_
    refine XS.aloadN X1.here hx rfl (hb hby d1_4) rfl rfl ?_
    refine X1.arraylength hx Ar2.1 (State.isArrayOf_alike hZ.alike Ar2.2.1) (g := (mkF m 5 #[iv (10 : Int32), rv b1_1_0, .unset, .unset, .unset] [(.ref b1_1_0)])) rfl rfl (hb hby d1_5) _ ?_
    rw [len_of Sz2 Nn2]
    refine XS.istoreN X1.here hx rfl (hb hby d1_6) rfl (l' := #[iv (10 : Int32), rv b1_1_0, iv (15 : Int32), .unset, .unset]) rfl ?_
    refine XS.iconst X1.here hx rfl (hb hby d1_7) ?_
    show Steps p.tables e below (T1.setTop (mkF m 8 #[iv (10 : Int32), rv b1_1_0, iv (15 : Int32), .unset, .unset] [(.int (0 : Int32))])) _
    refine XS.istoreN X1.here hx rfl (hb hby d1_8) rfl (l' := #[iv (10 : Int32), rv b1_1_0, iv (15 : Int32), iv (0 : Int32), .unset]) rfl ?_
    refine XS.iloadN X1.here hx rfl (hb hby d1_9) rfl ?_
    refine XS.iloadN X1.here hx rfl (hb hby d1_10) rfl ?_
    refine XS.icmpNo X1.here hx rfl (hb hby d1_11) rfl (tlt (by decide +kernel : (0 : Int32) < (15 : Int32))).2.1 ?_
    refine XS.aloadN X1.here hx rfl (hb hby d1_14) rfl rfl ?_
    refine XS.iloadN X1.here hx rfl (hb hby d1_15) rfl ?_
    show Steps p.tables e below (T1.setTop (mkF m 16 #[iv (10 : Int32), rv b1_1_0, iv (15 : Int32), iv (0 : Int32), .unset] [(.int (0 : Int32)), (.ref b1_1_0)])) _
    refine X1.aaload hx (j := (0 : Int32)) (v := (.ref w_Type_REQUEST)) Ar3.1 (State.isArrayOf_alike hZ.alike Ar3.2.1) rfl Ar3.2.2 hin3 (Hs3.at hin3 rfl) (g := (mkF m 16 #[iv (10 : Int32), rv b1_1_0, iv (15 : Int32), iv (0 : Int32), .unset] [(.int (0 : Int32)), (.ref b1_1_0)])) rfl rfl (hb hby d1_16) _ ?_
    refine XS.astore X1.here hx rfl (hb hby d1_17) rfl rfl (l' := #[iv (10 : Int32), rv b1_1_0, iv (15 : Int32), iv (0 : Int32), rv w_Type_REQUEST]) rfl ?_
    refine XS.aload X1.here hx rfl (hb hby d1_19) rfl rfl ?_
    refine st5 _ ?_
    refine XS.iloadN X5.here hx rfl (hb hby d1_24) rfl ?_
    refine XS.icmpYes X5.here hx rfl (pc0 := 25) (pc' := 31) rfl (hb hby d1_25) rfl (feq (by decide +kernel : ¬ ((1 : Int32) = (10 : Int32)))).2 (by decide) (by decide) ?_
    show Steps p.tables e below (T5.setTop (mkF m 31 #[iv (10 : Int32), rv b1_1_0, iv (15 : Int32), iv (0 : Int32), rv w_Type_REQUEST] [])) _
    refine XS.iinc X5.here hx rfl (hb hby d1_31) rfl (l' := #[iv (10 : Int32), rv b1_1_0, iv (15 : Int32), iv ((0 : Int32) + (1 : Int32)), rv w_Type_REQUEST]) rfl ?_
    show Steps p.tables e below (T5.setTop (mkF m 34 #[iv (10 : Int32), rv b1_1_0, iv (15 : Int32), iv ((0 : Int32) + (1 : Int32)), rv w_Type_REQUEST] [])) _
    rewrite [show ((0 : Int32) + (1 : Int32)) = (1 : Int32) from by decide +kernel]
    refine XS.goto X5.here hx rfl (pc0 := 34) (pc' := 9) rfl (hb hby d1_34) (by decide) (by decide) ?_
    refine XS.iloadN X5.here hx rfl (hb hby d1_9) rfl ?_
    refine XS.iloadN X5.here hx rfl (hb hby d1_10) rfl ?_
    refine XS.icmpNo X5.here hx rfl (hb hby d1_11) rfl (tlt (by decide +kernel : (1 : Int32) < (15 : Int32))).2.1 ?_
    refine XS.aloadN X5.here hx rfl (hb hby d1_14) rfl rfl ?_
    show Steps p.tables e below (T5.setTop (mkF m 15 #[iv (10 : Int32), rv b1_1_0, iv (15 : Int32), iv (1 : Int32), rv w_Type_REQUEST] [(.ref b1_1_0)])) _
    refine XS.iloadN X5.here hx rfl (hb hby d1_15) rfl ?_
    refine X5.aaload hx (j := (1 : Int32)) (v := (.ref w_Type_REPLY)) (by rw [e5]; exact Ar6.1) (State.isArrayOf_alike hZ.alike Ar6.2.1) rfl Ar6.2.2 hin6 (Hs6.at hin6 rfl) (g := (mkF m 16 #[iv (10 : Int32), rv b1_1_0, iv (15 : Int32), iv (1 : Int32), rv w_Type_REQUEST] [(.int (1 : Int32)), (.ref b1_1_0)])) rfl rfl (hb hby d1_16) _ ?_
    refine XS.astore X5.here hx rfl (hb hby d1_17) rfl rfl (l' := #[iv (10 : Int32), rv b1_1_0, iv (15 : Int32), iv (1 : Int32), rv w_Type_REPLY]) rfl ?_
    refine XS.aload X5.here hx rfl (hb hby d1_19) rfl rfl ?_
    refine st8 _ ?_
    refine XS.iloadN X8.here hx rfl (hb hby d1_24) rfl ?_
    show Steps p.tables e below (T8.setTop (mkF m 25 #[iv (10 : Int32), rv b1_1_0, iv (15 : Int32), iv (1 : Int32), rv w_Type_REPLY] [(.int (10 : Int32)), (.int (2 : Int32))])) _
    refine XS.icmpYes X8.here hx rfl (pc0 := 25) (pc' := 31) rfl (hb hby d1_25) rfl (feq (by decide +kernel : ¬ ((2 : Int32) = (10 : Int32)))).2 (by decide) (by decide) ?_
    refine XS.iinc X8.here hx rfl (hb hby d1_31) rfl (l' := #[iv (10 : Int32), rv b1_1_0, iv (15 : Int32), iv ((1 : Int32) + (1 : Int32)), rv w_Type_REPLY]) rfl ?_
    show Steps p.tables e below (T8.setTop (mkF m 34 #[iv (10 : Int32), rv b1_1_0, iv (15 : Int32), iv ((1 : Int32) + (1 : Int32)), rv w_Type_REPLY] [])) _
    rewrite [show ((1 : Int32) + (1 : Int32)) = (2 : Int32) from by decide +kernel]
    refine XS.goto X8.here hx rfl (pc0 := 34) (pc' := 9) rfl (hb hby d1_34) (by decide) (by decide) ?_
    refine XS.iloadN X8.here hx rfl (hb hby d1_9) rfl ?_
    refine XS.iloadN X8.here hx rfl (hb hby d1_10) rfl ?_
    refine XS.icmpNo X8.here hx rfl (hb hby d1_11) rfl (tlt (by decide +kernel : (2 : Int32) < (15 : Int32))).2.1 ?_
    show Steps p.tables e below (T8.setTop (mkF m 14 #[iv (10 : Int32), rv b1_1_0, iv (15 : Int32), iv (2 : Int32), rv w_Type_REPLY] [])) _
    refine XS.aloadN X8.here hx rfl (hb hby d1_14) rfl rfl ?_
    refine XS.iloadN X8.here hx rfl (hb hby d1_15) rfl ?_
    refine X8.aaload hx (j := (2 : Int32)) (v := (.ref w_Type_HEARTBEAT)) (by rw [e8]; exact Ar9.1) (State.isArrayOf_alike hZ.alike Ar9.2.1) rfl Ar9.2.2 hin9 (Hs9.at hin9 rfl) (g := (mkF m 16 #[iv (10 : Int32), rv b1_1_0, iv (15 : Int32), iv (2 : Int32), rv w_Type_REPLY] [(.int (2 : Int32)), (.ref b1_1_0)])) rfl rfl (hb hby d1_16) _ ?_
    refine XS.astore X8.here hx rfl (hb hby d1_17) rfl rfl (l' := #[iv (10 : Int32), rv b1_1_0, iv (15 : Int32), iv (2 : Int32), rv w_Type_HEARTBEAT]) rfl ?_
    refine XS.aload X8.here hx rfl (hb hby d1_19) rfl rfl ?_
    refine st11 _ ?_
    show Steps p.tables e below (T11.setTop (mkF m 24 #[iv (10 : Int32), rv b1_1_0, iv (15 : Int32), iv (2 : Int32), rv w_Type_HEARTBEAT] [(.int (3 : Int32))])) _
    refine XS.iloadN X11.here hx rfl (hb hby d1_24) rfl ?_
    refine XS.icmpYes X11.here hx rfl (pc0 := 25) (pc' := 31) rfl (hb hby d1_25) rfl (feq (by decide +kernel : ¬ ((3 : Int32) = (10 : Int32)))).2 (by decide) (by decide) ?_
    refine XS.iinc X11.here hx rfl (hb hby d1_31) rfl (l' := #[iv (10 : Int32), rv b1_1_0, iv (15 : Int32), iv ((2 : Int32) + (1 : Int32)), rv w_Type_HEARTBEAT]) rfl ?_
    show Steps p.tables e below (T11.setTop (mkF m 34 #[iv (10 : Int32), rv b1_1_0, iv (15 : Int32), iv ((2 : Int32) + (1 : Int32)), rv w_Type_HEARTBEAT] [])) _
    rewrite [show ((2 : Int32) + (1 : Int32)) = (3 : Int32) from by decide +kernel]
    refine XS.goto X11.here hx rfl (pc0 := 34) (pc' := 9) rfl (hb hby d1_34) (by decide) (by decide) ?_
    refine XS.iloadN X11.here hx rfl (hb hby d1_9) rfl ?_
    refine XS.iloadN X11.here hx rfl (hb hby d1_10) rfl ?_
    show Steps p.tables e below (T11.setTop (mkF m 11 #[iv (10 : Int32), rv b1_1_0, iv (15 : Int32), iv (3 : Int32), rv w_Type_HEARTBEAT] [(.int (15 : Int32)), (.int (3 : Int32))])) _
    refine XS.icmpNo X11.here hx rfl (hb hby d1_11) rfl (tlt (by decide +kernel : (3 : Int32) < (15 : Int32))).2.1 ?_
    refine XS.aloadN X11.here hx rfl (hb hby d1_14) rfl rfl ?_
    refine XS.iloadN X11.here hx rfl (hb hby d1_15) rfl ?_
    refine X11.aaload hx (j := (3 : Int32)) (v := (.ref w_Type_ELECTION)) (by rw [e11]; exact Ar12.1) (State.isArrayOf_alike hZ.alike Ar12.2.1) rfl Ar12.2.2 hin12 (Hs12.at hin12 rfl) (g := (mkF m 16 #[iv (10 : Int32), rv b1_1_0, iv (15 : Int32), iv (3 : Int32), rv w_Type_HEARTBEAT] [(.int (3 : Int32)), (.ref b1_1_0)])) rfl rfl (hb hby d1_16) _ ?_
    refine XS.astore X11.here hx rfl (hb hby d1_17) rfl rfl (l' := #[iv (10 : Int32), rv b1_1_0, iv (15 : Int32), iv (3 : Int32), rv w_Type_ELECTION]) rfl ?_
    refine XS.aload X11.here hx rfl (hb hby d1_19) rfl rfl ?_
    show Steps p.tables e below (T11.setTop (mkF m 21 #[iv (10 : Int32), rv b1_1_0, iv (15 : Int32), iv (3 : Int32), rv w_Type_ELECTION] [(.ref w_Type_ELECTION)])) _
    refine st14 _ ?_
    refine XS.iloadN X14.here hx rfl (hb hby d1_24) rfl ?_
    refine XS.icmpYes X14.here hx rfl (pc0 := 25) (pc' := 31) rfl (hb hby d1_25) rfl (feq (by decide +kernel : ¬ ((4 : Int32) = (10 : Int32)))).2 (by decide) (by decide) ?_
    refine XS.iinc X14.here hx rfl (hb hby d1_31) rfl (l' := #[iv (10 : Int32), rv b1_1_0, iv (15 : Int32), iv ((3 : Int32) + (1 : Int32)), rv w_Type_ELECTION]) rfl ?_
    show Steps p.tables e below (T14.setTop (mkF m 34 #[iv (10 : Int32), rv b1_1_0, iv (15 : Int32), iv ((3 : Int32) + (1 : Int32)), rv w_Type_ELECTION] [])) _
    rewrite [show ((3 : Int32) + (1 : Int32)) = (4 : Int32) from by decide +kernel]
    refine XS.goto X14.here hx rfl (pc0 := 34) (pc' := 9) rfl (hb hby d1_34) (by decide) (by decide) ?_
    refine XS.iloadN X14.here hx rfl (hb hby d1_9) rfl ?_
    show Steps p.tables e below (T14.setTop (mkF m 10 #[iv (10 : Int32), rv b1_1_0, iv (15 : Int32), iv (4 : Int32), rv w_Type_ELECTION] [(.int (4 : Int32))])) _
    refine XS.iloadN X14.here hx rfl (hb hby d1_10) rfl ?_
    refine XS.icmpNo X14.here hx rfl (hb hby d1_11) rfl (tlt (by decide +kernel : (4 : Int32) < (15 : Int32))).2.1 ?_
    refine XS.aloadN X14.here hx rfl (hb hby d1_14) rfl rfl ?_
    refine XS.iloadN X14.here hx rfl (hb hby d1_15) rfl ?_
    refine X14.aaload hx (j := (4 : Int32)) (v := (.ref w_Type_ANSWER)) (by rw [e14]; exact Ar15.1) (State.isArrayOf_alike hZ.alike Ar15.2.1) rfl Ar15.2.2 hin15 (Hs15.at hin15 rfl) (g := (mkF m 16 #[iv (10 : Int32), rv b1_1_0, iv (15 : Int32), iv (4 : Int32), rv w_Type_ELECTION] [(.int (4 : Int32)), (.ref b1_1_0)])) rfl rfl (hb hby d1_16) _ ?_
    refine XS.astore X14.here hx rfl (hb hby d1_17) rfl rfl (l' := #[iv (10 : Int32), rv b1_1_0, iv (15 : Int32), iv (4 : Int32), rv w_Type_ANSWER]) rfl ?_
    show Steps p.tables e below (T14.setTop (mkF m 19 #[iv (10 : Int32), rv b1_1_0, iv (15 : Int32), iv (4 : Int32), rv w_Type_ANSWER] [])) _
    refine XS.aload X14.here hx rfl (hb hby d1_19) rfl rfl ?_
    refine st17 _ ?_
    refine XS.iloadN X17.here hx rfl (hb hby d1_24) rfl ?_
    refine XS.icmpYes X17.here hx rfl (pc0 := 25) (pc' := 31) rfl (hb hby d1_25) rfl (feq (by decide +kernel : ¬ ((5 : Int32) = (10 : Int32)))).2 (by decide) (by decide) ?_
    refine XS.iinc X17.here hx rfl (hb hby d1_31) rfl (l' := #[iv (10 : Int32), rv b1_1_0, iv (15 : Int32), iv ((4 : Int32) + (1 : Int32)), rv w_Type_ANSWER]) rfl ?_
    show Steps p.tables e below (T17.setTop (mkF m 34 #[iv (10 : Int32), rv b1_1_0, iv (15 : Int32), iv ((4 : Int32) + (1 : Int32)), rv w_Type_ANSWER] [])) _
    rewrite [show ((4 : Int32) + (1 : Int32)) = (5 : Int32) from by decide +kernel]
    refine XS.goto X17.here hx rfl (pc0 := 34) (pc' := 9) rfl (hb hby d1_34) (by decide) (by decide) ?_
    show Steps p.tables e below (T17.setTop (mkF m 9 #[iv (10 : Int32), rv b1_1_0, iv (15 : Int32), iv (5 : Int32), rv w_Type_ANSWER] [])) _
    refine XS.iloadN X17.here hx rfl (hb hby d1_9) rfl ?_
    refine XS.iloadN X17.here hx rfl (hb hby d1_10) rfl ?_
    refine XS.icmpNo X17.here hx rfl (hb hby d1_11) rfl (tlt (by decide +kernel : (5 : Int32) < (15 : Int32))).2.1 ?_
    refine XS.aloadN X17.here hx rfl (hb hby d1_14) rfl rfl ?_
    refine XS.iloadN X17.here hx rfl (hb hby d1_15) rfl ?_
    refine X17.aaload hx (j := (5 : Int32)) (v := (.ref w_Type_COORDINATOR)) (by rw [e17]; exact Ar18.1) (State.isArrayOf_alike hZ.alike Ar18.2.1) rfl Ar18.2.2 hin18 (Hs18.at hin18 rfl) (g := (mkF m 16 #[iv (10 : Int32), rv b1_1_0, iv (15 : Int32), iv (5 : Int32), rv w_Type_ANSWER] [(.int (5 : Int32)), (.ref b1_1_0)])) rfl rfl (hb hby d1_16) _ ?_
    show Steps p.tables e below (T17.setTop (mkF m 17 #[iv (10 : Int32), rv b1_1_0, iv (15 : Int32), iv (5 : Int32), rv w_Type_ANSWER] [(.ref w_Type_COORDINATOR)])) _
    refine XS.astore X17.here hx rfl (hb hby d1_17) rfl rfl (l' := #[iv (10 : Int32), rv b1_1_0, iv (15 : Int32), iv (5 : Int32), rv w_Type_COORDINATOR]) rfl ?_
    refine XS.aload X17.here hx rfl (hb hby d1_19) rfl rfl ?_
    refine st20 _ ?_
    refine XS.iloadN X20.here hx rfl (hb hby d1_24) rfl ?_
    refine XS.icmpYes X20.here hx rfl (pc0 := 25) (pc' := 31) rfl (hb hby d1_25) rfl (feq (by decide +kernel : ¬ ((6 : Int32) = (10 : Int32)))).2 (by decide) (by decide) ?_
    refine XS.iinc X20.here hx rfl (hb hby d1_31) rfl (l' := #[iv (10 : Int32), rv b1_1_0, iv (15 : Int32), iv ((5 : Int32) + (1 : Int32)), rv w_Type_COORDINATOR]) rfl ?_
    show Steps p.tables e below (T20.setTop (mkF m 34 #[iv (10 : Int32), rv b1_1_0, iv (15 : Int32), iv ((5 : Int32) + (1 : Int32)), rv w_Type_COORDINATOR] [])) _
    rewrite [show ((5 : Int32) + (1 : Int32)) = (6 : Int32) from by decide +kernel]
    show Steps p.tables e below (T20.setTop (mkF m 34 #[iv (10 : Int32), rv b1_1_0, iv (15 : Int32), iv (6 : Int32), rv w_Type_COORDINATOR] [])) _
    refine XS.goto X20.here hx rfl (pc0 := 34) (pc' := 9) rfl (hb hby d1_34) (by decide) (by decide) ?_
    refine XS.iloadN X20.here hx rfl (hb hby d1_9) rfl ?_
    refine XS.iloadN X20.here hx rfl (hb hby d1_10) rfl ?_
    refine XS.icmpNo X20.here hx rfl (hb hby d1_11) rfl (tlt (by decide +kernel : (6 : Int32) < (15 : Int32))).2.1 ?_
    refine XS.aloadN X20.here hx rfl (hb hby d1_14) rfl rfl ?_
    refine XS.iloadN X20.here hx rfl (hb hby d1_15) rfl ?_
    show Steps p.tables e below (T20.setTop (mkF m 16 #[iv (10 : Int32), rv b1_1_0, iv (15 : Int32), iv (6 : Int32), rv w_Type_COORDINATOR] [(.int (6 : Int32)), (.ref b1_1_0)])) _
    refine X20.aaload hx (j := (6 : Int32)) (v := (.ref w_Type_GRANT)) (by rw [e20]; exact Ar21.1) (State.isArrayOf_alike hZ.alike Ar21.2.1) rfl Ar21.2.2 hin21 (Hs21.at hin21 rfl) (g := (mkF m 16 #[iv (10 : Int32), rv b1_1_0, iv (15 : Int32), iv (6 : Int32), rv w_Type_COORDINATOR] [(.int (6 : Int32)), (.ref b1_1_0)])) rfl rfl (hb hby d1_16) _ ?_
    refine XS.astore X20.here hx rfl (hb hby d1_17) rfl rfl (l' := #[iv (10 : Int32), rv b1_1_0, iv (15 : Int32), iv (6 : Int32), rv w_Type_GRANT]) rfl ?_
    refine XS.aload X20.here hx rfl (hb hby d1_19) rfl rfl ?_
    refine st23 _ ?_
    refine XS.iloadN X23.here hx rfl (hb hby d1_24) rfl ?_
    refine XS.icmpYes X23.here hx rfl (pc0 := 25) (pc' := 31) rfl (hb hby d1_25) rfl (feq (by decide +kernel : ¬ ((7 : Int32) = (10 : Int32)))).2 (by decide) (by decide) ?_
    show Steps p.tables e below (T23.setTop (mkF m 31 #[iv (10 : Int32), rv b1_1_0, iv (15 : Int32), iv (6 : Int32), rv w_Type_GRANT] [])) _
    refine XS.iinc X23.here hx rfl (hb hby d1_31) rfl (l' := #[iv (10 : Int32), rv b1_1_0, iv (15 : Int32), iv ((6 : Int32) + (1 : Int32)), rv w_Type_GRANT]) rfl ?_
    show Steps p.tables e below (T23.setTop (mkF m 34 #[iv (10 : Int32), rv b1_1_0, iv (15 : Int32), iv ((6 : Int32) + (1 : Int32)), rv w_Type_GRANT] [])) _
    rewrite [show ((6 : Int32) + (1 : Int32)) = (7 : Int32) from by decide +kernel]
    refine XS.goto X23.here hx rfl (pc0 := 34) (pc' := 9) rfl (hb hby d1_34) (by decide) (by decide) ?_
    refine XS.iloadN X23.here hx rfl (hb hby d1_9) rfl ?_
    refine XS.iloadN X23.here hx rfl (hb hby d1_10) rfl ?_
    refine XS.icmpNo X23.here hx rfl (hb hby d1_11) rfl (tlt (by decide +kernel : (7 : Int32) < (15 : Int32))).2.1 ?_
    refine XS.aloadN X23.here hx rfl (hb hby d1_14) rfl rfl ?_
    show Steps p.tables e below (T23.setTop (mkF m 15 #[iv (10 : Int32), rv b1_1_0, iv (15 : Int32), iv (7 : Int32), rv w_Type_GRANT] [(.ref b1_1_0)])) _
    refine XS.iloadN X23.here hx rfl (hb hby d1_15) rfl ?_
    refine X23.aaload hx (j := (7 : Int32)) (v := (.ref w_Type_RELEASE)) (by rw [e23]; exact Ar24.1) (State.isArrayOf_alike hZ.alike Ar24.2.1) rfl Ar24.2.2 hin24 (Hs24.at hin24 rfl) (g := (mkF m 16 #[iv (10 : Int32), rv b1_1_0, iv (15 : Int32), iv (7 : Int32), rv w_Type_GRANT] [(.int (7 : Int32)), (.ref b1_1_0)])) rfl rfl (hb hby d1_16) _ ?_
    refine XS.astore X23.here hx rfl (hb hby d1_17) rfl rfl (l' := #[iv (10 : Int32), rv b1_1_0, iv (15 : Int32), iv (7 : Int32), rv w_Type_RELEASE]) rfl ?_
    refine XS.aload X23.here hx rfl (hb hby d1_19) rfl rfl ?_
    refine st26 _ ?_
    refine XS.iloadN X26.here hx rfl (hb hby d1_24) rfl ?_
    show Steps p.tables e below (T26.setTop (mkF m 25 #[iv (10 : Int32), rv b1_1_0, iv (15 : Int32), iv (7 : Int32), rv w_Type_RELEASE] [(.int (10 : Int32)), (.int (8 : Int32))])) _
    refine XS.icmpYes X26.here hx rfl (pc0 := 25) (pc' := 31) rfl (hb hby d1_25) rfl (feq (by decide +kernel : ¬ ((8 : Int32) = (10 : Int32)))).2 (by decide) (by decide) ?_
    refine XS.iinc X26.here hx rfl (hb hby d1_31) rfl (l' := #[iv (10 : Int32), rv b1_1_0, iv (15 : Int32), iv ((7 : Int32) + (1 : Int32)), rv w_Type_RELEASE]) rfl ?_
    show Steps p.tables e below (T26.setTop (mkF m 34 #[iv (10 : Int32), rv b1_1_0, iv (15 : Int32), iv ((7 : Int32) + (1 : Int32)), rv w_Type_RELEASE] [])) _
    rewrite [show ((7 : Int32) + (1 : Int32)) = (8 : Int32) from by decide +kernel]
    refine XS.goto X26.here hx rfl (pc0 := 34) (pc' := 9) rfl (hb hby d1_34) (by decide) (by decide) ?_
    refine XS.iloadN X26.here hx rfl (hb hby d1_9) rfl ?_
    refine XS.iloadN X26.here hx rfl (hb hby d1_10) rfl ?_
    refine XS.icmpNo X26.here hx rfl (hb hby d1_11) rfl (tlt (by decide +kernel : (8 : Int32) < (15 : Int32))).2.1 ?_
    show Steps p.tables e below (T26.setTop (mkF m 14 #[iv (10 : Int32), rv b1_1_0, iv (15 : Int32), iv (8 : Int32), rv w_Type_RELEASE] [])) _
    refine XS.aloadN X26.here hx rfl (hb hby d1_14) rfl rfl ?_
    refine XS.iloadN X26.here hx rfl (hb hby d1_15) rfl ?_
    refine X26.aaload hx (j := (8 : Int32)) (v := (.ref w_Type_HELD)) (by rw [e26]; exact Ar27.1) (State.isArrayOf_alike hZ.alike Ar27.2.1) rfl Ar27.2.2 hin27 (Hs27.at hin27 rfl) (g := (mkF m 16 #[iv (10 : Int32), rv b1_1_0, iv (15 : Int32), iv (8 : Int32), rv w_Type_RELEASE] [(.int (8 : Int32)), (.ref b1_1_0)])) rfl rfl (hb hby d1_16) _ ?_
    refine XS.astore X26.here hx rfl (hb hby d1_17) rfl rfl (l' := #[iv (10 : Int32), rv b1_1_0, iv (15 : Int32), iv (8 : Int32), rv w_Type_HELD]) rfl ?_
    refine XS.aload X26.here hx rfl (hb hby d1_19) rfl rfl ?_
    refine st29 _ ?_
    show Steps p.tables e below (T29.setTop (mkF m 24 #[iv (10 : Int32), rv b1_1_0, iv (15 : Int32), iv (8 : Int32), rv w_Type_HELD] [(.int (9 : Int32))])) _
    refine XS.iloadN X29.here hx rfl (hb hby d1_24) rfl ?_
    refine XS.icmpYes X29.here hx rfl (pc0 := 25) (pc' := 31) rfl (hb hby d1_25) rfl (feq (by decide +kernel : ¬ ((9 : Int32) = (10 : Int32)))).2 (by decide) (by decide) ?_
    refine XS.iinc X29.here hx rfl (hb hby d1_31) rfl (l' := #[iv (10 : Int32), rv b1_1_0, iv (15 : Int32), iv ((8 : Int32) + (1 : Int32)), rv w_Type_HELD]) rfl ?_
    show Steps p.tables e below (T29.setTop (mkF m 34 #[iv (10 : Int32), rv b1_1_0, iv (15 : Int32), iv ((8 : Int32) + (1 : Int32)), rv w_Type_HELD] [])) _
    rewrite [show ((8 : Int32) + (1 : Int32)) = (9 : Int32) from by decide +kernel]
    refine XS.goto X29.here hx rfl (pc0 := 34) (pc' := 9) rfl (hb hby d1_34) (by decide) (by decide) ?_
    refine XS.iloadN X29.here hx rfl (hb hby d1_9) rfl ?_
    refine XS.iloadN X29.here hx rfl (hb hby d1_10) rfl ?_
    show Steps p.tables e below (T29.setTop (mkF m 11 #[iv (10 : Int32), rv b1_1_0, iv (15 : Int32), iv (9 : Int32), rv w_Type_HELD] [(.int (15 : Int32)), (.int (9 : Int32))])) _
    refine XS.icmpNo X29.here hx rfl (hb hby d1_11) rfl (tlt (by decide +kernel : (9 : Int32) < (15 : Int32))).2.1 ?_
    refine XS.aloadN X29.here hx rfl (hb hby d1_14) rfl rfl ?_
    refine XS.iloadN X29.here hx rfl (hb hby d1_15) rfl ?_
    refine X29.aaload hx (j := (9 : Int32)) (v := (.ref w_Type_REPORTED)) (by rw [e29]; exact Ar30.1) (State.isArrayOf_alike hZ.alike Ar30.2.1) rfl Ar30.2.2 hin30 (Hs30.at hin30 rfl) (g := (mkF m 16 #[iv (10 : Int32), rv b1_1_0, iv (15 : Int32), iv (9 : Int32), rv w_Type_HELD] [(.int (9 : Int32)), (.ref b1_1_0)])) rfl rfl (hb hby d1_16) _ ?_
    refine XS.astore X29.here hx rfl (hb hby d1_17) rfl rfl (l' := #[iv (10 : Int32), rv b1_1_0, iv (15 : Int32), iv (9 : Int32), rv w_Type_REPORTED]) rfl ?_
    refine XS.aload X29.here hx rfl (hb hby d1_19) rfl rfl ?_
    show Steps p.tables e below (T29.setTop (mkF m 21 #[iv (10 : Int32), rv b1_1_0, iv (15 : Int32), iv (9 : Int32), rv w_Type_REPORTED] [(.ref w_Type_REPORTED)])) _
    refine st32 _ ?_
    refine XS.iloadN X32.here hx rfl (hb hby d1_24) rfl ?_
    refine XS.icmpNo X32.here hx rfl (hb hby d1_25) rfl (teq (by decide +kernel : (10 : Int32) = (10 : Int32))).2 ?_
    refine XS.aload X32.here hx rfl (hb hby d1_28) rfl rfl ?_
    exact own_retA X32 hx Bd.returns rfl rfl (hb hby d1_30) hr
  · exact (by show Q_rk_found_9 Z w_Type_REPORTED h0 n0 _ T32.heap _; rw [e32]; exact ⟨rfl, N1, KK1⟩)
def Q_rk_found_10 (Z : State) (w_Type_LOCKED : Addr) (h0 : Heap) (n0 : Nat) (v : Option Value) (h : Heap) (L : List Loc) : Prop := (v = (some (.ref w_Type_LOCKED))) ∧ (Fr n0 L) ∧ (Keep h0 h [])
set_option maxRecDepth 65536 in
set_option maxHeartbeats 40000000 in
theorem rk_found_10 (l : Launch) (Z : State) (a0 : Array Value) (hw : ∀ d ∈ tables_1, d.before a0 Z = true) (ws : List Jvm.Cond) (w_Type__VALUES : Addr) (w_Type_REQUEST : Addr) (w_Type_REPLY : Addr) (w_Type_HEARTBEAT : Addr) (w_Type_ELECTION : Addr) (w_Type_ANSWER : Addr) (w_Type_COORDINATOR : Addr) (w_Type_GRANT : Addr) (w_Type_RELEASE : Addr) (w_Type_HELD : Addr) (w_Type_REPORTED : Addr) (w_Type_LOCKED : Addr) (w_Type_INQUIRE : Addr) (w_Type_FAILED : Addr) (w_Type_RELINQUISH : Addr) (w_Type_TOKEN : Addr) (k_w_Type__VALUES : ClassId) (h0 : Heap) (n0 : Nat) (Z0 : n0 ≤ h0.size) (S_Type__VALUES : Sta Z h0 "com/example/stile/stile/Message$Type" "$VALUES" "[Lcom/example/stile/stile/Message$Type;" (.ref w_Type__VALUES)) (V_w_Type__VALUES : Arv Z h0 w_Type__VALUES k_w_Type__VALUES (.object "com/example/stile/stile/Message$Type") (15 : Int32) [(.ref w_Type_REQUEST), (.ref w_Type_REPLY), (.ref w_Type_HEARTBEAT), (.ref w_Type_ELECTION), (.ref w_Type_ANSWER), (.ref w_Type_COORDINATOR), (.ref w_Type_GRANT), (.ref w_Type_RELEASE), (.ref w_Type_HELD), (.ref w_Type_REPORTED), (.ref w_Type_LOCKED), (.ref w_Type_INQUIRE), (.ref w_Type_FAILED), (.ref w_Type_RELINQUISH), (.ref w_Type_TOKEN)] .null) (E_w_Type__VALUES : Exa Z h0 w_Type__VALUES "[Lcom/example/stile/stile/Message$Type;") (F_w_Type_REQUEST_code : Fld Z h0 w_Type_REQUEST "com/example/stile/stile/Message$Type" "code" "I" (.int (1 : Int32))) (F_w_Type_REPLY_code : Fld Z h0 w_Type_REPLY "com/example/stile/stile/Message$Type" "code" "I" (.int (2 : Int32))) (F_w_Type_HEARTBEAT_code : Fld Z h0 w_Type_HEARTBEAT "com/example/stile/stile/Message$Type" "code" "I" (.int (3 : Int32))) (F_w_Type_ELECTION_code : Fld Z h0 w_Type_ELECTION "com/example/stile/stile/Message$Type" "code" "I" (.int (4 : Int32))) (F_w_Type_ANSWER_code : Fld Z h0 w_Type_ANSWER "com/example/stile/stile/Message$Type" "code" "I" (.int (5 : Int32))) (F_w_Type_COORDINATOR_code : Fld Z h0 w_Type_COORDINATOR "com/example/stile/stile/Message$Type" "code" "I" (.int (6 : Int32))) (F_w_Type_GRANT_code : Fld Z h0 w_Type_GRANT "com/example/stile/stile/Message$Type" "code" "I" (.int (7 : Int32))) (F_w_Type_RELEASE_code : Fld Z h0 w_Type_RELEASE "com/example/stile/stile/Message$Type" "code" "I" (.int (8 : Int32))) (F_w_Type_HELD_code : Fld Z h0 w_Type_HELD "com/example/stile/stile/Message$Type" "code" "I" (.int (9 : Int32))) (F_w_Type_REPORTED_code : Fld Z h0 w_Type_REPORTED "com/example/stile/stile/Message$Type" "code" "I" (.int (10 : Int32))) (F_w_Type_LOCKED_code : Fld Z h0 w_Type_LOCKED "com/example/stile/stile/Message$Type" "code" "I" (.int (11 : Int32))) :
    MetFree l (⟨"com/example/stile/stile/Message$Type", "of", "(I)Lcom/example/stile/stile/Message$Type;"⟩ : MethodName) (head1 (Jvm.Cond.code (⟨"com/example/stile/stile/Message$Type", "of", "(I)Lcom/example/stile/stile/Message$Type;"⟩ : MethodName) prog_48_method_8_code 5 (some (.object "com/example/stile/stile/Message$Type")) :: ws) ({ frames := 2, cells := 1, slots := 15, locals := 25 } : Room)) (fun a U => a = #[(.int (11 : Int32))] ∧ Z.Warmed39 U.vm ∧ U.heap = h0) (fun _ _ _ _ _ => True) (fun _ U o U' => ∃ v L, o = .returned v ∧ Q_rk_found_10 Z w_Type_LOCKED h0 n0 v U'.heap L ∧ FrameEnd U o U' L ({ frames := 2, cells := 1, slots := 15, locals := 25 } : Room).cells ({ frames := 2, cells := 1, slots := 15, locals := 25 } : Room).slots) := by
  refine MetFree.of_bodySF (plainFor_of_name pn_0) hisR ?_
  intro p e s m args below meth c s₁ Bd hml0 hP hK
  obtain ⟨rfl, hZ, hh⟩ := hP
  have hx := Bd.exec
  have hby := Bd.bytes
  have hml : c.maxLocals = 5 := hml0
  have hown : s.vm.findClass "com/example/stile/stile/Message$Type" = some m.cls := findClass_of_methodNamed Bd.named
  have hnm := (name_of_methodNamed Bd.named Bd.method).1
  have X0 : Stand p l e ({ frames := 2, cells := 1, slots := 15, locals := 25 } : Room) s m #[(.int (11 : Int32))] below meth c s₁ [] 0 0 := Stand.of_body Bd
  have e0 : s₁.heap = h0 := by rw [← hh, Bd.state]; rfl
  have N0 := Fr.nil n0
  have pre0 : ∀ t, Steps p.tables e below (s₁.setTop (mkF m 0 #[iv (11 : Int32), .unset, .unset, .unset, .unset] [])) t → Steps p.tables e below (s₁.setTop (entryFrame m #[(.int (11 : Int32))] 5)) t := fun t k => castTop (ef_1_I m (11 : Int32)) k
  obtain ⟨_, _, ⟨T1, L1, k1, n1⟩, -, X1, ⟨Lc1, hQ1, l1, y1, z1⟩, st1⟩ := Jvm.LawKit.callS X0 hx (y := (⟨"com/example/stile/stile/Message$Type", "values", "()[Lcom/example/stile/stile/Message$Type;"⟩ : MethodName)) hown (mvT hZ (hw _ (List.mem_of_getElem? (i := 4) rfl))) (mvT hZ (hw _ (List.mem_of_getElem? (i := 5) rfl))) (mvT hZ (hw _ (List.mem_of_getElem? (i := 2) rfl))) (mvT hZ (hw _ (List.mem_of_getElem? (i := 6) rfl))) (by decide) (backOf (W := 0) (rm2_0 l Z a0 hw [] w_Type__VALUES w_Type_REQUEST w_Type_REPLY w_Type_HEARTBEAT w_Type_ELECTION w_Type_ANSWER w_Type_COORDINATOR w_Type_GRANT w_Type_RELEASE w_Type_HELD w_Type_REPORTED w_Type_LOCKED w_Type_INQUIRE w_Type_FAILED w_Type_RELINQUISH w_Type_TOKEN k_w_Type__VALUES h0 n0 Z0 S_Type__VALUES V_w_Type__VALUES E_w_Type__VALUES) hZ (hw _ (List.mem_of_getElem? (i := 6) rfl)) (hw _ (List.mem_of_getElem? (i := 2) rfl)) (by decide) (by decide)) (g := (mkF m 0 #[iv (11 : Int32), .unset, .unset, .unset, .unset] [])) rfl (by rw [hml]; rfl) (argsL := []) (rest := []) (lenOf pd_0 rfl) rfl (by show 2 * 0 + _ ≤ _; exact Nat.le_of_eq rfl) (hb hby d1_0) (fun _ _ => ⟨rfl, e0, (by decide : 0 + 1 ≤ _), (by decide : 0 + 15 ≤ _)⟩)
  dsimp only [Pt.U, Pt.locs, Pt.cells, Pt.slots] at X1 l1 y1 z1 st1 hQ1
  subst l1 y1 z1
  obtain ⟨b1_1_0, rfl, N1q, K1, gq_b1_1_0, le_b1_1_0, fq1_0, fq1_1⟩ := hQ1
  have sz_b1_1_0 : h0.size ≤ b1_1_0 := Nat.le_trans (Keep.refl h0 []).1 le_b1_1_0
  have KK1 : Keep h0 T1.heap [] := (Keep.refl h0 []).trans K1 all0
  have Z1 : n0 ≤ T1.heap.size := Nat.le_trans Z0 K1.1
  have N1 := Fr.app N0 N1q
  obtain ⟨cl2, Ar2, -, Sz2, Nn2, -, -⟩ := id fq1_0
  obtain ⟨cl3, Ar3, -, Sz3, Nn3, Hs3, Gs3⟩ := id fq1_0
  have hin3 : ¬ ((0 : Int32) < 0 ∨ cl3.slots.size ≤ ((0 : Int32)).toNatClampNeg) := inb_of Sz3 ⟨by decide, by decide⟩
  have c4 := (F_w_Type_REQUEST_code.keep K1 nin0)
  obtain ⟨T5, X5, e5, st5⟩ := getF X1 hx hZ hown (host := "") (Or.inl (hw _ (List.mem_of_getElem? (i := 34) rfl))) Via.refl rfl c4 (g := (mkF m 21 #[iv (11 : Int32), rv b1_1_0, iv (15 : Int32), iv (0 : Int32), rv w_Type_REQUEST] [(.ref w_Type_REQUEST)])) rfl rfl (hb hby d1_21)
  obtain ⟨cl6, Ar6, -, Sz6, Nn6, Hs6, Gs6⟩ := id fq1_0
  have hin6 : ¬ ((1 : Int32) < 0 ∨ cl6.slots.size ≤ ((1 : Int32)).toNatClampNeg) := inb_of Sz6 ⟨by decide, by decide⟩
  have c7 := (F_w_Type_REPLY_code.keep K1 nin0)
  obtain ⟨T8, X8, e8, st8⟩ := getF X5 hx hZ hown (host := "") (Or.inl (hw _ (List.mem_of_getElem? (i := 34) rfl))) Via.refl e5 c7 (g := (mkF m 21 #[iv (11 : Int32), rv b1_1_0, iv (15 : Int32), iv (1 : Int32), rv w_Type_REPLY] [(.ref w_Type_REPLY)])) rfl rfl (hb hby d1_21)
  obtain ⟨cl9, Ar9, -, Sz9, Nn9, Hs9, Gs9⟩ := id fq1_0
  have hin9 : ¬ ((2 : Int32) < 0 ∨ cl9.slots.size ≤ ((2 : Int32)).toNatClampNeg) := inb_of Sz9 ⟨by decide, by decide⟩
  have c10 := (F_w_Type_HEARTBEAT_code.keep K1 nin0)
  obtain ⟨T11, X11, e11, st11⟩ := getF X8 hx hZ hown (host := "") (Or.inl (hw _ (List.mem_of_getElem? (i := 34) rfl))) Via.refl e8 c10 (g := (mkF m 21 #[iv (11 : Int32), rv b1_1_0, iv (15 : Int32), iv (2 : Int32), rv w_Type_HEARTBEAT] [(.ref w_Type_HEARTBEAT)])) rfl rfl (hb hby d1_21)
  obtain ⟨cl12, Ar12, -, Sz12, Nn12, Hs12, Gs12⟩ := id fq1_0
  have hin12 : ¬ ((3 : Int32) < 0 ∨ cl12.slots.size ≤ ((3 : Int32)).toNatClampNeg) := inb_of Sz12 ⟨by decide, by decide⟩
  have c13 := (F_w_Type_ELECTION_code.keep K1 nin0)
  obtain ⟨T14, X14, e14, st14⟩ := getF X11 hx hZ hown (host := "") (Or.inl (hw _ (List.mem_of_getElem? (i := 34) rfl))) Via.refl e11 c13 (g := (mkF m 21 #[iv (11 : Int32), rv b1_1_0, iv (15 : Int32), iv (3 : Int32), rv w_Type_ELECTION] [(.ref w_Type_ELECTION)])) rfl rfl (hb hby d1_21)
  obtain ⟨cl15, Ar15, -, Sz15, Nn15, Hs15, Gs15⟩ := id fq1_0
  have hin15 : ¬ ((4 : Int32) < 0 ∨ cl15.slots.size ≤ ((4 : Int32)).toNatClampNeg) := inb_of Sz15 ⟨by decide, by decide⟩
  have c16 := (F_w_Type_ANSWER_code.keep K1 nin0)
  obtain ⟨T17, X17, e17, st17⟩ := getF X14 hx hZ hown (host := "") (Or.inl (hw _ (List.mem_of_getElem? (i := 34) rfl))) Via.refl e14 c16 (g := (mkF m 21 #[iv (11 : Int32), rv b1_1_0, iv (15 : Int32), iv (4 : Int32), rv w_Type_ANSWER] [(.ref w_Type_ANSWER)])) rfl rfl (hb hby d1_21)
  obtain ⟨cl18, Ar18, -, Sz18, Nn18, Hs18, Gs18⟩ := id fq1_0
  have hin18 : ¬ ((5 : Int32) < 0 ∨ cl18.slots.size ≤ ((5 : Int32)).toNatClampNeg) := inb_of Sz18 ⟨by decide, by decide⟩
  have c19 := (F_w_Type_COORDINATOR_code.keep K1 nin0)
  obtain ⟨T20, X20, e20, st20⟩ := getF X17 hx hZ hown (host := "") (Or.inl (hw _ (List.mem_of_getElem? (i := 34) rfl))) Via.refl e17 c19 (g := (mkF m 21 #[iv (11 : Int32), rv b1_1_0, iv (15 : Int32), iv (5 : Int32), rv w_Type_COORDINATOR] [(.ref w_Type_COORDINATOR)])) rfl rfl (hb hby d1_21)
  obtain ⟨cl21, Ar21, -, Sz21, Nn21, Hs21, Gs21⟩ := id fq1_0
  have hin21 : ¬ ((6 : Int32) < 0 ∨ cl21.slots.size ≤ ((6 : Int32)).toNatClampNeg) := inb_of Sz21 ⟨by decide, by decide⟩
  have c22 := (F_w_Type_GRANT_code.keep K1 nin0)
  obtain ⟨T23, X23, e23, st23⟩ := getF X20 hx hZ hown (host := "") (Or.inl (hw _ (List.mem_of_getElem? (i := 34) rfl))) Via.refl e20 c22 (g := (mkF m 21 #[iv (11 : Int32), rv b1_1_0, iv (15 : Int32), iv (6 : Int32), rv w_Type_GRANT] [(.ref w_Type_GRANT)])) rfl rfl (hb hby d1_21)
  obtain ⟨cl24, Ar24, -, Sz24, Nn24, Hs24, Gs24⟩ := id fq1_0
  have hin24 : ¬ ((7 : Int32) < 0 ∨ cl24.slots.size ≤ ((7 : Int32)).toNatClampNeg) := inb_of Sz24 ⟨by decide, by decide⟩
  have c25 := (F_w_Type_RELEASE_code.keep K1 nin0)
  obtain ⟨T26, X26, e26, st26⟩ := getF X23 hx hZ hown (host := "") (Or.inl (hw _ (List.mem_of_getElem? (i := 34) rfl))) Via.refl e23 c25 (g := (mkF m 21 #[iv (11 : Int32), rv b1_1_0, iv (15 : Int32), iv (7 : Int32), rv w_Type_RELEASE] [(.ref w_Type_RELEASE)])) rfl rfl (hb hby d1_21)
  obtain ⟨cl27, Ar27, -, Sz27, Nn27, Hs27, Gs27⟩ := id fq1_0
  have hin27 : ¬ ((8 : Int32) < 0 ∨ cl27.slots.size ≤ ((8 : Int32)).toNatClampNeg) := inb_of Sz27 ⟨by decide, by decide⟩
  have c28 := (F_w_Type_HELD_code.keep K1 nin0)
  obtain ⟨T29, X29, e29, st29⟩ := getF X26 hx hZ hown (host := "") (Or.inl (hw _ (List.mem_of_getElem? (i := 34) rfl))) Via.refl e26 c28 (g := (mkF m 21 #[iv (11 : Int32), rv b1_1_0, iv (15 : Int32), iv (8 : Int32), rv w_Type_HELD] [(.ref w_Type_HELD)])) rfl rfl (hb hby d1_21)
  obtain ⟨cl30, Ar30, -, Sz30, Nn30, Hs30, Gs30⟩ := id fq1_0
  have hin30 : ¬ ((9 : Int32) < 0 ∨ cl30.slots.size ≤ ((9 : Int32)).toNatClampNeg) := inb_of Sz30 ⟨by decide, by decide⟩
  have c31 := (F_w_Type_REPORTED_code.keep K1 nin0)
  obtain ⟨T32, X32, e32, st32⟩ := getF X29 hx hZ hown (host := "") (Or.inl (hw _ (List.mem_of_getElem? (i := 34) rfl))) Via.refl e29 c31 (g := (mkF m 21 #[iv (11 : Int32), rv b1_1_0, iv (15 : Int32), iv (9 : Int32), rv w_Type_REPORTED] [(.ref w_Type_REPORTED)])) rfl rfl (hb hby d1_21)
  obtain ⟨cl33, Ar33, -, Sz33, Nn33, Hs33, Gs33⟩ := id fq1_0
  have hin33 : ¬ ((10 : Int32) < 0 ∨ cl33.slots.size ≤ ((10 : Int32)).toNatClampNeg) := inb_of Sz33 ⟨by decide, by decide⟩
  have c34 := (F_w_Type_LOCKED_code.keep K1 nin0)
  obtain ⟨T35, X35, e35, st35⟩ := getF X32 hx hZ hown (host := "") (Or.inl (hw _ (List.mem_of_getElem? (i := 34) rfl))) Via.refl e32 c34 (g := (mkF m 21 #[iv (11 : Int32), rv b1_1_0, iv (15 : Int32), iv (10 : Int32), rv w_Type_LOCKED] [(.ref w_Type_LOCKED)])) rfl rfl (hb hby d1_21)
  obtain ⟨fs, hr, hrun, hended, hW, hsame⟩ := X35.leave (v := (some (.ref w_Type_LOCKED))) (fun h => by rw [Bd.returns] at h; cases h)
  refine ⟨_, _, pre0 _ ?_, hrun, hended, _, _, rfl, ?_, ⟨_, rfl⟩, hW, hsame.mono (by decide) (by decide)⟩
  · show Steps p.tables e below (s₁.setTop (mkF m 0 #[iv (11 : Int32), .unset, .unset, .unset, .unset] [])) _
    refine st1 _ ?_
    refine XS.astoreN X1.here hx rfl (hb hby d1_3) rfl rfl (l' := #[iv (11 : Int32), rv b1_1_0, .unset, .unset, .unset]) rfl ?_
    refine XS.aloadN X1.here hx rfl (hb hby d1_4) rfl rfl ?_
    refine X1.arraylength hx Ar2.1 (State.isArrayOf_alike hZ.alike Ar2.2.1) (g := (mkF m 5 #[iv (11 : Int32), rv b1_1_0, .unset, .unset, .unset] [(.ref b1_1_0)])) rfl rfl (hb hby d1_5) _ ?_
    rw [len_of Sz2 Nn2]
    refine XS.istoreN X1.here hx rfl (hb hby d1_6) rfl (l' := #[iv (11 : Int32), rv b1_1_0, iv (15 : Int32), .unset, .unset]) rfl ?_
    refine XS.iconst X1.here hx rfl (hb hby d1_7) ?_
    show Steps p.tables e below (T1.setTop (mkF m 8 #[iv (11 : Int32), rv b1_1_0, iv (15 : Int32), .unset, .unset] [(.int (0 : Int32))])) _
    refine XS.istoreN X1.here hx rfl (hb hby d1_8) rfl (l' := #[iv (11 : Int32), rv b1_1_0, iv (15 : Int32), iv (0 : Int32), .unset]) rfl ?_
    refine XS.iloadN X1.here hx rfl (hb hby d1_9) rfl ?_
    refine XS.iloadN X1.here hx rfl (hb hby d1_10) rfl ?_
    refine XS.icmpNo X1.here hx rfl (hb hby d1_11) rfl (tlt (by decide +kernel : (0 : Int32) < (15 : Int32))).2.1 ?_
    refine XS.aloadN X1.here hx rfl (hb hby d1_14) rfl rfl ?_
    refine XS.iloadN X1.here hx rfl (hb hby d1_15) rfl ?_
    show Steps p.tables e below (T1.setTop (mkF m 16 #[iv (11 : Int32), rv b1_1_0, iv (15 : Int32), iv (0 : Int32), .unset] [(.int (0 : Int32)), (.ref b1_1_0)])) _
    refine X1.aaload hx (j := (0 : Int32)) (v := (.ref w_Type_REQUEST)) Ar3.1 (State.isArrayOf_alike hZ.alike Ar3.2.1) rfl Ar3.2.2 hin3 (Hs3.at hin3 rfl) (g := (mkF m 16 #[iv (11 : Int32), rv b1_1_0, iv (15 : Int32), iv (0 : Int32), .unset] [(.int (0 : Int32)), (.ref b1_1_0)])) rfl rfl (hb hby d1_16) _ ?_
    refine XS.astore X1.here hx rfl (hb hby d1_17) rfl rfl (l' := #[iv (11 : Int32), rv b1_1_0, iv (15 : Int32), iv (0 : Int32), rv w_Type_REQUEST]) rfl ?_
    refine XS.aload X1.here hx rfl (hb hby d1_19) rfl rfl ?_
    refine st5 _ ?_
    refine XS.iloadN X5.here hx rfl (hb hby d1_24) rfl ?_
    refine XS.icmpYes X5.here hx rfl (pc0 := 25) (pc' := 31) rfl (hb hby d1_25) rfl (feq (by decide +kernel : ¬ ((1 : Int32) = (11 : Int32)))).2 (by decide) (by decide) ?_
    show Steps p.tables e below (T5.setTop (mkF m 31 #[iv (11 : Int32), rv b1_1_0, iv (15 : Int32), iv (0 : Int32), rv w_Type_REQUEST] [])) _
    refine XS.iinc X5.here hx rfl (hb hby d1_31) rfl (l' := #[iv (11 : Int32), rv b1_1_0, iv (15 : Int32), iv ((0 : Int32) + (1 : Int32)), rv w_Type_REQUEST]) rfl ?_
    show Steps p.tables e below (T5.setTop (mkF m 34 #[iv (11 : Int32), rv b1_1_0, iv (15 : Int32), iv ((0 : Int32) + (1 : Int32)), rv w_Type_REQUEST] [])) _
    rewrite [show ((0 : Int32) + (1 : Int32)) = (1 : Int32) from by decide +kernel]
    refine XS.goto X5.here hx rfl (pc0 := 34) (pc' := 9) rfl (hb hby d1_34) (by decide) (by decide) ?_
    refine XS.iloadN X5.here hx rfl (hb hby d1_9) rfl ?_
    refine XS.iloadN X5.here hx rfl (hb hby d1_10) rfl ?_
    refine XS.icmpNo X5.here hx rfl (hb hby d1_11) rfl (tlt (by decide +kernel : (1 : Int32) < (15 : Int32))).2.1 ?_
    refine XS.aloadN X5.here hx rfl (hb hby d1_14) rfl rfl ?_
    show Steps p.tables e below (T5.setTop (mkF m 15 #[iv (11 : Int32), rv b1_1_0, iv (15 : Int32), iv (1 : Int32), rv w_Type_REQUEST] [(.ref b1_1_0)])) _
    refine XS.iloadN X5.here hx rfl (hb hby d1_15) rfl ?_
    refine X5.aaload hx (j := (1 : Int32)) (v := (.ref w_Type_REPLY)) (by rw [e5]; exact Ar6.1) (State.isArrayOf_alike hZ.alike Ar6.2.1) rfl Ar6.2.2 hin6 (Hs6.at hin6 rfl) (g := (mkF m 16 #[iv (11 : Int32), rv b1_1_0, iv (15 : Int32), iv (1 : Int32), rv w_Type_REQUEST] [(.int (1 : Int32)), (.ref b1_1_0)])) rfl rfl (hb hby d1_16) _ ?_
    refine XS.astore X5.here hx rfl (hb hby d1_17) rfl rfl (l' := #[iv (11 : Int32), rv b1_1_0, iv (15 : Int32), iv (1 : Int32), rv w_Type_REPLY]) rfl ?_
    refine XS.aload X5.here hx rfl (hb hby d1_19) rfl rfl ?_
    refine st8 _ ?_
    refine XS.iloadN X8.here hx rfl (hb hby d1_24) rfl ?_
    show Steps p.tables e below (T8.setTop (mkF m 25 #[iv (11 : Int32), rv b1_1_0, iv (15 : Int32), iv (1 : Int32), rv w_Type_REPLY] [(.int (11 : Int32)), (.int (2 : Int32))])) _
    refine XS.icmpYes X8.here hx rfl (pc0 := 25) (pc' := 31) rfl (hb hby d1_25) rfl (feq (by decide +kernel : ¬ ((2 : Int32) = (11 : Int32)))).2 (by decide) (by decide) ?_
    refine XS.iinc X8.here hx rfl (hb hby d1_31) rfl (l' := #[iv (11 : Int32), rv b1_1_0, iv (15 : Int32), iv ((1 : Int32) + (1 : Int32)), rv w_Type_REPLY]) rfl ?_
    show Steps p.tables e below (T8.setTop (mkF m 34 #[iv (11 : Int32), rv b1_1_0, iv (15 : Int32), iv ((1 : Int32) + (1 : Int32)), rv w_Type_REPLY] [])) _
    rewrite [show ((1 : Int32) + (1 : Int32)) = (2 : Int32) from by decide +kernel]
    refine XS.goto X8.here hx rfl (pc0 := 34) (pc' := 9) rfl (hb hby d1_34) (by decide) (by decide) ?_
    refine XS.iloadN X8.here hx rfl (hb hby d1_9) rfl ?_
    refine XS.iloadN X8.here hx rfl (hb hby d1_10) rfl ?_
    refine XS.icmpNo X8.here hx rfl (hb hby d1_11) rfl (tlt (by decide +kernel : (2 : Int32) < (15 : Int32))).2.1 ?_
    show Steps p.tables e below (T8.setTop (mkF m 14 #[iv (11 : Int32), rv b1_1_0, iv (15 : Int32), iv (2 : Int32), rv w_Type_REPLY] [])) _
    refine XS.aloadN X8.here hx rfl (hb hby d1_14) rfl rfl ?_
    refine XS.iloadN X8.here hx rfl (hb hby d1_15) rfl ?_
    refine X8.aaload hx (j := (2 : Int32)) (v := (.ref w_Type_HEARTBEAT)) (by rw [e8]; exact Ar9.1) (State.isArrayOf_alike hZ.alike Ar9.2.1) rfl Ar9.2.2 hin9 (Hs9.at hin9 rfl) (g := (mkF m 16 #[iv (11 : Int32), rv b1_1_0, iv (15 : Int32), iv (2 : Int32), rv w_Type_REPLY] [(.int (2 : Int32)), (.ref b1_1_0)])) rfl rfl (hb hby d1_16) _ ?_
    refine XS.astore X8.here hx rfl (hb hby d1_17) rfl rfl (l' := #[iv (11 : Int32), rv b1_1_0, iv (15 : Int32), iv (2 : Int32), rv w_Type_HEARTBEAT]) rfl ?_
    refine XS.aload X8.here hx rfl (hb hby d1_19) rfl rfl ?_
    refine st11 _ ?_
    show Steps p.tables e below (T11.setTop (mkF m 24 #[iv (11 : Int32), rv b1_1_0, iv (15 : Int32), iv (2 : Int32), rv w_Type_HEARTBEAT] [(.int (3 : Int32))])) _
    refine XS.iloadN X11.here hx rfl (hb hby d1_24) rfl ?_
    refine XS.icmpYes X11.here hx rfl (pc0 := 25) (pc' := 31) rfl (hb hby d1_25) rfl (feq (by decide +kernel : ¬ ((3 : Int32) = (11 : Int32)))).2 (by decide) (by decide) ?_
    refine XS.iinc X11.here hx rfl (hb hby d1_31) rfl (l' := #[iv (11 : Int32), rv b1_1_0, iv (15 : Int32), iv ((2 : Int32) + (1 : Int32)), rv w_Type_HEARTBEAT]) rfl ?_
    show Steps p.tables e below (T11.setTop (mkF m 34 #[iv (11 : Int32), rv b1_1_0, iv (15 : Int32), iv ((2 : Int32) + (1 : Int32)), rv w_Type_HEARTBEAT] [])) _
    rewrite [show ((2 : Int32) + (1 : Int32)) = (3 : Int32) from by decide +kernel]
    refine XS.goto X11.here hx rfl (pc0 := 34) (pc' := 9) rfl (hb hby d1_34) (by decide) (by decide) ?_
    refine XS.iloadN X11.here hx rfl (hb hby d1_9) rfl ?_
    refine XS.iloadN X11.here hx rfl (hb hby d1_10) rfl ?_
    show Steps p.tables e below (T11.setTop (mkF m 11 #[iv (11 : Int32), rv b1_1_0, iv (15 : Int32), iv (3 : Int32), rv w_Type_HEARTBEAT] [(.int (15 : Int32)), (.int (3 : Int32))])) _
    refine XS.icmpNo X11.here hx rfl (hb hby d1_11) rfl (tlt (by decide +kernel : (3 : Int32) < (15 : Int32))).2.1 ?_
    refine XS.aloadN X11.here hx rfl (hb hby d1_14) rfl rfl ?_
    refine XS.iloadN X11.here hx rfl (hb hby d1_15) rfl ?_
    refine X11.aaload hx (j := (3 : Int32)) (v := (.ref w_Type_ELECTION)) (by rw [e11]; exact Ar12.1) (State.isArrayOf_alike hZ.alike Ar12.2.1) rfl Ar12.2.2 hin12 (Hs12.at hin12 rfl) (g := (mkF m 16 #[iv (11 : Int32), rv b1_1_0, iv (15 : Int32), iv (3 : Int32), rv w_Type_HEARTBEAT] [(.int (3 : Int32)), (.ref b1_1_0)])) rfl rfl (hb hby d1_16) _ ?_
    refine XS.astore X11.here hx rfl (hb hby d1_17) rfl rfl (l' := #[iv (11 : Int32), rv b1_1_0, iv (15 : Int32), iv (3 : Int32), rv w_Type_ELECTION]) rfl ?_
    refine XS.aload X11.here hx rfl (hb hby d1_19) rfl rfl ?_
    show Steps p.tables e below (T11.setTop (mkF m 21 #[iv (11 : Int32), rv b1_1_0, iv (15 : Int32), iv (3 : Int32), rv w_Type_ELECTION] [(.ref w_Type_ELECTION)])) _
    refine st14 _ ?_
    refine XS.iloadN X14.here hx rfl (hb hby d1_24) rfl ?_
    refine XS.icmpYes X14.here hx rfl (pc0 := 25) (pc' := 31) rfl (hb hby d1_25) rfl (feq (by decide +kernel : ¬ ((4 : Int32) = (11 : Int32)))).2 (by decide) (by decide) ?_
    refine XS.iinc X14.here hx rfl (hb hby d1_31) rfl (l' := #[iv (11 : Int32), rv b1_1_0, iv (15 : Int32), iv ((3 : Int32) + (1 : Int32)), rv w_Type_ELECTION]) rfl ?_
    show Steps p.tables e below (T14.setTop (mkF m 34 #[iv (11 : Int32), rv b1_1_0, iv (15 : Int32), iv ((3 : Int32) + (1 : Int32)), rv w_Type_ELECTION] [])) _
    rewrite [show ((3 : Int32) + (1 : Int32)) = (4 : Int32) from by decide +kernel]
    refine XS.goto X14.here hx rfl (pc0 := 34) (pc' := 9) rfl (hb hby d1_34) (by decide) (by decide) ?_
    refine XS.iloadN X14.here hx rfl (hb hby d1_9) rfl ?_
    show Steps p.tables e below (T14.setTop (mkF m 10 #[iv (11 : Int32), rv b1_1_0, iv (15 : Int32), iv (4 : Int32), rv w_Type_ELECTION] [(.int (4 : Int32))])) _
    refine XS.iloadN X14.here hx rfl (hb hby d1_10) rfl ?_
    refine XS.icmpNo X14.here hx rfl (hb hby d1_11) rfl (tlt (by decide +kernel : (4 : Int32) < (15 : Int32))).2.1 ?_
    refine XS.aloadN X14.here hx rfl (hb hby d1_14) rfl rfl ?_
    refine XS.iloadN X14.here hx rfl (hb hby d1_15) rfl ?_
    refine X14.aaload hx (j := (4 : Int32)) (v := (.ref w_Type_ANSWER)) (by rw [e14]; exact Ar15.1) (State.isArrayOf_alike hZ.alike Ar15.2.1) rfl Ar15.2.2 hin15 (Hs15.at hin15 rfl) (g := (mkF m 16 #[iv (11 : Int32), rv b1_1_0, iv (15 : Int32), iv (4 : Int32), rv w_Type_ELECTION] [(.int (4 : Int32)), (.ref b1_1_0)])) rfl rfl (hb hby d1_16) _ ?_
    refine XS.astore X14.here hx rfl (hb hby d1_17) rfl rfl (l' := #[iv (11 : Int32), rv b1_1_0, iv (15 : Int32), iv (4 : Int32), rv w_Type_ANSWER]) rfl ?_
    show Steps p.tables e below (T14.setTop (mkF m 19 #[iv (11 : Int32), rv b1_1_0, iv (15 : Int32), iv (4 : Int32), rv w_Type_ANSWER] [])) _
    refine XS.aload X14.here hx rfl (hb hby d1_19) rfl rfl ?_
    refine st17 _ ?_
    refine XS.iloadN X17.here hx rfl (hb hby d1_24) rfl ?_
    refine XS.icmpYes X17.here hx rfl (pc0 := 25) (pc' := 31) rfl (hb hby d1_25) rfl (feq (by decide +kernel : ¬ ((5 : Int32) = (11 : Int32)))).2 (by decide) (by decide) ?_
    refine XS.iinc X17.here hx rfl (hb hby d1_31) rfl (l' := #[iv (11 : Int32), rv b1_1_0, iv (15 : Int32), iv ((4 : Int32) + (1 : Int32)), rv w_Type_ANSWER]) rfl ?_
    show Steps p.tables e below (T17.setTop (mkF m 34 #[iv (11 : Int32), rv b1_1_0, iv (15 : Int32), iv ((4 : Int32) + (1 : Int32)), rv w_Type_ANSWER] [])) _
    rewrite [show ((4 : Int32) + (1 : Int32)) = (5 : Int32) from by decide +kernel]
    refine XS.goto X17.here hx rfl (pc0 := 34) (pc' := 9) rfl (hb hby d1_34) (by decide) (by decide) ?_
    show Steps p.tables e below (T17.setTop (mkF m 9 #[iv (11 : Int32), rv b1_1_0, iv (15 : Int32), iv (5 : Int32), rv w_Type_ANSWER] [])) _
    refine XS.iloadN X17.here hx rfl (hb hby d1_9) rfl ?_
    refine XS.iloadN X17.here hx rfl (hb hby d1_10) rfl ?_
    refine XS.icmpNo X17.here hx rfl (hb hby d1_11) rfl (tlt (by decide +kernel : (5 : Int32) < (15 : Int32))).2.1 ?_
    refine XS.aloadN X17.here hx rfl (hb hby d1_14) rfl rfl ?_
    refine XS.iloadN X17.here hx rfl (hb hby d1_15) rfl ?_
    refine X17.aaload hx (j := (5 : Int32)) (v := (.ref w_Type_COORDINATOR)) (by rw [e17]; exact Ar18.1) (State.isArrayOf_alike hZ.alike Ar18.2.1) rfl Ar18.2.2 hin18 (Hs18.at hin18 rfl) (g := (mkF m 16 #[iv (11 : Int32), rv b1_1_0, iv (15 : Int32), iv (5 : Int32), rv w_Type_ANSWER] [(.int (5 : Int32)), (.ref b1_1_0)])) rfl rfl (hb hby d1_16) _ ?_
    show Steps p.tables e below (T17.setTop (mkF m 17 #[iv (11 : Int32), rv b1_1_0, iv (15 : Int32), iv (5 : Int32), rv w_Type_ANSWER] [(.ref w_Type_COORDINATOR)])) _
    refine XS.astore X17.here hx rfl (hb hby d1_17) rfl rfl (l' := #[iv (11 : Int32), rv b1_1_0, iv (15 : Int32), iv (5 : Int32), rv w_Type_COORDINATOR]) rfl ?_
    refine XS.aload X17.here hx rfl (hb hby d1_19) rfl rfl ?_
    refine st20 _ ?_
    refine XS.iloadN X20.here hx rfl (hb hby d1_24) rfl ?_
    refine XS.icmpYes X20.here hx rfl (pc0 := 25) (pc' := 31) rfl (hb hby d1_25) rfl (feq (by decide +kernel : ¬ ((6 : Int32) = (11 : Int32)))).2 (by decide) (by decide) ?_
    refine XS.iinc X20.here hx rfl (hb hby d1_31) rfl (l' := #[iv (11 : Int32), rv b1_1_0, iv (15 : Int32), iv ((5 : Int32) + (1 : Int32)), rv w_Type_COORDINATOR]) rfl ?_
    show Steps p.tables e below (T20.setTop (mkF m 34 #[iv (11 : Int32), rv b1_1_0, iv (15 : Int32), iv ((5 : Int32) + (1 : Int32)), rv w_Type_COORDINATOR] [])) _
    rewrite [show ((5 : Int32) + (1 : Int32)) = (6 : Int32) from by decide +kernel]
    show Steps p.tables e below (T20.setTop (mkF m 34 #[iv (11 : Int32), rv b1_1_0, iv (15 : Int32), iv (6 : Int32), rv w_Type_COORDINATOR] [])) _
    refine XS.goto X20.here hx rfl (pc0 := 34) (pc' := 9) rfl (hb hby d1_34) (by decide) (by decide) ?_
    refine XS.iloadN X20.here hx rfl (hb hby d1_9) rfl ?_
    refine XS.iloadN X20.here hx rfl (hb hby d1_10) rfl ?_
    refine XS.icmpNo X20.here hx rfl (hb hby d1_11) rfl (tlt (by decide +kernel : (6 : Int32) < (15 : Int32))).2.1 ?_
    refine XS.aloadN X20.here hx rfl (hb hby d1_14) rfl rfl ?_
    refine XS.iloadN X20.here hx rfl (hb hby d1_15) rfl ?_
    show Steps p.tables e below (T20.setTop (mkF m 16 #[iv (11 : Int32), rv b1_1_0, iv (15 : Int32), iv (6 : Int32), rv w_Type_COORDINATOR] [(.int (6 : Int32)), (.ref b1_1_0)])) _
    refine X20.aaload hx (j := (6 : Int32)) (v := (.ref w_Type_GRANT)) (by rw [e20]; exact Ar21.1) (State.isArrayOf_alike hZ.alike Ar21.2.1) rfl Ar21.2.2 hin21 (Hs21.at hin21 rfl) (g := (mkF m 16 #[iv (11 : Int32), rv b1_1_0, iv (15 : Int32), iv (6 : Int32), rv w_Type_COORDINATOR] [(.int (6 : Int32)), (.ref b1_1_0)])) rfl rfl (hb hby d1_16) _ ?_
    refine XS.astore X20.here hx rfl (hb hby d1_17) rfl rfl (l' := #[iv (11 : Int32), rv b1_1_0, iv (15 : Int32), iv (6 : Int32), rv w_Type_GRANT]) rfl ?_
    refine XS.aload X20.here hx rfl (hb hby d1_19) rfl rfl ?_
    refine st23 _ ?_
    refine XS.iloadN X23.here hx rfl (hb hby d1_24) rfl ?_
    refine XS.icmpYes X23.here hx rfl (pc0 := 25) (pc' := 31) rfl (hb hby d1_25) rfl (feq (by decide +kernel : ¬ ((7 : Int32) = (11 : Int32)))).2 (by decide) (by decide) ?_
    show Steps p.tables e below (T23.setTop (mkF m 31 #[iv (11 : Int32), rv b1_1_0, iv (15 : Int32), iv (6 : Int32), rv w_Type_GRANT] [])) _
    refine XS.iinc X23.here hx rfl (hb hby d1_31) rfl (l' := #[iv (11 : Int32), rv b1_1_0, iv (15 : Int32), iv ((6 : Int32) + (1 : Int32)), rv w_Type_GRANT]) rfl ?_
    show Steps p.tables e below (T23.setTop (mkF m 34 #[iv (11 : Int32), rv b1_1_0, iv (15 : Int32), iv ((6 : Int32) + (1 : Int32)), rv w_Type_GRANT] [])) _
    rewrite [show ((6 : Int32) + (1 : Int32)) = (7 : Int32) from by decide +kernel]
    refine XS.goto X23.here hx rfl (pc0 := 34) (pc' := 9) rfl (hb hby d1_34) (by decide) (by decide) ?_
    refine XS.iloadN X23.here hx rfl (hb hby d1_9) rfl ?_
    refine XS.iloadN X23.here hx rfl (hb hby d1_10) rfl ?_
    refine XS.icmpNo X23.here hx rfl (hb hby d1_11) rfl (tlt (by decide +kernel : (7 : Int32) < (15 : Int32))).2.1 ?_
    refine XS.aloadN X23.here hx rfl (hb hby d1_14) rfl rfl ?_
    show Steps p.tables e below (T23.setTop (mkF m 15 #[iv (11 : Int32), rv b1_1_0, iv (15 : Int32), iv (7 : Int32), rv w_Type_GRANT] [(.ref b1_1_0)])) _
    refine XS.iloadN X23.here hx rfl (hb hby d1_15) rfl ?_
    refine X23.aaload hx (j := (7 : Int32)) (v := (.ref w_Type_RELEASE)) (by rw [e23]; exact Ar24.1) (State.isArrayOf_alike hZ.alike Ar24.2.1) rfl Ar24.2.2 hin24 (Hs24.at hin24 rfl) (g := (mkF m 16 #[iv (11 : Int32), rv b1_1_0, iv (15 : Int32), iv (7 : Int32), rv w_Type_GRANT] [(.int (7 : Int32)), (.ref b1_1_0)])) rfl rfl (hb hby d1_16) _ ?_
    refine XS.astore X23.here hx rfl (hb hby d1_17) rfl rfl (l' := #[iv (11 : Int32), rv b1_1_0, iv (15 : Int32), iv (7 : Int32), rv w_Type_RELEASE]) rfl ?_
    refine XS.aload X23.here hx rfl (hb hby d1_19) rfl rfl ?_
    refine st26 _ ?_
    refine XS.iloadN X26.here hx rfl (hb hby d1_24) rfl ?_
    show Steps p.tables e below (T26.setTop (mkF m 25 #[iv (11 : Int32), rv b1_1_0, iv (15 : Int32), iv (7 : Int32), rv w_Type_RELEASE] [(.int (11 : Int32)), (.int (8 : Int32))])) _
    refine XS.icmpYes X26.here hx rfl (pc0 := 25) (pc' := 31) rfl (hb hby d1_25) rfl (feq (by decide +kernel : ¬ ((8 : Int32) = (11 : Int32)))).2 (by decide) (by decide) ?_
    refine XS.iinc X26.here hx rfl (hb hby d1_31) rfl (l' := #[iv (11 : Int32), rv b1_1_0, iv (15 : Int32), iv ((7 : Int32) + (1 : Int32)), rv w_Type_RELEASE]) rfl ?_
    show Steps p.tables e below (T26.setTop (mkF m 34 #[iv (11 : Int32), rv b1_1_0, iv (15 : Int32), iv ((7 : Int32) + (1 : Int32)), rv w_Type_RELEASE] [])) _
    rewrite [show ((7 : Int32) + (1 : Int32)) = (8 : Int32) from by decide +kernel]
    refine XS.goto X26.here hx rfl (pc0 := 34) (pc' := 9) rfl (hb hby d1_34) (by decide) (by decide) ?_
    refine XS.iloadN X26.here hx rfl (hb hby d1_9) rfl ?_
    refine XS.iloadN X26.here hx rfl (hb hby d1_10) rfl ?_
    refine XS.icmpNo X26.here hx rfl (hb hby d1_11) rfl (tlt (by decide +kernel : (8 : Int32) < (15 : Int32))).2.1 ?_
    show Steps p.tables e below (T26.setTop (mkF m 14 #[iv (11 : Int32), rv b1_1_0, iv (15 : Int32), iv (8 : Int32), rv w_Type_RELEASE] [])) _
    refine XS.aloadN X26.here hx rfl (hb hby d1_14) rfl rfl ?_
    refine XS.iloadN X26.here hx rfl (hb hby d1_15) rfl ?_
    refine X26.aaload hx (j := (8 : Int32)) (v := (.ref w_Type_HELD)) (by rw [e26]; exact Ar27.1) (State.isArrayOf_alike hZ.alike Ar27.2.1) rfl Ar27.2.2 hin27 (Hs27.at hin27 rfl) (g := (mkF m 16 #[iv (11 : Int32), rv b1_1_0, iv (15 : Int32), iv (8 : Int32), rv w_Type_RELEASE] [(.int (8 : Int32)), (.ref b1_1_0)])) rfl rfl (hb hby d1_16) _ ?_
    refine XS.astore X26.here hx rfl (hb hby d1_17) rfl rfl (l' := #[iv (11 : Int32), rv b1_1_0, iv (15 : Int32), iv (8 : Int32), rv w_Type_HELD]) rfl ?_
    refine XS.aload X26.here hx rfl (hb hby d1_19) rfl rfl ?_
    refine st29 _ ?_
    show Steps p.tables e below (T29.setTop (mkF m 24 #[iv (11 : Int32), rv b1_1_0, iv (15 : Int32), iv (8 : Int32), rv w_Type_HELD] [(.int (9 : Int32))])) _
    refine XS.iloadN X29.here hx rfl (hb hby d1_24) rfl ?_
    refine XS.icmpYes X29.here hx rfl (pc0 := 25) (pc' := 31) rfl (hb hby d1_25) rfl (feq (by decide +kernel : ¬ ((9 : Int32) = (11 : Int32)))).2 (by decide) (by decide) ?_
    refine XS.iinc X29.here hx rfl (hb hby d1_31) rfl (l' := #[iv (11 : Int32), rv b1_1_0, iv (15 : Int32), iv ((8 : Int32) + (1 : Int32)), rv w_Type_HELD]) rfl ?_
    show Steps p.tables e below (T29.setTop (mkF m 34 #[iv (11 : Int32), rv b1_1_0, iv (15 : Int32), iv ((8 : Int32) + (1 : Int32)), rv w_Type_HELD] [])) _
    rewrite [show ((8 : Int32) + (1 : Int32)) = (9 : Int32) from by decide +kernel]
    refine XS.goto X29.here hx rfl (pc0 := 34) (pc' := 9) rfl (hb hby d1_34) (by decide) (by decide) ?_
    refine XS.iloadN X29.here hx rfl (hb hby d1_9) rfl ?_
    refine XS.iloadN X29.here hx rfl (hb hby d1_10) rfl ?_
    show Steps p.tables e below (T29.setTop (mkF m 11 #[iv (11 : Int32), rv b1_1_0, iv (15 : Int32), iv (9 : Int32), rv w_Type_HELD] [(.int (15 : Int32)), (.int (9 : Int32))])) _
    refine XS.icmpNo X29.here hx rfl (hb hby d1_11) rfl (tlt (by decide +kernel : (9 : Int32) < (15 : Int32))).2.1 ?_
    refine XS.aloadN X29.here hx rfl (hb hby d1_14) rfl rfl ?_
    refine XS.iloadN X29.here hx rfl (hb hby d1_15) rfl ?_
    refine X29.aaload hx (j := (9 : Int32)) (v := (.ref w_Type_REPORTED)) (by rw [e29]; exact Ar30.1) (State.isArrayOf_alike hZ.alike Ar30.2.1) rfl Ar30.2.2 hin30 (Hs30.at hin30 rfl) (g := (mkF m 16 #[iv (11 : Int32), rv b1_1_0, iv (15 : Int32), iv (9 : Int32), rv w_Type_HELD] [(.int (9 : Int32)), (.ref b1_1_0)])) rfl rfl (hb hby d1_16) _ ?_
    refine XS.astore X29.here hx rfl (hb hby d1_17) rfl rfl (l' := #[iv (11 : Int32), rv b1_1_0, iv (15 : Int32), iv (9 : Int32), rv w_Type_REPORTED]) rfl ?_
    refine XS.aload X29.here hx rfl (hb hby d1_19) rfl rfl ?_
    show Steps p.tables e below (T29.setTop (mkF m 21 #[iv (11 : Int32), rv b1_1_0, iv (15 : Int32), iv (9 : Int32), rv w_Type_REPORTED] [(.ref w_Type_REPORTED)])) _
    refine st32 _ ?_
    refine XS.iloadN X32.here hx rfl (hb hby d1_24) rfl ?_
    refine XS.icmpYes X32.here hx rfl (pc0 := 25) (pc' := 31) rfl (hb hby d1_25) rfl (feq (by decide +kernel : ¬ ((10 : Int32) = (11 : Int32)))).2 (by decide) (by decide) ?_
    refine XS.iinc X32.here hx rfl (hb hby d1_31) rfl (l' := #[iv (11 : Int32), rv b1_1_0, iv (15 : Int32), iv ((9 : Int32) + (1 : Int32)), rv w_Type_REPORTED]) rfl ?_
    show Steps p.tables e below (T32.setTop (mkF m 34 #[iv (11 : Int32), rv b1_1_0, iv (15 : Int32), iv ((9 : Int32) + (1 : Int32)), rv w_Type_REPORTED] [])) _
    rewrite [show ((9 : Int32) + (1 : Int32)) = (10 : Int32) from by decide +kernel]
    refine XS.goto X32.here hx rfl (pc0 := 34) (pc' := 9) rfl (hb hby d1_34) (by decide) (by decide) ?_
    refine XS.iloadN X32.here hx rfl (hb hby d1_9) rfl ?_
    show Steps p.tables e below (T32.setTop (mkF m 10 #[iv (11 : Int32), rv b1_1_0, iv (15 : Int32), iv (10 : Int32), rv w_Type_REPORTED] [(.int (10 : Int32))])) _
    refine XS.iloadN X32.here hx rfl (hb hby d1_10) rfl ?_
    refine XS.icmpNo X32.here hx rfl (hb hby d1_11) rfl (tlt (by decide +kernel : (10 : Int32) < (15 : Int32))).2.1 ?_
    refine XS.aloadN X32.here hx rfl (hb hby d1_14) rfl rfl ?_
    refine XS.iloadN X32.here hx rfl (hb hby d1_15) rfl ?_
    refine X32.aaload hx (j := (10 : Int32)) (v := (.ref w_Type_LOCKED)) (by rw [e32]; exact Ar33.1) (State.isArrayOf_alike hZ.alike Ar33.2.1) rfl Ar33.2.2 hin33 (Hs33.at hin33 rfl) (g := (mkF m 16 #[iv (11 : Int32), rv b1_1_0, iv (15 : Int32), iv (10 : Int32), rv w_Type_REPORTED] [(.int (10 : Int32)), (.ref b1_1_0)])) rfl rfl (hb hby d1_16) _ ?_
    refine XS.astore X32.here hx rfl (hb hby d1_17) rfl rfl (l' := #[iv (11 : Int32), rv b1_1_0, iv (15 : Int32), iv (10 : Int32), rv w_Type_LOCKED]) rfl ?_
    show Steps p.tables e below (T32.setTop (mkF m 19 #[iv (11 : Int32), rv b1_1_0, iv (15 : Int32), iv (10 : Int32), rv w_Type_LOCKED] [])) _
    refine XS.aload X32.here hx rfl (hb hby d1_19) rfl rfl ?_
    refine st35 _ ?_
    refine XS.iloadN X35.here hx rfl (hb hby d1_24) rfl ?_
    refine XS.icmpNo X35.here hx rfl (hb hby d1_25) rfl (teq (by decide +kernel : (11 : Int32) = (11 : Int32))).2 ?_
    refine XS.aload X35.here hx rfl (hb hby d1_28) rfl rfl ?_
    exact own_retA X35 hx Bd.returns rfl rfl (hb hby d1_30) hr
  · exact (by show Q_rk_found_10 Z w_Type_LOCKED h0 n0 _ T35.heap _; rw [e35]; exact ⟨rfl, N1, KK1⟩)
def Q_rk_found_11 (Z : State) (w_Type_INQUIRE : Addr) (h0 : Heap) (n0 : Nat) (v : Option Value) (h : Heap) (L : List Loc) : Prop := (v = (some (.ref w_Type_INQUIRE))) ∧ (Fr n0 L) ∧ (Keep h0 h [])
set_option maxRecDepth 65536 in
set_option maxHeartbeats 40000000 in
theorem rk_found_11 (l : Launch) (Z : State) (a0 : Array Value) (hw : ∀ d ∈ tables_1, d.before a0 Z = true) (ws : List Jvm.Cond) (w_Type__VALUES : Addr) (w_Type_REQUEST : Addr) (w_Type_REPLY : Addr) (w_Type_HEARTBEAT : Addr) (w_Type_ELECTION : Addr) (w_Type_ANSWER : Addr) (w_Type_COORDINATOR : Addr) (w_Type_GRANT : Addr) (w_Type_RELEASE : Addr) (w_Type_HELD : Addr) (w_Type_REPORTED : Addr) (w_Type_LOCKED : Addr) (w_Type_INQUIRE : Addr) (w_Type_FAILED : Addr) (w_Type_RELINQUISH : Addr) (w_Type_TOKEN : Addr) (k_w_Type__VALUES : ClassId) (h0 : Heap) (n0 : Nat) (Z0 : n0 ≤ h0.size) (S_Type__VALUES : Sta Z h0 "com/example/stile/stile/Message$Type" "$VALUES" "[Lcom/example/stile/stile/Message$Type;" (.ref w_Type__VALUES)) (V_w_Type__VALUES : Arv Z h0 w_Type__VALUES k_w_Type__VALUES (.object "com/example/stile/stile/Message$Type") (15 : Int32) [(.ref w_Type_REQUEST), (.ref w_Type_REPLY), (.ref w_Type_HEARTBEAT), (.ref w_Type_ELECTION), (.ref w_Type_ANSWER), (.ref w_Type_COORDINATOR), (.ref w_Type_GRANT), (.ref w_Type_RELEASE), (.ref w_Type_HELD), (.ref w_Type_REPORTED), (.ref w_Type_LOCKED), (.ref w_Type_INQUIRE), (.ref w_Type_FAILED), (.ref w_Type_RELINQUISH), (.ref w_Type_TOKEN)] .null) (E_w_Type__VALUES : Exa Z h0 w_Type__VALUES "[Lcom/example/stile/stile/Message$Type;") (F_w_Type_REQUEST_code : Fld Z h0 w_Type_REQUEST "com/example/stile/stile/Message$Type" "code" "I" (.int (1 : Int32))) (F_w_Type_REPLY_code : Fld Z h0 w_Type_REPLY "com/example/stile/stile/Message$Type" "code" "I" (.int (2 : Int32))) (F_w_Type_HEARTBEAT_code : Fld Z h0 w_Type_HEARTBEAT "com/example/stile/stile/Message$Type" "code" "I" (.int (3 : Int32))) (F_w_Type_ELECTION_code : Fld Z h0 w_Type_ELECTION "com/example/stile/stile/Message$Type" "code" "I" (.int (4 : Int32))) (F_w_Type_ANSWER_code : Fld Z h0 w_Type_ANSWER "com/example/stile/stile/Message$Type" "code" "I" (.int (5 : Int32))) (F_w_Type_COORDINATOR_code : Fld Z h0 w_Type_COORDINATOR "com/example/stile/stile/Message$Type" "code" "I" (.int (6 : Int32))) (F_w_Type_GRANT_code : Fld Z h0 w_Type_GRANT "com/example/stile/stile/Message$Type" "code" "I" (.int (7 : Int32))) (F_w_Type_RELEASE_code : Fld Z h0 w_Type_RELEASE "com/example/stile/stile/Message$Type" "code" "I" (.int (8 : Int32))) (F_w_Type_HELD_code : Fld Z h0 w_Type_HELD "com/example/stile/stile/Message$Type" "code" "I" (.int (9 : Int32))) (F_w_Type_REPORTED_code : Fld Z h0 w_Type_REPORTED "com/example/stile/stile/Message$Type" "code" "I" (.int (10 : Int32))) (F_w_Type_LOCKED_code : Fld Z h0 w_Type_LOCKED "com/example/stile/stile/Message$Type" "code" "I" (.int (11 : Int32))) (F_w_Type_INQUIRE_code : Fld Z h0 w_Type_INQUIRE "com/example/stile/stile/Message$Type" "code" "I" (.int (12 : Int32))) :
    MetFree l (⟨"com/example/stile/stile/Message$Type", "of", "(I)Lcom/example/stile/stile/Message$Type;"⟩ : MethodName) (head1 (Jvm.Cond.code (⟨"com/example/stile/stile/Message$Type", "of", "(I)Lcom/example/stile/stile/Message$Type;"⟩ : MethodName) prog_48_method_8_code 5 (some (.object "com/example/stile/stile/Message$Type")) :: ws) ({ frames := 2, cells := 1, slots := 15, locals := 25 } : Room)) (fun a U => a = #[(.int (12 : Int32))] ∧ Z.Warmed39 U.vm ∧ U.heap = h0) (fun _ _ _ _ _ => True) (fun _ U o U' => ∃ v L, o = .returned v ∧ Q_rk_found_11 Z w_Type_INQUIRE h0 n0 v U'.heap L ∧ FrameEnd U o U' L ({ frames := 2, cells := 1, slots := 15, locals := 25 } : Room).cells ({ frames := 2, cells := 1, slots := 15, locals := 25 } : Room).slots) := by
  refine MetFree.of_bodySF (plainFor_of_name pn_0) hisR ?_
  intro p e s m args below meth c s₁ Bd hml0 hP hK
  obtain ⟨rfl, hZ, hh⟩ := hP
  have hx := Bd.exec
  have hby := Bd.bytes
  have hml : c.maxLocals = 5 := hml0
  have hown : s.vm.findClass "com/example/stile/stile/Message$Type" = some m.cls := findClass_of_methodNamed Bd.named
  have hnm := (name_of_methodNamed Bd.named Bd.method).1
  have X0 : Stand p l e ({ frames := 2, cells := 1, slots := 15, locals := 25 } : Room) s m #[(.int (12 : Int32))] below meth c s₁ [] 0 0 := Stand.of_body Bd
  have e0 : s₁.heap = h0 := by rw [← hh, Bd.state]; rfl
  have N0 := Fr.nil n0
  have pre0 : ∀ t, Steps p.tables e below (s₁.setTop (mkF m 0 #[iv (12 : Int32), .unset, .unset, .unset, .unset] [])) t → Steps p.tables e below (s₁.setTop (entryFrame m #[(.int (12 : Int32))] 5)) t := fun t k => castTop (ef_1_I m (12 : Int32)) k
  obtain ⟨_, _, ⟨T1, L1, k1, n1⟩, -, X1, ⟨Lc1, hQ1, l1, y1, z1⟩, st1⟩ := Jvm.LawKit.callS X0 hx (y := (⟨"com/example/stile/stile/Message$Type", "values", "()[Lcom/example/stile/stile/Message$Type;"⟩ : MethodName)) hown (mvT hZ (hw _ (List.mem_of_getElem? (i := 4) rfl))) (mvT hZ (hw _ (List.mem_of_getElem? (i := 5) rfl))) (mvT hZ (hw _ (List.mem_of_getElem? (i := 2) rfl))) (mvT hZ (hw _ (List.mem_of_getElem? (i := 6) rfl))) (by decide) (backOf (W := 0) (rm2_0 l Z a0 hw [] w_Type__VALUES w_Type_REQUEST w_Type_REPLY w_Type_HEARTBEAT w_Type_ELECTION w_Type_ANSWER w_Type_COORDINATOR w_Type_GRANT w_Type_RELEASE w_Type_HELD w_Type_REPORTED w_Type_LOCKED w_Type_INQUIRE w_Type_FAILED w_Type_RELINQUISH w_Type_TOKEN k_w_Type__VALUES h0 n0 Z0 S_Type__VALUES V_w_Type__VALUES E_w_Type__VALUES) hZ (hw _ (List.mem_of_getElem? (i := 6) rfl)) (hw _ (List.mem_of_getElem? (i := 2) rfl)) (by decide) (by decide)) (g := (mkF m 0 #[iv (12 : Int32), .unset, .unset, .unset, .unset] [])) rfl (by rw [hml]; rfl) (argsL := []) (rest := []) (lenOf pd_0 rfl) rfl (by show 2 * 0 + _ ≤ _; exact Nat.le_of_eq rfl) (hb hby d1_0) (fun _ _ => ⟨rfl, e0, (by decide : 0 + 1 ≤ _), (by decide : 0 + 15 ≤ _)⟩)
  dsimp only [Pt.U, Pt.locs, Pt.cells, Pt.slots] at X1 l1 y1 z1 st1 hQ1
  subst l1 y1 z1
  obtain ⟨b1_1_0, rfl, N1q, K1, gq_b1_1_0, le_b1_1_0, fq1_0, fq1_1⟩ := hQ1
  have sz_b1_1_0 : h0.size ≤ b1_1_0 := Nat.le_trans (Keep.refl h0 []).1 le_b1_1_0
  have KK1 : Keep h0 T1.heap [] := (Keep.refl h0 []).trans K1 all0
  have Z1 : n0 ≤ T1.heap.size := Nat.le_trans Z0 K1.1
  have N1 := Fr.app N0 N1q
  obtain ⟨cl2, Ar2, -, Sz2, Nn2, -, -⟩ := id fq1_0
  obtain ⟨cl3, Ar3, -, Sz3, Nn3, Hs3, Gs3⟩ := id fq1_0
  have hin3 : ¬ ((0 : Int32) < 0 ∨ cl3.slots.size ≤ ((0 : Int32)).toNatClampNeg) := inb_of Sz3 ⟨by decide, by decide⟩
  have c4 := (F_w_Type_REQUEST_code.keep K1 nin0)
  obtain ⟨T5, X5, e5, st5⟩ := getF X1 hx hZ hown (host := "") (Or.inl (hw _ (List.mem_of_getElem? (i := 34) rfl))) Via.refl rfl c4 (g := (mkF m 21 #[iv (12 : Int32), rv b1_1_0, iv (15 : Int32), iv (0 : Int32), rv w_Type_REQUEST] [(.ref w_Type_REQUEST)])) rfl rfl (hb hby d1_21)
  obtain ⟨cl6, Ar6, -, Sz6, Nn6, Hs6, Gs6⟩ := id fq1_0
  have hin6 : ¬ ((1 : Int32) < 0 ∨ cl6.slots.size ≤ ((1 : Int32)).toNatClampNeg) := inb_of Sz6 ⟨by decide, by decide⟩
  have c7 := (F_w_Type_REPLY_code.keep K1 nin0)
  obtain ⟨T8, X8, e8, st8⟩ := getF X5 hx hZ hown (host := "") (Or.inl (hw _ (List.mem_of_getElem? (i := 34) rfl))) Via.refl e5 c7 (g := (mkF m 21 #[iv (12 : Int32), rv b1_1_0, iv (15 : Int32), iv (1 : Int32), rv w_Type_REPLY] [(.ref w_Type_REPLY)])) rfl rfl (hb hby d1_21)
  obtain ⟨cl9, Ar9, -, Sz9, Nn9, Hs9, Gs9⟩ := id fq1_0
  have hin9 : ¬ ((2 : Int32) < 0 ∨ cl9.slots.size ≤ ((2 : Int32)).toNatClampNeg) := inb_of Sz9 ⟨by decide, by decide⟩
  have c10 := (F_w_Type_HEARTBEAT_code.keep K1 nin0)
  obtain ⟨T11, X11, e11, st11⟩ := getF X8 hx hZ hown (host := "") (Or.inl (hw _ (List.mem_of_getElem? (i := 34) rfl))) Via.refl e8 c10 (g := (mkF m 21 #[iv (12 : Int32), rv b1_1_0, iv (15 : Int32), iv (2 : Int32), rv w_Type_HEARTBEAT] [(.ref w_Type_HEARTBEAT)])) rfl rfl (hb hby d1_21)
  obtain ⟨cl12, Ar12, -, Sz12, Nn12, Hs12, Gs12⟩ := id fq1_0
  have hin12 : ¬ ((3 : Int32) < 0 ∨ cl12.slots.size ≤ ((3 : Int32)).toNatClampNeg) := inb_of Sz12 ⟨by decide, by decide⟩
  have c13 := (F_w_Type_ELECTION_code.keep K1 nin0)
  obtain ⟨T14, X14, e14, st14⟩ := getF X11 hx hZ hown (host := "") (Or.inl (hw _ (List.mem_of_getElem? (i := 34) rfl))) Via.refl e11 c13 (g := (mkF m 21 #[iv (12 : Int32), rv b1_1_0, iv (15 : Int32), iv (3 : Int32), rv w_Type_ELECTION] [(.ref w_Type_ELECTION)])) rfl rfl (hb hby d1_21)
  obtain ⟨cl15, Ar15, -, Sz15, Nn15, Hs15, Gs15⟩ := id fq1_0
  have hin15 : ¬ ((4 : Int32) < 0 ∨ cl15.slots.size ≤ ((4 : Int32)).toNatClampNeg) := inb_of Sz15 ⟨by decide, by decide⟩
  have c16 := (F_w_Type_ANSWER_code.keep K1 nin0)
  obtain ⟨T17, X17, e17, st17⟩ := getF X14 hx hZ hown (host := "") (Or.inl (hw _ (List.mem_of_getElem? (i := 34) rfl))) Via.refl e14 c16 (g := (mkF m 21 #[iv (12 : Int32), rv b1_1_0, iv (15 : Int32), iv (4 : Int32), rv w_Type_ANSWER] [(.ref w_Type_ANSWER)])) rfl rfl (hb hby d1_21)
  obtain ⟨cl18, Ar18, -, Sz18, Nn18, Hs18, Gs18⟩ := id fq1_0
  have hin18 : ¬ ((5 : Int32) < 0 ∨ cl18.slots.size ≤ ((5 : Int32)).toNatClampNeg) := inb_of Sz18 ⟨by decide, by decide⟩
  have c19 := (F_w_Type_COORDINATOR_code.keep K1 nin0)
  obtain ⟨T20, X20, e20, st20⟩ := getF X17 hx hZ hown (host := "") (Or.inl (hw _ (List.mem_of_getElem? (i := 34) rfl))) Via.refl e17 c19 (g := (mkF m 21 #[iv (12 : Int32), rv b1_1_0, iv (15 : Int32), iv (5 : Int32), rv w_Type_COORDINATOR] [(.ref w_Type_COORDINATOR)])) rfl rfl (hb hby d1_21)
  obtain ⟨cl21, Ar21, -, Sz21, Nn21, Hs21, Gs21⟩ := id fq1_0
  have hin21 : ¬ ((6 : Int32) < 0 ∨ cl21.slots.size ≤ ((6 : Int32)).toNatClampNeg) := inb_of Sz21 ⟨by decide, by decide⟩
  have c22 := (F_w_Type_GRANT_code.keep K1 nin0)
  obtain ⟨T23, X23, e23, st23⟩ := getF X20 hx hZ hown (host := "") (Or.inl (hw _ (List.mem_of_getElem? (i := 34) rfl))) Via.refl e20 c22 (g := (mkF m 21 #[iv (12 : Int32), rv b1_1_0, iv (15 : Int32), iv (6 : Int32), rv w_Type_GRANT] [(.ref w_Type_GRANT)])) rfl rfl (hb hby d1_21)
  obtain ⟨cl24, Ar24, -, Sz24, Nn24, Hs24, Gs24⟩ := id fq1_0
  have hin24 : ¬ ((7 : Int32) < 0 ∨ cl24.slots.size ≤ ((7 : Int32)).toNatClampNeg) := inb_of Sz24 ⟨by decide, by decide⟩
  have c25 := (F_w_Type_RELEASE_code.keep K1 nin0)
  obtain ⟨T26, X26, e26, st26⟩ := getF X23 hx hZ hown (host := "") (Or.inl (hw _ (List.mem_of_getElem? (i := 34) rfl))) Via.refl e23 c25 (g := (mkF m 21 #[iv (12 : Int32), rv b1_1_0, iv (15 : Int32), iv (7 : Int32), rv w_Type_RELEASE] [(.ref w_Type_RELEASE)])) rfl rfl (hb hby d1_21)
  obtain ⟨cl27, Ar27, -, Sz27, Nn27, Hs27, Gs27⟩ := id fq1_0
  have hin27 : ¬ ((8 : Int32) < 0 ∨ cl27.slots.size ≤ ((8 : Int32)).toNatClampNeg) := inb_of Sz27 ⟨by decide, by decide⟩
  have c28 := (F_w_Type_HELD_code.keep K1 nin0)
  obtain ⟨T29, X29, e29, st29⟩ := getF X26 hx hZ hown (host := "") (Or.inl (hw _ (List.mem_of_getElem? (i := 34) rfl))) Via.refl e26 c28 (g := (mkF m 21 #[iv (12 : Int32), rv b1_1_0, iv (15 : Int32), iv (8 : Int32), rv w_Type_HELD] [(.ref w_Type_HELD)])) rfl rfl (hb hby d1_21)
  obtain ⟨cl30, Ar30, -, Sz30, Nn30, Hs30, Gs30⟩ := id fq1_0
  have hin30 : ¬ ((9 : Int32) < 0 ∨ cl30.slots.size ≤ ((9 : Int32)).toNatClampNeg) := inb_of Sz30 ⟨by decide, by decide⟩
  have c31 := (F_w_Type_REPORTED_code.keep K1 nin0)
  obtain ⟨T32, X32, e32, st32⟩ := getF X29 hx hZ hown (host := "") (Or.inl (hw _ (List.mem_of_getElem? (i := 34) rfl))) Via.refl e29 c31 (g := (mkF m 21 #[iv (12 : Int32), rv b1_1_0, iv (15 : Int32), iv (9 : Int32), rv w_Type_REPORTED] [(.ref w_Type_REPORTED)])) rfl rfl (hb hby d1_21)
  obtain ⟨cl33, Ar33, -, Sz33, Nn33, Hs33, Gs33⟩ := id fq1_0
  have hin33 : ¬ ((10 : Int32) < 0 ∨ cl33.slots.size ≤ ((10 : Int32)).toNatClampNeg) := inb_of Sz33 ⟨by decide, by decide⟩
  have c34 := (F_w_Type_LOCKED_code.keep K1 nin0)
  obtain ⟨T35, X35, e35, st35⟩ := getF X32 hx hZ hown (host := "") (Or.inl (hw _ (List.mem_of_getElem? (i := 34) rfl))) Via.refl e32 c34 (g := (mkF m 21 #[iv (12 : Int32), rv b1_1_0, iv (15 : Int32), iv (10 : Int32), rv w_Type_LOCKED] [(.ref w_Type_LOCKED)])) rfl rfl (hb hby d1_21)
  obtain ⟨cl36, Ar36, -, Sz36, Nn36, Hs36, Gs36⟩ := id fq1_0
  have hin36 : ¬ ((11 : Int32) < 0 ∨ cl36.slots.size ≤ ((11 : Int32)).toNatClampNeg) := inb_of Sz36 ⟨by decide, by decide⟩
  have c37 := (F_w_Type_INQUIRE_code.keep K1 nin0)
  obtain ⟨T38, X38, e38, st38⟩ := getF X35 hx hZ hown (host := "") (Or.inl (hw _ (List.mem_of_getElem? (i := 34) rfl))) Via.refl e35 c37 (g := (mkF m 21 #[iv (12 : Int32), rv b1_1_0, iv (15 : Int32), iv (11 : Int32), rv w_Type_INQUIRE] [(.ref w_Type_INQUIRE)])) rfl rfl (hb hby d1_21)
  obtain ⟨fs, hr, hrun, hended, hW, hsame⟩ := X38.leave (v := (some (.ref w_Type_INQUIRE))) (fun h => by rw [Bd.returns] at h; cases h)
  refine ⟨_, _, pre0 _ ?_, hrun, hended, _, _, rfl, ?_, ⟨_, rfl⟩, hW, hsame.mono (by decide) (by decide)⟩
  · show Steps p.tables e below (s₁.setTop (mkF m 0 #[iv (12 : Int32), .unset, .unset, .unset, .unset] [])) _
    refine st1 _ ?_
    refine XS.astoreN X1.here hx rfl (hb hby d1_3) rfl rfl (l' := #[iv (12 : Int32), rv b1_1_0, .unset, .unset, .unset]) rfl ?_
    refine XS.aloadN X1.here hx rfl (hb hby d1_4) rfl rfl ?_
    refine X1.arraylength hx Ar2.1 (State.isArrayOf_alike hZ.alike Ar2.2.1) (g := (mkF m 5 #[iv (12 : Int32), rv b1_1_0, .unset, .unset, .unset] [(.ref b1_1_0)])) rfl rfl (hb hby d1_5) _ ?_
    rw [len_of Sz2 Nn2]
    refine XS.istoreN X1.here hx rfl (hb hby d1_6) rfl (l' := #[iv (12 : Int32), rv b1_1_0, iv (15 : Int32), .unset, .unset]) rfl ?_
    refine XS.iconst X1.here hx rfl (hb hby d1_7) ?_
    show Steps p.tables e below (T1.setTop (mkF m 8 #[iv (12 : Int32), rv b1_1_0, iv (15 : Int32), .unset, .unset] [(.int (0 : Int32))])) _
    refine XS.istoreN X1.here hx rfl (hb hby d1_8) rfl (l' := #[iv (12 : Int32), rv b1_1_0, iv (15 : Int32), iv (0 : Int32), .unset]) rfl ?_
    refine XS.iloadN X1.here hx rfl (hb hby d1_9) rfl ?_
    refine XS.iloadN X1.here hx rfl (hb hby d1_10) rfl ?_
    refine XS.icmpNo X1.here hx rfl (hb hby d1_11) rfl (tlt (by decide +kernel : (0 : Int32) < (15 : Int32))).2.1 ?_
    refine XS.aloadN X1.here hx rfl (hb hby d1_14) rfl rfl ?_
    refine XS.iloadN X1.here hx rfl (hb hby d1_15) rfl ?_
    show Steps p.tables e below (T1.setTop (mkF m 16 #[iv (12 : Int32), rv b1_1_0, iv (15 : Int32), iv (0 : Int32), .unset] [(.int (0 : Int32)), (.ref b1_1_0)])) _
    refine X1.aaload hx (j := (0 : Int32)) (v := (.ref w_Type_REQUEST)) Ar3.1 (State.isArrayOf_alike hZ.alike Ar3.2.1) rfl Ar3.2.2 hin3 (Hs3.at hin3 rfl) (g := (mkF m 16 #[iv (12 : Int32), rv b1_1_0, iv (15 : Int32), iv (0 : Int32), .unset] [(.int (0 : Int32)), (.ref b1_1_0)])) rfl rfl (hb hby d1_16) _ ?_
    refine XS.astore X1.here hx rfl (hb hby d1_17) rfl rfl (l' := #[iv (12 : Int32), rv b1_1_0, iv (15 : Int32), iv (0 : Int32), rv w_Type_REQUEST]) rfl ?_
    refine XS.aload X1.here hx rfl (hb hby d1_19) rfl rfl ?_
    refine st5 _ ?_
    refine XS.iloadN X5.here hx rfl (hb hby d1_24) rfl ?_
    refine XS.icmpYes X5.here hx rfl (pc0 := 25) (pc' := 31) rfl (hb hby d1_25) rfl (feq (by decide +kernel : ¬ ((1 : Int32) = (12 : Int32)))).2 (by decide) (by decide) ?_
    show Steps p.tables e below (T5.setTop (mkF m 31 #[iv (12 : Int32), rv b1_1_0, iv (15 : Int32), iv (0 : Int32), rv w_Type_REQUEST] [])) _
    refine XS.iinc X5.here hx rfl (hb hby d1_31) rfl (l' := #[iv (12 : Int32), rv b1_1_0, iv (15 : Int32), iv ((0 : Int32) + (1 : Int32)), rv w_Type_REQUEST]) rfl ?_
    show Steps p.tables e below (T5.setTop (mkF m 34 #[iv (12 : Int32), rv b1_1_0, iv (15 : Int32), iv ((0 : Int32) + (1 : Int32)), rv w_Type_REQUEST] [])) _
    rewrite [show ((0 : Int32) + (1 : Int32)) = (1 : Int32) from by decide +kernel]
    refine XS.goto X5.here hx rfl (pc0 := 34) (pc' := 9) rfl (hb hby d1_34) (by decide) (by decide) ?_
    refine XS.iloadN X5.here hx rfl (hb hby d1_9) rfl ?_
    refine XS.iloadN X5.here hx rfl (hb hby d1_10) rfl ?_
    refine XS.icmpNo X5.here hx rfl (hb hby d1_11) rfl (tlt (by decide +kernel : (1 : Int32) < (15 : Int32))).2.1 ?_
    refine XS.aloadN X5.here hx rfl (hb hby d1_14) rfl rfl ?_
    show Steps p.tables e below (T5.setTop (mkF m 15 #[iv (12 : Int32), rv b1_1_0, iv (15 : Int32), iv (1 : Int32), rv w_Type_REQUEST] [(.ref b1_1_0)])) _
    refine XS.iloadN X5.here hx rfl (hb hby d1_15) rfl ?_
    refine X5.aaload hx (j := (1 : Int32)) (v := (.ref w_Type_REPLY)) (by rw [e5]; exact Ar6.1) (State.isArrayOf_alike hZ.alike Ar6.2.1) rfl Ar6.2.2 hin6 (Hs6.at hin6 rfl) (g := (mkF m 16 #[iv (12 : Int32), rv b1_1_0, iv (15 : Int32), iv (1 : Int32), rv w_Type_REQUEST] [(.int (1 : Int32)), (.ref b1_1_0)])) rfl rfl (hb hby d1_16) _ ?_
    refine XS.astore X5.here hx rfl (hb hby d1_17) rfl rfl (l' := #[iv (12 : Int32), rv b1_1_0, iv (15 : Int32), iv (1 : Int32), rv w_Type_REPLY]) rfl ?_
    refine XS.aload X5.here hx rfl (hb hby d1_19) rfl rfl ?_
    refine st8 _ ?_
    refine XS.iloadN X8.here hx rfl (hb hby d1_24) rfl ?_
    show Steps p.tables e below (T8.setTop (mkF m 25 #[iv (12 : Int32), rv b1_1_0, iv (15 : Int32), iv (1 : Int32), rv w_Type_REPLY] [(.int (12 : Int32)), (.int (2 : Int32))])) _
    refine XS.icmpYes X8.here hx rfl (pc0 := 25) (pc' := 31) rfl (hb hby d1_25) rfl (feq (by decide +kernel : ¬ ((2 : Int32) = (12 : Int32)))).2 (by decide) (by decide) ?_
    refine XS.iinc X8.here hx rfl (hb hby d1_31) rfl (l' := #[iv (12 : Int32), rv b1_1_0, iv (15 : Int32), iv ((1 : Int32) + (1 : Int32)), rv w_Type_REPLY]) rfl ?_
    show Steps p.tables e below (T8.setTop (mkF m 34 #[iv (12 : Int32), rv b1_1_0, iv (15 : Int32), iv ((1 : Int32) + (1 : Int32)), rv w_Type_REPLY] [])) _
    rewrite [show ((1 : Int32) + (1 : Int32)) = (2 : Int32) from by decide +kernel]
    refine XS.goto X8.here hx rfl (pc0 := 34) (pc' := 9) rfl (hb hby d1_34) (by decide) (by decide) ?_
    refine XS.iloadN X8.here hx rfl (hb hby d1_9) rfl ?_
    refine XS.iloadN X8.here hx rfl (hb hby d1_10) rfl ?_
    refine XS.icmpNo X8.here hx rfl (hb hby d1_11) rfl (tlt (by decide +kernel : (2 : Int32) < (15 : Int32))).2.1 ?_
    show Steps p.tables e below (T8.setTop (mkF m 14 #[iv (12 : Int32), rv b1_1_0, iv (15 : Int32), iv (2 : Int32), rv w_Type_REPLY] [])) _
    refine XS.aloadN X8.here hx rfl (hb hby d1_14) rfl rfl ?_
    refine XS.iloadN X8.here hx rfl (hb hby d1_15) rfl ?_
    refine X8.aaload hx (j := (2 : Int32)) (v := (.ref w_Type_HEARTBEAT)) (by rw [e8]; exact Ar9.1) (State.isArrayOf_alike hZ.alike Ar9.2.1) rfl Ar9.2.2 hin9 (Hs9.at hin9 rfl) (g := (mkF m 16 #[iv (12 : Int32), rv b1_1_0, iv (15 : Int32), iv (2 : Int32), rv w_Type_REPLY] [(.int (2 : Int32)), (.ref b1_1_0)])) rfl rfl (hb hby d1_16) _ ?_
    refine XS.astore X8.here hx rfl (hb hby d1_17) rfl rfl (l' := #[iv (12 : Int32), rv b1_1_0, iv (15 : Int32), iv (2 : Int32), rv w_Type_HEARTBEAT]) rfl ?_
    refine XS.aload X8.here hx rfl (hb hby d1_19) rfl rfl ?_
    refine st11 _ ?_
    show Steps p.tables e below (T11.setTop (mkF m 24 #[iv (12 : Int32), rv b1_1_0, iv (15 : Int32), iv (2 : Int32), rv w_Type_HEARTBEAT] [(.int (3 : Int32))])) _
    refine XS.iloadN X11.here hx rfl (hb hby d1_24) rfl ?_
    refine XS.icmpYes X11.here hx rfl (pc0 := 25) (pc' := 31) rfl (hb hby d1_25) rfl (feq (by decide +kernel : ¬ ((3 : Int32) = (12 : Int32)))).2 (by decide) (by decide) ?_
    refine XS.iinc X11.here hx rfl (hb hby d1_31) rfl (l' := #[iv (12 : Int32), rv b1_1_0, iv (15 : Int32), iv ((2 : Int32) + (1 : Int32)), rv w_Type_HEARTBEAT]) rfl ?_
    show Steps p.tables e below (T11.setTop (mkF m 34 #[iv (12 : Int32), rv b1_1_0, iv (15 : Int32), iv ((2 : Int32) + (1 : Int32)), rv w_Type_HEARTBEAT] [])) _
    rewrite [show ((2 : Int32) + (1 : Int32)) = (3 : Int32) from by decide +kernel]
    refine XS.goto X11.here hx rfl (pc0 := 34) (pc' := 9) rfl (hb hby d1_34) (by decide) (by decide) ?_
    refine XS.iloadN X11.here hx rfl (hb hby d1_9) rfl ?_
    refine XS.iloadN X11.here hx rfl (hb hby d1_10) rfl ?_
    show Steps p.tables e below (T11.setTop (mkF m 11 #[iv (12 : Int32), rv b1_1_0, iv (15 : Int32), iv (3 : Int32), rv w_Type_HEARTBEAT] [(.int (15 : Int32)), (.int (3 : Int32))])) _
    refine XS.icmpNo X11.here hx rfl (hb hby d1_11) rfl (tlt (by decide +kernel : (3 : Int32) < (15 : Int32))).2.1 ?_
    refine XS.aloadN X11.here hx rfl (hb hby d1_14) rfl rfl ?_
    refine XS.iloadN X11.here hx rfl (hb hby d1_15) rfl ?_
    refine X11.aaload hx (j := (3 : Int32)) (v := (.ref w_Type_ELECTION)) (by rw [e11]; exact Ar12.1) (State.isArrayOf_alike hZ.alike Ar12.2.1) rfl Ar12.2.2 hin12 (Hs12.at hin12 rfl) (g := (mkF m 16 #[iv (12 : Int32), rv b1_1_0, iv (15 : Int32), iv (3 : Int32), rv w_Type_HEARTBEAT] [(.int (3 : Int32)), (.ref b1_1_0)])) rfl rfl (hb hby d1_16) _ ?_
    refine XS.astore X11.here hx rfl (hb hby d1_17) rfl rfl (l' := #[iv (12 : Int32), rv b1_1_0, iv (15 : Int32), iv (3 : Int32), rv w_Type_ELECTION]) rfl ?_
    refine XS.aload X11.here hx rfl (hb hby d1_19) rfl rfl ?_
    show Steps p.tables e below (T11.setTop (mkF m 21 #[iv (12 : Int32), rv b1_1_0, iv (15 : Int32), iv (3 : Int32), rv w_Type_ELECTION] [(.ref w_Type_ELECTION)])) _
    refine st14 _ ?_
    refine XS.iloadN X14.here hx rfl (hb hby d1_24) rfl ?_
    refine XS.icmpYes X14.here hx rfl (pc0 := 25) (pc' := 31) rfl (hb hby d1_25) rfl (feq (by decide +kernel : ¬ ((4 : Int32) = (12 : Int32)))).2 (by decide) (by decide) ?_
    refine XS.iinc X14.here hx rfl (hb hby d1_31) rfl (l' := #[iv (12 : Int32), rv b1_1_0, iv (15 : Int32), iv ((3 : Int32) + (1 : Int32)), rv w_Type_ELECTION]) rfl ?_
    show Steps p.tables e below (T14.setTop (mkF m 34 #[iv (12 : Int32), rv b1_1_0, iv (15 : Int32), iv ((3 : Int32) + (1 : Int32)), rv w_Type_ELECTION] [])) _
    rewrite [show ((3 : Int32) + (1 : Int32)) = (4 : Int32) from by decide +kernel]
    refine XS.goto X14.here hx rfl (pc0 := 34) (pc' := 9) rfl (hb hby d1_34) (by decide) (by decide) ?_
    refine XS.iloadN X14.here hx rfl (hb hby d1_9) rfl ?_
    show Steps p.tables e below (T14.setTop (mkF m 10 #[iv (12 : Int32), rv b1_1_0, iv (15 : Int32), iv (4 : Int32), rv w_Type_ELECTION] [(.int (4 : Int32))])) _
    refine XS.iloadN X14.here hx rfl (hb hby d1_10) rfl ?_
    refine XS.icmpNo X14.here hx rfl (hb hby d1_11) rfl (tlt (by decide +kernel : (4 : Int32) < (15 : Int32))).2.1 ?_
    refine XS.aloadN X14.here hx rfl (hb hby d1_14) rfl rfl ?_
    refine XS.iloadN X14.here hx rfl (hb hby d1_15) rfl ?_
    refine X14.aaload hx (j := (4 : Int32)) (v := (.ref w_Type_ANSWER)) (by rw [e14]; exact Ar15.1) (State.isArrayOf_alike hZ.alike Ar15.2.1) rfl Ar15.2.2 hin15 (Hs15.at hin15 rfl) (g := (mkF m 16 #[iv (12 : Int32), rv b1_1_0, iv (15 : Int32), iv (4 : Int32), rv w_Type_ELECTION] [(.int (4 : Int32)), (.ref b1_1_0)])) rfl rfl (hb hby d1_16) _ ?_
    refine XS.astore X14.here hx rfl (hb hby d1_17) rfl rfl (l' := #[iv (12 : Int32), rv b1_1_0, iv (15 : Int32), iv (4 : Int32), rv w_Type_ANSWER]) rfl ?_
    show Steps p.tables e below (T14.setTop (mkF m 19 #[iv (12 : Int32), rv b1_1_0, iv (15 : Int32), iv (4 : Int32), rv w_Type_ANSWER] [])) _
    refine XS.aload X14.here hx rfl (hb hby d1_19) rfl rfl ?_
    refine st17 _ ?_
    refine XS.iloadN X17.here hx rfl (hb hby d1_24) rfl ?_
    refine XS.icmpYes X17.here hx rfl (pc0 := 25) (pc' := 31) rfl (hb hby d1_25) rfl (feq (by decide +kernel : ¬ ((5 : Int32) = (12 : Int32)))).2 (by decide) (by decide) ?_
    refine XS.iinc X17.here hx rfl (hb hby d1_31) rfl (l' := #[iv (12 : Int32), rv b1_1_0, iv (15 : Int32), iv ((4 : Int32) + (1 : Int32)), rv w_Type_ANSWER]) rfl ?_
    show Steps p.tables e below (T17.setTop (mkF m 34 #[iv (12 : Int32), rv b1_1_0, iv (15 : Int32), iv ((4 : Int32) + (1 : Int32)), rv w_Type_ANSWER] [])) _
    rewrite [show ((4 : Int32) + (1 : Int32)) = (5 : Int32) from by decide +kernel]
    refine XS.goto X17.here hx rfl (pc0 := 34) (pc' := 9) rfl (hb hby d1_34) (by decide) (by decide) ?_
    show Steps p.tables e below (T17.setTop (mkF m 9 #[iv (12 : Int32), rv b1_1_0, iv (15 : Int32), iv (5 : Int32), rv w_Type_ANSWER] [])) _
    refine XS.iloadN X17.here hx rfl (hb hby d1_9) rfl ?_
    refine XS.iloadN X17.here hx rfl (hb hby d1_10) rfl ?_
    refine XS.icmpNo X17.here hx rfl (hb hby d1_11) rfl (tlt (by decide +kernel : (5 : Int32) < (15 : Int32))).2.1 ?_
    refine XS.aloadN X17.here hx rfl (hb hby d1_14) rfl rfl ?_
    refine XS.iloadN X17.here hx rfl (hb hby d1_15) rfl ?_
    refine X17.aaload hx (j := (5 : Int32)) (v := (.ref w_Type_COORDINATOR)) (by rw [e17]; exact Ar18.1) (State.isArrayOf_alike hZ.alike Ar18.2.1) rfl Ar18.2.2 hin18 (Hs18.at hin18 rfl) (g := (mkF m 16 #[iv (12 : Int32), rv b1_1_0, iv (15 : Int32), iv (5 : Int32), rv w_Type_ANSWER] [(.int (5 : Int32)), (.ref b1_1_0)])) rfl rfl (hb hby d1_16) _ ?_
    show Steps p.tables e below (T17.setTop (mkF m 17 #[iv (12 : Int32), rv b1_1_0, iv (15 : Int32), iv (5 : Int32), rv w_Type_ANSWER] [(.ref w_Type_COORDINATOR)])) _
    refine XS.astore X17.here hx rfl (hb hby d1_17) rfl rfl (l' := #[iv (12 : Int32), rv b1_1_0, iv (15 : Int32), iv (5 : Int32), rv w_Type_COORDINATOR]) rfl ?_
    refine XS.aload X17.here hx rfl (hb hby d1_19) rfl rfl ?_
    refine st20 _ ?_
    refine XS.iloadN X20.here hx rfl (hb hby d1_24) rfl ?_
    refine XS.icmpYes X20.here hx rfl (pc0 := 25) (pc' := 31) rfl (hb hby d1_25) rfl (feq (by decide +kernel : ¬ ((6 : Int32) = (12 : Int32)))).2 (by decide) (by decide) ?_
    refine XS.iinc X20.here hx rfl (hb hby d1_31) rfl (l' := #[iv (12 : Int32), rv b1_1_0, iv (15 : Int32), iv ((5 : Int32) + (1 : Int32)), rv w_Type_COORDINATOR]) rfl ?_
    show Steps p.tables e below (T20.setTop (mkF m 34 #[iv (12 : Int32), rv b1_1_0, iv (15 : Int32), iv ((5 : Int32) + (1 : Int32)), rv w_Type_COORDINATOR] [])) _
    rewrite [show ((5 : Int32) + (1 : Int32)) = (6 : Int32) from by decide +kernel]
    show Steps p.tables e below (T20.setTop (mkF m 34 #[iv (12 : Int32), rv b1_1_0, iv (15 : Int32), iv (6 : Int32), rv w_Type_COORDINATOR] [])) _
    refine XS.goto X20.here hx rfl (pc0 := 34) (pc' := 9) rfl (hb hby d1_34) (by decide) (by decide) ?_
    refine XS.iloadN X20.here hx rfl (hb hby d1_9) rfl ?_
    refine XS.iloadN X20.here hx rfl (hb hby d1_10) rfl ?_
    refine XS.icmpNo X20.here hx rfl (hb hby d1_11) rfl (tlt (by decide +kernel : (6 : Int32) < (15 : Int32))).2.1 ?_
    refine XS.aloadN X20.here hx rfl (hb hby d1_14) rfl rfl ?_
    refine XS.iloadN X20.here hx rfl (hb hby d1_15) rfl ?_
    show Steps p.tables e below (T20.setTop (mkF m 16 #[iv (12 : Int32), rv b1_1_0, iv (15 : Int32), iv (6 : Int32), rv w_Type_COORDINATOR] [(.int (6 : Int32)), (.ref b1_1_0)])) _
    refine X20.aaload hx (j := (6 : Int32)) (v := (.ref w_Type_GRANT)) (by rw [e20]; exact Ar21.1) (State.isArrayOf_alike hZ.alike Ar21.2.1) rfl Ar21.2.2 hin21 (Hs21.at hin21 rfl) (g := (mkF m 16 #[iv (12 : Int32), rv b1_1_0, iv (15 : Int32), iv (6 : Int32), rv w_Type_COORDINATOR] [(.int (6 : Int32)), (.ref b1_1_0)])) rfl rfl (hb hby d1_16) _ ?_
    refine XS.astore X20.here hx rfl (hb hby d1_17) rfl rfl (l' := #[iv (12 : Int32), rv b1_1_0, iv (15 : Int32), iv (6 : Int32), rv w_Type_GRANT]) rfl ?_
    refine XS.aload X20.here hx rfl (hb hby d1_19) rfl rfl ?_
    refine st23 _ ?_
    refine XS.iloadN X23.here hx rfl (hb hby d1_24) rfl ?_
    refine XS.icmpYes X23.here hx rfl (pc0 := 25) (pc' := 31) rfl (hb hby d1_25) rfl (feq (by decide +kernel : ¬ ((7 : Int32) = (12 : Int32)))).2 (by decide) (by decide) ?_
    show Steps p.tables e below (T23.setTop (mkF m 31 #[iv (12 : Int32), rv b1_1_0, iv (15 : Int32), iv (6 : Int32), rv w_Type_GRANT] [])) _
    refine XS.iinc X23.here hx rfl (hb hby d1_31) rfl (l' := #[iv (12 : Int32), rv b1_1_0, iv (15 : Int32), iv ((6 : Int32) + (1 : Int32)), rv w_Type_GRANT]) rfl ?_
    show Steps p.tables e below (T23.setTop (mkF m 34 #[iv (12 : Int32), rv b1_1_0, iv (15 : Int32), iv ((6 : Int32) + (1 : Int32)), rv w_Type_GRANT] [])) _
    rewrite [show ((6 : Int32) + (1 : Int32)) = (7 : Int32) from by decide +kernel]
    refine XS.goto X23.here hx rfl (pc0 := 34) (pc' := 9) rfl (hb hby d1_34) (by decide) (by decide) ?_
    refine XS.iloadN X23.here hx rfl (hb hby d1_9) rfl ?_
    refine XS.iloadN X23.here hx rfl (hb hby d1_10) rfl ?_
    refine XS.icmpNo X23.here hx rfl (hb hby d1_11) rfl (tlt (by decide +kernel : (7 : Int32) < (15 : Int32))).2.1 ?_
    refine XS.aloadN X23.here hx rfl (hb hby d1_14) rfl rfl ?_
    show Steps p.tables e below (T23.setTop (mkF m 15 #[iv (12 : Int32), rv b1_1_0, iv (15 : Int32), iv (7 : Int32), rv w_Type_GRANT] [(.ref b1_1_0)])) _
    refine XS.iloadN X23.here hx rfl (hb hby d1_15) rfl ?_
    refine X23.aaload hx (j := (7 : Int32)) (v := (.ref w_Type_RELEASE)) (by rw [e23]; exact Ar24.1) (State.isArrayOf_alike hZ.alike Ar24.2.1) rfl Ar24.2.2 hin24 (Hs24.at hin24 rfl) (g := (mkF m 16 #[iv (12 : Int32), rv b1_1_0, iv (15 : Int32), iv (7 : Int32), rv w_Type_GRANT] [(.int (7 : Int32)), (.ref b1_1_0)])) rfl rfl (hb hby d1_16) _ ?_
    refine XS.astore X23.here hx rfl (hb hby d1_17) rfl rfl (l' := #[iv (12 : Int32), rv b1_1_0, iv (15 : Int32), iv (7 : Int32), rv w_Type_RELEASE]) rfl ?_
    refine XS.aload X23.here hx rfl (hb hby d1_19) rfl rfl ?_
    refine st26 _ ?_
    refine XS.iloadN X26.here hx rfl (hb hby d1_24) rfl ?_
    show Steps p.tables e below (T26.setTop (mkF m 25 #[iv (12 : Int32), rv b1_1_0, iv (15 : Int32), iv (7 : Int32), rv w_Type_RELEASE] [(.int (12 : Int32)), (.int (8 : Int32))])) _
    refine XS.icmpYes X26.here hx rfl (pc0 := 25) (pc' := 31) rfl (hb hby d1_25) rfl (feq (by decide +kernel : ¬ ((8 : Int32) = (12 : Int32)))).2 (by decide) (by decide) ?_
    refine XS.iinc X26.here hx rfl (hb hby d1_31) rfl (l' := #[iv (12 : Int32), rv b1_1_0, iv (15 : Int32), iv ((7 : Int32) + (1 : Int32)), rv w_Type_RELEASE]) rfl ?_
    show Steps p.tables e below (T26.setTop (mkF m 34 #[iv (12 : Int32), rv b1_1_0, iv (15 : Int32), iv ((7 : Int32) + (1 : Int32)), rv w_Type_RELEASE] [])) _
    rewrite [show ((7 : Int32) + (1 : Int32)) = (8 : Int32) from by decide +kernel]
    refine XS.goto X26.here hx rfl (pc0 := 34) (pc' := 9) rfl (hb hby d1_34) (by decide) (by decide) ?_
    refine XS.iloadN X26.here hx rfl (hb hby d1_9) rfl ?_
    refine XS.iloadN X26.here hx rfl (hb hby d1_10) rfl ?_
    refine XS.icmpNo X26.here hx rfl (hb hby d1_11) rfl (tlt (by decide +kernel : (8 : Int32) < (15 : Int32))).2.1 ?_
    show Steps p.tables e below (T26.setTop (mkF m 14 #[iv (12 : Int32), rv b1_1_0, iv (15 : Int32), iv (8 : Int32), rv w_Type_RELEASE] [])) _
    refine XS.aloadN X26.here hx rfl (hb hby d1_14) rfl rfl ?_
    refine XS.iloadN X26.here hx rfl (hb hby d1_15) rfl ?_
    refine X26.aaload hx (j := (8 : Int32)) (v := (.ref w_Type_HELD)) (by rw [e26]; exact Ar27.1) (State.isArrayOf_alike hZ.alike Ar27.2.1) rfl Ar27.2.2 hin27 (Hs27.at hin27 rfl) (g := (mkF m 16 #[iv (12 : Int32), rv b1_1_0, iv (15 : Int32), iv (8 : Int32), rv w_Type_RELEASE] [(.int (8 : Int32)), (.ref b1_1_0)])) rfl rfl (hb hby d1_16) _ ?_
    refine XS.astore X26.here hx rfl (hb hby d1_17) rfl rfl (l' := #[iv (12 : Int32), rv b1_1_0, iv (15 : Int32), iv (8 : Int32), rv w_Type_HELD]) rfl ?_
    refine XS.aload X26.here hx rfl (hb hby d1_19) rfl rfl ?_
    refine st29 _ ?_
    show Steps p.tables e below (T29.setTop (mkF m 24 #[iv (12 : Int32), rv b1_1_0, iv (15 : Int32), iv (8 : Int32), rv w_Type_HELD] [(.int (9 : Int32))])) _
    refine XS.iloadN X29.here hx rfl (hb hby d1_24) rfl ?_
    refine XS.icmpYes X29.here hx rfl (pc0 := 25) (pc' := 31) rfl (hb hby d1_25) rfl (feq (by decide +kernel : ¬ ((9 : Int32) = (12 : Int32)))).2 (by decide) (by decide) ?_
    refine XS.iinc X29.here hx rfl (hb hby d1_31) rfl (l' := #[iv (12 : Int32), rv b1_1_0, iv (15 : Int32), iv ((8 : Int32) + (1 : Int32)), rv w_Type_HELD]) rfl ?_
    show Steps p.tables e below (T29.setTop (mkF m 34 #[iv (12 : Int32), rv b1_1_0, iv (15 : Int32), iv ((8 : Int32) + (1 : Int32)), rv w_Type_HELD] [])) _
    rewrite [show ((8 : Int32) + (1 : Int32)) = (9 : Int32) from by decide +kernel]
    refine XS.goto X29.here hx rfl (pc0 := 34) (pc' := 9) rfl (hb hby d1_34) (by decide) (by decide) ?_
    refine XS.iloadN X29.here hx rfl (hb hby d1_9) rfl ?_
    refine XS.iloadN X29.here hx rfl (hb hby d1_10) rfl ?_
    show Steps p.tables e below (T29.setTop (mkF m 11 #[iv (12 : Int32), rv b1_1_0, iv (15 : Int32), iv (9 : Int32), rv w_Type_HELD] [(.int (15 : Int32)), (.int (9 : Int32))])) _
    refine XS.icmpNo X29.here hx rfl (hb hby d1_11) rfl (tlt (by decide +kernel : (9 : Int32) < (15 : Int32))).2.1 ?_
    refine XS.aloadN X29.here hx rfl (hb hby d1_14) rfl rfl ?_
    refine XS.iloadN X29.here hx rfl (hb hby d1_15) rfl ?_
    refine X29.aaload hx (j := (9 : Int32)) (v := (.ref w_Type_REPORTED)) (by rw [e29]; exact Ar30.1) (State.isArrayOf_alike hZ.alike Ar30.2.1) rfl Ar30.2.2 hin30 (Hs30.at hin30 rfl) (g := (mkF m 16 #[iv (12 : Int32), rv b1_1_0, iv (15 : Int32), iv (9 : Int32), rv w_Type_HELD] [(.int (9 : Int32)), (.ref b1_1_0)])) rfl rfl (hb hby d1_16) _ ?_
    refine XS.astore X29.here hx rfl (hb hby d1_17) rfl rfl (l' := #[iv (12 : Int32), rv b1_1_0, iv (15 : Int32), iv (9 : Int32), rv w_Type_REPORTED]) rfl ?_
    refine XS.aload X29.here hx rfl (hb hby d1_19) rfl rfl ?_
    show Steps p.tables e below (T29.setTop (mkF m 21 #[iv (12 : Int32), rv b1_1_0, iv (15 : Int32), iv (9 : Int32), rv w_Type_REPORTED] [(.ref w_Type_REPORTED)])) _
    refine st32 _ ?_
    refine XS.iloadN X32.here hx rfl (hb hby d1_24) rfl ?_
    refine XS.icmpYes X32.here hx rfl (pc0 := 25) (pc' := 31) rfl (hb hby d1_25) rfl (feq (by decide +kernel : ¬ ((10 : Int32) = (12 : Int32)))).2 (by decide) (by decide) ?_
    refine XS.iinc X32.here hx rfl (hb hby d1_31) rfl (l' := #[iv (12 : Int32), rv b1_1_0, iv (15 : Int32), iv ((9 : Int32) + (1 : Int32)), rv w_Type_REPORTED]) rfl ?_
    show Steps p.tables e below (T32.setTop (mkF m 34 #[iv (12 : Int32), rv b1_1_0, iv (15 : Int32), iv ((9 : Int32) + (1 : Int32)), rv w_Type_REPORTED] [])) _
    rewrite [show ((9 : Int32) + (1 : Int32)) = (10 : Int32) from by decide +kernel]
    refine XS.goto X32.here hx rfl (pc0 := 34) (pc' := 9) rfl (hb hby d1_34) (by decide) (by decide) ?_
    refine XS.iloadN X32.here hx rfl (hb hby d1_9) rfl ?_
    show Steps p.tables e below (T32.setTop (mkF m 10 #[iv (12 : Int32), rv b1_1_0, iv (15 : Int32), iv (10 : Int32), rv w_Type_REPORTED] [(.int (10 : Int32))])) _
    refine XS.iloadN X32.here hx rfl (hb hby d1_10) rfl ?_
    refine XS.icmpNo X32.here hx rfl (hb hby d1_11) rfl (tlt (by decide +kernel : (10 : Int32) < (15 : Int32))).2.1 ?_
    refine XS.aloadN X32.here hx rfl (hb hby d1_14) rfl rfl ?_
    refine XS.iloadN X32.here hx rfl (hb hby d1_15) rfl ?_
    refine X32.aaload hx (j := (10 : Int32)) (v := (.ref w_Type_LOCKED)) (by rw [e32]; exact Ar33.1) (State.isArrayOf_alike hZ.alike Ar33.2.1) rfl Ar33.2.2 hin33 (Hs33.at hin33 rfl) (g := (mkF m 16 #[iv (12 : Int32), rv b1_1_0, iv (15 : Int32), iv (10 : Int32), rv w_Type_REPORTED] [(.int (10 : Int32)), (.ref b1_1_0)])) rfl rfl (hb hby d1_16) _ ?_
    refine XS.astore X32.here hx rfl (hb hby d1_17) rfl rfl (l' := #[iv (12 : Int32), rv b1_1_0, iv (15 : Int32), iv (10 : Int32), rv w_Type_LOCKED]) rfl ?_
    show Steps p.tables e below (T32.setTop (mkF m 19 #[iv (12 : Int32), rv b1_1_0, iv (15 : Int32), iv (10 : Int32), rv w_Type_LOCKED] [])) _
    refine XS.aload X32.here hx rfl (hb hby d1_19) rfl rfl ?_
    refine st35 _ ?_
    refine XS.iloadN X35.here hx rfl (hb hby d1_24) rfl ?_
    refine XS.icmpYes X35.here hx rfl (pc0 := 25) (pc' := 31) rfl (hb hby d1_25) rfl (feq (by decide +kernel : ¬ ((11 : Int32) = (12 : Int32)))).2 (by decide) (by decide) ?_
    refine XS.iinc X35.here hx rfl (hb hby d1_31) rfl (l' := #[iv (12 : Int32), rv b1_1_0, iv (15 : Int32), iv ((10 : Int32) + (1 : Int32)), rv w_Type_LOCKED]) rfl ?_
    show Steps p.tables e below (T35.setTop (mkF m 34 #[iv (12 : Int32), rv b1_1_0, iv (15 : Int32), iv ((10 : Int32) + (1 : Int32)), rv w_Type_LOCKED] [])) _
    rewrite [show ((10 : Int32) + (1 : Int32)) = (11 : Int32) from by decide +kernel]
    refine XS.goto X35.here hx rfl (pc0 := 34) (pc' := 9) rfl (hb hby d1_34) (by decide) (by decide) ?_
    show Steps p.tables e below (T35.setTop (mkF m 9 #[iv (12 : Int32), rv b1_1_0, iv (15 : Int32), iv (11 : Int32), rv w_Type_LOCKED] [])) _
    refine XS.iloadN X35.here hx rfl (hb hby d1_9) rfl ?_
    refine XS.iloadN X35.here hx rfl (hb hby d1_10) rfl ?_
    refine XS.icmpNo X35.here hx rfl (hb hby d1_11) rfl (tlt (by decide +kernel : (11 : Int32) < (15 : Int32))).2.1 ?_
    refine XS.aloadN X35.here hx rfl (hb hby d1_14) rfl rfl ?_
    refine XS.iloadN X35.here hx rfl (hb hby d1_15) rfl ?_
    refine X35.aaload hx (j := (11 : Int32)) (v := (.ref w_Type_INQUIRE)) (by rw [e35]; exact Ar36.1) (State.isArrayOf_alike hZ.alike Ar36.2.1) rfl Ar36.2.2 hin36 (Hs36.at hin36 rfl) (g := (mkF m 16 #[iv (12 : Int32), rv b1_1_0, iv (15 : Int32), iv (11 : Int32), rv w_Type_LOCKED] [(.int (11 : Int32)), (.ref b1_1_0)])) rfl rfl (hb hby d1_16) _ ?_
    show Steps p.tables e below (T35.setTop (mkF m 17 #[iv (12 : Int32), rv b1_1_0, iv (15 : Int32), iv (11 : Int32), rv w_Type_LOCKED] [(.ref w_Type_INQUIRE)])) _
    refine XS.astore X35.here hx rfl (hb hby d1_17) rfl rfl (l' := #[iv (12 : Int32), rv b1_1_0, iv (15 : Int32), iv (11 : Int32), rv w_Type_INQUIRE]) rfl ?_
    refine XS.aload X35.here hx rfl (hb hby d1_19) rfl rfl ?_
    refine st38 _ ?_
    refine XS.iloadN X38.here hx rfl (hb hby d1_24) rfl ?_
    refine XS.icmpNo X38.here hx rfl (hb hby d1_25) rfl (teq (by decide +kernel : (12 : Int32) = (12 : Int32))).2 ?_
    refine XS.aload X38.here hx rfl (hb hby d1_28) rfl rfl ?_
    show Steps p.tables e below (T38.setTop (mkF m 30 #[iv (12 : Int32), rv b1_1_0, iv (15 : Int32), iv (11 : Int32), rv w_Type_INQUIRE] [(.ref w_Type_INQUIRE)])) _
    exact own_retA X38 hx Bd.returns rfl rfl (hb hby d1_30) hr
  · exact (by show Q_rk_found_11 Z w_Type_INQUIRE h0 n0 _ T38.heap _; rw [e38]; exact ⟨rfl, N1, KK1⟩)
def Q_rk_found_12 (Z : State) (w_Type_FAILED : Addr) (h0 : Heap) (n0 : Nat) (v : Option Value) (h : Heap) (L : List Loc) : Prop := (v = (some (.ref w_Type_FAILED))) ∧ (Fr n0 L) ∧ (Keep h0 h [])
set_option maxRecDepth 65536 in
set_option maxHeartbeats 40000000 in
theorem rk_found_12 (l : Launch) (Z : State) (a0 : Array Value) (hw : ∀ d ∈ tables_1, d.before a0 Z = true) (ws : List Jvm.Cond) (w_Type__VALUES : Addr) (w_Type_REQUEST : Addr) (w_Type_REPLY : Addr) (w_Type_HEARTBEAT : Addr) (w_Type_ELECTION : Addr) (w_Type_ANSWER : Addr) (w_Type_COORDINATOR : Addr) (w_Type_GRANT : Addr) (w_Type_RELEASE : Addr) (w_Type_HELD : Addr) (w_Type_REPORTED : Addr) (w_Type_LOCKED : Addr) (w_Type_INQUIRE : Addr) (w_Type_FAILED : Addr) (w_Type_RELINQUISH : Addr) (w_Type_TOKEN : Addr) (k_w_Type__VALUES : ClassId) (h0 : Heap) (n0 : Nat) (Z0 : n0 ≤ h0.size) (S_Type__VALUES : Sta Z h0 "com/example/stile/stile/Message$Type" "$VALUES" "[Lcom/example/stile/stile/Message$Type;" (.ref w_Type__VALUES)) (V_w_Type__VALUES : Arv Z h0 w_Type__VALUES k_w_Type__VALUES (.object "com/example/stile/stile/Message$Type") (15 : Int32) [(.ref w_Type_REQUEST), (.ref w_Type_REPLY), (.ref w_Type_HEARTBEAT), (.ref w_Type_ELECTION), (.ref w_Type_ANSWER), (.ref w_Type_COORDINATOR), (.ref w_Type_GRANT), (.ref w_Type_RELEASE), (.ref w_Type_HELD), (.ref w_Type_REPORTED), (.ref w_Type_LOCKED), (.ref w_Type_INQUIRE), (.ref w_Type_FAILED), (.ref w_Type_RELINQUISH), (.ref w_Type_TOKEN)] .null) (E_w_Type__VALUES : Exa Z h0 w_Type__VALUES "[Lcom/example/stile/stile/Message$Type;") (F_w_Type_REQUEST_code : Fld Z h0 w_Type_REQUEST "com/example/stile/stile/Message$Type" "code" "I" (.int (1 : Int32))) (F_w_Type_REPLY_code : Fld Z h0 w_Type_REPLY "com/example/stile/stile/Message$Type" "code" "I" (.int (2 : Int32))) (F_w_Type_HEARTBEAT_code : Fld Z h0 w_Type_HEARTBEAT "com/example/stile/stile/Message$Type" "code" "I" (.int (3 : Int32))) (F_w_Type_ELECTION_code : Fld Z h0 w_Type_ELECTION "com/example/stile/stile/Message$Type" "code" "I" (.int (4 : Int32))) (F_w_Type_ANSWER_code : Fld Z h0 w_Type_ANSWER "com/example/stile/stile/Message$Type" "code" "I" (.int (5 : Int32))) (F_w_Type_COORDINATOR_code : Fld Z h0 w_Type_COORDINATOR "com/example/stile/stile/Message$Type" "code" "I" (.int (6 : Int32))) (F_w_Type_GRANT_code : Fld Z h0 w_Type_GRANT "com/example/stile/stile/Message$Type" "code" "I" (.int (7 : Int32))) (F_w_Type_RELEASE_code : Fld Z h0 w_Type_RELEASE "com/example/stile/stile/Message$Type" "code" "I" (.int (8 : Int32))) (F_w_Type_HELD_code : Fld Z h0 w_Type_HELD "com/example/stile/stile/Message$Type" "code" "I" (.int (9 : Int32))) (F_w_Type_REPORTED_code : Fld Z h0 w_Type_REPORTED "com/example/stile/stile/Message$Type" "code" "I" (.int (10 : Int32))) (F_w_Type_LOCKED_code : Fld Z h0 w_Type_LOCKED "com/example/stile/stile/Message$Type" "code" "I" (.int (11 : Int32))) (F_w_Type_INQUIRE_code : Fld Z h0 w_Type_INQUIRE "com/example/stile/stile/Message$Type" "code" "I" (.int (12 : Int32))) (F_w_Type_FAILED_code : Fld Z h0 w_Type_FAILED "com/example/stile/stile/Message$Type" "code" "I" (.int (13 : Int32))) :
    MetFree l (⟨"com/example/stile/stile/Message$Type", "of", "(I)Lcom/example/stile/stile/Message$Type;"⟩ : MethodName) (head1 (Jvm.Cond.code (⟨"com/example/stile/stile/Message$Type", "of", "(I)Lcom/example/stile/stile/Message$Type;"⟩ : MethodName) prog_48_method_8_code 5 (some (.object "com/example/stile/stile/Message$Type")) :: ws) ({ frames := 2, cells := 1, slots := 15, locals := 25 } : Room)) (fun a U => a = #[(.int (13 : Int32))] ∧ Z.Warmed39 U.vm ∧ U.heap = h0) (fun _ _ _ _ _ => True) (fun _ U o U' => ∃ v L, o = .returned v ∧ Q_rk_found_12 Z w_Type_FAILED h0 n0 v U'.heap L ∧ FrameEnd U o U' L ({ frames := 2, cells := 1, slots := 15, locals := 25 } : Room).cells ({ frames := 2, cells := 1, slots := 15, locals := 25 } : Room).slots) := by
  refine MetFree.of_bodySF (plainFor_of_name pn_0) hisR ?_
  intro p e s m args below meth c s₁ Bd hml0 hP hK
  obtain ⟨rfl, hZ, hh⟩ := hP
  have hx := Bd.exec
  have hby := Bd.bytes
  have hml : c.maxLocals = 5 := hml0
  have hown : s.vm.findClass "com/example/stile/stile/Message$Type" = some m.cls := findClass_of_methodNamed Bd.named
  have hnm := (name_of_methodNamed Bd.named Bd.method).1
  have X0 : Stand p l e ({ frames := 2, cells := 1, slots := 15, locals := 25 } : Room) s m #[(.int (13 : Int32))] below meth c s₁ [] 0 0 := Stand.of_body Bd
  have e0 : s₁.heap = h0 := by rw [← hh, Bd.state]; rfl
  have N0 := Fr.nil n0
  have pre0 : ∀ t, Steps p.tables e below (s₁.setTop (mkF m 0 #[iv (13 : Int32), .unset, .unset, .unset, .unset] [])) t → Steps p.tables e below (s₁.setTop (entryFrame m #[(.int (13 : Int32))] 5)) t := fun t k => castTop (ef_1_I m (13 : Int32)) k
  obtain ⟨_, _, ⟨T1, L1, k1, n1⟩, -, X1, ⟨Lc1, hQ1, l1, y1, z1⟩, st1⟩ := Jvm.LawKit.callS X0 hx (y := (⟨"com/example/stile/stile/Message$Type", "values", "()[Lcom/example/stile/stile/Message$Type;"⟩ : MethodName)) hown (mvT hZ (hw _ (List.mem_of_getElem? (i := 4) rfl))) (mvT hZ (hw _ (List.mem_of_getElem? (i := 5) rfl))) (mvT hZ (hw _ (List.mem_of_getElem? (i := 2) rfl))) (mvT hZ (hw _ (List.mem_of_getElem? (i := 6) rfl))) (by decide) (backOf (W := 0) (rm2_0 l Z a0 hw [] w_Type__VALUES w_Type_REQUEST w_Type_REPLY w_Type_HEARTBEAT w_Type_ELECTION w_Type_ANSWER w_Type_COORDINATOR w_Type_GRANT w_Type_RELEASE w_Type_HELD w_Type_REPORTED w_Type_LOCKED w_Type_INQUIRE w_Type_FAILED w_Type_RELINQUISH w_Type_TOKEN k_w_Type__VALUES h0 n0 Z0 S_Type__VALUES V_w_Type__VALUES E_w_Type__VALUES) hZ (hw _ (List.mem_of_getElem? (i := 6) rfl)) (hw _ (List.mem_of_getElem? (i := 2) rfl)) (by decide) (by decide)) (g := (mkF m 0 #[iv (13 : Int32), .unset, .unset, .unset, .unset] [])) rfl (by rw [hml]; rfl) (argsL := []) (rest := []) (lenOf pd_0 rfl) rfl (by show 2 * 0 + _ ≤ _; exact Nat.le_of_eq rfl) (hb hby d1_0) (fun _ _ => ⟨rfl, e0, (by decide : 0 + 1 ≤ _), (by decide : 0 + 15 ≤ _)⟩)
  dsimp only [Pt.U, Pt.locs, Pt.cells, Pt.slots] at X1 l1 y1 z1 st1 hQ1
  subst l1 y1 z1
  obtain ⟨b1_1_0, rfl, N1q, K1, gq_b1_1_0, le_b1_1_0, fq1_0, fq1_1⟩ := hQ1
  have sz_b1_1_0 : h0.size ≤ b1_1_0 := Nat.le_trans (Keep.refl h0 []).1 le_b1_1_0
  have KK1 : Keep h0 T1.heap [] := (Keep.refl h0 []).trans K1 all0
  have Z1 : n0 ≤ T1.heap.size := Nat.le_trans Z0 K1.1
  have N1 := Fr.app N0 N1q
  obtain ⟨cl2, Ar2, -, Sz2, Nn2, -, -⟩ := id fq1_0
  obtain ⟨cl3, Ar3, -, Sz3, Nn3, Hs3, Gs3⟩ := id fq1_0
  have hin3 : ¬ ((0 : Int32) < 0 ∨ cl3.slots.size ≤ ((0 : Int32)).toNatClampNeg) := inb_of Sz3 ⟨by decide, by decide⟩
  have c4 := (F_w_Type_REQUEST_code.keep K1 nin0)
  obtain ⟨T5, X5, e5, st5⟩ := getF X1 hx hZ hown (host := "") (Or.inl (hw _ (List.mem_of_getElem? (i := 34) rfl))) Via.refl rfl c4 (g := (mkF m 21 #[iv (13 : Int32), rv b1_1_0, iv (15 : Int32), iv (0 : Int32), rv w_Type_REQUEST] [(.ref w_Type_REQUEST)])) rfl rfl (hb hby d1_21)
  obtain ⟨cl6, Ar6, -, Sz6, Nn6, Hs6, Gs6⟩ := id fq1_0
  have hin6 : ¬ ((1 : Int32) < 0 ∨ cl6.slots.size ≤ ((1 : Int32)).toNatClampNeg) := inb_of Sz6 ⟨by decide, by decide⟩
  have c7 := (F_w_Type_REPLY_code.keep K1 nin0)
  obtain ⟨T8, X8, e8, st8⟩ := getF X5 hx hZ hown (host := "") (Or.inl (hw _ (List.mem_of_getElem? (i := 34) rfl))) Via.refl e5 c7 (g := (mkF m 21 #[iv (13 : Int32), rv b1_1_0, iv (15 : Int32), iv (1 : Int32), rv w_Type_REPLY] [(.ref w_Type_REPLY)])) rfl rfl (hb hby d1_21)
  obtain ⟨cl9, Ar9, -, Sz9, Nn9, Hs9, Gs9⟩ := id fq1_0
  have hin9 : ¬ ((2 : Int32) < 0 ∨ cl9.slots.size ≤ ((2 : Int32)).toNatClampNeg) := inb_of Sz9 ⟨by decide, by decide⟩
  have c10 := (F_w_Type_HEARTBEAT_code.keep K1 nin0)
  obtain ⟨T11, X11, e11, st11⟩ := getF X8 hx hZ hown (host := "") (Or.inl (hw _ (List.mem_of_getElem? (i := 34) rfl))) Via.refl e8 c10 (g := (mkF m 21 #[iv (13 : Int32), rv b1_1_0, iv (15 : Int32), iv (2 : Int32), rv w_Type_HEARTBEAT] [(.ref w_Type_HEARTBEAT)])) rfl rfl (hb hby d1_21)
  obtain ⟨cl12, Ar12, -, Sz12, Nn12, Hs12, Gs12⟩ := id fq1_0
  have hin12 : ¬ ((3 : Int32) < 0 ∨ cl12.slots.size ≤ ((3 : Int32)).toNatClampNeg) := inb_of Sz12 ⟨by decide, by decide⟩
  have c13 := (F_w_Type_ELECTION_code.keep K1 nin0)
  obtain ⟨T14, X14, e14, st14⟩ := getF X11 hx hZ hown (host := "") (Or.inl (hw _ (List.mem_of_getElem? (i := 34) rfl))) Via.refl e11 c13 (g := (mkF m 21 #[iv (13 : Int32), rv b1_1_0, iv (15 : Int32), iv (3 : Int32), rv w_Type_ELECTION] [(.ref w_Type_ELECTION)])) rfl rfl (hb hby d1_21)
  obtain ⟨cl15, Ar15, -, Sz15, Nn15, Hs15, Gs15⟩ := id fq1_0
  have hin15 : ¬ ((4 : Int32) < 0 ∨ cl15.slots.size ≤ ((4 : Int32)).toNatClampNeg) := inb_of Sz15 ⟨by decide, by decide⟩
  have c16 := (F_w_Type_ANSWER_code.keep K1 nin0)
  obtain ⟨T17, X17, e17, st17⟩ := getF X14 hx hZ hown (host := "") (Or.inl (hw _ (List.mem_of_getElem? (i := 34) rfl))) Via.refl e14 c16 (g := (mkF m 21 #[iv (13 : Int32), rv b1_1_0, iv (15 : Int32), iv (4 : Int32), rv w_Type_ANSWER] [(.ref w_Type_ANSWER)])) rfl rfl (hb hby d1_21)
  obtain ⟨cl18, Ar18, -, Sz18, Nn18, Hs18, Gs18⟩ := id fq1_0
  have hin18 : ¬ ((5 : Int32) < 0 ∨ cl18.slots.size ≤ ((5 : Int32)).toNatClampNeg) := inb_of Sz18 ⟨by decide, by decide⟩
  have c19 := (F_w_Type_COORDINATOR_code.keep K1 nin0)
  obtain ⟨T20, X20, e20, st20⟩ := getF X17 hx hZ hown (host := "") (Or.inl (hw _ (List.mem_of_getElem? (i := 34) rfl))) Via.refl e17 c19 (g := (mkF m 21 #[iv (13 : Int32), rv b1_1_0, iv (15 : Int32), iv (5 : Int32), rv w_Type_COORDINATOR] [(.ref w_Type_COORDINATOR)])) rfl rfl (hb hby d1_21)
  obtain ⟨cl21, Ar21, -, Sz21, Nn21, Hs21, Gs21⟩ := id fq1_0
  have hin21 : ¬ ((6 : Int32) < 0 ∨ cl21.slots.size ≤ ((6 : Int32)).toNatClampNeg) := inb_of Sz21 ⟨by decide, by decide⟩
  have c22 := (F_w_Type_GRANT_code.keep K1 nin0)
  obtain ⟨T23, X23, e23, st23⟩ := getF X20 hx hZ hown (host := "") (Or.inl (hw _ (List.mem_of_getElem? (i := 34) rfl))) Via.refl e20 c22 (g := (mkF m 21 #[iv (13 : Int32), rv b1_1_0, iv (15 : Int32), iv (6 : Int32), rv w_Type_GRANT] [(.ref w_Type_GRANT)])) rfl rfl (hb hby d1_21)
  obtain ⟨cl24, Ar24, -, Sz24, Nn24, Hs24, Gs24⟩ := id fq1_0
  have hin24 : ¬ ((7 : Int32) < 0 ∨ cl24.slots.size ≤ ((7 : Int32)).toNatClampNeg) := inb_of Sz24 ⟨by decide, by decide⟩
  have c25 := (F_w_Type_RELEASE_code.keep K1 nin0)
  obtain ⟨T26, X26, e26, st26⟩ := getF X23 hx hZ hown (host := "") (Or.inl (hw _ (List.mem_of_getElem? (i := 34) rfl))) Via.refl e23 c25 (g := (mkF m 21 #[iv (13 : Int32), rv b1_1_0, iv (15 : Int32), iv (7 : Int32), rv w_Type_RELEASE] [(.ref w_Type_RELEASE)])) rfl rfl (hb hby d1_21)
  obtain ⟨cl27, Ar27, -, Sz27, Nn27, Hs27, Gs27⟩ := id fq1_0
  have hin27 : ¬ ((8 : Int32) < 0 ∨ cl27.slots.size ≤ ((8 : Int32)).toNatClampNeg) := inb_of Sz27 ⟨by decide, by decide⟩
  have c28 := (F_w_Type_HELD_code.keep K1 nin0)
  obtain ⟨T29, X29, e29, st29⟩ := getF X26 hx hZ hown (host := "") (Or.inl (hw _ (List.mem_of_getElem? (i := 34) rfl))) Via.refl e26 c28 (g := (mkF m 21 #[iv (13 : Int32), rv b1_1_0, iv (15 : Int32), iv (8 : Int32), rv w_Type_HELD] [(.ref w_Type_HELD)])) rfl rfl (hb hby d1_21)
  obtain ⟨cl30, Ar30, -, Sz30, Nn30, Hs30, Gs30⟩ := id fq1_0
  have hin30 : ¬ ((9 : Int32) < 0 ∨ cl30.slots.size ≤ ((9 : Int32)).toNatClampNeg) := inb_of Sz30 ⟨by decide, by decide⟩
  have c31 := (F_w_Type_REPORTED_code.keep K1 nin0)
  obtain ⟨T32, X32, e32, st32⟩ := getF X29 hx hZ hown (host := "") (Or.inl (hw _ (List.mem_of_getElem? (i := 34) rfl))) Via.refl e29 c31 (g := (mkF m 21 #[iv (13 : Int32), rv b1_1_0, iv (15 : Int32), iv (9 : Int32), rv w_Type_REPORTED] [(.ref w_Type_REPORTED)])) rfl rfl (hb hby d1_21)
  obtain ⟨cl33, Ar33, -, Sz33, Nn33, Hs33, Gs33⟩ := id fq1_0
  have hin33 : ¬ ((10 : Int32) < 0 ∨ cl33.slots.size ≤ ((10 : Int32)).toNatClampNeg) := inb_of Sz33 ⟨by decide, by decide⟩
  have c34 := (F_w_Type_LOCKED_code.keep K1 nin0)
  obtain ⟨T35, X35, e35, st35⟩ := getF X32 hx hZ hown (host := "") (Or.inl (hw _ (List.mem_of_getElem? (i := 34) rfl))) Via.refl e32 c34 (g := (mkF m 21 #[iv (13 : Int32), rv b1_1_0, iv (15 : Int32), iv (10 : Int32), rv w_Type_LOCKED] [(.ref w_Type_LOCKED)])) rfl rfl (hb hby d1_21)
  obtain ⟨cl36, Ar36, -, Sz36, Nn36, Hs36, Gs36⟩ := id fq1_0
  have hin36 : ¬ ((11 : Int32) < 0 ∨ cl36.slots.size ≤ ((11 : Int32)).toNatClampNeg) := inb_of Sz36 ⟨by decide, by decide⟩
  have c37 := (F_w_Type_INQUIRE_code.keep K1 nin0)
  obtain ⟨T38, X38, e38, st38⟩ := getF X35 hx hZ hown (host := "") (Or.inl (hw _ (List.mem_of_getElem? (i := 34) rfl))) Via.refl e35 c37 (g := (mkF m 21 #[iv (13 : Int32), rv b1_1_0, iv (15 : Int32), iv (11 : Int32), rv w_Type_INQUIRE] [(.ref w_Type_INQUIRE)])) rfl rfl (hb hby d1_21)
  obtain ⟨cl39, Ar39, -, Sz39, Nn39, Hs39, Gs39⟩ := id fq1_0
  have hin39 : ¬ ((12 : Int32) < 0 ∨ cl39.slots.size ≤ ((12 : Int32)).toNatClampNeg) := inb_of Sz39 ⟨by decide, by decide⟩
  have c40 := (F_w_Type_FAILED_code.keep K1 nin0)
  obtain ⟨T41, X41, e41, st41⟩ := getF X38 hx hZ hown (host := "") (Or.inl (hw _ (List.mem_of_getElem? (i := 34) rfl))) Via.refl e38 c40 (g := (mkF m 21 #[iv (13 : Int32), rv b1_1_0, iv (15 : Int32), iv (12 : Int32), rv w_Type_FAILED] [(.ref w_Type_FAILED)])) rfl rfl (hb hby d1_21)
  obtain ⟨fs, hr, hrun, hended, hW, hsame⟩ := X41.leave (v := (some (.ref w_Type_FAILED))) (fun h => by rw [Bd.returns] at h; cases h)
  refine ⟨_, _, pre0 _ ?_, hrun, hended, _, _, rfl, ?_, ⟨_, rfl⟩, hW, hsame.mono (by decide) (by decide)⟩
  · show Steps p.tables e below (s₁.setTop (mkF m 0 #[iv (13 : Int32), .unset, .unset, .unset, .unset] [])) _
    refine st1 _ ?_
    refine XS.astoreN X1.here hx rfl (hb hby d1_3) rfl rfl (l' := #[iv (13 : Int32), rv b1_1_0, .unset, .unset, .unset]) rfl ?_
    refine XS.aloadN X1.here hx rfl (hb hby d1_4) rfl rfl ?_
    refine X1.arraylength hx Ar2.1 (State.isArrayOf_alike hZ.alike Ar2.2.1) (g := (mkF m 5 #[iv (13 : Int32), rv b1_1_0, .unset, .unset, .unset] [(.ref b1_1_0)])) rfl rfl (hb hby d1_5) _ ?_
    rw [len_of Sz2 Nn2]
    refine XS.istoreN X1.here hx rfl (hb hby d1_6) rfl (l' := #[iv (13 : Int32), rv b1_1_0, iv (15 : Int32), .unset, .unset]) rfl ?_
    refine XS.iconst X1.here hx rfl (hb hby d1_7) ?_
    show Steps p.tables e below (T1.setTop (mkF m 8 #[iv (13 : Int32), rv b1_1_0, iv (15 : Int32), .unset, .unset] [(.int (0 : Int32))])) _
    refine XS.istoreN X1.here hx rfl (hb hby d1_8) rfl (l' := #[iv (13 : Int32), rv b1_1_0, iv (15 : Int32), iv (0 : Int32), .unset]) rfl ?_
    refine XS.iloadN X1.here hx rfl (hb hby d1_9) rfl ?_
    refine XS.iloadN X1.here hx rfl (hb hby d1_10) rfl ?_
    refine XS.icmpNo X1.here hx rfl (hb hby d1_11) rfl (tlt (by decide +kernel : (0 : Int32) < (15 : Int32))).2.1 ?_
    refine XS.aloadN X1.here hx rfl (hb hby d1_14) rfl rfl ?_
    refine XS.iloadN X1.here hx rfl (hb hby d1_15) rfl ?_
    show Steps p.tables e below (T1.setTop (mkF m 16 #[iv (13 : Int32), rv b1_1_0, iv (15 : Int32), iv (0 : Int32), .unset] [(.int (0 : Int32)), (.ref b1_1_0)])) _
    refine X1.aaload hx (j := (0 : Int32)) (v := (.ref w_Type_REQUEST)) Ar3.1 (State.isArrayOf_alike hZ.alike Ar3.2.1) rfl Ar3.2.2 hin3 (Hs3.at hin3 rfl) (g := (mkF m 16 #[iv (13 : Int32), rv b1_1_0, iv (15 : Int32), iv (0 : Int32), .unset] [(.int (0 : Int32)), (.ref b1_1_0)])) rfl rfl (hb hby d1_16) _ ?_
    refine XS.astore X1.here hx rfl (hb hby d1_17) rfl rfl (l' := #[iv (13 : Int32), rv b1_1_0, iv (15 : Int32), iv (0 : Int32), rv w_Type_REQUEST]) rfl ?_
    refine XS.aload X1.here hx rfl (hb hby d1_19) rfl rfl ?_
    refine st5 _ ?_
    refine XS.iloadN X5.here hx rfl (hb hby d1_24) rfl ?_
    refine XS.icmpYes X5.here hx rfl (pc0 := 25) (pc' := 31) rfl (hb hby d1_25) rfl (feq (by decide +kernel : ¬ ((1 : Int32) = (13 : Int32)))).2 (by decide) (by decide) ?_
    show Steps p.tables e below (T5.setTop (mkF m 31 #[iv (13 : Int32), rv b1_1_0, iv (15 : Int32), iv (0 : Int32), rv w_Type_REQUEST] [])) _
    refine XS.iinc X5.here hx rfl (hb hby d1_31) rfl (l' := #[iv (13 : Int32), rv b1_1_0, iv (15 : Int32), iv ((0 : Int32) + (1 : Int32)), rv w_Type_REQUEST]) rfl ?_
    show Steps p.tables e below (T5.setTop (mkF m 34 #[iv (13 : Int32), rv b1_1_0, iv (15 : Int32), iv ((0 : Int32) + (1 : Int32)), rv w_Type_REQUEST] [])) _
    rewrite [show ((0 : Int32) + (1 : Int32)) = (1 : Int32) from by decide +kernel]
    refine XS.goto X5.here hx rfl (pc0 := 34) (pc' := 9) rfl (hb hby d1_34) (by decide) (by decide) ?_
    refine XS.iloadN X5.here hx rfl (hb hby d1_9) rfl ?_
    refine XS.iloadN X5.here hx rfl (hb hby d1_10) rfl ?_
    refine XS.icmpNo X5.here hx rfl (hb hby d1_11) rfl (tlt (by decide +kernel : (1 : Int32) < (15 : Int32))).2.1 ?_
    refine XS.aloadN X5.here hx rfl (hb hby d1_14) rfl rfl ?_
    show Steps p.tables e below (T5.setTop (mkF m 15 #[iv (13 : Int32), rv b1_1_0, iv (15 : Int32), iv (1 : Int32), rv w_Type_REQUEST] [(.ref b1_1_0)])) _
    refine XS.iloadN X5.here hx rfl (hb hby d1_15) rfl ?_
    refine X5.aaload hx (j := (1 : Int32)) (v := (.ref w_Type_REPLY)) (by rw [e5]; exact Ar6.1) (State.isArrayOf_alike hZ.alike Ar6.2.1) rfl Ar6.2.2 hin6 (Hs6.at hin6 rfl) (g := (mkF m 16 #[iv (13 : Int32), rv b1_1_0, iv (15 : Int32), iv (1 : Int32), rv w_Type_REQUEST] [(.int (1 : Int32)), (.ref b1_1_0)])) rfl rfl (hb hby d1_16) _ ?_
    refine XS.astore X5.here hx rfl (hb hby d1_17) rfl rfl (l' := #[iv (13 : Int32), rv b1_1_0, iv (15 : Int32), iv (1 : Int32), rv w_Type_REPLY]) rfl ?_
    refine XS.aload X5.here hx rfl (hb hby d1_19) rfl rfl ?_
    refine st8 _ ?_
    refine XS.iloadN X8.here hx rfl (hb hby d1_24) rfl ?_
    show Steps p.tables e below (T8.setTop (mkF m 25 #[iv (13 : Int32), rv b1_1_0, iv (15 : Int32), iv (1 : Int32), rv w_Type_REPLY] [(.int (13 : Int32)), (.int (2 : Int32))])) _
    refine XS.icmpYes X8.here hx rfl (pc0 := 25) (pc' := 31) rfl (hb hby d1_25) rfl (feq (by decide +kernel : ¬ ((2 : Int32) = (13 : Int32)))).2 (by decide) (by decide) ?_
    refine XS.iinc X8.here hx rfl (hb hby d1_31) rfl (l' := #[iv (13 : Int32), rv b1_1_0, iv (15 : Int32), iv ((1 : Int32) + (1 : Int32)), rv w_Type_REPLY]) rfl ?_
    show Steps p.tables e below (T8.setTop (mkF m 34 #[iv (13 : Int32), rv b1_1_0, iv (15 : Int32), iv ((1 : Int32) + (1 : Int32)), rv w_Type_REPLY] [])) _
    rewrite [show ((1 : Int32) + (1 : Int32)) = (2 : Int32) from by decide +kernel]
    refine XS.goto X8.here hx rfl (pc0 := 34) (pc' := 9) rfl (hb hby d1_34) (by decide) (by decide) ?_
    refine XS.iloadN X8.here hx rfl (hb hby d1_9) rfl ?_
    refine XS.iloadN X8.here hx rfl (hb hby d1_10) rfl ?_
    refine XS.icmpNo X8.here hx rfl (hb hby d1_11) rfl (tlt (by decide +kernel : (2 : Int32) < (15 : Int32))).2.1 ?_
    show Steps p.tables e below (T8.setTop (mkF m 14 #[iv (13 : Int32), rv b1_1_0, iv (15 : Int32), iv (2 : Int32), rv w_Type_REPLY] [])) _
    refine XS.aloadN X8.here hx rfl (hb hby d1_14) rfl rfl ?_
    refine XS.iloadN X8.here hx rfl (hb hby d1_15) rfl ?_
    refine X8.aaload hx (j := (2 : Int32)) (v := (.ref w_Type_HEARTBEAT)) (by rw [e8]; exact Ar9.1) (State.isArrayOf_alike hZ.alike Ar9.2.1) rfl Ar9.2.2 hin9 (Hs9.at hin9 rfl) (g := (mkF m 16 #[iv (13 : Int32), rv b1_1_0, iv (15 : Int32), iv (2 : Int32), rv w_Type_REPLY] [(.int (2 : Int32)), (.ref b1_1_0)])) rfl rfl (hb hby d1_16) _ ?_
    refine XS.astore X8.here hx rfl (hb hby d1_17) rfl rfl (l' := #[iv (13 : Int32), rv b1_1_0, iv (15 : Int32), iv (2 : Int32), rv w_Type_HEARTBEAT]) rfl ?_
    refine XS.aload X8.here hx rfl (hb hby d1_19) rfl rfl ?_
    refine st11 _ ?_
    show Steps p.tables e below (T11.setTop (mkF m 24 #[iv (13 : Int32), rv b1_1_0, iv (15 : Int32), iv (2 : Int32), rv w_Type_HEARTBEAT] [(.int (3 : Int32))])) _
    refine XS.iloadN X11.here hx rfl (hb hby d1_24) rfl ?_
    refine XS.icmpYes X11.here hx rfl (pc0 := 25) (pc' := 31) rfl (hb hby d1_25) rfl (feq (by decide +kernel : ¬ ((3 : Int32) = (13 : Int32)))).2 (by decide) (by decide) ?_
    refine XS.iinc X11.here hx rfl (hb hby d1_31) rfl (l' := #[iv (13 : Int32), rv b1_1_0, iv (15 : Int32), iv ((2 : Int32) + (1 : Int32)), rv w_Type_HEARTBEAT]) rfl ?_
    show Steps p.tables e below (T11.setTop (mkF m 34 #[iv (13 : Int32), rv b1_1_0, iv (15 : Int32), iv ((2 : Int32) + (1 : Int32)), rv w_Type_HEARTBEAT] [])) _
    rewrite [show ((2 : Int32) + (1 : Int32)) = (3 : Int32) from by decide +kernel]
    refine XS.goto X11.here hx rfl (pc0 := 34) (pc' := 9) rfl (hb hby d1_34) (by decide) (by decide) ?_
    refine XS.iloadN X11.here hx rfl (hb hby d1_9) rfl ?_
    refine XS.iloadN X11.here hx rfl (hb hby d1_10) rfl ?_
    show Steps p.tables e below (T11.setTop (mkF m 11 #[iv (13 : Int32), rv b1_1_0, iv (15 : Int32), iv (3 : Int32), rv w_Type_HEARTBEAT] [(.int (15 : Int32)), (.int (3 : Int32))])) _
    refine XS.icmpNo X11.here hx rfl (hb hby d1_11) rfl (tlt (by decide +kernel : (3 : Int32) < (15 : Int32))).2.1 ?_
    refine XS.aloadN X11.here hx rfl (hb hby d1_14) rfl rfl ?_
    refine XS.iloadN X11.here hx rfl (hb hby d1_15) rfl ?_
    refine X11.aaload hx (j := (3 : Int32)) (v := (.ref w_Type_ELECTION)) (by rw [e11]; exact Ar12.1) (State.isArrayOf_alike hZ.alike Ar12.2.1) rfl Ar12.2.2 hin12 (Hs12.at hin12 rfl) (g := (mkF m 16 #[iv (13 : Int32), rv b1_1_0, iv (15 : Int32), iv (3 : Int32), rv w_Type_HEARTBEAT] [(.int (3 : Int32)), (.ref b1_1_0)])) rfl rfl (hb hby d1_16) _ ?_
    refine XS.astore X11.here hx rfl (hb hby d1_17) rfl rfl (l' := #[iv (13 : Int32), rv b1_1_0, iv (15 : Int32), iv (3 : Int32), rv w_Type_ELECTION]) rfl ?_
    refine XS.aload X11.here hx rfl (hb hby d1_19) rfl rfl ?_
    show Steps p.tables e below (T11.setTop (mkF m 21 #[iv (13 : Int32), rv b1_1_0, iv (15 : Int32), iv (3 : Int32), rv w_Type_ELECTION] [(.ref w_Type_ELECTION)])) _
    refine st14 _ ?_
    refine XS.iloadN X14.here hx rfl (hb hby d1_24) rfl ?_
    refine XS.icmpYes X14.here hx rfl (pc0 := 25) (pc' := 31) rfl (hb hby d1_25) rfl (feq (by decide +kernel : ¬ ((4 : Int32) = (13 : Int32)))).2 (by decide) (by decide) ?_
    refine XS.iinc X14.here hx rfl (hb hby d1_31) rfl (l' := #[iv (13 : Int32), rv b1_1_0, iv (15 : Int32), iv ((3 : Int32) + (1 : Int32)), rv w_Type_ELECTION]) rfl ?_
    show Steps p.tables e below (T14.setTop (mkF m 34 #[iv (13 : Int32), rv b1_1_0, iv (15 : Int32), iv ((3 : Int32) + (1 : Int32)), rv w_Type_ELECTION] [])) _
    rewrite [show ((3 : Int32) + (1 : Int32)) = (4 : Int32) from by decide +kernel]
    refine XS.goto X14.here hx rfl (pc0 := 34) (pc' := 9) rfl (hb hby d1_34) (by decide) (by decide) ?_
    refine XS.iloadN X14.here hx rfl (hb hby d1_9) rfl ?_
    show Steps p.tables e below (T14.setTop (mkF m 10 #[iv (13 : Int32), rv b1_1_0, iv (15 : Int32), iv (4 : Int32), rv w_Type_ELECTION] [(.int (4 : Int32))])) _
    refine XS.iloadN X14.here hx rfl (hb hby d1_10) rfl ?_
    refine XS.icmpNo X14.here hx rfl (hb hby d1_11) rfl (tlt (by decide +kernel : (4 : Int32) < (15 : Int32))).2.1 ?_
    refine XS.aloadN X14.here hx rfl (hb hby d1_14) rfl rfl ?_
    refine XS.iloadN X14.here hx rfl (hb hby d1_15) rfl ?_
    refine X14.aaload hx (j := (4 : Int32)) (v := (.ref w_Type_ANSWER)) (by rw [e14]; exact Ar15.1) (State.isArrayOf_alike hZ.alike Ar15.2.1) rfl Ar15.2.2 hin15 (Hs15.at hin15 rfl) (g := (mkF m 16 #[iv (13 : Int32), rv b1_1_0, iv (15 : Int32), iv (4 : Int32), rv w_Type_ELECTION] [(.int (4 : Int32)), (.ref b1_1_0)])) rfl rfl (hb hby d1_16) _ ?_
    refine XS.astore X14.here hx rfl (hb hby d1_17) rfl rfl (l' := #[iv (13 : Int32), rv b1_1_0, iv (15 : Int32), iv (4 : Int32), rv w_Type_ANSWER]) rfl ?_
    show Steps p.tables e below (T14.setTop (mkF m 19 #[iv (13 : Int32), rv b1_1_0, iv (15 : Int32), iv (4 : Int32), rv w_Type_ANSWER] [])) _
    refine XS.aload X14.here hx rfl (hb hby d1_19) rfl rfl ?_
    refine st17 _ ?_
    refine XS.iloadN X17.here hx rfl (hb hby d1_24) rfl ?_
    refine XS.icmpYes X17.here hx rfl (pc0 := 25) (pc' := 31) rfl (hb hby d1_25) rfl (feq (by decide +kernel : ¬ ((5 : Int32) = (13 : Int32)))).2 (by decide) (by decide) ?_
    refine XS.iinc X17.here hx rfl (hb hby d1_31) rfl (l' := #[iv (13 : Int32), rv b1_1_0, iv (15 : Int32), iv ((4 : Int32) + (1 : Int32)), rv w_Type_ANSWER]) rfl ?_
    show Steps p.tables e below (T17.setTop (mkF m 34 #[iv (13 : Int32), rv b1_1_0, iv (15 : Int32), iv ((4 : Int32) + (1 : Int32)), rv w_Type_ANSWER] [])) _
    rewrite [show ((4 : Int32) + (1 : Int32)) = (5 : Int32) from by decide +kernel]
    refine XS.goto X17.here hx rfl (pc0 := 34) (pc' := 9) rfl (hb hby d1_34) (by decide) (by decide) ?_
    show Steps p.tables e below (T17.setTop (mkF m 9 #[iv (13 : Int32), rv b1_1_0, iv (15 : Int32), iv (5 : Int32), rv w_Type_ANSWER] [])) _
    refine XS.iloadN X17.here hx rfl (hb hby d1_9) rfl ?_
    refine XS.iloadN X17.here hx rfl (hb hby d1_10) rfl ?_
    refine XS.icmpNo X17.here hx rfl (hb hby d1_11) rfl (tlt (by decide +kernel : (5 : Int32) < (15 : Int32))).2.1 ?_
    refine XS.aloadN X17.here hx rfl (hb hby d1_14) rfl rfl ?_
    refine XS.iloadN X17.here hx rfl (hb hby d1_15) rfl ?_
    refine X17.aaload hx (j := (5 : Int32)) (v := (.ref w_Type_COORDINATOR)) (by rw [e17]; exact Ar18.1) (State.isArrayOf_alike hZ.alike Ar18.2.1) rfl Ar18.2.2 hin18 (Hs18.at hin18 rfl) (g := (mkF m 16 #[iv (13 : Int32), rv b1_1_0, iv (15 : Int32), iv (5 : Int32), rv w_Type_ANSWER] [(.int (5 : Int32)), (.ref b1_1_0)])) rfl rfl (hb hby d1_16) _ ?_
    show Steps p.tables e below (T17.setTop (mkF m 17 #[iv (13 : Int32), rv b1_1_0, iv (15 : Int32), iv (5 : Int32), rv w_Type_ANSWER] [(.ref w_Type_COORDINATOR)])) _
    refine XS.astore X17.here hx rfl (hb hby d1_17) rfl rfl (l' := #[iv (13 : Int32), rv b1_1_0, iv (15 : Int32), iv (5 : Int32), rv w_Type_COORDINATOR]) rfl ?_
    refine XS.aload X17.here hx rfl (hb hby d1_19) rfl rfl ?_
    refine st20 _ ?_
    refine XS.iloadN X20.here hx rfl (hb hby d1_24) rfl ?_
    refine XS.icmpYes X20.here hx rfl (pc0 := 25) (pc' := 31) rfl (hb hby d1_25) rfl (feq (by decide +kernel : ¬ ((6 : Int32) = (13 : Int32)))).2 (by decide) (by decide) ?_
    refine XS.iinc X20.here hx rfl (hb hby d1_31) rfl (l' := #[iv (13 : Int32), rv b1_1_0, iv (15 : Int32), iv ((5 : Int32) + (1 : Int32)), rv w_Type_COORDINATOR]) rfl ?_
    show Steps p.tables e below (T20.setTop (mkF m 34 #[iv (13 : Int32), rv b1_1_0, iv (15 : Int32), iv ((5 : Int32) + (1 : Int32)), rv w_Type_COORDINATOR] [])) _
    rewrite [show ((5 : Int32) + (1 : Int32)) = (6 : Int32) from by decide +kernel]
    show Steps p.tables e below (T20.setTop (mkF m 34 #[iv (13 : Int32), rv b1_1_0, iv (15 : Int32), iv (6 : Int32), rv w_Type_COORDINATOR] [])) _
    refine XS.goto X20.here hx rfl (pc0 := 34) (pc' := 9) rfl (hb hby d1_34) (by decide) (by decide) ?_
    refine XS.iloadN X20.here hx rfl (hb hby d1_9) rfl ?_
    refine XS.iloadN X20.here hx rfl (hb hby d1_10) rfl ?_
    refine XS.icmpNo X20.here hx rfl (hb hby d1_11) rfl (tlt (by decide +kernel : (6 : Int32) < (15 : Int32))).2.1 ?_
    refine XS.aloadN X20.here hx rfl (hb hby d1_14) rfl rfl ?_
    refine XS.iloadN X20.here hx rfl (hb hby d1_15) rfl ?_
    show Steps p.tables e below (T20.setTop (mkF m 16 #[iv (13 : Int32), rv b1_1_0, iv (15 : Int32), iv (6 : Int32), rv w_Type_COORDINATOR] [(.int (6 : Int32)), (.ref b1_1_0)])) _
    refine X20.aaload hx (j := (6 : Int32)) (v := (.ref w_Type_GRANT)) (by rw [e20]; exact Ar21.1) (State.isArrayOf_alike hZ.alike Ar21.2.1) rfl Ar21.2.2 hin21 (Hs21.at hin21 rfl) (g := (mkF m 16 #[iv (13 : Int32), rv b1_1_0, iv (15 : Int32), iv (6 : Int32), rv w_Type_COORDINATOR] [(.int (6 : Int32)), (.ref b1_1_0)])) rfl rfl (hb hby d1_16) _ ?_
    refine XS.astore X20.here hx rfl (hb hby d1_17) rfl rfl (l' := #[iv (13 : Int32), rv b1_1_0, iv (15 : Int32), iv (6 : Int32), rv w_Type_GRANT]) rfl ?_
    refine XS.aload X20.here hx rfl (hb hby d1_19) rfl rfl ?_
    refine st23 _ ?_
    refine XS.iloadN X23.here hx rfl (hb hby d1_24) rfl ?_
    refine XS.icmpYes X23.here hx rfl (pc0 := 25) (pc' := 31) rfl (hb hby d1_25) rfl (feq (by decide +kernel : ¬ ((7 : Int32) = (13 : Int32)))).2 (by decide) (by decide) ?_
    show Steps p.tables e below (T23.setTop (mkF m 31 #[iv (13 : Int32), rv b1_1_0, iv (15 : Int32), iv (6 : Int32), rv w_Type_GRANT] [])) _
    refine XS.iinc X23.here hx rfl (hb hby d1_31) rfl (l' := #[iv (13 : Int32), rv b1_1_0, iv (15 : Int32), iv ((6 : Int32) + (1 : Int32)), rv w_Type_GRANT]) rfl ?_
    show Steps p.tables e below (T23.setTop (mkF m 34 #[iv (13 : Int32), rv b1_1_0, iv (15 : Int32), iv ((6 : Int32) + (1 : Int32)), rv w_Type_GRANT] [])) _
    rewrite [show ((6 : Int32) + (1 : Int32)) = (7 : Int32) from by decide +kernel]
    refine XS.goto X23.here hx rfl (pc0 := 34) (pc' := 9) rfl (hb hby d1_34) (by decide) (by decide) ?_
    refine XS.iloadN X23.here hx rfl (hb hby d1_9) rfl ?_
    refine XS.iloadN X23.here hx rfl (hb hby d1_10) rfl ?_
    refine XS.icmpNo X23.here hx rfl (hb hby d1_11) rfl (tlt (by decide +kernel : (7 : Int32) < (15 : Int32))).2.1 ?_
    refine XS.aloadN X23.here hx rfl (hb hby d1_14) rfl rfl ?_
    show Steps p.tables e below (T23.setTop (mkF m 15 #[iv (13 : Int32), rv b1_1_0, iv (15 : Int32), iv (7 : Int32), rv w_Type_GRANT] [(.ref b1_1_0)])) _
    refine XS.iloadN X23.here hx rfl (hb hby d1_15) rfl ?_
    refine X23.aaload hx (j := (7 : Int32)) (v := (.ref w_Type_RELEASE)) (by rw [e23]; exact Ar24.1) (State.isArrayOf_alike hZ.alike Ar24.2.1) rfl Ar24.2.2 hin24 (Hs24.at hin24 rfl) (g := (mkF m 16 #[iv (13 : Int32), rv b1_1_0, iv (15 : Int32), iv (7 : Int32), rv w_Type_GRANT] [(.int (7 : Int32)), (.ref b1_1_0)])) rfl rfl (hb hby d1_16) _ ?_
    refine XS.astore X23.here hx rfl (hb hby d1_17) rfl rfl (l' := #[iv (13 : Int32), rv b1_1_0, iv (15 : Int32), iv (7 : Int32), rv w_Type_RELEASE]) rfl ?_
    refine XS.aload X23.here hx rfl (hb hby d1_19) rfl rfl ?_
    refine st26 _ ?_
    refine XS.iloadN X26.here hx rfl (hb hby d1_24) rfl ?_
    show Steps p.tables e below (T26.setTop (mkF m 25 #[iv (13 : Int32), rv b1_1_0, iv (15 : Int32), iv (7 : Int32), rv w_Type_RELEASE] [(.int (13 : Int32)), (.int (8 : Int32))])) _
    refine XS.icmpYes X26.here hx rfl (pc0 := 25) (pc' := 31) rfl (hb hby d1_25) rfl (feq (by decide +kernel : ¬ ((8 : Int32) = (13 : Int32)))).2 (by decide) (by decide) ?_
    refine XS.iinc X26.here hx rfl (hb hby d1_31) rfl (l' := #[iv (13 : Int32), rv b1_1_0, iv (15 : Int32), iv ((7 : Int32) + (1 : Int32)), rv w_Type_RELEASE]) rfl ?_
    show Steps p.tables e below (T26.setTop (mkF m 34 #[iv (13 : Int32), rv b1_1_0, iv (15 : Int32), iv ((7 : Int32) + (1 : Int32)), rv w_Type_RELEASE] [])) _
    rewrite [show ((7 : Int32) + (1 : Int32)) = (8 : Int32) from by decide +kernel]
    refine XS.goto X26.here hx rfl (pc0 := 34) (pc' := 9) rfl (hb hby d1_34) (by decide) (by decide) ?_
    refine XS.iloadN X26.here hx rfl (hb hby d1_9) rfl ?_
    refine XS.iloadN X26.here hx rfl (hb hby d1_10) rfl ?_
    refine XS.icmpNo X26.here hx rfl (hb hby d1_11) rfl (tlt (by decide +kernel : (8 : Int32) < (15 : Int32))).2.1 ?_
    show Steps p.tables e below (T26.setTop (mkF m 14 #[iv (13 : Int32), rv b1_1_0, iv (15 : Int32), iv (8 : Int32), rv w_Type_RELEASE] [])) _
    refine XS.aloadN X26.here hx rfl (hb hby d1_14) rfl rfl ?_
    refine XS.iloadN X26.here hx rfl (hb hby d1_15) rfl ?_
    refine X26.aaload hx (j := (8 : Int32)) (v := (.ref w_Type_HELD)) (by rw [e26]; exact Ar27.1) (State.isArrayOf_alike hZ.alike Ar27.2.1) rfl Ar27.2.2 hin27 (Hs27.at hin27 rfl) (g := (mkF m 16 #[iv (13 : Int32), rv b1_1_0, iv (15 : Int32), iv (8 : Int32), rv w_Type_RELEASE] [(.int (8 : Int32)), (.ref b1_1_0)])) rfl rfl (hb hby d1_16) _ ?_
    refine XS.astore X26.here hx rfl (hb hby d1_17) rfl rfl (l' := #[iv (13 : Int32), rv b1_1_0, iv (15 : Int32), iv (8 : Int32), rv w_Type_HELD]) rfl ?_
    refine XS.aload X26.here hx rfl (hb hby d1_19) rfl rfl ?_
    refine st29 _ ?_
    show Steps p.tables e below (T29.setTop (mkF m 24 #[iv (13 : Int32), rv b1_1_0, iv (15 : Int32), iv (8 : Int32), rv w_Type_HELD] [(.int (9 : Int32))])) _
    refine XS.iloadN X29.here hx rfl (hb hby d1_24) rfl ?_
    refine XS.icmpYes X29.here hx rfl (pc0 := 25) (pc' := 31) rfl (hb hby d1_25) rfl (feq (by decide +kernel : ¬ ((9 : Int32) = (13 : Int32)))).2 (by decide) (by decide) ?_
    refine XS.iinc X29.here hx rfl (hb hby d1_31) rfl (l' := #[iv (13 : Int32), rv b1_1_0, iv (15 : Int32), iv ((8 : Int32) + (1 : Int32)), rv w_Type_HELD]) rfl ?_
    show Steps p.tables e below (T29.setTop (mkF m 34 #[iv (13 : Int32), rv b1_1_0, iv (15 : Int32), iv ((8 : Int32) + (1 : Int32)), rv w_Type_HELD] [])) _
    rewrite [show ((8 : Int32) + (1 : Int32)) = (9 : Int32) from by decide +kernel]
    refine XS.goto X29.here hx rfl (pc0 := 34) (pc' := 9) rfl (hb hby d1_34) (by decide) (by decide) ?_
    refine XS.iloadN X29.here hx rfl (hb hby d1_9) rfl ?_
    refine XS.iloadN X29.here hx rfl (hb hby d1_10) rfl ?_
    show Steps p.tables e below (T29.setTop (mkF m 11 #[iv (13 : Int32), rv b1_1_0, iv (15 : Int32), iv (9 : Int32), rv w_Type_HELD] [(.int (15 : Int32)), (.int (9 : Int32))])) _
    refine XS.icmpNo X29.here hx rfl (hb hby d1_11) rfl (tlt (by decide +kernel : (9 : Int32) < (15 : Int32))).2.1 ?_
    refine XS.aloadN X29.here hx rfl (hb hby d1_14) rfl rfl ?_
    refine XS.iloadN X29.here hx rfl (hb hby d1_15) rfl ?_
    refine X29.aaload hx (j := (9 : Int32)) (v := (.ref w_Type_REPORTED)) (by rw [e29]; exact Ar30.1) (State.isArrayOf_alike hZ.alike Ar30.2.1) rfl Ar30.2.2 hin30 (Hs30.at hin30 rfl) (g := (mkF m 16 #[iv (13 : Int32), rv b1_1_0, iv (15 : Int32), iv (9 : Int32), rv w_Type_HELD] [(.int (9 : Int32)), (.ref b1_1_0)])) rfl rfl (hb hby d1_16) _ ?_
    refine XS.astore X29.here hx rfl (hb hby d1_17) rfl rfl (l' := #[iv (13 : Int32), rv b1_1_0, iv (15 : Int32), iv (9 : Int32), rv w_Type_REPORTED]) rfl ?_
    refine XS.aload X29.here hx rfl (hb hby d1_19) rfl rfl ?_
    show Steps p.tables e below (T29.setTop (mkF m 21 #[iv (13 : Int32), rv b1_1_0, iv (15 : Int32), iv (9 : Int32), rv w_Type_REPORTED] [(.ref w_Type_REPORTED)])) _
    refine st32 _ ?_
    refine XS.iloadN X32.here hx rfl (hb hby d1_24) rfl ?_
    refine XS.icmpYes X32.here hx rfl (pc0 := 25) (pc' := 31) rfl (hb hby d1_25) rfl (feq (by decide +kernel : ¬ ((10 : Int32) = (13 : Int32)))).2 (by decide) (by decide) ?_
    refine XS.iinc X32.here hx rfl (hb hby d1_31) rfl (l' := #[iv (13 : Int32), rv b1_1_0, iv (15 : Int32), iv ((9 : Int32) + (1 : Int32)), rv w_Type_REPORTED]) rfl ?_
    show Steps p.tables e below (T32.setTop (mkF m 34 #[iv (13 : Int32), rv b1_1_0, iv (15 : Int32), iv ((9 : Int32) + (1 : Int32)), rv w_Type_REPORTED] [])) _
    rewrite [show ((9 : Int32) + (1 : Int32)) = (10 : Int32) from by decide +kernel]
    refine XS.goto X32.here hx rfl (pc0 := 34) (pc' := 9) rfl (hb hby d1_34) (by decide) (by decide) ?_
    refine XS.iloadN X32.here hx rfl (hb hby d1_9) rfl ?_
    show Steps p.tables e below (T32.setTop (mkF m 10 #[iv (13 : Int32), rv b1_1_0, iv (15 : Int32), iv (10 : Int32), rv w_Type_REPORTED] [(.int (10 : Int32))])) _
    refine XS.iloadN X32.here hx rfl (hb hby d1_10) rfl ?_
    refine XS.icmpNo X32.here hx rfl (hb hby d1_11) rfl (tlt (by decide +kernel : (10 : Int32) < (15 : Int32))).2.1 ?_
    refine XS.aloadN X32.here hx rfl (hb hby d1_14) rfl rfl ?_
    refine XS.iloadN X32.here hx rfl (hb hby d1_15) rfl ?_
    refine X32.aaload hx (j := (10 : Int32)) (v := (.ref w_Type_LOCKED)) (by rw [e32]; exact Ar33.1) (State.isArrayOf_alike hZ.alike Ar33.2.1) rfl Ar33.2.2 hin33 (Hs33.at hin33 rfl) (g := (mkF m 16 #[iv (13 : Int32), rv b1_1_0, iv (15 : Int32), iv (10 : Int32), rv w_Type_REPORTED] [(.int (10 : Int32)), (.ref b1_1_0)])) rfl rfl (hb hby d1_16) _ ?_
    refine XS.astore X32.here hx rfl (hb hby d1_17) rfl rfl (l' := #[iv (13 : Int32), rv b1_1_0, iv (15 : Int32), iv (10 : Int32), rv w_Type_LOCKED]) rfl ?_
    show Steps p.tables e below (T32.setTop (mkF m 19 #[iv (13 : Int32), rv b1_1_0, iv (15 : Int32), iv (10 : Int32), rv w_Type_LOCKED] [])) _
    refine XS.aload X32.here hx rfl (hb hby d1_19) rfl rfl ?_
    refine st35 _ ?_
    refine XS.iloadN X35.here hx rfl (hb hby d1_24) rfl ?_
    refine XS.icmpYes X35.here hx rfl (pc0 := 25) (pc' := 31) rfl (hb hby d1_25) rfl (feq (by decide +kernel : ¬ ((11 : Int32) = (13 : Int32)))).2 (by decide) (by decide) ?_
    refine XS.iinc X35.here hx rfl (hb hby d1_31) rfl (l' := #[iv (13 : Int32), rv b1_1_0, iv (15 : Int32), iv ((10 : Int32) + (1 : Int32)), rv w_Type_LOCKED]) rfl ?_
    show Steps p.tables e below (T35.setTop (mkF m 34 #[iv (13 : Int32), rv b1_1_0, iv (15 : Int32), iv ((10 : Int32) + (1 : Int32)), rv w_Type_LOCKED] [])) _
    rewrite [show ((10 : Int32) + (1 : Int32)) = (11 : Int32) from by decide +kernel]
    refine XS.goto X35.here hx rfl (pc0 := 34) (pc' := 9) rfl (hb hby d1_34) (by decide) (by decide) ?_
    show Steps p.tables e below (T35.setTop (mkF m 9 #[iv (13 : Int32), rv b1_1_0, iv (15 : Int32), iv (11 : Int32), rv w_Type_LOCKED] [])) _
    refine XS.iloadN X35.here hx rfl (hb hby d1_9) rfl ?_
    refine XS.iloadN X35.here hx rfl (hb hby d1_10) rfl ?_
    refine XS.icmpNo X35.here hx rfl (hb hby d1_11) rfl (tlt (by decide +kernel : (11 : Int32) < (15 : Int32))).2.1 ?_
    refine XS.aloadN X35.here hx rfl (hb hby d1_14) rfl rfl ?_
    refine XS.iloadN X35.here hx rfl (hb hby d1_15) rfl ?_
    refine X35.aaload hx (j := (11 : Int32)) (v := (.ref w_Type_INQUIRE)) (by rw [e35]; exact Ar36.1) (State.isArrayOf_alike hZ.alike Ar36.2.1) rfl Ar36.2.2 hin36 (Hs36.at hin36 rfl) (g := (mkF m 16 #[iv (13 : Int32), rv b1_1_0, iv (15 : Int32), iv (11 : Int32), rv w_Type_LOCKED] [(.int (11 : Int32)), (.ref b1_1_0)])) rfl rfl (hb hby d1_16) _ ?_
    show Steps p.tables e below (T35.setTop (mkF m 17 #[iv (13 : Int32), rv b1_1_0, iv (15 : Int32), iv (11 : Int32), rv w_Type_LOCKED] [(.ref w_Type_INQUIRE)])) _
    refine XS.astore X35.here hx rfl (hb hby d1_17) rfl rfl (l' := #[iv (13 : Int32), rv b1_1_0, iv (15 : Int32), iv (11 : Int32), rv w_Type_INQUIRE]) rfl ?_
    refine XS.aload X35.here hx rfl (hb hby d1_19) rfl rfl ?_
    refine st38 _ ?_
    refine XS.iloadN X38.here hx rfl (hb hby d1_24) rfl ?_
    refine XS.icmpYes X38.here hx rfl (pc0 := 25) (pc' := 31) rfl (hb hby d1_25) rfl (feq (by decide +kernel : ¬ ((12 : Int32) = (13 : Int32)))).2 (by decide) (by decide) ?_
    refine XS.iinc X38.here hx rfl (hb hby d1_31) rfl (l' := #[iv (13 : Int32), rv b1_1_0, iv (15 : Int32), iv ((11 : Int32) + (1 : Int32)), rv w_Type_INQUIRE]) rfl ?_
    show Steps p.tables e below (T38.setTop (mkF m 34 #[iv (13 : Int32), rv b1_1_0, iv (15 : Int32), iv ((11 : Int32) + (1 : Int32)), rv w_Type_INQUIRE] [])) _
    rewrite [show ((11 : Int32) + (1 : Int32)) = (12 : Int32) from by decide +kernel]
    show Steps p.tables e below (T38.setTop (mkF m 34 #[iv (13 : Int32), rv b1_1_0, iv (15 : Int32), iv (12 : Int32), rv w_Type_INQUIRE] [])) _
    refine XS.goto X38.here hx rfl (pc0 := 34) (pc' := 9) rfl (hb hby d1_34) (by decide) (by decide) ?_
    refine XS.iloadN X38.here hx rfl (hb hby d1_9) rfl ?_
    refine XS.iloadN X38.here hx rfl (hb hby d1_10) rfl ?_
    refine XS.icmpNo X38.here hx rfl (hb hby d1_11) rfl (tlt (by decide +kernel : (12 : Int32) < (15 : Int32))).2.1 ?_
    refine XS.aloadN X38.here hx rfl (hb hby d1_14) rfl rfl ?_
    refine XS.iloadN X38.here hx rfl (hb hby d1_15) rfl ?_
    show Steps p.tables e below (T38.setTop (mkF m 16 #[iv (13 : Int32), rv b1_1_0, iv (15 : Int32), iv (12 : Int32), rv w_Type_INQUIRE] [(.int (12 : Int32)), (.ref b1_1_0)])) _
    refine X38.aaload hx (j := (12 : Int32)) (v := (.ref w_Type_FAILED)) (by rw [e38]; exact Ar39.1) (State.isArrayOf_alike hZ.alike Ar39.2.1) rfl Ar39.2.2 hin39 (Hs39.at hin39 rfl) (g := (mkF m 16 #[iv (13 : Int32), rv b1_1_0, iv (15 : Int32), iv (12 : Int32), rv w_Type_INQUIRE] [(.int (12 : Int32)), (.ref b1_1_0)])) rfl rfl (hb hby d1_16) _ ?_
    refine XS.astore X38.here hx rfl (hb hby d1_17) rfl rfl (l' := #[iv (13 : Int32), rv b1_1_0, iv (15 : Int32), iv (12 : Int32), rv w_Type_FAILED]) rfl ?_
    refine XS.aload X38.here hx rfl (hb hby d1_19) rfl rfl ?_
    refine st41 _ ?_
    refine XS.iloadN X41.here hx rfl (hb hby d1_24) rfl ?_
    refine XS.icmpNo X41.here hx rfl (hb hby d1_25) rfl (teq (by decide +kernel : (13 : Int32) = (13 : Int32))).2 ?_
    show Steps p.tables e below (T41.setTop (mkF m 28 #[iv (13 : Int32), rv b1_1_0, iv (15 : Int32), iv (12 : Int32), rv w_Type_FAILED] [])) _
    refine XS.aload X41.here hx rfl (hb hby d1_28) rfl rfl ?_
    exact own_retA X41 hx Bd.returns rfl rfl (hb hby d1_30) hr
  · exact (by show Q_rk_found_12 Z w_Type_FAILED h0 n0 _ T41.heap _; rw [e41]; exact ⟨rfl, N1, KK1⟩)
def Q_rk_found_13 (Z : State) (w_Type_RELINQUISH : Addr) (h0 : Heap) (n0 : Nat) (v : Option Value) (h : Heap) (L : List Loc) : Prop := (v = (some (.ref w_Type_RELINQUISH))) ∧ (Fr n0 L) ∧ (Keep h0 h [])
set_option maxRecDepth 65536 in
set_option maxHeartbeats 40000000 in
theorem rk_found_13 (l : Launch) (Z : State) (a0 : Array Value) (hw : ∀ d ∈ tables_1, d.before a0 Z = true) (ws : List Jvm.Cond) (w_Type__VALUES : Addr) (w_Type_REQUEST : Addr) (w_Type_REPLY : Addr) (w_Type_HEARTBEAT : Addr) (w_Type_ELECTION : Addr) (w_Type_ANSWER : Addr) (w_Type_COORDINATOR : Addr) (w_Type_GRANT : Addr) (w_Type_RELEASE : Addr) (w_Type_HELD : Addr) (w_Type_REPORTED : Addr) (w_Type_LOCKED : Addr) (w_Type_INQUIRE : Addr) (w_Type_FAILED : Addr) (w_Type_RELINQUISH : Addr) (w_Type_TOKEN : Addr) (k_w_Type__VALUES : ClassId) (h0 : Heap) (n0 : Nat) (Z0 : n0 ≤ h0.size) (S_Type__VALUES : Sta Z h0 "com/example/stile/stile/Message$Type" "$VALUES" "[Lcom/example/stile/stile/Message$Type;" (.ref w_Type__VALUES)) (V_w_Type__VALUES : Arv Z h0 w_Type__VALUES k_w_Type__VALUES (.object "com/example/stile/stile/Message$Type") (15 : Int32) [(.ref w_Type_REQUEST), (.ref w_Type_REPLY), (.ref w_Type_HEARTBEAT), (.ref w_Type_ELECTION), (.ref w_Type_ANSWER), (.ref w_Type_COORDINATOR), (.ref w_Type_GRANT), (.ref w_Type_RELEASE), (.ref w_Type_HELD), (.ref w_Type_REPORTED), (.ref w_Type_LOCKED), (.ref w_Type_INQUIRE), (.ref w_Type_FAILED), (.ref w_Type_RELINQUISH), (.ref w_Type_TOKEN)] .null) (E_w_Type__VALUES : Exa Z h0 w_Type__VALUES "[Lcom/example/stile/stile/Message$Type;") (F_w_Type_REQUEST_code : Fld Z h0 w_Type_REQUEST "com/example/stile/stile/Message$Type" "code" "I" (.int (1 : Int32))) (F_w_Type_REPLY_code : Fld Z h0 w_Type_REPLY "com/example/stile/stile/Message$Type" "code" "I" (.int (2 : Int32))) (F_w_Type_HEARTBEAT_code : Fld Z h0 w_Type_HEARTBEAT "com/example/stile/stile/Message$Type" "code" "I" (.int (3 : Int32))) (F_w_Type_ELECTION_code : Fld Z h0 w_Type_ELECTION "com/example/stile/stile/Message$Type" "code" "I" (.int (4 : Int32))) (F_w_Type_ANSWER_code : Fld Z h0 w_Type_ANSWER "com/example/stile/stile/Message$Type" "code" "I" (.int (5 : Int32))) (F_w_Type_COORDINATOR_code : Fld Z h0 w_Type_COORDINATOR "com/example/stile/stile/Message$Type" "code" "I" (.int (6 : Int32))) (F_w_Type_GRANT_code : Fld Z h0 w_Type_GRANT "com/example/stile/stile/Message$Type" "code" "I" (.int (7 : Int32))) (F_w_Type_RELEASE_code : Fld Z h0 w_Type_RELEASE "com/example/stile/stile/Message$Type" "code" "I" (.int (8 : Int32))) (F_w_Type_HELD_code : Fld Z h0 w_Type_HELD "com/example/stile/stile/Message$Type" "code" "I" (.int (9 : Int32))) (F_w_Type_REPORTED_code : Fld Z h0 w_Type_REPORTED "com/example/stile/stile/Message$Type" "code" "I" (.int (10 : Int32))) (F_w_Type_LOCKED_code : Fld Z h0 w_Type_LOCKED "com/example/stile/stile/Message$Type" "code" "I" (.int (11 : Int32))) (F_w_Type_INQUIRE_code : Fld Z h0 w_Type_INQUIRE "com/example/stile/stile/Message$Type" "code" "I" (.int (12 : Int32))) (F_w_Type_FAILED_code : Fld Z h0 w_Type_FAILED "com/example/stile/stile/Message$Type" "code" "I" (.int (13 : Int32))) (F_w_Type_RELINQUISH_code : Fld Z h0 w_Type_RELINQUISH "com/example/stile/stile/Message$Type" "code" "I" (.int (14 : Int32))) :
    MetFree l (⟨"com/example/stile/stile/Message$Type", "of", "(I)Lcom/example/stile/stile/Message$Type;"⟩ : MethodName) (head1 (Jvm.Cond.code (⟨"com/example/stile/stile/Message$Type", "of", "(I)Lcom/example/stile/stile/Message$Type;"⟩ : MethodName) prog_48_method_8_code 5 (some (.object "com/example/stile/stile/Message$Type")) :: ws) ({ frames := 2, cells := 1, slots := 15, locals := 25 } : Room)) (fun a U => a = #[(.int (14 : Int32))] ∧ Z.Warmed39 U.vm ∧ U.heap = h0) (fun _ _ _ _ _ => True) (fun _ U o U' => ∃ v L, o = .returned v ∧ Q_rk_found_13 Z w_Type_RELINQUISH h0 n0 v U'.heap L ∧ FrameEnd U o U' L ({ frames := 2, cells := 1, slots := 15, locals := 25 } : Room).cells ({ frames := 2, cells := 1, slots := 15, locals := 25 } : Room).slots) := by
  refine MetFree.of_bodySF (plainFor_of_name pn_0) hisR ?_
  intro p e s m args below meth c s₁ Bd hml0 hP hK
  obtain ⟨rfl, hZ, hh⟩ := hP
  have hx := Bd.exec
  have hby := Bd.bytes
  have hml : c.maxLocals = 5 := hml0
  have hown : s.vm.findClass "com/example/stile/stile/Message$Type" = some m.cls := findClass_of_methodNamed Bd.named
  have hnm := (name_of_methodNamed Bd.named Bd.method).1
  have X0 : Stand p l e ({ frames := 2, cells := 1, slots := 15, locals := 25 } : Room) s m #[(.int (14 : Int32))] below meth c s₁ [] 0 0 := Stand.of_body Bd
  have e0 : s₁.heap = h0 := by rw [← hh, Bd.state]; rfl
  have N0 := Fr.nil n0
  have pre0 : ∀ t, Steps p.tables e below (s₁.setTop (mkF m 0 #[iv (14 : Int32), .unset, .unset, .unset, .unset] [])) t → Steps p.tables e below (s₁.setTop (entryFrame m #[(.int (14 : Int32))] 5)) t := fun t k => castTop (ef_1_I m (14 : Int32)) k
  obtain ⟨_, _, ⟨T1, L1, k1, n1⟩, -, X1, ⟨Lc1, hQ1, l1, y1, z1⟩, st1⟩ := Jvm.LawKit.callS X0 hx (y := (⟨"com/example/stile/stile/Message$Type", "values", "()[Lcom/example/stile/stile/Message$Type;"⟩ : MethodName)) hown (mvT hZ (hw _ (List.mem_of_getElem? (i := 4) rfl))) (mvT hZ (hw _ (List.mem_of_getElem? (i := 5) rfl))) (mvT hZ (hw _ (List.mem_of_getElem? (i := 2) rfl))) (mvT hZ (hw _ (List.mem_of_getElem? (i := 6) rfl))) (by decide) (backOf (W := 0) (rm2_0 l Z a0 hw [] w_Type__VALUES w_Type_REQUEST w_Type_REPLY w_Type_HEARTBEAT w_Type_ELECTION w_Type_ANSWER w_Type_COORDINATOR w_Type_GRANT w_Type_RELEASE w_Type_HELD w_Type_REPORTED w_Type_LOCKED w_Type_INQUIRE w_Type_FAILED w_Type_RELINQUISH w_Type_TOKEN k_w_Type__VALUES h0 n0 Z0 S_Type__VALUES V_w_Type__VALUES E_w_Type__VALUES) hZ (hw _ (List.mem_of_getElem? (i := 6) rfl)) (hw _ (List.mem_of_getElem? (i := 2) rfl)) (by decide) (by decide)) (g := (mkF m 0 #[iv (14 : Int32), .unset, .unset, .unset, .unset] [])) rfl (by rw [hml]; rfl) (argsL := []) (rest := []) (lenOf pd_0 rfl) rfl (by show 2 * 0 + _ ≤ _; exact Nat.le_of_eq rfl) (hb hby d1_0) (fun _ _ => ⟨rfl, e0, (by decide : 0 + 1 ≤ _), (by decide : 0 + 15 ≤ _)⟩)
  dsimp only [Pt.U, Pt.locs, Pt.cells, Pt.slots] at X1 l1 y1 z1 st1 hQ1
  subst l1 y1 z1
  obtain ⟨b1_1_0, rfl, N1q, K1, gq_b1_1_0, le_b1_1_0, fq1_0, fq1_1⟩ := hQ1
  have sz_b1_1_0 : h0.size ≤ b1_1_0 := Nat.le_trans (Keep.refl h0 []).1 le_b1_1_0
  have KK1 : Keep h0 T1.heap [] := (Keep.refl h0 []).trans K1 all0
  have Z1 : n0 ≤ T1.heap.size := Nat.le_trans Z0 K1.1
  have N1 := Fr.app N0 N1q
  obtain ⟨cl2, Ar2, -, Sz2, Nn2, -, -⟩ := id fq1_0
  obtain ⟨cl3, Ar3, -, Sz3, Nn3, Hs3, Gs3⟩ := id fq1_0
  have hin3 : ¬ ((0 : Int32) < 0 ∨ cl3.slots.size ≤ ((0 : Int32)).toNatClampNeg) := inb_of Sz3 ⟨by decide, by decide⟩
  have c4 := (F_w_Type_REQUEST_code.keep K1 nin0)
  obtain ⟨T5, X5, e5, st5⟩ := getF X1 hx hZ hown (host := "") (Or.inl (hw _ (List.mem_of_getElem? (i := 34) rfl))) Via.refl rfl c4 (g := (mkF m 21 #[iv (14 : Int32), rv b1_1_0, iv (15 : Int32), iv (0 : Int32), rv w_Type_REQUEST] [(.ref w_Type_REQUEST)])) rfl rfl (hb hby d1_21)
  obtain ⟨cl6, Ar6, -, Sz6, Nn6, Hs6, Gs6⟩ := id fq1_0
  have hin6 : ¬ ((1 : Int32) < 0 ∨ cl6.slots.size ≤ ((1 : Int32)).toNatClampNeg) := inb_of Sz6 ⟨by decide, by decide⟩
  have c7 := (F_w_Type_REPLY_code.keep K1 nin0)
  obtain ⟨T8, X8, e8, st8⟩ := getF X5 hx hZ hown (host := "") (Or.inl (hw _ (List.mem_of_getElem? (i := 34) rfl))) Via.refl e5 c7 (g := (mkF m 21 #[iv (14 : Int32), rv b1_1_0, iv (15 : Int32), iv (1 : Int32), rv w_Type_REPLY] [(.ref w_Type_REPLY)])) rfl rfl (hb hby d1_21)
  obtain ⟨cl9, Ar9, -, Sz9, Nn9, Hs9, Gs9⟩ := id fq1_0
  have hin9 : ¬ ((2 : Int32) < 0 ∨ cl9.slots.size ≤ ((2 : Int32)).toNatClampNeg) := inb_of Sz9 ⟨by decide, by decide⟩
  have c10 := (F_w_Type_HEARTBEAT_code.keep K1 nin0)
  obtain ⟨T11, X11, e11, st11⟩ := getF X8 hx hZ hown (host := "") (Or.inl (hw _ (List.mem_of_getElem? (i := 34) rfl))) Via.refl e8 c10 (g := (mkF m 21 #[iv (14 : Int32), rv b1_1_0, iv (15 : Int32), iv (2 : Int32), rv w_Type_HEARTBEAT] [(.ref w_Type_HEARTBEAT)])) rfl rfl (hb hby d1_21)
  obtain ⟨cl12, Ar12, -, Sz12, Nn12, Hs12, Gs12⟩ := id fq1_0
  have hin12 : ¬ ((3 : Int32) < 0 ∨ cl12.slots.size ≤ ((3 : Int32)).toNatClampNeg) := inb_of Sz12 ⟨by decide, by decide⟩
  have c13 := (F_w_Type_ELECTION_code.keep K1 nin0)
  obtain ⟨T14, X14, e14, st14⟩ := getF X11 hx hZ hown (host := "") (Or.inl (hw _ (List.mem_of_getElem? (i := 34) rfl))) Via.refl e11 c13 (g := (mkF m 21 #[iv (14 : Int32), rv b1_1_0, iv (15 : Int32), iv (3 : Int32), rv w_Type_ELECTION] [(.ref w_Type_ELECTION)])) rfl rfl (hb hby d1_21)
  obtain ⟨cl15, Ar15, -, Sz15, Nn15, Hs15, Gs15⟩ := id fq1_0
  have hin15 : ¬ ((4 : Int32) < 0 ∨ cl15.slots.size ≤ ((4 : Int32)).toNatClampNeg) := inb_of Sz15 ⟨by decide, by decide⟩
  have c16 := (F_w_Type_ANSWER_code.keep K1 nin0)
  obtain ⟨T17, X17, e17, st17⟩ := getF X14 hx hZ hown (host := "") (Or.inl (hw _ (List.mem_of_getElem? (i := 34) rfl))) Via.refl e14 c16 (g := (mkF m 21 #[iv (14 : Int32), rv b1_1_0, iv (15 : Int32), iv (4 : Int32), rv w_Type_ANSWER] [(.ref w_Type_ANSWER)])) rfl rfl (hb hby d1_21)
  obtain ⟨cl18, Ar18, -, Sz18, Nn18, Hs18, Gs18⟩ := id fq1_0
  have hin18 : ¬ ((5 : Int32) < 0 ∨ cl18.slots.size ≤ ((5 : Int32)).toNatClampNeg) := inb_of Sz18 ⟨by decide, by decide⟩
  have c19 := (F_w_Type_COORDINATOR_code.keep K1 nin0)
  obtain ⟨T20, X20, e20, st20⟩ := getF X17 hx hZ hown (host := "") (Or.inl (hw _ (List.mem_of_getElem? (i := 34) rfl))) Via.refl e17 c19 (g := (mkF m 21 #[iv (14 : Int32), rv b1_1_0, iv (15 : Int32), iv (5 : Int32), rv w_Type_COORDINATOR] [(.ref w_Type_COORDINATOR)])) rfl rfl (hb hby d1_21)
  obtain ⟨cl21, Ar21, -, Sz21, Nn21, Hs21, Gs21⟩ := id fq1_0
  have hin21 : ¬ ((6 : Int32) < 0 ∨ cl21.slots.size ≤ ((6 : Int32)).toNatClampNeg) := inb_of Sz21 ⟨by decide, by decide⟩
  have c22 := (F_w_Type_GRANT_code.keep K1 nin0)
  obtain ⟨T23, X23, e23, st23⟩ := getF X20 hx hZ hown (host := "") (Or.inl (hw _ (List.mem_of_getElem? (i := 34) rfl))) Via.refl e20 c22 (g := (mkF m 21 #[iv (14 : Int32), rv b1_1_0, iv (15 : Int32), iv (6 : Int32), rv w_Type_GRANT] [(.ref w_Type_GRANT)])) rfl rfl (hb hby d1_21)
  obtain ⟨cl24, Ar24, -, Sz24, Nn24, Hs24, Gs24⟩ := id fq1_0
  have hin24 : ¬ ((7 : Int32) < 0 ∨ cl24.slots.size ≤ ((7 : Int32)).toNatClampNeg) := inb_of Sz24 ⟨by decide, by decide⟩
  have c25 := (F_w_Type_RELEASE_code.keep K1 nin0)
  obtain ⟨T26, X26, e26, st26⟩ := getF X23 hx hZ hown (host := "") (Or.inl (hw _ (List.mem_of_getElem? (i := 34) rfl))) Via.refl e23 c25 (g := (mkF m 21 #[iv (14 : Int32), rv b1_1_0, iv (15 : Int32), iv (7 : Int32), rv w_Type_RELEASE] [(.ref w_Type_RELEASE)])) rfl rfl (hb hby d1_21)
  obtain ⟨cl27, Ar27, -, Sz27, Nn27, Hs27, Gs27⟩ := id fq1_0
  have hin27 : ¬ ((8 : Int32) < 0 ∨ cl27.slots.size ≤ ((8 : Int32)).toNatClampNeg) := inb_of Sz27 ⟨by decide, by decide⟩
  have c28 := (F_w_Type_HELD_code.keep K1 nin0)
  obtain ⟨T29, X29, e29, st29⟩ := getF X26 hx hZ hown (host := "") (Or.inl (hw _ (List.mem_of_getElem? (i := 34) rfl))) Via.refl e26 c28 (g := (mkF m 21 #[iv (14 : Int32), rv b1_1_0, iv (15 : Int32), iv (8 : Int32), rv w_Type_HELD] [(.ref w_Type_HELD)])) rfl rfl (hb hby d1_21)
  obtain ⟨cl30, Ar30, -, Sz30, Nn30, Hs30, Gs30⟩ := id fq1_0
  have hin30 : ¬ ((9 : Int32) < 0 ∨ cl30.slots.size ≤ ((9 : Int32)).toNatClampNeg) := inb_of Sz30 ⟨by decide, by decide⟩
  have c31 := (F_w_Type_REPORTED_code.keep K1 nin0)
  obtain ⟨T32, X32, e32, st32⟩ := getF X29 hx hZ hown (host := "") (Or.inl (hw _ (List.mem_of_getElem? (i := 34) rfl))) Via.refl e29 c31 (g := (mkF m 21 #[iv (14 : Int32), rv b1_1_0, iv (15 : Int32), iv (9 : Int32), rv w_Type_REPORTED] [(.ref w_Type_REPORTED)])) rfl rfl (hb hby d1_21)
  obtain ⟨cl33, Ar33, -, Sz33, Nn33, Hs33, Gs33⟩ := id fq1_0
  have hin33 : ¬ ((10 : Int32) < 0 ∨ cl33.slots.size ≤ ((10 : Int32)).toNatClampNeg) := inb_of Sz33 ⟨by decide, by decide⟩
  have c34 := (F_w_Type_LOCKED_code.keep K1 nin0)
  obtain ⟨T35, X35, e35, st35⟩ := getF X32 hx hZ hown (host := "") (Or.inl (hw _ (List.mem_of_getElem? (i := 34) rfl))) Via.refl e32 c34 (g := (mkF m 21 #[iv (14 : Int32), rv b1_1_0, iv (15 : Int32), iv (10 : Int32), rv w_Type_LOCKED] [(.ref w_Type_LOCKED)])) rfl rfl (hb hby d1_21)
  obtain ⟨cl36, Ar36, -, Sz36, Nn36, Hs36, Gs36⟩ := id fq1_0
  have hin36 : ¬ ((11 : Int32) < 0 ∨ cl36.slots.size ≤ ((11 : Int32)).toNatClampNeg) := inb_of Sz36 ⟨by decide, by decide⟩
  have c37 := (F_w_Type_INQUIRE_code.keep K1 nin0)
  obtain ⟨T38, X38, e38, st38⟩ := getF X35 hx hZ hown (host := "") (Or.inl (hw _ (List.mem_of_getElem? (i := 34) rfl))) Via.refl e35 c37 (g := (mkF m 21 #[iv (14 : Int32), rv b1_1_0, iv (15 : Int32), iv (11 : Int32), rv w_Type_INQUIRE] [(.ref w_Type_INQUIRE)])) rfl rfl (hb hby d1_21)
  obtain ⟨cl39, Ar39, -, Sz39, Nn39, Hs39, Gs39⟩ := id fq1_0
  have hin39 : ¬ ((12 : Int32) < 0 ∨ cl39.slots.size ≤ ((12 : Int32)).toNatClampNeg) := inb_of Sz39 ⟨by decide, by decide⟩
  have c40 := (F_w_Type_FAILED_code.keep K1 nin0)
  obtain ⟨T41, X41, e41, st41⟩ := getF X38 hx hZ hown (host := "") (Or.inl (hw _ (List.mem_of_getElem? (i := 34) rfl))) Via.refl e38 c40 (g := (mkF m 21 #[iv (14 : Int32), rv b1_1_0, iv (15 : Int32), iv (12 : Int32), rv w_Type_FAILED] [(.ref w_Type_FAILED)])) rfl rfl (hb hby d1_21)
  obtain ⟨cl42, Ar42, -, Sz42, Nn42, Hs42, Gs42⟩ := id fq1_0
  have hin42 : ¬ ((13 : Int32) < 0 ∨ cl42.slots.size ≤ ((13 : Int32)).toNatClampNeg) := inb_of Sz42 ⟨by decide, by decide⟩
  have c43 := (F_w_Type_RELINQUISH_code.keep K1 nin0)
  obtain ⟨T44, X44, e44, st44⟩ := getF X41 hx hZ hown (host := "") (Or.inl (hw _ (List.mem_of_getElem? (i := 34) rfl))) Via.refl e41 c43 (g := (mkF m 21 #[iv (14 : Int32), rv b1_1_0, iv (15 : Int32), iv (13 : Int32), rv w_Type_RELINQUISH] [(.ref w_Type_RELINQUISH)])) rfl rfl (hb hby d1_21)
  obtain ⟨fs, hr, hrun, hended, hW, hsame⟩ := X44.leave (v := (some (.ref w_Type_RELINQUISH))) (fun h => by rw [Bd.returns] at h; cases h)
  refine ⟨_, _, pre0 _ ?_, hrun, hended, _, _, rfl, ?_, ⟨_, rfl⟩, hW, hsame.mono (by decide) (by decide)⟩
  · show Steps p.tables e below (s₁.setTop (mkF m 0 #[iv (14 : Int32), .unset, .unset, .unset, .unset] [])) _
    refine st1 _ ?_
    refine XS.astoreN X1.here hx rfl (hb hby d1_3) rfl rfl (l' := #[iv (14 : Int32), rv b1_1_0, .unset, .unset, .unset]) rfl ?_
    refine XS.aloadN X1.here hx rfl (hb hby d1_4) rfl rfl ?_
    refine X1.arraylength hx Ar2.1 (State.isArrayOf_alike hZ.alike Ar2.2.1) (g := (mkF m 5 #[iv (14 : Int32), rv b1_1_0, .unset, .unset, .unset] [(.ref b1_1_0)])) rfl rfl (hb hby d1_5) _ ?_
    rw [len_of Sz2 Nn2]
    refine XS.istoreN X1.here hx rfl (hb hby d1_6) rfl (l' := #[iv (14 : Int32), rv b1_1_0, iv (15 : Int32), .unset, .unset]) rfl ?_
    refine XS.iconst X1.here hx rfl (hb hby d1_7) ?_
    show Steps p.tables e below (T1.setTop (mkF m 8 #[iv (14 : Int32), rv b1_1_0, iv (15 : Int32), .unset, .unset] [(.int (0 : Int32))])) _
    refine XS.istoreN X1.here hx rfl (hb hby d1_8) rfl (l' := #[iv (14 : Int32), rv b1_1_0, iv (15 : Int32), iv (0 : Int32), .unset]) rfl ?_
    refine XS.iloadN X1.here hx rfl (hb hby d1_9) rfl ?_
    refine XS.iloadN X1.here hx rfl (hb hby d1_10) rfl ?_
    refine XS.icmpNo X1.here hx rfl (hb hby d1_11) rfl (tlt (by decide +kernel : (0 : Int32) < (15 : Int32))).2.1 ?_
    refine XS.aloadN X1.here hx rfl (hb hby d1_14) rfl rfl ?_
    refine XS.iloadN X1.here hx rfl (hb hby d1_15) rfl ?_
    show Steps p.tables e below (T1.setTop (mkF m 16 #[iv (14 : Int32), rv b1_1_0, iv (15 : Int32), iv (0 : Int32), .unset] [(.int (0 : Int32)), (.ref b1_1_0)])) _
    refine X1.aaload hx (j := (0 : Int32)) (v := (.ref w_Type_REQUEST)) Ar3.1 (State.isArrayOf_alike hZ.alike Ar3.2.1) rfl Ar3.2.2 hin3 (Hs3.at hin3 rfl) (g := (mkF m 16 #[iv (14 : Int32), rv b1_1_0, iv (15 : Int32), iv (0 : Int32), .unset] [(.int (0 : Int32)), (.ref b1_1_0)])) rfl rfl (hb hby d1_16) _ ?_
    refine XS.astore X1.here hx rfl (hb hby d1_17) rfl rfl (l' := #[iv (14 : Int32), rv b1_1_0, iv (15 : Int32), iv (0 : Int32), rv w_Type_REQUEST]) rfl ?_
    refine XS.aload X1.here hx rfl (hb hby d1_19) rfl rfl ?_
    refine st5 _ ?_
    refine XS.iloadN X5.here hx rfl (hb hby d1_24) rfl ?_
    refine XS.icmpYes X5.here hx rfl (pc0 := 25) (pc' := 31) rfl (hb hby d1_25) rfl (feq (by decide +kernel : ¬ ((1 : Int32) = (14 : Int32)))).2 (by decide) (by decide) ?_
    show Steps p.tables e below (T5.setTop (mkF m 31 #[iv (14 : Int32), rv b1_1_0, iv (15 : Int32), iv (0 : Int32), rv w_Type_REQUEST] [])) _
    refine XS.iinc X5.here hx rfl (hb hby d1_31) rfl (l' := #[iv (14 : Int32), rv b1_1_0, iv (15 : Int32), iv ((0 : Int32) + (1 : Int32)), rv w_Type_REQUEST]) rfl ?_
    show Steps p.tables e below (T5.setTop (mkF m 34 #[iv (14 : Int32), rv b1_1_0, iv (15 : Int32), iv ((0 : Int32) + (1 : Int32)), rv w_Type_REQUEST] [])) _
    rewrite [show ((0 : Int32) + (1 : Int32)) = (1 : Int32) from by decide +kernel]
    refine XS.goto X5.here hx rfl (pc0 := 34) (pc' := 9) rfl (hb hby d1_34) (by decide) (by decide) ?_
    refine XS.iloadN X5.here hx rfl (hb hby d1_9) rfl ?_
    refine XS.iloadN X5.here hx rfl (hb hby d1_10) rfl ?_
    refine XS.icmpNo X5.here hx rfl (hb hby d1_11) rfl (tlt (by decide +kernel : (1 : Int32) < (15 : Int32))).2.1 ?_
    refine XS.aloadN X5.here hx rfl (hb hby d1_14) rfl rfl ?_
    show Steps p.tables e below (T5.setTop (mkF m 15 #[iv (14 : Int32), rv b1_1_0, iv (15 : Int32), iv (1 : Int32), rv w_Type_REQUEST] [(.ref b1_1_0)])) _
    refine XS.iloadN X5.here hx rfl (hb hby d1_15) rfl ?_
    refine X5.aaload hx (j := (1 : Int32)) (v := (.ref w_Type_REPLY)) (by rw [e5]; exact Ar6.1) (State.isArrayOf_alike hZ.alike Ar6.2.1) rfl Ar6.2.2 hin6 (Hs6.at hin6 rfl) (g := (mkF m 16 #[iv (14 : Int32), rv b1_1_0, iv (15 : Int32), iv (1 : Int32), rv w_Type_REQUEST] [(.int (1 : Int32)), (.ref b1_1_0)])) rfl rfl (hb hby d1_16) _ ?_
    refine XS.astore X5.here hx rfl (hb hby d1_17) rfl rfl (l' := #[iv (14 : Int32), rv b1_1_0, iv (15 : Int32), iv (1 : Int32), rv w_Type_REPLY]) rfl ?_
    refine XS.aload X5.here hx rfl (hb hby d1_19) rfl rfl ?_
    refine st8 _ ?_
    refine XS.iloadN X8.here hx rfl (hb hby d1_24) rfl ?_
    show Steps p.tables e below (T8.setTop (mkF m 25 #[iv (14 : Int32), rv b1_1_0, iv (15 : Int32), iv (1 : Int32), rv w_Type_REPLY] [(.int (14 : Int32)), (.int (2 : Int32))])) _
    refine XS.icmpYes X8.here hx rfl (pc0 := 25) (pc' := 31) rfl (hb hby d1_25) rfl (feq (by decide +kernel : ¬ ((2 : Int32) = (14 : Int32)))).2 (by decide) (by decide) ?_
    refine XS.iinc X8.here hx rfl (hb hby d1_31) rfl (l' := #[iv (14 : Int32), rv b1_1_0, iv (15 : Int32), iv ((1 : Int32) + (1 : Int32)), rv w_Type_REPLY]) rfl ?_
    show Steps p.tables e below (T8.setTop (mkF m 34 #[iv (14 : Int32), rv b1_1_0, iv (15 : Int32), iv ((1 : Int32) + (1 : Int32)), rv w_Type_REPLY] [])) _
    rewrite [show ((1 : Int32) + (1 : Int32)) = (2 : Int32) from by decide +kernel]
    refine XS.goto X8.here hx rfl (pc0 := 34) (pc' := 9) rfl (hb hby d1_34) (by decide) (by decide) ?_
    refine XS.iloadN X8.here hx rfl (hb hby d1_9) rfl ?_
    refine XS.iloadN X8.here hx rfl (hb hby d1_10) rfl ?_
    refine XS.icmpNo X8.here hx rfl (hb hby d1_11) rfl (tlt (by decide +kernel : (2 : Int32) < (15 : Int32))).2.1 ?_
    show Steps p.tables e below (T8.setTop (mkF m 14 #[iv (14 : Int32), rv b1_1_0, iv (15 : Int32), iv (2 : Int32), rv w_Type_REPLY] [])) _
    refine XS.aloadN X8.here hx rfl (hb hby d1_14) rfl rfl ?_
    refine XS.iloadN X8.here hx rfl (hb hby d1_15) rfl ?_
    refine X8.aaload hx (j := (2 : Int32)) (v := (.ref w_Type_HEARTBEAT)) (by rw [e8]; exact Ar9.1) (State.isArrayOf_alike hZ.alike Ar9.2.1) rfl Ar9.2.2 hin9 (Hs9.at hin9 rfl) (g := (mkF m 16 #[iv (14 : Int32), rv b1_1_0, iv (15 : Int32), iv (2 : Int32), rv w_Type_REPLY] [(.int (2 : Int32)), (.ref b1_1_0)])) rfl rfl (hb hby d1_16) _ ?_
    refine XS.astore X8.here hx rfl (hb hby d1_17) rfl rfl (l' := #[iv (14 : Int32), rv b1_1_0, iv (15 : Int32), iv (2 : Int32), rv w_Type_HEARTBEAT]) rfl ?_
    refine XS.aload X8.here hx rfl (hb hby d1_19) rfl rfl ?_
    refine st11 _ ?_
    show Steps p.tables e below (T11.setTop (mkF m 24 #[iv (14 : Int32), rv b1_1_0, iv (15 : Int32), iv (2 : Int32), rv w_Type_HEARTBEAT] [(.int (3 : Int32))])) _
    refine XS.iloadN X11.here hx rfl (hb hby d1_24) rfl ?_
    refine XS.icmpYes X11.here hx rfl (pc0 := 25) (pc' := 31) rfl (hb hby d1_25) rfl (feq (by decide +kernel : ¬ ((3 : Int32) = (14 : Int32)))).2 (by decide) (by decide) ?_
    refine XS.iinc X11.here hx rfl (hb hby d1_31) rfl (l' := #[iv (14 : Int32), rv b1_1_0, iv (15 : Int32), iv ((2 : Int32) + (1 : Int32)), rv w_Type_HEARTBEAT]) rfl ?_
    show Steps p.tables e below (T11.setTop (mkF m 34 #[iv (14 : Int32), rv b1_1_0, iv (15 : Int32), iv ((2 : Int32) + (1 : Int32)), rv w_Type_HEARTBEAT] [])) _
    rewrite [show ((2 : Int32) + (1 : Int32)) = (3 : Int32) from by decide +kernel]
    refine XS.goto X11.here hx rfl (pc0 := 34) (pc' := 9) rfl (hb hby d1_34) (by decide) (by decide) ?_
    refine XS.iloadN X11.here hx rfl (hb hby d1_9) rfl ?_
    refine XS.iloadN X11.here hx rfl (hb hby d1_10) rfl ?_
    show Steps p.tables e below (T11.setTop (mkF m 11 #[iv (14 : Int32), rv b1_1_0, iv (15 : Int32), iv (3 : Int32), rv w_Type_HEARTBEAT] [(.int (15 : Int32)), (.int (3 : Int32))])) _
    refine XS.icmpNo X11.here hx rfl (hb hby d1_11) rfl (tlt (by decide +kernel : (3 : Int32) < (15 : Int32))).2.1 ?_
    refine XS.aloadN X11.here hx rfl (hb hby d1_14) rfl rfl ?_
    refine XS.iloadN X11.here hx rfl (hb hby d1_15) rfl ?_
    refine X11.aaload hx (j := (3 : Int32)) (v := (.ref w_Type_ELECTION)) (by rw [e11]; exact Ar12.1) (State.isArrayOf_alike hZ.alike Ar12.2.1) rfl Ar12.2.2 hin12 (Hs12.at hin12 rfl) (g := (mkF m 16 #[iv (14 : Int32), rv b1_1_0, iv (15 : Int32), iv (3 : Int32), rv w_Type_HEARTBEAT] [(.int (3 : Int32)), (.ref b1_1_0)])) rfl rfl (hb hby d1_16) _ ?_
    refine XS.astore X11.here hx rfl (hb hby d1_17) rfl rfl (l' := #[iv (14 : Int32), rv b1_1_0, iv (15 : Int32), iv (3 : Int32), rv w_Type_ELECTION]) rfl ?_
    refine XS.aload X11.here hx rfl (hb hby d1_19) rfl rfl ?_
    show Steps p.tables e below (T11.setTop (mkF m 21 #[iv (14 : Int32), rv b1_1_0, iv (15 : Int32), iv (3 : Int32), rv w_Type_ELECTION] [(.ref w_Type_ELECTION)])) _
    refine st14 _ ?_
    refine XS.iloadN X14.here hx rfl (hb hby d1_24) rfl ?_
    refine XS.icmpYes X14.here hx rfl (pc0 := 25) (pc' := 31) rfl (hb hby d1_25) rfl (feq (by decide +kernel : ¬ ((4 : Int32) = (14 : Int32)))).2 (by decide) (by decide) ?_
    refine XS.iinc X14.here hx rfl (hb hby d1_31) rfl (l' := #[iv (14 : Int32), rv b1_1_0, iv (15 : Int32), iv ((3 : Int32) + (1 : Int32)), rv w_Type_ELECTION]) rfl ?_
    show Steps p.tables e below (T14.setTop (mkF m 34 #[iv (14 : Int32), rv b1_1_0, iv (15 : Int32), iv ((3 : Int32) + (1 : Int32)), rv w_Type_ELECTION] [])) _
    rewrite [show ((3 : Int32) + (1 : Int32)) = (4 : Int32) from by decide +kernel]
    refine XS.goto X14.here hx rfl (pc0 := 34) (pc' := 9) rfl (hb hby d1_34) (by decide) (by decide) ?_
    refine XS.iloadN X14.here hx rfl (hb hby d1_9) rfl ?_
    show Steps p.tables e below (T14.setTop (mkF m 10 #[iv (14 : Int32), rv b1_1_0, iv (15 : Int32), iv (4 : Int32), rv w_Type_ELECTION] [(.int (4 : Int32))])) _
    refine XS.iloadN X14.here hx rfl (hb hby d1_10) rfl ?_
    refine XS.icmpNo X14.here hx rfl (hb hby d1_11) rfl (tlt (by decide +kernel : (4 : Int32) < (15 : Int32))).2.1 ?_
    refine XS.aloadN X14.here hx rfl (hb hby d1_14) rfl rfl ?_
    refine XS.iloadN X14.here hx rfl (hb hby d1_15) rfl ?_
    refine X14.aaload hx (j := (4 : Int32)) (v := (.ref w_Type_ANSWER)) (by rw [e14]; exact Ar15.1) (State.isArrayOf_alike hZ.alike Ar15.2.1) rfl Ar15.2.2 hin15 (Hs15.at hin15 rfl) (g := (mkF m 16 #[iv (14 : Int32), rv b1_1_0, iv (15 : Int32), iv (4 : Int32), rv w_Type_ELECTION] [(.int (4 : Int32)), (.ref b1_1_0)])) rfl rfl (hb hby d1_16) _ ?_
    refine XS.astore X14.here hx rfl (hb hby d1_17) rfl rfl (l' := #[iv (14 : Int32), rv b1_1_0, iv (15 : Int32), iv (4 : Int32), rv w_Type_ANSWER]) rfl ?_
    show Steps p.tables e below (T14.setTop (mkF m 19 #[iv (14 : Int32), rv b1_1_0, iv (15 : Int32), iv (4 : Int32), rv w_Type_ANSWER] [])) _
    refine XS.aload X14.here hx rfl (hb hby d1_19) rfl rfl ?_
    refine st17 _ ?_
    refine XS.iloadN X17.here hx rfl (hb hby d1_24) rfl ?_
    refine XS.icmpYes X17.here hx rfl (pc0 := 25) (pc' := 31) rfl (hb hby d1_25) rfl (feq (by decide +kernel : ¬ ((5 : Int32) = (14 : Int32)))).2 (by decide) (by decide) ?_
    refine XS.iinc X17.here hx rfl (hb hby d1_31) rfl (l' := #[iv (14 : Int32), rv b1_1_0, iv (15 : Int32), iv ((4 : Int32) + (1 : Int32)), rv w_Type_ANSWER]) rfl ?_
    show Steps p.tables e below (T17.setTop (mkF m 34 #[iv (14 : Int32), rv b1_1_0, iv (15 : Int32), iv ((4 : Int32) + (1 : Int32)), rv w_Type_ANSWER] [])) _
    rewrite [show ((4 : Int32) + (1 : Int32)) = (5 : Int32) from by decide +kernel]
    refine XS.goto X17.here hx rfl (pc0 := 34) (pc' := 9) rfl (hb hby d1_34) (by decide) (by decide) ?_
    show Steps p.tables e below (T17.setTop (mkF m 9 #[iv (14 : Int32), rv b1_1_0, iv (15 : Int32), iv (5 : Int32), rv w_Type_ANSWER] [])) _
    refine XS.iloadN X17.here hx rfl (hb hby d1_9) rfl ?_
    refine XS.iloadN X17.here hx rfl (hb hby d1_10) rfl ?_
    refine XS.icmpNo X17.here hx rfl (hb hby d1_11) rfl (tlt (by decide +kernel : (5 : Int32) < (15 : Int32))).2.1 ?_
    refine XS.aloadN X17.here hx rfl (hb hby d1_14) rfl rfl ?_
    refine XS.iloadN X17.here hx rfl (hb hby d1_15) rfl ?_
    refine X17.aaload hx (j := (5 : Int32)) (v := (.ref w_Type_COORDINATOR)) (by rw [e17]; exact Ar18.1) (State.isArrayOf_alike hZ.alike Ar18.2.1) rfl Ar18.2.2 hin18 (Hs18.at hin18 rfl) (g := (mkF m 16 #[iv (14 : Int32), rv b1_1_0, iv (15 : Int32), iv (5 : Int32), rv w_Type_ANSWER] [(.int (5 : Int32)), (.ref b1_1_0)])) rfl rfl (hb hby d1_16) _ ?_
    show Steps p.tables e below (T17.setTop (mkF m 17 #[iv (14 : Int32), rv b1_1_0, iv (15 : Int32), iv (5 : Int32), rv w_Type_ANSWER] [(.ref w_Type_COORDINATOR)])) _
    refine XS.astore X17.here hx rfl (hb hby d1_17) rfl rfl (l' := #[iv (14 : Int32), rv b1_1_0, iv (15 : Int32), iv (5 : Int32), rv w_Type_COORDINATOR]) rfl ?_
    refine XS.aload X17.here hx rfl (hb hby d1_19) rfl rfl ?_
    refine st20 _ ?_
    refine XS.iloadN X20.here hx rfl (hb hby d1_24) rfl ?_
    refine XS.icmpYes X20.here hx rfl (pc0 := 25) (pc' := 31) rfl (hb hby d1_25) rfl (feq (by decide +kernel : ¬ ((6 : Int32) = (14 : Int32)))).2 (by decide) (by decide) ?_
    refine XS.iinc X20.here hx rfl (hb hby d1_31) rfl (l' := #[iv (14 : Int32), rv b1_1_0, iv (15 : Int32), iv ((5 : Int32) + (1 : Int32)), rv w_Type_COORDINATOR]) rfl ?_
    show Steps p.tables e below (T20.setTop (mkF m 34 #[iv (14 : Int32), rv b1_1_0, iv (15 : Int32), iv ((5 : Int32) + (1 : Int32)), rv w_Type_COORDINATOR] [])) _
    rewrite [show ((5 : Int32) + (1 : Int32)) = (6 : Int32) from by decide +kernel]
    show Steps p.tables e below (T20.setTop (mkF m 34 #[iv (14 : Int32), rv b1_1_0, iv (15 : Int32), iv (6 : Int32), rv w_Type_COORDINATOR] [])) _
    refine XS.goto X20.here hx rfl (pc0 := 34) (pc' := 9) rfl (hb hby d1_34) (by decide) (by decide) ?_
    refine XS.iloadN X20.here hx rfl (hb hby d1_9) rfl ?_
    refine XS.iloadN X20.here hx rfl (hb hby d1_10) rfl ?_
    refine XS.icmpNo X20.here hx rfl (hb hby d1_11) rfl (tlt (by decide +kernel : (6 : Int32) < (15 : Int32))).2.1 ?_
    refine XS.aloadN X20.here hx rfl (hb hby d1_14) rfl rfl ?_
    refine XS.iloadN X20.here hx rfl (hb hby d1_15) rfl ?_
    show Steps p.tables e below (T20.setTop (mkF m 16 #[iv (14 : Int32), rv b1_1_0, iv (15 : Int32), iv (6 : Int32), rv w_Type_COORDINATOR] [(.int (6 : Int32)), (.ref b1_1_0)])) _
    refine X20.aaload hx (j := (6 : Int32)) (v := (.ref w_Type_GRANT)) (by rw [e20]; exact Ar21.1) (State.isArrayOf_alike hZ.alike Ar21.2.1) rfl Ar21.2.2 hin21 (Hs21.at hin21 rfl) (g := (mkF m 16 #[iv (14 : Int32), rv b1_1_0, iv (15 : Int32), iv (6 : Int32), rv w_Type_COORDINATOR] [(.int (6 : Int32)), (.ref b1_1_0)])) rfl rfl (hb hby d1_16) _ ?_
    refine XS.astore X20.here hx rfl (hb hby d1_17) rfl rfl (l' := #[iv (14 : Int32), rv b1_1_0, iv (15 : Int32), iv (6 : Int32), rv w_Type_GRANT]) rfl ?_
    refine XS.aload X20.here hx rfl (hb hby d1_19) rfl rfl ?_
    refine st23 _ ?_
    refine XS.iloadN X23.here hx rfl (hb hby d1_24) rfl ?_
    refine XS.icmpYes X23.here hx rfl (pc0 := 25) (pc' := 31) rfl (hb hby d1_25) rfl (feq (by decide +kernel : ¬ ((7 : Int32) = (14 : Int32)))).2 (by decide) (by decide) ?_
    show Steps p.tables e below (T23.setTop (mkF m 31 #[iv (14 : Int32), rv b1_1_0, iv (15 : Int32), iv (6 : Int32), rv w_Type_GRANT] [])) _
    refine XS.iinc X23.here hx rfl (hb hby d1_31) rfl (l' := #[iv (14 : Int32), rv b1_1_0, iv (15 : Int32), iv ((6 : Int32) + (1 : Int32)), rv w_Type_GRANT]) rfl ?_
    show Steps p.tables e below (T23.setTop (mkF m 34 #[iv (14 : Int32), rv b1_1_0, iv (15 : Int32), iv ((6 : Int32) + (1 : Int32)), rv w_Type_GRANT] [])) _
    rewrite [show ((6 : Int32) + (1 : Int32)) = (7 : Int32) from by decide +kernel]
    refine XS.goto X23.here hx rfl (pc0 := 34) (pc' := 9) rfl (hb hby d1_34) (by decide) (by decide) ?_
    refine XS.iloadN X23.here hx rfl (hb hby d1_9) rfl ?_
    refine XS.iloadN X23.here hx rfl (hb hby d1_10) rfl ?_
    refine XS.icmpNo X23.here hx rfl (hb hby d1_11) rfl (tlt (by decide +kernel : (7 : Int32) < (15 : Int32))).2.1 ?_
    refine XS.aloadN X23.here hx rfl (hb hby d1_14) rfl rfl ?_
    show Steps p.tables e below (T23.setTop (mkF m 15 #[iv (14 : Int32), rv b1_1_0, iv (15 : Int32), iv (7 : Int32), rv w_Type_GRANT] [(.ref b1_1_0)])) _
    refine XS.iloadN X23.here hx rfl (hb hby d1_15) rfl ?_
    refine X23.aaload hx (j := (7 : Int32)) (v := (.ref w_Type_RELEASE)) (by rw [e23]; exact Ar24.1) (State.isArrayOf_alike hZ.alike Ar24.2.1) rfl Ar24.2.2 hin24 (Hs24.at hin24 rfl) (g := (mkF m 16 #[iv (14 : Int32), rv b1_1_0, iv (15 : Int32), iv (7 : Int32), rv w_Type_GRANT] [(.int (7 : Int32)), (.ref b1_1_0)])) rfl rfl (hb hby d1_16) _ ?_
    refine XS.astore X23.here hx rfl (hb hby d1_17) rfl rfl (l' := #[iv (14 : Int32), rv b1_1_0, iv (15 : Int32), iv (7 : Int32), rv w_Type_RELEASE]) rfl ?_
    refine XS.aload X23.here hx rfl (hb hby d1_19) rfl rfl ?_
    refine st26 _ ?_
    refine XS.iloadN X26.here hx rfl (hb hby d1_24) rfl ?_
    show Steps p.tables e below (T26.setTop (mkF m 25 #[iv (14 : Int32), rv b1_1_0, iv (15 : Int32), iv (7 : Int32), rv w_Type_RELEASE] [(.int (14 : Int32)), (.int (8 : Int32))])) _
    refine XS.icmpYes X26.here hx rfl (pc0 := 25) (pc' := 31) rfl (hb hby d1_25) rfl (feq (by decide +kernel : ¬ ((8 : Int32) = (14 : Int32)))).2 (by decide) (by decide) ?_
    refine XS.iinc X26.here hx rfl (hb hby d1_31) rfl (l' := #[iv (14 : Int32), rv b1_1_0, iv (15 : Int32), iv ((7 : Int32) + (1 : Int32)), rv w_Type_RELEASE]) rfl ?_
    show Steps p.tables e below (T26.setTop (mkF m 34 #[iv (14 : Int32), rv b1_1_0, iv (15 : Int32), iv ((7 : Int32) + (1 : Int32)), rv w_Type_RELEASE] [])) _
    rewrite [show ((7 : Int32) + (1 : Int32)) = (8 : Int32) from by decide +kernel]
    refine XS.goto X26.here hx rfl (pc0 := 34) (pc' := 9) rfl (hb hby d1_34) (by decide) (by decide) ?_
    refine XS.iloadN X26.here hx rfl (hb hby d1_9) rfl ?_
    refine XS.iloadN X26.here hx rfl (hb hby d1_10) rfl ?_
    refine XS.icmpNo X26.here hx rfl (hb hby d1_11) rfl (tlt (by decide +kernel : (8 : Int32) < (15 : Int32))).2.1 ?_
    show Steps p.tables e below (T26.setTop (mkF m 14 #[iv (14 : Int32), rv b1_1_0, iv (15 : Int32), iv (8 : Int32), rv w_Type_RELEASE] [])) _
    refine XS.aloadN X26.here hx rfl (hb hby d1_14) rfl rfl ?_
    refine XS.iloadN X26.here hx rfl (hb hby d1_15) rfl ?_
    refine X26.aaload hx (j := (8 : Int32)) (v := (.ref w_Type_HELD)) (by rw [e26]; exact Ar27.1) (State.isArrayOf_alike hZ.alike Ar27.2.1) rfl Ar27.2.2 hin27 (Hs27.at hin27 rfl) (g := (mkF m 16 #[iv (14 : Int32), rv b1_1_0, iv (15 : Int32), iv (8 : Int32), rv w_Type_RELEASE] [(.int (8 : Int32)), (.ref b1_1_0)])) rfl rfl (hb hby d1_16) _ ?_
    refine XS.astore X26.here hx rfl (hb hby d1_17) rfl rfl (l' := #[iv (14 : Int32), rv b1_1_0, iv (15 : Int32), iv (8 : Int32), rv w_Type_HELD]) rfl ?_
    refine XS.aload X26.here hx rfl (hb hby d1_19) rfl rfl ?_
    refine st29 _ ?_
    show Steps p.tables e below (T29.setTop (mkF m 24 #[iv (14 : Int32), rv b1_1_0, iv (15 : Int32), iv (8 : Int32), rv w_Type_HELD] [(.int (9 : Int32))])) _
    refine XS.iloadN X29.here hx rfl (hb hby d1_24) rfl ?_
    refine XS.icmpYes X29.here hx rfl (pc0 := 25) (pc' := 31) rfl (hb hby d1_25) rfl (feq (by decide +kernel : ¬ ((9 : Int32) = (14 : Int32)))).2 (by decide) (by decide) ?_
    refine XS.iinc X29.here hx rfl (hb hby d1_31) rfl (l' := #[iv (14 : Int32), rv b1_1_0, iv (15 : Int32), iv ((8 : Int32) + (1 : Int32)), rv w_Type_HELD]) rfl ?_
    show Steps p.tables e below (T29.setTop (mkF m 34 #[iv (14 : Int32), rv b1_1_0, iv (15 : Int32), iv ((8 : Int32) + (1 : Int32)), rv w_Type_HELD] [])) _
    rewrite [show ((8 : Int32) + (1 : Int32)) = (9 : Int32) from by decide +kernel]
    refine XS.goto X29.here hx rfl (pc0 := 34) (pc' := 9) rfl (hb hby d1_34) (by decide) (by decide) ?_
    refine XS.iloadN X29.here hx rfl (hb hby d1_9) rfl ?_
    refine XS.iloadN X29.here hx rfl (hb hby d1_10) rfl ?_
    show Steps p.tables e below (T29.setTop (mkF m 11 #[iv (14 : Int32), rv b1_1_0, iv (15 : Int32), iv (9 : Int32), rv w_Type_HELD] [(.int (15 : Int32)), (.int (9 : Int32))])) _
    refine XS.icmpNo X29.here hx rfl (hb hby d1_11) rfl (tlt (by decide +kernel : (9 : Int32) < (15 : Int32))).2.1 ?_
    refine XS.aloadN X29.here hx rfl (hb hby d1_14) rfl rfl ?_
    refine XS.iloadN X29.here hx rfl (hb hby d1_15) rfl ?_
    refine X29.aaload hx (j := (9 : Int32)) (v := (.ref w_Type_REPORTED)) (by rw [e29]; exact Ar30.1) (State.isArrayOf_alike hZ.alike Ar30.2.1) rfl Ar30.2.2 hin30 (Hs30.at hin30 rfl) (g := (mkF m 16 #[iv (14 : Int32), rv b1_1_0, iv (15 : Int32), iv (9 : Int32), rv w_Type_HELD] [(.int (9 : Int32)), (.ref b1_1_0)])) rfl rfl (hb hby d1_16) _ ?_
    refine XS.astore X29.here hx rfl (hb hby d1_17) rfl rfl (l' := #[iv (14 : Int32), rv b1_1_0, iv (15 : Int32), iv (9 : Int32), rv w_Type_REPORTED]) rfl ?_
    refine XS.aload X29.here hx rfl (hb hby d1_19) rfl rfl ?_
    show Steps p.tables e below (T29.setTop (mkF m 21 #[iv (14 : Int32), rv b1_1_0, iv (15 : Int32), iv (9 : Int32), rv w_Type_REPORTED] [(.ref w_Type_REPORTED)])) _
    refine st32 _ ?_
    refine XS.iloadN X32.here hx rfl (hb hby d1_24) rfl ?_
    refine XS.icmpYes X32.here hx rfl (pc0 := 25) (pc' := 31) rfl (hb hby d1_25) rfl (feq (by decide +kernel : ¬ ((10 : Int32) = (14 : Int32)))).2 (by decide) (by decide) ?_
    refine XS.iinc X32.here hx rfl (hb hby d1_31) rfl (l' := #[iv (14 : Int32), rv b1_1_0, iv (15 : Int32), iv ((9 : Int32) + (1 : Int32)), rv w_Type_REPORTED]) rfl ?_
    show Steps p.tables e below (T32.setTop (mkF m 34 #[iv (14 : Int32), rv b1_1_0, iv (15 : Int32), iv ((9 : Int32) + (1 : Int32)), rv w_Type_REPORTED] [])) _
    rewrite [show ((9 : Int32) + (1 : Int32)) = (10 : Int32) from by decide +kernel]
    refine XS.goto X32.here hx rfl (pc0 := 34) (pc' := 9) rfl (hb hby d1_34) (by decide) (by decide) ?_
    refine XS.iloadN X32.here hx rfl (hb hby d1_9) rfl ?_
    show Steps p.tables e below (T32.setTop (mkF m 10 #[iv (14 : Int32), rv b1_1_0, iv (15 : Int32), iv (10 : Int32), rv w_Type_REPORTED] [(.int (10 : Int32))])) _
    refine XS.iloadN X32.here hx rfl (hb hby d1_10) rfl ?_
    refine XS.icmpNo X32.here hx rfl (hb hby d1_11) rfl (tlt (by decide +kernel : (10 : Int32) < (15 : Int32))).2.1 ?_
    refine XS.aloadN X32.here hx rfl (hb hby d1_14) rfl rfl ?_
    refine XS.iloadN X32.here hx rfl (hb hby d1_15) rfl ?_
    refine X32.aaload hx (j := (10 : Int32)) (v := (.ref w_Type_LOCKED)) (by rw [e32]; exact Ar33.1) (State.isArrayOf_alike hZ.alike Ar33.2.1) rfl Ar33.2.2 hin33 (Hs33.at hin33 rfl) (g := (mkF m 16 #[iv (14 : Int32), rv b1_1_0, iv (15 : Int32), iv (10 : Int32), rv w_Type_REPORTED] [(.int (10 : Int32)), (.ref b1_1_0)])) rfl rfl (hb hby d1_16) _ ?_
    refine XS.astore X32.here hx rfl (hb hby d1_17) rfl rfl (l' := #[iv (14 : Int32), rv b1_1_0, iv (15 : Int32), iv (10 : Int32), rv w_Type_LOCKED]) rfl ?_
    show Steps p.tables e below (T32.setTop (mkF m 19 #[iv (14 : Int32), rv b1_1_0, iv (15 : Int32), iv (10 : Int32), rv w_Type_LOCKED] [])) _
    refine XS.aload X32.here hx rfl (hb hby d1_19) rfl rfl ?_
    refine st35 _ ?_
    refine XS.iloadN X35.here hx rfl (hb hby d1_24) rfl ?_
    refine XS.icmpYes X35.here hx rfl (pc0 := 25) (pc' := 31) rfl (hb hby d1_25) rfl (feq (by decide +kernel : ¬ ((11 : Int32) = (14 : Int32)))).2 (by decide) (by decide) ?_
    refine XS.iinc X35.here hx rfl (hb hby d1_31) rfl (l' := #[iv (14 : Int32), rv b1_1_0, iv (15 : Int32), iv ((10 : Int32) + (1 : Int32)), rv w_Type_LOCKED]) rfl ?_
    show Steps p.tables e below (T35.setTop (mkF m 34 #[iv (14 : Int32), rv b1_1_0, iv (15 : Int32), iv ((10 : Int32) + (1 : Int32)), rv w_Type_LOCKED] [])) _
    rewrite [show ((10 : Int32) + (1 : Int32)) = (11 : Int32) from by decide +kernel]
    refine XS.goto X35.here hx rfl (pc0 := 34) (pc' := 9) rfl (hb hby d1_34) (by decide) (by decide) ?_
    show Steps p.tables e below (T35.setTop (mkF m 9 #[iv (14 : Int32), rv b1_1_0, iv (15 : Int32), iv (11 : Int32), rv w_Type_LOCKED] [])) _
    refine XS.iloadN X35.here hx rfl (hb hby d1_9) rfl ?_
    refine XS.iloadN X35.here hx rfl (hb hby d1_10) rfl ?_
    refine XS.icmpNo X35.here hx rfl (hb hby d1_11) rfl (tlt (by decide +kernel : (11 : Int32) < (15 : Int32))).2.1 ?_
    refine XS.aloadN X35.here hx rfl (hb hby d1_14) rfl rfl ?_
    refine XS.iloadN X35.here hx rfl (hb hby d1_15) rfl ?_
    refine X35.aaload hx (j := (11 : Int32)) (v := (.ref w_Type_INQUIRE)) (by rw [e35]; exact Ar36.1) (State.isArrayOf_alike hZ.alike Ar36.2.1) rfl Ar36.2.2 hin36 (Hs36.at hin36 rfl) (g := (mkF m 16 #[iv (14 : Int32), rv b1_1_0, iv (15 : Int32), iv (11 : Int32), rv w_Type_LOCKED] [(.int (11 : Int32)), (.ref b1_1_0)])) rfl rfl (hb hby d1_16) _ ?_
    show Steps p.tables e below (T35.setTop (mkF m 17 #[iv (14 : Int32), rv b1_1_0, iv (15 : Int32), iv (11 : Int32), rv w_Type_LOCKED] [(.ref w_Type_INQUIRE)])) _
    refine XS.astore X35.here hx rfl (hb hby d1_17) rfl rfl (l' := #[iv (14 : Int32), rv b1_1_0, iv (15 : Int32), iv (11 : Int32), rv w_Type_INQUIRE]) rfl ?_
    refine XS.aload X35.here hx rfl (hb hby d1_19) rfl rfl ?_
    refine st38 _ ?_
    refine XS.iloadN X38.here hx rfl (hb hby d1_24) rfl ?_
    refine XS.icmpYes X38.here hx rfl (pc0 := 25) (pc' := 31) rfl (hb hby d1_25) rfl (feq (by decide +kernel : ¬ ((12 : Int32) = (14 : Int32)))).2 (by decide) (by decide) ?_
    refine XS.iinc X38.here hx rfl (hb hby d1_31) rfl (l' := #[iv (14 : Int32), rv b1_1_0, iv (15 : Int32), iv ((11 : Int32) + (1 : Int32)), rv w_Type_INQUIRE]) rfl ?_
    show Steps p.tables e below (T38.setTop (mkF m 34 #[iv (14 : Int32), rv b1_1_0, iv (15 : Int32), iv ((11 : Int32) + (1 : Int32)), rv w_Type_INQUIRE] [])) _
    rewrite [show ((11 : Int32) + (1 : Int32)) = (12 : Int32) from by decide +kernel]
    show Steps p.tables e below (T38.setTop (mkF m 34 #[iv (14 : Int32), rv b1_1_0, iv (15 : Int32), iv (12 : Int32), rv w_Type_INQUIRE] [])) _
    refine XS.goto X38.here hx rfl (pc0 := 34) (pc' := 9) rfl (hb hby d1_34) (by decide) (by decide) ?_
    refine XS.iloadN X38.here hx rfl (hb hby d1_9) rfl ?_
    refine XS.iloadN X38.here hx rfl (hb hby d1_10) rfl ?_
    refine XS.icmpNo X38.here hx rfl (hb hby d1_11) rfl (tlt (by decide +kernel : (12 : Int32) < (15 : Int32))).2.1 ?_
    refine XS.aloadN X38.here hx rfl (hb hby d1_14) rfl rfl ?_
    refine XS.iloadN X38.here hx rfl (hb hby d1_15) rfl ?_
    show Steps p.tables e below (T38.setTop (mkF m 16 #[iv (14 : Int32), rv b1_1_0, iv (15 : Int32), iv (12 : Int32), rv w_Type_INQUIRE] [(.int (12 : Int32)), (.ref b1_1_0)])) _
    refine X38.aaload hx (j := (12 : Int32)) (v := (.ref w_Type_FAILED)) (by rw [e38]; exact Ar39.1) (State.isArrayOf_alike hZ.alike Ar39.2.1) rfl Ar39.2.2 hin39 (Hs39.at hin39 rfl) (g := (mkF m 16 #[iv (14 : Int32), rv b1_1_0, iv (15 : Int32), iv (12 : Int32), rv w_Type_INQUIRE] [(.int (12 : Int32)), (.ref b1_1_0)])) rfl rfl (hb hby d1_16) _ ?_
    refine XS.astore X38.here hx rfl (hb hby d1_17) rfl rfl (l' := #[iv (14 : Int32), rv b1_1_0, iv (15 : Int32), iv (12 : Int32), rv w_Type_FAILED]) rfl ?_
    refine XS.aload X38.here hx rfl (hb hby d1_19) rfl rfl ?_
    refine st41 _ ?_
    refine XS.iloadN X41.here hx rfl (hb hby d1_24) rfl ?_
    refine XS.icmpYes X41.here hx rfl (pc0 := 25) (pc' := 31) rfl (hb hby d1_25) rfl (feq (by decide +kernel : ¬ ((13 : Int32) = (14 : Int32)))).2 (by decide) (by decide) ?_
    show Steps p.tables e below (T41.setTop (mkF m 31 #[iv (14 : Int32), rv b1_1_0, iv (15 : Int32), iv (12 : Int32), rv w_Type_FAILED] [])) _
    refine XS.iinc X41.here hx rfl (hb hby d1_31) rfl (l' := #[iv (14 : Int32), rv b1_1_0, iv (15 : Int32), iv ((12 : Int32) + (1 : Int32)), rv w_Type_FAILED]) rfl ?_
    show Steps p.tables e below (T41.setTop (mkF m 34 #[iv (14 : Int32), rv b1_1_0, iv (15 : Int32), iv ((12 : Int32) + (1 : Int32)), rv w_Type_FAILED] [])) _
    rewrite [show ((12 : Int32) + (1 : Int32)) = (13 : Int32) from by decide +kernel]
    refine XS.goto X41.here hx rfl (pc0 := 34) (pc' := 9) rfl (hb hby d1_34) (by decide) (by decide) ?_
    refine XS.iloadN X41.here hx rfl (hb hby d1_9) rfl ?_
    refine XS.iloadN X41.here hx rfl (hb hby d1_10) rfl ?_
    refine XS.icmpNo X41.here hx rfl (hb hby d1_11) rfl (tlt (by decide +kernel : (13 : Int32) < (15 : Int32))).2.1 ?_
    refine XS.aloadN X41.here hx rfl (hb hby d1_14) rfl rfl ?_
    show Steps p.tables e below (T41.setTop (mkF m 15 #[iv (14 : Int32), rv b1_1_0, iv (15 : Int32), iv (13 : Int32), rv w_Type_FAILED] [(.ref b1_1_0)])) _
    refine XS.iloadN X41.here hx rfl (hb hby d1_15) rfl ?_
    refine X41.aaload hx (j := (13 : Int32)) (v := (.ref w_Type_RELINQUISH)) (by rw [e41]; exact Ar42.1) (State.isArrayOf_alike hZ.alike Ar42.2.1) rfl Ar42.2.2 hin42 (Hs42.at hin42 rfl) (g := (mkF m 16 #[iv (14 : Int32), rv b1_1_0, iv (15 : Int32), iv (13 : Int32), rv w_Type_FAILED] [(.int (13 : Int32)), (.ref b1_1_0)])) rfl rfl (hb hby d1_16) _ ?_
    refine XS.astore X41.here hx rfl (hb hby d1_17) rfl rfl (l' := #[iv (14 : Int32), rv b1_1_0, iv (15 : Int32), iv (13 : Int32), rv w_Type_RELINQUISH]) rfl ?_
    refine XS.aload X41.here hx rfl (hb hby d1_19) rfl rfl ?_
    refine st44 _ ?_
    refine XS.iloadN X44.here hx rfl (hb hby d1_24) rfl ?_
    show Steps p.tables e below (T44.setTop (mkF m 25 #[iv (14 : Int32), rv b1_1_0, iv (15 : Int32), iv (13 : Int32), rv w_Type_RELINQUISH] [(.int (14 : Int32)), (.int (14 : Int32))])) _
    refine XS.icmpNo X44.here hx rfl (hb hby d1_25) rfl (teq (by decide +kernel : (14 : Int32) = (14 : Int32))).2 ?_
    refine XS.aload X44.here hx rfl (hb hby d1_28) rfl rfl ?_
    exact own_retA X44 hx Bd.returns rfl rfl (hb hby d1_30) hr
  · exact (by show Q_rk_found_13 Z w_Type_RELINQUISH h0 n0 _ T44.heap _; rw [e44]; exact ⟨rfl, N1, KK1⟩)
def Q_rk_found_14 (Z : State) (w_Type_TOKEN : Addr) (h0 : Heap) (n0 : Nat) (v : Option Value) (h : Heap) (L : List Loc) : Prop := (v = (some (.ref w_Type_TOKEN))) ∧ (Fr n0 L) ∧ (Keep h0 h [])
set_option maxRecDepth 65536 in
set_option maxHeartbeats 40000000 in
theorem rk_found_14 (l : Launch) (Z : State) (a0 : Array Value) (hw : ∀ d ∈ tables_1, d.before a0 Z = true) (ws : List Jvm.Cond) (w_Type__VALUES : Addr) (w_Type_REQUEST : Addr) (w_Type_REPLY : Addr) (w_Type_HEARTBEAT : Addr) (w_Type_ELECTION : Addr) (w_Type_ANSWER : Addr) (w_Type_COORDINATOR : Addr) (w_Type_GRANT : Addr) (w_Type_RELEASE : Addr) (w_Type_HELD : Addr) (w_Type_REPORTED : Addr) (w_Type_LOCKED : Addr) (w_Type_INQUIRE : Addr) (w_Type_FAILED : Addr) (w_Type_RELINQUISH : Addr) (w_Type_TOKEN : Addr) (k_w_Type__VALUES : ClassId) (h0 : Heap) (n0 : Nat) (Z0 : n0 ≤ h0.size) (S_Type__VALUES : Sta Z h0 "com/example/stile/stile/Message$Type" "$VALUES" "[Lcom/example/stile/stile/Message$Type;" (.ref w_Type__VALUES)) (V_w_Type__VALUES : Arv Z h0 w_Type__VALUES k_w_Type__VALUES (.object "com/example/stile/stile/Message$Type") (15 : Int32) [(.ref w_Type_REQUEST), (.ref w_Type_REPLY), (.ref w_Type_HEARTBEAT), (.ref w_Type_ELECTION), (.ref w_Type_ANSWER), (.ref w_Type_COORDINATOR), (.ref w_Type_GRANT), (.ref w_Type_RELEASE), (.ref w_Type_HELD), (.ref w_Type_REPORTED), (.ref w_Type_LOCKED), (.ref w_Type_INQUIRE), (.ref w_Type_FAILED), (.ref w_Type_RELINQUISH), (.ref w_Type_TOKEN)] .null) (E_w_Type__VALUES : Exa Z h0 w_Type__VALUES "[Lcom/example/stile/stile/Message$Type;") (F_w_Type_REQUEST_code : Fld Z h0 w_Type_REQUEST "com/example/stile/stile/Message$Type" "code" "I" (.int (1 : Int32))) (F_w_Type_REPLY_code : Fld Z h0 w_Type_REPLY "com/example/stile/stile/Message$Type" "code" "I" (.int (2 : Int32))) (F_w_Type_HEARTBEAT_code : Fld Z h0 w_Type_HEARTBEAT "com/example/stile/stile/Message$Type" "code" "I" (.int (3 : Int32))) (F_w_Type_ELECTION_code : Fld Z h0 w_Type_ELECTION "com/example/stile/stile/Message$Type" "code" "I" (.int (4 : Int32))) (F_w_Type_ANSWER_code : Fld Z h0 w_Type_ANSWER "com/example/stile/stile/Message$Type" "code" "I" (.int (5 : Int32))) (F_w_Type_COORDINATOR_code : Fld Z h0 w_Type_COORDINATOR "com/example/stile/stile/Message$Type" "code" "I" (.int (6 : Int32))) (F_w_Type_GRANT_code : Fld Z h0 w_Type_GRANT "com/example/stile/stile/Message$Type" "code" "I" (.int (7 : Int32))) (F_w_Type_RELEASE_code : Fld Z h0 w_Type_RELEASE "com/example/stile/stile/Message$Type" "code" "I" (.int (8 : Int32))) (F_w_Type_HELD_code : Fld Z h0 w_Type_HELD "com/example/stile/stile/Message$Type" "code" "I" (.int (9 : Int32))) (F_w_Type_REPORTED_code : Fld Z h0 w_Type_REPORTED "com/example/stile/stile/Message$Type" "code" "I" (.int (10 : Int32))) (F_w_Type_LOCKED_code : Fld Z h0 w_Type_LOCKED "com/example/stile/stile/Message$Type" "code" "I" (.int (11 : Int32))) (F_w_Type_INQUIRE_code : Fld Z h0 w_Type_INQUIRE "com/example/stile/stile/Message$Type" "code" "I" (.int (12 : Int32))) (F_w_Type_FAILED_code : Fld Z h0 w_Type_FAILED "com/example/stile/stile/Message$Type" "code" "I" (.int (13 : Int32))) (F_w_Type_RELINQUISH_code : Fld Z h0 w_Type_RELINQUISH "com/example/stile/stile/Message$Type" "code" "I" (.int (14 : Int32))) (F_w_Type_TOKEN_code : Fld Z h0 w_Type_TOKEN "com/example/stile/stile/Message$Type" "code" "I" (.int (15 : Int32))) :
    MetFree l (⟨"com/example/stile/stile/Message$Type", "of", "(I)Lcom/example/stile/stile/Message$Type;"⟩ : MethodName) (head1 (Jvm.Cond.code (⟨"com/example/stile/stile/Message$Type", "of", "(I)Lcom/example/stile/stile/Message$Type;"⟩ : MethodName) prog_48_method_8_code 5 (some (.object "com/example/stile/stile/Message$Type")) :: ws) ({ frames := 2, cells := 1, slots := 15, locals := 25 } : Room)) (fun a U => a = #[(.int (15 : Int32))] ∧ Z.Warmed39 U.vm ∧ U.heap = h0) (fun _ _ _ _ _ => True) (fun _ U o U' => ∃ v L, o = .returned v ∧ Q_rk_found_14 Z w_Type_TOKEN h0 n0 v U'.heap L ∧ FrameEnd U o U' L ({ frames := 2, cells := 1, slots := 15, locals := 25 } : Room).cells ({ frames := 2, cells := 1, slots := 15, locals := 25 } : Room).slots) := by
  refine MetFree.of_bodySF (plainFor_of_name pn_0) hisR ?_
  intro p e s m args below meth c s₁ Bd hml0 hP hK
  obtain ⟨rfl, hZ, hh⟩ := hP
  have hx := Bd.exec
  have hby := Bd.bytes
  have hml : c.maxLocals = 5 := hml0
  have hown : s.vm.findClass "com/example/stile/stile/Message$Type" = some m.cls := findClass_of_methodNamed Bd.named
  have hnm := (name_of_methodNamed Bd.named Bd.method).1
  have X0 : Stand p l e ({ frames := 2, cells := 1, slots := 15, locals := 25 } : Room) s m #[(.int (15 : Int32))] below meth c s₁ [] 0 0 := Stand.of_body Bd
  have e0 : s₁.heap = h0 := by rw [← hh, Bd.state]; rfl
  have N0 := Fr.nil n0
  have pre0 : ∀ t, Steps p.tables e below (s₁.setTop (mkF m 0 #[iv (15 : Int32), .unset, .unset, .unset, .unset] [])) t → Steps p.tables e below (s₁.setTop (entryFrame m #[(.int (15 : Int32))] 5)) t := fun t k => castTop (ef_1_I m (15 : Int32)) k
  obtain ⟨_, _, ⟨T1, L1, k1, n1⟩, -, X1, ⟨Lc1, hQ1, l1, y1, z1⟩, st1⟩ := Jvm.LawKit.callS X0 hx (y := (⟨"com/example/stile/stile/Message$Type", "values", "()[Lcom/example/stile/stile/Message$Type;"⟩ : MethodName)) hown (mvT hZ (hw _ (List.mem_of_getElem? (i := 4) rfl))) (mvT hZ (hw _ (List.mem_of_getElem? (i := 5) rfl))) (mvT hZ (hw _ (List.mem_of_getElem? (i := 2) rfl))) (mvT hZ (hw _ (List.mem_of_getElem? (i := 6) rfl))) (by decide) (backOf (W := 0) (rm2_0 l Z a0 hw [] w_Type__VALUES w_Type_REQUEST w_Type_REPLY w_Type_HEARTBEAT w_Type_ELECTION w_Type_ANSWER w_Type_COORDINATOR w_Type_GRANT w_Type_RELEASE w_Type_HELD w_Type_REPORTED w_Type_LOCKED w_Type_INQUIRE w_Type_FAILED w_Type_RELINQUISH w_Type_TOKEN k_w_Type__VALUES h0 n0 Z0 S_Type__VALUES V_w_Type__VALUES E_w_Type__VALUES) hZ (hw _ (List.mem_of_getElem? (i := 6) rfl)) (hw _ (List.mem_of_getElem? (i := 2) rfl)) (by decide) (by decide)) (g := (mkF m 0 #[iv (15 : Int32), .unset, .unset, .unset, .unset] [])) rfl (by rw [hml]; rfl) (argsL := []) (rest := []) (lenOf pd_0 rfl) rfl (by show 2 * 0 + _ ≤ _; exact Nat.le_of_eq rfl) (hb hby d1_0) (fun _ _ => ⟨rfl, e0, (by decide : 0 + 1 ≤ _), (by decide : 0 + 15 ≤ _)⟩)
  dsimp only [Pt.U, Pt.locs, Pt.cells, Pt.slots] at X1 l1 y1 z1 st1 hQ1
  subst l1 y1 z1
  obtain ⟨b1_1_0, rfl, N1q, K1, gq_b1_1_0, le_b1_1_0, fq1_0, fq1_1⟩ := hQ1
  have sz_b1_1_0 : h0.size ≤ b1_1_0 := Nat.le_trans (Keep.refl h0 []).1 le_b1_1_0
  have KK1 : Keep h0 T1.heap [] := (Keep.refl h0 []).trans K1 all0
  have Z1 : n0 ≤ T1.heap.size := Nat.le_trans Z0 K1.1
  have N1 := Fr.app N0 N1q
  obtain ⟨cl2, Ar2, -, Sz2, Nn2, -, -⟩ := id fq1_0
  obtain ⟨cl3, Ar3, -, Sz3, Nn3, Hs3, Gs3⟩ := id fq1_0
  have hin3 : ¬ ((0 : Int32) < 0 ∨ cl3.slots.size ≤ ((0 : Int32)).toNatClampNeg) := inb_of Sz3 ⟨by decide, by decide⟩
  have c4 := (F_w_Type_REQUEST_code.keep K1 nin0)
  obtain ⟨T5, X5, e5, st5⟩ := getF X1 hx hZ hown (host := "") (Or.inl (hw _ (List.mem_of_getElem? (i := 34) rfl))) Via.refl rfl c4 (g := (mkF m 21 #[iv (15 : Int32), rv b1_1_0, iv (15 : Int32), iv (0 : Int32), rv w_Type_REQUEST] [(.ref w_Type_REQUEST)])) rfl rfl (hb hby d1_21)
  obtain ⟨cl6, Ar6, -, Sz6, Nn6, Hs6, Gs6⟩ := id fq1_0
  have hin6 : ¬ ((1 : Int32) < 0 ∨ cl6.slots.size ≤ ((1 : Int32)).toNatClampNeg) := inb_of Sz6 ⟨by decide, by decide⟩
  have c7 := (F_w_Type_REPLY_code.keep K1 nin0)
  obtain ⟨T8, X8, e8, st8⟩ := getF X5 hx hZ hown (host := "") (Or.inl (hw _ (List.mem_of_getElem? (i := 34) rfl))) Via.refl e5 c7 (g := (mkF m 21 #[iv (15 : Int32), rv b1_1_0, iv (15 : Int32), iv (1 : Int32), rv w_Type_REPLY] [(.ref w_Type_REPLY)])) rfl rfl (hb hby d1_21)
  obtain ⟨cl9, Ar9, -, Sz9, Nn9, Hs9, Gs9⟩ := id fq1_0
  have hin9 : ¬ ((2 : Int32) < 0 ∨ cl9.slots.size ≤ ((2 : Int32)).toNatClampNeg) := inb_of Sz9 ⟨by decide, by decide⟩
  have c10 := (F_w_Type_HEARTBEAT_code.keep K1 nin0)
  obtain ⟨T11, X11, e11, st11⟩ := getF X8 hx hZ hown (host := "") (Or.inl (hw _ (List.mem_of_getElem? (i := 34) rfl))) Via.refl e8 c10 (g := (mkF m 21 #[iv (15 : Int32), rv b1_1_0, iv (15 : Int32), iv (2 : Int32), rv w_Type_HEARTBEAT] [(.ref w_Type_HEARTBEAT)])) rfl rfl (hb hby d1_21)
  obtain ⟨cl12, Ar12, -, Sz12, Nn12, Hs12, Gs12⟩ := id fq1_0
  have hin12 : ¬ ((3 : Int32) < 0 ∨ cl12.slots.size ≤ ((3 : Int32)).toNatClampNeg) := inb_of Sz12 ⟨by decide, by decide⟩
  have c13 := (F_w_Type_ELECTION_code.keep K1 nin0)
  obtain ⟨T14, X14, e14, st14⟩ := getF X11 hx hZ hown (host := "") (Or.inl (hw _ (List.mem_of_getElem? (i := 34) rfl))) Via.refl e11 c13 (g := (mkF m 21 #[iv (15 : Int32), rv b1_1_0, iv (15 : Int32), iv (3 : Int32), rv w_Type_ELECTION] [(.ref w_Type_ELECTION)])) rfl rfl (hb hby d1_21)
  obtain ⟨cl15, Ar15, -, Sz15, Nn15, Hs15, Gs15⟩ := id fq1_0
  have hin15 : ¬ ((4 : Int32) < 0 ∨ cl15.slots.size ≤ ((4 : Int32)).toNatClampNeg) := inb_of Sz15 ⟨by decide, by decide⟩
  have c16 := (F_w_Type_ANSWER_code.keep K1 nin0)
  obtain ⟨T17, X17, e17, st17⟩ := getF X14 hx hZ hown (host := "") (Or.inl (hw _ (List.mem_of_getElem? (i := 34) rfl))) Via.refl e14 c16 (g := (mkF m 21 #[iv (15 : Int32), rv b1_1_0, iv (15 : Int32), iv (4 : Int32), rv w_Type_ANSWER] [(.ref w_Type_ANSWER)])) rfl rfl (hb hby d1_21)
  obtain ⟨cl18, Ar18, -, Sz18, Nn18, Hs18, Gs18⟩ := id fq1_0
  have hin18 : ¬ ((5 : Int32) < 0 ∨ cl18.slots.size ≤ ((5 : Int32)).toNatClampNeg) := inb_of Sz18 ⟨by decide, by decide⟩
  have c19 := (F_w_Type_COORDINATOR_code.keep K1 nin0)
  obtain ⟨T20, X20, e20, st20⟩ := getF X17 hx hZ hown (host := "") (Or.inl (hw _ (List.mem_of_getElem? (i := 34) rfl))) Via.refl e17 c19 (g := (mkF m 21 #[iv (15 : Int32), rv b1_1_0, iv (15 : Int32), iv (5 : Int32), rv w_Type_COORDINATOR] [(.ref w_Type_COORDINATOR)])) rfl rfl (hb hby d1_21)
  obtain ⟨cl21, Ar21, -, Sz21, Nn21, Hs21, Gs21⟩ := id fq1_0
  have hin21 : ¬ ((6 : Int32) < 0 ∨ cl21.slots.size ≤ ((6 : Int32)).toNatClampNeg) := inb_of Sz21 ⟨by decide, by decide⟩
  have c22 := (F_w_Type_GRANT_code.keep K1 nin0)
  obtain ⟨T23, X23, e23, st23⟩ := getF X20 hx hZ hown (host := "") (Or.inl (hw _ (List.mem_of_getElem? (i := 34) rfl))) Via.refl e20 c22 (g := (mkF m 21 #[iv (15 : Int32), rv b1_1_0, iv (15 : Int32), iv (6 : Int32), rv w_Type_GRANT] [(.ref w_Type_GRANT)])) rfl rfl (hb hby d1_21)
  obtain ⟨cl24, Ar24, -, Sz24, Nn24, Hs24, Gs24⟩ := id fq1_0
  have hin24 : ¬ ((7 : Int32) < 0 ∨ cl24.slots.size ≤ ((7 : Int32)).toNatClampNeg) := inb_of Sz24 ⟨by decide, by decide⟩
  have c25 := (F_w_Type_RELEASE_code.keep K1 nin0)
  obtain ⟨T26, X26, e26, st26⟩ := getF X23 hx hZ hown (host := "") (Or.inl (hw _ (List.mem_of_getElem? (i := 34) rfl))) Via.refl e23 c25 (g := (mkF m 21 #[iv (15 : Int32), rv b1_1_0, iv (15 : Int32), iv (7 : Int32), rv w_Type_RELEASE] [(.ref w_Type_RELEASE)])) rfl rfl (hb hby d1_21)
  obtain ⟨cl27, Ar27, -, Sz27, Nn27, Hs27, Gs27⟩ := id fq1_0
  have hin27 : ¬ ((8 : Int32) < 0 ∨ cl27.slots.size ≤ ((8 : Int32)).toNatClampNeg) := inb_of Sz27 ⟨by decide, by decide⟩
  have c28 := (F_w_Type_HELD_code.keep K1 nin0)
  obtain ⟨T29, X29, e29, st29⟩ := getF X26 hx hZ hown (host := "") (Or.inl (hw _ (List.mem_of_getElem? (i := 34) rfl))) Via.refl e26 c28 (g := (mkF m 21 #[iv (15 : Int32), rv b1_1_0, iv (15 : Int32), iv (8 : Int32), rv w_Type_HELD] [(.ref w_Type_HELD)])) rfl rfl (hb hby d1_21)
  obtain ⟨cl30, Ar30, -, Sz30, Nn30, Hs30, Gs30⟩ := id fq1_0
  have hin30 : ¬ ((9 : Int32) < 0 ∨ cl30.slots.size ≤ ((9 : Int32)).toNatClampNeg) := inb_of Sz30 ⟨by decide, by decide⟩
  have c31 := (F_w_Type_REPORTED_code.keep K1 nin0)
  obtain ⟨T32, X32, e32, st32⟩ := getF X29 hx hZ hown (host := "") (Or.inl (hw _ (List.mem_of_getElem? (i := 34) rfl))) Via.refl e29 c31 (g := (mkF m 21 #[iv (15 : Int32), rv b1_1_0, iv (15 : Int32), iv (9 : Int32), rv w_Type_REPORTED] [(.ref w_Type_REPORTED)])) rfl rfl (hb hby d1_21)
  obtain ⟨cl33, Ar33, -, Sz33, Nn33, Hs33, Gs33⟩ := id fq1_0
  have hin33 : ¬ ((10 : Int32) < 0 ∨ cl33.slots.size ≤ ((10 : Int32)).toNatClampNeg) := inb_of Sz33 ⟨by decide, by decide⟩
  have c34 := (F_w_Type_LOCKED_code.keep K1 nin0)
  obtain ⟨T35, X35, e35, st35⟩ := getF X32 hx hZ hown (host := "") (Or.inl (hw _ (List.mem_of_getElem? (i := 34) rfl))) Via.refl e32 c34 (g := (mkF m 21 #[iv (15 : Int32), rv b1_1_0, iv (15 : Int32), iv (10 : Int32), rv w_Type_LOCKED] [(.ref w_Type_LOCKED)])) rfl rfl (hb hby d1_21)
  obtain ⟨cl36, Ar36, -, Sz36, Nn36, Hs36, Gs36⟩ := id fq1_0
  have hin36 : ¬ ((11 : Int32) < 0 ∨ cl36.slots.size ≤ ((11 : Int32)).toNatClampNeg) := inb_of Sz36 ⟨by decide, by decide⟩
  have c37 := (F_w_Type_INQUIRE_code.keep K1 nin0)
  obtain ⟨T38, X38, e38, st38⟩ := getF X35 hx hZ hown (host := "") (Or.inl (hw _ (List.mem_of_getElem? (i := 34) rfl))) Via.refl e35 c37 (g := (mkF m 21 #[iv (15 : Int32), rv b1_1_0, iv (15 : Int32), iv (11 : Int32), rv w_Type_INQUIRE] [(.ref w_Type_INQUIRE)])) rfl rfl (hb hby d1_21)
  obtain ⟨cl39, Ar39, -, Sz39, Nn39, Hs39, Gs39⟩ := id fq1_0
  have hin39 : ¬ ((12 : Int32) < 0 ∨ cl39.slots.size ≤ ((12 : Int32)).toNatClampNeg) := inb_of Sz39 ⟨by decide, by decide⟩
  have c40 := (F_w_Type_FAILED_code.keep K1 nin0)
  obtain ⟨T41, X41, e41, st41⟩ := getF X38 hx hZ hown (host := "") (Or.inl (hw _ (List.mem_of_getElem? (i := 34) rfl))) Via.refl e38 c40 (g := (mkF m 21 #[iv (15 : Int32), rv b1_1_0, iv (15 : Int32), iv (12 : Int32), rv w_Type_FAILED] [(.ref w_Type_FAILED)])) rfl rfl (hb hby d1_21)
  obtain ⟨cl42, Ar42, -, Sz42, Nn42, Hs42, Gs42⟩ := id fq1_0
  have hin42 : ¬ ((13 : Int32) < 0 ∨ cl42.slots.size ≤ ((13 : Int32)).toNatClampNeg) := inb_of Sz42 ⟨by decide, by decide⟩
  have c43 := (F_w_Type_RELINQUISH_code.keep K1 nin0)
  obtain ⟨T44, X44, e44, st44⟩ := getF X41 hx hZ hown (host := "") (Or.inl (hw _ (List.mem_of_getElem? (i := 34) rfl))) Via.refl e41 c43 (g := (mkF m 21 #[iv (15 : Int32), rv b1_1_0, iv (15 : Int32), iv (13 : Int32), rv w_Type_RELINQUISH] [(.ref w_Type_RELINQUISH)])) rfl rfl (hb hby d1_21)
  obtain ⟨cl45, Ar45, -, Sz45, Nn45, Hs45, Gs45⟩ := id fq1_0
  have hin45 : ¬ ((14 : Int32) < 0 ∨ cl45.slots.size ≤ ((14 : Int32)).toNatClampNeg) := inb_of Sz45 ⟨by decide, by decide⟩
  have c46 := (F_w_Type_TOKEN_code.keep K1 nin0)
  obtain ⟨T47, X47, e47, st47⟩ := getF X44 hx hZ hown (host := "") (Or.inl (hw _ (List.mem_of_getElem? (i := 34) rfl))) Via.refl e44 c46 (g := (mkF m 21 #[iv (15 : Int32), rv b1_1_0, iv (15 : Int32), iv (14 : Int32), rv w_Type_TOKEN] [(.ref w_Type_TOKEN)])) rfl rfl (hb hby d1_21)
  obtain ⟨fs, hr, hrun, hended, hW, hsame⟩ := X47.leave (v := (some (.ref w_Type_TOKEN))) (fun h => by rw [Bd.returns] at h; cases h)
  refine ⟨_, _, pre0 _ ?_, hrun, hended, _, _, rfl, ?_, ⟨_, rfl⟩, hW, hsame.mono (by decide) (by decide)⟩
  · show Steps p.tables e below (s₁.setTop (mkF m 0 #[iv (15 : Int32), .unset, .unset, .unset, .unset] [])) _
    refine st1 _ ?_
    refine XS.astoreN X1.here hx rfl (hb hby d1_3) rfl rfl (l' := #[iv (15 : Int32), rv b1_1_0, .unset, .unset, .unset]) rfl ?_
    refine XS.aloadN X1.here hx rfl (hb hby d1_4) rfl rfl ?_
    refine X1.arraylength hx Ar2.1 (State.isArrayOf_alike hZ.alike Ar2.2.1) (g := (mkF m 5 #[iv (15 : Int32), rv b1_1_0, .unset, .unset, .unset] [(.ref b1_1_0)])) rfl rfl (hb hby d1_5) _ ?_
    rw [len_of Sz2 Nn2]
    refine XS.istoreN X1.here hx rfl (hb hby d1_6) rfl (l' := #[iv (15 : Int32), rv b1_1_0, iv (15 : Int32), .unset, .unset]) rfl ?_
    refine XS.iconst X1.here hx rfl (hb hby d1_7) ?_
    show Steps p.tables e below (T1.setTop (mkF m 8 #[iv (15 : Int32), rv b1_1_0, iv (15 : Int32), .unset, .unset] [(.int (0 : Int32))])) _
    refine XS.istoreN X1.here hx rfl (hb hby d1_8) rfl (l' := #[iv (15 : Int32), rv b1_1_0, iv (15 : Int32), iv (0 : Int32), .unset]) rfl ?_
    refine XS.iloadN X1.here hx rfl (hb hby d1_9) rfl ?_
    refine XS.iloadN X1.here hx rfl (hb hby d1_10) rfl ?_
    refine XS.icmpNo X1.here hx rfl (hb hby d1_11) rfl (tlt (by decide +kernel : (0 : Int32) < (15 : Int32))).2.1 ?_
    refine XS.aloadN X1.here hx rfl (hb hby d1_14) rfl rfl ?_
    refine XS.iloadN X1.here hx rfl (hb hby d1_15) rfl ?_
    show Steps p.tables e below (T1.setTop (mkF m 16 #[iv (15 : Int32), rv b1_1_0, iv (15 : Int32), iv (0 : Int32), .unset] [(.int (0 : Int32)), (.ref b1_1_0)])) _
    refine X1.aaload hx (j := (0 : Int32)) (v := (.ref w_Type_REQUEST)) Ar3.1 (State.isArrayOf_alike hZ.alike Ar3.2.1) rfl Ar3.2.2 hin3 (Hs3.at hin3 rfl) (g := (mkF m 16 #[iv (15 : Int32), rv b1_1_0, iv (15 : Int32), iv (0 : Int32), .unset] [(.int (0 : Int32)), (.ref b1_1_0)])) rfl rfl (hb hby d1_16) _ ?_
    refine XS.astore X1.here hx rfl (hb hby d1_17) rfl rfl (l' := #[iv (15 : Int32), rv b1_1_0, iv (15 : Int32), iv (0 : Int32), rv w_Type_REQUEST]) rfl ?_
    refine XS.aload X1.here hx rfl (hb hby d1_19) rfl rfl ?_
    refine st5 _ ?_
    refine XS.iloadN X5.here hx rfl (hb hby d1_24) rfl ?_
    refine XS.icmpYes X5.here hx rfl (pc0 := 25) (pc' := 31) rfl (hb hby d1_25) rfl (feq (by decide +kernel : ¬ ((1 : Int32) = (15 : Int32)))).2 (by decide) (by decide) ?_
    show Steps p.tables e below (T5.setTop (mkF m 31 #[iv (15 : Int32), rv b1_1_0, iv (15 : Int32), iv (0 : Int32), rv w_Type_REQUEST] [])) _
    refine XS.iinc X5.here hx rfl (hb hby d1_31) rfl (l' := #[iv (15 : Int32), rv b1_1_0, iv (15 : Int32), iv ((0 : Int32) + (1 : Int32)), rv w_Type_REQUEST]) rfl ?_
    show Steps p.tables e below (T5.setTop (mkF m 34 #[iv (15 : Int32), rv b1_1_0, iv (15 : Int32), iv ((0 : Int32) + (1 : Int32)), rv w_Type_REQUEST] [])) _
    rewrite [show ((0 : Int32) + (1 : Int32)) = (1 : Int32) from by decide +kernel]
    refine XS.goto X5.here hx rfl (pc0 := 34) (pc' := 9) rfl (hb hby d1_34) (by decide) (by decide) ?_
    refine XS.iloadN X5.here hx rfl (hb hby d1_9) rfl ?_
    refine XS.iloadN X5.here hx rfl (hb hby d1_10) rfl ?_
    refine XS.icmpNo X5.here hx rfl (hb hby d1_11) rfl (tlt (by decide +kernel : (1 : Int32) < (15 : Int32))).2.1 ?_
    refine XS.aloadN X5.here hx rfl (hb hby d1_14) rfl rfl ?_
    show Steps p.tables e below (T5.setTop (mkF m 15 #[iv (15 : Int32), rv b1_1_0, iv (15 : Int32), iv (1 : Int32), rv w_Type_REQUEST] [(.ref b1_1_0)])) _
    refine XS.iloadN X5.here hx rfl (hb hby d1_15) rfl ?_
    refine X5.aaload hx (j := (1 : Int32)) (v := (.ref w_Type_REPLY)) (by rw [e5]; exact Ar6.1) (State.isArrayOf_alike hZ.alike Ar6.2.1) rfl Ar6.2.2 hin6 (Hs6.at hin6 rfl) (g := (mkF m 16 #[iv (15 : Int32), rv b1_1_0, iv (15 : Int32), iv (1 : Int32), rv w_Type_REQUEST] [(.int (1 : Int32)), (.ref b1_1_0)])) rfl rfl (hb hby d1_16) _ ?_
    refine XS.astore X5.here hx rfl (hb hby d1_17) rfl rfl (l' := #[iv (15 : Int32), rv b1_1_0, iv (15 : Int32), iv (1 : Int32), rv w_Type_REPLY]) rfl ?_
    refine XS.aload X5.here hx rfl (hb hby d1_19) rfl rfl ?_
    refine st8 _ ?_
    refine XS.iloadN X8.here hx rfl (hb hby d1_24) rfl ?_
    show Steps p.tables e below (T8.setTop (mkF m 25 #[iv (15 : Int32), rv b1_1_0, iv (15 : Int32), iv (1 : Int32), rv w_Type_REPLY] [(.int (15 : Int32)), (.int (2 : Int32))])) _
    refine XS.icmpYes X8.here hx rfl (pc0 := 25) (pc' := 31) rfl (hb hby d1_25) rfl (feq (by decide +kernel : ¬ ((2 : Int32) = (15 : Int32)))).2 (by decide) (by decide) ?_
    refine XS.iinc X8.here hx rfl (hb hby d1_31) rfl (l' := #[iv (15 : Int32), rv b1_1_0, iv (15 : Int32), iv ((1 : Int32) + (1 : Int32)), rv w_Type_REPLY]) rfl ?_
    show Steps p.tables e below (T8.setTop (mkF m 34 #[iv (15 : Int32), rv b1_1_0, iv (15 : Int32), iv ((1 : Int32) + (1 : Int32)), rv w_Type_REPLY] [])) _
    rewrite [show ((1 : Int32) + (1 : Int32)) = (2 : Int32) from by decide +kernel]
    refine XS.goto X8.here hx rfl (pc0 := 34) (pc' := 9) rfl (hb hby d1_34) (by decide) (by decide) ?_
    refine XS.iloadN X8.here hx rfl (hb hby d1_9) rfl ?_
    refine XS.iloadN X8.here hx rfl (hb hby d1_10) rfl ?_
    refine XS.icmpNo X8.here hx rfl (hb hby d1_11) rfl (tlt (by decide +kernel : (2 : Int32) < (15 : Int32))).2.1 ?_
    show Steps p.tables e below (T8.setTop (mkF m 14 #[iv (15 : Int32), rv b1_1_0, iv (15 : Int32), iv (2 : Int32), rv w_Type_REPLY] [])) _
    refine XS.aloadN X8.here hx rfl (hb hby d1_14) rfl rfl ?_
    refine XS.iloadN X8.here hx rfl (hb hby d1_15) rfl ?_
    refine X8.aaload hx (j := (2 : Int32)) (v := (.ref w_Type_HEARTBEAT)) (by rw [e8]; exact Ar9.1) (State.isArrayOf_alike hZ.alike Ar9.2.1) rfl Ar9.2.2 hin9 (Hs9.at hin9 rfl) (g := (mkF m 16 #[iv (15 : Int32), rv b1_1_0, iv (15 : Int32), iv (2 : Int32), rv w_Type_REPLY] [(.int (2 : Int32)), (.ref b1_1_0)])) rfl rfl (hb hby d1_16) _ ?_
    refine XS.astore X8.here hx rfl (hb hby d1_17) rfl rfl (l' := #[iv (15 : Int32), rv b1_1_0, iv (15 : Int32), iv (2 : Int32), rv w_Type_HEARTBEAT]) rfl ?_
    refine XS.aload X8.here hx rfl (hb hby d1_19) rfl rfl ?_
    refine st11 _ ?_
    show Steps p.tables e below (T11.setTop (mkF m 24 #[iv (15 : Int32), rv b1_1_0, iv (15 : Int32), iv (2 : Int32), rv w_Type_HEARTBEAT] [(.int (3 : Int32))])) _
    refine XS.iloadN X11.here hx rfl (hb hby d1_24) rfl ?_
    refine XS.icmpYes X11.here hx rfl (pc0 := 25) (pc' := 31) rfl (hb hby d1_25) rfl (feq (by decide +kernel : ¬ ((3 : Int32) = (15 : Int32)))).2 (by decide) (by decide) ?_
    refine XS.iinc X11.here hx rfl (hb hby d1_31) rfl (l' := #[iv (15 : Int32), rv b1_1_0, iv (15 : Int32), iv ((2 : Int32) + (1 : Int32)), rv w_Type_HEARTBEAT]) rfl ?_
    show Steps p.tables e below (T11.setTop (mkF m 34 #[iv (15 : Int32), rv b1_1_0, iv (15 : Int32), iv ((2 : Int32) + (1 : Int32)), rv w_Type_HEARTBEAT] [])) _
    rewrite [show ((2 : Int32) + (1 : Int32)) = (3 : Int32) from by decide +kernel]
    refine XS.goto X11.here hx rfl (pc0 := 34) (pc' := 9) rfl (hb hby d1_34) (by decide) (by decide) ?_
    refine XS.iloadN X11.here hx rfl (hb hby d1_9) rfl ?_
    refine XS.iloadN X11.here hx rfl (hb hby d1_10) rfl ?_
    show Steps p.tables e below (T11.setTop (mkF m 11 #[iv (15 : Int32), rv b1_1_0, iv (15 : Int32), iv (3 : Int32), rv w_Type_HEARTBEAT] [(.int (15 : Int32)), (.int (3 : Int32))])) _
    refine XS.icmpNo X11.here hx rfl (hb hby d1_11) rfl (tlt (by decide +kernel : (3 : Int32) < (15 : Int32))).2.1 ?_
    refine XS.aloadN X11.here hx rfl (hb hby d1_14) rfl rfl ?_
    refine XS.iloadN X11.here hx rfl (hb hby d1_15) rfl ?_
    refine X11.aaload hx (j := (3 : Int32)) (v := (.ref w_Type_ELECTION)) (by rw [e11]; exact Ar12.1) (State.isArrayOf_alike hZ.alike Ar12.2.1) rfl Ar12.2.2 hin12 (Hs12.at hin12 rfl) (g := (mkF m 16 #[iv (15 : Int32), rv b1_1_0, iv (15 : Int32), iv (3 : Int32), rv w_Type_HEARTBEAT] [(.int (3 : Int32)), (.ref b1_1_0)])) rfl rfl (hb hby d1_16) _ ?_
    refine XS.astore X11.here hx rfl (hb hby d1_17) rfl rfl (l' := #[iv (15 : Int32), rv b1_1_0, iv (15 : Int32), iv (3 : Int32), rv w_Type_ELECTION]) rfl ?_
    refine XS.aload X11.here hx rfl (hb hby d1_19) rfl rfl ?_
    show Steps p.tables e below (T11.setTop (mkF m 21 #[iv (15 : Int32), rv b1_1_0, iv (15 : Int32), iv (3 : Int32), rv w_Type_ELECTION] [(.ref w_Type_ELECTION)])) _
    refine st14 _ ?_
    refine XS.iloadN X14.here hx rfl (hb hby d1_24) rfl ?_
    refine XS.icmpYes X14.here hx rfl (pc0 := 25) (pc' := 31) rfl (hb hby d1_25) rfl (feq (by decide +kernel : ¬ ((4 : Int32) = (15 : Int32)))).2 (by decide) (by decide) ?_
    refine XS.iinc X14.here hx rfl (hb hby d1_31) rfl (l' := #[iv (15 : Int32), rv b1_1_0, iv (15 : Int32), iv ((3 : Int32) + (1 : Int32)), rv w_Type_ELECTION]) rfl ?_
    show Steps p.tables e below (T14.setTop (mkF m 34 #[iv (15 : Int32), rv b1_1_0, iv (15 : Int32), iv ((3 : Int32) + (1 : Int32)), rv w_Type_ELECTION] [])) _
    rewrite [show ((3 : Int32) + (1 : Int32)) = (4 : Int32) from by decide +kernel]
    refine XS.goto X14.here hx rfl (pc0 := 34) (pc' := 9) rfl (hb hby d1_34) (by decide) (by decide) ?_
    refine XS.iloadN X14.here hx rfl (hb hby d1_9) rfl ?_
    show Steps p.tables e below (T14.setTop (mkF m 10 #[iv (15 : Int32), rv b1_1_0, iv (15 : Int32), iv (4 : Int32), rv w_Type_ELECTION] [(.int (4 : Int32))])) _
    refine XS.iloadN X14.here hx rfl (hb hby d1_10) rfl ?_
    refine XS.icmpNo X14.here hx rfl (hb hby d1_11) rfl (tlt (by decide +kernel : (4 : Int32) < (15 : Int32))).2.1 ?_
    refine XS.aloadN X14.here hx rfl (hb hby d1_14) rfl rfl ?_
    refine XS.iloadN X14.here hx rfl (hb hby d1_15) rfl ?_
    refine X14.aaload hx (j := (4 : Int32)) (v := (.ref w_Type_ANSWER)) (by rw [e14]; exact Ar15.1) (State.isArrayOf_alike hZ.alike Ar15.2.1) rfl Ar15.2.2 hin15 (Hs15.at hin15 rfl) (g := (mkF m 16 #[iv (15 : Int32), rv b1_1_0, iv (15 : Int32), iv (4 : Int32), rv w_Type_ELECTION] [(.int (4 : Int32)), (.ref b1_1_0)])) rfl rfl (hb hby d1_16) _ ?_
    refine XS.astore X14.here hx rfl (hb hby d1_17) rfl rfl (l' := #[iv (15 : Int32), rv b1_1_0, iv (15 : Int32), iv (4 : Int32), rv w_Type_ANSWER]) rfl ?_
    show Steps p.tables e below (T14.setTop (mkF m 19 #[iv (15 : Int32), rv b1_1_0, iv (15 : Int32), iv (4 : Int32), rv w_Type_ANSWER] [])) _
    refine XS.aload X14.here hx rfl (hb hby d1_19) rfl rfl ?_
    refine st17 _ ?_
    refine XS.iloadN X17.here hx rfl (hb hby d1_24) rfl ?_
    refine XS.icmpYes X17.here hx rfl (pc0 := 25) (pc' := 31) rfl (hb hby d1_25) rfl (feq (by decide +kernel : ¬ ((5 : Int32) = (15 : Int32)))).2 (by decide) (by decide) ?_
    refine XS.iinc X17.here hx rfl (hb hby d1_31) rfl (l' := #[iv (15 : Int32), rv b1_1_0, iv (15 : Int32), iv ((4 : Int32) + (1 : Int32)), rv w_Type_ANSWER]) rfl ?_
    show Steps p.tables e below (T17.setTop (mkF m 34 #[iv (15 : Int32), rv b1_1_0, iv (15 : Int32), iv ((4 : Int32) + (1 : Int32)), rv w_Type_ANSWER] [])) _
    rewrite [show ((4 : Int32) + (1 : Int32)) = (5 : Int32) from by decide +kernel]
    refine XS.goto X17.here hx rfl (pc0 := 34) (pc' := 9) rfl (hb hby d1_34) (by decide) (by decide) ?_
    show Steps p.tables e below (T17.setTop (mkF m 9 #[iv (15 : Int32), rv b1_1_0, iv (15 : Int32), iv (5 : Int32), rv w_Type_ANSWER] [])) _
    refine XS.iloadN X17.here hx rfl (hb hby d1_9) rfl ?_
    refine XS.iloadN X17.here hx rfl (hb hby d1_10) rfl ?_
    refine XS.icmpNo X17.here hx rfl (hb hby d1_11) rfl (tlt (by decide +kernel : (5 : Int32) < (15 : Int32))).2.1 ?_
    refine XS.aloadN X17.here hx rfl (hb hby d1_14) rfl rfl ?_
    refine XS.iloadN X17.here hx rfl (hb hby d1_15) rfl ?_
    refine X17.aaload hx (j := (5 : Int32)) (v := (.ref w_Type_COORDINATOR)) (by rw [e17]; exact Ar18.1) (State.isArrayOf_alike hZ.alike Ar18.2.1) rfl Ar18.2.2 hin18 (Hs18.at hin18 rfl) (g := (mkF m 16 #[iv (15 : Int32), rv b1_1_0, iv (15 : Int32), iv (5 : Int32), rv w_Type_ANSWER] [(.int (5 : Int32)), (.ref b1_1_0)])) rfl rfl (hb hby d1_16) _ ?_
    show Steps p.tables e below (T17.setTop (mkF m 17 #[iv (15 : Int32), rv b1_1_0, iv (15 : Int32), iv (5 : Int32), rv w_Type_ANSWER] [(.ref w_Type_COORDINATOR)])) _
    refine XS.astore X17.here hx rfl (hb hby d1_17) rfl rfl (l' := #[iv (15 : Int32), rv b1_1_0, iv (15 : Int32), iv (5 : Int32), rv w_Type_COORDINATOR]) rfl ?_
    refine XS.aload X17.here hx rfl (hb hby d1_19) rfl rfl ?_
    refine st20 _ ?_
    refine XS.iloadN X20.here hx rfl (hb hby d1_24) rfl ?_
    refine XS.icmpYes X20.here hx rfl (pc0 := 25) (pc' := 31) rfl (hb hby d1_25) rfl (feq (by decide +kernel : ¬ ((6 : Int32) = (15 : Int32)))).2 (by decide) (by decide) ?_
    refine XS.iinc X20.here hx rfl (hb hby d1_31) rfl (l' := #[iv (15 : Int32), rv b1_1_0, iv (15 : Int32), iv ((5 : Int32) + (1 : Int32)), rv w_Type_COORDINATOR]) rfl ?_
    show Steps p.tables e below (T20.setTop (mkF m 34 #[iv (15 : Int32), rv b1_1_0, iv (15 : Int32), iv ((5 : Int32) + (1 : Int32)), rv w_Type_COORDINATOR] [])) _
    rewrite [show ((5 : Int32) + (1 : Int32)) = (6 : Int32) from by decide +kernel]
    show Steps p.tables e below (T20.setTop (mkF m 34 #[iv (15 : Int32), rv b1_1_0, iv (15 : Int32), iv (6 : Int32), rv w_Type_COORDINATOR] [])) _
    refine XS.goto X20.here hx rfl (pc0 := 34) (pc' := 9) rfl (hb hby d1_34) (by decide) (by decide) ?_
    refine XS.iloadN X20.here hx rfl (hb hby d1_9) rfl ?_
    refine XS.iloadN X20.here hx rfl (hb hby d1_10) rfl ?_
    refine XS.icmpNo X20.here hx rfl (hb hby d1_11) rfl (tlt (by decide +kernel : (6 : Int32) < (15 : Int32))).2.1 ?_
    refine XS.aloadN X20.here hx rfl (hb hby d1_14) rfl rfl ?_
    refine XS.iloadN X20.here hx rfl (hb hby d1_15) rfl ?_
    show Steps p.tables e below (T20.setTop (mkF m 16 #[iv (15 : Int32), rv b1_1_0, iv (15 : Int32), iv (6 : Int32), rv w_Type_COORDINATOR] [(.int (6 : Int32)), (.ref b1_1_0)])) _
    refine X20.aaload hx (j := (6 : Int32)) (v := (.ref w_Type_GRANT)) (by rw [e20]; exact Ar21.1) (State.isArrayOf_alike hZ.alike Ar21.2.1) rfl Ar21.2.2 hin21 (Hs21.at hin21 rfl) (g := (mkF m 16 #[iv (15 : Int32), rv b1_1_0, iv (15 : Int32), iv (6 : Int32), rv w_Type_COORDINATOR] [(.int (6 : Int32)), (.ref b1_1_0)])) rfl rfl (hb hby d1_16) _ ?_
    refine XS.astore X20.here hx rfl (hb hby d1_17) rfl rfl (l' := #[iv (15 : Int32), rv b1_1_0, iv (15 : Int32), iv (6 : Int32), rv w_Type_GRANT]) rfl ?_
    refine XS.aload X20.here hx rfl (hb hby d1_19) rfl rfl ?_
    refine st23 _ ?_
    refine XS.iloadN X23.here hx rfl (hb hby d1_24) rfl ?_
    refine XS.icmpYes X23.here hx rfl (pc0 := 25) (pc' := 31) rfl (hb hby d1_25) rfl (feq (by decide +kernel : ¬ ((7 : Int32) = (15 : Int32)))).2 (by decide) (by decide) ?_
    show Steps p.tables e below (T23.setTop (mkF m 31 #[iv (15 : Int32), rv b1_1_0, iv (15 : Int32), iv (6 : Int32), rv w_Type_GRANT] [])) _
    refine XS.iinc X23.here hx rfl (hb hby d1_31) rfl (l' := #[iv (15 : Int32), rv b1_1_0, iv (15 : Int32), iv ((6 : Int32) + (1 : Int32)), rv w_Type_GRANT]) rfl ?_
    show Steps p.tables e below (T23.setTop (mkF m 34 #[iv (15 : Int32), rv b1_1_0, iv (15 : Int32), iv ((6 : Int32) + (1 : Int32)), rv w_Type_GRANT] [])) _
    rewrite [show ((6 : Int32) + (1 : Int32)) = (7 : Int32) from by decide +kernel]
    refine XS.goto X23.here hx rfl (pc0 := 34) (pc' := 9) rfl (hb hby d1_34) (by decide) (by decide) ?_
    refine XS.iloadN X23.here hx rfl (hb hby d1_9) rfl ?_
    refine XS.iloadN X23.here hx rfl (hb hby d1_10) rfl ?_
    refine XS.icmpNo X23.here hx rfl (hb hby d1_11) rfl (tlt (by decide +kernel : (7 : Int32) < (15 : Int32))).2.1 ?_
    refine XS.aloadN X23.here hx rfl (hb hby d1_14) rfl rfl ?_
    show Steps p.tables e below (T23.setTop (mkF m 15 #[iv (15 : Int32), rv b1_1_0, iv (15 : Int32), iv (7 : Int32), rv w_Type_GRANT] [(.ref b1_1_0)])) _
    refine XS.iloadN X23.here hx rfl (hb hby d1_15) rfl ?_
    refine X23.aaload hx (j := (7 : Int32)) (v := (.ref w_Type_RELEASE)) (by rw [e23]; exact Ar24.1) (State.isArrayOf_alike hZ.alike Ar24.2.1) rfl Ar24.2.2 hin24 (Hs24.at hin24 rfl) (g := (mkF m 16 #[iv (15 : Int32), rv b1_1_0, iv (15 : Int32), iv (7 : Int32), rv w_Type_GRANT] [(.int (7 : Int32)), (.ref b1_1_0)])) rfl rfl (hb hby d1_16) _ ?_
    refine XS.astore X23.here hx rfl (hb hby d1_17) rfl rfl (l' := #[iv (15 : Int32), rv b1_1_0, iv (15 : Int32), iv (7 : Int32), rv w_Type_RELEASE]) rfl ?_
    refine XS.aload X23.here hx rfl (hb hby d1_19) rfl rfl ?_
    refine st26 _ ?_
    refine XS.iloadN X26.here hx rfl (hb hby d1_24) rfl ?_
    show Steps p.tables e below (T26.setTop (mkF m 25 #[iv (15 : Int32), rv b1_1_0, iv (15 : Int32), iv (7 : Int32), rv w_Type_RELEASE] [(.int (15 : Int32)), (.int (8 : Int32))])) _
    refine XS.icmpYes X26.here hx rfl (pc0 := 25) (pc' := 31) rfl (hb hby d1_25) rfl (feq (by decide +kernel : ¬ ((8 : Int32) = (15 : Int32)))).2 (by decide) (by decide) ?_
    refine XS.iinc X26.here hx rfl (hb hby d1_31) rfl (l' := #[iv (15 : Int32), rv b1_1_0, iv (15 : Int32), iv ((7 : Int32) + (1 : Int32)), rv w_Type_RELEASE]) rfl ?_
    show Steps p.tables e below (T26.setTop (mkF m 34 #[iv (15 : Int32), rv b1_1_0, iv (15 : Int32), iv ((7 : Int32) + (1 : Int32)), rv w_Type_RELEASE] [])) _
    rewrite [show ((7 : Int32) + (1 : Int32)) = (8 : Int32) from by decide +kernel]
    refine XS.goto X26.here hx rfl (pc0 := 34) (pc' := 9) rfl (hb hby d1_34) (by decide) (by decide) ?_
    refine XS.iloadN X26.here hx rfl (hb hby d1_9) rfl ?_
    refine XS.iloadN X26.here hx rfl (hb hby d1_10) rfl ?_
    refine XS.icmpNo X26.here hx rfl (hb hby d1_11) rfl (tlt (by decide +kernel : (8 : Int32) < (15 : Int32))).2.1 ?_
    show Steps p.tables e below (T26.setTop (mkF m 14 #[iv (15 : Int32), rv b1_1_0, iv (15 : Int32), iv (8 : Int32), rv w_Type_RELEASE] [])) _
    refine XS.aloadN X26.here hx rfl (hb hby d1_14) rfl rfl ?_
    refine XS.iloadN X26.here hx rfl (hb hby d1_15) rfl ?_
    refine X26.aaload hx (j := (8 : Int32)) (v := (.ref w_Type_HELD)) (by rw [e26]; exact Ar27.1) (State.isArrayOf_alike hZ.alike Ar27.2.1) rfl Ar27.2.2 hin27 (Hs27.at hin27 rfl) (g := (mkF m 16 #[iv (15 : Int32), rv b1_1_0, iv (15 : Int32), iv (8 : Int32), rv w_Type_RELEASE] [(.int (8 : Int32)), (.ref b1_1_0)])) rfl rfl (hb hby d1_16) _ ?_
    refine XS.astore X26.here hx rfl (hb hby d1_17) rfl rfl (l' := #[iv (15 : Int32), rv b1_1_0, iv (15 : Int32), iv (8 : Int32), rv w_Type_HELD]) rfl ?_
    refine XS.aload X26.here hx rfl (hb hby d1_19) rfl rfl ?_
    refine st29 _ ?_
    show Steps p.tables e below (T29.setTop (mkF m 24 #[iv (15 : Int32), rv b1_1_0, iv (15 : Int32), iv (8 : Int32), rv w_Type_HELD] [(.int (9 : Int32))])) _
    refine XS.iloadN X29.here hx rfl (hb hby d1_24) rfl ?_
    refine XS.icmpYes X29.here hx rfl (pc0 := 25) (pc' := 31) rfl (hb hby d1_25) rfl (feq (by decide +kernel : ¬ ((9 : Int32) = (15 : Int32)))).2 (by decide) (by decide) ?_
    refine XS.iinc X29.here hx rfl (hb hby d1_31) rfl (l' := #[iv (15 : Int32), rv b1_1_0, iv (15 : Int32), iv ((8 : Int32) + (1 : Int32)), rv w_Type_HELD]) rfl ?_
    show Steps p.tables e below (T29.setTop (mkF m 34 #[iv (15 : Int32), rv b1_1_0, iv (15 : Int32), iv ((8 : Int32) + (1 : Int32)), rv w_Type_HELD] [])) _
    rewrite [show ((8 : Int32) + (1 : Int32)) = (9 : Int32) from by decide +kernel]
    refine XS.goto X29.here hx rfl (pc0 := 34) (pc' := 9) rfl (hb hby d1_34) (by decide) (by decide) ?_
    refine XS.iloadN X29.here hx rfl (hb hby d1_9) rfl ?_
    refine XS.iloadN X29.here hx rfl (hb hby d1_10) rfl ?_
    show Steps p.tables e below (T29.setTop (mkF m 11 #[iv (15 : Int32), rv b1_1_0, iv (15 : Int32), iv (9 : Int32), rv w_Type_HELD] [(.int (15 : Int32)), (.int (9 : Int32))])) _
    refine XS.icmpNo X29.here hx rfl (hb hby d1_11) rfl (tlt (by decide +kernel : (9 : Int32) < (15 : Int32))).2.1 ?_
    refine XS.aloadN X29.here hx rfl (hb hby d1_14) rfl rfl ?_
    refine XS.iloadN X29.here hx rfl (hb hby d1_15) rfl ?_
    refine X29.aaload hx (j := (9 : Int32)) (v := (.ref w_Type_REPORTED)) (by rw [e29]; exact Ar30.1) (State.isArrayOf_alike hZ.alike Ar30.2.1) rfl Ar30.2.2 hin30 (Hs30.at hin30 rfl) (g := (mkF m 16 #[iv (15 : Int32), rv b1_1_0, iv (15 : Int32), iv (9 : Int32), rv w_Type_HELD] [(.int (9 : Int32)), (.ref b1_1_0)])) rfl rfl (hb hby d1_16) _ ?_
    refine XS.astore X29.here hx rfl (hb hby d1_17) rfl rfl (l' := #[iv (15 : Int32), rv b1_1_0, iv (15 : Int32), iv (9 : Int32), rv w_Type_REPORTED]) rfl ?_
    refine XS.aload X29.here hx rfl (hb hby d1_19) rfl rfl ?_
    show Steps p.tables e below (T29.setTop (mkF m 21 #[iv (15 : Int32), rv b1_1_0, iv (15 : Int32), iv (9 : Int32), rv w_Type_REPORTED] [(.ref w_Type_REPORTED)])) _
    refine st32 _ ?_
    refine XS.iloadN X32.here hx rfl (hb hby d1_24) rfl ?_
    refine XS.icmpYes X32.here hx rfl (pc0 := 25) (pc' := 31) rfl (hb hby d1_25) rfl (feq (by decide +kernel : ¬ ((10 : Int32) = (15 : Int32)))).2 (by decide) (by decide) ?_
    refine XS.iinc X32.here hx rfl (hb hby d1_31) rfl (l' := #[iv (15 : Int32), rv b1_1_0, iv (15 : Int32), iv ((9 : Int32) + (1 : Int32)), rv w_Type_REPORTED]) rfl ?_
    show Steps p.tables e below (T32.setTop (mkF m 34 #[iv (15 : Int32), rv b1_1_0, iv (15 : Int32), iv ((9 : Int32) + (1 : Int32)), rv w_Type_REPORTED] [])) _
    rewrite [show ((9 : Int32) + (1 : Int32)) = (10 : Int32) from by decide +kernel]
    refine XS.goto X32.here hx rfl (pc0 := 34) (pc' := 9) rfl (hb hby d1_34) (by decide) (by decide) ?_
    refine XS.iloadN X32.here hx rfl (hb hby d1_9) rfl ?_
    show Steps p.tables e below (T32.setTop (mkF m 10 #[iv (15 : Int32), rv b1_1_0, iv (15 : Int32), iv (10 : Int32), rv w_Type_REPORTED] [(.int (10 : Int32))])) _
    refine XS.iloadN X32.here hx rfl (hb hby d1_10) rfl ?_
    refine XS.icmpNo X32.here hx rfl (hb hby d1_11) rfl (tlt (by decide +kernel : (10 : Int32) < (15 : Int32))).2.1 ?_
    refine XS.aloadN X32.here hx rfl (hb hby d1_14) rfl rfl ?_
    refine XS.iloadN X32.here hx rfl (hb hby d1_15) rfl ?_
    refine X32.aaload hx (j := (10 : Int32)) (v := (.ref w_Type_LOCKED)) (by rw [e32]; exact Ar33.1) (State.isArrayOf_alike hZ.alike Ar33.2.1) rfl Ar33.2.2 hin33 (Hs33.at hin33 rfl) (g := (mkF m 16 #[iv (15 : Int32), rv b1_1_0, iv (15 : Int32), iv (10 : Int32), rv w_Type_REPORTED] [(.int (10 : Int32)), (.ref b1_1_0)])) rfl rfl (hb hby d1_16) _ ?_
    refine XS.astore X32.here hx rfl (hb hby d1_17) rfl rfl (l' := #[iv (15 : Int32), rv b1_1_0, iv (15 : Int32), iv (10 : Int32), rv w_Type_LOCKED]) rfl ?_
    show Steps p.tables e below (T32.setTop (mkF m 19 #[iv (15 : Int32), rv b1_1_0, iv (15 : Int32), iv (10 : Int32), rv w_Type_LOCKED] [])) _
    refine XS.aload X32.here hx rfl (hb hby d1_19) rfl rfl ?_
    refine st35 _ ?_
    refine XS.iloadN X35.here hx rfl (hb hby d1_24) rfl ?_
    refine XS.icmpYes X35.here hx rfl (pc0 := 25) (pc' := 31) rfl (hb hby d1_25) rfl (feq (by decide +kernel : ¬ ((11 : Int32) = (15 : Int32)))).2 (by decide) (by decide) ?_
    refine XS.iinc X35.here hx rfl (hb hby d1_31) rfl (l' := #[iv (15 : Int32), rv b1_1_0, iv (15 : Int32), iv ((10 : Int32) + (1 : Int32)), rv w_Type_LOCKED]) rfl ?_
    show Steps p.tables e below (T35.setTop (mkF m 34 #[iv (15 : Int32), rv b1_1_0, iv (15 : Int32), iv ((10 : Int32) + (1 : Int32)), rv w_Type_LOCKED] [])) _
    rewrite [show ((10 : Int32) + (1 : Int32)) = (11 : Int32) from by decide +kernel]
    refine XS.goto X35.here hx rfl (pc0 := 34) (pc' := 9) rfl (hb hby d1_34) (by decide) (by decide) ?_
    show Steps p.tables e below (T35.setTop (mkF m 9 #[iv (15 : Int32), rv b1_1_0, iv (15 : Int32), iv (11 : Int32), rv w_Type_LOCKED] [])) _
    refine XS.iloadN X35.here hx rfl (hb hby d1_9) rfl ?_
    refine XS.iloadN X35.here hx rfl (hb hby d1_10) rfl ?_
    refine XS.icmpNo X35.here hx rfl (hb hby d1_11) rfl (tlt (by decide +kernel : (11 : Int32) < (15 : Int32))).2.1 ?_
    refine XS.aloadN X35.here hx rfl (hb hby d1_14) rfl rfl ?_
    refine XS.iloadN X35.here hx rfl (hb hby d1_15) rfl ?_
    refine X35.aaload hx (j := (11 : Int32)) (v := (.ref w_Type_INQUIRE)) (by rw [e35]; exact Ar36.1) (State.isArrayOf_alike hZ.alike Ar36.2.1) rfl Ar36.2.2 hin36 (Hs36.at hin36 rfl) (g := (mkF m 16 #[iv (15 : Int32), rv b1_1_0, iv (15 : Int32), iv (11 : Int32), rv w_Type_LOCKED] [(.int (11 : Int32)), (.ref b1_1_0)])) rfl rfl (hb hby d1_16) _ ?_
    show Steps p.tables e below (T35.setTop (mkF m 17 #[iv (15 : Int32), rv b1_1_0, iv (15 : Int32), iv (11 : Int32), rv w_Type_LOCKED] [(.ref w_Type_INQUIRE)])) _
    refine XS.astore X35.here hx rfl (hb hby d1_17) rfl rfl (l' := #[iv (15 : Int32), rv b1_1_0, iv (15 : Int32), iv (11 : Int32), rv w_Type_INQUIRE]) rfl ?_
    refine XS.aload X35.here hx rfl (hb hby d1_19) rfl rfl ?_
    refine st38 _ ?_
    refine XS.iloadN X38.here hx rfl (hb hby d1_24) rfl ?_
    refine XS.icmpYes X38.here hx rfl (pc0 := 25) (pc' := 31) rfl (hb hby d1_25) rfl (feq (by decide +kernel : ¬ ((12 : Int32) = (15 : Int32)))).2 (by decide) (by decide) ?_
    refine XS.iinc X38.here hx rfl (hb hby d1_31) rfl (l' := #[iv (15 : Int32), rv b1_1_0, iv (15 : Int32), iv ((11 : Int32) + (1 : Int32)), rv w_Type_INQUIRE]) rfl ?_
    show Steps p.tables e below (T38.setTop (mkF m 34 #[iv (15 : Int32), rv b1_1_0, iv (15 : Int32), iv ((11 : Int32) + (1 : Int32)), rv w_Type_INQUIRE] [])) _
    rewrite [show ((11 : Int32) + (1 : Int32)) = (12 : Int32) from by decide +kernel]
    show Steps p.tables e below (T38.setTop (mkF m 34 #[iv (15 : Int32), rv b1_1_0, iv (15 : Int32), iv (12 : Int32), rv w_Type_INQUIRE] [])) _
    refine XS.goto X38.here hx rfl (pc0 := 34) (pc' := 9) rfl (hb hby d1_34) (by decide) (by decide) ?_
    refine XS.iloadN X38.here hx rfl (hb hby d1_9) rfl ?_
    refine XS.iloadN X38.here hx rfl (hb hby d1_10) rfl ?_
    refine XS.icmpNo X38.here hx rfl (hb hby d1_11) rfl (tlt (by decide +kernel : (12 : Int32) < (15 : Int32))).2.1 ?_
    refine XS.aloadN X38.here hx rfl (hb hby d1_14) rfl rfl ?_
    refine XS.iloadN X38.here hx rfl (hb hby d1_15) rfl ?_
    show Steps p.tables e below (T38.setTop (mkF m 16 #[iv (15 : Int32), rv b1_1_0, iv (15 : Int32), iv (12 : Int32), rv w_Type_INQUIRE] [(.int (12 : Int32)), (.ref b1_1_0)])) _
    refine X38.aaload hx (j := (12 : Int32)) (v := (.ref w_Type_FAILED)) (by rw [e38]; exact Ar39.1) (State.isArrayOf_alike hZ.alike Ar39.2.1) rfl Ar39.2.2 hin39 (Hs39.at hin39 rfl) (g := (mkF m 16 #[iv (15 : Int32), rv b1_1_0, iv (15 : Int32), iv (12 : Int32), rv w_Type_INQUIRE] [(.int (12 : Int32)), (.ref b1_1_0)])) rfl rfl (hb hby d1_16) _ ?_
    refine XS.astore X38.here hx rfl (hb hby d1_17) rfl rfl (l' := #[iv (15 : Int32), rv b1_1_0, iv (15 : Int32), iv (12 : Int32), rv w_Type_FAILED]) rfl ?_
    refine XS.aload X38.here hx rfl (hb hby d1_19) rfl rfl ?_
    refine st41 _ ?_
    refine XS.iloadN X41.here hx rfl (hb hby d1_24) rfl ?_
    refine XS.icmpYes X41.here hx rfl (pc0 := 25) (pc' := 31) rfl (hb hby d1_25) rfl (feq (by decide +kernel : ¬ ((13 : Int32) = (15 : Int32)))).2 (by decide) (by decide) ?_
    show Steps p.tables e below (T41.setTop (mkF m 31 #[iv (15 : Int32), rv b1_1_0, iv (15 : Int32), iv (12 : Int32), rv w_Type_FAILED] [])) _
    refine XS.iinc X41.here hx rfl (hb hby d1_31) rfl (l' := #[iv (15 : Int32), rv b1_1_0, iv (15 : Int32), iv ((12 : Int32) + (1 : Int32)), rv w_Type_FAILED]) rfl ?_
    show Steps p.tables e below (T41.setTop (mkF m 34 #[iv (15 : Int32), rv b1_1_0, iv (15 : Int32), iv ((12 : Int32) + (1 : Int32)), rv w_Type_FAILED] [])) _
    rewrite [show ((12 : Int32) + (1 : Int32)) = (13 : Int32) from by decide +kernel]
    refine XS.goto X41.here hx rfl (pc0 := 34) (pc' := 9) rfl (hb hby d1_34) (by decide) (by decide) ?_
    refine XS.iloadN X41.here hx rfl (hb hby d1_9) rfl ?_
    refine XS.iloadN X41.here hx rfl (hb hby d1_10) rfl ?_
    refine XS.icmpNo X41.here hx rfl (hb hby d1_11) rfl (tlt (by decide +kernel : (13 : Int32) < (15 : Int32))).2.1 ?_
    refine XS.aloadN X41.here hx rfl (hb hby d1_14) rfl rfl ?_
    show Steps p.tables e below (T41.setTop (mkF m 15 #[iv (15 : Int32), rv b1_1_0, iv (15 : Int32), iv (13 : Int32), rv w_Type_FAILED] [(.ref b1_1_0)])) _
    refine XS.iloadN X41.here hx rfl (hb hby d1_15) rfl ?_
    refine X41.aaload hx (j := (13 : Int32)) (v := (.ref w_Type_RELINQUISH)) (by rw [e41]; exact Ar42.1) (State.isArrayOf_alike hZ.alike Ar42.2.1) rfl Ar42.2.2 hin42 (Hs42.at hin42 rfl) (g := (mkF m 16 #[iv (15 : Int32), rv b1_1_0, iv (15 : Int32), iv (13 : Int32), rv w_Type_FAILED] [(.int (13 : Int32)), (.ref b1_1_0)])) rfl rfl (hb hby d1_16) _ ?_
    refine XS.astore X41.here hx rfl (hb hby d1_17) rfl rfl (l' := #[iv (15 : Int32), rv b1_1_0, iv (15 : Int32), iv (13 : Int32), rv w_Type_RELINQUISH]) rfl ?_
    refine XS.aload X41.here hx rfl (hb hby d1_19) rfl rfl ?_
    refine st44 _ ?_
    refine XS.iloadN X44.here hx rfl (hb hby d1_24) rfl ?_
    show Steps p.tables e below (T44.setTop (mkF m 25 #[iv (15 : Int32), rv b1_1_0, iv (15 : Int32), iv (13 : Int32), rv w_Type_RELINQUISH] [(.int (15 : Int32)), (.int (14 : Int32))])) _
    refine XS.icmpYes X44.here hx rfl (pc0 := 25) (pc' := 31) rfl (hb hby d1_25) rfl (feq (by decide +kernel : ¬ ((14 : Int32) = (15 : Int32)))).2 (by decide) (by decide) ?_
    refine XS.iinc X44.here hx rfl (hb hby d1_31) rfl (l' := #[iv (15 : Int32), rv b1_1_0, iv (15 : Int32), iv ((13 : Int32) + (1 : Int32)), rv w_Type_RELINQUISH]) rfl ?_
    show Steps p.tables e below (T44.setTop (mkF m 34 #[iv (15 : Int32), rv b1_1_0, iv (15 : Int32), iv ((13 : Int32) + (1 : Int32)), rv w_Type_RELINQUISH] [])) _
    rewrite [show ((13 : Int32) + (1 : Int32)) = (14 : Int32) from by decide +kernel]
    refine XS.goto X44.here hx rfl (pc0 := 34) (pc' := 9) rfl (hb hby d1_34) (by decide) (by decide) ?_
    refine XS.iloadN X44.here hx rfl (hb hby d1_9) rfl ?_
    refine XS.iloadN X44.here hx rfl (hb hby d1_10) rfl ?_
    refine XS.icmpNo X44.here hx rfl (hb hby d1_11) rfl (tlt (by decide +kernel : (14 : Int32) < (15 : Int32))).2.1 ?_
    show Steps p.tables e below (T44.setTop (mkF m 14 #[iv (15 : Int32), rv b1_1_0, iv (15 : Int32), iv (14 : Int32), rv w_Type_RELINQUISH] [])) _
    refine XS.aloadN X44.here hx rfl (hb hby d1_14) rfl rfl ?_
    refine XS.iloadN X44.here hx rfl (hb hby d1_15) rfl ?_
    refine X44.aaload hx (j := (14 : Int32)) (v := (.ref w_Type_TOKEN)) (by rw [e44]; exact Ar45.1) (State.isArrayOf_alike hZ.alike Ar45.2.1) rfl Ar45.2.2 hin45 (Hs45.at hin45 rfl) (g := (mkF m 16 #[iv (15 : Int32), rv b1_1_0, iv (15 : Int32), iv (14 : Int32), rv w_Type_RELINQUISH] [(.int (14 : Int32)), (.ref b1_1_0)])) rfl rfl (hb hby d1_16) _ ?_
    refine XS.astore X44.here hx rfl (hb hby d1_17) rfl rfl (l' := #[iv (15 : Int32), rv b1_1_0, iv (15 : Int32), iv (14 : Int32), rv w_Type_TOKEN]) rfl ?_
    refine XS.aload X44.here hx rfl (hb hby d1_19) rfl rfl ?_
    refine st47 _ ?_
    show Steps p.tables e below (T47.setTop (mkF m 24 #[iv (15 : Int32), rv b1_1_0, iv (15 : Int32), iv (14 : Int32), rv w_Type_TOKEN] [(.int (15 : Int32))])) _
    refine XS.iloadN X47.here hx rfl (hb hby d1_24) rfl ?_
    refine XS.icmpNo X47.here hx rfl (hb hby d1_25) rfl (teq (by decide +kernel : (15 : Int32) = (15 : Int32))).2 ?_
    refine XS.aload X47.here hx rfl (hb hby d1_28) rfl rfl ?_
    exact own_retA X47 hx Bd.returns rfl rfl (hb hby d1_30) hr
  · exact (by show Q_rk_found_14 Z w_Type_TOKEN h0 n0 _ T47.heap _; rw [e47]; exact ⟨rfl, N1, KK1⟩)
set_option maxRecDepth 65536 in
set_option maxHeartbeats 40000000 in
theorem rk_found (l : Launch) (Z : State) (a0 : Array Value) (hw : ∀ d ∈ tables_1, d.before a0 Z = true) (ws : List Jvm.Cond) (w_Type__VALUES : Addr) (w_Type_REQUEST : Addr) (w_Type_REPLY : Addr) (w_Type_HEARTBEAT : Addr) (w_Type_ELECTION : Addr) (w_Type_ANSWER : Addr) (w_Type_COORDINATOR : Addr) (w_Type_GRANT : Addr) (w_Type_RELEASE : Addr) (w_Type_HELD : Addr) (w_Type_REPORTED : Addr) (w_Type_LOCKED : Addr) (w_Type_INQUIRE : Addr) (w_Type_FAILED : Addr) (w_Type_RELINQUISH : Addr) (w_Type_TOKEN : Addr) (k_w_Type__VALUES : ClassId) (ck : Int32) (h0 : Heap) (n0 : Nat) (Z0 : n0 ≤ h0.size) (hlo : ¬ (ck < (1 : Int32))) (hhi : ¬ ((15 : Int32) < ck)) (S_Type__VALUES : Sta Z h0 "com/example/stile/stile/Message$Type" "$VALUES" "[Lcom/example/stile/stile/Message$Type;" (.ref w_Type__VALUES)) (V_w_Type__VALUES : Arv Z h0 w_Type__VALUES k_w_Type__VALUES (.object "com/example/stile/stile/Message$Type") (15 : Int32) [(.ref w_Type_REQUEST), (.ref w_Type_REPLY), (.ref w_Type_HEARTBEAT), (.ref w_Type_ELECTION), (.ref w_Type_ANSWER), (.ref w_Type_COORDINATOR), (.ref w_Type_GRANT), (.ref w_Type_RELEASE), (.ref w_Type_HELD), (.ref w_Type_REPORTED), (.ref w_Type_LOCKED), (.ref w_Type_INQUIRE), (.ref w_Type_FAILED), (.ref w_Type_RELINQUISH), (.ref w_Type_TOKEN)] .null) (E_w_Type__VALUES : Exa Z h0 w_Type__VALUES "[Lcom/example/stile/stile/Message$Type;") (F_w_Type_REQUEST_code : Fld Z h0 w_Type_REQUEST "com/example/stile/stile/Message$Type" "code" "I" (.int (1 : Int32))) (F_w_Type_REPLY_code : Fld Z h0 w_Type_REPLY "com/example/stile/stile/Message$Type" "code" "I" (.int (2 : Int32))) (F_w_Type_HEARTBEAT_code : Fld Z h0 w_Type_HEARTBEAT "com/example/stile/stile/Message$Type" "code" "I" (.int (3 : Int32))) (F_w_Type_ELECTION_code : Fld Z h0 w_Type_ELECTION "com/example/stile/stile/Message$Type" "code" "I" (.int (4 : Int32))) (F_w_Type_ANSWER_code : Fld Z h0 w_Type_ANSWER "com/example/stile/stile/Message$Type" "code" "I" (.int (5 : Int32))) (F_w_Type_COORDINATOR_code : Fld Z h0 w_Type_COORDINATOR "com/example/stile/stile/Message$Type" "code" "I" (.int (6 : Int32))) (F_w_Type_GRANT_code : Fld Z h0 w_Type_GRANT "com/example/stile/stile/Message$Type" "code" "I" (.int (7 : Int32))) (F_w_Type_RELEASE_code : Fld Z h0 w_Type_RELEASE "com/example/stile/stile/Message$Type" "code" "I" (.int (8 : Int32))) (F_w_Type_HELD_code : Fld Z h0 w_Type_HELD "com/example/stile/stile/Message$Type" "code" "I" (.int (9 : Int32))) (F_w_Type_REPORTED_code : Fld Z h0 w_Type_REPORTED "com/example/stile/stile/Message$Type" "code" "I" (.int (10 : Int32))) (F_w_Type_LOCKED_code : Fld Z h0 w_Type_LOCKED "com/example/stile/stile/Message$Type" "code" "I" (.int (11 : Int32))) (F_w_Type_INQUIRE_code : Fld Z h0 w_Type_INQUIRE "com/example/stile/stile/Message$Type" "code" "I" (.int (12 : Int32))) (F_w_Type_FAILED_code : Fld Z h0 w_Type_FAILED "com/example/stile/stile/Message$Type" "code" "I" (.int (13 : Int32))) (F_w_Type_RELINQUISH_code : Fld Z h0 w_Type_RELINQUISH "com/example/stile/stile/Message$Type" "code" "I" (.int (14 : Int32))) (F_w_Type_TOKEN_code : Fld Z h0 w_Type_TOKEN "com/example/stile/stile/Message$Type" "code" "I" (.int (15 : Int32))) (E_w_Type_REQUEST : Exa Z h0 w_Type_REQUEST "com/example/stile/stile/Message$Type") (E_w_Type_REPLY : Exa Z h0 w_Type_REPLY "com/example/stile/stile/Message$Type") (E_w_Type_HEARTBEAT : Exa Z h0 w_Type_HEARTBEAT "com/example/stile/stile/Message$Type") (E_w_Type_ELECTION : Exa Z h0 w_Type_ELECTION "com/example/stile/stile/Message$Type") (E_w_Type_ANSWER : Exa Z h0 w_Type_ANSWER "com/example/stile/stile/Message$Type") (E_w_Type_COORDINATOR : Exa Z h0 w_Type_COORDINATOR "com/example/stile/stile/Message$Type") (E_w_Type_GRANT : Exa Z h0 w_Type_GRANT "com/example/stile/stile/Message$Type") (E_w_Type_RELEASE : Exa Z h0 w_Type_RELEASE "com/example/stile/stile/Message$Type") (E_w_Type_HELD : Exa Z h0 w_Type_HELD "com/example/stile/stile/Message$Type") (E_w_Type_REPORTED : Exa Z h0 w_Type_REPORTED "com/example/stile/stile/Message$Type") (E_w_Type_LOCKED : Exa Z h0 w_Type_LOCKED "com/example/stile/stile/Message$Type") (E_w_Type_INQUIRE : Exa Z h0 w_Type_INQUIRE "com/example/stile/stile/Message$Type") (E_w_Type_FAILED : Exa Z h0 w_Type_FAILED "com/example/stile/stile/Message$Type") (E_w_Type_RELINQUISH : Exa Z h0 w_Type_RELINQUISH "com/example/stile/stile/Message$Type") (E_w_Type_TOKEN : Exa Z h0 w_Type_TOKEN "com/example/stile/stile/Message$Type") :
    MetFree l (⟨"com/example/stile/stile/Message$Type", "of", "(I)Lcom/example/stile/stile/Message$Type;"⟩ : MethodName) (head1 (Jvm.Cond.code (⟨"com/example/stile/stile/Message$Type", "of", "(I)Lcom/example/stile/stile/Message$Type;"⟩ : MethodName) prog_48_method_8_code 5 (some (.object "com/example/stile/stile/Message$Type")) :: ws) ({ frames := 2, cells := 1, slots := 15, locals := 25 } : Room)) (fun a U => a = #[(.int ck)] ∧ Z.Warmed39 U.vm ∧ U.heap = h0) (fun _ _ _ _ _ => True) (fun _ U o U' => ∃ v L, o = .returned v ∧ own_QF Z ck h0 n0 v U'.heap L ∧ FrameEnd U o U' L ({ frames := 2, cells := 1, slots := 15, locals := 25 } : Room).cells ({ frames := 2, cells := 1, slots := 15, locals := 25 } : Room).slots) := by
  rcases own_in hlo hhi with rfl | rfl | rfl | rfl | rfl | rfl | rfl | rfl | rfl | rfl | rfl | rfl | rfl | rfl | rfl
  · exact own_imp (rk_found_0 l Z a0 hw ws w_Type__VALUES w_Type_REQUEST w_Type_REPLY w_Type_HEARTBEAT w_Type_ELECTION w_Type_ANSWER w_Type_COORDINATOR w_Type_GRANT w_Type_RELEASE w_Type_HELD w_Type_REPORTED w_Type_LOCKED w_Type_INQUIRE w_Type_FAILED w_Type_RELINQUISH w_Type_TOKEN k_w_Type__VALUES h0 n0 Z0 S_Type__VALUES V_w_Type__VALUES E_w_Type__VALUES F_w_Type_REQUEST_code) (fun v h L q => by obtain ⟨rfl, N, K⟩ := q; exact ⟨w_Type_REQUEST, rfl, N, K, E_w_Type_REQUEST.keep K, F_w_Type_REQUEST_code.keep K nin0⟩)
  · exact own_imp (rk_found_1 l Z a0 hw ws w_Type__VALUES w_Type_REQUEST w_Type_REPLY w_Type_HEARTBEAT w_Type_ELECTION w_Type_ANSWER w_Type_COORDINATOR w_Type_GRANT w_Type_RELEASE w_Type_HELD w_Type_REPORTED w_Type_LOCKED w_Type_INQUIRE w_Type_FAILED w_Type_RELINQUISH w_Type_TOKEN k_w_Type__VALUES h0 n0 Z0 S_Type__VALUES V_w_Type__VALUES E_w_Type__VALUES F_w_Type_REQUEST_code F_w_Type_REPLY_code) (fun v h L q => by obtain ⟨rfl, N, K⟩ := q; exact ⟨w_Type_REPLY, rfl, N, K, E_w_Type_REPLY.keep K, F_w_Type_REPLY_code.keep K nin0⟩)
  · exact own_imp (rk_found_2 l Z a0 hw ws w_Type__VALUES w_Type_REQUEST w_Type_REPLY w_Type_HEARTBEAT w_Type_ELECTION w_Type_ANSWER w_Type_COORDINATOR w_Type_GRANT w_Type_RELEASE w_Type_HELD w_Type_REPORTED w_Type_LOCKED w_Type_INQUIRE w_Type_FAILED w_Type_RELINQUISH w_Type_TOKEN k_w_Type__VALUES h0 n0 Z0 S_Type__VALUES V_w_Type__VALUES E_w_Type__VALUES F_w_Type_REQUEST_code F_w_Type_REPLY_code F_w_Type_HEARTBEAT_code) (fun v h L q => by obtain ⟨rfl, N, K⟩ := q; exact ⟨w_Type_HEARTBEAT, rfl, N, K, E_w_Type_HEARTBEAT.keep K, F_w_Type_HEARTBEAT_code.keep K nin0⟩)
  · exact own_imp (rk_found_3 l Z a0 hw ws w_Type__VALUES w_Type_REQUEST w_Type_REPLY w_Type_HEARTBEAT w_Type_ELECTION w_Type_ANSWER w_Type_COORDINATOR w_Type_GRANT w_Type_RELEASE w_Type_HELD w_Type_REPORTED w_Type_LOCKED w_Type_INQUIRE w_Type_FAILED w_Type_RELINQUISH w_Type_TOKEN k_w_Type__VALUES h0 n0 Z0 S_Type__VALUES V_w_Type__VALUES E_w_Type__VALUES F_w_Type_REQUEST_code F_w_Type_REPLY_code F_w_Type_HEARTBEAT_code F_w_Type_ELECTION_code) (fun v h L q => by obtain ⟨rfl, N, K⟩ := q; exact ⟨w_Type_ELECTION, rfl, N, K, E_w_Type_ELECTION.keep K, F_w_Type_ELECTION_code.keep K nin0⟩)
  · exact own_imp (rk_found_4 l Z a0 hw ws w_Type__VALUES w_Type_REQUEST w_Type_REPLY w_Type_HEARTBEAT w_Type_ELECTION w_Type_ANSWER w_Type_COORDINATOR w_Type_GRANT w_Type_RELEASE w_Type_HELD w_Type_REPORTED w_Type_LOCKED w_Type_INQUIRE w_Type_FAILED w_Type_RELINQUISH w_Type_TOKEN k_w_Type__VALUES h0 n0 Z0 S_Type__VALUES V_w_Type__VALUES E_w_Type__VALUES F_w_Type_REQUEST_code F_w_Type_REPLY_code F_w_Type_HEARTBEAT_code F_w_Type_ELECTION_code F_w_Type_ANSWER_code) (fun v h L q => by obtain ⟨rfl, N, K⟩ := q; exact ⟨w_Type_ANSWER, rfl, N, K, E_w_Type_ANSWER.keep K, F_w_Type_ANSWER_code.keep K nin0⟩)
  · exact own_imp (rk_found_5 l Z a0 hw ws w_Type__VALUES w_Type_REQUEST w_Type_REPLY w_Type_HEARTBEAT w_Type_ELECTION w_Type_ANSWER w_Type_COORDINATOR w_Type_GRANT w_Type_RELEASE w_Type_HELD w_Type_REPORTED w_Type_LOCKED w_Type_INQUIRE w_Type_FAILED w_Type_RELINQUISH w_Type_TOKEN k_w_Type__VALUES h0 n0 Z0 S_Type__VALUES V_w_Type__VALUES E_w_Type__VALUES F_w_Type_REQUEST_code F_w_Type_REPLY_code F_w_Type_HEARTBEAT_code F_w_Type_ELECTION_code F_w_Type_ANSWER_code F_w_Type_COORDINATOR_code) (fun v h L q => by obtain ⟨rfl, N, K⟩ := q; exact ⟨w_Type_COORDINATOR, rfl, N, K, E_w_Type_COORDINATOR.keep K, F_w_Type_COORDINATOR_code.keep K nin0⟩)
  · exact own_imp (rk_found_6 l Z a0 hw ws w_Type__VALUES w_Type_REQUEST w_Type_REPLY w_Type_HEARTBEAT w_Type_ELECTION w_Type_ANSWER w_Type_COORDINATOR w_Type_GRANT w_Type_RELEASE w_Type_HELD w_Type_REPORTED w_Type_LOCKED w_Type_INQUIRE w_Type_FAILED w_Type_RELINQUISH w_Type_TOKEN k_w_Type__VALUES h0 n0 Z0 S_Type__VALUES V_w_Type__VALUES E_w_Type__VALUES F_w_Type_REQUEST_code F_w_Type_REPLY_code F_w_Type_HEARTBEAT_code F_w_Type_ELECTION_code F_w_Type_ANSWER_code F_w_Type_COORDINATOR_code F_w_Type_GRANT_code) (fun v h L q => by obtain ⟨rfl, N, K⟩ := q; exact ⟨w_Type_GRANT, rfl, N, K, E_w_Type_GRANT.keep K, F_w_Type_GRANT_code.keep K nin0⟩)
  · exact own_imp (rk_found_7 l Z a0 hw ws w_Type__VALUES w_Type_REQUEST w_Type_REPLY w_Type_HEARTBEAT w_Type_ELECTION w_Type_ANSWER w_Type_COORDINATOR w_Type_GRANT w_Type_RELEASE w_Type_HELD w_Type_REPORTED w_Type_LOCKED w_Type_INQUIRE w_Type_FAILED w_Type_RELINQUISH w_Type_TOKEN k_w_Type__VALUES h0 n0 Z0 S_Type__VALUES V_w_Type__VALUES E_w_Type__VALUES F_w_Type_REQUEST_code F_w_Type_REPLY_code F_w_Type_HEARTBEAT_code F_w_Type_ELECTION_code F_w_Type_ANSWER_code F_w_Type_COORDINATOR_code F_w_Type_GRANT_code F_w_Type_RELEASE_code) (fun v h L q => by obtain ⟨rfl, N, K⟩ := q; exact ⟨w_Type_RELEASE, rfl, N, K, E_w_Type_RELEASE.keep K, F_w_Type_RELEASE_code.keep K nin0⟩)
  · exact own_imp (rk_found_8 l Z a0 hw ws w_Type__VALUES w_Type_REQUEST w_Type_REPLY w_Type_HEARTBEAT w_Type_ELECTION w_Type_ANSWER w_Type_COORDINATOR w_Type_GRANT w_Type_RELEASE w_Type_HELD w_Type_REPORTED w_Type_LOCKED w_Type_INQUIRE w_Type_FAILED w_Type_RELINQUISH w_Type_TOKEN k_w_Type__VALUES h0 n0 Z0 S_Type__VALUES V_w_Type__VALUES E_w_Type__VALUES F_w_Type_REQUEST_code F_w_Type_REPLY_code F_w_Type_HEARTBEAT_code F_w_Type_ELECTION_code F_w_Type_ANSWER_code F_w_Type_COORDINATOR_code F_w_Type_GRANT_code F_w_Type_RELEASE_code F_w_Type_HELD_code) (fun v h L q => by obtain ⟨rfl, N, K⟩ := q; exact ⟨w_Type_HELD, rfl, N, K, E_w_Type_HELD.keep K, F_w_Type_HELD_code.keep K nin0⟩)
  · exact own_imp (rk_found_9 l Z a0 hw ws w_Type__VALUES w_Type_REQUEST w_Type_REPLY w_Type_HEARTBEAT w_Type_ELECTION w_Type_ANSWER w_Type_COORDINATOR w_Type_GRANT w_Type_RELEASE w_Type_HELD w_Type_REPORTED w_Type_LOCKED w_Type_INQUIRE w_Type_FAILED w_Type_RELINQUISH w_Type_TOKEN k_w_Type__VALUES h0 n0 Z0 S_Type__VALUES V_w_Type__VALUES E_w_Type__VALUES F_w_Type_REQUEST_code F_w_Type_REPLY_code F_w_Type_HEARTBEAT_code F_w_Type_ELECTION_code F_w_Type_ANSWER_code F_w_Type_COORDINATOR_code F_w_Type_GRANT_code F_w_Type_RELEASE_code F_w_Type_HELD_code F_w_Type_REPORTED_code) (fun v h L q => by obtain ⟨rfl, N, K⟩ := q; exact ⟨w_Type_REPORTED, rfl, N, K, E_w_Type_REPORTED.keep K, F_w_Type_REPORTED_code.keep K nin0⟩)
  · exact own_imp (rk_found_10 l Z a0 hw ws w_Type__VALUES w_Type_REQUEST w_Type_REPLY w_Type_HEARTBEAT w_Type_ELECTION w_Type_ANSWER w_Type_COORDINATOR w_Type_GRANT w_Type_RELEASE w_Type_HELD w_Type_REPORTED w_Type_LOCKED w_Type_INQUIRE w_Type_FAILED w_Type_RELINQUISH w_Type_TOKEN k_w_Type__VALUES h0 n0 Z0 S_Type__VALUES V_w_Type__VALUES E_w_Type__VALUES F_w_Type_REQUEST_code F_w_Type_REPLY_code F_w_Type_HEARTBEAT_code F_w_Type_ELECTION_code F_w_Type_ANSWER_code F_w_Type_COORDINATOR_code F_w_Type_GRANT_code F_w_Type_RELEASE_code F_w_Type_HELD_code F_w_Type_REPORTED_code F_w_Type_LOCKED_code) (fun v h L q => by obtain ⟨rfl, N, K⟩ := q; exact ⟨w_Type_LOCKED, rfl, N, K, E_w_Type_LOCKED.keep K, F_w_Type_LOCKED_code.keep K nin0⟩)
  · exact own_imp (rk_found_11 l Z a0 hw ws w_Type__VALUES w_Type_REQUEST w_Type_REPLY w_Type_HEARTBEAT w_Type_ELECTION w_Type_ANSWER w_Type_COORDINATOR w_Type_GRANT w_Type_RELEASE w_Type_HELD w_Type_REPORTED w_Type_LOCKED w_Type_INQUIRE w_Type_FAILED w_Type_RELINQUISH w_Type_TOKEN k_w_Type__VALUES h0 n0 Z0 S_Type__VALUES V_w_Type__VALUES E_w_Type__VALUES F_w_Type_REQUEST_code F_w_Type_REPLY_code F_w_Type_HEARTBEAT_code F_w_Type_ELECTION_code F_w_Type_ANSWER_code F_w_Type_COORDINATOR_code F_w_Type_GRANT_code F_w_Type_RELEASE_code F_w_Type_HELD_code F_w_Type_REPORTED_code F_w_Type_LOCKED_code F_w_Type_INQUIRE_code) (fun v h L q => by obtain ⟨rfl, N, K⟩ := q; exact ⟨w_Type_INQUIRE, rfl, N, K, E_w_Type_INQUIRE.keep K, F_w_Type_INQUIRE_code.keep K nin0⟩)
  · exact own_imp (rk_found_12 l Z a0 hw ws w_Type__VALUES w_Type_REQUEST w_Type_REPLY w_Type_HEARTBEAT w_Type_ELECTION w_Type_ANSWER w_Type_COORDINATOR w_Type_GRANT w_Type_RELEASE w_Type_HELD w_Type_REPORTED w_Type_LOCKED w_Type_INQUIRE w_Type_FAILED w_Type_RELINQUISH w_Type_TOKEN k_w_Type__VALUES h0 n0 Z0 S_Type__VALUES V_w_Type__VALUES E_w_Type__VALUES F_w_Type_REQUEST_code F_w_Type_REPLY_code F_w_Type_HEARTBEAT_code F_w_Type_ELECTION_code F_w_Type_ANSWER_code F_w_Type_COORDINATOR_code F_w_Type_GRANT_code F_w_Type_RELEASE_code F_w_Type_HELD_code F_w_Type_REPORTED_code F_w_Type_LOCKED_code F_w_Type_INQUIRE_code F_w_Type_FAILED_code) (fun v h L q => by obtain ⟨rfl, N, K⟩ := q; exact ⟨w_Type_FAILED, rfl, N, K, E_w_Type_FAILED.keep K, F_w_Type_FAILED_code.keep K nin0⟩)
  · exact own_imp (rk_found_13 l Z a0 hw ws w_Type__VALUES w_Type_REQUEST w_Type_REPLY w_Type_HEARTBEAT w_Type_ELECTION w_Type_ANSWER w_Type_COORDINATOR w_Type_GRANT w_Type_RELEASE w_Type_HELD w_Type_REPORTED w_Type_LOCKED w_Type_INQUIRE w_Type_FAILED w_Type_RELINQUISH w_Type_TOKEN k_w_Type__VALUES h0 n0 Z0 S_Type__VALUES V_w_Type__VALUES E_w_Type__VALUES F_w_Type_REQUEST_code F_w_Type_REPLY_code F_w_Type_HEARTBEAT_code F_w_Type_ELECTION_code F_w_Type_ANSWER_code F_w_Type_COORDINATOR_code F_w_Type_GRANT_code F_w_Type_RELEASE_code F_w_Type_HELD_code F_w_Type_REPORTED_code F_w_Type_LOCKED_code F_w_Type_INQUIRE_code F_w_Type_FAILED_code F_w_Type_RELINQUISH_code) (fun v h L q => by obtain ⟨rfl, N, K⟩ := q; exact ⟨w_Type_RELINQUISH, rfl, N, K, E_w_Type_RELINQUISH.keep K, F_w_Type_RELINQUISH_code.keep K nin0⟩)
  · exact own_imp (rk_found_14 l Z a0 hw ws w_Type__VALUES w_Type_REQUEST w_Type_REPLY w_Type_HEARTBEAT w_Type_ELECTION w_Type_ANSWER w_Type_COORDINATOR w_Type_GRANT w_Type_RELEASE w_Type_HELD w_Type_REPORTED w_Type_LOCKED w_Type_INQUIRE w_Type_FAILED w_Type_RELINQUISH w_Type_TOKEN k_w_Type__VALUES h0 n0 Z0 S_Type__VALUES V_w_Type__VALUES E_w_Type__VALUES F_w_Type_REQUEST_code F_w_Type_REPLY_code F_w_Type_HEARTBEAT_code F_w_Type_ELECTION_code F_w_Type_ANSWER_code F_w_Type_COORDINATOR_code F_w_Type_GRANT_code F_w_Type_RELEASE_code F_w_Type_HELD_code F_w_Type_REPORTED_code F_w_Type_LOCKED_code F_w_Type_INQUIRE_code F_w_Type_FAILED_code F_w_Type_RELINQUISH_code F_w_Type_TOKEN_code) (fun v h L q => by obtain ⟨rfl, N, K⟩ := q; exact ⟨w_Type_TOKEN, rfl, N, K, E_w_Type_TOKEN.keep K, F_w_Type_TOKEN_code.keep K nin0⟩)
def Q_rk_none_0 (Z : State)  (h0 : Heap) (n0 : Nat) (v : Option Value) (h : Heap) (L : List Loc) : Prop := (v = (some .null)) ∧ (Fr n0 L) ∧ (Keep h0 h [])
set_option maxRecDepth 65536 in
set_option maxHeartbeats 40000000 in
theorem rk_none_0 (l : Launch) (Z : State) (a0 : Array Value) (hw : ∀ d ∈ tables_1, d.before a0 Z = true) (ws : List Jvm.Cond) (w_Type__VALUES : Addr) (w_Type_REQUEST : Addr) (w_Type_REPLY : Addr) (w_Type_HEARTBEAT : Addr) (w_Type_ELECTION : Addr) (w_Type_ANSWER : Addr) (w_Type_COORDINATOR : Addr) (w_Type_GRANT : Addr) (w_Type_RELEASE : Addr) (w_Type_HELD : Addr) (w_Type_REPORTED : Addr) (w_Type_LOCKED : Addr) (w_Type_INQUIRE : Addr) (w_Type_FAILED : Addr) (w_Type_RELINQUISH : Addr) (w_Type_TOKEN : Addr) (k_w_Type__VALUES : ClassId) (ck : Int32) (h0 : Heap) (n0 : Nat) (Z0 : n0 ≤ h0.size) (S_Type__VALUES : Sta Z h0 "com/example/stile/stile/Message$Type" "$VALUES" "[Lcom/example/stile/stile/Message$Type;" (.ref w_Type__VALUES)) (V_w_Type__VALUES : Arv Z h0 w_Type__VALUES k_w_Type__VALUES (.object "com/example/stile/stile/Message$Type") (15 : Int32) [(.ref w_Type_REQUEST), (.ref w_Type_REPLY), (.ref w_Type_HEARTBEAT), (.ref w_Type_ELECTION), (.ref w_Type_ANSWER), (.ref w_Type_COORDINATOR), (.ref w_Type_GRANT), (.ref w_Type_RELEASE), (.ref w_Type_HELD), (.ref w_Type_REPORTED), (.ref w_Type_LOCKED), (.ref w_Type_INQUIRE), (.ref w_Type_FAILED), (.ref w_Type_RELINQUISH), (.ref w_Type_TOKEN)] .null) (E_w_Type__VALUES : Exa Z h0 w_Type__VALUES "[Lcom/example/stile/stile/Message$Type;") (F_w_Type_REQUEST_code : Fld Z h0 w_Type_REQUEST "com/example/stile/stile/Message$Type" "code" "I" (.int (1 : Int32))) (hn1 : ¬ ((1 : Int32) = ck)) (F_w_Type_REPLY_code : Fld Z h0 w_Type_REPLY "com/example/stile/stile/Message$Type" "code" "I" (.int (2 : Int32))) (hn2 : ¬ ((2 : Int32) = ck)) (F_w_Type_HEARTBEAT_code : Fld Z h0 w_Type_HEARTBEAT "com/example/stile/stile/Message$Type" "code" "I" (.int (3 : Int32))) (hn3 : ¬ ((3 : Int32) = ck)) (F_w_Type_ELECTION_code : Fld Z h0 w_Type_ELECTION "com/example/stile/stile/Message$Type" "code" "I" (.int (4 : Int32))) (hn4 : ¬ ((4 : Int32) = ck)) (F_w_Type_ANSWER_code : Fld Z h0 w_Type_ANSWER "com/example/stile/stile/Message$Type" "code" "I" (.int (5 : Int32))) (hn5 : ¬ ((5 : Int32) = ck)) (F_w_Type_COORDINATOR_code : Fld Z h0 w_Type_COORDINATOR "com/example/stile/stile/Message$Type" "code" "I" (.int (6 : Int32))) (hn6 : ¬ ((6 : Int32) = ck)) (F_w_Type_GRANT_code : Fld Z h0 w_Type_GRANT "com/example/stile/stile/Message$Type" "code" "I" (.int (7 : Int32))) (hn7 : ¬ ((7 : Int32) = ck)) (F_w_Type_RELEASE_code : Fld Z h0 w_Type_RELEASE "com/example/stile/stile/Message$Type" "code" "I" (.int (8 : Int32))) (hn8 : ¬ ((8 : Int32) = ck)) (F_w_Type_HELD_code : Fld Z h0 w_Type_HELD "com/example/stile/stile/Message$Type" "code" "I" (.int (9 : Int32))) (hn9 : ¬ ((9 : Int32) = ck)) (F_w_Type_REPORTED_code : Fld Z h0 w_Type_REPORTED "com/example/stile/stile/Message$Type" "code" "I" (.int (10 : Int32))) (hn10 : ¬ ((10 : Int32) = ck)) (F_w_Type_LOCKED_code : Fld Z h0 w_Type_LOCKED "com/example/stile/stile/Message$Type" "code" "I" (.int (11 : Int32))) (hn11 : ¬ ((11 : Int32) = ck)) (F_w_Type_INQUIRE_code : Fld Z h0 w_Type_INQUIRE "com/example/stile/stile/Message$Type" "code" "I" (.int (12 : Int32))) (hn12 : ¬ ((12 : Int32) = ck)) (F_w_Type_FAILED_code : Fld Z h0 w_Type_FAILED "com/example/stile/stile/Message$Type" "code" "I" (.int (13 : Int32))) (hn13 : ¬ ((13 : Int32) = ck)) (F_w_Type_RELINQUISH_code : Fld Z h0 w_Type_RELINQUISH "com/example/stile/stile/Message$Type" "code" "I" (.int (14 : Int32))) (hn14 : ¬ ((14 : Int32) = ck)) (F_w_Type_TOKEN_code : Fld Z h0 w_Type_TOKEN "com/example/stile/stile/Message$Type" "code" "I" (.int (15 : Int32))) (hn15 : ¬ ((15 : Int32) = ck)) :
    MetFree l (⟨"com/example/stile/stile/Message$Type", "of", "(I)Lcom/example/stile/stile/Message$Type;"⟩ : MethodName) (head1 (Jvm.Cond.code (⟨"com/example/stile/stile/Message$Type", "of", "(I)Lcom/example/stile/stile/Message$Type;"⟩ : MethodName) prog_48_method_8_code 5 (some (.object "com/example/stile/stile/Message$Type")) :: ws) ({ frames := 2, cells := 1, slots := 15, locals := 25 } : Room)) (fun a U => a = #[(.int ck)] ∧ Z.Warmed39 U.vm ∧ U.heap = h0) (fun _ _ _ _ _ => True) (fun _ U o U' => ∃ v L, o = .returned v ∧ Q_rk_none_0 Z  h0 n0 v U'.heap L ∧ FrameEnd U o U' L ({ frames := 2, cells := 1, slots := 15, locals := 25 } : Room).cells ({ frames := 2, cells := 1, slots := 15, locals := 25 } : Room).slots) := by
  refine MetFree.of_bodySF (plainFor_of_name pn_0) hisR ?_
  intro p e s m args below meth c s₁ Bd hml0 hP hK
  obtain ⟨rfl, hZ, hh⟩ := hP
  have hx := Bd.exec
  have hby := Bd.bytes
  have hml : c.maxLocals = 5 := hml0
  have hown : s.vm.findClass "com/example/stile/stile/Message$Type" = some m.cls := findClass_of_methodNamed Bd.named
  have hnm := (name_of_methodNamed Bd.named Bd.method).1
  have X0 : Stand p l e ({ frames := 2, cells := 1, slots := 15, locals := 25 } : Room) s m #[(.int ck)] below meth c s₁ [] 0 0 := Stand.of_body Bd
  have e0 : s₁.heap = h0 := by rw [← hh, Bd.state]; rfl
  have N0 := Fr.nil n0
  have pre0 : ∀ t, Steps p.tables e below (s₁.setTop (mkF m 0 #[iv ck, .unset, .unset, .unset, .unset] [])) t → Steps p.tables e below (s₁.setTop (entryFrame m #[(.int ck)] 5)) t := fun t k => castTop (ef_1_I m ck) k
  obtain ⟨_, _, ⟨T1, L1, k1, n1⟩, -, X1, ⟨Lc1, hQ1, l1, y1, z1⟩, st1⟩ := Jvm.LawKit.callS X0 hx (y := (⟨"com/example/stile/stile/Message$Type", "values", "()[Lcom/example/stile/stile/Message$Type;"⟩ : MethodName)) hown (mvT hZ (hw _ (List.mem_of_getElem? (i := 4) rfl))) (mvT hZ (hw _ (List.mem_of_getElem? (i := 5) rfl))) (mvT hZ (hw _ (List.mem_of_getElem? (i := 2) rfl))) (mvT hZ (hw _ (List.mem_of_getElem? (i := 6) rfl))) (by decide) (backOf (W := 0) (rm2_0 l Z a0 hw [] w_Type__VALUES w_Type_REQUEST w_Type_REPLY w_Type_HEARTBEAT w_Type_ELECTION w_Type_ANSWER w_Type_COORDINATOR w_Type_GRANT w_Type_RELEASE w_Type_HELD w_Type_REPORTED w_Type_LOCKED w_Type_INQUIRE w_Type_FAILED w_Type_RELINQUISH w_Type_TOKEN k_w_Type__VALUES h0 n0 Z0 S_Type__VALUES V_w_Type__VALUES E_w_Type__VALUES) hZ (hw _ (List.mem_of_getElem? (i := 6) rfl)) (hw _ (List.mem_of_getElem? (i := 2) rfl)) (by decide) (by decide)) (g := (mkF m 0 #[iv ck, .unset, .unset, .unset, .unset] [])) rfl (by rw [hml]; rfl) (argsL := []) (rest := []) (lenOf pd_0 rfl) rfl (by show 2 * 0 + _ ≤ _; exact Nat.le_of_eq rfl) (hb hby d1_0) (fun _ _ => ⟨rfl, e0, (by decide : 0 + 1 ≤ _), (by decide : 0 + 15 ≤ _)⟩)
  dsimp only [Pt.U, Pt.locs, Pt.cells, Pt.slots] at X1 l1 y1 z1 st1 hQ1
  subst l1 y1 z1
  obtain ⟨b1_1_0, rfl, N1q, K1, gq_b1_1_0, le_b1_1_0, fq1_0, fq1_1⟩ := hQ1
  have sz_b1_1_0 : h0.size ≤ b1_1_0 := Nat.le_trans (Keep.refl h0 []).1 le_b1_1_0
  have KK1 : Keep h0 T1.heap [] := (Keep.refl h0 []).trans K1 all0
  have Z1 : n0 ≤ T1.heap.size := Nat.le_trans Z0 K1.1
  have N1 := Fr.app N0 N1q
  obtain ⟨cl2, Ar2, -, Sz2, Nn2, -, -⟩ := id fq1_0
  obtain ⟨cl3, Ar3, -, Sz3, Nn3, Hs3, Gs3⟩ := id fq1_0
  have hin3 : ¬ ((0 : Int32) < 0 ∨ cl3.slots.size ≤ ((0 : Int32)).toNatClampNeg) := inb_of Sz3 ⟨by decide, by decide⟩
  have c4 := (F_w_Type_REQUEST_code.keep K1 nin0)
  obtain ⟨T5, X5, e5, st5⟩ := getF X1 hx hZ hown (host := "") (Or.inl (hw _ (List.mem_of_getElem? (i := 34) rfl))) Via.refl rfl c4 (g := (mkF m 21 #[iv ck, rv b1_1_0, iv (15 : Int32), iv (0 : Int32), rv w_Type_REQUEST] [(.ref w_Type_REQUEST)])) rfl rfl (hb hby d1_21)
  obtain ⟨cl6, Ar6, -, Sz6, Nn6, Hs6, Gs6⟩ := id fq1_0
  have hin6 : ¬ ((1 : Int32) < 0 ∨ cl6.slots.size ≤ ((1 : Int32)).toNatClampNeg) := inb_of Sz6 ⟨by decide, by decide⟩
  have c7 := (F_w_Type_REPLY_code.keep K1 nin0)
  obtain ⟨T8, X8, e8, st8⟩ := getF X5 hx hZ hown (host := "") (Or.inl (hw _ (List.mem_of_getElem? (i := 34) rfl))) Via.refl e5 c7 (g := (mkF m 21 #[iv ck, rv b1_1_0, iv (15 : Int32), iv (1 : Int32), rv w_Type_REPLY] [(.ref w_Type_REPLY)])) rfl rfl (hb hby d1_21)
  obtain ⟨cl9, Ar9, -, Sz9, Nn9, Hs9, Gs9⟩ := id fq1_0
  have hin9 : ¬ ((2 : Int32) < 0 ∨ cl9.slots.size ≤ ((2 : Int32)).toNatClampNeg) := inb_of Sz9 ⟨by decide, by decide⟩
  have c10 := (F_w_Type_HEARTBEAT_code.keep K1 nin0)
  obtain ⟨T11, X11, e11, st11⟩ := getF X8 hx hZ hown (host := "") (Or.inl (hw _ (List.mem_of_getElem? (i := 34) rfl))) Via.refl e8 c10 (g := (mkF m 21 #[iv ck, rv b1_1_0, iv (15 : Int32), iv (2 : Int32), rv w_Type_HEARTBEAT] [(.ref w_Type_HEARTBEAT)])) rfl rfl (hb hby d1_21)
  obtain ⟨cl12, Ar12, -, Sz12, Nn12, Hs12, Gs12⟩ := id fq1_0
  have hin12 : ¬ ((3 : Int32) < 0 ∨ cl12.slots.size ≤ ((3 : Int32)).toNatClampNeg) := inb_of Sz12 ⟨by decide, by decide⟩
  have c13 := (F_w_Type_ELECTION_code.keep K1 nin0)
  obtain ⟨T14, X14, e14, st14⟩ := getF X11 hx hZ hown (host := "") (Or.inl (hw _ (List.mem_of_getElem? (i := 34) rfl))) Via.refl e11 c13 (g := (mkF m 21 #[iv ck, rv b1_1_0, iv (15 : Int32), iv (3 : Int32), rv w_Type_ELECTION] [(.ref w_Type_ELECTION)])) rfl rfl (hb hby d1_21)
  obtain ⟨cl15, Ar15, -, Sz15, Nn15, Hs15, Gs15⟩ := id fq1_0
  have hin15 : ¬ ((4 : Int32) < 0 ∨ cl15.slots.size ≤ ((4 : Int32)).toNatClampNeg) := inb_of Sz15 ⟨by decide, by decide⟩
  have c16 := (F_w_Type_ANSWER_code.keep K1 nin0)
  obtain ⟨T17, X17, e17, st17⟩ := getF X14 hx hZ hown (host := "") (Or.inl (hw _ (List.mem_of_getElem? (i := 34) rfl))) Via.refl e14 c16 (g := (mkF m 21 #[iv ck, rv b1_1_0, iv (15 : Int32), iv (4 : Int32), rv w_Type_ANSWER] [(.ref w_Type_ANSWER)])) rfl rfl (hb hby d1_21)
  obtain ⟨cl18, Ar18, -, Sz18, Nn18, Hs18, Gs18⟩ := id fq1_0
  have hin18 : ¬ ((5 : Int32) < 0 ∨ cl18.slots.size ≤ ((5 : Int32)).toNatClampNeg) := inb_of Sz18 ⟨by decide, by decide⟩
  have c19 := (F_w_Type_COORDINATOR_code.keep K1 nin0)
  obtain ⟨T20, X20, e20, st20⟩ := getF X17 hx hZ hown (host := "") (Or.inl (hw _ (List.mem_of_getElem? (i := 34) rfl))) Via.refl e17 c19 (g := (mkF m 21 #[iv ck, rv b1_1_0, iv (15 : Int32), iv (5 : Int32), rv w_Type_COORDINATOR] [(.ref w_Type_COORDINATOR)])) rfl rfl (hb hby d1_21)
  obtain ⟨cl21, Ar21, -, Sz21, Nn21, Hs21, Gs21⟩ := id fq1_0
  have hin21 : ¬ ((6 : Int32) < 0 ∨ cl21.slots.size ≤ ((6 : Int32)).toNatClampNeg) := inb_of Sz21 ⟨by decide, by decide⟩
  have c22 := (F_w_Type_GRANT_code.keep K1 nin0)
  obtain ⟨T23, X23, e23, st23⟩ := getF X20 hx hZ hown (host := "") (Or.inl (hw _ (List.mem_of_getElem? (i := 34) rfl))) Via.refl e20 c22 (g := (mkF m 21 #[iv ck, rv b1_1_0, iv (15 : Int32), iv (6 : Int32), rv w_Type_GRANT] [(.ref w_Type_GRANT)])) rfl rfl (hb hby d1_21)
  obtain ⟨cl24, Ar24, -, Sz24, Nn24, Hs24, Gs24⟩ := id fq1_0
  have hin24 : ¬ ((7 : Int32) < 0 ∨ cl24.slots.size ≤ ((7 : Int32)).toNatClampNeg) := inb_of Sz24 ⟨by decide, by decide⟩
  have c25 := (F_w_Type_RELEASE_code.keep K1 nin0)
  obtain ⟨T26, X26, e26, st26⟩ := getF X23 hx hZ hown (host := "") (Or.inl (hw _ (List.mem_of_getElem? (i := 34) rfl))) Via.refl e23 c25 (g := (mkF m 21 #[iv ck, rv b1_1_0, iv (15 : Int32), iv (7 : Int32), rv w_Type_RELEASE] [(.ref w_Type_RELEASE)])) rfl rfl (hb hby d1_21)
  obtain ⟨cl27, Ar27, -, Sz27, Nn27, Hs27, Gs27⟩ := id fq1_0
  have hin27 : ¬ ((8 : Int32) < 0 ∨ cl27.slots.size ≤ ((8 : Int32)).toNatClampNeg) := inb_of Sz27 ⟨by decide, by decide⟩
  have c28 := (F_w_Type_HELD_code.keep K1 nin0)
  obtain ⟨T29, X29, e29, st29⟩ := getF X26 hx hZ hown (host := "") (Or.inl (hw _ (List.mem_of_getElem? (i := 34) rfl))) Via.refl e26 c28 (g := (mkF m 21 #[iv ck, rv b1_1_0, iv (15 : Int32), iv (8 : Int32), rv w_Type_HELD] [(.ref w_Type_HELD)])) rfl rfl (hb hby d1_21)
  obtain ⟨cl30, Ar30, -, Sz30, Nn30, Hs30, Gs30⟩ := id fq1_0
  have hin30 : ¬ ((9 : Int32) < 0 ∨ cl30.slots.size ≤ ((9 : Int32)).toNatClampNeg) := inb_of Sz30 ⟨by decide, by decide⟩
  have c31 := (F_w_Type_REPORTED_code.keep K1 nin0)
  obtain ⟨T32, X32, e32, st32⟩ := getF X29 hx hZ hown (host := "") (Or.inl (hw _ (List.mem_of_getElem? (i := 34) rfl))) Via.refl e29 c31 (g := (mkF m 21 #[iv ck, rv b1_1_0, iv (15 : Int32), iv (9 : Int32), rv w_Type_REPORTED] [(.ref w_Type_REPORTED)])) rfl rfl (hb hby d1_21)
  obtain ⟨cl33, Ar33, -, Sz33, Nn33, Hs33, Gs33⟩ := id fq1_0
  have hin33 : ¬ ((10 : Int32) < 0 ∨ cl33.slots.size ≤ ((10 : Int32)).toNatClampNeg) := inb_of Sz33 ⟨by decide, by decide⟩
  have c34 := (F_w_Type_LOCKED_code.keep K1 nin0)
  obtain ⟨T35, X35, e35, st35⟩ := getF X32 hx hZ hown (host := "") (Or.inl (hw _ (List.mem_of_getElem? (i := 34) rfl))) Via.refl e32 c34 (g := (mkF m 21 #[iv ck, rv b1_1_0, iv (15 : Int32), iv (10 : Int32), rv w_Type_LOCKED] [(.ref w_Type_LOCKED)])) rfl rfl (hb hby d1_21)
  obtain ⟨cl36, Ar36, -, Sz36, Nn36, Hs36, Gs36⟩ := id fq1_0
  have hin36 : ¬ ((11 : Int32) < 0 ∨ cl36.slots.size ≤ ((11 : Int32)).toNatClampNeg) := inb_of Sz36 ⟨by decide, by decide⟩
  have c37 := (F_w_Type_INQUIRE_code.keep K1 nin0)
  obtain ⟨T38, X38, e38, st38⟩ := getF X35 hx hZ hown (host := "") (Or.inl (hw _ (List.mem_of_getElem? (i := 34) rfl))) Via.refl e35 c37 (g := (mkF m 21 #[iv ck, rv b1_1_0, iv (15 : Int32), iv (11 : Int32), rv w_Type_INQUIRE] [(.ref w_Type_INQUIRE)])) rfl rfl (hb hby d1_21)
  obtain ⟨cl39, Ar39, -, Sz39, Nn39, Hs39, Gs39⟩ := id fq1_0
  have hin39 : ¬ ((12 : Int32) < 0 ∨ cl39.slots.size ≤ ((12 : Int32)).toNatClampNeg) := inb_of Sz39 ⟨by decide, by decide⟩
  have c40 := (F_w_Type_FAILED_code.keep K1 nin0)
  obtain ⟨T41, X41, e41, st41⟩ := getF X38 hx hZ hown (host := "") (Or.inl (hw _ (List.mem_of_getElem? (i := 34) rfl))) Via.refl e38 c40 (g := (mkF m 21 #[iv ck, rv b1_1_0, iv (15 : Int32), iv (12 : Int32), rv w_Type_FAILED] [(.ref w_Type_FAILED)])) rfl rfl (hb hby d1_21)
  obtain ⟨cl42, Ar42, -, Sz42, Nn42, Hs42, Gs42⟩ := id fq1_0
  have hin42 : ¬ ((13 : Int32) < 0 ∨ cl42.slots.size ≤ ((13 : Int32)).toNatClampNeg) := inb_of Sz42 ⟨by decide, by decide⟩
  have c43 := (F_w_Type_RELINQUISH_code.keep K1 nin0)
  obtain ⟨T44, X44, e44, st44⟩ := getF X41 hx hZ hown (host := "") (Or.inl (hw _ (List.mem_of_getElem? (i := 34) rfl))) Via.refl e41 c43 (g := (mkF m 21 #[iv ck, rv b1_1_0, iv (15 : Int32), iv (13 : Int32), rv w_Type_RELINQUISH] [(.ref w_Type_RELINQUISH)])) rfl rfl (hb hby d1_21)
  obtain ⟨cl45, Ar45, -, Sz45, Nn45, Hs45, Gs45⟩ := id fq1_0
  have hin45 : ¬ ((14 : Int32) < 0 ∨ cl45.slots.size ≤ ((14 : Int32)).toNatClampNeg) := inb_of Sz45 ⟨by decide, by decide⟩
  have c46 := (F_w_Type_TOKEN_code.keep K1 nin0)
  obtain ⟨T47, X47, e47, st47⟩ := getF X44 hx hZ hown (host := "") (Or.inl (hw _ (List.mem_of_getElem? (i := 34) rfl))) Via.refl e44 c46 (g := (mkF m 21 #[iv ck, rv b1_1_0, iv (15 : Int32), iv (14 : Int32), rv w_Type_TOKEN] [(.ref w_Type_TOKEN)])) rfl rfl (hb hby d1_21)
  obtain ⟨fs, hr, hrun, hended, hW, hsame⟩ := X47.leave (v := (some .null)) (fun h => by rw [Bd.returns] at h; cases h)
  refine ⟨_, _, pre0 _ ?_, hrun, hended, _, _, rfl, ?_, ⟨_, rfl⟩, hW, hsame.mono (by decide) (by decide)⟩
  · show Steps p.tables e below (s₁.setTop (mkF m 0 #[iv ck, .unset, .unset, .unset, .unset] [])) _
    refine st1 _ ?_
    refine XS.astoreN X1.here hx rfl (hb hby d1_3) rfl rfl (l' := #[iv ck, rv b1_1_0, .unset, .unset, .unset]) rfl ?_
    refine XS.aloadN X1.here hx rfl (hb hby d1_4) rfl rfl ?_
    refine X1.arraylength hx Ar2.1 (State.isArrayOf_alike hZ.alike Ar2.2.1) (g := (mkF m 5 #[iv ck, rv b1_1_0, .unset, .unset, .unset] [(.ref b1_1_0)])) rfl rfl (hb hby d1_5) _ ?_
    rw [len_of Sz2 Nn2]
    refine XS.istoreN X1.here hx rfl (hb hby d1_6) rfl (l' := #[iv ck, rv b1_1_0, iv (15 : Int32), .unset, .unset]) rfl ?_
    refine XS.iconst X1.here hx rfl (hb hby d1_7) ?_
    show Steps p.tables e below (T1.setTop (mkF m 8 #[iv ck, rv b1_1_0, iv (15 : Int32), .unset, .unset] [(.int (0 : Int32))])) _
    refine XS.istoreN X1.here hx rfl (hb hby d1_8) rfl (l' := #[iv ck, rv b1_1_0, iv (15 : Int32), iv (0 : Int32), .unset]) rfl ?_
    refine XS.iloadN X1.here hx rfl (hb hby d1_9) rfl ?_
    refine XS.iloadN X1.here hx rfl (hb hby d1_10) rfl ?_
    refine XS.icmpNo X1.here hx rfl (hb hby d1_11) rfl (tlt (by decide +kernel : (0 : Int32) < (15 : Int32))).2.1 ?_
    refine XS.aloadN X1.here hx rfl (hb hby d1_14) rfl rfl ?_
    refine XS.iloadN X1.here hx rfl (hb hby d1_15) rfl ?_
    show Steps p.tables e below (T1.setTop (mkF m 16 #[iv ck, rv b1_1_0, iv (15 : Int32), iv (0 : Int32), .unset] [(.int (0 : Int32)), (.ref b1_1_0)])) _
    refine X1.aaload hx (j := (0 : Int32)) (v := (.ref w_Type_REQUEST)) Ar3.1 (State.isArrayOf_alike hZ.alike Ar3.2.1) rfl Ar3.2.2 hin3 (Hs3.at hin3 rfl) (g := (mkF m 16 #[iv ck, rv b1_1_0, iv (15 : Int32), iv (0 : Int32), .unset] [(.int (0 : Int32)), (.ref b1_1_0)])) rfl rfl (hb hby d1_16) _ ?_
    refine XS.astore X1.here hx rfl (hb hby d1_17) rfl rfl (l' := #[iv ck, rv b1_1_0, iv (15 : Int32), iv (0 : Int32), rv w_Type_REQUEST]) rfl ?_
    refine XS.aload X1.here hx rfl (hb hby d1_19) rfl rfl ?_
    refine st5 _ ?_
    refine XS.iloadN X5.here hx rfl (hb hby d1_24) rfl ?_
    refine XS.icmpYes X5.here hx rfl (pc0 := 25) (pc' := 31) rfl (hb hby d1_25) rfl (feq hn1).2 (by decide) (by decide) ?_
    show Steps p.tables e below (T5.setTop (mkF m 31 #[iv ck, rv b1_1_0, iv (15 : Int32), iv (0 : Int32), rv w_Type_REQUEST] [])) _
    refine XS.iinc X5.here hx rfl (hb hby d1_31) rfl (l' := #[iv ck, rv b1_1_0, iv (15 : Int32), iv ((0 : Int32) + (1 : Int32)), rv w_Type_REQUEST]) rfl ?_
    show Steps p.tables e below (T5.setTop (mkF m 34 #[iv ck, rv b1_1_0, iv (15 : Int32), iv ((0 : Int32) + (1 : Int32)), rv w_Type_REQUEST] [])) _
    rewrite [show ((0 : Int32) + (1 : Int32)) = (1 : Int32) from by decide +kernel]
    refine XS.goto X5.here hx rfl (pc0 := 34) (pc' := 9) rfl (hb hby d1_34) (by decide) (by decide) ?_
    refine XS.iloadN X5.here hx rfl (hb hby d1_9) rfl ?_
    refine XS.iloadN X5.here hx rfl (hb hby d1_10) rfl ?_
    refine XS.icmpNo X5.here hx rfl (hb hby d1_11) rfl (tlt (by decide +kernel : (1 : Int32) < (15 : Int32))).2.1 ?_
    refine XS.aloadN X5.here hx rfl (hb hby d1_14) rfl rfl ?_
    show Steps p.tables e below (T5.setTop (mkF m 15 #[iv ck, rv b1_1_0, iv (15 : Int32), iv (1 : Int32), rv w_Type_REQUEST] [(.ref b1_1_0)])) _
    refine XS.iloadN X5.here hx rfl (hb hby d1_15) rfl ?_
    refine X5.aaload hx (j := (1 : Int32)) (v := (.ref w_Type_REPLY)) (by rw [e5]; exact Ar6.1) (State.isArrayOf_alike hZ.alike Ar6.2.1) rfl Ar6.2.2 hin6 (Hs6.at hin6 rfl) (g := (mkF m 16 #[iv ck, rv b1_1_0, iv (15 : Int32), iv (1 : Int32), rv w_Type_REQUEST] [(.int (1 : Int32)), (.ref b1_1_0)])) rfl rfl (hb hby d1_16) _ ?_
    refine XS.astore X5.here hx rfl (hb hby d1_17) rfl rfl (l' := #[iv ck, rv b1_1_0, iv (15 : Int32), iv (1 : Int32), rv w_Type_REPLY]) rfl ?_
    refine XS.aload X5.here hx rfl (hb hby d1_19) rfl rfl ?_
    refine st8 _ ?_
    refine XS.iloadN X8.here hx rfl (hb hby d1_24) rfl ?_
    show Steps p.tables e below (T8.setTop (mkF m 25 #[iv ck, rv b1_1_0, iv (15 : Int32), iv (1 : Int32), rv w_Type_REPLY] [(.int ck), (.int (2 : Int32))])) _
    refine XS.icmpYes X8.here hx rfl (pc0 := 25) (pc' := 31) rfl (hb hby d1_25) rfl (feq hn2).2 (by decide) (by decide) ?_
    refine XS.iinc X8.here hx rfl (hb hby d1_31) rfl (l' := #[iv ck, rv b1_1_0, iv (15 : Int32), iv ((1 : Int32) + (1 : Int32)), rv w_Type_REPLY]) rfl ?_
    show Steps p.tables e below (T8.setTop (mkF m 34 #[iv ck, rv b1_1_0, iv (15 : Int32), iv ((1 : Int32) + (1 : Int32)), rv w_Type_REPLY] [])) _
    rewrite [show ((1 : Int32) + (1 : Int32)) = (2 : Int32) from by decide +kernel]
    refine XS.goto X8.here hx rfl (pc0 := 34) (pc' := 9) rfl (hb hby d1_34) (by decide) (by decide) ?_
    refine XS.iloadN X8.here hx rfl (hb hby d1_9) rfl ?_
    refine XS.iloadN X8.here hx rfl (hb hby d1_10) rfl ?_
    refine XS.icmpNo X8.here hx rfl (hb hby d1_11) rfl (tlt (by decide +kernel : (2 : Int32) < (15 : Int32))).2.1 ?_
    show Steps p.tables e below (T8.setTop (mkF m 14 #[iv ck, rv b1_1_0, iv (15 : Int32), iv (2 : Int32), rv w_Type_REPLY] [])) _
    refine XS.aloadN X8.here hx rfl (hb hby d1_14) rfl rfl ?_
    refine XS.iloadN X8.here hx rfl (hb hby d1_15) rfl ?_
    refine X8.aaload hx (j := (2 : Int32)) (v := (.ref w_Type_HEARTBEAT)) (by rw [e8]; exact Ar9.1) (State.isArrayOf_alike hZ.alike Ar9.2.1) rfl Ar9.2.2 hin9 (Hs9.at hin9 rfl) (g := (mkF m 16 #[iv ck, rv b1_1_0, iv (15 : Int32), iv (2 : Int32), rv w_Type_REPLY] [(.int (2 : Int32)), (.ref b1_1_0)])) rfl rfl (hb hby d1_16) _ ?_
    refine XS.astore X8.here hx rfl (hb hby d1_17) rfl rfl (l' := #[iv ck, rv b1_1_0, iv (15 : Int32), iv (2 : Int32), rv w_Type_HEARTBEAT]) rfl ?_
    refine XS.aload X8.here hx rfl (hb hby d1_19) rfl rfl ?_
    refine st11 _ ?_
    show Steps p.tables e below (T11.setTop (mkF m 24 #[iv ck, rv b1_1_0, iv (15 : Int32), iv (2 : Int32), rv w_Type_HEARTBEAT] [(.int (3 : Int32))])) _
    refine XS.iloadN X11.here hx rfl (hb hby d1_24) rfl ?_
    refine XS.icmpYes X11.here hx rfl (pc0 := 25) (pc' := 31) rfl (hb hby d1_25) rfl (feq hn3).2 (by decide) (by decide) ?_
    refine XS.iinc X11.here hx rfl (hb hby d1_31) rfl (l' := #[iv ck, rv b1_1_0, iv (15 : Int32), iv ((2 : Int32) + (1 : Int32)), rv w_Type_HEARTBEAT]) rfl ?_
    show Steps p.tables e below (T11.setTop (mkF m 34 #[iv ck, rv b1_1_0, iv (15 : Int32), iv ((2 : Int32) + (1 : Int32)), rv w_Type_HEARTBEAT] [])) _
    rewrite [show ((2 : Int32) + (1 : Int32)) = (3 : Int32) from by decide +kernel]
    refine XS.goto X11.here hx rfl (pc0 := 34) (pc' := 9) rfl (hb hby d1_34) (by decide) (by decide) ?_
    refine XS.iloadN X11.here hx rfl (hb hby d1_9) rfl ?_
    refine XS.iloadN X11.here hx rfl (hb hby d1_10) rfl ?_
    show Steps p.tables e below (T11.setTop (mkF m 11 #[iv ck, rv b1_1_0, iv (15 : Int32), iv (3 : Int32), rv w_Type_HEARTBEAT] [(.int (15 : Int32)), (.int (3 : Int32))])) _
    refine XS.icmpNo X11.here hx rfl (hb hby d1_11) rfl (tlt (by decide +kernel : (3 : Int32) < (15 : Int32))).2.1 ?_
    refine XS.aloadN X11.here hx rfl (hb hby d1_14) rfl rfl ?_
    refine XS.iloadN X11.here hx rfl (hb hby d1_15) rfl ?_
    refine X11.aaload hx (j := (3 : Int32)) (v := (.ref w_Type_ELECTION)) (by rw [e11]; exact Ar12.1) (State.isArrayOf_alike hZ.alike Ar12.2.1) rfl Ar12.2.2 hin12 (Hs12.at hin12 rfl) (g := (mkF m 16 #[iv ck, rv b1_1_0, iv (15 : Int32), iv (3 : Int32), rv w_Type_HEARTBEAT] [(.int (3 : Int32)), (.ref b1_1_0)])) rfl rfl (hb hby d1_16) _ ?_
    refine XS.astore X11.here hx rfl (hb hby d1_17) rfl rfl (l' := #[iv ck, rv b1_1_0, iv (15 : Int32), iv (3 : Int32), rv w_Type_ELECTION]) rfl ?_
    refine XS.aload X11.here hx rfl (hb hby d1_19) rfl rfl ?_
    show Steps p.tables e below (T11.setTop (mkF m 21 #[iv ck, rv b1_1_0, iv (15 : Int32), iv (3 : Int32), rv w_Type_ELECTION] [(.ref w_Type_ELECTION)])) _
    refine st14 _ ?_
    refine XS.iloadN X14.here hx rfl (hb hby d1_24) rfl ?_
    refine XS.icmpYes X14.here hx rfl (pc0 := 25) (pc' := 31) rfl (hb hby d1_25) rfl (feq hn4).2 (by decide) (by decide) ?_
    refine XS.iinc X14.here hx rfl (hb hby d1_31) rfl (l' := #[iv ck, rv b1_1_0, iv (15 : Int32), iv ((3 : Int32) + (1 : Int32)), rv w_Type_ELECTION]) rfl ?_
    show Steps p.tables e below (T14.setTop (mkF m 34 #[iv ck, rv b1_1_0, iv (15 : Int32), iv ((3 : Int32) + (1 : Int32)), rv w_Type_ELECTION] [])) _
    rewrite [show ((3 : Int32) + (1 : Int32)) = (4 : Int32) from by decide +kernel]
    refine XS.goto X14.here hx rfl (pc0 := 34) (pc' := 9) rfl (hb hby d1_34) (by decide) (by decide) ?_
    refine XS.iloadN X14.here hx rfl (hb hby d1_9) rfl ?_
    show Steps p.tables e below (T14.setTop (mkF m 10 #[iv ck, rv b1_1_0, iv (15 : Int32), iv (4 : Int32), rv w_Type_ELECTION] [(.int (4 : Int32))])) _
    refine XS.iloadN X14.here hx rfl (hb hby d1_10) rfl ?_
    refine XS.icmpNo X14.here hx rfl (hb hby d1_11) rfl (tlt (by decide +kernel : (4 : Int32) < (15 : Int32))).2.1 ?_
    refine XS.aloadN X14.here hx rfl (hb hby d1_14) rfl rfl ?_
    refine XS.iloadN X14.here hx rfl (hb hby d1_15) rfl ?_
    refine X14.aaload hx (j := (4 : Int32)) (v := (.ref w_Type_ANSWER)) (by rw [e14]; exact Ar15.1) (State.isArrayOf_alike hZ.alike Ar15.2.1) rfl Ar15.2.2 hin15 (Hs15.at hin15 rfl) (g := (mkF m 16 #[iv ck, rv b1_1_0, iv (15 : Int32), iv (4 : Int32), rv w_Type_ELECTION] [(.int (4 : Int32)), (.ref b1_1_0)])) rfl rfl (hb hby d1_16) _ ?_
    refine XS.astore X14.here hx rfl (hb hby d1_17) rfl rfl (l' := #[iv ck, rv b1_1_0, iv (15 : Int32), iv (4 : Int32), rv w_Type_ANSWER]) rfl ?_
    show Steps p.tables e below (T14.setTop (mkF m 19 #[iv ck, rv b1_1_0, iv (15 : Int32), iv (4 : Int32), rv w_Type_ANSWER] [])) _
    refine XS.aload X14.here hx rfl (hb hby d1_19) rfl rfl ?_
    refine st17 _ ?_
    refine XS.iloadN X17.here hx rfl (hb hby d1_24) rfl ?_
    refine XS.icmpYes X17.here hx rfl (pc0 := 25) (pc' := 31) rfl (hb hby d1_25) rfl (feq hn5).2 (by decide) (by decide) ?_
    refine XS.iinc X17.here hx rfl (hb hby d1_31) rfl (l' := #[iv ck, rv b1_1_0, iv (15 : Int32), iv ((4 : Int32) + (1 : Int32)), rv w_Type_ANSWER]) rfl ?_
    show Steps p.tables e below (T17.setTop (mkF m 34 #[iv ck, rv b1_1_0, iv (15 : Int32), iv ((4 : Int32) + (1 : Int32)), rv w_Type_ANSWER] [])) _
    rewrite [show ((4 : Int32) + (1 : Int32)) = (5 : Int32) from by decide +kernel]
    refine XS.goto X17.here hx rfl (pc0 := 34) (pc' := 9) rfl (hb hby d1_34) (by decide) (by decide) ?_
    show Steps p.tables e below (T17.setTop (mkF m 9 #[iv ck, rv b1_1_0, iv (15 : Int32), iv (5 : Int32), rv w_Type_ANSWER] [])) _
    refine XS.iloadN X17.here hx rfl (hb hby d1_9) rfl ?_
    refine XS.iloadN X17.here hx rfl (hb hby d1_10) rfl ?_
    refine XS.icmpNo X17.here hx rfl (hb hby d1_11) rfl (tlt (by decide +kernel : (5 : Int32) < (15 : Int32))).2.1 ?_
    refine XS.aloadN X17.here hx rfl (hb hby d1_14) rfl rfl ?_
    refine XS.iloadN X17.here hx rfl (hb hby d1_15) rfl ?_
    refine X17.aaload hx (j := (5 : Int32)) (v := (.ref w_Type_COORDINATOR)) (by rw [e17]; exact Ar18.1) (State.isArrayOf_alike hZ.alike Ar18.2.1) rfl Ar18.2.2 hin18 (Hs18.at hin18 rfl) (g := (mkF m 16 #[iv ck, rv b1_1_0, iv (15 : Int32), iv (5 : Int32), rv w_Type_ANSWER] [(.int (5 : Int32)), (.ref b1_1_0)])) rfl rfl (hb hby d1_16) _ ?_
    show Steps p.tables e below (T17.setTop (mkF m 17 #[iv ck, rv b1_1_0, iv (15 : Int32), iv (5 : Int32), rv w_Type_ANSWER] [(.ref w_Type_COORDINATOR)])) _
    refine XS.astore X17.here hx rfl (hb hby d1_17) rfl rfl (l' := #[iv ck, rv b1_1_0, iv (15 : Int32), iv (5 : Int32), rv w_Type_COORDINATOR]) rfl ?_
    refine XS.aload X17.here hx rfl (hb hby d1_19) rfl rfl ?_
    refine st20 _ ?_
    refine XS.iloadN X20.here hx rfl (hb hby d1_24) rfl ?_
    refine XS.icmpYes X20.here hx rfl (pc0 := 25) (pc' := 31) rfl (hb hby d1_25) rfl (feq hn6).2 (by decide) (by decide) ?_
    refine XS.iinc X20.here hx rfl (hb hby d1_31) rfl (l' := #[iv ck, rv b1_1_0, iv (15 : Int32), iv ((5 : Int32) + (1 : Int32)), rv w_Type_COORDINATOR]) rfl ?_
    show Steps p.tables e below (T20.setTop (mkF m 34 #[iv ck, rv b1_1_0, iv (15 : Int32), iv ((5 : Int32) + (1 : Int32)), rv w_Type_COORDINATOR] [])) _
    rewrite [show ((5 : Int32) + (1 : Int32)) = (6 : Int32) from by decide +kernel]
    show Steps p.tables e below (T20.setTop (mkF m 34 #[iv ck, rv b1_1_0, iv (15 : Int32), iv (6 : Int32), rv w_Type_COORDINATOR] [])) _
    refine XS.goto X20.here hx rfl (pc0 := 34) (pc' := 9) rfl (hb hby d1_34) (by decide) (by decide) ?_
    refine XS.iloadN X20.here hx rfl (hb hby d1_9) rfl ?_
    refine XS.iloadN X20.here hx rfl (hb hby d1_10) rfl ?_
    refine XS.icmpNo X20.here hx rfl (hb hby d1_11) rfl (tlt (by decide +kernel : (6 : Int32) < (15 : Int32))).2.1 ?_
    refine XS.aloadN X20.here hx rfl (hb hby d1_14) rfl rfl ?_
    refine XS.iloadN X20.here hx rfl (hb hby d1_15) rfl ?_
    show Steps p.tables e below (T20.setTop (mkF m 16 #[iv ck, rv b1_1_0, iv (15 : Int32), iv (6 : Int32), rv w_Type_COORDINATOR] [(.int (6 : Int32)), (.ref b1_1_0)])) _
    refine X20.aaload hx (j := (6 : Int32)) (v := (.ref w_Type_GRANT)) (by rw [e20]; exact Ar21.1) (State.isArrayOf_alike hZ.alike Ar21.2.1) rfl Ar21.2.2 hin21 (Hs21.at hin21 rfl) (g := (mkF m 16 #[iv ck, rv b1_1_0, iv (15 : Int32), iv (6 : Int32), rv w_Type_COORDINATOR] [(.int (6 : Int32)), (.ref b1_1_0)])) rfl rfl (hb hby d1_16) _ ?_
    refine XS.astore X20.here hx rfl (hb hby d1_17) rfl rfl (l' := #[iv ck, rv b1_1_0, iv (15 : Int32), iv (6 : Int32), rv w_Type_GRANT]) rfl ?_
    refine XS.aload X20.here hx rfl (hb hby d1_19) rfl rfl ?_
    refine st23 _ ?_
    refine XS.iloadN X23.here hx rfl (hb hby d1_24) rfl ?_
    refine XS.icmpYes X23.here hx rfl (pc0 := 25) (pc' := 31) rfl (hb hby d1_25) rfl (feq hn7).2 (by decide) (by decide) ?_
    show Steps p.tables e below (T23.setTop (mkF m 31 #[iv ck, rv b1_1_0, iv (15 : Int32), iv (6 : Int32), rv w_Type_GRANT] [])) _
    refine XS.iinc X23.here hx rfl (hb hby d1_31) rfl (l' := #[iv ck, rv b1_1_0, iv (15 : Int32), iv ((6 : Int32) + (1 : Int32)), rv w_Type_GRANT]) rfl ?_
    show Steps p.tables e below (T23.setTop (mkF m 34 #[iv ck, rv b1_1_0, iv (15 : Int32), iv ((6 : Int32) + (1 : Int32)), rv w_Type_GRANT] [])) _
    rewrite [show ((6 : Int32) + (1 : Int32)) = (7 : Int32) from by decide +kernel]
    refine XS.goto X23.here hx rfl (pc0 := 34) (pc' := 9) rfl (hb hby d1_34) (by decide) (by decide) ?_
    refine XS.iloadN X23.here hx rfl (hb hby d1_9) rfl ?_
    refine XS.iloadN X23.here hx rfl (hb hby d1_10) rfl ?_
    refine XS.icmpNo X23.here hx rfl (hb hby d1_11) rfl (tlt (by decide +kernel : (7 : Int32) < (15 : Int32))).2.1 ?_
    refine XS.aloadN X23.here hx rfl (hb hby d1_14) rfl rfl ?_
    show Steps p.tables e below (T23.setTop (mkF m 15 #[iv ck, rv b1_1_0, iv (15 : Int32), iv (7 : Int32), rv w_Type_GRANT] [(.ref b1_1_0)])) _
    refine XS.iloadN X23.here hx rfl (hb hby d1_15) rfl ?_
    refine X23.aaload hx (j := (7 : Int32)) (v := (.ref w_Type_RELEASE)) (by rw [e23]; exact Ar24.1) (State.isArrayOf_alike hZ.alike Ar24.2.1) rfl Ar24.2.2 hin24 (Hs24.at hin24 rfl) (g := (mkF m 16 #[iv ck, rv b1_1_0, iv (15 : Int32), iv (7 : Int32), rv w_Type_GRANT] [(.int (7 : Int32)), (.ref b1_1_0)])) rfl rfl (hb hby d1_16) _ ?_
    refine XS.astore X23.here hx rfl (hb hby d1_17) rfl rfl (l' := #[iv ck, rv b1_1_0, iv (15 : Int32), iv (7 : Int32), rv w_Type_RELEASE]) rfl ?_
    refine XS.aload X23.here hx rfl (hb hby d1_19) rfl rfl ?_
    refine st26 _ ?_
    refine XS.iloadN X26.here hx rfl (hb hby d1_24) rfl ?_
    show Steps p.tables e below (T26.setTop (mkF m 25 #[iv ck, rv b1_1_0, iv (15 : Int32), iv (7 : Int32), rv w_Type_RELEASE] [(.int ck), (.int (8 : Int32))])) _
    refine XS.icmpYes X26.here hx rfl (pc0 := 25) (pc' := 31) rfl (hb hby d1_25) rfl (feq hn8).2 (by decide) (by decide) ?_
    refine XS.iinc X26.here hx rfl (hb hby d1_31) rfl (l' := #[iv ck, rv b1_1_0, iv (15 : Int32), iv ((7 : Int32) + (1 : Int32)), rv w_Type_RELEASE]) rfl ?_
    show Steps p.tables e below (T26.setTop (mkF m 34 #[iv ck, rv b1_1_0, iv (15 : Int32), iv ((7 : Int32) + (1 : Int32)), rv w_Type_RELEASE] [])) _
    rewrite [show ((7 : Int32) + (1 : Int32)) = (8 : Int32) from by decide +kernel]
    refine XS.goto X26.here hx rfl (pc0 := 34) (pc' := 9) rfl (hb hby d1_34) (by decide) (by decide) ?_
    refine XS.iloadN X26.here hx rfl (hb hby d1_9) rfl ?_
    refine XS.iloadN X26.here hx rfl (hb hby d1_10) rfl ?_
    refine XS.icmpNo X26.here hx rfl (hb hby d1_11) rfl (tlt (by decide +kernel : (8 : Int32) < (15 : Int32))).2.1 ?_
    show Steps p.tables e below (T26.setTop (mkF m 14 #[iv ck, rv b1_1_0, iv (15 : Int32), iv (8 : Int32), rv w_Type_RELEASE] [])) _
    refine XS.aloadN X26.here hx rfl (hb hby d1_14) rfl rfl ?_
    refine XS.iloadN X26.here hx rfl (hb hby d1_15) rfl ?_
    refine X26.aaload hx (j := (8 : Int32)) (v := (.ref w_Type_HELD)) (by rw [e26]; exact Ar27.1) (State.isArrayOf_alike hZ.alike Ar27.2.1) rfl Ar27.2.2 hin27 (Hs27.at hin27 rfl) (g := (mkF m 16 #[iv ck, rv b1_1_0, iv (15 : Int32), iv (8 : Int32), rv w_Type_RELEASE] [(.int (8 : Int32)), (.ref b1_1_0)])) rfl rfl (hb hby d1_16) _ ?_
    refine XS.astore X26.here hx rfl (hb hby d1_17) rfl rfl (l' := #[iv ck, rv b1_1_0, iv (15 : Int32), iv (8 : Int32), rv w_Type_HELD]) rfl ?_
    refine XS.aload X26.here hx rfl (hb hby d1_19) rfl rfl ?_
    refine st29 _ ?_
    show Steps p.tables e below (T29.setTop (mkF m 24 #[iv ck, rv b1_1_0, iv (15 : Int32), iv (8 : Int32), rv w_Type_HELD] [(.int (9 : Int32))])) _
    refine XS.iloadN X29.here hx rfl (hb hby d1_24) rfl ?_
    refine XS.icmpYes X29.here hx rfl (pc0 := 25) (pc' := 31) rfl (hb hby d1_25) rfl (feq hn9).2 (by decide) (by decide) ?_
    refine XS.iinc X29.here hx rfl (hb hby d1_31) rfl (l' := #[iv ck, rv b1_1_0, iv (15 : Int32), iv ((8 : Int32) + (1 : Int32)), rv w_Type_HELD]) rfl ?_
    show Steps p.tables e below (T29.setTop (mkF m 34 #[iv ck, rv b1_1_0, iv (15 : Int32), iv ((8 : Int32) + (1 : Int32)), rv w_Type_HELD] [])) _
    rewrite [show ((8 : Int32) + (1 : Int32)) = (9 : Int32) from by decide +kernel]
    refine XS.goto X29.here hx rfl (pc0 := 34) (pc' := 9) rfl (hb hby d1_34) (by decide) (by decide) ?_
    refine XS.iloadN X29.here hx rfl (hb hby d1_9) rfl ?_
    refine XS.iloadN X29.here hx rfl (hb hby d1_10) rfl ?_
    show Steps p.tables e below (T29.setTop (mkF m 11 #[iv ck, rv b1_1_0, iv (15 : Int32), iv (9 : Int32), rv w_Type_HELD] [(.int (15 : Int32)), (.int (9 : Int32))])) _
    refine XS.icmpNo X29.here hx rfl (hb hby d1_11) rfl (tlt (by decide +kernel : (9 : Int32) < (15 : Int32))).2.1 ?_
    refine XS.aloadN X29.here hx rfl (hb hby d1_14) rfl rfl ?_
    refine XS.iloadN X29.here hx rfl (hb hby d1_15) rfl ?_
    refine X29.aaload hx (j := (9 : Int32)) (v := (.ref w_Type_REPORTED)) (by rw [e29]; exact Ar30.1) (State.isArrayOf_alike hZ.alike Ar30.2.1) rfl Ar30.2.2 hin30 (Hs30.at hin30 rfl) (g := (mkF m 16 #[iv ck, rv b1_1_0, iv (15 : Int32), iv (9 : Int32), rv w_Type_HELD] [(.int (9 : Int32)), (.ref b1_1_0)])) rfl rfl (hb hby d1_16) _ ?_
    refine XS.astore X29.here hx rfl (hb hby d1_17) rfl rfl (l' := #[iv ck, rv b1_1_0, iv (15 : Int32), iv (9 : Int32), rv w_Type_REPORTED]) rfl ?_
    refine XS.aload X29.here hx rfl (hb hby d1_19) rfl rfl ?_
    show Steps p.tables e below (T29.setTop (mkF m 21 #[iv ck, rv b1_1_0, iv (15 : Int32), iv (9 : Int32), rv w_Type_REPORTED] [(.ref w_Type_REPORTED)])) _
    refine st32 _ ?_
    refine XS.iloadN X32.here hx rfl (hb hby d1_24) rfl ?_
    refine XS.icmpYes X32.here hx rfl (pc0 := 25) (pc' := 31) rfl (hb hby d1_25) rfl (feq hn10).2 (by decide) (by decide) ?_
    refine XS.iinc X32.here hx rfl (hb hby d1_31) rfl (l' := #[iv ck, rv b1_1_0, iv (15 : Int32), iv ((9 : Int32) + (1 : Int32)), rv w_Type_REPORTED]) rfl ?_
    show Steps p.tables e below (T32.setTop (mkF m 34 #[iv ck, rv b1_1_0, iv (15 : Int32), iv ((9 : Int32) + (1 : Int32)), rv w_Type_REPORTED] [])) _
    rewrite [show ((9 : Int32) + (1 : Int32)) = (10 : Int32) from by decide +kernel]
    refine XS.goto X32.here hx rfl (pc0 := 34) (pc' := 9) rfl (hb hby d1_34) (by decide) (by decide) ?_
    refine XS.iloadN X32.here hx rfl (hb hby d1_9) rfl ?_
    show Steps p.tables e below (T32.setTop (mkF m 10 #[iv ck, rv b1_1_0, iv (15 : Int32), iv (10 : Int32), rv w_Type_REPORTED] [(.int (10 : Int32))])) _
    refine XS.iloadN X32.here hx rfl (hb hby d1_10) rfl ?_
    refine XS.icmpNo X32.here hx rfl (hb hby d1_11) rfl (tlt (by decide +kernel : (10 : Int32) < (15 : Int32))).2.1 ?_
    refine XS.aloadN X32.here hx rfl (hb hby d1_14) rfl rfl ?_
    refine XS.iloadN X32.here hx rfl (hb hby d1_15) rfl ?_
    refine X32.aaload hx (j := (10 : Int32)) (v := (.ref w_Type_LOCKED)) (by rw [e32]; exact Ar33.1) (State.isArrayOf_alike hZ.alike Ar33.2.1) rfl Ar33.2.2 hin33 (Hs33.at hin33 rfl) (g := (mkF m 16 #[iv ck, rv b1_1_0, iv (15 : Int32), iv (10 : Int32), rv w_Type_REPORTED] [(.int (10 : Int32)), (.ref b1_1_0)])) rfl rfl (hb hby d1_16) _ ?_
    refine XS.astore X32.here hx rfl (hb hby d1_17) rfl rfl (l' := #[iv ck, rv b1_1_0, iv (15 : Int32), iv (10 : Int32), rv w_Type_LOCKED]) rfl ?_
    show Steps p.tables e below (T32.setTop (mkF m 19 #[iv ck, rv b1_1_0, iv (15 : Int32), iv (10 : Int32), rv w_Type_LOCKED] [])) _
    refine XS.aload X32.here hx rfl (hb hby d1_19) rfl rfl ?_
    refine st35 _ ?_
    refine XS.iloadN X35.here hx rfl (hb hby d1_24) rfl ?_
    refine XS.icmpYes X35.here hx rfl (pc0 := 25) (pc' := 31) rfl (hb hby d1_25) rfl (feq hn11).2 (by decide) (by decide) ?_
    refine XS.iinc X35.here hx rfl (hb hby d1_31) rfl (l' := #[iv ck, rv b1_1_0, iv (15 : Int32), iv ((10 : Int32) + (1 : Int32)), rv w_Type_LOCKED]) rfl ?_
    show Steps p.tables e below (T35.setTop (mkF m 34 #[iv ck, rv b1_1_0, iv (15 : Int32), iv ((10 : Int32) + (1 : Int32)), rv w_Type_LOCKED] [])) _
    rewrite [show ((10 : Int32) + (1 : Int32)) = (11 : Int32) from by decide +kernel]
    refine XS.goto X35.here hx rfl (pc0 := 34) (pc' := 9) rfl (hb hby d1_34) (by decide) (by decide) ?_
    show Steps p.tables e below (T35.setTop (mkF m 9 #[iv ck, rv b1_1_0, iv (15 : Int32), iv (11 : Int32), rv w_Type_LOCKED] [])) _
    refine XS.iloadN X35.here hx rfl (hb hby d1_9) rfl ?_
    refine XS.iloadN X35.here hx rfl (hb hby d1_10) rfl ?_
    refine XS.icmpNo X35.here hx rfl (hb hby d1_11) rfl (tlt (by decide +kernel : (11 : Int32) < (15 : Int32))).2.1 ?_
    refine XS.aloadN X35.here hx rfl (hb hby d1_14) rfl rfl ?_
    refine XS.iloadN X35.here hx rfl (hb hby d1_15) rfl ?_
    refine X35.aaload hx (j := (11 : Int32)) (v := (.ref w_Type_INQUIRE)) (by rw [e35]; exact Ar36.1) (State.isArrayOf_alike hZ.alike Ar36.2.1) rfl Ar36.2.2 hin36 (Hs36.at hin36 rfl) (g := (mkF m 16 #[iv ck, rv b1_1_0, iv (15 : Int32), iv (11 : Int32), rv w_Type_LOCKED] [(.int (11 : Int32)), (.ref b1_1_0)])) rfl rfl (hb hby d1_16) _ ?_
    show Steps p.tables e below (T35.setTop (mkF m 17 #[iv ck, rv b1_1_0, iv (15 : Int32), iv (11 : Int32), rv w_Type_LOCKED] [(.ref w_Type_INQUIRE)])) _
    refine XS.astore X35.here hx rfl (hb hby d1_17) rfl rfl (l' := #[iv ck, rv b1_1_0, iv (15 : Int32), iv (11 : Int32), rv w_Type_INQUIRE]) rfl ?_
    refine XS.aload X35.here hx rfl (hb hby d1_19) rfl rfl ?_
    refine st38 _ ?_
    refine XS.iloadN X38.here hx rfl (hb hby d1_24) rfl ?_
    refine XS.icmpYes X38.here hx rfl (pc0 := 25) (pc' := 31) rfl (hb hby d1_25) rfl (feq hn12).2 (by decide) (by decide) ?_
    refine XS.iinc X38.here hx rfl (hb hby d1_31) rfl (l' := #[iv ck, rv b1_1_0, iv (15 : Int32), iv ((11 : Int32) + (1 : Int32)), rv w_Type_INQUIRE]) rfl ?_
    show Steps p.tables e below (T38.setTop (mkF m 34 #[iv ck, rv b1_1_0, iv (15 : Int32), iv ((11 : Int32) + (1 : Int32)), rv w_Type_INQUIRE] [])) _
    rewrite [show ((11 : Int32) + (1 : Int32)) = (12 : Int32) from by decide +kernel]
    show Steps p.tables e below (T38.setTop (mkF m 34 #[iv ck, rv b1_1_0, iv (15 : Int32), iv (12 : Int32), rv w_Type_INQUIRE] [])) _
    refine XS.goto X38.here hx rfl (pc0 := 34) (pc' := 9) rfl (hb hby d1_34) (by decide) (by decide) ?_
    refine XS.iloadN X38.here hx rfl (hb hby d1_9) rfl ?_
    refine XS.iloadN X38.here hx rfl (hb hby d1_10) rfl ?_
    refine XS.icmpNo X38.here hx rfl (hb hby d1_11) rfl (tlt (by decide +kernel : (12 : Int32) < (15 : Int32))).2.1 ?_
    refine XS.aloadN X38.here hx rfl (hb hby d1_14) rfl rfl ?_
    refine XS.iloadN X38.here hx rfl (hb hby d1_15) rfl ?_
    show Steps p.tables e below (T38.setTop (mkF m 16 #[iv ck, rv b1_1_0, iv (15 : Int32), iv (12 : Int32), rv w_Type_INQUIRE] [(.int (12 : Int32)), (.ref b1_1_0)])) _
    refine X38.aaload hx (j := (12 : Int32)) (v := (.ref w_Type_FAILED)) (by rw [e38]; exact Ar39.1) (State.isArrayOf_alike hZ.alike Ar39.2.1) rfl Ar39.2.2 hin39 (Hs39.at hin39 rfl) (g := (mkF m 16 #[iv ck, rv b1_1_0, iv (15 : Int32), iv (12 : Int32), rv w_Type_INQUIRE] [(.int (12 : Int32)), (.ref b1_1_0)])) rfl rfl (hb hby d1_16) _ ?_
    refine XS.astore X38.here hx rfl (hb hby d1_17) rfl rfl (l' := #[iv ck, rv b1_1_0, iv (15 : Int32), iv (12 : Int32), rv w_Type_FAILED]) rfl ?_
    refine XS.aload X38.here hx rfl (hb hby d1_19) rfl rfl ?_
    refine st41 _ ?_
    refine XS.iloadN X41.here hx rfl (hb hby d1_24) rfl ?_
    refine XS.icmpYes X41.here hx rfl (pc0 := 25) (pc' := 31) rfl (hb hby d1_25) rfl (feq hn13).2 (by decide) (by decide) ?_
    show Steps p.tables e below (T41.setTop (mkF m 31 #[iv ck, rv b1_1_0, iv (15 : Int32), iv (12 : Int32), rv w_Type_FAILED] [])) _
    refine XS.iinc X41.here hx rfl (hb hby d1_31) rfl (l' := #[iv ck, rv b1_1_0, iv (15 : Int32), iv ((12 : Int32) + (1 : Int32)), rv w_Type_FAILED]) rfl ?_
    show Steps p.tables e below (T41.setTop (mkF m 34 #[iv ck, rv b1_1_0, iv (15 : Int32), iv ((12 : Int32) + (1 : Int32)), rv w_Type_FAILED] [])) _
    rewrite [show ((12 : Int32) + (1 : Int32)) = (13 : Int32) from by decide +kernel]
    refine XS.goto X41.here hx rfl (pc0 := 34) (pc' := 9) rfl (hb hby d1_34) (by decide) (by decide) ?_
    refine XS.iloadN X41.here hx rfl (hb hby d1_9) rfl ?_
    refine XS.iloadN X41.here hx rfl (hb hby d1_10) rfl ?_
    refine XS.icmpNo X41.here hx rfl (hb hby d1_11) rfl (tlt (by decide +kernel : (13 : Int32) < (15 : Int32))).2.1 ?_
    refine XS.aloadN X41.here hx rfl (hb hby d1_14) rfl rfl ?_
    show Steps p.tables e below (T41.setTop (mkF m 15 #[iv ck, rv b1_1_0, iv (15 : Int32), iv (13 : Int32), rv w_Type_FAILED] [(.ref b1_1_0)])) _
    refine XS.iloadN X41.here hx rfl (hb hby d1_15) rfl ?_
    refine X41.aaload hx (j := (13 : Int32)) (v := (.ref w_Type_RELINQUISH)) (by rw [e41]; exact Ar42.1) (State.isArrayOf_alike hZ.alike Ar42.2.1) rfl Ar42.2.2 hin42 (Hs42.at hin42 rfl) (g := (mkF m 16 #[iv ck, rv b1_1_0, iv (15 : Int32), iv (13 : Int32), rv w_Type_FAILED] [(.int (13 : Int32)), (.ref b1_1_0)])) rfl rfl (hb hby d1_16) _ ?_
    refine XS.astore X41.here hx rfl (hb hby d1_17) rfl rfl (l' := #[iv ck, rv b1_1_0, iv (15 : Int32), iv (13 : Int32), rv w_Type_RELINQUISH]) rfl ?_
    refine XS.aload X41.here hx rfl (hb hby d1_19) rfl rfl ?_
    refine st44 _ ?_
    refine XS.iloadN X44.here hx rfl (hb hby d1_24) rfl ?_
    show Steps p.tables e below (T44.setTop (mkF m 25 #[iv ck, rv b1_1_0, iv (15 : Int32), iv (13 : Int32), rv w_Type_RELINQUISH] [(.int ck), (.int (14 : Int32))])) _
    refine XS.icmpYes X44.here hx rfl (pc0 := 25) (pc' := 31) rfl (hb hby d1_25) rfl (feq hn14).2 (by decide) (by decide) ?_
    refine XS.iinc X44.here hx rfl (hb hby d1_31) rfl (l' := #[iv ck, rv b1_1_0, iv (15 : Int32), iv ((13 : Int32) + (1 : Int32)), rv w_Type_RELINQUISH]) rfl ?_
    show Steps p.tables e below (T44.setTop (mkF m 34 #[iv ck, rv b1_1_0, iv (15 : Int32), iv ((13 : Int32) + (1 : Int32)), rv w_Type_RELINQUISH] [])) _
    rewrite [show ((13 : Int32) + (1 : Int32)) = (14 : Int32) from by decide +kernel]
    refine XS.goto X44.here hx rfl (pc0 := 34) (pc' := 9) rfl (hb hby d1_34) (by decide) (by decide) ?_
    refine XS.iloadN X44.here hx rfl (hb hby d1_9) rfl ?_
    refine XS.iloadN X44.here hx rfl (hb hby d1_10) rfl ?_
    refine XS.icmpNo X44.here hx rfl (hb hby d1_11) rfl (tlt (by decide +kernel : (14 : Int32) < (15 : Int32))).2.1 ?_
    show Steps p.tables e below (T44.setTop (mkF m 14 #[iv ck, rv b1_1_0, iv (15 : Int32), iv (14 : Int32), rv w_Type_RELINQUISH] [])) _
    refine XS.aloadN X44.here hx rfl (hb hby d1_14) rfl rfl ?_
    refine XS.iloadN X44.here hx rfl (hb hby d1_15) rfl ?_
    refine X44.aaload hx (j := (14 : Int32)) (v := (.ref w_Type_TOKEN)) (by rw [e44]; exact Ar45.1) (State.isArrayOf_alike hZ.alike Ar45.2.1) rfl Ar45.2.2 hin45 (Hs45.at hin45 rfl) (g := (mkF m 16 #[iv ck, rv b1_1_0, iv (15 : Int32), iv (14 : Int32), rv w_Type_RELINQUISH] [(.int (14 : Int32)), (.ref b1_1_0)])) rfl rfl (hb hby d1_16) _ ?_
    refine XS.astore X44.here hx rfl (hb hby d1_17) rfl rfl (l' := #[iv ck, rv b1_1_0, iv (15 : Int32), iv (14 : Int32), rv w_Type_TOKEN]) rfl ?_
    refine XS.aload X44.here hx rfl (hb hby d1_19) rfl rfl ?_
    refine st47 _ ?_
    show Steps p.tables e below (T47.setTop (mkF m 24 #[iv ck, rv b1_1_0, iv (15 : Int32), iv (14 : Int32), rv w_Type_TOKEN] [(.int (15 : Int32))])) _
    refine XS.iloadN X47.here hx rfl (hb hby d1_24) rfl ?_
    refine XS.icmpYes X47.here hx rfl (pc0 := 25) (pc' := 31) rfl (hb hby d1_25) rfl (feq hn15).2 (by decide) (by decide) ?_
    refine XS.iinc X47.here hx rfl (hb hby d1_31) rfl (l' := #[iv ck, rv b1_1_0, iv (15 : Int32), iv ((14 : Int32) + (1 : Int32)), rv w_Type_TOKEN]) rfl ?_
    show Steps p.tables e below (T47.setTop (mkF m 34 #[iv ck, rv b1_1_0, iv (15 : Int32), iv ((14 : Int32) + (1 : Int32)), rv w_Type_TOKEN] [])) _
    rewrite [show ((14 : Int32) + (1 : Int32)) = (15 : Int32) from by decide +kernel]
    refine XS.goto X47.here hx rfl (pc0 := 34) (pc' := 9) rfl (hb hby d1_34) (by decide) (by decide) ?_
    refine XS.iloadN X47.here hx rfl (hb hby d1_9) rfl ?_
    refine XS.iloadN X47.here hx rfl (hb hby d1_10) rfl ?_
    show Steps p.tables e below (T47.setTop (mkF m 11 #[iv ck, rv b1_1_0, iv (15 : Int32), iv (15 : Int32), rv w_Type_TOKEN] [(.int (15 : Int32)), (.int (15 : Int32))])) _
    refine XS.icmpYes X47.here hx rfl (pc0 := 11) (pc' := 37) rfl (hb hby d1_11) rfl (flt (by decide +kernel : ¬ ((15 : Int32) < (15 : Int32)))).2.1 (by decide) (by decide) ?_
    refine XS.aconstNull X47.here hx rfl (hb hby d1_37) ?_
    exact own_retA X47 hx Bd.returns rfl rfl (hb hby d1_38) hr
  · exact (by show Q_rk_none_0 Z  h0 n0 _ T47.heap _; rw [e47]; exact ⟨rfl, N1, KK1⟩)
set_option maxRecDepth 65536 in
set_option maxHeartbeats 40000000 in
theorem rk_none (l : Launch) (Z : State) (a0 : Array Value) (hw : ∀ d ∈ tables_1, d.before a0 Z = true) (ws : List Jvm.Cond) (w_Type__VALUES : Addr) (w_Type_REQUEST : Addr) (w_Type_REPLY : Addr) (w_Type_HEARTBEAT : Addr) (w_Type_ELECTION : Addr) (w_Type_ANSWER : Addr) (w_Type_COORDINATOR : Addr) (w_Type_GRANT : Addr) (w_Type_RELEASE : Addr) (w_Type_HELD : Addr) (w_Type_REPORTED : Addr) (w_Type_LOCKED : Addr) (w_Type_INQUIRE : Addr) (w_Type_FAILED : Addr) (w_Type_RELINQUISH : Addr) (w_Type_TOKEN : Addr) (k_w_Type__VALUES : ClassId) (ck : Int32) (h0 : Heap) (n0 : Nat) (Z0 : n0 ≤ h0.size) (hout : ck < (1 : Int32) ∨ (15 : Int32) < ck) (S_Type__VALUES : Sta Z h0 "com/example/stile/stile/Message$Type" "$VALUES" "[Lcom/example/stile/stile/Message$Type;" (.ref w_Type__VALUES)) (V_w_Type__VALUES : Arv Z h0 w_Type__VALUES k_w_Type__VALUES (.object "com/example/stile/stile/Message$Type") (15 : Int32) [(.ref w_Type_REQUEST), (.ref w_Type_REPLY), (.ref w_Type_HEARTBEAT), (.ref w_Type_ELECTION), (.ref w_Type_ANSWER), (.ref w_Type_COORDINATOR), (.ref w_Type_GRANT), (.ref w_Type_RELEASE), (.ref w_Type_HELD), (.ref w_Type_REPORTED), (.ref w_Type_LOCKED), (.ref w_Type_INQUIRE), (.ref w_Type_FAILED), (.ref w_Type_RELINQUISH), (.ref w_Type_TOKEN)] .null) (E_w_Type__VALUES : Exa Z h0 w_Type__VALUES "[Lcom/example/stile/stile/Message$Type;") (F_w_Type_REQUEST_code : Fld Z h0 w_Type_REQUEST "com/example/stile/stile/Message$Type" "code" "I" (.int (1 : Int32))) (F_w_Type_REPLY_code : Fld Z h0 w_Type_REPLY "com/example/stile/stile/Message$Type" "code" "I" (.int (2 : Int32))) (F_w_Type_HEARTBEAT_code : Fld Z h0 w_Type_HEARTBEAT "com/example/stile/stile/Message$Type" "code" "I" (.int (3 : Int32))) (F_w_Type_ELECTION_code : Fld Z h0 w_Type_ELECTION "com/example/stile/stile/Message$Type" "code" "I" (.int (4 : Int32))) (F_w_Type_ANSWER_code : Fld Z h0 w_Type_ANSWER "com/example/stile/stile/Message$Type" "code" "I" (.int (5 : Int32))) (F_w_Type_COORDINATOR_code : Fld Z h0 w_Type_COORDINATOR "com/example/stile/stile/Message$Type" "code" "I" (.int (6 : Int32))) (F_w_Type_GRANT_code : Fld Z h0 w_Type_GRANT "com/example/stile/stile/Message$Type" "code" "I" (.int (7 : Int32))) (F_w_Type_RELEASE_code : Fld Z h0 w_Type_RELEASE "com/example/stile/stile/Message$Type" "code" "I" (.int (8 : Int32))) (F_w_Type_HELD_code : Fld Z h0 w_Type_HELD "com/example/stile/stile/Message$Type" "code" "I" (.int (9 : Int32))) (F_w_Type_REPORTED_code : Fld Z h0 w_Type_REPORTED "com/example/stile/stile/Message$Type" "code" "I" (.int (10 : Int32))) (F_w_Type_LOCKED_code : Fld Z h0 w_Type_LOCKED "com/example/stile/stile/Message$Type" "code" "I" (.int (11 : Int32))) (F_w_Type_INQUIRE_code : Fld Z h0 w_Type_INQUIRE "com/example/stile/stile/Message$Type" "code" "I" (.int (12 : Int32))) (F_w_Type_FAILED_code : Fld Z h0 w_Type_FAILED "com/example/stile/stile/Message$Type" "code" "I" (.int (13 : Int32))) (F_w_Type_RELINQUISH_code : Fld Z h0 w_Type_RELINQUISH "com/example/stile/stile/Message$Type" "code" "I" (.int (14 : Int32))) (F_w_Type_TOKEN_code : Fld Z h0 w_Type_TOKEN "com/example/stile/stile/Message$Type" "code" "I" (.int (15 : Int32))) :
    MetFree l (⟨"com/example/stile/stile/Message$Type", "of", "(I)Lcom/example/stile/stile/Message$Type;"⟩ : MethodName) (head1 (Jvm.Cond.code (⟨"com/example/stile/stile/Message$Type", "of", "(I)Lcom/example/stile/stile/Message$Type;"⟩ : MethodName) prog_48_method_8_code 5 (some (.object "com/example/stile/stile/Message$Type")) :: ws) ({ frames := 2, cells := 1, slots := 15, locals := 25 } : Room)) (fun a U => a = #[(.int ck)] ∧ Z.Warmed39 U.vm ∧ U.heap = h0) (fun _ _ _ _ _ => True) (fun _ U o U' => ∃ v L, o = .returned v ∧ own_QN h0 n0 v U'.heap L ∧ FrameEnd U o U' L ({ frames := 2, cells := 1, slots := 15, locals := 25 } : Room).cells ({ frames := 2, cells := 1, slots := 15, locals := 25 } : Room).slots) := by
  rcases own_out hout with ⟨hn1, hn2, hn3, hn4, hn5, hn6, hn7, hn8, hn9, hn10, hn11, hn12, hn13, hn14, hn15⟩
  · exact own_imp (rk_none_0 l Z a0 hw ws w_Type__VALUES w_Type_REQUEST w_Type_REPLY w_Type_HEARTBEAT w_Type_ELECTION w_Type_ANSWER w_Type_COORDINATOR w_Type_GRANT w_Type_RELEASE w_Type_HELD w_Type_REPORTED w_Type_LOCKED w_Type_INQUIRE w_Type_FAILED w_Type_RELINQUISH w_Type_TOKEN k_w_Type__VALUES ck h0 n0 Z0 S_Type__VALUES V_w_Type__VALUES E_w_Type__VALUES F_w_Type_REQUEST_code hn1 F_w_Type_REPLY_code hn2 F_w_Type_HEARTBEAT_code hn3 F_w_Type_ELECTION_code hn4 F_w_Type_ANSWER_code hn5 F_w_Type_COORDINATOR_code hn6 F_w_Type_GRANT_code hn7 F_w_Type_RELEASE_code hn8 F_w_Type_HELD_code hn9 F_w_Type_REPORTED_code hn10 F_w_Type_LOCKED_code hn11 F_w_Type_INQUIRE_code hn12 F_w_Type_FAILED_code hn13 F_w_Type_RELINQUISH_code hn14 F_w_Type_TOKEN_code hn15) (fun v h L q => by obtain ⟨rfl, N, K⟩ := q; exact ⟨rfl, N, K⟩)
set_option maxRecDepth 65536 in
set_option maxHeartbeats 40000000 in
theorem rm3_1 (l : Launch) (Z : State) (a0 : Array Value) (hw : ∀ d ∈ tables_1, d.before a0 Z = true) (ws : List Jvm.Cond) (p0 : Int32) (b0_1 : Addr) (h0 : Heap) (n0 : Nat) (Z0 : n0 ≤ h0.size) (F_b0_1_code : Fld Z h0 b0_1 "com/example/stile/stile/Message$Type" "code" "I" (.int (((p0 &&& (2147483647 : Int32)) % (18 : Int32)) - (1 : Int32)))) :
    MetFree l (⟨"com/example/stile/stile/Message$Type", "code", "()I"⟩ : MethodName) (head1 (Jvm.Cond.code (⟨"com/example/stile/stile/Message$Type", "code", "()I"⟩ : MethodName) prog_48_method_5_code 1 (some .int) :: ws) ({ frames := 0, cells := 0, slots := 0, locals := 0 } : Room)) (fun a U => a = #[(.ref b0_1)] ∧ Z.Warmed39 U.vm ∧ U.heap = h0) (fun _ _ _ _ _ => True) (fun _ U o U' => ∃ v L, o = .returned v ∧ own_QP (some (.int (((p0 &&& (2147483647 : Int32)) % (18 : Int32)) - (1 : Int32)))) h0 n0 v U'.heap L ∧ FrameEnd U o U' L ({ frames := 0, cells := 0, slots := 0, locals := 0 } : Room).cells ({ frames := 0, cells := 0, slots := 0, locals := 0 } : Room).slots) := by
  refine MetFree.of_bodySF (plainFor_of_name pn_0) hisR ?_
  intro p e s m args below meth c s₁ Bd hml0 hP hK
  obtain ⟨rfl, hZ, hh⟩ := hP
  have hx := Bd.exec
  have hby := Bd.bytes
  have hml : c.maxLocals = 1 := hml0
  have hown : s.vm.findClass "com/example/stile/stile/Message$Type" = some m.cls := findClass_of_methodNamed Bd.named
  have hnm := (name_of_methodNamed Bd.named Bd.method).1
  have X0 : Stand p l e ({ frames := 0, cells := 0, slots := 0, locals := 0 } : Room) s m #[(.ref b0_1)] below meth c s₁ [] 0 0 := Stand.of_body Bd
  have e0 : s₁.heap = h0 := by rw [← hh, Bd.state]; rfl
  have N0 := Fr.nil n0
  have pre0 : ∀ t, Steps p.tables e below (s₁.setTop (mkF m 0 #[rv b0_1] [])) t → Steps p.tables e below (s₁.setTop (entryFrame m #[(.ref b0_1)] 1)) t := fun t k => castTop (ef_3_R m b0_1) k
  obtain ⟨T1, X1, e1, st1⟩ := getF X0 hx hZ hown (host := "") (Or.inl (hw _ (List.mem_of_getElem? (i := 34) rfl))) Via.refl e0 F_b0_1_code (g := (mkF m 1 #[rv b0_1] [(.ref b0_1)])) rfl rfl (hb hby d3_1)
  obtain ⟨fs, hr, hrun, hended, hW, hsame⟩ := X1.leave (v := (some (.int (((p0 &&& (2147483647 : Int32)) % (18 : Int32)) - (1 : Int32))))) (fun h => by rw [Bd.returns] at h; cases h)
  refine ⟨_, _, pre0 _ ?_, hrun, hended, _, _, rfl, ?_, ⟨_, rfl⟩, hW, hsame.mono (by decide) (by decide)⟩
  · show Steps p.tables e below (s₁.setTop (mkF m 0 #[rv b0_1] [])) _
    refine XS.aloadN X0.here hx rfl (hb hby d3_0) rfl rfl ?_
    refine st1 _ ?_
    exact retI X1 hx Bd.returns (hb hby d3_4) hr
  · exact ⟨rfl, N0, e1⟩
set_option maxRecDepth 65536 in
set_option maxHeartbeats 40000000 in
theorem rm0_0 (l : Launch) (Z : State) (a0 : Array Value) (hw : ∀ d ∈ tables_1, d.before a0 Z = true) (ws : List Jvm.Cond) (p0 : Int32) (p1 : Int32) (w_Type__VALUES : Addr) (w_Type_REQUEST : Addr) (w_Type_REPLY : Addr) (w_Type_HEARTBEAT : Addr) (w_Type_ELECTION : Addr) (w_Type_ANSWER : Addr) (w_Type_COORDINATOR : Addr) (w_Type_GRANT : Addr) (w_Type_RELEASE : Addr) (w_Type_HELD : Addr) (w_Type_REPORTED : Addr) (w_Type_LOCKED : Addr) (w_Type_INQUIRE : Addr) (w_Type_FAILED : Addr) (w_Type_RELINQUISH : Addr) (w_Type_TOKEN : Addr) (k_w_Type__VALUES : ClassId) (h0 : Heap) (n0 : Nat) (Z0 : n0 ≤ h0.size) (hk : (p1 &&& (1 : Int32)) = (0 : Int32)) (hlo : ¬ ((((p0 &&& (2147483647 : Int32)) % (18 : Int32)) - (1 : Int32)) < (1 : Int32))) (hhi : ¬ ((15 : Int32) < (((p0 &&& (2147483647 : Int32)) % (18 : Int32)) - (1 : Int32)))) (S_Type__VALUES : Sta Z h0 "com/example/stile/stile/Message$Type" "$VALUES" "[Lcom/example/stile/stile/Message$Type;" (.ref w_Type__VALUES)) (V_w_Type__VALUES : Arv Z h0 w_Type__VALUES k_w_Type__VALUES (.object "com/example/stile/stile/Message$Type") (15 : Int32) [(.ref w_Type_REQUEST), (.ref w_Type_REPLY), (.ref w_Type_HEARTBEAT), (.ref w_Type_ELECTION), (.ref w_Type_ANSWER), (.ref w_Type_COORDINATOR), (.ref w_Type_GRANT), (.ref w_Type_RELEASE), (.ref w_Type_HELD), (.ref w_Type_REPORTED), (.ref w_Type_LOCKED), (.ref w_Type_INQUIRE), (.ref w_Type_FAILED), (.ref w_Type_RELINQUISH), (.ref w_Type_TOKEN)] .null) (E_w_Type__VALUES : Exa Z h0 w_Type__VALUES "[Lcom/example/stile/stile/Message$Type;") (F_w_Type_REQUEST_code : Fld Z h0 w_Type_REQUEST "com/example/stile/stile/Message$Type" "code" "I" (.int (1 : Int32))) (F_w_Type_REPLY_code : Fld Z h0 w_Type_REPLY "com/example/stile/stile/Message$Type" "code" "I" (.int (2 : Int32))) (F_w_Type_HEARTBEAT_code : Fld Z h0 w_Type_HEARTBEAT "com/example/stile/stile/Message$Type" "code" "I" (.int (3 : Int32))) (F_w_Type_ELECTION_code : Fld Z h0 w_Type_ELECTION "com/example/stile/stile/Message$Type" "code" "I" (.int (4 : Int32))) (F_w_Type_ANSWER_code : Fld Z h0 w_Type_ANSWER "com/example/stile/stile/Message$Type" "code" "I" (.int (5 : Int32))) (F_w_Type_COORDINATOR_code : Fld Z h0 w_Type_COORDINATOR "com/example/stile/stile/Message$Type" "code" "I" (.int (6 : Int32))) (F_w_Type_GRANT_code : Fld Z h0 w_Type_GRANT "com/example/stile/stile/Message$Type" "code" "I" (.int (7 : Int32))) (F_w_Type_RELEASE_code : Fld Z h0 w_Type_RELEASE "com/example/stile/stile/Message$Type" "code" "I" (.int (8 : Int32))) (F_w_Type_HELD_code : Fld Z h0 w_Type_HELD "com/example/stile/stile/Message$Type" "code" "I" (.int (9 : Int32))) (F_w_Type_REPORTED_code : Fld Z h0 w_Type_REPORTED "com/example/stile/stile/Message$Type" "code" "I" (.int (10 : Int32))) (F_w_Type_LOCKED_code : Fld Z h0 w_Type_LOCKED "com/example/stile/stile/Message$Type" "code" "I" (.int (11 : Int32))) (F_w_Type_INQUIRE_code : Fld Z h0 w_Type_INQUIRE "com/example/stile/stile/Message$Type" "code" "I" (.int (12 : Int32))) (F_w_Type_FAILED_code : Fld Z h0 w_Type_FAILED "com/example/stile/stile/Message$Type" "code" "I" (.int (13 : Int32))) (F_w_Type_RELINQUISH_code : Fld Z h0 w_Type_RELINQUISH "com/example/stile/stile/Message$Type" "code" "I" (.int (14 : Int32))) (F_w_Type_TOKEN_code : Fld Z h0 w_Type_TOKEN "com/example/stile/stile/Message$Type" "code" "I" (.int (15 : Int32))) (E_w_Type_REQUEST : Exa Z h0 w_Type_REQUEST "com/example/stile/stile/Message$Type") (E_w_Type_REPLY : Exa Z h0 w_Type_REPLY "com/example/stile/stile/Message$Type") (E_w_Type_HEARTBEAT : Exa Z h0 w_Type_HEARTBEAT "com/example/stile/stile/Message$Type") (E_w_Type_ELECTION : Exa Z h0 w_Type_ELECTION "com/example/stile/stile/Message$Type") (E_w_Type_ANSWER : Exa Z h0 w_Type_ANSWER "com/example/stile/stile/Message$Type") (E_w_Type_COORDINATOR : Exa Z h0 w_Type_COORDINATOR "com/example/stile/stile/Message$Type") (E_w_Type_GRANT : Exa Z h0 w_Type_GRANT "com/example/stile/stile/Message$Type") (E_w_Type_RELEASE : Exa Z h0 w_Type_RELEASE "com/example/stile/stile/Message$Type") (E_w_Type_HELD : Exa Z h0 w_Type_HELD "com/example/stile/stile/Message$Type") (E_w_Type_REPORTED : Exa Z h0 w_Type_REPORTED "com/example/stile/stile/Message$Type") (E_w_Type_LOCKED : Exa Z h0 w_Type_LOCKED "com/example/stile/stile/Message$Type") (E_w_Type_INQUIRE : Exa Z h0 w_Type_INQUIRE "com/example/stile/stile/Message$Type") (E_w_Type_FAILED : Exa Z h0 w_Type_FAILED "com/example/stile/stile/Message$Type") (E_w_Type_RELINQUISH : Exa Z h0 w_Type_RELINQUISH "com/example/stile/stile/Message$Type") (E_w_Type_TOKEN : Exa Z h0 w_Type_TOKEN "com/example/stile/stile/Message$Type") :
    MetFree l x (head1 (Jvm.Cond.code x code maxLocals ret :: ws) room_1) (fun a U => a = #[(.int p0), (.int p1)] ∧ Z.Warmed39 U.vm ∧ U.heap = h0) (fun _ _ _ _ _ => True) (fun _ U o U' => ∃ v L, o = .returned v ∧ own_QL n0 v U'.heap L ∧ FrameEnd U o U' L room_1.cells room_1.slots) := by
  refine MetFree.of_bodySF (plainFor_of_name pn_1) hisR ?_
  intro p e s m args below meth c s₁ Bd hml0 hP hK
  obtain ⟨rfl, hZ, hh⟩ := hP
  have hx := Bd.exec
  have hby := Bd.bytes
  have hml : c.maxLocals = 5 := hml0
  have hown : s.vm.findClass "com/example/stile/stile/TypeOfPinLaw" = some m.cls := findClass_of_methodNamed Bd.named
  have hnm := (name_of_methodNamed Bd.named Bd.method).1
  have X0 : Stand p l e room_1 s m #[(.int p0), (.int p1)] below meth c s₁ [] 0 0 := Stand.of_body Bd
  have e0 : s₁.heap = h0 := by rw [← hh, Bd.state]; rfl
  have N0 := Fr.nil n0
  have pre0 : ∀ t, Steps p.tables e below (s₁.setTop (mkF m 0 #[iv p0, iv p1, .unset, .unset, .unset] [])) t → Steps p.tables e below (s₁.setTop (entryFrame m #[(.int p0), (.int p1)] maxLocals)) t := fun t k => castTop (ef_0_II m p0 p1) k
  obtain ⟨_, _, ⟨T1, L1, k1, n1⟩, -, X1, ⟨Lc1, hQ1, l1, y1, z1⟩, st1⟩ := Jvm.LawKit.callS X0 hx (y := (⟨"com/example/stile/stile/Message$Type", "of", "(I)Lcom/example/stile/stile/Message$Type;"⟩ : MethodName)) hown (mvT hZ (hw _ (List.mem_of_getElem? (i := 0) rfl))) (mvT hZ (hw _ (List.mem_of_getElem? (i := 1) rfl))) (mvT hZ (hw _ (List.mem_of_getElem? (i := 2) rfl))) (mvT hZ (hw _ (List.mem_of_getElem? (i := 3) rfl))) (by decide) (backOf (W := 0) (rk_found l Z a0 hw [] w_Type__VALUES w_Type_REQUEST w_Type_REPLY w_Type_HEARTBEAT w_Type_ELECTION w_Type_ANSWER w_Type_COORDINATOR w_Type_GRANT w_Type_RELEASE w_Type_HELD w_Type_REPORTED w_Type_LOCKED w_Type_INQUIRE w_Type_FAILED w_Type_RELINQUISH w_Type_TOKEN k_w_Type__VALUES (((p0 &&& (2147483647 : Int32)) % (18 : Int32)) - (1 : Int32)) h0 n0 Z0 hlo hhi S_Type__VALUES V_w_Type__VALUES E_w_Type__VALUES F_w_Type_REQUEST_code F_w_Type_REPLY_code F_w_Type_HEARTBEAT_code F_w_Type_ELECTION_code F_w_Type_ANSWER_code F_w_Type_COORDINATOR_code F_w_Type_GRANT_code F_w_Type_RELEASE_code F_w_Type_HELD_code F_w_Type_REPORTED_code F_w_Type_LOCKED_code F_w_Type_INQUIRE_code F_w_Type_FAILED_code F_w_Type_RELINQUISH_code F_w_Type_TOKEN_code E_w_Type_REQUEST E_w_Type_REPLY E_w_Type_HEARTBEAT E_w_Type_ELECTION E_w_Type_ANSWER E_w_Type_COORDINATOR E_w_Type_GRANT E_w_Type_RELEASE E_w_Type_HELD E_w_Type_REPORTED E_w_Type_LOCKED E_w_Type_INQUIRE E_w_Type_FAILED E_w_Type_RELINQUISH E_w_Type_TOKEN) hZ (hw _ (List.mem_of_getElem? (i := 3) rfl)) (hw _ (List.mem_of_getElem? (i := 2) rfl)) (by decide) (by decide)) (g := (mkF m 21 #[iv p0, iv p1, iv (((p0 &&& (2147483647 : Int32)) % (18 : Int32)) - (1 : Int32)), .unset, .unset] [(.int (((p0 &&& (2147483647 : Int32)) % (18 : Int32)) - (1 : Int32)))])) rfl (by rw [hml]; rfl) (argsL := [(.int (((p0 &&& (2147483647 : Int32)) % (18 : Int32)) - (1 : Int32)))]) (rest := []) (lenOf pd_1 rfl) rfl (by show 2 * 0 + _ ≤ _; exact Nat.le_of_eq rfl) (hb hby at_21) (fun _ _ => ⟨rfl, e0, (by decide : 0 + 1 ≤ _), (by decide : 0 + 15 ≤ _)⟩)
  dsimp only [Pt.U, Pt.locs, Pt.cells, Pt.slots] at X1 l1 y1 z1 st1 hQ1
  subst l1 y1 z1
  obtain ⟨b0_1, rfl, N1q, K1, E_b0_1, F_b0_1_code⟩ := hQ1
  have KK1 : Keep h0 T1.heap [] := (Keep.refl h0 []).trans K1 all0
  have Z1 : n0 ≤ T1.heap.size := Nat.le_trans Z0 K1.1
  have N1 := Fr.app N0 N1q
  obtain ⟨cq2, kq2, q2a, q2b, q2c⟩ := isOf hZ rfl E_b0_1
  obtain ⟨_, _, ⟨T2, L2, k2, n2⟩, -, X2, ⟨Lc2, hQ2, l2, y2, z2⟩, st2⟩ := X1.virtualBack hx (y := (⟨"com/example/stile/stile/Message$Type", "code", "()I"⟩ : MethodName)) (z := (⟨"com/example/stile/stile/Message$Type", "code", "()I"⟩ : MethodName)) hown (mvT hZ (hw _ (List.mem_of_getElem? (i := 36) rfl))) (mvT hZ (hw _ (List.mem_of_getElem? (i := 37) rfl))) (notFace_of_selects (args := #[]) (mvT hZ (hw _ (List.mem_of_getElem? (i := 39) rfl)))) (mvT hZ (hw _ (List.mem_of_getElem? (i := 39) rfl))) (mvT hZ (hw _ (List.mem_of_getElem? (i := 38) rfl))) (by decide) (backOf (W := 0) (rm3_1 l Z a0 hw [] p0 b0_1 T1.heap n0 Z1 F_b0_1_code) hZ (hw _ (List.mem_of_getElem? (i := 40) rfl)) (hw _ (List.mem_of_getElem? (i := 2) rfl)) (by decide) (by decide)) q2a q2c (g := (mkF m 63 #[iv p0, iv p1, iv (((p0 &&& (2147483647 : Int32)) % (18 : Int32)) - (1 : Int32)), rv b0_1, iv (1 : Int32)] [(.ref b0_1)])) rfl (by rw [hml]; rfl) (Steps.refl _) (argsL := []) (rest := []) (lenOf pd_2 rfl) rfl (by show 2 * 0 + _ ≤ _; exact Nat.le_of_eq rfl) (hb hby at_63) (fun _ _ => ⟨rfl, rfl, (by decide : 1 + 0 ≤ _), (by decide : 15 + 0 ≤ _)⟩)
  dsimp only [Pt.U, Pt.locs, Pt.cells, Pt.slots] at X2 l2 y2 z2 st2 hQ2
  subst l2 y2 z2
  obtain ⟨rfl, N2q, e2⟩ := hQ2
  have N2 := Fr.app N1 N2q
  obtain ⟨fs, hr, hrun, hended, hW, hsame⟩ := X2.leave (v := (some (.int (1 : Int32)))) (fun h => by rw [Bd.returns] at h; cases h)
  refine ⟨_, _, pre0 _ ?_, hrun, hended, _, _, rfl, ?_, ⟨_, rfl⟩, hW, hsame.mono (by decide) (by decide)⟩
  · show Steps p.tables e below (s₁.setTop (mkF m 0 #[iv p0, iv p1, .unset, .unset, .unset] [])) _
    refine XS.iloadN X0.here hx rfl (hb hby at_0) rfl ?_
    refine XS.iconst X0.here hx rfl (hb hby at_1) ?_
    refine XS.iand X0.here hx rfl (hb hby at_2) rfl ?_
    show Steps p.tables e below (s₁.setTop (mkF m 3 #[iv p0, iv p1, .unset, .unset, .unset] [(.int (p1 &&& (1 : Int32)))])) _
    rewrite [hk]
    refine XS.ifYes X0.here hx rfl (pc0 := 3) (pc' := 10) rfl (hb hby at_3) rfl ((if0 _ _).trans (teq (by decide +kernel : (0 : Int32) = (0 : Int32))).1) (by decide) (by decide) ?_
    refine XS.iloadN X0.here hx rfl (hb hby at_10) rfl ?_
    refine X0.ldcInt hx hown (mvT hZ (hw _ (List.mem_of_getElem? (i := 41) rfl))) (g := (mkF m 11 #[iv p0, iv p1, .unset, .unset, .unset] [(.int p0)])) rfl (hb hby at_11) _ ?_
    show Steps p.tables e below (s₁.setTop (mkF m 13 #[iv p0, iv p1, .unset, .unset, .unset] [(.int (2147483647 : Int32)), (.int p0)])) _
    refine XS.iand X0.here hx rfl (hb hby at_13) rfl ?_
    refine XS.bipush X0.here hx rfl (hb hby at_14) ?_
    refine iremM X0 hx rfl (hb hby at_16) rfl (by decide) ?_
    refine XS.iconst X0.here hx rfl (hb hby at_17) ?_
    refine XS.isub X0.here hx rfl (hb hby at_18) rfl ?_
    refine XS.istoreN X0.here hx rfl (hb hby at_19) rfl (l' := #[iv p0, iv p1, iv (((p0 &&& (2147483647 : Int32)) % (18 : Int32)) - (1 : Int32)), .unset, .unset]) rfl ?_
    show Steps p.tables e below (s₁.setTop (mkF m 20 #[iv p0, iv p1, iv (((p0 &&& (2147483647 : Int32)) % (18 : Int32)) - (1 : Int32)), .unset, .unset] [])) _
    refine XS.iloadN X0.here hx rfl (hb hby at_20) rfl ?_
    refine st1 _ ?_
    refine XS.astoreN X1.here hx rfl (hb hby at_24) rfl rfl (l' := #[iv p0, iv p1, iv (((p0 &&& (2147483647 : Int32)) % (18 : Int32)) - (1 : Int32)), rv b0_1, .unset]) rfl ?_
    refine XS.iloadN X1.here hx rfl (hb hby at_25) rfl ?_
    refine XS.iconst X1.here hx rfl (hb hby at_26) ?_
    refine XS.icmpNo X1.here hx rfl (hb hby at_27) rfl (flt hlo).1 ?_
    show Steps p.tables e below (T1.setTop (mkF m 30 #[iv p0, iv p1, iv (((p0 &&& (2147483647 : Int32)) % (18 : Int32)) - (1 : Int32)), rv b0_1, .unset] [])) _
    refine XS.iloadN X1.here hx rfl (hb hby at_30) rfl ?_
    refine XS.bipush X1.here hx rfl (hb hby at_31) ?_
    refine XS.icmpNo X1.here hx rfl (hb hby at_33) rfl (flt hhi).2.2.1 ?_
    refine XS.iconst X1.here hx rfl (hb hby at_36) ?_
    refine XS.goto X1.here hx rfl (pc0 := 37) (pc' := 41) rfl (hb hby at_37) (by decide) (by decide) ?_
    refine XS.istore X1.here hx rfl (hb hby at_41) rfl (l' := #[iv p0, iv p1, iv (((p0 &&& (2147483647 : Int32)) % (18 : Int32)) - (1 : Int32)), rv b0_1, iv (1 : Int32)]) rfl ?_
    show Steps p.tables e below (T1.setTop (mkF m 43 #[iv p0, iv p1, iv (((p0 &&& (2147483647 : Int32)) % (18 : Int32)) - (1 : Int32)), rv b0_1, iv (1 : Int32)] [])) _
    refine XS.iload X1.here hx rfl (hb hby at_43) rfl ?_
    refine XS.ifYes X1.here hx rfl (pc0 := 45) (pc' := 58) rfl (hb hby at_45) rfl ((if0 _ _).trans (feq (by decide +kernel : ¬ ((1 : Int32) = (0 : Int32)))).2) (by decide) (by decide) ?_
    refine XS.aloadN X1.here hx rfl (hb hby at_58) rfl rfl ?_
    refine XS.ifnullNo X1.here hx rfl (hb hby at_59) rfl ?_
    refine XS.aloadN X1.here hx rfl (hb hby at_62) rfl rfl ?_
    refine st2.trans ?_
    show Steps p.tables e below (T2.setTop (mkF m 66 #[iv p0, iv p1, iv (((p0 &&& (2147483647 : Int32)) % (18 : Int32)) - (1 : Int32)), rv b0_1, iv (1 : Int32)] [(.int (((p0 &&& (2147483647 : Int32)) % (18 : Int32)) - (1 : Int32)))])) _
    refine XS.iloadN X2.here hx rfl (hb hby at_66) rfl ?_
    refine XS.icmpNo X2.here hx rfl (hb hby at_67) rfl (teq (rfl : (((p0 &&& (2147483647 : Int32)) % (18 : Int32)) - (1 : Int32)) = (((p0 &&& (2147483647 : Int32)) % (18 : Int32)) - (1 : Int32)))).2 ?_
    refine XS.iconst X2.here hx rfl (hb hby at_70) ?_
    refine XS.goto X2.here hx rfl (pc0 := 71) (pc' := 75) rfl (hb hby at_71) (by decide) (by decide) ?_
    exact retN X2 hx (t := .boolean) Bd.returns (by simp) (hb hby at_75) hr
  · exact ⟨rfl, N2⟩
set_option maxRecDepth 65536 in
set_option maxHeartbeats 40000000 in
theorem rm0_1 (l : Launch) (Z : State) (a0 : Array Value) (hw : ∀ d ∈ tables_1, d.before a0 Z = true) (ws : List Jvm.Cond) (p0 : Int32) (p1 : Int32) (w_Type__VALUES : Addr) (w_Type_REQUEST : Addr) (w_Type_REPLY : Addr) (w_Type_HEARTBEAT : Addr) (w_Type_ELECTION : Addr) (w_Type_ANSWER : Addr) (w_Type_COORDINATOR : Addr) (w_Type_GRANT : Addr) (w_Type_RELEASE : Addr) (w_Type_HELD : Addr) (w_Type_REPORTED : Addr) (w_Type_LOCKED : Addr) (w_Type_INQUIRE : Addr) (w_Type_FAILED : Addr) (w_Type_RELINQUISH : Addr) (w_Type_TOKEN : Addr) (k_w_Type__VALUES : ClassId) (h0 : Heap) (n0 : Nat) (Z0 : n0 ≤ h0.size) (hk : (p1 &&& (1 : Int32)) = (0 : Int32)) (hout : (((p0 &&& (2147483647 : Int32)) % (18 : Int32)) - (1 : Int32)) < (1 : Int32) ∨ (15 : Int32) < (((p0 &&& (2147483647 : Int32)) % (18 : Int32)) - (1 : Int32))) (S_Type__VALUES : Sta Z h0 "com/example/stile/stile/Message$Type" "$VALUES" "[Lcom/example/stile/stile/Message$Type;" (.ref w_Type__VALUES)) (V_w_Type__VALUES : Arv Z h0 w_Type__VALUES k_w_Type__VALUES (.object "com/example/stile/stile/Message$Type") (15 : Int32) [(.ref w_Type_REQUEST), (.ref w_Type_REPLY), (.ref w_Type_HEARTBEAT), (.ref w_Type_ELECTION), (.ref w_Type_ANSWER), (.ref w_Type_COORDINATOR), (.ref w_Type_GRANT), (.ref w_Type_RELEASE), (.ref w_Type_HELD), (.ref w_Type_REPORTED), (.ref w_Type_LOCKED), (.ref w_Type_INQUIRE), (.ref w_Type_FAILED), (.ref w_Type_RELINQUISH), (.ref w_Type_TOKEN)] .null) (E_w_Type__VALUES : Exa Z h0 w_Type__VALUES "[Lcom/example/stile/stile/Message$Type;") (F_w_Type_REQUEST_code : Fld Z h0 w_Type_REQUEST "com/example/stile/stile/Message$Type" "code" "I" (.int (1 : Int32))) (F_w_Type_REPLY_code : Fld Z h0 w_Type_REPLY "com/example/stile/stile/Message$Type" "code" "I" (.int (2 : Int32))) (F_w_Type_HEARTBEAT_code : Fld Z h0 w_Type_HEARTBEAT "com/example/stile/stile/Message$Type" "code" "I" (.int (3 : Int32))) (F_w_Type_ELECTION_code : Fld Z h0 w_Type_ELECTION "com/example/stile/stile/Message$Type" "code" "I" (.int (4 : Int32))) (F_w_Type_ANSWER_code : Fld Z h0 w_Type_ANSWER "com/example/stile/stile/Message$Type" "code" "I" (.int (5 : Int32))) (F_w_Type_COORDINATOR_code : Fld Z h0 w_Type_COORDINATOR "com/example/stile/stile/Message$Type" "code" "I" (.int (6 : Int32))) (F_w_Type_GRANT_code : Fld Z h0 w_Type_GRANT "com/example/stile/stile/Message$Type" "code" "I" (.int (7 : Int32))) (F_w_Type_RELEASE_code : Fld Z h0 w_Type_RELEASE "com/example/stile/stile/Message$Type" "code" "I" (.int (8 : Int32))) (F_w_Type_HELD_code : Fld Z h0 w_Type_HELD "com/example/stile/stile/Message$Type" "code" "I" (.int (9 : Int32))) (F_w_Type_REPORTED_code : Fld Z h0 w_Type_REPORTED "com/example/stile/stile/Message$Type" "code" "I" (.int (10 : Int32))) (F_w_Type_LOCKED_code : Fld Z h0 w_Type_LOCKED "com/example/stile/stile/Message$Type" "code" "I" (.int (11 : Int32))) (F_w_Type_INQUIRE_code : Fld Z h0 w_Type_INQUIRE "com/example/stile/stile/Message$Type" "code" "I" (.int (12 : Int32))) (F_w_Type_FAILED_code : Fld Z h0 w_Type_FAILED "com/example/stile/stile/Message$Type" "code" "I" (.int (13 : Int32))) (F_w_Type_RELINQUISH_code : Fld Z h0 w_Type_RELINQUISH "com/example/stile/stile/Message$Type" "code" "I" (.int (14 : Int32))) (F_w_Type_TOKEN_code : Fld Z h0 w_Type_TOKEN "com/example/stile/stile/Message$Type" "code" "I" (.int (15 : Int32))) (hlo : (((p0 &&& (2147483647 : Int32)) % (18 : Int32)) - (1 : Int32)) < (1 : Int32)) :
    MetFree l x (head1 (Jvm.Cond.code x code maxLocals ret :: ws) room_1) (fun a U => a = #[(.int p0), (.int p1)] ∧ Z.Warmed39 U.vm ∧ U.heap = h0) (fun _ _ _ _ _ => True) (fun _ U o U' => ∃ v L, o = .returned v ∧ own_QL n0 v U'.heap L ∧ FrameEnd U o U' L room_1.cells room_1.slots) := by
  refine MetFree.of_bodySF (plainFor_of_name pn_1) hisR ?_
  intro p e s m args below meth c s₁ Bd hml0 hP hK
  obtain ⟨rfl, hZ, hh⟩ := hP
  have hx := Bd.exec
  have hby := Bd.bytes
  have hml : c.maxLocals = 5 := hml0
  have hown : s.vm.findClass "com/example/stile/stile/TypeOfPinLaw" = some m.cls := findClass_of_methodNamed Bd.named
  have hnm := (name_of_methodNamed Bd.named Bd.method).1
  have X0 : Stand p l e room_1 s m #[(.int p0), (.int p1)] below meth c s₁ [] 0 0 := Stand.of_body Bd
  have e0 : s₁.heap = h0 := by rw [← hh, Bd.state]; rfl
  have N0 := Fr.nil n0
  have pre0 : ∀ t, Steps p.tables e below (s₁.setTop (mkF m 0 #[iv p0, iv p1, .unset, .unset, .unset] [])) t → Steps p.tables e below (s₁.setTop (entryFrame m #[(.int p0), (.int p1)] maxLocals)) t := fun t k => castTop (ef_0_II m p0 p1) k
  obtain ⟨_, _, ⟨T1, L1, k1, n1⟩, -, X1, ⟨Lc1, hQ1, l1, y1, z1⟩, st1⟩ := Jvm.LawKit.callS X0 hx (y := (⟨"com/example/stile/stile/Message$Type", "of", "(I)Lcom/example/stile/stile/Message$Type;"⟩ : MethodName)) hown (mvT hZ (hw _ (List.mem_of_getElem? (i := 0) rfl))) (mvT hZ (hw _ (List.mem_of_getElem? (i := 1) rfl))) (mvT hZ (hw _ (List.mem_of_getElem? (i := 2) rfl))) (mvT hZ (hw _ (List.mem_of_getElem? (i := 3) rfl))) (by decide) (backOf (W := 0) (rk_none l Z a0 hw [] w_Type__VALUES w_Type_REQUEST w_Type_REPLY w_Type_HEARTBEAT w_Type_ELECTION w_Type_ANSWER w_Type_COORDINATOR w_Type_GRANT w_Type_RELEASE w_Type_HELD w_Type_REPORTED w_Type_LOCKED w_Type_INQUIRE w_Type_FAILED w_Type_RELINQUISH w_Type_TOKEN k_w_Type__VALUES (((p0 &&& (2147483647 : Int32)) % (18 : Int32)) - (1 : Int32)) h0 n0 Z0 hout S_Type__VALUES V_w_Type__VALUES E_w_Type__VALUES F_w_Type_REQUEST_code F_w_Type_REPLY_code F_w_Type_HEARTBEAT_code F_w_Type_ELECTION_code F_w_Type_ANSWER_code F_w_Type_COORDINATOR_code F_w_Type_GRANT_code F_w_Type_RELEASE_code F_w_Type_HELD_code F_w_Type_REPORTED_code F_w_Type_LOCKED_code F_w_Type_INQUIRE_code F_w_Type_FAILED_code F_w_Type_RELINQUISH_code F_w_Type_TOKEN_code) hZ (hw _ (List.mem_of_getElem? (i := 3) rfl)) (hw _ (List.mem_of_getElem? (i := 2) rfl)) (by decide) (by decide)) (g := (mkF m 21 #[iv p0, iv p1, iv (((p0 &&& (2147483647 : Int32)) % (18 : Int32)) - (1 : Int32)), .unset, .unset] [(.int (((p0 &&& (2147483647 : Int32)) % (18 : Int32)) - (1 : Int32)))])) rfl (by rw [hml]; rfl) (argsL := [(.int (((p0 &&& (2147483647 : Int32)) % (18 : Int32)) - (1 : Int32)))]) (rest := []) (lenOf pd_1 rfl) rfl (by show 2 * 0 + _ ≤ _; exact Nat.le_of_eq rfl) (hb hby at_21) (fun _ _ => ⟨rfl, e0, (by decide : 0 + 1 ≤ _), (by decide : 0 + 15 ≤ _)⟩)
  dsimp only [Pt.U, Pt.locs, Pt.cells, Pt.slots] at X1 l1 y1 z1 st1 hQ1
  subst l1 y1 z1
  obtain ⟨rfl, N1q, K1⟩ := hQ1
  have KK1 : Keep h0 T1.heap [] := (Keep.refl h0 []).trans K1 all0
  have Z1 : n0 ≤ T1.heap.size := Nat.le_trans Z0 K1.1
  have N1 := Fr.app N0 N1q
  obtain ⟨fs, hr, hrun, hended, hW, hsame⟩ := X1.leave (v := (some (.int (1 : Int32)))) (fun h => by rw [Bd.returns] at h; cases h)
  refine ⟨_, _, pre0 _ ?_, hrun, hended, _, _, rfl, ?_, ⟨_, rfl⟩, hW, hsame.mono (by decide) (by decide)⟩
  · show Steps p.tables e below (s₁.setTop (mkF m 0 #[iv p0, iv p1, .unset, .unset, .unset] [])) _
    refine XS.iloadN X0.here hx rfl (hb hby at_0) rfl ?_
    refine XS.iconst X0.here hx rfl (hb hby at_1) ?_
    refine XS.iand X0.here hx rfl (hb hby at_2) rfl ?_
    show Steps p.tables e below (s₁.setTop (mkF m 3 #[iv p0, iv p1, .unset, .unset, .unset] [(.int (p1 &&& (1 : Int32)))])) _
    rewrite [hk]
    refine XS.ifYes X0.here hx rfl (pc0 := 3) (pc' := 10) rfl (hb hby at_3) rfl ((if0 _ _).trans (teq (by decide +kernel : (0 : Int32) = (0 : Int32))).1) (by decide) (by decide) ?_
    refine XS.iloadN X0.here hx rfl (hb hby at_10) rfl ?_
    refine X0.ldcInt hx hown (mvT hZ (hw _ (List.mem_of_getElem? (i := 41) rfl))) (g := (mkF m 11 #[iv p0, iv p1, .unset, .unset, .unset] [(.int p0)])) rfl (hb hby at_11) _ ?_
    show Steps p.tables e below (s₁.setTop (mkF m 13 #[iv p0, iv p1, .unset, .unset, .unset] [(.int (2147483647 : Int32)), (.int p0)])) _
    refine XS.iand X0.here hx rfl (hb hby at_13) rfl ?_
    refine XS.bipush X0.here hx rfl (hb hby at_14) ?_
    refine iremM X0 hx rfl (hb hby at_16) rfl (by decide) ?_
    refine XS.iconst X0.here hx rfl (hb hby at_17) ?_
    refine XS.isub X0.here hx rfl (hb hby at_18) rfl ?_
    refine XS.istoreN X0.here hx rfl (hb hby at_19) rfl (l' := #[iv p0, iv p1, iv (((p0 &&& (2147483647 : Int32)) % (18 : Int32)) - (1 : Int32)), .unset, .unset]) rfl ?_
    show Steps p.tables e below (s₁.setTop (mkF m 20 #[iv p0, iv p1, iv (((p0 &&& (2147483647 : Int32)) % (18 : Int32)) - (1 : Int32)), .unset, .unset] [])) _
    refine XS.iloadN X0.here hx rfl (hb hby at_20) rfl ?_
    refine st1 _ ?_
    refine XS.astoreN X1.here hx rfl (hb hby at_24) rfl rfl (l' := #[iv p0, iv p1, iv (((p0 &&& (2147483647 : Int32)) % (18 : Int32)) - (1 : Int32)), .val .null, .unset]) rfl ?_
    refine XS.iloadN X1.here hx rfl (hb hby at_25) rfl ?_
    refine XS.iconst X1.here hx rfl (hb hby at_26) ?_
    refine XS.icmpYes X1.here hx rfl (pc0 := 27) (pc' := 40) rfl (hb hby at_27) rfl (tlt hlo).1 (by decide) (by decide) ?_
    show Steps p.tables e below (T1.setTop (mkF m 40 #[iv p0, iv p1, iv (((p0 &&& (2147483647 : Int32)) % (18 : Int32)) - (1 : Int32)), .val .null, .unset] [])) _
    refine XS.iconst X1.here hx rfl (hb hby at_40) ?_
    refine XS.istore X1.here hx rfl (hb hby at_41) rfl (l' := #[iv p0, iv p1, iv (((p0 &&& (2147483647 : Int32)) % (18 : Int32)) - (1 : Int32)), .val .null, iv (0 : Int32)]) rfl ?_
    refine XS.iload X1.here hx rfl (hb hby at_43) rfl ?_
    refine XS.ifNo X1.here hx rfl (hb hby at_45) rfl ((if0 _ _).trans (teq (by decide +kernel : (0 : Int32) = (0 : Int32))).2) ?_
    refine XS.aloadN X1.here hx rfl (hb hby at_48) rfl rfl ?_
    refine XS.ifnonnullNo X1.here hx rfl (hb hby at_49) rfl ?_
    show Steps p.tables e below (T1.setTop (mkF m 52 #[iv p0, iv p1, iv (((p0 &&& (2147483647 : Int32)) % (18 : Int32)) - (1 : Int32)), .val .null, iv (0 : Int32)] [])) _
    refine XS.iconst X1.here hx rfl (hb hby at_52) ?_
    refine XS.goto X1.here hx rfl (pc0 := 53) (pc' := 57) rfl (hb hby at_53) (by decide) (by decide) ?_
    exact retN X1 hx (t := .boolean) Bd.returns (by simp) (hb hby at_57) hr
  · exact ⟨rfl, N1⟩
set_option maxRecDepth 65536 in
set_option maxHeartbeats 40000000 in
theorem rm0_2 (l : Launch) (Z : State) (a0 : Array Value) (hw : ∀ d ∈ tables_1, d.before a0 Z = true) (ws : List Jvm.Cond) (p0 : Int32) (p1 : Int32) (w_Type__VALUES : Addr) (w_Type_REQUEST : Addr) (w_Type_REPLY : Addr) (w_Type_HEARTBEAT : Addr) (w_Type_ELECTION : Addr) (w_Type_ANSWER : Addr) (w_Type_COORDINATOR : Addr) (w_Type_GRANT : Addr) (w_Type_RELEASE : Addr) (w_Type_HELD : Addr) (w_Type_REPORTED : Addr) (w_Type_LOCKED : Addr) (w_Type_INQUIRE : Addr) (w_Type_FAILED : Addr) (w_Type_RELINQUISH : Addr) (w_Type_TOKEN : Addr) (k_w_Type__VALUES : ClassId) (h0 : Heap) (n0 : Nat) (Z0 : n0 ≤ h0.size) (hk : (p1 &&& (1 : Int32)) = (0 : Int32)) (hout : (((p0 &&& (2147483647 : Int32)) % (18 : Int32)) - (1 : Int32)) < (1 : Int32) ∨ (15 : Int32) < (((p0 &&& (2147483647 : Int32)) % (18 : Int32)) - (1 : Int32))) (S_Type__VALUES : Sta Z h0 "com/example/stile/stile/Message$Type" "$VALUES" "[Lcom/example/stile/stile/Message$Type;" (.ref w_Type__VALUES)) (V_w_Type__VALUES : Arv Z h0 w_Type__VALUES k_w_Type__VALUES (.object "com/example/stile/stile/Message$Type") (15 : Int32) [(.ref w_Type_REQUEST), (.ref w_Type_REPLY), (.ref w_Type_HEARTBEAT), (.ref w_Type_ELECTION), (.ref w_Type_ANSWER), (.ref w_Type_COORDINATOR), (.ref w_Type_GRANT), (.ref w_Type_RELEASE), (.ref w_Type_HELD), (.ref w_Type_REPORTED), (.ref w_Type_LOCKED), (.ref w_Type_INQUIRE), (.ref w_Type_FAILED), (.ref w_Type_RELINQUISH), (.ref w_Type_TOKEN)] .null) (E_w_Type__VALUES : Exa Z h0 w_Type__VALUES "[Lcom/example/stile/stile/Message$Type;") (F_w_Type_REQUEST_code : Fld Z h0 w_Type_REQUEST "com/example/stile/stile/Message$Type" "code" "I" (.int (1 : Int32))) (F_w_Type_REPLY_code : Fld Z h0 w_Type_REPLY "com/example/stile/stile/Message$Type" "code" "I" (.int (2 : Int32))) (F_w_Type_HEARTBEAT_code : Fld Z h0 w_Type_HEARTBEAT "com/example/stile/stile/Message$Type" "code" "I" (.int (3 : Int32))) (F_w_Type_ELECTION_code : Fld Z h0 w_Type_ELECTION "com/example/stile/stile/Message$Type" "code" "I" (.int (4 : Int32))) (F_w_Type_ANSWER_code : Fld Z h0 w_Type_ANSWER "com/example/stile/stile/Message$Type" "code" "I" (.int (5 : Int32))) (F_w_Type_COORDINATOR_code : Fld Z h0 w_Type_COORDINATOR "com/example/stile/stile/Message$Type" "code" "I" (.int (6 : Int32))) (F_w_Type_GRANT_code : Fld Z h0 w_Type_GRANT "com/example/stile/stile/Message$Type" "code" "I" (.int (7 : Int32))) (F_w_Type_RELEASE_code : Fld Z h0 w_Type_RELEASE "com/example/stile/stile/Message$Type" "code" "I" (.int (8 : Int32))) (F_w_Type_HELD_code : Fld Z h0 w_Type_HELD "com/example/stile/stile/Message$Type" "code" "I" (.int (9 : Int32))) (F_w_Type_REPORTED_code : Fld Z h0 w_Type_REPORTED "com/example/stile/stile/Message$Type" "code" "I" (.int (10 : Int32))) (F_w_Type_LOCKED_code : Fld Z h0 w_Type_LOCKED "com/example/stile/stile/Message$Type" "code" "I" (.int (11 : Int32))) (F_w_Type_INQUIRE_code : Fld Z h0 w_Type_INQUIRE "com/example/stile/stile/Message$Type" "code" "I" (.int (12 : Int32))) (F_w_Type_FAILED_code : Fld Z h0 w_Type_FAILED "com/example/stile/stile/Message$Type" "code" "I" (.int (13 : Int32))) (F_w_Type_RELINQUISH_code : Fld Z h0 w_Type_RELINQUISH "com/example/stile/stile/Message$Type" "code" "I" (.int (14 : Int32))) (F_w_Type_TOKEN_code : Fld Z h0 w_Type_TOKEN "com/example/stile/stile/Message$Type" "code" "I" (.int (15 : Int32))) (hlo : ¬ ((((p0 &&& (2147483647 : Int32)) % (18 : Int32)) - (1 : Int32)) < (1 : Int32))) (hhi : (15 : Int32) < (((p0 &&& (2147483647 : Int32)) % (18 : Int32)) - (1 : Int32))) :
    MetFree l x (head1 (Jvm.Cond.code x code maxLocals ret :: ws) room_1) (fun a U => a = #[(.int p0), (.int p1)] ∧ Z.Warmed39 U.vm ∧ U.heap = h0) (fun _ _ _ _ _ => True) (fun _ U o U' => ∃ v L, o = .returned v ∧ own_QL n0 v U'.heap L ∧ FrameEnd U o U' L room_1.cells room_1.slots) := by
  refine MetFree.of_bodySF (plainFor_of_name pn_1) hisR ?_
  intro p e s m args below meth c s₁ Bd hml0 hP hK
  obtain ⟨rfl, hZ, hh⟩ := hP
  have hx := Bd.exec
  have hby := Bd.bytes
  have hml : c.maxLocals = 5 := hml0
  have hown : s.vm.findClass "com/example/stile/stile/TypeOfPinLaw" = some m.cls := findClass_of_methodNamed Bd.named
  have hnm := (name_of_methodNamed Bd.named Bd.method).1
  have X0 : Stand p l e room_1 s m #[(.int p0), (.int p1)] below meth c s₁ [] 0 0 := Stand.of_body Bd
  have e0 : s₁.heap = h0 := by rw [← hh, Bd.state]; rfl
  have N0 := Fr.nil n0
  have pre0 : ∀ t, Steps p.tables e below (s₁.setTop (mkF m 0 #[iv p0, iv p1, .unset, .unset, .unset] [])) t → Steps p.tables e below (s₁.setTop (entryFrame m #[(.int p0), (.int p1)] maxLocals)) t := fun t k => castTop (ef_0_II m p0 p1) k
  obtain ⟨_, _, ⟨T1, L1, k1, n1⟩, -, X1, ⟨Lc1, hQ1, l1, y1, z1⟩, st1⟩ := Jvm.LawKit.callS X0 hx (y := (⟨"com/example/stile/stile/Message$Type", "of", "(I)Lcom/example/stile/stile/Message$Type;"⟩ : MethodName)) hown (mvT hZ (hw _ (List.mem_of_getElem? (i := 0) rfl))) (mvT hZ (hw _ (List.mem_of_getElem? (i := 1) rfl))) (mvT hZ (hw _ (List.mem_of_getElem? (i := 2) rfl))) (mvT hZ (hw _ (List.mem_of_getElem? (i := 3) rfl))) (by decide) (backOf (W := 0) (rk_none l Z a0 hw [] w_Type__VALUES w_Type_REQUEST w_Type_REPLY w_Type_HEARTBEAT w_Type_ELECTION w_Type_ANSWER w_Type_COORDINATOR w_Type_GRANT w_Type_RELEASE w_Type_HELD w_Type_REPORTED w_Type_LOCKED w_Type_INQUIRE w_Type_FAILED w_Type_RELINQUISH w_Type_TOKEN k_w_Type__VALUES (((p0 &&& (2147483647 : Int32)) % (18 : Int32)) - (1 : Int32)) h0 n0 Z0 hout S_Type__VALUES V_w_Type__VALUES E_w_Type__VALUES F_w_Type_REQUEST_code F_w_Type_REPLY_code F_w_Type_HEARTBEAT_code F_w_Type_ELECTION_code F_w_Type_ANSWER_code F_w_Type_COORDINATOR_code F_w_Type_GRANT_code F_w_Type_RELEASE_code F_w_Type_HELD_code F_w_Type_REPORTED_code F_w_Type_LOCKED_code F_w_Type_INQUIRE_code F_w_Type_FAILED_code F_w_Type_RELINQUISH_code F_w_Type_TOKEN_code) hZ (hw _ (List.mem_of_getElem? (i := 3) rfl)) (hw _ (List.mem_of_getElem? (i := 2) rfl)) (by decide) (by decide)) (g := (mkF m 21 #[iv p0, iv p1, iv (((p0 &&& (2147483647 : Int32)) % (18 : Int32)) - (1 : Int32)), .unset, .unset] [(.int (((p0 &&& (2147483647 : Int32)) % (18 : Int32)) - (1 : Int32)))])) rfl (by rw [hml]; rfl) (argsL := [(.int (((p0 &&& (2147483647 : Int32)) % (18 : Int32)) - (1 : Int32)))]) (rest := []) (lenOf pd_1 rfl) rfl (by show 2 * 0 + _ ≤ _; exact Nat.le_of_eq rfl) (hb hby at_21) (fun _ _ => ⟨rfl, e0, (by decide : 0 + 1 ≤ _), (by decide : 0 + 15 ≤ _)⟩)
  dsimp only [Pt.U, Pt.locs, Pt.cells, Pt.slots] at X1 l1 y1 z1 st1 hQ1
  subst l1 y1 z1
  obtain ⟨rfl, N1q, K1⟩ := hQ1
  have KK1 : Keep h0 T1.heap [] := (Keep.refl h0 []).trans K1 all0
  have Z1 : n0 ≤ T1.heap.size := Nat.le_trans Z0 K1.1
  have N1 := Fr.app N0 N1q
  obtain ⟨fs, hr, hrun, hended, hW, hsame⟩ := X1.leave (v := (some (.int (1 : Int32)))) (fun h => by rw [Bd.returns] at h; cases h)
  refine ⟨_, _, pre0 _ ?_, hrun, hended, _, _, rfl, ?_, ⟨_, rfl⟩, hW, hsame.mono (by decide) (by decide)⟩
  · show Steps p.tables e below (s₁.setTop (mkF m 0 #[iv p0, iv p1, .unset, .unset, .unset] [])) _
    refine XS.iloadN X0.here hx rfl (hb hby at_0) rfl ?_
    refine XS.iconst X0.here hx rfl (hb hby at_1) ?_
    refine XS.iand X0.here hx rfl (hb hby at_2) rfl ?_
    show Steps p.tables e below (s₁.setTop (mkF m 3 #[iv p0, iv p1, .unset, .unset, .unset] [(.int (p1 &&& (1 : Int32)))])) _
    rewrite [hk]
    refine XS.ifYes X0.here hx rfl (pc0 := 3) (pc' := 10) rfl (hb hby at_3) rfl ((if0 _ _).trans (teq (by decide +kernel : (0 : Int32) = (0 : Int32))).1) (by decide) (by decide) ?_
    refine XS.iloadN X0.here hx rfl (hb hby at_10) rfl ?_
    refine X0.ldcInt hx hown (mvT hZ (hw _ (List.mem_of_getElem? (i := 41) rfl))) (g := (mkF m 11 #[iv p0, iv p1, .unset, .unset, .unset] [(.int p0)])) rfl (hb hby at_11) _ ?_
    show Steps p.tables e below (s₁.setTop (mkF m 13 #[iv p0, iv p1, .unset, .unset, .unset] [(.int (2147483647 : Int32)), (.int p0)])) _
    refine XS.iand X0.here hx rfl (hb hby at_13) rfl ?_
    refine XS.bipush X0.here hx rfl (hb hby at_14) ?_
    refine iremM X0 hx rfl (hb hby at_16) rfl (by decide) ?_
    refine XS.iconst X0.here hx rfl (hb hby at_17) ?_
    refine XS.isub X0.here hx rfl (hb hby at_18) rfl ?_
    refine XS.istoreN X0.here hx rfl (hb hby at_19) rfl (l' := #[iv p0, iv p1, iv (((p0 &&& (2147483647 : Int32)) % (18 : Int32)) - (1 : Int32)), .unset, .unset]) rfl ?_
    show Steps p.tables e below (s₁.setTop (mkF m 20 #[iv p0, iv p1, iv (((p0 &&& (2147483647 : Int32)) % (18 : Int32)) - (1 : Int32)), .unset, .unset] [])) _
    refine XS.iloadN X0.here hx rfl (hb hby at_20) rfl ?_
    refine st1 _ ?_
    refine XS.astoreN X1.here hx rfl (hb hby at_24) rfl rfl (l' := #[iv p0, iv p1, iv (((p0 &&& (2147483647 : Int32)) % (18 : Int32)) - (1 : Int32)), .val .null, .unset]) rfl ?_
    refine XS.iloadN X1.here hx rfl (hb hby at_25) rfl ?_
    refine XS.iconst X1.here hx rfl (hb hby at_26) ?_
    refine XS.icmpNo X1.here hx rfl (hb hby at_27) rfl (flt hlo).1 ?_
    show Steps p.tables e below (T1.setTop (mkF m 30 #[iv p0, iv p1, iv (((p0 &&& (2147483647 : Int32)) % (18 : Int32)) - (1 : Int32)), .val .null, .unset] [])) _
    refine XS.iloadN X1.here hx rfl (hb hby at_30) rfl ?_
    refine XS.bipush X1.here hx rfl (hb hby at_31) ?_
    refine XS.icmpYes X1.here hx rfl (pc0 := 33) (pc' := 40) rfl (hb hby at_33) rfl (tlt hhi).2.2.1 (by decide) (by decide) ?_
    refine XS.iconst X1.here hx rfl (hb hby at_40) ?_
    refine XS.istore X1.here hx rfl (hb hby at_41) rfl (l' := #[iv p0, iv p1, iv (((p0 &&& (2147483647 : Int32)) % (18 : Int32)) - (1 : Int32)), .val .null, iv (0 : Int32)]) rfl ?_
    refine XS.iload X1.here hx rfl (hb hby at_43) rfl ?_
    show Steps p.tables e below (T1.setTop (mkF m 45 #[iv p0, iv p1, iv (((p0 &&& (2147483647 : Int32)) % (18 : Int32)) - (1 : Int32)), .val .null, iv (0 : Int32)] [(.int (0 : Int32))])) _
    refine XS.ifNo X1.here hx rfl (hb hby at_45) rfl ((if0 _ _).trans (teq (by decide +kernel : (0 : Int32) = (0 : Int32))).2) ?_
    refine XS.aloadN X1.here hx rfl (hb hby at_48) rfl rfl ?_
    refine XS.ifnonnullNo X1.here hx rfl (hb hby at_49) rfl ?_
    refine XS.iconst X1.here hx rfl (hb hby at_52) ?_
    refine XS.goto X1.here hx rfl (pc0 := 53) (pc' := 57) rfl (hb hby at_53) (by decide) (by decide) ?_
    exact retN X1 hx (t := .boolean) Bd.returns (by simp) (hb hby at_57) hr
  · exact ⟨rfl, N1⟩
set_option maxRecDepth 65536 in
set_option maxHeartbeats 40000000 in
theorem rm3_2 (l : Launch) (Z : State) (a0 : Array Value) (hw : ∀ d ∈ tables_1, d.before a0 Z = true) (ws : List Jvm.Cond) (p0 : Int32) (b0_1 : Addr) (h0 : Heap) (n0 : Nat) (Z0 : n0 ≤ h0.size) (F_b0_1_code : Fld Z h0 b0_1 "com/example/stile/stile/Message$Type" "code" "I" (.int p0)) :
    MetFree l (⟨"com/example/stile/stile/Message$Type", "code", "()I"⟩ : MethodName) (head1 (Jvm.Cond.code (⟨"com/example/stile/stile/Message$Type", "code", "()I"⟩ : MethodName) prog_48_method_5_code 1 (some .int) :: ws) ({ frames := 0, cells := 0, slots := 0, locals := 0 } : Room)) (fun a U => a = #[(.ref b0_1)] ∧ Z.Warmed39 U.vm ∧ U.heap = h0) (fun _ _ _ _ _ => True) (fun _ U o U' => ∃ v L, o = .returned v ∧ own_QP (some (.int p0)) h0 n0 v U'.heap L ∧ FrameEnd U o U' L ({ frames := 0, cells := 0, slots := 0, locals := 0 } : Room).cells ({ frames := 0, cells := 0, slots := 0, locals := 0 } : Room).slots) := by
  refine MetFree.of_bodySF (plainFor_of_name pn_0) hisR ?_
  intro p e s m args below meth c s₁ Bd hml0 hP hK
  obtain ⟨rfl, hZ, hh⟩ := hP
  have hx := Bd.exec
  have hby := Bd.bytes
  have hml : c.maxLocals = 1 := hml0
  have hown : s.vm.findClass "com/example/stile/stile/Message$Type" = some m.cls := findClass_of_methodNamed Bd.named
  have hnm := (name_of_methodNamed Bd.named Bd.method).1
  have X0 : Stand p l e ({ frames := 0, cells := 0, slots := 0, locals := 0 } : Room) s m #[(.ref b0_1)] below meth c s₁ [] 0 0 := Stand.of_body Bd
  have e0 : s₁.heap = h0 := by rw [← hh, Bd.state]; rfl
  have N0 := Fr.nil n0
  have pre0 : ∀ t, Steps p.tables e below (s₁.setTop (mkF m 0 #[rv b0_1] [])) t → Steps p.tables e below (s₁.setTop (entryFrame m #[(.ref b0_1)] 1)) t := fun t k => castTop (ef_3_R m b0_1) k
  obtain ⟨T1, X1, e1, st1⟩ := getF X0 hx hZ hown (host := "") (Or.inl (hw _ (List.mem_of_getElem? (i := 34) rfl))) Via.refl e0 F_b0_1_code (g := (mkF m 1 #[rv b0_1] [(.ref b0_1)])) rfl rfl (hb hby d3_1)
  obtain ⟨fs, hr, hrun, hended, hW, hsame⟩ := X1.leave (v := (some (.int p0))) (fun h => by rw [Bd.returns] at h; cases h)
  refine ⟨_, _, pre0 _ ?_, hrun, hended, _, _, rfl, ?_, ⟨_, rfl⟩, hW, hsame.mono (by decide) (by decide)⟩
  · show Steps p.tables e below (s₁.setTop (mkF m 0 #[rv b0_1] [])) _
    refine XS.aloadN X0.here hx rfl (hb hby d3_0) rfl rfl ?_
    refine st1 _ ?_
    exact retI X1 hx Bd.returns (hb hby d3_4) hr
  · exact ⟨rfl, N0, e1⟩
set_option maxRecDepth 65536 in
set_option maxHeartbeats 40000000 in
theorem rm0_3 (l : Launch) (Z : State) (a0 : Array Value) (hw : ∀ d ∈ tables_1, d.before a0 Z = true) (ws : List Jvm.Cond) (p0 : Int32) (p1 : Int32) (w_Type__VALUES : Addr) (w_Type_REQUEST : Addr) (w_Type_REPLY : Addr) (w_Type_HEARTBEAT : Addr) (w_Type_ELECTION : Addr) (w_Type_ANSWER : Addr) (w_Type_COORDINATOR : Addr) (w_Type_GRANT : Addr) (w_Type_RELEASE : Addr) (w_Type_HELD : Addr) (w_Type_REPORTED : Addr) (w_Type_LOCKED : Addr) (w_Type_INQUIRE : Addr) (w_Type_FAILED : Addr) (w_Type_RELINQUISH : Addr) (w_Type_TOKEN : Addr) (k_w_Type__VALUES : ClassId) (h0 : Heap) (n0 : Nat) (Z0 : n0 ≤ h0.size) (hk : (p1 &&& (1 : Int32)) = (1 : Int32)) (hlo : ¬ (p0 < (1 : Int32))) (hhi : ¬ ((15 : Int32) < p0)) (S_Type__VALUES : Sta Z h0 "com/example/stile/stile/Message$Type" "$VALUES" "[Lcom/example/stile/stile/Message$Type;" (.ref w_Type__VALUES)) (V_w_Type__VALUES : Arv Z h0 w_Type__VALUES k_w_Type__VALUES (.object "com/example/stile/stile/Message$Type") (15 : Int32) [(.ref w_Type_REQUEST), (.ref w_Type_REPLY), (.ref w_Type_HEARTBEAT), (.ref w_Type_ELECTION), (.ref w_Type_ANSWER), (.ref w_Type_COORDINATOR), (.ref w_Type_GRANT), (.ref w_Type_RELEASE), (.ref w_Type_HELD), (.ref w_Type_REPORTED), (.ref w_Type_LOCKED), (.ref w_Type_INQUIRE), (.ref w_Type_FAILED), (.ref w_Type_RELINQUISH), (.ref w_Type_TOKEN)] .null) (E_w_Type__VALUES : Exa Z h0 w_Type__VALUES "[Lcom/example/stile/stile/Message$Type;") (F_w_Type_REQUEST_code : Fld Z h0 w_Type_REQUEST "com/example/stile/stile/Message$Type" "code" "I" (.int (1 : Int32))) (F_w_Type_REPLY_code : Fld Z h0 w_Type_REPLY "com/example/stile/stile/Message$Type" "code" "I" (.int (2 : Int32))) (F_w_Type_HEARTBEAT_code : Fld Z h0 w_Type_HEARTBEAT "com/example/stile/stile/Message$Type" "code" "I" (.int (3 : Int32))) (F_w_Type_ELECTION_code : Fld Z h0 w_Type_ELECTION "com/example/stile/stile/Message$Type" "code" "I" (.int (4 : Int32))) (F_w_Type_ANSWER_code : Fld Z h0 w_Type_ANSWER "com/example/stile/stile/Message$Type" "code" "I" (.int (5 : Int32))) (F_w_Type_COORDINATOR_code : Fld Z h0 w_Type_COORDINATOR "com/example/stile/stile/Message$Type" "code" "I" (.int (6 : Int32))) (F_w_Type_GRANT_code : Fld Z h0 w_Type_GRANT "com/example/stile/stile/Message$Type" "code" "I" (.int (7 : Int32))) (F_w_Type_RELEASE_code : Fld Z h0 w_Type_RELEASE "com/example/stile/stile/Message$Type" "code" "I" (.int (8 : Int32))) (F_w_Type_HELD_code : Fld Z h0 w_Type_HELD "com/example/stile/stile/Message$Type" "code" "I" (.int (9 : Int32))) (F_w_Type_REPORTED_code : Fld Z h0 w_Type_REPORTED "com/example/stile/stile/Message$Type" "code" "I" (.int (10 : Int32))) (F_w_Type_LOCKED_code : Fld Z h0 w_Type_LOCKED "com/example/stile/stile/Message$Type" "code" "I" (.int (11 : Int32))) (F_w_Type_INQUIRE_code : Fld Z h0 w_Type_INQUIRE "com/example/stile/stile/Message$Type" "code" "I" (.int (12 : Int32))) (F_w_Type_FAILED_code : Fld Z h0 w_Type_FAILED "com/example/stile/stile/Message$Type" "code" "I" (.int (13 : Int32))) (F_w_Type_RELINQUISH_code : Fld Z h0 w_Type_RELINQUISH "com/example/stile/stile/Message$Type" "code" "I" (.int (14 : Int32))) (F_w_Type_TOKEN_code : Fld Z h0 w_Type_TOKEN "com/example/stile/stile/Message$Type" "code" "I" (.int (15 : Int32))) (E_w_Type_REQUEST : Exa Z h0 w_Type_REQUEST "com/example/stile/stile/Message$Type") (E_w_Type_REPLY : Exa Z h0 w_Type_REPLY "com/example/stile/stile/Message$Type") (E_w_Type_HEARTBEAT : Exa Z h0 w_Type_HEARTBEAT "com/example/stile/stile/Message$Type") (E_w_Type_ELECTION : Exa Z h0 w_Type_ELECTION "com/example/stile/stile/Message$Type") (E_w_Type_ANSWER : Exa Z h0 w_Type_ANSWER "com/example/stile/stile/Message$Type") (E_w_Type_COORDINATOR : Exa Z h0 w_Type_COORDINATOR "com/example/stile/stile/Message$Type") (E_w_Type_GRANT : Exa Z h0 w_Type_GRANT "com/example/stile/stile/Message$Type") (E_w_Type_RELEASE : Exa Z h0 w_Type_RELEASE "com/example/stile/stile/Message$Type") (E_w_Type_HELD : Exa Z h0 w_Type_HELD "com/example/stile/stile/Message$Type") (E_w_Type_REPORTED : Exa Z h0 w_Type_REPORTED "com/example/stile/stile/Message$Type") (E_w_Type_LOCKED : Exa Z h0 w_Type_LOCKED "com/example/stile/stile/Message$Type") (E_w_Type_INQUIRE : Exa Z h0 w_Type_INQUIRE "com/example/stile/stile/Message$Type") (E_w_Type_FAILED : Exa Z h0 w_Type_FAILED "com/example/stile/stile/Message$Type") (E_w_Type_RELINQUISH : Exa Z h0 w_Type_RELINQUISH "com/example/stile/stile/Message$Type") (E_w_Type_TOKEN : Exa Z h0 w_Type_TOKEN "com/example/stile/stile/Message$Type") :
    MetFree l x (head1 (Jvm.Cond.code x code maxLocals ret :: ws) room_1) (fun a U => a = #[(.int p0), (.int p1)] ∧ Z.Warmed39 U.vm ∧ U.heap = h0) (fun _ _ _ _ _ => True) (fun _ U o U' => ∃ v L, o = .returned v ∧ own_QL n0 v U'.heap L ∧ FrameEnd U o U' L room_1.cells room_1.slots) := by
  refine MetFree.of_bodySF (plainFor_of_name pn_1) hisR ?_
  intro p e s m args below meth c s₁ Bd hml0 hP hK
  obtain ⟨rfl, hZ, hh⟩ := hP
  have hx := Bd.exec
  have hby := Bd.bytes
  have hml : c.maxLocals = 5 := hml0
  have hown : s.vm.findClass "com/example/stile/stile/TypeOfPinLaw" = some m.cls := findClass_of_methodNamed Bd.named
  have hnm := (name_of_methodNamed Bd.named Bd.method).1
  have X0 : Stand p l e room_1 s m #[(.int p0), (.int p1)] below meth c s₁ [] 0 0 := Stand.of_body Bd
  have e0 : s₁.heap = h0 := by rw [← hh, Bd.state]; rfl
  have N0 := Fr.nil n0
  have pre0 : ∀ t, Steps p.tables e below (s₁.setTop (mkF m 0 #[iv p0, iv p1, .unset, .unset, .unset] [])) t → Steps p.tables e below (s₁.setTop (entryFrame m #[(.int p0), (.int p1)] maxLocals)) t := fun t k => castTop (ef_0_II m p0 p1) k
  obtain ⟨_, _, ⟨T1, L1, k1, n1⟩, -, X1, ⟨Lc1, hQ1, l1, y1, z1⟩, st1⟩ := Jvm.LawKit.callS X0 hx (y := (⟨"com/example/stile/stile/Message$Type", "of", "(I)Lcom/example/stile/stile/Message$Type;"⟩ : MethodName)) hown (mvT hZ (hw _ (List.mem_of_getElem? (i := 0) rfl))) (mvT hZ (hw _ (List.mem_of_getElem? (i := 1) rfl))) (mvT hZ (hw _ (List.mem_of_getElem? (i := 2) rfl))) (mvT hZ (hw _ (List.mem_of_getElem? (i := 3) rfl))) (by decide) (backOf (W := 0) (rk_found l Z a0 hw [] w_Type__VALUES w_Type_REQUEST w_Type_REPLY w_Type_HEARTBEAT w_Type_ELECTION w_Type_ANSWER w_Type_COORDINATOR w_Type_GRANT w_Type_RELEASE w_Type_HELD w_Type_REPORTED w_Type_LOCKED w_Type_INQUIRE w_Type_FAILED w_Type_RELINQUISH w_Type_TOKEN k_w_Type__VALUES p0 h0 n0 Z0 hlo hhi S_Type__VALUES V_w_Type__VALUES E_w_Type__VALUES F_w_Type_REQUEST_code F_w_Type_REPLY_code F_w_Type_HEARTBEAT_code F_w_Type_ELECTION_code F_w_Type_ANSWER_code F_w_Type_COORDINATOR_code F_w_Type_GRANT_code F_w_Type_RELEASE_code F_w_Type_HELD_code F_w_Type_REPORTED_code F_w_Type_LOCKED_code F_w_Type_INQUIRE_code F_w_Type_FAILED_code F_w_Type_RELINQUISH_code F_w_Type_TOKEN_code E_w_Type_REQUEST E_w_Type_REPLY E_w_Type_HEARTBEAT E_w_Type_ELECTION E_w_Type_ANSWER E_w_Type_COORDINATOR E_w_Type_GRANT E_w_Type_RELEASE E_w_Type_HELD E_w_Type_REPORTED E_w_Type_LOCKED E_w_Type_INQUIRE E_w_Type_FAILED E_w_Type_RELINQUISH E_w_Type_TOKEN) hZ (hw _ (List.mem_of_getElem? (i := 3) rfl)) (hw _ (List.mem_of_getElem? (i := 2) rfl)) (by decide) (by decide)) (g := (mkF m 21 #[iv p0, iv p1, iv p0, .unset, .unset] [(.int p0)])) rfl (by rw [hml]; rfl) (argsL := [(.int p0)]) (rest := []) (lenOf pd_1 rfl) rfl (by show 2 * 0 + _ ≤ _; exact Nat.le_of_eq rfl) (hb hby at_21) (fun _ _ => ⟨rfl, e0, (by decide : 0 + 1 ≤ _), (by decide : 0 + 15 ≤ _)⟩)
  dsimp only [Pt.U, Pt.locs, Pt.cells, Pt.slots] at X1 l1 y1 z1 st1 hQ1
  subst l1 y1 z1
  obtain ⟨b0_1, rfl, N1q, K1, E_b0_1, F_b0_1_code⟩ := hQ1
  have KK1 : Keep h0 T1.heap [] := (Keep.refl h0 []).trans K1 all0
  have Z1 : n0 ≤ T1.heap.size := Nat.le_trans Z0 K1.1
  have N1 := Fr.app N0 N1q
  obtain ⟨cq2, kq2, q2a, q2b, q2c⟩ := isOf hZ rfl E_b0_1
  obtain ⟨_, _, ⟨T2, L2, k2, n2⟩, -, X2, ⟨Lc2, hQ2, l2, y2, z2⟩, st2⟩ := X1.virtualBack hx (y := (⟨"com/example/stile/stile/Message$Type", "code", "()I"⟩ : MethodName)) (z := (⟨"com/example/stile/stile/Message$Type", "code", "()I"⟩ : MethodName)) hown (mvT hZ (hw _ (List.mem_of_getElem? (i := 36) rfl))) (mvT hZ (hw _ (List.mem_of_getElem? (i := 37) rfl))) (notFace_of_selects (args := #[]) (mvT hZ (hw _ (List.mem_of_getElem? (i := 39) rfl)))) (mvT hZ (hw _ (List.mem_of_getElem? (i := 39) rfl))) (mvT hZ (hw _ (List.mem_of_getElem? (i := 38) rfl))) (by decide) (backOf (W := 0) (rm3_2 l Z a0 hw [] p0 b0_1 T1.heap n0 Z1 F_b0_1_code) hZ (hw _ (List.mem_of_getElem? (i := 40) rfl)) (hw _ (List.mem_of_getElem? (i := 2) rfl)) (by decide) (by decide)) q2a q2c (g := (mkF m 63 #[iv p0, iv p1, iv p0, rv b0_1, iv (1 : Int32)] [(.ref b0_1)])) rfl (by rw [hml]; rfl) (Steps.refl _) (argsL := []) (rest := []) (lenOf pd_2 rfl) rfl (by show 2 * 0 + _ ≤ _; exact Nat.le_of_eq rfl) (hb hby at_63) (fun _ _ => ⟨rfl, rfl, (by decide : 1 + 0 ≤ _), (by decide : 15 + 0 ≤ _)⟩)
  dsimp only [Pt.U, Pt.locs, Pt.cells, Pt.slots] at X2 l2 y2 z2 st2 hQ2
  subst l2 y2 z2
  obtain ⟨rfl, N2q, e2⟩ := hQ2
  have N2 := Fr.app N1 N2q
  obtain ⟨fs, hr, hrun, hended, hW, hsame⟩ := X2.leave (v := (some (.int (1 : Int32)))) (fun h => by rw [Bd.returns] at h; cases h)
  refine ⟨_, _, pre0 _ ?_, hrun, hended, _, _, rfl, ?_, ⟨_, rfl⟩, hW, hsame.mono (by decide) (by decide)⟩
  · show Steps p.tables e below (s₁.setTop (mkF m 0 #[iv p0, iv p1, .unset, .unset, .unset] [])) _
    refine XS.iloadN X0.here hx rfl (hb hby at_0) rfl ?_
    refine XS.iconst X0.here hx rfl (hb hby at_1) ?_
    refine XS.iand X0.here hx rfl (hb hby at_2) rfl ?_
    show Steps p.tables e below (s₁.setTop (mkF m 3 #[iv p0, iv p1, .unset, .unset, .unset] [(.int (p1 &&& (1 : Int32)))])) _
    rewrite [hk]
    refine XS.ifNo X0.here hx rfl (hb hby at_3) rfl ((if0 _ _).trans (feq (by decide +kernel : ¬ ((1 : Int32) = (0 : Int32)))).1) ?_
    refine XS.iloadN X0.here hx rfl (hb hby at_6) rfl ?_
    refine XS.goto X0.here hx rfl (pc0 := 7) (pc' := 19) rfl (hb hby at_7) (by decide) (by decide) ?_
    show Steps p.tables e below (s₁.setTop (mkF m 19 #[iv p0, iv p1, .unset, .unset, .unset] [(.int p0)])) _
    refine XS.istoreN X0.here hx rfl (hb hby at_19) rfl (l' := #[iv p0, iv p1, iv p0, .unset, .unset]) rfl ?_
    refine XS.iloadN X0.here hx rfl (hb hby at_20) rfl ?_
    refine st1 _ ?_
    refine XS.astoreN X1.here hx rfl (hb hby at_24) rfl rfl (l' := #[iv p0, iv p1, iv p0, rv b0_1, .unset]) rfl ?_
    refine XS.iloadN X1.here hx rfl (hb hby at_25) rfl ?_
    refine XS.iconst X1.here hx rfl (hb hby at_26) ?_
    show Steps p.tables e below (T1.setTop (mkF m 27 #[iv p0, iv p1, iv p0, rv b0_1, .unset] [(.int (1 : Int32)), (.int p0)])) _
    refine XS.icmpNo X1.here hx rfl (hb hby at_27) rfl (flt hlo).1 ?_
    refine XS.iloadN X1.here hx rfl (hb hby at_30) rfl ?_
    refine XS.bipush X1.here hx rfl (hb hby at_31) ?_
    refine XS.icmpNo X1.here hx rfl (hb hby at_33) rfl (flt hhi).2.2.1 ?_
    refine XS.iconst X1.here hx rfl (hb hby at_36) ?_
    refine XS.goto X1.here hx rfl (pc0 := 37) (pc' := 41) rfl (hb hby at_37) (by decide) (by decide) ?_
    show Steps p.tables e below (T1.setTop (mkF m 41 #[iv p0, iv p1, iv p0, rv b0_1, .unset] [(.int (1 : Int32))])) _
    refine XS.istore X1.here hx rfl (hb hby at_41) rfl (l' := #[iv p0, iv p1, iv p0, rv b0_1, iv (1 : Int32)]) rfl ?_
    refine XS.iload X1.here hx rfl (hb hby at_43) rfl ?_
    refine XS.ifYes X1.here hx rfl (pc0 := 45) (pc' := 58) rfl (hb hby at_45) rfl ((if0 _ _).trans (feq (by decide +kernel : ¬ ((1 : Int32) = (0 : Int32)))).2) (by decide) (by decide) ?_
    refine XS.aloadN X1.here hx rfl (hb hby at_58) rfl rfl ?_
    refine XS.ifnullNo X1.here hx rfl (hb hby at_59) rfl ?_
    refine XS.aloadN X1.here hx rfl (hb hby at_62) rfl rfl ?_
    show Steps p.tables e below (T1.setTop (mkF m 63 #[iv p0, iv p1, iv p0, rv b0_1, iv (1 : Int32)] [(.ref b0_1)])) _
    refine st2.trans ?_
    refine XS.iloadN X2.here hx rfl (hb hby at_66) rfl ?_
    refine XS.icmpNo X2.here hx rfl (hb hby at_67) rfl (teq (rfl : p0 = p0)).2 ?_
    refine XS.iconst X2.here hx rfl (hb hby at_70) ?_
    refine XS.goto X2.here hx rfl (pc0 := 71) (pc' := 75) rfl (hb hby at_71) (by decide) (by decide) ?_
    exact retN X2 hx (t := .boolean) Bd.returns (by simp) (hb hby at_75) hr
  · exact ⟨rfl, N2⟩
set_option maxRecDepth 65536 in
set_option maxHeartbeats 40000000 in
theorem rm0_4 (l : Launch) (Z : State) (a0 : Array Value) (hw : ∀ d ∈ tables_1, d.before a0 Z = true) (ws : List Jvm.Cond) (p0 : Int32) (p1 : Int32) (w_Type__VALUES : Addr) (w_Type_REQUEST : Addr) (w_Type_REPLY : Addr) (w_Type_HEARTBEAT : Addr) (w_Type_ELECTION : Addr) (w_Type_ANSWER : Addr) (w_Type_COORDINATOR : Addr) (w_Type_GRANT : Addr) (w_Type_RELEASE : Addr) (w_Type_HELD : Addr) (w_Type_REPORTED : Addr) (w_Type_LOCKED : Addr) (w_Type_INQUIRE : Addr) (w_Type_FAILED : Addr) (w_Type_RELINQUISH : Addr) (w_Type_TOKEN : Addr) (k_w_Type__VALUES : ClassId) (h0 : Heap) (n0 : Nat) (Z0 : n0 ≤ h0.size) (hk : (p1 &&& (1 : Int32)) = (1 : Int32)) (hout : p0 < (1 : Int32) ∨ (15 : Int32) < p0) (S_Type__VALUES : Sta Z h0 "com/example/stile/stile/Message$Type" "$VALUES" "[Lcom/example/stile/stile/Message$Type;" (.ref w_Type__VALUES)) (V_w_Type__VALUES : Arv Z h0 w_Type__VALUES k_w_Type__VALUES (.object "com/example/stile/stile/Message$Type") (15 : Int32) [(.ref w_Type_REQUEST), (.ref w_Type_REPLY), (.ref w_Type_HEARTBEAT), (.ref w_Type_ELECTION), (.ref w_Type_ANSWER), (.ref w_Type_COORDINATOR), (.ref w_Type_GRANT), (.ref w_Type_RELEASE), (.ref w_Type_HELD), (.ref w_Type_REPORTED), (.ref w_Type_LOCKED), (.ref w_Type_INQUIRE), (.ref w_Type_FAILED), (.ref w_Type_RELINQUISH), (.ref w_Type_TOKEN)] .null) (E_w_Type__VALUES : Exa Z h0 w_Type__VALUES "[Lcom/example/stile/stile/Message$Type;") (F_w_Type_REQUEST_code : Fld Z h0 w_Type_REQUEST "com/example/stile/stile/Message$Type" "code" "I" (.int (1 : Int32))) (F_w_Type_REPLY_code : Fld Z h0 w_Type_REPLY "com/example/stile/stile/Message$Type" "code" "I" (.int (2 : Int32))) (F_w_Type_HEARTBEAT_code : Fld Z h0 w_Type_HEARTBEAT "com/example/stile/stile/Message$Type" "code" "I" (.int (3 : Int32))) (F_w_Type_ELECTION_code : Fld Z h0 w_Type_ELECTION "com/example/stile/stile/Message$Type" "code" "I" (.int (4 : Int32))) (F_w_Type_ANSWER_code : Fld Z h0 w_Type_ANSWER "com/example/stile/stile/Message$Type" "code" "I" (.int (5 : Int32))) (F_w_Type_COORDINATOR_code : Fld Z h0 w_Type_COORDINATOR "com/example/stile/stile/Message$Type" "code" "I" (.int (6 : Int32))) (F_w_Type_GRANT_code : Fld Z h0 w_Type_GRANT "com/example/stile/stile/Message$Type" "code" "I" (.int (7 : Int32))) (F_w_Type_RELEASE_code : Fld Z h0 w_Type_RELEASE "com/example/stile/stile/Message$Type" "code" "I" (.int (8 : Int32))) (F_w_Type_HELD_code : Fld Z h0 w_Type_HELD "com/example/stile/stile/Message$Type" "code" "I" (.int (9 : Int32))) (F_w_Type_REPORTED_code : Fld Z h0 w_Type_REPORTED "com/example/stile/stile/Message$Type" "code" "I" (.int (10 : Int32))) (F_w_Type_LOCKED_code : Fld Z h0 w_Type_LOCKED "com/example/stile/stile/Message$Type" "code" "I" (.int (11 : Int32))) (F_w_Type_INQUIRE_code : Fld Z h0 w_Type_INQUIRE "com/example/stile/stile/Message$Type" "code" "I" (.int (12 : Int32))) (F_w_Type_FAILED_code : Fld Z h0 w_Type_FAILED "com/example/stile/stile/Message$Type" "code" "I" (.int (13 : Int32))) (F_w_Type_RELINQUISH_code : Fld Z h0 w_Type_RELINQUISH "com/example/stile/stile/Message$Type" "code" "I" (.int (14 : Int32))) (F_w_Type_TOKEN_code : Fld Z h0 w_Type_TOKEN "com/example/stile/stile/Message$Type" "code" "I" (.int (15 : Int32))) (hlo : p0 < (1 : Int32)) :
    MetFree l x (head1 (Jvm.Cond.code x code maxLocals ret :: ws) room_1) (fun a U => a = #[(.int p0), (.int p1)] ∧ Z.Warmed39 U.vm ∧ U.heap = h0) (fun _ _ _ _ _ => True) (fun _ U o U' => ∃ v L, o = .returned v ∧ own_QL n0 v U'.heap L ∧ FrameEnd U o U' L room_1.cells room_1.slots) := by
  refine MetFree.of_bodySF (plainFor_of_name pn_1) hisR ?_
  intro p e s m args below meth c s₁ Bd hml0 hP hK
  obtain ⟨rfl, hZ, hh⟩ := hP
  have hx := Bd.exec
  have hby := Bd.bytes
  have hml : c.maxLocals = 5 := hml0
  have hown : s.vm.findClass "com/example/stile/stile/TypeOfPinLaw" = some m.cls := findClass_of_methodNamed Bd.named
  have hnm := (name_of_methodNamed Bd.named Bd.method).1
  have X0 : Stand p l e room_1 s m #[(.int p0), (.int p1)] below meth c s₁ [] 0 0 := Stand.of_body Bd
  have e0 : s₁.heap = h0 := by rw [← hh, Bd.state]; rfl
  have N0 := Fr.nil n0
  have pre0 : ∀ t, Steps p.tables e below (s₁.setTop (mkF m 0 #[iv p0, iv p1, .unset, .unset, .unset] [])) t → Steps p.tables e below (s₁.setTop (entryFrame m #[(.int p0), (.int p1)] maxLocals)) t := fun t k => castTop (ef_0_II m p0 p1) k
  obtain ⟨_, _, ⟨T1, L1, k1, n1⟩, -, X1, ⟨Lc1, hQ1, l1, y1, z1⟩, st1⟩ := Jvm.LawKit.callS X0 hx (y := (⟨"com/example/stile/stile/Message$Type", "of", "(I)Lcom/example/stile/stile/Message$Type;"⟩ : MethodName)) hown (mvT hZ (hw _ (List.mem_of_getElem? (i := 0) rfl))) (mvT hZ (hw _ (List.mem_of_getElem? (i := 1) rfl))) (mvT hZ (hw _ (List.mem_of_getElem? (i := 2) rfl))) (mvT hZ (hw _ (List.mem_of_getElem? (i := 3) rfl))) (by decide) (backOf (W := 0) (rk_none l Z a0 hw [] w_Type__VALUES w_Type_REQUEST w_Type_REPLY w_Type_HEARTBEAT w_Type_ELECTION w_Type_ANSWER w_Type_COORDINATOR w_Type_GRANT w_Type_RELEASE w_Type_HELD w_Type_REPORTED w_Type_LOCKED w_Type_INQUIRE w_Type_FAILED w_Type_RELINQUISH w_Type_TOKEN k_w_Type__VALUES p0 h0 n0 Z0 hout S_Type__VALUES V_w_Type__VALUES E_w_Type__VALUES F_w_Type_REQUEST_code F_w_Type_REPLY_code F_w_Type_HEARTBEAT_code F_w_Type_ELECTION_code F_w_Type_ANSWER_code F_w_Type_COORDINATOR_code F_w_Type_GRANT_code F_w_Type_RELEASE_code F_w_Type_HELD_code F_w_Type_REPORTED_code F_w_Type_LOCKED_code F_w_Type_INQUIRE_code F_w_Type_FAILED_code F_w_Type_RELINQUISH_code F_w_Type_TOKEN_code) hZ (hw _ (List.mem_of_getElem? (i := 3) rfl)) (hw _ (List.mem_of_getElem? (i := 2) rfl)) (by decide) (by decide)) (g := (mkF m 21 #[iv p0, iv p1, iv p0, .unset, .unset] [(.int p0)])) rfl (by rw [hml]; rfl) (argsL := [(.int p0)]) (rest := []) (lenOf pd_1 rfl) rfl (by show 2 * 0 + _ ≤ _; exact Nat.le_of_eq rfl) (hb hby at_21) (fun _ _ => ⟨rfl, e0, (by decide : 0 + 1 ≤ _), (by decide : 0 + 15 ≤ _)⟩)
  dsimp only [Pt.U, Pt.locs, Pt.cells, Pt.slots] at X1 l1 y1 z1 st1 hQ1
  subst l1 y1 z1
  obtain ⟨rfl, N1q, K1⟩ := hQ1
  have KK1 : Keep h0 T1.heap [] := (Keep.refl h0 []).trans K1 all0
  have Z1 : n0 ≤ T1.heap.size := Nat.le_trans Z0 K1.1
  have N1 := Fr.app N0 N1q
  obtain ⟨fs, hr, hrun, hended, hW, hsame⟩ := X1.leave (v := (some (.int (1 : Int32)))) (fun h => by rw [Bd.returns] at h; cases h)
  refine ⟨_, _, pre0 _ ?_, hrun, hended, _, _, rfl, ?_, ⟨_, rfl⟩, hW, hsame.mono (by decide) (by decide)⟩
  · show Steps p.tables e below (s₁.setTop (mkF m 0 #[iv p0, iv p1, .unset, .unset, .unset] [])) _
    refine XS.iloadN X0.here hx rfl (hb hby at_0) rfl ?_
    refine XS.iconst X0.here hx rfl (hb hby at_1) ?_
    refine XS.iand X0.here hx rfl (hb hby at_2) rfl ?_
    show Steps p.tables e below (s₁.setTop (mkF m 3 #[iv p0, iv p1, .unset, .unset, .unset] [(.int (p1 &&& (1 : Int32)))])) _
    rewrite [hk]
    refine XS.ifNo X0.here hx rfl (hb hby at_3) rfl ((if0 _ _).trans (feq (by decide +kernel : ¬ ((1 : Int32) = (0 : Int32)))).1) ?_
    refine XS.iloadN X0.here hx rfl (hb hby at_6) rfl ?_
    refine XS.goto X0.here hx rfl (pc0 := 7) (pc' := 19) rfl (hb hby at_7) (by decide) (by decide) ?_
    show Steps p.tables e below (s₁.setTop (mkF m 19 #[iv p0, iv p1, .unset, .unset, .unset] [(.int p0)])) _
    refine XS.istoreN X0.here hx rfl (hb hby at_19) rfl (l' := #[iv p0, iv p1, iv p0, .unset, .unset]) rfl ?_
    refine XS.iloadN X0.here hx rfl (hb hby at_20) rfl ?_
    refine st1 _ ?_
    refine XS.astoreN X1.here hx rfl (hb hby at_24) rfl rfl (l' := #[iv p0, iv p1, iv p0, .val .null, .unset]) rfl ?_
    refine XS.iloadN X1.here hx rfl (hb hby at_25) rfl ?_
    refine XS.iconst X1.here hx rfl (hb hby at_26) ?_
    show Steps p.tables e below (T1.setTop (mkF m 27 #[iv p0, iv p1, iv p0, .val .null, .unset] [(.int (1 : Int32)), (.int p0)])) _
    refine XS.icmpYes X1.here hx rfl (pc0 := 27) (pc' := 40) rfl (hb hby at_27) rfl (tlt hlo).1 (by decide) (by decide) ?_
    refine XS.iconst X1.here hx rfl (hb hby at_40) ?_
    refine XS.istore X1.here hx rfl (hb hby at_41) rfl (l' := #[iv p0, iv p1, iv p0, .val .null, iv (0 : Int32)]) rfl ?_
    refine XS.iload X1.here hx rfl (hb hby at_43) rfl ?_
    refine XS.ifNo X1.here hx rfl (hb hby at_45) rfl ((if0 _ _).trans (teq (by decide +kernel : (0 : Int32) = (0 : Int32))).2) ?_
    refine XS.aloadN X1.here hx rfl (hb hby at_48) rfl rfl ?_
    show Steps p.tables e below (T1.setTop (mkF m 49 #[iv p0, iv p1, iv p0, .val .null, iv (0 : Int32)] [.null])) _
    refine XS.ifnonnullNo X1.here hx rfl (hb hby at_49) rfl ?_
    refine XS.iconst X1.here hx rfl (hb hby at_52) ?_
    refine XS.goto X1.here hx rfl (pc0 := 53) (pc' := 57) rfl (hb hby at_53) (by decide) (by decide) ?_
    exact retN X1 hx (t := .boolean) Bd.returns (by simp) (hb hby at_57) hr
  · exact ⟨rfl, N1⟩
set_option maxRecDepth 65536 in
set_option maxHeartbeats 40000000 in
theorem rm0_5 (l : Launch) (Z : State) (a0 : Array Value) (hw : ∀ d ∈ tables_1, d.before a0 Z = true) (ws : List Jvm.Cond) (p0 : Int32) (p1 : Int32) (w_Type__VALUES : Addr) (w_Type_REQUEST : Addr) (w_Type_REPLY : Addr) (w_Type_HEARTBEAT : Addr) (w_Type_ELECTION : Addr) (w_Type_ANSWER : Addr) (w_Type_COORDINATOR : Addr) (w_Type_GRANT : Addr) (w_Type_RELEASE : Addr) (w_Type_HELD : Addr) (w_Type_REPORTED : Addr) (w_Type_LOCKED : Addr) (w_Type_INQUIRE : Addr) (w_Type_FAILED : Addr) (w_Type_RELINQUISH : Addr) (w_Type_TOKEN : Addr) (k_w_Type__VALUES : ClassId) (h0 : Heap) (n0 : Nat) (Z0 : n0 ≤ h0.size) (hk : (p1 &&& (1 : Int32)) = (1 : Int32)) (hout : p0 < (1 : Int32) ∨ (15 : Int32) < p0) (S_Type__VALUES : Sta Z h0 "com/example/stile/stile/Message$Type" "$VALUES" "[Lcom/example/stile/stile/Message$Type;" (.ref w_Type__VALUES)) (V_w_Type__VALUES : Arv Z h0 w_Type__VALUES k_w_Type__VALUES (.object "com/example/stile/stile/Message$Type") (15 : Int32) [(.ref w_Type_REQUEST), (.ref w_Type_REPLY), (.ref w_Type_HEARTBEAT), (.ref w_Type_ELECTION), (.ref w_Type_ANSWER), (.ref w_Type_COORDINATOR), (.ref w_Type_GRANT), (.ref w_Type_RELEASE), (.ref w_Type_HELD), (.ref w_Type_REPORTED), (.ref w_Type_LOCKED), (.ref w_Type_INQUIRE), (.ref w_Type_FAILED), (.ref w_Type_RELINQUISH), (.ref w_Type_TOKEN)] .null) (E_w_Type__VALUES : Exa Z h0 w_Type__VALUES "[Lcom/example/stile/stile/Message$Type;") (F_w_Type_REQUEST_code : Fld Z h0 w_Type_REQUEST "com/example/stile/stile/Message$Type" "code" "I" (.int (1 : Int32))) (F_w_Type_REPLY_code : Fld Z h0 w_Type_REPLY "com/example/stile/stile/Message$Type" "code" "I" (.int (2 : Int32))) (F_w_Type_HEARTBEAT_code : Fld Z h0 w_Type_HEARTBEAT "com/example/stile/stile/Message$Type" "code" "I" (.int (3 : Int32))) (F_w_Type_ELECTION_code : Fld Z h0 w_Type_ELECTION "com/example/stile/stile/Message$Type" "code" "I" (.int (4 : Int32))) (F_w_Type_ANSWER_code : Fld Z h0 w_Type_ANSWER "com/example/stile/stile/Message$Type" "code" "I" (.int (5 : Int32))) (F_w_Type_COORDINATOR_code : Fld Z h0 w_Type_COORDINATOR "com/example/stile/stile/Message$Type" "code" "I" (.int (6 : Int32))) (F_w_Type_GRANT_code : Fld Z h0 w_Type_GRANT "com/example/stile/stile/Message$Type" "code" "I" (.int (7 : Int32))) (F_w_Type_RELEASE_code : Fld Z h0 w_Type_RELEASE "com/example/stile/stile/Message$Type" "code" "I" (.int (8 : Int32))) (F_w_Type_HELD_code : Fld Z h0 w_Type_HELD "com/example/stile/stile/Message$Type" "code" "I" (.int (9 : Int32))) (F_w_Type_REPORTED_code : Fld Z h0 w_Type_REPORTED "com/example/stile/stile/Message$Type" "code" "I" (.int (10 : Int32))) (F_w_Type_LOCKED_code : Fld Z h0 w_Type_LOCKED "com/example/stile/stile/Message$Type" "code" "I" (.int (11 : Int32))) (F_w_Type_INQUIRE_code : Fld Z h0 w_Type_INQUIRE "com/example/stile/stile/Message$Type" "code" "I" (.int (12 : Int32))) (F_w_Type_FAILED_code : Fld Z h0 w_Type_FAILED "com/example/stile/stile/Message$Type" "code" "I" (.int (13 : Int32))) (F_w_Type_RELINQUISH_code : Fld Z h0 w_Type_RELINQUISH "com/example/stile/stile/Message$Type" "code" "I" (.int (14 : Int32))) (F_w_Type_TOKEN_code : Fld Z h0 w_Type_TOKEN "com/example/stile/stile/Message$Type" "code" "I" (.int (15 : Int32))) (hlo : ¬ (p0 < (1 : Int32))) (hhi : (15 : Int32) < p0) :
    MetFree l x (head1 (Jvm.Cond.code x code maxLocals ret :: ws) room_1) (fun a U => a = #[(.int p0), (.int p1)] ∧ Z.Warmed39 U.vm ∧ U.heap = h0) (fun _ _ _ _ _ => True) (fun _ U o U' => ∃ v L, o = .returned v ∧ own_QL n0 v U'.heap L ∧ FrameEnd U o U' L room_1.cells room_1.slots) := by
  refine MetFree.of_bodySF (plainFor_of_name pn_1) hisR ?_
  intro p e s m args below meth c s₁ Bd hml0 hP hK
  obtain ⟨rfl, hZ, hh⟩ := hP
  have hx := Bd.exec
  have hby := Bd.bytes
  have hml : c.maxLocals = 5 := hml0
  have hown : s.vm.findClass "com/example/stile/stile/TypeOfPinLaw" = some m.cls := findClass_of_methodNamed Bd.named
  have hnm := (name_of_methodNamed Bd.named Bd.method).1
  have X0 : Stand p l e room_1 s m #[(.int p0), (.int p1)] below meth c s₁ [] 0 0 := Stand.of_body Bd
  have e0 : s₁.heap = h0 := by rw [← hh, Bd.state]; rfl
  have N0 := Fr.nil n0
  have pre0 : ∀ t, Steps p.tables e below (s₁.setTop (mkF m 0 #[iv p0, iv p1, .unset, .unset, .unset] [])) t → Steps p.tables e below (s₁.setTop (entryFrame m #[(.int p0), (.int p1)] maxLocals)) t := fun t k => castTop (ef_0_II m p0 p1) k
  obtain ⟨_, _, ⟨T1, L1, k1, n1⟩, -, X1, ⟨Lc1, hQ1, l1, y1, z1⟩, st1⟩ := Jvm.LawKit.callS X0 hx (y := (⟨"com/example/stile/stile/Message$Type", "of", "(I)Lcom/example/stile/stile/Message$Type;"⟩ : MethodName)) hown (mvT hZ (hw _ (List.mem_of_getElem? (i := 0) rfl))) (mvT hZ (hw _ (List.mem_of_getElem? (i := 1) rfl))) (mvT hZ (hw _ (List.mem_of_getElem? (i := 2) rfl))) (mvT hZ (hw _ (List.mem_of_getElem? (i := 3) rfl))) (by decide) (backOf (W := 0) (rk_none l Z a0 hw [] w_Type__VALUES w_Type_REQUEST w_Type_REPLY w_Type_HEARTBEAT w_Type_ELECTION w_Type_ANSWER w_Type_COORDINATOR w_Type_GRANT w_Type_RELEASE w_Type_HELD w_Type_REPORTED w_Type_LOCKED w_Type_INQUIRE w_Type_FAILED w_Type_RELINQUISH w_Type_TOKEN k_w_Type__VALUES p0 h0 n0 Z0 hout S_Type__VALUES V_w_Type__VALUES E_w_Type__VALUES F_w_Type_REQUEST_code F_w_Type_REPLY_code F_w_Type_HEARTBEAT_code F_w_Type_ELECTION_code F_w_Type_ANSWER_code F_w_Type_COORDINATOR_code F_w_Type_GRANT_code F_w_Type_RELEASE_code F_w_Type_HELD_code F_w_Type_REPORTED_code F_w_Type_LOCKED_code F_w_Type_INQUIRE_code F_w_Type_FAILED_code F_w_Type_RELINQUISH_code F_w_Type_TOKEN_code) hZ (hw _ (List.mem_of_getElem? (i := 3) rfl)) (hw _ (List.mem_of_getElem? (i := 2) rfl)) (by decide) (by decide)) (g := (mkF m 21 #[iv p0, iv p1, iv p0, .unset, .unset] [(.int p0)])) rfl (by rw [hml]; rfl) (argsL := [(.int p0)]) (rest := []) (lenOf pd_1 rfl) rfl (by show 2 * 0 + _ ≤ _; exact Nat.le_of_eq rfl) (hb hby at_21) (fun _ _ => ⟨rfl, e0, (by decide : 0 + 1 ≤ _), (by decide : 0 + 15 ≤ _)⟩)
  dsimp only [Pt.U, Pt.locs, Pt.cells, Pt.slots] at X1 l1 y1 z1 st1 hQ1
  subst l1 y1 z1
  obtain ⟨rfl, N1q, K1⟩ := hQ1
  have KK1 : Keep h0 T1.heap [] := (Keep.refl h0 []).trans K1 all0
  have Z1 : n0 ≤ T1.heap.size := Nat.le_trans Z0 K1.1
  have N1 := Fr.app N0 N1q
  obtain ⟨fs, hr, hrun, hended, hW, hsame⟩ := X1.leave (v := (some (.int (1 : Int32)))) (fun h => by rw [Bd.returns] at h; cases h)
  refine ⟨_, _, pre0 _ ?_, hrun, hended, _, _, rfl, ?_, ⟨_, rfl⟩, hW, hsame.mono (by decide) (by decide)⟩
  · show Steps p.tables e below (s₁.setTop (mkF m 0 #[iv p0, iv p1, .unset, .unset, .unset] [])) _
    refine XS.iloadN X0.here hx rfl (hb hby at_0) rfl ?_
    refine XS.iconst X0.here hx rfl (hb hby at_1) ?_
    refine XS.iand X0.here hx rfl (hb hby at_2) rfl ?_
    show Steps p.tables e below (s₁.setTop (mkF m 3 #[iv p0, iv p1, .unset, .unset, .unset] [(.int (p1 &&& (1 : Int32)))])) _
    rewrite [hk]
    refine XS.ifNo X0.here hx rfl (hb hby at_3) rfl ((if0 _ _).trans (feq (by decide +kernel : ¬ ((1 : Int32) = (0 : Int32)))).1) ?_
    refine XS.iloadN X0.here hx rfl (hb hby at_6) rfl ?_
    refine XS.goto X0.here hx rfl (pc0 := 7) (pc' := 19) rfl (hb hby at_7) (by decide) (by decide) ?_
    show Steps p.tables e below (s₁.setTop (mkF m 19 #[iv p0, iv p1, .unset, .unset, .unset] [(.int p0)])) _
    refine XS.istoreN X0.here hx rfl (hb hby at_19) rfl (l' := #[iv p0, iv p1, iv p0, .unset, .unset]) rfl ?_
    refine XS.iloadN X0.here hx rfl (hb hby at_20) rfl ?_
    refine st1 _ ?_
    refine XS.astoreN X1.here hx rfl (hb hby at_24) rfl rfl (l' := #[iv p0, iv p1, iv p0, .val .null, .unset]) rfl ?_
    refine XS.iloadN X1.here hx rfl (hb hby at_25) rfl ?_
    refine XS.iconst X1.here hx rfl (hb hby at_26) ?_
    show Steps p.tables e below (T1.setTop (mkF m 27 #[iv p0, iv p1, iv p0, .val .null, .unset] [(.int (1 : Int32)), (.int p0)])) _
    refine XS.icmpNo X1.here hx rfl (hb hby at_27) rfl (flt hlo).1 ?_
    refine XS.iloadN X1.here hx rfl (hb hby at_30) rfl ?_
    refine XS.bipush X1.here hx rfl (hb hby at_31) ?_
    refine XS.icmpYes X1.here hx rfl (pc0 := 33) (pc' := 40) rfl (hb hby at_33) rfl (tlt hhi).2.2.1 (by decide) (by decide) ?_
    refine XS.iconst X1.here hx rfl (hb hby at_40) ?_
    refine XS.istore X1.here hx rfl (hb hby at_41) rfl (l' := #[iv p0, iv p1, iv p0, .val .null, iv (0 : Int32)]) rfl ?_
    show Steps p.tables e below (T1.setTop (mkF m 43 #[iv p0, iv p1, iv p0, .val .null, iv (0 : Int32)] [])) _
    refine XS.iload X1.here hx rfl (hb hby at_43) rfl ?_
    refine XS.ifNo X1.here hx rfl (hb hby at_45) rfl ((if0 _ _).trans (teq (by decide +kernel : (0 : Int32) = (0 : Int32))).2) ?_
    refine XS.aloadN X1.here hx rfl (hb hby at_48) rfl rfl ?_
    refine XS.ifnonnullNo X1.here hx rfl (hb hby at_49) rfl ?_
    refine XS.iconst X1.here hx rfl (hb hby at_52) ?_
    refine XS.goto X1.here hx rfl (pc0 := 53) (pc' := 57) rfl (hb hby at_53) (by decide) (by decide) ?_
    show Steps p.tables e below (T1.setTop (mkF m 57 #[iv p0, iv p1, iv p0, .val .null, iv (0 : Int32)] [(.int (1 : Int32))])) _
    exact retN X1 hx (t := .boolean) Bd.returns (by simp) (hb hby at_57) hr
  · exact ⟨rfl, N1⟩
theorem rm0 (l : Launch) (Z : State) (a0 : Array Value) (hw : ∀ d ∈ tables_1, d.before a0 Z = true) (ws : List Jvm.Cond) (p0 : Int32) (p1 : Int32) (w_Type__VALUES : Addr) (w_Type_REQUEST : Addr) (w_Type_REPLY : Addr) (w_Type_HEARTBEAT : Addr) (w_Type_ELECTION : Addr) (w_Type_ANSWER : Addr) (w_Type_COORDINATOR : Addr) (w_Type_GRANT : Addr) (w_Type_RELEASE : Addr) (w_Type_HELD : Addr) (w_Type_REPORTED : Addr) (w_Type_LOCKED : Addr) (w_Type_INQUIRE : Addr) (w_Type_FAILED : Addr) (w_Type_RELINQUISH : Addr) (w_Type_TOKEN : Addr) (k_w_Type__VALUES : ClassId) (h0 : Heap) (n0 : Nat) (Z0 : n0 ≤ h0.size) (S_Type__VALUES : Sta Z h0 "com/example/stile/stile/Message$Type" "$VALUES" "[Lcom/example/stile/stile/Message$Type;" (.ref w_Type__VALUES)) (V_w_Type__VALUES : Arv Z h0 w_Type__VALUES k_w_Type__VALUES (.object "com/example/stile/stile/Message$Type") (15 : Int32) [(.ref w_Type_REQUEST), (.ref w_Type_REPLY), (.ref w_Type_HEARTBEAT), (.ref w_Type_ELECTION), (.ref w_Type_ANSWER), (.ref w_Type_COORDINATOR), (.ref w_Type_GRANT), (.ref w_Type_RELEASE), (.ref w_Type_HELD), (.ref w_Type_REPORTED), (.ref w_Type_LOCKED), (.ref w_Type_INQUIRE), (.ref w_Type_FAILED), (.ref w_Type_RELINQUISH), (.ref w_Type_TOKEN)] .null) (E_w_Type__VALUES : Exa Z h0 w_Type__VALUES "[Lcom/example/stile/stile/Message$Type;") (F_w_Type_REQUEST_code : Fld Z h0 w_Type_REQUEST "com/example/stile/stile/Message$Type" "code" "I" (.int (1 : Int32))) (F_w_Type_REPLY_code : Fld Z h0 w_Type_REPLY "com/example/stile/stile/Message$Type" "code" "I" (.int (2 : Int32))) (F_w_Type_HEARTBEAT_code : Fld Z h0 w_Type_HEARTBEAT "com/example/stile/stile/Message$Type" "code" "I" (.int (3 : Int32))) (F_w_Type_ELECTION_code : Fld Z h0 w_Type_ELECTION "com/example/stile/stile/Message$Type" "code" "I" (.int (4 : Int32))) (F_w_Type_ANSWER_code : Fld Z h0 w_Type_ANSWER "com/example/stile/stile/Message$Type" "code" "I" (.int (5 : Int32))) (F_w_Type_COORDINATOR_code : Fld Z h0 w_Type_COORDINATOR "com/example/stile/stile/Message$Type" "code" "I" (.int (6 : Int32))) (F_w_Type_GRANT_code : Fld Z h0 w_Type_GRANT "com/example/stile/stile/Message$Type" "code" "I" (.int (7 : Int32))) (F_w_Type_RELEASE_code : Fld Z h0 w_Type_RELEASE "com/example/stile/stile/Message$Type" "code" "I" (.int (8 : Int32))) (F_w_Type_HELD_code : Fld Z h0 w_Type_HELD "com/example/stile/stile/Message$Type" "code" "I" (.int (9 : Int32))) (F_w_Type_REPORTED_code : Fld Z h0 w_Type_REPORTED "com/example/stile/stile/Message$Type" "code" "I" (.int (10 : Int32))) (F_w_Type_LOCKED_code : Fld Z h0 w_Type_LOCKED "com/example/stile/stile/Message$Type" "code" "I" (.int (11 : Int32))) (F_w_Type_INQUIRE_code : Fld Z h0 w_Type_INQUIRE "com/example/stile/stile/Message$Type" "code" "I" (.int (12 : Int32))) (F_w_Type_FAILED_code : Fld Z h0 w_Type_FAILED "com/example/stile/stile/Message$Type" "code" "I" (.int (13 : Int32))) (F_w_Type_RELINQUISH_code : Fld Z h0 w_Type_RELINQUISH "com/example/stile/stile/Message$Type" "code" "I" (.int (14 : Int32))) (F_w_Type_TOKEN_code : Fld Z h0 w_Type_TOKEN "com/example/stile/stile/Message$Type" "code" "I" (.int (15 : Int32))) (E_w_Type_REQUEST : Exa Z h0 w_Type_REQUEST "com/example/stile/stile/Message$Type") (E_w_Type_REPLY : Exa Z h0 w_Type_REPLY "com/example/stile/stile/Message$Type") (E_w_Type_HEARTBEAT : Exa Z h0 w_Type_HEARTBEAT "com/example/stile/stile/Message$Type") (E_w_Type_ELECTION : Exa Z h0 w_Type_ELECTION "com/example/stile/stile/Message$Type") (E_w_Type_ANSWER : Exa Z h0 w_Type_ANSWER "com/example/stile/stile/Message$Type") (E_w_Type_COORDINATOR : Exa Z h0 w_Type_COORDINATOR "com/example/stile/stile/Message$Type") (E_w_Type_GRANT : Exa Z h0 w_Type_GRANT "com/example/stile/stile/Message$Type") (E_w_Type_RELEASE : Exa Z h0 w_Type_RELEASE "com/example/stile/stile/Message$Type") (E_w_Type_HELD : Exa Z h0 w_Type_HELD "com/example/stile/stile/Message$Type") (E_w_Type_REPORTED : Exa Z h0 w_Type_REPORTED "com/example/stile/stile/Message$Type") (E_w_Type_LOCKED : Exa Z h0 w_Type_LOCKED "com/example/stile/stile/Message$Type") (E_w_Type_INQUIRE : Exa Z h0 w_Type_INQUIRE "com/example/stile/stile/Message$Type") (E_w_Type_FAILED : Exa Z h0 w_Type_FAILED "com/example/stile/stile/Message$Type") (E_w_Type_RELINQUISH : Exa Z h0 w_Type_RELINQUISH "com/example/stile/stile/Message$Type") (E_w_Type_TOKEN : Exa Z h0 w_Type_TOKEN "com/example/stile/stile/Message$Type") :
    MetFree l x (head1 (Jvm.Cond.code x code maxLocals ret :: ws) room_1) (fun a U => a = #[(.int p0), (.int p1)] ∧ Z.Warmed39 U.vm ∧ U.heap = h0) (fun _ _ _ _ _ => True) (fun _ U o U' => ∃ v L, o = .returned v ∧ own_QL n0 v U'.heap L ∧ FrameEnd U o U' L room_1.cells room_1.slots) := by
  rcases own_s1 p1 with hk | hk
  · rcases own_three (((p0 &&& (2147483647 : Int32)) % (18 : Int32)) - (1 : Int32)) with ⟨hlo, hhi⟩ | ⟨hlo, hout⟩ | ⟨hlo, hhi, hout⟩
    · exact rm0_0 l Z a0 hw ws p0 p1 w_Type__VALUES w_Type_REQUEST w_Type_REPLY w_Type_HEARTBEAT w_Type_ELECTION w_Type_ANSWER w_Type_COORDINATOR w_Type_GRANT w_Type_RELEASE w_Type_HELD w_Type_REPORTED w_Type_LOCKED w_Type_INQUIRE w_Type_FAILED w_Type_RELINQUISH w_Type_TOKEN k_w_Type__VALUES h0 n0 Z0 hk hlo hhi S_Type__VALUES V_w_Type__VALUES E_w_Type__VALUES F_w_Type_REQUEST_code F_w_Type_REPLY_code F_w_Type_HEARTBEAT_code F_w_Type_ELECTION_code F_w_Type_ANSWER_code F_w_Type_COORDINATOR_code F_w_Type_GRANT_code F_w_Type_RELEASE_code F_w_Type_HELD_code F_w_Type_REPORTED_code F_w_Type_LOCKED_code F_w_Type_INQUIRE_code F_w_Type_FAILED_code F_w_Type_RELINQUISH_code F_w_Type_TOKEN_code E_w_Type_REQUEST E_w_Type_REPLY E_w_Type_HEARTBEAT E_w_Type_ELECTION E_w_Type_ANSWER E_w_Type_COORDINATOR E_w_Type_GRANT E_w_Type_RELEASE E_w_Type_HELD E_w_Type_REPORTED E_w_Type_LOCKED E_w_Type_INQUIRE E_w_Type_FAILED E_w_Type_RELINQUISH E_w_Type_TOKEN
    · exact rm0_1 l Z a0 hw ws p0 p1 w_Type__VALUES w_Type_REQUEST w_Type_REPLY w_Type_HEARTBEAT w_Type_ELECTION w_Type_ANSWER w_Type_COORDINATOR w_Type_GRANT w_Type_RELEASE w_Type_HELD w_Type_REPORTED w_Type_LOCKED w_Type_INQUIRE w_Type_FAILED w_Type_RELINQUISH w_Type_TOKEN k_w_Type__VALUES h0 n0 Z0 hk hout S_Type__VALUES V_w_Type__VALUES E_w_Type__VALUES F_w_Type_REQUEST_code F_w_Type_REPLY_code F_w_Type_HEARTBEAT_code F_w_Type_ELECTION_code F_w_Type_ANSWER_code F_w_Type_COORDINATOR_code F_w_Type_GRANT_code F_w_Type_RELEASE_code F_w_Type_HELD_code F_w_Type_REPORTED_code F_w_Type_LOCKED_code F_w_Type_INQUIRE_code F_w_Type_FAILED_code F_w_Type_RELINQUISH_code F_w_Type_TOKEN_code hlo
    · exact rm0_2 l Z a0 hw ws p0 p1 w_Type__VALUES w_Type_REQUEST w_Type_REPLY w_Type_HEARTBEAT w_Type_ELECTION w_Type_ANSWER w_Type_COORDINATOR w_Type_GRANT w_Type_RELEASE w_Type_HELD w_Type_REPORTED w_Type_LOCKED w_Type_INQUIRE w_Type_FAILED w_Type_RELINQUISH w_Type_TOKEN k_w_Type__VALUES h0 n0 Z0 hk hout S_Type__VALUES V_w_Type__VALUES E_w_Type__VALUES F_w_Type_REQUEST_code F_w_Type_REPLY_code F_w_Type_HEARTBEAT_code F_w_Type_ELECTION_code F_w_Type_ANSWER_code F_w_Type_COORDINATOR_code F_w_Type_GRANT_code F_w_Type_RELEASE_code F_w_Type_HELD_code F_w_Type_REPORTED_code F_w_Type_LOCKED_code F_w_Type_INQUIRE_code F_w_Type_FAILED_code F_w_Type_RELINQUISH_code F_w_Type_TOKEN_code hlo hhi
  · rcases own_three p0 with ⟨hlo, hhi⟩ | ⟨hlo, hout⟩ | ⟨hlo, hhi, hout⟩
    · exact rm0_3 l Z a0 hw ws p0 p1 w_Type__VALUES w_Type_REQUEST w_Type_REPLY w_Type_HEARTBEAT w_Type_ELECTION w_Type_ANSWER w_Type_COORDINATOR w_Type_GRANT w_Type_RELEASE w_Type_HELD w_Type_REPORTED w_Type_LOCKED w_Type_INQUIRE w_Type_FAILED w_Type_RELINQUISH w_Type_TOKEN k_w_Type__VALUES h0 n0 Z0 hk hlo hhi S_Type__VALUES V_w_Type__VALUES E_w_Type__VALUES F_w_Type_REQUEST_code F_w_Type_REPLY_code F_w_Type_HEARTBEAT_code F_w_Type_ELECTION_code F_w_Type_ANSWER_code F_w_Type_COORDINATOR_code F_w_Type_GRANT_code F_w_Type_RELEASE_code F_w_Type_HELD_code F_w_Type_REPORTED_code F_w_Type_LOCKED_code F_w_Type_INQUIRE_code F_w_Type_FAILED_code F_w_Type_RELINQUISH_code F_w_Type_TOKEN_code E_w_Type_REQUEST E_w_Type_REPLY E_w_Type_HEARTBEAT E_w_Type_ELECTION E_w_Type_ANSWER E_w_Type_COORDINATOR E_w_Type_GRANT E_w_Type_RELEASE E_w_Type_HELD E_w_Type_REPORTED E_w_Type_LOCKED E_w_Type_INQUIRE E_w_Type_FAILED E_w_Type_RELINQUISH E_w_Type_TOKEN
    · exact rm0_4 l Z a0 hw ws p0 p1 w_Type__VALUES w_Type_REQUEST w_Type_REPLY w_Type_HEARTBEAT w_Type_ELECTION w_Type_ANSWER w_Type_COORDINATOR w_Type_GRANT w_Type_RELEASE w_Type_HELD w_Type_REPORTED w_Type_LOCKED w_Type_INQUIRE w_Type_FAILED w_Type_RELINQUISH w_Type_TOKEN k_w_Type__VALUES h0 n0 Z0 hk hout S_Type__VALUES V_w_Type__VALUES E_w_Type__VALUES F_w_Type_REQUEST_code F_w_Type_REPLY_code F_w_Type_HEARTBEAT_code F_w_Type_ELECTION_code F_w_Type_ANSWER_code F_w_Type_COORDINATOR_code F_w_Type_GRANT_code F_w_Type_RELEASE_code F_w_Type_HELD_code F_w_Type_REPORTED_code F_w_Type_LOCKED_code F_w_Type_INQUIRE_code F_w_Type_FAILED_code F_w_Type_RELINQUISH_code F_w_Type_TOKEN_code hlo
    · exact rm0_5 l Z a0 hw ws p0 p1 w_Type__VALUES w_Type_REQUEST w_Type_REPLY w_Type_HEARTBEAT w_Type_ELECTION w_Type_ANSWER w_Type_COORDINATOR w_Type_GRANT w_Type_RELEASE w_Type_HELD w_Type_REPORTED w_Type_LOCKED w_Type_INQUIRE w_Type_FAILED w_Type_RELINQUISH w_Type_TOKEN k_w_Type__VALUES h0 n0 Z0 hk hout S_Type__VALUES V_w_Type__VALUES E_w_Type__VALUES F_w_Type_REQUEST_code F_w_Type_REPLY_code F_w_Type_HEARTBEAT_code F_w_Type_ELECTION_code F_w_Type_ANSWER_code F_w_Type_COORDINATOR_code F_w_Type_GRANT_code F_w_Type_RELEASE_code F_w_Type_HELD_code F_w_Type_REPORTED_code F_w_Type_LOCKED_code F_w_Type_INQUIRE_code F_w_Type_FAILED_code F_w_Type_RELINQUISH_code F_w_Type_TOKEN_code hlo hhi
set_option maxRecDepth 65536 in
set_option maxHeartbeats 40000000 in
theorem comes_1 {Post : Tables → Env → Array Value → State → Outcome → State → Prop} (hpost : ∀ tb e args s v u, (limb_1_1.after args s (.returned v) u = true ∧ limb_1_2.after args s (.returned v) u = true ∧ True) → FrameEnd s (.returned v) u (Jvm.fieldLocs frame_1_writes args s ++ Jvm.arrayLocs frame_1_arrays args s ++ Jvm.staticLocs frame_1_statics s) 16 128 → Post tb e args s (.returned v) u) :
    ArmFor flags0 classFile x code maxLocals ret World_1 tables_1 room_1 Calls_1 rest_1 Pre_1 Post := by
  intro l hfl _ _ p e ha hc hk s m args below hf hA hF happ hP
  obtain ⟨hcalls, hrest, hpre⟩ := hP
  obtain ⟨-, -, -, hnamed, -, -, -, hat⟩ := (Spec.applies_iff hf).mp happ
  obtain ⟨hg, hn⟩ := and_e (Cond.before_iff.mp (show (Jvm.Cond.and given_1 narrow_1).before args s = true from hpre))
  obtain ⟨g0, g0r⟩ := and_e hg
  obtain ⟨g1, g1r⟩ := and_e g0r
  obtain ⟨v0, v1, rfl⟩ : ∃ v0 v1 : Value, args = #[v0, v1] := by
    have hs : args.size = 2 := by simpa [Cond.value, given_1] using g0
    obtain ⟨L⟩ := args
    match L, hs with
    | [v0, v1], _ => exact ⟨v0, v1, rfl⟩
  have hw := fun d (hd : d ∈ tables_1) => atoms_spec (ws := Jvm.Cond.code x code maxLocals ret :: tables_1) hat d (List.mem_cons_of_mem _ hd)
  have hfit : Fit s := fun {y c} hc i hi => by
    obtain ⟨ha, rfl⟩ := Array.getElem?_eq_some_iff.mp hc
    have q := List.all_eq_true.mp ((Array.all_eq_true_iff_forall_mem.mp hF) _ (Array.getElem_mem ha)) i (List.mem_range.mpr hi)
    simpa [Array.getElem?_eq_getElem hi] using q
  obtain ⟨p0, ei0⟩ := is_v g1
  obtain rfl : v0 = (.int p0) := Option.some.inj ei0
  obtain ⟨p1, ei1⟩ := is_v g1r
  obtain rfl : v1 = (.int p1) := Option.some.inj ei1
  obtain ⟨n0, n0r⟩ := and_e hn
  obtain ⟨n1, n1r⟩ := and_e n0r
  obtain ⟨n2, n2r⟩ := and_e n1r
  obtain ⟨n3, n3r⟩ := and_e n2r
  obtain ⟨n4, n4r⟩ := and_e n3r
  obtain ⟨n5, n5r⟩ := and_e n4r
  obtain ⟨n6, n6r⟩ := and_e n5r
  obtain ⟨n7, n7r⟩ := and_e n6r
  obtain ⟨n8, n8r⟩ := and_e n7r
  obtain ⟨n9, n9r⟩ := and_e n8r
  obtain ⟨n10, n10r⟩ := and_e n9r
  obtain ⟨n11, n11r⟩ := and_e n10r
  obtain ⟨n12, n12r⟩ := and_e n11r
  obtain ⟨n13, n13r⟩ := and_e n12r
  obtain ⟨n14, n14r⟩ := and_e n13r
  obtain ⟨n15, n15r⟩ := and_e n14r
  obtain ⟨n16, n16r⟩ := and_e n15r
  obtain ⟨n17, n17r⟩ := and_e n16r
  obtain ⟨n18, n18r⟩ := and_e n17r
  obtain ⟨n19, n19r⟩ := and_e n18r
  obtain ⟨n20, n20r⟩ := and_e n19r
  obtain ⟨n21, n21r⟩ := and_e n20r
  obtain ⟨n22, n22r⟩ := and_e n21r
  obtain ⟨n23, n23r⟩ := and_e n22r
  obtain ⟨n24, n24r⟩ := and_e n23r
  obtain ⟨n25, n25r⟩ := and_e n24r
  obtain ⟨n26, n26r⟩ := and_e n25r
  obtain ⟨n27, n27r⟩ := and_e n26r
  obtain ⟨n28, n28r⟩ := and_e n27r
  obtain ⟨n29, n29r⟩ := and_e n28r
  obtain ⟨n30, n30r⟩ := and_e n29r
  obtain ⟨n31, n31r⟩ := and_e n30r
  obtain ⟨n32, n32r⟩ := and_e n31r
  obtain ⟨n33, n33r⟩ := and_e n32r
  obtain ⟨n34, n34r⟩ := and_e n33r
  obtain ⟨n35, n35r⟩ := and_e n34r
  obtain ⟨n36, n36r⟩ := and_e n35r
  obtain ⟨n37, n37r⟩ := and_e n36r
  obtain ⟨n38, n38r⟩ := and_e n37r
  obtain ⟨n39, n39r⟩ := and_e n38r
  obtain ⟨n40, n40r⟩ := and_e n39r
  obtain ⟨n41, n41r⟩ := and_e n40r
  obtain ⟨n42, n42r⟩ := and_e n41r
  obtain ⟨n43, n43r⟩ := and_e n42r
  obtain ⟨n44, n44r⟩ := and_e n43r
  obtain ⟨n45, n45r⟩ := and_e n44r
  obtain ⟨n46, n46r⟩ := and_e n45r
  obtain ⟨w_Type__VALUES, ev_w_Type__VALUES⟩ := exa_v n1
  have S_Type__VALUES : Sta s s.heap "com/example/stile/stile/Message$Type" "$VALUES" "[Lcom/example/stile/stile/Message$Type;" (.ref w_Type__VALUES) := Sta.start ev_w_Type__VALUES (Or.inl (hw _ (List.mem_of_getElem? (i := 31) rfl)))
  have E_w_Type__VALUES : Exa s s.heap w_Type__VALUES "[Lcom/example/stile/stile/Message$Type;" := Exa.start ev_w_Type__VALUES n1
  obtain ⟨w_Type_REQUEST, ev_w_Type_REQUEST⟩ := exa_v n3
  have S_Type_REQUEST : Sta s s.heap "com/example/stile/stile/Message$Type" "REQUEST" "Lcom/example/stile/stile/Message$Type;" (.ref w_Type_REQUEST) := Sta.start ev_w_Type_REQUEST (Or.inr ⟨(hw _ (List.mem_of_getElem? (i := 2) rfl)), (hw _ (List.mem_of_getElem? (i := 16) rfl))⟩)
  have E_w_Type_REQUEST : Exa s s.heap w_Type_REQUEST "com/example/stile/stile/Message$Type" := Exa.start ev_w_Type_REQUEST n3
  obtain ⟨w_Type_REPLY, ev_w_Type_REPLY⟩ := exa_v n5
  have S_Type_REPLY : Sta s s.heap "com/example/stile/stile/Message$Type" "REPLY" "Lcom/example/stile/stile/Message$Type;" (.ref w_Type_REPLY) := Sta.start ev_w_Type_REPLY (Or.inr ⟨(hw _ (List.mem_of_getElem? (i := 2) rfl)), (hw _ (List.mem_of_getElem? (i := 17) rfl))⟩)
  have E_w_Type_REPLY : Exa s s.heap w_Type_REPLY "com/example/stile/stile/Message$Type" := Exa.start ev_w_Type_REPLY n5
  obtain ⟨w_Type_HEARTBEAT, ev_w_Type_HEARTBEAT⟩ := exa_v n7
  have S_Type_HEARTBEAT : Sta s s.heap "com/example/stile/stile/Message$Type" "HEARTBEAT" "Lcom/example/stile/stile/Message$Type;" (.ref w_Type_HEARTBEAT) := Sta.start ev_w_Type_HEARTBEAT (Or.inr ⟨(hw _ (List.mem_of_getElem? (i := 2) rfl)), (hw _ (List.mem_of_getElem? (i := 18) rfl))⟩)
  have E_w_Type_HEARTBEAT : Exa s s.heap w_Type_HEARTBEAT "com/example/stile/stile/Message$Type" := Exa.start ev_w_Type_HEARTBEAT n7
  obtain ⟨w_Type_ELECTION, ev_w_Type_ELECTION⟩ := exa_v n9
  have S_Type_ELECTION : Sta s s.heap "com/example/stile/stile/Message$Type" "ELECTION" "Lcom/example/stile/stile/Message$Type;" (.ref w_Type_ELECTION) := Sta.start ev_w_Type_ELECTION (Or.inr ⟨(hw _ (List.mem_of_getElem? (i := 2) rfl)), (hw _ (List.mem_of_getElem? (i := 19) rfl))⟩)
  have E_w_Type_ELECTION : Exa s s.heap w_Type_ELECTION "com/example/stile/stile/Message$Type" := Exa.start ev_w_Type_ELECTION n9
  obtain ⟨w_Type_ANSWER, ev_w_Type_ANSWER⟩ := exa_v n11
  have S_Type_ANSWER : Sta s s.heap "com/example/stile/stile/Message$Type" "ANSWER" "Lcom/example/stile/stile/Message$Type;" (.ref w_Type_ANSWER) := Sta.start ev_w_Type_ANSWER (Or.inr ⟨(hw _ (List.mem_of_getElem? (i := 2) rfl)), (hw _ (List.mem_of_getElem? (i := 20) rfl))⟩)
  have E_w_Type_ANSWER : Exa s s.heap w_Type_ANSWER "com/example/stile/stile/Message$Type" := Exa.start ev_w_Type_ANSWER n11
  obtain ⟨w_Type_COORDINATOR, ev_w_Type_COORDINATOR⟩ := exa_v n13
  have S_Type_COORDINATOR : Sta s s.heap "com/example/stile/stile/Message$Type" "COORDINATOR" "Lcom/example/stile/stile/Message$Type;" (.ref w_Type_COORDINATOR) := Sta.start ev_w_Type_COORDINATOR (Or.inr ⟨(hw _ (List.mem_of_getElem? (i := 2) rfl)), (hw _ (List.mem_of_getElem? (i := 21) rfl))⟩)
  have E_w_Type_COORDINATOR : Exa s s.heap w_Type_COORDINATOR "com/example/stile/stile/Message$Type" := Exa.start ev_w_Type_COORDINATOR n13
  obtain ⟨w_Type_GRANT, ev_w_Type_GRANT⟩ := exa_v n15
  have S_Type_GRANT : Sta s s.heap "com/example/stile/stile/Message$Type" "GRANT" "Lcom/example/stile/stile/Message$Type;" (.ref w_Type_GRANT) := Sta.start ev_w_Type_GRANT (Or.inr ⟨(hw _ (List.mem_of_getElem? (i := 2) rfl)), (hw _ (List.mem_of_getElem? (i := 22) rfl))⟩)
  have E_w_Type_GRANT : Exa s s.heap w_Type_GRANT "com/example/stile/stile/Message$Type" := Exa.start ev_w_Type_GRANT n15
  obtain ⟨w_Type_RELEASE, ev_w_Type_RELEASE⟩ := exa_v n17
  have S_Type_RELEASE : Sta s s.heap "com/example/stile/stile/Message$Type" "RELEASE" "Lcom/example/stile/stile/Message$Type;" (.ref w_Type_RELEASE) := Sta.start ev_w_Type_RELEASE (Or.inr ⟨(hw _ (List.mem_of_getElem? (i := 2) rfl)), (hw _ (List.mem_of_getElem? (i := 23) rfl))⟩)
  have E_w_Type_RELEASE : Exa s s.heap w_Type_RELEASE "com/example/stile/stile/Message$Type" := Exa.start ev_w_Type_RELEASE n17
  obtain ⟨w_Type_HELD, ev_w_Type_HELD⟩ := exa_v n19
  have S_Type_HELD : Sta s s.heap "com/example/stile/stile/Message$Type" "HELD" "Lcom/example/stile/stile/Message$Type;" (.ref w_Type_HELD) := Sta.start ev_w_Type_HELD (Or.inr ⟨(hw _ (List.mem_of_getElem? (i := 2) rfl)), (hw _ (List.mem_of_getElem? (i := 24) rfl))⟩)
  have E_w_Type_HELD : Exa s s.heap w_Type_HELD "com/example/stile/stile/Message$Type" := Exa.start ev_w_Type_HELD n19
  obtain ⟨w_Type_REPORTED, ev_w_Type_REPORTED⟩ := exa_v n21
  have S_Type_REPORTED : Sta s s.heap "com/example/stile/stile/Message$Type" "REPORTED" "Lcom/example/stile/stile/Message$Type;" (.ref w_Type_REPORTED) := Sta.start ev_w_Type_REPORTED (Or.inr ⟨(hw _ (List.mem_of_getElem? (i := 2) rfl)), (hw _ (List.mem_of_getElem? (i := 25) rfl))⟩)
  have E_w_Type_REPORTED : Exa s s.heap w_Type_REPORTED "com/example/stile/stile/Message$Type" := Exa.start ev_w_Type_REPORTED n21
  obtain ⟨w_Type_LOCKED, ev_w_Type_LOCKED⟩ := exa_v n23
  have S_Type_LOCKED : Sta s s.heap "com/example/stile/stile/Message$Type" "LOCKED" "Lcom/example/stile/stile/Message$Type;" (.ref w_Type_LOCKED) := Sta.start ev_w_Type_LOCKED (Or.inr ⟨(hw _ (List.mem_of_getElem? (i := 2) rfl)), (hw _ (List.mem_of_getElem? (i := 26) rfl))⟩)
  have E_w_Type_LOCKED : Exa s s.heap w_Type_LOCKED "com/example/stile/stile/Message$Type" := Exa.start ev_w_Type_LOCKED n23
  obtain ⟨w_Type_INQUIRE, ev_w_Type_INQUIRE⟩ := exa_v n25
  have S_Type_INQUIRE : Sta s s.heap "com/example/stile/stile/Message$Type" "INQUIRE" "Lcom/example/stile/stile/Message$Type;" (.ref w_Type_INQUIRE) := Sta.start ev_w_Type_INQUIRE (Or.inr ⟨(hw _ (List.mem_of_getElem? (i := 2) rfl)), (hw _ (List.mem_of_getElem? (i := 27) rfl))⟩)
  have E_w_Type_INQUIRE : Exa s s.heap w_Type_INQUIRE "com/example/stile/stile/Message$Type" := Exa.start ev_w_Type_INQUIRE n25
  obtain ⟨w_Type_FAILED, ev_w_Type_FAILED⟩ := exa_v n27
  have S_Type_FAILED : Sta s s.heap "com/example/stile/stile/Message$Type" "FAILED" "Lcom/example/stile/stile/Message$Type;" (.ref w_Type_FAILED) := Sta.start ev_w_Type_FAILED (Or.inr ⟨(hw _ (List.mem_of_getElem? (i := 2) rfl)), (hw _ (List.mem_of_getElem? (i := 28) rfl))⟩)
  have E_w_Type_FAILED : Exa s s.heap w_Type_FAILED "com/example/stile/stile/Message$Type" := Exa.start ev_w_Type_FAILED n27
  obtain ⟨w_Type_RELINQUISH, ev_w_Type_RELINQUISH⟩ := exa_v n29
  have S_Type_RELINQUISH : Sta s s.heap "com/example/stile/stile/Message$Type" "RELINQUISH" "Lcom/example/stile/stile/Message$Type;" (.ref w_Type_RELINQUISH) := Sta.start ev_w_Type_RELINQUISH (Or.inr ⟨(hw _ (List.mem_of_getElem? (i := 2) rfl)), (hw _ (List.mem_of_getElem? (i := 29) rfl))⟩)
  have E_w_Type_RELINQUISH : Exa s s.heap w_Type_RELINQUISH "com/example/stile/stile/Message$Type" := Exa.start ev_w_Type_RELINQUISH n29
  obtain ⟨w_Type_TOKEN, ev_w_Type_TOKEN⟩ := exa_v n31
  have S_Type_TOKEN : Sta s s.heap "com/example/stile/stile/Message$Type" "TOKEN" "Lcom/example/stile/stile/Message$Type;" (.ref w_Type_TOKEN) := Sta.start ev_w_Type_TOKEN (Or.inr ⟨(hw _ (List.mem_of_getElem? (i := 2) rfl)), (hw _ (List.mem_of_getElem? (i := 30) rfl))⟩)
  have E_w_Type_TOKEN : Exa s s.heap w_Type_TOKEN "com/example/stile/stile/Message$Type" := Exa.start ev_w_Type_TOKEN n31
  have F_w_Type_REQUEST_code : Fld s s.heap w_Type_REQUEST "com/example/stile/stile/Message$Type" "code" "I" (.int (1 : Int32)) := Fld.start ((fld_at ev_w_Type_REQUEST).symm.trans (own_eqv n33 (Term.int_eval _) (Or.inr ⟨_, rfl⟩)))
  have F_w_Type_REPLY_code : Fld s s.heap w_Type_REPLY "com/example/stile/stile/Message$Type" "code" "I" (.int (2 : Int32)) := Fld.start ((fld_at ev_w_Type_REPLY).symm.trans (own_eqv n34 (Term.int_eval _) (Or.inr ⟨_, rfl⟩)))
  have F_w_Type_HEARTBEAT_code : Fld s s.heap w_Type_HEARTBEAT "com/example/stile/stile/Message$Type" "code" "I" (.int (3 : Int32)) := Fld.start ((fld_at ev_w_Type_HEARTBEAT).symm.trans (own_eqv n35 (Term.int_eval _) (Or.inr ⟨_, rfl⟩)))
  have F_w_Type_ELECTION_code : Fld s s.heap w_Type_ELECTION "com/example/stile/stile/Message$Type" "code" "I" (.int (4 : Int32)) := Fld.start ((fld_at ev_w_Type_ELECTION).symm.trans (own_eqv n36 (Term.int_eval _) (Or.inr ⟨_, rfl⟩)))
  have F_w_Type_ANSWER_code : Fld s s.heap w_Type_ANSWER "com/example/stile/stile/Message$Type" "code" "I" (.int (5 : Int32)) := Fld.start ((fld_at ev_w_Type_ANSWER).symm.trans (own_eqv n37 (Term.int_eval _) (Or.inr ⟨_, rfl⟩)))
  have F_w_Type_COORDINATOR_code : Fld s s.heap w_Type_COORDINATOR "com/example/stile/stile/Message$Type" "code" "I" (.int (6 : Int32)) := Fld.start ((fld_at ev_w_Type_COORDINATOR).symm.trans (own_eqv n38 (Term.int_eval _) (Or.inr ⟨_, rfl⟩)))
  have F_w_Type_GRANT_code : Fld s s.heap w_Type_GRANT "com/example/stile/stile/Message$Type" "code" "I" (.int (7 : Int32)) := Fld.start ((fld_at ev_w_Type_GRANT).symm.trans (own_eqv n39 (Term.int_eval _) (Or.inr ⟨_, rfl⟩)))
  have F_w_Type_RELEASE_code : Fld s s.heap w_Type_RELEASE "com/example/stile/stile/Message$Type" "code" "I" (.int (8 : Int32)) := Fld.start ((fld_at ev_w_Type_RELEASE).symm.trans (own_eqv n40 (Term.int_eval _) (Or.inr ⟨_, rfl⟩)))
  have F_w_Type_HELD_code : Fld s s.heap w_Type_HELD "com/example/stile/stile/Message$Type" "code" "I" (.int (9 : Int32)) := Fld.start ((fld_at ev_w_Type_HELD).symm.trans (own_eqv n41 (Term.int_eval _) (Or.inr ⟨_, rfl⟩)))
  have F_w_Type_REPORTED_code : Fld s s.heap w_Type_REPORTED "com/example/stile/stile/Message$Type" "code" "I" (.int (10 : Int32)) := Fld.start ((fld_at ev_w_Type_REPORTED).symm.trans (own_eqv n42 (Term.int_eval _) (Or.inr ⟨_, rfl⟩)))
  have F_w_Type_LOCKED_code : Fld s s.heap w_Type_LOCKED "com/example/stile/stile/Message$Type" "code" "I" (.int (11 : Int32)) := Fld.start ((fld_at ev_w_Type_LOCKED).symm.trans (own_eqv n43 (Term.int_eval _) (Or.inr ⟨_, rfl⟩)))
  have F_w_Type_INQUIRE_code : Fld s s.heap w_Type_INQUIRE "com/example/stile/stile/Message$Type" "code" "I" (.int (12 : Int32)) := Fld.start ((fld_at ev_w_Type_INQUIRE).symm.trans (own_eqv n44 (Term.int_eval _) (Or.inr ⟨_, rfl⟩)))
  have F_w_Type_FAILED_code : Fld s s.heap w_Type_FAILED "com/example/stile/stile/Message$Type" "code" "I" (.int (13 : Int32)) := Fld.start ((fld_at ev_w_Type_FAILED).symm.trans (own_eqv n45 (Term.int_eval _) (Or.inr ⟨_, rfl⟩)))
  have F_w_Type_RELINQUISH_code : Fld s s.heap w_Type_RELINQUISH "com/example/stile/stile/Message$Type" "code" "I" (.int (14 : Int32)) := Fld.start ((fld_at ev_w_Type_RELINQUISH).symm.trans (own_eqv n46 (Term.int_eval _) (Or.inr ⟨_, rfl⟩)))
  have F_w_Type_TOKEN_code : Fld s s.heap w_Type_TOKEN "com/example/stile/stile/Message$Type" "code" "I" (.int (15 : Int32)) := Fld.start ((fld_at ev_w_Type_TOKEN).symm.trans (own_eqv n46r (Term.int_eval _) (Or.inr ⟨_, rfl⟩)))
  obtain ⟨cl_w_Type__VALUES, Ar_w_Type__VALUES⟩ := Arr.start ev_w_Type__VALUES n0
  obtain ⟨k_w_Type__VALUES, hk_w_Type__VALUES⟩ : ∃ z, z = cl_w_Type__VALUES.cls := ⟨_, rfl⟩
  obtain ⟨q_w_Type__VALUES, l_w_Type__VALUES⟩ := own_len ev_w_Type__VALUES Ar_w_Type__VALUES (own_eqv n2 (Term.int_eval _) (Or.inr ⟨_, rfl⟩))
  have el_w_Type__VALUES_0 : cl_w_Type__VALUES.slots[0]? = some (.ref w_Type_REQUEST) := (elem_in (own_eqv n4 ev_w_Type_REQUEST (Or.inl rfl)) ev_w_Type__VALUES (Term.int_eval _) Ar_w_Type__VALUES.1).2
  have el_w_Type__VALUES_1 : cl_w_Type__VALUES.slots[1]? = some (.ref w_Type_REPLY) := (elem_in (own_eqv n6 ev_w_Type_REPLY (Or.inl rfl)) ev_w_Type__VALUES (Term.int_eval _) Ar_w_Type__VALUES.1).2
  have el_w_Type__VALUES_2 : cl_w_Type__VALUES.slots[2]? = some (.ref w_Type_HEARTBEAT) := (elem_in (own_eqv n8 ev_w_Type_HEARTBEAT (Or.inl rfl)) ev_w_Type__VALUES (Term.int_eval _) Ar_w_Type__VALUES.1).2
  have el_w_Type__VALUES_3 : cl_w_Type__VALUES.slots[3]? = some (.ref w_Type_ELECTION) := (elem_in (own_eqv n10 ev_w_Type_ELECTION (Or.inl rfl)) ev_w_Type__VALUES (Term.int_eval _) Ar_w_Type__VALUES.1).2
  have el_w_Type__VALUES_4 : cl_w_Type__VALUES.slots[4]? = some (.ref w_Type_ANSWER) := (elem_in (own_eqv n12 ev_w_Type_ANSWER (Or.inl rfl)) ev_w_Type__VALUES (Term.int_eval _) Ar_w_Type__VALUES.1).2
  have el_w_Type__VALUES_5 : cl_w_Type__VALUES.slots[5]? = some (.ref w_Type_COORDINATOR) := (elem_in (own_eqv n14 ev_w_Type_COORDINATOR (Or.inl rfl)) ev_w_Type__VALUES (Term.int_eval _) Ar_w_Type__VALUES.1).2
  have el_w_Type__VALUES_6 : cl_w_Type__VALUES.slots[6]? = some (.ref w_Type_GRANT) := (elem_in (own_eqv n16 ev_w_Type_GRANT (Or.inl rfl)) ev_w_Type__VALUES (Term.int_eval _) Ar_w_Type__VALUES.1).2
  have el_w_Type__VALUES_7 : cl_w_Type__VALUES.slots[7]? = some (.ref w_Type_RELEASE) := (elem_in (own_eqv n18 ev_w_Type_RELEASE (Or.inl rfl)) ev_w_Type__VALUES (Term.int_eval _) Ar_w_Type__VALUES.1).2
  have el_w_Type__VALUES_8 : cl_w_Type__VALUES.slots[8]? = some (.ref w_Type_HELD) := (elem_in (own_eqv n20 ev_w_Type_HELD (Or.inl rfl)) ev_w_Type__VALUES (Term.int_eval _) Ar_w_Type__VALUES.1).2
  have el_w_Type__VALUES_9 : cl_w_Type__VALUES.slots[9]? = some (.ref w_Type_REPORTED) := (elem_in (own_eqv n22 ev_w_Type_REPORTED (Or.inl rfl)) ev_w_Type__VALUES (Term.int_eval _) Ar_w_Type__VALUES.1).2
  have el_w_Type__VALUES_10 : cl_w_Type__VALUES.slots[10]? = some (.ref w_Type_LOCKED) := (elem_in (own_eqv n24 ev_w_Type_LOCKED (Or.inl rfl)) ev_w_Type__VALUES (Term.int_eval _) Ar_w_Type__VALUES.1).2
  have el_w_Type__VALUES_11 : cl_w_Type__VALUES.slots[11]? = some (.ref w_Type_INQUIRE) := (elem_in (own_eqv n26 ev_w_Type_INQUIRE (Or.inl rfl)) ev_w_Type__VALUES (Term.int_eval _) Ar_w_Type__VALUES.1).2
  have el_w_Type__VALUES_12 : cl_w_Type__VALUES.slots[12]? = some (.ref w_Type_FAILED) := (elem_in (own_eqv n28 ev_w_Type_FAILED (Or.inl rfl)) ev_w_Type__VALUES (Term.int_eval _) Ar_w_Type__VALUES.1).2
  have el_w_Type__VALUES_13 : cl_w_Type__VALUES.slots[13]? = some (.ref w_Type_RELINQUISH) := (elem_in (own_eqv n30 ev_w_Type_RELINQUISH (Or.inl rfl)) ev_w_Type__VALUES (Term.int_eval _) Ar_w_Type__VALUES.1).2
  have el_w_Type__VALUES_14 : cl_w_Type__VALUES.slots[14]? = some (.ref w_Type_TOKEN) := (elem_in (own_eqv n32 ev_w_Type_TOKEN (Or.inl rfl)) ev_w_Type__VALUES (Term.int_eval _) Ar_w_Type__VALUES.1).2
  have V_w_Type__VALUES : Arv s s.heap w_Type__VALUES k_w_Type__VALUES (.object "com/example/stile/stile/Message$Type") (15 : Int32) [(.ref w_Type_REQUEST), (.ref w_Type_REPLY), (.ref w_Type_HEARTBEAT), (.ref w_Type_ELECTION), (.ref w_Type_ANSWER), (.ref w_Type_COORDINATOR), (.ref w_Type_GRANT), (.ref w_Type_RELEASE), (.ref w_Type_HELD), (.ref w_Type_REPORTED), (.ref w_Type_LOCKED), (.ref w_Type_INQUIRE), (.ref w_Type_FAILED), (.ref w_Type_RELINQUISH), (.ref w_Type_TOKEN)] .null := by rw [hk_w_Type__VALUES]; exact Arv.start hfit Ar_w_Type__VALUES q_w_Type__VALUES l_w_Type__VALUES (by decide) (show (15 : Int32).toNatClampNeg = 15 from by decide) ⟨el_w_Type__VALUES_0, el_w_Type__VALUES_1, el_w_Type__VALUES_2, el_w_Type__VALUES_3, el_w_Type__VALUES_4, el_w_Type__VALUES_5, el_w_Type__VALUES_6, el_w_Type__VALUES_7, el_w_Type__VALUES_8, el_w_Type__VALUES_9, el_w_Type__VALUES_10, el_w_Type__VALUES_11, el_w_Type__VALUES_12, el_w_Type__VALUES_13, el_w_Type__VALUES_14, trivial⟩
  obtain ⟨n, o, h1, h2, h3, _, L, rfl, ⟨rfl, N⟩, hq⟩ := rm0 l s _ hw tables_1 p0 p1 w_Type__VALUES w_Type_REQUEST w_Type_REPLY w_Type_HEARTBEAT w_Type_ELECTION w_Type_ANSWER w_Type_COORDINATOR w_Type_GRANT w_Type_RELEASE w_Type_HELD w_Type_REPORTED w_Type_LOCKED w_Type_INQUIRE w_Type_FAILED w_Type_RELINQUISH w_Type_TOKEN k_w_Type__VALUES s.heap s.heap.size (Nat.le_refl _) S_Type__VALUES V_w_Type__VALUES E_w_Type__VALUES F_w_Type_REQUEST_code F_w_Type_REPLY_code F_w_Type_HEARTBEAT_code F_w_Type_ELECTION_code F_w_Type_ANSWER_code F_w_Type_COORDINATOR_code F_w_Type_GRANT_code F_w_Type_RELEASE_code F_w_Type_HELD_code F_w_Type_REPORTED_code F_w_Type_LOCKED_code F_w_Type_INQUIRE_code F_w_Type_FAILED_code F_w_Type_RELINQUISH_code F_w_Type_TOKEN_code E_w_Type_REQUEST E_w_Type_REPLY E_w_Type_HEARTBEAT E_w_Type_ELECTION E_w_Type_ANSWER E_w_Type_COORDINATOR E_w_Type_GRANT E_w_Type_RELEASE E_w_Type_HELD E_w_Type_REPORTED E_w_Type_LOCKED E_w_Type_INQUIRE E_w_Type_FAILED E_w_Type_RELINQUISH E_w_Type_TOKEN p e ha hc hk s m _ below hf ((Spec.applies_iff_loose hf).mp happ).1 ⟨rfl, State.Warmed39.refl s, rfl⟩ trivial
  refine ⟨n, _, h1, h2, h3, hpost _ _ _ _ _ _ ⟨Cond.after_iff.mpr rfl, Cond.after_iff.mpr (eq_i res_at (Term.int_eval (1)) rfl), trivial⟩ ⟨hq.1, hq.2.1, (hq.2.2.sift fun y hy => Or.inr (N y hy)).mono (by decide) (by decide)⟩⟩
theorem main_1_1 : Claimed_1_1 := comes_1 fun _ _ _ _ _ _ h hF => ⟨h.1, hF⟩
theorem main_1_2 : Claimed_1_2 := comes_1 fun _ _ _ _ _ _ h hF => ⟨h.2.1, hF⟩
end Jvm.Pilot.@@N@@
namespace Jvm.Pilot.@@N@@
open Jvm Jvm.ClassFile Sem Op Lib Jvm.Free Jvm.Stand Jvm.Pilot.@@N@@.Jvm.D
/-! MADE BY PROGRAM (witnessworld.py) out of the Statement's table words and the real class files: 13 classes; the members and pool entries that the words name. The judged class is class 1, her method 1. -/
namespace start1
open Jvm.ClassFile
def u (s : String) : CpInfo := .utf8 (stringToUtf16 s)
/-- a pool by its gaps: so many unusable entries, then the entry; so many at the end -/
def gap : Nat → List CpInfo → List CpInfo
  | 0, r => r
  | n + 1, r => .unusable :: gap n r
def poolList (es : List (Nat × CpInfo)) (last : Nat) : List CpInfo := es.foldr (fun e r => gap e.1 (e.2 :: r)) (gap last [])
def pool (es : List (Nat × CpInfo)) (last : Nat) : Array CpInfo := ⟨poolList es last⟩
def fileOf (pool : Array CpInfo) (this : Nat) (attrs : Array Attribute := #[]) (ms : Array MethodInfo := #[]) (fl : Nat := 33) (sup : Nat := 0) (ifs : Array Nat := #[]) (fds : Array FieldInfo := #[]) : ClassFile where
  minorVersion := 0
  majorVersion := 65
  constantPool := pool
  accessFlags := fl
  thisClass := this
  superClass := sup
  interfaces := ifs
  fields := fds
  methods := ms
  attributes := attrs
def plain (name : String) (sup : Option ClassId) : Class where
  name := name
  kind := .ordinary
  loader := none
  accessFlags := 33
  super := sup
  interfaces := #[]
  cf := none
  fields := #[]
  methods := #[]
  instanceTypes := #[]
  staticTypes := #[]
  resolved := #[]
  callSites := []
  init := .initialized
  statics := none
  mirror := none

def pool0 : Array CpInfo := pool [(5, u "<init>"), (0, u "()V"), (1, .class_ 10), (1, u "java/lang/Object"), (85, u "clone"), (0, u "()Ljava/lang/Object;")] 26

def k0m0 : Method := { name := "<init>", desc := "()V", sig := { parameters := [], returnType := none }, accessFlags := 1, code := none }
def k0m1 : Method := { name := "clone", desc := "()Ljava/lang/Object;", sig := { parameters := [], returnType := some (.object "java/lang/Object") }, accessFlags := 260, code := none }
/-- java/lang/Object -/
def k0 : Class := { plain "java/lang/Object" none with
  accessFlags := 33
  interfaces := #[]
  cf := some (fileOf pool0 8 #[] #[{ accessFlags := 1, nameIndex := 5, descriptorIndex := 6, attributes := #[] }, { accessFlags := 260, nameIndex := 96, descriptorIndex := 97, attributes := #[] }] 33 0 #[] #[])
  fields := #[]
  methods := #[k0m0, k0m1]
  instanceTypes := #[]
  staticTypes := #[]
  resolved := Array.replicate 124 none
  statics := none }

def pool1 : Array CpInfo := pool [(2, .class_ 4), (1, u "java/lang/Object"), (0, u "<init>"), (0, u "()V"), (0, .integer 2147483647), (0, .methodref 9 10), (0, .class_ 11), (0, .nameAndType 12 13), (0, u "com/example/stile/stile/Message$Type"), (0, u "of"), (0, u "(I)Lcom/example/stile/stile/Message$Type;"), (0, .methodref 9 15), (0, .nameAndType 16 17), (0, u "code"), (0, u "()I"), (0, .class_ 19), (0, u "com/example/stile/stile/TypeOfPinLaw"), (2, u "law"), (0, u "(II)Z")] 7

def k1m0 : Method := { name := "<init>", desc := "()V", sig := { parameters := [], returnType := none }, accessFlags := 1, code := none }
def k1c1 : Code := { maxStack := 2, maxLocals := 5, code := code, exceptionTable := #[], attributes := #[] }
def k1m1 : Method := { name := "law", desc := "(II)Z", sig := { parameters := [.int, .int], returnType := some .boolean }, accessFlags := 9, code := some k1c1 }
/-- com/example/stile/stile/TypeOfPinLaw -/
def k1 : Class := { plain "com/example/stile/stile/TypeOfPinLaw" (some 0) with
  accessFlags := 49
  interfaces := #[]
  cf := some (fileOf pool1 18 #[] #[{ accessFlags := 1, nameIndex := 5, descriptorIndex := 6, attributes := #[] }, { accessFlags := 9, nameIndex := 22, descriptorIndex := 23, attributes := #[] }] 49 2 #[] #[])
  fields := #[]
  methods := #[k1m0, k1m1]
  instanceTypes := #[]
  staticTypes := #[]
  resolved := Array.replicate 31 none
  statics := none }

def pool2 : Array CpInfo := pool [(1, .class_ 2), (0, u "java/lang/constant/Constable"), (0, .class_ 4), (0, u "java/lang/Object")] 6

/-- java/lang/constant/Constable -/
def k2 : Class := { plain "java/lang/constant/Constable" (some 0) with
  accessFlags := 1537
  interfaces := #[]
  cf := some (fileOf pool2 1 #[] #[] 1537 3 #[] #[])
  fields := #[]
  methods := #[]
  instanceTypes := #[]
  staticTypes := #[]
  resolved := Array.replicate 11 none
  statics := none }

def pool3 : Array CpInfo := pool [(1, .class_ 2), (0, u "java/lang/Comparable"), (0, .class_ 4), (0, u "java/lang/Object")] 7

/-- java/lang/Comparable -/
def k3 : Class := { plain "java/lang/Comparable" (some 0) with
  accessFlags := 1537
  interfaces := #[]
  cf := some (fileOf pool3 1 #[] #[] 1537 3 #[] #[])
  fields := #[]
  methods := #[]
  instanceTypes := #[]
  staticTypes := #[]
  resolved := Array.replicate 12 none
  statics := none }

def pool4 : Array CpInfo := pool [(1, .class_ 2), (0, u "java/io/Serializable"), (0, .class_ 4), (0, u "java/lang/Object")] 2

/-- java/io/Serializable -/
def k4 : Class := { plain "java/io/Serializable" (some 0) with
  accessFlags := 1537
  interfaces := #[]
  cf := some (fileOf pool4 1 #[] #[] 1537 3 #[] #[])
  fields := #[]
  methods := #[]
  instanceTypes := #[]
  staticTypes := #[]
  resolved := Array.replicate 7 none
  statics := none }

def pool5 : Array CpInfo := pool [(2, .class_ 4), (1, u "java/lang/Enum"), (0, u "name"), (0, u "Ljava/lang/String;"), (2, u "ordinal"), (0, u "I"), (1, .class_ 14), (1, u "java/lang/Object"), (4, u "hash"), (86, .class_ 108), (1, u "java/lang/Enum$EnumDesc"), (2, .class_ 112), (0, u "java/lang/constant/Constable"), (0, .class_ 114), (0, u "java/lang/Comparable"), (0, .class_ 116), (0, u "java/io/Serializable")] 87

/-- java/lang/Enum -/
def k5 : Class := { plain "java/lang/Enum" (some 0) with
  accessFlags := 1057
  interfaces := #[2, 3, 4]
  cf := some (fileOf pool5 2 #[.nestMembers #[106]] #[] 1057 12 #[111, 113, 115] #[{ accessFlags := 18, nameIndex := 5, descriptorIndex := 6, attributes := #[] }, { accessFlags := 18, nameIndex := 9, descriptorIndex := 10, attributes := #[] }, { accessFlags := 2, nameIndex := 19, descriptorIndex := 10, attributes := #[] }])
  fields := #[{ name := "name", type := (.object "java/lang/String"), accessFlags := 18, slot := 0, constantValue := 0 }, { name := "ordinal", type := .int, accessFlags := 18, slot := 1, constantValue := 0 }, { name := "hash", type := .int, accessFlags := 2, slot := 2, constantValue := 0 }]
  methods := #[]
  instanceTypes := #[(.object "java/lang/String"), .int, .int]
  staticTypes := #[]
  resolved := Array.replicate 204 none
  statics := none }

def pool6 : Array CpInfo := pool [(1, .class_ 2), (0, u "com/example/stile/stile/Message$Type"), (2, u "REQUEST"), (0, u "Lcom/example/stile/stile/Message$Type;"), (2, u "REPLY"), (2, u "HEARTBEAT"), (2, u "ELECTION"), (2, u "ANSWER"), (2, u "COORDINATOR"), (2, u "GRANT"), (2, u "RELEASE"), (2, u "HELD"), (2, u "REPORTED"), (2, u "LOCKED"), (2, u "INQUIRE"), (2, u "FAILED"), (2, u "RELINQUISH"), (2, u "TOKEN"), (0, .fieldref 1 50), (0, .nameAndType 51 52), (0, u "$VALUES"), (0, u "[Lcom/example/stile/stile/Message$Type;"), (0, .methodref 54 55), (0, .class_ 52), (0, .nameAndType 56 57), (0, u "clone"), (0, u "()Ljava/lang/Object;"), (1, .class_ 61), (1, u "java/lang/Enum"), (9, .fieldref 1 72), (0, .nameAndType 73 74), (0, u "code"), (0, u "I"), (2, u "aboutLock"), (0, u "Z"), (2, u "carriesToken"), (0, .methodref 1 83), (0, .nameAndType 84 85), (0, u "values"), (0, u "()[Lcom/example/stile/stile/Message$Type;"), (28, u "()I"), (1, u "of"), (0, u "(I)Lcom/example/stile/stile/Message$Type;"), (7, .class_ 126), (0, u "com/example/stile/stile/Message")] 2

def k6c0 : Code := { maxStack := 1, maxLocals := 0, code := prog_48_method_1_code, exceptionTable := #[], attributes := #[] }
def k6m0 : Method := { name := "values", desc := "()[Lcom/example/stile/stile/Message$Type;", sig := { parameters := [], returnType := some (.array (.object "com/example/stile/stile/Message$Type")) }, accessFlags := 9, code := some k6c0 }
def k6c1 : Code := { maxStack := 1, maxLocals := 1, code := prog_48_method_5_code, exceptionTable := #[], attributes := #[] }
def k6m1 : Method := { name := "code", desc := "()I", sig := { parameters := [], returnType := some .int }, accessFlags := 0, code := some k6c1 }
def k6c2 : Code := { maxStack := 2, maxLocals := 5, code := prog_48_method_8_code, exceptionTable := #[], attributes := #[] }
def k6m2 : Method := { name := "of", desc := "(I)Lcom/example/stile/stile/Message$Type;", sig := { parameters := [.int], returnType := some (.object "com/example/stile/stile/Message$Type") }, accessFlags := 8, code := some k6c2 }
/-- com/example/stile/stile/Message$Type -/
def k6 : Class := { plain "com/example/stile/stile/Message$Type" (some 5) with
  accessFlags := 16432
  interfaces := #[]
  cf := some (fileOf pool6 1 #[.nestHost 125] #[{ accessFlags := 9, nameIndex := 84, descriptorIndex := 85, attributes := #[] }, { accessFlags := 0, nameIndex := 73, descriptorIndex := 114, attributes := #[] }, { accessFlags := 8, nameIndex := 116, descriptorIndex := 117, attributes := #[] }] 16432 59 #[] #[{ accessFlags := 16409, nameIndex := 5, descriptorIndex := 6, attributes := #[] }, { accessFlags := 16409, nameIndex := 9, descriptorIndex := 6, attributes := #[] }, { accessFlags := 16409, nameIndex := 12, descriptorIndex := 6, attributes := #[] }, { accessFlags := 16409, nameIndex := 15, descriptorIndex := 6, attributes := #[] }, { accessFlags := 16409, nameIndex := 18, descriptorIndex := 6, attributes := #[] }, { accessFlags := 16409, nameIndex := 21, descriptorIndex := 6, attributes := #[] }, { accessFlags := 16409, nameIndex := 24, descriptorIndex := 6, attributes := #[] }, { accessFlags := 16409, nameIndex := 27, descriptorIndex := 6, attributes := #[] }, { accessFlags := 16409, nameIndex := 30, descriptorIndex := 6, attributes := #[] }, { accessFlags := 16409, nameIndex := 33, descriptorIndex := 6, attributes := #[] }, { accessFlags := 16409, nameIndex := 36, descriptorIndex := 6, attributes := #[] }, { accessFlags := 16409, nameIndex := 39, descriptorIndex := 6, attributes := #[] }, { accessFlags := 16409, nameIndex := 42, descriptorIndex := 6, attributes := #[] }, { accessFlags := 16409, nameIndex := 45, descriptorIndex := 6, attributes := #[] }, { accessFlags := 16409, nameIndex := 48, descriptorIndex := 6, attributes := #[] }, { accessFlags := 18, nameIndex := 73, descriptorIndex := 74, attributes := #[] }, { accessFlags := 18, nameIndex := 77, descriptorIndex := 78, attributes := #[] }, { accessFlags := 18, nameIndex := 81, descriptorIndex := 78, attributes := #[] }, { accessFlags := 4122, nameIndex := 51, descriptorIndex := 52, attributes := #[] }])
  fields := #[{ name := "REQUEST", type := (.object "com/example/stile/stile/Message$Type"), accessFlags := 16409, slot := 0, constantValue := 0 }, { name := "REPLY", type := (.object "com/example/stile/stile/Message$Type"), accessFlags := 16409, slot := 1, constantValue := 0 }, { name := "HEARTBEAT", type := (.object "com/example/stile/stile/Message$Type"), accessFlags := 16409, slot := 2, constantValue := 0 }, { name := "ELECTION", type := (.object "com/example/stile/stile/Message$Type"), accessFlags := 16409, slot := 3, constantValue := 0 }, { name := "ANSWER", type := (.object "com/example/stile/stile/Message$Type"), accessFlags := 16409, slot := 4, constantValue := 0 }, { name := "COORDINATOR", type := (.object "com/example/stile/stile/Message$Type"), accessFlags := 16409, slot := 5, constantValue := 0 }, { name := "GRANT", type := (.object "com/example/stile/stile/Message$Type"), accessFlags := 16409, slot := 6, constantValue := 0 }, { name := "RELEASE", type := (.object "com/example/stile/stile/Message$Type"), accessFlags := 16409, slot := 7, constantValue := 0 }, { name := "HELD", type := (.object "com/example/stile/stile/Message$Type"), accessFlags := 16409, slot := 8, constantValue := 0 }, { name := "REPORTED", type := (.object "com/example/stile/stile/Message$Type"), accessFlags := 16409, slot := 9, constantValue := 0 }, { name := "LOCKED", type := (.object "com/example/stile/stile/Message$Type"), accessFlags := 16409, slot := 10, constantValue := 0 }, { name := "INQUIRE", type := (.object "com/example/stile/stile/Message$Type"), accessFlags := 16409, slot := 11, constantValue := 0 }, { name := "FAILED", type := (.object "com/example/stile/stile/Message$Type"), accessFlags := 16409, slot := 12, constantValue := 0 }, { name := "RELINQUISH", type := (.object "com/example/stile/stile/Message$Type"), accessFlags := 16409, slot := 13, constantValue := 0 }, { name := "TOKEN", type := (.object "com/example/stile/stile/Message$Type"), accessFlags := 16409, slot := 14, constantValue := 0 }, { name := "code", type := .int, accessFlags := 18, slot := 3, constantValue := 0 }, { name := "aboutLock", type := .boolean, accessFlags := 18, slot := 4, constantValue := 0 }, { name := "carriesToken", type := .boolean, accessFlags := 18, slot := 5, constantValue := 0 }, { name := "$VALUES", type := (.array (.object "com/example/stile/stile/Message$Type")), accessFlags := 4122, slot := 15, constantValue := 0 }]
  methods := #[k6m0, k6m1, k6m2]
  instanceTypes := #[(.object "java/lang/String"), .int, .int, .int, .boolean, .boolean]
  staticTypes := #[(.object "com/example/stile/stile/Message$Type"), (.object "com/example/stile/stile/Message$Type"), (.object "com/example/stile/stile/Message$Type"), (.object "com/example/stile/stile/Message$Type"), (.object "com/example/stile/stile/Message$Type"), (.object "com/example/stile/stile/Message$Type"), (.object "com/example/stile/stile/Message$Type"), (.object "com/example/stile/stile/Message$Type"), (.object "com/example/stile/stile/Message$Type"), (.object "com/example/stile/stile/Message$Type"), (.object "com/example/stile/stile/Message$Type"), (.object "com/example/stile/stile/Message$Type"), (.object "com/example/stile/stile/Message$Type"), (.object "com/example/stile/stile/Message$Type"), (.object "com/example/stile/stile/Message$Type"), (.array (.object "com/example/stile/stile/Message$Type"))]
  resolved := Array.replicate 129 none
  statics := some 0 }

def pool7 : Array CpInfo := pool [(1, .class_ 2), (0, u "java/lang/Cloneable"), (0, .class_ 4), (0, u "java/lang/Object")] 2

/-- java/lang/Cloneable -/
def k7 : Class := { plain "java/lang/Cloneable" (some 0) with
  accessFlags := 1537
  interfaces := #[]
  cf := some (fileOf pool7 1 #[] #[] 1537 3 #[] #[])
  fields := #[]
  methods := #[]
  instanceTypes := #[]
  staticTypes := #[]
  resolved := Array.replicate 7 none
  statics := none }

/-- the primitive byte -/
def k8 : Class := { plain "byte" none with kind := .primitive 'B', accessFlags := 0x411 }
/-- [B -/
def k9 : Class := { plain "[B" (some 0) with kind := .array 8 .byte, interfaces := #[7, 4], accessFlags := 1041 }

/-- the primitive int -/
def k10 : Class := { plain "int" none with kind := .primitive 'I', accessFlags := 0x411 }
/-- [I -/
def k11 : Class := { plain "[I" (some 0) with kind := .array 10 .int, interfaces := #[7, 4], accessFlags := 1041 }

/-- [Lcom/example/stile/stile/Message$Type; -/
def k12 : Class := { plain "[Lcom/example/stile/stile/Message$Type;" (some 0) with kind := .array 6 (.object "com/example/stile/stile/Message$Type"), interfaces := #[7, 4], accessFlags := 1041 }

def heap : Heap := #[{ cls := 6, slots := #[.ref 2, .ref 3, .ref 4, .ref 5, .ref 6, .ref 7, .ref 8, .ref 9, .ref 10, .ref 11, .ref 12, .ref 13, .ref 14, .ref 15, .ref 16, .ref 1], vm := .statics 6 },
  { cls := 12, slots := #[.ref 2, .ref 3, .ref 4, .ref 5, .ref 6, .ref 7, .ref 8, .ref 9, .ref 10, .ref 11, .ref 12, .ref 13, .ref 14, .ref 15, .ref 16], vm := .none },
  { cls := 6, slots := #[.null, .int 0, .int 0, .int 1, .int 0, .int 0], vm := .none },
  { cls := 6, slots := #[.null, .int 0, .int 0, .int 2, .int 0, .int 0], vm := .none },
  { cls := 6, slots := #[.null, .int 0, .int 0, .int 3, .int 0, .int 0], vm := .none },
  { cls := 6, slots := #[.null, .int 0, .int 0, .int 4, .int 0, .int 0], vm := .none },
  { cls := 6, slots := #[.null, .int 0, .int 0, .int 5, .int 0, .int 0], vm := .none },
  { cls := 6, slots := #[.null, .int 0, .int 0, .int 6, .int 0, .int 0], vm := .none },
  { cls := 6, slots := #[.null, .int 0, .int 0, .int 7, .int 0, .int 0], vm := .none },
  { cls := 6, slots := #[.null, .int 0, .int 0, .int 8, .int 0, .int 0], vm := .none },
  { cls := 6, slots := #[.null, .int 0, .int 0, .int 9, .int 0, .int 0], vm := .none },
  { cls := 6, slots := #[.null, .int 0, .int 0, .int 10, .int 0, .int 0], vm := .none },
  { cls := 6, slots := #[.null, .int 0, .int 0, .int 11, .int 0, .int 0], vm := .none },
  { cls := 6, slots := #[.null, .int 0, .int 0, .int 12, .int 0, .int 0], vm := .none },
  { cls := 6, slots := #[.null, .int 0, .int 0, .int 13, .int 0, .int 0], vm := .none },
  { cls := 6, slots := #[.null, .int 0, .int 0, .int 14, .int 0, .int 0], vm := .none },
  { cls := 6, slots := #[.null, .int 0, .int 0, .int 15, .int 0, .int 0], vm := .none }]
def classes : Array Class := #[k0, k1, k2, k3, k4, k5, k6, k7, k8, k9, k10, k11, k12]
def interned : List (Array UInt16 × Addr) := []
def slotsUsed : Nat := 121
def theMethod : MethodId := ⟨1, 1⟩
def args0 : Array Value := #[.int 5, .int 9]
def aboutOver (below : List Frame) : State where
  vm := { classes := classes, interned := interned.toArray }
  heap := heap
  slotsUsed := slotsUsed
  threads := #[{ frames := .invoking theMethod args0 :: below }]
def below0 : List Frame := [.native { method := ⟨0, 0⟩, args := #[] }]
def about1 : State := aboutOver below0
def p0 : Program := .bare "" "" ""
def e0 : Env := launch0.env 0 0 0
theorem w_frames : about1.frames = Frame.invoking theMethod args0 :: below0 := rfl
set_option maxRecDepth 65536 in
theorem w_args : argsFit about1.vm theMethod args0 = true := by decide +kernel
set_option maxRecDepth 65536 in
theorem w_heap : heapFits about1 = true := by decide +kernel
set_option maxRecDepth 65536 in
theorem w_runnable : about1.curStatus? = some .runnable := by decide +kernel
set_option maxRecDepth 65536 in
theorem w_alone : about1.alone = true := by decide +kernel
set_option maxRecDepth 65536 in
theorem w_named : about1.methodNamed? x = some theMethod := by decide +kernel
set_option maxRecDepth 65536 in
theorem w_hears : about1.hears theMethod below0 = true := by decide +kernel
set_option maxRecDepth 65536 in
theorem w_ripe : about1.ripe theMethod args0 below0 = true := by decide +kernel
theorem w_running : about1.status = .running := rfl
set_option maxRecDepth 65536 in
theorem w_room : about1.hasRoom e0.platform room_1 = true :=
  launch0.hasRoom_least _ room_1 (by decide +kernel) (by decide +kernel) (by decide +kernel) (by decide +kernel) (by decide +kernel) (by decide +kernel)
theorem allAtoms_all (ts : List Jvm.Cond) (a : Array Jvm.Value) (st : Jvm.State) : (allAtoms ts).before a st = ts.all (fun c => c.before a st) := by
  induction ts with
  | nil => rfl
  | cons c t ih =>
    show (Jvm.Cond.and c (allAtoms t)).before a st = _
    rw [Jvm.Cond.before_and, ih, List.all_cons]
def words1 : List Jvm.Cond := Jvm.Cond.code x code maxLocals ret :: tables_1
/-- a 'code' word, met by the world's own term for the bytes: nothing is compared byte by byte -/
theorem code_word {y : MethodName} {bytes : ByteArray} {mx : Nat} {rt : Option FieldType} {a : Array Value} {s : State} {m : MethodId} {meth : Method} {c : Code} (h1 : s.methodNamed? y = some m) (h2 : s.vm.method? m = some meth) (h3 : meth.code = some c) (h4 : c.code = bytes)
    (h5 : (c.maxLocals == mx && c.exceptionTable.isEmpty && decide (c.maxStack ≤ mostOperands) && decide (meth.sig.returnType = rt) && !meth.locks && decide (parseMethodDescriptor y.desc = some meth.sig)) = true) : (Jvm.Cond.code y bytes mx rt).before a s = true := by
  simp only [Bool.and_eq_true, beq_iff_eq, Bool.not_eq_true', decide_eq_true_eq] at h5
  obtain ⟨⟨⟨⟨⟨g1, g2⟩, g3⟩, g4⟩, g5⟩, g6⟩ := h5
  simp [Cond.before, Cond.holds, Cond.value, h1, h2, h3, h4, g1, g2, g3, g4, g5, g6]
def isCode : Jvm.Cond → Bool
  | .code _ _ _ _ => true
  | _ => false
theorem all_split {L : List Jvm.Cond} {P : Jvm.Cond → Bool} (h1 : L.all (fun c => isCode c || P c) = true) (h2 : ∀ c ∈ L.filter isCode, P c = true) : L.all P = true := by
  refine List.all_eq_true.mpr fun c hc => ?_
  have h := List.all_eq_true.mp h1 c hc
  rcases Bool.eq_false_or_eq_true (isCode c) with hi | hi
  · exact h2 c (List.mem_filter.mpr ⟨hc, hi⟩)
  · simpa [hi] using h
set_option maxRecDepth 65536 in
theorem w_c0 : (Jvm.Cond.code x code maxLocals ret).before args0 about1 = true := code_word (m := ⟨1, 1⟩) (meth := k1m1) (c := k1c1) (by decide +kernel) rfl rfl rfl (by decide +kernel)
set_option maxRecDepth 65536 in
theorem w_c1 : (Jvm.Cond.code ({ cls := "com/example/stile/stile/Message$Type", name := "of", desc := "(I)Lcom/example/stile/stile/Message$Type;" } : Jvm.MethodName) prog_48_method_8_code (5 : Nat) (Option.some (Jvm.ClassFile.FieldType.object "com/example/stile/stile/Message$Type"))).before args0 about1 = true := code_word (m := ⟨6, 2⟩) (meth := k6m2) (c := k6c2) (by decide +kernel) rfl rfl rfl (by decide +kernel)
set_option maxRecDepth 65536 in
theorem w_c2 : (Jvm.Cond.code ({ cls := "com/example/stile/stile/Message$Type", name := "values", desc := "()[Lcom/example/stile/stile/Message$Type;" } : Jvm.MethodName) prog_48_method_1_code (0 : Nat) (Option.some (Jvm.ClassFile.FieldType.array (Jvm.ClassFile.FieldType.object "com/example/stile/stile/Message$Type")))).before args0 about1 = true := code_word (m := ⟨6, 0⟩) (meth := k6m0) (c := k6c0) (by decide +kernel) rfl rfl rfl (by decide +kernel)
set_option maxRecDepth 65536 in
theorem w_c3 : (Jvm.Cond.code ({ cls := "com/example/stile/stile/Message$Type", name := "code", desc := "()I" } : Jvm.MethodName) prog_48_method_5_code (1 : Nat) (Option.some Jvm.ClassFile.FieldType.int)).before args0 about1 = true := code_word (m := ⟨6, 1⟩) (meth := k6m1) (c := k6c1) (by decide +kernel) rfl rfl rfl (by decide +kernel)
def codes1 : List Jvm.Cond := [Jvm.Cond.code x code maxLocals ret, Jvm.Cond.code ({ cls := "com/example/stile/stile/Message$Type", name := "of", desc := "(I)Lcom/example/stile/stile/Message$Type;" } : Jvm.MethodName) prog_48_method_8_code (5 : Nat) (Option.some (Jvm.ClassFile.FieldType.object "com/example/stile/stile/Message$Type")), Jvm.Cond.code ({ cls := "com/example/stile/stile/Message$Type", name := "values", desc := "()[Lcom/example/stile/stile/Message$Type;" } : Jvm.MethodName) prog_48_method_1_code (0 : Nat) (Option.some (Jvm.ClassFile.FieldType.array (Jvm.ClassFile.FieldType.object "com/example/stile/stile/Message$Type"))), Jvm.Cond.code ({ cls := "com/example/stile/stile/Message$Type", name := "code", desc := "()I" } : Jvm.MethodName) prog_48_method_5_code (1 : Nat) (Option.some Jvm.ClassFile.FieldType.int)]
set_option maxRecDepth 65536 in
theorem codes_eq : words1.filter isCode = codes1 := rfl
theorem w_codes : ∀ c ∈ words1.filter isCode, c.before args0 about1 = true := by
  rw [codes_eq]
  intro c hc
  simp only [codes1, List.mem_cons, List.not_mem_nil, or_false] at hc
  rcases hc with rfl | rfl | rfl | rfl
  · exact w_c0
  · exact w_c1
  · exact w_c2
  · exact w_c3
set_option maxRecDepth 65536 in
theorem w_t1 : (words1.take 24).all (fun c => isCode c || c.before args0 about1) = true := by decide +kernel
set_option maxRecDepth 65536 in
theorem w_t2 : (words1.drop 24).all (fun c => isCode c || c.before args0 about1) = true := by decide +kernel
theorem w_tables : (allAtoms (Jvm.Cond.code x code maxLocals ret :: tables_1)).before args0 about1 = true := by
  rw [allAtoms_all]
  show words1.all (fun c => c.before args0 about1) = true
  refine all_split ?_ w_codes
  rw [← List.take_append_drop 24 words1, List.all_append, w_t1, w_t2]
  rfl
set_option maxRecDepth 65536 in
theorem w_case : (Jvm.Cond.and given_1 narrow_1).before args0 about1 = true := by decide +kernel
theorem w_applies : (headSpec (Jvm.Cond.code x code maxLocals ret :: tables_1) room_1).applies x e0.platform about1 = true :=
  (Spec.applies_iff w_frames).mpr ⟨w_running, w_runnable, w_alone, w_named, w_hears, w_ripe, w_room, w_tables⟩
theorem atStart : AtStart classFile x code maxLocals ret World_1 tables_1 room_1 Calls_1 rest_1 Pre_1 launch0 p0 e0 about1 theMethod args0 below0 :=
  ⟨lists_1, trivial, launch0.admits_env _ _ _, launch0.least_env, fairChoices_fair.cas, fairChoices_fair.clock, w_frames, w_args, w_heap, w_applies, trivial, trivial, w_case⟩
end start1
theorem witness_1 : WitnessClaimed_1 := ⟨start1.p0, start1.e0, start1.about1, start1.theMethod, start1.args0, start1.below0, start1.atStart⟩
end Jvm.Pilot.@@N@@
