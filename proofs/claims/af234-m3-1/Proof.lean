import JvmDerived
import JvmDerived.Pilot.@@N@@Statement
import JvmDerived.Pilot.@@N@@Code
set_option linter.unusedVariables false
set_option linter.unusedSimpArgs false
@@BLOCK:NumsL.lean.txt@@
namespace Jvm.RoadKit
open Sem ClassFile Op Lib Jvm.Stand Jvm.Free Jvm.LawKit
section New
variable {p : Program} {l : Launch} {e : Env} {R : Room} {s : State} {m : MethodId} {args : Array Value} {below : List Frame} {meth : Method} {c : Code} {T : State} {locs : List Loc} {cells slots : Nat}
theorem retI (X : Stand p l e R s m args below meth c T locs cells slots) (hx : p.tables.exec = Jvm.exec) {pc : Nat} {Ls : Array Slot} {z : Int32} {rest : List Value} (hret : meth.sig.returnType = some .int) (hd : decode c.code pc = .ok (.ireturn, 1)) {fs : List Frame}
    (hl : ∀ (f : JFrame) (acts : List Action), f.method = m → f.locked = none → f.entered = [] → (doReturn e (T.setTop f) acts (some (.int z))).1 = T.setFrames fs) : Steps p.tables e below (T.setTop (mkF m pc Ls (.int z :: rest))) (T.setFrames fs) := by
  have hm' : T.vm.method? m = some meth := X.method'
  have hn : narrow .int (.int z) = .int z := rfl
  show Steps p.tables e below (T.setTop { method := m, pc := pc, locals := Ls, stack := _ :: rest, locked := none }) _
  jvm_step X.here [X.here.top, hx, hd, hm', hret, hn]
  first | (intro acts; rw [hl _ acts rfl rfl rfl]) | rw [hl _ _ rfl rfl rfl]
  exact Steps.refl _
theorem own_retA (X : Stand p l e R s m args below meth c T locs cells slots) (hx : p.tables.exec = Jvm.exec) {pc : Nat} {Ls : Array Slot} {t : FieldType} {w : Value} {rest : List Value} (hret : meth.sig.returnType = some t) (ht : t.isReference = true) (hw : w.isRef = true) (hd : decode c.code pc = .ok (.areturn, 1)) {fs : List Frame}
    (hl : ∀ (f : JFrame) (acts : List Action), f.method = m → f.locked = none → f.entered = [] → (doReturn e (T.setTop f) acts (some w)).1 = T.setFrames fs) : Steps p.tables e below (T.setTop (mkF m pc Ls (w :: rest))) (T.setFrames fs) :=
  retOut X hx hret (by cases t <;> simp_all [narrow, FieldType.isReference]) (Or.inr (Or.inr (Or.inr (Or.inr ⟨rfl, ht, hw⟩)))) hd hl
end New
end Jvm.RoadKit
namespace Jvm.Pilot.@@N@@
open Jvm Jvm.ClassFile Sem Op Lib Jvm.Free Jvm.Stand Jvm.LawKit Jvm.RoadKit Bundle Jvm.Pilot.@@N@@.Jvm.D
abbrev own_jv (x : Int64) : Slot := .val (.long x)
/-- a callee that leaves the heap as it was and returns r -/
def own_QP (r : Option Value) (h0 : Heap) (n0 : Nat) (v : Option Value) (h : Heap) (L : List Loc) : Prop := v = r ∧ Fr n0 L ∧ h = h0
def own_QL (n0 : Nat) (v : Option Value) (h : Heap) (L : List Loc) : Prop := v = some (.int 1) ∧ Fr n0 L
theorem own_eqv {args : Array Value} {first s : State} {o : Option Outcome} {idx : List Nat} {a b : Term} {x : Value} (h : (Cond.eq a b).value args first o s idx = some true) (hb : b.eval args first o idx s = some x) (hx : x.isRef = true ∨ ∃ n, x = .int n) : a.eval args first o idx s = some x := by
  cases ha : a.eval args first o idx s with
  | none => simp [Cond.value, ha, hb] at h
  | some y =>
    rcases hx with hx | ⟨n, rfl⟩
    · rcases ref_cases hx with rfl | ⟨z, rfl⟩ <;> cases y <;> simp_all [Cond.value]
    · cases y <;> simp_all [Cond.value]
theorem own_len {Z : State} {args : Array Value} {t : Term} {a : Addr} {cl : Cell} {ty : FieldType} {n : Int32} (ev : t.eval args Z none [] Z = some (.ref a)) (A : Arr Z Z.heap a cl ty) (h : (Term.length t).eval args Z none [] Z = some (.int n)) : cl.slots.size < 2 ^ 31 ∧ cl.slots.size.toInt32 = n := by
  have hA : Z.arrayAt? a = some cl := Arr.fin (U := Z) (Vm.Alike.refl _) A
  by_cases q : cl.slots.size < 2 ^ 31
  · rw [len_f ev hA q] at h
    exact ⟨q, Value.int.inj (Option.some.inj h)⟩
  · simp [Term.eval, ev, hA, q] at h
theorem own_nei {a b : Int32} (h : a ≠ b) : (Value.int a) ≠ (Value.int b) := fun q => h (Value.int.inj q)
theorem own_Sta_keep {Z : State} {h h' : Heap} {C n d : String} {v : Value} {ws : List Addr} (F : Sta Z h C n d v) (K : Keep h h' ws) (q : ∀ a ∈ ws, ∀ c : Cell, h[a]? = some c → c.vm.isStatics = false) : Sta Z h' C n d v := by
  obtain ⟨cf, i, k, f, st, cell, h1, h2, h3, h4, h5, h6, h7⟩ := F
  exact ⟨cf, i, k, f, st, cell, h1, h2, h3, h4, K.2.1 st cell h5 (fun z => by rw [q st z cell h5] at h6; cases h6), h6, h7⟩
theorem own_st0 {h : Heap} : ∀ a ∈ ([] : List Addr), ∀ c : Cell, h[a]? = some c → c.vm.isStatics = false := fun _ q => nomatch q
theorem own_stS {Z : State} {h : Heap} {b : Addr} {C : String} {L : List Addr} (E : Exa Z h b C) (q : ∀ a ∈ L, ∀ c : Cell, h[a]? = some c → c.vm.isStatics = false) : ∀ a ∈ b :: L, ∀ c : Cell, h[a]? = some c → c.vm.isStatics = false := fun a z c hc => by
  rcases List.mem_cons.mp z with rfl | z
  · obtain ⟨cell, _, h1, _, _, h4, _⟩ := E
    cases h1.symm.trans hc; exact h4
  · exact q a z c hc
/-- a callee that leaves the heap as it was and returns a reference or null -/
def own_QR (h0 : Heap) (n0 : Nat) (v : Option Value) (h : Heap) (L : List Loc) : Prop := ∃ u : Value, v = some u ∧ u.isRef = true ∧ Fr n0 L ∧ h = h0
theorem own_weak {l : Launch} {x : MethodName} {S : Spec} {P : Array Value → State → Prop} {K : Program → Env → List Frame → State → Array Value → Prop} {w : Value} {h0 : Heap} {n0 k j : Nat} (hw : w.isRef = true)
    (h : MetFree l x S P K (fun _ U o U' => ∃ v L, o = .returned v ∧ own_QP (some w) h0 n0 v U'.heap L ∧ FrameEnd U o U' L k j)) :
    MetFree l x S P K (fun _ U o U' => ∃ v L, o = .returned v ∧ own_QR h0 n0 v U'.heap L ∧ FrameEnd U o U' L k j) := fun p e a b c s m args below h1 h2 h3 h4 => by
  obtain ⟨n, o, q1, q2, q3, v, L, e1, ⟨e2, e3, e4⟩, e5⟩ := h p e a b c s m args below h1 h2 h3 h4
  exact ⟨n, o, q1, q2, q3, v, L, e1, ⟨w, e2, hw, e3, e4⟩, e5⟩
theorem own_narO {C : String} (v : Value) (h : v.isRef = true) : narrow (.object C) v = v := by rcases ref_cases h with q | ⟨_, q⟩ <;> (subst q; rfl)
theorem own_fitsO {C : String} {v : Value} (h : v.isRef = true) : fits (.object C) v = true := by rcases ref_cases h with q | ⟨_, q⟩ <;> (subst q; rfl)
theorem own_imp {l : Launch} {x : MethodName} {S : Spec} {P : Array Value → State → Prop} {K : Program → Env → List Frame → State → Array Value → Prop} {Q Q' : Option Value → Heap → List Loc → Prop} {k j : Nat}
    (h : MetFree l x S P K (fun _ U o U' => ∃ v L, o = .returned v ∧ Q v U'.heap L ∧ FrameEnd U o U' L k j)) (hq : ∀ v h L, Q v h L → Q' v h L) :
    MetFree l x S P K (fun _ U o U' => ∃ v L, o = .returned v ∧ Q' v U'.heap L ∧ FrameEnd U o U' L k j) := fun p e a b c s m args below h1 h2 h3 h4 => by
  obtain ⟨n, o, q1, q2, q3, v, L, e1, e2, e3⟩ := h p e a b c s m args below h1 h2 h3 h4
  exact ⟨n, o, q1, q2, q3, v, L, e1, hq _ _ _ e2, e3⟩
/-- a callee that writes nothing old and returns the reference (or null) u -/
def own_QV (val : Value) (h0 : Heap) (n0 : Nat) (v : Option Value) (h : Heap) (L : List Loc) : Prop := ∃ u : Value, v = some u ∧ u = val ∧ u.isRef = true ∧ Fr n0 L ∧ Keep h0 h []
def own_of (q : Int64) (w1 w2 w3 w4 w5 w7 : Addr) : Value := if q = (1 : Int64) then .ref w1 else if q = (2 : Int64) then .ref w2 else if q = (3 : Int64) then .ref w3 else if q = (4 : Int64) then .ref w4 else if q = (5 : Int64) then .ref w5 else if q = (7 : Int64) then .ref w7 else .null
theorem own_sq (qk : Int64) : qk = (1 : Int64) ∨ qk = (2 : Int64) ∨ qk = (3 : Int64) ∨ qk = (4 : Int64) ∨ qk = (5 : Int64) ∨ qk = (7 : Int64) ∨ (¬ ((1 : Int64) = qk) ∧ ¬ ((2 : Int64) = qk) ∧ ¬ ((3 : Int64) = qk) ∧ ¬ ((4 : Int64) = qk) ∧ ¬ ((5 : Int64) = qk) ∧ ¬ ((7 : Int64) = qk) ∧ ¬ (qk = (1 : Int64)) ∧ ¬ (qk = (2 : Int64)) ∧ ¬ (qk = (3 : Int64)) ∧ ¬ (qk = (4 : Int64)) ∧ ¬ (qk = (5 : Int64)) ∧ ¬ (qk = (7 : Int64))) := by
  by_cases h1 : qk = (1 : Int64)
  · exact Or.inl h1
  by_cases h2 : qk = (2 : Int64)
  · exact Or.inr (Or.inl h2)
  by_cases h3 : qk = (3 : Int64)
  · exact Or.inr (Or.inr (Or.inl h3))
  by_cases h4 : qk = (4 : Int64)
  · exact Or.inr (Or.inr (Or.inr (Or.inl h4)))
  by_cases h5 : qk = (5 : Int64)
  · exact Or.inr (Or.inr (Or.inr (Or.inr (Or.inl h5))))
  by_cases h7 : qk = (7 : Int64)
  · exact Or.inr (Or.inr (Or.inr (Or.inr (Or.inr (Or.inl h7)))))
  exact Or.inr (Or.inr (Or.inr (Or.inr (Or.inr (Or.inr (⟨fun q => h1 q.symm, fun q => h2 q.symm, fun q => h3 q.symm, fun q => h4 q.symm, fun q => h5 q.symm, fun q => h7 q.symm, h1, h2, h3, h4, h5, h7⟩))))))
theorem d1_0 : decode prog_10_method_5_code 0 = .ok (.invokestatic 49, 3) := by decide +kernel
theorem d1_3 : decode prog_10_method_5_code 3 = .ok (.astore_n 2, 1) := by decide +kernel
theorem d1_4 : decode prog_10_method_5_code 4 = .ok (.aload_n 2, 1) := by decide +kernel
theorem d1_5 : decode prog_10_method_5_code 5 = .ok (.arraylength, 1) := by decide +kernel
theorem d1_6 : decode prog_10_method_5_code 6 = .ok (.istore_n 3, 1) := by decide +kernel
theorem d1_7 : decode prog_10_method_5_code 7 = .ok (.iconst 0, 1) := by decide +kernel
theorem d1_8 : decode prog_10_method_5_code 8 = .ok (.istore 4, 2) := by decide +kernel
theorem d1_10 : decode prog_10_method_5_code 10 = .ok (.iload 4, 2) := by decide +kernel
theorem d1_12 : decode prog_10_method_5_code 12 = .ok (.iload_n 3, 1) := by decide +kernel
theorem d1_13 : decode prog_10_method_5_code 13 = .ok (.if_icmp .ge 29, 3) := by decide +kernel
theorem d1_16 : decode prog_10_method_5_code 16 = .ok (.aload_n 2, 1) := by decide +kernel
theorem d1_17 : decode prog_10_method_5_code 17 = .ok (.iload 4, 2) := by decide +kernel
theorem d1_19 : decode prog_10_method_5_code 19 = .ok (.aaload, 1) := by decide +kernel
theorem d1_20 : decode prog_10_method_5_code 20 = .ok (.astore 5, 2) := by decide +kernel
theorem d1_22 : decode prog_10_method_5_code 22 = .ok (.aload 5, 2) := by decide +kernel
theorem d1_24 : decode prog_10_method_5_code 24 = .ok (.getfield 41, 3) := by decide +kernel
theorem d1_27 : decode prog_10_method_5_code 27 = .ok (.i2l, 1) := by decide +kernel
theorem d1_28 : decode prog_10_method_5_code 28 = .ok (.lload_n 0, 1) := by decide +kernel
theorem d1_29 : decode prog_10_method_5_code 29 = .ok (.lcmp, 1) := by decide +kernel
theorem d1_30 : decode prog_10_method_5_code 30 = .ok (.ifCond .ne 6, 3) := by decide +kernel
theorem d1_33 : decode prog_10_method_5_code 33 = .ok (.aload 5, 2) := by decide +kernel
theorem d1_35 : decode prog_10_method_5_code 35 = .ok (.areturn, 1) := by decide +kernel
theorem d1_36 : decode prog_10_method_5_code 36 = .ok (.iinc 4 1, 3) := by decide +kernel
theorem d1_39 : decode prog_10_method_5_code 39 = .ok (.goto (-29), 3) := by decide +kernel
theorem d1_42 : decode prog_10_method_5_code 42 = .ok (.aconst_null, 1) := by decide +kernel
theorem d1_43 : decode prog_10_method_5_code 43 = .ok (.areturn, 1) := by decide +kernel
theorem d2_0 : decode prog_10_method_1_code 0 = .ok (.getstatic 22, 3) := by decide +kernel
theorem d2_3 : decode prog_10_method_1_code 3 = .ok (.invokevirtual 26, 3) := by decide +kernel
theorem d2_6 : decode prog_10_method_1_code 6 = .ok (.checkcast 27, 3) := by decide +kernel
theorem d2_9 : decode prog_10_method_1_code 9 = .ok (.areturn, 1) := by decide +kernel
theorem d3_0 : decode method_2_code 0 = .ok (.lload_n 0, 1) := by decide +kernel
theorem d3_1 : decode method_2_code 1 = .ok (.lconst 1, 1) := by decide +kernel
theorem d3_2 : decode method_2_code 2 = .ok (.lcmp, 1) := by decide +kernel
theorem d3_3 : decode method_2_code 3 = .ok (.ifCond .ne 7, 3) := by decide +kernel
theorem d3_6 : decode method_2_code 6 = .ok (.getstatic 7, 3) := by decide +kernel
theorem d3_9 : decode method_2_code 9 = .ok (.areturn, 1) := by decide +kernel
theorem d3_10 : decode method_2_code 10 = .ok (.lload_n 0, 1) := by decide +kernel
theorem d3_11 : decode method_2_code 11 = .ok (.ldc2_w 13, 3) := by decide +kernel
theorem d3_14 : decode method_2_code 14 = .ok (.lcmp, 1) := by decide +kernel
theorem d3_15 : decode method_2_code 15 = .ok (.ifCond .ne 7, 3) := by decide +kernel
theorem d3_18 : decode method_2_code 18 = .ok (.getstatic 15, 3) := by decide +kernel
theorem d3_21 : decode method_2_code 21 = .ok (.areturn, 1) := by decide +kernel
theorem d3_22 : decode method_2_code 22 = .ok (.lload_n 0, 1) := by decide +kernel
theorem d3_23 : decode method_2_code 23 = .ok (.ldc2_w 18, 3) := by decide +kernel
theorem d3_26 : decode method_2_code 26 = .ok (.lcmp, 1) := by decide +kernel
theorem d3_27 : decode method_2_code 27 = .ok (.ifCond .ne 7, 3) := by decide +kernel
theorem d3_30 : decode method_2_code 30 = .ok (.getstatic 20, 3) := by decide +kernel
theorem d3_33 : decode method_2_code 33 = .ok (.areturn, 1) := by decide +kernel
theorem d3_34 : decode method_2_code 34 = .ok (.lload_n 0, 1) := by decide +kernel
theorem d3_35 : decode method_2_code 35 = .ok (.ldc2_w 23, 3) := by decide +kernel
theorem d3_38 : decode method_2_code 38 = .ok (.lcmp, 1) := by decide +kernel
theorem d3_39 : decode method_2_code 39 = .ok (.ifCond .ne 7, 3) := by decide +kernel
theorem d3_42 : decode method_2_code 42 = .ok (.getstatic 25, 3) := by decide +kernel
theorem d3_45 : decode method_2_code 45 = .ok (.areturn, 1) := by decide +kernel
theorem d3_46 : decode method_2_code 46 = .ok (.lload_n 0, 1) := by decide +kernel
theorem d3_47 : decode method_2_code 47 = .ok (.ldc2_w 28, 3) := by decide +kernel
theorem d3_50 : decode method_2_code 50 = .ok (.lcmp, 1) := by decide +kernel
theorem d3_51 : decode method_2_code 51 = .ok (.ifCond .ne 7, 3) := by decide +kernel
theorem d3_54 : decode method_2_code 54 = .ok (.getstatic 30, 3) := by decide +kernel
theorem d3_57 : decode method_2_code 57 = .ok (.areturn, 1) := by decide +kernel
theorem d3_58 : decode method_2_code 58 = .ok (.lload_n 0, 1) := by decide +kernel
theorem d3_59 : decode method_2_code 59 = .ok (.ldc2_w 33, 3) := by decide +kernel
theorem d3_62 : decode method_2_code 62 = .ok (.lcmp, 1) := by decide +kernel
theorem d3_63 : decode method_2_code 63 = .ok (.ifCond .ne 7, 3) := by decide +kernel
theorem d3_66 : decode method_2_code 66 = .ok (.getstatic 35, 3) := by decide +kernel
theorem d3_69 : decode method_2_code 69 = .ok (.areturn, 1) := by decide +kernel
theorem d3_70 : decode method_2_code 70 = .ok (.aconst_null, 1) := by decide +kernel
theorem d3_71 : decode method_2_code 71 = .ok (.areturn, 1) := by decide +kernel
theorem pn_0 : plainName "com/example/strikebook/strikebook/cli/MessageType" = true := by first | (simp [plainName, overriddenIn]; done) | decide +kernel
theorem pn_1 : plainName "com/example/strikebook/strikebook/cli/MessageTypeOfPinLaw" = true := by first | (simp [plainName, overriddenIn]; done) | decide +kernel
theorem pd_0 : parseMethodDescriptor "()[Lcom/example/strikebook/strikebook/cli/MessageType;" = some ⟨[], some (.array (.object "com/example/strikebook/strikebook/cli/MessageType"))⟩ := by decide +kernel
theorem pd_1 : parseMethodDescriptor "(J)Lcom/example/strikebook/strikebook/cli/MessageType;" = some ⟨[.long], some (.object "com/example/strikebook/strikebook/cli/MessageType")⟩ := by decide +kernel
theorem ef_2_ (m : MethodId)  : entryFrame m #[] 0 = mkF m 0 #[] [] := by first | (simp [entryFrame, mkF, argsToLocals, Value.category]; done) | rfl
theorem ef_1_J (m : MethodId) (x0 : Int64) : entryFrame m #[(.long x0)] 6 = mkF m 0 #[own_jv x0, .second, .unset, .unset, .unset, .unset] [] := by first | (simp [entryFrame, mkF, argsToLocals, Value.category]; done) | rfl
theorem ef_3_J (m : MethodId) (x0 : Int64) : entryFrame m #[(.long x0)] 2 = mkF m 0 #[own_jv x0, .second] [] := by first | (simp [entryFrame, mkF, argsToLocals, Value.category]; done) | rfl
theorem ef_0_JI (m : MethodId) (x0 : Int64) (x1 : Int32) : entryFrame m #[(.long x0), (.int x1)] maxLocals = mkF m 0 #[own_jv x0, .second, iv x1, .unset, .unset, .unset, .unset, .unset, .unset, .unset] [] := by first | (simp [entryFrame, mkF, argsToLocals, Value.category, maxLocals]; done) | rfl
def Q_rm2_0 (Z : State) (w_MessageType_SUBMISSION : Addr) (w_MessageType_PARTIAL_CANCEL : Addr) (w_MessageType_DELETION : Addr) (w_MessageType_VISIBLE_EXECUTION : Addr) (w_MessageType_HIDDEN_EXECUTION : Addr) (w_MessageType_HALT : Addr) (k_w_MessageType__VALUES : ClassId) (h0 : Heap) (n0 : Nat) (v : Option Value) (h : Heap) (L : List Loc) : Prop := ∃ b2_2 : Addr, (v = (some (.ref b2_2))) ∧ (Fr n0 L) ∧ (Keep h0 h []) ∧ (n0 ≤ b2_2) ∧ (h0.size ≤ b2_2) ∧ (Arv Z h b2_2 k_w_MessageType__VALUES (.object "com/example/strikebook/strikebook/cli/MessageType") (6 : Int32) [(.ref w_MessageType_SUBMISSION), (.ref w_MessageType_PARTIAL_CANCEL), (.ref w_MessageType_DELETION), (.ref w_MessageType_VISIBLE_EXECUTION), (.ref w_MessageType_HIDDEN_EXECUTION), (.ref w_MessageType_HALT)] .null) ∧ (Exa Z h b2_2 "[Lcom/example/strikebook/strikebook/cli/MessageType;")
set_option maxRecDepth 65536 in
set_option maxHeartbeats 40000000 in
theorem rm2_0 (l : Launch) (Z : State) (a0 : Array Value) (hw : ∀ d ∈ tables_1, d.before a0 Z = true) (ws : List Jvm.Cond) (w_MessageType__VALUES : Addr) (w_MessageType_SUBMISSION : Addr) (w_MessageType_PARTIAL_CANCEL : Addr) (w_MessageType_DELETION : Addr) (w_MessageType_VISIBLE_EXECUTION : Addr) (w_MessageType_HIDDEN_EXECUTION : Addr) (w_MessageType_HALT : Addr) (k_w_MessageType__VALUES : ClassId) (h0 : Heap) (n0 : Nat) (Z0 : n0 ≤ h0.size) (S_MessageType__VALUES : Sta Z h0 "com/example/strikebook/strikebook/cli/MessageType" "$VALUES" "[Lcom/example/strikebook/strikebook/cli/MessageType;" (.ref w_MessageType__VALUES)) (V_w_MessageType__VALUES : Arv Z h0 w_MessageType__VALUES k_w_MessageType__VALUES (.object "com/example/strikebook/strikebook/cli/MessageType") (6 : Int32) [(.ref w_MessageType_SUBMISSION), (.ref w_MessageType_PARTIAL_CANCEL), (.ref w_MessageType_DELETION), (.ref w_MessageType_VISIBLE_EXECUTION), (.ref w_MessageType_HIDDEN_EXECUTION), (.ref w_MessageType_HALT)] .null) (E_w_MessageType__VALUES : Exa Z h0 w_MessageType__VALUES "[Lcom/example/strikebook/strikebook/cli/MessageType;") :
    MetFree l (⟨"com/example/strikebook/strikebook/cli/MessageType", "values", "()[Lcom/example/strikebook/strikebook/cli/MessageType;"⟩ : MethodName) (head1 (Jvm.Cond.code (⟨"com/example/strikebook/strikebook/cli/MessageType", "values", "()[Lcom/example/strikebook/strikebook/cli/MessageType;"⟩ : MethodName) prog_10_method_1_code 0 (some (.array (.object "com/example/strikebook/strikebook/cli/MessageType"))) :: ws) ({ frames := 1, cells := 1, slots := 6, locals := 14 } : Room)) (fun a U => a = #[] ∧ Z.Warmed39 U.vm ∧ U.heap = h0) (fun _ _ _ _ _ => True) (fun _ U o U' => ∃ v L, o = .returned v ∧ Q_rm2_0 Z w_MessageType_SUBMISSION w_MessageType_PARTIAL_CANCEL w_MessageType_DELETION w_MessageType_VISIBLE_EXECUTION w_MessageType_HIDDEN_EXECUTION w_MessageType_HALT k_w_MessageType__VALUES h0 n0 v U'.heap L ∧ FrameEnd U o U' L ({ frames := 1, cells := 1, slots := 6, locals := 14 } : Room).cells ({ frames := 1, cells := 1, slots := 6, locals := 14 } : Room).slots) := by
  refine MetFree.of_bodySF (plainFor_of_name pn_0) hisR ?_
  intro p e s m args below meth c s₁ Bd hml0 hP hK
  obtain ⟨rfl, hZ, hh⟩ := hP
  have hx := Bd.exec
  have hby := Bd.bytes
  have hml : c.maxLocals = 0 := hml0
  have hown : s.vm.findClass "com/example/strikebook/strikebook/cli/MessageType" = some m.cls := findClass_of_methodNamed Bd.named
  have hnm := (name_of_methodNamed Bd.named Bd.method).1
  have X0 : Stand p l e ({ frames := 1, cells := 1, slots := 6, locals := 14 } : Room) s m #[] below meth c s₁ [] 0 0 := Stand.of_body Bd
  have e0 : s₁.heap = h0 := by rw [← hh, Bd.state]; rfl
  have N0 := Fr.nil n0
  have pre0 : ∀ t, Steps p.tables e below (s₁.setTop (mkF m 0 #[] [])) t → Steps p.tables e below (s₁.setTop (entryFrame m #[] 0)) t := fun t k => castTop (ef_2_ m ) k
  obtain ⟨T1, X1, e1, st1⟩ := getS2 X0 hx hZ hown (host := "") (Or.inl (hw _ (List.mem_of_getElem? (i := 8) rfl))) Via.refl e0 S_MessageType__VALUES (g := (mkF m 0 #[] [])) rfl (hb hby d2_0)
  obtain ⟨T2, h2, X2, e2, E2, A2, B2, st2⟩ := cloneH X1 hx hZ hown (hw _ (List.mem_of_getElem? (i := 10) rfl)) (hw _ (List.mem_of_getElem? (i := 11) rfl)) (hw _ (List.mem_of_getElem? (i := 15) rfl)) (hw _ (List.mem_of_getElem? (i := 13) rfl)) (hw _ (List.mem_of_getElem? (i := 14) rfl)) (hw _ (List.mem_of_getElem? (i := 16) rfl)) e1 (Arv.arh V_w_MessageType__VALUES) E_w_MessageType__VALUES (g := (mkF m 3 #[] [(.ref w_MessageType__VALUES)])) rfl (by rw [hml]; rfl) rfl (hb hby d2_3) (by decide) (W := 0) (cap := 6) (by show 2 * 0 + _ ≤ _; exact Nat.le_of_eq rfl) (by decide) (by decide) (by decide) (by decide)
  obtain ⟨b2_2, gg2⟩ : ∃ z, z = h0.size := ⟨_, rfl⟩
  rw [← gg2] at A2 B2 st2
  have g_b2_2 : n0 ≤ b2_2 := Nat.le_trans Z0 (Nat.le_of_eq gg2.symm)
  have sz_b2_2 : h0.size ≤ b2_2 := Nat.le_trans (Keep.refl h0 []).1 (Nat.le_of_eq gg2.symm)
  have Z2 : n0 ≤ h2.size := Nat.le_trans Z0 E2.1
  have KK2 : Keep h0 h2 [] := (Keep.refl h0 []).ext E2
  have V_b2_2 : Arv Z h2 b2_2 k_w_MessageType__VALUES (.object "com/example/strikebook/strikebook/cli/MessageType") (6 : Int32) [(.ref w_MessageType_SUBMISSION), (.ref w_MessageType_PARTIAL_CANCEL), (.ref w_MessageType_DELETION), (.ref w_MessageType_VISIBLE_EXECUTION), (.ref w_MessageType_HIDDEN_EXECUTION), (.ref w_MessageType_HALT)] .null := A2
  have E_b2_2 : Exa Z h2 b2_2 "[Lcom/example/strikebook/strikebook/cli/MessageType;" := B2
  obtain ⟨T3, X3, e3, st3⟩ := castY X2 hx hZ hown (hw _ (List.mem_of_getElem? (i := 24) rfl)) e2 (Ins.self E_b2_2) (g := (mkF m 6 #[] [(.ref b2_2)])) rfl rfl (hb hby d2_6)
  obtain ⟨fs, hr, hrun, hended, hW, hsame⟩ := X3.leave (v := (some (.ref b2_2))) (fun h => by rw [Bd.returns] at h; cases h)
  refine ⟨_, _, pre0 _ ?_, hrun, hended, _, _, rfl, ?_, ⟨_, rfl⟩, hW, hsame.mono (by decide) (by decide)⟩
  · show Steps p.tables e below (s₁.setTop (mkF m 0 #[] [])) _
    refine st1 _ ?_
    show Steps p.tables e below (T1.setTop (mkF m 3 #[] [(.ref w_MessageType__VALUES)])) _
    refine st2 _ ?_
    show Steps p.tables e below (T2.setTop (mkF m 6 #[] [(.ref b2_2)])) _
    refine st3 _ ?_
    show Steps p.tables e below (T3.setTop (mkF m 9 #[] [(.ref b2_2)])) _
    exact own_retA X3 hx Bd.returns rfl rfl (hb hby d2_9) hr
  · exact (by show Q_rm2_0 Z w_MessageType_SUBMISSION w_MessageType_PARTIAL_CANCEL w_MessageType_DELETION w_MessageType_VISIBLE_EXECUTION w_MessageType_HIDDEN_EXECUTION w_MessageType_HALT k_w_MessageType__VALUES h0 n0 _ T3.heap _; rw [e3]; exact ⟨b2_2, rfl, N0, KK2, g_b2_2, sz_b2_2, V_b2_2, E_b2_2⟩)
def Q_rk_of_0 (Z : State) (w_MessageType_SUBMISSION : Addr) (h0 : Heap) (n0 : Nat) (v : Option Value) (h : Heap) (L : List Loc) : Prop := (v = (some (.ref w_MessageType_SUBMISSION))) ∧ (Fr n0 L) ∧ (Keep h0 h [])
set_option maxRecDepth 65536 in
set_option maxHeartbeats 40000000 in
theorem rk_of_0 (l : Launch) (Z : State) (a0 : Array Value) (hw : ∀ d ∈ tables_1, d.before a0 Z = true) (ws : List Jvm.Cond) (w_MessageType__VALUES : Addr) (w_MessageType_SUBMISSION : Addr) (w_MessageType_PARTIAL_CANCEL : Addr) (w_MessageType_DELETION : Addr) (w_MessageType_VISIBLE_EXECUTION : Addr) (w_MessageType_HIDDEN_EXECUTION : Addr) (w_MessageType_HALT : Addr) (k_w_MessageType__VALUES : ClassId) (h0 : Heap) (n0 : Nat) (Z0 : n0 ≤ h0.size) (S_MessageType__VALUES : Sta Z h0 "com/example/strikebook/strikebook/cli/MessageType" "$VALUES" "[Lcom/example/strikebook/strikebook/cli/MessageType;" (.ref w_MessageType__VALUES)) (V_w_MessageType__VALUES : Arv Z h0 w_MessageType__VALUES k_w_MessageType__VALUES (.object "com/example/strikebook/strikebook/cli/MessageType") (6 : Int32) [(.ref w_MessageType_SUBMISSION), (.ref w_MessageType_PARTIAL_CANCEL), (.ref w_MessageType_DELETION), (.ref w_MessageType_VISIBLE_EXECUTION), (.ref w_MessageType_HIDDEN_EXECUTION), (.ref w_MessageType_HALT)] .null) (E_w_MessageType__VALUES : Exa Z h0 w_MessageType__VALUES "[Lcom/example/strikebook/strikebook/cli/MessageType;") (F_w_MessageType_SUBMISSION_code : Fld Z h0 w_MessageType_SUBMISSION "com/example/strikebook/strikebook/cli/MessageType" "code" "I" (.int (1 : Int32))) :
    MetFree l (⟨"com/example/strikebook/strikebook/cli/MessageType", "of", "(J)Lcom/example/strikebook/strikebook/cli/MessageType;"⟩ : MethodName) (head1 (Jvm.Cond.code (⟨"com/example/strikebook/strikebook/cli/MessageType", "of", "(J)Lcom/example/strikebook/strikebook/cli/MessageType;"⟩ : MethodName) prog_10_method_5_code 6 (some (.object "com/example/strikebook/strikebook/cli/MessageType")) :: ws) ({ frames := 2, cells := 1, slots := 6, locals := 25 } : Room)) (fun a U => a = #[(.long (1 : Int64))] ∧ Z.Warmed39 U.vm ∧ U.heap = h0) (fun _ _ _ _ _ => True) (fun _ U o U' => ∃ v L, o = .returned v ∧ Q_rk_of_0 Z w_MessageType_SUBMISSION h0 n0 v U'.heap L ∧ FrameEnd U o U' L ({ frames := 2, cells := 1, slots := 6, locals := 25 } : Room).cells ({ frames := 2, cells := 1, slots := 6, locals := 25 } : Room).slots) := by
  refine MetFree.of_bodySF (plainFor_of_name pn_0) hisR ?_
  intro p e s m args below meth c s₁ Bd hml0 hP hK
  obtain ⟨rfl, hZ, hh⟩ := hP
  have hx := Bd.exec
  have hby := Bd.bytes
  have hml : c.maxLocals = 6 := hml0
  have hown : s.vm.findClass "com/example/strikebook/strikebook/cli/MessageType" = some m.cls := findClass_of_methodNamed Bd.named
  have hnm := (name_of_methodNamed Bd.named Bd.method).1
  have X0 : Stand p l e ({ frames := 2, cells := 1, slots := 6, locals := 25 } : Room) s m #[(.long (1 : Int64))] below meth c s₁ [] 0 0 := Stand.of_body Bd
  have e0 : s₁.heap = h0 := by rw [← hh, Bd.state]; rfl
  have N0 := Fr.nil n0
  have pre0 : ∀ t, Steps p.tables e below (s₁.setTop (mkF m 0 #[own_jv (1 : Int64), .second, .unset, .unset, .unset, .unset] [])) t → Steps p.tables e below (s₁.setTop (entryFrame m #[(.long (1 : Int64))] 6)) t := fun t k => castTop (ef_1_J m (1 : Int64)) k
  obtain ⟨_, _, ⟨T1, L1, k1, n1⟩, -, X1, ⟨Lc1, hQ1, l1, y1, z1⟩, st1⟩ := Jvm.LawKit.callS X0 hx (y := (⟨"com/example/strikebook/strikebook/cli/MessageType", "values", "()[Lcom/example/strikebook/strikebook/cli/MessageType;"⟩ : MethodName)) hown (mvT hZ (hw _ (List.mem_of_getElem? (i := 5) rfl))) (mvT hZ (hw _ (List.mem_of_getElem? (i := 6) rfl))) (mvT hZ (hw _ (List.mem_of_getElem? (i := 3) rfl))) (mvT hZ (hw _ (List.mem_of_getElem? (i := 7) rfl))) (by decide) (backOf (W := 0) (rm2_0 l Z a0 hw [] w_MessageType__VALUES w_MessageType_SUBMISSION w_MessageType_PARTIAL_CANCEL w_MessageType_DELETION w_MessageType_VISIBLE_EXECUTION w_MessageType_HIDDEN_EXECUTION w_MessageType_HALT k_w_MessageType__VALUES h0 n0 Z0 S_MessageType__VALUES V_w_MessageType__VALUES E_w_MessageType__VALUES) hZ (hw _ (List.mem_of_getElem? (i := 7) rfl)) (hw _ (List.mem_of_getElem? (i := 3) rfl)) (by decide) (by decide)) (g := (mkF m 0 #[own_jv (1 : Int64), .second, .unset, .unset, .unset, .unset] [])) rfl (by rw [hml]; rfl) (argsL := []) (rest := []) (lenOf pd_0 rfl) rfl (by show 2 * 0 + _ ≤ _; exact Nat.le_of_eq rfl) (hb hby d1_0) (fun _ _ => ⟨rfl, e0, (by decide : 0 + 1 ≤ _), (by decide : 0 + 6 ≤ _)⟩)
  dsimp only [Pt.U, Pt.locs, Pt.cells, Pt.slots] at X1 l1 y1 z1 st1 hQ1
  subst l1 y1 z1
  obtain ⟨b1_1_0, rfl, N1q, K1, gq_b1_1_0, le_b1_1_0, fq1_0, fq1_1⟩ := hQ1
  have sz_b1_1_0 : h0.size ≤ b1_1_0 := Nat.le_trans (Keep.refl h0 []).1 le_b1_1_0
  have KK1 : Keep h0 T1.heap [] := (Keep.refl h0 []).trans K1 all0
  have Z1 : n0 ≤ T1.heap.size := Nat.le_trans Z0 K1.1
  have N1 := Fr.app N0 N1q
  obtain ⟨cl2, Ar2, -, Sz2, Nn2, -, -⟩ := id fq1_0
  obtain ⟨cl3, Ar3, -, Sz3, Nn3, Hs3, Gs3⟩ := id fq1_0
  have hin3 : ¬ ((0 : Int32) < 0 ∨ cl3.slots.size ≤ ((0 : Int32)).toNatClampNeg) := inb_of Sz3 ⟨by decide, by decide⟩
  have c4 := (F_w_MessageType_SUBMISSION_code.keep K1 nin0)
  obtain ⟨T5, X5, e5, st5⟩ := getF X1 hx hZ hown (host := "") (Or.inl (hw _ (List.mem_of_getElem? (i := 26) rfl))) Via.refl rfl c4 (g := (mkF m 24 #[own_jv (1 : Int64), .second, rv b1_1_0, iv (6 : Int32), iv (0 : Int32), rv w_MessageType_SUBMISSION] [(.ref w_MessageType_SUBMISSION)])) rfl rfl (hb hby d1_24)
  obtain ⟨fs, hr, hrun, hended, hW, hsame⟩ := X5.leave (v := (some (.ref w_MessageType_SUBMISSION))) (fun h => by rw [Bd.returns] at h; cases h)
  refine ⟨_, _, pre0 _ ?_, hrun, hended, _, _, rfl, ?_, ⟨_, rfl⟩, hW, hsame.mono (by decide) (by decide)⟩
  · show Steps p.tables e below (s₁.setTop (mkF m 0 #[own_jv (1 : Int64), .second, .unset, .unset, .unset, .unset] [])) _
    refine st1 _ ?_
    show Steps p.tables e below (T1.setTop (mkF m 3 #[own_jv (1 : Int64), .second, .unset, .unset, .unset, .unset] [(.ref b1_1_0)])) _
    refine XS.astoreN X1.here hx rfl (hb hby d1_3) rfl rfl (l' := #[own_jv (1 : Int64), .second, rv b1_1_0, .unset, .unset, .unset]) rfl ?_
    show Steps p.tables e below (T1.setTop (mkF m 4 #[own_jv (1 : Int64), .second, rv b1_1_0, .unset, .unset, .unset] [])) _
    refine XS.aloadN X1.here hx rfl (hb hby d1_4) rfl rfl ?_
    show Steps p.tables e below (T1.setTop (mkF m 5 #[own_jv (1 : Int64), .second, rv b1_1_0, .unset, .unset, .unset] [(.ref b1_1_0)])) _
    refine X1.arraylength hx Ar2.1 (State.isArrayOf_alike hZ.alike Ar2.2.1) (g := (mkF m 5 #[own_jv (1 : Int64), .second, rv b1_1_0, .unset, .unset, .unset] [(.ref b1_1_0)])) rfl rfl (hb hby d1_5) _ ?_
    rw [len_of Sz2 Nn2]
    show Steps p.tables e below (T1.setTop (mkF m 6 #[own_jv (1 : Int64), .second, rv b1_1_0, .unset, .unset, .unset] [(.int (6 : Int32))])) _
    refine XS.istoreN X1.here hx rfl (hb hby d1_6) rfl (l' := #[own_jv (1 : Int64), .second, rv b1_1_0, iv (6 : Int32), .unset, .unset]) rfl ?_
    show Steps p.tables e below (T1.setTop (mkF m 7 #[own_jv (1 : Int64), .second, rv b1_1_0, iv (6 : Int32), .unset, .unset] [])) _
    refine XS.iconst X1.here hx rfl (hb hby d1_7) ?_
    show Steps p.tables e below (T1.setTop (mkF m 8 #[own_jv (1 : Int64), .second, rv b1_1_0, iv (6 : Int32), .unset, .unset] [(.int (0 : Int32))])) _
    refine XS.istore X1.here hx rfl (hb hby d1_8) rfl (l' := #[own_jv (1 : Int64), .second, rv b1_1_0, iv (6 : Int32), iv (0 : Int32), .unset]) rfl ?_
    show Steps p.tables e below (T1.setTop (mkF m 10 #[own_jv (1 : Int64), .second, rv b1_1_0, iv (6 : Int32), iv (0 : Int32), .unset] [])) _
    refine XS.iload X1.here hx rfl (hb hby d1_10) rfl ?_
    show Steps p.tables e below (T1.setTop (mkF m 12 #[own_jv (1 : Int64), .second, rv b1_1_0, iv (6 : Int32), iv (0 : Int32), .unset] [(.int (0 : Int32))])) _
    refine XS.iloadN X1.here hx rfl (hb hby d1_12) rfl ?_
    show Steps p.tables e below (T1.setTop (mkF m 13 #[own_jv (1 : Int64), .second, rv b1_1_0, iv (6 : Int32), iv (0 : Int32), .unset] [(.int (6 : Int32)), (.int (0 : Int32))])) _
    refine XS.icmpNo X1.here hx rfl (hb hby d1_13) rfl (tlt (by decide +kernel : (0 : Int32) < (6 : Int32))).2.1 ?_
    show Steps p.tables e below (T1.setTop (mkF m 16 #[own_jv (1 : Int64), .second, rv b1_1_0, iv (6 : Int32), iv (0 : Int32), .unset] [])) _
    refine XS.aloadN X1.here hx rfl (hb hby d1_16) rfl rfl ?_
    show Steps p.tables e below (T1.setTop (mkF m 17 #[own_jv (1 : Int64), .second, rv b1_1_0, iv (6 : Int32), iv (0 : Int32), .unset] [(.ref b1_1_0)])) _
    refine XS.iload X1.here hx rfl (hb hby d1_17) rfl ?_
    show Steps p.tables e below (T1.setTop (mkF m 19 #[own_jv (1 : Int64), .second, rv b1_1_0, iv (6 : Int32), iv (0 : Int32), .unset] [(.int (0 : Int32)), (.ref b1_1_0)])) _
    refine X1.aaload hx (j := (0 : Int32)) (v := (.ref w_MessageType_SUBMISSION)) Ar3.1 (State.isArrayOf_alike hZ.alike Ar3.2.1) rfl Ar3.2.2 hin3 (Hs3.at hin3 rfl) (g := (mkF m 19 #[own_jv (1 : Int64), .second, rv b1_1_0, iv (6 : Int32), iv (0 : Int32), .unset] [(.int (0 : Int32)), (.ref b1_1_0)])) rfl rfl (hb hby d1_19) _ ?_
    show Steps p.tables e below (T1.setTop (mkF m 20 #[own_jv (1 : Int64), .second, rv b1_1_0, iv (6 : Int32), iv (0 : Int32), .unset] [(.ref w_MessageType_SUBMISSION)])) _
    refine XS.astore X1.here hx rfl (hb hby d1_20) rfl rfl (l' := #[own_jv (1 : Int64), .second, rv b1_1_0, iv (6 : Int32), iv (0 : Int32), rv w_MessageType_SUBMISSION]) rfl ?_
    show Steps p.tables e below (T1.setTop (mkF m 22 #[own_jv (1 : Int64), .second, rv b1_1_0, iv (6 : Int32), iv (0 : Int32), rv w_MessageType_SUBMISSION] [])) _
    refine XS.aload X1.here hx rfl (hb hby d1_22) rfl rfl ?_
    show Steps p.tables e below (T1.setTop (mkF m 24 #[own_jv (1 : Int64), .second, rv b1_1_0, iv (6 : Int32), iv (0 : Int32), rv w_MessageType_SUBMISSION] [(.ref w_MessageType_SUBMISSION)])) _
    refine st5 _ ?_
    show Steps p.tables e below (T5.setTop (mkF m 27 #[own_jv (1 : Int64), .second, rv b1_1_0, iv (6 : Int32), iv (0 : Int32), rv w_MessageType_SUBMISSION] [(.int (1 : Int32))])) _
    refine XS.i2l X5.here hx rfl (hb hby d1_27) rfl ?_
    show Steps p.tables e below (T5.setTop (mkF m 28 #[own_jv (1 : Int64), .second, rv b1_1_0, iv (6 : Int32), iv (0 : Int32), rv w_MessageType_SUBMISSION] [(.long ((1 : Int32).toInt64))])) _
    rewrite [show ((1 : Int32).toInt64) = (1 : Int64) from by decide +kernel]
    show Steps p.tables e below (T5.setTop (mkF m 28 #[own_jv (1 : Int64), .second, rv b1_1_0, iv (6 : Int32), iv (0 : Int32), rv w_MessageType_SUBMISSION] [(.long (1 : Int64))])) _
    refine XS.lloadN X5.here hx rfl (hb hby d1_28) rfl ?_
    show Steps p.tables e below (T5.setTop (mkF m 29 #[own_jv (1 : Int64), .second, rv b1_1_0, iv (6 : Int32), iv (0 : Int32), rv w_MessageType_SUBMISSION] [(.long (1 : Int64)), (.long (1 : Int64))])) _
    refine XS.lcmp X5.here hx rfl (hb hby d1_29) rfl ?_
    show Steps p.tables e below (T5.setTop (mkF m 30 #[own_jv (1 : Int64), .second, rv b1_1_0, iv (6 : Int32), iv (0 : Int32), rv w_MessageType_SUBMISSION] [(.int (lcmpW (1 : Int64) (1 : Int64)))])) _
    rewrite [show (lcmpW (1 : Int64) (1 : Int64)) = (0 : Int32) from by decide +kernel]
    show Steps p.tables e below (T5.setTop (mkF m 30 #[own_jv (1 : Int64), .second, rv b1_1_0, iv (6 : Int32), iv (0 : Int32), rv w_MessageType_SUBMISSION] [(.int (0 : Int32))])) _
    refine XS.ifNo X5.here hx rfl (hb hby d1_30) rfl ((if0 _ _).trans (teq (by decide +kernel : (0 : Int32) = (0 : Int32))).2) ?_
    show Steps p.tables e below (T5.setTop (mkF m 33 #[own_jv (1 : Int64), .second, rv b1_1_0, iv (6 : Int32), iv (0 : Int32), rv w_MessageType_SUBMISSION] [])) _
    refine XS.aload X5.here hx rfl (hb hby d1_33) rfl rfl ?_
    show Steps p.tables e below (T5.setTop (mkF m 35 #[own_jv (1 : Int64), .second, rv b1_1_0, iv (6 : Int32), iv (0 : Int32), rv w_MessageType_SUBMISSION] [(.ref w_MessageType_SUBMISSION)])) _
    exact own_retA X5 hx Bd.returns rfl rfl (hb hby d1_35) hr
  · exact (by show Q_rk_of_0 Z w_MessageType_SUBMISSION h0 n0 _ T5.heap _; rw [e5]; exact ⟨rfl, N1, KK1⟩)
def Q_rk_of_1 (Z : State) (w_MessageType_PARTIAL_CANCEL : Addr) (h0 : Heap) (n0 : Nat) (v : Option Value) (h : Heap) (L : List Loc) : Prop := (v = (some (.ref w_MessageType_PARTIAL_CANCEL))) ∧ (Fr n0 L) ∧ (Keep h0 h [])
set_option maxRecDepth 65536 in
set_option maxHeartbeats 40000000 in
theorem rk_of_1 (l : Launch) (Z : State) (a0 : Array Value) (hw : ∀ d ∈ tables_1, d.before a0 Z = true) (ws : List Jvm.Cond) (w_MessageType__VALUES : Addr) (w_MessageType_SUBMISSION : Addr) (w_MessageType_PARTIAL_CANCEL : Addr) (w_MessageType_DELETION : Addr) (w_MessageType_VISIBLE_EXECUTION : Addr) (w_MessageType_HIDDEN_EXECUTION : Addr) (w_MessageType_HALT : Addr) (k_w_MessageType__VALUES : ClassId) (h0 : Heap) (n0 : Nat) (Z0 : n0 ≤ h0.size) (S_MessageType__VALUES : Sta Z h0 "com/example/strikebook/strikebook/cli/MessageType" "$VALUES" "[Lcom/example/strikebook/strikebook/cli/MessageType;" (.ref w_MessageType__VALUES)) (V_w_MessageType__VALUES : Arv Z h0 w_MessageType__VALUES k_w_MessageType__VALUES (.object "com/example/strikebook/strikebook/cli/MessageType") (6 : Int32) [(.ref w_MessageType_SUBMISSION), (.ref w_MessageType_PARTIAL_CANCEL), (.ref w_MessageType_DELETION), (.ref w_MessageType_VISIBLE_EXECUTION), (.ref w_MessageType_HIDDEN_EXECUTION), (.ref w_MessageType_HALT)] .null) (E_w_MessageType__VALUES : Exa Z h0 w_MessageType__VALUES "[Lcom/example/strikebook/strikebook/cli/MessageType;") (F_w_MessageType_SUBMISSION_code : Fld Z h0 w_MessageType_SUBMISSION "com/example/strikebook/strikebook/cli/MessageType" "code" "I" (.int (1 : Int32))) (F_w_MessageType_PARTIAL_CANCEL_code : Fld Z h0 w_MessageType_PARTIAL_CANCEL "com/example/strikebook/strikebook/cli/MessageType" "code" "I" (.int (2 : Int32))) :
    MetFree l (⟨"com/example/strikebook/strikebook/cli/MessageType", "of", "(J)Lcom/example/strikebook/strikebook/cli/MessageType;"⟩ : MethodName) (head1 (Jvm.Cond.code (⟨"com/example/strikebook/strikebook/cli/MessageType", "of", "(J)Lcom/example/strikebook/strikebook/cli/MessageType;"⟩ : MethodName) prog_10_method_5_code 6 (some (.object "com/example/strikebook/strikebook/cli/MessageType")) :: ws) ({ frames := 2, cells := 1, slots := 6, locals := 25 } : Room)) (fun a U => a = #[(.long (2 : Int64))] ∧ Z.Warmed39 U.vm ∧ U.heap = h0) (fun _ _ _ _ _ => True) (fun _ U o U' => ∃ v L, o = .returned v ∧ Q_rk_of_1 Z w_MessageType_PARTIAL_CANCEL h0 n0 v U'.heap L ∧ FrameEnd U o U' L ({ frames := 2, cells := 1, slots := 6, locals := 25 } : Room).cells ({ frames := 2, cells := 1, slots := 6, locals := 25 } : Room).slots) := by
  refine MetFree.of_bodySF (plainFor_of_name pn_0) hisR ?_
  intro p e s m args below meth c s₁ Bd hml0 hP hK
  obtain ⟨rfl, hZ, hh⟩ := hP
  have hx := Bd.exec
  have hby := Bd.bytes
  have hml : c.maxLocals = 6 := hml0
  have hown : s.vm.findClass "com/example/strikebook/strikebook/cli/MessageType" = some m.cls := findClass_of_methodNamed Bd.named
  have hnm := (name_of_methodNamed Bd.named Bd.method).1
  have X0 : Stand p l e ({ frames := 2, cells := 1, slots := 6, locals := 25 } : Room) s m #[(.long (2 : Int64))] below meth c s₁ [] 0 0 := Stand.of_body Bd
  have e0 : s₁.heap = h0 := by rw [← hh, Bd.state]; rfl
  have N0 := Fr.nil n0
  have pre0 : ∀ t, Steps p.tables e below (s₁.setTop (mkF m 0 #[own_jv (2 : Int64), .second, .unset, .unset, .unset, .unset] [])) t → Steps p.tables e below (s₁.setTop (entryFrame m #[(.long (2 : Int64))] 6)) t := fun t k => castTop (ef_1_J m (2 : Int64)) k
  obtain ⟨_, _, ⟨T1, L1, k1, n1⟩, -, X1, ⟨Lc1, hQ1, l1, y1, z1⟩, st1⟩ := Jvm.LawKit.callS X0 hx (y := (⟨"com/example/strikebook/strikebook/cli/MessageType", "values", "()[Lcom/example/strikebook/strikebook/cli/MessageType;"⟩ : MethodName)) hown (mvT hZ (hw _ (List.mem_of_getElem? (i := 5) rfl))) (mvT hZ (hw _ (List.mem_of_getElem? (i := 6) rfl))) (mvT hZ (hw _ (List.mem_of_getElem? (i := 3) rfl))) (mvT hZ (hw _ (List.mem_of_getElem? (i := 7) rfl))) (by decide) (backOf (W := 0) (rm2_0 l Z a0 hw [] w_MessageType__VALUES w_MessageType_SUBMISSION w_MessageType_PARTIAL_CANCEL w_MessageType_DELETION w_MessageType_VISIBLE_EXECUTION w_MessageType_HIDDEN_EXECUTION w_MessageType_HALT k_w_MessageType__VALUES h0 n0 Z0 S_MessageType__VALUES V_w_MessageType__VALUES E_w_MessageType__VALUES) hZ (hw _ (List.mem_of_getElem? (i := 7) rfl)) (hw _ (List.mem_of_getElem? (i := 3) rfl)) (by decide) (by decide)) (g := (mkF m 0 #[own_jv (2 : Int64), .second, .unset, .unset, .unset, .unset] [])) rfl (by rw [hml]; rfl) (argsL := []) (rest := []) (lenOf pd_0 rfl) rfl (by show 2 * 0 + _ ≤ _; exact Nat.le_of_eq rfl) (hb hby d1_0) (fun _ _ => ⟨rfl, e0, (by decide : 0 + 1 ≤ _), (by decide : 0 + 6 ≤ _)⟩)
  dsimp only [Pt.U, Pt.locs, Pt.cells, Pt.slots] at X1 l1 y1 z1 st1 hQ1
  subst l1 y1 z1
  obtain ⟨b1_1_0, rfl, N1q, K1, gq_b1_1_0, le_b1_1_0, fq1_0, fq1_1⟩ := hQ1
  have sz_b1_1_0 : h0.size ≤ b1_1_0 := Nat.le_trans (Keep.refl h0 []).1 le_b1_1_0
  have KK1 : Keep h0 T1.heap [] := (Keep.refl h0 []).trans K1 all0
  have Z1 : n0 ≤ T1.heap.size := Nat.le_trans Z0 K1.1
  have N1 := Fr.app N0 N1q
  obtain ⟨cl2, Ar2, -, Sz2, Nn2, -, -⟩ := id fq1_0
  obtain ⟨cl3, Ar3, -, Sz3, Nn3, Hs3, Gs3⟩ := id fq1_0
  have hin3 : ¬ ((0 : Int32) < 0 ∨ cl3.slots.size ≤ ((0 : Int32)).toNatClampNeg) := inb_of Sz3 ⟨by decide, by decide⟩
  have c4 := (F_w_MessageType_SUBMISSION_code.keep K1 nin0)
  obtain ⟨T5, X5, e5, st5⟩ := getF X1 hx hZ hown (host := "") (Or.inl (hw _ (List.mem_of_getElem? (i := 26) rfl))) Via.refl rfl c4 (g := (mkF m 24 #[own_jv (2 : Int64), .second, rv b1_1_0, iv (6 : Int32), iv (0 : Int32), rv w_MessageType_SUBMISSION] [(.ref w_MessageType_SUBMISSION)])) rfl rfl (hb hby d1_24)
  obtain ⟨cl6, Ar6, -, Sz6, Nn6, Hs6, Gs6⟩ := id fq1_0
  have hin6 : ¬ ((1 : Int32) < 0 ∨ cl6.slots.size ≤ ((1 : Int32)).toNatClampNeg) := inb_of Sz6 ⟨by decide, by decide⟩
  have c7 := (F_w_MessageType_PARTIAL_CANCEL_code.keep K1 nin0)
  obtain ⟨T8, X8, e8, st8⟩ := getF X5 hx hZ hown (host := "") (Or.inl (hw _ (List.mem_of_getElem? (i := 26) rfl))) Via.refl e5 c7 (g := (mkF m 24 #[own_jv (2 : Int64), .second, rv b1_1_0, iv (6 : Int32), iv (1 : Int32), rv w_MessageType_PARTIAL_CANCEL] [(.ref w_MessageType_PARTIAL_CANCEL)])) rfl rfl (hb hby d1_24)
  obtain ⟨fs, hr, hrun, hended, hW, hsame⟩ := X8.leave (v := (some (.ref w_MessageType_PARTIAL_CANCEL))) (fun h => by rw [Bd.returns] at h; cases h)
  refine ⟨_, _, pre0 _ ?_, hrun, hended, _, _, rfl, ?_, ⟨_, rfl⟩, hW, hsame.mono (by decide) (by decide)⟩
  · show Steps p.tables e below (s₁.setTop (mkF m 0 #[own_jv (2 : Int64), .second, .unset, .unset, .unset, .unset] [])) _
    refine st1 _ ?_
    show Steps p.tables e below (T1.setTop (mkF m 3 #[own_jv (2 : Int64), .second, .unset, .unset, .unset, .unset] [(.ref b1_1_0)])) _
    refine XS.astoreN X1.here hx rfl (hb hby d1_3) rfl rfl (l' := #[own_jv (2 : Int64), .second, rv b1_1_0, .unset, .unset, .unset]) rfl ?_
    show Steps p.tables e below (T1.setTop (mkF m 4 #[own_jv (2 : Int64), .second, rv b1_1_0, .unset, .unset, .unset] [])) _
    refine XS.aloadN X1.here hx rfl (hb hby d1_4) rfl rfl ?_
    show Steps p.tables e below (T1.setTop (mkF m 5 #[own_jv (2 : Int64), .second, rv b1_1_0, .unset, .unset, .unset] [(.ref b1_1_0)])) _
    refine X1.arraylength hx Ar2.1 (State.isArrayOf_alike hZ.alike Ar2.2.1) (g := (mkF m 5 #[own_jv (2 : Int64), .second, rv b1_1_0, .unset, .unset, .unset] [(.ref b1_1_0)])) rfl rfl (hb hby d1_5) _ ?_
    rw [len_of Sz2 Nn2]
    show Steps p.tables e below (T1.setTop (mkF m 6 #[own_jv (2 : Int64), .second, rv b1_1_0, .unset, .unset, .unset] [(.int (6 : Int32))])) _
    refine XS.istoreN X1.here hx rfl (hb hby d1_6) rfl (l' := #[own_jv (2 : Int64), .second, rv b1_1_0, iv (6 : Int32), .unset, .unset]) rfl ?_
    show Steps p.tables e below (T1.setTop (mkF m 7 #[own_jv (2 : Int64), .second, rv b1_1_0, iv (6 : Int32), .unset, .unset] [])) _
    refine XS.iconst X1.here hx rfl (hb hby d1_7) ?_
    show Steps p.tables e below (T1.setTop (mkF m 8 #[own_jv (2 : Int64), .second, rv b1_1_0, iv (6 : Int32), .unset, .unset] [(.int (0 : Int32))])) _
    refine XS.istore X1.here hx rfl (hb hby d1_8) rfl (l' := #[own_jv (2 : Int64), .second, rv b1_1_0, iv (6 : Int32), iv (0 : Int32), .unset]) rfl ?_
    show Steps p.tables e below (T1.setTop (mkF m 10 #[own_jv (2 : Int64), .second, rv b1_1_0, iv (6 : Int32), iv (0 : Int32), .unset] [])) _
    refine XS.iload X1.here hx rfl (hb hby d1_10) rfl ?_
    show Steps p.tables e below (T1.setTop (mkF m 12 #[own_jv (2 : Int64), .second, rv b1_1_0, iv (6 : Int32), iv (0 : Int32), .unset] [(.int (0 : Int32))])) _
    refine XS.iloadN X1.here hx rfl (hb hby d1_12) rfl ?_
    show Steps p.tables e below (T1.setTop (mkF m 13 #[own_jv (2 : Int64), .second, rv b1_1_0, iv (6 : Int32), iv (0 : Int32), .unset] [(.int (6 : Int32)), (.int (0 : Int32))])) _
    refine XS.icmpNo X1.here hx rfl (hb hby d1_13) rfl (tlt (by decide +kernel : (0 : Int32) < (6 : Int32))).2.1 ?_
    show Steps p.tables e below (T1.setTop (mkF m 16 #[own_jv (2 : Int64), .second, rv b1_1_0, iv (6 : Int32), iv (0 : Int32), .unset] [])) _
    refine XS.aloadN X1.here hx rfl (hb hby d1_16) rfl rfl ?_
    show Steps p.tables e below (T1.setTop (mkF m 17 #[own_jv (2 : Int64), .second, rv b1_1_0, iv (6 : Int32), iv (0 : Int32), .unset] [(.ref b1_1_0)])) _
    refine XS.iload X1.here hx rfl (hb hby d1_17) rfl ?_
    show Steps p.tables e below (T1.setTop (mkF m 19 #[own_jv (2 : Int64), .second, rv b1_1_0, iv (6 : Int32), iv (0 : Int32), .unset] [(.int (0 : Int32)), (.ref b1_1_0)])) _
    refine X1.aaload hx (j := (0 : Int32)) (v := (.ref w_MessageType_SUBMISSION)) Ar3.1 (State.isArrayOf_alike hZ.alike Ar3.2.1) rfl Ar3.2.2 hin3 (Hs3.at hin3 rfl) (g := (mkF m 19 #[own_jv (2 : Int64), .second, rv b1_1_0, iv (6 : Int32), iv (0 : Int32), .unset] [(.int (0 : Int32)), (.ref b1_1_0)])) rfl rfl (hb hby d1_19) _ ?_
    show Steps p.tables e below (T1.setTop (mkF m 20 #[own_jv (2 : Int64), .second, rv b1_1_0, iv (6 : Int32), iv (0 : Int32), .unset] [(.ref w_MessageType_SUBMISSION)])) _
    refine XS.astore X1.here hx rfl (hb hby d1_20) rfl rfl (l' := #[own_jv (2 : Int64), .second, rv b1_1_0, iv (6 : Int32), iv (0 : Int32), rv w_MessageType_SUBMISSION]) rfl ?_
    show Steps p.tables e below (T1.setTop (mkF m 22 #[own_jv (2 : Int64), .second, rv b1_1_0, iv (6 : Int32), iv (0 : Int32), rv w_MessageType_SUBMISSION] [])) _
    refine XS.aload X1.here hx rfl (hb hby d1_22) rfl rfl ?_
    show Steps p.tables e below (T1.setTop (mkF m 24 #[own_jv (2 : Int64), .second, rv b1_1_0, iv (6 : Int32), iv (0 : Int32), rv w_MessageType_SUBMISSION] [(.ref w_MessageType_SUBMISSION)])) _
    refine st5 _ ?_
    show Steps p.tables e below (T5.setTop (mkF m 27 #[own_jv (2 : Int64), .second, rv b1_1_0, iv (6 : Int32), iv (0 : Int32), rv w_MessageType_SUBMISSION] [(.int (1 : Int32))])) _
    refine XS.i2l X5.here hx rfl (hb hby d1_27) rfl ?_
    show Steps p.tables e below (T5.setTop (mkF m 28 #[own_jv (2 : Int64), .second, rv b1_1_0, iv (6 : Int32), iv (0 : Int32), rv w_MessageType_SUBMISSION] [(.long ((1 : Int32).toInt64))])) _
    rewrite [show ((1 : Int32).toInt64) = (1 : Int64) from by decide +kernel]
    show Steps p.tables e below (T5.setTop (mkF m 28 #[own_jv (2 : Int64), .second, rv b1_1_0, iv (6 : Int32), iv (0 : Int32), rv w_MessageType_SUBMISSION] [(.long (1 : Int64))])) _
    refine XS.lloadN X5.here hx rfl (hb hby d1_28) rfl ?_
    show Steps p.tables e below (T5.setTop (mkF m 29 #[own_jv (2 : Int64), .second, rv b1_1_0, iv (6 : Int32), iv (0 : Int32), rv w_MessageType_SUBMISSION] [(.long (2 : Int64)), (.long (1 : Int64))])) _
    refine XS.lcmp X5.here hx rfl (hb hby d1_29) rfl ?_
    show Steps p.tables e below (T5.setTop (mkF m 30 #[own_jv (2 : Int64), .second, rv b1_1_0, iv (6 : Int32), iv (0 : Int32), rv w_MessageType_SUBMISSION] [(.int (lcmpW (1 : Int64) (2 : Int64)))])) _
    rewrite [show (lcmpW (1 : Int64) (2 : Int64)) = (-1 : Int32) from by decide +kernel]
    show Steps p.tables e below (T5.setTop (mkF m 30 #[own_jv (2 : Int64), .second, rv b1_1_0, iv (6 : Int32), iv (0 : Int32), rv w_MessageType_SUBMISSION] [(.int (-1 : Int32))])) _
    refine XS.ifYes X5.here hx rfl (pc0 := 30) (pc' := 36) rfl (hb hby d1_30) rfl ((if0 _ _).trans (feq (by decide +kernel : ¬ ((-1 : Int32) = (0 : Int32)))).2) (by decide) (by decide) ?_
    show Steps p.tables e below (T5.setTop (mkF m 36 #[own_jv (2 : Int64), .second, rv b1_1_0, iv (6 : Int32), iv (0 : Int32), rv w_MessageType_SUBMISSION] [])) _
    refine XS.iinc X5.here hx rfl (hb hby d1_36) rfl (l' := #[own_jv (2 : Int64), .second, rv b1_1_0, iv (6 : Int32), iv ((0 : Int32) + (1 : Int32)), rv w_MessageType_SUBMISSION]) rfl ?_
    show Steps p.tables e below (T5.setTop (mkF m 39 #[own_jv (2 : Int64), .second, rv b1_1_0, iv (6 : Int32), iv ((0 : Int32) + (1 : Int32)), rv w_MessageType_SUBMISSION] [])) _
    rewrite [show ((0 : Int32) + (1 : Int32)) = (1 : Int32) from by decide +kernel]
    show Steps p.tables e below (T5.setTop (mkF m 39 #[own_jv (2 : Int64), .second, rv b1_1_0, iv (6 : Int32), iv (1 : Int32), rv w_MessageType_SUBMISSION] [])) _
    refine XS.goto X5.here hx rfl (pc0 := 39) (pc' := 10) rfl (hb hby d1_39) (by decide) (by decide) ?_
    show Steps p.tables e below (T5.setTop (mkF m 10 #[own_jv (2 : Int64), .second, rv b1_1_0, iv (6 : Int32), iv (1 : Int32), rv w_MessageType_SUBMISSION] [])) _
    refine XS.iload X5.here hx rfl (hb hby d1_10) rfl ?_
    show Steps p.tables e below (T5.setTop (mkF m 12 #[own_jv (2 : Int64), .second, rv b1_1_0, iv (6 : Int32), iv (1 : Int32), rv w_MessageType_SUBMISSION] [(.int (1 : Int32))])) _
    refine XS.iloadN X5.here hx rfl (hb hby d1_12) rfl ?_
    show Steps p.tables e below (T5.setTop (mkF m 13 #[own_jv (2 : Int64), .second, rv b1_1_0, iv (6 : Int32), iv (1 : Int32), rv w_MessageType_SUBMISSION] [(.int (6 : Int32)), (.int (1 : Int32))])) _
    refine XS.icmpNo X5.here hx rfl (hb hby d1_13) rfl (tlt (by decide +kernel : (1 : Int32) < (6 : Int32))).2.1 ?_
    show Steps p.tables e below (T5.setTop (mkF m 16 #[own_jv (2 : Int64), .second, rv b1_1_0, iv (6 : Int32), iv (1 : Int32), rv w_MessageType_SUBMISSION] [])) _
    refine XS.aloadN X5.here hx rfl (hb hby d1_16) rfl rfl ?_
    show Steps p.tables e below (T5.setTop (mkF m 17 #[own_jv (2 : Int64), .second, rv b1_1_0, iv (6 : Int32), iv (1 : Int32), rv w_MessageType_SUBMISSION] [(.ref b1_1_0)])) _
    refine XS.iload X5.here hx rfl (hb hby d1_17) rfl ?_
    show Steps p.tables e below (T5.setTop (mkF m 19 #[own_jv (2 : Int64), .second, rv b1_1_0, iv (6 : Int32), iv (1 : Int32), rv w_MessageType_SUBMISSION] [(.int (1 : Int32)), (.ref b1_1_0)])) _
    refine X5.aaload hx (j := (1 : Int32)) (v := (.ref w_MessageType_PARTIAL_CANCEL)) (by rw [e5]; exact Ar6.1) (State.isArrayOf_alike hZ.alike Ar6.2.1) rfl Ar6.2.2 hin6 (Hs6.at hin6 rfl) (g := (mkF m 19 #[own_jv (2 : Int64), .second, rv b1_1_0, iv (6 : Int32), iv (1 : Int32), rv w_MessageType_SUBMISSION] [(.int (1 : Int32)), (.ref b1_1_0)])) rfl rfl (hb hby d1_19) _ ?_
    show Steps p.tables e below (T5.setTop (mkF m 20 #[own_jv (2 : Int64), .second, rv b1_1_0, iv (6 : Int32), iv (1 : Int32), rv w_MessageType_SUBMISSION] [(.ref w_MessageType_PARTIAL_CANCEL)])) _
    refine XS.astore X5.here hx rfl (hb hby d1_20) rfl rfl (l' := #[own_jv (2 : Int64), .second, rv b1_1_0, iv (6 : Int32), iv (1 : Int32), rv w_MessageType_PARTIAL_CANCEL]) rfl ?_
    show Steps p.tables e below (T5.setTop (mkF m 22 #[own_jv (2 : Int64), .second, rv b1_1_0, iv (6 : Int32), iv (1 : Int32), rv w_MessageType_PARTIAL_CANCEL] [])) _
    refine XS.aload X5.here hx rfl (hb hby d1_22) rfl rfl ?_
    show Steps p.tables e below (T5.setTop (mkF m 24 #[own_jv (2 : Int64), .second, rv b1_1_0, iv (6 : Int32), iv (1 : Int32), rv w_MessageType_PARTIAL_CANCEL] [(.ref w_MessageType_PARTIAL_CANCEL)])) _
    refine st8 _ ?_
    show Steps p.tables e below (T8.setTop (mkF m 27 #[own_jv (2 : Int64), .second, rv b1_1_0, iv (6 : Int32), iv (1 : Int32), rv w_MessageType_PARTIAL_CANCEL] [(.int (2 : Int32))])) _
    refine XS.i2l X8.here hx rfl (hb hby d1_27) rfl ?_
    show Steps p.tables e below (T8.setTop (mkF m 28 #[own_jv (2 : Int64), .second, rv b1_1_0, iv (6 : Int32), iv (1 : Int32), rv w_MessageType_PARTIAL_CANCEL] [(.long ((2 : Int32).toInt64))])) _
    rewrite [show ((2 : Int32).toInt64) = (2 : Int64) from by decide +kernel]
    show Steps p.tables e below (T8.setTop (mkF m 28 #[own_jv (2 : Int64), .second, rv b1_1_0, iv (6 : Int32), iv (1 : Int32), rv w_MessageType_PARTIAL_CANCEL] [(.long (2 : Int64))])) _
    refine XS.lloadN X8.here hx rfl (hb hby d1_28) rfl ?_
    show Steps p.tables e below (T8.setTop (mkF m 29 #[own_jv (2 : Int64), .second, rv b1_1_0, iv (6 : Int32), iv (1 : Int32), rv w_MessageType_PARTIAL_CANCEL] [(.long (2 : Int64)), (.long (2 : Int64))])) _
    refine XS.lcmp X8.here hx rfl (hb hby d1_29) rfl ?_
    show Steps p.tables e below (T8.setTop (mkF m 30 #[own_jv (2 : Int64), .second, rv b1_1_0, iv (6 : Int32), iv (1 : Int32), rv w_MessageType_PARTIAL_CANCEL] [(.int (lcmpW (2 : Int64) (2 : Int64)))])) _
    rewrite [show (lcmpW (2 : Int64) (2 : Int64)) = (0 : Int32) from by decide +kernel]
    show Steps p.tables e below (T8.setTop (mkF m 30 #[own_jv (2 : Int64), .second, rv b1_1_0, iv (6 : Int32), iv (1 : Int32), rv w_MessageType_PARTIAL_CANCEL] [(.int (0 : Int32))])) _
    refine XS.ifNo X8.here hx rfl (hb hby d1_30) rfl ((if0 _ _).trans (teq (by decide +kernel : (0 : Int32) = (0 : Int32))).2) ?_
    show Steps p.tables e below (T8.setTop (mkF m 33 #[own_jv (2 : Int64), .second, rv b1_1_0, iv (6 : Int32), iv (1 : Int32), rv w_MessageType_PARTIAL_CANCEL] [])) _
    refine XS.aload X8.here hx rfl (hb hby d1_33) rfl rfl ?_
    show Steps p.tables e below (T8.setTop (mkF m 35 #[own_jv (2 : Int64), .second, rv b1_1_0, iv (6 : Int32), iv (1 : Int32), rv w_MessageType_PARTIAL_CANCEL] [(.ref w_MessageType_PARTIAL_CANCEL)])) _
    exact own_retA X8 hx Bd.returns rfl rfl (hb hby d1_35) hr
  · exact (by show Q_rk_of_1 Z w_MessageType_PARTIAL_CANCEL h0 n0 _ T8.heap _; rw [e8]; exact ⟨rfl, N1, KK1⟩)
def Q_rk_of_2 (Z : State) (w_MessageType_DELETION : Addr) (h0 : Heap) (n0 : Nat) (v : Option Value) (h : Heap) (L : List Loc) : Prop := (v = (some (.ref w_MessageType_DELETION))) ∧ (Fr n0 L) ∧ (Keep h0 h [])
set_option maxRecDepth 65536 in
set_option maxHeartbeats 40000000 in
theorem rk_of_2 (l : Launch) (Z : State) (a0 : Array Value) (hw : ∀ d ∈ tables_1, d.before a0 Z = true) (ws : List Jvm.Cond) (w_MessageType__VALUES : Addr) (w_MessageType_SUBMISSION : Addr) (w_MessageType_PARTIAL_CANCEL : Addr) (w_MessageType_DELETION : Addr) (w_MessageType_VISIBLE_EXECUTION : Addr) (w_MessageType_HIDDEN_EXECUTION : Addr) (w_MessageType_HALT : Addr) (k_w_MessageType__VALUES : ClassId) (h0 : Heap) (n0 : Nat) (Z0 : n0 ≤ h0.size) (S_MessageType__VALUES : Sta Z h0 "com/example/strikebook/strikebook/cli/MessageType" "$VALUES" "[Lcom/example/strikebook/strikebook/cli/MessageType;" (.ref w_MessageType__VALUES)) (V_w_MessageType__VALUES : Arv Z h0 w_MessageType__VALUES k_w_MessageType__VALUES (.object "com/example/strikebook/strikebook/cli/MessageType") (6 : Int32) [(.ref w_MessageType_SUBMISSION), (.ref w_MessageType_PARTIAL_CANCEL), (.ref w_MessageType_DELETION), (.ref w_MessageType_VISIBLE_EXECUTION), (.ref w_MessageType_HIDDEN_EXECUTION), (.ref w_MessageType_HALT)] .null) (E_w_MessageType__VALUES : Exa Z h0 w_MessageType__VALUES "[Lcom/example/strikebook/strikebook/cli/MessageType;") (F_w_MessageType_SUBMISSION_code : Fld Z h0 w_MessageType_SUBMISSION "com/example/strikebook/strikebook/cli/MessageType" "code" "I" (.int (1 : Int32))) (F_w_MessageType_PARTIAL_CANCEL_code : Fld Z h0 w_MessageType_PARTIAL_CANCEL "com/example/strikebook/strikebook/cli/MessageType" "code" "I" (.int (2 : Int32))) (F_w_MessageType_DELETION_code : Fld Z h0 w_MessageType_DELETION "com/example/strikebook/strikebook/cli/MessageType" "code" "I" (.int (3 : Int32))) :
    MetFree l (⟨"com/example/strikebook/strikebook/cli/MessageType", "of", "(J)Lcom/example/strikebook/strikebook/cli/MessageType;"⟩ : MethodName) (head1 (Jvm.Cond.code (⟨"com/example/strikebook/strikebook/cli/MessageType", "of", "(J)Lcom/example/strikebook/strikebook/cli/MessageType;"⟩ : MethodName) prog_10_method_5_code 6 (some (.object "com/example/strikebook/strikebook/cli/MessageType")) :: ws) ({ frames := 2, cells := 1, slots := 6, locals := 25 } : Room)) (fun a U => a = #[(.long (3 : Int64))] ∧ Z.Warmed39 U.vm ∧ U.heap = h0) (fun _ _ _ _ _ => True) (fun _ U o U' => ∃ v L, o = .returned v ∧ Q_rk_of_2 Z w_MessageType_DELETION h0 n0 v U'.heap L ∧ FrameEnd U o U' L ({ frames := 2, cells := 1, slots := 6, locals := 25 } : Room).cells ({ frames := 2, cells := 1, slots := 6, locals := 25 } : Room).slots) := by
  refine MetFree.of_bodySF (plainFor_of_name pn_0) hisR ?_
  intro p e s m args below meth c s₁ Bd hml0 hP hK
  obtain ⟨rfl, hZ, hh⟩ := hP
  have hx := Bd.exec
  have hby := Bd.bytes
  have hml : c.maxLocals = 6 := hml0
  have hown : s.vm.findClass "com/example/strikebook/strikebook/cli/MessageType" = some m.cls := findClass_of_methodNamed Bd.named
  have hnm := (name_of_methodNamed Bd.named Bd.method).1
  have X0 : Stand p l e ({ frames := 2, cells := 1, slots := 6, locals := 25 } : Room) s m #[(.long (3 : Int64))] below meth c s₁ [] 0 0 := Stand.of_body Bd
  have e0 : s₁.heap = h0 := by rw [← hh, Bd.state]; rfl
  have N0 := Fr.nil n0
  have pre0 : ∀ t, Steps p.tables e below (s₁.setTop (mkF m 0 #[own_jv (3 : Int64), .second, .unset, .unset, .unset, .unset] [])) t → Steps p.tables e below (s₁.setTop (entryFrame m #[(.long (3 : Int64))] 6)) t := fun t k => castTop (ef_1_J m (3 : Int64)) k
  obtain ⟨_, _, ⟨T1, L1, k1, n1⟩, -, X1, ⟨Lc1, hQ1, l1, y1, z1⟩, st1⟩ := Jvm.LawKit.callS X0 hx (y := (⟨"com/example/strikebook/strikebook/cli/MessageType", "values", "()[Lcom/example/strikebook/strikebook/cli/MessageType;"⟩ : MethodName)) hown (mvT hZ (hw _ (List.mem_of_getElem? (i := 5) rfl))) (mvT hZ (hw _ (List.mem_of_getElem? (i := 6) rfl))) (mvT hZ (hw _ (List.mem_of_getElem? (i := 3) rfl))) (mvT hZ (hw _ (List.mem_of_getElem? (i := 7) rfl))) (by decide) (backOf (W := 0) (rm2_0 l Z a0 hw [] w_MessageType__VALUES w_MessageType_SUBMISSION w_MessageType_PARTIAL_CANCEL w_MessageType_DELETION w_MessageType_VISIBLE_EXECUTION w_MessageType_HIDDEN_EXECUTION w_MessageType_HALT k_w_MessageType__VALUES h0 n0 Z0 S_MessageType__VALUES V_w_MessageType__VALUES E_w_MessageType__VALUES) hZ (hw _ (List.mem_of_getElem? (i := 7) rfl)) (hw _ (List.mem_of_getElem? (i := 3) rfl)) (by decide) (by decide)) (g := (mkF m 0 #[own_jv (3 : Int64), .second, .unset, .unset, .unset, .unset] [])) rfl (by rw [hml]; rfl) (argsL := []) (rest := []) (lenOf pd_0 rfl) rfl (by show 2 * 0 + _ ≤ _; exact Nat.le_of_eq rfl) (hb hby d1_0) (fun _ _ => ⟨rfl, e0, (by decide : 0 + 1 ≤ _), (by decide : 0 + 6 ≤ _)⟩)
  dsimp only [Pt.U, Pt.locs, Pt.cells, Pt.slots] at X1 l1 y1 z1 st1 hQ1
  subst l1 y1 z1
  obtain ⟨b1_1_0, rfl, N1q, K1, gq_b1_1_0, le_b1_1_0, fq1_0, fq1_1⟩ := hQ1
  have sz_b1_1_0 : h0.size ≤ b1_1_0 := Nat.le_trans (Keep.refl h0 []).1 le_b1_1_0
  have KK1 : Keep h0 T1.heap [] := (Keep.refl h0 []).trans K1 all0
  have Z1 : n0 ≤ T1.heap.size := Nat.le_trans Z0 K1.1
  have N1 := Fr.app N0 N1q
  obtain ⟨cl2, Ar2, -, Sz2, Nn2, -, -⟩ := id fq1_0
  obtain ⟨cl3, Ar3, -, Sz3, Nn3, Hs3, Gs3⟩ := id fq1_0
  have hin3 : ¬ ((0 : Int32) < 0 ∨ cl3.slots.size ≤ ((0 : Int32)).toNatClampNeg) := inb_of Sz3 ⟨by decide, by decide⟩
  have c4 := (F_w_MessageType_SUBMISSION_code.keep K1 nin0)
  obtain ⟨T5, X5, e5, st5⟩ := getF X1 hx hZ hown (host := "") (Or.inl (hw _ (List.mem_of_getElem? (i := 26) rfl))) Via.refl rfl c4 (g := (mkF m 24 #[own_jv (3 : Int64), .second, rv b1_1_0, iv (6 : Int32), iv (0 : Int32), rv w_MessageType_SUBMISSION] [(.ref w_MessageType_SUBMISSION)])) rfl rfl (hb hby d1_24)
  obtain ⟨cl6, Ar6, -, Sz6, Nn6, Hs6, Gs6⟩ := id fq1_0
  have hin6 : ¬ ((1 : Int32) < 0 ∨ cl6.slots.size ≤ ((1 : Int32)).toNatClampNeg) := inb_of Sz6 ⟨by decide, by decide⟩
  have c7 := (F_w_MessageType_PARTIAL_CANCEL_code.keep K1 nin0)
  obtain ⟨T8, X8, e8, st8⟩ := getF X5 hx hZ hown (host := "") (Or.inl (hw _ (List.mem_of_getElem? (i := 26) rfl))) Via.refl e5 c7 (g := (mkF m 24 #[own_jv (3 : Int64), .second, rv b1_1_0, iv (6 : Int32), iv (1 : Int32), rv w_MessageType_PARTIAL_CANCEL] [(.ref w_MessageType_PARTIAL_CANCEL)])) rfl rfl (hb hby d1_24)
  obtain ⟨cl9, Ar9, -, Sz9, Nn9, Hs9, Gs9⟩ := id fq1_0
  have hin9 : ¬ ((2 : Int32) < 0 ∨ cl9.slots.size ≤ ((2 : Int32)).toNatClampNeg) := inb_of Sz9 ⟨by decide, by decide⟩
  have c10 := (F_w_MessageType_DELETION_code.keep K1 nin0)
  obtain ⟨T11, X11, e11, st11⟩ := getF X8 hx hZ hown (host := "") (Or.inl (hw _ (List.mem_of_getElem? (i := 26) rfl))) Via.refl e8 c10 (g := (mkF m 24 #[own_jv (3 : Int64), .second, rv b1_1_0, iv (6 : Int32), iv (2 : Int32), rv w_MessageType_DELETION] [(.ref w_MessageType_DELETION)])) rfl rfl (hb hby d1_24)
  obtain ⟨fs, hr, hrun, hended, hW, hsame⟩ := X11.leave (v := (some (.ref w_MessageType_DELETION))) (fun h => by rw [Bd.returns] at h; cases h)
  refine ⟨_, _, pre0 _ ?_, hrun, hended, _, _, rfl, ?_, ⟨_, rfl⟩, hW, hsame.mono (by decide) (by decide)⟩
  · show Steps p.tables e below (s₁.setTop (mkF m 0 #[own_jv (3 : Int64), .second, .unset, .unset, .unset, .unset] [])) _
    refine st1 _ ?_
    show Steps p.tables e below (T1.setTop (mkF m 3 #[own_jv (3 : Int64), .second, .unset, .unset, .unset, .unset] [(.ref b1_1_0)])) _
    refine XS.astoreN X1.here hx rfl (hb hby d1_3) rfl rfl (l' := #[own_jv (3 : Int64), .second, rv b1_1_0, .unset, .unset, .unset]) rfl ?_
    show Steps p.tables e below (T1.setTop (mkF m 4 #[own_jv (3 : Int64), .second, rv b1_1_0, .unset, .unset, .unset] [])) _
    refine XS.aloadN X1.here hx rfl (hb hby d1_4) rfl rfl ?_
    show Steps p.tables e below (T1.setTop (mkF m 5 #[own_jv (3 : Int64), .second, rv b1_1_0, .unset, .unset, .unset] [(.ref b1_1_0)])) _
    refine X1.arraylength hx Ar2.1 (State.isArrayOf_alike hZ.alike Ar2.2.1) (g := (mkF m 5 #[own_jv (3 : Int64), .second, rv b1_1_0, .unset, .unset, .unset] [(.ref b1_1_0)])) rfl rfl (hb hby d1_5) _ ?_
    rw [len_of Sz2 Nn2]
    show Steps p.tables e below (T1.setTop (mkF m 6 #[own_jv (3 : Int64), .second, rv b1_1_0, .unset, .unset, .unset] [(.int (6 : Int32))])) _
    refine XS.istoreN X1.here hx rfl (hb hby d1_6) rfl (l' := #[own_jv (3 : Int64), .second, rv b1_1_0, iv (6 : Int32), .unset, .unset]) rfl ?_
    show Steps p.tables e below (T1.setTop (mkF m 7 #[own_jv (3 : Int64), .second, rv b1_1_0, iv (6 : Int32), .unset, .unset] [])) _
    refine XS.iconst X1.here hx rfl (hb hby d1_7) ?_
    show Steps p.tables e below (T1.setTop (mkF m 8 #[own_jv (3 : Int64), .second, rv b1_1_0, iv (6 : Int32), .unset, .unset] [(.int (0 : Int32))])) _
    refine XS.istore X1.here hx rfl (hb hby d1_8) rfl (l' := #[own_jv (3 : Int64), .second, rv b1_1_0, iv (6 : Int32), iv (0 : Int32), .unset]) rfl ?_
    show Steps p.tables e below (T1.setTop (mkF m 10 #[own_jv (3 : Int64), .second, rv b1_1_0, iv (6 : Int32), iv (0 : Int32), .unset] [])) _
    refine XS.iload X1.here hx rfl (hb hby d1_10) rfl ?_
    show Steps p.tables e below (T1.setTop (mkF m 12 #[own_jv (3 : Int64), .second, rv b1_1_0, iv (6 : Int32), iv (0 : Int32), .unset] [(.int (0 : Int32))])) _
    refine XS.iloadN X1.here hx rfl (hb hby d1_12) rfl ?_
    show Steps p.tables e below (T1.setTop (mkF m 13 #[own_jv (3 : Int64), .second, rv b1_1_0, iv (6 : Int32), iv (0 : Int32), .unset] [(.int (6 : Int32)), (.int (0 : Int32))])) _
    refine XS.icmpNo X1.here hx rfl (hb hby d1_13) rfl (tlt (by decide +kernel : (0 : Int32) < (6 : Int32))).2.1 ?_
    show Steps p.tables e below (T1.setTop (mkF m 16 #[own_jv (3 : Int64), .second, rv b1_1_0, iv (6 : Int32), iv (0 : Int32), .unset] [])) _
    refine XS.aloadN X1.here hx rfl (hb hby d1_16) rfl rfl ?_
    show Steps p.tables e below (T1.setTop (mkF m 17 #[own_jv (3 : Int64), .second, rv b1_1_0, iv (6 : Int32), iv (0 : Int32), .unset] [(.ref b1_1_0)])) _
    refine XS.iload X1.here hx rfl (hb hby d1_17) rfl ?_
    show Steps p.tables e below (T1.setTop (mkF m 19 #[own_jv (3 : Int64), .second, rv b1_1_0, iv (6 : Int32), iv (0 : Int32), .unset] [(.int (0 : Int32)), (.ref b1_1_0)])) _
    refine X1.aaload hx (j := (0 : Int32)) (v := (.ref w_MessageType_SUBMISSION)) Ar3.1 (State.isArrayOf_alike hZ.alike Ar3.2.1) rfl Ar3.2.2 hin3 (Hs3.at hin3 rfl) (g := (mkF m 19 #[own_jv (3 : Int64), .second, rv b1_1_0, iv (6 : Int32), iv (0 : Int32), .unset] [(.int (0 : Int32)), (.ref b1_1_0)])) rfl rfl (hb hby d1_19) _ ?_
    show Steps p.tables e below (T1.setTop (mkF m 20 #[own_jv (3 : Int64), .second, rv b1_1_0, iv (6 : Int32), iv (0 : Int32), .unset] [(.ref w_MessageType_SUBMISSION)])) _
    refine XS.astore X1.here hx rfl (hb hby d1_20) rfl rfl (l' := #[own_jv (3 : Int64), .second, rv b1_1_0, iv (6 : Int32), iv (0 : Int32), rv w_MessageType_SUBMISSION]) rfl ?_
    show Steps p.tables e below (T1.setTop (mkF m 22 #[own_jv (3 : Int64), .second, rv b1_1_0, iv (6 : Int32), iv (0 : Int32), rv w_MessageType_SUBMISSION] [])) _
    refine XS.aload X1.here hx rfl (hb hby d1_22) rfl rfl ?_
    show Steps p.tables e below (T1.setTop (mkF m 24 #[own_jv (3 : Int64), .second, rv b1_1_0, iv (6 : Int32), iv (0 : Int32), rv w_MessageType_SUBMISSION] [(.ref w_MessageType_SUBMISSION)])) _
    refine st5 _ ?_
    show Steps p.tables e below (T5.setTop (mkF m 27 #[own_jv (3 : Int64), .second, rv b1_1_0, iv (6 : Int32), iv (0 : Int32), rv w_MessageType_SUBMISSION] [(.int (1 : Int32))])) _
    refine XS.i2l X5.here hx rfl (hb hby d1_27) rfl ?_
    show Steps p.tables e below (T5.setTop (mkF m 28 #[own_jv (3 : Int64), .second, rv b1_1_0, iv (6 : Int32), iv (0 : Int32), rv w_MessageType_SUBMISSION] [(.long ((1 : Int32).toInt64))])) _
    rewrite [show ((1 : Int32).toInt64) = (1 : Int64) from by decide +kernel]
    show Steps p.tables e below (T5.setTop (mkF m 28 #[own_jv (3 : Int64), .second, rv b1_1_0, iv (6 : Int32), iv (0 : Int32), rv w_MessageType_SUBMISSION] [(.long (1 : Int64))])) _
    refine XS.lloadN X5.here hx rfl (hb hby d1_28) rfl ?_
    show Steps p.tables e below (T5.setTop (mkF m 29 #[own_jv (3 : Int64), .second, rv b1_1_0, iv (6 : Int32), iv (0 : Int32), rv w_MessageType_SUBMISSION] [(.long (3 : Int64)), (.long (1 : Int64))])) _
    refine XS.lcmp X5.here hx rfl (hb hby d1_29) rfl ?_
    show Steps p.tables e below (T5.setTop (mkF m 30 #[own_jv (3 : Int64), .second, rv b1_1_0, iv (6 : Int32), iv (0 : Int32), rv w_MessageType_SUBMISSION] [(.int (lcmpW (1 : Int64) (3 : Int64)))])) _
    rewrite [show (lcmpW (1 : Int64) (3 : Int64)) = (-1 : Int32) from by decide +kernel]
    show Steps p.tables e below (T5.setTop (mkF m 30 #[own_jv (3 : Int64), .second, rv b1_1_0, iv (6 : Int32), iv (0 : Int32), rv w_MessageType_SUBMISSION] [(.int (-1 : Int32))])) _
    refine XS.ifYes X5.here hx rfl (pc0 := 30) (pc' := 36) rfl (hb hby d1_30) rfl ((if0 _ _).trans (feq (by decide +kernel : ¬ ((-1 : Int32) = (0 : Int32)))).2) (by decide) (by decide) ?_
    show Steps p.tables e below (T5.setTop (mkF m 36 #[own_jv (3 : Int64), .second, rv b1_1_0, iv (6 : Int32), iv (0 : Int32), rv w_MessageType_SUBMISSION] [])) _
    refine XS.iinc X5.here hx rfl (hb hby d1_36) rfl (l' := #[own_jv (3 : Int64), .second, rv b1_1_0, iv (6 : Int32), iv ((0 : Int32) + (1 : Int32)), rv w_MessageType_SUBMISSION]) rfl ?_
    show Steps p.tables e below (T5.setTop (mkF m 39 #[own_jv (3 : Int64), .second, rv b1_1_0, iv (6 : Int32), iv ((0 : Int32) + (1 : Int32)), rv w_MessageType_SUBMISSION] [])) _
    rewrite [show ((0 : Int32) + (1 : Int32)) = (1 : Int32) from by decide +kernel]
    show Steps p.tables e below (T5.setTop (mkF m 39 #[own_jv (3 : Int64), .second, rv b1_1_0, iv (6 : Int32), iv (1 : Int32), rv w_MessageType_SUBMISSION] [])) _
    refine XS.goto X5.here hx rfl (pc0 := 39) (pc' := 10) rfl (hb hby d1_39) (by decide) (by decide) ?_
    show Steps p.tables e below (T5.setTop (mkF m 10 #[own_jv (3 : Int64), .second, rv b1_1_0, iv (6 : Int32), iv (1 : Int32), rv w_MessageType_SUBMISSION] [])) _
    refine XS.iload X5.here hx rfl (hb hby d1_10) rfl ?_
    show Steps p.tables e below (T5.setTop (mkF m 12 #[own_jv (3 : Int64), .second, rv b1_1_0, iv (6 : Int32), iv (1 : Int32), rv w_MessageType_SUBMISSION] [(.int (1 : Int32))])) _
    refine XS.iloadN X5.here hx rfl (hb hby d1_12) rfl ?_
    show Steps p.tables e below (T5.setTop (mkF m 13 #[own_jv (3 : Int64), .second, rv b1_1_0, iv (6 : Int32), iv (1 : Int32), rv w_MessageType_SUBMISSION] [(.int (6 : Int32)), (.int (1 : Int32))])) _
    refine XS.icmpNo X5.here hx rfl (hb hby d1_13) rfl (tlt (by decide +kernel : (1 : Int32) < (6 : Int32))).2.1 ?_
    show Steps p.tables e below (T5.setTop (mkF m 16 #[own_jv (3 : Int64), .second, rv b1_1_0, iv (6 : Int32), iv (1 : Int32), rv w_MessageType_SUBMISSION] [])) _
    refine XS.aloadN X5.here hx rfl (hb hby d1_16) rfl rfl ?_
    show Steps p.tables e below (T5.setTop (mkF m 17 #[own_jv (3 : Int64), .second, rv b1_1_0, iv (6 : Int32), iv (1 : Int32), rv w_MessageType_SUBMISSION] [(.ref b1_1_0)])) _
    refine XS.iload X5.here hx rfl (hb hby d1_17) rfl ?_
    show Steps p.tables e below (T5.setTop (mkF m 19 #[own_jv (3 : Int64), .second, rv b1_1_0, iv (6 : Int32), iv (1 : Int32), rv w_MessageType_SUBMISSION] [(.int (1 : Int32)), (.ref b1_1_0)])) _
    refine X5.aaload hx (j := (1 : Int32)) (v := (.ref w_MessageType_PARTIAL_CANCEL)) (by rw [e5]; exact Ar6.1) (State.isArrayOf_alike hZ.alike Ar6.2.1) rfl Ar6.2.2 hin6 (Hs6.at hin6 rfl) (g := (mkF m 19 #[own_jv (3 : Int64), .second, rv b1_1_0, iv (6 : Int32), iv (1 : Int32), rv w_MessageType_SUBMISSION] [(.int (1 : Int32)), (.ref b1_1_0)])) rfl rfl (hb hby d1_19) _ ?_
    show Steps p.tables e below (T5.setTop (mkF m 20 #[own_jv (3 : Int64), .second, rv b1_1_0, iv (6 : Int32), iv (1 : Int32), rv w_MessageType_SUBMISSION] [(.ref w_MessageType_PARTIAL_CANCEL)])) _
    refine XS.astore X5.here hx rfl (hb hby d1_20) rfl rfl (l' := #[own_jv (3 : Int64), .second, rv b1_1_0, iv (6 : Int32), iv (1 : Int32), rv w_MessageType_PARTIAL_CANCEL]) rfl ?_
    show Steps p.tables e below (T5.setTop (mkF m 22 #[own_jv (3 : Int64), .second, rv b1_1_0, iv (6 : Int32), iv (1 : Int32), rv w_MessageType_PARTIAL_CANCEL] [])) _
    refine XS.aload X5.here hx rfl (hb hby d1_22) rfl rfl ?_
    show Steps p.tables e below (T5.setTop (mkF m 24 #[own_jv (3 : Int64), .second, rv b1_1_0, iv (6 : Int32), iv (1 : Int32), rv w_MessageType_PARTIAL_CANCEL] [(.ref w_MessageType_PARTIAL_CANCEL)])) _
    refine st8 _ ?_
    show Steps p.tables e below (T8.setTop (mkF m 27 #[own_jv (3 : Int64), .second, rv b1_1_0, iv (6 : Int32), iv (1 : Int32), rv w_MessageType_PARTIAL_CANCEL] [(.int (2 : Int32))])) _
    refine XS.i2l X8.here hx rfl (hb hby d1_27) rfl ?_
    show Steps p.tables e below (T8.setTop (mkF m 28 #[own_jv (3 : Int64), .second, rv b1_1_0, iv (6 : Int32), iv (1 : Int32), rv w_MessageType_PARTIAL_CANCEL] [(.long ((2 : Int32).toInt64))])) _
    rewrite [show ((2 : Int32).toInt64) = (2 : Int64) from by decide +kernel]
    show Steps p.tables e below (T8.setTop (mkF m 28 #[own_jv (3 : Int64), .second, rv b1_1_0, iv (6 : Int32), iv (1 : Int32), rv w_MessageType_PARTIAL_CANCEL] [(.long (2 : Int64))])) _
    refine XS.lloadN X8.here hx rfl (hb hby d1_28) rfl ?_
    show Steps p.tables e below (T8.setTop (mkF m 29 #[own_jv (3 : Int64), .second, rv b1_1_0, iv (6 : Int32), iv (1 : Int32), rv w_MessageType_PARTIAL_CANCEL] [(.long (3 : Int64)), (.long (2 : Int64))])) _
    refine XS.lcmp X8.here hx rfl (hb hby d1_29) rfl ?_
    show Steps p.tables e below (T8.setTop (mkF m 30 #[own_jv (3 : Int64), .second, rv b1_1_0, iv (6 : Int32), iv (1 : Int32), rv w_MessageType_PARTIAL_CANCEL] [(.int (lcmpW (2 : Int64) (3 : Int64)))])) _
    rewrite [show (lcmpW (2 : Int64) (3 : Int64)) = (-1 : Int32) from by decide +kernel]
    show Steps p.tables e below (T8.setTop (mkF m 30 #[own_jv (3 : Int64), .second, rv b1_1_0, iv (6 : Int32), iv (1 : Int32), rv w_MessageType_PARTIAL_CANCEL] [(.int (-1 : Int32))])) _
    refine XS.ifYes X8.here hx rfl (pc0 := 30) (pc' := 36) rfl (hb hby d1_30) rfl ((if0 _ _).trans (feq (by decide +kernel : ¬ ((-1 : Int32) = (0 : Int32)))).2) (by decide) (by decide) ?_
    show Steps p.tables e below (T8.setTop (mkF m 36 #[own_jv (3 : Int64), .second, rv b1_1_0, iv (6 : Int32), iv (1 : Int32), rv w_MessageType_PARTIAL_CANCEL] [])) _
    refine XS.iinc X8.here hx rfl (hb hby d1_36) rfl (l' := #[own_jv (3 : Int64), .second, rv b1_1_0, iv (6 : Int32), iv ((1 : Int32) + (1 : Int32)), rv w_MessageType_PARTIAL_CANCEL]) rfl ?_
    show Steps p.tables e below (T8.setTop (mkF m 39 #[own_jv (3 : Int64), .second, rv b1_1_0, iv (6 : Int32), iv ((1 : Int32) + (1 : Int32)), rv w_MessageType_PARTIAL_CANCEL] [])) _
    rewrite [show ((1 : Int32) + (1 : Int32)) = (2 : Int32) from by decide +kernel]
    show Steps p.tables e below (T8.setTop (mkF m 39 #[own_jv (3 : Int64), .second, rv b1_1_0, iv (6 : Int32), iv (2 : Int32), rv w_MessageType_PARTIAL_CANCEL] [])) _
    refine XS.goto X8.here hx rfl (pc0 := 39) (pc' := 10) rfl (hb hby d1_39) (by decide) (by decide) ?_
    show Steps p.tables e below (T8.setTop (mkF m 10 #[own_jv (3 : Int64), .second, rv b1_1_0, iv (6 : Int32), iv (2 : Int32), rv w_MessageType_PARTIAL_CANCEL] [])) _
    refine XS.iload X8.here hx rfl (hb hby d1_10) rfl ?_
    show Steps p.tables e below (T8.setTop (mkF m 12 #[own_jv (3 : Int64), .second, rv b1_1_0, iv (6 : Int32), iv (2 : Int32), rv w_MessageType_PARTIAL_CANCEL] [(.int (2 : Int32))])) _
    refine XS.iloadN X8.here hx rfl (hb hby d1_12) rfl ?_
    show Steps p.tables e below (T8.setTop (mkF m 13 #[own_jv (3 : Int64), .second, rv b1_1_0, iv (6 : Int32), iv (2 : Int32), rv w_MessageType_PARTIAL_CANCEL] [(.int (6 : Int32)), (.int (2 : Int32))])) _
    refine XS.icmpNo X8.here hx rfl (hb hby d1_13) rfl (tlt (by decide +kernel : (2 : Int32) < (6 : Int32))).2.1 ?_
    show Steps p.tables e below (T8.setTop (mkF m 16 #[own_jv (3 : Int64), .second, rv b1_1_0, iv (6 : Int32), iv (2 : Int32), rv w_MessageType_PARTIAL_CANCEL] [])) _
    refine XS.aloadN X8.here hx rfl (hb hby d1_16) rfl rfl ?_
    show Steps p.tables e below (T8.setTop (mkF m 17 #[own_jv (3 : Int64), .second, rv b1_1_0, iv (6 : Int32), iv (2 : Int32), rv w_MessageType_PARTIAL_CANCEL] [(.ref b1_1_0)])) _
    refine XS.iload X8.here hx rfl (hb hby d1_17) rfl ?_
    show Steps p.tables e below (T8.setTop (mkF m 19 #[own_jv (3 : Int64), .second, rv b1_1_0, iv (6 : Int32), iv (2 : Int32), rv w_MessageType_PARTIAL_CANCEL] [(.int (2 : Int32)), (.ref b1_1_0)])) _
    refine X8.aaload hx (j := (2 : Int32)) (v := (.ref w_MessageType_DELETION)) (by rw [e8]; exact Ar9.1) (State.isArrayOf_alike hZ.alike Ar9.2.1) rfl Ar9.2.2 hin9 (Hs9.at hin9 rfl) (g := (mkF m 19 #[own_jv (3 : Int64), .second, rv b1_1_0, iv (6 : Int32), iv (2 : Int32), rv w_MessageType_PARTIAL_CANCEL] [(.int (2 : Int32)), (.ref b1_1_0)])) rfl rfl (hb hby d1_19) _ ?_
    show Steps p.tables e below (T8.setTop (mkF m 20 #[own_jv (3 : Int64), .second, rv b1_1_0, iv (6 : Int32), iv (2 : Int32), rv w_MessageType_PARTIAL_CANCEL] [(.ref w_MessageType_DELETION)])) _
    refine XS.astore X8.here hx rfl (hb hby d1_20) rfl rfl (l' := #[own_jv (3 : Int64), .second, rv b1_1_0, iv (6 : Int32), iv (2 : Int32), rv w_MessageType_DELETION]) rfl ?_
    show Steps p.tables e below (T8.setTop (mkF m 22 #[own_jv (3 : Int64), .second, rv b1_1_0, iv (6 : Int32), iv (2 : Int32), rv w_MessageType_DELETION] [])) _
    refine XS.aload X8.here hx rfl (hb hby d1_22) rfl rfl ?_
    show Steps p.tables e below (T8.setTop (mkF m 24 #[own_jv (3 : Int64), .second, rv b1_1_0, iv (6 : Int32), iv (2 : Int32), rv w_MessageType_DELETION] [(.ref w_MessageType_DELETION)])) _
    refine st11 _ ?_
    show Steps p.tables e below (T11.setTop (mkF m 27 #[own_jv (3 : Int64), .second, rv b1_1_0, iv (6 : Int32), iv (2 : Int32), rv w_MessageType_DELETION] [(.int (3 : Int32))])) _
    refine XS.i2l X11.here hx rfl (hb hby d1_27) rfl ?_
    show Steps p.tables e below (T11.setTop (mkF m 28 #[own_jv (3 : Int64), .second, rv b1_1_0, iv (6 : Int32), iv (2 : Int32), rv w_MessageType_DELETION] [(.long ((3 : Int32).toInt64))])) _
    rewrite [show ((3 : Int32).toInt64) = (3 : Int64) from by decide +kernel]
    show Steps p.tables e below (T11.setTop (mkF m 28 #[own_jv (3 : Int64), .second, rv b1_1_0, iv (6 : Int32), iv (2 : Int32), rv w_MessageType_DELETION] [(.long (3 : Int64))])) _
    refine XS.lloadN X11.here hx rfl (hb hby d1_28) rfl ?_
    show Steps p.tables e below (T11.setTop (mkF m 29 #[own_jv (3 : Int64), .second, rv b1_1_0, iv (6 : Int32), iv (2 : Int32), rv w_MessageType_DELETION] [(.long (3 : Int64)), (.long (3 : Int64))])) _
    refine XS.lcmp X11.here hx rfl (hb hby d1_29) rfl ?_
    show Steps p.tables e below (T11.setTop (mkF m 30 #[own_jv (3 : Int64), .second, rv b1_1_0, iv (6 : Int32), iv (2 : Int32), rv w_MessageType_DELETION] [(.int (lcmpW (3 : Int64) (3 : Int64)))])) _
    rewrite [show (lcmpW (3 : Int64) (3 : Int64)) = (0 : Int32) from by decide +kernel]
    show Steps p.tables e below (T11.setTop (mkF m 30 #[own_jv (3 : Int64), .second, rv b1_1_0, iv (6 : Int32), iv (2 : Int32), rv w_MessageType_DELETION] [(.int (0 : Int32))])) _
    refine XS.ifNo X11.here hx rfl (hb hby d1_30) rfl ((if0 _ _).trans (teq (by decide +kernel : (0 : Int32) = (0 : Int32))).2) ?_
    show Steps p.tables e below (T11.setTop (mkF m 33 #[own_jv (3 : Int64), .second, rv b1_1_0, iv (6 : Int32), iv (2 : Int32), rv w_MessageType_DELETION] [])) _
    refine XS.aload X11.here hx rfl (hb hby d1_33) rfl rfl ?_
    show Steps p.tables e below (T11.setTop (mkF m 35 #[own_jv (3 : Int64), .second, rv b1_1_0, iv (6 : Int32), iv (2 : Int32), rv w_MessageType_DELETION] [(.ref w_MessageType_DELETION)])) _
    exact own_retA X11 hx Bd.returns rfl rfl (hb hby d1_35) hr
  · exact (by show Q_rk_of_2 Z w_MessageType_DELETION h0 n0 _ T11.heap _; rw [e11]; exact ⟨rfl, N1, KK1⟩)
def Q_rk_of_3 (Z : State) (w_MessageType_VISIBLE_EXECUTION : Addr) (h0 : Heap) (n0 : Nat) (v : Option Value) (h : Heap) (L : List Loc) : Prop := (v = (some (.ref w_MessageType_VISIBLE_EXECUTION))) ∧ (Fr n0 L) ∧ (Keep h0 h [])
set_option maxRecDepth 65536 in
set_option maxHeartbeats 40000000 in
theorem rk_of_3 (l : Launch) (Z : State) (a0 : Array Value) (hw : ∀ d ∈ tables_1, d.before a0 Z = true) (ws : List Jvm.Cond) (w_MessageType__VALUES : Addr) (w_MessageType_SUBMISSION : Addr) (w_MessageType_PARTIAL_CANCEL : Addr) (w_MessageType_DELETION : Addr) (w_MessageType_VISIBLE_EXECUTION : Addr) (w_MessageType_HIDDEN_EXECUTION : Addr) (w_MessageType_HALT : Addr) (k_w_MessageType__VALUES : ClassId) (h0 : Heap) (n0 : Nat) (Z0 : n0 ≤ h0.size) (S_MessageType__VALUES : Sta Z h0 "com/example/strikebook/strikebook/cli/MessageType" "$VALUES" "[Lcom/example/strikebook/strikebook/cli/MessageType;" (.ref w_MessageType__VALUES)) (V_w_MessageType__VALUES : Arv Z h0 w_MessageType__VALUES k_w_MessageType__VALUES (.object "com/example/strikebook/strikebook/cli/MessageType") (6 : Int32) [(.ref w_MessageType_SUBMISSION), (.ref w_MessageType_PARTIAL_CANCEL), (.ref w_MessageType_DELETION), (.ref w_MessageType_VISIBLE_EXECUTION), (.ref w_MessageType_HIDDEN_EXECUTION), (.ref w_MessageType_HALT)] .null) (E_w_MessageType__VALUES : Exa Z h0 w_MessageType__VALUES "[Lcom/example/strikebook/strikebook/cli/MessageType;") (F_w_MessageType_SUBMISSION_code : Fld Z h0 w_MessageType_SUBMISSION "com/example/strikebook/strikebook/cli/MessageType" "code" "I" (.int (1 : Int32))) (F_w_MessageType_PARTIAL_CANCEL_code : Fld Z h0 w_MessageType_PARTIAL_CANCEL "com/example/strikebook/strikebook/cli/MessageType" "code" "I" (.int (2 : Int32))) (F_w_MessageType_DELETION_code : Fld Z h0 w_MessageType_DELETION "com/example/strikebook/strikebook/cli/MessageType" "code" "I" (.int (3 : Int32))) (F_w_MessageType_VISIBLE_EXECUTION_code : Fld Z h0 w_MessageType_VISIBLE_EXECUTION "com/example/strikebook/strikebook/cli/MessageType" "code" "I" (.int (4 : Int32))) :
    MetFree l (⟨"com/example/strikebook/strikebook/cli/MessageType", "of", "(J)Lcom/example/strikebook/strikebook/cli/MessageType;"⟩ : MethodName) (head1 (Jvm.Cond.code (⟨"com/example/strikebook/strikebook/cli/MessageType", "of", "(J)Lcom/example/strikebook/strikebook/cli/MessageType;"⟩ : MethodName) prog_10_method_5_code 6 (some (.object "com/example/strikebook/strikebook/cli/MessageType")) :: ws) ({ frames := 2, cells := 1, slots := 6, locals := 25 } : Room)) (fun a U => a = #[(.long (4 : Int64))] ∧ Z.Warmed39 U.vm ∧ U.heap = h0) (fun _ _ _ _ _ => True) (fun _ U o U' => ∃ v L, o = .returned v ∧ Q_rk_of_3 Z w_MessageType_VISIBLE_EXECUTION h0 n0 v U'.heap L ∧ FrameEnd U o U' L ({ frames := 2, cells := 1, slots := 6, locals := 25 } : Room).cells ({ frames := 2, cells := 1, slots := 6, locals := 25 } : Room).slots) := by
  refine MetFree.of_bodySF (plainFor_of_name pn_0) hisR ?_
  intro p e s m args below meth c s₁ Bd hml0 hP hK
  obtain ⟨rfl, hZ, hh⟩ := hP
  have hx := Bd.exec
  have hby := Bd.bytes
  have hml : c.maxLocals = 6 := hml0
  have hown : s.vm.findClass "com/example/strikebook/strikebook/cli/MessageType" = some m.cls := findClass_of_methodNamed Bd.named
  have hnm := (name_of_methodNamed Bd.named Bd.method).1
  have X0 : Stand p l e ({ frames := 2, cells := 1, slots := 6, locals := 25 } : Room) s m #[(.long (4 : Int64))] below meth c s₁ [] 0 0 := Stand.of_body Bd
  have e0 : s₁.heap = h0 := by rw [← hh, Bd.state]; rfl
  have N0 := Fr.nil n0
  have pre0 : ∀ t, Steps p.tables e below (s₁.setTop (mkF m 0 #[own_jv (4 : Int64), .second, .unset, .unset, .unset, .unset] [])) t → Steps p.tables e below (s₁.setTop (entryFrame m #[(.long (4 : Int64))] 6)) t := fun t k => castTop (ef_1_J m (4 : Int64)) k
  obtain ⟨_, _, ⟨T1, L1, k1, n1⟩, -, X1, ⟨Lc1, hQ1, l1, y1, z1⟩, st1⟩ := Jvm.LawKit.callS X0 hx (y := (⟨"com/example/strikebook/strikebook/cli/MessageType", "values", "()[Lcom/example/strikebook/strikebook/cli/MessageType;"⟩ : MethodName)) hown (mvT hZ (hw _ (List.mem_of_getElem? (i := 5) rfl))) (mvT hZ (hw _ (List.mem_of_getElem? (i := 6) rfl))) (mvT hZ (hw _ (List.mem_of_getElem? (i := 3) rfl))) (mvT hZ (hw _ (List.mem_of_getElem? (i := 7) rfl))) (by decide) (backOf (W := 0) (rm2_0 l Z a0 hw [] w_MessageType__VALUES w_MessageType_SUBMISSION w_MessageType_PARTIAL_CANCEL w_MessageType_DELETION w_MessageType_VISIBLE_EXECUTION w_MessageType_HIDDEN_EXECUTION w_MessageType_HALT k_w_MessageType__VALUES h0 n0 Z0 S_MessageType__VALUES V_w_MessageType__VALUES E_w_MessageType__VALUES) hZ (hw _ (List.mem_of_getElem? (i := 7) rfl)) (hw _ (List.mem_of_getElem? (i := 3) rfl)) (by decide) (by decide)) (g := (mkF m 0 #[own_jv (4 : Int64), .second, .unset, .unset, .unset, .unset] [])) rfl (by rw [hml]; rfl) (argsL := []) (rest := []) (lenOf pd_0 rfl) rfl (by show 2 * 0 + _ ≤ _; exact Nat.le_of_eq rfl) (hb hby d1_0) (fun _ _ => ⟨rfl, e0, (by decide : 0 + 1 ≤ _), (by decide : 0 + 6 ≤ _)⟩)
  dsimp only [Pt.U, Pt.locs, Pt.cells, Pt.slots] at X1 l1 y1 z1 st1 hQ1
  subst l1 y1 z1
  obtain ⟨b1_1_0, rfl, N1q, K1, gq_b1_1_0, le_b1_1_0, fq1_0, fq1_1⟩ := hQ1
  have sz_b1_1_0 : h0.size ≤ b1_1_0 := Nat.le_trans (Keep.refl h0 []).1 le_b1_1_0
  have KK1 : Keep h0 T1.heap [] := (Keep.refl h0 []).trans K1 all0
  have Z1 : n0 ≤ T1.heap.size := Nat.le_trans Z0 K1.1
  have N1 := Fr.app N0 N1q
  obtain ⟨cl2, Ar2, -, Sz2, Nn2, -, -⟩ := id fq1_0
  obtain ⟨cl3, Ar3, -, Sz3, Nn3, Hs3, Gs3⟩ := id fq1_0
  have hin3 : ¬ ((0 : Int32) < 0 ∨ cl3.slots.size ≤ ((0 : Int32)).toNatClampNeg) := inb_of Sz3 ⟨by decide, by decide⟩
  have c4 := (F_w_MessageType_SUBMISSION_code.keep K1 nin0)
  obtain ⟨T5, X5, e5, st5⟩ := getF X1 hx hZ hown (host := "") (Or.inl (hw _ (List.mem_of_getElem? (i := 26) rfl))) Via.refl rfl c4 (g := (mkF m 24 #[own_jv (4 : Int64), .second, rv b1_1_0, iv (6 : Int32), iv (0 : Int32), rv w_MessageType_SUBMISSION] [(.ref w_MessageType_SUBMISSION)])) rfl rfl (hb hby d1_24)
  obtain ⟨cl6, Ar6, -, Sz6, Nn6, Hs6, Gs6⟩ := id fq1_0
  have hin6 : ¬ ((1 : Int32) < 0 ∨ cl6.slots.size ≤ ((1 : Int32)).toNatClampNeg) := inb_of Sz6 ⟨by decide, by decide⟩
  have c7 := (F_w_MessageType_PARTIAL_CANCEL_code.keep K1 nin0)
  obtain ⟨T8, X8, e8, st8⟩ := getF X5 hx hZ hown (host := "") (Or.inl (hw _ (List.mem_of_getElem? (i := 26) rfl))) Via.refl e5 c7 (g := (mkF m 24 #[own_jv (4 : Int64), .second, rv b1_1_0, iv (6 : Int32), iv (1 : Int32), rv w_MessageType_PARTIAL_CANCEL] [(.ref w_MessageType_PARTIAL_CANCEL)])) rfl rfl (hb hby d1_24)
  obtain ⟨cl9, Ar9, -, Sz9, Nn9, Hs9, Gs9⟩ := id fq1_0
  have hin9 : ¬ ((2 : Int32) < 0 ∨ cl9.slots.size ≤ ((2 : Int32)).toNatClampNeg) := inb_of Sz9 ⟨by decide, by decide⟩
  have c10 := (F_w_MessageType_DELETION_code.keep K1 nin0)
  obtain ⟨T11, X11, e11, st11⟩ := getF X8 hx hZ hown (host := "") (Or.inl (hw _ (List.mem_of_getElem? (i := 26) rfl))) Via.refl e8 c10 (g := (mkF m 24 #[own_jv (4 : Int64), .second, rv b1_1_0, iv (6 : Int32), iv (2 : Int32), rv w_MessageType_DELETION] [(.ref w_MessageType_DELETION)])) rfl rfl (hb hby d1_24)
  obtain ⟨cl12, Ar12, -, Sz12, Nn12, Hs12, Gs12⟩ := id fq1_0
  have hin12 : ¬ ((3 : Int32) < 0 ∨ cl12.slots.size ≤ ((3 : Int32)).toNatClampNeg) := inb_of Sz12 ⟨by decide, by decide⟩
  have c13 := (F_w_MessageType_VISIBLE_EXECUTION_code.keep K1 nin0)
  obtain ⟨T14, X14, e14, st14⟩ := getF X11 hx hZ hown (host := "") (Or.inl (hw _ (List.mem_of_getElem? (i := 26) rfl))) Via.refl e11 c13 (g := (mkF m 24 #[own_jv (4 : Int64), .second, rv b1_1_0, iv (6 : Int32), iv (3 : Int32), rv w_MessageType_VISIBLE_EXECUTION] [(.ref w_MessageType_VISIBLE_EXECUTION)])) rfl rfl (hb hby d1_24)
  obtain ⟨fs, hr, hrun, hended, hW, hsame⟩ := X14.leave (v := (some (.ref w_MessageType_VISIBLE_EXECUTION))) (fun h => by rw [Bd.returns] at h; cases h)
  refine ⟨_, _, pre0 _ ?_, hrun, hended, _, _, rfl, ?_, ⟨_, rfl⟩, hW, hsame.mono (by decide) (by decide)⟩
  · show Steps p.tables e below (s₁.setTop (mkF m 0 #[own_jv (4 : Int64), .second, .unset, .unset, .unset, .unset] [])) _
    refine st1 _ ?_
    show Steps p.tables e below (T1.setTop (mkF m 3 #[own_jv (4 : Int64), .second, .unset, .unset, .unset, .unset] [(.ref b1_1_0)])) _
    refine XS.astoreN X1.here hx rfl (hb hby d1_3) rfl rfl (l' := #[own_jv (4 : Int64), .second, rv b1_1_0, .unset, .unset, .unset]) rfl ?_
    show Steps p.tables e below (T1.setTop (mkF m 4 #[own_jv (4 : Int64), .second, rv b1_1_0, .unset, .unset, .unset] [])) _
    refine XS.aloadN X1.here hx rfl (hb hby d1_4) rfl rfl ?_
    show Steps p.tables e below (T1.setTop (mkF m 5 #[own_jv (4 : Int64), .second, rv b1_1_0, .unset, .unset, .unset] [(.ref b1_1_0)])) _
    refine X1.arraylength hx Ar2.1 (State.isArrayOf_alike hZ.alike Ar2.2.1) (g := (mkF m 5 #[own_jv (4 : Int64), .second, rv b1_1_0, .unset, .unset, .unset] [(.ref b1_1_0)])) rfl rfl (hb hby d1_5) _ ?_
    rw [len_of Sz2 Nn2]
    show Steps p.tables e below (T1.setTop (mkF m 6 #[own_jv (4 : Int64), .second, rv b1_1_0, .unset, .unset, .unset] [(.int (6 : Int32))])) _
    refine XS.istoreN X1.here hx rfl (hb hby d1_6) rfl (l' := #[own_jv (4 : Int64), .second, rv b1_1_0, iv (6 : Int32), .unset, .unset]) rfl ?_
    show Steps p.tables e below (T1.setTop (mkF m 7 #[own_jv (4 : Int64), .second, rv b1_1_0, iv (6 : Int32), .unset, .unset] [])) _
    refine XS.iconst X1.here hx rfl (hb hby d1_7) ?_
    show Steps p.tables e below (T1.setTop (mkF m 8 #[own_jv (4 : Int64), .second, rv b1_1_0, iv (6 : Int32), .unset, .unset] [(.int (0 : Int32))])) _
    refine XS.istore X1.here hx rfl (hb hby d1_8) rfl (l' := #[own_jv (4 : Int64), .second, rv b1_1_0, iv (6 : Int32), iv (0 : Int32), .unset]) rfl ?_
    show Steps p.tables e below (T1.setTop (mkF m 10 #[own_jv (4 : Int64), .second, rv b1_1_0, iv (6 : Int32), iv (0 : Int32), .unset] [])) _
    refine XS.iload X1.here hx rfl (hb hby d1_10) rfl ?_
    show Steps p.tables e below (T1.setTop (mkF m 12 #[own_jv (4 : Int64), .second, rv b1_1_0, iv (6 : Int32), iv (0 : Int32), .unset] [(.int (0 : Int32))])) _
    refine XS.iloadN X1.here hx rfl (hb hby d1_12) rfl ?_
    show Steps p.tables e below (T1.setTop (mkF m 13 #[own_jv (4 : Int64), .second, rv b1_1_0, iv (6 : Int32), iv (0 : Int32), .unset] [(.int (6 : Int32)), (.int (0 : Int32))])) _
    refine XS.icmpNo X1.here hx rfl (hb hby d1_13) rfl (tlt (by decide +kernel : (0 : Int32) < (6 : Int32))).2.1 ?_
    show Steps p.tables e below (T1.setTop (mkF m 16 #[own_jv (4 : Int64), .second, rv b1_1_0, iv (6 : Int32), iv (0 : Int32), .unset] [])) _
    refine XS.aloadN X1.here hx rfl (hb hby d1_16) rfl rfl ?_
    show Steps p.tables e below (T1.setTop (mkF m 17 #[own_jv (4 : Int64), .second, rv b1_1_0, iv (6 : Int32), iv (0 : Int32), .unset] [(.ref b1_1_0)])) _
    refine XS.iload X1.here hx rfl (hb hby d1_17) rfl ?_
    show Steps p.tables e below (T1.setTop (mkF m 19 #[own_jv (4 : Int64), .second, rv b1_1_0, iv (6 : Int32), iv (0 : Int32), .unset] [(.int (0 : Int32)), (.ref b1_1_0)])) _
    refine X1.aaload hx (j := (0 : Int32)) (v := (.ref w_MessageType_SUBMISSION)) Ar3.1 (State.isArrayOf_alike hZ.alike Ar3.2.1) rfl Ar3.2.2 hin3 (Hs3.at hin3 rfl) (g := (mkF m 19 #[own_jv (4 : Int64), .second, rv b1_1_0, iv (6 : Int32), iv (0 : Int32), .unset] [(.int (0 : Int32)), (.ref b1_1_0)])) rfl rfl (hb hby d1_19) _ ?_
    show Steps p.tables e below (T1.setTop (mkF m 20 #[own_jv (4 : Int64), .second, rv b1_1_0, iv (6 : Int32), iv (0 : Int32), .unset] [(.ref w_MessageType_SUBMISSION)])) _
    refine XS.astore X1.here hx rfl (hb hby d1_20) rfl rfl (l' := #[own_jv (4 : Int64), .second, rv b1_1_0, iv (6 : Int32), iv (0 : Int32), rv w_MessageType_SUBMISSION]) rfl ?_
    show Steps p.tables e below (T1.setTop (mkF m 22 #[own_jv (4 : Int64), .second, rv b1_1_0, iv (6 : Int32), iv (0 : Int32), rv w_MessageType_SUBMISSION] [])) _
    refine XS.aload X1.here hx rfl (hb hby d1_22) rfl rfl ?_
    show Steps p.tables e below (T1.setTop (mkF m 24 #[own_jv (4 : Int64), .second, rv b1_1_0, iv (6 : Int32), iv (0 : Int32), rv w_MessageType_SUBMISSION] [(.ref w_MessageType_SUBMISSION)])) _
    refine st5 _ ?_
    show Steps p.tables e below (T5.setTop (mkF m 27 #[own_jv (4 : Int64), .second, rv b1_1_0, iv (6 : Int32), iv (0 : Int32), rv w_MessageType_SUBMISSION] [(.int (1 : Int32))])) _
    refine XS.i2l X5.here hx rfl (hb hby d1_27) rfl ?_
    show Steps p.tables e below (T5.setTop (mkF m 28 #[own_jv (4 : Int64), .second, rv b1_1_0, iv (6 : Int32), iv (0 : Int32), rv w_MessageType_SUBMISSION] [(.long ((1 : Int32).toInt64))])) _
    rewrite [show ((1 : Int32).toInt64) = (1 : Int64) from by decide +kernel]
    show Steps p.tables e below (T5.setTop (mkF m 28 #[own_jv (4 : Int64), .second, rv b1_1_0, iv (6 : Int32), iv (0 : Int32), rv w_MessageType_SUBMISSION] [(.long (1 : Int64))])) _
    refine XS.lloadN X5.here hx rfl (hb hby d1_28) rfl ?_
    show Steps p.tables e below (T5.setTop (mkF m 29 #[own_jv (4 : Int64), .second, rv b1_1_0, iv (6 : Int32), iv (0 : Int32), rv w_MessageType_SUBMISSION] [(.long (4 : Int64)), (.long (1 : Int64))])) _
    refine XS.lcmp X5.here hx rfl (hb hby d1_29) rfl ?_
    show Steps p.tables e below (T5.setTop (mkF m 30 #[own_jv (4 : Int64), .second, rv b1_1_0, iv (6 : Int32), iv (0 : Int32), rv w_MessageType_SUBMISSION] [(.int (lcmpW (1 : Int64) (4 : Int64)))])) _
    rewrite [show (lcmpW (1 : Int64) (4 : Int64)) = (-1 : Int32) from by decide +kernel]
    show Steps p.tables e below (T5.setTop (mkF m 30 #[own_jv (4 : Int64), .second, rv b1_1_0, iv (6 : Int32), iv (0 : Int32), rv w_MessageType_SUBMISSION] [(.int (-1 : Int32))])) _
    refine XS.ifYes X5.here hx rfl (pc0 := 30) (pc' := 36) rfl (hb hby d1_30) rfl ((if0 _ _).trans (feq (by decide +kernel : ¬ ((-1 : Int32) = (0 : Int32)))).2) (by decide) (by decide) ?_
    show Steps p.tables e below (T5.setTop (mkF m 36 #[own_jv (4 : Int64), .second, rv b1_1_0, iv (6 : Int32), iv (0 : Int32), rv w_MessageType_SUBMISSION] [])) _
    refine XS.iinc X5.here hx rfl (hb hby d1_36) rfl (l' := #[own_jv (4 : Int64), .second, rv b1_1_0, iv (6 : Int32), iv ((0 : Int32) + (1 : Int32)), rv w_MessageType_SUBMISSION]) rfl ?_
    show Steps p.tables e below (T5.setTop (mkF m 39 #[own_jv (4 : Int64), .second, rv b1_1_0, iv (6 : Int32), iv ((0 : Int32) + (1 : Int32)), rv w_MessageType_SUBMISSION] [])) _
    rewrite [show ((0 : Int32) + (1 : Int32)) = (1 : Int32) from by decide +kernel]
    show Steps p.tables e below (T5.setTop (mkF m 39 #[own_jv (4 : Int64), .second, rv b1_1_0, iv (6 : Int32), iv (1 : Int32), rv w_MessageType_SUBMISSION] [])) _
    refine XS.goto X5.here hx rfl (pc0 := 39) (pc' := 10) rfl (hb hby d1_39) (by decide) (by decide) ?_
    show Steps p.tables e below (T5.setTop (mkF m 10 #[own_jv (4 : Int64), .second, rv b1_1_0, iv (6 : Int32), iv (1 : Int32), rv w_MessageType_SUBMISSION] [])) _
    refine XS.iload X5.here hx rfl (hb hby d1_10) rfl ?_
    show Steps p.tables e below (T5.setTop (mkF m 12 #[own_jv (4 : Int64), .second, rv b1_1_0, iv (6 : Int32), iv (1 : Int32), rv w_MessageType_SUBMISSION] [(.int (1 : Int32))])) _
    refine XS.iloadN X5.here hx rfl (hb hby d1_12) rfl ?_
    show Steps p.tables e below (T5.setTop (mkF m 13 #[own_jv (4 : Int64), .second, rv b1_1_0, iv (6 : Int32), iv (1 : Int32), rv w_MessageType_SUBMISSION] [(.int (6 : Int32)), (.int (1 : Int32))])) _
    refine XS.icmpNo X5.here hx rfl (hb hby d1_13) rfl (tlt (by decide +kernel : (1 : Int32) < (6 : Int32))).2.1 ?_
    show Steps p.tables e below (T5.setTop (mkF m 16 #[own_jv (4 : Int64), .second, rv b1_1_0, iv (6 : Int32), iv (1 : Int32), rv w_MessageType_SUBMISSION] [])) _
    refine XS.aloadN X5.here hx rfl (hb hby d1_16) rfl rfl ?_
    show Steps p.tables e below (T5.setTop (mkF m 17 #[own_jv (4 : Int64), .second, rv b1_1_0, iv (6 : Int32), iv (1 : Int32), rv w_MessageType_SUBMISSION] [(.ref b1_1_0)])) _
    refine XS.iload X5.here hx rfl (hb hby d1_17) rfl ?_
    show Steps p.tables e below (T5.setTop (mkF m 19 #[own_jv (4 : Int64), .second, rv b1_1_0, iv (6 : Int32), iv (1 : Int32), rv w_MessageType_SUBMISSION] [(.int (1 : Int32)), (.ref b1_1_0)])) _
    refine X5.aaload hx (j := (1 : Int32)) (v := (.ref w_MessageType_PARTIAL_CANCEL)) (by rw [e5]; exact Ar6.1) (State.isArrayOf_alike hZ.alike Ar6.2.1) rfl Ar6.2.2 hin6 (Hs6.at hin6 rfl) (g := (mkF m 19 #[own_jv (4 : Int64), .second, rv b1_1_0, iv (6 : Int32), iv (1 : Int32), rv w_MessageType_SUBMISSION] [(.int (1 : Int32)), (.ref b1_1_0)])) rfl rfl (hb hby d1_19) _ ?_
    show Steps p.tables e below (T5.setTop (mkF m 20 #[own_jv (4 : Int64), .second, rv b1_1_0, iv (6 : Int32), iv (1 : Int32), rv w_MessageType_SUBMISSION] [(.ref w_MessageType_PARTIAL_CANCEL)])) _
    refine XS.astore X5.here hx rfl (hb hby d1_20) rfl rfl (l' := #[own_jv (4 : Int64), .second, rv b1_1_0, iv (6 : Int32), iv (1 : Int32), rv w_MessageType_PARTIAL_CANCEL]) rfl ?_
    show Steps p.tables e below (T5.setTop (mkF m 22 #[own_jv (4 : Int64), .second, rv b1_1_0, iv (6 : Int32), iv (1 : Int32), rv w_MessageType_PARTIAL_CANCEL] [])) _
    refine XS.aload X5.here hx rfl (hb hby d1_22) rfl rfl ?_
    show Steps p.tables e below (T5.setTop (mkF m 24 #[own_jv (4 : Int64), .second, rv b1_1_0, iv (6 : Int32), iv (1 : Int32), rv w_MessageType_PARTIAL_CANCEL] [(.ref w_MessageType_PARTIAL_CANCEL)])) _
    refine st8 _ ?_
    show Steps p.tables e below (T8.setTop (mkF m 27 #[own_jv (4 : Int64), .second, rv b1_1_0, iv (6 : Int32), iv (1 : Int32), rv w_MessageType_PARTIAL_CANCEL] [(.int (2 : Int32))])) _
    refine XS.i2l X8.here hx rfl (hb hby d1_27) rfl ?_
    show Steps p.tables e below (T8.setTop (mkF m 28 #[own_jv (4 : Int64), .second, rv b1_1_0, iv (6 : Int32), iv (1 : Int32), rv w_MessageType_PARTIAL_CANCEL] [(.long ((2 : Int32).toInt64))])) _
    rewrite [show ((2 : Int32).toInt64) = (2 : Int64) from by decide +kernel]
    show Steps p.tables e below (T8.setTop (mkF m 28 #[own_jv (4 : Int64), .second, rv b1_1_0, iv (6 : Int32), iv (1 : Int32), rv w_MessageType_PARTIAL_CANCEL] [(.long (2 : Int64))])) _
    refine XS.lloadN X8.here hx rfl (hb hby d1_28) rfl ?_
    show Steps p.tables e below (T8.setTop (mkF m 29 #[own_jv (4 : Int64), .second, rv b1_1_0, iv (6 : Int32), iv (1 : Int32), rv w_MessageType_PARTIAL_CANCEL] [(.long (4 : Int64)), (.long (2 : Int64))])) _
    refine XS.lcmp X8.here hx rfl (hb hby d1_29) rfl ?_
    show Steps p.tables e below (T8.setTop (mkF m 30 #[own_jv (4 : Int64), .second, rv b1_1_0, iv (6 : Int32), iv (1 : Int32), rv w_MessageType_PARTIAL_CANCEL] [(.int (lcmpW (2 : Int64) (4 : Int64)))])) _
    rewrite [show (lcmpW (2 : Int64) (4 : Int64)) = (-1 : Int32) from by decide +kernel]
    show Steps p.tables e below (T8.setTop (mkF m 30 #[own_jv (4 : Int64), .second, rv b1_1_0, iv (6 : Int32), iv (1 : Int32), rv w_MessageType_PARTIAL_CANCEL] [(.int (-1 : Int32))])) _
    refine XS.ifYes X8.here hx rfl (pc0 := 30) (pc' := 36) rfl (hb hby d1_30) rfl ((if0 _ _).trans (feq (by decide +kernel : ¬ ((-1 : Int32) = (0 : Int32)))).2) (by decide) (by decide) ?_
    show Steps p.tables e below (T8.setTop (mkF m 36 #[own_jv (4 : Int64), .second, rv b1_1_0, iv (6 : Int32), iv (1 : Int32), rv w_MessageType_PARTIAL_CANCEL] [])) _
    refine XS.iinc X8.here hx rfl (hb hby d1_36) rfl (l' := #[own_jv (4 : Int64), .second, rv b1_1_0, iv (6 : Int32), iv ((1 : Int32) + (1 : Int32)), rv w_MessageType_PARTIAL_CANCEL]) rfl ?_
    show Steps p.tables e below (T8.setTop (mkF m 39 #[own_jv (4 : Int64), .second, rv b1_1_0, iv (6 : Int32), iv ((1 : Int32) + (1 : Int32)), rv w_MessageType_PARTIAL_CANCEL] [])) _
    rewrite [show ((1 : Int32) + (1 : Int32)) = (2 : Int32) from by decide +kernel]
    show Steps p.tables e below (T8.setTop (mkF m 39 #[own_jv (4 : Int64), .second, rv b1_1_0, iv (6 : Int32), iv (2 : Int32), rv w_MessageType_PARTIAL_CANCEL] [])) _
    refine XS.goto X8.here hx rfl (pc0 := 39) (pc' := 10) rfl (hb hby d1_39) (by decide) (by decide) ?_
    show Steps p.tables e below (T8.setTop (mkF m 10 #[own_jv (4 : Int64), .second, rv b1_1_0, iv (6 : Int32), iv (2 : Int32), rv w_MessageType_PARTIAL_CANCEL] [])) _
    refine XS.iload X8.here hx rfl (hb hby d1_10) rfl ?_
    show Steps p.tables e below (T8.setTop (mkF m 12 #[own_jv (4 : Int64), .second, rv b1_1_0, iv (6 : Int32), iv (2 : Int32), rv w_MessageType_PARTIAL_CANCEL] [(.int (2 : Int32))])) _
    refine XS.iloadN X8.here hx rfl (hb hby d1_12) rfl ?_
    show Steps p.tables e below (T8.setTop (mkF m 13 #[own_jv (4 : Int64), .second, rv b1_1_0, iv (6 : Int32), iv (2 : Int32), rv w_MessageType_PARTIAL_CANCEL] [(.int (6 : Int32)), (.int (2 : Int32))])) _
    refine XS.icmpNo X8.here hx rfl (hb hby d1_13) rfl (tlt (by decide +kernel : (2 : Int32) < (6 : Int32))).2.1 ?_
    show Steps p.tables e below (T8.setTop (mkF m 16 #[own_jv (4 : Int64), .second, rv b1_1_0, iv (6 : Int32), iv (2 : Int32), rv w_MessageType_PARTIAL_CANCEL] [])) _
    refine XS.aloadN X8.here hx rfl (hb hby d1_16) rfl rfl ?_
    show Steps p.tables e below (T8.setTop (mkF m 17 #[own_jv (4 : Int64), .second, rv b1_1_0, iv (6 : Int32), iv (2 : Int32), rv w_MessageType_PARTIAL_CANCEL] [(.ref b1_1_0)])) _
    refine XS.iload X8.here hx rfl (hb hby d1_17) rfl ?_
    show Steps p.tables e below (T8.setTop (mkF m 19 #[own_jv (4 : Int64), .second, rv b1_1_0, iv (6 : Int32), iv (2 : Int32), rv w_MessageType_PARTIAL_CANCEL] [(.int (2 : Int32)), (.ref b1_1_0)])) _
    refine X8.aaload hx (j := (2 : Int32)) (v := (.ref w_MessageType_DELETION)) (by rw [e8]; exact Ar9.1) (State.isArrayOf_alike hZ.alike Ar9.2.1) rfl Ar9.2.2 hin9 (Hs9.at hin9 rfl) (g := (mkF m 19 #[own_jv (4 : Int64), .second, rv b1_1_0, iv (6 : Int32), iv (2 : Int32), rv w_MessageType_PARTIAL_CANCEL] [(.int (2 : Int32)), (.ref b1_1_0)])) rfl rfl (hb hby d1_19) _ ?_
    show Steps p.tables e below (T8.setTop (mkF m 20 #[own_jv (4 : Int64), .second, rv b1_1_0, iv (6 : Int32), iv (2 : Int32), rv w_MessageType_PARTIAL_CANCEL] [(.ref w_MessageType_DELETION)])) _
    refine XS.astore X8.here hx rfl (hb hby d1_20) rfl rfl (l' := #[own_jv (4 : Int64), .second, rv b1_1_0, iv (6 : Int32), iv (2 : Int32), rv w_MessageType_DELETION]) rfl ?_
    show Steps p.tables e below (T8.setTop (mkF m 22 #[own_jv (4 : Int64), .second, rv b1_1_0, iv (6 : Int32), iv (2 : Int32), rv w_MessageType_DELETION] [])) _
    refine XS.aload X8.here hx rfl (hb hby d1_22) rfl rfl ?_
    show Steps p.tables e below (T8.setTop (mkF m 24 #[own_jv (4 : Int64), .second, rv b1_1_0, iv (6 : Int32), iv (2 : Int32), rv w_MessageType_DELETION] [(.ref w_MessageType_DELETION)])) _
    refine st11 _ ?_
    show Steps p.tables e below (T11.setTop (mkF m 27 #[own_jv (4 : Int64), .second, rv b1_1_0, iv (6 : Int32), iv (2 : Int32), rv w_MessageType_DELETION] [(.int (3 : Int32))])) _
    refine XS.i2l X11.here hx rfl (hb hby d1_27) rfl ?_
    show Steps p.tables e below (T11.setTop (mkF m 28 #[own_jv (4 : Int64), .second, rv b1_1_0, iv (6 : Int32), iv (2 : Int32), rv w_MessageType_DELETION] [(.long ((3 : Int32).toInt64))])) _
    rewrite [show ((3 : Int32).toInt64) = (3 : Int64) from by decide +kernel]
    show Steps p.tables e below (T11.setTop (mkF m 28 #[own_jv (4 : Int64), .second, rv b1_1_0, iv (6 : Int32), iv (2 : Int32), rv w_MessageType_DELETION] [(.long (3 : Int64))])) _
    refine XS.lloadN X11.here hx rfl (hb hby d1_28) rfl ?_
    show Steps p.tables e below (T11.setTop (mkF m 29 #[own_jv (4 : Int64), .second, rv b1_1_0, iv (6 : Int32), iv (2 : Int32), rv w_MessageType_DELETION] [(.long (4 : Int64)), (.long (3 : Int64))])) _
    refine XS.lcmp X11.here hx rfl (hb hby d1_29) rfl ?_
    show Steps p.tables e below (T11.setTop (mkF m 30 #[own_jv (4 : Int64), .second, rv b1_1_0, iv (6 : Int32), iv (2 : Int32), rv w_MessageType_DELETION] [(.int (lcmpW (3 : Int64) (4 : Int64)))])) _
    rewrite [show (lcmpW (3 : Int64) (4 : Int64)) = (-1 : Int32) from by decide +kernel]
    show Steps p.tables e below (T11.setTop (mkF m 30 #[own_jv (4 : Int64), .second, rv b1_1_0, iv (6 : Int32), iv (2 : Int32), rv w_MessageType_DELETION] [(.int (-1 : Int32))])) _
    refine XS.ifYes X11.here hx rfl (pc0 := 30) (pc' := 36) rfl (hb hby d1_30) rfl ((if0 _ _).trans (feq (by decide +kernel : ¬ ((-1 : Int32) = (0 : Int32)))).2) (by decide) (by decide) ?_
    show Steps p.tables e below (T11.setTop (mkF m 36 #[own_jv (4 : Int64), .second, rv b1_1_0, iv (6 : Int32), iv (2 : Int32), rv w_MessageType_DELETION] [])) _
    refine XS.iinc X11.here hx rfl (hb hby d1_36) rfl (l' := #[own_jv (4 : Int64), .second, rv b1_1_0, iv (6 : Int32), iv ((2 : Int32) + (1 : Int32)), rv w_MessageType_DELETION]) rfl ?_
    show Steps p.tables e below (T11.setTop (mkF m 39 #[own_jv (4 : Int64), .second, rv b1_1_0, iv (6 : Int32), iv ((2 : Int32) + (1 : Int32)), rv w_MessageType_DELETION] [])) _
    rewrite [show ((2 : Int32) + (1 : Int32)) = (3 : Int32) from by decide +kernel]
    show Steps p.tables e below (T11.setTop (mkF m 39 #[own_jv (4 : Int64), .second, rv b1_1_0, iv (6 : Int32), iv (3 : Int32), rv w_MessageType_DELETION] [])) _
    refine XS.goto X11.here hx rfl (pc0 := 39) (pc' := 10) rfl (hb hby d1_39) (by decide) (by decide) ?_
    show Steps p.tables e below (T11.setTop (mkF m 10 #[own_jv (4 : Int64), .second, rv b1_1_0, iv (6 : Int32), iv (3 : Int32), rv w_MessageType_DELETION] [])) _
    refine XS.iload X11.here hx rfl (hb hby d1_10) rfl ?_
    show Steps p.tables e below (T11.setTop (mkF m 12 #[own_jv (4 : Int64), .second, rv b1_1_0, iv (6 : Int32), iv (3 : Int32), rv w_MessageType_DELETION] [(.int (3 : Int32))])) _
    refine XS.iloadN X11.here hx rfl (hb hby d1_12) rfl ?_
    show Steps p.tables e below (T11.setTop (mkF m 13 #[own_jv (4 : Int64), .second, rv b1_1_0, iv (6 : Int32), iv (3 : Int32), rv w_MessageType_DELETION] [(.int (6 : Int32)), (.int (3 : Int32))])) _
    refine XS.icmpNo X11.here hx rfl (hb hby d1_13) rfl (tlt (by decide +kernel : (3 : Int32) < (6 : Int32))).2.1 ?_
    show Steps p.tables e below (T11.setTop (mkF m 16 #[own_jv (4 : Int64), .second, rv b1_1_0, iv (6 : Int32), iv (3 : Int32), rv w_MessageType_DELETION] [])) _
    refine XS.aloadN X11.here hx rfl (hb hby d1_16) rfl rfl ?_
    show Steps p.tables e below (T11.setTop (mkF m 17 #[own_jv (4 : Int64), .second, rv b1_1_0, iv (6 : Int32), iv (3 : Int32), rv w_MessageType_DELETION] [(.ref b1_1_0)])) _
    refine XS.iload X11.here hx rfl (hb hby d1_17) rfl ?_
    show Steps p.tables e below (T11.setTop (mkF m 19 #[own_jv (4 : Int64), .second, rv b1_1_0, iv (6 : Int32), iv (3 : Int32), rv w_MessageType_DELETION] [(.int (3 : Int32)), (.ref b1_1_0)])) _
    refine X11.aaload hx (j := (3 : Int32)) (v := (.ref w_MessageType_VISIBLE_EXECUTION)) (by rw [e11]; exact Ar12.1) (State.isArrayOf_alike hZ.alike Ar12.2.1) rfl Ar12.2.2 hin12 (Hs12.at hin12 rfl) (g := (mkF m 19 #[own_jv (4 : Int64), .second, rv b1_1_0, iv (6 : Int32), iv (3 : Int32), rv w_MessageType_DELETION] [(.int (3 : Int32)), (.ref b1_1_0)])) rfl rfl (hb hby d1_19) _ ?_
    show Steps p.tables e below (T11.setTop (mkF m 20 #[own_jv (4 : Int64), .second, rv b1_1_0, iv (6 : Int32), iv (3 : Int32), rv w_MessageType_DELETION] [(.ref w_MessageType_VISIBLE_EXECUTION)])) _
    refine XS.astore X11.here hx rfl (hb hby d1_20) rfl rfl (l' := #[own_jv (4 : Int64), .second, rv b1_1_0, iv (6 : Int32), iv (3 : Int32), rv w_MessageType_VISIBLE_EXECUTION]) rfl ?_
    show Steps p.tables e below (T11.setTop (mkF m 22 #[own_jv (4 : Int64), .second, rv b1_1_0, iv (6 : Int32), iv (3 : Int32), rv w_MessageType_VISIBLE_EXECUTION] [])) _
    refine XS.aload X11.here hx rfl (hb hby d1_22) rfl rfl ?_
    show Steps p.tables e below (T11.setTop (mkF m 24 #[own_jv (4 : Int64), .second, rv b1_1_0, iv (6 : Int32), iv (3 : Int32), rv w_MessageType_VISIBLE_EXECUTION] [(.ref w_MessageType_VISIBLE_EXECUTION)])) _
    refine st14 _ ?_
    show Steps p.tables e below (T14.setTop (mkF m 27 #[own_jv (4 : Int64), .second, rv b1_1_0, iv (6 : Int32), iv (3 : Int32), rv w_MessageType_VISIBLE_EXECUTION] [(.int (4 : Int32))])) _
    refine XS.i2l X14.here hx rfl (hb hby d1_27) rfl ?_
    show Steps p.tables e below (T14.setTop (mkF m 28 #[own_jv (4 : Int64), .second, rv b1_1_0, iv (6 : Int32), iv (3 : Int32), rv w_MessageType_VISIBLE_EXECUTION] [(.long ((4 : Int32).toInt64))])) _
    rewrite [show ((4 : Int32).toInt64) = (4 : Int64) from by decide +kernel]
    show Steps p.tables e below (T14.setTop (mkF m 28 #[own_jv (4 : Int64), .second, rv b1_1_0, iv (6 : Int32), iv (3 : Int32), rv w_MessageType_VISIBLE_EXECUTION] [(.long (4 : Int64))])) _
    refine XS.lloadN X14.here hx rfl (hb hby d1_28) rfl ?_
    show Steps p.tables e below (T14.setTop (mkF m 29 #[own_jv (4 : Int64), .second, rv b1_1_0, iv (6 : Int32), iv (3 : Int32), rv w_MessageType_VISIBLE_EXECUTION] [(.long (4 : Int64)), (.long (4 : Int64))])) _
    refine XS.lcmp X14.here hx rfl (hb hby d1_29) rfl ?_
    show Steps p.tables e below (T14.setTop (mkF m 30 #[own_jv (4 : Int64), .second, rv b1_1_0, iv (6 : Int32), iv (3 : Int32), rv w_MessageType_VISIBLE_EXECUTION] [(.int (lcmpW (4 : Int64) (4 : Int64)))])) _
    rewrite [show (lcmpW (4 : Int64) (4 : Int64)) = (0 : Int32) from by decide +kernel]
    show Steps p.tables e below (T14.setTop (mkF m 30 #[own_jv (4 : Int64), .second, rv b1_1_0, iv (6 : Int32), iv (3 : Int32), rv w_MessageType_VISIBLE_EXECUTION] [(.int (0 : Int32))])) _
    refine XS.ifNo X14.here hx rfl (hb hby d1_30) rfl ((if0 _ _).trans (teq (by decide +kernel : (0 : Int32) = (0 : Int32))).2) ?_
    show Steps p.tables e below (T14.setTop (mkF m 33 #[own_jv (4 : Int64), .second, rv b1_1_0, iv (6 : Int32), iv (3 : Int32), rv w_MessageType_VISIBLE_EXECUTION] [])) _
    refine XS.aload X14.here hx rfl (hb hby d1_33) rfl rfl ?_
    show Steps p.tables e below (T14.setTop (mkF m 35 #[own_jv (4 : Int64), .second, rv b1_1_0, iv (6 : Int32), iv (3 : Int32), rv w_MessageType_VISIBLE_EXECUTION] [(.ref w_MessageType_VISIBLE_EXECUTION)])) _
    exact own_retA X14 hx Bd.returns rfl rfl (hb hby d1_35) hr
  · exact (by show Q_rk_of_3 Z w_MessageType_VISIBLE_EXECUTION h0 n0 _ T14.heap _; rw [e14]; exact ⟨rfl, N1, KK1⟩)
def Q_rk_of_4 (Z : State) (w_MessageType_HIDDEN_EXECUTION : Addr) (h0 : Heap) (n0 : Nat) (v : Option Value) (h : Heap) (L : List Loc) : Prop := (v = (some (.ref w_MessageType_HIDDEN_EXECUTION))) ∧ (Fr n0 L) ∧ (Keep h0 h [])
set_option maxRecDepth 65536 in
set_option maxHeartbeats 40000000 in
theorem rk_of_4 (l : Launch) (Z : State) (a0 : Array Value) (hw : ∀ d ∈ tables_1, d.before a0 Z = true) (ws : List Jvm.Cond) (w_MessageType__VALUES : Addr) (w_MessageType_SUBMISSION : Addr) (w_MessageType_PARTIAL_CANCEL : Addr) (w_MessageType_DELETION : Addr) (w_MessageType_VISIBLE_EXECUTION : Addr) (w_MessageType_HIDDEN_EXECUTION : Addr) (w_MessageType_HALT : Addr) (k_w_MessageType__VALUES : ClassId) (h0 : Heap) (n0 : Nat) (Z0 : n0 ≤ h0.size) (S_MessageType__VALUES : Sta Z h0 "com/example/strikebook/strikebook/cli/MessageType" "$VALUES" "[Lcom/example/strikebook/strikebook/cli/MessageType;" (.ref w_MessageType__VALUES)) (V_w_MessageType__VALUES : Arv Z h0 w_MessageType__VALUES k_w_MessageType__VALUES (.object "com/example/strikebook/strikebook/cli/MessageType") (6 : Int32) [(.ref w_MessageType_SUBMISSION), (.ref w_MessageType_PARTIAL_CANCEL), (.ref w_MessageType_DELETION), (.ref w_MessageType_VISIBLE_EXECUTION), (.ref w_MessageType_HIDDEN_EXECUTION), (.ref w_MessageType_HALT)] .null) (E_w_MessageType__VALUES : Exa Z h0 w_MessageType__VALUES "[Lcom/example/strikebook/strikebook/cli/MessageType;") (F_w_MessageType_SUBMISSION_code : Fld Z h0 w_MessageType_SUBMISSION "com/example/strikebook/strikebook/cli/MessageType" "code" "I" (.int (1 : Int32))) (F_w_MessageType_PARTIAL_CANCEL_code : Fld Z h0 w_MessageType_PARTIAL_CANCEL "com/example/strikebook/strikebook/cli/MessageType" "code" "I" (.int (2 : Int32))) (F_w_MessageType_DELETION_code : Fld Z h0 w_MessageType_DELETION "com/example/strikebook/strikebook/cli/MessageType" "code" "I" (.int (3 : Int32))) (F_w_MessageType_VISIBLE_EXECUTION_code : Fld Z h0 w_MessageType_VISIBLE_EXECUTION "com/example/strikebook/strikebook/cli/MessageType" "code" "I" (.int (4 : Int32))) (F_w_MessageType_HIDDEN_EXECUTION_code : Fld Z h0 w_MessageType_HIDDEN_EXECUTION "com/example/strikebook/strikebook/cli/MessageType" "code" "I" (.int (5 : Int32))) :
    MetFree l (⟨"com/example/strikebook/strikebook/cli/MessageType", "of", "(J)Lcom/example/strikebook/strikebook/cli/MessageType;"⟩ : MethodName) (head1 (Jvm.Cond.code (⟨"com/example/strikebook/strikebook/cli/MessageType", "of", "(J)Lcom/example/strikebook/strikebook/cli/MessageType;"⟩ : MethodName) prog_10_method_5_code 6 (some (.object "com/example/strikebook/strikebook/cli/MessageType")) :: ws) ({ frames := 2, cells := 1, slots := 6, locals := 25 } : Room)) (fun a U => a = #[(.long (5 : Int64))] ∧ Z.Warmed39 U.vm ∧ U.heap = h0) (fun _ _ _ _ _ => True) (fun _ U o U' => ∃ v L, o = .returned v ∧ Q_rk_of_4 Z w_MessageType_HIDDEN_EXECUTION h0 n0 v U'.heap L ∧ FrameEnd U o U' L ({ frames := 2, cells := 1, slots := 6, locals := 25 } : Room).cells ({ frames := 2, cells := 1, slots := 6, locals := 25 } : Room).slots) := by
  refine MetFree.of_bodySF (plainFor_of_name pn_0) hisR ?_
  intro p e s m args below meth c s₁ Bd hml0 hP hK
  obtain ⟨rfl, hZ, hh⟩ := hP
  have hx := Bd.exec
  have hby := Bd.bytes
  have hml : c.maxLocals = 6 := hml0
  have hown : s.vm.findClass "com/example/strikebook/strikebook/cli/MessageType" = some m.cls := findClass_of_methodNamed Bd.named
  have hnm := (name_of_methodNamed Bd.named Bd.method).1
  have X0 : Stand p l e ({ frames := 2, cells := 1, slots := 6, locals := 25 } : Room) s m #[(.long (5 : Int64))] below meth c s₁ [] 0 0 := Stand.of_body Bd
  have e0 : s₁.heap = h0 := by rw [← hh, Bd.state]; rfl
  have N0 := Fr.nil n0
  have pre0 : ∀ t, Steps p.tables e below (s₁.setTop (mkF m 0 #[own_jv (5 : Int64), .second, .unset, .unset, .unset, .unset] [])) t → Steps p.tables e below (s₁.setTop (entryFrame m #[(.long (5 : Int64))] 6)) t := fun t k => castTop (ef_1_J m (5 : Int64)) k
  obtain ⟨_, _, ⟨T1, L1, k1, n1⟩, -, X1, ⟨Lc1, hQ1, l1, y1, z1⟩, st1⟩ := Jvm.LawKit.callS X0 hx (y := (⟨"com/example/strikebook/strikebook/cli/MessageType", "values", "()[Lcom/example/strikebook/strikebook/cli/MessageType;"⟩ : MethodName)) hown (mvT hZ (hw _ (List.mem_of_getElem? (i := 5) rfl))) (mvT hZ (hw _ (List.mem_of_getElem? (i := 6) rfl))) (mvT hZ (hw _ (List.mem_of_getElem? (i := 3) rfl))) (mvT hZ (hw _ (List.mem_of_getElem? (i := 7) rfl))) (by decide) (backOf (W := 0) (rm2_0 l Z a0 hw [] w_MessageType__VALUES w_MessageType_SUBMISSION w_MessageType_PARTIAL_CANCEL w_MessageType_DELETION w_MessageType_VISIBLE_EXECUTION w_MessageType_HIDDEN_EXECUTION w_MessageType_HALT k_w_MessageType__VALUES h0 n0 Z0 S_MessageType__VALUES V_w_MessageType__VALUES E_w_MessageType__VALUES) hZ (hw _ (List.mem_of_getElem? (i := 7) rfl)) (hw _ (List.mem_of_getElem? (i := 3) rfl)) (by decide) (by decide)) (g := (mkF m 0 #[own_jv (5 : Int64), .second, .unset, .unset, .unset, .unset] [])) rfl (by rw [hml]; rfl) (argsL := []) (rest := []) (lenOf pd_0 rfl) rfl (by show 2 * 0 + _ ≤ _; exact Nat.le_of_eq rfl) (hb hby d1_0) (fun _ _ => ⟨rfl, e0, (by decide : 0 + 1 ≤ _), (by decide : 0 + 6 ≤ _)⟩)
  dsimp only [Pt.U, Pt.locs, Pt.cells, Pt.slots] at X1 l1 y1 z1 st1 hQ1
  subst l1 y1 z1
  obtain ⟨b1_1_0, rfl, N1q, K1, gq_b1_1_0, le_b1_1_0, fq1_0, fq1_1⟩ := hQ1
  have sz_b1_1_0 : h0.size ≤ b1_1_0 := Nat.le_trans (Keep.refl h0 []).1 le_b1_1_0
  have KK1 : Keep h0 T1.heap [] := (Keep.refl h0 []).trans K1 all0
  have Z1 : n0 ≤ T1.heap.size := Nat.le_trans Z0 K1.1
  have N1 := Fr.app N0 N1q
  obtain ⟨cl2, Ar2, -, Sz2, Nn2, -, -⟩ := id fq1_0
  obtain ⟨cl3, Ar3, -, Sz3, Nn3, Hs3, Gs3⟩ := id fq1_0
  have hin3 : ¬ ((0 : Int32) < 0 ∨ cl3.slots.size ≤ ((0 : Int32)).toNatClampNeg) := inb_of Sz3 ⟨by decide, by decide⟩
  have c4 := (F_w_MessageType_SUBMISSION_code.keep K1 nin0)
  obtain ⟨T5, X5, e5, st5⟩ := getF X1 hx hZ hown (host := "") (Or.inl (hw _ (List.mem_of_getElem? (i := 26) rfl))) Via.refl rfl c4 (g := (mkF m 24 #[own_jv (5 : Int64), .second, rv b1_1_0, iv (6 : Int32), iv (0 : Int32), rv w_MessageType_SUBMISSION] [(.ref w_MessageType_SUBMISSION)])) rfl rfl (hb hby d1_24)
  obtain ⟨cl6, Ar6, -, Sz6, Nn6, Hs6, Gs6⟩ := id fq1_0
  have hin6 : ¬ ((1 : Int32) < 0 ∨ cl6.slots.size ≤ ((1 : Int32)).toNatClampNeg) := inb_of Sz6 ⟨by decide, by decide⟩
  have c7 := (F_w_MessageType_PARTIAL_CANCEL_code.keep K1 nin0)
  obtain ⟨T8, X8, e8, st8⟩ := getF X5 hx hZ hown (host := "") (Or.inl (hw _ (List.mem_of_getElem? (i := 26) rfl))) Via.refl e5 c7 (g := (mkF m 24 #[own_jv (5 : Int64), .second, rv b1_1_0, iv (6 : Int32), iv (1 : Int32), rv w_MessageType_PARTIAL_CANCEL] [(.ref w_MessageType_PARTIAL_CANCEL)])) rfl rfl (hb hby d1_24)
  obtain ⟨cl9, Ar9, -, Sz9, Nn9, Hs9, Gs9⟩ := id fq1_0
  have hin9 : ¬ ((2 : Int32) < 0 ∨ cl9.slots.size ≤ ((2 : Int32)).toNatClampNeg) := inb_of Sz9 ⟨by decide, by decide⟩
  have c10 := (F_w_MessageType_DELETION_code.keep K1 nin0)
  obtain ⟨T11, X11, e11, st11⟩ := getF X8 hx hZ hown (host := "") (Or.inl (hw _ (List.mem_of_getElem? (i := 26) rfl))) Via.refl e8 c10 (g := (mkF m 24 #[own_jv (5 : Int64), .second, rv b1_1_0, iv (6 : Int32), iv (2 : Int32), rv w_MessageType_DELETION] [(.ref w_MessageType_DELETION)])) rfl rfl (hb hby d1_24)
  obtain ⟨cl12, Ar12, -, Sz12, Nn12, Hs12, Gs12⟩ := id fq1_0
  have hin12 : ¬ ((3 : Int32) < 0 ∨ cl12.slots.size ≤ ((3 : Int32)).toNatClampNeg) := inb_of Sz12 ⟨by decide, by decide⟩
  have c13 := (F_w_MessageType_VISIBLE_EXECUTION_code.keep K1 nin0)
  obtain ⟨T14, X14, e14, st14⟩ := getF X11 hx hZ hown (host := "") (Or.inl (hw _ (List.mem_of_getElem? (i := 26) rfl))) Via.refl e11 c13 (g := (mkF m 24 #[own_jv (5 : Int64), .second, rv b1_1_0, iv (6 : Int32), iv (3 : Int32), rv w_MessageType_VISIBLE_EXECUTION] [(.ref w_MessageType_VISIBLE_EXECUTION)])) rfl rfl (hb hby d1_24)
  obtain ⟨cl15, Ar15, -, Sz15, Nn15, Hs15, Gs15⟩ := id fq1_0
  have hin15 : ¬ ((4 : Int32) < 0 ∨ cl15.slots.size ≤ ((4 : Int32)).toNatClampNeg) := inb_of Sz15 ⟨by decide, by decide⟩
  have c16 := (F_w_MessageType_HIDDEN_EXECUTION_code.keep K1 nin0)
  obtain ⟨T17, X17, e17, st17⟩ := getF X14 hx hZ hown (host := "") (Or.inl (hw _ (List.mem_of_getElem? (i := 26) rfl))) Via.refl e14 c16 (g := (mkF m 24 #[own_jv (5 : Int64), .second, rv b1_1_0, iv (6 : Int32), iv (4 : Int32), rv w_MessageType_HIDDEN_EXECUTION] [(.ref w_MessageType_HIDDEN_EXECUTION)])) rfl rfl (hb hby d1_24)
  obtain ⟨fs, hr, hrun, hended, hW, hsame⟩ := X17.leave (v := (some (.ref w_MessageType_HIDDEN_EXECUTION))) (fun h => by rw [Bd.returns] at h; cases h)
  refine ⟨_, _, pre0 _ ?_, hrun, hended, _, _, rfl, ?_, ⟨_, rfl⟩, hW, hsame.mono (by decide) (by decide)⟩
  · show Steps p.tables e below (s₁.setTop (mkF m 0 #[own_jv (5 : Int64), .second, .unset, .unset, .unset, .unset] [])) _
    refine st1 _ ?_
    show Steps p.tables e below (T1.setTop (mkF m 3 #[own_jv (5 : Int64), .second, .unset, .unset, .unset, .unset] [(.ref b1_1_0)])) _
    refine XS.astoreN X1.here hx rfl (hb hby d1_3) rfl rfl (l' := #[own_jv (5 : Int64), .second, rv b1_1_0, .unset, .unset, .unset]) rfl ?_
    show Steps p.tables e below (T1.setTop (mkF m 4 #[own_jv (5 : Int64), .second, rv b1_1_0, .unset, .unset, .unset] [])) _
    refine XS.aloadN X1.here hx rfl (hb hby d1_4) rfl rfl ?_
    show Steps p.tables e below (T1.setTop (mkF m 5 #[own_jv (5 : Int64), .second, rv b1_1_0, .unset, .unset, .unset] [(.ref b1_1_0)])) _
    refine X1.arraylength hx Ar2.1 (State.isArrayOf_alike hZ.alike Ar2.2.1) (g := (mkF m 5 #[own_jv (5 : Int64), .second, rv b1_1_0, .unset, .unset, .unset] [(.ref b1_1_0)])) rfl rfl (hb hby d1_5) _ ?_
    rw [len_of Sz2 Nn2]
    show Steps p.tables e below (T1.setTop (mkF m 6 #[own_jv (5 : Int64), .second, rv b1_1_0, .unset, .unset, .unset] [(.int (6 : Int32))])) _
    refine XS.istoreN X1.here hx rfl (hb hby d1_6) rfl (l' := #[own_jv (5 : Int64), .second, rv b1_1_0, iv (6 : Int32), .unset, .unset]) rfl ?_
    show Steps p.tables e below (T1.setTop (mkF m 7 #[own_jv (5 : Int64), .second, rv b1_1_0, iv (6 : Int32), .unset, .unset] [])) _
    refine XS.iconst X1.here hx rfl (hb hby d1_7) ?_
    show Steps p.tables e below (T1.setTop (mkF m 8 #[own_jv (5 : Int64), .second, rv b1_1_0, iv (6 : Int32), .unset, .unset] [(.int (0 : Int32))])) _
    refine XS.istore X1.here hx rfl (hb hby d1_8) rfl (l' := #[own_jv (5 : Int64), .second, rv b1_1_0, iv (6 : Int32), iv (0 : Int32), .unset]) rfl ?_
    show Steps p.tables e below (T1.setTop (mkF m 10 #[own_jv (5 : Int64), .second, rv b1_1_0, iv (6 : Int32), iv (0 : Int32), .unset] [])) _
    refine XS.iload X1.here hx rfl (hb hby d1_10) rfl ?_
    show Steps p.tables e below (T1.setTop (mkF m 12 #[own_jv (5 : Int64), .second, rv b1_1_0, iv (6 : Int32), iv (0 : Int32), .unset] [(.int (0 : Int32))])) _
    refine XS.iloadN X1.here hx rfl (hb hby d1_12) rfl ?_
    show Steps p.tables e below (T1.setTop (mkF m 13 #[own_jv (5 : Int64), .second, rv b1_1_0, iv (6 : Int32), iv (0 : Int32), .unset] [(.int (6 : Int32)), (.int (0 : Int32))])) _
    refine XS.icmpNo X1.here hx rfl (hb hby d1_13) rfl (tlt (by decide +kernel : (0 : Int32) < (6 : Int32))).2.1 ?_
    show Steps p.tables e below (T1.setTop (mkF m 16 #[own_jv (5 : Int64), .second, rv b1_1_0, iv (6 : Int32), iv (0 : Int32), .unset] [])) _
    refine XS.aloadN X1.here hx rfl (hb hby d1_16) rfl rfl ?_
    show Steps p.tables e below (T1.setTop (mkF m 17 #[own_jv (5 : Int64), .second, rv b1_1_0, iv (6 : Int32), iv (0 : Int32), .unset] [(.ref b1_1_0)])) _
    refine XS.iload X1.here hx rfl (hb hby d1_17) rfl ?_
    show Steps p.tables e below (T1.setTop (mkF m 19 #[own_jv (5 : Int64), .second, rv b1_1_0, iv (6 : Int32), iv (0 : Int32), .unset] [(.int (0 : Int32)), (.ref b1_1_0)])) _
    refine X1.aaload hx (j := (0 : Int32)) (v := (.ref w_MessageType_SUBMISSION)) Ar3.1 (State.isArrayOf_alike hZ.alike Ar3.2.1) rfl Ar3.2.2 hin3 (Hs3.at hin3 rfl) (g := (mkF m 19 #[own_jv (5 : Int64), .second, rv b1_1_0, iv (6 : Int32), iv (0 : Int32), .unset] [(.int (0 : Int32)), (.ref b1_1_0)])) rfl rfl (hb hby d1_19) _ ?_
    show Steps p.tables e below (T1.setTop (mkF m 20 #[own_jv (5 : Int64), .second, rv b1_1_0, iv (6 : Int32), iv (0 : Int32), .unset] [(.ref w_MessageType_SUBMISSION)])) _
    refine XS.astore X1.here hx rfl (hb hby d1_20) rfl rfl (l' := #[own_jv (5 : Int64), .second, rv b1_1_0, iv (6 : Int32), iv (0 : Int32), rv w_MessageType_SUBMISSION]) rfl ?_
    show Steps p.tables e below (T1.setTop (mkF m 22 #[own_jv (5 : Int64), .second, rv b1_1_0, iv (6 : Int32), iv (0 : Int32), rv w_MessageType_SUBMISSION] [])) _
    refine XS.aload X1.here hx rfl (hb hby d1_22) rfl rfl ?_
    show Steps p.tables e below (T1.setTop (mkF m 24 #[own_jv (5 : Int64), .second, rv b1_1_0, iv (6 : Int32), iv (0 : Int32), rv w_MessageType_SUBMISSION] [(.ref w_MessageType_SUBMISSION)])) _
    refine st5 _ ?_
    show Steps p.tables e below (T5.setTop (mkF m 27 #[own_jv (5 : Int64), .second, rv b1_1_0, iv (6 : Int32), iv (0 : Int32), rv w_MessageType_SUBMISSION] [(.int (1 : Int32))])) _
    refine XS.i2l X5.here hx rfl (hb hby d1_27) rfl ?_
    show Steps p.tables e below (T5.setTop (mkF m 28 #[own_jv (5 : Int64), .second, rv b1_1_0, iv (6 : Int32), iv (0 : Int32), rv w_MessageType_SUBMISSION] [(.long ((1 : Int32).toInt64))])) _
    rewrite [show ((1 : Int32).toInt64) = (1 : Int64) from by decide +kernel]
    show Steps p.tables e below (T5.setTop (mkF m 28 #[own_jv (5 : Int64), .second, rv b1_1_0, iv (6 : Int32), iv (0 : Int32), rv w_MessageType_SUBMISSION] [(.long (1 : Int64))])) _
    refine XS.lloadN X5.here hx rfl (hb hby d1_28) rfl ?_
    show Steps p.tables e below (T5.setTop (mkF m 29 #[own_jv (5 : Int64), .second, rv b1_1_0, iv (6 : Int32), iv (0 : Int32), rv w_MessageType_SUBMISSION] [(.long (5 : Int64)), (.long (1 : Int64))])) _
    refine XS.lcmp X5.here hx rfl (hb hby d1_29) rfl ?_
    show Steps p.tables e below (T5.setTop (mkF m 30 #[own_jv (5 : Int64), .second, rv b1_1_0, iv (6 : Int32), iv (0 : Int32), rv w_MessageType_SUBMISSION] [(.int (lcmpW (1 : Int64) (5 : Int64)))])) _
    rewrite [show (lcmpW (1 : Int64) (5 : Int64)) = (-1 : Int32) from by decide +kernel]
    show Steps p.tables e below (T5.setTop (mkF m 30 #[own_jv (5 : Int64), .second, rv b1_1_0, iv (6 : Int32), iv (0 : Int32), rv w_MessageType_SUBMISSION] [(.int (-1 : Int32))])) _
    refine XS.ifYes X5.here hx rfl (pc0 := 30) (pc' := 36) rfl (hb hby d1_30) rfl ((if0 _ _).trans (feq (by decide +kernel : ¬ ((-1 : Int32) = (0 : Int32)))).2) (by decide) (by decide) ?_
    show Steps p.tables e below (T5.setTop (mkF m 36 #[own_jv (5 : Int64), .second, rv b1_1_0, iv (6 : Int32), iv (0 : Int32), rv w_MessageType_SUBMISSION] [])) _
    refine XS.iinc X5.here hx rfl (hb hby d1_36) rfl (l' := #[own_jv (5 : Int64), .second, rv b1_1_0, iv (6 : Int32), iv ((0 : Int32) + (1 : Int32)), rv w_MessageType_SUBMISSION]) rfl ?_
    show Steps p.tables e below (T5.setTop (mkF m 39 #[own_jv (5 : Int64), .second, rv b1_1_0, iv (6 : Int32), iv ((0 : Int32) + (1 : Int32)), rv w_MessageType_SUBMISSION] [])) _
    rewrite [show ((0 : Int32) + (1 : Int32)) = (1 : Int32) from by decide +kernel]
    show Steps p.tables e below (T5.setTop (mkF m 39 #[own_jv (5 : Int64), .second, rv b1_1_0, iv (6 : Int32), iv (1 : Int32), rv w_MessageType_SUBMISSION] [])) _
    refine XS.goto X5.here hx rfl (pc0 := 39) (pc' := 10) rfl (hb hby d1_39) (by decide) (by decide) ?_
    show Steps p.tables e below (T5.setTop (mkF m 10 #[own_jv (5 : Int64), .second, rv b1_1_0, iv (6 : Int32), iv (1 : Int32), rv w_MessageType_SUBMISSION] [])) _
    refine XS.iload X5.here hx rfl (hb hby d1_10) rfl ?_
    show Steps p.tables e below (T5.setTop (mkF m 12 #[own_jv (5 : Int64), .second, rv b1_1_0, iv (6 : Int32), iv (1 : Int32), rv w_MessageType_SUBMISSION] [(.int (1 : Int32))])) _
    refine XS.iloadN X5.here hx rfl (hb hby d1_12) rfl ?_
    show Steps p.tables e below (T5.setTop (mkF m 13 #[own_jv (5 : Int64), .second, rv b1_1_0, iv (6 : Int32), iv (1 : Int32), rv w_MessageType_SUBMISSION] [(.int (6 : Int32)), (.int (1 : Int32))])) _
    refine XS.icmpNo X5.here hx rfl (hb hby d1_13) rfl (tlt (by decide +kernel : (1 : Int32) < (6 : Int32))).2.1 ?_
    show Steps p.tables e below (T5.setTop (mkF m 16 #[own_jv (5 : Int64), .second, rv b1_1_0, iv (6 : Int32), iv (1 : Int32), rv w_MessageType_SUBMISSION] [])) _
    refine XS.aloadN X5.here hx rfl (hb hby d1_16) rfl rfl ?_
    show Steps p.tables e below (T5.setTop (mkF m 17 #[own_jv (5 : Int64), .second, rv b1_1_0, iv (6 : Int32), iv (1 : Int32), rv w_MessageType_SUBMISSION] [(.ref b1_1_0)])) _
    refine XS.iload X5.here hx rfl (hb hby d1_17) rfl ?_
    show Steps p.tables e below (T5.setTop (mkF m 19 #[own_jv (5 : Int64), .second, rv b1_1_0, iv (6 : Int32), iv (1 : Int32), rv w_MessageType_SUBMISSION] [(.int (1 : Int32)), (.ref b1_1_0)])) _
    refine X5.aaload hx (j := (1 : Int32)) (v := (.ref w_MessageType_PARTIAL_CANCEL)) (by rw [e5]; exact Ar6.1) (State.isArrayOf_alike hZ.alike Ar6.2.1) rfl Ar6.2.2 hin6 (Hs6.at hin6 rfl) (g := (mkF m 19 #[own_jv (5 : Int64), .second, rv b1_1_0, iv (6 : Int32), iv (1 : Int32), rv w_MessageType_SUBMISSION] [(.int (1 : Int32)), (.ref b1_1_0)])) rfl rfl (hb hby d1_19) _ ?_
    show Steps p.tables e below (T5.setTop (mkF m 20 #[own_jv (5 : Int64), .second, rv b1_1_0, iv (6 : Int32), iv (1 : Int32), rv w_MessageType_SUBMISSION] [(.ref w_MessageType_PARTIAL_CANCEL)])) _
    refine XS.astore X5.here hx rfl (hb hby d1_20) rfl rfl (l' := #[own_jv (5 : Int64), .second, rv b1_1_0, iv (6 : Int32), iv (1 : Int32), rv w_MessageType_PARTIAL_CANCEL]) rfl ?_
    show Steps p.tables e below (T5.setTop (mkF m 22 #[own_jv (5 : Int64), .second, rv b1_1_0, iv (6 : Int32), iv (1 : Int32), rv w_MessageType_PARTIAL_CANCEL] [])) _
    refine XS.aload X5.here hx rfl (hb hby d1_22) rfl rfl ?_
    show Steps p.tables e below (T5.setTop (mkF m 24 #[own_jv (5 : Int64), .second, rv b1_1_0, iv (6 : Int32), iv (1 : Int32), rv w_MessageType_PARTIAL_CANCEL] [(.ref w_MessageType_PARTIAL_CANCEL)])) _
    refine st8 _ ?_
    show Steps p.tables e below (T8.setTop (mkF m 27 #[own_jv (5 : Int64), .second, rv b1_1_0, iv (6 : Int32), iv (1 : Int32), rv w_MessageType_PARTIAL_CANCEL] [(.int (2 : Int32))])) _
    refine XS.i2l X8.here hx rfl (hb hby d1_27) rfl ?_
    show Steps p.tables e below (T8.setTop (mkF m 28 #[own_jv (5 : Int64), .second, rv b1_1_0, iv (6 : Int32), iv (1 : Int32), rv w_MessageType_PARTIAL_CANCEL] [(.long ((2 : Int32).toInt64))])) _
    rewrite [show ((2 : Int32).toInt64) = (2 : Int64) from by decide +kernel]
    show Steps p.tables e below (T8.setTop (mkF m 28 #[own_jv (5 : Int64), .second, rv b1_1_0, iv (6 : Int32), iv (1 : Int32), rv w_MessageType_PARTIAL_CANCEL] [(.long (2 : Int64))])) _
    refine XS.lloadN X8.here hx rfl (hb hby d1_28) rfl ?_
    show Steps p.tables e below (T8.setTop (mkF m 29 #[own_jv (5 : Int64), .second, rv b1_1_0, iv (6 : Int32), iv (1 : Int32), rv w_MessageType_PARTIAL_CANCEL] [(.long (5 : Int64)), (.long (2 : Int64))])) _
    refine XS.lcmp X8.here hx rfl (hb hby d1_29) rfl ?_
    show Steps p.tables e below (T8.setTop (mkF m 30 #[own_jv (5 : Int64), .second, rv b1_1_0, iv (6 : Int32), iv (1 : Int32), rv w_MessageType_PARTIAL_CANCEL] [(.int (lcmpW (2 : Int64) (5 : Int64)))])) _
    rewrite [show (lcmpW (2 : Int64) (5 : Int64)) = (-1 : Int32) from by decide +kernel]
    show Steps p.tables e below (T8.setTop (mkF m 30 #[own_jv (5 : Int64), .second, rv b1_1_0, iv (6 : Int32), iv (1 : Int32), rv w_MessageType_PARTIAL_CANCEL] [(.int (-1 : Int32))])) _
    refine XS.ifYes X8.here hx rfl (pc0 := 30) (pc' := 36) rfl (hb hby d1_30) rfl ((if0 _ _).trans (feq (by decide +kernel : ¬ ((-1 : Int32) = (0 : Int32)))).2) (by decide) (by decide) ?_
    show Steps p.tables e below (T8.setTop (mkF m 36 #[own_jv (5 : Int64), .second, rv b1_1_0, iv (6 : Int32), iv (1 : Int32), rv w_MessageType_PARTIAL_CANCEL] [])) _
    refine XS.iinc X8.here hx rfl (hb hby d1_36) rfl (l' := #[own_jv (5 : Int64), .second, rv b1_1_0, iv (6 : Int32), iv ((1 : Int32) + (1 : Int32)), rv w_MessageType_PARTIAL_CANCEL]) rfl ?_
    show Steps p.tables e below (T8.setTop (mkF m 39 #[own_jv (5 : Int64), .second, rv b1_1_0, iv (6 : Int32), iv ((1 : Int32) + (1 : Int32)), rv w_MessageType_PARTIAL_CANCEL] [])) _
    rewrite [show ((1 : Int32) + (1 : Int32)) = (2 : Int32) from by decide +kernel]
    show Steps p.tables e below (T8.setTop (mkF m 39 #[own_jv (5 : Int64), .second, rv b1_1_0, iv (6 : Int32), iv (2 : Int32), rv w_MessageType_PARTIAL_CANCEL] [])) _
    refine XS.goto X8.here hx rfl (pc0 := 39) (pc' := 10) rfl (hb hby d1_39) (by decide) (by decide) ?_
    show Steps p.tables e below (T8.setTop (mkF m 10 #[own_jv (5 : Int64), .second, rv b1_1_0, iv (6 : Int32), iv (2 : Int32), rv w_MessageType_PARTIAL_CANCEL] [])) _
    refine XS.iload X8.here hx rfl (hb hby d1_10) rfl ?_
    show Steps p.tables e below (T8.setTop (mkF m 12 #[own_jv (5 : Int64), .second, rv b1_1_0, iv (6 : Int32), iv (2 : Int32), rv w_MessageType_PARTIAL_CANCEL] [(.int (2 : Int32))])) _
    refine XS.iloadN X8.here hx rfl (hb hby d1_12) rfl ?_
    show Steps p.tables e below (T8.setTop (mkF m 13 #[own_jv (5 : Int64), .second, rv b1_1_0, iv (6 : Int32), iv (2 : Int32), rv w_MessageType_PARTIAL_CANCEL] [(.int (6 : Int32)), (.int (2 : Int32))])) _
    refine XS.icmpNo X8.here hx rfl (hb hby d1_13) rfl (tlt (by decide +kernel : (2 : Int32) < (6 : Int32))).2.1 ?_
    show Steps p.tables e below (T8.setTop (mkF m 16 #[own_jv (5 : Int64), .second, rv b1_1_0, iv (6 : Int32), iv (2 : Int32), rv w_MessageType_PARTIAL_CANCEL] [])) _
    refine XS.aloadN X8.here hx rfl (hb hby d1_16) rfl rfl ?_
    show Steps p.tables e below (T8.setTop (mkF m 17 #[own_jv (5 : Int64), .second, rv b1_1_0, iv (6 : Int32), iv (2 : Int32), rv w_MessageType_PARTIAL_CANCEL] [(.ref b1_1_0)])) _
    refine XS.iload X8.here hx rfl (hb hby d1_17) rfl ?_
    show Steps p.tables e below (T8.setTop (mkF m 19 #[own_jv (5 : Int64), .second, rv b1_1_0, iv (6 : Int32), iv (2 : Int32), rv w_MessageType_PARTIAL_CANCEL] [(.int (2 : Int32)), (.ref b1_1_0)])) _
    refine X8.aaload hx (j := (2 : Int32)) (v := (.ref w_MessageType_DELETION)) (by rw [e8]; exact Ar9.1) (State.isArrayOf_alike hZ.alike Ar9.2.1) rfl Ar9.2.2 hin9 (Hs9.at hin9 rfl) (g := (mkF m 19 #[own_jv (5 : Int64), .second, rv b1_1_0, iv (6 : Int32), iv (2 : Int32), rv w_MessageType_PARTIAL_CANCEL] [(.int (2 : Int32)), (.ref b1_1_0)])) rfl rfl (hb hby d1_19) _ ?_
    show Steps p.tables e below (T8.setTop (mkF m 20 #[own_jv (5 : Int64), .second, rv b1_1_0, iv (6 : Int32), iv (2 : Int32), rv w_MessageType_PARTIAL_CANCEL] [(.ref w_MessageType_DELETION)])) _
    refine XS.astore X8.here hx rfl (hb hby d1_20) rfl rfl (l' := #[own_jv (5 : Int64), .second, rv b1_1_0, iv (6 : Int32), iv (2 : Int32), rv w_MessageType_DELETION]) rfl ?_
    show Steps p.tables e below (T8.setTop (mkF m 22 #[own_jv (5 : Int64), .second, rv b1_1_0, iv (6 : Int32), iv (2 : Int32), rv w_MessageType_DELETION] [])) _
    refine XS.aload X8.here hx rfl (hb hby d1_22) rfl rfl ?_
    show Steps p.tables e below (T8.setTop (mkF m 24 #[own_jv (5 : Int64), .second, rv b1_1_0, iv (6 : Int32), iv (2 : Int32), rv w_MessageType_DELETION] [(.ref w_MessageType_DELETION)])) _
    refine st11 _ ?_
    show Steps p.tables e below (T11.setTop (mkF m 27 #[own_jv (5 : Int64), .second, rv b1_1_0, iv (6 : Int32), iv (2 : Int32), rv w_MessageType_DELETION] [(.int (3 : Int32))])) _
    refine XS.i2l X11.here hx rfl (hb hby d1_27) rfl ?_
    show Steps p.tables e below (T11.setTop (mkF m 28 #[own_jv (5 : Int64), .second, rv b1_1_0, iv (6 : Int32), iv (2 : Int32), rv w_MessageType_DELETION] [(.long ((3 : Int32).toInt64))])) _
    rewrite [show ((3 : Int32).toInt64) = (3 : Int64) from by decide +kernel]
    show Steps p.tables e below (T11.setTop (mkF m 28 #[own_jv (5 : Int64), .second, rv b1_1_0, iv (6 : Int32), iv (2 : Int32), rv w_MessageType_DELETION] [(.long (3 : Int64))])) _
    refine XS.lloadN X11.here hx rfl (hb hby d1_28) rfl ?_
    show Steps p.tables e below (T11.setTop (mkF m 29 #[own_jv (5 : Int64), .second, rv b1_1_0, iv (6 : Int32), iv (2 : Int32), rv w_MessageType_DELETION] [(.long (5 : Int64)), (.long (3 : Int64))])) _
    refine XS.lcmp X11.here hx rfl (hb hby d1_29) rfl ?_
    show Steps p.tables e below (T11.setTop (mkF m 30 #[own_jv (5 : Int64), .second, rv b1_1_0, iv (6 : Int32), iv (2 : Int32), rv w_MessageType_DELETION] [(.int (lcmpW (3 : Int64) (5 : Int64)))])) _
    rewrite [show (lcmpW (3 : Int64) (5 : Int64)) = (-1 : Int32) from by decide +kernel]
    show Steps p.tables e below (T11.setTop (mkF m 30 #[own_jv (5 : Int64), .second, rv b1_1_0, iv (6 : Int32), iv (2 : Int32), rv w_MessageType_DELETION] [(.int (-1 : Int32))])) _
    refine XS.ifYes X11.here hx rfl (pc0 := 30) (pc' := 36) rfl (hb hby d1_30) rfl ((if0 _ _).trans (feq (by decide +kernel : ¬ ((-1 : Int32) = (0 : Int32)))).2) (by decide) (by decide) ?_
    show Steps p.tables e below (T11.setTop (mkF m 36 #[own_jv (5 : Int64), .second, rv b1_1_0, iv (6 : Int32), iv (2 : Int32), rv w_MessageType_DELETION] [])) _
    refine XS.iinc X11.here hx rfl (hb hby d1_36) rfl (l' := #[own_jv (5 : Int64), .second, rv b1_1_0, iv (6 : Int32), iv ((2 : Int32) + (1 : Int32)), rv w_MessageType_DELETION]) rfl ?_
    show Steps p.tables e below (T11.setTop (mkF m 39 #[own_jv (5 : Int64), .second, rv b1_1_0, iv (6 : Int32), iv ((2 : Int32) + (1 : Int32)), rv w_MessageType_DELETION] [])) _
    rewrite [show ((2 : Int32) + (1 : Int32)) = (3 : Int32) from by decide +kernel]
    show Steps p.tables e below (T11.setTop (mkF m 39 #[own_jv (5 : Int64), .second, rv b1_1_0, iv (6 : Int32), iv (3 : Int32), rv w_MessageType_DELETION] [])) _
    refine XS.goto X11.here hx rfl (pc0 := 39) (pc' := 10) rfl (hb hby d1_39) (by decide) (by decide) ?_
    show Steps p.tables e below (T11.setTop (mkF m 10 #[own_jv (5 : Int64), .second, rv b1_1_0, iv (6 : Int32), iv (3 : Int32), rv w_MessageType_DELETION] [])) _
    refine XS.iload X11.here hx rfl (hb hby d1_10) rfl ?_
    show Steps p.tables e below (T11.setTop (mkF m 12 #[own_jv (5 : Int64), .second, rv b1_1_0, iv (6 : Int32), iv (3 : Int32), rv w_MessageType_DELETION] [(.int (3 : Int32))])) _
    refine XS.iloadN X11.here hx rfl (hb hby d1_12) rfl ?_
    show Steps p.tables e below (T11.setTop (mkF m 13 #[own_jv (5 : Int64), .second, rv b1_1_0, iv (6 : Int32), iv (3 : Int32), rv w_MessageType_DELETION] [(.int (6 : Int32)), (.int (3 : Int32))])) _
    refine XS.icmpNo X11.here hx rfl (hb hby d1_13) rfl (tlt (by decide +kernel : (3 : Int32) < (6 : Int32))).2.1 ?_
    show Steps p.tables e below (T11.setTop (mkF m 16 #[own_jv (5 : Int64), .second, rv b1_1_0, iv (6 : Int32), iv (3 : Int32), rv w_MessageType_DELETION] [])) _
    refine XS.aloadN X11.here hx rfl (hb hby d1_16) rfl rfl ?_
    show Steps p.tables e below (T11.setTop (mkF m 17 #[own_jv (5 : Int64), .second, rv b1_1_0, iv (6 : Int32), iv (3 : Int32), rv w_MessageType_DELETION] [(.ref b1_1_0)])) _
    refine XS.iload X11.here hx rfl (hb hby d1_17) rfl ?_
    show Steps p.tables e below (T11.setTop (mkF m 19 #[own_jv (5 : Int64), .second, rv b1_1_0, iv (6 : Int32), iv (3 : Int32), rv w_MessageType_DELETION] [(.int (3 : Int32)), (.ref b1_1_0)])) _
    refine X11.aaload hx (j := (3 : Int32)) (v := (.ref w_MessageType_VISIBLE_EXECUTION)) (by rw [e11]; exact Ar12.1) (State.isArrayOf_alike hZ.alike Ar12.2.1) rfl Ar12.2.2 hin12 (Hs12.at hin12 rfl) (g := (mkF m 19 #[own_jv (5 : Int64), .second, rv b1_1_0, iv (6 : Int32), iv (3 : Int32), rv w_MessageType_DELETION] [(.int (3 : Int32)), (.ref b1_1_0)])) rfl rfl (hb hby d1_19) _ ?_
    show Steps p.tables e below (T11.setTop (mkF m 20 #[own_jv (5 : Int64), .second, rv b1_1_0, iv (6 : Int32), iv (3 : Int32), rv w_MessageType_DELETION] [(.ref w_MessageType_VISIBLE_EXECUTION)])) _
    refine XS.astore X11.here hx rfl (hb hby d1_20) rfl rfl (l' := #[own_jv (5 : Int64), .second, rv b1_1_0, iv (6 : Int32), iv (3 : Int32), rv w_MessageType_VISIBLE_EXECUTION]) rfl ?_
    show Steps p.tables e below (T11.setTop (mkF m 22 #[own_jv (5 : Int64), .second, rv b1_1_0, iv (6 : Int32), iv (3 : Int32), rv w_MessageType_VISIBLE_EXECUTION] [])) _
    refine XS.aload X11.here hx rfl (hb hby d1_22) rfl rfl ?_
    show Steps p.tables e below (T11.setTop (mkF m 24 #[own_jv (5 : Int64), .second, rv b1_1_0, iv (6 : Int32), iv (3 : Int32), rv w_MessageType_VISIBLE_EXECUTION] [(.ref w_MessageType_VISIBLE_EXECUTION)])) _
    refine st14 _ ?_
    show Steps p.tables e below (T14.setTop (mkF m 27 #[own_jv (5 : Int64), .second, rv b1_1_0, iv (6 : Int32), iv (3 : Int32), rv w_MessageType_VISIBLE_EXECUTION] [(.int (4 : Int32))])) _
    refine XS.i2l X14.here hx rfl (hb hby d1_27) rfl ?_
    show Steps p.tables e below (T14.setTop (mkF m 28 #[own_jv (5 : Int64), .second, rv b1_1_0, iv (6 : Int32), iv (3 : Int32), rv w_MessageType_VISIBLE_EXECUTION] [(.long ((4 : Int32).toInt64))])) _
    rewrite [show ((4 : Int32).toInt64) = (4 : Int64) from by decide +kernel]
    show Steps p.tables e below (T14.setTop (mkF m 28 #[own_jv (5 : Int64), .second, rv b1_1_0, iv (6 : Int32), iv (3 : Int32), rv w_MessageType_VISIBLE_EXECUTION] [(.long (4 : Int64))])) _
    refine XS.lloadN X14.here hx rfl (hb hby d1_28) rfl ?_
    show Steps p.tables e below (T14.setTop (mkF m 29 #[own_jv (5 : Int64), .second, rv b1_1_0, iv (6 : Int32), iv (3 : Int32), rv w_MessageType_VISIBLE_EXECUTION] [(.long (5 : Int64)), (.long (4 : Int64))])) _
    refine XS.lcmp X14.here hx rfl (hb hby d1_29) rfl ?_
    show Steps p.tables e below (T14.setTop (mkF m 30 #[own_jv (5 : Int64), .second, rv b1_1_0, iv (6 : Int32), iv (3 : Int32), rv w_MessageType_VISIBLE_EXECUTION] [(.int (lcmpW (4 : Int64) (5 : Int64)))])) _
    rewrite [show (lcmpW (4 : Int64) (5 : Int64)) = (-1 : Int32) from by decide +kernel]
    show Steps p.tables e below (T14.setTop (mkF m 30 #[own_jv (5 : Int64), .second, rv b1_1_0, iv (6 : Int32), iv (3 : Int32), rv w_MessageType_VISIBLE_EXECUTION] [(.int (-1 : Int32))])) _
    refine XS.ifYes X14.here hx rfl (pc0 := 30) (pc' := 36) rfl (hb hby d1_30) rfl ((if0 _ _).trans (feq (by decide +kernel : ¬ ((-1 : Int32) = (0 : Int32)))).2) (by decide) (by decide) ?_
    show Steps p.tables e below (T14.setTop (mkF m 36 #[own_jv (5 : Int64), .second, rv b1_1_0, iv (6 : Int32), iv (3 : Int32), rv w_MessageType_VISIBLE_EXECUTION] [])) _
    refine XS.iinc X14.here hx rfl (hb hby d1_36) rfl (l' := #[own_jv (5 : Int64), .second, rv b1_1_0, iv (6 : Int32), iv ((3 : Int32) + (1 : Int32)), rv w_MessageType_VISIBLE_EXECUTION]) rfl ?_
    show Steps p.tables e below (T14.setTop (mkF m 39 #[own_jv (5 : Int64), .second, rv b1_1_0, iv (6 : Int32), iv ((3 : Int32) + (1 : Int32)), rv w_MessageType_VISIBLE_EXECUTION] [])) _
    rewrite [show ((3 : Int32) + (1 : Int32)) = (4 : Int32) from by decide +kernel]
    show Steps p.tables e below (T14.setTop (mkF m 39 #[own_jv (5 : Int64), .second, rv b1_1_0, iv (6 : Int32), iv (4 : Int32), rv w_MessageType_VISIBLE_EXECUTION] [])) _
    refine XS.goto X14.here hx rfl (pc0 := 39) (pc' := 10) rfl (hb hby d1_39) (by decide) (by decide) ?_
    show Steps p.tables e below (T14.setTop (mkF m 10 #[own_jv (5 : Int64), .second, rv b1_1_0, iv (6 : Int32), iv (4 : Int32), rv w_MessageType_VISIBLE_EXECUTION] [])) _
    refine XS.iload X14.here hx rfl (hb hby d1_10) rfl ?_
    show Steps p.tables e below (T14.setTop (mkF m 12 #[own_jv (5 : Int64), .second, rv b1_1_0, iv (6 : Int32), iv (4 : Int32), rv w_MessageType_VISIBLE_EXECUTION] [(.int (4 : Int32))])) _
    refine XS.iloadN X14.here hx rfl (hb hby d1_12) rfl ?_
    show Steps p.tables e below (T14.setTop (mkF m 13 #[own_jv (5 : Int64), .second, rv b1_1_0, iv (6 : Int32), iv (4 : Int32), rv w_MessageType_VISIBLE_EXECUTION] [(.int (6 : Int32)), (.int (4 : Int32))])) _
    refine XS.icmpNo X14.here hx rfl (hb hby d1_13) rfl (tlt (by decide +kernel : (4 : Int32) < (6 : Int32))).2.1 ?_
    show Steps p.tables e below (T14.setTop (mkF m 16 #[own_jv (5 : Int64), .second, rv b1_1_0, iv (6 : Int32), iv (4 : Int32), rv w_MessageType_VISIBLE_EXECUTION] [])) _
    refine XS.aloadN X14.here hx rfl (hb hby d1_16) rfl rfl ?_
    show Steps p.tables e below (T14.setTop (mkF m 17 #[own_jv (5 : Int64), .second, rv b1_1_0, iv (6 : Int32), iv (4 : Int32), rv w_MessageType_VISIBLE_EXECUTION] [(.ref b1_1_0)])) _
    refine XS.iload X14.here hx rfl (hb hby d1_17) rfl ?_
    show Steps p.tables e below (T14.setTop (mkF m 19 #[own_jv (5 : Int64), .second, rv b1_1_0, iv (6 : Int32), iv (4 : Int32), rv w_MessageType_VISIBLE_EXECUTION] [(.int (4 : Int32)), (.ref b1_1_0)])) _
    refine X14.aaload hx (j := (4 : Int32)) (v := (.ref w_MessageType_HIDDEN_EXECUTION)) (by rw [e14]; exact Ar15.1) (State.isArrayOf_alike hZ.alike Ar15.2.1) rfl Ar15.2.2 hin15 (Hs15.at hin15 rfl) (g := (mkF m 19 #[own_jv (5 : Int64), .second, rv b1_1_0, iv (6 : Int32), iv (4 : Int32), rv w_MessageType_VISIBLE_EXECUTION] [(.int (4 : Int32)), (.ref b1_1_0)])) rfl rfl (hb hby d1_19) _ ?_
    show Steps p.tables e below (T14.setTop (mkF m 20 #[own_jv (5 : Int64), .second, rv b1_1_0, iv (6 : Int32), iv (4 : Int32), rv w_MessageType_VISIBLE_EXECUTION] [(.ref w_MessageType_HIDDEN_EXECUTION)])) _
    refine XS.astore X14.here hx rfl (hb hby d1_20) rfl rfl (l' := #[own_jv (5 : Int64), .second, rv b1_1_0, iv (6 : Int32), iv (4 : Int32), rv w_MessageType_HIDDEN_EXECUTION]) rfl ?_
    show Steps p.tables e below (T14.setTop (mkF m 22 #[own_jv (5 : Int64), .second, rv b1_1_0, iv (6 : Int32), iv (4 : Int32), rv w_MessageType_HIDDEN_EXECUTION] [])) _
    refine XS.aload X14.here hx rfl (hb hby d1_22) rfl rfl ?_
    show Steps p.tables e below (T14.setTop (mkF m 24 #[own_jv (5 : Int64), .second, rv b1_1_0, iv (6 : Int32), iv (4 : Int32), rv w_MessageType_HIDDEN_EXECUTION] [(.ref w_MessageType_HIDDEN_EXECUTION)])) _
    refine st17 _ ?_
    show Steps p.tables e below (T17.setTop (mkF m 27 #[own_jv (5 : Int64), .second, rv b1_1_0, iv (6 : Int32), iv (4 : Int32), rv w_MessageType_HIDDEN_EXECUTION] [(.int (5 : Int32))])) _
    refine XS.i2l X17.here hx rfl (hb hby d1_27) rfl ?_
    show Steps p.tables e below (T17.setTop (mkF m 28 #[own_jv (5 : Int64), .second, rv b1_1_0, iv (6 : Int32), iv (4 : Int32), rv w_MessageType_HIDDEN_EXECUTION] [(.long ((5 : Int32).toInt64))])) _
    rewrite [show ((5 : Int32).toInt64) = (5 : Int64) from by decide +kernel]
    show Steps p.tables e below (T17.setTop (mkF m 28 #[own_jv (5 : Int64), .second, rv b1_1_0, iv (6 : Int32), iv (4 : Int32), rv w_MessageType_HIDDEN_EXECUTION] [(.long (5 : Int64))])) _
    refine XS.lloadN X17.here hx rfl (hb hby d1_28) rfl ?_
    show Steps p.tables e below (T17.setTop (mkF m 29 #[own_jv (5 : Int64), .second, rv b1_1_0, iv (6 : Int32), iv (4 : Int32), rv w_MessageType_HIDDEN_EXECUTION] [(.long (5 : Int64)), (.long (5 : Int64))])) _
    refine XS.lcmp X17.here hx rfl (hb hby d1_29) rfl ?_
    show Steps p.tables e below (T17.setTop (mkF m 30 #[own_jv (5 : Int64), .second, rv b1_1_0, iv (6 : Int32), iv (4 : Int32), rv w_MessageType_HIDDEN_EXECUTION] [(.int (lcmpW (5 : Int64) (5 : Int64)))])) _
    rewrite [show (lcmpW (5 : Int64) (5 : Int64)) = (0 : Int32) from by decide +kernel]
    show Steps p.tables e below (T17.setTop (mkF m 30 #[own_jv (5 : Int64), .second, rv b1_1_0, iv (6 : Int32), iv (4 : Int32), rv w_MessageType_HIDDEN_EXECUTION] [(.int (0 : Int32))])) _
    refine XS.ifNo X17.here hx rfl (hb hby d1_30) rfl ((if0 _ _).trans (teq (by decide +kernel : (0 : Int32) = (0 : Int32))).2) ?_
    show Steps p.tables e below (T17.setTop (mkF m 33 #[own_jv (5 : Int64), .second, rv b1_1_0, iv (6 : Int32), iv (4 : Int32), rv w_MessageType_HIDDEN_EXECUTION] [])) _
    refine XS.aload X17.here hx rfl (hb hby d1_33) rfl rfl ?_
    show Steps p.tables e below (T17.setTop (mkF m 35 #[own_jv (5 : Int64), .second, rv b1_1_0, iv (6 : Int32), iv (4 : Int32), rv w_MessageType_HIDDEN_EXECUTION] [(.ref w_MessageType_HIDDEN_EXECUTION)])) _
    exact own_retA X17 hx Bd.returns rfl rfl (hb hby d1_35) hr
  · exact (by show Q_rk_of_4 Z w_MessageType_HIDDEN_EXECUTION h0 n0 _ T17.heap _; rw [e17]; exact ⟨rfl, N1, KK1⟩)
def Q_rk_of_5 (Z : State) (w_MessageType_HALT : Addr) (h0 : Heap) (n0 : Nat) (v : Option Value) (h : Heap) (L : List Loc) : Prop := (v = (some (.ref w_MessageType_HALT))) ∧ (Fr n0 L) ∧ (Keep h0 h [])
set_option maxRecDepth 65536 in
set_option maxHeartbeats 40000000 in
theorem rk_of_5 (l : Launch) (Z : State) (a0 : Array Value) (hw : ∀ d ∈ tables_1, d.before a0 Z = true) (ws : List Jvm.Cond) (w_MessageType__VALUES : Addr) (w_MessageType_SUBMISSION : Addr) (w_MessageType_PARTIAL_CANCEL : Addr) (w_MessageType_DELETION : Addr) (w_MessageType_VISIBLE_EXECUTION : Addr) (w_MessageType_HIDDEN_EXECUTION : Addr) (w_MessageType_HALT : Addr) (k_w_MessageType__VALUES : ClassId) (h0 : Heap) (n0 : Nat) (Z0 : n0 ≤ h0.size) (S_MessageType__VALUES : Sta Z h0 "com/example/strikebook/strikebook/cli/MessageType" "$VALUES" "[Lcom/example/strikebook/strikebook/cli/MessageType;" (.ref w_MessageType__VALUES)) (V_w_MessageType__VALUES : Arv Z h0 w_MessageType__VALUES k_w_MessageType__VALUES (.object "com/example/strikebook/strikebook/cli/MessageType") (6 : Int32) [(.ref w_MessageType_SUBMISSION), (.ref w_MessageType_PARTIAL_CANCEL), (.ref w_MessageType_DELETION), (.ref w_MessageType_VISIBLE_EXECUTION), (.ref w_MessageType_HIDDEN_EXECUTION), (.ref w_MessageType_HALT)] .null) (E_w_MessageType__VALUES : Exa Z h0 w_MessageType__VALUES "[Lcom/example/strikebook/strikebook/cli/MessageType;") (F_w_MessageType_SUBMISSION_code : Fld Z h0 w_MessageType_SUBMISSION "com/example/strikebook/strikebook/cli/MessageType" "code" "I" (.int (1 : Int32))) (F_w_MessageType_PARTIAL_CANCEL_code : Fld Z h0 w_MessageType_PARTIAL_CANCEL "com/example/strikebook/strikebook/cli/MessageType" "code" "I" (.int (2 : Int32))) (F_w_MessageType_DELETION_code : Fld Z h0 w_MessageType_DELETION "com/example/strikebook/strikebook/cli/MessageType" "code" "I" (.int (3 : Int32))) (F_w_MessageType_VISIBLE_EXECUTION_code : Fld Z h0 w_MessageType_VISIBLE_EXECUTION "com/example/strikebook/strikebook/cli/MessageType" "code" "I" (.int (4 : Int32))) (F_w_MessageType_HIDDEN_EXECUTION_code : Fld Z h0 w_MessageType_HIDDEN_EXECUTION "com/example/strikebook/strikebook/cli/MessageType" "code" "I" (.int (5 : Int32))) (F_w_MessageType_HALT_code : Fld Z h0 w_MessageType_HALT "com/example/strikebook/strikebook/cli/MessageType" "code" "I" (.int (7 : Int32))) :
    MetFree l (⟨"com/example/strikebook/strikebook/cli/MessageType", "of", "(J)Lcom/example/strikebook/strikebook/cli/MessageType;"⟩ : MethodName) (head1 (Jvm.Cond.code (⟨"com/example/strikebook/strikebook/cli/MessageType", "of", "(J)Lcom/example/strikebook/strikebook/cli/MessageType;"⟩ : MethodName) prog_10_method_5_code 6 (some (.object "com/example/strikebook/strikebook/cli/MessageType")) :: ws) ({ frames := 2, cells := 1, slots := 6, locals := 25 } : Room)) (fun a U => a = #[(.long (7 : Int64))] ∧ Z.Warmed39 U.vm ∧ U.heap = h0) (fun _ _ _ _ _ => True) (fun _ U o U' => ∃ v L, o = .returned v ∧ Q_rk_of_5 Z w_MessageType_HALT h0 n0 v U'.heap L ∧ FrameEnd U o U' L ({ frames := 2, cells := 1, slots := 6, locals := 25 } : Room).cells ({ frames := 2, cells := 1, slots := 6, locals := 25 } : Room).slots) := by
  refine MetFree.of_bodySF (plainFor_of_name pn_0) hisR ?_
  intro p e s m args below meth c s₁ Bd hml0 hP hK
  obtain ⟨rfl, hZ, hh⟩ := hP
  have hx := Bd.exec
  have hby := Bd.bytes
  have hml : c.maxLocals = 6 := hml0
  have hown : s.vm.findClass "com/example/strikebook/strikebook/cli/MessageType" = some m.cls := findClass_of_methodNamed Bd.named
  have hnm := (name_of_methodNamed Bd.named Bd.method).1
  have X0 : Stand p l e ({ frames := 2, cells := 1, slots := 6, locals := 25 } : Room) s m #[(.long (7 : Int64))] below meth c s₁ [] 0 0 := Stand.of_body Bd
  have e0 : s₁.heap = h0 := by rw [← hh, Bd.state]; rfl
  have N0 := Fr.nil n0
  have pre0 : ∀ t, Steps p.tables e below (s₁.setTop (mkF m 0 #[own_jv (7 : Int64), .second, .unset, .unset, .unset, .unset] [])) t → Steps p.tables e below (s₁.setTop (entryFrame m #[(.long (7 : Int64))] 6)) t := fun t k => castTop (ef_1_J m (7 : Int64)) k
  obtain ⟨_, _, ⟨T1, L1, k1, n1⟩, -, X1, ⟨Lc1, hQ1, l1, y1, z1⟩, st1⟩ := Jvm.LawKit.callS X0 hx (y := (⟨"com/example/strikebook/strikebook/cli/MessageType", "values", "()[Lcom/example/strikebook/strikebook/cli/MessageType;"⟩ : MethodName)) hown (mvT hZ (hw _ (List.mem_of_getElem? (i := 5) rfl))) (mvT hZ (hw _ (List.mem_of_getElem? (i := 6) rfl))) (mvT hZ (hw _ (List.mem_of_getElem? (i := 3) rfl))) (mvT hZ (hw _ (List.mem_of_getElem? (i := 7) rfl))) (by decide) (backOf (W := 0) (rm2_0 l Z a0 hw [] w_MessageType__VALUES w_MessageType_SUBMISSION w_MessageType_PARTIAL_CANCEL w_MessageType_DELETION w_MessageType_VISIBLE_EXECUTION w_MessageType_HIDDEN_EXECUTION w_MessageType_HALT k_w_MessageType__VALUES h0 n0 Z0 S_MessageType__VALUES V_w_MessageType__VALUES E_w_MessageType__VALUES) hZ (hw _ (List.mem_of_getElem? (i := 7) rfl)) (hw _ (List.mem_of_getElem? (i := 3) rfl)) (by decide) (by decide)) (g := (mkF m 0 #[own_jv (7 : Int64), .second, .unset, .unset, .unset, .unset] [])) rfl (by rw [hml]; rfl) (argsL := []) (rest := []) (lenOf pd_0 rfl) rfl (by show 2 * 0 + _ ≤ _; exact Nat.le_of_eq rfl) (hb hby d1_0) (fun _ _ => ⟨rfl, e0, (by decide : 0 + 1 ≤ _), (by decide : 0 + 6 ≤ _)⟩)
  dsimp only [Pt.U, Pt.locs, Pt.cells, Pt.slots] at X1 l1 y1 z1 st1 hQ1
  subst l1 y1 z1
  obtain ⟨b1_1_0, rfl, N1q, K1, gq_b1_1_0, le_b1_1_0, fq1_0, fq1_1⟩ := hQ1
  have sz_b1_1_0 : h0.size ≤ b1_1_0 := Nat.le_trans (Keep.refl h0 []).1 le_b1_1_0
  have KK1 : Keep h0 T1.heap [] := (Keep.refl h0 []).trans K1 all0
  have Z1 : n0 ≤ T1.heap.size := Nat.le_trans Z0 K1.1
  have N1 := Fr.app N0 N1q
  obtain ⟨cl2, Ar2, -, Sz2, Nn2, -, -⟩ := id fq1_0
  obtain ⟨cl3, Ar3, -, Sz3, Nn3, Hs3, Gs3⟩ := id fq1_0
  have hin3 : ¬ ((0 : Int32) < 0 ∨ cl3.slots.size ≤ ((0 : Int32)).toNatClampNeg) := inb_of Sz3 ⟨by decide, by decide⟩
  have c4 := (F_w_MessageType_SUBMISSION_code.keep K1 nin0)
  obtain ⟨T5, X5, e5, st5⟩ := getF X1 hx hZ hown (host := "") (Or.inl (hw _ (List.mem_of_getElem? (i := 26) rfl))) Via.refl rfl c4 (g := (mkF m 24 #[own_jv (7 : Int64), .second, rv b1_1_0, iv (6 : Int32), iv (0 : Int32), rv w_MessageType_SUBMISSION] [(.ref w_MessageType_SUBMISSION)])) rfl rfl (hb hby d1_24)
  obtain ⟨cl6, Ar6, -, Sz6, Nn6, Hs6, Gs6⟩ := id fq1_0
  have hin6 : ¬ ((1 : Int32) < 0 ∨ cl6.slots.size ≤ ((1 : Int32)).toNatClampNeg) := inb_of Sz6 ⟨by decide, by decide⟩
  have c7 := (F_w_MessageType_PARTIAL_CANCEL_code.keep K1 nin0)
  obtain ⟨T8, X8, e8, st8⟩ := getF X5 hx hZ hown (host := "") (Or.inl (hw _ (List.mem_of_getElem? (i := 26) rfl))) Via.refl e5 c7 (g := (mkF m 24 #[own_jv (7 : Int64), .second, rv b1_1_0, iv (6 : Int32), iv (1 : Int32), rv w_MessageType_PARTIAL_CANCEL] [(.ref w_MessageType_PARTIAL_CANCEL)])) rfl rfl (hb hby d1_24)
  obtain ⟨cl9, Ar9, -, Sz9, Nn9, Hs9, Gs9⟩ := id fq1_0
  have hin9 : ¬ ((2 : Int32) < 0 ∨ cl9.slots.size ≤ ((2 : Int32)).toNatClampNeg) := inb_of Sz9 ⟨by decide, by decide⟩
  have c10 := (F_w_MessageType_DELETION_code.keep K1 nin0)
  obtain ⟨T11, X11, e11, st11⟩ := getF X8 hx hZ hown (host := "") (Or.inl (hw _ (List.mem_of_getElem? (i := 26) rfl))) Via.refl e8 c10 (g := (mkF m 24 #[own_jv (7 : Int64), .second, rv b1_1_0, iv (6 : Int32), iv (2 : Int32), rv w_MessageType_DELETION] [(.ref w_MessageType_DELETION)])) rfl rfl (hb hby d1_24)
  obtain ⟨cl12, Ar12, -, Sz12, Nn12, Hs12, Gs12⟩ := id fq1_0
  have hin12 : ¬ ((3 : Int32) < 0 ∨ cl12.slots.size ≤ ((3 : Int32)).toNatClampNeg) := inb_of Sz12 ⟨by decide, by decide⟩
  have c13 := (F_w_MessageType_VISIBLE_EXECUTION_code.keep K1 nin0)
  obtain ⟨T14, X14, e14, st14⟩ := getF X11 hx hZ hown (host := "") (Or.inl (hw _ (List.mem_of_getElem? (i := 26) rfl))) Via.refl e11 c13 (g := (mkF m 24 #[own_jv (7 : Int64), .second, rv b1_1_0, iv (6 : Int32), iv (3 : Int32), rv w_MessageType_VISIBLE_EXECUTION] [(.ref w_MessageType_VISIBLE_EXECUTION)])) rfl rfl (hb hby d1_24)
  obtain ⟨cl15, Ar15, -, Sz15, Nn15, Hs15, Gs15⟩ := id fq1_0
  have hin15 : ¬ ((4 : Int32) < 0 ∨ cl15.slots.size ≤ ((4 : Int32)).toNatClampNeg) := inb_of Sz15 ⟨by decide, by decide⟩
  have c16 := (F_w_MessageType_HIDDEN_EXECUTION_code.keep K1 nin0)
  obtain ⟨T17, X17, e17, st17⟩ := getF X14 hx hZ hown (host := "") (Or.inl (hw _ (List.mem_of_getElem? (i := 26) rfl))) Via.refl e14 c16 (g := (mkF m 24 #[own_jv (7 : Int64), .second, rv b1_1_0, iv (6 : Int32), iv (4 : Int32), rv w_MessageType_HIDDEN_EXECUTION] [(.ref w_MessageType_HIDDEN_EXECUTION)])) rfl rfl (hb hby d1_24)
  obtain ⟨cl18, Ar18, -, Sz18, Nn18, Hs18, Gs18⟩ := id fq1_0
  have hin18 : ¬ ((5 : Int32) < 0 ∨ cl18.slots.size ≤ ((5 : Int32)).toNatClampNeg) := inb_of Sz18 ⟨by decide, by decide⟩
  have c19 := (F_w_MessageType_HALT_code.keep K1 nin0)
  obtain ⟨T20, X20, e20, st20⟩ := getF X17 hx hZ hown (host := "") (Or.inl (hw _ (List.mem_of_getElem? (i := 26) rfl))) Via.refl e17 c19 (g := (mkF m 24 #[own_jv (7 : Int64), .second, rv b1_1_0, iv (6 : Int32), iv (5 : Int32), rv w_MessageType_HALT] [(.ref w_MessageType_HALT)])) rfl rfl (hb hby d1_24)
  obtain ⟨fs, hr, hrun, hended, hW, hsame⟩ := X20.leave (v := (some (.ref w_MessageType_HALT))) (fun h => by rw [Bd.returns] at h; cases h)
  refine ⟨_, _, pre0 _ ?_, hrun, hended, _, _, rfl, ?_, ⟨_, rfl⟩, hW, hsame.mono (by decide) (by decide)⟩
  · show Steps p.tables e below (s₁.setTop (mkF m 0 #[own_jv (7 : Int64), .second, .unset, .unset, .unset, .unset] [])) _
    refine st1 _ ?_
    show Steps p.tables e below (T1.setTop (mkF m 3 #[own_jv (7 : Int64), .second, .unset, .unset, .unset, .unset] [(.ref b1_1_0)])) _
    refine XS.astoreN X1.here hx rfl (hb hby d1_3) rfl rfl (l' := #[own_jv (7 : Int64), .second, rv b1_1_0, .unset, .unset, .unset]) rfl ?_
    show Steps p.tables e below (T1.setTop (mkF m 4 #[own_jv (7 : Int64), .second, rv b1_1_0, .unset, .unset, .unset] [])) _
    refine XS.aloadN X1.here hx rfl (hb hby d1_4) rfl rfl ?_
    show Steps p.tables e below (T1.setTop (mkF m 5 #[own_jv (7 : Int64), .second, rv b1_1_0, .unset, .unset, .unset] [(.ref b1_1_0)])) _
    refine X1.arraylength hx Ar2.1 (State.isArrayOf_alike hZ.alike Ar2.2.1) (g := (mkF m 5 #[own_jv (7 : Int64), .second, rv b1_1_0, .unset, .unset, .unset] [(.ref b1_1_0)])) rfl rfl (hb hby d1_5) _ ?_
    rw [len_of Sz2 Nn2]
    show Steps p.tables e below (T1.setTop (mkF m 6 #[own_jv (7 : Int64), .second, rv b1_1_0, .unset, .unset, .unset] [(.int (6 : Int32))])) _
    refine XS.istoreN X1.here hx rfl (hb hby d1_6) rfl (l' := #[own_jv (7 : Int64), .second, rv b1_1_0, iv (6 : Int32), .unset, .unset]) rfl ?_
    show Steps p.tables e below (T1.setTop (mkF m 7 #[own_jv (7 : Int64), .second, rv b1_1_0, iv (6 : Int32), .unset, .unset] [])) _
    refine XS.iconst X1.here hx rfl (hb hby d1_7) ?_
    show Steps p.tables e below (T1.setTop (mkF m 8 #[own_jv (7 : Int64), .second, rv b1_1_0, iv (6 : Int32), .unset, .unset] [(.int (0 : Int32))])) _
    refine XS.istore X1.here hx rfl (hb hby d1_8) rfl (l' := #[own_jv (7 : Int64), .second, rv b1_1_0, iv (6 : Int32), iv (0 : Int32), .unset]) rfl ?_
    show Steps p.tables e below (T1.setTop (mkF m 10 #[own_jv (7 : Int64), .second, rv b1_1_0, iv (6 : Int32), iv (0 : Int32), .unset] [])) _
    refine XS.iload X1.here hx rfl (hb hby d1_10) rfl ?_
    show Steps p.tables e below (T1.setTop (mkF m 12 #[own_jv (7 : Int64), .second, rv b1_1_0, iv (6 : Int32), iv (0 : Int32), .unset] [(.int (0 : Int32))])) _
    refine XS.iloadN X1.here hx rfl (hb hby d1_12) rfl ?_
    show Steps p.tables e below (T1.setTop (mkF m 13 #[own_jv (7 : Int64), .second, rv b1_1_0, iv (6 : Int32), iv (0 : Int32), .unset] [(.int (6 : Int32)), (.int (0 : Int32))])) _
    refine XS.icmpNo X1.here hx rfl (hb hby d1_13) rfl (tlt (by decide +kernel : (0 : Int32) < (6 : Int32))).2.1 ?_
    show Steps p.tables e below (T1.setTop (mkF m 16 #[own_jv (7 : Int64), .second, rv b1_1_0, iv (6 : Int32), iv (0 : Int32), .unset] [])) _
    refine XS.aloadN X1.here hx rfl (hb hby d1_16) rfl rfl ?_
    show Steps p.tables e below (T1.setTop (mkF m 17 #[own_jv (7 : Int64), .second, rv b1_1_0, iv (6 : Int32), iv (0 : Int32), .unset] [(.ref b1_1_0)])) _
    refine XS.iload X1.here hx rfl (hb hby d1_17) rfl ?_
    show Steps p.tables e below (T1.setTop (mkF m 19 #[own_jv (7 : Int64), .second, rv b1_1_0, iv (6 : Int32), iv (0 : Int32), .unset] [(.int (0 : Int32)), (.ref b1_1_0)])) _
    refine X1.aaload hx (j := (0 : Int32)) (v := (.ref w_MessageType_SUBMISSION)) Ar3.1 (State.isArrayOf_alike hZ.alike Ar3.2.1) rfl Ar3.2.2 hin3 (Hs3.at hin3 rfl) (g := (mkF m 19 #[own_jv (7 : Int64), .second, rv b1_1_0, iv (6 : Int32), iv (0 : Int32), .unset] [(.int (0 : Int32)), (.ref b1_1_0)])) rfl rfl (hb hby d1_19) _ ?_
    show Steps p.tables e below (T1.setTop (mkF m 20 #[own_jv (7 : Int64), .second, rv b1_1_0, iv (6 : Int32), iv (0 : Int32), .unset] [(.ref w_MessageType_SUBMISSION)])) _
    refine XS.astore X1.here hx rfl (hb hby d1_20) rfl rfl (l' := #[own_jv (7 : Int64), .second, rv b1_1_0, iv (6 : Int32), iv (0 : Int32), rv w_MessageType_SUBMISSION]) rfl ?_
    show Steps p.tables e below (T1.setTop (mkF m 22 #[own_jv (7 : Int64), .second, rv b1_1_0, iv (6 : Int32), iv (0 : Int32), rv w_MessageType_SUBMISSION] [])) _
    refine XS.aload X1.here hx rfl (hb hby d1_22) rfl rfl ?_
    show Steps p.tables e below (T1.setTop (mkF m 24 #[own_jv (7 : Int64), .second, rv b1_1_0, iv (6 : Int32), iv (0 : Int32), rv w_MessageType_SUBMISSION] [(.ref w_MessageType_SUBMISSION)])) _
    refine st5 _ ?_
    show Steps p.tables e below (T5.setTop (mkF m 27 #[own_jv (7 : Int64), .second, rv b1_1_0, iv (6 : Int32), iv (0 : Int32), rv w_MessageType_SUBMISSION] [(.int (1 : Int32))])) _
    refine XS.i2l X5.here hx rfl (hb hby d1_27) rfl ?_
    show Steps p.tables e below (T5.setTop (mkF m 28 #[own_jv (7 : Int64), .second, rv b1_1_0, iv (6 : Int32), iv (0 : Int32), rv w_MessageType_SUBMISSION] [(.long ((1 : Int32).toInt64))])) _
    rewrite [show ((1 : Int32).toInt64) = (1 : Int64) from by decide +kernel]
    show Steps p.tables e below (T5.setTop (mkF m 28 #[own_jv (7 : Int64), .second, rv b1_1_0, iv (6 : Int32), iv (0 : Int32), rv w_MessageType_SUBMISSION] [(.long (1 : Int64))])) _
    refine XS.lloadN X5.here hx rfl (hb hby d1_28) rfl ?_
    show Steps p.tables e below (T5.setTop (mkF m 29 #[own_jv (7 : Int64), .second, rv b1_1_0, iv (6 : Int32), iv (0 : Int32), rv w_MessageType_SUBMISSION] [(.long (7 : Int64)), (.long (1 : Int64))])) _
    refine XS.lcmp X5.here hx rfl (hb hby d1_29) rfl ?_
    show Steps p.tables e below (T5.setTop (mkF m 30 #[own_jv (7 : Int64), .second, rv b1_1_0, iv (6 : Int32), iv (0 : Int32), rv w_MessageType_SUBMISSION] [(.int (lcmpW (1 : Int64) (7 : Int64)))])) _
    rewrite [show (lcmpW (1 : Int64) (7 : Int64)) = (-1 : Int32) from by decide +kernel]
    show Steps p.tables e below (T5.setTop (mkF m 30 #[own_jv (7 : Int64), .second, rv b1_1_0, iv (6 : Int32), iv (0 : Int32), rv w_MessageType_SUBMISSION] [(.int (-1 : Int32))])) _
    refine XS.ifYes X5.here hx rfl (pc0 := 30) (pc' := 36) rfl (hb hby d1_30) rfl ((if0 _ _).trans (feq (by decide +kernel : ¬ ((-1 : Int32) = (0 : Int32)))).2) (by decide) (by decide) ?_
    show Steps p.tables e below (T5.setTop (mkF m 36 #[own_jv (7 : Int64), .second, rv b1_1_0, iv (6 : Int32), iv (0 : Int32), rv w_MessageType_SUBMISSION] [])) _
    refine XS.iinc X5.here hx rfl (hb hby d1_36) rfl (l' := #[own_jv (7 : Int64), .second, rv b1_1_0, iv (6 : Int32), iv ((0 : Int32) + (1 : Int32)), rv w_MessageType_SUBMISSION]) rfl ?_
    show Steps p.tables e below (T5.setTop (mkF m 39 #[own_jv (7 : Int64), .second, rv b1_1_0, iv (6 : Int32), iv ((0 : Int32) + (1 : Int32)), rv w_MessageType_SUBMISSION] [])) _
    rewrite [show ((0 : Int32) + (1 : Int32)) = (1 : Int32) from by decide +kernel]
    show Steps p.tables e below (T5.setTop (mkF m 39 #[own_jv (7 : Int64), .second, rv b1_1_0, iv (6 : Int32), iv (1 : Int32), rv w_MessageType_SUBMISSION] [])) _
    refine XS.goto X5.here hx rfl (pc0 := 39) (pc' := 10) rfl (hb hby d1_39) (by decide) (by decide) ?_
    show Steps p.tables e below (T5.setTop (mkF m 10 #[own_jv (7 : Int64), .second, rv b1_1_0, iv (6 : Int32), iv (1 : Int32), rv w_MessageType_SUBMISSION] [])) _
    refine XS.iload X5.here hx rfl (hb hby d1_10) rfl ?_
    show Steps p.tables e below (T5.setTop (mkF m 12 #[own_jv (7 : Int64), .second, rv b1_1_0, iv (6 : Int32), iv (1 : Int32), rv w_MessageType_SUBMISSION] [(.int (1 : Int32))])) _
    refine XS.iloadN X5.here hx rfl (hb hby d1_12) rfl ?_
    show Steps p.tables e below (T5.setTop (mkF m 13 #[own_jv (7 : Int64), .second, rv b1_1_0, iv (6 : Int32), iv (1 : Int32), rv w_MessageType_SUBMISSION] [(.int (6 : Int32)), (.int (1 : Int32))])) _
    refine XS.icmpNo X5.here hx rfl (hb hby d1_13) rfl (tlt (by decide +kernel : (1 : Int32) < (6 : Int32))).2.1 ?_
    show Steps p.tables e below (T5.setTop (mkF m 16 #[own_jv (7 : Int64), .second, rv b1_1_0, iv (6 : Int32), iv (1 : Int32), rv w_MessageType_SUBMISSION] [])) _
    refine XS.aloadN X5.here hx rfl (hb hby d1_16) rfl rfl ?_
    show Steps p.tables e below (T5.setTop (mkF m 17 #[own_jv (7 : Int64), .second, rv b1_1_0, iv (6 : Int32), iv (1 : Int32), rv w_MessageType_SUBMISSION] [(.ref b1_1_0)])) _
    refine XS.iload X5.here hx rfl (hb hby d1_17) rfl ?_
    show Steps p.tables e below (T5.setTop (mkF m 19 #[own_jv (7 : Int64), .second, rv b1_1_0, iv (6 : Int32), iv (1 : Int32), rv w_MessageType_SUBMISSION] [(.int (1 : Int32)), (.ref b1_1_0)])) _
    refine X5.aaload hx (j := (1 : Int32)) (v := (.ref w_MessageType_PARTIAL_CANCEL)) (by rw [e5]; exact Ar6.1) (State.isArrayOf_alike hZ.alike Ar6.2.1) rfl Ar6.2.2 hin6 (Hs6.at hin6 rfl) (g := (mkF m 19 #[own_jv (7 : Int64), .second, rv b1_1_0, iv (6 : Int32), iv (1 : Int32), rv w_MessageType_SUBMISSION] [(.int (1 : Int32)), (.ref b1_1_0)])) rfl rfl (hb hby d1_19) _ ?_
    show Steps p.tables e below (T5.setTop (mkF m 20 #[own_jv (7 : Int64), .second, rv b1_1_0, iv (6 : Int32), iv (1 : Int32), rv w_MessageType_SUBMISSION] [(.ref w_MessageType_PARTIAL_CANCEL)])) _
    refine XS.astore X5.here hx rfl (hb hby d1_20) rfl rfl (l' := #[own_jv (7 : Int64), .second, rv b1_1_0, iv (6 : Int32), iv (1 : Int32), rv w_MessageType_PARTIAL_CANCEL]) rfl ?_
    show Steps p.tables e below (T5.setTop (mkF m 22 #[own_jv (7 : Int64), .second, rv b1_1_0, iv (6 : Int32), iv (1 : Int32), rv w_MessageType_PARTIAL_CANCEL] [])) _
    refine XS.aload X5.here hx rfl (hb hby d1_22) rfl rfl ?_
    show Steps p.tables e below (T5.setTop (mkF m 24 #[own_jv (7 : Int64), .second, rv b1_1_0, iv (6 : Int32), iv (1 : Int32), rv w_MessageType_PARTIAL_CANCEL] [(.ref w_MessageType_PARTIAL_CANCEL)])) _
    refine st8 _ ?_
    show Steps p.tables e below (T8.setTop (mkF m 27 #[own_jv (7 : Int64), .second, rv b1_1_0, iv (6 : Int32), iv (1 : Int32), rv w_MessageType_PARTIAL_CANCEL] [(.int (2 : Int32))])) _
    refine XS.i2l X8.here hx rfl (hb hby d1_27) rfl ?_
    show Steps p.tables e below (T8.setTop (mkF m 28 #[own_jv (7 : Int64), .second, rv b1_1_0, iv (6 : Int32), iv (1 : Int32), rv w_MessageType_PARTIAL_CANCEL] [(.long ((2 : Int32).toInt64))])) _
    rewrite [show ((2 : Int32).toInt64) = (2 : Int64) from by decide +kernel]
    show Steps p.tables e below (T8.setTop (mkF m 28 #[own_jv (7 : Int64), .second, rv b1_1_0, iv (6 : Int32), iv (1 : Int32), rv w_MessageType_PARTIAL_CANCEL] [(.long (2 : Int64))])) _
    refine XS.lloadN X8.here hx rfl (hb hby d1_28) rfl ?_
    show Steps p.tables e below (T8.setTop (mkF m 29 #[own_jv (7 : Int64), .second, rv b1_1_0, iv (6 : Int32), iv (1 : Int32), rv w_MessageType_PARTIAL_CANCEL] [(.long (7 : Int64)), (.long (2 : Int64))])) _
    refine XS.lcmp X8.here hx rfl (hb hby d1_29) rfl ?_
    show Steps p.tables e below (T8.setTop (mkF m 30 #[own_jv (7 : Int64), .second, rv b1_1_0, iv (6 : Int32), iv (1 : Int32), rv w_MessageType_PARTIAL_CANCEL] [(.int (lcmpW (2 : Int64) (7 : Int64)))])) _
    rewrite [show (lcmpW (2 : Int64) (7 : Int64)) = (-1 : Int32) from by decide +kernel]
    show Steps p.tables e below (T8.setTop (mkF m 30 #[own_jv (7 : Int64), .second, rv b1_1_0, iv (6 : Int32), iv (1 : Int32), rv w_MessageType_PARTIAL_CANCEL] [(.int (-1 : Int32))])) _
    refine XS.ifYes X8.here hx rfl (pc0 := 30) (pc' := 36) rfl (hb hby d1_30) rfl ((if0 _ _).trans (feq (by decide +kernel : ¬ ((-1 : Int32) = (0 : Int32)))).2) (by decide) (by decide) ?_
    show Steps p.tables e below (T8.setTop (mkF m 36 #[own_jv (7 : Int64), .second, rv b1_1_0, iv (6 : Int32), iv (1 : Int32), rv w_MessageType_PARTIAL_CANCEL] [])) _
    refine XS.iinc X8.here hx rfl (hb hby d1_36) rfl (l' := #[own_jv (7 : Int64), .second, rv b1_1_0, iv (6 : Int32), iv ((1 : Int32) + (1 : Int32)), rv w_MessageType_PARTIAL_CANCEL]) rfl ?_
    show Steps p.tables e below (T8.setTop (mkF m 39 #[own_jv (7 : Int64), .second, rv b1_1_0, iv (6 : Int32), iv ((1 : Int32) + (1 : Int32)), rv w_MessageType_PARTIAL_CANCEL] [])) _
    rewrite [show ((1 : Int32) + (1 : Int32)) = (2 : Int32) from by decide +kernel]
    show Steps p.tables e below (T8.setTop (mkF m 39 #[own_jv (7 : Int64), .second, rv b1_1_0, iv (6 : Int32), iv (2 : Int32), rv w_MessageType_PARTIAL_CANCEL] [])) _
    refine XS.goto X8.here hx rfl (pc0 := 39) (pc' := 10) rfl (hb hby d1_39) (by decide) (by decide) ?_
    show Steps p.tables e below (T8.setTop (mkF m 10 #[own_jv (7 : Int64), .second, rv b1_1_0, iv (6 : Int32), iv (2 : Int32), rv w_MessageType_PARTIAL_CANCEL] [])) _
    refine XS.iload X8.here hx rfl (hb hby d1_10) rfl ?_
    show Steps p.tables e below (T8.setTop (mkF m 12 #[own_jv (7 : Int64), .second, rv b1_1_0, iv (6 : Int32), iv (2 : Int32), rv w_MessageType_PARTIAL_CANCEL] [(.int (2 : Int32))])) _
    refine XS.iloadN X8.here hx rfl (hb hby d1_12) rfl ?_
    show Steps p.tables e below (T8.setTop (mkF m 13 #[own_jv (7 : Int64), .second, rv b1_1_0, iv (6 : Int32), iv (2 : Int32), rv w_MessageType_PARTIAL_CANCEL] [(.int (6 : Int32)), (.int (2 : Int32))])) _
    refine XS.icmpNo X8.here hx rfl (hb hby d1_13) rfl (tlt (by decide +kernel : (2 : Int32) < (6 : Int32))).2.1 ?_
    show Steps p.tables e below (T8.setTop (mkF m 16 #[own_jv (7 : Int64), .second, rv b1_1_0, iv (6 : Int32), iv (2 : Int32), rv w_MessageType_PARTIAL_CANCEL] [])) _
    refine XS.aloadN X8.here hx rfl (hb hby d1_16) rfl rfl ?_
    show Steps p.tables e below (T8.setTop (mkF m 17 #[own_jv (7 : Int64), .second, rv b1_1_0, iv (6 : Int32), iv (2 : Int32), rv w_MessageType_PARTIAL_CANCEL] [(.ref b1_1_0)])) _
    refine XS.iload X8.here hx rfl (hb hby d1_17) rfl ?_
    show Steps p.tables e below (T8.setTop (mkF m 19 #[own_jv (7 : Int64), .second, rv b1_1_0, iv (6 : Int32), iv (2 : Int32), rv w_MessageType_PARTIAL_CANCEL] [(.int (2 : Int32)), (.ref b1_1_0)])) _
    refine X8.aaload hx (j := (2 : Int32)) (v := (.ref w_MessageType_DELETION)) (by rw [e8]; exact Ar9.1) (State.isArrayOf_alike hZ.alike Ar9.2.1) rfl Ar9.2.2 hin9 (Hs9.at hin9 rfl) (g := (mkF m 19 #[own_jv (7 : Int64), .second, rv b1_1_0, iv (6 : Int32), iv (2 : Int32), rv w_MessageType_PARTIAL_CANCEL] [(.int (2 : Int32)), (.ref b1_1_0)])) rfl rfl (hb hby d1_19) _ ?_
    show Steps p.tables e below (T8.setTop (mkF m 20 #[own_jv (7 : Int64), .second, rv b1_1_0, iv (6 : Int32), iv (2 : Int32), rv w_MessageType_PARTIAL_CANCEL] [(.ref w_MessageType_DELETION)])) _
    refine XS.astore X8.here hx rfl (hb hby d1_20) rfl rfl (l' := #[own_jv (7 : Int64), .second, rv b1_1_0, iv (6 : Int32), iv (2 : Int32), rv w_MessageType_DELETION]) rfl ?_
    show Steps p.tables e below (T8.setTop (mkF m 22 #[own_jv (7 : Int64), .second, rv b1_1_0, iv (6 : Int32), iv (2 : Int32), rv w_MessageType_DELETION] [])) _
    refine XS.aload X8.here hx rfl (hb hby d1_22) rfl rfl ?_
    show Steps p.tables e below (T8.setTop (mkF m 24 #[own_jv (7 : Int64), .second, rv b1_1_0, iv (6 : Int32), iv (2 : Int32), rv w_MessageType_DELETION] [(.ref w_MessageType_DELETION)])) _
    refine st11 _ ?_
    show Steps p.tables e below (T11.setTop (mkF m 27 #[own_jv (7 : Int64), .second, rv b1_1_0, iv (6 : Int32), iv (2 : Int32), rv w_MessageType_DELETION] [(.int (3 : Int32))])) _
    refine XS.i2l X11.here hx rfl (hb hby d1_27) rfl ?_
    show Steps p.tables e below (T11.setTop (mkF m 28 #[own_jv (7 : Int64), .second, rv b1_1_0, iv (6 : Int32), iv (2 : Int32), rv w_MessageType_DELETION] [(.long ((3 : Int32).toInt64))])) _
    rewrite [show ((3 : Int32).toInt64) = (3 : Int64) from by decide +kernel]
    show Steps p.tables e below (T11.setTop (mkF m 28 #[own_jv (7 : Int64), .second, rv b1_1_0, iv (6 : Int32), iv (2 : Int32), rv w_MessageType_DELETION] [(.long (3 : Int64))])) _
    refine XS.lloadN X11.here hx rfl (hb hby d1_28) rfl ?_
    show Steps p.tables e below (T11.setTop (mkF m 29 #[own_jv (7 : Int64), .second, rv b1_1_0, iv (6 : Int32), iv (2 : Int32), rv w_MessageType_DELETION] [(.long (7 : Int64)), (.long (3 : Int64))])) _
    refine XS.lcmp X11.here hx rfl (hb hby d1_29) rfl ?_
    show Steps p.tables e below (T11.setTop (mkF m 30 #[own_jv (7 : Int64), .second, rv b1_1_0, iv (6 : Int32), iv (2 : Int32), rv w_MessageType_DELETION] [(.int (lcmpW (3 : Int64) (7 : Int64)))])) _
    rewrite [show (lcmpW (3 : Int64) (7 : Int64)) = (-1 : Int32) from by decide +kernel]
    show Steps p.tables e below (T11.setTop (mkF m 30 #[own_jv (7 : Int64), .second, rv b1_1_0, iv (6 : Int32), iv (2 : Int32), rv w_MessageType_DELETION] [(.int (-1 : Int32))])) _
    refine XS.ifYes X11.here hx rfl (pc0 := 30) (pc' := 36) rfl (hb hby d1_30) rfl ((if0 _ _).trans (feq (by decide +kernel : ¬ ((-1 : Int32) = (0 : Int32)))).2) (by decide) (by decide) ?_
    show Steps p.tables e below (T11.setTop (mkF m 36 #[own_jv (7 : Int64), .second, rv b1_1_0, iv (6 : Int32), iv (2 : Int32), rv w_MessageType_DELETION] [])) _
    refine XS.iinc X11.here hx rfl (hb hby d1_36) rfl (l' := #[own_jv (7 : Int64), .second, rv b1_1_0, iv (6 : Int32), iv ((2 : Int32) + (1 : Int32)), rv w_MessageType_DELETION]) rfl ?_
    show Steps p.tables e below (T11.setTop (mkF m 39 #[own_jv (7 : Int64), .second, rv b1_1_0, iv (6 : Int32), iv ((2 : Int32) + (1 : Int32)), rv w_MessageType_DELETION] [])) _
    rewrite [show ((2 : Int32) + (1 : Int32)) = (3 : Int32) from by decide +kernel]
    show Steps p.tables e below (T11.setTop (mkF m 39 #[own_jv (7 : Int64), .second, rv b1_1_0, iv (6 : Int32), iv (3 : Int32), rv w_MessageType_DELETION] [])) _
    refine XS.goto X11.here hx rfl (pc0 := 39) (pc' := 10) rfl (hb hby d1_39) (by decide) (by decide) ?_
    show Steps p.tables e below (T11.setTop (mkF m 10 #[own_jv (7 : Int64), .second, rv b1_1_0, iv (6 : Int32), iv (3 : Int32), rv w_MessageType_DELETION] [])) _
    refine XS.iload X11.here hx rfl (hb hby d1_10) rfl ?_
    show Steps p.tables e below (T11.setTop (mkF m 12 #[own_jv (7 : Int64), .second, rv b1_1_0, iv (6 : Int32), iv (3 : Int32), rv w_MessageType_DELETION] [(.int (3 : Int32))])) _
    refine XS.iloadN X11.here hx rfl (hb hby d1_12) rfl ?_
    show Steps p.tables e below (T11.setTop (mkF m 13 #[own_jv (7 : Int64), .second, rv b1_1_0, iv (6 : Int32), iv (3 : Int32), rv w_MessageType_DELETION] [(.int (6 : Int32)), (.int (3 : Int32))])) _
    refine XS.icmpNo X11.here hx rfl (hb hby d1_13) rfl (tlt (by decide +kernel : (3 : Int32) < (6 : Int32))).2.1 ?_
    show Steps p.tables e below (T11.setTop (mkF m 16 #[own_jv (7 : Int64), .second, rv b1_1_0, iv (6 : Int32), iv (3 : Int32), rv w_MessageType_DELETION] [])) _
    refine XS.aloadN X11.here hx rfl (hb hby d1_16) rfl rfl ?_
    show Steps p.tables e below (T11.setTop (mkF m 17 #[own_jv (7 : Int64), .second, rv b1_1_0, iv (6 : Int32), iv (3 : Int32), rv w_MessageType_DELETION] [(.ref b1_1_0)])) _
    refine XS.iload X11.here hx rfl (hb hby d1_17) rfl ?_
    show Steps p.tables e below (T11.setTop (mkF m 19 #[own_jv (7 : Int64), .second, rv b1_1_0, iv (6 : Int32), iv (3 : Int32), rv w_MessageType_DELETION] [(.int (3 : Int32)), (.ref b1_1_0)])) _
    refine X11.aaload hx (j := (3 : Int32)) (v := (.ref w_MessageType_VISIBLE_EXECUTION)) (by rw [e11]; exact Ar12.1) (State.isArrayOf_alike hZ.alike Ar12.2.1) rfl Ar12.2.2 hin12 (Hs12.at hin12 rfl) (g := (mkF m 19 #[own_jv (7 : Int64), .second, rv b1_1_0, iv (6 : Int32), iv (3 : Int32), rv w_MessageType_DELETION] [(.int (3 : Int32)), (.ref b1_1_0)])) rfl rfl (hb hby d1_19) _ ?_
    show Steps p.tables e below (T11.setTop (mkF m 20 #[own_jv (7 : Int64), .second, rv b1_1_0, iv (6 : Int32), iv (3 : Int32), rv w_MessageType_DELETION] [(.ref w_MessageType_VISIBLE_EXECUTION)])) _
    refine XS.astore X11.here hx rfl (hb hby d1_20) rfl rfl (l' := #[own_jv (7 : Int64), .second, rv b1_1_0, iv (6 : Int32), iv (3 : Int32), rv w_MessageType_VISIBLE_EXECUTION]) rfl ?_
    show Steps p.tables e below (T11.setTop (mkF m 22 #[own_jv (7 : Int64), .second, rv b1_1_0, iv (6 : Int32), iv (3 : Int32), rv w_MessageType_VISIBLE_EXECUTION] [])) _
    refine XS.aload X11.here hx rfl (hb hby d1_22) rfl rfl ?_
    show Steps p.tables e below (T11.setTop (mkF m 24 #[own_jv (7 : Int64), .second, rv b1_1_0, iv (6 : Int32), iv (3 : Int32), rv w_MessageType_VISIBLE_EXECUTION] [(.ref w_MessageType_VISIBLE_EXECUTION)])) _
    refine st14 _ ?_
    show Steps p.tables e below (T14.setTop (mkF m 27 #[own_jv (7 : Int64), .second, rv b1_1_0, iv (6 : Int32), iv (3 : Int32), rv w_MessageType_VISIBLE_EXECUTION] [(.int (4 : Int32))])) _
    refine XS.i2l X14.here hx rfl (hb hby d1_27) rfl ?_
    show Steps p.tables e below (T14.setTop (mkF m 28 #[own_jv (7 : Int64), .second, rv b1_1_0, iv (6 : Int32), iv (3 : Int32), rv w_MessageType_VISIBLE_EXECUTION] [(.long ((4 : Int32).toInt64))])) _
    rewrite [show ((4 : Int32).toInt64) = (4 : Int64) from by decide +kernel]
    show Steps p.tables e below (T14.setTop (mkF m 28 #[own_jv (7 : Int64), .second, rv b1_1_0, iv (6 : Int32), iv (3 : Int32), rv w_MessageType_VISIBLE_EXECUTION] [(.long (4 : Int64))])) _
    refine XS.lloadN X14.here hx rfl (hb hby d1_28) rfl ?_
    show Steps p.tables e below (T14.setTop (mkF m 29 #[own_jv (7 : Int64), .second, rv b1_1_0, iv (6 : Int32), iv (3 : Int32), rv w_MessageType_VISIBLE_EXECUTION] [(.long (7 : Int64)), (.long (4 : Int64))])) _
    refine XS.lcmp X14.here hx rfl (hb hby d1_29) rfl ?_
    show Steps p.tables e below (T14.setTop (mkF m 30 #[own_jv (7 : Int64), .second, rv b1_1_0, iv (6 : Int32), iv (3 : Int32), rv w_MessageType_VISIBLE_EXECUTION] [(.int (lcmpW (4 : Int64) (7 : Int64)))])) _
    rewrite [show (lcmpW (4 : Int64) (7 : Int64)) = (-1 : Int32) from by decide +kernel]
    show Steps p.tables e below (T14.setTop (mkF m 30 #[own_jv (7 : Int64), .second, rv b1_1_0, iv (6 : Int32), iv (3 : Int32), rv w_MessageType_VISIBLE_EXECUTION] [(.int (-1 : Int32))])) _
    refine XS.ifYes X14.here hx rfl (pc0 := 30) (pc' := 36) rfl (hb hby d1_30) rfl ((if0 _ _).trans (feq (by decide +kernel : ¬ ((-1 : Int32) = (0 : Int32)))).2) (by decide) (by decide) ?_
    show Steps p.tables e below (T14.setTop (mkF m 36 #[own_jv (7 : Int64), .second, rv b1_1_0, iv (6 : Int32), iv (3 : Int32), rv w_MessageType_VISIBLE_EXECUTION] [])) _
    refine XS.iinc X14.here hx rfl (hb hby d1_36) rfl (l' := #[own_jv (7 : Int64), .second, rv b1_1_0, iv (6 : Int32), iv ((3 : Int32) + (1 : Int32)), rv w_MessageType_VISIBLE_EXECUTION]) rfl ?_
    show Steps p.tables e below (T14.setTop (mkF m 39 #[own_jv (7 : Int64), .second, rv b1_1_0, iv (6 : Int32), iv ((3 : Int32) + (1 : Int32)), rv w_MessageType_VISIBLE_EXECUTION] [])) _
    rewrite [show ((3 : Int32) + (1 : Int32)) = (4 : Int32) from by decide +kernel]
    show Steps p.tables e below (T14.setTop (mkF m 39 #[own_jv (7 : Int64), .second, rv b1_1_0, iv (6 : Int32), iv (4 : Int32), rv w_MessageType_VISIBLE_EXECUTION] [])) _
    refine XS.goto X14.here hx rfl (pc0 := 39) (pc' := 10) rfl (hb hby d1_39) (by decide) (by decide) ?_
    show Steps p.tables e below (T14.setTop (mkF m 10 #[own_jv (7 : Int64), .second, rv b1_1_0, iv (6 : Int32), iv (4 : Int32), rv w_MessageType_VISIBLE_EXECUTION] [])) _
    refine XS.iload X14.here hx rfl (hb hby d1_10) rfl ?_
    show Steps p.tables e below (T14.setTop (mkF m 12 #[own_jv (7 : Int64), .second, rv b1_1_0, iv (6 : Int32), iv (4 : Int32), rv w_MessageType_VISIBLE_EXECUTION] [(.int (4 : Int32))])) _
    refine XS.iloadN X14.here hx rfl (hb hby d1_12) rfl ?_
    show Steps p.tables e below (T14.setTop (mkF m 13 #[own_jv (7 : Int64), .second, rv b1_1_0, iv (6 : Int32), iv (4 : Int32), rv w_MessageType_VISIBLE_EXECUTION] [(.int (6 : Int32)), (.int (4 : Int32))])) _
    refine XS.icmpNo X14.here hx rfl (hb hby d1_13) rfl (tlt (by decide +kernel : (4 : Int32) < (6 : Int32))).2.1 ?_
    show Steps p.tables e below (T14.setTop (mkF m 16 #[own_jv (7 : Int64), .second, rv b1_1_0, iv (6 : Int32), iv (4 : Int32), rv w_MessageType_VISIBLE_EXECUTION] [])) _
    refine XS.aloadN X14.here hx rfl (hb hby d1_16) rfl rfl ?_
    show Steps p.tables e below (T14.setTop (mkF m 17 #[own_jv (7 : Int64), .second, rv b1_1_0, iv (6 : Int32), iv (4 : Int32), rv w_MessageType_VISIBLE_EXECUTION] [(.ref b1_1_0)])) _
    refine XS.iload X14.here hx rfl (hb hby d1_17) rfl ?_
    show Steps p.tables e below (T14.setTop (mkF m 19 #[own_jv (7 : Int64), .second, rv b1_1_0, iv (6 : Int32), iv (4 : Int32), rv w_MessageType_VISIBLE_EXECUTION] [(.int (4 : Int32)), (.ref b1_1_0)])) _
    refine X14.aaload hx (j := (4 : Int32)) (v := (.ref w_MessageType_HIDDEN_EXECUTION)) (by rw [e14]; exact Ar15.1) (State.isArrayOf_alike hZ.alike Ar15.2.1) rfl Ar15.2.2 hin15 (Hs15.at hin15 rfl) (g := (mkF m 19 #[own_jv (7 : Int64), .second, rv b1_1_0, iv (6 : Int32), iv (4 : Int32), rv w_MessageType_VISIBLE_EXECUTION] [(.int (4 : Int32)), (.ref b1_1_0)])) rfl rfl (hb hby d1_19) _ ?_
    show Steps p.tables e below (T14.setTop (mkF m 20 #[own_jv (7 : Int64), .second, rv b1_1_0, iv (6 : Int32), iv (4 : Int32), rv w_MessageType_VISIBLE_EXECUTION] [(.ref w_MessageType_HIDDEN_EXECUTION)])) _
    refine XS.astore X14.here hx rfl (hb hby d1_20) rfl rfl (l' := #[own_jv (7 : Int64), .second, rv b1_1_0, iv (6 : Int32), iv (4 : Int32), rv w_MessageType_HIDDEN_EXECUTION]) rfl ?_
    show Steps p.tables e below (T14.setTop (mkF m 22 #[own_jv (7 : Int64), .second, rv b1_1_0, iv (6 : Int32), iv (4 : Int32), rv w_MessageType_HIDDEN_EXECUTION] [])) _
    refine XS.aload X14.here hx rfl (hb hby d1_22) rfl rfl ?_
    show Steps p.tables e below (T14.setTop (mkF m 24 #[own_jv (7 : Int64), .second, rv b1_1_0, iv (6 : Int32), iv (4 : Int32), rv w_MessageType_HIDDEN_EXECUTION] [(.ref w_MessageType_HIDDEN_EXECUTION)])) _
    refine st17 _ ?_
    show Steps p.tables e below (T17.setTop (mkF m 27 #[own_jv (7 : Int64), .second, rv b1_1_0, iv (6 : Int32), iv (4 : Int32), rv w_MessageType_HIDDEN_EXECUTION] [(.int (5 : Int32))])) _
    refine XS.i2l X17.here hx rfl (hb hby d1_27) rfl ?_
    show Steps p.tables e below (T17.setTop (mkF m 28 #[own_jv (7 : Int64), .second, rv b1_1_0, iv (6 : Int32), iv (4 : Int32), rv w_MessageType_HIDDEN_EXECUTION] [(.long ((5 : Int32).toInt64))])) _
    rewrite [show ((5 : Int32).toInt64) = (5 : Int64) from by decide +kernel]
    show Steps p.tables e below (T17.setTop (mkF m 28 #[own_jv (7 : Int64), .second, rv b1_1_0, iv (6 : Int32), iv (4 : Int32), rv w_MessageType_HIDDEN_EXECUTION] [(.long (5 : Int64))])) _
    refine XS.lloadN X17.here hx rfl (hb hby d1_28) rfl ?_
    show Steps p.tables e below (T17.setTop (mkF m 29 #[own_jv (7 : Int64), .second, rv b1_1_0, iv (6 : Int32), iv (4 : Int32), rv w_MessageType_HIDDEN_EXECUTION] [(.long (7 : Int64)), (.long (5 : Int64))])) _
    refine XS.lcmp X17.here hx rfl (hb hby d1_29) rfl ?_
    show Steps p.tables e below (T17.setTop (mkF m 30 #[own_jv (7 : Int64), .second, rv b1_1_0, iv (6 : Int32), iv (4 : Int32), rv w_MessageType_HIDDEN_EXECUTION] [(.int (lcmpW (5 : Int64) (7 : Int64)))])) _
    rewrite [show (lcmpW (5 : Int64) (7 : Int64)) = (-1 : Int32) from by decide +kernel]
    show Steps p.tables e below (T17.setTop (mkF m 30 #[own_jv (7 : Int64), .second, rv b1_1_0, iv (6 : Int32), iv (4 : Int32), rv w_MessageType_HIDDEN_EXECUTION] [(.int (-1 : Int32))])) _
    refine XS.ifYes X17.here hx rfl (pc0 := 30) (pc' := 36) rfl (hb hby d1_30) rfl ((if0 _ _).trans (feq (by decide +kernel : ¬ ((-1 : Int32) = (0 : Int32)))).2) (by decide) (by decide) ?_
    show Steps p.tables e below (T17.setTop (mkF m 36 #[own_jv (7 : Int64), .second, rv b1_1_0, iv (6 : Int32), iv (4 : Int32), rv w_MessageType_HIDDEN_EXECUTION] [])) _
    refine XS.iinc X17.here hx rfl (hb hby d1_36) rfl (l' := #[own_jv (7 : Int64), .second, rv b1_1_0, iv (6 : Int32), iv ((4 : Int32) + (1 : Int32)), rv w_MessageType_HIDDEN_EXECUTION]) rfl ?_
    show Steps p.tables e below (T17.setTop (mkF m 39 #[own_jv (7 : Int64), .second, rv b1_1_0, iv (6 : Int32), iv ((4 : Int32) + (1 : Int32)), rv w_MessageType_HIDDEN_EXECUTION] [])) _
    rewrite [show ((4 : Int32) + (1 : Int32)) = (5 : Int32) from by decide +kernel]
    show Steps p.tables e below (T17.setTop (mkF m 39 #[own_jv (7 : Int64), .second, rv b1_1_0, iv (6 : Int32), iv (5 : Int32), rv w_MessageType_HIDDEN_EXECUTION] [])) _
    refine XS.goto X17.here hx rfl (pc0 := 39) (pc' := 10) rfl (hb hby d1_39) (by decide) (by decide) ?_
    show Steps p.tables e below (T17.setTop (mkF m 10 #[own_jv (7 : Int64), .second, rv b1_1_0, iv (6 : Int32), iv (5 : Int32), rv w_MessageType_HIDDEN_EXECUTION] [])) _
    refine XS.iload X17.here hx rfl (hb hby d1_10) rfl ?_
    show Steps p.tables e below (T17.setTop (mkF m 12 #[own_jv (7 : Int64), .second, rv b1_1_0, iv (6 : Int32), iv (5 : Int32), rv w_MessageType_HIDDEN_EXECUTION] [(.int (5 : Int32))])) _
    refine XS.iloadN X17.here hx rfl (hb hby d1_12) rfl ?_
    show Steps p.tables e below (T17.setTop (mkF m 13 #[own_jv (7 : Int64), .second, rv b1_1_0, iv (6 : Int32), iv (5 : Int32), rv w_MessageType_HIDDEN_EXECUTION] [(.int (6 : Int32)), (.int (5 : Int32))])) _
    refine XS.icmpNo X17.here hx rfl (hb hby d1_13) rfl (tlt (by decide +kernel : (5 : Int32) < (6 : Int32))).2.1 ?_
    show Steps p.tables e below (T17.setTop (mkF m 16 #[own_jv (7 : Int64), .second, rv b1_1_0, iv (6 : Int32), iv (5 : Int32), rv w_MessageType_HIDDEN_EXECUTION] [])) _
    refine XS.aloadN X17.here hx rfl (hb hby d1_16) rfl rfl ?_
    show Steps p.tables e below (T17.setTop (mkF m 17 #[own_jv (7 : Int64), .second, rv b1_1_0, iv (6 : Int32), iv (5 : Int32), rv w_MessageType_HIDDEN_EXECUTION] [(.ref b1_1_0)])) _
    refine XS.iload X17.here hx rfl (hb hby d1_17) rfl ?_
    show Steps p.tables e below (T17.setTop (mkF m 19 #[own_jv (7 : Int64), .second, rv b1_1_0, iv (6 : Int32), iv (5 : Int32), rv w_MessageType_HIDDEN_EXECUTION] [(.int (5 : Int32)), (.ref b1_1_0)])) _
    refine X17.aaload hx (j := (5 : Int32)) (v := (.ref w_MessageType_HALT)) (by rw [e17]; exact Ar18.1) (State.isArrayOf_alike hZ.alike Ar18.2.1) rfl Ar18.2.2 hin18 (Hs18.at hin18 rfl) (g := (mkF m 19 #[own_jv (7 : Int64), .second, rv b1_1_0, iv (6 : Int32), iv (5 : Int32), rv w_MessageType_HIDDEN_EXECUTION] [(.int (5 : Int32)), (.ref b1_1_0)])) rfl rfl (hb hby d1_19) _ ?_
    show Steps p.tables e below (T17.setTop (mkF m 20 #[own_jv (7 : Int64), .second, rv b1_1_0, iv (6 : Int32), iv (5 : Int32), rv w_MessageType_HIDDEN_EXECUTION] [(.ref w_MessageType_HALT)])) _
    refine XS.astore X17.here hx rfl (hb hby d1_20) rfl rfl (l' := #[own_jv (7 : Int64), .second, rv b1_1_0, iv (6 : Int32), iv (5 : Int32), rv w_MessageType_HALT]) rfl ?_
    show Steps p.tables e below (T17.setTop (mkF m 22 #[own_jv (7 : Int64), .second, rv b1_1_0, iv (6 : Int32), iv (5 : Int32), rv w_MessageType_HALT] [])) _
    refine XS.aload X17.here hx rfl (hb hby d1_22) rfl rfl ?_
    show Steps p.tables e below (T17.setTop (mkF m 24 #[own_jv (7 : Int64), .second, rv b1_1_0, iv (6 : Int32), iv (5 : Int32), rv w_MessageType_HALT] [(.ref w_MessageType_HALT)])) _
    refine st20 _ ?_
    show Steps p.tables e below (T20.setTop (mkF m 27 #[own_jv (7 : Int64), .second, rv b1_1_0, iv (6 : Int32), iv (5 : Int32), rv w_MessageType_HALT] [(.int (7 : Int32))])) _
    refine XS.i2l X20.here hx rfl (hb hby d1_27) rfl ?_
    show Steps p.tables e below (T20.setTop (mkF m 28 #[own_jv (7 : Int64), .second, rv b1_1_0, iv (6 : Int32), iv (5 : Int32), rv w_MessageType_HALT] [(.long ((7 : Int32).toInt64))])) _
    rewrite [show ((7 : Int32).toInt64) = (7 : Int64) from by decide +kernel]
    show Steps p.tables e below (T20.setTop (mkF m 28 #[own_jv (7 : Int64), .second, rv b1_1_0, iv (6 : Int32), iv (5 : Int32), rv w_MessageType_HALT] [(.long (7 : Int64))])) _
    refine XS.lloadN X20.here hx rfl (hb hby d1_28) rfl ?_
    show Steps p.tables e below (T20.setTop (mkF m 29 #[own_jv (7 : Int64), .second, rv b1_1_0, iv (6 : Int32), iv (5 : Int32), rv w_MessageType_HALT] [(.long (7 : Int64)), (.long (7 : Int64))])) _
    refine XS.lcmp X20.here hx rfl (hb hby d1_29) rfl ?_
    show Steps p.tables e below (T20.setTop (mkF m 30 #[own_jv (7 : Int64), .second, rv b1_1_0, iv (6 : Int32), iv (5 : Int32), rv w_MessageType_HALT] [(.int (lcmpW (7 : Int64) (7 : Int64)))])) _
    rewrite [show (lcmpW (7 : Int64) (7 : Int64)) = (0 : Int32) from by decide +kernel]
    show Steps p.tables e below (T20.setTop (mkF m 30 #[own_jv (7 : Int64), .second, rv b1_1_0, iv (6 : Int32), iv (5 : Int32), rv w_MessageType_HALT] [(.int (0 : Int32))])) _
    refine XS.ifNo X20.here hx rfl (hb hby d1_30) rfl ((if0 _ _).trans (teq (by decide +kernel : (0 : Int32) = (0 : Int32))).2) ?_
    show Steps p.tables e below (T20.setTop (mkF m 33 #[own_jv (7 : Int64), .second, rv b1_1_0, iv (6 : Int32), iv (5 : Int32), rv w_MessageType_HALT] [])) _
    refine XS.aload X20.here hx rfl (hb hby d1_33) rfl rfl ?_
    show Steps p.tables e below (T20.setTop (mkF m 35 #[own_jv (7 : Int64), .second, rv b1_1_0, iv (6 : Int32), iv (5 : Int32), rv w_MessageType_HALT] [(.ref w_MessageType_HALT)])) _
    exact own_retA X20 hx Bd.returns rfl rfl (hb hby d1_35) hr
  · exact (by show Q_rk_of_5 Z w_MessageType_HALT h0 n0 _ T20.heap _; rw [e20]; exact ⟨rfl, N1, KK1⟩)
def Q_rk_of_6 (Z : State)  (h0 : Heap) (n0 : Nat) (v : Option Value) (h : Heap) (L : List Loc) : Prop := (v = (some .null)) ∧ (Fr n0 L) ∧ (Keep h0 h [])
set_option maxRecDepth 65536 in
set_option maxHeartbeats 40000000 in
theorem rk_of_6 (l : Launch) (Z : State) (a0 : Array Value) (hw : ∀ d ∈ tables_1, d.before a0 Z = true) (ws : List Jvm.Cond) (w_MessageType__VALUES : Addr) (w_MessageType_SUBMISSION : Addr) (w_MessageType_PARTIAL_CANCEL : Addr) (w_MessageType_DELETION : Addr) (w_MessageType_VISIBLE_EXECUTION : Addr) (w_MessageType_HIDDEN_EXECUTION : Addr) (w_MessageType_HALT : Addr) (k_w_MessageType__VALUES : ClassId) (qk : Int64) (h0 : Heap) (n0 : Nat) (Z0 : n0 ≤ h0.size) (S_MessageType__VALUES : Sta Z h0 "com/example/strikebook/strikebook/cli/MessageType" "$VALUES" "[Lcom/example/strikebook/strikebook/cli/MessageType;" (.ref w_MessageType__VALUES)) (V_w_MessageType__VALUES : Arv Z h0 w_MessageType__VALUES k_w_MessageType__VALUES (.object "com/example/strikebook/strikebook/cli/MessageType") (6 : Int32) [(.ref w_MessageType_SUBMISSION), (.ref w_MessageType_PARTIAL_CANCEL), (.ref w_MessageType_DELETION), (.ref w_MessageType_VISIBLE_EXECUTION), (.ref w_MessageType_HIDDEN_EXECUTION), (.ref w_MessageType_HALT)] .null) (E_w_MessageType__VALUES : Exa Z h0 w_MessageType__VALUES "[Lcom/example/strikebook/strikebook/cli/MessageType;") (F_w_MessageType_SUBMISSION_code : Fld Z h0 w_MessageType_SUBMISSION "com/example/strikebook/strikebook/cli/MessageType" "code" "I" (.int (1 : Int32))) (hn1 : ¬ ((1 : Int64) = qk)) (F_w_MessageType_PARTIAL_CANCEL_code : Fld Z h0 w_MessageType_PARTIAL_CANCEL "com/example/strikebook/strikebook/cli/MessageType" "code" "I" (.int (2 : Int32))) (hn2 : ¬ ((2 : Int64) = qk)) (F_w_MessageType_DELETION_code : Fld Z h0 w_MessageType_DELETION "com/example/strikebook/strikebook/cli/MessageType" "code" "I" (.int (3 : Int32))) (hn3 : ¬ ((3 : Int64) = qk)) (F_w_MessageType_VISIBLE_EXECUTION_code : Fld Z h0 w_MessageType_VISIBLE_EXECUTION "com/example/strikebook/strikebook/cli/MessageType" "code" "I" (.int (4 : Int32))) (hn4 : ¬ ((4 : Int64) = qk)) (F_w_MessageType_HIDDEN_EXECUTION_code : Fld Z h0 w_MessageType_HIDDEN_EXECUTION "com/example/strikebook/strikebook/cli/MessageType" "code" "I" (.int (5 : Int32))) (hn5 : ¬ ((5 : Int64) = qk)) (F_w_MessageType_HALT_code : Fld Z h0 w_MessageType_HALT "com/example/strikebook/strikebook/cli/MessageType" "code" "I" (.int (7 : Int32))) (hn7 : ¬ ((7 : Int64) = qk)) :
    MetFree l (⟨"com/example/strikebook/strikebook/cli/MessageType", "of", "(J)Lcom/example/strikebook/strikebook/cli/MessageType;"⟩ : MethodName) (head1 (Jvm.Cond.code (⟨"com/example/strikebook/strikebook/cli/MessageType", "of", "(J)Lcom/example/strikebook/strikebook/cli/MessageType;"⟩ : MethodName) prog_10_method_5_code 6 (some (.object "com/example/strikebook/strikebook/cli/MessageType")) :: ws) ({ frames := 2, cells := 1, slots := 6, locals := 25 } : Room)) (fun a U => a = #[(.long qk)] ∧ Z.Warmed39 U.vm ∧ U.heap = h0) (fun _ _ _ _ _ => True) (fun _ U o U' => ∃ v L, o = .returned v ∧ Q_rk_of_6 Z  h0 n0 v U'.heap L ∧ FrameEnd U o U' L ({ frames := 2, cells := 1, slots := 6, locals := 25 } : Room).cells ({ frames := 2, cells := 1, slots := 6, locals := 25 } : Room).slots) := by
  refine MetFree.of_bodySF (plainFor_of_name pn_0) hisR ?_
  intro p e s m args below meth c s₁ Bd hml0 hP hK
  obtain ⟨rfl, hZ, hh⟩ := hP
  have hx := Bd.exec
  have hby := Bd.bytes
  have hml : c.maxLocals = 6 := hml0
  have hown : s.vm.findClass "com/example/strikebook/strikebook/cli/MessageType" = some m.cls := findClass_of_methodNamed Bd.named
  have hnm := (name_of_methodNamed Bd.named Bd.method).1
  have X0 : Stand p l e ({ frames := 2, cells := 1, slots := 6, locals := 25 } : Room) s m #[(.long qk)] below meth c s₁ [] 0 0 := Stand.of_body Bd
  have e0 : s₁.heap = h0 := by rw [← hh, Bd.state]; rfl
  have N0 := Fr.nil n0
  have pre0 : ∀ t, Steps p.tables e below (s₁.setTop (mkF m 0 #[own_jv qk, .second, .unset, .unset, .unset, .unset] [])) t → Steps p.tables e below (s₁.setTop (entryFrame m #[(.long qk)] 6)) t := fun t k => castTop (ef_1_J m qk) k
  obtain ⟨_, _, ⟨T1, L1, k1, n1⟩, -, X1, ⟨Lc1, hQ1, l1, y1, z1⟩, st1⟩ := Jvm.LawKit.callS X0 hx (y := (⟨"com/example/strikebook/strikebook/cli/MessageType", "values", "()[Lcom/example/strikebook/strikebook/cli/MessageType;"⟩ : MethodName)) hown (mvT hZ (hw _ (List.mem_of_getElem? (i := 5) rfl))) (mvT hZ (hw _ (List.mem_of_getElem? (i := 6) rfl))) (mvT hZ (hw _ (List.mem_of_getElem? (i := 3) rfl))) (mvT hZ (hw _ (List.mem_of_getElem? (i := 7) rfl))) (by decide) (backOf (W := 0) (rm2_0 l Z a0 hw [] w_MessageType__VALUES w_MessageType_SUBMISSION w_MessageType_PARTIAL_CANCEL w_MessageType_DELETION w_MessageType_VISIBLE_EXECUTION w_MessageType_HIDDEN_EXECUTION w_MessageType_HALT k_w_MessageType__VALUES h0 n0 Z0 S_MessageType__VALUES V_w_MessageType__VALUES E_w_MessageType__VALUES) hZ (hw _ (List.mem_of_getElem? (i := 7) rfl)) (hw _ (List.mem_of_getElem? (i := 3) rfl)) (by decide) (by decide)) (g := (mkF m 0 #[own_jv qk, .second, .unset, .unset, .unset, .unset] [])) rfl (by rw [hml]; rfl) (argsL := []) (rest := []) (lenOf pd_0 rfl) rfl (by show 2 * 0 + _ ≤ _; exact Nat.le_of_eq rfl) (hb hby d1_0) (fun _ _ => ⟨rfl, e0, (by decide : 0 + 1 ≤ _), (by decide : 0 + 6 ≤ _)⟩)
  dsimp only [Pt.U, Pt.locs, Pt.cells, Pt.slots] at X1 l1 y1 z1 st1 hQ1
  subst l1 y1 z1
  obtain ⟨b1_1_0, rfl, N1q, K1, gq_b1_1_0, le_b1_1_0, fq1_0, fq1_1⟩ := hQ1
  have sz_b1_1_0 : h0.size ≤ b1_1_0 := Nat.le_trans (Keep.refl h0 []).1 le_b1_1_0
  have KK1 : Keep h0 T1.heap [] := (Keep.refl h0 []).trans K1 all0
  have Z1 : n0 ≤ T1.heap.size := Nat.le_trans Z0 K1.1
  have N1 := Fr.app N0 N1q
  obtain ⟨cl2, Ar2, -, Sz2, Nn2, -, -⟩ := id fq1_0
  obtain ⟨cl3, Ar3, -, Sz3, Nn3, Hs3, Gs3⟩ := id fq1_0
  have hin3 : ¬ ((0 : Int32) < 0 ∨ cl3.slots.size ≤ ((0 : Int32)).toNatClampNeg) := inb_of Sz3 ⟨by decide, by decide⟩
  have c4 := (F_w_MessageType_SUBMISSION_code.keep K1 nin0)
  obtain ⟨T5, X5, e5, st5⟩ := getF X1 hx hZ hown (host := "") (Or.inl (hw _ (List.mem_of_getElem? (i := 26) rfl))) Via.refl rfl c4 (g := (mkF m 24 #[own_jv qk, .second, rv b1_1_0, iv (6 : Int32), iv (0 : Int32), rv w_MessageType_SUBMISSION] [(.ref w_MessageType_SUBMISSION)])) rfl rfl (hb hby d1_24)
  obtain ⟨cl6, Ar6, -, Sz6, Nn6, Hs6, Gs6⟩ := id fq1_0
  have hin6 : ¬ ((1 : Int32) < 0 ∨ cl6.slots.size ≤ ((1 : Int32)).toNatClampNeg) := inb_of Sz6 ⟨by decide, by decide⟩
  have c7 := (F_w_MessageType_PARTIAL_CANCEL_code.keep K1 nin0)
  obtain ⟨T8, X8, e8, st8⟩ := getF X5 hx hZ hown (host := "") (Or.inl (hw _ (List.mem_of_getElem? (i := 26) rfl))) Via.refl e5 c7 (g := (mkF m 24 #[own_jv qk, .second, rv b1_1_0, iv (6 : Int32), iv (1 : Int32), rv w_MessageType_PARTIAL_CANCEL] [(.ref w_MessageType_PARTIAL_CANCEL)])) rfl rfl (hb hby d1_24)
  obtain ⟨cl9, Ar9, -, Sz9, Nn9, Hs9, Gs9⟩ := id fq1_0
  have hin9 : ¬ ((2 : Int32) < 0 ∨ cl9.slots.size ≤ ((2 : Int32)).toNatClampNeg) := inb_of Sz9 ⟨by decide, by decide⟩
  have c10 := (F_w_MessageType_DELETION_code.keep K1 nin0)
  obtain ⟨T11, X11, e11, st11⟩ := getF X8 hx hZ hown (host := "") (Or.inl (hw _ (List.mem_of_getElem? (i := 26) rfl))) Via.refl e8 c10 (g := (mkF m 24 #[own_jv qk, .second, rv b1_1_0, iv (6 : Int32), iv (2 : Int32), rv w_MessageType_DELETION] [(.ref w_MessageType_DELETION)])) rfl rfl (hb hby d1_24)
  obtain ⟨cl12, Ar12, -, Sz12, Nn12, Hs12, Gs12⟩ := id fq1_0
  have hin12 : ¬ ((3 : Int32) < 0 ∨ cl12.slots.size ≤ ((3 : Int32)).toNatClampNeg) := inb_of Sz12 ⟨by decide, by decide⟩
  have c13 := (F_w_MessageType_VISIBLE_EXECUTION_code.keep K1 nin0)
  obtain ⟨T14, X14, e14, st14⟩ := getF X11 hx hZ hown (host := "") (Or.inl (hw _ (List.mem_of_getElem? (i := 26) rfl))) Via.refl e11 c13 (g := (mkF m 24 #[own_jv qk, .second, rv b1_1_0, iv (6 : Int32), iv (3 : Int32), rv w_MessageType_VISIBLE_EXECUTION] [(.ref w_MessageType_VISIBLE_EXECUTION)])) rfl rfl (hb hby d1_24)
  obtain ⟨cl15, Ar15, -, Sz15, Nn15, Hs15, Gs15⟩ := id fq1_0
  have hin15 : ¬ ((4 : Int32) < 0 ∨ cl15.slots.size ≤ ((4 : Int32)).toNatClampNeg) := inb_of Sz15 ⟨by decide, by decide⟩
  have c16 := (F_w_MessageType_HIDDEN_EXECUTION_code.keep K1 nin0)
  obtain ⟨T17, X17, e17, st17⟩ := getF X14 hx hZ hown (host := "") (Or.inl (hw _ (List.mem_of_getElem? (i := 26) rfl))) Via.refl e14 c16 (g := (mkF m 24 #[own_jv qk, .second, rv b1_1_0, iv (6 : Int32), iv (4 : Int32), rv w_MessageType_HIDDEN_EXECUTION] [(.ref w_MessageType_HIDDEN_EXECUTION)])) rfl rfl (hb hby d1_24)
  obtain ⟨cl18, Ar18, -, Sz18, Nn18, Hs18, Gs18⟩ := id fq1_0
  have hin18 : ¬ ((5 : Int32) < 0 ∨ cl18.slots.size ≤ ((5 : Int32)).toNatClampNeg) := inb_of Sz18 ⟨by decide, by decide⟩
  have c19 := (F_w_MessageType_HALT_code.keep K1 nin0)
  obtain ⟨T20, X20, e20, st20⟩ := getF X17 hx hZ hown (host := "") (Or.inl (hw _ (List.mem_of_getElem? (i := 26) rfl))) Via.refl e17 c19 (g := (mkF m 24 #[own_jv qk, .second, rv b1_1_0, iv (6 : Int32), iv (5 : Int32), rv w_MessageType_HALT] [(.ref w_MessageType_HALT)])) rfl rfl (hb hby d1_24)
  obtain ⟨fs, hr, hrun, hended, hW, hsame⟩ := X20.leave (v := (some .null)) (fun h => by rw [Bd.returns] at h; cases h)
  refine ⟨_, _, pre0 _ ?_, hrun, hended, _, _, rfl, ?_, ⟨_, rfl⟩, hW, hsame.mono (by decide) (by decide)⟩
  · show Steps p.tables e below (s₁.setTop (mkF m 0 #[own_jv qk, .second, .unset, .unset, .unset, .unset] [])) _
    refine st1 _ ?_
    show Steps p.tables e below (T1.setTop (mkF m 3 #[own_jv qk, .second, .unset, .unset, .unset, .unset] [(.ref b1_1_0)])) _
    refine XS.astoreN X1.here hx rfl (hb hby d1_3) rfl rfl (l' := #[own_jv qk, .second, rv b1_1_0, .unset, .unset, .unset]) rfl ?_
    show Steps p.tables e below (T1.setTop (mkF m 4 #[own_jv qk, .second, rv b1_1_0, .unset, .unset, .unset] [])) _
    refine XS.aloadN X1.here hx rfl (hb hby d1_4) rfl rfl ?_
    show Steps p.tables e below (T1.setTop (mkF m 5 #[own_jv qk, .second, rv b1_1_0, .unset, .unset, .unset] [(.ref b1_1_0)])) _
    refine X1.arraylength hx Ar2.1 (State.isArrayOf_alike hZ.alike Ar2.2.1) (g := (mkF m 5 #[own_jv qk, .second, rv b1_1_0, .unset, .unset, .unset] [(.ref b1_1_0)])) rfl rfl (hb hby d1_5) _ ?_
    rw [len_of Sz2 Nn2]
    show Steps p.tables e below (T1.setTop (mkF m 6 #[own_jv qk, .second, rv b1_1_0, .unset, .unset, .unset] [(.int (6 : Int32))])) _
    refine XS.istoreN X1.here hx rfl (hb hby d1_6) rfl (l' := #[own_jv qk, .second, rv b1_1_0, iv (6 : Int32), .unset, .unset]) rfl ?_
    show Steps p.tables e below (T1.setTop (mkF m 7 #[own_jv qk, .second, rv b1_1_0, iv (6 : Int32), .unset, .unset] [])) _
    refine XS.iconst X1.here hx rfl (hb hby d1_7) ?_
    show Steps p.tables e below (T1.setTop (mkF m 8 #[own_jv qk, .second, rv b1_1_0, iv (6 : Int32), .unset, .unset] [(.int (0 : Int32))])) _
    refine XS.istore X1.here hx rfl (hb hby d1_8) rfl (l' := #[own_jv qk, .second, rv b1_1_0, iv (6 : Int32), iv (0 : Int32), .unset]) rfl ?_
    show Steps p.tables e below (T1.setTop (mkF m 10 #[own_jv qk, .second, rv b1_1_0, iv (6 : Int32), iv (0 : Int32), .unset] [])) _
    refine XS.iload X1.here hx rfl (hb hby d1_10) rfl ?_
    show Steps p.tables e below (T1.setTop (mkF m 12 #[own_jv qk, .second, rv b1_1_0, iv (6 : Int32), iv (0 : Int32), .unset] [(.int (0 : Int32))])) _
    refine XS.iloadN X1.here hx rfl (hb hby d1_12) rfl ?_
    show Steps p.tables e below (T1.setTop (mkF m 13 #[own_jv qk, .second, rv b1_1_0, iv (6 : Int32), iv (0 : Int32), .unset] [(.int (6 : Int32)), (.int (0 : Int32))])) _
    refine XS.icmpNo X1.here hx rfl (hb hby d1_13) rfl (tlt (by decide +kernel : (0 : Int32) < (6 : Int32))).2.1 ?_
    show Steps p.tables e below (T1.setTop (mkF m 16 #[own_jv qk, .second, rv b1_1_0, iv (6 : Int32), iv (0 : Int32), .unset] [])) _
    refine XS.aloadN X1.here hx rfl (hb hby d1_16) rfl rfl ?_
    show Steps p.tables e below (T1.setTop (mkF m 17 #[own_jv qk, .second, rv b1_1_0, iv (6 : Int32), iv (0 : Int32), .unset] [(.ref b1_1_0)])) _
    refine XS.iload X1.here hx rfl (hb hby d1_17) rfl ?_
    show Steps p.tables e below (T1.setTop (mkF m 19 #[own_jv qk, .second, rv b1_1_0, iv (6 : Int32), iv (0 : Int32), .unset] [(.int (0 : Int32)), (.ref b1_1_0)])) _
    refine X1.aaload hx (j := (0 : Int32)) (v := (.ref w_MessageType_SUBMISSION)) Ar3.1 (State.isArrayOf_alike hZ.alike Ar3.2.1) rfl Ar3.2.2 hin3 (Hs3.at hin3 rfl) (g := (mkF m 19 #[own_jv qk, .second, rv b1_1_0, iv (6 : Int32), iv (0 : Int32), .unset] [(.int (0 : Int32)), (.ref b1_1_0)])) rfl rfl (hb hby d1_19) _ ?_
    show Steps p.tables e below (T1.setTop (mkF m 20 #[own_jv qk, .second, rv b1_1_0, iv (6 : Int32), iv (0 : Int32), .unset] [(.ref w_MessageType_SUBMISSION)])) _
    refine XS.astore X1.here hx rfl (hb hby d1_20) rfl rfl (l' := #[own_jv qk, .second, rv b1_1_0, iv (6 : Int32), iv (0 : Int32), rv w_MessageType_SUBMISSION]) rfl ?_
    show Steps p.tables e below (T1.setTop (mkF m 22 #[own_jv qk, .second, rv b1_1_0, iv (6 : Int32), iv (0 : Int32), rv w_MessageType_SUBMISSION] [])) _
    refine XS.aload X1.here hx rfl (hb hby d1_22) rfl rfl ?_
    show Steps p.tables e below (T1.setTop (mkF m 24 #[own_jv qk, .second, rv b1_1_0, iv (6 : Int32), iv (0 : Int32), rv w_MessageType_SUBMISSION] [(.ref w_MessageType_SUBMISSION)])) _
    refine st5 _ ?_
    show Steps p.tables e below (T5.setTop (mkF m 27 #[own_jv qk, .second, rv b1_1_0, iv (6 : Int32), iv (0 : Int32), rv w_MessageType_SUBMISSION] [(.int (1 : Int32))])) _
    refine XS.i2l X5.here hx rfl (hb hby d1_27) rfl ?_
    show Steps p.tables e below (T5.setTop (mkF m 28 #[own_jv qk, .second, rv b1_1_0, iv (6 : Int32), iv (0 : Int32), rv w_MessageType_SUBMISSION] [(.long ((1 : Int32).toInt64))])) _
    rewrite [show ((1 : Int32).toInt64) = (1 : Int64) from by decide +kernel]
    show Steps p.tables e below (T5.setTop (mkF m 28 #[own_jv qk, .second, rv b1_1_0, iv (6 : Int32), iv (0 : Int32), rv w_MessageType_SUBMISSION] [(.long (1 : Int64))])) _
    refine XS.lloadN X5.here hx rfl (hb hby d1_28) rfl ?_
    show Steps p.tables e below (T5.setTop (mkF m 29 #[own_jv qk, .second, rv b1_1_0, iv (6 : Int32), iv (0 : Int32), rv w_MessageType_SUBMISSION] [(.long qk), (.long (1 : Int64))])) _
    refine XS.lcmp X5.here hx rfl (hb hby d1_29) rfl ?_
    show Steps p.tables e below (T5.setTop (mkF m 30 #[own_jv qk, .second, rv b1_1_0, iv (6 : Int32), iv (0 : Int32), rv w_MessageType_SUBMISSION] [(.int (lcmpW (1 : Int64) qk))])) _
    refine XS.ifYes X5.here hx rfl (pc0 := 30) (pc' := 36) rfl (hb hby d1_30) rfl ((if0 _ _).trans ((if0 _ _).symm.trans (Jvm.Free.XT.ll_ne_t hn1))) (by decide) (by decide) ?_
    show Steps p.tables e below (T5.setTop (mkF m 36 #[own_jv qk, .second, rv b1_1_0, iv (6 : Int32), iv (0 : Int32), rv w_MessageType_SUBMISSION] [])) _
    refine XS.iinc X5.here hx rfl (hb hby d1_36) rfl (l' := #[own_jv qk, .second, rv b1_1_0, iv (6 : Int32), iv ((0 : Int32) + (1 : Int32)), rv w_MessageType_SUBMISSION]) rfl ?_
    show Steps p.tables e below (T5.setTop (mkF m 39 #[own_jv qk, .second, rv b1_1_0, iv (6 : Int32), iv ((0 : Int32) + (1 : Int32)), rv w_MessageType_SUBMISSION] [])) _
    rewrite [show ((0 : Int32) + (1 : Int32)) = (1 : Int32) from by decide +kernel]
    show Steps p.tables e below (T5.setTop (mkF m 39 #[own_jv qk, .second, rv b1_1_0, iv (6 : Int32), iv (1 : Int32), rv w_MessageType_SUBMISSION] [])) _
    refine XS.goto X5.here hx rfl (pc0 := 39) (pc' := 10) rfl (hb hby d1_39) (by decide) (by decide) ?_
    show Steps p.tables e below (T5.setTop (mkF m 10 #[own_jv qk, .second, rv b1_1_0, iv (6 : Int32), iv (1 : Int32), rv w_MessageType_SUBMISSION] [])) _
    refine XS.iload X5.here hx rfl (hb hby d1_10) rfl ?_
    show Steps p.tables e below (T5.setTop (mkF m 12 #[own_jv qk, .second, rv b1_1_0, iv (6 : Int32), iv (1 : Int32), rv w_MessageType_SUBMISSION] [(.int (1 : Int32))])) _
    refine XS.iloadN X5.here hx rfl (hb hby d1_12) rfl ?_
    show Steps p.tables e below (T5.setTop (mkF m 13 #[own_jv qk, .second, rv b1_1_0, iv (6 : Int32), iv (1 : Int32), rv w_MessageType_SUBMISSION] [(.int (6 : Int32)), (.int (1 : Int32))])) _
    refine XS.icmpNo X5.here hx rfl (hb hby d1_13) rfl (tlt (by decide +kernel : (1 : Int32) < (6 : Int32))).2.1 ?_
    show Steps p.tables e below (T5.setTop (mkF m 16 #[own_jv qk, .second, rv b1_1_0, iv (6 : Int32), iv (1 : Int32), rv w_MessageType_SUBMISSION] [])) _
    refine XS.aloadN X5.here hx rfl (hb hby d1_16) rfl rfl ?_
    show Steps p.tables e below (T5.setTop (mkF m 17 #[own_jv qk, .second, rv b1_1_0, iv (6 : Int32), iv (1 : Int32), rv w_MessageType_SUBMISSION] [(.ref b1_1_0)])) _
    refine XS.iload X5.here hx rfl (hb hby d1_17) rfl ?_
    show Steps p.tables e below (T5.setTop (mkF m 19 #[own_jv qk, .second, rv b1_1_0, iv (6 : Int32), iv (1 : Int32), rv w_MessageType_SUBMISSION] [(.int (1 : Int32)), (.ref b1_1_0)])) _
    refine X5.aaload hx (j := (1 : Int32)) (v := (.ref w_MessageType_PARTIAL_CANCEL)) (by rw [e5]; exact Ar6.1) (State.isArrayOf_alike hZ.alike Ar6.2.1) rfl Ar6.2.2 hin6 (Hs6.at hin6 rfl) (g := (mkF m 19 #[own_jv qk, .second, rv b1_1_0, iv (6 : Int32), iv (1 : Int32), rv w_MessageType_SUBMISSION] [(.int (1 : Int32)), (.ref b1_1_0)])) rfl rfl (hb hby d1_19) _ ?_
    show Steps p.tables e below (T5.setTop (mkF m 20 #[own_jv qk, .second, rv b1_1_0, iv (6 : Int32), iv (1 : Int32), rv w_MessageType_SUBMISSION] [(.ref w_MessageType_PARTIAL_CANCEL)])) _
    refine XS.astore X5.here hx rfl (hb hby d1_20) rfl rfl (l' := #[own_jv qk, .second, rv b1_1_0, iv (6 : Int32), iv (1 : Int32), rv w_MessageType_PARTIAL_CANCEL]) rfl ?_
    show Steps p.tables e below (T5.setTop (mkF m 22 #[own_jv qk, .second, rv b1_1_0, iv (6 : Int32), iv (1 : Int32), rv w_MessageType_PARTIAL_CANCEL] [])) _
    refine XS.aload X5.here hx rfl (hb hby d1_22) rfl rfl ?_
    show Steps p.tables e below (T5.setTop (mkF m 24 #[own_jv qk, .second, rv b1_1_0, iv (6 : Int32), iv (1 : Int32), rv w_MessageType_PARTIAL_CANCEL] [(.ref w_MessageType_PARTIAL_CANCEL)])) _
    refine st8 _ ?_
    show Steps p.tables e below (T8.setTop (mkF m 27 #[own_jv qk, .second, rv b1_1_0, iv (6 : Int32), iv (1 : Int32), rv w_MessageType_PARTIAL_CANCEL] [(.int (2 : Int32))])) _
    refine XS.i2l X8.here hx rfl (hb hby d1_27) rfl ?_
    show Steps p.tables e below (T8.setTop (mkF m 28 #[own_jv qk, .second, rv b1_1_0, iv (6 : Int32), iv (1 : Int32), rv w_MessageType_PARTIAL_CANCEL] [(.long ((2 : Int32).toInt64))])) _
    rewrite [show ((2 : Int32).toInt64) = (2 : Int64) from by decide +kernel]
    show Steps p.tables e below (T8.setTop (mkF m 28 #[own_jv qk, .second, rv b1_1_0, iv (6 : Int32), iv (1 : Int32), rv w_MessageType_PARTIAL_CANCEL] [(.long (2 : Int64))])) _
    refine XS.lloadN X8.here hx rfl (hb hby d1_28) rfl ?_
    show Steps p.tables e below (T8.setTop (mkF m 29 #[own_jv qk, .second, rv b1_1_0, iv (6 : Int32), iv (1 : Int32), rv w_MessageType_PARTIAL_CANCEL] [(.long qk), (.long (2 : Int64))])) _
    refine XS.lcmp X8.here hx rfl (hb hby d1_29) rfl ?_
    show Steps p.tables e below (T8.setTop (mkF m 30 #[own_jv qk, .second, rv b1_1_0, iv (6 : Int32), iv (1 : Int32), rv w_MessageType_PARTIAL_CANCEL] [(.int (lcmpW (2 : Int64) qk))])) _
    refine XS.ifYes X8.here hx rfl (pc0 := 30) (pc' := 36) rfl (hb hby d1_30) rfl ((if0 _ _).trans ((if0 _ _).symm.trans (Jvm.Free.XT.ll_ne_t hn2))) (by decide) (by decide) ?_
    show Steps p.tables e below (T8.setTop (mkF m 36 #[own_jv qk, .second, rv b1_1_0, iv (6 : Int32), iv (1 : Int32), rv w_MessageType_PARTIAL_CANCEL] [])) _
    refine XS.iinc X8.here hx rfl (hb hby d1_36) rfl (l' := #[own_jv qk, .second, rv b1_1_0, iv (6 : Int32), iv ((1 : Int32) + (1 : Int32)), rv w_MessageType_PARTIAL_CANCEL]) rfl ?_
    show Steps p.tables e below (T8.setTop (mkF m 39 #[own_jv qk, .second, rv b1_1_0, iv (6 : Int32), iv ((1 : Int32) + (1 : Int32)), rv w_MessageType_PARTIAL_CANCEL] [])) _
    rewrite [show ((1 : Int32) + (1 : Int32)) = (2 : Int32) from by decide +kernel]
    show Steps p.tables e below (T8.setTop (mkF m 39 #[own_jv qk, .second, rv b1_1_0, iv (6 : Int32), iv (2 : Int32), rv w_MessageType_PARTIAL_CANCEL] [])) _
    refine XS.goto X8.here hx rfl (pc0 := 39) (pc' := 10) rfl (hb hby d1_39) (by decide) (by decide) ?_
    show Steps p.tables e below (T8.setTop (mkF m 10 #[own_jv qk, .second, rv b1_1_0, iv (6 : Int32), iv (2 : Int32), rv w_MessageType_PARTIAL_CANCEL] [])) _
    refine XS.iload X8.here hx rfl (hb hby d1_10) rfl ?_
    show Steps p.tables e below (T8.setTop (mkF m 12 #[own_jv qk, .second, rv b1_1_0, iv (6 : Int32), iv (2 : Int32), rv w_MessageType_PARTIAL_CANCEL] [(.int (2 : Int32))])) _
    refine XS.iloadN X8.here hx rfl (hb hby d1_12) rfl ?_
    show Steps p.tables e below (T8.setTop (mkF m 13 #[own_jv qk, .second, rv b1_1_0, iv (6 : Int32), iv (2 : Int32), rv w_MessageType_PARTIAL_CANCEL] [(.int (6 : Int32)), (.int (2 : Int32))])) _
    refine XS.icmpNo X8.here hx rfl (hb hby d1_13) rfl (tlt (by decide +kernel : (2 : Int32) < (6 : Int32))).2.1 ?_
    show Steps p.tables e below (T8.setTop (mkF m 16 #[own_jv qk, .second, rv b1_1_0, iv (6 : Int32), iv (2 : Int32), rv w_MessageType_PARTIAL_CANCEL] [])) _
    refine XS.aloadN X8.here hx rfl (hb hby d1_16) rfl rfl ?_
    show Steps p.tables e below (T8.setTop (mkF m 17 #[own_jv qk, .second, rv b1_1_0, iv (6 : Int32), iv (2 : Int32), rv w_MessageType_PARTIAL_CANCEL] [(.ref b1_1_0)])) _
    refine XS.iload X8.here hx rfl (hb hby d1_17) rfl ?_
    show Steps p.tables e below (T8.setTop (mkF m 19 #[own_jv qk, .second, rv b1_1_0, iv (6 : Int32), iv (2 : Int32), rv w_MessageType_PARTIAL_CANCEL] [(.int (2 : Int32)), (.ref b1_1_0)])) _
    refine X8.aaload hx (j := (2 : Int32)) (v := (.ref w_MessageType_DELETION)) (by rw [e8]; exact Ar9.1) (State.isArrayOf_alike hZ.alike Ar9.2.1) rfl Ar9.2.2 hin9 (Hs9.at hin9 rfl) (g := (mkF m 19 #[own_jv qk, .second, rv b1_1_0, iv (6 : Int32), iv (2 : Int32), rv w_MessageType_PARTIAL_CANCEL] [(.int (2 : Int32)), (.ref b1_1_0)])) rfl rfl (hb hby d1_19) _ ?_
    show Steps p.tables e below (T8.setTop (mkF m 20 #[own_jv qk, .second, rv b1_1_0, iv (6 : Int32), iv (2 : Int32), rv w_MessageType_PARTIAL_CANCEL] [(.ref w_MessageType_DELETION)])) _
    refine XS.astore X8.here hx rfl (hb hby d1_20) rfl rfl (l' := #[own_jv qk, .second, rv b1_1_0, iv (6 : Int32), iv (2 : Int32), rv w_MessageType_DELETION]) rfl ?_
    show Steps p.tables e below (T8.setTop (mkF m 22 #[own_jv qk, .second, rv b1_1_0, iv (6 : Int32), iv (2 : Int32), rv w_MessageType_DELETION] [])) _
    refine XS.aload X8.here hx rfl (hb hby d1_22) rfl rfl ?_
    show Steps p.tables e below (T8.setTop (mkF m 24 #[own_jv qk, .second, rv b1_1_0, iv (6 : Int32), iv (2 : Int32), rv w_MessageType_DELETION] [(.ref w_MessageType_DELETION)])) _
    refine st11 _ ?_
    show Steps p.tables e below (T11.setTop (mkF m 27 #[own_jv qk, .second, rv b1_1_0, iv (6 : Int32), iv (2 : Int32), rv w_MessageType_DELETION] [(.int (3 : Int32))])) _
    refine XS.i2l X11.here hx rfl (hb hby d1_27) rfl ?_
    show Steps p.tables e below (T11.setTop (mkF m 28 #[own_jv qk, .second, rv b1_1_0, iv (6 : Int32), iv (2 : Int32), rv w_MessageType_DELETION] [(.long ((3 : Int32).toInt64))])) _
    rewrite [show ((3 : Int32).toInt64) = (3 : Int64) from by decide +kernel]
    show Steps p.tables e below (T11.setTop (mkF m 28 #[own_jv qk, .second, rv b1_1_0, iv (6 : Int32), iv (2 : Int32), rv w_MessageType_DELETION] [(.long (3 : Int64))])) _
    refine XS.lloadN X11.here hx rfl (hb hby d1_28) rfl ?_
    show Steps p.tables e below (T11.setTop (mkF m 29 #[own_jv qk, .second, rv b1_1_0, iv (6 : Int32), iv (2 : Int32), rv w_MessageType_DELETION] [(.long qk), (.long (3 : Int64))])) _
    refine XS.lcmp X11.here hx rfl (hb hby d1_29) rfl ?_
    show Steps p.tables e below (T11.setTop (mkF m 30 #[own_jv qk, .second, rv b1_1_0, iv (6 : Int32), iv (2 : Int32), rv w_MessageType_DELETION] [(.int (lcmpW (3 : Int64) qk))])) _
    refine XS.ifYes X11.here hx rfl (pc0 := 30) (pc' := 36) rfl (hb hby d1_30) rfl ((if0 _ _).trans ((if0 _ _).symm.trans (Jvm.Free.XT.ll_ne_t hn3))) (by decide) (by decide) ?_
    show Steps p.tables e below (T11.setTop (mkF m 36 #[own_jv qk, .second, rv b1_1_0, iv (6 : Int32), iv (2 : Int32), rv w_MessageType_DELETION] [])) _
    refine XS.iinc X11.here hx rfl (hb hby d1_36) rfl (l' := #[own_jv qk, .second, rv b1_1_0, iv (6 : Int32), iv ((2 : Int32) + (1 : Int32)), rv w_MessageType_DELETION]) rfl ?_
    show Steps p.tables e below (T11.setTop (mkF m 39 #[own_jv qk, .second, rv b1_1_0, iv (6 : Int32), iv ((2 : Int32) + (1 : Int32)), rv w_MessageType_DELETION] [])) _
    rewrite [show ((2 : Int32) + (1 : Int32)) = (3 : Int32) from by decide +kernel]
    show Steps p.tables e below (T11.setTop (mkF m 39 #[own_jv qk, .second, rv b1_1_0, iv (6 : Int32), iv (3 : Int32), rv w_MessageType_DELETION] [])) _
    refine XS.goto X11.here hx rfl (pc0 := 39) (pc' := 10) rfl (hb hby d1_39) (by decide) (by decide) ?_
    show Steps p.tables e below (T11.setTop (mkF m 10 #[own_jv qk, .second, rv b1_1_0, iv (6 : Int32), iv (3 : Int32), rv w_MessageType_DELETION] [])) _
    refine XS.iload X11.here hx rfl (hb hby d1_10) rfl ?_
    show Steps p.tables e below (T11.setTop (mkF m 12 #[own_jv qk, .second, rv b1_1_0, iv (6 : Int32), iv (3 : Int32), rv w_MessageType_DELETION] [(.int (3 : Int32))])) _
    refine XS.iloadN X11.here hx rfl (hb hby d1_12) rfl ?_
    show Steps p.tables e below (T11.setTop (mkF m 13 #[own_jv qk, .second, rv b1_1_0, iv (6 : Int32), iv (3 : Int32), rv w_MessageType_DELETION] [(.int (6 : Int32)), (.int (3 : Int32))])) _
    refine XS.icmpNo X11.here hx rfl (hb hby d1_13) rfl (tlt (by decide +kernel : (3 : Int32) < (6 : Int32))).2.1 ?_
    show Steps p.tables e below (T11.setTop (mkF m 16 #[own_jv qk, .second, rv b1_1_0, iv (6 : Int32), iv (3 : Int32), rv w_MessageType_DELETION] [])) _
    refine XS.aloadN X11.here hx rfl (hb hby d1_16) rfl rfl ?_
    show Steps p.tables e below (T11.setTop (mkF m 17 #[own_jv qk, .second, rv b1_1_0, iv (6 : Int32), iv (3 : Int32), rv w_MessageType_DELETION] [(.ref b1_1_0)])) _
    refine XS.iload X11.here hx rfl (hb hby d1_17) rfl ?_
    show Steps p.tables e below (T11.setTop (mkF m 19 #[own_jv qk, .second, rv b1_1_0, iv (6 : Int32), iv (3 : Int32), rv w_MessageType_DELETION] [(.int (3 : Int32)), (.ref b1_1_0)])) _
    refine X11.aaload hx (j := (3 : Int32)) (v := (.ref w_MessageType_VISIBLE_EXECUTION)) (by rw [e11]; exact Ar12.1) (State.isArrayOf_alike hZ.alike Ar12.2.1) rfl Ar12.2.2 hin12 (Hs12.at hin12 rfl) (g := (mkF m 19 #[own_jv qk, .second, rv b1_1_0, iv (6 : Int32), iv (3 : Int32), rv w_MessageType_DELETION] [(.int (3 : Int32)), (.ref b1_1_0)])) rfl rfl (hb hby d1_19) _ ?_
    show Steps p.tables e below (T11.setTop (mkF m 20 #[own_jv qk, .second, rv b1_1_0, iv (6 : Int32), iv (3 : Int32), rv w_MessageType_DELETION] [(.ref w_MessageType_VISIBLE_EXECUTION)])) _
    refine XS.astore X11.here hx rfl (hb hby d1_20) rfl rfl (l' := #[own_jv qk, .second, rv b1_1_0, iv (6 : Int32), iv (3 : Int32), rv w_MessageType_VISIBLE_EXECUTION]) rfl ?_
    show Steps p.tables e below (T11.setTop (mkF m 22 #[own_jv qk, .second, rv b1_1_0, iv (6 : Int32), iv (3 : Int32), rv w_MessageType_VISIBLE_EXECUTION] [])) _
    refine XS.aload X11.here hx rfl (hb hby d1_22) rfl rfl ?_
    show Steps p.tables e below (T11.setTop (mkF m 24 #[own_jv qk, .second, rv b1_1_0, iv (6 : Int32), iv (3 : Int32), rv w_MessageType_VISIBLE_EXECUTION] [(.ref w_MessageType_VISIBLE_EXECUTION)])) _
    refine st14 _ ?_
    show Steps p.tables e below (T14.setTop (mkF m 27 #[own_jv qk, .second, rv b1_1_0, iv (6 : Int32), iv (3 : Int32), rv w_MessageType_VISIBLE_EXECUTION] [(.int (4 : Int32))])) _
    refine XS.i2l X14.here hx rfl (hb hby d1_27) rfl ?_
    show Steps p.tables e below (T14.setTop (mkF m 28 #[own_jv qk, .second, rv b1_1_0, iv (6 : Int32), iv (3 : Int32), rv w_MessageType_VISIBLE_EXECUTION] [(.long ((4 : Int32).toInt64))])) _
    rewrite [show ((4 : Int32).toInt64) = (4 : Int64) from by decide +kernel]
    show Steps p.tables e below (T14.setTop (mkF m 28 #[own_jv qk, .second, rv b1_1_0, iv (6 : Int32), iv (3 : Int32), rv w_MessageType_VISIBLE_EXECUTION] [(.long (4 : Int64))])) _
    refine XS.lloadN X14.here hx rfl (hb hby d1_28) rfl ?_
    show Steps p.tables e below (T14.setTop (mkF m 29 #[own_jv qk, .second, rv b1_1_0, iv (6 : Int32), iv (3 : Int32), rv w_MessageType_VISIBLE_EXECUTION] [(.long qk), (.long (4 : Int64))])) _
    refine XS.lcmp X14.here hx rfl (hb hby d1_29) rfl ?_
    show Steps p.tables e below (T14.setTop (mkF m 30 #[own_jv qk, .second, rv b1_1_0, iv (6 : Int32), iv (3 : Int32), rv w_MessageType_VISIBLE_EXECUTION] [(.int (lcmpW (4 : Int64) qk))])) _
    refine XS.ifYes X14.here hx rfl (pc0 := 30) (pc' := 36) rfl (hb hby d1_30) rfl ((if0 _ _).trans ((if0 _ _).symm.trans (Jvm.Free.XT.ll_ne_t hn4))) (by decide) (by decide) ?_
    show Steps p.tables e below (T14.setTop (mkF m 36 #[own_jv qk, .second, rv b1_1_0, iv (6 : Int32), iv (3 : Int32), rv w_MessageType_VISIBLE_EXECUTION] [])) _
    refine XS.iinc X14.here hx rfl (hb hby d1_36) rfl (l' := #[own_jv qk, .second, rv b1_1_0, iv (6 : Int32), iv ((3 : Int32) + (1 : Int32)), rv w_MessageType_VISIBLE_EXECUTION]) rfl ?_
    show Steps p.tables e below (T14.setTop (mkF m 39 #[own_jv qk, .second, rv b1_1_0, iv (6 : Int32), iv ((3 : Int32) + (1 : Int32)), rv w_MessageType_VISIBLE_EXECUTION] [])) _
    rewrite [show ((3 : Int32) + (1 : Int32)) = (4 : Int32) from by decide +kernel]
    show Steps p.tables e below (T14.setTop (mkF m 39 #[own_jv qk, .second, rv b1_1_0, iv (6 : Int32), iv (4 : Int32), rv w_MessageType_VISIBLE_EXECUTION] [])) _
    refine XS.goto X14.here hx rfl (pc0 := 39) (pc' := 10) rfl (hb hby d1_39) (by decide) (by decide) ?_
    show Steps p.tables e below (T14.setTop (mkF m 10 #[own_jv qk, .second, rv b1_1_0, iv (6 : Int32), iv (4 : Int32), rv w_MessageType_VISIBLE_EXECUTION] [])) _
    refine XS.iload X14.here hx rfl (hb hby d1_10) rfl ?_
    show Steps p.tables e below (T14.setTop (mkF m 12 #[own_jv qk, .second, rv b1_1_0, iv (6 : Int32), iv (4 : Int32), rv w_MessageType_VISIBLE_EXECUTION] [(.int (4 : Int32))])) _
    refine XS.iloadN X14.here hx rfl (hb hby d1_12) rfl ?_
    show Steps p.tables e below (T14.setTop (mkF m 13 #[own_jv qk, .second, rv b1_1_0, iv (6 : Int32), iv (4 : Int32), rv w_MessageType_VISIBLE_EXECUTION] [(.int (6 : Int32)), (.int (4 : Int32))])) _
    refine XS.icmpNo X14.here hx rfl (hb hby d1_13) rfl (tlt (by decide +kernel : (4 : Int32) < (6 : Int32))).2.1 ?_
    show Steps p.tables e below (T14.setTop (mkF m 16 #[own_jv qk, .second, rv b1_1_0, iv (6 : Int32), iv (4 : Int32), rv w_MessageType_VISIBLE_EXECUTION] [])) _
    refine XS.aloadN X14.here hx rfl (hb hby d1_16) rfl rfl ?_
    show Steps p.tables e below (T14.setTop (mkF m 17 #[own_jv qk, .second, rv b1_1_0, iv (6 : Int32), iv (4 : Int32), rv w_MessageType_VISIBLE_EXECUTION] [(.ref b1_1_0)])) _
    refine XS.iload X14.here hx rfl (hb hby d1_17) rfl ?_
    show Steps p.tables e below (T14.setTop (mkF m 19 #[own_jv qk, .second, rv b1_1_0, iv (6 : Int32), iv (4 : Int32), rv w_MessageType_VISIBLE_EXECUTION] [(.int (4 : Int32)), (.ref b1_1_0)])) _
    refine X14.aaload hx (j := (4 : Int32)) (v := (.ref w_MessageType_HIDDEN_EXECUTION)) (by rw [e14]; exact Ar15.1) (State.isArrayOf_alike hZ.alike Ar15.2.1) rfl Ar15.2.2 hin15 (Hs15.at hin15 rfl) (g := (mkF m 19 #[own_jv qk, .second, rv b1_1_0, iv (6 : Int32), iv (4 : Int32), rv w_MessageType_VISIBLE_EXECUTION] [(.int (4 : Int32)), (.ref b1_1_0)])) rfl rfl (hb hby d1_19) _ ?_
    show Steps p.tables e below (T14.setTop (mkF m 20 #[own_jv qk, .second, rv b1_1_0, iv (6 : Int32), iv (4 : Int32), rv w_MessageType_VISIBLE_EXECUTION] [(.ref w_MessageType_HIDDEN_EXECUTION)])) _
    refine XS.astore X14.here hx rfl (hb hby d1_20) rfl rfl (l' := #[own_jv qk, .second, rv b1_1_0, iv (6 : Int32), iv (4 : Int32), rv w_MessageType_HIDDEN_EXECUTION]) rfl ?_
    show Steps p.tables e below (T14.setTop (mkF m 22 #[own_jv qk, .second, rv b1_1_0, iv (6 : Int32), iv (4 : Int32), rv w_MessageType_HIDDEN_EXECUTION] [])) _
    refine XS.aload X14.here hx rfl (hb hby d1_22) rfl rfl ?_
    show Steps p.tables e below (T14.setTop (mkF m 24 #[own_jv qk, .second, rv b1_1_0, iv (6 : Int32), iv (4 : Int32), rv w_MessageType_HIDDEN_EXECUTION] [(.ref w_MessageType_HIDDEN_EXECUTION)])) _
    refine st17 _ ?_
    show Steps p.tables e below (T17.setTop (mkF m 27 #[own_jv qk, .second, rv b1_1_0, iv (6 : Int32), iv (4 : Int32), rv w_MessageType_HIDDEN_EXECUTION] [(.int (5 : Int32))])) _
    refine XS.i2l X17.here hx rfl (hb hby d1_27) rfl ?_
    show Steps p.tables e below (T17.setTop (mkF m 28 #[own_jv qk, .second, rv b1_1_0, iv (6 : Int32), iv (4 : Int32), rv w_MessageType_HIDDEN_EXECUTION] [(.long ((5 : Int32).toInt64))])) _
    rewrite [show ((5 : Int32).toInt64) = (5 : Int64) from by decide +kernel]
    show Steps p.tables e below (T17.setTop (mkF m 28 #[own_jv qk, .second, rv b1_1_0, iv (6 : Int32), iv (4 : Int32), rv w_MessageType_HIDDEN_EXECUTION] [(.long (5 : Int64))])) _
    refine XS.lloadN X17.here hx rfl (hb hby d1_28) rfl ?_
    show Steps p.tables e below (T17.setTop (mkF m 29 #[own_jv qk, .second, rv b1_1_0, iv (6 : Int32), iv (4 : Int32), rv w_MessageType_HIDDEN_EXECUTION] [(.long qk), (.long (5 : Int64))])) _
    refine XS.lcmp X17.here hx rfl (hb hby d1_29) rfl ?_
    show Steps p.tables e below (T17.setTop (mkF m 30 #[own_jv qk, .second, rv b1_1_0, iv (6 : Int32), iv (4 : Int32), rv w_MessageType_HIDDEN_EXECUTION] [(.int (lcmpW (5 : Int64) qk))])) _
    refine XS.ifYes X17.here hx rfl (pc0 := 30) (pc' := 36) rfl (hb hby d1_30) rfl ((if0 _ _).trans ((if0 _ _).symm.trans (Jvm.Free.XT.ll_ne_t hn5))) (by decide) (by decide) ?_
    show Steps p.tables e below (T17.setTop (mkF m 36 #[own_jv qk, .second, rv b1_1_0, iv (6 : Int32), iv (4 : Int32), rv w_MessageType_HIDDEN_EXECUTION] [])) _
    refine XS.iinc X17.here hx rfl (hb hby d1_36) rfl (l' := #[own_jv qk, .second, rv b1_1_0, iv (6 : Int32), iv ((4 : Int32) + (1 : Int32)), rv w_MessageType_HIDDEN_EXECUTION]) rfl ?_
    show Steps p.tables e below (T17.setTop (mkF m 39 #[own_jv qk, .second, rv b1_1_0, iv (6 : Int32), iv ((4 : Int32) + (1 : Int32)), rv w_MessageType_HIDDEN_EXECUTION] [])) _
    rewrite [show ((4 : Int32) + (1 : Int32)) = (5 : Int32) from by decide +kernel]
    show Steps p.tables e below (T17.setTop (mkF m 39 #[own_jv qk, .second, rv b1_1_0, iv (6 : Int32), iv (5 : Int32), rv w_MessageType_HIDDEN_EXECUTION] [])) _
    refine XS.goto X17.here hx rfl (pc0 := 39) (pc' := 10) rfl (hb hby d1_39) (by decide) (by decide) ?_
    show Steps p.tables e below (T17.setTop (mkF m 10 #[own_jv qk, .second, rv b1_1_0, iv (6 : Int32), iv (5 : Int32), rv w_MessageType_HIDDEN_EXECUTION] [])) _
    refine XS.iload X17.here hx rfl (hb hby d1_10) rfl ?_
    show Steps p.tables e below (T17.setTop (mkF m 12 #[own_jv qk, .second, rv b1_1_0, iv (6 : Int32), iv (5 : Int32), rv w_MessageType_HIDDEN_EXECUTION] [(.int (5 : Int32))])) _
    refine XS.iloadN X17.here hx rfl (hb hby d1_12) rfl ?_
    show Steps p.tables e below (T17.setTop (mkF m 13 #[own_jv qk, .second, rv b1_1_0, iv (6 : Int32), iv (5 : Int32), rv w_MessageType_HIDDEN_EXECUTION] [(.int (6 : Int32)), (.int (5 : Int32))])) _
    refine XS.icmpNo X17.here hx rfl (hb hby d1_13) rfl (tlt (by decide +kernel : (5 : Int32) < (6 : Int32))).2.1 ?_
    show Steps p.tables e below (T17.setTop (mkF m 16 #[own_jv qk, .second, rv b1_1_0, iv (6 : Int32), iv (5 : Int32), rv w_MessageType_HIDDEN_EXECUTION] [])) _
    refine XS.aloadN X17.here hx rfl (hb hby d1_16) rfl rfl ?_
    show Steps p.tables e below (T17.setTop (mkF m 17 #[own_jv qk, .second, rv b1_1_0, iv (6 : Int32), iv (5 : Int32), rv w_MessageType_HIDDEN_EXECUTION] [(.ref b1_1_0)])) _
    refine XS.iload X17.here hx rfl (hb hby d1_17) rfl ?_
    show Steps p.tables e below (T17.setTop (mkF m 19 #[own_jv qk, .second, rv b1_1_0, iv (6 : Int32), iv (5 : Int32), rv w_MessageType_HIDDEN_EXECUTION] [(.int (5 : Int32)), (.ref b1_1_0)])) _
    refine X17.aaload hx (j := (5 : Int32)) (v := (.ref w_MessageType_HALT)) (by rw [e17]; exact Ar18.1) (State.isArrayOf_alike hZ.alike Ar18.2.1) rfl Ar18.2.2 hin18 (Hs18.at hin18 rfl) (g := (mkF m 19 #[own_jv qk, .second, rv b1_1_0, iv (6 : Int32), iv (5 : Int32), rv w_MessageType_HIDDEN_EXECUTION] [(.int (5 : Int32)), (.ref b1_1_0)])) rfl rfl (hb hby d1_19) _ ?_
    show Steps p.tables e below (T17.setTop (mkF m 20 #[own_jv qk, .second, rv b1_1_0, iv (6 : Int32), iv (5 : Int32), rv w_MessageType_HIDDEN_EXECUTION] [(.ref w_MessageType_HALT)])) _
    refine XS.astore X17.here hx rfl (hb hby d1_20) rfl rfl (l' := #[own_jv qk, .second, rv b1_1_0, iv (6 : Int32), iv (5 : Int32), rv w_MessageType_HALT]) rfl ?_
    show Steps p.tables e below (T17.setTop (mkF m 22 #[own_jv qk, .second, rv b1_1_0, iv (6 : Int32), iv (5 : Int32), rv w_MessageType_HALT] [])) _
    refine XS.aload X17.here hx rfl (hb hby d1_22) rfl rfl ?_
    show Steps p.tables e below (T17.setTop (mkF m 24 #[own_jv qk, .second, rv b1_1_0, iv (6 : Int32), iv (5 : Int32), rv w_MessageType_HALT] [(.ref w_MessageType_HALT)])) _
    refine st20 _ ?_
    show Steps p.tables e below (T20.setTop (mkF m 27 #[own_jv qk, .second, rv b1_1_0, iv (6 : Int32), iv (5 : Int32), rv w_MessageType_HALT] [(.int (7 : Int32))])) _
    refine XS.i2l X20.here hx rfl (hb hby d1_27) rfl ?_
    show Steps p.tables e below (T20.setTop (mkF m 28 #[own_jv qk, .second, rv b1_1_0, iv (6 : Int32), iv (5 : Int32), rv w_MessageType_HALT] [(.long ((7 : Int32).toInt64))])) _
    rewrite [show ((7 : Int32).toInt64) = (7 : Int64) from by decide +kernel]
    show Steps p.tables e below (T20.setTop (mkF m 28 #[own_jv qk, .second, rv b1_1_0, iv (6 : Int32), iv (5 : Int32), rv w_MessageType_HALT] [(.long (7 : Int64))])) _
    refine XS.lloadN X20.here hx rfl (hb hby d1_28) rfl ?_
    show Steps p.tables e below (T20.setTop (mkF m 29 #[own_jv qk, .second, rv b1_1_0, iv (6 : Int32), iv (5 : Int32), rv w_MessageType_HALT] [(.long qk), (.long (7 : Int64))])) _
    refine XS.lcmp X20.here hx rfl (hb hby d1_29) rfl ?_
    show Steps p.tables e below (T20.setTop (mkF m 30 #[own_jv qk, .second, rv b1_1_0, iv (6 : Int32), iv (5 : Int32), rv w_MessageType_HALT] [(.int (lcmpW (7 : Int64) qk))])) _
    refine XS.ifYes X20.here hx rfl (pc0 := 30) (pc' := 36) rfl (hb hby d1_30) rfl ((if0 _ _).trans ((if0 _ _).symm.trans (Jvm.Free.XT.ll_ne_t hn7))) (by decide) (by decide) ?_
    show Steps p.tables e below (T20.setTop (mkF m 36 #[own_jv qk, .second, rv b1_1_0, iv (6 : Int32), iv (5 : Int32), rv w_MessageType_HALT] [])) _
    refine XS.iinc X20.here hx rfl (hb hby d1_36) rfl (l' := #[own_jv qk, .second, rv b1_1_0, iv (6 : Int32), iv ((5 : Int32) + (1 : Int32)), rv w_MessageType_HALT]) rfl ?_
    show Steps p.tables e below (T20.setTop (mkF m 39 #[own_jv qk, .second, rv b1_1_0, iv (6 : Int32), iv ((5 : Int32) + (1 : Int32)), rv w_MessageType_HALT] [])) _
    rewrite [show ((5 : Int32) + (1 : Int32)) = (6 : Int32) from by decide +kernel]
    show Steps p.tables e below (T20.setTop (mkF m 39 #[own_jv qk, .second, rv b1_1_0, iv (6 : Int32), iv (6 : Int32), rv w_MessageType_HALT] [])) _
    refine XS.goto X20.here hx rfl (pc0 := 39) (pc' := 10) rfl (hb hby d1_39) (by decide) (by decide) ?_
    show Steps p.tables e below (T20.setTop (mkF m 10 #[own_jv qk, .second, rv b1_1_0, iv (6 : Int32), iv (6 : Int32), rv w_MessageType_HALT] [])) _
    refine XS.iload X20.here hx rfl (hb hby d1_10) rfl ?_
    show Steps p.tables e below (T20.setTop (mkF m 12 #[own_jv qk, .second, rv b1_1_0, iv (6 : Int32), iv (6 : Int32), rv w_MessageType_HALT] [(.int (6 : Int32))])) _
    refine XS.iloadN X20.here hx rfl (hb hby d1_12) rfl ?_
    show Steps p.tables e below (T20.setTop (mkF m 13 #[own_jv qk, .second, rv b1_1_0, iv (6 : Int32), iv (6 : Int32), rv w_MessageType_HALT] [(.int (6 : Int32)), (.int (6 : Int32))])) _
    refine XS.icmpYes X20.here hx rfl (pc0 := 13) (pc' := 42) rfl (hb hby d1_13) rfl (flt (by decide +kernel : ¬ ((6 : Int32) < (6 : Int32)))).2.1 (by decide) (by decide) ?_
    show Steps p.tables e below (T20.setTop (mkF m 42 #[own_jv qk, .second, rv b1_1_0, iv (6 : Int32), iv (6 : Int32), rv w_MessageType_HALT] [])) _
    refine XS.aconstNull X20.here hx rfl (hb hby d1_42) ?_
    show Steps p.tables e below (T20.setTop (mkF m 43 #[own_jv qk, .second, rv b1_1_0, iv (6 : Int32), iv (6 : Int32), rv w_MessageType_HALT] [.null])) _
    exact own_retA X20 hx Bd.returns rfl rfl (hb hby d1_43) hr
  · exact (by show Q_rk_of_6 Z  h0 n0 _ T20.heap _; rw [e20]; exact ⟨rfl, N1, KK1⟩)
set_option maxRecDepth 65536 in
set_option maxHeartbeats 40000000 in
theorem rk_of (l : Launch) (Z : State) (a0 : Array Value) (hw : ∀ d ∈ tables_1, d.before a0 Z = true) (ws : List Jvm.Cond) (w_MessageType__VALUES : Addr) (w_MessageType_SUBMISSION : Addr) (w_MessageType_PARTIAL_CANCEL : Addr) (w_MessageType_DELETION : Addr) (w_MessageType_VISIBLE_EXECUTION : Addr) (w_MessageType_HIDDEN_EXECUTION : Addr) (w_MessageType_HALT : Addr) (k_w_MessageType__VALUES : ClassId) (qk : Int64) (h0 : Heap) (n0 : Nat) (Z0 : n0 ≤ h0.size) (S_MessageType__VALUES : Sta Z h0 "com/example/strikebook/strikebook/cli/MessageType" "$VALUES" "[Lcom/example/strikebook/strikebook/cli/MessageType;" (.ref w_MessageType__VALUES)) (V_w_MessageType__VALUES : Arv Z h0 w_MessageType__VALUES k_w_MessageType__VALUES (.object "com/example/strikebook/strikebook/cli/MessageType") (6 : Int32) [(.ref w_MessageType_SUBMISSION), (.ref w_MessageType_PARTIAL_CANCEL), (.ref w_MessageType_DELETION), (.ref w_MessageType_VISIBLE_EXECUTION), (.ref w_MessageType_HIDDEN_EXECUTION), (.ref w_MessageType_HALT)] .null) (E_w_MessageType__VALUES : Exa Z h0 w_MessageType__VALUES "[Lcom/example/strikebook/strikebook/cli/MessageType;") (F_w_MessageType_SUBMISSION_code : Fld Z h0 w_MessageType_SUBMISSION "com/example/strikebook/strikebook/cli/MessageType" "code" "I" (.int (1 : Int32))) (F_w_MessageType_PARTIAL_CANCEL_code : Fld Z h0 w_MessageType_PARTIAL_CANCEL "com/example/strikebook/strikebook/cli/MessageType" "code" "I" (.int (2 : Int32))) (F_w_MessageType_DELETION_code : Fld Z h0 w_MessageType_DELETION "com/example/strikebook/strikebook/cli/MessageType" "code" "I" (.int (3 : Int32))) (F_w_MessageType_VISIBLE_EXECUTION_code : Fld Z h0 w_MessageType_VISIBLE_EXECUTION "com/example/strikebook/strikebook/cli/MessageType" "code" "I" (.int (4 : Int32))) (F_w_MessageType_HIDDEN_EXECUTION_code : Fld Z h0 w_MessageType_HIDDEN_EXECUTION "com/example/strikebook/strikebook/cli/MessageType" "code" "I" (.int (5 : Int32))) (F_w_MessageType_HALT_code : Fld Z h0 w_MessageType_HALT "com/example/strikebook/strikebook/cli/MessageType" "code" "I" (.int (7 : Int32))) :
    MetFree l (⟨"com/example/strikebook/strikebook/cli/MessageType", "of", "(J)Lcom/example/strikebook/strikebook/cli/MessageType;"⟩ : MethodName) (head1 (Jvm.Cond.code (⟨"com/example/strikebook/strikebook/cli/MessageType", "of", "(J)Lcom/example/strikebook/strikebook/cli/MessageType;"⟩ : MethodName) prog_10_method_5_code 6 (some (.object "com/example/strikebook/strikebook/cli/MessageType")) :: ws) ({ frames := 2, cells := 1, slots := 6, locals := 25 } : Room)) (fun a U => a = #[(.long qk)] ∧ Z.Warmed39 U.vm ∧ U.heap = h0) (fun _ _ _ _ _ => True) (fun _ U o U' => ∃ v L, o = .returned v ∧ own_QV (own_of qk w_MessageType_SUBMISSION w_MessageType_PARTIAL_CANCEL w_MessageType_DELETION w_MessageType_VISIBLE_EXECUTION w_MessageType_HIDDEN_EXECUTION w_MessageType_HALT) h0 n0 v U'.heap L ∧ FrameEnd U o U' L ({ frames := 2, cells := 1, slots := 6, locals := 25 } : Room).cells ({ frames := 2, cells := 1, slots := 6, locals := 25 } : Room).slots) := by
  rcases own_sq qk with rfl | rfl | rfl | rfl | rfl | rfl | ⟨hn1, hn2, hn3, hn4, hn5, hn7, hm1, hm2, hm3, hm4, hm5, hm7⟩
  · exact own_imp (rk_of_0 l Z a0 hw ws w_MessageType__VALUES w_MessageType_SUBMISSION w_MessageType_PARTIAL_CANCEL w_MessageType_DELETION w_MessageType_VISIBLE_EXECUTION w_MessageType_HIDDEN_EXECUTION w_MessageType_HALT k_w_MessageType__VALUES h0 n0 Z0 S_MessageType__VALUES V_w_MessageType__VALUES E_w_MessageType__VALUES F_w_MessageType_SUBMISSION_code) (fun v h L q => by obtain ⟨rfl, N, K⟩ := q; exact ⟨(.ref w_MessageType_SUBMISSION), rfl, (by simp [own_of]), rfl, N, K⟩)
  · exact own_imp (rk_of_1 l Z a0 hw ws w_MessageType__VALUES w_MessageType_SUBMISSION w_MessageType_PARTIAL_CANCEL w_MessageType_DELETION w_MessageType_VISIBLE_EXECUTION w_MessageType_HIDDEN_EXECUTION w_MessageType_HALT k_w_MessageType__VALUES h0 n0 Z0 S_MessageType__VALUES V_w_MessageType__VALUES E_w_MessageType__VALUES F_w_MessageType_SUBMISSION_code F_w_MessageType_PARTIAL_CANCEL_code) (fun v h L q => by obtain ⟨rfl, N, K⟩ := q; exact ⟨(.ref w_MessageType_PARTIAL_CANCEL), rfl, (by simp [own_of]), rfl, N, K⟩)
  · exact own_imp (rk_of_2 l Z a0 hw ws w_MessageType__VALUES w_MessageType_SUBMISSION w_MessageType_PARTIAL_CANCEL w_MessageType_DELETION w_MessageType_VISIBLE_EXECUTION w_MessageType_HIDDEN_EXECUTION w_MessageType_HALT k_w_MessageType__VALUES h0 n0 Z0 S_MessageType__VALUES V_w_MessageType__VALUES E_w_MessageType__VALUES F_w_MessageType_SUBMISSION_code F_w_MessageType_PARTIAL_CANCEL_code F_w_MessageType_DELETION_code) (fun v h L q => by obtain ⟨rfl, N, K⟩ := q; exact ⟨(.ref w_MessageType_DELETION), rfl, (by simp [own_of]), rfl, N, K⟩)
  · exact own_imp (rk_of_3 l Z a0 hw ws w_MessageType__VALUES w_MessageType_SUBMISSION w_MessageType_PARTIAL_CANCEL w_MessageType_DELETION w_MessageType_VISIBLE_EXECUTION w_MessageType_HIDDEN_EXECUTION w_MessageType_HALT k_w_MessageType__VALUES h0 n0 Z0 S_MessageType__VALUES V_w_MessageType__VALUES E_w_MessageType__VALUES F_w_MessageType_SUBMISSION_code F_w_MessageType_PARTIAL_CANCEL_code F_w_MessageType_DELETION_code F_w_MessageType_VISIBLE_EXECUTION_code) (fun v h L q => by obtain ⟨rfl, N, K⟩ := q; exact ⟨(.ref w_MessageType_VISIBLE_EXECUTION), rfl, (by simp [own_of]), rfl, N, K⟩)
  · exact own_imp (rk_of_4 l Z a0 hw ws w_MessageType__VALUES w_MessageType_SUBMISSION w_MessageType_PARTIAL_CANCEL w_MessageType_DELETION w_MessageType_VISIBLE_EXECUTION w_MessageType_HIDDEN_EXECUTION w_MessageType_HALT k_w_MessageType__VALUES h0 n0 Z0 S_MessageType__VALUES V_w_MessageType__VALUES E_w_MessageType__VALUES F_w_MessageType_SUBMISSION_code F_w_MessageType_PARTIAL_CANCEL_code F_w_MessageType_DELETION_code F_w_MessageType_VISIBLE_EXECUTION_code F_w_MessageType_HIDDEN_EXECUTION_code) (fun v h L q => by obtain ⟨rfl, N, K⟩ := q; exact ⟨(.ref w_MessageType_HIDDEN_EXECUTION), rfl, (by simp [own_of]), rfl, N, K⟩)
  · exact own_imp (rk_of_5 l Z a0 hw ws w_MessageType__VALUES w_MessageType_SUBMISSION w_MessageType_PARTIAL_CANCEL w_MessageType_DELETION w_MessageType_VISIBLE_EXECUTION w_MessageType_HIDDEN_EXECUTION w_MessageType_HALT k_w_MessageType__VALUES h0 n0 Z0 S_MessageType__VALUES V_w_MessageType__VALUES E_w_MessageType__VALUES F_w_MessageType_SUBMISSION_code F_w_MessageType_PARTIAL_CANCEL_code F_w_MessageType_DELETION_code F_w_MessageType_VISIBLE_EXECUTION_code F_w_MessageType_HIDDEN_EXECUTION_code F_w_MessageType_HALT_code) (fun v h L q => by obtain ⟨rfl, N, K⟩ := q; exact ⟨(.ref w_MessageType_HALT), rfl, (by simp [own_of]), rfl, N, K⟩)
  · exact own_imp (rk_of_6 l Z a0 hw ws w_MessageType__VALUES w_MessageType_SUBMISSION w_MessageType_PARTIAL_CANCEL w_MessageType_DELETION w_MessageType_VISIBLE_EXECUTION w_MessageType_HIDDEN_EXECUTION w_MessageType_HALT k_w_MessageType__VALUES qk h0 n0 Z0 S_MessageType__VALUES V_w_MessageType__VALUES E_w_MessageType__VALUES F_w_MessageType_SUBMISSION_code hn1 F_w_MessageType_PARTIAL_CANCEL_code hn2 F_w_MessageType_DELETION_code hn3 F_w_MessageType_VISIBLE_EXECUTION_code hn4 F_w_MessageType_HIDDEN_EXECUTION_code hn5 F_w_MessageType_HALT_code hn7) (fun v h L q => by obtain ⟨rfl, N, K⟩ := q; exact ⟨.null, rfl, (by simp [own_of, hm1, hm2, hm3, hm4, hm5, hm7]), rfl, N, K⟩)
set_option maxRecDepth 65536 in
set_option maxHeartbeats 40000000 in
theorem rk_expected_0 (l : Launch) (Z : State) (a0 : Array Value) (hw : ∀ d ∈ tables_1, d.before a0 Z = true) (ws : List Jvm.Cond) (w_MessageType_SUBMISSION : Addr) (h0 : Heap) (n0 : Nat) (Z0 : n0 ≤ h0.size) (S_MessageType_SUBMISSION : Sta Z h0 "com/example/strikebook/strikebook/cli/MessageType" "SUBMISSION" "Lcom/example/strikebook/strikebook/cli/MessageType;" (.ref w_MessageType_SUBMISSION)) :
    MetFree l (⟨"com/example/strikebook/strikebook/cli/MessageTypeOfPinLaw", "expected", "(J)Lcom/example/strikebook/strikebook/cli/MessageType;"⟩ : MethodName) (head1 (Jvm.Cond.code (⟨"com/example/strikebook/strikebook/cli/MessageTypeOfPinLaw", "expected", "(J)Lcom/example/strikebook/strikebook/cli/MessageType;"⟩ : MethodName) method_2_code 2 (some (.object "com/example/strikebook/strikebook/cli/MessageType")) :: ws) ({ frames := 0, cells := 0, slots := 0, locals := 0 } : Room)) (fun a U => a = #[(.long (1 : Int64))] ∧ Z.Warmed39 U.vm ∧ U.heap = h0) (fun _ _ _ _ _ => True) (fun _ U o U' => ∃ v L, o = .returned v ∧ own_QP (some (.ref w_MessageType_SUBMISSION)) h0 n0 v U'.heap L ∧ FrameEnd U o U' L ({ frames := 0, cells := 0, slots := 0, locals := 0 } : Room).cells ({ frames := 0, cells := 0, slots := 0, locals := 0 } : Room).slots) := by
  refine MetFree.of_bodySF (plainFor_of_name pn_1) hisR ?_
  intro p e s m args below meth c s₁ Bd hml0 hP hK
  obtain ⟨rfl, hZ, hh⟩ := hP
  have hx := Bd.exec
  have hby := Bd.bytes
  have hml : c.maxLocals = 2 := hml0
  have hown : s.vm.findClass "com/example/strikebook/strikebook/cli/MessageTypeOfPinLaw" = some m.cls := findClass_of_methodNamed Bd.named
  have hnm := (name_of_methodNamed Bd.named Bd.method).1
  have X0 : Stand p l e ({ frames := 0, cells := 0, slots := 0, locals := 0 } : Room) s m #[(.long (1 : Int64))] below meth c s₁ [] 0 0 := Stand.of_body Bd
  have e0 : s₁.heap = h0 := by rw [← hh, Bd.state]; rfl
  have N0 := Fr.nil n0
  have pre0 : ∀ t, Steps p.tables e below (s₁.setTop (mkF m 0 #[own_jv (1 : Int64), .second] [])) t → Steps p.tables e below (s₁.setTop (entryFrame m #[(.long (1 : Int64))] 2)) t := fun t k => castTop (ef_3_J m (1 : Int64)) k
  obtain ⟨T1, X1, e1, st1⟩ := getS2 X0 hx hZ hown (host := "") (Or.inl (hw _ (List.mem_of_getElem? (i := 41) rfl))) Via.refl e0 S_MessageType_SUBMISSION (g := (mkF m 6 #[own_jv (1 : Int64), .second] [])) rfl (hb hby d3_6)
  obtain ⟨fs, hr, hrun, hended, hW, hsame⟩ := X1.leave (v := (some (.ref w_MessageType_SUBMISSION))) (fun h => by rw [Bd.returns] at h; cases h)
  refine ⟨_, _, pre0 _ ?_, hrun, hended, _, _, rfl, ?_, ⟨_, rfl⟩, hW, hsame.mono (by decide) (by decide)⟩
  · show Steps p.tables e below (s₁.setTop (mkF m 0 #[own_jv (1 : Int64), .second] [])) _
    refine XS.lloadN X0.here hx rfl (hb hby d3_0) rfl ?_
    show Steps p.tables e below (s₁.setTop (mkF m 1 #[own_jv (1 : Int64), .second] [(.long (1 : Int64))])) _
    refine XS.lconst X0.here hx rfl (hb hby d3_1) ?_
    show Steps p.tables e below (s₁.setTop (mkF m 2 #[own_jv (1 : Int64), .second] [(.long (1 : Int64)), (.long (1 : Int64))])) _
    refine XS.lcmp X0.here hx rfl (hb hby d3_2) rfl ?_
    show Steps p.tables e below (s₁.setTop (mkF m 3 #[own_jv (1 : Int64), .second] [(.int (lcmpW (1 : Int64) (1 : Int64)))])) _
    rewrite [show (lcmpW (1 : Int64) (1 : Int64)) = (0 : Int32) from by decide +kernel]
    show Steps p.tables e below (s₁.setTop (mkF m 3 #[own_jv (1 : Int64), .second] [(.int (0 : Int32))])) _
    refine XS.ifNo X0.here hx rfl (hb hby d3_3) rfl ((if0 _ _).trans (teq (by decide +kernel : (0 : Int32) = (0 : Int32))).2) ?_
    show Steps p.tables e below (s₁.setTop (mkF m 6 #[own_jv (1 : Int64), .second] [])) _
    refine st1 _ ?_
    show Steps p.tables e below (T1.setTop (mkF m 9 #[own_jv (1 : Int64), .second] [(.ref w_MessageType_SUBMISSION)])) _
    exact own_retA X1 hx Bd.returns rfl rfl (hb hby d3_9) hr
  · exact ⟨rfl, N0, e1⟩
set_option maxRecDepth 65536 in
set_option maxHeartbeats 40000000 in
theorem rk_expected_1 (l : Launch) (Z : State) (a0 : Array Value) (hw : ∀ d ∈ tables_1, d.before a0 Z = true) (ws : List Jvm.Cond) (w_MessageType_PARTIAL_CANCEL : Addr) (h0 : Heap) (n0 : Nat) (Z0 : n0 ≤ h0.size) (S_MessageType_PARTIAL_CANCEL : Sta Z h0 "com/example/strikebook/strikebook/cli/MessageType" "PARTIAL_CANCEL" "Lcom/example/strikebook/strikebook/cli/MessageType;" (.ref w_MessageType_PARTIAL_CANCEL)) :
    MetFree l (⟨"com/example/strikebook/strikebook/cli/MessageTypeOfPinLaw", "expected", "(J)Lcom/example/strikebook/strikebook/cli/MessageType;"⟩ : MethodName) (head1 (Jvm.Cond.code (⟨"com/example/strikebook/strikebook/cli/MessageTypeOfPinLaw", "expected", "(J)Lcom/example/strikebook/strikebook/cli/MessageType;"⟩ : MethodName) method_2_code 2 (some (.object "com/example/strikebook/strikebook/cli/MessageType")) :: ws) ({ frames := 0, cells := 0, slots := 0, locals := 0 } : Room)) (fun a U => a = #[(.long (2 : Int64))] ∧ Z.Warmed39 U.vm ∧ U.heap = h0) (fun _ _ _ _ _ => True) (fun _ U o U' => ∃ v L, o = .returned v ∧ own_QP (some (.ref w_MessageType_PARTIAL_CANCEL)) h0 n0 v U'.heap L ∧ FrameEnd U o U' L ({ frames := 0, cells := 0, slots := 0, locals := 0 } : Room).cells ({ frames := 0, cells := 0, slots := 0, locals := 0 } : Room).slots) := by
  refine MetFree.of_bodySF (plainFor_of_name pn_1) hisR ?_
  intro p e s m args below meth c s₁ Bd hml0 hP hK
  obtain ⟨rfl, hZ, hh⟩ := hP
  have hx := Bd.exec
  have hby := Bd.bytes
  have hml : c.maxLocals = 2 := hml0
  have hown : s.vm.findClass "com/example/strikebook/strikebook/cli/MessageTypeOfPinLaw" = some m.cls := findClass_of_methodNamed Bd.named
  have hnm := (name_of_methodNamed Bd.named Bd.method).1
  have X0 : Stand p l e ({ frames := 0, cells := 0, slots := 0, locals := 0 } : Room) s m #[(.long (2 : Int64))] below meth c s₁ [] 0 0 := Stand.of_body Bd
  have e0 : s₁.heap = h0 := by rw [← hh, Bd.state]; rfl
  have N0 := Fr.nil n0
  have pre0 : ∀ t, Steps p.tables e below (s₁.setTop (mkF m 0 #[own_jv (2 : Int64), .second] [])) t → Steps p.tables e below (s₁.setTop (entryFrame m #[(.long (2 : Int64))] 2)) t := fun t k => castTop (ef_3_J m (2 : Int64)) k
  obtain ⟨T1, X1, e1, st1⟩ := getS2 X0 hx hZ hown (host := "") (Or.inl (hw _ (List.mem_of_getElem? (i := 38) rfl))) Via.refl e0 S_MessageType_PARTIAL_CANCEL (g := (mkF m 18 #[own_jv (2 : Int64), .second] [])) rfl (hb hby d3_18)
  obtain ⟨fs, hr, hrun, hended, hW, hsame⟩ := X1.leave (v := (some (.ref w_MessageType_PARTIAL_CANCEL))) (fun h => by rw [Bd.returns] at h; cases h)
  refine ⟨_, _, pre0 _ ?_, hrun, hended, _, _, rfl, ?_, ⟨_, rfl⟩, hW, hsame.mono (by decide) (by decide)⟩
  · show Steps p.tables e below (s₁.setTop (mkF m 0 #[own_jv (2 : Int64), .second] [])) _
    refine XS.lloadN X0.here hx rfl (hb hby d3_0) rfl ?_
    show Steps p.tables e below (s₁.setTop (mkF m 1 #[own_jv (2 : Int64), .second] [(.long (2 : Int64))])) _
    refine XS.lconst X0.here hx rfl (hb hby d3_1) ?_
    show Steps p.tables e below (s₁.setTop (mkF m 2 #[own_jv (2 : Int64), .second] [(.long (1 : Int64)), (.long (2 : Int64))])) _
    refine XS.lcmp X0.here hx rfl (hb hby d3_2) rfl ?_
    show Steps p.tables e below (s₁.setTop (mkF m 3 #[own_jv (2 : Int64), .second] [(.int (lcmpW (2 : Int64) (1 : Int64)))])) _
    rewrite [show (lcmpW (2 : Int64) (1 : Int64)) = (1 : Int32) from by decide +kernel]
    show Steps p.tables e below (s₁.setTop (mkF m 3 #[own_jv (2 : Int64), .second] [(.int (1 : Int32))])) _
    refine XS.ifYes X0.here hx rfl (pc0 := 3) (pc' := 10) rfl (hb hby d3_3) rfl ((if0 _ _).trans (feq (by decide +kernel : ¬ ((1 : Int32) = (0 : Int32)))).2) (by decide) (by decide) ?_
    show Steps p.tables e below (s₁.setTop (mkF m 10 #[own_jv (2 : Int64), .second] [])) _
    refine XS.lloadN X0.here hx rfl (hb hby d3_10) rfl ?_
    show Steps p.tables e below (s₁.setTop (mkF m 11 #[own_jv (2 : Int64), .second] [(.long (2 : Int64))])) _
    refine X0.ldc2Long hx hown (mvT hZ (hw _ (List.mem_of_getElem? (i := 32) rfl))) (g := (mkF m 11 #[own_jv (2 : Int64), .second] [(.long (2 : Int64))])) rfl (hb hby d3_11) _ ?_
    show Steps p.tables e below (s₁.setTop (mkF m 14 #[own_jv (2 : Int64), .second] [(.long (2 : Int64)), (.long (2 : Int64))])) _
    refine XS.lcmp X0.here hx rfl (hb hby d3_14) rfl ?_
    show Steps p.tables e below (s₁.setTop (mkF m 15 #[own_jv (2 : Int64), .second] [(.int (lcmpW (2 : Int64) (2 : Int64)))])) _
    rewrite [show (lcmpW (2 : Int64) (2 : Int64)) = (0 : Int32) from by decide +kernel]
    show Steps p.tables e below (s₁.setTop (mkF m 15 #[own_jv (2 : Int64), .second] [(.int (0 : Int32))])) _
    refine XS.ifNo X0.here hx rfl (hb hby d3_15) rfl ((if0 _ _).trans (teq (by decide +kernel : (0 : Int32) = (0 : Int32))).2) ?_
    show Steps p.tables e below (s₁.setTop (mkF m 18 #[own_jv (2 : Int64), .second] [])) _
    refine st1 _ ?_
    show Steps p.tables e below (T1.setTop (mkF m 21 #[own_jv (2 : Int64), .second] [(.ref w_MessageType_PARTIAL_CANCEL)])) _
    exact own_retA X1 hx Bd.returns rfl rfl (hb hby d3_21) hr
  · exact ⟨rfl, N0, e1⟩
set_option maxRecDepth 65536 in
set_option maxHeartbeats 40000000 in
theorem rk_expected_2 (l : Launch) (Z : State) (a0 : Array Value) (hw : ∀ d ∈ tables_1, d.before a0 Z = true) (ws : List Jvm.Cond) (w_MessageType_DELETION : Addr) (h0 : Heap) (n0 : Nat) (Z0 : n0 ≤ h0.size) (S_MessageType_DELETION : Sta Z h0 "com/example/strikebook/strikebook/cli/MessageType" "DELETION" "Lcom/example/strikebook/strikebook/cli/MessageType;" (.ref w_MessageType_DELETION)) :
    MetFree l (⟨"com/example/strikebook/strikebook/cli/MessageTypeOfPinLaw", "expected", "(J)Lcom/example/strikebook/strikebook/cli/MessageType;"⟩ : MethodName) (head1 (Jvm.Cond.code (⟨"com/example/strikebook/strikebook/cli/MessageTypeOfPinLaw", "expected", "(J)Lcom/example/strikebook/strikebook/cli/MessageType;"⟩ : MethodName) method_2_code 2 (some (.object "com/example/strikebook/strikebook/cli/MessageType")) :: ws) ({ frames := 0, cells := 0, slots := 0, locals := 0 } : Room)) (fun a U => a = #[(.long (3 : Int64))] ∧ Z.Warmed39 U.vm ∧ U.heap = h0) (fun _ _ _ _ _ => True) (fun _ U o U' => ∃ v L, o = .returned v ∧ own_QP (some (.ref w_MessageType_DELETION)) h0 n0 v U'.heap L ∧ FrameEnd U o U' L ({ frames := 0, cells := 0, slots := 0, locals := 0 } : Room).cells ({ frames := 0, cells := 0, slots := 0, locals := 0 } : Room).slots) := by
  refine MetFree.of_bodySF (plainFor_of_name pn_1) hisR ?_
  intro p e s m args below meth c s₁ Bd hml0 hP hK
  obtain ⟨rfl, hZ, hh⟩ := hP
  have hx := Bd.exec
  have hby := Bd.bytes
  have hml : c.maxLocals = 2 := hml0
  have hown : s.vm.findClass "com/example/strikebook/strikebook/cli/MessageTypeOfPinLaw" = some m.cls := findClass_of_methodNamed Bd.named
  have hnm := (name_of_methodNamed Bd.named Bd.method).1
  have X0 : Stand p l e ({ frames := 0, cells := 0, slots := 0, locals := 0 } : Room) s m #[(.long (3 : Int64))] below meth c s₁ [] 0 0 := Stand.of_body Bd
  have e0 : s₁.heap = h0 := by rw [← hh, Bd.state]; rfl
  have N0 := Fr.nil n0
  have pre0 : ∀ t, Steps p.tables e below (s₁.setTop (mkF m 0 #[own_jv (3 : Int64), .second] [])) t → Steps p.tables e below (s₁.setTop (entryFrame m #[(.long (3 : Int64))] 2)) t := fun t k => castTop (ef_3_J m (3 : Int64)) k
  obtain ⟨T1, X1, e1, st1⟩ := getS2 X0 hx hZ hown (host := "") (Or.inl (hw _ (List.mem_of_getElem? (i := 37) rfl))) Via.refl e0 S_MessageType_DELETION (g := (mkF m 30 #[own_jv (3 : Int64), .second] [])) rfl (hb hby d3_30)
  obtain ⟨fs, hr, hrun, hended, hW, hsame⟩ := X1.leave (v := (some (.ref w_MessageType_DELETION))) (fun h => by rw [Bd.returns] at h; cases h)
  refine ⟨_, _, pre0 _ ?_, hrun, hended, _, _, rfl, ?_, ⟨_, rfl⟩, hW, hsame.mono (by decide) (by decide)⟩
  · show Steps p.tables e below (s₁.setTop (mkF m 0 #[own_jv (3 : Int64), .second] [])) _
    refine XS.lloadN X0.here hx rfl (hb hby d3_0) rfl ?_
    show Steps p.tables e below (s₁.setTop (mkF m 1 #[own_jv (3 : Int64), .second] [(.long (3 : Int64))])) _
    refine XS.lconst X0.here hx rfl (hb hby d3_1) ?_
    show Steps p.tables e below (s₁.setTop (mkF m 2 #[own_jv (3 : Int64), .second] [(.long (1 : Int64)), (.long (3 : Int64))])) _
    refine XS.lcmp X0.here hx rfl (hb hby d3_2) rfl ?_
    show Steps p.tables e below (s₁.setTop (mkF m 3 #[own_jv (3 : Int64), .second] [(.int (lcmpW (3 : Int64) (1 : Int64)))])) _
    rewrite [show (lcmpW (3 : Int64) (1 : Int64)) = (1 : Int32) from by decide +kernel]
    show Steps p.tables e below (s₁.setTop (mkF m 3 #[own_jv (3 : Int64), .second] [(.int (1 : Int32))])) _
    refine XS.ifYes X0.here hx rfl (pc0 := 3) (pc' := 10) rfl (hb hby d3_3) rfl ((if0 _ _).trans (feq (by decide +kernel : ¬ ((1 : Int32) = (0 : Int32)))).2) (by decide) (by decide) ?_
    show Steps p.tables e below (s₁.setTop (mkF m 10 #[own_jv (3 : Int64), .second] [])) _
    refine XS.lloadN X0.here hx rfl (hb hby d3_10) rfl ?_
    show Steps p.tables e below (s₁.setTop (mkF m 11 #[own_jv (3 : Int64), .second] [(.long (3 : Int64))])) _
    refine X0.ldc2Long hx hown (mvT hZ (hw _ (List.mem_of_getElem? (i := 32) rfl))) (g := (mkF m 11 #[own_jv (3 : Int64), .second] [(.long (3 : Int64))])) rfl (hb hby d3_11) _ ?_
    show Steps p.tables e below (s₁.setTop (mkF m 14 #[own_jv (3 : Int64), .second] [(.long (2 : Int64)), (.long (3 : Int64))])) _
    refine XS.lcmp X0.here hx rfl (hb hby d3_14) rfl ?_
    show Steps p.tables e below (s₁.setTop (mkF m 15 #[own_jv (3 : Int64), .second] [(.int (lcmpW (3 : Int64) (2 : Int64)))])) _
    rewrite [show (lcmpW (3 : Int64) (2 : Int64)) = (1 : Int32) from by decide +kernel]
    show Steps p.tables e below (s₁.setTop (mkF m 15 #[own_jv (3 : Int64), .second] [(.int (1 : Int32))])) _
    refine XS.ifYes X0.here hx rfl (pc0 := 15) (pc' := 22) rfl (hb hby d3_15) rfl ((if0 _ _).trans (feq (by decide +kernel : ¬ ((1 : Int32) = (0 : Int32)))).2) (by decide) (by decide) ?_
    show Steps p.tables e below (s₁.setTop (mkF m 22 #[own_jv (3 : Int64), .second] [])) _
    refine XS.lloadN X0.here hx rfl (hb hby d3_22) rfl ?_
    show Steps p.tables e below (s₁.setTop (mkF m 23 #[own_jv (3 : Int64), .second] [(.long (3 : Int64))])) _
    refine X0.ldc2Long hx hown (mvT hZ (hw _ (List.mem_of_getElem? (i := 33) rfl))) (g := (mkF m 23 #[own_jv (3 : Int64), .second] [(.long (3 : Int64))])) rfl (hb hby d3_23) _ ?_
    show Steps p.tables e below (s₁.setTop (mkF m 26 #[own_jv (3 : Int64), .second] [(.long (3 : Int64)), (.long (3 : Int64))])) _
    refine XS.lcmp X0.here hx rfl (hb hby d3_26) rfl ?_
    show Steps p.tables e below (s₁.setTop (mkF m 27 #[own_jv (3 : Int64), .second] [(.int (lcmpW (3 : Int64) (3 : Int64)))])) _
    rewrite [show (lcmpW (3 : Int64) (3 : Int64)) = (0 : Int32) from by decide +kernel]
    show Steps p.tables e below (s₁.setTop (mkF m 27 #[own_jv (3 : Int64), .second] [(.int (0 : Int32))])) _
    refine XS.ifNo X0.here hx rfl (hb hby d3_27) rfl ((if0 _ _).trans (teq (by decide +kernel : (0 : Int32) = (0 : Int32))).2) ?_
    show Steps p.tables e below (s₁.setTop (mkF m 30 #[own_jv (3 : Int64), .second] [])) _
    refine st1 _ ?_
    show Steps p.tables e below (T1.setTop (mkF m 33 #[own_jv (3 : Int64), .second] [(.ref w_MessageType_DELETION)])) _
    exact own_retA X1 hx Bd.returns rfl rfl (hb hby d3_33) hr
  · exact ⟨rfl, N0, e1⟩
set_option maxRecDepth 65536 in
set_option maxHeartbeats 40000000 in
theorem rk_expected_3 (l : Launch) (Z : State) (a0 : Array Value) (hw : ∀ d ∈ tables_1, d.before a0 Z = true) (ws : List Jvm.Cond) (w_MessageType_VISIBLE_EXECUTION : Addr) (h0 : Heap) (n0 : Nat) (Z0 : n0 ≤ h0.size) (S_MessageType_VISIBLE_EXECUTION : Sta Z h0 "com/example/strikebook/strikebook/cli/MessageType" "VISIBLE_EXECUTION" "Lcom/example/strikebook/strikebook/cli/MessageType;" (.ref w_MessageType_VISIBLE_EXECUTION)) :
    MetFree l (⟨"com/example/strikebook/strikebook/cli/MessageTypeOfPinLaw", "expected", "(J)Lcom/example/strikebook/strikebook/cli/MessageType;"⟩ : MethodName) (head1 (Jvm.Cond.code (⟨"com/example/strikebook/strikebook/cli/MessageTypeOfPinLaw", "expected", "(J)Lcom/example/strikebook/strikebook/cli/MessageType;"⟩ : MethodName) method_2_code 2 (some (.object "com/example/strikebook/strikebook/cli/MessageType")) :: ws) ({ frames := 0, cells := 0, slots := 0, locals := 0 } : Room)) (fun a U => a = #[(.long (4 : Int64))] ∧ Z.Warmed39 U.vm ∧ U.heap = h0) (fun _ _ _ _ _ => True) (fun _ U o U' => ∃ v L, o = .returned v ∧ own_QP (some (.ref w_MessageType_VISIBLE_EXECUTION)) h0 n0 v U'.heap L ∧ FrameEnd U o U' L ({ frames := 0, cells := 0, slots := 0, locals := 0 } : Room).cells ({ frames := 0, cells := 0, slots := 0, locals := 0 } : Room).slots) := by
  refine MetFree.of_bodySF (plainFor_of_name pn_1) hisR ?_
  intro p e s m args below meth c s₁ Bd hml0 hP hK
  obtain ⟨rfl, hZ, hh⟩ := hP
  have hx := Bd.exec
  have hby := Bd.bytes
  have hml : c.maxLocals = 2 := hml0
  have hown : s.vm.findClass "com/example/strikebook/strikebook/cli/MessageTypeOfPinLaw" = some m.cls := findClass_of_methodNamed Bd.named
  have hnm := (name_of_methodNamed Bd.named Bd.method).1
  have X0 : Stand p l e ({ frames := 0, cells := 0, slots := 0, locals := 0 } : Room) s m #[(.long (4 : Int64))] below meth c s₁ [] 0 0 := Stand.of_body Bd
  have e0 : s₁.heap = h0 := by rw [← hh, Bd.state]; rfl
  have N0 := Fr.nil n0
  have pre0 : ∀ t, Steps p.tables e below (s₁.setTop (mkF m 0 #[own_jv (4 : Int64), .second] [])) t → Steps p.tables e below (s₁.setTop (entryFrame m #[(.long (4 : Int64))] 2)) t := fun t k => castTop (ef_3_J m (4 : Int64)) k
  obtain ⟨T1, X1, e1, st1⟩ := getS2 X0 hx hZ hown (host := "") (Or.inl (hw _ (List.mem_of_getElem? (i := 39) rfl))) Via.refl e0 S_MessageType_VISIBLE_EXECUTION (g := (mkF m 42 #[own_jv (4 : Int64), .second] [])) rfl (hb hby d3_42)
  obtain ⟨fs, hr, hrun, hended, hW, hsame⟩ := X1.leave (v := (some (.ref w_MessageType_VISIBLE_EXECUTION))) (fun h => by rw [Bd.returns] at h; cases h)
  refine ⟨_, _, pre0 _ ?_, hrun, hended, _, _, rfl, ?_, ⟨_, rfl⟩, hW, hsame.mono (by decide) (by decide)⟩
  · show Steps p.tables e below (s₁.setTop (mkF m 0 #[own_jv (4 : Int64), .second] [])) _
    refine XS.lloadN X0.here hx rfl (hb hby d3_0) rfl ?_
    show Steps p.tables e below (s₁.setTop (mkF m 1 #[own_jv (4 : Int64), .second] [(.long (4 : Int64))])) _
    refine XS.lconst X0.here hx rfl (hb hby d3_1) ?_
    show Steps p.tables e below (s₁.setTop (mkF m 2 #[own_jv (4 : Int64), .second] [(.long (1 : Int64)), (.long (4 : Int64))])) _
    refine XS.lcmp X0.here hx rfl (hb hby d3_2) rfl ?_
    show Steps p.tables e below (s₁.setTop (mkF m 3 #[own_jv (4 : Int64), .second] [(.int (lcmpW (4 : Int64) (1 : Int64)))])) _
    rewrite [show (lcmpW (4 : Int64) (1 : Int64)) = (1 : Int32) from by decide +kernel]
    show Steps p.tables e below (s₁.setTop (mkF m 3 #[own_jv (4 : Int64), .second] [(.int (1 : Int32))])) _
    refine XS.ifYes X0.here hx rfl (pc0 := 3) (pc' := 10) rfl (hb hby d3_3) rfl ((if0 _ _).trans (feq (by decide +kernel : ¬ ((1 : Int32) = (0 : Int32)))).2) (by decide) (by decide) ?_
    show Steps p.tables e below (s₁.setTop (mkF m 10 #[own_jv (4 : Int64), .second] [])) _
    refine XS.lloadN X0.here hx rfl (hb hby d3_10) rfl ?_
    show Steps p.tables e below (s₁.setTop (mkF m 11 #[own_jv (4 : Int64), .second] [(.long (4 : Int64))])) _
    refine X0.ldc2Long hx hown (mvT hZ (hw _ (List.mem_of_getElem? (i := 32) rfl))) (g := (mkF m 11 #[own_jv (4 : Int64), .second] [(.long (4 : Int64))])) rfl (hb hby d3_11) _ ?_
    show Steps p.tables e below (s₁.setTop (mkF m 14 #[own_jv (4 : Int64), .second] [(.long (2 : Int64)), (.long (4 : Int64))])) _
    refine XS.lcmp X0.here hx rfl (hb hby d3_14) rfl ?_
    show Steps p.tables e below (s₁.setTop (mkF m 15 #[own_jv (4 : Int64), .second] [(.int (lcmpW (4 : Int64) (2 : Int64)))])) _
    rewrite [show (lcmpW (4 : Int64) (2 : Int64)) = (1 : Int32) from by decide +kernel]
    show Steps p.tables e below (s₁.setTop (mkF m 15 #[own_jv (4 : Int64), .second] [(.int (1 : Int32))])) _
    refine XS.ifYes X0.here hx rfl (pc0 := 15) (pc' := 22) rfl (hb hby d3_15) rfl ((if0 _ _).trans (feq (by decide +kernel : ¬ ((1 : Int32) = (0 : Int32)))).2) (by decide) (by decide) ?_
    show Steps p.tables e below (s₁.setTop (mkF m 22 #[own_jv (4 : Int64), .second] [])) _
    refine XS.lloadN X0.here hx rfl (hb hby d3_22) rfl ?_
    show Steps p.tables e below (s₁.setTop (mkF m 23 #[own_jv (4 : Int64), .second] [(.long (4 : Int64))])) _
    refine X0.ldc2Long hx hown (mvT hZ (hw _ (List.mem_of_getElem? (i := 33) rfl))) (g := (mkF m 23 #[own_jv (4 : Int64), .second] [(.long (4 : Int64))])) rfl (hb hby d3_23) _ ?_
    show Steps p.tables e below (s₁.setTop (mkF m 26 #[own_jv (4 : Int64), .second] [(.long (3 : Int64)), (.long (4 : Int64))])) _
    refine XS.lcmp X0.here hx rfl (hb hby d3_26) rfl ?_
    show Steps p.tables e below (s₁.setTop (mkF m 27 #[own_jv (4 : Int64), .second] [(.int (lcmpW (4 : Int64) (3 : Int64)))])) _
    rewrite [show (lcmpW (4 : Int64) (3 : Int64)) = (1 : Int32) from by decide +kernel]
    show Steps p.tables e below (s₁.setTop (mkF m 27 #[own_jv (4 : Int64), .second] [(.int (1 : Int32))])) _
    refine XS.ifYes X0.here hx rfl (pc0 := 27) (pc' := 34) rfl (hb hby d3_27) rfl ((if0 _ _).trans (feq (by decide +kernel : ¬ ((1 : Int32) = (0 : Int32)))).2) (by decide) (by decide) ?_
    show Steps p.tables e below (s₁.setTop (mkF m 34 #[own_jv (4 : Int64), .second] [])) _
    refine XS.lloadN X0.here hx rfl (hb hby d3_34) rfl ?_
    show Steps p.tables e below (s₁.setTop (mkF m 35 #[own_jv (4 : Int64), .second] [(.long (4 : Int64))])) _
    refine X0.ldc2Long hx hown (mvT hZ (hw _ (List.mem_of_getElem? (i := 34) rfl))) (g := (mkF m 35 #[own_jv (4 : Int64), .second] [(.long (4 : Int64))])) rfl (hb hby d3_35) _ ?_
    show Steps p.tables e below (s₁.setTop (mkF m 38 #[own_jv (4 : Int64), .second] [(.long (4 : Int64)), (.long (4 : Int64))])) _
    refine XS.lcmp X0.here hx rfl (hb hby d3_38) rfl ?_
    show Steps p.tables e below (s₁.setTop (mkF m 39 #[own_jv (4 : Int64), .second] [(.int (lcmpW (4 : Int64) (4 : Int64)))])) _
    rewrite [show (lcmpW (4 : Int64) (4 : Int64)) = (0 : Int32) from by decide +kernel]
    show Steps p.tables e below (s₁.setTop (mkF m 39 #[own_jv (4 : Int64), .second] [(.int (0 : Int32))])) _
    refine XS.ifNo X0.here hx rfl (hb hby d3_39) rfl ((if0 _ _).trans (teq (by decide +kernel : (0 : Int32) = (0 : Int32))).2) ?_
    show Steps p.tables e below (s₁.setTop (mkF m 42 #[own_jv (4 : Int64), .second] [])) _
    refine st1 _ ?_
    show Steps p.tables e below (T1.setTop (mkF m 45 #[own_jv (4 : Int64), .second] [(.ref w_MessageType_VISIBLE_EXECUTION)])) _
    exact own_retA X1 hx Bd.returns rfl rfl (hb hby d3_45) hr
  · exact ⟨rfl, N0, e1⟩
set_option maxRecDepth 65536 in
set_option maxHeartbeats 40000000 in
theorem rk_expected_4 (l : Launch) (Z : State) (a0 : Array Value) (hw : ∀ d ∈ tables_1, d.before a0 Z = true) (ws : List Jvm.Cond) (w_MessageType_HIDDEN_EXECUTION : Addr) (h0 : Heap) (n0 : Nat) (Z0 : n0 ≤ h0.size) (S_MessageType_HIDDEN_EXECUTION : Sta Z h0 "com/example/strikebook/strikebook/cli/MessageType" "HIDDEN_EXECUTION" "Lcom/example/strikebook/strikebook/cli/MessageType;" (.ref w_MessageType_HIDDEN_EXECUTION)) :
    MetFree l (⟨"com/example/strikebook/strikebook/cli/MessageTypeOfPinLaw", "expected", "(J)Lcom/example/strikebook/strikebook/cli/MessageType;"⟩ : MethodName) (head1 (Jvm.Cond.code (⟨"com/example/strikebook/strikebook/cli/MessageTypeOfPinLaw", "expected", "(J)Lcom/example/strikebook/strikebook/cli/MessageType;"⟩ : MethodName) method_2_code 2 (some (.object "com/example/strikebook/strikebook/cli/MessageType")) :: ws) ({ frames := 0, cells := 0, slots := 0, locals := 0 } : Room)) (fun a U => a = #[(.long (5 : Int64))] ∧ Z.Warmed39 U.vm ∧ U.heap = h0) (fun _ _ _ _ _ => True) (fun _ U o U' => ∃ v L, o = .returned v ∧ own_QP (some (.ref w_MessageType_HIDDEN_EXECUTION)) h0 n0 v U'.heap L ∧ FrameEnd U o U' L ({ frames := 0, cells := 0, slots := 0, locals := 0 } : Room).cells ({ frames := 0, cells := 0, slots := 0, locals := 0 } : Room).slots) := by
  refine MetFree.of_bodySF (plainFor_of_name pn_1) hisR ?_
  intro p e s m args below meth c s₁ Bd hml0 hP hK
  obtain ⟨rfl, hZ, hh⟩ := hP
  have hx := Bd.exec
  have hby := Bd.bytes
  have hml : c.maxLocals = 2 := hml0
  have hown : s.vm.findClass "com/example/strikebook/strikebook/cli/MessageTypeOfPinLaw" = some m.cls := findClass_of_methodNamed Bd.named
  have hnm := (name_of_methodNamed Bd.named Bd.method).1
  have X0 : Stand p l e ({ frames := 0, cells := 0, slots := 0, locals := 0 } : Room) s m #[(.long (5 : Int64))] below meth c s₁ [] 0 0 := Stand.of_body Bd
  have e0 : s₁.heap = h0 := by rw [← hh, Bd.state]; rfl
  have N0 := Fr.nil n0
  have pre0 : ∀ t, Steps p.tables e below (s₁.setTop (mkF m 0 #[own_jv (5 : Int64), .second] [])) t → Steps p.tables e below (s₁.setTop (entryFrame m #[(.long (5 : Int64))] 2)) t := fun t k => castTop (ef_3_J m (5 : Int64)) k
  obtain ⟨T1, X1, e1, st1⟩ := getS2 X0 hx hZ hown (host := "") (Or.inl (hw _ (List.mem_of_getElem? (i := 40) rfl))) Via.refl e0 S_MessageType_HIDDEN_EXECUTION (g := (mkF m 54 #[own_jv (5 : Int64), .second] [])) rfl (hb hby d3_54)
  obtain ⟨fs, hr, hrun, hended, hW, hsame⟩ := X1.leave (v := (some (.ref w_MessageType_HIDDEN_EXECUTION))) (fun h => by rw [Bd.returns] at h; cases h)
  refine ⟨_, _, pre0 _ ?_, hrun, hended, _, _, rfl, ?_, ⟨_, rfl⟩, hW, hsame.mono (by decide) (by decide)⟩
  · show Steps p.tables e below (s₁.setTop (mkF m 0 #[own_jv (5 : Int64), .second] [])) _
    refine XS.lloadN X0.here hx rfl (hb hby d3_0) rfl ?_
    show Steps p.tables e below (s₁.setTop (mkF m 1 #[own_jv (5 : Int64), .second] [(.long (5 : Int64))])) _
    refine XS.lconst X0.here hx rfl (hb hby d3_1) ?_
    show Steps p.tables e below (s₁.setTop (mkF m 2 #[own_jv (5 : Int64), .second] [(.long (1 : Int64)), (.long (5 : Int64))])) _
    refine XS.lcmp X0.here hx rfl (hb hby d3_2) rfl ?_
    show Steps p.tables e below (s₁.setTop (mkF m 3 #[own_jv (5 : Int64), .second] [(.int (lcmpW (5 : Int64) (1 : Int64)))])) _
    rewrite [show (lcmpW (5 : Int64) (1 : Int64)) = (1 : Int32) from by decide +kernel]
    show Steps p.tables e below (s₁.setTop (mkF m 3 #[own_jv (5 : Int64), .second] [(.int (1 : Int32))])) _
    refine XS.ifYes X0.here hx rfl (pc0 := 3) (pc' := 10) rfl (hb hby d3_3) rfl ((if0 _ _).trans (feq (by decide +kernel : ¬ ((1 : Int32) = (0 : Int32)))).2) (by decide) (by decide) ?_
    show Steps p.tables e below (s₁.setTop (mkF m 10 #[own_jv (5 : Int64), .second] [])) _
    refine XS.lloadN X0.here hx rfl (hb hby d3_10) rfl ?_
    show Steps p.tables e below (s₁.setTop (mkF m 11 #[own_jv (5 : Int64), .second] [(.long (5 : Int64))])) _
    refine X0.ldc2Long hx hown (mvT hZ (hw _ (List.mem_of_getElem? (i := 32) rfl))) (g := (mkF m 11 #[own_jv (5 : Int64), .second] [(.long (5 : Int64))])) rfl (hb hby d3_11) _ ?_
    show Steps p.tables e below (s₁.setTop (mkF m 14 #[own_jv (5 : Int64), .second] [(.long (2 : Int64)), (.long (5 : Int64))])) _
    refine XS.lcmp X0.here hx rfl (hb hby d3_14) rfl ?_
    show Steps p.tables e below (s₁.setTop (mkF m 15 #[own_jv (5 : Int64), .second] [(.int (lcmpW (5 : Int64) (2 : Int64)))])) _
    rewrite [show (lcmpW (5 : Int64) (2 : Int64)) = (1 : Int32) from by decide +kernel]
    show Steps p.tables e below (s₁.setTop (mkF m 15 #[own_jv (5 : Int64), .second] [(.int (1 : Int32))])) _
    refine XS.ifYes X0.here hx rfl (pc0 := 15) (pc' := 22) rfl (hb hby d3_15) rfl ((if0 _ _).trans (feq (by decide +kernel : ¬ ((1 : Int32) = (0 : Int32)))).2) (by decide) (by decide) ?_
    show Steps p.tables e below (s₁.setTop (mkF m 22 #[own_jv (5 : Int64), .second] [])) _
    refine XS.lloadN X0.here hx rfl (hb hby d3_22) rfl ?_
    show Steps p.tables e below (s₁.setTop (mkF m 23 #[own_jv (5 : Int64), .second] [(.long (5 : Int64))])) _
    refine X0.ldc2Long hx hown (mvT hZ (hw _ (List.mem_of_getElem? (i := 33) rfl))) (g := (mkF m 23 #[own_jv (5 : Int64), .second] [(.long (5 : Int64))])) rfl (hb hby d3_23) _ ?_
    show Steps p.tables e below (s₁.setTop (mkF m 26 #[own_jv (5 : Int64), .second] [(.long (3 : Int64)), (.long (5 : Int64))])) _
    refine XS.lcmp X0.here hx rfl (hb hby d3_26) rfl ?_
    show Steps p.tables e below (s₁.setTop (mkF m 27 #[own_jv (5 : Int64), .second] [(.int (lcmpW (5 : Int64) (3 : Int64)))])) _
    rewrite [show (lcmpW (5 : Int64) (3 : Int64)) = (1 : Int32) from by decide +kernel]
    show Steps p.tables e below (s₁.setTop (mkF m 27 #[own_jv (5 : Int64), .second] [(.int (1 : Int32))])) _
    refine XS.ifYes X0.here hx rfl (pc0 := 27) (pc' := 34) rfl (hb hby d3_27) rfl ((if0 _ _).trans (feq (by decide +kernel : ¬ ((1 : Int32) = (0 : Int32)))).2) (by decide) (by decide) ?_
    show Steps p.tables e below (s₁.setTop (mkF m 34 #[own_jv (5 : Int64), .second] [])) _
    refine XS.lloadN X0.here hx rfl (hb hby d3_34) rfl ?_
    show Steps p.tables e below (s₁.setTop (mkF m 35 #[own_jv (5 : Int64), .second] [(.long (5 : Int64))])) _
    refine X0.ldc2Long hx hown (mvT hZ (hw _ (List.mem_of_getElem? (i := 34) rfl))) (g := (mkF m 35 #[own_jv (5 : Int64), .second] [(.long (5 : Int64))])) rfl (hb hby d3_35) _ ?_
    show Steps p.tables e below (s₁.setTop (mkF m 38 #[own_jv (5 : Int64), .second] [(.long (4 : Int64)), (.long (5 : Int64))])) _
    refine XS.lcmp X0.here hx rfl (hb hby d3_38) rfl ?_
    show Steps p.tables e below (s₁.setTop (mkF m 39 #[own_jv (5 : Int64), .second] [(.int (lcmpW (5 : Int64) (4 : Int64)))])) _
    rewrite [show (lcmpW (5 : Int64) (4 : Int64)) = (1 : Int32) from by decide +kernel]
    show Steps p.tables e below (s₁.setTop (mkF m 39 #[own_jv (5 : Int64), .second] [(.int (1 : Int32))])) _
    refine XS.ifYes X0.here hx rfl (pc0 := 39) (pc' := 46) rfl (hb hby d3_39) rfl ((if0 _ _).trans (feq (by decide +kernel : ¬ ((1 : Int32) = (0 : Int32)))).2) (by decide) (by decide) ?_
    show Steps p.tables e below (s₁.setTop (mkF m 46 #[own_jv (5 : Int64), .second] [])) _
    refine XS.lloadN X0.here hx rfl (hb hby d3_46) rfl ?_
    show Steps p.tables e below (s₁.setTop (mkF m 47 #[own_jv (5 : Int64), .second] [(.long (5 : Int64))])) _
    refine X0.ldc2Long hx hown (mvT hZ (hw _ (List.mem_of_getElem? (i := 35) rfl))) (g := (mkF m 47 #[own_jv (5 : Int64), .second] [(.long (5 : Int64))])) rfl (hb hby d3_47) _ ?_
    show Steps p.tables e below (s₁.setTop (mkF m 50 #[own_jv (5 : Int64), .second] [(.long (5 : Int64)), (.long (5 : Int64))])) _
    refine XS.lcmp X0.here hx rfl (hb hby d3_50) rfl ?_
    show Steps p.tables e below (s₁.setTop (mkF m 51 #[own_jv (5 : Int64), .second] [(.int (lcmpW (5 : Int64) (5 : Int64)))])) _
    rewrite [show (lcmpW (5 : Int64) (5 : Int64)) = (0 : Int32) from by decide +kernel]
    show Steps p.tables e below (s₁.setTop (mkF m 51 #[own_jv (5 : Int64), .second] [(.int (0 : Int32))])) _
    refine XS.ifNo X0.here hx rfl (hb hby d3_51) rfl ((if0 _ _).trans (teq (by decide +kernel : (0 : Int32) = (0 : Int32))).2) ?_
    show Steps p.tables e below (s₁.setTop (mkF m 54 #[own_jv (5 : Int64), .second] [])) _
    refine st1 _ ?_
    show Steps p.tables e below (T1.setTop (mkF m 57 #[own_jv (5 : Int64), .second] [(.ref w_MessageType_HIDDEN_EXECUTION)])) _
    exact own_retA X1 hx Bd.returns rfl rfl (hb hby d3_57) hr
  · exact ⟨rfl, N0, e1⟩
set_option maxRecDepth 65536 in
set_option maxHeartbeats 40000000 in
theorem rk_expected_5 (l : Launch) (Z : State) (a0 : Array Value) (hw : ∀ d ∈ tables_1, d.before a0 Z = true) (ws : List Jvm.Cond) (w_MessageType_HALT : Addr) (h0 : Heap) (n0 : Nat) (Z0 : n0 ≤ h0.size) (S_MessageType_HALT : Sta Z h0 "com/example/strikebook/strikebook/cli/MessageType" "HALT" "Lcom/example/strikebook/strikebook/cli/MessageType;" (.ref w_MessageType_HALT)) :
    MetFree l (⟨"com/example/strikebook/strikebook/cli/MessageTypeOfPinLaw", "expected", "(J)Lcom/example/strikebook/strikebook/cli/MessageType;"⟩ : MethodName) (head1 (Jvm.Cond.code (⟨"com/example/strikebook/strikebook/cli/MessageTypeOfPinLaw", "expected", "(J)Lcom/example/strikebook/strikebook/cli/MessageType;"⟩ : MethodName) method_2_code 2 (some (.object "com/example/strikebook/strikebook/cli/MessageType")) :: ws) ({ frames := 0, cells := 0, slots := 0, locals := 0 } : Room)) (fun a U => a = #[(.long (7 : Int64))] ∧ Z.Warmed39 U.vm ∧ U.heap = h0) (fun _ _ _ _ _ => True) (fun _ U o U' => ∃ v L, o = .returned v ∧ own_QP (some (.ref w_MessageType_HALT)) h0 n0 v U'.heap L ∧ FrameEnd U o U' L ({ frames := 0, cells := 0, slots := 0, locals := 0 } : Room).cells ({ frames := 0, cells := 0, slots := 0, locals := 0 } : Room).slots) := by
  refine MetFree.of_bodySF (plainFor_of_name pn_1) hisR ?_
  intro p e s m args below meth c s₁ Bd hml0 hP hK
  obtain ⟨rfl, hZ, hh⟩ := hP
  have hx := Bd.exec
  have hby := Bd.bytes
  have hml : c.maxLocals = 2 := hml0
  have hown : s.vm.findClass "com/example/strikebook/strikebook/cli/MessageTypeOfPinLaw" = some m.cls := findClass_of_methodNamed Bd.named
  have hnm := (name_of_methodNamed Bd.named Bd.method).1
  have X0 : Stand p l e ({ frames := 0, cells := 0, slots := 0, locals := 0 } : Room) s m #[(.long (7 : Int64))] below meth c s₁ [] 0 0 := Stand.of_body Bd
  have e0 : s₁.heap = h0 := by rw [← hh, Bd.state]; rfl
  have N0 := Fr.nil n0
  have pre0 : ∀ t, Steps p.tables e below (s₁.setTop (mkF m 0 #[own_jv (7 : Int64), .second] [])) t → Steps p.tables e below (s₁.setTop (entryFrame m #[(.long (7 : Int64))] 2)) t := fun t k => castTop (ef_3_J m (7 : Int64)) k
  obtain ⟨T1, X1, e1, st1⟩ := getS2 X0 hx hZ hown (host := "") (Or.inl (hw _ (List.mem_of_getElem? (i := 42) rfl))) Via.refl e0 S_MessageType_HALT (g := (mkF m 66 #[own_jv (7 : Int64), .second] [])) rfl (hb hby d3_66)
  obtain ⟨fs, hr, hrun, hended, hW, hsame⟩ := X1.leave (v := (some (.ref w_MessageType_HALT))) (fun h => by rw [Bd.returns] at h; cases h)
  refine ⟨_, _, pre0 _ ?_, hrun, hended, _, _, rfl, ?_, ⟨_, rfl⟩, hW, hsame.mono (by decide) (by decide)⟩
  · show Steps p.tables e below (s₁.setTop (mkF m 0 #[own_jv (7 : Int64), .second] [])) _
    refine XS.lloadN X0.here hx rfl (hb hby d3_0) rfl ?_
    show Steps p.tables e below (s₁.setTop (mkF m 1 #[own_jv (7 : Int64), .second] [(.long (7 : Int64))])) _
    refine XS.lconst X0.here hx rfl (hb hby d3_1) ?_
    show Steps p.tables e below (s₁.setTop (mkF m 2 #[own_jv (7 : Int64), .second] [(.long (1 : Int64)), (.long (7 : Int64))])) _
    refine XS.lcmp X0.here hx rfl (hb hby d3_2) rfl ?_
    show Steps p.tables e below (s₁.setTop (mkF m 3 #[own_jv (7 : Int64), .second] [(.int (lcmpW (7 : Int64) (1 : Int64)))])) _
    rewrite [show (lcmpW (7 : Int64) (1 : Int64)) = (1 : Int32) from by decide +kernel]
    show Steps p.tables e below (s₁.setTop (mkF m 3 #[own_jv (7 : Int64), .second] [(.int (1 : Int32))])) _
    refine XS.ifYes X0.here hx rfl (pc0 := 3) (pc' := 10) rfl (hb hby d3_3) rfl ((if0 _ _).trans (feq (by decide +kernel : ¬ ((1 : Int32) = (0 : Int32)))).2) (by decide) (by decide) ?_
    show Steps p.tables e below (s₁.setTop (mkF m 10 #[own_jv (7 : Int64), .second] [])) _
    refine XS.lloadN X0.here hx rfl (hb hby d3_10) rfl ?_
    show Steps p.tables e below (s₁.setTop (mkF m 11 #[own_jv (7 : Int64), .second] [(.long (7 : Int64))])) _
    refine X0.ldc2Long hx hown (mvT hZ (hw _ (List.mem_of_getElem? (i := 32) rfl))) (g := (mkF m 11 #[own_jv (7 : Int64), .second] [(.long (7 : Int64))])) rfl (hb hby d3_11) _ ?_
    show Steps p.tables e below (s₁.setTop (mkF m 14 #[own_jv (7 : Int64), .second] [(.long (2 : Int64)), (.long (7 : Int64))])) _
    refine XS.lcmp X0.here hx rfl (hb hby d3_14) rfl ?_
    show Steps p.tables e below (s₁.setTop (mkF m 15 #[own_jv (7 : Int64), .second] [(.int (lcmpW (7 : Int64) (2 : Int64)))])) _
    rewrite [show (lcmpW (7 : Int64) (2 : Int64)) = (1 : Int32) from by decide +kernel]
    show Steps p.tables e below (s₁.setTop (mkF m 15 #[own_jv (7 : Int64), .second] [(.int (1 : Int32))])) _
    refine XS.ifYes X0.here hx rfl (pc0 := 15) (pc' := 22) rfl (hb hby d3_15) rfl ((if0 _ _).trans (feq (by decide +kernel : ¬ ((1 : Int32) = (0 : Int32)))).2) (by decide) (by decide) ?_
    show Steps p.tables e below (s₁.setTop (mkF m 22 #[own_jv (7 : Int64), .second] [])) _
    refine XS.lloadN X0.here hx rfl (hb hby d3_22) rfl ?_
    show Steps p.tables e below (s₁.setTop (mkF m 23 #[own_jv (7 : Int64), .second] [(.long (7 : Int64))])) _
    refine X0.ldc2Long hx hown (mvT hZ (hw _ (List.mem_of_getElem? (i := 33) rfl))) (g := (mkF m 23 #[own_jv (7 : Int64), .second] [(.long (7 : Int64))])) rfl (hb hby d3_23) _ ?_
    show Steps p.tables e below (s₁.setTop (mkF m 26 #[own_jv (7 : Int64), .second] [(.long (3 : Int64)), (.long (7 : Int64))])) _
    refine XS.lcmp X0.here hx rfl (hb hby d3_26) rfl ?_
    show Steps p.tables e below (s₁.setTop (mkF m 27 #[own_jv (7 : Int64), .second] [(.int (lcmpW (7 : Int64) (3 : Int64)))])) _
    rewrite [show (lcmpW (7 : Int64) (3 : Int64)) = (1 : Int32) from by decide +kernel]
    show Steps p.tables e below (s₁.setTop (mkF m 27 #[own_jv (7 : Int64), .second] [(.int (1 : Int32))])) _
    refine XS.ifYes X0.here hx rfl (pc0 := 27) (pc' := 34) rfl (hb hby d3_27) rfl ((if0 _ _).trans (feq (by decide +kernel : ¬ ((1 : Int32) = (0 : Int32)))).2) (by decide) (by decide) ?_
    show Steps p.tables e below (s₁.setTop (mkF m 34 #[own_jv (7 : Int64), .second] [])) _
    refine XS.lloadN X0.here hx rfl (hb hby d3_34) rfl ?_
    show Steps p.tables e below (s₁.setTop (mkF m 35 #[own_jv (7 : Int64), .second] [(.long (7 : Int64))])) _
    refine X0.ldc2Long hx hown (mvT hZ (hw _ (List.mem_of_getElem? (i := 34) rfl))) (g := (mkF m 35 #[own_jv (7 : Int64), .second] [(.long (7 : Int64))])) rfl (hb hby d3_35) _ ?_
    show Steps p.tables e below (s₁.setTop (mkF m 38 #[own_jv (7 : Int64), .second] [(.long (4 : Int64)), (.long (7 : Int64))])) _
    refine XS.lcmp X0.here hx rfl (hb hby d3_38) rfl ?_
    show Steps p.tables e below (s₁.setTop (mkF m 39 #[own_jv (7 : Int64), .second] [(.int (lcmpW (7 : Int64) (4 : Int64)))])) _
    rewrite [show (lcmpW (7 : Int64) (4 : Int64)) = (1 : Int32) from by decide +kernel]
    show Steps p.tables e below (s₁.setTop (mkF m 39 #[own_jv (7 : Int64), .second] [(.int (1 : Int32))])) _
    refine XS.ifYes X0.here hx rfl (pc0 := 39) (pc' := 46) rfl (hb hby d3_39) rfl ((if0 _ _).trans (feq (by decide +kernel : ¬ ((1 : Int32) = (0 : Int32)))).2) (by decide) (by decide) ?_
    show Steps p.tables e below (s₁.setTop (mkF m 46 #[own_jv (7 : Int64), .second] [])) _
    refine XS.lloadN X0.here hx rfl (hb hby d3_46) rfl ?_
    show Steps p.tables e below (s₁.setTop (mkF m 47 #[own_jv (7 : Int64), .second] [(.long (7 : Int64))])) _
    refine X0.ldc2Long hx hown (mvT hZ (hw _ (List.mem_of_getElem? (i := 35) rfl))) (g := (mkF m 47 #[own_jv (7 : Int64), .second] [(.long (7 : Int64))])) rfl (hb hby d3_47) _ ?_
    show Steps p.tables e below (s₁.setTop (mkF m 50 #[own_jv (7 : Int64), .second] [(.long (5 : Int64)), (.long (7 : Int64))])) _
    refine XS.lcmp X0.here hx rfl (hb hby d3_50) rfl ?_
    show Steps p.tables e below (s₁.setTop (mkF m 51 #[own_jv (7 : Int64), .second] [(.int (lcmpW (7 : Int64) (5 : Int64)))])) _
    rewrite [show (lcmpW (7 : Int64) (5 : Int64)) = (1 : Int32) from by decide +kernel]
    show Steps p.tables e below (s₁.setTop (mkF m 51 #[own_jv (7 : Int64), .second] [(.int (1 : Int32))])) _
    refine XS.ifYes X0.here hx rfl (pc0 := 51) (pc' := 58) rfl (hb hby d3_51) rfl ((if0 _ _).trans (feq (by decide +kernel : ¬ ((1 : Int32) = (0 : Int32)))).2) (by decide) (by decide) ?_
    show Steps p.tables e below (s₁.setTop (mkF m 58 #[own_jv (7 : Int64), .second] [])) _
    refine XS.lloadN X0.here hx rfl (hb hby d3_58) rfl ?_
    show Steps p.tables e below (s₁.setTop (mkF m 59 #[own_jv (7 : Int64), .second] [(.long (7 : Int64))])) _
    refine X0.ldc2Long hx hown (mvT hZ (hw _ (List.mem_of_getElem? (i := 36) rfl))) (g := (mkF m 59 #[own_jv (7 : Int64), .second] [(.long (7 : Int64))])) rfl (hb hby d3_59) _ ?_
    show Steps p.tables e below (s₁.setTop (mkF m 62 #[own_jv (7 : Int64), .second] [(.long (7 : Int64)), (.long (7 : Int64))])) _
    refine XS.lcmp X0.here hx rfl (hb hby d3_62) rfl ?_
    show Steps p.tables e below (s₁.setTop (mkF m 63 #[own_jv (7 : Int64), .second] [(.int (lcmpW (7 : Int64) (7 : Int64)))])) _
    rewrite [show (lcmpW (7 : Int64) (7 : Int64)) = (0 : Int32) from by decide +kernel]
    show Steps p.tables e below (s₁.setTop (mkF m 63 #[own_jv (7 : Int64), .second] [(.int (0 : Int32))])) _
    refine XS.ifNo X0.here hx rfl (hb hby d3_63) rfl ((if0 _ _).trans (teq (by decide +kernel : (0 : Int32) = (0 : Int32))).2) ?_
    show Steps p.tables e below (s₁.setTop (mkF m 66 #[own_jv (7 : Int64), .second] [])) _
    refine st1 _ ?_
    show Steps p.tables e below (T1.setTop (mkF m 69 #[own_jv (7 : Int64), .second] [(.ref w_MessageType_HALT)])) _
    exact own_retA X1 hx Bd.returns rfl rfl (hb hby d3_69) hr
  · exact ⟨rfl, N0, e1⟩
set_option maxRecDepth 65536 in
set_option maxHeartbeats 40000000 in
theorem rk_expected_6 (l : Launch) (Z : State) (a0 : Array Value) (hw : ∀ d ∈ tables_1, d.before a0 Z = true) (ws : List Jvm.Cond) (qk : Int64) (h0 : Heap) (n0 : Nat) (Z0 : n0 ≤ h0.size) (hm1 : ¬ (qk = (1 : Int64))) (hm2 : ¬ (qk = (2 : Int64))) (hm3 : ¬ (qk = (3 : Int64))) (hm4 : ¬ (qk = (4 : Int64))) (hm5 : ¬ (qk = (5 : Int64))) (hm7 : ¬ (qk = (7 : Int64))) :
    MetFree l (⟨"com/example/strikebook/strikebook/cli/MessageTypeOfPinLaw", "expected", "(J)Lcom/example/strikebook/strikebook/cli/MessageType;"⟩ : MethodName) (head1 (Jvm.Cond.code (⟨"com/example/strikebook/strikebook/cli/MessageTypeOfPinLaw", "expected", "(J)Lcom/example/strikebook/strikebook/cli/MessageType;"⟩ : MethodName) method_2_code 2 (some (.object "com/example/strikebook/strikebook/cli/MessageType")) :: ws) ({ frames := 0, cells := 0, slots := 0, locals := 0 } : Room)) (fun a U => a = #[(.long qk)] ∧ Z.Warmed39 U.vm ∧ U.heap = h0) (fun _ _ _ _ _ => True) (fun _ U o U' => ∃ v L, o = .returned v ∧ own_QP (some .null) h0 n0 v U'.heap L ∧ FrameEnd U o U' L ({ frames := 0, cells := 0, slots := 0, locals := 0 } : Room).cells ({ frames := 0, cells := 0, slots := 0, locals := 0 } : Room).slots) := by
  refine MetFree.of_bodySF (plainFor_of_name pn_1) hisR ?_
  intro p e s m args below meth c s₁ Bd hml0 hP hK
  obtain ⟨rfl, hZ, hh⟩ := hP
  have hx := Bd.exec
  have hby := Bd.bytes
  have hml : c.maxLocals = 2 := hml0
  have hown : s.vm.findClass "com/example/strikebook/strikebook/cli/MessageTypeOfPinLaw" = some m.cls := findClass_of_methodNamed Bd.named
  have hnm := (name_of_methodNamed Bd.named Bd.method).1
  have X0 : Stand p l e ({ frames := 0, cells := 0, slots := 0, locals := 0 } : Room) s m #[(.long qk)] below meth c s₁ [] 0 0 := Stand.of_body Bd
  have e0 : s₁.heap = h0 := by rw [← hh, Bd.state]; rfl
  have N0 := Fr.nil n0
  have pre0 : ∀ t, Steps p.tables e below (s₁.setTop (mkF m 0 #[own_jv qk, .second] [])) t → Steps p.tables e below (s₁.setTop (entryFrame m #[(.long qk)] 2)) t := fun t k => castTop (ef_3_J m qk) k
  obtain ⟨fs, hr, hrun, hended, hW, hsame⟩ := X0.leave (v := (some .null)) (fun h => by rw [Bd.returns] at h; cases h)
  refine ⟨_, _, pre0 _ ?_, hrun, hended, _, _, rfl, ?_, ⟨_, rfl⟩, hW, hsame.mono (by decide) (by decide)⟩
  · show Steps p.tables e below (s₁.setTop (mkF m 0 #[own_jv qk, .second] [])) _
    refine XS.lloadN X0.here hx rfl (hb hby d3_0) rfl ?_
    show Steps p.tables e below (s₁.setTop (mkF m 1 #[own_jv qk, .second] [(.long qk)])) _
    refine XS.lconst X0.here hx rfl (hb hby d3_1) ?_
    show Steps p.tables e below (s₁.setTop (mkF m 2 #[own_jv qk, .second] [(.long (1 : Int64)), (.long qk)])) _
    refine XS.lcmp X0.here hx rfl (hb hby d3_2) rfl ?_
    show Steps p.tables e below (s₁.setTop (mkF m 3 #[own_jv qk, .second] [(.int (lcmpW qk (1 : Int64)))])) _
    refine XS.ifYes X0.here hx rfl (pc0 := 3) (pc' := 10) rfl (hb hby d3_3) rfl ((if0 _ _).trans ((if0 _ _).symm.trans (Jvm.Free.XT.ll_ne_t hm1))) (by decide) (by decide) ?_
    show Steps p.tables e below (s₁.setTop (mkF m 10 #[own_jv qk, .second] [])) _
    refine XS.lloadN X0.here hx rfl (hb hby d3_10) rfl ?_
    show Steps p.tables e below (s₁.setTop (mkF m 11 #[own_jv qk, .second] [(.long qk)])) _
    refine X0.ldc2Long hx hown (mvT hZ (hw _ (List.mem_of_getElem? (i := 32) rfl))) (g := (mkF m 11 #[own_jv qk, .second] [(.long qk)])) rfl (hb hby d3_11) _ ?_
    show Steps p.tables e below (s₁.setTop (mkF m 14 #[own_jv qk, .second] [(.long (2 : Int64)), (.long qk)])) _
    refine XS.lcmp X0.here hx rfl (hb hby d3_14) rfl ?_
    show Steps p.tables e below (s₁.setTop (mkF m 15 #[own_jv qk, .second] [(.int (lcmpW qk (2 : Int64)))])) _
    refine XS.ifYes X0.here hx rfl (pc0 := 15) (pc' := 22) rfl (hb hby d3_15) rfl ((if0 _ _).trans ((if0 _ _).symm.trans (Jvm.Free.XT.ll_ne_t hm2))) (by decide) (by decide) ?_
    show Steps p.tables e below (s₁.setTop (mkF m 22 #[own_jv qk, .second] [])) _
    refine XS.lloadN X0.here hx rfl (hb hby d3_22) rfl ?_
    show Steps p.tables e below (s₁.setTop (mkF m 23 #[own_jv qk, .second] [(.long qk)])) _
    refine X0.ldc2Long hx hown (mvT hZ (hw _ (List.mem_of_getElem? (i := 33) rfl))) (g := (mkF m 23 #[own_jv qk, .second] [(.long qk)])) rfl (hb hby d3_23) _ ?_
    show Steps p.tables e below (s₁.setTop (mkF m 26 #[own_jv qk, .second] [(.long (3 : Int64)), (.long qk)])) _
    refine XS.lcmp X0.here hx rfl (hb hby d3_26) rfl ?_
    show Steps p.tables e below (s₁.setTop (mkF m 27 #[own_jv qk, .second] [(.int (lcmpW qk (3 : Int64)))])) _
    refine XS.ifYes X0.here hx rfl (pc0 := 27) (pc' := 34) rfl (hb hby d3_27) rfl ((if0 _ _).trans ((if0 _ _).symm.trans (Jvm.Free.XT.ll_ne_t hm3))) (by decide) (by decide) ?_
    show Steps p.tables e below (s₁.setTop (mkF m 34 #[own_jv qk, .second] [])) _
    refine XS.lloadN X0.here hx rfl (hb hby d3_34) rfl ?_
    show Steps p.tables e below (s₁.setTop (mkF m 35 #[own_jv qk, .second] [(.long qk)])) _
    refine X0.ldc2Long hx hown (mvT hZ (hw _ (List.mem_of_getElem? (i := 34) rfl))) (g := (mkF m 35 #[own_jv qk, .second] [(.long qk)])) rfl (hb hby d3_35) _ ?_
    show Steps p.tables e below (s₁.setTop (mkF m 38 #[own_jv qk, .second] [(.long (4 : Int64)), (.long qk)])) _
    refine XS.lcmp X0.here hx rfl (hb hby d3_38) rfl ?_
    show Steps p.tables e below (s₁.setTop (mkF m 39 #[own_jv qk, .second] [(.int (lcmpW qk (4 : Int64)))])) _
    refine XS.ifYes X0.here hx rfl (pc0 := 39) (pc' := 46) rfl (hb hby d3_39) rfl ((if0 _ _).trans ((if0 _ _).symm.trans (Jvm.Free.XT.ll_ne_t hm4))) (by decide) (by decide) ?_
    show Steps p.tables e below (s₁.setTop (mkF m 46 #[own_jv qk, .second] [])) _
    refine XS.lloadN X0.here hx rfl (hb hby d3_46) rfl ?_
    show Steps p.tables e below (s₁.setTop (mkF m 47 #[own_jv qk, .second] [(.long qk)])) _
    refine X0.ldc2Long hx hown (mvT hZ (hw _ (List.mem_of_getElem? (i := 35) rfl))) (g := (mkF m 47 #[own_jv qk, .second] [(.long qk)])) rfl (hb hby d3_47) _ ?_
    show Steps p.tables e below (s₁.setTop (mkF m 50 #[own_jv qk, .second] [(.long (5 : Int64)), (.long qk)])) _
    refine XS.lcmp X0.here hx rfl (hb hby d3_50) rfl ?_
    show Steps p.tables e below (s₁.setTop (mkF m 51 #[own_jv qk, .second] [(.int (lcmpW qk (5 : Int64)))])) _
    refine XS.ifYes X0.here hx rfl (pc0 := 51) (pc' := 58) rfl (hb hby d3_51) rfl ((if0 _ _).trans ((if0 _ _).symm.trans (Jvm.Free.XT.ll_ne_t hm5))) (by decide) (by decide) ?_
    show Steps p.tables e below (s₁.setTop (mkF m 58 #[own_jv qk, .second] [])) _
    refine XS.lloadN X0.here hx rfl (hb hby d3_58) rfl ?_
    show Steps p.tables e below (s₁.setTop (mkF m 59 #[own_jv qk, .second] [(.long qk)])) _
    refine X0.ldc2Long hx hown (mvT hZ (hw _ (List.mem_of_getElem? (i := 36) rfl))) (g := (mkF m 59 #[own_jv qk, .second] [(.long qk)])) rfl (hb hby d3_59) _ ?_
    show Steps p.tables e below (s₁.setTop (mkF m 62 #[own_jv qk, .second] [(.long (7 : Int64)), (.long qk)])) _
    refine XS.lcmp X0.here hx rfl (hb hby d3_62) rfl ?_
    show Steps p.tables e below (s₁.setTop (mkF m 63 #[own_jv qk, .second] [(.int (lcmpW qk (7 : Int64)))])) _
    refine XS.ifYes X0.here hx rfl (pc0 := 63) (pc' := 70) rfl (hb hby d3_63) rfl ((if0 _ _).trans ((if0 _ _).symm.trans (Jvm.Free.XT.ll_ne_t hm7))) (by decide) (by decide) ?_
    show Steps p.tables e below (s₁.setTop (mkF m 70 #[own_jv qk, .second] [])) _
    refine XS.aconstNull X0.here hx rfl (hb hby d3_70) ?_
    show Steps p.tables e below (s₁.setTop (mkF m 71 #[own_jv qk, .second] [.null])) _
    exact own_retA X0 hx Bd.returns rfl rfl (hb hby d3_71) hr
  · exact ⟨rfl, N0, e0⟩
set_option maxRecDepth 65536 in
set_option maxHeartbeats 40000000 in
theorem rk_expected (l : Launch) (Z : State) (a0 : Array Value) (hw : ∀ d ∈ tables_1, d.before a0 Z = true) (ws : List Jvm.Cond) (w_MessageType_SUBMISSION : Addr) (w_MessageType_PARTIAL_CANCEL : Addr) (w_MessageType_DELETION : Addr) (w_MessageType_VISIBLE_EXECUTION : Addr) (w_MessageType_HIDDEN_EXECUTION : Addr) (w_MessageType_HALT : Addr) (qk : Int64) (h0 : Heap) (n0 : Nat) (Z0 : n0 ≤ h0.size) (S_MessageType_SUBMISSION : Sta Z h0 "com/example/strikebook/strikebook/cli/MessageType" "SUBMISSION" "Lcom/example/strikebook/strikebook/cli/MessageType;" (.ref w_MessageType_SUBMISSION)) (S_MessageType_PARTIAL_CANCEL : Sta Z h0 "com/example/strikebook/strikebook/cli/MessageType" "PARTIAL_CANCEL" "Lcom/example/strikebook/strikebook/cli/MessageType;" (.ref w_MessageType_PARTIAL_CANCEL)) (S_MessageType_DELETION : Sta Z h0 "com/example/strikebook/strikebook/cli/MessageType" "DELETION" "Lcom/example/strikebook/strikebook/cli/MessageType;" (.ref w_MessageType_DELETION)) (S_MessageType_VISIBLE_EXECUTION : Sta Z h0 "com/example/strikebook/strikebook/cli/MessageType" "VISIBLE_EXECUTION" "Lcom/example/strikebook/strikebook/cli/MessageType;" (.ref w_MessageType_VISIBLE_EXECUTION)) (S_MessageType_HIDDEN_EXECUTION : Sta Z h0 "com/example/strikebook/strikebook/cli/MessageType" "HIDDEN_EXECUTION" "Lcom/example/strikebook/strikebook/cli/MessageType;" (.ref w_MessageType_HIDDEN_EXECUTION)) (S_MessageType_HALT : Sta Z h0 "com/example/strikebook/strikebook/cli/MessageType" "HALT" "Lcom/example/strikebook/strikebook/cli/MessageType;" (.ref w_MessageType_HALT)) :
    MetFree l (⟨"com/example/strikebook/strikebook/cli/MessageTypeOfPinLaw", "expected", "(J)Lcom/example/strikebook/strikebook/cli/MessageType;"⟩ : MethodName) (head1 (Jvm.Cond.code (⟨"com/example/strikebook/strikebook/cli/MessageTypeOfPinLaw", "expected", "(J)Lcom/example/strikebook/strikebook/cli/MessageType;"⟩ : MethodName) method_2_code 2 (some (.object "com/example/strikebook/strikebook/cli/MessageType")) :: ws) ({ frames := 0, cells := 0, slots := 0, locals := 0 } : Room)) (fun a U => a = #[(.long qk)] ∧ Z.Warmed39 U.vm ∧ U.heap = h0) (fun _ _ _ _ _ => True) (fun _ U o U' => ∃ v L, o = .returned v ∧ own_QV (own_of qk w_MessageType_SUBMISSION w_MessageType_PARTIAL_CANCEL w_MessageType_DELETION w_MessageType_VISIBLE_EXECUTION w_MessageType_HIDDEN_EXECUTION w_MessageType_HALT) h0 n0 v U'.heap L ∧ FrameEnd U o U' L ({ frames := 0, cells := 0, slots := 0, locals := 0 } : Room).cells ({ frames := 0, cells := 0, slots := 0, locals := 0 } : Room).slots) := by
  rcases own_sq qk with rfl | rfl | rfl | rfl | rfl | rfl | ⟨hn1, hn2, hn3, hn4, hn5, hn7, hm1, hm2, hm3, hm4, hm5, hm7⟩
  · exact own_imp (rk_expected_0 l Z a0 hw ws w_MessageType_SUBMISSION h0 n0 Z0 S_MessageType_SUBMISSION) (fun v h L q => by obtain ⟨rfl, N, e⟩ := q; subst e; exact ⟨(.ref w_MessageType_SUBMISSION), rfl, (by simp [own_of]), rfl, N, Keep.refl _ _⟩)
  · exact own_imp (rk_expected_1 l Z a0 hw ws w_MessageType_PARTIAL_CANCEL h0 n0 Z0 S_MessageType_PARTIAL_CANCEL) (fun v h L q => by obtain ⟨rfl, N, e⟩ := q; subst e; exact ⟨(.ref w_MessageType_PARTIAL_CANCEL), rfl, (by simp [own_of]), rfl, N, Keep.refl _ _⟩)
  · exact own_imp (rk_expected_2 l Z a0 hw ws w_MessageType_DELETION h0 n0 Z0 S_MessageType_DELETION) (fun v h L q => by obtain ⟨rfl, N, e⟩ := q; subst e; exact ⟨(.ref w_MessageType_DELETION), rfl, (by simp [own_of]), rfl, N, Keep.refl _ _⟩)
  · exact own_imp (rk_expected_3 l Z a0 hw ws w_MessageType_VISIBLE_EXECUTION h0 n0 Z0 S_MessageType_VISIBLE_EXECUTION) (fun v h L q => by obtain ⟨rfl, N, e⟩ := q; subst e; exact ⟨(.ref w_MessageType_VISIBLE_EXECUTION), rfl, (by simp [own_of]), rfl, N, Keep.refl _ _⟩)
  · exact own_imp (rk_expected_4 l Z a0 hw ws w_MessageType_HIDDEN_EXECUTION h0 n0 Z0 S_MessageType_HIDDEN_EXECUTION) (fun v h L q => by obtain ⟨rfl, N, e⟩ := q; subst e; exact ⟨(.ref w_MessageType_HIDDEN_EXECUTION), rfl, (by simp [own_of]), rfl, N, Keep.refl _ _⟩)
  · exact own_imp (rk_expected_5 l Z a0 hw ws w_MessageType_HALT h0 n0 Z0 S_MessageType_HALT) (fun v h L q => by obtain ⟨rfl, N, e⟩ := q; subst e; exact ⟨(.ref w_MessageType_HALT), rfl, (by simp [own_of]), rfl, N, Keep.refl _ _⟩)
  · exact own_imp (rk_expected_6 l Z a0 hw ws qk h0 n0 Z0 hm1 hm2 hm3 hm4 hm5 hm7) (fun v h L q => by obtain ⟨rfl, N, e⟩ := q; subst e; exact ⟨.null, rfl, (by simp [own_of, hm1, hm2, hm3, hm4, hm5, hm7]), rfl, N, Keep.refl _ _⟩)
set_option maxRecDepth 65536 in
set_option maxHeartbeats 40000000 in
theorem rm0_0 (l : Launch) (Z : State) (a0 : Array Value) (hw : ∀ d ∈ tables_1, d.before a0 Z = true) (ws : List Jvm.Cond) (p0 : Int64) (p1 : Int32) (w_MessageType__VALUES : Addr) (w_MessageType_SUBMISSION : Addr) (w_MessageType_PARTIAL_CANCEL : Addr) (w_MessageType_DELETION : Addr) (w_MessageType_VISIBLE_EXECUTION : Addr) (w_MessageType_HIDDEN_EXECUTION : Addr) (w_MessageType_HALT : Addr) (k_w_MessageType__VALUES : ClassId) (h0 : Heap) (n0 : Nat) (Z0 : n0 ≤ h0.size) (S_MessageType__VALUES : Sta Z h0 "com/example/strikebook/strikebook/cli/MessageType" "$VALUES" "[Lcom/example/strikebook/strikebook/cli/MessageType;" (.ref w_MessageType__VALUES)) (V_w_MessageType__VALUES : Arv Z h0 w_MessageType__VALUES k_w_MessageType__VALUES (.object "com/example/strikebook/strikebook/cli/MessageType") (6 : Int32) [(.ref w_MessageType_SUBMISSION), (.ref w_MessageType_PARTIAL_CANCEL), (.ref w_MessageType_DELETION), (.ref w_MessageType_VISIBLE_EXECUTION), (.ref w_MessageType_HIDDEN_EXECUTION), (.ref w_MessageType_HALT)] .null) (E_w_MessageType__VALUES : Exa Z h0 w_MessageType__VALUES "[Lcom/example/strikebook/strikebook/cli/MessageType;") (F_w_MessageType_SUBMISSION_code : Fld Z h0 w_MessageType_SUBMISSION "com/example/strikebook/strikebook/cli/MessageType" "code" "I" (.int (1 : Int32))) (F_w_MessageType_PARTIAL_CANCEL_code : Fld Z h0 w_MessageType_PARTIAL_CANCEL "com/example/strikebook/strikebook/cli/MessageType" "code" "I" (.int (2 : Int32))) (F_w_MessageType_DELETION_code : Fld Z h0 w_MessageType_DELETION "com/example/strikebook/strikebook/cli/MessageType" "code" "I" (.int (3 : Int32))) (F_w_MessageType_VISIBLE_EXECUTION_code : Fld Z h0 w_MessageType_VISIBLE_EXECUTION "com/example/strikebook/strikebook/cli/MessageType" "code" "I" (.int (4 : Int32))) (F_w_MessageType_HIDDEN_EXECUTION_code : Fld Z h0 w_MessageType_HIDDEN_EXECUTION "com/example/strikebook/strikebook/cli/MessageType" "code" "I" (.int (5 : Int32))) (F_w_MessageType_HALT_code : Fld Z h0 w_MessageType_HALT "com/example/strikebook/strikebook/cli/MessageType" "code" "I" (.int (7 : Int32))) (S_MessageType_SUBMISSION : Sta Z h0 "com/example/strikebook/strikebook/cli/MessageType" "SUBMISSION" "Lcom/example/strikebook/strikebook/cli/MessageType;" (.ref w_MessageType_SUBMISSION)) (S_MessageType_PARTIAL_CANCEL : Sta Z h0 "com/example/strikebook/strikebook/cli/MessageType" "PARTIAL_CANCEL" "Lcom/example/strikebook/strikebook/cli/MessageType;" (.ref w_MessageType_PARTIAL_CANCEL)) (S_MessageType_DELETION : Sta Z h0 "com/example/strikebook/strikebook/cli/MessageType" "DELETION" "Lcom/example/strikebook/strikebook/cli/MessageType;" (.ref w_MessageType_DELETION)) (S_MessageType_VISIBLE_EXECUTION : Sta Z h0 "com/example/strikebook/strikebook/cli/MessageType" "VISIBLE_EXECUTION" "Lcom/example/strikebook/strikebook/cli/MessageType;" (.ref w_MessageType_VISIBLE_EXECUTION)) (S_MessageType_HIDDEN_EXECUTION : Sta Z h0 "com/example/strikebook/strikebook/cli/MessageType" "HIDDEN_EXECUTION" "Lcom/example/strikebook/strikebook/cli/MessageType;" (.ref w_MessageType_HIDDEN_EXECUTION)) (S_MessageType_HALT : Sta Z h0 "com/example/strikebook/strikebook/cli/MessageType" "HALT" "Lcom/example/strikebook/strikebook/cli/MessageType;" (.ref w_MessageType_HALT)) :
    MetFree l x (head1 (Jvm.Cond.code x code maxLocals ret :: ws) room_1) (fun a U => a = #[(.long p0), (.int p1)] ∧ Z.Warmed39 U.vm ∧ U.heap = h0) (fun _ _ _ _ _ => True) (fun _ U o U' => ∃ v L, o = .returned v ∧ own_QL n0 v U'.heap L ∧ FrameEnd U o U' L room_1.cells room_1.slots) := by
  refine MetFree.of_bodySF (plainFor_of_name pn_1) hisR ?_
  intro p e s m args below meth c s₁ Bd hml0 hP hK
  obtain ⟨rfl, hZ, hh⟩ := hP
  have hx := Bd.exec
  have hby := Bd.bytes
  have hml : c.maxLocals = 10 := hml0
  have hown : s.vm.findClass "com/example/strikebook/strikebook/cli/MessageTypeOfPinLaw" = some m.cls := findClass_of_methodNamed Bd.named
  have hnm := (name_of_methodNamed Bd.named Bd.method).1
  have X0 : Stand p l e room_1 s m #[(.long p0), (.int p1)] below meth c s₁ [] 0 0 := Stand.of_body Bd
  have e0 : s₁.heap = h0 := by rw [← hh, Bd.state]; rfl
  have N0 := Fr.nil n0
  have pre0 : ∀ t, Steps p.tables e below (s₁.setTop (mkF m 0 #[own_jv p0, .second, iv p1, .unset, .unset, .unset, .unset, .unset, .unset, .unset] [])) t → Steps p.tables e below (s₁.setTop (entryFrame m #[(.long p0), (.int p1)] maxLocals)) t := fun t k => castTop (ef_0_JI m p0 p1) k
  obtain ⟨_, _, ⟨T1, L1, k1, n1⟩, -, X1, ⟨Lc1, hQ1, l1, y1, z1⟩, st1⟩ := Jvm.LawKit.callS X0 hx (y := (⟨"com/example/strikebook/strikebook/cli/MessageType", "of", "(J)Lcom/example/strikebook/strikebook/cli/MessageType;"⟩ : MethodName)) hown (mvT hZ (hw _ (List.mem_of_getElem? (i := 1) rfl))) (mvT hZ (hw _ (List.mem_of_getElem? (i := 2) rfl))) (mvT hZ (hw _ (List.mem_of_getElem? (i := 3) rfl))) (mvT hZ (hw _ (List.mem_of_getElem? (i := 4) rfl))) (by decide) (backOf (W := 0) (rk_of l Z a0 hw [] w_MessageType__VALUES w_MessageType_SUBMISSION w_MessageType_PARTIAL_CANCEL w_MessageType_DELETION w_MessageType_VISIBLE_EXECUTION w_MessageType_HIDDEN_EXECUTION w_MessageType_HALT k_w_MessageType__VALUES (((p1 &&& (15 : Int32)) - (4 : Int32)).toInt64) h0 n0 Z0 S_MessageType__VALUES V_w_MessageType__VALUES E_w_MessageType__VALUES F_w_MessageType_SUBMISSION_code F_w_MessageType_PARTIAL_CANCEL_code F_w_MessageType_DELETION_code F_w_MessageType_VISIBLE_EXECUTION_code F_w_MessageType_HIDDEN_EXECUTION_code F_w_MessageType_HALT_code) hZ (hw _ (List.mem_of_getElem? (i := 4) rfl)) (hw _ (List.mem_of_getElem? (i := 3) rfl)) (by decide) (by decide)) (g := (mkF m 22 #[own_jv p0, .second, iv p1, own_jv (((p1 &&& (15 : Int32)) - (4 : Int32)).toInt64), .second, own_jv ((p0 &&& (-16 : Int64)) ||| ((p1 &&& (15 : Int32)).toInt64)), .second, .unset, .unset, .unset] [(.long (((p1 &&& (15 : Int32)) - (4 : Int32)).toInt64))])) rfl (by rw [hml]; rfl) (argsL := [(.long (((p1 &&& (15 : Int32)) - (4 : Int32)).toInt64))]) (rest := []) (lenOf pd_1 rfl) rfl (by show 2 * 0 + _ ≤ _; exact Nat.le_of_eq rfl) (hb hby at_22) (fun _ _ => ⟨rfl, e0, (by decide : 0 + 1 ≤ _), (by decide : 0 + 6 ≤ _)⟩)
  dsimp only [Pt.U, Pt.locs, Pt.cells, Pt.slots] at X1 l1 y1 z1 st1 hQ1
  subst l1 y1 z1
  obtain ⟨u0_1, rfl, hv_u0_1, hr_u0_1, N1q, K1⟩ := hQ1
  have KK1 : Keep h0 T1.heap [] := (Keep.refl h0 []).trans K1 all0
  have Z1 : n0 ≤ T1.heap.size := Nat.le_trans Z0 K1.1
  have N1 := Fr.app N0 N1q
  have c3 := (own_Sta_keep S_MessageType_SUBMISSION K1 own_st0)
  have c4 := (own_Sta_keep S_MessageType_PARTIAL_CANCEL K1 own_st0)
  have c5 := (own_Sta_keep S_MessageType_DELETION K1 own_st0)
  have c6 := (own_Sta_keep S_MessageType_VISIBLE_EXECUTION K1 own_st0)
  have c7 := (own_Sta_keep S_MessageType_HIDDEN_EXECUTION K1 own_st0)
  have c8 := (own_Sta_keep S_MessageType_HALT K1 own_st0)
  obtain ⟨_, _, ⟨T2, L2, k2, n2⟩, -, X2, ⟨Lc2, hQ2, l2, y2, z2⟩, st2⟩ := Jvm.LawKit.callS X1 hx (y := (⟨"com/example/strikebook/strikebook/cli/MessageTypeOfPinLaw", "expected", "(J)Lcom/example/strikebook/strikebook/cli/MessageType;"⟩ : MethodName)) hown (mvT hZ (hw _ (List.mem_of_getElem? (i := 28) rfl))) (mvT hZ (hw _ (List.mem_of_getElem? (i := 29) rfl))) (mvT hZ (hw _ (List.mem_of_getElem? (i := 30) rfl))) (mvT hZ (hw _ (List.mem_of_getElem? (i := 31) rfl))) (by decide) (backOf (W := 1) (rk_expected l Z a0 hw [] w_MessageType_SUBMISSION w_MessageType_PARTIAL_CANCEL w_MessageType_DELETION w_MessageType_VISIBLE_EXECUTION w_MessageType_HIDDEN_EXECUTION w_MessageType_HALT (((p1 &&& (15 : Int32)) - (4 : Int32)).toInt64) T1.heap n0 Z1 c3 c4 c5 c6 c7 c8) hZ (hw _ (List.mem_of_getElem? (i := 31) rfl)) (hw _ (List.mem_of_getElem? (i := 30) rfl)) (by decide) (by decide)) (g := (mkF m 26 #[own_jv p0, .second, iv p1, own_jv (((p1 &&& (15 : Int32)) - (4 : Int32)).toInt64), .second, own_jv ((p0 &&& (-16 : Int64)) ||| ((p1 &&& (15 : Int32)).toInt64)), .second, .unset, .unset, .unset] [(.long (((p1 &&& (15 : Int32)) - (4 : Int32)).toInt64)), u0_1])) rfl (by rw [hml]; rfl) (argsL := [(.long (((p1 &&& (15 : Int32)) - (4 : Int32)).toInt64))]) (rest := [u0_1]) (lenOf pd_1 rfl) rfl (by rcases ref_cases hr_u0_1 with q0 | ⟨_, q0⟩ <;> subst q0 <;> exact Nat.le_of_eq rfl) (hb hby at_26) (fun _ _ => ⟨rfl, rfl, (by decide : 1 + 0 ≤ _), (by decide : 6 + 0 ≤ _)⟩)
  dsimp only [Pt.U, Pt.locs, Pt.cells, Pt.slots] at X2 l2 y2 z2 st2 hQ2
  subst l2 y2 z2
  obtain ⟨u0_2, rfl, hv_u0_2, hr_u0_2, N2q, K2⟩ := hQ2
  have KK2 : Keep h0 T2.heap [] := KK1.trans K2 all0
  have Z2 : n0 ≤ T2.heap.size := Nat.le_trans Z1 K2.1
  have N2 := Fr.app N1 N2q
  have c10 := (own_Sta_keep (own_Sta_keep S_MessageType__VALUES K1 own_st0) K2 own_st0)
  have c11 := ((V_w_MessageType__VALUES.keep K1 nin0).keep K2 nin0)
  have c12 := ((E_w_MessageType__VALUES.keep K1).keep K2)
  have c13 := ((F_w_MessageType_SUBMISSION_code.keep K1 nin0).keep K2 nin0)
  have c14 := ((F_w_MessageType_PARTIAL_CANCEL_code.keep K1 nin0).keep K2 nin0)
  have c15 := ((F_w_MessageType_DELETION_code.keep K1 nin0).keep K2 nin0)
  have c16 := ((F_w_MessageType_VISIBLE_EXECUTION_code.keep K1 nin0).keep K2 nin0)
  have c17 := ((F_w_MessageType_HIDDEN_EXECUTION_code.keep K1 nin0).keep K2 nin0)
  have c18 := ((F_w_MessageType_HALT_code.keep K1 nin0).keep K2 nin0)
  obtain ⟨_, _, ⟨T9, L9, k9, n9⟩, -, X9, ⟨Lc9, hQ9, l9, y9, z9⟩, st9⟩ := Jvm.LawKit.callS X2 hx (y := (⟨"com/example/strikebook/strikebook/cli/MessageType", "of", "(J)Lcom/example/strikebook/strikebook/cli/MessageType;"⟩ : MethodName)) hown (mvT hZ (hw _ (List.mem_of_getElem? (i := 1) rfl))) (mvT hZ (hw _ (List.mem_of_getElem? (i := 2) rfl))) (mvT hZ (hw _ (List.mem_of_getElem? (i := 3) rfl))) (mvT hZ (hw _ (List.mem_of_getElem? (i := 4) rfl))) (by decide) (backOf (W := 0) (rk_of l Z a0 hw [] w_MessageType__VALUES w_MessageType_SUBMISSION w_MessageType_PARTIAL_CANCEL w_MessageType_DELETION w_MessageType_VISIBLE_EXECUTION w_MessageType_HIDDEN_EXECUTION w_MessageType_HALT k_w_MessageType__VALUES p0 T2.heap n0 Z2 c10 c11 c12 c13 c14 c15 c16 c17 c18) hZ (hw _ (List.mem_of_getElem? (i := 4) rfl)) (hw _ (List.mem_of_getElem? (i := 3) rfl)) (by decide) (by decide)) (g := (mkF m 40 #[own_jv p0, .second, iv p1, own_jv (((p1 &&& (15 : Int32)) - (4 : Int32)).toInt64), .second, own_jv ((p0 &&& (-16 : Int64)) ||| ((p1 &&& (15 : Int32)).toInt64)), .second, iv (1 : Int32), .unset, .unset] [(.long p0)])) rfl (by rw [hml]; rfl) (argsL := [(.long p0)]) (rest := []) (lenOf pd_1 rfl) rfl (by show 2 * 0 + _ ≤ _; exact Nat.le_of_eq rfl) (hb hby at_40) (fun _ _ => ⟨rfl, rfl, (by decide : 1 + 1 ≤ _), (by decide : 6 + 6 ≤ _)⟩)
  dsimp only [Pt.U, Pt.locs, Pt.cells, Pt.slots] at X9 l9 y9 z9 st9 hQ9
  subst l9 y9 z9
  obtain ⟨u0_9, rfl, hv_u0_9, hr_u0_9, N9q, K9⟩ := hQ9
  have KK9 : Keep h0 T9.heap [] := KK2.trans K9 all0
  have Z9 : n0 ≤ T9.heap.size := Nat.le_trans Z2 K9.1
  have N9 := Fr.app N2 N9q
  have c20 := (own_Sta_keep (own_Sta_keep c3 K2 own_st0) K9 own_st0)
  have c21 := (own_Sta_keep (own_Sta_keep c4 K2 own_st0) K9 own_st0)
  have c22 := (own_Sta_keep (own_Sta_keep c5 K2 own_st0) K9 own_st0)
  have c23 := (own_Sta_keep (own_Sta_keep c6 K2 own_st0) K9 own_st0)
  have c24 := (own_Sta_keep (own_Sta_keep c7 K2 own_st0) K9 own_st0)
  have c25 := (own_Sta_keep (own_Sta_keep c8 K2 own_st0) K9 own_st0)
  obtain ⟨_, _, ⟨T19, L19, k19, n19⟩, -, X19, ⟨Lc19, hQ19, l19, y19, z19⟩, st19⟩ := Jvm.LawKit.callS X9 hx (y := (⟨"com/example/strikebook/strikebook/cli/MessageTypeOfPinLaw", "expected", "(J)Lcom/example/strikebook/strikebook/cli/MessageType;"⟩ : MethodName)) hown (mvT hZ (hw _ (List.mem_of_getElem? (i := 28) rfl))) (mvT hZ (hw _ (List.mem_of_getElem? (i := 29) rfl))) (mvT hZ (hw _ (List.mem_of_getElem? (i := 30) rfl))) (mvT hZ (hw _ (List.mem_of_getElem? (i := 31) rfl))) (by decide) (backOf (W := 1) (rk_expected l Z a0 hw [] w_MessageType_SUBMISSION w_MessageType_PARTIAL_CANCEL w_MessageType_DELETION w_MessageType_VISIBLE_EXECUTION w_MessageType_HIDDEN_EXECUTION w_MessageType_HALT p0 T9.heap n0 Z9 c20 c21 c22 c23 c24 c25) hZ (hw _ (List.mem_of_getElem? (i := 31) rfl)) (hw _ (List.mem_of_getElem? (i := 30) rfl)) (by decide) (by decide)) (g := (mkF m 44 #[own_jv p0, .second, iv p1, own_jv (((p1 &&& (15 : Int32)) - (4 : Int32)).toInt64), .second, own_jv ((p0 &&& (-16 : Int64)) ||| ((p1 &&& (15 : Int32)).toInt64)), .second, iv (1 : Int32), .unset, .unset] [(.long p0), u0_9])) rfl (by rw [hml]; rfl) (argsL := [(.long p0)]) (rest := [u0_9]) (lenOf pd_1 rfl) rfl (by rcases ref_cases hr_u0_9 with q0 | ⟨_, q0⟩ <;> subst q0 <;> exact Nat.le_of_eq rfl) (hb hby at_44) (fun _ _ => ⟨rfl, rfl, (by decide : 2 + 0 ≤ _), (by decide : 12 + 0 ≤ _)⟩)
  dsimp only [Pt.U, Pt.locs, Pt.cells, Pt.slots] at X19 l19 y19 z19 st19 hQ19
  subst l19 y19 z19
  obtain ⟨u0_19, rfl, hv_u0_19, hr_u0_19, N19q, K19⟩ := hQ19
  have KK19 : Keep h0 T19.heap [] := KK9.trans K19 all0
  have Z19 : n0 ≤ T19.heap.size := Nat.le_trans Z9 K19.1
  have N19 := Fr.app N9 N19q
  have c27 := (own_Sta_keep (own_Sta_keep c10 K9 own_st0) K19 own_st0)
  have c28 := ((c11.keep K9 nin0).keep K19 nin0)
  have c29 := ((c12.keep K9).keep K19)
  have c30 := ((c13.keep K9 nin0).keep K19 nin0)
  have c31 := ((c14.keep K9 nin0).keep K19 nin0)
  have c32 := ((c15.keep K9 nin0).keep K19 nin0)
  have c33 := ((c16.keep K9 nin0).keep K19 nin0)
  have c34 := ((c17.keep K9 nin0).keep K19 nin0)
  have c35 := ((c18.keep K9 nin0).keep K19 nin0)
  obtain ⟨_, _, ⟨T26, L26, k26, n26⟩, -, X26, ⟨Lc26, hQ26, l26, y26, z26⟩, st26⟩ := Jvm.LawKit.callS X19 hx (y := (⟨"com/example/strikebook/strikebook/cli/MessageType", "of", "(J)Lcom/example/strikebook/strikebook/cli/MessageType;"⟩ : MethodName)) hown (mvT hZ (hw _ (List.mem_of_getElem? (i := 1) rfl))) (mvT hZ (hw _ (List.mem_of_getElem? (i := 2) rfl))) (mvT hZ (hw _ (List.mem_of_getElem? (i := 3) rfl))) (mvT hZ (hw _ (List.mem_of_getElem? (i := 4) rfl))) (by decide) (backOf (W := 0) (rk_of l Z a0 hw [] w_MessageType__VALUES w_MessageType_SUBMISSION w_MessageType_PARTIAL_CANCEL w_MessageType_DELETION w_MessageType_VISIBLE_EXECUTION w_MessageType_HIDDEN_EXECUTION w_MessageType_HALT k_w_MessageType__VALUES ((p0 &&& (-16 : Int64)) ||| ((p1 &&& (15 : Int32)).toInt64)) T19.heap n0 Z19 c27 c28 c29 c30 c31 c32 c33 c34 c35) hZ (hw _ (List.mem_of_getElem? (i := 4) rfl)) (hw _ (List.mem_of_getElem? (i := 3) rfl)) (by decide) (by decide)) (g := (mkF m 59 #[own_jv p0, .second, iv p1, own_jv (((p1 &&& (15 : Int32)) - (4 : Int32)).toInt64), .second, own_jv ((p0 &&& (-16 : Int64)) ||| ((p1 &&& (15 : Int32)).toInt64)), .second, iv (1 : Int32), iv (1 : Int32), .unset] [(.long ((p0 &&& (-16 : Int64)) ||| ((p1 &&& (15 : Int32)).toInt64)))])) rfl (by rw [hml]; rfl) (argsL := [(.long ((p0 &&& (-16 : Int64)) ||| ((p1 &&& (15 : Int32)).toInt64)))]) (rest := []) (lenOf pd_1 rfl) rfl (by show 2 * 0 + _ ≤ _; exact Nat.le_of_eq rfl) (hb hby at_59) (fun _ _ => ⟨rfl, rfl, (by decide : 2 + 1 ≤ _), (by decide : 12 + 6 ≤ _)⟩)
  dsimp only [Pt.U, Pt.locs, Pt.cells, Pt.slots] at X26 l26 y26 z26 st26 hQ26
  subst l26 y26 z26
  obtain ⟨u0_26, rfl, hv_u0_26, hr_u0_26, N26q, K26⟩ := hQ26
  have KK26 : Keep h0 T26.heap [] := KK19.trans K26 all0
  have Z26 : n0 ≤ T26.heap.size := Nat.le_trans Z19 K26.1
  have N26 := Fr.app N19 N26q
  have c37 := (own_Sta_keep (own_Sta_keep c20 K19 own_st0) K26 own_st0)
  have c38 := (own_Sta_keep (own_Sta_keep c21 K19 own_st0) K26 own_st0)
  have c39 := (own_Sta_keep (own_Sta_keep c22 K19 own_st0) K26 own_st0)
  have c40 := (own_Sta_keep (own_Sta_keep c23 K19 own_st0) K26 own_st0)
  have c41 := (own_Sta_keep (own_Sta_keep c24 K19 own_st0) K26 own_st0)
  have c42 := (own_Sta_keep (own_Sta_keep c25 K19 own_st0) K26 own_st0)
  obtain ⟨_, _, ⟨T36, L36, k36, n36⟩, -, X36, ⟨Lc36, hQ36, l36, y36, z36⟩, st36⟩ := Jvm.LawKit.callS X26 hx (y := (⟨"com/example/strikebook/strikebook/cli/MessageTypeOfPinLaw", "expected", "(J)Lcom/example/strikebook/strikebook/cli/MessageType;"⟩ : MethodName)) hown (mvT hZ (hw _ (List.mem_of_getElem? (i := 28) rfl))) (mvT hZ (hw _ (List.mem_of_getElem? (i := 29) rfl))) (mvT hZ (hw _ (List.mem_of_getElem? (i := 30) rfl))) (mvT hZ (hw _ (List.mem_of_getElem? (i := 31) rfl))) (by decide) (backOf (W := 1) (rk_expected l Z a0 hw [] w_MessageType_SUBMISSION w_MessageType_PARTIAL_CANCEL w_MessageType_DELETION w_MessageType_VISIBLE_EXECUTION w_MessageType_HIDDEN_EXECUTION w_MessageType_HALT ((p0 &&& (-16 : Int64)) ||| ((p1 &&& (15 : Int32)).toInt64)) T26.heap n0 Z26 c37 c38 c39 c40 c41 c42) hZ (hw _ (List.mem_of_getElem? (i := 31) rfl)) (hw _ (List.mem_of_getElem? (i := 30) rfl)) (by decide) (by decide)) (g := (mkF m 64 #[own_jv p0, .second, iv p1, own_jv (((p1 &&& (15 : Int32)) - (4 : Int32)).toInt64), .second, own_jv ((p0 &&& (-16 : Int64)) ||| ((p1 &&& (15 : Int32)).toInt64)), .second, iv (1 : Int32), iv (1 : Int32), .unset] [(.long ((p0 &&& (-16 : Int64)) ||| ((p1 &&& (15 : Int32)).toInt64))), u0_26])) rfl (by rw [hml]; rfl) (argsL := [(.long ((p0 &&& (-16 : Int64)) ||| ((p1 &&& (15 : Int32)).toInt64)))]) (rest := [u0_26]) (lenOf pd_1 rfl) rfl (by rcases ref_cases hr_u0_26 with q0 | ⟨_, q0⟩ <;> subst q0 <;> exact Nat.le_of_eq rfl) (hb hby at_64) (fun _ _ => ⟨rfl, rfl, (by decide : 3 + 0 ≤ _), (by decide : 18 + 0 ≤ _)⟩)
  dsimp only [Pt.U, Pt.locs, Pt.cells, Pt.slots] at X36 l36 y36 z36 st36 hQ36
  subst l36 y36 z36
  obtain ⟨u0_36, rfl, hv_u0_36, hr_u0_36, N36q, K36⟩ := hQ36
  have KK36 : Keep h0 T36.heap [] := KK26.trans K36 all0
  have Z36 : n0 ≤ T36.heap.size := Nat.le_trans Z26 K36.1
  have N36 := Fr.app N26 N36q
  obtain ⟨fs, hr, hrun, hended, hW, hsame⟩ := X36.leave (v := (some (.int (1 : Int32)))) (fun h => by rw [Bd.returns] at h; cases h)
  refine ⟨_, _, pre0 _ ?_, hrun, hended, _, _, rfl, ?_, ⟨_, rfl⟩, hW, hsame.mono (by decide) (by decide)⟩
  · show Steps p.tables e below (s₁.setTop (mkF m 0 #[own_jv p0, .second, iv p1, .unset, .unset, .unset, .unset, .unset, .unset, .unset] [])) _
    refine XS.iloadN X0.here hx rfl (hb hby at_0) rfl ?_
    show Steps p.tables e below (s₁.setTop (mkF m 1 #[own_jv p0, .second, iv p1, .unset, .unset, .unset, .unset, .unset, .unset, .unset] [(.int p1)])) _
    refine XS.bipush X0.here hx rfl (hb hby at_1) ?_
    show Steps p.tables e below (s₁.setTop (mkF m 3 #[own_jv p0, .second, iv p1, .unset, .unset, .unset, .unset, .unset, .unset, .unset] [(.int (15 : Int32)), (.int p1)])) _
    refine XS.iand X0.here hx rfl (hb hby at_3) rfl ?_
    show Steps p.tables e below (s₁.setTop (mkF m 4 #[own_jv p0, .second, iv p1, .unset, .unset, .unset, .unset, .unset, .unset, .unset] [(.int (p1 &&& (15 : Int32)))])) _
    refine XS.iconst X0.here hx rfl (hb hby at_4) ?_
    show Steps p.tables e below (s₁.setTop (mkF m 5 #[own_jv p0, .second, iv p1, .unset, .unset, .unset, .unset, .unset, .unset, .unset] [(.int (4 : Int32)), (.int (p1 &&& (15 : Int32)))])) _
    refine XS.isub X0.here hx rfl (hb hby at_5) rfl ?_
    show Steps p.tables e below (s₁.setTop (mkF m 6 #[own_jv p0, .second, iv p1, .unset, .unset, .unset, .unset, .unset, .unset, .unset] [(.int ((p1 &&& (15 : Int32)) - (4 : Int32)))])) _
    refine XS.i2l X0.here hx rfl (hb hby at_6) rfl ?_
    show Steps p.tables e below (s₁.setTop (mkF m 7 #[own_jv p0, .second, iv p1, .unset, .unset, .unset, .unset, .unset, .unset, .unset] [(.long (((p1 &&& (15 : Int32)) - (4 : Int32)).toInt64))])) _
    refine XS.lstoreN X0.here hx rfl (hb hby at_7) rfl (l' := #[own_jv p0, .second, iv p1, own_jv (((p1 &&& (15 : Int32)) - (4 : Int32)).toInt64), .second, .unset, .unset, .unset, .unset, .unset]) rfl ?_
    show Steps p.tables e below (s₁.setTop (mkF m 8 #[own_jv p0, .second, iv p1, own_jv (((p1 &&& (15 : Int32)) - (4 : Int32)).toInt64), .second, .unset, .unset, .unset, .unset, .unset] [])) _
    refine XS.lloadN X0.here hx rfl (hb hby at_8) rfl ?_
    show Steps p.tables e below (s₁.setTop (mkF m 9 #[own_jv p0, .second, iv p1, own_jv (((p1 &&& (15 : Int32)) - (4 : Int32)).toInt64), .second, .unset, .unset, .unset, .unset, .unset] [(.long p0)])) _
    refine X0.ldc2Long hx hown (mvT hZ (hw _ (List.mem_of_getElem? (i := 0) rfl))) (g := (mkF m 9 #[own_jv p0, .second, iv p1, own_jv (((p1 &&& (15 : Int32)) - (4 : Int32)).toInt64), .second, .unset, .unset, .unset, .unset, .unset] [(.long p0)])) rfl (hb hby at_9) _ ?_
    show Steps p.tables e below (s₁.setTop (mkF m 12 #[own_jv p0, .second, iv p1, own_jv (((p1 &&& (15 : Int32)) - (4 : Int32)).toInt64), .second, .unset, .unset, .unset, .unset, .unset] [(.long (-16 : Int64)), (.long p0)])) _
    refine XS.land X0.here hx rfl (hb hby at_12) rfl ?_
    show Steps p.tables e below (s₁.setTop (mkF m 13 #[own_jv p0, .second, iv p1, own_jv (((p1 &&& (15 : Int32)) - (4 : Int32)).toInt64), .second, .unset, .unset, .unset, .unset, .unset] [(.long (p0 &&& (-16 : Int64)))])) _
    refine XS.iloadN X0.here hx rfl (hb hby at_13) rfl ?_
    show Steps p.tables e below (s₁.setTop (mkF m 14 #[own_jv p0, .second, iv p1, own_jv (((p1 &&& (15 : Int32)) - (4 : Int32)).toInt64), .second, .unset, .unset, .unset, .unset, .unset] [(.int p1), (.long (p0 &&& (-16 : Int64)))])) _
    refine XS.bipush X0.here hx rfl (hb hby at_14) ?_
    show Steps p.tables e below (s₁.setTop (mkF m 16 #[own_jv p0, .second, iv p1, own_jv (((p1 &&& (15 : Int32)) - (4 : Int32)).toInt64), .second, .unset, .unset, .unset, .unset, .unset] [(.int (15 : Int32)), (.int p1), (.long (p0 &&& (-16 : Int64)))])) _
    refine XS.iand X0.here hx rfl (hb hby at_16) rfl ?_
    show Steps p.tables e below (s₁.setTop (mkF m 17 #[own_jv p0, .second, iv p1, own_jv (((p1 &&& (15 : Int32)) - (4 : Int32)).toInt64), .second, .unset, .unset, .unset, .unset, .unset] [(.int (p1 &&& (15 : Int32))), (.long (p0 &&& (-16 : Int64)))])) _
    refine XS.i2l X0.here hx rfl (hb hby at_17) rfl ?_
    show Steps p.tables e below (s₁.setTop (mkF m 18 #[own_jv p0, .second, iv p1, own_jv (((p1 &&& (15 : Int32)) - (4 : Int32)).toInt64), .second, .unset, .unset, .unset, .unset, .unset] [(.long ((p1 &&& (15 : Int32)).toInt64)), (.long (p0 &&& (-16 : Int64)))])) _
    refine XS.lor X0.here hx rfl (hb hby at_18) rfl ?_
    show Steps p.tables e below (s₁.setTop (mkF m 19 #[own_jv p0, .second, iv p1, own_jv (((p1 &&& (15 : Int32)) - (4 : Int32)).toInt64), .second, .unset, .unset, .unset, .unset, .unset] [(.long ((p0 &&& (-16 : Int64)) ||| ((p1 &&& (15 : Int32)).toInt64)))])) _
    refine XS.lstore X0.here hx rfl (hb hby at_19) rfl (l' := #[own_jv p0, .second, iv p1, own_jv (((p1 &&& (15 : Int32)) - (4 : Int32)).toInt64), .second, own_jv ((p0 &&& (-16 : Int64)) ||| ((p1 &&& (15 : Int32)).toInt64)), .second, .unset, .unset, .unset]) rfl ?_
    show Steps p.tables e below (s₁.setTop (mkF m 21 #[own_jv p0, .second, iv p1, own_jv (((p1 &&& (15 : Int32)) - (4 : Int32)).toInt64), .second, own_jv ((p0 &&& (-16 : Int64)) ||| ((p1 &&& (15 : Int32)).toInt64)), .second, .unset, .unset, .unset] [])) _
    refine XS.lloadN X0.here hx rfl (hb hby at_21) rfl ?_
    show Steps p.tables e below (s₁.setTop (mkF m 22 #[own_jv p0, .second, iv p1, own_jv (((p1 &&& (15 : Int32)) - (4 : Int32)).toInt64), .second, own_jv ((p0 &&& (-16 : Int64)) ||| ((p1 &&& (15 : Int32)).toInt64)), .second, .unset, .unset, .unset] [(.long (((p1 &&& (15 : Int32)) - (4 : Int32)).toInt64))])) _
    refine st1 _ ?_
    show Steps p.tables e below (T1.setTop (mkF m 25 #[own_jv p0, .second, iv p1, own_jv (((p1 &&& (15 : Int32)) - (4 : Int32)).toInt64), .second, own_jv ((p0 &&& (-16 : Int64)) ||| ((p1 &&& (15 : Int32)).toInt64)), .second, .unset, .unset, .unset] [u0_1])) _
    refine XS.lloadN X1.here hx rfl (hb hby at_25) rfl ?_
    show Steps p.tables e below (T1.setTop (mkF m 26 #[own_jv p0, .second, iv p1, own_jv (((p1 &&& (15 : Int32)) - (4 : Int32)).toInt64), .second, own_jv ((p0 &&& (-16 : Int64)) ||| ((p1 &&& (15 : Int32)).toInt64)), .second, .unset, .unset, .unset] [(.long (((p1 &&& (15 : Int32)) - (4 : Int32)).toInt64)), u0_1])) _
    refine st2 _ ?_
    show Steps p.tables e below (T2.setTop (mkF m 29 #[own_jv p0, .second, iv p1, own_jv (((p1 &&& (15 : Int32)) - (4 : Int32)).toInt64), .second, own_jv ((p0 &&& (-16 : Int64)) ||| ((p1 &&& (15 : Int32)).toInt64)), .second, .unset, .unset, .unset] [u0_2, u0_1])) _
    refine Jvm.RoadKit.acmp (g := (mkF m 29 #[own_jv p0, .second, iv p1, own_jv (((p1 &&& (15 : Int32)) - (4 : Int32)).toInt64), .second, own_jv ((p0 &&& (-16 : Int64)) ||| ((p1 &&& (15 : Int32)).toInt64)), .second, .unset, .unset, .unset] [u0_2, u0_1])) X2 hx rfl hr_u0_1 hr_u0_2 (pc0 := 29) (pc' := 32) (same := true) rfl (hb hby at_29) rfl (decide_eq_true (hv_u0_1.trans hv_u0_2.symm)) (by decide) (by decide) ?_
    show Steps p.tables e below (T2.setTop (mkF m 32 #[own_jv p0, .second, iv p1, own_jv (((p1 &&& (15 : Int32)) - (4 : Int32)).toInt64), .second, own_jv ((p0 &&& (-16 : Int64)) ||| ((p1 &&& (15 : Int32)).toInt64)), .second, .unset, .unset, .unset] [])) _
    refine XS.iconst X2.here hx rfl (hb hby at_32) ?_
    show Steps p.tables e below (T2.setTop (mkF m 33 #[own_jv p0, .second, iv p1, own_jv (((p1 &&& (15 : Int32)) - (4 : Int32)).toInt64), .second, own_jv ((p0 &&& (-16 : Int64)) ||| ((p1 &&& (15 : Int32)).toInt64)), .second, .unset, .unset, .unset] [(.int (1 : Int32))])) _
    refine XS.goto X2.here hx rfl (pc0 := 33) (pc' := 37) rfl (hb hby at_33) (by decide) (by decide) ?_
    show Steps p.tables e below (T2.setTop (mkF m 37 #[own_jv p0, .second, iv p1, own_jv (((p1 &&& (15 : Int32)) - (4 : Int32)).toInt64), .second, own_jv ((p0 &&& (-16 : Int64)) ||| ((p1 &&& (15 : Int32)).toInt64)), .second, .unset, .unset, .unset] [(.int (1 : Int32))])) _
    refine XS.istore X2.here hx rfl (hb hby at_37) rfl (l' := #[own_jv p0, .second, iv p1, own_jv (((p1 &&& (15 : Int32)) - (4 : Int32)).toInt64), .second, own_jv ((p0 &&& (-16 : Int64)) ||| ((p1 &&& (15 : Int32)).toInt64)), .second, iv (1 : Int32), .unset, .unset]) rfl ?_
    show Steps p.tables e below (T2.setTop (mkF m 39 #[own_jv p0, .second, iv p1, own_jv (((p1 &&& (15 : Int32)) - (4 : Int32)).toInt64), .second, own_jv ((p0 &&& (-16 : Int64)) ||| ((p1 &&& (15 : Int32)).toInt64)), .second, iv (1 : Int32), .unset, .unset] [])) _
    refine XS.lloadN X2.here hx rfl (hb hby at_39) rfl ?_
    show Steps p.tables e below (T2.setTop (mkF m 40 #[own_jv p0, .second, iv p1, own_jv (((p1 &&& (15 : Int32)) - (4 : Int32)).toInt64), .second, own_jv ((p0 &&& (-16 : Int64)) ||| ((p1 &&& (15 : Int32)).toInt64)), .second, iv (1 : Int32), .unset, .unset] [(.long p0)])) _
    refine st9 _ ?_
    show Steps p.tables e below (T9.setTop (mkF m 43 #[own_jv p0, .second, iv p1, own_jv (((p1 &&& (15 : Int32)) - (4 : Int32)).toInt64), .second, own_jv ((p0 &&& (-16 : Int64)) ||| ((p1 &&& (15 : Int32)).toInt64)), .second, iv (1 : Int32), .unset, .unset] [u0_9])) _
    refine XS.lloadN X9.here hx rfl (hb hby at_43) rfl ?_
    show Steps p.tables e below (T9.setTop (mkF m 44 #[own_jv p0, .second, iv p1, own_jv (((p1 &&& (15 : Int32)) - (4 : Int32)).toInt64), .second, own_jv ((p0 &&& (-16 : Int64)) ||| ((p1 &&& (15 : Int32)).toInt64)), .second, iv (1 : Int32), .unset, .unset] [(.long p0), u0_9])) _
    refine st19 _ ?_
    show Steps p.tables e below (T19.setTop (mkF m 47 #[own_jv p0, .second, iv p1, own_jv (((p1 &&& (15 : Int32)) - (4 : Int32)).toInt64), .second, own_jv ((p0 &&& (-16 : Int64)) ||| ((p1 &&& (15 : Int32)).toInt64)), .second, iv (1 : Int32), .unset, .unset] [u0_19, u0_9])) _
    refine Jvm.RoadKit.acmp (g := (mkF m 47 #[own_jv p0, .second, iv p1, own_jv (((p1 &&& (15 : Int32)) - (4 : Int32)).toInt64), .second, own_jv ((p0 &&& (-16 : Int64)) ||| ((p1 &&& (15 : Int32)).toInt64)), .second, iv (1 : Int32), .unset, .unset] [u0_19, u0_9])) X19 hx rfl hr_u0_9 hr_u0_19 (pc0 := 47) (pc' := 50) (same := true) rfl (hb hby at_47) rfl (decide_eq_true (hv_u0_9.trans hv_u0_19.symm)) (by decide) (by decide) ?_
    show Steps p.tables e below (T19.setTop (mkF m 50 #[own_jv p0, .second, iv p1, own_jv (((p1 &&& (15 : Int32)) - (4 : Int32)).toInt64), .second, own_jv ((p0 &&& (-16 : Int64)) ||| ((p1 &&& (15 : Int32)).toInt64)), .second, iv (1 : Int32), .unset, .unset] [])) _
    refine XS.iconst X19.here hx rfl (hb hby at_50) ?_
    show Steps p.tables e below (T19.setTop (mkF m 51 #[own_jv p0, .second, iv p1, own_jv (((p1 &&& (15 : Int32)) - (4 : Int32)).toInt64), .second, own_jv ((p0 &&& (-16 : Int64)) ||| ((p1 &&& (15 : Int32)).toInt64)), .second, iv (1 : Int32), .unset, .unset] [(.int (1 : Int32))])) _
    refine XS.goto X19.here hx rfl (pc0 := 51) (pc' := 55) rfl (hb hby at_51) (by decide) (by decide) ?_
    show Steps p.tables e below (T19.setTop (mkF m 55 #[own_jv p0, .second, iv p1, own_jv (((p1 &&& (15 : Int32)) - (4 : Int32)).toInt64), .second, own_jv ((p0 &&& (-16 : Int64)) ||| ((p1 &&& (15 : Int32)).toInt64)), .second, iv (1 : Int32), .unset, .unset] [(.int (1 : Int32))])) _
    refine XS.istore X19.here hx rfl (hb hby at_55) rfl (l' := #[own_jv p0, .second, iv p1, own_jv (((p1 &&& (15 : Int32)) - (4 : Int32)).toInt64), .second, own_jv ((p0 &&& (-16 : Int64)) ||| ((p1 &&& (15 : Int32)).toInt64)), .second, iv (1 : Int32), iv (1 : Int32), .unset]) rfl ?_
    show Steps p.tables e below (T19.setTop (mkF m 57 #[own_jv p0, .second, iv p1, own_jv (((p1 &&& (15 : Int32)) - (4 : Int32)).toInt64), .second, own_jv ((p0 &&& (-16 : Int64)) ||| ((p1 &&& (15 : Int32)).toInt64)), .second, iv (1 : Int32), iv (1 : Int32), .unset] [])) _
    refine XS.lload X19.here hx rfl (hb hby at_57) rfl ?_
    show Steps p.tables e below (T19.setTop (mkF m 59 #[own_jv p0, .second, iv p1, own_jv (((p1 &&& (15 : Int32)) - (4 : Int32)).toInt64), .second, own_jv ((p0 &&& (-16 : Int64)) ||| ((p1 &&& (15 : Int32)).toInt64)), .second, iv (1 : Int32), iv (1 : Int32), .unset] [(.long ((p0 &&& (-16 : Int64)) ||| ((p1 &&& (15 : Int32)).toInt64)))])) _
    refine st26 _ ?_
    show Steps p.tables e below (T26.setTop (mkF m 62 #[own_jv p0, .second, iv p1, own_jv (((p1 &&& (15 : Int32)) - (4 : Int32)).toInt64), .second, own_jv ((p0 &&& (-16 : Int64)) ||| ((p1 &&& (15 : Int32)).toInt64)), .second, iv (1 : Int32), iv (1 : Int32), .unset] [u0_26])) _
    refine XS.lload X26.here hx rfl (hb hby at_62) rfl ?_
    show Steps p.tables e below (T26.setTop (mkF m 64 #[own_jv p0, .second, iv p1, own_jv (((p1 &&& (15 : Int32)) - (4 : Int32)).toInt64), .second, own_jv ((p0 &&& (-16 : Int64)) ||| ((p1 &&& (15 : Int32)).toInt64)), .second, iv (1 : Int32), iv (1 : Int32), .unset] [(.long ((p0 &&& (-16 : Int64)) ||| ((p1 &&& (15 : Int32)).toInt64))), u0_26])) _
    refine st36 _ ?_
    show Steps p.tables e below (T36.setTop (mkF m 67 #[own_jv p0, .second, iv p1, own_jv (((p1 &&& (15 : Int32)) - (4 : Int32)).toInt64), .second, own_jv ((p0 &&& (-16 : Int64)) ||| ((p1 &&& (15 : Int32)).toInt64)), .second, iv (1 : Int32), iv (1 : Int32), .unset] [u0_36, u0_26])) _
    refine Jvm.RoadKit.acmp (g := (mkF m 67 #[own_jv p0, .second, iv p1, own_jv (((p1 &&& (15 : Int32)) - (4 : Int32)).toInt64), .second, own_jv ((p0 &&& (-16 : Int64)) ||| ((p1 &&& (15 : Int32)).toInt64)), .second, iv (1 : Int32), iv (1 : Int32), .unset] [u0_36, u0_26])) X36 hx rfl hr_u0_26 hr_u0_36 (pc0 := 67) (pc' := 70) (same := true) rfl (hb hby at_67) rfl (decide_eq_true (hv_u0_26.trans hv_u0_36.symm)) (by decide) (by decide) ?_
    show Steps p.tables e below (T36.setTop (mkF m 70 #[own_jv p0, .second, iv p1, own_jv (((p1 &&& (15 : Int32)) - (4 : Int32)).toInt64), .second, own_jv ((p0 &&& (-16 : Int64)) ||| ((p1 &&& (15 : Int32)).toInt64)), .second, iv (1 : Int32), iv (1 : Int32), .unset] [])) _
    refine XS.iconst X36.here hx rfl (hb hby at_70) ?_
    show Steps p.tables e below (T36.setTop (mkF m 71 #[own_jv p0, .second, iv p1, own_jv (((p1 &&& (15 : Int32)) - (4 : Int32)).toInt64), .second, own_jv ((p0 &&& (-16 : Int64)) ||| ((p1 &&& (15 : Int32)).toInt64)), .second, iv (1 : Int32), iv (1 : Int32), .unset] [(.int (1 : Int32))])) _
    refine XS.goto X36.here hx rfl (pc0 := 71) (pc' := 75) rfl (hb hby at_71) (by decide) (by decide) ?_
    show Steps p.tables e below (T36.setTop (mkF m 75 #[own_jv p0, .second, iv p1, own_jv (((p1 &&& (15 : Int32)) - (4 : Int32)).toInt64), .second, own_jv ((p0 &&& (-16 : Int64)) ||| ((p1 &&& (15 : Int32)).toInt64)), .second, iv (1 : Int32), iv (1 : Int32), .unset] [(.int (1 : Int32))])) _
    refine XS.istore X36.here hx rfl (hb hby at_75) rfl (l' := #[own_jv p0, .second, iv p1, own_jv (((p1 &&& (15 : Int32)) - (4 : Int32)).toInt64), .second, own_jv ((p0 &&& (-16 : Int64)) ||| ((p1 &&& (15 : Int32)).toInt64)), .second, iv (1 : Int32), iv (1 : Int32), iv (1 : Int32)]) rfl ?_
    show Steps p.tables e below (T36.setTop (mkF m 77 #[own_jv p0, .second, iv p1, own_jv (((p1 &&& (15 : Int32)) - (4 : Int32)).toInt64), .second, own_jv ((p0 &&& (-16 : Int64)) ||| ((p1 &&& (15 : Int32)).toInt64)), .second, iv (1 : Int32), iv (1 : Int32), iv (1 : Int32)] [])) _
    refine XS.iload X36.here hx rfl (hb hby at_77) rfl ?_
    show Steps p.tables e below (T36.setTop (mkF m 79 #[own_jv p0, .second, iv p1, own_jv (((p1 &&& (15 : Int32)) - (4 : Int32)).toInt64), .second, own_jv ((p0 &&& (-16 : Int64)) ||| ((p1 &&& (15 : Int32)).toInt64)), .second, iv (1 : Int32), iv (1 : Int32), iv (1 : Int32)] [(.int (1 : Int32))])) _
    refine XS.ifNo X36.here hx rfl (hb hby at_79) rfl ((if0 _ _).trans (feq (by decide +kernel : ¬ ((1 : Int32) = (0 : Int32)))).1) ?_
    show Steps p.tables e below (T36.setTop (mkF m 82 #[own_jv p0, .second, iv p1, own_jv (((p1 &&& (15 : Int32)) - (4 : Int32)).toInt64), .second, own_jv ((p0 &&& (-16 : Int64)) ||| ((p1 &&& (15 : Int32)).toInt64)), .second, iv (1 : Int32), iv (1 : Int32), iv (1 : Int32)] [])) _
    refine XS.iload X36.here hx rfl (hb hby at_82) rfl ?_
    show Steps p.tables e below (T36.setTop (mkF m 84 #[own_jv p0, .second, iv p1, own_jv (((p1 &&& (15 : Int32)) - (4 : Int32)).toInt64), .second, own_jv ((p0 &&& (-16 : Int64)) ||| ((p1 &&& (15 : Int32)).toInt64)), .second, iv (1 : Int32), iv (1 : Int32), iv (1 : Int32)] [(.int (1 : Int32))])) _
    refine XS.ifNo X36.here hx rfl (hb hby at_84) rfl ((if0 _ _).trans (feq (by decide +kernel : ¬ ((1 : Int32) = (0 : Int32)))).1) ?_
    show Steps p.tables e below (T36.setTop (mkF m 87 #[own_jv p0, .second, iv p1, own_jv (((p1 &&& (15 : Int32)) - (4 : Int32)).toInt64), .second, own_jv ((p0 &&& (-16 : Int64)) ||| ((p1 &&& (15 : Int32)).toInt64)), .second, iv (1 : Int32), iv (1 : Int32), iv (1 : Int32)] [])) _
    refine XS.iload X36.here hx rfl (hb hby at_87) rfl ?_
    show Steps p.tables e below (T36.setTop (mkF m 89 #[own_jv p0, .second, iv p1, own_jv (((p1 &&& (15 : Int32)) - (4 : Int32)).toInt64), .second, own_jv ((p0 &&& (-16 : Int64)) ||| ((p1 &&& (15 : Int32)).toInt64)), .second, iv (1 : Int32), iv (1 : Int32), iv (1 : Int32)] [(.int (1 : Int32))])) _
    refine XS.ifNo X36.here hx rfl (hb hby at_89) rfl ((if0 _ _).trans (feq (by decide +kernel : ¬ ((1 : Int32) = (0 : Int32)))).1) ?_
    show Steps p.tables e below (T36.setTop (mkF m 92 #[own_jv p0, .second, iv p1, own_jv (((p1 &&& (15 : Int32)) - (4 : Int32)).toInt64), .second, own_jv ((p0 &&& (-16 : Int64)) ||| ((p1 &&& (15 : Int32)).toInt64)), .second, iv (1 : Int32), iv (1 : Int32), iv (1 : Int32)] [])) _
    refine XS.iconst X36.here hx rfl (hb hby at_92) ?_
    show Steps p.tables e below (T36.setTop (mkF m 93 #[own_jv p0, .second, iv p1, own_jv (((p1 &&& (15 : Int32)) - (4 : Int32)).toInt64), .second, own_jv ((p0 &&& (-16 : Int64)) ||| ((p1 &&& (15 : Int32)).toInt64)), .second, iv (1 : Int32), iv (1 : Int32), iv (1 : Int32)] [(.int (1 : Int32))])) _
    refine XS.goto X36.here hx rfl (pc0 := 93) (pc' := 97) rfl (hb hby at_93) (by decide) (by decide) ?_
    show Steps p.tables e below (T36.setTop (mkF m 97 #[own_jv p0, .second, iv p1, own_jv (((p1 &&& (15 : Int32)) - (4 : Int32)).toInt64), .second, own_jv ((p0 &&& (-16 : Int64)) ||| ((p1 &&& (15 : Int32)).toInt64)), .second, iv (1 : Int32), iv (1 : Int32), iv (1 : Int32)] [(.int (1 : Int32))])) _
    exact retN X36 hx (t := .boolean) Bd.returns (by simp) (hb hby at_97) hr
  · exact ⟨rfl, N36⟩
theorem rm0 (l : Launch) (Z : State) (a0 : Array Value) (hw : ∀ d ∈ tables_1, d.before a0 Z = true) (ws : List Jvm.Cond) (p0 : Int64) (p1 : Int32) (w_MessageType__VALUES : Addr) (w_MessageType_SUBMISSION : Addr) (w_MessageType_PARTIAL_CANCEL : Addr) (w_MessageType_DELETION : Addr) (w_MessageType_VISIBLE_EXECUTION : Addr) (w_MessageType_HIDDEN_EXECUTION : Addr) (w_MessageType_HALT : Addr) (k_w_MessageType__VALUES : ClassId) (h0 : Heap) (n0 : Nat) (Z0 : n0 ≤ h0.size) (S_MessageType__VALUES : Sta Z h0 "com/example/strikebook/strikebook/cli/MessageType" "$VALUES" "[Lcom/example/strikebook/strikebook/cli/MessageType;" (.ref w_MessageType__VALUES)) (V_w_MessageType__VALUES : Arv Z h0 w_MessageType__VALUES k_w_MessageType__VALUES (.object "com/example/strikebook/strikebook/cli/MessageType") (6 : Int32) [(.ref w_MessageType_SUBMISSION), (.ref w_MessageType_PARTIAL_CANCEL), (.ref w_MessageType_DELETION), (.ref w_MessageType_VISIBLE_EXECUTION), (.ref w_MessageType_HIDDEN_EXECUTION), (.ref w_MessageType_HALT)] .null) (E_w_MessageType__VALUES : Exa Z h0 w_MessageType__VALUES "[Lcom/example/strikebook/strikebook/cli/MessageType;") (F_w_MessageType_SUBMISSION_code : Fld Z h0 w_MessageType_SUBMISSION "com/example/strikebook/strikebook/cli/MessageType" "code" "I" (.int (1 : Int32))) (F_w_MessageType_PARTIAL_CANCEL_code : Fld Z h0 w_MessageType_PARTIAL_CANCEL "com/example/strikebook/strikebook/cli/MessageType" "code" "I" (.int (2 : Int32))) (F_w_MessageType_DELETION_code : Fld Z h0 w_MessageType_DELETION "com/example/strikebook/strikebook/cli/MessageType" "code" "I" (.int (3 : Int32))) (F_w_MessageType_VISIBLE_EXECUTION_code : Fld Z h0 w_MessageType_VISIBLE_EXECUTION "com/example/strikebook/strikebook/cli/MessageType" "code" "I" (.int (4 : Int32))) (F_w_MessageType_HIDDEN_EXECUTION_code : Fld Z h0 w_MessageType_HIDDEN_EXECUTION "com/example/strikebook/strikebook/cli/MessageType" "code" "I" (.int (5 : Int32))) (F_w_MessageType_HALT_code : Fld Z h0 w_MessageType_HALT "com/example/strikebook/strikebook/cli/MessageType" "code" "I" (.int (7 : Int32))) (S_MessageType_SUBMISSION : Sta Z h0 "com/example/strikebook/strikebook/cli/MessageType" "SUBMISSION" "Lcom/example/strikebook/strikebook/cli/MessageType;" (.ref w_MessageType_SUBMISSION)) (S_MessageType_PARTIAL_CANCEL : Sta Z h0 "com/example/strikebook/strikebook/cli/MessageType" "PARTIAL_CANCEL" "Lcom/example/strikebook/strikebook/cli/MessageType;" (.ref w_MessageType_PARTIAL_CANCEL)) (S_MessageType_DELETION : Sta Z h0 "com/example/strikebook/strikebook/cli/MessageType" "DELETION" "Lcom/example/strikebook/strikebook/cli/MessageType;" (.ref w_MessageType_DELETION)) (S_MessageType_VISIBLE_EXECUTION : Sta Z h0 "com/example/strikebook/strikebook/cli/MessageType" "VISIBLE_EXECUTION" "Lcom/example/strikebook/strikebook/cli/MessageType;" (.ref w_MessageType_VISIBLE_EXECUTION)) (S_MessageType_HIDDEN_EXECUTION : Sta Z h0 "com/example/strikebook/strikebook/cli/MessageType" "HIDDEN_EXECUTION" "Lcom/example/strikebook/strikebook/cli/MessageType;" (.ref w_MessageType_HIDDEN_EXECUTION)) (S_MessageType_HALT : Sta Z h0 "com/example/strikebook/strikebook/cli/MessageType" "HALT" "Lcom/example/strikebook/strikebook/cli/MessageType;" (.ref w_MessageType_HALT)) :
    MetFree l x (head1 (Jvm.Cond.code x code maxLocals ret :: ws) room_1) (fun a U => a = #[(.long p0), (.int p1)] ∧ Z.Warmed39 U.vm ∧ U.heap = h0) (fun _ _ _ _ _ => True) (fun _ U o U' => ∃ v L, o = .returned v ∧ own_QL n0 v U'.heap L ∧ FrameEnd U o U' L room_1.cells room_1.slots) := by
  exact rm0_0 l Z a0 hw ws p0 p1 w_MessageType__VALUES w_MessageType_SUBMISSION w_MessageType_PARTIAL_CANCEL w_MessageType_DELETION w_MessageType_VISIBLE_EXECUTION w_MessageType_HIDDEN_EXECUTION w_MessageType_HALT k_w_MessageType__VALUES h0 n0 Z0 S_MessageType__VALUES V_w_MessageType__VALUES E_w_MessageType__VALUES F_w_MessageType_SUBMISSION_code F_w_MessageType_PARTIAL_CANCEL_code F_w_MessageType_DELETION_code F_w_MessageType_VISIBLE_EXECUTION_code F_w_MessageType_HIDDEN_EXECUTION_code F_w_MessageType_HALT_code S_MessageType_SUBMISSION S_MessageType_PARTIAL_CANCEL S_MessageType_DELETION S_MessageType_VISIBLE_EXECUTION S_MessageType_HIDDEN_EXECUTION S_MessageType_HALT
set_option maxRecDepth 65536 in
set_option maxHeartbeats 40000000 in
theorem comes_1 {Post : Tables → Env → Array Value → State → Outcome → State → Prop} (hpost : ∀ tb e args s v u, (limb_1_1.after args s (.returned v) u = true ∧ limb_1_2.after args s (.returned v) u = true ∧ True) → FrameEnd s (.returned v) u (Jvm.fieldLocs frame_1_writes args s ++ Jvm.arrayLocs frame_1_arrays args s ++ Jvm.staticLocs frame_1_statics s) 16 128 → Post tb e args s (.returned v) u) :
    ArmFor flags0 classFile x code maxLocals ret World_1 tables_1 room_1 Calls_1 rest_1 Pre_1 Post := by
  intro l hfl _ _ p e ha hc hk s m args below hf hA hF happ hP
  obtain ⟨hcalls, hrest, hpre⟩ := hP
  obtain ⟨-, -, -, hnamed, -, -, -, hat⟩ := (Spec.applies_iff hf).mp happ
  obtain ⟨hg, hn⟩ := and_e (Cond.before_iff.mp (show (Jvm.Cond.and given_1 narrow_1).before args s = true from hpre))
  obtain ⟨g0, g0r⟩ := and_e hg
  obtain ⟨g1, g1r⟩ := and_e g0r
  obtain ⟨v0, v1, rfl⟩ : ∃ v0 v1 : Value, args = #[v0, v1] := by
    have hs : args.size = 2 := by simpa [Cond.value, given_1] using g0
    obtain ⟨L⟩ := args
    match L, hs with
    | [v0, v1], _ => exact ⟨v0, v1, rfl⟩
  have hw := fun d (hd : d ∈ tables_1) => atoms_spec (ws := Jvm.Cond.code x code maxLocals ret :: tables_1) hat d (List.mem_cons_of_mem _ hd)
  have hfit : Fit s := fun {y c} hc i hi => by
    obtain ⟨ha, rfl⟩ := Array.getElem?_eq_some_iff.mp hc
    have q := List.all_eq_true.mp ((Array.all_eq_true_iff_forall_mem.mp hF) _ (Array.getElem_mem ha)) i (List.mem_range.mpr hi)
    simpa [Array.getElem?_eq_getElem hi] using q
  obtain ⟨p0, ei0⟩ := isL_v g1
  obtain rfl : v0 = (.long p0) := Option.some.inj ei0
  obtain ⟨p1, ei1⟩ := is_v g1r
  obtain rfl : v1 = (.int p1) := Option.some.inj ei1
  obtain ⟨n0, n0r⟩ := and_e hn
  obtain ⟨n1, n1r⟩ := and_e n0r
  obtain ⟨n2, n2r⟩ := and_e n1r
  obtain ⟨n3, n3r⟩ := and_e n2r
  obtain ⟨n4, n4r⟩ := and_e n3r
  obtain ⟨n5, n5r⟩ := and_e n4r
  obtain ⟨n6, n6r⟩ := and_e n5r
  obtain ⟨n7, n7r⟩ := and_e n6r
  obtain ⟨n8, n8r⟩ := and_e n7r
  obtain ⟨n9, n9r⟩ := and_e n8r
  obtain ⟨n10, n10r⟩ := and_e n9r
  obtain ⟨n11, n11r⟩ := and_e n10r
  obtain ⟨n12, n12r⟩ := and_e n11r
  obtain ⟨n13, n13r⟩ := and_e n12r
  obtain ⟨n14, n14r⟩ := and_e n13r
  obtain ⟨n15, n15r⟩ := and_e n14r
  obtain ⟨n16, n16r⟩ := and_e n15r
  obtain ⟨n17, n17r⟩ := and_e n16r
  obtain ⟨n18, n18r⟩ := and_e n17r
  obtain ⟨n19, n19r⟩ := and_e n18r
  obtain ⟨w_MessageType__VALUES, ev_w_MessageType__VALUES⟩ := exa_v n1
  have S_MessageType__VALUES : Sta s s.heap "com/example/strikebook/strikebook/cli/MessageType" "$VALUES" "[Lcom/example/strikebook/strikebook/cli/MessageType;" (.ref w_MessageType__VALUES) := Sta.start ev_w_MessageType__VALUES (Or.inl (hw _ (List.mem_of_getElem? (i := 23) rfl)))
  have E_w_MessageType__VALUES : Exa s s.heap w_MessageType__VALUES "[Lcom/example/strikebook/strikebook/cli/MessageType;" := Exa.start ev_w_MessageType__VALUES n1
  obtain ⟨w_MessageType_SUBMISSION, ev_w_MessageType_SUBMISSION⟩ := exa_v n3
  have S_MessageType_SUBMISSION : Sta s s.heap "com/example/strikebook/strikebook/cli/MessageType" "SUBMISSION" "Lcom/example/strikebook/strikebook/cli/MessageType;" (.ref w_MessageType_SUBMISSION) := Sta.start ev_w_MessageType_SUBMISSION (Or.inr ⟨(hw _ (List.mem_of_getElem? (i := 3) rfl)), (hw _ (List.mem_of_getElem? (i := 17) rfl))⟩)
  have E_w_MessageType_SUBMISSION : Exa s s.heap w_MessageType_SUBMISSION "com/example/strikebook/strikebook/cli/MessageType" := Exa.start ev_w_MessageType_SUBMISSION n3
  obtain ⟨w_MessageType_PARTIAL_CANCEL, ev_w_MessageType_PARTIAL_CANCEL⟩ := exa_v n5
  have S_MessageType_PARTIAL_CANCEL : Sta s s.heap "com/example/strikebook/strikebook/cli/MessageType" "PARTIAL_CANCEL" "Lcom/example/strikebook/strikebook/cli/MessageType;" (.ref w_MessageType_PARTIAL_CANCEL) := Sta.start ev_w_MessageType_PARTIAL_CANCEL (Or.inr ⟨(hw _ (List.mem_of_getElem? (i := 3) rfl)), (hw _ (List.mem_of_getElem? (i := 18) rfl))⟩)
  have E_w_MessageType_PARTIAL_CANCEL : Exa s s.heap w_MessageType_PARTIAL_CANCEL "com/example/strikebook/strikebook/cli/MessageType" := Exa.start ev_w_MessageType_PARTIAL_CANCEL n5
  obtain ⟨w_MessageType_DELETION, ev_w_MessageType_DELETION⟩ := exa_v n7
  have S_MessageType_DELETION : Sta s s.heap "com/example/strikebook/strikebook/cli/MessageType" "DELETION" "Lcom/example/strikebook/strikebook/cli/MessageType;" (.ref w_MessageType_DELETION) := Sta.start ev_w_MessageType_DELETION (Or.inr ⟨(hw _ (List.mem_of_getElem? (i := 3) rfl)), (hw _ (List.mem_of_getElem? (i := 19) rfl))⟩)
  have E_w_MessageType_DELETION : Exa s s.heap w_MessageType_DELETION "com/example/strikebook/strikebook/cli/MessageType" := Exa.start ev_w_MessageType_DELETION n7
  obtain ⟨w_MessageType_VISIBLE_EXECUTION, ev_w_MessageType_VISIBLE_EXECUTION⟩ := exa_v n9
  have S_MessageType_VISIBLE_EXECUTION : Sta s s.heap "com/example/strikebook/strikebook/cli/MessageType" "VISIBLE_EXECUTION" "Lcom/example/strikebook/strikebook/cli/MessageType;" (.ref w_MessageType_VISIBLE_EXECUTION) := Sta.start ev_w_MessageType_VISIBLE_EXECUTION (Or.inr ⟨(hw _ (List.mem_of_getElem? (i := 3) rfl)), (hw _ (List.mem_of_getElem? (i := 20) rfl))⟩)
  have E_w_MessageType_VISIBLE_EXECUTION : Exa s s.heap w_MessageType_VISIBLE_EXECUTION "com/example/strikebook/strikebook/cli/MessageType" := Exa.start ev_w_MessageType_VISIBLE_EXECUTION n9
  obtain ⟨w_MessageType_HIDDEN_EXECUTION, ev_w_MessageType_HIDDEN_EXECUTION⟩ := exa_v n11
  have S_MessageType_HIDDEN_EXECUTION : Sta s s.heap "com/example/strikebook/strikebook/cli/MessageType" "HIDDEN_EXECUTION" "Lcom/example/strikebook/strikebook/cli/MessageType;" (.ref w_MessageType_HIDDEN_EXECUTION) := Sta.start ev_w_MessageType_HIDDEN_EXECUTION (Or.inr ⟨(hw _ (List.mem_of_getElem? (i := 3) rfl)), (hw _ (List.mem_of_getElem? (i := 21) rfl))⟩)
  have E_w_MessageType_HIDDEN_EXECUTION : Exa s s.heap w_MessageType_HIDDEN_EXECUTION "com/example/strikebook/strikebook/cli/MessageType" := Exa.start ev_w_MessageType_HIDDEN_EXECUTION n11
  obtain ⟨w_MessageType_HALT, ev_w_MessageType_HALT⟩ := exa_v n13
  have S_MessageType_HALT : Sta s s.heap "com/example/strikebook/strikebook/cli/MessageType" "HALT" "Lcom/example/strikebook/strikebook/cli/MessageType;" (.ref w_MessageType_HALT) := Sta.start ev_w_MessageType_HALT (Or.inr ⟨(hw _ (List.mem_of_getElem? (i := 3) rfl)), (hw _ (List.mem_of_getElem? (i := 22) rfl))⟩)
  have E_w_MessageType_HALT : Exa s s.heap w_MessageType_HALT "com/example/strikebook/strikebook/cli/MessageType" := Exa.start ev_w_MessageType_HALT n13
  have F_w_MessageType_SUBMISSION_code : Fld s s.heap w_MessageType_SUBMISSION "com/example/strikebook/strikebook/cli/MessageType" "code" "I" (.int (1 : Int32)) := Fld.start ((fld_at ev_w_MessageType_SUBMISSION).symm.trans (own_eqv n15 (Term.int_eval _) (Or.inr ⟨_, rfl⟩)))
  have F_w_MessageType_PARTIAL_CANCEL_code : Fld s s.heap w_MessageType_PARTIAL_CANCEL "com/example/strikebook/strikebook/cli/MessageType" "code" "I" (.int (2 : Int32)) := Fld.start ((fld_at ev_w_MessageType_PARTIAL_CANCEL).symm.trans (own_eqv n16 (Term.int_eval _) (Or.inr ⟨_, rfl⟩)))
  have F_w_MessageType_DELETION_code : Fld s s.heap w_MessageType_DELETION "com/example/strikebook/strikebook/cli/MessageType" "code" "I" (.int (3 : Int32)) := Fld.start ((fld_at ev_w_MessageType_DELETION).symm.trans (own_eqv n17 (Term.int_eval _) (Or.inr ⟨_, rfl⟩)))
  have F_w_MessageType_VISIBLE_EXECUTION_code : Fld s s.heap w_MessageType_VISIBLE_EXECUTION "com/example/strikebook/strikebook/cli/MessageType" "code" "I" (.int (4 : Int32)) := Fld.start ((fld_at ev_w_MessageType_VISIBLE_EXECUTION).symm.trans (own_eqv n18 (Term.int_eval _) (Or.inr ⟨_, rfl⟩)))
  have F_w_MessageType_HIDDEN_EXECUTION_code : Fld s s.heap w_MessageType_HIDDEN_EXECUTION "com/example/strikebook/strikebook/cli/MessageType" "code" "I" (.int (5 : Int32)) := Fld.start ((fld_at ev_w_MessageType_HIDDEN_EXECUTION).symm.trans (own_eqv n19 (Term.int_eval _) (Or.inr ⟨_, rfl⟩)))
  have F_w_MessageType_HALT_code : Fld s s.heap w_MessageType_HALT "com/example/strikebook/strikebook/cli/MessageType" "code" "I" (.int (7 : Int32)) := Fld.start ((fld_at ev_w_MessageType_HALT).symm.trans (own_eqv n19r (Term.int_eval _) (Or.inr ⟨_, rfl⟩)))
  obtain ⟨cl_w_MessageType__VALUES, Ar_w_MessageType__VALUES⟩ := Arr.start ev_w_MessageType__VALUES n0
  obtain ⟨k_w_MessageType__VALUES, hk_w_MessageType__VALUES⟩ : ∃ z, z = cl_w_MessageType__VALUES.cls := ⟨_, rfl⟩
  obtain ⟨q_w_MessageType__VALUES, l_w_MessageType__VALUES⟩ := own_len ev_w_MessageType__VALUES Ar_w_MessageType__VALUES (own_eqv n2 (Term.int_eval _) (Or.inr ⟨_, rfl⟩))
  have el_w_MessageType__VALUES_0 : cl_w_MessageType__VALUES.slots[0]? = some (.ref w_MessageType_SUBMISSION) := (elem_in (own_eqv n4 ev_w_MessageType_SUBMISSION (Or.inl rfl)) ev_w_MessageType__VALUES (Term.int_eval _) Ar_w_MessageType__VALUES.1).2
  have el_w_MessageType__VALUES_1 : cl_w_MessageType__VALUES.slots[1]? = some (.ref w_MessageType_PARTIAL_CANCEL) := (elem_in (own_eqv n6 ev_w_MessageType_PARTIAL_CANCEL (Or.inl rfl)) ev_w_MessageType__VALUES (Term.int_eval _) Ar_w_MessageType__VALUES.1).2
  have el_w_MessageType__VALUES_2 : cl_w_MessageType__VALUES.slots[2]? = some (.ref w_MessageType_DELETION) := (elem_in (own_eqv n8 ev_w_MessageType_DELETION (Or.inl rfl)) ev_w_MessageType__VALUES (Term.int_eval _) Ar_w_MessageType__VALUES.1).2
  have el_w_MessageType__VALUES_3 : cl_w_MessageType__VALUES.slots[3]? = some (.ref w_MessageType_VISIBLE_EXECUTION) := (elem_in (own_eqv n10 ev_w_MessageType_VISIBLE_EXECUTION (Or.inl rfl)) ev_w_MessageType__VALUES (Term.int_eval _) Ar_w_MessageType__VALUES.1).2
  have el_w_MessageType__VALUES_4 : cl_w_MessageType__VALUES.slots[4]? = some (.ref w_MessageType_HIDDEN_EXECUTION) := (elem_in (own_eqv n12 ev_w_MessageType_HIDDEN_EXECUTION (Or.inl rfl)) ev_w_MessageType__VALUES (Term.int_eval _) Ar_w_MessageType__VALUES.1).2
  have el_w_MessageType__VALUES_5 : cl_w_MessageType__VALUES.slots[5]? = some (.ref w_MessageType_HALT) := (elem_in (own_eqv n14 ev_w_MessageType_HALT (Or.inl rfl)) ev_w_MessageType__VALUES (Term.int_eval _) Ar_w_MessageType__VALUES.1).2
  have V_w_MessageType__VALUES : Arv s s.heap w_MessageType__VALUES k_w_MessageType__VALUES (.object "com/example/strikebook/strikebook/cli/MessageType") (6 : Int32) [(.ref w_MessageType_SUBMISSION), (.ref w_MessageType_PARTIAL_CANCEL), (.ref w_MessageType_DELETION), (.ref w_MessageType_VISIBLE_EXECUTION), (.ref w_MessageType_HIDDEN_EXECUTION), (.ref w_MessageType_HALT)] .null := by rw [hk_w_MessageType__VALUES]; exact Arv.start hfit Ar_w_MessageType__VALUES q_w_MessageType__VALUES l_w_MessageType__VALUES (by decide) (show (6 : Int32).toNatClampNeg = 6 from by decide) ⟨el_w_MessageType__VALUES_0, el_w_MessageType__VALUES_1, el_w_MessageType__VALUES_2, el_w_MessageType__VALUES_3, el_w_MessageType__VALUES_4, el_w_MessageType__VALUES_5, trivial⟩
  obtain ⟨n, o, h1, h2, h3, _, L, rfl, ⟨rfl, N⟩, hq⟩ := rm0 l s _ hw tables_1 p0 p1 w_MessageType__VALUES w_MessageType_SUBMISSION w_MessageType_PARTIAL_CANCEL w_MessageType_DELETION w_MessageType_VISIBLE_EXECUTION w_MessageType_HIDDEN_EXECUTION w_MessageType_HALT k_w_MessageType__VALUES s.heap s.heap.size (Nat.le_refl _) S_MessageType__VALUES V_w_MessageType__VALUES E_w_MessageType__VALUES F_w_MessageType_SUBMISSION_code F_w_MessageType_PARTIAL_CANCEL_code F_w_MessageType_DELETION_code F_w_MessageType_VISIBLE_EXECUTION_code F_w_MessageType_HIDDEN_EXECUTION_code F_w_MessageType_HALT_code S_MessageType_SUBMISSION S_MessageType_PARTIAL_CANCEL S_MessageType_DELETION S_MessageType_VISIBLE_EXECUTION S_MessageType_HIDDEN_EXECUTION S_MessageType_HALT p e ha hc hk s m _ below hf ((Spec.applies_iff_loose hf).mp happ).1 ⟨rfl, State.Warmed39.refl s, rfl⟩ trivial
  refine ⟨n, _, h1, h2, h3, hpost _ _ _ _ _ _ ⟨Cond.after_iff.mpr rfl, Cond.after_iff.mpr (eq_i res_at (Term.int_eval (1)) rfl), trivial⟩ ⟨hq.1, hq.2.1, (hq.2.2.sift fun y hy => Or.inr (N y hy)).mono (by decide) (by decide)⟩⟩
theorem main_1_1 : Claimed_1_1 := comes_1 fun _ _ _ _ _ _ h hF => ⟨h.1, hF⟩
theorem main_1_2 : Claimed_1_2 := comes_1 fun _ _ _ _ _ _ h hF => ⟨h.2.1, hF⟩
end Jvm.Pilot.@@N@@
namespace Jvm.Pilot.@@N@@
open Jvm Jvm.ClassFile Sem Op Lib Jvm.Free Jvm.Stand Jvm.Pilot.@@N@@.Jvm.D
/-! MADE BY PROGRAM (witnessworld.py) out of the Statement's table words and the real class files: 13 classes; the members and pool entries that the words name. The judged class is class 1, her method 2. -/
namespace start1
open Jvm.ClassFile
def u (s : String) : CpInfo := .utf8 (stringToUtf16 s)
/-- a pool by its gaps: so many unusable entries, then the entry; so many at the end -/
def gap : Nat → List CpInfo → List CpInfo
  | 0, r => r
  | n + 1, r => .unusable :: gap n r
def poolList (es : List (Nat × CpInfo)) (last : Nat) : List CpInfo := es.foldr (fun e r => gap e.1 (e.2 :: r)) (gap last [])
def pool (es : List (Nat × CpInfo)) (last : Nat) : Array CpInfo := ⟨poolList es last⟩
def fileOf (pool : Array CpInfo) (this : Nat) (attrs : Array Attribute := #[]) (ms : Array MethodInfo := #[]) (fl : Nat := 33) (sup : Nat := 0) (ifs : Array Nat := #[]) (fds : Array FieldInfo := #[]) : ClassFile where
  minorVersion := 0
  majorVersion := 65
  constantPool := pool
  accessFlags := fl
  thisClass := this
  superClass := sup
  interfaces := ifs
  fields := fds
  methods := ms
  attributes := attrs
def plain (name : String) (sup : Option ClassId) : Class where
  name := name
  kind := .ordinary
  loader := none
  accessFlags := 33
  super := sup
  interfaces := #[]
  cf := none
  fields := #[]
  methods := #[]
  instanceTypes := #[]
  staticTypes := #[]
  resolved := #[]
  callSites := []
  init := .initialized
  statics := none
  mirror := none

def pool0 : Array CpInfo := pool [(5, u "<init>"), (0, u "()V"), (1, .class_ 10), (1, u "java/lang/Object"), (85, u "clone"), (0, u "()Ljava/lang/Object;")] 26

def k0m0 : Method := { name := "<init>", desc := "()V", sig := { parameters := [], returnType := none }, accessFlags := 1, code := none }
def k0m1 : Method := { name := "clone", desc := "()Ljava/lang/Object;", sig := { parameters := [], returnType := some (.object "java/lang/Object") }, accessFlags := 260, code := none }
/-- java/lang/Object -/
def k0 : Class := { plain "java/lang/Object" none with
  accessFlags := 33
  interfaces := #[]
  cf := some (fileOf pool0 8 #[] #[{ accessFlags := 1, nameIndex := 5, descriptorIndex := 6, attributes := #[] }, { accessFlags := 260, nameIndex := 96, descriptorIndex := 97, attributes := #[] }] 33 0 #[] #[])
  fields := #[]
  methods := #[k0m0, k0m1]
  instanceTypes := #[]
  staticTypes := #[]
  resolved := Array.replicate 124 none
  statics := none }

def pool1 : Array CpInfo := pool [(2, .class_ 4), (1, u "java/lang/Object"), (0, u "<init>"), (0, u "()V"), (0, .fieldref 8 9), (0, .class_ 10), (0, .nameAndType 11 12), (0, u "com/example/strikebook/strikebook/cli/MessageType"), (0, u "SUBMISSION"), (0, u "Lcom/example/strikebook/strikebook/cli/MessageType;"), (0, .long 2), (1, .fieldref 8 16), (0, .nameAndType 17 12), (0, u "PARTIAL_CANCEL"), (0, .long 3), (1, .fieldref 8 21), (0, .nameAndType 22 12), (0, u "DELETION"), (0, .long 4), (1, .fieldref 8 26), (0, .nameAndType 27 12), (0, u "VISIBLE_EXECUTION"), (0, .long 5), (1, .fieldref 8 31), (0, .nameAndType 32 12), (0, u "HIDDEN_EXECUTION"), (0, .long 7), (1, .fieldref 8 36), (0, .nameAndType 37 12), (0, u "HALT"), (0, .long 18446744073709551600), (1, .methodref 8 41), (0, .nameAndType 42 43), (0, u "of"), (0, u "(J)Lcom/example/strikebook/strikebook/cli/MessageType;"), (0, .methodref 45 46), (0, .class_ 47), (0, .nameAndType 48 43), (0, u "com/example/strikebook/strikebook/cli/MessageTypeOfPinLaw"), (0, u "expected"), (3, u "law"), (0, u "(JI)Z")] 2

def k1m0 : Method := { name := "<init>", desc := "()V", sig := { parameters := [], returnType := none }, accessFlags := 1, code := none }
def k1c1 : Code := { maxStack := 4, maxLocals := 2, code := method_2_code, exceptionTable := #[], attributes := #[] }
def k1m1 : Method := { name := "expected", desc := "(J)Lcom/example/strikebook/strikebook/cli/MessageType;", sig := { parameters := [.long], returnType := some (.object "com/example/strikebook/strikebook/cli/MessageType") }, accessFlags := 10, code := some k1c1 }
def k1c2 : Code := { maxStack := 4, maxLocals := 10, code := code, exceptionTable := #[], attributes := #[] }
def k1m2 : Method := { name := "law", desc := "(JI)Z", sig := { parameters := [.long, .int], returnType := some .boolean }, accessFlags := 9, code := some k1c2 }
/-- com/example/strikebook/strikebook/cli/MessageTypeOfPinLaw -/
def k1 : Class := { plain "com/example/strikebook/strikebook/cli/MessageTypeOfPinLaw" (some 0) with
  accessFlags := 49
  interfaces := #[]
  cf := some (fileOf pool1 45 #[] #[{ accessFlags := 1, nameIndex := 5, descriptorIndex := 6, attributes := #[] }, { accessFlags := 10, nameIndex := 48, descriptorIndex := 43, attributes := #[] }, { accessFlags := 9, nameIndex := 52, descriptorIndex := 53, attributes := #[] }] 49 2 #[] #[])
  fields := #[]
  methods := #[k1m0, k1m1, k1m2]
  instanceTypes := #[]
  staticTypes := #[]
  resolved := Array.replicate 56 none
  statics := none }

def pool2 : Array CpInfo := pool [(1, .class_ 2), (0, u "java/lang/constant/Constable"), (0, .class_ 4), (0, u "java/lang/Object")] 6

/-- java/lang/constant/Constable -/
def k2 : Class := { plain "java/lang/constant/Constable" (some 0) with
  accessFlags := 1537
  interfaces := #[]
  cf := some (fileOf pool2 1 #[] #[] 1537 3 #[] #[])
  fields := #[]
  methods := #[]
  instanceTypes := #[]
  staticTypes := #[]
  resolved := Array.replicate 11 none
  statics := none }

def pool3 : Array CpInfo := pool [(1, .class_ 2), (0, u "java/lang/Comparable"), (0, .class_ 4), (0, u "java/lang/Object")] 7

/-- java/lang/Comparable -/
def k3 : Class := { plain "java/lang/Comparable" (some 0) with
  accessFlags := 1537
  interfaces := #[]
  cf := some (fileOf pool3 1 #[] #[] 1537 3 #[] #[])
  fields := #[]
  methods := #[]
  instanceTypes := #[]
  staticTypes := #[]
  resolved := Array.replicate 12 none
  statics := none }

def pool4 : Array CpInfo := pool [(1, .class_ 2), (0, u "java/io/Serializable"), (0, .class_ 4), (0, u "java/lang/Object")] 2

/-- java/io/Serializable -/
def k4 : Class := { plain "java/io/Serializable" (some 0) with
  accessFlags := 1537
  interfaces := #[]
  cf := some (fileOf pool4 1 #[] #[] 1537 3 #[] #[])
  fields := #[]
  methods := #[]
  instanceTypes := #[]
  staticTypes := #[]
  resolved := Array.replicate 7 none
  statics := none }

def pool5 : Array CpInfo := pool [(2, .class_ 4), (1, u "java/lang/Enum"), (0, u "name"), (0, u "Ljava/lang/String;"), (2, u "ordinal"), (0, u "I"), (1, .class_ 14), (1, u "java/lang/Object"), (4, u "hash"), (86, .class_ 108), (1, u "java/lang/Enum$EnumDesc"), (2, .class_ 112), (0, u "java/lang/constant/Constable"), (0, .class_ 114), (0, u "java/lang/Comparable"), (0, .class_ 116), (0, u "java/io/Serializable")] 87

/-- java/lang/Enum -/
def k5 : Class := { plain "java/lang/Enum" (some 0) with
  accessFlags := 1057
  interfaces := #[2, 3, 4]
  cf := some (fileOf pool5 2 #[.nestMembers #[106]] #[] 1057 12 #[111, 113, 115] #[{ accessFlags := 18, nameIndex := 5, descriptorIndex := 6, attributes := #[] }, { accessFlags := 18, nameIndex := 9, descriptorIndex := 10, attributes := #[] }, { accessFlags := 2, nameIndex := 19, descriptorIndex := 10, attributes := #[] }])
  fields := #[{ name := "name", type := (.object "java/lang/String"), accessFlags := 18, slot := 0, constantValue := 0 }, { name := "ordinal", type := .int, accessFlags := 18, slot := 1, constantValue := 0 }, { name := "hash", type := .int, accessFlags := 2, slot := 2, constantValue := 0 }]
  methods := #[]
  instanceTypes := #[(.object "java/lang/String"), .int, .int]
  staticTypes := #[]
  resolved := Array.replicate 204 none
  statics := none }

def pool6 : Array CpInfo := pool [(1, .class_ 2), (0, u "com/example/strikebook/strikebook/cli/MessageType"), (2, u "SUBMISSION"), (0, u "Lcom/example/strikebook/strikebook/cli/MessageType;"), (2, u "PARTIAL_CANCEL"), (2, u "DELETION"), (2, u "VISIBLE_EXECUTION"), (2, u "HIDDEN_EXECUTION"), (2, u "HALT"), (0, .fieldref 1 23), (0, .nameAndType 24 25), (0, u "$VALUES"), (0, u "[Lcom/example/strikebook/strikebook/cli/MessageType;"), (0, .methodref 27 28), (0, .class_ 25), (0, .nameAndType 29 30), (0, u "clone"), (0, u "()Ljava/lang/Object;"), (1, .class_ 34), (1, u "java/lang/Enum"), (6, .fieldref 1 42), (0, .nameAndType 43 44), (0, u "code"), (0, u "I"), (2, u "counted"), (0, u "Ljava/lang/String;"), (0, .methodref 1 50), (0, .nameAndType 51 52), (0, u "values"), (0, u "()[Lcom/example/strikebook/strikebook/cli/MessageType;"), (31, u "of"), (0, u "(J)Lcom/example/strikebook/strikebook/cli/MessageType;")] 6

def k6c0 : Code := { maxStack := 1, maxLocals := 0, code := prog_10_method_1_code, exceptionTable := #[], attributes := #[] }
def k6m0 : Method := { name := "values", desc := "()[Lcom/example/strikebook/strikebook/cli/MessageType;", sig := { parameters := [], returnType := some (.array (.object "com/example/strikebook/strikebook/cli/MessageType")) }, accessFlags := 9, code := some k6c0 }
def k6c1 : Code := { maxStack := 4, maxLocals := 6, code := prog_10_method_5_code, exceptionTable := #[], attributes := #[] }
def k6m1 : Method := { name := "of", desc := "(J)Lcom/example/strikebook/strikebook/cli/MessageType;", sig := { parameters := [.long], returnType := some (.object "com/example/strikebook/strikebook/cli/MessageType") }, accessFlags := 8, code := some k6c1 }
/-- com/example/strikebook/strikebook/cli/MessageType -/
def k6 : Class := { plain "com/example/strikebook/strikebook/cli/MessageType" (some 5) with
  accessFlags := 16432
  interfaces := #[]
  cf := some (fileOf pool6 1 #[] #[{ accessFlags := 9, nameIndex := 51, descriptorIndex := 52, attributes := #[] }, { accessFlags := 8, nameIndex := 84, descriptorIndex := 85, attributes := #[] }] 16432 32 #[] #[{ accessFlags := 16409, nameIndex := 5, descriptorIndex := 6, attributes := #[] }, { accessFlags := 16409, nameIndex := 9, descriptorIndex := 6, attributes := #[] }, { accessFlags := 16409, nameIndex := 12, descriptorIndex := 6, attributes := #[] }, { accessFlags := 16409, nameIndex := 15, descriptorIndex := 6, attributes := #[] }, { accessFlags := 16409, nameIndex := 18, descriptorIndex := 6, attributes := #[] }, { accessFlags := 16409, nameIndex := 21, descriptorIndex := 6, attributes := #[] }, { accessFlags := 18, nameIndex := 43, descriptorIndex := 44, attributes := #[] }, { accessFlags := 18, nameIndex := 47, descriptorIndex := 48, attributes := #[] }, { accessFlags := 4122, nameIndex := 24, descriptorIndex := 25, attributes := #[] }])
  fields := #[{ name := "SUBMISSION", type := (.object "com/example/strikebook/strikebook/cli/MessageType"), accessFlags := 16409, slot := 0, constantValue := 0 }, { name := "PARTIAL_CANCEL", type := (.object "com/example/strikebook/strikebook/cli/MessageType"), accessFlags := 16409, slot := 1, constantValue := 0 }, { name := "DELETION", type := (.object "com/example/strikebook/strikebook/cli/MessageType"), accessFlags := 16409, slot := 2, constantValue := 0 }, { name := "VISIBLE_EXECUTION", type := (.object "com/example/strikebook/strikebook/cli/MessageType"), accessFlags := 16409, slot := 3, constantValue := 0 }, { name := "HIDDEN_EXECUTION", type := (.object "com/example/strikebook/strikebook/cli/MessageType"), accessFlags := 16409, slot := 4, constantValue := 0 }, { name := "HALT", type := (.object "com/example/strikebook/strikebook/cli/MessageType"), accessFlags := 16409, slot := 5, constantValue := 0 }, { name := "code", type := .int, accessFlags := 18, slot := 3, constantValue := 0 }, { name := "counted", type := (.object "java/lang/String"), accessFlags := 18, slot := 4, constantValue := 0 }, { name := "$VALUES", type := (.array (.object "com/example/strikebook/strikebook/cli/MessageType")), accessFlags := 4122, slot := 6, constantValue := 0 }]
  methods := #[k6m0, k6m1]
  instanceTypes := #[(.object "java/lang/String"), .int, .int, .int, (.object "java/lang/String")]
  staticTypes := #[(.object "com/example/strikebook/strikebook/cli/MessageType"), (.object "com/example/strikebook/strikebook/cli/MessageType"), (.object "com/example/strikebook/strikebook/cli/MessageType"), (.object "com/example/strikebook/strikebook/cli/MessageType"), (.object "com/example/strikebook/strikebook/cli/MessageType"), (.object "com/example/strikebook/strikebook/cli/MessageType"), (.array (.object "com/example/strikebook/strikebook/cli/MessageType"))]
  resolved := Array.replicate 92 none
  statics := some 0 }

def pool7 : Array CpInfo := pool [(1, .class_ 2), (0, u "java/lang/Cloneable"), (0, .class_ 4), (0, u "java/lang/Object")] 2

/-- java/lang/Cloneable -/
def k7 : Class := { plain "java/lang/Cloneable" (some 0) with
  accessFlags := 1537
  interfaces := #[]
  cf := some (fileOf pool7 1 #[] #[] 1537 3 #[] #[])
  fields := #[]
  methods := #[]
  instanceTypes := #[]
  staticTypes := #[]
  resolved := Array.replicate 7 none
  statics := none }

/-- the primitive byte -/
def k8 : Class := { plain "byte" none with kind := .primitive 'B', accessFlags := 0x411 }
/-- [B -/
def k9 : Class := { plain "[B" (some 0) with kind := .array 8 .byte, interfaces := #[7, 4], accessFlags := 1041 }

/-- the primitive int -/
def k10 : Class := { plain "int" none with kind := .primitive 'I', accessFlags := 0x411 }
/-- [I -/
def k11 : Class := { plain "[I" (some 0) with kind := .array 10 .int, interfaces := #[7, 4], accessFlags := 1041 }

/-- [Lcom/example/strikebook/strikebook/cli/MessageType; -/
def k12 : Class := { plain "[Lcom/example/strikebook/strikebook/cli/MessageType;" (some 0) with kind := .array 6 (.object "com/example/strikebook/strikebook/cli/MessageType"), interfaces := #[7, 4], accessFlags := 1041 }

def heap : Heap := #[{ cls := 6, slots := #[.ref 2, .ref 3, .ref 4, .ref 5, .ref 6, .ref 7, .ref 1], vm := .statics 6 },
  { cls := 12, slots := #[.ref 2, .ref 3, .ref 4, .ref 5, .ref 6, .ref 7], vm := .none },
  { cls := 6, slots := #[.null, .int 0, .int 0, .int 1, .null], vm := .none },
  { cls := 6, slots := #[.null, .int 0, .int 0, .int 2, .null], vm := .none },
  { cls := 6, slots := #[.null, .int 0, .int 0, .int 3, .null], vm := .none },
  { cls := 6, slots := #[.null, .int 0, .int 0, .int 4, .null], vm := .none },
  { cls := 6, slots := #[.null, .int 0, .int 0, .int 5, .null], vm := .none },
  { cls := 6, slots := #[.null, .int 0, .int 0, .int 7, .null], vm := .none }]
def classes : Array Class := #[k0, k1, k2, k3, k4, k5, k6, k7, k8, k9, k10, k11, k12]
def interned : List (Array UInt16 × Addr) := []
def slotsUsed : Nat := 43
def theMethod : MethodId := ⟨1, 2⟩
def args0 : Array Value := #[.long 5, .int 9]
def aboutOver (below : List Frame) : State where
  vm := { classes := classes, interned := interned.toArray }
  heap := heap
  slotsUsed := slotsUsed
  threads := #[{ frames := .invoking theMethod args0 :: below }]
def below0 : List Frame := [.native { method := ⟨0, 0⟩, args := #[] }]
def about1 : State := aboutOver below0
def p0 : Program := .bare "" "" ""
def e0 : Env := launch0.env 0 0 0
theorem w_frames : about1.frames = Frame.invoking theMethod args0 :: below0 := rfl
set_option maxRecDepth 65536 in
theorem w_args : argsFit about1.vm theMethod args0 = true := by decide +kernel
set_option maxRecDepth 65536 in
theorem w_heap : heapFits about1 = true := by decide +kernel
set_option maxRecDepth 65536 in
theorem w_runnable : about1.curStatus? = some .runnable := by decide +kernel
set_option maxRecDepth 65536 in
theorem w_alone : about1.alone = true := by decide +kernel
set_option maxRecDepth 65536 in
theorem w_named : about1.methodNamed? x = some theMethod := by decide +kernel
set_option maxRecDepth 65536 in
theorem w_hears : about1.hears theMethod below0 = true := by decide +kernel
set_option maxRecDepth 65536 in
theorem w_ripe : about1.ripe theMethod args0 below0 = true := by decide +kernel
theorem w_running : about1.status = .running := rfl
set_option maxRecDepth 65536 in
theorem w_room : about1.hasRoom e0.platform room_1 = true :=
  launch0.hasRoom_least _ room_1 (by decide +kernel) (by decide +kernel) (by decide +kernel) (by decide +kernel) (by decide +kernel) (by decide +kernel)
theorem allAtoms_all (ts : List Jvm.Cond) (a : Array Jvm.Value) (st : Jvm.State) : (allAtoms ts).before a st = ts.all (fun c => c.before a st) := by
  induction ts with
  | nil => rfl
  | cons c t ih =>
    show (Jvm.Cond.and c (allAtoms t)).before a st = _
    rw [Jvm.Cond.before_and, ih, List.all_cons]
def words1 : List Jvm.Cond := Jvm.Cond.code x code maxLocals ret :: tables_1
/-- a 'code' word, met by the world's own term for the bytes: nothing is compared byte by byte -/
theorem code_word {y : MethodName} {bytes : ByteArray} {mx : Nat} {rt : Option FieldType} {a : Array Value} {s : State} {m : MethodId} {meth : Method} {c : Code} (h1 : s.methodNamed? y = some m) (h2 : s.vm.method? m = some meth) (h3 : meth.code = some c) (h4 : c.code = bytes)
    (h5 : (c.maxLocals == mx && c.exceptionTable.isEmpty && decide (c.maxStack ≤ mostOperands) && decide (meth.sig.returnType = rt) && !meth.locks && decide (parseMethodDescriptor y.desc = some meth.sig)) = true) : (Jvm.Cond.code y bytes mx rt).before a s = true := by
  simp only [Bool.and_eq_true, beq_iff_eq, Bool.not_eq_true', decide_eq_true_eq] at h5
  obtain ⟨⟨⟨⟨⟨g1, g2⟩, g3⟩, g4⟩, g5⟩, g6⟩ := h5
  simp [Cond.before, Cond.holds, Cond.value, h1, h2, h3, h4, g1, g2, g3, g4, g5, g6]
def isCode : Jvm.Cond → Bool
  | .code _ _ _ _ => true
  | _ => false
theorem all_split {L : List Jvm.Cond} {P : Jvm.Cond → Bool} (h1 : L.all (fun c => isCode c || P c) = true) (h2 : ∀ c ∈ L.filter isCode, P c = true) : L.all P = true := by
  refine List.all_eq_true.mpr fun c hc => ?_
  have h := List.all_eq_true.mp h1 c hc
  rcases Bool.eq_false_or_eq_true (isCode c) with hi | hi
  · exact h2 c (List.mem_filter.mpr ⟨hc, hi⟩)
  · simpa [hi] using h
set_option maxRecDepth 65536 in
theorem w_c0 : (Jvm.Cond.code x code maxLocals ret).before args0 about1 = true := code_word (m := ⟨1, 2⟩) (meth := k1m2) (c := k1c2) (by decide +kernel) rfl rfl rfl (by decide +kernel)
set_option maxRecDepth 65536 in
theorem w_c1 : (Jvm.Cond.code ({ cls := "com/example/strikebook/strikebook/cli/MessageType", name := "of", desc := "(J)Lcom/example/strikebook/strikebook/cli/MessageType;" } : Jvm.MethodName) prog_10_method_5_code (6 : Nat) (Option.some (Jvm.ClassFile.FieldType.object "com/example/strikebook/strikebook/cli/MessageType"))).before args0 about1 = true := code_word (m := ⟨6, 1⟩) (meth := k6m1) (c := k6c1) (by decide +kernel) rfl rfl rfl (by decide +kernel)
set_option maxRecDepth 65536 in
theorem w_c2 : (Jvm.Cond.code ({ cls := "com/example/strikebook/strikebook/cli/MessageType", name := "values", desc := "()[Lcom/example/strikebook/strikebook/cli/MessageType;" } : Jvm.MethodName) prog_10_method_1_code (0 : Nat) (Option.some (Jvm.ClassFile.FieldType.array (Jvm.ClassFile.FieldType.object "com/example/strikebook/strikebook/cli/MessageType")))).before args0 about1 = true := code_word (m := ⟨6, 0⟩) (meth := k6m0) (c := k6c0) (by decide +kernel) rfl rfl rfl (by decide +kernel)
set_option maxRecDepth 65536 in
theorem w_c3 : (Jvm.Cond.code ({ cls := "com/example/strikebook/strikebook/cli/MessageTypeOfPinLaw", name := "expected", desc := "(J)Lcom/example/strikebook/strikebook/cli/MessageType;" } : Jvm.MethodName) method_2_code (2 : Nat) (Option.some (Jvm.ClassFile.FieldType.object "com/example/strikebook/strikebook/cli/MessageType"))).before args0 about1 = true := code_word (m := ⟨1, 1⟩) (meth := k1m1) (c := k1c1) (by decide +kernel) rfl rfl rfl (by decide +kernel)
def codes1 : List Jvm.Cond := [Jvm.Cond.code x code maxLocals ret, Jvm.Cond.code ({ cls := "com/example/strikebook/strikebook/cli/MessageType", name := "of", desc := "(J)Lcom/example/strikebook/strikebook/cli/MessageType;" } : Jvm.MethodName) prog_10_method_5_code (6 : Nat) (Option.some (Jvm.ClassFile.FieldType.object "com/example/strikebook/strikebook/cli/MessageType")), Jvm.Cond.code ({ cls := "com/example/strikebook/strikebook/cli/MessageType", name := "values", desc := "()[Lcom/example/strikebook/strikebook/cli/MessageType;" } : Jvm.MethodName) prog_10_method_1_code (0 : Nat) (Option.some (Jvm.ClassFile.FieldType.array (Jvm.ClassFile.FieldType.object "com/example/strikebook/strikebook/cli/MessageType"))), Jvm.Cond.code ({ cls := "com/example/strikebook/strikebook/cli/MessageTypeOfPinLaw", name := "expected", desc := "(J)Lcom/example/strikebook/strikebook/cli/MessageType;" } : Jvm.MethodName) method_2_code (2 : Nat) (Option.some (Jvm.ClassFile.FieldType.object "com/example/strikebook/strikebook/cli/MessageType"))]
set_option maxRecDepth 65536 in
theorem codes_eq : words1.filter isCode = codes1 := rfl
theorem w_codes : ∀ c ∈ words1.filter isCode, c.before args0 about1 = true := by
  rw [codes_eq]
  intro c hc
  simp only [codes1, List.mem_cons, List.not_mem_nil, or_false] at hc
  rcases hc with rfl | rfl | rfl | rfl
  · exact w_c0
  · exact w_c1
  · exact w_c2
  · exact w_c3
set_option maxRecDepth 65536 in
theorem w_t1 : (words1.take 24).all (fun c => isCode c || c.before args0 about1) = true := by decide +kernel
set_option maxRecDepth 65536 in
theorem w_t2 : (words1.drop 24).all (fun c => isCode c || c.before args0 about1) = true := by decide +kernel
theorem w_tables : (allAtoms (Jvm.Cond.code x code maxLocals ret :: tables_1)).before args0 about1 = true := by
  rw [allAtoms_all]
  show words1.all (fun c => c.before args0 about1) = true
  refine all_split ?_ w_codes
  rw [← List.take_append_drop 24 words1, List.all_append, w_t1, w_t2]
  rfl
set_option maxRecDepth 65536 in
theorem w_case : (Jvm.Cond.and given_1 narrow_1).before args0 about1 = true := by decide +kernel
theorem w_applies : (headSpec (Jvm.Cond.code x code maxLocals ret :: tables_1) room_1).applies x e0.platform about1 = true :=
  (Spec.applies_iff w_frames).mpr ⟨w_running, w_runnable, w_alone, w_named, w_hears, w_ripe, w_room, w_tables⟩
theorem atStart : AtStart classFile x code maxLocals ret World_1 tables_1 room_1 Calls_1 rest_1 Pre_1 launch0 p0 e0 about1 theMethod args0 below0 :=
  ⟨lists_1, trivial, launch0.admits_env _ _ _, launch0.least_env, fairChoices_fair.cas, fairChoices_fair.clock, w_frames, w_args, w_heap, w_applies, trivial, trivial, w_case⟩
end start1
theorem witness_1 : WitnessClaimed_1 := ⟨start1.p0, start1.e0, start1.about1, start1.theMethod, start1.args0, start1.below0, start1.atStart⟩
end Jvm.Pilot.@@N@@
