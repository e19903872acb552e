import JvmDerived
import JvmDerived.Pilot.@@N@@Statement
import JvmDerived.Pilot.@@N@@Code
set_option linter.unusedVariables false
set_option linter.unusedSimpArgs false
@@BLOCK:NumsL.lean.txt@@
namespace Jvm.RoadKit
open Sem ClassFile Op Lib Jvm.Stand Jvm.Free Jvm.LawKit
section New
variable {p : Program} {l : Launch} {e : Env} {R : Room} {s : State} {m : MethodId} {args : Array Value} {below : List Frame} {meth : Method} {c : Code} {T : State} {locs : List Loc} {cells slots : Nat}
theorem retI (X : Stand p l e R s m args below meth c T locs cells slots) (hx : p.tables.exec = Jvm.exec) {pc : Nat} {Ls : Array Slot} {z : Int32} {rest : List Value} (hret : meth.sig.returnType = some .int) (hd : decode c.code pc = .ok (.ireturn, 1)) {fs : List Frame}
    (hl : ∀ (f : JFrame) (acts : List Action), f.method = m → f.locked = none → f.entered = [] → (doReturn e (T.setTop f) acts (some (.int z))).1 = T.setFrames fs) : Steps p.tables e below (T.setTop (mkF m pc Ls (.int z :: rest))) (T.setFrames fs) := by
  have hm' : T.vm.method? m = some meth := X.method'
  have hn : narrow .int (.int z) = .int z := rfl
  show Steps p.tables e below (T.setTop { method := m, pc := pc, locals := Ls, stack := _ :: rest, locked := none }) _
  jvm_step X.here [X.here.top, hx, hd, hm', hret, hn]
  first | (intro acts; rw [hl _ acts rfl rfl rfl]) | rw [hl _ _ rfl rfl rfl]
  exact Steps.refl _
theorem own_retA (X : Stand p l e R s m args below meth c T locs cells slots) (hx : p.tables.exec = Jvm.exec) {pc : Nat} {Ls : Array Slot} {t : FieldType} {w : Value} {rest : List Value} (hret : meth.sig.returnType = some t) (ht : t.isReference = true) (hw : w.isRef = true) (hd : decode c.code pc = .ok (.areturn, 1)) {fs : List Frame}
    (hl : ∀ (f : JFrame) (acts : List Action), f.method = m → f.locked = none → f.entered = [] → (doReturn e (T.setTop f) acts (some w)).1 = T.setFrames fs) : Steps p.tables e below (T.setTop (mkF m pc Ls (w :: rest))) (T.setFrames fs) :=
  retOut X hx hret (by cases t <;> simp_all [narrow, FieldType.isReference]) (Or.inr (Or.inr (Or.inr (Or.inr ⟨rfl, ht, hw⟩)))) hd hl
end New
end Jvm.RoadKit
namespace Jvm.Pilot.@@N@@
open Jvm Jvm.ClassFile Sem Op Lib Jvm.Free Jvm.Stand Jvm.LawKit Jvm.RoadKit Bundle Jvm.Pilot.@@N@@.Jvm.D
abbrev own_jv (x : Int64) : Slot := .val (.long x)
/-- a callee that leaves the heap as it was and returns r -/
def own_QP (r : Option Value) (h0 : Heap) (n0 : Nat) (v : Option Value) (h : Heap) (L : List Loc) : Prop := v = r ∧ Fr n0 L ∧ h = h0
def own_QL (n0 : Nat) (v : Option Value) (h : Heap) (L : List Loc) : Prop := v = some (.int 1) ∧ Fr n0 L
theorem own_eqv {args : Array Value} {first s : State} {o : Option Outcome} {idx : List Nat} {a b : Term} {x : Value} (h : (Cond.eq a b).value args first o s idx = some true) (hb : b.eval args first o idx s = some x) (hx : x.isRef = true ∨ ∃ n, x = .int n) : a.eval args first o idx s = some x := by
  cases ha : a.eval args first o idx s with
  | none => simp [Cond.value, ha, hb] at h
  | some y =>
    rcases hx with hx | ⟨n, rfl⟩
    · rcases ref_cases hx with rfl | ⟨z, rfl⟩ <;> cases y <;> simp_all [Cond.value]
    · cases y <;> simp_all [Cond.value]
theorem own_len {Z : State} {args : Array Value} {t : Term} {a : Addr} {cl : Cell} {ty : FieldType} {n : Int32} (ev : t.eval args Z none [] Z = some (.ref a)) (A : Arr Z Z.heap a cl ty) (h : (Term.length t).eval args Z none [] Z = some (.int n)) : cl.slots.size < 2 ^ 31 ∧ cl.slots.size.toInt32 = n := by
  have hA : Z.arrayAt? a = some cl := Arr.fin (U := Z) (Vm.Alike.refl _) A
  by_cases q : cl.slots.size < 2 ^ 31
  · rw [len_f ev hA q] at h
    exact ⟨q, Value.int.inj (Option.some.inj h)⟩
  · simp [Term.eval, ev, hA, q] at h
theorem own_nei {a b : Int32} (h : a ≠ b) : (Value.int a) ≠ (Value.int b) := fun q => h (Value.int.inj q)
theorem own_Sta_keep {Z : State} {h h' : Heap} {C n d : String} {v : Value} {ws : List Addr} (F : Sta Z h C n d v) (K : Keep h h' ws) (q : ∀ a ∈ ws, ∀ c : Cell, h[a]? = some c → c.vm.isStatics = false) : Sta Z h' C n d v := by
  obtain ⟨cf, i, k, f, st, cell, h1, h2, h3, h4, h5, h6, h7⟩ := F
  exact ⟨cf, i, k, f, st, cell, h1, h2, h3, h4, K.2.1 st cell h5 (fun z => by rw [q st z cell h5] at h6; cases h6), h6, h7⟩
theorem own_st0 {h : Heap} : ∀ a ∈ ([] : List Addr), ∀ c : Cell, h[a]? = some c → c.vm.isStatics = false := fun _ q => nomatch q
theorem own_stS {Z : State} {h : Heap} {b : Addr} {C : String} {L : List Addr} (E : Exa Z h b C) (q : ∀ a ∈ L, ∀ c : Cell, h[a]? = some c → c.vm.isStatics = false) : ∀ a ∈ b :: L, ∀ c : Cell, h[a]? = some c → c.vm.isStatics = false := fun a z c hc => by
  rcases List.mem_cons.mp z with rfl | z
  · obtain ⟨cell, _, h1, _, _, h4, _⟩ := E
    cases h1.symm.trans hc; exact h4
  · exact q a z c hc
/-- a callee that leaves the heap as it was and returns a reference or null -/
def own_QR (h0 : Heap) (n0 : Nat) (v : Option Value) (h : Heap) (L : List Loc) : Prop := ∃ u : Value, v = some u ∧ u.isRef = true ∧ Fr n0 L ∧ h = h0
theorem own_weak {l : Launch} {x : MethodName} {S : Spec} {P : Array Value → State → Prop} {K : Program → Env → List Frame → State → Array Value → Prop} {w : Value} {h0 : Heap} {n0 k j : Nat} (hw : w.isRef = true)
    (h : MetFree l x S P K (fun _ U o U' => ∃ v L, o = .returned v ∧ own_QP (some w) h0 n0 v U'.heap L ∧ FrameEnd U o U' L k j)) :
    MetFree l x S P K (fun _ U o U' => ∃ v L, o = .returned v ∧ own_QR h0 n0 v U'.heap L ∧ FrameEnd U o U' L k j) := fun p e a b c s m args below h1 h2 h3 h4 => by
  obtain ⟨n, o, q1, q2, q3, v, L, e1, ⟨e2, e3, e4⟩, e5⟩ := h p e a b c s m args below h1 h2 h3 h4
  exact ⟨n, o, q1, q2, q3, v, L, e1, ⟨w, e2, hw, e3, e4⟩, e5⟩
theorem own_narO {C : String} (v : Value) (h : v.isRef = true) : narrow (.object C) v = v := by rcases ref_cases h with q | ⟨_, q⟩ <;> (subst q; rfl)
theorem own_fitsO {C : String} {v : Value} (h : v.isRef = true) : fits (.object C) v = true := by rcases ref_cases h with q | ⟨_, q⟩ <;> (subst q; rfl)
theorem own_imp {l : Launch} {x : MethodName} {S : Spec} {P : Array Value → State → Prop} {K : Program → Env → List Frame → State → Array Value → Prop} {Q Q' : Option Value → Heap → List Loc → Prop} {k j : Nat}
    (h : MetFree l x S P K (fun _ U o U' => ∃ v L, o = .returned v ∧ Q v U'.heap L ∧ FrameEnd U o U' L k j)) (hq : ∀ v h L, Q v h L → Q' v h L) :
    MetFree l x S P K (fun _ U o U' => ∃ v L, o = .returned v ∧ Q' v U'.heap L ∧ FrameEnd U o U' L k j) := fun p e a b c s m args below h1 h2 h3 h4 => by
  obtain ⟨n, o, q1, q2, q3, v, L, e1, e2, e3⟩ := h p e a b c s m args below h1 h2 h3 h4
  exact ⟨n, o, q1, q2, q3, v, L, e1, hq _ _ _ e2, e3⟩
theorem own_b8 (x : Int32) : (x.toInt8.toInt32).toInt8.toInt32 = x.toInt8.toInt32 := by simp
theorem own_nar_byte {x : Int32} (h : x.toInt8.toInt32 = x) : x.toInt8.toInt32 = x := h
def own_pick (f b r c : Int32) : Int32 := if (((f.toUInt32 >>> (b &&& 31).toUInt32).toInt32) &&& (1 : Int32)) = (0 : Int32) then r.toInt8.toInt32 else c.toInt8.toInt32
theorem own_pick_b (f b r c : Int32) : (own_pick f b r c).toInt8.toInt32 = own_pick f b r c := by unfold own_pick; split <;> simp
/-- a callee that leaves the heap and returns the int z -/
def own_QI (z : Int32) (h0 : Heap) (n0 : Nat) (v : Option Value) (h : Heap) (L : List Loc) : Prop := v = some (.int z) ∧ Fr n0 L ∧ h = h0
theorem own_em (P : Prop) : P ∨ ¬ P := Classical.em P
theorem own_s1 (p : Int32) : (p &&& (1 : Int32)) = (0 : Int32) ∨ (p &&& (1 : Int32)) = (1 : Int32) := by
  have e := Jvm.Kit.i32_mask p 1 (k := 1) (by decide) (by decide)
  have h : (p &&& (1 : Int32)).toInt = 0 ∨ (p &&& (1 : Int32)).toInt = 1 := by omega
  rcases h with h | h
  · exact Or.inl (Int32.toInt_inj.mp (h.trans (by decide)))
  · exact Or.inr ((Int32.toInt_inj.mp (h.trans (by decide))))
theorem d1_0 : decode method_2_code 0 = .ok (.iload_n 0, 1) := by decide +kernel
theorem d1_1 : decode method_2_code 1 = .ok (.iload_n 1, 1) := by decide +kernel
theorem d1_2 : decode method_2_code 2 = .ok (.iushr, 1) := by decide +kernel
theorem d1_3 : decode method_2_code 3 = .ok (.iconst 1, 1) := by decide +kernel
theorem d1_4 : decode method_2_code 4 = .ok (.iand, 1) := by decide +kernel
theorem d1_5 : decode method_2_code 5 = .ok (.ifCond .eq 6, 3) := by decide +kernel
theorem d1_8 : decode method_2_code 8 = .ok (.iload_n 3, 1) := by decide +kernel
theorem d1_9 : decode method_2_code 9 = .ok (.i2b, 1) := by decide +kernel
theorem d1_10 : decode method_2_code 10 = .ok (.ireturn, 1) := by decide +kernel
theorem d1_11 : decode method_2_code 11 = .ok (.iload_n 2, 1) := by decide +kernel
theorem d1_12 : decode method_2_code 12 = .ok (.i2b, 1) := by decide +kernel
theorem d1_13 : decode method_2_code 13 = .ok (.ireturn, 1) := by decide +kernel
theorem d2_0 : decode prog_59_method_2_code 0 = .ok (.iconst 0, 1) := by decide +kernel
theorem d2_1 : decode prog_59_method_2_code 1 = .ok (.istore_n 1, 1) := by decide +kernel
theorem d2_2 : decode prog_59_method_2_code 2 = .ok (.iload_n 1, 1) := by decide +kernel
theorem d2_3 : decode prog_59_method_2_code 3 = .ok (.getstatic 7, 3) := by decide +kernel
theorem d2_6 : decode prog_59_method_2_code 6 = .ok (.arraylength, 1) := by decide +kernel
theorem d2_7 : decode prog_59_method_2_code 7 = .ok (.if_icmp .ge 22, 3) := by decide +kernel
theorem d2_10 : decode prog_59_method_2_code 10 = .ok (.aload_n 0, 1) := by decide +kernel
theorem d2_11 : decode prog_59_method_2_code 11 = .ok (.iload_n 1, 1) := by decide +kernel
theorem d2_12 : decode prog_59_method_2_code 12 = .ok (.baload, 1) := by decide +kernel
theorem d2_13 : decode prog_59_method_2_code 13 = .ok (.getstatic 7, 3) := by decide +kernel
theorem d2_16 : decode prog_59_method_2_code 16 = .ok (.iload_n 1, 1) := by decide +kernel
theorem d2_17 : decode prog_59_method_2_code 17 = .ok (.baload, 1) := by decide +kernel
theorem d2_18 : decode prog_59_method_2_code 18 = .ok (.if_icmp .eq 5, 3) := by decide +kernel
theorem d2_21 : decode prog_59_method_2_code 21 = .ok (.iconst 0, 1) := by decide +kernel
theorem d2_22 : decode prog_59_method_2_code 22 = .ok (.ireturn, 1) := by decide +kernel
theorem d2_23 : decode prog_59_method_2_code 23 = .ok (.iinc 1 1, 3) := by decide +kernel
theorem d2_26 : decode prog_59_method_2_code 26 = .ok (.goto (-24), 3) := by decide +kernel
theorem d2_29 : decode prog_59_method_2_code 29 = .ok (.iconst 1, 1) := by decide +kernel
theorem d2_30 : decode prog_59_method_2_code 30 = .ok (.ireturn, 1) := by decide +kernel
theorem pn_0 : plainName "org/driftcairn/giop/GiopHasMagicPinLaw" = true := by first | (simp [plainName, overriddenIn]; done) | decide +kernel
theorem pn_1 : plainName "org/driftcairn/giop/Giop" = true := by first | (simp [plainName, overriddenIn]; done) | decide +kernel
theorem pd_0 : parseMethodDescriptor "(IIIC)B" = some ⟨[.int, .int, .int, .char], some .byte⟩ := by decide +kernel
theorem pd_1 : parseMethodDescriptor "([B)Z" = some ⟨[(.array .byte)], some .boolean⟩ := by decide +kernel
theorem ef_1_IIII (m : MethodId) (x0 : Int32) (x1 : Int32) (x2 : Int32) (x3 : Int32) : entryFrame m #[(.int x0), (.int x1), (.int x2), (.int x3)] 4 = mkF m 0 #[iv x0, iv x1, iv x2, iv x3] [] := by first | (simp [entryFrame, mkF, argsToLocals, Value.category]; done) | rfl
theorem ef_2_R (m : MethodId) (x0 : Addr) : entryFrame m #[(.ref x0)] 2 = mkF m 0 #[rv x0, .unset] [] := by first | (simp [entryFrame, mkF, argsToLocals, Value.category]; done) | rfl
theorem ef_0_IIIIII (m : MethodId) (x0 : Int32) (x1 : Int32) (x2 : Int32) (x3 : Int32) (x4 : Int32) (x5 : Int32) : entryFrame m #[(.int x0), (.int x1), (.int x2), (.int x3), (.int x4), (.int x5)] maxLocals = mkF m 0 #[iv x0, iv x1, iv x2, iv x3, iv x4, iv x5, .unset, .unset, .unset, .unset, .unset, .unset, .unset, .unset, .unset] [] := by first | (simp [entryFrame, mkF, argsToLocals, Value.category, maxLocals]; done) | rfl
set_option maxRecDepth 65536 in
set_option maxHeartbeats 40000000 in
theorem rk_pick_0 (l : Launch) (Z : State) (a0 : Array Value) (hw : ∀ d ∈ tables_1, d.before a0 Z = true) (ws : List Jvm.Cond) (fk : Int32) (bk : Int32) (rk : Int32) (ck : Int32) (h0 : Heap) (n0 : Nat) (Z0 : n0 ≤ h0.size) (he : (((fk.toUInt32 >>> (bk &&& 31).toUInt32).toInt32) &&& (1 : Int32)) = (0 : Int32)) :
    MetFree l (⟨"org/driftcairn/giop/GiopHasMagicPinLaw", "pick", "(IIIC)B"⟩ : MethodName) (head1 (Jvm.Cond.code (⟨"org/driftcairn/giop/GiopHasMagicPinLaw", "pick", "(IIIC)B"⟩ : MethodName) method_2_code 4 (some .byte) :: ws) ({ frames := 0, cells := 0, slots := 0, locals := 0 } : Room)) (fun a U => a = #[(.int fk), (.int bk), (.int rk), (.int ck)] ∧ Z.Warmed39 U.vm ∧ U.heap = h0) (fun _ _ _ _ _ => True) (fun _ U o U' => ∃ v L, o = .returned v ∧ own_QP (some (.int (rk.toInt8.toInt32))) h0 n0 v U'.heap L ∧ FrameEnd U o U' L ({ frames := 0, cells := 0, slots := 0, locals := 0 } : Room).cells ({ frames := 0, cells := 0, slots := 0, locals := 0 } : Room).slots) := by
  refine MetFree.of_bodySF (plainFor_of_name pn_0) hisR ?_
  intro p e s m args below meth c s₁ Bd hml0 hP hK
  obtain ⟨rfl, hZ, hh⟩ := hP
  have hx := Bd.exec
  have hby := Bd.bytes
  have hml : c.maxLocals = 4 := hml0
  have hown : s.vm.findClass "org/driftcairn/giop/GiopHasMagicPinLaw" = some m.cls := findClass_of_methodNamed Bd.named
  have hnm := (name_of_methodNamed Bd.named Bd.method).1
  have X0 : Stand p l e ({ frames := 0, cells := 0, slots := 0, locals := 0 } : Room) s m #[(.int fk), (.int bk), (.int rk), (.int ck)] below meth c s₁ [] 0 0 := Stand.of_body Bd
  have e0 : s₁.heap = h0 := by rw [← hh, Bd.state]; rfl
  have N0 := Fr.nil n0
  have pre0 : ∀ t, Steps p.tables e below (s₁.setTop (mkF m 0 #[iv fk, iv bk, iv rk, iv ck] [])) t → Steps p.tables e below (s₁.setTop (entryFrame m #[(.int fk), (.int bk), (.int rk), (.int ck)] 4)) t := fun t k => castTop (ef_1_IIII m fk bk rk ck) k
  obtain ⟨fs, hr, hrun, hended, hW, hsame⟩ := X0.leave (v := (some (.int (rk.toInt8.toInt32)))) (fun h => by rw [Bd.returns] at h; cases h)
  refine ⟨_, _, pre0 _ ?_, hrun, hended, _, _, rfl, ?_, ⟨_, rfl⟩, hW, hsame.mono (by decide) (by decide)⟩
  · show Steps p.tables e below (s₁.setTop (mkF m 0 #[iv fk, iv bk, iv rk, iv ck] [])) _
    refine XS.iloadN X0.here hx rfl (hb hby d1_0) rfl ?_
    refine XS.iloadN X0.here hx rfl (hb hby d1_1) rfl ?_
    refine XS.iushr X0.here hx rfl (hb hby d1_2) rfl ?_
    refine XS.iconst X0.here hx rfl (hb hby d1_3) ?_
    refine XS.iand X0.here hx rfl (hb hby d1_4) rfl ?_
    refine XS.ifYes X0.here hx rfl (pc0 := 5) (pc' := 11) rfl (hb hby d1_5) rfl ((if0 _ _).trans (teq he).1) (by decide) (by decide) ?_
    show Steps p.tables e below (s₁.setTop (mkF m 11 #[iv fk, iv bk, iv rk, iv ck] [])) _
    refine XS.iloadN X0.here hx rfl (hb hby d1_11) rfl ?_
    refine XS.i2b X0.here hx rfl (hb hby d1_12) rfl ?_
    exact retN X0 hx (t := .byte) Bd.returns (by simp) (hb hby d1_13) (by have q : nar .byte (rk.toInt8.toInt32) = (rk.toInt8.toInt32) := (own_b8 _); rw [q]; exact hr)
  · exact ⟨rfl, N0, e0⟩
set_option maxRecDepth 65536 in
set_option maxHeartbeats 40000000 in
theorem rk_pick_1 (l : Launch) (Z : State) (a0 : Array Value) (hw : ∀ d ∈ tables_1, d.before a0 Z = true) (ws : List Jvm.Cond) (fk : Int32) (bk : Int32) (rk : Int32) (ck : Int32) (h0 : Heap) (n0 : Nat) (Z0 : n0 ≤ h0.size) (he : ¬ ((((fk.toUInt32 >>> (bk &&& 31).toUInt32).toInt32) &&& (1 : Int32)) = (0 : Int32))) :
    MetFree l (⟨"org/driftcairn/giop/GiopHasMagicPinLaw", "pick", "(IIIC)B"⟩ : MethodName) (head1 (Jvm.Cond.code (⟨"org/driftcairn/giop/GiopHasMagicPinLaw", "pick", "(IIIC)B"⟩ : MethodName) method_2_code 4 (some .byte) :: ws) ({ frames := 0, cells := 0, slots := 0, locals := 0 } : Room)) (fun a U => a = #[(.int fk), (.int bk), (.int rk), (.int ck)] ∧ Z.Warmed39 U.vm ∧ U.heap = h0) (fun _ _ _ _ _ => True) (fun _ U o U' => ∃ v L, o = .returned v ∧ own_QP (some (.int (ck.toInt8.toInt32))) h0 n0 v U'.heap L ∧ FrameEnd U o U' L ({ frames := 0, cells := 0, slots := 0, locals := 0 } : Room).cells ({ frames := 0, cells := 0, slots := 0, locals := 0 } : Room).slots) := by
  refine MetFree.of_bodySF (plainFor_of_name pn_0) hisR ?_
  intro p e s m args below meth c s₁ Bd hml0 hP hK
  obtain ⟨rfl, hZ, hh⟩ := hP
  have hx := Bd.exec
  have hby := Bd.bytes
  have hml : c.maxLocals = 4 := hml0
  have hown : s.vm.findClass "org/driftcairn/giop/GiopHasMagicPinLaw" = some m.cls := findClass_of_methodNamed Bd.named
  have hnm := (name_of_methodNamed Bd.named Bd.method).1
  have X0 : Stand p l e ({ frames := 0, cells := 0, slots := 0, locals := 0 } : Room) s m #[(.int fk), (.int bk), (.int rk), (.int ck)] below meth c s₁ [] 0 0 := Stand.of_body Bd
  have e0 : s₁.heap = h0 := by rw [← hh, Bd.state]; rfl
  have N0 := Fr.nil n0
  have pre0 : ∀ t, Steps p.tables e below (s₁.setTop (mkF m 0 #[iv fk, iv bk, iv rk, iv ck] [])) t → Steps p.tables e below (s₁.setTop (entryFrame m #[(.int fk), (.int bk), (.int rk), (.int ck)] 4)) t := fun t k => castTop (ef_1_IIII m fk bk rk ck) k
  obtain ⟨fs, hr, hrun, hended, hW, hsame⟩ := X0.leave (v := (some (.int (ck.toInt8.toInt32)))) (fun h => by rw [Bd.returns] at h; cases h)
  refine ⟨_, _, pre0 _ ?_, hrun, hended, _, _, rfl, ?_, ⟨_, rfl⟩, hW, hsame.mono (by decide) (by decide)⟩
  · show Steps p.tables e below (s₁.setTop (mkF m 0 #[iv fk, iv bk, iv rk, iv ck] [])) _
    refine XS.iloadN X0.here hx rfl (hb hby d1_0) rfl ?_
    refine XS.iloadN X0.here hx rfl (hb hby d1_1) rfl ?_
    refine XS.iushr X0.here hx rfl (hb hby d1_2) rfl ?_
    refine XS.iconst X0.here hx rfl (hb hby d1_3) ?_
    refine XS.iand X0.here hx rfl (hb hby d1_4) rfl ?_
    refine XS.ifNo X0.here hx rfl (hb hby d1_5) rfl ((if0 _ _).trans (feq he).1) ?_
    show Steps p.tables e below (s₁.setTop (mkF m 8 #[iv fk, iv bk, iv rk, iv ck] [])) _
    refine XS.iloadN X0.here hx rfl (hb hby d1_8) rfl ?_
    refine XS.i2b X0.here hx rfl (hb hby d1_9) rfl ?_
    exact retN X0 hx (t := .byte) Bd.returns (by simp) (hb hby d1_10) (by have q : nar .byte (ck.toInt8.toInt32) = (ck.toInt8.toInt32) := (own_b8 _); rw [q]; exact hr)
  · exact ⟨rfl, N0, e0⟩
set_option maxRecDepth 65536 in
set_option maxHeartbeats 40000000 in
theorem rk_pick (l : Launch) (Z : State) (a0 : Array Value) (hw : ∀ d ∈ tables_1, d.before a0 Z = true) (ws : List Jvm.Cond) (fk : Int32) (bk : Int32) (rk : Int32) (ck : Int32) (h0 : Heap) (n0 : Nat) (Z0 : n0 ≤ h0.size) :
    MetFree l (⟨"org/driftcairn/giop/GiopHasMagicPinLaw", "pick", "(IIIC)B"⟩ : MethodName) (head1 (Jvm.Cond.code (⟨"org/driftcairn/giop/GiopHasMagicPinLaw", "pick", "(IIIC)B"⟩ : MethodName) method_2_code 4 (some .byte) :: ws) ({ frames := 0, cells := 0, slots := 0, locals := 0 } : Room)) (fun a U => a = #[(.int fk), (.int bk), (.int rk), (.int ck)] ∧ Z.Warmed39 U.vm ∧ U.heap = h0) (fun _ _ _ _ _ => True) (fun _ U o U' => ∃ v L, o = .returned v ∧ own_QI (own_pick fk bk rk ck) h0 n0 v U'.heap L ∧ FrameEnd U o U' L ({ frames := 0, cells := 0, slots := 0, locals := 0 } : Room).cells ({ frames := 0, cells := 0, slots := 0, locals := 0 } : Room).slots) := by
  rcases own_em ((((fk.toUInt32 >>> (bk &&& 31).toUInt32).toInt32) &&& (1 : Int32)) = (0 : Int32)) with he | he
  · exact own_imp (rk_pick_0 l Z a0 hw ws fk bk rk ck h0 n0 Z0 he) (fun v h L q => by obtain ⟨rfl, N, e⟩ := q; exact ⟨(by rw [show (own_pick fk bk rk ck) = (rk.toInt8.toInt32) from (by unfold own_pick; rw [if_pos he])]), N, e⟩)
  · exact own_imp (rk_pick_1 l Z a0 hw ws fk bk rk ck h0 n0 Z0 he) (fun v h L q => by obtain ⟨rfl, N, e⟩ := q; exact ⟨(by rw [show (own_pick fk bk rk ck) = (ck.toInt8.toInt32) from (by unfold own_pick; rw [if_neg he])]), N, e⟩)
set_option maxRecDepth 65536 in
set_option maxHeartbeats 40000000 in
theorem rm2_0 (l : Launch) (Z : State) (a0 : Array Value) (hw : ∀ d ∈ tables_1, d.before a0 Z = true) (ws : List Jvm.Cond) (p5 : Int32) (w_Giop_MAGIC : Addr) (k_w_Giop_MAGIC : ClassId) (b0_5 : Addr) (k0_5 : ClassId) (h0 : Heap) (n0 : Nat) (Z0 : n0 ≤ h0.size) (S_Giop_MAGIC : Sta Z h0 "org/driftcairn/giop/Giop" "MAGIC" "[B" (.ref w_Giop_MAGIC)) (V_w_Giop_MAGIC : Arv Z h0 w_Giop_MAGIC k_w_Giop_MAGIC .byte (4 : Int32) [(.int (71 : Int32)), (.int (73 : Int32)), (.int (79 : Int32)), (.int (80 : Int32))] (.int (0 : Int32))) (V_b0_5 : Arv Z h0 b0_5 k0_5 .byte (8 : Int32) [(.int (71 : Int32)), (.int (73 : Int32)), (.int (79 : Int32)), (.int (80 : Int32)), (.int (p5.toInt8.toInt32)), (.int (((p5.toUInt32 >>> ((8 : Int32) &&& 31).toUInt32).toInt32).toInt8.toInt32)), (.int (((p5.toUInt32 >>> ((16 : Int32) &&& 31).toUInt32).toInt32).toInt8.toInt32)), (.int (((p5.toUInt32 >>> ((24 : Int32) &&& 31).toUInt32).toInt32).toInt8.toInt32))] (.int (0 : Int32))) :
    MetFree l (⟨"org/driftcairn/giop/Giop", "hasMagic", "([B)Z"⟩ : MethodName) (head1 (Jvm.Cond.code (⟨"org/driftcairn/giop/Giop", "hasMagic", "([B)Z"⟩ : MethodName) prog_59_method_2_code 2 (some .boolean) :: ws) ({ frames := 0, cells := 0, slots := 0, locals := 0 } : Room)) (fun a U => a = #[(.ref b0_5)] ∧ Z.Warmed39 U.vm ∧ U.heap = h0) (fun _ _ _ _ _ => True) (fun _ U o U' => ∃ v L, o = .returned v ∧ own_QP (some (.int (1 : Int32))) h0 n0 v U'.heap L ∧ FrameEnd U o U' L ({ frames := 0, cells := 0, slots := 0, locals := 0 } : Room).cells ({ frames := 0, cells := 0, slots := 0, locals := 0 } : Room).slots) := by
  refine MetFree.of_bodySF (plainFor_of_name pn_1) hisR ?_
  intro p e s m args below meth c s₁ Bd hml0 hP hK
  obtain ⟨rfl, hZ, hh⟩ := hP
  have hx := Bd.exec
  have hby := Bd.bytes
  have hml : c.maxLocals = 2 := hml0
  have hown : s.vm.findClass "org/driftcairn/giop/Giop" = some m.cls := findClass_of_methodNamed Bd.named
  have hnm := (name_of_methodNamed Bd.named Bd.method).1
  have X0 : Stand p l e ({ frames := 0, cells := 0, slots := 0, locals := 0 } : Room) s m #[(.ref b0_5)] below meth c s₁ [] 0 0 := Stand.of_body Bd
  have e0 : s₁.heap = h0 := by rw [← hh, Bd.state]; rfl
  have N0 := Fr.nil n0
  have pre0 : ∀ t, Steps p.tables e below (s₁.setTop (mkF m 0 #[rv b0_5, .unset] [])) t → Steps p.tables e below (s₁.setTop (entryFrame m #[(.ref b0_5)] 2)) t := fun t k => castTop (ef_2_R m b0_5) k
  obtain ⟨T1, X1, e1, st1⟩ := getS2 X0 hx hZ hown (host := "") (Or.inl (hw _ (List.mem_of_getElem? (i := 9) rfl))) Via.refl e0 S_Giop_MAGIC (g := (mkF m 3 #[rv b0_5, iv (0 : Int32)] [(.int (0 : Int32))])) rfl (hb hby d2_3)
  obtain ⟨cl2, Ar2, -, Sz2, Nn2, -, -⟩ := id V_w_Giop_MAGIC
  obtain ⟨cl3, Ar3, -, Sz3, Nn3, Hs3, Gs3⟩ := id V_b0_5
  have hin3 : ¬ ((0 : Int32) < 0 ∨ cl3.slots.size ≤ ((0 : Int32)).toNatClampNeg) := inb_of Sz3 ⟨by decide, by decide⟩
  obtain ⟨T4, X4, e4, st4⟩ := getS2 X1 hx hZ hown (host := "") (Or.inl (hw _ (List.mem_of_getElem? (i := 9) rfl))) Via.refl e1 S_Giop_MAGIC (g := (mkF m 13 #[rv b0_5, iv (0 : Int32)] [(.int (71 : Int32))])) rfl (hb hby d2_13)
  obtain ⟨cl5, Ar5, -, Sz5, Nn5, Hs5, Gs5⟩ := id V_w_Giop_MAGIC
  have hin5 : ¬ ((0 : Int32) < 0 ∨ cl5.slots.size ≤ ((0 : Int32)).toNatClampNeg) := inb_of Sz5 ⟨by decide, by decide⟩
  obtain ⟨T6, X6, e6, st6⟩ := getS2 X4 hx hZ hown (host := "") (Or.inl (hw _ (List.mem_of_getElem? (i := 9) rfl))) Via.refl e4 S_Giop_MAGIC (g := (mkF m 3 #[rv b0_5, iv (1 : Int32)] [(.int (1 : Int32))])) rfl (hb hby d2_3)
  obtain ⟨cl7, Ar7, -, Sz7, Nn7, -, -⟩ := id V_w_Giop_MAGIC
  obtain ⟨cl8, Ar8, -, Sz8, Nn8, Hs8, Gs8⟩ := id V_b0_5
  have hin8 : ¬ ((1 : Int32) < 0 ∨ cl8.slots.size ≤ ((1 : Int32)).toNatClampNeg) := inb_of Sz8 ⟨by decide, by decide⟩
  obtain ⟨T9, X9, e9, st9⟩ := getS2 X6 hx hZ hown (host := "") (Or.inl (hw _ (List.mem_of_getElem? (i := 9) rfl))) Via.refl e6 S_Giop_MAGIC (g := (mkF m 13 #[rv b0_5, iv (1 : Int32)] [(.int (73 : Int32))])) rfl (hb hby d2_13)
  obtain ⟨cl10, Ar10, -, Sz10, Nn10, Hs10, Gs10⟩ := id V_w_Giop_MAGIC
  have hin10 : ¬ ((1 : Int32) < 0 ∨ cl10.slots.size ≤ ((1 : Int32)).toNatClampNeg) := inb_of Sz10 ⟨by decide, by decide⟩
  obtain ⟨T11, X11, e11, st11⟩ := getS2 X9 hx hZ hown (host := "") (Or.inl (hw _ (List.mem_of_getElem? (i := 9) rfl))) Via.refl e9 S_Giop_MAGIC (g := (mkF m 3 #[rv b0_5, iv (2 : Int32)] [(.int (2 : Int32))])) rfl (hb hby d2_3)
  obtain ⟨cl12, Ar12, -, Sz12, Nn12, -, -⟩ := id V_w_Giop_MAGIC
  obtain ⟨cl13, Ar13, -, Sz13, Nn13, Hs13, Gs13⟩ := id V_b0_5
  have hin13 : ¬ ((2 : Int32) < 0 ∨ cl13.slots.size ≤ ((2 : Int32)).toNatClampNeg) := inb_of Sz13 ⟨by decide, by decide⟩
  obtain ⟨T14, X14, e14, st14⟩ := getS2 X11 hx hZ hown (host := "") (Or.inl (hw _ (List.mem_of_getElem? (i := 9) rfl))) Via.refl e11 S_Giop_MAGIC (g := (mkF m 13 #[rv b0_5, iv (2 : Int32)] [(.int (79 : Int32))])) rfl (hb hby d2_13)
  obtain ⟨cl15, Ar15, -, Sz15, Nn15, Hs15, Gs15⟩ := id V_w_Giop_MAGIC
  have hin15 : ¬ ((2 : Int32) < 0 ∨ cl15.slots.size ≤ ((2 : Int32)).toNatClampNeg) := inb_of Sz15 ⟨by decide, by decide⟩
  obtain ⟨T16, X16, e16, st16⟩ := getS2 X14 hx hZ hown (host := "") (Or.inl (hw _ (List.mem_of_getElem? (i := 9) rfl))) Via.refl e14 S_Giop_MAGIC (g := (mkF m 3 #[rv b0_5, iv (3 : Int32)] [(.int (3 : Int32))])) rfl (hb hby d2_3)
  obtain ⟨cl17, Ar17, -, Sz17, Nn17, -, -⟩ := id V_w_Giop_MAGIC
  obtain ⟨cl18, Ar18, -, Sz18, Nn18, Hs18, Gs18⟩ := id V_b0_5
  have hin18 : ¬ ((3 : Int32) < 0 ∨ cl18.slots.size ≤ ((3 : Int32)).toNatClampNeg) := inb_of Sz18 ⟨by decide, by decide⟩
  obtain ⟨T19, X19, e19, st19⟩ := getS2 X16 hx hZ hown (host := "") (Or.inl (hw _ (List.mem_of_getElem? (i := 9) rfl))) Via.refl e16 S_Giop_MAGIC (g := (mkF m 13 #[rv b0_5, iv (3 : Int32)] [(.int (80 : Int32))])) rfl (hb hby d2_13)
  obtain ⟨cl20, Ar20, -, Sz20, Nn20, Hs20, Gs20⟩ := id V_w_Giop_MAGIC
  have hin20 : ¬ ((3 : Int32) < 0 ∨ cl20.slots.size ≤ ((3 : Int32)).toNatClampNeg) := inb_of Sz20 ⟨by decide, by decide⟩
  obtain ⟨T21, X21, e21, st21⟩ := getS2 X19 hx hZ hown (host := "") (Or.inl (hw _ (List.mem_of_getElem? (i := 9) rfl))) Via.refl e19 S_Giop_MAGIC (g := (mkF m 3 #[rv b0_5, iv (4 : Int32)] [(.int (4 : Int32))])) rfl (hb hby d2_3)
  obtain ⟨cl22, Ar22, -, Sz22, Nn22, -, -⟩ := id V_w_Giop_MAGIC
  obtain ⟨fs, hr, hrun, hended, hW, hsame⟩ := X21.leave (v := (some (.int (1 : Int32)))) (fun h => by rw [Bd.returns] at h; cases h)
  refine ⟨_, _, pre0 _ ?_, hrun, hended, _, _, rfl, ?_, ⟨_, rfl⟩, hW, hsame.mono (by decide) (by decide)⟩
  · show Steps p.tables e below (s₁.setTop (mkF m 0 #[rv b0_5, .unset] [])) _
    refine XS.iconst X0.here hx rfl (hb hby d2_0) ?_
    refine XS.istoreN X0.here hx rfl (hb hby d2_1) rfl (l' := #[rv b0_5, iv (0 : Int32)]) rfl ?_
    refine XS.iloadN X0.here hx rfl (hb hby d2_2) rfl ?_
    refine st1 _ ?_
    refine X1.arraylength hx (by rw [e1]; exact Ar2.1) (State.isArrayOf_alike hZ.alike Ar2.2.1) (g := (mkF m 6 #[rv b0_5, iv (0 : Int32)] [(.ref w_Giop_MAGIC), (.int (0 : Int32))])) rfl rfl (hb hby d2_6) _ ?_
    rw [len_of Sz2 Nn2]
    refine XS.icmpNo X1.here hx rfl (hb hby d2_7) rfl (tlt (by decide +kernel : (0 : Int32) < (4 : Int32))).2.1 ?_
    show Steps p.tables e below (T1.setTop (mkF m 10 #[rv b0_5, iv (0 : Int32)] [])) _
    refine XS.aloadN X1.here hx rfl (hb hby d2_10) rfl rfl ?_
    refine XS.iloadN X1.here hx rfl (hb hby d2_11) rfl ?_
    refine X1.baloadBytes hx (j := (0 : Int32)) (v := (.int (71 : Int32))) (by rw [e1]; exact Ar3.1) (State.isArrayOf_alike hZ.alike Ar3.2.1) Ar3.2.2 hin3 (Hs3.at hin3 rfl) (g := (mkF m 12 #[rv b0_5, iv (0 : Int32)] [(.int (0 : Int32)), (.ref b0_5)])) rfl rfl (hb hby d2_12) _ ?_
    refine st4 _ ?_
    refine XS.iloadN X4.here hx rfl (hb hby d2_16) rfl ?_
    refine X4.baloadBytes hx (j := (0 : Int32)) (v := (.int (71 : Int32))) (by rw [e4]; exact Ar5.1) (State.isArrayOf_alike hZ.alike Ar5.2.1) Ar5.2.2 hin5 (Hs5.at hin5 rfl) (g := (mkF m 17 #[rv b0_5, iv (0 : Int32)] [(.int (0 : Int32)), (.ref w_Giop_MAGIC), (.int (71 : Int32))])) rfl rfl (hb hby d2_17) _ ?_
    show Steps p.tables e below (T4.setTop (mkF m 18 #[rv b0_5, iv (0 : Int32)] [(.int (71 : Int32)), (.int (71 : Int32))])) _
    refine XS.icmpYes X4.here hx rfl (pc0 := 18) (pc' := 23) rfl (hb hby d2_18) rfl (teq (by decide +kernel : (71 : Int32) = (71 : Int32))).1 (by decide) (by decide) ?_
    refine XS.iinc X4.here hx rfl (hb hby d2_23) rfl (l' := #[rv b0_5, iv ((0 : Int32) + (1 : Int32))]) rfl ?_
    show Steps p.tables e below (T4.setTop (mkF m 26 #[rv b0_5, iv ((0 : Int32) + (1 : Int32))] [])) _
    rewrite [show ((0 : Int32) + (1 : Int32)) = (1 : Int32) from by decide +kernel]
    refine XS.goto X4.here hx rfl (pc0 := 26) (pc' := 2) rfl (hb hby d2_26) (by decide) (by decide) ?_
    refine XS.iloadN X4.here hx rfl (hb hby d2_2) rfl ?_
    refine st6 _ ?_
    refine X6.arraylength hx (by rw [e6]; exact Ar7.1) (State.isArrayOf_alike hZ.alike Ar7.2.1) (g := (mkF m 6 #[rv b0_5, iv (1 : Int32)] [(.ref w_Giop_MAGIC), (.int (1 : Int32))])) rfl rfl (hb hby d2_6) _ ?_
    rw [len_of Sz7 Nn7]
    show Steps p.tables e below (T6.setTop (mkF m 7 #[rv b0_5, iv (1 : Int32)] [(.int (4 : Int32)), (.int (1 : Int32))])) _
    refine XS.icmpNo X6.here hx rfl (hb hby d2_7) rfl (tlt (by decide +kernel : (1 : Int32) < (4 : Int32))).2.1 ?_
    refine XS.aloadN X6.here hx rfl (hb hby d2_10) rfl rfl ?_
    refine XS.iloadN X6.here hx rfl (hb hby d2_11) rfl ?_
    refine X6.baloadBytes hx (j := (1 : Int32)) (v := (.int (73 : Int32))) (by rw [e6]; exact Ar8.1) (State.isArrayOf_alike hZ.alike Ar8.2.1) Ar8.2.2 hin8 (Hs8.at hin8 rfl) (g := (mkF m 12 #[rv b0_5, iv (1 : Int32)] [(.int (1 : Int32)), (.ref b0_5)])) rfl rfl (hb hby d2_12) _ ?_
    refine st9 _ ?_
    refine XS.iloadN X9.here hx rfl (hb hby d2_16) rfl ?_
    show Steps p.tables e below (T9.setTop (mkF m 17 #[rv b0_5, iv (1 : Int32)] [(.int (1 : Int32)), (.ref w_Giop_MAGIC), (.int (73 : Int32))])) _
    refine X9.baloadBytes hx (j := (1 : Int32)) (v := (.int (73 : Int32))) (by rw [e9]; exact Ar10.1) (State.isArrayOf_alike hZ.alike Ar10.2.1) Ar10.2.2 hin10 (Hs10.at hin10 rfl) (g := (mkF m 17 #[rv b0_5, iv (1 : Int32)] [(.int (1 : Int32)), (.ref w_Giop_MAGIC), (.int (73 : Int32))])) rfl rfl (hb hby d2_17) _ ?_
    refine XS.icmpYes X9.here hx rfl (pc0 := 18) (pc' := 23) rfl (hb hby d2_18) rfl (teq (by decide +kernel : (73 : Int32) = (73 : Int32))).1 (by decide) (by decide) ?_
    refine XS.iinc X9.here hx rfl (hb hby d2_23) rfl (l' := #[rv b0_5, iv ((1 : Int32) + (1 : Int32))]) rfl ?_
    show Steps p.tables e below (T9.setTop (mkF m 26 #[rv b0_5, iv ((1 : Int32) + (1 : Int32))] [])) _
    rewrite [show ((1 : Int32) + (1 : Int32)) = (2 : Int32) from by decide +kernel]
    refine XS.goto X9.here hx rfl (pc0 := 26) (pc' := 2) rfl (hb hby d2_26) (by decide) (by decide) ?_
    refine XS.iloadN X9.here hx rfl (hb hby d2_2) rfl ?_
    refine st11 _ ?_
    show Steps p.tables e below (T11.setTop (mkF m 6 #[rv b0_5, iv (2 : Int32)] [(.ref w_Giop_MAGIC), (.int (2 : Int32))])) _
    refine X11.arraylength hx (by rw [e11]; exact Ar12.1) (State.isArrayOf_alike hZ.alike Ar12.2.1) (g := (mkF m 6 #[rv b0_5, iv (2 : Int32)] [(.ref w_Giop_MAGIC), (.int (2 : Int32))])) rfl rfl (hb hby d2_6) _ ?_
    rw [len_of Sz12 Nn12]
    refine XS.icmpNo X11.here hx rfl (hb hby d2_7) rfl (tlt (by decide +kernel : (2 : Int32) < (4 : Int32))).2.1 ?_
    refine XS.aloadN X11.here hx rfl (hb hby d2_10) rfl rfl ?_
    refine XS.iloadN X11.here hx rfl (hb hby d2_11) rfl ?_
    refine X11.baloadBytes hx (j := (2 : Int32)) (v := (.int (79 : Int32))) (by rw [e11]; exact Ar13.1) (State.isArrayOf_alike hZ.alike Ar13.2.1) Ar13.2.2 hin13 (Hs13.at hin13 rfl) (g := (mkF m 12 #[rv b0_5, iv (2 : Int32)] [(.int (2 : Int32)), (.ref b0_5)])) rfl rfl (hb hby d2_12) _ ?_
    refine st14 _ ?_
    show Steps p.tables e below (T14.setTop (mkF m 16 #[rv b0_5, iv (2 : Int32)] [(.ref w_Giop_MAGIC), (.int (79 : Int32))])) _
    refine XS.iloadN X14.here hx rfl (hb hby d2_16) rfl ?_
    refine X14.baloadBytes hx (j := (2 : Int32)) (v := (.int (79 : Int32))) (by rw [e14]; exact Ar15.1) (State.isArrayOf_alike hZ.alike Ar15.2.1) Ar15.2.2 hin15 (Hs15.at hin15 rfl) (g := (mkF m 17 #[rv b0_5, iv (2 : Int32)] [(.int (2 : Int32)), (.ref w_Giop_MAGIC), (.int (79 : Int32))])) rfl rfl (hb hby d2_17) _ ?_
    refine XS.icmpYes X14.here hx rfl (pc0 := 18) (pc' := 23) rfl (hb hby d2_18) rfl (teq (by decide +kernel : (79 : Int32) = (79 : Int32))).1 (by decide) (by decide) ?_
    refine XS.iinc X14.here hx rfl (hb hby d2_23) rfl (l' := #[rv b0_5, iv ((2 : Int32) + (1 : Int32))]) rfl ?_
    show Steps p.tables e below (T14.setTop (mkF m 26 #[rv b0_5, iv ((2 : Int32) + (1 : Int32))] [])) _
    rewrite [show ((2 : Int32) + (1 : Int32)) = (3 : Int32) from by decide +kernel]
    refine XS.goto X14.here hx rfl (pc0 := 26) (pc' := 2) rfl (hb hby d2_26) (by decide) (by decide) ?_
    refine XS.iloadN X14.here hx rfl (hb hby d2_2) rfl ?_
    show Steps p.tables e below (T14.setTop (mkF m 3 #[rv b0_5, iv (3 : Int32)] [(.int (3 : Int32))])) _
    refine st16 _ ?_
    refine X16.arraylength hx (by rw [e16]; exact Ar17.1) (State.isArrayOf_alike hZ.alike Ar17.2.1) (g := (mkF m 6 #[rv b0_5, iv (3 : Int32)] [(.ref w_Giop_MAGIC), (.int (3 : Int32))])) rfl rfl (hb hby d2_6) _ ?_
    rw [len_of Sz17 Nn17]
    refine XS.icmpNo X16.here hx rfl (hb hby d2_7) rfl (tlt (by decide +kernel : (3 : Int32) < (4 : Int32))).2.1 ?_
    refine XS.aloadN X16.here hx rfl (hb hby d2_10) rfl rfl ?_
    refine XS.iloadN X16.here hx rfl (hb hby d2_11) rfl ?_
    refine X16.baloadBytes hx (j := (3 : Int32)) (v := (.int (80 : Int32))) (by rw [e16]; exact Ar18.1) (State.isArrayOf_alike hZ.alike Ar18.2.1) Ar18.2.2 hin18 (Hs18.at hin18 rfl) (g := (mkF m 12 #[rv b0_5, iv (3 : Int32)] [(.int (3 : Int32)), (.ref b0_5)])) rfl rfl (hb hby d2_12) _ ?_
    show Steps p.tables e below (T16.setTop (mkF m 13 #[rv b0_5, iv (3 : Int32)] [(.int (80 : Int32))])) _
    refine st19 _ ?_
    refine XS.iloadN X19.here hx rfl (hb hby d2_16) rfl ?_
    refine X19.baloadBytes hx (j := (3 : Int32)) (v := (.int (80 : Int32))) (by rw [e19]; exact Ar20.1) (State.isArrayOf_alike hZ.alike Ar20.2.1) Ar20.2.2 hin20 (Hs20.at hin20 rfl) (g := (mkF m 17 #[rv b0_5, iv (3 : Int32)] [(.int (3 : Int32)), (.ref w_Giop_MAGIC), (.int (80 : Int32))])) rfl rfl (hb hby d2_17) _ ?_
    refine XS.icmpYes X19.here hx rfl (pc0 := 18) (pc' := 23) rfl (hb hby d2_18) rfl (teq (by decide +kernel : (80 : Int32) = (80 : Int32))).1 (by decide) (by decide) ?_
    refine XS.iinc X19.here hx rfl (hb hby d2_23) rfl (l' := #[rv b0_5, iv ((3 : Int32) + (1 : Int32))]) rfl ?_
    show Steps p.tables e below (T19.setTop (mkF m 26 #[rv b0_5, iv ((3 : Int32) + (1 : Int32))] [])) _
    rewrite [show ((3 : Int32) + (1 : Int32)) = (4 : Int32) from by decide +kernel]
    refine XS.goto X19.here hx rfl (pc0 := 26) (pc' := 2) rfl (hb hby d2_26) (by decide) (by decide) ?_
    show Steps p.tables e below (T19.setTop (mkF m 2 #[rv b0_5, iv (4 : Int32)] [])) _
    refine XS.iloadN X19.here hx rfl (hb hby d2_2) rfl ?_
    refine st21 _ ?_
    refine X21.arraylength hx (by rw [e21]; exact Ar22.1) (State.isArrayOf_alike hZ.alike Ar22.2.1) (g := (mkF m 6 #[rv b0_5, iv (4 : Int32)] [(.ref w_Giop_MAGIC), (.int (4 : Int32))])) rfl rfl (hb hby d2_6) _ ?_
    rw [len_of Sz22 Nn22]
    refine XS.icmpYes X21.here hx rfl (pc0 := 7) (pc' := 29) rfl (hb hby d2_7) rfl (flt (by decide +kernel : ¬ ((4 : Int32) < (4 : Int32)))).2.1 (by decide) (by decide) ?_
    refine XS.iconst X21.here hx rfl (hb hby d2_29) ?_
    exact retN X21 hx (t := .boolean) Bd.returns (by simp) (hb hby d2_30) hr
  · exact ⟨rfl, N0, e21⟩
set_option maxRecDepth 65536 in
set_option maxHeartbeats 40000000 in
theorem rm0_0 (l : Launch) (Z : State) (a0 : Array Value) (hw : ∀ d ∈ tables_1, d.before a0 Z = true) (ws : List Jvm.Cond) (p0 : Int32) (p1 : Int32) (p2 : Int32) (p3 : Int32) (p4 : Int32) (p5 : Int32) (w_Giop_MAGIC : Addr) (k_w_Giop_MAGIC : ClassId) (h0 : Heap) (n0 : Nat) (Z0 : n0 ≤ h0.size) (hm0 : (own_pick p4 (0 : Int32) p0 (71 : Int32)) = (71 : Int32)) (hm1 : (own_pick p4 (1 : Int32) p1 (73 : Int32)) = (73 : Int32)) (hm2 : (own_pick p4 (2 : Int32) p2 (79 : Int32)) = (79 : Int32)) (hm3 : (own_pick p4 (3 : Int32) p3 (80 : Int32)) = (80 : Int32)) (hs : (((p4.toUInt32 >>> ((4 : Int32) &&& 31).toUInt32).toInt32) &&& (1 : Int32)) = (0 : Int32)) (S_Giop_MAGIC : Sta Z h0 "org/driftcairn/giop/Giop" "MAGIC" "[B" (.ref w_Giop_MAGIC)) (V_w_Giop_MAGIC : Arv Z h0 w_Giop_MAGIC k_w_Giop_MAGIC .byte (4 : Int32) [(.int (71 : Int32)), (.int (73 : Int32)), (.int (79 : Int32)), (.int (80 : Int32))] (.int (0 : Int32))) :
    MetFree l x (head1 (Jvm.Cond.code x code maxLocals ret :: ws) room_1) (fun a U => a = #[(.int p0), (.int p1), (.int p2), (.int p3), (.int p4), (.int p5)] ∧ Z.Warmed39 U.vm ∧ U.heap = h0) (fun _ _ _ _ _ => True) (fun _ U o U' => ∃ v L, o = .returned v ∧ own_QL n0 v U'.heap L ∧ FrameEnd U o U' L room_1.cells room_1.slots) := by
  refine MetFree.of_bodySF (plainFor_of_name pn_0) hisR ?_
  intro p e s m args below meth c s₁ Bd hml0 hP hK
  obtain ⟨rfl, hZ, hh⟩ := hP
  have hx := Bd.exec
  have hby := Bd.bytes
  have hml : c.maxLocals = 15 := hml0
  have hown : s.vm.findClass "org/driftcairn/giop/GiopHasMagicPinLaw" = some m.cls := findClass_of_methodNamed Bd.named
  have hnm := (name_of_methodNamed Bd.named Bd.method).1
  have X0 : Stand p l e room_1 s m #[(.int p0), (.int p1), (.int p2), (.int p3), (.int p4), (.int p5)] below meth c s₁ [] 0 0 := Stand.of_body Bd
  have e0 : s₁.heap = h0 := by rw [← hh, Bd.state]; rfl
  have N0 := Fr.nil n0
  have pre0 : ∀ t, Steps p.tables e below (s₁.setTop (mkF m 0 #[iv p0, iv p1, iv p2, iv p3, iv p4, iv p5, .unset, .unset, .unset, .unset, .unset, .unset, .unset, .unset, .unset] [])) t → Steps p.tables e below (s₁.setTop (entryFrame m #[(.int p0), (.int p1), (.int p2), (.int p3), (.int p4), (.int p5)] maxLocals)) t := fun t k => castTop (ef_0_IIIIII m p0 p1 p2 p3 p4 p5) k
  obtain ⟨_, _, ⟨T1, L1, k1, n1⟩, -, X1, ⟨Lc1, hQ1, l1, y1, z1⟩, st1⟩ := Jvm.LawKit.callS X0 hx (y := (⟨"org/driftcairn/giop/GiopHasMagicPinLaw", "pick", "(IIIC)B"⟩ : MethodName)) hown (mvT hZ (hw _ (List.mem_of_getElem? (i := 0) rfl))) (mvT hZ (hw _ (List.mem_of_getElem? (i := 1) rfl))) (mvT hZ (hw _ (List.mem_of_getElem? (i := 2) rfl))) (mvT hZ (hw _ (List.mem_of_getElem? (i := 3) rfl))) (by decide) (backOf (W := 0) (rk_pick l Z a0 hw [] p4 (0 : Int32) p0 (71 : Int32) h0 n0 Z0 ) hZ (hw _ (List.mem_of_getElem? (i := 3) rfl)) (hw _ (List.mem_of_getElem? (i := 2) rfl)) (by decide) (by decide)) (g := (mkF m 6 #[iv p0, iv p1, iv p2, iv p3, iv p4, iv p5, .unset, .unset, .unset, .unset, .unset, .unset, .unset, .unset, .unset] [(.int (71 : Int32)), (.int p0), (.int (0 : Int32)), (.int p4)])) rfl (by rw [hml]; rfl) (argsL := [(.int p4), (.int (0 : Int32)), (.int p0), (.int (71 : Int32))]) (rest := []) (lenOf pd_0 rfl) rfl (by show 2 * 0 + _ ≤ _; exact Nat.le_of_eq rfl) (hb hby at_6) (fun _ _ => ⟨rfl, e0, (by decide : 0 + 0 ≤ _), (by decide : 0 + 0 ≤ _)⟩)
  dsimp only [Pt.U, Pt.locs, Pt.cells, Pt.slots] at X1 l1 y1 z1 st1 hQ1
  subst l1 y1 z1
  obtain ⟨rfl, N1q, e1⟩ := hQ1
  have N1 := Fr.app N0 N1q
  obtain ⟨_, _, ⟨T2, L2, k2, n2⟩, -, X2, ⟨Lc2, hQ2, l2, y2, z2⟩, st2⟩ := Jvm.LawKit.callS X1 hx (y := (⟨"org/driftcairn/giop/GiopHasMagicPinLaw", "pick", "(IIIC)B"⟩ : MethodName)) hown (mvT hZ (hw _ (List.mem_of_getElem? (i := 0) rfl))) (mvT hZ (hw _ (List.mem_of_getElem? (i := 1) rfl))) (mvT hZ (hw _ (List.mem_of_getElem? (i := 2) rfl))) (mvT hZ (hw _ (List.mem_of_getElem? (i := 3) rfl))) (by decide) (backOf (W := 0) (rk_pick l Z a0 hw [] p4 (1 : Int32) p1 (73 : Int32) h0 n0 Z0 ) hZ (hw _ (List.mem_of_getElem? (i := 3) rfl)) (hw _ (List.mem_of_getElem? (i := 2) rfl)) (by decide) (by decide)) (g := (mkF m 17 #[iv p0, iv p1, iv p2, iv p3, iv p4, iv p5, iv (71 : Int32), .unset, .unset, .unset, .unset, .unset, .unset, .unset, .unset] [(.int (73 : Int32)), (.int p1), (.int (1 : Int32)), (.int p4)])) rfl (by rw [hml]; rfl) (argsL := [(.int p4), (.int (1 : Int32)), (.int p1), (.int (73 : Int32))]) (rest := []) (lenOf pd_0 rfl) rfl (by show 2 * 0 + _ ≤ _; exact Nat.le_of_eq rfl) (hb hby at_17) (fun _ _ => ⟨rfl, e1, (by decide : 0 + 0 ≤ _), (by decide : 0 + 0 ≤ _)⟩)
  dsimp only [Pt.U, Pt.locs, Pt.cells, Pt.slots] at X2 l2 y2 z2 st2 hQ2
  subst l2 y2 z2
  obtain ⟨rfl, N2q, e2⟩ := hQ2
  have N2 := Fr.app N1 N2q
  obtain ⟨_, _, ⟨T3, L3, k3, n3⟩, -, X3, ⟨Lc3, hQ3, l3, y3, z3⟩, st3⟩ := Jvm.LawKit.callS X2 hx (y := (⟨"org/driftcairn/giop/GiopHasMagicPinLaw", "pick", "(IIIC)B"⟩ : MethodName)) hown (mvT hZ (hw _ (List.mem_of_getElem? (i := 0) rfl))) (mvT hZ (hw _ (List.mem_of_getElem? (i := 1) rfl))) (mvT hZ (hw _ (List.mem_of_getElem? (i := 2) rfl))) (mvT hZ (hw _ (List.mem_of_getElem? (i := 3) rfl))) (by decide) (backOf (W := 0) (rk_pick l Z a0 hw [] p4 (2 : Int32) p2 (79 : Int32) h0 n0 Z0 ) hZ (hw _ (List.mem_of_getElem? (i := 3) rfl)) (hw _ (List.mem_of_getElem? (i := 2) rfl)) (by decide) (by decide)) (g := (mkF m 28 #[iv p0, iv p1, iv p2, iv p3, iv p4, iv p5, iv (71 : Int32), iv (73 : Int32), .unset, .unset, .unset, .unset, .unset, .unset, .unset] [(.int (79 : Int32)), (.int p2), (.int (2 : Int32)), (.int p4)])) rfl (by rw [hml]; rfl) (argsL := [(.int p4), (.int (2 : Int32)), (.int p2), (.int (79 : Int32))]) (rest := []) (lenOf pd_0 rfl) rfl (by show 2 * 0 + _ ≤ _; exact Nat.le_of_eq rfl) (hb hby at_28) (fun _ _ => ⟨rfl, e2, (by decide : 0 + 0 ≤ _), (by decide : 0 + 0 ≤ _)⟩)
  dsimp only [Pt.U, Pt.locs, Pt.cells, Pt.slots] at X3 l3 y3 z3 st3 hQ3
  subst l3 y3 z3
  obtain ⟨rfl, N3q, e3⟩ := hQ3
  have N3 := Fr.app N2 N3q
  obtain ⟨_, _, ⟨T4, L4, k4, n4⟩, -, X4, ⟨Lc4, hQ4, l4, y4, z4⟩, st4⟩ := Jvm.LawKit.callS X3 hx (y := (⟨"org/driftcairn/giop/GiopHasMagicPinLaw", "pick", "(IIIC)B"⟩ : MethodName)) hown (mvT hZ (hw _ (List.mem_of_getElem? (i := 0) rfl))) (mvT hZ (hw _ (List.mem_of_getElem? (i := 1) rfl))) (mvT hZ (hw _ (List.mem_of_getElem? (i := 2) rfl))) (mvT hZ (hw _ (List.mem_of_getElem? (i := 3) rfl))) (by decide) (backOf (W := 0) (rk_pick l Z a0 hw [] p4 (3 : Int32) p3 (80 : Int32) h0 n0 Z0 ) hZ (hw _ (List.mem_of_getElem? (i := 3) rfl)) (hw _ (List.mem_of_getElem? (i := 2) rfl)) (by decide) (by decide)) (g := (mkF m 39 #[iv p0, iv p1, iv p2, iv p3, iv p4, iv p5, iv (71 : Int32), iv (73 : Int32), iv (79 : Int32), .unset, .unset, .unset, .unset, .unset, .unset] [(.int (80 : Int32)), (.int p3), (.int (3 : Int32)), (.int p4)])) rfl (by rw [hml]; rfl) (argsL := [(.int p4), (.int (3 : Int32)), (.int p3), (.int (80 : Int32))]) (rest := []) (lenOf pd_0 rfl) rfl (by show 2 * 0 + _ ≤ _; exact Nat.le_of_eq rfl) (hb hby at_39) (fun _ _ => ⟨rfl, e3, (by decide : 0 + 0 ≤ _), (by decide : 0 + 0 ≤ _)⟩)
  dsimp only [Pt.U, Pt.locs, Pt.cells, Pt.slots] at X4 l4 y4 z4 st4 hQ4
  subst l4 y4 z4
  obtain ⟨rfl, N4q, e4⟩ := hQ4
  have N4 := Fr.app N3 N4q
  obtain ⟨T5, h5, k0_5, X5, e5, E5, A5, st5⟩ := newP X4 hx hZ (hw _ (List.mem_of_getElem? (i := 4) rfl)) e4 (g := (mkF m 73 #[iv p0, iv p1, iv p2, iv p3, iv p4, iv p5, iv (71 : Int32), iv (73 : Int32), iv (79 : Int32), iv (80 : Int32), iv (0 : Int32), .unset, .unset, .unset, .unset] [(.int (8 : Int32))])) rfl (hb hby at_73) rfl (by decide) (cap := 8) (by decide) (by decide) (by decide) (by decide)
  obtain ⟨b0_5, gg5⟩ : ∃ z, z = h0.size := ⟨_, rfl⟩
  rw [← gg5] at A5 st5
  have g_b0_5 : n0 ≤ b0_5 := Nat.le_trans Z0 (Nat.le_of_eq gg5.symm)
  have sz_b0_5 : h0.size ≤ b0_5 := Nat.le_trans (Keep.refl h0 []).1 (Nat.le_of_eq gg5.symm)
  have Z5 : n0 ≤ h5.size := Nat.le_trans Z0 E5.1
  have KK5 : Keep h0 h5 [] := (Keep.refl h0 []).ext E5
  have V_b0_5 : Arv Z h5 b0_5 k0_5 .byte (8 : Int32) [(.int (0 : Int32)), (.int (0 : Int32)), (.int (0 : Int32)), (.int (0 : Int32)), (.int (0 : Int32)), (.int (0 : Int32)), (.int (0 : Int32)), (.int (0 : Int32))] (.int (0 : Int32)) := (Arv.new A5 (by decide)).pad (pad_rep [] (.int (0 : Int32)) 8)
  obtain ⟨cl6, Ar6, qq6, Sz6, Nn6, Hs6, Gs6⟩ := id V_b0_5
  have hin6 : ¬ ((0 : Int32) < 0 ∨ cl6.slots.size ≤ ((0 : Int32)).toNatClampNeg) := inb_of Sz6 ⟨by decide, by decide⟩
  obtain ⟨T7, h7, X7, e7, W7, st7⟩ := stB X5 hx hZ e5 Ar6 (j := (0 : Int32)) hin6 (g := (mkF m 82 #[iv p0, iv p1, iv p2, iv p3, iv p4, iv p5, iv (71 : Int32), iv (73 : Int32), iv (79 : Int32), iv (80 : Int32), iv (0 : Int32), rv b0_5, .unset, .unset, .unset] [(.int (71 : Int32)), (.int (0 : Int32)), (.ref b0_5)])) rfl rfl (hb hby at_82)
  have va7 := Arv.set Ar6 qq6 Sz6 Nn6 Hs6 Gs6 (fits_nar_byte _) W7 0 rfl (Nat.le_of_ble_eq_true rfl)
  have vb7 : Arv Z h7 b0_5 k0_5 .byte (8 : Int32) [(.int (71 : Int32)), (.int (0 : Int32)), (.int (0 : Int32)), (.int (0 : Int32)), (.int (0 : Int32)), (.int (0 : Int32)), (.int (0 : Int32)), (.int (0 : Int32))] (.int (0 : Int32)) := va7
  have Z7 : n0 ≤ h7.size := Nat.le_trans Z5 (Keep.of_wr W7).1
  have KK7 : Keep h0 h7 [] := KK5.wr W7 (Or.inr sz_b0_5)
  have N7 := Fr.snoc X7 N4 g_b0_5
  obtain ⟨cl8, Ar8, qq8, Sz8, Nn8, Hs8, Gs8⟩ := id vb7
  have hin8 : ¬ ((1 : Int32) < 0 ∨ cl8.slots.size ≤ ((1 : Int32)).toNatClampNeg) := inb_of Sz8 ⟨by decide, by decide⟩
  obtain ⟨T9, h9, X9, e9, W9, st9⟩ := stB X7 hx hZ e7 Ar8 (j := (1 : Int32)) hin8 (g := (mkF m 88 #[iv p0, iv p1, iv p2, iv p3, iv p4, iv p5, iv (71 : Int32), iv (73 : Int32), iv (79 : Int32), iv (80 : Int32), iv (0 : Int32), rv b0_5, .unset, .unset, .unset] [(.int (73 : Int32)), (.int (1 : Int32)), (.ref b0_5)])) rfl rfl (hb hby at_88)
  have va9 := Arv.set Ar8 qq8 Sz8 Nn8 Hs8 Gs8 (fits_nar_byte _) W9 1 rfl (Nat.le_of_ble_eq_true rfl)
  have vb9 : Arv Z h9 b0_5 k0_5 .byte (8 : Int32) [(.int (71 : Int32)), (.int (73 : Int32)), (.int (0 : Int32)), (.int (0 : Int32)), (.int (0 : Int32)), (.int (0 : Int32)), (.int (0 : Int32)), (.int (0 : Int32))] (.int (0 : Int32)) := va9
  have Z9 : n0 ≤ h9.size := Nat.le_trans Z7 (Keep.of_wr W9).1
  have KK9 : Keep h0 h9 [] := KK7.wr W9 (Or.inr sz_b0_5)
  have N9 := Fr.snoc X9 N7 g_b0_5
  obtain ⟨cl10, Ar10, qq10, Sz10, Nn10, Hs10, Gs10⟩ := id vb9
  have hin10 : ¬ ((2 : Int32) < 0 ∨ cl10.slots.size ≤ ((2 : Int32)).toNatClampNeg) := inb_of Sz10 ⟨by decide, by decide⟩
  obtain ⟨T11, h11, X11, e11, W11, st11⟩ := stB X9 hx hZ e9 Ar10 (j := (2 : Int32)) hin10 (g := (mkF m 94 #[iv p0, iv p1, iv p2, iv p3, iv p4, iv p5, iv (71 : Int32), iv (73 : Int32), iv (79 : Int32), iv (80 : Int32), iv (0 : Int32), rv b0_5, .unset, .unset, .unset] [(.int (79 : Int32)), (.int (2 : Int32)), (.ref b0_5)])) rfl rfl (hb hby at_94)
  have va11 := Arv.set Ar10 qq10 Sz10 Nn10 Hs10 Gs10 (fits_nar_byte _) W11 2 rfl (Nat.le_of_ble_eq_true rfl)
  have vb11 : Arv Z h11 b0_5 k0_5 .byte (8 : Int32) [(.int (71 : Int32)), (.int (73 : Int32)), (.int (79 : Int32)), (.int (0 : Int32)), (.int (0 : Int32)), (.int (0 : Int32)), (.int (0 : Int32)), (.int (0 : Int32))] (.int (0 : Int32)) := va11
  have Z11 : n0 ≤ h11.size := Nat.le_trans Z9 (Keep.of_wr W11).1
  have KK11 : Keep h0 h11 [] := KK9.wr W11 (Or.inr sz_b0_5)
  have N11 := Fr.snoc X11 N9 g_b0_5
  obtain ⟨cl12, Ar12, qq12, Sz12, Nn12, Hs12, Gs12⟩ := id vb11
  have hin12 : ¬ ((3 : Int32) < 0 ∨ cl12.slots.size ≤ ((3 : Int32)).toNatClampNeg) := inb_of Sz12 ⟨by decide, by decide⟩
  obtain ⟨T13, h13, X13, e13, W13, st13⟩ := stB X11 hx hZ e11 Ar12 (j := (3 : Int32)) hin12 (g := (mkF m 100 #[iv p0, iv p1, iv p2, iv p3, iv p4, iv p5, iv (71 : Int32), iv (73 : Int32), iv (79 : Int32), iv (80 : Int32), iv (0 : Int32), rv b0_5, .unset, .unset, .unset] [(.int (80 : Int32)), (.int (3 : Int32)), (.ref b0_5)])) rfl rfl (hb hby at_100)
  have va13 := Arv.set Ar12 qq12 Sz12 Nn12 Hs12 Gs12 (fits_nar_byte _) W13 3 rfl (Nat.le_of_ble_eq_true rfl)
  have vb13 : Arv Z h13 b0_5 k0_5 .byte (8 : Int32) [(.int (71 : Int32)), (.int (73 : Int32)), (.int (79 : Int32)), (.int (80 : Int32)), (.int (0 : Int32)), (.int (0 : Int32)), (.int (0 : Int32)), (.int (0 : Int32))] (.int (0 : Int32)) := va13
  have Z13 : n0 ≤ h13.size := Nat.le_trans Z11 (Keep.of_wr W13).1
  have KK13 : Keep h0 h13 [] := KK11.wr W13 (Or.inr sz_b0_5)
  have N13 := Fr.snoc X13 N11 g_b0_5
  obtain ⟨cl14, Ar14, qq14, Sz14, Nn14, Hs14, Gs14⟩ := id vb13
  have hin14 : ¬ ((4 : Int32) < 0 ∨ cl14.slots.size ≤ ((4 : Int32)).toNatClampNeg) := inb_of Sz14 ⟨by decide, by decide⟩
  obtain ⟨T15, h15, X15, e15, W15, st15⟩ := stB X13 hx hZ e13 Ar14 (j := (4 : Int32)) hin14 (g := (mkF m 112 #[iv p0, iv p1, iv p2, iv p3, iv p4, iv p5, iv (71 : Int32), iv (73 : Int32), iv (79 : Int32), iv (80 : Int32), iv (0 : Int32), rv b0_5, .unset, .unset, .unset] [(.int (p5.toInt8.toInt32)), (.int (4 : Int32)), (.ref b0_5)])) rfl rfl (hb hby at_112)
  have va15 := Arv.set Ar14 qq14 Sz14 Nn14 Hs14 Gs14 (fits_nar_byte _) W15 4 rfl (Nat.le_of_ble_eq_true rfl)
  have vb15 : Arv Z h15 b0_5 k0_5 .byte (8 : Int32) [(.int (71 : Int32)), (.int (73 : Int32)), (.int (79 : Int32)), (.int (80 : Int32)), (.int (p5.toInt8.toInt32)), (.int (0 : Int32)), (.int (0 : Int32)), (.int (0 : Int32))] (.int (0 : Int32)) := by have t := va15; have q : ((p5.toInt8.toInt32)).toInt8.toInt32 = (p5.toInt8.toInt32) := (own_b8 _); rw [q] at t; exact t
  have Z15 : n0 ≤ h15.size := Nat.le_trans Z13 (Keep.of_wr W15).1
  have KK15 : Keep h0 h15 [] := KK13.wr W15 (Or.inr sz_b0_5)
  have N15 := Fr.snoc X15 N13 g_b0_5
  obtain ⟨cl16, Ar16, qq16, Sz16, Nn16, Hs16, Gs16⟩ := id vb15
  have hin16 : ¬ ((5 : Int32) < 0 ∨ cl16.slots.size ≤ ((5 : Int32)).toNatClampNeg) := inb_of Sz16 ⟨by decide, by decide⟩
  obtain ⟨T17, h17, X17, e17, W17, st17⟩ := stB X15 hx hZ e15 Ar16 (j := (5 : Int32)) hin16 (g := (mkF m 122 #[iv p0, iv p1, iv p2, iv p3, iv p4, iv p5, iv (71 : Int32), iv (73 : Int32), iv (79 : Int32), iv (80 : Int32), iv (0 : Int32), rv b0_5, .unset, .unset, .unset] [(.int (((p5.toUInt32 >>> ((8 : Int32) &&& 31).toUInt32).toInt32).toInt8.toInt32)), (.int (5 : Int32)), (.ref b0_5)])) rfl rfl (hb hby at_122)
  have va17 := Arv.set Ar16 qq16 Sz16 Nn16 Hs16 Gs16 (fits_nar_byte _) W17 5 rfl (Nat.le_of_ble_eq_true rfl)
  have vb17 : Arv Z h17 b0_5 k0_5 .byte (8 : Int32) [(.int (71 : Int32)), (.int (73 : Int32)), (.int (79 : Int32)), (.int (80 : Int32)), (.int (p5.toInt8.toInt32)), (.int (((p5.toUInt32 >>> ((8 : Int32) &&& 31).toUInt32).toInt32).toInt8.toInt32)), (.int (0 : Int32)), (.int (0 : Int32))] (.int (0 : Int32)) := by have t := va17; have q : ((((p5.toUInt32 >>> ((8 : Int32) &&& 31).toUInt32).toInt32).toInt8.toInt32)).toInt8.toInt32 = (((p5.toUInt32 >>> ((8 : Int32) &&& 31).toUInt32).toInt32).toInt8.toInt32) := (own_b8 _); rw [q] at t; exact t
  have Z17 : n0 ≤ h17.size := Nat.le_trans Z15 (Keep.of_wr W17).1
  have KK17 : Keep h0 h17 [] := KK15.wr W17 (Or.inr sz_b0_5)
  have N17 := Fr.snoc X17 N15 g_b0_5
  obtain ⟨cl18, Ar18, qq18, Sz18, Nn18, Hs18, Gs18⟩ := id vb17
  have hin18 : ¬ ((6 : Int32) < 0 ∨ cl18.slots.size ≤ ((6 : Int32)).toNatClampNeg) := inb_of Sz18 ⟨by decide, by decide⟩
  obtain ⟨T19, h19, X19, e19, W19, st19⟩ := stB X17 hx hZ e17 Ar18 (j := (6 : Int32)) hin18 (g := (mkF m 133 #[iv p0, iv p1, iv p2, iv p3, iv p4, iv p5, iv (71 : Int32), iv (73 : Int32), iv (79 : Int32), iv (80 : Int32), iv (0 : Int32), rv b0_5, .unset, .unset, .unset] [(.int (((p5.toUInt32 >>> ((16 : Int32) &&& 31).toUInt32).toInt32).toInt8.toInt32)), (.int (6 : Int32)), (.ref b0_5)])) rfl rfl (hb hby at_133)
  have va19 := Arv.set Ar18 qq18 Sz18 Nn18 Hs18 Gs18 (fits_nar_byte _) W19 6 rfl (Nat.le_of_ble_eq_true rfl)
  have vb19 : Arv Z h19 b0_5 k0_5 .byte (8 : Int32) [(.int (71 : Int32)), (.int (73 : Int32)), (.int (79 : Int32)), (.int (80 : Int32)), (.int (p5.toInt8.toInt32)), (.int (((p5.toUInt32 >>> ((8 : Int32) &&& 31).toUInt32).toInt32).toInt8.toInt32)), (.int (((p5.toUInt32 >>> ((16 : Int32) &&& 31).toUInt32).toInt32).toInt8.toInt32)), (.int (0 : Int32))] (.int (0 : Int32)) := by have t := va19; have q : ((((p5.toUInt32 >>> ((16 : Int32) &&& 31).toUInt32).toInt32).toInt8.toInt32)).toInt8.toInt32 = (((p5.toUInt32 >>> ((16 : Int32) &&& 31).toUInt32).toInt32).toInt8.toInt32) := (own_b8 _); rw [q] at t; exact t
  have Z19 : n0 ≤ h19.size := Nat.le_trans Z17 (Keep.of_wr W19).1
  have KK19 : Keep h0 h19 [] := KK17.wr W19 (Or.inr sz_b0_5)
  have N19 := Fr.snoc X19 N17 g_b0_5
  obtain ⟨cl20, Ar20, qq20, Sz20, Nn20, Hs20, Gs20⟩ := id vb19
  have hin20 : ¬ ((7 : Int32) < 0 ∨ cl20.slots.size ≤ ((7 : Int32)).toNatClampNeg) := inb_of Sz20 ⟨by decide, by decide⟩
  obtain ⟨T21, h21, X21, e21, W21, st21⟩ := stB X19 hx hZ e19 Ar20 (j := (7 : Int32)) hin20 (g := (mkF m 144 #[iv p0, iv p1, iv p2, iv p3, iv p4, iv p5, iv (71 : Int32), iv (73 : Int32), iv (79 : Int32), iv (80 : Int32), iv (0 : Int32), rv b0_5, .unset, .unset, .unset] [(.int (((p5.toUInt32 >>> ((24 : Int32) &&& 31).toUInt32).toInt32).toInt8.toInt32)), (.int (7 : Int32)), (.ref b0_5)])) rfl rfl (hb hby at_144)
  have va21 := Arv.set Ar20 qq20 Sz20 Nn20 Hs20 Gs20 (fits_nar_byte _) W21 7 rfl (Nat.le_of_ble_eq_true rfl)
  have vb21 : Arv Z h21 b0_5 k0_5 .byte (8 : Int32) [(.int (71 : Int32)), (.int (73 : Int32)), (.int (79 : Int32)), (.int (80 : Int32)), (.int (p5.toInt8.toInt32)), (.int (((p5.toUInt32 >>> ((8 : Int32) &&& 31).toUInt32).toInt32).toInt8.toInt32)), (.int (((p5.toUInt32 >>> ((16 : Int32) &&& 31).toUInt32).toInt32).toInt8.toInt32)), (.int (((p5.toUInt32 >>> ((24 : Int32) &&& 31).toUInt32).toInt32).toInt8.toInt32))] (.int (0 : Int32)) := by have t := va21; have q : ((((p5.toUInt32 >>> ((24 : Int32) &&& 31).toUInt32).toInt32).toInt8.toInt32)).toInt8.toInt32 = (((p5.toUInt32 >>> ((24 : Int32) &&& 31).toUInt32).toInt32).toInt8.toInt32) := (own_b8 _); rw [q] at t; exact t
  have Z21 : n0 ≤ h21.size := Nat.le_trans Z19 (Keep.of_wr W21).1
  have KK21 : Keep h0 h21 [] := KK19.wr W21 (Or.inr sz_b0_5)
  have N21 := Fr.snoc X21 N19 g_b0_5
  have c23 := (((((((((S_Giop_MAGIC.ext E5).wr W7).wr W9).wr W11).wr W13).wr W15).wr W17).wr W19).wr W21)
  have ne_b0_5_w_Giop_MAGIC_24 : ¬ (b0_5 = w_Giop_MAGIC) := (Ne.symm (Nat.ne_of_lt (Nat.lt_of_lt_of_le (V_w_Giop_MAGIC).lt (Nat.le_of_eq gg5.symm))))
  have c25 := (((((((((V_w_Giop_MAGIC.ext E5).other W7 (Ne.symm ne_b0_5_w_Giop_MAGIC_24)).other W9 (Ne.symm ne_b0_5_w_Giop_MAGIC_24)).other W11 (Ne.symm ne_b0_5_w_Giop_MAGIC_24)).other W13 (Ne.symm ne_b0_5_w_Giop_MAGIC_24)).other W15 (Ne.symm ne_b0_5_w_Giop_MAGIC_24)).other W17 (Ne.symm ne_b0_5_w_Giop_MAGIC_24)).other W19 (Ne.symm ne_b0_5_w_Giop_MAGIC_24)).other W21 (Ne.symm ne_b0_5_w_Giop_MAGIC_24))
  obtain ⟨_, _, ⟨T22, L22, k22, n22⟩, -, X22, ⟨Lc22, hQ22, l22, y22, z22⟩, st22⟩ := Jvm.LawKit.callS X21 hx (y := (⟨"org/driftcairn/giop/Giop", "hasMagic", "([B)Z"⟩ : MethodName)) hown (mvT hZ (hw _ (List.mem_of_getElem? (i := 5) rfl))) (mvT hZ (hw _ (List.mem_of_getElem? (i := 6) rfl))) (mvT hZ (hw _ (List.mem_of_getElem? (i := 7) rfl))) (mvT hZ (hw _ (List.mem_of_getElem? (i := 8) rfl))) (by decide) (backOf (W := 0) (rm2_0 l Z a0 hw [] p5 w_Giop_MAGIC k_w_Giop_MAGIC b0_5 k0_5 h21 n0 Z21 c23 c25 vb21) hZ (hw _ (List.mem_of_getElem? (i := 8) rfl)) (hw _ (List.mem_of_getElem? (i := 7) rfl)) (by decide) (by decide)) (g := (mkF m 182 #[iv p0, iv p1, iv p2, iv p3, iv p4, iv p5, iv (71 : Int32), iv (73 : Int32), iv (79 : Int32), iv (80 : Int32), iv (0 : Int32), rv b0_5, iv (1 : Int32), .unset, .unset] [(.ref b0_5)])) rfl (by rw [hml]; rfl) (argsL := [(.ref b0_5)]) (rest := []) (lenOf pd_1 rfl) rfl (by show 2 * 0 + _ ≤ _; exact Nat.le_of_eq rfl) (hb hby at_182) (fun _ _ => ⟨rfl, e21, (by decide : 1 + 0 ≤ _), (by decide : 8 + 0 ≤ _)⟩)
  dsimp only [Pt.U, Pt.locs, Pt.cells, Pt.slots] at X22 l22 y22 z22 st22 hQ22
  subst l22 y22 z22
  obtain ⟨rfl, N22q, e22⟩ := hQ22
  have N22 := Fr.app N21 N22q
  obtain ⟨cl26, Ar26, -, Sz26, Nn26, Hs26, Gs26⟩ := id vb21
  have hin26 : ¬ ((0 : Int32) < 0 ∨ cl26.slots.size ≤ ((0 : Int32)).toNatClampNeg) := inb_of Sz26 ⟨by decide, by decide⟩
  obtain ⟨cl27, Ar27, -, Sz27, Nn27, Hs27, Gs27⟩ := id vb21
  have hin27 : ¬ ((1 : Int32) < 0 ∨ cl27.slots.size ≤ ((1 : Int32)).toNatClampNeg) := inb_of Sz27 ⟨by decide, by decide⟩
  obtain ⟨cl28, Ar28, -, Sz28, Nn28, Hs28, Gs28⟩ := id vb21
  have hin28 : ¬ ((2 : Int32) < 0 ∨ cl28.slots.size ≤ ((2 : Int32)).toNatClampNeg) := inb_of Sz28 ⟨by decide, by decide⟩
  obtain ⟨cl29, Ar29, -, Sz29, Nn29, Hs29, Gs29⟩ := id vb21
  have hin29 : ¬ ((3 : Int32) < 0 ∨ cl29.slots.size ≤ ((3 : Int32)).toNatClampNeg) := inb_of Sz29 ⟨by decide, by decide⟩
  obtain ⟨fs, hr, hrun, hended, hW, hsame⟩ := X22.leave (v := (some (.int (1 : Int32)))) (fun h => by rw [Bd.returns] at h; cases h)
  refine ⟨_, _, pre0 _ ?_, hrun, hended, _, _, rfl, ?_, ⟨_, rfl⟩, hW, hsame.mono (by decide) (by decide)⟩
  · show Steps p.tables e below (s₁.setTop (mkF m 0 #[iv p0, iv p1, iv p2, iv p3, iv p4, iv p5, .unset, .unset, .unset, .unset, .unset, .unset, .unset, .unset, .unset] [])) _
    refine XS.iload X0.here hx rfl (hb hby at_0) rfl ?_
    refine XS.iconst X0.here hx rfl (hb hby at_2) ?_
    refine XS.iloadN X0.here hx rfl (hb hby at_3) rfl ?_
    refine XS.bipush X0.here hx rfl (hb hby at_4) ?_
    refine st1 _ ?_
    show Steps p.tables e below (T1.setTop (mkF m 9 #[iv p0, iv p1, iv p2, iv p3, iv p4, iv p5, .unset, .unset, .unset, .unset, .unset, .unset, .unset, .unset, .unset] [(.int (own_pick p4 (0 : Int32) p0 (71 : Int32)))])) _
    rewrite [hm0]
    refine XS.istore X1.here hx rfl (hb hby at_9) rfl (l' := #[iv p0, iv p1, iv p2, iv p3, iv p4, iv p5, iv (71 : Int32), .unset, .unset, .unset, .unset, .unset, .unset, .unset, .unset]) rfl ?_
    show Steps p.tables e below (T1.setTop (mkF m 11 #[iv p0, iv p1, iv p2, iv p3, iv p4, iv p5, iv (71 : Int32), .unset, .unset, .unset, .unset, .unset, .unset, .unset, .unset] [])) _
    refine XS.iload X1.here hx rfl (hb hby at_11) rfl ?_
    refine XS.iconst X1.here hx rfl (hb hby at_13) ?_
    refine XS.iloadN X1.here hx rfl (hb hby at_14) rfl ?_
    refine XS.bipush X1.here hx rfl (hb hby at_15) ?_
    refine st2 _ ?_
    show Steps p.tables e below (T2.setTop (mkF m 20 #[iv p0, iv p1, iv p2, iv p3, iv p4, iv p5, iv (71 : Int32), .unset, .unset, .unset, .unset, .unset, .unset, .unset, .unset] [(.int (own_pick p4 (1 : Int32) p1 (73 : Int32)))])) _
    rewrite [hm1]
    refine XS.istore X2.here hx rfl (hb hby at_20) rfl (l' := #[iv p0, iv p1, iv p2, iv p3, iv p4, iv p5, iv (71 : Int32), iv (73 : Int32), .unset, .unset, .unset, .unset, .unset, .unset, .unset]) rfl ?_
    show Steps p.tables e below (T2.setTop (mkF m 22 #[iv p0, iv p1, iv p2, iv p3, iv p4, iv p5, iv (71 : Int32), iv (73 : Int32), .unset, .unset, .unset, .unset, .unset, .unset, .unset] [])) _
    refine XS.iload X2.here hx rfl (hb hby at_22) rfl ?_
    refine XS.iconst X2.here hx rfl (hb hby at_24) ?_
    refine XS.iloadN X2.here hx rfl (hb hby at_25) rfl ?_
    refine XS.bipush X2.here hx rfl (hb hby at_26) ?_
    refine st3 _ ?_
    show Steps p.tables e below (T3.setTop (mkF m 31 #[iv p0, iv p1, iv p2, iv p3, iv p4, iv p5, iv (71 : Int32), iv (73 : Int32), .unset, .unset, .unset, .unset, .unset, .unset, .unset] [(.int (own_pick p4 (2 : Int32) p2 (79 : Int32)))])) _
    rewrite [hm2]
    refine XS.istore X3.here hx rfl (hb hby at_31) rfl (l' := #[iv p0, iv p1, iv p2, iv p3, iv p4, iv p5, iv (71 : Int32), iv (73 : Int32), iv (79 : Int32), .unset, .unset, .unset, .unset, .unset, .unset]) rfl ?_
    show Steps p.tables e below (T3.setTop (mkF m 33 #[iv p0, iv p1, iv p2, iv p3, iv p4, iv p5, iv (71 : Int32), iv (73 : Int32), iv (79 : Int32), .unset, .unset, .unset, .unset, .unset, .unset] [])) _
    refine XS.iload X3.here hx rfl (hb hby at_33) rfl ?_
    refine XS.iconst X3.here hx rfl (hb hby at_35) ?_
    refine XS.iloadN X3.here hx rfl (hb hby at_36) rfl ?_
    refine XS.bipush X3.here hx rfl (hb hby at_37) ?_
    refine st4 _ ?_
    show Steps p.tables e below (T4.setTop (mkF m 42 #[iv p0, iv p1, iv p2, iv p3, iv p4, iv p5, iv (71 : Int32), iv (73 : Int32), iv (79 : Int32), .unset, .unset, .unset, .unset, .unset, .unset] [(.int (own_pick p4 (3 : Int32) p3 (80 : Int32)))])) _
    rewrite [hm3]
    refine XS.istore X4.here hx rfl (hb hby at_42) rfl (l' := #[iv p0, iv p1, iv p2, iv p3, iv p4, iv p5, iv (71 : Int32), iv (73 : Int32), iv (79 : Int32), iv (80 : Int32), .unset, .unset, .unset, .unset, .unset]) rfl ?_
    show Steps p.tables e below (T4.setTop (mkF m 44 #[iv p0, iv p1, iv p2, iv p3, iv p4, iv p5, iv (71 : Int32), iv (73 : Int32), iv (79 : Int32), iv (80 : Int32), .unset, .unset, .unset, .unset, .unset] [])) _
    refine XS.iload X4.here hx rfl (hb hby at_44) rfl ?_
    refine XS.iconst X4.here hx rfl (hb hby at_46) ?_
    refine XS.iushr X4.here hx rfl (hb hby at_47) rfl ?_
    refine XS.iconst X4.here hx rfl (hb hby at_48) ?_
    refine XS.iand X4.here hx rfl (hb hby at_49) rfl ?_
    show Steps p.tables e below (T4.setTop (mkF m 50 #[iv p0, iv p1, iv p2, iv p3, iv p4, iv p5, iv (71 : Int32), iv (73 : Int32), iv (79 : Int32), iv (80 : Int32), .unset, .unset, .unset, .unset, .unset] [(.int (((p4.toUInt32 >>> ((4 : Int32) &&& 31).toUInt32).toInt32) &&& (1 : Int32)))])) _
    rewrite [hs]
    refine XS.ifYes X4.here hx rfl (pc0 := 50) (pc' := 57) rfl (hb hby at_50) rfl ((if0 _ _).trans (teq (by decide +kernel : (0 : Int32) = (0 : Int32))).1) (by decide) (by decide) ?_
    show Steps p.tables e below (T4.setTop (mkF m 57 #[iv p0, iv p1, iv p2, iv p3, iv p4, iv p5, iv (71 : Int32), iv (73 : Int32), iv (79 : Int32), iv (80 : Int32), .unset, .unset, .unset, .unset, .unset] [])) _
    refine XS.iconst X4.here hx rfl (hb hby at_57) ?_
    refine XS.istore X4.here hx rfl (hb hby at_58) rfl (l' := #[iv p0, iv p1, iv p2, iv p3, iv p4, iv p5, iv (71 : Int32), iv (73 : Int32), iv (79 : Int32), iv (80 : Int32), iv (0 : Int32), .unset, .unset, .unset, .unset]) rfl ?_
    refine XS.iload X4.here hx rfl (hb hby at_60) rfl ?_
    refine XS.ifYes X4.here hx rfl (pc0 := 62) (pc' := 71) rfl (hb hby at_62) rfl ((if0 _ _).trans (teq (by decide +kernel : (0 : Int32) = (0 : Int32))).1) (by decide) (by decide) ?_
    refine XS.bipush X4.here hx rfl (hb hby at_71) ?_
    refine st5 _ ?_
    show Steps p.tables e below (T5.setTop (mkF m 75 #[iv p0, iv p1, iv p2, iv p3, iv p4, iv p5, iv (71 : Int32), iv (73 : Int32), iv (79 : Int32), iv (80 : Int32), iv (0 : Int32), .unset, .unset, .unset, .unset] [(.ref b0_5)])) _
    refine XS.astore X5.here hx rfl (hb hby at_75) rfl rfl (l' := #[iv p0, iv p1, iv p2, iv p3, iv p4, iv p5, iv (71 : Int32), iv (73 : Int32), iv (79 : Int32), iv (80 : Int32), iv (0 : Int32), rv b0_5, .unset, .unset, .unset]) rfl ?_
    refine XS.aload X5.here hx rfl (hb hby at_77) rfl rfl ?_
    refine XS.iconst X5.here hx rfl (hb hby at_79) ?_
    refine XS.iload X5.here hx rfl (hb hby at_80) rfl ?_
    refine st7 _ ?_
    refine XS.aload X7.here hx rfl (hb hby at_83) rfl rfl ?_
    show Steps p.tables e below (T7.setTop (mkF m 85 #[iv p0, iv p1, iv p2, iv p3, iv p4, iv p5, iv (71 : Int32), iv (73 : Int32), iv (79 : Int32), iv (80 : Int32), iv (0 : Int32), rv b0_5, .unset, .unset, .unset] [(.ref b0_5)])) _
    refine XS.iconst X7.here hx rfl (hb hby at_85) ?_
    refine XS.iload X7.here hx rfl (hb hby at_86) rfl ?_
    refine st9 _ ?_
    refine XS.aload X9.here hx rfl (hb hby at_89) rfl rfl ?_
    refine XS.iconst X9.here hx rfl (hb hby at_91) ?_
    refine XS.iload X9.here hx rfl (hb hby at_92) rfl ?_
    show Steps p.tables e below (T9.setTop (mkF m 94 #[iv p0, iv p1, iv p2, iv p3, iv p4, iv p5, iv (71 : Int32), iv (73 : Int32), iv (79 : Int32), iv (80 : Int32), iv (0 : Int32), rv b0_5, .unset, .unset, .unset] [(.int (79 : Int32)), (.int (2 : Int32)), (.ref b0_5)])) _
    refine st11 _ ?_
    refine XS.aload X11.here hx rfl (hb hby at_95) rfl rfl ?_
    refine XS.iconst X11.here hx rfl (hb hby at_97) ?_
    refine XS.iload X11.here hx rfl (hb hby at_98) rfl ?_
    refine st13 _ ?_
    refine XS.iload X13.here hx rfl (hb hby at_101) rfl ?_
    show Steps p.tables e below (T13.setTop (mkF m 103 #[iv p0, iv p1, iv p2, iv p3, iv p4, iv p5, iv (71 : Int32), iv (73 : Int32), iv (79 : Int32), iv (80 : Int32), iv (0 : Int32), rv b0_5, .unset, .unset, .unset] [(.int (0 : Int32))])) _
    refine XS.ifNo X13.here hx rfl (hb hby at_103) rfl ((if0 _ _).trans (teq (by decide +kernel : (0 : Int32) = (0 : Int32))).2) ?_
    refine XS.aload X13.here hx rfl (hb hby at_106) rfl rfl ?_
    refine XS.iconst X13.here hx rfl (hb hby at_108) ?_
    refine XS.iload X13.here hx rfl (hb hby at_109) rfl ?_
    refine XS.i2b X13.here hx rfl (hb hby at_111) rfl ?_
    refine st15 _ ?_
    show Steps p.tables e below (T15.setTop (mkF m 113 #[iv p0, iv p1, iv p2, iv p3, iv p4, iv p5, iv (71 : Int32), iv (73 : Int32), iv (79 : Int32), iv (80 : Int32), iv (0 : Int32), rv b0_5, .unset, .unset, .unset] [])) _
    refine XS.aload X15.here hx rfl (hb hby at_113) rfl rfl ?_
    refine XS.iconst X15.here hx rfl (hb hby at_115) ?_
    refine XS.iload X15.here hx rfl (hb hby at_116) rfl ?_
    refine XS.bipush X15.here hx rfl (hb hby at_118) ?_
    refine XS.iushr X15.here hx rfl (hb hby at_120) rfl ?_
    refine XS.i2b X15.here hx rfl (hb hby at_121) rfl ?_
    show Steps p.tables e below (T15.setTop (mkF m 122 #[iv p0, iv p1, iv p2, iv p3, iv p4, iv p5, iv (71 : Int32), iv (73 : Int32), iv (79 : Int32), iv (80 : Int32), iv (0 : Int32), rv b0_5, .unset, .unset, .unset] [(.int (((p5.toUInt32 >>> ((8 : Int32) &&& 31).toUInt32).toInt32).toInt8.toInt32)), (.int (5 : Int32)), (.ref b0_5)])) _
    refine st17 _ ?_
    refine XS.aload X17.here hx rfl (hb hby at_123) rfl rfl ?_
    refine XS.bipush X17.here hx rfl (hb hby at_125) ?_
    refine XS.iload X17.here hx rfl (hb hby at_127) rfl ?_
    refine XS.bipush X17.here hx rfl (hb hby at_129) ?_
    refine XS.iushr X17.here hx rfl (hb hby at_131) rfl ?_
    show Steps p.tables e below (T17.setTop (mkF m 132 #[iv p0, iv p1, iv p2, iv p3, iv p4, iv p5, iv (71 : Int32), iv (73 : Int32), iv (79 : Int32), iv (80 : Int32), iv (0 : Int32), rv b0_5, .unset, .unset, .unset] [(.int ((p5.toUInt32 >>> ((16 : Int32) &&& 31).toUInt32).toInt32)), (.int (6 : Int32)), (.ref b0_5)])) _
    refine XS.i2b X17.here hx rfl (hb hby at_132) rfl ?_
    refine st19 _ ?_
    refine XS.aload X19.here hx rfl (hb hby at_134) rfl rfl ?_
    refine XS.bipush X19.here hx rfl (hb hby at_136) ?_
    refine XS.iload X19.here hx rfl (hb hby at_138) rfl ?_
    refine XS.bipush X19.here hx rfl (hb hby at_140) ?_
    show Steps p.tables e below (T19.setTop (mkF m 142 #[iv p0, iv p1, iv p2, iv p3, iv p4, iv p5, iv (71 : Int32), iv (73 : Int32), iv (79 : Int32), iv (80 : Int32), iv (0 : Int32), rv b0_5, .unset, .unset, .unset] [(.int (24 : Int32)), (.int p5), (.int (7 : Int32)), (.ref b0_5)])) _
    refine XS.iushr X19.here hx rfl (hb hby at_142) rfl ?_
    refine XS.i2b X19.here hx rfl (hb hby at_143) rfl ?_
    refine st21 _ ?_
    refine XS.iload X21.here hx rfl (hb hby at_145) rfl ?_
    refine XS.bipush X21.here hx rfl (hb hby at_147) ?_
    refine XS.icmpNo X21.here hx rfl (hb hby at_149) rfl (teq (by decide +kernel : (71 : Int32) = (71 : Int32))).2 ?_
    show Steps p.tables e below (T21.setTop (mkF m 152 #[iv p0, iv p1, iv p2, iv p3, iv p4, iv p5, iv (71 : Int32), iv (73 : Int32), iv (79 : Int32), iv (80 : Int32), iv (0 : Int32), rv b0_5, .unset, .unset, .unset] [])) _
    refine XS.iload X21.here hx rfl (hb hby at_152) rfl ?_
    refine XS.bipush X21.here hx rfl (hb hby at_154) ?_
    refine XS.icmpNo X21.here hx rfl (hb hby at_156) rfl (teq (by decide +kernel : (73 : Int32) = (73 : Int32))).2 ?_
    refine XS.iload X21.here hx rfl (hb hby at_159) rfl ?_
    refine XS.bipush X21.here hx rfl (hb hby at_161) ?_
    refine XS.icmpNo X21.here hx rfl (hb hby at_163) rfl (teq (by decide +kernel : (79 : Int32) = (79 : Int32))).2 ?_
    show Steps p.tables e below (T21.setTop (mkF m 166 #[iv p0, iv p1, iv p2, iv p3, iv p4, iv p5, iv (71 : Int32), iv (73 : Int32), iv (79 : Int32), iv (80 : Int32), iv (0 : Int32), rv b0_5, .unset, .unset, .unset] [])) _
    refine XS.iload X21.here hx rfl (hb hby at_166) rfl ?_
    refine XS.bipush X21.here hx rfl (hb hby at_168) ?_
    refine XS.icmpNo X21.here hx rfl (hb hby at_170) rfl (teq (by decide +kernel : (80 : Int32) = (80 : Int32))).2 ?_
    refine XS.iconst X21.here hx rfl (hb hby at_173) ?_
    refine XS.goto X21.here hx rfl (pc0 := 174) (pc' := 178) rfl (hb hby at_174) (by decide) (by decide) ?_
    refine XS.istore X21.here hx rfl (hb hby at_178) rfl (l' := #[iv p0, iv p1, iv p2, iv p3, iv p4, iv p5, iv (71 : Int32), iv (73 : Int32), iv (79 : Int32), iv (80 : Int32), iv (0 : Int32), rv b0_5, iv (1 : Int32), .unset, .unset]) rfl ?_
    show Steps p.tables e below (T21.setTop (mkF m 180 #[iv p0, iv p1, iv p2, iv p3, iv p4, iv p5, iv (71 : Int32), iv (73 : Int32), iv (79 : Int32), iv (80 : Int32), iv (0 : Int32), rv b0_5, iv (1 : Int32), .unset, .unset] [])) _
    refine XS.aload X21.here hx rfl (hb hby at_180) rfl rfl ?_
    refine st22 _ ?_
    refine XS.istore X22.here hx rfl (hb hby at_185) rfl (l' := #[iv p0, iv p1, iv p2, iv p3, iv p4, iv p5, iv (71 : Int32), iv (73 : Int32), iv (79 : Int32), iv (80 : Int32), iv (0 : Int32), rv b0_5, iv (1 : Int32), iv (1 : Int32), .unset]) rfl ?_
    refine XS.aload X22.here hx rfl (hb hby at_187) rfl rfl ?_
    refine XS.iconst X22.here hx rfl (hb hby at_189) ?_
    refine X22.baloadBytes hx (j := (0 : Int32)) (v := (.int (71 : Int32))) (by rw [e22]; exact Ar26.1) (State.isArrayOf_alike hZ.alike Ar26.2.1) Ar26.2.2 hin26 (Hs26.at hin26 rfl) (g := (mkF m 190 #[iv p0, iv p1, iv p2, iv p3, iv p4, iv p5, iv (71 : Int32), iv (73 : Int32), iv (79 : Int32), iv (80 : Int32), iv (0 : Int32), rv b0_5, iv (1 : Int32), iv (1 : Int32), .unset] [(.int (0 : Int32)), (.ref b0_5)])) rfl rfl (hb hby at_190) _ ?_
    show Steps p.tables e below (T22.setTop (mkF m 191 #[iv p0, iv p1, iv p2, iv p3, iv p4, iv p5, iv (71 : Int32), iv (73 : Int32), iv (79 : Int32), iv (80 : Int32), iv (0 : Int32), rv b0_5, iv (1 : Int32), iv (1 : Int32), .unset] [(.int (71 : Int32))])) _
    refine XS.iload X22.here hx rfl (hb hby at_191) rfl ?_
    refine XS.icmpNo X22.here hx rfl (hb hby at_193) rfl (teq (by decide +kernel : (71 : Int32) = (71 : Int32))).2 ?_
    refine XS.aload X22.here hx rfl (hb hby at_196) rfl rfl ?_
    refine XS.iconst X22.here hx rfl (hb hby at_198) ?_
    refine X22.baloadBytes hx (j := (1 : Int32)) (v := (.int (73 : Int32))) (by rw [e22]; exact Ar27.1) (State.isArrayOf_alike hZ.alike Ar27.2.1) Ar27.2.2 hin27 (Hs27.at hin27 rfl) (g := (mkF m 199 #[iv p0, iv p1, iv p2, iv p3, iv p4, iv p5, iv (71 : Int32), iv (73 : Int32), iv (79 : Int32), iv (80 : Int32), iv (0 : Int32), rv b0_5, iv (1 : Int32), iv (1 : Int32), .unset] [(.int (1 : Int32)), (.ref b0_5)])) rfl rfl (hb hby at_199) _ ?_
    refine XS.iload X22.here hx rfl (hb hby at_200) rfl ?_
    show Steps p.tables e below (T22.setTop (mkF m 202 #[iv p0, iv p1, iv p2, iv p3, iv p4, iv p5, iv (71 : Int32), iv (73 : Int32), iv (79 : Int32), iv (80 : Int32), iv (0 : Int32), rv b0_5, iv (1 : Int32), iv (1 : Int32), .unset] [(.int (73 : Int32)), (.int (73 : Int32))])) _
    refine XS.icmpNo X22.here hx rfl (hb hby at_202) rfl (teq (by decide +kernel : (73 : Int32) = (73 : Int32))).2 ?_
    refine XS.aload X22.here hx rfl (hb hby at_205) rfl rfl ?_
    refine XS.iconst X22.here hx rfl (hb hby at_207) ?_
    refine X22.baloadBytes hx (j := (2 : Int32)) (v := (.int (79 : Int32))) (by rw [e22]; exact Ar28.1) (State.isArrayOf_alike hZ.alike Ar28.2.1) Ar28.2.2 hin28 (Hs28.at hin28 rfl) (g := (mkF m 208 #[iv p0, iv p1, iv p2, iv p3, iv p4, iv p5, iv (71 : Int32), iv (73 : Int32), iv (79 : Int32), iv (80 : Int32), iv (0 : Int32), rv b0_5, iv (1 : Int32), iv (1 : Int32), .unset] [(.int (2 : Int32)), (.ref b0_5)])) rfl rfl (hb hby at_208) _ ?_
    refine XS.iload X22.here hx rfl (hb hby at_209) rfl ?_
    refine XS.icmpNo X22.here hx rfl (hb hby at_211) rfl (teq (by decide +kernel : (79 : Int32) = (79 : Int32))).2 ?_
    show Steps p.tables e below (T22.setTop (mkF m 214 #[iv p0, iv p1, iv p2, iv p3, iv p4, iv p5, iv (71 : Int32), iv (73 : Int32), iv (79 : Int32), iv (80 : Int32), iv (0 : Int32), rv b0_5, iv (1 : Int32), iv (1 : Int32), .unset] [])) _
    refine XS.aload X22.here hx rfl (hb hby at_214) rfl rfl ?_
    refine XS.iconst X22.here hx rfl (hb hby at_216) ?_
    refine X22.baloadBytes hx (j := (3 : Int32)) (v := (.int (80 : Int32))) (by rw [e22]; exact Ar29.1) (State.isArrayOf_alike hZ.alike Ar29.2.1) Ar29.2.2 hin29 (Hs29.at hin29 rfl) (g := (mkF m 217 #[iv p0, iv p1, iv p2, iv p3, iv p4, iv p5, iv (71 : Int32), iv (73 : Int32), iv (79 : Int32), iv (80 : Int32), iv (0 : Int32), rv b0_5, iv (1 : Int32), iv (1 : Int32), .unset] [(.int (3 : Int32)), (.ref b0_5)])) rfl rfl (hb hby at_217) _ ?_
    refine XS.iload X22.here hx rfl (hb hby at_218) rfl ?_
    refine XS.icmpNo X22.here hx rfl (hb hby at_220) rfl (teq (by decide +kernel : (80 : Int32) = (80 : Int32))).2 ?_
    refine XS.iconst X22.here hx rfl (hb hby at_223) ?_
    show Steps p.tables e below (T22.setTop (mkF m 224 #[iv p0, iv p1, iv p2, iv p3, iv p4, iv p5, iv (71 : Int32), iv (73 : Int32), iv (79 : Int32), iv (80 : Int32), iv (0 : Int32), rv b0_5, iv (1 : Int32), iv (1 : Int32), .unset] [(.int (1 : Int32))])) _
    refine XS.goto X22.here hx rfl (pc0 := 224) (pc' := 228) rfl (hb hby at_224) (by decide) (by decide) ?_
    refine XS.istore X22.here hx rfl (hb hby at_228) rfl (l' := #[iv p0, iv p1, iv p2, iv p3, iv p4, iv p5, iv (71 : Int32), iv (73 : Int32), iv (79 : Int32), iv (80 : Int32), iv (0 : Int32), rv b0_5, iv (1 : Int32), iv (1 : Int32), iv (1 : Int32)]) rfl ?_
    refine XS.iload X22.here hx rfl (hb hby at_230) rfl ?_
    refine XS.iload X22.here hx rfl (hb hby at_232) rfl ?_
    refine XS.icmpNo X22.here hx rfl (hb hby at_234) rfl (teq (by decide +kernel : (1 : Int32) = (1 : Int32))).2 ?_
    refine XS.iload X22.here hx rfl (hb hby at_237) rfl ?_
    show Steps p.tables e below (T22.setTop (mkF m 239 #[iv p0, iv p1, iv p2, iv p3, iv p4, iv p5, iv (71 : Int32), iv (73 : Int32), iv (79 : Int32), iv (80 : Int32), iv (0 : Int32), rv b0_5, iv (1 : Int32), iv (1 : Int32), iv (1 : Int32)] [(.int (1 : Int32))])) _
    refine XS.ifNo X22.here hx rfl (hb hby at_239) rfl ((if0 _ _).trans (feq (by decide +kernel : ¬ ((1 : Int32) = (0 : Int32)))).1) ?_
    refine XS.iconst X22.here hx rfl (hb hby at_242) ?_
    refine XS.goto X22.here hx rfl (pc0 := 243) (pc' := 247) rfl (hb hby at_243) (by decide) (by decide) ?_
    exact retN X22 hx (t := .boolean) Bd.returns (by simp) (hb hby at_247) hr
  · exact ⟨rfl, N22⟩
set_option maxRecDepth 65536 in
set_option maxHeartbeats 40000000 in
theorem rm2_1 (l : Launch) (Z : State) (a0 : Array Value) (hw : ∀ d ∈ tables_1, d.before a0 Z = true) (ws : List Jvm.Cond) (p3 : Int32) (p4 : Int32) (p5 : Int32) (w_Giop_MAGIC : Addr) (k_w_Giop_MAGIC : ClassId) (b0_5 : Addr) (k0_5 : ClassId) (h0 : Heap) (n0 : Nat) (Z0 : n0 ≤ h0.size) (S_Giop_MAGIC : Sta Z h0 "org/driftcairn/giop/Giop" "MAGIC" "[B" (.ref w_Giop_MAGIC)) (V_w_Giop_MAGIC : Arv Z h0 w_Giop_MAGIC k_w_Giop_MAGIC .byte (4 : Int32) [(.int (71 : Int32)), (.int (73 : Int32)), (.int (79 : Int32)), (.int (80 : Int32))] (.int (0 : Int32))) (V_b0_5 : Arv Z h0 b0_5 k0_5 .byte (8 : Int32) [(.int (71 : Int32)), (.int (73 : Int32)), (.int (79 : Int32)), (.int (own_pick p4 (3 : Int32) p3 (80 : Int32))), (.int (p5.toInt8.toInt32)), (.int (((p5.toUInt32 >>> ((8 : Int32) &&& 31).toUInt32).toInt32).toInt8.toInt32)), (.int (((p5.toUInt32 >>> ((16 : Int32) &&& 31).toUInt32).toInt32).toInt8.toInt32)), (.int (((p5.toUInt32 >>> ((24 : Int32) &&& 31).toUInt32).toInt32).toInt8.toInt32))] (.int (0 : Int32))) (hm3 : ¬ ((own_pick p4 (3 : Int32) p3 (80 : Int32)) = (80 : Int32))) :
    MetFree l (⟨"org/driftcairn/giop/Giop", "hasMagic", "([B)Z"⟩ : MethodName) (head1 (Jvm.Cond.code (⟨"org/driftcairn/giop/Giop", "hasMagic", "([B)Z"⟩ : MethodName) prog_59_method_2_code 2 (some .boolean) :: ws) ({ frames := 0, cells := 0, slots := 0, locals := 0 } : Room)) (fun a U => a = #[(.ref b0_5)] ∧ Z.Warmed39 U.vm ∧ U.heap = h0) (fun _ _ _ _ _ => True) (fun _ U o U' => ∃ v L, o = .returned v ∧ own_QP (some (.int (0 : Int32))) h0 n0 v U'.heap L ∧ FrameEnd U o U' L ({ frames := 0, cells := 0, slots := 0, locals := 0 } : Room).cells ({ frames := 0, cells := 0, slots := 0, locals := 0 } : Room).slots) := by
  refine MetFree.of_bodySF (plainFor_of_name pn_1) hisR ?_
  intro p e s m args below meth c s₁ Bd hml0 hP hK
  obtain ⟨rfl, hZ, hh⟩ := hP
  have hx := Bd.exec
  have hby := Bd.bytes
  have hml : c.maxLocals = 2 := hml0
  have hown : s.vm.findClass "org/driftcairn/giop/Giop" = some m.cls := findClass_of_methodNamed Bd.named
  have hnm := (name_of_methodNamed Bd.named Bd.method).1
  have X0 : Stand p l e ({ frames := 0, cells := 0, slots := 0, locals := 0 } : Room) s m #[(.ref b0_5)] below meth c s₁ [] 0 0 := Stand.of_body Bd
  have e0 : s₁.heap = h0 := by rw [← hh, Bd.state]; rfl
  have N0 := Fr.nil n0
  have pre0 : ∀ t, Steps p.tables e below (s₁.setTop (mkF m 0 #[rv b0_5, .unset] [])) t → Steps p.tables e below (s₁.setTop (entryFrame m #[(.ref b0_5)] 2)) t := fun t k => castTop (ef_2_R m b0_5) k
  obtain ⟨T1, X1, e1, st1⟩ := getS2 X0 hx hZ hown (host := "") (Or.inl (hw _ (List.mem_of_getElem? (i := 9) rfl))) Via.refl e0 S_Giop_MAGIC (g := (mkF m 3 #[rv b0_5, iv (0 : Int32)] [(.int (0 : Int32))])) rfl (hb hby d2_3)
  obtain ⟨cl2, Ar2, -, Sz2, Nn2, -, -⟩ := id V_w_Giop_MAGIC
  obtain ⟨cl3, Ar3, -, Sz3, Nn3, Hs3, Gs3⟩ := id V_b0_5
  have hin3 : ¬ ((0 : Int32) < 0 ∨ cl3.slots.size ≤ ((0 : Int32)).toNatClampNeg) := inb_of Sz3 ⟨by decide, by decide⟩
  obtain ⟨T4, X4, e4, st4⟩ := getS2 X1 hx hZ hown (host := "") (Or.inl (hw _ (List.mem_of_getElem? (i := 9) rfl))) Via.refl e1 S_Giop_MAGIC (g := (mkF m 13 #[rv b0_5, iv (0 : Int32)] [(.int (71 : Int32))])) rfl (hb hby d2_13)
  obtain ⟨cl5, Ar5, -, Sz5, Nn5, Hs5, Gs5⟩ := id V_w_Giop_MAGIC
  have hin5 : ¬ ((0 : Int32) < 0 ∨ cl5.slots.size ≤ ((0 : Int32)).toNatClampNeg) := inb_of Sz5 ⟨by decide, by decide⟩
  obtain ⟨T6, X6, e6, st6⟩ := getS2 X4 hx hZ hown (host := "") (Or.inl (hw _ (List.mem_of_getElem? (i := 9) rfl))) Via.refl e4 S_Giop_MAGIC (g := (mkF m 3 #[rv b0_5, iv (1 : Int32)] [(.int (1 : Int32))])) rfl (hb hby d2_3)
  obtain ⟨cl7, Ar7, -, Sz7, Nn7, -, -⟩ := id V_w_Giop_MAGIC
  obtain ⟨cl8, Ar8, -, Sz8, Nn8, Hs8, Gs8⟩ := id V_b0_5
  have hin8 : ¬ ((1 : Int32) < 0 ∨ cl8.slots.size ≤ ((1 : Int32)).toNatClampNeg) := inb_of Sz8 ⟨by decide, by decide⟩
  obtain ⟨T9, X9, e9, st9⟩ := getS2 X6 hx hZ hown (host := "") (Or.inl (hw _ (List.mem_of_getElem? (i := 9) rfl))) Via.refl e6 S_Giop_MAGIC (g := (mkF m 13 #[rv b0_5, iv (1 : Int32)] [(.int (73 : Int32))])) rfl (hb hby d2_13)
  obtain ⟨cl10, Ar10, -, Sz10, Nn10, Hs10, Gs10⟩ := id V_w_Giop_MAGIC
  have hin10 : ¬ ((1 : Int32) < 0 ∨ cl10.slots.size ≤ ((1 : Int32)).toNatClampNeg) := inb_of Sz10 ⟨by decide, by decide⟩
  obtain ⟨T11, X11, e11, st11⟩ := getS2 X9 hx hZ hown (host := "") (Or.inl (hw _ (List.mem_of_getElem? (i := 9) rfl))) Via.refl e9 S_Giop_MAGIC (g := (mkF m 3 #[rv b0_5, iv (2 : Int32)] [(.int (2 : Int32))])) rfl (hb hby d2_3)
  obtain ⟨cl12, Ar12, -, Sz12, Nn12, -, -⟩ := id V_w_Giop_MAGIC
  obtain ⟨cl13, Ar13, -, Sz13, Nn13, Hs13, Gs13⟩ := id V_b0_5
  have hin13 : ¬ ((2 : Int32) < 0 ∨ cl13.slots.size ≤ ((2 : Int32)).toNatClampNeg) := inb_of Sz13 ⟨by decide, by decide⟩
  obtain ⟨T14, X14, e14, st14⟩ := getS2 X11 hx hZ hown (host := "") (Or.inl (hw _ (List.mem_of_getElem? (i := 9) rfl))) Via.refl e11 S_Giop_MAGIC (g := (mkF m 13 #[rv b0_5, iv (2 : Int32)] [(.int (79 : Int32))])) rfl (hb hby d2_13)
  obtain ⟨cl15, Ar15, -, Sz15, Nn15, Hs15, Gs15⟩ := id V_w_Giop_MAGIC
  have hin15 : ¬ ((2 : Int32) < 0 ∨ cl15.slots.size ≤ ((2 : Int32)).toNatClampNeg) := inb_of Sz15 ⟨by decide, by decide⟩
  obtain ⟨T16, X16, e16, st16⟩ := getS2 X14 hx hZ hown (host := "") (Or.inl (hw _ (List.mem_of_getElem? (i := 9) rfl))) Via.refl e14 S_Giop_MAGIC (g := (mkF m 3 #[rv b0_5, iv (3 : Int32)] [(.int (3 : Int32))])) rfl (hb hby d2_3)
  obtain ⟨cl17, Ar17, -, Sz17, Nn17, -, -⟩ := id V_w_Giop_MAGIC
  obtain ⟨cl18, Ar18, -, Sz18, Nn18, Hs18, Gs18⟩ := id V_b0_5
  have hin18 : ¬ ((3 : Int32) < 0 ∨ cl18.slots.size ≤ ((3 : Int32)).toNatClampNeg) := inb_of Sz18 ⟨by decide, by decide⟩
  obtain ⟨T19, X19, e19, st19⟩ := getS2 X16 hx hZ hown (host := "") (Or.inl (hw _ (List.mem_of_getElem? (i := 9) rfl))) Via.refl e16 S_Giop_MAGIC (g := (mkF m 13 #[rv b0_5, iv (3 : Int32)] [(.int (own_pick p4 (3 : Int32) p3 (80 : Int32)))])) rfl (hb hby d2_13)
  obtain ⟨cl20, Ar20, -, Sz20, Nn20, Hs20, Gs20⟩ := id V_w_Giop_MAGIC
  have hin20 : ¬ ((3 : Int32) < 0 ∨ cl20.slots.size ≤ ((3 : Int32)).toNatClampNeg) := inb_of Sz20 ⟨by decide, by decide⟩
  obtain ⟨fs, hr, hrun, hended, hW, hsame⟩ := X19.leave (v := (some (.int (0 : Int32)))) (fun h => by rw [Bd.returns] at h; cases h)
  refine ⟨_, _, pre0 _ ?_, hrun, hended, _, _, rfl, ?_, ⟨_, rfl⟩, hW, hsame.mono (by decide) (by decide)⟩
  · show Steps p.tables e below (s₁.setTop (mkF m 0 #[rv b0_5, .unset] [])) _
    refine XS.iconst X0.here hx rfl (hb hby d2_0) ?_
    refine XS.istoreN X0.here hx rfl (hb hby d2_1) rfl (l' := #[rv b0_5, iv (0 : Int32)]) rfl ?_
    refine XS.iloadN X0.here hx rfl (hb hby d2_2) rfl ?_
    refine st1 _ ?_
    refine X1.arraylength hx (by rw [e1]; exact Ar2.1) (State.isArrayOf_alike hZ.alike Ar2.2.1) (g := (mkF m 6 #[rv b0_5, iv (0 : Int32)] [(.ref w_Giop_MAGIC), (.int (0 : Int32))])) rfl rfl (hb hby d2_6) _ ?_
    rw [len_of Sz2 Nn2]
    refine XS.icmpNo X1.here hx rfl (hb hby d2_7) rfl (tlt (by decide +kernel : (0 : Int32) < (4 : Int32))).2.1 ?_
    show Steps p.tables e below (T1.setTop (mkF m 10 #[rv b0_5, iv (0 : Int32)] [])) _
    refine XS.aloadN X1.here hx rfl (hb hby d2_10) rfl rfl ?_
    refine XS.iloadN X1.here hx rfl (hb hby d2_11) rfl ?_
    refine X1.baloadBytes hx (j := (0 : Int32)) (v := (.int (71 : Int32))) (by rw [e1]; exact Ar3.1) (State.isArrayOf_alike hZ.alike Ar3.2.1) Ar3.2.2 hin3 (Hs3.at hin3 rfl) (g := (mkF m 12 #[rv b0_5, iv (0 : Int32)] [(.int (0 : Int32)), (.ref b0_5)])) rfl rfl (hb hby d2_12) _ ?_
    refine st4 _ ?_
    refine XS.iloadN X4.here hx rfl (hb hby d2_16) rfl ?_
    refine X4.baloadBytes hx (j := (0 : Int32)) (v := (.int (71 : Int32))) (by rw [e4]; exact Ar5.1) (State.isArrayOf_alike hZ.alike Ar5.2.1) Ar5.2.2 hin5 (Hs5.at hin5 rfl) (g := (mkF m 17 #[rv b0_5, iv (0 : Int32)] [(.int (0 : Int32)), (.ref w_Giop_MAGIC), (.int (71 : Int32))])) rfl rfl (hb hby d2_17) _ ?_
    show Steps p.tables e below (T4.setTop (mkF m 18 #[rv b0_5, iv (0 : Int32)] [(.int (71 : Int32)), (.int (71 : Int32))])) _
    refine XS.icmpYes X4.here hx rfl (pc0 := 18) (pc' := 23) rfl (hb hby d2_18) rfl (teq (by decide +kernel : (71 : Int32) = (71 : Int32))).1 (by decide) (by decide) ?_
    refine XS.iinc X4.here hx rfl (hb hby d2_23) rfl (l' := #[rv b0_5, iv ((0 : Int32) + (1 : Int32))]) rfl ?_
    show Steps p.tables e below (T4.setTop (mkF m 26 #[rv b0_5, iv ((0 : Int32) + (1 : Int32))] [])) _
    rewrite [show ((0 : Int32) + (1 : Int32)) = (1 : Int32) from by decide +kernel]
    refine XS.goto X4.here hx rfl (pc0 := 26) (pc' := 2) rfl (hb hby d2_26) (by decide) (by decide) ?_
    refine XS.iloadN X4.here hx rfl (hb hby d2_2) rfl ?_
    refine st6 _ ?_
    refine X6.arraylength hx (by rw [e6]; exact Ar7.1) (State.isArrayOf_alike hZ.alike Ar7.2.1) (g := (mkF m 6 #[rv b0_5, iv (1 : Int32)] [(.ref w_Giop_MAGIC), (.int (1 : Int32))])) rfl rfl (hb hby d2_6) _ ?_
    rw [len_of Sz7 Nn7]
    show Steps p.tables e below (T6.setTop (mkF m 7 #[rv b0_5, iv (1 : Int32)] [(.int (4 : Int32)), (.int (1 : Int32))])) _
    refine XS.icmpNo X6.here hx rfl (hb hby d2_7) rfl (tlt (by decide +kernel : (1 : Int32) < (4 : Int32))).2.1 ?_
    refine XS.aloadN X6.here hx rfl (hb hby d2_10) rfl rfl ?_
    refine XS.iloadN X6.here hx rfl (hb hby d2_11) rfl ?_
    refine X6.baloadBytes hx (j := (1 : Int32)) (v := (.int (73 : Int32))) (by rw [e6]; exact Ar8.1) (State.isArrayOf_alike hZ.alike Ar8.2.1) Ar8.2.2 hin8 (Hs8.at hin8 rfl) (g := (mkF m 12 #[rv b0_5, iv (1 : Int32)] [(.int (1 : Int32)), (.ref b0_5)])) rfl rfl (hb hby d2_12) _ ?_
    refine st9 _ ?_
    refine XS.iloadN X9.here hx rfl (hb hby d2_16) rfl ?_
    show Steps p.tables e below (T9.setTop (mkF m 17 #[rv b0_5, iv (1 : Int32)] [(.int (1 : Int32)), (.ref w_Giop_MAGIC), (.int (73 : Int32))])) _
    refine X9.baloadBytes hx (j := (1 : Int32)) (v := (.int (73 : Int32))) (by rw [e9]; exact Ar10.1) (State.isArrayOf_alike hZ.alike Ar10.2.1) Ar10.2.2 hin10 (Hs10.at hin10 rfl) (g := (mkF m 17 #[rv b0_5, iv (1 : Int32)] [(.int (1 : Int32)), (.ref w_Giop_MAGIC), (.int (73 : Int32))])) rfl rfl (hb hby d2_17) _ ?_
    refine XS.icmpYes X9.here hx rfl (pc0 := 18) (pc' := 23) rfl (hb hby d2_18) rfl (teq (by decide +kernel : (73 : Int32) = (73 : Int32))).1 (by decide) (by decide) ?_
    refine XS.iinc X9.here hx rfl (hb hby d2_23) rfl (l' := #[rv b0_5, iv ((1 : Int32) + (1 : Int32))]) rfl ?_
    show Steps p.tables e below (T9.setTop (mkF m 26 #[rv b0_5, iv ((1 : Int32) + (1 : Int32))] [])) _
    rewrite [show ((1 : Int32) + (1 : Int32)) = (2 : Int32) from by decide +kernel]
    refine XS.goto X9.here hx rfl (pc0 := 26) (pc' := 2) rfl (hb hby d2_26) (by decide) (by decide) ?_
    refine XS.iloadN X9.here hx rfl (hb hby d2_2) rfl ?_
    refine st11 _ ?_
    show Steps p.tables e below (T11.setTop (mkF m 6 #[rv b0_5, iv (2 : Int32)] [(.ref w_Giop_MAGIC), (.int (2 : Int32))])) _
    refine X11.arraylength hx (by rw [e11]; exact Ar12.1) (State.isArrayOf_alike hZ.alike Ar12.2.1) (g := (mkF m 6 #[rv b0_5, iv (2 : Int32)] [(.ref w_Giop_MAGIC), (.int (2 : Int32))])) rfl rfl (hb hby d2_6) _ ?_
    rw [len_of Sz12 Nn12]
    refine XS.icmpNo X11.here hx rfl (hb hby d2_7) rfl (tlt (by decide +kernel : (2 : Int32) < (4 : Int32))).2.1 ?_
    refine XS.aloadN X11.here hx rfl (hb hby d2_10) rfl rfl ?_
    refine XS.iloadN X11.here hx rfl (hb hby d2_11) rfl ?_
    refine X11.baloadBytes hx (j := (2 : Int32)) (v := (.int (79 : Int32))) (by rw [e11]; exact Ar13.1) (State.isArrayOf_alike hZ.alike Ar13.2.1) Ar13.2.2 hin13 (Hs13.at hin13 rfl) (g := (mkF m 12 #[rv b0_5, iv (2 : Int32)] [(.int (2 : Int32)), (.ref b0_5)])) rfl rfl (hb hby d2_12) _ ?_
    refine st14 _ ?_
    show Steps p.tables e below (T14.setTop (mkF m 16 #[rv b0_5, iv (2 : Int32)] [(.ref w_Giop_MAGIC), (.int (79 : Int32))])) _
    refine XS.iloadN X14.here hx rfl (hb hby d2_16) rfl ?_
    refine X14.baloadBytes hx (j := (2 : Int32)) (v := (.int (79 : Int32))) (by rw [e14]; exact Ar15.1) (State.isArrayOf_alike hZ.alike Ar15.2.1) Ar15.2.2 hin15 (Hs15.at hin15 rfl) (g := (mkF m 17 #[rv b0_5, iv (2 : Int32)] [(.int (2 : Int32)), (.ref w_Giop_MAGIC), (.int (79 : Int32))])) rfl rfl (hb hby d2_17) _ ?_
    refine XS.icmpYes X14.here hx rfl (pc0 := 18) (pc' := 23) rfl (hb hby d2_18) rfl (teq (by decide +kernel : (79 : Int32) = (79 : Int32))).1 (by decide) (by decide) ?_
    refine XS.iinc X14.here hx rfl (hb hby d2_23) rfl (l' := #[rv b0_5, iv ((2 : Int32) + (1 : Int32))]) rfl ?_
    show Steps p.tables e below (T14.setTop (mkF m 26 #[rv b0_5, iv ((2 : Int32) + (1 : Int32))] [])) _
    rewrite [show ((2 : Int32) + (1 : Int32)) = (3 : Int32) from by decide +kernel]
    refine XS.goto X14.here hx rfl (pc0 := 26) (pc' := 2) rfl (hb hby d2_26) (by decide) (by decide) ?_
    refine XS.iloadN X14.here hx rfl (hb hby d2_2) rfl ?_
    show Steps p.tables e below (T14.setTop (mkF m 3 #[rv b0_5, iv (3 : Int32)] [(.int (3 : Int32))])) _
    refine st16 _ ?_
    refine X16.arraylength hx (by rw [e16]; exact Ar17.1) (State.isArrayOf_alike hZ.alike Ar17.2.1) (g := (mkF m 6 #[rv b0_5, iv (3 : Int32)] [(.ref w_Giop_MAGIC), (.int (3 : Int32))])) rfl rfl (hb hby d2_6) _ ?_
    rw [len_of Sz17 Nn17]
    refine XS.icmpNo X16.here hx rfl (hb hby d2_7) rfl (tlt (by decide +kernel : (3 : Int32) < (4 : Int32))).2.1 ?_
    refine XS.aloadN X16.here hx rfl (hb hby d2_10) rfl rfl ?_
    refine XS.iloadN X16.here hx rfl (hb hby d2_11) rfl ?_
    refine X16.baloadBytes hx (j := (3 : Int32)) (v := (.int (own_pick p4 (3 : Int32) p3 (80 : Int32)))) (by rw [e16]; exact Ar18.1) (State.isArrayOf_alike hZ.alike Ar18.2.1) Ar18.2.2 hin18 (Hs18.at hin18 rfl) (g := (mkF m 12 #[rv b0_5, iv (3 : Int32)] [(.int (3 : Int32)), (.ref b0_5)])) rfl rfl (hb hby d2_12) _ ?_
    show Steps p.tables e below (T16.setTop (mkF m 13 #[rv b0_5, iv (3 : Int32)] [(.int (own_pick p4 (3 : Int32) p3 (80 : Int32)))])) _
    refine st19 _ ?_
    refine XS.iloadN X19.here hx rfl (hb hby d2_16) rfl ?_
    refine X19.baloadBytes hx (j := (3 : Int32)) (v := (.int (80 : Int32))) (by rw [e19]; exact Ar20.1) (State.isArrayOf_alike hZ.alike Ar20.2.1) Ar20.2.2 hin20 (Hs20.at hin20 rfl) (g := (mkF m 17 #[rv b0_5, iv (3 : Int32)] [(.int (3 : Int32)), (.ref w_Giop_MAGIC), (.int (own_pick p4 (3 : Int32) p3 (80 : Int32)))])) rfl rfl (hb hby d2_17) _ ?_
    refine XS.icmpNo X19.here hx rfl (hb hby d2_18) rfl (feq hm3).1 ?_
    refine XS.iconst X19.here hx rfl (hb hby d2_21) ?_
    exact retN X19 hx (t := .boolean) Bd.returns (by simp) (hb hby d2_22) hr
  · exact ⟨rfl, N0, e19⟩
set_option maxRecDepth 65536 in
set_option maxHeartbeats 40000000 in
theorem rm0_1 (l : Launch) (Z : State) (a0 : Array Value) (hw : ∀ d ∈ tables_1, d.before a0 Z = true) (ws : List Jvm.Cond) (p0 : Int32) (p1 : Int32) (p2 : Int32) (p3 : Int32) (p4 : Int32) (p5 : Int32) (w_Giop_MAGIC : Addr) (k_w_Giop_MAGIC : ClassId) (h0 : Heap) (n0 : Nat) (Z0 : n0 ≤ h0.size) (hm0 : (own_pick p4 (0 : Int32) p0 (71 : Int32)) = (71 : Int32)) (hm1 : (own_pick p4 (1 : Int32) p1 (73 : Int32)) = (73 : Int32)) (hm2 : (own_pick p4 (2 : Int32) p2 (79 : Int32)) = (79 : Int32)) (hs : (((p4.toUInt32 >>> ((4 : Int32) &&& 31).toUInt32).toInt32) &&& (1 : Int32)) = (0 : Int32)) (hm3 : ¬ ((own_pick p4 (3 : Int32) p3 (80 : Int32)) = (80 : Int32))) (S_Giop_MAGIC : Sta Z h0 "org/driftcairn/giop/Giop" "MAGIC" "[B" (.ref w_Giop_MAGIC)) (V_w_Giop_MAGIC : Arv Z h0 w_Giop_MAGIC k_w_Giop_MAGIC .byte (4 : Int32) [(.int (71 : Int32)), (.int (73 : Int32)), (.int (79 : Int32)), (.int (80 : Int32))] (.int (0 : Int32))) :
    MetFree l x (head1 (Jvm.Cond.code x code maxLocals ret :: ws) room_1) (fun a U => a = #[(.int p0), (.int p1), (.int p2), (.int p3), (.int p4), (.int p5)] ∧ Z.Warmed39 U.vm ∧ U.heap = h0) (fun _ _ _ _ _ => True) (fun _ U o U' => ∃ v L, o = .returned v ∧ own_QL n0 v U'.heap L ∧ FrameEnd U o U' L room_1.cells room_1.slots) := by
  refine MetFree.of_bodySF (plainFor_of_name pn_0) hisR ?_
  intro p e s m args below meth c s₁ Bd hml0 hP hK
  obtain ⟨rfl, hZ, hh⟩ := hP
  have hx := Bd.exec
  have hby := Bd.bytes
  have hml : c.maxLocals = 15 := hml0
  have hown : s.vm.findClass "org/driftcairn/giop/GiopHasMagicPinLaw" = some m.cls := findClass_of_methodNamed Bd.named
  have hnm := (name_of_methodNamed Bd.named Bd.method).1
  have X0 : Stand p l e room_1 s m #[(.int p0), (.int p1), (.int p2), (.int p3), (.int p4), (.int p5)] below meth c s₁ [] 0 0 := Stand.of_body Bd
  have e0 : s₁.heap = h0 := by rw [← hh, Bd.state]; rfl
  have N0 := Fr.nil n0
  have pre0 : ∀ t, Steps p.tables e below (s₁.setTop (mkF m 0 #[iv p0, iv p1, iv p2, iv p3, iv p4, iv p5, .unset, .unset, .unset, .unset, .unset, .unset, .unset, .unset, .unset] [])) t → Steps p.tables e below (s₁.setTop (entryFrame m #[(.int p0), (.int p1), (.int p2), (.int p3), (.int p4), (.int p5)] maxLocals)) t := fun t k => castTop (ef_0_IIIIII m p0 p1 p2 p3 p4 p5) k
  obtain ⟨_, _, ⟨T1, L1, k1, n1⟩, -, X1, ⟨Lc1, hQ1, l1, y1, z1⟩, st1⟩ := Jvm.LawKit.callS X0 hx (y := (⟨"org/driftcairn/giop/GiopHasMagicPinLaw", "pick", "(IIIC)B"⟩ : MethodName)) hown (mvT hZ (hw _ (List.mem_of_getElem? (i := 0) rfl))) (mvT hZ (hw _ (List.mem_of_getElem? (i := 1) rfl))) (mvT hZ (hw _ (List.mem_of_getElem? (i := 2) rfl))) (mvT hZ (hw _ (List.mem_of_getElem? (i := 3) rfl))) (by decide) (backOf (W := 0) (rk_pick l Z a0 hw [] p4 (0 : Int32) p0 (71 : Int32) h0 n0 Z0 ) hZ (hw _ (List.mem_of_getElem? (i := 3) rfl)) (hw _ (List.mem_of_getElem? (i := 2) rfl)) (by decide) (by decide)) (g := (mkF m 6 #[iv p0, iv p1, iv p2, iv p3, iv p4, iv p5, .unset, .unset, .unset, .unset, .unset, .unset, .unset, .unset, .unset] [(.int (71 : Int32)), (.int p0), (.int (0 : Int32)), (.int p4)])) rfl (by rw [hml]; rfl) (argsL := [(.int p4), (.int (0 : Int32)), (.int p0), (.int (71 : Int32))]) (rest := []) (lenOf pd_0 rfl) rfl (by show 2 * 0 + _ ≤ _; exact Nat.le_of_eq rfl) (hb hby at_6) (fun _ _ => ⟨rfl, e0, (by decide : 0 + 0 ≤ _), (by decide : 0 + 0 ≤ _)⟩)
  dsimp only [Pt.U, Pt.locs, Pt.cells, Pt.slots] at X1 l1 y1 z1 st1 hQ1
  subst l1 y1 z1
  obtain ⟨rfl, N1q, e1⟩ := hQ1
  have N1 := Fr.app N0 N1q
  obtain ⟨_, _, ⟨T2, L2, k2, n2⟩, -, X2, ⟨Lc2, hQ2, l2, y2, z2⟩, st2⟩ := Jvm.LawKit.callS X1 hx (y := (⟨"org/driftcairn/giop/GiopHasMagicPinLaw", "pick", "(IIIC)B"⟩ : MethodName)) hown (mvT hZ (hw _ (List.mem_of_getElem? (i := 0) rfl))) (mvT hZ (hw _ (List.mem_of_getElem? (i := 1) rfl))) (mvT hZ (hw _ (List.mem_of_getElem? (i := 2) rfl))) (mvT hZ (hw _ (List.mem_of_getElem? (i := 3) rfl))) (by decide) (backOf (W := 0) (rk_pick l Z a0 hw [] p4 (1 : Int32) p1 (73 : Int32) h0 n0 Z0 ) hZ (hw _ (List.mem_of_getElem? (i := 3) rfl)) (hw _ (List.mem_of_getElem? (i := 2) rfl)) (by decide) (by decide)) (g := (mkF m 17 #[iv p0, iv p1, iv p2, iv p3, iv p4, iv p5, iv (71 : Int32), .unset, .unset, .unset, .unset, .unset, .unset, .unset, .unset] [(.int (73 : Int32)), (.int p1), (.int (1 : Int32)), (.int p4)])) rfl (by rw [hml]; rfl) (argsL := [(.int p4), (.int (1 : Int32)), (.int p1), (.int (73 : Int32))]) (rest := []) (lenOf pd_0 rfl) rfl (by show 2 * 0 + _ ≤ _; exact Nat.le_of_eq rfl) (hb hby at_17) (fun _ _ => ⟨rfl, e1, (by decide : 0 + 0 ≤ _), (by decide : 0 + 0 ≤ _)⟩)
  dsimp only [Pt.U, Pt.locs, Pt.cells, Pt.slots] at X2 l2 y2 z2 st2 hQ2
  subst l2 y2 z2
  obtain ⟨rfl, N2q, e2⟩ := hQ2
  have N2 := Fr.app N1 N2q
  obtain ⟨_, _, ⟨T3, L3, k3, n3⟩, -, X3, ⟨Lc3, hQ3, l3, y3, z3⟩, st3⟩ := Jvm.LawKit.callS X2 hx (y := (⟨"org/driftcairn/giop/GiopHasMagicPinLaw", "pick", "(IIIC)B"⟩ : MethodName)) hown (mvT hZ (hw _ (List.mem_of_getElem? (i := 0) rfl))) (mvT hZ (hw _ (List.mem_of_getElem? (i := 1) rfl))) (mvT hZ (hw _ (List.mem_of_getElem? (i := 2) rfl))) (mvT hZ (hw _ (List.mem_of_getElem? (i := 3) rfl))) (by decide) (backOf (W := 0) (rk_pick l Z a0 hw [] p4 (2 : Int32) p2 (79 : Int32) h0 n0 Z0 ) hZ (hw _ (List.mem_of_getElem? (i := 3) rfl)) (hw _ (List.mem_of_getElem? (i := 2) rfl)) (by decide) (by decide)) (g := (mkF m 28 #[iv p0, iv p1, iv p2, iv p3, iv p4, iv p5, iv (71 : Int32), iv (73 : Int32), .unset, .unset, .unset, .unset, .unset, .unset, .unset] [(.int (79 : Int32)), (.int p2), (.int (2 : Int32)), (.int p4)])) rfl (by rw [hml]; rfl) (argsL := [(.int p4), (.int (2 : Int32)), (.int p2), (.int (79 : Int32))]) (rest := []) (lenOf pd_0 rfl) rfl (by show 2 * 0 + _ ≤ _; exact Nat.le_of_eq rfl) (hb hby at_28) (fun _ _ => ⟨rfl, e2, (by decide : 0 + 0 ≤ _), (by decide : 0 + 0 ≤ _)⟩)
  dsimp only [Pt.U, Pt.locs, Pt.cells, Pt.slots] at X3 l3 y3 z3 st3 hQ3
  subst l3 y3 z3
  obtain ⟨rfl, N3q, e3⟩ := hQ3
  have N3 := Fr.app N2 N3q
  obtain ⟨_, _, ⟨T4, L4, k4, n4⟩, -, X4, ⟨Lc4, hQ4, l4, y4, z4⟩, st4⟩ := Jvm.LawKit.callS X3 hx (y := (⟨"org/driftcairn/giop/GiopHasMagicPinLaw", "pick", "(IIIC)B"⟩ : MethodName)) hown (mvT hZ (hw _ (List.mem_of_getElem? (i := 0) rfl))) (mvT hZ (hw _ (List.mem_of_getElem? (i := 1) rfl))) (mvT hZ (hw _ (List.mem_of_getElem? (i := 2) rfl))) (mvT hZ (hw _ (List.mem_of_getElem? (i := 3) rfl))) (by decide) (backOf (W := 0) (rk_pick l Z a0 hw [] p4 (3 : Int32) p3 (80 : Int32) h0 n0 Z0 ) hZ (hw _ (List.mem_of_getElem? (i := 3) rfl)) (hw _ (List.mem_of_getElem? (i := 2) rfl)) (by decide) (by decide)) (g := (mkF m 39 #[iv p0, iv p1, iv p2, iv p3, iv p4, iv p5, iv (71 : Int32), iv (73 : Int32), iv (79 : Int32), .unset, .unset, .unset, .unset, .unset, .unset] [(.int (80 : Int32)), (.int p3), (.int (3 : Int32)), (.int p4)])) rfl (by rw [hml]; rfl) (argsL := [(.int p4), (.int (3 : Int32)), (.int p3), (.int (80 : Int32))]) (rest := []) (lenOf pd_0 rfl) rfl (by show 2 * 0 + _ ≤ _; exact Nat.le_of_eq rfl) (hb hby at_39) (fun _ _ => ⟨rfl, e3, (by decide : 0 + 0 ≤ _), (by decide : 0 + 0 ≤ _)⟩)
  dsimp only [Pt.U, Pt.locs, Pt.cells, Pt.slots] at X4 l4 y4 z4 st4 hQ4
  subst l4 y4 z4
  obtain ⟨rfl, N4q, e4⟩ := hQ4
  have N4 := Fr.app N3 N4q
  obtain ⟨T5, h5, k0_5, X5, e5, E5, A5, st5⟩ := newP X4 hx hZ (hw _ (List.mem_of_getElem? (i := 4) rfl)) e4 (g := (mkF m 73 #[iv p0, iv p1, iv p2, iv p3, iv p4, iv p5, iv (71 : Int32), iv (73 : Int32), iv (79 : Int32), iv (own_pick p4 (3 : Int32) p3 (80 : Int32)), iv (0 : Int32), .unset, .unset, .unset, .unset] [(.int (8 : Int32))])) rfl (hb hby at_73) rfl (by decide) (cap := 8) (by decide) (by decide) (by decide) (by decide)
  obtain ⟨b0_5, gg5⟩ : ∃ z, z = h0.size := ⟨_, rfl⟩
  rw [← gg5] at A5 st5
  have g_b0_5 : n0 ≤ b0_5 := Nat.le_trans Z0 (Nat.le_of_eq gg5.symm)
  have sz_b0_5 : h0.size ≤ b0_5 := Nat.le_trans (Keep.refl h0 []).1 (Nat.le_of_eq gg5.symm)
  have Z5 : n0 ≤ h5.size := Nat.le_trans Z0 E5.1
  have KK5 : Keep h0 h5 [] := (Keep.refl h0 []).ext E5
  have V_b0_5 : Arv Z h5 b0_5 k0_5 .byte (8 : Int32) [(.int (0 : Int32)), (.int (0 : Int32)), (.int (0 : Int32)), (.int (0 : Int32)), (.int (0 : Int32)), (.int (0 : Int32)), (.int (0 : Int32)), (.int (0 : Int32))] (.int (0 : Int32)) := (Arv.new A5 (by decide)).pad (pad_rep [] (.int (0 : Int32)) 8)
  obtain ⟨cl6, Ar6, qq6, Sz6, Nn6, Hs6, Gs6⟩ := id V_b0_5
  have hin6 : ¬ ((0 : Int32) < 0 ∨ cl6.slots.size ≤ ((0 : Int32)).toNatClampNeg) := inb_of Sz6 ⟨by decide, by decide⟩
  obtain ⟨T7, h7, X7, e7, W7, st7⟩ := stB X5 hx hZ e5 Ar6 (j := (0 : Int32)) hin6 (g := (mkF m 82 #[iv p0, iv p1, iv p2, iv p3, iv p4, iv p5, iv (71 : Int32), iv (73 : Int32), iv (79 : Int32), iv (own_pick p4 (3 : Int32) p3 (80 : Int32)), iv (0 : Int32), rv b0_5, .unset, .unset, .unset] [(.int (71 : Int32)), (.int (0 : Int32)), (.ref b0_5)])) rfl rfl (hb hby at_82)
  have va7 := Arv.set Ar6 qq6 Sz6 Nn6 Hs6 Gs6 (fits_nar_byte _) W7 0 rfl (Nat.le_of_ble_eq_true rfl)
  have vb7 : Arv Z h7 b0_5 k0_5 .byte (8 : Int32) [(.int (71 : Int32)), (.int (0 : Int32)), (.int (0 : Int32)), (.int (0 : Int32)), (.int (0 : Int32)), (.int (0 : Int32)), (.int (0 : Int32)), (.int (0 : Int32))] (.int (0 : Int32)) := va7
  have Z7 : n0 ≤ h7.size := Nat.le_trans Z5 (Keep.of_wr W7).1
  have KK7 : Keep h0 h7 [] := KK5.wr W7 (Or.inr sz_b0_5)
  have N7 := Fr.snoc X7 N4 g_b0_5
  obtain ⟨cl8, Ar8, qq8, Sz8, Nn8, Hs8, Gs8⟩ := id vb7
  have hin8 : ¬ ((1 : Int32) < 0 ∨ cl8.slots.size ≤ ((1 : Int32)).toNatClampNeg) := inb_of Sz8 ⟨by decide, by decide⟩
  obtain ⟨T9, h9, X9, e9, W9, st9⟩ := stB X7 hx hZ e7 Ar8 (j := (1 : Int32)) hin8 (g := (mkF m 88 #[iv p0, iv p1, iv p2, iv p3, iv p4, iv p5, iv (71 : Int32), iv (73 : Int32), iv (79 : Int32), iv (own_pick p4 (3 : Int32) p3 (80 : Int32)), iv (0 : Int32), rv b0_5, .unset, .unset, .unset] [(.int (73 : Int32)), (.int (1 : Int32)), (.ref b0_5)])) rfl rfl (hb hby at_88)
  have va9 := Arv.set Ar8 qq8 Sz8 Nn8 Hs8 Gs8 (fits_nar_byte _) W9 1 rfl (Nat.le_of_ble_eq_true rfl)
  have vb9 : Arv Z h9 b0_5 k0_5 .byte (8 : Int32) [(.int (71 : Int32)), (.int (73 : Int32)), (.int (0 : Int32)), (.int (0 : Int32)), (.int (0 : Int32)), (.int (0 : Int32)), (.int (0 : Int32)), (.int (0 : Int32))] (.int (0 : Int32)) := va9
  have Z9 : n0 ≤ h9.size := Nat.le_trans Z7 (Keep.of_wr W9).1
  have KK9 : Keep h0 h9 [] := KK7.wr W9 (Or.inr sz_b0_5)
  have N9 := Fr.snoc X9 N7 g_b0_5
  obtain ⟨cl10, Ar10, qq10, Sz10, Nn10, Hs10, Gs10⟩ := id vb9
  have hin10 : ¬ ((2 : Int32) < 0 ∨ cl10.slots.size ≤ ((2 : Int32)).toNatClampNeg) := inb_of Sz10 ⟨by decide, by decide⟩
  obtain ⟨T11, h11, X11, e11, W11, st11⟩ := stB X9 hx hZ e9 Ar10 (j := (2 : Int32)) hin10 (g := (mkF m 94 #[iv p0, iv p1, iv p2, iv p3, iv p4, iv p5, iv (71 : Int32), iv (73 : Int32), iv (79 : Int32), iv (own_pick p4 (3 : Int32) p3 (80 : Int32)), iv (0 : Int32), rv b0_5, .unset, .unset, .unset] [(.int (79 : Int32)), (.int (2 : Int32)), (.ref b0_5)])) rfl rfl (hb hby at_94)
  have va11 := Arv.set Ar10 qq10 Sz10 Nn10 Hs10 Gs10 (fits_nar_byte _) W11 2 rfl (Nat.le_of_ble_eq_true rfl)
  have vb11 : Arv Z h11 b0_5 k0_5 .byte (8 : Int32) [(.int (71 : Int32)), (.int (73 : Int32)), (.int (79 : Int32)), (.int (0 : Int32)), (.int (0 : Int32)), (.int (0 : Int32)), (.int (0 : Int32)), (.int (0 : Int32))] (.int (0 : Int32)) := va11
  have Z11 : n0 ≤ h11.size := Nat.le_trans Z9 (Keep.of_wr W11).1
  have KK11 : Keep h0 h11 [] := KK9.wr W11 (Or.inr sz_b0_5)
  have N11 := Fr.snoc X11 N9 g_b0_5
  obtain ⟨cl12, Ar12, qq12, Sz12, Nn12, Hs12, Gs12⟩ := id vb11
  have hin12 : ¬ ((3 : Int32) < 0 ∨ cl12.slots.size ≤ ((3 : Int32)).toNatClampNeg) := inb_of Sz12 ⟨by decide, by decide⟩
  obtain ⟨T13, h13, X13, e13, W13, st13⟩ := stB X11 hx hZ e11 Ar12 (j := (3 : Int32)) hin12 (g := (mkF m 100 #[iv p0, iv p1, iv p2, iv p3, iv p4, iv p5, iv (71 : Int32), iv (73 : Int32), iv (79 : Int32), iv (own_pick p4 (3 : Int32) p3 (80 : Int32)), iv (0 : Int32), rv b0_5, .unset, .unset, .unset] [(.int (own_pick p4 (3 : Int32) p3 (80 : Int32))), (.int (3 : Int32)), (.ref b0_5)])) rfl rfl (hb hby at_100)
  have va13 := Arv.set Ar12 qq12 Sz12 Nn12 Hs12 Gs12 (fits_nar_byte _) W13 3 rfl (Nat.le_of_ble_eq_true rfl)
  have vb13 : Arv Z h13 b0_5 k0_5 .byte (8 : Int32) [(.int (71 : Int32)), (.int (73 : Int32)), (.int (79 : Int32)), (.int (own_pick p4 (3 : Int32) p3 (80 : Int32))), (.int (0 : Int32)), (.int (0 : Int32)), (.int (0 : Int32)), (.int (0 : Int32))] (.int (0 : Int32)) := by have t := va13; have q : ((own_pick p4 (3 : Int32) p3 (80 : Int32))).toInt8.toInt32 = (own_pick p4 (3 : Int32) p3 (80 : Int32)) := (own_pick_b _ _ _ _); rw [q] at t; exact t
  have Z13 : n0 ≤ h13.size := Nat.le_trans Z11 (Keep.of_wr W13).1
  have KK13 : Keep h0 h13 [] := KK11.wr W13 (Or.inr sz_b0_5)
  have N13 := Fr.snoc X13 N11 g_b0_5
  obtain ⟨cl14, Ar14, qq14, Sz14, Nn14, Hs14, Gs14⟩ := id vb13
  have hin14 : ¬ ((4 : Int32) < 0 ∨ cl14.slots.size ≤ ((4 : Int32)).toNatClampNeg) := inb_of Sz14 ⟨by decide, by decide⟩
  obtain ⟨T15, h15, X15, e15, W15, st15⟩ := stB X13 hx hZ e13 Ar14 (j := (4 : Int32)) hin14 (g := (mkF m 112 #[iv p0, iv p1, iv p2, iv p3, iv p4, iv p5, iv (71 : Int32), iv (73 : Int32), iv (79 : Int32), iv (own_pick p4 (3 : Int32) p3 (80 : Int32)), iv (0 : Int32), rv b0_5, .unset, .unset, .unset] [(.int (p5.toInt8.toInt32)), (.int (4 : Int32)), (.ref b0_5)])) rfl rfl (hb hby at_112)
  have va15 := Arv.set Ar14 qq14 Sz14 Nn14 Hs14 Gs14 (fits_nar_byte _) W15 4 rfl (Nat.le_of_ble_eq_true rfl)
  have vb15 : Arv Z h15 b0_5 k0_5 .byte (8 : Int32) [(.int (71 : Int32)), (.int (73 : Int32)), (.int (79 : Int32)), (.int (own_pick p4 (3 : Int32) p3 (80 : Int32))), (.int (p5.toInt8.toInt32)), (.int (0 : Int32)), (.int (0 : Int32)), (.int (0 : Int32))] (.int (0 : Int32)) := by have t := va15; have q : ((p5.toInt8.toInt32)).toInt8.toInt32 = (p5.toInt8.toInt32) := (own_b8 _); rw [q] at t; exact t
  have Z15 : n0 ≤ h15.size := Nat.le_trans Z13 (Keep.of_wr W15).1
  have KK15 : Keep h0 h15 [] := KK13.wr W15 (Or.inr sz_b0_5)
  have N15 := Fr.snoc X15 N13 g_b0_5
  obtain ⟨cl16, Ar16, qq16, Sz16, Nn16, Hs16, Gs16⟩ := id vb15
  have hin16 : ¬ ((5 : Int32) < 0 ∨ cl16.slots.size ≤ ((5 : Int32)).toNatClampNeg) := inb_of Sz16 ⟨by decide, by decide⟩
  obtain ⟨T17, h17, X17, e17, W17, st17⟩ := stB X15 hx hZ e15 Ar16 (j := (5 : Int32)) hin16 (g := (mkF m 122 #[iv p0, iv p1, iv p2, iv p3, iv p4, iv p5, iv (71 : Int32), iv (73 : Int32), iv (79 : Int32), iv (own_pick p4 (3 : Int32) p3 (80 : Int32)), iv (0 : Int32), rv b0_5, .unset, .unset, .unset] [(.int (((p5.toUInt32 >>> ((8 : Int32) &&& 31).toUInt32).toInt32).toInt8.toInt32)), (.int (5 : Int32)), (.ref b0_5)])) rfl rfl (hb hby at_122)
  have va17 := Arv.set Ar16 qq16 Sz16 Nn16 Hs16 Gs16 (fits_nar_byte _) W17 5 rfl (Nat.le_of_ble_eq_true rfl)
  have vb17 : Arv Z h17 b0_5 k0_5 .byte (8 : Int32) [(.int (71 : Int32)), (.int (73 : Int32)), (.int (79 : Int32)), (.int (own_pick p4 (3 : Int32) p3 (80 : Int32))), (.int (p5.toInt8.toInt32)), (.int (((p5.toUInt32 >>> ((8 : Int32) &&& 31).toUInt32).toInt32).toInt8.toInt32)), (.int (0 : Int32)), (.int (0 : Int32))] (.int (0 : Int32)) := by have t := va17; have q : ((((p5.toUInt32 >>> ((8 : Int32) &&& 31).toUInt32).toInt32).toInt8.toInt32)).toInt8.toInt32 = (((p5.toUInt32 >>> ((8 : Int32) &&& 31).toUInt32).toInt32).toInt8.toInt32) := (own_b8 _); rw [q] at t; exact t
  have Z17 : n0 ≤ h17.size := Nat.le_trans Z15 (Keep.of_wr W17).1
  have KK17 : Keep h0 h17 [] := KK15.wr W17 (Or.inr sz_b0_5)
  have N17 := Fr.snoc X17 N15 g_b0_5
  obtain ⟨cl18, Ar18, qq18, Sz18, Nn18, Hs18, Gs18⟩ := id vb17
  have hin18 : ¬ ((6 : Int32) < 0 ∨ cl18.slots.size ≤ ((6 : Int32)).toNatClampNeg) := inb_of Sz18 ⟨by decide, by decide⟩
  obtain ⟨T19, h19, X19, e19, W19, st19⟩ := stB X17 hx hZ e17 Ar18 (j := (6 : Int32)) hin18 (g := (mkF m 133 #[iv p0, iv p1, iv p2, iv p3, iv p4, iv p5, iv (71 : Int32), iv (73 : Int32), iv (79 : Int32), iv (own_pick p4 (3 : Int32) p3 (80 : Int32)), iv (0 : Int32), rv b0_5, .unset, .unset, .unset] [(.int (((p5.toUInt32 >>> ((16 : Int32) &&& 31).toUInt32).toInt32).toInt8.toInt32)), (.int (6 : Int32)), (.ref b0_5)])) rfl rfl (hb hby at_133)
  have va19 := Arv.set Ar18 qq18 Sz18 Nn18 Hs18 Gs18 (fits_nar_byte _) W19 6 rfl (Nat.le_of_ble_eq_true rfl)
  have vb19 : Arv Z h19 b0_5 k0_5 .byte (8 : Int32) [(.int (71 : Int32)), (.int (73 : Int32)), (.int (79 : Int32)), (.int (own_pick p4 (3 : Int32) p3 (80 : Int32))), (.int (p5.toInt8.toInt32)), (.int (((p5.toUInt32 >>> ((8 : Int32) &&& 31).toUInt32).toInt32).toInt8.toInt32)), (.int (((p5.toUInt32 >>> ((16 : Int32) &&& 31).toUInt32).toInt32).toInt8.toInt32)), (.int (0 : Int32))] (.int (0 : Int32)) := by have t := va19; have q : ((((p5.toUInt32 >>> ((16 : Int32) &&& 31).toUInt32).toInt32).toInt8.toInt32)).toInt8.toInt32 = (((p5.toUInt32 >>> ((16 : Int32) &&& 31).toUInt32).toInt32).toInt8.toInt32) := (own_b8 _); rw [q] at t; exact t
  have Z19 : n0 ≤ h19.size := Nat.le_trans Z17 (Keep.of_wr W19).1
  have KK19 : Keep h0 h19 [] := KK17.wr W19 (Or.inr sz_b0_5)
  have N19 := Fr.snoc X19 N17 g_b0_5
  obtain ⟨cl20, Ar20, qq20, Sz20, Nn20, Hs20, Gs20⟩ := id vb19
  have hin20 : ¬ ((7 : Int32) < 0 ∨ cl20.slots.size ≤ ((7 : Int32)).toNatClampNeg) := inb_of Sz20 ⟨by decide, by decide⟩
  obtain ⟨T21, h21, X21, e21, W21, st21⟩ := stB X19 hx hZ e19 Ar20 (j := (7 : Int32)) hin20 (g := (mkF m 144 #[iv p0, iv p1, iv p2, iv p3, iv p4, iv p5, iv (71 : Int32), iv (73 : Int32), iv (79 : Int32), iv (own_pick p4 (3 : Int32) p3 (80 : Int32)), iv (0 : Int32), rv b0_5, .unset, .unset, .unset] [(.int (((p5.toUInt32 >>> ((24 : Int32) &&& 31).toUInt32).toInt32).toInt8.toInt32)), (.int (7 : Int32)), (.ref b0_5)])) rfl rfl (hb hby at_144)
  have va21 := Arv.set Ar20 qq20 Sz20 Nn20 Hs20 Gs20 (fits_nar_byte _) W21 7 rfl (Nat.le_of_ble_eq_true rfl)
  have vb21 : Arv Z h21 b0_5 k0_5 .byte (8 : Int32) [(.int (71 : Int32)), (.int (73 : Int32)), (.int (79 : Int32)), (.int (own_pick p4 (3 : Int32) p3 (80 : Int32))), (.int (p5.toInt8.toInt32)), (.int (((p5.toUInt32 >>> ((8 : Int32) &&& 31).toUInt32).toInt32).toInt8.toInt32)), (.int (((p5.toUInt32 >>> ((16 : Int32) &&& 31).toUInt32).toInt32).toInt8.toInt32)), (.int (((p5.toUInt32 >>> ((24 : Int32) &&& 31).toUInt32).toInt32).toInt8.toInt32))] (.int (0 : Int32)) := by have t := va21; have q : ((((p5.toUInt32 >>> ((24 : Int32) &&& 31).toUInt32).toInt32).toInt8.toInt32)).toInt8.toInt32 = (((p5.toUInt32 >>> ((24 : Int32) &&& 31).toUInt32).toInt32).toInt8.toInt32) := (own_b8 _); rw [q] at t; exact t
  have Z21 : n0 ≤ h21.size := Nat.le_trans Z19 (Keep.of_wr W21).1
  have KK21 : Keep h0 h21 [] := KK19.wr W21 (Or.inr sz_b0_5)
  have N21 := Fr.snoc X21 N19 g_b0_5
  have c23 := (((((((((S_Giop_MAGIC.ext E5).wr W7).wr W9).wr W11).wr W13).wr W15).wr W17).wr W19).wr W21)
  have ne_b0_5_w_Giop_MAGIC_24 : ¬ (b0_5 = w_Giop_MAGIC) := (Ne.symm (Nat.ne_of_lt (Nat.lt_of_lt_of_le (V_w_Giop_MAGIC).lt (Nat.le_of_eq gg5.symm))))
  have c25 := (((((((((V_w_Giop_MAGIC.ext E5).other W7 (Ne.symm ne_b0_5_w_Giop_MAGIC_24)).other W9 (Ne.symm ne_b0_5_w_Giop_MAGIC_24)).other W11 (Ne.symm ne_b0_5_w_Giop_MAGIC_24)).other W13 (Ne.symm ne_b0_5_w_Giop_MAGIC_24)).other W15 (Ne.symm ne_b0_5_w_Giop_MAGIC_24)).other W17 (Ne.symm ne_b0_5_w_Giop_MAGIC_24)).other W19 (Ne.symm ne_b0_5_w_Giop_MAGIC_24)).other W21 (Ne.symm ne_b0_5_w_Giop_MAGIC_24))
  obtain ⟨_, _, ⟨T22, L22, k22, n22⟩, -, X22, ⟨Lc22, hQ22, l22, y22, z22⟩, st22⟩ := Jvm.LawKit.callS X21 hx (y := (⟨"org/driftcairn/giop/Giop", "hasMagic", "([B)Z"⟩ : MethodName)) hown (mvT hZ (hw _ (List.mem_of_getElem? (i := 5) rfl))) (mvT hZ (hw _ (List.mem_of_getElem? (i := 6) rfl))) (mvT hZ (hw _ (List.mem_of_getElem? (i := 7) rfl))) (mvT hZ (hw _ (List.mem_of_getElem? (i := 8) rfl))) (by decide) (backOf (W := 0) (rm2_1 l Z a0 hw [] p3 p4 p5 w_Giop_MAGIC k_w_Giop_MAGIC b0_5 k0_5 h21 n0 Z21 c23 c25 vb21 hm3) hZ (hw _ (List.mem_of_getElem? (i := 8) rfl)) (hw _ (List.mem_of_getElem? (i := 7) rfl)) (by decide) (by decide)) (g := (mkF m 182 #[iv p0, iv p1, iv p2, iv p3, iv p4, iv p5, iv (71 : Int32), iv (73 : Int32), iv (79 : Int32), iv (own_pick p4 (3 : Int32) p3 (80 : Int32)), iv (0 : Int32), rv b0_5, iv (0 : Int32), .unset, .unset] [(.ref b0_5)])) rfl (by rw [hml]; rfl) (argsL := [(.ref b0_5)]) (rest := []) (lenOf pd_1 rfl) rfl (by show 2 * 0 + _ ≤ _; exact Nat.le_of_eq rfl) (hb hby at_182) (fun _ _ => ⟨rfl, e21, (by decide : 1 + 0 ≤ _), (by decide : 8 + 0 ≤ _)⟩)
  dsimp only [Pt.U, Pt.locs, Pt.cells, Pt.slots] at X22 l22 y22 z22 st22 hQ22
  subst l22 y22 z22
  obtain ⟨rfl, N22q, e22⟩ := hQ22
  have N22 := Fr.app N21 N22q
  obtain ⟨cl26, Ar26, -, Sz26, Nn26, Hs26, Gs26⟩ := id vb21
  have hin26 : ¬ ((0 : Int32) < 0 ∨ cl26.slots.size ≤ ((0 : Int32)).toNatClampNeg) := inb_of Sz26 ⟨by decide, by decide⟩
  obtain ⟨cl27, Ar27, -, Sz27, Nn27, Hs27, Gs27⟩ := id vb21
  have hin27 : ¬ ((1 : Int32) < 0 ∨ cl27.slots.size ≤ ((1 : Int32)).toNatClampNeg) := inb_of Sz27 ⟨by decide, by decide⟩
  obtain ⟨cl28, Ar28, -, Sz28, Nn28, Hs28, Gs28⟩ := id vb21
  have hin28 : ¬ ((2 : Int32) < 0 ∨ cl28.slots.size ≤ ((2 : Int32)).toNatClampNeg) := inb_of Sz28 ⟨by decide, by decide⟩
  obtain ⟨cl29, Ar29, -, Sz29, Nn29, Hs29, Gs29⟩ := id vb21
  have hin29 : ¬ ((3 : Int32) < 0 ∨ cl29.slots.size ≤ ((3 : Int32)).toNatClampNeg) := inb_of Sz29 ⟨by decide, by decide⟩
  obtain ⟨fs, hr, hrun, hended, hW, hsame⟩ := X22.leave (v := (some (.int (1 : Int32)))) (fun h => by rw [Bd.returns] at h; cases h)
  refine ⟨_, _, pre0 _ ?_, hrun, hended, _, _, rfl, ?_, ⟨_, rfl⟩, hW, hsame.mono (by decide) (by decide)⟩
  · show Steps p.tables e below (s₁.setTop (mkF m 0 #[iv p0, iv p1, iv p2, iv p3, iv p4, iv p5, .unset, .unset, .unset, .unset, .unset, .unset, .unset, .unset, .unset] [])) _
    refine XS.iload X0.here hx rfl (hb hby at_0) rfl ?_
    refine XS.iconst X0.here hx rfl (hb hby at_2) ?_
    refine XS.iloadN X0.here hx rfl (hb hby at_3) rfl ?_
    refine XS.bipush X0.here hx rfl (hb hby at_4) ?_
    refine st1 _ ?_
    show Steps p.tables e below (T1.setTop (mkF m 9 #[iv p0, iv p1, iv p2, iv p3, iv p4, iv p5, .unset, .unset, .unset, .unset, .unset, .unset, .unset, .unset, .unset] [(.int (own_pick p4 (0 : Int32) p0 (71 : Int32)))])) _
    rewrite [hm0]
    refine XS.istore X1.here hx rfl (hb hby at_9) rfl (l' := #[iv p0, iv p1, iv p2, iv p3, iv p4, iv p5, iv (71 : Int32), .unset, .unset, .unset, .unset, .unset, .unset, .unset, .unset]) rfl ?_
    show Steps p.tables e below (T1.setTop (mkF m 11 #[iv p0, iv p1, iv p2, iv p3, iv p4, iv p5, iv (71 : Int32), .unset, .unset, .unset, .unset, .unset, .unset, .unset, .unset] [])) _
    refine XS.iload X1.here hx rfl (hb hby at_11) rfl ?_
    refine XS.iconst X1.here hx rfl (hb hby at_13) ?_
    refine XS.iloadN X1.here hx rfl (hb hby at_14) rfl ?_
    refine XS.bipush X1.here hx rfl (hb hby at_15) ?_
    refine st2 _ ?_
    show Steps p.tables e below (T2.setTop (mkF m 20 #[iv p0, iv p1, iv p2, iv p3, iv p4, iv p5, iv (71 : Int32), .unset, .unset, .unset, .unset, .unset, .unset, .unset, .unset] [(.int (own_pick p4 (1 : Int32) p1 (73 : Int32)))])) _
    rewrite [hm1]
    refine XS.istore X2.here hx rfl (hb hby at_20) rfl (l' := #[iv p0, iv p1, iv p2, iv p3, iv p4, iv p5, iv (71 : Int32), iv (73 : Int32), .unset, .unset, .unset, .unset, .unset, .unset, .unset]) rfl ?_
    show Steps p.tables e below (T2.setTop (mkF m 22 #[iv p0, iv p1, iv p2, iv p3, iv p4, iv p5, iv (71 : Int32), iv (73 : Int32), .unset, .unset, .unset, .unset, .unset, .unset, .unset] [])) _
    refine XS.iload X2.here hx rfl (hb hby at_22) rfl ?_
    refine XS.iconst X2.here hx rfl (hb hby at_24) ?_
    refine XS.iloadN X2.here hx rfl (hb hby at_25) rfl ?_
    refine XS.bipush X2.here hx rfl (hb hby at_26) ?_
    refine st3 _ ?_
    show Steps p.tables e below (T3.setTop (mkF m 31 #[iv p0, iv p1, iv p2, iv p3, iv p4, iv p5, iv (71 : Int32), iv (73 : Int32), .unset, .unset, .unset, .unset, .unset, .unset, .unset] [(.int (own_pick p4 (2 : Int32) p2 (79 : Int32)))])) _
    rewrite [hm2]
    refine XS.istore X3.here hx rfl (hb hby at_31) rfl (l' := #[iv p0, iv p1, iv p2, iv p3, iv p4, iv p5, iv (71 : Int32), iv (73 : Int32), iv (79 : Int32), .unset, .unset, .unset, .unset, .unset, .unset]) rfl ?_
    show Steps p.tables e below (T3.setTop (mkF m 33 #[iv p0, iv p1, iv p2, iv p3, iv p4, iv p5, iv (71 : Int32), iv (73 : Int32), iv (79 : Int32), .unset, .unset, .unset, .unset, .unset, .unset] [])) _
    refine XS.iload X3.here hx rfl (hb hby at_33) rfl ?_
    refine XS.iconst X3.here hx rfl (hb hby at_35) ?_
    refine XS.iloadN X3.here hx rfl (hb hby at_36) rfl ?_
    refine XS.bipush X3.here hx rfl (hb hby at_37) ?_
    refine st4 _ ?_
    refine XS.istore X4.here hx rfl (hb hby at_42) rfl (l' := #[iv p0, iv p1, iv p2, iv p3, iv p4, iv p5, iv (71 : Int32), iv (73 : Int32), iv (79 : Int32), iv (own_pick p4 (3 : Int32) p3 (80 : Int32)), .unset, .unset, .unset, .unset, .unset]) rfl ?_
    show Steps p.tables e below (T4.setTop (mkF m 44 #[iv p0, iv p1, iv p2, iv p3, iv p4, iv p5, iv (71 : Int32), iv (73 : Int32), iv (79 : Int32), iv (own_pick p4 (3 : Int32) p3 (80 : Int32)), .unset, .unset, .unset, .unset, .unset] [])) _
    refine XS.iload X4.here hx rfl (hb hby at_44) rfl ?_
    refine XS.iconst X4.here hx rfl (hb hby at_46) ?_
    refine XS.iushr X4.here hx rfl (hb hby at_47) rfl ?_
    refine XS.iconst X4.here hx rfl (hb hby at_48) ?_
    refine XS.iand X4.here hx rfl (hb hby at_49) rfl ?_
    show Steps p.tables e below (T4.setTop (mkF m 50 #[iv p0, iv p1, iv p2, iv p3, iv p4, iv p5, iv (71 : Int32), iv (73 : Int32), iv (79 : Int32), iv (own_pick p4 (3 : Int32) p3 (80 : Int32)), .unset, .unset, .unset, .unset, .unset] [(.int (((p4.toUInt32 >>> ((4 : Int32) &&& 31).toUInt32).toInt32) &&& (1 : Int32)))])) _
    rewrite [hs]
    refine XS.ifYes X4.here hx rfl (pc0 := 50) (pc' := 57) rfl (hb hby at_50) rfl ((if0 _ _).trans (teq (by decide +kernel : (0 : Int32) = (0 : Int32))).1) (by decide) (by decide) ?_
    show Steps p.tables e below (T4.setTop (mkF m 57 #[iv p0, iv p1, iv p2, iv p3, iv p4, iv p5, iv (71 : Int32), iv (73 : Int32), iv (79 : Int32), iv (own_pick p4 (3 : Int32) p3 (80 : Int32)), .unset, .unset, .unset, .unset, .unset] [])) _
    refine XS.iconst X4.here hx rfl (hb hby at_57) ?_
    refine XS.istore X4.here hx rfl (hb hby at_58) rfl (l' := #[iv p0, iv p1, iv p2, iv p3, iv p4, iv p5, iv (71 : Int32), iv (73 : Int32), iv (79 : Int32), iv (own_pick p4 (3 : Int32) p3 (80 : Int32)), iv (0 : Int32), .unset, .unset, .unset, .unset]) rfl ?_
    refine XS.iload X4.here hx rfl (hb hby at_60) rfl ?_
    refine XS.ifYes X4.here hx rfl (pc0 := 62) (pc' := 71) rfl (hb hby at_62) rfl ((if0 _ _).trans (teq (by decide +kernel : (0 : Int32) = (0 : Int32))).1) (by decide) (by decide) ?_
    refine XS.bipush X4.here hx rfl (hb hby at_71) ?_
    refine st5 _ ?_
    show Steps p.tables e below (T5.setTop (mkF m 75 #[iv p0, iv p1, iv p2, iv p3, iv p4, iv p5, iv (71 : Int32), iv (73 : Int32), iv (79 : Int32), iv (own_pick p4 (3 : Int32) p3 (80 : Int32)), iv (0 : Int32), .unset, .unset, .unset, .unset] [(.ref b0_5)])) _
    refine XS.astore X5.here hx rfl (hb hby at_75) rfl rfl (l' := #[iv p0, iv p1, iv p2, iv p3, iv p4, iv p5, iv (71 : Int32), iv (73 : Int32), iv (79 : Int32), iv (own_pick p4 (3 : Int32) p3 (80 : Int32)), iv (0 : Int32), rv b0_5, .unset, .unset, .unset]) rfl ?_
    refine XS.aload X5.here hx rfl (hb hby at_77) rfl rfl ?_
    refine XS.iconst X5.here hx rfl (hb hby at_79) ?_
    refine XS.iload X5.here hx rfl (hb hby at_80) rfl ?_
    refine st7 _ ?_
    refine XS.aload X7.here hx rfl (hb hby at_83) rfl rfl ?_
    show Steps p.tables e below (T7.setTop (mkF m 85 #[iv p0, iv p1, iv p2, iv p3, iv p4, iv p5, iv (71 : Int32), iv (73 : Int32), iv (79 : Int32), iv (own_pick p4 (3 : Int32) p3 (80 : Int32)), iv (0 : Int32), rv b0_5, .unset, .unset, .unset] [(.ref b0_5)])) _
    refine XS.iconst X7.here hx rfl (hb hby at_85) ?_
    refine XS.iload X7.here hx rfl (hb hby at_86) rfl ?_
    refine st9 _ ?_
    refine XS.aload X9.here hx rfl (hb hby at_89) rfl rfl ?_
    refine XS.iconst X9.here hx rfl (hb hby at_91) ?_
    refine XS.iload X9.here hx rfl (hb hby at_92) rfl ?_
    show Steps p.tables e below (T9.setTop (mkF m 94 #[iv p0, iv p1, iv p2, iv p3, iv p4, iv p5, iv (71 : Int32), iv (73 : Int32), iv (79 : Int32), iv (own_pick p4 (3 : Int32) p3 (80 : Int32)), iv (0 : Int32), rv b0_5, .unset, .unset, .unset] [(.int (79 : Int32)), (.int (2 : Int32)), (.ref b0_5)])) _
    refine st11 _ ?_
    refine XS.aload X11.here hx rfl (hb hby at_95) rfl rfl ?_
    refine XS.iconst X11.here hx rfl (hb hby at_97) ?_
    refine XS.iload X11.here hx rfl (hb hby at_98) rfl ?_
    refine st13 _ ?_
    refine XS.iload X13.here hx rfl (hb hby at_101) rfl ?_
    show Steps p.tables e below (T13.setTop (mkF m 103 #[iv p0, iv p1, iv p2, iv p3, iv p4, iv p5, iv (71 : Int32), iv (73 : Int32), iv (79 : Int32), iv (own_pick p4 (3 : Int32) p3 (80 : Int32)), iv (0 : Int32), rv b0_5, .unset, .unset, .unset] [(.int (0 : Int32))])) _
    refine XS.ifNo X13.here hx rfl (hb hby at_103) rfl ((if0 _ _).trans (teq (by decide +kernel : (0 : Int32) = (0 : Int32))).2) ?_
    refine XS.aload X13.here hx rfl (hb hby at_106) rfl rfl ?_
    refine XS.iconst X13.here hx rfl (hb hby at_108) ?_
    refine XS.iload X13.here hx rfl (hb hby at_109) rfl ?_
    refine XS.i2b X13.here hx rfl (hb hby at_111) rfl ?_
    refine st15 _ ?_
    show Steps p.tables e below (T15.setTop (mkF m 113 #[iv p0, iv p1, iv p2, iv p3, iv p4, iv p5, iv (71 : Int32), iv (73 : Int32), iv (79 : Int32), iv (own_pick p4 (3 : Int32) p3 (80 : Int32)), iv (0 : Int32), rv b0_5, .unset, .unset, .unset] [])) _
    refine XS.aload X15.here hx rfl (hb hby at_113) rfl rfl ?_
    refine XS.iconst X15.here hx rfl (hb hby at_115) ?_
    refine XS.iload X15.here hx rfl (hb hby at_116) rfl ?_
    refine XS.bipush X15.here hx rfl (hb hby at_118) ?_
    refine XS.iushr X15.here hx rfl (hb hby at_120) rfl ?_
    refine XS.i2b X15.here hx rfl (hb hby at_121) rfl ?_
    show Steps p.tables e below (T15.setTop (mkF m 122 #[iv p0, iv p1, iv p2, iv p3, iv p4, iv p5, iv (71 : Int32), iv (73 : Int32), iv (79 : Int32), iv (own_pick p4 (3 : Int32) p3 (80 : Int32)), iv (0 : Int32), rv b0_5, .unset, .unset, .unset] [(.int (((p5.toUInt32 >>> ((8 : Int32) &&& 31).toUInt32).toInt32).toInt8.toInt32)), (.int (5 : Int32)), (.ref b0_5)])) _
    refine st17 _ ?_
    refine XS.aload X17.here hx rfl (hb hby at_123) rfl rfl ?_
    refine XS.bipush X17.here hx rfl (hb hby at_125) ?_
    refine XS.iload X17.here hx rfl (hb hby at_127) rfl ?_
    refine XS.bipush X17.here hx rfl (hb hby at_129) ?_
    refine XS.iushr X17.here hx rfl (hb hby at_131) rfl ?_
    show Steps p.tables e below (T17.setTop (mkF m 132 #[iv p0, iv p1, iv p2, iv p3, iv p4, iv p5, iv (71 : Int32), iv (73 : Int32), iv (79 : Int32), iv (own_pick p4 (3 : Int32) p3 (80 : Int32)), iv (0 : Int32), rv b0_5, .unset, .unset, .unset] [(.int ((p5.toUInt32 >>> ((16 : Int32) &&& 31).toUInt32).toInt32)), (.int (6 : Int32)), (.ref b0_5)])) _
    refine XS.i2b X17.here hx rfl (hb hby at_132) rfl ?_
    refine st19 _ ?_
    refine XS.aload X19.here hx rfl (hb hby at_134) rfl rfl ?_
    refine XS.bipush X19.here hx rfl (hb hby at_136) ?_
    refine XS.iload X19.here hx rfl (hb hby at_138) rfl ?_
    refine XS.bipush X19.here hx rfl (hb hby at_140) ?_
    show Steps p.tables e below (T19.setTop (mkF m 142 #[iv p0, iv p1, iv p2, iv p3, iv p4, iv p5, iv (71 : Int32), iv (73 : Int32), iv (79 : Int32), iv (own_pick p4 (3 : Int32) p3 (80 : Int32)), iv (0 : Int32), rv b0_5, .unset, .unset, .unset] [(.int (24 : Int32)), (.int p5), (.int (7 : Int32)), (.ref b0_5)])) _
    refine XS.iushr X19.here hx rfl (hb hby at_142) rfl ?_
    refine XS.i2b X19.here hx rfl (hb hby at_143) rfl ?_
    refine st21 _ ?_
    refine XS.iload X21.here hx rfl (hb hby at_145) rfl ?_
    refine XS.bipush X21.here hx rfl (hb hby at_147) ?_
    refine XS.icmpNo X21.here hx rfl (hb hby at_149) rfl (teq (by decide +kernel : (71 : Int32) = (71 : Int32))).2 ?_
    show Steps p.tables e below (T21.setTop (mkF m 152 #[iv p0, iv p1, iv p2, iv p3, iv p4, iv p5, iv (71 : Int32), iv (73 : Int32), iv (79 : Int32), iv (own_pick p4 (3 : Int32) p3 (80 : Int32)), iv (0 : Int32), rv b0_5, .unset, .unset, .unset] [])) _
    refine XS.iload X21.here hx rfl (hb hby at_152) rfl ?_
    refine XS.bipush X21.here hx rfl (hb hby at_154) ?_
    refine XS.icmpNo X21.here hx rfl (hb hby at_156) rfl (teq (by decide +kernel : (73 : Int32) = (73 : Int32))).2 ?_
    refine XS.iload X21.here hx rfl (hb hby at_159) rfl ?_
    refine XS.bipush X21.here hx rfl (hb hby at_161) ?_
    refine XS.icmpNo X21.here hx rfl (hb hby at_163) rfl (teq (by decide +kernel : (79 : Int32) = (79 : Int32))).2 ?_
    show Steps p.tables e below (T21.setTop (mkF m 166 #[iv p0, iv p1, iv p2, iv p3, iv p4, iv p5, iv (71 : Int32), iv (73 : Int32), iv (79 : Int32), iv (own_pick p4 (3 : Int32) p3 (80 : Int32)), iv (0 : Int32), rv b0_5, .unset, .unset, .unset] [])) _
    refine XS.iload X21.here hx rfl (hb hby at_166) rfl ?_
    refine XS.bipush X21.here hx rfl (hb hby at_168) ?_
    refine XS.icmpYes X21.here hx rfl (pc0 := 170) (pc' := 177) rfl (hb hby at_170) rfl (feq hm3).2 (by decide) (by decide) ?_
    refine XS.iconst X21.here hx rfl (hb hby at_177) ?_
    refine XS.istore X21.here hx rfl (hb hby at_178) rfl (l' := #[iv p0, iv p1, iv p2, iv p3, iv p4, iv p5, iv (71 : Int32), iv (73 : Int32), iv (79 : Int32), iv (own_pick p4 (3 : Int32) p3 (80 : Int32)), iv (0 : Int32), rv b0_5, iv (0 : Int32), .unset, .unset]) rfl ?_
    refine XS.aload X21.here hx rfl (hb hby at_180) rfl rfl ?_
    show Steps p.tables e below (T21.setTop (mkF m 182 #[iv p0, iv p1, iv p2, iv p3, iv p4, iv p5, iv (71 : Int32), iv (73 : Int32), iv (79 : Int32), iv (own_pick p4 (3 : Int32) p3 (80 : Int32)), iv (0 : Int32), rv b0_5, iv (0 : Int32), .unset, .unset] [(.ref b0_5)])) _
    refine st22 _ ?_
    refine XS.istore X22.here hx rfl (hb hby at_185) rfl (l' := #[iv p0, iv p1, iv p2, iv p3, iv p4, iv p5, iv (71 : Int32), iv (73 : Int32), iv (79 : Int32), iv (own_pick p4 (3 : Int32) p3 (80 : Int32)), iv (0 : Int32), rv b0_5, iv (0 : Int32), iv (0 : Int32), .unset]) rfl ?_
    refine XS.aload X22.here hx rfl (hb hby at_187) rfl rfl ?_
    refine XS.iconst X22.here hx rfl (hb hby at_189) ?_
    refine X22.baloadBytes hx (j := (0 : Int32)) (v := (.int (71 : Int32))) (by rw [e22]; exact Ar26.1) (State.isArrayOf_alike hZ.alike Ar26.2.1) Ar26.2.2 hin26 (Hs26.at hin26 rfl) (g := (mkF m 190 #[iv p0, iv p1, iv p2, iv p3, iv p4, iv p5, iv (71 : Int32), iv (73 : Int32), iv (79 : Int32), iv (own_pick p4 (3 : Int32) p3 (80 : Int32)), iv (0 : Int32), rv b0_5, iv (0 : Int32), iv (0 : Int32), .unset] [(.int (0 : Int32)), (.ref b0_5)])) rfl rfl (hb hby at_190) _ ?_
    refine XS.iload X22.here hx rfl (hb hby at_191) rfl ?_
    show Steps p.tables e below (T22.setTop (mkF m 193 #[iv p0, iv p1, iv p2, iv p3, iv p4, iv p5, iv (71 : Int32), iv (73 : Int32), iv (79 : Int32), iv (own_pick p4 (3 : Int32) p3 (80 : Int32)), iv (0 : Int32), rv b0_5, iv (0 : Int32), iv (0 : Int32), .unset] [(.int (71 : Int32)), (.int (71 : Int32))])) _
    refine XS.icmpNo X22.here hx rfl (hb hby at_193) rfl (teq (by decide +kernel : (71 : Int32) = (71 : Int32))).2 ?_
    refine XS.aload X22.here hx rfl (hb hby at_196) rfl rfl ?_
    refine XS.iconst X22.here hx rfl (hb hby at_198) ?_
    refine X22.baloadBytes hx (j := (1 : Int32)) (v := (.int (73 : Int32))) (by rw [e22]; exact Ar27.1) (State.isArrayOf_alike hZ.alike Ar27.2.1) Ar27.2.2 hin27 (Hs27.at hin27 rfl) (g := (mkF m 199 #[iv p0, iv p1, iv p2, iv p3, iv p4, iv p5, iv (71 : Int32), iv (73 : Int32), iv (79 : Int32), iv (own_pick p4 (3 : Int32) p3 (80 : Int32)), iv (0 : Int32), rv b0_5, iv (0 : Int32), iv (0 : Int32), .unset] [(.int (1 : Int32)), (.ref b0_5)])) rfl rfl (hb hby at_199) _ ?_
    refine XS.iload X22.here hx rfl (hb hby at_200) rfl ?_
    refine XS.icmpNo X22.here hx rfl (hb hby at_202) rfl (teq (by decide +kernel : (73 : Int32) = (73 : Int32))).2 ?_
    show Steps p.tables e below (T22.setTop (mkF m 205 #[iv p0, iv p1, iv p2, iv p3, iv p4, iv p5, iv (71 : Int32), iv (73 : Int32), iv (79 : Int32), iv (own_pick p4 (3 : Int32) p3 (80 : Int32)), iv (0 : Int32), rv b0_5, iv (0 : Int32), iv (0 : Int32), .unset] [])) _
    refine XS.aload X22.here hx rfl (hb hby at_205) rfl rfl ?_
    refine XS.iconst X22.here hx rfl (hb hby at_207) ?_
    refine X22.baloadBytes hx (j := (2 : Int32)) (v := (.int (79 : Int32))) (by rw [e22]; exact Ar28.1) (State.isArrayOf_alike hZ.alike Ar28.2.1) Ar28.2.2 hin28 (Hs28.at hin28 rfl) (g := (mkF m 208 #[iv p0, iv p1, iv p2, iv p3, iv p4, iv p5, iv (71 : Int32), iv (73 : Int32), iv (79 : Int32), iv (own_pick p4 (3 : Int32) p3 (80 : Int32)), iv (0 : Int32), rv b0_5, iv (0 : Int32), iv (0 : Int32), .unset] [(.int (2 : Int32)), (.ref b0_5)])) rfl rfl (hb hby at_208) _ ?_
    refine XS.iload X22.here hx rfl (hb hby at_209) rfl ?_
    refine XS.icmpNo X22.here hx rfl (hb hby at_211) rfl (teq (by decide +kernel : (79 : Int32) = (79 : Int32))).2 ?_
    refine XS.aload X22.here hx rfl (hb hby at_214) rfl rfl ?_
    show Steps p.tables e below (T22.setTop (mkF m 216 #[iv p0, iv p1, iv p2, iv p3, iv p4, iv p5, iv (71 : Int32), iv (73 : Int32), iv (79 : Int32), iv (own_pick p4 (3 : Int32) p3 (80 : Int32)), iv (0 : Int32), rv b0_5, iv (0 : Int32), iv (0 : Int32), .unset] [(.ref b0_5)])) _
    refine XS.iconst X22.here hx rfl (hb hby at_216) ?_
    refine X22.baloadBytes hx (j := (3 : Int32)) (v := (.int (own_pick p4 (3 : Int32) p3 (80 : Int32)))) (by rw [e22]; exact Ar29.1) (State.isArrayOf_alike hZ.alike Ar29.2.1) Ar29.2.2 hin29 (Hs29.at hin29 rfl) (g := (mkF m 217 #[iv p0, iv p1, iv p2, iv p3, iv p4, iv p5, iv (71 : Int32), iv (73 : Int32), iv (79 : Int32), iv (own_pick p4 (3 : Int32) p3 (80 : Int32)), iv (0 : Int32), rv b0_5, iv (0 : Int32), iv (0 : Int32), .unset] [(.int (3 : Int32)), (.ref b0_5)])) rfl rfl (hb hby at_217) _ ?_
    refine XS.iload X22.here hx rfl (hb hby at_218) rfl ?_
    refine XS.icmpNo X22.here hx rfl (hb hby at_220) rfl (teq (rfl : (own_pick p4 (3 : Int32) p3 (80 : Int32)) = (own_pick p4 (3 : Int32) p3 (80 : Int32)))).2 ?_
    refine XS.iconst X22.here hx rfl (hb hby at_223) ?_
    refine XS.goto X22.here hx rfl (pc0 := 224) (pc' := 228) rfl (hb hby at_224) (by decide) (by decide) ?_
    show Steps p.tables e below (T22.setTop (mkF m 228 #[iv p0, iv p1, iv p2, iv p3, iv p4, iv p5, iv (71 : Int32), iv (73 : Int32), iv (79 : Int32), iv (own_pick p4 (3 : Int32) p3 (80 : Int32)), iv (0 : Int32), rv b0_5, iv (0 : Int32), iv (0 : Int32), .unset] [(.int (1 : Int32))])) _
    refine XS.istore X22.here hx rfl (hb hby at_228) rfl (l' := #[iv p0, iv p1, iv p2, iv p3, iv p4, iv p5, iv (71 : Int32), iv (73 : Int32), iv (79 : Int32), iv (own_pick p4 (3 : Int32) p3 (80 : Int32)), iv (0 : Int32), rv b0_5, iv (0 : Int32), iv (0 : Int32), iv (1 : Int32)]) rfl ?_
    refine XS.iload X22.here hx rfl (hb hby at_230) rfl ?_
    refine XS.iload X22.here hx rfl (hb hby at_232) rfl ?_
    refine XS.icmpNo X22.here hx rfl (hb hby at_234) rfl (teq (by decide +kernel : (0 : Int32) = (0 : Int32))).2 ?_
    refine XS.iload X22.here hx rfl (hb hby at_237) rfl ?_
    refine XS.ifNo X22.here hx rfl (hb hby at_239) rfl ((if0 _ _).trans (feq (by decide +kernel : ¬ ((1 : Int32) = (0 : Int32)))).1) ?_
    show Steps p.tables e below (T22.setTop (mkF m 242 #[iv p0, iv p1, iv p2, iv p3, iv p4, iv p5, iv (71 : Int32), iv (73 : Int32), iv (79 : Int32), iv (own_pick p4 (3 : Int32) p3 (80 : Int32)), iv (0 : Int32), rv b0_5, iv (0 : Int32), iv (0 : Int32), iv (1 : Int32)] [])) _
    refine XS.iconst X22.here hx rfl (hb hby at_242) ?_
    refine XS.goto X22.here hx rfl (pc0 := 243) (pc' := 247) rfl (hb hby at_243) (by decide) (by decide) ?_
    exact retN X22 hx (t := .boolean) Bd.returns (by simp) (hb hby at_247) hr
  · exact ⟨rfl, N22⟩
set_option maxRecDepth 65536 in
set_option maxHeartbeats 40000000 in
theorem rm2_2 (l : Launch) (Z : State) (a0 : Array Value) (hw : ∀ d ∈ tables_1, d.before a0 Z = true) (ws : List Jvm.Cond) (p2 : Int32) (p3 : Int32) (p4 : Int32) (p5 : Int32) (w_Giop_MAGIC : Addr) (k_w_Giop_MAGIC : ClassId) (b0_5 : Addr) (k0_5 : ClassId) (h0 : Heap) (n0 : Nat) (Z0 : n0 ≤ h0.size) (S_Giop_MAGIC : Sta Z h0 "org/driftcairn/giop/Giop" "MAGIC" "[B" (.ref w_Giop_MAGIC)) (V_w_Giop_MAGIC : Arv Z h0 w_Giop_MAGIC k_w_Giop_MAGIC .byte (4 : Int32) [(.int (71 : Int32)), (.int (73 : Int32)), (.int (79 : Int32)), (.int (80 : Int32))] (.int (0 : Int32))) (V_b0_5 : Arv Z h0 b0_5 k0_5 .byte (8 : Int32) [(.int (71 : Int32)), (.int (73 : Int32)), (.int (own_pick p4 (2 : Int32) p2 (79 : Int32))), (.int (own_pick p4 (3 : Int32) p3 (80 : Int32))), (.int (p5.toInt8.toInt32)), (.int (((p5.toUInt32 >>> ((8 : Int32) &&& 31).toUInt32).toInt32).toInt8.toInt32)), (.int (((p5.toUInt32 >>> ((16 : Int32) &&& 31).toUInt32).toInt32).toInt8.toInt32)), (.int (((p5.toUInt32 >>> ((24 : Int32) &&& 31).toUInt32).toInt32).toInt8.toInt32))] (.int (0 : Int32))) (hm2 : ¬ ((own_pick p4 (2 : Int32) p2 (79 : Int32)) = (79 : Int32))) :
    MetFree l (⟨"org/driftcairn/giop/Giop", "hasMagic", "([B)Z"⟩ : MethodName) (head1 (Jvm.Cond.code (⟨"org/driftcairn/giop/Giop", "hasMagic", "([B)Z"⟩ : MethodName) prog_59_method_2_code 2 (some .boolean) :: ws) ({ frames := 0, cells := 0, slots := 0, locals := 0 } : Room)) (fun a U => a = #[(.ref b0_5)] ∧ Z.Warmed39 U.vm ∧ U.heap = h0) (fun _ _ _ _ _ => True) (fun _ U o U' => ∃ v L, o = .returned v ∧ own_QP (some (.int (0 : Int32))) h0 n0 v U'.heap L ∧ FrameEnd U o U' L ({ frames := 0, cells := 0, slots := 0, locals := 0 } : Room).cells ({ frames := 0, cells := 0, slots := 0, locals := 0 } : Room).slots) := by
  refine MetFree.of_bodySF (plainFor_of_name pn_1) hisR ?_
  intro p e s m args below meth c s₁ Bd hml0 hP hK
  obtain ⟨rfl, hZ, hh⟩ := hP
  have hx := Bd.exec
  have hby := Bd.bytes
  have hml : c.maxLocals = 2 := hml0
  have hown : s.vm.findClass "org/driftcairn/giop/Giop" = some m.cls := findClass_of_methodNamed Bd.named
  have hnm := (name_of_methodNamed Bd.named Bd.method).1
  have X0 : Stand p l e ({ frames := 0, cells := 0, slots := 0, locals := 0 } : Room) s m #[(.ref b0_5)] below meth c s₁ [] 0 0 := Stand.of_body Bd
  have e0 : s₁.heap = h0 := by rw [← hh, Bd.state]; rfl
  have N0 := Fr.nil n0
  have pre0 : ∀ t, Steps p.tables e below (s₁.setTop (mkF m 0 #[rv b0_5, .unset] [])) t → Steps p.tables e below (s₁.setTop (entryFrame m #[(.ref b0_5)] 2)) t := fun t k => castTop (ef_2_R m b0_5) k
  obtain ⟨T1, X1, e1, st1⟩ := getS2 X0 hx hZ hown (host := "") (Or.inl (hw _ (List.mem_of_getElem? (i := 9) rfl))) Via.refl e0 S_Giop_MAGIC (g := (mkF m 3 #[rv b0_5, iv (0 : Int32)] [(.int (0 : Int32))])) rfl (hb hby d2_3)
  obtain ⟨cl2, Ar2, -, Sz2, Nn2, -, -⟩ := id V_w_Giop_MAGIC
  obtain ⟨cl3, Ar3, -, Sz3, Nn3, Hs3, Gs3⟩ := id V_b0_5
  have hin3 : ¬ ((0 : Int32) < 0 ∨ cl3.slots.size ≤ ((0 : Int32)).toNatClampNeg) := inb_of Sz3 ⟨by decide, by decide⟩
  obtain ⟨T4, X4, e4, st4⟩ := getS2 X1 hx hZ hown (host := "") (Or.inl (hw _ (List.mem_of_getElem? (i := 9) rfl))) Via.refl e1 S_Giop_MAGIC (g := (mkF m 13 #[rv b0_5, iv (0 : Int32)] [(.int (71 : Int32))])) rfl (hb hby d2_13)
  obtain ⟨cl5, Ar5, -, Sz5, Nn5, Hs5, Gs5⟩ := id V_w_Giop_MAGIC
  have hin5 : ¬ ((0 : Int32) < 0 ∨ cl5.slots.size ≤ ((0 : Int32)).toNatClampNeg) := inb_of Sz5 ⟨by decide, by decide⟩
  obtain ⟨T6, X6, e6, st6⟩ := getS2 X4 hx hZ hown (host := "") (Or.inl (hw _ (List.mem_of_getElem? (i := 9) rfl))) Via.refl e4 S_Giop_MAGIC (g := (mkF m 3 #[rv b0_5, iv (1 : Int32)] [(.int (1 : Int32))])) rfl (hb hby d2_3)
  obtain ⟨cl7, Ar7, -, Sz7, Nn7, -, -⟩ := id V_w_Giop_MAGIC
  obtain ⟨cl8, Ar8, -, Sz8, Nn8, Hs8, Gs8⟩ := id V_b0_5
  have hin8 : ¬ ((1 : Int32) < 0 ∨ cl8.slots.size ≤ ((1 : Int32)).toNatClampNeg) := inb_of Sz8 ⟨by decide, by decide⟩
  obtain ⟨T9, X9, e9, st9⟩ := getS2 X6 hx hZ hown (host := "") (Or.inl (hw _ (List.mem_of_getElem? (i := 9) rfl))) Via.refl e6 S_Giop_MAGIC (g := (mkF m 13 #[rv b0_5, iv (1 : Int32)] [(.int (73 : Int32))])) rfl (hb hby d2_13)
  obtain ⟨cl10, Ar10, -, Sz10, Nn10, Hs10, Gs10⟩ := id V_w_Giop_MAGIC
  have hin10 : ¬ ((1 : Int32) < 0 ∨ cl10.slots.size ≤ ((1 : Int32)).toNatClampNeg) := inb_of Sz10 ⟨by decide, by decide⟩
  obtain ⟨T11, X11, e11, st11⟩ := getS2 X9 hx hZ hown (host := "") (Or.inl (hw _ (List.mem_of_getElem? (i := 9) rfl))) Via.refl e9 S_Giop_MAGIC (g := (mkF m 3 #[rv b0_5, iv (2 : Int32)] [(.int (2 : Int32))])) rfl (hb hby d2_3)
  obtain ⟨cl12, Ar12, -, Sz12, Nn12, -, -⟩ := id V_w_Giop_MAGIC
  obtain ⟨cl13, Ar13, -, Sz13, Nn13, Hs13, Gs13⟩ := id V_b0_5
  have hin13 : ¬ ((2 : Int32) < 0 ∨ cl13.slots.size ≤ ((2 : Int32)).toNatClampNeg) := inb_of Sz13 ⟨by decide, by decide⟩
  obtain ⟨T14, X14, e14, st14⟩ := getS2 X11 hx hZ hown (host := "") (Or.inl (hw _ (List.mem_of_getElem? (i := 9) rfl))) Via.refl e11 S_Giop_MAGIC (g := (mkF m 13 #[rv b0_5, iv (2 : Int32)] [(.int (own_pick p4 (2 : Int32) p2 (79 : Int32)))])) rfl (hb hby d2_13)
  obtain ⟨cl15, Ar15, -, Sz15, Nn15, Hs15, Gs15⟩ := id V_w_Giop_MAGIC
  have hin15 : ¬ ((2 : Int32) < 0 ∨ cl15.slots.size ≤ ((2 : Int32)).toNatClampNeg) := inb_of Sz15 ⟨by decide, by decide⟩
  obtain ⟨fs, hr, hrun, hended, hW, hsame⟩ := X14.leave (v := (some (.int (0 : Int32)))) (fun h => by rw [Bd.returns] at h; cases h)
  refine ⟨_, _, pre0 _ ?_, hrun, hended, _, _, rfl, ?_, ⟨_, rfl⟩, hW, hsame.mono (by decide) (by decide)⟩
  · show Steps p.tables e below (s₁.setTop (mkF m 0 #[rv b0_5, .unset] [])) _
    refine XS.iconst X0.here hx rfl (hb hby d2_0) ?_
    refine XS.istoreN X0.here hx rfl (hb hby d2_1) rfl (l' := #[rv b0_5, iv (0 : Int32)]) rfl ?_
    refine XS.iloadN X0.here hx rfl (hb hby d2_2) rfl ?_
    refine st1 _ ?_
    refine X1.arraylength hx (by rw [e1]; exact Ar2.1) (State.isArrayOf_alike hZ.alike Ar2.2.1) (g := (mkF m 6 #[rv b0_5, iv (0 : Int32)] [(.ref w_Giop_MAGIC), (.int (0 : Int32))])) rfl rfl (hb hby d2_6) _ ?_
    rw [len_of Sz2 Nn2]
    refine XS.icmpNo X1.here hx rfl (hb hby d2_7) rfl (tlt (by decide +kernel : (0 : Int32) < (4 : Int32))).2.1 ?_
    show Steps p.tables e below (T1.setTop (mkF m 10 #[rv b0_5, iv (0 : Int32)] [])) _
    refine XS.aloadN X1.here hx rfl (hb hby d2_10) rfl rfl ?_
    refine XS.iloadN X1.here hx rfl (hb hby d2_11) rfl ?_
    refine X1.baloadBytes hx (j := (0 : Int32)) (v := (.int (71 : Int32))) (by rw [e1]; exact Ar3.1) (State.isArrayOf_alike hZ.alike Ar3.2.1) Ar3.2.2 hin3 (Hs3.at hin3 rfl) (g := (mkF m 12 #[rv b0_5, iv (0 : Int32)] [(.int (0 : Int32)), (.ref b0_5)])) rfl rfl (hb hby d2_12) _ ?_
    refine st4 _ ?_
    refine XS.iloadN X4.here hx rfl (hb hby d2_16) rfl ?_
    refine X4.baloadBytes hx (j := (0 : Int32)) (v := (.int (71 : Int32))) (by rw [e4]; exact Ar5.1) (State.isArrayOf_alike hZ.alike Ar5.2.1) Ar5.2.2 hin5 (Hs5.at hin5 rfl) (g := (mkF m 17 #[rv b0_5, iv (0 : Int32)] [(.int (0 : Int32)), (.ref w_Giop_MAGIC), (.int (71 : Int32))])) rfl rfl (hb hby d2_17) _ ?_
    show Steps p.tables e below (T4.setTop (mkF m 18 #[rv b0_5, iv (0 : Int32)] [(.int (71 : Int32)), (.int (71 : Int32))])) _
    refine XS.icmpYes X4.here hx rfl (pc0 := 18) (pc' := 23) rfl (hb hby d2_18) rfl (teq (by decide +kernel : (71 : Int32) = (71 : Int32))).1 (by decide) (by decide) ?_
    refine XS.iinc X4.here hx rfl (hb hby d2_23) rfl (l' := #[rv b0_5, iv ((0 : Int32) + (1 : Int32))]) rfl ?_
    show Steps p.tables e below (T4.setTop (mkF m 26 #[rv b0_5, iv ((0 : Int32) + (1 : Int32))] [])) _
    rewrite [show ((0 : Int32) + (1 : Int32)) = (1 : Int32) from by decide +kernel]
    refine XS.goto X4.here hx rfl (pc0 := 26) (pc' := 2) rfl (hb hby d2_26) (by decide) (by decide) ?_
    refine XS.iloadN X4.here hx rfl (hb hby d2_2) rfl ?_
    refine st6 _ ?_
    refine X6.arraylength hx (by rw [e6]; exact Ar7.1) (State.isArrayOf_alike hZ.alike Ar7.2.1) (g := (mkF m 6 #[rv b0_5, iv (1 : Int32)] [(.ref w_Giop_MAGIC), (.int (1 : Int32))])) rfl rfl (hb hby d2_6) _ ?_
    rw [len_of Sz7 Nn7]
    show Steps p.tables e below (T6.setTop (mkF m 7 #[rv b0_5, iv (1 : Int32)] [(.int (4 : Int32)), (.int (1 : Int32))])) _
    refine XS.icmpNo X6.here hx rfl (hb hby d2_7) rfl (tlt (by decide +kernel : (1 : Int32) < (4 : Int32))).2.1 ?_
    refine XS.aloadN X6.here hx rfl (hb hby d2_10) rfl rfl ?_
    refine XS.iloadN X6.here hx rfl (hb hby d2_11) rfl ?_
    refine X6.baloadBytes hx (j := (1 : Int32)) (v := (.int (73 : Int32))) (by rw [e6]; exact Ar8.1) (State.isArrayOf_alike hZ.alike Ar8.2.1) Ar8.2.2 hin8 (Hs8.at hin8 rfl) (g := (mkF m 12 #[rv b0_5, iv (1 : Int32)] [(.int (1 : Int32)), (.ref b0_5)])) rfl rfl (hb hby d2_12) _ ?_
    refine st9 _ ?_
    refine XS.iloadN X9.here hx rfl (hb hby d2_16) rfl ?_
    show Steps p.tables e below (T9.setTop (mkF m 17 #[rv b0_5, iv (1 : Int32)] [(.int (1 : Int32)), (.ref w_Giop_MAGIC), (.int (73 : Int32))])) _
    refine X9.baloadBytes hx (j := (1 : Int32)) (v := (.int (73 : Int32))) (by rw [e9]; exact Ar10.1) (State.isArrayOf_alike hZ.alike Ar10.2.1) Ar10.2.2 hin10 (Hs10.at hin10 rfl) (g := (mkF m 17 #[rv b0_5, iv (1 : Int32)] [(.int (1 : Int32)), (.ref w_Giop_MAGIC), (.int (73 : Int32))])) rfl rfl (hb hby d2_17) _ ?_
    refine XS.icmpYes X9.here hx rfl (pc0 := 18) (pc' := 23) rfl (hb hby d2_18) rfl (teq (by decide +kernel : (73 : Int32) = (73 : Int32))).1 (by decide) (by decide) ?_
    refine XS.iinc X9.here hx rfl (hb hby d2_23) rfl (l' := #[rv b0_5, iv ((1 : Int32) + (1 : Int32))]) rfl ?_
    show Steps p.tables e below (T9.setTop (mkF m 26 #[rv b0_5, iv ((1 : Int32) + (1 : Int32))] [])) _
    rewrite [show ((1 : Int32) + (1 : Int32)) = (2 : Int32) from by decide +kernel]
    refine XS.goto X9.here hx rfl (pc0 := 26) (pc' := 2) rfl (hb hby d2_26) (by decide) (by decide) ?_
    refine XS.iloadN X9.here hx rfl (hb hby d2_2) rfl ?_
    refine st11 _ ?_
    show Steps p.tables e below (T11.setTop (mkF m 6 #[rv b0_5, iv (2 : Int32)] [(.ref w_Giop_MAGIC), (.int (2 : Int32))])) _
    refine X11.arraylength hx (by rw [e11]; exact Ar12.1) (State.isArrayOf_alike hZ.alike Ar12.2.1) (g := (mkF m 6 #[rv b0_5, iv (2 : Int32)] [(.ref w_Giop_MAGIC), (.int (2 : Int32))])) rfl rfl (hb hby d2_6) _ ?_
    rw [len_of Sz12 Nn12]
    refine XS.icmpNo X11.here hx rfl (hb hby d2_7) rfl (tlt (by decide +kernel : (2 : Int32) < (4 : Int32))).2.1 ?_
    refine XS.aloadN X11.here hx rfl (hb hby d2_10) rfl rfl ?_
    refine XS.iloadN X11.here hx rfl (hb hby d2_11) rfl ?_
    refine X11.baloadBytes hx (j := (2 : Int32)) (v := (.int (own_pick p4 (2 : Int32) p2 (79 : Int32)))) (by rw [e11]; exact Ar13.1) (State.isArrayOf_alike hZ.alike Ar13.2.1) Ar13.2.2 hin13 (Hs13.at hin13 rfl) (g := (mkF m 12 #[rv b0_5, iv (2 : Int32)] [(.int (2 : Int32)), (.ref b0_5)])) rfl rfl (hb hby d2_12) _ ?_
    refine st14 _ ?_
    show Steps p.tables e below (T14.setTop (mkF m 16 #[rv b0_5, iv (2 : Int32)] [(.ref w_Giop_MAGIC), (.int (own_pick p4 (2 : Int32) p2 (79 : Int32)))])) _
    refine XS.iloadN X14.here hx rfl (hb hby d2_16) rfl ?_
    refine X14.baloadBytes hx (j := (2 : Int32)) (v := (.int (79 : Int32))) (by rw [e14]; exact Ar15.1) (State.isArrayOf_alike hZ.alike Ar15.2.1) Ar15.2.2 hin15 (Hs15.at hin15 rfl) (g := (mkF m 17 #[rv b0_5, iv (2 : Int32)] [(.int (2 : Int32)), (.ref w_Giop_MAGIC), (.int (own_pick p4 (2 : Int32) p2 (79 : Int32)))])) rfl rfl (hb hby d2_17) _ ?_
    refine XS.icmpNo X14.here hx rfl (hb hby d2_18) rfl (feq hm2).1 ?_
    refine XS.iconst X14.here hx rfl (hb hby d2_21) ?_
    exact retN X14 hx (t := .boolean) Bd.returns (by simp) (hb hby d2_22) hr
  · exact ⟨rfl, N0, e14⟩
set_option maxRecDepth 65536 in
set_option maxHeartbeats 40000000 in
theorem rm0_2 (l : Launch) (Z : State) (a0 : Array Value) (hw : ∀ d ∈ tables_1, d.before a0 Z = true) (ws : List Jvm.Cond) (p0 : Int32) (p1 : Int32) (p2 : Int32) (p3 : Int32) (p4 : Int32) (p5 : Int32) (w_Giop_MAGIC : Addr) (k_w_Giop_MAGIC : ClassId) (h0 : Heap) (n0 : Nat) (Z0 : n0 ≤ h0.size) (hm0 : (own_pick p4 (0 : Int32) p0 (71 : Int32)) = (71 : Int32)) (hm1 : (own_pick p4 (1 : Int32) p1 (73 : Int32)) = (73 : Int32)) (hs : (((p4.toUInt32 >>> ((4 : Int32) &&& 31).toUInt32).toInt32) &&& (1 : Int32)) = (0 : Int32)) (hm2 : ¬ ((own_pick p4 (2 : Int32) p2 (79 : Int32)) = (79 : Int32))) (S_Giop_MAGIC : Sta Z h0 "org/driftcairn/giop/Giop" "MAGIC" "[B" (.ref w_Giop_MAGIC)) (V_w_Giop_MAGIC : Arv Z h0 w_Giop_MAGIC k_w_Giop_MAGIC .byte (4 : Int32) [(.int (71 : Int32)), (.int (73 : Int32)), (.int (79 : Int32)), (.int (80 : Int32))] (.int (0 : Int32))) :
    MetFree l x (head1 (Jvm.Cond.code x code maxLocals ret :: ws) room_1) (fun a U => a = #[(.int p0), (.int p1), (.int p2), (.int p3), (.int p4), (.int p5)] ∧ Z.Warmed39 U.vm ∧ U.heap = h0) (fun _ _ _ _ _ => True) (fun _ U o U' => ∃ v L, o = .returned v ∧ own_QL n0 v U'.heap L ∧ FrameEnd U o U' L room_1.cells room_1.slots) := by
  refine MetFree.of_bodySF (plainFor_of_name pn_0) hisR ?_
  intro p e s m args below meth c s₁ Bd hml0 hP hK
  obtain ⟨rfl, hZ, hh⟩ := hP
  have hx := Bd.exec
  have hby := Bd.bytes
  have hml : c.maxLocals = 15 := hml0
  have hown : s.vm.findClass "org/driftcairn/giop/GiopHasMagicPinLaw" = some m.cls := findClass_of_methodNamed Bd.named
  have hnm := (name_of_methodNamed Bd.named Bd.method).1
  have X0 : Stand p l e room_1 s m #[(.int p0), (.int p1), (.int p2), (.int p3), (.int p4), (.int p5)] below meth c s₁ [] 0 0 := Stand.of_body Bd
  have e0 : s₁.heap = h0 := by rw [← hh, Bd.state]; rfl
  have N0 := Fr.nil n0
  have pre0 : ∀ t, Steps p.tables e below (s₁.setTop (mkF m 0 #[iv p0, iv p1, iv p2, iv p3, iv p4, iv p5, .unset, .unset, .unset, .unset, .unset, .unset, .unset, .unset, .unset] [])) t → Steps p.tables e below (s₁.setTop (entryFrame m #[(.int p0), (.int p1), (.int p2), (.int p3), (.int p4), (.int p5)] maxLocals)) t := fun t k => castTop (ef_0_IIIIII m p0 p1 p2 p3 p4 p5) k
  obtain ⟨_, _, ⟨T1, L1, k1, n1⟩, -, X1, ⟨Lc1, hQ1, l1, y1, z1⟩, st1⟩ := Jvm.LawKit.callS X0 hx (y := (⟨"org/driftcairn/giop/GiopHasMagicPinLaw", "pick", "(IIIC)B"⟩ : MethodName)) hown (mvT hZ (hw _ (List.mem_of_getElem? (i := 0) rfl))) (mvT hZ (hw _ (List.mem_of_getElem? (i := 1) rfl))) (mvT hZ (hw _ (List.mem_of_getElem? (i := 2) rfl))) (mvT hZ (hw _ (List.mem_of_getElem? (i := 3) rfl))) (by decide) (backOf (W := 0) (rk_pick l Z a0 hw [] p4 (0 : Int32) p0 (71 : Int32) h0 n0 Z0 ) hZ (hw _ (List.mem_of_getElem? (i := 3) rfl)) (hw _ (List.mem_of_getElem? (i := 2) rfl)) (by decide) (by decide)) (g := (mkF m 6 #[iv p0, iv p1, iv p2, iv p3, iv p4, iv p5, .unset, .unset, .unset, .unset, .unset, .unset, .unset, .unset, .unset] [(.int (71 : Int32)), (.int p0), (.int (0 : Int32)), (.int p4)])) rfl (by rw [hml]; rfl) (argsL := [(.int p4), (.int (0 : Int32)), (.int p0), (.int (71 : Int32))]) (rest := []) (lenOf pd_0 rfl) rfl (by show 2 * 0 + _ ≤ _; exact Nat.le_of_eq rfl) (hb hby at_6) (fun _ _ => ⟨rfl, e0, (by decide : 0 + 0 ≤ _), (by decide : 0 + 0 ≤ _)⟩)
  dsimp only [Pt.U, Pt.locs, Pt.cells, Pt.slots] at X1 l1 y1 z1 st1 hQ1
  subst l1 y1 z1
  obtain ⟨rfl, N1q, e1⟩ := hQ1
  have N1 := Fr.app N0 N1q
  obtain ⟨_, _, ⟨T2, L2, k2, n2⟩, -, X2, ⟨Lc2, hQ2, l2, y2, z2⟩, st2⟩ := Jvm.LawKit.callS X1 hx (y := (⟨"org/driftcairn/giop/GiopHasMagicPinLaw", "pick", "(IIIC)B"⟩ : MethodName)) hown (mvT hZ (hw _ (List.mem_of_getElem? (i := 0) rfl))) (mvT hZ (hw _ (List.mem_of_getElem? (i := 1) rfl))) (mvT hZ (hw _ (List.mem_of_getElem? (i := 2) rfl))) (mvT hZ (hw _ (List.mem_of_getElem? (i := 3) rfl))) (by decide) (backOf (W := 0) (rk_pick l Z a0 hw [] p4 (1 : Int32) p1 (73 : Int32) h0 n0 Z0 ) hZ (hw _ (List.mem_of_getElem? (i := 3) rfl)) (hw _ (List.mem_of_getElem? (i := 2) rfl)) (by decide) (by decide)) (g := (mkF m 17 #[iv p0, iv p1, iv p2, iv p3, iv p4, iv p5, iv (71 : Int32), .unset, .unset, .unset, .unset, .unset, .unset, .unset, .unset] [(.int (73 : Int32)), (.int p1), (.int (1 : Int32)), (.int p4)])) rfl (by rw [hml]; rfl) (argsL := [(.int p4), (.int (1 : Int32)), (.int p1), (.int (73 : Int32))]) (rest := []) (lenOf pd_0 rfl) rfl (by show 2 * 0 + _ ≤ _; exact Nat.le_of_eq rfl) (hb hby at_17) (fun _ _ => ⟨rfl, e1, (by decide : 0 + 0 ≤ _), (by decide : 0 + 0 ≤ _)⟩)
  dsimp only [Pt.U, Pt.locs, Pt.cells, Pt.slots] at X2 l2 y2 z2 st2 hQ2
  subst l2 y2 z2
  obtain ⟨rfl, N2q, e2⟩ := hQ2
  have N2 := Fr.app N1 N2q
  obtain ⟨_, _, ⟨T3, L3, k3, n3⟩, -, X3, ⟨Lc3, hQ3, l3, y3, z3⟩, st3⟩ := Jvm.LawKit.callS X2 hx (y := (⟨"org/driftcairn/giop/GiopHasMagicPinLaw", "pick", "(IIIC)B"⟩ : MethodName)) hown (mvT hZ (hw _ (List.mem_of_getElem? (i := 0) rfl))) (mvT hZ (hw _ (List.mem_of_getElem? (i := 1) rfl))) (mvT hZ (hw _ (List.mem_of_getElem? (i := 2) rfl))) (mvT hZ (hw _ (List.mem_of_getElem? (i := 3) rfl))) (by decide) (backOf (W := 0) (rk_pick l Z a0 hw [] p4 (2 : Int32) p2 (79 : Int32) h0 n0 Z0 ) hZ (hw _ (List.mem_of_getElem? (i := 3) rfl)) (hw _ (List.mem_of_getElem? (i := 2) rfl)) (by decide) (by decide)) (g := (mkF m 28 #[iv p0, iv p1, iv p2, iv p3, iv p4, iv p5, iv (71 : Int32), iv (73 : Int32), .unset, .unset, .unset, .unset, .unset, .unset, .unset] [(.int (79 : Int32)), (.int p2), (.int (2 : Int32)), (.int p4)])) rfl (by rw [hml]; rfl) (argsL := [(.int p4), (.int (2 : Int32)), (.int p2), (.int (79 : Int32))]) (rest := []) (lenOf pd_0 rfl) rfl (by show 2 * 0 + _ ≤ _; exact Nat.le_of_eq rfl) (hb hby at_28) (fun _ _ => ⟨rfl, e2, (by decide : 0 + 0 ≤ _), (by decide : 0 + 0 ≤ _)⟩)
  dsimp only [Pt.U, Pt.locs, Pt.cells, Pt.slots] at X3 l3 y3 z3 st3 hQ3
  subst l3 y3 z3
  obtain ⟨rfl, N3q, e3⟩ := hQ3
  have N3 := Fr.app N2 N3q
  obtain ⟨_, _, ⟨T4, L4, k4, n4⟩, -, X4, ⟨Lc4, hQ4, l4, y4, z4⟩, st4⟩ := Jvm.LawKit.callS X3 hx (y := (⟨"org/driftcairn/giop/GiopHasMagicPinLaw", "pick", "(IIIC)B"⟩ : MethodName)) hown (mvT hZ (hw _ (List.mem_of_getElem? (i := 0) rfl))) (mvT hZ (hw _ (List.mem_of_getElem? (i := 1) rfl))) (mvT hZ (hw _ (List.mem_of_getElem? (i := 2) rfl))) (mvT hZ (hw _ (List.mem_of_getElem? (i := 3) rfl))) (by decide) (backOf (W := 0) (rk_pick l Z a0 hw [] p4 (3 : Int32) p3 (80 : Int32) h0 n0 Z0 ) hZ (hw _ (List.mem_of_getElem? (i := 3) rfl)) (hw _ (List.mem_of_getElem? (i := 2) rfl)) (by decide) (by decide)) (g := (mkF m 39 #[iv p0, iv p1, iv p2, iv p3, iv p4, iv p5, iv (71 : Int32), iv (73 : Int32), iv (own_pick p4 (2 : Int32) p2 (79 : Int32)), .unset, .unset, .unset, .unset, .unset, .unset] [(.int (80 : Int32)), (.int p3), (.int (3 : Int32)), (.int p4)])) rfl (by rw [hml]; rfl) (argsL := [(.int p4), (.int (3 : Int32)), (.int p3), (.int (80 : Int32))]) (rest := []) (lenOf pd_0 rfl) rfl (by show 2 * 0 + _ ≤ _; exact Nat.le_of_eq rfl) (hb hby at_39) (fun _ _ => ⟨rfl, e3, (by decide : 0 + 0 ≤ _), (by decide : 0 + 0 ≤ _)⟩)
  dsimp only [Pt.U, Pt.locs, Pt.cells, Pt.slots] at X4 l4 y4 z4 st4 hQ4
  subst l4 y4 z4
  obtain ⟨rfl, N4q, e4⟩ := hQ4
  have N4 := Fr.app N3 N4q
  obtain ⟨T5, h5, k0_5, X5, e5, E5, A5, st5⟩ := newP X4 hx hZ (hw _ (List.mem_of_getElem? (i := 4) rfl)) e4 (g := (mkF m 73 #[iv p0, iv p1, iv p2, iv p3, iv p4, iv p5, iv (71 : Int32), iv (73 : Int32), iv (own_pick p4 (2 : Int32) p2 (79 : Int32)), iv (own_pick p4 (3 : Int32) p3 (80 : Int32)), iv (0 : Int32), .unset, .unset, .unset, .unset] [(.int (8 : Int32))])) rfl (hb hby at_73) rfl (by decide) (cap := 8) (by decide) (by decide) (by decide) (by decide)
  obtain ⟨b0_5, gg5⟩ : ∃ z, z = h0.size := ⟨_, rfl⟩
  rw [← gg5] at A5 st5
  have g_b0_5 : n0 ≤ b0_5 := Nat.le_trans Z0 (Nat.le_of_eq gg5.symm)
  have sz_b0_5 : h0.size ≤ b0_5 := Nat.le_trans (Keep.refl h0 []).1 (Nat.le_of_eq gg5.symm)
  have Z5 : n0 ≤ h5.size := Nat.le_trans Z0 E5.1
  have KK5 : Keep h0 h5 [] := (Keep.refl h0 []).ext E5
  have V_b0_5 : Arv Z h5 b0_5 k0_5 .byte (8 : Int32) [(.int (0 : Int32)), (.int (0 : Int32)), (.int (0 : Int32)), (.int (0 : Int32)), (.int (0 : Int32)), (.int (0 : Int32)), (.int (0 : Int32)), (.int (0 : Int32))] (.int (0 : Int32)) := (Arv.new A5 (by decide)).pad (pad_rep [] (.int (0 : Int32)) 8)
  obtain ⟨cl6, Ar6, qq6, Sz6, Nn6, Hs6, Gs6⟩ := id V_b0_5
  have hin6 : ¬ ((0 : Int32) < 0 ∨ cl6.slots.size ≤ ((0 : Int32)).toNatClampNeg) := inb_of Sz6 ⟨by decide, by decide⟩
  obtain ⟨T7, h7, X7, e7, W7, st7⟩ := stB X5 hx hZ e5 Ar6 (j := (0 : Int32)) hin6 (g := (mkF m 82 #[iv p0, iv p1, iv p2, iv p3, iv p4, iv p5, iv (71 : Int32), iv (73 : Int32), iv (own_pick p4 (2 : Int32) p2 (79 : Int32)), iv (own_pick p4 (3 : Int32) p3 (80 : Int32)), iv (0 : Int32), rv b0_5, .unset, .unset, .unset] [(.int (71 : Int32)), (.int (0 : Int32)), (.ref b0_5)])) rfl rfl (hb hby at_82)
  have va7 := Arv.set Ar6 qq6 Sz6 Nn6 Hs6 Gs6 (fits_nar_byte _) W7 0 rfl (Nat.le_of_ble_eq_true rfl)
  have vb7 : Arv Z h7 b0_5 k0_5 .byte (8 : Int32) [(.int (71 : Int32)), (.int (0 : Int32)), (.int (0 : Int32)), (.int (0 : Int32)), (.int (0 : Int32)), (.int (0 : Int32)), (.int (0 : Int32)), (.int (0 : Int32))] (.int (0 : Int32)) := va7
  have Z7 : n0 ≤ h7.size := Nat.le_trans Z5 (Keep.of_wr W7).1
  have KK7 : Keep h0 h7 [] := KK5.wr W7 (Or.inr sz_b0_5)
  have N7 := Fr.snoc X7 N4 g_b0_5
  obtain ⟨cl8, Ar8, qq8, Sz8, Nn8, Hs8, Gs8⟩ := id vb7
  have hin8 : ¬ ((1 : Int32) < 0 ∨ cl8.slots.size ≤ ((1 : Int32)).toNatClampNeg) := inb_of Sz8 ⟨by decide, by decide⟩
  obtain ⟨T9, h9, X9, e9, W9, st9⟩ := stB X7 hx hZ e7 Ar8 (j := (1 : Int32)) hin8 (g := (mkF m 88 #[iv p0, iv p1, iv p2, iv p3, iv p4, iv p5, iv (71 : Int32), iv (73 : Int32), iv (own_pick p4 (2 : Int32) p2 (79 : Int32)), iv (own_pick p4 (3 : Int32) p3 (80 : Int32)), iv (0 : Int32), rv b0_5, .unset, .unset, .unset] [(.int (73 : Int32)), (.int (1 : Int32)), (.ref b0_5)])) rfl rfl (hb hby at_88)
  have va9 := Arv.set Ar8 qq8 Sz8 Nn8 Hs8 Gs8 (fits_nar_byte _) W9 1 rfl (Nat.le_of_ble_eq_true rfl)
  have vb9 : Arv Z h9 b0_5 k0_5 .byte (8 : Int32) [(.int (71 : Int32)), (.int (73 : Int32)), (.int (0 : Int32)), (.int (0 : Int32)), (.int (0 : Int32)), (.int (0 : Int32)), (.int (0 : Int32)), (.int (0 : Int32))] (.int (0 : Int32)) := va9
  have Z9 : n0 ≤ h9.size := Nat.le_trans Z7 (Keep.of_wr W9).1
  have KK9 : Keep h0 h9 [] := KK7.wr W9 (Or.inr sz_b0_5)
  have N9 := Fr.snoc X9 N7 g_b0_5
  obtain ⟨cl10, Ar10, qq10, Sz10, Nn10, Hs10, Gs10⟩ := id vb9
  have hin10 : ¬ ((2 : Int32) < 0 ∨ cl10.slots.size ≤ ((2 : Int32)).toNatClampNeg) := inb_of Sz10 ⟨by decide, by decide⟩
  obtain ⟨T11, h11, X11, e11, W11, st11⟩ := stB X9 hx hZ e9 Ar10 (j := (2 : Int32)) hin10 (g := (mkF m 94 #[iv p0, iv p1, iv p2, iv p3, iv p4, iv p5, iv (71 : Int32), iv (73 : Int32), iv (own_pick p4 (2 : Int32) p2 (79 : Int32)), iv (own_pick p4 (3 : Int32) p3 (80 : Int32)), iv (0 : Int32), rv b0_5, .unset, .unset, .unset] [(.int (own_pick p4 (2 : Int32) p2 (79 : Int32))), (.int (2 : Int32)), (.ref b0_5)])) rfl rfl (hb hby at_94)
  have va11 := Arv.set Ar10 qq10 Sz10 Nn10 Hs10 Gs10 (fits_nar_byte _) W11 2 rfl (Nat.le_of_ble_eq_true rfl)
  have vb11 : Arv Z h11 b0_5 k0_5 .byte (8 : Int32) [(.int (71 : Int32)), (.int (73 : Int32)), (.int (own_pick p4 (2 : Int32) p2 (79 : Int32))), (.int (0 : Int32)), (.int (0 : Int32)), (.int (0 : Int32)), (.int (0 : Int32)), (.int (0 : Int32))] (.int (0 : Int32)) := by have t := va11; have q : ((own_pick p4 (2 : Int32) p2 (79 : Int32))).toInt8.toInt32 = (own_pick p4 (2 : Int32) p2 (79 : Int32)) := (own_pick_b _ _ _ _); rw [q] at t; exact t
  have Z11 : n0 ≤ h11.size := Nat.le_trans Z9 (Keep.of_wr W11).1
  have KK11 : Keep h0 h11 [] := KK9.wr W11 (Or.inr sz_b0_5)
  have N11 := Fr.snoc X11 N9 g_b0_5
  obtain ⟨cl12, Ar12, qq12, Sz12, Nn12, Hs12, Gs12⟩ := id vb11
  have hin12 : ¬ ((3 : Int32) < 0 ∨ cl12.slots.size ≤ ((3 : Int32)).toNatClampNeg) := inb_of Sz12 ⟨by decide, by decide⟩
  obtain ⟨T13, h13, X13, e13, W13, st13⟩ := stB X11 hx hZ e11 Ar12 (j := (3 : Int32)) hin12 (g := (mkF m 100 #[iv p0, iv p1, iv p2, iv p3, iv p4, iv p5, iv (71 : Int32), iv (73 : Int32), iv (own_pick p4 (2 : Int32) p2 (79 : Int32)), iv (own_pick p4 (3 : Int32) p3 (80 : Int32)), iv (0 : Int32), rv b0_5, .unset, .unset, .unset] [(.int (own_pick p4 (3 : Int32) p3 (80 : Int32))), (.int (3 : Int32)), (.ref b0_5)])) rfl rfl (hb hby at_100)
  have va13 := Arv.set Ar12 qq12 Sz12 Nn12 Hs12 Gs12 (fits_nar_byte _) W13 3 rfl (Nat.le_of_ble_eq_true rfl)
  have vb13 : Arv Z h13 b0_5 k0_5 .byte (8 : Int32) [(.int (71 : Int32)), (.int (73 : Int32)), (.int (own_pick p4 (2 : Int32) p2 (79 : Int32))), (.int (own_pick p4 (3 : Int32) p3 (80 : Int32))), (.int (0 : Int32)), (.int (0 : Int32)), (.int (0 : Int32)), (.int (0 : Int32))] (.int (0 : Int32)) := by have t := va13; have q : ((own_pick p4 (3 : Int32) p3 (80 : Int32))).toInt8.toInt32 = (own_pick p4 (3 : Int32) p3 (80 : Int32)) := (own_pick_b _ _ _ _); rw [q] at t; exact t
  have Z13 : n0 ≤ h13.size := Nat.le_trans Z11 (Keep.of_wr W13).1
  have KK13 : Keep h0 h13 [] := KK11.wr W13 (Or.inr sz_b0_5)
  have N13 := Fr.snoc X13 N11 g_b0_5
  obtain ⟨cl14, Ar14, qq14, Sz14, Nn14, Hs14, Gs14⟩ := id vb13
  have hin14 : ¬ ((4 : Int32) < 0 ∨ cl14.slots.size ≤ ((4 : Int32)).toNatClampNeg) := inb_of Sz14 ⟨by decide, by decide⟩
  obtain ⟨T15, h15, X15, e15, W15, st15⟩ := stB X13 hx hZ e13 Ar14 (j := (4 : Int32)) hin14 (g := (mkF m 112 #[iv p0, iv p1, iv p2, iv p3, iv p4, iv p5, iv (71 : Int32), iv (73 : Int32), iv (own_pick p4 (2 : Int32) p2 (79 : Int32)), iv (own_pick p4 (3 : Int32) p3 (80 : Int32)), iv (0 : Int32), rv b0_5, .unset, .unset, .unset] [(.int (p5.toInt8.toInt32)), (.int (4 : Int32)), (.ref b0_5)])) rfl rfl (hb hby at_112)
  have va15 := Arv.set Ar14 qq14 Sz14 Nn14 Hs14 Gs14 (fits_nar_byte _) W15 4 rfl (Nat.le_of_ble_eq_true rfl)
  have vb15 : Arv Z h15 b0_5 k0_5 .byte (8 : Int32) [(.int (71 : Int32)), (.int (73 : Int32)), (.int (own_pick p4 (2 : Int32) p2 (79 : Int32))), (.int (own_pick p4 (3 : Int32) p3 (80 : Int32))), (.int (p5.toInt8.toInt32)), (.int (0 : Int32)), (.int (0 : Int32)), (.int (0 : Int32))] (.int (0 : Int32)) := by have t := va15; have q : ((p5.toInt8.toInt32)).toInt8.toInt32 = (p5.toInt8.toInt32) := (own_b8 _); rw [q] at t; exact t
  have Z15 : n0 ≤ h15.size := Nat.le_trans Z13 (Keep.of_wr W15).1
  have KK15 : Keep h0 h15 [] := KK13.wr W15 (Or.inr sz_b0_5)
  have N15 := Fr.snoc X15 N13 g_b0_5
  obtain ⟨cl16, Ar16, qq16, Sz16, Nn16, Hs16, Gs16⟩ := id vb15
  have hin16 : ¬ ((5 : Int32) < 0 ∨ cl16.slots.size ≤ ((5 : Int32)).toNatClampNeg) := inb_of Sz16 ⟨by decide, by decide⟩
  obtain ⟨T17, h17, X17, e17, W17, st17⟩ := stB X15 hx hZ e15 Ar16 (j := (5 : Int32)) hin16 (g := (mkF m 122 #[iv p0, iv p1, iv p2, iv p3, iv p4, iv p5, iv (71 : Int32), iv (73 : Int32), iv (own_pick p4 (2 : Int32) p2 (79 : Int32)), iv (own_pick p4 (3 : Int32) p3 (80 : Int32)), iv (0 : Int32), rv b0_5, .unset, .unset, .unset] [(.int (((p5.toUInt32 >>> ((8 : Int32) &&& 31).toUInt32).toInt32).toInt8.toInt32)), (.int (5 : Int32)), (.ref b0_5)])) rfl rfl (hb hby at_122)
  have va17 := Arv.set Ar16 qq16 Sz16 Nn16 Hs16 Gs16 (fits_nar_byte _) W17 5 rfl (Nat.le_of_ble_eq_true rfl)
  have vb17 : Arv Z h17 b0_5 k0_5 .byte (8 : Int32) [(.int (71 : Int32)), (.int (73 : Int32)), (.int (own_pick p4 (2 : Int32) p2 (79 : Int32))), (.int (own_pick p4 (3 : Int32) p3 (80 : Int32))), (.int (p5.toInt8.toInt32)), (.int (((p5.toUInt32 >>> ((8 : Int32) &&& 31).toUInt32).toInt32).toInt8.toInt32)), (.int (0 : Int32)), (.int (0 : Int32))] (.int (0 : Int32)) := by have t := va17; have q : ((((p5.toUInt32 >>> ((8 : Int32) &&& 31).toUInt32).toInt32).toInt8.toInt32)).toInt8.toInt32 = (((p5.toUInt32 >>> ((8 : Int32) &&& 31).toUInt32).toInt32).toInt8.toInt32) := (own_b8 _); rw [q] at t; exact t
  have Z17 : n0 ≤ h17.size := Nat.le_trans Z15 (Keep.of_wr W17).1
  have KK17 : Keep h0 h17 [] := KK15.wr W17 (Or.inr sz_b0_5)
  have N17 := Fr.snoc X17 N15 g_b0_5
  obtain ⟨cl18, Ar18, qq18, Sz18, Nn18, Hs18, Gs18⟩ := id vb17
  have hin18 : ¬ ((6 : Int32) < 0 ∨ cl18.slots.size ≤ ((6 : Int32)).toNatClampNeg) := inb_of Sz18 ⟨by decide, by decide⟩
  obtain ⟨T19, h19, X19, e19, W19, st19⟩ := stB X17 hx hZ e17 Ar18 (j := (6 : Int32)) hin18 (g := (mkF m 133 #[iv p0, iv p1, iv p2, iv p3, iv p4, iv p5, iv (71 : Int32), iv (73 : Int32), iv (own_pick p4 (2 : Int32) p2 (79 : Int32)), iv (own_pick p4 (3 : Int32) p3 (80 : Int32)), iv (0 : Int32), rv b0_5, .unset, .unset, .unset] [(.int (((p5.toUInt32 >>> ((16 : Int32) &&& 31).toUInt32).toInt32).toInt8.toInt32)), (.int (6 : Int32)), (.ref b0_5)])) rfl rfl (hb hby at_133)
  have va19 := Arv.set Ar18 qq18 Sz18 Nn18 Hs18 Gs18 (fits_nar_byte _) W19 6 rfl (Nat.le_of_ble_eq_true rfl)
  have vb19 : Arv Z h19 b0_5 k0_5 .byte (8 : Int32) [(.int (71 : Int32)), (.int (73 : Int32)), (.int (own_pick p4 (2 : Int32) p2 (79 : Int32))), (.int (own_pick p4 (3 : Int32) p3 (80 : Int32))), (.int (p5.toInt8.toInt32)), (.int (((p5.toUInt32 >>> ((8 : Int32) &&& 31).toUInt32).toInt32).toInt8.toInt32)), (.int (((p5.toUInt32 >>> ((16 : Int32) &&& 31).toUInt32).toInt32).toInt8.toInt32)), (.int (0 : Int32))] (.int (0 : Int32)) := by have t := va19; have q : ((((p5.toUInt32 >>> ((16 : Int32) &&& 31).toUInt32).toInt32).toInt8.toInt32)).toInt8.toInt32 = (((p5.toUInt32 >>> ((16 : Int32) &&& 31).toUInt32).toInt32).toInt8.toInt32) := (own_b8 _); rw [q] at t; exact t
  have Z19 : n0 ≤ h19.size := Nat.le_trans Z17 (Keep.of_wr W19).1
  have KK19 : Keep h0 h19 [] := KK17.wr W19 (Or.inr sz_b0_5)
  have N19 := Fr.snoc X19 N17 g_b0_5
  obtain ⟨cl20, Ar20, qq20, Sz20, Nn20, Hs20, Gs20⟩ := id vb19
  have hin20 : ¬ ((7 : Int32) < 0 ∨ cl20.slots.size ≤ ((7 : Int32)).toNatClampNeg) := inb_of Sz20 ⟨by decide, by decide⟩
  obtain ⟨T21, h21, X21, e21, W21, st21⟩ := stB X19 hx hZ e19 Ar20 (j := (7 : Int32)) hin20 (g := (mkF m 144 #[iv p0, iv p1, iv p2, iv p3, iv p4, iv p5, iv (71 : Int32), iv (73 : Int32), iv (own_pick p4 (2 : Int32) p2 (79 : Int32)), iv (own_pick p4 (3 : Int32) p3 (80 : Int32)), iv (0 : Int32), rv b0_5, .unset, .unset, .unset] [(.int (((p5.toUInt32 >>> ((24 : Int32) &&& 31).toUInt32).toInt32).toInt8.toInt32)), (.int (7 : Int32)), (.ref b0_5)])) rfl rfl (hb hby at_144)
  have va21 := Arv.set Ar20 qq20 Sz20 Nn20 Hs20 Gs20 (fits_nar_byte _) W21 7 rfl (Nat.le_of_ble_eq_true rfl)
  have vb21 : Arv Z h21 b0_5 k0_5 .byte (8 : Int32) [(.int (71 : Int32)), (.int (73 : Int32)), (.int (own_pick p4 (2 : Int32) p2 (79 : Int32))), (.int (own_pick p4 (3 : Int32) p3 (80 : Int32))), (.int (p5.toInt8.toInt32)), (.int (((p5.toUInt32 >>> ((8 : Int32) &&& 31).toUInt32).toInt32).toInt8.toInt32)), (.int (((p5.toUInt32 >>> ((16 : Int32) &&& 31).toUInt32).toInt32).toInt8.toInt32)), (.int (((p5.toUInt32 >>> ((24 : Int32) &&& 31).toUInt32).toInt32).toInt8.toInt32))] (.int (0 : Int32)) := by have t := va21; have q : ((((p5.toUInt32 >>> ((24 : Int32) &&& 31).toUInt32).toInt32).toInt8.toInt32)).toInt8.toInt32 = (((p5.toUInt32 >>> ((24 : Int32) &&& 31).toUInt32).toInt32).toInt8.toInt32) := (own_b8 _); rw [q] at t; exact t
  have Z21 : n0 ≤ h21.size := Nat.le_trans Z19 (Keep.of_wr W21).1
  have KK21 : Keep h0 h21 [] := KK19.wr W21 (Or.inr sz_b0_5)
  have N21 := Fr.snoc X21 N19 g_b0_5
  have c23 := (((((((((S_Giop_MAGIC.ext E5).wr W7).wr W9).wr W11).wr W13).wr W15).wr W17).wr W19).wr W21)
  have ne_b0_5_w_Giop_MAGIC_24 : ¬ (b0_5 = w_Giop_MAGIC) := (Ne.symm (Nat.ne_of_lt (Nat.lt_of_lt_of_le (V_w_Giop_MAGIC).lt (Nat.le_of_eq gg5.symm))))
  have c25 := (((((((((V_w_Giop_MAGIC.ext E5).other W7 (Ne.symm ne_b0_5_w_Giop_MAGIC_24)).other W9 (Ne.symm ne_b0_5_w_Giop_MAGIC_24)).other W11 (Ne.symm ne_b0_5_w_Giop_MAGIC_24)).other W13 (Ne.symm ne_b0_5_w_Giop_MAGIC_24)).other W15 (Ne.symm ne_b0_5_w_Giop_MAGIC_24)).other W17 (Ne.symm ne_b0_5_w_Giop_MAGIC_24)).other W19 (Ne.symm ne_b0_5_w_Giop_MAGIC_24)).other W21 (Ne.symm ne_b0_5_w_Giop_MAGIC_24))
  obtain ⟨_, _, ⟨T22, L22, k22, n22⟩, -, X22, ⟨Lc22, hQ22, l22, y22, z22⟩, st22⟩ := Jvm.LawKit.callS X21 hx (y := (⟨"org/driftcairn/giop/Giop", "hasMagic", "([B)Z"⟩ : MethodName)) hown (mvT hZ (hw _ (List.mem_of_getElem? (i := 5) rfl))) (mvT hZ (hw _ (List.mem_of_getElem? (i := 6) rfl))) (mvT hZ (hw _ (List.mem_of_getElem? (i := 7) rfl))) (mvT hZ (hw _ (List.mem_of_getElem? (i := 8) rfl))) (by decide) (backOf (W := 0) (rm2_2 l Z a0 hw [] p2 p3 p4 p5 w_Giop_MAGIC k_w_Giop_MAGIC b0_5 k0_5 h21 n0 Z21 c23 c25 vb21 hm2) hZ (hw _ (List.mem_of_getElem? (i := 8) rfl)) (hw _ (List.mem_of_getElem? (i := 7) rfl)) (by decide) (by decide)) (g := (mkF m 182 #[iv p0, iv p1, iv p2, iv p3, iv p4, iv p5, iv (71 : Int32), iv (73 : Int32), iv (own_pick p4 (2 : Int32) p2 (79 : Int32)), iv (own_pick p4 (3 : Int32) p3 (80 : Int32)), iv (0 : Int32), rv b0_5, iv (0 : Int32), .unset, .unset] [(.ref b0_5)])) rfl (by rw [hml]; rfl) (argsL := [(.ref b0_5)]) (rest := []) (lenOf pd_1 rfl) rfl (by show 2 * 0 + _ ≤ _; exact Nat.le_of_eq rfl) (hb hby at_182) (fun _ _ => ⟨rfl, e21, (by decide : 1 + 0 ≤ _), (by decide : 8 + 0 ≤ _)⟩)
  dsimp only [Pt.U, Pt.locs, Pt.cells, Pt.slots] at X22 l22 y22 z22 st22 hQ22
  subst l22 y22 z22
  obtain ⟨rfl, N22q, e22⟩ := hQ22
  have N22 := Fr.app N21 N22q
  obtain ⟨cl26, Ar26, -, Sz26, Nn26, Hs26, Gs26⟩ := id vb21
  have hin26 : ¬ ((0 : Int32) < 0 ∨ cl26.slots.size ≤ ((0 : Int32)).toNatClampNeg) := inb_of Sz26 ⟨by decide, by decide⟩
  obtain ⟨cl27, Ar27, -, Sz27, Nn27, Hs27, Gs27⟩ := id vb21
  have hin27 : ¬ ((1 : Int32) < 0 ∨ cl27.slots.size ≤ ((1 : Int32)).toNatClampNeg) := inb_of Sz27 ⟨by decide, by decide⟩
  obtain ⟨cl28, Ar28, -, Sz28, Nn28, Hs28, Gs28⟩ := id vb21
  have hin28 : ¬ ((2 : Int32) < 0 ∨ cl28.slots.size ≤ ((2 : Int32)).toNatClampNeg) := inb_of Sz28 ⟨by decide, by decide⟩
  obtain ⟨cl29, Ar29, -, Sz29, Nn29, Hs29, Gs29⟩ := id vb21
  have hin29 : ¬ ((3 : Int32) < 0 ∨ cl29.slots.size ≤ ((3 : Int32)).toNatClampNeg) := inb_of Sz29 ⟨by decide, by decide⟩
  obtain ⟨fs, hr, hrun, hended, hW, hsame⟩ := X22.leave (v := (some (.int (1 : Int32)))) (fun h => by rw [Bd.returns] at h; cases h)
  refine ⟨_, _, pre0 _ ?_, hrun, hended, _, _, rfl, ?_, ⟨_, rfl⟩, hW, hsame.mono (by decide) (by decide)⟩
  · show Steps p.tables e below (s₁.setTop (mkF m 0 #[iv p0, iv p1, iv p2, iv p3, iv p4, iv p5, .unset, .unset, .unset, .unset, .unset, .unset, .unset, .unset, .unset] [])) _
    refine XS.iload X0.here hx rfl (hb hby at_0) rfl ?_
    refine XS.iconst X0.here hx rfl (hb hby at_2) ?_
    refine XS.iloadN X0.here hx rfl (hb hby at_3) rfl ?_
    refine XS.bipush X0.here hx rfl (hb hby at_4) ?_
    refine st1 _ ?_
    show Steps p.tables e below (T1.setTop (mkF m 9 #[iv p0, iv p1, iv p2, iv p3, iv p4, iv p5, .unset, .unset, .unset, .unset, .unset, .unset, .unset, .unset, .unset] [(.int (own_pick p4 (0 : Int32) p0 (71 : Int32)))])) _
    rewrite [hm0]
    refine XS.istore X1.here hx rfl (hb hby at_9) rfl (l' := #[iv p0, iv p1, iv p2, iv p3, iv p4, iv p5, iv (71 : Int32), .unset, .unset, .unset, .unset, .unset, .unset, .unset, .unset]) rfl ?_
    show Steps p.tables e below (T1.setTop (mkF m 11 #[iv p0, iv p1, iv p2, iv p3, iv p4, iv p5, iv (71 : Int32), .unset, .unset, .unset, .unset, .unset, .unset, .unset, .unset] [])) _
    refine XS.iload X1.here hx rfl (hb hby at_11) rfl ?_
    refine XS.iconst X1.here hx rfl (hb hby at_13) ?_
    refine XS.iloadN X1.here hx rfl (hb hby at_14) rfl ?_
    refine XS.bipush X1.here hx rfl (hb hby at_15) ?_
    refine st2 _ ?_
    show Steps p.tables e below (T2.setTop (mkF m 20 #[iv p0, iv p1, iv p2, iv p3, iv p4, iv p5, iv (71 : Int32), .unset, .unset, .unset, .unset, .unset, .unset, .unset, .unset] [(.int (own_pick p4 (1 : Int32) p1 (73 : Int32)))])) _
    rewrite [hm1]
    refine XS.istore X2.here hx rfl (hb hby at_20) rfl (l' := #[iv p0, iv p1, iv p2, iv p3, iv p4, iv p5, iv (71 : Int32), iv (73 : Int32), .unset, .unset, .unset, .unset, .unset, .unset, .unset]) rfl ?_
    show Steps p.tables e below (T2.setTop (mkF m 22 #[iv p0, iv p1, iv p2, iv p3, iv p4, iv p5, iv (71 : Int32), iv (73 : Int32), .unset, .unset, .unset, .unset, .unset, .unset, .unset] [])) _
    refine XS.iload X2.here hx rfl (hb hby at_22) rfl ?_
    refine XS.iconst X2.here hx rfl (hb hby at_24) ?_
    refine XS.iloadN X2.here hx rfl (hb hby at_25) rfl ?_
    refine XS.bipush X2.here hx rfl (hb hby at_26) ?_
    refine st3 _ ?_
    refine XS.istore X3.here hx rfl (hb hby at_31) rfl (l' := #[iv p0, iv p1, iv p2, iv p3, iv p4, iv p5, iv (71 : Int32), iv (73 : Int32), iv (own_pick p4 (2 : Int32) p2 (79 : Int32)), .unset, .unset, .unset, .unset, .unset, .unset]) rfl ?_
    show Steps p.tables e below (T3.setTop (mkF m 33 #[iv p0, iv p1, iv p2, iv p3, iv p4, iv p5, iv (71 : Int32), iv (73 : Int32), iv (own_pick p4 (2 : Int32) p2 (79 : Int32)), .unset, .unset, .unset, .unset, .unset, .unset] [])) _
    refine XS.iload X3.here hx rfl (hb hby at_33) rfl ?_
    refine XS.iconst X3.here hx rfl (hb hby at_35) ?_
    refine XS.iloadN X3.here hx rfl (hb hby at_36) rfl ?_
    refine XS.bipush X3.here hx rfl (hb hby at_37) ?_
    refine st4 _ ?_
    refine XS.istore X4.here hx rfl (hb hby at_42) rfl (l' := #[iv p0, iv p1, iv p2, iv p3, iv p4, iv p5, iv (71 : Int32), iv (73 : Int32), iv (own_pick p4 (2 : Int32) p2 (79 : Int32)), iv (own_pick p4 (3 : Int32) p3 (80 : Int32)), .unset, .unset, .unset, .unset, .unset]) rfl ?_
    show Steps p.tables e below (T4.setTop (mkF m 44 #[iv p0, iv p1, iv p2, iv p3, iv p4, iv p5, iv (71 : Int32), iv (73 : Int32), iv (own_pick p4 (2 : Int32) p2 (79 : Int32)), iv (own_pick p4 (3 : Int32) p3 (80 : Int32)), .unset, .unset, .unset, .unset, .unset] [])) _
    refine XS.iload X4.here hx rfl (hb hby at_44) rfl ?_
    refine XS.iconst X4.here hx rfl (hb hby at_46) ?_
    refine XS.iushr X4.here hx rfl (hb hby at_47) rfl ?_
    refine XS.iconst X4.here hx rfl (hb hby at_48) ?_
    refine XS.iand X4.here hx rfl (hb hby at_49) rfl ?_
    show Steps p.tables e below (T4.setTop (mkF m 50 #[iv p0, iv p1, iv p2, iv p3, iv p4, iv p5, iv (71 : Int32), iv (73 : Int32), iv (own_pick p4 (2 : Int32) p2 (79 : Int32)), iv (own_pick p4 (3 : Int32) p3 (80 : Int32)), .unset, .unset, .unset, .unset, .unset] [(.int (((p4.toUInt32 >>> ((4 : Int32) &&& 31).toUInt32).toInt32) &&& (1 : Int32)))])) _
    rewrite [hs]
    refine XS.ifYes X4.here hx rfl (pc0 := 50) (pc' := 57) rfl (hb hby at_50) rfl ((if0 _ _).trans (teq (by decide +kernel : (0 : Int32) = (0 : Int32))).1) (by decide) (by decide) ?_
    show Steps p.tables e below (T4.setTop (mkF m 57 #[iv p0, iv p1, iv p2, iv p3, iv p4, iv p5, iv (71 : Int32), iv (73 : Int32), iv (own_pick p4 (2 : Int32) p2 (79 : Int32)), iv (own_pick p4 (3 : Int32) p3 (80 : Int32)), .unset, .unset, .unset, .unset, .unset] [])) _
    refine XS.iconst X4.here hx rfl (hb hby at_57) ?_
    refine XS.istore X4.here hx rfl (hb hby at_58) rfl (l' := #[iv p0, iv p1, iv p2, iv p3, iv p4, iv p5, iv (71 : Int32), iv (73 : Int32), iv (own_pick p4 (2 : Int32) p2 (79 : Int32)), iv (own_pick p4 (3 : Int32) p3 (80 : Int32)), iv (0 : Int32), .unset, .unset, .unset, .unset]) rfl ?_
    refine XS.iload X4.here hx rfl (hb hby at_60) rfl ?_
    refine XS.ifYes X4.here hx rfl (pc0 := 62) (pc' := 71) rfl (hb hby at_62) rfl ((if0 _ _).trans (teq (by decide +kernel : (0 : Int32) = (0 : Int32))).1) (by decide) (by decide) ?_
    refine XS.bipush X4.here hx rfl (hb hby at_71) ?_
    refine st5 _ ?_
    show Steps p.tables e below (T5.setTop (mkF m 75 #[iv p0, iv p1, iv p2, iv p3, iv p4, iv p5, iv (71 : Int32), iv (73 : Int32), iv (own_pick p4 (2 : Int32) p2 (79 : Int32)), iv (own_pick p4 (3 : Int32) p3 (80 : Int32)), iv (0 : Int32), .unset, .unset, .unset, .unset] [(.ref b0_5)])) _
    refine XS.astore X5.here hx rfl (hb hby at_75) rfl rfl (l' := #[iv p0, iv p1, iv p2, iv p3, iv p4, iv p5, iv (71 : Int32), iv (73 : Int32), iv (own_pick p4 (2 : Int32) p2 (79 : Int32)), iv (own_pick p4 (3 : Int32) p3 (80 : Int32)), iv (0 : Int32), rv b0_5, .unset, .unset, .unset]) rfl ?_
    refine XS.aload X5.here hx rfl (hb hby at_77) rfl rfl ?_
    refine XS.iconst X5.here hx rfl (hb hby at_79) ?_
    refine XS.iload X5.here hx rfl (hb hby at_80) rfl ?_
    refine st7 _ ?_
    refine XS.aload X7.here hx rfl (hb hby at_83) rfl rfl ?_
    show Steps p.tables e below (T7.setTop (mkF m 85 #[iv p0, iv p1, iv p2, iv p3, iv p4, iv p5, iv (71 : Int32), iv (73 : Int32), iv (own_pick p4 (2 : Int32) p2 (79 : Int32)), iv (own_pick p4 (3 : Int32) p3 (80 : Int32)), iv (0 : Int32), rv b0_5, .unset, .unset, .unset] [(.ref b0_5)])) _
    refine XS.iconst X7.here hx rfl (hb hby at_85) ?_
    refine XS.iload X7.here hx rfl (hb hby at_86) rfl ?_
    refine st9 _ ?_
    refine XS.aload X9.here hx rfl (hb hby at_89) rfl rfl ?_
    refine XS.iconst X9.here hx rfl (hb hby at_91) ?_
    refine XS.iload X9.here hx rfl (hb hby at_92) rfl ?_
    show Steps p.tables e below (T9.setTop (mkF m 94 #[iv p0, iv p1, iv p2, iv p3, iv p4, iv p5, iv (71 : Int32), iv (73 : Int32), iv (own_pick p4 (2 : Int32) p2 (79 : Int32)), iv (own_pick p4 (3 : Int32) p3 (80 : Int32)), iv (0 : Int32), rv b0_5, .unset, .unset, .unset] [(.int (own_pick p4 (2 : Int32) p2 (79 : Int32))), (.int (2 : Int32)), (.ref b0_5)])) _
    refine st11 _ ?_
    refine XS.aload X11.here hx rfl (hb hby at_95) rfl rfl ?_
    refine XS.iconst X11.here hx rfl (hb hby at_97) ?_
    refine XS.iload X11.here hx rfl (hb hby at_98) rfl ?_
    refine st13 _ ?_
    refine XS.iload X13.here hx rfl (hb hby at_101) rfl ?_
    show Steps p.tables e below (T13.setTop (mkF m 103 #[iv p0, iv p1, iv p2, iv p3, iv p4, iv p5, iv (71 : Int32), iv (73 : Int32), iv (own_pick p4 (2 : Int32) p2 (79 : Int32)), iv (own_pick p4 (3 : Int32) p3 (80 : Int32)), iv (0 : Int32), rv b0_5, .unset, .unset, .unset] [(.int (0 : Int32))])) _
    refine XS.ifNo X13.here hx rfl (hb hby at_103) rfl ((if0 _ _).trans (teq (by decide +kernel : (0 : Int32) = (0 : Int32))).2) ?_
    refine XS.aload X13.here hx rfl (hb hby at_106) rfl rfl ?_
    refine XS.iconst X13.here hx rfl (hb hby at_108) ?_
    refine XS.iload X13.here hx rfl (hb hby at_109) rfl ?_
    refine XS.i2b X13.here hx rfl (hb hby at_111) rfl ?_
    refine st15 _ ?_
    show Steps p.tables e below (T15.setTop (mkF m 113 #[iv p0, iv p1, iv p2, iv p3, iv p4, iv p5, iv (71 : Int32), iv (73 : Int32), iv (own_pick p4 (2 : Int32) p2 (79 : Int32)), iv (own_pick p4 (3 : Int32) p3 (80 : Int32)), iv (0 : Int32), rv b0_5, .unset, .unset, .unset] [])) _
    refine XS.aload X15.here hx rfl (hb hby at_113) rfl rfl ?_
    refine XS.iconst X15.here hx rfl (hb hby at_115) ?_
    refine XS.iload X15.here hx rfl (hb hby at_116) rfl ?_
    refine XS.bipush X15.here hx rfl (hb hby at_118) ?_
    refine XS.iushr X15.here hx rfl (hb hby at_120) rfl ?_
    refine XS.i2b X15.here hx rfl (hb hby at_121) rfl ?_
    show Steps p.tables e below (T15.setTop (mkF m 122 #[iv p0, iv p1, iv p2, iv p3, iv p4, iv p5, iv (71 : Int32), iv (73 : Int32), iv (own_pick p4 (2 : Int32) p2 (79 : Int32)), iv (own_pick p4 (3 : Int32) p3 (80 : Int32)), iv (0 : Int32), rv b0_5, .unset, .unset, .unset] [(.int (((p5.toUInt32 >>> ((8 : Int32) &&& 31).toUInt32).toInt32).toInt8.toInt32)), (.int (5 : Int32)), (.ref b0_5)])) _
    refine st17 _ ?_
    refine XS.aload X17.here hx rfl (hb hby at_123) rfl rfl ?_
    refine XS.bipush X17.here hx rfl (hb hby at_125) ?_
    refine XS.iload X17.here hx rfl (hb hby at_127) rfl ?_
    refine XS.bipush X17.here hx rfl (hb hby at_129) ?_
    refine XS.iushr X17.here hx rfl (hb hby at_131) rfl ?_
    show Steps p.tables e below (T17.setTop (mkF m 132 #[iv p0, iv p1, iv p2, iv p3, iv p4, iv p5, iv (71 : Int32), iv (73 : Int32), iv (own_pick p4 (2 : Int32) p2 (79 : Int32)), iv (own_pick p4 (3 : Int32) p3 (80 : Int32)), iv (0 : Int32), rv b0_5, .unset, .unset, .unset] [(.int ((p5.toUInt32 >>> ((16 : Int32) &&& 31).toUInt32).toInt32)), (.int (6 : Int32)), (.ref b0_5)])) _
    refine XS.i2b X17.here hx rfl (hb hby at_132) rfl ?_
    refine st19 _ ?_
    refine XS.aload X19.here hx rfl (hb hby at_134) rfl rfl ?_
    refine XS.bipush X19.here hx rfl (hb hby at_136) ?_
    refine XS.iload X19.here hx rfl (hb hby at_138) rfl ?_
    refine XS.bipush X19.here hx rfl (hb hby at_140) ?_
    show Steps p.tables e below (T19.setTop (mkF m 142 #[iv p0, iv p1, iv p2, iv p3, iv p4, iv p5, iv (71 : Int32), iv (73 : Int32), iv (own_pick p4 (2 : Int32) p2 (79 : Int32)), iv (own_pick p4 (3 : Int32) p3 (80 : Int32)), iv (0 : Int32), rv b0_5, .unset, .unset, .unset] [(.int (24 : Int32)), (.int p5), (.int (7 : Int32)), (.ref b0_5)])) _
    refine XS.iushr X19.here hx rfl (hb hby at_142) rfl ?_
    refine XS.i2b X19.here hx rfl (hb hby at_143) rfl ?_
    refine st21 _ ?_
    refine XS.iload X21.here hx rfl (hb hby at_145) rfl ?_
    refine XS.bipush X21.here hx rfl (hb hby at_147) ?_
    refine XS.icmpNo X21.here hx rfl (hb hby at_149) rfl (teq (by decide +kernel : (71 : Int32) = (71 : Int32))).2 ?_
    show Steps p.tables e below (T21.setTop (mkF m 152 #[iv p0, iv p1, iv p2, iv p3, iv p4, iv p5, iv (71 : Int32), iv (73 : Int32), iv (own_pick p4 (2 : Int32) p2 (79 : Int32)), iv (own_pick p4 (3 : Int32) p3 (80 : Int32)), iv (0 : Int32), rv b0_5, .unset, .unset, .unset] [])) _
    refine XS.iload X21.here hx rfl (hb hby at_152) rfl ?_
    refine XS.bipush X21.here hx rfl (hb hby at_154) ?_
    refine XS.icmpNo X21.here hx rfl (hb hby at_156) rfl (teq (by decide +kernel : (73 : Int32) = (73 : Int32))).2 ?_
    refine XS.iload X21.here hx rfl (hb hby at_159) rfl ?_
    refine XS.bipush X21.here hx rfl (hb hby at_161) ?_
    refine XS.icmpYes X21.here hx rfl (pc0 := 163) (pc' := 177) rfl (hb hby at_163) rfl (feq hm2).2 (by decide) (by decide) ?_
    show Steps p.tables e below (T21.setTop (mkF m 177 #[iv p0, iv p1, iv p2, iv p3, iv p4, iv p5, iv (71 : Int32), iv (73 : Int32), iv (own_pick p4 (2 : Int32) p2 (79 : Int32)), iv (own_pick p4 (3 : Int32) p3 (80 : Int32)), iv (0 : Int32), rv b0_5, .unset, .unset, .unset] [])) _
    refine XS.iconst X21.here hx rfl (hb hby at_177) ?_
    refine XS.istore X21.here hx rfl (hb hby at_178) rfl (l' := #[iv p0, iv p1, iv p2, iv p3, iv p4, iv p5, iv (71 : Int32), iv (73 : Int32), iv (own_pick p4 (2 : Int32) p2 (79 : Int32)), iv (own_pick p4 (3 : Int32) p3 (80 : Int32)), iv (0 : Int32), rv b0_5, iv (0 : Int32), .unset, .unset]) rfl ?_
    refine XS.aload X21.here hx rfl (hb hby at_180) rfl rfl ?_
    refine st22 _ ?_
    refine XS.istore X22.here hx rfl (hb hby at_185) rfl (l' := #[iv p0, iv p1, iv p2, iv p3, iv p4, iv p5, iv (71 : Int32), iv (73 : Int32), iv (own_pick p4 (2 : Int32) p2 (79 : Int32)), iv (own_pick p4 (3 : Int32) p3 (80 : Int32)), iv (0 : Int32), rv b0_5, iv (0 : Int32), iv (0 : Int32), .unset]) rfl ?_
    refine XS.aload X22.here hx rfl (hb hby at_187) rfl rfl ?_
    show Steps p.tables e below (T22.setTop (mkF m 189 #[iv p0, iv p1, iv p2, iv p3, iv p4, iv p5, iv (71 : Int32), iv (73 : Int32), iv (own_pick p4 (2 : Int32) p2 (79 : Int32)), iv (own_pick p4 (3 : Int32) p3 (80 : Int32)), iv (0 : Int32), rv b0_5, iv (0 : Int32), iv (0 : Int32), .unset] [(.ref b0_5)])) _
    refine XS.iconst X22.here hx rfl (hb hby at_189) ?_
    refine X22.baloadBytes hx (j := (0 : Int32)) (v := (.int (71 : Int32))) (by rw [e22]; exact Ar26.1) (State.isArrayOf_alike hZ.alike Ar26.2.1) Ar26.2.2 hin26 (Hs26.at hin26 rfl) (g := (mkF m 190 #[iv p0, iv p1, iv p2, iv p3, iv p4, iv p5, iv (71 : Int32), iv (73 : Int32), iv (own_pick p4 (2 : Int32) p2 (79 : Int32)), iv (own_pick p4 (3 : Int32) p3 (80 : Int32)), iv (0 : Int32), rv b0_5, iv (0 : Int32), iv (0 : Int32), .unset] [(.int (0 : Int32)), (.ref b0_5)])) rfl rfl (hb hby at_190) _ ?_
    refine XS.iload X22.here hx rfl (hb hby at_191) rfl ?_
    refine XS.icmpNo X22.here hx rfl (hb hby at_193) rfl (teq (by decide +kernel : (71 : Int32) = (71 : Int32))).2 ?_
    refine XS.aload X22.here hx rfl (hb hby at_196) rfl rfl ?_
    refine XS.iconst X22.here hx rfl (hb hby at_198) ?_
    show Steps p.tables e below (T22.setTop (mkF m 199 #[iv p0, iv p1, iv p2, iv p3, iv p4, iv p5, iv (71 : Int32), iv (73 : Int32), iv (own_pick p4 (2 : Int32) p2 (79 : Int32)), iv (own_pick p4 (3 : Int32) p3 (80 : Int32)), iv (0 : Int32), rv b0_5, iv (0 : Int32), iv (0 : Int32), .unset] [(.int (1 : Int32)), (.ref b0_5)])) _
    refine X22.baloadBytes hx (j := (1 : Int32)) (v := (.int (73 : Int32))) (by rw [e22]; exact Ar27.1) (State.isArrayOf_alike hZ.alike Ar27.2.1) Ar27.2.2 hin27 (Hs27.at hin27 rfl) (g := (mkF m 199 #[iv p0, iv p1, iv p2, iv p3, iv p4, iv p5, iv (71 : Int32), iv (73 : Int32), iv (own_pick p4 (2 : Int32) p2 (79 : Int32)), iv (own_pick p4 (3 : Int32) p3 (80 : Int32)), iv (0 : Int32), rv b0_5, iv (0 : Int32), iv (0 : Int32), .unset] [(.int (1 : Int32)), (.ref b0_5)])) rfl rfl (hb hby at_199) _ ?_
    refine XS.iload X22.here hx rfl (hb hby at_200) rfl ?_
    refine XS.icmpNo X22.here hx rfl (hb hby at_202) rfl (teq (by decide +kernel : (73 : Int32) = (73 : Int32))).2 ?_
    refine XS.aload X22.here hx rfl (hb hby at_205) rfl rfl ?_
    refine XS.iconst X22.here hx rfl (hb hby at_207) ?_
    refine X22.baloadBytes hx (j := (2 : Int32)) (v := (.int (own_pick p4 (2 : Int32) p2 (79 : Int32)))) (by rw [e22]; exact Ar28.1) (State.isArrayOf_alike hZ.alike Ar28.2.1) Ar28.2.2 hin28 (Hs28.at hin28 rfl) (g := (mkF m 208 #[iv p0, iv p1, iv p2, iv p3, iv p4, iv p5, iv (71 : Int32), iv (73 : Int32), iv (own_pick p4 (2 : Int32) p2 (79 : Int32)), iv (own_pick p4 (3 : Int32) p3 (80 : Int32)), iv (0 : Int32), rv b0_5, iv (0 : Int32), iv (0 : Int32), .unset] [(.int (2 : Int32)), (.ref b0_5)])) rfl rfl (hb hby at_208) _ ?_
    show Steps p.tables e below (T22.setTop (mkF m 209 #[iv p0, iv p1, iv p2, iv p3, iv p4, iv p5, iv (71 : Int32), iv (73 : Int32), iv (own_pick p4 (2 : Int32) p2 (79 : Int32)), iv (own_pick p4 (3 : Int32) p3 (80 : Int32)), iv (0 : Int32), rv b0_5, iv (0 : Int32), iv (0 : Int32), .unset] [(.int (own_pick p4 (2 : Int32) p2 (79 : Int32)))])) _
    refine XS.iload X22.here hx rfl (hb hby at_209) rfl ?_
    refine XS.icmpNo X22.here hx rfl (hb hby at_211) rfl (teq (rfl : (own_pick p4 (2 : Int32) p2 (79 : Int32)) = (own_pick p4 (2 : Int32) p2 (79 : Int32)))).2 ?_
    refine XS.aload X22.here hx rfl (hb hby at_214) rfl rfl ?_
    refine XS.iconst X22.here hx rfl (hb hby at_216) ?_
    refine X22.baloadBytes hx (j := (3 : Int32)) (v := (.int (own_pick p4 (3 : Int32) p3 (80 : Int32)))) (by rw [e22]; exact Ar29.1) (State.isArrayOf_alike hZ.alike Ar29.2.1) Ar29.2.2 hin29 (Hs29.at hin29 rfl) (g := (mkF m 217 #[iv p0, iv p1, iv p2, iv p3, iv p4, iv p5, iv (71 : Int32), iv (73 : Int32), iv (own_pick p4 (2 : Int32) p2 (79 : Int32)), iv (own_pick p4 (3 : Int32) p3 (80 : Int32)), iv (0 : Int32), rv b0_5, iv (0 : Int32), iv (0 : Int32), .unset] [(.int (3 : Int32)), (.ref b0_5)])) rfl rfl (hb hby at_217) _ ?_
    refine XS.iload X22.here hx rfl (hb hby at_218) rfl ?_
    show Steps p.tables e below (T22.setTop (mkF m 220 #[iv p0, iv p1, iv p2, iv p3, iv p4, iv p5, iv (71 : Int32), iv (73 : Int32), iv (own_pick p4 (2 : Int32) p2 (79 : Int32)), iv (own_pick p4 (3 : Int32) p3 (80 : Int32)), iv (0 : Int32), rv b0_5, iv (0 : Int32), iv (0 : Int32), .unset] [(.int (own_pick p4 (3 : Int32) p3 (80 : Int32))), (.int (own_pick p4 (3 : Int32) p3 (80 : Int32)))])) _
    refine XS.icmpNo X22.here hx rfl (hb hby at_220) rfl (teq (rfl : (own_pick p4 (3 : Int32) p3 (80 : Int32)) = (own_pick p4 (3 : Int32) p3 (80 : Int32)))).2 ?_
    refine XS.iconst X22.here hx rfl (hb hby at_223) ?_
    refine XS.goto X22.here hx rfl (pc0 := 224) (pc' := 228) rfl (hb hby at_224) (by decide) (by decide) ?_
    refine XS.istore X22.here hx rfl (hb hby at_228) rfl (l' := #[iv p0, iv p1, iv p2, iv p3, iv p4, iv p5, iv (71 : Int32), iv (73 : Int32), iv (own_pick p4 (2 : Int32) p2 (79 : Int32)), iv (own_pick p4 (3 : Int32) p3 (80 : Int32)), iv (0 : Int32), rv b0_5, iv (0 : Int32), iv (0 : Int32), iv (1 : Int32)]) rfl ?_
    refine XS.iload X22.here hx rfl (hb hby at_230) rfl ?_
    refine XS.iload X22.here hx rfl (hb hby at_232) rfl ?_
    show Steps p.tables e below (T22.setTop (mkF m 234 #[iv p0, iv p1, iv p2, iv p3, iv p4, iv p5, iv (71 : Int32), iv (73 : Int32), iv (own_pick p4 (2 : Int32) p2 (79 : Int32)), iv (own_pick p4 (3 : Int32) p3 (80 : Int32)), iv (0 : Int32), rv b0_5, iv (0 : Int32), iv (0 : Int32), iv (1 : Int32)] [(.int (0 : Int32)), (.int (0 : Int32))])) _
    refine XS.icmpNo X22.here hx rfl (hb hby at_234) rfl (teq (by decide +kernel : (0 : Int32) = (0 : Int32))).2 ?_
    refine XS.iload X22.here hx rfl (hb hby at_237) rfl ?_
    refine XS.ifNo X22.here hx rfl (hb hby at_239) rfl ((if0 _ _).trans (feq (by decide +kernel : ¬ ((1 : Int32) = (0 : Int32)))).1) ?_
    refine XS.iconst X22.here hx rfl (hb hby at_242) ?_
    refine XS.goto X22.here hx rfl (pc0 := 243) (pc' := 247) rfl (hb hby at_243) (by decide) (by decide) ?_
    exact retN X22 hx (t := .boolean) Bd.returns (by simp) (hb hby at_247) hr
  · exact ⟨rfl, N22⟩
set_option maxRecDepth 65536 in
set_option maxHeartbeats 40000000 in
theorem rm2_3 (l : Launch) (Z : State) (a0 : Array Value) (hw : ∀ d ∈ tables_1, d.before a0 Z = true) (ws : List Jvm.Cond) (p1 : Int32) (p2 : Int32) (p3 : Int32) (p4 : Int32) (p5 : Int32) (w_Giop_MAGIC : Addr) (k_w_Giop_MAGIC : ClassId) (b0_5 : Addr) (k0_5 : ClassId) (h0 : Heap) (n0 : Nat) (Z0 : n0 ≤ h0.size) (S_Giop_MAGIC : Sta Z h0 "org/driftcairn/giop/Giop" "MAGIC" "[B" (.ref w_Giop_MAGIC)) (V_w_Giop_MAGIC : Arv Z h0 w_Giop_MAGIC k_w_Giop_MAGIC .byte (4 : Int32) [(.int (71 : Int32)), (.int (73 : Int32)), (.int (79 : Int32)), (.int (80 : Int32))] (.int (0 : Int32))) (V_b0_5 : Arv Z h0 b0_5 k0_5 .byte (8 : Int32) [(.int (71 : Int32)), (.int (own_pick p4 (1 : Int32) p1 (73 : Int32))), (.int (own_pick p4 (2 : Int32) p2 (79 : Int32))), (.int (own_pick p4 (3 : Int32) p3 (80 : Int32))), (.int (p5.toInt8.toInt32)), (.int (((p5.toUInt32 >>> ((8 : Int32) &&& 31).toUInt32).toInt32).toInt8.toInt32)), (.int (((p5.toUInt32 >>> ((16 : Int32) &&& 31).toUInt32).toInt32).toInt8.toInt32)), (.int (((p5.toUInt32 >>> ((24 : Int32) &&& 31).toUInt32).toInt32).toInt8.toInt32))] (.int (0 : Int32))) (hm1 : ¬ ((own_pick p4 (1 : Int32) p1 (73 : Int32)) = (73 : Int32))) :
    MetFree l (⟨"org/driftcairn/giop/Giop", "hasMagic", "([B)Z"⟩ : MethodName) (head1 (Jvm.Cond.code (⟨"org/driftcairn/giop/Giop", "hasMagic", "([B)Z"⟩ : MethodName) prog_59_method_2_code 2 (some .boolean) :: ws) ({ frames := 0, cells := 0, slots := 0, locals := 0 } : Room)) (fun a U => a = #[(.ref b0_5)] ∧ Z.Warmed39 U.vm ∧ U.heap = h0) (fun _ _ _ _ _ => True) (fun _ U o U' => ∃ v L, o = .returned v ∧ own_QP (some (.int (0 : Int32))) h0 n0 v U'.heap L ∧ FrameEnd U o U' L ({ frames := 0, cells := 0, slots := 0, locals := 0 } : Room).cells ({ frames := 0, cells := 0, slots := 0, locals := 0 } : Room).slots) := by
  refine MetFree.of_bodySF (plainFor_of_name pn_1) hisR ?_
  intro p e s m args below meth c s₁ Bd hml0 hP hK
  obtain ⟨rfl, hZ, hh⟩ := hP
  have hx := Bd.exec
  have hby := Bd.bytes
  have hml : c.maxLocals = 2 := hml0
  have hown : s.vm.findClass "org/driftcairn/giop/Giop" = some m.cls := findClass_of_methodNamed Bd.named
  have hnm := (name_of_methodNamed Bd.named Bd.method).1
  have X0 : Stand p l e ({ frames := 0, cells := 0, slots := 0, locals := 0 } : Room) s m #[(.ref b0_5)] below meth c s₁ [] 0 0 := Stand.of_body Bd
  have e0 : s₁.heap = h0 := by rw [← hh, Bd.state]; rfl
  have N0 := Fr.nil n0
  have pre0 : ∀ t, Steps p.tables e below (s₁.setTop (mkF m 0 #[rv b0_5, .unset] [])) t → Steps p.tables e below (s₁.setTop (entryFrame m #[(.ref b0_5)] 2)) t := fun t k => castTop (ef_2_R m b0_5) k
  obtain ⟨T1, X1, e1, st1⟩ := getS2 X0 hx hZ hown (host := "") (Or.inl (hw _ (List.mem_of_getElem? (i := 9) rfl))) Via.refl e0 S_Giop_MAGIC (g := (mkF m 3 #[rv b0_5, iv (0 : Int32)] [(.int (0 : Int32))])) rfl (hb hby d2_3)
  obtain ⟨cl2, Ar2, -, Sz2, Nn2, -, -⟩ := id V_w_Giop_MAGIC
  obtain ⟨cl3, Ar3, -, Sz3, Nn3, Hs3, Gs3⟩ := id V_b0_5
  have hin3 : ¬ ((0 : Int32) < 0 ∨ cl3.slots.size ≤ ((0 : Int32)).toNatClampNeg) := inb_of Sz3 ⟨by decide, by decide⟩
  obtain ⟨T4, X4, e4, st4⟩ := getS2 X1 hx hZ hown (host := "") (Or.inl (hw _ (List.mem_of_getElem? (i := 9) rfl))) Via.refl e1 S_Giop_MAGIC (g := (mkF m 13 #[rv b0_5, iv (0 : Int32)] [(.int (71 : Int32))])) rfl (hb hby d2_13)
  obtain ⟨cl5, Ar5, -, Sz5, Nn5, Hs5, Gs5⟩ := id V_w_Giop_MAGIC
  have hin5 : ¬ ((0 : Int32) < 0 ∨ cl5.slots.size ≤ ((0 : Int32)).toNatClampNeg) := inb_of Sz5 ⟨by decide, by decide⟩
  obtain ⟨T6, X6, e6, st6⟩ := getS2 X4 hx hZ hown (host := "") (Or.inl (hw _ (List.mem_of_getElem? (i := 9) rfl))) Via.refl e4 S_Giop_MAGIC (g := (mkF m 3 #[rv b0_5, iv (1 : Int32)] [(.int (1 : Int32))])) rfl (hb hby d2_3)
  obtain ⟨cl7, Ar7, -, Sz7, Nn7, -, -⟩ := id V_w_Giop_MAGIC
  obtain ⟨cl8, Ar8, -, Sz8, Nn8, Hs8, Gs8⟩ := id V_b0_5
  have hin8 : ¬ ((1 : Int32) < 0 ∨ cl8.slots.size ≤ ((1 : Int32)).toNatClampNeg) := inb_of Sz8 ⟨by decide, by decide⟩
  obtain ⟨T9, X9, e9, st9⟩ := getS2 X6 hx hZ hown (host := "") (Or.inl (hw _ (List.mem_of_getElem? (i := 9) rfl))) Via.refl e6 S_Giop_MAGIC (g := (mkF m 13 #[rv b0_5, iv (1 : Int32)] [(.int (own_pick p4 (1 : Int32) p1 (73 : Int32)))])) rfl (hb hby d2_13)
  obtain ⟨cl10, Ar10, -, Sz10, Nn10, Hs10, Gs10⟩ := id V_w_Giop_MAGIC
  have hin10 : ¬ ((1 : Int32) < 0 ∨ cl10.slots.size ≤ ((1 : Int32)).toNatClampNeg) := inb_of Sz10 ⟨by decide, by decide⟩
  obtain ⟨fs, hr, hrun, hended, hW, hsame⟩ := X9.leave (v := (some (.int (0 : Int32)))) (fun h => by rw [Bd.returns] at h; cases h)
  refine ⟨_, _, pre0 _ ?_, hrun, hended, _, _, rfl, ?_, ⟨_, rfl⟩, hW, hsame.mono (by decide) (by decide)⟩
  · show Steps p.tables e below (s₁.setTop (mkF m 0 #[rv b0_5, .unset] [])) _
    refine XS.iconst X0.here hx rfl (hb hby d2_0) ?_
    refine XS.istoreN X0.here hx rfl (hb hby d2_1) rfl (l' := #[rv b0_5, iv (0 : Int32)]) rfl ?_
    refine XS.iloadN X0.here hx rfl (hb hby d2_2) rfl ?_
    refine st1 _ ?_
    refine X1.arraylength hx (by rw [e1]; exact Ar2.1) (State.isArrayOf_alike hZ.alike Ar2.2.1) (g := (mkF m 6 #[rv b0_5, iv (0 : Int32)] [(.ref w_Giop_MAGIC), (.int (0 : Int32))])) rfl rfl (hb hby d2_6) _ ?_
    rw [len_of Sz2 Nn2]
    refine XS.icmpNo X1.here hx rfl (hb hby d2_7) rfl (tlt (by decide +kernel : (0 : Int32) < (4 : Int32))).2.1 ?_
    show Steps p.tables e below (T1.setTop (mkF m 10 #[rv b0_5, iv (0 : Int32)] [])) _
    refine XS.aloadN X1.here hx rfl (hb hby d2_10) rfl rfl ?_
    refine XS.iloadN X1.here hx rfl (hb hby d2_11) rfl ?_
    refine X1.baloadBytes hx (j := (0 : Int32)) (v := (.int (71 : Int32))) (by rw [e1]; exact Ar3.1) (State.isArrayOf_alike hZ.alike Ar3.2.1) Ar3.2.2 hin3 (Hs3.at hin3 rfl) (g := (mkF m 12 #[rv b0_5, iv (0 : Int32)] [(.int (0 : Int32)), (.ref b0_5)])) rfl rfl (hb hby d2_12) _ ?_
    refine st4 _ ?_
    refine XS.iloadN X4.here hx rfl (hb hby d2_16) rfl ?_
    refine X4.baloadBytes hx (j := (0 : Int32)) (v := (.int (71 : Int32))) (by rw [e4]; exact Ar5.1) (State.isArrayOf_alike hZ.alike Ar5.2.1) Ar5.2.2 hin5 (Hs5.at hin5 rfl) (g := (mkF m 17 #[rv b0_5, iv (0 : Int32)] [(.int (0 : Int32)), (.ref w_Giop_MAGIC), (.int (71 : Int32))])) rfl rfl (hb hby d2_17) _ ?_
    show Steps p.tables e below (T4.setTop (mkF m 18 #[rv b0_5, iv (0 : Int32)] [(.int (71 : Int32)), (.int (71 : Int32))])) _
    refine XS.icmpYes X4.here hx rfl (pc0 := 18) (pc' := 23) rfl (hb hby d2_18) rfl (teq (by decide +kernel : (71 : Int32) = (71 : Int32))).1 (by decide) (by decide) ?_
    refine XS.iinc X4.here hx rfl (hb hby d2_23) rfl (l' := #[rv b0_5, iv ((0 : Int32) + (1 : Int32))]) rfl ?_
    show Steps p.tables e below (T4.setTop (mkF m 26 #[rv b0_5, iv ((0 : Int32) + (1 : Int32))] [])) _
    rewrite [show ((0 : Int32) + (1 : Int32)) = (1 : Int32) from by decide +kernel]
    refine XS.goto X4.here hx rfl (pc0 := 26) (pc' := 2) rfl (hb hby d2_26) (by decide) (by decide) ?_
    refine XS.iloadN X4.here hx rfl (hb hby d2_2) rfl ?_
    refine st6 _ ?_
    refine X6.arraylength hx (by rw [e6]; exact Ar7.1) (State.isArrayOf_alike hZ.alike Ar7.2.1) (g := (mkF m 6 #[rv b0_5, iv (1 : Int32)] [(.ref w_Giop_MAGIC), (.int (1 : Int32))])) rfl rfl (hb hby d2_6) _ ?_
    rw [len_of Sz7 Nn7]
    show Steps p.tables e below (T6.setTop (mkF m 7 #[rv b0_5, iv (1 : Int32)] [(.int (4 : Int32)), (.int (1 : Int32))])) _
    refine XS.icmpNo X6.here hx rfl (hb hby d2_7) rfl (tlt (by decide +kernel : (1 : Int32) < (4 : Int32))).2.1 ?_
    refine XS.aloadN X6.here hx rfl (hb hby d2_10) rfl rfl ?_
    refine XS.iloadN X6.here hx rfl (hb hby d2_11) rfl ?_
    refine X6.baloadBytes hx (j := (1 : Int32)) (v := (.int (own_pick p4 (1 : Int32) p1 (73 : Int32)))) (by rw [e6]; exact Ar8.1) (State.isArrayOf_alike hZ.alike Ar8.2.1) Ar8.2.2 hin8 (Hs8.at hin8 rfl) (g := (mkF m 12 #[rv b0_5, iv (1 : Int32)] [(.int (1 : Int32)), (.ref b0_5)])) rfl rfl (hb hby d2_12) _ ?_
    refine st9 _ ?_
    refine XS.iloadN X9.here hx rfl (hb hby d2_16) rfl ?_
    show Steps p.tables e below (T9.setTop (mkF m 17 #[rv b0_5, iv (1 : Int32)] [(.int (1 : Int32)), (.ref w_Giop_MAGIC), (.int (own_pick p4 (1 : Int32) p1 (73 : Int32)))])) _
    refine X9.baloadBytes hx (j := (1 : Int32)) (v := (.int (73 : Int32))) (by rw [e9]; exact Ar10.1) (State.isArrayOf_alike hZ.alike Ar10.2.1) Ar10.2.2 hin10 (Hs10.at hin10 rfl) (g := (mkF m 17 #[rv b0_5, iv (1 : Int32)] [(.int (1 : Int32)), (.ref w_Giop_MAGIC), (.int (own_pick p4 (1 : Int32) p1 (73 : Int32)))])) rfl rfl (hb hby d2_17) _ ?_
    refine XS.icmpNo X9.here hx rfl (hb hby d2_18) rfl (feq hm1).1 ?_
    refine XS.iconst X9.here hx rfl (hb hby d2_21) ?_
    exact retN X9 hx (t := .boolean) Bd.returns (by simp) (hb hby d2_22) hr
  · exact ⟨rfl, N0, e9⟩
set_option maxRecDepth 65536 in
set_option maxHeartbeats 40000000 in
theorem rm0_3 (l : Launch) (Z : State) (a0 : Array Value) (hw : ∀ d ∈ tables_1, d.before a0 Z = true) (ws : List Jvm.Cond) (p0 : Int32) (p1 : Int32) (p2 : Int32) (p3 : Int32) (p4 : Int32) (p5 : Int32) (w_Giop_MAGIC : Addr) (k_w_Giop_MAGIC : ClassId) (h0 : Heap) (n0 : Nat) (Z0 : n0 ≤ h0.size) (hm0 : (own_pick p4 (0 : Int32) p0 (71 : Int32)) = (71 : Int32)) (hs : (((p4.toUInt32 >>> ((4 : Int32) &&& 31).toUInt32).toInt32) &&& (1 : Int32)) = (0 : Int32)) (hm1 : ¬ ((own_pick p4 (1 : Int32) p1 (73 : Int32)) = (73 : Int32))) (S_Giop_MAGIC : Sta Z h0 "org/driftcairn/giop/Giop" "MAGIC" "[B" (.ref w_Giop_MAGIC)) (V_w_Giop_MAGIC : Arv Z h0 w_Giop_MAGIC k_w_Giop_MAGIC .byte (4 : Int32) [(.int (71 : Int32)), (.int (73 : Int32)), (.int (79 : Int32)), (.int (80 : Int32))] (.int (0 : Int32))) :
    MetFree l x (head1 (Jvm.Cond.code x code maxLocals ret :: ws) room_1) (fun a U => a = #[(.int p0), (.int p1), (.int p2), (.int p3), (.int p4), (.int p5)] ∧ Z.Warmed39 U.vm ∧ U.heap = h0) (fun _ _ _ _ _ => True) (fun _ U o U' => ∃ v L, o = .returned v ∧ own_QL n0 v U'.heap L ∧ FrameEnd U o U' L room_1.cells room_1.slots) := by
  refine MetFree.of_bodySF (plainFor_of_name pn_0) hisR ?_
  intro p e s m args below meth c s₁ Bd hml0 hP hK
  obtain ⟨rfl, hZ, hh⟩ := hP
  have hx := Bd.exec
  have hby := Bd.bytes
  have hml : c.maxLocals = 15 := hml0
  have hown : s.vm.findClass "org/driftcairn/giop/GiopHasMagicPinLaw" = some m.cls := findClass_of_methodNamed Bd.named
  have hnm := (name_of_methodNamed Bd.named Bd.method).1
  have X0 : Stand p l e room_1 s m #[(.int p0), (.int p1), (.int p2), (.int p3), (.int p4), (.int p5)] below meth c s₁ [] 0 0 := Stand.of_body Bd
  have e0 : s₁.heap = h0 := by rw [← hh, Bd.state]; rfl
  have N0 := Fr.nil n0
  have pre0 : ∀ t, Steps p.tables e below (s₁.setTop (mkF m 0 #[iv p0, iv p1, iv p2, iv p3, iv p4, iv p5, .unset, .unset, .unset, .unset, .unset, .unset, .unset, .unset, .unset] [])) t → Steps p.tables e below (s₁.setTop (entryFrame m #[(.int p0), (.int p1), (.int p2), (.int p3), (.int p4), (.int p5)] maxLocals)) t := fun t k => castTop (ef_0_IIIIII m p0 p1 p2 p3 p4 p5) k
  obtain ⟨_, _, ⟨T1, L1, k1, n1⟩, -, X1, ⟨Lc1, hQ1, l1, y1, z1⟩, st1⟩ := Jvm.LawKit.callS X0 hx (y := (⟨"org/driftcairn/giop/GiopHasMagicPinLaw", "pick", "(IIIC)B"⟩ : MethodName)) hown (mvT hZ (hw _ (List.mem_of_getElem? (i := 0) rfl))) (mvT hZ (hw _ (List.mem_of_getElem? (i := 1) rfl))) (mvT hZ (hw _ (List.mem_of_getElem? (i := 2) rfl))) (mvT hZ (hw _ (List.mem_of_getElem? (i := 3) rfl))) (by decide) (backOf (W := 0) (rk_pick l Z a0 hw [] p4 (0 : Int32) p0 (71 : Int32) h0 n0 Z0 ) hZ (hw _ (List.mem_of_getElem? (i := 3) rfl)) (hw _ (List.mem_of_getElem? (i := 2) rfl)) (by decide) (by decide)) (g := (mkF m 6 #[iv p0, iv p1, iv p2, iv p3, iv p4, iv p5, .unset, .unset, .unset, .unset, .unset, .unset, .unset, .unset, .unset] [(.int (71 : Int32)), (.int p0), (.int (0 : Int32)), (.int p4)])) rfl (by rw [hml]; rfl) (argsL := [(.int p4), (.int (0 : Int32)), (.int p0), (.int (71 : Int32))]) (rest := []) (lenOf pd_0 rfl) rfl (by show 2 * 0 + _ ≤ _; exact Nat.le_of_eq rfl) (hb hby at_6) (fun _ _ => ⟨rfl, e0, (by decide : 0 + 0 ≤ _), (by decide : 0 + 0 ≤ _)⟩)
  dsimp only [Pt.U, Pt.locs, Pt.cells, Pt.slots] at X1 l1 y1 z1 st1 hQ1
  subst l1 y1 z1
  obtain ⟨rfl, N1q, e1⟩ := hQ1
  have N1 := Fr.app N0 N1q
  obtain ⟨_, _, ⟨T2, L2, k2, n2⟩, -, X2, ⟨Lc2, hQ2, l2, y2, z2⟩, st2⟩ := Jvm.LawKit.callS X1 hx (y := (⟨"org/driftcairn/giop/GiopHasMagicPinLaw", "pick", "(IIIC)B"⟩ : MethodName)) hown (mvT hZ (hw _ (List.mem_of_getElem? (i := 0) rfl))) (mvT hZ (hw _ (List.mem_of_getElem? (i := 1) rfl))) (mvT hZ (hw _ (List.mem_of_getElem? (i := 2) rfl))) (mvT hZ (hw _ (List.mem_of_getElem? (i := 3) rfl))) (by decide) (backOf (W := 0) (rk_pick l Z a0 hw [] p4 (1 : Int32) p1 (73 : Int32) h0 n0 Z0 ) hZ (hw _ (List.mem_of_getElem? (i := 3) rfl)) (hw _ (List.mem_of_getElem? (i := 2) rfl)) (by decide) (by decide)) (g := (mkF m 17 #[iv p0, iv p1, iv p2, iv p3, iv p4, iv p5, iv (71 : Int32), .unset, .unset, .unset, .unset, .unset, .unset, .unset, .unset] [(.int (73 : Int32)), (.int p1), (.int (1 : Int32)), (.int p4)])) rfl (by rw [hml]; rfl) (argsL := [(.int p4), (.int (1 : Int32)), (.int p1), (.int (73 : Int32))]) (rest := []) (lenOf pd_0 rfl) rfl (by show 2 * 0 + _ ≤ _; exact Nat.le_of_eq rfl) (hb hby at_17) (fun _ _ => ⟨rfl, e1, (by decide : 0 + 0 ≤ _), (by decide : 0 + 0 ≤ _)⟩)
  dsimp only [Pt.U, Pt.locs, Pt.cells, Pt.slots] at X2 l2 y2 z2 st2 hQ2
  subst l2 y2 z2
  obtain ⟨rfl, N2q, e2⟩ := hQ2
  have N2 := Fr.app N1 N2q
  obtain ⟨_, _, ⟨T3, L3, k3, n3⟩, -, X3, ⟨Lc3, hQ3, l3, y3, z3⟩, st3⟩ := Jvm.LawKit.callS X2 hx (y := (⟨"org/driftcairn/giop/GiopHasMagicPinLaw", "pick", "(IIIC)B"⟩ : MethodName)) hown (mvT hZ (hw _ (List.mem_of_getElem? (i := 0) rfl))) (mvT hZ (hw _ (List.mem_of_getElem? (i := 1) rfl))) (mvT hZ (hw _ (List.mem_of_getElem? (i := 2) rfl))) (mvT hZ (hw _ (List.mem_of_getElem? (i := 3) rfl))) (by decide) (backOf (W := 0) (rk_pick l Z a0 hw [] p4 (2 : Int32) p2 (79 : Int32) h0 n0 Z0 ) hZ (hw _ (List.mem_of_getElem? (i := 3) rfl)) (hw _ (List.mem_of_getElem? (i := 2) rfl)) (by decide) (by decide)) (g := (mkF m 28 #[iv p0, iv p1, iv p2, iv p3, iv p4, iv p5, iv (71 : Int32), iv (own_pick p4 (1 : Int32) p1 (73 : Int32)), .unset, .unset, .unset, .unset, .unset, .unset, .unset] [(.int (79 : Int32)), (.int p2), (.int (2 : Int32)), (.int p4)])) rfl (by rw [hml]; rfl) (argsL := [(.int p4), (.int (2 : Int32)), (.int p2), (.int (79 : Int32))]) (rest := []) (lenOf pd_0 rfl) rfl (by show 2 * 0 + _ ≤ _; exact Nat.le_of_eq rfl) (hb hby at_28) (fun _ _ => ⟨rfl, e2, (by decide : 0 + 0 ≤ _), (by decide : 0 + 0 ≤ _)⟩)
  dsimp only [Pt.U, Pt.locs, Pt.cells, Pt.slots] at X3 l3 y3 z3 st3 hQ3
  subst l3 y3 z3
  obtain ⟨rfl, N3q, e3⟩ := hQ3
  have N3 := Fr.app N2 N3q
  obtain ⟨_, _, ⟨T4, L4, k4, n4⟩, -, X4, ⟨Lc4, hQ4, l4, y4, z4⟩, st4⟩ := Jvm.LawKit.callS X3 hx (y := (⟨"org/driftcairn/giop/GiopHasMagicPinLaw", "pick", "(IIIC)B"⟩ : MethodName)) hown (mvT hZ (hw _ (List.mem_of_getElem? (i := 0) rfl))) (mvT hZ (hw _ (List.mem_of_getElem? (i := 1) rfl))) (mvT hZ (hw _ (List.mem_of_getElem? (i := 2) rfl))) (mvT hZ (hw _ (List.mem_of_getElem? (i := 3) rfl))) (by decide) (backOf (W := 0) (rk_pick l Z a0 hw [] p4 (3 : Int32) p3 (80 : Int32) h0 n0 Z0 ) hZ (hw _ (List.mem_of_getElem? (i := 3) rfl)) (hw _ (List.mem_of_getElem? (i := 2) rfl)) (by decide) (by decide)) (g := (mkF m 39 #[iv p0, iv p1, iv p2, iv p3, iv p4, iv p5, iv (71 : Int32), iv (own_pick p4 (1 : Int32) p1 (73 : Int32)), iv (own_pick p4 (2 : Int32) p2 (79 : Int32)), .unset, .unset, .unset, .unset, .unset, .unset] [(.int (80 : Int32)), (.int p3), (.int (3 : Int32)), (.int p4)])) rfl (by rw [hml]; rfl) (argsL := [(.int p4), (.int (3 : Int32)), (.int p3), (.int (80 : Int32))]) (rest := []) (lenOf pd_0 rfl) rfl (by show 2 * 0 + _ ≤ _; exact Nat.le_of_eq rfl) (hb hby at_39) (fun _ _ => ⟨rfl, e3, (by decide : 0 + 0 ≤ _), (by decide : 0 + 0 ≤ _)⟩)
  dsimp only [Pt.U, Pt.locs, Pt.cells, Pt.slots] at X4 l4 y4 z4 st4 hQ4
  subst l4 y4 z4
  obtain ⟨rfl, N4q, e4⟩ := hQ4
  have N4 := Fr.app N3 N4q
  obtain ⟨T5, h5, k0_5, X5, e5, E5, A5, st5⟩ := newP X4 hx hZ (hw _ (List.mem_of_getElem? (i := 4) rfl)) e4 (g := (mkF m 73 #[iv p0, iv p1, iv p2, iv p3, iv p4, iv p5, iv (71 : Int32), iv (own_pick p4 (1 : Int32) p1 (73 : Int32)), iv (own_pick p4 (2 : Int32) p2 (79 : Int32)), iv (own_pick p4 (3 : Int32) p3 (80 : Int32)), iv (0 : Int32), .unset, .unset, .unset, .unset] [(.int (8 : Int32))])) rfl (hb hby at_73) rfl (by decide) (cap := 8) (by decide) (by decide) (by decide) (by decide)
  obtain ⟨b0_5, gg5⟩ : ∃ z, z = h0.size := ⟨_, rfl⟩
  rw [← gg5] at A5 st5
  have g_b0_5 : n0 ≤ b0_5 := Nat.le_trans Z0 (Nat.le_of_eq gg5.symm)
  have sz_b0_5 : h0.size ≤ b0_5 := Nat.le_trans (Keep.refl h0 []).1 (Nat.le_of_eq gg5.symm)
  have Z5 : n0 ≤ h5.size := Nat.le_trans Z0 E5.1
  have KK5 : Keep h0 h5 [] := (Keep.refl h0 []).ext E5
  have V_b0_5 : Arv Z h5 b0_5 k0_5 .byte (8 : Int32) [(.int (0 : Int32)), (.int (0 : Int32)), (.int (0 : Int32)), (.int (0 : Int32)), (.int (0 : Int32)), (.int (0 : Int32)), (.int (0 : Int32)), (.int (0 : Int32))] (.int (0 : Int32)) := (Arv.new A5 (by decide)).pad (pad_rep [] (.int (0 : Int32)) 8)
  obtain ⟨cl6, Ar6, qq6, Sz6, Nn6, Hs6, Gs6⟩ := id V_b0_5
  have hin6 : ¬ ((0 : Int32) < 0 ∨ cl6.slots.size ≤ ((0 : Int32)).toNatClampNeg) := inb_of Sz6 ⟨by decide, by decide⟩
  obtain ⟨T7, h7, X7, e7, W7, st7⟩ := stB X5 hx hZ e5 Ar6 (j := (0 : Int32)) hin6 (g := (mkF m 82 #[iv p0, iv p1, iv p2, iv p3, iv p4, iv p5, iv (71 : Int32), iv (own_pick p4 (1 : Int32) p1 (73 : Int32)), iv (own_pick p4 (2 : Int32) p2 (79 : Int32)), iv (own_pick p4 (3 : Int32) p3 (80 : Int32)), iv (0 : Int32), rv b0_5, .unset, .unset, .unset] [(.int (71 : Int32)), (.int (0 : Int32)), (.ref b0_5)])) rfl rfl (hb hby at_82)
  have va7 := Arv.set Ar6 qq6 Sz6 Nn6 Hs6 Gs6 (fits_nar_byte _) W7 0 rfl (Nat.le_of_ble_eq_true rfl)
  have vb7 : Arv Z h7 b0_5 k0_5 .byte (8 : Int32) [(.int (71 : Int32)), (.int (0 : Int32)), (.int (0 : Int32)), (.int (0 : Int32)), (.int (0 : Int32)), (.int (0 : Int32)), (.int (0 : Int32)), (.int (0 : Int32))] (.int (0 : Int32)) := va7
  have Z7 : n0 ≤ h7.size := Nat.le_trans Z5 (Keep.of_wr W7).1
  have KK7 : Keep h0 h7 [] := KK5.wr W7 (Or.inr sz_b0_5)
  have N7 := Fr.snoc X7 N4 g_b0_5
  obtain ⟨cl8, Ar8, qq8, Sz8, Nn8, Hs8, Gs8⟩ := id vb7
  have hin8 : ¬ ((1 : Int32) < 0 ∨ cl8.slots.size ≤ ((1 : Int32)).toNatClampNeg) := inb_of Sz8 ⟨by decide, by decide⟩
  obtain ⟨T9, h9, X9, e9, W9, st9⟩ := stB X7 hx hZ e7 Ar8 (j := (1 : Int32)) hin8 (g := (mkF m 88 #[iv p0, iv p1, iv p2, iv p3, iv p4, iv p5, iv (71 : Int32), iv (own_pick p4 (1 : Int32) p1 (73 : Int32)), iv (own_pick p4 (2 : Int32) p2 (79 : Int32)), iv (own_pick p4 (3 : Int32) p3 (80 : Int32)), iv (0 : Int32), rv b0_5, .unset, .unset, .unset] [(.int (own_pick p4 (1 : Int32) p1 (73 : Int32))), (.int (1 : Int32)), (.ref b0_5)])) rfl rfl (hb hby at_88)
  have va9 := Arv.set Ar8 qq8 Sz8 Nn8 Hs8 Gs8 (fits_nar_byte _) W9 1 rfl (Nat.le_of_ble_eq_true rfl)
  have vb9 : Arv Z h9 b0_5 k0_5 .byte (8 : Int32) [(.int (71 : Int32)), (.int (own_pick p4 (1 : Int32) p1 (73 : Int32))), (.int (0 : Int32)), (.int (0 : Int32)), (.int (0 : Int32)), (.int (0 : Int32)), (.int (0 : Int32)), (.int (0 : Int32))] (.int (0 : Int32)) := by have t := va9; have q : ((own_pick p4 (1 : Int32) p1 (73 : Int32))).toInt8.toInt32 = (own_pick p4 (1 : Int32) p1 (73 : Int32)) := (own_pick_b _ _ _ _); rw [q] at t; exact t
  have Z9 : n0 ≤ h9.size := Nat.le_trans Z7 (Keep.of_wr W9).1
  have KK9 : Keep h0 h9 [] := KK7.wr W9 (Or.inr sz_b0_5)
  have N9 := Fr.snoc X9 N7 g_b0_5
  obtain ⟨cl10, Ar10, qq10, Sz10, Nn10, Hs10, Gs10⟩ := id vb9
  have hin10 : ¬ ((2 : Int32) < 0 ∨ cl10.slots.size ≤ ((2 : Int32)).toNatClampNeg) := inb_of Sz10 ⟨by decide, by decide⟩
  obtain ⟨T11, h11, X11, e11, W11, st11⟩ := stB X9 hx hZ e9 Ar10 (j := (2 : Int32)) hin10 (g := (mkF m 94 #[iv p0, iv p1, iv p2, iv p3, iv p4, iv p5, iv (71 : Int32), iv (own_pick p4 (1 : Int32) p1 (73 : Int32)), iv (own_pick p4 (2 : Int32) p2 (79 : Int32)), iv (own_pick p4 (3 : Int32) p3 (80 : Int32)), iv (0 : Int32), rv b0_5, .unset, .unset, .unset] [(.int (own_pick p4 (2 : Int32) p2 (79 : Int32))), (.int (2 : Int32)), (.ref b0_5)])) rfl rfl (hb hby at_94)
  have va11 := Arv.set Ar10 qq10 Sz10 Nn10 Hs10 Gs10 (fits_nar_byte _) W11 2 rfl (Nat.le_of_ble_eq_true rfl)
  have vb11 : Arv Z h11 b0_5 k0_5 .byte (8 : Int32) [(.int (71 : Int32)), (.int (own_pick p4 (1 : Int32) p1 (73 : Int32))), (.int (own_pick p4 (2 : Int32) p2 (79 : Int32))), (.int (0 : Int32)), (.int (0 : Int32)), (.int (0 : Int32)), (.int (0 : Int32)), (.int (0 : Int32))] (.int (0 : Int32)) := by have t := va11; have q : ((own_pick p4 (2 : Int32) p2 (79 : Int32))).toInt8.toInt32 = (own_pick p4 (2 : Int32) p2 (79 : Int32)) := (own_pick_b _ _ _ _); rw [q] at t; exact t
  have Z11 : n0 ≤ h11.size := Nat.le_trans Z9 (Keep.of_wr W11).1
  have KK11 : Keep h0 h11 [] := KK9.wr W11 (Or.inr sz_b0_5)
  have N11 := Fr.snoc X11 N9 g_b0_5
  obtain ⟨cl12, Ar12, qq12, Sz12, Nn12, Hs12, Gs12⟩ := id vb11
  have hin12 : ¬ ((3 : Int32) < 0 ∨ cl12.slots.size ≤ ((3 : Int32)).toNatClampNeg) := inb_of Sz12 ⟨by decide, by decide⟩
  obtain ⟨T13, h13, X13, e13, W13, st13⟩ := stB X11 hx hZ e11 Ar12 (j := (3 : Int32)) hin12 (g := (mkF m 100 #[iv p0, iv p1, iv p2, iv p3, iv p4, iv p5, iv (71 : Int32), iv (own_pick p4 (1 : Int32) p1 (73 : Int32)), iv (own_pick p4 (2 : Int32) p2 (79 : Int32)), iv (own_pick p4 (3 : Int32) p3 (80 : Int32)), iv (0 : Int32), rv b0_5, .unset, .unset, .unset] [(.int (own_pick p4 (3 : Int32) p3 (80 : Int32))), (.int (3 : Int32)), (.ref b0_5)])) rfl rfl (hb hby at_100)
  have va13 := Arv.set Ar12 qq12 Sz12 Nn12 Hs12 Gs12 (fits_nar_byte _) W13 3 rfl (Nat.le_of_ble_eq_true rfl)
  have vb13 : Arv Z h13 b0_5 k0_5 .byte (8 : Int32) [(.int (71 : Int32)), (.int (own_pick p4 (1 : Int32) p1 (73 : Int32))), (.int (own_pick p4 (2 : Int32) p2 (79 : Int32))), (.int (own_pick p4 (3 : Int32) p3 (80 : Int32))), (.int (0 : Int32)), (.int (0 : Int32)), (.int (0 : Int32)), (.int (0 : Int32))] (.int (0 : Int32)) := by have t := va13; have q : ((own_pick p4 (3 : Int32) p3 (80 : Int32))).toInt8.toInt32 = (own_pick p4 (3 : Int32) p3 (80 : Int32)) := (own_pick_b _ _ _ _); rw [q] at t; exact t
  have Z13 : n0 ≤ h13.size := Nat.le_trans Z11 (Keep.of_wr W13).1
  have KK13 : Keep h0 h13 [] := KK11.wr W13 (Or.inr sz_b0_5)
  have N13 := Fr.snoc X13 N11 g_b0_5
  obtain ⟨cl14, Ar14, qq14, Sz14, Nn14, Hs14, Gs14⟩ := id vb13
  have hin14 : ¬ ((4 : Int32) < 0 ∨ cl14.slots.size ≤ ((4 : Int32)).toNatClampNeg) := inb_of Sz14 ⟨by decide, by decide⟩
  obtain ⟨T15, h15, X15, e15, W15, st15⟩ := stB X13 hx hZ e13 Ar14 (j := (4 : Int32)) hin14 (g := (mkF m 112 #[iv p0, iv p1, iv p2, iv p3, iv p4, iv p5, iv (71 : Int32), iv (own_pick p4 (1 : Int32) p1 (73 : Int32)), iv (own_pick p4 (2 : Int32) p2 (79 : Int32)), iv (own_pick p4 (3 : Int32) p3 (80 : Int32)), iv (0 : Int32), rv b0_5, .unset, .unset, .unset] [(.int (p5.toInt8.toInt32)), (.int (4 : Int32)), (.ref b0_5)])) rfl rfl (hb hby at_112)
  have va15 := Arv.set Ar14 qq14 Sz14 Nn14 Hs14 Gs14 (fits_nar_byte _) W15 4 rfl (Nat.le_of_ble_eq_true rfl)
  have vb15 : Arv Z h15 b0_5 k0_5 .byte (8 : Int32) [(.int (71 : Int32)), (.int (own_pick p4 (1 : Int32) p1 (73 : Int32))), (.int (own_pick p4 (2 : Int32) p2 (79 : Int32))), (.int (own_pick p4 (3 : Int32) p3 (80 : Int32))), (.int (p5.toInt8.toInt32)), (.int (0 : Int32)), (.int (0 : Int32)), (.int (0 : Int32))] (.int (0 : Int32)) := by have t := va15; have q : ((p5.toInt8.toInt32)).toInt8.toInt32 = (p5.toInt8.toInt32) := (own_b8 _); rw [q] at t; exact t
  have Z15 : n0 ≤ h15.size := Nat.le_trans Z13 (Keep.of_wr W15).1
  have KK15 : Keep h0 h15 [] := KK13.wr W15 (Or.inr sz_b0_5)
  have N15 := Fr.snoc X15 N13 g_b0_5
  obtain ⟨cl16, Ar16, qq16, Sz16, Nn16, Hs16, Gs16⟩ := id vb15
  have hin16 : ¬ ((5 : Int32) < 0 ∨ cl16.slots.size ≤ ((5 : Int32)).toNatClampNeg) := inb_of Sz16 ⟨by decide, by decide⟩
  obtain ⟨T17, h17, X17, e17, W17, st17⟩ := stB X15 hx hZ e15 Ar16 (j := (5 : Int32)) hin16 (g := (mkF m 122 #[iv p0, iv p1, iv p2, iv p3, iv p4, iv p5, iv (71 : Int32), iv (own_pick p4 (1 : Int32) p1 (73 : Int32)), iv (own_pick p4 (2 : Int32) p2 (79 : Int32)), iv (own_pick p4 (3 : Int32) p3 (80 : Int32)), iv (0 : Int32), rv b0_5, .unset, .unset, .unset] [(.int (((p5.toUInt32 >>> ((8 : Int32) &&& 31).toUInt32).toInt32).toInt8.toInt32)), (.int (5 : Int32)), (.ref b0_5)])) rfl rfl (hb hby at_122)
  have va17 := Arv.set Ar16 qq16 Sz16 Nn16 Hs16 Gs16 (fits_nar_byte _) W17 5 rfl (Nat.le_of_ble_eq_true rfl)
  have vb17 : Arv Z h17 b0_5 k0_5 .byte (8 : Int32) [(.int (71 : Int32)), (.int (own_pick p4 (1 : Int32) p1 (73 : Int32))), (.int (own_pick p4 (2 : Int32) p2 (79 : Int32))), (.int (own_pick p4 (3 : Int32) p3 (80 : Int32))), (.int (p5.toInt8.toInt32)), (.int (((p5.toUInt32 >>> ((8 : Int32) &&& 31).toUInt32).toInt32).toInt8.toInt32)), (.int (0 : Int32)), (.int (0 : Int32))] (.int (0 : Int32)) := by have t := va17; have q : ((((p5.toUInt32 >>> ((8 : Int32) &&& 31).toUInt32).toInt32).toInt8.toInt32)).toInt8.toInt32 = (((p5.toUInt32 >>> ((8 : Int32) &&& 31).toUInt32).toInt32).toInt8.toInt32) := (own_b8 _); rw [q] at t; exact t
  have Z17 : n0 ≤ h17.size := Nat.le_trans Z15 (Keep.of_wr W17).1
  have KK17 : Keep h0 h17 [] := KK15.wr W17 (Or.inr sz_b0_5)
  have N17 := Fr.snoc X17 N15 g_b0_5
  obtain ⟨cl18, Ar18, qq18, Sz18, Nn18, Hs18, Gs18⟩ := id vb17
  have hin18 : ¬ ((6 : Int32) < 0 ∨ cl18.slots.size ≤ ((6 : Int32)).toNatClampNeg) := inb_of Sz18 ⟨by decide, by decide⟩
  obtain ⟨T19, h19, X19, e19, W19, st19⟩ := stB X17 hx hZ e17 Ar18 (j := (6 : Int32)) hin18 (g := (mkF m 133 #[iv p0, iv p1, iv p2, iv p3, iv p4, iv p5, iv (71 : Int32), iv (own_pick p4 (1 : Int32) p1 (73 : Int32)), iv (own_pick p4 (2 : Int32) p2 (79 : Int32)), iv (own_pick p4 (3 : Int32) p3 (80 : Int32)), iv (0 : Int32), rv b0_5, .unset, .unset, .unset] [(.int (((p5.toUInt32 >>> ((16 : Int32) &&& 31).toUInt32).toInt32).toInt8.toInt32)), (.int (6 : Int32)), (.ref b0_5)])) rfl rfl (hb hby at_133)
  have va19 := Arv.set Ar18 qq18 Sz18 Nn18 Hs18 Gs18 (fits_nar_byte _) W19 6 rfl (Nat.le_of_ble_eq_true rfl)
  have vb19 : Arv Z h19 b0_5 k0_5 .byte (8 : Int32) [(.int (71 : Int32)), (.int (own_pick p4 (1 : Int32) p1 (73 : Int32))), (.int (own_pick p4 (2 : Int32) p2 (79 : Int32))), (.int (own_pick p4 (3 : Int32) p3 (80 : Int32))), (.int (p5.toInt8.toInt32)), (.int (((p5.toUInt32 >>> ((8 : Int32) &&& 31).toUInt32).toInt32).toInt8.toInt32)), (.int (((p5.toUInt32 >>> ((16 : Int32) &&& 31).toUInt32).toInt32).toInt8.toInt32)), (.int (0 : Int32))] (.int (0 : Int32)) := by have t := va19; have q : ((((p5.toUInt32 >>> ((16 : Int32) &&& 31).toUInt32).toInt32).toInt8.toInt32)).toInt8.toInt32 = (((p5.toUInt32 >>> ((16 : Int32) &&& 31).toUInt32).toInt32).toInt8.toInt32) := (own_b8 _); rw [q] at t; exact t
  have Z19 : n0 ≤ h19.size := Nat.le_trans Z17 (Keep.of_wr W19).1
  have KK19 : Keep h0 h19 [] := KK17.wr W19 (Or.inr sz_b0_5)
  have N19 := Fr.snoc X19 N17 g_b0_5
  obtain ⟨cl20, Ar20, qq20, Sz20, Nn20, Hs20, Gs20⟩ := id vb19
  have hin20 : ¬ ((7 : Int32) < 0 ∨ cl20.slots.size ≤ ((7 : Int32)).toNatClampNeg) := inb_of Sz20 ⟨by decide, by decide⟩
  obtain ⟨T21, h21, X21, e21, W21, st21⟩ := stB X19 hx hZ e19 Ar20 (j := (7 : Int32)) hin20 (g := (mkF m 144 #[iv p0, iv p1, iv p2, iv p3, iv p4, iv p5, iv (71 : Int32), iv (own_pick p4 (1 : Int32) p1 (73 : Int32)), iv (own_pick p4 (2 : Int32) p2 (79 : Int32)), iv (own_pick p4 (3 : Int32) p3 (80 : Int32)), iv (0 : Int32), rv b0_5, .unset, .unset, .unset] [(.int (((p5.toUInt32 >>> ((24 : Int32) &&& 31).toUInt32).toInt32).toInt8.toInt32)), (.int (7 : Int32)), (.ref b0_5)])) rfl rfl (hb hby at_144)
  have va21 := Arv.set Ar20 qq20 Sz20 Nn20 Hs20 Gs20 (fits_nar_byte _) W21 7 rfl (Nat.le_of_ble_eq_true rfl)
  have vb21 : Arv Z h21 b0_5 k0_5 .byte (8 : Int32) [(.int (71 : Int32)), (.int (own_pick p4 (1 : Int32) p1 (73 : Int32))), (.int (own_pick p4 (2 : Int32) p2 (79 : Int32))), (.int (own_pick p4 (3 : Int32) p3 (80 : Int32))), (.int (p5.toInt8.toInt32)), (.int (((p5.toUInt32 >>> ((8 : Int32) &&& 31).toUInt32).toInt32).toInt8.toInt32)), (.int (((p5.toUInt32 >>> ((16 : Int32) &&& 31).toUInt32).toInt32).toInt8.toInt32)), (.int (((p5.toUInt32 >>> ((24 : Int32) &&& 31).toUInt32).toInt32).toInt8.toInt32))] (.int (0 : Int32)) := by have t := va21; have q : ((((p5.toUInt32 >>> ((24 : Int32) &&& 31).toUInt32).toInt32).toInt8.toInt32)).toInt8.toInt32 = (((p5.toUInt32 >>> ((24 : Int32) &&& 31).toUInt32).toInt32).toInt8.toInt32) := (own_b8 _); rw [q] at t; exact t
  have Z21 : n0 ≤ h21.size := Nat.le_trans Z19 (Keep.of_wr W21).1
  have KK21 : Keep h0 h21 [] := KK19.wr W21 (Or.inr sz_b0_5)
  have N21 := Fr.snoc X21 N19 g_b0_5
  have c23 := (((((((((S_Giop_MAGIC.ext E5).wr W7).wr W9).wr W11).wr W13).wr W15).wr W17).wr W19).wr W21)
  have ne_b0_5_w_Giop_MAGIC_24 : ¬ (b0_5 = w_Giop_MAGIC) := (Ne.symm (Nat.ne_of_lt (Nat.lt_of_lt_of_le (V_w_Giop_MAGIC).lt (Nat.le_of_eq gg5.symm))))
  have c25 := (((((((((V_w_Giop_MAGIC.ext E5).other W7 (Ne.symm ne_b0_5_w_Giop_MAGIC_24)).other W9 (Ne.symm ne_b0_5_w_Giop_MAGIC_24)).other W11 (Ne.symm ne_b0_5_w_Giop_MAGIC_24)).other W13 (Ne.symm ne_b0_5_w_Giop_MAGIC_24)).other W15 (Ne.symm ne_b0_5_w_Giop_MAGIC_24)).other W17 (Ne.symm ne_b0_5_w_Giop_MAGIC_24)).other W19 (Ne.symm ne_b0_5_w_Giop_MAGIC_24)).other W21 (Ne.symm ne_b0_5_w_Giop_MAGIC_24))
  obtain ⟨_, _, ⟨T22, L22, k22, n22⟩, -, X22, ⟨Lc22, hQ22, l22, y22, z22⟩, st22⟩ := Jvm.LawKit.callS X21 hx (y := (⟨"org/driftcairn/giop/Giop", "hasMagic", "([B)Z"⟩ : MethodName)) hown (mvT hZ (hw _ (List.mem_of_getElem? (i := 5) rfl))) (mvT hZ (hw _ (List.mem_of_getElem? (i := 6) rfl))) (mvT hZ (hw _ (List.mem_of_getElem? (i := 7) rfl))) (mvT hZ (hw _ (List.mem_of_getElem? (i := 8) rfl))) (by decide) (backOf (W := 0) (rm2_3 l Z a0 hw [] p1 p2 p3 p4 p5 w_Giop_MAGIC k_w_Giop_MAGIC b0_5 k0_5 h21 n0 Z21 c23 c25 vb21 hm1) hZ (hw _ (List.mem_of_getElem? (i := 8) rfl)) (hw _ (List.mem_of_getElem? (i := 7) rfl)) (by decide) (by decide)) (g := (mkF m 182 #[iv p0, iv p1, iv p2, iv p3, iv p4, iv p5, iv (71 : Int32), iv (own_pick p4 (1 : Int32) p1 (73 : Int32)), iv (own_pick p4 (2 : Int32) p2 (79 : Int32)), iv (own_pick p4 (3 : Int32) p3 (80 : Int32)), iv (0 : Int32), rv b0_5, iv (0 : Int32), .unset, .unset] [(.ref b0_5)])) rfl (by rw [hml]; rfl) (argsL := [(.ref b0_5)]) (rest := []) (lenOf pd_1 rfl) rfl (by show 2 * 0 + _ ≤ _; exact Nat.le_of_eq rfl) (hb hby at_182) (fun _ _ => ⟨rfl, e21, (by decide : 1 + 0 ≤ _), (by decide : 8 + 0 ≤ _)⟩)
  dsimp only [Pt.U, Pt.locs, Pt.cells, Pt.slots] at X22 l22 y22 z22 st22 hQ22
  subst l22 y22 z22
  obtain ⟨rfl, N22q, e22⟩ := hQ22
  have N22 := Fr.app N21 N22q
  obtain ⟨cl26, Ar26, -, Sz26, Nn26, Hs26, Gs26⟩ := id vb21
  have hin26 : ¬ ((0 : Int32) < 0 ∨ cl26.slots.size ≤ ((0 : Int32)).toNatClampNeg) := inb_of Sz26 ⟨by decide, by decide⟩
  obtain ⟨cl27, Ar27, -, Sz27, Nn27, Hs27, Gs27⟩ := id vb21
  have hin27 : ¬ ((1 : Int32) < 0 ∨ cl27.slots.size ≤ ((1 : Int32)).toNatClampNeg) := inb_of Sz27 ⟨by decide, by decide⟩
  obtain ⟨cl28, Ar28, -, Sz28, Nn28, Hs28, Gs28⟩ := id vb21
  have hin28 : ¬ ((2 : Int32) < 0 ∨ cl28.slots.size ≤ ((2 : Int32)).toNatClampNeg) := inb_of Sz28 ⟨by decide, by decide⟩
  obtain ⟨cl29, Ar29, -, Sz29, Nn29, Hs29, Gs29⟩ := id vb21
  have hin29 : ¬ ((3 : Int32) < 0 ∨ cl29.slots.size ≤ ((3 : Int32)).toNatClampNeg) := inb_of Sz29 ⟨by decide, by decide⟩
  obtain ⟨fs, hr, hrun, hended, hW, hsame⟩ := X22.leave (v := (some (.int (1 : Int32)))) (fun h => by rw [Bd.returns] at h; cases h)
  refine ⟨_, _, pre0 _ ?_, hrun, hended, _, _, rfl, ?_, ⟨_, rfl⟩, hW, hsame.mono (by decide) (by decide)⟩
  · show Steps p.tables e below (s₁.setTop (mkF m 0 #[iv p0, iv p1, iv p2, iv p3, iv p4, iv p5, .unset, .unset, .unset, .unset, .unset, .unset, .unset, .unset, .unset] [])) _
    refine XS.iload X0.here hx rfl (hb hby at_0) rfl ?_
    refine XS.iconst X0.here hx rfl (hb hby at_2) ?_
    refine XS.iloadN X0.here hx rfl (hb hby at_3) rfl ?_
    refine XS.bipush X0.here hx rfl (hb hby at_4) ?_
    refine st1 _ ?_
    show Steps p.tables e below (T1.setTop (mkF m 9 #[iv p0, iv p1, iv p2, iv p3, iv p4, iv p5, .unset, .unset, .unset, .unset, .unset, .unset, .unset, .unset, .unset] [(.int (own_pick p4 (0 : Int32) p0 (71 : Int32)))])) _
    rewrite [hm0]
    refine XS.istore X1.here hx rfl (hb hby at_9) rfl (l' := #[iv p0, iv p1, iv p2, iv p3, iv p4, iv p5, iv (71 : Int32), .unset, .unset, .unset, .unset, .unset, .unset, .unset, .unset]) rfl ?_
    show Steps p.tables e below (T1.setTop (mkF m 11 #[iv p0, iv p1, iv p2, iv p3, iv p4, iv p5, iv (71 : Int32), .unset, .unset, .unset, .unset, .unset, .unset, .unset, .unset] [])) _
    refine XS.iload X1.here hx rfl (hb hby at_11) rfl ?_
    refine XS.iconst X1.here hx rfl (hb hby at_13) ?_
    refine XS.iloadN X1.here hx rfl (hb hby at_14) rfl ?_
    refine XS.bipush X1.here hx rfl (hb hby at_15) ?_
    refine st2 _ ?_
    refine XS.istore X2.here hx rfl (hb hby at_20) rfl (l' := #[iv p0, iv p1, iv p2, iv p3, iv p4, iv p5, iv (71 : Int32), iv (own_pick p4 (1 : Int32) p1 (73 : Int32)), .unset, .unset, .unset, .unset, .unset, .unset, .unset]) rfl ?_
    show Steps p.tables e below (T2.setTop (mkF m 22 #[iv p0, iv p1, iv p2, iv p3, iv p4, iv p5, iv (71 : Int32), iv (own_pick p4 (1 : Int32) p1 (73 : Int32)), .unset, .unset, .unset, .unset, .unset, .unset, .unset] [])) _
    refine XS.iload X2.here hx rfl (hb hby at_22) rfl ?_
    refine XS.iconst X2.here hx rfl (hb hby at_24) ?_
    refine XS.iloadN X2.here hx rfl (hb hby at_25) rfl ?_
    refine XS.bipush X2.here hx rfl (hb hby at_26) ?_
    refine st3 _ ?_
    refine XS.istore X3.here hx rfl (hb hby at_31) rfl (l' := #[iv p0, iv p1, iv p2, iv p3, iv p4, iv p5, iv (71 : Int32), iv (own_pick p4 (1 : Int32) p1 (73 : Int32)), iv (own_pick p4 (2 : Int32) p2 (79 : Int32)), .unset, .unset, .unset, .unset, .unset, .unset]) rfl ?_
    show Steps p.tables e below (T3.setTop (mkF m 33 #[iv p0, iv p1, iv p2, iv p3, iv p4, iv p5, iv (71 : Int32), iv (own_pick p4 (1 : Int32) p1 (73 : Int32)), iv (own_pick p4 (2 : Int32) p2 (79 : Int32)), .unset, .unset, .unset, .unset, .unset, .unset] [])) _
    refine XS.iload X3.here hx rfl (hb hby at_33) rfl ?_
    refine XS.iconst X3.here hx rfl (hb hby at_35) ?_
    refine XS.iloadN X3.here hx rfl (hb hby at_36) rfl ?_
    refine XS.bipush X3.here hx rfl (hb hby at_37) ?_
    refine st4 _ ?_
    refine XS.istore X4.here hx rfl (hb hby at_42) rfl (l' := #[iv p0, iv p1, iv p2, iv p3, iv p4, iv p5, iv (71 : Int32), iv (own_pick p4 (1 : Int32) p1 (73 : Int32)), iv (own_pick p4 (2 : Int32) p2 (79 : Int32)), iv (own_pick p4 (3 : Int32) p3 (80 : Int32)), .unset, .unset, .unset, .unset, .unset]) rfl ?_
    show Steps p.tables e below (T4.setTop (mkF m 44 #[iv p0, iv p1, iv p2, iv p3, iv p4, iv p5, iv (71 : Int32), iv (own_pick p4 (1 : Int32) p1 (73 : Int32)), iv (own_pick p4 (2 : Int32) p2 (79 : Int32)), iv (own_pick p4 (3 : Int32) p3 (80 : Int32)), .unset, .unset, .unset, .unset, .unset] [])) _
    refine XS.iload X4.here hx rfl (hb hby at_44) rfl ?_
    refine XS.iconst X4.here hx rfl (hb hby at_46) ?_
    refine XS.iushr X4.here hx rfl (hb hby at_47) rfl ?_
    refine XS.iconst X4.here hx rfl (hb hby at_48) ?_
    refine XS.iand X4.here hx rfl (hb hby at_49) rfl ?_
    show Steps p.tables e below (T4.setTop (mkF m 50 #[iv p0, iv p1, iv p2, iv p3, iv p4, iv p5, iv (71 : Int32), iv (own_pick p4 (1 : Int32) p1 (73 : Int32)), iv (own_pick p4 (2 : Int32) p2 (79 : Int32)), iv (own_pick p4 (3 : Int32) p3 (80 : Int32)), .unset, .unset, .unset, .unset, .unset] [(.int (((p4.toUInt32 >>> ((4 : Int32) &&& 31).toUInt32).toInt32) &&& (1 : Int32)))])) _
    rewrite [hs]
    refine XS.ifYes X4.here hx rfl (pc0 := 50) (pc' := 57) rfl (hb hby at_50) rfl ((if0 _ _).trans (teq (by decide +kernel : (0 : Int32) = (0 : Int32))).1) (by decide) (by decide) ?_
    show Steps p.tables e below (T4.setTop (mkF m 57 #[iv p0, iv p1, iv p2, iv p3, iv p4, iv p5, iv (71 : Int32), iv (own_pick p4 (1 : Int32) p1 (73 : Int32)), iv (own_pick p4 (2 : Int32) p2 (79 : Int32)), iv (own_pick p4 (3 : Int32) p3 (80 : Int32)), .unset, .unset, .unset, .unset, .unset] [])) _
    refine XS.iconst X4.here hx rfl (hb hby at_57) ?_
    refine XS.istore X4.here hx rfl (hb hby at_58) rfl (l' := #[iv p0, iv p1, iv p2, iv p3, iv p4, iv p5, iv (71 : Int32), iv (own_pick p4 (1 : Int32) p1 (73 : Int32)), iv (own_pick p4 (2 : Int32) p2 (79 : Int32)), iv (own_pick p4 (3 : Int32) p3 (80 : Int32)), iv (0 : Int32), .unset, .unset, .unset, .unset]) rfl ?_
    refine XS.iload X4.here hx rfl (hb hby at_60) rfl ?_
    refine XS.ifYes X4.here hx rfl (pc0 := 62) (pc' := 71) rfl (hb hby at_62) rfl ((if0 _ _).trans (teq (by decide +kernel : (0 : Int32) = (0 : Int32))).1) (by decide) (by decide) ?_
    refine XS.bipush X4.here hx rfl (hb hby at_71) ?_
    refine st5 _ ?_
    show Steps p.tables e below (T5.setTop (mkF m 75 #[iv p0, iv p1, iv p2, iv p3, iv p4, iv p5, iv (71 : Int32), iv (own_pick p4 (1 : Int32) p1 (73 : Int32)), iv (own_pick p4 (2 : Int32) p2 (79 : Int32)), iv (own_pick p4 (3 : Int32) p3 (80 : Int32)), iv (0 : Int32), .unset, .unset, .unset, .unset] [(.ref b0_5)])) _
    refine XS.astore X5.here hx rfl (hb hby at_75) rfl rfl (l' := #[iv p0, iv p1, iv p2, iv p3, iv p4, iv p5, iv (71 : Int32), iv (own_pick p4 (1 : Int32) p1 (73 : Int32)), iv (own_pick p4 (2 : Int32) p2 (79 : Int32)), iv (own_pick p4 (3 : Int32) p3 (80 : Int32)), iv (0 : Int32), rv b0_5, .unset, .unset, .unset]) rfl ?_
    refine XS.aload X5.here hx rfl (hb hby at_77) rfl rfl ?_
    refine XS.iconst X5.here hx rfl (hb hby at_79) ?_
    refine XS.iload X5.here hx rfl (hb hby at_80) rfl ?_
    refine st7 _ ?_
    refine XS.aload X7.here hx rfl (hb hby at_83) rfl rfl ?_
    show Steps p.tables e below (T7.setTop (mkF m 85 #[iv p0, iv p1, iv p2, iv p3, iv p4, iv p5, iv (71 : Int32), iv (own_pick p4 (1 : Int32) p1 (73 : Int32)), iv (own_pick p4 (2 : Int32) p2 (79 : Int32)), iv (own_pick p4 (3 : Int32) p3 (80 : Int32)), iv (0 : Int32), rv b0_5, .unset, .unset, .unset] [(.ref b0_5)])) _
    refine XS.iconst X7.here hx rfl (hb hby at_85) ?_
    refine XS.iload X7.here hx rfl (hb hby at_86) rfl ?_
    refine st9 _ ?_
    refine XS.aload X9.here hx rfl (hb hby at_89) rfl rfl ?_
    refine XS.iconst X9.here hx rfl (hb hby at_91) ?_
    refine XS.iload X9.here hx rfl (hb hby at_92) rfl ?_
    show Steps p.tables e below (T9.setTop (mkF m 94 #[iv p0, iv p1, iv p2, iv p3, iv p4, iv p5, iv (71 : Int32), iv (own_pick p4 (1 : Int32) p1 (73 : Int32)), iv (own_pick p4 (2 : Int32) p2 (79 : Int32)), iv (own_pick p4 (3 : Int32) p3 (80 : Int32)), iv (0 : Int32), rv b0_5, .unset, .unset, .unset] [(.int (own_pick p4 (2 : Int32) p2 (79 : Int32))), (.int (2 : Int32)), (.ref b0_5)])) _
    refine st11 _ ?_
    refine XS.aload X11.here hx rfl (hb hby at_95) rfl rfl ?_
    refine XS.iconst X11.here hx rfl (hb hby at_97) ?_
    refine XS.iload X11.here hx rfl (hb hby at_98) rfl ?_
    refine st13 _ ?_
    refine XS.iload X13.here hx rfl (hb hby at_101) rfl ?_
    show Steps p.tables e below (T13.setTop (mkF m 103 #[iv p0, iv p1, iv p2, iv p3, iv p4, iv p5, iv (71 : Int32), iv (own_pick p4 (1 : Int32) p1 (73 : Int32)), iv (own_pick p4 (2 : Int32) p2 (79 : Int32)), iv (own_pick p4 (3 : Int32) p3 (80 : Int32)), iv (0 : Int32), rv b0_5, .unset, .unset, .unset] [(.int (0 : Int32))])) _
    refine XS.ifNo X13.here hx rfl (hb hby at_103) rfl ((if0 _ _).trans (teq (by decide +kernel : (0 : Int32) = (0 : Int32))).2) ?_
    refine XS.aload X13.here hx rfl (hb hby at_106) rfl rfl ?_
    refine XS.iconst X13.here hx rfl (hb hby at_108) ?_
    refine XS.iload X13.here hx rfl (hb hby at_109) rfl ?_
    refine XS.i2b X13.here hx rfl (hb hby at_111) rfl ?_
    refine st15 _ ?_
    show Steps p.tables e below (T15.setTop (mkF m 113 #[iv p0, iv p1, iv p2, iv p3, iv p4, iv p5, iv (71 : Int32), iv (own_pick p4 (1 : Int32) p1 (73 : Int32)), iv (own_pick p4 (2 : Int32) p2 (79 : Int32)), iv (own_pick p4 (3 : Int32) p3 (80 : Int32)), iv (0 : Int32), rv b0_5, .unset, .unset, .unset] [])) _
    refine XS.aload X15.here hx rfl (hb hby at_113) rfl rfl ?_
    refine XS.iconst X15.here hx rfl (hb hby at_115) ?_
    refine XS.iload X15.here hx rfl (hb hby at_116) rfl ?_
    refine XS.bipush X15.here hx rfl (hb hby at_118) ?_
    refine XS.iushr X15.here hx rfl (hb hby at_120) rfl ?_
    refine XS.i2b X15.here hx rfl (hb hby at_121) rfl ?_
    show Steps p.tables e below (T15.setTop (mkF m 122 #[iv p0, iv p1, iv p2, iv p3, iv p4, iv p5, iv (71 : Int32), iv (own_pick p4 (1 : Int32) p1 (73 : Int32)), iv (own_pick p4 (2 : Int32) p2 (79 : Int32)), iv (own_pick p4 (3 : Int32) p3 (80 : Int32)), iv (0 : Int32), rv b0_5, .unset, .unset, .unset] [(.int (((p5.toUInt32 >>> ((8 : Int32) &&& 31).toUInt32).toInt32).toInt8.toInt32)), (.int (5 : Int32)), (.ref b0_5)])) _
    refine st17 _ ?_
    refine XS.aload X17.here hx rfl (hb hby at_123) rfl rfl ?_
    refine XS.bipush X17.here hx rfl (hb hby at_125) ?_
    refine XS.iload X17.here hx rfl (hb hby at_127) rfl ?_
    refine XS.bipush X17.here hx rfl (hb hby at_129) ?_
    refine XS.iushr X17.here hx rfl (hb hby at_131) rfl ?_
    show Steps p.tables e below (T17.setTop (mkF m 132 #[iv p0, iv p1, iv p2, iv p3, iv p4, iv p5, iv (71 : Int32), iv (own_pick p4 (1 : Int32) p1 (73 : Int32)), iv (own_pick p4 (2 : Int32) p2 (79 : Int32)), iv (own_pick p4 (3 : Int32) p3 (80 : Int32)), iv (0 : Int32), rv b0_5, .unset, .unset, .unset] [(.int ((p5.toUInt32 >>> ((16 : Int32) &&& 31).toUInt32).toInt32)), (.int (6 : Int32)), (.ref b0_5)])) _
    refine XS.i2b X17.here hx rfl (hb hby at_132) rfl ?_
    refine st19 _ ?_
    refine XS.aload X19.here hx rfl (hb hby at_134) rfl rfl ?_
    refine XS.bipush X19.here hx rfl (hb hby at_136) ?_
    refine XS.iload X19.here hx rfl (hb hby at_138) rfl ?_
    refine XS.bipush X19.here hx rfl (hb hby at_140) ?_
    show Steps p.tables e below (T19.setTop (mkF m 142 #[iv p0, iv p1, iv p2, iv p3, iv p4, iv p5, iv (71 : Int32), iv (own_pick p4 (1 : Int32) p1 (73 : Int32)), iv (own_pick p4 (2 : Int32) p2 (79 : Int32)), iv (own_pick p4 (3 : Int32) p3 (80 : Int32)), iv (0 : Int32), rv b0_5, .unset, .unset, .unset] [(.int (24 : Int32)), (.int p5), (.int (7 : Int32)), (.ref b0_5)])) _
    refine XS.iushr X19.here hx rfl (hb hby at_142) rfl ?_
    refine XS.i2b X19.here hx rfl (hb hby at_143) rfl ?_
    refine st21 _ ?_
    refine XS.iload X21.here hx rfl (hb hby at_145) rfl ?_
    refine XS.bipush X21.here hx rfl (hb hby at_147) ?_
    refine XS.icmpNo X21.here hx rfl (hb hby at_149) rfl (teq (by decide +kernel : (71 : Int32) = (71 : Int32))).2 ?_
    show Steps p.tables e below (T21.setTop (mkF m 152 #[iv p0, iv p1, iv p2, iv p3, iv p4, iv p5, iv (71 : Int32), iv (own_pick p4 (1 : Int32) p1 (73 : Int32)), iv (own_pick p4 (2 : Int32) p2 (79 : Int32)), iv (own_pick p4 (3 : Int32) p3 (80 : Int32)), iv (0 : Int32), rv b0_5, .unset, .unset, .unset] [])) _
    refine XS.iload X21.here hx rfl (hb hby at_152) rfl ?_
    refine XS.bipush X21.here hx rfl (hb hby at_154) ?_
    refine XS.icmpYes X21.here hx rfl (pc0 := 156) (pc' := 177) rfl (hb hby at_156) rfl (feq hm1).2 (by decide) (by decide) ?_
    refine XS.iconst X21.here hx rfl (hb hby at_177) ?_
    refine XS.istore X21.here hx rfl (hb hby at_178) rfl (l' := #[iv p0, iv p1, iv p2, iv p3, iv p4, iv p5, iv (71 : Int32), iv (own_pick p4 (1 : Int32) p1 (73 : Int32)), iv (own_pick p4 (2 : Int32) p2 (79 : Int32)), iv (own_pick p4 (3 : Int32) p3 (80 : Int32)), iv (0 : Int32), rv b0_5, iv (0 : Int32), .unset, .unset]) rfl ?_
    refine XS.aload X21.here hx rfl (hb hby at_180) rfl rfl ?_
    show Steps p.tables e below (T21.setTop (mkF m 182 #[iv p0, iv p1, iv p2, iv p3, iv p4, iv p5, iv (71 : Int32), iv (own_pick p4 (1 : Int32) p1 (73 : Int32)), iv (own_pick p4 (2 : Int32) p2 (79 : Int32)), iv (own_pick p4 (3 : Int32) p3 (80 : Int32)), iv (0 : Int32), rv b0_5, iv (0 : Int32), .unset, .unset] [(.ref b0_5)])) _
    refine st22 _ ?_
    refine XS.istore X22.here hx rfl (hb hby at_185) rfl (l' := #[iv p0, iv p1, iv p2, iv p3, iv p4, iv p5, iv (71 : Int32), iv (own_pick p4 (1 : Int32) p1 (73 : Int32)), iv (own_pick p4 (2 : Int32) p2 (79 : Int32)), iv (own_pick p4 (3 : Int32) p3 (80 : Int32)), iv (0 : Int32), rv b0_5, iv (0 : Int32), iv (0 : Int32), .unset]) rfl ?_
    refine XS.aload X22.here hx rfl (hb hby at_187) rfl rfl ?_
    refine XS.iconst X22.here hx rfl (hb hby at_189) ?_
    refine X22.baloadBytes hx (j := (0 : Int32)) (v := (.int (71 : Int32))) (by rw [e22]; exact Ar26.1) (State.isArrayOf_alike hZ.alike Ar26.2.1) Ar26.2.2 hin26 (Hs26.at hin26 rfl) (g := (mkF m 190 #[iv p0, iv p1, iv p2, iv p3, iv p4, iv p5, iv (71 : Int32), iv (own_pick p4 (1 : Int32) p1 (73 : Int32)), iv (own_pick p4 (2 : Int32) p2 (79 : Int32)), iv (own_pick p4 (3 : Int32) p3 (80 : Int32)), iv (0 : Int32), rv b0_5, iv (0 : Int32), iv (0 : Int32), .unset] [(.int (0 : Int32)), (.ref b0_5)])) rfl rfl (hb hby at_190) _ ?_
    refine XS.iload X22.here hx rfl (hb hby at_191) rfl ?_
    show Steps p.tables e below (T22.setTop (mkF m 193 #[iv p0, iv p1, iv p2, iv p3, iv p4, iv p5, iv (71 : Int32), iv (own_pick p4 (1 : Int32) p1 (73 : Int32)), iv (own_pick p4 (2 : Int32) p2 (79 : Int32)), iv (own_pick p4 (3 : Int32) p3 (80 : Int32)), iv (0 : Int32), rv b0_5, iv (0 : Int32), iv (0 : Int32), .unset] [(.int (71 : Int32)), (.int (71 : Int32))])) _
    refine XS.icmpNo X22.here hx rfl (hb hby at_193) rfl (teq (by decide +kernel : (71 : Int32) = (71 : Int32))).2 ?_
    refine XS.aload X22.here hx rfl (hb hby at_196) rfl rfl ?_
    refine XS.iconst X22.here hx rfl (hb hby at_198) ?_
    refine X22.baloadBytes hx (j := (1 : Int32)) (v := (.int (own_pick p4 (1 : Int32) p1 (73 : Int32)))) (by rw [e22]; exact Ar27.1) (State.isArrayOf_alike hZ.alike Ar27.2.1) Ar27.2.2 hin27 (Hs27.at hin27 rfl) (g := (mkF m 199 #[iv p0, iv p1, iv p2, iv p3, iv p4, iv p5, iv (71 : Int32), iv (own_pick p4 (1 : Int32) p1 (73 : Int32)), iv (own_pick p4 (2 : Int32) p2 (79 : Int32)), iv (own_pick p4 (3 : Int32) p3 (80 : Int32)), iv (0 : Int32), rv b0_5, iv (0 : Int32), iv (0 : Int32), .unset] [(.int (1 : Int32)), (.ref b0_5)])) rfl rfl (hb hby at_199) _ ?_
    refine XS.iload X22.here hx rfl (hb hby at_200) rfl ?_
    refine XS.icmpNo X22.here hx rfl (hb hby at_202) rfl (teq (rfl : (own_pick p4 (1 : Int32) p1 (73 : Int32)) = (own_pick p4 (1 : Int32) p1 (73 : Int32)))).2 ?_
    show Steps p.tables e below (T22.setTop (mkF m 205 #[iv p0, iv p1, iv p2, iv p3, iv p4, iv p5, iv (71 : Int32), iv (own_pick p4 (1 : Int32) p1 (73 : Int32)), iv (own_pick p4 (2 : Int32) p2 (79 : Int32)), iv (own_pick p4 (3 : Int32) p3 (80 : Int32)), iv (0 : Int32), rv b0_5, iv (0 : Int32), iv (0 : Int32), .unset] [])) _
    refine XS.aload X22.here hx rfl (hb hby at_205) rfl rfl ?_
    refine XS.iconst X22.here hx rfl (hb hby at_207) ?_
    refine X22.baloadBytes hx (j := (2 : Int32)) (v := (.int (own_pick p4 (2 : Int32) p2 (79 : Int32)))) (by rw [e22]; exact Ar28.1) (State.isArrayOf_alike hZ.alike Ar28.2.1) Ar28.2.2 hin28 (Hs28.at hin28 rfl) (g := (mkF m 208 #[iv p0, iv p1, iv p2, iv p3, iv p4, iv p5, iv (71 : Int32), iv (own_pick p4 (1 : Int32) p1 (73 : Int32)), iv (own_pick p4 (2 : Int32) p2 (79 : Int32)), iv (own_pick p4 (3 : Int32) p3 (80 : Int32)), iv (0 : Int32), rv b0_5, iv (0 : Int32), iv (0 : Int32), .unset] [(.int (2 : Int32)), (.ref b0_5)])) rfl rfl (hb hby at_208) _ ?_
    refine XS.iload X22.here hx rfl (hb hby at_209) rfl ?_
    refine XS.icmpNo X22.here hx rfl (hb hby at_211) rfl (teq (rfl : (own_pick p4 (2 : Int32) p2 (79 : Int32)) = (own_pick p4 (2 : Int32) p2 (79 : Int32)))).2 ?_
    refine XS.aload X22.here hx rfl (hb hby at_214) rfl rfl ?_
    show Steps p.tables e below (T22.setTop (mkF m 216 #[iv p0, iv p1, iv p2, iv p3, iv p4, iv p5, iv (71 : Int32), iv (own_pick p4 (1 : Int32) p1 (73 : Int32)), iv (own_pick p4 (2 : Int32) p2 (79 : Int32)), iv (own_pick p4 (3 : Int32) p3 (80 : Int32)), iv (0 : Int32), rv b0_5, iv (0 : Int32), iv (0 : Int32), .unset] [(.ref b0_5)])) _
    refine XS.iconst X22.here hx rfl (hb hby at_216) ?_
    refine X22.baloadBytes hx (j := (3 : Int32)) (v := (.int (own_pick p4 (3 : Int32) p3 (80 : Int32)))) (by rw [e22]; exact Ar29.1) (State.isArrayOf_alike hZ.alike Ar29.2.1) Ar29.2.2 hin29 (Hs29.at hin29 rfl) (g := (mkF m 217 #[iv p0, iv p1, iv p2, iv p3, iv p4, iv p5, iv (71 : Int32), iv (own_pick p4 (1 : Int32) p1 (73 : Int32)), iv (own_pick p4 (2 : Int32) p2 (79 : Int32)), iv (own_pick p4 (3 : Int32) p3 (80 : Int32)), iv (0 : Int32), rv b0_5, iv (0 : Int32), iv (0 : Int32), .unset] [(.int (3 : Int32)), (.ref b0_5)])) rfl rfl (hb hby at_217) _ ?_
    refine XS.iload X22.here hx rfl (hb hby at_218) rfl ?_
    refine XS.icmpNo X22.here hx rfl (hb hby at_220) rfl (teq (rfl : (own_pick p4 (3 : Int32) p3 (80 : Int32)) = (own_pick p4 (3 : Int32) p3 (80 : Int32)))).2 ?_
    refine XS.iconst X22.here hx rfl (hb hby at_223) ?_
    refine XS.goto X22.here hx rfl (pc0 := 224) (pc' := 228) rfl (hb hby at_224) (by decide) (by decide) ?_
    show Steps p.tables e below (T22.setTop (mkF m 228 #[iv p0, iv p1, iv p2, iv p3, iv p4, iv p5, iv (71 : Int32), iv (own_pick p4 (1 : Int32) p1 (73 : Int32)), iv (own_pick p4 (2 : Int32) p2 (79 : Int32)), iv (own_pick p4 (3 : Int32) p3 (80 : Int32)), iv (0 : Int32), rv b0_5, iv (0 : Int32), iv (0 : Int32), .unset] [(.int (1 : Int32))])) _
    refine XS.istore X22.here hx rfl (hb hby at_228) rfl (l' := #[iv p0, iv p1, iv p2, iv p3, iv p4, iv p5, iv (71 : Int32), iv (own_pick p4 (1 : Int32) p1 (73 : Int32)), iv (own_pick p4 (2 : Int32) p2 (79 : Int32)), iv (own_pick p4 (3 : Int32) p3 (80 : Int32)), iv (0 : Int32), rv b0_5, iv (0 : Int32), iv (0 : Int32), iv (1 : Int32)]) rfl ?_
    refine XS.iload X22.here hx rfl (hb hby at_230) rfl ?_
    refine XS.iload X22.here hx rfl (hb hby at_232) rfl ?_
    refine XS.icmpNo X22.here hx rfl (hb hby at_234) rfl (teq (by decide +kernel : (0 : Int32) = (0 : Int32))).2 ?_
    refine XS.iload X22.here hx rfl (hb hby at_237) rfl ?_
    refine XS.ifNo X22.here hx rfl (hb hby at_239) rfl ((if0 _ _).trans (feq (by decide +kernel : ¬ ((1 : Int32) = (0 : Int32)))).1) ?_
    show Steps p.tables e below (T22.setTop (mkF m 242 #[iv p0, iv p1, iv p2, iv p3, iv p4, iv p5, iv (71 : Int32), iv (own_pick p4 (1 : Int32) p1 (73 : Int32)), iv (own_pick p4 (2 : Int32) p2 (79 : Int32)), iv (own_pick p4 (3 : Int32) p3 (80 : Int32)), iv (0 : Int32), rv b0_5, iv (0 : Int32), iv (0 : Int32), iv (1 : Int32)] [])) _
    refine XS.iconst X22.here hx rfl (hb hby at_242) ?_
    refine XS.goto X22.here hx rfl (pc0 := 243) (pc' := 247) rfl (hb hby at_243) (by decide) (by decide) ?_
    exact retN X22 hx (t := .boolean) Bd.returns (by simp) (hb hby at_247) hr
  · exact ⟨rfl, N22⟩
set_option maxRecDepth 65536 in
set_option maxHeartbeats 40000000 in
theorem rm2_4 (l : Launch) (Z : State) (a0 : Array Value) (hw : ∀ d ∈ tables_1, d.before a0 Z = true) (ws : List Jvm.Cond) (p0 : Int32) (p1 : Int32) (p2 : Int32) (p3 : Int32) (p4 : Int32) (p5 : Int32) (w_Giop_MAGIC : Addr) (k_w_Giop_MAGIC : ClassId) (b0_5 : Addr) (k0_5 : ClassId) (h0 : Heap) (n0 : Nat) (Z0 : n0 ≤ h0.size) (S_Giop_MAGIC : Sta Z h0 "org/driftcairn/giop/Giop" "MAGIC" "[B" (.ref w_Giop_MAGIC)) (V_w_Giop_MAGIC : Arv Z h0 w_Giop_MAGIC k_w_Giop_MAGIC .byte (4 : Int32) [(.int (71 : Int32)), (.int (73 : Int32)), (.int (79 : Int32)), (.int (80 : Int32))] (.int (0 : Int32))) (V_b0_5 : Arv Z h0 b0_5 k0_5 .byte (8 : Int32) [(.int (own_pick p4 (0 : Int32) p0 (71 : Int32))), (.int (own_pick p4 (1 : Int32) p1 (73 : Int32))), (.int (own_pick p4 (2 : Int32) p2 (79 : Int32))), (.int (own_pick p4 (3 : Int32) p3 (80 : Int32))), (.int (p5.toInt8.toInt32)), (.int (((p5.toUInt32 >>> ((8 : Int32) &&& 31).toUInt32).toInt32).toInt8.toInt32)), (.int (((p5.toUInt32 >>> ((16 : Int32) &&& 31).toUInt32).toInt32).toInt8.toInt32)), (.int (((p5.toUInt32 >>> ((24 : Int32) &&& 31).toUInt32).toInt32).toInt8.toInt32))] (.int (0 : Int32))) (hm0 : ¬ ((own_pick p4 (0 : Int32) p0 (71 : Int32)) = (71 : Int32))) :
    MetFree l (⟨"org/driftcairn/giop/Giop", "hasMagic", "([B)Z"⟩ : MethodName) (head1 (Jvm.Cond.code (⟨"org/driftcairn/giop/Giop", "hasMagic", "([B)Z"⟩ : MethodName) prog_59_method_2_code 2 (some .boolean) :: ws) ({ frames := 0, cells := 0, slots := 0, locals := 0 } : Room)) (fun a U => a = #[(.ref b0_5)] ∧ Z.Warmed39 U.vm ∧ U.heap = h0) (fun _ _ _ _ _ => True) (fun _ U o U' => ∃ v L, o = .returned v ∧ own_QP (some (.int (0 : Int32))) h0 n0 v U'.heap L ∧ FrameEnd U o U' L ({ frames := 0, cells := 0, slots := 0, locals := 0 } : Room).cells ({ frames := 0, cells := 0, slots := 0, locals := 0 } : Room).slots) := by
  refine MetFree.of_bodySF (plainFor_of_name pn_1) hisR ?_
  intro p e s m args below meth c s₁ Bd hml0 hP hK
  obtain ⟨rfl, hZ, hh⟩ := hP
  have hx := Bd.exec
  have hby := Bd.bytes
  have hml : c.maxLocals = 2 := hml0
  have hown : s.vm.findClass "org/driftcairn/giop/Giop" = some m.cls := findClass_of_methodNamed Bd.named
  have hnm := (name_of_methodNamed Bd.named Bd.method).1
  have X0 : Stand p l e ({ frames := 0, cells := 0, slots := 0, locals := 0 } : Room) s m #[(.ref b0_5)] below meth c s₁ [] 0 0 := Stand.of_body Bd
  have e0 : s₁.heap = h0 := by rw [← hh, Bd.state]; rfl
  have N0 := Fr.nil n0
  have pre0 : ∀ t, Steps p.tables e below (s₁.setTop (mkF m 0 #[rv b0_5, .unset] [])) t → Steps p.tables e below (s₁.setTop (entryFrame m #[(.ref b0_5)] 2)) t := fun t k => castTop (ef_2_R m b0_5) k
  obtain ⟨T1, X1, e1, st1⟩ := getS2 X0 hx hZ hown (host := "") (Or.inl (hw _ (List.mem_of_getElem? (i := 9) rfl))) Via.refl e0 S_Giop_MAGIC (g := (mkF m 3 #[rv b0_5, iv (0 : Int32)] [(.int (0 : Int32))])) rfl (hb hby d2_3)
  obtain ⟨cl2, Ar2, -, Sz2, Nn2, -, -⟩ := id V_w_Giop_MAGIC
  obtain ⟨cl3, Ar3, -, Sz3, Nn3, Hs3, Gs3⟩ := id V_b0_5
  have hin3 : ¬ ((0 : Int32) < 0 ∨ cl3.slots.size ≤ ((0 : Int32)).toNatClampNeg) := inb_of Sz3 ⟨by decide, by decide⟩
  obtain ⟨T4, X4, e4, st4⟩ := getS2 X1 hx hZ hown (host := "") (Or.inl (hw _ (List.mem_of_getElem? (i := 9) rfl))) Via.refl e1 S_Giop_MAGIC (g := (mkF m 13 #[rv b0_5, iv (0 : Int32)] [(.int (own_pick p4 (0 : Int32) p0 (71 : Int32)))])) rfl (hb hby d2_13)
  obtain ⟨cl5, Ar5, -, Sz5, Nn5, Hs5, Gs5⟩ := id V_w_Giop_MAGIC
  have hin5 : ¬ ((0 : Int32) < 0 ∨ cl5.slots.size ≤ ((0 : Int32)).toNatClampNeg) := inb_of Sz5 ⟨by decide, by decide⟩
  obtain ⟨fs, hr, hrun, hended, hW, hsame⟩ := X4.leave (v := (some (.int (0 : Int32)))) (fun h => by rw [Bd.returns] at h; cases h)
  refine ⟨_, _, pre0 _ ?_, hrun, hended, _, _, rfl, ?_, ⟨_, rfl⟩, hW, hsame.mono (by decide) (by decide)⟩
  · show Steps p.tables e below (s₁.setTop (mkF m 0 #[rv b0_5, .unset] [])) _
    refine XS.iconst X0.here hx rfl (hb hby d2_0) ?_
    refine XS.istoreN X0.here hx rfl (hb hby d2_1) rfl (l' := #[rv b0_5, iv (0 : Int32)]) rfl ?_
    refine XS.iloadN X0.here hx rfl (hb hby d2_2) rfl ?_
    refine st1 _ ?_
    refine X1.arraylength hx (by rw [e1]; exact Ar2.1) (State.isArrayOf_alike hZ.alike Ar2.2.1) (g := (mkF m 6 #[rv b0_5, iv (0 : Int32)] [(.ref w_Giop_MAGIC), (.int (0 : Int32))])) rfl rfl (hb hby d2_6) _ ?_
    rw [len_of Sz2 Nn2]
    refine XS.icmpNo X1.here hx rfl (hb hby d2_7) rfl (tlt (by decide +kernel : (0 : Int32) < (4 : Int32))).2.1 ?_
    show Steps p.tables e below (T1.setTop (mkF m 10 #[rv b0_5, iv (0 : Int32)] [])) _
    refine XS.aloadN X1.here hx rfl (hb hby d2_10) rfl rfl ?_
    refine XS.iloadN X1.here hx rfl (hb hby d2_11) rfl ?_
    refine X1.baloadBytes hx (j := (0 : Int32)) (v := (.int (own_pick p4 (0 : Int32) p0 (71 : Int32)))) (by rw [e1]; exact Ar3.1) (State.isArrayOf_alike hZ.alike Ar3.2.1) Ar3.2.2 hin3 (Hs3.at hin3 rfl) (g := (mkF m 12 #[rv b0_5, iv (0 : Int32)] [(.int (0 : Int32)), (.ref b0_5)])) rfl rfl (hb hby d2_12) _ ?_
    refine st4 _ ?_
    refine XS.iloadN X4.here hx rfl (hb hby d2_16) rfl ?_
    refine X4.baloadBytes hx (j := (0 : Int32)) (v := (.int (71 : Int32))) (by rw [e4]; exact Ar5.1) (State.isArrayOf_alike hZ.alike Ar5.2.1) Ar5.2.2 hin5 (Hs5.at hin5 rfl) (g := (mkF m 17 #[rv b0_5, iv (0 : Int32)] [(.int (0 : Int32)), (.ref w_Giop_MAGIC), (.int (own_pick p4 (0 : Int32) p0 (71 : Int32)))])) rfl rfl (hb hby d2_17) _ ?_
    show Steps p.tables e below (T4.setTop (mkF m 18 #[rv b0_5, iv (0 : Int32)] [(.int (71 : Int32)), (.int (own_pick p4 (0 : Int32) p0 (71 : Int32)))])) _
    refine XS.icmpNo X4.here hx rfl (hb hby d2_18) rfl (feq hm0).1 ?_
    refine XS.iconst X4.here hx rfl (hb hby d2_21) ?_
    exact retN X4 hx (t := .boolean) Bd.returns (by simp) (hb hby d2_22) hr
  · exact ⟨rfl, N0, e4⟩
set_option maxRecDepth 65536 in
set_option maxHeartbeats 40000000 in
theorem rm0_4 (l : Launch) (Z : State) (a0 : Array Value) (hw : ∀ d ∈ tables_1, d.before a0 Z = true) (ws : List Jvm.Cond) (p0 : Int32) (p1 : Int32) (p2 : Int32) (p3 : Int32) (p4 : Int32) (p5 : Int32) (w_Giop_MAGIC : Addr) (k_w_Giop_MAGIC : ClassId) (h0 : Heap) (n0 : Nat) (Z0 : n0 ≤ h0.size) (hs : (((p4.toUInt32 >>> ((4 : Int32) &&& 31).toUInt32).toInt32) &&& (1 : Int32)) = (0 : Int32)) (hm0 : ¬ ((own_pick p4 (0 : Int32) p0 (71 : Int32)) = (71 : Int32))) (S_Giop_MAGIC : Sta Z h0 "org/driftcairn/giop/Giop" "MAGIC" "[B" (.ref w_Giop_MAGIC)) (V_w_Giop_MAGIC : Arv Z h0 w_Giop_MAGIC k_w_Giop_MAGIC .byte (4 : Int32) [(.int (71 : Int32)), (.int (73 : Int32)), (.int (79 : Int32)), (.int (80 : Int32))] (.int (0 : Int32))) :
    MetFree l x (head1 (Jvm.Cond.code x code maxLocals ret :: ws) room_1) (fun a U => a = #[(.int p0), (.int p1), (.int p2), (.int p3), (.int p4), (.int p5)] ∧ Z.Warmed39 U.vm ∧ U.heap = h0) (fun _ _ _ _ _ => True) (fun _ U o U' => ∃ v L, o = .returned v ∧ own_QL n0 v U'.heap L ∧ FrameEnd U o U' L room_1.cells room_1.slots) := by
  refine MetFree.of_bodySF (plainFor_of_name pn_0) hisR ?_
  intro p e s m args below meth c s₁ Bd hml0 hP hK
  obtain ⟨rfl, hZ, hh⟩ := hP
  have hx := Bd.exec
  have hby := Bd.bytes
  have hml : c.maxLocals = 15 := hml0
  have hown : s.vm.findClass "org/driftcairn/giop/GiopHasMagicPinLaw" = some m.cls := findClass_of_methodNamed Bd.named
  have hnm := (name_of_methodNamed Bd.named Bd.method).1
  have X0 : Stand p l e room_1 s m #[(.int p0), (.int p1), (.int p2), (.int p3), (.int p4), (.int p5)] below meth c s₁ [] 0 0 := Stand.of_body Bd
  have e0 : s₁.heap = h0 := by rw [← hh, Bd.state]; rfl
  have N0 := Fr.nil n0
  have pre0 : ∀ t, Steps p.tables e below (s₁.setTop (mkF m 0 #[iv p0, iv p1, iv p2, iv p3, iv p4, iv p5, .unset, .unset, .unset, .unset, .unset, .unset, .unset, .unset, .unset] [])) t → Steps p.tables e below (s₁.setTop (entryFrame m #[(.int p0), (.int p1), (.int p2), (.int p3), (.int p4), (.int p5)] maxLocals)) t := fun t k => castTop (ef_0_IIIIII m p0 p1 p2 p3 p4 p5) k
  obtain ⟨_, _, ⟨T1, L1, k1, n1⟩, -, X1, ⟨Lc1, hQ1, l1, y1, z1⟩, st1⟩ := Jvm.LawKit.callS X0 hx (y := (⟨"org/driftcairn/giop/GiopHasMagicPinLaw", "pick", "(IIIC)B"⟩ : MethodName)) hown (mvT hZ (hw _ (List.mem_of_getElem? (i := 0) rfl))) (mvT hZ (hw _ (List.mem_of_getElem? (i := 1) rfl))) (mvT hZ (hw _ (List.mem_of_getElem? (i := 2) rfl))) (mvT hZ (hw _ (List.mem_of_getElem? (i := 3) rfl))) (by decide) (backOf (W := 0) (rk_pick l Z a0 hw [] p4 (0 : Int32) p0 (71 : Int32) h0 n0 Z0 ) hZ (hw _ (List.mem_of_getElem? (i := 3) rfl)) (hw _ (List.mem_of_getElem? (i := 2) rfl)) (by decide) (by decide)) (g := (mkF m 6 #[iv p0, iv p1, iv p2, iv p3, iv p4, iv p5, .unset, .unset, .unset, .unset, .unset, .unset, .unset, .unset, .unset] [(.int (71 : Int32)), (.int p0), (.int (0 : Int32)), (.int p4)])) rfl (by rw [hml]; rfl) (argsL := [(.int p4), (.int (0 : Int32)), (.int p0), (.int (71 : Int32))]) (rest := []) (lenOf pd_0 rfl) rfl (by show 2 * 0 + _ ≤ _; exact Nat.le_of_eq rfl) (hb hby at_6) (fun _ _ => ⟨rfl, e0, (by decide : 0 + 0 ≤ _), (by decide : 0 + 0 ≤ _)⟩)
  dsimp only [Pt.U, Pt.locs, Pt.cells, Pt.slots] at X1 l1 y1 z1 st1 hQ1
  subst l1 y1 z1
  obtain ⟨rfl, N1q, e1⟩ := hQ1
  have N1 := Fr.app N0 N1q
  obtain ⟨_, _, ⟨T2, L2, k2, n2⟩, -, X2, ⟨Lc2, hQ2, l2, y2, z2⟩, st2⟩ := Jvm.LawKit.callS X1 hx (y := (⟨"org/driftcairn/giop/GiopHasMagicPinLaw", "pick", "(IIIC)B"⟩ : MethodName)) hown (mvT hZ (hw _ (List.mem_of_getElem? (i := 0) rfl))) (mvT hZ (hw _ (List.mem_of_getElem? (i := 1) rfl))) (mvT hZ (hw _ (List.mem_of_getElem? (i := 2) rfl))) (mvT hZ (hw _ (List.mem_of_getElem? (i := 3) rfl))) (by decide) (backOf (W := 0) (rk_pick l Z a0 hw [] p4 (1 : Int32) p1 (73 : Int32) h0 n0 Z0 ) hZ (hw _ (List.mem_of_getElem? (i := 3) rfl)) (hw _ (List.mem_of_getElem? (i := 2) rfl)) (by decide) (by decide)) (g := (mkF m 17 #[iv p0, iv p1, iv p2, iv p3, iv p4, iv p5, iv (own_pick p4 (0 : Int32) p0 (71 : Int32)), .unset, .unset, .unset, .unset, .unset, .unset, .unset, .unset] [(.int (73 : Int32)), (.int p1), (.int (1 : Int32)), (.int p4)])) rfl (by rw [hml]; rfl) (argsL := [(.int p4), (.int (1 : Int32)), (.int p1), (.int (73 : Int32))]) (rest := []) (lenOf pd_0 rfl) rfl (by show 2 * 0 + _ ≤ _; exact Nat.le_of_eq rfl) (hb hby at_17) (fun _ _ => ⟨rfl, e1, (by decide : 0 + 0 ≤ _), (by decide : 0 + 0 ≤ _)⟩)
  dsimp only [Pt.U, Pt.locs, Pt.cells, Pt.slots] at X2 l2 y2 z2 st2 hQ2
  subst l2 y2 z2
  obtain ⟨rfl, N2q, e2⟩ := hQ2
  have N2 := Fr.app N1 N2q
  obtain ⟨_, _, ⟨T3, L3, k3, n3⟩, -, X3, ⟨Lc3, hQ3, l3, y3, z3⟩, st3⟩ := Jvm.LawKit.callS X2 hx (y := (⟨"org/driftcairn/giop/GiopHasMagicPinLaw", "pick", "(IIIC)B"⟩ : MethodName)) hown (mvT hZ (hw _ (List.mem_of_getElem? (i := 0) rfl))) (mvT hZ (hw _ (List.mem_of_getElem? (i := 1) rfl))) (mvT hZ (hw _ (List.mem_of_getElem? (i := 2) rfl))) (mvT hZ (hw _ (List.mem_of_getElem? (i := 3) rfl))) (by decide) (backOf (W := 0) (rk_pick l Z a0 hw [] p4 (2 : Int32) p2 (79 : Int32) h0 n0 Z0 ) hZ (hw _ (List.mem_of_getElem? (i := 3) rfl)) (hw _ (List.mem_of_getElem? (i := 2) rfl)) (by decide) (by decide)) (g := (mkF m 28 #[iv p0, iv p1, iv p2, iv p3, iv p4, iv p5, iv (own_pick p4 (0 : Int32) p0 (71 : Int32)), iv (own_pick p4 (1 : Int32) p1 (73 : Int32)), .unset, .unset, .unset, .unset, .unset, .unset, .unset] [(.int (79 : Int32)), (.int p2), (.int (2 : Int32)), (.int p4)])) rfl (by rw [hml]; rfl) (argsL := [(.int p4), (.int (2 : Int32)), (.int p2), (.int (79 : Int32))]) (rest := []) (lenOf pd_0 rfl) rfl (by show 2 * 0 + _ ≤ _; exact Nat.le_of_eq rfl) (hb hby at_28) (fun _ _ => ⟨rfl, e2, (by decide : 0 + 0 ≤ _), (by decide : 0 + 0 ≤ _)⟩)
  dsimp only [Pt.U, Pt.locs, Pt.cells, Pt.slots] at X3 l3 y3 z3 st3 hQ3
  subst l3 y3 z3
  obtain ⟨rfl, N3q, e3⟩ := hQ3
  have N3 := Fr.app N2 N3q
  obtain ⟨_, _, ⟨T4, L4, k4, n4⟩, -, X4, ⟨Lc4, hQ4, l4, y4, z4⟩, st4⟩ := Jvm.LawKit.callS X3 hx (y := (⟨"org/driftcairn/giop/GiopHasMagicPinLaw", "pick", "(IIIC)B"⟩ : MethodName)) hown (mvT hZ (hw _ (List.mem_of_getElem? (i := 0) rfl))) (mvT hZ (hw _ (List.mem_of_getElem? (i := 1) rfl))) (mvT hZ (hw _ (List.mem_of_getElem? (i := 2) rfl))) (mvT hZ (hw _ (List.mem_of_getElem? (i := 3) rfl))) (by decide) (backOf (W := 0) (rk_pick l Z a0 hw [] p4 (3 : Int32) p3 (80 : Int32) h0 n0 Z0 ) hZ (hw _ (List.mem_of_getElem? (i := 3) rfl)) (hw _ (List.mem_of_getElem? (i := 2) rfl)) (by decide) (by decide)) (g := (mkF m 39 #[iv p0, iv p1, iv p2, iv p3, iv p4, iv p5, iv (own_pick p4 (0 : Int32) p0 (71 : Int32)), iv (own_pick p4 (1 : Int32) p1 (73 : Int32)), iv (own_pick p4 (2 : Int32) p2 (79 : Int32)), .unset, .unset, .unset, .unset, .unset, .unset] [(.int (80 : Int32)), (.int p3), (.int (3 : Int32)), (.int p4)])) rfl (by rw [hml]; rfl) (argsL := [(.int p4), (.int (3 : Int32)), (.int p3), (.int (80 : Int32))]) (rest := []) (lenOf pd_0 rfl) rfl (by show 2 * 0 + _ ≤ _; exact Nat.le_of_eq rfl) (hb hby at_39) (fun _ _ => ⟨rfl, e3, (by decide : 0 + 0 ≤ _), (by decide : 0 + 0 ≤ _)⟩)
  dsimp only [Pt.U, Pt.locs, Pt.cells, Pt.slots] at X4 l4 y4 z4 st4 hQ4
  subst l4 y4 z4
  obtain ⟨rfl, N4q, e4⟩ := hQ4
  have N4 := Fr.app N3 N4q
  obtain ⟨T5, h5, k0_5, X5, e5, E5, A5, st5⟩ := newP X4 hx hZ (hw _ (List.mem_of_getElem? (i := 4) rfl)) e4 (g := (mkF m 73 #[iv p0, iv p1, iv p2, iv p3, iv p4, iv p5, iv (own_pick p4 (0 : Int32) p0 (71 : Int32)), iv (own_pick p4 (1 : Int32) p1 (73 : Int32)), iv (own_pick p4 (2 : Int32) p2 (79 : Int32)), iv (own_pick p4 (3 : Int32) p3 (80 : Int32)), iv (0 : Int32), .unset, .unset, .unset, .unset] [(.int (8 : Int32))])) rfl (hb hby at_73) rfl (by decide) (cap := 8) (by decide) (by decide) (by decide) (by decide)
  obtain ⟨b0_5, gg5⟩ : ∃ z, z = h0.size := ⟨_, rfl⟩
  rw [← gg5] at A5 st5
  have g_b0_5 : n0 ≤ b0_5 := Nat.le_trans Z0 (Nat.le_of_eq gg5.symm)
  have sz_b0_5 : h0.size ≤ b0_5 := Nat.le_trans (Keep.refl h0 []).1 (Nat.le_of_eq gg5.symm)
  have Z5 : n0 ≤ h5.size := Nat.le_trans Z0 E5.1
  have KK5 : Keep h0 h5 [] := (Keep.refl h0 []).ext E5
  have V_b0_5 : Arv Z h5 b0_5 k0_5 .byte (8 : Int32) [(.int (0 : Int32)), (.int (0 : Int32)), (.int (0 : Int32)), (.int (0 : Int32)), (.int (0 : Int32)), (.int (0 : Int32)), (.int (0 : Int32)), (.int (0 : Int32))] (.int (0 : Int32)) := (Arv.new A5 (by decide)).pad (pad_rep [] (.int (0 : Int32)) 8)
  obtain ⟨cl6, Ar6, qq6, Sz6, Nn6, Hs6, Gs6⟩ := id V_b0_5
  have hin6 : ¬ ((0 : Int32) < 0 ∨ cl6.slots.size ≤ ((0 : Int32)).toNatClampNeg) := inb_of Sz6 ⟨by decide, by decide⟩
  obtain ⟨T7, h7, X7, e7, W7, st7⟩ := stB X5 hx hZ e5 Ar6 (j := (0 : Int32)) hin6 (g := (mkF m 82 #[iv p0, iv p1, iv p2, iv p3, iv p4, iv p5, iv (own_pick p4 (0 : Int32) p0 (71 : Int32)), iv (own_pick p4 (1 : Int32) p1 (73 : Int32)), iv (own_pick p4 (2 : Int32) p2 (79 : Int32)), iv (own_pick p4 (3 : Int32) p3 (80 : Int32)), iv (0 : Int32), rv b0_5, .unset, .unset, .unset] [(.int (own_pick p4 (0 : Int32) p0 (71 : Int32))), (.int (0 : Int32)), (.ref b0_5)])) rfl rfl (hb hby at_82)
  have va7 := Arv.set Ar6 qq6 Sz6 Nn6 Hs6 Gs6 (fits_nar_byte _) W7 0 rfl (Nat.le_of_ble_eq_true rfl)
  have vb7 : Arv Z h7 b0_5 k0_5 .byte (8 : Int32) [(.int (own_pick p4 (0 : Int32) p0 (71 : Int32))), (.int (0 : Int32)), (.int (0 : Int32)), (.int (0 : Int32)), (.int (0 : Int32)), (.int (0 : Int32)), (.int (0 : Int32)), (.int (0 : Int32))] (.int (0 : Int32)) := by have t := va7; have q : ((own_pick p4 (0 : Int32) p0 (71 : Int32))).toInt8.toInt32 = (own_pick p4 (0 : Int32) p0 (71 : Int32)) := (own_pick_b _ _ _ _); rw [q] at t; exact t
  have Z7 : n0 ≤ h7.size := Nat.le_trans Z5 (Keep.of_wr W7).1
  have KK7 : Keep h0 h7 [] := KK5.wr W7 (Or.inr sz_b0_5)
  have N7 := Fr.snoc X7 N4 g_b0_5
  obtain ⟨cl8, Ar8, qq8, Sz8, Nn8, Hs8, Gs8⟩ := id vb7
  have hin8 : ¬ ((1 : Int32) < 0 ∨ cl8.slots.size ≤ ((1 : Int32)).toNatClampNeg) := inb_of Sz8 ⟨by decide, by decide⟩
  obtain ⟨T9, h9, X9, e9, W9, st9⟩ := stB X7 hx hZ e7 Ar8 (j := (1 : Int32)) hin8 (g := (mkF m 88 #[iv p0, iv p1, iv p2, iv p3, iv p4, iv p5, iv (own_pick p4 (0 : Int32) p0 (71 : Int32)), iv (own_pick p4 (1 : Int32) p1 (73 : Int32)), iv (own_pick p4 (2 : Int32) p2 (79 : Int32)), iv (own_pick p4 (3 : Int32) p3 (80 : Int32)), iv (0 : Int32), rv b0_5, .unset, .unset, .unset] [(.int (own_pick p4 (1 : Int32) p1 (73 : Int32))), (.int (1 : Int32)), (.ref b0_5)])) rfl rfl (hb hby at_88)
  have va9 := Arv.set Ar8 qq8 Sz8 Nn8 Hs8 Gs8 (fits_nar_byte _) W9 1 rfl (Nat.le_of_ble_eq_true rfl)
  have vb9 : Arv Z h9 b0_5 k0_5 .byte (8 : Int32) [(.int (own_pick p4 (0 : Int32) p0 (71 : Int32))), (.int (own_pick p4 (1 : Int32) p1 (73 : Int32))), (.int (0 : Int32)), (.int (0 : Int32)), (.int (0 : Int32)), (.int (0 : Int32)), (.int (0 : Int32)), (.int (0 : Int32))] (.int (0 : Int32)) := by have t := va9; have q : ((own_pick p4 (1 : Int32) p1 (73 : Int32))).toInt8.toInt32 = (own_pick p4 (1 : Int32) p1 (73 : Int32)) := (own_pick_b _ _ _ _); rw [q] at t; exact t
  have Z9 : n0 ≤ h9.size := Nat.le_trans Z7 (Keep.of_wr W9).1
  have KK9 : Keep h0 h9 [] := KK7.wr W9 (Or.inr sz_b0_5)
  have N9 := Fr.snoc X9 N7 g_b0_5
  obtain ⟨cl10, Ar10, qq10, Sz10, Nn10, Hs10, Gs10⟩ := id vb9
  have hin10 : ¬ ((2 : Int32) < 0 ∨ cl10.slots.size ≤ ((2 : Int32)).toNatClampNeg) := inb_of Sz10 ⟨by decide, by decide⟩
  obtain ⟨T11, h11, X11, e11, W11, st11⟩ := stB X9 hx hZ e9 Ar10 (j := (2 : Int32)) hin10 (g := (mkF m 94 #[iv p0, iv p1, iv p2, iv p3, iv p4, iv p5, iv (own_pick p4 (0 : Int32) p0 (71 : Int32)), iv (own_pick p4 (1 : Int32) p1 (73 : Int32)), iv (own_pick p4 (2 : Int32) p2 (79 : Int32)), iv (own_pick p4 (3 : Int32) p3 (80 : Int32)), iv (0 : Int32), rv b0_5, .unset, .unset, .unset] [(.int (own_pick p4 (2 : Int32) p2 (79 : Int32))), (.int (2 : Int32)), (.ref b0_5)])) rfl rfl (hb hby at_94)
  have va11 := Arv.set Ar10 qq10 Sz10 Nn10 Hs10 Gs10 (fits_nar_byte _) W11 2 rfl (Nat.le_of_ble_eq_true rfl)
  have vb11 : Arv Z h11 b0_5 k0_5 .byte (8 : Int32) [(.int (own_pick p4 (0 : Int32) p0 (71 : Int32))), (.int (own_pick p4 (1 : Int32) p1 (73 : Int32))), (.int (own_pick p4 (2 : Int32) p2 (79 : Int32))), (.int (0 : Int32)), (.int (0 : Int32)), (.int (0 : Int32)), (.int (0 : Int32)), (.int (0 : Int32))] (.int (0 : Int32)) := by have t := va11; have q : ((own_pick p4 (2 : Int32) p2 (79 : Int32))).toInt8.toInt32 = (own_pick p4 (2 : Int32) p2 (79 : Int32)) := (own_pick_b _ _ _ _); rw [q] at t; exact t
  have Z11 : n0 ≤ h11.size := Nat.le_trans Z9 (Keep.of_wr W11).1
  have KK11 : Keep h0 h11 [] := KK9.wr W11 (Or.inr sz_b0_5)
  have N11 := Fr.snoc X11 N9 g_b0_5
  obtain ⟨cl12, Ar12, qq12, Sz12, Nn12, Hs12, Gs12⟩ := id vb11
  have hin12 : ¬ ((3 : Int32) < 0 ∨ cl12.slots.size ≤ ((3 : Int32)).toNatClampNeg) := inb_of Sz12 ⟨by decide, by decide⟩
  obtain ⟨T13, h13, X13, e13, W13, st13⟩ := stB X11 hx hZ e11 Ar12 (j := (3 : Int32)) hin12 (g := (mkF m 100 #[iv p0, iv p1, iv p2, iv p3, iv p4, iv p5, iv (own_pick p4 (0 : Int32) p0 (71 : Int32)), iv (own_pick p4 (1 : Int32) p1 (73 : Int32)), iv (own_pick p4 (2 : Int32) p2 (79 : Int32)), iv (own_pick p4 (3 : Int32) p3 (80 : Int32)), iv (0 : Int32), rv b0_5, .unset, .unset, .unset] [(.int (own_pick p4 (3 : Int32) p3 (80 : Int32))), (.int (3 : Int32)), (.ref b0_5)])) rfl rfl (hb hby at_100)
  have va13 := Arv.set Ar12 qq12 Sz12 Nn12 Hs12 Gs12 (fits_nar_byte _) W13 3 rfl (Nat.le_of_ble_eq_true rfl)
  have vb13 : Arv Z h13 b0_5 k0_5 .byte (8 : Int32) [(.int (own_pick p4 (0 : Int32) p0 (71 : Int32))), (.int (own_pick p4 (1 : Int32) p1 (73 : Int32))), (.int (own_pick p4 (2 : Int32) p2 (79 : Int32))), (.int (own_pick p4 (3 : Int32) p3 (80 : Int32))), (.int (0 : Int32)), (.int (0 : Int32)), (.int (0 : Int32)), (.int (0 : Int32))] (.int (0 : Int32)) := by have t := va13; have q : ((own_pick p4 (3 : Int32) p3 (80 : Int32))).toInt8.toInt32 = (own_pick p4 (3 : Int32) p3 (80 : Int32)) := (own_pick_b _ _ _ _); rw [q] at t; exact t
  have Z13 : n0 ≤ h13.size := Nat.le_trans Z11 (Keep.of_wr W13).1
  have KK13 : Keep h0 h13 [] := KK11.wr W13 (Or.inr sz_b0_5)
  have N13 := Fr.snoc X13 N11 g_b0_5
  obtain ⟨cl14, Ar14, qq14, Sz14, Nn14, Hs14, Gs14⟩ := id vb13
  have hin14 : ¬ ((4 : Int32) < 0 ∨ cl14.slots.size ≤ ((4 : Int32)).toNatClampNeg) := inb_of Sz14 ⟨by decide, by decide⟩
  obtain ⟨T15, h15, X15, e15, W15, st15⟩ := stB X13 hx hZ e13 Ar14 (j := (4 : Int32)) hin14 (g := (mkF m 112 #[iv p0, iv p1, iv p2, iv p3, iv p4, iv p5, iv (own_pick p4 (0 : Int32) p0 (71 : Int32)), iv (own_pick p4 (1 : Int32) p1 (73 : Int32)), iv (own_pick p4 (2 : Int32) p2 (79 : Int32)), iv (own_pick p4 (3 : Int32) p3 (80 : Int32)), iv (0 : Int32), rv b0_5, .unset, .unset, .unset] [(.int (p5.toInt8.toInt32)), (.int (4 : Int32)), (.ref b0_5)])) rfl rfl (hb hby at_112)
  have va15 := Arv.set Ar14 qq14 Sz14 Nn14 Hs14 Gs14 (fits_nar_byte _) W15 4 rfl (Nat.le_of_ble_eq_true rfl)
  have vb15 : Arv Z h15 b0_5 k0_5 .byte (8 : Int32) [(.int (own_pick p4 (0 : Int32) p0 (71 : Int32))), (.int (own_pick p4 (1 : Int32) p1 (73 : Int32))), (.int (own_pick p4 (2 : Int32) p2 (79 : Int32))), (.int (own_pick p4 (3 : Int32) p3 (80 : Int32))), (.int (p5.toInt8.toInt32)), (.int (0 : Int32)), (.int (0 : Int32)), (.int (0 : Int32))] (.int (0 : Int32)) := by have t := va15; have q : ((p5.toInt8.toInt32)).toInt8.toInt32 = (p5.toInt8.toInt32) := (own_b8 _); rw [q] at t; exact t
  have Z15 : n0 ≤ h15.size := Nat.le_trans Z13 (Keep.of_wr W15).1
  have KK15 : Keep h0 h15 [] := KK13.wr W15 (Or.inr sz_b0_5)
  have N15 := Fr.snoc X15 N13 g_b0_5
  obtain ⟨cl16, Ar16, qq16, Sz16, Nn16, Hs16, Gs16⟩ := id vb15
  have hin16 : ¬ ((5 : Int32) < 0 ∨ cl16.slots.size ≤ ((5 : Int32)).toNatClampNeg) := inb_of Sz16 ⟨by decide, by decide⟩
  obtain ⟨T17, h17, X17, e17, W17, st17⟩ := stB X15 hx hZ e15 Ar16 (j := (5 : Int32)) hin16 (g := (mkF m 122 #[iv p0, iv p1, iv p2, iv p3, iv p4, iv p5, iv (own_pick p4 (0 : Int32) p0 (71 : Int32)), iv (own_pick p4 (1 : Int32) p1 (73 : Int32)), iv (own_pick p4 (2 : Int32) p2 (79 : Int32)), iv (own_pick p4 (3 : Int32) p3 (80 : Int32)), iv (0 : Int32), rv b0_5, .unset, .unset, .unset] [(.int (((p5.toUInt32 >>> ((8 : Int32) &&& 31).toUInt32).toInt32).toInt8.toInt32)), (.int (5 : Int32)), (.ref b0_5)])) rfl rfl (hb hby at_122)
  have va17 := Arv.set Ar16 qq16 Sz16 Nn16 Hs16 Gs16 (fits_nar_byte _) W17 5 rfl (Nat.le_of_ble_eq_true rfl)
  have vb17 : Arv Z h17 b0_5 k0_5 .byte (8 : Int32) [(.int (own_pick p4 (0 : Int32) p0 (71 : Int32))), (.int (own_pick p4 (1 : Int32) p1 (73 : Int32))), (.int (own_pick p4 (2 : Int32) p2 (79 : Int32))), (.int (own_pick p4 (3 : Int32) p3 (80 : Int32))), (.int (p5.toInt8.toInt32)), (.int (((p5.toUInt32 >>> ((8 : Int32) &&& 31).toUInt32).toInt32).toInt8.toInt32)), (.int (0 : Int32)), (.int (0 : Int32))] (.int (0 : Int32)) := by have t := va17; have q : ((((p5.toUInt32 >>> ((8 : Int32) &&& 31).toUInt32).toInt32).toInt8.toInt32)).toInt8.toInt32 = (((p5.toUInt32 >>> ((8 : Int32) &&& 31).toUInt32).toInt32).toInt8.toInt32) := (own_b8 _); rw [q] at t; exact t
  have Z17 : n0 ≤ h17.size := Nat.le_trans Z15 (Keep.of_wr W17).1
  have KK17 : Keep h0 h17 [] := KK15.wr W17 (Or.inr sz_b0_5)
  have N17 := Fr.snoc X17 N15 g_b0_5
  obtain ⟨cl18, Ar18, qq18, Sz18, Nn18, Hs18, Gs18⟩ := id vb17
  have hin18 : ¬ ((6 : Int32) < 0 ∨ cl18.slots.size ≤ ((6 : Int32)).toNatClampNeg) := inb_of Sz18 ⟨by decide, by decide⟩
  obtain ⟨T19, h19, X19, e19, W19, st19⟩ := stB X17 hx hZ e17 Ar18 (j := (6 : Int32)) hin18 (g := (mkF m 133 #[iv p0, iv p1, iv p2, iv p3, iv p4, iv p5, iv (own_pick p4 (0 : Int32) p0 (71 : Int32)), iv (own_pick p4 (1 : Int32) p1 (73 : Int32)), iv (own_pick p4 (2 : Int32) p2 (79 : Int32)), iv (own_pick p4 (3 : Int32) p3 (80 : Int32)), iv (0 : Int32), rv b0_5, .unset, .unset, .unset] [(.int (((p5.toUInt32 >>> ((16 : Int32) &&& 31).toUInt32).toInt32).toInt8.toInt32)), (.int (6 : Int32)), (.ref b0_5)])) rfl rfl (hb hby at_133)
  have va19 := Arv.set Ar18 qq18 Sz18 Nn18 Hs18 Gs18 (fits_nar_byte _) W19 6 rfl (Nat.le_of_ble_eq_true rfl)
  have vb19 : Arv Z h19 b0_5 k0_5 .byte (8 : Int32) [(.int (own_pick p4 (0 : Int32) p0 (71 : Int32))), (.int (own_pick p4 (1 : Int32) p1 (73 : Int32))), (.int (own_pick p4 (2 : Int32) p2 (79 : Int32))), (.int (own_pick p4 (3 : Int32) p3 (80 : Int32))), (.int (p5.toInt8.toInt32)), (.int (((p5.toUInt32 >>> ((8 : Int32) &&& 31).toUInt32).toInt32).toInt8.toInt32)), (.int (((p5.toUInt32 >>> ((16 : Int32) &&& 31).toUInt32).toInt32).toInt8.toInt32)), (.int (0 : Int32))] (.int (0 : Int32)) := by have t := va19; have q : ((((p5.toUInt32 >>> ((16 : Int32) &&& 31).toUInt32).toInt32).toInt8.toInt32)).toInt8.toInt32 = (((p5.toUInt32 >>> ((16 : Int32) &&& 31).toUInt32).toInt32).toInt8.toInt32) := (own_b8 _); rw [q] at t; exact t
  have Z19 : n0 ≤ h19.size := Nat.le_trans Z17 (Keep.of_wr W19).1
  have KK19 : Keep h0 h19 [] := KK17.wr W19 (Or.inr sz_b0_5)
  have N19 := Fr.snoc X19 N17 g_b0_5
  obtain ⟨cl20, Ar20, qq20, Sz20, Nn20, Hs20, Gs20⟩ := id vb19
  have hin20 : ¬ ((7 : Int32) < 0 ∨ cl20.slots.size ≤ ((7 : Int32)).toNatClampNeg) := inb_of Sz20 ⟨by decide, by decide⟩
  obtain ⟨T21, h21, X21, e21, W21, st21⟩ := stB X19 hx hZ e19 Ar20 (j := (7 : Int32)) hin20 (g := (mkF m 144 #[iv p0, iv p1, iv p2, iv p3, iv p4, iv p5, iv (own_pick p4 (0 : Int32) p0 (71 : Int32)), iv (own_pick p4 (1 : Int32) p1 (73 : Int32)), iv (own_pick p4 (2 : Int32) p2 (79 : Int32)), iv (own_pick p4 (3 : Int32) p3 (80 : Int32)), iv (0 : Int32), rv b0_5, .unset, .unset, .unset] [(.int (((p5.toUInt32 >>> ((24 : Int32) &&& 31).toUInt32).toInt32).toInt8.toInt32)), (.int (7 : Int32)), (.ref b0_5)])) rfl rfl (hb hby at_144)
  have va21 := Arv.set Ar20 qq20 Sz20 Nn20 Hs20 Gs20 (fits_nar_byte _) W21 7 rfl (Nat.le_of_ble_eq_true rfl)
  have vb21 : Arv Z h21 b0_5 k0_5 .byte (8 : Int32) [(.int (own_pick p4 (0 : Int32) p0 (71 : Int32))), (.int (own_pick p4 (1 : Int32) p1 (73 : Int32))), (.int (own_pick p4 (2 : Int32) p2 (79 : Int32))), (.int (own_pick p4 (3 : Int32) p3 (80 : Int32))), (.int (p5.toInt8.toInt32)), (.int (((p5.toUInt32 >>> ((8 : Int32) &&& 31).toUInt32).toInt32).toInt8.toInt32)), (.int (((p5.toUInt32 >>> ((16 : Int32) &&& 31).toUInt32).toInt32).toInt8.toInt32)), (.int (((p5.toUInt32 >>> ((24 : Int32) &&& 31).toUInt32).toInt32).toInt8.toInt32))] (.int (0 : Int32)) := by have t := va21; have q : ((((p5.toUInt32 >>> ((24 : Int32) &&& 31).toUInt32).toInt32).toInt8.toInt32)).toInt8.toInt32 = (((p5.toUInt32 >>> ((24 : Int32) &&& 31).toUInt32).toInt32).toInt8.toInt32) := (own_b8 _); rw [q] at t; exact t
  have Z21 : n0 ≤ h21.size := Nat.le_trans Z19 (Keep.of_wr W21).1
  have KK21 : Keep h0 h21 [] := KK19.wr W21 (Or.inr sz_b0_5)
  have N21 := Fr.snoc X21 N19 g_b0_5
  have c23 := (((((((((S_Giop_MAGIC.ext E5).wr W7).wr W9).wr W11).wr W13).wr W15).wr W17).wr W19).wr W21)
  have ne_b0_5_w_Giop_MAGIC_24 : ¬ (b0_5 = w_Giop_MAGIC) := (Ne.symm (Nat.ne_of_lt (Nat.lt_of_lt_of_le (V_w_Giop_MAGIC).lt (Nat.le_of_eq gg5.symm))))
  have c25 := (((((((((V_w_Giop_MAGIC.ext E5).other W7 (Ne.symm ne_b0_5_w_Giop_MAGIC_24)).other W9 (Ne.symm ne_b0_5_w_Giop_MAGIC_24)).other W11 (Ne.symm ne_b0_5_w_Giop_MAGIC_24)).other W13 (Ne.symm ne_b0_5_w_Giop_MAGIC_24)).other W15 (Ne.symm ne_b0_5_w_Giop_MAGIC_24)).other W17 (Ne.symm ne_b0_5_w_Giop_MAGIC_24)).other W19 (Ne.symm ne_b0_5_w_Giop_MAGIC_24)).other W21 (Ne.symm ne_b0_5_w_Giop_MAGIC_24))
  obtain ⟨_, _, ⟨T22, L22, k22, n22⟩, -, X22, ⟨Lc22, hQ22, l22, y22, z22⟩, st22⟩ := Jvm.LawKit.callS X21 hx (y := (⟨"org/driftcairn/giop/Giop", "hasMagic", "([B)Z"⟩ : MethodName)) hown (mvT hZ (hw _ (List.mem_of_getElem? (i := 5) rfl))) (mvT hZ (hw _ (List.mem_of_getElem? (i := 6) rfl))) (mvT hZ (hw _ (List.mem_of_getElem? (i := 7) rfl))) (mvT hZ (hw _ (List.mem_of_getElem? (i := 8) rfl))) (by decide) (backOf (W := 0) (rm2_4 l Z a0 hw [] p0 p1 p2 p3 p4 p5 w_Giop_MAGIC k_w_Giop_MAGIC b0_5 k0_5 h21 n0 Z21 c23 c25 vb21 hm0) hZ (hw _ (List.mem_of_getElem? (i := 8) rfl)) (hw _ (List.mem_of_getElem? (i := 7) rfl)) (by decide) (by decide)) (g := (mkF m 182 #[iv p0, iv p1, iv p2, iv p3, iv p4, iv p5, iv (own_pick p4 (0 : Int32) p0 (71 : Int32)), iv (own_pick p4 (1 : Int32) p1 (73 : Int32)), iv (own_pick p4 (2 : Int32) p2 (79 : Int32)), iv (own_pick p4 (3 : Int32) p3 (80 : Int32)), iv (0 : Int32), rv b0_5, iv (0 : Int32), .unset, .unset] [(.ref b0_5)])) rfl (by rw [hml]; rfl) (argsL := [(.ref b0_5)]) (rest := []) (lenOf pd_1 rfl) rfl (by show 2 * 0 + _ ≤ _; exact Nat.le_of_eq rfl) (hb hby at_182) (fun _ _ => ⟨rfl, e21, (by decide : 1 + 0 ≤ _), (by decide : 8 + 0 ≤ _)⟩)
  dsimp only [Pt.U, Pt.locs, Pt.cells, Pt.slots] at X22 l22 y22 z22 st22 hQ22
  subst l22 y22 z22
  obtain ⟨rfl, N22q, e22⟩ := hQ22
  have N22 := Fr.app N21 N22q
  obtain ⟨cl26, Ar26, -, Sz26, Nn26, Hs26, Gs26⟩ := id vb21
  have hin26 : ¬ ((0 : Int32) < 0 ∨ cl26.slots.size ≤ ((0 : Int32)).toNatClampNeg) := inb_of Sz26 ⟨by decide, by decide⟩
  obtain ⟨cl27, Ar27, -, Sz27, Nn27, Hs27, Gs27⟩ := id vb21
  have hin27 : ¬ ((1 : Int32) < 0 ∨ cl27.slots.size ≤ ((1 : Int32)).toNatClampNeg) := inb_of Sz27 ⟨by decide, by decide⟩
  obtain ⟨cl28, Ar28, -, Sz28, Nn28, Hs28, Gs28⟩ := id vb21
  have hin28 : ¬ ((2 : Int32) < 0 ∨ cl28.slots.size ≤ ((2 : Int32)).toNatClampNeg) := inb_of Sz28 ⟨by decide, by decide⟩
  obtain ⟨cl29, Ar29, -, Sz29, Nn29, Hs29, Gs29⟩ := id vb21
  have hin29 : ¬ ((3 : Int32) < 0 ∨ cl29.slots.size ≤ ((3 : Int32)).toNatClampNeg) := inb_of Sz29 ⟨by decide, by decide⟩
  obtain ⟨fs, hr, hrun, hended, hW, hsame⟩ := X22.leave (v := (some (.int (1 : Int32)))) (fun h => by rw [Bd.returns] at h; cases h)
  refine ⟨_, _, pre0 _ ?_, hrun, hended, _, _, rfl, ?_, ⟨_, rfl⟩, hW, hsame.mono (by decide) (by decide)⟩
  · show Steps p.tables e below (s₁.setTop (mkF m 0 #[iv p0, iv p1, iv p2, iv p3, iv p4, iv p5, .unset, .unset, .unset, .unset, .unset, .unset, .unset, .unset, .unset] [])) _
    refine XS.iload X0.here hx rfl (hb hby at_0) rfl ?_
    refine XS.iconst X0.here hx rfl (hb hby at_2) ?_
    refine XS.iloadN X0.here hx rfl (hb hby at_3) rfl ?_
    refine XS.bipush X0.here hx rfl (hb hby at_4) ?_
    refine st1 _ ?_
    refine XS.istore X1.here hx rfl (hb hby at_9) rfl (l' := #[iv p0, iv p1, iv p2, iv p3, iv p4, iv p5, iv (own_pick p4 (0 : Int32) p0 (71 : Int32)), .unset, .unset, .unset, .unset, .unset, .unset, .unset, .unset]) rfl ?_
    show Steps p.tables e below (T1.setTop (mkF m 11 #[iv p0, iv p1, iv p2, iv p3, iv p4, iv p5, iv (own_pick p4 (0 : Int32) p0 (71 : Int32)), .unset, .unset, .unset, .unset, .unset, .unset, .unset, .unset] [])) _
    refine XS.iload X1.here hx rfl (hb hby at_11) rfl ?_
    refine XS.iconst X1.here hx rfl (hb hby at_13) ?_
    refine XS.iloadN X1.here hx rfl (hb hby at_14) rfl ?_
    refine XS.bipush X1.here hx rfl (hb hby at_15) ?_
    refine st2 _ ?_
    refine XS.istore X2.here hx rfl (hb hby at_20) rfl (l' := #[iv p0, iv p1, iv p2, iv p3, iv p4, iv p5, iv (own_pick p4 (0 : Int32) p0 (71 : Int32)), iv (own_pick p4 (1 : Int32) p1 (73 : Int32)), .unset, .unset, .unset, .unset, .unset, .unset, .unset]) rfl ?_
    show Steps p.tables e below (T2.setTop (mkF m 22 #[iv p0, iv p1, iv p2, iv p3, iv p4, iv p5, iv (own_pick p4 (0 : Int32) p0 (71 : Int32)), iv (own_pick p4 (1 : Int32) p1 (73 : Int32)), .unset, .unset, .unset, .unset, .unset, .unset, .unset] [])) _
    refine XS.iload X2.here hx rfl (hb hby at_22) rfl ?_
    refine XS.iconst X2.here hx rfl (hb hby at_24) ?_
    refine XS.iloadN X2.here hx rfl (hb hby at_25) rfl ?_
    refine XS.bipush X2.here hx rfl (hb hby at_26) ?_
    refine st3 _ ?_
    refine XS.istore X3.here hx rfl (hb hby at_31) rfl (l' := #[iv p0, iv p1, iv p2, iv p3, iv p4, iv p5, iv (own_pick p4 (0 : Int32) p0 (71 : Int32)), iv (own_pick p4 (1 : Int32) p1 (73 : Int32)), iv (own_pick p4 (2 : Int32) p2 (79 : Int32)), .unset, .unset, .unset, .unset, .unset, .unset]) rfl ?_
    show Steps p.tables e below (T3.setTop (mkF m 33 #[iv p0, iv p1, iv p2, iv p3, iv p4, iv p5, iv (own_pick p4 (0 : Int32) p0 (71 : Int32)), iv (own_pick p4 (1 : Int32) p1 (73 : Int32)), iv (own_pick p4 (2 : Int32) p2 (79 : Int32)), .unset, .unset, .unset, .unset, .unset, .unset] [])) _
    refine XS.iload X3.here hx rfl (hb hby at_33) rfl ?_
    refine XS.iconst X3.here hx rfl (hb hby at_35) ?_
    refine XS.iloadN X3.here hx rfl (hb hby at_36) rfl ?_
    refine XS.bipush X3.here hx rfl (hb hby at_37) ?_
    refine st4 _ ?_
    refine XS.istore X4.here hx rfl (hb hby at_42) rfl (l' := #[iv p0, iv p1, iv p2, iv p3, iv p4, iv p5, iv (own_pick p4 (0 : Int32) p0 (71 : Int32)), iv (own_pick p4 (1 : Int32) p1 (73 : Int32)), iv (own_pick p4 (2 : Int32) p2 (79 : Int32)), iv (own_pick p4 (3 : Int32) p3 (80 : Int32)), .unset, .unset, .unset, .unset, .unset]) rfl ?_
    show Steps p.tables e below (T4.setTop (mkF m 44 #[iv p0, iv p1, iv p2, iv p3, iv p4, iv p5, iv (own_pick p4 (0 : Int32) p0 (71 : Int32)), iv (own_pick p4 (1 : Int32) p1 (73 : Int32)), iv (own_pick p4 (2 : Int32) p2 (79 : Int32)), iv (own_pick p4 (3 : Int32) p3 (80 : Int32)), .unset, .unset, .unset, .unset, .unset] [])) _
    refine XS.iload X4.here hx rfl (hb hby at_44) rfl ?_
    refine XS.iconst X4.here hx rfl (hb hby at_46) ?_
    refine XS.iushr X4.here hx rfl (hb hby at_47) rfl ?_
    refine XS.iconst X4.here hx rfl (hb hby at_48) ?_
    refine XS.iand X4.here hx rfl (hb hby at_49) rfl ?_
    show Steps p.tables e below (T4.setTop (mkF m 50 #[iv p0, iv p1, iv p2, iv p3, iv p4, iv p5, iv (own_pick p4 (0 : Int32) p0 (71 : Int32)), iv (own_pick p4 (1 : Int32) p1 (73 : Int32)), iv (own_pick p4 (2 : Int32) p2 (79 : Int32)), iv (own_pick p4 (3 : Int32) p3 (80 : Int32)), .unset, .unset, .unset, .unset, .unset] [(.int (((p4.toUInt32 >>> ((4 : Int32) &&& 31).toUInt32).toInt32) &&& (1 : Int32)))])) _
    rewrite [hs]
    refine XS.ifYes X4.here hx rfl (pc0 := 50) (pc' := 57) rfl (hb hby at_50) rfl ((if0 _ _).trans (teq (by decide +kernel : (0 : Int32) = (0 : Int32))).1) (by decide) (by decide) ?_
    show Steps p.tables e below (T4.setTop (mkF m 57 #[iv p0, iv p1, iv p2, iv p3, iv p4, iv p5, iv (own_pick p4 (0 : Int32) p0 (71 : Int32)), iv (own_pick p4 (1 : Int32) p1 (73 : Int32)), iv (own_pick p4 (2 : Int32) p2 (79 : Int32)), iv (own_pick p4 (3 : Int32) p3 (80 : Int32)), .unset, .unset, .unset, .unset, .unset] [])) _
    refine XS.iconst X4.here hx rfl (hb hby at_57) ?_
    refine XS.istore X4.here hx rfl (hb hby at_58) rfl (l' := #[iv p0, iv p1, iv p2, iv p3, iv p4, iv p5, iv (own_pick p4 (0 : Int32) p0 (71 : Int32)), iv (own_pick p4 (1 : Int32) p1 (73 : Int32)), iv (own_pick p4 (2 : Int32) p2 (79 : Int32)), iv (own_pick p4 (3 : Int32) p3 (80 : Int32)), iv (0 : Int32), .unset, .unset, .unset, .unset]) rfl ?_
    refine XS.iload X4.here hx rfl (hb hby at_60) rfl ?_
    refine XS.ifYes X4.here hx rfl (pc0 := 62) (pc' := 71) rfl (hb hby at_62) rfl ((if0 _ _).trans (teq (by decide +kernel : (0 : Int32) = (0 : Int32))).1) (by decide) (by decide) ?_
    refine XS.bipush X4.here hx rfl (hb hby at_71) ?_
    refine st5 _ ?_
    show Steps p.tables e below (T5.setTop (mkF m 75 #[iv p0, iv p1, iv p2, iv p3, iv p4, iv p5, iv (own_pick p4 (0 : Int32) p0 (71 : Int32)), iv (own_pick p4 (1 : Int32) p1 (73 : Int32)), iv (own_pick p4 (2 : Int32) p2 (79 : Int32)), iv (own_pick p4 (3 : Int32) p3 (80 : Int32)), iv (0 : Int32), .unset, .unset, .unset, .unset] [(.ref b0_5)])) _
    refine XS.astore X5.here hx rfl (hb hby at_75) rfl rfl (l' := #[iv p0, iv p1, iv p2, iv p3, iv p4, iv p5, iv (own_pick p4 (0 : Int32) p0 (71 : Int32)), iv (own_pick p4 (1 : Int32) p1 (73 : Int32)), iv (own_pick p4 (2 : Int32) p2 (79 : Int32)), iv (own_pick p4 (3 : Int32) p3 (80 : Int32)), iv (0 : Int32), rv b0_5, .unset, .unset, .unset]) rfl ?_
    refine XS.aload X5.here hx rfl (hb hby at_77) rfl rfl ?_
    refine XS.iconst X5.here hx rfl (hb hby at_79) ?_
    refine XS.iload X5.here hx rfl (hb hby at_80) rfl ?_
    refine st7 _ ?_
    refine XS.aload X7.here hx rfl (hb hby at_83) rfl rfl ?_
    show Steps p.tables e below (T7.setTop (mkF m 85 #[iv p0, iv p1, iv p2, iv p3, iv p4, iv p5, iv (own_pick p4 (0 : Int32) p0 (71 : Int32)), iv (own_pick p4 (1 : Int32) p1 (73 : Int32)), iv (own_pick p4 (2 : Int32) p2 (79 : Int32)), iv (own_pick p4 (3 : Int32) p3 (80 : Int32)), iv (0 : Int32), rv b0_5, .unset, .unset, .unset] [(.ref b0_5)])) _
    refine XS.iconst X7.here hx rfl (hb hby at_85) ?_
    refine XS.iload X7.here hx rfl (hb hby at_86) rfl ?_
    refine st9 _ ?_
    refine XS.aload X9.here hx rfl (hb hby at_89) rfl rfl ?_
    refine XS.iconst X9.here hx rfl (hb hby at_91) ?_
    refine XS.iload X9.here hx rfl (hb hby at_92) rfl ?_
    show Steps p.tables e below (T9.setTop (mkF m 94 #[iv p0, iv p1, iv p2, iv p3, iv p4, iv p5, iv (own_pick p4 (0 : Int32) p0 (71 : Int32)), iv (own_pick p4 (1 : Int32) p1 (73 : Int32)), iv (own_pick p4 (2 : Int32) p2 (79 : Int32)), iv (own_pick p4 (3 : Int32) p3 (80 : Int32)), iv (0 : Int32), rv b0_5, .unset, .unset, .unset] [(.int (own_pick p4 (2 : Int32) p2 (79 : Int32))), (.int (2 : Int32)), (.ref b0_5)])) _
    refine st11 _ ?_
    refine XS.aload X11.here hx rfl (hb hby at_95) rfl rfl ?_
    refine XS.iconst X11.here hx rfl (hb hby at_97) ?_
    refine XS.iload X11.here hx rfl (hb hby at_98) rfl ?_
    refine st13 _ ?_
    refine XS.iload X13.here hx rfl (hb hby at_101) rfl ?_
    show Steps p.tables e below (T13.setTop (mkF m 103 #[iv p0, iv p1, iv p2, iv p3, iv p4, iv p5, iv (own_pick p4 (0 : Int32) p0 (71 : Int32)), iv (own_pick p4 (1 : Int32) p1 (73 : Int32)), iv (own_pick p4 (2 : Int32) p2 (79 : Int32)), iv (own_pick p4 (3 : Int32) p3 (80 : Int32)), iv (0 : Int32), rv b0_5, .unset, .unset, .unset] [(.int (0 : Int32))])) _
    refine XS.ifNo X13.here hx rfl (hb hby at_103) rfl ((if0 _ _).trans (teq (by decide +kernel : (0 : Int32) = (0 : Int32))).2) ?_
    refine XS.aload X13.here hx rfl (hb hby at_106) rfl rfl ?_
    refine XS.iconst X13.here hx rfl (hb hby at_108) ?_
    refine XS.iload X13.here hx rfl (hb hby at_109) rfl ?_
    refine XS.i2b X13.here hx rfl (hb hby at_111) rfl ?_
    refine st15 _ ?_
    show Steps p.tables e below (T15.setTop (mkF m 113 #[iv p0, iv p1, iv p2, iv p3, iv p4, iv p5, iv (own_pick p4 (0 : Int32) p0 (71 : Int32)), iv (own_pick p4 (1 : Int32) p1 (73 : Int32)), iv (own_pick p4 (2 : Int32) p2 (79 : Int32)), iv (own_pick p4 (3 : Int32) p3 (80 : Int32)), iv (0 : Int32), rv b0_5, .unset, .unset, .unset] [])) _
    refine XS.aload X15.here hx rfl (hb hby at_113) rfl rfl ?_
    refine XS.iconst X15.here hx rfl (hb hby at_115) ?_
    refine XS.iload X15.here hx rfl (hb hby at_116) rfl ?_
    refine XS.bipush X15.here hx rfl (hb hby at_118) ?_
    refine XS.iushr X15.here hx rfl (hb hby at_120) rfl ?_
    refine XS.i2b X15.here hx rfl (hb hby at_121) rfl ?_
    show Steps p.tables e below (T15.setTop (mkF m 122 #[iv p0, iv p1, iv p2, iv p3, iv p4, iv p5, iv (own_pick p4 (0 : Int32) p0 (71 : Int32)), iv (own_pick p4 (1 : Int32) p1 (73 : Int32)), iv (own_pick p4 (2 : Int32) p2 (79 : Int32)), iv (own_pick p4 (3 : Int32) p3 (80 : Int32)), iv (0 : Int32), rv b0_5, .unset, .unset, .unset] [(.int (((p5.toUInt32 >>> ((8 : Int32) &&& 31).toUInt32).toInt32).toInt8.toInt32)), (.int (5 : Int32)), (.ref b0_5)])) _
    refine st17 _ ?_
    refine XS.aload X17.here hx rfl (hb hby at_123) rfl rfl ?_
    refine XS.bipush X17.here hx rfl (hb hby at_125) ?_
    refine XS.iload X17.here hx rfl (hb hby at_127) rfl ?_
    refine XS.bipush X17.here hx rfl (hb hby at_129) ?_
    refine XS.iushr X17.here hx rfl (hb hby at_131) rfl ?_
    show Steps p.tables e below (T17.setTop (mkF m 132 #[iv p0, iv p1, iv p2, iv p3, iv p4, iv p5, iv (own_pick p4 (0 : Int32) p0 (71 : Int32)), iv (own_pick p4 (1 : Int32) p1 (73 : Int32)), iv (own_pick p4 (2 : Int32) p2 (79 : Int32)), iv (own_pick p4 (3 : Int32) p3 (80 : Int32)), iv (0 : Int32), rv b0_5, .unset, .unset, .unset] [(.int ((p5.toUInt32 >>> ((16 : Int32) &&& 31).toUInt32).toInt32)), (.int (6 : Int32)), (.ref b0_5)])) _
    refine XS.i2b X17.here hx rfl (hb hby at_132) rfl ?_
    refine st19 _ ?_
    refine XS.aload X19.here hx rfl (hb hby at_134) rfl rfl ?_
    refine XS.bipush X19.here hx rfl (hb hby at_136) ?_
    refine XS.iload X19.here hx rfl (hb hby at_138) rfl ?_
    refine XS.bipush X19.here hx rfl (hb hby at_140) ?_
    show Steps p.tables e below (T19.setTop (mkF m 142 #[iv p0, iv p1, iv p2, iv p3, iv p4, iv p5, iv (own_pick p4 (0 : Int32) p0 (71 : Int32)), iv (own_pick p4 (1 : Int32) p1 (73 : Int32)), iv (own_pick p4 (2 : Int32) p2 (79 : Int32)), iv (own_pick p4 (3 : Int32) p3 (80 : Int32)), iv (0 : Int32), rv b0_5, .unset, .unset, .unset] [(.int (24 : Int32)), (.int p5), (.int (7 : Int32)), (.ref b0_5)])) _
    refine XS.iushr X19.here hx rfl (hb hby at_142) rfl ?_
    refine XS.i2b X19.here hx rfl (hb hby at_143) rfl ?_
    refine st21 _ ?_
    refine XS.iload X21.here hx rfl (hb hby at_145) rfl ?_
    refine XS.bipush X21.here hx rfl (hb hby at_147) ?_
    refine XS.icmpYes X21.here hx rfl (pc0 := 149) (pc' := 177) rfl (hb hby at_149) rfl (feq hm0).2 (by decide) (by decide) ?_
    show Steps p.tables e below (T21.setTop (mkF m 177 #[iv p0, iv p1, iv p2, iv p3, iv p4, iv p5, iv (own_pick p4 (0 : Int32) p0 (71 : Int32)), iv (own_pick p4 (1 : Int32) p1 (73 : Int32)), iv (own_pick p4 (2 : Int32) p2 (79 : Int32)), iv (own_pick p4 (3 : Int32) p3 (80 : Int32)), iv (0 : Int32), rv b0_5, .unset, .unset, .unset] [])) _
    refine XS.iconst X21.here hx rfl (hb hby at_177) ?_
    refine XS.istore X21.here hx rfl (hb hby at_178) rfl (l' := #[iv p0, iv p1, iv p2, iv p3, iv p4, iv p5, iv (own_pick p4 (0 : Int32) p0 (71 : Int32)), iv (own_pick p4 (1 : Int32) p1 (73 : Int32)), iv (own_pick p4 (2 : Int32) p2 (79 : Int32)), iv (own_pick p4 (3 : Int32) p3 (80 : Int32)), iv (0 : Int32), rv b0_5, iv (0 : Int32), .unset, .unset]) rfl ?_
    refine XS.aload X21.here hx rfl (hb hby at_180) rfl rfl ?_
    refine st22 _ ?_
    refine XS.istore X22.here hx rfl (hb hby at_185) rfl (l' := #[iv p0, iv p1, iv p2, iv p3, iv p4, iv p5, iv (own_pick p4 (0 : Int32) p0 (71 : Int32)), iv (own_pick p4 (1 : Int32) p1 (73 : Int32)), iv (own_pick p4 (2 : Int32) p2 (79 : Int32)), iv (own_pick p4 (3 : Int32) p3 (80 : Int32)), iv (0 : Int32), rv b0_5, iv (0 : Int32), iv (0 : Int32), .unset]) rfl ?_
    refine XS.aload X22.here hx rfl (hb hby at_187) rfl rfl ?_
    show Steps p.tables e below (T22.setTop (mkF m 189 #[iv p0, iv p1, iv p2, iv p3, iv p4, iv p5, iv (own_pick p4 (0 : Int32) p0 (71 : Int32)), iv (own_pick p4 (1 : Int32) p1 (73 : Int32)), iv (own_pick p4 (2 : Int32) p2 (79 : Int32)), iv (own_pick p4 (3 : Int32) p3 (80 : Int32)), iv (0 : Int32), rv b0_5, iv (0 : Int32), iv (0 : Int32), .unset] [(.ref b0_5)])) _
    refine XS.iconst X22.here hx rfl (hb hby at_189) ?_
    refine X22.baloadBytes hx (j := (0 : Int32)) (v := (.int (own_pick p4 (0 : Int32) p0 (71 : Int32)))) (by rw [e22]; exact Ar26.1) (State.isArrayOf_alike hZ.alike Ar26.2.1) Ar26.2.2 hin26 (Hs26.at hin26 rfl) (g := (mkF m 190 #[iv p0, iv p1, iv p2, iv p3, iv p4, iv p5, iv (own_pick p4 (0 : Int32) p0 (71 : Int32)), iv (own_pick p4 (1 : Int32) p1 (73 : Int32)), iv (own_pick p4 (2 : Int32) p2 (79 : Int32)), iv (own_pick p4 (3 : Int32) p3 (80 : Int32)), iv (0 : Int32), rv b0_5, iv (0 : Int32), iv (0 : Int32), .unset] [(.int (0 : Int32)), (.ref b0_5)])) rfl rfl (hb hby at_190) _ ?_
    refine XS.iload X22.here hx rfl (hb hby at_191) rfl ?_
    refine XS.icmpNo X22.here hx rfl (hb hby at_193) rfl (teq (rfl : (own_pick p4 (0 : Int32) p0 (71 : Int32)) = (own_pick p4 (0 : Int32) p0 (71 : Int32)))).2 ?_
    refine XS.aload X22.here hx rfl (hb hby at_196) rfl rfl ?_
    refine XS.iconst X22.here hx rfl (hb hby at_198) ?_
    show Steps p.tables e below (T22.setTop (mkF m 199 #[iv p0, iv p1, iv p2, iv p3, iv p4, iv p5, iv (own_pick p4 (0 : Int32) p0 (71 : Int32)), iv (own_pick p4 (1 : Int32) p1 (73 : Int32)), iv (own_pick p4 (2 : Int32) p2 (79 : Int32)), iv (own_pick p4 (3 : Int32) p3 (80 : Int32)), iv (0 : Int32), rv b0_5, iv (0 : Int32), iv (0 : Int32), .unset] [(.int (1 : Int32)), (.ref b0_5)])) _
    refine X22.baloadBytes hx (j := (1 : Int32)) (v := (.int (own_pick p4 (1 : Int32) p1 (73 : Int32)))) (by rw [e22]; exact Ar27.1) (State.isArrayOf_alike hZ.alike Ar27.2.1) Ar27.2.2 hin27 (Hs27.at hin27 rfl) (g := (mkF m 199 #[iv p0, iv p1, iv p2, iv p3, iv p4, iv p5, iv (own_pick p4 (0 : Int32) p0 (71 : Int32)), iv (own_pick p4 (1 : Int32) p1 (73 : Int32)), iv (own_pick p4 (2 : Int32) p2 (79 : Int32)), iv (own_pick p4 (3 : Int32) p3 (80 : Int32)), iv (0 : Int32), rv b0_5, iv (0 : Int32), iv (0 : Int32), .unset] [(.int (1 : Int32)), (.ref b0_5)])) rfl rfl (hb hby at_199) _ ?_
    refine XS.iload X22.here hx rfl (hb hby at_200) rfl ?_
    refine XS.icmpNo X22.here hx rfl (hb hby at_202) rfl (teq (rfl : (own_pick p4 (1 : Int32) p1 (73 : Int32)) = (own_pick p4 (1 : Int32) p1 (73 : Int32)))).2 ?_
    refine XS.aload X22.here hx rfl (hb hby at_205) rfl rfl ?_
    refine XS.iconst X22.here hx rfl (hb hby at_207) ?_
    refine X22.baloadBytes hx (j := (2 : Int32)) (v := (.int (own_pick p4 (2 : Int32) p2 (79 : Int32)))) (by rw [e22]; exact Ar28.1) (State.isArrayOf_alike hZ.alike Ar28.2.1) Ar28.2.2 hin28 (Hs28.at hin28 rfl) (g := (mkF m 208 #[iv p0, iv p1, iv p2, iv p3, iv p4, iv p5, iv (own_pick p4 (0 : Int32) p0 (71 : Int32)), iv (own_pick p4 (1 : Int32) p1 (73 : Int32)), iv (own_pick p4 (2 : Int32) p2 (79 : Int32)), iv (own_pick p4 (3 : Int32) p3 (80 : Int32)), iv (0 : Int32), rv b0_5, iv (0 : Int32), iv (0 : Int32), .unset] [(.int (2 : Int32)), (.ref b0_5)])) rfl rfl (hb hby at_208) _ ?_
    show Steps p.tables e below (T22.setTop (mkF m 209 #[iv p0, iv p1, iv p2, iv p3, iv p4, iv p5, iv (own_pick p4 (0 : Int32) p0 (71 : Int32)), iv (own_pick p4 (1 : Int32) p1 (73 : Int32)), iv (own_pick p4 (2 : Int32) p2 (79 : Int32)), iv (own_pick p4 (3 : Int32) p3 (80 : Int32)), iv (0 : Int32), rv b0_5, iv (0 : Int32), iv (0 : Int32), .unset] [(.int (own_pick p4 (2 : Int32) p2 (79 : Int32)))])) _
    refine XS.iload X22.here hx rfl (hb hby at_209) rfl ?_
    refine XS.icmpNo X22.here hx rfl (hb hby at_211) rfl (teq (rfl : (own_pick p4 (2 : Int32) p2 (79 : Int32)) = (own_pick p4 (2 : Int32) p2 (79 : Int32)))).2 ?_
    refine XS.aload X22.here hx rfl (hb hby at_214) rfl rfl ?_
    refine XS.iconst X22.here hx rfl (hb hby at_216) ?_
    refine X22.baloadBytes hx (j := (3 : Int32)) (v := (.int (own_pick p4 (3 : Int32) p3 (80 : Int32)))) (by rw [e22]; exact Ar29.1) (State.isArrayOf_alike hZ.alike Ar29.2.1) Ar29.2.2 hin29 (Hs29.at hin29 rfl) (g := (mkF m 217 #[iv p0, iv p1, iv p2, iv p3, iv p4, iv p5, iv (own_pick p4 (0 : Int32) p0 (71 : Int32)), iv (own_pick p4 (1 : Int32) p1 (73 : Int32)), iv (own_pick p4 (2 : Int32) p2 (79 : Int32)), iv (own_pick p4 (3 : Int32) p3 (80 : Int32)), iv (0 : Int32), rv b0_5, iv (0 : Int32), iv (0 : Int32), .unset] [(.int (3 : Int32)), (.ref b0_5)])) rfl rfl (hb hby at_217) _ ?_
    refine XS.iload X22.here hx rfl (hb hby at_218) rfl ?_
    show Steps p.tables e below (T22.setTop (mkF m 220 #[iv p0, iv p1, iv p2, iv p3, iv p4, iv p5, iv (own_pick p4 (0 : Int32) p0 (71 : Int32)), iv (own_pick p4 (1 : Int32) p1 (73 : Int32)), iv (own_pick p4 (2 : Int32) p2 (79 : Int32)), iv (own_pick p4 (3 : Int32) p3 (80 : Int32)), iv (0 : Int32), rv b0_5, iv (0 : Int32), iv (0 : Int32), .unset] [(.int (own_pick p4 (3 : Int32) p3 (80 : Int32))), (.int (own_pick p4 (3 : Int32) p3 (80 : Int32)))])) _
    refine XS.icmpNo X22.here hx rfl (hb hby at_220) rfl (teq (rfl : (own_pick p4 (3 : Int32) p3 (80 : Int32)) = (own_pick p4 (3 : Int32) p3 (80 : Int32)))).2 ?_
    refine XS.iconst X22.here hx rfl (hb hby at_223) ?_
    refine XS.goto X22.here hx rfl (pc0 := 224) (pc' := 228) rfl (hb hby at_224) (by decide) (by decide) ?_
    refine XS.istore X22.here hx rfl (hb hby at_228) rfl (l' := #[iv p0, iv p1, iv p2, iv p3, iv p4, iv p5, iv (own_pick p4 (0 : Int32) p0 (71 : Int32)), iv (own_pick p4 (1 : Int32) p1 (73 : Int32)), iv (own_pick p4 (2 : Int32) p2 (79 : Int32)), iv (own_pick p4 (3 : Int32) p3 (80 : Int32)), iv (0 : Int32), rv b0_5, iv (0 : Int32), iv (0 : Int32), iv (1 : Int32)]) rfl ?_
    refine XS.iload X22.here hx rfl (hb hby at_230) rfl ?_
    refine XS.iload X22.here hx rfl (hb hby at_232) rfl ?_
    show Steps p.tables e below (T22.setTop (mkF m 234 #[iv p0, iv p1, iv p2, iv p3, iv p4, iv p5, iv (own_pick p4 (0 : Int32) p0 (71 : Int32)), iv (own_pick p4 (1 : Int32) p1 (73 : Int32)), iv (own_pick p4 (2 : Int32) p2 (79 : Int32)), iv (own_pick p4 (3 : Int32) p3 (80 : Int32)), iv (0 : Int32), rv b0_5, iv (0 : Int32), iv (0 : Int32), iv (1 : Int32)] [(.int (0 : Int32)), (.int (0 : Int32))])) _
    refine XS.icmpNo X22.here hx rfl (hb hby at_234) rfl (teq (by decide +kernel : (0 : Int32) = (0 : Int32))).2 ?_
    refine XS.iload X22.here hx rfl (hb hby at_237) rfl ?_
    refine XS.ifNo X22.here hx rfl (hb hby at_239) rfl ((if0 _ _).trans (feq (by decide +kernel : ¬ ((1 : Int32) = (0 : Int32)))).1) ?_
    refine XS.iconst X22.here hx rfl (hb hby at_242) ?_
    refine XS.goto X22.here hx rfl (pc0 := 243) (pc' := 247) rfl (hb hby at_243) (by decide) (by decide) ?_
    exact retN X22 hx (t := .boolean) Bd.returns (by simp) (hb hby at_247) hr
  · exact ⟨rfl, N22⟩
set_option maxRecDepth 65536 in
set_option maxHeartbeats 40000000 in
theorem rm2_5 (l : Launch) (Z : State) (a0 : Array Value) (hw : ∀ d ∈ tables_1, d.before a0 Z = true) (ws : List Jvm.Cond) (w_Giop_MAGIC : Addr) (k_w_Giop_MAGIC : ClassId) (b0_5 : Addr) (k0_5 : ClassId) (h0 : Heap) (n0 : Nat) (Z0 : n0 ≤ h0.size) (S_Giop_MAGIC : Sta Z h0 "org/driftcairn/giop/Giop" "MAGIC" "[B" (.ref w_Giop_MAGIC)) (V_w_Giop_MAGIC : Arv Z h0 w_Giop_MAGIC k_w_Giop_MAGIC .byte (4 : Int32) [(.int (71 : Int32)), (.int (73 : Int32)), (.int (79 : Int32)), (.int (80 : Int32))] (.int (0 : Int32))) (V_b0_5 : Arv Z h0 b0_5 k0_5 .byte (4 : Int32) [(.int (71 : Int32)), (.int (73 : Int32)), (.int (79 : Int32)), (.int (80 : Int32))] (.int (0 : Int32))) :
    MetFree l (⟨"org/driftcairn/giop/Giop", "hasMagic", "([B)Z"⟩ : MethodName) (head1 (Jvm.Cond.code (⟨"org/driftcairn/giop/Giop", "hasMagic", "([B)Z"⟩ : MethodName) prog_59_method_2_code 2 (some .boolean) :: ws) ({ frames := 0, cells := 0, slots := 0, locals := 0 } : Room)) (fun a U => a = #[(.ref b0_5)] ∧ Z.Warmed39 U.vm ∧ U.heap = h0) (fun _ _ _ _ _ => True) (fun _ U o U' => ∃ v L, o = .returned v ∧ own_QP (some (.int (1 : Int32))) h0 n0 v U'.heap L ∧ FrameEnd U o U' L ({ frames := 0, cells := 0, slots := 0, locals := 0 } : Room).cells ({ frames := 0, cells := 0, slots := 0, locals := 0 } : Room).slots) := by
  refine MetFree.of_bodySF (plainFor_of_name pn_1) hisR ?_
  intro p e s m args below meth c s₁ Bd hml0 hP hK
  obtain ⟨rfl, hZ, hh⟩ := hP
  have hx := Bd.exec
  have hby := Bd.bytes
  have hml : c.maxLocals = 2 := hml0
  have hown : s.vm.findClass "org/driftcairn/giop/Giop" = some m.cls := findClass_of_methodNamed Bd.named
  have hnm := (name_of_methodNamed Bd.named Bd.method).1
  have X0 : Stand p l e ({ frames := 0, cells := 0, slots := 0, locals := 0 } : Room) s m #[(.ref b0_5)] below meth c s₁ [] 0 0 := Stand.of_body Bd
  have e0 : s₁.heap = h0 := by rw [← hh, Bd.state]; rfl
  have N0 := Fr.nil n0
  have pre0 : ∀ t, Steps p.tables e below (s₁.setTop (mkF m 0 #[rv b0_5, .unset] [])) t → Steps p.tables e below (s₁.setTop (entryFrame m #[(.ref b0_5)] 2)) t := fun t k => castTop (ef_2_R m b0_5) k
  obtain ⟨T1, X1, e1, st1⟩ := getS2 X0 hx hZ hown (host := "") (Or.inl (hw _ (List.mem_of_getElem? (i := 9) rfl))) Via.refl e0 S_Giop_MAGIC (g := (mkF m 3 #[rv b0_5, iv (0 : Int32)] [(.int (0 : Int32))])) rfl (hb hby d2_3)
  obtain ⟨cl2, Ar2, -, Sz2, Nn2, -, -⟩ := id V_w_Giop_MAGIC
  obtain ⟨cl3, Ar3, -, Sz3, Nn3, Hs3, Gs3⟩ := id V_b0_5
  have hin3 : ¬ ((0 : Int32) < 0 ∨ cl3.slots.size ≤ ((0 : Int32)).toNatClampNeg) := inb_of Sz3 ⟨by decide, by decide⟩
  obtain ⟨T4, X4, e4, st4⟩ := getS2 X1 hx hZ hown (host := "") (Or.inl (hw _ (List.mem_of_getElem? (i := 9) rfl))) Via.refl e1 S_Giop_MAGIC (g := (mkF m 13 #[rv b0_5, iv (0 : Int32)] [(.int (71 : Int32))])) rfl (hb hby d2_13)
  obtain ⟨cl5, Ar5, -, Sz5, Nn5, Hs5, Gs5⟩ := id V_w_Giop_MAGIC
  have hin5 : ¬ ((0 : Int32) < 0 ∨ cl5.slots.size ≤ ((0 : Int32)).toNatClampNeg) := inb_of Sz5 ⟨by decide, by decide⟩
  obtain ⟨T6, X6, e6, st6⟩ := getS2 X4 hx hZ hown (host := "") (Or.inl (hw _ (List.mem_of_getElem? (i := 9) rfl))) Via.refl e4 S_Giop_MAGIC (g := (mkF m 3 #[rv b0_5, iv (1 : Int32)] [(.int (1 : Int32))])) rfl (hb hby d2_3)
  obtain ⟨cl7, Ar7, -, Sz7, Nn7, -, -⟩ := id V_w_Giop_MAGIC
  obtain ⟨cl8, Ar8, -, Sz8, Nn8, Hs8, Gs8⟩ := id V_b0_5
  have hin8 : ¬ ((1 : Int32) < 0 ∨ cl8.slots.size ≤ ((1 : Int32)).toNatClampNeg) := inb_of Sz8 ⟨by decide, by decide⟩
  obtain ⟨T9, X9, e9, st9⟩ := getS2 X6 hx hZ hown (host := "") (Or.inl (hw _ (List.mem_of_getElem? (i := 9) rfl))) Via.refl e6 S_Giop_MAGIC (g := (mkF m 13 #[rv b0_5, iv (1 : Int32)] [(.int (73 : Int32))])) rfl (hb hby d2_13)
  obtain ⟨cl10, Ar10, -, Sz10, Nn10, Hs10, Gs10⟩ := id V_w_Giop_MAGIC
  have hin10 : ¬ ((1 : Int32) < 0 ∨ cl10.slots.size ≤ ((1 : Int32)).toNatClampNeg) := inb_of Sz10 ⟨by decide, by decide⟩
  obtain ⟨T11, X11, e11, st11⟩ := getS2 X9 hx hZ hown (host := "") (Or.inl (hw _ (List.mem_of_getElem? (i := 9) rfl))) Via.refl e9 S_Giop_MAGIC (g := (mkF m 3 #[rv b0_5, iv (2 : Int32)] [(.int (2 : Int32))])) rfl (hb hby d2_3)
  obtain ⟨cl12, Ar12, -, Sz12, Nn12, -, -⟩ := id V_w_Giop_MAGIC
  obtain ⟨cl13, Ar13, -, Sz13, Nn13, Hs13, Gs13⟩ := id V_b0_5
  have hin13 : ¬ ((2 : Int32) < 0 ∨ cl13.slots.size ≤ ((2 : Int32)).toNatClampNeg) := inb_of Sz13 ⟨by decide, by decide⟩
  obtain ⟨T14, X14, e14, st14⟩ := getS2 X11 hx hZ hown (host := "") (Or.inl (hw _ (List.mem_of_getElem? (i := 9) rfl))) Via.refl e11 S_Giop_MAGIC (g := (mkF m 13 #[rv b0_5, iv (2 : Int32)] [(.int (79 : Int32))])) rfl (hb hby d2_13)
  obtain ⟨cl15, Ar15, -, Sz15, Nn15, Hs15, Gs15⟩ := id V_w_Giop_MAGIC
  have hin15 : ¬ ((2 : Int32) < 0 ∨ cl15.slots.size ≤ ((2 : Int32)).toNatClampNeg) := inb_of Sz15 ⟨by decide, by decide⟩
  obtain ⟨T16, X16, e16, st16⟩ := getS2 X14 hx hZ hown (host := "") (Or.inl (hw _ (List.mem_of_getElem? (i := 9) rfl))) Via.refl e14 S_Giop_MAGIC (g := (mkF m 3 #[rv b0_5, iv (3 : Int32)] [(.int (3 : Int32))])) rfl (hb hby d2_3)
  obtain ⟨cl17, Ar17, -, Sz17, Nn17, -, -⟩ := id V_w_Giop_MAGIC
  obtain ⟨cl18, Ar18, -, Sz18, Nn18, Hs18, Gs18⟩ := id V_b0_5
  have hin18 : ¬ ((3 : Int32) < 0 ∨ cl18.slots.size ≤ ((3 : Int32)).toNatClampNeg) := inb_of Sz18 ⟨by decide, by decide⟩
  obtain ⟨T19, X19, e19, st19⟩ := getS2 X16 hx hZ hown (host := "") (Or.inl (hw _ (List.mem_of_getElem? (i := 9) rfl))) Via.refl e16 S_Giop_MAGIC (g := (mkF m 13 #[rv b0_5, iv (3 : Int32)] [(.int (80 : Int32))])) rfl (hb hby d2_13)
  obtain ⟨cl20, Ar20, -, Sz20, Nn20, Hs20, Gs20⟩ := id V_w_Giop_MAGIC
  have hin20 : ¬ ((3 : Int32) < 0 ∨ cl20.slots.size ≤ ((3 : Int32)).toNatClampNeg) := inb_of Sz20 ⟨by decide, by decide⟩
  obtain ⟨T21, X21, e21, st21⟩ := getS2 X19 hx hZ hown (host := "") (Or.inl (hw _ (List.mem_of_getElem? (i := 9) rfl))) Via.refl e19 S_Giop_MAGIC (g := (mkF m 3 #[rv b0_5, iv (4 : Int32)] [(.int (4 : Int32))])) rfl (hb hby d2_3)
  obtain ⟨cl22, Ar22, -, Sz22, Nn22, -, -⟩ := id V_w_Giop_MAGIC
  obtain ⟨fs, hr, hrun, hended, hW, hsame⟩ := X21.leave (v := (some (.int (1 : Int32)))) (fun h => by rw [Bd.returns] at h; cases h)
  refine ⟨_, _, pre0 _ ?_, hrun, hended, _, _, rfl, ?_, ⟨_, rfl⟩, hW, hsame.mono (by decide) (by decide)⟩
  · show Steps p.tables e below (s₁.setTop (mkF m 0 #[rv b0_5, .unset] [])) _
    refine XS.iconst X0.here hx rfl (hb hby d2_0) ?_
    refine XS.istoreN X0.here hx rfl (hb hby d2_1) rfl (l' := #[rv b0_5, iv (0 : Int32)]) rfl ?_
    refine XS.iloadN X0.here hx rfl (hb hby d2_2) rfl ?_
    refine st1 _ ?_
    refine X1.arraylength hx (by rw [e1]; exact Ar2.1) (State.isArrayOf_alike hZ.alike Ar2.2.1) (g := (mkF m 6 #[rv b0_5, iv (0 : Int32)] [(.ref w_Giop_MAGIC), (.int (0 : Int32))])) rfl rfl (hb hby d2_6) _ ?_
    rw [len_of Sz2 Nn2]
    refine XS.icmpNo X1.here hx rfl (hb hby d2_7) rfl (tlt (by decide +kernel : (0 : Int32) < (4 : Int32))).2.1 ?_
    show Steps p.tables e below (T1.setTop (mkF m 10 #[rv b0_5, iv (0 : Int32)] [])) _
    refine XS.aloadN X1.here hx rfl (hb hby d2_10) rfl rfl ?_
    refine XS.iloadN X1.here hx rfl (hb hby d2_11) rfl ?_
    refine X1.baloadBytes hx (j := (0 : Int32)) (v := (.int (71 : Int32))) (by rw [e1]; exact Ar3.1) (State.isArrayOf_alike hZ.alike Ar3.2.1) Ar3.2.2 hin3 (Hs3.at hin3 rfl) (g := (mkF m 12 #[rv b0_5, iv (0 : Int32)] [(.int (0 : Int32)), (.ref b0_5)])) rfl rfl (hb hby d2_12) _ ?_
    refine st4 _ ?_
    refine XS.iloadN X4.here hx rfl (hb hby d2_16) rfl ?_
    refine X4.baloadBytes hx (j := (0 : Int32)) (v := (.int (71 : Int32))) (by rw [e4]; exact Ar5.1) (State.isArrayOf_alike hZ.alike Ar5.2.1) Ar5.2.2 hin5 (Hs5.at hin5 rfl) (g := (mkF m 17 #[rv b0_5, iv (0 : Int32)] [(.int (0 : Int32)), (.ref w_Giop_MAGIC), (.int (71 : Int32))])) rfl rfl (hb hby d2_17) _ ?_
    show Steps p.tables e below (T4.setTop (mkF m 18 #[rv b0_5, iv (0 : Int32)] [(.int (71 : Int32)), (.int (71 : Int32))])) _
    refine XS.icmpYes X4.here hx rfl (pc0 := 18) (pc' := 23) rfl (hb hby d2_18) rfl (teq (by decide +kernel : (71 : Int32) = (71 : Int32))).1 (by decide) (by decide) ?_
    refine XS.iinc X4.here hx rfl (hb hby d2_23) rfl (l' := #[rv b0_5, iv ((0 : Int32) + (1 : Int32))]) rfl ?_
    show Steps p.tables e below (T4.setTop (mkF m 26 #[rv b0_5, iv ((0 : Int32) + (1 : Int32))] [])) _
    rewrite [show ((0 : Int32) + (1 : Int32)) = (1 : Int32) from by decide +kernel]
    refine XS.goto X4.here hx rfl (pc0 := 26) (pc' := 2) rfl (hb hby d2_26) (by decide) (by decide) ?_
    refine XS.iloadN X4.here hx rfl (hb hby d2_2) rfl ?_
    refine st6 _ ?_
    refine X6.arraylength hx (by rw [e6]; exact Ar7.1) (State.isArrayOf_alike hZ.alike Ar7.2.1) (g := (mkF m 6 #[rv b0_5, iv (1 : Int32)] [(.ref w_Giop_MAGIC), (.int (1 : Int32))])) rfl rfl (hb hby d2_6) _ ?_
    rw [len_of Sz7 Nn7]
    show Steps p.tables e below (T6.setTop (mkF m 7 #[rv b0_5, iv (1 : Int32)] [(.int (4 : Int32)), (.int (1 : Int32))])) _
    refine XS.icmpNo X6.here hx rfl (hb hby d2_7) rfl (tlt (by decide +kernel : (1 : Int32) < (4 : Int32))).2.1 ?_
    refine XS.aloadN X6.here hx rfl (hb hby d2_10) rfl rfl ?_
    refine XS.iloadN X6.here hx rfl (hb hby d2_11) rfl ?_
    refine X6.baloadBytes hx (j := (1 : Int32)) (v := (.int (73 : Int32))) (by rw [e6]; exact Ar8.1) (State.isArrayOf_alike hZ.alike Ar8.2.1) Ar8.2.2 hin8 (Hs8.at hin8 rfl) (g := (mkF m 12 #[rv b0_5, iv (1 : Int32)] [(.int (1 : Int32)), (.ref b0_5)])) rfl rfl (hb hby d2_12) _ ?_
    refine st9 _ ?_
    refine XS.iloadN X9.here hx rfl (hb hby d2_16) rfl ?_
    show Steps p.tables e below (T9.setTop (mkF m 17 #[rv b0_5, iv (1 : Int32)] [(.int (1 : Int32)), (.ref w_Giop_MAGIC), (.int (73 : Int32))])) _
    refine X9.baloadBytes hx (j := (1 : Int32)) (v := (.int (73 : Int32))) (by rw [e9]; exact Ar10.1) (State.isArrayOf_alike hZ.alike Ar10.2.1) Ar10.2.2 hin10 (Hs10.at hin10 rfl) (g := (mkF m 17 #[rv b0_5, iv (1 : Int32)] [(.int (1 : Int32)), (.ref w_Giop_MAGIC), (.int (73 : Int32))])) rfl rfl (hb hby d2_17) _ ?_
    refine XS.icmpYes X9.here hx rfl (pc0 := 18) (pc' := 23) rfl (hb hby d2_18) rfl (teq (by decide +kernel : (73 : Int32) = (73 : Int32))).1 (by decide) (by decide) ?_
    refine XS.iinc X9.here hx rfl (hb hby d2_23) rfl (l' := #[rv b0_5, iv ((1 : Int32) + (1 : Int32))]) rfl ?_
    show Steps p.tables e below (T9.setTop (mkF m 26 #[rv b0_5, iv ((1 : Int32) + (1 : Int32))] [])) _
    rewrite [show ((1 : Int32) + (1 : Int32)) = (2 : Int32) from by decide +kernel]
    refine XS.goto X9.here hx rfl (pc0 := 26) (pc' := 2) rfl (hb hby d2_26) (by decide) (by decide) ?_
    refine XS.iloadN X9.here hx rfl (hb hby d2_2) rfl ?_
    refine st11 _ ?_
    show Steps p.tables e below (T11.setTop (mkF m 6 #[rv b0_5, iv (2 : Int32)] [(.ref w_Giop_MAGIC), (.int (2 : Int32))])) _
    refine X11.arraylength hx (by rw [e11]; exact Ar12.1) (State.isArrayOf_alike hZ.alike Ar12.2.1) (g := (mkF m 6 #[rv b0_5, iv (2 : Int32)] [(.ref w_Giop_MAGIC), (.int (2 : Int32))])) rfl rfl (hb hby d2_6) _ ?_
    rw [len_of Sz12 Nn12]
    refine XS.icmpNo X11.here hx rfl (hb hby d2_7) rfl (tlt (by decide +kernel : (2 : Int32) < (4 : Int32))).2.1 ?_
    refine XS.aloadN X11.here hx rfl (hb hby d2_10) rfl rfl ?_
    refine XS.iloadN X11.here hx rfl (hb hby d2_11) rfl ?_
    refine X11.baloadBytes hx (j := (2 : Int32)) (v := (.int (79 : Int32))) (by rw [e11]; exact Ar13.1) (State.isArrayOf_alike hZ.alike Ar13.2.1) Ar13.2.2 hin13 (Hs13.at hin13 rfl) (g := (mkF m 12 #[rv b0_5, iv (2 : Int32)] [(.int (2 : Int32)), (.ref b0_5)])) rfl rfl (hb hby d2_12) _ ?_
    refine st14 _ ?_
    show Steps p.tables e below (T14.setTop (mkF m 16 #[rv b0_5, iv (2 : Int32)] [(.ref w_Giop_MAGIC), (.int (79 : Int32))])) _
    refine XS.iloadN X14.here hx rfl (hb hby d2_16) rfl ?_
    refine X14.baloadBytes hx (j := (2 : Int32)) (v := (.int (79 : Int32))) (by rw [e14]; exact Ar15.1) (State.isArrayOf_alike hZ.alike Ar15.2.1) Ar15.2.2 hin15 (Hs15.at hin15 rfl) (g := (mkF m 17 #[rv b0_5, iv (2 : Int32)] [(.int (2 : Int32)), (.ref w_Giop_MAGIC), (.int (79 : Int32))])) rfl rfl (hb hby d2_17) _ ?_
    refine XS.icmpYes X14.here hx rfl (pc0 := 18) (pc' := 23) rfl (hb hby d2_18) rfl (teq (by decide +kernel : (79 : Int32) = (79 : Int32))).1 (by decide) (by decide) ?_
    refine XS.iinc X14.here hx rfl (hb hby d2_23) rfl (l' := #[rv b0_5, iv ((2 : Int32) + (1 : Int32))]) rfl ?_
    show Steps p.tables e below (T14.setTop (mkF m 26 #[rv b0_5, iv ((2 : Int32) + (1 : Int32))] [])) _
    rewrite [show ((2 : Int32) + (1 : Int32)) = (3 : Int32) from by decide +kernel]
    refine XS.goto X14.here hx rfl (pc0 := 26) (pc' := 2) rfl (hb hby d2_26) (by decide) (by decide) ?_
    refine XS.iloadN X14.here hx rfl (hb hby d2_2) rfl ?_
    show Steps p.tables e below (T14.setTop (mkF m 3 #[rv b0_5, iv (3 : Int32)] [(.int (3 : Int32))])) _
    refine st16 _ ?_
    refine X16.arraylength hx (by rw [e16]; exact Ar17.1) (State.isArrayOf_alike hZ.alike Ar17.2.1) (g := (mkF m 6 #[rv b0_5, iv (3 : Int32)] [(.ref w_Giop_MAGIC), (.int (3 : Int32))])) rfl rfl (hb hby d2_6) _ ?_
    rw [len_of Sz17 Nn17]
    refine XS.icmpNo X16.here hx rfl (hb hby d2_7) rfl (tlt (by decide +kernel : (3 : Int32) < (4 : Int32))).2.1 ?_
    refine XS.aloadN X16.here hx rfl (hb hby d2_10) rfl rfl ?_
    refine XS.iloadN X16.here hx rfl (hb hby d2_11) rfl ?_
    refine X16.baloadBytes hx (j := (3 : Int32)) (v := (.int (80 : Int32))) (by rw [e16]; exact Ar18.1) (State.isArrayOf_alike hZ.alike Ar18.2.1) Ar18.2.2 hin18 (Hs18.at hin18 rfl) (g := (mkF m 12 #[rv b0_5, iv (3 : Int32)] [(.int (3 : Int32)), (.ref b0_5)])) rfl rfl (hb hby d2_12) _ ?_
    show Steps p.tables e below (T16.setTop (mkF m 13 #[rv b0_5, iv (3 : Int32)] [(.int (80 : Int32))])) _
    refine st19 _ ?_
    refine XS.iloadN X19.here hx rfl (hb hby d2_16) rfl ?_
    refine X19.baloadBytes hx (j := (3 : Int32)) (v := (.int (80 : Int32))) (by rw [e19]; exact Ar20.1) (State.isArrayOf_alike hZ.alike Ar20.2.1) Ar20.2.2 hin20 (Hs20.at hin20 rfl) (g := (mkF m 17 #[rv b0_5, iv (3 : Int32)] [(.int (3 : Int32)), (.ref w_Giop_MAGIC), (.int (80 : Int32))])) rfl rfl (hb hby d2_17) _ ?_
    refine XS.icmpYes X19.here hx rfl (pc0 := 18) (pc' := 23) rfl (hb hby d2_18) rfl (teq (by decide +kernel : (80 : Int32) = (80 : Int32))).1 (by decide) (by decide) ?_
    refine XS.iinc X19.here hx rfl (hb hby d2_23) rfl (l' := #[rv b0_5, iv ((3 : Int32) + (1 : Int32))]) rfl ?_
    show Steps p.tables e below (T19.setTop (mkF m 26 #[rv b0_5, iv ((3 : Int32) + (1 : Int32))] [])) _
    rewrite [show ((3 : Int32) + (1 : Int32)) = (4 : Int32) from by decide +kernel]
    refine XS.goto X19.here hx rfl (pc0 := 26) (pc' := 2) rfl (hb hby d2_26) (by decide) (by decide) ?_
    show Steps p.tables e below (T19.setTop (mkF m 2 #[rv b0_5, iv (4 : Int32)] [])) _
    refine XS.iloadN X19.here hx rfl (hb hby d2_2) rfl ?_
    refine st21 _ ?_
    refine X21.arraylength hx (by rw [e21]; exact Ar22.1) (State.isArrayOf_alike hZ.alike Ar22.2.1) (g := (mkF m 6 #[rv b0_5, iv (4 : Int32)] [(.ref w_Giop_MAGIC), (.int (4 : Int32))])) rfl rfl (hb hby d2_6) _ ?_
    rw [len_of Sz22 Nn22]
    refine XS.icmpYes X21.here hx rfl (pc0 := 7) (pc' := 29) rfl (hb hby d2_7) rfl (flt (by decide +kernel : ¬ ((4 : Int32) < (4 : Int32)))).2.1 (by decide) (by decide) ?_
    refine XS.iconst X21.here hx rfl (hb hby d2_29) ?_
    exact retN X21 hx (t := .boolean) Bd.returns (by simp) (hb hby d2_30) hr
  · exact ⟨rfl, N0, e21⟩
set_option maxRecDepth 65536 in
set_option maxHeartbeats 40000000 in
theorem rm0_5 (l : Launch) (Z : State) (a0 : Array Value) (hw : ∀ d ∈ tables_1, d.before a0 Z = true) (ws : List Jvm.Cond) (p0 : Int32) (p1 : Int32) (p2 : Int32) (p3 : Int32) (p4 : Int32) (p5 : Int32) (w_Giop_MAGIC : Addr) (k_w_Giop_MAGIC : ClassId) (h0 : Heap) (n0 : Nat) (Z0 : n0 ≤ h0.size) (hm0 : (own_pick p4 (0 : Int32) p0 (71 : Int32)) = (71 : Int32)) (hm1 : (own_pick p4 (1 : Int32) p1 (73 : Int32)) = (73 : Int32)) (hm2 : (own_pick p4 (2 : Int32) p2 (79 : Int32)) = (79 : Int32)) (hm3 : (own_pick p4 (3 : Int32) p3 (80 : Int32)) = (80 : Int32)) (hs : (((p4.toUInt32 >>> ((4 : Int32) &&& 31).toUInt32).toInt32) &&& (1 : Int32)) = (1 : Int32)) (S_Giop_MAGIC : Sta Z h0 "org/driftcairn/giop/Giop" "MAGIC" "[B" (.ref w_Giop_MAGIC)) (V_w_Giop_MAGIC : Arv Z h0 w_Giop_MAGIC k_w_Giop_MAGIC .byte (4 : Int32) [(.int (71 : Int32)), (.int (73 : Int32)), (.int (79 : Int32)), (.int (80 : Int32))] (.int (0 : Int32))) :
    MetFree l x (head1 (Jvm.Cond.code x code maxLocals ret :: ws) room_1) (fun a U => a = #[(.int p0), (.int p1), (.int p2), (.int p3), (.int p4), (.int p5)] ∧ Z.Warmed39 U.vm ∧ U.heap = h0) (fun _ _ _ _ _ => True) (fun _ U o U' => ∃ v L, o = .returned v ∧ own_QL n0 v U'.heap L ∧ FrameEnd U o U' L room_1.cells room_1.slots) := by
  refine MetFree.of_bodySF (plainFor_of_name pn_0) hisR ?_
  intro p e s m args below meth c s₁ Bd hml0 hP hK
  obtain ⟨rfl, hZ, hh⟩ := hP
  have hx := Bd.exec
  have hby := Bd.bytes
  have hml : c.maxLocals = 15 := hml0
  have hown : s.vm.findClass "org/driftcairn/giop/GiopHasMagicPinLaw" = some m.cls := findClass_of_methodNamed Bd.named
  have hnm := (name_of_methodNamed Bd.named Bd.method).1
  have X0 : Stand p l e room_1 s m #[(.int p0), (.int p1), (.int p2), (.int p3), (.int p4), (.int p5)] below meth c s₁ [] 0 0 := Stand.of_body Bd
  have e0 : s₁.heap = h0 := by rw [← hh, Bd.state]; rfl
  have N0 := Fr.nil n0
  have pre0 : ∀ t, Steps p.tables e below (s₁.setTop (mkF m 0 #[iv p0, iv p1, iv p2, iv p3, iv p4, iv p5, .unset, .unset, .unset, .unset, .unset, .unset, .unset, .unset, .unset] [])) t → Steps p.tables e below (s₁.setTop (entryFrame m #[(.int p0), (.int p1), (.int p2), (.int p3), (.int p4), (.int p5)] maxLocals)) t := fun t k => castTop (ef_0_IIIIII m p0 p1 p2 p3 p4 p5) k
  obtain ⟨_, _, ⟨T1, L1, k1, n1⟩, -, X1, ⟨Lc1, hQ1, l1, y1, z1⟩, st1⟩ := Jvm.LawKit.callS X0 hx (y := (⟨"org/driftcairn/giop/GiopHasMagicPinLaw", "pick", "(IIIC)B"⟩ : MethodName)) hown (mvT hZ (hw _ (List.mem_of_getElem? (i := 0) rfl))) (mvT hZ (hw _ (List.mem_of_getElem? (i := 1) rfl))) (mvT hZ (hw _ (List.mem_of_getElem? (i := 2) rfl))) (mvT hZ (hw _ (List.mem_of_getElem? (i := 3) rfl))) (by decide) (backOf (W := 0) (rk_pick l Z a0 hw [] p4 (0 : Int32) p0 (71 : Int32) h0 n0 Z0 ) hZ (hw _ (List.mem_of_getElem? (i := 3) rfl)) (hw _ (List.mem_of_getElem? (i := 2) rfl)) (by decide) (by decide)) (g := (mkF m 6 #[iv p0, iv p1, iv p2, iv p3, iv p4, iv p5, .unset, .unset, .unset, .unset, .unset, .unset, .unset, .unset, .unset] [(.int (71 : Int32)), (.int p0), (.int (0 : Int32)), (.int p4)])) rfl (by rw [hml]; rfl) (argsL := [(.int p4), (.int (0 : Int32)), (.int p0), (.int (71 : Int32))]) (rest := []) (lenOf pd_0 rfl) rfl (by show 2 * 0 + _ ≤ _; exact Nat.le_of_eq rfl) (hb hby at_6) (fun _ _ => ⟨rfl, e0, (by decide : 0 + 0 ≤ _), (by decide : 0 + 0 ≤ _)⟩)
  dsimp only [Pt.U, Pt.locs, Pt.cells, Pt.slots] at X1 l1 y1 z1 st1 hQ1
  subst l1 y1 z1
  obtain ⟨rfl, N1q, e1⟩ := hQ1
  have N1 := Fr.app N0 N1q
  obtain ⟨_, _, ⟨T2, L2, k2, n2⟩, -, X2, ⟨Lc2, hQ2, l2, y2, z2⟩, st2⟩ := Jvm.LawKit.callS X1 hx (y := (⟨"org/driftcairn/giop/GiopHasMagicPinLaw", "pick", "(IIIC)B"⟩ : MethodName)) hown (mvT hZ (hw _ (List.mem_of_getElem? (i := 0) rfl))) (mvT hZ (hw _ (List.mem_of_getElem? (i := 1) rfl))) (mvT hZ (hw _ (List.mem_of_getElem? (i := 2) rfl))) (mvT hZ (hw _ (List.mem_of_getElem? (i := 3) rfl))) (by decide) (backOf (W := 0) (rk_pick l Z a0 hw [] p4 (1 : Int32) p1 (73 : Int32) h0 n0 Z0 ) hZ (hw _ (List.mem_of_getElem? (i := 3) rfl)) (hw _ (List.mem_of_getElem? (i := 2) rfl)) (by decide) (by decide)) (g := (mkF m 17 #[iv p0, iv p1, iv p2, iv p3, iv p4, iv p5, iv (71 : Int32), .unset, .unset, .unset, .unset, .unset, .unset, .unset, .unset] [(.int (73 : Int32)), (.int p1), (.int (1 : Int32)), (.int p4)])) rfl (by rw [hml]; rfl) (argsL := [(.int p4), (.int (1 : Int32)), (.int p1), (.int (73 : Int32))]) (rest := []) (lenOf pd_0 rfl) rfl (by show 2 * 0 + _ ≤ _; exact Nat.le_of_eq rfl) (hb hby at_17) (fun _ _ => ⟨rfl, e1, (by decide : 0 + 0 ≤ _), (by decide : 0 + 0 ≤ _)⟩)
  dsimp only [Pt.U, Pt.locs, Pt.cells, Pt.slots] at X2 l2 y2 z2 st2 hQ2
  subst l2 y2 z2
  obtain ⟨rfl, N2q, e2⟩ := hQ2
  have N2 := Fr.app N1 N2q
  obtain ⟨_, _, ⟨T3, L3, k3, n3⟩, -, X3, ⟨Lc3, hQ3, l3, y3, z3⟩, st3⟩ := Jvm.LawKit.callS X2 hx (y := (⟨"org/driftcairn/giop/GiopHasMagicPinLaw", "pick", "(IIIC)B"⟩ : MethodName)) hown (mvT hZ (hw _ (List.mem_of_getElem? (i := 0) rfl))) (mvT hZ (hw _ (List.mem_of_getElem? (i := 1) rfl))) (mvT hZ (hw _ (List.mem_of_getElem? (i := 2) rfl))) (mvT hZ (hw _ (List.mem_of_getElem? (i := 3) rfl))) (by decide) (backOf (W := 0) (rk_pick l Z a0 hw [] p4 (2 : Int32) p2 (79 : Int32) h0 n0 Z0 ) hZ (hw _ (List.mem_of_getElem? (i := 3) rfl)) (hw _ (List.mem_of_getElem? (i := 2) rfl)) (by decide) (by decide)) (g := (mkF m 28 #[iv p0, iv p1, iv p2, iv p3, iv p4, iv p5, iv (71 : Int32), iv (73 : Int32), .unset, .unset, .unset, .unset, .unset, .unset, .unset] [(.int (79 : Int32)), (.int p2), (.int (2 : Int32)), (.int p4)])) rfl (by rw [hml]; rfl) (argsL := [(.int p4), (.int (2 : Int32)), (.int p2), (.int (79 : Int32))]) (rest := []) (lenOf pd_0 rfl) rfl (by show 2 * 0 + _ ≤ _; exact Nat.le_of_eq rfl) (hb hby at_28) (fun _ _ => ⟨rfl, e2, (by decide : 0 + 0 ≤ _), (by decide : 0 + 0 ≤ _)⟩)
  dsimp only [Pt.U, Pt.locs, Pt.cells, Pt.slots] at X3 l3 y3 z3 st3 hQ3
  subst l3 y3 z3
  obtain ⟨rfl, N3q, e3⟩ := hQ3
  have N3 := Fr.app N2 N3q
  obtain ⟨_, _, ⟨T4, L4, k4, n4⟩, -, X4, ⟨Lc4, hQ4, l4, y4, z4⟩, st4⟩ := Jvm.LawKit.callS X3 hx (y := (⟨"org/driftcairn/giop/GiopHasMagicPinLaw", "pick", "(IIIC)B"⟩ : MethodName)) hown (mvT hZ (hw _ (List.mem_of_getElem? (i := 0) rfl))) (mvT hZ (hw _ (List.mem_of_getElem? (i := 1) rfl))) (mvT hZ (hw _ (List.mem_of_getElem? (i := 2) rfl))) (mvT hZ (hw _ (List.mem_of_getElem? (i := 3) rfl))) (by decide) (backOf (W := 0) (rk_pick l Z a0 hw [] p4 (3 : Int32) p3 (80 : Int32) h0 n0 Z0 ) hZ (hw _ (List.mem_of_getElem? (i := 3) rfl)) (hw _ (List.mem_of_getElem? (i := 2) rfl)) (by decide) (by decide)) (g := (mkF m 39 #[iv p0, iv p1, iv p2, iv p3, iv p4, iv p5, iv (71 : Int32), iv (73 : Int32), iv (79 : Int32), .unset, .unset, .unset, .unset, .unset, .unset] [(.int (80 : Int32)), (.int p3), (.int (3 : Int32)), (.int p4)])) rfl (by rw [hml]; rfl) (argsL := [(.int p4), (.int (3 : Int32)), (.int p3), (.int (80 : Int32))]) (rest := []) (lenOf pd_0 rfl) rfl (by show 2 * 0 + _ ≤ _; exact Nat.le_of_eq rfl) (hb hby at_39) (fun _ _ => ⟨rfl, e3, (by decide : 0 + 0 ≤ _), (by decide : 0 + 0 ≤ _)⟩)
  dsimp only [Pt.U, Pt.locs, Pt.cells, Pt.slots] at X4 l4 y4 z4 st4 hQ4
  subst l4 y4 z4
  obtain ⟨rfl, N4q, e4⟩ := hQ4
  have N4 := Fr.app N3 N4q
  obtain ⟨T5, h5, k0_5, X5, e5, E5, A5, st5⟩ := newP X4 hx hZ (hw _ (List.mem_of_getElem? (i := 4) rfl)) e4 (g := (mkF m 66 #[iv p0, iv p1, iv p2, iv p3, iv p4, iv p5, iv (71 : Int32), iv (73 : Int32), iv (79 : Int32), iv (80 : Int32), iv (1 : Int32), .unset, .unset, .unset, .unset] [(.int (4 : Int32))])) rfl (hb hby at_66) rfl (by decide) (cap := 4) (by decide) (by decide) (by decide) (by decide)
  obtain ⟨b0_5, gg5⟩ : ∃ z, z = h0.size := ⟨_, rfl⟩
  rw [← gg5] at A5 st5
  have g_b0_5 : n0 ≤ b0_5 := Nat.le_trans Z0 (Nat.le_of_eq gg5.symm)
  have sz_b0_5 : h0.size ≤ b0_5 := Nat.le_trans (Keep.refl h0 []).1 (Nat.le_of_eq gg5.symm)
  have Z5 : n0 ≤ h5.size := Nat.le_trans Z0 E5.1
  have KK5 : Keep h0 h5 [] := (Keep.refl h0 []).ext E5
  have V_b0_5 : Arv Z h5 b0_5 k0_5 .byte (4 : Int32) [(.int (0 : Int32)), (.int (0 : Int32)), (.int (0 : Int32)), (.int (0 : Int32))] (.int (0 : Int32)) := (Arv.new A5 (by decide)).pad (pad_rep [] (.int (0 : Int32)) 4)
  obtain ⟨cl6, Ar6, qq6, Sz6, Nn6, Hs6, Gs6⟩ := id V_b0_5
  have hin6 : ¬ ((0 : Int32) < 0 ∨ cl6.slots.size ≤ ((0 : Int32)).toNatClampNeg) := inb_of Sz6 ⟨by decide, by decide⟩
  obtain ⟨T7, h7, X7, e7, W7, st7⟩ := stB X5 hx hZ e5 Ar6 (j := (0 : Int32)) hin6 (g := (mkF m 82 #[iv p0, iv p1, iv p2, iv p3, iv p4, iv p5, iv (71 : Int32), iv (73 : Int32), iv (79 : Int32), iv (80 : Int32), iv (1 : Int32), rv b0_5, .unset, .unset, .unset] [(.int (71 : Int32)), (.int (0 : Int32)), (.ref b0_5)])) rfl rfl (hb hby at_82)
  have va7 := Arv.set Ar6 qq6 Sz6 Nn6 Hs6 Gs6 (fits_nar_byte _) W7 0 rfl (Nat.le_of_ble_eq_true rfl)
  have vb7 : Arv Z h7 b0_5 k0_5 .byte (4 : Int32) [(.int (71 : Int32)), (.int (0 : Int32)), (.int (0 : Int32)), (.int (0 : Int32))] (.int (0 : Int32)) := va7
  have Z7 : n0 ≤ h7.size := Nat.le_trans Z5 (Keep.of_wr W7).1
  have KK7 : Keep h0 h7 [] := KK5.wr W7 (Or.inr sz_b0_5)
  have N7 := Fr.snoc X7 N4 g_b0_5
  obtain ⟨cl8, Ar8, qq8, Sz8, Nn8, Hs8, Gs8⟩ := id vb7
  have hin8 : ¬ ((1 : Int32) < 0 ∨ cl8.slots.size ≤ ((1 : Int32)).toNatClampNeg) := inb_of Sz8 ⟨by decide, by decide⟩
  obtain ⟨T9, h9, X9, e9, W9, st9⟩ := stB X7 hx hZ e7 Ar8 (j := (1 : Int32)) hin8 (g := (mkF m 88 #[iv p0, iv p1, iv p2, iv p3, iv p4, iv p5, iv (71 : Int32), iv (73 : Int32), iv (79 : Int32), iv (80 : Int32), iv (1 : Int32), rv b0_5, .unset, .unset, .unset] [(.int (73 : Int32)), (.int (1 : Int32)), (.ref b0_5)])) rfl rfl (hb hby at_88)
  have va9 := Arv.set Ar8 qq8 Sz8 Nn8 Hs8 Gs8 (fits_nar_byte _) W9 1 rfl (Nat.le_of_ble_eq_true rfl)
  have vb9 : Arv Z h9 b0_5 k0_5 .byte (4 : Int32) [(.int (71 : Int32)), (.int (73 : Int32)), (.int (0 : Int32)), (.int (0 : Int32))] (.int (0 : Int32)) := va9
  have Z9 : n0 ≤ h9.size := Nat.le_trans Z7 (Keep.of_wr W9).1
  have KK9 : Keep h0 h9 [] := KK7.wr W9 (Or.inr sz_b0_5)
  have N9 := Fr.snoc X9 N7 g_b0_5
  obtain ⟨cl10, Ar10, qq10, Sz10, Nn10, Hs10, Gs10⟩ := id vb9
  have hin10 : ¬ ((2 : Int32) < 0 ∨ cl10.slots.size ≤ ((2 : Int32)).toNatClampNeg) := inb_of Sz10 ⟨by decide, by decide⟩
  obtain ⟨T11, h11, X11, e11, W11, st11⟩ := stB X9 hx hZ e9 Ar10 (j := (2 : Int32)) hin10 (g := (mkF m 94 #[iv p0, iv p1, iv p2, iv p3, iv p4, iv p5, iv (71 : Int32), iv (73 : Int32), iv (79 : Int32), iv (80 : Int32), iv (1 : Int32), rv b0_5, .unset, .unset, .unset] [(.int (79 : Int32)), (.int (2 : Int32)), (.ref b0_5)])) rfl rfl (hb hby at_94)
  have va11 := Arv.set Ar10 qq10 Sz10 Nn10 Hs10 Gs10 (fits_nar_byte _) W11 2 rfl (Nat.le_of_ble_eq_true rfl)
  have vb11 : Arv Z h11 b0_5 k0_5 .byte (4 : Int32) [(.int (71 : Int32)), (.int (73 : Int32)), (.int (79 : Int32)), (.int (0 : Int32))] (.int (0 : Int32)) := va11
  have Z11 : n0 ≤ h11.size := Nat.le_trans Z9 (Keep.of_wr W11).1
  have KK11 : Keep h0 h11 [] := KK9.wr W11 (Or.inr sz_b0_5)
  have N11 := Fr.snoc X11 N9 g_b0_5
  obtain ⟨cl12, Ar12, qq12, Sz12, Nn12, Hs12, Gs12⟩ := id vb11
  have hin12 : ¬ ((3 : Int32) < 0 ∨ cl12.slots.size ≤ ((3 : Int32)).toNatClampNeg) := inb_of Sz12 ⟨by decide, by decide⟩
  obtain ⟨T13, h13, X13, e13, W13, st13⟩ := stB X11 hx hZ e11 Ar12 (j := (3 : Int32)) hin12 (g := (mkF m 100 #[iv p0, iv p1, iv p2, iv p3, iv p4, iv p5, iv (71 : Int32), iv (73 : Int32), iv (79 : Int32), iv (80 : Int32), iv (1 : Int32), rv b0_5, .unset, .unset, .unset] [(.int (80 : Int32)), (.int (3 : Int32)), (.ref b0_5)])) rfl rfl (hb hby at_100)
  have va13 := Arv.set Ar12 qq12 Sz12 Nn12 Hs12 Gs12 (fits_nar_byte _) W13 3 rfl (Nat.le_of_ble_eq_true rfl)
  have vb13 : Arv Z h13 b0_5 k0_5 .byte (4 : Int32) [(.int (71 : Int32)), (.int (73 : Int32)), (.int (79 : Int32)), (.int (80 : Int32))] (.int (0 : Int32)) := va13
  have Z13 : n0 ≤ h13.size := Nat.le_trans Z11 (Keep.of_wr W13).1
  have KK13 : Keep h0 h13 [] := KK11.wr W13 (Or.inr sz_b0_5)
  have N13 := Fr.snoc X13 N11 g_b0_5
  have c15 := (((((S_Giop_MAGIC.ext E5).wr W7).wr W9).wr W11).wr W13)
  have ne_b0_5_w_Giop_MAGIC_16 : ¬ (b0_5 = w_Giop_MAGIC) := (Ne.symm (Nat.ne_of_lt (Nat.lt_of_lt_of_le (V_w_Giop_MAGIC).lt (Nat.le_of_eq gg5.symm))))
  have c17 := (((((V_w_Giop_MAGIC.ext E5).other W7 (Ne.symm ne_b0_5_w_Giop_MAGIC_16)).other W9 (Ne.symm ne_b0_5_w_Giop_MAGIC_16)).other W11 (Ne.symm ne_b0_5_w_Giop_MAGIC_16)).other W13 (Ne.symm ne_b0_5_w_Giop_MAGIC_16))
  obtain ⟨_, _, ⟨T14, L14, k14, n14⟩, -, X14, ⟨Lc14, hQ14, l14, y14, z14⟩, st14⟩ := Jvm.LawKit.callS X13 hx (y := (⟨"org/driftcairn/giop/Giop", "hasMagic", "([B)Z"⟩ : MethodName)) hown (mvT hZ (hw _ (List.mem_of_getElem? (i := 5) rfl))) (mvT hZ (hw _ (List.mem_of_getElem? (i := 6) rfl))) (mvT hZ (hw _ (List.mem_of_getElem? (i := 7) rfl))) (mvT hZ (hw _ (List.mem_of_getElem? (i := 8) rfl))) (by decide) (backOf (W := 0) (rm2_5 l Z a0 hw [] w_Giop_MAGIC k_w_Giop_MAGIC b0_5 k0_5 h13 n0 Z13 c15 c17 vb13) hZ (hw _ (List.mem_of_getElem? (i := 8) rfl)) (hw _ (List.mem_of_getElem? (i := 7) rfl)) (by decide) (by decide)) (g := (mkF m 182 #[iv p0, iv p1, iv p2, iv p3, iv p4, iv p5, iv (71 : Int32), iv (73 : Int32), iv (79 : Int32), iv (80 : Int32), iv (1 : Int32), rv b0_5, iv (1 : Int32), .unset, .unset] [(.ref b0_5)])) rfl (by rw [hml]; rfl) (argsL := [(.ref b0_5)]) (rest := []) (lenOf pd_1 rfl) rfl (by show 2 * 0 + _ ≤ _; exact Nat.le_of_eq rfl) (hb hby at_182) (fun _ _ => ⟨rfl, e13, (by decide : 1 + 0 ≤ _), (by decide : 4 + 0 ≤ _)⟩)
  dsimp only [Pt.U, Pt.locs, Pt.cells, Pt.slots] at X14 l14 y14 z14 st14 hQ14
  subst l14 y14 z14
  obtain ⟨rfl, N14q, e14⟩ := hQ14
  have N14 := Fr.app N13 N14q
  obtain ⟨cl18, Ar18, -, Sz18, Nn18, Hs18, Gs18⟩ := id vb13
  have hin18 : ¬ ((0 : Int32) < 0 ∨ cl18.slots.size ≤ ((0 : Int32)).toNatClampNeg) := inb_of Sz18 ⟨by decide, by decide⟩
  obtain ⟨cl19, Ar19, -, Sz19, Nn19, Hs19, Gs19⟩ := id vb13
  have hin19 : ¬ ((1 : Int32) < 0 ∨ cl19.slots.size ≤ ((1 : Int32)).toNatClampNeg) := inb_of Sz19 ⟨by decide, by decide⟩
  obtain ⟨cl20, Ar20, -, Sz20, Nn20, Hs20, Gs20⟩ := id vb13
  have hin20 : ¬ ((2 : Int32) < 0 ∨ cl20.slots.size ≤ ((2 : Int32)).toNatClampNeg) := inb_of Sz20 ⟨by decide, by decide⟩
  obtain ⟨cl21, Ar21, -, Sz21, Nn21, Hs21, Gs21⟩ := id vb13
  have hin21 : ¬ ((3 : Int32) < 0 ∨ cl21.slots.size ≤ ((3 : Int32)).toNatClampNeg) := inb_of Sz21 ⟨by decide, by decide⟩
  obtain ⟨fs, hr, hrun, hended, hW, hsame⟩ := X14.leave (v := (some (.int (1 : Int32)))) (fun h => by rw [Bd.returns] at h; cases h)
  refine ⟨_, _, pre0 _ ?_, hrun, hended, _, _, rfl, ?_, ⟨_, rfl⟩, hW, hsame.mono (by decide) (by decide)⟩
  · show Steps p.tables e below (s₁.setTop (mkF m 0 #[iv p0, iv p1, iv p2, iv p3, iv p4, iv p5, .unset, .unset, .unset, .unset, .unset, .unset, .unset, .unset, .unset] [])) _
    refine XS.iload X0.here hx rfl (hb hby at_0) rfl ?_
    refine XS.iconst X0.here hx rfl (hb hby at_2) ?_
    refine XS.iloadN X0.here hx rfl (hb hby at_3) rfl ?_
    refine XS.bipush X0.here hx rfl (hb hby at_4) ?_
    refine st1 _ ?_
    show Steps p.tables e below (T1.setTop (mkF m 9 #[iv p0, iv p1, iv p2, iv p3, iv p4, iv p5, .unset, .unset, .unset, .unset, .unset, .unset, .unset, .unset, .unset] [(.int (own_pick p4 (0 : Int32) p0 (71 : Int32)))])) _
    rewrite [hm0]
    refine XS.istore X1.here hx rfl (hb hby at_9) rfl (l' := #[iv p0, iv p1, iv p2, iv p3, iv p4, iv p5, iv (71 : Int32), .unset, .unset, .unset, .unset, .unset, .unset, .unset, .unset]) rfl ?_
    show Steps p.tables e below (T1.setTop (mkF m 11 #[iv p0, iv p1, iv p2, iv p3, iv p4, iv p5, iv (71 : Int32), .unset, .unset, .unset, .unset, .unset, .unset, .unset, .unset] [])) _
    refine XS.iload X1.here hx rfl (hb hby at_11) rfl ?_
    refine XS.iconst X1.here hx rfl (hb hby at_13) ?_
    refine XS.iloadN X1.here hx rfl (hb hby at_14) rfl ?_
    refine XS.bipush X1.here hx rfl (hb hby at_15) ?_
    refine st2 _ ?_
    show Steps p.tables e below (T2.setTop (mkF m 20 #[iv p0, iv p1, iv p2, iv p3, iv p4, iv p5, iv (71 : Int32), .unset, .unset, .unset, .unset, .unset, .unset, .unset, .unset] [(.int (own_pick p4 (1 : Int32) p1 (73 : Int32)))])) _
    rewrite [hm1]
    refine XS.istore X2.here hx rfl (hb hby at_20) rfl (l' := #[iv p0, iv p1, iv p2, iv p3, iv p4, iv p5, iv (71 : Int32), iv (73 : Int32), .unset, .unset, .unset, .unset, .unset, .unset, .unset]) rfl ?_
    show Steps p.tables e below (T2.setTop (mkF m 22 #[iv p0, iv p1, iv p2, iv p3, iv p4, iv p5, iv (71 : Int32), iv (73 : Int32), .unset, .unset, .unset, .unset, .unset, .unset, .unset] [])) _
    refine XS.iload X2.here hx rfl (hb hby at_22) rfl ?_
    refine XS.iconst X2.here hx rfl (hb hby at_24) ?_
    refine XS.iloadN X2.here hx rfl (hb hby at_25) rfl ?_
    refine XS.bipush X2.here hx rfl (hb hby at_26) ?_
    refine st3 _ ?_
    show Steps p.tables e below (T3.setTop (mkF m 31 #[iv p0, iv p1, iv p2, iv p3, iv p4, iv p5, iv (71 : Int32), iv (73 : Int32), .unset, .unset, .unset, .unset, .unset, .unset, .unset] [(.int (own_pick p4 (2 : Int32) p2 (79 : Int32)))])) _
    rewrite [hm2]
    refine XS.istore X3.here hx rfl (hb hby at_31) rfl (l' := #[iv p0, iv p1, iv p2, iv p3, iv p4, iv p5, iv (71 : Int32), iv (73 : Int32), iv (79 : Int32), .unset, .unset, .unset, .unset, .unset, .unset]) rfl ?_
    show Steps p.tables e below (T3.setTop (mkF m 33 #[iv p0, iv p1, iv p2, iv p3, iv p4, iv p5, iv (71 : Int32), iv (73 : Int32), iv (79 : Int32), .unset, .unset, .unset, .unset, .unset, .unset] [])) _
    refine XS.iload X3.here hx rfl (hb hby at_33) rfl ?_
    refine XS.iconst X3.here hx rfl (hb hby at_35) ?_
    refine XS.iloadN X3.here hx rfl (hb hby at_36) rfl ?_
    refine XS.bipush X3.here hx rfl (hb hby at_37) ?_
    refine st4 _ ?_
    show Steps p.tables e below (T4.setTop (mkF m 42 #[iv p0, iv p1, iv p2, iv p3, iv p4, iv p5, iv (71 : Int32), iv (73 : Int32), iv (79 : Int32), .unset, .unset, .unset, .unset, .unset, .unset] [(.int (own_pick p4 (3 : Int32) p3 (80 : Int32)))])) _
    rewrite [hm3]
    refine XS.istore X4.here hx rfl (hb hby at_42) rfl (l' := #[iv p0, iv p1, iv p2, iv p3, iv p4, iv p5, iv (71 : Int32), iv (73 : Int32), iv (79 : Int32), iv (80 : Int32), .unset, .unset, .unset, .unset, .unset]) rfl ?_
    show Steps p.tables e below (T4.setTop (mkF m 44 #[iv p0, iv p1, iv p2, iv p3, iv p4, iv p5, iv (71 : Int32), iv (73 : Int32), iv (79 : Int32), iv (80 : Int32), .unset, .unset, .unset, .unset, .unset] [])) _
    refine XS.iload X4.here hx rfl (hb hby at_44) rfl ?_
    refine XS.iconst X4.here hx rfl (hb hby at_46) ?_
    refine XS.iushr X4.here hx rfl (hb hby at_47) rfl ?_
    refine XS.iconst X4.here hx rfl (hb hby at_48) ?_
    refine XS.iand X4.here hx rfl (hb hby at_49) rfl ?_
    show Steps p.tables e below (T4.setTop (mkF m 50 #[iv p0, iv p1, iv p2, iv p3, iv p4, iv p5, iv (71 : Int32), iv (73 : Int32), iv (79 : Int32), iv (80 : Int32), .unset, .unset, .unset, .unset, .unset] [(.int (((p4.toUInt32 >>> ((4 : Int32) &&& 31).toUInt32).toInt32) &&& (1 : Int32)))])) _
    rewrite [hs]
    refine XS.ifNo X4.here hx rfl (hb hby at_50) rfl ((if0 _ _).trans (feq (by decide +kernel : ¬ ((1 : Int32) = (0 : Int32)))).1) ?_
    show Steps p.tables e below (T4.setTop (mkF m 53 #[iv p0, iv p1, iv p2, iv p3, iv p4, iv p5, iv (71 : Int32), iv (73 : Int32), iv (79 : Int32), iv (80 : Int32), .unset, .unset, .unset, .unset, .unset] [])) _
    refine XS.iconst X4.here hx rfl (hb hby at_53) ?_
    refine XS.goto X4.here hx rfl (pc0 := 54) (pc' := 58) rfl (hb hby at_54) (by decide) (by decide) ?_
    refine XS.istore X4.here hx rfl (hb hby at_58) rfl (l' := #[iv p0, iv p1, iv p2, iv p3, iv p4, iv p5, iv (71 : Int32), iv (73 : Int32), iv (79 : Int32), iv (80 : Int32), iv (1 : Int32), .unset, .unset, .unset, .unset]) rfl ?_
    refine XS.iload X4.here hx rfl (hb hby at_60) rfl ?_
    refine XS.ifNo X4.here hx rfl (hb hby at_62) rfl ((if0 _ _).trans (feq (by decide +kernel : ¬ ((1 : Int32) = (0 : Int32)))).1) ?_
    refine XS.iconst X4.here hx rfl (hb hby at_65) ?_
    show Steps p.tables e below (T4.setTop (mkF m 66 #[iv p0, iv p1, iv p2, iv p3, iv p4, iv p5, iv (71 : Int32), iv (73 : Int32), iv (79 : Int32), iv (80 : Int32), iv (1 : Int32), .unset, .unset, .unset, .unset] [(.int (4 : Int32))])) _
    refine st5 _ ?_
    refine XS.goto X5.here hx rfl (pc0 := 68) (pc' := 75) rfl (hb hby at_68) (by decide) (by decide) ?_
    refine XS.astore X5.here hx rfl (hb hby at_75) rfl rfl (l' := #[iv p0, iv p1, iv p2, iv p3, iv p4, iv p5, iv (71 : Int32), iv (73 : Int32), iv (79 : Int32), iv (80 : Int32), iv (1 : Int32), rv b0_5, .unset, .unset, .unset]) rfl ?_
    refine XS.aload X5.here hx rfl (hb hby at_77) rfl rfl ?_
    refine XS.iconst X5.here hx rfl (hb hby at_79) ?_
    refine XS.iload X5.here hx rfl (hb hby at_80) rfl ?_
    show Steps p.tables e below (T5.setTop (mkF m 82 #[iv p0, iv p1, iv p2, iv p3, iv p4, iv p5, iv (71 : Int32), iv (73 : Int32), iv (79 : Int32), iv (80 : Int32), iv (1 : Int32), rv b0_5, .unset, .unset, .unset] [(.int (71 : Int32)), (.int (0 : Int32)), (.ref b0_5)])) _
    refine st7 _ ?_
    refine XS.aload X7.here hx rfl (hb hby at_83) rfl rfl ?_
    refine XS.iconst X7.here hx rfl (hb hby at_85) ?_
    refine XS.iload X7.here hx rfl (hb hby at_86) rfl ?_
    refine st9 _ ?_
    refine XS.aload X9.here hx rfl (hb hby at_89) rfl rfl ?_
    show Steps p.tables e below (T9.setTop (mkF m 91 #[iv p0, iv p1, iv p2, iv p3, iv p4, iv p5, iv (71 : Int32), iv (73 : Int32), iv (79 : Int32), iv (80 : Int32), iv (1 : Int32), rv b0_5, .unset, .unset, .unset] [(.ref b0_5)])) _
    refine XS.iconst X9.here hx rfl (hb hby at_91) ?_
    refine XS.iload X9.here hx rfl (hb hby at_92) rfl ?_
    refine st11 _ ?_
    refine XS.aload X11.here hx rfl (hb hby at_95) rfl rfl ?_
    refine XS.iconst X11.here hx rfl (hb hby at_97) ?_
    refine XS.iload X11.here hx rfl (hb hby at_98) rfl ?_
    show Steps p.tables e below (T11.setTop (mkF m 100 #[iv p0, iv p1, iv p2, iv p3, iv p4, iv p5, iv (71 : Int32), iv (73 : Int32), iv (79 : Int32), iv (80 : Int32), iv (1 : Int32), rv b0_5, .unset, .unset, .unset] [(.int (80 : Int32)), (.int (3 : Int32)), (.ref b0_5)])) _
    refine st13 _ ?_
    refine XS.iload X13.here hx rfl (hb hby at_101) rfl ?_
    refine XS.ifYes X13.here hx rfl (pc0 := 103) (pc' := 145) rfl (hb hby at_103) rfl ((if0 _ _).trans (feq (by decide +kernel : ¬ ((1 : Int32) = (0 : Int32)))).2) (by decide) (by decide) ?_
    refine XS.iload X13.here hx rfl (hb hby at_145) rfl ?_
    refine XS.bipush X13.here hx rfl (hb hby at_147) ?_
    refine XS.icmpNo X13.here hx rfl (hb hby at_149) rfl (teq (by decide +kernel : (71 : Int32) = (71 : Int32))).2 ?_
    show Steps p.tables e below (T13.setTop (mkF m 152 #[iv p0, iv p1, iv p2, iv p3, iv p4, iv p5, iv (71 : Int32), iv (73 : Int32), iv (79 : Int32), iv (80 : Int32), iv (1 : Int32), rv b0_5, .unset, .unset, .unset] [])) _
    refine XS.iload X13.here hx rfl (hb hby at_152) rfl ?_
    refine XS.bipush X13.here hx rfl (hb hby at_154) ?_
    refine XS.icmpNo X13.here hx rfl (hb hby at_156) rfl (teq (by decide +kernel : (73 : Int32) = (73 : Int32))).2 ?_
    refine XS.iload X13.here hx rfl (hb hby at_159) rfl ?_
    refine XS.bipush X13.here hx rfl (hb hby at_161) ?_
    refine XS.icmpNo X13.here hx rfl (hb hby at_163) rfl (teq (by decide +kernel : (79 : Int32) = (79 : Int32))).2 ?_
    show Steps p.tables e below (T13.setTop (mkF m 166 #[iv p0, iv p1, iv p2, iv p3, iv p4, iv p5, iv (71 : Int32), iv (73 : Int32), iv (79 : Int32), iv (80 : Int32), iv (1 : Int32), rv b0_5, .unset, .unset, .unset] [])) _
    refine XS.iload X13.here hx rfl (hb hby at_166) rfl ?_
    refine XS.bipush X13.here hx rfl (hb hby at_168) ?_
    refine XS.icmpNo X13.here hx rfl (hb hby at_170) rfl (teq (by decide +kernel : (80 : Int32) = (80 : Int32))).2 ?_
    refine XS.iconst X13.here hx rfl (hb hby at_173) ?_
    refine XS.goto X13.here hx rfl (pc0 := 174) (pc' := 178) rfl (hb hby at_174) (by decide) (by decide) ?_
    refine XS.istore X13.here hx rfl (hb hby at_178) rfl (l' := #[iv p0, iv p1, iv p2, iv p3, iv p4, iv p5, iv (71 : Int32), iv (73 : Int32), iv (79 : Int32), iv (80 : Int32), iv (1 : Int32), rv b0_5, iv (1 : Int32), .unset, .unset]) rfl ?_
    show Steps p.tables e below (T13.setTop (mkF m 180 #[iv p0, iv p1, iv p2, iv p3, iv p4, iv p5, iv (71 : Int32), iv (73 : Int32), iv (79 : Int32), iv (80 : Int32), iv (1 : Int32), rv b0_5, iv (1 : Int32), .unset, .unset] [])) _
    refine XS.aload X13.here hx rfl (hb hby at_180) rfl rfl ?_
    refine st14 _ ?_
    refine XS.istore X14.here hx rfl (hb hby at_185) rfl (l' := #[iv p0, iv p1, iv p2, iv p3, iv p4, iv p5, iv (71 : Int32), iv (73 : Int32), iv (79 : Int32), iv (80 : Int32), iv (1 : Int32), rv b0_5, iv (1 : Int32), iv (1 : Int32), .unset]) rfl ?_
    refine XS.aload X14.here hx rfl (hb hby at_187) rfl rfl ?_
    refine XS.iconst X14.here hx rfl (hb hby at_189) ?_
    refine X14.baloadBytes hx (j := (0 : Int32)) (v := (.int (71 : Int32))) (by rw [e14]; exact Ar18.1) (State.isArrayOf_alike hZ.alike Ar18.2.1) Ar18.2.2 hin18 (Hs18.at hin18 rfl) (g := (mkF m 190 #[iv p0, iv p1, iv p2, iv p3, iv p4, iv p5, iv (71 : Int32), iv (73 : Int32), iv (79 : Int32), iv (80 : Int32), iv (1 : Int32), rv b0_5, iv (1 : Int32), iv (1 : Int32), .unset] [(.int (0 : Int32)), (.ref b0_5)])) rfl rfl (hb hby at_190) _ ?_
    show Steps p.tables e below (T14.setTop (mkF m 191 #[iv p0, iv p1, iv p2, iv p3, iv p4, iv p5, iv (71 : Int32), iv (73 : Int32), iv (79 : Int32), iv (80 : Int32), iv (1 : Int32), rv b0_5, iv (1 : Int32), iv (1 : Int32), .unset] [(.int (71 : Int32))])) _
    refine XS.iload X14.here hx rfl (hb hby at_191) rfl ?_
    refine XS.icmpNo X14.here hx rfl (hb hby at_193) rfl (teq (by decide +kernel : (71 : Int32) = (71 : Int32))).2 ?_
    refine XS.aload X14.here hx rfl (hb hby at_196) rfl rfl ?_
    refine XS.iconst X14.here hx rfl (hb hby at_198) ?_
    refine X14.baloadBytes hx (j := (1 : Int32)) (v := (.int (73 : Int32))) (by rw [e14]; exact Ar19.1) (State.isArrayOf_alike hZ.alike Ar19.2.1) Ar19.2.2 hin19 (Hs19.at hin19 rfl) (g := (mkF m 199 #[iv p0, iv p1, iv p2, iv p3, iv p4, iv p5, iv (71 : Int32), iv (73 : Int32), iv (79 : Int32), iv (80 : Int32), iv (1 : Int32), rv b0_5, iv (1 : Int32), iv (1 : Int32), .unset] [(.int (1 : Int32)), (.ref b0_5)])) rfl rfl (hb hby at_199) _ ?_
    refine XS.iload X14.here hx rfl (hb hby at_200) rfl ?_
    show Steps p.tables e below (T14.setTop (mkF m 202 #[iv p0, iv p1, iv p2, iv p3, iv p4, iv p5, iv (71 : Int32), iv (73 : Int32), iv (79 : Int32), iv (80 : Int32), iv (1 : Int32), rv b0_5, iv (1 : Int32), iv (1 : Int32), .unset] [(.int (73 : Int32)), (.int (73 : Int32))])) _
    refine XS.icmpNo X14.here hx rfl (hb hby at_202) rfl (teq (by decide +kernel : (73 : Int32) = (73 : Int32))).2 ?_
    refine XS.aload X14.here hx rfl (hb hby at_205) rfl rfl ?_
    refine XS.iconst X14.here hx rfl (hb hby at_207) ?_
    refine X14.baloadBytes hx (j := (2 : Int32)) (v := (.int (79 : Int32))) (by rw [e14]; exact Ar20.1) (State.isArrayOf_alike hZ.alike Ar20.2.1) Ar20.2.2 hin20 (Hs20.at hin20 rfl) (g := (mkF m 208 #[iv p0, iv p1, iv p2, iv p3, iv p4, iv p5, iv (71 : Int32), iv (73 : Int32), iv (79 : Int32), iv (80 : Int32), iv (1 : Int32), rv b0_5, iv (1 : Int32), iv (1 : Int32), .unset] [(.int (2 : Int32)), (.ref b0_5)])) rfl rfl (hb hby at_208) _ ?_
    refine XS.iload X14.here hx rfl (hb hby at_209) rfl ?_
    refine XS.icmpNo X14.here hx rfl (hb hby at_211) rfl (teq (by decide +kernel : (79 : Int32) = (79 : Int32))).2 ?_
    show Steps p.tables e below (T14.setTop (mkF m 214 #[iv p0, iv p1, iv p2, iv p3, iv p4, iv p5, iv (71 : Int32), iv (73 : Int32), iv (79 : Int32), iv (80 : Int32), iv (1 : Int32), rv b0_5, iv (1 : Int32), iv (1 : Int32), .unset] [])) _
    refine XS.aload X14.here hx rfl (hb hby at_214) rfl rfl ?_
    refine XS.iconst X14.here hx rfl (hb hby at_216) ?_
    refine X14.baloadBytes hx (j := (3 : Int32)) (v := (.int (80 : Int32))) (by rw [e14]; exact Ar21.1) (State.isArrayOf_alike hZ.alike Ar21.2.1) Ar21.2.2 hin21 (Hs21.at hin21 rfl) (g := (mkF m 217 #[iv p0, iv p1, iv p2, iv p3, iv p4, iv p5, iv (71 : Int32), iv (73 : Int32), iv (79 : Int32), iv (80 : Int32), iv (1 : Int32), rv b0_5, iv (1 : Int32), iv (1 : Int32), .unset] [(.int (3 : Int32)), (.ref b0_5)])) rfl rfl (hb hby at_217) _ ?_
    refine XS.iload X14.here hx rfl (hb hby at_218) rfl ?_
    refine XS.icmpNo X14.here hx rfl (hb hby at_220) rfl (teq (by decide +kernel : (80 : Int32) = (80 : Int32))).2 ?_
    refine XS.iconst X14.here hx rfl (hb hby at_223) ?_
    show Steps p.tables e below (T14.setTop (mkF m 224 #[iv p0, iv p1, iv p2, iv p3, iv p4, iv p5, iv (71 : Int32), iv (73 : Int32), iv (79 : Int32), iv (80 : Int32), iv (1 : Int32), rv b0_5, iv (1 : Int32), iv (1 : Int32), .unset] [(.int (1 : Int32))])) _
    refine XS.goto X14.here hx rfl (pc0 := 224) (pc' := 228) rfl (hb hby at_224) (by decide) (by decide) ?_
    refine XS.istore X14.here hx rfl (hb hby at_228) rfl (l' := #[iv p0, iv p1, iv p2, iv p3, iv p4, iv p5, iv (71 : Int32), iv (73 : Int32), iv (79 : Int32), iv (80 : Int32), iv (1 : Int32), rv b0_5, iv (1 : Int32), iv (1 : Int32), iv (1 : Int32)]) rfl ?_
    refine XS.iload X14.here hx rfl (hb hby at_230) rfl ?_
    refine XS.iload X14.here hx rfl (hb hby at_232) rfl ?_
    refine XS.icmpNo X14.here hx rfl (hb hby at_234) rfl (teq (by decide +kernel : (1 : Int32) = (1 : Int32))).2 ?_
    refine XS.iload X14.here hx rfl (hb hby at_237) rfl ?_
    show Steps p.tables e below (T14.setTop (mkF m 239 #[iv p0, iv p1, iv p2, iv p3, iv p4, iv p5, iv (71 : Int32), iv (73 : Int32), iv (79 : Int32), iv (80 : Int32), iv (1 : Int32), rv b0_5, iv (1 : Int32), iv (1 : Int32), iv (1 : Int32)] [(.int (1 : Int32))])) _
    refine XS.ifNo X14.here hx rfl (hb hby at_239) rfl ((if0 _ _).trans (feq (by decide +kernel : ¬ ((1 : Int32) = (0 : Int32)))).1) ?_
    refine XS.iconst X14.here hx rfl (hb hby at_242) ?_
    refine XS.goto X14.here hx rfl (pc0 := 243) (pc' := 247) rfl (hb hby at_243) (by decide) (by decide) ?_
    exact retN X14 hx (t := .boolean) Bd.returns (by simp) (hb hby at_247) hr
  · exact ⟨rfl, N14⟩
set_option maxRecDepth 65536 in
set_option maxHeartbeats 40000000 in
theorem rm2_6 (l : Launch) (Z : State) (a0 : Array Value) (hw : ∀ d ∈ tables_1, d.before a0 Z = true) (ws : List Jvm.Cond) (p3 : Int32) (p4 : Int32) (w_Giop_MAGIC : Addr) (k_w_Giop_MAGIC : ClassId) (b0_5 : Addr) (k0_5 : ClassId) (h0 : Heap) (n0 : Nat) (Z0 : n0 ≤ h0.size) (S_Giop_MAGIC : Sta Z h0 "org/driftcairn/giop/Giop" "MAGIC" "[B" (.ref w_Giop_MAGIC)) (V_w_Giop_MAGIC : Arv Z h0 w_Giop_MAGIC k_w_Giop_MAGIC .byte (4 : Int32) [(.int (71 : Int32)), (.int (73 : Int32)), (.int (79 : Int32)), (.int (80 : Int32))] (.int (0 : Int32))) (V_b0_5 : Arv Z h0 b0_5 k0_5 .byte (4 : Int32) [(.int (71 : Int32)), (.int (73 : Int32)), (.int (79 : Int32)), (.int (own_pick p4 (3 : Int32) p3 (80 : Int32)))] (.int (0 : Int32))) (hm3 : ¬ ((own_pick p4 (3 : Int32) p3 (80 : Int32)) = (80 : Int32))) :
    MetFree l (⟨"org/driftcairn/giop/Giop", "hasMagic", "([B)Z"⟩ : MethodName) (head1 (Jvm.Cond.code (⟨"org/driftcairn/giop/Giop", "hasMagic", "([B)Z"⟩ : MethodName) prog_59_method_2_code 2 (some .boolean) :: ws) ({ frames := 0, cells := 0, slots := 0, locals := 0 } : Room)) (fun a U => a = #[(.ref b0_5)] ∧ Z.Warmed39 U.vm ∧ U.heap = h0) (fun _ _ _ _ _ => True) (fun _ U o U' => ∃ v L, o = .returned v ∧ own_QP (some (.int (0 : Int32))) h0 n0 v U'.heap L ∧ FrameEnd U o U' L ({ frames := 0, cells := 0, slots := 0, locals := 0 } : Room).cells ({ frames := 0, cells := 0, slots := 0, locals := 0 } : Room).slots) := by
  refine MetFree.of_bodySF (plainFor_of_name pn_1) hisR ?_
  intro p e s m args below meth c s₁ Bd hml0 hP hK
  obtain ⟨rfl, hZ, hh⟩ := hP
  have hx := Bd.exec
  have hby := Bd.bytes
  have hml : c.maxLocals = 2 := hml0
  have hown : s.vm.findClass "org/driftcairn/giop/Giop" = some m.cls := findClass_of_methodNamed Bd.named
  have hnm := (name_of_methodNamed Bd.named Bd.method).1
  have X0 : Stand p l e ({ frames := 0, cells := 0, slots := 0, locals := 0 } : Room) s m #[(.ref b0_5)] below meth c s₁ [] 0 0 := Stand.of_body Bd
  have e0 : s₁.heap = h0 := by rw [← hh, Bd.state]; rfl
  have N0 := Fr.nil n0
  have pre0 : ∀ t, Steps p.tables e below (s₁.setTop (mkF m 0 #[rv b0_5, .unset] [])) t → Steps p.tables e below (s₁.setTop (entryFrame m #[(.ref b0_5)] 2)) t := fun t k => castTop (ef_2_R m b0_5) k
  obtain ⟨T1, X1, e1, st1⟩ := getS2 X0 hx hZ hown (host := "") (Or.inl (hw _ (List.mem_of_getElem? (i := 9) rfl))) Via.refl e0 S_Giop_MAGIC (g := (mkF m 3 #[rv b0_5, iv (0 : Int32)] [(.int (0 : Int32))])) rfl (hb hby d2_3)
  obtain ⟨cl2, Ar2, -, Sz2, Nn2, -, -⟩ := id V_w_Giop_MAGIC
  obtain ⟨cl3, Ar3, -, Sz3, Nn3, Hs3, Gs3⟩ := id V_b0_5
  have hin3 : ¬ ((0 : Int32) < 0 ∨ cl3.slots.size ≤ ((0 : Int32)).toNatClampNeg) := inb_of Sz3 ⟨by decide, by decide⟩
  obtain ⟨T4, X4, e4, st4⟩ := getS2 X1 hx hZ hown (host := "") (Or.inl (hw _ (List.mem_of_getElem? (i := 9) rfl))) Via.refl e1 S_Giop_MAGIC (g := (mkF m 13 #[rv b0_5, iv (0 : Int32)] [(.int (71 : Int32))])) rfl (hb hby d2_13)
  obtain ⟨cl5, Ar5, -, Sz5, Nn5, Hs5, Gs5⟩ := id V_w_Giop_MAGIC
  have hin5 : ¬ ((0 : Int32) < 0 ∨ cl5.slots.size ≤ ((0 : Int32)).toNatClampNeg) := inb_of Sz5 ⟨by decide, by decide⟩
  obtain ⟨T6, X6, e6, st6⟩ := getS2 X4 hx hZ hown (host := "") (Or.inl (hw _ (List.mem_of_getElem? (i := 9) rfl))) Via.refl e4 S_Giop_MAGIC (g := (mkF m 3 #[rv b0_5, iv (1 : Int32)] [(.int (1 : Int32))])) rfl (hb hby d2_3)
  obtain ⟨cl7, Ar7, -, Sz7, Nn7, -, -⟩ := id V_w_Giop_MAGIC
  obtain ⟨cl8, Ar8, -, Sz8, Nn8, Hs8, Gs8⟩ := id V_b0_5
  have hin8 : ¬ ((1 : Int32) < 0 ∨ cl8.slots.size ≤ ((1 : Int32)).toNatClampNeg) := inb_of Sz8 ⟨by decide, by decide⟩
  obtain ⟨T9, X9, e9, st9⟩ := getS2 X6 hx hZ hown (host := "") (Or.inl (hw _ (List.mem_of_getElem? (i := 9) rfl))) Via.refl e6 S_Giop_MAGIC (g := (mkF m 13 #[rv b0_5, iv (1 : Int32)] [(.int (73 : Int32))])) rfl (hb hby d2_13)
  obtain ⟨cl10, Ar10, -, Sz10, Nn10, Hs10, Gs10⟩ := id V_w_Giop_MAGIC
  have hin10 : ¬ ((1 : Int32) < 0 ∨ cl10.slots.size ≤ ((1 : Int32)).toNatClampNeg) := inb_of Sz10 ⟨by decide, by decide⟩
  obtain ⟨T11, X11, e11, st11⟩ := getS2 X9 hx hZ hown (host := "") (Or.inl (hw _ (List.mem_of_getElem? (i := 9) rfl))) Via.refl e9 S_Giop_MAGIC (g := (mkF m 3 #[rv b0_5, iv (2 : Int32)] [(.int (2 : Int32))])) rfl (hb hby d2_3)
  obtain ⟨cl12, Ar12, -, Sz12, Nn12, -, -⟩ := id V_w_Giop_MAGIC
  obtain ⟨cl13, Ar13, -, Sz13, Nn13, Hs13, Gs13⟩ := id V_b0_5
  have hin13 : ¬ ((2 : Int32) < 0 ∨ cl13.slots.size ≤ ((2 : Int32)).toNatClampNeg) := inb_of Sz13 ⟨by decide, by decide⟩
  obtain ⟨T14, X14, e14, st14⟩ := getS2 X11 hx hZ hown (host := "") (Or.inl (hw _ (List.mem_of_getElem? (i := 9) rfl))) Via.refl e11 S_Giop_MAGIC (g := (mkF m 13 #[rv b0_5, iv (2 : Int32)] [(.int (79 : Int32))])) rfl (hb hby d2_13)
  obtain ⟨cl15, Ar15, -, Sz15, Nn15, Hs15, Gs15⟩ := id V_w_Giop_MAGIC
  have hin15 : ¬ ((2 : Int32) < 0 ∨ cl15.slots.size ≤ ((2 : Int32)).toNatClampNeg) := inb_of Sz15 ⟨by decide, by decide⟩
  obtain ⟨T16, X16, e16, st16⟩ := getS2 X14 hx hZ hown (host := "") (Or.inl (hw _ (List.mem_of_getElem? (i := 9) rfl))) Via.refl e14 S_Giop_MAGIC (g := (mkF m 3 #[rv b0_5, iv (3 : Int32)] [(.int (3 : Int32))])) rfl (hb hby d2_3)
  obtain ⟨cl17, Ar17, -, Sz17, Nn17, -, -⟩ := id V_w_Giop_MAGIC
  obtain ⟨cl18, Ar18, -, Sz18, Nn18, Hs18, Gs18⟩ := id V_b0_5
  have hin18 : ¬ ((3 : Int32) < 0 ∨ cl18.slots.size ≤ ((3 : Int32)).toNatClampNeg) := inb_of Sz18 ⟨by decide, by decide⟩
  obtain ⟨T19, X19, e19, st19⟩ := getS2 X16 hx hZ hown (host := "") (Or.inl (hw _ (List.mem_of_getElem? (i := 9) rfl))) Via.refl e16 S_Giop_MAGIC (g := (mkF m 13 #[rv b0_5, iv (3 : Int32)] [(.int (own_pick p4 (3 : Int32) p3 (80 : Int32)))])) rfl (hb hby d2_13)
  obtain ⟨cl20, Ar20, -, Sz20, Nn20, Hs20, Gs20⟩ := id V_w_Giop_MAGIC
  have hin20 : ¬ ((3 : Int32) < 0 ∨ cl20.slots.size ≤ ((3 : Int32)).toNatClampNeg) := inb_of Sz20 ⟨by decide, by decide⟩
  obtain ⟨fs, hr, hrun, hended, hW, hsame⟩ := X19.leave (v := (some (.int (0 : Int32)))) (fun h => by rw [Bd.returns] at h; cases h)
  refine ⟨_, _, pre0 _ ?_, hrun, hended, _, _, rfl, ?_, ⟨_, rfl⟩, hW, hsame.mono (by decide) (by decide)⟩
  · show Steps p.tables e below (s₁.setTop (mkF m 0 #[rv b0_5, .unset] [])) _
    refine XS.iconst X0.here hx rfl (hb hby d2_0) ?_
    refine XS.istoreN X0.here hx rfl (hb hby d2_1) rfl (l' := #[rv b0_5, iv (0 : Int32)]) rfl ?_
    refine XS.iloadN X0.here hx rfl (hb hby d2_2) rfl ?_
    refine st1 _ ?_
    refine X1.arraylength hx (by rw [e1]; exact Ar2.1) (State.isArrayOf_alike hZ.alike Ar2.2.1) (g := (mkF m 6 #[rv b0_5, iv (0 : Int32)] [(.ref w_Giop_MAGIC), (.int (0 : Int32))])) rfl rfl (hb hby d2_6) _ ?_
    rw [len_of Sz2 Nn2]
    refine XS.icmpNo X1.here hx rfl (hb hby d2_7) rfl (tlt (by decide +kernel : (0 : Int32) < (4 : Int32))).2.1 ?_
    show Steps p.tables e below (T1.setTop (mkF m 10 #[rv b0_5, iv (0 : Int32)] [])) _
    refine XS.aloadN X1.here hx rfl (hb hby d2_10) rfl rfl ?_
    refine XS.iloadN X1.here hx rfl (hb hby d2_11) rfl ?_
    refine X1.baloadBytes hx (j := (0 : Int32)) (v := (.int (71 : Int32))) (by rw [e1]; exact Ar3.1) (State.isArrayOf_alike hZ.alike Ar3.2.1) Ar3.2.2 hin3 (Hs3.at hin3 rfl) (g := (mkF m 12 #[rv b0_5, iv (0 : Int32)] [(.int (0 : Int32)), (.ref b0_5)])) rfl rfl (hb hby d2_12) _ ?_
    refine st4 _ ?_
    refine XS.iloadN X4.here hx rfl (hb hby d2_16) rfl ?_
    refine X4.baloadBytes hx (j := (0 : Int32)) (v := (.int (71 : Int32))) (by rw [e4]; exact Ar5.1) (State.isArrayOf_alike hZ.alike Ar5.2.1) Ar5.2.2 hin5 (Hs5.at hin5 rfl) (g := (mkF m 17 #[rv b0_5, iv (0 : Int32)] [(.int (0 : Int32)), (.ref w_Giop_MAGIC), (.int (71 : Int32))])) rfl rfl (hb hby d2_17) _ ?_
    show Steps p.tables e below (T4.setTop (mkF m 18 #[rv b0_5, iv (0 : Int32)] [(.int (71 : Int32)), (.int (71 : Int32))])) _
    refine XS.icmpYes X4.here hx rfl (pc0 := 18) (pc' := 23) rfl (hb hby d2_18) rfl (teq (by decide +kernel : (71 : Int32) = (71 : Int32))).1 (by decide) (by decide) ?_
    refine XS.iinc X4.here hx rfl (hb hby d2_23) rfl (l' := #[rv b0_5, iv ((0 : Int32) + (1 : Int32))]) rfl ?_
    show Steps p.tables e below (T4.setTop (mkF m 26 #[rv b0_5, iv ((0 : Int32) + (1 : Int32))] [])) _
    rewrite [show ((0 : Int32) + (1 : Int32)) = (1 : Int32) from by decide +kernel]
    refine XS.goto X4.here hx rfl (pc0 := 26) (pc' := 2) rfl (hb hby d2_26) (by decide) (by decide) ?_
    refine XS.iloadN X4.here hx rfl (hb hby d2_2) rfl ?_
    refine st6 _ ?_
    refine X6.arraylength hx (by rw [e6]; exact Ar7.1) (State.isArrayOf_alike hZ.alike Ar7.2.1) (g := (mkF m 6 #[rv b0_5, iv (1 : Int32)] [(.ref w_Giop_MAGIC), (.int (1 : Int32))])) rfl rfl (hb hby d2_6) _ ?_
    rw [len_of Sz7 Nn7]
    show Steps p.tables e below (T6.setTop (mkF m 7 #[rv b0_5, iv (1 : Int32)] [(.int (4 : Int32)), (.int (1 : Int32))])) _
    refine XS.icmpNo X6.here hx rfl (hb hby d2_7) rfl (tlt (by decide +kernel : (1 : Int32) < (4 : Int32))).2.1 ?_
    refine XS.aloadN X6.here hx rfl (hb hby d2_10) rfl rfl ?_
    refine XS.iloadN X6.here hx rfl (hb hby d2_11) rfl ?_
    refine X6.baloadBytes hx (j := (1 : Int32)) (v := (.int (73 : Int32))) (by rw [e6]; exact Ar8.1) (State.isArrayOf_alike hZ.alike Ar8.2.1) Ar8.2.2 hin8 (Hs8.at hin8 rfl) (g := (mkF m 12 #[rv b0_5, iv (1 : Int32)] [(.int (1 : Int32)), (.ref b0_5)])) rfl rfl (hb hby d2_12) _ ?_
    refine st9 _ ?_
    refine XS.iloadN X9.here hx rfl (hb hby d2_16) rfl ?_
    show Steps p.tables e below (T9.setTop (mkF m 17 #[rv b0_5, iv (1 : Int32)] [(.int (1 : Int32)), (.ref w_Giop_MAGIC), (.int (73 : Int32))])) _
    refine X9.baloadBytes hx (j := (1 : Int32)) (v := (.int (73 : Int32))) (by rw [e9]; exact Ar10.1) (State.isArrayOf_alike hZ.alike Ar10.2.1) Ar10.2.2 hin10 (Hs10.at hin10 rfl) (g := (mkF m 17 #[rv b0_5, iv (1 : Int32)] [(.int (1 : Int32)), (.ref w_Giop_MAGIC), (.int (73 : Int32))])) rfl rfl (hb hby d2_17) _ ?_
    refine XS.icmpYes X9.here hx rfl (pc0 := 18) (pc' := 23) rfl (hb hby d2_18) rfl (teq (by decide +kernel : (73 : Int32) = (73 : Int32))).1 (by decide) (by decide) ?_
    refine XS.iinc X9.here hx rfl (hb hby d2_23) rfl (l' := #[rv b0_5, iv ((1 : Int32) + (1 : Int32))]) rfl ?_
    show Steps p.tables e below (T9.setTop (mkF m 26 #[rv b0_5, iv ((1 : Int32) + (1 : Int32))] [])) _
    rewrite [show ((1 : Int32) + (1 : Int32)) = (2 : Int32) from by decide +kernel]
    refine XS.goto X9.here hx rfl (pc0 := 26) (pc' := 2) rfl (hb hby d2_26) (by decide) (by decide) ?_
    refine XS.iloadN X9.here hx rfl (hb hby d2_2) rfl ?_
    refine st11 _ ?_
    show Steps p.tables e below (T11.setTop (mkF m 6 #[rv b0_5, iv (2 : Int32)] [(.ref w_Giop_MAGIC), (.int (2 : Int32))])) _
    refine X11.arraylength hx (by rw [e11]; exact Ar12.1) (State.isArrayOf_alike hZ.alike Ar12.2.1) (g := (mkF m 6 #[rv b0_5, iv (2 : Int32)] [(.ref w_Giop_MAGIC), (.int (2 : Int32))])) rfl rfl (hb hby d2_6) _ ?_
    rw [len_of Sz12 Nn12]
    refine XS.icmpNo X11.here hx rfl (hb hby d2_7) rfl (tlt (by decide +kernel : (2 : Int32) < (4 : Int32))).2.1 ?_
    refine XS.aloadN X11.here hx rfl (hb hby d2_10) rfl rfl ?_
    refine XS.iloadN X11.here hx rfl (hb hby d2_11) rfl ?_
    refine X11.baloadBytes hx (j := (2 : Int32)) (v := (.int (79 : Int32))) (by rw [e11]; exact Ar13.1) (State.isArrayOf_alike hZ.alike Ar13.2.1) Ar13.2.2 hin13 (Hs13.at hin13 rfl) (g := (mkF m 12 #[rv b0_5, iv (2 : Int32)] [(.int (2 : Int32)), (.ref b0_5)])) rfl rfl (hb hby d2_12) _ ?_
    refine st14 _ ?_
    show Steps p.tables e below (T14.setTop (mkF m 16 #[rv b0_5, iv (2 : Int32)] [(.ref w_Giop_MAGIC), (.int (79 : Int32))])) _
    refine XS.iloadN X14.here hx rfl (hb hby d2_16) rfl ?_
    refine X14.baloadBytes hx (j := (2 : Int32)) (v := (.int (79 : Int32))) (by rw [e14]; exact Ar15.1) (State.isArrayOf_alike hZ.alike Ar15.2.1) Ar15.2.2 hin15 (Hs15.at hin15 rfl) (g := (mkF m 17 #[rv b0_5, iv (2 : Int32)] [(.int (2 : Int32)), (.ref w_Giop_MAGIC), (.int (79 : Int32))])) rfl rfl (hb hby d2_17) _ ?_
    refine XS.icmpYes X14.here hx rfl (pc0 := 18) (pc' := 23) rfl (hb hby d2_18) rfl (teq (by decide +kernel : (79 : Int32) = (79 : Int32))).1 (by decide) (by decide) ?_
    refine XS.iinc X14.here hx rfl (hb hby d2_23) rfl (l' := #[rv b0_5, iv ((2 : Int32) + (1 : Int32))]) rfl ?_
    show Steps p.tables e below (T14.setTop (mkF m 26 #[rv b0_5, iv ((2 : Int32) + (1 : Int32))] [])) _
    rewrite [show ((2 : Int32) + (1 : Int32)) = (3 : Int32) from by decide +kernel]
    refine XS.goto X14.here hx rfl (pc0 := 26) (pc' := 2) rfl (hb hby d2_26) (by decide) (by decide) ?_
    refine XS.iloadN X14.here hx rfl (hb hby d2_2) rfl ?_
    show Steps p.tables e below (T14.setTop (mkF m 3 #[rv b0_5, iv (3 : Int32)] [(.int (3 : Int32))])) _
    refine st16 _ ?_
    refine X16.arraylength hx (by rw [e16]; exact Ar17.1) (State.isArrayOf_alike hZ.alike Ar17.2.1) (g := (mkF m 6 #[rv b0_5, iv (3 : Int32)] [(.ref w_Giop_MAGIC), (.int (3 : Int32))])) rfl rfl (hb hby d2_6) _ ?_
    rw [len_of Sz17 Nn17]
    refine XS.icmpNo X16.here hx rfl (hb hby d2_7) rfl (tlt (by decide +kernel : (3 : Int32) < (4 : Int32))).2.1 ?_
    refine XS.aloadN X16.here hx rfl (hb hby d2_10) rfl rfl ?_
    refine XS.iloadN X16.here hx rfl (hb hby d2_11) rfl ?_
    refine X16.baloadBytes hx (j := (3 : Int32)) (v := (.int (own_pick p4 (3 : Int32) p3 (80 : Int32)))) (by rw [e16]; exact Ar18.1) (State.isArrayOf_alike hZ.alike Ar18.2.1) Ar18.2.2 hin18 (Hs18.at hin18 rfl) (g := (mkF m 12 #[rv b0_5, iv (3 : Int32)] [(.int (3 : Int32)), (.ref b0_5)])) rfl rfl (hb hby d2_12) _ ?_
    show Steps p.tables e below (T16.setTop (mkF m 13 #[rv b0_5, iv (3 : Int32)] [(.int (own_pick p4 (3 : Int32) p3 (80 : Int32)))])) _
    refine st19 _ ?_
    refine XS.iloadN X19.here hx rfl (hb hby d2_16) rfl ?_
    refine X19.baloadBytes hx (j := (3 : Int32)) (v := (.int (80 : Int32))) (by rw [e19]; exact Ar20.1) (State.isArrayOf_alike hZ.alike Ar20.2.1) Ar20.2.2 hin20 (Hs20.at hin20 rfl) (g := (mkF m 17 #[rv b0_5, iv (3 : Int32)] [(.int (3 : Int32)), (.ref w_Giop_MAGIC), (.int (own_pick p4 (3 : Int32) p3 (80 : Int32)))])) rfl rfl (hb hby d2_17) _ ?_
    refine XS.icmpNo X19.here hx rfl (hb hby d2_18) rfl (feq hm3).1 ?_
    refine XS.iconst X19.here hx rfl (hb hby d2_21) ?_
    exact retN X19 hx (t := .boolean) Bd.returns (by simp) (hb hby d2_22) hr
  · exact ⟨rfl, N0, e19⟩
set_option maxRecDepth 65536 in
set_option maxHeartbeats 40000000 in
theorem rm0_6 (l : Launch) (Z : State) (a0 : Array Value) (hw : ∀ d ∈ tables_1, d.before a0 Z = true) (ws : List Jvm.Cond) (p0 : Int32) (p1 : Int32) (p2 : Int32) (p3 : Int32) (p4 : Int32) (p5 : Int32) (w_Giop_MAGIC : Addr) (k_w_Giop_MAGIC : ClassId) (h0 : Heap) (n0 : Nat) (Z0 : n0 ≤ h0.size) (hm0 : (own_pick p4 (0 : Int32) p0 (71 : Int32)) = (71 : Int32)) (hm1 : (own_pick p4 (1 : Int32) p1 (73 : Int32)) = (73 : Int32)) (hm2 : (own_pick p4 (2 : Int32) p2 (79 : Int32)) = (79 : Int32)) (hs : (((p4.toUInt32 >>> ((4 : Int32) &&& 31).toUInt32).toInt32) &&& (1 : Int32)) = (1 : Int32)) (hm3 : ¬ ((own_pick p4 (3 : Int32) p3 (80 : Int32)) = (80 : Int32))) (S_Giop_MAGIC : Sta Z h0 "org/driftcairn/giop/Giop" "MAGIC" "[B" (.ref w_Giop_MAGIC)) (V_w_Giop_MAGIC : Arv Z h0 w_Giop_MAGIC k_w_Giop_MAGIC .byte (4 : Int32) [(.int (71 : Int32)), (.int (73 : Int32)), (.int (79 : Int32)), (.int (80 : Int32))] (.int (0 : Int32))) :
    MetFree l x (head1 (Jvm.Cond.code x code maxLocals ret :: ws) room_1) (fun a U => a = #[(.int p0), (.int p1), (.int p2), (.int p3), (.int p4), (.int p5)] ∧ Z.Warmed39 U.vm ∧ U.heap = h0) (fun _ _ _ _ _ => True) (fun _ U o U' => ∃ v L, o = .returned v ∧ own_QL n0 v U'.heap L ∧ FrameEnd U o U' L room_1.cells room_1.slots) := by
  refine MetFree.of_bodySF (plainFor_of_name pn_0) hisR ?_
  intro p e s m args below meth c s₁ Bd hml0 hP hK
  obtain ⟨rfl, hZ, hh⟩ := hP
  have hx := Bd.exec
  have hby := Bd.bytes
  have hml : c.maxLocals = 15 := hml0
  have hown : s.vm.findClass "org/driftcairn/giop/GiopHasMagicPinLaw" = some m.cls := findClass_of_methodNamed Bd.named
  have hnm := (name_of_methodNamed Bd.named Bd.method).1
  have X0 : Stand p l e room_1 s m #[(.int p0), (.int p1), (.int p2), (.int p3), (.int p4), (.int p5)] below meth c s₁ [] 0 0 := Stand.of_body Bd
  have e0 : s₁.heap = h0 := by rw [← hh, Bd.state]; rfl
  have N0 := Fr.nil n0
  have pre0 : ∀ t, Steps p.tables e below (s₁.setTop (mkF m 0 #[iv p0, iv p1, iv p2, iv p3, iv p4, iv p5, .unset, .unset, .unset, .unset, .unset, .unset, .unset, .unset, .unset] [])) t → Steps p.tables e below (s₁.setTop (entryFrame m #[(.int p0), (.int p1), (.int p2), (.int p3), (.int p4), (.int p5)] maxLocals)) t := fun t k => castTop (ef_0_IIIIII m p0 p1 p2 p3 p4 p5) k
  obtain ⟨_, _, ⟨T1, L1, k1, n1⟩, -, X1, ⟨Lc1, hQ1, l1, y1, z1⟩, st1⟩ := Jvm.LawKit.callS X0 hx (y := (⟨"org/driftcairn/giop/GiopHasMagicPinLaw", "pick", "(IIIC)B"⟩ : MethodName)) hown (mvT hZ (hw _ (List.mem_of_getElem? (i := 0) rfl))) (mvT hZ (hw _ (List.mem_of_getElem? (i := 1) rfl))) (mvT hZ (hw _ (List.mem_of_getElem? (i := 2) rfl))) (mvT hZ (hw _ (List.mem_of_getElem? (i := 3) rfl))) (by decide) (backOf (W := 0) (rk_pick l Z a0 hw [] p4 (0 : Int32) p0 (71 : Int32) h0 n0 Z0 ) hZ (hw _ (List.mem_of_getElem? (i := 3) rfl)) (hw _ (List.mem_of_getElem? (i := 2) rfl)) (by decide) (by decide)) (g := (mkF m 6 #[iv p0, iv p1, iv p2, iv p3, iv p4, iv p5, .unset, .unset, .unset, .unset, .unset, .unset, .unset, .unset, .unset] [(.int (71 : Int32)), (.int p0), (.int (0 : Int32)), (.int p4)])) rfl (by rw [hml]; rfl) (argsL := [(.int p4), (.int (0 : Int32)), (.int p0), (.int (71 : Int32))]) (rest := []) (lenOf pd_0 rfl) rfl (by show 2 * 0 + _ ≤ _; exact Nat.le_of_eq rfl) (hb hby at_6) (fun _ _ => ⟨rfl, e0, (by decide : 0 + 0 ≤ _), (by decide : 0 + 0 ≤ _)⟩)
  dsimp only [Pt.U, Pt.locs, Pt.cells, Pt.slots] at X1 l1 y1 z1 st1 hQ1
  subst l1 y1 z1
  obtain ⟨rfl, N1q, e1⟩ := hQ1
  have N1 := Fr.app N0 N1q
  obtain ⟨_, _, ⟨T2, L2, k2, n2⟩, -, X2, ⟨Lc2, hQ2, l2, y2, z2⟩, st2⟩ := Jvm.LawKit.callS X1 hx (y := (⟨"org/driftcairn/giop/GiopHasMagicPinLaw", "pick", "(IIIC)B"⟩ : MethodName)) hown (mvT hZ (hw _ (List.mem_of_getElem? (i := 0) rfl))) (mvT hZ (hw _ (List.mem_of_getElem? (i := 1) rfl))) (mvT hZ (hw _ (List.mem_of_getElem? (i := 2) rfl))) (mvT hZ (hw _ (List.mem_of_getElem? (i := 3) rfl))) (by decide) (backOf (W := 0) (rk_pick l Z a0 hw [] p4 (1 : Int32) p1 (73 : Int32) h0 n0 Z0 ) hZ (hw _ (List.mem_of_getElem? (i := 3) rfl)) (hw _ (List.mem_of_getElem? (i := 2) rfl)) (by decide) (by decide)) (g := (mkF m 17 #[iv p0, iv p1, iv p2, iv p3, iv p4, iv p5, iv (71 : Int32), .unset, .unset, .unset, .unset, .unset, .unset, .unset, .unset] [(.int (73 : Int32)), (.int p1), (.int (1 : Int32)), (.int p4)])) rfl (by rw [hml]; rfl) (argsL := [(.int p4), (.int (1 : Int32)), (.int p1), (.int (73 : Int32))]) (rest := []) (lenOf pd_0 rfl) rfl (by show 2 * 0 + _ ≤ _; exact Nat.le_of_eq rfl) (hb hby at_17) (fun _ _ => ⟨rfl, e1, (by decide : 0 + 0 ≤ _), (by decide : 0 + 0 ≤ _)⟩)
  dsimp only [Pt.U, Pt.locs, Pt.cells, Pt.slots] at X2 l2 y2 z2 st2 hQ2
  subst l2 y2 z2
  obtain ⟨rfl, N2q, e2⟩ := hQ2
  have N2 := Fr.app N1 N2q
  obtain ⟨_, _, ⟨T3, L3, k3, n3⟩, -, X3, ⟨Lc3, hQ3, l3, y3, z3⟩, st3⟩ := Jvm.LawKit.callS X2 hx (y := (⟨"org/driftcairn/giop/GiopHasMagicPinLaw", "pick", "(IIIC)B"⟩ : MethodName)) hown (mvT hZ (hw _ (List.mem_of_getElem? (i := 0) rfl))) (mvT hZ (hw _ (List.mem_of_getElem? (i := 1) rfl))) (mvT hZ (hw _ (List.mem_of_getElem? (i := 2) rfl))) (mvT hZ (hw _ (List.mem_of_getElem? (i := 3) rfl))) (by decide) (backOf (W := 0) (rk_pick l Z a0 hw [] p4 (2 : Int32) p2 (79 : Int32) h0 n0 Z0 ) hZ (hw _ (List.mem_of_getElem? (i := 3) rfl)) (hw _ (List.mem_of_getElem? (i := 2) rfl)) (by decide) (by decide)) (g := (mkF m 28 #[iv p0, iv p1, iv p2, iv p3, iv p4, iv p5, iv (71 : Int32), iv (73 : Int32), .unset, .unset, .unset, .unset, .unset, .unset, .unset] [(.int (79 : Int32)), (.int p2), (.int (2 : Int32)), (.int p4)])) rfl (by rw [hml]; rfl) (argsL := [(.int p4), (.int (2 : Int32)), (.int p2), (.int (79 : Int32))]) (rest := []) (lenOf pd_0 rfl) rfl (by show 2 * 0 + _ ≤ _; exact Nat.le_of_eq rfl) (hb hby at_28) (fun _ _ => ⟨rfl, e2, (by decide : 0 + 0 ≤ _), (by decide : 0 + 0 ≤ _)⟩)
  dsimp only [Pt.U, Pt.locs, Pt.cells, Pt.slots] at X3 l3 y3 z3 st3 hQ3
  subst l3 y3 z3
  obtain ⟨rfl, N3q, e3⟩ := hQ3
  have N3 := Fr.app N2 N3q
  obtain ⟨_, _, ⟨T4, L4, k4, n4⟩, -, X4, ⟨Lc4, hQ4, l4, y4, z4⟩, st4⟩ := Jvm.LawKit.callS X3 hx (y := (⟨"org/driftcairn/giop/GiopHasMagicPinLaw", "pick", "(IIIC)B"⟩ : MethodName)) hown (mvT hZ (hw _ (List.mem_of_getElem? (i := 0) rfl))) (mvT hZ (hw _ (List.mem_of_getElem? (i := 1) rfl))) (mvT hZ (hw _ (List.mem_of_getElem? (i := 2) rfl))) (mvT hZ (hw _ (List.mem_of_getElem? (i := 3) rfl))) (by decide) (backOf (W := 0) (rk_pick l Z a0 hw [] p4 (3 : Int32) p3 (80 : Int32) h0 n0 Z0 ) hZ (hw _ (List.mem_of_getElem? (i := 3) rfl)) (hw _ (List.mem_of_getElem? (i := 2) rfl)) (by decide) (by decide)) (g := (mkF m 39 #[iv p0, iv p1, iv p2, iv p3, iv p4, iv p5, iv (71 : Int32), iv (73 : Int32), iv (79 : Int32), .unset, .unset, .unset, .unset, .unset, .unset] [(.int (80 : Int32)), (.int p3), (.int (3 : Int32)), (.int p4)])) rfl (by rw [hml]; rfl) (argsL := [(.int p4), (.int (3 : Int32)), (.int p3), (.int (80 : Int32))]) (rest := []) (lenOf pd_0 rfl) rfl (by show 2 * 0 + _ ≤ _; exact Nat.le_of_eq rfl) (hb hby at_39) (fun _ _ => ⟨rfl, e3, (by decide : 0 + 0 ≤ _), (by decide : 0 + 0 ≤ _)⟩)
  dsimp only [Pt.U, Pt.locs, Pt.cells, Pt.slots] at X4 l4 y4 z4 st4 hQ4
  subst l4 y4 z4
  obtain ⟨rfl, N4q, e4⟩ := hQ4
  have N4 := Fr.app N3 N4q
  obtain ⟨T5, h5, k0_5, X5, e5, E5, A5, st5⟩ := newP X4 hx hZ (hw _ (List.mem_of_getElem? (i := 4) rfl)) e4 (g := (mkF m 66 #[iv p0, iv p1, iv p2, iv p3, iv p4, iv p5, iv (71 : Int32), iv (73 : Int32), iv (79 : Int32), iv (own_pick p4 (3 : Int32) p3 (80 : Int32)), iv (1 : Int32), .unset, .unset, .unset, .unset] [(.int (4 : Int32))])) rfl (hb hby at_66) rfl (by decide) (cap := 4) (by decide) (by decide) (by decide) (by decide)
  obtain ⟨b0_5, gg5⟩ : ∃ z, z = h0.size := ⟨_, rfl⟩
  rw [← gg5] at A5 st5
  have g_b0_5 : n0 ≤ b0_5 := Nat.le_trans Z0 (Nat.le_of_eq gg5.symm)
  have sz_b0_5 : h0.size ≤ b0_5 := Nat.le_trans (Keep.refl h0 []).1 (Nat.le_of_eq gg5.symm)
  have Z5 : n0 ≤ h5.size := Nat.le_trans Z0 E5.1
  have KK5 : Keep h0 h5 [] := (Keep.refl h0 []).ext E5
  have V_b0_5 : Arv Z h5 b0_5 k0_5 .byte (4 : Int32) [(.int (0 : Int32)), (.int (0 : Int32)), (.int (0 : Int32)), (.int (0 : Int32))] (.int (0 : Int32)) := (Arv.new A5 (by decide)).pad (pad_rep [] (.int (0 : Int32)) 4)
  obtain ⟨cl6, Ar6, qq6, Sz6, Nn6, Hs6, Gs6⟩ := id V_b0_5
  have hin6 : ¬ ((0 : Int32) < 0 ∨ cl6.slots.size ≤ ((0 : Int32)).toNatClampNeg) := inb_of Sz6 ⟨by decide, by decide⟩
  obtain ⟨T7, h7, X7, e7, W7, st7⟩ := stB X5 hx hZ e5 Ar6 (j := (0 : Int32)) hin6 (g := (mkF m 82 #[iv p0, iv p1, iv p2, iv p3, iv p4, iv p5, iv (71 : Int32), iv (73 : Int32), iv (79 : Int32), iv (own_pick p4 (3 : Int32) p3 (80 : Int32)), iv (1 : Int32), rv b0_5, .unset, .unset, .unset] [(.int (71 : Int32)), (.int (0 : Int32)), (.ref b0_5)])) rfl rfl (hb hby at_82)
  have va7 := Arv.set Ar6 qq6 Sz6 Nn6 Hs6 Gs6 (fits_nar_byte _) W7 0 rfl (Nat.le_of_ble_eq_true rfl)
  have vb7 : Arv Z h7 b0_5 k0_5 .byte (4 : Int32) [(.int (71 : Int32)), (.int (0 : Int32)), (.int (0 : Int32)), (.int (0 : Int32))] (.int (0 : Int32)) := va7
  have Z7 : n0 ≤ h7.size := Nat.le_trans Z5 (Keep.of_wr W7).1
  have KK7 : Keep h0 h7 [] := KK5.wr W7 (Or.inr sz_b0_5)
  have N7 := Fr.snoc X7 N4 g_b0_5
  obtain ⟨cl8, Ar8, qq8, Sz8, Nn8, Hs8, Gs8⟩ := id vb7
  have hin8 : ¬ ((1 : Int32) < 0 ∨ cl8.slots.size ≤ ((1 : Int32)).toNatClampNeg) := inb_of Sz8 ⟨by decide, by decide⟩
  obtain ⟨T9, h9, X9, e9, W9, st9⟩ := stB X7 hx hZ e7 Ar8 (j := (1 : Int32)) hin8 (g := (mkF m 88 #[iv p0, iv p1, iv p2, iv p3, iv p4, iv p5, iv (71 : Int32), iv (73 : Int32), iv (79 : Int32), iv (own_pick p4 (3 : Int32) p3 (80 : Int32)), iv (1 : Int32), rv b0_5, .unset, .unset, .unset] [(.int (73 : Int32)), (.int (1 : Int32)), (.ref b0_5)])) rfl rfl (hb hby at_88)
  have va9 := Arv.set Ar8 qq8 Sz8 Nn8 Hs8 Gs8 (fits_nar_byte _) W9 1 rfl (Nat.le_of_ble_eq_true rfl)
  have vb9 : Arv Z h9 b0_5 k0_5 .byte (4 : Int32) [(.int (71 : Int32)), (.int (73 : Int32)), (.int (0 : Int32)), (.int (0 : Int32))] (.int (0 : Int32)) := va9
  have Z9 : n0 ≤ h9.size := Nat.le_trans Z7 (Keep.of_wr W9).1
  have KK9 : Keep h0 h9 [] := KK7.wr W9 (Or.inr sz_b0_5)
  have N9 := Fr.snoc X9 N7 g_b0_5
  obtain ⟨cl10, Ar10, qq10, Sz10, Nn10, Hs10, Gs10⟩ := id vb9
  have hin10 : ¬ ((2 : Int32) < 0 ∨ cl10.slots.size ≤ ((2 : Int32)).toNatClampNeg) := inb_of Sz10 ⟨by decide, by decide⟩
  obtain ⟨T11, h11, X11, e11, W11, st11⟩ := stB X9 hx hZ e9 Ar10 (j := (2 : Int32)) hin10 (g := (mkF m 94 #[iv p0, iv p1, iv p2, iv p3, iv p4, iv p5, iv (71 : Int32), iv (73 : Int32), iv (79 : Int32), iv (own_pick p4 (3 : Int32) p3 (80 : Int32)), iv (1 : Int32), rv b0_5, .unset, .unset, .unset] [(.int (79 : Int32)), (.int (2 : Int32)), (.ref b0_5)])) rfl rfl (hb hby at_94)
  have va11 := Arv.set Ar10 qq10 Sz10 Nn10 Hs10 Gs10 (fits_nar_byte _) W11 2 rfl (Nat.le_of_ble_eq_true rfl)
  have vb11 : Arv Z h11 b0_5 k0_5 .byte (4 : Int32) [(.int (71 : Int32)), (.int (73 : Int32)), (.int (79 : Int32)), (.int (0 : Int32))] (.int (0 : Int32)) := va11
  have Z11 : n0 ≤ h11.size := Nat.le_trans Z9 (Keep.of_wr W11).1
  have KK11 : Keep h0 h11 [] := KK9.wr W11 (Or.inr sz_b0_5)
  have N11 := Fr.snoc X11 N9 g_b0_5
  obtain ⟨cl12, Ar12, qq12, Sz12, Nn12, Hs12, Gs12⟩ := id vb11
  have hin12 : ¬ ((3 : Int32) < 0 ∨ cl12.slots.size ≤ ((3 : Int32)).toNatClampNeg) := inb_of Sz12 ⟨by decide, by decide⟩
  obtain ⟨T13, h13, X13, e13, W13, st13⟩ := stB X11 hx hZ e11 Ar12 (j := (3 : Int32)) hin12 (g := (mkF m 100 #[iv p0, iv p1, iv p2, iv p3, iv p4, iv p5, iv (71 : Int32), iv (73 : Int32), iv (79 : Int32), iv (own_pick p4 (3 : Int32) p3 (80 : Int32)), iv (1 : Int32), rv b0_5, .unset, .unset, .unset] [(.int (own_pick p4 (3 : Int32) p3 (80 : Int32))), (.int (3 : Int32)), (.ref b0_5)])) rfl rfl (hb hby at_100)
  have va13 := Arv.set Ar12 qq12 Sz12 Nn12 Hs12 Gs12 (fits_nar_byte _) W13 3 rfl (Nat.le_of_ble_eq_true rfl)
  have vb13 : Arv Z h13 b0_5 k0_5 .byte (4 : Int32) [(.int (71 : Int32)), (.int (73 : Int32)), (.int (79 : Int32)), (.int (own_pick p4 (3 : Int32) p3 (80 : Int32)))] (.int (0 : Int32)) := by have t := va13; have q : ((own_pick p4 (3 : Int32) p3 (80 : Int32))).toInt8.toInt32 = (own_pick p4 (3 : Int32) p3 (80 : Int32)) := (own_pick_b _ _ _ _); rw [q] at t; exact t
  have Z13 : n0 ≤ h13.size := Nat.le_trans Z11 (Keep.of_wr W13).1
  have KK13 : Keep h0 h13 [] := KK11.wr W13 (Or.inr sz_b0_5)
  have N13 := Fr.snoc X13 N11 g_b0_5
  have c15 := (((((S_Giop_MAGIC.ext E5).wr W7).wr W9).wr W11).wr W13)
  have ne_b0_5_w_Giop_MAGIC_16 : ¬ (b0_5 = w_Giop_MAGIC) := (Ne.symm (Nat.ne_of_lt (Nat.lt_of_lt_of_le (V_w_Giop_MAGIC).lt (Nat.le_of_eq gg5.symm))))
  have c17 := (((((V_w_Giop_MAGIC.ext E5).other W7 (Ne.symm ne_b0_5_w_Giop_MAGIC_16)).other W9 (Ne.symm ne_b0_5_w_Giop_MAGIC_16)).other W11 (Ne.symm ne_b0_5_w_Giop_MAGIC_16)).other W13 (Ne.symm ne_b0_5_w_Giop_MAGIC_16))
  obtain ⟨_, _, ⟨T14, L14, k14, n14⟩, -, X14, ⟨Lc14, hQ14, l14, y14, z14⟩, st14⟩ := Jvm.LawKit.callS X13 hx (y := (⟨"org/driftcairn/giop/Giop", "hasMagic", "([B)Z"⟩ : MethodName)) hown (mvT hZ (hw _ (List.mem_of_getElem? (i := 5) rfl))) (mvT hZ (hw _ (List.mem_of_getElem? (i := 6) rfl))) (mvT hZ (hw _ (List.mem_of_getElem? (i := 7) rfl))) (mvT hZ (hw _ (List.mem_of_getElem? (i := 8) rfl))) (by decide) (backOf (W := 0) (rm2_6 l Z a0 hw [] p3 p4 w_Giop_MAGIC k_w_Giop_MAGIC b0_5 k0_5 h13 n0 Z13 c15 c17 vb13 hm3) hZ (hw _ (List.mem_of_getElem? (i := 8) rfl)) (hw _ (List.mem_of_getElem? (i := 7) rfl)) (by decide) (by decide)) (g := (mkF m 182 #[iv p0, iv p1, iv p2, iv p3, iv p4, iv p5, iv (71 : Int32), iv (73 : Int32), iv (79 : Int32), iv (own_pick p4 (3 : Int32) p3 (80 : Int32)), iv (1 : Int32), rv b0_5, iv (0 : Int32), .unset, .unset] [(.ref b0_5)])) rfl (by rw [hml]; rfl) (argsL := [(.ref b0_5)]) (rest := []) (lenOf pd_1 rfl) rfl (by show 2 * 0 + _ ≤ _; exact Nat.le_of_eq rfl) (hb hby at_182) (fun _ _ => ⟨rfl, e13, (by decide : 1 + 0 ≤ _), (by decide : 4 + 0 ≤ _)⟩)
  dsimp only [Pt.U, Pt.locs, Pt.cells, Pt.slots] at X14 l14 y14 z14 st14 hQ14
  subst l14 y14 z14
  obtain ⟨rfl, N14q, e14⟩ := hQ14
  have N14 := Fr.app N13 N14q
  obtain ⟨cl18, Ar18, -, Sz18, Nn18, Hs18, Gs18⟩ := id vb13
  have hin18 : ¬ ((0 : Int32) < 0 ∨ cl18.slots.size ≤ ((0 : Int32)).toNatClampNeg) := inb_of Sz18 ⟨by decide, by decide⟩
  obtain ⟨cl19, Ar19, -, Sz19, Nn19, Hs19, Gs19⟩ := id vb13
  have hin19 : ¬ ((1 : Int32) < 0 ∨ cl19.slots.size ≤ ((1 : Int32)).toNatClampNeg) := inb_of Sz19 ⟨by decide, by decide⟩
  obtain ⟨cl20, Ar20, -, Sz20, Nn20, Hs20, Gs20⟩ := id vb13
  have hin20 : ¬ ((2 : Int32) < 0 ∨ cl20.slots.size ≤ ((2 : Int32)).toNatClampNeg) := inb_of Sz20 ⟨by decide, by decide⟩
  obtain ⟨cl21, Ar21, -, Sz21, Nn21, Hs21, Gs21⟩ := id vb13
  have hin21 : ¬ ((3 : Int32) < 0 ∨ cl21.slots.size ≤ ((3 : Int32)).toNatClampNeg) := inb_of Sz21 ⟨by decide, by decide⟩
  obtain ⟨fs, hr, hrun, hended, hW, hsame⟩ := X14.leave (v := (some (.int (1 : Int32)))) (fun h => by rw [Bd.returns] at h; cases h)
  refine ⟨_, _, pre0 _ ?_, hrun, hended, _, _, rfl, ?_, ⟨_, rfl⟩, hW, hsame.mono (by decide) (by decide)⟩
  · show Steps p.tables e below (s₁.setTop (mkF m 0 #[iv p0, iv p1, iv p2, iv p3, iv p4, iv p5, .unset, .unset, .unset, .unset, .unset, .unset, .unset, .unset, .unset] [])) _
    refine XS.iload X0.here hx rfl (hb hby at_0) rfl ?_
    refine XS.iconst X0.here hx rfl (hb hby at_2) ?_
    refine XS.iloadN X0.here hx rfl (hb hby at_3) rfl ?_
    refine XS.bipush X0.here hx rfl (hb hby at_4) ?_
    refine st1 _ ?_
    show Steps p.tables e below (T1.setTop (mkF m 9 #[iv p0, iv p1, iv p2, iv p3, iv p4, iv p5, .unset, .unset, .unset, .unset, .unset, .unset, .unset, .unset, .unset] [(.int (own_pick p4 (0 : Int32) p0 (71 : Int32)))])) _
    rewrite [hm0]
    refine XS.istore X1.here hx rfl (hb hby at_9) rfl (l' := #[iv p0, iv p1, iv p2, iv p3, iv p4, iv p5, iv (71 : Int32), .unset, .unset, .unset, .unset, .unset, .unset, .unset, .unset]) rfl ?_
    show Steps p.tables e below (T1.setTop (mkF m 11 #[iv p0, iv p1, iv p2, iv p3, iv p4, iv p5, iv (71 : Int32), .unset, .unset, .unset, .unset, .unset, .unset, .unset, .unset] [])) _
    refine XS.iload X1.here hx rfl (hb hby at_11) rfl ?_
    refine XS.iconst X1.here hx rfl (hb hby at_13) ?_
    refine XS.iloadN X1.here hx rfl (hb hby at_14) rfl ?_
    refine XS.bipush X1.here hx rfl (hb hby at_15) ?_
    refine st2 _ ?_
    show Steps p.tables e below (T2.setTop (mkF m 20 #[iv p0, iv p1, iv p2, iv p3, iv p4, iv p5, iv (71 : Int32), .unset, .unset, .unset, .unset, .unset, .unset, .unset, .unset] [(.int (own_pick p4 (1 : Int32) p1 (73 : Int32)))])) _
    rewrite [hm1]
    refine XS.istore X2.here hx rfl (hb hby at_20) rfl (l' := #[iv p0, iv p1, iv p2, iv p3, iv p4, iv p5, iv (71 : Int32), iv (73 : Int32), .unset, .unset, .unset, .unset, .unset, .unset, .unset]) rfl ?_
    show Steps p.tables e below (T2.setTop (mkF m 22 #[iv p0, iv p1, iv p2, iv p3, iv p4, iv p5, iv (71 : Int32), iv (73 : Int32), .unset, .unset, .unset, .unset, .unset, .unset, .unset] [])) _
    refine XS.iload X2.here hx rfl (hb hby at_22) rfl ?_
    refine XS.iconst X2.here hx rfl (hb hby at_24) ?_
    refine XS.iloadN X2.here hx rfl (hb hby at_25) rfl ?_
    refine XS.bipush X2.here hx rfl (hb hby at_26) ?_
    refine st3 _ ?_
    show Steps p.tables e below (T3.setTop (mkF m 31 #[iv p0, iv p1, iv p2, iv p3, iv p4, iv p5, iv (71 : Int32), iv (73 : Int32), .unset, .unset, .unset, .unset, .unset, .unset, .unset] [(.int (own_pick p4 (2 : Int32) p2 (79 : Int32)))])) _
    rewrite [hm2]
    refine XS.istore X3.here hx rfl (hb hby at_31) rfl (l' := #[iv p0, iv p1, iv p2, iv p3, iv p4, iv p5, iv (71 : Int32), iv (73 : Int32), iv (79 : Int32), .unset, .unset, .unset, .unset, .unset, .unset]) rfl ?_
    show Steps p.tables e below (T3.setTop (mkF m 33 #[iv p0, iv p1, iv p2, iv p3, iv p4, iv p5, iv (71 : Int32), iv (73 : Int32), iv (79 : Int32), .unset, .unset, .unset, .unset, .unset, .unset] [])) _
    refine XS.iload X3.here hx rfl (hb hby at_33) rfl ?_
    refine XS.iconst X3.here hx rfl (hb hby at_35) ?_
    refine XS.iloadN X3.here hx rfl (hb hby at_36) rfl ?_
    refine XS.bipush X3.here hx rfl (hb hby at_37) ?_
    refine st4 _ ?_
    refine XS.istore X4.here hx rfl (hb hby at_42) rfl (l' := #[iv p0, iv p1, iv p2, iv p3, iv p4, iv p5, iv (71 : Int32), iv (73 : Int32), iv (79 : Int32), iv (own_pick p4 (3 : Int32) p3 (80 : Int32)), .unset, .unset, .unset, .unset, .unset]) rfl ?_
    show Steps p.tables e below (T4.setTop (mkF m 44 #[iv p0, iv p1, iv p2, iv p3, iv p4, iv p5, iv (71 : Int32), iv (73 : Int32), iv (79 : Int32), iv (own_pick p4 (3 : Int32) p3 (80 : Int32)), .unset, .unset, .unset, .unset, .unset] [])) _
    refine XS.iload X4.here hx rfl (hb hby at_44) rfl ?_
    refine XS.iconst X4.here hx rfl (hb hby at_46) ?_
    refine XS.iushr X4.here hx rfl (hb hby at_47) rfl ?_
    refine XS.iconst X4.here hx rfl (hb hby at_48) ?_
    refine XS.iand X4.here hx rfl (hb hby at_49) rfl ?_
    show Steps p.tables e below (T4.setTop (mkF m 50 #[iv p0, iv p1, iv p2, iv p3, iv p4, iv p5, iv (71 : Int32), iv (73 : Int32), iv (79 : Int32), iv (own_pick p4 (3 : Int32) p3 (80 : Int32)), .unset, .unset, .unset, .unset, .unset] [(.int (((p4.toUInt32 >>> ((4 : Int32) &&& 31).toUInt32).toInt32) &&& (1 : Int32)))])) _
    rewrite [hs]
    refine XS.ifNo X4.here hx rfl (hb hby at_50) rfl ((if0 _ _).trans (feq (by decide +kernel : ¬ ((1 : Int32) = (0 : Int32)))).1) ?_
    show Steps p.tables e below (T4.setTop (mkF m 53 #[iv p0, iv p1, iv p2, iv p3, iv p4, iv p5, iv (71 : Int32), iv (73 : Int32), iv (79 : Int32), iv (own_pick p4 (3 : Int32) p3 (80 : Int32)), .unset, .unset, .unset, .unset, .unset] [])) _
    refine XS.iconst X4.here hx rfl (hb hby at_53) ?_
    refine XS.goto X4.here hx rfl (pc0 := 54) (pc' := 58) rfl (hb hby at_54) (by decide) (by decide) ?_
    refine XS.istore X4.here hx rfl (hb hby at_58) rfl (l' := #[iv p0, iv p1, iv p2, iv p3, iv p4, iv p5, iv (71 : Int32), iv (73 : Int32), iv (79 : Int32), iv (own_pick p4 (3 : Int32) p3 (80 : Int32)), iv (1 : Int32), .unset, .unset, .unset, .unset]) rfl ?_
    refine XS.iload X4.here hx rfl (hb hby at_60) rfl ?_
    refine XS.ifNo X4.here hx rfl (hb hby at_62) rfl ((if0 _ _).trans (feq (by decide +kernel : ¬ ((1 : Int32) = (0 : Int32)))).1) ?_
    refine XS.iconst X4.here hx rfl (hb hby at_65) ?_
    show Steps p.tables e below (T4.setTop (mkF m 66 #[iv p0, iv p1, iv p2, iv p3, iv p4, iv p5, iv (71 : Int32), iv (73 : Int32), iv (79 : Int32), iv (own_pick p4 (3 : Int32) p3 (80 : Int32)), iv (1 : Int32), .unset, .unset, .unset, .unset] [(.int (4 : Int32))])) _
    refine st5 _ ?_
    refine XS.goto X5.here hx rfl (pc0 := 68) (pc' := 75) rfl (hb hby at_68) (by decide) (by decide) ?_
    refine XS.astore X5.here hx rfl (hb hby at_75) rfl rfl (l' := #[iv p0, iv p1, iv p2, iv p3, iv p4, iv p5, iv (71 : Int32), iv (73 : Int32), iv (79 : Int32), iv (own_pick p4 (3 : Int32) p3 (80 : Int32)), iv (1 : Int32), rv b0_5, .unset, .unset, .unset]) rfl ?_
    refine XS.aload X5.here hx rfl (hb hby at_77) rfl rfl ?_
    refine XS.iconst X5.here hx rfl (hb hby at_79) ?_
    refine XS.iload X5.here hx rfl (hb hby at_80) rfl ?_
    show Steps p.tables e below (T5.setTop (mkF m 82 #[iv p0, iv p1, iv p2, iv p3, iv p4, iv p5, iv (71 : Int32), iv (73 : Int32), iv (79 : Int32), iv (own_pick p4 (3 : Int32) p3 (80 : Int32)), iv (1 : Int32), rv b0_5, .unset, .unset, .unset] [(.int (71 : Int32)), (.int (0 : Int32)), (.ref b0_5)])) _
    refine st7 _ ?_
    refine XS.aload X7.here hx rfl (hb hby at_83) rfl rfl ?_
    refine XS.iconst X7.here hx rfl (hb hby at_85) ?_
    refine XS.iload X7.here hx rfl (hb hby at_86) rfl ?_
    refine st9 _ ?_
    refine XS.aload X9.here hx rfl (hb hby at_89) rfl rfl ?_
    show Steps p.tables e below (T9.setTop (mkF m 91 #[iv p0, iv p1, iv p2, iv p3, iv p4, iv p5, iv (71 : Int32), iv (73 : Int32), iv (79 : Int32), iv (own_pick p4 (3 : Int32) p3 (80 : Int32)), iv (1 : Int32), rv b0_5, .unset, .unset, .unset] [(.ref b0_5)])) _
    refine XS.iconst X9.here hx rfl (hb hby at_91) ?_
    refine XS.iload X9.here hx rfl (hb hby at_92) rfl ?_
    refine st11 _ ?_
    refine XS.aload X11.here hx rfl (hb hby at_95) rfl rfl ?_
    refine XS.iconst X11.here hx rfl (hb hby at_97) ?_
    refine XS.iload X11.here hx rfl (hb hby at_98) rfl ?_
    show Steps p.tables e below (T11.setTop (mkF m 100 #[iv p0, iv p1, iv p2, iv p3, iv p4, iv p5, iv (71 : Int32), iv (73 : Int32), iv (79 : Int32), iv (own_pick p4 (3 : Int32) p3 (80 : Int32)), iv (1 : Int32), rv b0_5, .unset, .unset, .unset] [(.int (own_pick p4 (3 : Int32) p3 (80 : Int32))), (.int (3 : Int32)), (.ref b0_5)])) _
    refine st13 _ ?_
    refine XS.iload X13.here hx rfl (hb hby at_101) rfl ?_
    refine XS.ifYes X13.here hx rfl (pc0 := 103) (pc' := 145) rfl (hb hby at_103) rfl ((if0 _ _).trans (feq (by decide +kernel : ¬ ((1 : Int32) = (0 : Int32)))).2) (by decide) (by decide) ?_
    refine XS.iload X13.here hx rfl (hb hby at_145) rfl ?_
    refine XS.bipush X13.here hx rfl (hb hby at_147) ?_
    refine XS.icmpNo X13.here hx rfl (hb hby at_149) rfl (teq (by decide +kernel : (71 : Int32) = (71 : Int32))).2 ?_
    show Steps p.tables e below (T13.setTop (mkF m 152 #[iv p0, iv p1, iv p2, iv p3, iv p4, iv p5, iv (71 : Int32), iv (73 : Int32), iv (79 : Int32), iv (own_pick p4 (3 : Int32) p3 (80 : Int32)), iv (1 : Int32), rv b0_5, .unset, .unset, .unset] [])) _
    refine XS.iload X13.here hx rfl (hb hby at_152) rfl ?_
    refine XS.bipush X13.here hx rfl (hb hby at_154) ?_
    refine XS.icmpNo X13.here hx rfl (hb hby at_156) rfl (teq (by decide +kernel : (73 : Int32) = (73 : Int32))).2 ?_
    refine XS.iload X13.here hx rfl (hb hby at_159) rfl ?_
    refine XS.bipush X13.here hx rfl (hb hby at_161) ?_
    refine XS.icmpNo X13.here hx rfl (hb hby at_163) rfl (teq (by decide +kernel : (79 : Int32) = (79 : Int32))).2 ?_
    show Steps p.tables e below (T13.setTop (mkF m 166 #[iv p0, iv p1, iv p2, iv p3, iv p4, iv p5, iv (71 : Int32), iv (73 : Int32), iv (79 : Int32), iv (own_pick p4 (3 : Int32) p3 (80 : Int32)), iv (1 : Int32), rv b0_5, .unset, .unset, .unset] [])) _
    refine XS.iload X13.here hx rfl (hb hby at_166) rfl ?_
    refine XS.bipush X13.here hx rfl (hb hby at_168) ?_
    refine XS.icmpYes X13.here hx rfl (pc0 := 170) (pc' := 177) rfl (hb hby at_170) rfl (feq hm3).2 (by decide) (by decide) ?_
    refine XS.iconst X13.here hx rfl (hb hby at_177) ?_
    refine XS.istore X13.here hx rfl (hb hby at_178) rfl (l' := #[iv p0, iv p1, iv p2, iv p3, iv p4, iv p5, iv (71 : Int32), iv (73 : Int32), iv (79 : Int32), iv (own_pick p4 (3 : Int32) p3 (80 : Int32)), iv (1 : Int32), rv b0_5, iv (0 : Int32), .unset, .unset]) rfl ?_
    refine XS.aload X13.here hx rfl (hb hby at_180) rfl rfl ?_
    show Steps p.tables e below (T13.setTop (mkF m 182 #[iv p0, iv p1, iv p2, iv p3, iv p4, iv p5, iv (71 : Int32), iv (73 : Int32), iv (79 : Int32), iv (own_pick p4 (3 : Int32) p3 (80 : Int32)), iv (1 : Int32), rv b0_5, iv (0 : Int32), .unset, .unset] [(.ref b0_5)])) _
    refine st14 _ ?_
    refine XS.istore X14.here hx rfl (hb hby at_185) rfl (l' := #[iv p0, iv p1, iv p2, iv p3, iv p4, iv p5, iv (71 : Int32), iv (73 : Int32), iv (79 : Int32), iv (own_pick p4 (3 : Int32) p3 (80 : Int32)), iv (1 : Int32), rv b0_5, iv (0 : Int32), iv (0 : Int32), .unset]) rfl ?_
    refine XS.aload X14.here hx rfl (hb hby at_187) rfl rfl ?_
    refine XS.iconst X14.here hx rfl (hb hby at_189) ?_
    refine X14.baloadBytes hx (j := (0 : Int32)) (v := (.int (71 : Int32))) (by rw [e14]; exact Ar18.1) (State.isArrayOf_alike hZ.alike Ar18.2.1) Ar18.2.2 hin18 (Hs18.at hin18 rfl) (g := (mkF m 190 #[iv p0, iv p1, iv p2, iv p3, iv p4, iv p5, iv (71 : Int32), iv (73 : Int32), iv (79 : Int32), iv (own_pick p4 (3 : Int32) p3 (80 : Int32)), iv (1 : Int32), rv b0_5, iv (0 : Int32), iv (0 : Int32), .unset] [(.int (0 : Int32)), (.ref b0_5)])) rfl rfl (hb hby at_190) _ ?_
    refine XS.iload X14.here hx rfl (hb hby at_191) rfl ?_
    show Steps p.tables e below (T14.setTop (mkF m 193 #[iv p0, iv p1, iv p2, iv p3, iv p4, iv p5, iv (71 : Int32), iv (73 : Int32), iv (79 : Int32), iv (own_pick p4 (3 : Int32) p3 (80 : Int32)), iv (1 : Int32), rv b0_5, iv (0 : Int32), iv (0 : Int32), .unset] [(.int (71 : Int32)), (.int (71 : Int32))])) _
    refine XS.icmpNo X14.here hx rfl (hb hby at_193) rfl (teq (by decide +kernel : (71 : Int32) = (71 : Int32))).2 ?_
    refine XS.aload X14.here hx rfl (hb hby at_196) rfl rfl ?_
    refine XS.iconst X14.here hx rfl (hb hby at_198) ?_
    refine X14.baloadBytes hx (j := (1 : Int32)) (v := (.int (73 : Int32))) (by rw [e14]; exact Ar19.1) (State.isArrayOf_alike hZ.alike Ar19.2.1) Ar19.2.2 hin19 (Hs19.at hin19 rfl) (g := (mkF m 199 #[iv p0, iv p1, iv p2, iv p3, iv p4, iv p5, iv (71 : Int32), iv (73 : Int32), iv (79 : Int32), iv (own_pick p4 (3 : Int32) p3 (80 : Int32)), iv (1 : Int32), rv b0_5, iv (0 : Int32), iv (0 : Int32), .unset] [(.int (1 : Int32)), (.ref b0_5)])) rfl rfl (hb hby at_199) _ ?_
    refine XS.iload X14.here hx rfl (hb hby at_200) rfl ?_
    refine XS.icmpNo X14.here hx rfl (hb hby at_202) rfl (teq (by decide +kernel : (73 : Int32) = (73 : Int32))).2 ?_
    show Steps p.tables e below (T14.setTop (mkF m 205 #[iv p0, iv p1, iv p2, iv p3, iv p4, iv p5, iv (71 : Int32), iv (73 : Int32), iv (79 : Int32), iv (own_pick p4 (3 : Int32) p3 (80 : Int32)), iv (1 : Int32), rv b0_5, iv (0 : Int32), iv (0 : Int32), .unset] [])) _
    refine XS.aload X14.here hx rfl (hb hby at_205) rfl rfl ?_
    refine XS.iconst X14.here hx rfl (hb hby at_207) ?_
    refine X14.baloadBytes hx (j := (2 : Int32)) (v := (.int (79 : Int32))) (by rw [e14]; exact Ar20.1) (State.isArrayOf_alike hZ.alike Ar20.2.1) Ar20.2.2 hin20 (Hs20.at hin20 rfl) (g := (mkF m 208 #[iv p0, iv p1, iv p2, iv p3, iv p4, iv p5, iv (71 : Int32), iv (73 : Int32), iv (79 : Int32), iv (own_pick p4 (3 : Int32) p3 (80 : Int32)), iv (1 : Int32), rv b0_5, iv (0 : Int32), iv (0 : Int32), .unset] [(.int (2 : Int32)), (.ref b0_5)])) rfl rfl (hb hby at_208) _ ?_
    refine XS.iload X14.here hx rfl (hb hby at_209) rfl ?_
    refine XS.icmpNo X14.here hx rfl (hb hby at_211) rfl (teq (by decide +kernel : (79 : Int32) = (79 : Int32))).2 ?_
    refine XS.aload X14.here hx rfl (hb hby at_214) rfl rfl ?_
    show Steps p.tables e below (T14.setTop (mkF m 216 #[iv p0, iv p1, iv p2, iv p3, iv p4, iv p5, iv (71 : Int32), iv (73 : Int32), iv (79 : Int32), iv (own_pick p4 (3 : Int32) p3 (80 : Int32)), iv (1 : Int32), rv b0_5, iv (0 : Int32), iv (0 : Int32), .unset] [(.ref b0_5)])) _
    refine XS.iconst X14.here hx rfl (hb hby at_216) ?_
    refine X14.baloadBytes hx (j := (3 : Int32)) (v := (.int (own_pick p4 (3 : Int32) p3 (80 : Int32)))) (by rw [e14]; exact Ar21.1) (State.isArrayOf_alike hZ.alike Ar21.2.1) Ar21.2.2 hin21 (Hs21.at hin21 rfl) (g := (mkF m 217 #[iv p0, iv p1, iv p2, iv p3, iv p4, iv p5, iv (71 : Int32), iv (73 : Int32), iv (79 : Int32), iv (own_pick p4 (3 : Int32) p3 (80 : Int32)), iv (1 : Int32), rv b0_5, iv (0 : Int32), iv (0 : Int32), .unset] [(.int (3 : Int32)), (.ref b0_5)])) rfl rfl (hb hby at_217) _ ?_
    refine XS.iload X14.here hx rfl (hb hby at_218) rfl ?_
    refine XS.icmpNo X14.here hx rfl (hb hby at_220) rfl (teq (rfl : (own_pick p4 (3 : Int32) p3 (80 : Int32)) = (own_pick p4 (3 : Int32) p3 (80 : Int32)))).2 ?_
    refine XS.iconst X14.here hx rfl (hb hby at_223) ?_
    refine XS.goto X14.here hx rfl (pc0 := 224) (pc' := 228) rfl (hb hby at_224) (by decide) (by decide) ?_
    show Steps p.tables e below (T14.setTop (mkF m 228 #[iv p0, iv p1, iv p2, iv p3, iv p4, iv p5, iv (71 : Int32), iv (73 : Int32), iv (79 : Int32), iv (own_pick p4 (3 : Int32) p3 (80 : Int32)), iv (1 : Int32), rv b0_5, iv (0 : Int32), iv (0 : Int32), .unset] [(.int (1 : Int32))])) _
    refine XS.istore X14.here hx rfl (hb hby at_228) rfl (l' := #[iv p0, iv p1, iv p2, iv p3, iv p4, iv p5, iv (71 : Int32), iv (73 : Int32), iv (79 : Int32), iv (own_pick p4 (3 : Int32) p3 (80 : Int32)), iv (1 : Int32), rv b0_5, iv (0 : Int32), iv (0 : Int32), iv (1 : Int32)]) rfl ?_
    refine XS.iload X14.here hx rfl (hb hby at_230) rfl ?_
    refine XS.iload X14.here hx rfl (hb hby at_232) rfl ?_
    refine XS.icmpNo X14.here hx rfl (hb hby at_234) rfl (teq (by decide +kernel : (0 : Int32) = (0 : Int32))).2 ?_
    refine XS.iload X14.here hx rfl (hb hby at_237) rfl ?_
    refine XS.ifNo X14.here hx rfl (hb hby at_239) rfl ((if0 _ _).trans (feq (by decide +kernel : ¬ ((1 : Int32) = (0 : Int32)))).1) ?_
    show Steps p.tables e below (T14.setTop (mkF m 242 #[iv p0, iv p1, iv p2, iv p3, iv p4, iv p5, iv (71 : Int32), iv (73 : Int32), iv (79 : Int32), iv (own_pick p4 (3 : Int32) p3 (80 : Int32)), iv (1 : Int32), rv b0_5, iv (0 : Int32), iv (0 : Int32), iv (1 : Int32)] [])) _
    refine XS.iconst X14.here hx rfl (hb hby at_242) ?_
    refine XS.goto X14.here hx rfl (pc0 := 243) (pc' := 247) rfl (hb hby at_243) (by decide) (by decide) ?_
    exact retN X14 hx (t := .boolean) Bd.returns (by simp) (hb hby at_247) hr
  · exact ⟨rfl, N14⟩
set_option maxRecDepth 65536 in
set_option maxHeartbeats 40000000 in
theorem rm2_7 (l : Launch) (Z : State) (a0 : Array Value) (hw : ∀ d ∈ tables_1, d.before a0 Z = true) (ws : List Jvm.Cond) (p2 : Int32) (p3 : Int32) (p4 : Int32) (w_Giop_MAGIC : Addr) (k_w_Giop_MAGIC : ClassId) (b0_5 : Addr) (k0_5 : ClassId) (h0 : Heap) (n0 : Nat) (Z0 : n0 ≤ h0.size) (S_Giop_MAGIC : Sta Z h0 "org/driftcairn/giop/Giop" "MAGIC" "[B" (.ref w_Giop_MAGIC)) (V_w_Giop_MAGIC : Arv Z h0 w_Giop_MAGIC k_w_Giop_MAGIC .byte (4 : Int32) [(.int (71 : Int32)), (.int (73 : Int32)), (.int (79 : Int32)), (.int (80 : Int32))] (.int (0 : Int32))) (V_b0_5 : Arv Z h0 b0_5 k0_5 .byte (4 : Int32) [(.int (71 : Int32)), (.int (73 : Int32)), (.int (own_pick p4 (2 : Int32) p2 (79 : Int32))), (.int (own_pick p4 (3 : Int32) p3 (80 : Int32)))] (.int (0 : Int32))) (hm2 : ¬ ((own_pick p4 (2 : Int32) p2 (79 : Int32)) = (79 : Int32))) :
    MetFree l (⟨"org/driftcairn/giop/Giop", "hasMagic", "([B)Z"⟩ : MethodName) (head1 (Jvm.Cond.code (⟨"org/driftcairn/giop/Giop", "hasMagic", "([B)Z"⟩ : MethodName) prog_59_method_2_code 2 (some .boolean) :: ws) ({ frames := 0, cells := 0, slots := 0, locals := 0 } : Room)) (fun a U => a = #[(.ref b0_5)] ∧ Z.Warmed39 U.vm ∧ U.heap = h0) (fun _ _ _ _ _ => True) (fun _ U o U' => ∃ v L, o = .returned v ∧ own_QP (some (.int (0 : Int32))) h0 n0 v U'.heap L ∧ FrameEnd U o U' L ({ frames := 0, cells := 0, slots := 0, locals := 0 } : Room).cells ({ frames := 0, cells := 0, slots := 0, locals := 0 } : Room).slots) := by
  refine MetFree.of_bodySF (plainFor_of_name pn_1) hisR ?_
  intro p e s m args below meth c s₁ Bd hml0 hP hK
  obtain ⟨rfl, hZ, hh⟩ := hP
  have hx := Bd.exec
  have hby := Bd.bytes
  have hml : c.maxLocals = 2 := hml0
  have hown : s.vm.findClass "org/driftcairn/giop/Giop" = some m.cls := findClass_of_methodNamed Bd.named
  have hnm := (name_of_methodNamed Bd.named Bd.method).1
  have X0 : Stand p l e ({ frames := 0, cells := 0, slots := 0, locals := 0 } : Room) s m #[(.ref b0_5)] below meth c s₁ [] 0 0 := Stand.of_body Bd
  have e0 : s₁.heap = h0 := by rw [← hh, Bd.state]; rfl
  have N0 := Fr.nil n0
  have pre0 : ∀ t, Steps p.tables e below (s₁.setTop (mkF m 0 #[rv b0_5, .unset] [])) t → Steps p.tables e below (s₁.setTop (entryFrame m #[(.ref b0_5)] 2)) t := fun t k => castTop (ef_2_R m b0_5) k
  obtain ⟨T1, X1, e1, st1⟩ := getS2 X0 hx hZ hown (host := "") (Or.inl (hw _ (List.mem_of_getElem? (i := 9) rfl))) Via.refl e0 S_Giop_MAGIC (g := (mkF m 3 #[rv b0_5, iv (0 : Int32)] [(.int (0 : Int32))])) rfl (hb hby d2_3)
  obtain ⟨cl2, Ar2, -, Sz2, Nn2, -, -⟩ := id V_w_Giop_MAGIC
  obtain ⟨cl3, Ar3, -, Sz3, Nn3, Hs3, Gs3⟩ := id V_b0_5
  have hin3 : ¬ ((0 : Int32) < 0 ∨ cl3.slots.size ≤ ((0 : Int32)).toNatClampNeg) := inb_of Sz3 ⟨by decide, by decide⟩
  obtain ⟨T4, X4, e4, st4⟩ := getS2 X1 hx hZ hown (host := "") (Or.inl (hw _ (List.mem_of_getElem? (i := 9) rfl))) Via.refl e1 S_Giop_MAGIC (g := (mkF m 13 #[rv b0_5, iv (0 : Int32)] [(.int (71 : Int32))])) rfl (hb hby d2_13)
  obtain ⟨cl5, Ar5, -, Sz5, Nn5, Hs5, Gs5⟩ := id V_w_Giop_MAGIC
  have hin5 : ¬ ((0 : Int32) < 0 ∨ cl5.slots.size ≤ ((0 : Int32)).toNatClampNeg) := inb_of Sz5 ⟨by decide, by decide⟩
  obtain ⟨T6, X6, e6, st6⟩ := getS2 X4 hx hZ hown (host := "") (Or.inl (hw _ (List.mem_of_getElem? (i := 9) rfl))) Via.refl e4 S_Giop_MAGIC (g := (mkF m 3 #[rv b0_5, iv (1 : Int32)] [(.int (1 : Int32))])) rfl (hb hby d2_3)
  obtain ⟨cl7, Ar7, -, Sz7, Nn7, -, -⟩ := id V_w_Giop_MAGIC
  obtain ⟨cl8, Ar8, -, Sz8, Nn8, Hs8, Gs8⟩ := id V_b0_5
  have hin8 : ¬ ((1 : Int32) < 0 ∨ cl8.slots.size ≤ ((1 : Int32)).toNatClampNeg) := inb_of Sz8 ⟨by decide, by decide⟩
  obtain ⟨T9, X9, e9, st9⟩ := getS2 X6 hx hZ hown (host := "") (Or.inl (hw _ (List.mem_of_getElem? (i := 9) rfl))) Via.refl e6 S_Giop_MAGIC (g := (mkF m 13 #[rv b0_5, iv (1 : Int32)] [(.int (73 : Int32))])) rfl (hb hby d2_13)
  obtain ⟨cl10, Ar10, -, Sz10, Nn10, Hs10, Gs10⟩ := id V_w_Giop_MAGIC
  have hin10 : ¬ ((1 : Int32) < 0 ∨ cl10.slots.size ≤ ((1 : Int32)).toNatClampNeg) := inb_of Sz10 ⟨by decide, by decide⟩
  obtain ⟨T11, X11, e11, st11⟩ := getS2 X9 hx hZ hown (host := "") (Or.inl (hw _ (List.mem_of_getElem? (i := 9) rfl))) Via.refl e9 S_Giop_MAGIC (g := (mkF m 3 #[rv b0_5, iv (2 : Int32)] [(.int (2 : Int32))])) rfl (hb hby d2_3)
  obtain ⟨cl12, Ar12, -, Sz12, Nn12, -, -⟩ := id V_w_Giop_MAGIC
  obtain ⟨cl13, Ar13, -, Sz13, Nn13, Hs13, Gs13⟩ := id V_b0_5
  have hin13 : ¬ ((2 : Int32) < 0 ∨ cl13.slots.size ≤ ((2 : Int32)).toNatClampNeg) := inb_of Sz13 ⟨by decide, by decide⟩
  obtain ⟨T14, X14, e14, st14⟩ := getS2 X11 hx hZ hown (host := "") (Or.inl (hw _ (List.mem_of_getElem? (i := 9) rfl))) Via.refl e11 S_Giop_MAGIC (g := (mkF m 13 #[rv b0_5, iv (2 : Int32)] [(.int (own_pick p4 (2 : Int32) p2 (79 : Int32)))])) rfl (hb hby d2_13)
  obtain ⟨cl15, Ar15, -, Sz15, Nn15, Hs15, Gs15⟩ := id V_w_Giop_MAGIC
  have hin15 : ¬ ((2 : Int32) < 0 ∨ cl15.slots.size ≤ ((2 : Int32)).toNatClampNeg) := inb_of Sz15 ⟨by decide, by decide⟩
  obtain ⟨fs, hr, hrun, hended, hW, hsame⟩ := X14.leave (v := (some (.int (0 : Int32)))) (fun h => by rw [Bd.returns] at h; cases h)
  refine ⟨_, _, pre0 _ ?_, hrun, hended, _, _, rfl, ?_, ⟨_, rfl⟩, hW, hsame.mono (by decide) (by decide)⟩
  · show Steps p.tables e below (s₁.setTop (mkF m 0 #[rv b0_5, .unset] [])) _
    refine XS.iconst X0.here hx rfl (hb hby d2_0) ?_
    refine XS.istoreN X0.here hx rfl (hb hby d2_1) rfl (l' := #[rv b0_5, iv (0 : Int32)]) rfl ?_
    refine XS.iloadN X0.here hx rfl (hb hby d2_2) rfl ?_
    refine st1 _ ?_
    refine X1.arraylength hx (by rw [e1]; exact Ar2.1) (State.isArrayOf_alike hZ.alike Ar2.2.1) (g := (mkF m 6 #[rv b0_5, iv (0 : Int32)] [(.ref w_Giop_MAGIC), (.int (0 : Int32))])) rfl rfl (hb hby d2_6) _ ?_
    rw [len_of Sz2 Nn2]
    refine XS.icmpNo X1.here hx rfl (hb hby d2_7) rfl (tlt (by decide +kernel : (0 : Int32) < (4 : Int32))).2.1 ?_
    show Steps p.tables e below (T1.setTop (mkF m 10 #[rv b0_5, iv (0 : Int32)] [])) _
    refine XS.aloadN X1.here hx rfl (hb hby d2_10) rfl rfl ?_
    refine XS.iloadN X1.here hx rfl (hb hby d2_11) rfl ?_
    refine X1.baloadBytes hx (j := (0 : Int32)) (v := (.int (71 : Int32))) (by rw [e1]; exact Ar3.1) (State.isArrayOf_alike hZ.alike Ar3.2.1) Ar3.2.2 hin3 (Hs3.at hin3 rfl) (g := (mkF m 12 #[rv b0_5, iv (0 : Int32)] [(.int (0 : Int32)), (.ref b0_5)])) rfl rfl (hb hby d2_12) _ ?_
    refine st4 _ ?_
    refine XS.iloadN X4.here hx rfl (hb hby d2_16) rfl ?_
    refine X4.baloadBytes hx (j := (0 : Int32)) (v := (.int (71 : Int32))) (by rw [e4]; exact Ar5.1) (State.isArrayOf_alike hZ.alike Ar5.2.1) Ar5.2.2 hin5 (Hs5.at hin5 rfl) (g := (mkF m 17 #[rv b0_5, iv (0 : Int32)] [(.int (0 : Int32)), (.ref w_Giop_MAGIC), (.int (71 : Int32))])) rfl rfl (hb hby d2_17) _ ?_
    show Steps p.tables e below (T4.setTop (mkF m 18 #[rv b0_5, iv (0 : Int32)] [(.int (71 : Int32)), (.int (71 : Int32))])) _
    refine XS.icmpYes X4.here hx rfl (pc0 := 18) (pc' := 23) rfl (hb hby d2_18) rfl (teq (by decide +kernel : (71 : Int32) = (71 : Int32))).1 (by decide) (by decide) ?_
    refine XS.iinc X4.here hx rfl (hb hby d2_23) rfl (l' := #[rv b0_5, iv ((0 : Int32) + (1 : Int32))]) rfl ?_
    show Steps p.tables e below (T4.setTop (mkF m 26 #[rv b0_5, iv ((0 : Int32) + (1 : Int32))] [])) _
    rewrite [show ((0 : Int32) + (1 : Int32)) = (1 : Int32) from by decide +kernel]
    refine XS.goto X4.here hx rfl (pc0 := 26) (pc' := 2) rfl (hb hby d2_26) (by decide) (by decide) ?_
    refine XS.iloadN X4.here hx rfl (hb hby d2_2) rfl ?_
    refine st6 _ ?_
    refine X6.arraylength hx (by rw [e6]; exact Ar7.1) (State.isArrayOf_alike hZ.alike Ar7.2.1) (g := (mkF m 6 #[rv b0_5, iv (1 : Int32)] [(.ref w_Giop_MAGIC), (.int (1 : Int32))])) rfl rfl (hb hby d2_6) _ ?_
    rw [len_of Sz7 Nn7]
    show Steps p.tables e below (T6.setTop (mkF m 7 #[rv b0_5, iv (1 : Int32)] [(.int (4 : Int32)), (.int (1 : Int32))])) _
    refine XS.icmpNo X6.here hx rfl (hb hby d2_7) rfl (tlt (by decide +kernel : (1 : Int32) < (4 : Int32))).2.1 ?_
    refine XS.aloadN X6.here hx rfl (hb hby d2_10) rfl rfl ?_
    refine XS.iloadN X6.here hx rfl (hb hby d2_11) rfl ?_
    refine X6.baloadBytes hx (j := (1 : Int32)) (v := (.int (73 : Int32))) (by rw [e6]; exact Ar8.1) (State.isArrayOf_alike hZ.alike Ar8.2.1) Ar8.2.2 hin8 (Hs8.at hin8 rfl) (g := (mkF m 12 #[rv b0_5, iv (1 : Int32)] [(.int (1 : Int32)), (.ref b0_5)])) rfl rfl (hb hby d2_12) _ ?_
    refine st9 _ ?_
    refine XS.iloadN X9.here hx rfl (hb hby d2_16) rfl ?_
    show Steps p.tables e below (T9.setTop (mkF m 17 #[rv b0_5, iv (1 : Int32)] [(.int (1 : Int32)), (.ref w_Giop_MAGIC), (.int (73 : Int32))])) _
    refine X9.baloadBytes hx (j := (1 : Int32)) (v := (.int (73 : Int32))) (by rw [e9]; exact Ar10.1) (State.isArrayOf_alike hZ.alike Ar10.2.1) Ar10.2.2 hin10 (Hs10.at hin10 rfl) (g := (mkF m 17 #[rv b0_5, iv (1 : Int32)] [(.int (1 : Int32)), (.ref w_Giop_MAGIC), (.int (73 : Int32))])) rfl rfl (hb hby d2_17) _ ?_
    refine XS.icmpYes X9.here hx rfl (pc0 := 18) (pc' := 23) rfl (hb hby d2_18) rfl (teq (by decide +kernel : (73 : Int32) = (73 : Int32))).1 (by decide) (by decide) ?_
    refine XS.iinc X9.here hx rfl (hb hby d2_23) rfl (l' := #[rv b0_5, iv ((1 : Int32) + (1 : Int32))]) rfl ?_
    show Steps p.tables e below (T9.setTop (mkF m 26 #[rv b0_5, iv ((1 : Int32) + (1 : Int32))] [])) _
    rewrite [show ((1 : Int32) + (1 : Int32)) = (2 : Int32) from by decide +kernel]
    refine XS.goto X9.here hx rfl (pc0 := 26) (pc' := 2) rfl (hb hby d2_26) (by decide) (by decide) ?_
    refine XS.iloadN X9.here hx rfl (hb hby d2_2) rfl ?_
    refine st11 _ ?_
    show Steps p.tables e below (T11.setTop (mkF m 6 #[rv b0_5, iv (2 : Int32)] [(.ref w_Giop_MAGIC), (.int (2 : Int32))])) _
    refine X11.arraylength hx (by rw [e11]; exact Ar12.1) (State.isArrayOf_alike hZ.alike Ar12.2.1) (g := (mkF m 6 #[rv b0_5, iv (2 : Int32)] [(.ref w_Giop_MAGIC), (.int (2 : Int32))])) rfl rfl (hb hby d2_6) _ ?_
    rw [len_of Sz12 Nn12]
    refine XS.icmpNo X11.here hx rfl (hb hby d2_7) rfl (tlt (by decide +kernel : (2 : Int32) < (4 : Int32))).2.1 ?_
    refine XS.aloadN X11.here hx rfl (hb hby d2_10) rfl rfl ?_
    refine XS.iloadN X11.here hx rfl (hb hby d2_11) rfl ?_
    refine X11.baloadBytes hx (j := (2 : Int32)) (v := (.int (own_pick p4 (2 : Int32) p2 (79 : Int32)))) (by rw [e11]; exact Ar13.1) (State.isArrayOf_alike hZ.alike Ar13.2.1) Ar13.2.2 hin13 (Hs13.at hin13 rfl) (g := (mkF m 12 #[rv b0_5, iv (2 : Int32)] [(.int (2 : Int32)), (.ref b0_5)])) rfl rfl (hb hby d2_12) _ ?_
    refine st14 _ ?_
    show Steps p.tables e below (T14.setTop (mkF m 16 #[rv b0_5, iv (2 : Int32)] [(.ref w_Giop_MAGIC), (.int (own_pick p4 (2 : Int32) p2 (79 : Int32)))])) _
    refine XS.iloadN X14.here hx rfl (hb hby d2_16) rfl ?_
    refine X14.baloadBytes hx (j := (2 : Int32)) (v := (.int (79 : Int32))) (by rw [e14]; exact Ar15.1) (State.isArrayOf_alike hZ.alike Ar15.2.1) Ar15.2.2 hin15 (Hs15.at hin15 rfl) (g := (mkF m 17 #[rv b0_5, iv (2 : Int32)] [(.int (2 : Int32)), (.ref w_Giop_MAGIC), (.int (own_pick p4 (2 : Int32) p2 (79 : Int32)))])) rfl rfl (hb hby d2_17) _ ?_
    refine XS.icmpNo X14.here hx rfl (hb hby d2_18) rfl (feq hm2).1 ?_
    refine XS.iconst X14.here hx rfl (hb hby d2_21) ?_
    exact retN X14 hx (t := .boolean) Bd.returns (by simp) (hb hby d2_22) hr
  · exact ⟨rfl, N0, e14⟩
set_option maxRecDepth 65536 in
set_option maxHeartbeats 40000000 in
theorem rm0_7 (l : Launch) (Z : State) (a0 : Array Value) (hw : ∀ d ∈ tables_1, d.before a0 Z = true) (ws : List Jvm.Cond) (p0 : Int32) (p1 : Int32) (p2 : Int32) (p3 : Int32) (p4 : Int32) (p5 : Int32) (w_Giop_MAGIC : Addr) (k_w_Giop_MAGIC : ClassId) (h0 : Heap) (n0 : Nat) (Z0 : n0 ≤ h0.size) (hm0 : (own_pick p4 (0 : Int32) p0 (71 : Int32)) = (71 : Int32)) (hm1 : (own_pick p4 (1 : Int32) p1 (73 : Int32)) = (73 : Int32)) (hs : (((p4.toUInt32 >>> ((4 : Int32) &&& 31).toUInt32).toInt32) &&& (1 : Int32)) = (1 : Int32)) (hm2 : ¬ ((own_pick p4 (2 : Int32) p2 (79 : Int32)) = (79 : Int32))) (S_Giop_MAGIC : Sta Z h0 "org/driftcairn/giop/Giop" "MAGIC" "[B" (.ref w_Giop_MAGIC)) (V_w_Giop_MAGIC : Arv Z h0 w_Giop_MAGIC k_w_Giop_MAGIC .byte (4 : Int32) [(.int (71 : Int32)), (.int (73 : Int32)), (.int (79 : Int32)), (.int (80 : Int32))] (.int (0 : Int32))) :
    MetFree l x (head1 (Jvm.Cond.code x code maxLocals ret :: ws) room_1) (fun a U => a = #[(.int p0), (.int p1), (.int p2), (.int p3), (.int p4), (.int p5)] ∧ Z.Warmed39 U.vm ∧ U.heap = h0) (fun _ _ _ _ _ => True) (fun _ U o U' => ∃ v L, o = .returned v ∧ own_QL n0 v U'.heap L ∧ FrameEnd U o U' L room_1.cells room_1.slots) := by
  refine MetFree.of_bodySF (plainFor_of_name pn_0) hisR ?_
  intro p e s m args below meth c s₁ Bd hml0 hP hK
  obtain ⟨rfl, hZ, hh⟩ := hP
  have hx := Bd.exec
  have hby := Bd.bytes
  have hml : c.maxLocals = 15 := hml0
  have hown : s.vm.findClass "org/driftcairn/giop/GiopHasMagicPinLaw" = some m.cls := findClass_of_methodNamed Bd.named
  have hnm := (name_of_methodNamed Bd.named Bd.method).1
  have X0 : Stand p l e room_1 s m #[(.int p0), (.int p1), (.int p2), (.int p3), (.int p4), (.int p5)] below meth c s₁ [] 0 0 := Stand.of_body Bd
  have e0 : s₁.heap = h0 := by rw [← hh, Bd.state]; rfl
  have N0 := Fr.nil n0
  have pre0 : ∀ t, Steps p.tables e below (s₁.setTop (mkF m 0 #[iv p0, iv p1, iv p2, iv p3, iv p4, iv p5, .unset, .unset, .unset, .unset, .unset, .unset, .unset, .unset, .unset] [])) t → Steps p.tables e below (s₁.setTop (entryFrame m #[(.int p0), (.int p1), (.int p2), (.int p3), (.int p4), (.int p5)] maxLocals)) t := fun t k => castTop (ef_0_IIIIII m p0 p1 p2 p3 p4 p5) k
  obtain ⟨_, _, ⟨T1, L1, k1, n1⟩, -, X1, ⟨Lc1, hQ1, l1, y1, z1⟩, st1⟩ := Jvm.LawKit.callS X0 hx (y := (⟨"org/driftcairn/giop/GiopHasMagicPinLaw", "pick", "(IIIC)B"⟩ : MethodName)) hown (mvT hZ (hw _ (List.mem_of_getElem? (i := 0) rfl))) (mvT hZ (hw _ (List.mem_of_getElem? (i := 1) rfl))) (mvT hZ (hw _ (List.mem_of_getElem? (i := 2) rfl))) (mvT hZ (hw _ (List.mem_of_getElem? (i := 3) rfl))) (by decide) (backOf (W := 0) (rk_pick l Z a0 hw [] p4 (0 : Int32) p0 (71 : Int32) h0 n0 Z0 ) hZ (hw _ (List.mem_of_getElem? (i := 3) rfl)) (hw _ (List.mem_of_getElem? (i := 2) rfl)) (by decide) (by decide)) (g := (mkF m 6 #[iv p0, iv p1, iv p2, iv p3, iv p4, iv p5, .unset, .unset, .unset, .unset, .unset, .unset, .unset, .unset, .unset] [(.int (71 : Int32)), (.int p0), (.int (0 : Int32)), (.int p4)])) rfl (by rw [hml]; rfl) (argsL := [(.int p4), (.int (0 : Int32)), (.int p0), (.int (71 : Int32))]) (rest := []) (lenOf pd_0 rfl) rfl (by show 2 * 0 + _ ≤ _; exact Nat.le_of_eq rfl) (hb hby at_6) (fun _ _ => ⟨rfl, e0, (by decide : 0 + 0 ≤ _), (by decide : 0 + 0 ≤ _)⟩)
  dsimp only [Pt.U, Pt.locs, Pt.cells, Pt.slots] at X1 l1 y1 z1 st1 hQ1
  subst l1 y1 z1
  obtain ⟨rfl, N1q, e1⟩ := hQ1
  have N1 := Fr.app N0 N1q
  obtain ⟨_, _, ⟨T2, L2, k2, n2⟩, -, X2, ⟨Lc2, hQ2, l2, y2, z2⟩, st2⟩ := Jvm.LawKit.callS X1 hx (y := (⟨"org/driftcairn/giop/GiopHasMagicPinLaw", "pick", "(IIIC)B"⟩ : MethodName)) hown (mvT hZ (hw _ (List.mem_of_getElem? (i := 0) rfl))) (mvT hZ (hw _ (List.mem_of_getElem? (i := 1) rfl))) (mvT hZ (hw _ (List.mem_of_getElem? (i := 2) rfl))) (mvT hZ (hw _ (List.mem_of_getElem? (i := 3) rfl))) (by decide) (backOf (W := 0) (rk_pick l Z a0 hw [] p4 (1 : Int32) p1 (73 : Int32) h0 n0 Z0 ) hZ (hw _ (List.mem_of_getElem? (i := 3) rfl)) (hw _ (List.mem_of_getElem? (i := 2) rfl)) (by decide) (by decide)) (g := (mkF m 17 #[iv p0, iv p1, iv p2, iv p3, iv p4, iv p5, iv (71 : Int32), .unset, .unset, .unset, .unset, .unset, .unset, .unset, .unset] [(.int (73 : Int32)), (.int p1), (.int (1 : Int32)), (.int p4)])) rfl (by rw [hml]; rfl) (argsL := [(.int p4), (.int (1 : Int32)), (.int p1), (.int (73 : Int32))]) (rest := []) (lenOf pd_0 rfl) rfl (by show 2 * 0 + _ ≤ _; exact Nat.le_of_eq rfl) (hb hby at_17) (fun _ _ => ⟨rfl, e1, (by decide : 0 + 0 ≤ _), (by decide : 0 + 0 ≤ _)⟩)
  dsimp only [Pt.U, Pt.locs, Pt.cells, Pt.slots] at X2 l2 y2 z2 st2 hQ2
  subst l2 y2 z2
  obtain ⟨rfl, N2q, e2⟩ := hQ2
  have N2 := Fr.app N1 N2q
  obtain ⟨_, _, ⟨T3, L3, k3, n3⟩, -, X3, ⟨Lc3, hQ3, l3, y3, z3⟩, st3⟩ := Jvm.LawKit.callS X2 hx (y := (⟨"org/driftcairn/giop/GiopHasMagicPinLaw", "pick", "(IIIC)B"⟩ : MethodName)) hown (mvT hZ (hw _ (List.mem_of_getElem? (i := 0) rfl))) (mvT hZ (hw _ (List.mem_of_getElem? (i := 1) rfl))) (mvT hZ (hw _ (List.mem_of_getElem? (i := 2) rfl))) (mvT hZ (hw _ (List.mem_of_getElem? (i := 3) rfl))) (by decide) (backOf (W := 0) (rk_pick l Z a0 hw [] p4 (2 : Int32) p2 (79 : Int32) h0 n0 Z0 ) hZ (hw _ (List.mem_of_getElem? (i := 3) rfl)) (hw _ (List.mem_of_getElem? (i := 2) rfl)) (by decide) (by decide)) (g := (mkF m 28 #[iv p0, iv p1, iv p2, iv p3, iv p4, iv p5, iv (71 : Int32), iv (73 : Int32), .unset, .unset, .unset, .unset, .unset, .unset, .unset] [(.int (79 : Int32)), (.int p2), (.int (2 : Int32)), (.int p4)])) rfl (by rw [hml]; rfl) (argsL := [(.int p4), (.int (2 : Int32)), (.int p2), (.int (79 : Int32))]) (rest := []) (lenOf pd_0 rfl) rfl (by show 2 * 0 + _ ≤ _; exact Nat.le_of_eq rfl) (hb hby at_28) (fun _ _ => ⟨rfl, e2, (by decide : 0 + 0 ≤ _), (by decide : 0 + 0 ≤ _)⟩)
  dsimp only [Pt.U, Pt.locs, Pt.cells, Pt.slots] at X3 l3 y3 z3 st3 hQ3
  subst l3 y3 z3
  obtain ⟨rfl, N3q, e3⟩ := hQ3
  have N3 := Fr.app N2 N3q
  obtain ⟨_, _, ⟨T4, L4, k4, n4⟩, -, X4, ⟨Lc4, hQ4, l4, y4, z4⟩, st4⟩ := Jvm.LawKit.callS X3 hx (y := (⟨"org/driftcairn/giop/GiopHasMagicPinLaw", "pick", "(IIIC)B"⟩ : MethodName)) hown (mvT hZ (hw _ (List.mem_of_getElem? (i := 0) rfl))) (mvT hZ (hw _ (List.mem_of_getElem? (i := 1) rfl))) (mvT hZ (hw _ (List.mem_of_getElem? (i := 2) rfl))) (mvT hZ (hw _ (List.mem_of_getElem? (i := 3) rfl))) (by decide) (backOf (W := 0) (rk_pick l Z a0 hw [] p4 (3 : Int32) p3 (80 : Int32) h0 n0 Z0 ) hZ (hw _ (List.mem_of_getElem? (i := 3) rfl)) (hw _ (List.mem_of_getElem? (i := 2) rfl)) (by decide) (by decide)) (g := (mkF m 39 #[iv p0, iv p1, iv p2, iv p3, iv p4, iv p5, iv (71 : Int32), iv (73 : Int32), iv (own_pick p4 (2 : Int32) p2 (79 : Int32)), .unset, .unset, .unset, .unset, .unset, .unset] [(.int (80 : Int32)), (.int p3), (.int (3 : Int32)), (.int p4)])) rfl (by rw [hml]; rfl) (argsL := [(.int p4), (.int (3 : Int32)), (.int p3), (.int (80 : Int32))]) (rest := []) (lenOf pd_0 rfl) rfl (by show 2 * 0 + _ ≤ _; exact Nat.le_of_eq rfl) (hb hby at_39) (fun _ _ => ⟨rfl, e3, (by decide : 0 + 0 ≤ _), (by decide : 0 + 0 ≤ _)⟩)
  dsimp only [Pt.U, Pt.locs, Pt.cells, Pt.slots] at X4 l4 y4 z4 st4 hQ4
  subst l4 y4 z4
  obtain ⟨rfl, N4q, e4⟩ := hQ4
  have N4 := Fr.app N3 N4q
  obtain ⟨T5, h5, k0_5, X5, e5, E5, A5, st5⟩ := newP X4 hx hZ (hw _ (List.mem_of_getElem? (i := 4) rfl)) e4 (g := (mkF m 66 #[iv p0, iv p1, iv p2, iv p3, iv p4, iv p5, iv (71 : Int32), iv (73 : Int32), iv (own_pick p4 (2 : Int32) p2 (79 : Int32)), iv (own_pick p4 (3 : Int32) p3 (80 : Int32)), iv (1 : Int32), .unset, .unset, .unset, .unset] [(.int (4 : Int32))])) rfl (hb hby at_66) rfl (by decide) (cap := 4) (by decide) (by decide) (by decide) (by decide)
  obtain ⟨b0_5, gg5⟩ : ∃ z, z = h0.size := ⟨_, rfl⟩
  rw [← gg5] at A5 st5
  have g_b0_5 : n0 ≤ b0_5 := Nat.le_trans Z0 (Nat.le_of_eq gg5.symm)
  have sz_b0_5 : h0.size ≤ b0_5 := Nat.le_trans (Keep.refl h0 []).1 (Nat.le_of_eq gg5.symm)
  have Z5 : n0 ≤ h5.size := Nat.le_trans Z0 E5.1
  have KK5 : Keep h0 h5 [] := (Keep.refl h0 []).ext E5
  have V_b0_5 : Arv Z h5 b0_5 k0_5 .byte (4 : Int32) [(.int (0 : Int32)), (.int (0 : Int32)), (.int (0 : Int32)), (.int (0 : Int32))] (.int (0 : Int32)) := (Arv.new A5 (by decide)).pad (pad_rep [] (.int (0 : Int32)) 4)
  obtain ⟨cl6, Ar6, qq6, Sz6, Nn6, Hs6, Gs6⟩ := id V_b0_5
  have hin6 : ¬ ((0 : Int32) < 0 ∨ cl6.slots.size ≤ ((0 : Int32)).toNatClampNeg) := inb_of Sz6 ⟨by decide, by decide⟩
  obtain ⟨T7, h7, X7, e7, W7, st7⟩ := stB X5 hx hZ e5 Ar6 (j := (0 : Int32)) hin6 (g := (mkF m 82 #[iv p0, iv p1, iv p2, iv p3, iv p4, iv p5, iv (71 : Int32), iv (73 : Int32), iv (own_pick p4 (2 : Int32) p2 (79 : Int32)), iv (own_pick p4 (3 : Int32) p3 (80 : Int32)), iv (1 : Int32), rv b0_5, .unset, .unset, .unset] [(.int (71 : Int32)), (.int (0 : Int32)), (.ref b0_5)])) rfl rfl (hb hby at_82)
  have va7 := Arv.set Ar6 qq6 Sz6 Nn6 Hs6 Gs6 (fits_nar_byte _) W7 0 rfl (Nat.le_of_ble_eq_true rfl)
  have vb7 : Arv Z h7 b0_5 k0_5 .byte (4 : Int32) [(.int (71 : Int32)), (.int (0 : Int32)), (.int (0 : Int32)), (.int (0 : Int32))] (.int (0 : Int32)) := va7
  have Z7 : n0 ≤ h7.size := Nat.le_trans Z5 (Keep.of_wr W7).1
  have KK7 : Keep h0 h7 [] := KK5.wr W7 (Or.inr sz_b0_5)
  have N7 := Fr.snoc X7 N4 g_b0_5
  obtain ⟨cl8, Ar8, qq8, Sz8, Nn8, Hs8, Gs8⟩ := id vb7
  have hin8 : ¬ ((1 : Int32) < 0 ∨ cl8.slots.size ≤ ((1 : Int32)).toNatClampNeg) := inb_of Sz8 ⟨by decide, by decide⟩
  obtain ⟨T9, h9, X9, e9, W9, st9⟩ := stB X7 hx hZ e7 Ar8 (j := (1 : Int32)) hin8 (g := (mkF m 88 #[iv p0, iv p1, iv p2, iv p3, iv p4, iv p5, iv (71 : Int32), iv (73 : Int32), iv (own_pick p4 (2 : Int32) p2 (79 : Int32)), iv (own_pick p4 (3 : Int32) p3 (80 : Int32)), iv (1 : Int32), rv b0_5, .unset, .unset, .unset] [(.int (73 : Int32)), (.int (1 : Int32)), (.ref b0_5)])) rfl rfl (hb hby at_88)
  have va9 := Arv.set Ar8 qq8 Sz8 Nn8 Hs8 Gs8 (fits_nar_byte _) W9 1 rfl (Nat.le_of_ble_eq_true rfl)
  have vb9 : Arv Z h9 b0_5 k0_5 .byte (4 : Int32) [(.int (71 : Int32)), (.int (73 : Int32)), (.int (0 : Int32)), (.int (0 : Int32))] (.int (0 : Int32)) := va9
  have Z9 : n0 ≤ h9.size := Nat.le_trans Z7 (Keep.of_wr W9).1
  have KK9 : Keep h0 h9 [] := KK7.wr W9 (Or.inr sz_b0_5)
  have N9 := Fr.snoc X9 N7 g_b0_5
  obtain ⟨cl10, Ar10, qq10, Sz10, Nn10, Hs10, Gs10⟩ := id vb9
  have hin10 : ¬ ((2 : Int32) < 0 ∨ cl10.slots.size ≤ ((2 : Int32)).toNatClampNeg) := inb_of Sz10 ⟨by decide, by decide⟩
  obtain ⟨T11, h11, X11, e11, W11, st11⟩ := stB X9 hx hZ e9 Ar10 (j := (2 : Int32)) hin10 (g := (mkF m 94 #[iv p0, iv p1, iv p2, iv p3, iv p4, iv p5, iv (71 : Int32), iv (73 : Int32), iv (own_pick p4 (2 : Int32) p2 (79 : Int32)), iv (own_pick p4 (3 : Int32) p3 (80 : Int32)), iv (1 : Int32), rv b0_5, .unset, .unset, .unset] [(.int (own_pick p4 (2 : Int32) p2 (79 : Int32))), (.int (2 : Int32)), (.ref b0_5)])) rfl rfl (hb hby at_94)
  have va11 := Arv.set Ar10 qq10 Sz10 Nn10 Hs10 Gs10 (fits_nar_byte _) W11 2 rfl (Nat.le_of_ble_eq_true rfl)
  have vb11 : Arv Z h11 b0_5 k0_5 .byte (4 : Int32) [(.int (71 : Int32)), (.int (73 : Int32)), (.int (own_pick p4 (2 : Int32) p2 (79 : Int32))), (.int (0 : Int32))] (.int (0 : Int32)) := by have t := va11; have q : ((own_pick p4 (2 : Int32) p2 (79 : Int32))).toInt8.toInt32 = (own_pick p4 (2 : Int32) p2 (79 : Int32)) := (own_pick_b _ _ _ _); rw [q] at t; exact t
  have Z11 : n0 ≤ h11.size := Nat.le_trans Z9 (Keep.of_wr W11).1
  have KK11 : Keep h0 h11 [] := KK9.wr W11 (Or.inr sz_b0_5)
  have N11 := Fr.snoc X11 N9 g_b0_5
  obtain ⟨cl12, Ar12, qq12, Sz12, Nn12, Hs12, Gs12⟩ := id vb11
  have hin12 : ¬ ((3 : Int32) < 0 ∨ cl12.slots.size ≤ ((3 : Int32)).toNatClampNeg) := inb_of Sz12 ⟨by decide, by decide⟩
  obtain ⟨T13, h13, X13, e13, W13, st13⟩ := stB X11 hx hZ e11 Ar12 (j := (3 : Int32)) hin12 (g := (mkF m 100 #[iv p0, iv p1, iv p2, iv p3, iv p4, iv p5, iv (71 : Int32), iv (73 : Int32), iv (own_pick p4 (2 : Int32) p2 (79 : Int32)), iv (own_pick p4 (3 : Int32) p3 (80 : Int32)), iv (1 : Int32), rv b0_5, .unset, .unset, .unset] [(.int (own_pick p4 (3 : Int32) p3 (80 : Int32))), (.int (3 : Int32)), (.ref b0_5)])) rfl rfl (hb hby at_100)
  have va13 := Arv.set Ar12 qq12 Sz12 Nn12 Hs12 Gs12 (fits_nar_byte _) W13 3 rfl (Nat.le_of_ble_eq_true rfl)
  have vb13 : Arv Z h13 b0_5 k0_5 .byte (4 : Int32) [(.int (71 : Int32)), (.int (73 : Int32)), (.int (own_pick p4 (2 : Int32) p2 (79 : Int32))), (.int (own_pick p4 (3 : Int32) p3 (80 : Int32)))] (.int (0 : Int32)) := by have t := va13; have q : ((own_pick p4 (3 : Int32) p3 (80 : Int32))).toInt8.toInt32 = (own_pick p4 (3 : Int32) p3 (80 : Int32)) := (own_pick_b _ _ _ _); rw [q] at t; exact t
  have Z13 : n0 ≤ h13.size := Nat.le_trans Z11 (Keep.of_wr W13).1
  have KK13 : Keep h0 h13 [] := KK11.wr W13 (Or.inr sz_b0_5)
  have N13 := Fr.snoc X13 N11 g_b0_5
  have c15 := (((((S_Giop_MAGIC.ext E5).wr W7).wr W9).wr W11).wr W13)
  have ne_b0_5_w_Giop_MAGIC_16 : ¬ (b0_5 = w_Giop_MAGIC) := (Ne.symm (Nat.ne_of_lt (Nat.lt_of_lt_of_le (V_w_Giop_MAGIC).lt (Nat.le_of_eq gg5.symm))))
  have c17 := (((((V_w_Giop_MAGIC.ext E5).other W7 (Ne.symm ne_b0_5_w_Giop_MAGIC_16)).other W9 (Ne.symm ne_b0_5_w_Giop_MAGIC_16)).other W11 (Ne.symm ne_b0_5_w_Giop_MAGIC_16)).other W13 (Ne.symm ne_b0_5_w_Giop_MAGIC_16))
  obtain ⟨_, _, ⟨T14, L14, k14, n14⟩, -, X14, ⟨Lc14, hQ14, l14, y14, z14⟩, st14⟩ := Jvm.LawKit.callS X13 hx (y := (⟨"org/driftcairn/giop/Giop", "hasMagic", "([B)Z"⟩ : MethodName)) hown (mvT hZ (hw _ (List.mem_of_getElem? (i := 5) rfl))) (mvT hZ (hw _ (List.mem_of_getElem? (i := 6) rfl))) (mvT hZ (hw _ (List.mem_of_getElem? (i := 7) rfl))) (mvT hZ (hw _ (List.mem_of_getElem? (i := 8) rfl))) (by decide) (backOf (W := 0) (rm2_7 l Z a0 hw [] p2 p3 p4 w_Giop_MAGIC k_w_Giop_MAGIC b0_5 k0_5 h13 n0 Z13 c15 c17 vb13 hm2) hZ (hw _ (List.mem_of_getElem? (i := 8) rfl)) (hw _ (List.mem_of_getElem? (i := 7) rfl)) (by decide) (by decide)) (g := (mkF m 182 #[iv p0, iv p1, iv p2, iv p3, iv p4, iv p5, iv (71 : Int32), iv (73 : Int32), iv (own_pick p4 (2 : Int32) p2 (79 : Int32)), iv (own_pick p4 (3 : Int32) p3 (80 : Int32)), iv (1 : Int32), rv b0_5, iv (0 : Int32), .unset, .unset] [(.ref b0_5)])) rfl (by rw [hml]; rfl) (argsL := [(.ref b0_5)]) (rest := []) (lenOf pd_1 rfl) rfl (by show 2 * 0 + _ ≤ _; exact Nat.le_of_eq rfl) (hb hby at_182) (fun _ _ => ⟨rfl, e13, (by decide : 1 + 0 ≤ _), (by decide : 4 + 0 ≤ _)⟩)
  dsimp only [Pt.U, Pt.locs, Pt.cells, Pt.slots] at X14 l14 y14 z14 st14 hQ14
  subst l14 y14 z14
  obtain ⟨rfl, N14q, e14⟩ := hQ14
  have N14 := Fr.app N13 N14q
  obtain ⟨cl18, Ar18, -, Sz18, Nn18, Hs18, Gs18⟩ := id vb13
  have hin18 : ¬ ((0 : Int32) < 0 ∨ cl18.slots.size ≤ ((0 : Int32)).toNatClampNeg) := inb_of Sz18 ⟨by decide, by decide⟩
  obtain ⟨cl19, Ar19, -, Sz19, Nn19, Hs19, Gs19⟩ := id vb13
  have hin19 : ¬ ((1 : Int32) < 0 ∨ cl19.slots.size ≤ ((1 : Int32)).toNatClampNeg) := inb_of Sz19 ⟨by decide, by decide⟩
  obtain ⟨cl20, Ar20, -, Sz20, Nn20, Hs20, Gs20⟩ := id vb13
  have hin20 : ¬ ((2 : Int32) < 0 ∨ cl20.slots.size ≤ ((2 : Int32)).toNatClampNeg) := inb_of Sz20 ⟨by decide, by decide⟩
  obtain ⟨cl21, Ar21, -, Sz21, Nn21, Hs21, Gs21⟩ := id vb13
  have hin21 : ¬ ((3 : Int32) < 0 ∨ cl21.slots.size ≤ ((3 : Int32)).toNatClampNeg) := inb_of Sz21 ⟨by decide, by decide⟩
  obtain ⟨fs, hr, hrun, hended, hW, hsame⟩ := X14.leave (v := (some (.int (1 : Int32)))) (fun h => by rw [Bd.returns] at h; cases h)
  refine ⟨_, _, pre0 _ ?_, hrun, hended, _, _, rfl, ?_, ⟨_, rfl⟩, hW, hsame.mono (by decide) (by decide)⟩
  · show Steps p.tables e below (s₁.setTop (mkF m 0 #[iv p0, iv p1, iv p2, iv p3, iv p4, iv p5, .unset, .unset, .unset, .unset, .unset, .unset, .unset, .unset, .unset] [])) _
    refine XS.iload X0.here hx rfl (hb hby at_0) rfl ?_
    refine XS.iconst X0.here hx rfl (hb hby at_2) ?_
    refine XS.iloadN X0.here hx rfl (hb hby at_3) rfl ?_
    refine XS.bipush X0.here hx rfl (hb hby at_4) ?_
    refine st1 _ ?_
    show Steps p.tables e below (T1.setTop (mkF m 9 #[iv p0, iv p1, iv p2, iv p3, iv p4, iv p5, .unset, .unset, .unset, .unset, .unset, .unset, .unset, .unset, .unset] [(.int (own_pick p4 (0 : Int32) p0 (71 : Int32)))])) _
    rewrite [hm0]
    refine XS.istore X1.here hx rfl (hb hby at_9) rfl (l' := #[iv p0, iv p1, iv p2, iv p3, iv p4, iv p5, iv (71 : Int32), .unset, .unset, .unset, .unset, .unset, .unset, .unset, .unset]) rfl ?_
    show Steps p.tables e below (T1.setTop (mkF m 11 #[iv p0, iv p1, iv p2, iv p3, iv p4, iv p5, iv (71 : Int32), .unset, .unset, .unset, .unset, .unset, .unset, .unset, .unset] [])) _
    refine XS.iload X1.here hx rfl (hb hby at_11) rfl ?_
    refine XS.iconst X1.here hx rfl (hb hby at_13) ?_
    refine XS.iloadN X1.here hx rfl (hb hby at_14) rfl ?_
    refine XS.bipush X1.here hx rfl (hb hby at_15) ?_
    refine st2 _ ?_
    show Steps p.tables e below (T2.setTop (mkF m 20 #[iv p0, iv p1, iv p2, iv p3, iv p4, iv p5, iv (71 : Int32), .unset, .unset, .unset, .unset, .unset, .unset, .unset, .unset] [(.int (own_pick p4 (1 : Int32) p1 (73 : Int32)))])) _
    rewrite [hm1]
    refine XS.istore X2.here hx rfl (hb hby at_20) rfl (l' := #[iv p0, iv p1, iv p2, iv p3, iv p4, iv p5, iv (71 : Int32), iv (73 : Int32), .unset, .unset, .unset, .unset, .unset, .unset, .unset]) rfl ?_
    show Steps p.tables e below (T2.setTop (mkF m 22 #[iv p0, iv p1, iv p2, iv p3, iv p4, iv p5, iv (71 : Int32), iv (73 : Int32), .unset, .unset, .unset, .unset, .unset, .unset, .unset] [])) _
    refine XS.iload X2.here hx rfl (hb hby at_22) rfl ?_
    refine XS.iconst X2.here hx rfl (hb hby at_24) ?_
    refine XS.iloadN X2.here hx rfl (hb hby at_25) rfl ?_
    refine XS.bipush X2.here hx rfl (hb hby at_26) ?_
    refine st3 _ ?_
    refine XS.istore X3.here hx rfl (hb hby at_31) rfl (l' := #[iv p0, iv p1, iv p2, iv p3, iv p4, iv p5, iv (71 : Int32), iv (73 : Int32), iv (own_pick p4 (2 : Int32) p2 (79 : Int32)), .unset, .unset, .unset, .unset, .unset, .unset]) rfl ?_
    show Steps p.tables e below (T3.setTop (mkF m 33 #[iv p0, iv p1, iv p2, iv p3, iv p4, iv p5, iv (71 : Int32), iv (73 : Int32), iv (own_pick p4 (2 : Int32) p2 (79 : Int32)), .unset, .unset, .unset, .unset, .unset, .unset] [])) _
    refine XS.iload X3.here hx rfl (hb hby at_33) rfl ?_
    refine XS.iconst X3.here hx rfl (hb hby at_35) ?_
    refine XS.iloadN X3.here hx rfl (hb hby at_36) rfl ?_
    refine XS.bipush X3.here hx rfl (hb hby at_37) ?_
    refine st4 _ ?_
    refine XS.istore X4.here hx rfl (hb hby at_42) rfl (l' := #[iv p0, iv p1, iv p2, iv p3, iv p4, iv p5, iv (71 : Int32), iv (73 : Int32), iv (own_pick p4 (2 : Int32) p2 (79 : Int32)), iv (own_pick p4 (3 : Int32) p3 (80 : Int32)), .unset, .unset, .unset, .unset, .unset]) rfl ?_
    show Steps p.tables e below (T4.setTop (mkF m 44 #[iv p0, iv p1, iv p2, iv p3, iv p4, iv p5, iv (71 : Int32), iv (73 : Int32), iv (own_pick p4 (2 : Int32) p2 (79 : Int32)), iv (own_pick p4 (3 : Int32) p3 (80 : Int32)), .unset, .unset, .unset, .unset, .unset] [])) _
    refine XS.iload X4.here hx rfl (hb hby at_44) rfl ?_
    refine XS.iconst X4.here hx rfl (hb hby at_46) ?_
    refine XS.iushr X4.here hx rfl (hb hby at_47) rfl ?_
    refine XS.iconst X4.here hx rfl (hb hby at_48) ?_
    refine XS.iand X4.here hx rfl (hb hby at_49) rfl ?_
    show Steps p.tables e below (T4.setTop (mkF m 50 #[iv p0, iv p1, iv p2, iv p3, iv p4, iv p5, iv (71 : Int32), iv (73 : Int32), iv (own_pick p4 (2 : Int32) p2 (79 : Int32)), iv (own_pick p4 (3 : Int32) p3 (80 : Int32)), .unset, .unset, .unset, .unset, .unset] [(.int (((p4.toUInt32 >>> ((4 : Int32) &&& 31).toUInt32).toInt32) &&& (1 : Int32)))])) _
    rewrite [hs]
    refine XS.ifNo X4.here hx rfl (hb hby at_50) rfl ((if0 _ _).trans (feq (by decide +kernel : ¬ ((1 : Int32) = (0 : Int32)))).1) ?_
    show Steps p.tables e below (T4.setTop (mkF m 53 #[iv p0, iv p1, iv p2, iv p3, iv p4, iv p5, iv (71 : Int32), iv (73 : Int32), iv (own_pick p4 (2 : Int32) p2 (79 : Int32)), iv (own_pick p4 (3 : Int32) p3 (80 : Int32)), .unset, .unset, .unset, .unset, .unset] [])) _
    refine XS.iconst X4.here hx rfl (hb hby at_53) ?_
    refine XS.goto X4.here hx rfl (pc0 := 54) (pc' := 58) rfl (hb hby at_54) (by decide) (by decide) ?_
    refine XS.istore X4.here hx rfl (hb hby at_58) rfl (l' := #[iv p0, iv p1, iv p2, iv p3, iv p4, iv p5, iv (71 : Int32), iv (73 : Int32), iv (own_pick p4 (2 : Int32) p2 (79 : Int32)), iv (own_pick p4 (3 : Int32) p3 (80 : Int32)), iv (1 : Int32), .unset, .unset, .unset, .unset]) rfl ?_
    refine XS.iload X4.here hx rfl (hb hby at_60) rfl ?_
    refine XS.ifNo X4.here hx rfl (hb hby at_62) rfl ((if0 _ _).trans (feq (by decide +kernel : ¬ ((1 : Int32) = (0 : Int32)))).1) ?_
    refine XS.iconst X4.here hx rfl (hb hby at_65) ?_
    show Steps p.tables e below (T4.setTop (mkF m 66 #[iv p0, iv p1, iv p2, iv p3, iv p4, iv p5, iv (71 : Int32), iv (73 : Int32), iv (own_pick p4 (2 : Int32) p2 (79 : Int32)), iv (own_pick p4 (3 : Int32) p3 (80 : Int32)), iv (1 : Int32), .unset, .unset, .unset, .unset] [(.int (4 : Int32))])) _
    refine st5 _ ?_
    refine XS.goto X5.here hx rfl (pc0 := 68) (pc' := 75) rfl (hb hby at_68) (by decide) (by decide) ?_
    refine XS.astore X5.here hx rfl (hb hby at_75) rfl rfl (l' := #[iv p0, iv p1, iv p2, iv p3, iv p4, iv p5, iv (71 : Int32), iv (73 : Int32), iv (own_pick p4 (2 : Int32) p2 (79 : Int32)), iv (own_pick p4 (3 : Int32) p3 (80 : Int32)), iv (1 : Int32), rv b0_5, .unset, .unset, .unset]) rfl ?_
    refine XS.aload X5.here hx rfl (hb hby at_77) rfl rfl ?_
    refine XS.iconst X5.here hx rfl (hb hby at_79) ?_
    refine XS.iload X5.here hx rfl (hb hby at_80) rfl ?_
    show Steps p.tables e below (T5.setTop (mkF m 82 #[iv p0, iv p1, iv p2, iv p3, iv p4, iv p5, iv (71 : Int32), iv (73 : Int32), iv (own_pick p4 (2 : Int32) p2 (79 : Int32)), iv (own_pick p4 (3 : Int32) p3 (80 : Int32)), iv (1 : Int32), rv b0_5, .unset, .unset, .unset] [(.int (71 : Int32)), (.int (0 : Int32)), (.ref b0_5)])) _
    refine st7 _ ?_
    refine XS.aload X7.here hx rfl (hb hby at_83) rfl rfl ?_
    refine XS.iconst X7.here hx rfl (hb hby at_85) ?_
    refine XS.iload X7.here hx rfl (hb hby at_86) rfl ?_
    refine st9 _ ?_
    refine XS.aload X9.here hx rfl (hb hby at_89) rfl rfl ?_
    show Steps p.tables e below (T9.setTop (mkF m 91 #[iv p0, iv p1, iv p2, iv p3, iv p4, iv p5, iv (71 : Int32), iv (73 : Int32), iv (own_pick p4 (2 : Int32) p2 (79 : Int32)), iv (own_pick p4 (3 : Int32) p3 (80 : Int32)), iv (1 : Int32), rv b0_5, .unset, .unset, .unset] [(.ref b0_5)])) _
    refine XS.iconst X9.here hx rfl (hb hby at_91) ?_
    refine XS.iload X9.here hx rfl (hb hby at_92) rfl ?_
    refine st11 _ ?_
    refine XS.aload X11.here hx rfl (hb hby at_95) rfl rfl ?_
    refine XS.iconst X11.here hx rfl (hb hby at_97) ?_
    refine XS.iload X11.here hx rfl (hb hby at_98) rfl ?_
    show Steps p.tables e below (T11.setTop (mkF m 100 #[iv p0, iv p1, iv p2, iv p3, iv p4, iv p5, iv (71 : Int32), iv (73 : Int32), iv (own_pick p4 (2 : Int32) p2 (79 : Int32)), iv (own_pick p4 (3 : Int32) p3 (80 : Int32)), iv (1 : Int32), rv b0_5, .unset, .unset, .unset] [(.int (own_pick p4 (3 : Int32) p3 (80 : Int32))), (.int (3 : Int32)), (.ref b0_5)])) _
    refine st13 _ ?_
    refine XS.iload X13.here hx rfl (hb hby at_101) rfl ?_
    refine XS.ifYes X13.here hx rfl (pc0 := 103) (pc' := 145) rfl (hb hby at_103) rfl ((if0 _ _).trans (feq (by decide +kernel : ¬ ((1 : Int32) = (0 : Int32)))).2) (by decide) (by decide) ?_
    refine XS.iload X13.here hx rfl (hb hby at_145) rfl ?_
    refine XS.bipush X13.here hx rfl (hb hby at_147) ?_
    refine XS.icmpNo X13.here hx rfl (hb hby at_149) rfl (teq (by decide +kernel : (71 : Int32) = (71 : Int32))).2 ?_
    show Steps p.tables e below (T13.setTop (mkF m 152 #[iv p0, iv p1, iv p2, iv p3, iv p4, iv p5, iv (71 : Int32), iv (73 : Int32), iv (own_pick p4 (2 : Int32) p2 (79 : Int32)), iv (own_pick p4 (3 : Int32) p3 (80 : Int32)), iv (1 : Int32), rv b0_5, .unset, .unset, .unset] [])) _
    refine XS.iload X13.here hx rfl (hb hby at_152) rfl ?_
    refine XS.bipush X13.here hx rfl (hb hby at_154) ?_
    refine XS.icmpNo X13.here hx rfl (hb hby at_156) rfl (teq (by decide +kernel : (73 : Int32) = (73 : Int32))).2 ?_
    refine XS.iload X13.here hx rfl (hb hby at_159) rfl ?_
    refine XS.bipush X13.here hx rfl (hb hby at_161) ?_
    refine XS.icmpYes X13.here hx rfl (pc0 := 163) (pc' := 177) rfl (hb hby at_163) rfl (feq hm2).2 (by decide) (by decide) ?_
    show Steps p.tables e below (T13.setTop (mkF m 177 #[iv p0, iv p1, iv p2, iv p3, iv p4, iv p5, iv (71 : Int32), iv (73 : Int32), iv (own_pick p4 (2 : Int32) p2 (79 : Int32)), iv (own_pick p4 (3 : Int32) p3 (80 : Int32)), iv (1 : Int32), rv b0_5, .unset, .unset, .unset] [])) _
    refine XS.iconst X13.here hx rfl (hb hby at_177) ?_
    refine XS.istore X13.here hx rfl (hb hby at_178) rfl (l' := #[iv p0, iv p1, iv p2, iv p3, iv p4, iv p5, iv (71 : Int32), iv (73 : Int32), iv (own_pick p4 (2 : Int32) p2 (79 : Int32)), iv (own_pick p4 (3 : Int32) p3 (80 : Int32)), iv (1 : Int32), rv b0_5, iv (0 : Int32), .unset, .unset]) rfl ?_
    refine XS.aload X13.here hx rfl (hb hby at_180) rfl rfl ?_
    refine st14 _ ?_
    refine XS.istore X14.here hx rfl (hb hby at_185) rfl (l' := #[iv p0, iv p1, iv p2, iv p3, iv p4, iv p5, iv (71 : Int32), iv (73 : Int32), iv (own_pick p4 (2 : Int32) p2 (79 : Int32)), iv (own_pick p4 (3 : Int32) p3 (80 : Int32)), iv (1 : Int32), rv b0_5, iv (0 : Int32), iv (0 : Int32), .unset]) rfl ?_
    refine XS.aload X14.here hx rfl (hb hby at_187) rfl rfl ?_
    show Steps p.tables e below (T14.setTop (mkF m 189 #[iv p0, iv p1, iv p2, iv p3, iv p4, iv p5, iv (71 : Int32), iv (73 : Int32), iv (own_pick p4 (2 : Int32) p2 (79 : Int32)), iv (own_pick p4 (3 : Int32) p3 (80 : Int32)), iv (1 : Int32), rv b0_5, iv (0 : Int32), iv (0 : Int32), .unset] [(.ref b0_5)])) _
    refine XS.iconst X14.here hx rfl (hb hby at_189) ?_
    refine X14.baloadBytes hx (j := (0 : Int32)) (v := (.int (71 : Int32))) (by rw [e14]; exact Ar18.1) (State.isArrayOf_alike hZ.alike Ar18.2.1) Ar18.2.2 hin18 (Hs18.at hin18 rfl) (g := (mkF m 190 #[iv p0, iv p1, iv p2, iv p3, iv p4, iv p5, iv (71 : Int32), iv (73 : Int32), iv (own_pick p4 (2 : Int32) p2 (79 : Int32)), iv (own_pick p4 (3 : Int32) p3 (80 : Int32)), iv (1 : Int32), rv b0_5, iv (0 : Int32), iv (0 : Int32), .unset] [(.int (0 : Int32)), (.ref b0_5)])) rfl rfl (hb hby at_190) _ ?_
    refine XS.iload X14.here hx rfl (hb hby at_191) rfl ?_
    refine XS.icmpNo X14.here hx rfl (hb hby at_193) rfl (teq (by decide +kernel : (71 : Int32) = (71 : Int32))).2 ?_
    refine XS.aload X14.here hx rfl (hb hby at_196) rfl rfl ?_
    refine XS.iconst X14.here hx rfl (hb hby at_198) ?_
    show Steps p.tables e below (T14.setTop (mkF m 199 #[iv p0, iv p1, iv p2, iv p3, iv p4, iv p5, iv (71 : Int32), iv (73 : Int32), iv (own_pick p4 (2 : Int32) p2 (79 : Int32)), iv (own_pick p4 (3 : Int32) p3 (80 : Int32)), iv (1 : Int32), rv b0_5, iv (0 : Int32), iv (0 : Int32), .unset] [(.int (1 : Int32)), (.ref b0_5)])) _
    refine X14.baloadBytes hx (j := (1 : Int32)) (v := (.int (73 : Int32))) (by rw [e14]; exact Ar19.1) (State.isArrayOf_alike hZ.alike Ar19.2.1) Ar19.2.2 hin19 (Hs19.at hin19 rfl) (g := (mkF m 199 #[iv p0, iv p1, iv p2, iv p3, iv p4, iv p5, iv (71 : Int32), iv (73 : Int32), iv (own_pick p4 (2 : Int32) p2 (79 : Int32)), iv (own_pick p4 (3 : Int32) p3 (80 : Int32)), iv (1 : Int32), rv b0_5, iv (0 : Int32), iv (0 : Int32), .unset] [(.int (1 : Int32)), (.ref b0_5)])) rfl rfl (hb hby at_199) _ ?_
    refine XS.iload X14.here hx rfl (hb hby at_200) rfl ?_
    refine XS.icmpNo X14.here hx rfl (hb hby at_202) rfl (teq (by decide +kernel : (73 : Int32) = (73 : Int32))).2 ?_
    refine XS.aload X14.here hx rfl (hb hby at_205) rfl rfl ?_
    refine XS.iconst X14.here hx rfl (hb hby at_207) ?_
    refine X14.baloadBytes hx (j := (2 : Int32)) (v := (.int (own_pick p4 (2 : Int32) p2 (79 : Int32)))) (by rw [e14]; exact Ar20.1) (State.isArrayOf_alike hZ.alike Ar20.2.1) Ar20.2.2 hin20 (Hs20.at hin20 rfl) (g := (mkF m 208 #[iv p0, iv p1, iv p2, iv p3, iv p4, iv p5, iv (71 : Int32), iv (73 : Int32), iv (own_pick p4 (2 : Int32) p2 (79 : Int32)), iv (own_pick p4 (3 : Int32) p3 (80 : Int32)), iv (1 : Int32), rv b0_5, iv (0 : Int32), iv (0 : Int32), .unset] [(.int (2 : Int32)), (.ref b0_5)])) rfl rfl (hb hby at_208) _ ?_
    show Steps p.tables e below (T14.setTop (mkF m 209 #[iv p0, iv p1, iv p2, iv p3, iv p4, iv p5, iv (71 : Int32), iv (73 : Int32), iv (own_pick p4 (2 : Int32) p2 (79 : Int32)), iv (own_pick p4 (3 : Int32) p3 (80 : Int32)), iv (1 : Int32), rv b0_5, iv (0 : Int32), iv (0 : Int32), .unset] [(.int (own_pick p4 (2 : Int32) p2 (79 : Int32)))])) _
    refine XS.iload X14.here hx rfl (hb hby at_209) rfl ?_
    refine XS.icmpNo X14.here hx rfl (hb hby at_211) rfl (teq (rfl : (own_pick p4 (2 : Int32) p2 (79 : Int32)) = (own_pick p4 (2 : Int32) p2 (79 : Int32)))).2 ?_
    refine XS.aload X14.here hx rfl (hb hby at_214) rfl rfl ?_
    refine XS.iconst X14.here hx rfl (hb hby at_216) ?_
    refine X14.baloadBytes hx (j := (3 : Int32)) (v := (.int (own_pick p4 (3 : Int32) p3 (80 : Int32)))) (by rw [e14]; exact Ar21.1) (State.isArrayOf_alike hZ.alike Ar21.2.1) Ar21.2.2 hin21 (Hs21.at hin21 rfl) (g := (mkF m 217 #[iv p0, iv p1, iv p2, iv p3, iv p4, iv p5, iv (71 : Int32), iv (73 : Int32), iv (own_pick p4 (2 : Int32) p2 (79 : Int32)), iv (own_pick p4 (3 : Int32) p3 (80 : Int32)), iv (1 : Int32), rv b0_5, iv (0 : Int32), iv (0 : Int32), .unset] [(.int (3 : Int32)), (.ref b0_5)])) rfl rfl (hb hby at_217) _ ?_
    refine XS.iload X14.here hx rfl (hb hby at_218) rfl ?_
    show Steps p.tables e below (T14.setTop (mkF m 220 #[iv p0, iv p1, iv p2, iv p3, iv p4, iv p5, iv (71 : Int32), iv (73 : Int32), iv (own_pick p4 (2 : Int32) p2 (79 : Int32)), iv (own_pick p4 (3 : Int32) p3 (80 : Int32)), iv (1 : Int32), rv b0_5, iv (0 : Int32), iv (0 : Int32), .unset] [(.int (own_pick p4 (3 : Int32) p3 (80 : Int32))), (.int (own_pick p4 (3 : Int32) p3 (80 : Int32)))])) _
    refine XS.icmpNo X14.here hx rfl (hb hby at_220) rfl (teq (rfl : (own_pick p4 (3 : Int32) p3 (80 : Int32)) = (own_pick p4 (3 : Int32) p3 (80 : Int32)))).2 ?_
    refine XS.iconst X14.here hx rfl (hb hby at_223) ?_
    refine XS.goto X14.here hx rfl (pc0 := 224) (pc' := 228) rfl (hb hby at_224) (by decide) (by decide) ?_
    refine XS.istore X14.here hx rfl (hb hby at_228) rfl (l' := #[iv p0, iv p1, iv p2, iv p3, iv p4, iv p5, iv (71 : Int32), iv (73 : Int32), iv (own_pick p4 (2 : Int32) p2 (79 : Int32)), iv (own_pick p4 (3 : Int32) p3 (80 : Int32)), iv (1 : Int32), rv b0_5, iv (0 : Int32), iv (0 : Int32), iv (1 : Int32)]) rfl ?_
    refine XS.iload X14.here hx rfl (hb hby at_230) rfl ?_
    refine XS.iload X14.here hx rfl (hb hby at_232) rfl ?_
    show Steps p.tables e below (T14.setTop (mkF m 234 #[iv p0, iv p1, iv p2, iv p3, iv p4, iv p5, iv (71 : Int32), iv (73 : Int32), iv (own_pick p4 (2 : Int32) p2 (79 : Int32)), iv (own_pick p4 (3 : Int32) p3 (80 : Int32)), iv (1 : Int32), rv b0_5, iv (0 : Int32), iv (0 : Int32), iv (1 : Int32)] [(.int (0 : Int32)), (.int (0 : Int32))])) _
    refine XS.icmpNo X14.here hx rfl (hb hby at_234) rfl (teq (by decide +kernel : (0 : Int32) = (0 : Int32))).2 ?_
    refine XS.iload X14.here hx rfl (hb hby at_237) rfl ?_
    refine XS.ifNo X14.here hx rfl (hb hby at_239) rfl ((if0 _ _).trans (feq (by decide +kernel : ¬ ((1 : Int32) = (0 : Int32)))).1) ?_
    refine XS.iconst X14.here hx rfl (hb hby at_242) ?_
    refine XS.goto X14.here hx rfl (pc0 := 243) (pc' := 247) rfl (hb hby at_243) (by decide) (by decide) ?_
    exact retN X14 hx (t := .boolean) Bd.returns (by simp) (hb hby at_247) hr
  · exact ⟨rfl, N14⟩
set_option maxRecDepth 65536 in
set_option maxHeartbeats 40000000 in
theorem rm2_8 (l : Launch) (Z : State) (a0 : Array Value) (hw : ∀ d ∈ tables_1, d.before a0 Z = true) (ws : List Jvm.Cond) (p1 : Int32) (p2 : Int32) (p3 : Int32) (p4 : Int32) (w_Giop_MAGIC : Addr) (k_w_Giop_MAGIC : ClassId) (b0_5 : Addr) (k0_5 : ClassId) (h0 : Heap) (n0 : Nat) (Z0 : n0 ≤ h0.size) (S_Giop_MAGIC : Sta Z h0 "org/driftcairn/giop/Giop" "MAGIC" "[B" (.ref w_Giop_MAGIC)) (V_w_Giop_MAGIC : Arv Z h0 w_Giop_MAGIC k_w_Giop_MAGIC .byte (4 : Int32) [(.int (71 : Int32)), (.int (73 : Int32)), (.int (79 : Int32)), (.int (80 : Int32))] (.int (0 : Int32))) (V_b0_5 : Arv Z h0 b0_5 k0_5 .byte (4 : Int32) [(.int (71 : Int32)), (.int (own_pick p4 (1 : Int32) p1 (73 : Int32))), (.int (own_pick p4 (2 : Int32) p2 (79 : Int32))), (.int (own_pick p4 (3 : Int32) p3 (80 : Int32)))] (.int (0 : Int32))) (hm1 : ¬ ((own_pick p4 (1 : Int32) p1 (73 : Int32)) = (73 : Int32))) :
    MetFree l (⟨"org/driftcairn/giop/Giop", "hasMagic", "([B)Z"⟩ : MethodName) (head1 (Jvm.Cond.code (⟨"org/driftcairn/giop/Giop", "hasMagic", "([B)Z"⟩ : MethodName) prog_59_method_2_code 2 (some .boolean) :: ws) ({ frames := 0, cells := 0, slots := 0, locals := 0 } : Room)) (fun a U => a = #[(.ref b0_5)] ∧ Z.Warmed39 U.vm ∧ U.heap = h0) (fun _ _ _ _ _ => True) (fun _ U o U' => ∃ v L, o = .returned v ∧ own_QP (some (.int (0 : Int32))) h0 n0 v U'.heap L ∧ FrameEnd U o U' L ({ frames := 0, cells := 0, slots := 0, locals := 0 } : Room).cells ({ frames := 0, cells := 0, slots := 0, locals := 0 } : Room).slots) := by
  refine MetFree.of_bodySF (plainFor_of_name pn_1) hisR ?_
  intro p e s m args below meth c s₁ Bd hml0 hP hK
  obtain ⟨rfl, hZ, hh⟩ := hP
  have hx := Bd.exec
  have hby := Bd.bytes
  have hml : c.maxLocals = 2 := hml0
  have hown : s.vm.findClass "org/driftcairn/giop/Giop" = some m.cls := findClass_of_methodNamed Bd.named
  have hnm := (name_of_methodNamed Bd.named Bd.method).1
  have X0 : Stand p l e ({ frames := 0, cells := 0, slots := 0, locals := 0 } : Room) s m #[(.ref b0_5)] below meth c s₁ [] 0 0 := Stand.of_body Bd
  have e0 : s₁.heap = h0 := by rw [← hh, Bd.state]; rfl
  have N0 := Fr.nil n0
  have pre0 : ∀ t, Steps p.tables e below (s₁.setTop (mkF m 0 #[rv b0_5, .unset] [])) t → Steps p.tables e below (s₁.setTop (entryFrame m #[(.ref b0_5)] 2)) t := fun t k => castTop (ef_2_R m b0_5) k
  obtain ⟨T1, X1, e1, st1⟩ := getS2 X0 hx hZ hown (host := "") (Or.inl (hw _ (List.mem_of_getElem? (i := 9) rfl))) Via.refl e0 S_Giop_MAGIC (g := (mkF m 3 #[rv b0_5, iv (0 : Int32)] [(.int (0 : Int32))])) rfl (hb hby d2_3)
  obtain ⟨cl2, Ar2, -, Sz2, Nn2, -, -⟩ := id V_w_Giop_MAGIC
  obtain ⟨cl3, Ar3, -, Sz3, Nn3, Hs3, Gs3⟩ := id V_b0_5
  have hin3 : ¬ ((0 : Int32) < 0 ∨ cl3.slots.size ≤ ((0 : Int32)).toNatClampNeg) := inb_of Sz3 ⟨by decide, by decide⟩
  obtain ⟨T4, X4, e4, st4⟩ := getS2 X1 hx hZ hown (host := "") (Or.inl (hw _ (List.mem_of_getElem? (i := 9) rfl))) Via.refl e1 S_Giop_MAGIC (g := (mkF m 13 #[rv b0_5, iv (0 : Int32)] [(.int (71 : Int32))])) rfl (hb hby d2_13)
  obtain ⟨cl5, Ar5, -, Sz5, Nn5, Hs5, Gs5⟩ := id V_w_Giop_MAGIC
  have hin5 : ¬ ((0 : Int32) < 0 ∨ cl5.slots.size ≤ ((0 : Int32)).toNatClampNeg) := inb_of Sz5 ⟨by decide, by decide⟩
  obtain ⟨T6, X6, e6, st6⟩ := getS2 X4 hx hZ hown (host := "") (Or.inl (hw _ (List.mem_of_getElem? (i := 9) rfl))) Via.refl e4 S_Giop_MAGIC (g := (mkF m 3 #[rv b0_5, iv (1 : Int32)] [(.int (1 : Int32))])) rfl (hb hby d2_3)
  obtain ⟨cl7, Ar7, -, Sz7, Nn7, -, -⟩ := id V_w_Giop_MAGIC
  obtain ⟨cl8, Ar8, -, Sz8, Nn8, Hs8, Gs8⟩ := id V_b0_5
  have hin8 : ¬ ((1 : Int32) < 0 ∨ cl8.slots.size ≤ ((1 : Int32)).toNatClampNeg) := inb_of Sz8 ⟨by decide, by decide⟩
  obtain ⟨T9, X9, e9, st9⟩ := getS2 X6 hx hZ hown (host := "") (Or.inl (hw _ (List.mem_of_getElem? (i := 9) rfl))) Via.refl e6 S_Giop_MAGIC (g := (mkF m 13 #[rv b0_5, iv (1 : Int32)] [(.int (own_pick p4 (1 : Int32) p1 (73 : Int32)))])) rfl (hb hby d2_13)
  obtain ⟨cl10, Ar10, -, Sz10, Nn10, Hs10, Gs10⟩ := id V_w_Giop_MAGIC
  have hin10 : ¬ ((1 : Int32) < 0 ∨ cl10.slots.size ≤ ((1 : Int32)).toNatClampNeg) := inb_of Sz10 ⟨by decide, by decide⟩
  obtain ⟨fs, hr, hrun, hended, hW, hsame⟩ := X9.leave (v := (some (.int (0 : Int32)))) (fun h => by rw [Bd.returns] at h; cases h)
  refine ⟨_, _, pre0 _ ?_, hrun, hended, _, _, rfl, ?_, ⟨_, rfl⟩, hW, hsame.mono (by decide) (by decide)⟩
  · show Steps p.tables e below (s₁.setTop (mkF m 0 #[rv b0_5, .unset] [])) _
    refine XS.iconst X0.here hx rfl (hb hby d2_0) ?_
    refine XS.istoreN X0.here hx rfl (hb hby d2_1) rfl (l' := #[rv b0_5, iv (0 : Int32)]) rfl ?_
    refine XS.iloadN X0.here hx rfl (hb hby d2_2) rfl ?_
    refine st1 _ ?_
    refine X1.arraylength hx (by rw [e1]; exact Ar2.1) (State.isArrayOf_alike hZ.alike Ar2.2.1) (g := (mkF m 6 #[rv b0_5, iv (0 : Int32)] [(.ref w_Giop_MAGIC), (.int (0 : Int32))])) rfl rfl (hb hby d2_6) _ ?_
    rw [len_of Sz2 Nn2]
    refine XS.icmpNo X1.here hx rfl (hb hby d2_7) rfl (tlt (by decide +kernel : (0 : Int32) < (4 : Int32))).2.1 ?_
    show Steps p.tables e below (T1.setTop (mkF m 10 #[rv b0_5, iv (0 : Int32)] [])) _
    refine XS.aloadN X1.here hx rfl (hb hby d2_10) rfl rfl ?_
    refine XS.iloadN X1.here hx rfl (hb hby d2_11) rfl ?_
    refine X1.baloadBytes hx (j := (0 : Int32)) (v := (.int (71 : Int32))) (by rw [e1]; exact Ar3.1) (State.isArrayOf_alike hZ.alike Ar3.2.1) Ar3.2.2 hin3 (Hs3.at hin3 rfl) (g := (mkF m 12 #[rv b0_5, iv (0 : Int32)] [(.int (0 : Int32)), (.ref b0_5)])) rfl rfl (hb hby d2_12) _ ?_
    refine st4 _ ?_
    refine XS.iloadN X4.here hx rfl (hb hby d2_16) rfl ?_
    refine X4.baloadBytes hx (j := (0 : Int32)) (v := (.int (71 : Int32))) (by rw [e4]; exact Ar5.1) (State.isArrayOf_alike hZ.alike Ar5.2.1) Ar5.2.2 hin5 (Hs5.at hin5 rfl) (g := (mkF m 17 #[rv b0_5, iv (0 : Int32)] [(.int (0 : Int32)), (.ref w_Giop_MAGIC), (.int (71 : Int32))])) rfl rfl (hb hby d2_17) _ ?_
    show Steps p.tables e below (T4.setTop (mkF m 18 #[rv b0_5, iv (0 : Int32)] [(.int (71 : Int32)), (.int (71 : Int32))])) _
    refine XS.icmpYes X4.here hx rfl (pc0 := 18) (pc' := 23) rfl (hb hby d2_18) rfl (teq (by decide +kernel : (71 : Int32) = (71 : Int32))).1 (by decide) (by decide) ?_
    refine XS.iinc X4.here hx rfl (hb hby d2_23) rfl (l' := #[rv b0_5, iv ((0 : Int32) + (1 : Int32))]) rfl ?_
    show Steps p.tables e below (T4.setTop (mkF m 26 #[rv b0_5, iv ((0 : Int32) + (1 : Int32))] [])) _
    rewrite [show ((0 : Int32) + (1 : Int32)) = (1 : Int32) from by decide +kernel]
    refine XS.goto X4.here hx rfl (pc0 := 26) (pc' := 2) rfl (hb hby d2_26) (by decide) (by decide) ?_
    refine XS.iloadN X4.here hx rfl (hb hby d2_2) rfl ?_
    refine st6 _ ?_
    refine X6.arraylength hx (by rw [e6]; exact Ar7.1) (State.isArrayOf_alike hZ.alike Ar7.2.1) (g := (mkF m 6 #[rv b0_5, iv (1 : Int32)] [(.ref w_Giop_MAGIC), (.int (1 : Int32))])) rfl rfl (hb hby d2_6) _ ?_
    rw [len_of Sz7 Nn7]
    show Steps p.tables e below (T6.setTop (mkF m 7 #[rv b0_5, iv (1 : Int32)] [(.int (4 : Int32)), (.int (1 : Int32))])) _
    refine XS.icmpNo X6.here hx rfl (hb hby d2_7) rfl (tlt (by decide +kernel : (1 : Int32) < (4 : Int32))).2.1 ?_
    refine XS.aloadN X6.here hx rfl (hb hby d2_10) rfl rfl ?_
    refine XS.iloadN X6.here hx rfl (hb hby d2_11) rfl ?_
    refine X6.baloadBytes hx (j := (1 : Int32)) (v := (.int (own_pick p4 (1 : Int32) p1 (73 : Int32)))) (by rw [e6]; exact Ar8.1) (State.isArrayOf_alike hZ.alike Ar8.2.1) Ar8.2.2 hin8 (Hs8.at hin8 rfl) (g := (mkF m 12 #[rv b0_5, iv (1 : Int32)] [(.int (1 : Int32)), (.ref b0_5)])) rfl rfl (hb hby d2_12) _ ?_
    refine st9 _ ?_
    refine XS.iloadN X9.here hx rfl (hb hby d2_16) rfl ?_
    show Steps p.tables e below (T9.setTop (mkF m 17 #[rv b0_5, iv (1 : Int32)] [(.int (1 : Int32)), (.ref w_Giop_MAGIC), (.int (own_pick p4 (1 : Int32) p1 (73 : Int32)))])) _
    refine X9.baloadBytes hx (j := (1 : Int32)) (v := (.int (73 : Int32))) (by rw [e9]; exact Ar10.1) (State.isArrayOf_alike hZ.alike Ar10.2.1) Ar10.2.2 hin10 (Hs10.at hin10 rfl) (g := (mkF m 17 #[rv b0_5, iv (1 : Int32)] [(.int (1 : Int32)), (.ref w_Giop_MAGIC), (.int (own_pick p4 (1 : Int32) p1 (73 : Int32)))])) rfl rfl (hb hby d2_17) _ ?_
    refine XS.icmpNo X9.here hx rfl (hb hby d2_18) rfl (feq hm1).1 ?_
    refine XS.iconst X9.here hx rfl (hb hby d2_21) ?_
    exact retN X9 hx (t := .boolean) Bd.returns (by simp) (hb hby d2_22) hr
  · exact ⟨rfl, N0, e9⟩
set_option maxRecDepth 65536 in
set_option maxHeartbeats 40000000 in
theorem rm0_8 (l : Launch) (Z : State) (a0 : Array Value) (hw : ∀ d ∈ tables_1, d.before a0 Z = true) (ws : List Jvm.Cond) (p0 : Int32) (p1 : Int32) (p2 : Int32) (p3 : Int32) (p4 : Int32) (p5 : Int32) (w_Giop_MAGIC : Addr) (k_w_Giop_MAGIC : ClassId) (h0 : Heap) (n0 : Nat) (Z0 : n0 ≤ h0.size) (hm0 : (own_pick p4 (0 : Int32) p0 (71 : Int32)) = (71 : Int32)) (hs : (((p4.toUInt32 >>> ((4 : Int32) &&& 31).toUInt32).toInt32) &&& (1 : Int32)) = (1 : Int32)) (hm1 : ¬ ((own_pick p4 (1 : Int32) p1 (73 : Int32)) = (73 : Int32))) (S_Giop_MAGIC : Sta Z h0 "org/driftcairn/giop/Giop" "MAGIC" "[B" (.ref w_Giop_MAGIC)) (V_w_Giop_MAGIC : Arv Z h0 w_Giop_MAGIC k_w_Giop_MAGIC .byte (4 : Int32) [(.int (71 : Int32)), (.int (73 : Int32)), (.int (79 : Int32)), (.int (80 : Int32))] (.int (0 : Int32))) :
    MetFree l x (head1 (Jvm.Cond.code x code maxLocals ret :: ws) room_1) (fun a U => a = #[(.int p0), (.int p1), (.int p2), (.int p3), (.int p4), (.int p5)] ∧ Z.Warmed39 U.vm ∧ U.heap = h0) (fun _ _ _ _ _ => True) (fun _ U o U' => ∃ v L, o = .returned v ∧ own_QL n0 v U'.heap L ∧ FrameEnd U o U' L room_1.cells room_1.slots) := by
  refine MetFree.of_bodySF (plainFor_of_name pn_0) hisR ?_
  intro p e s m args below meth c s₁ Bd hml0 hP hK
  obtain ⟨rfl, hZ, hh⟩ := hP
  have hx := Bd.exec
  have hby := Bd.bytes
  have hml : c.maxLocals = 15 := hml0
  have hown : s.vm.findClass "org/driftcairn/giop/GiopHasMagicPinLaw" = some m.cls := findClass_of_methodNamed Bd.named
  have hnm := (name_of_methodNamed Bd.named Bd.method).1
  have X0 : Stand p l e room_1 s m #[(.int p0), (.int p1), (.int p2), (.int p3), (.int p4), (.int p5)] below meth c s₁ [] 0 0 := Stand.of_body Bd
  have e0 : s₁.heap = h0 := by rw [← hh, Bd.state]; rfl
  have N0 := Fr.nil n0
  have pre0 : ∀ t, Steps p.tables e below (s₁.setTop (mkF m 0 #[iv p0, iv p1, iv p2, iv p3, iv p4, iv p5, .unset, .unset, .unset, .unset, .unset, .unset, .unset, .unset, .unset] [])) t → Steps p.tables e below (s₁.setTop (entryFrame m #[(.int p0), (.int p1), (.int p2), (.int p3), (.int p4), (.int p5)] maxLocals)) t := fun t k => castTop (ef_0_IIIIII m p0 p1 p2 p3 p4 p5) k
  obtain ⟨_, _, ⟨T1, L1, k1, n1⟩, -, X1, ⟨Lc1, hQ1, l1, y1, z1⟩, st1⟩ := Jvm.LawKit.callS X0 hx (y := (⟨"org/driftcairn/giop/GiopHasMagicPinLaw", "pick", "(IIIC)B"⟩ : MethodName)) hown (mvT hZ (hw _ (List.mem_of_getElem? (i := 0) rfl))) (mvT hZ (hw _ (List.mem_of_getElem? (i := 1) rfl))) (mvT hZ (hw _ (List.mem_of_getElem? (i := 2) rfl))) (mvT hZ (hw _ (List.mem_of_getElem? (i := 3) rfl))) (by decide) (backOf (W := 0) (rk_pick l Z a0 hw [] p4 (0 : Int32) p0 (71 : Int32) h0 n0 Z0 ) hZ (hw _ (List.mem_of_getElem? (i := 3) rfl)) (hw _ (List.mem_of_getElem? (i := 2) rfl)) (by decide) (by decide)) (g := (mkF m 6 #[iv p0, iv p1, iv p2, iv p3, iv p4, iv p5, .unset, .unset, .unset, .unset, .unset, .unset, .unset, .unset, .unset] [(.int (71 : Int32)), (.int p0), (.int (0 : Int32)), (.int p4)])) rfl (by rw [hml]; rfl) (argsL := [(.int p4), (.int (0 : Int32)), (.int p0), (.int (71 : Int32))]) (rest := []) (lenOf pd_0 rfl) rfl (by show 2 * 0 + _ ≤ _; exact Nat.le_of_eq rfl) (hb hby at_6) (fun _ _ => ⟨rfl, e0, (by decide : 0 + 0 ≤ _), (by decide : 0 + 0 ≤ _)⟩)
  dsimp only [Pt.U, Pt.locs, Pt.cells, Pt.slots] at X1 l1 y1 z1 st1 hQ1
  subst l1 y1 z1
  obtain ⟨rfl, N1q, e1⟩ := hQ1
  have N1 := Fr.app N0 N1q
  obtain ⟨_, _, ⟨T2, L2, k2, n2⟩, -, X2, ⟨Lc2, hQ2, l2, y2, z2⟩, st2⟩ := Jvm.LawKit.callS X1 hx (y := (⟨"org/driftcairn/giop/GiopHasMagicPinLaw", "pick", "(IIIC)B"⟩ : MethodName)) hown (mvT hZ (hw _ (List.mem_of_getElem? (i := 0) rfl))) (mvT hZ (hw _ (List.mem_of_getElem? (i := 1) rfl))) (mvT hZ (hw _ (List.mem_of_getElem? (i := 2) rfl))) (mvT hZ (hw _ (List.mem_of_getElem? (i := 3) rfl))) (by decide) (backOf (W := 0) (rk_pick l Z a0 hw [] p4 (1 : Int32) p1 (73 : Int32) h0 n0 Z0 ) hZ (hw _ (List.mem_of_getElem? (i := 3) rfl)) (hw _ (List.mem_of_getElem? (i := 2) rfl)) (by decide) (by decide)) (g := (mkF m 17 #[iv p0, iv p1, iv p2, iv p3, iv p4, iv p5, iv (71 : Int32), .unset, .unset, .unset, .unset, .unset, .unset, .unset, .unset] [(.int (73 : Int32)), (.int p1), (.int (1 : Int32)), (.int p4)])) rfl (by rw [hml]; rfl) (argsL := [(.int p4), (.int (1 : Int32)), (.int p1), (.int (73 : Int32))]) (rest := []) (lenOf pd_0 rfl) rfl (by show 2 * 0 + _ ≤ _; exact Nat.le_of_eq rfl) (hb hby at_17) (fun _ _ => ⟨rfl, e1, (by decide : 0 + 0 ≤ _), (by decide : 0 + 0 ≤ _)⟩)
  dsimp only [Pt.U, Pt.locs, Pt.cells, Pt.slots] at X2 l2 y2 z2 st2 hQ2
  subst l2 y2 z2
  obtain ⟨rfl, N2q, e2⟩ := hQ2
  have N2 := Fr.app N1 N2q
  obtain ⟨_, _, ⟨T3, L3, k3, n3⟩, -, X3, ⟨Lc3, hQ3, l3, y3, z3⟩, st3⟩ := Jvm.LawKit.callS X2 hx (y := (⟨"org/driftcairn/giop/GiopHasMagicPinLaw", "pick", "(IIIC)B"⟩ : MethodName)) hown (mvT hZ (hw _ (List.mem_of_getElem? (i := 0) rfl))) (mvT hZ (hw _ (List.mem_of_getElem? (i := 1) rfl))) (mvT hZ (hw _ (List.mem_of_getElem? (i := 2) rfl))) (mvT hZ (hw _ (List.mem_of_getElem? (i := 3) rfl))) (by decide) (backOf (W := 0) (rk_pick l Z a0 hw [] p4 (2 : Int32) p2 (79 : Int32) h0 n0 Z0 ) hZ (hw _ (List.mem_of_getElem? (i := 3) rfl)) (hw _ (List.mem_of_getElem? (i := 2) rfl)) (by decide) (by decide)) (g := (mkF m 28 #[iv p0, iv p1, iv p2, iv p3, iv p4, iv p5, iv (71 : Int32), iv (own_pick p4 (1 : Int32) p1 (73 : Int32)), .unset, .unset, .unset, .unset, .unset, .unset, .unset] [(.int (79 : Int32)), (.int p2), (.int (2 : Int32)), (.int p4)])) rfl (by rw [hml]; rfl) (argsL := [(.int p4), (.int (2 : Int32)), (.int p2), (.int (79 : Int32))]) (rest := []) (lenOf pd_0 rfl) rfl (by show 2 * 0 + _ ≤ _; exact Nat.le_of_eq rfl) (hb hby at_28) (fun _ _ => ⟨rfl, e2, (by decide : 0 + 0 ≤ _), (by decide : 0 + 0 ≤ _)⟩)
  dsimp only [Pt.U, Pt.locs, Pt.cells, Pt.slots] at X3 l3 y3 z3 st3 hQ3
  subst l3 y3 z3
  obtain ⟨rfl, N3q, e3⟩ := hQ3
  have N3 := Fr.app N2 N3q
  obtain ⟨_, _, ⟨T4, L4, k4, n4⟩, -, X4, ⟨Lc4, hQ4, l4, y4, z4⟩, st4⟩ := Jvm.LawKit.callS X3 hx (y := (⟨"org/driftcairn/giop/GiopHasMagicPinLaw", "pick", "(IIIC)B"⟩ : MethodName)) hown (mvT hZ (hw _ (List.mem_of_getElem? (i := 0) rfl))) (mvT hZ (hw _ (List.mem_of_getElem? (i := 1) rfl))) (mvT hZ (hw _ (List.mem_of_getElem? (i := 2) rfl))) (mvT hZ (hw _ (List.mem_of_getElem? (i := 3) rfl))) (by decide) (backOf (W := 0) (rk_pick l Z a0 hw [] p4 (3 : Int32) p3 (80 : Int32) h0 n0 Z0 ) hZ (hw _ (List.mem_of_getElem? (i := 3) rfl)) (hw _ (List.mem_of_getElem? (i := 2) rfl)) (by decide) (by decide)) (g := (mkF m 39 #[iv p0, iv p1, iv p2, iv p3, iv p4, iv p5, iv (71 : Int32), iv (own_pick p4 (1 : Int32) p1 (73 : Int32)), iv (own_pick p4 (2 : Int32) p2 (79 : Int32)), .unset, .unset, .unset, .unset, .unset, .unset] [(.int (80 : Int32)), (.int p3), (.int (3 : Int32)), (.int p4)])) rfl (by rw [hml]; rfl) (argsL := [(.int p4), (.int (3 : Int32)), (.int p3), (.int (80 : Int32))]) (rest := []) (lenOf pd_0 rfl) rfl (by show 2 * 0 + _ ≤ _; exact Nat.le_of_eq rfl) (hb hby at_39) (fun _ _ => ⟨rfl, e3, (by decide : 0 + 0 ≤ _), (by decide : 0 + 0 ≤ _)⟩)
  dsimp only [Pt.U, Pt.locs, Pt.cells, Pt.slots] at X4 l4 y4 z4 st4 hQ4
  subst l4 y4 z4
  obtain ⟨rfl, N4q, e4⟩ := hQ4
  have N4 := Fr.app N3 N4q
  obtain ⟨T5, h5, k0_5, X5, e5, E5, A5, st5⟩ := newP X4 hx hZ (hw _ (List.mem_of_getElem? (i := 4) rfl)) e4 (g := (mkF m 66 #[iv p0, iv p1, iv p2, iv p3, iv p4, iv p5, iv (71 : Int32), iv (own_pick p4 (1 : Int32) p1 (73 : Int32)), iv (own_pick p4 (2 : Int32) p2 (79 : Int32)), iv (own_pick p4 (3 : Int32) p3 (80 : Int32)), iv (1 : Int32), .unset, .unset, .unset, .unset] [(.int (4 : Int32))])) rfl (hb hby at_66) rfl (by decide) (cap := 4) (by decide) (by decide) (by decide) (by decide)
  obtain ⟨b0_5, gg5⟩ : ∃ z, z = h0.size := ⟨_, rfl⟩
  rw [← gg5] at A5 st5
  have g_b0_5 : n0 ≤ b0_5 := Nat.le_trans Z0 (Nat.le_of_eq gg5.symm)
  have sz_b0_5 : h0.size ≤ b0_5 := Nat.le_trans (Keep.refl h0 []).1 (Nat.le_of_eq gg5.symm)
  have Z5 : n0 ≤ h5.size := Nat.le_trans Z0 E5.1
  have KK5 : Keep h0 h5 [] := (Keep.refl h0 []).ext E5
  have V_b0_5 : Arv Z h5 b0_5 k0_5 .byte (4 : Int32) [(.int (0 : Int32)), (.int (0 : Int32)), (.int (0 : Int32)), (.int (0 : Int32))] (.int (0 : Int32)) := (Arv.new A5 (by decide)).pad (pad_rep [] (.int (0 : Int32)) 4)
  obtain ⟨cl6, Ar6, qq6, Sz6, Nn6, Hs6, Gs6⟩ := id V_b0_5
  have hin6 : ¬ ((0 : Int32) < 0 ∨ cl6.slots.size ≤ ((0 : Int32)).toNatClampNeg) := inb_of Sz6 ⟨by decide, by decide⟩
  obtain ⟨T7, h7, X7, e7, W7, st7⟩ := stB X5 hx hZ e5 Ar6 (j := (0 : Int32)) hin6 (g := (mkF m 82 #[iv p0, iv p1, iv p2, iv p3, iv p4, iv p5, iv (71 : Int32), iv (own_pick p4 (1 : Int32) p1 (73 : Int32)), iv (own_pick p4 (2 : Int32) p2 (79 : Int32)), iv (own_pick p4 (3 : Int32) p3 (80 : Int32)), iv (1 : Int32), rv b0_5, .unset, .unset, .unset] [(.int (71 : Int32)), (.int (0 : Int32)), (.ref b0_5)])) rfl rfl (hb hby at_82)
  have va7 := Arv.set Ar6 qq6 Sz6 Nn6 Hs6 Gs6 (fits_nar_byte _) W7 0 rfl (Nat.le_of_ble_eq_true rfl)
  have vb7 : Arv Z h7 b0_5 k0_5 .byte (4 : Int32) [(.int (71 : Int32)), (.int (0 : Int32)), (.int (0 : Int32)), (.int (0 : Int32))] (.int (0 : Int32)) := va7
  have Z7 : n0 ≤ h7.size := Nat.le_trans Z5 (Keep.of_wr W7).1
  have KK7 : Keep h0 h7 [] := KK5.wr W7 (Or.inr sz_b0_5)
  have N7 := Fr.snoc X7 N4 g_b0_5
  obtain ⟨cl8, Ar8, qq8, Sz8, Nn8, Hs8, Gs8⟩ := id vb7
  have hin8 : ¬ ((1 : Int32) < 0 ∨ cl8.slots.size ≤ ((1 : Int32)).toNatClampNeg) := inb_of Sz8 ⟨by decide, by decide⟩
  obtain ⟨T9, h9, X9, e9, W9, st9⟩ := stB X7 hx hZ e7 Ar8 (j := (1 : Int32)) hin8 (g := (mkF m 88 #[iv p0, iv p1, iv p2, iv p3, iv p4, iv p5, iv (71 : Int32), iv (own_pick p4 (1 : Int32) p1 (73 : Int32)), iv (own_pick p4 (2 : Int32) p2 (79 : Int32)), iv (own_pick p4 (3 : Int32) p3 (80 : Int32)), iv (1 : Int32), rv b0_5, .unset, .unset, .unset] [(.int (own_pick p4 (1 : Int32) p1 (73 : Int32))), (.int (1 : Int32)), (.ref b0_5)])) rfl rfl (hb hby at_88)
  have va9 := Arv.set Ar8 qq8 Sz8 Nn8 Hs8 Gs8 (fits_nar_byte _) W9 1 rfl (Nat.le_of_ble_eq_true rfl)
  have vb9 : Arv Z h9 b0_5 k0_5 .byte (4 : Int32) [(.int (71 : Int32)), (.int (own_pick p4 (1 : Int32) p1 (73 : Int32))), (.int (0 : Int32)), (.int (0 : Int32))] (.int (0 : Int32)) := by have t := va9; have q : ((own_pick p4 (1 : Int32) p1 (73 : Int32))).toInt8.toInt32 = (own_pick p4 (1 : Int32) p1 (73 : Int32)) := (own_pick_b _ _ _ _); rw [q] at t; exact t
  have Z9 : n0 ≤ h9.size := Nat.le_trans Z7 (Keep.of_wr W9).1
  have KK9 : Keep h0 h9 [] := KK7.wr W9 (Or.inr sz_b0_5)
  have N9 := Fr.snoc X9 N7 g_b0_5
  obtain ⟨cl10, Ar10, qq10, Sz10, Nn10, Hs10, Gs10⟩ := id vb9
  have hin10 : ¬ ((2 : Int32) < 0 ∨ cl10.slots.size ≤ ((2 : Int32)).toNatClampNeg) := inb_of Sz10 ⟨by decide, by decide⟩
  obtain ⟨T11, h11, X11, e11, W11, st11⟩ := stB X9 hx hZ e9 Ar10 (j := (2 : Int32)) hin10 (g := (mkF m 94 #[iv p0, iv p1, iv p2, iv p3, iv p4, iv p5, iv (71 : Int32), iv (own_pick p4 (1 : Int32) p1 (73 : Int32)), iv (own_pick p4 (2 : Int32) p2 (79 : Int32)), iv (own_pick p4 (3 : Int32) p3 (80 : Int32)), iv (1 : Int32), rv b0_5, .unset, .unset, .unset] [(.int (own_pick p4 (2 : Int32) p2 (79 : Int32))), (.int (2 : Int32)), (.ref b0_5)])) rfl rfl (hb hby at_94)
  have va11 := Arv.set Ar10 qq10 Sz10 Nn10 Hs10 Gs10 (fits_nar_byte _) W11 2 rfl (Nat.le_of_ble_eq_true rfl)
  have vb11 : Arv Z h11 b0_5 k0_5 .byte (4 : Int32) [(.int (71 : Int32)), (.int (own_pick p4 (1 : Int32) p1 (73 : Int32))), (.int (own_pick p4 (2 : Int32) p2 (79 : Int32))), (.int (0 : Int32))] (.int (0 : Int32)) := by have t := va11; have q : ((own_pick p4 (2 : Int32) p2 (79 : Int32))).toInt8.toInt32 = (own_pick p4 (2 : Int32) p2 (79 : Int32)) := (own_pick_b _ _ _ _); rw [q] at t; exact t
  have Z11 : n0 ≤ h11.size := Nat.le_trans Z9 (Keep.of_wr W11).1
  have KK11 : Keep h0 h11 [] := KK9.wr W11 (Or.inr sz_b0_5)
  have N11 := Fr.snoc X11 N9 g_b0_5
  obtain ⟨cl12, Ar12, qq12, Sz12, Nn12, Hs12, Gs12⟩ := id vb11
  have hin12 : ¬ ((3 : Int32) < 0 ∨ cl12.slots.size ≤ ((3 : Int32)).toNatClampNeg) := inb_of Sz12 ⟨by decide, by decide⟩
  obtain ⟨T13, h13, X13, e13, W13, st13⟩ := stB X11 hx hZ e11 Ar12 (j := (3 : Int32)) hin12 (g := (mkF m 100 #[iv p0, iv p1, iv p2, iv p3, iv p4, iv p5, iv (71 : Int32), iv (own_pick p4 (1 : Int32) p1 (73 : Int32)), iv (own_pick p4 (2 : Int32) p2 (79 : Int32)), iv (own_pick p4 (3 : Int32) p3 (80 : Int32)), iv (1 : Int32), rv b0_5, .unset, .unset, .unset] [(.int (own_pick p4 (3 : Int32) p3 (80 : Int32))), (.int (3 : Int32)), (.ref b0_5)])) rfl rfl (hb hby at_100)
  have va13 := Arv.set Ar12 qq12 Sz12 Nn12 Hs12 Gs12 (fits_nar_byte _) W13 3 rfl (Nat.le_of_ble_eq_true rfl)
  have vb13 : Arv Z h13 b0_5 k0_5 .byte (4 : Int32) [(.int (71 : Int32)), (.int (own_pick p4 (1 : Int32) p1 (73 : Int32))), (.int (own_pick p4 (2 : Int32) p2 (79 : Int32))), (.int (own_pick p4 (3 : Int32) p3 (80 : Int32)))] (.int (0 : Int32)) := by have t := va13; have q : ((own_pick p4 (3 : Int32) p3 (80 : Int32))).toInt8.toInt32 = (own_pick p4 (3 : Int32) p3 (80 : Int32)) := (own_pick_b _ _ _ _); rw [q] at t; exact t
  have Z13 : n0 ≤ h13.size := Nat.le_trans Z11 (Keep.of_wr W13).1
  have KK13 : Keep h0 h13 [] := KK11.wr W13 (Or.inr sz_b0_5)
  have N13 := Fr.snoc X13 N11 g_b0_5
  have c15 := (((((S_Giop_MAGIC.ext E5).wr W7).wr W9).wr W11).wr W13)
  have ne_b0_5_w_Giop_MAGIC_16 : ¬ (b0_5 = w_Giop_MAGIC) := (Ne.symm (Nat.ne_of_lt (Nat.lt_of_lt_of_le (V_w_Giop_MAGIC).lt (Nat.le_of_eq gg5.symm))))
  have c17 := (((((V_w_Giop_MAGIC.ext E5).other W7 (Ne.symm ne_b0_5_w_Giop_MAGIC_16)).other W9 (Ne.symm ne_b0_5_w_Giop_MAGIC_16)).other W11 (Ne.symm ne_b0_5_w_Giop_MAGIC_16)).other W13 (Ne.symm ne_b0_5_w_Giop_MAGIC_16))
  obtain ⟨_, _, ⟨T14, L14, k14, n14⟩, -, X14, ⟨Lc14, hQ14, l14, y14, z14⟩, st14⟩ := Jvm.LawKit.callS X13 hx (y := (⟨"org/driftcairn/giop/Giop", "hasMagic", "([B)Z"⟩ : MethodName)) hown (mvT hZ (hw _ (List.mem_of_getElem? (i := 5) rfl))) (mvT hZ (hw _ (List.mem_of_getElem? (i := 6) rfl))) (mvT hZ (hw _ (List.mem_of_getElem? (i := 7) rfl))) (mvT hZ (hw _ (List.mem_of_getElem? (i := 8) rfl))) (by decide) (backOf (W := 0) (rm2_8 l Z a0 hw [] p1 p2 p3 p4 w_Giop_MAGIC k_w_Giop_MAGIC b0_5 k0_5 h13 n0 Z13 c15 c17 vb13 hm1) hZ (hw _ (List.mem_of_getElem? (i := 8) rfl)) (hw _ (List.mem_of_getElem? (i := 7) rfl)) (by decide) (by decide)) (g := (mkF m 182 #[iv p0, iv p1, iv p2, iv p3, iv p4, iv p5, iv (71 : Int32), iv (own_pick p4 (1 : Int32) p1 (73 : Int32)), iv (own_pick p4 (2 : Int32) p2 (79 : Int32)), iv (own_pick p4 (3 : Int32) p3 (80 : Int32)), iv (1 : Int32), rv b0_5, iv (0 : Int32), .unset, .unset] [(.ref b0_5)])) rfl (by rw [hml]; rfl) (argsL := [(.ref b0_5)]) (rest := []) (lenOf pd_1 rfl) rfl (by show 2 * 0 + _ ≤ _; exact Nat.le_of_eq rfl) (hb hby at_182) (fun _ _ => ⟨rfl, e13, (by decide : 1 + 0 ≤ _), (by decide : 4 + 0 ≤ _)⟩)
  dsimp only [Pt.U, Pt.locs, Pt.cells, Pt.slots] at X14 l14 y14 z14 st14 hQ14
  subst l14 y14 z14
  obtain ⟨rfl, N14q, e14⟩ := hQ14
  have N14 := Fr.app N13 N14q
  obtain ⟨cl18, Ar18, -, Sz18, Nn18, Hs18, Gs18⟩ := id vb13
  have hin18 : ¬ ((0 : Int32) < 0 ∨ cl18.slots.size ≤ ((0 : Int32)).toNatClampNeg) := inb_of Sz18 ⟨by decide, by decide⟩
  obtain ⟨cl19, Ar19, -, Sz19, Nn19, Hs19, Gs19⟩ := id vb13
  have hin19 : ¬ ((1 : Int32) < 0 ∨ cl19.slots.size ≤ ((1 : Int32)).toNatClampNeg) := inb_of Sz19 ⟨by decide, by decide⟩
  obtain ⟨cl20, Ar20, -, Sz20, Nn20, Hs20, Gs20⟩ := id vb13
  have hin20 : ¬ ((2 : Int32) < 0 ∨ cl20.slots.size ≤ ((2 : Int32)).toNatClampNeg) := inb_of Sz20 ⟨by decide, by decide⟩
  obtain ⟨cl21, Ar21, -, Sz21, Nn21, Hs21, Gs21⟩ := id vb13
  have hin21 : ¬ ((3 : Int32) < 0 ∨ cl21.slots.size ≤ ((3 : Int32)).toNatClampNeg) := inb_of Sz21 ⟨by decide, by decide⟩
  obtain ⟨fs, hr, hrun, hended, hW, hsame⟩ := X14.leave (v := (some (.int (1 : Int32)))) (fun h => by rw [Bd.returns] at h; cases h)
  refine ⟨_, _, pre0 _ ?_, hrun, hended, _, _, rfl, ?_, ⟨_, rfl⟩, hW, hsame.mono (by decide) (by decide)⟩
  · show Steps p.tables e below (s₁.setTop (mkF m 0 #[iv p0, iv p1, iv p2, iv p3, iv p4, iv p5, .unset, .unset, .unset, .unset, .unset, .unset, .unset, .unset, .unset] [])) _
    refine XS.iload X0.here hx rfl (hb hby at_0) rfl ?_
    refine XS.iconst X0.here hx rfl (hb hby at_2) ?_
    refine XS.iloadN X0.here hx rfl (hb hby at_3) rfl ?_
    refine XS.bipush X0.here hx rfl (hb hby at_4) ?_
    refine st1 _ ?_
    show Steps p.tables e below (T1.setTop (mkF m 9 #[iv p0, iv p1, iv p2, iv p3, iv p4, iv p5, .unset, .unset, .unset, .unset, .unset, .unset, .unset, .unset, .unset] [(.int (own_pick p4 (0 : Int32) p0 (71 : Int32)))])) _
    rewrite [hm0]
    refine XS.istore X1.here hx rfl (hb hby at_9) rfl (l' := #[iv p0, iv p1, iv p2, iv p3, iv p4, iv p5, iv (71 : Int32), .unset, .unset, .unset, .unset, .unset, .unset, .unset, .unset]) rfl ?_
    show Steps p.tables e below (T1.setTop (mkF m 11 #[iv p0, iv p1, iv p2, iv p3, iv p4, iv p5, iv (71 : Int32), .unset, .unset, .unset, .unset, .unset, .unset, .unset, .unset] [])) _
    refine XS.iload X1.here hx rfl (hb hby at_11) rfl ?_
    refine XS.iconst X1.here hx rfl (hb hby at_13) ?_
    refine XS.iloadN X1.here hx rfl (hb hby at_14) rfl ?_
    refine XS.bipush X1.here hx rfl (hb hby at_15) ?_
    refine st2 _ ?_
    refine XS.istore X2.here hx rfl (hb hby at_20) rfl (l' := #[iv p0, iv p1, iv p2, iv p3, iv p4, iv p5, iv (71 : Int32), iv (own_pick p4 (1 : Int32) p1 (73 : Int32)), .unset, .unset, .unset, .unset, .unset, .unset, .unset]) rfl ?_
    show Steps p.tables e below (T2.setTop (mkF m 22 #[iv p0, iv p1, iv p2, iv p3, iv p4, iv p5, iv (71 : Int32), iv (own_pick p4 (1 : Int32) p1 (73 : Int32)), .unset, .unset, .unset, .unset, .unset, .unset, .unset] [])) _
    refine XS.iload X2.here hx rfl (hb hby at_22) rfl ?_
    refine XS.iconst X2.here hx rfl (hb hby at_24) ?_
    refine XS.iloadN X2.here hx rfl (hb hby at_25) rfl ?_
    refine XS.bipush X2.here hx rfl (hb hby at_26) ?_
    refine st3 _ ?_
    refine XS.istore X3.here hx rfl (hb hby at_31) rfl (l' := #[iv p0, iv p1, iv p2, iv p3, iv p4, iv p5, iv (71 : Int32), iv (own_pick p4 (1 : Int32) p1 (73 : Int32)), iv (own_pick p4 (2 : Int32) p2 (79 : Int32)), .unset, .unset, .unset, .unset, .unset, .unset]) rfl ?_
    show Steps p.tables e below (T3.setTop (mkF m 33 #[iv p0, iv p1, iv p2, iv p3, iv p4, iv p5, iv (71 : Int32), iv (own_pick p4 (1 : Int32) p1 (73 : Int32)), iv (own_pick p4 (2 : Int32) p2 (79 : Int32)), .unset, .unset, .unset, .unset, .unset, .unset] [])) _
    refine XS.iload X3.here hx rfl (hb hby at_33) rfl ?_
    refine XS.iconst X3.here hx rfl (hb hby at_35) ?_
    refine XS.iloadN X3.here hx rfl (hb hby at_36) rfl ?_
    refine XS.bipush X3.here hx rfl (hb hby at_37) ?_
    refine st4 _ ?_
    refine XS.istore X4.here hx rfl (hb hby at_42) rfl (l' := #[iv p0, iv p1, iv p2, iv p3, iv p4, iv p5, iv (71 : Int32), iv (own_pick p4 (1 : Int32) p1 (73 : Int32)), iv (own_pick p4 (2 : Int32) p2 (79 : Int32)), iv (own_pick p4 (3 : Int32) p3 (80 : Int32)), .unset, .unset, .unset, .unset, .unset]) rfl ?_
    show Steps p.tables e below (T4.setTop (mkF m 44 #[iv p0, iv p1, iv p2, iv p3, iv p4, iv p5, iv (71 : Int32), iv (own_pick p4 (1 : Int32) p1 (73 : Int32)), iv (own_pick p4 (2 : Int32) p2 (79 : Int32)), iv (own_pick p4 (3 : Int32) p3 (80 : Int32)), .unset, .unset, .unset, .unset, .unset] [])) _
    refine XS.iload X4.here hx rfl (hb hby at_44) rfl ?_
    refine XS.iconst X4.here hx rfl (hb hby at_46) ?_
    refine XS.iushr X4.here hx rfl (hb hby at_47) rfl ?_
    refine XS.iconst X4.here hx rfl (hb hby at_48) ?_
    refine XS.iand X4.here hx rfl (hb hby at_49) rfl ?_
    show Steps p.tables e below (T4.setTop (mkF m 50 #[iv p0, iv p1, iv p2, iv p3, iv p4, iv p5, iv (71 : Int32), iv (own_pick p4 (1 : Int32) p1 (73 : Int32)), iv (own_pick p4 (2 : Int32) p2 (79 : Int32)), iv (own_pick p4 (3 : Int32) p3 (80 : Int32)), .unset, .unset, .unset, .unset, .unset] [(.int (((p4.toUInt32 >>> ((4 : Int32) &&& 31).toUInt32).toInt32) &&& (1 : Int32)))])) _
    rewrite [hs]
    refine XS.ifNo X4.here hx rfl (hb hby at_50) rfl ((if0 _ _).trans (feq (by decide +kernel : ¬ ((1 : Int32) = (0 : Int32)))).1) ?_
    show Steps p.tables e below (T4.setTop (mkF m 53 #[iv p0, iv p1, iv p2, iv p3, iv p4, iv p5, iv (71 : Int32), iv (own_pick p4 (1 : Int32) p1 (73 : Int32)), iv (own_pick p4 (2 : Int32) p2 (79 : Int32)), iv (own_pick p4 (3 : Int32) p3 (80 : Int32)), .unset, .unset, .unset, .unset, .unset] [])) _
    refine XS.iconst X4.here hx rfl (hb hby at_53) ?_
    refine XS.goto X4.here hx rfl (pc0 := 54) (pc' := 58) rfl (hb hby at_54) (by decide) (by decide) ?_
    refine XS.istore X4.here hx rfl (hb hby at_58) rfl (l' := #[iv p0, iv p1, iv p2, iv p3, iv p4, iv p5, iv (71 : Int32), iv (own_pick p4 (1 : Int32) p1 (73 : Int32)), iv (own_pick p4 (2 : Int32) p2 (79 : Int32)), iv (own_pick p4 (3 : Int32) p3 (80 : Int32)), iv (1 : Int32), .unset, .unset, .unset, .unset]) rfl ?_
    refine XS.iload X4.here hx rfl (hb hby at_60) rfl ?_
    refine XS.ifNo X4.here hx rfl (hb hby at_62) rfl ((if0 _ _).trans (feq (by decide +kernel : ¬ ((1 : Int32) = (0 : Int32)))).1) ?_
    refine XS.iconst X4.here hx rfl (hb hby at_65) ?_
    show Steps p.tables e below (T4.setTop (mkF m 66 #[iv p0, iv p1, iv p2, iv p3, iv p4, iv p5, iv (71 : Int32), iv (own_pick p4 (1 : Int32) p1 (73 : Int32)), iv (own_pick p4 (2 : Int32) p2 (79 : Int32)), iv (own_pick p4 (3 : Int32) p3 (80 : Int32)), iv (1 : Int32), .unset, .unset, .unset, .unset] [(.int (4 : Int32))])) _
    refine st5 _ ?_
    refine XS.goto X5.here hx rfl (pc0 := 68) (pc' := 75) rfl (hb hby at_68) (by decide) (by decide) ?_
    refine XS.astore X5.here hx rfl (hb hby at_75) rfl rfl (l' := #[iv p0, iv p1, iv p2, iv p3, iv p4, iv p5, iv (71 : Int32), iv (own_pick p4 (1 : Int32) p1 (73 : Int32)), iv (own_pick p4 (2 : Int32) p2 (79 : Int32)), iv (own_pick p4 (3 : Int32) p3 (80 : Int32)), iv (1 : Int32), rv b0_5, .unset, .unset, .unset]) rfl ?_
    refine XS.aload X5.here hx rfl (hb hby at_77) rfl rfl ?_
    refine XS.iconst X5.here hx rfl (hb hby at_79) ?_
    refine XS.iload X5.here hx rfl (hb hby at_80) rfl ?_
    show Steps p.tables e below (T5.setTop (mkF m 82 #[iv p0, iv p1, iv p2, iv p3, iv p4, iv p5, iv (71 : Int32), iv (own_pick p4 (1 : Int32) p1 (73 : Int32)), iv (own_pick p4 (2 : Int32) p2 (79 : Int32)), iv (own_pick p4 (3 : Int32) p3 (80 : Int32)), iv (1 : Int32), rv b0_5, .unset, .unset, .unset] [(.int (71 : Int32)), (.int (0 : Int32)), (.ref b0_5)])) _
    refine st7 _ ?_
    refine XS.aload X7.here hx rfl (hb hby at_83) rfl rfl ?_
    refine XS.iconst X7.here hx rfl (hb hby at_85) ?_
    refine XS.iload X7.here hx rfl (hb hby at_86) rfl ?_
    refine st9 _ ?_
    refine XS.aload X9.here hx rfl (hb hby at_89) rfl rfl ?_
    show Steps p.tables e below (T9.setTop (mkF m 91 #[iv p0, iv p1, iv p2, iv p3, iv p4, iv p5, iv (71 : Int32), iv (own_pick p4 (1 : Int32) p1 (73 : Int32)), iv (own_pick p4 (2 : Int32) p2 (79 : Int32)), iv (own_pick p4 (3 : Int32) p3 (80 : Int32)), iv (1 : Int32), rv b0_5, .unset, .unset, .unset] [(.ref b0_5)])) _
    refine XS.iconst X9.here hx rfl (hb hby at_91) ?_
    refine XS.iload X9.here hx rfl (hb hby at_92) rfl ?_
    refine st11 _ ?_
    refine XS.aload X11.here hx rfl (hb hby at_95) rfl rfl ?_
    refine XS.iconst X11.here hx rfl (hb hby at_97) ?_
    refine XS.iload X11.here hx rfl (hb hby at_98) rfl ?_
    show Steps p.tables e below (T11.setTop (mkF m 100 #[iv p0, iv p1, iv p2, iv p3, iv p4, iv p5, iv (71 : Int32), iv (own_pick p4 (1 : Int32) p1 (73 : Int32)), iv (own_pick p4 (2 : Int32) p2 (79 : Int32)), iv (own_pick p4 (3 : Int32) p3 (80 : Int32)), iv (1 : Int32), rv b0_5, .unset, .unset, .unset] [(.int (own_pick p4 (3 : Int32) p3 (80 : Int32))), (.int (3 : Int32)), (.ref b0_5)])) _
    refine st13 _ ?_
    refine XS.iload X13.here hx rfl (hb hby at_101) rfl ?_
    refine XS.ifYes X13.here hx rfl (pc0 := 103) (pc' := 145) rfl (hb hby at_103) rfl ((if0 _ _).trans (feq (by decide +kernel : ¬ ((1 : Int32) = (0 : Int32)))).2) (by decide) (by decide) ?_
    refine XS.iload X13.here hx rfl (hb hby at_145) rfl ?_
    refine XS.bipush X13.here hx rfl (hb hby at_147) ?_
    refine XS.icmpNo X13.here hx rfl (hb hby at_149) rfl (teq (by decide +kernel : (71 : Int32) = (71 : Int32))).2 ?_
    show Steps p.tables e below (T13.setTop (mkF m 152 #[iv p0, iv p1, iv p2, iv p3, iv p4, iv p5, iv (71 : Int32), iv (own_pick p4 (1 : Int32) p1 (73 : Int32)), iv (own_pick p4 (2 : Int32) p2 (79 : Int32)), iv (own_pick p4 (3 : Int32) p3 (80 : Int32)), iv (1 : Int32), rv b0_5, .unset, .unset, .unset] [])) _
    refine XS.iload X13.here hx rfl (hb hby at_152) rfl ?_
    refine XS.bipush X13.here hx rfl (hb hby at_154) ?_
    refine XS.icmpYes X13.here hx rfl (pc0 := 156) (pc' := 177) rfl (hb hby at_156) rfl (feq hm1).2 (by decide) (by decide) ?_
    refine XS.iconst X13.here hx rfl (hb hby at_177) ?_
    refine XS.istore X13.here hx rfl (hb hby at_178) rfl (l' := #[iv p0, iv p1, iv p2, iv p3, iv p4, iv p5, iv (71 : Int32), iv (own_pick p4 (1 : Int32) p1 (73 : Int32)), iv (own_pick p4 (2 : Int32) p2 (79 : Int32)), iv (own_pick p4 (3 : Int32) p3 (80 : Int32)), iv (1 : Int32), rv b0_5, iv (0 : Int32), .unset, .unset]) rfl ?_
    refine XS.aload X13.here hx rfl (hb hby at_180) rfl rfl ?_
    show Steps p.tables e below (T13.setTop (mkF m 182 #[iv p0, iv p1, iv p2, iv p3, iv p4, iv p5, iv (71 : Int32), iv (own_pick p4 (1 : Int32) p1 (73 : Int32)), iv (own_pick p4 (2 : Int32) p2 (79 : Int32)), iv (own_pick p4 (3 : Int32) p3 (80 : Int32)), iv (1 : Int32), rv b0_5, iv (0 : Int32), .unset, .unset] [(.ref b0_5)])) _
    refine st14 _ ?_
    refine XS.istore X14.here hx rfl (hb hby at_185) rfl (l' := #[iv p0, iv p1, iv p2, iv p3, iv p4, iv p5, iv (71 : Int32), iv (own_pick p4 (1 : Int32) p1 (73 : Int32)), iv (own_pick p4 (2 : Int32) p2 (79 : Int32)), iv (own_pick p4 (3 : Int32) p3 (80 : Int32)), iv (1 : Int32), rv b0_5, iv (0 : Int32), iv (0 : Int32), .unset]) rfl ?_
    refine XS.aload X14.here hx rfl (hb hby at_187) rfl rfl ?_
    refine XS.iconst X14.here hx rfl (hb hby at_189) ?_
    refine X14.baloadBytes hx (j := (0 : Int32)) (v := (.int (71 : Int32))) (by rw [e14]; exact Ar18.1) (State.isArrayOf_alike hZ.alike Ar18.2.1) Ar18.2.2 hin18 (Hs18.at hin18 rfl) (g := (mkF m 190 #[iv p0, iv p1, iv p2, iv p3, iv p4, iv p5, iv (71 : Int32), iv (own_pick p4 (1 : Int32) p1 (73 : Int32)), iv (own_pick p4 (2 : Int32) p2 (79 : Int32)), iv (own_pick p4 (3 : Int32) p3 (80 : Int32)), iv (1 : Int32), rv b0_5, iv (0 : Int32), iv (0 : Int32), .unset] [(.int (0 : Int32)), (.ref b0_5)])) rfl rfl (hb hby at_190) _ ?_
    refine XS.iload X14.here hx rfl (hb hby at_191) rfl ?_
    show Steps p.tables e below (T14.setTop (mkF m 193 #[iv p0, iv p1, iv p2, iv p3, iv p4, iv p5, iv (71 : Int32), iv (own_pick p4 (1 : Int32) p1 (73 : Int32)), iv (own_pick p4 (2 : Int32) p2 (79 : Int32)), iv (own_pick p4 (3 : Int32) p3 (80 : Int32)), iv (1 : Int32), rv b0_5, iv (0 : Int32), iv (0 : Int32), .unset] [(.int (71 : Int32)), (.int (71 : Int32))])) _
    refine XS.icmpNo X14.here hx rfl (hb hby at_193) rfl (teq (by decide +kernel : (71 : Int32) = (71 : Int32))).2 ?_
    refine XS.aload X14.here hx rfl (hb hby at_196) rfl rfl ?_
    refine XS.iconst X14.here hx rfl (hb hby at_198) ?_
    refine X14.baloadBytes hx (j := (1 : Int32)) (v := (.int (own_pick p4 (1 : Int32) p1 (73 : Int32)))) (by rw [e14]; exact Ar19.1) (State.isArrayOf_alike hZ.alike Ar19.2.1) Ar19.2.2 hin19 (Hs19.at hin19 rfl) (g := (mkF m 199 #[iv p0, iv p1, iv p2, iv p3, iv p4, iv p5, iv (71 : Int32), iv (own_pick p4 (1 : Int32) p1 (73 : Int32)), iv (own_pick p4 (2 : Int32) p2 (79 : Int32)), iv (own_pick p4 (3 : Int32) p3 (80 : Int32)), iv (1 : Int32), rv b0_5, iv (0 : Int32), iv (0 : Int32), .unset] [(.int (1 : Int32)), (.ref b0_5)])) rfl rfl (hb hby at_199) _ ?_
    refine XS.iload X14.here hx rfl (hb hby at_200) rfl ?_
    refine XS.icmpNo X14.here hx rfl (hb hby at_202) rfl (teq (rfl : (own_pick p4 (1 : Int32) p1 (73 : Int32)) = (own_pick p4 (1 : Int32) p1 (73 : Int32)))).2 ?_
    show Steps p.tables e below (T14.setTop (mkF m 205 #[iv p0, iv p1, iv p2, iv p3, iv p4, iv p5, iv (71 : Int32), iv (own_pick p4 (1 : Int32) p1 (73 : Int32)), iv (own_pick p4 (2 : Int32) p2 (79 : Int32)), iv (own_pick p4 (3 : Int32) p3 (80 : Int32)), iv (1 : Int32), rv b0_5, iv (0 : Int32), iv (0 : Int32), .unset] [])) _
    refine XS.aload X14.here hx rfl (hb hby at_205) rfl rfl ?_
    refine XS.iconst X14.here hx rfl (hb hby at_207) ?_
    refine X14.baloadBytes hx (j := (2 : Int32)) (v := (.int (own_pick p4 (2 : Int32) p2 (79 : Int32)))) (by rw [e14]; exact Ar20.1) (State.isArrayOf_alike hZ.alike Ar20.2.1) Ar20.2.2 hin20 (Hs20.at hin20 rfl) (g := (mkF m 208 #[iv p0, iv p1, iv p2, iv p3, iv p4, iv p5, iv (71 : Int32), iv (own_pick p4 (1 : Int32) p1 (73 : Int32)), iv (own_pick p4 (2 : Int32) p2 (79 : Int32)), iv (own_pick p4 (3 : Int32) p3 (80 : Int32)), iv (1 : Int32), rv b0_5, iv (0 : Int32), iv (0 : Int32), .unset] [(.int (2 : Int32)), (.ref b0_5)])) rfl rfl (hb hby at_208) _ ?_
    refine XS.iload X14.here hx rfl (hb hby at_209) rfl ?_
    refine XS.icmpNo X14.here hx rfl (hb hby at_211) rfl (teq (rfl : (own_pick p4 (2 : Int32) p2 (79 : Int32)) = (own_pick p4 (2 : Int32) p2 (79 : Int32)))).2 ?_
    refine XS.aload X14.here hx rfl (hb hby at_214) rfl rfl ?_
    show Steps p.tables e below (T14.setTop (mkF m 216 #[iv p0, iv p1, iv p2, iv p3, iv p4, iv p5, iv (71 : Int32), iv (own_pick p4 (1 : Int32) p1 (73 : Int32)), iv (own_pick p4 (2 : Int32) p2 (79 : Int32)), iv (own_pick p4 (3 : Int32) p3 (80 : Int32)), iv (1 : Int32), rv b0_5, iv (0 : Int32), iv (0 : Int32), .unset] [(.ref b0_5)])) _
    refine XS.iconst X14.here hx rfl (hb hby at_216) ?_
    refine X14.baloadBytes hx (j := (3 : Int32)) (v := (.int (own_pick p4 (3 : Int32) p3 (80 : Int32)))) (by rw [e14]; exact Ar21.1) (State.isArrayOf_alike hZ.alike Ar21.2.1) Ar21.2.2 hin21 (Hs21.at hin21 rfl) (g := (mkF m 217 #[iv p0, iv p1, iv p2, iv p3, iv p4, iv p5, iv (71 : Int32), iv (own_pick p4 (1 : Int32) p1 (73 : Int32)), iv (own_pick p4 (2 : Int32) p2 (79 : Int32)), iv (own_pick p4 (3 : Int32) p3 (80 : Int32)), iv (1 : Int32), rv b0_5, iv (0 : Int32), iv (0 : Int32), .unset] [(.int (3 : Int32)), (.ref b0_5)])) rfl rfl (hb hby at_217) _ ?_
    refine XS.iload X14.here hx rfl (hb hby at_218) rfl ?_
    refine XS.icmpNo X14.here hx rfl (hb hby at_220) rfl (teq (rfl : (own_pick p4 (3 : Int32) p3 (80 : Int32)) = (own_pick p4 (3 : Int32) p3 (80 : Int32)))).2 ?_
    refine XS.iconst X14.here hx rfl (hb hby at_223) ?_
    refine XS.goto X14.here hx rfl (pc0 := 224) (pc' := 228) rfl (hb hby at_224) (by decide) (by decide) ?_
    show Steps p.tables e below (T14.setTop (mkF m 228 #[iv p0, iv p1, iv p2, iv p3, iv p4, iv p5, iv (71 : Int32), iv (own_pick p4 (1 : Int32) p1 (73 : Int32)), iv (own_pick p4 (2 : Int32) p2 (79 : Int32)), iv (own_pick p4 (3 : Int32) p3 (80 : Int32)), iv (1 : Int32), rv b0_5, iv (0 : Int32), iv (0 : Int32), .unset] [(.int (1 : Int32))])) _
    refine XS.istore X14.here hx rfl (hb hby at_228) rfl (l' := #[iv p0, iv p1, iv p2, iv p3, iv p4, iv p5, iv (71 : Int32), iv (own_pick p4 (1 : Int32) p1 (73 : Int32)), iv (own_pick p4 (2 : Int32) p2 (79 : Int32)), iv (own_pick p4 (3 : Int32) p3 (80 : Int32)), iv (1 : Int32), rv b0_5, iv (0 : Int32), iv (0 : Int32), iv (1 : Int32)]) rfl ?_
    refine XS.iload X14.here hx rfl (hb hby at_230) rfl ?_
    refine XS.iload X14.here hx rfl (hb hby at_232) rfl ?_
    refine XS.icmpNo X14.here hx rfl (hb hby at_234) rfl (teq (by decide +kernel : (0 : Int32) = (0 : Int32))).2 ?_
    refine XS.iload X14.here hx rfl (hb hby at_237) rfl ?_
    refine XS.ifNo X14.here hx rfl (hb hby at_239) rfl ((if0 _ _).trans (feq (by decide +kernel : ¬ ((1 : Int32) = (0 : Int32)))).1) ?_
    show Steps p.tables e below (T14.setTop (mkF m 242 #[iv p0, iv p1, iv p2, iv p3, iv p4, iv p5, iv (71 : Int32), iv (own_pick p4 (1 : Int32) p1 (73 : Int32)), iv (own_pick p4 (2 : Int32) p2 (79 : Int32)), iv (own_pick p4 (3 : Int32) p3 (80 : Int32)), iv (1 : Int32), rv b0_5, iv (0 : Int32), iv (0 : Int32), iv (1 : Int32)] [])) _
    refine XS.iconst X14.here hx rfl (hb hby at_242) ?_
    refine XS.goto X14.here hx rfl (pc0 := 243) (pc' := 247) rfl (hb hby at_243) (by decide) (by decide) ?_
    exact retN X14 hx (t := .boolean) Bd.returns (by simp) (hb hby at_247) hr
  · exact ⟨rfl, N14⟩
set_option maxRecDepth 65536 in
set_option maxHeartbeats 40000000 in
theorem rm2_9 (l : Launch) (Z : State) (a0 : Array Value) (hw : ∀ d ∈ tables_1, d.before a0 Z = true) (ws : List Jvm.Cond) (p0 : Int32) (p1 : Int32) (p2 : Int32) (p3 : Int32) (p4 : Int32) (w_Giop_MAGIC : Addr) (k_w_Giop_MAGIC : ClassId) (b0_5 : Addr) (k0_5 : ClassId) (h0 : Heap) (n0 : Nat) (Z0 : n0 ≤ h0.size) (S_Giop_MAGIC : Sta Z h0 "org/driftcairn/giop/Giop" "MAGIC" "[B" (.ref w_Giop_MAGIC)) (V_w_Giop_MAGIC : Arv Z h0 w_Giop_MAGIC k_w_Giop_MAGIC .byte (4 : Int32) [(.int (71 : Int32)), (.int (73 : Int32)), (.int (79 : Int32)), (.int (80 : Int32))] (.int (0 : Int32))) (V_b0_5 : Arv Z h0 b0_5 k0_5 .byte (4 : Int32) [(.int (own_pick p4 (0 : Int32) p0 (71 : Int32))), (.int (own_pick p4 (1 : Int32) p1 (73 : Int32))), (.int (own_pick p4 (2 : Int32) p2 (79 : Int32))), (.int (own_pick p4 (3 : Int32) p3 (80 : Int32)))] (.int (0 : Int32))) (hm0 : ¬ ((own_pick p4 (0 : Int32) p0 (71 : Int32)) = (71 : Int32))) :
    MetFree l (⟨"org/driftcairn/giop/Giop", "hasMagic", "([B)Z"⟩ : MethodName) (head1 (Jvm.Cond.code (⟨"org/driftcairn/giop/Giop", "hasMagic", "([B)Z"⟩ : MethodName) prog_59_method_2_code 2 (some .boolean) :: ws) ({ frames := 0, cells := 0, slots := 0, locals := 0 } : Room)) (fun a U => a = #[(.ref b0_5)] ∧ Z.Warmed39 U.vm ∧ U.heap = h0) (fun _ _ _ _ _ => True) (fun _ U o U' => ∃ v L, o = .returned v ∧ own_QP (some (.int (0 : Int32))) h0 n0 v U'.heap L ∧ FrameEnd U o U' L ({ frames := 0, cells := 0, slots := 0, locals := 0 } : Room).cells ({ frames := 0, cells := 0, slots := 0, locals := 0 } : Room).slots) := by
  refine MetFree.of_bodySF (plainFor_of_name pn_1) hisR ?_
  intro p e s m args below meth c s₁ Bd hml0 hP hK
  obtain ⟨rfl, hZ, hh⟩ := hP
  have hx := Bd.exec
  have hby := Bd.bytes
  have hml : c.maxLocals = 2 := hml0
  have hown : s.vm.findClass "org/driftcairn/giop/Giop" = some m.cls := findClass_of_methodNamed Bd.named
  have hnm := (name_of_methodNamed Bd.named Bd.method).1
  have X0 : Stand p l e ({ frames := 0, cells := 0, slots := 0, locals := 0 } : Room) s m #[(.ref b0_5)] below meth c s₁ [] 0 0 := Stand.of_body Bd
  have e0 : s₁.heap = h0 := by rw [← hh, Bd.state]; rfl
  have N0 := Fr.nil n0
  have pre0 : ∀ t, Steps p.tables e below (s₁.setTop (mkF m 0 #[rv b0_5, .unset] [])) t → Steps p.tables e below (s₁.setTop (entryFrame m #[(.ref b0_5)] 2)) t := fun t k => castTop (ef_2_R m b0_5) k
  obtain ⟨T1, X1, e1, st1⟩ := getS2 X0 hx hZ hown (host := "") (Or.inl (hw _ (List.mem_of_getElem? (i := 9) rfl))) Via.refl e0 S_Giop_MAGIC (g := (mkF m 3 #[rv b0_5, iv (0 : Int32)] [(.int (0 : Int32))])) rfl (hb hby d2_3)
  obtain ⟨cl2, Ar2, -, Sz2, Nn2, -, -⟩ := id V_w_Giop_MAGIC
  obtain ⟨cl3, Ar3, -, Sz3, Nn3, Hs3, Gs3⟩ := id V_b0_5
  have hin3 : ¬ ((0 : Int32) < 0 ∨ cl3.slots.size ≤ ((0 : Int32)).toNatClampNeg) := inb_of Sz3 ⟨by decide, by decide⟩
  obtain ⟨T4, X4, e4, st4⟩ := getS2 X1 hx hZ hown (host := "") (Or.inl (hw _ (List.mem_of_getElem? (i := 9) rfl))) Via.refl e1 S_Giop_MAGIC (g := (mkF m 13 #[rv b0_5, iv (0 : Int32)] [(.int (own_pick p4 (0 : Int32) p0 (71 : Int32)))])) rfl (hb hby d2_13)
  obtain ⟨cl5, Ar5, -, Sz5, Nn5, Hs5, Gs5⟩ := id V_w_Giop_MAGIC
  have hin5 : ¬ ((0 : Int32) < 0 ∨ cl5.slots.size ≤ ((0 : Int32)).toNatClampNeg) := inb_of Sz5 ⟨by decide, by decide⟩
  obtain ⟨fs, hr, hrun, hended, hW, hsame⟩ := X4.leave (v := (some (.int (0 : Int32)))) (fun h => by rw [Bd.returns] at h; cases h)
  refine ⟨_, _, pre0 _ ?_, hrun, hended, _, _, rfl, ?_, ⟨_, rfl⟩, hW, hsame.mono (by decide) (by decide)⟩
  · show Steps p.tables e below (s₁.setTop (mkF m 0 #[rv b0_5, .unset] [])) _
    refine XS.iconst X0.here hx rfl (hb hby d2_0) ?_
    refine XS.istoreN X0.here hx rfl (hb hby d2_1) rfl (l' := #[rv b0_5, iv (0 : Int32)]) rfl ?_
    refine XS.iloadN X0.here hx rfl (hb hby d2_2) rfl ?_
    refine st1 _ ?_
    refine X1.arraylength hx (by rw [e1]; exact Ar2.1) (State.isArrayOf_alike hZ.alike Ar2.2.1) (g := (mkF m 6 #[rv b0_5, iv (0 : Int32)] [(.ref w_Giop_MAGIC), (.int (0 : Int32))])) rfl rfl (hb hby d2_6) _ ?_
    rw [len_of Sz2 Nn2]
    refine XS.icmpNo X1.here hx rfl (hb hby d2_7) rfl (tlt (by decide +kernel : (0 : Int32) < (4 : Int32))).2.1 ?_
    show Steps p.tables e below (T1.setTop (mkF m 10 #[rv b0_5, iv (0 : Int32)] [])) _
    refine XS.aloadN X1.here hx rfl (hb hby d2_10) rfl rfl ?_
    refine XS.iloadN X1.here hx rfl (hb hby d2_11) rfl ?_
    refine X1.baloadBytes hx (j := (0 : Int32)) (v := (.int (own_pick p4 (0 : Int32) p0 (71 : Int32)))) (by rw [e1]; exact Ar3.1) (State.isArrayOf_alike hZ.alike Ar3.2.1) Ar3.2.2 hin3 (Hs3.at hin3 rfl) (g := (mkF m 12 #[rv b0_5, iv (0 : Int32)] [(.int (0 : Int32)), (.ref b0_5)])) rfl rfl (hb hby d2_12) _ ?_
    refine st4 _ ?_
    refine XS.iloadN X4.here hx rfl (hb hby d2_16) rfl ?_
    refine X4.baloadBytes hx (j := (0 : Int32)) (v := (.int (71 : Int32))) (by rw [e4]; exact Ar5.1) (State.isArrayOf_alike hZ.alike Ar5.2.1) Ar5.2.2 hin5 (Hs5.at hin5 rfl) (g := (mkF m 17 #[rv b0_5, iv (0 : Int32)] [(.int (0 : Int32)), (.ref w_Giop_MAGIC), (.int (own_pick p4 (0 : Int32) p0 (71 : Int32)))])) rfl rfl (hb hby d2_17) _ ?_
    show Steps p.tables e below (T4.setTop (mkF m 18 #[rv b0_5, iv (0 : Int32)] [(.int (71 : Int32)), (.int (own_pick p4 (0 : Int32) p0 (71 : Int32)))])) _
    refine XS.icmpNo X4.here hx rfl (hb hby d2_18) rfl (feq hm0).1 ?_
    refine XS.iconst X4.here hx rfl (hb hby d2_21) ?_
    exact retN X4 hx (t := .boolean) Bd.returns (by simp) (hb hby d2_22) hr
  · exact ⟨rfl, N0, e4⟩
set_option maxRecDepth 65536 in
set_option maxHeartbeats 40000000 in
theorem rm0_9 (l : Launch) (Z : State) (a0 : Array Value) (hw : ∀ d ∈ tables_1, d.before a0 Z = true) (ws : List Jvm.Cond) (p0 : Int32) (p1 : Int32) (p2 : Int32) (p3 : Int32) (p4 : Int32) (p5 : Int32) (w_Giop_MAGIC : Addr) (k_w_Giop_MAGIC : ClassId) (h0 : Heap) (n0 : Nat) (Z0 : n0 ≤ h0.size) (hs : (((p4.toUInt32 >>> ((4 : Int32) &&& 31).toUInt32).toInt32) &&& (1 : Int32)) = (1 : Int32)) (hm0 : ¬ ((own_pick p4 (0 : Int32) p0 (71 : Int32)) = (71 : Int32))) (S_Giop_MAGIC : Sta Z h0 "org/driftcairn/giop/Giop" "MAGIC" "[B" (.ref w_Giop_MAGIC)) (V_w_Giop_MAGIC : Arv Z h0 w_Giop_MAGIC k_w_Giop_MAGIC .byte (4 : Int32) [(.int (71 : Int32)), (.int (73 : Int32)), (.int (79 : Int32)), (.int (80 : Int32))] (.int (0 : Int32))) :
    MetFree l x (head1 (Jvm.Cond.code x code maxLocals ret :: ws) room_1) (fun a U => a = #[(.int p0), (.int p1), (.int p2), (.int p3), (.int p4), (.int p5)] ∧ Z.Warmed39 U.vm ∧ U.heap = h0) (fun _ _ _ _ _ => True) (fun _ U o U' => ∃ v L, o = .returned v ∧ own_QL n0 v U'.heap L ∧ FrameEnd U o U' L room_1.cells room_1.slots) := by
  refine MetFree.of_bodySF (plainFor_of_name pn_0) hisR ?_
  intro p e s m args below meth c s₁ Bd hml0 hP hK
  obtain ⟨rfl, hZ, hh⟩ := hP
  have hx := Bd.exec
  have hby := Bd.bytes
  have hml : c.maxLocals = 15 := hml0
  have hown : s.vm.findClass "org/driftcairn/giop/GiopHasMagicPinLaw" = some m.cls := findClass_of_methodNamed Bd.named
  have hnm := (name_of_methodNamed Bd.named Bd.method).1
  have X0 : Stand p l e room_1 s m #[(.int p0), (.int p1), (.int p2), (.int p3), (.int p4), (.int p5)] below meth c s₁ [] 0 0 := Stand.of_body Bd
  have e0 : s₁.heap = h0 := by rw [← hh, Bd.state]; rfl
  have N0 := Fr.nil n0
  have pre0 : ∀ t, Steps p.tables e below (s₁.setTop (mkF m 0 #[iv p0, iv p1, iv p2, iv p3, iv p4, iv p5, .unset, .unset, .unset, .unset, .unset, .unset, .unset, .unset, .unset] [])) t → Steps p.tables e below (s₁.setTop (entryFrame m #[(.int p0), (.int p1), (.int p2), (.int p3), (.int p4), (.int p5)] maxLocals)) t := fun t k => castTop (ef_0_IIIIII m p0 p1 p2 p3 p4 p5) k
  obtain ⟨_, _, ⟨T1, L1, k1, n1⟩, -, X1, ⟨Lc1, hQ1, l1, y1, z1⟩, st1⟩ := Jvm.LawKit.callS X0 hx (y := (⟨"org/driftcairn/giop/GiopHasMagicPinLaw", "pick", "(IIIC)B"⟩ : MethodName)) hown (mvT hZ (hw _ (List.mem_of_getElem? (i := 0) rfl))) (mvT hZ (hw _ (List.mem_of_getElem? (i := 1) rfl))) (mvT hZ (hw _ (List.mem_of_getElem? (i := 2) rfl))) (mvT hZ (hw _ (List.mem_of_getElem? (i := 3) rfl))) (by decide) (backOf (W := 0) (rk_pick l Z a0 hw [] p4 (0 : Int32) p0 (71 : Int32) h0 n0 Z0 ) hZ (hw _ (List.mem_of_getElem? (i := 3) rfl)) (hw _ (List.mem_of_getElem? (i := 2) rfl)) (by decide) (by decide)) (g := (mkF m 6 #[iv p0, iv p1, iv p2, iv p3, iv p4, iv p5, .unset, .unset, .unset, .unset, .unset, .unset, .unset, .unset, .unset] [(.int (71 : Int32)), (.int p0), (.int (0 : Int32)), (.int p4)])) rfl (by rw [hml]; rfl) (argsL := [(.int p4), (.int (0 : Int32)), (.int p0), (.int (71 : Int32))]) (rest := []) (lenOf pd_0 rfl) rfl (by show 2 * 0 + _ ≤ _; exact Nat.le_of_eq rfl) (hb hby at_6) (fun _ _ => ⟨rfl, e0, (by decide : 0 + 0 ≤ _), (by decide : 0 + 0 ≤ _)⟩)
  dsimp only [Pt.U, Pt.locs, Pt.cells, Pt.slots] at X1 l1 y1 z1 st1 hQ1
  subst l1 y1 z1
  obtain ⟨rfl, N1q, e1⟩ := hQ1
  have N1 := Fr.app N0 N1q
  obtain ⟨_, _, ⟨T2, L2, k2, n2⟩, -, X2, ⟨Lc2, hQ2, l2, y2, z2⟩, st2⟩ := Jvm.LawKit.callS X1 hx (y := (⟨"org/driftcairn/giop/GiopHasMagicPinLaw", "pick", "(IIIC)B"⟩ : MethodName)) hown (mvT hZ (hw _ (List.mem_of_getElem? (i := 0) rfl))) (mvT hZ (hw _ (List.mem_of_getElem? (i := 1) rfl))) (mvT hZ (hw _ (List.mem_of_getElem? (i := 2) rfl))) (mvT hZ (hw _ (List.mem_of_getElem? (i := 3) rfl))) (by decide) (backOf (W := 0) (rk_pick l Z a0 hw [] p4 (1 : Int32) p1 (73 : Int32) h0 n0 Z0 ) hZ (hw _ (List.mem_of_getElem? (i := 3) rfl)) (hw _ (List.mem_of_getElem? (i := 2) rfl)) (by decide) (by decide)) (g := (mkF m 17 #[iv p0, iv p1, iv p2, iv p3, iv p4, iv p5, iv (own_pick p4 (0 : Int32) p0 (71 : Int32)), .unset, .unset, .unset, .unset, .unset, .unset, .unset, .unset] [(.int (73 : Int32)), (.int p1), (.int (1 : Int32)), (.int p4)])) rfl (by rw [hml]; rfl) (argsL := [(.int p4), (.int (1 : Int32)), (.int p1), (.int (73 : Int32))]) (rest := []) (lenOf pd_0 rfl) rfl (by show 2 * 0 + _ ≤ _; exact Nat.le_of_eq rfl) (hb hby at_17) (fun _ _ => ⟨rfl, e1, (by decide : 0 + 0 ≤ _), (by decide : 0 + 0 ≤ _)⟩)
  dsimp only [Pt.U, Pt.locs, Pt.cells, Pt.slots] at X2 l2 y2 z2 st2 hQ2
  subst l2 y2 z2
  obtain ⟨rfl, N2q, e2⟩ := hQ2
  have N2 := Fr.app N1 N2q
  obtain ⟨_, _, ⟨T3, L3, k3, n3⟩, -, X3, ⟨Lc3, hQ3, l3, y3, z3⟩, st3⟩ := Jvm.LawKit.callS X2 hx (y := (⟨"org/driftcairn/giop/GiopHasMagicPinLaw", "pick", "(IIIC)B"⟩ : MethodName)) hown (mvT hZ (hw _ (List.mem_of_getElem? (i := 0) rfl))) (mvT hZ (hw _ (List.mem_of_getElem? (i := 1) rfl))) (mvT hZ (hw _ (List.mem_of_getElem? (i := 2) rfl))) (mvT hZ (hw _ (List.mem_of_getElem? (i := 3) rfl))) (by decide) (backOf (W := 0) (rk_pick l Z a0 hw [] p4 (2 : Int32) p2 (79 : Int32) h0 n0 Z0 ) hZ (hw _ (List.mem_of_getElem? (i := 3) rfl)) (hw _ (List.mem_of_getElem? (i := 2) rfl)) (by decide) (by decide)) (g := (mkF m 28 #[iv p0, iv p1, iv p2, iv p3, iv p4, iv p5, iv (own_pick p4 (0 : Int32) p0 (71 : Int32)), iv (own_pick p4 (1 : Int32) p1 (73 : Int32)), .unset, .unset, .unset, .unset, .unset, .unset, .unset] [(.int (79 : Int32)), (.int p2), (.int (2 : Int32)), (.int p4)])) rfl (by rw [hml]; rfl) (argsL := [(.int p4), (.int (2 : Int32)), (.int p2), (.int (79 : Int32))]) (rest := []) (lenOf pd_0 rfl) rfl (by show 2 * 0 + _ ≤ _; exact Nat.le_of_eq rfl) (hb hby at_28) (fun _ _ => ⟨rfl, e2, (by decide : 0 + 0 ≤ _), (by decide : 0 + 0 ≤ _)⟩)
  dsimp only [Pt.U, Pt.locs, Pt.cells, Pt.slots] at X3 l3 y3 z3 st3 hQ3
  subst l3 y3 z3
  obtain ⟨rfl, N3q, e3⟩ := hQ3
  have N3 := Fr.app N2 N3q
  obtain ⟨_, _, ⟨T4, L4, k4, n4⟩, -, X4, ⟨Lc4, hQ4, l4, y4, z4⟩, st4⟩ := Jvm.LawKit.callS X3 hx (y := (⟨"org/driftcairn/giop/GiopHasMagicPinLaw", "pick", "(IIIC)B"⟩ : MethodName)) hown (mvT hZ (hw _ (List.mem_of_getElem? (i := 0) rfl))) (mvT hZ (hw _ (List.mem_of_getElem? (i := 1) rfl))) (mvT hZ (hw _ (List.mem_of_getElem? (i := 2) rfl))) (mvT hZ (hw _ (List.mem_of_getElem? (i := 3) rfl))) (by decide) (backOf (W := 0) (rk_pick l Z a0 hw [] p4 (3 : Int32) p3 (80 : Int32) h0 n0 Z0 ) hZ (hw _ (List.mem_of_getElem? (i := 3) rfl)) (hw _ (List.mem_of_getElem? (i := 2) rfl)) (by decide) (by decide)) (g := (mkF m 39 #[iv p0, iv p1, iv p2, iv p3, iv p4, iv p5, iv (own_pick p4 (0 : Int32) p0 (71 : Int32)), iv (own_pick p4 (1 : Int32) p1 (73 : Int32)), iv (own_pick p4 (2 : Int32) p2 (79 : Int32)), .unset, .unset, .unset, .unset, .unset, .unset] [(.int (80 : Int32)), (.int p3), (.int (3 : Int32)), (.int p4)])) rfl (by rw [hml]; rfl) (argsL := [(.int p4), (.int (3 : Int32)), (.int p3), (.int (80 : Int32))]) (rest := []) (lenOf pd_0 rfl) rfl (by show 2 * 0 + _ ≤ _; exact Nat.le_of_eq rfl) (hb hby at_39) (fun _ _ => ⟨rfl, e3, (by decide : 0 + 0 ≤ _), (by decide : 0 + 0 ≤ _)⟩)
  dsimp only [Pt.U, Pt.locs, Pt.cells, Pt.slots] at X4 l4 y4 z4 st4 hQ4
  subst l4 y4 z4
  obtain ⟨rfl, N4q, e4⟩ := hQ4
  have N4 := Fr.app N3 N4q
  obtain ⟨T5, h5, k0_5, X5, e5, E5, A5, st5⟩ := newP X4 hx hZ (hw _ (List.mem_of_getElem? (i := 4) rfl)) e4 (g := (mkF m 66 #[iv p0, iv p1, iv p2, iv p3, iv p4, iv p5, iv (own_pick p4 (0 : Int32) p0 (71 : Int32)), iv (own_pick p4 (1 : Int32) p1 (73 : Int32)), iv (own_pick p4 (2 : Int32) p2 (79 : Int32)), iv (own_pick p4 (3 : Int32) p3 (80 : Int32)), iv (1 : Int32), .unset, .unset, .unset, .unset] [(.int (4 : Int32))])) rfl (hb hby at_66) rfl (by decide) (cap := 4) (by decide) (by decide) (by decide) (by decide)
  obtain ⟨b0_5, gg5⟩ : ∃ z, z = h0.size := ⟨_, rfl⟩
  rw [← gg5] at A5 st5
  have g_b0_5 : n0 ≤ b0_5 := Nat.le_trans Z0 (Nat.le_of_eq gg5.symm)
  have sz_b0_5 : h0.size ≤ b0_5 := Nat.le_trans (Keep.refl h0 []).1 (Nat.le_of_eq gg5.symm)
  have Z5 : n0 ≤ h5.size := Nat.le_trans Z0 E5.1
  have KK5 : Keep h0 h5 [] := (Keep.refl h0 []).ext E5
  have V_b0_5 : Arv Z h5 b0_5 k0_5 .byte (4 : Int32) [(.int (0 : Int32)), (.int (0 : Int32)), (.int (0 : Int32)), (.int (0 : Int32))] (.int (0 : Int32)) := (Arv.new A5 (by decide)).pad (pad_rep [] (.int (0 : Int32)) 4)
  obtain ⟨cl6, Ar6, qq6, Sz6, Nn6, Hs6, Gs6⟩ := id V_b0_5
  have hin6 : ¬ ((0 : Int32) < 0 ∨ cl6.slots.size ≤ ((0 : Int32)).toNatClampNeg) := inb_of Sz6 ⟨by decide, by decide⟩
  obtain ⟨T7, h7, X7, e7, W7, st7⟩ := stB X5 hx hZ e5 Ar6 (j := (0 : Int32)) hin6 (g := (mkF m 82 #[iv p0, iv p1, iv p2, iv p3, iv p4, iv p5, iv (own_pick p4 (0 : Int32) p0 (71 : Int32)), iv (own_pick p4 (1 : Int32) p1 (73 : Int32)), iv (own_pick p4 (2 : Int32) p2 (79 : Int32)), iv (own_pick p4 (3 : Int32) p3 (80 : Int32)), iv (1 : Int32), rv b0_5, .unset, .unset, .unset] [(.int (own_pick p4 (0 : Int32) p0 (71 : Int32))), (.int (0 : Int32)), (.ref b0_5)])) rfl rfl (hb hby at_82)
  have va7 := Arv.set Ar6 qq6 Sz6 Nn6 Hs6 Gs6 (fits_nar_byte _) W7 0 rfl (Nat.le_of_ble_eq_true rfl)
  have vb7 : Arv Z h7 b0_5 k0_5 .byte (4 : Int32) [(.int (own_pick p4 (0 : Int32) p0 (71 : Int32))), (.int (0 : Int32)), (.int (0 : Int32)), (.int (0 : Int32))] (.int (0 : Int32)) := by have t := va7; have q : ((own_pick p4 (0 : Int32) p0 (71 : Int32))).toInt8.toInt32 = (own_pick p4 (0 : Int32) p0 (71 : Int32)) := (own_pick_b _ _ _ _); rw [q] at t; exact t
  have Z7 : n0 ≤ h7.size := Nat.le_trans Z5 (Keep.of_wr W7).1
  have KK7 : Keep h0 h7 [] := KK5.wr W7 (Or.inr sz_b0_5)
  have N7 := Fr.snoc X7 N4 g_b0_5
  obtain ⟨cl8, Ar8, qq8, Sz8, Nn8, Hs8, Gs8⟩ := id vb7
  have hin8 : ¬ ((1 : Int32) < 0 ∨ cl8.slots.size ≤ ((1 : Int32)).toNatClampNeg) := inb_of Sz8 ⟨by decide, by decide⟩
  obtain ⟨T9, h9, X9, e9, W9, st9⟩ := stB X7 hx hZ e7 Ar8 (j := (1 : Int32)) hin8 (g := (mkF m 88 #[iv p0, iv p1, iv p2, iv p3, iv p4, iv p5, iv (own_pick p4 (0 : Int32) p0 (71 : Int32)), iv (own_pick p4 (1 : Int32) p1 (73 : Int32)), iv (own_pick p4 (2 : Int32) p2 (79 : Int32)), iv (own_pick p4 (3 : Int32) p3 (80 : Int32)), iv (1 : Int32), rv b0_5, .unset, .unset, .unset] [(.int (own_pick p4 (1 : Int32) p1 (73 : Int32))), (.int (1 : Int32)), (.ref b0_5)])) rfl rfl (hb hby at_88)
  have va9 := Arv.set Ar8 qq8 Sz8 Nn8 Hs8 Gs8 (fits_nar_byte _) W9 1 rfl (Nat.le_of_ble_eq_true rfl)
  have vb9 : Arv Z h9 b0_5 k0_5 .byte (4 : Int32) [(.int (own_pick p4 (0 : Int32) p0 (71 : Int32))), (.int (own_pick p4 (1 : Int32) p1 (73 : Int32))), (.int (0 : Int32)), (.int (0 : Int32))] (.int (0 : Int32)) := by have t := va9; have q : ((own_pick p4 (1 : Int32) p1 (73 : Int32))).toInt8.toInt32 = (own_pick p4 (1 : Int32) p1 (73 : Int32)) := (own_pick_b _ _ _ _); rw [q] at t; exact t
  have Z9 : n0 ≤ h9.size := Nat.le_trans Z7 (Keep.of_wr W9).1
  have KK9 : Keep h0 h9 [] := KK7.wr W9 (Or.inr sz_b0_5)
  have N9 := Fr.snoc X9 N7 g_b0_5
  obtain ⟨cl10, Ar10, qq10, Sz10, Nn10, Hs10, Gs10⟩ := id vb9
  have hin10 : ¬ ((2 : Int32) < 0 ∨ cl10.slots.size ≤ ((2 : Int32)).toNatClampNeg) := inb_of Sz10 ⟨by decide, by decide⟩
  obtain ⟨T11, h11, X11, e11, W11, st11⟩ := stB X9 hx hZ e9 Ar10 (j := (2 : Int32)) hin10 (g := (mkF m 94 #[iv p0, iv p1, iv p2, iv p3, iv p4, iv p5, iv (own_pick p4 (0 : Int32) p0 (71 : Int32)), iv (own_pick p4 (1 : Int32) p1 (73 : Int32)), iv (own_pick p4 (2 : Int32) p2 (79 : Int32)), iv (own_pick p4 (3 : Int32) p3 (80 : Int32)), iv (1 : Int32), rv b0_5, .unset, .unset, .unset] [(.int (own_pick p4 (2 : Int32) p2 (79 : Int32))), (.int (2 : Int32)), (.ref b0_5)])) rfl rfl (hb hby at_94)
  have va11 := Arv.set Ar10 qq10 Sz10 Nn10 Hs10 Gs10 (fits_nar_byte _) W11 2 rfl (Nat.le_of_ble_eq_true rfl)
  have vb11 : Arv Z h11 b0_5 k0_5 .byte (4 : Int32) [(.int (own_pick p4 (0 : Int32) p0 (71 : Int32))), (.int (own_pick p4 (1 : Int32) p1 (73 : Int32))), (.int (own_pick p4 (2 : Int32) p2 (79 : Int32))), (.int (0 : Int32))] (.int (0 : Int32)) := by have t := va11; have q : ((own_pick p4 (2 : Int32) p2 (79 : Int32))).toInt8.toInt32 = (own_pick p4 (2 : Int32) p2 (79 : Int32)) := (own_pick_b _ _ _ _); rw [q] at t; exact t
  have Z11 : n0 ≤ h11.size := Nat.le_trans Z9 (Keep.of_wr W11).1
  have KK11 : Keep h0 h11 [] := KK9.wr W11 (Or.inr sz_b0_5)
  have N11 := Fr.snoc X11 N9 g_b0_5
  obtain ⟨cl12, Ar12, qq12, Sz12, Nn12, Hs12, Gs12⟩ := id vb11
  have hin12 : ¬ ((3 : Int32) < 0 ∨ cl12.slots.size ≤ ((3 : Int32)).toNatClampNeg) := inb_of Sz12 ⟨by decide, by decide⟩
  obtain ⟨T13, h13, X13, e13, W13, st13⟩ := stB X11 hx hZ e11 Ar12 (j := (3 : Int32)) hin12 (g := (mkF m 100 #[iv p0, iv p1, iv p2, iv p3, iv p4, iv p5, iv (own_pick p4 (0 : Int32) p0 (71 : Int32)), iv (own_pick p4 (1 : Int32) p1 (73 : Int32)), iv (own_pick p4 (2 : Int32) p2 (79 : Int32)), iv (own_pick p4 (3 : Int32) p3 (80 : Int32)), iv (1 : Int32), rv b0_5, .unset, .unset, .unset] [(.int (own_pick p4 (3 : Int32) p3 (80 : Int32))), (.int (3 : Int32)), (.ref b0_5)])) rfl rfl (hb hby at_100)
  have va13 := Arv.set Ar12 qq12 Sz12 Nn12 Hs12 Gs12 (fits_nar_byte _) W13 3 rfl (Nat.le_of_ble_eq_true rfl)
  have vb13 : Arv Z h13 b0_5 k0_5 .byte (4 : Int32) [(.int (own_pick p4 (0 : Int32) p0 (71 : Int32))), (.int (own_pick p4 (1 : Int32) p1 (73 : Int32))), (.int (own_pick p4 (2 : Int32) p2 (79 : Int32))), (.int (own_pick p4 (3 : Int32) p3 (80 : Int32)))] (.int (0 : Int32)) := by have t := va13; have q : ((own_pick p4 (3 : Int32) p3 (80 : Int32))).toInt8.toInt32 = (own_pick p4 (3 : Int32) p3 (80 : Int32)) := (own_pick_b _ _ _ _); rw [q] at t; exact t
  have Z13 : n0 ≤ h13.size := Nat.le_trans Z11 (Keep.of_wr W13).1
  have KK13 : Keep h0 h13 [] := KK11.wr W13 (Or.inr sz_b0_5)
  have N13 := Fr.snoc X13 N11 g_b0_5
  have c15 := (((((S_Giop_MAGIC.ext E5).wr W7).wr W9).wr W11).wr W13)
  have ne_b0_5_w_Giop_MAGIC_16 : ¬ (b0_5 = w_Giop_MAGIC) := (Ne.symm (Nat.ne_of_lt (Nat.lt_of_lt_of_le (V_w_Giop_MAGIC).lt (Nat.le_of_eq gg5.symm))))
  have c17 := (((((V_w_Giop_MAGIC.ext E5).other W7 (Ne.symm ne_b0_5_w_Giop_MAGIC_16)).other W9 (Ne.symm ne_b0_5_w_Giop_MAGIC_16)).other W11 (Ne.symm ne_b0_5_w_Giop_MAGIC_16)).other W13 (Ne.symm ne_b0_5_w_Giop_MAGIC_16))
  obtain ⟨_, _, ⟨T14, L14, k14, n14⟩, -, X14, ⟨Lc14, hQ14, l14, y14, z14⟩, st14⟩ := Jvm.LawKit.callS X13 hx (y := (⟨"org/driftcairn/giop/Giop", "hasMagic", "([B)Z"⟩ : MethodName)) hown (mvT hZ (hw _ (List.mem_of_getElem? (i := 5) rfl))) (mvT hZ (hw _ (List.mem_of_getElem? (i := 6) rfl))) (mvT hZ (hw _ (List.mem_of_getElem? (i := 7) rfl))) (mvT hZ (hw _ (List.mem_of_getElem? (i := 8) rfl))) (by decide) (backOf (W := 0) (rm2_9 l Z a0 hw [] p0 p1 p2 p3 p4 w_Giop_MAGIC k_w_Giop_MAGIC b0_5 k0_5 h13 n0 Z13 c15 c17 vb13 hm0) hZ (hw _ (List.mem_of_getElem? (i := 8) rfl)) (hw _ (List.mem_of_getElem? (i := 7) rfl)) (by decide) (by decide)) (g := (mkF m 182 #[iv p0, iv p1, iv p2, iv p3, iv p4, iv p5, iv (own_pick p4 (0 : Int32) p0 (71 : Int32)), iv (own_pick p4 (1 : Int32) p1 (73 : Int32)), iv (own_pick p4 (2 : Int32) p2 (79 : Int32)), iv (own_pick p4 (3 : Int32) p3 (80 : Int32)), iv (1 : Int32), rv b0_5, iv (0 : Int32), .unset, .unset] [(.ref b0_5)])) rfl (by rw [hml]; rfl) (argsL := [(.ref b0_5)]) (rest := []) (lenOf pd_1 rfl) rfl (by show 2 * 0 + _ ≤ _; exact Nat.le_of_eq rfl) (hb hby at_182) (fun _ _ => ⟨rfl, e13, (by decide : 1 + 0 ≤ _), (by decide : 4 + 0 ≤ _)⟩)
  dsimp only [Pt.U, Pt.locs, Pt.cells, Pt.slots] at X14 l14 y14 z14 st14 hQ14
  subst l14 y14 z14
  obtain ⟨rfl, N14q, e14⟩ := hQ14
  have N14 := Fr.app N13 N14q
  obtain ⟨cl18, Ar18, -, Sz18, Nn18, Hs18, Gs18⟩ := id vb13
  have hin18 : ¬ ((0 : Int32) < 0 ∨ cl18.slots.size ≤ ((0 : Int32)).toNatClampNeg) := inb_of Sz18 ⟨by decide, by decide⟩
  obtain ⟨cl19, Ar19, -, Sz19, Nn19, Hs19, Gs19⟩ := id vb13
  have hin19 : ¬ ((1 : Int32) < 0 ∨ cl19.slots.size ≤ ((1 : Int32)).toNatClampNeg) := inb_of Sz19 ⟨by decide, by decide⟩
  obtain ⟨cl20, Ar20, -, Sz20, Nn20, Hs20, Gs20⟩ := id vb13
  have hin20 : ¬ ((2 : Int32) < 0 ∨ cl20.slots.size ≤ ((2 : Int32)).toNatClampNeg) := inb_of Sz20 ⟨by decide, by decide⟩
  obtain ⟨cl21, Ar21, -, Sz21, Nn21, Hs21, Gs21⟩ := id vb13
  have hin21 : ¬ ((3 : Int32) < 0 ∨ cl21.slots.size ≤ ((3 : Int32)).toNatClampNeg) := inb_of Sz21 ⟨by decide, by decide⟩
  obtain ⟨fs, hr, hrun, hended, hW, hsame⟩ := X14.leave (v := (some (.int (1 : Int32)))) (fun h => by rw [Bd.returns] at h; cases h)
  refine ⟨_, _, pre0 _ ?_, hrun, hended, _, _, rfl, ?_, ⟨_, rfl⟩, hW, hsame.mono (by decide) (by decide)⟩
  · show Steps p.tables e below (s₁.setTop (mkF m 0 #[iv p0, iv p1, iv p2, iv p3, iv p4, iv p5, .unset, .unset, .unset, .unset, .unset, .unset, .unset, .unset, .unset] [])) _
    refine XS.iload X0.here hx rfl (hb hby at_0) rfl ?_
    refine XS.iconst X0.here hx rfl (hb hby at_2) ?_
    refine XS.iloadN X0.here hx rfl (hb hby at_3) rfl ?_
    refine XS.bipush X0.here hx rfl (hb hby at_4) ?_
    refine st1 _ ?_
    refine XS.istore X1.here hx rfl (hb hby at_9) rfl (l' := #[iv p0, iv p1, iv p2, iv p3, iv p4, iv p5, iv (own_pick p4 (0 : Int32) p0 (71 : Int32)), .unset, .unset, .unset, .unset, .unset, .unset, .unset, .unset]) rfl ?_
    show Steps p.tables e below (T1.setTop (mkF m 11 #[iv p0, iv p1, iv p2, iv p3, iv p4, iv p5, iv (own_pick p4 (0 : Int32) p0 (71 : Int32)), .unset, .unset, .unset, .unset, .unset, .unset, .unset, .unset] [])) _
    refine XS.iload X1.here hx rfl (hb hby at_11) rfl ?_
    refine XS.iconst X1.here hx rfl (hb hby at_13) ?_
    refine XS.iloadN X1.here hx rfl (hb hby at_14) rfl ?_
    refine XS.bipush X1.here hx rfl (hb hby at_15) ?_
    refine st2 _ ?_
    refine XS.istore X2.here hx rfl (hb hby at_20) rfl (l' := #[iv p0, iv p1, iv p2, iv p3, iv p4, iv p5, iv (own_pick p4 (0 : Int32) p0 (71 : Int32)), iv (own_pick p4 (1 : Int32) p1 (73 : Int32)), .unset, .unset, .unset, .unset, .unset, .unset, .unset]) rfl ?_
    show Steps p.tables e below (T2.setTop (mkF m 22 #[iv p0, iv p1, iv p2, iv p3, iv p4, iv p5, iv (own_pick p4 (0 : Int32) p0 (71 : Int32)), iv (own_pick p4 (1 : Int32) p1 (73 : Int32)), .unset, .unset, .unset, .unset, .unset, .unset, .unset] [])) _
    refine XS.iload X2.here hx rfl (hb hby at_22) rfl ?_
    refine XS.iconst X2.here hx rfl (hb hby at_24) ?_
    refine XS.iloadN X2.here hx rfl (hb hby at_25) rfl ?_
    refine XS.bipush X2.here hx rfl (hb hby at_26) ?_
    refine st3 _ ?_
    refine XS.istore X3.here hx rfl (hb hby at_31) rfl (l' := #[iv p0, iv p1, iv p2, iv p3, iv p4, iv p5, iv (own_pick p4 (0 : Int32) p0 (71 : Int32)), iv (own_pick p4 (1 : Int32) p1 (73 : Int32)), iv (own_pick p4 (2 : Int32) p2 (79 : Int32)), .unset, .unset, .unset, .unset, .unset, .unset]) rfl ?_
    show Steps p.tables e below (T3.setTop (mkF m 33 #[iv p0, iv p1, iv p2, iv p3, iv p4, iv p5, iv (own_pick p4 (0 : Int32) p0 (71 : Int32)), iv (own_pick p4 (1 : Int32) p1 (73 : Int32)), iv (own_pick p4 (2 : Int32) p2 (79 : Int32)), .unset, .unset, .unset, .unset, .unset, .unset] [])) _
    refine XS.iload X3.here hx rfl (hb hby at_33) rfl ?_
    refine XS.iconst X3.here hx rfl (hb hby at_35) ?_
    refine XS.iloadN X3.here hx rfl (hb hby at_36) rfl ?_
    refine XS.bipush X3.here hx rfl (hb hby at_37) ?_
    refine st4 _ ?_
    refine XS.istore X4.here hx rfl (hb hby at_42) rfl (l' := #[iv p0, iv p1, iv p2, iv p3, iv p4, iv p5, iv (own_pick p4 (0 : Int32) p0 (71 : Int32)), iv (own_pick p4 (1 : Int32) p1 (73 : Int32)), iv (own_pick p4 (2 : Int32) p2 (79 : Int32)), iv (own_pick p4 (3 : Int32) p3 (80 : Int32)), .unset, .unset, .unset, .unset, .unset]) rfl ?_
    show Steps p.tables e below (T4.setTop (mkF m 44 #[iv p0, iv p1, iv p2, iv p3, iv p4, iv p5, iv (own_pick p4 (0 : Int32) p0 (71 : Int32)), iv (own_pick p4 (1 : Int32) p1 (73 : Int32)), iv (own_pick p4 (2 : Int32) p2 (79 : Int32)), iv (own_pick p4 (3 : Int32) p3 (80 : Int32)), .unset, .unset, .unset, .unset, .unset] [])) _
    refine XS.iload X4.here hx rfl (hb hby at_44) rfl ?_
    refine XS.iconst X4.here hx rfl (hb hby at_46) ?_
    refine XS.iushr X4.here hx rfl (hb hby at_47) rfl ?_
    refine XS.iconst X4.here hx rfl (hb hby at_48) ?_
    refine XS.iand X4.here hx rfl (hb hby at_49) rfl ?_
    show Steps p.tables e below (T4.setTop (mkF m 50 #[iv p0, iv p1, iv p2, iv p3, iv p4, iv p5, iv (own_pick p4 (0 : Int32) p0 (71 : Int32)), iv (own_pick p4 (1 : Int32) p1 (73 : Int32)), iv (own_pick p4 (2 : Int32) p2 (79 : Int32)), iv (own_pick p4 (3 : Int32) p3 (80 : Int32)), .unset, .unset, .unset, .unset, .unset] [(.int (((p4.toUInt32 >>> ((4 : Int32) &&& 31).toUInt32).toInt32) &&& (1 : Int32)))])) _
    rewrite [hs]
    refine XS.ifNo X4.here hx rfl (hb hby at_50) rfl ((if0 _ _).trans (feq (by decide +kernel : ¬ ((1 : Int32) = (0 : Int32)))).1) ?_
    show Steps p.tables e below (T4.setTop (mkF m 53 #[iv p0, iv p1, iv p2, iv p3, iv p4, iv p5, iv (own_pick p4 (0 : Int32) p0 (71 : Int32)), iv (own_pick p4 (1 : Int32) p1 (73 : Int32)), iv (own_pick p4 (2 : Int32) p2 (79 : Int32)), iv (own_pick p4 (3 : Int32) p3 (80 : Int32)), .unset, .unset, .unset, .unset, .unset] [])) _
    refine XS.iconst X4.here hx rfl (hb hby at_53) ?_
    refine XS.goto X4.here hx rfl (pc0 := 54) (pc' := 58) rfl (hb hby at_54) (by decide) (by decide) ?_
    refine XS.istore X4.here hx rfl (hb hby at_58) rfl (l' := #[iv p0, iv p1, iv p2, iv p3, iv p4, iv p5, iv (own_pick p4 (0 : Int32) p0 (71 : Int32)), iv (own_pick p4 (1 : Int32) p1 (73 : Int32)), iv (own_pick p4 (2 : Int32) p2 (79 : Int32)), iv (own_pick p4 (3 : Int32) p3 (80 : Int32)), iv (1 : Int32), .unset, .unset, .unset, .unset]) rfl ?_
    refine XS.iload X4.here hx rfl (hb hby at_60) rfl ?_
    refine XS.ifNo X4.here hx rfl (hb hby at_62) rfl ((if0 _ _).trans (feq (by decide +kernel : ¬ ((1 : Int32) = (0 : Int32)))).1) ?_
    refine XS.iconst X4.here hx rfl (hb hby at_65) ?_
    show Steps p.tables e below (T4.setTop (mkF m 66 #[iv p0, iv p1, iv p2, iv p3, iv p4, iv p5, iv (own_pick p4 (0 : Int32) p0 (71 : Int32)), iv (own_pick p4 (1 : Int32) p1 (73 : Int32)), iv (own_pick p4 (2 : Int32) p2 (79 : Int32)), iv (own_pick p4 (3 : Int32) p3 (80 : Int32)), iv (1 : Int32), .unset, .unset, .unset, .unset] [(.int (4 : Int32))])) _
    refine st5 _ ?_
    refine XS.goto X5.here hx rfl (pc0 := 68) (pc' := 75) rfl (hb hby at_68) (by decide) (by decide) ?_
    refine XS.astore X5.here hx rfl (hb hby at_75) rfl rfl (l' := #[iv p0, iv p1, iv p2, iv p3, iv p4, iv p5, iv (own_pick p4 (0 : Int32) p0 (71 : Int32)), iv (own_pick p4 (1 : Int32) p1 (73 : Int32)), iv (own_pick p4 (2 : Int32) p2 (79 : Int32)), iv (own_pick p4 (3 : Int32) p3 (80 : Int32)), iv (1 : Int32), rv b0_5, .unset, .unset, .unset]) rfl ?_
    refine XS.aload X5.here hx rfl (hb hby at_77) rfl rfl ?_
    refine XS.iconst X5.here hx rfl (hb hby at_79) ?_
    refine XS.iload X5.here hx rfl (hb hby at_80) rfl ?_
    show Steps p.tables e below (T5.setTop (mkF m 82 #[iv p0, iv p1, iv p2, iv p3, iv p4, iv p5, iv (own_pick p4 (0 : Int32) p0 (71 : Int32)), iv (own_pick p4 (1 : Int32) p1 (73 : Int32)), iv (own_pick p4 (2 : Int32) p2 (79 : Int32)), iv (own_pick p4 (3 : Int32) p3 (80 : Int32)), iv (1 : Int32), rv b0_5, .unset, .unset, .unset] [(.int (own_pick p4 (0 : Int32) p0 (71 : Int32))), (.int (0 : Int32)), (.ref b0_5)])) _
    refine st7 _ ?_
    refine XS.aload X7.here hx rfl (hb hby at_83) rfl rfl ?_
    refine XS.iconst X7.here hx rfl (hb hby at_85) ?_
    refine XS.iload X7.here hx rfl (hb hby at_86) rfl ?_
    refine st9 _ ?_
    refine XS.aload X9.here hx rfl (hb hby at_89) rfl rfl ?_
    show Steps p.tables e below (T9.setTop (mkF m 91 #[iv p0, iv p1, iv p2, iv p3, iv p4, iv p5, iv (own_pick p4 (0 : Int32) p0 (71 : Int32)), iv (own_pick p4 (1 : Int32) p1 (73 : Int32)), iv (own_pick p4 (2 : Int32) p2 (79 : Int32)), iv (own_pick p4 (3 : Int32) p3 (80 : Int32)), iv (1 : Int32), rv b0_5, .unset, .unset, .unset] [(.ref b0_5)])) _
    refine XS.iconst X9.here hx rfl (hb hby at_91) ?_
    refine XS.iload X9.here hx rfl (hb hby at_92) rfl ?_
    refine st11 _ ?_
    refine XS.aload X11.here hx rfl (hb hby at_95) rfl rfl ?_
    refine XS.iconst X11.here hx rfl (hb hby at_97) ?_
    refine XS.iload X11.here hx rfl (hb hby at_98) rfl ?_
    show Steps p.tables e below (T11.setTop (mkF m 100 #[iv p0, iv p1, iv p2, iv p3, iv p4, iv p5, iv (own_pick p4 (0 : Int32) p0 (71 : Int32)), iv (own_pick p4 (1 : Int32) p1 (73 : Int32)), iv (own_pick p4 (2 : Int32) p2 (79 : Int32)), iv (own_pick p4 (3 : Int32) p3 (80 : Int32)), iv (1 : Int32), rv b0_5, .unset, .unset, .unset] [(.int (own_pick p4 (3 : Int32) p3 (80 : Int32))), (.int (3 : Int32)), (.ref b0_5)])) _
    refine st13 _ ?_
    refine XS.iload X13.here hx rfl (hb hby at_101) rfl ?_
    refine XS.ifYes X13.here hx rfl (pc0 := 103) (pc' := 145) rfl (hb hby at_103) rfl ((if0 _ _).trans (feq (by decide +kernel : ¬ ((1 : Int32) = (0 : Int32)))).2) (by decide) (by decide) ?_
    refine XS.iload X13.here hx rfl (hb hby at_145) rfl ?_
    refine XS.bipush X13.here hx rfl (hb hby at_147) ?_
    refine XS.icmpYes X13.here hx rfl (pc0 := 149) (pc' := 177) rfl (hb hby at_149) rfl (feq hm0).2 (by decide) (by decide) ?_
    show Steps p.tables e below (T13.setTop (mkF m 177 #[iv p0, iv p1, iv p2, iv p3, iv p4, iv p5, iv (own_pick p4 (0 : Int32) p0 (71 : Int32)), iv (own_pick p4 (1 : Int32) p1 (73 : Int32)), iv (own_pick p4 (2 : Int32) p2 (79 : Int32)), iv (own_pick p4 (3 : Int32) p3 (80 : Int32)), iv (1 : Int32), rv b0_5, .unset, .unset, .unset] [])) _
    refine XS.iconst X13.here hx rfl (hb hby at_177) ?_
    refine XS.istore X13.here hx rfl (hb hby at_178) rfl (l' := #[iv p0, iv p1, iv p2, iv p3, iv p4, iv p5, iv (own_pick p4 (0 : Int32) p0 (71 : Int32)), iv (own_pick p4 (1 : Int32) p1 (73 : Int32)), iv (own_pick p4 (2 : Int32) p2 (79 : Int32)), iv (own_pick p4 (3 : Int32) p3 (80 : Int32)), iv (1 : Int32), rv b0_5, iv (0 : Int32), .unset, .unset]) rfl ?_
    refine XS.aload X13.here hx rfl (hb hby at_180) rfl rfl ?_
    refine st14 _ ?_
    refine XS.istore X14.here hx rfl (hb hby at_185) rfl (l' := #[iv p0, iv p1, iv p2, iv p3, iv p4, iv p5, iv (own_pick p4 (0 : Int32) p0 (71 : Int32)), iv (own_pick p4 (1 : Int32) p1 (73 : Int32)), iv (own_pick p4 (2 : Int32) p2 (79 : Int32)), iv (own_pick p4 (3 : Int32) p3 (80 : Int32)), iv (1 : Int32), rv b0_5, iv (0 : Int32), iv (0 : Int32), .unset]) rfl ?_
    refine XS.aload X14.here hx rfl (hb hby at_187) rfl rfl ?_
    show Steps p.tables e below (T14.setTop (mkF m 189 #[iv p0, iv p1, iv p2, iv p3, iv p4, iv p5, iv (own_pick p4 (0 : Int32) p0 (71 : Int32)), iv (own_pick p4 (1 : Int32) p1 (73 : Int32)), iv (own_pick p4 (2 : Int32) p2 (79 : Int32)), iv (own_pick p4 (3 : Int32) p3 (80 : Int32)), iv (1 : Int32), rv b0_5, iv (0 : Int32), iv (0 : Int32), .unset] [(.ref b0_5)])) _
    refine XS.iconst X14.here hx rfl (hb hby at_189) ?_
    refine X14.baloadBytes hx (j := (0 : Int32)) (v := (.int (own_pick p4 (0 : Int32) p0 (71 : Int32)))) (by rw [e14]; exact Ar18.1) (State.isArrayOf_alike hZ.alike Ar18.2.1) Ar18.2.2 hin18 (Hs18.at hin18 rfl) (g := (mkF m 190 #[iv p0, iv p1, iv p2, iv p3, iv p4, iv p5, iv (own_pick p4 (0 : Int32) p0 (71 : Int32)), iv (own_pick p4 (1 : Int32) p1 (73 : Int32)), iv (own_pick p4 (2 : Int32) p2 (79 : Int32)), iv (own_pick p4 (3 : Int32) p3 (80 : Int32)), iv (1 : Int32), rv b0_5, iv (0 : Int32), iv (0 : Int32), .unset] [(.int (0 : Int32)), (.ref b0_5)])) rfl rfl (hb hby at_190) _ ?_
    refine XS.iload X14.here hx rfl (hb hby at_191) rfl ?_
    refine XS.icmpNo X14.here hx rfl (hb hby at_193) rfl (teq (rfl : (own_pick p4 (0 : Int32) p0 (71 : Int32)) = (own_pick p4 (0 : Int32) p0 (71 : Int32)))).2 ?_
    refine XS.aload X14.here hx rfl (hb hby at_196) rfl rfl ?_
    refine XS.iconst X14.here hx rfl (hb hby at_198) ?_
    show Steps p.tables e below (T14.setTop (mkF m 199 #[iv p0, iv p1, iv p2, iv p3, iv p4, iv p5, iv (own_pick p4 (0 : Int32) p0 (71 : Int32)), iv (own_pick p4 (1 : Int32) p1 (73 : Int32)), iv (own_pick p4 (2 : Int32) p2 (79 : Int32)), iv (own_pick p4 (3 : Int32) p3 (80 : Int32)), iv (1 : Int32), rv b0_5, iv (0 : Int32), iv (0 : Int32), .unset] [(.int (1 : Int32)), (.ref b0_5)])) _
    refine X14.baloadBytes hx (j := (1 : Int32)) (v := (.int (own_pick p4 (1 : Int32) p1 (73 : Int32)))) (by rw [e14]; exact Ar19.1) (State.isArrayOf_alike hZ.alike Ar19.2.1) Ar19.2.2 hin19 (Hs19.at hin19 rfl) (g := (mkF m 199 #[iv p0, iv p1, iv p2, iv p3, iv p4, iv p5, iv (own_pick p4 (0 : Int32) p0 (71 : Int32)), iv (own_pick p4 (1 : Int32) p1 (73 : Int32)), iv (own_pick p4 (2 : Int32) p2 (79 : Int32)), iv (own_pick p4 (3 : Int32) p3 (80 : Int32)), iv (1 : Int32), rv b0_5, iv (0 : Int32), iv (0 : Int32), .unset] [(.int (1 : Int32)), (.ref b0_5)])) rfl rfl (hb hby at_199) _ ?_
    refine XS.iload X14.here hx rfl (hb hby at_200) rfl ?_
    refine XS.icmpNo X14.here hx rfl (hb hby at_202) rfl (teq (rfl : (own_pick p4 (1 : Int32) p1 (73 : Int32)) = (own_pick p4 (1 : Int32) p1 (73 : Int32)))).2 ?_
    refine XS.aload X14.here hx rfl (hb hby at_205) rfl rfl ?_
    refine XS.iconst X14.here hx rfl (hb hby at_207) ?_
    refine X14.baloadBytes hx (j := (2 : Int32)) (v := (.int (own_pick p4 (2 : Int32) p2 (79 : Int32)))) (by rw [e14]; exact Ar20.1) (State.isArrayOf_alike hZ.alike Ar20.2.1) Ar20.2.2 hin20 (Hs20.at hin20 rfl) (g := (mkF m 208 #[iv p0, iv p1, iv p2, iv p3, iv p4, iv p5, iv (own_pick p4 (0 : Int32) p0 (71 : Int32)), iv (own_pick p4 (1 : Int32) p1 (73 : Int32)), iv (own_pick p4 (2 : Int32) p2 (79 : Int32)), iv (own_pick p4 (3 : Int32) p3 (80 : Int32)), iv (1 : Int32), rv b0_5, iv (0 : Int32), iv (0 : Int32), .unset] [(.int (2 : Int32)), (.ref b0_5)])) rfl rfl (hb hby at_208) _ ?_
    show Steps p.tables e below (T14.setTop (mkF m 209 #[iv p0, iv p1, iv p2, iv p3, iv p4, iv p5, iv (own_pick p4 (0 : Int32) p0 (71 : Int32)), iv (own_pick p4 (1 : Int32) p1 (73 : Int32)), iv (own_pick p4 (2 : Int32) p2 (79 : Int32)), iv (own_pick p4 (3 : Int32) p3 (80 : Int32)), iv (1 : Int32), rv b0_5, iv (0 : Int32), iv (0 : Int32), .unset] [(.int (own_pick p4 (2 : Int32) p2 (79 : Int32)))])) _
    refine XS.iload X14.here hx rfl (hb hby at_209) rfl ?_
    refine XS.icmpNo X14.here hx rfl (hb hby at_211) rfl (teq (rfl : (own_pick p4 (2 : Int32) p2 (79 : Int32)) = (own_pick p4 (2 : Int32) p2 (79 : Int32)))).2 ?_
    refine XS.aload X14.here hx rfl (hb hby at_214) rfl rfl ?_
    refine XS.iconst X14.here hx rfl (hb hby at_216) ?_
    refine X14.baloadBytes hx (j := (3 : Int32)) (v := (.int (own_pick p4 (3 : Int32) p3 (80 : Int32)))) (by rw [e14]; exact Ar21.1) (State.isArrayOf_alike hZ.alike Ar21.2.1) Ar21.2.2 hin21 (Hs21.at hin21 rfl) (g := (mkF m 217 #[iv p0, iv p1, iv p2, iv p3, iv p4, iv p5, iv (own_pick p4 (0 : Int32) p0 (71 : Int32)), iv (own_pick p4 (1 : Int32) p1 (73 : Int32)), iv (own_pick p4 (2 : Int32) p2 (79 : Int32)), iv (own_pick p4 (3 : Int32) p3 (80 : Int32)), iv (1 : Int32), rv b0_5, iv (0 : Int32), iv (0 : Int32), .unset] [(.int (3 : Int32)), (.ref b0_5)])) rfl rfl (hb hby at_217) _ ?_
    refine XS.iload X14.here hx rfl (hb hby at_218) rfl ?_
    show Steps p.tables e below (T14.setTop (mkF m 220 #[iv p0, iv p1, iv p2, iv p3, iv p4, iv p5, iv (own_pick p4 (0 : Int32) p0 (71 : Int32)), iv (own_pick p4 (1 : Int32) p1 (73 : Int32)), iv (own_pick p4 (2 : Int32) p2 (79 : Int32)), iv (own_pick p4 (3 : Int32) p3 (80 : Int32)), iv (1 : Int32), rv b0_5, iv (0 : Int32), iv (0 : Int32), .unset] [(.int (own_pick p4 (3 : Int32) p3 (80 : Int32))), (.int (own_pick p4 (3 : Int32) p3 (80 : Int32)))])) _
    refine XS.icmpNo X14.here hx rfl (hb hby at_220) rfl (teq (rfl : (own_pick p4 (3 : Int32) p3 (80 : Int32)) = (own_pick p4 (3 : Int32) p3 (80 : Int32)))).2 ?_
    refine XS.iconst X14.here hx rfl (hb hby at_223) ?_
    refine XS.goto X14.here hx rfl (pc0 := 224) (pc' := 228) rfl (hb hby at_224) (by decide) (by decide) ?_
    refine XS.istore X14.here hx rfl (hb hby at_228) rfl (l' := #[iv p0, iv p1, iv p2, iv p3, iv p4, iv p5, iv (own_pick p4 (0 : Int32) p0 (71 : Int32)), iv (own_pick p4 (1 : Int32) p1 (73 : Int32)), iv (own_pick p4 (2 : Int32) p2 (79 : Int32)), iv (own_pick p4 (3 : Int32) p3 (80 : Int32)), iv (1 : Int32), rv b0_5, iv (0 : Int32), iv (0 : Int32), iv (1 : Int32)]) rfl ?_
    refine XS.iload X14.here hx rfl (hb hby at_230) rfl ?_
    refine XS.iload X14.here hx rfl (hb hby at_232) rfl ?_
    show Steps p.tables e below (T14.setTop (mkF m 234 #[iv p0, iv p1, iv p2, iv p3, iv p4, iv p5, iv (own_pick p4 (0 : Int32) p0 (71 : Int32)), iv (own_pick p4 (1 : Int32) p1 (73 : Int32)), iv (own_pick p4 (2 : Int32) p2 (79 : Int32)), iv (own_pick p4 (3 : Int32) p3 (80 : Int32)), iv (1 : Int32), rv b0_5, iv (0 : Int32), iv (0 : Int32), iv (1 : Int32)] [(.int (0 : Int32)), (.int (0 : Int32))])) _
    refine XS.icmpNo X14.here hx rfl (hb hby at_234) rfl (teq (by decide +kernel : (0 : Int32) = (0 : Int32))).2 ?_
    refine XS.iload X14.here hx rfl (hb hby at_237) rfl ?_
    refine XS.ifNo X14.here hx rfl (hb hby at_239) rfl ((if0 _ _).trans (feq (by decide +kernel : ¬ ((1 : Int32) = (0 : Int32)))).1) ?_
    refine XS.iconst X14.here hx rfl (hb hby at_242) ?_
    refine XS.goto X14.here hx rfl (pc0 := 243) (pc' := 247) rfl (hb hby at_243) (by decide) (by decide) ?_
    exact retN X14 hx (t := .boolean) Bd.returns (by simp) (hb hby at_247) hr
  · exact ⟨rfl, N14⟩
theorem rm0 (l : Launch) (Z : State) (a0 : Array Value) (hw : ∀ d ∈ tables_1, d.before a0 Z = true) (ws : List Jvm.Cond) (p0 : Int32) (p1 : Int32) (p2 : Int32) (p3 : Int32) (p4 : Int32) (p5 : Int32) (w_Giop_MAGIC : Addr) (k_w_Giop_MAGIC : ClassId) (h0 : Heap) (n0 : Nat) (Z0 : n0 ≤ h0.size) (S_Giop_MAGIC : Sta Z h0 "org/driftcairn/giop/Giop" "MAGIC" "[B" (.ref w_Giop_MAGIC)) (V_w_Giop_MAGIC : Arv Z h0 w_Giop_MAGIC k_w_Giop_MAGIC .byte (4 : Int32) [(.int (71 : Int32)), (.int (73 : Int32)), (.int (79 : Int32)), (.int (80 : Int32))] (.int (0 : Int32))) :
    MetFree l x (head1 (Jvm.Cond.code x code maxLocals ret :: ws) room_1) (fun a U => a = #[(.int p0), (.int p1), (.int p2), (.int p3), (.int p4), (.int p5)] ∧ Z.Warmed39 U.vm ∧ U.heap = h0) (fun _ _ _ _ _ => True) (fun _ U o U' => ∃ v L, o = .returned v ∧ own_QL n0 v U'.heap L ∧ FrameEnd U o U' L room_1.cells room_1.slots) := by
  rcases own_s1 ((p4.toUInt32 >>> ((4 : Int32) &&& 31).toUInt32).toInt32) with hs | hs
  · rcases own_em ((own_pick p4 (0 : Int32) p0 (71 : Int32)) = (71 : Int32)) with hm0 | hm0
    · rcases own_em ((own_pick p4 (1 : Int32) p1 (73 : Int32)) = (73 : Int32)) with hm1 | hm1
      · rcases own_em ((own_pick p4 (2 : Int32) p2 (79 : Int32)) = (79 : Int32)) with hm2 | hm2
        · rcases own_em ((own_pick p4 (3 : Int32) p3 (80 : Int32)) = (80 : Int32)) with hm3 | hm3
          · exact rm0_0 l Z a0 hw ws p0 p1 p2 p3 p4 p5 w_Giop_MAGIC k_w_Giop_MAGIC h0 n0 Z0 hm0 hm1 hm2 hm3 hs S_Giop_MAGIC V_w_Giop_MAGIC
          · exact rm0_1 l Z a0 hw ws p0 p1 p2 p3 p4 p5 w_Giop_MAGIC k_w_Giop_MAGIC h0 n0 Z0 hm0 hm1 hm2 hs hm3 S_Giop_MAGIC V_w_Giop_MAGIC
        · exact rm0_2 l Z a0 hw ws p0 p1 p2 p3 p4 p5 w_Giop_MAGIC k_w_Giop_MAGIC h0 n0 Z0 hm0 hm1 hs hm2 S_Giop_MAGIC V_w_Giop_MAGIC
      · exact rm0_3 l Z a0 hw ws p0 p1 p2 p3 p4 p5 w_Giop_MAGIC k_w_Giop_MAGIC h0 n0 Z0 hm0 hs hm1 S_Giop_MAGIC V_w_Giop_MAGIC
    · exact rm0_4 l Z a0 hw ws p0 p1 p2 p3 p4 p5 w_Giop_MAGIC k_w_Giop_MAGIC h0 n0 Z0 hs hm0 S_Giop_MAGIC V_w_Giop_MAGIC
  · rcases own_em ((own_pick p4 (0 : Int32) p0 (71 : Int32)) = (71 : Int32)) with hm0 | hm0
    · rcases own_em ((own_pick p4 (1 : Int32) p1 (73 : Int32)) = (73 : Int32)) with hm1 | hm1
      · rcases own_em ((own_pick p4 (2 : Int32) p2 (79 : Int32)) = (79 : Int32)) with hm2 | hm2
        · rcases own_em ((own_pick p4 (3 : Int32) p3 (80 : Int32)) = (80 : Int32)) with hm3 | hm3
          · exact rm0_5 l Z a0 hw ws p0 p1 p2 p3 p4 p5 w_Giop_MAGIC k_w_Giop_MAGIC h0 n0 Z0 hm0 hm1 hm2 hm3 hs S_Giop_MAGIC V_w_Giop_MAGIC
          · exact rm0_6 l Z a0 hw ws p0 p1 p2 p3 p4 p5 w_Giop_MAGIC k_w_Giop_MAGIC h0 n0 Z0 hm0 hm1 hm2 hs hm3 S_Giop_MAGIC V_w_Giop_MAGIC
        · exact rm0_7 l Z a0 hw ws p0 p1 p2 p3 p4 p5 w_Giop_MAGIC k_w_Giop_MAGIC h0 n0 Z0 hm0 hm1 hs hm2 S_Giop_MAGIC V_w_Giop_MAGIC
      · exact rm0_8 l Z a0 hw ws p0 p1 p2 p3 p4 p5 w_Giop_MAGIC k_w_Giop_MAGIC h0 n0 Z0 hm0 hs hm1 S_Giop_MAGIC V_w_Giop_MAGIC
    · exact rm0_9 l Z a0 hw ws p0 p1 p2 p3 p4 p5 w_Giop_MAGIC k_w_Giop_MAGIC h0 n0 Z0 hs hm0 S_Giop_MAGIC V_w_Giop_MAGIC
set_option maxRecDepth 65536 in
set_option maxHeartbeats 40000000 in
theorem comes_1 {Post : Tables → Env → Array Value → State → Outcome → State → Prop} (hpost : ∀ tb e args s v u, (limb_1_1.after args s (.returned v) u = true ∧ limb_1_2.after args s (.returned v) u = true ∧ True) → FrameEnd s (.returned v) u (Jvm.fieldLocs frame_1_writes args s ++ Jvm.arrayLocs frame_1_arrays args s ++ Jvm.staticLocs frame_1_statics s) 16 128 → Post tb e args s (.returned v) u) :
    ArmFor flags0 classFile x code maxLocals ret World_1 tables_1 room_1 Calls_1 rest_1 Pre_1 Post := by
  intro l hfl _ _ p e ha hc hk s m args below hf hA hF happ hP
  obtain ⟨hcalls, hrest, hpre⟩ := hP
  obtain ⟨-, -, -, hnamed, -, -, -, hat⟩ := (Spec.applies_iff hf).mp happ
  obtain ⟨hg, hn⟩ := and_e (Cond.before_iff.mp (show (Jvm.Cond.and given_1 narrow_1).before args s = true from hpre))
  obtain ⟨g0, g0r⟩ := and_e hg
  obtain ⟨g1, g1r⟩ := and_e g0r
  obtain ⟨g2, g2r⟩ := and_e g1r
  obtain ⟨g3, g3r⟩ := and_e g2r
  obtain ⟨g4, g4r⟩ := and_e g3r
  obtain ⟨g5, g5r⟩ := and_e g4r
  obtain ⟨v0, v1, v2, v3, v4, v5, rfl⟩ : ∃ v0 v1 v2 v3 v4 v5 : Value, args = #[v0, v1, v2, v3, v4, v5] := by
    have hs : args.size = 6 := by simpa [Cond.value, given_1] using g0
    obtain ⟨L⟩ := args
    match L, hs with
    | [v0, v1, v2, v3, v4, v5], _ => exact ⟨v0, v1, v2, v3, v4, v5, rfl⟩
  have hw := fun d (hd : d ∈ tables_1) => atoms_spec (ws := Jvm.Cond.code x code maxLocals ret :: tables_1) hat d (List.mem_cons_of_mem _ hd)
  have hfit : Fit s := fun {y c} hc i hi => by
    obtain ⟨ha, rfl⟩ := Array.getElem?_eq_some_iff.mp hc
    have q := List.all_eq_true.mp ((Array.all_eq_true_iff_forall_mem.mp hF) _ (Array.getElem_mem ha)) i (List.mem_range.mpr hi)
    simpa [Array.getElem?_eq_getElem hi] using q
  obtain ⟨p0, ei0⟩ := is_v g1
  obtain rfl : v0 = (.int p0) := Option.some.inj ei0
  obtain ⟨p1, ei1⟩ := is_v g2
  obtain rfl : v1 = (.int p1) := Option.some.inj ei1
  obtain ⟨p2, ei2⟩ := is_v g3
  obtain rfl : v2 = (.int p2) := Option.some.inj ei2
  obtain ⟨p3, ei3⟩ := is_v g4
  obtain rfl : v3 = (.int p3) := Option.some.inj ei3
  obtain ⟨p4, ei4⟩ := is_v g5
  obtain rfl : v4 = (.int p4) := Option.some.inj ei4
  obtain ⟨p5, ei5⟩ := is_v g5r
  obtain rfl : v5 = (.int p5) := Option.some.inj ei5
  obtain ⟨n0, n0r⟩ := and_e hn
  obtain ⟨n1, n1r⟩ := and_e n0r
  obtain ⟨n2, n2r⟩ := and_e n1r
  obtain ⟨n3, n3r⟩ := and_e n2r
  obtain ⟨n4, n4r⟩ := and_e n3r
  obtain ⟨w_Giop_MAGIC, ev_w_Giop_MAGIC⟩ := arr_v n0
  have S_Giop_MAGIC : Sta s s.heap "org/driftcairn/giop/Giop" "MAGIC" "[B" (.ref w_Giop_MAGIC) := Sta.start ev_w_Giop_MAGIC (Or.inr ⟨(hw _ (List.mem_of_getElem? (i := 7) rfl)), (hw _ (List.mem_of_getElem? (i := 10) rfl))⟩)
  obtain ⟨cl_w_Giop_MAGIC, Ar_w_Giop_MAGIC⟩ := Arr.start ev_w_Giop_MAGIC n0
  obtain ⟨k_w_Giop_MAGIC, hk_w_Giop_MAGIC⟩ : ∃ z, z = cl_w_Giop_MAGIC.cls := ⟨_, rfl⟩
  obtain ⟨q_w_Giop_MAGIC, l_w_Giop_MAGIC⟩ := own_len ev_w_Giop_MAGIC Ar_w_Giop_MAGIC (own_eqv n1 (Term.int_eval _) (Or.inr ⟨_, rfl⟩))
  have el_w_Giop_MAGIC_0 : cl_w_Giop_MAGIC.slots[0]? = some (.int (71 : Int32)) := (elem_in (own_eqv n2 (Term.int_eval _) (Or.inr ⟨_, rfl⟩)) ev_w_Giop_MAGIC (Term.int_eval _) Ar_w_Giop_MAGIC.1).2
  have el_w_Giop_MAGIC_1 : cl_w_Giop_MAGIC.slots[1]? = some (.int (73 : Int32)) := (elem_in (own_eqv n3 (Term.int_eval _) (Or.inr ⟨_, rfl⟩)) ev_w_Giop_MAGIC (Term.int_eval _) Ar_w_Giop_MAGIC.1).2
  have el_w_Giop_MAGIC_2 : cl_w_Giop_MAGIC.slots[2]? = some (.int (79 : Int32)) := (elem_in (own_eqv n4 (Term.int_eval _) (Or.inr ⟨_, rfl⟩)) ev_w_Giop_MAGIC (Term.int_eval _) Ar_w_Giop_MAGIC.1).2
  have el_w_Giop_MAGIC_3 : cl_w_Giop_MAGIC.slots[3]? = some (.int (80 : Int32)) := (elem_in (own_eqv n4r (Term.int_eval _) (Or.inr ⟨_, rfl⟩)) ev_w_Giop_MAGIC (Term.int_eval _) Ar_w_Giop_MAGIC.1).2
  have V_w_Giop_MAGIC : Arv s s.heap w_Giop_MAGIC k_w_Giop_MAGIC .byte (4 : Int32) [(.int (71 : Int32)), (.int (73 : Int32)), (.int (79 : Int32)), (.int (80 : Int32))] (.int (0 : Int32)) := by rw [hk_w_Giop_MAGIC]; exact Arv.start hfit Ar_w_Giop_MAGIC q_w_Giop_MAGIC l_w_Giop_MAGIC (by decide) (by decide) ⟨el_w_Giop_MAGIC_0, el_w_Giop_MAGIC_1, el_w_Giop_MAGIC_2, el_w_Giop_MAGIC_3, trivial⟩
  obtain ⟨n, o, h1, h2, h3, _, L, rfl, ⟨rfl, N⟩, hq⟩ := rm0 l s _ hw tables_1 p0 p1 p2 p3 p4 p5 w_Giop_MAGIC k_w_Giop_MAGIC s.heap s.heap.size (Nat.le_refl _) S_Giop_MAGIC V_w_Giop_MAGIC p e ha hc hk s m _ below hf ((Spec.applies_iff_loose hf).mp happ).1 ⟨rfl, State.Warmed39.refl s, rfl⟩ trivial
  refine ⟨n, _, h1, h2, h3, hpost _ _ _ _ _ _ ⟨Cond.after_iff.mpr rfl, Cond.after_iff.mpr (eq_i res_at (Term.int_eval (1)) rfl), trivial⟩ ⟨hq.1, hq.2.1, (hq.2.2.sift fun y hy => Or.inr (N y hy)).mono (by decide) (by decide)⟩⟩
theorem main_1_1 : Claimed_1_1 := comes_1 fun _ _ _ _ _ _ h hF => ⟨h.1, hF⟩
theorem main_1_2 : Claimed_1_2 := comes_1 fun _ _ _ _ _ _ h hF => ⟨h.2.1, hF⟩
end Jvm.Pilot.@@N@@
namespace Jvm.Pilot.@@N@@
open Jvm Jvm.ClassFile Sem Op Lib Jvm.Free Jvm.Stand Jvm.Pilot.@@N@@.Jvm.D
/-! MADE BY PROGRAM (witnessworld.py) out of the Statement's table words and the real class files: 9 classes; the members and pool entries that the words name. The judged class is class 1, her method 2. -/
namespace start1
open Jvm.ClassFile
def u (s : String) : CpInfo := .utf8 (stringToUtf16 s)
/-- a pool by its gaps: so many unusable entries, then the entry; so many at the end -/
def gap : Nat → List CpInfo → List CpInfo
  | 0, r => r
  | n + 1, r => .unusable :: gap n r
def poolList (es : List (Nat × CpInfo)) (last : Nat) : List CpInfo := es.foldr (fun e r => gap e.1 (e.2 :: r)) (gap last [])
def pool (es : List (Nat × CpInfo)) (last : Nat) : Array CpInfo := ⟨poolList es last⟩
def fileOf (pool : Array CpInfo) (this : Nat) (attrs : Array Attribute := #[]) (ms : Array MethodInfo := #[]) (fl : Nat := 33) (sup : Nat := 0) (ifs : Array Nat := #[]) (fds : Array FieldInfo := #[]) : ClassFile where
  minorVersion := 0
  majorVersion := 65
  constantPool := pool
  accessFlags := fl
  thisClass := this
  superClass := sup
  interfaces := ifs
  fields := fds
  methods := ms
  attributes := attrs
def plain (name : String) (sup : Option ClassId) : Class where
  name := name
  kind := .ordinary
  loader := none
  accessFlags := 33
  super := sup
  interfaces := #[]
  cf := none
  fields := #[]
  methods := #[]
  instanceTypes := #[]
  staticTypes := #[]
  resolved := #[]
  callSites := []
  init := .initialized
  statics := none
  mirror := none

def pool0 : Array CpInfo := pool [(5, u "<init>"), (0, u "()V"), (1, .class_ 10), (1, u "java/lang/Object")] 113

def k0m0 : Method := { name := "<init>", desc := "()V", sig := { parameters := [], returnType := none }, accessFlags := 1, code := none }
/-- java/lang/Object -/
def k0 : Class := { plain "java/lang/Object" none with
  accessFlags := 33
  interfaces := #[]
  cf := some (fileOf pool0 8 #[] #[{ accessFlags := 1, nameIndex := 5, descriptorIndex := 6, attributes := #[] }] 33 0 #[] #[])
  fields := #[]
  methods := #[k0m0]
  instanceTypes := #[]
  staticTypes := #[]
  resolved := Array.replicate 124 none
  statics := none }

def pool1 : Array CpInfo := pool [(2, .class_ 4), (1, u "java/lang/Object"), (0, u "<init>"), (0, u "()V"), (0, .methodref 8 9), (0, .class_ 10), (0, .nameAndType 11 12), (0, u "org/driftcairn/giop/GiopHasMagicPinLaw"), (0, u "pick"), (0, u "(IIIC)B"), (0, .methodref 14 15), (0, .class_ 16), (0, .nameAndType 17 18), (0, u "org/driftcairn/giop/Giop"), (0, u "hasMagic"), (0, u "([B)Z"), (3, u "law"), (0, u "(IIIIII)Z")] 4

def k1m0 : Method := { name := "<init>", desc := "()V", sig := { parameters := [], returnType := none }, accessFlags := 2, code := none }
def k1c1 : Code := { maxStack := 2, maxLocals := 4, code := method_2_code, exceptionTable := #[], attributes := #[] }
def k1m1 : Method := { name := "pick", desc := "(IIIC)B", sig := { parameters := [.int, .int, .int, .char], returnType := some .byte }, accessFlags := 10, code := some k1c1 }
def k1c2 : Code := { maxStack := 4, maxLocals := 15, code := code, exceptionTable := #[], attributes := #[] }
def k1m2 : Method := { name := "law", desc := "(IIIIII)Z", sig := { parameters := [.int, .int, .int, .int, .int, .int], returnType := some .boolean }, accessFlags := 9, code := some k1c2 }
/-- org/driftcairn/giop/GiopHasMagicPinLaw -/
def k1 : Class := { plain "org/driftcairn/giop/GiopHasMagicPinLaw" (some 0) with
  accessFlags := 49
  interfaces := #[]
  cf := some (fileOf pool1 8 #[] #[{ accessFlags := 2, nameIndex := 5, descriptorIndex := 6, attributes := #[] }, { accessFlags := 10, nameIndex := 11, descriptorIndex := 12, attributes := #[] }, { accessFlags := 9, nameIndex := 22, descriptorIndex := 23, attributes := #[] }] 49 2 #[] #[])
  fields := #[]
  methods := #[k1m0, k1m1, k1m2]
  instanceTypes := #[]
  staticTypes := #[]
  resolved := Array.replicate 28 none
  statics := none }

def pool2 : Array CpInfo := pool [(2, .class_ 4), (1, u "java/lang/Object"), (0, u "<init>"), (0, u "()V"), (0, .fieldref 8 9), (0, .class_ 10), (0, .nameAndType 11 12), (0, u "org/driftcairn/giop/Giop"), (0, u "MAGIC"), (0, u "[B"), (29, u "HEADER_SIZE"), (0, u "I"), (2, u "MAX_MINOR"), (1, u "REPLY_NO_EXCEPTION"), (1, u "REPLY_USER_EXCEPTION"), (1, u "REPLY_SYSTEM_EXCEPTION"), (0, u "REPLY_LOCATION_FORWARD"), (1, u "REPLY_LOCATION_FORWARD_PERM"), (1, u "LOCATE_UNKNOWN_OBJECT"), (0, u "LOCATE_OBJECT_HERE"), (0, u "FLAG_LITTLE_ENDIAN"), (0, u "FLAG_MORE_FRAGMENTS"), (2, u "hasMagic"), (0, u "([B)Z")] 11

def k2m0 : Method := { name := "<init>", desc := "()V", sig := { parameters := [], returnType := none }, accessFlags := 2, code := none }
def k2c1 : Code := { maxStack := 3, maxLocals := 2, code := prog_59_method_2_code, exceptionTable := #[], attributes := #[] }
def k2m1 : Method := { name := "hasMagic", desc := "([B)Z", sig := { parameters := [(.array .byte)], returnType := some .boolean }, accessFlags := 8, code := some k2c1 }
/-- org/driftcairn/giop/Giop -/
def k2 : Class := { plain "org/driftcairn/giop/Giop" (some 0) with
  accessFlags := 49
  interfaces := #[]
  cf := some (fileOf pool2 8 #[] #[{ accessFlags := 2, nameIndex := 5, descriptorIndex := 6, attributes := #[] }, { accessFlags := 8, nameIndex := 63, descriptorIndex := 64, attributes := #[] }] 49 2 #[] #[{ accessFlags := 25, nameIndex := 42, descriptorIndex := 43, attributes := #[] }, { accessFlags := 25, nameIndex := 46, descriptorIndex := 43, attributes := #[] }, { accessFlags := 25, nameIndex := 48, descriptorIndex := 43, attributes := #[] }, { accessFlags := 25, nameIndex := 50, descriptorIndex := 43, attributes := #[] }, { accessFlags := 25, nameIndex := 52, descriptorIndex := 43, attributes := #[] }, { accessFlags := 25, nameIndex := 53, descriptorIndex := 43, attributes := #[] }, { accessFlags := 25, nameIndex := 55, descriptorIndex := 43, attributes := #[] }, { accessFlags := 25, nameIndex := 57, descriptorIndex := 43, attributes := #[] }, { accessFlags := 25, nameIndex := 58, descriptorIndex := 43, attributes := #[] }, { accessFlags := 24, nameIndex := 59, descriptorIndex := 43, attributes := #[] }, { accessFlags := 24, nameIndex := 60, descriptorIndex := 43, attributes := #[] }, { accessFlags := 26, nameIndex := 11, descriptorIndex := 12, attributes := #[] }])
  fields := #[{ name := "HEADER_SIZE", type := .int, accessFlags := 25, slot := 0, constantValue := 0 }, { name := "MAX_MINOR", type := .int, accessFlags := 25, slot := 1, constantValue := 0 }, { name := "REPLY_NO_EXCEPTION", type := .int, accessFlags := 25, slot := 2, constantValue := 0 }, { name := "REPLY_USER_EXCEPTION", type := .int, accessFlags := 25, slot := 3, constantValue := 0 }, { name := "REPLY_SYSTEM_EXCEPTION", type := .int, accessFlags := 25, slot := 4, constantValue := 0 }, { name := "REPLY_LOCATION_FORWARD", type := .int, accessFlags := 25, slot := 5, constantValue := 0 }, { name := "REPLY_LOCATION_FORWARD_PERM", type := .int, accessFlags := 25, slot := 6, constantValue := 0 }, { name := "LOCATE_UNKNOWN_OBJECT", type := .int, accessFlags := 25, slot := 7, constantValue := 0 }, { name := "LOCATE_OBJECT_HERE", type := .int, accessFlags := 25, slot := 8, constantValue := 0 }, { name := "FLAG_LITTLE_ENDIAN", type := .int, accessFlags := 24, slot := 9, constantValue := 0 }, { name := "FLAG_MORE_FRAGMENTS", type := .int, accessFlags := 24, slot := 10, constantValue := 0 }, { name := "MAGIC", type := (.array .byte), accessFlags := 26, slot := 11, constantValue := 0 }]
  methods := #[k2m0, k2m1]
  instanceTypes := #[]
  staticTypes := #[.int, .int, .int, .int, .int, .int, .int, .int, .int, .int, .int, (.array .byte)]
  resolved := Array.replicate 76 none
  statics := some 0 }

def pool3 : Array CpInfo := pool [(1, u "java/lang/Cloneable"), (0, .class_ 1), (0, u "java/lang/Object"), (0, .class_ 3)] 3

/-- java/lang/Cloneable -/
def k3 : Class := { plain "java/lang/Cloneable" (some 0) with
  accessFlags := 1537
  interfaces := #[]
  cf := some (fileOf pool3 2 #[] #[] 1537 4 #[] #[])
  fields := #[]
  methods := #[]
  instanceTypes := #[]
  staticTypes := #[]
  resolved := Array.replicate 8 none
  statics := none }

def pool4 : Array CpInfo := pool [(1, u "java/io/Serializable"), (0, .class_ 1), (0, u "java/lang/Object"), (0, .class_ 3)] 3

/-- java/io/Serializable -/
def k4 : Class := { plain "java/io/Serializable" (some 0) with
  accessFlags := 1537
  interfaces := #[]
  cf := some (fileOf pool4 2 #[] #[] 1537 4 #[] #[])
  fields := #[]
  methods := #[]
  instanceTypes := #[]
  staticTypes := #[]
  resolved := Array.replicate 8 none
  statics := none }

/-- the primitive byte -/
def k5 : Class := { plain "byte" none with kind := .primitive 'B', accessFlags := 0x411 }
/-- [B -/
def k6 : Class := { plain "[B" (some 0) with kind := .array 5 .byte, interfaces := #[3, 4], accessFlags := 1041 }

/-- the primitive int -/
def k7 : Class := { plain "int" none with kind := .primitive 'I', accessFlags := 0x411 }
/-- [I -/
def k8 : Class := { plain "[I" (some 0) with kind := .array 7 .int, interfaces := #[3, 4], accessFlags := 1041 }

def heap : Heap := #[{ cls := 2, slots := #[.int 0, .int 0, .int 0, .int 0, .int 0, .int 0, .int 0, .int 0, .int 0, .int 0, .int 0, .ref 1], vm := .statics 2 },
  { cls := 6, slots := #[.int 71, .int 73, .int 79, .int 80], vm := .none }]
def classes : Array Class := #[k0, k1, k2, k3, k4, k5, k6, k7, k8]
def interned : List (Array UInt16 × Addr) := []
def slotsUsed : Nat := 16
def theMethod : MethodId := ⟨1, 2⟩
def args0 : Array Value := #[.int 5, .int 5, .int 5, .int 5, .int 5, .int 5]
def aboutOver (below : List Frame) : State where
  vm := { classes := classes, interned := interned.toArray }
  heap := heap
  slotsUsed := slotsUsed
  threads := #[{ frames := .invoking theMethod args0 :: below }]
def below0 : List Frame := [.native { method := ⟨0, 0⟩, args := #[] }]
def about1 : State := aboutOver below0
def p0 : Program := .bare "" "" ""
def e0 : Env := launch0.env 0 0 0
theorem w_frames : about1.frames = Frame.invoking theMethod args0 :: below0 := rfl
set_option maxRecDepth 65536 in
theorem w_args : argsFit about1.vm theMethod args0 = true := by decide +kernel
set_option maxRecDepth 65536 in
theorem w_heap : heapFits about1 = true := by decide +kernel
set_option maxRecDepth 65536 in
theorem w_runnable : about1.curStatus? = some .runnable := by decide +kernel
set_option maxRecDepth 65536 in
theorem w_alone : about1.alone = true := by decide +kernel
set_option maxRecDepth 65536 in
theorem w_named : about1.methodNamed? x = some theMethod := by decide +kernel
set_option maxRecDepth 65536 in
theorem w_hears : about1.hears theMethod below0 = true := by decide +kernel
set_option maxRecDepth 65536 in
theorem w_ripe : about1.ripe theMethod args0 below0 = true := by decide +kernel
theorem w_running : about1.status = .running := rfl
set_option maxRecDepth 65536 in
theorem w_room : about1.hasRoom e0.platform room_1 = true :=
  launch0.hasRoom_least _ room_1 (by decide +kernel) (by decide +kernel) (by decide +kernel) (by decide +kernel) (by decide +kernel) (by decide +kernel)
theorem allAtoms_all (ts : List Jvm.Cond) (a : Array Jvm.Value) (st : Jvm.State) : (allAtoms ts).before a st = ts.all (fun c => c.before a st) := by
  induction ts with
  | nil => rfl
  | cons c t ih =>
    show (Jvm.Cond.and c (allAtoms t)).before a st = _
    rw [Jvm.Cond.before_and, ih, List.all_cons]
def words1 : List Jvm.Cond := Jvm.Cond.code x code maxLocals ret :: tables_1
/-- a 'code' word, met by the world's own term for the bytes: nothing is compared byte by byte -/
theorem code_word {y : MethodName} {bytes : ByteArray} {mx : Nat} {rt : Option FieldType} {a : Array Value} {s : State} {m : MethodId} {meth : Method} {c : Code} (h1 : s.methodNamed? y = some m) (h2 : s.vm.method? m = some meth) (h3 : meth.code = some c) (h4 : c.code = bytes)
    (h5 : (c.maxLocals == mx && c.exceptionTable.isEmpty && decide (c.maxStack ≤ mostOperands) && decide (meth.sig.returnType = rt) && !meth.locks && decide (parseMethodDescriptor y.desc = some meth.sig)) = true) : (Jvm.Cond.code y bytes mx rt).before a s = true := by
  simp only [Bool.and_eq_true, beq_iff_eq, Bool.not_eq_true', decide_eq_true_eq] at h5
  obtain ⟨⟨⟨⟨⟨g1, g2⟩, g3⟩, g4⟩, g5⟩, g6⟩ := h5
  simp [Cond.before, Cond.holds, Cond.value, h1, h2, h3, h4, g1, g2, g3, g4, g5, g6]
def isCode : Jvm.Cond → Bool
  | .code _ _ _ _ => true
  | _ => false
theorem all_split {L : List Jvm.Cond} {P : Jvm.Cond → Bool} (h1 : L.all (fun c => isCode c || P c) = true) (h2 : ∀ c ∈ L.filter isCode, P c = true) : L.all P = true := by
  refine List.all_eq_true.mpr fun c hc => ?_
  have h := List.all_eq_true.mp h1 c hc
  rcases Bool.eq_false_or_eq_true (isCode c) with hi | hi
  · exact h2 c (List.mem_filter.mpr ⟨hc, hi⟩)
  · simpa [hi] using h
set_option maxRecDepth 65536 in
theorem w_c0 : (Jvm.Cond.code x code maxLocals ret).before args0 about1 = true := code_word (m := ⟨1, 2⟩) (meth := k1m2) (c := k1c2) (by decide +kernel) rfl rfl rfl (by decide +kernel)
set_option maxRecDepth 65536 in
theorem w_c1 : (Jvm.Cond.code ({ cls := "org/driftcairn/giop/GiopHasMagicPinLaw", name := "pick", desc := "(IIIC)B" } : Jvm.MethodName) method_2_code (4 : Nat) (Option.some Jvm.ClassFile.FieldType.byte)).before args0 about1 = true := code_word (m := ⟨1, 1⟩) (meth := k1m1) (c := k1c1) (by decide +kernel) rfl rfl rfl (by decide +kernel)
set_option maxRecDepth 65536 in
theorem w_c2 : (Jvm.Cond.code ({ cls := "org/driftcairn/giop/Giop", name := "hasMagic", desc := "([B)Z" } : Jvm.MethodName) prog_59_method_2_code (2 : Nat) (Option.some Jvm.ClassFile.FieldType.boolean)).before args0 about1 = true := code_word (m := ⟨2, 1⟩) (meth := k2m1) (c := k2c1) (by decide +kernel) rfl rfl rfl (by decide +kernel)
def codes1 : List Jvm.Cond := [Jvm.Cond.code x code maxLocals ret, Jvm.Cond.code ({ cls := "org/driftcairn/giop/GiopHasMagicPinLaw", name := "pick", desc := "(IIIC)B" } : Jvm.MethodName) method_2_code (4 : Nat) (Option.some Jvm.ClassFile.FieldType.byte), Jvm.Cond.code ({ cls := "org/driftcairn/giop/Giop", name := "hasMagic", desc := "([B)Z" } : Jvm.MethodName) prog_59_method_2_code (2 : Nat) (Option.some Jvm.ClassFile.FieldType.boolean)]
set_option maxRecDepth 65536 in
theorem codes_eq : words1.filter isCode = codes1 := rfl
theorem w_codes : ∀ c ∈ words1.filter isCode, c.before args0 about1 = true := by
  rw [codes_eq]
  intro c hc
  simp only [codes1, List.mem_cons, List.not_mem_nil, or_false] at hc
  rcases hc with rfl | rfl | rfl
  · exact w_c0
  · exact w_c1
  · exact w_c2
set_option maxRecDepth 65536 in
theorem w_t1 : words1.all (fun c => isCode c || c.before args0 about1) = true := by decide +kernel
theorem w_tables : (allAtoms (Jvm.Cond.code x code maxLocals ret :: tables_1)).before args0 about1 = true := by
  rw [allAtoms_all]
  show words1.all (fun c => c.before args0 about1) = true
  refine all_split ?_ w_codes
  rw [w_t1]
set_option maxRecDepth 65536 in
theorem w_case : (Jvm.Cond.and given_1 narrow_1).before args0 about1 = true := by decide +kernel
theorem w_applies : (headSpec (Jvm.Cond.code x code maxLocals ret :: tables_1) room_1).applies x e0.platform about1 = true :=
  (Spec.applies_iff w_frames).mpr ⟨w_running, w_runnable, w_alone, w_named, w_hears, w_ripe, w_room, w_tables⟩
theorem atStart : AtStart classFile x code maxLocals ret World_1 tables_1 room_1 Calls_1 rest_1 Pre_1 launch0 p0 e0 about1 theMethod args0 below0 :=
  ⟨lists_1, trivial, launch0.admits_env _ _ _, launch0.least_env, fairChoices_fair.cas, fairChoices_fair.clock, w_frames, w_args, w_heap, w_applies, trivial, trivial, w_case⟩
end start1
theorem witness_1 : WitnessClaimed_1 := ⟨start1.p0, start1.e0, start1.about1, start1.theMethod, start1.args0, start1.below0, start1.atStart⟩
end Jvm.Pilot.@@N@@
