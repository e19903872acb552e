import JvmDerived
import JvmDerived.Pilot.@@N@@Statement
import JvmDerived.Pilot.@@N@@Code
set_option linter.unusedVariables false
set_option linter.unusedSimpArgs false
@@BLOCK:NumsL.lean.txt@@
namespace Jvm.RoadKit
open Sem ClassFile Op Lib Jvm.Stand Jvm.Free Jvm.LawKit
section New
variable {p : Program} {l : Launch} {e : Env} {R : Room} {s : State} {m : MethodId} {args : Array Value} {below : List Frame} {meth : Method} {c : Code} {T : State} {locs : List Loc} {cells slots : Nat}
theorem retI (X : Stand p l e R s m args below meth c T locs cells slots) (hx : p.tables.exec = Jvm.exec) {pc : Nat} {Ls : Array Slot} {z : Int32} {rest : List Value} (hret : meth.sig.returnType = some .int) (hd : decode c.code pc = .ok (.ireturn, 1)) {fs : List Frame}
    (hl : ∀ (f : JFrame) (acts : List Action), f.method = m → f.locked = none → f.entered = [] → (doReturn e (T.setTop f) acts (some (.int z))).1 = T.setFrames fs) : Steps p.tables e below (T.setTop (mkF m pc Ls (.int z :: rest))) (T.setFrames fs) := by
  have hm' : T.vm.method? m = some meth := X.method'
  have hn : narrow .int (.int z) = .int z := rfl
  show Steps p.tables e below (T.setTop { method := m, pc := pc, locals := Ls, stack := _ :: rest, locked := none }) _
  jvm_step X.here [X.here.top, hx, hd, hm', hret, hn]
  first | (intro acts; rw [hl _ acts rfl rfl rfl]) | rw [hl _ _ rfl rfl rfl]
  exact Steps.refl _
theorem own_retA (X : Stand p l e R s m args below meth c T locs cells slots) (hx : p.tables.exec = Jvm.exec) {pc : Nat} {Ls : Array Slot} {t : FieldType} {w : Value} {rest : List Value} (hret : meth.sig.returnType = some t) (ht : t.isReference = true) (hw : w.isRef = true) (hd : decode c.code pc = .ok (.areturn, 1)) {fs : List Frame}
    (hl : ∀ (f : JFrame) (acts : List Action), f.method = m → f.locked = none → f.entered = [] → (doReturn e (T.setTop f) acts (some w)).1 = T.setFrames fs) : Steps p.tables e below (T.setTop (mkF m pc Ls (w :: rest))) (T.setFrames fs) :=
  retOut X hx hret (by cases t <;> simp_all [narrow, FieldType.isReference]) (Or.inr (Or.inr (Or.inr (Or.inr ⟨rfl, ht, hw⟩)))) hd hl
end New
end Jvm.RoadKit
namespace Jvm.Pilot.@@N@@
open Jvm Jvm.ClassFile Sem Op Lib Jvm.Free Jvm.Stand Jvm.LawKit Jvm.RoadKit Bundle Jvm.Pilot.@@N@@.Jvm.D
abbrev own_jv (x : Int64) : Slot := .val (.long x)
/-- a callee that leaves the heap as it was and returns r -/
def own_QP (r : Option Value) (h0 : Heap) (n0 : Nat) (v : Option Value) (h : Heap) (L : List Loc) : Prop := v = r ∧ Fr n0 L ∧ h = h0
def own_QL (n0 : Nat) (v : Option Value) (h : Heap) (L : List Loc) : Prop := v = some (.int 1) ∧ Fr n0 L
theorem own_eqv {args : Array Value} {first s : State} {o : Option Outcome} {idx : List Nat} {a b : Term} {x : Value} (h : (Cond.eq a b).value args first o s idx = some true) (hb : b.eval args first o idx s = some x) (hx : x.isRef = true ∨ ∃ n, x = .int n) : a.eval args first o idx s = some x := by
  cases ha : a.eval args first o idx s with
  | none => simp [Cond.value, ha, hb] at h
  | some y =>
    rcases hx with hx | ⟨n, rfl⟩
    · rcases ref_cases hx with rfl | ⟨z, rfl⟩ <;> cases y <;> simp_all [Cond.value]
    · cases y <;> simp_all [Cond.value]
theorem own_len {Z : State} {args : Array Value} {t : Term} {a : Addr} {cl : Cell} {ty : FieldType} {n : Int32} (ev : t.eval args Z none [] Z = some (.ref a)) (A : Arr Z Z.heap a cl ty) (h : (Term.length t).eval args Z none [] Z = some (.int n)) : cl.slots.size < 2 ^ 31 ∧ cl.slots.size.toInt32 = n := by
  have hA : Z.arrayAt? a = some cl := Arr.fin (U := Z) (Vm.Alike.refl _) A
  by_cases q : cl.slots.size < 2 ^ 31
  · rw [len_f ev hA q] at h
    exact ⟨q, Value.int.inj (Option.some.inj h)⟩
  · simp [Term.eval, ev, hA, q] at h
theorem own_nei {a b : Int32} (h : a ≠ b) : (Value.int a) ≠ (Value.int b) := fun q => h (Value.int.inj q)
theorem own_s0 (p : Int32) : ((p &&& (2147483647 : Int32)) % (3 : Int32)) = (0 : Int32) ∨ ((p &&& (2147483647 : Int32)) % (3 : Int32)) = (1 : Int32) ∨ ((p &&& (2147483647 : Int32)) % (3 : Int32)) = (2 : Int32) := by
  have e := Jvm.Kit.i32_mask p 2147483647 (k := 31) (by decide) (by decide)
  have q : ((p &&& (2147483647 : Int32)) % (3 : Int32)).toInt = (p &&& (2147483647 : Int32)).toInt.tmod 3 := Int32.toInt_mod _ _
  rw [Int.tmod_eq_emod_of_nonneg (by omega)] at q
  have h : ((p &&& (2147483647 : Int32)) % (3 : Int32)).toInt = 0 ∨ ((p &&& (2147483647 : Int32)) % (3 : Int32)).toInt = 1 ∨ ((p &&& (2147483647 : Int32)) % (3 : Int32)).toInt = 2 := by omega
  rcases h with h | h | h
  · exact Or.inl (Int32.toInt_inj.mp (h.trans (by decide)))
  · exact Or.inr (Or.inl (Int32.toInt_inj.mp (h.trans (by decide))))
  · exact Or.inr (Or.inr ((Int32.toInt_inj.mp (h.trans (by decide)))))
theorem d1_0 : decode method_2_code 0 = .ok (.iload_n 0, 1) := by decide +kernel
theorem d1_1 : decode method_2_code 1 = .ok (.ifCond .ne 7, 3) := by decide +kernel
theorem d1_4 : decode method_2_code 4 = .ok (.getstatic 7, 3) := by decide +kernel
theorem d1_7 : decode method_2_code 7 = .ok (.areturn, 1) := by decide +kernel
theorem d1_8 : decode method_2_code 8 = .ok (.iload_n 0, 1) := by decide +kernel
theorem d1_9 : decode method_2_code 9 = .ok (.iconst 1, 1) := by decide +kernel
theorem d1_10 : decode method_2_code 10 = .ok (.if_icmp .ne 7, 3) := by decide +kernel
theorem d1_13 : decode method_2_code 13 = .ok (.getstatic 13, 3) := by decide +kernel
theorem d1_16 : decode method_2_code 16 = .ok (.areturn, 1) := by decide +kernel
theorem d1_17 : decode method_2_code 17 = .ok (.getstatic 16, 3) := by decide +kernel
theorem d1_20 : decode method_2_code 20 = .ok (.areturn, 1) := by decide +kernel
theorem d2_0 : decode prog_3_method_6_code 0 = .ok (.aload_n 0, 1) := by decide +kernel
theorem d2_1 : decode prog_3_method_6_code 1 = .ok (.invokevirtual 36, 3) := by decide +kernel
theorem d2_4 : decode prog_3_method_6_code 4 = .ok (.tableswitch 28 0 2 #[38, 44, 50], 28) := by decide +kernel
theorem d2_42 : decode prog_3_method_6_code 42 = .ok (.getstatic 10, 3) := by decide +kernel
theorem d2_45 : decode prog_3_method_6_code 45 = .ok (.goto 12, 3) := by decide +kernel
theorem d2_48 : decode prog_3_method_6_code 48 = .ok (.getstatic 7, 3) := by decide +kernel
theorem d2_51 : decode prog_3_method_6_code 51 = .ok (.goto 6, 3) := by decide +kernel
theorem d2_54 : decode prog_3_method_6_code 54 = .ok (.getstatic 3, 3) := by decide +kernel
theorem d2_57 : decode prog_3_method_6_code 57 = .ok (.areturn, 1) := by decide +kernel
theorem d3_0 : decode jdk_37_method_2_code 0 = .ok (.aload_n 0, 1) := by decide +kernel
theorem d3_1 : decode jdk_37_method_2_code 1 = .ok (.getfield 7, 3) := by decide +kernel
theorem d3_4 : decode jdk_37_method_2_code 4 = .ok (.ireturn, 1) := by decide +kernel
theorem pn_0 : plainName "com/example/shapewell/shapewell/OutcomeNotPinLaw" = true := by first | (simp [plainName, overriddenIn]; done) | decide +kernel
theorem pn_1 : plainName "java/lang/Enum" = true := by first | (simp [plainName, overriddenIn]; done) | decide +kernel
theorem pn_2 : plainName "com/example/shapewell/shapewell/Outcome" = true := by first | (simp [plainName, overriddenIn]; done) | decide +kernel
theorem pd_0 : parseMethodDescriptor "(I)Lcom/example/shapewell/shapewell/Outcome;" = some ⟨[.int], some (.object "com/example/shapewell/shapewell/Outcome")⟩ := by decide +kernel
theorem pd_1 : parseMethodDescriptor "()I" = some ⟨[], some .int⟩ := by decide +kernel
theorem pd_2 : parseMethodDescriptor "()Lcom/example/shapewell/shapewell/Outcome;" = some ⟨[], some (.object "com/example/shapewell/shapewell/Outcome")⟩ := by decide +kernel
theorem ef_1_I (m : MethodId) (x0 : Int32) : entryFrame m #[(.int x0)] 1 = mkF m 0 #[iv x0] [] := by first | (simp [entryFrame, mkF, argsToLocals, Value.category]; done) | rfl
theorem ef_3_R (m : MethodId) (x0 : Addr) : entryFrame m #[(.ref x0)] 1 = mkF m 0 #[rv x0] [] := by first | (simp [entryFrame, mkF, argsToLocals, Value.category]; done) | rfl
theorem ef_2_R (m : MethodId) (x0 : Addr) : entryFrame m #[(.ref x0)] 1 = mkF m 0 #[rv x0] [] := by first | (simp [entryFrame, mkF, argsToLocals, Value.category]; done) | rfl
theorem ef_0_I (m : MethodId) (x0 : Int32) : entryFrame m #[(.int x0)] maxLocals = mkF m 0 #[iv x0, .unset, .unset, .unset, .unset, .unset] [] := by first | (simp [entryFrame, mkF, argsToLocals, Value.category, maxLocals]; done) | rfl
set_option maxRecDepth 65536 in
set_option maxHeartbeats 40000000 in
theorem rm1_0 (l : Launch) (Z : State) (a0 : Array Value) (hw : ∀ d ∈ tables_1, d.before a0 Z = true) (ws : List Jvm.Cond) (w_Outcome_VIOLATES : Addr) (h0 : Heap) (n0 : Nat) (Z0 : n0 ≤ h0.size) (S_Outcome_VIOLATES : Sta Z h0 "com/example/shapewell/shapewell/Outcome" "VIOLATES" "Lcom/example/shapewell/shapewell/Outcome;" (.ref w_Outcome_VIOLATES)) :
    MetFree l (⟨"com/example/shapewell/shapewell/OutcomeNotPinLaw", "pick", "(I)Lcom/example/shapewell/shapewell/Outcome;"⟩ : MethodName) (head1 (Jvm.Cond.code (⟨"com/example/shapewell/shapewell/OutcomeNotPinLaw", "pick", "(I)Lcom/example/shapewell/shapewell/Outcome;"⟩ : MethodName) method_2_code 1 (some (.object "com/example/shapewell/shapewell/Outcome")) :: ws) ({ frames := 0, cells := 0, slots := 0, locals := 0 } : Room)) (fun a U => a = #[(.int (0 : Int32))] ∧ Z.Warmed39 U.vm ∧ U.heap = h0) (fun _ _ _ _ _ => True) (fun _ U o U' => ∃ v L, o = .returned v ∧ own_QP (some (.ref w_Outcome_VIOLATES)) h0 n0 v U'.heap L ∧ FrameEnd U o U' L ({ frames := 0, cells := 0, slots := 0, locals := 0 } : Room).cells ({ frames := 0, cells := 0, slots := 0, locals := 0 } : Room).slots) := by
  refine MetFree.of_bodySF (plainFor_of_name pn_0) hisR ?_
  intro p e s m args below meth c s₁ Bd hml0 hP hK
  obtain ⟨rfl, hZ, hh⟩ := hP
  have hx := Bd.exec
  have hby := Bd.bytes
  have hml : c.maxLocals = 1 := hml0
  have hown : s.vm.findClass "com/example/shapewell/shapewell/OutcomeNotPinLaw" = some m.cls := findClass_of_methodNamed Bd.named
  have hnm := (name_of_methodNamed Bd.named Bd.method).1
  have X0 : Stand p l e ({ frames := 0, cells := 0, slots := 0, locals := 0 } : Room) s m #[(.int (0 : Int32))] below meth c s₁ [] 0 0 := Stand.of_body Bd
  have e0 : s₁.heap = h0 := by rw [← hh, Bd.state]; rfl
  have N0 := Fr.nil n0
  have pre0 : ∀ t, Steps p.tables e below (s₁.setTop (mkF m 0 #[iv (0 : Int32)] [])) t → Steps p.tables e below (s₁.setTop (entryFrame m #[(.int (0 : Int32))] 1)) t := fun t k => castTop (ef_1_I m (0 : Int32)) k
  obtain ⟨T1, X1, e1, st1⟩ := getS2 X0 hx hZ hown (host := "") (Or.inl (hw _ (List.mem_of_getElem? (i := 5) rfl))) Via.refl e0 S_Outcome_VIOLATES (g := (mkF m 4 #[iv (0 : Int32)] [])) rfl (hb hby d1_4)
  obtain ⟨fs, hr, hrun, hended, hW, hsame⟩ := X1.leave (v := (some (.ref w_Outcome_VIOLATES))) (fun h => by rw [Bd.returns] at h; cases h)
  refine ⟨_, _, pre0 _ ?_, hrun, hended, _, _, rfl, ?_, ⟨_, rfl⟩, hW, hsame.mono (by decide) (by decide)⟩
  · show Steps p.tables e below (s₁.setTop (mkF m 0 #[iv (0 : Int32)] [])) _
    refine XS.iloadN X0.here hx rfl (hb hby d1_0) rfl ?_
    show Steps p.tables e below (s₁.setTop (mkF m 1 #[iv (0 : Int32)] [(.int (0 : Int32))])) _
    refine XS.ifNo X0.here hx rfl (hb hby d1_1) rfl ((if0 _ _).trans (teq (by decide +kernel : (0 : Int32) = (0 : Int32))).2) ?_
    show Steps p.tables e below (s₁.setTop (mkF m 4 #[iv (0 : Int32)] [])) _
    refine st1 _ ?_
    show Steps p.tables e below (T1.setTop (mkF m 7 #[iv (0 : Int32)] [(.ref w_Outcome_VIOLATES)])) _
    exact own_retA X1 hx Bd.returns rfl rfl (hb hby d1_7) hr
  · exact ⟨rfl, N0, e1⟩
set_option maxRecDepth 65536 in
set_option maxHeartbeats 40000000 in
theorem rm1_1 (l : Launch) (Z : State) (a0 : Array Value) (hw : ∀ d ∈ tables_1, d.before a0 Z = true) (ws : List Jvm.Cond) (w_Outcome_CONFORMS : Addr) (h0 : Heap) (n0 : Nat) (Z0 : n0 ≤ h0.size) (S_Outcome_CONFORMS : Sta Z h0 "com/example/shapewell/shapewell/Outcome" "CONFORMS" "Lcom/example/shapewell/shapewell/Outcome;" (.ref w_Outcome_CONFORMS)) :
    MetFree l (⟨"com/example/shapewell/shapewell/OutcomeNotPinLaw", "pick", "(I)Lcom/example/shapewell/shapewell/Outcome;"⟩ : MethodName) (head1 (Jvm.Cond.code (⟨"com/example/shapewell/shapewell/OutcomeNotPinLaw", "pick", "(I)Lcom/example/shapewell/shapewell/Outcome;"⟩ : MethodName) method_2_code 1 (some (.object "com/example/shapewell/shapewell/Outcome")) :: ws) ({ frames := 0, cells := 0, slots := 0, locals := 0 } : Room)) (fun a U => a = #[(.int (2 : Int32))] ∧ Z.Warmed39 U.vm ∧ U.heap = h0) (fun _ _ _ _ _ => True) (fun _ U o U' => ∃ v L, o = .returned v ∧ own_QP (some (.ref w_Outcome_CONFORMS)) h0 n0 v U'.heap L ∧ FrameEnd U o U' L ({ frames := 0, cells := 0, slots := 0, locals := 0 } : Room).cells ({ frames := 0, cells := 0, slots := 0, locals := 0 } : Room).slots) := by
  refine MetFree.of_bodySF (plainFor_of_name pn_0) hisR ?_
  intro p e s m args below meth c s₁ Bd hml0 hP hK
  obtain ⟨rfl, hZ, hh⟩ := hP
  have hx := Bd.exec
  have hby := Bd.bytes
  have hml : c.maxLocals = 1 := hml0
  have hown : s.vm.findClass "com/example/shapewell/shapewell/OutcomeNotPinLaw" = some m.cls := findClass_of_methodNamed Bd.named
  have hnm := (name_of_methodNamed Bd.named Bd.method).1
  have X0 : Stand p l e ({ frames := 0, cells := 0, slots := 0, locals := 0 } : Room) s m #[(.int (2 : Int32))] below meth c s₁ [] 0 0 := Stand.of_body Bd
  have e0 : s₁.heap = h0 := by rw [← hh, Bd.state]; rfl
  have N0 := Fr.nil n0
  have pre0 : ∀ t, Steps p.tables e below (s₁.setTop (mkF m 0 #[iv (2 : Int32)] [])) t → Steps p.tables e below (s₁.setTop (entryFrame m #[(.int (2 : Int32))] 1)) t := fun t k => castTop (ef_1_I m (2 : Int32)) k
  obtain ⟨T1, X1, e1, st1⟩ := getS2 X0 hx hZ hown (host := "") (Or.inl (hw _ (List.mem_of_getElem? (i := 8) rfl))) Via.refl e0 S_Outcome_CONFORMS (g := (mkF m 17 #[iv (2 : Int32)] [])) rfl (hb hby d1_17)
  obtain ⟨fs, hr, hrun, hended, hW, hsame⟩ := X1.leave (v := (some (.ref w_Outcome_CONFORMS))) (fun h => by rw [Bd.returns] at h; cases h)
  refine ⟨_, _, pre0 _ ?_, hrun, hended, _, _, rfl, ?_, ⟨_, rfl⟩, hW, hsame.mono (by decide) (by decide)⟩
  · show Steps p.tables e below (s₁.setTop (mkF m 0 #[iv (2 : Int32)] [])) _
    refine XS.iloadN X0.here hx rfl (hb hby d1_0) rfl ?_
    show Steps p.tables e below (s₁.setTop (mkF m 1 #[iv (2 : Int32)] [(.int (2 : Int32))])) _
    refine XS.ifYes X0.here hx rfl (pc0 := 1) (pc' := 8) rfl (hb hby d1_1) rfl ((if0 _ _).trans (feq (by decide +kernel : ¬ ((2 : Int32) = (0 : Int32)))).2) (by decide) (by decide) ?_
    show Steps p.tables e below (s₁.setTop (mkF m 8 #[iv (2 : Int32)] [])) _
    refine XS.iloadN X0.here hx rfl (hb hby d1_8) rfl ?_
    show Steps p.tables e below (s₁.setTop (mkF m 9 #[iv (2 : Int32)] [(.int (2 : Int32))])) _
    refine XS.iconst X0.here hx rfl (hb hby d1_9) ?_
    show Steps p.tables e below (s₁.setTop (mkF m 10 #[iv (2 : Int32)] [(.int (1 : Int32)), (.int (2 : Int32))])) _
    refine XS.icmpYes X0.here hx rfl (pc0 := 10) (pc' := 17) rfl (hb hby d1_10) rfl (feq (by decide +kernel : ¬ ((2 : Int32) = (1 : Int32)))).2 (by decide) (by decide) ?_
    show Steps p.tables e below (s₁.setTop (mkF m 17 #[iv (2 : Int32)] [])) _
    refine st1 _ ?_
    show Steps p.tables e below (T1.setTop (mkF m 20 #[iv (2 : Int32)] [(.ref w_Outcome_CONFORMS)])) _
    exact own_retA X1 hx Bd.returns rfl rfl (hb hby d1_20) hr
  · exact ⟨rfl, N0, e1⟩
set_option maxRecDepth 65536 in
set_option maxHeartbeats 40000000 in
theorem rm3_2 (l : Launch) (Z : State) (a0 : Array Value) (hw : ∀ d ∈ tables_1, d.before a0 Z = true) (ws : List Jvm.Cond) (w_Outcome_VIOLATES : Addr) (h0 : Heap) (n0 : Nat) (Z0 : n0 ≤ h0.size) (F_w_Outcome_VIOLATES_ordinal : Fld Z h0 w_Outcome_VIOLATES "java/lang/Enum" "ordinal" "I" (.int (0 : Int32))) :
    MetFree l (⟨"java/lang/Enum", "ordinal", "()I"⟩ : MethodName) (head1 (Jvm.Cond.code (⟨"java/lang/Enum", "ordinal", "()I"⟩ : MethodName) jdk_37_method_2_code 1 (some .int) :: ws) ({ frames := 0, cells := 0, slots := 0, locals := 0 } : Room)) (fun a U => a = #[(.ref w_Outcome_VIOLATES)] ∧ Z.Warmed39 U.vm ∧ U.heap = h0) (fun _ _ _ _ _ => True) (fun _ U o U' => ∃ v L, o = .returned v ∧ own_QP (some (.int (0 : Int32))) h0 n0 v U'.heap L ∧ FrameEnd U o U' L ({ frames := 0, cells := 0, slots := 0, locals := 0 } : Room).cells ({ frames := 0, cells := 0, slots := 0, locals := 0 } : Room).slots) := by
  refine MetFree.of_bodySF (plainFor_of_name pn_1) hisR ?_
  intro p e s m args below meth c s₁ Bd hml0 hP hK
  obtain ⟨rfl, hZ, hh⟩ := hP
  have hx := Bd.exec
  have hby := Bd.bytes
  have hml : c.maxLocals = 1 := hml0
  have hown : s.vm.findClass "java/lang/Enum" = some m.cls := findClass_of_methodNamed Bd.named
  have hnm := (name_of_methodNamed Bd.named Bd.method).1
  have X0 : Stand p l e ({ frames := 0, cells := 0, slots := 0, locals := 0 } : Room) s m #[(.ref w_Outcome_VIOLATES)] below meth c s₁ [] 0 0 := Stand.of_body Bd
  have e0 : s₁.heap = h0 := by rw [← hh, Bd.state]; rfl
  have N0 := Fr.nil n0
  have pre0 : ∀ t, Steps p.tables e below (s₁.setTop (mkF m 0 #[rv w_Outcome_VIOLATES] [])) t → Steps p.tables e below (s₁.setTop (entryFrame m #[(.ref w_Outcome_VIOLATES)] 1)) t := fun t k => castTop (ef_3_R m w_Outcome_VIOLATES) k
  obtain ⟨T1, X1, e1, st1⟩ := getF X0 hx hZ hown (host := "") (Or.inl (hw _ (List.mem_of_getElem? (i := 22) rfl))) Via.refl e0 F_w_Outcome_VIOLATES_ordinal (g := (mkF m 1 #[rv w_Outcome_VIOLATES] [(.ref w_Outcome_VIOLATES)])) rfl rfl (hb hby d3_1)
  obtain ⟨fs, hr, hrun, hended, hW, hsame⟩ := X1.leave (v := (some (.int (0 : Int32)))) (fun h => by rw [Bd.returns] at h; cases h)
  refine ⟨_, _, pre0 _ ?_, hrun, hended, _, _, rfl, ?_, ⟨_, rfl⟩, hW, hsame.mono (by decide) (by decide)⟩
  · show Steps p.tables e below (s₁.setTop (mkF m 0 #[rv w_Outcome_VIOLATES] [])) _
    refine XS.aloadN X0.here hx rfl (hb hby d3_0) rfl rfl ?_
    show Steps p.tables e below (s₁.setTop (mkF m 1 #[rv w_Outcome_VIOLATES] [(.ref w_Outcome_VIOLATES)])) _
    refine st1 _ ?_
    show Steps p.tables e below (T1.setTop (mkF m 4 #[rv w_Outcome_VIOLATES] [(.int (0 : Int32))])) _
    exact retI X1 hx Bd.returns (hb hby d3_4) hr
  · exact ⟨rfl, N0, e1⟩
set_option maxRecDepth 65536 in
set_option maxHeartbeats 40000000 in
theorem rm2_2 (l : Launch) (Z : State) (a0 : Array Value) (hw : ∀ d ∈ tables_1, d.before a0 Z = true) (ws : List Jvm.Cond) (w_Outcome_VIOLATES : Addr) (w_Outcome_CONFORMS : Addr) (h0 : Heap) (n0 : Nat) (Z0 : n0 ≤ h0.size) (F_w_Outcome_VIOLATES_ordinal : Fld Z h0 w_Outcome_VIOLATES "java/lang/Enum" "ordinal" "I" (.int (0 : Int32))) (E_w_Outcome_VIOLATES : Exa Z h0 w_Outcome_VIOLATES "com/example/shapewell/shapewell/Outcome") (S_Outcome_CONFORMS : Sta Z h0 "com/example/shapewell/shapewell/Outcome" "CONFORMS" "Lcom/example/shapewell/shapewell/Outcome;" (.ref w_Outcome_CONFORMS)) :
    MetFree l (⟨"com/example/shapewell/shapewell/Outcome", "not", "()Lcom/example/shapewell/shapewell/Outcome;"⟩ : MethodName) (head1 (Jvm.Cond.code (⟨"com/example/shapewell/shapewell/Outcome", "not", "()Lcom/example/shapewell/shapewell/Outcome;"⟩ : MethodName) prog_3_method_6_code 1 (some (.object "com/example/shapewell/shapewell/Outcome")) :: ws) ({ frames := 1, cells := 0, slots := 0, locals := 12 } : Room)) (fun a U => a = #[(.ref w_Outcome_VIOLATES)] ∧ Z.Warmed39 U.vm ∧ U.heap = h0) (fun _ _ _ _ _ => True) (fun _ U o U' => ∃ v L, o = .returned v ∧ own_QP (some (.ref w_Outcome_CONFORMS)) h0 n0 v U'.heap L ∧ FrameEnd U o U' L ({ frames := 1, cells := 0, slots := 0, locals := 12 } : Room).cells ({ frames := 1, cells := 0, slots := 0, locals := 12 } : Room).slots) := by
  refine MetFree.of_bodySF (plainFor_of_name pn_2) hisR ?_
  intro p e s m args below meth c s₁ Bd hml0 hP hK
  obtain ⟨rfl, hZ, hh⟩ := hP
  have hx := Bd.exec
  have hby := Bd.bytes
  have hml : c.maxLocals = 1 := hml0
  have hown : s.vm.findClass "com/example/shapewell/shapewell/Outcome" = some m.cls := findClass_of_methodNamed Bd.named
  have hnm := (name_of_methodNamed Bd.named Bd.method).1
  have X0 : Stand p l e ({ frames := 1, cells := 0, slots := 0, locals := 12 } : Room) s m #[(.ref w_Outcome_VIOLATES)] below meth c s₁ [] 0 0 := Stand.of_body Bd
  have e0 : s₁.heap = h0 := by rw [← hh, Bd.state]; rfl
  have N0 := Fr.nil n0
  have pre0 : ∀ t, Steps p.tables e below (s₁.setTop (mkF m 0 #[rv w_Outcome_VIOLATES] [])) t → Steps p.tables e below (s₁.setTop (entryFrame m #[(.ref w_Outcome_VIOLATES)] 1)) t := fun t k => castTop (ef_2_R m w_Outcome_VIOLATES) k
  obtain ⟨cq1, kq1, q1a, q1b, q1c⟩ := isOf hZ e0 E_w_Outcome_VIOLATES
  obtain ⟨_, _, ⟨T1, L1, k1, n1⟩, -, X1, ⟨Lc1, hQ1, l1, y1, z1⟩, st1⟩ := X0.virtualBackUp hx (x := (⟨"com/example/shapewell/shapewell/Outcome", "ordinal", "()I"⟩ : MethodName)) (y := (⟨"java/lang/Enum", "ordinal", "()I"⟩ : MethodName)) hown (mvT hZ (hw _ (List.mem_of_getElem? (i := 15) rfl))) (mvT hZ (hw _ (List.mem_of_getElem? (i := 16) rfl))) (mvT hZ (hw _ (List.mem_of_getElem? (i := 17) rfl))) (by decide) (mvT hZ (hw _ (List.mem_of_getElem? (i := 19) rfl))) (mvT hZ (hw _ (List.mem_of_getElem? (i := 18) rfl))) (backOf (W := 0) (rm3_2 l Z a0 hw [] w_Outcome_VIOLATES h0 n0 Z0 F_w_Outcome_VIOLATES_ordinal) hZ (hw _ (List.mem_of_getElem? (i := 21) rfl)) (hw _ (List.mem_of_getElem? (i := 20) rfl)) (by decide) (by decide)) q1a q1c (g := (mkF m 1 #[rv w_Outcome_VIOLATES] [(.ref w_Outcome_VIOLATES)])) rfl (by rw [hml]; rfl) (Steps.refl _) (argsL := []) (rest := []) (lenOf pd_1 rfl) rfl (by show 2 * 0 + _ ≤ _; exact Nat.le_of_eq rfl) (hb hby d2_1) (fun _ _ => ⟨rfl, e0, (by decide : 0 + 0 ≤ _), (by decide : 0 + 0 ≤ _)⟩)
  dsimp only [Pt.U, Pt.locs, Pt.cells, Pt.slots] at X1 l1 y1 z1 st1 hQ1
  subst l1 y1 z1
  obtain ⟨rfl, N1q, e1⟩ := hQ1
  have N1 := Fr.app N0 N1q
  obtain ⟨T2, X2, e2, st2⟩ := getS2 X1 hx hZ hown (host := "") (Or.inl (hw _ (List.mem_of_getElem? (i := 24) rfl))) Via.refl e1 S_Outcome_CONFORMS (g := (mkF m 42 #[rv w_Outcome_VIOLATES] [])) rfl (hb hby d2_42)
  obtain ⟨fs, hr, hrun, hended, hW, hsame⟩ := X2.leave (v := (some (.ref w_Outcome_CONFORMS))) (fun h => by rw [Bd.returns] at h; cases h)
  refine ⟨_, _, pre0 _ ?_, hrun, hended, _, _, rfl, ?_, ⟨_, rfl⟩, hW, hsame.mono (by decide) (by decide)⟩
  · show Steps p.tables e below (s₁.setTop (mkF m 0 #[rv w_Outcome_VIOLATES] [])) _
    refine XS.aloadN X0.here hx rfl (hb hby d2_0) rfl rfl ?_
    show Steps p.tables e below (s₁.setTop (mkF m 1 #[rv w_Outcome_VIOLATES] [(.ref w_Outcome_VIOLATES)])) _
    refine st1.trans ?_
    show Steps p.tables e below (T1.setTop (mkF m 4 #[rv w_Outcome_VIOLATES] [(.int (0 : Int32))])) _
    refine XS.tswIn X1.here hx rfl (o := 38) (pc0 := 4) (pc' := 42) rfl (hb hby d2_4) rfl (by decide) (by decide) (by decide) (by decide) ?_
    show Steps p.tables e below (T1.setTop (mkF m 42 #[rv w_Outcome_VIOLATES] [])) _
    refine st2 _ ?_
    show Steps p.tables e below (T2.setTop (mkF m 45 #[rv w_Outcome_VIOLATES] [(.ref w_Outcome_CONFORMS)])) _
    refine XS.goto X2.here hx rfl (pc0 := 45) (pc' := 57) rfl (hb hby d2_45) (by decide) (by decide) ?_
    show Steps p.tables e below (T2.setTop (mkF m 57 #[rv w_Outcome_VIOLATES] [(.ref w_Outcome_CONFORMS)])) _
    exact own_retA X2 hx Bd.returns rfl rfl (hb hby d2_57) hr
  · exact ⟨rfl, N1, e2⟩
set_option maxRecDepth 65536 in
set_option maxHeartbeats 40000000 in
theorem rm3_4 (l : Launch) (Z : State) (a0 : Array Value) (hw : ∀ d ∈ tables_1, d.before a0 Z = true) (ws : List Jvm.Cond) (w_Outcome_CONFORMS : Addr) (h0 : Heap) (n0 : Nat) (Z0 : n0 ≤ h0.size) (F_w_Outcome_CONFORMS_ordinal : Fld Z h0 w_Outcome_CONFORMS "java/lang/Enum" "ordinal" "I" (.int (2 : Int32))) :
    MetFree l (⟨"java/lang/Enum", "ordinal", "()I"⟩ : MethodName) (head1 (Jvm.Cond.code (⟨"java/lang/Enum", "ordinal", "()I"⟩ : MethodName) jdk_37_method_2_code 1 (some .int) :: ws) ({ frames := 0, cells := 0, slots := 0, locals := 0 } : Room)) (fun a U => a = #[(.ref w_Outcome_CONFORMS)] ∧ Z.Warmed39 U.vm ∧ U.heap = h0) (fun _ _ _ _ _ => True) (fun _ U o U' => ∃ v L, o = .returned v ∧ own_QP (some (.int (2 : Int32))) h0 n0 v U'.heap L ∧ FrameEnd U o U' L ({ frames := 0, cells := 0, slots := 0, locals := 0 } : Room).cells ({ frames := 0, cells := 0, slots := 0, locals := 0 } : Room).slots) := by
  refine MetFree.of_bodySF (plainFor_of_name pn_1) hisR ?_
  intro p e s m args below meth c s₁ Bd hml0 hP hK
  obtain ⟨rfl, hZ, hh⟩ := hP
  have hx := Bd.exec
  have hby := Bd.bytes
  have hml : c.maxLocals = 1 := hml0
  have hown : s.vm.findClass "java/lang/Enum" = some m.cls := findClass_of_methodNamed Bd.named
  have hnm := (name_of_methodNamed Bd.named Bd.method).1
  have X0 : Stand p l e ({ frames := 0, cells := 0, slots := 0, locals := 0 } : Room) s m #[(.ref w_Outcome_CONFORMS)] below meth c s₁ [] 0 0 := Stand.of_body Bd
  have e0 : s₁.heap = h0 := by rw [← hh, Bd.state]; rfl
  have N0 := Fr.nil n0
  have pre0 : ∀ t, Steps p.tables e below (s₁.setTop (mkF m 0 #[rv w_Outcome_CONFORMS] [])) t → Steps p.tables e below (s₁.setTop (entryFrame m #[(.ref w_Outcome_CONFORMS)] 1)) t := fun t k => castTop (ef_3_R m w_Outcome_CONFORMS) k
  obtain ⟨T1, X1, e1, st1⟩ := getF X0 hx hZ hown (host := "") (Or.inl (hw _ (List.mem_of_getElem? (i := 22) rfl))) Via.refl e0 F_w_Outcome_CONFORMS_ordinal (g := (mkF m 1 #[rv w_Outcome_CONFORMS] [(.ref w_Outcome_CONFORMS)])) rfl rfl (hb hby d3_1)
  obtain ⟨fs, hr, hrun, hended, hW, hsame⟩ := X1.leave (v := (some (.int (2 : Int32)))) (fun h => by rw [Bd.returns] at h; cases h)
  refine ⟨_, _, pre0 _ ?_, hrun, hended, _, _, rfl, ?_, ⟨_, rfl⟩, hW, hsame.mono (by decide) (by decide)⟩
  · show Steps p.tables e below (s₁.setTop (mkF m 0 #[rv w_Outcome_CONFORMS] [])) _
    refine XS.aloadN X0.here hx rfl (hb hby d3_0) rfl rfl ?_
    show Steps p.tables e below (s₁.setTop (mkF m 1 #[rv w_Outcome_CONFORMS] [(.ref w_Outcome_CONFORMS)])) _
    refine st1 _ ?_
    show Steps p.tables e below (T1.setTop (mkF m 4 #[rv w_Outcome_CONFORMS] [(.int (2 : Int32))])) _
    exact retI X1 hx Bd.returns (hb hby d3_4) hr
  · exact ⟨rfl, N0, e1⟩
set_option maxRecDepth 65536 in
set_option maxHeartbeats 40000000 in
theorem rm2_4 (l : Launch) (Z : State) (a0 : Array Value) (hw : ∀ d ∈ tables_1, d.before a0 Z = true) (ws : List Jvm.Cond) (w_Outcome_VIOLATES : Addr) (w_Outcome_CONFORMS : Addr) (h0 : Heap) (n0 : Nat) (Z0 : n0 ≤ h0.size) (F_w_Outcome_CONFORMS_ordinal : Fld Z h0 w_Outcome_CONFORMS "java/lang/Enum" "ordinal" "I" (.int (2 : Int32))) (E_w_Outcome_CONFORMS : Exa Z h0 w_Outcome_CONFORMS "com/example/shapewell/shapewell/Outcome") (S_Outcome_VIOLATES : Sta Z h0 "com/example/shapewell/shapewell/Outcome" "VIOLATES" "Lcom/example/shapewell/shapewell/Outcome;" (.ref w_Outcome_VIOLATES)) :
    MetFree l (⟨"com/example/shapewell/shapewell/Outcome", "not", "()Lcom/example/shapewell/shapewell/Outcome;"⟩ : MethodName) (head1 (Jvm.Cond.code (⟨"com/example/shapewell/shapewell/Outcome", "not", "()Lcom/example/shapewell/shapewell/Outcome;"⟩ : MethodName) prog_3_method_6_code 1 (some (.object "com/example/shapewell/shapewell/Outcome")) :: ws) ({ frames := 1, cells := 0, slots := 0, locals := 12 } : Room)) (fun a U => a = #[(.ref w_Outcome_CONFORMS)] ∧ Z.Warmed39 U.vm ∧ U.heap = h0) (fun _ _ _ _ _ => True) (fun _ U o U' => ∃ v L, o = .returned v ∧ own_QP (some (.ref w_Outcome_VIOLATES)) h0 n0 v U'.heap L ∧ FrameEnd U o U' L ({ frames := 1, cells := 0, slots := 0, locals := 12 } : Room).cells ({ frames := 1, cells := 0, slots := 0, locals := 12 } : Room).slots) := by
  refine MetFree.of_bodySF (plainFor_of_name pn_2) hisR ?_
  intro p e s m args below meth c s₁ Bd hml0 hP hK
  obtain ⟨rfl, hZ, hh⟩ := hP
  have hx := Bd.exec
  have hby := Bd.bytes
  have hml : c.maxLocals = 1 := hml0
  have hown : s.vm.findClass "com/example/shapewell/shapewell/Outcome" = some m.cls := findClass_of_methodNamed Bd.named
  have hnm := (name_of_methodNamed Bd.named Bd.method).1
  have X0 : Stand p l e ({ frames := 1, cells := 0, slots := 0, locals := 12 } : Room) s m #[(.ref w_Outcome_CONFORMS)] below meth c s₁ [] 0 0 := Stand.of_body Bd
  have e0 : s₁.heap = h0 := by rw [← hh, Bd.state]; rfl
  have N0 := Fr.nil n0
  have pre0 : ∀ t, Steps p.tables e below (s₁.setTop (mkF m 0 #[rv w_Outcome_CONFORMS] [])) t → Steps p.tables e below (s₁.setTop (entryFrame m #[(.ref w_Outcome_CONFORMS)] 1)) t := fun t k => castTop (ef_2_R m w_Outcome_CONFORMS) k
  obtain ⟨cq1, kq1, q1a, q1b, q1c⟩ := isOf hZ e0 E_w_Outcome_CONFORMS
  obtain ⟨_, _, ⟨T1, L1, k1, n1⟩, -, X1, ⟨Lc1, hQ1, l1, y1, z1⟩, st1⟩ := X0.virtualBackUp hx (x := (⟨"com/example/shapewell/shapewell/Outcome", "ordinal", "()I"⟩ : MethodName)) (y := (⟨"java/lang/Enum", "ordinal", "()I"⟩ : MethodName)) hown (mvT hZ (hw _ (List.mem_of_getElem? (i := 15) rfl))) (mvT hZ (hw _ (List.mem_of_getElem? (i := 16) rfl))) (mvT hZ (hw _ (List.mem_of_getElem? (i := 17) rfl))) (by decide) (mvT hZ (hw _ (List.mem_of_getElem? (i := 19) rfl))) (mvT hZ (hw _ (List.mem_of_getElem? (i := 18) rfl))) (backOf (W := 0) (rm3_4 l Z a0 hw [] w_Outcome_CONFORMS h0 n0 Z0 F_w_Outcome_CONFORMS_ordinal) hZ (hw _ (List.mem_of_getElem? (i := 21) rfl)) (hw _ (List.mem_of_getElem? (i := 20) rfl)) (by decide) (by decide)) q1a q1c (g := (mkF m 1 #[rv w_Outcome_CONFORMS] [(.ref w_Outcome_CONFORMS)])) rfl (by rw [hml]; rfl) (Steps.refl _) (argsL := []) (rest := []) (lenOf pd_1 rfl) rfl (by show 2 * 0 + _ ≤ _; exact Nat.le_of_eq rfl) (hb hby d2_1) (fun _ _ => ⟨rfl, e0, (by decide : 0 + 0 ≤ _), (by decide : 0 + 0 ≤ _)⟩)
  dsimp only [Pt.U, Pt.locs, Pt.cells, Pt.slots] at X1 l1 y1 z1 st1 hQ1
  subst l1 y1 z1
  obtain ⟨rfl, N1q, e1⟩ := hQ1
  have N1 := Fr.app N0 N1q
  obtain ⟨T2, X2, e2, st2⟩ := getS2 X1 hx hZ hown (host := "") (Or.inl (hw _ (List.mem_of_getElem? (i := 25) rfl))) Via.refl e1 S_Outcome_VIOLATES (g := (mkF m 54 #[rv w_Outcome_CONFORMS] [])) rfl (hb hby d2_54)
  obtain ⟨fs, hr, hrun, hended, hW, hsame⟩ := X2.leave (v := (some (.ref w_Outcome_VIOLATES))) (fun h => by rw [Bd.returns] at h; cases h)
  refine ⟨_, _, pre0 _ ?_, hrun, hended, _, _, rfl, ?_, ⟨_, rfl⟩, hW, hsame.mono (by decide) (by decide)⟩
  · show Steps p.tables e below (s₁.setTop (mkF m 0 #[rv w_Outcome_CONFORMS] [])) _
    refine XS.aloadN X0.here hx rfl (hb hby d2_0) rfl rfl ?_
    show Steps p.tables e below (s₁.setTop (mkF m 1 #[rv w_Outcome_CONFORMS] [(.ref w_Outcome_CONFORMS)])) _
    refine st1.trans ?_
    show Steps p.tables e below (T1.setTop (mkF m 4 #[rv w_Outcome_CONFORMS] [(.int (2 : Int32))])) _
    refine XS.tswIn X1.here hx rfl (o := 50) (pc0 := 4) (pc' := 54) rfl (hb hby d2_4) rfl (by decide) (by decide) (by decide) (by decide) ?_
    show Steps p.tables e below (T1.setTop (mkF m 54 #[rv w_Outcome_CONFORMS] [])) _
    refine st2 _ ?_
    show Steps p.tables e below (T2.setTop (mkF m 57 #[rv w_Outcome_CONFORMS] [(.ref w_Outcome_VIOLATES)])) _
    exact own_retA X2 hx Bd.returns rfl rfl (hb hby d2_57) hr
  · exact ⟨rfl, N1, e2⟩
set_option maxRecDepth 65536 in
set_option maxHeartbeats 40000000 in
theorem rm0_0 (l : Launch) (Z : State) (a0 : Array Value) (hw : ∀ d ∈ tables_1, d.before a0 Z = true) (ws : List Jvm.Cond) (p0 : Int32) (w_Outcome_VIOLATES : Addr) (w_Outcome_CONFORMS : Addr) (h0 : Heap) (n0 : Nat) (Z0 : n0 ≤ h0.size) (hk0 : ((p0 &&& (2147483647 : Int32)) % (3 : Int32)) = (0 : Int32)) (S_Outcome_VIOLATES : Sta Z h0 "com/example/shapewell/shapewell/Outcome" "VIOLATES" "Lcom/example/shapewell/shapewell/Outcome;" (.ref w_Outcome_VIOLATES)) (S_Outcome_CONFORMS : Sta Z h0 "com/example/shapewell/shapewell/Outcome" "CONFORMS" "Lcom/example/shapewell/shapewell/Outcome;" (.ref w_Outcome_CONFORMS)) (F_w_Outcome_VIOLATES_ordinal : Fld Z h0 w_Outcome_VIOLATES "java/lang/Enum" "ordinal" "I" (.int (0 : Int32))) (E_w_Outcome_VIOLATES : Exa Z h0 w_Outcome_VIOLATES "com/example/shapewell/shapewell/Outcome") (F_w_Outcome_CONFORMS_ordinal : Fld Z h0 w_Outcome_CONFORMS "java/lang/Enum" "ordinal" "I" (.int (2 : Int32))) (E_w_Outcome_CONFORMS : Exa Z h0 w_Outcome_CONFORMS "com/example/shapewell/shapewell/Outcome") :
    MetFree l x (head1 (Jvm.Cond.code x code maxLocals ret :: ws) room_1) (fun a U => a = #[(.int p0)] ∧ Z.Warmed39 U.vm ∧ U.heap = h0) (fun _ _ _ _ _ => True) (fun _ U o U' => ∃ v L, o = .returned v ∧ own_QL n0 v U'.heap L ∧ FrameEnd U o U' L room_1.cells room_1.slots) := by
  refine MetFree.of_bodySF (plainFor_of_name pn_0) hisR ?_
  intro p e s m args below meth c s₁ Bd hml0 hP hK
  obtain ⟨rfl, hZ, hh⟩ := hP
  have hx := Bd.exec
  have hby := Bd.bytes
  have hml : c.maxLocals = 6 := hml0
  have hown : s.vm.findClass "com/example/shapewell/shapewell/OutcomeNotPinLaw" = some m.cls := findClass_of_methodNamed Bd.named
  have hnm := (name_of_methodNamed Bd.named Bd.method).1
  have X0 : Stand p l e room_1 s m #[(.int p0)] below meth c s₁ [] 0 0 := Stand.of_body Bd
  have e0 : s₁.heap = h0 := by rw [← hh, Bd.state]; rfl
  have N0 := Fr.nil n0
  have pre0 : ∀ t, Steps p.tables e below (s₁.setTop (mkF m 0 #[iv p0, .unset, .unset, .unset, .unset, .unset] [])) t → Steps p.tables e below (s₁.setTop (entryFrame m #[(.int p0)] maxLocals)) t := fun t k => castTop (ef_0_I m p0) k
  obtain ⟨_, _, ⟨T1, L1, k1, n1⟩, -, X1, ⟨Lc1, hQ1, l1, y1, z1⟩, st1⟩ := Jvm.LawKit.callS X0 hx (y := (⟨"com/example/shapewell/shapewell/OutcomeNotPinLaw", "pick", "(I)Lcom/example/shapewell/shapewell/Outcome;"⟩ : MethodName)) hown (mvT hZ (hw _ (List.mem_of_getElem? (i := 1) rfl))) (mvT hZ (hw _ (List.mem_of_getElem? (i := 2) rfl))) (mvT hZ (hw _ (List.mem_of_getElem? (i := 3) rfl))) (mvT hZ (hw _ (List.mem_of_getElem? (i := 4) rfl))) (by decide) (backOf (W := 0) (rm1_0 l Z a0 hw [] w_Outcome_VIOLATES h0 n0 Z0 S_Outcome_VIOLATES) hZ (hw _ (List.mem_of_getElem? (i := 4) rfl)) (hw _ (List.mem_of_getElem? (i := 3) rfl)) (by decide) (by decide)) (g := (mkF m 8 #[iv p0, iv (0 : Int32), .unset, .unset, .unset, .unset] [(.int (0 : Int32))])) rfl (by rw [hml]; rfl) (argsL := [(.int (0 : Int32))]) (rest := []) (lenOf pd_0 rfl) rfl (by show 2 * 0 + _ ≤ _; exact Nat.le_of_eq rfl) (hb hby at_8) (fun _ _ => ⟨rfl, e0, (by decide : 0 + 0 ≤ _), (by decide : 0 + 0 ≤ _)⟩)
  dsimp only [Pt.U, Pt.locs, Pt.cells, Pt.slots] at X1 l1 y1 z1 st1 hQ1
  subst l1 y1 z1
  obtain ⟨rfl, N1q, e1⟩ := hQ1
  have N1 := Fr.app N0 N1q
  obtain ⟨_, _, ⟨T2, L2, k2, n2⟩, -, X2, ⟨Lc2, hQ2, l2, y2, z2⟩, st2⟩ := Jvm.LawKit.callS X1 hx (y := (⟨"com/example/shapewell/shapewell/OutcomeNotPinLaw", "pick", "(I)Lcom/example/shapewell/shapewell/Outcome;"⟩ : MethodName)) hown (mvT hZ (hw _ (List.mem_of_getElem? (i := 1) rfl))) (mvT hZ (hw _ (List.mem_of_getElem? (i := 2) rfl))) (mvT hZ (hw _ (List.mem_of_getElem? (i := 3) rfl))) (mvT hZ (hw _ (List.mem_of_getElem? (i := 4) rfl))) (by decide) (backOf (W := 0) (rm1_1 l Z a0 hw [] w_Outcome_CONFORMS h0 n0 Z0 S_Outcome_CONFORMS) hZ (hw _ (List.mem_of_getElem? (i := 4) rfl)) (hw _ (List.mem_of_getElem? (i := 3) rfl)) (by decide) (by decide)) (g := (mkF m 15 #[iv p0, iv (0 : Int32), rv w_Outcome_VIOLATES, .unset, .unset, .unset] [(.int (2 : Int32))])) rfl (by rw [hml]; rfl) (argsL := [(.int (2 : Int32))]) (rest := []) (lenOf pd_0 rfl) rfl (by show 2 * 0 + _ ≤ _; exact Nat.le_of_eq rfl) (hb hby at_15) (fun _ _ => ⟨rfl, e1, (by decide : 0 + 0 ≤ _), (by decide : 0 + 0 ≤ _)⟩)
  dsimp only [Pt.U, Pt.locs, Pt.cells, Pt.slots] at X2 l2 y2 z2 st2 hQ2
  subst l2 y2 z2
  obtain ⟨rfl, N2q, e2⟩ := hQ2
  have N2 := Fr.app N1 N2q
  obtain ⟨cq3, kq3, q3a, q3b, q3c⟩ := isOf hZ e2 E_w_Outcome_VIOLATES
  obtain ⟨_, _, ⟨T3, L3, k3, n3⟩, -, X3, ⟨Lc3, hQ3, l3, y3, z3⟩, st3⟩ := X2.virtualBack hx (y := (⟨"com/example/shapewell/shapewell/Outcome", "not", "()Lcom/example/shapewell/shapewell/Outcome;"⟩ : MethodName)) (z := (⟨"com/example/shapewell/shapewell/Outcome", "not", "()Lcom/example/shapewell/shapewell/Outcome;"⟩ : MethodName)) hown (mvT hZ (hw _ (List.mem_of_getElem? (i := 10) rfl))) (mvT hZ (hw _ (List.mem_of_getElem? (i := 11) rfl))) (notFace_of_selects (args := #[]) (mvT hZ (hw _ (List.mem_of_getElem? (i := 13) rfl)))) (mvT hZ (hw _ (List.mem_of_getElem? (i := 13) rfl))) (mvT hZ (hw _ (List.mem_of_getElem? (i := 12) rfl))) (by decide) (backOf (W := 0) (rm2_2 l Z a0 hw [] w_Outcome_VIOLATES w_Outcome_CONFORMS h0 n0 Z0 F_w_Outcome_VIOLATES_ordinal E_w_Outcome_VIOLATES S_Outcome_CONFORMS) hZ (hw _ (List.mem_of_getElem? (i := 14) rfl)) (hw _ (List.mem_of_getElem? (i := 6) rfl)) (by decide) (by decide)) q3a q3c (g := (mkF m 20 #[iv p0, iv (0 : Int32), rv w_Outcome_VIOLATES, rv w_Outcome_CONFORMS, .unset, .unset] [(.ref w_Outcome_VIOLATES)])) rfl (by rw [hml]; rfl) (Steps.refl _) (argsL := []) (rest := []) (lenOf pd_2 rfl) rfl (by show 2 * 0 + _ ≤ _; exact Nat.le_of_eq rfl) (hb hby at_20) (fun _ _ => ⟨rfl, e2, (by decide : 0 + 0 ≤ _), (by decide : 0 + 0 ≤ _)⟩)
  dsimp only [Pt.U, Pt.locs, Pt.cells, Pt.slots] at X3 l3 y3 z3 st3 hQ3
  subst l3 y3 z3
  obtain ⟨rfl, N3q, e3⟩ := hQ3
  have N3 := Fr.app N2 N3q
  obtain ⟨cq4, kq4, q4a, q4b, q4c⟩ := isOf hZ e3 E_w_Outcome_CONFORMS
  obtain ⟨_, _, ⟨T4, L4, k4, n4⟩, -, X4, ⟨Lc4, hQ4, l4, y4, z4⟩, st4⟩ := X3.virtualBack hx (y := (⟨"com/example/shapewell/shapewell/Outcome", "not", "()Lcom/example/shapewell/shapewell/Outcome;"⟩ : MethodName)) (z := (⟨"com/example/shapewell/shapewell/Outcome", "not", "()Lcom/example/shapewell/shapewell/Outcome;"⟩ : MethodName)) hown (mvT hZ (hw _ (List.mem_of_getElem? (i := 10) rfl))) (mvT hZ (hw _ (List.mem_of_getElem? (i := 11) rfl))) (notFace_of_selects (args := #[]) (mvT hZ (hw _ (List.mem_of_getElem? (i := 13) rfl)))) (mvT hZ (hw _ (List.mem_of_getElem? (i := 13) rfl))) (mvT hZ (hw _ (List.mem_of_getElem? (i := 12) rfl))) (by decide) (backOf (W := 0) (rm2_4 l Z a0 hw [] w_Outcome_VIOLATES w_Outcome_CONFORMS h0 n0 Z0 F_w_Outcome_CONFORMS_ordinal E_w_Outcome_CONFORMS S_Outcome_VIOLATES) hZ (hw _ (List.mem_of_getElem? (i := 14) rfl)) (hw _ (List.mem_of_getElem? (i := 6) rfl)) (by decide) (by decide)) q4a q4c (g := (mkF m 35 #[iv p0, iv (0 : Int32), rv w_Outcome_VIOLATES, rv w_Outcome_CONFORMS, rv w_Outcome_CONFORMS, .unset] [(.ref w_Outcome_CONFORMS)])) rfl (by rw [hml]; rfl) (Steps.refl _) (argsL := []) (rest := []) (lenOf pd_2 rfl) rfl (by show 2 * 0 + _ ≤ _; exact Nat.le_of_eq rfl) (hb hby at_35) (fun _ _ => ⟨rfl, e3, (by decide : 0 + 0 ≤ _), (by decide : 0 + 0 ≤ _)⟩)
  dsimp only [Pt.U, Pt.locs, Pt.cells, Pt.slots] at X4 l4 y4 z4 st4 hQ4
  subst l4 y4 z4
  obtain ⟨rfl, N4q, e4⟩ := hQ4
  have N4 := Fr.app N3 N4q
  obtain ⟨fs, hr, hrun, hended, hW, hsame⟩ := X4.leave (v := (some (.int (1 : Int32)))) (fun h => by rw [Bd.returns] at h; cases h)
  refine ⟨_, _, pre0 _ ?_, hrun, hended, _, _, rfl, ?_, ⟨_, rfl⟩, hW, hsame.mono (by decide) (by decide)⟩
  · show Steps p.tables e below (s₁.setTop (mkF m 0 #[iv p0, .unset, .unset, .unset, .unset, .unset] [])) _
    refine XS.iloadN X0.here hx rfl (hb hby at_0) rfl ?_
    show Steps p.tables e below (s₁.setTop (mkF m 1 #[iv p0, .unset, .unset, .unset, .unset, .unset] [(.int p0)])) _
    refine X0.ldcInt hx hown (mvT hZ (hw _ (List.mem_of_getElem? (i := 0) rfl))) (g := (mkF m 1 #[iv p0, .unset, .unset, .unset, .unset, .unset] [(.int p0)])) rfl (hb hby at_1) _ ?_
    show Steps p.tables e below (s₁.setTop (mkF m 3 #[iv p0, .unset, .unset, .unset, .unset, .unset] [(.int (2147483647 : Int32)), (.int p0)])) _
    refine XS.iand X0.here hx rfl (hb hby at_3) rfl ?_
    show Steps p.tables e below (s₁.setTop (mkF m 4 #[iv p0, .unset, .unset, .unset, .unset, .unset] [(.int (p0 &&& (2147483647 : Int32)))])) _
    refine XS.iconst X0.here hx rfl (hb hby at_4) ?_
    show Steps p.tables e below (s₁.setTop (mkF m 5 #[iv p0, .unset, .unset, .unset, .unset, .unset] [(.int (3 : Int32)), (.int (p0 &&& (2147483647 : Int32)))])) _
    refine iremM X0 hx rfl (hb hby at_5) rfl (by decide) ?_
    show Steps p.tables e below (s₁.setTop (mkF m 6 #[iv p0, .unset, .unset, .unset, .unset, .unset] [(.int ((p0 &&& (2147483647 : Int32)) % (3 : Int32)))])) _
    rewrite [hk0]
    show Steps p.tables e below (s₁.setTop (mkF m 6 #[iv p0, .unset, .unset, .unset, .unset, .unset] [(.int (0 : Int32))])) _
    refine XS.istoreN X0.here hx rfl (hb hby at_6) rfl (l' := #[iv p0, iv (0 : Int32), .unset, .unset, .unset, .unset]) rfl ?_
    show Steps p.tables e below (s₁.setTop (mkF m 7 #[iv p0, iv (0 : Int32), .unset, .unset, .unset, .unset] [])) _
    refine XS.iloadN X0.here hx rfl (hb hby at_7) rfl ?_
    show Steps p.tables e below (s₁.setTop (mkF m 8 #[iv p0, iv (0 : Int32), .unset, .unset, .unset, .unset] [(.int (0 : Int32))])) _
    refine st1 _ ?_
    show Steps p.tables e below (T1.setTop (mkF m 11 #[iv p0, iv (0 : Int32), .unset, .unset, .unset, .unset] [(.ref w_Outcome_VIOLATES)])) _
    refine XS.astoreN X1.here hx rfl (hb hby at_11) rfl rfl (l' := #[iv p0, iv (0 : Int32), rv w_Outcome_VIOLATES, .unset, .unset, .unset]) rfl ?_
    show Steps p.tables e below (T1.setTop (mkF m 12 #[iv p0, iv (0 : Int32), rv w_Outcome_VIOLATES, .unset, .unset, .unset] [])) _
    refine XS.iconst X1.here hx rfl (hb hby at_12) ?_
    show Steps p.tables e below (T1.setTop (mkF m 13 #[iv p0, iv (0 : Int32), rv w_Outcome_VIOLATES, .unset, .unset, .unset] [(.int (2 : Int32))])) _
    refine XS.iloadN X1.here hx rfl (hb hby at_13) rfl ?_
    show Steps p.tables e below (T1.setTop (mkF m 14 #[iv p0, iv (0 : Int32), rv w_Outcome_VIOLATES, .unset, .unset, .unset] [(.int (0 : Int32)), (.int (2 : Int32))])) _
    refine XS.isub X1.here hx rfl (hb hby at_14) rfl ?_
    show Steps p.tables e below (T1.setTop (mkF m 15 #[iv p0, iv (0 : Int32), rv w_Outcome_VIOLATES, .unset, .unset, .unset] [(.int ((2 : Int32) - (0 : Int32)))])) _
    rewrite [show ((2 : Int32) - (0 : Int32)) = (2 : Int32) from by decide +kernel]
    show Steps p.tables e below (T1.setTop (mkF m 15 #[iv p0, iv (0 : Int32), rv w_Outcome_VIOLATES, .unset, .unset, .unset] [(.int (2 : Int32))])) _
    refine st2 _ ?_
    show Steps p.tables e below (T2.setTop (mkF m 18 #[iv p0, iv (0 : Int32), rv w_Outcome_VIOLATES, .unset, .unset, .unset] [(.ref w_Outcome_CONFORMS)])) _
    refine XS.astoreN X2.here hx rfl (hb hby at_18) rfl rfl (l' := #[iv p0, iv (0 : Int32), rv w_Outcome_VIOLATES, rv w_Outcome_CONFORMS, .unset, .unset]) rfl ?_
    show Steps p.tables e below (T2.setTop (mkF m 19 #[iv p0, iv (0 : Int32), rv w_Outcome_VIOLATES, rv w_Outcome_CONFORMS, .unset, .unset] [])) _
    refine XS.aloadN X2.here hx rfl (hb hby at_19) rfl rfl ?_
    show Steps p.tables e below (T2.setTop (mkF m 20 #[iv p0, iv (0 : Int32), rv w_Outcome_VIOLATES, rv w_Outcome_CONFORMS, .unset, .unset] [(.ref w_Outcome_VIOLATES)])) _
    refine st3.trans ?_
    show Steps p.tables e below (T3.setTop (mkF m 23 #[iv p0, iv (0 : Int32), rv w_Outcome_VIOLATES, rv w_Outcome_CONFORMS, .unset, .unset] [(.ref w_Outcome_CONFORMS)])) _
    refine XS.astore X3.here hx rfl (hb hby at_23) rfl rfl (l' := #[iv p0, iv (0 : Int32), rv w_Outcome_VIOLATES, rv w_Outcome_CONFORMS, rv w_Outcome_CONFORMS, .unset]) rfl ?_
    show Steps p.tables e below (T3.setTop (mkF m 25 #[iv p0, iv (0 : Int32), rv w_Outcome_VIOLATES, rv w_Outcome_CONFORMS, rv w_Outcome_CONFORMS, .unset] [])) _
    refine XS.aload X3.here hx rfl (hb hby at_25) rfl rfl ?_
    show Steps p.tables e below (T3.setTop (mkF m 27 #[iv p0, iv (0 : Int32), rv w_Outcome_VIOLATES, rv w_Outcome_CONFORMS, rv w_Outcome_CONFORMS, .unset] [(.ref w_Outcome_CONFORMS)])) _
    refine XS.aloadN X3.here hx rfl (hb hby at_27) rfl rfl ?_
    show Steps p.tables e below (T3.setTop (mkF m 28 #[iv p0, iv (0 : Int32), rv w_Outcome_VIOLATES, rv w_Outcome_CONFORMS, rv w_Outcome_CONFORMS, .unset] [(.ref w_Outcome_CONFORMS), (.ref w_Outcome_CONFORMS)])) _
    refine Jvm.RoadKit.acmp (g := (mkF m 28 #[iv p0, iv (0 : Int32), rv w_Outcome_VIOLATES, rv w_Outcome_CONFORMS, rv w_Outcome_CONFORMS, .unset] [(.ref w_Outcome_CONFORMS), (.ref w_Outcome_CONFORMS)])) X3 hx rfl rfl rfl (pc0 := 28) (pc' := 33) (same := true) rfl (hb hby at_28) rfl (decide_eq_true rfl) (by decide) (by decide) ?_
    show Steps p.tables e below (T3.setTop (mkF m 33 #[iv p0, iv (0 : Int32), rv w_Outcome_VIOLATES, rv w_Outcome_CONFORMS, rv w_Outcome_CONFORMS, .unset] [])) _
    refine XS.aload X3.here hx rfl (hb hby at_33) rfl rfl ?_
    show Steps p.tables e below (T3.setTop (mkF m 35 #[iv p0, iv (0 : Int32), rv w_Outcome_VIOLATES, rv w_Outcome_CONFORMS, rv w_Outcome_CONFORMS, .unset] [(.ref w_Outcome_CONFORMS)])) _
    refine st4.trans ?_
    show Steps p.tables e below (T4.setTop (mkF m 38 #[iv p0, iv (0 : Int32), rv w_Outcome_VIOLATES, rv w_Outcome_CONFORMS, rv w_Outcome_CONFORMS, .unset] [(.ref w_Outcome_VIOLATES)])) _
    refine XS.astore X4.here hx rfl (hb hby at_38) rfl rfl (l' := #[iv p0, iv (0 : Int32), rv w_Outcome_VIOLATES, rv w_Outcome_CONFORMS, rv w_Outcome_CONFORMS, rv w_Outcome_VIOLATES]) rfl ?_
    show Steps p.tables e below (T4.setTop (mkF m 40 #[iv p0, iv (0 : Int32), rv w_Outcome_VIOLATES, rv w_Outcome_CONFORMS, rv w_Outcome_CONFORMS, rv w_Outcome_VIOLATES] [])) _
    refine XS.aload X4.here hx rfl (hb hby at_40) rfl rfl ?_
    show Steps p.tables e below (T4.setTop (mkF m 42 #[iv p0, iv (0 : Int32), rv w_Outcome_VIOLATES, rv w_Outcome_CONFORMS, rv w_Outcome_CONFORMS, rv w_Outcome_VIOLATES] [(.ref w_Outcome_VIOLATES)])) _
    refine XS.aloadN X4.here hx rfl (hb hby at_42) rfl rfl ?_
    show Steps p.tables e below (T4.setTop (mkF m 43 #[iv p0, iv (0 : Int32), rv w_Outcome_VIOLATES, rv w_Outcome_CONFORMS, rv w_Outcome_CONFORMS, rv w_Outcome_VIOLATES] [(.ref w_Outcome_VIOLATES), (.ref w_Outcome_VIOLATES)])) _
    refine Jvm.RoadKit.acmp (g := (mkF m 43 #[iv p0, iv (0 : Int32), rv w_Outcome_VIOLATES, rv w_Outcome_CONFORMS, rv w_Outcome_CONFORMS, rv w_Outcome_VIOLATES] [(.ref w_Outcome_VIOLATES), (.ref w_Outcome_VIOLATES)])) X4 hx rfl rfl rfl (pc0 := 43) (pc' := 46) (same := true) rfl (hb hby at_43) rfl (decide_eq_true rfl) (by decide) (by decide) ?_
    show Steps p.tables e below (T4.setTop (mkF m 46 #[iv p0, iv (0 : Int32), rv w_Outcome_VIOLATES, rv w_Outcome_CONFORMS, rv w_Outcome_CONFORMS, rv w_Outcome_VIOLATES] [])) _
    refine XS.iconst X4.here hx rfl (hb hby at_46) ?_
    show Steps p.tables e below (T4.setTop (mkF m 47 #[iv p0, iv (0 : Int32), rv w_Outcome_VIOLATES, rv w_Outcome_CONFORMS, rv w_Outcome_CONFORMS, rv w_Outcome_VIOLATES] [(.int (1 : Int32))])) _
    refine XS.goto X4.here hx rfl (pc0 := 47) (pc' := 51) rfl (hb hby at_47) (by decide) (by decide) ?_
    show Steps p.tables e below (T4.setTop (mkF m 51 #[iv p0, iv (0 : Int32), rv w_Outcome_VIOLATES, rv w_Outcome_CONFORMS, rv w_Outcome_CONFORMS, rv w_Outcome_VIOLATES] [(.int (1 : Int32))])) _
    exact retN X4 hx (t := .boolean) Bd.returns (by simp) (hb hby at_51) hr
  · exact ⟨rfl, N4⟩
set_option maxRecDepth 65536 in
set_option maxHeartbeats 40000000 in
theorem rm1_6 (l : Launch) (Z : State) (a0 : Array Value) (hw : ∀ d ∈ tables_1, d.before a0 Z = true) (ws : List Jvm.Cond) (w_Outcome_UNDETERMINED : Addr) (h0 : Heap) (n0 : Nat) (Z0 : n0 ≤ h0.size) (S_Outcome_UNDETERMINED : Sta Z h0 "com/example/shapewell/shapewell/Outcome" "UNDETERMINED" "Lcom/example/shapewell/shapewell/Outcome;" (.ref w_Outcome_UNDETERMINED)) :
    MetFree l (⟨"com/example/shapewell/shapewell/OutcomeNotPinLaw", "pick", "(I)Lcom/example/shapewell/shapewell/Outcome;"⟩ : MethodName) (head1 (Jvm.Cond.code (⟨"com/example/shapewell/shapewell/OutcomeNotPinLaw", "pick", "(I)Lcom/example/shapewell/shapewell/Outcome;"⟩ : MethodName) method_2_code 1 (some (.object "com/example/shapewell/shapewell/Outcome")) :: ws) ({ frames := 0, cells := 0, slots := 0, locals := 0 } : Room)) (fun a U => a = #[(.int (1 : Int32))] ∧ Z.Warmed39 U.vm ∧ U.heap = h0) (fun _ _ _ _ _ => True) (fun _ U o U' => ∃ v L, o = .returned v ∧ own_QP (some (.ref w_Outcome_UNDETERMINED)) h0 n0 v U'.heap L ∧ FrameEnd U o U' L ({ frames := 0, cells := 0, slots := 0, locals := 0 } : Room).cells ({ frames := 0, cells := 0, slots := 0, locals := 0 } : Room).slots) := by
  refine MetFree.of_bodySF (plainFor_of_name pn_0) hisR ?_
  intro p e s m args below meth c s₁ Bd hml0 hP hK
  obtain ⟨rfl, hZ, hh⟩ := hP
  have hx := Bd.exec
  have hby := Bd.bytes
  have hml : c.maxLocals = 1 := hml0
  have hown : s.vm.findClass "com/example/shapewell/shapewell/OutcomeNotPinLaw" = some m.cls := findClass_of_methodNamed Bd.named
  have hnm := (name_of_methodNamed Bd.named Bd.method).1
  have X0 : Stand p l e ({ frames := 0, cells := 0, slots := 0, locals := 0 } : Room) s m #[(.int (1 : Int32))] below meth c s₁ [] 0 0 := Stand.of_body Bd
  have e0 : s₁.heap = h0 := by rw [← hh, Bd.state]; rfl
  have N0 := Fr.nil n0
  have pre0 : ∀ t, Steps p.tables e below (s₁.setTop (mkF m 0 #[iv (1 : Int32)] [])) t → Steps p.tables e below (s₁.setTop (entryFrame m #[(.int (1 : Int32))] 1)) t := fun t k => castTop (ef_1_I m (1 : Int32)) k
  obtain ⟨T1, X1, e1, st1⟩ := getS2 X0 hx hZ hown (host := "") (Or.inl (hw _ (List.mem_of_getElem? (i := 26) rfl))) Via.refl e0 S_Outcome_UNDETERMINED (g := (mkF m 13 #[iv (1 : Int32)] [])) rfl (hb hby d1_13)
  obtain ⟨fs, hr, hrun, hended, hW, hsame⟩ := X1.leave (v := (some (.ref w_Outcome_UNDETERMINED))) (fun h => by rw [Bd.returns] at h; cases h)
  refine ⟨_, _, pre0 _ ?_, hrun, hended, _, _, rfl, ?_, ⟨_, rfl⟩, hW, hsame.mono (by decide) (by decide)⟩
  · show Steps p.tables e below (s₁.setTop (mkF m 0 #[iv (1 : Int32)] [])) _
    refine XS.iloadN X0.here hx rfl (hb hby d1_0) rfl ?_
    show Steps p.tables e below (s₁.setTop (mkF m 1 #[iv (1 : Int32)] [(.int (1 : Int32))])) _
    refine XS.ifYes X0.here hx rfl (pc0 := 1) (pc' := 8) rfl (hb hby d1_1) rfl ((if0 _ _).trans (feq (by decide +kernel : ¬ ((1 : Int32) = (0 : Int32)))).2) (by decide) (by decide) ?_
    show Steps p.tables e below (s₁.setTop (mkF m 8 #[iv (1 : Int32)] [])) _
    refine XS.iloadN X0.here hx rfl (hb hby d1_8) rfl ?_
    show Steps p.tables e below (s₁.setTop (mkF m 9 #[iv (1 : Int32)] [(.int (1 : Int32))])) _
    refine XS.iconst X0.here hx rfl (hb hby d1_9) ?_
    show Steps p.tables e below (s₁.setTop (mkF m 10 #[iv (1 : Int32)] [(.int (1 : Int32)), (.int (1 : Int32))])) _
    refine XS.icmpNo X0.here hx rfl (hb hby d1_10) rfl (teq (by decide +kernel : (1 : Int32) = (1 : Int32))).2 ?_
    show Steps p.tables e below (s₁.setTop (mkF m 13 #[iv (1 : Int32)] [])) _
    refine st1 _ ?_
    show Steps p.tables e below (T1.setTop (mkF m 16 #[iv (1 : Int32)] [(.ref w_Outcome_UNDETERMINED)])) _
    exact own_retA X1 hx Bd.returns rfl rfl (hb hby d1_16) hr
  · exact ⟨rfl, N0, e1⟩
set_option maxRecDepth 65536 in
set_option maxHeartbeats 40000000 in
theorem rm3_7 (l : Launch) (Z : State) (a0 : Array Value) (hw : ∀ d ∈ tables_1, d.before a0 Z = true) (ws : List Jvm.Cond) (w_Outcome_UNDETERMINED : Addr) (h0 : Heap) (n0 : Nat) (Z0 : n0 ≤ h0.size) (F_w_Outcome_UNDETERMINED_ordinal : Fld Z h0 w_Outcome_UNDETERMINED "java/lang/Enum" "ordinal" "I" (.int (1 : Int32))) :
    MetFree l (⟨"java/lang/Enum", "ordinal", "()I"⟩ : MethodName) (head1 (Jvm.Cond.code (⟨"java/lang/Enum", "ordinal", "()I"⟩ : MethodName) jdk_37_method_2_code 1 (some .int) :: ws) ({ frames := 0, cells := 0, slots := 0, locals := 0 } : Room)) (fun a U => a = #[(.ref w_Outcome_UNDETERMINED)] ∧ Z.Warmed39 U.vm ∧ U.heap = h0) (fun _ _ _ _ _ => True) (fun _ U o U' => ∃ v L, o = .returned v ∧ own_QP (some (.int (1 : Int32))) h0 n0 v U'.heap L ∧ FrameEnd U o U' L ({ frames := 0, cells := 0, slots := 0, locals := 0 } : Room).cells ({ frames := 0, cells := 0, slots := 0, locals := 0 } : Room).slots) := by
  refine MetFree.of_bodySF (plainFor_of_name pn_1) hisR ?_
  intro p e s m args below meth c s₁ Bd hml0 hP hK
  obtain ⟨rfl, hZ, hh⟩ := hP
  have hx := Bd.exec
  have hby := Bd.bytes
  have hml : c.maxLocals = 1 := hml0
  have hown : s.vm.findClass "java/lang/Enum" = some m.cls := findClass_of_methodNamed Bd.named
  have hnm := (name_of_methodNamed Bd.named Bd.method).1
  have X0 : Stand p l e ({ frames := 0, cells := 0, slots := 0, locals := 0 } : Room) s m #[(.ref w_Outcome_UNDETERMINED)] below meth c s₁ [] 0 0 := Stand.of_body Bd
  have e0 : s₁.heap = h0 := by rw [← hh, Bd.state]; rfl
  have N0 := Fr.nil n0
  have pre0 : ∀ t, Steps p.tables e below (s₁.setTop (mkF m 0 #[rv w_Outcome_UNDETERMINED] [])) t → Steps p.tables e below (s₁.setTop (entryFrame m #[(.ref w_Outcome_UNDETERMINED)] 1)) t := fun t k => castTop (ef_3_R m w_Outcome_UNDETERMINED) k
  obtain ⟨T1, X1, e1, st1⟩ := getF X0 hx hZ hown (host := "") (Or.inl (hw _ (List.mem_of_getElem? (i := 22) rfl))) Via.refl e0 F_w_Outcome_UNDETERMINED_ordinal (g := (mkF m 1 #[rv w_Outcome_UNDETERMINED] [(.ref w_Outcome_UNDETERMINED)])) rfl rfl (hb hby d3_1)
  obtain ⟨fs, hr, hrun, hended, hW, hsame⟩ := X1.leave (v := (some (.int (1 : Int32)))) (fun h => by rw [Bd.returns] at h; cases h)
  refine ⟨_, _, pre0 _ ?_, hrun, hended, _, _, rfl, ?_, ⟨_, rfl⟩, hW, hsame.mono (by decide) (by decide)⟩
  · show Steps p.tables e below (s₁.setTop (mkF m 0 #[rv w_Outcome_UNDETERMINED] [])) _
    refine XS.aloadN X0.here hx rfl (hb hby d3_0) rfl rfl ?_
    show Steps p.tables e below (s₁.setTop (mkF m 1 #[rv w_Outcome_UNDETERMINED] [(.ref w_Outcome_UNDETERMINED)])) _
    refine st1 _ ?_
    show Steps p.tables e below (T1.setTop (mkF m 4 #[rv w_Outcome_UNDETERMINED] [(.int (1 : Int32))])) _
    exact retI X1 hx Bd.returns (hb hby d3_4) hr
  · exact ⟨rfl, N0, e1⟩
set_option maxRecDepth 65536 in
set_option maxHeartbeats 40000000 in
theorem rm2_7 (l : Launch) (Z : State) (a0 : Array Value) (hw : ∀ d ∈ tables_1, d.before a0 Z = true) (ws : List Jvm.Cond) (w_Outcome_UNDETERMINED : Addr) (h0 : Heap) (n0 : Nat) (Z0 : n0 ≤ h0.size) (F_w_Outcome_UNDETERMINED_ordinal : Fld Z h0 w_Outcome_UNDETERMINED "java/lang/Enum" "ordinal" "I" (.int (1 : Int32))) (E_w_Outcome_UNDETERMINED : Exa Z h0 w_Outcome_UNDETERMINED "com/example/shapewell/shapewell/Outcome") (S_Outcome_UNDETERMINED : Sta Z h0 "com/example/shapewell/shapewell/Outcome" "UNDETERMINED" "Lcom/example/shapewell/shapewell/Outcome;" (.ref w_Outcome_UNDETERMINED)) :
    MetFree l (⟨"com/example/shapewell/shapewell/Outcome", "not", "()Lcom/example/shapewell/shapewell/Outcome;"⟩ : MethodName) (head1 (Jvm.Cond.code (⟨"com/example/shapewell/shapewell/Outcome", "not", "()Lcom/example/shapewell/shapewell/Outcome;"⟩ : MethodName) prog_3_method_6_code 1 (some (.object "com/example/shapewell/shapewell/Outcome")) :: ws) ({ frames := 1, cells := 0, slots := 0, locals := 12 } : Room)) (fun a U => a = #[(.ref w_Outcome_UNDETERMINED)] ∧ Z.Warmed39 U.vm ∧ U.heap = h0) (fun _ _ _ _ _ => True) (fun _ U o U' => ∃ v L, o = .returned v ∧ own_QP (some (.ref w_Outcome_UNDETERMINED)) h0 n0 v U'.heap L ∧ FrameEnd U o U' L ({ frames := 1, cells := 0, slots := 0, locals := 12 } : Room).cells ({ frames := 1, cells := 0, slots := 0, locals := 12 } : Room).slots) := by
  refine MetFree.of_bodySF (plainFor_of_name pn_2) hisR ?_
  intro p e s m args below meth c s₁ Bd hml0 hP hK
  obtain ⟨rfl, hZ, hh⟩ := hP
  have hx := Bd.exec
  have hby := Bd.bytes
  have hml : c.maxLocals = 1 := hml0
  have hown : s.vm.findClass "com/example/shapewell/shapewell/Outcome" = some m.cls := findClass_of_methodNamed Bd.named
  have hnm := (name_of_methodNamed Bd.named Bd.method).1
  have X0 : Stand p l e ({ frames := 1, cells := 0, slots := 0, locals := 12 } : Room) s m #[(.ref w_Outcome_UNDETERMINED)] below meth c s₁ [] 0 0 := Stand.of_body Bd
  have e0 : s₁.heap = h0 := by rw [← hh, Bd.state]; rfl
  have N0 := Fr.nil n0
  have pre0 : ∀ t, Steps p.tables e below (s₁.setTop (mkF m 0 #[rv w_Outcome_UNDETERMINED] [])) t → Steps p.tables e below (s₁.setTop (entryFrame m #[(.ref w_Outcome_UNDETERMINED)] 1)) t := fun t k => castTop (ef_2_R m w_Outcome_UNDETERMINED) k
  obtain ⟨cq1, kq1, q1a, q1b, q1c⟩ := isOf hZ e0 E_w_Outcome_UNDETERMINED
  obtain ⟨_, _, ⟨T1, L1, k1, n1⟩, -, X1, ⟨Lc1, hQ1, l1, y1, z1⟩, st1⟩ := X0.virtualBackUp hx (x := (⟨"com/example/shapewell/shapewell/Outcome", "ordinal", "()I"⟩ : MethodName)) (y := (⟨"java/lang/Enum", "ordinal", "()I"⟩ : MethodName)) hown (mvT hZ (hw _ (List.mem_of_getElem? (i := 15) rfl))) (mvT hZ (hw _ (List.mem_of_getElem? (i := 16) rfl))) (mvT hZ (hw _ (List.mem_of_getElem? (i := 17) rfl))) (by decide) (mvT hZ (hw _ (List.mem_of_getElem? (i := 19) rfl))) (mvT hZ (hw _ (List.mem_of_getElem? (i := 18) rfl))) (backOf (W := 0) (rm3_7 l Z a0 hw [] w_Outcome_UNDETERMINED h0 n0 Z0 F_w_Outcome_UNDETERMINED_ordinal) hZ (hw _ (List.mem_of_getElem? (i := 21) rfl)) (hw _ (List.mem_of_getElem? (i := 20) rfl)) (by decide) (by decide)) q1a q1c (g := (mkF m 1 #[rv w_Outcome_UNDETERMINED] [(.ref w_Outcome_UNDETERMINED)])) rfl (by rw [hml]; rfl) (Steps.refl _) (argsL := []) (rest := []) (lenOf pd_1 rfl) rfl (by show 2 * 0 + _ ≤ _; exact Nat.le_of_eq rfl) (hb hby d2_1) (fun _ _ => ⟨rfl, e0, (by decide : 0 + 0 ≤ _), (by decide : 0 + 0 ≤ _)⟩)
  dsimp only [Pt.U, Pt.locs, Pt.cells, Pt.slots] at X1 l1 y1 z1 st1 hQ1
  subst l1 y1 z1
  obtain ⟨rfl, N1q, e1⟩ := hQ1
  have N1 := Fr.app N0 N1q
  obtain ⟨T2, X2, e2, st2⟩ := getS2 X1 hx hZ hown (host := "") (Or.inl (hw _ (List.mem_of_getElem? (i := 28) rfl))) Via.refl e1 S_Outcome_UNDETERMINED (g := (mkF m 48 #[rv w_Outcome_UNDETERMINED] [])) rfl (hb hby d2_48)
  obtain ⟨fs, hr, hrun, hended, hW, hsame⟩ := X2.leave (v := (some (.ref w_Outcome_UNDETERMINED))) (fun h => by rw [Bd.returns] at h; cases h)
  refine ⟨_, _, pre0 _ ?_, hrun, hended, _, _, rfl, ?_, ⟨_, rfl⟩, hW, hsame.mono (by decide) (by decide)⟩
  · show Steps p.tables e below (s₁.setTop (mkF m 0 #[rv w_Outcome_UNDETERMINED] [])) _
    refine XS.aloadN X0.here hx rfl (hb hby d2_0) rfl rfl ?_
    show Steps p.tables e below (s₁.setTop (mkF m 1 #[rv w_Outcome_UNDETERMINED] [(.ref w_Outcome_UNDETERMINED)])) _
    refine st1.trans ?_
    show Steps p.tables e below (T1.setTop (mkF m 4 #[rv w_Outcome_UNDETERMINED] [(.int (1 : Int32))])) _
    refine XS.tswIn X1.here hx rfl (o := 44) (pc0 := 4) (pc' := 48) rfl (hb hby d2_4) rfl (by decide) (by decide) (by decide) (by decide) ?_
    show Steps p.tables e below (T1.setTop (mkF m 48 #[rv w_Outcome_UNDETERMINED] [])) _
    refine st2 _ ?_
    show Steps p.tables e below (T2.setTop (mkF m 51 #[rv w_Outcome_UNDETERMINED] [(.ref w_Outcome_UNDETERMINED)])) _
    refine XS.goto X2.here hx rfl (pc0 := 51) (pc' := 57) rfl (hb hby d2_51) (by decide) (by decide) ?_
    show Steps p.tables e below (T2.setTop (mkF m 57 #[rv w_Outcome_UNDETERMINED] [(.ref w_Outcome_UNDETERMINED)])) _
    exact own_retA X2 hx Bd.returns rfl rfl (hb hby d2_57) hr
  · exact ⟨rfl, N1, e2⟩
set_option maxRecDepth 65536 in
set_option maxHeartbeats 40000000 in
theorem rm0_1 (l : Launch) (Z : State) (a0 : Array Value) (hw : ∀ d ∈ tables_1, d.before a0 Z = true) (ws : List Jvm.Cond) (p0 : Int32) (w_Outcome_UNDETERMINED : Addr) (h0 : Heap) (n0 : Nat) (Z0 : n0 ≤ h0.size) (hk0 : ((p0 &&& (2147483647 : Int32)) % (3 : Int32)) = (1 : Int32)) (S_Outcome_UNDETERMINED : Sta Z h0 "com/example/shapewell/shapewell/Outcome" "UNDETERMINED" "Lcom/example/shapewell/shapewell/Outcome;" (.ref w_Outcome_UNDETERMINED)) (F_w_Outcome_UNDETERMINED_ordinal : Fld Z h0 w_Outcome_UNDETERMINED "java/lang/Enum" "ordinal" "I" (.int (1 : Int32))) (E_w_Outcome_UNDETERMINED : Exa Z h0 w_Outcome_UNDETERMINED "com/example/shapewell/shapewell/Outcome") :
    MetFree l x (head1 (Jvm.Cond.code x code maxLocals ret :: ws) room_1) (fun a U => a = #[(.int p0)] ∧ Z.Warmed39 U.vm ∧ U.heap = h0) (fun _ _ _ _ _ => True) (fun _ U o U' => ∃ v L, o = .returned v ∧ own_QL n0 v U'.heap L ∧ FrameEnd U o U' L room_1.cells room_1.slots) := by
  refine MetFree.of_bodySF (plainFor_of_name pn_0) hisR ?_
  intro p e s m args below meth c s₁ Bd hml0 hP hK
  obtain ⟨rfl, hZ, hh⟩ := hP
  have hx := Bd.exec
  have hby := Bd.bytes
  have hml : c.maxLocals = 6 := hml0
  have hown : s.vm.findClass "com/example/shapewell/shapewell/OutcomeNotPinLaw" = some m.cls := findClass_of_methodNamed Bd.named
  have hnm := (name_of_methodNamed Bd.named Bd.method).1
  have X0 : Stand p l e room_1 s m #[(.int p0)] below meth c s₁ [] 0 0 := Stand.of_body Bd
  have e0 : s₁.heap = h0 := by rw [← hh, Bd.state]; rfl
  have N0 := Fr.nil n0
  have pre0 : ∀ t, Steps p.tables e below (s₁.setTop (mkF m 0 #[iv p0, .unset, .unset, .unset, .unset, .unset] [])) t → Steps p.tables e below (s₁.setTop (entryFrame m #[(.int p0)] maxLocals)) t := fun t k => castTop (ef_0_I m p0) k
  obtain ⟨_, _, ⟨T1, L1, k1, n1⟩, -, X1, ⟨Lc1, hQ1, l1, y1, z1⟩, st1⟩ := Jvm.LawKit.callS X0 hx (y := (⟨"com/example/shapewell/shapewell/OutcomeNotPinLaw", "pick", "(I)Lcom/example/shapewell/shapewell/Outcome;"⟩ : MethodName)) hown (mvT hZ (hw _ (List.mem_of_getElem? (i := 1) rfl))) (mvT hZ (hw _ (List.mem_of_getElem? (i := 2) rfl))) (mvT hZ (hw _ (List.mem_of_getElem? (i := 3) rfl))) (mvT hZ (hw _ (List.mem_of_getElem? (i := 4) rfl))) (by decide) (backOf (W := 0) (rm1_6 l Z a0 hw [] w_Outcome_UNDETERMINED h0 n0 Z0 S_Outcome_UNDETERMINED) hZ (hw _ (List.mem_of_getElem? (i := 4) rfl)) (hw _ (List.mem_of_getElem? (i := 3) rfl)) (by decide) (by decide)) (g := (mkF m 8 #[iv p0, iv (1 : Int32), .unset, .unset, .unset, .unset] [(.int (1 : Int32))])) rfl (by rw [hml]; rfl) (argsL := [(.int (1 : Int32))]) (rest := []) (lenOf pd_0 rfl) rfl (by show 2 * 0 + _ ≤ _; exact Nat.le_of_eq rfl) (hb hby at_8) (fun _ _ => ⟨rfl, e0, (by decide : 0 + 0 ≤ _), (by decide : 0 + 0 ≤ _)⟩)
  dsimp only [Pt.U, Pt.locs, Pt.cells, Pt.slots] at X1 l1 y1 z1 st1 hQ1
  subst l1 y1 z1
  obtain ⟨rfl, N1q, e1⟩ := hQ1
  have N1 := Fr.app N0 N1q
  obtain ⟨_, _, ⟨T2, L2, k2, n2⟩, -, X2, ⟨Lc2, hQ2, l2, y2, z2⟩, st2⟩ := Jvm.LawKit.callS X1 hx (y := (⟨"com/example/shapewell/shapewell/OutcomeNotPinLaw", "pick", "(I)Lcom/example/shapewell/shapewell/Outcome;"⟩ : MethodName)) hown (mvT hZ (hw _ (List.mem_of_getElem? (i := 1) rfl))) (mvT hZ (hw _ (List.mem_of_getElem? (i := 2) rfl))) (mvT hZ (hw _ (List.mem_of_getElem? (i := 3) rfl))) (mvT hZ (hw _ (List.mem_of_getElem? (i := 4) rfl))) (by decide) (backOf (W := 0) (rm1_6 l Z a0 hw [] w_Outcome_UNDETERMINED h0 n0 Z0 S_Outcome_UNDETERMINED) hZ (hw _ (List.mem_of_getElem? (i := 4) rfl)) (hw _ (List.mem_of_getElem? (i := 3) rfl)) (by decide) (by decide)) (g := (mkF m 15 #[iv p0, iv (1 : Int32), rv w_Outcome_UNDETERMINED, .unset, .unset, .unset] [(.int (1 : Int32))])) rfl (by rw [hml]; rfl) (argsL := [(.int (1 : Int32))]) (rest := []) (lenOf pd_0 rfl) rfl (by show 2 * 0 + _ ≤ _; exact Nat.le_of_eq rfl) (hb hby at_15) (fun _ _ => ⟨rfl, e1, (by decide : 0 + 0 ≤ _), (by decide : 0 + 0 ≤ _)⟩)
  dsimp only [Pt.U, Pt.locs, Pt.cells, Pt.slots] at X2 l2 y2 z2 st2 hQ2
  subst l2 y2 z2
  obtain ⟨rfl, N2q, e2⟩ := hQ2
  have N2 := Fr.app N1 N2q
  obtain ⟨cq3, kq3, q3a, q3b, q3c⟩ := isOf hZ e2 E_w_Outcome_UNDETERMINED
  obtain ⟨_, _, ⟨T3, L3, k3, n3⟩, -, X3, ⟨Lc3, hQ3, l3, y3, z3⟩, st3⟩ := X2.virtualBack hx (y := (⟨"com/example/shapewell/shapewell/Outcome", "not", "()Lcom/example/shapewell/shapewell/Outcome;"⟩ : MethodName)) (z := (⟨"com/example/shapewell/shapewell/Outcome", "not", "()Lcom/example/shapewell/shapewell/Outcome;"⟩ : MethodName)) hown (mvT hZ (hw _ (List.mem_of_getElem? (i := 10) rfl))) (mvT hZ (hw _ (List.mem_of_getElem? (i := 11) rfl))) (notFace_of_selects (args := #[]) (mvT hZ (hw _ (List.mem_of_getElem? (i := 13) rfl)))) (mvT hZ (hw _ (List.mem_of_getElem? (i := 13) rfl))) (mvT hZ (hw _ (List.mem_of_getElem? (i := 12) rfl))) (by decide) (backOf (W := 0) (rm2_7 l Z a0 hw [] w_Outcome_UNDETERMINED h0 n0 Z0 F_w_Outcome_UNDETERMINED_ordinal E_w_Outcome_UNDETERMINED S_Outcome_UNDETERMINED) hZ (hw _ (List.mem_of_getElem? (i := 14) rfl)) (hw _ (List.mem_of_getElem? (i := 6) rfl)) (by decide) (by decide)) q3a q3c (g := (mkF m 20 #[iv p0, iv (1 : Int32), rv w_Outcome_UNDETERMINED, rv w_Outcome_UNDETERMINED, .unset, .unset] [(.ref w_Outcome_UNDETERMINED)])) rfl (by rw [hml]; rfl) (Steps.refl _) (argsL := []) (rest := []) (lenOf pd_2 rfl) rfl (by show 2 * 0 + _ ≤ _; exact Nat.le_of_eq rfl) (hb hby at_20) (fun _ _ => ⟨rfl, e2, (by decide : 0 + 0 ≤ _), (by decide : 0 + 0 ≤ _)⟩)
  dsimp only [Pt.U, Pt.locs, Pt.cells, Pt.slots] at X3 l3 y3 z3 st3 hQ3
  subst l3 y3 z3
  obtain ⟨rfl, N3q, e3⟩ := hQ3
  have N3 := Fr.app N2 N3q
  obtain ⟨cq4, kq4, q4a, q4b, q4c⟩ := isOf hZ e3 E_w_Outcome_UNDETERMINED
  obtain ⟨_, _, ⟨T4, L4, k4, n4⟩, -, X4, ⟨Lc4, hQ4, l4, y4, z4⟩, st4⟩ := X3.virtualBack hx (y := (⟨"com/example/shapewell/shapewell/Outcome", "not", "()Lcom/example/shapewell/shapewell/Outcome;"⟩ : MethodName)) (z := (⟨"com/example/shapewell/shapewell/Outcome", "not", "()Lcom/example/shapewell/shapewell/Outcome;"⟩ : MethodName)) hown (mvT hZ (hw _ (List.mem_of_getElem? (i := 10) rfl))) (mvT hZ (hw _ (List.mem_of_getElem? (i := 11) rfl))) (notFace_of_selects (args := #[]) (mvT hZ (hw _ (List.mem_of_getElem? (i := 13) rfl)))) (mvT hZ (hw _ (List.mem_of_getElem? (i := 13) rfl))) (mvT hZ (hw _ (List.mem_of_getElem? (i := 12) rfl))) (by decide) (backOf (W := 0) (rm2_7 l Z a0 hw [] w_Outcome_UNDETERMINED h0 n0 Z0 F_w_Outcome_UNDETERMINED_ordinal E_w_Outcome_UNDETERMINED S_Outcome_UNDETERMINED) hZ (hw _ (List.mem_of_getElem? (i := 14) rfl)) (hw _ (List.mem_of_getElem? (i := 6) rfl)) (by decide) (by decide)) q4a q4c (g := (mkF m 35 #[iv p0, iv (1 : Int32), rv w_Outcome_UNDETERMINED, rv w_Outcome_UNDETERMINED, rv w_Outcome_UNDETERMINED, .unset] [(.ref w_Outcome_UNDETERMINED)])) rfl (by rw [hml]; rfl) (Steps.refl _) (argsL := []) (rest := []) (lenOf pd_2 rfl) rfl (by show 2 * 0 + _ ≤ _; exact Nat.le_of_eq rfl) (hb hby at_35) (fun _ _ => ⟨rfl, e3, (by decide : 0 + 0 ≤ _), (by decide : 0 + 0 ≤ _)⟩)
  dsimp only [Pt.U, Pt.locs, Pt.cells, Pt.slots] at X4 l4 y4 z4 st4 hQ4
  subst l4 y4 z4
  obtain ⟨rfl, N4q, e4⟩ := hQ4
  have N4 := Fr.app N3 N4q
  obtain ⟨fs, hr, hrun, hended, hW, hsame⟩ := X4.leave (v := (some (.int (1 : Int32)))) (fun h => by rw [Bd.returns] at h; cases h)
  refine ⟨_, _, pre0 _ ?_, hrun, hended, _, _, rfl, ?_, ⟨_, rfl⟩, hW, hsame.mono (by decide) (by decide)⟩
  · show Steps p.tables e below (s₁.setTop (mkF m 0 #[iv p0, .unset, .unset, .unset, .unset, .unset] [])) _
    refine XS.iloadN X0.here hx rfl (hb hby at_0) rfl ?_
    show Steps p.tables e below (s₁.setTop (mkF m 1 #[iv p0, .unset, .unset, .unset, .unset, .unset] [(.int p0)])) _
    refine X0.ldcInt hx hown (mvT hZ (hw _ (List.mem_of_getElem? (i := 0) rfl))) (g := (mkF m 1 #[iv p0, .unset, .unset, .unset, .unset, .unset] [(.int p0)])) rfl (hb hby at_1) _ ?_
    show Steps p.tables e below (s₁.setTop (mkF m 3 #[iv p0, .unset, .unset, .unset, .unset, .unset] [(.int (2147483647 : Int32)), (.int p0)])) _
    refine XS.iand X0.here hx rfl (hb hby at_3) rfl ?_
    show Steps p.tables e below (s₁.setTop (mkF m 4 #[iv p0, .unset, .unset, .unset, .unset, .unset] [(.int (p0 &&& (2147483647 : Int32)))])) _
    refine XS.iconst X0.here hx rfl (hb hby at_4) ?_
    show Steps p.tables e below (s₁.setTop (mkF m 5 #[iv p0, .unset, .unset, .unset, .unset, .unset] [(.int (3 : Int32)), (.int (p0 &&& (2147483647 : Int32)))])) _
    refine iremM X0 hx rfl (hb hby at_5) rfl (by decide) ?_
    show Steps p.tables e below (s₁.setTop (mkF m 6 #[iv p0, .unset, .unset, .unset, .unset, .unset] [(.int ((p0 &&& (2147483647 : Int32)) % (3 : Int32)))])) _
    rewrite [hk0]
    show Steps p.tables e below (s₁.setTop (mkF m 6 #[iv p0, .unset, .unset, .unset, .unset, .unset] [(.int (1 : Int32))])) _
    refine XS.istoreN X0.here hx rfl (hb hby at_6) rfl (l' := #[iv p0, iv (1 : Int32), .unset, .unset, .unset, .unset]) rfl ?_
    show Steps p.tables e below (s₁.setTop (mkF m 7 #[iv p0, iv (1 : Int32), .unset, .unset, .unset, .unset] [])) _
    refine XS.iloadN X0.here hx rfl (hb hby at_7) rfl ?_
    show Steps p.tables e below (s₁.setTop (mkF m 8 #[iv p0, iv (1 : Int32), .unset, .unset, .unset, .unset] [(.int (1 : Int32))])) _
    refine st1 _ ?_
    show Steps p.tables e below (T1.setTop (mkF m 11 #[iv p0, iv (1 : Int32), .unset, .unset, .unset, .unset] [(.ref w_Outcome_UNDETERMINED)])) _
    refine XS.astoreN X1.here hx rfl (hb hby at_11) rfl rfl (l' := #[iv p0, iv (1 : Int32), rv w_Outcome_UNDETERMINED, .unset, .unset, .unset]) rfl ?_
    show Steps p.tables e below (T1.setTop (mkF m 12 #[iv p0, iv (1 : Int32), rv w_Outcome_UNDETERMINED, .unset, .unset, .unset] [])) _
    refine XS.iconst X1.here hx rfl (hb hby at_12) ?_
    show Steps p.tables e below (T1.setTop (mkF m 13 #[iv p0, iv (1 : Int32), rv w_Outcome_UNDETERMINED, .unset, .unset, .unset] [(.int (2 : Int32))])) _
    refine XS.iloadN X1.here hx rfl (hb hby at_13) rfl ?_
    show Steps p.tables e below (T1.setTop (mkF m 14 #[iv p0, iv (1 : Int32), rv w_Outcome_UNDETERMINED, .unset, .unset, .unset] [(.int (1 : Int32)), (.int (2 : Int32))])) _
    refine XS.isub X1.here hx rfl (hb hby at_14) rfl ?_
    show Steps p.tables e below (T1.setTop (mkF m 15 #[iv p0, iv (1 : Int32), rv w_Outcome_UNDETERMINED, .unset, .unset, .unset] [(.int ((2 : Int32) - (1 : Int32)))])) _
    rewrite [show ((2 : Int32) - (1 : Int32)) = (1 : Int32) from by decide +kernel]
    show Steps p.tables e below (T1.setTop (mkF m 15 #[iv p0, iv (1 : Int32), rv w_Outcome_UNDETERMINED, .unset, .unset, .unset] [(.int (1 : Int32))])) _
    refine st2 _ ?_
    show Steps p.tables e below (T2.setTop (mkF m 18 #[iv p0, iv (1 : Int32), rv w_Outcome_UNDETERMINED, .unset, .unset, .unset] [(.ref w_Outcome_UNDETERMINED)])) _
    refine XS.astoreN X2.here hx rfl (hb hby at_18) rfl rfl (l' := #[iv p0, iv (1 : Int32), rv w_Outcome_UNDETERMINED, rv w_Outcome_UNDETERMINED, .unset, .unset]) rfl ?_
    show Steps p.tables e below (T2.setTop (mkF m 19 #[iv p0, iv (1 : Int32), rv w_Outcome_UNDETERMINED, rv w_Outcome_UNDETERMINED, .unset, .unset] [])) _
    refine XS.aloadN X2.here hx rfl (hb hby at_19) rfl rfl ?_
    show Steps p.tables e below (T2.setTop (mkF m 20 #[iv p0, iv (1 : Int32), rv w_Outcome_UNDETERMINED, rv w_Outcome_UNDETERMINED, .unset, .unset] [(.ref w_Outcome_UNDETERMINED)])) _
    refine st3.trans ?_
    show Steps p.tables e below (T3.setTop (mkF m 23 #[iv p0, iv (1 : Int32), rv w_Outcome_UNDETERMINED, rv w_Outcome_UNDETERMINED, .unset, .unset] [(.ref w_Outcome_UNDETERMINED)])) _
    refine XS.astore X3.here hx rfl (hb hby at_23) rfl rfl (l' := #[iv p0, iv (1 : Int32), rv w_Outcome_UNDETERMINED, rv w_Outcome_UNDETERMINED, rv w_Outcome_UNDETERMINED, .unset]) rfl ?_
    show Steps p.tables e below (T3.setTop (mkF m 25 #[iv p0, iv (1 : Int32), rv w_Outcome_UNDETERMINED, rv w_Outcome_UNDETERMINED, rv w_Outcome_UNDETERMINED, .unset] [])) _
    refine XS.aload X3.here hx rfl (hb hby at_25) rfl rfl ?_
    show Steps p.tables e below (T3.setTop (mkF m 27 #[iv p0, iv (1 : Int32), rv w_Outcome_UNDETERMINED, rv w_Outcome_UNDETERMINED, rv w_Outcome_UNDETERMINED, .unset] [(.ref w_Outcome_UNDETERMINED)])) _
    refine XS.aloadN X3.here hx rfl (hb hby at_27) rfl rfl ?_
    show Steps p.tables e below (T3.setTop (mkF m 28 #[iv p0, iv (1 : Int32), rv w_Outcome_UNDETERMINED, rv w_Outcome_UNDETERMINED, rv w_Outcome_UNDETERMINED, .unset] [(.ref w_Outcome_UNDETERMINED), (.ref w_Outcome_UNDETERMINED)])) _
    refine Jvm.RoadKit.acmp (g := (mkF m 28 #[iv p0, iv (1 : Int32), rv w_Outcome_UNDETERMINED, rv w_Outcome_UNDETERMINED, rv w_Outcome_UNDETERMINED, .unset] [(.ref w_Outcome_UNDETERMINED), (.ref w_Outcome_UNDETERMINED)])) X3 hx rfl rfl rfl (pc0 := 28) (pc' := 33) (same := true) rfl (hb hby at_28) rfl (decide_eq_true rfl) (by decide) (by decide) ?_
    show Steps p.tables e below (T3.setTop (mkF m 33 #[iv p0, iv (1 : Int32), rv w_Outcome_UNDETERMINED, rv w_Outcome_UNDETERMINED, rv w_Outcome_UNDETERMINED, .unset] [])) _
    refine XS.aload X3.here hx rfl (hb hby at_33) rfl rfl ?_
    show Steps p.tables e below (T3.setTop (mkF m 35 #[iv p0, iv (1 : Int32), rv w_Outcome_UNDETERMINED, rv w_Outcome_UNDETERMINED, rv w_Outcome_UNDETERMINED, .unset] [(.ref w_Outcome_UNDETERMINED)])) _
    refine st4.trans ?_
    show Steps p.tables e below (T4.setTop (mkF m 38 #[iv p0, iv (1 : Int32), rv w_Outcome_UNDETERMINED, rv w_Outcome_UNDETERMINED, rv w_Outcome_UNDETERMINED, .unset] [(.ref w_Outcome_UNDETERMINED)])) _
    refine XS.astore X4.here hx rfl (hb hby at_38) rfl rfl (l' := #[iv p0, iv (1 : Int32), rv w_Outcome_UNDETERMINED, rv w_Outcome_UNDETERMINED, rv w_Outcome_UNDETERMINED, rv w_Outcome_UNDETERMINED]) rfl ?_
    show Steps p.tables e below (T4.setTop (mkF m 40 #[iv p0, iv (1 : Int32), rv w_Outcome_UNDETERMINED, rv w_Outcome_UNDETERMINED, rv w_Outcome_UNDETERMINED, rv w_Outcome_UNDETERMINED] [])) _
    refine XS.aload X4.here hx rfl (hb hby at_40) rfl rfl ?_
    show Steps p.tables e below (T4.setTop (mkF m 42 #[iv p0, iv (1 : Int32), rv w_Outcome_UNDETERMINED, rv w_Outcome_UNDETERMINED, rv w_Outcome_UNDETERMINED, rv w_Outcome_UNDETERMINED] [(.ref w_Outcome_UNDETERMINED)])) _
    refine XS.aloadN X4.here hx rfl (hb hby at_42) rfl rfl ?_
    show Steps p.tables e below (T4.setTop (mkF m 43 #[iv p0, iv (1 : Int32), rv w_Outcome_UNDETERMINED, rv w_Outcome_UNDETERMINED, rv w_Outcome_UNDETERMINED, rv w_Outcome_UNDETERMINED] [(.ref w_Outcome_UNDETERMINED), (.ref w_Outcome_UNDETERMINED)])) _
    refine Jvm.RoadKit.acmp (g := (mkF m 43 #[iv p0, iv (1 : Int32), rv w_Outcome_UNDETERMINED, rv w_Outcome_UNDETERMINED, rv w_Outcome_UNDETERMINED, rv w_Outcome_UNDETERMINED] [(.ref w_Outcome_UNDETERMINED), (.ref w_Outcome_UNDETERMINED)])) X4 hx rfl rfl rfl (pc0 := 43) (pc' := 46) (same := true) rfl (hb hby at_43) rfl (decide_eq_true rfl) (by decide) (by decide) ?_
    show Steps p.tables e below (T4.setTop (mkF m 46 #[iv p0, iv (1 : Int32), rv w_Outcome_UNDETERMINED, rv w_Outcome_UNDETERMINED, rv w_Outcome_UNDETERMINED, rv w_Outcome_UNDETERMINED] [])) _
    refine XS.iconst X4.here hx rfl (hb hby at_46) ?_
    show Steps p.tables e below (T4.setTop (mkF m 47 #[iv p0, iv (1 : Int32), rv w_Outcome_UNDETERMINED, rv w_Outcome_UNDETERMINED, rv w_Outcome_UNDETERMINED, rv w_Outcome_UNDETERMINED] [(.int (1 : Int32))])) _
    refine XS.goto X4.here hx rfl (pc0 := 47) (pc' := 51) rfl (hb hby at_47) (by decide) (by decide) ?_
    show Steps p.tables e below (T4.setTop (mkF m 51 #[iv p0, iv (1 : Int32), rv w_Outcome_UNDETERMINED, rv w_Outcome_UNDETERMINED, rv w_Outcome_UNDETERMINED, rv w_Outcome_UNDETERMINED] [(.int (1 : Int32))])) _
    exact retN X4 hx (t := .boolean) Bd.returns (by simp) (hb hby at_51) hr
  · exact ⟨rfl, N4⟩
set_option maxRecDepth 65536 in
set_option maxHeartbeats 40000000 in
theorem rm0_2 (l : Launch) (Z : State) (a0 : Array Value) (hw : ∀ d ∈ tables_1, d.before a0 Z = true) (ws : List Jvm.Cond) (p0 : Int32) (w_Outcome_VIOLATES : Addr) (w_Outcome_CONFORMS : Addr) (h0 : Heap) (n0 : Nat) (Z0 : n0 ≤ h0.size) (hk0 : ((p0 &&& (2147483647 : Int32)) % (3 : Int32)) = (2 : Int32)) (S_Outcome_CONFORMS : Sta Z h0 "com/example/shapewell/shapewell/Outcome" "CONFORMS" "Lcom/example/shapewell/shapewell/Outcome;" (.ref w_Outcome_CONFORMS)) (S_Outcome_VIOLATES : Sta Z h0 "com/example/shapewell/shapewell/Outcome" "VIOLATES" "Lcom/example/shapewell/shapewell/Outcome;" (.ref w_Outcome_VIOLATES)) (F_w_Outcome_CONFORMS_ordinal : Fld Z h0 w_Outcome_CONFORMS "java/lang/Enum" "ordinal" "I" (.int (2 : Int32))) (E_w_Outcome_CONFORMS : Exa Z h0 w_Outcome_CONFORMS "com/example/shapewell/shapewell/Outcome") (F_w_Outcome_VIOLATES_ordinal : Fld Z h0 w_Outcome_VIOLATES "java/lang/Enum" "ordinal" "I" (.int (0 : Int32))) (E_w_Outcome_VIOLATES : Exa Z h0 w_Outcome_VIOLATES "com/example/shapewell/shapewell/Outcome") :
    MetFree l x (head1 (Jvm.Cond.code x code maxLocals ret :: ws) room_1) (fun a U => a = #[(.int p0)] ∧ Z.Warmed39 U.vm ∧ U.heap = h0) (fun _ _ _ _ _ => True) (fun _ U o U' => ∃ v L, o = .returned v ∧ own_QL n0 v U'.heap L ∧ FrameEnd U o U' L room_1.cells room_1.slots) := by
  refine MetFree.of_bodySF (plainFor_of_name pn_0) hisR ?_
  intro p e s m args below meth c s₁ Bd hml0 hP hK
  obtain ⟨rfl, hZ, hh⟩ := hP
  have hx := Bd.exec
  have hby := Bd.bytes
  have hml : c.maxLocals = 6 := hml0
  have hown : s.vm.findClass "com/example/shapewell/shapewell/OutcomeNotPinLaw" = some m.cls := findClass_of_methodNamed Bd.named
  have hnm := (name_of_methodNamed Bd.named Bd.method).1
  have X0 : Stand p l e room_1 s m #[(.int p0)] below meth c s₁ [] 0 0 := Stand.of_body Bd
  have e0 : s₁.heap = h0 := by rw [← hh, Bd.state]; rfl
  have N0 := Fr.nil n0
  have pre0 : ∀ t, Steps p.tables e below (s₁.setTop (mkF m 0 #[iv p0, .unset, .unset, .unset, .unset, .unset] [])) t → Steps p.tables e below (s₁.setTop (entryFrame m #[(.int p0)] maxLocals)) t := fun t k => castTop (ef_0_I m p0) k
  obtain ⟨_, _, ⟨T1, L1, k1, n1⟩, -, X1, ⟨Lc1, hQ1, l1, y1, z1⟩, st1⟩ := Jvm.LawKit.callS X0 hx (y := (⟨"com/example/shapewell/shapewell/OutcomeNotPinLaw", "pick", "(I)Lcom/example/shapewell/shapewell/Outcome;"⟩ : MethodName)) hown (mvT hZ (hw _ (List.mem_of_getElem? (i := 1) rfl))) (mvT hZ (hw _ (List.mem_of_getElem? (i := 2) rfl))) (mvT hZ (hw _ (List.mem_of_getElem? (i := 3) rfl))) (mvT hZ (hw _ (List.mem_of_getElem? (i := 4) rfl))) (by decide) (backOf (W := 0) (rm1_1 l Z a0 hw [] w_Outcome_CONFORMS h0 n0 Z0 S_Outcome_CONFORMS) hZ (hw _ (List.mem_of_getElem? (i := 4) rfl)) (hw _ (List.mem_of_getElem? (i := 3) rfl)) (by decide) (by decide)) (g := (mkF m 8 #[iv p0, iv (2 : Int32), .unset, .unset, .unset, .unset] [(.int (2 : Int32))])) rfl (by rw [hml]; rfl) (argsL := [(.int (2 : Int32))]) (rest := []) (lenOf pd_0 rfl) rfl (by show 2 * 0 + _ ≤ _; exact Nat.le_of_eq rfl) (hb hby at_8) (fun _ _ => ⟨rfl, e0, (by decide : 0 + 0 ≤ _), (by decide : 0 + 0 ≤ _)⟩)
  dsimp only [Pt.U, Pt.locs, Pt.cells, Pt.slots] at X1 l1 y1 z1 st1 hQ1
  subst l1 y1 z1
  obtain ⟨rfl, N1q, e1⟩ := hQ1
  have N1 := Fr.app N0 N1q
  obtain ⟨_, _, ⟨T2, L2, k2, n2⟩, -, X2, ⟨Lc2, hQ2, l2, y2, z2⟩, st2⟩ := Jvm.LawKit.callS X1 hx (y := (⟨"com/example/shapewell/shapewell/OutcomeNotPinLaw", "pick", "(I)Lcom/example/shapewell/shapewell/Outcome;"⟩ : MethodName)) hown (mvT hZ (hw _ (List.mem_of_getElem? (i := 1) rfl))) (mvT hZ (hw _ (List.mem_of_getElem? (i := 2) rfl))) (mvT hZ (hw _ (List.mem_of_getElem? (i := 3) rfl))) (mvT hZ (hw _ (List.mem_of_getElem? (i := 4) rfl))) (by decide) (backOf (W := 0) (rm1_0 l Z a0 hw [] w_Outcome_VIOLATES h0 n0 Z0 S_Outcome_VIOLATES) hZ (hw _ (List.mem_of_getElem? (i := 4) rfl)) (hw _ (List.mem_of_getElem? (i := 3) rfl)) (by decide) (by decide)) (g := (mkF m 15 #[iv p0, iv (2 : Int32), rv w_Outcome_CONFORMS, .unset, .unset, .unset] [(.int (0 : Int32))])) rfl (by rw [hml]; rfl) (argsL := [(.int (0 : Int32))]) (rest := []) (lenOf pd_0 rfl) rfl (by show 2 * 0 + _ ≤ _; exact Nat.le_of_eq rfl) (hb hby at_15) (fun _ _ => ⟨rfl, e1, (by decide : 0 + 0 ≤ _), (by decide : 0 + 0 ≤ _)⟩)
  dsimp only [Pt.U, Pt.locs, Pt.cells, Pt.slots] at X2 l2 y2 z2 st2 hQ2
  subst l2 y2 z2
  obtain ⟨rfl, N2q, e2⟩ := hQ2
  have N2 := Fr.app N1 N2q
  obtain ⟨cq3, kq3, q3a, q3b, q3c⟩ := isOf hZ e2 E_w_Outcome_CONFORMS
  obtain ⟨_, _, ⟨T3, L3, k3, n3⟩, -, X3, ⟨Lc3, hQ3, l3, y3, z3⟩, st3⟩ := X2.virtualBack hx (y := (⟨"com/example/shapewell/shapewell/Outcome", "not", "()Lcom/example/shapewell/shapewell/Outcome;"⟩ : MethodName)) (z := (⟨"com/example/shapewell/shapewell/Outcome", "not", "()Lcom/example/shapewell/shapewell/Outcome;"⟩ : MethodName)) hown (mvT hZ (hw _ (List.mem_of_getElem? (i := 10) rfl))) (mvT hZ (hw _ (List.mem_of_getElem? (i := 11) rfl))) (notFace_of_selects (args := #[]) (mvT hZ (hw _ (List.mem_of_getElem? (i := 13) rfl)))) (mvT hZ (hw _ (List.mem_of_getElem? (i := 13) rfl))) (mvT hZ (hw _ (List.mem_of_getElem? (i := 12) rfl))) (by decide) (backOf (W := 0) (rm2_4 l Z a0 hw [] w_Outcome_VIOLATES w_Outcome_CONFORMS h0 n0 Z0 F_w_Outcome_CONFORMS_ordinal E_w_Outcome_CONFORMS S_Outcome_VIOLATES) hZ (hw _ (List.mem_of_getElem? (i := 14) rfl)) (hw _ (List.mem_of_getElem? (i := 6) rfl)) (by decide) (by decide)) q3a q3c (g := (mkF m 20 #[iv p0, iv (2 : Int32), rv w_Outcome_CONFORMS, rv w_Outcome_VIOLATES, .unset, .unset] [(.ref w_Outcome_CONFORMS)])) rfl (by rw [hml]; rfl) (Steps.refl _) (argsL := []) (rest := []) (lenOf pd_2 rfl) rfl (by show 2 * 0 + _ ≤ _; exact Nat.le_of_eq rfl) (hb hby at_20) (fun _ _ => ⟨rfl, e2, (by decide : 0 + 0 ≤ _), (by decide : 0 + 0 ≤ _)⟩)
  dsimp only [Pt.U, Pt.locs, Pt.cells, Pt.slots] at X3 l3 y3 z3 st3 hQ3
  subst l3 y3 z3
  obtain ⟨rfl, N3q, e3⟩ := hQ3
  have N3 := Fr.app N2 N3q
  obtain ⟨cq4, kq4, q4a, q4b, q4c⟩ := isOf hZ e3 E_w_Outcome_VIOLATES
  obtain ⟨_, _, ⟨T4, L4, k4, n4⟩, -, X4, ⟨Lc4, hQ4, l4, y4, z4⟩, st4⟩ := X3.virtualBack hx (y := (⟨"com/example/shapewell/shapewell/Outcome", "not", "()Lcom/example/shapewell/shapewell/Outcome;"⟩ : MethodName)) (z := (⟨"com/example/shapewell/shapewell/Outcome", "not", "()Lcom/example/shapewell/shapewell/Outcome;"⟩ : MethodName)) hown (mvT hZ (hw _ (List.mem_of_getElem? (i := 10) rfl))) (mvT hZ (hw _ (List.mem_of_getElem? (i := 11) rfl))) (notFace_of_selects (args := #[]) (mvT hZ (hw _ (List.mem_of_getElem? (i := 13) rfl)))) (mvT hZ (hw _ (List.mem_of_getElem? (i := 13) rfl))) (mvT hZ (hw _ (List.mem_of_getElem? (i := 12) rfl))) (by decide) (backOf (W := 0) (rm2_2 l Z a0 hw [] w_Outcome_VIOLATES w_Outcome_CONFORMS h0 n0 Z0 F_w_Outcome_VIOLATES_ordinal E_w_Outcome_VIOLATES S_Outcome_CONFORMS) hZ (hw _ (List.mem_of_getElem? (i := 14) rfl)) (hw _ (List.mem_of_getElem? (i := 6) rfl)) (by decide) (by decide)) q4a q4c (g := (mkF m 35 #[iv p0, iv (2 : Int32), rv w_Outcome_CONFORMS, rv w_Outcome_VIOLATES, rv w_Outcome_VIOLATES, .unset] [(.ref w_Outcome_VIOLATES)])) rfl (by rw [hml]; rfl) (Steps.refl _) (argsL := []) (rest := []) (lenOf pd_2 rfl) rfl (by show 2 * 0 + _ ≤ _; exact Nat.le_of_eq rfl) (hb hby at_35) (fun _ _ => ⟨rfl, e3, (by decide : 0 + 0 ≤ _), (by decide : 0 + 0 ≤ _)⟩)
  dsimp only [Pt.U, Pt.locs, Pt.cells, Pt.slots] at X4 l4 y4 z4 st4 hQ4
  subst l4 y4 z4
  obtain ⟨rfl, N4q, e4⟩ := hQ4
  have N4 := Fr.app N3 N4q
  obtain ⟨fs, hr, hrun, hended, hW, hsame⟩ := X4.leave (v := (some (.int (1 : Int32)))) (fun h => by rw [Bd.returns] at h; cases h)
  refine ⟨_, _, pre0 _ ?_, hrun, hended, _, _, rfl, ?_, ⟨_, rfl⟩, hW, hsame.mono (by decide) (by decide)⟩
  · show Steps p.tables e below (s₁.setTop (mkF m 0 #[iv p0, .unset, .unset, .unset, .unset, .unset] [])) _
    refine XS.iloadN X0.here hx rfl (hb hby at_0) rfl ?_
    show Steps p.tables e below (s₁.setTop (mkF m 1 #[iv p0, .unset, .unset, .unset, .unset, .unset] [(.int p0)])) _
    refine X0.ldcInt hx hown (mvT hZ (hw _ (List.mem_of_getElem? (i := 0) rfl))) (g := (mkF m 1 #[iv p0, .unset, .unset, .unset, .unset, .unset] [(.int p0)])) rfl (hb hby at_1) _ ?_
    show Steps p.tables e below (s₁.setTop (mkF m 3 #[iv p0, .unset, .unset, .unset, .unset, .unset] [(.int (2147483647 : Int32)), (.int p0)])) _
    refine XS.iand X0.here hx rfl (hb hby at_3) rfl ?_
    show Steps p.tables e below (s₁.setTop (mkF m 4 #[iv p0, .unset, .unset, .unset, .unset, .unset] [(.int (p0 &&& (2147483647 : Int32)))])) _
    refine XS.iconst X0.here hx rfl (hb hby at_4) ?_
    show Steps p.tables e below (s₁.setTop (mkF m 5 #[iv p0, .unset, .unset, .unset, .unset, .unset] [(.int (3 : Int32)), (.int (p0 &&& (2147483647 : Int32)))])) _
    refine iremM X0 hx rfl (hb hby at_5) rfl (by decide) ?_
    show Steps p.tables e below (s₁.setTop (mkF m 6 #[iv p0, .unset, .unset, .unset, .unset, .unset] [(.int ((p0 &&& (2147483647 : Int32)) % (3 : Int32)))])) _
    rewrite [hk0]
    show Steps p.tables e below (s₁.setTop (mkF m 6 #[iv p0, .unset, .unset, .unset, .unset, .unset] [(.int (2 : Int32))])) _
    refine XS.istoreN X0.here hx rfl (hb hby at_6) rfl (l' := #[iv p0, iv (2 : Int32), .unset, .unset, .unset, .unset]) rfl ?_
    show Steps p.tables e below (s₁.setTop (mkF m 7 #[iv p0, iv (2 : Int32), .unset, .unset, .unset, .unset] [])) _
    refine XS.iloadN X0.here hx rfl (hb hby at_7) rfl ?_
    show Steps p.tables e below (s₁.setTop (mkF m 8 #[iv p0, iv (2 : Int32), .unset, .unset, .unset, .unset] [(.int (2 : Int32))])) _
    refine st1 _ ?_
    show Steps p.tables e below (T1.setTop (mkF m 11 #[iv p0, iv (2 : Int32), .unset, .unset, .unset, .unset] [(.ref w_Outcome_CONFORMS)])) _
    refine XS.astoreN X1.here hx rfl (hb hby at_11) rfl rfl (l' := #[iv p0, iv (2 : Int32), rv w_Outcome_CONFORMS, .unset, .unset, .unset]) rfl ?_
    show Steps p.tables e below (T1.setTop (mkF m 12 #[iv p0, iv (2 : Int32), rv w_Outcome_CONFORMS, .unset, .unset, .unset] [])) _
    refine XS.iconst X1.here hx rfl (hb hby at_12) ?_
    show Steps p.tables e below (T1.setTop (mkF m 13 #[iv p0, iv (2 : Int32), rv w_Outcome_CONFORMS, .unset, .unset, .unset] [(.int (2 : Int32))])) _
    refine XS.iloadN X1.here hx rfl (hb hby at_13) rfl ?_
    show Steps p.tables e below (T1.setTop (mkF m 14 #[iv p0, iv (2 : Int32), rv w_Outcome_CONFORMS, .unset, .unset, .unset] [(.int (2 : Int32)), (.int (2 : Int32))])) _
    refine XS.isub X1.here hx rfl (hb hby at_14) rfl ?_
    show Steps p.tables e below (T1.setTop (mkF m 15 #[iv p0, iv (2 : Int32), rv w_Outcome_CONFORMS, .unset, .unset, .unset] [(.int ((2 : Int32) - (2 : Int32)))])) _
    rewrite [show ((2 : Int32) - (2 : Int32)) = (0 : Int32) from by decide +kernel]
    show Steps p.tables e below (T1.setTop (mkF m 15 #[iv p0, iv (2 : Int32), rv w_Outcome_CONFORMS, .unset, .unset, .unset] [(.int (0 : Int32))])) _
    refine st2 _ ?_
    show Steps p.tables e below (T2.setTop (mkF m 18 #[iv p0, iv (2 : Int32), rv w_Outcome_CONFORMS, .unset, .unset, .unset] [(.ref w_Outcome_VIOLATES)])) _
    refine XS.astoreN X2.here hx rfl (hb hby at_18) rfl rfl (l' := #[iv p0, iv (2 : Int32), rv w_Outcome_CONFORMS, rv w_Outcome_VIOLATES, .unset, .unset]) rfl ?_
    show Steps p.tables e below (T2.setTop (mkF m 19 #[iv p0, iv (2 : Int32), rv w_Outcome_CONFORMS, rv w_Outcome_VIOLATES, .unset, .unset] [])) _
    refine XS.aloadN X2.here hx rfl (hb hby at_19) rfl rfl ?_
    show Steps p.tables e below (T2.setTop (mkF m 20 #[iv p0, iv (2 : Int32), rv w_Outcome_CONFORMS, rv w_Outcome_VIOLATES, .unset, .unset] [(.ref w_Outcome_CONFORMS)])) _
    refine st3.trans ?_
    show Steps p.tables e below (T3.setTop (mkF m 23 #[iv p0, iv (2 : Int32), rv w_Outcome_CONFORMS, rv w_Outcome_VIOLATES, .unset, .unset] [(.ref w_Outcome_VIOLATES)])) _
    refine XS.astore X3.here hx rfl (hb hby at_23) rfl rfl (l' := #[iv p0, iv (2 : Int32), rv w_Outcome_CONFORMS, rv w_Outcome_VIOLATES, rv w_Outcome_VIOLATES, .unset]) rfl ?_
    show Steps p.tables e below (T3.setTop (mkF m 25 #[iv p0, iv (2 : Int32), rv w_Outcome_CONFORMS, rv w_Outcome_VIOLATES, rv w_Outcome_VIOLATES, .unset] [])) _
    refine XS.aload X3.here hx rfl (hb hby at_25) rfl rfl ?_
    show Steps p.tables e below (T3.setTop (mkF m 27 #[iv p0, iv (2 : Int32), rv w_Outcome_CONFORMS, rv w_Outcome_VIOLATES, rv w_Outcome_VIOLATES, .unset] [(.ref w_Outcome_VIOLATES)])) _
    refine XS.aloadN X3.here hx rfl (hb hby at_27) rfl rfl ?_
    show Steps p.tables e below (T3.setTop (mkF m 28 #[iv p0, iv (2 : Int32), rv w_Outcome_CONFORMS, rv w_Outcome_VIOLATES, rv w_Outcome_VIOLATES, .unset] [(.ref w_Outcome_VIOLATES), (.ref w_Outcome_VIOLATES)])) _
    refine Jvm.RoadKit.acmp (g := (mkF m 28 #[iv p0, iv (2 : Int32), rv w_Outcome_CONFORMS, rv w_Outcome_VIOLATES, rv w_Outcome_VIOLATES, .unset] [(.ref w_Outcome_VIOLATES), (.ref w_Outcome_VIOLATES)])) X3 hx rfl rfl rfl (pc0 := 28) (pc' := 33) (same := true) rfl (hb hby at_28) rfl (decide_eq_true rfl) (by decide) (by decide) ?_
    show Steps p.tables e below (T3.setTop (mkF m 33 #[iv p0, iv (2 : Int32), rv w_Outcome_CONFORMS, rv w_Outcome_VIOLATES, rv w_Outcome_VIOLATES, .unset] [])) _
    refine XS.aload X3.here hx rfl (hb hby at_33) rfl rfl ?_
    show Steps p.tables e below (T3.setTop (mkF m 35 #[iv p0, iv (2 : Int32), rv w_Outcome_CONFORMS, rv w_Outcome_VIOLATES, rv w_Outcome_VIOLATES, .unset] [(.ref w_Outcome_VIOLATES)])) _
    refine st4.trans ?_
    show Steps p.tables e below (T4.setTop (mkF m 38 #[iv p0, iv (2 : Int32), rv w_Outcome_CONFORMS, rv w_Outcome_VIOLATES, rv w_Outcome_VIOLATES, .unset] [(.ref w_Outcome_CONFORMS)])) _
    refine XS.astore X4.here hx rfl (hb hby at_38) rfl rfl (l' := #[iv p0, iv (2 : Int32), rv w_Outcome_CONFORMS, rv w_Outcome_VIOLATES, rv w_Outcome_VIOLATES, rv w_Outcome_CONFORMS]) rfl ?_
    show Steps p.tables e below (T4.setTop (mkF m 40 #[iv p0, iv (2 : Int32), rv w_Outcome_CONFORMS, rv w_Outcome_VIOLATES, rv w_Outcome_VIOLATES, rv w_Outcome_CONFORMS] [])) _
    refine XS.aload X4.here hx rfl (hb hby at_40) rfl rfl ?_
    show Steps p.tables e below (T4.setTop (mkF m 42 #[iv p0, iv (2 : Int32), rv w_Outcome_CONFORMS, rv w_Outcome_VIOLATES, rv w_Outcome_VIOLATES, rv w_Outcome_CONFORMS] [(.ref w_Outcome_CONFORMS)])) _
    refine XS.aloadN X4.here hx rfl (hb hby at_42) rfl rfl ?_
    show Steps p.tables e below (T4.setTop (mkF m 43 #[iv p0, iv (2 : Int32), rv w_Outcome_CONFORMS, rv w_Outcome_VIOLATES, rv w_Outcome_VIOLATES, rv w_Outcome_CONFORMS] [(.ref w_Outcome_CONFORMS), (.ref w_Outcome_CONFORMS)])) _
    refine Jvm.RoadKit.acmp (g := (mkF m 43 #[iv p0, iv (2 : Int32), rv w_Outcome_CONFORMS, rv w_Outcome_VIOLATES, rv w_Outcome_VIOLATES, rv w_Outcome_CONFORMS] [(.ref w_Outcome_CONFORMS), (.ref w_Outcome_CONFORMS)])) X4 hx rfl rfl rfl (pc0 := 43) (pc' := 46) (same := true) rfl (hb hby at_43) rfl (decide_eq_true rfl) (by decide) (by decide) ?_
    show Steps p.tables e below (T4.setTop (mkF m 46 #[iv p0, iv (2 : Int32), rv w_Outcome_CONFORMS, rv w_Outcome_VIOLATES, rv w_Outcome_VIOLATES, rv w_Outcome_CONFORMS] [])) _
    refine XS.iconst X4.here hx rfl (hb hby at_46) ?_
    show Steps p.tables e below (T4.setTop (mkF m 47 #[iv p0, iv (2 : Int32), rv w_Outcome_CONFORMS, rv w_Outcome_VIOLATES, rv w_Outcome_VIOLATES, rv w_Outcome_CONFORMS] [(.int (1 : Int32))])) _
    refine XS.goto X4.here hx rfl (pc0 := 47) (pc' := 51) rfl (hb hby at_47) (by decide) (by decide) ?_
    show Steps p.tables e below (T4.setTop (mkF m 51 #[iv p0, iv (2 : Int32), rv w_Outcome_CONFORMS, rv w_Outcome_VIOLATES, rv w_Outcome_VIOLATES, rv w_Outcome_CONFORMS] [(.int (1 : Int32))])) _
    exact retN X4 hx (t := .boolean) Bd.returns (by simp) (hb hby at_51) hr
  · exact ⟨rfl, N4⟩
theorem rm0 (l : Launch) (Z : State) (a0 : Array Value) (hw : ∀ d ∈ tables_1, d.before a0 Z = true) (ws : List Jvm.Cond) (p0 : Int32) (w_Outcome_VIOLATES : Addr) (w_Outcome_CONFORMS : Addr) (w_Outcome_UNDETERMINED : Addr) (h0 : Heap) (n0 : Nat) (Z0 : n0 ≤ h0.size) (S_Outcome_VIOLATES : Sta Z h0 "com/example/shapewell/shapewell/Outcome" "VIOLATES" "Lcom/example/shapewell/shapewell/Outcome;" (.ref w_Outcome_VIOLATES)) (S_Outcome_CONFORMS : Sta Z h0 "com/example/shapewell/shapewell/Outcome" "CONFORMS" "Lcom/example/shapewell/shapewell/Outcome;" (.ref w_Outcome_CONFORMS)) (F_w_Outcome_VIOLATES_ordinal : Fld Z h0 w_Outcome_VIOLATES "java/lang/Enum" "ordinal" "I" (.int (0 : Int32))) (E_w_Outcome_VIOLATES : Exa Z h0 w_Outcome_VIOLATES "com/example/shapewell/shapewell/Outcome") (F_w_Outcome_CONFORMS_ordinal : Fld Z h0 w_Outcome_CONFORMS "java/lang/Enum" "ordinal" "I" (.int (2 : Int32))) (E_w_Outcome_CONFORMS : Exa Z h0 w_Outcome_CONFORMS "com/example/shapewell/shapewell/Outcome") (S_Outcome_UNDETERMINED : Sta Z h0 "com/example/shapewell/shapewell/Outcome" "UNDETERMINED" "Lcom/example/shapewell/shapewell/Outcome;" (.ref w_Outcome_UNDETERMINED)) (F_w_Outcome_UNDETERMINED_ordinal : Fld Z h0 w_Outcome_UNDETERMINED "java/lang/Enum" "ordinal" "I" (.int (1 : Int32))) (E_w_Outcome_UNDETERMINED : Exa Z h0 w_Outcome_UNDETERMINED "com/example/shapewell/shapewell/Outcome") :
    MetFree l x (head1 (Jvm.Cond.code x code maxLocals ret :: ws) room_1) (fun a U => a = #[(.int p0)] ∧ Z.Warmed39 U.vm ∧ U.heap = h0) (fun _ _ _ _ _ => True) (fun _ U o U' => ∃ v L, o = .returned v ∧ own_QL n0 v U'.heap L ∧ FrameEnd U o U' L room_1.cells room_1.slots) := by
  rcases own_s0 p0 with hk0 | hk0 | hk0
  · exact rm0_0 l Z a0 hw ws p0 w_Outcome_VIOLATES w_Outcome_CONFORMS h0 n0 Z0 hk0 S_Outcome_VIOLATES S_Outcome_CONFORMS F_w_Outcome_VIOLATES_ordinal E_w_Outcome_VIOLATES F_w_Outcome_CONFORMS_ordinal E_w_Outcome_CONFORMS
  · exact rm0_1 l Z a0 hw ws p0 w_Outcome_UNDETERMINED h0 n0 Z0 hk0 S_Outcome_UNDETERMINED F_w_Outcome_UNDETERMINED_ordinal E_w_Outcome_UNDETERMINED
  · exact rm0_2 l Z a0 hw ws p0 w_Outcome_VIOLATES w_Outcome_CONFORMS h0 n0 Z0 hk0 S_Outcome_CONFORMS S_Outcome_VIOLATES F_w_Outcome_CONFORMS_ordinal E_w_Outcome_CONFORMS F_w_Outcome_VIOLATES_ordinal E_w_Outcome_VIOLATES
set_option maxRecDepth 65536 in
set_option maxHeartbeats 40000000 in
theorem comes_1 {Post : Tables → Env → Array Value → State → Outcome → State → Prop} (hpost : ∀ tb e args s v u, (limb_1_1.after args s (.returned v) u = true ∧ limb_1_2.after args s (.returned v) u = true ∧ True) → FrameEnd s (.returned v) u (Jvm.fieldLocs frame_1_writes args s ++ Jvm.arrayLocs frame_1_arrays args s ++ Jvm.staticLocs frame_1_statics s) 0 0 → Post tb e args s (.returned v) u) :
    ArmFor flags0 classFile x code maxLocals ret World_1 tables_1 room_1 Calls_1 rest_1 Pre_1 Post := by
  intro l hfl _ _ p e ha hc hk s m args below hf hA hF happ hP
  obtain ⟨hcalls, hrest, hpre⟩ := hP
  obtain ⟨-, -, -, hnamed, -, -, -, hat⟩ := (Spec.applies_iff hf).mp happ
  obtain ⟨hg, hn⟩ := and_e (Cond.before_iff.mp (show (Jvm.Cond.and given_1 narrow_1).before args s = true from hpre))
  obtain ⟨g0, g0r⟩ := and_e hg
  obtain ⟨v0, rfl⟩ : ∃ v0 : Value, args = #[v0] := by
    have hs : args.size = 1 := by simpa [Cond.value, given_1] using g0
    obtain ⟨L⟩ := args
    match L, hs with
    | [v0], _ => exact ⟨v0, rfl⟩
  have hw := fun d (hd : d ∈ tables_1) => atoms_spec (ws := Jvm.Cond.code x code maxLocals ret :: tables_1) hat d (List.mem_cons_of_mem _ hd)
  have hfit : Fit s := fun {y c} hc i hi => by
    obtain ⟨ha, rfl⟩ := Array.getElem?_eq_some_iff.mp hc
    have q := List.all_eq_true.mp ((Array.all_eq_true_iff_forall_mem.mp hF) _ (Array.getElem_mem ha)) i (List.mem_range.mpr hi)
    simpa [Array.getElem?_eq_getElem hi] using q
  obtain ⟨p0, ei0⟩ := is_v g0r
  obtain rfl : v0 = (.int p0) := Option.some.inj ei0
  obtain ⟨n0, n0r⟩ := and_e hn
  obtain ⟨n1, n1r⟩ := and_e n0r
  obtain ⟨n2, n2r⟩ := and_e n1r
  obtain ⟨n3, n3r⟩ := and_e n2r
  obtain ⟨n4, n4r⟩ := and_e n3r
  obtain ⟨w_Outcome_VIOLATES, ev_w_Outcome_VIOLATES⟩ := exa_v n0
  have S_Outcome_VIOLATES : Sta s s.heap "com/example/shapewell/shapewell/Outcome" "VIOLATES" "Lcom/example/shapewell/shapewell/Outcome;" (.ref w_Outcome_VIOLATES) := Sta.start ev_w_Outcome_VIOLATES (Or.inr ⟨(hw _ (List.mem_of_getElem? (i := 6) rfl)), (hw _ (List.mem_of_getElem? (i := 7) rfl))⟩)
  have E_w_Outcome_VIOLATES : Exa s s.heap w_Outcome_VIOLATES "com/example/shapewell/shapewell/Outcome" := Exa.start ev_w_Outcome_VIOLATES n0
  obtain ⟨w_Outcome_CONFORMS, ev_w_Outcome_CONFORMS⟩ := exa_v n1
  have S_Outcome_CONFORMS : Sta s s.heap "com/example/shapewell/shapewell/Outcome" "CONFORMS" "Lcom/example/shapewell/shapewell/Outcome;" (.ref w_Outcome_CONFORMS) := Sta.start ev_w_Outcome_CONFORMS (Or.inr ⟨(hw _ (List.mem_of_getElem? (i := 6) rfl)), (hw _ (List.mem_of_getElem? (i := 9) rfl))⟩)
  have E_w_Outcome_CONFORMS : Exa s s.heap w_Outcome_CONFORMS "com/example/shapewell/shapewell/Outcome" := Exa.start ev_w_Outcome_CONFORMS n1
  obtain ⟨w_Outcome_UNDETERMINED, ev_w_Outcome_UNDETERMINED⟩ := exa_v n4
  have S_Outcome_UNDETERMINED : Sta s s.heap "com/example/shapewell/shapewell/Outcome" "UNDETERMINED" "Lcom/example/shapewell/shapewell/Outcome;" (.ref w_Outcome_UNDETERMINED) := Sta.start ev_w_Outcome_UNDETERMINED (Or.inr ⟨(hw _ (List.mem_of_getElem? (i := 6) rfl)), (hw _ (List.mem_of_getElem? (i := 27) rfl))⟩)
  have E_w_Outcome_UNDETERMINED : Exa s s.heap w_Outcome_UNDETERMINED "com/example/shapewell/shapewell/Outcome" := Exa.start ev_w_Outcome_UNDETERMINED n4
  have F_w_Outcome_VIOLATES_ordinal : Fld s s.heap w_Outcome_VIOLATES "java/lang/Enum" "ordinal" "I" (.int (0 : Int32)) := Fld.start ((fld_at ev_w_Outcome_VIOLATES).symm.trans (own_eqv n2 (Term.int_eval _) (Or.inr ⟨_, rfl⟩)))
  have F_w_Outcome_CONFORMS_ordinal : Fld s s.heap w_Outcome_CONFORMS "java/lang/Enum" "ordinal" "I" (.int (2 : Int32)) := Fld.start ((fld_at ev_w_Outcome_CONFORMS).symm.trans (own_eqv n3 (Term.int_eval _) (Or.inr ⟨_, rfl⟩)))
  have F_w_Outcome_UNDETERMINED_ordinal : Fld s s.heap w_Outcome_UNDETERMINED "java/lang/Enum" "ordinal" "I" (.int (1 : Int32)) := Fld.start ((fld_at ev_w_Outcome_UNDETERMINED).symm.trans (own_eqv n4r (Term.int_eval _) (Or.inr ⟨_, rfl⟩)))
  obtain ⟨n, o, h1, h2, h3, _, L, rfl, ⟨rfl, N⟩, hq⟩ := rm0 l s _ hw tables_1 p0 w_Outcome_VIOLATES w_Outcome_CONFORMS w_Outcome_UNDETERMINED s.heap s.heap.size (Nat.le_refl _) S_Outcome_VIOLATES S_Outcome_CONFORMS F_w_Outcome_VIOLATES_ordinal E_w_Outcome_VIOLATES F_w_Outcome_CONFORMS_ordinal E_w_Outcome_CONFORMS S_Outcome_UNDETERMINED F_w_Outcome_UNDETERMINED_ordinal E_w_Outcome_UNDETERMINED p e ha hc hk s m _ below hf ((Spec.applies_iff_loose hf).mp happ).1 ⟨rfl, State.Warmed39.refl s, rfl⟩ trivial
  refine ⟨n, _, h1, h2, h3, hpost _ _ _ _ _ _ ⟨Cond.after_iff.mpr rfl, Cond.after_iff.mpr (eq_i res_at (Term.int_eval (1)) rfl), trivial⟩ ⟨hq.1, hq.2.1, (hq.2.2.sift fun y hy => Or.inr (N y hy)).mono (by decide) (by decide)⟩⟩
theorem main_1_1 : Claimed_1_1 := comes_1 fun _ _ _ _ _ _ h hF => ⟨h.1, hF⟩
theorem main_1_2 : Claimed_1_2 := comes_1 fun _ _ _ _ _ _ h hF => ⟨h.2.1, hF⟩
end Jvm.Pilot.@@N@@
namespace Jvm.Pilot.@@N@@
open Jvm Jvm.ClassFile Sem Op Lib Jvm.Free Jvm.Stand Jvm.Pilot.@@N@@.Jvm.D
/-! MADE BY PROGRAM (witnessworld.py) out of the Statement's table words and the real class files: 12 classes; the members and pool entries that the words name. The judged class is class 1, her method 2. -/
namespace start1
open Jvm.ClassFile
def u (s : String) : CpInfo := .utf8 (stringToUtf16 s)
/-- a pool by its gaps: so many unusable entries, then the entry; so many at the end -/
def gap : Nat → List CpInfo → List CpInfo
  | 0, r => r
  | n + 1, r => .unusable :: gap n r
def poolList (es : List (Nat × CpInfo)) (last : Nat) : List CpInfo := es.foldr (fun e r => gap e.1 (e.2 :: r)) (gap last [])
def pool (es : List (Nat × CpInfo)) (last : Nat) : Array CpInfo := ⟨poolList es last⟩
def fileOf (pool : Array CpInfo) (this : Nat) (attrs : Array Attribute := #[]) (ms : Array MethodInfo := #[]) (fl : Nat := 33) (sup : Nat := 0) (ifs : Array Nat := #[]) (fds : Array FieldInfo := #[]) : ClassFile where
  minorVersion := 0
  majorVersion := 65
  constantPool := pool
  accessFlags := fl
  thisClass := this
  superClass := sup
  interfaces := ifs
  fields := fds
  methods := ms
  attributes := attrs
def plain (name : String) (sup : Option ClassId) : Class where
  name := name
  kind := .ordinary
  loader := none
  accessFlags := 33
  super := sup
  interfaces := #[]
  cf := none
  fields := #[]
  methods := #[]
  instanceTypes := #[]
  staticTypes := #[]
  resolved := #[]
  callSites := []
  init := .initialized
  statics := none
  mirror := none

def pool0 : Array CpInfo := pool [(5, u "<init>"), (0, u "()V"), (1, .class_ 10), (1, u "java/lang/Object")] 113

def k0m0 : Method := { name := "<init>", desc := "()V", sig := { parameters := [], returnType := none }, accessFlags := 1, code := none }
/-- java/lang/Object -/
def k0 : Class := { plain "java/lang/Object" none with
  accessFlags := 33
  interfaces := #[]
  cf := some (fileOf pool0 8 #[] #[{ accessFlags := 1, nameIndex := 5, descriptorIndex := 6, attributes := #[] }] 33 0 #[] #[])
  fields := #[]
  methods := #[k0m0]
  instanceTypes := #[]
  staticTypes := #[]
  resolved := Array.replicate 124 none
  statics := none }

def pool1 : Array CpInfo := pool [(2, .class_ 4), (1, u "java/lang/Object"), (0, u "<init>"), (0, u "()V"), (0, .fieldref 8 9), (0, .class_ 10), (0, .nameAndType 11 12), (0, u "com/example/shapewell/shapewell/Outcome"), (0, u "VIOLATES"), (0, u "Lcom/example/shapewell/shapewell/Outcome;"), (0, .fieldref 8 14), (0, .nameAndType 15 12), (0, u "UNDETERMINED"), (0, .fieldref 8 17), (0, .nameAndType 18 12), (0, u "CONFORMS"), (0, .integer 2147483647), (0, .methodref 21 22), (0, .class_ 23), (0, .nameAndType 24 25), (0, u "com/example/shapewell/shapewell/OutcomeNotPinLaw"), (0, u "pick"), (0, u "(I)Lcom/example/shapewell/shapewell/Outcome;"), (0, .methodref 8 27), (0, .nameAndType 28 29), (0, u "not"), (0, u "()Lcom/example/shapewell/shapewell/Outcome;"), (3, u "law"), (0, u "(I)Z")] 2

def k1m0 : Method := { name := "<init>", desc := "()V", sig := { parameters := [], returnType := none }, accessFlags := 2, code := none }
def k1c1 : Code := { maxStack := 2, maxLocals := 1, code := method_2_code, exceptionTable := #[], attributes := #[] }
def k1m1 : Method := { name := "pick", desc := "(I)Lcom/example/shapewell/shapewell/Outcome;", sig := { parameters := [.int], returnType := some (.object "com/example/shapewell/shapewell/Outcome") }, accessFlags := 10, code := some k1c1 }
def k1c2 : Code := { maxStack := 2, maxLocals := 6, code := code, exceptionTable := #[], attributes := #[] }
def k1m2 : Method := { name := "law", desc := "(I)Z", sig := { parameters := [.int], returnType := some .boolean }, accessFlags := 9, code := some k1c2 }
/-- com/example/shapewell/shapewell/OutcomeNotPinLaw -/
def k1 : Class := { plain "com/example/shapewell/shapewell/OutcomeNotPinLaw" (some 0) with
  accessFlags := 49
  interfaces := #[]
  cf := some (fileOf pool1 21 #[] #[{ accessFlags := 2, nameIndex := 5, descriptorIndex := 6, attributes := #[] }, { accessFlags := 10, nameIndex := 24, descriptorIndex := 25, attributes := #[] }, { accessFlags := 9, nameIndex := 33, descriptorIndex := 34, attributes := #[] }] 49 2 #[] #[])
  fields := #[]
  methods := #[k1m0, k1m1, k1m2]
  instanceTypes := #[]
  staticTypes := #[]
  resolved := Array.replicate 37 none
  statics := none }

def pool2 : Array CpInfo := pool [(1, .class_ 2), (0, u "java/lang/constant/Constable"), (0, .class_ 4), (0, u "java/lang/Object")] 6

/-- java/lang/constant/Constable -/
def k2 : Class := { plain "java/lang/constant/Constable" (some 0) with
  accessFlags := 1537
  interfaces := #[]
  cf := some (fileOf pool2 1 #[] #[] 1537 3 #[] #[])
  fields := #[]
  methods := #[]
  instanceTypes := #[]
  staticTypes := #[]
  resolved := Array.replicate 11 none
  statics := none }

def pool3 : Array CpInfo := pool [(1, .class_ 2), (0, u "java/lang/Comparable"), (0, .class_ 4), (0, u "java/lang/Object")] 7

/-- java/lang/Comparable -/
def k3 : Class := { plain "java/lang/Comparable" (some 0) with
  accessFlags := 1537
  interfaces := #[]
  cf := some (fileOf pool3 1 #[] #[] 1537 3 #[] #[])
  fields := #[]
  methods := #[]
  instanceTypes := #[]
  staticTypes := #[]
  resolved := Array.replicate 12 none
  statics := none }

def pool4 : Array CpInfo := pool [(1, .class_ 2), (0, u "java/io/Serializable"), (0, .class_ 4), (0, u "java/lang/Object")] 2

/-- java/io/Serializable -/
def k4 : Class := { plain "java/io/Serializable" (some 0) with
  accessFlags := 1537
  interfaces := #[]
  cf := some (fileOf pool4 1 #[] #[] 1537 3 #[] #[])
  fields := #[]
  methods := #[]
  instanceTypes := #[]
  staticTypes := #[]
  resolved := Array.replicate 7 none
  statics := none }

def pool5 : Array CpInfo := pool [(2, .class_ 4), (1, u "java/lang/Enum"), (0, u "name"), (0, u "Ljava/lang/String;"), (0, .fieldref 2 8), (0, .nameAndType 9 10), (0, u "ordinal"), (0, u "I"), (1, .class_ 14), (1, u "java/lang/Object"), (4, u "hash"), (86, .class_ 108), (1, u "java/lang/Enum$EnumDesc"), (2, .class_ 112), (0, u "java/lang/constant/Constable"), (0, .class_ 114), (0, u "java/lang/Comparable"), (0, .class_ 116), (0, u "java/io/Serializable"), (9, u "()I")] 77

def k5c0 : Code := { maxStack := 1, maxLocals := 1, code := jdk_37_method_2_code, exceptionTable := #[], attributes := #[] }
def k5m0 : Method := { name := "ordinal", desc := "()I", sig := { parameters := [], returnType := some .int }, accessFlags := 17, code := some k5c0 }
/-- java/lang/Enum -/
def k5 : Class := { plain "java/lang/Enum" (some 0) with
  accessFlags := 1057
  interfaces := #[2, 3, 4]
  cf := some (fileOf pool5 2 #[.nestMembers #[106]] #[{ accessFlags := 17, nameIndex := 9, descriptorIndex := 126, attributes := #[] }] 1057 12 #[111, 113, 115] #[{ accessFlags := 18, nameIndex := 5, descriptorIndex := 6, attributes := #[] }, { accessFlags := 18, nameIndex := 9, descriptorIndex := 10, attributes := #[] }, { accessFlags := 2, nameIndex := 19, descriptorIndex := 10, attributes := #[] }])
  fields := #[{ name := "name", type := (.object "java/lang/String"), accessFlags := 18, slot := 0, constantValue := 0 }, { name := "ordinal", type := .int, accessFlags := 18, slot := 1, constantValue := 0 }, { name := "hash", type := .int, accessFlags := 2, slot := 2, constantValue := 0 }]
  methods := #[k5m0]
  instanceTypes := #[(.object "java/lang/String"), .int, .int]
  staticTypes := #[]
  resolved := Array.replicate 204 none
  statics := none }

def pool6 : Array CpInfo := pool [(1, .class_ 2), (0, u "com/example/shapewell/shapewell/Outcome"), (0, .fieldref 1 4), (0, .nameAndType 5 6), (0, u "VIOLATES"), (0, u "Lcom/example/shapewell/shapewell/Outcome;"), (0, .fieldref 1 8), (0, .nameAndType 9 6), (0, u "UNDETERMINED"), (0, .fieldref 1 11), (0, .nameAndType 12 6), (0, u "CONFORMS"), (2, u "$VALUES"), (0, u "[Lcom/example/shapewell/shapewell/Outcome;"), (6, .class_ 25), (1, u "java/lang/Enum"), (10, .methodref 1 37), (0, .nameAndType 38 39), (0, u "ordinal"), (0, u "()I"), (27, u "not"), (0, u "()Lcom/example/shapewell/shapewell/Outcome;")] 5

def k6c0 : Code := { maxStack := 4, maxLocals := 1, code := prog_3_method_6_code, exceptionTable := #[], attributes := #[] }
def k6m0 : Method := { name := "not", desc := "()Lcom/example/shapewell/shapewell/Outcome;", sig := { parameters := [], returnType := some (.object "com/example/shapewell/shapewell/Outcome") }, accessFlags := 0, code := some k6c0 }
/-- com/example/shapewell/shapewell/Outcome -/
def k6 : Class := { plain "com/example/shapewell/shapewell/Outcome" (some 5) with
  accessFlags := 16432
  interfaces := #[]
  cf := some (fileOf pool6 1 #[] #[{ accessFlags := 0, nameIndex := 67, descriptorIndex := 68, attributes := #[] }] 16432 23 #[] #[{ accessFlags := 16409, nameIndex := 5, descriptorIndex := 6, attributes := #[] }, { accessFlags := 16409, nameIndex := 9, descriptorIndex := 6, attributes := #[] }, { accessFlags := 16409, nameIndex := 12, descriptorIndex := 6, attributes := #[] }, { accessFlags := 4122, nameIndex := 15, descriptorIndex := 16, attributes := #[] }])
  fields := #[{ name := "VIOLATES", type := (.object "com/example/shapewell/shapewell/Outcome"), accessFlags := 16409, slot := 0, constantValue := 0 }, { name := "UNDETERMINED", type := (.object "com/example/shapewell/shapewell/Outcome"), accessFlags := 16409, slot := 1, constantValue := 0 }, { name := "CONFORMS", type := (.object "com/example/shapewell/shapewell/Outcome"), accessFlags := 16409, slot := 2, constantValue := 0 }, { name := "$VALUES", type := (.array (.object "com/example/shapewell/shapewell/Outcome")), accessFlags := 4122, slot := 3, constantValue := 0 }]
  methods := #[k6m0]
  instanceTypes := #[(.object "java/lang/String"), .int, .int]
  staticTypes := #[(.object "com/example/shapewell/shapewell/Outcome"), (.object "com/example/shapewell/shapewell/Outcome"), (.object "com/example/shapewell/shapewell/Outcome"), (.array (.object "com/example/shapewell/shapewell/Outcome"))]
  resolved := Array.replicate 74 none
  statics := some 0 }

def pool7 : Array CpInfo := pool [(1, u "java/lang/Cloneable"), (0, .class_ 1), (0, u "java/lang/Object"), (0, .class_ 3)] 3

/-- java/lang/Cloneable -/
def k7 : Class := { plain "java/lang/Cloneable" (some 0) with
  accessFlags := 1537
  interfaces := #[]
  cf := some (fileOf pool7 2 #[] #[] 1537 4 #[] #[])
  fields := #[]
  methods := #[]
  instanceTypes := #[]
  staticTypes := #[]
  resolved := Array.replicate 8 none
  statics := none }

/-- the primitive byte -/
def k8 : Class := { plain "byte" none with kind := .primitive 'B', accessFlags := 0x411 }
/-- [B -/
def k9 : Class := { plain "[B" (some 0) with kind := .array 8 .byte, interfaces := #[7, 4], accessFlags := 1041 }

/-- the primitive int -/
def k10 : Class := { plain "int" none with kind := .primitive 'I', accessFlags := 0x411 }
/-- [I -/
def k11 : Class := { plain "[I" (some 0) with kind := .array 10 .int, interfaces := #[7, 4], accessFlags := 1041 }

def heap : Heap := #[{ cls := 6, slots := #[.ref 1, .ref 3, .ref 2, .null], vm := .statics 6 },
  { cls := 6, slots := #[.null, .int 0, .int 0], vm := .none },
  { cls := 6, slots := #[.null, .int 2, .int 0], vm := .none },
  { cls := 6, slots := #[.null, .int 1, .int 0], vm := .none }]
def classes : Array Class := #[k0, k1, k2, k3, k4, k5, k6, k7, k8, k9, k10, k11]
def interned : List (Array UInt16 × Addr) := []
def slotsUsed : Nat := 13
def theMethod : MethodId := ⟨1, 2⟩
def args0 : Array Value := #[.int 5]
def aboutOver (below : List Frame) : State where
  vm := { classes := classes, interned := interned.toArray }
  heap := heap
  slotsUsed := slotsUsed
  threads := #[{ frames := .invoking theMethod args0 :: below }]
def below0 : List Frame := [.native { method := ⟨0, 0⟩, args := #[] }]
def about1 : State := aboutOver below0
def p0 : Program := .bare "" "" ""
def e0 : Env := launch0.env 0 0 0
theorem w_frames : about1.frames = Frame.invoking theMethod args0 :: below0 := rfl
set_option maxRecDepth 65536 in
theorem w_args : argsFit about1.vm theMethod args0 = true := by decide +kernel
set_option maxRecDepth 65536 in
theorem w_heap : heapFits about1 = true := by decide +kernel
set_option maxRecDepth 65536 in
theorem w_runnable : about1.curStatus? = some .runnable := by decide +kernel
set_option maxRecDepth 65536 in
theorem w_alone : about1.alone = true := by decide +kernel
set_option maxRecDepth 65536 in
theorem w_named : about1.methodNamed? x = some theMethod := by decide +kernel
set_option maxRecDepth 65536 in
theorem w_hears : about1.hears theMethod below0 = true := by decide +kernel
set_option maxRecDepth 65536 in
theorem w_ripe : about1.ripe theMethod args0 below0 = true := by decide +kernel
theorem w_running : about1.status = .running := rfl
set_option maxRecDepth 65536 in
theorem w_room : about1.hasRoom e0.platform room_1 = true :=
  launch0.hasRoom_least _ room_1 (by decide +kernel) (by decide +kernel) (by decide +kernel) (by decide +kernel) (by decide +kernel) (by decide +kernel)
theorem allAtoms_all (ts : List Jvm.Cond) (a : Array Jvm.Value) (st : Jvm.State) : (allAtoms ts).before a st = ts.all (fun c => c.before a st) := by
  induction ts with
  | nil => rfl
  | cons c t ih =>
    show (Jvm.Cond.and c (allAtoms t)).before a st = _
    rw [Jvm.Cond.before_and, ih, List.all_cons]
def words1 : List Jvm.Cond := Jvm.Cond.code x code maxLocals ret :: tables_1
/-- a 'code' word, met by the world's own term for the bytes: nothing is compared byte by byte -/
theorem code_word {y : MethodName} {bytes : ByteArray} {mx : Nat} {rt : Option FieldType} {a : Array Value} {s : State} {m : MethodId} {meth : Method} {c : Code} (h1 : s.methodNamed? y = some m) (h2 : s.vm.method? m = some meth) (h3 : meth.code = some c) (h4 : c.code = bytes)
    (h5 : (c.maxLocals == mx && c.exceptionTable.isEmpty && decide (c.maxStack ≤ mostOperands) && decide (meth.sig.returnType = rt) && !meth.locks && decide (parseMethodDescriptor y.desc = some meth.sig)) = true) : (Jvm.Cond.code y bytes mx rt).before a s = true := by
  simp only [Bool.and_eq_true, beq_iff_eq, Bool.not_eq_true', decide_eq_true_eq] at h5
  obtain ⟨⟨⟨⟨⟨g1, g2⟩, g3⟩, g4⟩, g5⟩, g6⟩ := h5
  simp [Cond.before, Cond.holds, Cond.value, h1, h2, h3, h4, g1, g2, g3, g4, g5, g6]
def isCode : Jvm.Cond → Bool
  | .code _ _ _ _ => true
  | _ => false
theorem all_split {L : List Jvm.Cond} {P : Jvm.Cond → Bool} (h1 : L.all (fun c => isCode c || P c) = true) (h2 : ∀ c ∈ L.filter isCode, P c = true) : L.all P = true := by
  refine List.all_eq_true.mpr fun c hc => ?_
  have h := List.all_eq_true.mp h1 c hc
  rcases Bool.eq_false_or_eq_true (isCode c) with hi | hi
  · exact h2 c (List.mem_filter.mpr ⟨hc, hi⟩)
  · simpa [hi] using h
set_option maxRecDepth 65536 in
theorem w_c0 : (Jvm.Cond.code x code maxLocals ret).before args0 about1 = true := code_word (m := ⟨1, 2⟩) (meth := k1m2) (c := k1c2) (by decide +kernel) rfl rfl rfl (by decide +kernel)
set_option maxRecDepth 65536 in
theorem w_c1 : (Jvm.Cond.code ({ cls := "com/example/shapewell/shapewell/OutcomeNotPinLaw", name := "pick", desc := "(I)Lcom/example/shapewell/shapewell/Outcome;" } : Jvm.MethodName) method_2_code (1 : Nat) (Option.some (Jvm.ClassFile.FieldType.object "com/example/shapewell/shapewell/Outcome"))).before args0 about1 = true := code_word (m := ⟨1, 1⟩) (meth := k1m1) (c := k1c1) (by decide +kernel) rfl rfl rfl (by decide +kernel)
set_option maxRecDepth 65536 in
theorem w_c2 : (Jvm.Cond.code ({ cls := "com/example/shapewell/shapewell/Outcome", name := "not", desc := "()Lcom/example/shapewell/shapewell/Outcome;" } : Jvm.MethodName) prog_3_method_6_code (1 : Nat) (Option.some (Jvm.ClassFile.FieldType.object "com/example/shapewell/shapewell/Outcome"))).before args0 about1 = true := code_word (m := ⟨6, 0⟩) (meth := k6m0) (c := k6c0) (by decide +kernel) rfl rfl rfl (by decide +kernel)
set_option maxRecDepth 65536 in
theorem w_c3 : (Jvm.Cond.code ({ cls := "java/lang/Enum", name := "ordinal", desc := "()I" } : Jvm.MethodName) jdk_37_method_2_code (1 : Nat) (Option.some Jvm.ClassFile.FieldType.int)).before args0 about1 = true := code_word (m := ⟨5, 0⟩) (meth := k5m0) (c := k5c0) (by decide +kernel) rfl rfl rfl (by decide +kernel)
def codes1 : List Jvm.Cond := [Jvm.Cond.code x code maxLocals ret, Jvm.Cond.code ({ cls := "com/example/shapewell/shapewell/OutcomeNotPinLaw", name := "pick", desc := "(I)Lcom/example/shapewell/shapewell/Outcome;" } : Jvm.MethodName) method_2_code (1 : Nat) (Option.some (Jvm.ClassFile.FieldType.object "com/example/shapewell/shapewell/Outcome")), Jvm.Cond.code ({ cls := "com/example/shapewell/shapewell/Outcome", name := "not", desc := "()Lcom/example/shapewell/shapewell/Outcome;" } : Jvm.MethodName) prog_3_method_6_code (1 : Nat) (Option.some (Jvm.ClassFile.FieldType.object "com/example/shapewell/shapewell/Outcome")), Jvm.Cond.code ({ cls := "java/lang/Enum", name := "ordinal", desc := "()I" } : Jvm.MethodName) jdk_37_method_2_code (1 : Nat) (Option.some Jvm.ClassFile.FieldType.int)]
set_option maxRecDepth 65536 in
theorem codes_eq : words1.filter isCode = codes1 := rfl
theorem w_codes : ∀ c ∈ words1.filter isCode, c.before args0 about1 = true := by
  rw [codes_eq]
  intro c hc
  simp only [codes1, List.mem_cons, List.not_mem_nil, or_false] at hc
  rcases hc with rfl | rfl | rfl | rfl
  · exact w_c0
  · exact w_c1
  · exact w_c2
  · exact w_c3
set_option maxRecDepth 65536 in
theorem w_t1 : (words1.take 24).all (fun c => isCode c || c.before args0 about1) = true := by decide +kernel
set_option maxRecDepth 65536 in
theorem w_t2 : (words1.drop 24).all (fun c => isCode c || c.before args0 about1) = true := by decide +kernel
theorem w_tables : (allAtoms (Jvm.Cond.code x code maxLocals ret :: tables_1)).before args0 about1 = true := by
  rw [allAtoms_all]
  show words1.all (fun c => c.before args0 about1) = true
  refine all_split ?_ w_codes
  rw [← List.take_append_drop 24 words1, List.all_append, w_t1, w_t2]
  rfl
set_option maxRecDepth 65536 in
theorem w_case : (Jvm.Cond.and given_1 narrow_1).before args0 about1 = true := by decide +kernel
theorem w_applies : (headSpec (Jvm.Cond.code x code maxLocals ret :: tables_1) room_1).applies x e0.platform about1 = true :=
  (Spec.applies_iff w_frames).mpr ⟨w_running, w_runnable, w_alone, w_named, w_hears, w_ripe, w_room, w_tables⟩
theorem atStart : AtStart classFile x code maxLocals ret World_1 tables_1 room_1 Calls_1 rest_1 Pre_1 launch0 p0 e0 about1 theMethod args0 below0 :=
  ⟨lists_1, trivial, launch0.admits_env _ _ _, launch0.least_env, fairChoices_fair.cas, fairChoices_fair.clock, w_frames, w_args, w_heap, w_applies, trivial, trivial, w_case⟩
end start1
theorem witness_1 : WitnessClaimed_1 := ⟨start1.p0, start1.e0, start1.about1, start1.theMethod, start1.args0, start1.below0, start1.atStart⟩
end Jvm.Pilot.@@N@@
