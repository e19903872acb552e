import JvmDerived
import JvmDerived.Pilot.@@N@@Statement
import JvmDerived.Pilot.@@N@@Code
set_option linter.unusedVariables false
set_option linter.unusedSimpArgs false
@@BLOCK:NumsL.lean.txt@@
namespace Jvm.RoadKit
open Sem ClassFile Op Lib Jvm.Stand Jvm.Free Jvm.LawKit
section New
variable {p : Program} {l : Launch} {e : Env} {R : Room} {s : State} {m : MethodId} {args : Array Value} {below : List Frame} {meth : Method} {c : Code} {T : State} {locs : List Loc} {cells slots : Nat}
theorem retI (X : Stand p l e R s m args below meth c T locs cells slots) (hx : p.tables.exec = Jvm.exec) {pc : Nat} {Ls : Array Slot} {z : Int32} {rest : List Value} (hret : meth.sig.returnType = some .int) (hd : decode c.code pc = .ok (.ireturn, 1)) {fs : List Frame}
    (hl : ∀ (f : JFrame) (acts : List Action), f.method = m → f.locked = none → f.entered = [] → (doReturn e (T.setTop f) acts (some (.int z))).1 = T.setFrames fs) : Steps p.tables e below (T.setTop (mkF m pc Ls (.int z :: rest))) (T.setFrames fs) := by
  have hm' : T.vm.method? m = some meth := X.method'
  have hn : narrow .int (.int z) = .int z := rfl
  show Steps p.tables e below (T.setTop { method := m, pc := pc, locals := Ls, stack := _ :: rest, locked := none }) _
  jvm_step X.here [X.here.top, hx, hd, hm', hret, hn]
  first | (intro acts; rw [hl _ acts rfl rfl rfl]) | rw [hl _ _ rfl rfl rfl]
  exact Steps.refl _
theorem own_retA (X : Stand p l e R s m args below meth c T locs cells slots) (hx : p.tables.exec = Jvm.exec) {pc : Nat} {Ls : Array Slot} {t : FieldType} {w : Value} {rest : List Value} (hret : meth.sig.returnType = some t) (ht : t.isReference = true) (hw : w.isRef = true) (hd : decode c.code pc = .ok (.areturn, 1)) {fs : List Frame}
    (hl : ∀ (f : JFrame) (acts : List Action), f.method = m → f.locked = none → f.entered = [] → (doReturn e (T.setTop f) acts (some w)).1 = T.setFrames fs) : Steps p.tables e below (T.setTop (mkF m pc Ls (w :: rest))) (T.setFrames fs) :=
  retOut X hx hret (by cases t <;> simp_all [narrow, FieldType.isReference]) (Or.inr (Or.inr (Or.inr (Or.inr ⟨rfl, ht, hw⟩)))) hd hl
end New
end Jvm.RoadKit
namespace Jvm.Pilot.@@N@@
open Jvm Jvm.ClassFile Sem Op Lib Jvm.Free Jvm.Stand Jvm.LawKit Jvm.RoadKit Bundle Jvm.Pilot.@@N@@.Jvm.D
abbrev own_jv (x : Int64) : Slot := .val (.long x)
/-- a callee that leaves the heap as it was and returns r -/
def own_QP (r : Option Value) (h0 : Heap) (n0 : Nat) (v : Option Value) (h : Heap) (L : List Loc) : Prop := v = r ∧ Fr n0 L ∧ h = h0
def own_QL (n0 : Nat) (v : Option Value) (h : Heap) (L : List Loc) : Prop := v = some (.int 1) ∧ Fr n0 L
theorem own_eqv {args : Array Value} {first s : State} {o : Option Outcome} {idx : List Nat} {a b : Term} {x : Value} (h : (Cond.eq a b).value args first o s idx = some true) (hb : b.eval args first o idx s = some x) (hx : x.isRef = true ∨ ∃ n, x = .int n) : a.eval args first o idx s = some x := by
  cases ha : a.eval args first o idx s with
  | none => simp [Cond.value, ha, hb] at h
  | some y =>
    rcases hx with hx | ⟨n, rfl⟩
    · rcases ref_cases hx with rfl | ⟨z, rfl⟩ <;> cases y <;> simp_all [Cond.value]
    · cases y <;> simp_all [Cond.value]
theorem own_len {Z : State} {args : Array Value} {t : Term} {a : Addr} {cl : Cell} {ty : FieldType} {n : Int32} (ev : t.eval args Z none [] Z = some (.ref a)) (A : Arr Z Z.heap a cl ty) (h : (Term.length t).eval args Z none [] Z = some (.int n)) : cl.slots.size < 2 ^ 31 ∧ cl.slots.size.toInt32 = n := by
  have hA : Z.arrayAt? a = some cl := Arr.fin (U := Z) (Vm.Alike.refl _) A
  by_cases q : cl.slots.size < 2 ^ 31
  · rw [len_f ev hA q] at h
    exact ⟨q, Value.int.inj (Option.some.inj h)⟩
  · simp [Term.eval, ev, hA, q] at h
theorem own_nei {a b : Int32} (h : a ≠ b) : (Value.int a) ≠ (Value.int b) := fun q => h (Value.int.inj q)
theorem own_Sta_keep {Z : State} {h h' : Heap} {C n d : String} {v : Value} {ws : List Addr} (F : Sta Z h C n d v) (K : Keep h h' ws) (q : ∀ a ∈ ws, ∀ c : Cell, h[a]? = some c → c.vm.isStatics = false) : Sta Z h' C n d v := by
  obtain ⟨cf, i, k, f, st, cell, h1, h2, h3, h4, h5, h6, h7⟩ := F
  exact ⟨cf, i, k, f, st, cell, h1, h2, h3, h4, K.2.1 st cell h5 (fun z => by rw [q st z cell h5] at h6; cases h6), h6, h7⟩
theorem own_st0 {h : Heap} : ∀ a ∈ ([] : List Addr), ∀ c : Cell, h[a]? = some c → c.vm.isStatics = false := fun _ q => nomatch q
theorem own_stS {Z : State} {h : Heap} {b : Addr} {C : String} {L : List Addr} (E : Exa Z h b C) (q : ∀ a ∈ L, ∀ c : Cell, h[a]? = some c → c.vm.isStatics = false) : ∀ a ∈ b :: L, ∀ c : Cell, h[a]? = some c → c.vm.isStatics = false := fun a z c hc => by
  rcases List.mem_cons.mp z with rfl | z
  · obtain ⟨cell, _, h1, _, _, h4, _⟩ := E
    cases h1.symm.trans hc; exact h4
  · exact q a z c hc
/-- the Class object of C has been made: it is mr -/
def own_Mir (Z : State) (C : String) (mr : Addr) : Prop := ∃ (c : ClassId) (k : Class), Z.vm.findClass C = some c ∧ Z.vm.classes[c]? = some k ∧ k.mirror = some mr
theorem own_gcls {p : Program} {l : Launch} {e : Env} {R : Room} {s : State} {m : MethodId} {args : Array Value} {below : List Frame} {meth : Method} {c : Code} {T : State} {locs : List Loc} {cells slots : Nat} {Z : State} {h : Heap} {a : Addr} {C : String}
    (X : Stand p l e R s m args below meth c T locs cells slots) (hx : p.tables.exec = Jvm.exec) (hZ : Z.Warmed39 s.vm) {a0 : Array Value} {own : String} {index : Nat} (hown : s.vm.findClass own = some m.cls)
    (w1 : (Cond.methodLink own index ⟨"java/lang/Object", "getClass", "()Ljava/lang/Class;"⟩).before a0 Z = true) (w2 : (Cond.declares ⟨"java/lang/Object", "getClass", "()Ljava/lang/Class;"⟩).before a0 Z = true) (w4 : (Cond.selects C ⟨"java/lang/Object", "getClass", "()Ljava/lang/Class;"⟩ ⟨"java/lang/Object", "getClass", "()Ljava/lang/Class;"⟩).before a0 Z = true)
    (w5 : (Cond.instanceMethod ⟨"java/lang/Object", "getClass", "()Ljava/lang/Class;"⟩).before a0 Z = true) (w6 : (Cond.native ⟨"java/lang/Object", "getClass", "()Ljava/lang/Class;"⟩).before a0 Z = true) (eT : T.heap = h) (E : Exa Z h a C) {mr : Addr} (M : own_Mir Z C mr)
    {g : JFrame} (hg : g.method = m) (hsize : g.locals.size = c.maxLocals) {rest : List Value} (hs : g.stack = .ref a :: rest) (hd : decode c.code g.pc = .ok (.invokevirtual index, 3)) (hf : 1 ≤ R.frames) {W : Nat} (hW : 2 * g.monitorRoom + (rest.map fun v => v.category).sum ≤ W) (hl : W + 14 ≤ R.locals) :
    ∃ T', Stand p l e R s m args below meth c T' locs cells slots ∧ T'.heap = h ∧ ∀ target, Steps p.tables e below (T'.setTop { g with pc := g.pc + 3, stack := .ref mr :: rest }) target → Steps p.tables e below (T.setTop g) target := by
  obtain ⟨cB, kB, i1, i2, i3⟩ := isOf hZ eT E
  obtain ⟨cc, kc, m1, m2, m3⟩ := M
  have i1' := i1
  rw [hZ.alike.findClass] at i1'
  cases m1.symm.trans i1'
  obtain ⟨k', q1, q2⟩ := hZ.alike.2.2 _ _ m2
  obtain ⟨vm', X', st⟩ := X.getClassOf hx hown (mvT hZ w1) (mvT hZ w2) (notFace_of_selects (args := #[]) (mvT hZ w4)) (mvT hZ w4) (mvT hZ w5) (mvT hZ w6) i1 i3 q1 (by rw [q2]; exact m3) hg hsize hs hd hf (by rw [show nativeFrameWords "java/lang/Object" "getClass" 1 = 3 from by decide]; omega)
  exact ⟨_, X', eT, st⟩
theorem own_s0 (p : Int32) : (p &&& (1 : Int32)) = (0 : Int32) ∨ (p &&& (1 : Int32)) = (1 : Int32) := by
  have e := Jvm.Kit.i32_mask p 1 (k := 1) (by decide) (by decide)
  have h : (p &&& (1 : Int32)).toInt = 0 ∨ (p &&& (1 : Int32)).toInt = 1 := by omega
  rcases h with h | h
  · exact Or.inl (Int32.toInt_inj.mp (h.trans (by decide)))
  · exact Or.inr ((Int32.toInt_inj.mp (h.trans (by decide))))
theorem d1_0 : decode prog_3_method_4_code 0 = .ok (.iload_n 0, 1) := by decide +kernel
theorem d1_1 : decode prog_3_method_4_code 1 = .ok (.ifCond .eq 9, 3) := by decide +kernel
theorem d1_4 : decode prog_3_method_4_code 4 = .ok (.getstatic 10, 3) := by decide +kernel
theorem d1_7 : decode prog_3_method_4_code 7 = .ok (.goto 6, 3) := by decide +kernel
theorem d1_10 : decode prog_3_method_4_code 10 = .ok (.getstatic 3, 3) := by decide +kernel
theorem d1_13 : decode prog_3_method_4_code 13 = .ok (.areturn, 1) := by decide +kernel
theorem d2_0 : decode prog_3_method_6_code 0 = .ok (.aload_n 0, 1) := by decide +kernel
theorem d2_1 : decode prog_3_method_6_code 1 = .ok (.invokevirtual 36, 3) := by decide +kernel
theorem d2_4 : decode prog_3_method_6_code 4 = .ok (.tableswitch 28 0 2 #[38, 44, 50], 28) := by decide +kernel
theorem d2_42 : decode prog_3_method_6_code 42 = .ok (.getstatic 10, 3) := by decide +kernel
theorem d2_45 : decode prog_3_method_6_code 45 = .ok (.goto 12, 3) := by decide +kernel
theorem d2_54 : decode prog_3_method_6_code 54 = .ok (.getstatic 3, 3) := by decide +kernel
theorem d2_57 : decode prog_3_method_6_code 57 = .ok (.areturn, 1) := by decide +kernel
theorem d3_0 : decode jdk_37_method_2_code 0 = .ok (.aload_n 0, 1) := by decide +kernel
theorem d3_1 : decode jdk_37_method_2_code 1 = .ok (.getfield 7, 3) := by decide +kernel
theorem d3_4 : decode jdk_37_method_2_code 4 = .ok (.ireturn, 1) := by decide +kernel
theorem d4_0 : decode prog_3_method_5_code 0 = .ok (.aload_n 0, 1) := by decide +kernel
theorem d4_1 : decode prog_3_method_5_code 1 = .ok (.aload_n 1, 1) := by decide +kernel
theorem d4_2 : decode prog_3_method_5_code 2 = .ok (.invokevirtual 32, 3) := by decide +kernel
theorem d4_5 : decode prog_3_method_5_code 5 = .ok (.ifCond .gt 7, 3) := by decide +kernel
theorem d4_8 : decode prog_3_method_5_code 8 = .ok (.aload_n 0, 1) := by decide +kernel
theorem d4_9 : decode prog_3_method_5_code 9 = .ok (.goto 4, 3) := by decide +kernel
theorem d4_12 : decode prog_3_method_5_code 12 = .ok (.aload_n 1, 1) := by decide +kernel
theorem d4_13 : decode prog_3_method_5_code 13 = .ok (.areturn, 1) := by decide +kernel
theorem d5_0 : decode jdk_37_method_8_code 0 = .ok (.aload_n 1, 1) := by decide +kernel
theorem d5_1 : decode jdk_37_method_8_code 1 = .ok (.astore_n 2, 1) := by decide +kernel
theorem d5_2 : decode jdk_37_method_8_code 2 = .ok (.aload_n 0, 1) := by decide +kernel
theorem d5_3 : decode jdk_37_method_8_code 3 = .ok (.astore_n 3, 1) := by decide +kernel
theorem d5_4 : decode jdk_37_method_8_code 4 = .ok (.aload_n 3, 1) := by decide +kernel
theorem d5_5 : decode jdk_37_method_8_code 5 = .ok (.invokevirtual 29, 3) := by decide +kernel
theorem d5_8 : decode jdk_37_method_8_code 8 = .ok (.aload_n 2, 1) := by decide +kernel
theorem d5_9 : decode jdk_37_method_8_code 9 = .ok (.invokevirtual 29, 3) := by decide +kernel
theorem d5_12 : decode jdk_37_method_8_code 12 = .ok (.if_acmp .eq 22, 3) := by decide +kernel
theorem d5_34 : decode jdk_37_method_8_code 34 = .ok (.aload_n 3, 1) := by decide +kernel
theorem d5_35 : decode jdk_37_method_8_code 35 = .ok (.getfield 7, 3) := by decide +kernel
theorem d5_38 : decode jdk_37_method_8_code 38 = .ok (.aload_n 2, 1) := by decide +kernel
theorem d5_39 : decode jdk_37_method_8_code 39 = .ok (.getfield 7, 3) := by decide +kernel
theorem d5_42 : decode jdk_37_method_8_code 42 = .ok (.isub, 1) := by decide +kernel
theorem d5_43 : decode jdk_37_method_8_code 43 = .ok (.ireturn, 1) := by decide +kernel
theorem pn_0 : plainName "com/example/shapewell/shapewell/Outcome" = true := by first | (simp [plainName, overriddenIn]; done) | decide +kernel
theorem pn_1 : plainName "java/lang/Enum" = true := by first | (simp [plainName, overriddenIn]; done) | decide +kernel
theorem pn_2 : plainName "com/example/shapewell/shapewell/OutcomeOfPinLaw" = true := by first | (simp [plainName, overriddenIn]; done) | decide +kernel
theorem pd_0 : parseMethodDescriptor "(Z)Lcom/example/shapewell/shapewell/Outcome;" = some ⟨[.boolean], some (.object "com/example/shapewell/shapewell/Outcome")⟩ := by decide +kernel
theorem pd_1 : parseMethodDescriptor "()I" = some ⟨[], some .int⟩ := by decide +kernel
theorem pd_2 : parseMethodDescriptor "()Lcom/example/shapewell/shapewell/Outcome;" = some ⟨[], some (.object "com/example/shapewell/shapewell/Outcome")⟩ := by decide +kernel
theorem pd_3 : parseMethodDescriptor "(Ljava/lang/Enum;)I" = some ⟨[(.object "java/lang/Enum")], some .int⟩ := by decide +kernel
theorem pd_4 : parseMethodDescriptor "(Lcom/example/shapewell/shapewell/Outcome;)Lcom/example/shapewell/shapewell/Outcome;" = some ⟨[(.object "com/example/shapewell/shapewell/Outcome")], some (.object "com/example/shapewell/shapewell/Outcome")⟩ := by decide +kernel
theorem ef_1_I (m : MethodId) (x0 : Int32) : entryFrame m #[(.int x0)] 1 = mkF m 0 #[iv x0] [] := by first | (simp [entryFrame, mkF, argsToLocals, Value.category]; done) | rfl
theorem ef_3_R (m : MethodId) (x0 : Addr) : entryFrame m #[(.ref x0)] 1 = mkF m 0 #[rv x0] [] := by first | (simp [entryFrame, mkF, argsToLocals, Value.category]; done) | rfl
theorem ef_2_R (m : MethodId) (x0 : Addr) : entryFrame m #[(.ref x0)] 1 = mkF m 0 #[rv x0] [] := by first | (simp [entryFrame, mkF, argsToLocals, Value.category]; done) | rfl
theorem ef_5_RR (m : MethodId) (x0 : Addr) (x1 : Addr) : entryFrame m #[(.ref x0), (.ref x1)] 4 = mkF m 0 #[rv x0, rv x1, .unset, .unset] [] := by first | (simp [entryFrame, mkF, argsToLocals, Value.category]; done) | rfl
theorem ef_4_RR (m : MethodId) (x0 : Addr) (x1 : Addr) : entryFrame m #[(.ref x0), (.ref x1)] 2 = mkF m 0 #[rv x0, rv x1] [] := by first | (simp [entryFrame, mkF, argsToLocals, Value.category]; done) | rfl
theorem ef_0_II (m : MethodId) (x0 : Int32) (x1 : Int32) : entryFrame m #[(.int x0), (.int x1)] maxLocals = mkF m 0 #[iv x0, iv x1, .unset, .unset, .unset, .unset, .unset, .unset, .unset, .unset] [] := by first | (simp [entryFrame, mkF, argsToLocals, Value.category, maxLocals]; done) | rfl
set_option maxRecDepth 65536 in
set_option maxHeartbeats 40000000 in
theorem rm1_0 (l : Launch) (Z : State) (a0 : Array Value) (hw : ∀ d ∈ tables_1, d.before a0 Z = true) (ws : List Jvm.Cond) (w_Outcome_VIOLATES : Addr) (h0 : Heap) (n0 : Nat) (Z0 : n0 ≤ h0.size) (S_Outcome_VIOLATES : Sta Z h0 "com/example/shapewell/shapewell/Outcome" "VIOLATES" "Lcom/example/shapewell/shapewell/Outcome;" (.ref w_Outcome_VIOLATES)) :
    MetFree l (⟨"com/example/shapewell/shapewell/Outcome", "of", "(Z)Lcom/example/shapewell/shapewell/Outcome;"⟩ : MethodName) (head1 (Jvm.Cond.code (⟨"com/example/shapewell/shapewell/Outcome", "of", "(Z)Lcom/example/shapewell/shapewell/Outcome;"⟩ : MethodName) prog_3_method_4_code 1 (some (.object "com/example/shapewell/shapewell/Outcome")) :: ws) ({ frames := 0, cells := 0, slots := 0, locals := 0 } : Room)) (fun a U => a = #[(.int (0 : Int32))] ∧ Z.Warmed39 U.vm ∧ U.heap = h0) (fun _ _ _ _ _ => True) (fun _ U o U' => ∃ v L, o = .returned v ∧ own_QP (some (.ref w_Outcome_VIOLATES)) h0 n0 v U'.heap L ∧ FrameEnd U o U' L ({ frames := 0, cells := 0, slots := 0, locals := 0 } : Room).cells ({ frames := 0, cells := 0, slots := 0, locals := 0 } : Room).slots) := by
  refine MetFree.of_bodySF (plainFor_of_name pn_0) hisR ?_
  intro p e s m args below meth c s₁ Bd hml0 hP hK
  obtain ⟨rfl, hZ, hh⟩ := hP
  have hx := Bd.exec
  have hby := Bd.bytes
  have hml : c.maxLocals = 1 := hml0
  have hown : s.vm.findClass "com/example/shapewell/shapewell/Outcome" = some m.cls := findClass_of_methodNamed Bd.named
  have hnm := (name_of_methodNamed Bd.named Bd.method).1
  have X0 : Stand p l e ({ frames := 0, cells := 0, slots := 0, locals := 0 } : Room) s m #[(.int (0 : Int32))] below meth c s₁ [] 0 0 := Stand.of_body Bd
  have e0 : s₁.heap = h0 := by rw [← hh, Bd.state]; rfl
  have N0 := Fr.nil n0
  have pre0 : ∀ t, Steps p.tables e below (s₁.setTop (mkF m 0 #[iv (0 : Int32)] [])) t → Steps p.tables e below (s₁.setTop (entryFrame m #[(.int (0 : Int32))] 1)) t := fun t k => castTop (ef_1_I m (0 : Int32)) k
  obtain ⟨T1, X1, e1, st1⟩ := getS2 X0 hx hZ hown (host := "") (Or.inl (hw _ (List.mem_of_getElem? (i := 4) rfl))) Via.refl e0 S_Outcome_VIOLATES (g := (mkF m 10 #[iv (0 : Int32)] [])) rfl (hb hby d1_10)
  obtain ⟨fs, hr, hrun, hended, hW, hsame⟩ := X1.leave (v := (some (.ref w_Outcome_VIOLATES))) (fun h => by rw [Bd.returns] at h; cases h)
  refine ⟨_, _, pre0 _ ?_, hrun, hended, _, _, rfl, ?_, ⟨_, rfl⟩, hW, hsame.mono (by decide) (by decide)⟩
  · show Steps p.tables e below (s₁.setTop (mkF m 0 #[iv (0 : Int32)] [])) _
    refine XS.iloadN X0.here hx rfl (hb hby d1_0) rfl ?_
    show Steps p.tables e below (s₁.setTop (mkF m 1 #[iv (0 : Int32)] [(.int (0 : Int32))])) _
    refine XS.ifYes X0.here hx rfl (pc0 := 1) (pc' := 10) rfl (hb hby d1_1) rfl ((if0 _ _).trans (teq (by decide +kernel : (0 : Int32) = (0 : Int32))).1) (by decide) (by decide) ?_
    show Steps p.tables e below (s₁.setTop (mkF m 10 #[iv (0 : Int32)] [])) _
    refine st1 _ ?_
    show Steps p.tables e below (T1.setTop (mkF m 13 #[iv (0 : Int32)] [(.ref w_Outcome_VIOLATES)])) _
    exact own_retA X1 hx Bd.returns rfl rfl (hb hby d1_13) hr
  · exact ⟨rfl, N0, e1⟩
set_option maxRecDepth 65536 in
set_option maxHeartbeats 40000000 in
theorem rm3_1 (l : Launch) (Z : State) (a0 : Array Value) (hw : ∀ d ∈ tables_1, d.before a0 Z = true) (ws : List Jvm.Cond) (w_Outcome_VIOLATES : Addr) (h0 : Heap) (n0 : Nat) (Z0 : n0 ≤ h0.size) (F_w_Outcome_VIOLATES_ordinal : Fld Z h0 w_Outcome_VIOLATES "java/lang/Enum" "ordinal" "I" (.int (0 : Int32))) :
    MetFree l (⟨"java/lang/Enum", "ordinal", "()I"⟩ : MethodName) (head1 (Jvm.Cond.code (⟨"java/lang/Enum", "ordinal", "()I"⟩ : MethodName) jdk_37_method_2_code 1 (some .int) :: ws) ({ frames := 0, cells := 0, slots := 0, locals := 0 } : Room)) (fun a U => a = #[(.ref w_Outcome_VIOLATES)] ∧ Z.Warmed39 U.vm ∧ U.heap = h0) (fun _ _ _ _ _ => True) (fun _ U o U' => ∃ v L, o = .returned v ∧ own_QP (some (.int (0 : Int32))) h0 n0 v U'.heap L ∧ FrameEnd U o U' L ({ frames := 0, cells := 0, slots := 0, locals := 0 } : Room).cells ({ frames := 0, cells := 0, slots := 0, locals := 0 } : Room).slots) := by
  refine MetFree.of_bodySF (plainFor_of_name pn_1) hisR ?_
  intro p e s m args below meth c s₁ Bd hml0 hP hK
  obtain ⟨rfl, hZ, hh⟩ := hP
  have hx := Bd.exec
  have hby := Bd.bytes
  have hml : c.maxLocals = 1 := hml0
  have hown : s.vm.findClass "java/lang/Enum" = some m.cls := findClass_of_methodNamed Bd.named
  have hnm := (name_of_methodNamed Bd.named Bd.method).1
  have X0 : Stand p l e ({ frames := 0, cells := 0, slots := 0, locals := 0 } : Room) s m #[(.ref w_Outcome_VIOLATES)] below meth c s₁ [] 0 0 := Stand.of_body Bd
  have e0 : s₁.heap = h0 := by rw [← hh, Bd.state]; rfl
  have N0 := Fr.nil n0
  have pre0 : ∀ t, Steps p.tables e below (s₁.setTop (mkF m 0 #[rv w_Outcome_VIOLATES] [])) t → Steps p.tables e below (s₁.setTop (entryFrame m #[(.ref w_Outcome_VIOLATES)] 1)) t := fun t k => castTop (ef_3_R m w_Outcome_VIOLATES) k
  obtain ⟨T1, X1, e1, st1⟩ := getF X0 hx hZ hown (host := "") (Or.inl (hw _ (List.mem_of_getElem? (i := 24) rfl))) Via.refl e0 F_w_Outcome_VIOLATES_ordinal (g := (mkF m 1 #[rv w_Outcome_VIOLATES] [(.ref w_Outcome_VIOLATES)])) rfl rfl (hb hby d3_1)
  obtain ⟨fs, hr, hrun, hended, hW, hsame⟩ := X1.leave (v := (some (.int (0 : Int32)))) (fun h => by rw [Bd.returns] at h; cases h)
  refine ⟨_, _, pre0 _ ?_, hrun, hended, _, _, rfl, ?_, ⟨_, rfl⟩, hW, hsame.mono (by decide) (by decide)⟩
  · show Steps p.tables e below (s₁.setTop (mkF m 0 #[rv w_Outcome_VIOLATES] [])) _
    refine XS.aloadN X0.here hx rfl (hb hby d3_0) rfl rfl ?_
    show Steps p.tables e below (s₁.setTop (mkF m 1 #[rv w_Outcome_VIOLATES] [(.ref w_Outcome_VIOLATES)])) _
    refine st1 _ ?_
    show Steps p.tables e below (T1.setTop (mkF m 4 #[rv w_Outcome_VIOLATES] [(.int (0 : Int32))])) _
    exact retI X1 hx Bd.returns (hb hby d3_4) hr
  · exact ⟨rfl, N0, e1⟩
set_option maxRecDepth 65536 in
set_option maxHeartbeats 40000000 in
theorem rm2_1 (l : Launch) (Z : State) (a0 : Array Value) (hw : ∀ d ∈ tables_1, d.before a0 Z = true) (ws : List Jvm.Cond) (w_Outcome_VIOLATES : Addr) (w_Outcome_CONFORMS : Addr) (h0 : Heap) (n0 : Nat) (Z0 : n0 ≤ h0.size) (F_w_Outcome_VIOLATES_ordinal : Fld Z h0 w_Outcome_VIOLATES "java/lang/Enum" "ordinal" "I" (.int (0 : Int32))) (E_w_Outcome_VIOLATES : Exa Z h0 w_Outcome_VIOLATES "com/example/shapewell/shapewell/Outcome") (S_Outcome_CONFORMS : Sta Z h0 "com/example/shapewell/shapewell/Outcome" "CONFORMS" "Lcom/example/shapewell/shapewell/Outcome;" (.ref w_Outcome_CONFORMS)) :
    MetFree l (⟨"com/example/shapewell/shapewell/Outcome", "not", "()Lcom/example/shapewell/shapewell/Outcome;"⟩ : MethodName) (head1 (Jvm.Cond.code (⟨"com/example/shapewell/shapewell/Outcome", "not", "()Lcom/example/shapewell/shapewell/Outcome;"⟩ : MethodName) prog_3_method_6_code 1 (some (.object "com/example/shapewell/shapewell/Outcome")) :: ws) ({ frames := 1, cells := 0, slots := 0, locals := 12 } : Room)) (fun a U => a = #[(.ref w_Outcome_VIOLATES)] ∧ Z.Warmed39 U.vm ∧ U.heap = h0) (fun _ _ _ _ _ => True) (fun _ U o U' => ∃ v L, o = .returned v ∧ own_QP (some (.ref w_Outcome_CONFORMS)) h0 n0 v U'.heap L ∧ FrameEnd U o U' L ({ frames := 1, cells := 0, slots := 0, locals := 12 } : Room).cells ({ frames := 1, cells := 0, slots := 0, locals := 12 } : Room).slots) := by
  refine MetFree.of_bodySF (plainFor_of_name pn_0) hisR ?_
  intro p e s m args below meth c s₁ Bd hml0 hP hK
  obtain ⟨rfl, hZ, hh⟩ := hP
  have hx := Bd.exec
  have hby := Bd.bytes
  have hml : c.maxLocals = 1 := hml0
  have hown : s.vm.findClass "com/example/shapewell/shapewell/Outcome" = some m.cls := findClass_of_methodNamed Bd.named
  have hnm := (name_of_methodNamed Bd.named Bd.method).1
  have X0 : Stand p l e ({ frames := 1, cells := 0, slots := 0, locals := 12 } : Room) s m #[(.ref w_Outcome_VIOLATES)] below meth c s₁ [] 0 0 := Stand.of_body Bd
  have e0 : s₁.heap = h0 := by rw [← hh, Bd.state]; rfl
  have N0 := Fr.nil n0
  have pre0 : ∀ t, Steps p.tables e below (s₁.setTop (mkF m 0 #[rv w_Outcome_VIOLATES] [])) t → Steps p.tables e below (s₁.setTop (entryFrame m #[(.ref w_Outcome_VIOLATES)] 1)) t := fun t k => castTop (ef_2_R m w_Outcome_VIOLATES) k
  obtain ⟨cq1, kq1, q1a, q1b, q1c⟩ := isOf hZ e0 E_w_Outcome_VIOLATES
  obtain ⟨_, _, ⟨T1, L1, k1, n1⟩, -, X1, ⟨Lc1, hQ1, l1, y1, z1⟩, st1⟩ := X0.virtualBackUp hx (x := (⟨"com/example/shapewell/shapewell/Outcome", "ordinal", "()I"⟩ : MethodName)) (y := (⟨"java/lang/Enum", "ordinal", "()I"⟩ : MethodName)) hown (mvT hZ (hw _ (List.mem_of_getElem? (i := 17) rfl))) (mvT hZ (hw _ (List.mem_of_getElem? (i := 18) rfl))) (mvT hZ (hw _ (List.mem_of_getElem? (i := 19) rfl))) (by decide) (mvT hZ (hw _ (List.mem_of_getElem? (i := 21) rfl))) (mvT hZ (hw _ (List.mem_of_getElem? (i := 20) rfl))) (backOf (W := 0) (rm3_1 l Z a0 hw [] w_Outcome_VIOLATES h0 n0 Z0 F_w_Outcome_VIOLATES_ordinal) hZ (hw _ (List.mem_of_getElem? (i := 23) rfl)) (hw _ (List.mem_of_getElem? (i := 22) rfl)) (by decide) (by decide)) q1a q1c (g := (mkF m 1 #[rv w_Outcome_VIOLATES] [(.ref w_Outcome_VIOLATES)])) rfl (by rw [hml]; rfl) (Steps.refl _) (argsL := []) (rest := []) (lenOf pd_1 rfl) rfl (by show 2 * 0 + _ ≤ _; exact Nat.le_of_eq rfl) (hb hby d2_1) (fun _ _ => ⟨rfl, e0, (by decide : 0 + 0 ≤ _), (by decide : 0 + 0 ≤ _)⟩)
  dsimp only [Pt.U, Pt.locs, Pt.cells, Pt.slots] at X1 l1 y1 z1 st1 hQ1
  subst l1 y1 z1
  obtain ⟨rfl, N1q, e1⟩ := hQ1
  have N1 := Fr.app N0 N1q
  obtain ⟨T2, X2, e2, st2⟩ := getS2 X1 hx hZ hown (host := "") (Or.inl (hw _ (List.mem_of_getElem? (i := 6) rfl))) Via.refl e1 S_Outcome_CONFORMS (g := (mkF m 42 #[rv w_Outcome_VIOLATES] [])) rfl (hb hby d2_42)
  obtain ⟨fs, hr, hrun, hended, hW, hsame⟩ := X2.leave (v := (some (.ref w_Outcome_CONFORMS))) (fun h => by rw [Bd.returns] at h; cases h)
  refine ⟨_, _, pre0 _ ?_, hrun, hended, _, _, rfl, ?_, ⟨_, rfl⟩, hW, hsame.mono (by decide) (by decide)⟩
  · show Steps p.tables e below (s₁.setTop (mkF m 0 #[rv w_Outcome_VIOLATES] [])) _
    refine XS.aloadN X0.here hx rfl (hb hby d2_0) rfl rfl ?_
    show Steps p.tables e below (s₁.setTop (mkF m 1 #[rv w_Outcome_VIOLATES] [(.ref w_Outcome_VIOLATES)])) _
    refine st1.trans ?_
    show Steps p.tables e below (T1.setTop (mkF m 4 #[rv w_Outcome_VIOLATES] [(.int (0 : Int32))])) _
    refine XS.tswIn X1.here hx rfl (o := 38) (pc0 := 4) (pc' := 42) rfl (hb hby d2_4) rfl (by decide) (by decide) (by decide) (by decide) ?_
    show Steps p.tables e below (T1.setTop (mkF m 42 #[rv w_Outcome_VIOLATES] [])) _
    refine st2 _ ?_
    show Steps p.tables e below (T2.setTop (mkF m 45 #[rv w_Outcome_VIOLATES] [(.ref w_Outcome_CONFORMS)])) _
    refine XS.goto X2.here hx rfl (pc0 := 45) (pc' := 57) rfl (hb hby d2_45) (by decide) (by decide) ?_
    show Steps p.tables e below (T2.setTop (mkF m 57 #[rv w_Outcome_VIOLATES] [(.ref w_Outcome_CONFORMS)])) _
    exact own_retA X2 hx Bd.returns rfl rfl (hb hby d2_57) hr
  · exact ⟨rfl, N1, e2⟩
set_option maxRecDepth 65536 in
set_option maxHeartbeats 40000000 in
theorem rm1_3 (l : Launch) (Z : State) (a0 : Array Value) (hw : ∀ d ∈ tables_1, d.before a0 Z = true) (ws : List Jvm.Cond) (w_Outcome_CONFORMS : Addr) (h0 : Heap) (n0 : Nat) (Z0 : n0 ≤ h0.size) (S_Outcome_CONFORMS : Sta Z h0 "com/example/shapewell/shapewell/Outcome" "CONFORMS" "Lcom/example/shapewell/shapewell/Outcome;" (.ref w_Outcome_CONFORMS)) :
    MetFree l (⟨"com/example/shapewell/shapewell/Outcome", "of", "(Z)Lcom/example/shapewell/shapewell/Outcome;"⟩ : MethodName) (head1 (Jvm.Cond.code (⟨"com/example/shapewell/shapewell/Outcome", "of", "(Z)Lcom/example/shapewell/shapewell/Outcome;"⟩ : MethodName) prog_3_method_4_code 1 (some (.object "com/example/shapewell/shapewell/Outcome")) :: ws) ({ frames := 0, cells := 0, slots := 0, locals := 0 } : Room)) (fun a U => a = #[(.int (1 : Int32))] ∧ Z.Warmed39 U.vm ∧ U.heap = h0) (fun _ _ _ _ _ => True) (fun _ U o U' => ∃ v L, o = .returned v ∧ own_QP (some (.ref w_Outcome_CONFORMS)) h0 n0 v U'.heap L ∧ FrameEnd U o U' L ({ frames := 0, cells := 0, slots := 0, locals := 0 } : Room).cells ({ frames := 0, cells := 0, slots := 0, locals := 0 } : Room).slots) := by
  refine MetFree.of_bodySF (plainFor_of_name pn_0) hisR ?_
  intro p e s m args below meth c s₁ Bd hml0 hP hK
  obtain ⟨rfl, hZ, hh⟩ := hP
  have hx := Bd.exec
  have hby := Bd.bytes
  have hml : c.maxLocals = 1 := hml0
  have hown : s.vm.findClass "com/example/shapewell/shapewell/Outcome" = some m.cls := findClass_of_methodNamed Bd.named
  have hnm := (name_of_methodNamed Bd.named Bd.method).1
  have X0 : Stand p l e ({ frames := 0, cells := 0, slots := 0, locals := 0 } : Room) s m #[(.int (1 : Int32))] below meth c s₁ [] 0 0 := Stand.of_body Bd
  have e0 : s₁.heap = h0 := by rw [← hh, Bd.state]; rfl
  have N0 := Fr.nil n0
  have pre0 : ∀ t, Steps p.tables e below (s₁.setTop (mkF m 0 #[iv (1 : Int32)] [])) t → Steps p.tables e below (s₁.setTop (entryFrame m #[(.int (1 : Int32))] 1)) t := fun t k => castTop (ef_1_I m (1 : Int32)) k
  obtain ⟨T1, X1, e1, st1⟩ := getS2 X0 hx hZ hown (host := "") (Or.inl (hw _ (List.mem_of_getElem? (i := 6) rfl))) Via.refl e0 S_Outcome_CONFORMS (g := (mkF m 4 #[iv (1 : Int32)] [])) rfl (hb hby d1_4)
  obtain ⟨fs, hr, hrun, hended, hW, hsame⟩ := X1.leave (v := (some (.ref w_Outcome_CONFORMS))) (fun h => by rw [Bd.returns] at h; cases h)
  refine ⟨_, _, pre0 _ ?_, hrun, hended, _, _, rfl, ?_, ⟨_, rfl⟩, hW, hsame.mono (by decide) (by decide)⟩
  · show Steps p.tables e below (s₁.setTop (mkF m 0 #[iv (1 : Int32)] [])) _
    refine XS.iloadN X0.here hx rfl (hb hby d1_0) rfl ?_
    show Steps p.tables e below (s₁.setTop (mkF m 1 #[iv (1 : Int32)] [(.int (1 : Int32))])) _
    refine XS.ifNo X0.here hx rfl (hb hby d1_1) rfl ((if0 _ _).trans (feq (by decide +kernel : ¬ ((1 : Int32) = (0 : Int32)))).1) ?_
    show Steps p.tables e below (s₁.setTop (mkF m 4 #[iv (1 : Int32)] [])) _
    refine st1 _ ?_
    show Steps p.tables e below (T1.setTop (mkF m 7 #[iv (1 : Int32)] [(.ref w_Outcome_CONFORMS)])) _
    refine XS.goto X1.here hx rfl (pc0 := 7) (pc' := 13) rfl (hb hby d1_7) (by decide) (by decide) ?_
    show Steps p.tables e below (T1.setTop (mkF m 13 #[iv (1 : Int32)] [(.ref w_Outcome_CONFORMS)])) _
    exact own_retA X1 hx Bd.returns rfl rfl (hb hby d1_13) hr
  · exact ⟨rfl, N0, e1⟩
set_option maxRecDepth 65536 in
set_option maxHeartbeats 40000000 in
theorem rm5_4 (l : Launch) (Z : State) (a0 : Array Value) (hw : ∀ d ∈ tables_1, d.before a0 Z = true) (ws : List Jvm.Cond) (w_Outcome_VIOLATES : Addr) (mr_Outcome : Addr) (h0 : Heap) (n0 : Nat) (Z0 : n0 ≤ h0.size) (E_w_Outcome_VIOLATES : Exa Z h0 w_Outcome_VIOLATES "com/example/shapewell/shapewell/Outcome") (M_mr_Outcome : own_Mir Z "com/example/shapewell/shapewell/Outcome" mr_Outcome) (F_w_Outcome_VIOLATES_ordinal : Fld Z h0 w_Outcome_VIOLATES "java/lang/Enum" "ordinal" "I" (.int (0 : Int32))) :
    MetFree l (⟨"java/lang/Enum", "compareTo", "(Ljava/lang/Enum;)I"⟩ : MethodName) (head1 (Jvm.Cond.code (⟨"java/lang/Enum", "compareTo", "(Ljava/lang/Enum;)I"⟩ : MethodName) jdk_37_method_8_code 4 (some .int) :: ws) ({ frames := 1, cells := 0, slots := 0, locals := 15 } : Room)) (fun a U => a = #[(.ref w_Outcome_VIOLATES), (.ref w_Outcome_VIOLATES)] ∧ Z.Warmed39 U.vm ∧ U.heap = h0) (fun _ _ _ _ _ => True) (fun _ U o U' => ∃ v L, o = .returned v ∧ own_QP (some (.int (0 : Int32))) h0 n0 v U'.heap L ∧ FrameEnd U o U' L ({ frames := 1, cells := 0, slots := 0, locals := 15 } : Room).cells ({ frames := 1, cells := 0, slots := 0, locals := 15 } : Room).slots) := by
  refine MetFree.of_bodySF (plainFor_of_name pn_1) hisR ?_
  intro p e s m args below meth c s₁ Bd hml0 hP hK
  obtain ⟨rfl, hZ, hh⟩ := hP
  have hx := Bd.exec
  have hby := Bd.bytes
  have hml : c.maxLocals = 4 := hml0
  have hown : s.vm.findClass "java/lang/Enum" = some m.cls := findClass_of_methodNamed Bd.named
  have hnm := (name_of_methodNamed Bd.named Bd.method).1
  have X0 : Stand p l e ({ frames := 1, cells := 0, slots := 0, locals := 15 } : Room) s m #[(.ref w_Outcome_VIOLATES), (.ref w_Outcome_VIOLATES)] below meth c s₁ [] 0 0 := Stand.of_body Bd
  have e0 : s₁.heap = h0 := by rw [← hh, Bd.state]; rfl
  have N0 := Fr.nil n0
  have pre0 : ∀ t, Steps p.tables e below (s₁.setTop (mkF m 0 #[rv w_Outcome_VIOLATES, rv w_Outcome_VIOLATES, .unset, .unset] [])) t → Steps p.tables e below (s₁.setTop (entryFrame m #[(.ref w_Outcome_VIOLATES), (.ref w_Outcome_VIOLATES)] 4)) t := fun t k => castTop (ef_5_RR m w_Outcome_VIOLATES w_Outcome_VIOLATES) k
  obtain ⟨T1, X1, e1, st1⟩ := own_gcls X0 hx hZ hown (hw _ (List.mem_of_getElem? (i := 37) rfl)) (hw _ (List.mem_of_getElem? (i := 38) rfl)) (hw _ (List.mem_of_getElem? (i := 40) rfl)) (hw _ (List.mem_of_getElem? (i := 39) rfl)) (hw _ (List.mem_of_getElem? (i := 41) rfl)) e0 E_w_Outcome_VIOLATES M_mr_Outcome (g := (mkF m 5 #[rv w_Outcome_VIOLATES, rv w_Outcome_VIOLATES, rv w_Outcome_VIOLATES, rv w_Outcome_VIOLATES] [(.ref w_Outcome_VIOLATES)])) rfl (by rw [hml]; rfl) rfl (hb hby d5_5) (by decide) (W := 0) (by show 2 * 0 + _ ≤ _; exact Nat.le_of_eq rfl) (by decide)
  obtain ⟨T2, X2, e2, st2⟩ := own_gcls X1 hx hZ hown (hw _ (List.mem_of_getElem? (i := 37) rfl)) (hw _ (List.mem_of_getElem? (i := 38) rfl)) (hw _ (List.mem_of_getElem? (i := 40) rfl)) (hw _ (List.mem_of_getElem? (i := 39) rfl)) (hw _ (List.mem_of_getElem? (i := 41) rfl)) e1 E_w_Outcome_VIOLATES M_mr_Outcome (g := (mkF m 9 #[rv w_Outcome_VIOLATES, rv w_Outcome_VIOLATES, rv w_Outcome_VIOLATES, rv w_Outcome_VIOLATES] [(.ref w_Outcome_VIOLATES), (.ref mr_Outcome)])) rfl (by rw [hml]; rfl) rfl (hb hby d5_9) (by decide) (W := 1) (by show 2 * 0 + _ ≤ _; exact Nat.le_of_eq rfl) (by decide)
  obtain ⟨T3, X3, e3, st3⟩ := getF X2 hx hZ hown (host := "") (Or.inl (hw _ (List.mem_of_getElem? (i := 24) rfl))) Via.refl e2 F_w_Outcome_VIOLATES_ordinal (g := (mkF m 35 #[rv w_Outcome_VIOLATES, rv w_Outcome_VIOLATES, rv w_Outcome_VIOLATES, rv w_Outcome_VIOLATES] [(.ref w_Outcome_VIOLATES)])) rfl rfl (hb hby d5_35)
  obtain ⟨T4, X4, e4, st4⟩ := getF X3 hx hZ hown (host := "") (Or.inl (hw _ (List.mem_of_getElem? (i := 24) rfl))) Via.refl e3 F_w_Outcome_VIOLATES_ordinal (g := (mkF m 39 #[rv w_Outcome_VIOLATES, rv w_Outcome_VIOLATES, rv w_Outcome_VIOLATES, rv w_Outcome_VIOLATES] [(.ref w_Outcome_VIOLATES), (.int (0 : Int32))])) rfl rfl (hb hby d5_39)
  obtain ⟨fs, hr, hrun, hended, hW, hsame⟩ := X4.leave (v := (some (.int (0 : Int32)))) (fun h => by rw [Bd.returns] at h; cases h)
  refine ⟨_, _, pre0 _ ?_, hrun, hended, _, _, rfl, ?_, ⟨_, rfl⟩, hW, hsame.mono (by decide) (by decide)⟩
  · show Steps p.tables e below (s₁.setTop (mkF m 0 #[rv w_Outcome_VIOLATES, rv w_Outcome_VIOLATES, .unset, .unset] [])) _
    refine XS.aloadN X0.here hx rfl (hb hby d5_0) rfl rfl ?_
    show Steps p.tables e below (s₁.setTop (mkF m 1 #[rv w_Outcome_VIOLATES, rv w_Outcome_VIOLATES, .unset, .unset] [(.ref w_Outcome_VIOLATES)])) _
    refine XS.astoreN X0.here hx rfl (hb hby d5_1) rfl rfl (l' := #[rv w_Outcome_VIOLATES, rv w_Outcome_VIOLATES, rv w_Outcome_VIOLATES, .unset]) rfl ?_
    show Steps p.tables e below (s₁.setTop (mkF m 2 #[rv w_Outcome_VIOLATES, rv w_Outcome_VIOLATES, rv w_Outcome_VIOLATES, .unset] [])) _
    refine XS.aloadN X0.here hx rfl (hb hby d5_2) rfl rfl ?_
    show Steps p.tables e below (s₁.setTop (mkF m 3 #[rv w_Outcome_VIOLATES, rv w_Outcome_VIOLATES, rv w_Outcome_VIOLATES, .unset] [(.ref w_Outcome_VIOLATES)])) _
    refine XS.astoreN X0.here hx rfl (hb hby d5_3) rfl rfl (l' := #[rv w_Outcome_VIOLATES, rv w_Outcome_VIOLATES, rv w_Outcome_VIOLATES, rv w_Outcome_VIOLATES]) rfl ?_
    show Steps p.tables e below (s₁.setTop (mkF m 4 #[rv w_Outcome_VIOLATES, rv w_Outcome_VIOLATES, rv w_Outcome_VIOLATES, rv w_Outcome_VIOLATES] [])) _
    refine XS.aloadN X0.here hx rfl (hb hby d5_4) rfl rfl ?_
    show Steps p.tables e below (s₁.setTop (mkF m 5 #[rv w_Outcome_VIOLATES, rv w_Outcome_VIOLATES, rv w_Outcome_VIOLATES, rv w_Outcome_VIOLATES] [(.ref w_Outcome_VIOLATES)])) _
    refine st1 _ ?_
    show Steps p.tables e below (T1.setTop (mkF m 8 #[rv w_Outcome_VIOLATES, rv w_Outcome_VIOLATES, rv w_Outcome_VIOLATES, rv w_Outcome_VIOLATES] [(.ref mr_Outcome)])) _
    refine XS.aloadN X1.here hx rfl (hb hby d5_8) rfl rfl ?_
    show Steps p.tables e below (T1.setTop (mkF m 9 #[rv w_Outcome_VIOLATES, rv w_Outcome_VIOLATES, rv w_Outcome_VIOLATES, rv w_Outcome_VIOLATES] [(.ref w_Outcome_VIOLATES), (.ref mr_Outcome)])) _
    refine st2 _ ?_
    show Steps p.tables e below (T2.setTop (mkF m 12 #[rv w_Outcome_VIOLATES, rv w_Outcome_VIOLATES, rv w_Outcome_VIOLATES, rv w_Outcome_VIOLATES] [(.ref mr_Outcome), (.ref mr_Outcome)])) _
    refine Jvm.RoadKit.acmp (g := (mkF m 12 #[rv w_Outcome_VIOLATES, rv w_Outcome_VIOLATES, rv w_Outcome_VIOLATES, rv w_Outcome_VIOLATES] [(.ref mr_Outcome), (.ref mr_Outcome)])) X2 hx rfl rfl rfl (pc0 := 12) (pc' := 34) (same := true) rfl (hb hby d5_12) rfl (decide_eq_true rfl) (by decide) (by decide) ?_
    show Steps p.tables e below (T2.setTop (mkF m 34 #[rv w_Outcome_VIOLATES, rv w_Outcome_VIOLATES, rv w_Outcome_VIOLATES, rv w_Outcome_VIOLATES] [])) _
    refine XS.aloadN X2.here hx rfl (hb hby d5_34) rfl rfl ?_
    show Steps p.tables e below (T2.setTop (mkF m 35 #[rv w_Outcome_VIOLATES, rv w_Outcome_VIOLATES, rv w_Outcome_VIOLATES, rv w_Outcome_VIOLATES] [(.ref w_Outcome_VIOLATES)])) _
    refine st3 _ ?_
    show Steps p.tables e below (T3.setTop (mkF m 38 #[rv w_Outcome_VIOLATES, rv w_Outcome_VIOLATES, rv w_Outcome_VIOLATES, rv w_Outcome_VIOLATES] [(.int (0 : Int32))])) _
    refine XS.aloadN X3.here hx rfl (hb hby d5_38) rfl rfl ?_
    show Steps p.tables e below (T3.setTop (mkF m 39 #[rv w_Outcome_VIOLATES, rv w_Outcome_VIOLATES, rv w_Outcome_VIOLATES, rv w_Outcome_VIOLATES] [(.ref w_Outcome_VIOLATES), (.int (0 : Int32))])) _
    refine st4 _ ?_
    show Steps p.tables e below (T4.setTop (mkF m 42 #[rv w_Outcome_VIOLATES, rv w_Outcome_VIOLATES, rv w_Outcome_VIOLATES, rv w_Outcome_VIOLATES] [(.int (0 : Int32)), (.int (0 : Int32))])) _
    refine XS.isub X4.here hx rfl (hb hby d5_42) rfl ?_
    show Steps p.tables e below (T4.setTop (mkF m 43 #[rv w_Outcome_VIOLATES, rv w_Outcome_VIOLATES, rv w_Outcome_VIOLATES, rv w_Outcome_VIOLATES] [(.int ((0 : Int32) - (0 : Int32)))])) _
    rewrite [show ((0 : Int32) - (0 : Int32)) = (0 : Int32) from by decide +kernel]
    show Steps p.tables e below (T4.setTop (mkF m 43 #[rv w_Outcome_VIOLATES, rv w_Outcome_VIOLATES, rv w_Outcome_VIOLATES, rv w_Outcome_VIOLATES] [(.int (0 : Int32))])) _
    exact retI X4 hx Bd.returns (hb hby d5_43) hr
  · exact ⟨rfl, N0, e4⟩
set_option maxRecDepth 65536 in
set_option maxHeartbeats 40000000 in
theorem rm4_4 (l : Launch) (Z : State) (a0 : Array Value) (hw : ∀ d ∈ tables_1, d.before a0 Z = true) (ws : List Jvm.Cond) (w_Outcome_VIOLATES : Addr) (mr_Outcome : Addr) (h0 : Heap) (n0 : Nat) (Z0 : n0 ≤ h0.size) (E_w_Outcome_VIOLATES : Exa Z h0 w_Outcome_VIOLATES "com/example/shapewell/shapewell/Outcome") (M_mr_Outcome : own_Mir Z "com/example/shapewell/shapewell/Outcome" mr_Outcome) (F_w_Outcome_VIOLATES_ordinal : Fld Z h0 w_Outcome_VIOLATES "java/lang/Enum" "ordinal" "I" (.int (0 : Int32))) :
    MetFree l (⟨"com/example/shapewell/shapewell/Outcome", "and", "(Lcom/example/shapewell/shapewell/Outcome;)Lcom/example/shapewell/shapewell/Outcome;"⟩ : MethodName) (head1 (Jvm.Cond.code (⟨"com/example/shapewell/shapewell/Outcome", "and", "(Lcom/example/shapewell/shapewell/Outcome;)Lcom/example/shapewell/shapewell/Outcome;"⟩ : MethodName) prog_3_method_5_code 2 (some (.object "com/example/shapewell/shapewell/Outcome")) :: ws) ({ frames := 2, cells := 0, slots := 0, locals := 30 } : Room)) (fun a U => a = #[(.ref w_Outcome_VIOLATES), (.ref w_Outcome_VIOLATES)] ∧ Z.Warmed39 U.vm ∧ U.heap = h0) (fun _ _ _ _ _ => True) (fun _ U o U' => ∃ v L, o = .returned v ∧ own_QP (some (.ref w_Outcome_VIOLATES)) h0 n0 v U'.heap L ∧ FrameEnd U o U' L ({ frames := 2, cells := 0, slots := 0, locals := 30 } : Room).cells ({ frames := 2, cells := 0, slots := 0, locals := 30 } : Room).slots) := by
  refine MetFree.of_bodySF (plainFor_of_name pn_0) hisR ?_
  intro p e s m args below meth c s₁ Bd hml0 hP hK
  obtain ⟨rfl, hZ, hh⟩ := hP
  have hx := Bd.exec
  have hby := Bd.bytes
  have hml : c.maxLocals = 2 := hml0
  have hown : s.vm.findClass "com/example/shapewell/shapewell/Outcome" = some m.cls := findClass_of_methodNamed Bd.named
  have hnm := (name_of_methodNamed Bd.named Bd.method).1
  have X0 : Stand p l e ({ frames := 2, cells := 0, slots := 0, locals := 30 } : Room) s m #[(.ref w_Outcome_VIOLATES), (.ref w_Outcome_VIOLATES)] below meth c s₁ [] 0 0 := Stand.of_body Bd
  have e0 : s₁.heap = h0 := by rw [← hh, Bd.state]; rfl
  have N0 := Fr.nil n0
  have pre0 : ∀ t, Steps p.tables e below (s₁.setTop (mkF m 0 #[rv w_Outcome_VIOLATES, rv w_Outcome_VIOLATES] [])) t → Steps p.tables e below (s₁.setTop (entryFrame m #[(.ref w_Outcome_VIOLATES), (.ref w_Outcome_VIOLATES)] 2)) t := fun t k => castTop (ef_4_RR m w_Outcome_VIOLATES w_Outcome_VIOLATES) k
  obtain ⟨cq1, kq1, q1a, q1b, q1c⟩ := isOf hZ e0 E_w_Outcome_VIOLATES
  obtain ⟨_, _, ⟨T1, L1, k1, n1⟩, -, X1, ⟨Lc1, hQ1, l1, y1, z1⟩, st1⟩ := X0.virtualBackUp hx (x := (⟨"com/example/shapewell/shapewell/Outcome", "compareTo", "(Ljava/lang/Enum;)I"⟩ : MethodName)) (y := (⟨"java/lang/Enum", "compareTo", "(Ljava/lang/Enum;)I"⟩ : MethodName)) hown (mvT hZ (hw _ (List.mem_of_getElem? (i := 31) rfl))) (mvT hZ (hw _ (List.mem_of_getElem? (i := 32) rfl))) (mvT hZ (hw _ (List.mem_of_getElem? (i := 33) rfl))) (by decide) (mvT hZ (hw _ (List.mem_of_getElem? (i := 35) rfl))) (mvT hZ (hw _ (List.mem_of_getElem? (i := 34) rfl))) (backOf (W := 0) (rm5_4 l Z a0 hw [] w_Outcome_VIOLATES mr_Outcome h0 n0 Z0 E_w_Outcome_VIOLATES M_mr_Outcome F_w_Outcome_VIOLATES_ordinal) hZ (hw _ (List.mem_of_getElem? (i := 36) rfl)) (hw _ (List.mem_of_getElem? (i := 22) rfl)) (by decide) (by decide)) q1a q1c (g := (mkF m 2 #[rv w_Outcome_VIOLATES, rv w_Outcome_VIOLATES] [(.ref w_Outcome_VIOLATES), (.ref w_Outcome_VIOLATES)])) rfl (by rw [hml]; rfl) (Steps.refl _) (argsL := [(.ref w_Outcome_VIOLATES)]) (rest := []) (lenOf pd_3 rfl) rfl (by show 2 * 0 + _ ≤ _; exact Nat.le_of_eq rfl) (hb hby d4_2) (fun _ _ => ⟨rfl, e0, (by decide : 0 + 0 ≤ _), (by decide : 0 + 0 ≤ _)⟩)
  dsimp only [Pt.U, Pt.locs, Pt.cells, Pt.slots] at X1 l1 y1 z1 st1 hQ1
  subst l1 y1 z1
  obtain ⟨rfl, N1q, e1⟩ := hQ1
  have N1 := Fr.app N0 N1q
  obtain ⟨fs, hr, hrun, hended, hW, hsame⟩ := X1.leave (v := (some (.ref w_Outcome_VIOLATES))) (fun h => by rw [Bd.returns] at h; cases h)
  refine ⟨_, _, pre0 _ ?_, hrun, hended, _, _, rfl, ?_, ⟨_, rfl⟩, hW, hsame.mono (by decide) (by decide)⟩
  · show Steps p.tables e below (s₁.setTop (mkF m 0 #[rv w_Outcome_VIOLATES, rv w_Outcome_VIOLATES] [])) _
    refine XS.aloadN X0.here hx rfl (hb hby d4_0) rfl rfl ?_
    show Steps p.tables e below (s₁.setTop (mkF m 1 #[rv w_Outcome_VIOLATES, rv w_Outcome_VIOLATES] [(.ref w_Outcome_VIOLATES)])) _
    refine XS.aloadN X0.here hx rfl (hb hby d4_1) rfl rfl ?_
    show Steps p.tables e below (s₁.setTop (mkF m 2 #[rv w_Outcome_VIOLATES, rv w_Outcome_VIOLATES] [(.ref w_Outcome_VIOLATES), (.ref w_Outcome_VIOLATES)])) _
    refine st1.trans ?_
    show Steps p.tables e below (T1.setTop (mkF m 5 #[rv w_Outcome_VIOLATES, rv w_Outcome_VIOLATES] [(.int (0 : Int32))])) _
    refine XS.ifNo X1.here hx rfl (hb hby d4_5) rfl ((if0 _ _).trans (flt (by decide +kernel : ¬ ((0 : Int32) < (0 : Int32)))).2.2.1) ?_
    show Steps p.tables e below (T1.setTop (mkF m 8 #[rv w_Outcome_VIOLATES, rv w_Outcome_VIOLATES] [])) _
    refine XS.aloadN X1.here hx rfl (hb hby d4_8) rfl rfl ?_
    show Steps p.tables e below (T1.setTop (mkF m 9 #[rv w_Outcome_VIOLATES, rv w_Outcome_VIOLATES] [(.ref w_Outcome_VIOLATES)])) _
    refine XS.goto X1.here hx rfl (pc0 := 9) (pc' := 13) rfl (hb hby d4_9) (by decide) (by decide) ?_
    show Steps p.tables e below (T1.setTop (mkF m 13 #[rv w_Outcome_VIOLATES, rv w_Outcome_VIOLATES] [(.ref w_Outcome_VIOLATES)])) _
    exact own_retA X1 hx Bd.returns rfl rfl (hb hby d4_13) hr
  · exact ⟨rfl, N1, e1⟩
set_option maxRecDepth 65536 in
set_option maxHeartbeats 40000000 in
theorem rm0_0 (l : Launch) (Z : State) (a0 : Array Value) (hw : ∀ d ∈ tables_1, d.before a0 Z = true) (ws : List Jvm.Cond) (p0 : Int32) (p1 : Int32) (w_Outcome_VIOLATES : Addr) (w_Outcome_CONFORMS : Addr) (w_Outcome_UNDETERMINED : Addr) (mr_Outcome : Addr) (h0 : Heap) (n0 : Nat) (Z0 : n0 ≤ h0.size) (hk0 : (p0 &&& (1 : Int32)) = (0 : Int32)) (hk1 : (p1 &&& (1 : Int32)) = (0 : Int32)) (S_Outcome_VIOLATES : Sta Z h0 "com/example/shapewell/shapewell/Outcome" "VIOLATES" "Lcom/example/shapewell/shapewell/Outcome;" (.ref w_Outcome_VIOLATES)) (S_Outcome_CONFORMS : Sta Z h0 "com/example/shapewell/shapewell/Outcome" "CONFORMS" "Lcom/example/shapewell/shapewell/Outcome;" (.ref w_Outcome_CONFORMS)) (ne_w_Outcome_CONFORMS_w_Outcome_VIOLATES : ¬ (w_Outcome_CONFORMS = w_Outcome_VIOLATES)) (S_Outcome_UNDETERMINED : Sta Z h0 "com/example/shapewell/shapewell/Outcome" "UNDETERMINED" "Lcom/example/shapewell/shapewell/Outcome;" (.ref w_Outcome_UNDETERMINED)) (ne_w_Outcome_UNDETERMINED_w_Outcome_VIOLATES : ¬ (w_Outcome_UNDETERMINED = w_Outcome_VIOLATES)) (F_w_Outcome_VIOLATES_ordinal : Fld Z h0 w_Outcome_VIOLATES "java/lang/Enum" "ordinal" "I" (.int (0 : Int32))) (E_w_Outcome_VIOLATES : Exa Z h0 w_Outcome_VIOLATES "com/example/shapewell/shapewell/Outcome") (M_mr_Outcome : own_Mir Z "com/example/shapewell/shapewell/Outcome" mr_Outcome) :
    MetFree l x (head1 (Jvm.Cond.code x code maxLocals ret :: ws) room_1) (fun a U => a = #[(.int p0), (.int p1)] ∧ Z.Warmed39 U.vm ∧ U.heap = h0) (fun _ _ _ _ _ => True) (fun _ U o U' => ∃ v L, o = .returned v ∧ own_QL n0 v U'.heap L ∧ FrameEnd U o U' L room_1.cells room_1.slots) := by
  refine MetFree.of_bodySF (plainFor_of_name pn_2) hisR ?_
  intro p e s m args below meth c s₁ Bd hml0 hP hK
  obtain ⟨rfl, hZ, hh⟩ := hP
  have hx := Bd.exec
  have hby := Bd.bytes
  have hml : c.maxLocals = 10 := hml0
  have hown : s.vm.findClass "com/example/shapewell/shapewell/OutcomeOfPinLaw" = some m.cls := findClass_of_methodNamed Bd.named
  have hnm := (name_of_methodNamed Bd.named Bd.method).1
  have X0 : Stand p l e room_1 s m #[(.int p0), (.int p1)] below meth c s₁ [] 0 0 := Stand.of_body Bd
  have e0 : s₁.heap = h0 := by rw [← hh, Bd.state]; rfl
  have N0 := Fr.nil n0
  have pre0 : ∀ t, Steps p.tables e below (s₁.setTop (mkF m 0 #[iv p0, iv p1, .unset, .unset, .unset, .unset, .unset, .unset, .unset, .unset] [])) t → Steps p.tables e below (s₁.setTop (entryFrame m #[(.int p0), (.int p1)] maxLocals)) t := fun t k => castTop (ef_0_II m p0 p1) k
  obtain ⟨_, _, ⟨T1, L1, k1, n1⟩, -, X1, ⟨Lc1, hQ1, l1, y1, z1⟩, st1⟩ := Jvm.LawKit.callS X0 hx (y := (⟨"com/example/shapewell/shapewell/Outcome", "of", "(Z)Lcom/example/shapewell/shapewell/Outcome;"⟩ : MethodName)) hown (mvT hZ (hw _ (List.mem_of_getElem? (i := 0) rfl))) (mvT hZ (hw _ (List.mem_of_getElem? (i := 1) rfl))) (mvT hZ (hw _ (List.mem_of_getElem? (i := 2) rfl))) (mvT hZ (hw _ (List.mem_of_getElem? (i := 3) rfl))) (by decide) (backOf (W := 0) (rm1_0 l Z a0 hw [] w_Outcome_VIOLATES h0 n0 Z0 S_Outcome_VIOLATES) hZ (hw _ (List.mem_of_getElem? (i := 3) rfl)) (hw _ (List.mem_of_getElem? (i := 2) rfl)) (by decide) (by decide)) (g := (mkF m 25 #[iv p0, iv p1, iv (0 : Int32), iv (0 : Int32), .unset, .unset, .unset, .unset, .unset, .unset] [(.int (0 : Int32))])) rfl (by rw [hml]; rfl) (argsL := [(.int (0 : Int32))]) (rest := []) (lenOf pd_0 rfl) rfl (by show 2 * 0 + _ ≤ _; exact Nat.le_of_eq rfl) (hb hby at_25) (fun _ _ => ⟨rfl, e0, (by decide : 0 + 0 ≤ _), (by decide : 0 + 0 ≤ _)⟩)
  dsimp only [Pt.U, Pt.locs, Pt.cells, Pt.slots] at X1 l1 y1 z1 st1 hQ1
  subst l1 y1 z1
  obtain ⟨rfl, N1q, e1⟩ := hQ1
  have N1 := Fr.app N0 N1q
  obtain ⟨_, _, ⟨T2, L2, k2, n2⟩, -, X2, ⟨Lc2, hQ2, l2, y2, z2⟩, st2⟩ := Jvm.LawKit.callS X1 hx (y := (⟨"com/example/shapewell/shapewell/Outcome", "of", "(Z)Lcom/example/shapewell/shapewell/Outcome;"⟩ : MethodName)) hown (mvT hZ (hw _ (List.mem_of_getElem? (i := 0) rfl))) (mvT hZ (hw _ (List.mem_of_getElem? (i := 1) rfl))) (mvT hZ (hw _ (List.mem_of_getElem? (i := 2) rfl))) (mvT hZ (hw _ (List.mem_of_getElem? (i := 3) rfl))) (by decide) (backOf (W := 0) (rm1_0 l Z a0 hw [] w_Outcome_VIOLATES h0 n0 Z0 S_Outcome_VIOLATES) hZ (hw _ (List.mem_of_getElem? (i := 3) rfl)) (hw _ (List.mem_of_getElem? (i := 2) rfl)) (by decide) (by decide)) (g := (mkF m 31 #[iv p0, iv p1, iv (0 : Int32), iv (0 : Int32), rv w_Outcome_VIOLATES, .unset, .unset, .unset, .unset, .unset] [(.int (0 : Int32))])) rfl (by rw [hml]; rfl) (argsL := [(.int (0 : Int32))]) (rest := []) (lenOf pd_0 rfl) rfl (by show 2 * 0 + _ ≤ _; exact Nat.le_of_eq rfl) (hb hby at_31) (fun _ _ => ⟨rfl, e1, (by decide : 0 + 0 ≤ _), (by decide : 0 + 0 ≤ _)⟩)
  dsimp only [Pt.U, Pt.locs, Pt.cells, Pt.slots] at X2 l2 y2 z2 st2 hQ2
  subst l2 y2 z2
  obtain ⟨rfl, N2q, e2⟩ := hQ2
  have N2 := Fr.app N1 N2q
  obtain ⟨T3, X3, e3, st3⟩ := getS2 X2 hx hZ hown (host := "") (Or.inl (hw _ (List.mem_of_getElem? (i := 8) rfl))) Via.refl e2 S_Outcome_CONFORMS (g := (mkF m 50 #[iv p0, iv p1, iv (0 : Int32), iv (0 : Int32), rv w_Outcome_VIOLATES, rv w_Outcome_VIOLATES, .unset, .unset, .unset, .unset] [(.ref w_Outcome_VIOLATES)])) rfl (hb hby at_50)
  obtain ⟨T4, X4, e4, st4⟩ := getS2 X3 hx hZ hown (host := "") (Or.inl (hw _ (List.mem_of_getElem? (i := 9) rfl))) Via.refl e3 S_Outcome_VIOLATES (g := (mkF m 67 #[iv p0, iv p1, iv (0 : Int32), iv (0 : Int32), rv w_Outcome_VIOLATES, rv w_Outcome_VIOLATES, .unset, .unset, .unset, .unset] [(.ref w_Outcome_VIOLATES)])) rfl (hb hby at_67)
  obtain ⟨T5, X5, e5, st5⟩ := getS2 X4 hx hZ hown (host := "") (Or.inl (hw _ (List.mem_of_getElem? (i := 10) rfl))) Via.refl e4 S_Outcome_UNDETERMINED (g := (mkF m 99 #[iv p0, iv p1, iv (0 : Int32), iv (0 : Int32), rv w_Outcome_VIOLATES, rv w_Outcome_VIOLATES, iv (1 : Int32), .unset, .unset, .unset] [(.ref w_Outcome_VIOLATES)])) rfl (hb hby at_99)
  obtain ⟨cq6, kq6, q6a, q6b, q6c⟩ := isOf hZ e5 E_w_Outcome_VIOLATES
  obtain ⟨_, _, ⟨T6, L6, k6, n6⟩, -, X6, ⟨Lc6, hQ6, l6, y6, z6⟩, st6⟩ := X5.virtualBack hx (y := (⟨"com/example/shapewell/shapewell/Outcome", "not", "()Lcom/example/shapewell/shapewell/Outcome;"⟩ : MethodName)) (z := (⟨"com/example/shapewell/shapewell/Outcome", "not", "()Lcom/example/shapewell/shapewell/Outcome;"⟩ : MethodName)) hown (mvT hZ (hw _ (List.mem_of_getElem? (i := 12) rfl))) (mvT hZ (hw _ (List.mem_of_getElem? (i := 13) rfl))) (notFace_of_selects (args := #[]) (mvT hZ (hw _ (List.mem_of_getElem? (i := 15) rfl)))) (mvT hZ (hw _ (List.mem_of_getElem? (i := 15) rfl))) (mvT hZ (hw _ (List.mem_of_getElem? (i := 14) rfl))) (by decide) (backOf (W := 0) (rm2_1 l Z a0 hw [] w_Outcome_VIOLATES w_Outcome_CONFORMS h0 n0 Z0 F_w_Outcome_VIOLATES_ordinal E_w_Outcome_VIOLATES S_Outcome_CONFORMS) hZ (hw _ (List.mem_of_getElem? (i := 16) rfl)) (hw _ (List.mem_of_getElem? (i := 2) rfl)) (by decide) (by decide)) q6a q6c (g := (mkF m 114 #[iv p0, iv p1, iv (0 : Int32), iv (0 : Int32), rv w_Outcome_VIOLATES, rv w_Outcome_VIOLATES, iv (1 : Int32), iv (1 : Int32), .unset, .unset] [(.ref w_Outcome_VIOLATES)])) rfl (by rw [hml]; rfl) (Steps.refl _) (argsL := []) (rest := []) (lenOf pd_2 rfl) rfl (by show 2 * 0 + _ ≤ _; exact Nat.le_of_eq rfl) (hb hby at_114) (fun _ _ => ⟨rfl, e5, (by decide : 0 + 0 ≤ _), (by decide : 0 + 0 ≤ _)⟩)
  dsimp only [Pt.U, Pt.locs, Pt.cells, Pt.slots] at X6 l6 y6 z6 st6 hQ6
  subst l6 y6 z6
  obtain ⟨rfl, N6q, e6⟩ := hQ6
  have N6 := Fr.app N2 N6q
  obtain ⟨_, _, ⟨T7, L7, k7, n7⟩, -, X7, ⟨Lc7, hQ7, l7, y7, z7⟩, st7⟩ := Jvm.LawKit.callS X6 hx (y := (⟨"com/example/shapewell/shapewell/Outcome", "of", "(Z)Lcom/example/shapewell/shapewell/Outcome;"⟩ : MethodName)) hown (mvT hZ (hw _ (List.mem_of_getElem? (i := 0) rfl))) (mvT hZ (hw _ (List.mem_of_getElem? (i := 1) rfl))) (mvT hZ (hw _ (List.mem_of_getElem? (i := 2) rfl))) (mvT hZ (hw _ (List.mem_of_getElem? (i := 3) rfl))) (by decide) (backOf (W := 1) (rm1_3 l Z a0 hw [] w_Outcome_CONFORMS h0 n0 Z0 S_Outcome_CONFORMS) hZ (hw _ (List.mem_of_getElem? (i := 3) rfl)) (hw _ (List.mem_of_getElem? (i := 2) rfl)) (by decide) (by decide)) (g := (mkF m 126 #[iv p0, iv p1, iv (0 : Int32), iv (0 : Int32), rv w_Outcome_VIOLATES, rv w_Outcome_VIOLATES, iv (1 : Int32), iv (1 : Int32), .unset, .unset] [(.int (1 : Int32)), (.ref w_Outcome_CONFORMS)])) rfl (by rw [hml]; rfl) (argsL := [(.int (1 : Int32))]) (rest := [(.ref w_Outcome_CONFORMS)]) (lenOf pd_0 rfl) rfl (by show 2 * 0 + _ ≤ _; exact Nat.le_of_eq rfl) (hb hby at_126) (fun _ _ => ⟨rfl, e6, (by decide : 0 + 0 ≤ _), (by decide : 0 + 0 ≤ _)⟩)
  dsimp only [Pt.U, Pt.locs, Pt.cells, Pt.slots] at X7 l7 y7 z7 st7 hQ7
  subst l7 y7 z7
  obtain ⟨rfl, N7q, e7⟩ := hQ7
  have N7 := Fr.app N6 N7q
  obtain ⟨cq8, kq8, q8a, q8b, q8c⟩ := isOf hZ e7 E_w_Outcome_VIOLATES
  obtain ⟨_, _, ⟨T8, L8, k8, n8⟩, -, X8, ⟨Lc8, hQ8, l8, y8, z8⟩, st8⟩ := X7.virtualBack hx (y := (⟨"com/example/shapewell/shapewell/Outcome", "and", "(Lcom/example/shapewell/shapewell/Outcome;)Lcom/example/shapewell/shapewell/Outcome;"⟩ : MethodName)) (z := (⟨"com/example/shapewell/shapewell/Outcome", "and", "(Lcom/example/shapewell/shapewell/Outcome;)Lcom/example/shapewell/shapewell/Outcome;"⟩ : MethodName)) hown (mvT hZ (hw _ (List.mem_of_getElem? (i := 26) rfl))) (mvT hZ (hw _ (List.mem_of_getElem? (i := 27) rfl))) (notFace_of_selects (args := #[]) (mvT hZ (hw _ (List.mem_of_getElem? (i := 29) rfl)))) (mvT hZ (hw _ (List.mem_of_getElem? (i := 29) rfl))) (mvT hZ (hw _ (List.mem_of_getElem? (i := 28) rfl))) (by decide) (backOf (W := 0) (rm4_4 l Z a0 hw [] w_Outcome_VIOLATES mr_Outcome h0 n0 Z0 E_w_Outcome_VIOLATES M_mr_Outcome F_w_Outcome_VIOLATES_ordinal) hZ (hw _ (List.mem_of_getElem? (i := 30) rfl)) (hw _ (List.mem_of_getElem? (i := 2) rfl)) (by decide) (by decide)) q8a q8c (g := (mkF m 143 #[iv p0, iv p1, iv (0 : Int32), iv (0 : Int32), rv w_Outcome_VIOLATES, rv w_Outcome_VIOLATES, iv (1 : Int32), iv (1 : Int32), iv (1 : Int32), .unset] [(.ref w_Outcome_VIOLATES), (.ref w_Outcome_VIOLATES)])) rfl (by rw [hml]; rfl) (Steps.refl _) (argsL := [(.ref w_Outcome_VIOLATES)]) (rest := []) (lenOf pd_4 rfl) rfl (by show 2 * 0 + _ ≤ _; exact Nat.le_of_eq rfl) (hb hby at_143) (fun _ _ => ⟨rfl, e7, (by decide : 0 + 0 ≤ _), (by decide : 0 + 0 ≤ _)⟩)
  dsimp only [Pt.U, Pt.locs, Pt.cells, Pt.slots] at X8 l8 y8 z8 st8 hQ8
  subst l8 y8 z8
  obtain ⟨rfl, N8q, e8⟩ := hQ8
  have N8 := Fr.app N7 N8q
  obtain ⟨_, _, ⟨T9, L9, k9, n9⟩, -, X9, ⟨Lc9, hQ9, l9, y9, z9⟩, st9⟩ := Jvm.LawKit.callS X8 hx (y := (⟨"com/example/shapewell/shapewell/Outcome", "of", "(Z)Lcom/example/shapewell/shapewell/Outcome;"⟩ : MethodName)) hown (mvT hZ (hw _ (List.mem_of_getElem? (i := 0) rfl))) (mvT hZ (hw _ (List.mem_of_getElem? (i := 1) rfl))) (mvT hZ (hw _ (List.mem_of_getElem? (i := 2) rfl))) (mvT hZ (hw _ (List.mem_of_getElem? (i := 3) rfl))) (by decide) (backOf (W := 1) (rm1_0 l Z a0 hw [] w_Outcome_VIOLATES h0 n0 Z0 S_Outcome_VIOLATES) hZ (hw _ (List.mem_of_getElem? (i := 3) rfl)) (hw _ (List.mem_of_getElem? (i := 2) rfl)) (by decide) (by decide)) (g := (mkF m 159 #[iv p0, iv p1, iv (0 : Int32), iv (0 : Int32), rv w_Outcome_VIOLATES, rv w_Outcome_VIOLATES, iv (1 : Int32), iv (1 : Int32), iv (1 : Int32), .unset] [(.int (0 : Int32)), (.ref w_Outcome_VIOLATES)])) rfl (by rw [hml]; rfl) (argsL := [(.int (0 : Int32))]) (rest := [(.ref w_Outcome_VIOLATES)]) (lenOf pd_0 rfl) rfl (by show 2 * 0 + _ ≤ _; exact Nat.le_of_eq rfl) (hb hby at_159) (fun _ _ => ⟨rfl, e8, (by decide : 0 + 0 ≤ _), (by decide : 0 + 0 ≤ _)⟩)
  dsimp only [Pt.U, Pt.locs, Pt.cells, Pt.slots] at X9 l9 y9 z9 st9 hQ9
  subst l9 y9 z9
  obtain ⟨rfl, N9q, e9⟩ := hQ9
  have N9 := Fr.app N8 N9q
  obtain ⟨fs, hr, hrun, hended, hW, hsame⟩ := X9.leave (v := (some (.int (1 : Int32)))) (fun h => by rw [Bd.returns] at h; cases h)
  refine ⟨_, _, pre0 _ ?_, hrun, hended, _, _, rfl, ?_, ⟨_, rfl⟩, hW, hsame.mono (by decide) (by decide)⟩
  · show Steps p.tables e below (s₁.setTop (mkF m 0 #[iv p0, iv p1, .unset, .unset, .unset, .unset, .unset, .unset, .unset, .unset] [])) _
    refine XS.iloadN X0.here hx rfl (hb hby at_0) rfl ?_
    show Steps p.tables e below (s₁.setTop (mkF m 1 #[iv p0, iv p1, .unset, .unset, .unset, .unset, .unset, .unset, .unset, .unset] [(.int p0)])) _
    refine XS.iconst X0.here hx rfl (hb hby at_1) ?_
    show Steps p.tables e below (s₁.setTop (mkF m 2 #[iv p0, iv p1, .unset, .unset, .unset, .unset, .unset, .unset, .unset, .unset] [(.int (1 : Int32)), (.int p0)])) _
    refine XS.iand X0.here hx rfl (hb hby at_2) rfl ?_
    show Steps p.tables e below (s₁.setTop (mkF m 3 #[iv p0, iv p1, .unset, .unset, .unset, .unset, .unset, .unset, .unset, .unset] [(.int (p0 &&& (1 : Int32)))])) _
    rewrite [hk0]
    show Steps p.tables e below (s₁.setTop (mkF m 3 #[iv p0, iv p1, .unset, .unset, .unset, .unset, .unset, .unset, .unset, .unset] [(.int (0 : Int32))])) _
    refine XS.ifYes X0.here hx rfl (pc0 := 3) (pc' := 10) rfl (hb hby at_3) rfl ((if0 _ _).trans (teq (by decide +kernel : (0 : Int32) = (0 : Int32))).1) (by decide) (by decide) ?_
    show Steps p.tables e below (s₁.setTop (mkF m 10 #[iv p0, iv p1, .unset, .unset, .unset, .unset, .unset, .unset, .unset, .unset] [])) _
    refine XS.iconst X0.here hx rfl (hb hby at_10) ?_
    show Steps p.tables e below (s₁.setTop (mkF m 11 #[iv p0, iv p1, .unset, .unset, .unset, .unset, .unset, .unset, .unset, .unset] [(.int (0 : Int32))])) _
    refine XS.istoreN X0.here hx rfl (hb hby at_11) rfl (l' := #[iv p0, iv p1, iv (0 : Int32), .unset, .unset, .unset, .unset, .unset, .unset, .unset]) rfl ?_
    show Steps p.tables e below (s₁.setTop (mkF m 12 #[iv p0, iv p1, iv (0 : Int32), .unset, .unset, .unset, .unset, .unset, .unset, .unset] [])) _
    refine XS.iloadN X0.here hx rfl (hb hby at_12) rfl ?_
    show Steps p.tables e below (s₁.setTop (mkF m 13 #[iv p0, iv p1, iv (0 : Int32), .unset, .unset, .unset, .unset, .unset, .unset, .unset] [(.int p1)])) _
    refine XS.iconst X0.here hx rfl (hb hby at_13) ?_
    show Steps p.tables e below (s₁.setTop (mkF m 14 #[iv p0, iv p1, iv (0 : Int32), .unset, .unset, .unset, .unset, .unset, .unset, .unset] [(.int (1 : Int32)), (.int p1)])) _
    refine XS.iand X0.here hx rfl (hb hby at_14) rfl ?_
    show Steps p.tables e below (s₁.setTop (mkF m 15 #[iv p0, iv p1, iv (0 : Int32), .unset, .unset, .unset, .unset, .unset, .unset, .unset] [(.int (p1 &&& (1 : Int32)))])) _
    rewrite [hk1]
    show Steps p.tables e below (s₁.setTop (mkF m 15 #[iv p0, iv p1, iv (0 : Int32), .unset, .unset, .unset, .unset, .unset, .unset, .unset] [(.int (0 : Int32))])) _
    refine XS.ifYes X0.here hx rfl (pc0 := 15) (pc' := 22) rfl (hb hby at_15) rfl ((if0 _ _).trans (teq (by decide +kernel : (0 : Int32) = (0 : Int32))).1) (by decide) (by decide) ?_
    show Steps p.tables e below (s₁.setTop (mkF m 22 #[iv p0, iv p1, iv (0 : Int32), .unset, .unset, .unset, .unset, .unset, .unset, .unset] [])) _
    refine XS.iconst X0.here hx rfl (hb hby at_22) ?_
    show Steps p.tables e below (s₁.setTop (mkF m 23 #[iv p0, iv p1, iv (0 : Int32), .unset, .unset, .unset, .unset, .unset, .unset, .unset] [(.int (0 : Int32))])) _
    refine XS.istoreN X0.here hx rfl (hb hby at_23) rfl (l' := #[iv p0, iv p1, iv (0 : Int32), iv (0 : Int32), .unset, .unset, .unset, .unset, .unset, .unset]) rfl ?_
    show Steps p.tables e below (s₁.setTop (mkF m 24 #[iv p0, iv p1, iv (0 : Int32), iv (0 : Int32), .unset, .unset, .unset, .unset, .unset, .unset] [])) _
    refine XS.iloadN X0.here hx rfl (hb hby at_24) rfl ?_
    show Steps p.tables e below (s₁.setTop (mkF m 25 #[iv p0, iv p1, iv (0 : Int32), iv (0 : Int32), .unset, .unset, .unset, .unset, .unset, .unset] [(.int (0 : Int32))])) _
    refine st1 _ ?_
    show Steps p.tables e below (T1.setTop (mkF m 28 #[iv p0, iv p1, iv (0 : Int32), iv (0 : Int32), .unset, .unset, .unset, .unset, .unset, .unset] [(.ref w_Outcome_VIOLATES)])) _
    refine XS.astore X1.here hx rfl (hb hby at_28) rfl rfl (l' := #[iv p0, iv p1, iv (0 : Int32), iv (0 : Int32), rv w_Outcome_VIOLATES, .unset, .unset, .unset, .unset, .unset]) rfl ?_
    show Steps p.tables e below (T1.setTop (mkF m 30 #[iv p0, iv p1, iv (0 : Int32), iv (0 : Int32), rv w_Outcome_VIOLATES, .unset, .unset, .unset, .unset, .unset] [])) _
    refine XS.iloadN X1.here hx rfl (hb hby at_30) rfl ?_
    show Steps p.tables e below (T1.setTop (mkF m 31 #[iv p0, iv p1, iv (0 : Int32), iv (0 : Int32), rv w_Outcome_VIOLATES, .unset, .unset, .unset, .unset, .unset] [(.int (0 : Int32))])) _
    refine st2 _ ?_
    show Steps p.tables e below (T2.setTop (mkF m 34 #[iv p0, iv p1, iv (0 : Int32), iv (0 : Int32), rv w_Outcome_VIOLATES, .unset, .unset, .unset, .unset, .unset] [(.ref w_Outcome_VIOLATES)])) _
    refine XS.astore X2.here hx rfl (hb hby at_34) rfl rfl (l' := #[iv p0, iv p1, iv (0 : Int32), iv (0 : Int32), rv w_Outcome_VIOLATES, rv w_Outcome_VIOLATES, .unset, .unset, .unset, .unset]) rfl ?_
    show Steps p.tables e below (T2.setTop (mkF m 36 #[iv p0, iv p1, iv (0 : Int32), iv (0 : Int32), rv w_Outcome_VIOLATES, rv w_Outcome_VIOLATES, .unset, .unset, .unset, .unset] [])) _
    refine XS.aload X2.here hx rfl (hb hby at_36) rfl rfl ?_
    show Steps p.tables e below (T2.setTop (mkF m 38 #[iv p0, iv p1, iv (0 : Int32), iv (0 : Int32), rv w_Outcome_VIOLATES, rv w_Outcome_VIOLATES, .unset, .unset, .unset, .unset] [(.ref w_Outcome_VIOLATES)])) _
    refine XS.ifnullNo X2.here hx rfl (hb hby at_38) rfl ?_
    show Steps p.tables e below (T2.setTop (mkF m 41 #[iv p0, iv p1, iv (0 : Int32), iv (0 : Int32), rv w_Outcome_VIOLATES, rv w_Outcome_VIOLATES, .unset, .unset, .unset, .unset] [])) _
    refine XS.aload X2.here hx rfl (hb hby at_41) rfl rfl ?_
    show Steps p.tables e below (T2.setTop (mkF m 43 #[iv p0, iv p1, iv (0 : Int32), iv (0 : Int32), rv w_Outcome_VIOLATES, rv w_Outcome_VIOLATES, .unset, .unset, .unset, .unset] [(.ref w_Outcome_VIOLATES)])) _
    refine XS.ifnonnullYes X2.here hx rfl (pc0 := 43) (pc' := 48) rfl (hb hby at_43) rfl (by decide) (by decide) ?_
    show Steps p.tables e below (T2.setTop (mkF m 48 #[iv p0, iv p1, iv (0 : Int32), iv (0 : Int32), rv w_Outcome_VIOLATES, rv w_Outcome_VIOLATES, .unset, .unset, .unset, .unset] [])) _
    refine XS.aload X2.here hx rfl (hb hby at_48) rfl rfl ?_
    show Steps p.tables e below (T2.setTop (mkF m 50 #[iv p0, iv p1, iv (0 : Int32), iv (0 : Int32), rv w_Outcome_VIOLATES, rv w_Outcome_VIOLATES, .unset, .unset, .unset, .unset] [(.ref w_Outcome_VIOLATES)])) _
    refine st3 _ ?_
    show Steps p.tables e below (T3.setTop (mkF m 53 #[iv p0, iv p1, iv (0 : Int32), iv (0 : Int32), rv w_Outcome_VIOLATES, rv w_Outcome_VIOLATES, .unset, .unset, .unset, .unset] [(.ref w_Outcome_CONFORMS), (.ref w_Outcome_VIOLATES)])) _
    refine Jvm.RoadKit.acmp (g := (mkF m 53 #[iv p0, iv p1, iv (0 : Int32), iv (0 : Int32), rv w_Outcome_VIOLATES, rv w_Outcome_VIOLATES, .unset, .unset, .unset, .unset] [(.ref w_Outcome_CONFORMS), (.ref w_Outcome_VIOLATES)])) X3 hx rfl rfl rfl (pc0 := 53) (pc' := 60) (same := false) rfl (hb hby at_53) rfl (decide_eq_false fun q => (Ne.symm ne_w_Outcome_CONFORMS_w_Outcome_VIOLATES) (Value.ref.inj q)) (by decide) (by decide) ?_
    show Steps p.tables e below (T3.setTop (mkF m 60 #[iv p0, iv p1, iv (0 : Int32), iv (0 : Int32), rv w_Outcome_VIOLATES, rv w_Outcome_VIOLATES, .unset, .unset, .unset, .unset] [])) _
    refine XS.iconst X3.here hx rfl (hb hby at_60) ?_
    show Steps p.tables e below (T3.setTop (mkF m 61 #[iv p0, iv p1, iv (0 : Int32), iv (0 : Int32), rv w_Outcome_VIOLATES, rv w_Outcome_VIOLATES, .unset, .unset, .unset, .unset] [(.int (0 : Int32))])) _
    refine XS.iloadN X3.here hx rfl (hb hby at_61) rfl ?_
    show Steps p.tables e below (T3.setTop (mkF m 62 #[iv p0, iv p1, iv (0 : Int32), iv (0 : Int32), rv w_Outcome_VIOLATES, rv w_Outcome_VIOLATES, .unset, .unset, .unset, .unset] [(.int (0 : Int32)), (.int (0 : Int32))])) _
    refine XS.icmpNo X3.here hx rfl (hb hby at_62) rfl (teq (by decide +kernel : (0 : Int32) = (0 : Int32))).2 ?_
    show Steps p.tables e below (T3.setTop (mkF m 65 #[iv p0, iv p1, iv (0 : Int32), iv (0 : Int32), rv w_Outcome_VIOLATES, rv w_Outcome_VIOLATES, .unset, .unset, .unset, .unset] [])) _
    refine XS.aload X3.here hx rfl (hb hby at_65) rfl rfl ?_
    show Steps p.tables e below (T3.setTop (mkF m 67 #[iv p0, iv p1, iv (0 : Int32), iv (0 : Int32), rv w_Outcome_VIOLATES, rv w_Outcome_VIOLATES, .unset, .unset, .unset, .unset] [(.ref w_Outcome_VIOLATES)])) _
    refine st4 _ ?_
    show Steps p.tables e below (T4.setTop (mkF m 70 #[iv p0, iv p1, iv (0 : Int32), iv (0 : Int32), rv w_Outcome_VIOLATES, rv w_Outcome_VIOLATES, .unset, .unset, .unset, .unset] [(.ref w_Outcome_VIOLATES), (.ref w_Outcome_VIOLATES)])) _
    refine Jvm.RoadKit.acmp (g := (mkF m 70 #[iv p0, iv p1, iv (0 : Int32), iv (0 : Int32), rv w_Outcome_VIOLATES, rv w_Outcome_VIOLATES, .unset, .unset, .unset, .unset] [(.ref w_Outcome_VIOLATES), (.ref w_Outcome_VIOLATES)])) X4 hx rfl rfl rfl (pc0 := 70) (pc' := 73) (same := true) rfl (hb hby at_70) rfl (decide_eq_true rfl) (by decide) (by decide) ?_
    show Steps p.tables e below (T4.setTop (mkF m 73 #[iv p0, iv p1, iv (0 : Int32), iv (0 : Int32), rv w_Outcome_VIOLATES, rv w_Outcome_VIOLATES, .unset, .unset, .unset, .unset] [])) _
    refine XS.iconst X4.here hx rfl (hb hby at_73) ?_
    show Steps p.tables e below (T4.setTop (mkF m 74 #[iv p0, iv p1, iv (0 : Int32), iv (0 : Int32), rv w_Outcome_VIOLATES, rv w_Outcome_VIOLATES, .unset, .unset, .unset, .unset] [(.int (1 : Int32))])) _
    refine XS.goto X4.here hx rfl (pc0 := 74) (pc' := 78) rfl (hb hby at_74) (by decide) (by decide) ?_
    show Steps p.tables e below (T4.setTop (mkF m 78 #[iv p0, iv p1, iv (0 : Int32), iv (0 : Int32), rv w_Outcome_VIOLATES, rv w_Outcome_VIOLATES, .unset, .unset, .unset, .unset] [(.int (1 : Int32))])) _
    refine XS.iloadN X4.here hx rfl (hb hby at_78) rfl ?_
    show Steps p.tables e below (T4.setTop (mkF m 79 #[iv p0, iv p1, iv (0 : Int32), iv (0 : Int32), rv w_Outcome_VIOLATES, rv w_Outcome_VIOLATES, .unset, .unset, .unset, .unset] [(.int (0 : Int32)), (.int (1 : Int32))])) _
    refine XS.ifNo X4.here hx rfl (hb hby at_79) rfl ((if0 _ _).trans (teq (by decide +kernel : (0 : Int32) = (0 : Int32))).2) ?_
    show Steps p.tables e below (T4.setTop (mkF m 82 #[iv p0, iv p1, iv (0 : Int32), iv (0 : Int32), rv w_Outcome_VIOLATES, rv w_Outcome_VIOLATES, .unset, .unset, .unset, .unset] [(.int (1 : Int32))])) _
    refine XS.iconst X4.here hx rfl (hb hby at_82) ?_
    show Steps p.tables e below (T4.setTop (mkF m 83 #[iv p0, iv p1, iv (0 : Int32), iv (0 : Int32), rv w_Outcome_VIOLATES, rv w_Outcome_VIOLATES, .unset, .unset, .unset, .unset] [(.int (1 : Int32)), (.int (1 : Int32))])) _
    refine XS.goto X4.here hx rfl (pc0 := 83) (pc' := 87) rfl (hb hby at_83) (by decide) (by decide) ?_
    show Steps p.tables e below (T4.setTop (mkF m 87 #[iv p0, iv p1, iv (0 : Int32), iv (0 : Int32), rv w_Outcome_VIOLATES, rv w_Outcome_VIOLATES, .unset, .unset, .unset, .unset] [(.int (1 : Int32)), (.int (1 : Int32))])) _
    refine XS.icmpNo X4.here hx rfl (hb hby at_87) rfl (teq (by decide +kernel : (1 : Int32) = (1 : Int32))).2 ?_
    show Steps p.tables e below (T4.setTop (mkF m 90 #[iv p0, iv p1, iv (0 : Int32), iv (0 : Int32), rv w_Outcome_VIOLATES, rv w_Outcome_VIOLATES, .unset, .unset, .unset, .unset] [])) _
    refine XS.iconst X4.here hx rfl (hb hby at_90) ?_
    show Steps p.tables e below (T4.setTop (mkF m 91 #[iv p0, iv p1, iv (0 : Int32), iv (0 : Int32), rv w_Outcome_VIOLATES, rv w_Outcome_VIOLATES, .unset, .unset, .unset, .unset] [(.int (1 : Int32))])) _
    refine XS.goto X4.here hx rfl (pc0 := 91) (pc' := 95) rfl (hb hby at_91) (by decide) (by decide) ?_
    show Steps p.tables e below (T4.setTop (mkF m 95 #[iv p0, iv p1, iv (0 : Int32), iv (0 : Int32), rv w_Outcome_VIOLATES, rv w_Outcome_VIOLATES, .unset, .unset, .unset, .unset] [(.int (1 : Int32))])) _
    refine XS.istore X4.here hx rfl (hb hby at_95) rfl (l' := #[iv p0, iv p1, iv (0 : Int32), iv (0 : Int32), rv w_Outcome_VIOLATES, rv w_Outcome_VIOLATES, iv (1 : Int32), .unset, .unset, .unset]) rfl ?_
    show Steps p.tables e below (T4.setTop (mkF m 97 #[iv p0, iv p1, iv (0 : Int32), iv (0 : Int32), rv w_Outcome_VIOLATES, rv w_Outcome_VIOLATES, iv (1 : Int32), .unset, .unset, .unset] [])) _
    refine XS.aload X4.here hx rfl (hb hby at_97) rfl rfl ?_
    show Steps p.tables e below (T4.setTop (mkF m 99 #[iv p0, iv p1, iv (0 : Int32), iv (0 : Int32), rv w_Outcome_VIOLATES, rv w_Outcome_VIOLATES, iv (1 : Int32), .unset, .unset, .unset] [(.ref w_Outcome_VIOLATES)])) _
    refine st5 _ ?_
    show Steps p.tables e below (T5.setTop (mkF m 102 #[iv p0, iv p1, iv (0 : Int32), iv (0 : Int32), rv w_Outcome_VIOLATES, rv w_Outcome_VIOLATES, iv (1 : Int32), .unset, .unset, .unset] [(.ref w_Outcome_UNDETERMINED), (.ref w_Outcome_VIOLATES)])) _
    refine Jvm.RoadKit.acmp (g := (mkF m 102 #[iv p0, iv p1, iv (0 : Int32), iv (0 : Int32), rv w_Outcome_VIOLATES, rv w_Outcome_VIOLATES, iv (1 : Int32), .unset, .unset, .unset] [(.ref w_Outcome_UNDETERMINED), (.ref w_Outcome_VIOLATES)])) X5 hx rfl rfl rfl (pc0 := 102) (pc' := 105) (same := false) rfl (hb hby at_102) rfl (decide_eq_false fun q => (Ne.symm ne_w_Outcome_UNDETERMINED_w_Outcome_VIOLATES) (Value.ref.inj q)) (by decide) (by decide) ?_
    show Steps p.tables e below (T5.setTop (mkF m 105 #[iv p0, iv p1, iv (0 : Int32), iv (0 : Int32), rv w_Outcome_VIOLATES, rv w_Outcome_VIOLATES, iv (1 : Int32), .unset, .unset, .unset] [])) _
    refine XS.iconst X5.here hx rfl (hb hby at_105) ?_
    show Steps p.tables e below (T5.setTop (mkF m 106 #[iv p0, iv p1, iv (0 : Int32), iv (0 : Int32), rv w_Outcome_VIOLATES, rv w_Outcome_VIOLATES, iv (1 : Int32), .unset, .unset, .unset] [(.int (1 : Int32))])) _
    refine XS.goto X5.here hx rfl (pc0 := 106) (pc' := 110) rfl (hb hby at_106) (by decide) (by decide) ?_
    show Steps p.tables e below (T5.setTop (mkF m 110 #[iv p0, iv p1, iv (0 : Int32), iv (0 : Int32), rv w_Outcome_VIOLATES, rv w_Outcome_VIOLATES, iv (1 : Int32), .unset, .unset, .unset] [(.int (1 : Int32))])) _
    refine XS.istore X5.here hx rfl (hb hby at_110) rfl (l' := #[iv p0, iv p1, iv (0 : Int32), iv (0 : Int32), rv w_Outcome_VIOLATES, rv w_Outcome_VIOLATES, iv (1 : Int32), iv (1 : Int32), .unset, .unset]) rfl ?_
    show Steps p.tables e below (T5.setTop (mkF m 112 #[iv p0, iv p1, iv (0 : Int32), iv (0 : Int32), rv w_Outcome_VIOLATES, rv w_Outcome_VIOLATES, iv (1 : Int32), iv (1 : Int32), .unset, .unset] [])) _
    refine XS.aload X5.here hx rfl (hb hby at_112) rfl rfl ?_
    show Steps p.tables e below (T5.setTop (mkF m 114 #[iv p0, iv p1, iv (0 : Int32), iv (0 : Int32), rv w_Outcome_VIOLATES, rv w_Outcome_VIOLATES, iv (1 : Int32), iv (1 : Int32), .unset, .unset] [(.ref w_Outcome_VIOLATES)])) _
    refine st6.trans ?_
    show Steps p.tables e below (T6.setTop (mkF m 117 #[iv p0, iv p1, iv (0 : Int32), iv (0 : Int32), rv w_Outcome_VIOLATES, rv w_Outcome_VIOLATES, iv (1 : Int32), iv (1 : Int32), .unset, .unset] [(.ref w_Outcome_CONFORMS)])) _
    refine XS.iloadN X6.here hx rfl (hb hby at_117) rfl ?_
    show Steps p.tables e below (T6.setTop (mkF m 118 #[iv p0, iv p1, iv (0 : Int32), iv (0 : Int32), rv w_Outcome_VIOLATES, rv w_Outcome_VIOLATES, iv (1 : Int32), iv (1 : Int32), .unset, .unset] [(.int (0 : Int32)), (.ref w_Outcome_CONFORMS)])) _
    refine XS.ifNo X6.here hx rfl (hb hby at_118) rfl ((if0 _ _).trans (teq (by decide +kernel : (0 : Int32) = (0 : Int32))).2) ?_
    show Steps p.tables e below (T6.setTop (mkF m 121 #[iv p0, iv p1, iv (0 : Int32), iv (0 : Int32), rv w_Outcome_VIOLATES, rv w_Outcome_VIOLATES, iv (1 : Int32), iv (1 : Int32), .unset, .unset] [(.ref w_Outcome_CONFORMS)])) _
    refine XS.iconst X6.here hx rfl (hb hby at_121) ?_
    show Steps p.tables e below (T6.setTop (mkF m 122 #[iv p0, iv p1, iv (0 : Int32), iv (0 : Int32), rv w_Outcome_VIOLATES, rv w_Outcome_VIOLATES, iv (1 : Int32), iv (1 : Int32), .unset, .unset] [(.int (1 : Int32)), (.ref w_Outcome_CONFORMS)])) _
    refine XS.goto X6.here hx rfl (pc0 := 122) (pc' := 126) rfl (hb hby at_122) (by decide) (by decide) ?_
    show Steps p.tables e below (T6.setTop (mkF m 126 #[iv p0, iv p1, iv (0 : Int32), iv (0 : Int32), rv w_Outcome_VIOLATES, rv w_Outcome_VIOLATES, iv (1 : Int32), iv (1 : Int32), .unset, .unset] [(.int (1 : Int32)), (.ref w_Outcome_CONFORMS)])) _
    refine st7 _ ?_
    show Steps p.tables e below (T7.setTop (mkF m 129 #[iv p0, iv p1, iv (0 : Int32), iv (0 : Int32), rv w_Outcome_VIOLATES, rv w_Outcome_VIOLATES, iv (1 : Int32), iv (1 : Int32), .unset, .unset] [(.ref w_Outcome_CONFORMS), (.ref w_Outcome_CONFORMS)])) _
    refine Jvm.RoadKit.acmp (g := (mkF m 129 #[iv p0, iv p1, iv (0 : Int32), iv (0 : Int32), rv w_Outcome_VIOLATES, rv w_Outcome_VIOLATES, iv (1 : Int32), iv (1 : Int32), .unset, .unset] [(.ref w_Outcome_CONFORMS), (.ref w_Outcome_CONFORMS)])) X7 hx rfl rfl rfl (pc0 := 129) (pc' := 132) (same := true) rfl (hb hby at_129) rfl (decide_eq_true rfl) (by decide) (by decide) ?_
    show Steps p.tables e below (T7.setTop (mkF m 132 #[iv p0, iv p1, iv (0 : Int32), iv (0 : Int32), rv w_Outcome_VIOLATES, rv w_Outcome_VIOLATES, iv (1 : Int32), iv (1 : Int32), .unset, .unset] [])) _
    refine XS.iconst X7.here hx rfl (hb hby at_132) ?_
    show Steps p.tables e below (T7.setTop (mkF m 133 #[iv p0, iv p1, iv (0 : Int32), iv (0 : Int32), rv w_Outcome_VIOLATES, rv w_Outcome_VIOLATES, iv (1 : Int32), iv (1 : Int32), .unset, .unset] [(.int (1 : Int32))])) _
    refine XS.goto X7.here hx rfl (pc0 := 133) (pc' := 137) rfl (hb hby at_133) (by decide) (by decide) ?_
    show Steps p.tables e below (T7.setTop (mkF m 137 #[iv p0, iv p1, iv (0 : Int32), iv (0 : Int32), rv w_Outcome_VIOLATES, rv w_Outcome_VIOLATES, iv (1 : Int32), iv (1 : Int32), .unset, .unset] [(.int (1 : Int32))])) _
    refine XS.istore X7.here hx rfl (hb hby at_137) rfl (l' := #[iv p0, iv p1, iv (0 : Int32), iv (0 : Int32), rv w_Outcome_VIOLATES, rv w_Outcome_VIOLATES, iv (1 : Int32), iv (1 : Int32), iv (1 : Int32), .unset]) rfl ?_
    show Steps p.tables e below (T7.setTop (mkF m 139 #[iv p0, iv p1, iv (0 : Int32), iv (0 : Int32), rv w_Outcome_VIOLATES, rv w_Outcome_VIOLATES, iv (1 : Int32), iv (1 : Int32), iv (1 : Int32), .unset] [])) _
    refine XS.aload X7.here hx rfl (hb hby at_139) rfl rfl ?_
    show Steps p.tables e below (T7.setTop (mkF m 141 #[iv p0, iv p1, iv (0 : Int32), iv (0 : Int32), rv w_Outcome_VIOLATES, rv w_Outcome_VIOLATES, iv (1 : Int32), iv (1 : Int32), iv (1 : Int32), .unset] [(.ref w_Outcome_VIOLATES)])) _
    refine XS.aload X7.here hx rfl (hb hby at_141) rfl rfl ?_
    show Steps p.tables e below (T7.setTop (mkF m 143 #[iv p0, iv p1, iv (0 : Int32), iv (0 : Int32), rv w_Outcome_VIOLATES, rv w_Outcome_VIOLATES, iv (1 : Int32), iv (1 : Int32), iv (1 : Int32), .unset] [(.ref w_Outcome_VIOLATES), (.ref w_Outcome_VIOLATES)])) _
    refine st8.trans ?_
    show Steps p.tables e below (T8.setTop (mkF m 146 #[iv p0, iv p1, iv (0 : Int32), iv (0 : Int32), rv w_Outcome_VIOLATES, rv w_Outcome_VIOLATES, iv (1 : Int32), iv (1 : Int32), iv (1 : Int32), .unset] [(.ref w_Outcome_VIOLATES)])) _
    refine XS.iloadN X8.here hx rfl (hb hby at_146) rfl ?_
    show Steps p.tables e below (T8.setTop (mkF m 147 #[iv p0, iv p1, iv (0 : Int32), iv (0 : Int32), rv w_Outcome_VIOLATES, rv w_Outcome_VIOLATES, iv (1 : Int32), iv (1 : Int32), iv (1 : Int32), .unset] [(.int (0 : Int32)), (.ref w_Outcome_VIOLATES)])) _
    refine XS.ifYes X8.here hx rfl (pc0 := 147) (pc' := 158) rfl (hb hby at_147) rfl ((if0 _ _).trans (teq (by decide +kernel : (0 : Int32) = (0 : Int32))).1) (by decide) (by decide) ?_
    show Steps p.tables e below (T8.setTop (mkF m 158 #[iv p0, iv p1, iv (0 : Int32), iv (0 : Int32), rv w_Outcome_VIOLATES, rv w_Outcome_VIOLATES, iv (1 : Int32), iv (1 : Int32), iv (1 : Int32), .unset] [(.ref w_Outcome_VIOLATES)])) _
    refine XS.iconst X8.here hx rfl (hb hby at_158) ?_
    show Steps p.tables e below (T8.setTop (mkF m 159 #[iv p0, iv p1, iv (0 : Int32), iv (0 : Int32), rv w_Outcome_VIOLATES, rv w_Outcome_VIOLATES, iv (1 : Int32), iv (1 : Int32), iv (1 : Int32), .unset] [(.int (0 : Int32)), (.ref w_Outcome_VIOLATES)])) _
    refine st9 _ ?_
    show Steps p.tables e below (T9.setTop (mkF m 162 #[iv p0, iv p1, iv (0 : Int32), iv (0 : Int32), rv w_Outcome_VIOLATES, rv w_Outcome_VIOLATES, iv (1 : Int32), iv (1 : Int32), iv (1 : Int32), .unset] [(.ref w_Outcome_VIOLATES), (.ref w_Outcome_VIOLATES)])) _
    refine Jvm.RoadKit.acmp (g := (mkF m 162 #[iv p0, iv p1, iv (0 : Int32), iv (0 : Int32), rv w_Outcome_VIOLATES, rv w_Outcome_VIOLATES, iv (1 : Int32), iv (1 : Int32), iv (1 : Int32), .unset] [(.ref w_Outcome_VIOLATES), (.ref w_Outcome_VIOLATES)])) X9 hx rfl rfl rfl (pc0 := 162) (pc' := 165) (same := true) rfl (hb hby at_162) rfl (decide_eq_true rfl) (by decide) (by decide) ?_
    show Steps p.tables e below (T9.setTop (mkF m 165 #[iv p0, iv p1, iv (0 : Int32), iv (0 : Int32), rv w_Outcome_VIOLATES, rv w_Outcome_VIOLATES, iv (1 : Int32), iv (1 : Int32), iv (1 : Int32), .unset] [])) _
    refine XS.iconst X9.here hx rfl (hb hby at_165) ?_
    show Steps p.tables e below (T9.setTop (mkF m 166 #[iv p0, iv p1, iv (0 : Int32), iv (0 : Int32), rv w_Outcome_VIOLATES, rv w_Outcome_VIOLATES, iv (1 : Int32), iv (1 : Int32), iv (1 : Int32), .unset] [(.int (1 : Int32))])) _
    refine XS.goto X9.here hx rfl (pc0 := 166) (pc' := 170) rfl (hb hby at_166) (by decide) (by decide) ?_
    show Steps p.tables e below (T9.setTop (mkF m 170 #[iv p0, iv p1, iv (0 : Int32), iv (0 : Int32), rv w_Outcome_VIOLATES, rv w_Outcome_VIOLATES, iv (1 : Int32), iv (1 : Int32), iv (1 : Int32), .unset] [(.int (1 : Int32))])) _
    refine XS.istore X9.here hx rfl (hb hby at_170) rfl (l' := #[iv p0, iv p1, iv (0 : Int32), iv (0 : Int32), rv w_Outcome_VIOLATES, rv w_Outcome_VIOLATES, iv (1 : Int32), iv (1 : Int32), iv (1 : Int32), iv (1 : Int32)]) rfl ?_
    show Steps p.tables e below (T9.setTop (mkF m 172 #[iv p0, iv p1, iv (0 : Int32), iv (0 : Int32), rv w_Outcome_VIOLATES, rv w_Outcome_VIOLATES, iv (1 : Int32), iv (1 : Int32), iv (1 : Int32), iv (1 : Int32)] [])) _
    refine XS.iload X9.here hx rfl (hb hby at_172) rfl ?_
    show Steps p.tables e below (T9.setTop (mkF m 174 #[iv p0, iv p1, iv (0 : Int32), iv (0 : Int32), rv w_Outcome_VIOLATES, rv w_Outcome_VIOLATES, iv (1 : Int32), iv (1 : Int32), iv (1 : Int32), iv (1 : Int32)] [(.int (1 : Int32))])) _
    refine XS.ifNo X9.here hx rfl (hb hby at_174) rfl ((if0 _ _).trans (feq (by decide +kernel : ¬ ((1 : Int32) = (0 : Int32)))).1) ?_
    show Steps p.tables e below (T9.setTop (mkF m 177 #[iv p0, iv p1, iv (0 : Int32), iv (0 : Int32), rv w_Outcome_VIOLATES, rv w_Outcome_VIOLATES, iv (1 : Int32), iv (1 : Int32), iv (1 : Int32), iv (1 : Int32)] [])) _
    refine XS.iload X9.here hx rfl (hb hby at_177) rfl ?_
    show Steps p.tables e below (T9.setTop (mkF m 179 #[iv p0, iv p1, iv (0 : Int32), iv (0 : Int32), rv w_Outcome_VIOLATES, rv w_Outcome_VIOLATES, iv (1 : Int32), iv (1 : Int32), iv (1 : Int32), iv (1 : Int32)] [(.int (1 : Int32))])) _
    refine XS.ifNo X9.here hx rfl (hb hby at_179) rfl ((if0 _ _).trans (feq (by decide +kernel : ¬ ((1 : Int32) = (0 : Int32)))).1) ?_
    show Steps p.tables e below (T9.setTop (mkF m 182 #[iv p0, iv p1, iv (0 : Int32), iv (0 : Int32), rv w_Outcome_VIOLATES, rv w_Outcome_VIOLATES, iv (1 : Int32), iv (1 : Int32), iv (1 : Int32), iv (1 : Int32)] [])) _
    refine XS.iload X9.here hx rfl (hb hby at_182) rfl ?_
    show Steps p.tables e below (T9.setTop (mkF m 184 #[iv p0, iv p1, iv (0 : Int32), iv (0 : Int32), rv w_Outcome_VIOLATES, rv w_Outcome_VIOLATES, iv (1 : Int32), iv (1 : Int32), iv (1 : Int32), iv (1 : Int32)] [(.int (1 : Int32))])) _
    refine XS.ifNo X9.here hx rfl (hb hby at_184) rfl ((if0 _ _).trans (feq (by decide +kernel : ¬ ((1 : Int32) = (0 : Int32)))).1) ?_
    show Steps p.tables e below (T9.setTop (mkF m 187 #[iv p0, iv p1, iv (0 : Int32), iv (0 : Int32), rv w_Outcome_VIOLATES, rv w_Outcome_VIOLATES, iv (1 : Int32), iv (1 : Int32), iv (1 : Int32), iv (1 : Int32)] [])) _
    refine XS.iload X9.here hx rfl (hb hby at_187) rfl ?_
    show Steps p.tables e below (T9.setTop (mkF m 189 #[iv p0, iv p1, iv (0 : Int32), iv (0 : Int32), rv w_Outcome_VIOLATES, rv w_Outcome_VIOLATES, iv (1 : Int32), iv (1 : Int32), iv (1 : Int32), iv (1 : Int32)] [(.int (1 : Int32))])) _
    refine XS.ifNo X9.here hx rfl (hb hby at_189) rfl ((if0 _ _).trans (feq (by decide +kernel : ¬ ((1 : Int32) = (0 : Int32)))).1) ?_
    show Steps p.tables e below (T9.setTop (mkF m 192 #[iv p0, iv p1, iv (0 : Int32), iv (0 : Int32), rv w_Outcome_VIOLATES, rv w_Outcome_VIOLATES, iv (1 : Int32), iv (1 : Int32), iv (1 : Int32), iv (1 : Int32)] [])) _
    refine XS.iconst X9.here hx rfl (hb hby at_192) ?_
    show Steps p.tables e below (T9.setTop (mkF m 193 #[iv p0, iv p1, iv (0 : Int32), iv (0 : Int32), rv w_Outcome_VIOLATES, rv w_Outcome_VIOLATES, iv (1 : Int32), iv (1 : Int32), iv (1 : Int32), iv (1 : Int32)] [(.int (1 : Int32))])) _
    refine XS.goto X9.here hx rfl (pc0 := 193) (pc' := 197) rfl (hb hby at_193) (by decide) (by decide) ?_
    show Steps p.tables e below (T9.setTop (mkF m 197 #[iv p0, iv p1, iv (0 : Int32), iv (0 : Int32), rv w_Outcome_VIOLATES, rv w_Outcome_VIOLATES, iv (1 : Int32), iv (1 : Int32), iv (1 : Int32), iv (1 : Int32)] [(.int (1 : Int32))])) _
    exact retN X9 hx (t := .boolean) Bd.returns (by simp) (hb hby at_197) hr
  · exact ⟨rfl, N9⟩
set_option maxRecDepth 65536 in
set_option maxHeartbeats 40000000 in
theorem rm5_6 (l : Launch) (Z : State) (a0 : Array Value) (hw : ∀ d ∈ tables_1, d.before a0 Z = true) (ws : List Jvm.Cond) (w_Outcome_VIOLATES : Addr) (w_Outcome_CONFORMS : Addr) (mr_Outcome : Addr) (h0 : Heap) (n0 : Nat) (Z0 : n0 ≤ h0.size) (E_w_Outcome_VIOLATES : Exa Z h0 w_Outcome_VIOLATES "com/example/shapewell/shapewell/Outcome") (M_mr_Outcome : own_Mir Z "com/example/shapewell/shapewell/Outcome" mr_Outcome) (E_w_Outcome_CONFORMS : Exa Z h0 w_Outcome_CONFORMS "com/example/shapewell/shapewell/Outcome") (F_w_Outcome_VIOLATES_ordinal : Fld Z h0 w_Outcome_VIOLATES "java/lang/Enum" "ordinal" "I" (.int (0 : Int32))) (F_w_Outcome_CONFORMS_ordinal : Fld Z h0 w_Outcome_CONFORMS "java/lang/Enum" "ordinal" "I" (.int (2 : Int32))) :
    MetFree l (⟨"java/lang/Enum", "compareTo", "(Ljava/lang/Enum;)I"⟩ : MethodName) (head1 (Jvm.Cond.code (⟨"java/lang/Enum", "compareTo", "(Ljava/lang/Enum;)I"⟩ : MethodName) jdk_37_method_8_code 4 (some .int) :: ws) ({ frames := 1, cells := 0, slots := 0, locals := 15 } : Room)) (fun a U => a = #[(.ref w_Outcome_VIOLATES), (.ref w_Outcome_CONFORMS)] ∧ Z.Warmed39 U.vm ∧ U.heap = h0) (fun _ _ _ _ _ => True) (fun _ U o U' => ∃ v L, o = .returned v ∧ own_QP (some (.int (-2 : Int32))) h0 n0 v U'.heap L ∧ FrameEnd U o U' L ({ frames := 1, cells := 0, slots := 0, locals := 15 } : Room).cells ({ frames := 1, cells := 0, slots := 0, locals := 15 } : Room).slots) := by
  refine MetFree.of_bodySF (plainFor_of_name pn_1) hisR ?_
  intro p e s m args below meth c s₁ Bd hml0 hP hK
  obtain ⟨rfl, hZ, hh⟩ := hP
  have hx := Bd.exec
  have hby := Bd.bytes
  have hml : c.maxLocals = 4 := hml0
  have hown : s.vm.findClass "java/lang/Enum" = some m.cls := findClass_of_methodNamed Bd.named
  have hnm := (name_of_methodNamed Bd.named Bd.method).1
  have X0 : Stand p l e ({ frames := 1, cells := 0, slots := 0, locals := 15 } : Room) s m #[(.ref w_Outcome_VIOLATES), (.ref w_Outcome_CONFORMS)] below meth c s₁ [] 0 0 := Stand.of_body Bd
  have e0 : s₁.heap = h0 := by rw [← hh, Bd.state]; rfl
  have N0 := Fr.nil n0
  have pre0 : ∀ t, Steps p.tables e below (s₁.setTop (mkF m 0 #[rv w_Outcome_VIOLATES, rv w_Outcome_CONFORMS, .unset, .unset] [])) t → Steps p.tables e below (s₁.setTop (entryFrame m #[(.ref w_Outcome_VIOLATES), (.ref w_Outcome_CONFORMS)] 4)) t := fun t k => castTop (ef_5_RR m w_Outcome_VIOLATES w_Outcome_CONFORMS) k
  obtain ⟨T1, X1, e1, st1⟩ := own_gcls X0 hx hZ hown (hw _ (List.mem_of_getElem? (i := 37) rfl)) (hw _ (List.mem_of_getElem? (i := 38) rfl)) (hw _ (List.mem_of_getElem? (i := 40) rfl)) (hw _ (List.mem_of_getElem? (i := 39) rfl)) (hw _ (List.mem_of_getElem? (i := 41) rfl)) e0 E_w_Outcome_VIOLATES M_mr_Outcome (g := (mkF m 5 #[rv w_Outcome_VIOLATES, rv w_Outcome_CONFORMS, rv w_Outcome_CONFORMS, rv w_Outcome_VIOLATES] [(.ref w_Outcome_VIOLATES)])) rfl (by rw [hml]; rfl) rfl (hb hby d5_5) (by decide) (W := 0) (by show 2 * 0 + _ ≤ _; exact Nat.le_of_eq rfl) (by decide)
  obtain ⟨T2, X2, e2, st2⟩ := own_gcls X1 hx hZ hown (hw _ (List.mem_of_getElem? (i := 37) rfl)) (hw _ (List.mem_of_getElem? (i := 38) rfl)) (hw _ (List.mem_of_getElem? (i := 40) rfl)) (hw _ (List.mem_of_getElem? (i := 39) rfl)) (hw _ (List.mem_of_getElem? (i := 41) rfl)) e1 E_w_Outcome_CONFORMS M_mr_Outcome (g := (mkF m 9 #[rv w_Outcome_VIOLATES, rv w_Outcome_CONFORMS, rv w_Outcome_CONFORMS, rv w_Outcome_VIOLATES] [(.ref w_Outcome_CONFORMS), (.ref mr_Outcome)])) rfl (by rw [hml]; rfl) rfl (hb hby d5_9) (by decide) (W := 1) (by show 2 * 0 + _ ≤ _; exact Nat.le_of_eq rfl) (by decide)
  obtain ⟨T3, X3, e3, st3⟩ := getF X2 hx hZ hown (host := "") (Or.inl (hw _ (List.mem_of_getElem? (i := 24) rfl))) Via.refl e2 F_w_Outcome_VIOLATES_ordinal (g := (mkF m 35 #[rv w_Outcome_VIOLATES, rv w_Outcome_CONFORMS, rv w_Outcome_CONFORMS, rv w_Outcome_VIOLATES] [(.ref w_Outcome_VIOLATES)])) rfl rfl (hb hby d5_35)
  obtain ⟨T4, X4, e4, st4⟩ := getF X3 hx hZ hown (host := "") (Or.inl (hw _ (List.mem_of_getElem? (i := 24) rfl))) Via.refl e3 F_w_Outcome_CONFORMS_ordinal (g := (mkF m 39 #[rv w_Outcome_VIOLATES, rv w_Outcome_CONFORMS, rv w_Outcome_CONFORMS, rv w_Outcome_VIOLATES] [(.ref w_Outcome_CONFORMS), (.int (0 : Int32))])) rfl rfl (hb hby d5_39)
  obtain ⟨fs, hr, hrun, hended, hW, hsame⟩ := X4.leave (v := (some (.int (-2 : Int32)))) (fun h => by rw [Bd.returns] at h; cases h)
  refine ⟨_, _, pre0 _ ?_, hrun, hended, _, _, rfl, ?_, ⟨_, rfl⟩, hW, hsame.mono (by decide) (by decide)⟩
  · show Steps p.tables e below (s₁.setTop (mkF m 0 #[rv w_Outcome_VIOLATES, rv w_Outcome_CONFORMS, .unset, .unset] [])) _
    refine XS.aloadN X0.here hx rfl (hb hby d5_0) rfl rfl ?_
    show Steps p.tables e below (s₁.setTop (mkF m 1 #[rv w_Outcome_VIOLATES, rv w_Outcome_CONFORMS, .unset, .unset] [(.ref w_Outcome_CONFORMS)])) _
    refine XS.astoreN X0.here hx rfl (hb hby d5_1) rfl rfl (l' := #[rv w_Outcome_VIOLATES, rv w_Outcome_CONFORMS, rv w_Outcome_CONFORMS, .unset]) rfl ?_
    show Steps p.tables e below (s₁.setTop (mkF m 2 #[rv w_Outcome_VIOLATES, rv w_Outcome_CONFORMS, rv w_Outcome_CONFORMS, .unset] [])) _
    refine XS.aloadN X0.here hx rfl (hb hby d5_2) rfl rfl ?_
    show Steps p.tables e below (s₁.setTop (mkF m 3 #[rv w_Outcome_VIOLATES, rv w_Outcome_CONFORMS, rv w_Outcome_CONFORMS, .unset] [(.ref w_Outcome_VIOLATES)])) _
    refine XS.astoreN X0.here hx rfl (hb hby d5_3) rfl rfl (l' := #[rv w_Outcome_VIOLATES, rv w_Outcome_CONFORMS, rv w_Outcome_CONFORMS, rv w_Outcome_VIOLATES]) rfl ?_
    show Steps p.tables e below (s₁.setTop (mkF m 4 #[rv w_Outcome_VIOLATES, rv w_Outcome_CONFORMS, rv w_Outcome_CONFORMS, rv w_Outcome_VIOLATES] [])) _
    refine XS.aloadN X0.here hx rfl (hb hby d5_4) rfl rfl ?_
    show Steps p.tables e below (s₁.setTop (mkF m 5 #[rv w_Outcome_VIOLATES, rv w_Outcome_CONFORMS, rv w_Outcome_CONFORMS, rv w_Outcome_VIOLATES] [(.ref w_Outcome_VIOLATES)])) _
    refine st1 _ ?_
    show Steps p.tables e below (T1.setTop (mkF m 8 #[rv w_Outcome_VIOLATES, rv w_Outcome_CONFORMS, rv w_Outcome_CONFORMS, rv w_Outcome_VIOLATES] [(.ref mr_Outcome)])) _
    refine XS.aloadN X1.here hx rfl (hb hby d5_8) rfl rfl ?_
    show Steps p.tables e below (T1.setTop (mkF m 9 #[rv w_Outcome_VIOLATES, rv w_Outcome_CONFORMS, rv w_Outcome_CONFORMS, rv w_Outcome_VIOLATES] [(.ref w_Outcome_CONFORMS), (.ref mr_Outcome)])) _
    refine st2 _ ?_
    show Steps p.tables e below (T2.setTop (mkF m 12 #[rv w_Outcome_VIOLATES, rv w_Outcome_CONFORMS, rv w_Outcome_CONFORMS, rv w_Outcome_VIOLATES] [(.ref mr_Outcome), (.ref mr_Outcome)])) _
    refine Jvm.RoadKit.acmp (g := (mkF m 12 #[rv w_Outcome_VIOLATES, rv w_Outcome_CONFORMS, rv w_Outcome_CONFORMS, rv w_Outcome_VIOLATES] [(.ref mr_Outcome), (.ref mr_Outcome)])) X2 hx rfl rfl rfl (pc0 := 12) (pc' := 34) (same := true) rfl (hb hby d5_12) rfl (decide_eq_true rfl) (by decide) (by decide) ?_
    show Steps p.tables e below (T2.setTop (mkF m 34 #[rv w_Outcome_VIOLATES, rv w_Outcome_CONFORMS, rv w_Outcome_CONFORMS, rv w_Outcome_VIOLATES] [])) _
    refine XS.aloadN X2.here hx rfl (hb hby d5_34) rfl rfl ?_
    show Steps p.tables e below (T2.setTop (mkF m 35 #[rv w_Outcome_VIOLATES, rv w_Outcome_CONFORMS, rv w_Outcome_CONFORMS, rv w_Outcome_VIOLATES] [(.ref w_Outcome_VIOLATES)])) _
    refine st3 _ ?_
    show Steps p.tables e below (T3.setTop (mkF m 38 #[rv w_Outcome_VIOLATES, rv w_Outcome_CONFORMS, rv w_Outcome_CONFORMS, rv w_Outcome_VIOLATES] [(.int (0 : Int32))])) _
    refine XS.aloadN X3.here hx rfl (hb hby d5_38) rfl rfl ?_
    show Steps p.tables e below (T3.setTop (mkF m 39 #[rv w_Outcome_VIOLATES, rv w_Outcome_CONFORMS, rv w_Outcome_CONFORMS, rv w_Outcome_VIOLATES] [(.ref w_Outcome_CONFORMS), (.int (0 : Int32))])) _
    refine st4 _ ?_
    show Steps p.tables e below (T4.setTop (mkF m 42 #[rv w_Outcome_VIOLATES, rv w_Outcome_CONFORMS, rv w_Outcome_CONFORMS, rv w_Outcome_VIOLATES] [(.int (2 : Int32)), (.int (0 : Int32))])) _
    refine XS.isub X4.here hx rfl (hb hby d5_42) rfl ?_
    show Steps p.tables e below (T4.setTop (mkF m 43 #[rv w_Outcome_VIOLATES, rv w_Outcome_CONFORMS, rv w_Outcome_CONFORMS, rv w_Outcome_VIOLATES] [(.int ((0 : Int32) - (2 : Int32)))])) _
    rewrite [show ((0 : Int32) - (2 : Int32)) = (-2 : Int32) from by decide +kernel]
    show Steps p.tables e below (T4.setTop (mkF m 43 #[rv w_Outcome_VIOLATES, rv w_Outcome_CONFORMS, rv w_Outcome_CONFORMS, rv w_Outcome_VIOLATES] [(.int (-2 : Int32))])) _
    exact retI X4 hx Bd.returns (hb hby d5_43) hr
  · exact ⟨rfl, N0, e4⟩
set_option maxRecDepth 65536 in
set_option maxHeartbeats 40000000 in
theorem rm4_6 (l : Launch) (Z : State) (a0 : Array Value) (hw : ∀ d ∈ tables_1, d.before a0 Z = true) (ws : List Jvm.Cond) (w_Outcome_VIOLATES : Addr) (w_Outcome_CONFORMS : Addr) (mr_Outcome : Addr) (h0 : Heap) (n0 : Nat) (Z0 : n0 ≤ h0.size) (E_w_Outcome_VIOLATES : Exa Z h0 w_Outcome_VIOLATES "com/example/shapewell/shapewell/Outcome") (M_mr_Outcome : own_Mir Z "com/example/shapewell/shapewell/Outcome" mr_Outcome) (E_w_Outcome_CONFORMS : Exa Z h0 w_Outcome_CONFORMS "com/example/shapewell/shapewell/Outcome") (F_w_Outcome_VIOLATES_ordinal : Fld Z h0 w_Outcome_VIOLATES "java/lang/Enum" "ordinal" "I" (.int (0 : Int32))) (F_w_Outcome_CONFORMS_ordinal : Fld Z h0 w_Outcome_CONFORMS "java/lang/Enum" "ordinal" "I" (.int (2 : Int32))) :
    MetFree l (⟨"com/example/shapewell/shapewell/Outcome", "and", "(Lcom/example/shapewell/shapewell/Outcome;)Lcom/example/shapewell/shapewell/Outcome;"⟩ : MethodName) (head1 (Jvm.Cond.code (⟨"com/example/shapewell/shapewell/Outcome", "and", "(Lcom/example/shapewell/shapewell/Outcome;)Lcom/example/shapewell/shapewell/Outcome;"⟩ : MethodName) prog_3_method_5_code 2 (some (.object "com/example/shapewell/shapewell/Outcome")) :: ws) ({ frames := 2, cells := 0, slots := 0, locals := 30 } : Room)) (fun a U => a = #[(.ref w_Outcome_VIOLATES), (.ref w_Outcome_CONFORMS)] ∧ Z.Warmed39 U.vm ∧ U.heap = h0) (fun _ _ _ _ _ => True) (fun _ U o U' => ∃ v L, o = .returned v ∧ own_QP (some (.ref w_Outcome_VIOLATES)) h0 n0 v U'.heap L ∧ FrameEnd U o U' L ({ frames := 2, cells := 0, slots := 0, locals := 30 } : Room).cells ({ frames := 2, cells := 0, slots := 0, locals := 30 } : Room).slots) := by
  refine MetFree.of_bodySF (plainFor_of_name pn_0) hisR ?_
  intro p e s m args below meth c s₁ Bd hml0 hP hK
  obtain ⟨rfl, hZ, hh⟩ := hP
  have hx := Bd.exec
  have hby := Bd.bytes
  have hml : c.maxLocals = 2 := hml0
  have hown : s.vm.findClass "com/example/shapewell/shapewell/Outcome" = some m.cls := findClass_of_methodNamed Bd.named
  have hnm := (name_of_methodNamed Bd.named Bd.method).1
  have X0 : Stand p l e ({ frames := 2, cells := 0, slots := 0, locals := 30 } : Room) s m #[(.ref w_Outcome_VIOLATES), (.ref w_Outcome_CONFORMS)] below meth c s₁ [] 0 0 := Stand.of_body Bd
  have e0 : s₁.heap = h0 := by rw [← hh, Bd.state]; rfl
  have N0 := Fr.nil n0
  have pre0 : ∀ t, Steps p.tables e below (s₁.setTop (mkF m 0 #[rv w_Outcome_VIOLATES, rv w_Outcome_CONFORMS] [])) t → Steps p.tables e below (s₁.setTop (entryFrame m #[(.ref w_Outcome_VIOLATES), (.ref w_Outcome_CONFORMS)] 2)) t := fun t k => castTop (ef_4_RR m w_Outcome_VIOLATES w_Outcome_CONFORMS) k
  obtain ⟨cq1, kq1, q1a, q1b, q1c⟩ := isOf hZ e0 E_w_Outcome_VIOLATES
  obtain ⟨_, _, ⟨T1, L1, k1, n1⟩, -, X1, ⟨Lc1, hQ1, l1, y1, z1⟩, st1⟩ := X0.virtualBackUp hx (x := (⟨"com/example/shapewell/shapewell/Outcome", "compareTo", "(Ljava/lang/Enum;)I"⟩ : MethodName)) (y := (⟨"java/lang/Enum", "compareTo", "(Ljava/lang/Enum;)I"⟩ : MethodName)) hown (mvT hZ (hw _ (List.mem_of_getElem? (i := 31) rfl))) (mvT hZ (hw _ (List.mem_of_getElem? (i := 32) rfl))) (mvT hZ (hw _ (List.mem_of_getElem? (i := 33) rfl))) (by decide) (mvT hZ (hw _ (List.mem_of_getElem? (i := 35) rfl))) (mvT hZ (hw _ (List.mem_of_getElem? (i := 34) rfl))) (backOf (W := 0) (rm5_6 l Z a0 hw [] w_Outcome_VIOLATES w_Outcome_CONFORMS mr_Outcome h0 n0 Z0 E_w_Outcome_VIOLATES M_mr_Outcome E_w_Outcome_CONFORMS F_w_Outcome_VIOLATES_ordinal F_w_Outcome_CONFORMS_ordinal) hZ (hw _ (List.mem_of_getElem? (i := 36) rfl)) (hw _ (List.mem_of_getElem? (i := 22) rfl)) (by decide) (by decide)) q1a q1c (g := (mkF m 2 #[rv w_Outcome_VIOLATES, rv w_Outcome_CONFORMS] [(.ref w_Outcome_CONFORMS), (.ref w_Outcome_VIOLATES)])) rfl (by rw [hml]; rfl) (Steps.refl _) (argsL := [(.ref w_Outcome_CONFORMS)]) (rest := []) (lenOf pd_3 rfl) rfl (by show 2 * 0 + _ ≤ _; exact Nat.le_of_eq rfl) (hb hby d4_2) (fun _ _ => ⟨rfl, e0, (by decide : 0 + 0 ≤ _), (by decide : 0 + 0 ≤ _)⟩)
  dsimp only [Pt.U, Pt.locs, Pt.cells, Pt.slots] at X1 l1 y1 z1 st1 hQ1
  subst l1 y1 z1
  obtain ⟨rfl, N1q, e1⟩ := hQ1
  have N1 := Fr.app N0 N1q
  obtain ⟨fs, hr, hrun, hended, hW, hsame⟩ := X1.leave (v := (some (.ref w_Outcome_VIOLATES))) (fun h => by rw [Bd.returns] at h; cases h)
  refine ⟨_, _, pre0 _ ?_, hrun, hended, _, _, rfl, ?_, ⟨_, rfl⟩, hW, hsame.mono (by decide) (by decide)⟩
  · show Steps p.tables e below (s₁.setTop (mkF m 0 #[rv w_Outcome_VIOLATES, rv w_Outcome_CONFORMS] [])) _
    refine XS.aloadN X0.here hx rfl (hb hby d4_0) rfl rfl ?_
    show Steps p.tables e below (s₁.setTop (mkF m 1 #[rv w_Outcome_VIOLATES, rv w_Outcome_CONFORMS] [(.ref w_Outcome_VIOLATES)])) _
    refine XS.aloadN X0.here hx rfl (hb hby d4_1) rfl rfl ?_
    show Steps p.tables e below (s₁.setTop (mkF m 2 #[rv w_Outcome_VIOLATES, rv w_Outcome_CONFORMS] [(.ref w_Outcome_CONFORMS), (.ref w_Outcome_VIOLATES)])) _
    refine st1.trans ?_
    show Steps p.tables e below (T1.setTop (mkF m 5 #[rv w_Outcome_VIOLATES, rv w_Outcome_CONFORMS] [(.int (-2 : Int32))])) _
    refine XS.ifNo X1.here hx rfl (hb hby d4_5) rfl ((if0 _ _).trans (flt (by decide +kernel : ¬ ((0 : Int32) < (-2 : Int32)))).2.2.1) ?_
    show Steps p.tables e below (T1.setTop (mkF m 8 #[rv w_Outcome_VIOLATES, rv w_Outcome_CONFORMS] [])) _
    refine XS.aloadN X1.here hx rfl (hb hby d4_8) rfl rfl ?_
    show Steps p.tables e below (T1.setTop (mkF m 9 #[rv w_Outcome_VIOLATES, rv w_Outcome_CONFORMS] [(.ref w_Outcome_VIOLATES)])) _
    refine XS.goto X1.here hx rfl (pc0 := 9) (pc' := 13) rfl (hb hby d4_9) (by decide) (by decide) ?_
    show Steps p.tables e below (T1.setTop (mkF m 13 #[rv w_Outcome_VIOLATES, rv w_Outcome_CONFORMS] [(.ref w_Outcome_VIOLATES)])) _
    exact own_retA X1 hx Bd.returns rfl rfl (hb hby d4_13) hr
  · exact ⟨rfl, N1, e1⟩
set_option maxRecDepth 65536 in
set_option maxHeartbeats 40000000 in
theorem rm0_1 (l : Launch) (Z : State) (a0 : Array Value) (hw : ∀ d ∈ tables_1, d.before a0 Z = true) (ws : List Jvm.Cond) (p0 : Int32) (p1 : Int32) (w_Outcome_VIOLATES : Addr) (w_Outcome_CONFORMS : Addr) (w_Outcome_UNDETERMINED : Addr) (mr_Outcome : Addr) (h0 : Heap) (n0 : Nat) (Z0 : n0 ≤ h0.size) (hk0 : (p0 &&& (1 : Int32)) = (0 : Int32)) (hk1 : (p1 &&& (1 : Int32)) = (1 : Int32)) (S_Outcome_VIOLATES : Sta Z h0 "com/example/shapewell/shapewell/Outcome" "VIOLATES" "Lcom/example/shapewell/shapewell/Outcome;" (.ref w_Outcome_VIOLATES)) (S_Outcome_CONFORMS : Sta Z h0 "com/example/shapewell/shapewell/Outcome" "CONFORMS" "Lcom/example/shapewell/shapewell/Outcome;" (.ref w_Outcome_CONFORMS)) (ne_w_Outcome_CONFORMS_w_Outcome_VIOLATES : ¬ (w_Outcome_CONFORMS = w_Outcome_VIOLATES)) (S_Outcome_UNDETERMINED : Sta Z h0 "com/example/shapewell/shapewell/Outcome" "UNDETERMINED" "Lcom/example/shapewell/shapewell/Outcome;" (.ref w_Outcome_UNDETERMINED)) (ne_w_Outcome_UNDETERMINED_w_Outcome_VIOLATES : ¬ (w_Outcome_UNDETERMINED = w_Outcome_VIOLATES)) (F_w_Outcome_VIOLATES_ordinal : Fld Z h0 w_Outcome_VIOLATES "java/lang/Enum" "ordinal" "I" (.int (0 : Int32))) (E_w_Outcome_VIOLATES : Exa Z h0 w_Outcome_VIOLATES "com/example/shapewell/shapewell/Outcome") (M_mr_Outcome : own_Mir Z "com/example/shapewell/shapewell/Outcome" mr_Outcome) (E_w_Outcome_CONFORMS : Exa Z h0 w_Outcome_CONFORMS "com/example/shapewell/shapewell/Outcome") (F_w_Outcome_CONFORMS_ordinal : Fld Z h0 w_Outcome_CONFORMS "java/lang/Enum" "ordinal" "I" (.int (2 : Int32))) :
    MetFree l x (head1 (Jvm.Cond.code x code maxLocals ret :: ws) room_1) (fun a U => a = #[(.int p0), (.int p1)] ∧ Z.Warmed39 U.vm ∧ U.heap = h0) (fun _ _ _ _ _ => True) (fun _ U o U' => ∃ v L, o = .returned v ∧ own_QL n0 v U'.heap L ∧ FrameEnd U o U' L room_1.cells room_1.slots) := by
  refine MetFree.of_bodySF (plainFor_of_name pn_2) hisR ?_
  intro p e s m args below meth c s₁ Bd hml0 hP hK
  obtain ⟨rfl, hZ, hh⟩ := hP
  have hx := Bd.exec
  have hby := Bd.bytes
  have hml : c.maxLocals = 10 := hml0
  have hown : s.vm.findClass "com/example/shapewell/shapewell/OutcomeOfPinLaw" = some m.cls := findClass_of_methodNamed Bd.named
  have hnm := (name_of_methodNamed Bd.named Bd.method).1
  have X0 : Stand p l e room_1 s m #[(.int p0), (.int p1)] below meth c s₁ [] 0 0 := Stand.of_body Bd
  have e0 : s₁.heap = h0 := by rw [← hh, Bd.state]; rfl
  have N0 := Fr.nil n0
  have pre0 : ∀ t, Steps p.tables e below (s₁.setTop (mkF m 0 #[iv p0, iv p1, .unset, .unset, .unset, .unset, .unset, .unset, .unset, .unset] [])) t → Steps p.tables e below (s₁.setTop (entryFrame m #[(.int p0), (.int p1)] maxLocals)) t := fun t k => castTop (ef_0_II m p0 p1) k
  obtain ⟨_, _, ⟨T1, L1, k1, n1⟩, -, X1, ⟨Lc1, hQ1, l1, y1, z1⟩, st1⟩ := Jvm.LawKit.callS X0 hx (y := (⟨"com/example/shapewell/shapewell/Outcome", "of", "(Z)Lcom/example/shapewell/shapewell/Outcome;"⟩ : MethodName)) hown (mvT hZ (hw _ (List.mem_of_getElem? (i := 0) rfl))) (mvT hZ (hw _ (List.mem_of_getElem? (i := 1) rfl))) (mvT hZ (hw _ (List.mem_of_getElem? (i := 2) rfl))) (mvT hZ (hw _ (List.mem_of_getElem? (i := 3) rfl))) (by decide) (backOf (W := 0) (rm1_0 l Z a0 hw [] w_Outcome_VIOLATES h0 n0 Z0 S_Outcome_VIOLATES) hZ (hw _ (List.mem_of_getElem? (i := 3) rfl)) (hw _ (List.mem_of_getElem? (i := 2) rfl)) (by decide) (by decide)) (g := (mkF m 25 #[iv p0, iv p1, iv (0 : Int32), iv (1 : Int32), .unset, .unset, .unset, .unset, .unset, .unset] [(.int (0 : Int32))])) rfl (by rw [hml]; rfl) (argsL := [(.int (0 : Int32))]) (rest := []) (lenOf pd_0 rfl) rfl (by show 2 * 0 + _ ≤ _; exact Nat.le_of_eq rfl) (hb hby at_25) (fun _ _ => ⟨rfl, e0, (by decide : 0 + 0 ≤ _), (by decide : 0 + 0 ≤ _)⟩)
  dsimp only [Pt.U, Pt.locs, Pt.cells, Pt.slots] at X1 l1 y1 z1 st1 hQ1
  subst l1 y1 z1
  obtain ⟨rfl, N1q, e1⟩ := hQ1
  have N1 := Fr.app N0 N1q
  obtain ⟨_, _, ⟨T2, L2, k2, n2⟩, -, X2, ⟨Lc2, hQ2, l2, y2, z2⟩, st2⟩ := Jvm.LawKit.callS X1 hx (y := (⟨"com/example/shapewell/shapewell/Outcome", "of", "(Z)Lcom/example/shapewell/shapewell/Outcome;"⟩ : MethodName)) hown (mvT hZ (hw _ (List.mem_of_getElem? (i := 0) rfl))) (mvT hZ (hw _ (List.mem_of_getElem? (i := 1) rfl))) (mvT hZ (hw _ (List.mem_of_getElem? (i := 2) rfl))) (mvT hZ (hw _ (List.mem_of_getElem? (i := 3) rfl))) (by decide) (backOf (W := 0) (rm1_3 l Z a0 hw [] w_Outcome_CONFORMS h0 n0 Z0 S_Outcome_CONFORMS) hZ (hw _ (List.mem_of_getElem? (i := 3) rfl)) (hw _ (List.mem_of_getElem? (i := 2) rfl)) (by decide) (by decide)) (g := (mkF m 31 #[iv p0, iv p1, iv (0 : Int32), iv (1 : Int32), rv w_Outcome_VIOLATES, .unset, .unset, .unset, .unset, .unset] [(.int (1 : Int32))])) rfl (by rw [hml]; rfl) (argsL := [(.int (1 : Int32))]) (rest := []) (lenOf pd_0 rfl) rfl (by show 2 * 0 + _ ≤ _; exact Nat.le_of_eq rfl) (hb hby at_31) (fun _ _ => ⟨rfl, e1, (by decide : 0 + 0 ≤ _), (by decide : 0 + 0 ≤ _)⟩)
  dsimp only [Pt.U, Pt.locs, Pt.cells, Pt.slots] at X2 l2 y2 z2 st2 hQ2
  subst l2 y2 z2
  obtain ⟨rfl, N2q, e2⟩ := hQ2
  have N2 := Fr.app N1 N2q
  obtain ⟨T3, X3, e3, st3⟩ := getS2 X2 hx hZ hown (host := "") (Or.inl (hw _ (List.mem_of_getElem? (i := 8) rfl))) Via.refl e2 S_Outcome_CONFORMS (g := (mkF m 50 #[iv p0, iv p1, iv (0 : Int32), iv (1 : Int32), rv w_Outcome_VIOLATES, rv w_Outcome_CONFORMS, .unset, .unset, .unset, .unset] [(.ref w_Outcome_VIOLATES)])) rfl (hb hby at_50)
  obtain ⟨T4, X4, e4, st4⟩ := getS2 X3 hx hZ hown (host := "") (Or.inl (hw _ (List.mem_of_getElem? (i := 9) rfl))) Via.refl e3 S_Outcome_VIOLATES (g := (mkF m 67 #[iv p0, iv p1, iv (0 : Int32), iv (1 : Int32), rv w_Outcome_VIOLATES, rv w_Outcome_CONFORMS, .unset, .unset, .unset, .unset] [(.ref w_Outcome_VIOLATES)])) rfl (hb hby at_67)
  obtain ⟨T5, X5, e5, st5⟩ := getS2 X4 hx hZ hown (host := "") (Or.inl (hw _ (List.mem_of_getElem? (i := 10) rfl))) Via.refl e4 S_Outcome_UNDETERMINED (g := (mkF m 99 #[iv p0, iv p1, iv (0 : Int32), iv (1 : Int32), rv w_Outcome_VIOLATES, rv w_Outcome_CONFORMS, iv (1 : Int32), .unset, .unset, .unset] [(.ref w_Outcome_VIOLATES)])) rfl (hb hby at_99)
  obtain ⟨cq6, kq6, q6a, q6b, q6c⟩ := isOf hZ e5 E_w_Outcome_VIOLATES
  obtain ⟨_, _, ⟨T6, L6, k6, n6⟩, -, X6, ⟨Lc6, hQ6, l6, y6, z6⟩, st6⟩ := X5.virtualBack hx (y := (⟨"com/example/shapewell/shapewell/Outcome", "not", "()Lcom/example/shapewell/shapewell/Outcome;"⟩ : MethodName)) (z := (⟨"com/example/shapewell/shapewell/Outcome", "not", "()Lcom/example/shapewell/shapewell/Outcome;"⟩ : MethodName)) hown (mvT hZ (hw _ (List.mem_of_getElem? (i := 12) rfl))) (mvT hZ (hw _ (List.mem_of_getElem? (i := 13) rfl))) (notFace_of_selects (args := #[]) (mvT hZ (hw _ (List.mem_of_getElem? (i := 15) rfl)))) (mvT hZ (hw _ (List.mem_of_getElem? (i := 15) rfl))) (mvT hZ (hw _ (List.mem_of_getElem? (i := 14) rfl))) (by decide) (backOf (W := 0) (rm2_1 l Z a0 hw [] w_Outcome_VIOLATES w_Outcome_CONFORMS h0 n0 Z0 F_w_Outcome_VIOLATES_ordinal E_w_Outcome_VIOLATES S_Outcome_CONFORMS) hZ (hw _ (List.mem_of_getElem? (i := 16) rfl)) (hw _ (List.mem_of_getElem? (i := 2) rfl)) (by decide) (by decide)) q6a q6c (g := (mkF m 114 #[iv p0, iv p1, iv (0 : Int32), iv (1 : Int32), rv w_Outcome_VIOLATES, rv w_Outcome_CONFORMS, iv (1 : Int32), iv (1 : Int32), .unset, .unset] [(.ref w_Outcome_VIOLATES)])) rfl (by rw [hml]; rfl) (Steps.refl _) (argsL := []) (rest := []) (lenOf pd_2 rfl) rfl (by show 2 * 0 + _ ≤ _; exact Nat.le_of_eq rfl) (hb hby at_114) (fun _ _ => ⟨rfl, e5, (by decide : 0 + 0 ≤ _), (by decide : 0 + 0 ≤ _)⟩)
  dsimp only [Pt.U, Pt.locs, Pt.cells, Pt.slots] at X6 l6 y6 z6 st6 hQ6
  subst l6 y6 z6
  obtain ⟨rfl, N6q, e6⟩ := hQ6
  have N6 := Fr.app N2 N6q
  obtain ⟨_, _, ⟨T7, L7, k7, n7⟩, -, X7, ⟨Lc7, hQ7, l7, y7, z7⟩, st7⟩ := Jvm.LawKit.callS X6 hx (y := (⟨"com/example/shapewell/shapewell/Outcome", "of", "(Z)Lcom/example/shapewell/shapewell/Outcome;"⟩ : MethodName)) hown (mvT hZ (hw _ (List.mem_of_getElem? (i := 0) rfl))) (mvT hZ (hw _ (List.mem_of_getElem? (i := 1) rfl))) (mvT hZ (hw _ (List.mem_of_getElem? (i := 2) rfl))) (mvT hZ (hw _ (List.mem_of_getElem? (i := 3) rfl))) (by decide) (backOf (W := 1) (rm1_3 l Z a0 hw [] w_Outcome_CONFORMS h0 n0 Z0 S_Outcome_CONFORMS) hZ (hw _ (List.mem_of_getElem? (i := 3) rfl)) (hw _ (List.mem_of_getElem? (i := 2) rfl)) (by decide) (by decide)) (g := (mkF m 126 #[iv p0, iv p1, iv (0 : Int32), iv (1 : Int32), rv w_Outcome_VIOLATES, rv w_Outcome_CONFORMS, iv (1 : Int32), iv (1 : Int32), .unset, .unset] [(.int (1 : Int32)), (.ref w_Outcome_CONFORMS)])) rfl (by rw [hml]; rfl) (argsL := [(.int (1 : Int32))]) (rest := [(.ref w_Outcome_CONFORMS)]) (lenOf pd_0 rfl) rfl (by show 2 * 0 + _ ≤ _; exact Nat.le_of_eq rfl) (hb hby at_126) (fun _ _ => ⟨rfl, e6, (by decide : 0 + 0 ≤ _), (by decide : 0 + 0 ≤ _)⟩)
  dsimp only [Pt.U, Pt.locs, Pt.cells, Pt.slots] at X7 l7 y7 z7 st7 hQ7
  subst l7 y7 z7
  obtain ⟨rfl, N7q, e7⟩ := hQ7
  have N7 := Fr.app N6 N7q
  obtain ⟨cq8, kq8, q8a, q8b, q8c⟩ := isOf hZ e7 E_w_Outcome_VIOLATES
  obtain ⟨_, _, ⟨T8, L8, k8, n8⟩, -, X8, ⟨Lc8, hQ8, l8, y8, z8⟩, st8⟩ := X7.virtualBack hx (y := (⟨"com/example/shapewell/shapewell/Outcome", "and", "(Lcom/example/shapewell/shapewell/Outcome;)Lcom/example/shapewell/shapewell/Outcome;"⟩ : MethodName)) (z := (⟨"com/example/shapewell/shapewell/Outcome", "and", "(Lcom/example/shapewell/shapewell/Outcome;)Lcom/example/shapewell/shapewell/Outcome;"⟩ : MethodName)) hown (mvT hZ (hw _ (List.mem_of_getElem? (i := 26) rfl))) (mvT hZ (hw _ (List.mem_of_getElem? (i := 27) rfl))) (notFace_of_selects (args := #[]) (mvT hZ (hw _ (List.mem_of_getElem? (i := 29) rfl)))) (mvT hZ (hw _ (List.mem_of_getElem? (i := 29) rfl))) (mvT hZ (hw _ (List.mem_of_getElem? (i := 28) rfl))) (by decide) (backOf (W := 0) (rm4_6 l Z a0 hw [] w_Outcome_VIOLATES w_Outcome_CONFORMS mr_Outcome h0 n0 Z0 E_w_Outcome_VIOLATES M_mr_Outcome E_w_Outcome_CONFORMS F_w_Outcome_VIOLATES_ordinal F_w_Outcome_CONFORMS_ordinal) hZ (hw _ (List.mem_of_getElem? (i := 30) rfl)) (hw _ (List.mem_of_getElem? (i := 2) rfl)) (by decide) (by decide)) q8a q8c (g := (mkF m 143 #[iv p0, iv p1, iv (0 : Int32), iv (1 : Int32), rv w_Outcome_VIOLATES, rv w_Outcome_CONFORMS, iv (1 : Int32), iv (1 : Int32), iv (1 : Int32), .unset] [(.ref w_Outcome_CONFORMS), (.ref w_Outcome_VIOLATES)])) rfl (by rw [hml]; rfl) (Steps.refl _) (argsL := [(.ref w_Outcome_CONFORMS)]) (rest := []) (lenOf pd_4 rfl) rfl (by show 2 * 0 + _ ≤ _; exact Nat.le_of_eq rfl) (hb hby at_143) (fun _ _ => ⟨rfl, e7, (by decide : 0 + 0 ≤ _), (by decide : 0 + 0 ≤ _)⟩)
  dsimp only [Pt.U, Pt.locs, Pt.cells, Pt.slots] at X8 l8 y8 z8 st8 hQ8
  subst l8 y8 z8
  obtain ⟨rfl, N8q, e8⟩ := hQ8
  have N8 := Fr.app N7 N8q
  obtain ⟨_, _, ⟨T9, L9, k9, n9⟩, -, X9, ⟨Lc9, hQ9, l9, y9, z9⟩, st9⟩ := Jvm.LawKit.callS X8 hx (y := (⟨"com/example/shapewell/shapewell/Outcome", "of", "(Z)Lcom/example/shapewell/shapewell/Outcome;"⟩ : MethodName)) hown (mvT hZ (hw _ (List.mem_of_getElem? (i := 0) rfl))) (mvT hZ (hw _ (List.mem_of_getElem? (i := 1) rfl))) (mvT hZ (hw _ (List.mem_of_getElem? (i := 2) rfl))) (mvT hZ (hw _ (List.mem_of_getElem? (i := 3) rfl))) (by decide) (backOf (W := 1) (rm1_0 l Z a0 hw [] w_Outcome_VIOLATES h0 n0 Z0 S_Outcome_VIOLATES) hZ (hw _ (List.mem_of_getElem? (i := 3) rfl)) (hw _ (List.mem_of_getElem? (i := 2) rfl)) (by decide) (by decide)) (g := (mkF m 159 #[iv p0, iv p1, iv (0 : Int32), iv (1 : Int32), rv w_Outcome_VIOLATES, rv w_Outcome_CONFORMS, iv (1 : Int32), iv (1 : Int32), iv (1 : Int32), .unset] [(.int (0 : Int32)), (.ref w_Outcome_VIOLATES)])) rfl (by rw [hml]; rfl) (argsL := [(.int (0 : Int32))]) (rest := [(.ref w_Outcome_VIOLATES)]) (lenOf pd_0 rfl) rfl (by show 2 * 0 + _ ≤ _; exact Nat.le_of_eq rfl) (hb hby at_159) (fun _ _ => ⟨rfl, e8, (by decide : 0 + 0 ≤ _), (by decide : 0 + 0 ≤ _)⟩)
  dsimp only [Pt.U, Pt.locs, Pt.cells, Pt.slots] at X9 l9 y9 z9 st9 hQ9
  subst l9 y9 z9
  obtain ⟨rfl, N9q, e9⟩ := hQ9
  have N9 := Fr.app N8 N9q
  obtain ⟨fs, hr, hrun, hended, hW, hsame⟩ := X9.leave (v := (some (.int (1 : Int32)))) (fun h => by rw [Bd.returns] at h; cases h)
  refine ⟨_, _, pre0 _ ?_, hrun, hended, _, _, rfl, ?_, ⟨_, rfl⟩, hW, hsame.mono (by decide) (by decide)⟩
  · show Steps p.tables e below (s₁.setTop (mkF m 0 #[iv p0, iv p1, .unset, .unset, .unset, .unset, .unset, .unset, .unset, .unset] [])) _
    refine XS.iloadN X0.here hx rfl (hb hby at_0) rfl ?_
    show Steps p.tables e below (s₁.setTop (mkF m 1 #[iv p0, iv p1, .unset, .unset, .unset, .unset, .unset, .unset, .unset, .unset] [(.int p0)])) _
    refine XS.iconst X0.here hx rfl (hb hby at_1) ?_
    show Steps p.tables e below (s₁.setTop (mkF m 2 #[iv p0, iv p1, .unset, .unset, .unset, .unset, .unset, .unset, .unset, .unset] [(.int (1 : Int32)), (.int p0)])) _
    refine XS.iand X0.here hx rfl (hb hby at_2) rfl ?_
    show Steps p.tables e below (s₁.setTop (mkF m 3 #[iv p0, iv p1, .unset, .unset, .unset, .unset, .unset, .unset, .unset, .unset] [(.int (p0 &&& (1 : Int32)))])) _
    rewrite [hk0]
    show Steps p.tables e below (s₁.setTop (mkF m 3 #[iv p0, iv p1, .unset, .unset, .unset, .unset, .unset, .unset, .unset, .unset] [(.int (0 : Int32))])) _
    refine XS.ifYes X0.here hx rfl (pc0 := 3) (pc' := 10) rfl (hb hby at_3) rfl ((if0 _ _).trans (teq (by decide +kernel : (0 : Int32) = (0 : Int32))).1) (by decide) (by decide) ?_
    show Steps p.tables e below (s₁.setTop (mkF m 10 #[iv p0, iv p1, .unset, .unset, .unset, .unset, .unset, .unset, .unset, .unset] [])) _
    refine XS.iconst X0.here hx rfl (hb hby at_10) ?_
    show Steps p.tables e below (s₁.setTop (mkF m 11 #[iv p0, iv p1, .unset, .unset, .unset, .unset, .unset, .unset, .unset, .unset] [(.int (0 : Int32))])) _
    refine XS.istoreN X0.here hx rfl (hb hby at_11) rfl (l' := #[iv p0, iv p1, iv (0 : Int32), .unset, .unset, .unset, .unset, .unset, .unset, .unset]) rfl ?_
    show Steps p.tables e below (s₁.setTop (mkF m 12 #[iv p0, iv p1, iv (0 : Int32), .unset, .unset, .unset, .unset, .unset, .unset, .unset] [])) _
    refine XS.iloadN X0.here hx rfl (hb hby at_12) rfl ?_
    show Steps p.tables e below (s₁.setTop (mkF m 13 #[iv p0, iv p1, iv (0 : Int32), .unset, .unset, .unset, .unset, .unset, .unset, .unset] [(.int p1)])) _
    refine XS.iconst X0.here hx rfl (hb hby at_13) ?_
    show Steps p.tables e below (s₁.setTop (mkF m 14 #[iv p0, iv p1, iv (0 : Int32), .unset, .unset, .unset, .unset, .unset, .unset, .unset] [(.int (1 : Int32)), (.int p1)])) _
    refine XS.iand X0.here hx rfl (hb hby at_14) rfl ?_
    show Steps p.tables e below (s₁.setTop (mkF m 15 #[iv p0, iv p1, iv (0 : Int32), .unset, .unset, .unset, .unset, .unset, .unset, .unset] [(.int (p1 &&& (1 : Int32)))])) _
    rewrite [hk1]
    show Steps p.tables e below (s₁.setTop (mkF m 15 #[iv p0, iv p1, iv (0 : Int32), .unset, .unset, .unset, .unset, .unset, .unset, .unset] [(.int (1 : Int32))])) _
    refine XS.ifNo X0.here hx rfl (hb hby at_15) rfl ((if0 _ _).trans (feq (by decide +kernel : ¬ ((1 : Int32) = (0 : Int32)))).1) ?_
    show Steps p.tables e below (s₁.setTop (mkF m 18 #[iv p0, iv p1, iv (0 : Int32), .unset, .unset, .unset, .unset, .unset, .unset, .unset] [])) _
    refine XS.iconst X0.here hx rfl (hb hby at_18) ?_
    show Steps p.tables e below (s₁.setTop (mkF m 19 #[iv p0, iv p1, iv (0 : Int32), .unset, .unset, .unset, .unset, .unset, .unset, .unset] [(.int (1 : Int32))])) _
    refine XS.goto X0.here hx rfl (pc0 := 19) (pc' := 23) rfl (hb hby at_19) (by decide) (by decide) ?_
    show Steps p.tables e below (s₁.setTop (mkF m 23 #[iv p0, iv p1, iv (0 : Int32), .unset, .unset, .unset, .unset, .unset, .unset, .unset] [(.int (1 : Int32))])) _
    refine XS.istoreN X0.here hx rfl (hb hby at_23) rfl (l' := #[iv p0, iv p1, iv (0 : Int32), iv (1 : Int32), .unset, .unset, .unset, .unset, .unset, .unset]) rfl ?_
    show Steps p.tables e below (s₁.setTop (mkF m 24 #[iv p0, iv p1, iv (0 : Int32), iv (1 : Int32), .unset, .unset, .unset, .unset, .unset, .unset] [])) _
    refine XS.iloadN X0.here hx rfl (hb hby at_24) rfl ?_
    show Steps p.tables e below (s₁.setTop (mkF m 25 #[iv p0, iv p1, iv (0 : Int32), iv (1 : Int32), .unset, .unset, .unset, .unset, .unset, .unset] [(.int (0 : Int32))])) _
    refine st1 _ ?_
    show Steps p.tables e below (T1.setTop (mkF m 28 #[iv p0, iv p1, iv (0 : Int32), iv (1 : Int32), .unset, .unset, .unset, .unset, .unset, .unset] [(.ref w_Outcome_VIOLATES)])) _
    refine XS.astore X1.here hx rfl (hb hby at_28) rfl rfl (l' := #[iv p0, iv p1, iv (0 : Int32), iv (1 : Int32), rv w_Outcome_VIOLATES, .unset, .unset, .unset, .unset, .unset]) rfl ?_
    show Steps p.tables e below (T1.setTop (mkF m 30 #[iv p0, iv p1, iv (0 : Int32), iv (1 : Int32), rv w_Outcome_VIOLATES, .unset, .unset, .unset, .unset, .unset] [])) _
    refine XS.iloadN X1.here hx rfl (hb hby at_30) rfl ?_
    show Steps p.tables e below (T1.setTop (mkF m 31 #[iv p0, iv p1, iv (0 : Int32), iv (1 : Int32), rv w_Outcome_VIOLATES, .unset, .unset, .unset, .unset, .unset] [(.int (1 : Int32))])) _
    refine st2 _ ?_
    show Steps p.tables e below (T2.setTop (mkF m 34 #[iv p0, iv p1, iv (0 : Int32), iv (1 : Int32), rv w_Outcome_VIOLATES, .unset, .unset, .unset, .unset, .unset] [(.ref w_Outcome_CONFORMS)])) _
    refine XS.astore X2.here hx rfl (hb hby at_34) rfl rfl (l' := #[iv p0, iv p1, iv (0 : Int32), iv (1 : Int32), rv w_Outcome_VIOLATES, rv w_Outcome_CONFORMS, .unset, .unset, .unset, .unset]) rfl ?_
    show Steps p.tables e below (T2.setTop (mkF m 36 #[iv p0, iv p1, iv (0 : Int32), iv (1 : Int32), rv w_Outcome_VIOLATES, rv w_Outcome_CONFORMS, .unset, .unset, .unset, .unset] [])) _
    refine XS.aload X2.here hx rfl (hb hby at_36) rfl rfl ?_
    show Steps p.tables e below (T2.setTop (mkF m 38 #[iv p0, iv p1, iv (0 : Int32), iv (1 : Int32), rv w_Outcome_VIOLATES, rv w_Outcome_CONFORMS, .unset, .unset, .unset, .unset] [(.ref w_Outcome_VIOLATES)])) _
    refine XS.ifnullNo X2.here hx rfl (hb hby at_38) rfl ?_
    show Steps p.tables e below (T2.setTop (mkF m 41 #[iv p0, iv p1, iv (0 : Int32), iv (1 : Int32), rv w_Outcome_VIOLATES, rv w_Outcome_CONFORMS, .unset, .unset, .unset, .unset] [])) _
    refine XS.aload X2.here hx rfl (hb hby at_41) rfl rfl ?_
    show Steps p.tables e below (T2.setTop (mkF m 43 #[iv p0, iv p1, iv (0 : Int32), iv (1 : Int32), rv w_Outcome_VIOLATES, rv w_Outcome_CONFORMS, .unset, .unset, .unset, .unset] [(.ref w_Outcome_CONFORMS)])) _
    refine XS.ifnonnullYes X2.here hx rfl (pc0 := 43) (pc' := 48) rfl (hb hby at_43) rfl (by decide) (by decide) ?_
    show Steps p.tables e below (T2.setTop (mkF m 48 #[iv p0, iv p1, iv (0 : Int32), iv (1 : Int32), rv w_Outcome_VIOLATES, rv w_Outcome_CONFORMS, .unset, .unset, .unset, .unset] [])) _
    refine XS.aload X2.here hx rfl (hb hby at_48) rfl rfl ?_
    show Steps p.tables e below (T2.setTop (mkF m 50 #[iv p0, iv p1, iv (0 : Int32), iv (1 : Int32), rv w_Outcome_VIOLATES, rv w_Outcome_CONFORMS, .unset, .unset, .unset, .unset] [(.ref w_Outcome_VIOLATES)])) _
    refine st3 _ ?_
    show Steps p.tables e below (T3.setTop (mkF m 53 #[iv p0, iv p1, iv (0 : Int32), iv (1 : Int32), rv w_Outcome_VIOLATES, rv w_Outcome_CONFORMS, .unset, .unset, .unset, .unset] [(.ref w_Outcome_CONFORMS), (.ref w_Outcome_VIOLATES)])) _
    refine Jvm.RoadKit.acmp (g := (mkF m 53 #[iv p0, iv p1, iv (0 : Int32), iv (1 : Int32), rv w_Outcome_VIOLATES, rv w_Outcome_CONFORMS, .unset, .unset, .unset, .unset] [(.ref w_Outcome_CONFORMS), (.ref w_Outcome_VIOLATES)])) X3 hx rfl rfl rfl (pc0 := 53) (pc' := 60) (same := false) rfl (hb hby at_53) rfl (decide_eq_false fun q => (Ne.symm ne_w_Outcome_CONFORMS_w_Outcome_VIOLATES) (Value.ref.inj q)) (by decide) (by decide) ?_
    show Steps p.tables e below (T3.setTop (mkF m 60 #[iv p0, iv p1, iv (0 : Int32), iv (1 : Int32), rv w_Outcome_VIOLATES, rv w_Outcome_CONFORMS, .unset, .unset, .unset, .unset] [])) _
    refine XS.iconst X3.here hx rfl (hb hby at_60) ?_
    show Steps p.tables e below (T3.setTop (mkF m 61 #[iv p0, iv p1, iv (0 : Int32), iv (1 : Int32), rv w_Outcome_VIOLATES, rv w_Outcome_CONFORMS, .unset, .unset, .unset, .unset] [(.int (0 : Int32))])) _
    refine XS.iloadN X3.here hx rfl (hb hby at_61) rfl ?_
    show Steps p.tables e below (T3.setTop (mkF m 62 #[iv p0, iv p1, iv (0 : Int32), iv (1 : Int32), rv w_Outcome_VIOLATES, rv w_Outcome_CONFORMS, .unset, .unset, .unset, .unset] [(.int (0 : Int32)), (.int (0 : Int32))])) _
    refine XS.icmpNo X3.here hx rfl (hb hby at_62) rfl (teq (by decide +kernel : (0 : Int32) = (0 : Int32))).2 ?_
    show Steps p.tables e below (T3.setTop (mkF m 65 #[iv p0, iv p1, iv (0 : Int32), iv (1 : Int32), rv w_Outcome_VIOLATES, rv w_Outcome_CONFORMS, .unset, .unset, .unset, .unset] [])) _
    refine XS.aload X3.here hx rfl (hb hby at_65) rfl rfl ?_
    show Steps p.tables e below (T3.setTop (mkF m 67 #[iv p0, iv p1, iv (0 : Int32), iv (1 : Int32), rv w_Outcome_VIOLATES, rv w_Outcome_CONFORMS, .unset, .unset, .unset, .unset] [(.ref w_Outcome_VIOLATES)])) _
    refine st4 _ ?_
    show Steps p.tables e below (T4.setTop (mkF m 70 #[iv p0, iv p1, iv (0 : Int32), iv (1 : Int32), rv w_Outcome_VIOLATES, rv w_Outcome_CONFORMS, .unset, .unset, .unset, .unset] [(.ref w_Outcome_VIOLATES), (.ref w_Outcome_VIOLATES)])) _
    refine Jvm.RoadKit.acmp (g := (mkF m 70 #[iv p0, iv p1, iv (0 : Int32), iv (1 : Int32), rv w_Outcome_VIOLATES, rv w_Outcome_CONFORMS, .unset, .unset, .unset, .unset] [(.ref w_Outcome_VIOLATES), (.ref w_Outcome_VIOLATES)])) X4 hx rfl rfl rfl (pc0 := 70) (pc' := 73) (same := true) rfl (hb hby at_70) rfl (decide_eq_true rfl) (by decide) (by decide) ?_
    show Steps p.tables e below (T4.setTop (mkF m 73 #[iv p0, iv p1, iv (0 : Int32), iv (1 : Int32), rv w_Outcome_VIOLATES, rv w_Outcome_CONFORMS, .unset, .unset, .unset, .unset] [])) _
    refine XS.iconst X4.here hx rfl (hb hby at_73) ?_
    show Steps p.tables e below (T4.setTop (mkF m 74 #[iv p0, iv p1, iv (0 : Int32), iv (1 : Int32), rv w_Outcome_VIOLATES, rv w_Outcome_CONFORMS, .unset, .unset, .unset, .unset] [(.int (1 : Int32))])) _
    refine XS.goto X4.here hx rfl (pc0 := 74) (pc' := 78) rfl (hb hby at_74) (by decide) (by decide) ?_
    show Steps p.tables e below (T4.setTop (mkF m 78 #[iv p0, iv p1, iv (0 : Int32), iv (1 : Int32), rv w_Outcome_VIOLATES, rv w_Outcome_CONFORMS, .unset, .unset, .unset, .unset] [(.int (1 : Int32))])) _
    refine XS.iloadN X4.here hx rfl (hb hby at_78) rfl ?_
    show Steps p.tables e below (T4.setTop (mkF m 79 #[iv p0, iv p1, iv (0 : Int32), iv (1 : Int32), rv w_Outcome_VIOLATES, rv w_Outcome_CONFORMS, .unset, .unset, .unset, .unset] [(.int (0 : Int32)), (.int (1 : Int32))])) _
    refine XS.ifNo X4.here hx rfl (hb hby at_79) rfl ((if0 _ _).trans (teq (by decide +kernel : (0 : Int32) = (0 : Int32))).2) ?_
    show Steps p.tables e below (T4.setTop (mkF m 82 #[iv p0, iv p1, iv (0 : Int32), iv (1 : Int32), rv w_Outcome_VIOLATES, rv w_Outcome_CONFORMS, .unset, .unset, .unset, .unset] [(.int (1 : Int32))])) _
    refine XS.iconst X4.here hx rfl (hb hby at_82) ?_
    show Steps p.tables e below (T4.setTop (mkF m 83 #[iv p0, iv p1, iv (0 : Int32), iv (1 : Int32), rv w_Outcome_VIOLATES, rv w_Outcome_CONFORMS, .unset, .unset, .unset, .unset] [(.int (1 : Int32)), (.int (1 : Int32))])) _
    refine XS.goto X4.here hx rfl (pc0 := 83) (pc' := 87) rfl (hb hby at_83) (by decide) (by decide) ?_
    show Steps p.tables e below (T4.setTop (mkF m 87 #[iv p0, iv p1, iv (0 : Int32), iv (1 : Int32), rv w_Outcome_VIOLATES, rv w_Outcome_CONFORMS, .unset, .unset, .unset, .unset] [(.int (1 : Int32)), (.int (1 : Int32))])) _
    refine XS.icmpNo X4.here hx rfl (hb hby at_87) rfl (teq (by decide +kernel : (1 : Int32) = (1 : Int32))).2 ?_
    show Steps p.tables e below (T4.setTop (mkF m 90 #[iv p0, iv p1, iv (0 : Int32), iv (1 : Int32), rv w_Outcome_VIOLATES, rv w_Outcome_CONFORMS, .unset, .unset, .unset, .unset] [])) _
    refine XS.iconst X4.here hx rfl (hb hby at_90) ?_
    show Steps p.tables e below (T4.setTop (mkF m 91 #[iv p0, iv p1, iv (0 : Int32), iv (1 : Int32), rv w_Outcome_VIOLATES, rv w_Outcome_CONFORMS, .unset, .unset, .unset, .unset] [(.int (1 : Int32))])) _
    refine XS.goto X4.here hx rfl (pc0 := 91) (pc' := 95) rfl (hb hby at_91) (by decide) (by decide) ?_
    show Steps p.tables e below (T4.setTop (mkF m 95 #[iv p0, iv p1, iv (0 : Int32), iv (1 : Int32), rv w_Outcome_VIOLATES, rv w_Outcome_CONFORMS, .unset, .unset, .unset, .unset] [(.int (1 : Int32))])) _
    refine XS.istore X4.here hx rfl (hb hby at_95) rfl (l' := #[iv p0, iv p1, iv (0 : Int32), iv (1 : Int32), rv w_Outcome_VIOLATES, rv w_Outcome_CONFORMS, iv (1 : Int32), .unset, .unset, .unset]) rfl ?_
    show Steps p.tables e below (T4.setTop (mkF m 97 #[iv p0, iv p1, iv (0 : Int32), iv (1 : Int32), rv w_Outcome_VIOLATES, rv w_Outcome_CONFORMS, iv (1 : Int32), .unset, .unset, .unset] [])) _
    refine XS.aload X4.here hx rfl (hb hby at_97) rfl rfl ?_
    show Steps p.tables e below (T4.setTop (mkF m 99 #[iv p0, iv p1, iv (0 : Int32), iv (1 : Int32), rv w_Outcome_VIOLATES, rv w_Outcome_CONFORMS, iv (1 : Int32), .unset, .unset, .unset] [(.ref w_Outcome_VIOLATES)])) _
    refine st5 _ ?_
    show Steps p.tables e below (T5.setTop (mkF m 102 #[iv p0, iv p1, iv (0 : Int32), iv (1 : Int32), rv w_Outcome_VIOLATES, rv w_Outcome_CONFORMS, iv (1 : Int32), .unset, .unset, .unset] [(.ref w_Outcome_UNDETERMINED), (.ref w_Outcome_VIOLATES)])) _
    refine Jvm.RoadKit.acmp (g := (mkF m 102 #[iv p0, iv p1, iv (0 : Int32), iv (1 : Int32), rv w_Outcome_VIOLATES, rv w_Outcome_CONFORMS, iv (1 : Int32), .unset, .unset, .unset] [(.ref w_Outcome_UNDETERMINED), (.ref w_Outcome_VIOLATES)])) X5 hx rfl rfl rfl (pc0 := 102) (pc' := 105) (same := false) rfl (hb hby at_102) rfl (decide_eq_false fun q => (Ne.symm ne_w_Outcome_UNDETERMINED_w_Outcome_VIOLATES) (Value.ref.inj q)) (by decide) (by decide) ?_
    show Steps p.tables e below (T5.setTop (mkF m 105 #[iv p0, iv p1, iv (0 : Int32), iv (1 : Int32), rv w_Outcome_VIOLATES, rv w_Outcome_CONFORMS, iv (1 : Int32), .unset, .unset, .unset] [])) _
    refine XS.iconst X5.here hx rfl (hb hby at_105) ?_
    show Steps p.tables e below (T5.setTop (mkF m 106 #[iv p0, iv p1, iv (0 : Int32), iv (1 : Int32), rv w_Outcome_VIOLATES, rv w_Outcome_CONFORMS, iv (1 : Int32), .unset, .unset, .unset] [(.int (1 : Int32))])) _
    refine XS.goto X5.here hx rfl (pc0 := 106) (pc' := 110) rfl (hb hby at_106) (by decide) (by decide) ?_
    show Steps p.tables e below (T5.setTop (mkF m 110 #[iv p0, iv p1, iv (0 : Int32), iv (1 : Int32), rv w_Outcome_VIOLATES, rv w_Outcome_CONFORMS, iv (1 : Int32), .unset, .unset, .unset] [(.int (1 : Int32))])) _
    refine XS.istore X5.here hx rfl (hb hby at_110) rfl (l' := #[iv p0, iv p1, iv (0 : Int32), iv (1 : Int32), rv w_Outcome_VIOLATES, rv w_Outcome_CONFORMS, iv (1 : Int32), iv (1 : Int32), .unset, .unset]) rfl ?_
    show Steps p.tables e below (T5.setTop (mkF m 112 #[iv p0, iv p1, iv (0 : Int32), iv (1 : Int32), rv w_Outcome_VIOLATES, rv w_Outcome_CONFORMS, iv (1 : Int32), iv (1 : Int32), .unset, .unset] [])) _
    refine XS.aload X5.here hx rfl (hb hby at_112) rfl rfl ?_
    show Steps p.tables e below (T5.setTop (mkF m 114 #[iv p0, iv p1, iv (0 : Int32), iv (1 : Int32), rv w_Outcome_VIOLATES, rv w_Outcome_CONFORMS, iv (1 : Int32), iv (1 : Int32), .unset, .unset] [(.ref w_Outcome_VIOLATES)])) _
    refine st6.trans ?_
    show Steps p.tables e below (T6.setTop (mkF m 117 #[iv p0, iv p1, iv (0 : Int32), iv (1 : Int32), rv w_Outcome_VIOLATES, rv w_Outcome_CONFORMS, iv (1 : Int32), iv (1 : Int32), .unset, .unset] [(.ref w_Outcome_CONFORMS)])) _
    refine XS.iloadN X6.here hx rfl (hb hby at_117) rfl ?_
    show Steps p.tables e below (T6.setTop (mkF m 118 #[iv p0, iv p1, iv (0 : Int32), iv (1 : Int32), rv w_Outcome_VIOLATES, rv w_Outcome_CONFORMS, iv (1 : Int32), iv (1 : Int32), .unset, .unset] [(.int (0 : Int32)), (.ref w_Outcome_CONFORMS)])) _
    refine XS.ifNo X6.here hx rfl (hb hby at_118) rfl ((if0 _ _).trans (teq (by decide +kernel : (0 : Int32) = (0 : Int32))).2) ?_
    show Steps p.tables e below (T6.setTop (mkF m 121 #[iv p0, iv p1, iv (0 : Int32), iv (1 : Int32), rv w_Outcome_VIOLATES, rv w_Outcome_CONFORMS, iv (1 : Int32), iv (1 : Int32), .unset, .unset] [(.ref w_Outcome_CONFORMS)])) _
    refine XS.iconst X6.here hx rfl (hb hby at_121) ?_
    show Steps p.tables e below (T6.setTop (mkF m 122 #[iv p0, iv p1, iv (0 : Int32), iv (1 : Int32), rv w_Outcome_VIOLATES, rv w_Outcome_CONFORMS, iv (1 : Int32), iv (1 : Int32), .unset, .unset] [(.int (1 : Int32)), (.ref w_Outcome_CONFORMS)])) _
    refine XS.goto X6.here hx rfl (pc0 := 122) (pc' := 126) rfl (hb hby at_122) (by decide) (by decide) ?_
    show Steps p.tables e below (T6.setTop (mkF m 126 #[iv p0, iv p1, iv (0 : Int32), iv (1 : Int32), rv w_Outcome_VIOLATES, rv w_Outcome_CONFORMS, iv (1 : Int32), iv (1 : Int32), .unset, .unset] [(.int (1 : Int32)), (.ref w_Outcome_CONFORMS)])) _
    refine st7 _ ?_
    show Steps p.tables e below (T7.setTop (mkF m 129 #[iv p0, iv p1, iv (0 : Int32), iv (1 : Int32), rv w_Outcome_VIOLATES, rv w_Outcome_CONFORMS, iv (1 : Int32), iv (1 : Int32), .unset, .unset] [(.ref w_Outcome_CONFORMS), (.ref w_Outcome_CONFORMS)])) _
    refine Jvm.RoadKit.acmp (g := (mkF m 129 #[iv p0, iv p1, iv (0 : Int32), iv (1 : Int32), rv w_Outcome_VIOLATES, rv w_Outcome_CONFORMS, iv (1 : Int32), iv (1 : Int32), .unset, .unset] [(.ref w_Outcome_CONFORMS), (.ref w_Outcome_CONFORMS)])) X7 hx rfl rfl rfl (pc0 := 129) (pc' := 132) (same := true) rfl (hb hby at_129) rfl (decide_eq_true rfl) (by decide) (by decide) ?_
    show Steps p.tables e below (T7.setTop (mkF m 132 #[iv p0, iv p1, iv (0 : Int32), iv (1 : Int32), rv w_Outcome_VIOLATES, rv w_Outcome_CONFORMS, iv (1 : Int32), iv (1 : Int32), .unset, .unset] [])) _
    refine XS.iconst X7.here hx rfl (hb hby at_132) ?_
    show Steps p.tables e below (T7.setTop (mkF m 133 #[iv p0, iv p1, iv (0 : Int32), iv (1 : Int32), rv w_Outcome_VIOLATES, rv w_Outcome_CONFORMS, iv (1 : Int32), iv (1 : Int32), .unset, .unset] [(.int (1 : Int32))])) _
    refine XS.goto X7.here hx rfl (pc0 := 133) (pc' := 137) rfl (hb hby at_133) (by decide) (by decide) ?_
    show Steps p.tables e below (T7.setTop (mkF m 137 #[iv p0, iv p1, iv (0 : Int32), iv (1 : Int32), rv w_Outcome_VIOLATES, rv w_Outcome_CONFORMS, iv (1 : Int32), iv (1 : Int32), .unset, .unset] [(.int (1 : Int32))])) _
    refine XS.istore X7.here hx rfl (hb hby at_137) rfl (l' := #[iv p0, iv p1, iv (0 : Int32), iv (1 : Int32), rv w_Outcome_VIOLATES, rv w_Outcome_CONFORMS, iv (1 : Int32), iv (1 : Int32), iv (1 : Int32), .unset]) rfl ?_
    show Steps p.tables e below (T7.setTop (mkF m 139 #[iv p0, iv p1, iv (0 : Int32), iv (1 : Int32), rv w_Outcome_VIOLATES, rv w_Outcome_CONFORMS, iv (1 : Int32), iv (1 : Int32), iv (1 : Int32), .unset] [])) _
    refine XS.aload X7.here hx rfl (hb hby at_139) rfl rfl ?_
    show Steps p.tables e below (T7.setTop (mkF m 141 #[iv p0, iv p1, iv (0 : Int32), iv (1 : Int32), rv w_Outcome_VIOLATES, rv w_Outcome_CONFORMS, iv (1 : Int32), iv (1 : Int32), iv (1 : Int32), .unset] [(.ref w_Outcome_VIOLATES)])) _
    refine XS.aload X7.here hx rfl (hb hby at_141) rfl rfl ?_
    show Steps p.tables e below (T7.setTop (mkF m 143 #[iv p0, iv p1, iv (0 : Int32), iv (1 : Int32), rv w_Outcome_VIOLATES, rv w_Outcome_CONFORMS, iv (1 : Int32), iv (1 : Int32), iv (1 : Int32), .unset] [(.ref w_Outcome_CONFORMS), (.ref w_Outcome_VIOLATES)])) _
    refine st8.trans ?_
    show Steps p.tables e below (T8.setTop (mkF m 146 #[iv p0, iv p1, iv (0 : Int32), iv (1 : Int32), rv w_Outcome_VIOLATES, rv w_Outcome_CONFORMS, iv (1 : Int32), iv (1 : Int32), iv (1 : Int32), .unset] [(.ref w_Outcome_VIOLATES)])) _
    refine XS.iloadN X8.here hx rfl (hb hby at_146) rfl ?_
    show Steps p.tables e below (T8.setTop (mkF m 147 #[iv p0, iv p1, iv (0 : Int32), iv (1 : Int32), rv w_Outcome_VIOLATES, rv w_Outcome_CONFORMS, iv (1 : Int32), iv (1 : Int32), iv (1 : Int32), .unset] [(.int (0 : Int32)), (.ref w_Outcome_VIOLATES)])) _
    refine XS.ifYes X8.here hx rfl (pc0 := 147) (pc' := 158) rfl (hb hby at_147) rfl ((if0 _ _).trans (teq (by decide +kernel : (0 : Int32) = (0 : Int32))).1) (by decide) (by decide) ?_
    show Steps p.tables e below (T8.setTop (mkF m 158 #[iv p0, iv p1, iv (0 : Int32), iv (1 : Int32), rv w_Outcome_VIOLATES, rv w_Outcome_CONFORMS, iv (1 : Int32), iv (1 : Int32), iv (1 : Int32), .unset] [(.ref w_Outcome_VIOLATES)])) _
    refine XS.iconst X8.here hx rfl (hb hby at_158) ?_
    show Steps p.tables e below (T8.setTop (mkF m 159 #[iv p0, iv p1, iv (0 : Int32), iv (1 : Int32), rv w_Outcome_VIOLATES, rv w_Outcome_CONFORMS, iv (1 : Int32), iv (1 : Int32), iv (1 : Int32), .unset] [(.int (0 : Int32)), (.ref w_Outcome_VIOLATES)])) _
    refine st9 _ ?_
    show Steps p.tables e below (T9.setTop (mkF m 162 #[iv p0, iv p1, iv (0 : Int32), iv (1 : Int32), rv w_Outcome_VIOLATES, rv w_Outcome_CONFORMS, iv (1 : Int32), iv (1 : Int32), iv (1 : Int32), .unset] [(.ref w_Outcome_VIOLATES), (.ref w_Outcome_VIOLATES)])) _
    refine Jvm.RoadKit.acmp (g := (mkF m 162 #[iv p0, iv p1, iv (0 : Int32), iv (1 : Int32), rv w_Outcome_VIOLATES, rv w_Outcome_CONFORMS, iv (1 : Int32), iv (1 : Int32), iv (1 : Int32), .unset] [(.ref w_Outcome_VIOLATES), (.ref w_Outcome_VIOLATES)])) X9 hx rfl rfl rfl (pc0 := 162) (pc' := 165) (same := true) rfl (hb hby at_162) rfl (decide_eq_true rfl) (by decide) (by decide) ?_
    show Steps p.tables e below (T9.setTop (mkF m 165 #[iv p0, iv p1, iv (0 : Int32), iv (1 : Int32), rv w_Outcome_VIOLATES, rv w_Outcome_CONFORMS, iv (1 : Int32), iv (1 : Int32), iv (1 : Int32), .unset] [])) _
    refine XS.iconst X9.here hx rfl (hb hby at_165) ?_
    show Steps p.tables e below (T9.setTop (mkF m 166 #[iv p0, iv p1, iv (0 : Int32), iv (1 : Int32), rv w_Outcome_VIOLATES, rv w_Outcome_CONFORMS, iv (1 : Int32), iv (1 : Int32), iv (1 : Int32), .unset] [(.int (1 : Int32))])) _
    refine XS.goto X9.here hx rfl (pc0 := 166) (pc' := 170) rfl (hb hby at_166) (by decide) (by decide) ?_
    show Steps p.tables e below (T9.setTop (mkF m 170 #[iv p0, iv p1, iv (0 : Int32), iv (1 : Int32), rv w_Outcome_VIOLATES, rv w_Outcome_CONFORMS, iv (1 : Int32), iv (1 : Int32), iv (1 : Int32), .unset] [(.int (1 : Int32))])) _
    refine XS.istore X9.here hx rfl (hb hby at_170) rfl (l' := #[iv p0, iv p1, iv (0 : Int32), iv (1 : Int32), rv w_Outcome_VIOLATES, rv w_Outcome_CONFORMS, iv (1 : Int32), iv (1 : Int32), iv (1 : Int32), iv (1 : Int32)]) rfl ?_
    show Steps p.tables e below (T9.setTop (mkF m 172 #[iv p0, iv p1, iv (0 : Int32), iv (1 : Int32), rv w_Outcome_VIOLATES, rv w_Outcome_CONFORMS, iv (1 : Int32), iv (1 : Int32), iv (1 : Int32), iv (1 : Int32)] [])) _
    refine XS.iload X9.here hx rfl (hb hby at_172) rfl ?_
    show Steps p.tables e below (T9.setTop (mkF m 174 #[iv p0, iv p1, iv (0 : Int32), iv (1 : Int32), rv w_Outcome_VIOLATES, rv w_Outcome_CONFORMS, iv (1 : Int32), iv (1 : Int32), iv (1 : Int32), iv (1 : Int32)] [(.int (1 : Int32))])) _
    refine XS.ifNo X9.here hx rfl (hb hby at_174) rfl ((if0 _ _).trans (feq (by decide +kernel : ¬ ((1 : Int32) = (0 : Int32)))).1) ?_
    show Steps p.tables e below (T9.setTop (mkF m 177 #[iv p0, iv p1, iv (0 : Int32), iv (1 : Int32), rv w_Outcome_VIOLATES, rv w_Outcome_CONFORMS, iv (1 : Int32), iv (1 : Int32), iv (1 : Int32), iv (1 : Int32)] [])) _
    refine XS.iload X9.here hx rfl (hb hby at_177) rfl ?_
    show Steps p.tables e below (T9.setTop (mkF m 179 #[iv p0, iv p1, iv (0 : Int32), iv (1 : Int32), rv w_Outcome_VIOLATES, rv w_Outcome_CONFORMS, iv (1 : Int32), iv (1 : Int32), iv (1 : Int32), iv (1 : Int32)] [(.int (1 : Int32))])) _
    refine XS.ifNo X9.here hx rfl (hb hby at_179) rfl ((if0 _ _).trans (feq (by decide +kernel : ¬ ((1 : Int32) = (0 : Int32)))).1) ?_
    show Steps p.tables e below (T9.setTop (mkF m 182 #[iv p0, iv p1, iv (0 : Int32), iv (1 : Int32), rv w_Outcome_VIOLATES, rv w_Outcome_CONFORMS, iv (1 : Int32), iv (1 : Int32), iv (1 : Int32), iv (1 : Int32)] [])) _
    refine XS.iload X9.here hx rfl (hb hby at_182) rfl ?_
    show Steps p.tables e below (T9.setTop (mkF m 184 #[iv p0, iv p1, iv (0 : Int32), iv (1 : Int32), rv w_Outcome_VIOLATES, rv w_Outcome_CONFORMS, iv (1 : Int32), iv (1 : Int32), iv (1 : Int32), iv (1 : Int32)] [(.int (1 : Int32))])) _
    refine XS.ifNo X9.here hx rfl (hb hby at_184) rfl ((if0 _ _).trans (feq (by decide +kernel : ¬ ((1 : Int32) = (0 : Int32)))).1) ?_
    show Steps p.tables e below (T9.setTop (mkF m 187 #[iv p0, iv p1, iv (0 : Int32), iv (1 : Int32), rv w_Outcome_VIOLATES, rv w_Outcome_CONFORMS, iv (1 : Int32), iv (1 : Int32), iv (1 : Int32), iv (1 : Int32)] [])) _
    refine XS.iload X9.here hx rfl (hb hby at_187) rfl ?_
    show Steps p.tables e below (T9.setTop (mkF m 189 #[iv p0, iv p1, iv (0 : Int32), iv (1 : Int32), rv w_Outcome_VIOLATES, rv w_Outcome_CONFORMS, iv (1 : Int32), iv (1 : Int32), iv (1 : Int32), iv (1 : Int32)] [(.int (1 : Int32))])) _
    refine XS.ifNo X9.here hx rfl (hb hby at_189) rfl ((if0 _ _).trans (feq (by decide +kernel : ¬ ((1 : Int32) = (0 : Int32)))).1) ?_
    show Steps p.tables e below (T9.setTop (mkF m 192 #[iv p0, iv p1, iv (0 : Int32), iv (1 : Int32), rv w_Outcome_VIOLATES, rv w_Outcome_CONFORMS, iv (1 : Int32), iv (1 : Int32), iv (1 : Int32), iv (1 : Int32)] [])) _
    refine XS.iconst X9.here hx rfl (hb hby at_192) ?_
    show Steps p.tables e below (T9.setTop (mkF m 193 #[iv p0, iv p1, iv (0 : Int32), iv (1 : Int32), rv w_Outcome_VIOLATES, rv w_Outcome_CONFORMS, iv (1 : Int32), iv (1 : Int32), iv (1 : Int32), iv (1 : Int32)] [(.int (1 : Int32))])) _
    refine XS.goto X9.here hx rfl (pc0 := 193) (pc' := 197) rfl (hb hby at_193) (by decide) (by decide) ?_
    show Steps p.tables e below (T9.setTop (mkF m 197 #[iv p0, iv p1, iv (0 : Int32), iv (1 : Int32), rv w_Outcome_VIOLATES, rv w_Outcome_CONFORMS, iv (1 : Int32), iv (1 : Int32), iv (1 : Int32), iv (1 : Int32)] [(.int (1 : Int32))])) _
    exact retN X9 hx (t := .boolean) Bd.returns (by simp) (hb hby at_197) hr
  · exact ⟨rfl, N9⟩
set_option maxRecDepth 65536 in
set_option maxHeartbeats 40000000 in
theorem rm3_8 (l : Launch) (Z : State) (a0 : Array Value) (hw : ∀ d ∈ tables_1, d.before a0 Z = true) (ws : List Jvm.Cond) (w_Outcome_CONFORMS : Addr) (h0 : Heap) (n0 : Nat) (Z0 : n0 ≤ h0.size) (F_w_Outcome_CONFORMS_ordinal : Fld Z h0 w_Outcome_CONFORMS "java/lang/Enum" "ordinal" "I" (.int (2 : Int32))) :
    MetFree l (⟨"java/lang/Enum", "ordinal", "()I"⟩ : MethodName) (head1 (Jvm.Cond.code (⟨"java/lang/Enum", "ordinal", "()I"⟩ : MethodName) jdk_37_method_2_code 1 (some .int) :: ws) ({ frames := 0, cells := 0, slots := 0, locals := 0 } : Room)) (fun a U => a = #[(.ref w_Outcome_CONFORMS)] ∧ Z.Warmed39 U.vm ∧ U.heap = h0) (fun _ _ _ _ _ => True) (fun _ U o U' => ∃ v L, o = .returned v ∧ own_QP (some (.int (2 : Int32))) h0 n0 v U'.heap L ∧ FrameEnd U o U' L ({ frames := 0, cells := 0, slots := 0, locals := 0 } : Room).cells ({ frames := 0, cells := 0, slots := 0, locals := 0 } : Room).slots) := by
  refine MetFree.of_bodySF (plainFor_of_name pn_1) hisR ?_
  intro p e s m args below meth c s₁ Bd hml0 hP hK
  obtain ⟨rfl, hZ, hh⟩ := hP
  have hx := Bd.exec
  have hby := Bd.bytes
  have hml : c.maxLocals = 1 := hml0
  have hown : s.vm.findClass "java/lang/Enum" = some m.cls := findClass_of_methodNamed Bd.named
  have hnm := (name_of_methodNamed Bd.named Bd.method).1
  have X0 : Stand p l e ({ frames := 0, cells := 0, slots := 0, locals := 0 } : Room) s m #[(.ref w_Outcome_CONFORMS)] below meth c s₁ [] 0 0 := Stand.of_body Bd
  have e0 : s₁.heap = h0 := by rw [← hh, Bd.state]; rfl
  have N0 := Fr.nil n0
  have pre0 : ∀ t, Steps p.tables e below (s₁.setTop (mkF m 0 #[rv w_Outcome_CONFORMS] [])) t → Steps p.tables e below (s₁.setTop (entryFrame m #[(.ref w_Outcome_CONFORMS)] 1)) t := fun t k => castTop (ef_3_R m w_Outcome_CONFORMS) k
  obtain ⟨T1, X1, e1, st1⟩ := getF X0 hx hZ hown (host := "") (Or.inl (hw _ (List.mem_of_getElem? (i := 24) rfl))) Via.refl e0 F_w_Outcome_CONFORMS_ordinal (g := (mkF m 1 #[rv w_Outcome_CONFORMS] [(.ref w_Outcome_CONFORMS)])) rfl rfl (hb hby d3_1)
  obtain ⟨fs, hr, hrun, hended, hW, hsame⟩ := X1.leave (v := (some (.int (2 : Int32)))) (fun h => by rw [Bd.returns] at h; cases h)
  refine ⟨_, _, pre0 _ ?_, hrun, hended, _, _, rfl, ?_, ⟨_, rfl⟩, hW, hsame.mono (by decide) (by decide)⟩
  · show Steps p.tables e below (s₁.setTop (mkF m 0 #[rv w_Outcome_CONFORMS] [])) _
    refine XS.aloadN X0.here hx rfl (hb hby d3_0) rfl rfl ?_
    show Steps p.tables e below (s₁.setTop (mkF m 1 #[rv w_Outcome_CONFORMS] [(.ref w_Outcome_CONFORMS)])) _
    refine st1 _ ?_
    show Steps p.tables e below (T1.setTop (mkF m 4 #[rv w_Outcome_CONFORMS] [(.int (2 : Int32))])) _
    exact retI X1 hx Bd.returns (hb hby d3_4) hr
  · exact ⟨rfl, N0, e1⟩
set_option maxRecDepth 65536 in
set_option maxHeartbeats 40000000 in
theorem rm2_8 (l : Launch) (Z : State) (a0 : Array Value) (hw : ∀ d ∈ tables_1, d.before a0 Z = true) (ws : List Jvm.Cond) (w_Outcome_VIOLATES : Addr) (w_Outcome_CONFORMS : Addr) (h0 : Heap) (n0 : Nat) (Z0 : n0 ≤ h0.size) (F_w_Outcome_CONFORMS_ordinal : Fld Z h0 w_Outcome_CONFORMS "java/lang/Enum" "ordinal" "I" (.int (2 : Int32))) (E_w_Outcome_CONFORMS : Exa Z h0 w_Outcome_CONFORMS "com/example/shapewell/shapewell/Outcome") (S_Outcome_VIOLATES : Sta Z h0 "com/example/shapewell/shapewell/Outcome" "VIOLATES" "Lcom/example/shapewell/shapewell/Outcome;" (.ref w_Outcome_VIOLATES)) :
    MetFree l (⟨"com/example/shapewell/shapewell/Outcome", "not", "()Lcom/example/shapewell/shapewell/Outcome;"⟩ : MethodName) (head1 (Jvm.Cond.code (⟨"com/example/shapewell/shapewell/Outcome", "not", "()Lcom/example/shapewell/shapewell/Outcome;"⟩ : MethodName) prog_3_method_6_code 1 (some (.object "com/example/shapewell/shapewell/Outcome")) :: ws) ({ frames := 1, cells := 0, slots := 0, locals := 12 } : Room)) (fun a U => a = #[(.ref w_Outcome_CONFORMS)] ∧ Z.Warmed39 U.vm ∧ U.heap = h0) (fun _ _ _ _ _ => True) (fun _ U o U' => ∃ v L, o = .returned v ∧ own_QP (some (.ref w_Outcome_VIOLATES)) h0 n0 v U'.heap L ∧ FrameEnd U o U' L ({ frames := 1, cells := 0, slots := 0, locals := 12 } : Room).cells ({ frames := 1, cells := 0, slots := 0, locals := 12 } : Room).slots) := by
  refine MetFree.of_bodySF (plainFor_of_name pn_0) hisR ?_
  intro p e s m args below meth c s₁ Bd hml0 hP hK
  obtain ⟨rfl, hZ, hh⟩ := hP
  have hx := Bd.exec
  have hby := Bd.bytes
  have hml : c.maxLocals = 1 := hml0
  have hown : s.vm.findClass "com/example/shapewell/shapewell/Outcome" = some m.cls := findClass_of_methodNamed Bd.named
  have hnm := (name_of_methodNamed Bd.named Bd.method).1
  have X0 : Stand p l e ({ frames := 1, cells := 0, slots := 0, locals := 12 } : Room) s m #[(.ref w_Outcome_CONFORMS)] below meth c s₁ [] 0 0 := Stand.of_body Bd
  have e0 : s₁.heap = h0 := by rw [← hh, Bd.state]; rfl
  have N0 := Fr.nil n0
  have pre0 : ∀ t, Steps p.tables e below (s₁.setTop (mkF m 0 #[rv w_Outcome_CONFORMS] [])) t → Steps p.tables e below (s₁.setTop (entryFrame m #[(.ref w_Outcome_CONFORMS)] 1)) t := fun t k => castTop (ef_2_R m w_Outcome_CONFORMS) k
  obtain ⟨cq1, kq1, q1a, q1b, q1c⟩ := isOf hZ e0 E_w_Outcome_CONFORMS
  obtain ⟨_, _, ⟨T1, L1, k1, n1⟩, -, X1, ⟨Lc1, hQ1, l1, y1, z1⟩, st1⟩ := X0.virtualBackUp hx (x := (⟨"com/example/shapewell/shapewell/Outcome", "ordinal", "()I"⟩ : MethodName)) (y := (⟨"java/lang/Enum", "ordinal", "()I"⟩ : MethodName)) hown (mvT hZ (hw _ (List.mem_of_getElem? (i := 17) rfl))) (mvT hZ (hw _ (List.mem_of_getElem? (i := 18) rfl))) (mvT hZ (hw _ (List.mem_of_getElem? (i := 19) rfl))) (by decide) (mvT hZ (hw _ (List.mem_of_getElem? (i := 21) rfl))) (mvT hZ (hw _ (List.mem_of_getElem? (i := 20) rfl))) (backOf (W := 0) (rm3_8 l Z a0 hw [] w_Outcome_CONFORMS h0 n0 Z0 F_w_Outcome_CONFORMS_ordinal) hZ (hw _ (List.mem_of_getElem? (i := 23) rfl)) (hw _ (List.mem_of_getElem? (i := 22) rfl)) (by decide) (by decide)) q1a q1c (g := (mkF m 1 #[rv w_Outcome_CONFORMS] [(.ref w_Outcome_CONFORMS)])) rfl (by rw [hml]; rfl) (Steps.refl _) (argsL := []) (rest := []) (lenOf pd_1 rfl) rfl (by show 2 * 0 + _ ≤ _; exact Nat.le_of_eq rfl) (hb hby d2_1) (fun _ _ => ⟨rfl, e0, (by decide : 0 + 0 ≤ _), (by decide : 0 + 0 ≤ _)⟩)
  dsimp only [Pt.U, Pt.locs, Pt.cells, Pt.slots] at X1 l1 y1 z1 st1 hQ1
  subst l1 y1 z1
  obtain ⟨rfl, N1q, e1⟩ := hQ1
  have N1 := Fr.app N0 N1q
  obtain ⟨T2, X2, e2, st2⟩ := getS2 X1 hx hZ hown (host := "") (Or.inl (hw _ (List.mem_of_getElem? (i := 4) rfl))) Via.refl e1 S_Outcome_VIOLATES (g := (mkF m 54 #[rv w_Outcome_CONFORMS] [])) rfl (hb hby d2_54)
  obtain ⟨fs, hr, hrun, hended, hW, hsame⟩ := X2.leave (v := (some (.ref w_Outcome_VIOLATES))) (fun h => by rw [Bd.returns] at h; cases h)
  refine ⟨_, _, pre0 _ ?_, hrun, hended, _, _, rfl, ?_, ⟨_, rfl⟩, hW, hsame.mono (by decide) (by decide)⟩
  · show Steps p.tables e below (s₁.setTop (mkF m 0 #[rv w_Outcome_CONFORMS] [])) _
    refine XS.aloadN X0.here hx rfl (hb hby d2_0) rfl rfl ?_
    show Steps p.tables e below (s₁.setTop (mkF m 1 #[rv w_Outcome_CONFORMS] [(.ref w_Outcome_CONFORMS)])) _
    refine st1.trans ?_
    show Steps p.tables e below (T1.setTop (mkF m 4 #[rv w_Outcome_CONFORMS] [(.int (2 : Int32))])) _
    refine XS.tswIn X1.here hx rfl (o := 50) (pc0 := 4) (pc' := 54) rfl (hb hby d2_4) rfl (by decide) (by decide) (by decide) (by decide) ?_
    show Steps p.tables e below (T1.setTop (mkF m 54 #[rv w_Outcome_CONFORMS] [])) _
    refine st2 _ ?_
    show Steps p.tables e below (T2.setTop (mkF m 57 #[rv w_Outcome_CONFORMS] [(.ref w_Outcome_VIOLATES)])) _
    exact own_retA X2 hx Bd.returns rfl rfl (hb hby d2_57) hr
  · exact ⟨rfl, N1, e2⟩
set_option maxRecDepth 65536 in
set_option maxHeartbeats 40000000 in
theorem rm5_10 (l : Launch) (Z : State) (a0 : Array Value) (hw : ∀ d ∈ tables_1, d.before a0 Z = true) (ws : List Jvm.Cond) (w_Outcome_VIOLATES : Addr) (w_Outcome_CONFORMS : Addr) (mr_Outcome : Addr) (h0 : Heap) (n0 : Nat) (Z0 : n0 ≤ h0.size) (E_w_Outcome_CONFORMS : Exa Z h0 w_Outcome_CONFORMS "com/example/shapewell/shapewell/Outcome") (M_mr_Outcome : own_Mir Z "com/example/shapewell/shapewell/Outcome" mr_Outcome) (E_w_Outcome_VIOLATES : Exa Z h0 w_Outcome_VIOLATES "com/example/shapewell/shapewell/Outcome") (F_w_Outcome_CONFORMS_ordinal : Fld Z h0 w_Outcome_CONFORMS "java/lang/Enum" "ordinal" "I" (.int (2 : Int32))) (F_w_Outcome_VIOLATES_ordinal : Fld Z h0 w_Outcome_VIOLATES "java/lang/Enum" "ordinal" "I" (.int (0 : Int32))) :
    MetFree l (⟨"java/lang/Enum", "compareTo", "(Ljava/lang/Enum;)I"⟩ : MethodName) (head1 (Jvm.Cond.code (⟨"java/lang/Enum", "compareTo", "(Ljava/lang/Enum;)I"⟩ : MethodName) jdk_37_method_8_code 4 (some .int) :: ws) ({ frames := 1, cells := 0, slots := 0, locals := 15 } : Room)) (fun a U => a = #[(.ref w_Outcome_CONFORMS), (.ref w_Outcome_VIOLATES)] ∧ Z.Warmed39 U.vm ∧ U.heap = h0) (fun _ _ _ _ _ => True) (fun _ U o U' => ∃ v L, o = .returned v ∧ own_QP (some (.int (2 : Int32))) h0 n0 v U'.heap L ∧ FrameEnd U o U' L ({ frames := 1, cells := 0, slots := 0, locals := 15 } : Room).cells ({ frames := 1, cells := 0, slots := 0, locals := 15 } : Room).slots) := by
  refine MetFree.of_bodySF (plainFor_of_name pn_1) hisR ?_
  intro p e s m args below meth c s₁ Bd hml0 hP hK
  obtain ⟨rfl, hZ, hh⟩ := hP
  have hx := Bd.exec
  have hby := Bd.bytes
  have hml : c.maxLocals = 4 := hml0
  have hown : s.vm.findClass "java/lang/Enum" = some m.cls := findClass_of_methodNamed Bd.named
  have hnm := (name_of_methodNamed Bd.named Bd.method).1
  have X0 : Stand p l e ({ frames := 1, cells := 0, slots := 0, locals := 15 } : Room) s m #[(.ref w_Outcome_CONFORMS), (.ref w_Outcome_VIOLATES)] below meth c s₁ [] 0 0 := Stand.of_body Bd
  have e0 : s₁.heap = h0 := by rw [← hh, Bd.state]; rfl
  have N0 := Fr.nil n0
  have pre0 : ∀ t, Steps p.tables e below (s₁.setTop (mkF m 0 #[rv w_Outcome_CONFORMS, rv w_Outcome_VIOLATES, .unset, .unset] [])) t → Steps p.tables e below (s₁.setTop (entryFrame m #[(.ref w_Outcome_CONFORMS), (.ref w_Outcome_VIOLATES)] 4)) t := fun t k => castTop (ef_5_RR m w_Outcome_CONFORMS w_Outcome_VIOLATES) k
  obtain ⟨T1, X1, e1, st1⟩ := own_gcls X0 hx hZ hown (hw _ (List.mem_of_getElem? (i := 37) rfl)) (hw _ (List.mem_of_getElem? (i := 38) rfl)) (hw _ (List.mem_of_getElem? (i := 40) rfl)) (hw _ (List.mem_of_getElem? (i := 39) rfl)) (hw _ (List.mem_of_getElem? (i := 41) rfl)) e0 E_w_Outcome_CONFORMS M_mr_Outcome (g := (mkF m 5 #[rv w_Outcome_CONFORMS, rv w_Outcome_VIOLATES, rv w_Outcome_VIOLATES, rv w_Outcome_CONFORMS] [(.ref w_Outcome_CONFORMS)])) rfl (by rw [hml]; rfl) rfl (hb hby d5_5) (by decide) (W := 0) (by show 2 * 0 + _ ≤ _; exact Nat.le_of_eq rfl) (by decide)
  obtain ⟨T2, X2, e2, st2⟩ := own_gcls X1 hx hZ hown (hw _ (List.mem_of_getElem? (i := 37) rfl)) (hw _ (List.mem_of_getElem? (i := 38) rfl)) (hw _ (List.mem_of_getElem? (i := 40) rfl)) (hw _ (List.mem_of_getElem? (i := 39) rfl)) (hw _ (List.mem_of_getElem? (i := 41) rfl)) e1 E_w_Outcome_VIOLATES M_mr_Outcome (g := (mkF m 9 #[rv w_Outcome_CONFORMS, rv w_Outcome_VIOLATES, rv w_Outcome_VIOLATES, rv w_Outcome_CONFORMS] [(.ref w_Outcome_VIOLATES), (.ref mr_Outcome)])) rfl (by rw [hml]; rfl) rfl (hb hby d5_9) (by decide) (W := 1) (by show 2 * 0 + _ ≤ _; exact Nat.le_of_eq rfl) (by decide)
  obtain ⟨T3, X3, e3, st3⟩ := getF X2 hx hZ hown (host := "") (Or.inl (hw _ (List.mem_of_getElem? (i := 24) rfl))) Via.refl e2 F_w_Outcome_CONFORMS_ordinal (g := (mkF m 35 #[rv w_Outcome_CONFORMS, rv w_Outcome_VIOLATES, rv w_Outcome_VIOLATES, rv w_Outcome_CONFORMS] [(.ref w_Outcome_CONFORMS)])) rfl rfl (hb hby d5_35)
  obtain ⟨T4, X4, e4, st4⟩ := getF X3 hx hZ hown (host := "") (Or.inl (hw _ (List.mem_of_getElem? (i := 24) rfl))) Via.refl e3 F_w_Outcome_VIOLATES_ordinal (g := (mkF m 39 #[rv w_Outcome_CONFORMS, rv w_Outcome_VIOLATES, rv w_Outcome_VIOLATES, rv w_Outcome_CONFORMS] [(.ref w_Outcome_VIOLATES), (.int (2 : Int32))])) rfl rfl (hb hby d5_39)
  obtain ⟨fs, hr, hrun, hended, hW, hsame⟩ := X4.leave (v := (some (.int (2 : Int32)))) (fun h => by rw [Bd.returns] at h; cases h)
  refine ⟨_, _, pre0 _ ?_, hrun, hended, _, _, rfl, ?_, ⟨_, rfl⟩, hW, hsame.mono (by decide) (by decide)⟩
  · show Steps p.tables e below (s₁.setTop (mkF m 0 #[rv w_Outcome_CONFORMS, rv w_Outcome_VIOLATES, .unset, .unset] [])) _
    refine XS.aloadN X0.here hx rfl (hb hby d5_0) rfl rfl ?_
    show Steps p.tables e below (s₁.setTop (mkF m 1 #[rv w_Outcome_CONFORMS, rv w_Outcome_VIOLATES, .unset, .unset] [(.ref w_Outcome_VIOLATES)])) _
    refine XS.astoreN X0.here hx rfl (hb hby d5_1) rfl rfl (l' := #[rv w_Outcome_CONFORMS, rv w_Outcome_VIOLATES, rv w_Outcome_VIOLATES, .unset]) rfl ?_
    show Steps p.tables e below (s₁.setTop (mkF m 2 #[rv w_Outcome_CONFORMS, rv w_Outcome_VIOLATES, rv w_Outcome_VIOLATES, .unset] [])) _
    refine XS.aloadN X0.here hx rfl (hb hby d5_2) rfl rfl ?_
    show Steps p.tables e below (s₁.setTop (mkF m 3 #[rv w_Outcome_CONFORMS, rv w_Outcome_VIOLATES, rv w_Outcome_VIOLATES, .unset] [(.ref w_Outcome_CONFORMS)])) _
    refine XS.astoreN X0.here hx rfl (hb hby d5_3) rfl rfl (l' := #[rv w_Outcome_CONFORMS, rv w_Outcome_VIOLATES, rv w_Outcome_VIOLATES, rv w_Outcome_CONFORMS]) rfl ?_
    show Steps p.tables e below (s₁.setTop (mkF m 4 #[rv w_Outcome_CONFORMS, rv w_Outcome_VIOLATES, rv w_Outcome_VIOLATES, rv w_Outcome_CONFORMS] [])) _
    refine XS.aloadN X0.here hx rfl (hb hby d5_4) rfl rfl ?_
    show Steps p.tables e below (s₁.setTop (mkF m 5 #[rv w_Outcome_CONFORMS, rv w_Outcome_VIOLATES, rv w_Outcome_VIOLATES, rv w_Outcome_CONFORMS] [(.ref w_Outcome_CONFORMS)])) _
    refine st1 _ ?_
    show Steps p.tables e below (T1.setTop (mkF m 8 #[rv w_Outcome_CONFORMS, rv w_Outcome_VIOLATES, rv w_Outcome_VIOLATES, rv w_Outcome_CONFORMS] [(.ref mr_Outcome)])) _
    refine XS.aloadN X1.here hx rfl (hb hby d5_8) rfl rfl ?_
    show Steps p.tables e below (T1.setTop (mkF m 9 #[rv w_Outcome_CONFORMS, rv w_Outcome_VIOLATES, rv w_Outcome_VIOLATES, rv w_Outcome_CONFORMS] [(.ref w_Outcome_VIOLATES), (.ref mr_Outcome)])) _
    refine st2 _ ?_
    show Steps p.tables e below (T2.setTop (mkF m 12 #[rv w_Outcome_CONFORMS, rv w_Outcome_VIOLATES, rv w_Outcome_VIOLATES, rv w_Outcome_CONFORMS] [(.ref mr_Outcome), (.ref mr_Outcome)])) _
    refine Jvm.RoadKit.acmp (g := (mkF m 12 #[rv w_Outcome_CONFORMS, rv w_Outcome_VIOLATES, rv w_Outcome_VIOLATES, rv w_Outcome_CONFORMS] [(.ref mr_Outcome), (.ref mr_Outcome)])) X2 hx rfl rfl rfl (pc0 := 12) (pc' := 34) (same := true) rfl (hb hby d5_12) rfl (decide_eq_true rfl) (by decide) (by decide) ?_
    show Steps p.tables e below (T2.setTop (mkF m 34 #[rv w_Outcome_CONFORMS, rv w_Outcome_VIOLATES, rv w_Outcome_VIOLATES, rv w_Outcome_CONFORMS] [])) _
    refine XS.aloadN X2.here hx rfl (hb hby d5_34) rfl rfl ?_
    show Steps p.tables e below (T2.setTop (mkF m 35 #[rv w_Outcome_CONFORMS, rv w_Outcome_VIOLATES, rv w_Outcome_VIOLATES, rv w_Outcome_CONFORMS] [(.ref w_Outcome_CONFORMS)])) _
    refine st3 _ ?_
    show Steps p.tables e below (T3.setTop (mkF m 38 #[rv w_Outcome_CONFORMS, rv w_Outcome_VIOLATES, rv w_Outcome_VIOLATES, rv w_Outcome_CONFORMS] [(.int (2 : Int32))])) _
    refine XS.aloadN X3.here hx rfl (hb hby d5_38) rfl rfl ?_
    show Steps p.tables e below (T3.setTop (mkF m 39 #[rv w_Outcome_CONFORMS, rv w_Outcome_VIOLATES, rv w_Outcome_VIOLATES, rv w_Outcome_CONFORMS] [(.ref w_Outcome_VIOLATES), (.int (2 : Int32))])) _
    refine st4 _ ?_
    show Steps p.tables e below (T4.setTop (mkF m 42 #[rv w_Outcome_CONFORMS, rv w_Outcome_VIOLATES, rv w_Outcome_VIOLATES, rv w_Outcome_CONFORMS] [(.int (0 : Int32)), (.int (2 : Int32))])) _
    refine XS.isub X4.here hx rfl (hb hby d5_42) rfl ?_
    show Steps p.tables e below (T4.setTop (mkF m 43 #[rv w_Outcome_CONFORMS, rv w_Outcome_VIOLATES, rv w_Outcome_VIOLATES, rv w_Outcome_CONFORMS] [(.int ((2 : Int32) - (0 : Int32)))])) _
    rewrite [show ((2 : Int32) - (0 : Int32)) = (2 : Int32) from by decide +kernel]
    show Steps p.tables e below (T4.setTop (mkF m 43 #[rv w_Outcome_CONFORMS, rv w_Outcome_VIOLATES, rv w_Outcome_VIOLATES, rv w_Outcome_CONFORMS] [(.int (2 : Int32))])) _
    exact retI X4 hx Bd.returns (hb hby d5_43) hr
  · exact ⟨rfl, N0, e4⟩
set_option maxRecDepth 65536 in
set_option maxHeartbeats 40000000 in
theorem rm4_10 (l : Launch) (Z : State) (a0 : Array Value) (hw : ∀ d ∈ tables_1, d.before a0 Z = true) (ws : List Jvm.Cond) (w_Outcome_VIOLATES : Addr) (w_Outcome_CONFORMS : Addr) (mr_Outcome : Addr) (h0 : Heap) (n0 : Nat) (Z0 : n0 ≤ h0.size) (E_w_Outcome_CONFORMS : Exa Z h0 w_Outcome_CONFORMS "com/example/shapewell/shapewell/Outcome") (M_mr_Outcome : own_Mir Z "com/example/shapewell/shapewell/Outcome" mr_Outcome) (E_w_Outcome_VIOLATES : Exa Z h0 w_Outcome_VIOLATES "com/example/shapewell/shapewell/Outcome") (F_w_Outcome_CONFORMS_ordinal : Fld Z h0 w_Outcome_CONFORMS "java/lang/Enum" "ordinal" "I" (.int (2 : Int32))) (F_w_Outcome_VIOLATES_ordinal : Fld Z h0 w_Outcome_VIOLATES "java/lang/Enum" "ordinal" "I" (.int (0 : Int32))) :
    MetFree l (⟨"com/example/shapewell/shapewell/Outcome", "and", "(Lcom/example/shapewell/shapewell/Outcome;)Lcom/example/shapewell/shapewell/Outcome;"⟩ : MethodName) (head1 (Jvm.Cond.code (⟨"com/example/shapewell/shapewell/Outcome", "and", "(Lcom/example/shapewell/shapewell/Outcome;)Lcom/example/shapewell/shapewell/Outcome;"⟩ : MethodName) prog_3_method_5_code 2 (some (.object "com/example/shapewell/shapewell/Outcome")) :: ws) ({ frames := 2, cells := 0, slots := 0, locals := 30 } : Room)) (fun a U => a = #[(.ref w_Outcome_CONFORMS), (.ref w_Outcome_VIOLATES)] ∧ Z.Warmed39 U.vm ∧ U.heap = h0) (fun _ _ _ _ _ => True) (fun _ U o U' => ∃ v L, o = .returned v ∧ own_QP (some (.ref w_Outcome_VIOLATES)) h0 n0 v U'.heap L ∧ FrameEnd U o U' L ({ frames := 2, cells := 0, slots := 0, locals := 30 } : Room).cells ({ frames := 2, cells := 0, slots := 0, locals := 30 } : Room).slots) := by
  refine MetFree.of_bodySF (plainFor_of_name pn_0) hisR ?_
  intro p e s m args below meth c s₁ Bd hml0 hP hK
  obtain ⟨rfl, hZ, hh⟩ := hP
  have hx := Bd.exec
  have hby := Bd.bytes
  have hml : c.maxLocals = 2 := hml0
  have hown : s.vm.findClass "com/example/shapewell/shapewell/Outcome" = some m.cls := findClass_of_methodNamed Bd.named
  have hnm := (name_of_methodNamed Bd.named Bd.method).1
  have X0 : Stand p l e ({ frames := 2, cells := 0, slots := 0, locals := 30 } : Room) s m #[(.ref w_Outcome_CONFORMS), (.ref w_Outcome_VIOLATES)] below meth c s₁ [] 0 0 := Stand.of_body Bd
  have e0 : s₁.heap = h0 := by rw [← hh, Bd.state]; rfl
  have N0 := Fr.nil n0
  have pre0 : ∀ t, Steps p.tables e below (s₁.setTop (mkF m 0 #[rv w_Outcome_CONFORMS, rv w_Outcome_VIOLATES] [])) t → Steps p.tables e below (s₁.setTop (entryFrame m #[(.ref w_Outcome_CONFORMS), (.ref w_Outcome_VIOLATES)] 2)) t := fun t k => castTop (ef_4_RR m w_Outcome_CONFORMS w_Outcome_VIOLATES) k
  obtain ⟨cq1, kq1, q1a, q1b, q1c⟩ := isOf hZ e0 E_w_Outcome_CONFORMS
  obtain ⟨_, _, ⟨T1, L1, k1, n1⟩, -, X1, ⟨Lc1, hQ1, l1, y1, z1⟩, st1⟩ := X0.virtualBackUp hx (x := (⟨"com/example/shapewell/shapewell/Outcome", "compareTo", "(Ljava/lang/Enum;)I"⟩ : MethodName)) (y := (⟨"java/lang/Enum", "compareTo", "(Ljava/lang/Enum;)I"⟩ : MethodName)) hown (mvT hZ (hw _ (List.mem_of_getElem? (i := 31) rfl))) (mvT hZ (hw _ (List.mem_of_getElem? (i := 32) rfl))) (mvT hZ (hw _ (List.mem_of_getElem? (i := 33) rfl))) (by decide) (mvT hZ (hw _ (List.mem_of_getElem? (i := 35) rfl))) (mvT hZ (hw _ (List.mem_of_getElem? (i := 34) rfl))) (backOf (W := 0) (rm5_10 l Z a0 hw [] w_Outcome_VIOLATES w_Outcome_CONFORMS mr_Outcome h0 n0 Z0 E_w_Outcome_CONFORMS M_mr_Outcome E_w_Outcome_VIOLATES F_w_Outcome_CONFORMS_ordinal F_w_Outcome_VIOLATES_ordinal) hZ (hw _ (List.mem_of_getElem? (i := 36) rfl)) (hw _ (List.mem_of_getElem? (i := 22) rfl)) (by decide) (by decide)) q1a q1c (g := (mkF m 2 #[rv w_Outcome_CONFORMS, rv w_Outcome_VIOLATES] [(.ref w_Outcome_VIOLATES), (.ref w_Outcome_CONFORMS)])) rfl (by rw [hml]; rfl) (Steps.refl _) (argsL := [(.ref w_Outcome_VIOLATES)]) (rest := []) (lenOf pd_3 rfl) rfl (by show 2 * 0 + _ ≤ _; exact Nat.le_of_eq rfl) (hb hby d4_2) (fun _ _ => ⟨rfl, e0, (by decide : 0 + 0 ≤ _), (by decide : 0 + 0 ≤ _)⟩)
  dsimp only [Pt.U, Pt.locs, Pt.cells, Pt.slots] at X1 l1 y1 z1 st1 hQ1
  subst l1 y1 z1
  obtain ⟨rfl, N1q, e1⟩ := hQ1
  have N1 := Fr.app N0 N1q
  obtain ⟨fs, hr, hrun, hended, hW, hsame⟩ := X1.leave (v := (some (.ref w_Outcome_VIOLATES))) (fun h => by rw [Bd.returns] at h; cases h)
  refine ⟨_, _, pre0 _ ?_, hrun, hended, _, _, rfl, ?_, ⟨_, rfl⟩, hW, hsame.mono (by decide) (by decide)⟩
  · show Steps p.tables e below (s₁.setTop (mkF m 0 #[rv w_Outcome_CONFORMS, rv w_Outcome_VIOLATES] [])) _
    refine XS.aloadN X0.here hx rfl (hb hby d4_0) rfl rfl ?_
    show Steps p.tables e below (s₁.setTop (mkF m 1 #[rv w_Outcome_CONFORMS, rv w_Outcome_VIOLATES] [(.ref w_Outcome_CONFORMS)])) _
    refine XS.aloadN X0.here hx rfl (hb hby d4_1) rfl rfl ?_
    show Steps p.tables e below (s₁.setTop (mkF m 2 #[rv w_Outcome_CONFORMS, rv w_Outcome_VIOLATES] [(.ref w_Outcome_VIOLATES), (.ref w_Outcome_CONFORMS)])) _
    refine st1.trans ?_
    show Steps p.tables e below (T1.setTop (mkF m 5 #[rv w_Outcome_CONFORMS, rv w_Outcome_VIOLATES] [(.int (2 : Int32))])) _
    refine XS.ifYes X1.here hx rfl (pc0 := 5) (pc' := 12) rfl (hb hby d4_5) rfl ((if0 _ _).trans (tlt (by decide +kernel : (0 : Int32) < (2 : Int32))).2.2.1) (by decide) (by decide) ?_
    show Steps p.tables e below (T1.setTop (mkF m 12 #[rv w_Outcome_CONFORMS, rv w_Outcome_VIOLATES] [])) _
    refine XS.aloadN X1.here hx rfl (hb hby d4_12) rfl rfl ?_
    show Steps p.tables e below (T1.setTop (mkF m 13 #[rv w_Outcome_CONFORMS, rv w_Outcome_VIOLATES] [(.ref w_Outcome_VIOLATES)])) _
    exact own_retA X1 hx Bd.returns rfl rfl (hb hby d4_13) hr
  · exact ⟨rfl, N1, e1⟩
set_option maxRecDepth 65536 in
set_option maxHeartbeats 40000000 in
theorem rm0_2 (l : Launch) (Z : State) (a0 : Array Value) (hw : ∀ d ∈ tables_1, d.before a0 Z = true) (ws : List Jvm.Cond) (p0 : Int32) (p1 : Int32) (w_Outcome_VIOLATES : Addr) (w_Outcome_CONFORMS : Addr) (w_Outcome_UNDETERMINED : Addr) (mr_Outcome : Addr) (h0 : Heap) (n0 : Nat) (Z0 : n0 ≤ h0.size) (hk0 : (p0 &&& (1 : Int32)) = (1 : Int32)) (hk1 : (p1 &&& (1 : Int32)) = (0 : Int32)) (S_Outcome_CONFORMS : Sta Z h0 "com/example/shapewell/shapewell/Outcome" "CONFORMS" "Lcom/example/shapewell/shapewell/Outcome;" (.ref w_Outcome_CONFORMS)) (S_Outcome_VIOLATES : Sta Z h0 "com/example/shapewell/shapewell/Outcome" "VIOLATES" "Lcom/example/shapewell/shapewell/Outcome;" (.ref w_Outcome_VIOLATES)) (ne_w_Outcome_CONFORMS_w_Outcome_VIOLATES : ¬ (w_Outcome_CONFORMS = w_Outcome_VIOLATES)) (S_Outcome_UNDETERMINED : Sta Z h0 "com/example/shapewell/shapewell/Outcome" "UNDETERMINED" "Lcom/example/shapewell/shapewell/Outcome;" (.ref w_Outcome_UNDETERMINED)) (ne_w_Outcome_CONFORMS_w_Outcome_UNDETERMINED : ¬ (w_Outcome_CONFORMS = w_Outcome_UNDETERMINED)) (F_w_Outcome_CONFORMS_ordinal : Fld Z h0 w_Outcome_CONFORMS "java/lang/Enum" "ordinal" "I" (.int (2 : Int32))) (E_w_Outcome_CONFORMS : Exa Z h0 w_Outcome_CONFORMS "com/example/shapewell/shapewell/Outcome") (M_mr_Outcome : own_Mir Z "com/example/shapewell/shapewell/Outcome" mr_Outcome) (E_w_Outcome_VIOLATES : Exa Z h0 w_Outcome_VIOLATES "com/example/shapewell/shapewell/Outcome") (F_w_Outcome_VIOLATES_ordinal : Fld Z h0 w_Outcome_VIOLATES "java/lang/Enum" "ordinal" "I" (.int (0 : Int32))) :
    MetFree l x (head1 (Jvm.Cond.code x code maxLocals ret :: ws) room_1) (fun a U => a = #[(.int p0), (.int p1)] ∧ Z.Warmed39 U.vm ∧ U.heap = h0) (fun _ _ _ _ _ => True) (fun _ U o U' => ∃ v L, o = .returned v ∧ own_QL n0 v U'.heap L ∧ FrameEnd U o U' L room_1.cells room_1.slots) := by
  refine MetFree.of_bodySF (plainFor_of_name pn_2) hisR ?_
  intro p e s m args below meth c s₁ Bd hml0 hP hK
  obtain ⟨rfl, hZ, hh⟩ := hP
  have hx := Bd.exec
  have hby := Bd.bytes
  have hml : c.maxLocals = 10 := hml0
  have hown : s.vm.findClass "com/example/shapewell/shapewell/OutcomeOfPinLaw" = some m.cls := findClass_of_methodNamed Bd.named
  have hnm := (name_of_methodNamed Bd.named Bd.method).1
  have X0 : Stand p l e room_1 s m #[(.int p0), (.int p1)] below meth c s₁ [] 0 0 := Stand.of_body Bd
  have e0 : s₁.heap = h0 := by rw [← hh, Bd.state]; rfl
  have N0 := Fr.nil n0
  have pre0 : ∀ t, Steps p.tables e below (s₁.setTop (mkF m 0 #[iv p0, iv p1, .unset, .unset, .unset, .unset, .unset, .unset, .unset, .unset] [])) t → Steps p.tables e below (s₁.setTop (entryFrame m #[(.int p0), (.int p1)] maxLocals)) t := fun t k => castTop (ef_0_II m p0 p1) k
  obtain ⟨_, _, ⟨T1, L1, k1, n1⟩, -, X1, ⟨Lc1, hQ1, l1, y1, z1⟩, st1⟩ := Jvm.LawKit.callS X0 hx (y := (⟨"com/example/shapewell/shapewell/Outcome", "of", "(Z)Lcom/example/shapewell/shapewell/Outcome;"⟩ : MethodName)) hown (mvT hZ (hw _ (List.mem_of_getElem? (i := 0) rfl))) (mvT hZ (hw _ (List.mem_of_getElem? (i := 1) rfl))) (mvT hZ (hw _ (List.mem_of_getElem? (i := 2) rfl))) (mvT hZ (hw _ (List.mem_of_getElem? (i := 3) rfl))) (by decide) (backOf (W := 0) (rm1_3 l Z a0 hw [] w_Outcome_CONFORMS h0 n0 Z0 S_Outcome_CONFORMS) hZ (hw _ (List.mem_of_getElem? (i := 3) rfl)) (hw _ (List.mem_of_getElem? (i := 2) rfl)) (by decide) (by decide)) (g := (mkF m 25 #[iv p0, iv p1, iv (1 : Int32), iv (0 : Int32), .unset, .unset, .unset, .unset, .unset, .unset] [(.int (1 : Int32))])) rfl (by rw [hml]; rfl) (argsL := [(.int (1 : Int32))]) (rest := []) (lenOf pd_0 rfl) rfl (by show 2 * 0 + _ ≤ _; exact Nat.le_of_eq rfl) (hb hby at_25) (fun _ _ => ⟨rfl, e0, (by decide : 0 + 0 ≤ _), (by decide : 0 + 0 ≤ _)⟩)
  dsimp only [Pt.U, Pt.locs, Pt.cells, Pt.slots] at X1 l1 y1 z1 st1 hQ1
  subst l1 y1 z1
  obtain ⟨rfl, N1q, e1⟩ := hQ1
  have N1 := Fr.app N0 N1q
  obtain ⟨_, _, ⟨T2, L2, k2, n2⟩, -, X2, ⟨Lc2, hQ2, l2, y2, z2⟩, st2⟩ := Jvm.LawKit.callS X1 hx (y := (⟨"com/example/shapewell/shapewell/Outcome", "of", "(Z)Lcom/example/shapewell/shapewell/Outcome;"⟩ : MethodName)) hown (mvT hZ (hw _ (List.mem_of_getElem? (i := 0) rfl))) (mvT hZ (hw _ (List.mem_of_getElem? (i := 1) rfl))) (mvT hZ (hw _ (List.mem_of_getElem? (i := 2) rfl))) (mvT hZ (hw _ (List.mem_of_getElem? (i := 3) rfl))) (by decide) (backOf (W := 0) (rm1_0 l Z a0 hw [] w_Outcome_VIOLATES h0 n0 Z0 S_Outcome_VIOLATES) hZ (hw _ (List.mem_of_getElem? (i := 3) rfl)) (hw _ (List.mem_of_getElem? (i := 2) rfl)) (by decide) (by decide)) (g := (mkF m 31 #[iv p0, iv p1, iv (1 : Int32), iv (0 : Int32), rv w_Outcome_CONFORMS, .unset, .unset, .unset, .unset, .unset] [(.int (0 : Int32))])) rfl (by rw [hml]; rfl) (argsL := [(.int (0 : Int32))]) (rest := []) (lenOf pd_0 rfl) rfl (by show 2 * 0 + _ ≤ _; exact Nat.le_of_eq rfl) (hb hby at_31) (fun _ _ => ⟨rfl, e1, (by decide : 0 + 0 ≤ _), (by decide : 0 + 0 ≤ _)⟩)
  dsimp only [Pt.U, Pt.locs, Pt.cells, Pt.slots] at X2 l2 y2 z2 st2 hQ2
  subst l2 y2 z2
  obtain ⟨rfl, N2q, e2⟩ := hQ2
  have N2 := Fr.app N1 N2q
  obtain ⟨T3, X3, e3, st3⟩ := getS2 X2 hx hZ hown (host := "") (Or.inl (hw _ (List.mem_of_getElem? (i := 8) rfl))) Via.refl e2 S_Outcome_CONFORMS (g := (mkF m 50 #[iv p0, iv p1, iv (1 : Int32), iv (0 : Int32), rv w_Outcome_CONFORMS, rv w_Outcome_VIOLATES, .unset, .unset, .unset, .unset] [(.ref w_Outcome_CONFORMS)])) rfl (hb hby at_50)
  obtain ⟨T4, X4, e4, st4⟩ := getS2 X3 hx hZ hown (host := "") (Or.inl (hw _ (List.mem_of_getElem? (i := 9) rfl))) Via.refl e3 S_Outcome_VIOLATES (g := (mkF m 67 #[iv p0, iv p1, iv (1 : Int32), iv (0 : Int32), rv w_Outcome_CONFORMS, rv w_Outcome_VIOLATES, .unset, .unset, .unset, .unset] [(.ref w_Outcome_CONFORMS)])) rfl (hb hby at_67)
  obtain ⟨T5, X5, e5, st5⟩ := getS2 X4 hx hZ hown (host := "") (Or.inl (hw _ (List.mem_of_getElem? (i := 10) rfl))) Via.refl e4 S_Outcome_UNDETERMINED (g := (mkF m 99 #[iv p0, iv p1, iv (1 : Int32), iv (0 : Int32), rv w_Outcome_CONFORMS, rv w_Outcome_VIOLATES, iv (1 : Int32), .unset, .unset, .unset] [(.ref w_Outcome_CONFORMS)])) rfl (hb hby at_99)
  obtain ⟨cq6, kq6, q6a, q6b, q6c⟩ := isOf hZ e5 E_w_Outcome_CONFORMS
  obtain ⟨_, _, ⟨T6, L6, k6, n6⟩, -, X6, ⟨Lc6, hQ6, l6, y6, z6⟩, st6⟩ := X5.virtualBack hx (y := (⟨"com/example/shapewell/shapewell/Outcome", "not", "()Lcom/example/shapewell/shapewell/Outcome;"⟩ : MethodName)) (z := (⟨"com/example/shapewell/shapewell/Outcome", "not", "()Lcom/example/shapewell/shapewell/Outcome;"⟩ : MethodName)) hown (mvT hZ (hw _ (List.mem_of_getElem? (i := 12) rfl))) (mvT hZ (hw _ (List.mem_of_getElem? (i := 13) rfl))) (notFace_of_selects (args := #[]) (mvT hZ (hw _ (List.mem_of_getElem? (i := 15) rfl)))) (mvT hZ (hw _ (List.mem_of_getElem? (i := 15) rfl))) (mvT hZ (hw _ (List.mem_of_getElem? (i := 14) rfl))) (by decide) (backOf (W := 0) (rm2_8 l Z a0 hw [] w_Outcome_VIOLATES w_Outcome_CONFORMS h0 n0 Z0 F_w_Outcome_CONFORMS_ordinal E_w_Outcome_CONFORMS S_Outcome_VIOLATES) hZ (hw _ (List.mem_of_getElem? (i := 16) rfl)) (hw _ (List.mem_of_getElem? (i := 2) rfl)) (by decide) (by decide)) q6a q6c (g := (mkF m 114 #[iv p0, iv p1, iv (1 : Int32), iv (0 : Int32), rv w_Outcome_CONFORMS, rv w_Outcome_VIOLATES, iv (1 : Int32), iv (1 : Int32), .unset, .unset] [(.ref w_Outcome_CONFORMS)])) rfl (by rw [hml]; rfl) (Steps.refl _) (argsL := []) (rest := []) (lenOf pd_2 rfl) rfl (by show 2 * 0 + _ ≤ _; exact Nat.le_of_eq rfl) (hb hby at_114) (fun _ _ => ⟨rfl, e5, (by decide : 0 + 0 ≤ _), (by decide : 0 + 0 ≤ _)⟩)
  dsimp only [Pt.U, Pt.locs, Pt.cells, Pt.slots] at X6 l6 y6 z6 st6 hQ6
  subst l6 y6 z6
  obtain ⟨rfl, N6q, e6⟩ := hQ6
  have N6 := Fr.app N2 N6q
  obtain ⟨_, _, ⟨T7, L7, k7, n7⟩, -, X7, ⟨Lc7, hQ7, l7, y7, z7⟩, st7⟩ := Jvm.LawKit.callS X6 hx (y := (⟨"com/example/shapewell/shapewell/Outcome", "of", "(Z)Lcom/example/shapewell/shapewell/Outcome;"⟩ : MethodName)) hown (mvT hZ (hw _ (List.mem_of_getElem? (i := 0) rfl))) (mvT hZ (hw _ (List.mem_of_getElem? (i := 1) rfl))) (mvT hZ (hw _ (List.mem_of_getElem? (i := 2) rfl))) (mvT hZ (hw _ (List.mem_of_getElem? (i := 3) rfl))) (by decide) (backOf (W := 1) (rm1_0 l Z a0 hw [] w_Outcome_VIOLATES h0 n0 Z0 S_Outcome_VIOLATES) hZ (hw _ (List.mem_of_getElem? (i := 3) rfl)) (hw _ (List.mem_of_getElem? (i := 2) rfl)) (by decide) (by decide)) (g := (mkF m 126 #[iv p0, iv p1, iv (1 : Int32), iv (0 : Int32), rv w_Outcome_CONFORMS, rv w_Outcome_VIOLATES, iv (1 : Int32), iv (1 : Int32), .unset, .unset] [(.int (0 : Int32)), (.ref w_Outcome_VIOLATES)])) rfl (by rw [hml]; rfl) (argsL := [(.int (0 : Int32))]) (rest := [(.ref w_Outcome_VIOLATES)]) (lenOf pd_0 rfl) rfl (by show 2 * 0 + _ ≤ _; exact Nat.le_of_eq rfl) (hb hby at_126) (fun _ _ => ⟨rfl, e6, (by decide : 0 + 0 ≤ _), (by decide : 0 + 0 ≤ _)⟩)
  dsimp only [Pt.U, Pt.locs, Pt.cells, Pt.slots] at X7 l7 y7 z7 st7 hQ7
  subst l7 y7 z7
  obtain ⟨rfl, N7q, e7⟩ := hQ7
  have N7 := Fr.app N6 N7q
  obtain ⟨cq8, kq8, q8a, q8b, q8c⟩ := isOf hZ e7 E_w_Outcome_CONFORMS
  obtain ⟨_, _, ⟨T8, L8, k8, n8⟩, -, X8, ⟨Lc8, hQ8, l8, y8, z8⟩, st8⟩ := X7.virtualBack hx (y := (⟨"com/example/shapewell/shapewell/Outcome", "and", "(Lcom/example/shapewell/shapewell/Outcome;)Lcom/example/shapewell/shapewell/Outcome;"⟩ : MethodName)) (z := (⟨"com/example/shapewell/shapewell/Outcome", "and", "(Lcom/example/shapewell/shapewell/Outcome;)Lcom/example/shapewell/shapewell/Outcome;"⟩ : MethodName)) hown (mvT hZ (hw _ (List.mem_of_getElem? (i := 26) rfl))) (mvT hZ (hw _ (List.mem_of_getElem? (i := 27) rfl))) (notFace_of_selects (args := #[]) (mvT hZ (hw _ (List.mem_of_getElem? (i := 29) rfl)))) (mvT hZ (hw _ (List.mem_of_getElem? (i := 29) rfl))) (mvT hZ (hw _ (List.mem_of_getElem? (i := 28) rfl))) (by decide) (backOf (W := 0) (rm4_10 l Z a0 hw [] w_Outcome_VIOLATES w_Outcome_CONFORMS mr_Outcome h0 n0 Z0 E_w_Outcome_CONFORMS M_mr_Outcome E_w_Outcome_VIOLATES F_w_Outcome_CONFORMS_ordinal F_w_Outcome_VIOLATES_ordinal) hZ (hw _ (List.mem_of_getElem? (i := 30) rfl)) (hw _ (List.mem_of_getElem? (i := 2) rfl)) (by decide) (by decide)) q8a q8c (g := (mkF m 143 #[iv p0, iv p1, iv (1 : Int32), iv (0 : Int32), rv w_Outcome_CONFORMS, rv w_Outcome_VIOLATES, iv (1 : Int32), iv (1 : Int32), iv (1 : Int32), .unset] [(.ref w_Outcome_VIOLATES), (.ref w_Outcome_CONFORMS)])) rfl (by rw [hml]; rfl) (Steps.refl _) (argsL := [(.ref w_Outcome_VIOLATES)]) (rest := []) (lenOf pd_4 rfl) rfl (by show 2 * 0 + _ ≤ _; exact Nat.le_of_eq rfl) (hb hby at_143) (fun _ _ => ⟨rfl, e7, (by decide : 0 + 0 ≤ _), (by decide : 0 + 0 ≤ _)⟩)
  dsimp only [Pt.U, Pt.locs, Pt.cells, Pt.slots] at X8 l8 y8 z8 st8 hQ8
  subst l8 y8 z8
  obtain ⟨rfl, N8q, e8⟩ := hQ8
  have N8 := Fr.app N7 N8q
  obtain ⟨_, _, ⟨T9, L9, k9, n9⟩, -, X9, ⟨Lc9, hQ9, l9, y9, z9⟩, st9⟩ := Jvm.LawKit.callS X8 hx (y := (⟨"com/example/shapewell/shapewell/Outcome", "of", "(Z)Lcom/example/shapewell/shapewell/Outcome;"⟩ : MethodName)) hown (mvT hZ (hw _ (List.mem_of_getElem? (i := 0) rfl))) (mvT hZ (hw _ (List.mem_of_getElem? (i := 1) rfl))) (mvT hZ (hw _ (List.mem_of_getElem? (i := 2) rfl))) (mvT hZ (hw _ (List.mem_of_getElem? (i := 3) rfl))) (by decide) (backOf (W := 1) (rm1_0 l Z a0 hw [] w_Outcome_VIOLATES h0 n0 Z0 S_Outcome_VIOLATES) hZ (hw _ (List.mem_of_getElem? (i := 3) rfl)) (hw _ (List.mem_of_getElem? (i := 2) rfl)) (by decide) (by decide)) (g := (mkF m 159 #[iv p0, iv p1, iv (1 : Int32), iv (0 : Int32), rv w_Outcome_CONFORMS, rv w_Outcome_VIOLATES, iv (1 : Int32), iv (1 : Int32), iv (1 : Int32), .unset] [(.int (0 : Int32)), (.ref w_Outcome_VIOLATES)])) rfl (by rw [hml]; rfl) (argsL := [(.int (0 : Int32))]) (rest := [(.ref w_Outcome_VIOLATES)]) (lenOf pd_0 rfl) rfl (by show 2 * 0 + _ ≤ _; exact Nat.le_of_eq rfl) (hb hby at_159) (fun _ _ => ⟨rfl, e8, (by decide : 0 + 0 ≤ _), (by decide : 0 + 0 ≤ _)⟩)
  dsimp only [Pt.U, Pt.locs, Pt.cells, Pt.slots] at X9 l9 y9 z9 st9 hQ9
  subst l9 y9 z9
  obtain ⟨rfl, N9q, e9⟩ := hQ9
  have N9 := Fr.app N8 N9q
  obtain ⟨fs, hr, hrun, hended, hW, hsame⟩ := X9.leave (v := (some (.int (1 : Int32)))) (fun h => by rw [Bd.returns] at h; cases h)
  refine ⟨_, _, pre0 _ ?_, hrun, hended, _, _, rfl, ?_, ⟨_, rfl⟩, hW, hsame.mono (by decide) (by decide)⟩
  · show Steps p.tables e below (s₁.setTop (mkF m 0 #[iv p0, iv p1, .unset, .unset, .unset, .unset, .unset, .unset, .unset, .unset] [])) _
    refine XS.iloadN X0.here hx rfl (hb hby at_0) rfl ?_
    show Steps p.tables e below (s₁.setTop (mkF m 1 #[iv p0, iv p1, .unset, .unset, .unset, .unset, .unset, .unset, .unset, .unset] [(.int p0)])) _
    refine XS.iconst X0.here hx rfl (hb hby at_1) ?_
    show Steps p.tables e below (s₁.setTop (mkF m 2 #[iv p0, iv p1, .unset, .unset, .unset, .unset, .unset, .unset, .unset, .unset] [(.int (1 : Int32)), (.int p0)])) _
    refine XS.iand X0.here hx rfl (hb hby at_2) rfl ?_
    show Steps p.tables e below (s₁.setTop (mkF m 3 #[iv p0, iv p1, .unset, .unset, .unset, .unset, .unset, .unset, .unset, .unset] [(.int (p0 &&& (1 : Int32)))])) _
    rewrite [hk0]
    show Steps p.tables e below (s₁.setTop (mkF m 3 #[iv p0, iv p1, .unset, .unset, .unset, .unset, .unset, .unset, .unset, .unset] [(.int (1 : Int32))])) _
    refine XS.ifNo X0.here hx rfl (hb hby at_3) rfl ((if0 _ _).trans (feq (by decide +kernel : ¬ ((1 : Int32) = (0 : Int32)))).1) ?_
    show Steps p.tables e below (s₁.setTop (mkF m 6 #[iv p0, iv p1, .unset, .unset, .unset, .unset, .unset, .unset, .unset, .unset] [])) _
    refine XS.iconst X0.here hx rfl (hb hby at_6) ?_
    show Steps p.tables e below (s₁.setTop (mkF m 7 #[iv p0, iv p1, .unset, .unset, .unset, .unset, .unset, .unset, .unset, .unset] [(.int (1 : Int32))])) _
    refine XS.goto X0.here hx rfl (pc0 := 7) (pc' := 11) rfl (hb hby at_7) (by decide) (by decide) ?_
    show Steps p.tables e below (s₁.setTop (mkF m 11 #[iv p0, iv p1, .unset, .unset, .unset, .unset, .unset, .unset, .unset, .unset] [(.int (1 : Int32))])) _
    refine XS.istoreN X0.here hx rfl (hb hby at_11) rfl (l' := #[iv p0, iv p1, iv (1 : Int32), .unset, .unset, .unset, .unset, .unset, .unset, .unset]) rfl ?_
    show Steps p.tables e below (s₁.setTop (mkF m 12 #[iv p0, iv p1, iv (1 : Int32), .unset, .unset, .unset, .unset, .unset, .unset, .unset] [])) _
    refine XS.iloadN X0.here hx rfl (hb hby at_12) rfl ?_
    show Steps p.tables e below (s₁.setTop (mkF m 13 #[iv p0, iv p1, iv (1 : Int32), .unset, .unset, .unset, .unset, .unset, .unset, .unset] [(.int p1)])) _
    refine XS.iconst X0.here hx rfl (hb hby at_13) ?_
    show Steps p.tables e below (s₁.setTop (mkF m 14 #[iv p0, iv p1, iv (1 : Int32), .unset, .unset, .unset, .unset, .unset, .unset, .unset] [(.int (1 : Int32)), (.int p1)])) _
    refine XS.iand X0.here hx rfl (hb hby at_14) rfl ?_
    show Steps p.tables e below (s₁.setTop (mkF m 15 #[iv p0, iv p1, iv (1 : Int32), .unset, .unset, .unset, .unset, .unset, .unset, .unset] [(.int (p1 &&& (1 : Int32)))])) _
    rewrite [hk1]
    show Steps p.tables e below (s₁.setTop (mkF m 15 #[iv p0, iv p1, iv (1 : Int32), .unset, .unset, .unset, .unset, .unset, .unset, .unset] [(.int (0 : Int32))])) _
    refine XS.ifYes X0.here hx rfl (pc0 := 15) (pc' := 22) rfl (hb hby at_15) rfl ((if0 _ _).trans (teq (by decide +kernel : (0 : Int32) = (0 : Int32))).1) (by decide) (by decide) ?_
    show Steps p.tables e below (s₁.setTop (mkF m 22 #[iv p0, iv p1, iv (1 : Int32), .unset, .unset, .unset, .unset, .unset, .unset, .unset] [])) _
    refine XS.iconst X0.here hx rfl (hb hby at_22) ?_
    show Steps p.tables e below (s₁.setTop (mkF m 23 #[iv p0, iv p1, iv (1 : Int32), .unset, .unset, .unset, .unset, .unset, .unset, .unset] [(.int (0 : Int32))])) _
    refine XS.istoreN X0.here hx rfl (hb hby at_23) rfl (l' := #[iv p0, iv p1, iv (1 : Int32), iv (0 : Int32), .unset, .unset, .unset, .unset, .unset, .unset]) rfl ?_
    show Steps p.tables e below (s₁.setTop (mkF m 24 #[iv p0, iv p1, iv (1 : Int32), iv (0 : Int32), .unset, .unset, .unset, .unset, .unset, .unset] [])) _
    refine XS.iloadN X0.here hx rfl (hb hby at_24) rfl ?_
    show Steps p.tables e below (s₁.setTop (mkF m 25 #[iv p0, iv p1, iv (1 : Int32), iv (0 : Int32), .unset, .unset, .unset, .unset, .unset, .unset] [(.int (1 : Int32))])) _
    refine st1 _ ?_
    show Steps p.tables e below (T1.setTop (mkF m 28 #[iv p0, iv p1, iv (1 : Int32), iv (0 : Int32), .unset, .unset, .unset, .unset, .unset, .unset] [(.ref w_Outcome_CONFORMS)])) _
    refine XS.astore X1.here hx rfl (hb hby at_28) rfl rfl (l' := #[iv p0, iv p1, iv (1 : Int32), iv (0 : Int32), rv w_Outcome_CONFORMS, .unset, .unset, .unset, .unset, .unset]) rfl ?_
    show Steps p.tables e below (T1.setTop (mkF m 30 #[iv p0, iv p1, iv (1 : Int32), iv (0 : Int32), rv w_Outcome_CONFORMS, .unset, .unset, .unset, .unset, .unset] [])) _
    refine XS.iloadN X1.here hx rfl (hb hby at_30) rfl ?_
    show Steps p.tables e below (T1.setTop (mkF m 31 #[iv p0, iv p1, iv (1 : Int32), iv (0 : Int32), rv w_Outcome_CONFORMS, .unset, .unset, .unset, .unset, .unset] [(.int (0 : Int32))])) _
    refine st2 _ ?_
    show Steps p.tables e below (T2.setTop (mkF m 34 #[iv p0, iv p1, iv (1 : Int32), iv (0 : Int32), rv w_Outcome_CONFORMS, .unset, .unset, .unset, .unset, .unset] [(.ref w_Outcome_VIOLATES)])) _
    refine XS.astore X2.here hx rfl (hb hby at_34) rfl rfl (l' := #[iv p0, iv p1, iv (1 : Int32), iv (0 : Int32), rv w_Outcome_CONFORMS, rv w_Outcome_VIOLATES, .unset, .unset, .unset, .unset]) rfl ?_
    show Steps p.tables e below (T2.setTop (mkF m 36 #[iv p0, iv p1, iv (1 : Int32), iv (0 : Int32), rv w_Outcome_CONFORMS, rv w_Outcome_VIOLATES, .unset, .unset, .unset, .unset] [])) _
    refine XS.aload X2.here hx rfl (hb hby at_36) rfl rfl ?_
    show Steps p.tables e below (T2.setTop (mkF m 38 #[iv p0, iv p1, iv (1 : Int32), iv (0 : Int32), rv w_Outcome_CONFORMS, rv w_Outcome_VIOLATES, .unset, .unset, .unset, .unset] [(.ref w_Outcome_CONFORMS)])) _
    refine XS.ifnullNo X2.here hx rfl (hb hby at_38) rfl ?_
    show Steps p.tables e below (T2.setTop (mkF m 41 #[iv p0, iv p1, iv (1 : Int32), iv (0 : Int32), rv w_Outcome_CONFORMS, rv w_Outcome_VIOLATES, .unset, .unset, .unset, .unset] [])) _
    refine XS.aload X2.here hx rfl (hb hby at_41) rfl rfl ?_
    show Steps p.tables e below (T2.setTop (mkF m 43 #[iv p0, iv p1, iv (1 : Int32), iv (0 : Int32), rv w_Outcome_CONFORMS, rv w_Outcome_VIOLATES, .unset, .unset, .unset, .unset] [(.ref w_Outcome_VIOLATES)])) _
    refine XS.ifnonnullYes X2.here hx rfl (pc0 := 43) (pc' := 48) rfl (hb hby at_43) rfl (by decide) (by decide) ?_
    show Steps p.tables e below (T2.setTop (mkF m 48 #[iv p0, iv p1, iv (1 : Int32), iv (0 : Int32), rv w_Outcome_CONFORMS, rv w_Outcome_VIOLATES, .unset, .unset, .unset, .unset] [])) _
    refine XS.aload X2.here hx rfl (hb hby at_48) rfl rfl ?_
    show Steps p.tables e below (T2.setTop (mkF m 50 #[iv p0, iv p1, iv (1 : Int32), iv (0 : Int32), rv w_Outcome_CONFORMS, rv w_Outcome_VIOLATES, .unset, .unset, .unset, .unset] [(.ref w_Outcome_CONFORMS)])) _
    refine st3 _ ?_
    show Steps p.tables e below (T3.setTop (mkF m 53 #[iv p0, iv p1, iv (1 : Int32), iv (0 : Int32), rv w_Outcome_CONFORMS, rv w_Outcome_VIOLATES, .unset, .unset, .unset, .unset] [(.ref w_Outcome_CONFORMS), (.ref w_Outcome_CONFORMS)])) _
    refine Jvm.RoadKit.acmp (g := (mkF m 53 #[iv p0, iv p1, iv (1 : Int32), iv (0 : Int32), rv w_Outcome_CONFORMS, rv w_Outcome_VIOLATES, .unset, .unset, .unset, .unset] [(.ref w_Outcome_CONFORMS), (.ref w_Outcome_CONFORMS)])) X3 hx rfl rfl rfl (pc0 := 53) (pc' := 56) (same := true) rfl (hb hby at_53) rfl (decide_eq_true rfl) (by decide) (by decide) ?_
    show Steps p.tables e below (T3.setTop (mkF m 56 #[iv p0, iv p1, iv (1 : Int32), iv (0 : Int32), rv w_Outcome_CONFORMS, rv w_Outcome_VIOLATES, .unset, .unset, .unset, .unset] [])) _
    refine XS.iconst X3.here hx rfl (hb hby at_56) ?_
    show Steps p.tables e below (T3.setTop (mkF m 57 #[iv p0, iv p1, iv (1 : Int32), iv (0 : Int32), rv w_Outcome_CONFORMS, rv w_Outcome_VIOLATES, .unset, .unset, .unset, .unset] [(.int (1 : Int32))])) _
    refine XS.goto X3.here hx rfl (pc0 := 57) (pc' := 61) rfl (hb hby at_57) (by decide) (by decide) ?_
    show Steps p.tables e below (T3.setTop (mkF m 61 #[iv p0, iv p1, iv (1 : Int32), iv (0 : Int32), rv w_Outcome_CONFORMS, rv w_Outcome_VIOLATES, .unset, .unset, .unset, .unset] [(.int (1 : Int32))])) _
    refine XS.iloadN X3.here hx rfl (hb hby at_61) rfl ?_
    show Steps p.tables e below (T3.setTop (mkF m 62 #[iv p0, iv p1, iv (1 : Int32), iv (0 : Int32), rv w_Outcome_CONFORMS, rv w_Outcome_VIOLATES, .unset, .unset, .unset, .unset] [(.int (1 : Int32)), (.int (1 : Int32))])) _
    refine XS.icmpNo X3.here hx rfl (hb hby at_62) rfl (teq (by decide +kernel : (1 : Int32) = (1 : Int32))).2 ?_
    show Steps p.tables e below (T3.setTop (mkF m 65 #[iv p0, iv p1, iv (1 : Int32), iv (0 : Int32), rv w_Outcome_CONFORMS, rv w_Outcome_VIOLATES, .unset, .unset, .unset, .unset] [])) _
    refine XS.aload X3.here hx rfl (hb hby at_65) rfl rfl ?_
    show Steps p.tables e below (T3.setTop (mkF m 67 #[iv p0, iv p1, iv (1 : Int32), iv (0 : Int32), rv w_Outcome_CONFORMS, rv w_Outcome_VIOLATES, .unset, .unset, .unset, .unset] [(.ref w_Outcome_CONFORMS)])) _
    refine st4 _ ?_
    show Steps p.tables e below (T4.setTop (mkF m 70 #[iv p0, iv p1, iv (1 : Int32), iv (0 : Int32), rv w_Outcome_CONFORMS, rv w_Outcome_VIOLATES, .unset, .unset, .unset, .unset] [(.ref w_Outcome_VIOLATES), (.ref w_Outcome_CONFORMS)])) _
    refine Jvm.RoadKit.acmp (g := (mkF m 70 #[iv p0, iv p1, iv (1 : Int32), iv (0 : Int32), rv w_Outcome_CONFORMS, rv w_Outcome_VIOLATES, .unset, .unset, .unset, .unset] [(.ref w_Outcome_VIOLATES), (.ref w_Outcome_CONFORMS)])) X4 hx rfl rfl rfl (pc0 := 70) (pc' := 77) (same := false) rfl (hb hby at_70) rfl (decide_eq_false fun q => ne_w_Outcome_CONFORMS_w_Outcome_VIOLATES (Value.ref.inj q)) (by decide) (by decide) ?_
    show Steps p.tables e below (T4.setTop (mkF m 77 #[iv p0, iv p1, iv (1 : Int32), iv (0 : Int32), rv w_Outcome_CONFORMS, rv w_Outcome_VIOLATES, .unset, .unset, .unset, .unset] [])) _
    refine XS.iconst X4.here hx rfl (hb hby at_77) ?_
    show Steps p.tables e below (T4.setTop (mkF m 78 #[iv p0, iv p1, iv (1 : Int32), iv (0 : Int32), rv w_Outcome_CONFORMS, rv w_Outcome_VIOLATES, .unset, .unset, .unset, .unset] [(.int (0 : Int32))])) _
    refine XS.iloadN X4.here hx rfl (hb hby at_78) rfl ?_
    show Steps p.tables e below (T4.setTop (mkF m 79 #[iv p0, iv p1, iv (1 : Int32), iv (0 : Int32), rv w_Outcome_CONFORMS, rv w_Outcome_VIOLATES, .unset, .unset, .unset, .unset] [(.int (1 : Int32)), (.int (0 : Int32))])) _
    refine XS.ifYes X4.here hx rfl (pc0 := 79) (pc' := 86) rfl (hb hby at_79) rfl ((if0 _ _).trans (feq (by decide +kernel : ¬ ((1 : Int32) = (0 : Int32)))).2) (by decide) (by decide) ?_
    show Steps p.tables e below (T4.setTop (mkF m 86 #[iv p0, iv p1, iv (1 : Int32), iv (0 : Int32), rv w_Outcome_CONFORMS, rv w_Outcome_VIOLATES, .unset, .unset, .unset, .unset] [(.int (0 : Int32))])) _
    refine XS.iconst X4.here hx rfl (hb hby at_86) ?_
    show Steps p.tables e below (T4.setTop (mkF m 87 #[iv p0, iv p1, iv (1 : Int32), iv (0 : Int32), rv w_Outcome_CONFORMS, rv w_Outcome_VIOLATES, .unset, .unset, .unset, .unset] [(.int (0 : Int32)), (.int (0 : Int32))])) _
    refine XS.icmpNo X4.here hx rfl (hb hby at_87) rfl (teq (by decide +kernel : (0 : Int32) = (0 : Int32))).2 ?_
    show Steps p.tables e below (T4.setTop (mkF m 90 #[iv p0, iv p1, iv (1 : Int32), iv (0 : Int32), rv w_Outcome_CONFORMS, rv w_Outcome_VIOLATES, .unset, .unset, .unset, .unset] [])) _
    refine XS.iconst X4.here hx rfl (hb hby at_90) ?_
    show Steps p.tables e below (T4.setTop (mkF m 91 #[iv p0, iv p1, iv (1 : Int32), iv (0 : Int32), rv w_Outcome_CONFORMS, rv w_Outcome_VIOLATES, .unset, .unset, .unset, .unset] [(.int (1 : Int32))])) _
    refine XS.goto X4.here hx rfl (pc0 := 91) (pc' := 95) rfl (hb hby at_91) (by decide) (by decide) ?_
    show Steps p.tables e below (T4.setTop (mkF m 95 #[iv p0, iv p1, iv (1 : Int32), iv (0 : Int32), rv w_Outcome_CONFORMS, rv w_Outcome_VIOLATES, .unset, .unset, .unset, .unset] [(.int (1 : Int32))])) _
    refine XS.istore X4.here hx rfl (hb hby at_95) rfl (l' := #[iv p0, iv p1, iv (1 : Int32), iv (0 : Int32), rv w_Outcome_CONFORMS, rv w_Outcome_VIOLATES, iv (1 : Int32), .unset, .unset, .unset]) rfl ?_
    show Steps p.tables e below (T4.setTop (mkF m 97 #[iv p0, iv p1, iv (1 : Int32), iv (0 : Int32), rv w_Outcome_CONFORMS, rv w_Outcome_VIOLATES, iv (1 : Int32), .unset, .unset, .unset] [])) _
    refine XS.aload X4.here hx rfl (hb hby at_97) rfl rfl ?_
    show Steps p.tables e below (T4.setTop (mkF m 99 #[iv p0, iv p1, iv (1 : Int32), iv (0 : Int32), rv w_Outcome_CONFORMS, rv w_Outcome_VIOLATES, iv (1 : Int32), .unset, .unset, .unset] [(.ref w_Outcome_CONFORMS)])) _
    refine st5 _ ?_
    show Steps p.tables e below (T5.setTop (mkF m 102 #[iv p0, iv p1, iv (1 : Int32), iv (0 : Int32), rv w_Outcome_CONFORMS, rv w_Outcome_VIOLATES, iv (1 : Int32), .unset, .unset, .unset] [(.ref w_Outcome_UNDETERMINED), (.ref w_Outcome_CONFORMS)])) _
    refine Jvm.RoadKit.acmp (g := (mkF m 102 #[iv p0, iv p1, iv (1 : Int32), iv (0 : Int32), rv w_Outcome_CONFORMS, rv w_Outcome_VIOLATES, iv (1 : Int32), .unset, .unset, .unset] [(.ref w_Outcome_UNDETERMINED), (.ref w_Outcome_CONFORMS)])) X5 hx rfl rfl rfl (pc0 := 102) (pc' := 105) (same := false) rfl (hb hby at_102) rfl (decide_eq_false fun q => ne_w_Outcome_CONFORMS_w_Outcome_UNDETERMINED (Value.ref.inj q)) (by decide) (by decide) ?_
    show Steps p.tables e below (T5.setTop (mkF m 105 #[iv p0, iv p1, iv (1 : Int32), iv (0 : Int32), rv w_Outcome_CONFORMS, rv w_Outcome_VIOLATES, iv (1 : Int32), .unset, .unset, .unset] [])) _
    refine XS.iconst X5.here hx rfl (hb hby at_105) ?_
    show Steps p.tables e below (T5.setTop (mkF m 106 #[iv p0, iv p1, iv (1 : Int32), iv (0 : Int32), rv w_Outcome_CONFORMS, rv w_Outcome_VIOLATES, iv (1 : Int32), .unset, .unset, .unset] [(.int (1 : Int32))])) _
    refine XS.goto X5.here hx rfl (pc0 := 106) (pc' := 110) rfl (hb hby at_106) (by decide) (by decide) ?_
    show Steps p.tables e below (T5.setTop (mkF m 110 #[iv p0, iv p1, iv (1 : Int32), iv (0 : Int32), rv w_Outcome_CONFORMS, rv w_Outcome_VIOLATES, iv (1 : Int32), .unset, .unset, .unset] [(.int (1 : Int32))])) _
    refine XS.istore X5.here hx rfl (hb hby at_110) rfl (l' := #[iv p0, iv p1, iv (1 : Int32), iv (0 : Int32), rv w_Outcome_CONFORMS, rv w_Outcome_VIOLATES, iv (1 : Int32), iv (1 : Int32), .unset, .unset]) rfl ?_
    show Steps p.tables e below (T5.setTop (mkF m 112 #[iv p0, iv p1, iv (1 : Int32), iv (0 : Int32), rv w_Outcome_CONFORMS, rv w_Outcome_VIOLATES, iv (1 : Int32), iv (1 : Int32), .unset, .unset] [])) _
    refine XS.aload X5.here hx rfl (hb hby at_112) rfl rfl ?_
    show Steps p.tables e below (T5.setTop (mkF m 114 #[iv p0, iv p1, iv (1 : Int32), iv (0 : Int32), rv w_Outcome_CONFORMS, rv w_Outcome_VIOLATES, iv (1 : Int32), iv (1 : Int32), .unset, .unset] [(.ref w_Outcome_CONFORMS)])) _
    refine st6.trans ?_
    show Steps p.tables e below (T6.setTop (mkF m 117 #[iv p0, iv p1, iv (1 : Int32), iv (0 : Int32), rv w_Outcome_CONFORMS, rv w_Outcome_VIOLATES, iv (1 : Int32), iv (1 : Int32), .unset, .unset] [(.ref w_Outcome_VIOLATES)])) _
    refine XS.iloadN X6.here hx rfl (hb hby at_117) rfl ?_
    show Steps p.tables e below (T6.setTop (mkF m 118 #[iv p0, iv p1, iv (1 : Int32), iv (0 : Int32), rv w_Outcome_CONFORMS, rv w_Outcome_VIOLATES, iv (1 : Int32), iv (1 : Int32), .unset, .unset] [(.int (1 : Int32)), (.ref w_Outcome_VIOLATES)])) _
    refine XS.ifYes X6.here hx rfl (pc0 := 118) (pc' := 125) rfl (hb hby at_118) rfl ((if0 _ _).trans (feq (by decide +kernel : ¬ ((1 : Int32) = (0 : Int32)))).2) (by decide) (by decide) ?_
    show Steps p.tables e below (T6.setTop (mkF m 125 #[iv p0, iv p1, iv (1 : Int32), iv (0 : Int32), rv w_Outcome_CONFORMS, rv w_Outcome_VIOLATES, iv (1 : Int32), iv (1 : Int32), .unset, .unset] [(.ref w_Outcome_VIOLATES)])) _
    refine XS.iconst X6.here hx rfl (hb hby at_125) ?_
    show Steps p.tables e below (T6.setTop (mkF m 126 #[iv p0, iv p1, iv (1 : Int32), iv (0 : Int32), rv w_Outcome_CONFORMS, rv w_Outcome_VIOLATES, iv (1 : Int32), iv (1 : Int32), .unset, .unset] [(.int (0 : Int32)), (.ref w_Outcome_VIOLATES)])) _
    refine st7 _ ?_
    show Steps p.tables e below (T7.setTop (mkF m 129 #[iv p0, iv p1, iv (1 : Int32), iv (0 : Int32), rv w_Outcome_CONFORMS, rv w_Outcome_VIOLATES, iv (1 : Int32), iv (1 : Int32), .unset, .unset] [(.ref w_Outcome_VIOLATES), (.ref w_Outcome_VIOLATES)])) _
    refine Jvm.RoadKit.acmp (g := (mkF m 129 #[iv p0, iv p1, iv (1 : Int32), iv (0 : Int32), rv w_Outcome_CONFORMS, rv w_Outcome_VIOLATES, iv (1 : Int32), iv (1 : Int32), .unset, .unset] [(.ref w_Outcome_VIOLATES), (.ref w_Outcome_VIOLATES)])) X7 hx rfl rfl rfl (pc0 := 129) (pc' := 132) (same := true) rfl (hb hby at_129) rfl (decide_eq_true rfl) (by decide) (by decide) ?_
    show Steps p.tables e below (T7.setTop (mkF m 132 #[iv p0, iv p1, iv (1 : Int32), iv (0 : Int32), rv w_Outcome_CONFORMS, rv w_Outcome_VIOLATES, iv (1 : Int32), iv (1 : Int32), .unset, .unset] [])) _
    refine XS.iconst X7.here hx rfl (hb hby at_132) ?_
    show Steps p.tables e below (T7.setTop (mkF m 133 #[iv p0, iv p1, iv (1 : Int32), iv (0 : Int32), rv w_Outcome_CONFORMS, rv w_Outcome_VIOLATES, iv (1 : Int32), iv (1 : Int32), .unset, .unset] [(.int (1 : Int32))])) _
    refine XS.goto X7.here hx rfl (pc0 := 133) (pc' := 137) rfl (hb hby at_133) (by decide) (by decide) ?_
    show Steps p.tables e below (T7.setTop (mkF m 137 #[iv p0, iv p1, iv (1 : Int32), iv (0 : Int32), rv w_Outcome_CONFORMS, rv w_Outcome_VIOLATES, iv (1 : Int32), iv (1 : Int32), .unset, .unset] [(.int (1 : Int32))])) _
    refine XS.istore X7.here hx rfl (hb hby at_137) rfl (l' := #[iv p0, iv p1, iv (1 : Int32), iv (0 : Int32), rv w_Outcome_CONFORMS, rv w_Outcome_VIOLATES, iv (1 : Int32), iv (1 : Int32), iv (1 : Int32), .unset]) rfl ?_
    show Steps p.tables e below (T7.setTop (mkF m 139 #[iv p0, iv p1, iv (1 : Int32), iv (0 : Int32), rv w_Outcome_CONFORMS, rv w_Outcome_VIOLATES, iv (1 : Int32), iv (1 : Int32), iv (1 : Int32), .unset] [])) _
    refine XS.aload X7.here hx rfl (hb hby at_139) rfl rfl ?_
    show Steps p.tables e below (T7.setTop (mkF m 141 #[iv p0, iv p1, iv (1 : Int32), iv (0 : Int32), rv w_Outcome_CONFORMS, rv w_Outcome_VIOLATES, iv (1 : Int32), iv (1 : Int32), iv (1 : Int32), .unset] [(.ref w_Outcome_CONFORMS)])) _
    refine XS.aload X7.here hx rfl (hb hby at_141) rfl rfl ?_
    show Steps p.tables e below (T7.setTop (mkF m 143 #[iv p0, iv p1, iv (1 : Int32), iv (0 : Int32), rv w_Outcome_CONFORMS, rv w_Outcome_VIOLATES, iv (1 : Int32), iv (1 : Int32), iv (1 : Int32), .unset] [(.ref w_Outcome_VIOLATES), (.ref w_Outcome_CONFORMS)])) _
    refine st8.trans ?_
    show Steps p.tables e below (T8.setTop (mkF m 146 #[iv p0, iv p1, iv (1 : Int32), iv (0 : Int32), rv w_Outcome_CONFORMS, rv w_Outcome_VIOLATES, iv (1 : Int32), iv (1 : Int32), iv (1 : Int32), .unset] [(.ref w_Outcome_VIOLATES)])) _
    refine XS.iloadN X8.here hx rfl (hb hby at_146) rfl ?_
    show Steps p.tables e below (T8.setTop (mkF m 147 #[iv p0, iv p1, iv (1 : Int32), iv (0 : Int32), rv w_Outcome_CONFORMS, rv w_Outcome_VIOLATES, iv (1 : Int32), iv (1 : Int32), iv (1 : Int32), .unset] [(.int (1 : Int32)), (.ref w_Outcome_VIOLATES)])) _
    refine XS.ifNo X8.here hx rfl (hb hby at_147) rfl ((if0 _ _).trans (feq (by decide +kernel : ¬ ((1 : Int32) = (0 : Int32)))).1) ?_
    show Steps p.tables e below (T8.setTop (mkF m 150 #[iv p0, iv p1, iv (1 : Int32), iv (0 : Int32), rv w_Outcome_CONFORMS, rv w_Outcome_VIOLATES, iv (1 : Int32), iv (1 : Int32), iv (1 : Int32), .unset] [(.ref w_Outcome_VIOLATES)])) _
    refine XS.iloadN X8.here hx rfl (hb hby at_150) rfl ?_
    show Steps p.tables e below (T8.setTop (mkF m 151 #[iv p0, iv p1, iv (1 : Int32), iv (0 : Int32), rv w_Outcome_CONFORMS, rv w_Outcome_VIOLATES, iv (1 : Int32), iv (1 : Int32), iv (1 : Int32), .unset] [(.int (0 : Int32)), (.ref w_Outcome_VIOLATES)])) _
    refine XS.ifYes X8.here hx rfl (pc0 := 151) (pc' := 158) rfl (hb hby at_151) rfl ((if0 _ _).trans (teq (by decide +kernel : (0 : Int32) = (0 : Int32))).1) (by decide) (by decide) ?_
    show Steps p.tables e below (T8.setTop (mkF m 158 #[iv p0, iv p1, iv (1 : Int32), iv (0 : Int32), rv w_Outcome_CONFORMS, rv w_Outcome_VIOLATES, iv (1 : Int32), iv (1 : Int32), iv (1 : Int32), .unset] [(.ref w_Outcome_VIOLATES)])) _
    refine XS.iconst X8.here hx rfl (hb hby at_158) ?_
    show Steps p.tables e below (T8.setTop (mkF m 159 #[iv p0, iv p1, iv (1 : Int32), iv (0 : Int32), rv w_Outcome_CONFORMS, rv w_Outcome_VIOLATES, iv (1 : Int32), iv (1 : Int32), iv (1 : Int32), .unset] [(.int (0 : Int32)), (.ref w_Outcome_VIOLATES)])) _
    refine st9 _ ?_
    show Steps p.tables e below (T9.setTop (mkF m 162 #[iv p0, iv p1, iv (1 : Int32), iv (0 : Int32), rv w_Outcome_CONFORMS, rv w_Outcome_VIOLATES, iv (1 : Int32), iv (1 : Int32), iv (1 : Int32), .unset] [(.ref w_Outcome_VIOLATES), (.ref w_Outcome_VIOLATES)])) _
    refine Jvm.RoadKit.acmp (g := (mkF m 162 #[iv p0, iv p1, iv (1 : Int32), iv (0 : Int32), rv w_Outcome_CONFORMS, rv w_Outcome_VIOLATES, iv (1 : Int32), iv (1 : Int32), iv (1 : Int32), .unset] [(.ref w_Outcome_VIOLATES), (.ref w_Outcome_VIOLATES)])) X9 hx rfl rfl rfl (pc0 := 162) (pc' := 165) (same := true) rfl (hb hby at_162) rfl (decide_eq_true rfl) (by decide) (by decide) ?_
    show Steps p.tables e below (T9.setTop (mkF m 165 #[iv p0, iv p1, iv (1 : Int32), iv (0 : Int32), rv w_Outcome_CONFORMS, rv w_Outcome_VIOLATES, iv (1 : Int32), iv (1 : Int32), iv (1 : Int32), .unset] [])) _
    refine XS.iconst X9.here hx rfl (hb hby at_165) ?_
    show Steps p.tables e below (T9.setTop (mkF m 166 #[iv p0, iv p1, iv (1 : Int32), iv (0 : Int32), rv w_Outcome_CONFORMS, rv w_Outcome_VIOLATES, iv (1 : Int32), iv (1 : Int32), iv (1 : Int32), .unset] [(.int (1 : Int32))])) _
    refine XS.goto X9.here hx rfl (pc0 := 166) (pc' := 170) rfl (hb hby at_166) (by decide) (by decide) ?_
    show Steps p.tables e below (T9.setTop (mkF m 170 #[iv p0, iv p1, iv (1 : Int32), iv (0 : Int32), rv w_Outcome_CONFORMS, rv w_Outcome_VIOLATES, iv (1 : Int32), iv (1 : Int32), iv (1 : Int32), .unset] [(.int (1 : Int32))])) _
    refine XS.istore X9.here hx rfl (hb hby at_170) rfl (l' := #[iv p0, iv p1, iv (1 : Int32), iv (0 : Int32), rv w_Outcome_CONFORMS, rv w_Outcome_VIOLATES, iv (1 : Int32), iv (1 : Int32), iv (1 : Int32), iv (1 : Int32)]) rfl ?_
    show Steps p.tables e below (T9.setTop (mkF m 172 #[iv p0, iv p1, iv (1 : Int32), iv (0 : Int32), rv w_Outcome_CONFORMS, rv w_Outcome_VIOLATES, iv (1 : Int32), iv (1 : Int32), iv (1 : Int32), iv (1 : Int32)] [])) _
    refine XS.iload X9.here hx rfl (hb hby at_172) rfl ?_
    show Steps p.tables e below (T9.setTop (mkF m 174 #[iv p0, iv p1, iv (1 : Int32), iv (0 : Int32), rv w_Outcome_CONFORMS, rv w_Outcome_VIOLATES, iv (1 : Int32), iv (1 : Int32), iv (1 : Int32), iv (1 : Int32)] [(.int (1 : Int32))])) _
    refine XS.ifNo X9.here hx rfl (hb hby at_174) rfl ((if0 _ _).trans (feq (by decide +kernel : ¬ ((1 : Int32) = (0 : Int32)))).1) ?_
    show Steps p.tables e below (T9.setTop (mkF m 177 #[iv p0, iv p1, iv (1 : Int32), iv (0 : Int32), rv w_Outcome_CONFORMS, rv w_Outcome_VIOLATES, iv (1 : Int32), iv (1 : Int32), iv (1 : Int32), iv (1 : Int32)] [])) _
    refine XS.iload X9.here hx rfl (hb hby at_177) rfl ?_
    show Steps p.tables e below (T9.setTop (mkF m 179 #[iv p0, iv p1, iv (1 : Int32), iv (0 : Int32), rv w_Outcome_CONFORMS, rv w_Outcome_VIOLATES, iv (1 : Int32), iv (1 : Int32), iv (1 : Int32), iv (1 : Int32)] [(.int (1 : Int32))])) _
    refine XS.ifNo X9.here hx rfl (hb hby at_179) rfl ((if0 _ _).trans (feq (by decide +kernel : ¬ ((1 : Int32) = (0 : Int32)))).1) ?_
    show Steps p.tables e below (T9.setTop (mkF m 182 #[iv p0, iv p1, iv (1 : Int32), iv (0 : Int32), rv w_Outcome_CONFORMS, rv w_Outcome_VIOLATES, iv (1 : Int32), iv (1 : Int32), iv (1 : Int32), iv (1 : Int32)] [])) _
    refine XS.iload X9.here hx rfl (hb hby at_182) rfl ?_
    show Steps p.tables e below (T9.setTop (mkF m 184 #[iv p0, iv p1, iv (1 : Int32), iv (0 : Int32), rv w_Outcome_CONFORMS, rv w_Outcome_VIOLATES, iv (1 : Int32), iv (1 : Int32), iv (1 : Int32), iv (1 : Int32)] [(.int (1 : Int32))])) _
    refine XS.ifNo X9.here hx rfl (hb hby at_184) rfl ((if0 _ _).trans (feq (by decide +kernel : ¬ ((1 : Int32) = (0 : Int32)))).1) ?_
    show Steps p.tables e below (T9.setTop (mkF m 187 #[iv p0, iv p1, iv (1 : Int32), iv (0 : Int32), rv w_Outcome_CONFORMS, rv w_Outcome_VIOLATES, iv (1 : Int32), iv (1 : Int32), iv (1 : Int32), iv (1 : Int32)] [])) _
    refine XS.iload X9.here hx rfl (hb hby at_187) rfl ?_
    show Steps p.tables e below (T9.setTop (mkF m 189 #[iv p0, iv p1, iv (1 : Int32), iv (0 : Int32), rv w_Outcome_CONFORMS, rv w_Outcome_VIOLATES, iv (1 : Int32), iv (1 : Int32), iv (1 : Int32), iv (1 : Int32)] [(.int (1 : Int32))])) _
    refine XS.ifNo X9.here hx rfl (hb hby at_189) rfl ((if0 _ _).trans (feq (by decide +kernel : ¬ ((1 : Int32) = (0 : Int32)))).1) ?_
    show Steps p.tables e below (T9.setTop (mkF m 192 #[iv p0, iv p1, iv (1 : Int32), iv (0 : Int32), rv w_Outcome_CONFORMS, rv w_Outcome_VIOLATES, iv (1 : Int32), iv (1 : Int32), iv (1 : Int32), iv (1 : Int32)] [])) _
    refine XS.iconst X9.here hx rfl (hb hby at_192) ?_
    show Steps p.tables e below (T9.setTop (mkF m 193 #[iv p0, iv p1, iv (1 : Int32), iv (0 : Int32), rv w_Outcome_CONFORMS, rv w_Outcome_VIOLATES, iv (1 : Int32), iv (1 : Int32), iv (1 : Int32), iv (1 : Int32)] [(.int (1 : Int32))])) _
    refine XS.goto X9.here hx rfl (pc0 := 193) (pc' := 197) rfl (hb hby at_193) (by decide) (by decide) ?_
    show Steps p.tables e below (T9.setTop (mkF m 197 #[iv p0, iv p1, iv (1 : Int32), iv (0 : Int32), rv w_Outcome_CONFORMS, rv w_Outcome_VIOLATES, iv (1 : Int32), iv (1 : Int32), iv (1 : Int32), iv (1 : Int32)] [(.int (1 : Int32))])) _
    exact retN X9 hx (t := .boolean) Bd.returns (by simp) (hb hby at_197) hr
  · exact ⟨rfl, N9⟩
set_option maxRecDepth 65536 in
set_option maxHeartbeats 40000000 in
theorem rm5_12 (l : Launch) (Z : State) (a0 : Array Value) (hw : ∀ d ∈ tables_1, d.before a0 Z = true) (ws : List Jvm.Cond) (w_Outcome_CONFORMS : Addr) (mr_Outcome : Addr) (h0 : Heap) (n0 : Nat) (Z0 : n0 ≤ h0.size) (E_w_Outcome_CONFORMS : Exa Z h0 w_Outcome_CONFORMS "com/example/shapewell/shapewell/Outcome") (M_mr_Outcome : own_Mir Z "com/example/shapewell/shapewell/Outcome" mr_Outcome) (F_w_Outcome_CONFORMS_ordinal : Fld Z h0 w_Outcome_CONFORMS "java/lang/Enum" "ordinal" "I" (.int (2 : Int32))) :
    MetFree l (⟨"java/lang/Enum", "compareTo", "(Ljava/lang/Enum;)I"⟩ : MethodName) (head1 (Jvm.Cond.code (⟨"java/lang/Enum", "compareTo", "(Ljava/lang/Enum;)I"⟩ : MethodName) jdk_37_method_8_code 4 (some .int) :: ws) ({ frames := 1, cells := 0, slots := 0, locals := 15 } : Room)) (fun a U => a = #[(.ref w_Outcome_CONFORMS), (.ref w_Outcome_CONFORMS)] ∧ Z.Warmed39 U.vm ∧ U.heap = h0) (fun _ _ _ _ _ => True) (fun _ U o U' => ∃ v L, o = .returned v ∧ own_QP (some (.int (0 : Int32))) h0 n0 v U'.heap L ∧ FrameEnd U o U' L ({ frames := 1, cells := 0, slots := 0, locals := 15 } : Room).cells ({ frames := 1, cells := 0, slots := 0, locals := 15 } : Room).slots) := by
  refine MetFree.of_bodySF (plainFor_of_name pn_1) hisR ?_
  intro p e s m args below meth c s₁ Bd hml0 hP hK
  obtain ⟨rfl, hZ, hh⟩ := hP
  have hx := Bd.exec
  have hby := Bd.bytes
  have hml : c.maxLocals = 4 := hml0
  have hown : s.vm.findClass "java/lang/Enum" = some m.cls := findClass_of_methodNamed Bd.named
  have hnm := (name_of_methodNamed Bd.named Bd.method).1
  have X0 : Stand p l e ({ frames := 1, cells := 0, slots := 0, locals := 15 } : Room) s m #[(.ref w_Outcome_CONFORMS), (.ref w_Outcome_CONFORMS)] below meth c s₁ [] 0 0 := Stand.of_body Bd
  have e0 : s₁.heap = h0 := by rw [← hh, Bd.state]; rfl
  have N0 := Fr.nil n0
  have pre0 : ∀ t, Steps p.tables e below (s₁.setTop (mkF m 0 #[rv w_Outcome_CONFORMS, rv w_Outcome_CONFORMS, .unset, .unset] [])) t → Steps p.tables e below (s₁.setTop (entryFrame m #[(.ref w_Outcome_CONFORMS), (.ref w_Outcome_CONFORMS)] 4)) t := fun t k => castTop (ef_5_RR m w_Outcome_CONFORMS w_Outcome_CONFORMS) k
  obtain ⟨T1, X1, e1, st1⟩ := own_gcls X0 hx hZ hown (hw _ (List.mem_of_getElem? (i := 37) rfl)) (hw _ (List.mem_of_getElem? (i := 38) rfl)) (hw _ (List.mem_of_getElem? (i := 40) rfl)) (hw _ (List.mem_of_getElem? (i := 39) rfl)) (hw _ (List.mem_of_getElem? (i := 41) rfl)) e0 E_w_Outcome_CONFORMS M_mr_Outcome (g := (mkF m 5 #[rv w_Outcome_CONFORMS, rv w_Outcome_CONFORMS, rv w_Outcome_CONFORMS, rv w_Outcome_CONFORMS] [(.ref w_Outcome_CONFORMS)])) rfl (by rw [hml]; rfl) rfl (hb hby d5_5) (by decide) (W := 0) (by show 2 * 0 + _ ≤ _; exact Nat.le_of_eq rfl) (by decide)
  obtain ⟨T2, X2, e2, st2⟩ := own_gcls X1 hx hZ hown (hw _ (List.mem_of_getElem? (i := 37) rfl)) (hw _ (List.mem_of_getElem? (i := 38) rfl)) (hw _ (List.mem_of_getElem? (i := 40) rfl)) (hw _ (List.mem_of_getElem? (i := 39) rfl)) (hw _ (List.mem_of_getElem? (i := 41) rfl)) e1 E_w_Outcome_CONFORMS M_mr_Outcome (g := (mkF m 9 #[rv w_Outcome_CONFORMS, rv w_Outcome_CONFORMS, rv w_Outcome_CONFORMS, rv w_Outcome_CONFORMS] [(.ref w_Outcome_CONFORMS), (.ref mr_Outcome)])) rfl (by rw [hml]; rfl) rfl (hb hby d5_9) (by decide) (W := 1) (by show 2 * 0 + _ ≤ _; exact Nat.le_of_eq rfl) (by decide)
  obtain ⟨T3, X3, e3, st3⟩ := getF X2 hx hZ hown (host := "") (Or.inl (hw _ (List.mem_of_getElem? (i := 24) rfl))) Via.refl e2 F_w_Outcome_CONFORMS_ordinal (g := (mkF m 35 #[rv w_Outcome_CONFORMS, rv w_Outcome_CONFORMS, rv w_Outcome_CONFORMS, rv w_Outcome_CONFORMS] [(.ref w_Outcome_CONFORMS)])) rfl rfl (hb hby d5_35)
  obtain ⟨T4, X4, e4, st4⟩ := getF X3 hx hZ hown (host := "") (Or.inl (hw _ (List.mem_of_getElem? (i := 24) rfl))) Via.refl e3 F_w_Outcome_CONFORMS_ordinal (g := (mkF m 39 #[rv w_Outcome_CONFORMS, rv w_Outcome_CONFORMS, rv w_Outcome_CONFORMS, rv w_Outcome_CONFORMS] [(.ref w_Outcome_CONFORMS), (.int (2 : Int32))])) rfl rfl (hb hby d5_39)
  obtain ⟨fs, hr, hrun, hended, hW, hsame⟩ := X4.leave (v := (some (.int (0 : Int32)))) (fun h => by rw [Bd.returns] at h; cases h)
  refine ⟨_, _, pre0 _ ?_, hrun, hended, _, _, rfl, ?_, ⟨_, rfl⟩, hW, hsame.mono (by decide) (by decide)⟩
  · show Steps p.tables e below (s₁.setTop (mkF m 0 #[rv w_Outcome_CONFORMS, rv w_Outcome_CONFORMS, .unset, .unset] [])) _
    refine XS.aloadN X0.here hx rfl (hb hby d5_0) rfl rfl ?_
    show Steps p.tables e below (s₁.setTop (mkF m 1 #[rv w_Outcome_CONFORMS, rv w_Outcome_CONFORMS, .unset, .unset] [(.ref w_Outcome_CONFORMS)])) _
    refine XS.astoreN X0.here hx rfl (hb hby d5_1) rfl rfl (l' := #[rv w_Outcome_CONFORMS, rv w_Outcome_CONFORMS, rv w_Outcome_CONFORMS, .unset]) rfl ?_
    show Steps p.tables e below (s₁.setTop (mkF m 2 #[rv w_Outcome_CONFORMS, rv w_Outcome_CONFORMS, rv w_Outcome_CONFORMS, .unset] [])) _
    refine XS.aloadN X0.here hx rfl (hb hby d5_2) rfl rfl ?_
    show Steps p.tables e below (s₁.setTop (mkF m 3 #[rv w_Outcome_CONFORMS, rv w_Outcome_CONFORMS, rv w_Outcome_CONFORMS, .unset] [(.ref w_Outcome_CONFORMS)])) _
    refine XS.astoreN X0.here hx rfl (hb hby d5_3) rfl rfl (l' := #[rv w_Outcome_CONFORMS, rv w_Outcome_CONFORMS, rv w_Outcome_CONFORMS, rv w_Outcome_CONFORMS]) rfl ?_
    show Steps p.tables e below (s₁.setTop (mkF m 4 #[rv w_Outcome_CONFORMS, rv w_Outcome_CONFORMS, rv w_Outcome_CONFORMS, rv w_Outcome_CONFORMS] [])) _
    refine XS.aloadN X0.here hx rfl (hb hby d5_4) rfl rfl ?_
    show Steps p.tables e below (s₁.setTop (mkF m 5 #[rv w_Outcome_CONFORMS, rv w_Outcome_CONFORMS, rv w_Outcome_CONFORMS, rv w_Outcome_CONFORMS] [(.ref w_Outcome_CONFORMS)])) _
    refine st1 _ ?_
    show Steps p.tables e below (T1.setTop (mkF m 8 #[rv w_Outcome_CONFORMS, rv w_Outcome_CONFORMS, rv w_Outcome_CONFORMS, rv w_Outcome_CONFORMS] [(.ref mr_Outcome)])) _
    refine XS.aloadN X1.here hx rfl (hb hby d5_8) rfl rfl ?_
    show Steps p.tables e below (T1.setTop (mkF m 9 #[rv w_Outcome_CONFORMS, rv w_Outcome_CONFORMS, rv w_Outcome_CONFORMS, rv w_Outcome_CONFORMS] [(.ref w_Outcome_CONFORMS), (.ref mr_Outcome)])) _
    refine st2 _ ?_
    show Steps p.tables e below (T2.setTop (mkF m 12 #[rv w_Outcome_CONFORMS, rv w_Outcome_CONFORMS, rv w_Outcome_CONFORMS, rv w_Outcome_CONFORMS] [(.ref mr_Outcome), (.ref mr_Outcome)])) _
    refine Jvm.RoadKit.acmp (g := (mkF m 12 #[rv w_Outcome_CONFORMS, rv w_Outcome_CONFORMS, rv w_Outcome_CONFORMS, rv w_Outcome_CONFORMS] [(.ref mr_Outcome), (.ref mr_Outcome)])) X2 hx rfl rfl rfl (pc0 := 12) (pc' := 34) (same := true) rfl (hb hby d5_12) rfl (decide_eq_true rfl) (by decide) (by decide) ?_
    show Steps p.tables e below (T2.setTop (mkF m 34 #[rv w_Outcome_CONFORMS, rv w_Outcome_CONFORMS, rv w_Outcome_CONFORMS, rv w_Outcome_CONFORMS] [])) _
    refine XS.aloadN X2.here hx rfl (hb hby d5_34) rfl rfl ?_
    show Steps p.tables e below (T2.setTop (mkF m 35 #[rv w_Outcome_CONFORMS, rv w_Outcome_CONFORMS, rv w_Outcome_CONFORMS, rv w_Outcome_CONFORMS] [(.ref w_Outcome_CONFORMS)])) _
    refine st3 _ ?_
    show Steps p.tables e below (T3.setTop (mkF m 38 #[rv w_Outcome_CONFORMS, rv w_Outcome_CONFORMS, rv w_Outcome_CONFORMS, rv w_Outcome_CONFORMS] [(.int (2 : Int32))])) _
    refine XS.aloadN X3.here hx rfl (hb hby d5_38) rfl rfl ?_
    show Steps p.tables e below (T3.setTop (mkF m 39 #[rv w_Outcome_CONFORMS, rv w_Outcome_CONFORMS, rv w_Outcome_CONFORMS, rv w_Outcome_CONFORMS] [(.ref w_Outcome_CONFORMS), (.int (2 : Int32))])) _
    refine st4 _ ?_
    show Steps p.tables e below (T4.setTop (mkF m 42 #[rv w_Outcome_CONFORMS, rv w_Outcome_CONFORMS, rv w_Outcome_CONFORMS, rv w_Outcome_CONFORMS] [(.int (2 : Int32)), (.int (2 : Int32))])) _
    refine XS.isub X4.here hx rfl (hb hby d5_42) rfl ?_
    show Steps p.tables e below (T4.setTop (mkF m 43 #[rv w_Outcome_CONFORMS, rv w_Outcome_CONFORMS, rv w_Outcome_CONFORMS, rv w_Outcome_CONFORMS] [(.int ((2 : Int32) - (2 : Int32)))])) _
    rewrite [show ((2 : Int32) - (2 : Int32)) = (0 : Int32) from by decide +kernel]
    show Steps p.tables e below (T4.setTop (mkF m 43 #[rv w_Outcome_CONFORMS, rv w_Outcome_CONFORMS, rv w_Outcome_CONFORMS, rv w_Outcome_CONFORMS] [(.int (0 : Int32))])) _
    exact retI X4 hx Bd.returns (hb hby d5_43) hr
  · exact ⟨rfl, N0, e4⟩
set_option maxRecDepth 65536 in
set_option maxHeartbeats 40000000 in
theorem rm4_12 (l : Launch) (Z : State) (a0 : Array Value) (hw : ∀ d ∈ tables_1, d.before a0 Z = true) (ws : List Jvm.Cond) (w_Outcome_CONFORMS : Addr) (mr_Outcome : Addr) (h0 : Heap) (n0 : Nat) (Z0 : n0 ≤ h0.size) (E_w_Outcome_CONFORMS : Exa Z h0 w_Outcome_CONFORMS "com/example/shapewell/shapewell/Outcome") (M_mr_Outcome : own_Mir Z "com/example/shapewell/shapewell/Outcome" mr_Outcome) (F_w_Outcome_CONFORMS_ordinal : Fld Z h0 w_Outcome_CONFORMS "java/lang/Enum" "ordinal" "I" (.int (2 : Int32))) :
    MetFree l (⟨"com/example/shapewell/shapewell/Outcome", "and", "(Lcom/example/shapewell/shapewell/Outcome;)Lcom/example/shapewell/shapewell/Outcome;"⟩ : MethodName) (head1 (Jvm.Cond.code (⟨"com/example/shapewell/shapewell/Outcome", "and", "(Lcom/example/shapewell/shapewell/Outcome;)Lcom/example/shapewell/shapewell/Outcome;"⟩ : MethodName) prog_3_method_5_code 2 (some (.object "com/example/shapewell/shapewell/Outcome")) :: ws) ({ frames := 2, cells := 0, slots := 0, locals := 30 } : Room)) (fun a U => a = #[(.ref w_Outcome_CONFORMS), (.ref w_Outcome_CONFORMS)] ∧ Z.Warmed39 U.vm ∧ U.heap = h0) (fun _ _ _ _ _ => True) (fun _ U o U' => ∃ v L, o = .returned v ∧ own_QP (some (.ref w_Outcome_CONFORMS)) h0 n0 v U'.heap L ∧ FrameEnd U o U' L ({ frames := 2, cells := 0, slots := 0, locals := 30 } : Room).cells ({ frames := 2, cells := 0, slots := 0, locals := 30 } : Room).slots) := by
  refine MetFree.of_bodySF (plainFor_of_name pn_0) hisR ?_
  intro p e s m args below meth c s₁ Bd hml0 hP hK
  obtain ⟨rfl, hZ, hh⟩ := hP
  have hx := Bd.exec
  have hby := Bd.bytes
  have hml : c.maxLocals = 2 := hml0
  have hown : s.vm.findClass "com/example/shapewell/shapewell/Outcome" = some m.cls := findClass_of_methodNamed Bd.named
  have hnm := (name_of_methodNamed Bd.named Bd.method).1
  have X0 : Stand p l e ({ frames := 2, cells := 0, slots := 0, locals := 30 } : Room) s m #[(.ref w_Outcome_CONFORMS), (.ref w_Outcome_CONFORMS)] below meth c s₁ [] 0 0 := Stand.of_body Bd
  have e0 : s₁.heap = h0 := by rw [← hh, Bd.state]; rfl
  have N0 := Fr.nil n0
  have pre0 : ∀ t, Steps p.tables e below (s₁.setTop (mkF m 0 #[rv w_Outcome_CONFORMS, rv w_Outcome_CONFORMS] [])) t → Steps p.tables e below (s₁.setTop (entryFrame m #[(.ref w_Outcome_CONFORMS), (.ref w_Outcome_CONFORMS)] 2)) t := fun t k => castTop (ef_4_RR m w_Outcome_CONFORMS w_Outcome_CONFORMS) k
  obtain ⟨cq1, kq1, q1a, q1b, q1c⟩ := isOf hZ e0 E_w_Outcome_CONFORMS
  obtain ⟨_, _, ⟨T1, L1, k1, n1⟩, -, X1, ⟨Lc1, hQ1, l1, y1, z1⟩, st1⟩ := X0.virtualBackUp hx (x := (⟨"com/example/shapewell/shapewell/Outcome", "compareTo", "(Ljava/lang/Enum;)I"⟩ : MethodName)) (y := (⟨"java/lang/Enum", "compareTo", "(Ljava/lang/Enum;)I"⟩ : MethodName)) hown (mvT hZ (hw _ (List.mem_of_getElem? (i := 31) rfl))) (mvT hZ (hw _ (List.mem_of_getElem? (i := 32) rfl))) (mvT hZ (hw _ (List.mem_of_getElem? (i := 33) rfl))) (by decide) (mvT hZ (hw _ (List.mem_of_getElem? (i := 35) rfl))) (mvT hZ (hw _ (List.mem_of_getElem? (i := 34) rfl))) (backOf (W := 0) (rm5_12 l Z a0 hw [] w_Outcome_CONFORMS mr_Outcome h0 n0 Z0 E_w_Outcome_CONFORMS M_mr_Outcome F_w_Outcome_CONFORMS_ordinal) hZ (hw _ (List.mem_of_getElem? (i := 36) rfl)) (hw _ (List.mem_of_getElem? (i := 22) rfl)) (by decide) (by decide)) q1a q1c (g := (mkF m 2 #[rv w_Outcome_CONFORMS, rv w_Outcome_CONFORMS] [(.ref w_Outcome_CONFORMS), (.ref w_Outcome_CONFORMS)])) rfl (by rw [hml]; rfl) (Steps.refl _) (argsL := [(.ref w_Outcome_CONFORMS)]) (rest := []) (lenOf pd_3 rfl) rfl (by show 2 * 0 + _ ≤ _; exact Nat.le_of_eq rfl) (hb hby d4_2) (fun _ _ => ⟨rfl, e0, (by decide : 0 + 0 ≤ _), (by decide : 0 + 0 ≤ _)⟩)
  dsimp only [Pt.U, Pt.locs, Pt.cells, Pt.slots] at X1 l1 y1 z1 st1 hQ1
  subst l1 y1 z1
  obtain ⟨rfl, N1q, e1⟩ := hQ1
  have N1 := Fr.app N0 N1q
  obtain ⟨fs, hr, hrun, hended, hW, hsame⟩ := X1.leave (v := (some (.ref w_Outcome_CONFORMS))) (fun h => by rw [Bd.returns] at h; cases h)
  refine ⟨_, _, pre0 _ ?_, hrun, hended, _, _, rfl, ?_, ⟨_, rfl⟩, hW, hsame.mono (by decide) (by decide)⟩
  · show Steps p.tables e below (s₁.setTop (mkF m 0 #[rv w_Outcome_CONFORMS, rv w_Outcome_CONFORMS] [])) _
    refine XS.aloadN X0.here hx rfl (hb hby d4_0) rfl rfl ?_
    show Steps p.tables e below (s₁.setTop (mkF m 1 #[rv w_Outcome_CONFORMS, rv w_Outcome_CONFORMS] [(.ref w_Outcome_CONFORMS)])) _
    refine XS.aloadN X0.here hx rfl (hb hby d4_1) rfl rfl ?_
    show Steps p.tables e below (s₁.setTop (mkF m 2 #[rv w_Outcome_CONFORMS, rv w_Outcome_CONFORMS] [(.ref w_Outcome_CONFORMS), (.ref w_Outcome_CONFORMS)])) _
    refine st1.trans ?_
    show Steps p.tables e below (T1.setTop (mkF m 5 #[rv w_Outcome_CONFORMS, rv w_Outcome_CONFORMS] [(.int (0 : Int32))])) _
    refine XS.ifNo X1.here hx rfl (hb hby d4_5) rfl ((if0 _ _).trans (flt (by decide +kernel : ¬ ((0 : Int32) < (0 : Int32)))).2.2.1) ?_
    show Steps p.tables e below (T1.setTop (mkF m 8 #[rv w_Outcome_CONFORMS, rv w_Outcome_CONFORMS] [])) _
    refine XS.aloadN X1.here hx rfl (hb hby d4_8) rfl rfl ?_
    show Steps p.tables e below (T1.setTop (mkF m 9 #[rv w_Outcome_CONFORMS, rv w_Outcome_CONFORMS] [(.ref w_Outcome_CONFORMS)])) _
    refine XS.goto X1.here hx rfl (pc0 := 9) (pc' := 13) rfl (hb hby d4_9) (by decide) (by decide) ?_
    show Steps p.tables e below (T1.setTop (mkF m 13 #[rv w_Outcome_CONFORMS, rv w_Outcome_CONFORMS] [(.ref w_Outcome_CONFORMS)])) _
    exact own_retA X1 hx Bd.returns rfl rfl (hb hby d4_13) hr
  · exact ⟨rfl, N1, e1⟩
set_option maxRecDepth 65536 in
set_option maxHeartbeats 40000000 in
theorem rm0_3 (l : Launch) (Z : State) (a0 : Array Value) (hw : ∀ d ∈ tables_1, d.before a0 Z = true) (ws : List Jvm.Cond) (p0 : Int32) (p1 : Int32) (w_Outcome_VIOLATES : Addr) (w_Outcome_CONFORMS : Addr) (w_Outcome_UNDETERMINED : Addr) (mr_Outcome : Addr) (h0 : Heap) (n0 : Nat) (Z0 : n0 ≤ h0.size) (hk0 : (p0 &&& (1 : Int32)) = (1 : Int32)) (hk1 : (p1 &&& (1 : Int32)) = (1 : Int32)) (S_Outcome_CONFORMS : Sta Z h0 "com/example/shapewell/shapewell/Outcome" "CONFORMS" "Lcom/example/shapewell/shapewell/Outcome;" (.ref w_Outcome_CONFORMS)) (S_Outcome_VIOLATES : Sta Z h0 "com/example/shapewell/shapewell/Outcome" "VIOLATES" "Lcom/example/shapewell/shapewell/Outcome;" (.ref w_Outcome_VIOLATES)) (ne_w_Outcome_CONFORMS_w_Outcome_VIOLATES : ¬ (w_Outcome_CONFORMS = w_Outcome_VIOLATES)) (S_Outcome_UNDETERMINED : Sta Z h0 "com/example/shapewell/shapewell/Outcome" "UNDETERMINED" "Lcom/example/shapewell/shapewell/Outcome;" (.ref w_Outcome_UNDETERMINED)) (ne_w_Outcome_CONFORMS_w_Outcome_UNDETERMINED : ¬ (w_Outcome_CONFORMS = w_Outcome_UNDETERMINED)) (F_w_Outcome_CONFORMS_ordinal : Fld Z h0 w_Outcome_CONFORMS "java/lang/Enum" "ordinal" "I" (.int (2 : Int32))) (E_w_Outcome_CONFORMS : Exa Z h0 w_Outcome_CONFORMS "com/example/shapewell/shapewell/Outcome") (M_mr_Outcome : own_Mir Z "com/example/shapewell/shapewell/Outcome" mr_Outcome) :
    MetFree l x (head1 (Jvm.Cond.code x code maxLocals ret :: ws) room_1) (fun a U => a = #[(.int p0), (.int p1)] ∧ Z.Warmed39 U.vm ∧ U.heap = h0) (fun _ _ _ _ _ => True) (fun _ U o U' => ∃ v L, o = .returned v ∧ own_QL n0 v U'.heap L ∧ FrameEnd U o U' L room_1.cells room_1.slots) := by
  refine MetFree.of_bodySF (plainFor_of_name pn_2) hisR ?_
  intro p e s m args below meth c s₁ Bd hml0 hP hK
  obtain ⟨rfl, hZ, hh⟩ := hP
  have hx := Bd.exec
  have hby := Bd.bytes
  have hml : c.maxLocals = 10 := hml0
  have hown : s.vm.findClass "com/example/shapewell/shapewell/OutcomeOfPinLaw" = some m.cls := findClass_of_methodNamed Bd.named
  have hnm := (name_of_methodNamed Bd.named Bd.method).1
  have X0 : Stand p l e room_1 s m #[(.int p0), (.int p1)] below meth c s₁ [] 0 0 := Stand.of_body Bd
  have e0 : s₁.heap = h0 := by rw [← hh, Bd.state]; rfl
  have N0 := Fr.nil n0
  have pre0 : ∀ t, Steps p.tables e below (s₁.setTop (mkF m 0 #[iv p0, iv p1, .unset, .unset, .unset, .unset, .unset, .unset, .unset, .unset] [])) t → Steps p.tables e below (s₁.setTop (entryFrame m #[(.int p0), (.int p1)] maxLocals)) t := fun t k => castTop (ef_0_II m p0 p1) k
  obtain ⟨_, _, ⟨T1, L1, k1, n1⟩, -, X1, ⟨Lc1, hQ1, l1, y1, z1⟩, st1⟩ := Jvm.LawKit.callS X0 hx (y := (⟨"com/example/shapewell/shapewell/Outcome", "of", "(Z)Lcom/example/shapewell/shapewell/Outcome;"⟩ : MethodName)) hown (mvT hZ (hw _ (List.mem_of_getElem? (i := 0) rfl))) (mvT hZ (hw _ (List.mem_of_getElem? (i := 1) rfl))) (mvT hZ (hw _ (List.mem_of_getElem? (i := 2) rfl))) (mvT hZ (hw _ (List.mem_of_getElem? (i := 3) rfl))) (by decide) (backOf (W := 0) (rm1_3 l Z a0 hw [] w_Outcome_CONFORMS h0 n0 Z0 S_Outcome_CONFORMS) hZ (hw _ (List.mem_of_getElem? (i := 3) rfl)) (hw _ (List.mem_of_getElem? (i := 2) rfl)) (by decide) (by decide)) (g := (mkF m 25 #[iv p0, iv p1, iv (1 : Int32), iv (1 : Int32), .unset, .unset, .unset, .unset, .unset, .unset] [(.int (1 : Int32))])) rfl (by rw [hml]; rfl) (argsL := [(.int (1 : Int32))]) (rest := []) (lenOf pd_0 rfl) rfl (by show 2 * 0 + _ ≤ _; exact Nat.le_of_eq rfl) (hb hby at_25) (fun _ _ => ⟨rfl, e0, (by decide : 0 + 0 ≤ _), (by decide : 0 + 0 ≤ _)⟩)
  dsimp only [Pt.U, Pt.locs, Pt.cells, Pt.slots] at X1 l1 y1 z1 st1 hQ1
  subst l1 y1 z1
  obtain ⟨rfl, N1q, e1⟩ := hQ1
  have N1 := Fr.app N0 N1q
  obtain ⟨_, _, ⟨T2, L2, k2, n2⟩, -, X2, ⟨Lc2, hQ2, l2, y2, z2⟩, st2⟩ := Jvm.LawKit.callS X1 hx (y := (⟨"com/example/shapewell/shapewell/Outcome", "of", "(Z)Lcom/example/shapewell/shapewell/Outcome;"⟩ : MethodName)) hown (mvT hZ (hw _ (List.mem_of_getElem? (i := 0) rfl))) (mvT hZ (hw _ (List.mem_of_getElem? (i := 1) rfl))) (mvT hZ (hw _ (List.mem_of_getElem? (i := 2) rfl))) (mvT hZ (hw _ (List.mem_of_getElem? (i := 3) rfl))) (by decide) (backOf (W := 0) (rm1_3 l Z a0 hw [] w_Outcome_CONFORMS h0 n0 Z0 S_Outcome_CONFORMS) hZ (hw _ (List.mem_of_getElem? (i := 3) rfl)) (hw _ (List.mem_of_getElem? (i := 2) rfl)) (by decide) (by decide)) (g := (mkF m 31 #[iv p0, iv p1, iv (1 : Int32), iv (1 : Int32), rv w_Outcome_CONFORMS, .unset, .unset, .unset, .unset, .unset] [(.int (1 : Int32))])) rfl (by rw [hml]; rfl) (argsL := [(.int (1 : Int32))]) (rest := []) (lenOf pd_0 rfl) rfl (by show 2 * 0 + _ ≤ _; exact Nat.le_of_eq rfl) (hb hby at_31) (fun _ _ => ⟨rfl, e1, (by decide : 0 + 0 ≤ _), (by decide : 0 + 0 ≤ _)⟩)
  dsimp only [Pt.U, Pt.locs, Pt.cells, Pt.slots] at X2 l2 y2 z2 st2 hQ2
  subst l2 y2 z2
  obtain ⟨rfl, N2q, e2⟩ := hQ2
  have N2 := Fr.app N1 N2q
  obtain ⟨T3, X3, e3, st3⟩ := getS2 X2 hx hZ hown (host := "") (Or.inl (hw _ (List.mem_of_getElem? (i := 8) rfl))) Via.refl e2 S_Outcome_CONFORMS (g := (mkF m 50 #[iv p0, iv p1, iv (1 : Int32), iv (1 : Int32), rv w_Outcome_CONFORMS, rv w_Outcome_CONFORMS, .unset, .unset, .unset, .unset] [(.ref w_Outcome_CONFORMS)])) rfl (hb hby at_50)
  obtain ⟨T4, X4, e4, st4⟩ := getS2 X3 hx hZ hown (host := "") (Or.inl (hw _ (List.mem_of_getElem? (i := 9) rfl))) Via.refl e3 S_Outcome_VIOLATES (g := (mkF m 67 #[iv p0, iv p1, iv (1 : Int32), iv (1 : Int32), rv w_Outcome_CONFORMS, rv w_Outcome_CONFORMS, .unset, .unset, .unset, .unset] [(.ref w_Outcome_CONFORMS)])) rfl (hb hby at_67)
  obtain ⟨T5, X5, e5, st5⟩ := getS2 X4 hx hZ hown (host := "") (Or.inl (hw _ (List.mem_of_getElem? (i := 10) rfl))) Via.refl e4 S_Outcome_UNDETERMINED (g := (mkF m 99 #[iv p0, iv p1, iv (1 : Int32), iv (1 : Int32), rv w_Outcome_CONFORMS, rv w_Outcome_CONFORMS, iv (1 : Int32), .unset, .unset, .unset] [(.ref w_Outcome_CONFORMS)])) rfl (hb hby at_99)
  obtain ⟨cq6, kq6, q6a, q6b, q6c⟩ := isOf hZ e5 E_w_Outcome_CONFORMS
  obtain ⟨_, _, ⟨T6, L6, k6, n6⟩, -, X6, ⟨Lc6, hQ6, l6, y6, z6⟩, st6⟩ := X5.virtualBack hx (y := (⟨"com/example/shapewell/shapewell/Outcome", "not", "()Lcom/example/shapewell/shapewell/Outcome;"⟩ : MethodName)) (z := (⟨"com/example/shapewell/shapewell/Outcome", "not", "()Lcom/example/shapewell/shapewell/Outcome;"⟩ : MethodName)) hown (mvT hZ (hw _ (List.mem_of_getElem? (i := 12) rfl))) (mvT hZ (hw _ (List.mem_of_getElem? (i := 13) rfl))) (notFace_of_selects (args := #[]) (mvT hZ (hw _ (List.mem_of_getElem? (i := 15) rfl)))) (mvT hZ (hw _ (List.mem_of_getElem? (i := 15) rfl))) (mvT hZ (hw _ (List.mem_of_getElem? (i := 14) rfl))) (by decide) (backOf (W := 0) (rm2_8 l Z a0 hw [] w_Outcome_VIOLATES w_Outcome_CONFORMS h0 n0 Z0 F_w_Outcome_CONFORMS_ordinal E_w_Outcome_CONFORMS S_Outcome_VIOLATES) hZ (hw _ (List.mem_of_getElem? (i := 16) rfl)) (hw _ (List.mem_of_getElem? (i := 2) rfl)) (by decide) (by decide)) q6a q6c (g := (mkF m 114 #[iv p0, iv p1, iv (1 : Int32), iv (1 : Int32), rv w_Outcome_CONFORMS, rv w_Outcome_CONFORMS, iv (1 : Int32), iv (1 : Int32), .unset, .unset] [(.ref w_Outcome_CONFORMS)])) rfl (by rw [hml]; rfl) (Steps.refl _) (argsL := []) (rest := []) (lenOf pd_2 rfl) rfl (by show 2 * 0 + _ ≤ _; exact Nat.le_of_eq rfl) (hb hby at_114) (fun _ _ => ⟨rfl, e5, (by decide : 0 + 0 ≤ _), (by decide : 0 + 0 ≤ _)⟩)
  dsimp only [Pt.U, Pt.locs, Pt.cells, Pt.slots] at X6 l6 y6 z6 st6 hQ6
  subst l6 y6 z6
  obtain ⟨rfl, N6q, e6⟩ := hQ6
  have N6 := Fr.app N2 N6q
  obtain ⟨_, _, ⟨T7, L7, k7, n7⟩, -, X7, ⟨Lc7, hQ7, l7, y7, z7⟩, st7⟩ := Jvm.LawKit.callS X6 hx (y := (⟨"com/example/shapewell/shapewell/Outcome", "of", "(Z)Lcom/example/shapewell/shapewell/Outcome;"⟩ : MethodName)) hown (mvT hZ (hw _ (List.mem_of_getElem? (i := 0) rfl))) (mvT hZ (hw _ (List.mem_of_getElem? (i := 1) rfl))) (mvT hZ (hw _ (List.mem_of_getElem? (i := 2) rfl))) (mvT hZ (hw _ (List.mem_of_getElem? (i := 3) rfl))) (by decide) (backOf (W := 1) (rm1_0 l Z a0 hw [] w_Outcome_VIOLATES h0 n0 Z0 S_Outcome_VIOLATES) hZ (hw _ (List.mem_of_getElem? (i := 3) rfl)) (hw _ (List.mem_of_getElem? (i := 2) rfl)) (by decide) (by decide)) (g := (mkF m 126 #[iv p0, iv p1, iv (1 : Int32), iv (1 : Int32), rv w_Outcome_CONFORMS, rv w_Outcome_CONFORMS, iv (1 : Int32), iv (1 : Int32), .unset, .unset] [(.int (0 : Int32)), (.ref w_Outcome_VIOLATES)])) rfl (by rw [hml]; rfl) (argsL := [(.int (0 : Int32))]) (rest := [(.ref w_Outcome_VIOLATES)]) (lenOf pd_0 rfl) rfl (by show 2 * 0 + _ ≤ _; exact Nat.le_of_eq rfl) (hb hby at_126) (fun _ _ => ⟨rfl, e6, (by decide : 0 + 0 ≤ _), (by decide : 0 + 0 ≤ _)⟩)
  dsimp only [Pt.U, Pt.locs, Pt.cells, Pt.slots] at X7 l7 y7 z7 st7 hQ7
  subst l7 y7 z7
  obtain ⟨rfl, N7q, e7⟩ := hQ7
  have N7 := Fr.app N6 N7q
  obtain ⟨cq8, kq8, q8a, q8b, q8c⟩ := isOf hZ e7 E_w_Outcome_CONFORMS
  obtain ⟨_, _, ⟨T8, L8, k8, n8⟩, -, X8, ⟨Lc8, hQ8, l8, y8, z8⟩, st8⟩ := X7.virtualBack hx (y := (⟨"com/example/shapewell/shapewell/Outcome", "and", "(Lcom/example/shapewell/shapewell/Outcome;)Lcom/example/shapewell/shapewell/Outcome;"⟩ : MethodName)) (z := (⟨"com/example/shapewell/shapewell/Outcome", "and", "(Lcom/example/shapewell/shapewell/Outcome;)Lcom/example/shapewell/shapewell/Outcome;"⟩ : MethodName)) hown (mvT hZ (hw _ (List.mem_of_getElem? (i := 26) rfl))) (mvT hZ (hw _ (List.mem_of_getElem? (i := 27) rfl))) (notFace_of_selects (args := #[]) (mvT hZ (hw _ (List.mem_of_getElem? (i := 29) rfl)))) (mvT hZ (hw _ (List.mem_of_getElem? (i := 29) rfl))) (mvT hZ (hw _ (List.mem_of_getElem? (i := 28) rfl))) (by decide) (backOf (W := 0) (rm4_12 l Z a0 hw [] w_Outcome_CONFORMS mr_Outcome h0 n0 Z0 E_w_Outcome_CONFORMS M_mr_Outcome F_w_Outcome_CONFORMS_ordinal) hZ (hw _ (List.mem_of_getElem? (i := 30) rfl)) (hw _ (List.mem_of_getElem? (i := 2) rfl)) (by decide) (by decide)) q8a q8c (g := (mkF m 143 #[iv p0, iv p1, iv (1 : Int32), iv (1 : Int32), rv w_Outcome_CONFORMS, rv w_Outcome_CONFORMS, iv (1 : Int32), iv (1 : Int32), iv (1 : Int32), .unset] [(.ref w_Outcome_CONFORMS), (.ref w_Outcome_CONFORMS)])) rfl (by rw [hml]; rfl) (Steps.refl _) (argsL := [(.ref w_Outcome_CONFORMS)]) (rest := []) (lenOf pd_4 rfl) rfl (by show 2 * 0 + _ ≤ _; exact Nat.le_of_eq rfl) (hb hby at_143) (fun _ _ => ⟨rfl, e7, (by decide : 0 + 0 ≤ _), (by decide : 0 + 0 ≤ _)⟩)
  dsimp only [Pt.U, Pt.locs, Pt.cells, Pt.slots] at X8 l8 y8 z8 st8 hQ8
  subst l8 y8 z8
  obtain ⟨rfl, N8q, e8⟩ := hQ8
  have N8 := Fr.app N7 N8q
  obtain ⟨_, _, ⟨T9, L9, k9, n9⟩, -, X9, ⟨Lc9, hQ9, l9, y9, z9⟩, st9⟩ := Jvm.LawKit.callS X8 hx (y := (⟨"com/example/shapewell/shapewell/Outcome", "of", "(Z)Lcom/example/shapewell/shapewell/Outcome;"⟩ : MethodName)) hown (mvT hZ (hw _ (List.mem_of_getElem? (i := 0) rfl))) (mvT hZ (hw _ (List.mem_of_getElem? (i := 1) rfl))) (mvT hZ (hw _ (List.mem_of_getElem? (i := 2) rfl))) (mvT hZ (hw _ (List.mem_of_getElem? (i := 3) rfl))) (by decide) (backOf (W := 1) (rm1_3 l Z a0 hw [] w_Outcome_CONFORMS h0 n0 Z0 S_Outcome_CONFORMS) hZ (hw _ (List.mem_of_getElem? (i := 3) rfl)) (hw _ (List.mem_of_getElem? (i := 2) rfl)) (by decide) (by decide)) (g := (mkF m 159 #[iv p0, iv p1, iv (1 : Int32), iv (1 : Int32), rv w_Outcome_CONFORMS, rv w_Outcome_CONFORMS, iv (1 : Int32), iv (1 : Int32), iv (1 : Int32), .unset] [(.int (1 : Int32)), (.ref w_Outcome_CONFORMS)])) rfl (by rw [hml]; rfl) (argsL := [(.int (1 : Int32))]) (rest := [(.ref w_Outcome_CONFORMS)]) (lenOf pd_0 rfl) rfl (by show 2 * 0 + _ ≤ _; exact Nat.le_of_eq rfl) (hb hby at_159) (fun _ _ => ⟨rfl, e8, (by decide : 0 + 0 ≤ _), (by decide : 0 + 0 ≤ _)⟩)
  dsimp only [Pt.U, Pt.locs, Pt.cells, Pt.slots] at X9 l9 y9 z9 st9 hQ9
  subst l9 y9 z9
  obtain ⟨rfl, N9q, e9⟩ := hQ9
  have N9 := Fr.app N8 N9q
  obtain ⟨fs, hr, hrun, hended, hW, hsame⟩ := X9.leave (v := (some (.int (1 : Int32)))) (fun h => by rw [Bd.returns] at h; cases h)
  refine ⟨_, _, pre0 _ ?_, hrun, hended, _, _, rfl, ?_, ⟨_, rfl⟩, hW, hsame.mono (by decide) (by decide)⟩
  · show Steps p.tables e below (s₁.setTop (mkF m 0 #[iv p0, iv p1, .unset, .unset, .unset, .unset, .unset, .unset, .unset, .unset] [])) _
    refine XS.iloadN X0.here hx rfl (hb hby at_0) rfl ?_
    show Steps p.tables e below (s₁.setTop (mkF m 1 #[iv p0, iv p1, .unset, .unset, .unset, .unset, .unset, .unset, .unset, .unset] [(.int p0)])) _
    refine XS.iconst X0.here hx rfl (hb hby at_1) ?_
    show Steps p.tables e below (s₁.setTop (mkF m 2 #[iv p0, iv p1, .unset, .unset, .unset, .unset, .unset, .unset, .unset, .unset] [(.int (1 : Int32)), (.int p0)])) _
    refine XS.iand X0.here hx rfl (hb hby at_2) rfl ?_
    show Steps p.tables e below (s₁.setTop (mkF m 3 #[iv p0, iv p1, .unset, .unset, .unset, .unset, .unset, .unset, .unset, .unset] [(.int (p0 &&& (1 : Int32)))])) _
    rewrite [hk0]
    show Steps p.tables e below (s₁.setTop (mkF m 3 #[iv p0, iv p1, .unset, .unset, .unset, .unset, .unset, .unset, .unset, .unset] [(.int (1 : Int32))])) _
    refine XS.ifNo X0.here hx rfl (hb hby at_3) rfl ((if0 _ _).trans (feq (by decide +kernel : ¬ ((1 : Int32) = (0 : Int32)))).1) ?_
    show Steps p.tables e below (s₁.setTop (mkF m 6 #[iv p0, iv p1, .unset, .unset, .unset, .unset, .unset, .unset, .unset, .unset] [])) _
    refine XS.iconst X0.here hx rfl (hb hby at_6) ?_
    show Steps p.tables e below (s₁.setTop (mkF m 7 #[iv p0, iv p1, .unset, .unset, .unset, .unset, .unset, .unset, .unset, .unset] [(.int (1 : Int32))])) _
    refine XS.goto X0.here hx rfl (pc0 := 7) (pc' := 11) rfl (hb hby at_7) (by decide) (by decide) ?_
    show Steps p.tables e below (s₁.setTop (mkF m 11 #[iv p0, iv p1, .unset, .unset, .unset, .unset, .unset, .unset, .unset, .unset] [(.int (1 : Int32))])) _
    refine XS.istoreN X0.here hx rfl (hb hby at_11) rfl (l' := #[iv p0, iv p1, iv (1 : Int32), .unset, .unset, .unset, .unset, .unset, .unset, .unset]) rfl ?_
    show Steps p.tables e below (s₁.setTop (mkF m 12 #[iv p0, iv p1, iv (1 : Int32), .unset, .unset, .unset, .unset, .unset, .unset, .unset] [])) _
    refine XS.iloadN X0.here hx rfl (hb hby at_12) rfl ?_
    show Steps p.tables e below (s₁.setTop (mkF m 13 #[iv p0, iv p1, iv (1 : Int32), .unset, .unset, .unset, .unset, .unset, .unset, .unset] [(.int p1)])) _
    refine XS.iconst X0.here hx rfl (hb hby at_13) ?_
    show Steps p.tables e below (s₁.setTop (mkF m 14 #[iv p0, iv p1, iv (1 : Int32), .unset, .unset, .unset, .unset, .unset, .unset, .unset] [(.int (1 : Int32)), (.int p1)])) _
    refine XS.iand X0.here hx rfl (hb hby at_14) rfl ?_
    show Steps p.tables e below (s₁.setTop (mkF m 15 #[iv p0, iv p1, iv (1 : Int32), .unset, .unset, .unset, .unset, .unset, .unset, .unset] [(.int (p1 &&& (1 : Int32)))])) _
    rewrite [hk1]
    show Steps p.tables e below (s₁.setTop (mkF m 15 #[iv p0, iv p1, iv (1 : Int32), .unset, .unset, .unset, .unset, .unset, .unset, .unset] [(.int (1 : Int32))])) _
    refine XS.ifNo X0.here hx rfl (hb hby at_15) rfl ((if0 _ _).trans (feq (by decide +kernel : ¬ ((1 : Int32) = (0 : Int32)))).1) ?_
    show Steps p.tables e below (s₁.setTop (mkF m 18 #[iv p0, iv p1, iv (1 : Int32), .unset, .unset, .unset, .unset, .unset, .unset, .unset] [])) _
    refine XS.iconst X0.here hx rfl (hb hby at_18) ?_
    show Steps p.tables e below (s₁.setTop (mkF m 19 #[iv p0, iv p1, iv (1 : Int32), .unset, .unset, .unset, .unset, .unset, .unset, .unset] [(.int (1 : Int32))])) _
    refine XS.goto X0.here hx rfl (pc0 := 19) (pc' := 23) rfl (hb hby at_19) (by decide) (by decide) ?_
    show Steps p.tables e below (s₁.setTop (mkF m 23 #[iv p0, iv p1, iv (1 : Int32), .unset, .unset, .unset, .unset, .unset, .unset, .unset] [(.int (1 : Int32))])) _
    refine XS.istoreN X0.here hx rfl (hb hby at_23) rfl (l' := #[iv p0, iv p1, iv (1 : Int32), iv (1 : Int32), .unset, .unset, .unset, .unset, .unset, .unset]) rfl ?_
    show Steps p.tables e below (s₁.setTop (mkF m 24 #[iv p0, iv p1, iv (1 : Int32), iv (1 : Int32), .unset, .unset, .unset, .unset, .unset, .unset] [])) _
    refine XS.iloadN X0.here hx rfl (hb hby at_24) rfl ?_
    show Steps p.tables e below (s₁.setTop (mkF m 25 #[iv p0, iv p1, iv (1 : Int32), iv (1 : Int32), .unset, .unset, .unset, .unset, .unset, .unset] [(.int (1 : Int32))])) _
    refine st1 _ ?_
    show Steps p.tables e below (T1.setTop (mkF m 28 #[iv p0, iv p1, iv (1 : Int32), iv (1 : Int32), .unset, .unset, .unset, .unset, .unset, .unset] [(.ref w_Outcome_CONFORMS)])) _
    refine XS.astore X1.here hx rfl (hb hby at_28) rfl rfl (l' := #[iv p0, iv p1, iv (1 : Int32), iv (1 : Int32), rv w_Outcome_CONFORMS, .unset, .unset, .unset, .unset, .unset]) rfl ?_
    show Steps p.tables e below (T1.setTop (mkF m 30 #[iv p0, iv p1, iv (1 : Int32), iv (1 : Int32), rv w_Outcome_CONFORMS, .unset, .unset, .unset, .unset, .unset] [])) _
    refine XS.iloadN X1.here hx rfl (hb hby at_30) rfl ?_
    show Steps p.tables e below (T1.setTop (mkF m 31 #[iv p0, iv p1, iv (1 : Int32), iv (1 : Int32), rv w_Outcome_CONFORMS, .unset, .unset, .unset, .unset, .unset] [(.int (1 : Int32))])) _
    refine st2 _ ?_
    show Steps p.tables e below (T2.setTop (mkF m 34 #[iv p0, iv p1, iv (1 : Int32), iv (1 : Int32), rv w_Outcome_CONFORMS, .unset, .unset, .unset, .unset, .unset] [(.ref w_Outcome_CONFORMS)])) _
    refine XS.astore X2.here hx rfl (hb hby at_34) rfl rfl (l' := #[iv p0, iv p1, iv (1 : Int32), iv (1 : Int32), rv w_Outcome_CONFORMS, rv w_Outcome_CONFORMS, .unset, .unset, .unset, .unset]) rfl ?_
    show Steps p.tables e below (T2.setTop (mkF m 36 #[iv p0, iv p1, iv (1 : Int32), iv (1 : Int32), rv w_Outcome_CONFORMS, rv w_Outcome_CONFORMS, .unset, .unset, .unset, .unset] [])) _
    refine XS.aload X2.here hx rfl (hb hby at_36) rfl rfl ?_
    show Steps p.tables e below (T2.setTop (mkF m 38 #[iv p0, iv p1, iv (1 : Int32), iv (1 : Int32), rv w_Outcome_CONFORMS, rv w_Outcome_CONFORMS, .unset, .unset, .unset, .unset] [(.ref w_Outcome_CONFORMS)])) _
    refine XS.ifnullNo X2.here hx rfl (hb hby at_38) rfl ?_
    show Steps p.tables e below (T2.setTop (mkF m 41 #[iv p0, iv p1, iv (1 : Int32), iv (1 : Int32), rv w_Outcome_CONFORMS, rv w_Outcome_CONFORMS, .unset, .unset, .unset, .unset] [])) _
    refine XS.aload X2.here hx rfl (hb hby at_41) rfl rfl ?_
    show Steps p.tables e below (T2.setTop (mkF m 43 #[iv p0, iv p1, iv (1 : Int32), iv (1 : Int32), rv w_Outcome_CONFORMS, rv w_Outcome_CONFORMS, .unset, .unset, .unset, .unset] [(.ref w_Outcome_CONFORMS)])) _
    refine XS.ifnonnullYes X2.here hx rfl (pc0 := 43) (pc' := 48) rfl (hb hby at_43) rfl (by decide) (by decide) ?_
    show Steps p.tables e below (T2.setTop (mkF m 48 #[iv p0, iv p1, iv (1 : Int32), iv (1 : Int32), rv w_Outcome_CONFORMS, rv w_Outcome_CONFORMS, .unset, .unset, .unset, .unset] [])) _
    refine XS.aload X2.here hx rfl (hb hby at_48) rfl rfl ?_
    show Steps p.tables e below (T2.setTop (mkF m 50 #[iv p0, iv p1, iv (1 : Int32), iv (1 : Int32), rv w_Outcome_CONFORMS, rv w_Outcome_CONFORMS, .unset, .unset, .unset, .unset] [(.ref w_Outcome_CONFORMS)])) _
    refine st3 _ ?_
    show Steps p.tables e below (T3.setTop (mkF m 53 #[iv p0, iv p1, iv (1 : Int32), iv (1 : Int32), rv w_Outcome_CONFORMS, rv w_Outcome_CONFORMS, .unset, .unset, .unset, .unset] [(.ref w_Outcome_CONFORMS), (.ref w_Outcome_CONFORMS)])) _
    refine Jvm.RoadKit.acmp (g := (mkF m 53 #[iv p0, iv p1, iv (1 : Int32), iv (1 : Int32), rv w_Outcome_CONFORMS, rv w_Outcome_CONFORMS, .unset, .unset, .unset, .unset] [(.ref w_Outcome_CONFORMS), (.ref w_Outcome_CONFORMS)])) X3 hx rfl rfl rfl (pc0 := 53) (pc' := 56) (same := true) rfl (hb hby at_53) rfl (decide_eq_true rfl) (by decide) (by decide) ?_
    show Steps p.tables e below (T3.setTop (mkF m 56 #[iv p0, iv p1, iv (1 : Int32), iv (1 : Int32), rv w_Outcome_CONFORMS, rv w_Outcome_CONFORMS, .unset, .unset, .unset, .unset] [])) _
    refine XS.iconst X3.here hx rfl (hb hby at_56) ?_
    show Steps p.tables e below (T3.setTop (mkF m 57 #[iv p0, iv p1, iv (1 : Int32), iv (1 : Int32), rv w_Outcome_CONFORMS, rv w_Outcome_CONFORMS, .unset, .unset, .unset, .unset] [(.int (1 : Int32))])) _
    refine XS.goto X3.here hx rfl (pc0 := 57) (pc' := 61) rfl (hb hby at_57) (by decide) (by decide) ?_
    show Steps p.tables e below (T3.setTop (mkF m 61 #[iv p0, iv p1, iv (1 : Int32), iv (1 : Int32), rv w_Outcome_CONFORMS, rv w_Outcome_CONFORMS, .unset, .unset, .unset, .unset] [(.int (1 : Int32))])) _
    refine XS.iloadN X3.here hx rfl (hb hby at_61) rfl ?_
    show Steps p.tables e below (T3.setTop (mkF m 62 #[iv p0, iv p1, iv (1 : Int32), iv (1 : Int32), rv w_Outcome_CONFORMS, rv w_Outcome_CONFORMS, .unset, .unset, .unset, .unset] [(.int (1 : Int32)), (.int (1 : Int32))])) _
    refine XS.icmpNo X3.here hx rfl (hb hby at_62) rfl (teq (by decide +kernel : (1 : Int32) = (1 : Int32))).2 ?_
    show Steps p.tables e below (T3.setTop (mkF m 65 #[iv p0, iv p1, iv (1 : Int32), iv (1 : Int32), rv w_Outcome_CONFORMS, rv w_Outcome_CONFORMS, .unset, .unset, .unset, .unset] [])) _
    refine XS.aload X3.here hx rfl (hb hby at_65) rfl rfl ?_
    show Steps p.tables e below (T3.setTop (mkF m 67 #[iv p0, iv p1, iv (1 : Int32), iv (1 : Int32), rv w_Outcome_CONFORMS, rv w_Outcome_CONFORMS, .unset, .unset, .unset, .unset] [(.ref w_Outcome_CONFORMS)])) _
    refine st4 _ ?_
    show Steps p.tables e below (T4.setTop (mkF m 70 #[iv p0, iv p1, iv (1 : Int32), iv (1 : Int32), rv w_Outcome_CONFORMS, rv w_Outcome_CONFORMS, .unset, .unset, .unset, .unset] [(.ref w_Outcome_VIOLATES), (.ref w_Outcome_CONFORMS)])) _
    refine Jvm.RoadKit.acmp (g := (mkF m 70 #[iv p0, iv p1, iv (1 : Int32), iv (1 : Int32), rv w_Outcome_CONFORMS, rv w_Outcome_CONFORMS, .unset, .unset, .unset, .unset] [(.ref w_Outcome_VIOLATES), (.ref w_Outcome_CONFORMS)])) X4 hx rfl rfl rfl (pc0 := 70) (pc' := 77) (same := false) rfl (hb hby at_70) rfl (decide_eq_false fun q => ne_w_Outcome_CONFORMS_w_Outcome_VIOLATES (Value.ref.inj q)) (by decide) (by decide) ?_
    show Steps p.tables e below (T4.setTop (mkF m 77 #[iv p0, iv p1, iv (1 : Int32), iv (1 : Int32), rv w_Outcome_CONFORMS, rv w_Outcome_CONFORMS, .unset, .unset, .unset, .unset] [])) _
    refine XS.iconst X4.here hx rfl (hb hby at_77) ?_
    show Steps p.tables e below (T4.setTop (mkF m 78 #[iv p0, iv p1, iv (1 : Int32), iv (1 : Int32), rv w_Outcome_CONFORMS, rv w_Outcome_CONFORMS, .unset, .unset, .unset, .unset] [(.int (0 : Int32))])) _
    refine XS.iloadN X4.here hx rfl (hb hby at_78) rfl ?_
    show Steps p.tables e below (T4.setTop (mkF m 79 #[iv p0, iv p1, iv (1 : Int32), iv (1 : Int32), rv w_Outcome_CONFORMS, rv w_Outcome_CONFORMS, .unset, .unset, .unset, .unset] [(.int (1 : Int32)), (.int (0 : Int32))])) _
    refine XS.ifYes X4.here hx rfl (pc0 := 79) (pc' := 86) rfl (hb hby at_79) rfl ((if0 _ _).trans (feq (by decide +kernel : ¬ ((1 : Int32) = (0 : Int32)))).2) (by decide) (by decide) ?_
    show Steps p.tables e below (T4.setTop (mkF m 86 #[iv p0, iv p1, iv (1 : Int32), iv (1 : Int32), rv w_Outcome_CONFORMS, rv w_Outcome_CONFORMS, .unset, .unset, .unset, .unset] [(.int (0 : Int32))])) _
    refine XS.iconst X4.here hx rfl (hb hby at_86) ?_
    show Steps p.tables e below (T4.setTop (mkF m 87 #[iv p0, iv p1, iv (1 : Int32), iv (1 : Int32), rv w_Outcome_CONFORMS, rv w_Outcome_CONFORMS, .unset, .unset, .unset, .unset] [(.int (0 : Int32)), (.int (0 : Int32))])) _
    refine XS.icmpNo X4.here hx rfl (hb hby at_87) rfl (teq (by decide +kernel : (0 : Int32) = (0 : Int32))).2 ?_
    show Steps p.tables e below (T4.setTop (mkF m 90 #[iv p0, iv p1, iv (1 : Int32), iv (1 : Int32), rv w_Outcome_CONFORMS, rv w_Outcome_CONFORMS, .unset, .unset, .unset, .unset] [])) _
    refine XS.iconst X4.here hx rfl (hb hby at_90) ?_
    show Steps p.tables e below (T4.setTop (mkF m 91 #[iv p0, iv p1, iv (1 : Int32), iv (1 : Int32), rv w_Outcome_CONFORMS, rv w_Outcome_CONFORMS, .unset, .unset, .unset, .unset] [(.int (1 : Int32))])) _
    refine XS.goto X4.here hx rfl (pc0 := 91) (pc' := 95) rfl (hb hby at_91) (by decide) (by decide) ?_
    show Steps p.tables e below (T4.setTop (mkF m 95 #[iv p0, iv p1, iv (1 : Int32), iv (1 : Int32), rv w_Outcome_CONFORMS, rv w_Outcome_CONFORMS, .unset, .unset, .unset, .unset] [(.int (1 : Int32))])) _
    refine XS.istore X4.here hx rfl (hb hby at_95) rfl (l' := #[iv p0, iv p1, iv (1 : Int32), iv (1 : Int32), rv w_Outcome_CONFORMS, rv w_Outcome_CONFORMS, iv (1 : Int32), .unset, .unset, .unset]) rfl ?_
    show Steps p.tables e below (T4.setTop (mkF m 97 #[iv p0, iv p1, iv (1 : Int32), iv (1 : Int32), rv w_Outcome_CONFORMS, rv w_Outcome_CONFORMS, iv (1 : Int32), .unset, .unset, .unset] [])) _
    refine XS.aload X4.here hx rfl (hb hby at_97) rfl rfl ?_
    show Steps p.tables e below (T4.setTop (mkF m 99 #[iv p0, iv p1, iv (1 : Int32), iv (1 : Int32), rv w_Outcome_CONFORMS, rv w_Outcome_CONFORMS, iv (1 : Int32), .unset, .unset, .unset] [(.ref w_Outcome_CONFORMS)])) _
    refine st5 _ ?_
    show Steps p.tables e below (T5.setTop (mkF m 102 #[iv p0, iv p1, iv (1 : Int32), iv (1 : Int32), rv w_Outcome_CONFORMS, rv w_Outcome_CONFORMS, iv (1 : Int32), .unset, .unset, .unset] [(.ref w_Outcome_UNDETERMINED), (.ref w_Outcome_CONFORMS)])) _
    refine Jvm.RoadKit.acmp (g := (mkF m 102 #[iv p0, iv p1, iv (1 : Int32), iv (1 : Int32), rv w_Outcome_CONFORMS, rv w_Outcome_CONFORMS, iv (1 : Int32), .unset, .unset, .unset] [(.ref w_Outcome_UNDETERMINED), (.ref w_Outcome_CONFORMS)])) X5 hx rfl rfl rfl (pc0 := 102) (pc' := 105) (same := false) rfl (hb hby at_102) rfl (decide_eq_false fun q => ne_w_Outcome_CONFORMS_w_Outcome_UNDETERMINED (Value.ref.inj q)) (by decide) (by decide) ?_
    show Steps p.tables e below (T5.setTop (mkF m 105 #[iv p0, iv p1, iv (1 : Int32), iv (1 : Int32), rv w_Outcome_CONFORMS, rv w_Outcome_CONFORMS, iv (1 : Int32), .unset, .unset, .unset] [])) _
    refine XS.iconst X5.here hx rfl (hb hby at_105) ?_
    show Steps p.tables e below (T5.setTop (mkF m 106 #[iv p0, iv p1, iv (1 : Int32), iv (1 : Int32), rv w_Outcome_CONFORMS, rv w_Outcome_CONFORMS, iv (1 : Int32), .unset, .unset, .unset] [(.int (1 : Int32))])) _
    refine XS.goto X5.here hx rfl (pc0 := 106) (pc' := 110) rfl (hb hby at_106) (by decide) (by decide) ?_
    show Steps p.tables e below (T5.setTop (mkF m 110 #[iv p0, iv p1, iv (1 : Int32), iv (1 : Int32), rv w_Outcome_CONFORMS, rv w_Outcome_CONFORMS, iv (1 : Int32), .unset, .unset, .unset] [(.int (1 : Int32))])) _
    refine XS.istore X5.here hx rfl (hb hby at_110) rfl (l' := #[iv p0, iv p1, iv (1 : Int32), iv (1 : Int32), rv w_Outcome_CONFORMS, rv w_Outcome_CONFORMS, iv (1 : Int32), iv (1 : Int32), .unset, .unset]) rfl ?_
    show Steps p.tables e below (T5.setTop (mkF m 112 #[iv p0, iv p1, iv (1 : Int32), iv (1 : Int32), rv w_Outcome_CONFORMS, rv w_Outcome_CONFORMS, iv (1 : Int32), iv (1 : Int32), .unset, .unset] [])) _
    refine XS.aload X5.here hx rfl (hb hby at_112) rfl rfl ?_
    show Steps p.tables e below (T5.setTop (mkF m 114 #[iv p0, iv p1, iv (1 : Int32), iv (1 : Int32), rv w_Outcome_CONFORMS, rv w_Outcome_CONFORMS, iv (1 : Int32), iv (1 : Int32), .unset, .unset] [(.ref w_Outcome_CONFORMS)])) _
    refine st6.trans ?_
    show Steps p.tables e below (T6.setTop (mkF m 117 #[iv p0, iv p1, iv (1 : Int32), iv (1 : Int32), rv w_Outcome_CONFORMS, rv w_Outcome_CONFORMS, iv (1 : Int32), iv (1 : Int32), .unset, .unset] [(.ref w_Outcome_VIOLATES)])) _
    refine XS.iloadN X6.here hx rfl (hb hby at_117) rfl ?_
    show Steps p.tables e below (T6.setTop (mkF m 118 #[iv p0, iv p1, iv (1 : Int32), iv (1 : Int32), rv w_Outcome_CONFORMS, rv w_Outcome_CONFORMS, iv (1 : Int32), iv (1 : Int32), .unset, .unset] [(.int (1 : Int32)), (.ref w_Outcome_VIOLATES)])) _
    refine XS.ifYes X6.here hx rfl (pc0 := 118) (pc' := 125) rfl (hb hby at_118) rfl ((if0 _ _).trans (feq (by decide +kernel : ¬ ((1 : Int32) = (0 : Int32)))).2) (by decide) (by decide) ?_
    show Steps p.tables e below (T6.setTop (mkF m 125 #[iv p0, iv p1, iv (1 : Int32), iv (1 : Int32), rv w_Outcome_CONFORMS, rv w_Outcome_CONFORMS, iv (1 : Int32), iv (1 : Int32), .unset, .unset] [(.ref w_Outcome_VIOLATES)])) _
    refine XS.iconst X6.here hx rfl (hb hby at_125) ?_
    show Steps p.tables e below (T6.setTop (mkF m 126 #[iv p0, iv p1, iv (1 : Int32), iv (1 : Int32), rv w_Outcome_CONFORMS, rv w_Outcome_CONFORMS, iv (1 : Int32), iv (1 : Int32), .unset, .unset] [(.int (0 : Int32)), (.ref w_Outcome_VIOLATES)])) _
    refine st7 _ ?_
    show Steps p.tables e below (T7.setTop (mkF m 129 #[iv p0, iv p1, iv (1 : Int32), iv (1 : Int32), rv w_Outcome_CONFORMS, rv w_Outcome_CONFORMS, iv (1 : Int32), iv (1 : Int32), .unset, .unset] [(.ref w_Outcome_VIOLATES), (.ref w_Outcome_VIOLATES)])) _
    refine Jvm.RoadKit.acmp (g := (mkF m 129 #[iv p0, iv p1, iv (1 : Int32), iv (1 : Int32), rv w_Outcome_CONFORMS, rv w_Outcome_CONFORMS, iv (1 : Int32), iv (1 : Int32), .unset, .unset] [(.ref w_Outcome_VIOLATES), (.ref w_Outcome_VIOLATES)])) X7 hx rfl rfl rfl (pc0 := 129) (pc' := 132) (same := true) rfl (hb hby at_129) rfl (decide_eq_true rfl) (by decide) (by decide) ?_
    show Steps p.tables e below (T7.setTop (mkF m 132 #[iv p0, iv p1, iv (1 : Int32), iv (1 : Int32), rv w_Outcome_CONFORMS, rv w_Outcome_CONFORMS, iv (1 : Int32), iv (1 : Int32), .unset, .unset] [])) _
    refine XS.iconst X7.here hx rfl (hb hby at_132) ?_
    show Steps p.tables e below (T7.setTop (mkF m 133 #[iv p0, iv p1, iv (1 : Int32), iv (1 : Int32), rv w_Outcome_CONFORMS, rv w_Outcome_CONFORMS, iv (1 : Int32), iv (1 : Int32), .unset, .unset] [(.int (1 : Int32))])) _
    refine XS.goto X7.here hx rfl (pc0 := 133) (pc' := 137) rfl (hb hby at_133) (by decide) (by decide) ?_
    show Steps p.tables e below (T7.setTop (mkF m 137 #[iv p0, iv p1, iv (1 : Int32), iv (1 : Int32), rv w_Outcome_CONFORMS, rv w_Outcome_CONFORMS, iv (1 : Int32), iv (1 : Int32), .unset, .unset] [(.int (1 : Int32))])) _
    refine XS.istore X7.here hx rfl (hb hby at_137) rfl (l' := #[iv p0, iv p1, iv (1 : Int32), iv (1 : Int32), rv w_Outcome_CONFORMS, rv w_Outcome_CONFORMS, iv (1 : Int32), iv (1 : Int32), iv (1 : Int32), .unset]) rfl ?_
    show Steps p.tables e below (T7.setTop (mkF m 139 #[iv p0, iv p1, iv (1 : Int32), iv (1 : Int32), rv w_Outcome_CONFORMS, rv w_Outcome_CONFORMS, iv (1 : Int32), iv (1 : Int32), iv (1 : Int32), .unset] [])) _
    refine XS.aload X7.here hx rfl (hb hby at_139) rfl rfl ?_
    show Steps p.tables e below (T7.setTop (mkF m 141 #[iv p0, iv p1, iv (1 : Int32), iv (1 : Int32), rv w_Outcome_CONFORMS, rv w_Outcome_CONFORMS, iv (1 : Int32), iv (1 : Int32), iv (1 : Int32), .unset] [(.ref w_Outcome_CONFORMS)])) _
    refine XS.aload X7.here hx rfl (hb hby at_141) rfl rfl ?_
    show Steps p.tables e below (T7.setTop (mkF m 143 #[iv p0, iv p1, iv (1 : Int32), iv (1 : Int32), rv w_Outcome_CONFORMS, rv w_Outcome_CONFORMS, iv (1 : Int32), iv (1 : Int32), iv (1 : Int32), .unset] [(.ref w_Outcome_CONFORMS), (.ref w_Outcome_CONFORMS)])) _
    refine st8.trans ?_
    show Steps p.tables e below (T8.setTop (mkF m 146 #[iv p0, iv p1, iv (1 : Int32), iv (1 : Int32), rv w_Outcome_CONFORMS, rv w_Outcome_CONFORMS, iv (1 : Int32), iv (1 : Int32), iv (1 : Int32), .unset] [(.ref w_Outcome_CONFORMS)])) _
    refine XS.iloadN X8.here hx rfl (hb hby at_146) rfl ?_
    show Steps p.tables e below (T8.setTop (mkF m 147 #[iv p0, iv p1, iv (1 : Int32), iv (1 : Int32), rv w_Outcome_CONFORMS, rv w_Outcome_CONFORMS, iv (1 : Int32), iv (1 : Int32), iv (1 : Int32), .unset] [(.int (1 : Int32)), (.ref w_Outcome_CONFORMS)])) _
    refine XS.ifNo X8.here hx rfl (hb hby at_147) rfl ((if0 _ _).trans (feq (by decide +kernel : ¬ ((1 : Int32) = (0 : Int32)))).1) ?_
    show Steps p.tables e below (T8.setTop (mkF m 150 #[iv p0, iv p1, iv (1 : Int32), iv (1 : Int32), rv w_Outcome_CONFORMS, rv w_Outcome_CONFORMS, iv (1 : Int32), iv (1 : Int32), iv (1 : Int32), .unset] [(.ref w_Outcome_CONFORMS)])) _
    refine XS.iloadN X8.here hx rfl (hb hby at_150) rfl ?_
    show Steps p.tables e below (T8.setTop (mkF m 151 #[iv p0, iv p1, iv (1 : Int32), iv (1 : Int32), rv w_Outcome_CONFORMS, rv w_Outcome_CONFORMS, iv (1 : Int32), iv (1 : Int32), iv (1 : Int32), .unset] [(.int (1 : Int32)), (.ref w_Outcome_CONFORMS)])) _
    refine XS.ifNo X8.here hx rfl (hb hby at_151) rfl ((if0 _ _).trans (feq (by decide +kernel : ¬ ((1 : Int32) = (0 : Int32)))).1) ?_
    show Steps p.tables e below (T8.setTop (mkF m 154 #[iv p0, iv p1, iv (1 : Int32), iv (1 : Int32), rv w_Outcome_CONFORMS, rv w_Outcome_CONFORMS, iv (1 : Int32), iv (1 : Int32), iv (1 : Int32), .unset] [(.ref w_Outcome_CONFORMS)])) _
    refine XS.iconst X8.here hx rfl (hb hby at_154) ?_
    show Steps p.tables e below (T8.setTop (mkF m 155 #[iv p0, iv p1, iv (1 : Int32), iv (1 : Int32), rv w_Outcome_CONFORMS, rv w_Outcome_CONFORMS, iv (1 : Int32), iv (1 : Int32), iv (1 : Int32), .unset] [(.int (1 : Int32)), (.ref w_Outcome_CONFORMS)])) _
    refine XS.goto X8.here hx rfl (pc0 := 155) (pc' := 159) rfl (hb hby at_155) (by decide) (by decide) ?_
    show Steps p.tables e below (T8.setTop (mkF m 159 #[iv p0, iv p1, iv (1 : Int32), iv (1 : Int32), rv w_Outcome_CONFORMS, rv w_Outcome_CONFORMS, iv (1 : Int32), iv (1 : Int32), iv (1 : Int32), .unset] [(.int (1 : Int32)), (.ref w_Outcome_CONFORMS)])) _
    refine st9 _ ?_
    show Steps p.tables e below (T9.setTop (mkF m 162 #[iv p0, iv p1, iv (1 : Int32), iv (1 : Int32), rv w_Outcome_CONFORMS, rv w_Outcome_CONFORMS, iv (1 : Int32), iv (1 : Int32), iv (1 : Int32), .unset] [(.ref w_Outcome_CONFORMS), (.ref w_Outcome_CONFORMS)])) _
    refine Jvm.RoadKit.acmp (g := (mkF m 162 #[iv p0, iv p1, iv (1 : Int32), iv (1 : Int32), rv w_Outcome_CONFORMS, rv w_Outcome_CONFORMS, iv (1 : Int32), iv (1 : Int32), iv (1 : Int32), .unset] [(.ref w_Outcome_CONFORMS), (.ref w_Outcome_CONFORMS)])) X9 hx rfl rfl rfl (pc0 := 162) (pc' := 165) (same := true) rfl (hb hby at_162) rfl (decide_eq_true rfl) (by decide) (by decide) ?_
    show Steps p.tables e below (T9.setTop (mkF m 165 #[iv p0, iv p1, iv (1 : Int32), iv (1 : Int32), rv w_Outcome_CONFORMS, rv w_Outcome_CONFORMS, iv (1 : Int32), iv (1 : Int32), iv (1 : Int32), .unset] [])) _
    refine XS.iconst X9.here hx rfl (hb hby at_165) ?_
    show Steps p.tables e below (T9.setTop (mkF m 166 #[iv p0, iv p1, iv (1 : Int32), iv (1 : Int32), rv w_Outcome_CONFORMS, rv w_Outcome_CONFORMS, iv (1 : Int32), iv (1 : Int32), iv (1 : Int32), .unset] [(.int (1 : Int32))])) _
    refine XS.goto X9.here hx rfl (pc0 := 166) (pc' := 170) rfl (hb hby at_166) (by decide) (by decide) ?_
    show Steps p.tables e below (T9.setTop (mkF m 170 #[iv p0, iv p1, iv (1 : Int32), iv (1 : Int32), rv w_Outcome_CONFORMS, rv w_Outcome_CONFORMS, iv (1 : Int32), iv (1 : Int32), iv (1 : Int32), .unset] [(.int (1 : Int32))])) _
    refine XS.istore X9.here hx rfl (hb hby at_170) rfl (l' := #[iv p0, iv p1, iv (1 : Int32), iv (1 : Int32), rv w_Outcome_CONFORMS, rv w_Outcome_CONFORMS, iv (1 : Int32), iv (1 : Int32), iv (1 : Int32), iv (1 : Int32)]) rfl ?_
    show Steps p.tables e below (T9.setTop (mkF m 172 #[iv p0, iv p1, iv (1 : Int32), iv (1 : Int32), rv w_Outcome_CONFORMS, rv w_Outcome_CONFORMS, iv (1 : Int32), iv (1 : Int32), iv (1 : Int32), iv (1 : Int32)] [])) _
    refine XS.iload X9.here hx rfl (hb hby at_172) rfl ?_
    show Steps p.tables e below (T9.setTop (mkF m 174 #[iv p0, iv p1, iv (1 : Int32), iv (1 : Int32), rv w_Outcome_CONFORMS, rv w_Outcome_CONFORMS, iv (1 : Int32), iv (1 : Int32), iv (1 : Int32), iv (1 : Int32)] [(.int (1 : Int32))])) _
    refine XS.ifNo X9.here hx rfl (hb hby at_174) rfl ((if0 _ _).trans (feq (by decide +kernel : ¬ ((1 : Int32) = (0 : Int32)))).1) ?_
    show Steps p.tables e below (T9.setTop (mkF m 177 #[iv p0, iv p1, iv (1 : Int32), iv (1 : Int32), rv w_Outcome_CONFORMS, rv w_Outcome_CONFORMS, iv (1 : Int32), iv (1 : Int32), iv (1 : Int32), iv (1 : Int32)] [])) _
    refine XS.iload X9.here hx rfl (hb hby at_177) rfl ?_
    show Steps p.tables e below (T9.setTop (mkF m 179 #[iv p0, iv p1, iv (1 : Int32), iv (1 : Int32), rv w_Outcome_CONFORMS, rv w_Outcome_CONFORMS, iv (1 : Int32), iv (1 : Int32), iv (1 : Int32), iv (1 : Int32)] [(.int (1 : Int32))])) _
    refine XS.ifNo X9.here hx rfl (hb hby at_179) rfl ((if0 _ _).trans (feq (by decide +kernel : ¬ ((1 : Int32) = (0 : Int32)))).1) ?_
    show Steps p.tables e below (T9.setTop (mkF m 182 #[iv p0, iv p1, iv (1 : Int32), iv (1 : Int32), rv w_Outcome_CONFORMS, rv w_Outcome_CONFORMS, iv (1 : Int32), iv (1 : Int32), iv (1 : Int32), iv (1 : Int32)] [])) _
    refine XS.iload X9.here hx rfl (hb hby at_182) rfl ?_
    show Steps p.tables e below (T9.setTop (mkF m 184 #[iv p0, iv p1, iv (1 : Int32), iv (1 : Int32), rv w_Outcome_CONFORMS, rv w_Outcome_CONFORMS, iv (1 : Int32), iv (1 : Int32), iv (1 : Int32), iv (1 : Int32)] [(.int (1 : Int32))])) _
    refine XS.ifNo X9.here hx rfl (hb hby at_184) rfl ((if0 _ _).trans (feq (by decide +kernel : ¬ ((1 : Int32) = (0 : Int32)))).1) ?_
    show Steps p.tables e below (T9.setTop (mkF m 187 #[iv p0, iv p1, iv (1 : Int32), iv (1 : Int32), rv w_Outcome_CONFORMS, rv w_Outcome_CONFORMS, iv (1 : Int32), iv (1 : Int32), iv (1 : Int32), iv (1 : Int32)] [])) _
    refine XS.iload X9.here hx rfl (hb hby at_187) rfl ?_
    show Steps p.tables e below (T9.setTop (mkF m 189 #[iv p0, iv p1, iv (1 : Int32), iv (1 : Int32), rv w_Outcome_CONFORMS, rv w_Outcome_CONFORMS, iv (1 : Int32), iv (1 : Int32), iv (1 : Int32), iv (1 : Int32)] [(.int (1 : Int32))])) _
    refine XS.ifNo X9.here hx rfl (hb hby at_189) rfl ((if0 _ _).trans (feq (by decide +kernel : ¬ ((1 : Int32) = (0 : Int32)))).1) ?_
    show Steps p.tables e below (T9.setTop (mkF m 192 #[iv p0, iv p1, iv (1 : Int32), iv (1 : Int32), rv w_Outcome_CONFORMS, rv w_Outcome_CONFORMS, iv (1 : Int32), iv (1 : Int32), iv (1 : Int32), iv (1 : Int32)] [])) _
    refine XS.iconst X9.here hx rfl (hb hby at_192) ?_
    show Steps p.tables e below (T9.setTop (mkF m 193 #[iv p0, iv p1, iv (1 : Int32), iv (1 : Int32), rv w_Outcome_CONFORMS, rv w_Outcome_CONFORMS, iv (1 : Int32), iv (1 : Int32), iv (1 : Int32), iv (1 : Int32)] [(.int (1 : Int32))])) _
    refine XS.goto X9.here hx rfl (pc0 := 193) (pc' := 197) rfl (hb hby at_193) (by decide) (by decide) ?_
    show Steps p.tables e below (T9.setTop (mkF m 197 #[iv p0, iv p1, iv (1 : Int32), iv (1 : Int32), rv w_Outcome_CONFORMS, rv w_Outcome_CONFORMS, iv (1 : Int32), iv (1 : Int32), iv (1 : Int32), iv (1 : Int32)] [(.int (1 : Int32))])) _
    exact retN X9 hx (t := .boolean) Bd.returns (by simp) (hb hby at_197) hr
  · exact ⟨rfl, N9⟩
theorem rm0 (l : Launch) (Z : State) (a0 : Array Value) (hw : ∀ d ∈ tables_1, d.before a0 Z = true) (ws : List Jvm.Cond) (p0 : Int32) (p1 : Int32) (w_Outcome_VIOLATES : Addr) (w_Outcome_CONFORMS : Addr) (w_Outcome_UNDETERMINED : Addr) (mr_Outcome : Addr) (h0 : Heap) (n0 : Nat) (Z0 : n0 ≤ h0.size) (S_Outcome_VIOLATES : Sta Z h0 "com/example/shapewell/shapewell/Outcome" "VIOLATES" "Lcom/example/shapewell/shapewell/Outcome;" (.ref w_Outcome_VIOLATES)) (S_Outcome_CONFORMS : Sta Z h0 "com/example/shapewell/shapewell/Outcome" "CONFORMS" "Lcom/example/shapewell/shapewell/Outcome;" (.ref w_Outcome_CONFORMS)) (ne_w_Outcome_CONFORMS_w_Outcome_VIOLATES : ¬ (w_Outcome_CONFORMS = w_Outcome_VIOLATES)) (S_Outcome_UNDETERMINED : Sta Z h0 "com/example/shapewell/shapewell/Outcome" "UNDETERMINED" "Lcom/example/shapewell/shapewell/Outcome;" (.ref w_Outcome_UNDETERMINED)) (ne_w_Outcome_UNDETERMINED_w_Outcome_VIOLATES : ¬ (w_Outcome_UNDETERMINED = w_Outcome_VIOLATES)) (F_w_Outcome_VIOLATES_ordinal : Fld Z h0 w_Outcome_VIOLATES "java/lang/Enum" "ordinal" "I" (.int (0 : Int32))) (E_w_Outcome_VIOLATES : Exa Z h0 w_Outcome_VIOLATES "com/example/shapewell/shapewell/Outcome") (M_mr_Outcome : own_Mir Z "com/example/shapewell/shapewell/Outcome" mr_Outcome) (E_w_Outcome_CONFORMS : Exa Z h0 w_Outcome_CONFORMS "com/example/shapewell/shapewell/Outcome") (F_w_Outcome_CONFORMS_ordinal : Fld Z h0 w_Outcome_CONFORMS "java/lang/Enum" "ordinal" "I" (.int (2 : Int32))) (ne_w_Outcome_CONFORMS_w_Outcome_UNDETERMINED : ¬ (w_Outcome_CONFORMS = w_Outcome_UNDETERMINED)) :
    MetFree l x (head1 (Jvm.Cond.code x code maxLocals ret :: ws) room_1) (fun a U => a = #[(.int p0), (.int p1)] ∧ Z.Warmed39 U.vm ∧ U.heap = h0) (fun _ _ _ _ _ => True) (fun _ U o U' => ∃ v L, o = .returned v ∧ own_QL n0 v U'.heap L ∧ FrameEnd U o U' L room_1.cells room_1.slots) := by
  rcases own_s0 p0 with hk0 | hk0
  · rcases own_s0 p1 with hk1 | hk1
    · exact rm0_0 l Z a0 hw ws p0 p1 w_Outcome_VIOLATES w_Outcome_CONFORMS w_Outcome_UNDETERMINED mr_Outcome h0 n0 Z0 hk0 hk1 S_Outcome_VIOLATES S_Outcome_CONFORMS ne_w_Outcome_CONFORMS_w_Outcome_VIOLATES S_Outcome_UNDETERMINED ne_w_Outcome_UNDETERMINED_w_Outcome_VIOLATES F_w_Outcome_VIOLATES_ordinal E_w_Outcome_VIOLATES M_mr_Outcome
    · exact rm0_1 l Z a0 hw ws p0 p1 w_Outcome_VIOLATES w_Outcome_CONFORMS w_Outcome_UNDETERMINED mr_Outcome h0 n0 Z0 hk0 hk1 S_Outcome_VIOLATES S_Outcome_CONFORMS ne_w_Outcome_CONFORMS_w_Outcome_VIOLATES S_Outcome_UNDETERMINED ne_w_Outcome_UNDETERMINED_w_Outcome_VIOLATES F_w_Outcome_VIOLATES_ordinal E_w_Outcome_VIOLATES M_mr_Outcome E_w_Outcome_CONFORMS F_w_Outcome_CONFORMS_ordinal
  · rcases own_s0 p1 with hk1 | hk1
    · exact rm0_2 l Z a0 hw ws p0 p1 w_Outcome_VIOLATES w_Outcome_CONFORMS w_Outcome_UNDETERMINED mr_Outcome h0 n0 Z0 hk0 hk1 S_Outcome_CONFORMS S_Outcome_VIOLATES ne_w_Outcome_CONFORMS_w_Outcome_VIOLATES S_Outcome_UNDETERMINED ne_w_Outcome_CONFORMS_w_Outcome_UNDETERMINED F_w_Outcome_CONFORMS_ordinal E_w_Outcome_CONFORMS M_mr_Outcome E_w_Outcome_VIOLATES F_w_Outcome_VIOLATES_ordinal
    · exact rm0_3 l Z a0 hw ws p0 p1 w_Outcome_VIOLATES w_Outcome_CONFORMS w_Outcome_UNDETERMINED mr_Outcome h0 n0 Z0 hk0 hk1 S_Outcome_CONFORMS S_Outcome_VIOLATES ne_w_Outcome_CONFORMS_w_Outcome_VIOLATES S_Outcome_UNDETERMINED ne_w_Outcome_CONFORMS_w_Outcome_UNDETERMINED F_w_Outcome_CONFORMS_ordinal E_w_Outcome_CONFORMS M_mr_Outcome
set_option maxRecDepth 65536 in
set_option maxHeartbeats 40000000 in
theorem comes_1 {Post : Tables → Env → Array Value → State → Outcome → State → Prop} (hpost : ∀ tb e args s v u, (limb_1_1.after args s (.returned v) u = true ∧ limb_1_2.after args s (.returned v) u = true ∧ True) → FrameEnd s (.returned v) u (Jvm.fieldLocs frame_1_writes args s ++ Jvm.arrayLocs frame_1_arrays args s ++ Jvm.staticLocs frame_1_statics s) 0 0 → Post tb e args s (.returned v) u) :
    ArmFor flags0 classFile x code maxLocals ret World_1 tables_1 room_1 Calls_1 rest_1 Pre_1 Post := by
  intro l hfl _ _ p e ha hc hk s m args below hf hA hF happ hP
  obtain ⟨hcalls, hrest, hpre⟩ := hP
  obtain ⟨-, -, -, hnamed, -, -, -, hat⟩ := (Spec.applies_iff hf).mp happ
  obtain ⟨hg, hn⟩ := and_e (Cond.before_iff.mp (show (Jvm.Cond.and given_1 narrow_1).before args s = true from hpre))
  obtain ⟨g0, g0r⟩ := and_e hg
  obtain ⟨g1, g1r⟩ := and_e g0r
  obtain ⟨v0, v1, rfl⟩ : ∃ v0 v1 : Value, args = #[v0, v1] := by
    have hs : args.size = 2 := by simpa [Cond.value, given_1] using g0
    obtain ⟨L⟩ := args
    match L, hs with
    | [v0, v1], _ => exact ⟨v0, v1, rfl⟩
  have hw := fun d (hd : d ∈ tables_1) => atoms_spec (ws := Jvm.Cond.code x code maxLocals ret :: tables_1) hat d (List.mem_cons_of_mem _ hd)
  have hfit : Fit s := fun {y c} hc i hi => by
    obtain ⟨ha, rfl⟩ := Array.getElem?_eq_some_iff.mp hc
    have q := List.all_eq_true.mp ((Array.all_eq_true_iff_forall_mem.mp hF) _ (Array.getElem_mem ha)) i (List.mem_range.mpr hi)
    simpa [Array.getElem?_eq_getElem hi] using q
  obtain ⟨p0, ei0⟩ := is_v g1
  obtain rfl : v0 = (.int p0) := Option.some.inj ei0
  obtain ⟨p1, ei1⟩ := is_v g1r
  obtain rfl : v1 = (.int p1) := Option.some.inj ei1
  obtain ⟨n0, n0r⟩ := and_e hn
  obtain ⟨n1, n1r⟩ := and_e n0r
  obtain ⟨n2, n2r⟩ := and_e n1r
  obtain ⟨n3, n3r⟩ := and_e n2r
  obtain ⟨n4, n4r⟩ := and_e n3r
  obtain ⟨w_Outcome_VIOLATES, ev_w_Outcome_VIOLATES⟩ := exa_v n0
  have S_Outcome_VIOLATES : Sta s s.heap "com/example/shapewell/shapewell/Outcome" "VIOLATES" "Lcom/example/shapewell/shapewell/Outcome;" (.ref w_Outcome_VIOLATES) := Sta.start ev_w_Outcome_VIOLATES (Or.inr ⟨(hw _ (List.mem_of_getElem? (i := 2) rfl)), (hw _ (List.mem_of_getElem? (i := 5) rfl))⟩)
  have E_w_Outcome_VIOLATES : Exa s s.heap w_Outcome_VIOLATES "com/example/shapewell/shapewell/Outcome" := Exa.start ev_w_Outcome_VIOLATES n0
  obtain ⟨w_Outcome_CONFORMS, ev_w_Outcome_CONFORMS⟩ := exa_v n1
  have S_Outcome_CONFORMS : Sta s s.heap "com/example/shapewell/shapewell/Outcome" "CONFORMS" "Lcom/example/shapewell/shapewell/Outcome;" (.ref w_Outcome_CONFORMS) := Sta.start ev_w_Outcome_CONFORMS (Or.inr ⟨(hw _ (List.mem_of_getElem? (i := 2) rfl)), (hw _ (List.mem_of_getElem? (i := 7) rfl))⟩)
  have E_w_Outcome_CONFORMS : Exa s s.heap w_Outcome_CONFORMS "com/example/shapewell/shapewell/Outcome" := Exa.start ev_w_Outcome_CONFORMS n1
  obtain ⟨w_Outcome_UNDETERMINED, ev_w_Outcome_UNDETERMINED⟩ := exa_v n4
  have S_Outcome_UNDETERMINED : Sta s s.heap "com/example/shapewell/shapewell/Outcome" "UNDETERMINED" "Lcom/example/shapewell/shapewell/Outcome;" (.ref w_Outcome_UNDETERMINED) := Sta.start ev_w_Outcome_UNDETERMINED (Or.inr ⟨(hw _ (List.mem_of_getElem? (i := 2) rfl)), (hw _ (List.mem_of_getElem? (i := 11) rfl))⟩)
  have E_w_Outcome_UNDETERMINED : Exa s s.heap w_Outcome_UNDETERMINED "com/example/shapewell/shapewell/Outcome" := Exa.start ev_w_Outcome_UNDETERMINED n4
  obtain ⟨mc0, mk0, mr_Outcome, ma0, mb0, mm0, -⟩ := hcalls.1
  have M_mr_Outcome : own_Mir s "com/example/shapewell/shapewell/Outcome" mr_Outcome := ⟨mc0, mk0, ma0, mb0, mm0⟩
  have F_w_Outcome_VIOLATES_ordinal : Fld s s.heap w_Outcome_VIOLATES "java/lang/Enum" "ordinal" "I" (.int (0 : Int32)) := Fld.start ((fld_at ev_w_Outcome_VIOLATES).symm.trans (own_eqv n2 (Term.int_eval _) (Or.inr ⟨_, rfl⟩)))
  have F_w_Outcome_CONFORMS_ordinal : Fld s s.heap w_Outcome_CONFORMS "java/lang/Enum" "ordinal" "I" (.int (2 : Int32)) := Fld.start ((fld_at ev_w_Outcome_CONFORMS).symm.trans (own_eqv n3 (Term.int_eval _) (Or.inr ⟨_, rfl⟩)))
  have F_w_Outcome_UNDETERMINED_ordinal : Fld s s.heap w_Outcome_UNDETERMINED "java/lang/Enum" "ordinal" "I" (.int (1 : Int32)) := Fld.start ((fld_at ev_w_Outcome_UNDETERMINED).symm.trans (own_eqv n4r (Term.int_eval _) (Or.inr ⟨_, rfl⟩)))
  obtain ⟨n, o, h1, h2, h3, _, L, rfl, ⟨rfl, N⟩, hq⟩ := rm0 l s _ hw tables_1 p0 p1 w_Outcome_VIOLATES w_Outcome_CONFORMS w_Outcome_UNDETERMINED mr_Outcome s.heap s.heap.size (Nat.le_refl _) S_Outcome_VIOLATES S_Outcome_CONFORMS (Ne.symm (Fld.ne F_w_Outcome_VIOLATES_ordinal F_w_Outcome_CONFORMS_ordinal (own_nei (by decide +kernel)))) S_Outcome_UNDETERMINED (Ne.symm (Fld.ne F_w_Outcome_VIOLATES_ordinal F_w_Outcome_UNDETERMINED_ordinal (own_nei (by decide +kernel)))) F_w_Outcome_VIOLATES_ordinal E_w_Outcome_VIOLATES M_mr_Outcome E_w_Outcome_CONFORMS F_w_Outcome_CONFORMS_ordinal (Fld.ne F_w_Outcome_CONFORMS_ordinal F_w_Outcome_UNDETERMINED_ordinal (own_nei (by decide +kernel))) p e ha hc hk s m _ below hf ((Spec.applies_iff_loose hf).mp happ).1 ⟨rfl, State.Warmed39.refl s, rfl⟩ trivial
  refine ⟨n, _, h1, h2, h3, hpost _ _ _ _ _ _ ⟨Cond.after_iff.mpr rfl, Cond.after_iff.mpr (eq_i res_at (Term.int_eval (1)) rfl), trivial⟩ ⟨hq.1, hq.2.1, (hq.2.2.sift fun y hy => Or.inr (N y hy)).mono (by decide) (by decide)⟩⟩
theorem main_1_1 : Claimed_1_1 := comes_1 fun _ _ _ _ _ _ h hF => ⟨h.1, hF⟩
theorem main_1_2 : Claimed_1_2 := comes_1 fun _ _ _ _ _ _ h hF => ⟨h.2.1, hF⟩
end Jvm.Pilot.@@N@@
namespace Jvm.Pilot.@@N@@
open Jvm Jvm.ClassFile Sem Op Lib Jvm.Free Jvm.Stand Jvm.Pilot.@@N@@.Jvm.D
/-! MADE BY PROGRAM (witnessworld.py) out of the Statement's table words and the real class files: 13 classes; the members and pool entries that the words name. The judged class is class 1, her method 1. -/
namespace start1
open Jvm.ClassFile
def u (s : String) : CpInfo := .utf8 (stringToUtf16 s)
/-- a pool by its gaps: so many unusable entries, then the entry; so many at the end -/
def gap : Nat → List CpInfo → List CpInfo
  | 0, r => r
  | n + 1, r => .unusable :: gap n r
def poolList (es : List (Nat × CpInfo)) (last : Nat) : List CpInfo := es.foldr (fun e r => gap e.1 (e.2 :: r)) (gap last [])
def pool (es : List (Nat × CpInfo)) (last : Nat) : Array CpInfo := ⟨poolList es last⟩
def fileOf (pool : Array CpInfo) (this : Nat) (attrs : Array Attribute := #[]) (ms : Array MethodInfo := #[]) (fl : Nat := 33) (sup : Nat := 0) (ifs : Array Nat := #[]) (fds : Array FieldInfo := #[]) : ClassFile where
  minorVersion := 0
  majorVersion := 65
  constantPool := pool
  accessFlags := fl
  thisClass := this
  superClass := sup
  interfaces := ifs
  fields := fds
  methods := ms
  attributes := attrs
def plain (name : String) (sup : Option ClassId) : Class where
  name := name
  kind := .ordinary
  loader := none
  accessFlags := 33
  super := sup
  interfaces := #[]
  cf := none
  fields := #[]
  methods := #[]
  instanceTypes := #[]
  staticTypes := #[]
  resolved := #[]
  callSites := []
  init := .initialized
  statics := none
  mirror := none

def pool0 : Array CpInfo := pool [(5, u "<init>"), (0, u "()V"), (1, .class_ 10), (1, u "java/lang/Object"), (0, u "getClass"), (0, u "()Ljava/lang/Class;")] 111

def k0m0 : Method := { name := "<init>", desc := "()V", sig := { parameters := [], returnType := none }, accessFlags := 1, code := none }
def k0m1 : Method := { name := "getClass", desc := "()Ljava/lang/Class;", sig := { parameters := [], returnType := some (.object "java/lang/Class") }, accessFlags := 273, code := none }
/-- java/lang/Object -/
def k0 : Class := { plain "java/lang/Object" none with
  accessFlags := 33
  interfaces := #[]
  cf := some (fileOf pool0 8 #[] #[{ accessFlags := 1, nameIndex := 5, descriptorIndex := 6, attributes := #[] }, { accessFlags := 273, nameIndex := 11, descriptorIndex := 12, attributes := #[] }] 33 0 #[] #[])
  fields := #[]
  methods := #[k0m0, k0m1]
  instanceTypes := #[]
  staticTypes := #[]
  resolved := Array.replicate 124 none
  statics := none }

def pool1 : Array CpInfo := pool [(2, .class_ 4), (1, u "java/lang/Object"), (0, u "<init>"), (0, u "()V"), (0, .methodref 8 9), (0, .class_ 10), (0, .nameAndType 11 12), (0, u "com/example/shapewell/shapewell/Outcome"), (0, u "of"), (0, u "(Z)Lcom/example/shapewell/shapewell/Outcome;"), (0, .fieldref 8 14), (0, .nameAndType 15 16), (0, u "CONFORMS"), (0, u "Lcom/example/shapewell/shapewell/Outcome;"), (0, .fieldref 8 18), (0, .nameAndType 19 16), (0, u "VIOLATES"), (0, .fieldref 8 21), (0, .nameAndType 22 16), (0, u "UNDETERMINED"), (0, .methodref 8 24), (0, .nameAndType 25 26), (0, u "not"), (0, u "()Lcom/example/shapewell/shapewell/Outcome;"), (0, .methodref 8 28), (0, .nameAndType 29 30), (0, u "and"), (0, u "(Lcom/example/shapewell/shapewell/Outcome;)Lcom/example/shapewell/shapewell/Outcome;"), (0, .class_ 32), (0, u "com/example/shapewell/shapewell/OutcomeOfPinLaw"), (2, u "law"), (0, u "(II)Z")] 3

def k1m0 : Method := { name := "<init>", desc := "()V", sig := { parameters := [], returnType := none }, accessFlags := 1, code := none }
def k1c1 : Code := { maxStack := 2, maxLocals := 10, code := code, exceptionTable := #[], attributes := #[] }
def k1m1 : Method := { name := "law", desc := "(II)Z", sig := { parameters := [.int, .int], returnType := some .boolean }, accessFlags := 9, code := some k1c1 }
/-- com/example/shapewell/shapewell/OutcomeOfPinLaw -/
def k1 : Class := { plain "com/example/shapewell/shapewell/OutcomeOfPinLaw" (some 0) with
  accessFlags := 49
  interfaces := #[]
  cf := some (fileOf pool1 31 #[] #[{ accessFlags := 1, nameIndex := 5, descriptorIndex := 6, attributes := #[] }, { accessFlags := 9, nameIndex := 35, descriptorIndex := 36, attributes := #[] }] 49 2 #[] #[])
  fields := #[]
  methods := #[k1m0, k1m1]
  instanceTypes := #[]
  staticTypes := #[]
  resolved := Array.replicate 40 none
  statics := none }

def pool2 : Array CpInfo := pool [(1, .class_ 2), (0, u "java/lang/constant/Constable"), (0, .class_ 4), (0, u "java/lang/Object")] 6

/-- java/lang/constant/Constable -/
def k2 : Class := { plain "java/lang/constant/Constable" (some 0) with
  accessFlags := 1537
  interfaces := #[]
  cf := some (fileOf pool2 1 #[] #[] 1537 3 #[] #[])
  fields := #[]
  methods := #[]
  instanceTypes := #[]
  staticTypes := #[]
  resolved := Array.replicate 11 none
  statics := none }

def pool3 : Array CpInfo := pool [(1, .class_ 2), (0, u "java/lang/Comparable"), (0, .class_ 4), (0, u "java/lang/Object")] 7

/-- java/lang/Comparable -/
def k3 : Class := { plain "java/lang/Comparable" (some 0) with
  accessFlags := 1537
  interfaces := #[]
  cf := some (fileOf pool3 1 #[] #[] 1537 3 #[] #[])
  fields := #[]
  methods := #[]
  instanceTypes := #[]
  staticTypes := #[]
  resolved := Array.replicate 12 none
  statics := none }

def pool4 : Array CpInfo := pool [(1, .class_ 2), (0, u "java/io/Serializable"), (0, .class_ 4), (0, u "java/lang/Object")] 2

/-- java/io/Serializable -/
def k4 : Class := { plain "java/io/Serializable" (some 0) with
  accessFlags := 1537
  interfaces := #[]
  cf := some (fileOf pool4 1 #[] #[] 1537 3 #[] #[])
  fields := #[]
  methods := #[]
  instanceTypes := #[]
  staticTypes := #[]
  resolved := Array.replicate 7 none
  statics := none }

def pool5 : Array CpInfo := pool [(2, .class_ 4), (1, u "java/lang/Enum"), (0, u "name"), (0, u "Ljava/lang/String;"), (0, .fieldref 2 8), (0, .nameAndType 9 10), (0, u "ordinal"), (0, u "I"), (1, .class_ 14), (1, u "java/lang/Object"), (4, u "hash"), (9, .methodref 12 30), (0, .nameAndType 31 32), (0, u "getClass"), (0, u "()Ljava/lang/Class;"), (70, u "compareTo"), (0, u "(Ljava/lang/Enum;)I"), (1, .class_ 108), (1, u "java/lang/Enum$EnumDesc"), (2, .class_ 112), (0, u "java/lang/constant/Constable"), (0, .class_ 114), (0, u "java/lang/Comparable"), (0, .class_ 116), (0, u "java/io/Serializable"), (9, u "()I")] 77

def k5c0 : Code := { maxStack := 1, maxLocals := 1, code := jdk_37_method_2_code, exceptionTable := #[], attributes := #[] }
def k5m0 : Method := { name := "ordinal", desc := "()I", sig := { parameters := [], returnType := some .int }, accessFlags := 17, code := some k5c0 }
def k5c1 : Code := { maxStack := 2, maxLocals := 4, code := jdk_37_method_8_code, exceptionTable := #[], attributes := #[] }
def k5m1 : Method := { name := "compareTo", desc := "(Ljava/lang/Enum;)I", sig := { parameters := [(.object "java/lang/Enum")], returnType := some .int }, accessFlags := 17, code := some k5c1 }
/-- java/lang/Enum -/
def k5 : Class := { plain "java/lang/Enum" (some 0) with
  accessFlags := 1057
  interfaces := #[2, 3, 4]
  cf := some (fileOf pool5 2 #[.nestMembers #[106]] #[{ accessFlags := 17, nameIndex := 9, descriptorIndex := 126, attributes := #[] }, { accessFlags := 17, nameIndex := 103, descriptorIndex := 104, attributes := #[] }] 1057 12 #[111, 113, 115] #[{ accessFlags := 18, nameIndex := 5, descriptorIndex := 6, attributes := #[] }, { accessFlags := 18, nameIndex := 9, descriptorIndex := 10, attributes := #[] }, { accessFlags := 2, nameIndex := 19, descriptorIndex := 10, attributes := #[] }])
  fields := #[{ name := "name", type := (.object "java/lang/String"), accessFlags := 18, slot := 0, constantValue := 0 }, { name := "ordinal", type := .int, accessFlags := 18, slot := 1, constantValue := 0 }, { name := "hash", type := .int, accessFlags := 2, slot := 2, constantValue := 0 }]
  methods := #[k5m0, k5m1]
  instanceTypes := #[(.object "java/lang/String"), .int, .int]
  staticTypes := #[]
  resolved := Array.replicate 204 none
  statics := none }

def pool6 : Array CpInfo := pool [(1, .class_ 2), (0, u "com/example/shapewell/shapewell/Outcome"), (0, .fieldref 1 4), (0, .nameAndType 5 6), (0, u "VIOLATES"), (0, u "Lcom/example/shapewell/shapewell/Outcome;"), (2, u "UNDETERMINED"), (0, .fieldref 1 11), (0, .nameAndType 12 6), (0, u "CONFORMS"), (2, u "$VALUES"), (0, u "[Lcom/example/shapewell/shapewell/Outcome;"), (6, .class_ 25), (1, u "java/lang/Enum"), (6, .methodref 1 33), (0, .nameAndType 34 35), (0, u "compareTo"), (0, u "(Ljava/lang/Enum;)I"), (0, .methodref 1 37), (0, .nameAndType 38 39), (0, u "ordinal"), (0, u "()I"), (22, u "of"), (0, u "(Z)Lcom/example/shapewell/shapewell/Outcome;"), (1, u "and"), (0, u "(Lcom/example/shapewell/shapewell/Outcome;)Lcom/example/shapewell/shapewell/Outcome;"), (0, u "not"), (0, u "()Lcom/example/shapewell/shapewell/Outcome;")] 5

def k6c0 : Code := { maxStack := 1, maxLocals := 1, code := prog_3_method_4_code, exceptionTable := #[], attributes := #[] }
def k6m0 : Method := { name := "of", desc := "(Z)Lcom/example/shapewell/shapewell/Outcome;", sig := { parameters := [.boolean], returnType := some (.object "com/example/shapewell/shapewell/Outcome") }, accessFlags := 8, code := some k6c0 }
def k6c1 : Code := { maxStack := 2, maxLocals := 2, code := prog_3_method_5_code, exceptionTable := #[], attributes := #[] }
def k6m1 : Method := { name := "and", desc := "(Lcom/example/shapewell/shapewell/Outcome;)Lcom/example/shapewell/shapewell/Outcome;", sig := { parameters := [(.object "com/example/shapewell/shapewell/Outcome")], returnType := some (.object "com/example/shapewell/shapewell/Outcome") }, accessFlags := 0, code := some k6c1 }
def k6c2 : Code := { maxStack := 4, maxLocals := 1, code := prog_3_method_6_code, exceptionTable := #[], attributes := #[] }
def k6m2 : Method := { name := "not", desc := "()Lcom/example/shapewell/shapewell/Outcome;", sig := { parameters := [], returnType := some (.object "com/example/shapewell/shapewell/Outcome") }, accessFlags := 0, code := some k6c2 }
/-- com/example/shapewell/shapewell/Outcome -/
def k6 : Class := { plain "com/example/shapewell/shapewell/Outcome" (some 5) with
  accessFlags := 16432
  interfaces := #[]
  cf := some (fileOf pool6 1 #[] #[{ accessFlags := 8, nameIndex := 62, descriptorIndex := 63, attributes := #[] }, { accessFlags := 0, nameIndex := 65, descriptorIndex := 66, attributes := #[] }, { accessFlags := 0, nameIndex := 67, descriptorIndex := 68, attributes := #[] }] 16432 23 #[] #[{ accessFlags := 16409, nameIndex := 5, descriptorIndex := 6, attributes := #[] }, { accessFlags := 16409, nameIndex := 9, descriptorIndex := 6, attributes := #[] }, { accessFlags := 16409, nameIndex := 12, descriptorIndex := 6, attributes := #[] }, { accessFlags := 4122, nameIndex := 15, descriptorIndex := 16, attributes := #[] }])
  fields := #[{ name := "VIOLATES", type := (.object "com/example/shapewell/shapewell/Outcome"), accessFlags := 16409, slot := 0, constantValue := 0 }, { name := "UNDETERMINED", type := (.object "com/example/shapewell/shapewell/Outcome"), accessFlags := 16409, slot := 1, constantValue := 0 }, { name := "CONFORMS", type := (.object "com/example/shapewell/shapewell/Outcome"), accessFlags := 16409, slot := 2, constantValue := 0 }, { name := "$VALUES", type := (.array (.object "com/example/shapewell/shapewell/Outcome")), accessFlags := 4122, slot := 3, constantValue := 0 }]
  methods := #[k6m0, k6m1, k6m2]
  instanceTypes := #[(.object "java/lang/String"), .int, .int]
  staticTypes := #[(.object "com/example/shapewell/shapewell/Outcome"), (.object "com/example/shapewell/shapewell/Outcome"), (.object "com/example/shapewell/shapewell/Outcome"), (.array (.object "com/example/shapewell/shapewell/Outcome"))]
  resolved := Array.replicate 74 none
  mirror := some 1
  statics := some 0 }

def pool7 : Array CpInfo := pool [(1, .class_ 2), (0, u "java/lang/Class"), (0, .class_ 4), (0, u "java/lang/Object")] 0

/-- java/lang/Class -/
def k7 : Class := { plain "java/lang/Class" (some 0) with
  accessFlags := 49
  interfaces := #[]
  cf := some (fileOf pool7 1 #[] #[] 49 3 #[] #[])
  fields := #[]
  methods := #[]
  instanceTypes := #[]
  staticTypes := #[]
  resolved := Array.replicate 5 none
  statics := none }

def pool8 : Array CpInfo := pool [(1, u "java/lang/Cloneable"), (0, .class_ 1), (0, u "java/lang/Object"), (0, .class_ 3)] 3

/-- java/lang/Cloneable -/
def k8 : Class := { plain "java/lang/Cloneable" (some 0) with
  accessFlags := 1537
  interfaces := #[]
  cf := some (fileOf pool8 2 #[] #[] 1537 4 #[] #[])
  fields := #[]
  methods := #[]
  instanceTypes := #[]
  staticTypes := #[]
  resolved := Array.replicate 8 none
  statics := none }

/-- the primitive byte -/
def k9 : Class := { plain "byte" none with kind := .primitive 'B', accessFlags := 0x411 }
/-- [B -/
def k10 : Class := { plain "[B" (some 0) with kind := .array 9 .byte, interfaces := #[8, 4], accessFlags := 1041 }

/-- the primitive int -/
def k11 : Class := { plain "int" none with kind := .primitive 'I', accessFlags := 0x411 }
/-- [I -/
def k12 : Class := { plain "[I" (some 0) with kind := .array 11 .int, interfaces := #[8, 4], accessFlags := 1041 }

def heap : Heap := #[{ cls := 6, slots := #[.ref 2, .ref 4, .ref 3, .null], vm := .statics 6 },
  { cls := 7, slots := #[], vm := .mirror 6 },
  { cls := 6, slots := #[.null, .int 0, .int 0], vm := .none },
  { cls := 6, slots := #[.null, .int 2, .int 0], vm := .none },
  { cls := 6, slots := #[.null, .int 1, .int 0], vm := .none }]
def classes : Array Class := #[k0, k1, k2, k3, k4, k5, k6, k7, k8, k9, k10, k11, k12]
def interned : List (Array UInt16 × Addr) := []
def slotsUsed : Nat := 13
def theMethod : MethodId := ⟨1, 1⟩
def args0 : Array Value := #[.int 5, .int 6]
def aboutOver (below : List Frame) : State where
  vm := { classes := classes, interned := interned.toArray }
  heap := heap
  slotsUsed := slotsUsed
  threads := #[{ frames := .invoking theMethod args0 :: below }]
def below0 : List Frame := [.native { method := ⟨0, 0⟩, args := #[] }]
def about1 : State := aboutOver below0
def p0 : Program := .bare "" "" ""
def e0 : Env := launch0.env 0 0 0
theorem w_frames : about1.frames = Frame.invoking theMethod args0 :: below0 := rfl
set_option maxRecDepth 65536 in
theorem w_args : argsFit about1.vm theMethod args0 = true := by decide +kernel
set_option maxRecDepth 65536 in
theorem w_heap : heapFits about1 = true := by decide +kernel
set_option maxRecDepth 65536 in
theorem w_runnable : about1.curStatus? = some .runnable := by decide +kernel
set_option maxRecDepth 65536 in
theorem w_alone : about1.alone = true := by decide +kernel
set_option maxRecDepth 65536 in
theorem w_named : about1.methodNamed? x = some theMethod := by decide +kernel
set_option maxRecDepth 65536 in
theorem w_hears : about1.hears theMethod below0 = true := by decide +kernel
set_option maxRecDepth 65536 in
theorem w_ripe : about1.ripe theMethod args0 below0 = true := by decide +kernel
theorem w_running : about1.status = .running := rfl
set_option maxRecDepth 65536 in
theorem w_room : about1.hasRoom e0.platform room_1 = true :=
  launch0.hasRoom_least _ room_1 (by decide +kernel) (by decide +kernel) (by decide +kernel) (by decide +kernel) (by decide +kernel) (by decide +kernel)
theorem allAtoms_all (ts : List Jvm.Cond) (a : Array Jvm.Value) (st : Jvm.State) : (allAtoms ts).before a st = ts.all (fun c => c.before a st) := by
  induction ts with
  | nil => rfl
  | cons c t ih =>
    show (Jvm.Cond.and c (allAtoms t)).before a st = _
    rw [Jvm.Cond.before_and, ih, List.all_cons]
def words1 : List Jvm.Cond := Jvm.Cond.code x code maxLocals ret :: tables_1
/-- a 'code' word, met by the world's own term for the bytes: nothing is compared byte by byte -/
theorem code_word {y : MethodName} {bytes : ByteArray} {mx : Nat} {rt : Option FieldType} {a : Array Value} {s : State} {m : MethodId} {meth : Method} {c : Code} (h1 : s.methodNamed? y = some m) (h2 : s.vm.method? m = some meth) (h3 : meth.code = some c) (h4 : c.code = bytes)
    (h5 : (c.maxLocals == mx && c.exceptionTable.isEmpty && decide (c.maxStack ≤ mostOperands) && decide (meth.sig.returnType = rt) && !meth.locks && decide (parseMethodDescriptor y.desc = some meth.sig)) = true) : (Jvm.Cond.code y bytes mx rt).before a s = true := by
  simp only [Bool.and_eq_true, beq_iff_eq, Bool.not_eq_true', decide_eq_true_eq] at h5
  obtain ⟨⟨⟨⟨⟨g1, g2⟩, g3⟩, g4⟩, g5⟩, g6⟩ := h5
  simp [Cond.before, Cond.holds, Cond.value, h1, h2, h3, h4, g1, g2, g3, g4, g5, g6]
def isCode : Jvm.Cond → Bool
  | .code _ _ _ _ => true
  | _ => false
theorem all_split {L : List Jvm.Cond} {P : Jvm.Cond → Bool} (h1 : L.all (fun c => isCode c || P c) = true) (h2 : ∀ c ∈ L.filter isCode, P c = true) : L.all P = true := by
  refine List.all_eq_true.mpr fun c hc => ?_
  have h := List.all_eq_true.mp h1 c hc
  rcases Bool.eq_false_or_eq_true (isCode c) with hi | hi
  · exact h2 c (List.mem_filter.mpr ⟨hc, hi⟩)
  · simpa [hi] using h
set_option maxRecDepth 65536 in
theorem w_c0 : (Jvm.Cond.code x code maxLocals ret).before args0 about1 = true := code_word (m := ⟨1, 1⟩) (meth := k1m1) (c := k1c1) (by decide +kernel) rfl rfl rfl (by decide +kernel)
set_option maxRecDepth 65536 in
theorem w_c1 : (Jvm.Cond.code ({ cls := "com/example/shapewell/shapewell/Outcome", name := "of", desc := "(Z)Lcom/example/shapewell/shapewell/Outcome;" } : Jvm.MethodName) prog_3_method_4_code (1 : Nat) (Option.some (Jvm.ClassFile.FieldType.object "com/example/shapewell/shapewell/Outcome"))).before args0 about1 = true := code_word (m := ⟨6, 0⟩) (meth := k6m0) (c := k6c0) (by decide +kernel) rfl rfl rfl (by decide +kernel)
set_option maxRecDepth 65536 in
theorem w_c2 : (Jvm.Cond.code ({ cls := "com/example/shapewell/shapewell/Outcome", name := "not", desc := "()Lcom/example/shapewell/shapewell/Outcome;" } : Jvm.MethodName) prog_3_method_6_code (1 : Nat) (Option.some (Jvm.ClassFile.FieldType.object "com/example/shapewell/shapewell/Outcome"))).before args0 about1 = true := code_word (m := ⟨6, 2⟩) (meth := k6m2) (c := k6c2) (by decide +kernel) rfl rfl rfl (by decide +kernel)
set_option maxRecDepth 65536 in
theorem w_c3 : (Jvm.Cond.code ({ cls := "java/lang/Enum", name := "ordinal", desc := "()I" } : Jvm.MethodName) jdk_37_method_2_code (1 : Nat) (Option.some Jvm.ClassFile.FieldType.int)).before args0 about1 = true := code_word (m := ⟨5, 0⟩) (meth := k5m0) (c := k5c0) (by decide +kernel) rfl rfl rfl (by decide +kernel)
set_option maxRecDepth 65536 in
theorem w_c4 : (Jvm.Cond.code ({ cls := "com/example/shapewell/shapewell/Outcome", name := "and", desc := "(Lcom/example/shapewell/shapewell/Outcome;)Lcom/example/shapewell/shapewell/Outcome;" } : Jvm.MethodName) prog_3_method_5_code (2 : Nat) (Option.some (Jvm.ClassFile.FieldType.object "com/example/shapewell/shapewell/Outcome"))).before args0 about1 = true := code_word (m := ⟨6, 1⟩) (meth := k6m1) (c := k6c1) (by decide +kernel) rfl rfl rfl (by decide +kernel)
set_option maxRecDepth 65536 in
theorem w_c5 : (Jvm.Cond.code ({ cls := "java/lang/Enum", name := "compareTo", desc := "(Ljava/lang/Enum;)I" } : Jvm.MethodName) jdk_37_method_8_code (4 : Nat) (Option.some Jvm.ClassFile.FieldType.int)).before args0 about1 = true := code_word (m := ⟨5, 1⟩) (meth := k5m1) (c := k5c1) (by decide +kernel) rfl rfl rfl (by decide +kernel)
def codes1 : List Jvm.Cond := [Jvm.Cond.code x code maxLocals ret, Jvm.Cond.code ({ cls := "com/example/shapewell/shapewell/Outcome", name := "of", desc := "(Z)Lcom/example/shapewell/shapewell/Outcome;" } : Jvm.MethodName) prog_3_method_4_code (1 : Nat) (Option.some (Jvm.ClassFile.FieldType.object "com/example/shapewell/shapewell/Outcome")), Jvm.Cond.code ({ cls := "com/example/shapewell/shapewell/Outcome", name := "not", desc := "()Lcom/example/shapewell/shapewell/Outcome;" } : Jvm.MethodName) prog_3_method_6_code (1 : Nat) (Option.some (Jvm.ClassFile.FieldType.object "com/example/shapewell/shapewell/Outcome")), Jvm.Cond.code ({ cls := "java/lang/Enum", name := "ordinal", desc := "()I" } : Jvm.MethodName) jdk_37_method_2_code (1 : Nat) (Option.some Jvm.ClassFile.FieldType.int), Jvm.Cond.code ({ cls := "com/example/shapewell/shapewell/Outcome", name := "and", desc := "(Lcom/example/shapewell/shapewell/Outcome;)Lcom/example/shapewell/shapewell/Outcome;" } : Jvm.MethodName) prog_3_method_5_code (2 : Nat) (Option.some (Jvm.ClassFile.FieldType.object "com/example/shapewell/shapewell/Outcome")), Jvm.Cond.code ({ cls := "java/lang/Enum", name := "compareTo", desc := "(Ljava/lang/Enum;)I" } : Jvm.MethodName) jdk_37_method_8_code (4 : Nat) (Option.some Jvm.ClassFile.FieldType.int)]
set_option maxRecDepth 65536 in
theorem codes_eq : words1.filter isCode = codes1 := rfl
theorem w_codes : ∀ c ∈ words1.filter isCode, c.before args0 about1 = true := by
  rw [codes_eq]
  intro c hc
  simp only [codes1, List.mem_cons, List.not_mem_nil, or_false] at hc
  rcases hc with rfl | rfl | rfl | rfl | rfl | rfl
  · exact w_c0
  · exact w_c1
  · exact w_c2
  · exact w_c3
  · exact w_c4
  · exact w_c5
set_option maxRecDepth 65536 in
theorem w_t1 : (words1.take 24).all (fun c => isCode c || c.before args0 about1) = true := by decide +kernel
set_option maxRecDepth 65536 in
theorem w_t2 : (words1.drop 24).all (fun c => isCode c || c.before args0 about1) = true := by decide +kernel
theorem w_tables : (allAtoms (Jvm.Cond.code x code maxLocals ret :: tables_1)).before args0 about1 = true := by
  rw [allAtoms_all]
  show words1.all (fun c => c.before args0 about1) = true
  refine all_split ?_ w_codes
  rw [← List.take_append_drop 24 words1, List.all_append, w_t1, w_t2]
  rfl
set_option maxRecDepth 65536 in
theorem w_case : (Jvm.Cond.and given_1 narrow_1).before args0 about1 = true := by decide +kernel
theorem w_applies : (headSpec (Jvm.Cond.code x code maxLocals ret :: tables_1) room_1).applies x e0.platform about1 = true :=
  (Spec.applies_iff w_frames).mpr ⟨w_running, w_runnable, w_alone, w_named, w_hears, w_ripe, w_room, w_tables⟩
theorem atStart : AtStart classFile x code maxLocals ret World_1 tables_1 room_1 Calls_1 rest_1 Pre_1 launch0 p0 e0 about1 theMethod args0 below0 :=
  ⟨lists_1, trivial, launch0.admits_env _ _ _, launch0.least_env, fairChoices_fair.cas, fairChoices_fair.clock, w_frames, w_args, w_heap, w_applies, ⟨⟨6, k6, 1, by decide +kernel, rfl, rfl, _, rfl, rfl⟩, trivial⟩, trivial, w_case⟩
end start1
theorem witness_1 : WitnessClaimed_1 := ⟨start1.p0, start1.e0, start1.about1, start1.theMethod, start1.args0, start1.below0, start1.atStart⟩
end Jvm.Pilot.@@N@@
