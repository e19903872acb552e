import JvmDerived
import JvmDerived.Pilot.@@N@@Statement
import JvmDerived.Pilot.@@N@@Code
set_option linter.unusedVariables false
set_option linter.unusedSimpArgs false
@@BLOCK:NumsL.lean.txt@@
namespace Jvm.RoadKit
open Sem ClassFile Op Lib Jvm.Stand Jvm.Free Jvm.LawKit
section New
variable {p : Program} {l : Launch} {e : Env} {R : Room} {s : State} {m : MethodId} {args : Array Value} {below : List Frame} {meth : Method} {c : Code} {T : State} {locs : List Loc} {cells slots : Nat}
theorem retI (X : Stand p l e R s m args below meth c T locs cells slots) (hx : p.tables.exec = Jvm.exec) {pc : Nat} {Ls : Array Slot} {z : Int32} {rest : List Value} (hret : meth.sig.returnType = some .int) (hd : decode c.code pc = .ok (.ireturn, 1)) {fs : List Frame}
    (hl : ∀ (f : JFrame) (acts : List Action), f.method = m → f.locked = none → f.entered = [] → (doReturn e (T.setTop f) acts (some (.int z))).1 = T.setFrames fs) : Steps p.tables e below (T.setTop (mkF m pc Ls (.int z :: rest))) (T.setFrames fs) := by
  have hm' : T.vm.method? m = some meth := X.method'
  have hn : narrow .int (.int z) = .int z := rfl
  show Steps p.tables e below (T.setTop { method := m, pc := pc, locals := Ls, stack := _ :: rest, locked := none }) _
  jvm_step X.here [X.here.top, hx, hd, hm', hret, hn]
  first | (intro acts; rw [hl _ acts rfl rfl rfl]) | rw [hl _ _ rfl rfl rfl]
  exact Steps.refl _
theorem own_retA (X : Stand p l e R s m args below meth c T locs cells slots) (hx : p.tables.exec = Jvm.exec) {pc : Nat} {Ls : Array Slot} {t : FieldType} {w : Value} {rest : List Value} (hret : meth.sig.returnType = some t) (ht : t.isReference = true) (hw : w.isRef = true) (hd : decode c.code pc = .ok (.areturn, 1)) {fs : List Frame}
    (hl : ∀ (f : JFrame) (acts : List Action), f.method = m → f.locked = none → f.entered = [] → (doReturn e (T.setTop f) acts (some w)).1 = T.setFrames fs) : Steps p.tables e below (T.setTop (mkF m pc Ls (w :: rest))) (T.setFrames fs) :=
  retOut X hx hret (by cases t <;> simp_all [narrow, FieldType.isReference]) (Or.inr (Or.inr (Or.inr (Or.inr ⟨rfl, ht, hw⟩)))) hd hl
end New
end Jvm.RoadKit
namespace Jvm.Pilot.@@N@@
open Jvm Jvm.ClassFile Sem Op Lib Jvm.Free Jvm.Stand Jvm.LawKit Jvm.RoadKit Bundle Jvm.Pilot.@@N@@.Jvm.D
abbrev own_jv (x : Int64) : Slot := .val (.long x)
/-- a callee that leaves the heap as it was and returns r -/
def own_QP (r : Option Value) (h0 : Heap) (n0 : Nat) (v : Option Value) (h : Heap) (L : List Loc) : Prop := v = r ∧ Fr n0 L ∧ h = h0
def own_QL (n0 : Nat) (v : Option Value) (h : Heap) (L : List Loc) : Prop := v = some (.int 1) ∧ Fr n0 L
theorem own_eqv {args : Array Value} {first s : State} {o : Option Outcome} {idx : List Nat} {a b : Term} {x : Value} (h : (Cond.eq a b).value args first o s idx = some true) (hb : b.eval args first o idx s = some x) (hx : x.isRef = true ∨ ∃ n, x = .int n) : a.eval args first o idx s = some x := by
  cases ha : a.eval args first o idx s with
  | none => simp [Cond.value, ha, hb] at h
  | some y =>
    rcases hx with hx | ⟨n, rfl⟩
    · rcases ref_cases hx with rfl | ⟨z, rfl⟩ <;> cases y <;> simp_all [Cond.value]
    · cases y <;> simp_all [Cond.value]
theorem own_len {Z : State} {args : Array Value} {t : Term} {a : Addr} {cl : Cell} {ty : FieldType} {n : Int32} (ev : t.eval args Z none [] Z = some (.ref a)) (A : Arr Z Z.heap a cl ty) (h : (Term.length t).eval args Z none [] Z = some (.int n)) : cl.slots.size < 2 ^ 31 ∧ cl.slots.size.toInt32 = n := by
  have hA : Z.arrayAt? a = some cl := Arr.fin (U := Z) (Vm.Alike.refl _) A
  by_cases q : cl.slots.size < 2 ^ 31
  · rw [len_f ev hA q] at h
    exact ⟨q, Value.int.inj (Option.some.inj h)⟩
  · simp [Term.eval, ev, hA, q] at h
theorem own_nei {a b : Int32} (h : a ≠ b) : (Value.int a) ≠ (Value.int b) := fun q => h (Value.int.inj q)
theorem own_Sta_keep {Z : State} {h h' : Heap} {C n d : String} {v : Value} {ws : List Addr} (F : Sta Z h C n d v) (K : Keep h h' ws) (q : ∀ a ∈ ws, ∀ c : Cell, h[a]? = some c → c.vm.isStatics = false) : Sta Z h' C n d v := by
  obtain ⟨cf, i, k, f, st, cell, h1, h2, h3, h4, h5, h6, h7⟩ := F
  exact ⟨cf, i, k, f, st, cell, h1, h2, h3, h4, K.2.1 st cell h5 (fun z => by rw [q st z cell h5] at h6; cases h6), h6, h7⟩
theorem own_st0 {h : Heap} : ∀ a ∈ ([] : List Addr), ∀ c : Cell, h[a]? = some c → c.vm.isStatics = false := fun _ q => nomatch q
theorem own_stS {Z : State} {h : Heap} {b : Addr} {C : String} {L : List Addr} (E : Exa Z h b C) (q : ∀ a ∈ L, ∀ c : Cell, h[a]? = some c → c.vm.isStatics = false) : ∀ a ∈ b :: L, ∀ c : Cell, h[a]? = some c → c.vm.isStatics = false := fun a z c hc => by
  rcases List.mem_cons.mp z with rfl | z
  · obtain ⟨cell, _, h1, _, _, h4, _⟩ := E
    cases h1.symm.trans hc; exact h4
  · exact q a z c hc
/-- the Class object of C has been made: it is mr -/
def own_Mir (Z : State) (C : String) (mr : Addr) : Prop := ∃ (c : ClassId) (k : Class), Z.vm.findClass C = some c ∧ Z.vm.classes[c]? = some k ∧ k.mirror = some mr
theorem own_gcls {p : Program} {l : Launch} {e : Env} {R : Room} {s : State} {m : MethodId} {args : Array Value} {below : List Frame} {meth : Method} {c : Code} {T : State} {locs : List Loc} {cells slots : Nat} {Z : State} {h : Heap} {a : Addr} {C : String}
    (X : Stand p l e R s m args below meth c T locs cells slots) (hx : p.tables.exec = Jvm.exec) (hZ : Z.Warmed39 s.vm) {a0 : Array Value} {own : String} {index : Nat} (hown : s.vm.findClass own = some m.cls)
    (w1 : (Cond.methodLink own index ⟨"java/lang/Object", "getClass", "()Ljava/lang/Class;"⟩).before a0 Z = true) (w2 : (Cond.declares ⟨"java/lang/Object", "getClass", "()Ljava/lang/Class;"⟩).before a0 Z = true) (w4 : (Cond.selects C ⟨"java/lang/Object", "getClass", "()Ljava/lang/Class;"⟩ ⟨"java/lang/Object", "getClass", "()Ljava/lang/Class;"⟩).before a0 Z = true)
    (w5 : (Cond.instanceMethod ⟨"java/lang/Object", "getClass", "()Ljava/lang/Class;"⟩).before a0 Z = true) (w6 : (Cond.native ⟨"java/lang/Object", "getClass", "()Ljava/lang/Class;"⟩).before a0 Z = true) (eT : T.heap = h) (E : Exa Z h a C) {mr : Addr} (M : own_Mir Z C mr)
    {g : JFrame} (hg : g.method = m) (hsize : g.locals.size = c.maxLocals) {rest : List Value} (hs : g.stack = .ref a :: rest) (hd : decode c.code g.pc = .ok (.invokevirtual index, 3)) (hf : 1 ≤ R.frames) {W : Nat} (hW : 2 * g.monitorRoom + (rest.map fun v => v.category).sum ≤ W) (hl : W + 14 ≤ R.locals) :
    ∃ T', Stand p l e R s m args below meth c T' locs cells slots ∧ T'.heap = h ∧ ∀ target, Steps p.tables e below (T'.setTop { g with pc := g.pc + 3, stack := .ref mr :: rest }) target → Steps p.tables e below (T.setTop g) target := by
  obtain ⟨cB, kB, i1, i2, i3⟩ := isOf hZ eT E
  obtain ⟨cc, kc, m1, m2, m3⟩ := M
  have i1' := i1
  rw [hZ.alike.findClass] at i1'
  cases m1.symm.trans i1'
  obtain ⟨k', q1, q2⟩ := hZ.alike.2.2 _ _ m2
  obtain ⟨vm', X', st⟩ := X.getClassOf hx hown (mvT hZ w1) (mvT hZ w2) (notFace_of_selects (args := #[]) (mvT hZ w4)) (mvT hZ w4) (mvT hZ w5) (mvT hZ w6) i1 i3 q1 (by rw [q2]; exact m3) hg hsize hs hd hf (by rw [show nativeFrameWords "java/lang/Object" "getClass" 1 = 3 from by decide]; omega)
  exact ⟨_, X', eT, st⟩
theorem own_s0 (p : Int32) : ((p &&& (2147483647 : Int32)) % (3 : Int32)) = (0 : Int32) ∨ ((p &&& (2147483647 : Int32)) % (3 : Int32)) = (1 : Int32) ∨ ((p &&& (2147483647 : Int32)) % (3 : Int32)) = (2 : Int32) := by
  have e := Jvm.Kit.i32_mask p 2147483647 (k := 31) (by decide) (by decide)
  have q : ((p &&& (2147483647 : Int32)) % (3 : Int32)).toInt = (p &&& (2147483647 : Int32)).toInt.tmod 3 := Int32.toInt_mod _ _
  rw [Int.tmod_eq_emod_of_nonneg (by omega)] at q
  have h : ((p &&& (2147483647 : Int32)) % (3 : Int32)).toInt = 0 ∨ ((p &&& (2147483647 : Int32)) % (3 : Int32)).toInt = 1 ∨ ((p &&& (2147483647 : Int32)) % (3 : Int32)).toInt = 2 := by omega
  rcases h with h | h | h
  · exact Or.inl (Int32.toInt_inj.mp (h.trans (by decide)))
  · exact Or.inr (Or.inl (Int32.toInt_inj.mp (h.trans (by decide))))
  · exact Or.inr (Or.inr ((Int32.toInt_inj.mp (h.trans (by decide)))))
theorem d1_0 : decode prog_3_method_5_code 0 = .ok (.aload_n 0, 1) := by decide +kernel
theorem d1_1 : decode prog_3_method_5_code 1 = .ok (.aload_n 1, 1) := by decide +kernel
theorem d1_2 : decode prog_3_method_5_code 2 = .ok (.invokevirtual 32, 3) := by decide +kernel
theorem d1_5 : decode prog_3_method_5_code 5 = .ok (.ifCond .gt 7, 3) := by decide +kernel
theorem d1_8 : decode prog_3_method_5_code 8 = .ok (.aload_n 0, 1) := by decide +kernel
theorem d1_9 : decode prog_3_method_5_code 9 = .ok (.goto 4, 3) := by decide +kernel
theorem d1_12 : decode prog_3_method_5_code 12 = .ok (.aload_n 1, 1) := by decide +kernel
theorem d1_13 : decode prog_3_method_5_code 13 = .ok (.areturn, 1) := by decide +kernel
theorem d2_0 : decode jdk_37_method_8_code 0 = .ok (.aload_n 1, 1) := by decide +kernel
theorem d2_1 : decode jdk_37_method_8_code 1 = .ok (.astore_n 2, 1) := by decide +kernel
theorem d2_2 : decode jdk_37_method_8_code 2 = .ok (.aload_n 0, 1) := by decide +kernel
theorem d2_3 : decode jdk_37_method_8_code 3 = .ok (.astore_n 3, 1) := by decide +kernel
theorem d2_4 : decode jdk_37_method_8_code 4 = .ok (.aload_n 3, 1) := by decide +kernel
theorem d2_5 : decode jdk_37_method_8_code 5 = .ok (.invokevirtual 29, 3) := by decide +kernel
theorem d2_8 : decode jdk_37_method_8_code 8 = .ok (.aload_n 2, 1) := by decide +kernel
theorem d2_9 : decode jdk_37_method_8_code 9 = .ok (.invokevirtual 29, 3) := by decide +kernel
theorem d2_12 : decode jdk_37_method_8_code 12 = .ok (.if_acmp .eq 22, 3) := by decide +kernel
theorem d2_34 : decode jdk_37_method_8_code 34 = .ok (.aload_n 3, 1) := by decide +kernel
theorem d2_35 : decode jdk_37_method_8_code 35 = .ok (.getfield 7, 3) := by decide +kernel
theorem d2_38 : decode jdk_37_method_8_code 38 = .ok (.aload_n 2, 1) := by decide +kernel
theorem d2_39 : decode jdk_37_method_8_code 39 = .ok (.getfield 7, 3) := by decide +kernel
theorem d2_42 : decode jdk_37_method_8_code 42 = .ok (.isub, 1) := by decide +kernel
theorem d2_43 : decode jdk_37_method_8_code 43 = .ok (.ireturn, 1) := by decide +kernel
theorem pn_0 : plainName "java/lang/Enum" = true := by first | (simp [plainName, overriddenIn]; done) | decide +kernel
theorem pn_1 : plainName "com/example/shapewell/shapewell/Outcome" = true := by first | (simp [plainName, overriddenIn]; done) | decide +kernel
theorem pn_2 : plainName "com/example/shapewell/shapewell/OutcomeAndPinLaw" = true := by first | (simp [plainName, overriddenIn]; done) | decide +kernel
theorem pd_0 : parseMethodDescriptor "(Ljava/lang/Enum;)I" = some ⟨[(.object "java/lang/Enum")], some .int⟩ := by decide +kernel
theorem pd_1 : parseMethodDescriptor "(Lcom/example/shapewell/shapewell/Outcome;)Lcom/example/shapewell/shapewell/Outcome;" = some ⟨[(.object "com/example/shapewell/shapewell/Outcome")], some (.object "com/example/shapewell/shapewell/Outcome")⟩ := by decide +kernel
theorem ef_2_RR (m : MethodId) (x0 : Addr) (x1 : Addr) : entryFrame m #[(.ref x0), (.ref x1)] 4 = mkF m 0 #[rv x0, rv x1, .unset, .unset] [] := by first | (simp [entryFrame, mkF, argsToLocals, Value.category]; done) | rfl
theorem ef_1_RR (m : MethodId) (x0 : Addr) (x1 : Addr) : entryFrame m #[(.ref x0), (.ref x1)] 2 = mkF m 0 #[rv x0, rv x1] [] := by first | (simp [entryFrame, mkF, argsToLocals, Value.category]; done) | rfl
theorem ef_0_II (m : MethodId) (x0 : Int32) (x1 : Int32) : entryFrame m #[(.int x0), (.int x1)] maxLocals = mkF m 0 #[iv x0, iv x1, .unset, .unset, .unset, .unset, .unset] [] := by first | (simp [entryFrame, mkF, argsToLocals, Value.category, maxLocals]; done) | rfl
set_option maxRecDepth 65536 in
set_option maxHeartbeats 40000000 in
theorem rm2_0 (l : Launch) (Z : State) (a0 : Array Value) (hw : ∀ d ∈ tables_1, d.before a0 Z = true) (ws : List Jvm.Cond) (w_Outcome_VIOLATES : Addr) (mr_Outcome : Addr) (h0 : Heap) (n0 : Nat) (Z0 : n0 ≤ h0.size) (E_w_Outcome_VIOLATES : Exa Z h0 w_Outcome_VIOLATES "com/example/shapewell/shapewell/Outcome") (M_mr_Outcome : own_Mir Z "com/example/shapewell/shapewell/Outcome" mr_Outcome) (F_w_Outcome_VIOLATES_ordinal : Fld Z h0 w_Outcome_VIOLATES "java/lang/Enum" "ordinal" "I" (.int (0 : Int32))) :
    MetFree l (⟨"java/lang/Enum", "compareTo", "(Ljava/lang/Enum;)I"⟩ : MethodName) (head1 (Jvm.Cond.code (⟨"java/lang/Enum", "compareTo", "(Ljava/lang/Enum;)I"⟩ : MethodName) jdk_37_method_8_code 4 (some .int) :: ws) ({ frames := 1, cells := 0, slots := 0, locals := 15 } : Room)) (fun a U => a = #[(.ref w_Outcome_VIOLATES), (.ref w_Outcome_VIOLATES)] ∧ Z.Warmed39 U.vm ∧ U.heap = h0) (fun _ _ _ _ _ => True) (fun _ U o U' => ∃ v L, o = .returned v ∧ own_QP (some (.int (0 : Int32))) h0 n0 v U'.heap L ∧ FrameEnd U o U' L ({ frames := 1, cells := 0, slots := 0, locals := 15 } : Room).cells ({ frames := 1, cells := 0, slots := 0, locals := 15 } : Room).slots) := by
  refine MetFree.of_bodySF (plainFor_of_name pn_0) hisR ?_
  intro p e s m args below meth c s₁ Bd hml0 hP hK
  obtain ⟨rfl, hZ, hh⟩ := hP
  have hx := Bd.exec
  have hby := Bd.bytes
  have hml : c.maxLocals = 4 := hml0
  have hown : s.vm.findClass "java/lang/Enum" = some m.cls := findClass_of_methodNamed Bd.named
  have hnm := (name_of_methodNamed Bd.named Bd.method).1
  have X0 : Stand p l e ({ frames := 1, cells := 0, slots := 0, locals := 15 } : Room) s m #[(.ref w_Outcome_VIOLATES), (.ref w_Outcome_VIOLATES)] below meth c s₁ [] 0 0 := Stand.of_body Bd
  have e0 : s₁.heap = h0 := by rw [← hh, Bd.state]; rfl
  have N0 := Fr.nil n0
  have pre0 : ∀ t, Steps p.tables e below (s₁.setTop (mkF m 0 #[rv w_Outcome_VIOLATES, rv w_Outcome_VIOLATES, .unset, .unset] [])) t → Steps p.tables e below (s₁.setTop (entryFrame m #[(.ref w_Outcome_VIOLATES), (.ref w_Outcome_VIOLATES)] 4)) t := fun t k => castTop (ef_2_RR m w_Outcome_VIOLATES w_Outcome_VIOLATES) k
  obtain ⟨T1, X1, e1, st1⟩ := own_gcls X0 hx hZ hown (hw _ (List.mem_of_getElem? (i := 23) rfl)) (hw _ (List.mem_of_getElem? (i := 24) rfl)) (hw _ (List.mem_of_getElem? (i := 26) rfl)) (hw _ (List.mem_of_getElem? (i := 25) rfl)) (hw _ (List.mem_of_getElem? (i := 27) rfl)) e0 E_w_Outcome_VIOLATES M_mr_Outcome (g := (mkF m 5 #[rv w_Outcome_VIOLATES, rv w_Outcome_VIOLATES, rv w_Outcome_VIOLATES, rv w_Outcome_VIOLATES] [(.ref w_Outcome_VIOLATES)])) rfl (by rw [hml]; rfl) rfl (hb hby d2_5) (by decide) (W := 0) (by show 2 * 0 + _ ≤ _; exact Nat.le_of_eq rfl) (by decide)
  obtain ⟨T2, X2, e2, st2⟩ := own_gcls X1 hx hZ hown (hw _ (List.mem_of_getElem? (i := 23) rfl)) (hw _ (List.mem_of_getElem? (i := 24) rfl)) (hw _ (List.mem_of_getElem? (i := 26) rfl)) (hw _ (List.mem_of_getElem? (i := 25) rfl)) (hw _ (List.mem_of_getElem? (i := 27) rfl)) e1 E_w_Outcome_VIOLATES M_mr_Outcome (g := (mkF m 9 #[rv w_Outcome_VIOLATES, rv w_Outcome_VIOLATES, rv w_Outcome_VIOLATES, rv w_Outcome_VIOLATES] [(.ref w_Outcome_VIOLATES), (.ref mr_Outcome)])) rfl (by rw [hml]; rfl) rfl (hb hby d2_9) (by decide) (W := 1) (by show 2 * 0 + _ ≤ _; exact Nat.le_of_eq rfl) (by decide)
  obtain ⟨T3, X3, e3, st3⟩ := getF X2 hx hZ hown (host := "") (Or.inl (hw _ (List.mem_of_getElem? (i := 28) rfl))) Via.refl e2 F_w_Outcome_VIOLATES_ordinal (g := (mkF m 35 #[rv w_Outcome_VIOLATES, rv w_Outcome_VIOLATES, rv w_Outcome_VIOLATES, rv w_Outcome_VIOLATES] [(.ref w_Outcome_VIOLATES)])) rfl rfl (hb hby d2_35)
  obtain ⟨T4, X4, e4, st4⟩ := getF X3 hx hZ hown (host := "") (Or.inl (hw _ (List.mem_of_getElem? (i := 28) rfl))) Via.refl e3 F_w_Outcome_VIOLATES_ordinal (g := (mkF m 39 #[rv w_Outcome_VIOLATES, rv w_Outcome_VIOLATES, rv w_Outcome_VIOLATES, rv w_Outcome_VIOLATES] [(.ref w_Outcome_VIOLATES), (.int (0 : Int32))])) rfl rfl (hb hby d2_39)
  obtain ⟨fs, hr, hrun, hended, hW, hsame⟩ := X4.leave (v := (some (.int (0 : Int32)))) (fun h => by rw [Bd.returns] at h; cases h)
  refine ⟨_, _, pre0 _ ?_, hrun, hended, _, _, rfl, ?_, ⟨_, rfl⟩, hW, hsame.mono (by decide) (by decide)⟩
  · show Steps p.tables e below (s₁.setTop (mkF m 0 #[rv w_Outcome_VIOLATES, rv w_Outcome_VIOLATES, .unset, .unset] [])) _
    refine XS.aloadN X0.here hx rfl (hb hby d2_0) rfl rfl ?_
    show Steps p.tables e below (s₁.setTop (mkF m 1 #[rv w_Outcome_VIOLATES, rv w_Outcome_VIOLATES, .unset, .unset] [(.ref w_Outcome_VIOLATES)])) _
    refine XS.astoreN X0.here hx rfl (hb hby d2_1) rfl rfl (l' := #[rv w_Outcome_VIOLATES, rv w_Outcome_VIOLATES, rv w_Outcome_VIOLATES, .unset]) rfl ?_
    show Steps p.tables e below (s₁.setTop (mkF m 2 #[rv w_Outcome_VIOLATES, rv w_Outcome_VIOLATES, rv w_Outcome_VIOLATES, .unset] [])) _
    refine XS.aloadN X0.here hx rfl (hb hby d2_2) rfl rfl ?_
    show Steps p.tables e below (s₁.setTop (mkF m 3 #[rv w_Outcome_VIOLATES, rv w_Outcome_VIOLATES, rv w_Outcome_VIOLATES, .unset] [(.ref w_Outcome_VIOLATES)])) _
    refine XS.astoreN X0.here hx rfl (hb hby d2_3) rfl rfl (l' := #[rv w_Outcome_VIOLATES, rv w_Outcome_VIOLATES, rv w_Outcome_VIOLATES, rv w_Outcome_VIOLATES]) rfl ?_
    show Steps p.tables e below (s₁.setTop (mkF m 4 #[rv w_Outcome_VIOLATES, rv w_Outcome_VIOLATES, rv w_Outcome_VIOLATES, rv w_Outcome_VIOLATES] [])) _
    refine XS.aloadN X0.here hx rfl (hb hby d2_4) rfl rfl ?_
    show Steps p.tables e below (s₁.setTop (mkF m 5 #[rv w_Outcome_VIOLATES, rv w_Outcome_VIOLATES, rv w_Outcome_VIOLATES, rv w_Outcome_VIOLATES] [(.ref w_Outcome_VIOLATES)])) _
    refine st1 _ ?_
    show Steps p.tables e below (T1.setTop (mkF m 8 #[rv w_Outcome_VIOLATES, rv w_Outcome_VIOLATES, rv w_Outcome_VIOLATES, rv w_Outcome_VIOLATES] [(.ref mr_Outcome)])) _
    refine XS.aloadN X1.here hx rfl (hb hby d2_8) rfl rfl ?_
    show Steps p.tables e below (T1.setTop (mkF m 9 #[rv w_Outcome_VIOLATES, rv w_Outcome_VIOLATES, rv w_Outcome_VIOLATES, rv w_Outcome_VIOLATES] [(.ref w_Outcome_VIOLATES), (.ref mr_Outcome)])) _
    refine st2 _ ?_
    show Steps p.tables e below (T2.setTop (mkF m 12 #[rv w_Outcome_VIOLATES, rv w_Outcome_VIOLATES, rv w_Outcome_VIOLATES, rv w_Outcome_VIOLATES] [(.ref mr_Outcome), (.ref mr_Outcome)])) _
    refine Jvm.RoadKit.acmp (g := (mkF m 12 #[rv w_Outcome_VIOLATES, rv w_Outcome_VIOLATES, rv w_Outcome_VIOLATES, rv w_Outcome_VIOLATES] [(.ref mr_Outcome), (.ref mr_Outcome)])) X2 hx rfl rfl rfl (pc0 := 12) (pc' := 34) (same := true) rfl (hb hby d2_12) rfl (decide_eq_true rfl) (by decide) (by decide) ?_
    show Steps p.tables e below (T2.setTop (mkF m 34 #[rv w_Outcome_VIOLATES, rv w_Outcome_VIOLATES, rv w_Outcome_VIOLATES, rv w_Outcome_VIOLATES] [])) _
    refine XS.aloadN X2.here hx rfl (hb hby d2_34) rfl rfl ?_
    show Steps p.tables e below (T2.setTop (mkF m 35 #[rv w_Outcome_VIOLATES, rv w_Outcome_VIOLATES, rv w_Outcome_VIOLATES, rv w_Outcome_VIOLATES] [(.ref w_Outcome_VIOLATES)])) _
    refine st3 _ ?_
    show Steps p.tables e below (T3.setTop (mkF m 38 #[rv w_Outcome_VIOLATES, rv w_Outcome_VIOLATES, rv w_Outcome_VIOLATES, rv w_Outcome_VIOLATES] [(.int (0 : Int32))])) _
    refine XS.aloadN X3.here hx rfl (hb hby d2_38) rfl rfl ?_
    show Steps p.tables e below (T3.setTop (mkF m 39 #[rv w_Outcome_VIOLATES, rv w_Outcome_VIOLATES, rv w_Outcome_VIOLATES, rv w_Outcome_VIOLATES] [(.ref w_Outcome_VIOLATES), (.int (0 : Int32))])) _
    refine st4 _ ?_
    show Steps p.tables e below (T4.setTop (mkF m 42 #[rv w_Outcome_VIOLATES, rv w_Outcome_VIOLATES, rv w_Outcome_VIOLATES, rv w_Outcome_VIOLATES] [(.int (0 : Int32)), (.int (0 : Int32))])) _
    refine XS.isub X4.here hx rfl (hb hby d2_42) rfl ?_
    show Steps p.tables e below (T4.setTop (mkF m 43 #[rv w_Outcome_VIOLATES, rv w_Outcome_VIOLATES, rv w_Outcome_VIOLATES, rv w_Outcome_VIOLATES] [(.int ((0 : Int32) - (0 : Int32)))])) _
    rewrite [show ((0 : Int32) - (0 : Int32)) = (0 : Int32) from by decide +kernel]
    show Steps p.tables e below (T4.setTop (mkF m 43 #[rv w_Outcome_VIOLATES, rv w_Outcome_VIOLATES, rv w_Outcome_VIOLATES, rv w_Outcome_VIOLATES] [(.int (0 : Int32))])) _
    exact retI X4 hx Bd.returns (hb hby d2_43) hr
  · exact ⟨rfl, N0, e4⟩
set_option maxRecDepth 65536 in
set_option maxHeartbeats 40000000 in
theorem rm1_0 (l : Launch) (Z : State) (a0 : Array Value) (hw : ∀ d ∈ tables_1, d.before a0 Z = true) (ws : List Jvm.Cond) (w_Outcome_VIOLATES : Addr) (mr_Outcome : Addr) (h0 : Heap) (n0 : Nat) (Z0 : n0 ≤ h0.size) (E_w_Outcome_VIOLATES : Exa Z h0 w_Outcome_VIOLATES "com/example/shapewell/shapewell/Outcome") (M_mr_Outcome : own_Mir Z "com/example/shapewell/shapewell/Outcome" mr_Outcome) (F_w_Outcome_VIOLATES_ordinal : Fld Z h0 w_Outcome_VIOLATES "java/lang/Enum" "ordinal" "I" (.int (0 : Int32))) :
    MetFree l (⟨"com/example/shapewell/shapewell/Outcome", "and", "(Lcom/example/shapewell/shapewell/Outcome;)Lcom/example/shapewell/shapewell/Outcome;"⟩ : MethodName) (head1 (Jvm.Cond.code (⟨"com/example/shapewell/shapewell/Outcome", "and", "(Lcom/example/shapewell/shapewell/Outcome;)Lcom/example/shapewell/shapewell/Outcome;"⟩ : MethodName) prog_3_method_5_code 2 (some (.object "com/example/shapewell/shapewell/Outcome")) :: ws) ({ frames := 2, cells := 0, slots := 0, locals := 30 } : Room)) (fun a U => a = #[(.ref w_Outcome_VIOLATES), (.ref w_Outcome_VIOLATES)] ∧ Z.Warmed39 U.vm ∧ U.heap = h0) (fun _ _ _ _ _ => True) (fun _ U o U' => ∃ v L, o = .returned v ∧ own_QP (some (.ref w_Outcome_VIOLATES)) h0 n0 v U'.heap L ∧ FrameEnd U o U' L ({ frames := 2, cells := 0, slots := 0, locals := 30 } : Room).cells ({ frames := 2, cells := 0, slots := 0, locals := 30 } : Room).slots) := by
  refine MetFree.of_bodySF (plainFor_of_name pn_1) hisR ?_
  intro p e s m args below meth c s₁ Bd hml0 hP hK
  obtain ⟨rfl, hZ, hh⟩ := hP
  have hx := Bd.exec
  have hby := Bd.bytes
  have hml : c.maxLocals = 2 := hml0
  have hown : s.vm.findClass "com/example/shapewell/shapewell/Outcome" = some m.cls := findClass_of_methodNamed Bd.named
  have hnm := (name_of_methodNamed Bd.named Bd.method).1
  have X0 : Stand p l e ({ frames := 2, cells := 0, slots := 0, locals := 30 } : Room) s m #[(.ref w_Outcome_VIOLATES), (.ref w_Outcome_VIOLATES)] below meth c s₁ [] 0 0 := Stand.of_body Bd
  have e0 : s₁.heap = h0 := by rw [← hh, Bd.state]; rfl
  have N0 := Fr.nil n0
  have pre0 : ∀ t, Steps p.tables e below (s₁.setTop (mkF m 0 #[rv w_Outcome_VIOLATES, rv w_Outcome_VIOLATES] [])) t → Steps p.tables e below (s₁.setTop (entryFrame m #[(.ref w_Outcome_VIOLATES), (.ref w_Outcome_VIOLATES)] 2)) t := fun t k => castTop (ef_1_RR m w_Outcome_VIOLATES w_Outcome_VIOLATES) k
  obtain ⟨cq1, kq1, q1a, q1b, q1c⟩ := isOf hZ e0 E_w_Outcome_VIOLATES
  obtain ⟨_, _, ⟨T1, L1, k1, n1⟩, -, X1, ⟨Lc1, hQ1, l1, y1, z1⟩, st1⟩ := X0.virtualBackUp hx (x := (⟨"com/example/shapewell/shapewell/Outcome", "compareTo", "(Ljava/lang/Enum;)I"⟩ : MethodName)) (y := (⟨"java/lang/Enum", "compareTo", "(Ljava/lang/Enum;)I"⟩ : MethodName)) hown (mvT hZ (hw _ (List.mem_of_getElem? (i := 16) rfl))) (mvT hZ (hw _ (List.mem_of_getElem? (i := 17) rfl))) (mvT hZ (hw _ (List.mem_of_getElem? (i := 18) rfl))) (by decide) (mvT hZ (hw _ (List.mem_of_getElem? (i := 20) rfl))) (mvT hZ (hw _ (List.mem_of_getElem? (i := 19) rfl))) (backOf (W := 0) (rm2_0 l Z a0 hw [] w_Outcome_VIOLATES mr_Outcome h0 n0 Z0 E_w_Outcome_VIOLATES M_mr_Outcome F_w_Outcome_VIOLATES_ordinal) hZ (hw _ (List.mem_of_getElem? (i := 22) rfl)) (hw _ (List.mem_of_getElem? (i := 21) rfl)) (by decide) (by decide)) q1a q1c (g := (mkF m 2 #[rv w_Outcome_VIOLATES, rv w_Outcome_VIOLATES] [(.ref w_Outcome_VIOLATES), (.ref w_Outcome_VIOLATES)])) rfl (by rw [hml]; rfl) (Steps.refl _) (argsL := [(.ref w_Outcome_VIOLATES)]) (rest := []) (lenOf pd_0 rfl) rfl (by show 2 * 0 + _ ≤ _; exact Nat.le_of_eq rfl) (hb hby d1_2) (fun _ _ => ⟨rfl, e0, (by decide : 0 + 0 ≤ _), (by decide : 0 + 0 ≤ _)⟩)
  dsimp only [Pt.U, Pt.locs, Pt.cells, Pt.slots] at X1 l1 y1 z1 st1 hQ1
  subst l1 y1 z1
  obtain ⟨rfl, N1q, e1⟩ := hQ1
  have N1 := Fr.app N0 N1q
  obtain ⟨fs, hr, hrun, hended, hW, hsame⟩ := X1.leave (v := (some (.ref w_Outcome_VIOLATES))) (fun h => by rw [Bd.returns] at h; cases h)
  refine ⟨_, _, pre0 _ ?_, hrun, hended, _, _, rfl, ?_, ⟨_, rfl⟩, hW, hsame.mono (by decide) (by decide)⟩
  · show Steps p.tables e below (s₁.setTop (mkF m 0 #[rv w_Outcome_VIOLATES, rv w_Outcome_VIOLATES] [])) _
    refine XS.aloadN X0.here hx rfl (hb hby d1_0) rfl rfl ?_
    show Steps p.tables e below (s₁.setTop (mkF m 1 #[rv w_Outcome_VIOLATES, rv w_Outcome_VIOLATES] [(.ref w_Outcome_VIOLATES)])) _
    refine XS.aloadN X0.here hx rfl (hb hby d1_1) rfl rfl ?_
    show Steps p.tables e below (s₁.setTop (mkF m 2 #[rv w_Outcome_VIOLATES, rv w_Outcome_VIOLATES] [(.ref w_Outcome_VIOLATES), (.ref w_Outcome_VIOLATES)])) _
    refine st1.trans ?_
    show Steps p.tables e below (T1.setTop (mkF m 5 #[rv w_Outcome_VIOLATES, rv w_Outcome_VIOLATES] [(.int (0 : Int32))])) _
    refine XS.ifNo X1.here hx rfl (hb hby d1_5) rfl ((if0 _ _).trans (flt (by decide +kernel : ¬ ((0 : Int32) < (0 : Int32)))).2.2.1) ?_
    show Steps p.tables e below (T1.setTop (mkF m 8 #[rv w_Outcome_VIOLATES, rv w_Outcome_VIOLATES] [])) _
    refine XS.aloadN X1.here hx rfl (hb hby d1_8) rfl rfl ?_
    show Steps p.tables e below (T1.setTop (mkF m 9 #[rv w_Outcome_VIOLATES, rv w_Outcome_VIOLATES] [(.ref w_Outcome_VIOLATES)])) _
    refine XS.goto X1.here hx rfl (pc0 := 9) (pc' := 13) rfl (hb hby d1_9) (by decide) (by decide) ?_
    show Steps p.tables e below (T1.setTop (mkF m 13 #[rv w_Outcome_VIOLATES, rv w_Outcome_VIOLATES] [(.ref w_Outcome_VIOLATES)])) _
    exact own_retA X1 hx Bd.returns rfl rfl (hb hby d1_13) hr
  · exact ⟨rfl, N1, e1⟩
set_option maxRecDepth 65536 in
set_option maxHeartbeats 40000000 in
theorem rm0_0 (l : Launch) (Z : State) (a0 : Array Value) (hw : ∀ d ∈ tables_1, d.before a0 Z = true) (ws : List Jvm.Cond) (p0 : Int32) (p1 : Int32) (w_Outcome_VIOLATES : Addr) (w_Outcome_UNDETERMINED : Addr) (w_Outcome_CONFORMS : Addr) (mr_Outcome : Addr) (h0 : Heap) (n0 : Nat) (Z0 : n0 ≤ h0.size) (S_Outcome_VIOLATES : Sta Z h0 "com/example/shapewell/shapewell/Outcome" "VIOLATES" "Lcom/example/shapewell/shapewell/Outcome;" (.ref w_Outcome_VIOLATES)) (E_w_Outcome_VIOLATES : Exa Z h0 w_Outcome_VIOLATES "com/example/shapewell/shapewell/Outcome") (S_Outcome_UNDETERMINED : Sta Z h0 "com/example/shapewell/shapewell/Outcome" "UNDETERMINED" "Lcom/example/shapewell/shapewell/Outcome;" (.ref w_Outcome_UNDETERMINED)) (E_w_Outcome_UNDETERMINED : Exa Z h0 w_Outcome_UNDETERMINED "com/example/shapewell/shapewell/Outcome") (S_Outcome_CONFORMS : Sta Z h0 "com/example/shapewell/shapewell/Outcome" "CONFORMS" "Lcom/example/shapewell/shapewell/Outcome;" (.ref w_Outcome_CONFORMS)) (E_w_Outcome_CONFORMS : Exa Z h0 w_Outcome_CONFORMS "com/example/shapewell/shapewell/Outcome") (hk0 : ((p0 &&& (2147483647 : Int32)) % (3 : Int32)) = (0 : Int32)) (hk1 : ((p1 &&& (2147483647 : Int32)) % (3 : Int32)) = (0 : Int32)) (M_mr_Outcome : own_Mir Z "com/example/shapewell/shapewell/Outcome" mr_Outcome) (F_w_Outcome_VIOLATES_ordinal : Fld Z h0 w_Outcome_VIOLATES "java/lang/Enum" "ordinal" "I" (.int (0 : Int32))) :
    MetFree l x (head1 (Jvm.Cond.code x code maxLocals ret :: ws) room_1) (fun a U => a = #[(.int p0), (.int p1)] ∧ Z.Warmed39 U.vm ∧ U.heap = h0) (fun _ _ _ _ _ => True) (fun _ U o U' => ∃ v L, o = .returned v ∧ own_QL n0 v U'.heap L ∧ FrameEnd U o U' L room_1.cells room_1.slots) := by
  refine MetFree.of_bodySF (plainFor_of_name pn_2) hisR ?_
  intro p e s m args below meth c s₁ Bd hml0 hP hK
  obtain ⟨rfl, hZ, hh⟩ := hP
  have hx := Bd.exec
  have hby := Bd.bytes
  have hml : c.maxLocals = 7 := hml0
  have hown : s.vm.findClass "com/example/shapewell/shapewell/OutcomeAndPinLaw" = some m.cls := findClass_of_methodNamed Bd.named
  have hnm := (name_of_methodNamed Bd.named Bd.method).1
  have X0 : Stand p l e room_1 s m #[(.int p0), (.int p1)] below meth c s₁ [] 0 0 := Stand.of_body Bd
  have e0 : s₁.heap = h0 := by rw [← hh, Bd.state]; rfl
  have N0 := Fr.nil n0
  have pre0 : ∀ t, Steps p.tables e below (s₁.setTop (mkF m 0 #[iv p0, iv p1, .unset, .unset, .unset, .unset, .unset] [])) t → Steps p.tables e below (s₁.setTop (entryFrame m #[(.int p0), (.int p1)] maxLocals)) t := fun t k => castTop (ef_0_II m p0 p1) k
  obtain ⟨T1, h1, k0_1, X1, e1, E1, A1, O1, st1⟩ := newR X0 hx hZ hown (hw _ (List.mem_of_getElem? (i := 0) rfl)) (hw _ (List.mem_of_getElem? (i := 1) rfl)) e0 (g := (mkF m 1 #[iv p0, iv p1, .unset, .unset, .unset, .unset, .unset] [(.int (3 : Int32))])) rfl (hb hby at_1) rfl (by decide) (cap := 3) (by decide) (by decide) (by decide) (by decide)
  obtain ⟨b0_1, gg1⟩ : ∃ z, z = h0.size := ⟨_, rfl⟩
  rw [← gg1] at A1 st1
  have g_b0_1 : n0 ≤ b0_1 := Nat.le_trans Z0 (Nat.le_of_eq gg1.symm)
  have sz_b0_1 : h0.size ≤ b0_1 := Nat.le_trans (Keep.refl h0 []).1 (Nat.le_of_eq gg1.symm)
  have Z1 : n0 ≤ h1.size := Nat.le_trans Z0 E1.1
  have KK1 : Keep h0 h1 [] := (Keep.refl h0 []).ext E1
  have V_b0_1 : Arv Z h1 b0_1 k0_1 (.object "com/example/shapewell/shapewell/Outcome") (3 : Int32) [.null, .null, .null] .null := (Arv.new A1 (by decide)).pad (pad_rep [] .null 3)
  have c2 := (S_Outcome_VIOLATES.ext E1)
  obtain ⟨T3, X3, e3, st3⟩ := getS2 X1 hx hZ hown (host := "") (Or.inl (hw _ (List.mem_of_getElem? (i := 2) rfl))) Via.refl e1 c2 (g := (mkF m 6 #[iv p0, iv p1, .unset, .unset, .unset, .unset, .unset] [(.int (0 : Int32)), (.ref b0_1), (.ref b0_1)])) rfl (hb hby at_6)
  obtain ⟨cl4, Ar4, qq4, Sz4, Nn4, Hs4, Gs4⟩ := id V_b0_1
  have hin4 : ¬ ((0 : Int32) < 0 ∨ cl4.slots.size ≤ ((0 : Int32)).toNatClampNeg) := inb_of Sz4 ⟨by decide, by decide⟩
  have c5 := (E_w_Outcome_VIOLATES.ext E1)
  obtain ⟨T6, h6, X6, e6, W6, st6⟩ := stR X3 hx hZ e3 Ar4 (j := (0 : Int32)) hin4 rfl (Sto.ofV Ar4 qq4 O1 (Ins.self c5)) (g := (mkF m 9 #[iv p0, iv p1, .unset, .unset, .unset, .unset, .unset] [(.ref w_Outcome_VIOLATES), (.int (0 : Int32)), (.ref b0_1), (.ref b0_1)])) rfl rfl (hb hby at_9)
  have vb6 : Arv Z h6 b0_1 k0_1 (.object "com/example/shapewell/shapewell/Outcome") (3 : Int32) [(.ref w_Outcome_VIOLATES), .null, .null] .null := Arv.set Ar4 qq4 Sz4 Nn4 Hs4 Gs4 rfl W6 0 rfl (Nat.le_of_ble_eq_true rfl)
  have Z6 : n0 ≤ h6.size := Nat.le_trans Z1 (Keep.of_wr W6).1
  have KK6 : Keep h0 h6 [] := KK1.wr W6 (Or.inr sz_b0_1)
  have N6 := Fr.snoc X6 N0 g_b0_1
  have c7 := ((S_Outcome_UNDETERMINED.ext E1).wr W6)
  obtain ⟨T8, X8, e8, st8⟩ := getS2 X6 hx hZ hown (host := "") (Or.inl (hw _ (List.mem_of_getElem? (i := 6) rfl))) Via.refl e6 c7 (g := (mkF m 12 #[iv p0, iv p1, .unset, .unset, .unset, .unset, .unset] [(.int (1 : Int32)), (.ref b0_1), (.ref b0_1)])) rfl (hb hby at_12)
  obtain ⟨cl9, Ar9, qq9, Sz9, Nn9, Hs9, Gs9⟩ := id vb6
  have hin9 : ¬ ((1 : Int32) < 0 ∨ cl9.slots.size ≤ ((1 : Int32)).toNatClampNeg) := inb_of Sz9 ⟨by decide, by decide⟩
  have c10 := ((E_w_Outcome_UNDETERMINED.ext E1).wr W6)
  obtain ⟨T11, h11, X11, e11, W11, st11⟩ := stR X8 hx hZ e8 Ar9 (j := (1 : Int32)) hin9 rfl (Sto.ofV Ar9 qq9 O1 (Ins.self c10)) (g := (mkF m 15 #[iv p0, iv p1, .unset, .unset, .unset, .unset, .unset] [(.ref w_Outcome_UNDETERMINED), (.int (1 : Int32)), (.ref b0_1), (.ref b0_1)])) rfl rfl (hb hby at_15)
  have vb11 : Arv Z h11 b0_1 k0_1 (.object "com/example/shapewell/shapewell/Outcome") (3 : Int32) [(.ref w_Outcome_VIOLATES), (.ref w_Outcome_UNDETERMINED), .null] .null := Arv.set Ar9 qq9 Sz9 Nn9 Hs9 Gs9 rfl W11 1 rfl (Nat.le_of_ble_eq_true rfl)
  have Z11 : n0 ≤ h11.size := Nat.le_trans Z6 (Keep.of_wr W11).1
  have KK11 : Keep h0 h11 [] := KK6.wr W11 (Or.inr sz_b0_1)
  have N11 := Fr.snoc X11 N6 g_b0_1
  have c12 := (((S_Outcome_CONFORMS.ext E1).wr W6).wr W11)
  obtain ⟨T13, X13, e13, st13⟩ := getS2 X11 hx hZ hown (host := "") (Or.inl (hw _ (List.mem_of_getElem? (i := 8) rfl))) Via.refl e11 c12 (g := (mkF m 18 #[iv p0, iv p1, .unset, .unset, .unset, .unset, .unset] [(.int (2 : Int32)), (.ref b0_1), (.ref b0_1)])) rfl (hb hby at_18)
  obtain ⟨cl14, Ar14, qq14, Sz14, Nn14, Hs14, Gs14⟩ := id vb11
  have hin14 : ¬ ((2 : Int32) < 0 ∨ cl14.slots.size ≤ ((2 : Int32)).toNatClampNeg) := inb_of Sz14 ⟨by decide, by decide⟩
  have c15 := (((E_w_Outcome_CONFORMS.ext E1).wr W6).wr W11)
  obtain ⟨T16, h16, X16, e16, W16, st16⟩ := stR X13 hx hZ e13 Ar14 (j := (2 : Int32)) hin14 rfl (Sto.ofV Ar14 qq14 O1 (Ins.self c15)) (g := (mkF m 21 #[iv p0, iv p1, .unset, .unset, .unset, .unset, .unset] [(.ref w_Outcome_CONFORMS), (.int (2 : Int32)), (.ref b0_1), (.ref b0_1)])) rfl rfl (hb hby at_21)
  have vb16 : Arv Z h16 b0_1 k0_1 (.object "com/example/shapewell/shapewell/Outcome") (3 : Int32) [(.ref w_Outcome_VIOLATES), (.ref w_Outcome_UNDETERMINED), (.ref w_Outcome_CONFORMS)] .null := Arv.set Ar14 qq14 Sz14 Nn14 Hs14 Gs14 rfl W16 2 rfl (Nat.le_of_ble_eq_true rfl)
  have Z16 : n0 ≤ h16.size := Nat.le_trans Z11 (Keep.of_wr W16).1
  have KK16 : Keep h0 h16 [] := KK11.wr W16 (Or.inr sz_b0_1)
  have N16 := Fr.snoc X16 N11 g_b0_1
  obtain ⟨cl17, Ar17, -, Sz17, Nn17, Hs17, Gs17⟩ := id vb16
  have hin17 : ¬ ((0 : Int32) < 0 ∨ cl17.slots.size ≤ ((0 : Int32)).toNatClampNeg) := inb_of Sz17 ⟨by decide, by decide⟩
  obtain ⟨cl18, Ar18, -, Sz18, Nn18, Hs18, Gs18⟩ := id vb16
  have hin18 : ¬ ((0 : Int32) < 0 ∨ cl18.slots.size ≤ ((0 : Int32)).toNatClampNeg) := inb_of Sz18 ⟨by decide, by decide⟩
  have c20 := (((c5.wr W6).wr W11).wr W16)
  have ne_b0_1_w_Outcome_VIOLATES_21 : ¬ (b0_1 = w_Outcome_VIOLATES) := (Ne.symm (Nat.ne_of_lt (Nat.lt_of_lt_of_le (E_w_Outcome_VIOLATES).lt (Nat.le_of_eq gg1.symm))))
  have c22 := ((((F_w_Outcome_VIOLATES_ordinal.ext E1).other W6 (Or.inl (Ne.symm ne_b0_1_w_Outcome_VIOLATES_21))).other W11 (Or.inl (Ne.symm ne_b0_1_w_Outcome_VIOLATES_21))).other W16 (Or.inl (Ne.symm ne_b0_1_w_Outcome_VIOLATES_21)))
  obtain ⟨cq19, kq19, q19a, q19b, q19c⟩ := isOf hZ e16 c20
  obtain ⟨_, _, ⟨T19, L19, k19, n19⟩, -, X19, ⟨Lc19, hQ19, l19, y19, z19⟩, st19⟩ := X16.virtualBack hx (y := (⟨"com/example/shapewell/shapewell/Outcome", "and", "(Lcom/example/shapewell/shapewell/Outcome;)Lcom/example/shapewell/shapewell/Outcome;"⟩ : MethodName)) (z := (⟨"com/example/shapewell/shapewell/Outcome", "and", "(Lcom/example/shapewell/shapewell/Outcome;)Lcom/example/shapewell/shapewell/Outcome;"⟩ : MethodName)) hown (mvT hZ (hw _ (List.mem_of_getElem? (i := 11) rfl))) (mvT hZ (hw _ (List.mem_of_getElem? (i := 12) rfl))) (notFace_of_selects (args := #[]) (mvT hZ (hw _ (List.mem_of_getElem? (i := 14) rfl)))) (mvT hZ (hw _ (List.mem_of_getElem? (i := 14) rfl))) (mvT hZ (hw _ (List.mem_of_getElem? (i := 13) rfl))) (by decide) (backOf (W := 0) (rm1_0 l Z a0 hw [] w_Outcome_VIOLATES mr_Outcome h16 n0 Z16 c20 M_mr_Outcome c22) hZ (hw _ (List.mem_of_getElem? (i := 15) rfl)) (hw _ (List.mem_of_getElem? (i := 3) rfl)) (by decide) (by decide)) q19a q19c (g := (mkF m 45 #[iv p0, iv p1, rv b0_1, rv w_Outcome_VIOLATES, rv w_Outcome_VIOLATES, .unset, .unset] [(.ref w_Outcome_VIOLATES), (.ref w_Outcome_VIOLATES)])) rfl (by rw [hml]; rfl) (Steps.refl _) (argsL := [(.ref w_Outcome_VIOLATES)]) (rest := []) (lenOf pd_1 rfl) rfl (by show 2 * 0 + _ ≤ _; exact Nat.le_of_eq rfl) (hb hby at_45) (fun _ _ => ⟨rfl, e16, (by decide : 1 + 0 ≤ _), (by decide : 3 + 0 ≤ _)⟩)
  dsimp only [Pt.U, Pt.locs, Pt.cells, Pt.slots] at X19 l19 y19 z19 st19 hQ19
  subst l19 y19 z19
  obtain ⟨rfl, N19q, e19⟩ := hQ19
  have N19 := Fr.app N16 N19q
  have c23 := (((c2.wr W6).wr W11).wr W16)
  obtain ⟨T24, X24, e24, st24⟩ := getS2 X19 hx hZ hown (host := "") (Or.inl (hw _ (List.mem_of_getElem? (i := 2) rfl))) Via.refl e19 c23 (g := (mkF m 51 #[iv p0, iv p1, rv b0_1, rv w_Outcome_VIOLATES, rv w_Outcome_VIOLATES, rv w_Outcome_VIOLATES, .unset] [(.ref w_Outcome_VIOLATES)])) rfl (hb hby at_51)
  obtain ⟨T25, X25, e25, st25⟩ := getS2 X24 hx hZ hown (host := "") (Or.inl (hw _ (List.mem_of_getElem? (i := 2) rfl))) Via.refl e24 c23 (g := (mkF m 65 #[iv p0, iv p1, rv b0_1, rv w_Outcome_VIOLATES, rv w_Outcome_VIOLATES, rv w_Outcome_VIOLATES, .unset] [])) rfl (hb hby at_65)
  obtain ⟨fs, hr, hrun, hended, hW, hsame⟩ := X25.leave (v := (some (.int (1 : Int32)))) (fun h => by rw [Bd.returns] at h; cases h)
  refine ⟨_, _, pre0 _ ?_, hrun, hended, _, _, rfl, ?_, ⟨_, rfl⟩, hW, hsame.mono (by decide) (by decide)⟩
  · show Steps p.tables e below (s₁.setTop (mkF m 0 #[iv p0, iv p1, .unset, .unset, .unset, .unset, .unset] [])) _
    refine XS.iconst X0.here hx rfl (hb hby at_0) ?_
    show Steps p.tables e below (s₁.setTop (mkF m 1 #[iv p0, iv p1, .unset, .unset, .unset, .unset, .unset] [(.int (3 : Int32))])) _
    refine st1 _ ?_
    show Steps p.tables e below (T1.setTop (mkF m 4 #[iv p0, iv p1, .unset, .unset, .unset, .unset, .unset] [(.ref b0_1)])) _
    refine XS.dup X1.here hx rfl (hb hby at_4) rfl rfl ?_
    show Steps p.tables e below (T1.setTop (mkF m 5 #[iv p0, iv p1, .unset, .unset, .unset, .unset, .unset] [(.ref b0_1), (.ref b0_1)])) _
    refine XS.iconst X1.here hx rfl (hb hby at_5) ?_
    show Steps p.tables e below (T1.setTop (mkF m 6 #[iv p0, iv p1, .unset, .unset, .unset, .unset, .unset] [(.int (0 : Int32)), (.ref b0_1), (.ref b0_1)])) _
    refine st3 _ ?_
    show Steps p.tables e below (T3.setTop (mkF m 9 #[iv p0, iv p1, .unset, .unset, .unset, .unset, .unset] [(.ref w_Outcome_VIOLATES), (.int (0 : Int32)), (.ref b0_1), (.ref b0_1)])) _
    refine st6 _ ?_
    show Steps p.tables e below (T6.setTop (mkF m 10 #[iv p0, iv p1, .unset, .unset, .unset, .unset, .unset] [(.ref b0_1)])) _
    refine XS.dup X6.here hx rfl (hb hby at_10) rfl rfl ?_
    show Steps p.tables e below (T6.setTop (mkF m 11 #[iv p0, iv p1, .unset, .unset, .unset, .unset, .unset] [(.ref b0_1), (.ref b0_1)])) _
    refine XS.iconst X6.here hx rfl (hb hby at_11) ?_
    show Steps p.tables e below (T6.setTop (mkF m 12 #[iv p0, iv p1, .unset, .unset, .unset, .unset, .unset] [(.int (1 : Int32)), (.ref b0_1), (.ref b0_1)])) _
    refine st8 _ ?_
    show Steps p.tables e below (T8.setTop (mkF m 15 #[iv p0, iv p1, .unset, .unset, .unset, .unset, .unset] [(.ref w_Outcome_UNDETERMINED), (.int (1 : Int32)), (.ref b0_1), (.ref b0_1)])) _
    refine st11 _ ?_
    show Steps p.tables e below (T11.setTop (mkF m 16 #[iv p0, iv p1, .unset, .unset, .unset, .unset, .unset] [(.ref b0_1)])) _
    refine XS.dup X11.here hx rfl (hb hby at_16) rfl rfl ?_
    show Steps p.tables e below (T11.setTop (mkF m 17 #[iv p0, iv p1, .unset, .unset, .unset, .unset, .unset] [(.ref b0_1), (.ref b0_1)])) _
    refine XS.iconst X11.here hx rfl (hb hby at_17) ?_
    show Steps p.tables e below (T11.setTop (mkF m 18 #[iv p0, iv p1, .unset, .unset, .unset, .unset, .unset] [(.int (2 : Int32)), (.ref b0_1), (.ref b0_1)])) _
    refine st13 _ ?_
    show Steps p.tables e below (T13.setTop (mkF m 21 #[iv p0, iv p1, .unset, .unset, .unset, .unset, .unset] [(.ref w_Outcome_CONFORMS), (.int (2 : Int32)), (.ref b0_1), (.ref b0_1)])) _
    refine st16 _ ?_
    show Steps p.tables e below (T16.setTop (mkF m 22 #[iv p0, iv p1, .unset, .unset, .unset, .unset, .unset] [(.ref b0_1)])) _
    refine XS.astoreN X16.here hx rfl (hb hby at_22) rfl rfl (l' := #[iv p0, iv p1, rv b0_1, .unset, .unset, .unset, .unset]) rfl ?_
    show Steps p.tables e below (T16.setTop (mkF m 23 #[iv p0, iv p1, rv b0_1, .unset, .unset, .unset, .unset] [])) _
    refine XS.aloadN X16.here hx rfl (hb hby at_23) rfl rfl ?_
    show Steps p.tables e below (T16.setTop (mkF m 24 #[iv p0, iv p1, rv b0_1, .unset, .unset, .unset, .unset] [(.ref b0_1)])) _
    refine XS.iloadN X16.here hx rfl (hb hby at_24) rfl ?_
    show Steps p.tables e below (T16.setTop (mkF m 25 #[iv p0, iv p1, rv b0_1, .unset, .unset, .unset, .unset] [(.int p0), (.ref b0_1)])) _
    refine X16.ldcInt hx hown (mvT hZ (hw _ (List.mem_of_getElem? (i := 10) rfl))) (g := (mkF m 25 #[iv p0, iv p1, rv b0_1, .unset, .unset, .unset, .unset] [(.int p0), (.ref b0_1)])) rfl (hb hby at_25) _ ?_
    show Steps p.tables e below (T16.setTop (mkF m 27 #[iv p0, iv p1, rv b0_1, .unset, .unset, .unset, .unset] [(.int (2147483647 : Int32)), (.int p0), (.ref b0_1)])) _
    refine XS.iand X16.here hx rfl (hb hby at_27) rfl ?_
    show Steps p.tables e below (T16.setTop (mkF m 28 #[iv p0, iv p1, rv b0_1, .unset, .unset, .unset, .unset] [(.int (p0 &&& (2147483647 : Int32))), (.ref b0_1)])) _
    refine XS.iconst X16.here hx rfl (hb hby at_28) ?_
    show Steps p.tables e below (T16.setTop (mkF m 29 #[iv p0, iv p1, rv b0_1, .unset, .unset, .unset, .unset] [(.int (3 : Int32)), (.int (p0 &&& (2147483647 : Int32))), (.ref b0_1)])) _
    refine iremM X16 hx rfl (hb hby at_29) rfl (by decide) ?_
    show Steps p.tables e below (T16.setTop (mkF m 30 #[iv p0, iv p1, rv b0_1, .unset, .unset, .unset, .unset] [(.int ((p0 &&& (2147483647 : Int32)) % (3 : Int32))), (.ref b0_1)])) _
    rewrite [hk0]
    show Steps p.tables e below (T16.setTop (mkF m 30 #[iv p0, iv p1, rv b0_1, .unset, .unset, .unset, .unset] [(.int (0 : Int32)), (.ref b0_1)])) _
    refine X16.aaload hx (j := (0 : Int32)) (v := (.ref w_Outcome_VIOLATES)) (by rw [e16]; exact Ar17.1) (State.isArrayOf_alike hZ.alike Ar17.2.1) rfl Ar17.2.2 hin17 (Hs17.at hin17 rfl) (g := (mkF m 30 #[iv p0, iv p1, rv b0_1, .unset, .unset, .unset, .unset] [(.int (0 : Int32)), (.ref b0_1)])) rfl rfl (hb hby at_30) _ ?_
    show Steps p.tables e below (T16.setTop (mkF m 31 #[iv p0, iv p1, rv b0_1, .unset, .unset, .unset, .unset] [(.ref w_Outcome_VIOLATES)])) _
    refine XS.astoreN X16.here hx rfl (hb hby at_31) rfl rfl (l' := #[iv p0, iv p1, rv b0_1, rv w_Outcome_VIOLATES, .unset, .unset, .unset]) rfl ?_
    show Steps p.tables e below (T16.setTop (mkF m 32 #[iv p0, iv p1, rv b0_1, rv w_Outcome_VIOLATES, .unset, .unset, .unset] [])) _
    refine XS.aloadN X16.here hx rfl (hb hby at_32) rfl rfl ?_
    show Steps p.tables e below (T16.setTop (mkF m 33 #[iv p0, iv p1, rv b0_1, rv w_Outcome_VIOLATES, .unset, .unset, .unset] [(.ref b0_1)])) _
    refine XS.iloadN X16.here hx rfl (hb hby at_33) rfl ?_
    show Steps p.tables e below (T16.setTop (mkF m 34 #[iv p0, iv p1, rv b0_1, rv w_Outcome_VIOLATES, .unset, .unset, .unset] [(.int p1), (.ref b0_1)])) _
    refine X16.ldcInt hx hown (mvT hZ (hw _ (List.mem_of_getElem? (i := 10) rfl))) (g := (mkF m 34 #[iv p0, iv p1, rv b0_1, rv w_Outcome_VIOLATES, .unset, .unset, .unset] [(.int p1), (.ref b0_1)])) rfl (hb hby at_34) _ ?_
    show Steps p.tables e below (T16.setTop (mkF m 36 #[iv p0, iv p1, rv b0_1, rv w_Outcome_VIOLATES, .unset, .unset, .unset] [(.int (2147483647 : Int32)), (.int p1), (.ref b0_1)])) _
    refine XS.iand X16.here hx rfl (hb hby at_36) rfl ?_
    show Steps p.tables e below (T16.setTop (mkF m 37 #[iv p0, iv p1, rv b0_1, rv w_Outcome_VIOLATES, .unset, .unset, .unset] [(.int (p1 &&& (2147483647 : Int32))), (.ref b0_1)])) _
    refine XS.iconst X16.here hx rfl (hb hby at_37) ?_
    show Steps p.tables e below (T16.setTop (mkF m 38 #[iv p0, iv p1, rv b0_1, rv w_Outcome_VIOLATES, .unset, .unset, .unset] [(.int (3 : Int32)), (.int (p1 &&& (2147483647 : Int32))), (.ref b0_1)])) _
    refine iremM X16 hx rfl (hb hby at_38) rfl (by decide) ?_
    show Steps p.tables e below (T16.setTop (mkF m 39 #[iv p0, iv p1, rv b0_1, rv w_Outcome_VIOLATES, .unset, .unset, .unset] [(.int ((p1 &&& (2147483647 : Int32)) % (3 : Int32))), (.ref b0_1)])) _
    rewrite [hk1]
    show Steps p.tables e below (T16.setTop (mkF m 39 #[iv p0, iv p1, rv b0_1, rv w_Outcome_VIOLATES, .unset, .unset, .unset] [(.int (0 : Int32)), (.ref b0_1)])) _
    refine X16.aaload hx (j := (0 : Int32)) (v := (.ref w_Outcome_VIOLATES)) (by rw [e16]; exact Ar18.1) (State.isArrayOf_alike hZ.alike Ar18.2.1) rfl Ar18.2.2 hin18 (Hs18.at hin18 rfl) (g := (mkF m 39 #[iv p0, iv p1, rv b0_1, rv w_Outcome_VIOLATES, .unset, .unset, .unset] [(.int (0 : Int32)), (.ref b0_1)])) rfl rfl (hb hby at_39) _ ?_
    show Steps p.tables e below (T16.setTop (mkF m 40 #[iv p0, iv p1, rv b0_1, rv w_Outcome_VIOLATES, .unset, .unset, .unset] [(.ref w_Outcome_VIOLATES)])) _
    refine XS.astore X16.here hx rfl (hb hby at_40) rfl rfl (l' := #[iv p0, iv p1, rv b0_1, rv w_Outcome_VIOLATES, rv w_Outcome_VIOLATES, .unset, .unset]) rfl ?_
    show Steps p.tables e below (T16.setTop (mkF m 42 #[iv p0, iv p1, rv b0_1, rv w_Outcome_VIOLATES, rv w_Outcome_VIOLATES, .unset, .unset] [])) _
    refine XS.aloadN X16.here hx rfl (hb hby at_42) rfl rfl ?_
    show Steps p.tables e below (T16.setTop (mkF m 43 #[iv p0, iv p1, rv b0_1, rv w_Outcome_VIOLATES, rv w_Outcome_VIOLATES, .unset, .unset] [(.ref w_Outcome_VIOLATES)])) _
    refine XS.aload X16.here hx rfl (hb hby at_43) rfl rfl ?_
    show Steps p.tables e below (T16.setTop (mkF m 45 #[iv p0, iv p1, rv b0_1, rv w_Outcome_VIOLATES, rv w_Outcome_VIOLATES, .unset, .unset] [(.ref w_Outcome_VIOLATES), (.ref w_Outcome_VIOLATES)])) _
    refine st19.trans ?_
    show Steps p.tables e below (T19.setTop (mkF m 48 #[iv p0, iv p1, rv b0_1, rv w_Outcome_VIOLATES, rv w_Outcome_VIOLATES, .unset, .unset] [(.ref w_Outcome_VIOLATES)])) _
    refine XS.astore X19.here hx rfl (hb hby at_48) rfl rfl (l' := #[iv p0, iv p1, rv b0_1, rv w_Outcome_VIOLATES, rv w_Outcome_VIOLATES, rv w_Outcome_VIOLATES, .unset]) rfl ?_
    show Steps p.tables e below (T19.setTop (mkF m 50 #[iv p0, iv p1, rv b0_1, rv w_Outcome_VIOLATES, rv w_Outcome_VIOLATES, rv w_Outcome_VIOLATES, .unset] [])) _
    refine XS.aloadN X19.here hx rfl (hb hby at_50) rfl rfl ?_
    show Steps p.tables e below (T19.setTop (mkF m 51 #[iv p0, iv p1, rv b0_1, rv w_Outcome_VIOLATES, rv w_Outcome_VIOLATES, rv w_Outcome_VIOLATES, .unset] [(.ref w_Outcome_VIOLATES)])) _
    refine st24 _ ?_
    show Steps p.tables e below (T24.setTop (mkF m 54 #[iv p0, iv p1, rv b0_1, rv w_Outcome_VIOLATES, rv w_Outcome_VIOLATES, rv w_Outcome_VIOLATES, .unset] [(.ref w_Outcome_VIOLATES), (.ref w_Outcome_VIOLATES)])) _
    refine Jvm.RoadKit.acmp (g := (mkF m 54 #[iv p0, iv p1, rv b0_1, rv w_Outcome_VIOLATES, rv w_Outcome_VIOLATES, rv w_Outcome_VIOLATES, .unset] [(.ref w_Outcome_VIOLATES), (.ref w_Outcome_VIOLATES)])) X24 hx rfl rfl rfl (pc0 := 54) (pc' := 65) (same := true) rfl (hb hby at_54) rfl (decide_eq_true rfl) (by decide) (by decide) ?_
    show Steps p.tables e below (T24.setTop (mkF m 65 #[iv p0, iv p1, rv b0_1, rv w_Outcome_VIOLATES, rv w_Outcome_VIOLATES, rv w_Outcome_VIOLATES, .unset] [])) _
    refine st25 _ ?_
    show Steps p.tables e below (T25.setTop (mkF m 68 #[iv p0, iv p1, rv b0_1, rv w_Outcome_VIOLATES, rv w_Outcome_VIOLATES, rv w_Outcome_VIOLATES, .unset] [(.ref w_Outcome_VIOLATES)])) _
    refine XS.astore X25.here hx rfl (hb hby at_68) rfl rfl (l' := #[iv p0, iv p1, rv b0_1, rv w_Outcome_VIOLATES, rv w_Outcome_VIOLATES, rv w_Outcome_VIOLATES, rv w_Outcome_VIOLATES]) rfl ?_
    show Steps p.tables e below (T25.setTop (mkF m 70 #[iv p0, iv p1, rv b0_1, rv w_Outcome_VIOLATES, rv w_Outcome_VIOLATES, rv w_Outcome_VIOLATES, rv w_Outcome_VIOLATES] [])) _
    refine XS.goto X25.here hx rfl (pc0 := 70) (pc' := 101) rfl (hb hby at_70) (by decide) (by decide) ?_
    show Steps p.tables e below (T25.setTop (mkF m 101 #[iv p0, iv p1, rv b0_1, rv w_Outcome_VIOLATES, rv w_Outcome_VIOLATES, rv w_Outcome_VIOLATES, rv w_Outcome_VIOLATES] [])) _
    refine XS.aload X25.here hx rfl (hb hby at_101) rfl rfl ?_
    show Steps p.tables e below (T25.setTop (mkF m 103 #[iv p0, iv p1, rv b0_1, rv w_Outcome_VIOLATES, rv w_Outcome_VIOLATES, rv w_Outcome_VIOLATES, rv w_Outcome_VIOLATES] [(.ref w_Outcome_VIOLATES)])) _
    refine XS.aload X25.here hx rfl (hb hby at_103) rfl rfl ?_
    show Steps p.tables e below (T25.setTop (mkF m 105 #[iv p0, iv p1, rv b0_1, rv w_Outcome_VIOLATES, rv w_Outcome_VIOLATES, rv w_Outcome_VIOLATES, rv w_Outcome_VIOLATES] [(.ref w_Outcome_VIOLATES), (.ref w_Outcome_VIOLATES)])) _
    refine Jvm.RoadKit.acmp (g := (mkF m 105 #[iv p0, iv p1, rv b0_1, rv w_Outcome_VIOLATES, rv w_Outcome_VIOLATES, rv w_Outcome_VIOLATES, rv w_Outcome_VIOLATES] [(.ref w_Outcome_VIOLATES), (.ref w_Outcome_VIOLATES)])) X25 hx rfl rfl rfl (pc0 := 105) (pc' := 108) (same := true) rfl (hb hby at_105) rfl (decide_eq_true rfl) (by decide) (by decide) ?_
    show Steps p.tables e below (T25.setTop (mkF m 108 #[iv p0, iv p1, rv b0_1, rv w_Outcome_VIOLATES, rv w_Outcome_VIOLATES, rv w_Outcome_VIOLATES, rv w_Outcome_VIOLATES] [])) _
    refine XS.iconst X25.here hx rfl (hb hby at_108) ?_
    show Steps p.tables e below (T25.setTop (mkF m 109 #[iv p0, iv p1, rv b0_1, rv w_Outcome_VIOLATES, rv w_Outcome_VIOLATES, rv w_Outcome_VIOLATES, rv w_Outcome_VIOLATES] [(.int (1 : Int32))])) _
    refine XS.goto X25.here hx rfl (pc0 := 109) (pc' := 113) rfl (hb hby at_109) (by decide) (by decide) ?_
    show Steps p.tables e below (T25.setTop (mkF m 113 #[iv p0, iv p1, rv b0_1, rv w_Outcome_VIOLATES, rv w_Outcome_VIOLATES, rv w_Outcome_VIOLATES, rv w_Outcome_VIOLATES] [(.int (1 : Int32))])) _
    exact retN X25 hx (t := .boolean) Bd.returns (by simp) (hb hby at_113) hr
  · exact ⟨rfl, N19⟩
set_option maxRecDepth 65536 in
set_option maxHeartbeats 40000000 in
theorem rm2_2 (l : Launch) (Z : State) (a0 : Array Value) (hw : ∀ d ∈ tables_1, d.before a0 Z = true) (ws : List Jvm.Cond) (w_Outcome_VIOLATES : Addr) (w_Outcome_UNDETERMINED : Addr) (mr_Outcome : Addr) (h0 : Heap) (n0 : Nat) (Z0 : n0 ≤ h0.size) (E_w_Outcome_VIOLATES : Exa Z h0 w_Outcome_VIOLATES "com/example/shapewell/shapewell/Outcome") (M_mr_Outcome : own_Mir Z "com/example/shapewell/shapewell/Outcome" mr_Outcome) (E_w_Outcome_UNDETERMINED : Exa Z h0 w_Outcome_UNDETERMINED "com/example/shapewell/shapewell/Outcome") (F_w_Outcome_VIOLATES_ordinal : Fld Z h0 w_Outcome_VIOLATES "java/lang/Enum" "ordinal" "I" (.int (0 : Int32))) (F_w_Outcome_UNDETERMINED_ordinal : Fld Z h0 w_Outcome_UNDETERMINED "java/lang/Enum" "ordinal" "I" (.int (1 : Int32))) :
    MetFree l (⟨"java/lang/Enum", "compareTo", "(Ljava/lang/Enum;)I"⟩ : MethodName) (head1 (Jvm.Cond.code (⟨"java/lang/Enum", "compareTo", "(Ljava/lang/Enum;)I"⟩ : MethodName) jdk_37_method_8_code 4 (some .int) :: ws) ({ frames := 1, cells := 0, slots := 0, locals := 15 } : Room)) (fun a U => a = #[(.ref w_Outcome_VIOLATES), (.ref w_Outcome_UNDETERMINED)] ∧ Z.Warmed39 U.vm ∧ U.heap = h0) (fun _ _ _ _ _ => True) (fun _ U o U' => ∃ v L, o = .returned v ∧ own_QP (some (.int (-1 : Int32))) h0 n0 v U'.heap L ∧ FrameEnd U o U' L ({ frames := 1, cells := 0, slots := 0, locals := 15 } : Room).cells ({ frames := 1, cells := 0, slots := 0, locals := 15 } : Room).slots) := by
  refine MetFree.of_bodySF (plainFor_of_name pn_0) hisR ?_
  intro p e s m args below meth c s₁ Bd hml0 hP hK
  obtain ⟨rfl, hZ, hh⟩ := hP
  have hx := Bd.exec
  have hby := Bd.bytes
  have hml : c.maxLocals = 4 := hml0
  have hown : s.vm.findClass "java/lang/Enum" = some m.cls := findClass_of_methodNamed Bd.named
  have hnm := (name_of_methodNamed Bd.named Bd.method).1
  have X0 : Stand p l e ({ frames := 1, cells := 0, slots := 0, locals := 15 } : Room) s m #[(.ref w_Outcome_VIOLATES), (.ref w_Outcome_UNDETERMINED)] below meth c s₁ [] 0 0 := Stand.of_body Bd
  have e0 : s₁.heap = h0 := by rw [← hh, Bd.state]; rfl
  have N0 := Fr.nil n0
  have pre0 : ∀ t, Steps p.tables e below (s₁.setTop (mkF m 0 #[rv w_Outcome_VIOLATES, rv w_Outcome_UNDETERMINED, .unset, .unset] [])) t → Steps p.tables e below (s₁.setTop (entryFrame m #[(.ref w_Outcome_VIOLATES), (.ref w_Outcome_UNDETERMINED)] 4)) t := fun t k => castTop (ef_2_RR m w_Outcome_VIOLATES w_Outcome_UNDETERMINED) k
  obtain ⟨T1, X1, e1, st1⟩ := own_gcls X0 hx hZ hown (hw _ (List.mem_of_getElem? (i := 23) rfl)) (hw _ (List.mem_of_getElem? (i := 24) rfl)) (hw _ (List.mem_of_getElem? (i := 26) rfl)) (hw _ (List.mem_of_getElem? (i := 25) rfl)) (hw _ (List.mem_of_getElem? (i := 27) rfl)) e0 E_w_Outcome_VIOLATES M_mr_Outcome (g := (mkF m 5 #[rv w_Outcome_VIOLATES, rv w_Outcome_UNDETERMINED, rv w_Outcome_UNDETERMINED, rv w_Outcome_VIOLATES] [(.ref w_Outcome_VIOLATES)])) rfl (by rw [hml]; rfl) rfl (hb hby d2_5) (by decide) (W := 0) (by show 2 * 0 + _ ≤ _; exact Nat.le_of_eq rfl) (by decide)
  obtain ⟨T2, X2, e2, st2⟩ := own_gcls X1 hx hZ hown (hw _ (List.mem_of_getElem? (i := 23) rfl)) (hw _ (List.mem_of_getElem? (i := 24) rfl)) (hw _ (List.mem_of_getElem? (i := 26) rfl)) (hw _ (List.mem_of_getElem? (i := 25) rfl)) (hw _ (List.mem_of_getElem? (i := 27) rfl)) e1 E_w_Outcome_UNDETERMINED M_mr_Outcome (g := (mkF m 9 #[rv w_Outcome_VIOLATES, rv w_Outcome_UNDETERMINED, rv w_Outcome_UNDETERMINED, rv w_Outcome_VIOLATES] [(.ref w_Outcome_UNDETERMINED), (.ref mr_Outcome)])) rfl (by rw [hml]; rfl) rfl (hb hby d2_9) (by decide) (W := 1) (by show 2 * 0 + _ ≤ _; exact Nat.le_of_eq rfl) (by decide)
  obtain ⟨T3, X3, e3, st3⟩ := getF X2 hx hZ hown (host := "") (Or.inl (hw _ (List.mem_of_getElem? (i := 28) rfl))) Via.refl e2 F_w_Outcome_VIOLATES_ordinal (g := (mkF m 35 #[rv w_Outcome_VIOLATES, rv w_Outcome_UNDETERMINED, rv w_Outcome_UNDETERMINED, rv w_Outcome_VIOLATES] [(.ref w_Outcome_VIOLATES)])) rfl rfl (hb hby d2_35)
  obtain ⟨T4, X4, e4, st4⟩ := getF X3 hx hZ hown (host := "") (Or.inl (hw _ (List.mem_of_getElem? (i := 28) rfl))) Via.refl e3 F_w_Outcome_UNDETERMINED_ordinal (g := (mkF m 39 #[rv w_Outcome_VIOLATES, rv w_Outcome_UNDETERMINED, rv w_Outcome_UNDETERMINED, rv w_Outcome_VIOLATES] [(.ref w_Outcome_UNDETERMINED), (.int (0 : Int32))])) rfl rfl (hb hby d2_39)
  obtain ⟨fs, hr, hrun, hended, hW, hsame⟩ := X4.leave (v := (some (.int (-1 : Int32)))) (fun h => by rw [Bd.returns] at h; cases h)
  refine ⟨_, _, pre0 _ ?_, hrun, hended, _, _, rfl, ?_, ⟨_, rfl⟩, hW, hsame.mono (by decide) (by decide)⟩
  · show Steps p.tables e below (s₁.setTop (mkF m 0 #[rv w_Outcome_VIOLATES, rv w_Outcome_UNDETERMINED, .unset, .unset] [])) _
    refine XS.aloadN X0.here hx rfl (hb hby d2_0) rfl rfl ?_
    show Steps p.tables e below (s₁.setTop (mkF m 1 #[rv w_Outcome_VIOLATES, rv w_Outcome_UNDETERMINED, .unset, .unset] [(.ref w_Outcome_UNDETERMINED)])) _
    refine XS.astoreN X0.here hx rfl (hb hby d2_1) rfl rfl (l' := #[rv w_Outcome_VIOLATES, rv w_Outcome_UNDETERMINED, rv w_Outcome_UNDETERMINED, .unset]) rfl ?_
    show Steps p.tables e below (s₁.setTop (mkF m 2 #[rv w_Outcome_VIOLATES, rv w_Outcome_UNDETERMINED, rv w_Outcome_UNDETERMINED, .unset] [])) _
    refine XS.aloadN X0.here hx rfl (hb hby d2_2) rfl rfl ?_
    show Steps p.tables e below (s₁.setTop (mkF m 3 #[rv w_Outcome_VIOLATES, rv w_Outcome_UNDETERMINED, rv w_Outcome_UNDETERMINED, .unset] [(.ref w_Outcome_VIOLATES)])) _
    refine XS.astoreN X0.here hx rfl (hb hby d2_3) rfl rfl (l' := #[rv w_Outcome_VIOLATES, rv w_Outcome_UNDETERMINED, rv w_Outcome_UNDETERMINED, rv w_Outcome_VIOLATES]) rfl ?_
    show Steps p.tables e below (s₁.setTop (mkF m 4 #[rv w_Outcome_VIOLATES, rv w_Outcome_UNDETERMINED, rv w_Outcome_UNDETERMINED, rv w_Outcome_VIOLATES] [])) _
    refine XS.aloadN X0.here hx rfl (hb hby d2_4) rfl rfl ?_
    show Steps p.tables e below (s₁.setTop (mkF m 5 #[rv w_Outcome_VIOLATES, rv w_Outcome_UNDETERMINED, rv w_Outcome_UNDETERMINED, rv w_Outcome_VIOLATES] [(.ref w_Outcome_VIOLATES)])) _
    refine st1 _ ?_
    show Steps p.tables e below (T1.setTop (mkF m 8 #[rv w_Outcome_VIOLATES, rv w_Outcome_UNDETERMINED, rv w_Outcome_UNDETERMINED, rv w_Outcome_VIOLATES] [(.ref mr_Outcome)])) _
    refine XS.aloadN X1.here hx rfl (hb hby d2_8) rfl rfl ?_
    show Steps p.tables e below (T1.setTop (mkF m 9 #[rv w_Outcome_VIOLATES, rv w_Outcome_UNDETERMINED, rv w_Outcome_UNDETERMINED, rv w_Outcome_VIOLATES] [(.ref w_Outcome_UNDETERMINED), (.ref mr_Outcome)])) _
    refine st2 _ ?_
    show Steps p.tables e below (T2.setTop (mkF m 12 #[rv w_Outcome_VIOLATES, rv w_Outcome_UNDETERMINED, rv w_Outcome_UNDETERMINED, rv w_Outcome_VIOLATES] [(.ref mr_Outcome), (.ref mr_Outcome)])) _
    refine Jvm.RoadKit.acmp (g := (mkF m 12 #[rv w_Outcome_VIOLATES, rv w_Outcome_UNDETERMINED, rv w_Outcome_UNDETERMINED, rv w_Outcome_VIOLATES] [(.ref mr_Outcome), (.ref mr_Outcome)])) X2 hx rfl rfl rfl (pc0 := 12) (pc' := 34) (same := true) rfl (hb hby d2_12) rfl (decide_eq_true rfl) (by decide) (by decide) ?_
    show Steps p.tables e below (T2.setTop (mkF m 34 #[rv w_Outcome_VIOLATES, rv w_Outcome_UNDETERMINED, rv w_Outcome_UNDETERMINED, rv w_Outcome_VIOLATES] [])) _
    refine XS.aloadN X2.here hx rfl (hb hby d2_34) rfl rfl ?_
    show Steps p.tables e below (T2.setTop (mkF m 35 #[rv w_Outcome_VIOLATES, rv w_Outcome_UNDETERMINED, rv w_Outcome_UNDETERMINED, rv w_Outcome_VIOLATES] [(.ref w_Outcome_VIOLATES)])) _
    refine st3 _ ?_
    show Steps p.tables e below (T3.setTop (mkF m 38 #[rv w_Outcome_VIOLATES, rv w_Outcome_UNDETERMINED, rv w_Outcome_UNDETERMINED, rv w_Outcome_VIOLATES] [(.int (0 : Int32))])) _
    refine XS.aloadN X3.here hx rfl (hb hby d2_38) rfl rfl ?_
    show Steps p.tables e below (T3.setTop (mkF m 39 #[rv w_Outcome_VIOLATES, rv w_Outcome_UNDETERMINED, rv w_Outcome_UNDETERMINED, rv w_Outcome_VIOLATES] [(.ref w_Outcome_UNDETERMINED), (.int (0 : Int32))])) _
    refine st4 _ ?_
    show Steps p.tables e below (T4.setTop (mkF m 42 #[rv w_Outcome_VIOLATES, rv w_Outcome_UNDETERMINED, rv w_Outcome_UNDETERMINED, rv w_Outcome_VIOLATES] [(.int (1 : Int32)), (.int (0 : Int32))])) _
    refine XS.isub X4.here hx rfl (hb hby d2_42) rfl ?_
    show Steps p.tables e below (T4.setTop (mkF m 43 #[rv w_Outcome_VIOLATES, rv w_Outcome_UNDETERMINED, rv w_Outcome_UNDETERMINED, rv w_Outcome_VIOLATES] [(.int ((0 : Int32) - (1 : Int32)))])) _
    rewrite [show ((0 : Int32) - (1 : Int32)) = (-1 : Int32) from by decide +kernel]
    show Steps p.tables e below (T4.setTop (mkF m 43 #[rv w_Outcome_VIOLATES, rv w_Outcome_UNDETERMINED, rv w_Outcome_UNDETERMINED, rv w_Outcome_VIOLATES] [(.int (-1 : Int32))])) _
    exact retI X4 hx Bd.returns (hb hby d2_43) hr
  · exact ⟨rfl, N0, e4⟩
set_option maxRecDepth 65536 in
set_option maxHeartbeats 40000000 in
theorem rm1_2 (l : Launch) (Z : State) (a0 : Array Value) (hw : ∀ d ∈ tables_1, d.before a0 Z = true) (ws : List Jvm.Cond) (w_Outcome_VIOLATES : Addr) (w_Outcome_UNDETERMINED : Addr) (mr_Outcome : Addr) (h0 : Heap) (n0 : Nat) (Z0 : n0 ≤ h0.size) (E_w_Outcome_VIOLATES : Exa Z h0 w_Outcome_VIOLATES "com/example/shapewell/shapewell/Outcome") (M_mr_Outcome : own_Mir Z "com/example/shapewell/shapewell/Outcome" mr_Outcome) (E_w_Outcome_UNDETERMINED : Exa Z h0 w_Outcome_UNDETERMINED "com/example/shapewell/shapewell/Outcome") (F_w_Outcome_VIOLATES_ordinal : Fld Z h0 w_Outcome_VIOLATES "java/lang/Enum" "ordinal" "I" (.int (0 : Int32))) (F_w_Outcome_UNDETERMINED_ordinal : Fld Z h0 w_Outcome_UNDETERMINED "java/lang/Enum" "ordinal" "I" (.int (1 : Int32))) :
    MetFree l (⟨"com/example/shapewell/shapewell/Outcome", "and", "(Lcom/example/shapewell/shapewell/Outcome;)Lcom/example/shapewell/shapewell/Outcome;"⟩ : MethodName) (head1 (Jvm.Cond.code (⟨"com/example/shapewell/shapewell/Outcome", "and", "(Lcom/example/shapewell/shapewell/Outcome;)Lcom/example/shapewell/shapewell/Outcome;"⟩ : MethodName) prog_3_method_5_code 2 (some (.object "com/example/shapewell/shapewell/Outcome")) :: ws) ({ frames := 2, cells := 0, slots := 0, locals := 30 } : Room)) (fun a U => a = #[(.ref w_Outcome_VIOLATES), (.ref w_Outcome_UNDETERMINED)] ∧ Z.Warmed39 U.vm ∧ U.heap = h0) (fun _ _ _ _ _ => True) (fun _ U o U' => ∃ v L, o = .returned v ∧ own_QP (some (.ref w_Outcome_VIOLATES)) h0 n0 v U'.heap L ∧ FrameEnd U o U' L ({ frames := 2, cells := 0, slots := 0, locals := 30 } : Room).cells ({ frames := 2, cells := 0, slots := 0, locals := 30 } : Room).slots) := by
  refine MetFree.of_bodySF (plainFor_of_name pn_1) hisR ?_
  intro p e s m args below meth c s₁ Bd hml0 hP hK
  obtain ⟨rfl, hZ, hh⟩ := hP
  have hx := Bd.exec
  have hby := Bd.bytes
  have hml : c.maxLocals = 2 := hml0
  have hown : s.vm.findClass "com/example/shapewell/shapewell/Outcome" = some m.cls := findClass_of_methodNamed Bd.named
  have hnm := (name_of_methodNamed Bd.named Bd.method).1
  have X0 : Stand p l e ({ frames := 2, cells := 0, slots := 0, locals := 30 } : Room) s m #[(.ref w_Outcome_VIOLATES), (.ref w_Outcome_UNDETERMINED)] below meth c s₁ [] 0 0 := Stand.of_body Bd
  have e0 : s₁.heap = h0 := by rw [← hh, Bd.state]; rfl
  have N0 := Fr.nil n0
  have pre0 : ∀ t, Steps p.tables e below (s₁.setTop (mkF m 0 #[rv w_Outcome_VIOLATES, rv w_Outcome_UNDETERMINED] [])) t → Steps p.tables e below (s₁.setTop (entryFrame m #[(.ref w_Outcome_VIOLATES), (.ref w_Outcome_UNDETERMINED)] 2)) t := fun t k => castTop (ef_1_RR m w_Outcome_VIOLATES w_Outcome_UNDETERMINED) k
  obtain ⟨cq1, kq1, q1a, q1b, q1c⟩ := isOf hZ e0 E_w_Outcome_VIOLATES
  obtain ⟨_, _, ⟨T1, L1, k1, n1⟩, -, X1, ⟨Lc1, hQ1, l1, y1, z1⟩, st1⟩ := X0.virtualBackUp hx (x := (⟨"com/example/shapewell/shapewell/Outcome", "compareTo", "(Ljava/lang/Enum;)I"⟩ : MethodName)) (y := (⟨"java/lang/Enum", "compareTo", "(Ljava/lang/Enum;)I"⟩ : MethodName)) hown (mvT hZ (hw _ (List.mem_of_getElem? (i := 16) rfl))) (mvT hZ (hw _ (List.mem_of_getElem? (i := 17) rfl))) (mvT hZ (hw _ (List.mem_of_getElem? (i := 18) rfl))) (by decide) (mvT hZ (hw _ (List.mem_of_getElem? (i := 20) rfl))) (mvT hZ (hw _ (List.mem_of_getElem? (i := 19) rfl))) (backOf (W := 0) (rm2_2 l Z a0 hw [] w_Outcome_VIOLATES w_Outcome_UNDETERMINED mr_Outcome h0 n0 Z0 E_w_Outcome_VIOLATES M_mr_Outcome E_w_Outcome_UNDETERMINED F_w_Outcome_VIOLATES_ordinal F_w_Outcome_UNDETERMINED_ordinal) hZ (hw _ (List.mem_of_getElem? (i := 22) rfl)) (hw _ (List.mem_of_getElem? (i := 21) rfl)) (by decide) (by decide)) q1a q1c (g := (mkF m 2 #[rv w_Outcome_VIOLATES, rv w_Outcome_UNDETERMINED] [(.ref w_Outcome_UNDETERMINED), (.ref w_Outcome_VIOLATES)])) rfl (by rw [hml]; rfl) (Steps.refl _) (argsL := [(.ref w_Outcome_UNDETERMINED)]) (rest := []) (lenOf pd_0 rfl) rfl (by show 2 * 0 + _ ≤ _; exact Nat.le_of_eq rfl) (hb hby d1_2) (fun _ _ => ⟨rfl, e0, (by decide : 0 + 0 ≤ _), (by decide : 0 + 0 ≤ _)⟩)
  dsimp only [Pt.U, Pt.locs, Pt.cells, Pt.slots] at X1 l1 y1 z1 st1 hQ1
  subst l1 y1 z1
  obtain ⟨rfl, N1q, e1⟩ := hQ1
  have N1 := Fr.app N0 N1q
  obtain ⟨fs, hr, hrun, hended, hW, hsame⟩ := X1.leave (v := (some (.ref w_Outcome_VIOLATES))) (fun h => by rw [Bd.returns] at h; cases h)
  refine ⟨_, _, pre0 _ ?_, hrun, hended, _, _, rfl, ?_, ⟨_, rfl⟩, hW, hsame.mono (by decide) (by decide)⟩
  · show Steps p.tables e below (s₁.setTop (mkF m 0 #[rv w_Outcome_VIOLATES, rv w_Outcome_UNDETERMINED] [])) _
    refine XS.aloadN X0.here hx rfl (hb hby d1_0) rfl rfl ?_
    show Steps p.tables e below (s₁.setTop (mkF m 1 #[rv w_Outcome_VIOLATES, rv w_Outcome_UNDETERMINED] [(.ref w_Outcome_VIOLATES)])) _
    refine XS.aloadN X0.here hx rfl (hb hby d1_1) rfl rfl ?_
    show Steps p.tables e below (s₁.setTop (mkF m 2 #[rv w_Outcome_VIOLATES, rv w_Outcome_UNDETERMINED] [(.ref w_Outcome_UNDETERMINED), (.ref w_Outcome_VIOLATES)])) _
    refine st1.trans ?_
    show Steps p.tables e below (T1.setTop (mkF m 5 #[rv w_Outcome_VIOLATES, rv w_Outcome_UNDETERMINED] [(.int (-1 : Int32))])) _
    refine XS.ifNo X1.here hx rfl (hb hby d1_5) rfl ((if0 _ _).trans (flt (by decide +kernel : ¬ ((0 : Int32) < (-1 : Int32)))).2.2.1) ?_
    show Steps p.tables e below (T1.setTop (mkF m 8 #[rv w_Outcome_VIOLATES, rv w_Outcome_UNDETERMINED] [])) _
    refine XS.aloadN X1.here hx rfl (hb hby d1_8) rfl rfl ?_
    show Steps p.tables e below (T1.setTop (mkF m 9 #[rv w_Outcome_VIOLATES, rv w_Outcome_UNDETERMINED] [(.ref w_Outcome_VIOLATES)])) _
    refine XS.goto X1.here hx rfl (pc0 := 9) (pc' := 13) rfl (hb hby d1_9) (by decide) (by decide) ?_
    show Steps p.tables e below (T1.setTop (mkF m 13 #[rv w_Outcome_VIOLATES, rv w_Outcome_UNDETERMINED] [(.ref w_Outcome_VIOLATES)])) _
    exact own_retA X1 hx Bd.returns rfl rfl (hb hby d1_13) hr
  · exact ⟨rfl, N1, e1⟩
set_option maxRecDepth 65536 in
set_option maxHeartbeats 40000000 in
theorem rm0_1 (l : Launch) (Z : State) (a0 : Array Value) (hw : ∀ d ∈ tables_1, d.before a0 Z = true) (ws : List Jvm.Cond) (p0 : Int32) (p1 : Int32) (w_Outcome_VIOLATES : Addr) (w_Outcome_UNDETERMINED : Addr) (w_Outcome_CONFORMS : Addr) (mr_Outcome : Addr) (h0 : Heap) (n0 : Nat) (Z0 : n0 ≤ h0.size) (S_Outcome_VIOLATES : Sta Z h0 "com/example/shapewell/shapewell/Outcome" "VIOLATES" "Lcom/example/shapewell/shapewell/Outcome;" (.ref w_Outcome_VIOLATES)) (E_w_Outcome_VIOLATES : Exa Z h0 w_Outcome_VIOLATES "com/example/shapewell/shapewell/Outcome") (S_Outcome_UNDETERMINED : Sta Z h0 "com/example/shapewell/shapewell/Outcome" "UNDETERMINED" "Lcom/example/shapewell/shapewell/Outcome;" (.ref w_Outcome_UNDETERMINED)) (E_w_Outcome_UNDETERMINED : Exa Z h0 w_Outcome_UNDETERMINED "com/example/shapewell/shapewell/Outcome") (S_Outcome_CONFORMS : Sta Z h0 "com/example/shapewell/shapewell/Outcome" "CONFORMS" "Lcom/example/shapewell/shapewell/Outcome;" (.ref w_Outcome_CONFORMS)) (E_w_Outcome_CONFORMS : Exa Z h0 w_Outcome_CONFORMS "com/example/shapewell/shapewell/Outcome") (hk0 : ((p0 &&& (2147483647 : Int32)) % (3 : Int32)) = (0 : Int32)) (hk1 : ((p1 &&& (2147483647 : Int32)) % (3 : Int32)) = (1 : Int32)) (M_mr_Outcome : own_Mir Z "com/example/shapewell/shapewell/Outcome" mr_Outcome) (F_w_Outcome_VIOLATES_ordinal : Fld Z h0 w_Outcome_VIOLATES "java/lang/Enum" "ordinal" "I" (.int (0 : Int32))) (F_w_Outcome_UNDETERMINED_ordinal : Fld Z h0 w_Outcome_UNDETERMINED "java/lang/Enum" "ordinal" "I" (.int (1 : Int32))) :
    MetFree l x (head1 (Jvm.Cond.code x code maxLocals ret :: ws) room_1) (fun a U => a = #[(.int p0), (.int p1)] ∧ Z.Warmed39 U.vm ∧ U.heap = h0) (fun _ _ _ _ _ => True) (fun _ U o U' => ∃ v L, o = .returned v ∧ own_QL n0 v U'.heap L ∧ FrameEnd U o U' L room_1.cells room_1.slots) := by
  refine MetFree.of_bodySF (plainFor_of_name pn_2) hisR ?_
  intro p e s m args below meth c s₁ Bd hml0 hP hK
  obtain ⟨rfl, hZ, hh⟩ := hP
  have hx := Bd.exec
  have hby := Bd.bytes
  have hml : c.maxLocals = 7 := hml0
  have hown : s.vm.findClass "com/example/shapewell/shapewell/OutcomeAndPinLaw" = some m.cls := findClass_of_methodNamed Bd.named
  have hnm := (name_of_methodNamed Bd.named Bd.method).1
  have X0 : Stand p l e room_1 s m #[(.int p0), (.int p1)] below meth c s₁ [] 0 0 := Stand.of_body Bd
  have e0 : s₁.heap = h0 := by rw [← hh, Bd.state]; rfl
  have N0 := Fr.nil n0
  have pre0 : ∀ t, Steps p.tables e below (s₁.setTop (mkF m 0 #[iv p0, iv p1, .unset, .unset, .unset, .unset, .unset] [])) t → Steps p.tables e below (s₁.setTop (entryFrame m #[(.int p0), (.int p1)] maxLocals)) t := fun t k => castTop (ef_0_II m p0 p1) k
  obtain ⟨T1, h1, k0_1, X1, e1, E1, A1, O1, st1⟩ := newR X0 hx hZ hown (hw _ (List.mem_of_getElem? (i := 0) rfl)) (hw _ (List.mem_of_getElem? (i := 1) rfl)) e0 (g := (mkF m 1 #[iv p0, iv p1, .unset, .unset, .unset, .unset, .unset] [(.int (3 : Int32))])) rfl (hb hby at_1) rfl (by decide) (cap := 3) (by decide) (by decide) (by decide) (by decide)
  obtain ⟨b0_1, gg1⟩ : ∃ z, z = h0.size := ⟨_, rfl⟩
  rw [← gg1] at A1 st1
  have g_b0_1 : n0 ≤ b0_1 := Nat.le_trans Z0 (Nat.le_of_eq gg1.symm)
  have sz_b0_1 : h0.size ≤ b0_1 := Nat.le_trans (Keep.refl h0 []).1 (Nat.le_of_eq gg1.symm)
  have Z1 : n0 ≤ h1.size := Nat.le_trans Z0 E1.1
  have KK1 : Keep h0 h1 [] := (Keep.refl h0 []).ext E1
  have V_b0_1 : Arv Z h1 b0_1 k0_1 (.object "com/example/shapewell/shapewell/Outcome") (3 : Int32) [.null, .null, .null] .null := (Arv.new A1 (by decide)).pad (pad_rep [] .null 3)
  have c2 := (S_Outcome_VIOLATES.ext E1)
  obtain ⟨T3, X3, e3, st3⟩ := getS2 X1 hx hZ hown (host := "") (Or.inl (hw _ (List.mem_of_getElem? (i := 2) rfl))) Via.refl e1 c2 (g := (mkF m 6 #[iv p0, iv p1, .unset, .unset, .unset, .unset, .unset] [(.int (0 : Int32)), (.ref b0_1), (.ref b0_1)])) rfl (hb hby at_6)
  obtain ⟨cl4, Ar4, qq4, Sz4, Nn4, Hs4, Gs4⟩ := id V_b0_1
  have hin4 : ¬ ((0 : Int32) < 0 ∨ cl4.slots.size ≤ ((0 : Int32)).toNatClampNeg) := inb_of Sz4 ⟨by decide, by decide⟩
  have c5 := (E_w_Outcome_VIOLATES.ext E1)
  obtain ⟨T6, h6, X6, e6, W6, st6⟩ := stR X3 hx hZ e3 Ar4 (j := (0 : Int32)) hin4 rfl (Sto.ofV Ar4 qq4 O1 (Ins.self c5)) (g := (mkF m 9 #[iv p0, iv p1, .unset, .unset, .unset, .unset, .unset] [(.ref w_Outcome_VIOLATES), (.int (0 : Int32)), (.ref b0_1), (.ref b0_1)])) rfl rfl (hb hby at_9)
  have vb6 : Arv Z h6 b0_1 k0_1 (.object "com/example/shapewell/shapewell/Outcome") (3 : Int32) [(.ref w_Outcome_VIOLATES), .null, .null] .null := Arv.set Ar4 qq4 Sz4 Nn4 Hs4 Gs4 rfl W6 0 rfl (Nat.le_of_ble_eq_true rfl)
  have Z6 : n0 ≤ h6.size := Nat.le_trans Z1 (Keep.of_wr W6).1
  have KK6 : Keep h0 h6 [] := KK1.wr W6 (Or.inr sz_b0_1)
  have N6 := Fr.snoc X6 N0 g_b0_1
  have c7 := ((S_Outcome_UNDETERMINED.ext E1).wr W6)
  obtain ⟨T8, X8, e8, st8⟩ := getS2 X6 hx hZ hown (host := "") (Or.inl (hw _ (List.mem_of_getElem? (i := 6) rfl))) Via.refl e6 c7 (g := (mkF m 12 #[iv p0, iv p1, .unset, .unset, .unset, .unset, .unset] [(.int (1 : Int32)), (.ref b0_1), (.ref b0_1)])) rfl (hb hby at_12)
  obtain ⟨cl9, Ar9, qq9, Sz9, Nn9, Hs9, Gs9⟩ := id vb6
  have hin9 : ¬ ((1 : Int32) < 0 ∨ cl9.slots.size ≤ ((1 : Int32)).toNatClampNeg) := inb_of Sz9 ⟨by decide, by decide⟩
  have c10 := ((E_w_Outcome_UNDETERMINED.ext E1).wr W6)
  obtain ⟨T11, h11, X11, e11, W11, st11⟩ := stR X8 hx hZ e8 Ar9 (j := (1 : Int32)) hin9 rfl (Sto.ofV Ar9 qq9 O1 (Ins.self c10)) (g := (mkF m 15 #[iv p0, iv p1, .unset, .unset, .unset, .unset, .unset] [(.ref w_Outcome_UNDETERMINED), (.int (1 : Int32)), (.ref b0_1), (.ref b0_1)])) rfl rfl (hb hby at_15)
  have vb11 : Arv Z h11 b0_1 k0_1 (.object "com/example/shapewell/shapewell/Outcome") (3 : Int32) [(.ref w_Outcome_VIOLATES), (.ref w_Outcome_UNDETERMINED), .null] .null := Arv.set Ar9 qq9 Sz9 Nn9 Hs9 Gs9 rfl W11 1 rfl (Nat.le_of_ble_eq_true rfl)
  have Z11 : n0 ≤ h11.size := Nat.le_trans Z6 (Keep.of_wr W11).1
  have KK11 : Keep h0 h11 [] := KK6.wr W11 (Or.inr sz_b0_1)
  have N11 := Fr.snoc X11 N6 g_b0_1
  have c12 := (((S_Outcome_CONFORMS.ext E1).wr W6).wr W11)
  obtain ⟨T13, X13, e13, st13⟩ := getS2 X11 hx hZ hown (host := "") (Or.inl (hw _ (List.mem_of_getElem? (i := 8) rfl))) Via.refl e11 c12 (g := (mkF m 18 #[iv p0, iv p1, .unset, .unset, .unset, .unset, .unset] [(.int (2 : Int32)), (.ref b0_1), (.ref b0_1)])) rfl (hb hby at_18)
  obtain ⟨cl14, Ar14, qq14, Sz14, Nn14, Hs14, Gs14⟩ := id vb11
  have hin14 : ¬ ((2 : Int32) < 0 ∨ cl14.slots.size ≤ ((2 : Int32)).toNatClampNeg) := inb_of Sz14 ⟨by decide, by decide⟩
  have c15 := (((E_w_Outcome_CONFORMS.ext E1).wr W6).wr W11)
  obtain ⟨T16, h16, X16, e16, W16, st16⟩ := stR X13 hx hZ e13 Ar14 (j := (2 : Int32)) hin14 rfl (Sto.ofV Ar14 qq14 O1 (Ins.self c15)) (g := (mkF m 21 #[iv p0, iv p1, .unset, .unset, .unset, .unset, .unset] [(.ref w_Outcome_CONFORMS), (.int (2 : Int32)), (.ref b0_1), (.ref b0_1)])) rfl rfl (hb hby at_21)
  have vb16 : Arv Z h16 b0_1 k0_1 (.object "com/example/shapewell/shapewell/Outcome") (3 : Int32) [(.ref w_Outcome_VIOLATES), (.ref w_Outcome_UNDETERMINED), (.ref w_Outcome_CONFORMS)] .null := Arv.set Ar14 qq14 Sz14 Nn14 Hs14 Gs14 rfl W16 2 rfl (Nat.le_of_ble_eq_true rfl)
  have Z16 : n0 ≤ h16.size := Nat.le_trans Z11 (Keep.of_wr W16).1
  have KK16 : Keep h0 h16 [] := KK11.wr W16 (Or.inr sz_b0_1)
  have N16 := Fr.snoc X16 N11 g_b0_1
  obtain ⟨cl17, Ar17, -, Sz17, Nn17, Hs17, Gs17⟩ := id vb16
  have hin17 : ¬ ((0 : Int32) < 0 ∨ cl17.slots.size ≤ ((0 : Int32)).toNatClampNeg) := inb_of Sz17 ⟨by decide, by decide⟩
  obtain ⟨cl18, Ar18, -, Sz18, Nn18, Hs18, Gs18⟩ := id vb16
  have hin18 : ¬ ((1 : Int32) < 0 ∨ cl18.slots.size ≤ ((1 : Int32)).toNatClampNeg) := inb_of Sz18 ⟨by decide, by decide⟩
  have c20 := (((c5.wr W6).wr W11).wr W16)
  have c21 := ((c10.wr W11).wr W16)
  have ne_b0_1_w_Outcome_VIOLATES_22 : ¬ (b0_1 = w_Outcome_VIOLATES) := (Ne.symm (Nat.ne_of_lt (Nat.lt_of_lt_of_le (E_w_Outcome_VIOLATES).lt (Nat.le_of_eq gg1.symm))))
  have c23 := ((((F_w_Outcome_VIOLATES_ordinal.ext E1).other W6 (Or.inl (Ne.symm ne_b0_1_w_Outcome_VIOLATES_22))).other W11 (Or.inl (Ne.symm ne_b0_1_w_Outcome_VIOLATES_22))).other W16 (Or.inl (Ne.symm ne_b0_1_w_Outcome_VIOLATES_22)))
  have ne_b0_1_w_Outcome_UNDETERMINED_24 : ¬ (b0_1 = w_Outcome_UNDETERMINED) := (Ne.symm (Nat.ne_of_lt (Nat.lt_of_lt_of_le (E_w_Outcome_UNDETERMINED).lt (Nat.le_of_eq gg1.symm))))
  have c25 := ((((F_w_Outcome_UNDETERMINED_ordinal.ext E1).other W6 (Or.inl (Ne.symm ne_b0_1_w_Outcome_UNDETERMINED_24))).other W11 (Or.inl (Ne.symm ne_b0_1_w_Outcome_UNDETERMINED_24))).other W16 (Or.inl (Ne.symm ne_b0_1_w_Outcome_UNDETERMINED_24)))
  obtain ⟨cq19, kq19, q19a, q19b, q19c⟩ := isOf hZ e16 c20
  obtain ⟨_, _, ⟨T19, L19, k19, n19⟩, -, X19, ⟨Lc19, hQ19, l19, y19, z19⟩, st19⟩ := X16.virtualBack hx (y := (⟨"com/example/shapewell/shapewell/Outcome", "and", "(Lcom/example/shapewell/shapewell/Outcome;)Lcom/example/shapewell/shapewell/Outcome;"⟩ : MethodName)) (z := (⟨"com/example/shapewell/shapewell/Outcome", "and", "(Lcom/example/shapewell/shapewell/Outcome;)Lcom/example/shapewell/shapewell/Outcome;"⟩ : MethodName)) hown (mvT hZ (hw _ (List.mem_of_getElem? (i := 11) rfl))) (mvT hZ (hw _ (List.mem_of_getElem? (i := 12) rfl))) (notFace_of_selects (args := #[]) (mvT hZ (hw _ (List.mem_of_getElem? (i := 14) rfl)))) (mvT hZ (hw _ (List.mem_of_getElem? (i := 14) rfl))) (mvT hZ (hw _ (List.mem_of_getElem? (i := 13) rfl))) (by decide) (backOf (W := 0) (rm1_2 l Z a0 hw [] w_Outcome_VIOLATES w_Outcome_UNDETERMINED mr_Outcome h16 n0 Z16 c20 M_mr_Outcome c21 c23 c25) hZ (hw _ (List.mem_of_getElem? (i := 15) rfl)) (hw _ (List.mem_of_getElem? (i := 3) rfl)) (by decide) (by decide)) q19a q19c (g := (mkF m 45 #[iv p0, iv p1, rv b0_1, rv w_Outcome_VIOLATES, rv w_Outcome_UNDETERMINED, .unset, .unset] [(.ref w_Outcome_UNDETERMINED), (.ref w_Outcome_VIOLATES)])) rfl (by rw [hml]; rfl) (Steps.refl _) (argsL := [(.ref w_Outcome_UNDETERMINED)]) (rest := []) (lenOf pd_1 rfl) rfl (by show 2 * 0 + _ ≤ _; exact Nat.le_of_eq rfl) (hb hby at_45) (fun _ _ => ⟨rfl, e16, (by decide : 1 + 0 ≤ _), (by decide : 3 + 0 ≤ _)⟩)
  dsimp only [Pt.U, Pt.locs, Pt.cells, Pt.slots] at X19 l19 y19 z19 st19 hQ19
  subst l19 y19 z19
  obtain ⟨rfl, N19q, e19⟩ := hQ19
  have N19 := Fr.app N16 N19q
  have c26 := (((c2.wr W6).wr W11).wr W16)
  obtain ⟨T27, X27, e27, st27⟩ := getS2 X19 hx hZ hown (host := "") (Or.inl (hw _ (List.mem_of_getElem? (i := 2) rfl))) Via.refl e19 c26 (g := (mkF m 51 #[iv p0, iv p1, rv b0_1, rv w_Outcome_VIOLATES, rv w_Outcome_UNDETERMINED, rv w_Outcome_VIOLATES, .unset] [(.ref w_Outcome_VIOLATES)])) rfl (hb hby at_51)
  obtain ⟨T28, X28, e28, st28⟩ := getS2 X27 hx hZ hown (host := "") (Or.inl (hw _ (List.mem_of_getElem? (i := 2) rfl))) Via.refl e27 c26 (g := (mkF m 65 #[iv p0, iv p1, rv b0_1, rv w_Outcome_VIOLATES, rv w_Outcome_UNDETERMINED, rv w_Outcome_VIOLATES, .unset] [])) rfl (hb hby at_65)
  obtain ⟨fs, hr, hrun, hended, hW, hsame⟩ := X28.leave (v := (some (.int (1 : Int32)))) (fun h => by rw [Bd.returns] at h; cases h)
  refine ⟨_, _, pre0 _ ?_, hrun, hended, _, _, rfl, ?_, ⟨_, rfl⟩, hW, hsame.mono (by decide) (by decide)⟩
  · show Steps p.tables e below (s₁.setTop (mkF m 0 #[iv p0, iv p1, .unset, .unset, .unset, .unset, .unset] [])) _
    refine XS.iconst X0.here hx rfl (hb hby at_0) ?_
    show Steps p.tables e below (s₁.setTop (mkF m 1 #[iv p0, iv p1, .unset, .unset, .unset, .unset, .unset] [(.int (3 : Int32))])) _
    refine st1 _ ?_
    show Steps p.tables e below (T1.setTop (mkF m 4 #[iv p0, iv p1, .unset, .unset, .unset, .unset, .unset] [(.ref b0_1)])) _
    refine XS.dup X1.here hx rfl (hb hby at_4) rfl rfl ?_
    show Steps p.tables e below (T1.setTop (mkF m 5 #[iv p0, iv p1, .unset, .unset, .unset, .unset, .unset] [(.ref b0_1), (.ref b0_1)])) _
    refine XS.iconst X1.here hx rfl (hb hby at_5) ?_
    show Steps p.tables e below (T1.setTop (mkF m 6 #[iv p0, iv p1, .unset, .unset, .unset, .unset, .unset] [(.int (0 : Int32)), (.ref b0_1), (.ref b0_1)])) _
    refine st3 _ ?_
    show Steps p.tables e below (T3.setTop (mkF m 9 #[iv p0, iv p1, .unset, .unset, .unset, .unset, .unset] [(.ref w_Outcome_VIOLATES), (.int (0 : Int32)), (.ref b0_1), (.ref b0_1)])) _
    refine st6 _ ?_
    show Steps p.tables e below (T6.setTop (mkF m 10 #[iv p0, iv p1, .unset, .unset, .unset, .unset, .unset] [(.ref b0_1)])) _
    refine XS.dup X6.here hx rfl (hb hby at_10) rfl rfl ?_
    show Steps p.tables e below (T6.setTop (mkF m 11 #[iv p0, iv p1, .unset, .unset, .unset, .unset, .unset] [(.ref b0_1), (.ref b0_1)])) _
    refine XS.iconst X6.here hx rfl (hb hby at_11) ?_
    show Steps p.tables e below (T6.setTop (mkF m 12 #[iv p0, iv p1, .unset, .unset, .unset, .unset, .unset] [(.int (1 : Int32)), (.ref b0_1), (.ref b0_1)])) _
    refine st8 _ ?_
    show Steps p.tables e below (T8.setTop (mkF m 15 #[iv p0, iv p1, .unset, .unset, .unset, .unset, .unset] [(.ref w_Outcome_UNDETERMINED), (.int (1 : Int32)), (.ref b0_1), (.ref b0_1)])) _
    refine st11 _ ?_
    show Steps p.tables e below (T11.setTop (mkF m 16 #[iv p0, iv p1, .unset, .unset, .unset, .unset, .unset] [(.ref b0_1)])) _
    refine XS.dup X11.here hx rfl (hb hby at_16) rfl rfl ?_
    show Steps p.tables e below (T11.setTop (mkF m 17 #[iv p0, iv p1, .unset, .unset, .unset, .unset, .unset] [(.ref b0_1), (.ref b0_1)])) _
    refine XS.iconst X11.here hx rfl (hb hby at_17) ?_
    show Steps p.tables e below (T11.setTop (mkF m 18 #[iv p0, iv p1, .unset, .unset, .unset, .unset, .unset] [(.int (2 : Int32)), (.ref b0_1), (.ref b0_1)])) _
    refine st13 _ ?_
    show Steps p.tables e below (T13.setTop (mkF m 21 #[iv p0, iv p1, .unset, .unset, .unset, .unset, .unset] [(.ref w_Outcome_CONFORMS), (.int (2 : Int32)), (.ref b0_1), (.ref b0_1)])) _
    refine st16 _ ?_
    show Steps p.tables e below (T16.setTop (mkF m 22 #[iv p0, iv p1, .unset, .unset, .unset, .unset, .unset] [(.ref b0_1)])) _
    refine XS.astoreN X16.here hx rfl (hb hby at_22) rfl rfl (l' := #[iv p0, iv p1, rv b0_1, .unset, .unset, .unset, .unset]) rfl ?_
    show Steps p.tables e below (T16.setTop (mkF m 23 #[iv p0, iv p1, rv b0_1, .unset, .unset, .unset, .unset] [])) _
    refine XS.aloadN X16.here hx rfl (hb hby at_23) rfl rfl ?_
    show Steps p.tables e below (T16.setTop (mkF m 24 #[iv p0, iv p1, rv b0_1, .unset, .unset, .unset, .unset] [(.ref b0_1)])) _
    refine XS.iloadN X16.here hx rfl (hb hby at_24) rfl ?_
    show Steps p.tables e below (T16.setTop (mkF m 25 #[iv p0, iv p1, rv b0_1, .unset, .unset, .unset, .unset] [(.int p0), (.ref b0_1)])) _
    refine X16.ldcInt hx hown (mvT hZ (hw _ (List.mem_of_getElem? (i := 10) rfl))) (g := (mkF m 25 #[iv p0, iv p1, rv b0_1, .unset, .unset, .unset, .unset] [(.int p0), (.ref b0_1)])) rfl (hb hby at_25) _ ?_
    show Steps p.tables e below (T16.setTop (mkF m 27 #[iv p0, iv p1, rv b0_1, .unset, .unset, .unset, .unset] [(.int (2147483647 : Int32)), (.int p0), (.ref b0_1)])) _
    refine XS.iand X16.here hx rfl (hb hby at_27) rfl ?_
    show Steps p.tables e below (T16.setTop (mkF m 28 #[iv p0, iv p1, rv b0_1, .unset, .unset, .unset, .unset] [(.int (p0 &&& (2147483647 : Int32))), (.ref b0_1)])) _
    refine XS.iconst X16.here hx rfl (hb hby at_28) ?_
    show Steps p.tables e below (T16.setTop (mkF m 29 #[iv p0, iv p1, rv b0_1, .unset, .unset, .unset, .unset] [(.int (3 : Int32)), (.int (p0 &&& (2147483647 : Int32))), (.ref b0_1)])) _
    refine iremM X16 hx rfl (hb hby at_29) rfl (by decide) ?_
    show Steps p.tables e below (T16.setTop (mkF m 30 #[iv p0, iv p1, rv b0_1, .unset, .unset, .unset, .unset] [(.int ((p0 &&& (2147483647 : Int32)) % (3 : Int32))), (.ref b0_1)])) _
    rewrite [hk0]
    show Steps p.tables e below (T16.setTop (mkF m 30 #[iv p0, iv p1, rv b0_1, .unset, .unset, .unset, .unset] [(.int (0 : Int32)), (.ref b0_1)])) _
    refine X16.aaload hx (j := (0 : Int32)) (v := (.ref w_Outcome_VIOLATES)) (by rw [e16]; exact Ar17.1) (State.isArrayOf_alike hZ.alike Ar17.2.1) rfl Ar17.2.2 hin17 (Hs17.at hin17 rfl) (g := (mkF m 30 #[iv p0, iv p1, rv b0_1, .unset, .unset, .unset, .unset] [(.int (0 : Int32)), (.ref b0_1)])) rfl rfl (hb hby at_30) _ ?_
    show Steps p.tables e below (T16.setTop (mkF m 31 #[iv p0, iv p1, rv b0_1, .unset, .unset, .unset, .unset] [(.ref w_Outcome_VIOLATES)])) _
    refine XS.astoreN X16.here hx rfl (hb hby at_31) rfl rfl (l' := #[iv p0, iv p1, rv b0_1, rv w_Outcome_VIOLATES, .unset, .unset, .unset]) rfl ?_
    show Steps p.tables e below (T16.setTop (mkF m 32 #[iv p0, iv p1, rv b0_1, rv w_Outcome_VIOLATES, .unset, .unset, .unset] [])) _
    refine XS.aloadN X16.here hx rfl (hb hby at_32) rfl rfl ?_
    show Steps p.tables e below (T16.setTop (mkF m 33 #[iv p0, iv p1, rv b0_1, rv w_Outcome_VIOLATES, .unset, .unset, .unset] [(.ref b0_1)])) _
    refine XS.iloadN X16.here hx rfl (hb hby at_33) rfl ?_
    show Steps p.tables e below (T16.setTop (mkF m 34 #[iv p0, iv p1, rv b0_1, rv w_Outcome_VIOLATES, .unset, .unset, .unset] [(.int p1), (.ref b0_1)])) _
    refine X16.ldcInt hx hown (mvT hZ (hw _ (List.mem_of_getElem? (i := 10) rfl))) (g := (mkF m 34 #[iv p0, iv p1, rv b0_1, rv w_Outcome_VIOLATES, .unset, .unset, .unset] [(.int p1), (.ref b0_1)])) rfl (hb hby at_34) _ ?_
    show Steps p.tables e below (T16.setTop (mkF m 36 #[iv p0, iv p1, rv b0_1, rv w_Outcome_VIOLATES, .unset, .unset, .unset] [(.int (2147483647 : Int32)), (.int p1), (.ref b0_1)])) _
    refine XS.iand X16.here hx rfl (hb hby at_36) rfl ?_
    show Steps p.tables e below (T16.setTop (mkF m 37 #[iv p0, iv p1, rv b0_1, rv w_Outcome_VIOLATES, .unset, .unset, .unset] [(.int (p1 &&& (2147483647 : Int32))), (.ref b0_1)])) _
    refine XS.iconst X16.here hx rfl (hb hby at_37) ?_
    show Steps p.tables e below (T16.setTop (mkF m 38 #[iv p0, iv p1, rv b0_1, rv w_Outcome_VIOLATES, .unset, .unset, .unset] [(.int (3 : Int32)), (.int (p1 &&& (2147483647 : Int32))), (.ref b0_1)])) _
    refine iremM X16 hx rfl (hb hby at_38) rfl (by decide) ?_
    show Steps p.tables e below (T16.setTop (mkF m 39 #[iv p0, iv p1, rv b0_1, rv w_Outcome_VIOLATES, .unset, .unset, .unset] [(.int ((p1 &&& (2147483647 : Int32)) % (3 : Int32))), (.ref b0_1)])) _
    rewrite [hk1]
    show Steps p.tables e below (T16.setTop (mkF m 39 #[iv p0, iv p1, rv b0_1, rv w_Outcome_VIOLATES, .unset, .unset, .unset] [(.int (1 : Int32)), (.ref b0_1)])) _
    refine X16.aaload hx (j := (1 : Int32)) (v := (.ref w_Outcome_UNDETERMINED)) (by rw [e16]; exact Ar18.1) (State.isArrayOf_alike hZ.alike Ar18.2.1) rfl Ar18.2.2 hin18 (Hs18.at hin18 rfl) (g := (mkF m 39 #[iv p0, iv p1, rv b0_1, rv w_Outcome_VIOLATES, .unset, .unset, .unset] [(.int (1 : Int32)), (.ref b0_1)])) rfl rfl (hb hby at_39) _ ?_
    show Steps p.tables e below (T16.setTop (mkF m 40 #[iv p0, iv p1, rv b0_1, rv w_Outcome_VIOLATES, .unset, .unset, .unset] [(.ref w_Outcome_UNDETERMINED)])) _
    refine XS.astore X16.here hx rfl (hb hby at_40) rfl rfl (l' := #[iv p0, iv p1, rv b0_1, rv w_Outcome_VIOLATES, rv w_Outcome_UNDETERMINED, .unset, .unset]) rfl ?_
    show Steps p.tables e below (T16.setTop (mkF m 42 #[iv p0, iv p1, rv b0_1, rv w_Outcome_VIOLATES, rv w_Outcome_UNDETERMINED, .unset, .unset] [])) _
    refine XS.aloadN X16.here hx rfl (hb hby at_42) rfl rfl ?_
    show Steps p.tables e below (T16.setTop (mkF m 43 #[iv p0, iv p1, rv b0_1, rv w_Outcome_VIOLATES, rv w_Outcome_UNDETERMINED, .unset, .unset] [(.ref w_Outcome_VIOLATES)])) _
    refine XS.aload X16.here hx rfl (hb hby at_43) rfl rfl ?_
    show Steps p.tables e below (T16.setTop (mkF m 45 #[iv p0, iv p1, rv b0_1, rv w_Outcome_VIOLATES, rv w_Outcome_UNDETERMINED, .unset, .unset] [(.ref w_Outcome_UNDETERMINED), (.ref w_Outcome_VIOLATES)])) _
    refine st19.trans ?_
    show Steps p.tables e below (T19.setTop (mkF m 48 #[iv p0, iv p1, rv b0_1, rv w_Outcome_VIOLATES, rv w_Outcome_UNDETERMINED, .unset, .unset] [(.ref w_Outcome_VIOLATES)])) _
    refine XS.astore X19.here hx rfl (hb hby at_48) rfl rfl (l' := #[iv p0, iv p1, rv b0_1, rv w_Outcome_VIOLATES, rv w_Outcome_UNDETERMINED, rv w_Outcome_VIOLATES, .unset]) rfl ?_
    show Steps p.tables e below (T19.setTop (mkF m 50 #[iv p0, iv p1, rv b0_1, rv w_Outcome_VIOLATES, rv w_Outcome_UNDETERMINED, rv w_Outcome_VIOLATES, .unset] [])) _
    refine XS.aloadN X19.here hx rfl (hb hby at_50) rfl rfl ?_
    show Steps p.tables e below (T19.setTop (mkF m 51 #[iv p0, iv p1, rv b0_1, rv w_Outcome_VIOLATES, rv w_Outcome_UNDETERMINED, rv w_Outcome_VIOLATES, .unset] [(.ref w_Outcome_VIOLATES)])) _
    refine st27 _ ?_
    show Steps p.tables e below (T27.setTop (mkF m 54 #[iv p0, iv p1, rv b0_1, rv w_Outcome_VIOLATES, rv w_Outcome_UNDETERMINED, rv w_Outcome_VIOLATES, .unset] [(.ref w_Outcome_VIOLATES), (.ref w_Outcome_VIOLATES)])) _
    refine Jvm.RoadKit.acmp (g := (mkF m 54 #[iv p0, iv p1, rv b0_1, rv w_Outcome_VIOLATES, rv w_Outcome_UNDETERMINED, rv w_Outcome_VIOLATES, .unset] [(.ref w_Outcome_VIOLATES), (.ref w_Outcome_VIOLATES)])) X27 hx rfl rfl rfl (pc0 := 54) (pc' := 65) (same := true) rfl (hb hby at_54) rfl (decide_eq_true rfl) (by decide) (by decide) ?_
    show Steps p.tables e below (T27.setTop (mkF m 65 #[iv p0, iv p1, rv b0_1, rv w_Outcome_VIOLATES, rv w_Outcome_UNDETERMINED, rv w_Outcome_VIOLATES, .unset] [])) _
    refine st28 _ ?_
    show Steps p.tables e below (T28.setTop (mkF m 68 #[iv p0, iv p1, rv b0_1, rv w_Outcome_VIOLATES, rv w_Outcome_UNDETERMINED, rv w_Outcome_VIOLATES, .unset] [(.ref w_Outcome_VIOLATES)])) _
    refine XS.astore X28.here hx rfl (hb hby at_68) rfl rfl (l' := #[iv p0, iv p1, rv b0_1, rv w_Outcome_VIOLATES, rv w_Outcome_UNDETERMINED, rv w_Outcome_VIOLATES, rv w_Outcome_VIOLATES]) rfl ?_
    show Steps p.tables e below (T28.setTop (mkF m 70 #[iv p0, iv p1, rv b0_1, rv w_Outcome_VIOLATES, rv w_Outcome_UNDETERMINED, rv w_Outcome_VIOLATES, rv w_Outcome_VIOLATES] [])) _
    refine XS.goto X28.here hx rfl (pc0 := 70) (pc' := 101) rfl (hb hby at_70) (by decide) (by decide) ?_
    show Steps p.tables e below (T28.setTop (mkF m 101 #[iv p0, iv p1, rv b0_1, rv w_Outcome_VIOLATES, rv w_Outcome_UNDETERMINED, rv w_Outcome_VIOLATES, rv w_Outcome_VIOLATES] [])) _
    refine XS.aload X28.here hx rfl (hb hby at_101) rfl rfl ?_
    show Steps p.tables e below (T28.setTop (mkF m 103 #[iv p0, iv p1, rv b0_1, rv w_Outcome_VIOLATES, rv w_Outcome_UNDETERMINED, rv w_Outcome_VIOLATES, rv w_Outcome_VIOLATES] [(.ref w_Outcome_VIOLATES)])) _
    refine XS.aload X28.here hx rfl (hb hby at_103) rfl rfl ?_
    show Steps p.tables e below (T28.setTop (mkF m 105 #[iv p0, iv p1, rv b0_1, rv w_Outcome_VIOLATES, rv w_Outcome_UNDETERMINED, rv w_Outcome_VIOLATES, rv w_Outcome_VIOLATES] [(.ref w_Outcome_VIOLATES), (.ref w_Outcome_VIOLATES)])) _
    refine Jvm.RoadKit.acmp (g := (mkF m 105 #[iv p0, iv p1, rv b0_1, rv w_Outcome_VIOLATES, rv w_Outcome_UNDETERMINED, rv w_Outcome_VIOLATES, rv w_Outcome_VIOLATES] [(.ref w_Outcome_VIOLATES), (.ref w_Outcome_VIOLATES)])) X28 hx rfl rfl rfl (pc0 := 105) (pc' := 108) (same := true) rfl (hb hby at_105) rfl (decide_eq_true rfl) (by decide) (by decide) ?_
    show Steps p.tables e below (T28.setTop (mkF m 108 #[iv p0, iv p1, rv b0_1, rv w_Outcome_VIOLATES, rv w_Outcome_UNDETERMINED, rv w_Outcome_VIOLATES, rv w_Outcome_VIOLATES] [])) _
    refine XS.iconst X28.here hx rfl (hb hby at_108) ?_
    show Steps p.tables e below (T28.setTop (mkF m 109 #[iv p0, iv p1, rv b0_1, rv w_Outcome_VIOLATES, rv w_Outcome_UNDETERMINED, rv w_Outcome_VIOLATES, rv w_Outcome_VIOLATES] [(.int (1 : Int32))])) _
    refine XS.goto X28.here hx rfl (pc0 := 109) (pc' := 113) rfl (hb hby at_109) (by decide) (by decide) ?_
    show Steps p.tables e below (T28.setTop (mkF m 113 #[iv p0, iv p1, rv b0_1, rv w_Outcome_VIOLATES, rv w_Outcome_UNDETERMINED, rv w_Outcome_VIOLATES, rv w_Outcome_VIOLATES] [(.int (1 : Int32))])) _
    exact retN X28 hx (t := .boolean) Bd.returns (by simp) (hb hby at_113) hr
  · exact ⟨rfl, N19⟩
set_option maxRecDepth 65536 in
set_option maxHeartbeats 40000000 in
theorem rm2_4 (l : Launch) (Z : State) (a0 : Array Value) (hw : ∀ d ∈ tables_1, d.before a0 Z = true) (ws : List Jvm.Cond) (w_Outcome_VIOLATES : Addr) (w_Outcome_CONFORMS : Addr) (mr_Outcome : Addr) (h0 : Heap) (n0 : Nat) (Z0 : n0 ≤ h0.size) (E_w_Outcome_VIOLATES : Exa Z h0 w_Outcome_VIOLATES "com/example/shapewell/shapewell/Outcome") (M_mr_Outcome : own_Mir Z "com/example/shapewell/shapewell/Outcome" mr_Outcome) (E_w_Outcome_CONFORMS : Exa Z h0 w_Outcome_CONFORMS "com/example/shapewell/shapewell/Outcome") (F_w_Outcome_VIOLATES_ordinal : Fld Z h0 w_Outcome_VIOLATES "java/lang/Enum" "ordinal" "I" (.int (0 : Int32))) (F_w_Outcome_CONFORMS_ordinal : Fld Z h0 w_Outcome_CONFORMS "java/lang/Enum" "ordinal" "I" (.int (2 : Int32))) :
    MetFree l (⟨"java/lang/Enum", "compareTo", "(Ljava/lang/Enum;)I"⟩ : MethodName) (head1 (Jvm.Cond.code (⟨"java/lang/Enum", "compareTo", "(Ljava/lang/Enum;)I"⟩ : MethodName) jdk_37_method_8_code 4 (some .int) :: ws) ({ frames := 1, cells := 0, slots := 0, locals := 15 } : Room)) (fun a U => a = #[(.ref w_Outcome_VIOLATES), (.ref w_Outcome_CONFORMS)] ∧ Z.Warmed39 U.vm ∧ U.heap = h0) (fun _ _ _ _ _ => True) (fun _ U o U' => ∃ v L, o = .returned v ∧ own_QP (some (.int (-2 : Int32))) h0 n0 v U'.heap L ∧ FrameEnd U o U' L ({ frames := 1, cells := 0, slots := 0, locals := 15 } : Room).cells ({ frames := 1, cells := 0, slots := 0, locals := 15 } : Room).slots) := by
  refine MetFree.of_bodySF (plainFor_of_name pn_0) hisR ?_
  intro p e s m args below meth c s₁ Bd hml0 hP hK
  obtain ⟨rfl, hZ, hh⟩ := hP
  have hx := Bd.exec
  have hby := Bd.bytes
  have hml : c.maxLocals = 4 := hml0
  have hown : s.vm.findClass "java/lang/Enum" = some m.cls := findClass_of_methodNamed Bd.named
  have hnm := (name_of_methodNamed Bd.named Bd.method).1
  have X0 : Stand p l e ({ frames := 1, cells := 0, slots := 0, locals := 15 } : Room) s m #[(.ref w_Outcome_VIOLATES), (.ref w_Outcome_CONFORMS)] below meth c s₁ [] 0 0 := Stand.of_body Bd
  have e0 : s₁.heap = h0 := by rw [← hh, Bd.state]; rfl
  have N0 := Fr.nil n0
  have pre0 : ∀ t, Steps p.tables e below (s₁.setTop (mkF m 0 #[rv w_Outcome_VIOLATES, rv w_Outcome_CONFORMS, .unset, .unset] [])) t → Steps p.tables e below (s₁.setTop (entryFrame m #[(.ref w_Outcome_VIOLATES), (.ref w_Outcome_CONFORMS)] 4)) t := fun t k => castTop (ef_2_RR m w_Outcome_VIOLATES w_Outcome_CONFORMS) k
  obtain ⟨T1, X1, e1, st1⟩ := own_gcls X0 hx hZ hown (hw _ (List.mem_of_getElem? (i := 23) rfl)) (hw _ (List.mem_of_getElem? (i := 24) rfl)) (hw _ (List.mem_of_getElem? (i := 26) rfl)) (hw _ (List.mem_of_getElem? (i := 25) rfl)) (hw _ (List.mem_of_getElem? (i := 27) rfl)) e0 E_w_Outcome_VIOLATES M_mr_Outcome (g := (mkF m 5 #[rv w_Outcome_VIOLATES, rv w_Outcome_CONFORMS, rv w_Outcome_CONFORMS, rv w_Outcome_VIOLATES] [(.ref w_Outcome_VIOLATES)])) rfl (by rw [hml]; rfl) rfl (hb hby d2_5) (by decide) (W := 0) (by show 2 * 0 + _ ≤ _; exact Nat.le_of_eq rfl) (by decide)
  obtain ⟨T2, X2, e2, st2⟩ := own_gcls X1 hx hZ hown (hw _ (List.mem_of_getElem? (i := 23) rfl)) (hw _ (List.mem_of_getElem? (i := 24) rfl)) (hw _ (List.mem_of_getElem? (i := 26) rfl)) (hw _ (List.mem_of_getElem? (i := 25) rfl)) (hw _ (List.mem_of_getElem? (i := 27) rfl)) e1 E_w_Outcome_CONFORMS M_mr_Outcome (g := (mkF m 9 #[rv w_Outcome_VIOLATES, rv w_Outcome_CONFORMS, rv w_Outcome_CONFORMS, rv w_Outcome_VIOLATES] [(.ref w_Outcome_CONFORMS), (.ref mr_Outcome)])) rfl (by rw [hml]; rfl) rfl (hb hby d2_9) (by decide) (W := 1) (by show 2 * 0 + _ ≤ _; exact Nat.le_of_eq rfl) (by decide)
  obtain ⟨T3, X3, e3, st3⟩ := getF X2 hx hZ hown (host := "") (Or.inl (hw _ (List.mem_of_getElem? (i := 28) rfl))) Via.refl e2 F_w_Outcome_VIOLATES_ordinal (g := (mkF m 35 #[rv w_Outcome_VIOLATES, rv w_Outcome_CONFORMS, rv w_Outcome_CONFORMS, rv w_Outcome_VIOLATES] [(.ref w_Outcome_VIOLATES)])) rfl rfl (hb hby d2_35)
  obtain ⟨T4, X4, e4, st4⟩ := getF X3 hx hZ hown (host := "") (Or.inl (hw _ (List.mem_of_getElem? (i := 28) rfl))) Via.refl e3 F_w_Outcome_CONFORMS_ordinal (g := (mkF m 39 #[rv w_Outcome_VIOLATES, rv w_Outcome_CONFORMS, rv w_Outcome_CONFORMS, rv w_Outcome_VIOLATES] [(.ref w_Outcome_CONFORMS), (.int (0 : Int32))])) rfl rfl (hb hby d2_39)
  obtain ⟨fs, hr, hrun, hended, hW, hsame⟩ := X4.leave (v := (some (.int (-2 : Int32)))) (fun h => by rw [Bd.returns] at h; cases h)
  refine ⟨_, _, pre0 _ ?_, hrun, hended, _, _, rfl, ?_, ⟨_, rfl⟩, hW, hsame.mono (by decide) (by decide)⟩
  · show Steps p.tables e below (s₁.setTop (mkF m 0 #[rv w_Outcome_VIOLATES, rv w_Outcome_CONFORMS, .unset, .unset] [])) _
    refine XS.aloadN X0.here hx rfl (hb hby d2_0) rfl rfl ?_
    show Steps p.tables e below (s₁.setTop (mkF m 1 #[rv w_Outcome_VIOLATES, rv w_Outcome_CONFORMS, .unset, .unset] [(.ref w_Outcome_CONFORMS)])) _
    refine XS.astoreN X0.here hx rfl (hb hby d2_1) rfl rfl (l' := #[rv w_Outcome_VIOLATES, rv w_Outcome_CONFORMS, rv w_Outcome_CONFORMS, .unset]) rfl ?_
    show Steps p.tables e below (s₁.setTop (mkF m 2 #[rv w_Outcome_VIOLATES, rv w_Outcome_CONFORMS, rv w_Outcome_CONFORMS, .unset] [])) _
    refine XS.aloadN X0.here hx rfl (hb hby d2_2) rfl rfl ?_
    show Steps p.tables e below (s₁.setTop (mkF m 3 #[rv w_Outcome_VIOLATES, rv w_Outcome_CONFORMS, rv w_Outcome_CONFORMS, .unset] [(.ref w_Outcome_VIOLATES)])) _
    refine XS.astoreN X0.here hx rfl (hb hby d2_3) rfl rfl (l' := #[rv w_Outcome_VIOLATES, rv w_Outcome_CONFORMS, rv w_Outcome_CONFORMS, rv w_Outcome_VIOLATES]) rfl ?_
    show Steps p.tables e below (s₁.setTop (mkF m 4 #[rv w_Outcome_VIOLATES, rv w_Outcome_CONFORMS, rv w_Outcome_CONFORMS, rv w_Outcome_VIOLATES] [])) _
    refine XS.aloadN X0.here hx rfl (hb hby d2_4) rfl rfl ?_
    show Steps p.tables e below (s₁.setTop (mkF m 5 #[rv w_Outcome_VIOLATES, rv w_Outcome_CONFORMS, rv w_Outcome_CONFORMS, rv w_Outcome_VIOLATES] [(.ref w_Outcome_VIOLATES)])) _
    refine st1 _ ?_
    show Steps p.tables e below (T1.setTop (mkF m 8 #[rv w_Outcome_VIOLATES, rv w_Outcome_CONFORMS, rv w_Outcome_CONFORMS, rv w_Outcome_VIOLATES] [(.ref mr_Outcome)])) _
    refine XS.aloadN X1.here hx rfl (hb hby d2_8) rfl rfl ?_
    show Steps p.tables e below (T1.setTop (mkF m 9 #[rv w_Outcome_VIOLATES, rv w_Outcome_CONFORMS, rv w_Outcome_CONFORMS, rv w_Outcome_VIOLATES] [(.ref w_Outcome_CONFORMS), (.ref mr_Outcome)])) _
    refine st2 _ ?_
    show Steps p.tables e below (T2.setTop (mkF m 12 #[rv w_Outcome_VIOLATES, rv w_Outcome_CONFORMS, rv w_Outcome_CONFORMS, rv w_Outcome_VIOLATES] [(.ref mr_Outcome), (.ref mr_Outcome)])) _
    refine Jvm.RoadKit.acmp (g := (mkF m 12 #[rv w_Outcome_VIOLATES, rv w_Outcome_CONFORMS, rv w_Outcome_CONFORMS, rv w_Outcome_VIOLATES] [(.ref mr_Outcome), (.ref mr_Outcome)])) X2 hx rfl rfl rfl (pc0 := 12) (pc' := 34) (same := true) rfl (hb hby d2_12) rfl (decide_eq_true rfl) (by decide) (by decide) ?_
    show Steps p.tables e below (T2.setTop (mkF m 34 #[rv w_Outcome_VIOLATES, rv w_Outcome_CONFORMS, rv w_Outcome_CONFORMS, rv w_Outcome_VIOLATES] [])) _
    refine XS.aloadN X2.here hx rfl (hb hby d2_34) rfl rfl ?_
    show Steps p.tables e below (T2.setTop (mkF m 35 #[rv w_Outcome_VIOLATES, rv w_Outcome_CONFORMS, rv w_Outcome_CONFORMS, rv w_Outcome_VIOLATES] [(.ref w_Outcome_VIOLATES)])) _
    refine st3 _ ?_
    show Steps p.tables e below (T3.setTop (mkF m 38 #[rv w_Outcome_VIOLATES, rv w_Outcome_CONFORMS, rv w_Outcome_CONFORMS, rv w_Outcome_VIOLATES] [(.int (0 : Int32))])) _
    refine XS.aloadN X3.here hx rfl (hb hby d2_38) rfl rfl ?_
    show Steps p.tables e below (T3.setTop (mkF m 39 #[rv w_Outcome_VIOLATES, rv w_Outcome_CONFORMS, rv w_Outcome_CONFORMS, rv w_Outcome_VIOLATES] [(.ref w_Outcome_CONFORMS), (.int (0 : Int32))])) _
    refine st4 _ ?_
    show Steps p.tables e below (T4.setTop (mkF m 42 #[rv w_Outcome_VIOLATES, rv w_Outcome_CONFORMS, rv w_Outcome_CONFORMS, rv w_Outcome_VIOLATES] [(.int (2 : Int32)), (.int (0 : Int32))])) _
    refine XS.isub X4.here hx rfl (hb hby d2_42) rfl ?_
    show Steps p.tables e below (T4.setTop (mkF m 43 #[rv w_Outcome_VIOLATES, rv w_Outcome_CONFORMS, rv w_Outcome_CONFORMS, rv w_Outcome_VIOLATES] [(.int ((0 : Int32) - (2 : Int32)))])) _
    rewrite [show ((0 : Int32) - (2 : Int32)) = (-2 : Int32) from by decide +kernel]
    show Steps p.tables e below (T4.setTop (mkF m 43 #[rv w_Outcome_VIOLATES, rv w_Outcome_CONFORMS, rv w_Outcome_CONFORMS, rv w_Outcome_VIOLATES] [(.int (-2 : Int32))])) _
    exact retI X4 hx Bd.returns (hb hby d2_43) hr
  · exact ⟨rfl, N0, e4⟩
set_option maxRecDepth 65536 in
set_option maxHeartbeats 40000000 in
theorem rm1_4 (l : Launch) (Z : State) (a0 : Array Value) (hw : ∀ d ∈ tables_1, d.before a0 Z = true) (ws : List Jvm.Cond) (w_Outcome_VIOLATES : Addr) (w_Outcome_CONFORMS : Addr) (mr_Outcome : Addr) (h0 : Heap) (n0 : Nat) (Z0 : n0 ≤ h0.size) (E_w_Outcome_VIOLATES : Exa Z h0 w_Outcome_VIOLATES "com/example/shapewell/shapewell/Outcome") (M_mr_Outcome : own_Mir Z "com/example/shapewell/shapewell/Outcome" mr_Outcome) (E_w_Outcome_CONFORMS : Exa Z h0 w_Outcome_CONFORMS "com/example/shapewell/shapewell/Outcome") (F_w_Outcome_VIOLATES_ordinal : Fld Z h0 w_Outcome_VIOLATES "java/lang/Enum" "ordinal" "I" (.int (0 : Int32))) (F_w_Outcome_CONFORMS_ordinal : Fld Z h0 w_Outcome_CONFORMS "java/lang/Enum" "ordinal" "I" (.int (2 : Int32))) :
    MetFree l (⟨"com/example/shapewell/shapewell/Outcome", "and", "(Lcom/example/shapewell/shapewell/Outcome;)Lcom/example/shapewell/shapewell/Outcome;"⟩ : MethodName) (head1 (Jvm.Cond.code (⟨"com/example/shapewell/shapewell/Outcome", "and", "(Lcom/example/shapewell/shapewell/Outcome;)Lcom/example/shapewell/shapewell/Outcome;"⟩ : MethodName) prog_3_method_5_code 2 (some (.object "com/example/shapewell/shapewell/Outcome")) :: ws) ({ frames := 2, cells := 0, slots := 0, locals := 30 } : Room)) (fun a U => a = #[(.ref w_Outcome_VIOLATES), (.ref w_Outcome_CONFORMS)] ∧ Z.Warmed39 U.vm ∧ U.heap = h0) (fun _ _ _ _ _ => True) (fun _ U o U' => ∃ v L, o = .returned v ∧ own_QP (some (.ref w_Outcome_VIOLATES)) h0 n0 v U'.heap L ∧ FrameEnd U o U' L ({ frames := 2, cells := 0, slots := 0, locals := 30 } : Room).cells ({ frames := 2, cells := 0, slots := 0, locals := 30 } : Room).slots) := by
  refine MetFree.of_bodySF (plainFor_of_name pn_1) hisR ?_
  intro p e s m args below meth c s₁ Bd hml0 hP hK
  obtain ⟨rfl, hZ, hh⟩ := hP
  have hx := Bd.exec
  have hby := Bd.bytes
  have hml : c.maxLocals = 2 := hml0
  have hown : s.vm.findClass "com/example/shapewell/shapewell/Outcome" = some m.cls := findClass_of_methodNamed Bd.named
  have hnm := (name_of_methodNamed Bd.named Bd.method).1
  have X0 : Stand p l e ({ frames := 2, cells := 0, slots := 0, locals := 30 } : Room) s m #[(.ref w_Outcome_VIOLATES), (.ref w_Outcome_CONFORMS)] below meth c s₁ [] 0 0 := Stand.of_body Bd
  have e0 : s₁.heap = h0 := by rw [← hh, Bd.state]; rfl
  have N0 := Fr.nil n0
  have pre0 : ∀ t, Steps p.tables e below (s₁.setTop (mkF m 0 #[rv w_Outcome_VIOLATES, rv w_Outcome_CONFORMS] [])) t → Steps p.tables e below (s₁.setTop (entryFrame m #[(.ref w_Outcome_VIOLATES), (.ref w_Outcome_CONFORMS)] 2)) t := fun t k => castTop (ef_1_RR m w_Outcome_VIOLATES w_Outcome_CONFORMS) k
  obtain ⟨cq1, kq1, q1a, q1b, q1c⟩ := isOf hZ e0 E_w_Outcome_VIOLATES
  obtain ⟨_, _, ⟨T1, L1, k1, n1⟩, -, X1, ⟨Lc1, hQ1, l1, y1, z1⟩, st1⟩ := X0.virtualBackUp hx (x := (⟨"com/example/shapewell/shapewell/Outcome", "compareTo", "(Ljava/lang/Enum;)I"⟩ : MethodName)) (y := (⟨"java/lang/Enum", "compareTo", "(Ljava/lang/Enum;)I"⟩ : MethodName)) hown (mvT hZ (hw _ (List.mem_of_getElem? (i := 16) rfl))) (mvT hZ (hw _ (List.mem_of_getElem? (i := 17) rfl))) (mvT hZ (hw _ (List.mem_of_getElem? (i := 18) rfl))) (by decide) (mvT hZ (hw _ (List.mem_of_getElem? (i := 20) rfl))) (mvT hZ (hw _ (List.mem_of_getElem? (i := 19) rfl))) (backOf (W := 0) (rm2_4 l Z a0 hw [] w_Outcome_VIOLATES w_Outcome_CONFORMS mr_Outcome h0 n0 Z0 E_w_Outcome_VIOLATES M_mr_Outcome E_w_Outcome_CONFORMS F_w_Outcome_VIOLATES_ordinal F_w_Outcome_CONFORMS_ordinal) hZ (hw _ (List.mem_of_getElem? (i := 22) rfl)) (hw _ (List.mem_of_getElem? (i := 21) rfl)) (by decide) (by decide)) q1a q1c (g := (mkF m 2 #[rv w_Outcome_VIOLATES, rv w_Outcome_CONFORMS] [(.ref w_Outcome_CONFORMS), (.ref w_Outcome_VIOLATES)])) rfl (by rw [hml]; rfl) (Steps.refl _) (argsL := [(.ref w_Outcome_CONFORMS)]) (rest := []) (lenOf pd_0 rfl) rfl (by show 2 * 0 + _ ≤ _; exact Nat.le_of_eq rfl) (hb hby d1_2) (fun _ _ => ⟨rfl, e0, (by decide : 0 + 0 ≤ _), (by decide : 0 + 0 ≤ _)⟩)
  dsimp only [Pt.U, Pt.locs, Pt.cells, Pt.slots] at X1 l1 y1 z1 st1 hQ1
  subst l1 y1 z1
  obtain ⟨rfl, N1q, e1⟩ := hQ1
  have N1 := Fr.app N0 N1q
  obtain ⟨fs, hr, hrun, hended, hW, hsame⟩ := X1.leave (v := (some (.ref w_Outcome_VIOLATES))) (fun h => by rw [Bd.returns] at h; cases h)
  refine ⟨_, _, pre0 _ ?_, hrun, hended, _, _, rfl, ?_, ⟨_, rfl⟩, hW, hsame.mono (by decide) (by decide)⟩
  · show Steps p.tables e below (s₁.setTop (mkF m 0 #[rv w_Outcome_VIOLATES, rv w_Outcome_CONFORMS] [])) _
    refine XS.aloadN X0.here hx rfl (hb hby d1_0) rfl rfl ?_
    show Steps p.tables e below (s₁.setTop (mkF m 1 #[rv w_Outcome_VIOLATES, rv w_Outcome_CONFORMS] [(.ref w_Outcome_VIOLATES)])) _
    refine XS.aloadN X0.here hx rfl (hb hby d1_1) rfl rfl ?_
    show Steps p.tables e below (s₁.setTop (mkF m 2 #[rv w_Outcome_VIOLATES, rv w_Outcome_CONFORMS] [(.ref w_Outcome_CONFORMS), (.ref w_Outcome_VIOLATES)])) _
    refine st1.trans ?_
    show Steps p.tables e below (T1.setTop (mkF m 5 #[rv w_Outcome_VIOLATES, rv w_Outcome_CONFORMS] [(.int (-2 : Int32))])) _
    refine XS.ifNo X1.here hx rfl (hb hby d1_5) rfl ((if0 _ _).trans (flt (by decide +kernel : ¬ ((0 : Int32) < (-2 : Int32)))).2.2.1) ?_
    show Steps p.tables e below (T1.setTop (mkF m 8 #[rv w_Outcome_VIOLATES, rv w_Outcome_CONFORMS] [])) _
    refine XS.aloadN X1.here hx rfl (hb hby d1_8) rfl rfl ?_
    show Steps p.tables e below (T1.setTop (mkF m 9 #[rv w_Outcome_VIOLATES, rv w_Outcome_CONFORMS] [(.ref w_Outcome_VIOLATES)])) _
    refine XS.goto X1.here hx rfl (pc0 := 9) (pc' := 13) rfl (hb hby d1_9) (by decide) (by decide) ?_
    show Steps p.tables e below (T1.setTop (mkF m 13 #[rv w_Outcome_VIOLATES, rv w_Outcome_CONFORMS] [(.ref w_Outcome_VIOLATES)])) _
    exact own_retA X1 hx Bd.returns rfl rfl (hb hby d1_13) hr
  · exact ⟨rfl, N1, e1⟩
set_option maxRecDepth 65536 in
set_option maxHeartbeats 40000000 in
theorem rm0_2 (l : Launch) (Z : State) (a0 : Array Value) (hw : ∀ d ∈ tables_1, d.before a0 Z = true) (ws : List Jvm.Cond) (p0 : Int32) (p1 : Int32) (w_Outcome_VIOLATES : Addr) (w_Outcome_UNDETERMINED : Addr) (w_Outcome_CONFORMS : Addr) (mr_Outcome : Addr) (h0 : Heap) (n0 : Nat) (Z0 : n0 ≤ h0.size) (S_Outcome_VIOLATES : Sta Z h0 "com/example/shapewell/shapewell/Outcome" "VIOLATES" "Lcom/example/shapewell/shapewell/Outcome;" (.ref w_Outcome_VIOLATES)) (E_w_Outcome_VIOLATES : Exa Z h0 w_Outcome_VIOLATES "com/example/shapewell/shapewell/Outcome") (S_Outcome_UNDETERMINED : Sta Z h0 "com/example/shapewell/shapewell/Outcome" "UNDETERMINED" "Lcom/example/shapewell/shapewell/Outcome;" (.ref w_Outcome_UNDETERMINED)) (E_w_Outcome_UNDETERMINED : Exa Z h0 w_Outcome_UNDETERMINED "com/example/shapewell/shapewell/Outcome") (S_Outcome_CONFORMS : Sta Z h0 "com/example/shapewell/shapewell/Outcome" "CONFORMS" "Lcom/example/shapewell/shapewell/Outcome;" (.ref w_Outcome_CONFORMS)) (E_w_Outcome_CONFORMS : Exa Z h0 w_Outcome_CONFORMS "com/example/shapewell/shapewell/Outcome") (hk0 : ((p0 &&& (2147483647 : Int32)) % (3 : Int32)) = (0 : Int32)) (hk1 : ((p1 &&& (2147483647 : Int32)) % (3 : Int32)) = (2 : Int32)) (M_mr_Outcome : own_Mir Z "com/example/shapewell/shapewell/Outcome" mr_Outcome) (F_w_Outcome_VIOLATES_ordinal : Fld Z h0 w_Outcome_VIOLATES "java/lang/Enum" "ordinal" "I" (.int (0 : Int32))) (F_w_Outcome_CONFORMS_ordinal : Fld Z h0 w_Outcome_CONFORMS "java/lang/Enum" "ordinal" "I" (.int (2 : Int32))) :
    MetFree l x (head1 (Jvm.Cond.code x code maxLocals ret :: ws) room_1) (fun a U => a = #[(.int p0), (.int p1)] ∧ Z.Warmed39 U.vm ∧ U.heap = h0) (fun _ _ _ _ _ => True) (fun _ U o U' => ∃ v L, o = .returned v ∧ own_QL n0 v U'.heap L ∧ FrameEnd U o U' L room_1.cells room_1.slots) := by
  refine MetFree.of_bodySF (plainFor_of_name pn_2) hisR ?_
  intro p e s m args below meth c s₁ Bd hml0 hP hK
  obtain ⟨rfl, hZ, hh⟩ := hP
  have hx := Bd.exec
  have hby := Bd.bytes
  have hml : c.maxLocals = 7 := hml0
  have hown : s.vm.findClass "com/example/shapewell/shapewell/OutcomeAndPinLaw" = some m.cls := findClass_of_methodNamed Bd.named
  have hnm := (name_of_methodNamed Bd.named Bd.method).1
  have X0 : Stand p l e room_1 s m #[(.int p0), (.int p1)] below meth c s₁ [] 0 0 := Stand.of_body Bd
  have e0 : s₁.heap = h0 := by rw [← hh, Bd.state]; rfl
  have N0 := Fr.nil n0
  have pre0 : ∀ t, Steps p.tables e below (s₁.setTop (mkF m 0 #[iv p0, iv p1, .unset, .unset, .unset, .unset, .unset] [])) t → Steps p.tables e below (s₁.setTop (entryFrame m #[(.int p0), (.int p1)] maxLocals)) t := fun t k => castTop (ef_0_II m p0 p1) k
  obtain ⟨T1, h1, k0_1, X1, e1, E1, A1, O1, st1⟩ := newR X0 hx hZ hown (hw _ (List.mem_of_getElem? (i := 0) rfl)) (hw _ (List.mem_of_getElem? (i := 1) rfl)) e0 (g := (mkF m 1 #[iv p0, iv p1, .unset, .unset, .unset, .unset, .unset] [(.int (3 : Int32))])) rfl (hb hby at_1) rfl (by decide) (cap := 3) (by decide) (by decide) (by decide) (by decide)
  obtain ⟨b0_1, gg1⟩ : ∃ z, z = h0.size := ⟨_, rfl⟩
  rw [← gg1] at A1 st1
  have g_b0_1 : n0 ≤ b0_1 := Nat.le_trans Z0 (Nat.le_of_eq gg1.symm)
  have sz_b0_1 : h0.size ≤ b0_1 := Nat.le_trans (Keep.refl h0 []).1 (Nat.le_of_eq gg1.symm)
  have Z1 : n0 ≤ h1.size := Nat.le_trans Z0 E1.1
  have KK1 : Keep h0 h1 [] := (Keep.refl h0 []).ext E1
  have V_b0_1 : Arv Z h1 b0_1 k0_1 (.object "com/example/shapewell/shapewell/Outcome") (3 : Int32) [.null, .null, .null] .null := (Arv.new A1 (by decide)).pad (pad_rep [] .null 3)
  have c2 := (S_Outcome_VIOLATES.ext E1)
  obtain ⟨T3, X3, e3, st3⟩ := getS2 X1 hx hZ hown (host := "") (Or.inl (hw _ (List.mem_of_getElem? (i := 2) rfl))) Via.refl e1 c2 (g := (mkF m 6 #[iv p0, iv p1, .unset, .unset, .unset, .unset, .unset] [(.int (0 : Int32)), (.ref b0_1), (.ref b0_1)])) rfl (hb hby at_6)
  obtain ⟨cl4, Ar4, qq4, Sz4, Nn4, Hs4, Gs4⟩ := id V_b0_1
  have hin4 : ¬ ((0 : Int32) < 0 ∨ cl4.slots.size ≤ ((0 : Int32)).toNatClampNeg) := inb_of Sz4 ⟨by decide, by decide⟩
  have c5 := (E_w_Outcome_VIOLATES.ext E1)
  obtain ⟨T6, h6, X6, e6, W6, st6⟩ := stR X3 hx hZ e3 Ar4 (j := (0 : Int32)) hin4 rfl (Sto.ofV Ar4 qq4 O1 (Ins.self c5)) (g := (mkF m 9 #[iv p0, iv p1, .unset, .unset, .unset, .unset, .unset] [(.ref w_Outcome_VIOLATES), (.int (0 : Int32)), (.ref b0_1), (.ref b0_1)])) rfl rfl (hb hby at_9)
  have vb6 : Arv Z h6 b0_1 k0_1 (.object "com/example/shapewell/shapewell/Outcome") (3 : Int32) [(.ref w_Outcome_VIOLATES), .null, .null] .null := Arv.set Ar4 qq4 Sz4 Nn4 Hs4 Gs4 rfl W6 0 rfl (Nat.le_of_ble_eq_true rfl)
  have Z6 : n0 ≤ h6.size := Nat.le_trans Z1 (Keep.of_wr W6).1
  have KK6 : Keep h0 h6 [] := KK1.wr W6 (Or.inr sz_b0_1)
  have N6 := Fr.snoc X6 N0 g_b0_1
  have c7 := ((S_Outcome_UNDETERMINED.ext E1).wr W6)
  obtain ⟨T8, X8, e8, st8⟩ := getS2 X6 hx hZ hown (host := "") (Or.inl (hw _ (List.mem_of_getElem? (i := 6) rfl))) Via.refl e6 c7 (g := (mkF m 12 #[iv p0, iv p1, .unset, .unset, .unset, .unset, .unset] [(.int (1 : Int32)), (.ref b0_1), (.ref b0_1)])) rfl (hb hby at_12)
  obtain ⟨cl9, Ar9, qq9, Sz9, Nn9, Hs9, Gs9⟩ := id vb6
  have hin9 : ¬ ((1 : Int32) < 0 ∨ cl9.slots.size ≤ ((1 : Int32)).toNatClampNeg) := inb_of Sz9 ⟨by decide, by decide⟩
  have c10 := ((E_w_Outcome_UNDETERMINED.ext E1).wr W6)
  obtain ⟨T11, h11, X11, e11, W11, st11⟩ := stR X8 hx hZ e8 Ar9 (j := (1 : Int32)) hin9 rfl (Sto.ofV Ar9 qq9 O1 (Ins.self c10)) (g := (mkF m 15 #[iv p0, iv p1, .unset, .unset, .unset, .unset, .unset] [(.ref w_Outcome_UNDETERMINED), (.int (1 : Int32)), (.ref b0_1), (.ref b0_1)])) rfl rfl (hb hby at_15)
  have vb11 : Arv Z h11 b0_1 k0_1 (.object "com/example/shapewell/shapewell/Outcome") (3 : Int32) [(.ref w_Outcome_VIOLATES), (.ref w_Outcome_UNDETERMINED), .null] .null := Arv.set Ar9 qq9 Sz9 Nn9 Hs9 Gs9 rfl W11 1 rfl (Nat.le_of_ble_eq_true rfl)
  have Z11 : n0 ≤ h11.size := Nat.le_trans Z6 (Keep.of_wr W11).1
  have KK11 : Keep h0 h11 [] := KK6.wr W11 (Or.inr sz_b0_1)
  have N11 := Fr.snoc X11 N6 g_b0_1
  have c12 := (((S_Outcome_CONFORMS.ext E1).wr W6).wr W11)
  obtain ⟨T13, X13, e13, st13⟩ := getS2 X11 hx hZ hown (host := "") (Or.inl (hw _ (List.mem_of_getElem? (i := 8) rfl))) Via.refl e11 c12 (g := (mkF m 18 #[iv p0, iv p1, .unset, .unset, .unset, .unset, .unset] [(.int (2 : Int32)), (.ref b0_1), (.ref b0_1)])) rfl (hb hby at_18)
  obtain ⟨cl14, Ar14, qq14, Sz14, Nn14, Hs14, Gs14⟩ := id vb11
  have hin14 : ¬ ((2 : Int32) < 0 ∨ cl14.slots.size ≤ ((2 : Int32)).toNatClampNeg) := inb_of Sz14 ⟨by decide, by decide⟩
  have c15 := (((E_w_Outcome_CONFORMS.ext E1).wr W6).wr W11)
  obtain ⟨T16, h16, X16, e16, W16, st16⟩ := stR X13 hx hZ e13 Ar14 (j := (2 : Int32)) hin14 rfl (Sto.ofV Ar14 qq14 O1 (Ins.self c15)) (g := (mkF m 21 #[iv p0, iv p1, .unset, .unset, .unset, .unset, .unset] [(.ref w_Outcome_CONFORMS), (.int (2 : Int32)), (.ref b0_1), (.ref b0_1)])) rfl rfl (hb hby at_21)
  have vb16 : Arv Z h16 b0_1 k0_1 (.object "com/example/shapewell/shapewell/Outcome") (3 : Int32) [(.ref w_Outcome_VIOLATES), (.ref w_Outcome_UNDETERMINED), (.ref w_Outcome_CONFORMS)] .null := Arv.set Ar14 qq14 Sz14 Nn14 Hs14 Gs14 rfl W16 2 rfl (Nat.le_of_ble_eq_true rfl)
  have Z16 : n0 ≤ h16.size := Nat.le_trans Z11 (Keep.of_wr W16).1
  have KK16 : Keep h0 h16 [] := KK11.wr W16 (Or.inr sz_b0_1)
  have N16 := Fr.snoc X16 N11 g_b0_1
  obtain ⟨cl17, Ar17, -, Sz17, Nn17, Hs17, Gs17⟩ := id vb16
  have hin17 : ¬ ((0 : Int32) < 0 ∨ cl17.slots.size ≤ ((0 : Int32)).toNatClampNeg) := inb_of Sz17 ⟨by decide, by decide⟩
  obtain ⟨cl18, Ar18, -, Sz18, Nn18, Hs18, Gs18⟩ := id vb16
  have hin18 : ¬ ((2 : Int32) < 0 ∨ cl18.slots.size ≤ ((2 : Int32)).toNatClampNeg) := inb_of Sz18 ⟨by decide, by decide⟩
  have c20 := (((c5.wr W6).wr W11).wr W16)
  have c21 := (c15.wr W16)
  have ne_b0_1_w_Outcome_VIOLATES_22 : ¬ (b0_1 = w_Outcome_VIOLATES) := (Ne.symm (Nat.ne_of_lt (Nat.lt_of_lt_of_le (E_w_Outcome_VIOLATES).lt (Nat.le_of_eq gg1.symm))))
  have c23 := ((((F_w_Outcome_VIOLATES_ordinal.ext E1).other W6 (Or.inl (Ne.symm ne_b0_1_w_Outcome_VIOLATES_22))).other W11 (Or.inl (Ne.symm ne_b0_1_w_Outcome_VIOLATES_22))).other W16 (Or.inl (Ne.symm ne_b0_1_w_Outcome_VIOLATES_22)))
  have ne_b0_1_w_Outcome_CONFORMS_24 : ¬ (b0_1 = w_Outcome_CONFORMS) := (Ne.symm (Nat.ne_of_lt (Nat.lt_of_lt_of_le (E_w_Outcome_CONFORMS).lt (Nat.le_of_eq gg1.symm))))
  have c25 := ((((F_w_Outcome_CONFORMS_ordinal.ext E1).other W6 (Or.inl (Ne.symm ne_b0_1_w_Outcome_CONFORMS_24))).other W11 (Or.inl (Ne.symm ne_b0_1_w_Outcome_CONFORMS_24))).other W16 (Or.inl (Ne.symm ne_b0_1_w_Outcome_CONFORMS_24)))
  obtain ⟨cq19, kq19, q19a, q19b, q19c⟩ := isOf hZ e16 c20
  obtain ⟨_, _, ⟨T19, L19, k19, n19⟩, -, X19, ⟨Lc19, hQ19, l19, y19, z19⟩, st19⟩ := X16.virtualBack hx (y := (⟨"com/example/shapewell/shapewell/Outcome", "and", "(Lcom/example/shapewell/shapewell/Outcome;)Lcom/example/shapewell/shapewell/Outcome;"⟩ : MethodName)) (z := (⟨"com/example/shapewell/shapewell/Outcome", "and", "(Lcom/example/shapewell/shapewell/Outcome;)Lcom/example/shapewell/shapewell/Outcome;"⟩ : MethodName)) hown (mvT hZ (hw _ (List.mem_of_getElem? (i := 11) rfl))) (mvT hZ (hw _ (List.mem_of_getElem? (i := 12) rfl))) (notFace_of_selects (args := #[]) (mvT hZ (hw _ (List.mem_of_getElem? (i := 14) rfl)))) (mvT hZ (hw _ (List.mem_of_getElem? (i := 14) rfl))) (mvT hZ (hw _ (List.mem_of_getElem? (i := 13) rfl))) (by decide) (backOf (W := 0) (rm1_4 l Z a0 hw [] w_Outcome_VIOLATES w_Outcome_CONFORMS mr_Outcome h16 n0 Z16 c20 M_mr_Outcome c21 c23 c25) hZ (hw _ (List.mem_of_getElem? (i := 15) rfl)) (hw _ (List.mem_of_getElem? (i := 3) rfl)) (by decide) (by decide)) q19a q19c (g := (mkF m 45 #[iv p0, iv p1, rv b0_1, rv w_Outcome_VIOLATES, rv w_Outcome_CONFORMS, .unset, .unset] [(.ref w_Outcome_CONFORMS), (.ref w_Outcome_VIOLATES)])) rfl (by rw [hml]; rfl) (Steps.refl _) (argsL := [(.ref w_Outcome_CONFORMS)]) (rest := []) (lenOf pd_1 rfl) rfl (by show 2 * 0 + _ ≤ _; exact Nat.le_of_eq rfl) (hb hby at_45) (fun _ _ => ⟨rfl, e16, (by decide : 1 + 0 ≤ _), (by decide : 3 + 0 ≤ _)⟩)
  dsimp only [Pt.U, Pt.locs, Pt.cells, Pt.slots] at X19 l19 y19 z19 st19 hQ19
  subst l19 y19 z19
  obtain ⟨rfl, N19q, e19⟩ := hQ19
  have N19 := Fr.app N16 N19q
  have c26 := (((c2.wr W6).wr W11).wr W16)
  obtain ⟨T27, X27, e27, st27⟩ := getS2 X19 hx hZ hown (host := "") (Or.inl (hw _ (List.mem_of_getElem? (i := 2) rfl))) Via.refl e19 c26 (g := (mkF m 51 #[iv p0, iv p1, rv b0_1, rv w_Outcome_VIOLATES, rv w_Outcome_CONFORMS, rv w_Outcome_VIOLATES, .unset] [(.ref w_Outcome_VIOLATES)])) rfl (hb hby at_51)
  obtain ⟨T28, X28, e28, st28⟩ := getS2 X27 hx hZ hown (host := "") (Or.inl (hw _ (List.mem_of_getElem? (i := 2) rfl))) Via.refl e27 c26 (g := (mkF m 65 #[iv p0, iv p1, rv b0_1, rv w_Outcome_VIOLATES, rv w_Outcome_CONFORMS, rv w_Outcome_VIOLATES, .unset] [])) rfl (hb hby at_65)
  obtain ⟨fs, hr, hrun, hended, hW, hsame⟩ := X28.leave (v := (some (.int (1 : Int32)))) (fun h => by rw [Bd.returns] at h; cases h)
  refine ⟨_, _, pre0 _ ?_, hrun, hended, _, _, rfl, ?_, ⟨_, rfl⟩, hW, hsame.mono (by decide) (by decide)⟩
  · show Steps p.tables e below (s₁.setTop (mkF m 0 #[iv p0, iv p1, .unset, .unset, .unset, .unset, .unset] [])) _
    refine XS.iconst X0.here hx rfl (hb hby at_0) ?_
    show Steps p.tables e below (s₁.setTop (mkF m 1 #[iv p0, iv p1, .unset, .unset, .unset, .unset, .unset] [(.int (3 : Int32))])) _
    refine st1 _ ?_
    show Steps p.tables e below (T1.setTop (mkF m 4 #[iv p0, iv p1, .unset, .unset, .unset, .unset, .unset] [(.ref b0_1)])) _
    refine XS.dup X1.here hx rfl (hb hby at_4) rfl rfl ?_
    show Steps p.tables e below (T1.setTop (mkF m 5 #[iv p0, iv p1, .unset, .unset, .unset, .unset, .unset] [(.ref b0_1), (.ref b0_1)])) _
    refine XS.iconst X1.here hx rfl (hb hby at_5) ?_
    show Steps p.tables e below (T1.setTop (mkF m 6 #[iv p0, iv p1, .unset, .unset, .unset, .unset, .unset] [(.int (0 : Int32)), (.ref b0_1), (.ref b0_1)])) _
    refine st3 _ ?_
    show Steps p.tables e below (T3.setTop (mkF m 9 #[iv p0, iv p1, .unset, .unset, .unset, .unset, .unset] [(.ref w_Outcome_VIOLATES), (.int (0 : Int32)), (.ref b0_1), (.ref b0_1)])) _
    refine st6 _ ?_
    show Steps p.tables e below (T6.setTop (mkF m 10 #[iv p0, iv p1, .unset, .unset, .unset, .unset, .unset] [(.ref b0_1)])) _
    refine XS.dup X6.here hx rfl (hb hby at_10) rfl rfl ?_
    show Steps p.tables e below (T6.setTop (mkF m 11 #[iv p0, iv p1, .unset, .unset, .unset, .unset, .unset] [(.ref b0_1), (.ref b0_1)])) _
    refine XS.iconst X6.here hx rfl (hb hby at_11) ?_
    show Steps p.tables e below (T6.setTop (mkF m 12 #[iv p0, iv p1, .unset, .unset, .unset, .unset, .unset] [(.int (1 : Int32)), (.ref b0_1), (.ref b0_1)])) _
    refine st8 _ ?_
    show Steps p.tables e below (T8.setTop (mkF m 15 #[iv p0, iv p1, .unset, .unset, .unset, .unset, .unset] [(.ref w_Outcome_UNDETERMINED), (.int (1 : Int32)), (.ref b0_1), (.ref b0_1)])) _
    refine st11 _ ?_
    show Steps p.tables e below (T11.setTop (mkF m 16 #[iv p0, iv p1, .unset, .unset, .unset, .unset, .unset] [(.ref b0_1)])) _
    refine XS.dup X11.here hx rfl (hb hby at_16) rfl rfl ?_
    show Steps p.tables e below (T11.setTop (mkF m 17 #[iv p0, iv p1, .unset, .unset, .unset, .unset, .unset] [(.ref b0_1), (.ref b0_1)])) _
    refine XS.iconst X11.here hx rfl (hb hby at_17) ?_
    show Steps p.tables e below (T11.setTop (mkF m 18 #[iv p0, iv p1, .unset, .unset, .unset, .unset, .unset] [(.int (2 : Int32)), (.ref b0_1), (.ref b0_1)])) _
    refine st13 _ ?_
    show Steps p.tables e below (T13.setTop (mkF m 21 #[iv p0, iv p1, .unset, .unset, .unset, .unset, .unset] [(.ref w_Outcome_CONFORMS), (.int (2 : Int32)), (.ref b0_1), (.ref b0_1)])) _
    refine st16 _ ?_
    show Steps p.tables e below (T16.setTop (mkF m 22 #[iv p0, iv p1, .unset, .unset, .unset, .unset, .unset] [(.ref b0_1)])) _
    refine XS.astoreN X16.here hx rfl (hb hby at_22) rfl rfl (l' := #[iv p0, iv p1, rv b0_1, .unset, .unset, .unset, .unset]) rfl ?_
    show Steps p.tables e below (T16.setTop (mkF m 23 #[iv p0, iv p1, rv b0_1, .unset, .unset, .unset, .unset] [])) _
    refine XS.aloadN X16.here hx rfl (hb hby at_23) rfl rfl ?_
    show Steps p.tables e below (T16.setTop (mkF m 24 #[iv p0, iv p1, rv b0_1, .unset, .unset, .unset, .unset] [(.ref b0_1)])) _
    refine XS.iloadN X16.here hx rfl (hb hby at_24) rfl ?_
    show Steps p.tables e below (T16.setTop (mkF m 25 #[iv p0, iv p1, rv b0_1, .unset, .unset, .unset, .unset] [(.int p0), (.ref b0_1)])) _
    refine X16.ldcInt hx hown (mvT hZ (hw _ (List.mem_of_getElem? (i := 10) rfl))) (g := (mkF m 25 #[iv p0, iv p1, rv b0_1, .unset, .unset, .unset, .unset] [(.int p0), (.ref b0_1)])) rfl (hb hby at_25) _ ?_
    show Steps p.tables e below (T16.setTop (mkF m 27 #[iv p0, iv p1, rv b0_1, .unset, .unset, .unset, .unset] [(.int (2147483647 : Int32)), (.int p0), (.ref b0_1)])) _
    refine XS.iand X16.here hx rfl (hb hby at_27) rfl ?_
    show Steps p.tables e below (T16.setTop (mkF m 28 #[iv p0, iv p1, rv b0_1, .unset, .unset, .unset, .unset] [(.int (p0 &&& (2147483647 : Int32))), (.ref b0_1)])) _
    refine XS.iconst X16.here hx rfl (hb hby at_28) ?_
    show Steps p.tables e below (T16.setTop (mkF m 29 #[iv p0, iv p1, rv b0_1, .unset, .unset, .unset, .unset] [(.int (3 : Int32)), (.int (p0 &&& (2147483647 : Int32))), (.ref b0_1)])) _
    refine iremM X16 hx rfl (hb hby at_29) rfl (by decide) ?_
    show Steps p.tables e below (T16.setTop (mkF m 30 #[iv p0, iv p1, rv b0_1, .unset, .unset, .unset, .unset] [(.int ((p0 &&& (2147483647 : Int32)) % (3 : Int32))), (.ref b0_1)])) _
    rewrite [hk0]
    show Steps p.tables e below (T16.setTop (mkF m 30 #[iv p0, iv p1, rv b0_1, .unset, .unset, .unset, .unset] [(.int (0 : Int32)), (.ref b0_1)])) _
    refine X16.aaload hx (j := (0 : Int32)) (v := (.ref w_Outcome_VIOLATES)) (by rw [e16]; exact Ar17.1) (State.isArrayOf_alike hZ.alike Ar17.2.1) rfl Ar17.2.2 hin17 (Hs17.at hin17 rfl) (g := (mkF m 30 #[iv p0, iv p1, rv b0_1, .unset, .unset, .unset, .unset] [(.int (0 : Int32)), (.ref b0_1)])) rfl rfl (hb hby at_30) _ ?_
    show Steps p.tables e below (T16.setTop (mkF m 31 #[iv p0, iv p1, rv b0_1, .unset, .unset, .unset, .unset] [(.ref w_Outcome_VIOLATES)])) _
    refine XS.astoreN X16.here hx rfl (hb hby at_31) rfl rfl (l' := #[iv p0, iv p1, rv b0_1, rv w_Outcome_VIOLATES, .unset, .unset, .unset]) rfl ?_
    show Steps p.tables e below (T16.setTop (mkF m 32 #[iv p0, iv p1, rv b0_1, rv w_Outcome_VIOLATES, .unset, .unset, .unset] [])) _
    refine XS.aloadN X16.here hx rfl (hb hby at_32) rfl rfl ?_
    show Steps p.tables e below (T16.setTop (mkF m 33 #[iv p0, iv p1, rv b0_1, rv w_Outcome_VIOLATES, .unset, .unset, .unset] [(.ref b0_1)])) _
    refine XS.iloadN X16.here hx rfl (hb hby at_33) rfl ?_
    show Steps p.tables e below (T16.setTop (mkF m 34 #[iv p0, iv p1, rv b0_1, rv w_Outcome_VIOLATES, .unset, .unset, .unset] [(.int p1), (.ref b0_1)])) _
    refine X16.ldcInt hx hown (mvT hZ (hw _ (List.mem_of_getElem? (i := 10) rfl))) (g := (mkF m 34 #[iv p0, iv p1, rv b0_1, rv w_Outcome_VIOLATES, .unset, .unset, .unset] [(.int p1), (.ref b0_1)])) rfl (hb hby at_34) _ ?_
    show Steps p.tables e below (T16.setTop (mkF m 36 #[iv p0, iv p1, rv b0_1, rv w_Outcome_VIOLATES, .unset, .unset, .unset] [(.int (2147483647 : Int32)), (.int p1), (.ref b0_1)])) _
    refine XS.iand X16.here hx rfl (hb hby at_36) rfl ?_
    show Steps p.tables e below (T16.setTop (mkF m 37 #[iv p0, iv p1, rv b0_1, rv w_Outcome_VIOLATES, .unset, .unset, .unset] [(.int (p1 &&& (2147483647 : Int32))), (.ref b0_1)])) _
    refine XS.iconst X16.here hx rfl (hb hby at_37) ?_
    show Steps p.tables e below (T16.setTop (mkF m 38 #[iv p0, iv p1, rv b0_1, rv w_Outcome_VIOLATES, .unset, .unset, .unset] [(.int (3 : Int32)), (.int (p1 &&& (2147483647 : Int32))), (.ref b0_1)])) _
    refine iremM X16 hx rfl (hb hby at_38) rfl (by decide) ?_
    show Steps p.tables e below (T16.setTop (mkF m 39 #[iv p0, iv p1, rv b0_1, rv w_Outcome_VIOLATES, .unset, .unset, .unset] [(.int ((p1 &&& (2147483647 : Int32)) % (3 : Int32))), (.ref b0_1)])) _
    rewrite [hk1]
    show Steps p.tables e below (T16.setTop (mkF m 39 #[iv p0, iv p1, rv b0_1, rv w_Outcome_VIOLATES, .unset, .unset, .unset] [(.int (2 : Int32)), (.ref b0_1)])) _
    refine X16.aaload hx (j := (2 : Int32)) (v := (.ref w_Outcome_CONFORMS)) (by rw [e16]; exact Ar18.1) (State.isArrayOf_alike hZ.alike Ar18.2.1) rfl Ar18.2.2 hin18 (Hs18.at hin18 rfl) (g := (mkF m 39 #[iv p0, iv p1, rv b0_1, rv w_Outcome_VIOLATES, .unset, .unset, .unset] [(.int (2 : Int32)), (.ref b0_1)])) rfl rfl (hb hby at_39) _ ?_
    show Steps p.tables e below (T16.setTop (mkF m 40 #[iv p0, iv p1, rv b0_1, rv w_Outcome_VIOLATES, .unset, .unset, .unset] [(.ref w_Outcome_CONFORMS)])) _
    refine XS.astore X16.here hx rfl (hb hby at_40) rfl rfl (l' := #[iv p0, iv p1, rv b0_1, rv w_Outcome_VIOLATES, rv w_Outcome_CONFORMS, .unset, .unset]) rfl ?_
    show Steps p.tables e below (T16.setTop (mkF m 42 #[iv p0, iv p1, rv b0_1, rv w_Outcome_VIOLATES, rv w_Outcome_CONFORMS, .unset, .unset] [])) _
    refine XS.aloadN X16.here hx rfl (hb hby at_42) rfl rfl ?_
    show Steps p.tables e below (T16.setTop (mkF m 43 #[iv p0, iv p1, rv b0_1, rv w_Outcome_VIOLATES, rv w_Outcome_CONFORMS, .unset, .unset] [(.ref w_Outcome_VIOLATES)])) _
    refine XS.aload X16.here hx rfl (hb hby at_43) rfl rfl ?_
    show Steps p.tables e below (T16.setTop (mkF m 45 #[iv p0, iv p1, rv b0_1, rv w_Outcome_VIOLATES, rv w_Outcome_CONFORMS, .unset, .unset] [(.ref w_Outcome_CONFORMS), (.ref w_Outcome_VIOLATES)])) _
    refine st19.trans ?_
    show Steps p.tables e below (T19.setTop (mkF m 48 #[iv p0, iv p1, rv b0_1, rv w_Outcome_VIOLATES, rv w_Outcome_CONFORMS, .unset, .unset] [(.ref w_Outcome_VIOLATES)])) _
    refine XS.astore X19.here hx rfl (hb hby at_48) rfl rfl (l' := #[iv p0, iv p1, rv b0_1, rv w_Outcome_VIOLATES, rv w_Outcome_CONFORMS, rv w_Outcome_VIOLATES, .unset]) rfl ?_
    show Steps p.tables e below (T19.setTop (mkF m 50 #[iv p0, iv p1, rv b0_1, rv w_Outcome_VIOLATES, rv w_Outcome_CONFORMS, rv w_Outcome_VIOLATES, .unset] [])) _
    refine XS.aloadN X19.here hx rfl (hb hby at_50) rfl rfl ?_
    show Steps p.tables e below (T19.setTop (mkF m 51 #[iv p0, iv p1, rv b0_1, rv w_Outcome_VIOLATES, rv w_Outcome_CONFORMS, rv w_Outcome_VIOLATES, .unset] [(.ref w_Outcome_VIOLATES)])) _
    refine st27 _ ?_
    show Steps p.tables e below (T27.setTop (mkF m 54 #[iv p0, iv p1, rv b0_1, rv w_Outcome_VIOLATES, rv w_Outcome_CONFORMS, rv w_Outcome_VIOLATES, .unset] [(.ref w_Outcome_VIOLATES), (.ref w_Outcome_VIOLATES)])) _
    refine Jvm.RoadKit.acmp (g := (mkF m 54 #[iv p0, iv p1, rv b0_1, rv w_Outcome_VIOLATES, rv w_Outcome_CONFORMS, rv w_Outcome_VIOLATES, .unset] [(.ref w_Outcome_VIOLATES), (.ref w_Outcome_VIOLATES)])) X27 hx rfl rfl rfl (pc0 := 54) (pc' := 65) (same := true) rfl (hb hby at_54) rfl (decide_eq_true rfl) (by decide) (by decide) ?_
    show Steps p.tables e below (T27.setTop (mkF m 65 #[iv p0, iv p1, rv b0_1, rv w_Outcome_VIOLATES, rv w_Outcome_CONFORMS, rv w_Outcome_VIOLATES, .unset] [])) _
    refine st28 _ ?_
    show Steps p.tables e below (T28.setTop (mkF m 68 #[iv p0, iv p1, rv b0_1, rv w_Outcome_VIOLATES, rv w_Outcome_CONFORMS, rv w_Outcome_VIOLATES, .unset] [(.ref w_Outcome_VIOLATES)])) _
    refine XS.astore X28.here hx rfl (hb hby at_68) rfl rfl (l' := #[iv p0, iv p1, rv b0_1, rv w_Outcome_VIOLATES, rv w_Outcome_CONFORMS, rv w_Outcome_VIOLATES, rv w_Outcome_VIOLATES]) rfl ?_
    show Steps p.tables e below (T28.setTop (mkF m 70 #[iv p0, iv p1, rv b0_1, rv w_Outcome_VIOLATES, rv w_Outcome_CONFORMS, rv w_Outcome_VIOLATES, rv w_Outcome_VIOLATES] [])) _
    refine XS.goto X28.here hx rfl (pc0 := 70) (pc' := 101) rfl (hb hby at_70) (by decide) (by decide) ?_
    show Steps p.tables e below (T28.setTop (mkF m 101 #[iv p0, iv p1, rv b0_1, rv w_Outcome_VIOLATES, rv w_Outcome_CONFORMS, rv w_Outcome_VIOLATES, rv w_Outcome_VIOLATES] [])) _
    refine XS.aload X28.here hx rfl (hb hby at_101) rfl rfl ?_
    show Steps p.tables e below (T28.setTop (mkF m 103 #[iv p0, iv p1, rv b0_1, rv w_Outcome_VIOLATES, rv w_Outcome_CONFORMS, rv w_Outcome_VIOLATES, rv w_Outcome_VIOLATES] [(.ref w_Outcome_VIOLATES)])) _
    refine XS.aload X28.here hx rfl (hb hby at_103) rfl rfl ?_
    show Steps p.tables e below (T28.setTop (mkF m 105 #[iv p0, iv p1, rv b0_1, rv w_Outcome_VIOLATES, rv w_Outcome_CONFORMS, rv w_Outcome_VIOLATES, rv w_Outcome_VIOLATES] [(.ref w_Outcome_VIOLATES), (.ref w_Outcome_VIOLATES)])) _
    refine Jvm.RoadKit.acmp (g := (mkF m 105 #[iv p0, iv p1, rv b0_1, rv w_Outcome_VIOLATES, rv w_Outcome_CONFORMS, rv w_Outcome_VIOLATES, rv w_Outcome_VIOLATES] [(.ref w_Outcome_VIOLATES), (.ref w_Outcome_VIOLATES)])) X28 hx rfl rfl rfl (pc0 := 105) (pc' := 108) (same := true) rfl (hb hby at_105) rfl (decide_eq_true rfl) (by decide) (by decide) ?_
    show Steps p.tables e below (T28.setTop (mkF m 108 #[iv p0, iv p1, rv b0_1, rv w_Outcome_VIOLATES, rv w_Outcome_CONFORMS, rv w_Outcome_VIOLATES, rv w_Outcome_VIOLATES] [])) _
    refine XS.iconst X28.here hx rfl (hb hby at_108) ?_
    show Steps p.tables e below (T28.setTop (mkF m 109 #[iv p0, iv p1, rv b0_1, rv w_Outcome_VIOLATES, rv w_Outcome_CONFORMS, rv w_Outcome_VIOLATES, rv w_Outcome_VIOLATES] [(.int (1 : Int32))])) _
    refine XS.goto X28.here hx rfl (pc0 := 109) (pc' := 113) rfl (hb hby at_109) (by decide) (by decide) ?_
    show Steps p.tables e below (T28.setTop (mkF m 113 #[iv p0, iv p1, rv b0_1, rv w_Outcome_VIOLATES, rv w_Outcome_CONFORMS, rv w_Outcome_VIOLATES, rv w_Outcome_VIOLATES] [(.int (1 : Int32))])) _
    exact retN X28 hx (t := .boolean) Bd.returns (by simp) (hb hby at_113) hr
  · exact ⟨rfl, N19⟩
set_option maxRecDepth 65536 in
set_option maxHeartbeats 40000000 in
theorem rm2_6 (l : Launch) (Z : State) (a0 : Array Value) (hw : ∀ d ∈ tables_1, d.before a0 Z = true) (ws : List Jvm.Cond) (w_Outcome_VIOLATES : Addr) (w_Outcome_UNDETERMINED : Addr) (mr_Outcome : Addr) (h0 : Heap) (n0 : Nat) (Z0 : n0 ≤ h0.size) (E_w_Outcome_UNDETERMINED : Exa Z h0 w_Outcome_UNDETERMINED "com/example/shapewell/shapewell/Outcome") (M_mr_Outcome : own_Mir Z "com/example/shapewell/shapewell/Outcome" mr_Outcome) (E_w_Outcome_VIOLATES : Exa Z h0 w_Outcome_VIOLATES "com/example/shapewell/shapewell/Outcome") (F_w_Outcome_UNDETERMINED_ordinal : Fld Z h0 w_Outcome_UNDETERMINED "java/lang/Enum" "ordinal" "I" (.int (1 : Int32))) (F_w_Outcome_VIOLATES_ordinal : Fld Z h0 w_Outcome_VIOLATES "java/lang/Enum" "ordinal" "I" (.int (0 : Int32))) :
    MetFree l (⟨"java/lang/Enum", "compareTo", "(Ljava/lang/Enum;)I"⟩ : MethodName) (head1 (Jvm.Cond.code (⟨"java/lang/Enum", "compareTo", "(Ljava/lang/Enum;)I"⟩ : MethodName) jdk_37_method_8_code 4 (some .int) :: ws) ({ frames := 1, cells := 0, slots := 0, locals := 15 } : Room)) (fun a U => a = #[(.ref w_Outcome_UNDETERMINED), (.ref w_Outcome_VIOLATES)] ∧ Z.Warmed39 U.vm ∧ U.heap = h0) (fun _ _ _ _ _ => True) (fun _ U o U' => ∃ v L, o = .returned v ∧ own_QP (some (.int (1 : Int32))) h0 n0 v U'.heap L ∧ FrameEnd U o U' L ({ frames := 1, cells := 0, slots := 0, locals := 15 } : Room).cells ({ frames := 1, cells := 0, slots := 0, locals := 15 } : Room).slots) := by
  refine MetFree.of_bodySF (plainFor_of_name pn_0) hisR ?_
  intro p e s m args below meth c s₁ Bd hml0 hP hK
  obtain ⟨rfl, hZ, hh⟩ := hP
  have hx := Bd.exec
  have hby := Bd.bytes
  have hml : c.maxLocals = 4 := hml0
  have hown : s.vm.findClass "java/lang/Enum" = some m.cls := findClass_of_methodNamed Bd.named
  have hnm := (name_of_methodNamed Bd.named Bd.method).1
  have X0 : Stand p l e ({ frames := 1, cells := 0, slots := 0, locals := 15 } : Room) s m #[(.ref w_Outcome_UNDETERMINED), (.ref w_Outcome_VIOLATES)] below meth c s₁ [] 0 0 := Stand.of_body Bd
  have e0 : s₁.heap = h0 := by rw [← hh, Bd.state]; rfl
  have N0 := Fr.nil n0
  have pre0 : ∀ t, Steps p.tables e below (s₁.setTop (mkF m 0 #[rv w_Outcome_UNDETERMINED, rv w_Outcome_VIOLATES, .unset, .unset] [])) t → Steps p.tables e below (s₁.setTop (entryFrame m #[(.ref w_Outcome_UNDETERMINED), (.ref w_Outcome_VIOLATES)] 4)) t := fun t k => castTop (ef_2_RR m w_Outcome_UNDETERMINED w_Outcome_VIOLATES) k
  obtain ⟨T1, X1, e1, st1⟩ := own_gcls X0 hx hZ hown (hw _ (List.mem_of_getElem? (i := 23) rfl)) (hw _ (List.mem_of_getElem? (i := 24) rfl)) (hw _ (List.mem_of_getElem? (i := 26) rfl)) (hw _ (List.mem_of_getElem? (i := 25) rfl)) (hw _ (List.mem_of_getElem? (i := 27) rfl)) e0 E_w_Outcome_UNDETERMINED M_mr_Outcome (g := (mkF m 5 #[rv w_Outcome_UNDETERMINED, rv w_Outcome_VIOLATES, rv w_Outcome_VIOLATES, rv w_Outcome_UNDETERMINED] [(.ref w_Outcome_UNDETERMINED)])) rfl (by rw [hml]; rfl) rfl (hb hby d2_5) (by decide) (W := 0) (by show 2 * 0 + _ ≤ _; exact Nat.le_of_eq rfl) (by decide)
  obtain ⟨T2, X2, e2, st2⟩ := own_gcls X1 hx hZ hown (hw _ (List.mem_of_getElem? (i := 23) rfl)) (hw _ (List.mem_of_getElem? (i := 24) rfl)) (hw _ (List.mem_of_getElem? (i := 26) rfl)) (hw _ (List.mem_of_getElem? (i := 25) rfl)) (hw _ (List.mem_of_getElem? (i := 27) rfl)) e1 E_w_Outcome_VIOLATES M_mr_Outcome (g := (mkF m 9 #[rv w_Outcome_UNDETERMINED, rv w_Outcome_VIOLATES, rv w_Outcome_VIOLATES, rv w_Outcome_UNDETERMINED] [(.ref w_Outcome_VIOLATES), (.ref mr_Outcome)])) rfl (by rw [hml]; rfl) rfl (hb hby d2_9) (by decide) (W := 1) (by show 2 * 0 + _ ≤ _; exact Nat.le_of_eq rfl) (by decide)
  obtain ⟨T3, X3, e3, st3⟩ := getF X2 hx hZ hown (host := "") (Or.inl (hw _ (List.mem_of_getElem? (i := 28) rfl))) Via.refl e2 F_w_Outcome_UNDETERMINED_ordinal (g := (mkF m 35 #[rv w_Outcome_UNDETERMINED, rv w_Outcome_VIOLATES, rv w_Outcome_VIOLATES, rv w_Outcome_UNDETERMINED] [(.ref w_Outcome_UNDETERMINED)])) rfl rfl (hb hby d2_35)
  obtain ⟨T4, X4, e4, st4⟩ := getF X3 hx hZ hown (host := "") (Or.inl (hw _ (List.mem_of_getElem? (i := 28) rfl))) Via.refl e3 F_w_Outcome_VIOLATES_ordinal (g := (mkF m 39 #[rv w_Outcome_UNDETERMINED, rv w_Outcome_VIOLATES, rv w_Outcome_VIOLATES, rv w_Outcome_UNDETERMINED] [(.ref w_Outcome_VIOLATES), (.int (1 : Int32))])) rfl rfl (hb hby d2_39)
  obtain ⟨fs, hr, hrun, hended, hW, hsame⟩ := X4.leave (v := (some (.int (1 : Int32)))) (fun h => by rw [Bd.returns] at h; cases h)
  refine ⟨_, _, pre0 _ ?_, hrun, hended, _, _, rfl, ?_, ⟨_, rfl⟩, hW, hsame.mono (by decide) (by decide)⟩
  · show Steps p.tables e below (s₁.setTop (mkF m 0 #[rv w_Outcome_UNDETERMINED, rv w_Outcome_VIOLATES, .unset, .unset] [])) _
    refine XS.aloadN X0.here hx rfl (hb hby d2_0) rfl rfl ?_
    show Steps p.tables e below (s₁.setTop (mkF m 1 #[rv w_Outcome_UNDETERMINED, rv w_Outcome_VIOLATES, .unset, .unset] [(.ref w_Outcome_VIOLATES)])) _
    refine XS.astoreN X0.here hx rfl (hb hby d2_1) rfl rfl (l' := #[rv w_Outcome_UNDETERMINED, rv w_Outcome_VIOLATES, rv w_Outcome_VIOLATES, .unset]) rfl ?_
    show Steps p.tables e below (s₁.setTop (mkF m 2 #[rv w_Outcome_UNDETERMINED, rv w_Outcome_VIOLATES, rv w_Outcome_VIOLATES, .unset] [])) _
    refine XS.aloadN X0.here hx rfl (hb hby d2_2) rfl rfl ?_
    show Steps p.tables e below (s₁.setTop (mkF m 3 #[rv w_Outcome_UNDETERMINED, rv w_Outcome_VIOLATES, rv w_Outcome_VIOLATES, .unset] [(.ref w_Outcome_UNDETERMINED)])) _
    refine XS.astoreN X0.here hx rfl (hb hby d2_3) rfl rfl (l' := #[rv w_Outcome_UNDETERMINED, rv w_Outcome_VIOLATES, rv w_Outcome_VIOLATES, rv w_Outcome_UNDETERMINED]) rfl ?_
    show Steps p.tables e below (s₁.setTop (mkF m 4 #[rv w_Outcome_UNDETERMINED, rv w_Outcome_VIOLATES, rv w_Outcome_VIOLATES, rv w_Outcome_UNDETERMINED] [])) _
    refine XS.aloadN X0.here hx rfl (hb hby d2_4) rfl rfl ?_
    show Steps p.tables e below (s₁.setTop (mkF m 5 #[rv w_Outcome_UNDETERMINED, rv w_Outcome_VIOLATES, rv w_Outcome_VIOLATES, rv w_Outcome_UNDETERMINED] [(.ref w_Outcome_UNDETERMINED)])) _
    refine st1 _ ?_
    show Steps p.tables e below (T1.setTop (mkF m 8 #[rv w_Outcome_UNDETERMINED, rv w_Outcome_VIOLATES, rv w_Outcome_VIOLATES, rv w_Outcome_UNDETERMINED] [(.ref mr_Outcome)])) _
    refine XS.aloadN X1.here hx rfl (hb hby d2_8) rfl rfl ?_
    show Steps p.tables e below (T1.setTop (mkF m 9 #[rv w_Outcome_UNDETERMINED, rv w_Outcome_VIOLATES, rv w_Outcome_VIOLATES, rv w_Outcome_UNDETERMINED] [(.ref w_Outcome_VIOLATES), (.ref mr_Outcome)])) _
    refine st2 _ ?_
    show Steps p.tables e below (T2.setTop (mkF m 12 #[rv w_Outcome_UNDETERMINED, rv w_Outcome_VIOLATES, rv w_Outcome_VIOLATES, rv w_Outcome_UNDETERMINED] [(.ref mr_Outcome), (.ref mr_Outcome)])) _
    refine Jvm.RoadKit.acmp (g := (mkF m 12 #[rv w_Outcome_UNDETERMINED, rv w_Outcome_VIOLATES, rv w_Outcome_VIOLATES, rv w_Outcome_UNDETERMINED] [(.ref mr_Outcome), (.ref mr_Outcome)])) X2 hx rfl rfl rfl (pc0 := 12) (pc' := 34) (same := true) rfl (hb hby d2_12) rfl (decide_eq_true rfl) (by decide) (by decide) ?_
    show Steps p.tables e below (T2.setTop (mkF m 34 #[rv w_Outcome_UNDETERMINED, rv w_Outcome_VIOLATES, rv w_Outcome_VIOLATES, rv w_Outcome_UNDETERMINED] [])) _
    refine XS.aloadN X2.here hx rfl (hb hby d2_34) rfl rfl ?_
    show Steps p.tables e below (T2.setTop (mkF m 35 #[rv w_Outcome_UNDETERMINED, rv w_Outcome_VIOLATES, rv w_Outcome_VIOLATES, rv w_Outcome_UNDETERMINED] [(.ref w_Outcome_UNDETERMINED)])) _
    refine st3 _ ?_
    show Steps p.tables e below (T3.setTop (mkF m 38 #[rv w_Outcome_UNDETERMINED, rv w_Outcome_VIOLATES, rv w_Outcome_VIOLATES, rv w_Outcome_UNDETERMINED] [(.int (1 : Int32))])) _
    refine XS.aloadN X3.here hx rfl (hb hby d2_38) rfl rfl ?_
    show Steps p.tables e below (T3.setTop (mkF m 39 #[rv w_Outcome_UNDETERMINED, rv w_Outcome_VIOLATES, rv w_Outcome_VIOLATES, rv w_Outcome_UNDETERMINED] [(.ref w_Outcome_VIOLATES), (.int (1 : Int32))])) _
    refine st4 _ ?_
    show Steps p.tables e below (T4.setTop (mkF m 42 #[rv w_Outcome_UNDETERMINED, rv w_Outcome_VIOLATES, rv w_Outcome_VIOLATES, rv w_Outcome_UNDETERMINED] [(.int (0 : Int32)), (.int (1 : Int32))])) _
    refine XS.isub X4.here hx rfl (hb hby d2_42) rfl ?_
    show Steps p.tables e below (T4.setTop (mkF m 43 #[rv w_Outcome_UNDETERMINED, rv w_Outcome_VIOLATES, rv w_Outcome_VIOLATES, rv w_Outcome_UNDETERMINED] [(.int ((1 : Int32) - (0 : Int32)))])) _
    rewrite [show ((1 : Int32) - (0 : Int32)) = (1 : Int32) from by decide +kernel]
    show Steps p.tables e below (T4.setTop (mkF m 43 #[rv w_Outcome_UNDETERMINED, rv w_Outcome_VIOLATES, rv w_Outcome_VIOLATES, rv w_Outcome_UNDETERMINED] [(.int (1 : Int32))])) _
    exact retI X4 hx Bd.returns (hb hby d2_43) hr
  · exact ⟨rfl, N0, e4⟩
set_option maxRecDepth 65536 in
set_option maxHeartbeats 40000000 in
theorem rm1_6 (l : Launch) (Z : State) (a0 : Array Value) (hw : ∀ d ∈ tables_1, d.before a0 Z = true) (ws : List Jvm.Cond) (w_Outcome_VIOLATES : Addr) (w_Outcome_UNDETERMINED : Addr) (mr_Outcome : Addr) (h0 : Heap) (n0 : Nat) (Z0 : n0 ≤ h0.size) (E_w_Outcome_UNDETERMINED : Exa Z h0 w_Outcome_UNDETERMINED "com/example/shapewell/shapewell/Outcome") (M_mr_Outcome : own_Mir Z "com/example/shapewell/shapewell/Outcome" mr_Outcome) (E_w_Outcome_VIOLATES : Exa Z h0 w_Outcome_VIOLATES "com/example/shapewell/shapewell/Outcome") (F_w_Outcome_UNDETERMINED_ordinal : Fld Z h0 w_Outcome_UNDETERMINED "java/lang/Enum" "ordinal" "I" (.int (1 : Int32))) (F_w_Outcome_VIOLATES_ordinal : Fld Z h0 w_Outcome_VIOLATES "java/lang/Enum" "ordinal" "I" (.int (0 : Int32))) :
    MetFree l (⟨"com/example/shapewell/shapewell/Outcome", "and", "(Lcom/example/shapewell/shapewell/Outcome;)Lcom/example/shapewell/shapewell/Outcome;"⟩ : MethodName) (head1 (Jvm.Cond.code (⟨"com/example/shapewell/shapewell/Outcome", "and", "(Lcom/example/shapewell/shapewell/Outcome;)Lcom/example/shapewell/shapewell/Outcome;"⟩ : MethodName) prog_3_method_5_code 2 (some (.object "com/example/shapewell/shapewell/Outcome")) :: ws) ({ frames := 2, cells := 0, slots := 0, locals := 30 } : Room)) (fun a U => a = #[(.ref w_Outcome_UNDETERMINED), (.ref w_Outcome_VIOLATES)] ∧ Z.Warmed39 U.vm ∧ U.heap = h0) (fun _ _ _ _ _ => True) (fun _ U o U' => ∃ v L, o = .returned v ∧ own_QP (some (.ref w_Outcome_VIOLATES)) h0 n0 v U'.heap L ∧ FrameEnd U o U' L ({ frames := 2, cells := 0, slots := 0, locals := 30 } : Room).cells ({ frames := 2, cells := 0, slots := 0, locals := 30 } : Room).slots) := by
  refine MetFree.of_bodySF (plainFor_of_name pn_1) hisR ?_
  intro p e s m args below meth c s₁ Bd hml0 hP hK
  obtain ⟨rfl, hZ, hh⟩ := hP
  have hx := Bd.exec
  have hby := Bd.bytes
  have hml : c.maxLocals = 2 := hml0
  have hown : s.vm.findClass "com/example/shapewell/shapewell/Outcome" = some m.cls := findClass_of_methodNamed Bd.named
  have hnm := (name_of_methodNamed Bd.named Bd.method).1
  have X0 : Stand p l e ({ frames := 2, cells := 0, slots := 0, locals := 30 } : Room) s m #[(.ref w_Outcome_UNDETERMINED), (.ref w_Outcome_VIOLATES)] below meth c s₁ [] 0 0 := Stand.of_body Bd
  have e0 : s₁.heap = h0 := by rw [← hh, Bd.state]; rfl
  have N0 := Fr.nil n0
  have pre0 : ∀ t, Steps p.tables e below (s₁.setTop (mkF m 0 #[rv w_Outcome_UNDETERMINED, rv w_Outcome_VIOLATES] [])) t → Steps p.tables e below (s₁.setTop (entryFrame m #[(.ref w_Outcome_UNDETERMINED), (.ref w_Outcome_VIOLATES)] 2)) t := fun t k => castTop (ef_1_RR m w_Outcome_UNDETERMINED w_Outcome_VIOLATES) k
  obtain ⟨cq1, kq1, q1a, q1b, q1c⟩ := isOf hZ e0 E_w_Outcome_UNDETERMINED
  obtain ⟨_, _, ⟨T1, L1, k1, n1⟩, -, X1, ⟨Lc1, hQ1, l1, y1, z1⟩, st1⟩ := X0.virtualBackUp hx (x := (⟨"com/example/shapewell/shapewell/Outcome", "compareTo", "(Ljava/lang/Enum;)I"⟩ : MethodName)) (y := (⟨"java/lang/Enum", "compareTo", "(Ljava/lang/Enum;)I"⟩ : MethodName)) hown (mvT hZ (hw _ (List.mem_of_getElem? (i := 16) rfl))) (mvT hZ (hw _ (List.mem_of_getElem? (i := 17) rfl))) (mvT hZ (hw _ (List.mem_of_getElem? (i := 18) rfl))) (by decide) (mvT hZ (hw _ (List.mem_of_getElem? (i := 20) rfl))) (mvT hZ (hw _ (List.mem_of_getElem? (i := 19) rfl))) (backOf (W := 0) (rm2_6 l Z a0 hw [] w_Outcome_VIOLATES w_Outcome_UNDETERMINED mr_Outcome h0 n0 Z0 E_w_Outcome_UNDETERMINED M_mr_Outcome E_w_Outcome_VIOLATES F_w_Outcome_UNDETERMINED_ordinal F_w_Outcome_VIOLATES_ordinal) hZ (hw _ (List.mem_of_getElem? (i := 22) rfl)) (hw _ (List.mem_of_getElem? (i := 21) rfl)) (by decide) (by decide)) q1a q1c (g := (mkF m 2 #[rv w_Outcome_UNDETERMINED, rv w_Outcome_VIOLATES] [(.ref w_Outcome_VIOLATES), (.ref w_Outcome_UNDETERMINED)])) rfl (by rw [hml]; rfl) (Steps.refl _) (argsL := [(.ref w_Outcome_VIOLATES)]) (rest := []) (lenOf pd_0 rfl) rfl (by show 2 * 0 + _ ≤ _; exact Nat.le_of_eq rfl) (hb hby d1_2) (fun _ _ => ⟨rfl, e0, (by decide : 0 + 0 ≤ _), (by decide : 0 + 0 ≤ _)⟩)
  dsimp only [Pt.U, Pt.locs, Pt.cells, Pt.slots] at X1 l1 y1 z1 st1 hQ1
  subst l1 y1 z1
  obtain ⟨rfl, N1q, e1⟩ := hQ1
  have N1 := Fr.app N0 N1q
  obtain ⟨fs, hr, hrun, hended, hW, hsame⟩ := X1.leave (v := (some (.ref w_Outcome_VIOLATES))) (fun h => by rw [Bd.returns] at h; cases h)
  refine ⟨_, _, pre0 _ ?_, hrun, hended, _, _, rfl, ?_, ⟨_, rfl⟩, hW, hsame.mono (by decide) (by decide)⟩
  · show Steps p.tables e below (s₁.setTop (mkF m 0 #[rv w_Outcome_UNDETERMINED, rv w_Outcome_VIOLATES] [])) _
    refine XS.aloadN X0.here hx rfl (hb hby d1_0) rfl rfl ?_
    show Steps p.tables e below (s₁.setTop (mkF m 1 #[rv w_Outcome_UNDETERMINED, rv w_Outcome_VIOLATES] [(.ref w_Outcome_UNDETERMINED)])) _
    refine XS.aloadN X0.here hx rfl (hb hby d1_1) rfl rfl ?_
    show Steps p.tables e below (s₁.setTop (mkF m 2 #[rv w_Outcome_UNDETERMINED, rv w_Outcome_VIOLATES] [(.ref w_Outcome_VIOLATES), (.ref w_Outcome_UNDETERMINED)])) _
    refine st1.trans ?_
    show Steps p.tables e below (T1.setTop (mkF m 5 #[rv w_Outcome_UNDETERMINED, rv w_Outcome_VIOLATES] [(.int (1 : Int32))])) _
    refine XS.ifYes X1.here hx rfl (pc0 := 5) (pc' := 12) rfl (hb hby d1_5) rfl ((if0 _ _).trans (tlt (by decide +kernel : (0 : Int32) < (1 : Int32))).2.2.1) (by decide) (by decide) ?_
    show Steps p.tables e below (T1.setTop (mkF m 12 #[rv w_Outcome_UNDETERMINED, rv w_Outcome_VIOLATES] [])) _
    refine XS.aloadN X1.here hx rfl (hb hby d1_12) rfl rfl ?_
    show Steps p.tables e below (T1.setTop (mkF m 13 #[rv w_Outcome_UNDETERMINED, rv w_Outcome_VIOLATES] [(.ref w_Outcome_VIOLATES)])) _
    exact own_retA X1 hx Bd.returns rfl rfl (hb hby d1_13) hr
  · exact ⟨rfl, N1, e1⟩
set_option maxRecDepth 65536 in
set_option maxHeartbeats 40000000 in
theorem rm0_3 (l : Launch) (Z : State) (a0 : Array Value) (hw : ∀ d ∈ tables_1, d.before a0 Z = true) (ws : List Jvm.Cond) (p0 : Int32) (p1 : Int32) (w_Outcome_VIOLATES : Addr) (w_Outcome_UNDETERMINED : Addr) (w_Outcome_CONFORMS : Addr) (mr_Outcome : Addr) (h0 : Heap) (n0 : Nat) (Z0 : n0 ≤ h0.size) (S_Outcome_VIOLATES : Sta Z h0 "com/example/shapewell/shapewell/Outcome" "VIOLATES" "Lcom/example/shapewell/shapewell/Outcome;" (.ref w_Outcome_VIOLATES)) (E_w_Outcome_VIOLATES : Exa Z h0 w_Outcome_VIOLATES "com/example/shapewell/shapewell/Outcome") (S_Outcome_UNDETERMINED : Sta Z h0 "com/example/shapewell/shapewell/Outcome" "UNDETERMINED" "Lcom/example/shapewell/shapewell/Outcome;" (.ref w_Outcome_UNDETERMINED)) (E_w_Outcome_UNDETERMINED : Exa Z h0 w_Outcome_UNDETERMINED "com/example/shapewell/shapewell/Outcome") (S_Outcome_CONFORMS : Sta Z h0 "com/example/shapewell/shapewell/Outcome" "CONFORMS" "Lcom/example/shapewell/shapewell/Outcome;" (.ref w_Outcome_CONFORMS)) (E_w_Outcome_CONFORMS : Exa Z h0 w_Outcome_CONFORMS "com/example/shapewell/shapewell/Outcome") (hk0 : ((p0 &&& (2147483647 : Int32)) % (3 : Int32)) = (1 : Int32)) (hk1 : ((p1 &&& (2147483647 : Int32)) % (3 : Int32)) = (0 : Int32)) (M_mr_Outcome : own_Mir Z "com/example/shapewell/shapewell/Outcome" mr_Outcome) (F_w_Outcome_UNDETERMINED_ordinal : Fld Z h0 w_Outcome_UNDETERMINED "java/lang/Enum" "ordinal" "I" (.int (1 : Int32))) (F_w_Outcome_VIOLATES_ordinal : Fld Z h0 w_Outcome_VIOLATES "java/lang/Enum" "ordinal" "I" (.int (0 : Int32))) (ne_w_Outcome_UNDETERMINED_w_Outcome_VIOLATES : ¬ (w_Outcome_UNDETERMINED = w_Outcome_VIOLATES)) :
    MetFree l x (head1 (Jvm.Cond.code x code maxLocals ret :: ws) room_1) (fun a U => a = #[(.int p0), (.int p1)] ∧ Z.Warmed39 U.vm ∧ U.heap = h0) (fun _ _ _ _ _ => True) (fun _ U o U' => ∃ v L, o = .returned v ∧ own_QL n0 v U'.heap L ∧ FrameEnd U o U' L room_1.cells room_1.slots) := by
  refine MetFree.of_bodySF (plainFor_of_name pn_2) hisR ?_
  intro p e s m args below meth c s₁ Bd hml0 hP hK
  obtain ⟨rfl, hZ, hh⟩ := hP
  have hx := Bd.exec
  have hby := Bd.bytes
  have hml : c.maxLocals = 7 := hml0
  have hown : s.vm.findClass "com/example/shapewell/shapewell/OutcomeAndPinLaw" = some m.cls := findClass_of_methodNamed Bd.named
  have hnm := (name_of_methodNamed Bd.named Bd.method).1
  have X0 : Stand p l e room_1 s m #[(.int p0), (.int p1)] below meth c s₁ [] 0 0 := Stand.of_body Bd
  have e0 : s₁.heap = h0 := by rw [← hh, Bd.state]; rfl
  have N0 := Fr.nil n0
  have pre0 : ∀ t, Steps p.tables e below (s₁.setTop (mkF m 0 #[iv p0, iv p1, .unset, .unset, .unset, .unset, .unset] [])) t → Steps p.tables e below (s₁.setTop (entryFrame m #[(.int p0), (.int p1)] maxLocals)) t := fun t k => castTop (ef_0_II m p0 p1) k
  obtain ⟨T1, h1, k0_1, X1, e1, E1, A1, O1, st1⟩ := newR X0 hx hZ hown (hw _ (List.mem_of_getElem? (i := 0) rfl)) (hw _ (List.mem_of_getElem? (i := 1) rfl)) e0 (g := (mkF m 1 #[iv p0, iv p1, .unset, .unset, .unset, .unset, .unset] [(.int (3 : Int32))])) rfl (hb hby at_1) rfl (by decide) (cap := 3) (by decide) (by decide) (by decide) (by decide)
  obtain ⟨b0_1, gg1⟩ : ∃ z, z = h0.size := ⟨_, rfl⟩
  rw [← gg1] at A1 st1
  have g_b0_1 : n0 ≤ b0_1 := Nat.le_trans Z0 (Nat.le_of_eq gg1.symm)
  have sz_b0_1 : h0.size ≤ b0_1 := Nat.le_trans (Keep.refl h0 []).1 (Nat.le_of_eq gg1.symm)
  have Z1 : n0 ≤ h1.size := Nat.le_trans Z0 E1.1
  have KK1 : Keep h0 h1 [] := (Keep.refl h0 []).ext E1
  have V_b0_1 : Arv Z h1 b0_1 k0_1 (.object "com/example/shapewell/shapewell/Outcome") (3 : Int32) [.null, .null, .null] .null := (Arv.new A1 (by decide)).pad (pad_rep [] .null 3)
  have c2 := (S_Outcome_VIOLATES.ext E1)
  obtain ⟨T3, X3, e3, st3⟩ := getS2 X1 hx hZ hown (host := "") (Or.inl (hw _ (List.mem_of_getElem? (i := 2) rfl))) Via.refl e1 c2 (g := (mkF m 6 #[iv p0, iv p1, .unset, .unset, .unset, .unset, .unset] [(.int (0 : Int32)), (.ref b0_1), (.ref b0_1)])) rfl (hb hby at_6)
  obtain ⟨cl4, Ar4, qq4, Sz4, Nn4, Hs4, Gs4⟩ := id V_b0_1
  have hin4 : ¬ ((0 : Int32) < 0 ∨ cl4.slots.size ≤ ((0 : Int32)).toNatClampNeg) := inb_of Sz4 ⟨by decide, by decide⟩
  have c5 := (E_w_Outcome_VIOLATES.ext E1)
  obtain ⟨T6, h6, X6, e6, W6, st6⟩ := stR X3 hx hZ e3 Ar4 (j := (0 : Int32)) hin4 rfl (Sto.ofV Ar4 qq4 O1 (Ins.self c5)) (g := (mkF m 9 #[iv p0, iv p1, .unset, .unset, .unset, .unset, .unset] [(.ref w_Outcome_VIOLATES), (.int (0 : Int32)), (.ref b0_1), (.ref b0_1)])) rfl rfl (hb hby at_9)
  have vb6 : Arv Z h6 b0_1 k0_1 (.object "com/example/shapewell/shapewell/Outcome") (3 : Int32) [(.ref w_Outcome_VIOLATES), .null, .null] .null := Arv.set Ar4 qq4 Sz4 Nn4 Hs4 Gs4 rfl W6 0 rfl (Nat.le_of_ble_eq_true rfl)
  have Z6 : n0 ≤ h6.size := Nat.le_trans Z1 (Keep.of_wr W6).1
  have KK6 : Keep h0 h6 [] := KK1.wr W6 (Or.inr sz_b0_1)
  have N6 := Fr.snoc X6 N0 g_b0_1
  have c7 := ((S_Outcome_UNDETERMINED.ext E1).wr W6)
  obtain ⟨T8, X8, e8, st8⟩ := getS2 X6 hx hZ hown (host := "") (Or.inl (hw _ (List.mem_of_getElem? (i := 6) rfl))) Via.refl e6 c7 (g := (mkF m 12 #[iv p0, iv p1, .unset, .unset, .unset, .unset, .unset] [(.int (1 : Int32)), (.ref b0_1), (.ref b0_1)])) rfl (hb hby at_12)
  obtain ⟨cl9, Ar9, qq9, Sz9, Nn9, Hs9, Gs9⟩ := id vb6
  have hin9 : ¬ ((1 : Int32) < 0 ∨ cl9.slots.size ≤ ((1 : Int32)).toNatClampNeg) := inb_of Sz9 ⟨by decide, by decide⟩
  have c10 := ((E_w_Outcome_UNDETERMINED.ext E1).wr W6)
  obtain ⟨T11, h11, X11, e11, W11, st11⟩ := stR X8 hx hZ e8 Ar9 (j := (1 : Int32)) hin9 rfl (Sto.ofV Ar9 qq9 O1 (Ins.self c10)) (g := (mkF m 15 #[iv p0, iv p1, .unset, .unset, .unset, .unset, .unset] [(.ref w_Outcome_UNDETERMINED), (.int (1 : Int32)), (.ref b0_1), (.ref b0_1)])) rfl rfl (hb hby at_15)
  have vb11 : Arv Z h11 b0_1 k0_1 (.object "com/example/shapewell/shapewell/Outcome") (3 : Int32) [(.ref w_Outcome_VIOLATES), (.ref w_Outcome_UNDETERMINED), .null] .null := Arv.set Ar9 qq9 Sz9 Nn9 Hs9 Gs9 rfl W11 1 rfl (Nat.le_of_ble_eq_true rfl)
  have Z11 : n0 ≤ h11.size := Nat.le_trans Z6 (Keep.of_wr W11).1
  have KK11 : Keep h0 h11 [] := KK6.wr W11 (Or.inr sz_b0_1)
  have N11 := Fr.snoc X11 N6 g_b0_1
  have c12 := (((S_Outcome_CONFORMS.ext E1).wr W6).wr W11)
  obtain ⟨T13, X13, e13, st13⟩ := getS2 X11 hx hZ hown (host := "") (Or.inl (hw _ (List.mem_of_getElem? (i := 8) rfl))) Via.refl e11 c12 (g := (mkF m 18 #[iv p0, iv p1, .unset, .unset, .unset, .unset, .unset] [(.int (2 : Int32)), (.ref b0_1), (.ref b0_1)])) rfl (hb hby at_18)
  obtain ⟨cl14, Ar14, qq14, Sz14, Nn14, Hs14, Gs14⟩ := id vb11
  have hin14 : ¬ ((2 : Int32) < 0 ∨ cl14.slots.size ≤ ((2 : Int32)).toNatClampNeg) := inb_of Sz14 ⟨by decide, by decide⟩
  have c15 := (((E_w_Outcome_CONFORMS.ext E1).wr W6).wr W11)
  obtain ⟨T16, h16, X16, e16, W16, st16⟩ := stR X13 hx hZ e13 Ar14 (j := (2 : Int32)) hin14 rfl (Sto.ofV Ar14 qq14 O1 (Ins.self c15)) (g := (mkF m 21 #[iv p0, iv p1, .unset, .unset, .unset, .unset, .unset] [(.ref w_Outcome_CONFORMS), (.int (2 : Int32)), (.ref b0_1), (.ref b0_1)])) rfl rfl (hb hby at_21)
  have vb16 : Arv Z h16 b0_1 k0_1 (.object "com/example/shapewell/shapewell/Outcome") (3 : Int32) [(.ref w_Outcome_VIOLATES), (.ref w_Outcome_UNDETERMINED), (.ref w_Outcome_CONFORMS)] .null := Arv.set Ar14 qq14 Sz14 Nn14 Hs14 Gs14 rfl W16 2 rfl (Nat.le_of_ble_eq_true rfl)
  have Z16 : n0 ≤ h16.size := Nat.le_trans Z11 (Keep.of_wr W16).1
  have KK16 : Keep h0 h16 [] := KK11.wr W16 (Or.inr sz_b0_1)
  have N16 := Fr.snoc X16 N11 g_b0_1
  obtain ⟨cl17, Ar17, -, Sz17, Nn17, Hs17, Gs17⟩ := id vb16
  have hin17 : ¬ ((1 : Int32) < 0 ∨ cl17.slots.size ≤ ((1 : Int32)).toNatClampNeg) := inb_of Sz17 ⟨by decide, by decide⟩
  obtain ⟨cl18, Ar18, -, Sz18, Nn18, Hs18, Gs18⟩ := id vb16
  have hin18 : ¬ ((0 : Int32) < 0 ∨ cl18.slots.size ≤ ((0 : Int32)).toNatClampNeg) := inb_of Sz18 ⟨by decide, by decide⟩
  have c20 := ((c10.wr W11).wr W16)
  have c21 := (((c5.wr W6).wr W11).wr W16)
  have ne_b0_1_w_Outcome_UNDETERMINED_22 : ¬ (b0_1 = w_Outcome_UNDETERMINED) := (Ne.symm (Nat.ne_of_lt (Nat.lt_of_lt_of_le (E_w_Outcome_UNDETERMINED).lt (Nat.le_of_eq gg1.symm))))
  have c23 := ((((F_w_Outcome_UNDETERMINED_ordinal.ext E1).other W6 (Or.inl (Ne.symm ne_b0_1_w_Outcome_UNDETERMINED_22))).other W11 (Or.inl (Ne.symm ne_b0_1_w_Outcome_UNDETERMINED_22))).other W16 (Or.inl (Ne.symm ne_b0_1_w_Outcome_UNDETERMINED_22)))
  have ne_b0_1_w_Outcome_VIOLATES_24 : ¬ (b0_1 = w_Outcome_VIOLATES) := (Ne.symm (Nat.ne_of_lt (Nat.lt_of_lt_of_le (E_w_Outcome_VIOLATES).lt (Nat.le_of_eq gg1.symm))))
  have c25 := ((((F_w_Outcome_VIOLATES_ordinal.ext E1).other W6 (Or.inl (Ne.symm ne_b0_1_w_Outcome_VIOLATES_24))).other W11 (Or.inl (Ne.symm ne_b0_1_w_Outcome_VIOLATES_24))).other W16 (Or.inl (Ne.symm ne_b0_1_w_Outcome_VIOLATES_24)))
  obtain ⟨cq19, kq19, q19a, q19b, q19c⟩ := isOf hZ e16 c20
  obtain ⟨_, _, ⟨T19, L19, k19, n19⟩, -, X19, ⟨Lc19, hQ19, l19, y19, z19⟩, st19⟩ := X16.virtualBack hx (y := (⟨"com/example/shapewell/shapewell/Outcome", "and", "(Lcom/example/shapewell/shapewell/Outcome;)Lcom/example/shapewell/shapewell/Outcome;"⟩ : MethodName)) (z := (⟨"com/example/shapewell/shapewell/Outcome", "and", "(Lcom/example/shapewell/shapewell/Outcome;)Lcom/example/shapewell/shapewell/Outcome;"⟩ : MethodName)) hown (mvT hZ (hw _ (List.mem_of_getElem? (i := 11) rfl))) (mvT hZ (hw _ (List.mem_of_getElem? (i := 12) rfl))) (notFace_of_selects (args := #[]) (mvT hZ (hw _ (List.mem_of_getElem? (i := 14) rfl)))) (mvT hZ (hw _ (List.mem_of_getElem? (i := 14) rfl))) (mvT hZ (hw _ (List.mem_of_getElem? (i := 13) rfl))) (by decide) (backOf (W := 0) (rm1_6 l Z a0 hw [] w_Outcome_VIOLATES w_Outcome_UNDETERMINED mr_Outcome h16 n0 Z16 c20 M_mr_Outcome c21 c23 c25) hZ (hw _ (List.mem_of_getElem? (i := 15) rfl)) (hw _ (List.mem_of_getElem? (i := 3) rfl)) (by decide) (by decide)) q19a q19c (g := (mkF m 45 #[iv p0, iv p1, rv b0_1, rv w_Outcome_UNDETERMINED, rv w_Outcome_VIOLATES, .unset, .unset] [(.ref w_Outcome_VIOLATES), (.ref w_Outcome_UNDETERMINED)])) rfl (by rw [hml]; rfl) (Steps.refl _) (argsL := [(.ref w_Outcome_VIOLATES)]) (rest := []) (lenOf pd_1 rfl) rfl (by show 2 * 0 + _ ≤ _; exact Nat.le_of_eq rfl) (hb hby at_45) (fun _ _ => ⟨rfl, e16, (by decide : 1 + 0 ≤ _), (by decide : 3 + 0 ≤ _)⟩)
  dsimp only [Pt.U, Pt.locs, Pt.cells, Pt.slots] at X19 l19 y19 z19 st19 hQ19
  subst l19 y19 z19
  obtain ⟨rfl, N19q, e19⟩ := hQ19
  have N19 := Fr.app N16 N19q
  have c26 := (((c2.wr W6).wr W11).wr W16)
  obtain ⟨T27, X27, e27, st27⟩ := getS2 X19 hx hZ hown (host := "") (Or.inl (hw _ (List.mem_of_getElem? (i := 2) rfl))) Via.refl e19 c26 (g := (mkF m 51 #[iv p0, iv p1, rv b0_1, rv w_Outcome_UNDETERMINED, rv w_Outcome_VIOLATES, rv w_Outcome_VIOLATES, .unset] [(.ref w_Outcome_UNDETERMINED)])) rfl (hb hby at_51)
  obtain ⟨T28, X28, e28, st28⟩ := getS2 X27 hx hZ hown (host := "") (Or.inl (hw _ (List.mem_of_getElem? (i := 2) rfl))) Via.refl e27 c26 (g := (mkF m 59 #[iv p0, iv p1, rv b0_1, rv w_Outcome_UNDETERMINED, rv w_Outcome_VIOLATES, rv w_Outcome_VIOLATES, .unset] [(.ref w_Outcome_VIOLATES)])) rfl (hb hby at_59)
  obtain ⟨T29, X29, e29, st29⟩ := getS2 X28 hx hZ hown (host := "") (Or.inl (hw _ (List.mem_of_getElem? (i := 2) rfl))) Via.refl e28 c26 (g := (mkF m 65 #[iv p0, iv p1, rv b0_1, rv w_Outcome_UNDETERMINED, rv w_Outcome_VIOLATES, rv w_Outcome_VIOLATES, .unset] [])) rfl (hb hby at_65)
  obtain ⟨fs, hr, hrun, hended, hW, hsame⟩ := X29.leave (v := (some (.int (1 : Int32)))) (fun h => by rw [Bd.returns] at h; cases h)
  refine ⟨_, _, pre0 _ ?_, hrun, hended, _, _, rfl, ?_, ⟨_, rfl⟩, hW, hsame.mono (by decide) (by decide)⟩
  · show Steps p.tables e below (s₁.setTop (mkF m 0 #[iv p0, iv p1, .unset, .unset, .unset, .unset, .unset] [])) _
    refine XS.iconst X0.here hx rfl (hb hby at_0) ?_
    show Steps p.tables e below (s₁.setTop (mkF m 1 #[iv p0, iv p1, .unset, .unset, .unset, .unset, .unset] [(.int (3 : Int32))])) _
    refine st1 _ ?_
    show Steps p.tables e below (T1.setTop (mkF m 4 #[iv p0, iv p1, .unset, .unset, .unset, .unset, .unset] [(.ref b0_1)])) _
    refine XS.dup X1.here hx rfl (hb hby at_4) rfl rfl ?_
    show Steps p.tables e below (T1.setTop (mkF m 5 #[iv p0, iv p1, .unset, .unset, .unset, .unset, .unset] [(.ref b0_1), (.ref b0_1)])) _
    refine XS.iconst X1.here hx rfl (hb hby at_5) ?_
    show Steps p.tables e below (T1.setTop (mkF m 6 #[iv p0, iv p1, .unset, .unset, .unset, .unset, .unset] [(.int (0 : Int32)), (.ref b0_1), (.ref b0_1)])) _
    refine st3 _ ?_
    show Steps p.tables e below (T3.setTop (mkF m 9 #[iv p0, iv p1, .unset, .unset, .unset, .unset, .unset] [(.ref w_Outcome_VIOLATES), (.int (0 : Int32)), (.ref b0_1), (.ref b0_1)])) _
    refine st6 _ ?_
    show Steps p.tables e below (T6.setTop (mkF m 10 #[iv p0, iv p1, .unset, .unset, .unset, .unset, .unset] [(.ref b0_1)])) _
    refine XS.dup X6.here hx rfl (hb hby at_10) rfl rfl ?_
    show Steps p.tables e below (T6.setTop (mkF m 11 #[iv p0, iv p1, .unset, .unset, .unset, .unset, .unset] [(.ref b0_1), (.ref b0_1)])) _
    refine XS.iconst X6.here hx rfl (hb hby at_11) ?_
    show Steps p.tables e below (T6.setTop (mkF m 12 #[iv p0, iv p1, .unset, .unset, .unset, .unset, .unset] [(.int (1 : Int32)), (.ref b0_1), (.ref b0_1)])) _
    refine st8 _ ?_
    show Steps p.tables e below (T8.setTop (mkF m 15 #[iv p0, iv p1, .unset, .unset, .unset, .unset, .unset] [(.ref w_Outcome_UNDETERMINED), (.int (1 : Int32)), (.ref b0_1), (.ref b0_1)])) _
    refine st11 _ ?_
    show Steps p.tables e below (T11.setTop (mkF m 16 #[iv p0, iv p1, .unset, .unset, .unset, .unset, .unset] [(.ref b0_1)])) _
    refine XS.dup X11.here hx rfl (hb hby at_16) rfl rfl ?_
    show Steps p.tables e below (T11.setTop (mkF m 17 #[iv p0, iv p1, .unset, .unset, .unset, .unset, .unset] [(.ref b0_1), (.ref b0_1)])) _
    refine XS.iconst X11.here hx rfl (hb hby at_17) ?_
    show Steps p.tables e below (T11.setTop (mkF m 18 #[iv p0, iv p1, .unset, .unset, .unset, .unset, .unset] [(.int (2 : Int32)), (.ref b0_1), (.ref b0_1)])) _
    refine st13 _ ?_
    show Steps p.tables e below (T13.setTop (mkF m 21 #[iv p0, iv p1, .unset, .unset, .unset, .unset, .unset] [(.ref w_Outcome_CONFORMS), (.int (2 : Int32)), (.ref b0_1), (.ref b0_1)])) _
    refine st16 _ ?_
    show Steps p.tables e below (T16.setTop (mkF m 22 #[iv p0, iv p1, .unset, .unset, .unset, .unset, .unset] [(.ref b0_1)])) _
    refine XS.astoreN X16.here hx rfl (hb hby at_22) rfl rfl (l' := #[iv p0, iv p1, rv b0_1, .unset, .unset, .unset, .unset]) rfl ?_
    show Steps p.tables e below (T16.setTop (mkF m 23 #[iv p0, iv p1, rv b0_1, .unset, .unset, .unset, .unset] [])) _
    refine XS.aloadN X16.here hx rfl (hb hby at_23) rfl rfl ?_
    show Steps p.tables e below (T16.setTop (mkF m 24 #[iv p0, iv p1, rv b0_1, .unset, .unset, .unset, .unset] [(.ref b0_1)])) _
    refine XS.iloadN X16.here hx rfl (hb hby at_24) rfl ?_
    show Steps p.tables e below (T16.setTop (mkF m 25 #[iv p0, iv p1, rv b0_1, .unset, .unset, .unset, .unset] [(.int p0), (.ref b0_1)])) _
    refine X16.ldcInt hx hown (mvT hZ (hw _ (List.mem_of_getElem? (i := 10) rfl))) (g := (mkF m 25 #[iv p0, iv p1, rv b0_1, .unset, .unset, .unset, .unset] [(.int p0), (.ref b0_1)])) rfl (hb hby at_25) _ ?_
    show Steps p.tables e below (T16.setTop (mkF m 27 #[iv p0, iv p1, rv b0_1, .unset, .unset, .unset, .unset] [(.int (2147483647 : Int32)), (.int p0), (.ref b0_1)])) _
    refine XS.iand X16.here hx rfl (hb hby at_27) rfl ?_
    show Steps p.tables e below (T16.setTop (mkF m 28 #[iv p0, iv p1, rv b0_1, .unset, .unset, .unset, .unset] [(.int (p0 &&& (2147483647 : Int32))), (.ref b0_1)])) _
    refine XS.iconst X16.here hx rfl (hb hby at_28) ?_
    show Steps p.tables e below (T16.setTop (mkF m 29 #[iv p0, iv p1, rv b0_1, .unset, .unset, .unset, .unset] [(.int (3 : Int32)), (.int (p0 &&& (2147483647 : Int32))), (.ref b0_1)])) _
    refine iremM X16 hx rfl (hb hby at_29) rfl (by decide) ?_
    show Steps p.tables e below (T16.setTop (mkF m 30 #[iv p0, iv p1, rv b0_1, .unset, .unset, .unset, .unset] [(.int ((p0 &&& (2147483647 : Int32)) % (3 : Int32))), (.ref b0_1)])) _
    rewrite [hk0]
    show Steps p.tables e below (T16.setTop (mkF m 30 #[iv p0, iv p1, rv b0_1, .unset, .unset, .unset, .unset] [(.int (1 : Int32)), (.ref b0_1)])) _
    refine X16.aaload hx (j := (1 : Int32)) (v := (.ref w_Outcome_UNDETERMINED)) (by rw [e16]; exact Ar17.1) (State.isArrayOf_alike hZ.alike Ar17.2.1) rfl Ar17.2.2 hin17 (Hs17.at hin17 rfl) (g := (mkF m 30 #[iv p0, iv p1, rv b0_1, .unset, .unset, .unset, .unset] [(.int (1 : Int32)), (.ref b0_1)])) rfl rfl (hb hby at_30) _ ?_
    show Steps p.tables e below (T16.setTop (mkF m 31 #[iv p0, iv p1, rv b0_1, .unset, .unset, .unset, .unset] [(.ref w_Outcome_UNDETERMINED)])) _
    refine XS.astoreN X16.here hx rfl (hb hby at_31) rfl rfl (l' := #[iv p0, iv p1, rv b0_1, rv w_Outcome_UNDETERMINED, .unset, .unset, .unset]) rfl ?_
    show Steps p.tables e below (T16.setTop (mkF m 32 #[iv p0, iv p1, rv b0_1, rv w_Outcome_UNDETERMINED, .unset, .unset, .unset] [])) _
    refine XS.aloadN X16.here hx rfl (hb hby at_32) rfl rfl ?_
    show Steps p.tables e below (T16.setTop (mkF m 33 #[iv p0, iv p1, rv b0_1, rv w_Outcome_UNDETERMINED, .unset, .unset, .unset] [(.ref b0_1)])) _
    refine XS.iloadN X16.here hx rfl (hb hby at_33) rfl ?_
    show Steps p.tables e below (T16.setTop (mkF m 34 #[iv p0, iv p1, rv b0_1, rv w_Outcome_UNDETERMINED, .unset, .unset, .unset] [(.int p1), (.ref b0_1)])) _
    refine X16.ldcInt hx hown (mvT hZ (hw _ (List.mem_of_getElem? (i := 10) rfl))) (g := (mkF m 34 #[iv p0, iv p1, rv b0_1, rv w_Outcome_UNDETERMINED, .unset, .unset, .unset] [(.int p1), (.ref b0_1)])) rfl (hb hby at_34) _ ?_
    show Steps p.tables e below (T16.setTop (mkF m 36 #[iv p0, iv p1, rv b0_1, rv w_Outcome_UNDETERMINED, .unset, .unset, .unset] [(.int (2147483647 : Int32)), (.int p1), (.ref b0_1)])) _
    refine XS.iand X16.here hx rfl (hb hby at_36) rfl ?_
    show Steps p.tables e below (T16.setTop (mkF m 37 #[iv p0, iv p1, rv b0_1, rv w_Outcome_UNDETERMINED, .unset, .unset, .unset] [(.int (p1 &&& (2147483647 : Int32))), (.ref b0_1)])) _
    refine XS.iconst X16.here hx rfl (hb hby at_37) ?_
    show Steps p.tables e below (T16.setTop (mkF m 38 #[iv p0, iv p1, rv b0_1, rv w_Outcome_UNDETERMINED, .unset, .unset, .unset] [(.int (3 : Int32)), (.int (p1 &&& (2147483647 : Int32))), (.ref b0_1)])) _
    refine iremM X16 hx rfl (hb hby at_38) rfl (by decide) ?_
    show Steps p.tables e below (T16.setTop (mkF m 39 #[iv p0, iv p1, rv b0_1, rv w_Outcome_UNDETERMINED, .unset, .unset, .unset] [(.int ((p1 &&& (2147483647 : Int32)) % (3 : Int32))), (.ref b0_1)])) _
    rewrite [hk1]
    show Steps p.tables e below (T16.setTop (mkF m 39 #[iv p0, iv p1, rv b0_1, rv w_Outcome_UNDETERMINED, .unset, .unset, .unset] [(.int (0 : Int32)), (.ref b0_1)])) _
    refine X16.aaload hx (j := (0 : Int32)) (v := (.ref w_Outcome_VIOLATES)) (by rw [e16]; exact Ar18.1) (State.isArrayOf_alike hZ.alike Ar18.2.1) rfl Ar18.2.2 hin18 (Hs18.at hin18 rfl) (g := (mkF m 39 #[iv p0, iv p1, rv b0_1, rv w_Outcome_UNDETERMINED, .unset, .unset, .unset] [(.int (0 : Int32)), (.ref b0_1)])) rfl rfl (hb hby at_39) _ ?_
    show Steps p.tables e below (T16.setTop (mkF m 40 #[iv p0, iv p1, rv b0_1, rv w_Outcome_UNDETERMINED, .unset, .unset, .unset] [(.ref w_Outcome_VIOLATES)])) _
    refine XS.astore X16.here hx rfl (hb hby at_40) rfl rfl (l' := #[iv p0, iv p1, rv b0_1, rv w_Outcome_UNDETERMINED, rv w_Outcome_VIOLATES, .unset, .unset]) rfl ?_
    show Steps p.tables e below (T16.setTop (mkF m 42 #[iv p0, iv p1, rv b0_1, rv w_Outcome_UNDETERMINED, rv w_Outcome_VIOLATES, .unset, .unset] [])) _
    refine XS.aloadN X16.here hx rfl (hb hby at_42) rfl rfl ?_
    show Steps p.tables e below (T16.setTop (mkF m 43 #[iv p0, iv p1, rv b0_1, rv w_Outcome_UNDETERMINED, rv w_Outcome_VIOLATES, .unset, .unset] [(.ref w_Outcome_UNDETERMINED)])) _
    refine XS.aload X16.here hx rfl (hb hby at_43) rfl rfl ?_
    show Steps p.tables e below (T16.setTop (mkF m 45 #[iv p0, iv p1, rv b0_1, rv w_Outcome_UNDETERMINED, rv w_Outcome_VIOLATES, .unset, .unset] [(.ref w_Outcome_VIOLATES), (.ref w_Outcome_UNDETERMINED)])) _
    refine st19.trans ?_
    show Steps p.tables e below (T19.setTop (mkF m 48 #[iv p0, iv p1, rv b0_1, rv w_Outcome_UNDETERMINED, rv w_Outcome_VIOLATES, .unset, .unset] [(.ref w_Outcome_VIOLATES)])) _
    refine XS.astore X19.here hx rfl (hb hby at_48) rfl rfl (l' := #[iv p0, iv p1, rv b0_1, rv w_Outcome_UNDETERMINED, rv w_Outcome_VIOLATES, rv w_Outcome_VIOLATES, .unset]) rfl ?_
    show Steps p.tables e below (T19.setTop (mkF m 50 #[iv p0, iv p1, rv b0_1, rv w_Outcome_UNDETERMINED, rv w_Outcome_VIOLATES, rv w_Outcome_VIOLATES, .unset] [])) _
    refine XS.aloadN X19.here hx rfl (hb hby at_50) rfl rfl ?_
    show Steps p.tables e below (T19.setTop (mkF m 51 #[iv p0, iv p1, rv b0_1, rv w_Outcome_UNDETERMINED, rv w_Outcome_VIOLATES, rv w_Outcome_VIOLATES, .unset] [(.ref w_Outcome_UNDETERMINED)])) _
    refine st27 _ ?_
    show Steps p.tables e below (T27.setTop (mkF m 54 #[iv p0, iv p1, rv b0_1, rv w_Outcome_UNDETERMINED, rv w_Outcome_VIOLATES, rv w_Outcome_VIOLATES, .unset] [(.ref w_Outcome_VIOLATES), (.ref w_Outcome_UNDETERMINED)])) _
    refine Jvm.RoadKit.acmp (g := (mkF m 54 #[iv p0, iv p1, rv b0_1, rv w_Outcome_UNDETERMINED, rv w_Outcome_VIOLATES, rv w_Outcome_VIOLATES, .unset] [(.ref w_Outcome_VIOLATES), (.ref w_Outcome_UNDETERMINED)])) X27 hx rfl rfl rfl (pc0 := 54) (pc' := 57) (same := false) rfl (hb hby at_54) rfl (decide_eq_false fun q => ne_w_Outcome_UNDETERMINED_w_Outcome_VIOLATES (Value.ref.inj q)) (by decide) (by decide) ?_
    show Steps p.tables e below (T27.setTop (mkF m 57 #[iv p0, iv p1, rv b0_1, rv w_Outcome_UNDETERMINED, rv w_Outcome_VIOLATES, rv w_Outcome_VIOLATES, .unset] [])) _
    refine XS.aload X27.here hx rfl (hb hby at_57) rfl rfl ?_
    show Steps p.tables e below (T27.setTop (mkF m 59 #[iv p0, iv p1, rv b0_1, rv w_Outcome_UNDETERMINED, rv w_Outcome_VIOLATES, rv w_Outcome_VIOLATES, .unset] [(.ref w_Outcome_VIOLATES)])) _
    refine st28 _ ?_
    show Steps p.tables e below (T28.setTop (mkF m 62 #[iv p0, iv p1, rv b0_1, rv w_Outcome_UNDETERMINED, rv w_Outcome_VIOLATES, rv w_Outcome_VIOLATES, .unset] [(.ref w_Outcome_VIOLATES), (.ref w_Outcome_VIOLATES)])) _
    refine Jvm.RoadKit.acmp (g := (mkF m 62 #[iv p0, iv p1, rv b0_1, rv w_Outcome_UNDETERMINED, rv w_Outcome_VIOLATES, rv w_Outcome_VIOLATES, .unset] [(.ref w_Outcome_VIOLATES), (.ref w_Outcome_VIOLATES)])) X28 hx rfl rfl rfl (pc0 := 62) (pc' := 65) (same := true) rfl (hb hby at_62) rfl (decide_eq_true rfl) (by decide) (by decide) ?_
    show Steps p.tables e below (T28.setTop (mkF m 65 #[iv p0, iv p1, rv b0_1, rv w_Outcome_UNDETERMINED, rv w_Outcome_VIOLATES, rv w_Outcome_VIOLATES, .unset] [])) _
    refine st29 _ ?_
    show Steps p.tables e below (T29.setTop (mkF m 68 #[iv p0, iv p1, rv b0_1, rv w_Outcome_UNDETERMINED, rv w_Outcome_VIOLATES, rv w_Outcome_VIOLATES, .unset] [(.ref w_Outcome_VIOLATES)])) _
    refine XS.astore X29.here hx rfl (hb hby at_68) rfl rfl (l' := #[iv p0, iv p1, rv b0_1, rv w_Outcome_UNDETERMINED, rv w_Outcome_VIOLATES, rv w_Outcome_VIOLATES, rv w_Outcome_VIOLATES]) rfl ?_
    show Steps p.tables e below (T29.setTop (mkF m 70 #[iv p0, iv p1, rv b0_1, rv w_Outcome_UNDETERMINED, rv w_Outcome_VIOLATES, rv w_Outcome_VIOLATES, rv w_Outcome_VIOLATES] [])) _
    refine XS.goto X29.here hx rfl (pc0 := 70) (pc' := 101) rfl (hb hby at_70) (by decide) (by decide) ?_
    show Steps p.tables e below (T29.setTop (mkF m 101 #[iv p0, iv p1, rv b0_1, rv w_Outcome_UNDETERMINED, rv w_Outcome_VIOLATES, rv w_Outcome_VIOLATES, rv w_Outcome_VIOLATES] [])) _
    refine XS.aload X29.here hx rfl (hb hby at_101) rfl rfl ?_
    show Steps p.tables e below (T29.setTop (mkF m 103 #[iv p0, iv p1, rv b0_1, rv w_Outcome_UNDETERMINED, rv w_Outcome_VIOLATES, rv w_Outcome_VIOLATES, rv w_Outcome_VIOLATES] [(.ref w_Outcome_VIOLATES)])) _
    refine XS.aload X29.here hx rfl (hb hby at_103) rfl rfl ?_
    show Steps p.tables e below (T29.setTop (mkF m 105 #[iv p0, iv p1, rv b0_1, rv w_Outcome_UNDETERMINED, rv w_Outcome_VIOLATES, rv w_Outcome_VIOLATES, rv w_Outcome_VIOLATES] [(.ref w_Outcome_VIOLATES), (.ref w_Outcome_VIOLATES)])) _
    refine Jvm.RoadKit.acmp (g := (mkF m 105 #[iv p0, iv p1, rv b0_1, rv w_Outcome_UNDETERMINED, rv w_Outcome_VIOLATES, rv w_Outcome_VIOLATES, rv w_Outcome_VIOLATES] [(.ref w_Outcome_VIOLATES), (.ref w_Outcome_VIOLATES)])) X29 hx rfl rfl rfl (pc0 := 105) (pc' := 108) (same := true) rfl (hb hby at_105) rfl (decide_eq_true rfl) (by decide) (by decide) ?_
    show Steps p.tables e below (T29.setTop (mkF m 108 #[iv p0, iv p1, rv b0_1, rv w_Outcome_UNDETERMINED, rv w_Outcome_VIOLATES, rv w_Outcome_VIOLATES, rv w_Outcome_VIOLATES] [])) _
    refine XS.iconst X29.here hx rfl (hb hby at_108) ?_
    show Steps p.tables e below (T29.setTop (mkF m 109 #[iv p0, iv p1, rv b0_1, rv w_Outcome_UNDETERMINED, rv w_Outcome_VIOLATES, rv w_Outcome_VIOLATES, rv w_Outcome_VIOLATES] [(.int (1 : Int32))])) _
    refine XS.goto X29.here hx rfl (pc0 := 109) (pc' := 113) rfl (hb hby at_109) (by decide) (by decide) ?_
    show Steps p.tables e below (T29.setTop (mkF m 113 #[iv p0, iv p1, rv b0_1, rv w_Outcome_UNDETERMINED, rv w_Outcome_VIOLATES, rv w_Outcome_VIOLATES, rv w_Outcome_VIOLATES] [(.int (1 : Int32))])) _
    exact retN X29 hx (t := .boolean) Bd.returns (by simp) (hb hby at_113) hr
  · exact ⟨rfl, N19⟩
set_option maxRecDepth 65536 in
set_option maxHeartbeats 40000000 in
theorem rm2_8 (l : Launch) (Z : State) (a0 : Array Value) (hw : ∀ d ∈ tables_1, d.before a0 Z = true) (ws : List Jvm.Cond) (w_Outcome_UNDETERMINED : Addr) (mr_Outcome : Addr) (h0 : Heap) (n0 : Nat) (Z0 : n0 ≤ h0.size) (E_w_Outcome_UNDETERMINED : Exa Z h0 w_Outcome_UNDETERMINED "com/example/shapewell/shapewell/Outcome") (M_mr_Outcome : own_Mir Z "com/example/shapewell/shapewell/Outcome" mr_Outcome) (F_w_Outcome_UNDETERMINED_ordinal : Fld Z h0 w_Outcome_UNDETERMINED "java/lang/Enum" "ordinal" "I" (.int (1 : Int32))) :
    MetFree l (⟨"java/lang/Enum", "compareTo", "(Ljava/lang/Enum;)I"⟩ : MethodName) (head1 (Jvm.Cond.code (⟨"java/lang/Enum", "compareTo", "(Ljava/lang/Enum;)I"⟩ : MethodName) jdk_37_method_8_code 4 (some .int) :: ws) ({ frames := 1, cells := 0, slots := 0, locals := 15 } : Room)) (fun a U => a = #[(.ref w_Outcome_UNDETERMINED), (.ref w_Outcome_UNDETERMINED)] ∧ Z.Warmed39 U.vm ∧ U.heap = h0) (fun _ _ _ _ _ => True) (fun _ U o U' => ∃ v L, o = .returned v ∧ own_QP (some (.int (0 : Int32))) h0 n0 v U'.heap L ∧ FrameEnd U o U' L ({ frames := 1, cells := 0, slots := 0, locals := 15 } : Room).cells ({ frames := 1, cells := 0, slots := 0, locals := 15 } : Room).slots) := by
  refine MetFree.of_bodySF (plainFor_of_name pn_0) hisR ?_
  intro p e s m args below meth c s₁ Bd hml0 hP hK
  obtain ⟨rfl, hZ, hh⟩ := hP
  have hx := Bd.exec
  have hby := Bd.bytes
  have hml : c.maxLocals = 4 := hml0
  have hown : s.vm.findClass "java/lang/Enum" = some m.cls := findClass_of_methodNamed Bd.named
  have hnm := (name_of_methodNamed Bd.named Bd.method).1
  have X0 : Stand p l e ({ frames := 1, cells := 0, slots := 0, locals := 15 } : Room) s m #[(.ref w_Outcome_UNDETERMINED), (.ref w_Outcome_UNDETERMINED)] below meth c s₁ [] 0 0 := Stand.of_body Bd
  have e0 : s₁.heap = h0 := by rw [← hh, Bd.state]; rfl
  have N0 := Fr.nil n0
  have pre0 : ∀ t, Steps p.tables e below (s₁.setTop (mkF m 0 #[rv w_Outcome_UNDETERMINED, rv w_Outcome_UNDETERMINED, .unset, .unset] [])) t → Steps p.tables e below (s₁.setTop (entryFrame m #[(.ref w_Outcome_UNDETERMINED), (.ref w_Outcome_UNDETERMINED)] 4)) t := fun t k => castTop (ef_2_RR m w_Outcome_UNDETERMINED w_Outcome_UNDETERMINED) k
  obtain ⟨T1, X1, e1, st1⟩ := own_gcls X0 hx hZ hown (hw _ (List.mem_of_getElem? (i := 23) rfl)) (hw _ (List.mem_of_getElem? (i := 24) rfl)) (hw _ (List.mem_of_getElem? (i := 26) rfl)) (hw _ (List.mem_of_getElem? (i := 25) rfl)) (hw _ (List.mem_of_getElem? (i := 27) rfl)) e0 E_w_Outcome_UNDETERMINED M_mr_Outcome (g := (mkF m 5 #[rv w_Outcome_UNDETERMINED, rv w_Outcome_UNDETERMINED, rv w_Outcome_UNDETERMINED, rv w_Outcome_UNDETERMINED] [(.ref w_Outcome_UNDETERMINED)])) rfl (by rw [hml]; rfl) rfl (hb hby d2_5) (by decide) (W := 0) (by show 2 * 0 + _ ≤ _; exact Nat.le_of_eq rfl) (by decide)
  obtain ⟨T2, X2, e2, st2⟩ := own_gcls X1 hx hZ hown (hw _ (List.mem_of_getElem? (i := 23) rfl)) (hw _ (List.mem_of_getElem? (i := 24) rfl)) (hw _ (List.mem_of_getElem? (i := 26) rfl)) (hw _ (List.mem_of_getElem? (i := 25) rfl)) (hw _ (List.mem_of_getElem? (i := 27) rfl)) e1 E_w_Outcome_UNDETERMINED M_mr_Outcome (g := (mkF m 9 #[rv w_Outcome_UNDETERMINED, rv w_Outcome_UNDETERMINED, rv w_Outcome_UNDETERMINED, rv w_Outcome_UNDETERMINED] [(.ref w_Outcome_UNDETERMINED), (.ref mr_Outcome)])) rfl (by rw [hml]; rfl) rfl (hb hby d2_9) (by decide) (W := 1) (by show 2 * 0 + _ ≤ _; exact Nat.le_of_eq rfl) (by decide)
  obtain ⟨T3, X3, e3, st3⟩ := getF X2 hx hZ hown (host := "") (Or.inl (hw _ (List.mem_of_getElem? (i := 28) rfl))) Via.refl e2 F_w_Outcome_UNDETERMINED_ordinal (g := (mkF m 35 #[rv w_Outcome_UNDETERMINED, rv w_Outcome_UNDETERMINED, rv w_Outcome_UNDETERMINED, rv w_Outcome_UNDETERMINED] [(.ref w_Outcome_UNDETERMINED)])) rfl rfl (hb hby d2_35)
  obtain ⟨T4, X4, e4, st4⟩ := getF X3 hx hZ hown (host := "") (Or.inl (hw _ (List.mem_of_getElem? (i := 28) rfl))) Via.refl e3 F_w_Outcome_UNDETERMINED_ordinal (g := (mkF m 39 #[rv w_Outcome_UNDETERMINED, rv w_Outcome_UNDETERMINED, rv w_Outcome_UNDETERMINED, rv w_Outcome_UNDETERMINED] [(.ref w_Outcome_UNDETERMINED), (.int (1 : Int32))])) rfl rfl (hb hby d2_39)
  obtain ⟨fs, hr, hrun, hended, hW, hsame⟩ := X4.leave (v := (some (.int (0 : Int32)))) (fun h => by rw [Bd.returns] at h; cases h)
  refine ⟨_, _, pre0 _ ?_, hrun, hended, _, _, rfl, ?_, ⟨_, rfl⟩, hW, hsame.mono (by decide) (by decide)⟩
  · show Steps p.tables e below (s₁.setTop (mkF m 0 #[rv w_Outcome_UNDETERMINED, rv w_Outcome_UNDETERMINED, .unset, .unset] [])) _
    refine XS.aloadN X0.here hx rfl (hb hby d2_0) rfl rfl ?_
    show Steps p.tables e below (s₁.setTop (mkF m 1 #[rv w_Outcome_UNDETERMINED, rv w_Outcome_UNDETERMINED, .unset, .unset] [(.ref w_Outcome_UNDETERMINED)])) _
    refine XS.astoreN X0.here hx rfl (hb hby d2_1) rfl rfl (l' := #[rv w_Outcome_UNDETERMINED, rv w_Outcome_UNDETERMINED, rv w_Outcome_UNDETERMINED, .unset]) rfl ?_
    show Steps p.tables e below (s₁.setTop (mkF m 2 #[rv w_Outcome_UNDETERMINED, rv w_Outcome_UNDETERMINED, rv w_Outcome_UNDETERMINED, .unset] [])) _
    refine XS.aloadN X0.here hx rfl (hb hby d2_2) rfl rfl ?_
    show Steps p.tables e below (s₁.setTop (mkF m 3 #[rv w_Outcome_UNDETERMINED, rv w_Outcome_UNDETERMINED, rv w_Outcome_UNDETERMINED, .unset] [(.ref w_Outcome_UNDETERMINED)])) _
    refine XS.astoreN X0.here hx rfl (hb hby d2_3) rfl rfl (l' := #[rv w_Outcome_UNDETERMINED, rv w_Outcome_UNDETERMINED, rv w_Outcome_UNDETERMINED, rv w_Outcome_UNDETERMINED]) rfl ?_
    show Steps p.tables e below (s₁.setTop (mkF m 4 #[rv w_Outcome_UNDETERMINED, rv w_Outcome_UNDETERMINED, rv w_Outcome_UNDETERMINED, rv w_Outcome_UNDETERMINED] [])) _
    refine XS.aloadN X0.here hx rfl (hb hby d2_4) rfl rfl ?_
    show Steps p.tables e below (s₁.setTop (mkF m 5 #[rv w_Outcome_UNDETERMINED, rv w_Outcome_UNDETERMINED, rv w_Outcome_UNDETERMINED, rv w_Outcome_UNDETERMINED] [(.ref w_Outcome_UNDETERMINED)])) _
    refine st1 _ ?_
    show Steps p.tables e below (T1.setTop (mkF m 8 #[rv w_Outcome_UNDETERMINED, rv w_Outcome_UNDETERMINED, rv w_Outcome_UNDETERMINED, rv w_Outcome_UNDETERMINED] [(.ref mr_Outcome)])) _
    refine XS.aloadN X1.here hx rfl (hb hby d2_8) rfl rfl ?_
    show Steps p.tables e below (T1.setTop (mkF m 9 #[rv w_Outcome_UNDETERMINED, rv w_Outcome_UNDETERMINED, rv w_Outcome_UNDETERMINED, rv w_Outcome_UNDETERMINED] [(.ref w_Outcome_UNDETERMINED), (.ref mr_Outcome)])) _
    refine st2 _ ?_
    show Steps p.tables e below (T2.setTop (mkF m 12 #[rv w_Outcome_UNDETERMINED, rv w_Outcome_UNDETERMINED, rv w_Outcome_UNDETERMINED, rv w_Outcome_UNDETERMINED] [(.ref mr_Outcome), (.ref mr_Outcome)])) _
    refine Jvm.RoadKit.acmp (g := (mkF m 12 #[rv w_Outcome_UNDETERMINED, rv w_Outcome_UNDETERMINED, rv w_Outcome_UNDETERMINED, rv w_Outcome_UNDETERMINED] [(.ref mr_Outcome), (.ref mr_Outcome)])) X2 hx rfl rfl rfl (pc0 := 12) (pc' := 34) (same := true) rfl (hb hby d2_12) rfl (decide_eq_true rfl) (by decide) (by decide) ?_
    show Steps p.tables e below (T2.setTop (mkF m 34 #[rv w_Outcome_UNDETERMINED, rv w_Outcome_UNDETERMINED, rv w_Outcome_UNDETERMINED, rv w_Outcome_UNDETERMINED] [])) _
    refine XS.aloadN X2.here hx rfl (hb hby d2_34) rfl rfl ?_
    show Steps p.tables e below (T2.setTop (mkF m 35 #[rv w_Outcome_UNDETERMINED, rv w_Outcome_UNDETERMINED, rv w_Outcome_UNDETERMINED, rv w_Outcome_UNDETERMINED] [(.ref w_Outcome_UNDETERMINED)])) _
    refine st3 _ ?_
    show Steps p.tables e below (T3.setTop (mkF m 38 #[rv w_Outcome_UNDETERMINED, rv w_Outcome_UNDETERMINED, rv w_Outcome_UNDETERMINED, rv w_Outcome_UNDETERMINED] [(.int (1 : Int32))])) _
    refine XS.aloadN X3.here hx rfl (hb hby d2_38) rfl rfl ?_
    show Steps p.tables e below (T3.setTop (mkF m 39 #[rv w_Outcome_UNDETERMINED, rv w_Outcome_UNDETERMINED, rv w_Outcome_UNDETERMINED, rv w_Outcome_UNDETERMINED] [(.ref w_Outcome_UNDETERMINED), (.int (1 : Int32))])) _
    refine st4 _ ?_
    show Steps p.tables e below (T4.setTop (mkF m 42 #[rv w_Outcome_UNDETERMINED, rv w_Outcome_UNDETERMINED, rv w_Outcome_UNDETERMINED, rv w_Outcome_UNDETERMINED] [(.int (1 : Int32)), (.int (1 : Int32))])) _
    refine XS.isub X4.here hx rfl (hb hby d2_42) rfl ?_
    show Steps p.tables e below (T4.setTop (mkF m 43 #[rv w_Outcome_UNDETERMINED, rv w_Outcome_UNDETERMINED, rv w_Outcome_UNDETERMINED, rv w_Outcome_UNDETERMINED] [(.int ((1 : Int32) - (1 : Int32)))])) _
    rewrite [show ((1 : Int32) - (1 : Int32)) = (0 : Int32) from by decide +kernel]
    show Steps p.tables e below (T4.setTop (mkF m 43 #[rv w_Outcome_UNDETERMINED, rv w_Outcome_UNDETERMINED, rv w_Outcome_UNDETERMINED, rv w_Outcome_UNDETERMINED] [(.int (0 : Int32))])) _
    exact retI X4 hx Bd.returns (hb hby d2_43) hr
  · exact ⟨rfl, N0, e4⟩
set_option maxRecDepth 65536 in
set_option maxHeartbeats 40000000 in
theorem rm1_8 (l : Launch) (Z : State) (a0 : Array Value) (hw : ∀ d ∈ tables_1, d.before a0 Z = true) (ws : List Jvm.Cond) (w_Outcome_UNDETERMINED : Addr) (mr_Outcome : Addr) (h0 : Heap) (n0 : Nat) (Z0 : n0 ≤ h0.size) (E_w_Outcome_UNDETERMINED : Exa Z h0 w_Outcome_UNDETERMINED "com/example/shapewell/shapewell/Outcome") (M_mr_Outcome : own_Mir Z "com/example/shapewell/shapewell/Outcome" mr_Outcome) (F_w_Outcome_UNDETERMINED_ordinal : Fld Z h0 w_Outcome_UNDETERMINED "java/lang/Enum" "ordinal" "I" (.int (1 : Int32))) :
    MetFree l (⟨"com/example/shapewell/shapewell/Outcome", "and", "(Lcom/example/shapewell/shapewell/Outcome;)Lcom/example/shapewell/shapewell/Outcome;"⟩ : MethodName) (head1 (Jvm.Cond.code (⟨"com/example/shapewell/shapewell/Outcome", "and", "(Lcom/example/shapewell/shapewell/Outcome;)Lcom/example/shapewell/shapewell/Outcome;"⟩ : MethodName) prog_3_method_5_code 2 (some (.object "com/example/shapewell/shapewell/Outcome")) :: ws) ({ frames := 2, cells := 0, slots := 0, locals := 30 } : Room)) (fun a U => a = #[(.ref w_Outcome_UNDETERMINED), (.ref w_Outcome_UNDETERMINED)] ∧ Z.Warmed39 U.vm ∧ U.heap = h0) (fun _ _ _ _ _ => True) (fun _ U o U' => ∃ v L, o = .returned v ∧ own_QP (some (.ref w_Outcome_UNDETERMINED)) h0 n0 v U'.heap L ∧ FrameEnd U o U' L ({ frames := 2, cells := 0, slots := 0, locals := 30 } : Room).cells ({ frames := 2, cells := 0, slots := 0, locals := 30 } : Room).slots) := by
  refine MetFree.of_bodySF (plainFor_of_name pn_1) hisR ?_
  intro p e s m args below meth c s₁ Bd hml0 hP hK
  obtain ⟨rfl, hZ, hh⟩ := hP
  have hx := Bd.exec
  have hby := Bd.bytes
  have hml : c.maxLocals = 2 := hml0
  have hown : s.vm.findClass "com/example/shapewell/shapewell/Outcome" = some m.cls := findClass_of_methodNamed Bd.named
  have hnm := (name_of_methodNamed Bd.named Bd.method).1
  have X0 : Stand p l e ({ frames := 2, cells := 0, slots := 0, locals := 30 } : Room) s m #[(.ref w_Outcome_UNDETERMINED), (.ref w_Outcome_UNDETERMINED)] below meth c s₁ [] 0 0 := Stand.of_body Bd
  have e0 : s₁.heap = h0 := by rw [← hh, Bd.state]; rfl
  have N0 := Fr.nil n0
  have pre0 : ∀ t, Steps p.tables e below (s₁.setTop (mkF m 0 #[rv w_Outcome_UNDETERMINED, rv w_Outcome_UNDETERMINED] [])) t → Steps p.tables e below (s₁.setTop (entryFrame m #[(.ref w_Outcome_UNDETERMINED), (.ref w_Outcome_UNDETERMINED)] 2)) t := fun t k => castTop (ef_1_RR m w_Outcome_UNDETERMINED w_Outcome_UNDETERMINED) k
  obtain ⟨cq1, kq1, q1a, q1b, q1c⟩ := isOf hZ e0 E_w_Outcome_UNDETERMINED
  obtain ⟨_, _, ⟨T1, L1, k1, n1⟩, -, X1, ⟨Lc1, hQ1, l1, y1, z1⟩, st1⟩ := X0.virtualBackUp hx (x := (⟨"com/example/shapewell/shapewell/Outcome", "compareTo", "(Ljava/lang/Enum;)I"⟩ : MethodName)) (y := (⟨"java/lang/Enum", "compareTo", "(Ljava/lang/Enum;)I"⟩ : MethodName)) hown (mvT hZ (hw _ (List.mem_of_getElem? (i := 16) rfl))) (mvT hZ (hw _ (List.mem_of_getElem? (i := 17) rfl))) (mvT hZ (hw _ (List.mem_of_getElem? (i := 18) rfl))) (by decide) (mvT hZ (hw _ (List.mem_of_getElem? (i := 20) rfl))) (mvT hZ (hw _ (List.mem_of_getElem? (i := 19) rfl))) (backOf (W := 0) (rm2_8 l Z a0 hw [] w_Outcome_UNDETERMINED mr_Outcome h0 n0 Z0 E_w_Outcome_UNDETERMINED M_mr_Outcome F_w_Outcome_UNDETERMINED_ordinal) hZ (hw _ (List.mem_of_getElem? (i := 22) rfl)) (hw _ (List.mem_of_getElem? (i := 21) rfl)) (by decide) (by decide)) q1a q1c (g := (mkF m 2 #[rv w_Outcome_UNDETERMINED, rv w_Outcome_UNDETERMINED] [(.ref w_Outcome_UNDETERMINED), (.ref w_Outcome_UNDETERMINED)])) rfl (by rw [hml]; rfl) (Steps.refl _) (argsL := [(.ref w_Outcome_UNDETERMINED)]) (rest := []) (lenOf pd_0 rfl) rfl (by show 2 * 0 + _ ≤ _; exact Nat.le_of_eq rfl) (hb hby d1_2) (fun _ _ => ⟨rfl, e0, (by decide : 0 + 0 ≤ _), (by decide : 0 + 0 ≤ _)⟩)
  dsimp only [Pt.U, Pt.locs, Pt.cells, Pt.slots] at X1 l1 y1 z1 st1 hQ1
  subst l1 y1 z1
  obtain ⟨rfl, N1q, e1⟩ := hQ1
  have N1 := Fr.app N0 N1q
  obtain ⟨fs, hr, hrun, hended, hW, hsame⟩ := X1.leave (v := (some (.ref w_Outcome_UNDETERMINED))) (fun h => by rw [Bd.returns] at h; cases h)
  refine ⟨_, _, pre0 _ ?_, hrun, hended, _, _, rfl, ?_, ⟨_, rfl⟩, hW, hsame.mono (by decide) (by decide)⟩
  · show Steps p.tables e below (s₁.setTop (mkF m 0 #[rv w_Outcome_UNDETERMINED, rv w_Outcome_UNDETERMINED] [])) _
    refine XS.aloadN X0.here hx rfl (hb hby d1_0) rfl rfl ?_
    show Steps p.tables e below (s₁.setTop (mkF m 1 #[rv w_Outcome_UNDETERMINED, rv w_Outcome_UNDETERMINED] [(.ref w_Outcome_UNDETERMINED)])) _
    refine XS.aloadN X0.here hx rfl (hb hby d1_1) rfl rfl ?_
    show Steps p.tables e below (s₁.setTop (mkF m 2 #[rv w_Outcome_UNDETERMINED, rv w_Outcome_UNDETERMINED] [(.ref w_Outcome_UNDETERMINED), (.ref w_Outcome_UNDETERMINED)])) _
    refine st1.trans ?_
    show Steps p.tables e below (T1.setTop (mkF m 5 #[rv w_Outcome_UNDETERMINED, rv w_Outcome_UNDETERMINED] [(.int (0 : Int32))])) _
    refine XS.ifNo X1.here hx rfl (hb hby d1_5) rfl ((if0 _ _).trans (flt (by decide +kernel : ¬ ((0 : Int32) < (0 : Int32)))).2.2.1) ?_
    show Steps p.tables e below (T1.setTop (mkF m 8 #[rv w_Outcome_UNDETERMINED, rv w_Outcome_UNDETERMINED] [])) _
    refine XS.aloadN X1.here hx rfl (hb hby d1_8) rfl rfl ?_
    show Steps p.tables e below (T1.setTop (mkF m 9 #[rv w_Outcome_UNDETERMINED, rv w_Outcome_UNDETERMINED] [(.ref w_Outcome_UNDETERMINED)])) _
    refine XS.goto X1.here hx rfl (pc0 := 9) (pc' := 13) rfl (hb hby d1_9) (by decide) (by decide) ?_
    show Steps p.tables e below (T1.setTop (mkF m 13 #[rv w_Outcome_UNDETERMINED, rv w_Outcome_UNDETERMINED] [(.ref w_Outcome_UNDETERMINED)])) _
    exact own_retA X1 hx Bd.returns rfl rfl (hb hby d1_13) hr
  · exact ⟨rfl, N1, e1⟩
set_option maxRecDepth 65536 in
set_option maxHeartbeats 40000000 in
theorem rm0_4 (l : Launch) (Z : State) (a0 : Array Value) (hw : ∀ d ∈ tables_1, d.before a0 Z = true) (ws : List Jvm.Cond) (p0 : Int32) (p1 : Int32) (w_Outcome_VIOLATES : Addr) (w_Outcome_UNDETERMINED : Addr) (w_Outcome_CONFORMS : Addr) (mr_Outcome : Addr) (h0 : Heap) (n0 : Nat) (Z0 : n0 ≤ h0.size) (S_Outcome_VIOLATES : Sta Z h0 "com/example/shapewell/shapewell/Outcome" "VIOLATES" "Lcom/example/shapewell/shapewell/Outcome;" (.ref w_Outcome_VIOLATES)) (E_w_Outcome_VIOLATES : Exa Z h0 w_Outcome_VIOLATES "com/example/shapewell/shapewell/Outcome") (S_Outcome_UNDETERMINED : Sta Z h0 "com/example/shapewell/shapewell/Outcome" "UNDETERMINED" "Lcom/example/shapewell/shapewell/Outcome;" (.ref w_Outcome_UNDETERMINED)) (E_w_Outcome_UNDETERMINED : Exa Z h0 w_Outcome_UNDETERMINED "com/example/shapewell/shapewell/Outcome") (S_Outcome_CONFORMS : Sta Z h0 "com/example/shapewell/shapewell/Outcome" "CONFORMS" "Lcom/example/shapewell/shapewell/Outcome;" (.ref w_Outcome_CONFORMS)) (E_w_Outcome_CONFORMS : Exa Z h0 w_Outcome_CONFORMS "com/example/shapewell/shapewell/Outcome") (hk0 : ((p0 &&& (2147483647 : Int32)) % (3 : Int32)) = (1 : Int32)) (hk1 : ((p1 &&& (2147483647 : Int32)) % (3 : Int32)) = (1 : Int32)) (M_mr_Outcome : own_Mir Z "com/example/shapewell/shapewell/Outcome" mr_Outcome) (F_w_Outcome_UNDETERMINED_ordinal : Fld Z h0 w_Outcome_UNDETERMINED "java/lang/Enum" "ordinal" "I" (.int (1 : Int32))) (ne_w_Outcome_UNDETERMINED_w_Outcome_VIOLATES : ¬ (w_Outcome_UNDETERMINED = w_Outcome_VIOLATES)) :
    MetFree l x (head1 (Jvm.Cond.code x code maxLocals ret :: ws) room_1) (fun a U => a = #[(.int p0), (.int p1)] ∧ Z.Warmed39 U.vm ∧ U.heap = h0) (fun _ _ _ _ _ => True) (fun _ U o U' => ∃ v L, o = .returned v ∧ own_QL n0 v U'.heap L ∧ FrameEnd U o U' L room_1.cells room_1.slots) := by
  refine MetFree.of_bodySF (plainFor_of_name pn_2) hisR ?_
  intro p e s m args below meth c s₁ Bd hml0 hP hK
  obtain ⟨rfl, hZ, hh⟩ := hP
  have hx := Bd.exec
  have hby := Bd.bytes
  have hml : c.maxLocals = 7 := hml0
  have hown : s.vm.findClass "com/example/shapewell/shapewell/OutcomeAndPinLaw" = some m.cls := findClass_of_methodNamed Bd.named
  have hnm := (name_of_methodNamed Bd.named Bd.method).1
  have X0 : Stand p l e room_1 s m #[(.int p0), (.int p1)] below meth c s₁ [] 0 0 := Stand.of_body Bd
  have e0 : s₁.heap = h0 := by rw [← hh, Bd.state]; rfl
  have N0 := Fr.nil n0
  have pre0 : ∀ t, Steps p.tables e below (s₁.setTop (mkF m 0 #[iv p0, iv p1, .unset, .unset, .unset, .unset, .unset] [])) t → Steps p.tables e below (s₁.setTop (entryFrame m #[(.int p0), (.int p1)] maxLocals)) t := fun t k => castTop (ef_0_II m p0 p1) k
  obtain ⟨T1, h1, k0_1, X1, e1, E1, A1, O1, st1⟩ := newR X0 hx hZ hown (hw _ (List.mem_of_getElem? (i := 0) rfl)) (hw _ (List.mem_of_getElem? (i := 1) rfl)) e0 (g := (mkF m 1 #[iv p0, iv p1, .unset, .unset, .unset, .unset, .unset] [(.int (3 : Int32))])) rfl (hb hby at_1) rfl (by decide) (cap := 3) (by decide) (by decide) (by decide) (by decide)
  obtain ⟨b0_1, gg1⟩ : ∃ z, z = h0.size := ⟨_, rfl⟩
  rw [← gg1] at A1 st1
  have g_b0_1 : n0 ≤ b0_1 := Nat.le_trans Z0 (Nat.le_of_eq gg1.symm)
  have sz_b0_1 : h0.size ≤ b0_1 := Nat.le_trans (Keep.refl h0 []).1 (Nat.le_of_eq gg1.symm)
  have Z1 : n0 ≤ h1.size := Nat.le_trans Z0 E1.1
  have KK1 : Keep h0 h1 [] := (Keep.refl h0 []).ext E1
  have V_b0_1 : Arv Z h1 b0_1 k0_1 (.object "com/example/shapewell/shapewell/Outcome") (3 : Int32) [.null, .null, .null] .null := (Arv.new A1 (by decide)).pad (pad_rep [] .null 3)
  have c2 := (S_Outcome_VIOLATES.ext E1)
  obtain ⟨T3, X3, e3, st3⟩ := getS2 X1 hx hZ hown (host := "") (Or.inl (hw _ (List.mem_of_getElem? (i := 2) rfl))) Via.refl e1 c2 (g := (mkF m 6 #[iv p0, iv p1, .unset, .unset, .unset, .unset, .unset] [(.int (0 : Int32)), (.ref b0_1), (.ref b0_1)])) rfl (hb hby at_6)
  obtain ⟨cl4, Ar4, qq4, Sz4, Nn4, Hs4, Gs4⟩ := id V_b0_1
  have hin4 : ¬ ((0 : Int32) < 0 ∨ cl4.slots.size ≤ ((0 : Int32)).toNatClampNeg) := inb_of Sz4 ⟨by decide, by decide⟩
  have c5 := (E_w_Outcome_VIOLATES.ext E1)
  obtain ⟨T6, h6, X6, e6, W6, st6⟩ := stR X3 hx hZ e3 Ar4 (j := (0 : Int32)) hin4 rfl (Sto.ofV Ar4 qq4 O1 (Ins.self c5)) (g := (mkF m 9 #[iv p0, iv p1, .unset, .unset, .unset, .unset, .unset] [(.ref w_Outcome_VIOLATES), (.int (0 : Int32)), (.ref b0_1), (.ref b0_1)])) rfl rfl (hb hby at_9)
  have vb6 : Arv Z h6 b0_1 k0_1 (.object "com/example/shapewell/shapewell/Outcome") (3 : Int32) [(.ref w_Outcome_VIOLATES), .null, .null] .null := Arv.set Ar4 qq4 Sz4 Nn4 Hs4 Gs4 rfl W6 0 rfl (Nat.le_of_ble_eq_true rfl)
  have Z6 : n0 ≤ h6.size := Nat.le_trans Z1 (Keep.of_wr W6).1
  have KK6 : Keep h0 h6 [] := KK1.wr W6 (Or.inr sz_b0_1)
  have N6 := Fr.snoc X6 N0 g_b0_1
  have c7 := ((S_Outcome_UNDETERMINED.ext E1).wr W6)
  obtain ⟨T8, X8, e8, st8⟩ := getS2 X6 hx hZ hown (host := "") (Or.inl (hw _ (List.mem_of_getElem? (i := 6) rfl))) Via.refl e6 c7 (g := (mkF m 12 #[iv p0, iv p1, .unset, .unset, .unset, .unset, .unset] [(.int (1 : Int32)), (.ref b0_1), (.ref b0_1)])) rfl (hb hby at_12)
  obtain ⟨cl9, Ar9, qq9, Sz9, Nn9, Hs9, Gs9⟩ := id vb6
  have hin9 : ¬ ((1 : Int32) < 0 ∨ cl9.slots.size ≤ ((1 : Int32)).toNatClampNeg) := inb_of Sz9 ⟨by decide, by decide⟩
  have c10 := ((E_w_Outcome_UNDETERMINED.ext E1).wr W6)
  obtain ⟨T11, h11, X11, e11, W11, st11⟩ := stR X8 hx hZ e8 Ar9 (j := (1 : Int32)) hin9 rfl (Sto.ofV Ar9 qq9 O1 (Ins.self c10)) (g := (mkF m 15 #[iv p0, iv p1, .unset, .unset, .unset, .unset, .unset] [(.ref w_Outcome_UNDETERMINED), (.int (1 : Int32)), (.ref b0_1), (.ref b0_1)])) rfl rfl (hb hby at_15)
  have vb11 : Arv Z h11 b0_1 k0_1 (.object "com/example/shapewell/shapewell/Outcome") (3 : Int32) [(.ref w_Outcome_VIOLATES), (.ref w_Outcome_UNDETERMINED), .null] .null := Arv.set Ar9 qq9 Sz9 Nn9 Hs9 Gs9 rfl W11 1 rfl (Nat.le_of_ble_eq_true rfl)
  have Z11 : n0 ≤ h11.size := Nat.le_trans Z6 (Keep.of_wr W11).1
  have KK11 : Keep h0 h11 [] := KK6.wr W11 (Or.inr sz_b0_1)
  have N11 := Fr.snoc X11 N6 g_b0_1
  have c12 := (((S_Outcome_CONFORMS.ext E1).wr W6).wr W11)
  obtain ⟨T13, X13, e13, st13⟩ := getS2 X11 hx hZ hown (host := "") (Or.inl (hw _ (List.mem_of_getElem? (i := 8) rfl))) Via.refl e11 c12 (g := (mkF m 18 #[iv p0, iv p1, .unset, .unset, .unset, .unset, .unset] [(.int (2 : Int32)), (.ref b0_1), (.ref b0_1)])) rfl (hb hby at_18)
  obtain ⟨cl14, Ar14, qq14, Sz14, Nn14, Hs14, Gs14⟩ := id vb11
  have hin14 : ¬ ((2 : Int32) < 0 ∨ cl14.slots.size ≤ ((2 : Int32)).toNatClampNeg) := inb_of Sz14 ⟨by decide, by decide⟩
  have c15 := (((E_w_Outcome_CONFORMS.ext E1).wr W6).wr W11)
  obtain ⟨T16, h16, X16, e16, W16, st16⟩ := stR X13 hx hZ e13 Ar14 (j := (2 : Int32)) hin14 rfl (Sto.ofV Ar14 qq14 O1 (Ins.self c15)) (g := (mkF m 21 #[iv p0, iv p1, .unset, .unset, .unset, .unset, .unset] [(.ref w_Outcome_CONFORMS), (.int (2 : Int32)), (.ref b0_1), (.ref b0_1)])) rfl rfl (hb hby at_21)
  have vb16 : Arv Z h16 b0_1 k0_1 (.object "com/example/shapewell/shapewell/Outcome") (3 : Int32) [(.ref w_Outcome_VIOLATES), (.ref w_Outcome_UNDETERMINED), (.ref w_Outcome_CONFORMS)] .null := Arv.set Ar14 qq14 Sz14 Nn14 Hs14 Gs14 rfl W16 2 rfl (Nat.le_of_ble_eq_true rfl)
  have Z16 : n0 ≤ h16.size := Nat.le_trans Z11 (Keep.of_wr W16).1
  have KK16 : Keep h0 h16 [] := KK11.wr W16 (Or.inr sz_b0_1)
  have N16 := Fr.snoc X16 N11 g_b0_1
  obtain ⟨cl17, Ar17, -, Sz17, Nn17, Hs17, Gs17⟩ := id vb16
  have hin17 : ¬ ((1 : Int32) < 0 ∨ cl17.slots.size ≤ ((1 : Int32)).toNatClampNeg) := inb_of Sz17 ⟨by decide, by decide⟩
  obtain ⟨cl18, Ar18, -, Sz18, Nn18, Hs18, Gs18⟩ := id vb16
  have hin18 : ¬ ((1 : Int32) < 0 ∨ cl18.slots.size ≤ ((1 : Int32)).toNatClampNeg) := inb_of Sz18 ⟨by decide, by decide⟩
  have c20 := ((c10.wr W11).wr W16)
  have ne_b0_1_w_Outcome_UNDETERMINED_21 : ¬ (b0_1 = w_Outcome_UNDETERMINED) := (Ne.symm (Nat.ne_of_lt (Nat.lt_of_lt_of_le (E_w_Outcome_UNDETERMINED).lt (Nat.le_of_eq gg1.symm))))
  have c22 := ((((F_w_Outcome_UNDETERMINED_ordinal.ext E1).other W6 (Or.inl (Ne.symm ne_b0_1_w_Outcome_UNDETERMINED_21))).other W11 (Or.inl (Ne.symm ne_b0_1_w_Outcome_UNDETERMINED_21))).other W16 (Or.inl (Ne.symm ne_b0_1_w_Outcome_UNDETERMINED_21)))
  obtain ⟨cq19, kq19, q19a, q19b, q19c⟩ := isOf hZ e16 c20
  obtain ⟨_, _, ⟨T19, L19, k19, n19⟩, -, X19, ⟨Lc19, hQ19, l19, y19, z19⟩, st19⟩ := X16.virtualBack hx (y := (⟨"com/example/shapewell/shapewell/Outcome", "and", "(Lcom/example/shapewell/shapewell/Outcome;)Lcom/example/shapewell/shapewell/Outcome;"⟩ : MethodName)) (z := (⟨"com/example/shapewell/shapewell/Outcome", "and", "(Lcom/example/shapewell/shapewell/Outcome;)Lcom/example/shapewell/shapewell/Outcome;"⟩ : MethodName)) hown (mvT hZ (hw _ (List.mem_of_getElem? (i := 11) rfl))) (mvT hZ (hw _ (List.mem_of_getElem? (i := 12) rfl))) (notFace_of_selects (args := #[]) (mvT hZ (hw _ (List.mem_of_getElem? (i := 14) rfl)))) (mvT hZ (hw _ (List.mem_of_getElem? (i := 14) rfl))) (mvT hZ (hw _ (List.mem_of_getElem? (i := 13) rfl))) (by decide) (backOf (W := 0) (rm1_8 l Z a0 hw [] w_Outcome_UNDETERMINED mr_Outcome h16 n0 Z16 c20 M_mr_Outcome c22) hZ (hw _ (List.mem_of_getElem? (i := 15) rfl)) (hw _ (List.mem_of_getElem? (i := 3) rfl)) (by decide) (by decide)) q19a q19c (g := (mkF m 45 #[iv p0, iv p1, rv b0_1, rv w_Outcome_UNDETERMINED, rv w_Outcome_UNDETERMINED, .unset, .unset] [(.ref w_Outcome_UNDETERMINED), (.ref w_Outcome_UNDETERMINED)])) rfl (by rw [hml]; rfl) (Steps.refl _) (argsL := [(.ref w_Outcome_UNDETERMINED)]) (rest := []) (lenOf pd_1 rfl) rfl (by show 2 * 0 + _ ≤ _; exact Nat.le_of_eq rfl) (hb hby at_45) (fun _ _ => ⟨rfl, e16, (by decide : 1 + 0 ≤ _), (by decide : 3 + 0 ≤ _)⟩)
  dsimp only [Pt.U, Pt.locs, Pt.cells, Pt.slots] at X19 l19 y19 z19 st19 hQ19
  subst l19 y19 z19
  obtain ⟨rfl, N19q, e19⟩ := hQ19
  have N19 := Fr.app N16 N19q
  have c23 := (((c2.wr W6).wr W11).wr W16)
  obtain ⟨T24, X24, e24, st24⟩ := getS2 X19 hx hZ hown (host := "") (Or.inl (hw _ (List.mem_of_getElem? (i := 2) rfl))) Via.refl e19 c23 (g := (mkF m 51 #[iv p0, iv p1, rv b0_1, rv w_Outcome_UNDETERMINED, rv w_Outcome_UNDETERMINED, rv w_Outcome_UNDETERMINED, .unset] [(.ref w_Outcome_UNDETERMINED)])) rfl (hb hby at_51)
  obtain ⟨T25, X25, e25, st25⟩ := getS2 X24 hx hZ hown (host := "") (Or.inl (hw _ (List.mem_of_getElem? (i := 2) rfl))) Via.refl e24 c23 (g := (mkF m 59 #[iv p0, iv p1, rv b0_1, rv w_Outcome_UNDETERMINED, rv w_Outcome_UNDETERMINED, rv w_Outcome_UNDETERMINED, .unset] [(.ref w_Outcome_UNDETERMINED)])) rfl (hb hby at_59)
  have c26 := ((c7.wr W11).wr W16)
  obtain ⟨T27, X27, e27, st27⟩ := getS2 X25 hx hZ hown (host := "") (Or.inl (hw _ (List.mem_of_getElem? (i := 6) rfl))) Via.refl e25 c26 (g := (mkF m 74 #[iv p0, iv p1, rv b0_1, rv w_Outcome_UNDETERMINED, rv w_Outcome_UNDETERMINED, rv w_Outcome_UNDETERMINED, .unset] [(.ref w_Outcome_UNDETERMINED)])) rfl (hb hby at_74)
  obtain ⟨T28, X28, e28, st28⟩ := getS2 X27 hx hZ hown (host := "") (Or.inl (hw _ (List.mem_of_getElem? (i := 6) rfl))) Via.refl e27 c26 (g := (mkF m 88 #[iv p0, iv p1, rv b0_1, rv w_Outcome_UNDETERMINED, rv w_Outcome_UNDETERMINED, rv w_Outcome_UNDETERMINED, .unset] [])) rfl (hb hby at_88)
  obtain ⟨fs, hr, hrun, hended, hW, hsame⟩ := X28.leave (v := (some (.int (1 : Int32)))) (fun h => by rw [Bd.returns] at h; cases h)
  refine ⟨_, _, pre0 _ ?_, hrun, hended, _, _, rfl, ?_, ⟨_, rfl⟩, hW, hsame.mono (by decide) (by decide)⟩
  · show Steps p.tables e below (s₁.setTop (mkF m 0 #[iv p0, iv p1, .unset, .unset, .unset, .unset, .unset] [])) _
    refine XS.iconst X0.here hx rfl (hb hby at_0) ?_
    show Steps p.tables e below (s₁.setTop (mkF m 1 #[iv p0, iv p1, .unset, .unset, .unset, .unset, .unset] [(.int (3 : Int32))])) _
    refine st1 _ ?_
    show Steps p.tables e below (T1.setTop (mkF m 4 #[iv p0, iv p1, .unset, .unset, .unset, .unset, .unset] [(.ref b0_1)])) _
    refine XS.dup X1.here hx rfl (hb hby at_4) rfl rfl ?_
    show Steps p.tables e below (T1.setTop (mkF m 5 #[iv p0, iv p1, .unset, .unset, .unset, .unset, .unset] [(.ref b0_1), (.ref b0_1)])) _
    refine XS.iconst X1.here hx rfl (hb hby at_5) ?_
    show Steps p.tables e below (T1.setTop (mkF m 6 #[iv p0, iv p1, .unset, .unset, .unset, .unset, .unset] [(.int (0 : Int32)), (.ref b0_1), (.ref b0_1)])) _
    refine st3 _ ?_
    show Steps p.tables e below (T3.setTop (mkF m 9 #[iv p0, iv p1, .unset, .unset, .unset, .unset, .unset] [(.ref w_Outcome_VIOLATES), (.int (0 : Int32)), (.ref b0_1), (.ref b0_1)])) _
    refine st6 _ ?_
    show Steps p.tables e below (T6.setTop (mkF m 10 #[iv p0, iv p1, .unset, .unset, .unset, .unset, .unset] [(.ref b0_1)])) _
    refine XS.dup X6.here hx rfl (hb hby at_10) rfl rfl ?_
    show Steps p.tables e below (T6.setTop (mkF m 11 #[iv p0, iv p1, .unset, .unset, .unset, .unset, .unset] [(.ref b0_1), (.ref b0_1)])) _
    refine XS.iconst X6.here hx rfl (hb hby at_11) ?_
    show Steps p.tables e below (T6.setTop (mkF m 12 #[iv p0, iv p1, .unset, .unset, .unset, .unset, .unset] [(.int (1 : Int32)), (.ref b0_1), (.ref b0_1)])) _
    refine st8 _ ?_
    show Steps p.tables e below (T8.setTop (mkF m 15 #[iv p0, iv p1, .unset, .unset, .unset, .unset, .unset] [(.ref w_Outcome_UNDETERMINED), (.int (1 : Int32)), (.ref b0_1), (.ref b0_1)])) _
    refine st11 _ ?_
    show Steps p.tables e below (T11.setTop (mkF m 16 #[iv p0, iv p1, .unset, .unset, .unset, .unset, .unset] [(.ref b0_1)])) _
    refine XS.dup X11.here hx rfl (hb hby at_16) rfl rfl ?_
    show Steps p.tables e below (T11.setTop (mkF m 17 #[iv p0, iv p1, .unset, .unset, .unset, .unset, .unset] [(.ref b0_1), (.ref b0_1)])) _
    refine XS.iconst X11.here hx rfl (hb hby at_17) ?_
    show Steps p.tables e below (T11.setTop (mkF m 18 #[iv p0, iv p1, .unset, .unset, .unset, .unset, .unset] [(.int (2 : Int32)), (.ref b0_1), (.ref b0_1)])) _
    refine st13 _ ?_
    show Steps p.tables e below (T13.setTop (mkF m 21 #[iv p0, iv p1, .unset, .unset, .unset, .unset, .unset] [(.ref w_Outcome_CONFORMS), (.int (2 : Int32)), (.ref b0_1), (.ref b0_1)])) _
    refine st16 _ ?_
    show Steps p.tables e below (T16.setTop (mkF m 22 #[iv p0, iv p1, .unset, .unset, .unset, .unset, .unset] [(.ref b0_1)])) _
    refine XS.astoreN X16.here hx rfl (hb hby at_22) rfl rfl (l' := #[iv p0, iv p1, rv b0_1, .unset, .unset, .unset, .unset]) rfl ?_
    show Steps p.tables e below (T16.setTop (mkF m 23 #[iv p0, iv p1, rv b0_1, .unset, .unset, .unset, .unset] [])) _
    refine XS.aloadN X16.here hx rfl (hb hby at_23) rfl rfl ?_
    show Steps p.tables e below (T16.setTop (mkF m 24 #[iv p0, iv p1, rv b0_1, .unset, .unset, .unset, .unset] [(.ref b0_1)])) _
    refine XS.iloadN X16.here hx rfl (hb hby at_24) rfl ?_
    show Steps p.tables e below (T16.setTop (mkF m 25 #[iv p0, iv p1, rv b0_1, .unset, .unset, .unset, .unset] [(.int p0), (.ref b0_1)])) _
    refine X16.ldcInt hx hown (mvT hZ (hw _ (List.mem_of_getElem? (i := 10) rfl))) (g := (mkF m 25 #[iv p0, iv p1, rv b0_1, .unset, .unset, .unset, .unset] [(.int p0), (.ref b0_1)])) rfl (hb hby at_25) _ ?_
    show Steps p.tables e below (T16.setTop (mkF m 27 #[iv p0, iv p1, rv b0_1, .unset, .unset, .unset, .unset] [(.int (2147483647 : Int32)), (.int p0), (.ref b0_1)])) _
    refine XS.iand X16.here hx rfl (hb hby at_27) rfl ?_
    show Steps p.tables e below (T16.setTop (mkF m 28 #[iv p0, iv p1, rv b0_1, .unset, .unset, .unset, .unset] [(.int (p0 &&& (2147483647 : Int32))), (.ref b0_1)])) _
    refine XS.iconst X16.here hx rfl (hb hby at_28) ?_
    show Steps p.tables e below (T16.setTop (mkF m 29 #[iv p0, iv p1, rv b0_1, .unset, .unset, .unset, .unset] [(.int (3 : Int32)), (.int (p0 &&& (2147483647 : Int32))), (.ref b0_1)])) _
    refine iremM X16 hx rfl (hb hby at_29) rfl (by decide) ?_
    show Steps p.tables e below (T16.setTop (mkF m 30 #[iv p0, iv p1, rv b0_1, .unset, .unset, .unset, .unset] [(.int ((p0 &&& (2147483647 : Int32)) % (3 : Int32))), (.ref b0_1)])) _
    rewrite [hk0]
    show Steps p.tables e below (T16.setTop (mkF m 30 #[iv p0, iv p1, rv b0_1, .unset, .unset, .unset, .unset] [(.int (1 : Int32)), (.ref b0_1)])) _
    refine X16.aaload hx (j := (1 : Int32)) (v := (.ref w_Outcome_UNDETERMINED)) (by rw [e16]; exact Ar17.1) (State.isArrayOf_alike hZ.alike Ar17.2.1) rfl Ar17.2.2 hin17 (Hs17.at hin17 rfl) (g := (mkF m 30 #[iv p0, iv p1, rv b0_1, .unset, .unset, .unset, .unset] [(.int (1 : Int32)), (.ref b0_1)])) rfl rfl (hb hby at_30) _ ?_
    show Steps p.tables e below (T16.setTop (mkF m 31 #[iv p0, iv p1, rv b0_1, .unset, .unset, .unset, .unset] [(.ref w_Outcome_UNDETERMINED)])) _
    refine XS.astoreN X16.here hx rfl (hb hby at_31) rfl rfl (l' := #[iv p0, iv p1, rv b0_1, rv w_Outcome_UNDETERMINED, .unset, .unset, .unset]) rfl ?_
    show Steps p.tables e below (T16.setTop (mkF m 32 #[iv p0, iv p1, rv b0_1, rv w_Outcome_UNDETERMINED, .unset, .unset, .unset] [])) _
    refine XS.aloadN X16.here hx rfl (hb hby at_32) rfl rfl ?_
    show Steps p.tables e below (T16.setTop (mkF m 33 #[iv p0, iv p1, rv b0_1, rv w_Outcome_UNDETERMINED, .unset, .unset, .unset] [(.ref b0_1)])) _
    refine XS.iloadN X16.here hx rfl (hb hby at_33) rfl ?_
    show Steps p.tables e below (T16.setTop (mkF m 34 #[iv p0, iv p1, rv b0_1, rv w_Outcome_UNDETERMINED, .unset, .unset, .unset] [(.int p1), (.ref b0_1)])) _
    refine X16.ldcInt hx hown (mvT hZ (hw _ (List.mem_of_getElem? (i := 10) rfl))) (g := (mkF m 34 #[iv p0, iv p1, rv b0_1, rv w_Outcome_UNDETERMINED, .unset, .unset, .unset] [(.int p1), (.ref b0_1)])) rfl (hb hby at_34) _ ?_
    show Steps p.tables e below (T16.setTop (mkF m 36 #[iv p0, iv p1, rv b0_1, rv w_Outcome_UNDETERMINED, .unset, .unset, .unset] [(.int (2147483647 : Int32)), (.int p1), (.ref b0_1)])) _
    refine XS.iand X16.here hx rfl (hb hby at_36) rfl ?_
    show Steps p.tables e below (T16.setTop (mkF m 37 #[iv p0, iv p1, rv b0_1, rv w_Outcome_UNDETERMINED, .unset, .unset, .unset] [(.int (p1 &&& (2147483647 : Int32))), (.ref b0_1)])) _
    refine XS.iconst X16.here hx rfl (hb hby at_37) ?_
    show Steps p.tables e below (T16.setTop (mkF m 38 #[iv p0, iv p1, rv b0_1, rv w_Outcome_UNDETERMINED, .unset, .unset, .unset] [(.int (3 : Int32)), (.int (p1 &&& (2147483647 : Int32))), (.ref b0_1)])) _
    refine iremM X16 hx rfl (hb hby at_38) rfl (by decide) ?_
    show Steps p.tables e below (T16.setTop (mkF m 39 #[iv p0, iv p1, rv b0_1, rv w_Outcome_UNDETERMINED, .unset, .unset, .unset] [(.int ((p1 &&& (2147483647 : Int32)) % (3 : Int32))), (.ref b0_1)])) _
    rewrite [hk1]
    show Steps p.tables e below (T16.setTop (mkF m 39 #[iv p0, iv p1, rv b0_1, rv w_Outcome_UNDETERMINED, .unset, .unset, .unset] [(.int (1 : Int32)), (.ref b0_1)])) _
    refine X16.aaload hx (j := (1 : Int32)) (v := (.ref w_Outcome_UNDETERMINED)) (by rw [e16]; exact Ar18.1) (State.isArrayOf_alike hZ.alike Ar18.2.1) rfl Ar18.2.2 hin18 (Hs18.at hin18 rfl) (g := (mkF m 39 #[iv p0, iv p1, rv b0_1, rv w_Outcome_UNDETERMINED, .unset, .unset, .unset] [(.int (1 : Int32)), (.ref b0_1)])) rfl rfl (hb hby at_39) _ ?_
    show Steps p.tables e below (T16.setTop (mkF m 40 #[iv p0, iv p1, rv b0_1, rv w_Outcome_UNDETERMINED, .unset, .unset, .unset] [(.ref w_Outcome_UNDETERMINED)])) _
    refine XS.astore X16.here hx rfl (hb hby at_40) rfl rfl (l' := #[iv p0, iv p1, rv b0_1, rv w_Outcome_UNDETERMINED, rv w_Outcome_UNDETERMINED, .unset, .unset]) rfl ?_
    show Steps p.tables e below (T16.setTop (mkF m 42 #[iv p0, iv p1, rv b0_1, rv w_Outcome_UNDETERMINED, rv w_Outcome_UNDETERMINED, .unset, .unset] [])) _
    refine XS.aloadN X16.here hx rfl (hb hby at_42) rfl rfl ?_
    show Steps p.tables e below (T16.setTop (mkF m 43 #[iv p0, iv p1, rv b0_1, rv w_Outcome_UNDETERMINED, rv w_Outcome_UNDETERMINED, .unset, .unset] [(.ref w_Outcome_UNDETERMINED)])) _
    refine XS.aload X16.here hx rfl (hb hby at_43) rfl rfl ?_
    show Steps p.tables e below (T16.setTop (mkF m 45 #[iv p0, iv p1, rv b0_1, rv w_Outcome_UNDETERMINED, rv w_Outcome_UNDETERMINED, .unset, .unset] [(.ref w_Outcome_UNDETERMINED), (.ref w_Outcome_UNDETERMINED)])) _
    refine st19.trans ?_
    show Steps p.tables e below (T19.setTop (mkF m 48 #[iv p0, iv p1, rv b0_1, rv w_Outcome_UNDETERMINED, rv w_Outcome_UNDETERMINED, .unset, .unset] [(.ref w_Outcome_UNDETERMINED)])) _
    refine XS.astore X19.here hx rfl (hb hby at_48) rfl rfl (l' := #[iv p0, iv p1, rv b0_1, rv w_Outcome_UNDETERMINED, rv w_Outcome_UNDETERMINED, rv w_Outcome_UNDETERMINED, .unset]) rfl ?_
    show Steps p.tables e below (T19.setTop (mkF m 50 #[iv p0, iv p1, rv b0_1, rv w_Outcome_UNDETERMINED, rv w_Outcome_UNDETERMINED, rv w_Outcome_UNDETERMINED, .unset] [])) _
    refine XS.aloadN X19.here hx rfl (hb hby at_50) rfl rfl ?_
    show Steps p.tables e below (T19.setTop (mkF m 51 #[iv p0, iv p1, rv b0_1, rv w_Outcome_UNDETERMINED, rv w_Outcome_UNDETERMINED, rv w_Outcome_UNDETERMINED, .unset] [(.ref w_Outcome_UNDETERMINED)])) _
    refine st24 _ ?_
    show Steps p.tables e below (T24.setTop (mkF m 54 #[iv p0, iv p1, rv b0_1, rv w_Outcome_UNDETERMINED, rv w_Outcome_UNDETERMINED, rv w_Outcome_UNDETERMINED, .unset] [(.ref w_Outcome_VIOLATES), (.ref w_Outcome_UNDETERMINED)])) _
    refine Jvm.RoadKit.acmp (g := (mkF m 54 #[iv p0, iv p1, rv b0_1, rv w_Outcome_UNDETERMINED, rv w_Outcome_UNDETERMINED, rv w_Outcome_UNDETERMINED, .unset] [(.ref w_Outcome_VIOLATES), (.ref w_Outcome_UNDETERMINED)])) X24 hx rfl rfl rfl (pc0 := 54) (pc' := 57) (same := false) rfl (hb hby at_54) rfl (decide_eq_false fun q => ne_w_Outcome_UNDETERMINED_w_Outcome_VIOLATES (Value.ref.inj q)) (by decide) (by decide) ?_
    show Steps p.tables e below (T24.setTop (mkF m 57 #[iv p0, iv p1, rv b0_1, rv w_Outcome_UNDETERMINED, rv w_Outcome_UNDETERMINED, rv w_Outcome_UNDETERMINED, .unset] [])) _
    refine XS.aload X24.here hx rfl (hb hby at_57) rfl rfl ?_
    show Steps p.tables e below (T24.setTop (mkF m 59 #[iv p0, iv p1, rv b0_1, rv w_Outcome_UNDETERMINED, rv w_Outcome_UNDETERMINED, rv w_Outcome_UNDETERMINED, .unset] [(.ref w_Outcome_UNDETERMINED)])) _
    refine st25 _ ?_
    show Steps p.tables e below (T25.setTop (mkF m 62 #[iv p0, iv p1, rv b0_1, rv w_Outcome_UNDETERMINED, rv w_Outcome_UNDETERMINED, rv w_Outcome_UNDETERMINED, .unset] [(.ref w_Outcome_VIOLATES), (.ref w_Outcome_UNDETERMINED)])) _
    refine Jvm.RoadKit.acmp (g := (mkF m 62 #[iv p0, iv p1, rv b0_1, rv w_Outcome_UNDETERMINED, rv w_Outcome_UNDETERMINED, rv w_Outcome_UNDETERMINED, .unset] [(.ref w_Outcome_VIOLATES), (.ref w_Outcome_UNDETERMINED)])) X25 hx rfl rfl rfl (pc0 := 62) (pc' := 73) (same := false) rfl (hb hby at_62) rfl (decide_eq_false fun q => ne_w_Outcome_UNDETERMINED_w_Outcome_VIOLATES (Value.ref.inj q)) (by decide) (by decide) ?_
    show Steps p.tables e below (T25.setTop (mkF m 73 #[iv p0, iv p1, rv b0_1, rv w_Outcome_UNDETERMINED, rv w_Outcome_UNDETERMINED, rv w_Outcome_UNDETERMINED, .unset] [])) _
    refine XS.aloadN X25.here hx rfl (hb hby at_73) rfl rfl ?_
    show Steps p.tables e below (T25.setTop (mkF m 74 #[iv p0, iv p1, rv b0_1, rv w_Outcome_UNDETERMINED, rv w_Outcome_UNDETERMINED, rv w_Outcome_UNDETERMINED, .unset] [(.ref w_Outcome_UNDETERMINED)])) _
    refine st27 _ ?_
    show Steps p.tables e below (T27.setTop (mkF m 77 #[iv p0, iv p1, rv b0_1, rv w_Outcome_UNDETERMINED, rv w_Outcome_UNDETERMINED, rv w_Outcome_UNDETERMINED, .unset] [(.ref w_Outcome_UNDETERMINED), (.ref w_Outcome_UNDETERMINED)])) _
    refine Jvm.RoadKit.acmp (g := (mkF m 77 #[iv p0, iv p1, rv b0_1, rv w_Outcome_UNDETERMINED, rv w_Outcome_UNDETERMINED, rv w_Outcome_UNDETERMINED, .unset] [(.ref w_Outcome_UNDETERMINED), (.ref w_Outcome_UNDETERMINED)])) X27 hx rfl rfl rfl (pc0 := 77) (pc' := 88) (same := true) rfl (hb hby at_77) rfl (decide_eq_true rfl) (by decide) (by decide) ?_
    show Steps p.tables e below (T27.setTop (mkF m 88 #[iv p0, iv p1, rv b0_1, rv w_Outcome_UNDETERMINED, rv w_Outcome_UNDETERMINED, rv w_Outcome_UNDETERMINED, .unset] [])) _
    refine st28 _ ?_
    show Steps p.tables e below (T28.setTop (mkF m 91 #[iv p0, iv p1, rv b0_1, rv w_Outcome_UNDETERMINED, rv w_Outcome_UNDETERMINED, rv w_Outcome_UNDETERMINED, .unset] [(.ref w_Outcome_UNDETERMINED)])) _
    refine XS.astore X28.here hx rfl (hb hby at_91) rfl rfl (l' := #[iv p0, iv p1, rv b0_1, rv w_Outcome_UNDETERMINED, rv w_Outcome_UNDETERMINED, rv w_Outcome_UNDETERMINED, rv w_Outcome_UNDETERMINED]) rfl ?_
    show Steps p.tables e below (T28.setTop (mkF m 93 #[iv p0, iv p1, rv b0_1, rv w_Outcome_UNDETERMINED, rv w_Outcome_UNDETERMINED, rv w_Outcome_UNDETERMINED, rv w_Outcome_UNDETERMINED] [])) _
    refine XS.goto X28.here hx rfl (pc0 := 93) (pc' := 101) rfl (hb hby at_93) (by decide) (by decide) ?_
    show Steps p.tables e below (T28.setTop (mkF m 101 #[iv p0, iv p1, rv b0_1, rv w_Outcome_UNDETERMINED, rv w_Outcome_UNDETERMINED, rv w_Outcome_UNDETERMINED, rv w_Outcome_UNDETERMINED] [])) _
    refine XS.aload X28.here hx rfl (hb hby at_101) rfl rfl ?_
    show Steps p.tables e below (T28.setTop (mkF m 103 #[iv p0, iv p1, rv b0_1, rv w_Outcome_UNDETERMINED, rv w_Outcome_UNDETERMINED, rv w_Outcome_UNDETERMINED, rv w_Outcome_UNDETERMINED] [(.ref w_Outcome_UNDETERMINED)])) _
    refine XS.aload X28.here hx rfl (hb hby at_103) rfl rfl ?_
    show Steps p.tables e below (T28.setTop (mkF m 105 #[iv p0, iv p1, rv b0_1, rv w_Outcome_UNDETERMINED, rv w_Outcome_UNDETERMINED, rv w_Outcome_UNDETERMINED, rv w_Outcome_UNDETERMINED] [(.ref w_Outcome_UNDETERMINED), (.ref w_Outcome_UNDETERMINED)])) _
    refine Jvm.RoadKit.acmp (g := (mkF m 105 #[iv p0, iv p1, rv b0_1, rv w_Outcome_UNDETERMINED, rv w_Outcome_UNDETERMINED, rv w_Outcome_UNDETERMINED, rv w_Outcome_UNDETERMINED] [(.ref w_Outcome_UNDETERMINED), (.ref w_Outcome_UNDETERMINED)])) X28 hx rfl rfl rfl (pc0 := 105) (pc' := 108) (same := true) rfl (hb hby at_105) rfl (decide_eq_true rfl) (by decide) (by decide) ?_
    show Steps p.tables e below (T28.setTop (mkF m 108 #[iv p0, iv p1, rv b0_1, rv w_Outcome_UNDETERMINED, rv w_Outcome_UNDETERMINED, rv w_Outcome_UNDETERMINED, rv w_Outcome_UNDETERMINED] [])) _
    refine XS.iconst X28.here hx rfl (hb hby at_108) ?_
    show Steps p.tables e below (T28.setTop (mkF m 109 #[iv p0, iv p1, rv b0_1, rv w_Outcome_UNDETERMINED, rv w_Outcome_UNDETERMINED, rv w_Outcome_UNDETERMINED, rv w_Outcome_UNDETERMINED] [(.int (1 : Int32))])) _
    refine XS.goto X28.here hx rfl (pc0 := 109) (pc' := 113) rfl (hb hby at_109) (by decide) (by decide) ?_
    show Steps p.tables e below (T28.setTop (mkF m 113 #[iv p0, iv p1, rv b0_1, rv w_Outcome_UNDETERMINED, rv w_Outcome_UNDETERMINED, rv w_Outcome_UNDETERMINED, rv w_Outcome_UNDETERMINED] [(.int (1 : Int32))])) _
    exact retN X28 hx (t := .boolean) Bd.returns (by simp) (hb hby at_113) hr
  · exact ⟨rfl, N19⟩
set_option maxRecDepth 65536 in
set_option maxHeartbeats 40000000 in
theorem rm2_10 (l : Launch) (Z : State) (a0 : Array Value) (hw : ∀ d ∈ tables_1, d.before a0 Z = true) (ws : List Jvm.Cond) (w_Outcome_UNDETERMINED : Addr) (w_Outcome_CONFORMS : Addr) (mr_Outcome : Addr) (h0 : Heap) (n0 : Nat) (Z0 : n0 ≤ h0.size) (E_w_Outcome_UNDETERMINED : Exa Z h0 w_Outcome_UNDETERMINED "com/example/shapewell/shapewell/Outcome") (M_mr_Outcome : own_Mir Z "com/example/shapewell/shapewell/Outcome" mr_Outcome) (E_w_Outcome_CONFORMS : Exa Z h0 w_Outcome_CONFORMS "com/example/shapewell/shapewell/Outcome") (F_w_Outcome_UNDETERMINED_ordinal : Fld Z h0 w_Outcome_UNDETERMINED "java/lang/Enum" "ordinal" "I" (.int (1 : Int32))) (F_w_Outcome_CONFORMS_ordinal : Fld Z h0 w_Outcome_CONFORMS "java/lang/Enum" "ordinal" "I" (.int (2 : Int32))) :
    MetFree l (⟨"java/lang/Enum", "compareTo", "(Ljava/lang/Enum;)I"⟩ : MethodName) (head1 (Jvm.Cond.code (⟨"java/lang/Enum", "compareTo", "(Ljava/lang/Enum;)I"⟩ : MethodName) jdk_37_method_8_code 4 (some .int) :: ws) ({ frames := 1, cells := 0, slots := 0, locals := 15 } : Room)) (fun a U => a = #[(.ref w_Outcome_UNDETERMINED), (.ref w_Outcome_CONFORMS)] ∧ Z.Warmed39 U.vm ∧ U.heap = h0) (fun _ _ _ _ _ => True) (fun _ U o U' => ∃ v L, o = .returned v ∧ own_QP (some (.int (-1 : Int32))) h0 n0 v U'.heap L ∧ FrameEnd U o U' L ({ frames := 1, cells := 0, slots := 0, locals := 15 } : Room).cells ({ frames := 1, cells := 0, slots := 0, locals := 15 } : Room).slots) := by
  refine MetFree.of_bodySF (plainFor_of_name pn_0) hisR ?_
  intro p e s m args below meth c s₁ Bd hml0 hP hK
  obtain ⟨rfl, hZ, hh⟩ := hP
  have hx := Bd.exec
  have hby := Bd.bytes
  have hml : c.maxLocals = 4 := hml0
  have hown : s.vm.findClass "java/lang/Enum" = some m.cls := findClass_of_methodNamed Bd.named
  have hnm := (name_of_methodNamed Bd.named Bd.method).1
  have X0 : Stand p l e ({ frames := 1, cells := 0, slots := 0, locals := 15 } : Room) s m #[(.ref w_Outcome_UNDETERMINED), (.ref w_Outcome_CONFORMS)] below meth c s₁ [] 0 0 := Stand.of_body Bd
  have e0 : s₁.heap = h0 := by rw [← hh, Bd.state]; rfl
  have N0 := Fr.nil n0
  have pre0 : ∀ t, Steps p.tables e below (s₁.setTop (mkF m 0 #[rv w_Outcome_UNDETERMINED, rv w_Outcome_CONFORMS, .unset, .unset] [])) t → Steps p.tables e below (s₁.setTop (entryFrame m #[(.ref w_Outcome_UNDETERMINED), (.ref w_Outcome_CONFORMS)] 4)) t := fun t k => castTop (ef_2_RR m w_Outcome_UNDETERMINED w_Outcome_CONFORMS) k
  obtain ⟨T1, X1, e1, st1⟩ := own_gcls X0 hx hZ hown (hw _ (List.mem_of_getElem? (i := 23) rfl)) (hw _ (List.mem_of_getElem? (i := 24) rfl)) (hw _ (List.mem_of_getElem? (i := 26) rfl)) (hw _ (List.mem_of_getElem? (i := 25) rfl)) (hw _ (List.mem_of_getElem? (i := 27) rfl)) e0 E_w_Outcome_UNDETERMINED M_mr_Outcome (g := (mkF m 5 #[rv w_Outcome_UNDETERMINED, rv w_Outcome_CONFORMS, rv w_Outcome_CONFORMS, rv w_Outcome_UNDETERMINED] [(.ref w_Outcome_UNDETERMINED)])) rfl (by rw [hml]; rfl) rfl (hb hby d2_5) (by decide) (W := 0) (by show 2 * 0 + _ ≤ _; exact Nat.le_of_eq rfl) (by decide)
  obtain ⟨T2, X2, e2, st2⟩ := own_gcls X1 hx hZ hown (hw _ (List.mem_of_getElem? (i := 23) rfl)) (hw _ (List.mem_of_getElem? (i := 24) rfl)) (hw _ (List.mem_of_getElem? (i := 26) rfl)) (hw _ (List.mem_of_getElem? (i := 25) rfl)) (hw _ (List.mem_of_getElem? (i := 27) rfl)) e1 E_w_Outcome_CONFORMS M_mr_Outcome (g := (mkF m 9 #[rv w_Outcome_UNDETERMINED, rv w_Outcome_CONFORMS, rv w_Outcome_CONFORMS, rv w_Outcome_UNDETERMINED] [(.ref w_Outcome_CONFORMS), (.ref mr_Outcome)])) rfl (by rw [hml]; rfl) rfl (hb hby d2_9) (by decide) (W := 1) (by show 2 * 0 + _ ≤ _; exact Nat.le_of_eq rfl) (by decide)
  obtain ⟨T3, X3, e3, st3⟩ := getF X2 hx hZ hown (host := "") (Or.inl (hw _ (List.mem_of_getElem? (i := 28) rfl))) Via.refl e2 F_w_Outcome_UNDETERMINED_ordinal (g := (mkF m 35 #[rv w_Outcome_UNDETERMINED, rv w_Outcome_CONFORMS, rv w_Outcome_CONFORMS, rv w_Outcome_UNDETERMINED] [(.ref w_Outcome_UNDETERMINED)])) rfl rfl (hb hby d2_35)
  obtain ⟨T4, X4, e4, st4⟩ := getF X3 hx hZ hown (host := "") (Or.inl (hw _ (List.mem_of_getElem? (i := 28) rfl))) Via.refl e3 F_w_Outcome_CONFORMS_ordinal (g := (mkF m 39 #[rv w_Outcome_UNDETERMINED, rv w_Outcome_CONFORMS, rv w_Outcome_CONFORMS, rv w_Outcome_UNDETERMINED] [(.ref w_Outcome_CONFORMS), (.int (1 : Int32))])) rfl rfl (hb hby d2_39)
  obtain ⟨fs, hr, hrun, hended, hW, hsame⟩ := X4.leave (v := (some (.int (-1 : Int32)))) (fun h => by rw [Bd.returns] at h; cases h)
  refine ⟨_, _, pre0 _ ?_, hrun, hended, _, _, rfl, ?_, ⟨_, rfl⟩, hW, hsame.mono (by decide) (by decide)⟩
  · show Steps p.tables e below (s₁.setTop (mkF m 0 #[rv w_Outcome_UNDETERMINED, rv w_Outcome_CONFORMS, .unset, .unset] [])) _
    refine XS.aloadN X0.here hx rfl (hb hby d2_0) rfl rfl ?_
    show Steps p.tables e below (s₁.setTop (mkF m 1 #[rv w_Outcome_UNDETERMINED, rv w_Outcome_CONFORMS, .unset, .unset] [(.ref w_Outcome_CONFORMS)])) _
    refine XS.astoreN X0.here hx rfl (hb hby d2_1) rfl rfl (l' := #[rv w_Outcome_UNDETERMINED, rv w_Outcome_CONFORMS, rv w_Outcome_CONFORMS, .unset]) rfl ?_
    show Steps p.tables e below (s₁.setTop (mkF m 2 #[rv w_Outcome_UNDETERMINED, rv w_Outcome_CONFORMS, rv w_Outcome_CONFORMS, .unset] [])) _
    refine XS.aloadN X0.here hx rfl (hb hby d2_2) rfl rfl ?_
    show Steps p.tables e below (s₁.setTop (mkF m 3 #[rv w_Outcome_UNDETERMINED, rv w_Outcome_CONFORMS, rv w_Outcome_CONFORMS, .unset] [(.ref w_Outcome_UNDETERMINED)])) _
    refine XS.astoreN X0.here hx rfl (hb hby d2_3) rfl rfl (l' := #[rv w_Outcome_UNDETERMINED, rv w_Outcome_CONFORMS, rv w_Outcome_CONFORMS, rv w_Outcome_UNDETERMINED]) rfl ?_
    show Steps p.tables e below (s₁.setTop (mkF m 4 #[rv w_Outcome_UNDETERMINED, rv w_Outcome_CONFORMS, rv w_Outcome_CONFORMS, rv w_Outcome_UNDETERMINED] [])) _
    refine XS.aloadN X0.here hx rfl (hb hby d2_4) rfl rfl ?_
    show Steps p.tables e below (s₁.setTop (mkF m 5 #[rv w_Outcome_UNDETERMINED, rv w_Outcome_CONFORMS, rv w_Outcome_CONFORMS, rv w_Outcome_UNDETERMINED] [(.ref w_Outcome_UNDETERMINED)])) _
    refine st1 _ ?_
    show Steps p.tables e below (T1.setTop (mkF m 8 #[rv w_Outcome_UNDETERMINED, rv w_Outcome_CONFORMS, rv w_Outcome_CONFORMS, rv w_Outcome_UNDETERMINED] [(.ref mr_Outcome)])) _
    refine XS.aloadN X1.here hx rfl (hb hby d2_8) rfl rfl ?_
    show Steps p.tables e below (T1.setTop (mkF m 9 #[rv w_Outcome_UNDETERMINED, rv w_Outcome_CONFORMS, rv w_Outcome_CONFORMS, rv w_Outcome_UNDETERMINED] [(.ref w_Outcome_CONFORMS), (.ref mr_Outcome)])) _
    refine st2 _ ?_
    show Steps p.tables e below (T2.setTop (mkF m 12 #[rv w_Outcome_UNDETERMINED, rv w_Outcome_CONFORMS, rv w_Outcome_CONFORMS, rv w_Outcome_UNDETERMINED] [(.ref mr_Outcome), (.ref mr_Outcome)])) _
    refine Jvm.RoadKit.acmp (g := (mkF m 12 #[rv w_Outcome_UNDETERMINED, rv w_Outcome_CONFORMS, rv w_Outcome_CONFORMS, rv w_Outcome_UNDETERMINED] [(.ref mr_Outcome), (.ref mr_Outcome)])) X2 hx rfl rfl rfl (pc0 := 12) (pc' := 34) (same := true) rfl (hb hby d2_12) rfl (decide_eq_true rfl) (by decide) (by decide) ?_
    show Steps p.tables e below (T2.setTop (mkF m 34 #[rv w_Outcome_UNDETERMINED, rv w_Outcome_CONFORMS, rv w_Outcome_CONFORMS, rv w_Outcome_UNDETERMINED] [])) _
    refine XS.aloadN X2.here hx rfl (hb hby d2_34) rfl rfl ?_
    show Steps p.tables e below (T2.setTop (mkF m 35 #[rv w_Outcome_UNDETERMINED, rv w_Outcome_CONFORMS, rv w_Outcome_CONFORMS, rv w_Outcome_UNDETERMINED] [(.ref w_Outcome_UNDETERMINED)])) _
    refine st3 _ ?_
    show Steps p.tables e below (T3.setTop (mkF m 38 #[rv w_Outcome_UNDETERMINED, rv w_Outcome_CONFORMS, rv w_Outcome_CONFORMS, rv w_Outcome_UNDETERMINED] [(.int (1 : Int32))])) _
    refine XS.aloadN X3.here hx rfl (hb hby d2_38) rfl rfl ?_
    show Steps p.tables e below (T3.setTop (mkF m 39 #[rv w_Outcome_UNDETERMINED, rv w_Outcome_CONFORMS, rv w_Outcome_CONFORMS, rv w_Outcome_UNDETERMINED] [(.ref w_Outcome_CONFORMS), (.int (1 : Int32))])) _
    refine st4 _ ?_
    show Steps p.tables e below (T4.setTop (mkF m 42 #[rv w_Outcome_UNDETERMINED, rv w_Outcome_CONFORMS, rv w_Outcome_CONFORMS, rv w_Outcome_UNDETERMINED] [(.int (2 : Int32)), (.int (1 : Int32))])) _
    refine XS.isub X4.here hx rfl (hb hby d2_42) rfl ?_
    show Steps p.tables e below (T4.setTop (mkF m 43 #[rv w_Outcome_UNDETERMINED, rv w_Outcome_CONFORMS, rv w_Outcome_CONFORMS, rv w_Outcome_UNDETERMINED] [(.int ((1 : Int32) - (2 : Int32)))])) _
    rewrite [show ((1 : Int32) - (2 : Int32)) = (-1 : Int32) from by decide +kernel]
    show Steps p.tables e below (T4.setTop (mkF m 43 #[rv w_Outcome_UNDETERMINED, rv w_Outcome_CONFORMS, rv w_Outcome_CONFORMS, rv w_Outcome_UNDETERMINED] [(.int (-1 : Int32))])) _
    exact retI X4 hx Bd.returns (hb hby d2_43) hr
  · exact ⟨rfl, N0, e4⟩
set_option maxRecDepth 65536 in
set_option maxHeartbeats 40000000 in
theorem rm1_10 (l : Launch) (Z : State) (a0 : Array Value) (hw : ∀ d ∈ tables_1, d.before a0 Z = true) (ws : List Jvm.Cond) (w_Outcome_UNDETERMINED : Addr) (w_Outcome_CONFORMS : Addr) (mr_Outcome : Addr) (h0 : Heap) (n0 : Nat) (Z0 : n0 ≤ h0.size) (E_w_Outcome_UNDETERMINED : Exa Z h0 w_Outcome_UNDETERMINED "com/example/shapewell/shapewell/Outcome") (M_mr_Outcome : own_Mir Z "com/example/shapewell/shapewell/Outcome" mr_Outcome) (E_w_Outcome_CONFORMS : Exa Z h0 w_Outcome_CONFORMS "com/example/shapewell/shapewell/Outcome") (F_w_Outcome_UNDETERMINED_ordinal : Fld Z h0 w_Outcome_UNDETERMINED "java/lang/Enum" "ordinal" "I" (.int (1 : Int32))) (F_w_Outcome_CONFORMS_ordinal : Fld Z h0 w_Outcome_CONFORMS "java/lang/Enum" "ordinal" "I" (.int (2 : Int32))) :
    MetFree l (⟨"com/example/shapewell/shapewell/Outcome", "and", "(Lcom/example/shapewell/shapewell/Outcome;)Lcom/example/shapewell/shapewell/Outcome;"⟩ : MethodName) (head1 (Jvm.Cond.code (⟨"com/example/shapewell/shapewell/Outcome", "and", "(Lcom/example/shapewell/shapewell/Outcome;)Lcom/example/shapewell/shapewell/Outcome;"⟩ : MethodName) prog_3_method_5_code 2 (some (.object "com/example/shapewell/shapewell/Outcome")) :: ws) ({ frames := 2, cells := 0, slots := 0, locals := 30 } : Room)) (fun a U => a = #[(.ref w_Outcome_UNDETERMINED), (.ref w_Outcome_CONFORMS)] ∧ Z.Warmed39 U.vm ∧ U.heap = h0) (fun _ _ _ _ _ => True) (fun _ U o U' => ∃ v L, o = .returned v ∧ own_QP (some (.ref w_Outcome_UNDETERMINED)) h0 n0 v U'.heap L ∧ FrameEnd U o U' L ({ frames := 2, cells := 0, slots := 0, locals := 30 } : Room).cells ({ frames := 2, cells := 0, slots := 0, locals := 30 } : Room).slots) := by
  refine MetFree.of_bodySF (plainFor_of_name pn_1) hisR ?_
  intro p e s m args below meth c s₁ Bd hml0 hP hK
  obtain ⟨rfl, hZ, hh⟩ := hP
  have hx := Bd.exec
  have hby := Bd.bytes
  have hml : c.maxLocals = 2 := hml0
  have hown : s.vm.findClass "com/example/shapewell/shapewell/Outcome" = some m.cls := findClass_of_methodNamed Bd.named
  have hnm := (name_of_methodNamed Bd.named Bd.method).1
  have X0 : Stand p l e ({ frames := 2, cells := 0, slots := 0, locals := 30 } : Room) s m #[(.ref w_Outcome_UNDETERMINED), (.ref w_Outcome_CONFORMS)] below meth c s₁ [] 0 0 := Stand.of_body Bd
  have e0 : s₁.heap = h0 := by rw [← hh, Bd.state]; rfl
  have N0 := Fr.nil n0
  have pre0 : ∀ t, Steps p.tables e below (s₁.setTop (mkF m 0 #[rv w_Outcome_UNDETERMINED, rv w_Outcome_CONFORMS] [])) t → Steps p.tables e below (s₁.setTop (entryFrame m #[(.ref w_Outcome_UNDETERMINED), (.ref w_Outcome_CONFORMS)] 2)) t := fun t k => castTop (ef_1_RR m w_Outcome_UNDETERMINED w_Outcome_CONFORMS) k
  obtain ⟨cq1, kq1, q1a, q1b, q1c⟩ := isOf hZ e0 E_w_Outcome_UNDETERMINED
  obtain ⟨_, _, ⟨T1, L1, k1, n1⟩, -, X1, ⟨Lc1, hQ1, l1, y1, z1⟩, st1⟩ := X0.virtualBackUp hx (x := (⟨"com/example/shapewell/shapewell/Outcome", "compareTo", "(Ljava/lang/Enum;)I"⟩ : MethodName)) (y := (⟨"java/lang/Enum", "compareTo", "(Ljava/lang/Enum;)I"⟩ : MethodName)) hown (mvT hZ (hw _ (List.mem_of_getElem? (i := 16) rfl))) (mvT hZ (hw _ (List.mem_of_getElem? (i := 17) rfl))) (mvT hZ (hw _ (List.mem_of_getElem? (i := 18) rfl))) (by decide) (mvT hZ (hw _ (List.mem_of_getElem? (i := 20) rfl))) (mvT hZ (hw _ (List.mem_of_getElem? (i := 19) rfl))) (backOf (W := 0) (rm2_10 l Z a0 hw [] w_Outcome_UNDETERMINED w_Outcome_CONFORMS mr_Outcome h0 n0 Z0 E_w_Outcome_UNDETERMINED M_mr_Outcome E_w_Outcome_CONFORMS F_w_Outcome_UNDETERMINED_ordinal F_w_Outcome_CONFORMS_ordinal) hZ (hw _ (List.mem_of_getElem? (i := 22) rfl)) (hw _ (List.mem_of_getElem? (i := 21) rfl)) (by decide) (by decide)) q1a q1c (g := (mkF m 2 #[rv w_Outcome_UNDETERMINED, rv w_Outcome_CONFORMS] [(.ref w_Outcome_CONFORMS), (.ref w_Outcome_UNDETERMINED)])) rfl (by rw [hml]; rfl) (Steps.refl _) (argsL := [(.ref w_Outcome_CONFORMS)]) (rest := []) (lenOf pd_0 rfl) rfl (by show 2 * 0 + _ ≤ _; exact Nat.le_of_eq rfl) (hb hby d1_2) (fun _ _ => ⟨rfl, e0, (by decide : 0 + 0 ≤ _), (by decide : 0 + 0 ≤ _)⟩)
  dsimp only [Pt.U, Pt.locs, Pt.cells, Pt.slots] at X1 l1 y1 z1 st1 hQ1
  subst l1 y1 z1
  obtain ⟨rfl, N1q, e1⟩ := hQ1
  have N1 := Fr.app N0 N1q
  obtain ⟨fs, hr, hrun, hended, hW, hsame⟩ := X1.leave (v := (some (.ref w_Outcome_UNDETERMINED))) (fun h => by rw [Bd.returns] at h; cases h)
  refine ⟨_, _, pre0 _ ?_, hrun, hended, _, _, rfl, ?_, ⟨_, rfl⟩, hW, hsame.mono (by decide) (by decide)⟩
  · show Steps p.tables e below (s₁.setTop (mkF m 0 #[rv w_Outcome_UNDETERMINED, rv w_Outcome_CONFORMS] [])) _
    refine XS.aloadN X0.here hx rfl (hb hby d1_0) rfl rfl ?_
    show Steps p.tables e below (s₁.setTop (mkF m 1 #[rv w_Outcome_UNDETERMINED, rv w_Outcome_CONFORMS] [(.ref w_Outcome_UNDETERMINED)])) _
    refine XS.aloadN X0.here hx rfl (hb hby d1_1) rfl rfl ?_
    show Steps p.tables e below (s₁.setTop (mkF m 2 #[rv w_Outcome_UNDETERMINED, rv w_Outcome_CONFORMS] [(.ref w_Outcome_CONFORMS), (.ref w_Outcome_UNDETERMINED)])) _
    refine st1.trans ?_
    show Steps p.tables e below (T1.setTop (mkF m 5 #[rv w_Outcome_UNDETERMINED, rv w_Outcome_CONFORMS] [(.int (-1 : Int32))])) _
    refine XS.ifNo X1.here hx rfl (hb hby d1_5) rfl ((if0 _ _).trans (flt (by decide +kernel : ¬ ((0 : Int32) < (-1 : Int32)))).2.2.1) ?_
    show Steps p.tables e below (T1.setTop (mkF m 8 #[rv w_Outcome_UNDETERMINED, rv w_Outcome_CONFORMS] [])) _
    refine XS.aloadN X1.here hx rfl (hb hby d1_8) rfl rfl ?_
    show Steps p.tables e below (T1.setTop (mkF m 9 #[rv w_Outcome_UNDETERMINED, rv w_Outcome_CONFORMS] [(.ref w_Outcome_UNDETERMINED)])) _
    refine XS.goto X1.here hx rfl (pc0 := 9) (pc' := 13) rfl (hb hby d1_9) (by decide) (by decide) ?_
    show Steps p.tables e below (T1.setTop (mkF m 13 #[rv w_Outcome_UNDETERMINED, rv w_Outcome_CONFORMS] [(.ref w_Outcome_UNDETERMINED)])) _
    exact own_retA X1 hx Bd.returns rfl rfl (hb hby d1_13) hr
  · exact ⟨rfl, N1, e1⟩
set_option maxRecDepth 65536 in
set_option maxHeartbeats 40000000 in
theorem rm0_5 (l : Launch) (Z : State) (a0 : Array Value) (hw : ∀ d ∈ tables_1, d.before a0 Z = true) (ws : List Jvm.Cond) (p0 : Int32) (p1 : Int32) (w_Outcome_VIOLATES : Addr) (w_Outcome_UNDETERMINED : Addr) (w_Outcome_CONFORMS : Addr) (mr_Outcome : Addr) (h0 : Heap) (n0 : Nat) (Z0 : n0 ≤ h0.size) (S_Outcome_VIOLATES : Sta Z h0 "com/example/shapewell/shapewell/Outcome" "VIOLATES" "Lcom/example/shapewell/shapewell/Outcome;" (.ref w_Outcome_VIOLATES)) (E_w_Outcome_VIOLATES : Exa Z h0 w_Outcome_VIOLATES "com/example/shapewell/shapewell/Outcome") (S_Outcome_UNDETERMINED : Sta Z h0 "com/example/shapewell/shapewell/Outcome" "UNDETERMINED" "Lcom/example/shapewell/shapewell/Outcome;" (.ref w_Outcome_UNDETERMINED)) (E_w_Outcome_UNDETERMINED : Exa Z h0 w_Outcome_UNDETERMINED "com/example/shapewell/shapewell/Outcome") (S_Outcome_CONFORMS : Sta Z h0 "com/example/shapewell/shapewell/Outcome" "CONFORMS" "Lcom/example/shapewell/shapewell/Outcome;" (.ref w_Outcome_CONFORMS)) (E_w_Outcome_CONFORMS : Exa Z h0 w_Outcome_CONFORMS "com/example/shapewell/shapewell/Outcome") (hk0 : ((p0 &&& (2147483647 : Int32)) % (3 : Int32)) = (1 : Int32)) (hk1 : ((p1 &&& (2147483647 : Int32)) % (3 : Int32)) = (2 : Int32)) (M_mr_Outcome : own_Mir Z "com/example/shapewell/shapewell/Outcome" mr_Outcome) (F_w_Outcome_UNDETERMINED_ordinal : Fld Z h0 w_Outcome_UNDETERMINED "java/lang/Enum" "ordinal" "I" (.int (1 : Int32))) (F_w_Outcome_CONFORMS_ordinal : Fld Z h0 w_Outcome_CONFORMS "java/lang/Enum" "ordinal" "I" (.int (2 : Int32))) (ne_w_Outcome_UNDETERMINED_w_Outcome_VIOLATES : ¬ (w_Outcome_UNDETERMINED = w_Outcome_VIOLATES)) (ne_w_Outcome_CONFORMS_w_Outcome_VIOLATES : ¬ (w_Outcome_CONFORMS = w_Outcome_VIOLATES)) :
    MetFree l x (head1 (Jvm.Cond.code x code maxLocals ret :: ws) room_1) (fun a U => a = #[(.int p0), (.int p1)] ∧ Z.Warmed39 U.vm ∧ U.heap = h0) (fun _ _ _ _ _ => True) (fun _ U o U' => ∃ v L, o = .returned v ∧ own_QL n0 v U'.heap L ∧ FrameEnd U o U' L room_1.cells room_1.slots) := by
  refine MetFree.of_bodySF (plainFor_of_name pn_2) hisR ?_
  intro p e s m args below meth c s₁ Bd hml0 hP hK
  obtain ⟨rfl, hZ, hh⟩ := hP
  have hx := Bd.exec
  have hby := Bd.bytes
  have hml : c.maxLocals = 7 := hml0
  have hown : s.vm.findClass "com/example/shapewell/shapewell/OutcomeAndPinLaw" = some m.cls := findClass_of_methodNamed Bd.named
  have hnm := (name_of_methodNamed Bd.named Bd.method).1
  have X0 : Stand p l e room_1 s m #[(.int p0), (.int p1)] below meth c s₁ [] 0 0 := Stand.of_body Bd
  have e0 : s₁.heap = h0 := by rw [← hh, Bd.state]; rfl
  have N0 := Fr.nil n0
  have pre0 : ∀ t, Steps p.tables e below (s₁.setTop (mkF m 0 #[iv p0, iv p1, .unset, .unset, .unset, .unset, .unset] [])) t → Steps p.tables e below (s₁.setTop (entryFrame m #[(.int p0), (.int p1)] maxLocals)) t := fun t k => castTop (ef_0_II m p0 p1) k
  obtain ⟨T1, h1, k0_1, X1, e1, E1, A1, O1, st1⟩ := newR X0 hx hZ hown (hw _ (List.mem_of_getElem? (i := 0) rfl)) (hw _ (List.mem_of_getElem? (i := 1) rfl)) e0 (g := (mkF m 1 #[iv p0, iv p1, .unset, .unset, .unset, .unset, .unset] [(.int (3 : Int32))])) rfl (hb hby at_1) rfl (by decide) (cap := 3) (by decide) (by decide) (by decide) (by decide)
  obtain ⟨b0_1, gg1⟩ : ∃ z, z = h0.size := ⟨_, rfl⟩
  rw [← gg1] at A1 st1
  have g_b0_1 : n0 ≤ b0_1 := Nat.le_trans Z0 (Nat.le_of_eq gg1.symm)
  have sz_b0_1 : h0.size ≤ b0_1 := Nat.le_trans (Keep.refl h0 []).1 (Nat.le_of_eq gg1.symm)
  have Z1 : n0 ≤ h1.size := Nat.le_trans Z0 E1.1
  have KK1 : Keep h0 h1 [] := (Keep.refl h0 []).ext E1
  have V_b0_1 : Arv Z h1 b0_1 k0_1 (.object "com/example/shapewell/shapewell/Outcome") (3 : Int32) [.null, .null, .null] .null := (Arv.new A1 (by decide)).pad (pad_rep [] .null 3)
  have c2 := (S_Outcome_VIOLATES.ext E1)
  obtain ⟨T3, X3, e3, st3⟩ := getS2 X1 hx hZ hown (host := "") (Or.inl (hw _ (List.mem_of_getElem? (i := 2) rfl))) Via.refl e1 c2 (g := (mkF m 6 #[iv p0, iv p1, .unset, .unset, .unset, .unset, .unset] [(.int (0 : Int32)), (.ref b0_1), (.ref b0_1)])) rfl (hb hby at_6)
  obtain ⟨cl4, Ar4, qq4, Sz4, Nn4, Hs4, Gs4⟩ := id V_b0_1
  have hin4 : ¬ ((0 : Int32) < 0 ∨ cl4.slots.size ≤ ((0 : Int32)).toNatClampNeg) := inb_of Sz4 ⟨by decide, by decide⟩
  have c5 := (E_w_Outcome_VIOLATES.ext E1)
  obtain ⟨T6, h6, X6, e6, W6, st6⟩ := stR X3 hx hZ e3 Ar4 (j := (0 : Int32)) hin4 rfl (Sto.ofV Ar4 qq4 O1 (Ins.self c5)) (g := (mkF m 9 #[iv p0, iv p1, .unset, .unset, .unset, .unset, .unset] [(.ref w_Outcome_VIOLATES), (.int (0 : Int32)), (.ref b0_1), (.ref b0_1)])) rfl rfl (hb hby at_9)
  have vb6 : Arv Z h6 b0_1 k0_1 (.object "com/example/shapewell/shapewell/Outcome") (3 : Int32) [(.ref w_Outcome_VIOLATES), .null, .null] .null := Arv.set Ar4 qq4 Sz4 Nn4 Hs4 Gs4 rfl W6 0 rfl (Nat.le_of_ble_eq_true rfl)
  have Z6 : n0 ≤ h6.size := Nat.le_trans Z1 (Keep.of_wr W6).1
  have KK6 : Keep h0 h6 [] := KK1.wr W6 (Or.inr sz_b0_1)
  have N6 := Fr.snoc X6 N0 g_b0_1
  have c7 := ((S_Outcome_UNDETERMINED.ext E1).wr W6)
  obtain ⟨T8, X8, e8, st8⟩ := getS2 X6 hx hZ hown (host := "") (Or.inl (hw _ (List.mem_of_getElem? (i := 6) rfl))) Via.refl e6 c7 (g := (mkF m 12 #[iv p0, iv p1, .unset, .unset, .unset, .unset, .unset] [(.int (1 : Int32)), (.ref b0_1), (.ref b0_1)])) rfl (hb hby at_12)
  obtain ⟨cl9, Ar9, qq9, Sz9, Nn9, Hs9, Gs9⟩ := id vb6
  have hin9 : ¬ ((1 : Int32) < 0 ∨ cl9.slots.size ≤ ((1 : Int32)).toNatClampNeg) := inb_of Sz9 ⟨by decide, by decide⟩
  have c10 := ((E_w_Outcome_UNDETERMINED.ext E1).wr W6)
  obtain ⟨T11, h11, X11, e11, W11, st11⟩ := stR X8 hx hZ e8 Ar9 (j := (1 : Int32)) hin9 rfl (Sto.ofV Ar9 qq9 O1 (Ins.self c10)) (g := (mkF m 15 #[iv p0, iv p1, .unset, .unset, .unset, .unset, .unset] [(.ref w_Outcome_UNDETERMINED), (.int (1 : Int32)), (.ref b0_1), (.ref b0_1)])) rfl rfl (hb hby at_15)
  have vb11 : Arv Z h11 b0_1 k0_1 (.object "com/example/shapewell/shapewell/Outcome") (3 : Int32) [(.ref w_Outcome_VIOLATES), (.ref w_Outcome_UNDETERMINED), .null] .null := Arv.set Ar9 qq9 Sz9 Nn9 Hs9 Gs9 rfl W11 1 rfl (Nat.le_of_ble_eq_true rfl)
  have Z11 : n0 ≤ h11.size := Nat.le_trans Z6 (Keep.of_wr W11).1
  have KK11 : Keep h0 h11 [] := KK6.wr W11 (Or.inr sz_b0_1)
  have N11 := Fr.snoc X11 N6 g_b0_1
  have c12 := (((S_Outcome_CONFORMS.ext E1).wr W6).wr W11)
  obtain ⟨T13, X13, e13, st13⟩ := getS2 X11 hx hZ hown (host := "") (Or.inl (hw _ (List.mem_of_getElem? (i := 8) rfl))) Via.refl e11 c12 (g := (mkF m 18 #[iv p0, iv p1, .unset, .unset, .unset, .unset, .unset] [(.int (2 : Int32)), (.ref b0_1), (.ref b0_1)])) rfl (hb hby at_18)
  obtain ⟨cl14, Ar14, qq14, Sz14, Nn14, Hs14, Gs14⟩ := id vb11
  have hin14 : ¬ ((2 : Int32) < 0 ∨ cl14.slots.size ≤ ((2 : Int32)).toNatClampNeg) := inb_of Sz14 ⟨by decide, by decide⟩
  have c15 := (((E_w_Outcome_CONFORMS.ext E1).wr W6).wr W11)
  obtain ⟨T16, h16, X16, e16, W16, st16⟩ := stR X13 hx hZ e13 Ar14 (j := (2 : Int32)) hin14 rfl (Sto.ofV Ar14 qq14 O1 (Ins.self c15)) (g := (mkF m 21 #[iv p0, iv p1, .unset, .unset, .unset, .unset, .unset] [(.ref w_Outcome_CONFORMS), (.int (2 : Int32)), (.ref b0_1), (.ref b0_1)])) rfl rfl (hb hby at_21)
  have vb16 : Arv Z h16 b0_1 k0_1 (.object "com/example/shapewell/shapewell/Outcome") (3 : Int32) [(.ref w_Outcome_VIOLATES), (.ref w_Outcome_UNDETERMINED), (.ref w_Outcome_CONFORMS)] .null := Arv.set Ar14 qq14 Sz14 Nn14 Hs14 Gs14 rfl W16 2 rfl (Nat.le_of_ble_eq_true rfl)
  have Z16 : n0 ≤ h16.size := Nat.le_trans Z11 (Keep.of_wr W16).1
  have KK16 : Keep h0 h16 [] := KK11.wr W16 (Or.inr sz_b0_1)
  have N16 := Fr.snoc X16 N11 g_b0_1
  obtain ⟨cl17, Ar17, -, Sz17, Nn17, Hs17, Gs17⟩ := id vb16
  have hin17 : ¬ ((1 : Int32) < 0 ∨ cl17.slots.size ≤ ((1 : Int32)).toNatClampNeg) := inb_of Sz17 ⟨by decide, by decide⟩
  obtain ⟨cl18, Ar18, -, Sz18, Nn18, Hs18, Gs18⟩ := id vb16
  have hin18 : ¬ ((2 : Int32) < 0 ∨ cl18.slots.size ≤ ((2 : Int32)).toNatClampNeg) := inb_of Sz18 ⟨by decide, by decide⟩
  have c20 := ((c10.wr W11).wr W16)
  have c21 := (c15.wr W16)
  have ne_b0_1_w_Outcome_UNDETERMINED_22 : ¬ (b0_1 = w_Outcome_UNDETERMINED) := (Ne.symm (Nat.ne_of_lt (Nat.lt_of_lt_of_le (E_w_Outcome_UNDETERMINED).lt (Nat.le_of_eq gg1.symm))))
  have c23 := ((((F_w_Outcome_UNDETERMINED_ordinal.ext E1).other W6 (Or.inl (Ne.symm ne_b0_1_w_Outcome_UNDETERMINED_22))).other W11 (Or.inl (Ne.symm ne_b0_1_w_Outcome_UNDETERMINED_22))).other W16 (Or.inl (Ne.symm ne_b0_1_w_Outcome_UNDETERMINED_22)))
  have ne_b0_1_w_Outcome_CONFORMS_24 : ¬ (b0_1 = w_Outcome_CONFORMS) := (Ne.symm (Nat.ne_of_lt (Nat.lt_of_lt_of_le (E_w_Outcome_CONFORMS).lt (Nat.le_of_eq gg1.symm))))
  have c25 := ((((F_w_Outcome_CONFORMS_ordinal.ext E1).other W6 (Or.inl (Ne.symm ne_b0_1_w_Outcome_CONFORMS_24))).other W11 (Or.inl (Ne.symm ne_b0_1_w_Outcome_CONFORMS_24))).other W16 (Or.inl (Ne.symm ne_b0_1_w_Outcome_CONFORMS_24)))
  obtain ⟨cq19, kq19, q19a, q19b, q19c⟩ := isOf hZ e16 c20
  obtain ⟨_, _, ⟨T19, L19, k19, n19⟩, -, X19, ⟨Lc19, hQ19, l19, y19, z19⟩, st19⟩ := X16.virtualBack hx (y := (⟨"com/example/shapewell/shapewell/Outcome", "and", "(Lcom/example/shapewell/shapewell/Outcome;)Lcom/example/shapewell/shapewell/Outcome;"⟩ : MethodName)) (z := (⟨"com/example/shapewell/shapewell/Outcome", "and", "(Lcom/example/shapewell/shapewell/Outcome;)Lcom/example/shapewell/shapewell/Outcome;"⟩ : MethodName)) hown (mvT hZ (hw _ (List.mem_of_getElem? (i := 11) rfl))) (mvT hZ (hw _ (List.mem_of_getElem? (i := 12) rfl))) (notFace_of_selects (args := #[]) (mvT hZ (hw _ (List.mem_of_getElem? (i := 14) rfl)))) (mvT hZ (hw _ (List.mem_of_getElem? (i := 14) rfl))) (mvT hZ (hw _ (List.mem_of_getElem? (i := 13) rfl))) (by decide) (backOf (W := 0) (rm1_10 l Z a0 hw [] w_Outcome_UNDETERMINED w_Outcome_CONFORMS mr_Outcome h16 n0 Z16 c20 M_mr_Outcome c21 c23 c25) hZ (hw _ (List.mem_of_getElem? (i := 15) rfl)) (hw _ (List.mem_of_getElem? (i := 3) rfl)) (by decide) (by decide)) q19a q19c (g := (mkF m 45 #[iv p0, iv p1, rv b0_1, rv w_Outcome_UNDETERMINED, rv w_Outcome_CONFORMS, .unset, .unset] [(.ref w_Outcome_CONFORMS), (.ref w_Outcome_UNDETERMINED)])) rfl (by rw [hml]; rfl) (Steps.refl _) (argsL := [(.ref w_Outcome_CONFORMS)]) (rest := []) (lenOf pd_1 rfl) rfl (by show 2 * 0 + _ ≤ _; exact Nat.le_of_eq rfl) (hb hby at_45) (fun _ _ => ⟨rfl, e16, (by decide : 1 + 0 ≤ _), (by decide : 3 + 0 ≤ _)⟩)
  dsimp only [Pt.U, Pt.locs, Pt.cells, Pt.slots] at X19 l19 y19 z19 st19 hQ19
  subst l19 y19 z19
  obtain ⟨rfl, N19q, e19⟩ := hQ19
  have N19 := Fr.app N16 N19q
  have c26 := (((c2.wr W6).wr W11).wr W16)
  obtain ⟨T27, X27, e27, st27⟩ := getS2 X19 hx hZ hown (host := "") (Or.inl (hw _ (List.mem_of_getElem? (i := 2) rfl))) Via.refl e19 c26 (g := (mkF m 51 #[iv p0, iv p1, rv b0_1, rv w_Outcome_UNDETERMINED, rv w_Outcome_CONFORMS, rv w_Outcome_UNDETERMINED, .unset] [(.ref w_Outcome_UNDETERMINED)])) rfl (hb hby at_51)
  obtain ⟨T28, X28, e28, st28⟩ := getS2 X27 hx hZ hown (host := "") (Or.inl (hw _ (List.mem_of_getElem? (i := 2) rfl))) Via.refl e27 c26 (g := (mkF m 59 #[iv p0, iv p1, rv b0_1, rv w_Outcome_UNDETERMINED, rv w_Outcome_CONFORMS, rv w_Outcome_UNDETERMINED, .unset] [(.ref w_Outcome_CONFORMS)])) rfl (hb hby at_59)
  have c29 := ((c7.wr W11).wr W16)
  obtain ⟨T30, X30, e30, st30⟩ := getS2 X28 hx hZ hown (host := "") (Or.inl (hw _ (List.mem_of_getElem? (i := 6) rfl))) Via.refl e28 c29 (g := (mkF m 74 #[iv p0, iv p1, rv b0_1, rv w_Outcome_UNDETERMINED, rv w_Outcome_CONFORMS, rv w_Outcome_UNDETERMINED, .unset] [(.ref w_Outcome_UNDETERMINED)])) rfl (hb hby at_74)
  obtain ⟨T31, X31, e31, st31⟩ := getS2 X30 hx hZ hown (host := "") (Or.inl (hw _ (List.mem_of_getElem? (i := 6) rfl))) Via.refl e30 c29 (g := (mkF m 88 #[iv p0, iv p1, rv b0_1, rv w_Outcome_UNDETERMINED, rv w_Outcome_CONFORMS, rv w_Outcome_UNDETERMINED, .unset] [])) rfl (hb hby at_88)
  obtain ⟨fs, hr, hrun, hended, hW, hsame⟩ := X31.leave (v := (some (.int (1 : Int32)))) (fun h => by rw [Bd.returns] at h; cases h)
  refine ⟨_, _, pre0 _ ?_, hrun, hended, _, _, rfl, ?_, ⟨_, rfl⟩, hW, hsame.mono (by decide) (by decide)⟩
  · show Steps p.tables e below (s₁.setTop (mkF m 0 #[iv p0, iv p1, .unset, .unset, .unset, .unset, .unset] [])) _
    refine XS.iconst X0.here hx rfl (hb hby at_0) ?_
    show Steps p.tables e below (s₁.setTop (mkF m 1 #[iv p0, iv p1, .unset, .unset, .unset, .unset, .unset] [(.int (3 : Int32))])) _
    refine st1 _ ?_
    show Steps p.tables e below (T1.setTop (mkF m 4 #[iv p0, iv p1, .unset, .unset, .unset, .unset, .unset] [(.ref b0_1)])) _
    refine XS.dup X1.here hx rfl (hb hby at_4) rfl rfl ?_
    show Steps p.tables e below (T1.setTop (mkF m 5 #[iv p0, iv p1, .unset, .unset, .unset, .unset, .unset] [(.ref b0_1), (.ref b0_1)])) _
    refine XS.iconst X1.here hx rfl (hb hby at_5) ?_
    show Steps p.tables e below (T1.setTop (mkF m 6 #[iv p0, iv p1, .unset, .unset, .unset, .unset, .unset] [(.int (0 : Int32)), (.ref b0_1), (.ref b0_1)])) _
    refine st3 _ ?_
    show Steps p.tables e below (T3.setTop (mkF m 9 #[iv p0, iv p1, .unset, .unset, .unset, .unset, .unset] [(.ref w_Outcome_VIOLATES), (.int (0 : Int32)), (.ref b0_1), (.ref b0_1)])) _
    refine st6 _ ?_
    show Steps p.tables e below (T6.setTop (mkF m 10 #[iv p0, iv p1, .unset, .unset, .unset, .unset, .unset] [(.ref b0_1)])) _
    refine XS.dup X6.here hx rfl (hb hby at_10) rfl rfl ?_
    show Steps p.tables e below (T6.setTop (mkF m 11 #[iv p0, iv p1, .unset, .unset, .unset, .unset, .unset] [(.ref b0_1), (.ref b0_1)])) _
    refine XS.iconst X6.here hx rfl (hb hby at_11) ?_
    show Steps p.tables e below (T6.setTop (mkF m 12 #[iv p0, iv p1, .unset, .unset, .unset, .unset, .unset] [(.int (1 : Int32)), (.ref b0_1), (.ref b0_1)])) _
    refine st8 _ ?_
    show Steps p.tables e below (T8.setTop (mkF m 15 #[iv p0, iv p1, .unset, .unset, .unset, .unset, .unset] [(.ref w_Outcome_UNDETERMINED), (.int (1 : Int32)), (.ref b0_1), (.ref b0_1)])) _
    refine st11 _ ?_
    show Steps p.tables e below (T11.setTop (mkF m 16 #[iv p0, iv p1, .unset, .unset, .unset, .unset, .unset] [(.ref b0_1)])) _
    refine XS.dup X11.here hx rfl (hb hby at_16) rfl rfl ?_
    show Steps p.tables e below (T11.setTop (mkF m 17 #[iv p0, iv p1, .unset, .unset, .unset, .unset, .unset] [(.ref b0_1), (.ref b0_1)])) _
    refine XS.iconst X11.here hx rfl (hb hby at_17) ?_
    show Steps p.tables e below (T11.setTop (mkF m 18 #[iv p0, iv p1, .unset, .unset, .unset, .unset, .unset] [(.int (2 : Int32)), (.ref b0_1), (.ref b0_1)])) _
    refine st13 _ ?_
    show Steps p.tables e below (T13.setTop (mkF m 21 #[iv p0, iv p1, .unset, .unset, .unset, .unset, .unset] [(.ref w_Outcome_CONFORMS), (.int (2 : Int32)), (.ref b0_1), (.ref b0_1)])) _
    refine st16 _ ?_
    show Steps p.tables e below (T16.setTop (mkF m 22 #[iv p0, iv p1, .unset, .unset, .unset, .unset, .unset] [(.ref b0_1)])) _
    refine XS.astoreN X16.here hx rfl (hb hby at_22) rfl rfl (l' := #[iv p0, iv p1, rv b0_1, .unset, .unset, .unset, .unset]) rfl ?_
    show Steps p.tables e below (T16.setTop (mkF m 23 #[iv p0, iv p1, rv b0_1, .unset, .unset, .unset, .unset] [])) _
    refine XS.aloadN X16.here hx rfl (hb hby at_23) rfl rfl ?_
    show Steps p.tables e below (T16.setTop (mkF m 24 #[iv p0, iv p1, rv b0_1, .unset, .unset, .unset, .unset] [(.ref b0_1)])) _
    refine XS.iloadN X16.here hx rfl (hb hby at_24) rfl ?_
    show Steps p.tables e below (T16.setTop (mkF m 25 #[iv p0, iv p1, rv b0_1, .unset, .unset, .unset, .unset] [(.int p0), (.ref b0_1)])) _
    refine X16.ldcInt hx hown (mvT hZ (hw _ (List.mem_of_getElem? (i := 10) rfl))) (g := (mkF m 25 #[iv p0, iv p1, rv b0_1, .unset, .unset, .unset, .unset] [(.int p0), (.ref b0_1)])) rfl (hb hby at_25) _ ?_
    show Steps p.tables e below (T16.setTop (mkF m 27 #[iv p0, iv p1, rv b0_1, .unset, .unset, .unset, .unset] [(.int (2147483647 : Int32)), (.int p0), (.ref b0_1)])) _
    refine XS.iand X16.here hx rfl (hb hby at_27) rfl ?_
    show Steps p.tables e below (T16.setTop (mkF m 28 #[iv p0, iv p1, rv b0_1, .unset, .unset, .unset, .unset] [(.int (p0 &&& (2147483647 : Int32))), (.ref b0_1)])) _
    refine XS.iconst X16.here hx rfl (hb hby at_28) ?_
    show Steps p.tables e below (T16.setTop (mkF m 29 #[iv p0, iv p1, rv b0_1, .unset, .unset, .unset, .unset] [(.int (3 : Int32)), (.int (p0 &&& (2147483647 : Int32))), (.ref b0_1)])) _
    refine iremM X16 hx rfl (hb hby at_29) rfl (by decide) ?_
    show Steps p.tables e below (T16.setTop (mkF m 30 #[iv p0, iv p1, rv b0_1, .unset, .unset, .unset, .unset] [(.int ((p0 &&& (2147483647 : Int32)) % (3 : Int32))), (.ref b0_1)])) _
    rewrite [hk0]
    show Steps p.tables e below (T16.setTop (mkF m 30 #[iv p0, iv p1, rv b0_1, .unset, .unset, .unset, .unset] [(.int (1 : Int32)), (.ref b0_1)])) _
    refine X16.aaload hx (j := (1 : Int32)) (v := (.ref w_Outcome_UNDETERMINED)) (by rw [e16]; exact Ar17.1) (State.isArrayOf_alike hZ.alike Ar17.2.1) rfl Ar17.2.2 hin17 (Hs17.at hin17 rfl) (g := (mkF m 30 #[iv p0, iv p1, rv b0_1, .unset, .unset, .unset, .unset] [(.int (1 : Int32)), (.ref b0_1)])) rfl rfl (hb hby at_30) _ ?_
    show Steps p.tables e below (T16.setTop (mkF m 31 #[iv p0, iv p1, rv b0_1, .unset, .unset, .unset, .unset] [(.ref w_Outcome_UNDETERMINED)])) _
    refine XS.astoreN X16.here hx rfl (hb hby at_31) rfl rfl (l' := #[iv p0, iv p1, rv b0_1, rv w_Outcome_UNDETERMINED, .unset, .unset, .unset]) rfl ?_
    show Steps p.tables e below (T16.setTop (mkF m 32 #[iv p0, iv p1, rv b0_1, rv w_Outcome_UNDETERMINED, .unset, .unset, .unset] [])) _
    refine XS.aloadN X16.here hx rfl (hb hby at_32) rfl rfl ?_
    show Steps p.tables e below (T16.setTop (mkF m 33 #[iv p0, iv p1, rv b0_1, rv w_Outcome_UNDETERMINED, .unset, .unset, .unset] [(.ref b0_1)])) _
    refine XS.iloadN X16.here hx rfl (hb hby at_33) rfl ?_
    show Steps p.tables e below (T16.setTop (mkF m 34 #[iv p0, iv p1, rv b0_1, rv w_Outcome_UNDETERMINED, .unset, .unset, .unset] [(.int p1), (.ref b0_1)])) _
    refine X16.ldcInt hx hown (mvT hZ (hw _ (List.mem_of_getElem? (i := 10) rfl))) (g := (mkF m 34 #[iv p0, iv p1, rv b0_1, rv w_Outcome_UNDETERMINED, .unset, .unset, .unset] [(.int p1), (.ref b0_1)])) rfl (hb hby at_34) _ ?_
    show Steps p.tables e below (T16.setTop (mkF m 36 #[iv p0, iv p1, rv b0_1, rv w_Outcome_UNDETERMINED, .unset, .unset, .unset] [(.int (2147483647 : Int32)), (.int p1), (.ref b0_1)])) _
    refine XS.iand X16.here hx rfl (hb hby at_36) rfl ?_
    show Steps p.tables e below (T16.setTop (mkF m 37 #[iv p0, iv p1, rv b0_1, rv w_Outcome_UNDETERMINED, .unset, .unset, .unset] [(.int (p1 &&& (2147483647 : Int32))), (.ref b0_1)])) _
    refine XS.iconst X16.here hx rfl (hb hby at_37) ?_
    show Steps p.tables e below (T16.setTop (mkF m 38 #[iv p0, iv p1, rv b0_1, rv w_Outcome_UNDETERMINED, .unset, .unset, .unset] [(.int (3 : Int32)), (.int (p1 &&& (2147483647 : Int32))), (.ref b0_1)])) _
    refine iremM X16 hx rfl (hb hby at_38) rfl (by decide) ?_
    show Steps p.tables e below (T16.setTop (mkF m 39 #[iv p0, iv p1, rv b0_1, rv w_Outcome_UNDETERMINED, .unset, .unset, .unset] [(.int ((p1 &&& (2147483647 : Int32)) % (3 : Int32))), (.ref b0_1)])) _
    rewrite [hk1]
    show Steps p.tables e below (T16.setTop (mkF m 39 #[iv p0, iv p1, rv b0_1, rv w_Outcome_UNDETERMINED, .unset, .unset, .unset] [(.int (2 : Int32)), (.ref b0_1)])) _
    refine X16.aaload hx (j := (2 : Int32)) (v := (.ref w_Outcome_CONFORMS)) (by rw [e16]; exact Ar18.1) (State.isArrayOf_alike hZ.alike Ar18.2.1) rfl Ar18.2.2 hin18 (Hs18.at hin18 rfl) (g := (mkF m 39 #[iv p0, iv p1, rv b0_1, rv w_Outcome_UNDETERMINED, .unset, .unset, .unset] [(.int (2 : Int32)), (.ref b0_1)])) rfl rfl (hb hby at_39) _ ?_
    show Steps p.tables e below (T16.setTop (mkF m 40 #[iv p0, iv p1, rv b0_1, rv w_Outcome_UNDETERMINED, .unset, .unset, .unset] [(.ref w_Outcome_CONFORMS)])) _
    refine XS.astore X16.here hx rfl (hb hby at_40) rfl rfl (l' := #[iv p0, iv p1, rv b0_1, rv w_Outcome_UNDETERMINED, rv w_Outcome_CONFORMS, .unset, .unset]) rfl ?_
    show Steps p.tables e below (T16.setTop (mkF m 42 #[iv p0, iv p1, rv b0_1, rv w_Outcome_UNDETERMINED, rv w_Outcome_CONFORMS, .unset, .unset] [])) _
    refine XS.aloadN X16.here hx rfl (hb hby at_42) rfl rfl ?_
    show Steps p.tables e below (T16.setTop (mkF m 43 #[iv p0, iv p1, rv b0_1, rv w_Outcome_UNDETERMINED, rv w_Outcome_CONFORMS, .unset, .unset] [(.ref w_Outcome_UNDETERMINED)])) _
    refine XS.aload X16.here hx rfl (hb hby at_43) rfl rfl ?_
    show Steps p.tables e below (T16.setTop (mkF m 45 #[iv p0, iv p1, rv b0_1, rv w_Outcome_UNDETERMINED, rv w_Outcome_CONFORMS, .unset, .unset] [(.ref w_Outcome_CONFORMS), (.ref w_Outcome_UNDETERMINED)])) _
    refine st19.trans ?_
    show Steps p.tables e below (T19.setTop (mkF m 48 #[iv p0, iv p1, rv b0_1, rv w_Outcome_UNDETERMINED, rv w_Outcome_CONFORMS, .unset, .unset] [(.ref w_Outcome_UNDETERMINED)])) _
    refine XS.astore X19.here hx rfl (hb hby at_48) rfl rfl (l' := #[iv p0, iv p1, rv b0_1, rv w_Outcome_UNDETERMINED, rv w_Outcome_CONFORMS, rv w_Outcome_UNDETERMINED, .unset]) rfl ?_
    show Steps p.tables e below (T19.setTop (mkF m 50 #[iv p0, iv p1, rv b0_1, rv w_Outcome_UNDETERMINED, rv w_Outcome_CONFORMS, rv w_Outcome_UNDETERMINED, .unset] [])) _
    refine XS.aloadN X19.here hx rfl (hb hby at_50) rfl rfl ?_
    show Steps p.tables e below (T19.setTop (mkF m 51 #[iv p0, iv p1, rv b0_1, rv w_Outcome_UNDETERMINED, rv w_Outcome_CONFORMS, rv w_Outcome_UNDETERMINED, .unset] [(.ref w_Outcome_UNDETERMINED)])) _
    refine st27 _ ?_
    show Steps p.tables e below (T27.setTop (mkF m 54 #[iv p0, iv p1, rv b0_1, rv w_Outcome_UNDETERMINED, rv w_Outcome_CONFORMS, rv w_Outcome_UNDETERMINED, .unset] [(.ref w_Outcome_VIOLATES), (.ref w_Outcome_UNDETERMINED)])) _
    refine Jvm.RoadKit.acmp (g := (mkF m 54 #[iv p0, iv p1, rv b0_1, rv w_Outcome_UNDETERMINED, rv w_Outcome_CONFORMS, rv w_Outcome_UNDETERMINED, .unset] [(.ref w_Outcome_VIOLATES), (.ref w_Outcome_UNDETERMINED)])) X27 hx rfl rfl rfl (pc0 := 54) (pc' := 57) (same := false) rfl (hb hby at_54) rfl (decide_eq_false fun q => ne_w_Outcome_UNDETERMINED_w_Outcome_VIOLATES (Value.ref.inj q)) (by decide) (by decide) ?_
    show Steps p.tables e below (T27.setTop (mkF m 57 #[iv p0, iv p1, rv b0_1, rv w_Outcome_UNDETERMINED, rv w_Outcome_CONFORMS, rv w_Outcome_UNDETERMINED, .unset] [])) _
    refine XS.aload X27.here hx rfl (hb hby at_57) rfl rfl ?_
    show Steps p.tables e below (T27.setTop (mkF m 59 #[iv p0, iv p1, rv b0_1, rv w_Outcome_UNDETERMINED, rv w_Outcome_CONFORMS, rv w_Outcome_UNDETERMINED, .unset] [(.ref w_Outcome_CONFORMS)])) _
    refine st28 _ ?_
    show Steps p.tables e below (T28.setTop (mkF m 62 #[iv p0, iv p1, rv b0_1, rv w_Outcome_UNDETERMINED, rv w_Outcome_CONFORMS, rv w_Outcome_UNDETERMINED, .unset] [(.ref w_Outcome_VIOLATES), (.ref w_Outcome_CONFORMS)])) _
    refine Jvm.RoadKit.acmp (g := (mkF m 62 #[iv p0, iv p1, rv b0_1, rv w_Outcome_UNDETERMINED, rv w_Outcome_CONFORMS, rv w_Outcome_UNDETERMINED, .unset] [(.ref w_Outcome_VIOLATES), (.ref w_Outcome_CONFORMS)])) X28 hx rfl rfl rfl (pc0 := 62) (pc' := 73) (same := false) rfl (hb hby at_62) rfl (decide_eq_false fun q => ne_w_Outcome_CONFORMS_w_Outcome_VIOLATES (Value.ref.inj q)) (by decide) (by decide) ?_
    show Steps p.tables e below (T28.setTop (mkF m 73 #[iv p0, iv p1, rv b0_1, rv w_Outcome_UNDETERMINED, rv w_Outcome_CONFORMS, rv w_Outcome_UNDETERMINED, .unset] [])) _
    refine XS.aloadN X28.here hx rfl (hb hby at_73) rfl rfl ?_
    show Steps p.tables e below (T28.setTop (mkF m 74 #[iv p0, iv p1, rv b0_1, rv w_Outcome_UNDETERMINED, rv w_Outcome_CONFORMS, rv w_Outcome_UNDETERMINED, .unset] [(.ref w_Outcome_UNDETERMINED)])) _
    refine st30 _ ?_
    show Steps p.tables e below (T30.setTop (mkF m 77 #[iv p0, iv p1, rv b0_1, rv w_Outcome_UNDETERMINED, rv w_Outcome_CONFORMS, rv w_Outcome_UNDETERMINED, .unset] [(.ref w_Outcome_UNDETERMINED), (.ref w_Outcome_UNDETERMINED)])) _
    refine Jvm.RoadKit.acmp (g := (mkF m 77 #[iv p0, iv p1, rv b0_1, rv w_Outcome_UNDETERMINED, rv w_Outcome_CONFORMS, rv w_Outcome_UNDETERMINED, .unset] [(.ref w_Outcome_UNDETERMINED), (.ref w_Outcome_UNDETERMINED)])) X30 hx rfl rfl rfl (pc0 := 77) (pc' := 88) (same := true) rfl (hb hby at_77) rfl (decide_eq_true rfl) (by decide) (by decide) ?_
    show Steps p.tables e below (T30.setTop (mkF m 88 #[iv p0, iv p1, rv b0_1, rv w_Outcome_UNDETERMINED, rv w_Outcome_CONFORMS, rv w_Outcome_UNDETERMINED, .unset] [])) _
    refine st31 _ ?_
    show Steps p.tables e below (T31.setTop (mkF m 91 #[iv p0, iv p1, rv b0_1, rv w_Outcome_UNDETERMINED, rv w_Outcome_CONFORMS, rv w_Outcome_UNDETERMINED, .unset] [(.ref w_Outcome_UNDETERMINED)])) _
    refine XS.astore X31.here hx rfl (hb hby at_91) rfl rfl (l' := #[iv p0, iv p1, rv b0_1, rv w_Outcome_UNDETERMINED, rv w_Outcome_CONFORMS, rv w_Outcome_UNDETERMINED, rv w_Outcome_UNDETERMINED]) rfl ?_
    show Steps p.tables e below (T31.setTop (mkF m 93 #[iv p0, iv p1, rv b0_1, rv w_Outcome_UNDETERMINED, rv w_Outcome_CONFORMS, rv w_Outcome_UNDETERMINED, rv w_Outcome_UNDETERMINED] [])) _
    refine XS.goto X31.here hx rfl (pc0 := 93) (pc' := 101) rfl (hb hby at_93) (by decide) (by decide) ?_
    show Steps p.tables e below (T31.setTop (mkF m 101 #[iv p0, iv p1, rv b0_1, rv w_Outcome_UNDETERMINED, rv w_Outcome_CONFORMS, rv w_Outcome_UNDETERMINED, rv w_Outcome_UNDETERMINED] [])) _
    refine XS.aload X31.here hx rfl (hb hby at_101) rfl rfl ?_
    show Steps p.tables e below (T31.setTop (mkF m 103 #[iv p0, iv p1, rv b0_1, rv w_Outcome_UNDETERMINED, rv w_Outcome_CONFORMS, rv w_Outcome_UNDETERMINED, rv w_Outcome_UNDETERMINED] [(.ref w_Outcome_UNDETERMINED)])) _
    refine XS.aload X31.here hx rfl (hb hby at_103) rfl rfl ?_
    show Steps p.tables e below (T31.setTop (mkF m 105 #[iv p0, iv p1, rv b0_1, rv w_Outcome_UNDETERMINED, rv w_Outcome_CONFORMS, rv w_Outcome_UNDETERMINED, rv w_Outcome_UNDETERMINED] [(.ref w_Outcome_UNDETERMINED), (.ref w_Outcome_UNDETERMINED)])) _
    refine Jvm.RoadKit.acmp (g := (mkF m 105 #[iv p0, iv p1, rv b0_1, rv w_Outcome_UNDETERMINED, rv w_Outcome_CONFORMS, rv w_Outcome_UNDETERMINED, rv w_Outcome_UNDETERMINED] [(.ref w_Outcome_UNDETERMINED), (.ref w_Outcome_UNDETERMINED)])) X31 hx rfl rfl rfl (pc0 := 105) (pc' := 108) (same := true) rfl (hb hby at_105) rfl (decide_eq_true rfl) (by decide) (by decide) ?_
    show Steps p.tables e below (T31.setTop (mkF m 108 #[iv p0, iv p1, rv b0_1, rv w_Outcome_UNDETERMINED, rv w_Outcome_CONFORMS, rv w_Outcome_UNDETERMINED, rv w_Outcome_UNDETERMINED] [])) _
    refine XS.iconst X31.here hx rfl (hb hby at_108) ?_
    show Steps p.tables e below (T31.setTop (mkF m 109 #[iv p0, iv p1, rv b0_1, rv w_Outcome_UNDETERMINED, rv w_Outcome_CONFORMS, rv w_Outcome_UNDETERMINED, rv w_Outcome_UNDETERMINED] [(.int (1 : Int32))])) _
    refine XS.goto X31.here hx rfl (pc0 := 109) (pc' := 113) rfl (hb hby at_109) (by decide) (by decide) ?_
    show Steps p.tables e below (T31.setTop (mkF m 113 #[iv p0, iv p1, rv b0_1, rv w_Outcome_UNDETERMINED, rv w_Outcome_CONFORMS, rv w_Outcome_UNDETERMINED, rv w_Outcome_UNDETERMINED] [(.int (1 : Int32))])) _
    exact retN X31 hx (t := .boolean) Bd.returns (by simp) (hb hby at_113) hr
  · exact ⟨rfl, N19⟩
set_option maxRecDepth 65536 in
set_option maxHeartbeats 40000000 in
theorem rm2_12 (l : Launch) (Z : State) (a0 : Array Value) (hw : ∀ d ∈ tables_1, d.before a0 Z = true) (ws : List Jvm.Cond) (w_Outcome_VIOLATES : Addr) (w_Outcome_CONFORMS : Addr) (mr_Outcome : Addr) (h0 : Heap) (n0 : Nat) (Z0 : n0 ≤ h0.size) (E_w_Outcome_CONFORMS : Exa Z h0 w_Outcome_CONFORMS "com/example/shapewell/shapewell/Outcome") (M_mr_Outcome : own_Mir Z "com/example/shapewell/shapewell/Outcome" mr_Outcome) (E_w_Outcome_VIOLATES : Exa Z h0 w_Outcome_VIOLATES "com/example/shapewell/shapewell/Outcome") (F_w_Outcome_CONFORMS_ordinal : Fld Z h0 w_Outcome_CONFORMS "java/lang/Enum" "ordinal" "I" (.int (2 : Int32))) (F_w_Outcome_VIOLATES_ordinal : Fld Z h0 w_Outcome_VIOLATES "java/lang/Enum" "ordinal" "I" (.int (0 : Int32))) :
    MetFree l (⟨"java/lang/Enum", "compareTo", "(Ljava/lang/Enum;)I"⟩ : MethodName) (head1 (Jvm.Cond.code (⟨"java/lang/Enum", "compareTo", "(Ljava/lang/Enum;)I"⟩ : MethodName) jdk_37_method_8_code 4 (some .int) :: ws) ({ frames := 1, cells := 0, slots := 0, locals := 15 } : Room)) (fun a U => a = #[(.ref w_Outcome_CONFORMS), (.ref w_Outcome_VIOLATES)] ∧ Z.Warmed39 U.vm ∧ U.heap = h0) (fun _ _ _ _ _ => True) (fun _ U o U' => ∃ v L, o = .returned v ∧ own_QP (some (.int (2 : Int32))) h0 n0 v U'.heap L ∧ FrameEnd U o U' L ({ frames := 1, cells := 0, slots := 0, locals := 15 } : Room).cells ({ frames := 1, cells := 0, slots := 0, locals := 15 } : Room).slots) := by
  refine MetFree.of_bodySF (plainFor_of_name pn_0) hisR ?_
  intro p e s m args below meth c s₁ Bd hml0 hP hK
  obtain ⟨rfl, hZ, hh⟩ := hP
  have hx := Bd.exec
  have hby := Bd.bytes
  have hml : c.maxLocals = 4 := hml0
  have hown : s.vm.findClass "java/lang/Enum" = some m.cls := findClass_of_methodNamed Bd.named
  have hnm := (name_of_methodNamed Bd.named Bd.method).1
  have X0 : Stand p l e ({ frames := 1, cells := 0, slots := 0, locals := 15 } : Room) s m #[(.ref w_Outcome_CONFORMS), (.ref w_Outcome_VIOLATES)] below meth c s₁ [] 0 0 := Stand.of_body Bd
  have e0 : s₁.heap = h0 := by rw [← hh, Bd.state]; rfl
  have N0 := Fr.nil n0
  have pre0 : ∀ t, Steps p.tables e below (s₁.setTop (mkF m 0 #[rv w_Outcome_CONFORMS, rv w_Outcome_VIOLATES, .unset, .unset] [])) t → Steps p.tables e below (s₁.setTop (entryFrame m #[(.ref w_Outcome_CONFORMS), (.ref w_Outcome_VIOLATES)] 4)) t := fun t k => castTop (ef_2_RR m w_Outcome_CONFORMS w_Outcome_VIOLATES) k
  obtain ⟨T1, X1, e1, st1⟩ := own_gcls X0 hx hZ hown (hw _ (List.mem_of_getElem? (i := 23) rfl)) (hw _ (List.mem_of_getElem? (i := 24) rfl)) (hw _ (List.mem_of_getElem? (i := 26) rfl)) (hw _ (List.mem_of_getElem? (i := 25) rfl)) (hw _ (List.mem_of_getElem? (i := 27) rfl)) e0 E_w_Outcome_CONFORMS M_mr_Outcome (g := (mkF m 5 #[rv w_Outcome_CONFORMS, rv w_Outcome_VIOLATES, rv w_Outcome_VIOLATES, rv w_Outcome_CONFORMS] [(.ref w_Outcome_CONFORMS)])) rfl (by rw [hml]; rfl) rfl (hb hby d2_5) (by decide) (W := 0) (by show 2 * 0 + _ ≤ _; exact Nat.le_of_eq rfl) (by decide)
  obtain ⟨T2, X2, e2, st2⟩ := own_gcls X1 hx hZ hown (hw _ (List.mem_of_getElem? (i := 23) rfl)) (hw _ (List.mem_of_getElem? (i := 24) rfl)) (hw _ (List.mem_of_getElem? (i := 26) rfl)) (hw _ (List.mem_of_getElem? (i := 25) rfl)) (hw _ (List.mem_of_getElem? (i := 27) rfl)) e1 E_w_Outcome_VIOLATES M_mr_Outcome (g := (mkF m 9 #[rv w_Outcome_CONFORMS, rv w_Outcome_VIOLATES, rv w_Outcome_VIOLATES, rv w_Outcome_CONFORMS] [(.ref w_Outcome_VIOLATES), (.ref mr_Outcome)])) rfl (by rw [hml]; rfl) rfl (hb hby d2_9) (by decide) (W := 1) (by show 2 * 0 + _ ≤ _; exact Nat.le_of_eq rfl) (by decide)
  obtain ⟨T3, X3, e3, st3⟩ := getF X2 hx hZ hown (host := "") (Or.inl (hw _ (List.mem_of_getElem? (i := 28) rfl))) Via.refl e2 F_w_Outcome_CONFORMS_ordinal (g := (mkF m 35 #[rv w_Outcome_CONFORMS, rv w_Outcome_VIOLATES, rv w_Outcome_VIOLATES, rv w_Outcome_CONFORMS] [(.ref w_Outcome_CONFORMS)])) rfl rfl (hb hby d2_35)
  obtain ⟨T4, X4, e4, st4⟩ := getF X3 hx hZ hown (host := "") (Or.inl (hw _ (List.mem_of_getElem? (i := 28) rfl))) Via.refl e3 F_w_Outcome_VIOLATES_ordinal (g := (mkF m 39 #[rv w_Outcome_CONFORMS, rv w_Outcome_VIOLATES, rv w_Outcome_VIOLATES, rv w_Outcome_CONFORMS] [(.ref w_Outcome_VIOLATES), (.int (2 : Int32))])) rfl rfl (hb hby d2_39)
  obtain ⟨fs, hr, hrun, hended, hW, hsame⟩ := X4.leave (v := (some (.int (2 : Int32)))) (fun h => by rw [Bd.returns] at h; cases h)
  refine ⟨_, _, pre0 _ ?_, hrun, hended, _, _, rfl, ?_, ⟨_, rfl⟩, hW, hsame.mono (by decide) (by decide)⟩
  · show Steps p.tables e below (s₁.setTop (mkF m 0 #[rv w_Outcome_CONFORMS, rv w_Outcome_VIOLATES, .unset, .unset] [])) _
    refine XS.aloadN X0.here hx rfl (hb hby d2_0) rfl rfl ?_
    show Steps p.tables e below (s₁.setTop (mkF m 1 #[rv w_Outcome_CONFORMS, rv w_Outcome_VIOLATES, .unset, .unset] [(.ref w_Outcome_VIOLATES)])) _
    refine XS.astoreN X0.here hx rfl (hb hby d2_1) rfl rfl (l' := #[rv w_Outcome_CONFORMS, rv w_Outcome_VIOLATES, rv w_Outcome_VIOLATES, .unset]) rfl ?_
    show Steps p.tables e below (s₁.setTop (mkF m 2 #[rv w_Outcome_CONFORMS, rv w_Outcome_VIOLATES, rv w_Outcome_VIOLATES, .unset] [])) _
    refine XS.aloadN X0.here hx rfl (hb hby d2_2) rfl rfl ?_
    show Steps p.tables e below (s₁.setTop (mkF m 3 #[rv w_Outcome_CONFORMS, rv w_Outcome_VIOLATES, rv w_Outcome_VIOLATES, .unset] [(.ref w_Outcome_CONFORMS)])) _
    refine XS.astoreN X0.here hx rfl (hb hby d2_3) rfl rfl (l' := #[rv w_Outcome_CONFORMS, rv w_Outcome_VIOLATES, rv w_Outcome_VIOLATES, rv w_Outcome_CONFORMS]) rfl ?_
    show Steps p.tables e below (s₁.setTop (mkF m 4 #[rv w_Outcome_CONFORMS, rv w_Outcome_VIOLATES, rv w_Outcome_VIOLATES, rv w_Outcome_CONFORMS] [])) _
    refine XS.aloadN X0.here hx rfl (hb hby d2_4) rfl rfl ?_
    show Steps p.tables e below (s₁.setTop (mkF m 5 #[rv w_Outcome_CONFORMS, rv w_Outcome_VIOLATES, rv w_Outcome_VIOLATES, rv w_Outcome_CONFORMS] [(.ref w_Outcome_CONFORMS)])) _
    refine st1 _ ?_
    show Steps p.tables e below (T1.setTop (mkF m 8 #[rv w_Outcome_CONFORMS, rv w_Outcome_VIOLATES, rv w_Outcome_VIOLATES, rv w_Outcome_CONFORMS] [(.ref mr_Outcome)])) _
    refine XS.aloadN X1.here hx rfl (hb hby d2_8) rfl rfl ?_
    show Steps p.tables e below (T1.setTop (mkF m 9 #[rv w_Outcome_CONFORMS, rv w_Outcome_VIOLATES, rv w_Outcome_VIOLATES, rv w_Outcome_CONFORMS] [(.ref w_Outcome_VIOLATES), (.ref mr_Outcome)])) _
    refine st2 _ ?_
    show Steps p.tables e below (T2.setTop (mkF m 12 #[rv w_Outcome_CONFORMS, rv w_Outcome_VIOLATES, rv w_Outcome_VIOLATES, rv w_Outcome_CONFORMS] [(.ref mr_Outcome), (.ref mr_Outcome)])) _
    refine Jvm.RoadKit.acmp (g := (mkF m 12 #[rv w_Outcome_CONFORMS, rv w_Outcome_VIOLATES, rv w_Outcome_VIOLATES, rv w_Outcome_CONFORMS] [(.ref mr_Outcome), (.ref mr_Outcome)])) X2 hx rfl rfl rfl (pc0 := 12) (pc' := 34) (same := true) rfl (hb hby d2_12) rfl (decide_eq_true rfl) (by decide) (by decide) ?_
    show Steps p.tables e below (T2.setTop (mkF m 34 #[rv w_Outcome_CONFORMS, rv w_Outcome_VIOLATES, rv w_Outcome_VIOLATES, rv w_Outcome_CONFORMS] [])) _
    refine XS.aloadN X2.here hx rfl (hb hby d2_34) rfl rfl ?_
    show Steps p.tables e below (T2.setTop (mkF m 35 #[rv w_Outcome_CONFORMS, rv w_Outcome_VIOLATES, rv w_Outcome_VIOLATES, rv w_Outcome_CONFORMS] [(.ref w_Outcome_CONFORMS)])) _
    refine st3 _ ?_
    show Steps p.tables e below (T3.setTop (mkF m 38 #[rv w_Outcome_CONFORMS, rv w_Outcome_VIOLATES, rv w_Outcome_VIOLATES, rv w_Outcome_CONFORMS] [(.int (2 : Int32))])) _
    refine XS.aloadN X3.here hx rfl (hb hby d2_38) rfl rfl ?_
    show Steps p.tables e below (T3.setTop (mkF m 39 #[rv w_Outcome_CONFORMS, rv w_Outcome_VIOLATES, rv w_Outcome_VIOLATES, rv w_Outcome_CONFORMS] [(.ref w_Outcome_VIOLATES), (.int (2 : Int32))])) _
    refine st4 _ ?_
    show Steps p.tables e below (T4.setTop (mkF m 42 #[rv w_Outcome_CONFORMS, rv w_Outcome_VIOLATES, rv w_Outcome_VIOLATES, rv w_Outcome_CONFORMS] [(.int (0 : Int32)), (.int (2 : Int32))])) _
    refine XS.isub X4.here hx rfl (hb hby d2_42) rfl ?_
    show Steps p.tables e below (T4.setTop (mkF m 43 #[rv w_Outcome_CONFORMS, rv w_Outcome_VIOLATES, rv w_Outcome_VIOLATES, rv w_Outcome_CONFORMS] [(.int ((2 : Int32) - (0 : Int32)))])) _
    rewrite [show ((2 : Int32) - (0 : Int32)) = (2 : Int32) from by decide +kernel]
    show Steps p.tables e below (T4.setTop (mkF m 43 #[rv w_Outcome_CONFORMS, rv w_Outcome_VIOLATES, rv w_Outcome_VIOLATES, rv w_Outcome_CONFORMS] [(.int (2 : Int32))])) _
    exact retI X4 hx Bd.returns (hb hby d2_43) hr
  · exact ⟨rfl, N0, e4⟩
set_option maxRecDepth 65536 in
set_option maxHeartbeats 40000000 in
theorem rm1_12 (l : Launch) (Z : State) (a0 : Array Value) (hw : ∀ d ∈ tables_1, d.before a0 Z = true) (ws : List Jvm.Cond) (w_Outcome_VIOLATES : Addr) (w_Outcome_CONFORMS : Addr) (mr_Outcome : Addr) (h0 : Heap) (n0 : Nat) (Z0 : n0 ≤ h0.size) (E_w_Outcome_CONFORMS : Exa Z h0 w_Outcome_CONFORMS "com/example/shapewell/shapewell/Outcome") (M_mr_Outcome : own_Mir Z "com/example/shapewell/shapewell/Outcome" mr_Outcome) (E_w_Outcome_VIOLATES : Exa Z h0 w_Outcome_VIOLATES "com/example/shapewell/shapewell/Outcome") (F_w_Outcome_CONFORMS_ordinal : Fld Z h0 w_Outcome_CONFORMS "java/lang/Enum" "ordinal" "I" (.int (2 : Int32))) (F_w_Outcome_VIOLATES_ordinal : Fld Z h0 w_Outcome_VIOLATES "java/lang/Enum" "ordinal" "I" (.int (0 : Int32))) :
    MetFree l (⟨"com/example/shapewell/shapewell/Outcome", "and", "(Lcom/example/shapewell/shapewell/Outcome;)Lcom/example/shapewell/shapewell/Outcome;"⟩ : MethodName) (head1 (Jvm.Cond.code (⟨"com/example/shapewell/shapewell/Outcome", "and", "(Lcom/example/shapewell/shapewell/Outcome;)Lcom/example/shapewell/shapewell/Outcome;"⟩ : MethodName) prog_3_method_5_code 2 (some (.object "com/example/shapewell/shapewell/Outcome")) :: ws) ({ frames := 2, cells := 0, slots := 0, locals := 30 } : Room)) (fun a U => a = #[(.ref w_Outcome_CONFORMS), (.ref w_Outcome_VIOLATES)] ∧ Z.Warmed39 U.vm ∧ U.heap = h0) (fun _ _ _ _ _ => True) (fun _ U o U' => ∃ v L, o = .returned v ∧ own_QP (some (.ref w_Outcome_VIOLATES)) h0 n0 v U'.heap L ∧ FrameEnd U o U' L ({ frames := 2, cells := 0, slots := 0, locals := 30 } : Room).cells ({ frames := 2, cells := 0, slots := 0, locals := 30 } : Room).slots) := by
  refine MetFree.of_bodySF (plainFor_of_name pn_1) hisR ?_
  intro p e s m args below meth c s₁ Bd hml0 hP hK
  obtain ⟨rfl, hZ, hh⟩ := hP
  have hx := Bd.exec
  have hby := Bd.bytes
  have hml : c.maxLocals = 2 := hml0
  have hown : s.vm.findClass "com/example/shapewell/shapewell/Outcome" = some m.cls := findClass_of_methodNamed Bd.named
  have hnm := (name_of_methodNamed Bd.named Bd.method).1
  have X0 : Stand p l e ({ frames := 2, cells := 0, slots := 0, locals := 30 } : Room) s m #[(.ref w_Outcome_CONFORMS), (.ref w_Outcome_VIOLATES)] below meth c s₁ [] 0 0 := Stand.of_body Bd
  have e0 : s₁.heap = h0 := by rw [← hh, Bd.state]; rfl
  have N0 := Fr.nil n0
  have pre0 : ∀ t, Steps p.tables e below (s₁.setTop (mkF m 0 #[rv w_Outcome_CONFORMS, rv w_Outcome_VIOLATES] [])) t → Steps p.tables e below (s₁.setTop (entryFrame m #[(.ref w_Outcome_CONFORMS), (.ref w_Outcome_VIOLATES)] 2)) t := fun t k => castTop (ef_1_RR m w_Outcome_CONFORMS w_Outcome_VIOLATES) k
  obtain ⟨cq1, kq1, q1a, q1b, q1c⟩ := isOf hZ e0 E_w_Outcome_CONFORMS
  obtain ⟨_, _, ⟨T1, L1, k1, n1⟩, -, X1, ⟨Lc1, hQ1, l1, y1, z1⟩, st1⟩ := X0.virtualBackUp hx (x := (⟨"com/example/shapewell/shapewell/Outcome", "compareTo", "(Ljava/lang/Enum;)I"⟩ : MethodName)) (y := (⟨"java/lang/Enum", "compareTo", "(Ljava/lang/Enum;)I"⟩ : MethodName)) hown (mvT hZ (hw _ (List.mem_of_getElem? (i := 16) rfl))) (mvT hZ (hw _ (List.mem_of_getElem? (i := 17) rfl))) (mvT hZ (hw _ (List.mem_of_getElem? (i := 18) rfl))) (by decide) (mvT hZ (hw _ (List.mem_of_getElem? (i := 20) rfl))) (mvT hZ (hw _ (List.mem_of_getElem? (i := 19) rfl))) (backOf (W := 0) (rm2_12 l Z a0 hw [] w_Outcome_VIOLATES w_Outcome_CONFORMS mr_Outcome h0 n0 Z0 E_w_Outcome_CONFORMS M_mr_Outcome E_w_Outcome_VIOLATES F_w_Outcome_CONFORMS_ordinal F_w_Outcome_VIOLATES_ordinal) hZ (hw _ (List.mem_of_getElem? (i := 22) rfl)) (hw _ (List.mem_of_getElem? (i := 21) rfl)) (by decide) (by decide)) q1a q1c (g := (mkF m 2 #[rv w_Outcome_CONFORMS, rv w_Outcome_VIOLATES] [(.ref w_Outcome_VIOLATES), (.ref w_Outcome_CONFORMS)])) rfl (by rw [hml]; rfl) (Steps.refl _) (argsL := [(.ref w_Outcome_VIOLATES)]) (rest := []) (lenOf pd_0 rfl) rfl (by show 2 * 0 + _ ≤ _; exact Nat.le_of_eq rfl) (hb hby d1_2) (fun _ _ => ⟨rfl, e0, (by decide : 0 + 0 ≤ _), (by decide : 0 + 0 ≤ _)⟩)
  dsimp only [Pt.U, Pt.locs, Pt.cells, Pt.slots] at X1 l1 y1 z1 st1 hQ1
  subst l1 y1 z1
  obtain ⟨rfl, N1q, e1⟩ := hQ1
  have N1 := Fr.app N0 N1q
  obtain ⟨fs, hr, hrun, hended, hW, hsame⟩ := X1.leave (v := (some (.ref w_Outcome_VIOLATES))) (fun h => by rw [Bd.returns] at h; cases h)
  refine ⟨_, _, pre0 _ ?_, hrun, hended, _, _, rfl, ?_, ⟨_, rfl⟩, hW, hsame.mono (by decide) (by decide)⟩
  · show Steps p.tables e below (s₁.setTop (mkF m 0 #[rv w_Outcome_CONFORMS, rv w_Outcome_VIOLATES] [])) _
    refine XS.aloadN X0.here hx rfl (hb hby d1_0) rfl rfl ?_
    show Steps p.tables e below (s₁.setTop (mkF m 1 #[rv w_Outcome_CONFORMS, rv w_Outcome_VIOLATES] [(.ref w_Outcome_CONFORMS)])) _
    refine XS.aloadN X0.here hx rfl (hb hby d1_1) rfl rfl ?_
    show Steps p.tables e below (s₁.setTop (mkF m 2 #[rv w_Outcome_CONFORMS, rv w_Outcome_VIOLATES] [(.ref w_Outcome_VIOLATES), (.ref w_Outcome_CONFORMS)])) _
    refine st1.trans ?_
    show Steps p.tables e below (T1.setTop (mkF m 5 #[rv w_Outcome_CONFORMS, rv w_Outcome_VIOLATES] [(.int (2 : Int32))])) _
    refine XS.ifYes X1.here hx rfl (pc0 := 5) (pc' := 12) rfl (hb hby d1_5) rfl ((if0 _ _).trans (tlt (by decide +kernel : (0 : Int32) < (2 : Int32))).2.2.1) (by decide) (by decide) ?_
    show Steps p.tables e below (T1.setTop (mkF m 12 #[rv w_Outcome_CONFORMS, rv w_Outcome_VIOLATES] [])) _
    refine XS.aloadN X1.here hx rfl (hb hby d1_12) rfl rfl ?_
    show Steps p.tables e below (T1.setTop (mkF m 13 #[rv w_Outcome_CONFORMS, rv w_Outcome_VIOLATES] [(.ref w_Outcome_VIOLATES)])) _
    exact own_retA X1 hx Bd.returns rfl rfl (hb hby d1_13) hr
  · exact ⟨rfl, N1, e1⟩
set_option maxRecDepth 65536 in
set_option maxHeartbeats 40000000 in
theorem rm0_6 (l : Launch) (Z : State) (a0 : Array Value) (hw : ∀ d ∈ tables_1, d.before a0 Z = true) (ws : List Jvm.Cond) (p0 : Int32) (p1 : Int32) (w_Outcome_VIOLATES : Addr) (w_Outcome_UNDETERMINED : Addr) (w_Outcome_CONFORMS : Addr) (mr_Outcome : Addr) (h0 : Heap) (n0 : Nat) (Z0 : n0 ≤ h0.size) (S_Outcome_VIOLATES : Sta Z h0 "com/example/shapewell/shapewell/Outcome" "VIOLATES" "Lcom/example/shapewell/shapewell/Outcome;" (.ref w_Outcome_VIOLATES)) (E_w_Outcome_VIOLATES : Exa Z h0 w_Outcome_VIOLATES "com/example/shapewell/shapewell/Outcome") (S_Outcome_UNDETERMINED : Sta Z h0 "com/example/shapewell/shapewell/Outcome" "UNDETERMINED" "Lcom/example/shapewell/shapewell/Outcome;" (.ref w_Outcome_UNDETERMINED)) (E_w_Outcome_UNDETERMINED : Exa Z h0 w_Outcome_UNDETERMINED "com/example/shapewell/shapewell/Outcome") (S_Outcome_CONFORMS : Sta Z h0 "com/example/shapewell/shapewell/Outcome" "CONFORMS" "Lcom/example/shapewell/shapewell/Outcome;" (.ref w_Outcome_CONFORMS)) (E_w_Outcome_CONFORMS : Exa Z h0 w_Outcome_CONFORMS "com/example/shapewell/shapewell/Outcome") (hk0 : ((p0 &&& (2147483647 : Int32)) % (3 : Int32)) = (2 : Int32)) (hk1 : ((p1 &&& (2147483647 : Int32)) % (3 : Int32)) = (0 : Int32)) (M_mr_Outcome : own_Mir Z "com/example/shapewell/shapewell/Outcome" mr_Outcome) (F_w_Outcome_CONFORMS_ordinal : Fld Z h0 w_Outcome_CONFORMS "java/lang/Enum" "ordinal" "I" (.int (2 : Int32))) (F_w_Outcome_VIOLATES_ordinal : Fld Z h0 w_Outcome_VIOLATES "java/lang/Enum" "ordinal" "I" (.int (0 : Int32))) (ne_w_Outcome_CONFORMS_w_Outcome_VIOLATES : ¬ (w_Outcome_CONFORMS = w_Outcome_VIOLATES)) :
    MetFree l x (head1 (Jvm.Cond.code x code maxLocals ret :: ws) room_1) (fun a U => a = #[(.int p0), (.int p1)] ∧ Z.Warmed39 U.vm ∧ U.heap = h0) (fun _ _ _ _ _ => True) (fun _ U o U' => ∃ v L, o = .returned v ∧ own_QL n0 v U'.heap L ∧ FrameEnd U o U' L room_1.cells room_1.slots) := by
  refine MetFree.of_bodySF (plainFor_of_name pn_2) hisR ?_
  intro p e s m args below meth c s₁ Bd hml0 hP hK
  obtain ⟨rfl, hZ, hh⟩ := hP
  have hx := Bd.exec
  have hby := Bd.bytes
  have hml : c.maxLocals = 7 := hml0
  have hown : s.vm.findClass "com/example/shapewell/shapewell/OutcomeAndPinLaw" = some m.cls := findClass_of_methodNamed Bd.named
  have hnm := (name_of_methodNamed Bd.named Bd.method).1
  have X0 : Stand p l e room_1 s m #[(.int p0), (.int p1)] below meth c s₁ [] 0 0 := Stand.of_body Bd
  have e0 : s₁.heap = h0 := by rw [← hh, Bd.state]; rfl
  have N0 := Fr.nil n0
  have pre0 : ∀ t, Steps p.tables e below (s₁.setTop (mkF m 0 #[iv p0, iv p1, .unset, .unset, .unset, .unset, .unset] [])) t → Steps p.tables e below (s₁.setTop (entryFrame m #[(.int p0), (.int p1)] maxLocals)) t := fun t k => castTop (ef_0_II m p0 p1) k
  obtain ⟨T1, h1, k0_1, X1, e1, E1, A1, O1, st1⟩ := newR X0 hx hZ hown (hw _ (List.mem_of_getElem? (i := 0) rfl)) (hw _ (List.mem_of_getElem? (i := 1) rfl)) e0 (g := (mkF m 1 #[iv p0, iv p1, .unset, .unset, .unset, .unset, .unset] [(.int (3 : Int32))])) rfl (hb hby at_1) rfl (by decide) (cap := 3) (by decide) (by decide) (by decide) (by decide)
  obtain ⟨b0_1, gg1⟩ : ∃ z, z = h0.size := ⟨_, rfl⟩
  rw [← gg1] at A1 st1
  have g_b0_1 : n0 ≤ b0_1 := Nat.le_trans Z0 (Nat.le_of_eq gg1.symm)
  have sz_b0_1 : h0.size ≤ b0_1 := Nat.le_trans (Keep.refl h0 []).1 (Nat.le_of_eq gg1.symm)
  have Z1 : n0 ≤ h1.size := Nat.le_trans Z0 E1.1
  have KK1 : Keep h0 h1 [] := (Keep.refl h0 []).ext E1
  have V_b0_1 : Arv Z h1 b0_1 k0_1 (.object "com/example/shapewell/shapewell/Outcome") (3 : Int32) [.null, .null, .null] .null := (Arv.new A1 (by decide)).pad (pad_rep [] .null 3)
  have c2 := (S_Outcome_VIOLATES.ext E1)
  obtain ⟨T3, X3, e3, st3⟩ := getS2 X1 hx hZ hown (host := "") (Or.inl (hw _ (List.mem_of_getElem? (i := 2) rfl))) Via.refl e1 c2 (g := (mkF m 6 #[iv p0, iv p1, .unset, .unset, .unset, .unset, .unset] [(.int (0 : Int32)), (.ref b0_1), (.ref b0_1)])) rfl (hb hby at_6)
  obtain ⟨cl4, Ar4, qq4, Sz4, Nn4, Hs4, Gs4⟩ := id V_b0_1
  have hin4 : ¬ ((0 : Int32) < 0 ∨ cl4.slots.size ≤ ((0 : Int32)).toNatClampNeg) := inb_of Sz4 ⟨by decide, by decide⟩
  have c5 := (E_w_Outcome_VIOLATES.ext E1)
  obtain ⟨T6, h6, X6, e6, W6, st6⟩ := stR X3 hx hZ e3 Ar4 (j := (0 : Int32)) hin4 rfl (Sto.ofV Ar4 qq4 O1 (Ins.self c5)) (g := (mkF m 9 #[iv p0, iv p1, .unset, .unset, .unset, .unset, .unset] [(.ref w_Outcome_VIOLATES), (.int (0 : Int32)), (.ref b0_1), (.ref b0_1)])) rfl rfl (hb hby at_9)
  have vb6 : Arv Z h6 b0_1 k0_1 (.object "com/example/shapewell/shapewell/Outcome") (3 : Int32) [(.ref w_Outcome_VIOLATES), .null, .null] .null := Arv.set Ar4 qq4 Sz4 Nn4 Hs4 Gs4 rfl W6 0 rfl (Nat.le_of_ble_eq_true rfl)
  have Z6 : n0 ≤ h6.size := Nat.le_trans Z1 (Keep.of_wr W6).1
  have KK6 : Keep h0 h6 [] := KK1.wr W6 (Or.inr sz_b0_1)
  have N6 := Fr.snoc X6 N0 g_b0_1
  have c7 := ((S_Outcome_UNDETERMINED.ext E1).wr W6)
  obtain ⟨T8, X8, e8, st8⟩ := getS2 X6 hx hZ hown (host := "") (Or.inl (hw _ (List.mem_of_getElem? (i := 6) rfl))) Via.refl e6 c7 (g := (mkF m 12 #[iv p0, iv p1, .unset, .unset, .unset, .unset, .unset] [(.int (1 : Int32)), (.ref b0_1), (.ref b0_1)])) rfl (hb hby at_12)
  obtain ⟨cl9, Ar9, qq9, Sz9, Nn9, Hs9, Gs9⟩ := id vb6
  have hin9 : ¬ ((1 : Int32) < 0 ∨ cl9.slots.size ≤ ((1 : Int32)).toNatClampNeg) := inb_of Sz9 ⟨by decide, by decide⟩
  have c10 := ((E_w_Outcome_UNDETERMINED.ext E1).wr W6)
  obtain ⟨T11, h11, X11, e11, W11, st11⟩ := stR X8 hx hZ e8 Ar9 (j := (1 : Int32)) hin9 rfl (Sto.ofV Ar9 qq9 O1 (Ins.self c10)) (g := (mkF m 15 #[iv p0, iv p1, .unset, .unset, .unset, .unset, .unset] [(.ref w_Outcome_UNDETERMINED), (.int (1 : Int32)), (.ref b0_1), (.ref b0_1)])) rfl rfl (hb hby at_15)
  have vb11 : Arv Z h11 b0_1 k0_1 (.object "com/example/shapewell/shapewell/Outcome") (3 : Int32) [(.ref w_Outcome_VIOLATES), (.ref w_Outcome_UNDETERMINED), .null] .null := Arv.set Ar9 qq9 Sz9 Nn9 Hs9 Gs9 rfl W11 1 rfl (Nat.le_of_ble_eq_true rfl)
  have Z11 : n0 ≤ h11.size := Nat.le_trans Z6 (Keep.of_wr W11).1
  have KK11 : Keep h0 h11 [] := KK6.wr W11 (Or.inr sz_b0_1)
  have N11 := Fr.snoc X11 N6 g_b0_1
  have c12 := (((S_Outcome_CONFORMS.ext E1).wr W6).wr W11)
  obtain ⟨T13, X13, e13, st13⟩ := getS2 X11 hx hZ hown (host := "") (Or.inl (hw _ (List.mem_of_getElem? (i := 8) rfl))) Via.refl e11 c12 (g := (mkF m 18 #[iv p0, iv p1, .unset, .unset, .unset, .unset, .unset] [(.int (2 : Int32)), (.ref b0_1), (.ref b0_1)])) rfl (hb hby at_18)
  obtain ⟨cl14, Ar14, qq14, Sz14, Nn14, Hs14, Gs14⟩ := id vb11
  have hin14 : ¬ ((2 : Int32) < 0 ∨ cl14.slots.size ≤ ((2 : Int32)).toNatClampNeg) := inb_of Sz14 ⟨by decide, by decide⟩
  have c15 := (((E_w_Outcome_CONFORMS.ext E1).wr W6).wr W11)
  obtain ⟨T16, h16, X16, e16, W16, st16⟩ := stR X13 hx hZ e13 Ar14 (j := (2 : Int32)) hin14 rfl (Sto.ofV Ar14 qq14 O1 (Ins.self c15)) (g := (mkF m 21 #[iv p0, iv p1, .unset, .unset, .unset, .unset, .unset] [(.ref w_Outcome_CONFORMS), (.int (2 : Int32)), (.ref b0_1), (.ref b0_1)])) rfl rfl (hb hby at_21)
  have vb16 : Arv Z h16 b0_1 k0_1 (.object "com/example/shapewell/shapewell/Outcome") (3 : Int32) [(.ref w_Outcome_VIOLATES), (.ref w_Outcome_UNDETERMINED), (.ref w_Outcome_CONFORMS)] .null := Arv.set Ar14 qq14 Sz14 Nn14 Hs14 Gs14 rfl W16 2 rfl (Nat.le_of_ble_eq_true rfl)
  have Z16 : n0 ≤ h16.size := Nat.le_trans Z11 (Keep.of_wr W16).1
  have KK16 : Keep h0 h16 [] := KK11.wr W16 (Or.inr sz_b0_1)
  have N16 := Fr.snoc X16 N11 g_b0_1
  obtain ⟨cl17, Ar17, -, Sz17, Nn17, Hs17, Gs17⟩ := id vb16
  have hin17 : ¬ ((2 : Int32) < 0 ∨ cl17.slots.size ≤ ((2 : Int32)).toNatClampNeg) := inb_of Sz17 ⟨by decide, by decide⟩
  obtain ⟨cl18, Ar18, -, Sz18, Nn18, Hs18, Gs18⟩ := id vb16
  have hin18 : ¬ ((0 : Int32) < 0 ∨ cl18.slots.size ≤ ((0 : Int32)).toNatClampNeg) := inb_of Sz18 ⟨by decide, by decide⟩
  have c20 := (c15.wr W16)
  have c21 := (((c5.wr W6).wr W11).wr W16)
  have ne_b0_1_w_Outcome_CONFORMS_22 : ¬ (b0_1 = w_Outcome_CONFORMS) := (Ne.symm (Nat.ne_of_lt (Nat.lt_of_lt_of_le (E_w_Outcome_CONFORMS).lt (Nat.le_of_eq gg1.symm))))
  have c23 := ((((F_w_Outcome_CONFORMS_ordinal.ext E1).other W6 (Or.inl (Ne.symm ne_b0_1_w_Outcome_CONFORMS_22))).other W11 (Or.inl (Ne.symm ne_b0_1_w_Outcome_CONFORMS_22))).other W16 (Or.inl (Ne.symm ne_b0_1_w_Outcome_CONFORMS_22)))
  have ne_b0_1_w_Outcome_VIOLATES_24 : ¬ (b0_1 = w_Outcome_VIOLATES) := (Ne.symm (Nat.ne_of_lt (Nat.lt_of_lt_of_le (E_w_Outcome_VIOLATES).lt (Nat.le_of_eq gg1.symm))))
  have c25 := ((((F_w_Outcome_VIOLATES_ordinal.ext E1).other W6 (Or.inl (Ne.symm ne_b0_1_w_Outcome_VIOLATES_24))).other W11 (Or.inl (Ne.symm ne_b0_1_w_Outcome_VIOLATES_24))).other W16 (Or.inl (Ne.symm ne_b0_1_w_Outcome_VIOLATES_24)))
  obtain ⟨cq19, kq19, q19a, q19b, q19c⟩ := isOf hZ e16 c20
  obtain ⟨_, _, ⟨T19, L19, k19, n19⟩, -, X19, ⟨Lc19, hQ19, l19, y19, z19⟩, st19⟩ := X16.virtualBack hx (y := (⟨"com/example/shapewell/shapewell/Outcome", "and", "(Lcom/example/shapewell/shapewell/Outcome;)Lcom/example/shapewell/shapewell/Outcome;"⟩ : MethodName)) (z := (⟨"com/example/shapewell/shapewell/Outcome", "and", "(Lcom/example/shapewell/shapewell/Outcome;)Lcom/example/shapewell/shapewell/Outcome;"⟩ : MethodName)) hown (mvT hZ (hw _ (List.mem_of_getElem? (i := 11) rfl))) (mvT hZ (hw _ (List.mem_of_getElem? (i := 12) rfl))) (notFace_of_selects (args := #[]) (mvT hZ (hw _ (List.mem_of_getElem? (i := 14) rfl)))) (mvT hZ (hw _ (List.mem_of_getElem? (i := 14) rfl))) (mvT hZ (hw _ (List.mem_of_getElem? (i := 13) rfl))) (by decide) (backOf (W := 0) (rm1_12 l Z a0 hw [] w_Outcome_VIOLATES w_Outcome_CONFORMS mr_Outcome h16 n0 Z16 c20 M_mr_Outcome c21 c23 c25) hZ (hw _ (List.mem_of_getElem? (i := 15) rfl)) (hw _ (List.mem_of_getElem? (i := 3) rfl)) (by decide) (by decide)) q19a q19c (g := (mkF m 45 #[iv p0, iv p1, rv b0_1, rv w_Outcome_CONFORMS, rv w_Outcome_VIOLATES, .unset, .unset] [(.ref w_Outcome_VIOLATES), (.ref w_Outcome_CONFORMS)])) rfl (by rw [hml]; rfl) (Steps.refl _) (argsL := [(.ref w_Outcome_VIOLATES)]) (rest := []) (lenOf pd_1 rfl) rfl (by show 2 * 0 + _ ≤ _; exact Nat.le_of_eq rfl) (hb hby at_45) (fun _ _ => ⟨rfl, e16, (by decide : 1 + 0 ≤ _), (by decide : 3 + 0 ≤ _)⟩)
  dsimp only [Pt.U, Pt.locs, Pt.cells, Pt.slots] at X19 l19 y19 z19 st19 hQ19
  subst l19 y19 z19
  obtain ⟨rfl, N19q, e19⟩ := hQ19
  have N19 := Fr.app N16 N19q
  have c26 := (((c2.wr W6).wr W11).wr W16)
  obtain ⟨T27, X27, e27, st27⟩ := getS2 X19 hx hZ hown (host := "") (Or.inl (hw _ (List.mem_of_getElem? (i := 2) rfl))) Via.refl e19 c26 (g := (mkF m 51 #[iv p0, iv p1, rv b0_1, rv w_Outcome_CONFORMS, rv w_Outcome_VIOLATES, rv w_Outcome_VIOLATES, .unset] [(.ref w_Outcome_CONFORMS)])) rfl (hb hby at_51)
  obtain ⟨T28, X28, e28, st28⟩ := getS2 X27 hx hZ hown (host := "") (Or.inl (hw _ (List.mem_of_getElem? (i := 2) rfl))) Via.refl e27 c26 (g := (mkF m 59 #[iv p0, iv p1, rv b0_1, rv w_Outcome_CONFORMS, rv w_Outcome_VIOLATES, rv w_Outcome_VIOLATES, .unset] [(.ref w_Outcome_VIOLATES)])) rfl (hb hby at_59)
  obtain ⟨T29, X29, e29, st29⟩ := getS2 X28 hx hZ hown (host := "") (Or.inl (hw _ (List.mem_of_getElem? (i := 2) rfl))) Via.refl e28 c26 (g := (mkF m 65 #[iv p0, iv p1, rv b0_1, rv w_Outcome_CONFORMS, rv w_Outcome_VIOLATES, rv w_Outcome_VIOLATES, .unset] [])) rfl (hb hby at_65)
  obtain ⟨fs, hr, hrun, hended, hW, hsame⟩ := X29.leave (v := (some (.int (1 : Int32)))) (fun h => by rw [Bd.returns] at h; cases h)
  refine ⟨_, _, pre0 _ ?_, hrun, hended, _, _, rfl, ?_, ⟨_, rfl⟩, hW, hsame.mono (by decide) (by decide)⟩
  · show Steps p.tables e below (s₁.setTop (mkF m 0 #[iv p0, iv p1, .unset, .unset, .unset, .unset, .unset] [])) _
    refine XS.iconst X0.here hx rfl (hb hby at_0) ?_
    show Steps p.tables e below (s₁.setTop (mkF m 1 #[iv p0, iv p1, .unset, .unset, .unset, .unset, .unset] [(.int (3 : Int32))])) _
    refine st1 _ ?_
    show Steps p.tables e below (T1.setTop (mkF m 4 #[iv p0, iv p1, .unset, .unset, .unset, .unset, .unset] [(.ref b0_1)])) _
    refine XS.dup X1.here hx rfl (hb hby at_4) rfl rfl ?_
    show Steps p.tables e below (T1.setTop (mkF m 5 #[iv p0, iv p1, .unset, .unset, .unset, .unset, .unset] [(.ref b0_1), (.ref b0_1)])) _
    refine XS.iconst X1.here hx rfl (hb hby at_5) ?_
    show Steps p.tables e below (T1.setTop (mkF m 6 #[iv p0, iv p1, .unset, .unset, .unset, .unset, .unset] [(.int (0 : Int32)), (.ref b0_1), (.ref b0_1)])) _
    refine st3 _ ?_
    show Steps p.tables e below (T3.setTop (mkF m 9 #[iv p0, iv p1, .unset, .unset, .unset, .unset, .unset] [(.ref w_Outcome_VIOLATES), (.int (0 : Int32)), (.ref b0_1), (.ref b0_1)])) _
    refine st6 _ ?_
    show Steps p.tables e below (T6.setTop (mkF m 10 #[iv p0, iv p1, .unset, .unset, .unset, .unset, .unset] [(.ref b0_1)])) _
    refine XS.dup X6.here hx rfl (hb hby at_10) rfl rfl ?_
    show Steps p.tables e below (T6.setTop (mkF m 11 #[iv p0, iv p1, .unset, .unset, .unset, .unset, .unset] [(.ref b0_1), (.ref b0_1)])) _
    refine XS.iconst X6.here hx rfl (hb hby at_11) ?_
    show Steps p.tables e below (T6.setTop (mkF m 12 #[iv p0, iv p1, .unset, .unset, .unset, .unset, .unset] [(.int (1 : Int32)), (.ref b0_1), (.ref b0_1)])) _
    refine st8 _ ?_
    show Steps p.tables e below (T8.setTop (mkF m 15 #[iv p0, iv p1, .unset, .unset, .unset, .unset, .unset] [(.ref w_Outcome_UNDETERMINED), (.int (1 : Int32)), (.ref b0_1), (.ref b0_1)])) _
    refine st11 _ ?_
    show Steps p.tables e below (T11.setTop (mkF m 16 #[iv p0, iv p1, .unset, .unset, .unset, .unset, .unset] [(.ref b0_1)])) _
    refine XS.dup X11.here hx rfl (hb hby at_16) rfl rfl ?_
    show Steps p.tables e below (T11.setTop (mkF m 17 #[iv p0, iv p1, .unset, .unset, .unset, .unset, .unset] [(.ref b0_1), (.ref b0_1)])) _
    refine XS.iconst X11.here hx rfl (hb hby at_17) ?_
    show Steps p.tables e below (T11.setTop (mkF m 18 #[iv p0, iv p1, .unset, .unset, .unset, .unset, .unset] [(.int (2 : Int32)), (.ref b0_1), (.ref b0_1)])) _
    refine st13 _ ?_
    show Steps p.tables e below (T13.setTop (mkF m 21 #[iv p0, iv p1, .unset, .unset, .unset, .unset, .unset] [(.ref w_Outcome_CONFORMS), (.int (2 : Int32)), (.ref b0_1), (.ref b0_1)])) _
    refine st16 _ ?_
    show Steps p.tables e below (T16.setTop (mkF m 22 #[iv p0, iv p1, .unset, .unset, .unset, .unset, .unset] [(.ref b0_1)])) _
    refine XS.astoreN X16.here hx rfl (hb hby at_22) rfl rfl (l' := #[iv p0, iv p1, rv b0_1, .unset, .unset, .unset, .unset]) rfl ?_
    show Steps p.tables e below (T16.setTop (mkF m 23 #[iv p0, iv p1, rv b0_1, .unset, .unset, .unset, .unset] [])) _
    refine XS.aloadN X16.here hx rfl (hb hby at_23) rfl rfl ?_
    show Steps p.tables e below (T16.setTop (mkF m 24 #[iv p0, iv p1, rv b0_1, .unset, .unset, .unset, .unset] [(.ref b0_1)])) _
    refine XS.iloadN X16.here hx rfl (hb hby at_24) rfl ?_
    show Steps p.tables e below (T16.setTop (mkF m 25 #[iv p0, iv p1, rv b0_1, .unset, .unset, .unset, .unset] [(.int p0), (.ref b0_1)])) _
    refine X16.ldcInt hx hown (mvT hZ (hw _ (List.mem_of_getElem? (i := 10) rfl))) (g := (mkF m 25 #[iv p0, iv p1, rv b0_1, .unset, .unset, .unset, .unset] [(.int p0), (.ref b0_1)])) rfl (hb hby at_25) _ ?_
    show Steps p.tables e below (T16.setTop (mkF m 27 #[iv p0, iv p1, rv b0_1, .unset, .unset, .unset, .unset] [(.int (2147483647 : Int32)), (.int p0), (.ref b0_1)])) _
    refine XS.iand X16.here hx rfl (hb hby at_27) rfl ?_
    show Steps p.tables e below (T16.setTop (mkF m 28 #[iv p0, iv p1, rv b0_1, .unset, .unset, .unset, .unset] [(.int (p0 &&& (2147483647 : Int32))), (.ref b0_1)])) _
    refine XS.iconst X16.here hx rfl (hb hby at_28) ?_
    show Steps p.tables e below (T16.setTop (mkF m 29 #[iv p0, iv p1, rv b0_1, .unset, .unset, .unset, .unset] [(.int (3 : Int32)), (.int (p0 &&& (2147483647 : Int32))), (.ref b0_1)])) _
    refine iremM X16 hx rfl (hb hby at_29) rfl (by decide) ?_
    show Steps p.tables e below (T16.setTop (mkF m 30 #[iv p0, iv p1, rv b0_1, .unset, .unset, .unset, .unset] [(.int ((p0 &&& (2147483647 : Int32)) % (3 : Int32))), (.ref b0_1)])) _
    rewrite [hk0]
    show Steps p.tables e below (T16.setTop (mkF m 30 #[iv p0, iv p1, rv b0_1, .unset, .unset, .unset, .unset] [(.int (2 : Int32)), (.ref b0_1)])) _
    refine X16.aaload hx (j := (2 : Int32)) (v := (.ref w_Outcome_CONFORMS)) (by rw [e16]; exact Ar17.1) (State.isArrayOf_alike hZ.alike Ar17.2.1) rfl Ar17.2.2 hin17 (Hs17.at hin17 rfl) (g := (mkF m 30 #[iv p0, iv p1, rv b0_1, .unset, .unset, .unset, .unset] [(.int (2 : Int32)), (.ref b0_1)])) rfl rfl (hb hby at_30) _ ?_
    show Steps p.tables e below (T16.setTop (mkF m 31 #[iv p0, iv p1, rv b0_1, .unset, .unset, .unset, .unset] [(.ref w_Outcome_CONFORMS)])) _
    refine XS.astoreN X16.here hx rfl (hb hby at_31) rfl rfl (l' := #[iv p0, iv p1, rv b0_1, rv w_Outcome_CONFORMS, .unset, .unset, .unset]) rfl ?_
    show Steps p.tables e below (T16.setTop (mkF m 32 #[iv p0, iv p1, rv b0_1, rv w_Outcome_CONFORMS, .unset, .unset, .unset] [])) _
    refine XS.aloadN X16.here hx rfl (hb hby at_32) rfl rfl ?_
    show Steps p.tables e below (T16.setTop (mkF m 33 #[iv p0, iv p1, rv b0_1, rv w_Outcome_CONFORMS, .unset, .unset, .unset] [(.ref b0_1)])) _
    refine XS.iloadN X16.here hx rfl (hb hby at_33) rfl ?_
    show Steps p.tables e below (T16.setTop (mkF m 34 #[iv p0, iv p1, rv b0_1, rv w_Outcome_CONFORMS, .unset, .unset, .unset] [(.int p1), (.ref b0_1)])) _
    refine X16.ldcInt hx hown (mvT hZ (hw _ (List.mem_of_getElem? (i := 10) rfl))) (g := (mkF m 34 #[iv p0, iv p1, rv b0_1, rv w_Outcome_CONFORMS, .unset, .unset, .unset] [(.int p1), (.ref b0_1)])) rfl (hb hby at_34) _ ?_
    show Steps p.tables e below (T16.setTop (mkF m 36 #[iv p0, iv p1, rv b0_1, rv w_Outcome_CONFORMS, .unset, .unset, .unset] [(.int (2147483647 : Int32)), (.int p1), (.ref b0_1)])) _
    refine XS.iand X16.here hx rfl (hb hby at_36) rfl ?_
    show Steps p.tables e below (T16.setTop (mkF m 37 #[iv p0, iv p1, rv b0_1, rv w_Outcome_CONFORMS, .unset, .unset, .unset] [(.int (p1 &&& (2147483647 : Int32))), (.ref b0_1)])) _
    refine XS.iconst X16.here hx rfl (hb hby at_37) ?_
    show Steps p.tables e below (T16.setTop (mkF m 38 #[iv p0, iv p1, rv b0_1, rv w_Outcome_CONFORMS, .unset, .unset, .unset] [(.int (3 : Int32)), (.int (p1 &&& (2147483647 : Int32))), (.ref b0_1)])) _
    refine iremM X16 hx rfl (hb hby at_38) rfl (by decide) ?_
    show Steps p.tables e below (T16.setTop (mkF m 39 #[iv p0, iv p1, rv b0_1, rv w_Outcome_CONFORMS, .unset, .unset, .unset] [(.int ((p1 &&& (2147483647 : Int32)) % (3 : Int32))), (.ref b0_1)])) _
    rewrite [hk1]
    show Steps p.tables e below (T16.setTop (mkF m 39 #[iv p0, iv p1, rv b0_1, rv w_Outcome_CONFORMS, .unset, .unset, .unset] [(.int (0 : Int32)), (.ref b0_1)])) _
    refine X16.aaload hx (j := (0 : Int32)) (v := (.ref w_Outcome_VIOLATES)) (by rw [e16]; exact Ar18.1) (State.isArrayOf_alike hZ.alike Ar18.2.1) rfl Ar18.2.2 hin18 (Hs18.at hin18 rfl) (g := (mkF m 39 #[iv p0, iv p1, rv b0_1, rv w_Outcome_CONFORMS, .unset, .unset, .unset] [(.int (0 : Int32)), (.ref b0_1)])) rfl rfl (hb hby at_39) _ ?_
    show Steps p.tables e below (T16.setTop (mkF m 40 #[iv p0, iv p1, rv b0_1, rv w_Outcome_CONFORMS, .unset, .unset, .unset] [(.ref w_Outcome_VIOLATES)])) _
    refine XS.astore X16.here hx rfl (hb hby at_40) rfl rfl (l' := #[iv p0, iv p1, rv b0_1, rv w_Outcome_CONFORMS, rv w_Outcome_VIOLATES, .unset, .unset]) rfl ?_
    show Steps p.tables e below (T16.setTop (mkF m 42 #[iv p0, iv p1, rv b0_1, rv w_Outcome_CONFORMS, rv w_Outcome_VIOLATES, .unset, .unset] [])) _
    refine XS.aloadN X16.here hx rfl (hb hby at_42) rfl rfl ?_
    show Steps p.tables e below (T16.setTop (mkF m 43 #[iv p0, iv p1, rv b0_1, rv w_Outcome_CONFORMS, rv w_Outcome_VIOLATES, .unset, .unset] [(.ref w_Outcome_CONFORMS)])) _
    refine XS.aload X16.here hx rfl (hb hby at_43) rfl rfl ?_
    show Steps p.tables e below (T16.setTop (mkF m 45 #[iv p0, iv p1, rv b0_1, rv w_Outcome_CONFORMS, rv w_Outcome_VIOLATES, .unset, .unset] [(.ref w_Outcome_VIOLATES), (.ref w_Outcome_CONFORMS)])) _
    refine st19.trans ?_
    show Steps p.tables e below (T19.setTop (mkF m 48 #[iv p0, iv p1, rv b0_1, rv w_Outcome_CONFORMS, rv w_Outcome_VIOLATES, .unset, .unset] [(.ref w_Outcome_VIOLATES)])) _
    refine XS.astore X19.here hx rfl (hb hby at_48) rfl rfl (l' := #[iv p0, iv p1, rv b0_1, rv w_Outcome_CONFORMS, rv w_Outcome_VIOLATES, rv w_Outcome_VIOLATES, .unset]) rfl ?_
    show Steps p.tables e below (T19.setTop (mkF m 50 #[iv p0, iv p1, rv b0_1, rv w_Outcome_CONFORMS, rv w_Outcome_VIOLATES, rv w_Outcome_VIOLATES, .unset] [])) _
    refine XS.aloadN X19.here hx rfl (hb hby at_50) rfl rfl ?_
    show Steps p.tables e below (T19.setTop (mkF m 51 #[iv p0, iv p1, rv b0_1, rv w_Outcome_CONFORMS, rv w_Outcome_VIOLATES, rv w_Outcome_VIOLATES, .unset] [(.ref w_Outcome_CONFORMS)])) _
    refine st27 _ ?_
    show Steps p.tables e below (T27.setTop (mkF m 54 #[iv p0, iv p1, rv b0_1, rv w_Outcome_CONFORMS, rv w_Outcome_VIOLATES, rv w_Outcome_VIOLATES, .unset] [(.ref w_Outcome_VIOLATES), (.ref w_Outcome_CONFORMS)])) _
    refine Jvm.RoadKit.acmp (g := (mkF m 54 #[iv p0, iv p1, rv b0_1, rv w_Outcome_CONFORMS, rv w_Outcome_VIOLATES, rv w_Outcome_VIOLATES, .unset] [(.ref w_Outcome_VIOLATES), (.ref w_Outcome_CONFORMS)])) X27 hx rfl rfl rfl (pc0 := 54) (pc' := 57) (same := false) rfl (hb hby at_54) rfl (decide_eq_false fun q => ne_w_Outcome_CONFORMS_w_Outcome_VIOLATES (Value.ref.inj q)) (by decide) (by decide) ?_
    show Steps p.tables e below (T27.setTop (mkF m 57 #[iv p0, iv p1, rv b0_1, rv w_Outcome_CONFORMS, rv w_Outcome_VIOLATES, rv w_Outcome_VIOLATES, .unset] [])) _
    refine XS.aload X27.here hx rfl (hb hby at_57) rfl rfl ?_
    show Steps p.tables e below (T27.setTop (mkF m 59 #[iv p0, iv p1, rv b0_1, rv w_Outcome_CONFORMS, rv w_Outcome_VIOLATES, rv w_Outcome_VIOLATES, .unset] [(.ref w_Outcome_VIOLATES)])) _
    refine st28 _ ?_
    show Steps p.tables e below (T28.setTop (mkF m 62 #[iv p0, iv p1, rv b0_1, rv w_Outcome_CONFORMS, rv w_Outcome_VIOLATES, rv w_Outcome_VIOLATES, .unset] [(.ref w_Outcome_VIOLATES), (.ref w_Outcome_VIOLATES)])) _
    refine Jvm.RoadKit.acmp (g := (mkF m 62 #[iv p0, iv p1, rv b0_1, rv w_Outcome_CONFORMS, rv w_Outcome_VIOLATES, rv w_Outcome_VIOLATES, .unset] [(.ref w_Outcome_VIOLATES), (.ref w_Outcome_VIOLATES)])) X28 hx rfl rfl rfl (pc0 := 62) (pc' := 65) (same := true) rfl (hb hby at_62) rfl (decide_eq_true rfl) (by decide) (by decide) ?_
    show Steps p.tables e below (T28.setTop (mkF m 65 #[iv p0, iv p1, rv b0_1, rv w_Outcome_CONFORMS, rv w_Outcome_VIOLATES, rv w_Outcome_VIOLATES, .unset] [])) _
    refine st29 _ ?_
    show Steps p.tables e below (T29.setTop (mkF m 68 #[iv p0, iv p1, rv b0_1, rv w_Outcome_CONFORMS, rv w_Outcome_VIOLATES, rv w_Outcome_VIOLATES, .unset] [(.ref w_Outcome_VIOLATES)])) _
    refine XS.astore X29.here hx rfl (hb hby at_68) rfl rfl (l' := #[iv p0, iv p1, rv b0_1, rv w_Outcome_CONFORMS, rv w_Outcome_VIOLATES, rv w_Outcome_VIOLATES, rv w_Outcome_VIOLATES]) rfl ?_
    show Steps p.tables e below (T29.setTop (mkF m 70 #[iv p0, iv p1, rv b0_1, rv w_Outcome_CONFORMS, rv w_Outcome_VIOLATES, rv w_Outcome_VIOLATES, rv w_Outcome_VIOLATES] [])) _
    refine XS.goto X29.here hx rfl (pc0 := 70) (pc' := 101) rfl (hb hby at_70) (by decide) (by decide) ?_
    show Steps p.tables e below (T29.setTop (mkF m 101 #[iv p0, iv p1, rv b0_1, rv w_Outcome_CONFORMS, rv w_Outcome_VIOLATES, rv w_Outcome_VIOLATES, rv w_Outcome_VIOLATES] [])) _
    refine XS.aload X29.here hx rfl (hb hby at_101) rfl rfl ?_
    show Steps p.tables e below (T29.setTop (mkF m 103 #[iv p0, iv p1, rv b0_1, rv w_Outcome_CONFORMS, rv w_Outcome_VIOLATES, rv w_Outcome_VIOLATES, rv w_Outcome_VIOLATES] [(.ref w_Outcome_VIOLATES)])) _
    refine XS.aload X29.here hx rfl (hb hby at_103) rfl rfl ?_
    show Steps p.tables e below (T29.setTop (mkF m 105 #[iv p0, iv p1, rv b0_1, rv w_Outcome_CONFORMS, rv w_Outcome_VIOLATES, rv w_Outcome_VIOLATES, rv w_Outcome_VIOLATES] [(.ref w_Outcome_VIOLATES), (.ref w_Outcome_VIOLATES)])) _
    refine Jvm.RoadKit.acmp (g := (mkF m 105 #[iv p0, iv p1, rv b0_1, rv w_Outcome_CONFORMS, rv w_Outcome_VIOLATES, rv w_Outcome_VIOLATES, rv w_Outcome_VIOLATES] [(.ref w_Outcome_VIOLATES), (.ref w_Outcome_VIOLATES)])) X29 hx rfl rfl rfl (pc0 := 105) (pc' := 108) (same := true) rfl (hb hby at_105) rfl (decide_eq_true rfl) (by decide) (by decide) ?_
    show Steps p.tables e below (T29.setTop (mkF m 108 #[iv p0, iv p1, rv b0_1, rv w_Outcome_CONFORMS, rv w_Outcome_VIOLATES, rv w_Outcome_VIOLATES, rv w_Outcome_VIOLATES] [])) _
    refine XS.iconst X29.here hx rfl (hb hby at_108) ?_
    show Steps p.tables e below (T29.setTop (mkF m 109 #[iv p0, iv p1, rv b0_1, rv w_Outcome_CONFORMS, rv w_Outcome_VIOLATES, rv w_Outcome_VIOLATES, rv w_Outcome_VIOLATES] [(.int (1 : Int32))])) _
    refine XS.goto X29.here hx rfl (pc0 := 109) (pc' := 113) rfl (hb hby at_109) (by decide) (by decide) ?_
    show Steps p.tables e below (T29.setTop (mkF m 113 #[iv p0, iv p1, rv b0_1, rv w_Outcome_CONFORMS, rv w_Outcome_VIOLATES, rv w_Outcome_VIOLATES, rv w_Outcome_VIOLATES] [(.int (1 : Int32))])) _
    exact retN X29 hx (t := .boolean) Bd.returns (by simp) (hb hby at_113) hr
  · exact ⟨rfl, N19⟩
set_option maxRecDepth 65536 in
set_option maxHeartbeats 40000000 in
theorem rm2_14 (l : Launch) (Z : State) (a0 : Array Value) (hw : ∀ d ∈ tables_1, d.before a0 Z = true) (ws : List Jvm.Cond) (w_Outcome_UNDETERMINED : Addr) (w_Outcome_CONFORMS : Addr) (mr_Outcome : Addr) (h0 : Heap) (n0 : Nat) (Z0 : n0 ≤ h0.size) (E_w_Outcome_CONFORMS : Exa Z h0 w_Outcome_CONFORMS "com/example/shapewell/shapewell/Outcome") (M_mr_Outcome : own_Mir Z "com/example/shapewell/shapewell/Outcome" mr_Outcome) (E_w_Outcome_UNDETERMINED : Exa Z h0 w_Outcome_UNDETERMINED "com/example/shapewell/shapewell/Outcome") (F_w_Outcome_CONFORMS_ordinal : Fld Z h0 w_Outcome_CONFORMS "java/lang/Enum" "ordinal" "I" (.int (2 : Int32))) (F_w_Outcome_UNDETERMINED_ordinal : Fld Z h0 w_Outcome_UNDETERMINED "java/lang/Enum" "ordinal" "I" (.int (1 : Int32))) :
    MetFree l (⟨"java/lang/Enum", "compareTo", "(Ljava/lang/Enum;)I"⟩ : MethodName) (head1 (Jvm.Cond.code (⟨"java/lang/Enum", "compareTo", "(Ljava/lang/Enum;)I"⟩ : MethodName) jdk_37_method_8_code 4 (some .int) :: ws) ({ frames := 1, cells := 0, slots := 0, locals := 15 } : Room)) (fun a U => a = #[(.ref w_Outcome_CONFORMS), (.ref w_Outcome_UNDETERMINED)] ∧ Z.Warmed39 U.vm ∧ U.heap = h0) (fun _ _ _ _ _ => True) (fun _ U o U' => ∃ v L, o = .returned v ∧ own_QP (some (.int (1 : Int32))) h0 n0 v U'.heap L ∧ FrameEnd U o U' L ({ frames := 1, cells := 0, slots := 0, locals := 15 } : Room).cells ({ frames := 1, cells := 0, slots := 0, locals := 15 } : Room).slots) := by
  refine MetFree.of_bodySF (plainFor_of_name pn_0) hisR ?_
  intro p e s m args below meth c s₁ Bd hml0 hP hK
  obtain ⟨rfl, hZ, hh⟩ := hP
  have hx := Bd.exec
  have hby := Bd.bytes
  have hml : c.maxLocals = 4 := hml0
  have hown : s.vm.findClass "java/lang/Enum" = some m.cls := findClass_of_methodNamed Bd.named
  have hnm := (name_of_methodNamed Bd.named Bd.method).1
  have X0 : Stand p l e ({ frames := 1, cells := 0, slots := 0, locals := 15 } : Room) s m #[(.ref w_Outcome_CONFORMS), (.ref w_Outcome_UNDETERMINED)] below meth c s₁ [] 0 0 := Stand.of_body Bd
  have e0 : s₁.heap = h0 := by rw [← hh, Bd.state]; rfl
  have N0 := Fr.nil n0
  have pre0 : ∀ t, Steps p.tables e below (s₁.setTop (mkF m 0 #[rv w_Outcome_CONFORMS, rv w_Outcome_UNDETERMINED, .unset, .unset] [])) t → Steps p.tables e below (s₁.setTop (entryFrame m #[(.ref w_Outcome_CONFORMS), (.ref w_Outcome_UNDETERMINED)] 4)) t := fun t k => castTop (ef_2_RR m w_Outcome_CONFORMS w_Outcome_UNDETERMINED) k
  obtain ⟨T1, X1, e1, st1⟩ := own_gcls X0 hx hZ hown (hw _ (List.mem_of_getElem? (i := 23) rfl)) (hw _ (List.mem_of_getElem? (i := 24) rfl)) (hw _ (List.mem_of_getElem? (i := 26) rfl)) (hw _ (List.mem_of_getElem? (i := 25) rfl)) (hw _ (List.mem_of_getElem? (i := 27) rfl)) e0 E_w_Outcome_CONFORMS M_mr_Outcome (g := (mkF m 5 #[rv w_Outcome_CONFORMS, rv w_Outcome_UNDETERMINED, rv w_Outcome_UNDETERMINED, rv w_Outcome_CONFORMS] [(.ref w_Outcome_CONFORMS)])) rfl (by rw [hml]; rfl) rfl (hb hby d2_5) (by decide) (W := 0) (by show 2 * 0 + _ ≤ _; exact Nat.le_of_eq rfl) (by decide)
  obtain ⟨T2, X2, e2, st2⟩ := own_gcls X1 hx hZ hown (hw _ (List.mem_of_getElem? (i := 23) rfl)) (hw _ (List.mem_of_getElem? (i := 24) rfl)) (hw _ (List.mem_of_getElem? (i := 26) rfl)) (hw _ (List.mem_of_getElem? (i := 25) rfl)) (hw _ (List.mem_of_getElem? (i := 27) rfl)) e1 E_w_Outcome_UNDETERMINED M_mr_Outcome (g := (mkF m 9 #[rv w_Outcome_CONFORMS, rv w_Outcome_UNDETERMINED, rv w_Outcome_UNDETERMINED, rv w_Outcome_CONFORMS] [(.ref w_Outcome_UNDETERMINED), (.ref mr_Outcome)])) rfl (by rw [hml]; rfl) rfl (hb hby d2_9) (by decide) (W := 1) (by show 2 * 0 + _ ≤ _; exact Nat.le_of_eq rfl) (by decide)
  obtain ⟨T3, X3, e3, st3⟩ := getF X2 hx hZ hown (host := "") (Or.inl (hw _ (List.mem_of_getElem? (i := 28) rfl))) Via.refl e2 F_w_Outcome_CONFORMS_ordinal (g := (mkF m 35 #[rv w_Outcome_CONFORMS, rv w_Outcome_UNDETERMINED, rv w_Outcome_UNDETERMINED, rv w_Outcome_CONFORMS] [(.ref w_Outcome_CONFORMS)])) rfl rfl (hb hby d2_35)
  obtain ⟨T4, X4, e4, st4⟩ := getF X3 hx hZ hown (host := "") (Or.inl (hw _ (List.mem_of_getElem? (i := 28) rfl))) Via.refl e3 F_w_Outcome_UNDETERMINED_ordinal (g := (mkF m 39 #[rv w_Outcome_CONFORMS, rv w_Outcome_UNDETERMINED, rv w_Outcome_UNDETERMINED, rv w_Outcome_CONFORMS] [(.ref w_Outcome_UNDETERMINED), (.int (2 : Int32))])) rfl rfl (hb hby d2_39)
  obtain ⟨fs, hr, hrun, hended, hW, hsame⟩ := X4.leave (v := (some (.int (1 : Int32)))) (fun h => by rw [Bd.returns] at h; cases h)
  refine ⟨_, _, pre0 _ ?_, hrun, hended, _, _, rfl, ?_, ⟨_, rfl⟩, hW, hsame.mono (by decide) (by decide)⟩
  · show Steps p.tables e below (s₁.setTop (mkF m 0 #[rv w_Outcome_CONFORMS, rv w_Outcome_UNDETERMINED, .unset, .unset] [])) _
    refine XS.aloadN X0.here hx rfl (hb hby d2_0) rfl rfl ?_
    show Steps p.tables e below (s₁.setTop (mkF m 1 #[rv w_Outcome_CONFORMS, rv w_Outcome_UNDETERMINED, .unset, .unset] [(.ref w_Outcome_UNDETERMINED)])) _
    refine XS.astoreN X0.here hx rfl (hb hby d2_1) rfl rfl (l' := #[rv w_Outcome_CONFORMS, rv w_Outcome_UNDETERMINED, rv w_Outcome_UNDETERMINED, .unset]) rfl ?_
    show Steps p.tables e below (s₁.setTop (mkF m 2 #[rv w_Outcome_CONFORMS, rv w_Outcome_UNDETERMINED, rv w_Outcome_UNDETERMINED, .unset] [])) _
    refine XS.aloadN X0.here hx rfl (hb hby d2_2) rfl rfl ?_
    show Steps p.tables e below (s₁.setTop (mkF m 3 #[rv w_Outcome_CONFORMS, rv w_Outcome_UNDETERMINED, rv w_Outcome_UNDETERMINED, .unset] [(.ref w_Outcome_CONFORMS)])) _
    refine XS.astoreN X0.here hx rfl (hb hby d2_3) rfl rfl (l' := #[rv w_Outcome_CONFORMS, rv w_Outcome_UNDETERMINED, rv w_Outcome_UNDETERMINED, rv w_Outcome_CONFORMS]) rfl ?_
    show Steps p.tables e below (s₁.setTop (mkF m 4 #[rv w_Outcome_CONFORMS, rv w_Outcome_UNDETERMINED, rv w_Outcome_UNDETERMINED, rv w_Outcome_CONFORMS] [])) _
    refine XS.aloadN X0.here hx rfl (hb hby d2_4) rfl rfl ?_
    show Steps p.tables e below (s₁.setTop (mkF m 5 #[rv w_Outcome_CONFORMS, rv w_Outcome_UNDETERMINED, rv w_Outcome_UNDETERMINED, rv w_Outcome_CONFORMS] [(.ref w_Outcome_CONFORMS)])) _
    refine st1 _ ?_
    show Steps p.tables e below (T1.setTop (mkF m 8 #[rv w_Outcome_CONFORMS, rv w_Outcome_UNDETERMINED, rv w_Outcome_UNDETERMINED, rv w_Outcome_CONFORMS] [(.ref mr_Outcome)])) _
    refine XS.aloadN X1.here hx rfl (hb hby d2_8) rfl rfl ?_
    show Steps p.tables e below (T1.setTop (mkF m 9 #[rv w_Outcome_CONFORMS, rv w_Outcome_UNDETERMINED, rv w_Outcome_UNDETERMINED, rv w_Outcome_CONFORMS] [(.ref w_Outcome_UNDETERMINED), (.ref mr_Outcome)])) _
    refine st2 _ ?_
    show Steps p.tables e below (T2.setTop (mkF m 12 #[rv w_Outcome_CONFORMS, rv w_Outcome_UNDETERMINED, rv w_Outcome_UNDETERMINED, rv w_Outcome_CONFORMS] [(.ref mr_Outcome), (.ref mr_Outcome)])) _
    refine Jvm.RoadKit.acmp (g := (mkF m 12 #[rv w_Outcome_CONFORMS, rv w_Outcome_UNDETERMINED, rv w_Outcome_UNDETERMINED, rv w_Outcome_CONFORMS] [(.ref mr_Outcome), (.ref mr_Outcome)])) X2 hx rfl rfl rfl (pc0 := 12) (pc' := 34) (same := true) rfl (hb hby d2_12) rfl (decide_eq_true rfl) (by decide) (by decide) ?_
    show Steps p.tables e below (T2.setTop (mkF m 34 #[rv w_Outcome_CONFORMS, rv w_Outcome_UNDETERMINED, rv w_Outcome_UNDETERMINED, rv w_Outcome_CONFORMS] [])) _
    refine XS.aloadN X2.here hx rfl (hb hby d2_34) rfl rfl ?_
    show Steps p.tables e below (T2.setTop (mkF m 35 #[rv w_Outcome_CONFORMS, rv w_Outcome_UNDETERMINED, rv w_Outcome_UNDETERMINED, rv w_Outcome_CONFORMS] [(.ref w_Outcome_CONFORMS)])) _
    refine st3 _ ?_
    show Steps p.tables e below (T3.setTop (mkF m 38 #[rv w_Outcome_CONFORMS, rv w_Outcome_UNDETERMINED, rv w_Outcome_UNDETERMINED, rv w_Outcome_CONFORMS] [(.int (2 : Int32))])) _
    refine XS.aloadN X3.here hx rfl (hb hby d2_38) rfl rfl ?_
    show Steps p.tables e below (T3.setTop (mkF m 39 #[rv w_Outcome_CONFORMS, rv w_Outcome_UNDETERMINED, rv w_Outcome_UNDETERMINED, rv w_Outcome_CONFORMS] [(.ref w_Outcome_UNDETERMINED), (.int (2 : Int32))])) _
    refine st4 _ ?_
    show Steps p.tables e below (T4.setTop (mkF m 42 #[rv w_Outcome_CONFORMS, rv w_Outcome_UNDETERMINED, rv w_Outcome_UNDETERMINED, rv w_Outcome_CONFORMS] [(.int (1 : Int32)), (.int (2 : Int32))])) _
    refine XS.isub X4.here hx rfl (hb hby d2_42) rfl ?_
    show Steps p.tables e below (T4.setTop (mkF m 43 #[rv w_Outcome_CONFORMS, rv w_Outcome_UNDETERMINED, rv w_Outcome_UNDETERMINED, rv w_Outcome_CONFORMS] [(.int ((2 : Int32) - (1 : Int32)))])) _
    rewrite [show ((2 : Int32) - (1 : Int32)) = (1 : Int32) from by decide +kernel]
    show Steps p.tables e below (T4.setTop (mkF m 43 #[rv w_Outcome_CONFORMS, rv w_Outcome_UNDETERMINED, rv w_Outcome_UNDETERMINED, rv w_Outcome_CONFORMS] [(.int (1 : Int32))])) _
    exact retI X4 hx Bd.returns (hb hby d2_43) hr
  · exact ⟨rfl, N0, e4⟩
set_option maxRecDepth 65536 in
set_option maxHeartbeats 40000000 in
theorem rm1_14 (l : Launch) (Z : State) (a0 : Array Value) (hw : ∀ d ∈ tables_1, d.before a0 Z = true) (ws : List Jvm.Cond) (w_Outcome_UNDETERMINED : Addr) (w_Outcome_CONFORMS : Addr) (mr_Outcome : Addr) (h0 : Heap) (n0 : Nat) (Z0 : n0 ≤ h0.size) (E_w_Outcome_CONFORMS : Exa Z h0 w_Outcome_CONFORMS "com/example/shapewell/shapewell/Outcome") (M_mr_Outcome : own_Mir Z "com/example/shapewell/shapewell/Outcome" mr_Outcome) (E_w_Outcome_UNDETERMINED : Exa Z h0 w_Outcome_UNDETERMINED "com/example/shapewell/shapewell/Outcome") (F_w_Outcome_CONFORMS_ordinal : Fld Z h0 w_Outcome_CONFORMS "java/lang/Enum" "ordinal" "I" (.int (2 : Int32))) (F_w_Outcome_UNDETERMINED_ordinal : Fld Z h0 w_Outcome_UNDETERMINED "java/lang/Enum" "ordinal" "I" (.int (1 : Int32))) :
    MetFree l (⟨"com/example/shapewell/shapewell/Outcome", "and", "(Lcom/example/shapewell/shapewell/Outcome;)Lcom/example/shapewell/shapewell/Outcome;"⟩ : MethodName) (head1 (Jvm.Cond.code (⟨"com/example/shapewell/shapewell/Outcome", "and", "(Lcom/example/shapewell/shapewell/Outcome;)Lcom/example/shapewell/shapewell/Outcome;"⟩ : MethodName) prog_3_method_5_code 2 (some (.object "com/example/shapewell/shapewell/Outcome")) :: ws) ({ frames := 2, cells := 0, slots := 0, locals := 30 } : Room)) (fun a U => a = #[(.ref w_Outcome_CONFORMS), (.ref w_Outcome_UNDETERMINED)] ∧ Z.Warmed39 U.vm ∧ U.heap = h0) (fun _ _ _ _ _ => True) (fun _ U o U' => ∃ v L, o = .returned v ∧ own_QP (some (.ref w_Outcome_UNDETERMINED)) h0 n0 v U'.heap L ∧ FrameEnd U o U' L ({ frames := 2, cells := 0, slots := 0, locals := 30 } : Room).cells ({ frames := 2, cells := 0, slots := 0, locals := 30 } : Room).slots) := by
  refine MetFree.of_bodySF (plainFor_of_name pn_1) hisR ?_
  intro p e s m args below meth c s₁ Bd hml0 hP hK
  obtain ⟨rfl, hZ, hh⟩ := hP
  have hx := Bd.exec
  have hby := Bd.bytes
  have hml : c.maxLocals = 2 := hml0
  have hown : s.vm.findClass "com/example/shapewell/shapewell/Outcome" = some m.cls := findClass_of_methodNamed Bd.named
  have hnm := (name_of_methodNamed Bd.named Bd.method).1
  have X0 : Stand p l e ({ frames := 2, cells := 0, slots := 0, locals := 30 } : Room) s m #[(.ref w_Outcome_CONFORMS), (.ref w_Outcome_UNDETERMINED)] below meth c s₁ [] 0 0 := Stand.of_body Bd
  have e0 : s₁.heap = h0 := by rw [← hh, Bd.state]; rfl
  have N0 := Fr.nil n0
  have pre0 : ∀ t, Steps p.tables e below (s₁.setTop (mkF m 0 #[rv w_Outcome_CONFORMS, rv w_Outcome_UNDETERMINED] [])) t → Steps p.tables e below (s₁.setTop (entryFrame m #[(.ref w_Outcome_CONFORMS), (.ref w_Outcome_UNDETERMINED)] 2)) t := fun t k => castTop (ef_1_RR m w_Outcome_CONFORMS w_Outcome_UNDETERMINED) k
  obtain ⟨cq1, kq1, q1a, q1b, q1c⟩ := isOf hZ e0 E_w_Outcome_CONFORMS
  obtain ⟨_, _, ⟨T1, L1, k1, n1⟩, -, X1, ⟨Lc1, hQ1, l1, y1, z1⟩, st1⟩ := X0.virtualBackUp hx (x := (⟨"com/example/shapewell/shapewell/Outcome", "compareTo", "(Ljava/lang/Enum;)I"⟩ : MethodName)) (y := (⟨"java/lang/Enum", "compareTo", "(Ljava/lang/Enum;)I"⟩ : MethodName)) hown (mvT hZ (hw _ (List.mem_of_getElem? (i := 16) rfl))) (mvT hZ (hw _ (List.mem_of_getElem? (i := 17) rfl))) (mvT hZ (hw _ (List.mem_of_getElem? (i := 18) rfl))) (by decide) (mvT hZ (hw _ (List.mem_of_getElem? (i := 20) rfl))) (mvT hZ (hw _ (List.mem_of_getElem? (i := 19) rfl))) (backOf (W := 0) (rm2_14 l Z a0 hw [] w_Outcome_UNDETERMINED w_Outcome_CONFORMS mr_Outcome h0 n0 Z0 E_w_Outcome_CONFORMS M_mr_Outcome E_w_Outcome_UNDETERMINED F_w_Outcome_CONFORMS_ordinal F_w_Outcome_UNDETERMINED_ordinal) hZ (hw _ (List.mem_of_getElem? (i := 22) rfl)) (hw _ (List.mem_of_getElem? (i := 21) rfl)) (by decide) (by decide)) q1a q1c (g := (mkF m 2 #[rv w_Outcome_CONFORMS, rv w_Outcome_UNDETERMINED] [(.ref w_Outcome_UNDETERMINED), (.ref w_Outcome_CONFORMS)])) rfl (by rw [hml]; rfl) (Steps.refl _) (argsL := [(.ref w_Outcome_UNDETERMINED)]) (rest := []) (lenOf pd_0 rfl) rfl (by show 2 * 0 + _ ≤ _; exact Nat.le_of_eq rfl) (hb hby d1_2) (fun _ _ => ⟨rfl, e0, (by decide : 0 + 0 ≤ _), (by decide : 0 + 0 ≤ _)⟩)
  dsimp only [Pt.U, Pt.locs, Pt.cells, Pt.slots] at X1 l1 y1 z1 st1 hQ1
  subst l1 y1 z1
  obtain ⟨rfl, N1q, e1⟩ := hQ1
  have N1 := Fr.app N0 N1q
  obtain ⟨fs, hr, hrun, hended, hW, hsame⟩ := X1.leave (v := (some (.ref w_Outcome_UNDETERMINED))) (fun h => by rw [Bd.returns] at h; cases h)
  refine ⟨_, _, pre0 _ ?_, hrun, hended, _, _, rfl, ?_, ⟨_, rfl⟩, hW, hsame.mono (by decide) (by decide)⟩
  · show Steps p.tables e below (s₁.setTop (mkF m 0 #[rv w_Outcome_CONFORMS, rv w_Outcome_UNDETERMINED] [])) _
    refine XS.aloadN X0.here hx rfl (hb hby d1_0) rfl rfl ?_
    show Steps p.tables e below (s₁.setTop (mkF m 1 #[rv w_Outcome_CONFORMS, rv w_Outcome_UNDETERMINED] [(.ref w_Outcome_CONFORMS)])) _
    refine XS.aloadN X0.here hx rfl (hb hby d1_1) rfl rfl ?_
    show Steps p.tables e below (s₁.setTop (mkF m 2 #[rv w_Outcome_CONFORMS, rv w_Outcome_UNDETERMINED] [(.ref w_Outcome_UNDETERMINED), (.ref w_Outcome_CONFORMS)])) _
    refine st1.trans ?_
    show Steps p.tables e below (T1.setTop (mkF m 5 #[rv w_Outcome_CONFORMS, rv w_Outcome_UNDETERMINED] [(.int (1 : Int32))])) _
    refine XS.ifYes X1.here hx rfl (pc0 := 5) (pc' := 12) rfl (hb hby d1_5) rfl ((if0 _ _).trans (tlt (by decide +kernel : (0 : Int32) < (1 : Int32))).2.2.1) (by decide) (by decide) ?_
    show Steps p.tables e below (T1.setTop (mkF m 12 #[rv w_Outcome_CONFORMS, rv w_Outcome_UNDETERMINED] [])) _
    refine XS.aloadN X1.here hx rfl (hb hby d1_12) rfl rfl ?_
    show Steps p.tables e below (T1.setTop (mkF m 13 #[rv w_Outcome_CONFORMS, rv w_Outcome_UNDETERMINED] [(.ref w_Outcome_UNDETERMINED)])) _
    exact own_retA X1 hx Bd.returns rfl rfl (hb hby d1_13) hr
  · exact ⟨rfl, N1, e1⟩
set_option maxRecDepth 65536 in
set_option maxHeartbeats 40000000 in
theorem rm0_7 (l : Launch) (Z : State) (a0 : Array Value) (hw : ∀ d ∈ tables_1, d.before a0 Z = true) (ws : List Jvm.Cond) (p0 : Int32) (p1 : Int32) (w_Outcome_VIOLATES : Addr) (w_Outcome_UNDETERMINED : Addr) (w_Outcome_CONFORMS : Addr) (mr_Outcome : Addr) (h0 : Heap) (n0 : Nat) (Z0 : n0 ≤ h0.size) (S_Outcome_VIOLATES : Sta Z h0 "com/example/shapewell/shapewell/Outcome" "VIOLATES" "Lcom/example/shapewell/shapewell/Outcome;" (.ref w_Outcome_VIOLATES)) (E_w_Outcome_VIOLATES : Exa Z h0 w_Outcome_VIOLATES "com/example/shapewell/shapewell/Outcome") (S_Outcome_UNDETERMINED : Sta Z h0 "com/example/shapewell/shapewell/Outcome" "UNDETERMINED" "Lcom/example/shapewell/shapewell/Outcome;" (.ref w_Outcome_UNDETERMINED)) (E_w_Outcome_UNDETERMINED : Exa Z h0 w_Outcome_UNDETERMINED "com/example/shapewell/shapewell/Outcome") (S_Outcome_CONFORMS : Sta Z h0 "com/example/shapewell/shapewell/Outcome" "CONFORMS" "Lcom/example/shapewell/shapewell/Outcome;" (.ref w_Outcome_CONFORMS)) (E_w_Outcome_CONFORMS : Exa Z h0 w_Outcome_CONFORMS "com/example/shapewell/shapewell/Outcome") (hk0 : ((p0 &&& (2147483647 : Int32)) % (3 : Int32)) = (2 : Int32)) (hk1 : ((p1 &&& (2147483647 : Int32)) % (3 : Int32)) = (1 : Int32)) (M_mr_Outcome : own_Mir Z "com/example/shapewell/shapewell/Outcome" mr_Outcome) (F_w_Outcome_CONFORMS_ordinal : Fld Z h0 w_Outcome_CONFORMS "java/lang/Enum" "ordinal" "I" (.int (2 : Int32))) (F_w_Outcome_UNDETERMINED_ordinal : Fld Z h0 w_Outcome_UNDETERMINED "java/lang/Enum" "ordinal" "I" (.int (1 : Int32))) (ne_w_Outcome_CONFORMS_w_Outcome_VIOLATES : ¬ (w_Outcome_CONFORMS = w_Outcome_VIOLATES)) (ne_w_Outcome_UNDETERMINED_w_Outcome_VIOLATES : ¬ (w_Outcome_UNDETERMINED = w_Outcome_VIOLATES)) (ne_w_Outcome_CONFORMS_w_Outcome_UNDETERMINED : ¬ (w_Outcome_CONFORMS = w_Outcome_UNDETERMINED)) :
    MetFree l x (head1 (Jvm.Cond.code x code maxLocals ret :: ws) room_1) (fun a U => a = #[(.int p0), (.int p1)] ∧ Z.Warmed39 U.vm ∧ U.heap = h0) (fun _ _ _ _ _ => True) (fun _ U o U' => ∃ v L, o = .returned v ∧ own_QL n0 v U'.heap L ∧ FrameEnd U o U' L room_1.cells room_1.slots) := by
  refine MetFree.of_bodySF (plainFor_of_name pn_2) hisR ?_
  intro p e s m args below meth c s₁ Bd hml0 hP hK
  obtain ⟨rfl, hZ, hh⟩ := hP
  have hx := Bd.exec
  have hby := Bd.bytes
  have hml : c.maxLocals = 7 := hml0
  have hown : s.vm.findClass "com/example/shapewell/shapewell/OutcomeAndPinLaw" = some m.cls := findClass_of_methodNamed Bd.named
  have hnm := (name_of_methodNamed Bd.named Bd.method).1
  have X0 : Stand p l e room_1 s m #[(.int p0), (.int p1)] below meth c s₁ [] 0 0 := Stand.of_body Bd
  have e0 : s₁.heap = h0 := by rw [← hh, Bd.state]; rfl
  have N0 := Fr.nil n0
  have pre0 : ∀ t, Steps p.tables e below (s₁.setTop (mkF m 0 #[iv p0, iv p1, .unset, .unset, .unset, .unset, .unset] [])) t → Steps p.tables e below (s₁.setTop (entryFrame m #[(.int p0), (.int p1)] maxLocals)) t := fun t k => castTop (ef_0_II m p0 p1) k
  obtain ⟨T1, h1, k0_1, X1, e1, E1, A1, O1, st1⟩ := newR X0 hx hZ hown (hw _ (List.mem_of_getElem? (i := 0) rfl)) (hw _ (List.mem_of_getElem? (i := 1) rfl)) e0 (g := (mkF m 1 #[iv p0, iv p1, .unset, .unset, .unset, .unset, .unset] [(.int (3 : Int32))])) rfl (hb hby at_1) rfl (by decide) (cap := 3) (by decide) (by decide) (by decide) (by decide)
  obtain ⟨b0_1, gg1⟩ : ∃ z, z = h0.size := ⟨_, rfl⟩
  rw [← gg1] at A1 st1
  have g_b0_1 : n0 ≤ b0_1 := Nat.le_trans Z0 (Nat.le_of_eq gg1.symm)
  have sz_b0_1 : h0.size ≤ b0_1 := Nat.le_trans (Keep.refl h0 []).1 (Nat.le_of_eq gg1.symm)
  have Z1 : n0 ≤ h1.size := Nat.le_trans Z0 E1.1
  have KK1 : Keep h0 h1 [] := (Keep.refl h0 []).ext E1
  have V_b0_1 : Arv Z h1 b0_1 k0_1 (.object "com/example/shapewell/shapewell/Outcome") (3 : Int32) [.null, .null, .null] .null := (Arv.new A1 (by decide)).pad (pad_rep [] .null 3)
  have c2 := (S_Outcome_VIOLATES.ext E1)
  obtain ⟨T3, X3, e3, st3⟩ := getS2 X1 hx hZ hown (host := "") (Or.inl (hw _ (List.mem_of_getElem? (i := 2) rfl))) Via.refl e1 c2 (g := (mkF m 6 #[iv p0, iv p1, .unset, .unset, .unset, .unset, .unset] [(.int (0 : Int32)), (.ref b0_1), (.ref b0_1)])) rfl (hb hby at_6)
  obtain ⟨cl4, Ar4, qq4, Sz4, Nn4, Hs4, Gs4⟩ := id V_b0_1
  have hin4 : ¬ ((0 : Int32) < 0 ∨ cl4.slots.size ≤ ((0 : Int32)).toNatClampNeg) := inb_of Sz4 ⟨by decide, by decide⟩
  have c5 := (E_w_Outcome_VIOLATES.ext E1)
  obtain ⟨T6, h6, X6, e6, W6, st6⟩ := stR X3 hx hZ e3 Ar4 (j := (0 : Int32)) hin4 rfl (Sto.ofV Ar4 qq4 O1 (Ins.self c5)) (g := (mkF m 9 #[iv p0, iv p1, .unset, .unset, .unset, .unset, .unset] [(.ref w_Outcome_VIOLATES), (.int (0 : Int32)), (.ref b0_1), (.ref b0_1)])) rfl rfl (hb hby at_9)
  have vb6 : Arv Z h6 b0_1 k0_1 (.object "com/example/shapewell/shapewell/Outcome") (3 : Int32) [(.ref w_Outcome_VIOLATES), .null, .null] .null := Arv.set Ar4 qq4 Sz4 Nn4 Hs4 Gs4 rfl W6 0 rfl (Nat.le_of_ble_eq_true rfl)
  have Z6 : n0 ≤ h6.size := Nat.le_trans Z1 (Keep.of_wr W6).1
  have KK6 : Keep h0 h6 [] := KK1.wr W6 (Or.inr sz_b0_1)
  have N6 := Fr.snoc X6 N0 g_b0_1
  have c7 := ((S_Outcome_UNDETERMINED.ext E1).wr W6)
  obtain ⟨T8, X8, e8, st8⟩ := getS2 X6 hx hZ hown (host := "") (Or.inl (hw _ (List.mem_of_getElem? (i := 6) rfl))) Via.refl e6 c7 (g := (mkF m 12 #[iv p0, iv p1, .unset, .unset, .unset, .unset, .unset] [(.int (1 : Int32)), (.ref b0_1), (.ref b0_1)])) rfl (hb hby at_12)
  obtain ⟨cl9, Ar9, qq9, Sz9, Nn9, Hs9, Gs9⟩ := id vb6
  have hin9 : ¬ ((1 : Int32) < 0 ∨ cl9.slots.size ≤ ((1 : Int32)).toNatClampNeg) := inb_of Sz9 ⟨by decide, by decide⟩
  have c10 := ((E_w_Outcome_UNDETERMINED.ext E1).wr W6)
  obtain ⟨T11, h11, X11, e11, W11, st11⟩ := stR X8 hx hZ e8 Ar9 (j := (1 : Int32)) hin9 rfl (Sto.ofV Ar9 qq9 O1 (Ins.self c10)) (g := (mkF m 15 #[iv p0, iv p1, .unset, .unset, .unset, .unset, .unset] [(.ref w_Outcome_UNDETERMINED), (.int (1 : Int32)), (.ref b0_1), (.ref b0_1)])) rfl rfl (hb hby at_15)
  have vb11 : Arv Z h11 b0_1 k0_1 (.object "com/example/shapewell/shapewell/Outcome") (3 : Int32) [(.ref w_Outcome_VIOLATES), (.ref w_Outcome_UNDETERMINED), .null] .null := Arv.set Ar9 qq9 Sz9 Nn9 Hs9 Gs9 rfl W11 1 rfl (Nat.le_of_ble_eq_true rfl)
  have Z11 : n0 ≤ h11.size := Nat.le_trans Z6 (Keep.of_wr W11).1
  have KK11 : Keep h0 h11 [] := KK6.wr W11 (Or.inr sz_b0_1)
  have N11 := Fr.snoc X11 N6 g_b0_1
  have c12 := (((S_Outcome_CONFORMS.ext E1).wr W6).wr W11)
  obtain ⟨T13, X13, e13, st13⟩ := getS2 X11 hx hZ hown (host := "") (Or.inl (hw _ (List.mem_of_getElem? (i := 8) rfl))) Via.refl e11 c12 (g := (mkF m 18 #[iv p0, iv p1, .unset, .unset, .unset, .unset, .unset] [(.int (2 : Int32)), (.ref b0_1), (.ref b0_1)])) rfl (hb hby at_18)
  obtain ⟨cl14, Ar14, qq14, Sz14, Nn14, Hs14, Gs14⟩ := id vb11
  have hin14 : ¬ ((2 : Int32) < 0 ∨ cl14.slots.size ≤ ((2 : Int32)).toNatClampNeg) := inb_of Sz14 ⟨by decide, by decide⟩
  have c15 := (((E_w_Outcome_CONFORMS.ext E1).wr W6).wr W11)
  obtain ⟨T16, h16, X16, e16, W16, st16⟩ := stR X13 hx hZ e13 Ar14 (j := (2 : Int32)) hin14 rfl (Sto.ofV Ar14 qq14 O1 (Ins.self c15)) (g := (mkF m 21 #[iv p0, iv p1, .unset, .unset, .unset, .unset, .unset] [(.ref w_Outcome_CONFORMS), (.int (2 : Int32)), (.ref b0_1), (.ref b0_1)])) rfl rfl (hb hby at_21)
  have vb16 : Arv Z h16 b0_1 k0_1 (.object "com/example/shapewell/shapewell/Outcome") (3 : Int32) [(.ref w_Outcome_VIOLATES), (.ref w_Outcome_UNDETERMINED), (.ref w_Outcome_CONFORMS)] .null := Arv.set Ar14 qq14 Sz14 Nn14 Hs14 Gs14 rfl W16 2 rfl (Nat.le_of_ble_eq_true rfl)
  have Z16 : n0 ≤ h16.size := Nat.le_trans Z11 (Keep.of_wr W16).1
  have KK16 : Keep h0 h16 [] := KK11.wr W16 (Or.inr sz_b0_1)
  have N16 := Fr.snoc X16 N11 g_b0_1
  obtain ⟨cl17, Ar17, -, Sz17, Nn17, Hs17, Gs17⟩ := id vb16
  have hin17 : ¬ ((2 : Int32) < 0 ∨ cl17.slots.size ≤ ((2 : Int32)).toNatClampNeg) := inb_of Sz17 ⟨by decide, by decide⟩
  obtain ⟨cl18, Ar18, -, Sz18, Nn18, Hs18, Gs18⟩ := id vb16
  have hin18 : ¬ ((1 : Int32) < 0 ∨ cl18.slots.size ≤ ((1 : Int32)).toNatClampNeg) := inb_of Sz18 ⟨by decide, by decide⟩
  have c20 := (c15.wr W16)
  have c21 := ((c10.wr W11).wr W16)
  have ne_b0_1_w_Outcome_CONFORMS_22 : ¬ (b0_1 = w_Outcome_CONFORMS) := (Ne.symm (Nat.ne_of_lt (Nat.lt_of_lt_of_le (E_w_Outcome_CONFORMS).lt (Nat.le_of_eq gg1.symm))))
  have c23 := ((((F_w_Outcome_CONFORMS_ordinal.ext E1).other W6 (Or.inl (Ne.symm ne_b0_1_w_Outcome_CONFORMS_22))).other W11 (Or.inl (Ne.symm ne_b0_1_w_Outcome_CONFORMS_22))).other W16 (Or.inl (Ne.symm ne_b0_1_w_Outcome_CONFORMS_22)))
  have ne_b0_1_w_Outcome_UNDETERMINED_24 : ¬ (b0_1 = w_Outcome_UNDETERMINED) := (Ne.symm (Nat.ne_of_lt (Nat.lt_of_lt_of_le (E_w_Outcome_UNDETERMINED).lt (Nat.le_of_eq gg1.symm))))
  have c25 := ((((F_w_Outcome_UNDETERMINED_ordinal.ext E1).other W6 (Or.inl (Ne.symm ne_b0_1_w_Outcome_UNDETERMINED_24))).other W11 (Or.inl (Ne.symm ne_b0_1_w_Outcome_UNDETERMINED_24))).other W16 (Or.inl (Ne.symm ne_b0_1_w_Outcome_UNDETERMINED_24)))
  obtain ⟨cq19, kq19, q19a, q19b, q19c⟩ := isOf hZ e16 c20
  obtain ⟨_, _, ⟨T19, L19, k19, n19⟩, -, X19, ⟨Lc19, hQ19, l19, y19, z19⟩, st19⟩ := X16.virtualBack hx (y := (⟨"com/example/shapewell/shapewell/Outcome", "and", "(Lcom/example/shapewell/shapewell/Outcome;)Lcom/example/shapewell/shapewell/Outcome;"⟩ : MethodName)) (z := (⟨"com/example/shapewell/shapewell/Outcome", "and", "(Lcom/example/shapewell/shapewell/Outcome;)Lcom/example/shapewell/shapewell/Outcome;"⟩ : MethodName)) hown (mvT hZ (hw _ (List.mem_of_getElem? (i := 11) rfl))) (mvT hZ (hw _ (List.mem_of_getElem? (i := 12) rfl))) (notFace_of_selects (args := #[]) (mvT hZ (hw _ (List.mem_of_getElem? (i := 14) rfl)))) (mvT hZ (hw _ (List.mem_of_getElem? (i := 14) rfl))) (mvT hZ (hw _ (List.mem_of_getElem? (i := 13) rfl))) (by decide) (backOf (W := 0) (rm1_14 l Z a0 hw [] w_Outcome_UNDETERMINED w_Outcome_CONFORMS mr_Outcome h16 n0 Z16 c20 M_mr_Outcome c21 c23 c25) hZ (hw _ (List.mem_of_getElem? (i := 15) rfl)) (hw _ (List.mem_of_getElem? (i := 3) rfl)) (by decide) (by decide)) q19a q19c (g := (mkF m 45 #[iv p0, iv p1, rv b0_1, rv w_Outcome_CONFORMS, rv w_Outcome_UNDETERMINED, .unset, .unset] [(.ref w_Outcome_UNDETERMINED), (.ref w_Outcome_CONFORMS)])) rfl (by rw [hml]; rfl) (Steps.refl _) (argsL := [(.ref w_Outcome_UNDETERMINED)]) (rest := []) (lenOf pd_1 rfl) rfl (by show 2 * 0 + _ ≤ _; exact Nat.le_of_eq rfl) (hb hby at_45) (fun _ _ => ⟨rfl, e16, (by decide : 1 + 0 ≤ _), (by decide : 3 + 0 ≤ _)⟩)
  dsimp only [Pt.U, Pt.locs, Pt.cells, Pt.slots] at X19 l19 y19 z19 st19 hQ19
  subst l19 y19 z19
  obtain ⟨rfl, N19q, e19⟩ := hQ19
  have N19 := Fr.app N16 N19q
  have c26 := (((c2.wr W6).wr W11).wr W16)
  obtain ⟨T27, X27, e27, st27⟩ := getS2 X19 hx hZ hown (host := "") (Or.inl (hw _ (List.mem_of_getElem? (i := 2) rfl))) Via.refl e19 c26 (g := (mkF m 51 #[iv p0, iv p1, rv b0_1, rv w_Outcome_CONFORMS, rv w_Outcome_UNDETERMINED, rv w_Outcome_UNDETERMINED, .unset] [(.ref w_Outcome_CONFORMS)])) rfl (hb hby at_51)
  obtain ⟨T28, X28, e28, st28⟩ := getS2 X27 hx hZ hown (host := "") (Or.inl (hw _ (List.mem_of_getElem? (i := 2) rfl))) Via.refl e27 c26 (g := (mkF m 59 #[iv p0, iv p1, rv b0_1, rv w_Outcome_CONFORMS, rv w_Outcome_UNDETERMINED, rv w_Outcome_UNDETERMINED, .unset] [(.ref w_Outcome_UNDETERMINED)])) rfl (hb hby at_59)
  have c29 := ((c7.wr W11).wr W16)
  obtain ⟨T30, X30, e30, st30⟩ := getS2 X28 hx hZ hown (host := "") (Or.inl (hw _ (List.mem_of_getElem? (i := 6) rfl))) Via.refl e28 c29 (g := (mkF m 74 #[iv p0, iv p1, rv b0_1, rv w_Outcome_CONFORMS, rv w_Outcome_UNDETERMINED, rv w_Outcome_UNDETERMINED, .unset] [(.ref w_Outcome_CONFORMS)])) rfl (hb hby at_74)
  obtain ⟨T31, X31, e31, st31⟩ := getS2 X30 hx hZ hown (host := "") (Or.inl (hw _ (List.mem_of_getElem? (i := 6) rfl))) Via.refl e30 c29 (g := (mkF m 82 #[iv p0, iv p1, rv b0_1, rv w_Outcome_CONFORMS, rv w_Outcome_UNDETERMINED, rv w_Outcome_UNDETERMINED, .unset] [(.ref w_Outcome_UNDETERMINED)])) rfl (hb hby at_82)
  obtain ⟨T32, X32, e32, st32⟩ := getS2 X31 hx hZ hown (host := "") (Or.inl (hw _ (List.mem_of_getElem? (i := 6) rfl))) Via.refl e31 c29 (g := (mkF m 88 #[iv p0, iv p1, rv b0_1, rv w_Outcome_CONFORMS, rv w_Outcome_UNDETERMINED, rv w_Outcome_UNDETERMINED, .unset] [])) rfl (hb hby at_88)
  obtain ⟨fs, hr, hrun, hended, hW, hsame⟩ := X32.leave (v := (some (.int (1 : Int32)))) (fun h => by rw [Bd.returns] at h; cases h)
  refine ⟨_, _, pre0 _ ?_, hrun, hended, _, _, rfl, ?_, ⟨_, rfl⟩, hW, hsame.mono (by decide) (by decide)⟩
  · show Steps p.tables e below (s₁.setTop (mkF m 0 #[iv p0, iv p1, .unset, .unset, .unset, .unset, .unset] [])) _
    refine XS.iconst X0.here hx rfl (hb hby at_0) ?_
    show Steps p.tables e below (s₁.setTop (mkF m 1 #[iv p0, iv p1, .unset, .unset, .unset, .unset, .unset] [(.int (3 : Int32))])) _
    refine st1 _ ?_
    show Steps p.tables e below (T1.setTop (mkF m 4 #[iv p0, iv p1, .unset, .unset, .unset, .unset, .unset] [(.ref b0_1)])) _
    refine XS.dup X1.here hx rfl (hb hby at_4) rfl rfl ?_
    show Steps p.tables e below (T1.setTop (mkF m 5 #[iv p0, iv p1, .unset, .unset, .unset, .unset, .unset] [(.ref b0_1), (.ref b0_1)])) _
    refine XS.iconst X1.here hx rfl (hb hby at_5) ?_
    show Steps p.tables e below (T1.setTop (mkF m 6 #[iv p0, iv p1, .unset, .unset, .unset, .unset, .unset] [(.int (0 : Int32)), (.ref b0_1), (.ref b0_1)])) _
    refine st3 _ ?_
    show Steps p.tables e below (T3.setTop (mkF m 9 #[iv p0, iv p1, .unset, .unset, .unset, .unset, .unset] [(.ref w_Outcome_VIOLATES), (.int (0 : Int32)), (.ref b0_1), (.ref b0_1)])) _
    refine st6 _ ?_
    show Steps p.tables e below (T6.setTop (mkF m 10 #[iv p0, iv p1, .unset, .unset, .unset, .unset, .unset] [(.ref b0_1)])) _
    refine XS.dup X6.here hx rfl (hb hby at_10) rfl rfl ?_
    show Steps p.tables e below (T6.setTop (mkF m 11 #[iv p0, iv p1, .unset, .unset, .unset, .unset, .unset] [(.ref b0_1), (.ref b0_1)])) _
    refine XS.iconst X6.here hx rfl (hb hby at_11) ?_
    show Steps p.tables e below (T6.setTop (mkF m 12 #[iv p0, iv p1, .unset, .unset, .unset, .unset, .unset] [(.int (1 : Int32)), (.ref b0_1), (.ref b0_1)])) _
    refine st8 _ ?_
    show Steps p.tables e below (T8.setTop (mkF m 15 #[iv p0, iv p1, .unset, .unset, .unset, .unset, .unset] [(.ref w_Outcome_UNDETERMINED), (.int (1 : Int32)), (.ref b0_1), (.ref b0_1)])) _
    refine st11 _ ?_
    show Steps p.tables e below (T11.setTop (mkF m 16 #[iv p0, iv p1, .unset, .unset, .unset, .unset, .unset] [(.ref b0_1)])) _
    refine XS.dup X11.here hx rfl (hb hby at_16) rfl rfl ?_
    show Steps p.tables e below (T11.setTop (mkF m 17 #[iv p0, iv p1, .unset, .unset, .unset, .unset, .unset] [(.ref b0_1), (.ref b0_1)])) _
    refine XS.iconst X11.here hx rfl (hb hby at_17) ?_
    show Steps p.tables e below (T11.setTop (mkF m 18 #[iv p0, iv p1, .unset, .unset, .unset, .unset, .unset] [(.int (2 : Int32)), (.ref b0_1), (.ref b0_1)])) _
    refine st13 _ ?_
    show Steps p.tables e below (T13.setTop (mkF m 21 #[iv p0, iv p1, .unset, .unset, .unset, .unset, .unset] [(.ref w_Outcome_CONFORMS), (.int (2 : Int32)), (.ref b0_1), (.ref b0_1)])) _
    refine st16 _ ?_
    show Steps p.tables e below (T16.setTop (mkF m 22 #[iv p0, iv p1, .unset, .unset, .unset, .unset, .unset] [(.ref b0_1)])) _
    refine XS.astoreN X16.here hx rfl (hb hby at_22) rfl rfl (l' := #[iv p0, iv p1, rv b0_1, .unset, .unset, .unset, .unset]) rfl ?_
    show Steps p.tables e below (T16.setTop (mkF m 23 #[iv p0, iv p1, rv b0_1, .unset, .unset, .unset, .unset] [])) _
    refine XS.aloadN X16.here hx rfl (hb hby at_23) rfl rfl ?_
    show Steps p.tables e below (T16.setTop (mkF m 24 #[iv p0, iv p1, rv b0_1, .unset, .unset, .unset, .unset] [(.ref b0_1)])) _
    refine XS.iloadN X16.here hx rfl (hb hby at_24) rfl ?_
    show Steps p.tables e below (T16.setTop (mkF m 25 #[iv p0, iv p1, rv b0_1, .unset, .unset, .unset, .unset] [(.int p0), (.ref b0_1)])) _
    refine X16.ldcInt hx hown (mvT hZ (hw _ (List.mem_of_getElem? (i := 10) rfl))) (g := (mkF m 25 #[iv p0, iv p1, rv b0_1, .unset, .unset, .unset, .unset] [(.int p0), (.ref b0_1)])) rfl (hb hby at_25) _ ?_
    show Steps p.tables e below (T16.setTop (mkF m 27 #[iv p0, iv p1, rv b0_1, .unset, .unset, .unset, .unset] [(.int (2147483647 : Int32)), (.int p0), (.ref b0_1)])) _
    refine XS.iand X16.here hx rfl (hb hby at_27) rfl ?_
    show Steps p.tables e below (T16.setTop (mkF m 28 #[iv p0, iv p1, rv b0_1, .unset, .unset, .unset, .unset] [(.int (p0 &&& (2147483647 : Int32))), (.ref b0_1)])) _
    refine XS.iconst X16.here hx rfl (hb hby at_28) ?_
    show Steps p.tables e below (T16.setTop (mkF m 29 #[iv p0, iv p1, rv b0_1, .unset, .unset, .unset, .unset] [(.int (3 : Int32)), (.int (p0 &&& (2147483647 : Int32))), (.ref b0_1)])) _
    refine iremM X16 hx rfl (hb hby at_29) rfl (by decide) ?_
    show Steps p.tables e below (T16.setTop (mkF m 30 #[iv p0, iv p1, rv b0_1, .unset, .unset, .unset, .unset] [(.int ((p0 &&& (2147483647 : Int32)) % (3 : Int32))), (.ref b0_1)])) _
    rewrite [hk0]
    show Steps p.tables e below (T16.setTop (mkF m 30 #[iv p0, iv p1, rv b0_1, .unset, .unset, .unset, .unset] [(.int (2 : Int32)), (.ref b0_1)])) _
    refine X16.aaload hx (j := (2 : Int32)) (v := (.ref w_Outcome_CONFORMS)) (by rw [e16]; exact Ar17.1) (State.isArrayOf_alike hZ.alike Ar17.2.1) rfl Ar17.2.2 hin17 (Hs17.at hin17 rfl) (g := (mkF m 30 #[iv p0, iv p1, rv b0_1, .unset, .unset, .unset, .unset] [(.int (2 : Int32)), (.ref b0_1)])) rfl rfl (hb hby at_30) _ ?_
    show Steps p.tables e below (T16.setTop (mkF m 31 #[iv p0, iv p1, rv b0_1, .unset, .unset, .unset, .unset] [(.ref w_Outcome_CONFORMS)])) _
    refine XS.astoreN X16.here hx rfl (hb hby at_31) rfl rfl (l' := #[iv p0, iv p1, rv b0_1, rv w_Outcome_CONFORMS, .unset, .unset, .unset]) rfl ?_
    show Steps p.tables e below (T16.setTop (mkF m 32 #[iv p0, iv p1, rv b0_1, rv w_Outcome_CONFORMS, .unset, .unset, .unset] [])) _
    refine XS.aloadN X16.here hx rfl (hb hby at_32) rfl rfl ?_
    show Steps p.tables e below (T16.setTop (mkF m 33 #[iv p0, iv p1, rv b0_1, rv w_Outcome_CONFORMS, .unset, .unset, .unset] [(.ref b0_1)])) _
    refine XS.iloadN X16.here hx rfl (hb hby at_33) rfl ?_
    show Steps p.tables e below (T16.setTop (mkF m 34 #[iv p0, iv p1, rv b0_1, rv w_Outcome_CONFORMS, .unset, .unset, .unset] [(.int p1), (.ref b0_1)])) _
    refine X16.ldcInt hx hown (mvT hZ (hw _ (List.mem_of_getElem? (i := 10) rfl))) (g := (mkF m 34 #[iv p0, iv p1, rv b0_1, rv w_Outcome_CONFORMS, .unset, .unset, .unset] [(.int p1), (.ref b0_1)])) rfl (hb hby at_34) _ ?_
    show Steps p.tables e below (T16.setTop (mkF m 36 #[iv p0, iv p1, rv b0_1, rv w_Outcome_CONFORMS, .unset, .unset, .unset] [(.int (2147483647 : Int32)), (.int p1), (.ref b0_1)])) _
    refine XS.iand X16.here hx rfl (hb hby at_36) rfl ?_
    show Steps p.tables e below (T16.setTop (mkF m 37 #[iv p0, iv p1, rv b0_1, rv w_Outcome_CONFORMS, .unset, .unset, .unset] [(.int (p1 &&& (2147483647 : Int32))), (.ref b0_1)])) _
    refine XS.iconst X16.here hx rfl (hb hby at_37) ?_
    show Steps p.tables e below (T16.setTop (mkF m 38 #[iv p0, iv p1, rv b0_1, rv w_Outcome_CONFORMS, .unset, .unset, .unset] [(.int (3 : Int32)), (.int (p1 &&& (2147483647 : Int32))), (.ref b0_1)])) _
    refine iremM X16 hx rfl (hb hby at_38) rfl (by decide) ?_
    show Steps p.tables e below (T16.setTop (mkF m 39 #[iv p0, iv p1, rv b0_1, rv w_Outcome_CONFORMS, .unset, .unset, .unset] [(.int ((p1 &&& (2147483647 : Int32)) % (3 : Int32))), (.ref b0_1)])) _
    rewrite [hk1]
    show Steps p.tables e below (T16.setTop (mkF m 39 #[iv p0, iv p1, rv b0_1, rv w_Outcome_CONFORMS, .unset, .unset, .unset] [(.int (1 : Int32)), (.ref b0_1)])) _
    refine X16.aaload hx (j := (1 : Int32)) (v := (.ref w_Outcome_UNDETERMINED)) (by rw [e16]; exact Ar18.1) (State.isArrayOf_alike hZ.alike Ar18.2.1) rfl Ar18.2.2 hin18 (Hs18.at hin18 rfl) (g := (mkF m 39 #[iv p0, iv p1, rv b0_1, rv w_Outcome_CONFORMS, .unset, .unset, .unset] [(.int (1 : Int32)), (.ref b0_1)])) rfl rfl (hb hby at_39) _ ?_
    show Steps p.tables e below (T16.setTop (mkF m 40 #[iv p0, iv p1, rv b0_1, rv w_Outcome_CONFORMS, .unset, .unset, .unset] [(.ref w_Outcome_UNDETERMINED)])) _
    refine XS.astore X16.here hx rfl (hb hby at_40) rfl rfl (l' := #[iv p0, iv p1, rv b0_1, rv w_Outcome_CONFORMS, rv w_Outcome_UNDETERMINED, .unset, .unset]) rfl ?_
    show Steps p.tables e below (T16.setTop (mkF m 42 #[iv p0, iv p1, rv b0_1, rv w_Outcome_CONFORMS, rv w_Outcome_UNDETERMINED, .unset, .unset] [])) _
    refine XS.aloadN X16.here hx rfl (hb hby at_42) rfl rfl ?_
    show Steps p.tables e below (T16.setTop (mkF m 43 #[iv p0, iv p1, rv b0_1, rv w_Outcome_CONFORMS, rv w_Outcome_UNDETERMINED, .unset, .unset] [(.ref w_Outcome_CONFORMS)])) _
    refine XS.aload X16.here hx rfl (hb hby at_43) rfl rfl ?_
    show Steps p.tables e below (T16.setTop (mkF m 45 #[iv p0, iv p1, rv b0_1, rv w_Outcome_CONFORMS, rv w_Outcome_UNDETERMINED, .unset, .unset] [(.ref w_Outcome_UNDETERMINED), (.ref w_Outcome_CONFORMS)])) _
    refine st19.trans ?_
    show Steps p.tables e below (T19.setTop (mkF m 48 #[iv p0, iv p1, rv b0_1, rv w_Outcome_CONFORMS, rv w_Outcome_UNDETERMINED, .unset, .unset] [(.ref w_Outcome_UNDETERMINED)])) _
    refine XS.astore X19.here hx rfl (hb hby at_48) rfl rfl (l' := #[iv p0, iv p1, rv b0_1, rv w_Outcome_CONFORMS, rv w_Outcome_UNDETERMINED, rv w_Outcome_UNDETERMINED, .unset]) rfl ?_
    show Steps p.tables e below (T19.setTop (mkF m 50 #[iv p0, iv p1, rv b0_1, rv w_Outcome_CONFORMS, rv w_Outcome_UNDETERMINED, rv w_Outcome_UNDETERMINED, .unset] [])) _
    refine XS.aloadN X19.here hx rfl (hb hby at_50) rfl rfl ?_
    show Steps p.tables e below (T19.setTop (mkF m 51 #[iv p0, iv p1, rv b0_1, rv w_Outcome_CONFORMS, rv w_Outcome_UNDETERMINED, rv w_Outcome_UNDETERMINED, .unset] [(.ref w_Outcome_CONFORMS)])) _
    refine st27 _ ?_
    show Steps p.tables e below (T27.setTop (mkF m 54 #[iv p0, iv p1, rv b0_1, rv w_Outcome_CONFORMS, rv w_Outcome_UNDETERMINED, rv w_Outcome_UNDETERMINED, .unset] [(.ref w_Outcome_VIOLATES), (.ref w_Outcome_CONFORMS)])) _
    refine Jvm.RoadKit.acmp (g := (mkF m 54 #[iv p0, iv p1, rv b0_1, rv w_Outcome_CONFORMS, rv w_Outcome_UNDETERMINED, rv w_Outcome_UNDETERMINED, .unset] [(.ref w_Outcome_VIOLATES), (.ref w_Outcome_CONFORMS)])) X27 hx rfl rfl rfl (pc0 := 54) (pc' := 57) (same := false) rfl (hb hby at_54) rfl (decide_eq_false fun q => ne_w_Outcome_CONFORMS_w_Outcome_VIOLATES (Value.ref.inj q)) (by decide) (by decide) ?_
    show Steps p.tables e below (T27.setTop (mkF m 57 #[iv p0, iv p1, rv b0_1, rv w_Outcome_CONFORMS, rv w_Outcome_UNDETERMINED, rv w_Outcome_UNDETERMINED, .unset] [])) _
    refine XS.aload X27.here hx rfl (hb hby at_57) rfl rfl ?_
    show Steps p.tables e below (T27.setTop (mkF m 59 #[iv p0, iv p1, rv b0_1, rv w_Outcome_CONFORMS, rv w_Outcome_UNDETERMINED, rv w_Outcome_UNDETERMINED, .unset] [(.ref w_Outcome_UNDETERMINED)])) _
    refine st28 _ ?_
    show Steps p.tables e below (T28.setTop (mkF m 62 #[iv p0, iv p1, rv b0_1, rv w_Outcome_CONFORMS, rv w_Outcome_UNDETERMINED, rv w_Outcome_UNDETERMINED, .unset] [(.ref w_Outcome_VIOLATES), (.ref w_Outcome_UNDETERMINED)])) _
    refine Jvm.RoadKit.acmp (g := (mkF m 62 #[iv p0, iv p1, rv b0_1, rv w_Outcome_CONFORMS, rv w_Outcome_UNDETERMINED, rv w_Outcome_UNDETERMINED, .unset] [(.ref w_Outcome_VIOLATES), (.ref w_Outcome_UNDETERMINED)])) X28 hx rfl rfl rfl (pc0 := 62) (pc' := 73) (same := false) rfl (hb hby at_62) rfl (decide_eq_false fun q => ne_w_Outcome_UNDETERMINED_w_Outcome_VIOLATES (Value.ref.inj q)) (by decide) (by decide) ?_
    show Steps p.tables e below (T28.setTop (mkF m 73 #[iv p0, iv p1, rv b0_1, rv w_Outcome_CONFORMS, rv w_Outcome_UNDETERMINED, rv w_Outcome_UNDETERMINED, .unset] [])) _
    refine XS.aloadN X28.here hx rfl (hb hby at_73) rfl rfl ?_
    show Steps p.tables e below (T28.setTop (mkF m 74 #[iv p0, iv p1, rv b0_1, rv w_Outcome_CONFORMS, rv w_Outcome_UNDETERMINED, rv w_Outcome_UNDETERMINED, .unset] [(.ref w_Outcome_CONFORMS)])) _
    refine st30 _ ?_
    show Steps p.tables e below (T30.setTop (mkF m 77 #[iv p0, iv p1, rv b0_1, rv w_Outcome_CONFORMS, rv w_Outcome_UNDETERMINED, rv w_Outcome_UNDETERMINED, .unset] [(.ref w_Outcome_UNDETERMINED), (.ref w_Outcome_CONFORMS)])) _
    refine Jvm.RoadKit.acmp (g := (mkF m 77 #[iv p0, iv p1, rv b0_1, rv w_Outcome_CONFORMS, rv w_Outcome_UNDETERMINED, rv w_Outcome_UNDETERMINED, .unset] [(.ref w_Outcome_UNDETERMINED), (.ref w_Outcome_CONFORMS)])) X30 hx rfl rfl rfl (pc0 := 77) (pc' := 80) (same := false) rfl (hb hby at_77) rfl (decide_eq_false fun q => ne_w_Outcome_CONFORMS_w_Outcome_UNDETERMINED (Value.ref.inj q)) (by decide) (by decide) ?_
    show Steps p.tables e below (T30.setTop (mkF m 80 #[iv p0, iv p1, rv b0_1, rv w_Outcome_CONFORMS, rv w_Outcome_UNDETERMINED, rv w_Outcome_UNDETERMINED, .unset] [])) _
    refine XS.aload X30.here hx rfl (hb hby at_80) rfl rfl ?_
    show Steps p.tables e below (T30.setTop (mkF m 82 #[iv p0, iv p1, rv b0_1, rv w_Outcome_CONFORMS, rv w_Outcome_UNDETERMINED, rv w_Outcome_UNDETERMINED, .unset] [(.ref w_Outcome_UNDETERMINED)])) _
    refine st31 _ ?_
    show Steps p.tables e below (T31.setTop (mkF m 85 #[iv p0, iv p1, rv b0_1, rv w_Outcome_CONFORMS, rv w_Outcome_UNDETERMINED, rv w_Outcome_UNDETERMINED, .unset] [(.ref w_Outcome_UNDETERMINED), (.ref w_Outcome_UNDETERMINED)])) _
    refine Jvm.RoadKit.acmp (g := (mkF m 85 #[iv p0, iv p1, rv b0_1, rv w_Outcome_CONFORMS, rv w_Outcome_UNDETERMINED, rv w_Outcome_UNDETERMINED, .unset] [(.ref w_Outcome_UNDETERMINED), (.ref w_Outcome_UNDETERMINED)])) X31 hx rfl rfl rfl (pc0 := 85) (pc' := 88) (same := true) rfl (hb hby at_85) rfl (decide_eq_true rfl) (by decide) (by decide) ?_
    show Steps p.tables e below (T31.setTop (mkF m 88 #[iv p0, iv p1, rv b0_1, rv w_Outcome_CONFORMS, rv w_Outcome_UNDETERMINED, rv w_Outcome_UNDETERMINED, .unset] [])) _
    refine st32 _ ?_
    show Steps p.tables e below (T32.setTop (mkF m 91 #[iv p0, iv p1, rv b0_1, rv w_Outcome_CONFORMS, rv w_Outcome_UNDETERMINED, rv w_Outcome_UNDETERMINED, .unset] [(.ref w_Outcome_UNDETERMINED)])) _
    refine XS.astore X32.here hx rfl (hb hby at_91) rfl rfl (l' := #[iv p0, iv p1, rv b0_1, rv w_Outcome_CONFORMS, rv w_Outcome_UNDETERMINED, rv w_Outcome_UNDETERMINED, rv w_Outcome_UNDETERMINED]) rfl ?_
    show Steps p.tables e below (T32.setTop (mkF m 93 #[iv p0, iv p1, rv b0_1, rv w_Outcome_CONFORMS, rv w_Outcome_UNDETERMINED, rv w_Outcome_UNDETERMINED, rv w_Outcome_UNDETERMINED] [])) _
    refine XS.goto X32.here hx rfl (pc0 := 93) (pc' := 101) rfl (hb hby at_93) (by decide) (by decide) ?_
    show Steps p.tables e below (T32.setTop (mkF m 101 #[iv p0, iv p1, rv b0_1, rv w_Outcome_CONFORMS, rv w_Outcome_UNDETERMINED, rv w_Outcome_UNDETERMINED, rv w_Outcome_UNDETERMINED] [])) _
    refine XS.aload X32.here hx rfl (hb hby at_101) rfl rfl ?_
    show Steps p.tables e below (T32.setTop (mkF m 103 #[iv p0, iv p1, rv b0_1, rv w_Outcome_CONFORMS, rv w_Outcome_UNDETERMINED, rv w_Outcome_UNDETERMINED, rv w_Outcome_UNDETERMINED] [(.ref w_Outcome_UNDETERMINED)])) _
    refine XS.aload X32.here hx rfl (hb hby at_103) rfl rfl ?_
    show Steps p.tables e below (T32.setTop (mkF m 105 #[iv p0, iv p1, rv b0_1, rv w_Outcome_CONFORMS, rv w_Outcome_UNDETERMINED, rv w_Outcome_UNDETERMINED, rv w_Outcome_UNDETERMINED] [(.ref w_Outcome_UNDETERMINED), (.ref w_Outcome_UNDETERMINED)])) _
    refine Jvm.RoadKit.acmp (g := (mkF m 105 #[iv p0, iv p1, rv b0_1, rv w_Outcome_CONFORMS, rv w_Outcome_UNDETERMINED, rv w_Outcome_UNDETERMINED, rv w_Outcome_UNDETERMINED] [(.ref w_Outcome_UNDETERMINED), (.ref w_Outcome_UNDETERMINED)])) X32 hx rfl rfl rfl (pc0 := 105) (pc' := 108) (same := true) rfl (hb hby at_105) rfl (decide_eq_true rfl) (by decide) (by decide) ?_
    show Steps p.tables e below (T32.setTop (mkF m 108 #[iv p0, iv p1, rv b0_1, rv w_Outcome_CONFORMS, rv w_Outcome_UNDETERMINED, rv w_Outcome_UNDETERMINED, rv w_Outcome_UNDETERMINED] [])) _
    refine XS.iconst X32.here hx rfl (hb hby at_108) ?_
    show Steps p.tables e below (T32.setTop (mkF m 109 #[iv p0, iv p1, rv b0_1, rv w_Outcome_CONFORMS, rv w_Outcome_UNDETERMINED, rv w_Outcome_UNDETERMINED, rv w_Outcome_UNDETERMINED] [(.int (1 : Int32))])) _
    refine XS.goto X32.here hx rfl (pc0 := 109) (pc' := 113) rfl (hb hby at_109) (by decide) (by decide) ?_
    show Steps p.tables e below (T32.setTop (mkF m 113 #[iv p0, iv p1, rv b0_1, rv w_Outcome_CONFORMS, rv w_Outcome_UNDETERMINED, rv w_Outcome_UNDETERMINED, rv w_Outcome_UNDETERMINED] [(.int (1 : Int32))])) _
    exact retN X32 hx (t := .boolean) Bd.returns (by simp) (hb hby at_113) hr
  · exact ⟨rfl, N19⟩
set_option maxRecDepth 65536 in
set_option maxHeartbeats 40000000 in
theorem rm2_16 (l : Launch) (Z : State) (a0 : Array Value) (hw : ∀ d ∈ tables_1, d.before a0 Z = true) (ws : List Jvm.Cond) (w_Outcome_CONFORMS : Addr) (mr_Outcome : Addr) (h0 : Heap) (n0 : Nat) (Z0 : n0 ≤ h0.size) (E_w_Outcome_CONFORMS : Exa Z h0 w_Outcome_CONFORMS "com/example/shapewell/shapewell/Outcome") (M_mr_Outcome : own_Mir Z "com/example/shapewell/shapewell/Outcome" mr_Outcome) (F_w_Outcome_CONFORMS_ordinal : Fld Z h0 w_Outcome_CONFORMS "java/lang/Enum" "ordinal" "I" (.int (2 : Int32))) :
    MetFree l (⟨"java/lang/Enum", "compareTo", "(Ljava/lang/Enum;)I"⟩ : MethodName) (head1 (Jvm.Cond.code (⟨"java/lang/Enum", "compareTo", "(Ljava/lang/Enum;)I"⟩ : MethodName) jdk_37_method_8_code 4 (some .int) :: ws) ({ frames := 1, cells := 0, slots := 0, locals := 15 } : Room)) (fun a U => a = #[(.ref w_Outcome_CONFORMS), (.ref w_Outcome_CONFORMS)] ∧ Z.Warmed39 U.vm ∧ U.heap = h0) (fun _ _ _ _ _ => True) (fun _ U o U' => ∃ v L, o = .returned v ∧ own_QP (some (.int (0 : Int32))) h0 n0 v U'.heap L ∧ FrameEnd U o U' L ({ frames := 1, cells := 0, slots := 0, locals := 15 } : Room).cells ({ frames := 1, cells := 0, slots := 0, locals := 15 } : Room).slots) := by
  refine MetFree.of_bodySF (plainFor_of_name pn_0) hisR ?_
  intro p e s m args below meth c s₁ Bd hml0 hP hK
  obtain ⟨rfl, hZ, hh⟩ := hP
  have hx := Bd.exec
  have hby := Bd.bytes
  have hml : c.maxLocals = 4 := hml0
  have hown : s.vm.findClass "java/lang/Enum" = some m.cls := findClass_of_methodNamed Bd.named
  have hnm := (name_of_methodNamed Bd.named Bd.method).1
  have X0 : Stand p l e ({ frames := 1, cells := 0, slots := 0, locals := 15 } : Room) s m #[(.ref w_Outcome_CONFORMS), (.ref w_Outcome_CONFORMS)] below meth c s₁ [] 0 0 := Stand.of_body Bd
  have e0 : s₁.heap = h0 := by rw [← hh, Bd.state]; rfl
  have N0 := Fr.nil n0
  have pre0 : ∀ t, Steps p.tables e below (s₁.setTop (mkF m 0 #[rv w_Outcome_CONFORMS, rv w_Outcome_CONFORMS, .unset, .unset] [])) t → Steps p.tables e below (s₁.setTop (entryFrame m #[(.ref w_Outcome_CONFORMS), (.ref w_Outcome_CONFORMS)] 4)) t := fun t k => castTop (ef_2_RR m w_Outcome_CONFORMS w_Outcome_CONFORMS) k
  obtain ⟨T1, X1, e1, st1⟩ := own_gcls X0 hx hZ hown (hw _ (List.mem_of_getElem? (i := 23) rfl)) (hw _ (List.mem_of_getElem? (i := 24) rfl)) (hw _ (List.mem_of_getElem? (i := 26) rfl)) (hw _ (List.mem_of_getElem? (i := 25) rfl)) (hw _ (List.mem_of_getElem? (i := 27) rfl)) e0 E_w_Outcome_CONFORMS M_mr_Outcome (g := (mkF m 5 #[rv w_Outcome_CONFORMS, rv w_Outcome_CONFORMS, rv w_Outcome_CONFORMS, rv w_Outcome_CONFORMS] [(.ref w_Outcome_CONFORMS)])) rfl (by rw [hml]; rfl) rfl (hb hby d2_5) (by decide) (W := 0) (by show 2 * 0 + _ ≤ _; exact Nat.le_of_eq rfl) (by decide)
  obtain ⟨T2, X2, e2, st2⟩ := own_gcls X1 hx hZ hown (hw _ (List.mem_of_getElem? (i := 23) rfl)) (hw _ (List.mem_of_getElem? (i := 24) rfl)) (hw _ (List.mem_of_getElem? (i := 26) rfl)) (hw _ (List.mem_of_getElem? (i := 25) rfl)) (hw _ (List.mem_of_getElem? (i := 27) rfl)) e1 E_w_Outcome_CONFORMS M_mr_Outcome (g := (mkF m 9 #[rv w_Outcome_CONFORMS, rv w_Outcome_CONFORMS, rv w_Outcome_CONFORMS, rv w_Outcome_CONFORMS] [(.ref w_Outcome_CONFORMS), (.ref mr_Outcome)])) rfl (by rw [hml]; rfl) rfl (hb hby d2_9) (by decide) (W := 1) (by show 2 * 0 + _ ≤ _; exact Nat.le_of_eq rfl) (by decide)
  obtain ⟨T3, X3, e3, st3⟩ := getF X2 hx hZ hown (host := "") (Or.inl (hw _ (List.mem_of_getElem? (i := 28) rfl))) Via.refl e2 F_w_Outcome_CONFORMS_ordinal (g := (mkF m 35 #[rv w_Outcome_CONFORMS, rv w_Outcome_CONFORMS, rv w_Outcome_CONFORMS, rv w_Outcome_CONFORMS] [(.ref w_Outcome_CONFORMS)])) rfl rfl (hb hby d2_35)
  obtain ⟨T4, X4, e4, st4⟩ := getF X3 hx hZ hown (host := "") (Or.inl (hw _ (List.mem_of_getElem? (i := 28) rfl))) Via.refl e3 F_w_Outcome_CONFORMS_ordinal (g := (mkF m 39 #[rv w_Outcome_CONFORMS, rv w_Outcome_CONFORMS, rv w_Outcome_CONFORMS, rv w_Outcome_CONFORMS] [(.ref w_Outcome_CONFORMS), (.int (2 : Int32))])) rfl rfl (hb hby d2_39)
  obtain ⟨fs, hr, hrun, hended, hW, hsame⟩ := X4.leave (v := (some (.int (0 : Int32)))) (fun h => by rw [Bd.returns] at h; cases h)
  refine ⟨_, _, pre0 _ ?_, hrun, hended, _, _, rfl, ?_, ⟨_, rfl⟩, hW, hsame.mono (by decide) (by decide)⟩
  · show Steps p.tables e below (s₁.setTop (mkF m 0 #[rv w_Outcome_CONFORMS, rv w_Outcome_CONFORMS, .unset, .unset] [])) _
    refine XS.aloadN X0.here hx rfl (hb hby d2_0) rfl rfl ?_
    show Steps p.tables e below (s₁.setTop (mkF m 1 #[rv w_Outcome_CONFORMS, rv w_Outcome_CONFORMS, .unset, .unset] [(.ref w_Outcome_CONFORMS)])) _
    refine XS.astoreN X0.here hx rfl (hb hby d2_1) rfl rfl (l' := #[rv w_Outcome_CONFORMS, rv w_Outcome_CONFORMS, rv w_Outcome_CONFORMS, .unset]) rfl ?_
    show Steps p.tables e below (s₁.setTop (mkF m 2 #[rv w_Outcome_CONFORMS, rv w_Outcome_CONFORMS, rv w_Outcome_CONFORMS, .unset] [])) _
    refine XS.aloadN X0.here hx rfl (hb hby d2_2) rfl rfl ?_
    show Steps p.tables e below (s₁.setTop (mkF m 3 #[rv w_Outcome_CONFORMS, rv w_Outcome_CONFORMS, rv w_Outcome_CONFORMS, .unset] [(.ref w_Outcome_CONFORMS)])) _
    refine XS.astoreN X0.here hx rfl (hb hby d2_3) rfl rfl (l' := #[rv w_Outcome_CONFORMS, rv w_Outcome_CONFORMS, rv w_Outcome_CONFORMS, rv w_Outcome_CONFORMS]) rfl ?_
    show Steps p.tables e below (s₁.setTop (mkF m 4 #[rv w_Outcome_CONFORMS, rv w_Outcome_CONFORMS, rv w_Outcome_CONFORMS, rv w_Outcome_CONFORMS] [])) _
    refine XS.aloadN X0.here hx rfl (hb hby d2_4) rfl rfl ?_
    show Steps p.tables e below (s₁.setTop (mkF m 5 #[rv w_Outcome_CONFORMS, rv w_Outcome_CONFORMS, rv w_Outcome_CONFORMS, rv w_Outcome_CONFORMS] [(.ref w_Outcome_CONFORMS)])) _
    refine st1 _ ?_
    show Steps p.tables e below (T1.setTop (mkF m 8 #[rv w_Outcome_CONFORMS, rv w_Outcome_CONFORMS, rv w_Outcome_CONFORMS, rv w_Outcome_CONFORMS] [(.ref mr_Outcome)])) _
    refine XS.aloadN X1.here hx rfl (hb hby d2_8) rfl rfl ?_
    show Steps p.tables e below (T1.setTop (mkF m 9 #[rv w_Outcome_CONFORMS, rv w_Outcome_CONFORMS, rv w_Outcome_CONFORMS, rv w_Outcome_CONFORMS] [(.ref w_Outcome_CONFORMS), (.ref mr_Outcome)])) _
    refine st2 _ ?_
    show Steps p.tables e below (T2.setTop (mkF m 12 #[rv w_Outcome_CONFORMS, rv w_Outcome_CONFORMS, rv w_Outcome_CONFORMS, rv w_Outcome_CONFORMS] [(.ref mr_Outcome), (.ref mr_Outcome)])) _
    refine Jvm.RoadKit.acmp (g := (mkF m 12 #[rv w_Outcome_CONFORMS, rv w_Outcome_CONFORMS, rv w_Outcome_CONFORMS, rv w_Outcome_CONFORMS] [(.ref mr_Outcome), (.ref mr_Outcome)])) X2 hx rfl rfl rfl (pc0 := 12) (pc' := 34) (same := true) rfl (hb hby d2_12) rfl (decide_eq_true rfl) (by decide) (by decide) ?_
    show Steps p.tables e below (T2.setTop (mkF m 34 #[rv w_Outcome_CONFORMS, rv w_Outcome_CONFORMS, rv w_Outcome_CONFORMS, rv w_Outcome_CONFORMS] [])) _
    refine XS.aloadN X2.here hx rfl (hb hby d2_34) rfl rfl ?_
    show Steps p.tables e below (T2.setTop (mkF m 35 #[rv w_Outcome_CONFORMS, rv w_Outcome_CONFORMS, rv w_Outcome_CONFORMS, rv w_Outcome_CONFORMS] [(.ref w_Outcome_CONFORMS)])) _
    refine st3 _ ?_
    show Steps p.tables e below (T3.setTop (mkF m 38 #[rv w_Outcome_CONFORMS, rv w_Outcome_CONFORMS, rv w_Outcome_CONFORMS, rv w_Outcome_CONFORMS] [(.int (2 : Int32))])) _
    refine XS.aloadN X3.here hx rfl (hb hby d2_38) rfl rfl ?_
    show Steps p.tables e below (T3.setTop (mkF m 39 #[rv w_Outcome_CONFORMS, rv w_Outcome_CONFORMS, rv w_Outcome_CONFORMS, rv w_Outcome_CONFORMS] [(.ref w_Outcome_CONFORMS), (.int (2 : Int32))])) _
    refine st4 _ ?_
    show Steps p.tables e below (T4.setTop (mkF m 42 #[rv w_Outcome_CONFORMS, rv w_Outcome_CONFORMS, rv w_Outcome_CONFORMS, rv w_Outcome_CONFORMS] [(.int (2 : Int32)), (.int (2 : Int32))])) _
    refine XS.isub X4.here hx rfl (hb hby d2_42) rfl ?_
    show Steps p.tables e below (T4.setTop (mkF m 43 #[rv w_Outcome_CONFORMS, rv w_Outcome_CONFORMS, rv w_Outcome_CONFORMS, rv w_Outcome_CONFORMS] [(.int ((2 : Int32) - (2 : Int32)))])) _
    rewrite [show ((2 : Int32) - (2 : Int32)) = (0 : Int32) from by decide +kernel]
    show Steps p.tables e below (T4.setTop (mkF m 43 #[rv w_Outcome_CONFORMS, rv w_Outcome_CONFORMS, rv w_Outcome_CONFORMS, rv w_Outcome_CONFORMS] [(.int (0 : Int32))])) _
    exact retI X4 hx Bd.returns (hb hby d2_43) hr
  · exact ⟨rfl, N0, e4⟩
set_option maxRecDepth 65536 in
set_option maxHeartbeats 40000000 in
theorem rm1_16 (l : Launch) (Z : State) (a0 : Array Value) (hw : ∀ d ∈ tables_1, d.before a0 Z = true) (ws : List Jvm.Cond) (w_Outcome_CONFORMS : Addr) (mr_Outcome : Addr) (h0 : Heap) (n0 : Nat) (Z0 : n0 ≤ h0.size) (E_w_Outcome_CONFORMS : Exa Z h0 w_Outcome_CONFORMS "com/example/shapewell/shapewell/Outcome") (M_mr_Outcome : own_Mir Z "com/example/shapewell/shapewell/Outcome" mr_Outcome) (F_w_Outcome_CONFORMS_ordinal : Fld Z h0 w_Outcome_CONFORMS "java/lang/Enum" "ordinal" "I" (.int (2 : Int32))) :
    MetFree l (⟨"com/example/shapewell/shapewell/Outcome", "and", "(Lcom/example/shapewell/shapewell/Outcome;)Lcom/example/shapewell/shapewell/Outcome;"⟩ : MethodName) (head1 (Jvm.Cond.code (⟨"com/example/shapewell/shapewell/Outcome", "and", "(Lcom/example/shapewell/shapewell/Outcome;)Lcom/example/shapewell/shapewell/Outcome;"⟩ : MethodName) prog_3_method_5_code 2 (some (.object "com/example/shapewell/shapewell/Outcome")) :: ws) ({ frames := 2, cells := 0, slots := 0, locals := 30 } : Room)) (fun a U => a = #[(.ref w_Outcome_CONFORMS), (.ref w_Outcome_CONFORMS)] ∧ Z.Warmed39 U.vm ∧ U.heap = h0) (fun _ _ _ _ _ => True) (fun _ U o U' => ∃ v L, o = .returned v ∧ own_QP (some (.ref w_Outcome_CONFORMS)) h0 n0 v U'.heap L ∧ FrameEnd U o U' L ({ frames := 2, cells := 0, slots := 0, locals := 30 } : Room).cells ({ frames := 2, cells := 0, slots := 0, locals := 30 } : Room).slots) := by
  refine MetFree.of_bodySF (plainFor_of_name pn_1) hisR ?_
  intro p e s m args below meth c s₁ Bd hml0 hP hK
  obtain ⟨rfl, hZ, hh⟩ := hP
  have hx := Bd.exec
  have hby := Bd.bytes
  have hml : c.maxLocals = 2 := hml0
  have hown : s.vm.findClass "com/example/shapewell/shapewell/Outcome" = some m.cls := findClass_of_methodNamed Bd.named
  have hnm := (name_of_methodNamed Bd.named Bd.method).1
  have X0 : Stand p l e ({ frames := 2, cells := 0, slots := 0, locals := 30 } : Room) s m #[(.ref w_Outcome_CONFORMS), (.ref w_Outcome_CONFORMS)] below meth c s₁ [] 0 0 := Stand.of_body Bd
  have e0 : s₁.heap = h0 := by rw [← hh, Bd.state]; rfl
  have N0 := Fr.nil n0
  have pre0 : ∀ t, Steps p.tables e below (s₁.setTop (mkF m 0 #[rv w_Outcome_CONFORMS, rv w_Outcome_CONFORMS] [])) t → Steps p.tables e below (s₁.setTop (entryFrame m #[(.ref w_Outcome_CONFORMS), (.ref w_Outcome_CONFORMS)] 2)) t := fun t k => castTop (ef_1_RR m w_Outcome_CONFORMS w_Outcome_CONFORMS) k
  obtain ⟨cq1, kq1, q1a, q1b, q1c⟩ := isOf hZ e0 E_w_Outcome_CONFORMS
  obtain ⟨_, _, ⟨T1, L1, k1, n1⟩, -, X1, ⟨Lc1, hQ1, l1, y1, z1⟩, st1⟩ := X0.virtualBackUp hx (x := (⟨"com/example/shapewell/shapewell/Outcome", "compareTo", "(Ljava/lang/Enum;)I"⟩ : MethodName)) (y := (⟨"java/lang/Enum", "compareTo", "(Ljava/lang/Enum;)I"⟩ : MethodName)) hown (mvT hZ (hw _ (List.mem_of_getElem? (i := 16) rfl))) (mvT hZ (hw _ (List.mem_of_getElem? (i := 17) rfl))) (mvT hZ (hw _ (List.mem_of_getElem? (i := 18) rfl))) (by decide) (mvT hZ (hw _ (List.mem_of_getElem? (i := 20) rfl))) (mvT hZ (hw _ (List.mem_of_getElem? (i := 19) rfl))) (backOf (W := 0) (rm2_16 l Z a0 hw [] w_Outcome_CONFORMS mr_Outcome h0 n0 Z0 E_w_Outcome_CONFORMS M_mr_Outcome F_w_Outcome_CONFORMS_ordinal) hZ (hw _ (List.mem_of_getElem? (i := 22) rfl)) (hw _ (List.mem_of_getElem? (i := 21) rfl)) (by decide) (by decide)) q1a q1c (g := (mkF m 2 #[rv w_Outcome_CONFORMS, rv w_Outcome_CONFORMS] [(.ref w_Outcome_CONFORMS), (.ref w_Outcome_CONFORMS)])) rfl (by rw [hml]; rfl) (Steps.refl _) (argsL := [(.ref w_Outcome_CONFORMS)]) (rest := []) (lenOf pd_0 rfl) rfl (by show 2 * 0 + _ ≤ _; exact Nat.le_of_eq rfl) (hb hby d1_2) (fun _ _ => ⟨rfl, e0, (by decide : 0 + 0 ≤ _), (by decide : 0 + 0 ≤ _)⟩)
  dsimp only [Pt.U, Pt.locs, Pt.cells, Pt.slots] at X1 l1 y1 z1 st1 hQ1
  subst l1 y1 z1
  obtain ⟨rfl, N1q, e1⟩ := hQ1
  have N1 := Fr.app N0 N1q
  obtain ⟨fs, hr, hrun, hended, hW, hsame⟩ := X1.leave (v := (some (.ref w_Outcome_CONFORMS))) (fun h => by rw [Bd.returns] at h; cases h)
  refine ⟨_, _, pre0 _ ?_, hrun, hended, _, _, rfl, ?_, ⟨_, rfl⟩, hW, hsame.mono (by decide) (by decide)⟩
  · show Steps p.tables e below (s₁.setTop (mkF m 0 #[rv w_Outcome_CONFORMS, rv w_Outcome_CONFORMS] [])) _
    refine XS.aloadN X0.here hx rfl (hb hby d1_0) rfl rfl ?_
    show Steps p.tables e below (s₁.setTop (mkF m 1 #[rv w_Outcome_CONFORMS, rv w_Outcome_CONFORMS] [(.ref w_Outcome_CONFORMS)])) _
    refine XS.aloadN X0.here hx rfl (hb hby d1_1) rfl rfl ?_
    show Steps p.tables e below (s₁.setTop (mkF m 2 #[rv w_Outcome_CONFORMS, rv w_Outcome_CONFORMS] [(.ref w_Outcome_CONFORMS), (.ref w_Outcome_CONFORMS)])) _
    refine st1.trans ?_
    show Steps p.tables e below (T1.setTop (mkF m 5 #[rv w_Outcome_CONFORMS, rv w_Outcome_CONFORMS] [(.int (0 : Int32))])) _
    refine XS.ifNo X1.here hx rfl (hb hby d1_5) rfl ((if0 _ _).trans (flt (by decide +kernel : ¬ ((0 : Int32) < (0 : Int32)))).2.2.1) ?_
    show Steps p.tables e below (T1.setTop (mkF m 8 #[rv w_Outcome_CONFORMS, rv w_Outcome_CONFORMS] [])) _
    refine XS.aloadN X1.here hx rfl (hb hby d1_8) rfl rfl ?_
    show Steps p.tables e below (T1.setTop (mkF m 9 #[rv w_Outcome_CONFORMS, rv w_Outcome_CONFORMS] [(.ref w_Outcome_CONFORMS)])) _
    refine XS.goto X1.here hx rfl (pc0 := 9) (pc' := 13) rfl (hb hby d1_9) (by decide) (by decide) ?_
    show Steps p.tables e below (T1.setTop (mkF m 13 #[rv w_Outcome_CONFORMS, rv w_Outcome_CONFORMS] [(.ref w_Outcome_CONFORMS)])) _
    exact own_retA X1 hx Bd.returns rfl rfl (hb hby d1_13) hr
  · exact ⟨rfl, N1, e1⟩
set_option maxRecDepth 65536 in
set_option maxHeartbeats 40000000 in
theorem rm0_8 (l : Launch) (Z : State) (a0 : Array Value) (hw : ∀ d ∈ tables_1, d.before a0 Z = true) (ws : List Jvm.Cond) (p0 : Int32) (p1 : Int32) (w_Outcome_VIOLATES : Addr) (w_Outcome_UNDETERMINED : Addr) (w_Outcome_CONFORMS : Addr) (mr_Outcome : Addr) (h0 : Heap) (n0 : Nat) (Z0 : n0 ≤ h0.size) (S_Outcome_VIOLATES : Sta Z h0 "com/example/shapewell/shapewell/Outcome" "VIOLATES" "Lcom/example/shapewell/shapewell/Outcome;" (.ref w_Outcome_VIOLATES)) (E_w_Outcome_VIOLATES : Exa Z h0 w_Outcome_VIOLATES "com/example/shapewell/shapewell/Outcome") (S_Outcome_UNDETERMINED : Sta Z h0 "com/example/shapewell/shapewell/Outcome" "UNDETERMINED" "Lcom/example/shapewell/shapewell/Outcome;" (.ref w_Outcome_UNDETERMINED)) (E_w_Outcome_UNDETERMINED : Exa Z h0 w_Outcome_UNDETERMINED "com/example/shapewell/shapewell/Outcome") (S_Outcome_CONFORMS : Sta Z h0 "com/example/shapewell/shapewell/Outcome" "CONFORMS" "Lcom/example/shapewell/shapewell/Outcome;" (.ref w_Outcome_CONFORMS)) (E_w_Outcome_CONFORMS : Exa Z h0 w_Outcome_CONFORMS "com/example/shapewell/shapewell/Outcome") (hk0 : ((p0 &&& (2147483647 : Int32)) % (3 : Int32)) = (2 : Int32)) (hk1 : ((p1 &&& (2147483647 : Int32)) % (3 : Int32)) = (2 : Int32)) (M_mr_Outcome : own_Mir Z "com/example/shapewell/shapewell/Outcome" mr_Outcome) (F_w_Outcome_CONFORMS_ordinal : Fld Z h0 w_Outcome_CONFORMS "java/lang/Enum" "ordinal" "I" (.int (2 : Int32))) (ne_w_Outcome_CONFORMS_w_Outcome_VIOLATES : ¬ (w_Outcome_CONFORMS = w_Outcome_VIOLATES)) (ne_w_Outcome_CONFORMS_w_Outcome_UNDETERMINED : ¬ (w_Outcome_CONFORMS = w_Outcome_UNDETERMINED)) :
    MetFree l x (head1 (Jvm.Cond.code x code maxLocals ret :: ws) room_1) (fun a U => a = #[(.int p0), (.int p1)] ∧ Z.Warmed39 U.vm ∧ U.heap = h0) (fun _ _ _ _ _ => True) (fun _ U o U' => ∃ v L, o = .returned v ∧ own_QL n0 v U'.heap L ∧ FrameEnd U o U' L room_1.cells room_1.slots) := by
  refine MetFree.of_bodySF (plainFor_of_name pn_2) hisR ?_
  intro p e s m args below meth c s₁ Bd hml0 hP hK
  obtain ⟨rfl, hZ, hh⟩ := hP
  have hx := Bd.exec
  have hby := Bd.bytes
  have hml : c.maxLocals = 7 := hml0
  have hown : s.vm.findClass "com/example/shapewell/shapewell/OutcomeAndPinLaw" = some m.cls := findClass_of_methodNamed Bd.named
  have hnm := (name_of_methodNamed Bd.named Bd.method).1
  have X0 : Stand p l e room_1 s m #[(.int p0), (.int p1)] below meth c s₁ [] 0 0 := Stand.of_body Bd
  have e0 : s₁.heap = h0 := by rw [← hh, Bd.state]; rfl
  have N0 := Fr.nil n0
  have pre0 : ∀ t, Steps p.tables e below (s₁.setTop (mkF m 0 #[iv p0, iv p1, .unset, .unset, .unset, .unset, .unset] [])) t → Steps p.tables e below (s₁.setTop (entryFrame m #[(.int p0), (.int p1)] maxLocals)) t := fun t k => castTop (ef_0_II m p0 p1) k
  obtain ⟨T1, h1, k0_1, X1, e1, E1, A1, O1, st1⟩ := newR X0 hx hZ hown (hw _ (List.mem_of_getElem? (i := 0) rfl)) (hw _ (List.mem_of_getElem? (i := 1) rfl)) e0 (g := (mkF m 1 #[iv p0, iv p1, .unset, .unset, .unset, .unset, .unset] [(.int (3 : Int32))])) rfl (hb hby at_1) rfl (by decide) (cap := 3) (by decide) (by decide) (by decide) (by decide)
  obtain ⟨b0_1, gg1⟩ : ∃ z, z = h0.size := ⟨_, rfl⟩
  rw [← gg1] at A1 st1
  have g_b0_1 : n0 ≤ b0_1 := Nat.le_trans Z0 (Nat.le_of_eq gg1.symm)
  have sz_b0_1 : h0.size ≤ b0_1 := Nat.le_trans (Keep.refl h0 []).1 (Nat.le_of_eq gg1.symm)
  have Z1 : n0 ≤ h1.size := Nat.le_trans Z0 E1.1
  have KK1 : Keep h0 h1 [] := (Keep.refl h0 []).ext E1
  have V_b0_1 : Arv Z h1 b0_1 k0_1 (.object "com/example/shapewell/shapewell/Outcome") (3 : Int32) [.null, .null, .null] .null := (Arv.new A1 (by decide)).pad (pad_rep [] .null 3)
  have c2 := (S_Outcome_VIOLATES.ext E1)
  obtain ⟨T3, X3, e3, st3⟩ := getS2 X1 hx hZ hown (host := "") (Or.inl (hw _ (List.mem_of_getElem? (i := 2) rfl))) Via.refl e1 c2 (g := (mkF m 6 #[iv p0, iv p1, .unset, .unset, .unset, .unset, .unset] [(.int (0 : Int32)), (.ref b0_1), (.ref b0_1)])) rfl (hb hby at_6)
  obtain ⟨cl4, Ar4, qq4, Sz4, Nn4, Hs4, Gs4⟩ := id V_b0_1
  have hin4 : ¬ ((0 : Int32) < 0 ∨ cl4.slots.size ≤ ((0 : Int32)).toNatClampNeg) := inb_of Sz4 ⟨by decide, by decide⟩
  have c5 := (E_w_Outcome_VIOLATES.ext E1)
  obtain ⟨T6, h6, X6, e6, W6, st6⟩ := stR X3 hx hZ e3 Ar4 (j := (0 : Int32)) hin4 rfl (Sto.ofV Ar4 qq4 O1 (Ins.self c5)) (g := (mkF m 9 #[iv p0, iv p1, .unset, .unset, .unset, .unset, .unset] [(.ref w_Outcome_VIOLATES), (.int (0 : Int32)), (.ref b0_1), (.ref b0_1)])) rfl rfl (hb hby at_9)
  have vb6 : Arv Z h6 b0_1 k0_1 (.object "com/example/shapewell/shapewell/Outcome") (3 : Int32) [(.ref w_Outcome_VIOLATES), .null, .null] .null := Arv.set Ar4 qq4 Sz4 Nn4 Hs4 Gs4 rfl W6 0 rfl (Nat.le_of_ble_eq_true rfl)
  have Z6 : n0 ≤ h6.size := Nat.le_trans Z1 (Keep.of_wr W6).1
  have KK6 : Keep h0 h6 [] := KK1.wr W6 (Or.inr sz_b0_1)
  have N6 := Fr.snoc X6 N0 g_b0_1
  have c7 := ((S_Outcome_UNDETERMINED.ext E1).wr W6)
  obtain ⟨T8, X8, e8, st8⟩ := getS2 X6 hx hZ hown (host := "") (Or.inl (hw _ (List.mem_of_getElem? (i := 6) rfl))) Via.refl e6 c7 (g := (mkF m 12 #[iv p0, iv p1, .unset, .unset, .unset, .unset, .unset] [(.int (1 : Int32)), (.ref b0_1), (.ref b0_1)])) rfl (hb hby at_12)
  obtain ⟨cl9, Ar9, qq9, Sz9, Nn9, Hs9, Gs9⟩ := id vb6
  have hin9 : ¬ ((1 : Int32) < 0 ∨ cl9.slots.size ≤ ((1 : Int32)).toNatClampNeg) := inb_of Sz9 ⟨by decide, by decide⟩
  have c10 := ((E_w_Outcome_UNDETERMINED.ext E1).wr W6)
  obtain ⟨T11, h11, X11, e11, W11, st11⟩ := stR X8 hx hZ e8 Ar9 (j := (1 : Int32)) hin9 rfl (Sto.ofV Ar9 qq9 O1 (Ins.self c10)) (g := (mkF m 15 #[iv p0, iv p1, .unset, .unset, .unset, .unset, .unset] [(.ref w_Outcome_UNDETERMINED), (.int (1 : Int32)), (.ref b0_1), (.ref b0_1)])) rfl rfl (hb hby at_15)
  have vb11 : Arv Z h11 b0_1 k0_1 (.object "com/example/shapewell/shapewell/Outcome") (3 : Int32) [(.ref w_Outcome_VIOLATES), (.ref w_Outcome_UNDETERMINED), .null] .null := Arv.set Ar9 qq9 Sz9 Nn9 Hs9 Gs9 rfl W11 1 rfl (Nat.le_of_ble_eq_true rfl)
  have Z11 : n0 ≤ h11.size := Nat.le_trans Z6 (Keep.of_wr W11).1
  have KK11 : Keep h0 h11 [] := KK6.wr W11 (Or.inr sz_b0_1)
  have N11 := Fr.snoc X11 N6 g_b0_1
  have c12 := (((S_Outcome_CONFORMS.ext E1).wr W6).wr W11)
  obtain ⟨T13, X13, e13, st13⟩ := getS2 X11 hx hZ hown (host := "") (Or.inl (hw _ (List.mem_of_getElem? (i := 8) rfl))) Via.refl e11 c12 (g := (mkF m 18 #[iv p0, iv p1, .unset, .unset, .unset, .unset, .unset] [(.int (2 : Int32)), (.ref b0_1), (.ref b0_1)])) rfl (hb hby at_18)
  obtain ⟨cl14, Ar14, qq14, Sz14, Nn14, Hs14, Gs14⟩ := id vb11
  have hin14 : ¬ ((2 : Int32) < 0 ∨ cl14.slots.size ≤ ((2 : Int32)).toNatClampNeg) := inb_of Sz14 ⟨by decide, by decide⟩
  have c15 := (((E_w_Outcome_CONFORMS.ext E1).wr W6).wr W11)
  obtain ⟨T16, h16, X16, e16, W16, st16⟩ := stR X13 hx hZ e13 Ar14 (j := (2 : Int32)) hin14 rfl (Sto.ofV Ar14 qq14 O1 (Ins.self c15)) (g := (mkF m 21 #[iv p0, iv p1, .unset, .unset, .unset, .unset, .unset] [(.ref w_Outcome_CONFORMS), (.int (2 : Int32)), (.ref b0_1), (.ref b0_1)])) rfl rfl (hb hby at_21)
  have vb16 : Arv Z h16 b0_1 k0_1 (.object "com/example/shapewell/shapewell/Outcome") (3 : Int32) [(.ref w_Outcome_VIOLATES), (.ref w_Outcome_UNDETERMINED), (.ref w_Outcome_CONFORMS)] .null := Arv.set Ar14 qq14 Sz14 Nn14 Hs14 Gs14 rfl W16 2 rfl (Nat.le_of_ble_eq_true rfl)
  have Z16 : n0 ≤ h16.size := Nat.le_trans Z11 (Keep.of_wr W16).1
  have KK16 : Keep h0 h16 [] := KK11.wr W16 (Or.inr sz_b0_1)
  have N16 := Fr.snoc X16 N11 g_b0_1
  obtain ⟨cl17, Ar17, -, Sz17, Nn17, Hs17, Gs17⟩ := id vb16
  have hin17 : ¬ ((2 : Int32) < 0 ∨ cl17.slots.size ≤ ((2 : Int32)).toNatClampNeg) := inb_of Sz17 ⟨by decide, by decide⟩
  obtain ⟨cl18, Ar18, -, Sz18, Nn18, Hs18, Gs18⟩ := id vb16
  have hin18 : ¬ ((2 : Int32) < 0 ∨ cl18.slots.size ≤ ((2 : Int32)).toNatClampNeg) := inb_of Sz18 ⟨by decide, by decide⟩
  have c20 := (c15.wr W16)
  have ne_b0_1_w_Outcome_CONFORMS_21 : ¬ (b0_1 = w_Outcome_CONFORMS) := (Ne.symm (Nat.ne_of_lt (Nat.lt_of_lt_of_le (E_w_Outcome_CONFORMS).lt (Nat.le_of_eq gg1.symm))))
  have c22 := ((((F_w_Outcome_CONFORMS_ordinal.ext E1).other W6 (Or.inl (Ne.symm ne_b0_1_w_Outcome_CONFORMS_21))).other W11 (Or.inl (Ne.symm ne_b0_1_w_Outcome_CONFORMS_21))).other W16 (Or.inl (Ne.symm ne_b0_1_w_Outcome_CONFORMS_21)))
  obtain ⟨cq19, kq19, q19a, q19b, q19c⟩ := isOf hZ e16 c20
  obtain ⟨_, _, ⟨T19, L19, k19, n19⟩, -, X19, ⟨Lc19, hQ19, l19, y19, z19⟩, st19⟩ := X16.virtualBack hx (y := (⟨"com/example/shapewell/shapewell/Outcome", "and", "(Lcom/example/shapewell/shapewell/Outcome;)Lcom/example/shapewell/shapewell/Outcome;"⟩ : MethodName)) (z := (⟨"com/example/shapewell/shapewell/Outcome", "and", "(Lcom/example/shapewell/shapewell/Outcome;)Lcom/example/shapewell/shapewell/Outcome;"⟩ : MethodName)) hown (mvT hZ (hw _ (List.mem_of_getElem? (i := 11) rfl))) (mvT hZ (hw _ (List.mem_of_getElem? (i := 12) rfl))) (notFace_of_selects (args := #[]) (mvT hZ (hw _ (List.mem_of_getElem? (i := 14) rfl)))) (mvT hZ (hw _ (List.mem_of_getElem? (i := 14) rfl))) (mvT hZ (hw _ (List.mem_of_getElem? (i := 13) rfl))) (by decide) (backOf (W := 0) (rm1_16 l Z a0 hw [] w_Outcome_CONFORMS mr_Outcome h16 n0 Z16 c20 M_mr_Outcome c22) hZ (hw _ (List.mem_of_getElem? (i := 15) rfl)) (hw _ (List.mem_of_getElem? (i := 3) rfl)) (by decide) (by decide)) q19a q19c (g := (mkF m 45 #[iv p0, iv p1, rv b0_1, rv w_Outcome_CONFORMS, rv w_Outcome_CONFORMS, .unset, .unset] [(.ref w_Outcome_CONFORMS), (.ref w_Outcome_CONFORMS)])) rfl (by rw [hml]; rfl) (Steps.refl _) (argsL := [(.ref w_Outcome_CONFORMS)]) (rest := []) (lenOf pd_1 rfl) rfl (by show 2 * 0 + _ ≤ _; exact Nat.le_of_eq rfl) (hb hby at_45) (fun _ _ => ⟨rfl, e16, (by decide : 1 + 0 ≤ _), (by decide : 3 + 0 ≤ _)⟩)
  dsimp only [Pt.U, Pt.locs, Pt.cells, Pt.slots] at X19 l19 y19 z19 st19 hQ19
  subst l19 y19 z19
  obtain ⟨rfl, N19q, e19⟩ := hQ19
  have N19 := Fr.app N16 N19q
  have c23 := (((c2.wr W6).wr W11).wr W16)
  obtain ⟨T24, X24, e24, st24⟩ := getS2 X19 hx hZ hown (host := "") (Or.inl (hw _ (List.mem_of_getElem? (i := 2) rfl))) Via.refl e19 c23 (g := (mkF m 51 #[iv p0, iv p1, rv b0_1, rv w_Outcome_CONFORMS, rv w_Outcome_CONFORMS, rv w_Outcome_CONFORMS, .unset] [(.ref w_Outcome_CONFORMS)])) rfl (hb hby at_51)
  obtain ⟨T25, X25, e25, st25⟩ := getS2 X24 hx hZ hown (host := "") (Or.inl (hw _ (List.mem_of_getElem? (i := 2) rfl))) Via.refl e24 c23 (g := (mkF m 59 #[iv p0, iv p1, rv b0_1, rv w_Outcome_CONFORMS, rv w_Outcome_CONFORMS, rv w_Outcome_CONFORMS, .unset] [(.ref w_Outcome_CONFORMS)])) rfl (hb hby at_59)
  have c26 := ((c7.wr W11).wr W16)
  obtain ⟨T27, X27, e27, st27⟩ := getS2 X25 hx hZ hown (host := "") (Or.inl (hw _ (List.mem_of_getElem? (i := 6) rfl))) Via.refl e25 c26 (g := (mkF m 74 #[iv p0, iv p1, rv b0_1, rv w_Outcome_CONFORMS, rv w_Outcome_CONFORMS, rv w_Outcome_CONFORMS, .unset] [(.ref w_Outcome_CONFORMS)])) rfl (hb hby at_74)
  obtain ⟨T28, X28, e28, st28⟩ := getS2 X27 hx hZ hown (host := "") (Or.inl (hw _ (List.mem_of_getElem? (i := 6) rfl))) Via.refl e27 c26 (g := (mkF m 82 #[iv p0, iv p1, rv b0_1, rv w_Outcome_CONFORMS, rv w_Outcome_CONFORMS, rv w_Outcome_CONFORMS, .unset] [(.ref w_Outcome_CONFORMS)])) rfl (hb hby at_82)
  have c29 := (c12.wr W16)
  obtain ⟨T30, X30, e30, st30⟩ := getS2 X28 hx hZ hown (host := "") (Or.inl (hw _ (List.mem_of_getElem? (i := 8) rfl))) Via.refl e28 c29 (g := (mkF m 96 #[iv p0, iv p1, rv b0_1, rv w_Outcome_CONFORMS, rv w_Outcome_CONFORMS, rv w_Outcome_CONFORMS, .unset] [])) rfl (hb hby at_96)
  obtain ⟨fs, hr, hrun, hended, hW, hsame⟩ := X30.leave (v := (some (.int (1 : Int32)))) (fun h => by rw [Bd.returns] at h; cases h)
  refine ⟨_, _, pre0 _ ?_, hrun, hended, _, _, rfl, ?_, ⟨_, rfl⟩, hW, hsame.mono (by decide) (by decide)⟩
  · show Steps p.tables e below (s₁.setTop (mkF m 0 #[iv p0, iv p1, .unset, .unset, .unset, .unset, .unset] [])) _
    refine XS.iconst X0.here hx rfl (hb hby at_0) ?_
    show Steps p.tables e below (s₁.setTop (mkF m 1 #[iv p0, iv p1, .unset, .unset, .unset, .unset, .unset] [(.int (3 : Int32))])) _
    refine st1 _ ?_
    show Steps p.tables e below (T1.setTop (mkF m 4 #[iv p0, iv p1, .unset, .unset, .unset, .unset, .unset] [(.ref b0_1)])) _
    refine XS.dup X1.here hx rfl (hb hby at_4) rfl rfl ?_
    show Steps p.tables e below (T1.setTop (mkF m 5 #[iv p0, iv p1, .unset, .unset, .unset, .unset, .unset] [(.ref b0_1), (.ref b0_1)])) _
    refine XS.iconst X1.here hx rfl (hb hby at_5) ?_
    show Steps p.tables e below (T1.setTop (mkF m 6 #[iv p0, iv p1, .unset, .unset, .unset, .unset, .unset] [(.int (0 : Int32)), (.ref b0_1), (.ref b0_1)])) _
    refine st3 _ ?_
    show Steps p.tables e below (T3.setTop (mkF m 9 #[iv p0, iv p1, .unset, .unset, .unset, .unset, .unset] [(.ref w_Outcome_VIOLATES), (.int (0 : Int32)), (.ref b0_1), (.ref b0_1)])) _
    refine st6 _ ?_
    show Steps p.tables e below (T6.setTop (mkF m 10 #[iv p0, iv p1, .unset, .unset, .unset, .unset, .unset] [(.ref b0_1)])) _
    refine XS.dup X6.here hx rfl (hb hby at_10) rfl rfl ?_
    show Steps p.tables e below (T6.setTop (mkF m 11 #[iv p0, iv p1, .unset, .unset, .unset, .unset, .unset] [(.ref b0_1), (.ref b0_1)])) _
    refine XS.iconst X6.here hx rfl (hb hby at_11) ?_
    show Steps p.tables e below (T6.setTop (mkF m 12 #[iv p0, iv p1, .unset, .unset, .unset, .unset, .unset] [(.int (1 : Int32)), (.ref b0_1), (.ref b0_1)])) _
    refine st8 _ ?_
    show Steps p.tables e below (T8.setTop (mkF m 15 #[iv p0, iv p1, .unset, .unset, .unset, .unset, .unset] [(.ref w_Outcome_UNDETERMINED), (.int (1 : Int32)), (.ref b0_1), (.ref b0_1)])) _
    refine st11 _ ?_
    show Steps p.tables e below (T11.setTop (mkF m 16 #[iv p0, iv p1, .unset, .unset, .unset, .unset, .unset] [(.ref b0_1)])) _
    refine XS.dup X11.here hx rfl (hb hby at_16) rfl rfl ?_
    show Steps p.tables e below (T11.setTop (mkF m 17 #[iv p0, iv p1, .unset, .unset, .unset, .unset, .unset] [(.ref b0_1), (.ref b0_1)])) _
    refine XS.iconst X11.here hx rfl (hb hby at_17) ?_
    show Steps p.tables e below (T11.setTop (mkF m 18 #[iv p0, iv p1, .unset, .unset, .unset, .unset, .unset] [(.int (2 : Int32)), (.ref b0_1), (.ref b0_1)])) _
    refine st13 _ ?_
    show Steps p.tables e below (T13.setTop (mkF m 21 #[iv p0, iv p1, .unset, .unset, .unset, .unset, .unset] [(.ref w_Outcome_CONFORMS), (.int (2 : Int32)), (.ref b0_1), (.ref b0_1)])) _
    refine st16 _ ?_
    show Steps p.tables e below (T16.setTop (mkF m 22 #[iv p0, iv p1, .unset, .unset, .unset, .unset, .unset] [(.ref b0_1)])) _
    refine XS.astoreN X16.here hx rfl (hb hby at_22) rfl rfl (l' := #[iv p0, iv p1, rv b0_1, .unset, .unset, .unset, .unset]) rfl ?_
    show Steps p.tables e below (T16.setTop (mkF m 23 #[iv p0, iv p1, rv b0_1, .unset, .unset, .unset, .unset] [])) _
    refine XS.aloadN X16.here hx rfl (hb hby at_23) rfl rfl ?_
    show Steps p.tables e below (T16.setTop (mkF m 24 #[iv p0, iv p1, rv b0_1, .unset, .unset, .unset, .unset] [(.ref b0_1)])) _
    refine XS.iloadN X16.here hx rfl (hb hby at_24) rfl ?_
    show Steps p.tables e below (T16.setTop (mkF m 25 #[iv p0, iv p1, rv b0_1, .unset, .unset, .unset, .unset] [(.int p0), (.ref b0_1)])) _
    refine X16.ldcInt hx hown (mvT hZ (hw _ (List.mem_of_getElem? (i := 10) rfl))) (g := (mkF m 25 #[iv p0, iv p1, rv b0_1, .unset, .unset, .unset, .unset] [(.int p0), (.ref b0_1)])) rfl (hb hby at_25) _ ?_
    show Steps p.tables e below (T16.setTop (mkF m 27 #[iv p0, iv p1, rv b0_1, .unset, .unset, .unset, .unset] [(.int (2147483647 : Int32)), (.int p0), (.ref b0_1)])) _
    refine XS.iand X16.here hx rfl (hb hby at_27) rfl ?_
    show Steps p.tables e below (T16.setTop (mkF m 28 #[iv p0, iv p1, rv b0_1, .unset, .unset, .unset, .unset] [(.int (p0 &&& (2147483647 : Int32))), (.ref b0_1)])) _
    refine XS.iconst X16.here hx rfl (hb hby at_28) ?_
    show Steps p.tables e below (T16.setTop (mkF m 29 #[iv p0, iv p1, rv b0_1, .unset, .unset, .unset, .unset] [(.int (3 : Int32)), (.int (p0 &&& (2147483647 : Int32))), (.ref b0_1)])) _
    refine iremM X16 hx rfl (hb hby at_29) rfl (by decide) ?_
    show Steps p.tables e below (T16.setTop (mkF m 30 #[iv p0, iv p1, rv b0_1, .unset, .unset, .unset, .unset] [(.int ((p0 &&& (2147483647 : Int32)) % (3 : Int32))), (.ref b0_1)])) _
    rewrite [hk0]
    show Steps p.tables e below (T16.setTop (mkF m 30 #[iv p0, iv p1, rv b0_1, .unset, .unset, .unset, .unset] [(.int (2 : Int32)), (.ref b0_1)])) _
    refine X16.aaload hx (j := (2 : Int32)) (v := (.ref w_Outcome_CONFORMS)) (by rw [e16]; exact Ar17.1) (State.isArrayOf_alike hZ.alike Ar17.2.1) rfl Ar17.2.2 hin17 (Hs17.at hin17 rfl) (g := (mkF m 30 #[iv p0, iv p1, rv b0_1, .unset, .unset, .unset, .unset] [(.int (2 : Int32)), (.ref b0_1)])) rfl rfl (hb hby at_30) _ ?_
    show Steps p.tables e below (T16.setTop (mkF m 31 #[iv p0, iv p1, rv b0_1, .unset, .unset, .unset, .unset] [(.ref w_Outcome_CONFORMS)])) _
    refine XS.astoreN X16.here hx rfl (hb hby at_31) rfl rfl (l' := #[iv p0, iv p1, rv b0_1, rv w_Outcome_CONFORMS, .unset, .unset, .unset]) rfl ?_
    show Steps p.tables e below (T16.setTop (mkF m 32 #[iv p0, iv p1, rv b0_1, rv w_Outcome_CONFORMS, .unset, .unset, .unset] [])) _
    refine XS.aloadN X16.here hx rfl (hb hby at_32) rfl rfl ?_
    show Steps p.tables e below (T16.setTop (mkF m 33 #[iv p0, iv p1, rv b0_1, rv w_Outcome_CONFORMS, .unset, .unset, .unset] [(.ref b0_1)])) _
    refine XS.iloadN X16.here hx rfl (hb hby at_33) rfl ?_
    show Steps p.tables e below (T16.setTop (mkF m 34 #[iv p0, iv p1, rv b0_1, rv w_Outcome_CONFORMS, .unset, .unset, .unset] [(.int p1), (.ref b0_1)])) _
    refine X16.ldcInt hx hown (mvT hZ (hw _ (List.mem_of_getElem? (i := 10) rfl))) (g := (mkF m 34 #[iv p0, iv p1, rv b0_1, rv w_Outcome_CONFORMS, .unset, .unset, .unset] [(.int p1), (.ref b0_1)])) rfl (hb hby at_34) _ ?_
    show Steps p.tables e below (T16.setTop (mkF m 36 #[iv p0, iv p1, rv b0_1, rv w_Outcome_CONFORMS, .unset, .unset, .unset] [(.int (2147483647 : Int32)), (.int p1), (.ref b0_1)])) _
    refine XS.iand X16.here hx rfl (hb hby at_36) rfl ?_
    show Steps p.tables e below (T16.setTop (mkF m 37 #[iv p0, iv p1, rv b0_1, rv w_Outcome_CONFORMS, .unset, .unset, .unset] [(.int (p1 &&& (2147483647 : Int32))), (.ref b0_1)])) _
    refine XS.iconst X16.here hx rfl (hb hby at_37) ?_
    show Steps p.tables e below (T16.setTop (mkF m 38 #[iv p0, iv p1, rv b0_1, rv w_Outcome_CONFORMS, .unset, .unset, .unset] [(.int (3 : Int32)), (.int (p1 &&& (2147483647 : Int32))), (.ref b0_1)])) _
    refine iremM X16 hx rfl (hb hby at_38) rfl (by decide) ?_
    show Steps p.tables e below (T16.setTop (mkF m 39 #[iv p0, iv p1, rv b0_1, rv w_Outcome_CONFORMS, .unset, .unset, .unset] [(.int ((p1 &&& (2147483647 : Int32)) % (3 : Int32))), (.ref b0_1)])) _
    rewrite [hk1]
    show Steps p.tables e below (T16.setTop (mkF m 39 #[iv p0, iv p1, rv b0_1, rv w_Outcome_CONFORMS, .unset, .unset, .unset] [(.int (2 : Int32)), (.ref b0_1)])) _
    refine X16.aaload hx (j := (2 : Int32)) (v := (.ref w_Outcome_CONFORMS)) (by rw [e16]; exact Ar18.1) (State.isArrayOf_alike hZ.alike Ar18.2.1) rfl Ar18.2.2 hin18 (Hs18.at hin18 rfl) (g := (mkF m 39 #[iv p0, iv p1, rv b0_1, rv w_Outcome_CONFORMS, .unset, .unset, .unset] [(.int (2 : Int32)), (.ref b0_1)])) rfl rfl (hb hby at_39) _ ?_
    show Steps p.tables e below (T16.setTop (mkF m 40 #[iv p0, iv p1, rv b0_1, rv w_Outcome_CONFORMS, .unset, .unset, .unset] [(.ref w_Outcome_CONFORMS)])) _
    refine XS.astore X16.here hx rfl (hb hby at_40) rfl rfl (l' := #[iv p0, iv p1, rv b0_1, rv w_Outcome_CONFORMS, rv w_Outcome_CONFORMS, .unset, .unset]) rfl ?_
    show Steps p.tables e below (T16.setTop (mkF m 42 #[iv p0, iv p1, rv b0_1, rv w_Outcome_CONFORMS, rv w_Outcome_CONFORMS, .unset, .unset] [])) _
    refine XS.aloadN X16.here hx rfl (hb hby at_42) rfl rfl ?_
    show Steps p.tables e below (T16.setTop (mkF m 43 #[iv p0, iv p1, rv b0_1, rv w_Outcome_CONFORMS, rv w_Outcome_CONFORMS, .unset, .unset] [(.ref w_Outcome_CONFORMS)])) _
    refine XS.aload X16.here hx rfl (hb hby at_43) rfl rfl ?_
    show Steps p.tables e below (T16.setTop (mkF m 45 #[iv p0, iv p1, rv b0_1, rv w_Outcome_CONFORMS, rv w_Outcome_CONFORMS, .unset, .unset] [(.ref w_Outcome_CONFORMS), (.ref w_Outcome_CONFORMS)])) _
    refine st19.trans ?_
    show Steps p.tables e below (T19.setTop (mkF m 48 #[iv p0, iv p1, rv b0_1, rv w_Outcome_CONFORMS, rv w_Outcome_CONFORMS, .unset, .unset] [(.ref w_Outcome_CONFORMS)])) _
    refine XS.astore X19.here hx rfl (hb hby at_48) rfl rfl (l' := #[iv p0, iv p1, rv b0_1, rv w_Outcome_CONFORMS, rv w_Outcome_CONFORMS, rv w_Outcome_CONFORMS, .unset]) rfl ?_
    show Steps p.tables e below (T19.setTop (mkF m 50 #[iv p0, iv p1, rv b0_1, rv w_Outcome_CONFORMS, rv w_Outcome_CONFORMS, rv w_Outcome_CONFORMS, .unset] [])) _
    refine XS.aloadN X19.here hx rfl (hb hby at_50) rfl rfl ?_
    show Steps p.tables e below (T19.setTop (mkF m 51 #[iv p0, iv p1, rv b0_1, rv w_Outcome_CONFORMS, rv w_Outcome_CONFORMS, rv w_Outcome_CONFORMS, .unset] [(.ref w_Outcome_CONFORMS)])) _
    refine st24 _ ?_
    show Steps p.tables e below (T24.setTop (mkF m 54 #[iv p0, iv p1, rv b0_1, rv w_Outcome_CONFORMS, rv w_Outcome_CONFORMS, rv w_Outcome_CONFORMS, .unset] [(.ref w_Outcome_VIOLATES), (.ref w_Outcome_CONFORMS)])) _
    refine Jvm.RoadKit.acmp (g := (mkF m 54 #[iv p0, iv p1, rv b0_1, rv w_Outcome_CONFORMS, rv w_Outcome_CONFORMS, rv w_Outcome_CONFORMS, .unset] [(.ref w_Outcome_VIOLATES), (.ref w_Outcome_CONFORMS)])) X24 hx rfl rfl rfl (pc0 := 54) (pc' := 57) (same := false) rfl (hb hby at_54) rfl (decide_eq_false fun q => ne_w_Outcome_CONFORMS_w_Outcome_VIOLATES (Value.ref.inj q)) (by decide) (by decide) ?_
    show Steps p.tables e below (T24.setTop (mkF m 57 #[iv p0, iv p1, rv b0_1, rv w_Outcome_CONFORMS, rv w_Outcome_CONFORMS, rv w_Outcome_CONFORMS, .unset] [])) _
    refine XS.aload X24.here hx rfl (hb hby at_57) rfl rfl ?_
    show Steps p.tables e below (T24.setTop (mkF m 59 #[iv p0, iv p1, rv b0_1, rv w_Outcome_CONFORMS, rv w_Outcome_CONFORMS, rv w_Outcome_CONFORMS, .unset] [(.ref w_Outcome_CONFORMS)])) _
    refine st25 _ ?_
    show Steps p.tables e below (T25.setTop (mkF m 62 #[iv p0, iv p1, rv b0_1, rv w_Outcome_CONFORMS, rv w_Outcome_CONFORMS, rv w_Outcome_CONFORMS, .unset] [(.ref w_Outcome_VIOLATES), (.ref w_Outcome_CONFORMS)])) _
    refine Jvm.RoadKit.acmp (g := (mkF m 62 #[iv p0, iv p1, rv b0_1, rv w_Outcome_CONFORMS, rv w_Outcome_CONFORMS, rv w_Outcome_CONFORMS, .unset] [(.ref w_Outcome_VIOLATES), (.ref w_Outcome_CONFORMS)])) X25 hx rfl rfl rfl (pc0 := 62) (pc' := 73) (same := false) rfl (hb hby at_62) rfl (decide_eq_false fun q => ne_w_Outcome_CONFORMS_w_Outcome_VIOLATES (Value.ref.inj q)) (by decide) (by decide) ?_
    show Steps p.tables e below (T25.setTop (mkF m 73 #[iv p0, iv p1, rv b0_1, rv w_Outcome_CONFORMS, rv w_Outcome_CONFORMS, rv w_Outcome_CONFORMS, .unset] [])) _
    refine XS.aloadN X25.here hx rfl (hb hby at_73) rfl rfl ?_
    show Steps p.tables e below (T25.setTop (mkF m 74 #[iv p0, iv p1, rv b0_1, rv w_Outcome_CONFORMS, rv w_Outcome_CONFORMS, rv w_Outcome_CONFORMS, .unset] [(.ref w_Outcome_CONFORMS)])) _
    refine st27 _ ?_
    show Steps p.tables e below (T27.setTop (mkF m 77 #[iv p0, iv p1, rv b0_1, rv w_Outcome_CONFORMS, rv w_Outcome_CONFORMS, rv w_Outcome_CONFORMS, .unset] [(.ref w_Outcome_UNDETERMINED), (.ref w_Outcome_CONFORMS)])) _
    refine Jvm.RoadKit.acmp (g := (mkF m 77 #[iv p0, iv p1, rv b0_1, rv w_Outcome_CONFORMS, rv w_Outcome_CONFORMS, rv w_Outcome_CONFORMS, .unset] [(.ref w_Outcome_UNDETERMINED), (.ref w_Outcome_CONFORMS)])) X27 hx rfl rfl rfl (pc0 := 77) (pc' := 80) (same := false) rfl (hb hby at_77) rfl (decide_eq_false fun q => ne_w_Outcome_CONFORMS_w_Outcome_UNDETERMINED (Value.ref.inj q)) (by decide) (by decide) ?_
    show Steps p.tables e below (T27.setTop (mkF m 80 #[iv p0, iv p1, rv b0_1, rv w_Outcome_CONFORMS, rv w_Outcome_CONFORMS, rv w_Outcome_CONFORMS, .unset] [])) _
    refine XS.aload X27.here hx rfl (hb hby at_80) rfl rfl ?_
    show Steps p.tables e below (T27.setTop (mkF m 82 #[iv p0, iv p1, rv b0_1, rv w_Outcome_CONFORMS, rv w_Outcome_CONFORMS, rv w_Outcome_CONFORMS, .unset] [(.ref w_Outcome_CONFORMS)])) _
    refine st28 _ ?_
    show Steps p.tables e below (T28.setTop (mkF m 85 #[iv p0, iv p1, rv b0_1, rv w_Outcome_CONFORMS, rv w_Outcome_CONFORMS, rv w_Outcome_CONFORMS, .unset] [(.ref w_Outcome_UNDETERMINED), (.ref w_Outcome_CONFORMS)])) _
    refine Jvm.RoadKit.acmp (g := (mkF m 85 #[iv p0, iv p1, rv b0_1, rv w_Outcome_CONFORMS, rv w_Outcome_CONFORMS, rv w_Outcome_CONFORMS, .unset] [(.ref w_Outcome_UNDETERMINED), (.ref w_Outcome_CONFORMS)])) X28 hx rfl rfl rfl (pc0 := 85) (pc' := 96) (same := false) rfl (hb hby at_85) rfl (decide_eq_false fun q => ne_w_Outcome_CONFORMS_w_Outcome_UNDETERMINED (Value.ref.inj q)) (by decide) (by decide) ?_
    show Steps p.tables e below (T28.setTop (mkF m 96 #[iv p0, iv p1, rv b0_1, rv w_Outcome_CONFORMS, rv w_Outcome_CONFORMS, rv w_Outcome_CONFORMS, .unset] [])) _
    refine st30 _ ?_
    show Steps p.tables e below (T30.setTop (mkF m 99 #[iv p0, iv p1, rv b0_1, rv w_Outcome_CONFORMS, rv w_Outcome_CONFORMS, rv w_Outcome_CONFORMS, .unset] [(.ref w_Outcome_CONFORMS)])) _
    refine XS.astore X30.here hx rfl (hb hby at_99) rfl rfl (l' := #[iv p0, iv p1, rv b0_1, rv w_Outcome_CONFORMS, rv w_Outcome_CONFORMS, rv w_Outcome_CONFORMS, rv w_Outcome_CONFORMS]) rfl ?_
    show Steps p.tables e below (T30.setTop (mkF m 101 #[iv p0, iv p1, rv b0_1, rv w_Outcome_CONFORMS, rv w_Outcome_CONFORMS, rv w_Outcome_CONFORMS, rv w_Outcome_CONFORMS] [])) _
    refine XS.aload X30.here hx rfl (hb hby at_101) rfl rfl ?_
    show Steps p.tables e below (T30.setTop (mkF m 103 #[iv p0, iv p1, rv b0_1, rv w_Outcome_CONFORMS, rv w_Outcome_CONFORMS, rv w_Outcome_CONFORMS, rv w_Outcome_CONFORMS] [(.ref w_Outcome_CONFORMS)])) _
    refine XS.aload X30.here hx rfl (hb hby at_103) rfl rfl ?_
    show Steps p.tables e below (T30.setTop (mkF m 105 #[iv p0, iv p1, rv b0_1, rv w_Outcome_CONFORMS, rv w_Outcome_CONFORMS, rv w_Outcome_CONFORMS, rv w_Outcome_CONFORMS] [(.ref w_Outcome_CONFORMS), (.ref w_Outcome_CONFORMS)])) _
    refine Jvm.RoadKit.acmp (g := (mkF m 105 #[iv p0, iv p1, rv b0_1, rv w_Outcome_CONFORMS, rv w_Outcome_CONFORMS, rv w_Outcome_CONFORMS, rv w_Outcome_CONFORMS] [(.ref w_Outcome_CONFORMS), (.ref w_Outcome_CONFORMS)])) X30 hx rfl rfl rfl (pc0 := 105) (pc' := 108) (same := true) rfl (hb hby at_105) rfl (decide_eq_true rfl) (by decide) (by decide) ?_
    show Steps p.tables e below (T30.setTop (mkF m 108 #[iv p0, iv p1, rv b0_1, rv w_Outcome_CONFORMS, rv w_Outcome_CONFORMS, rv w_Outcome_CONFORMS, rv w_Outcome_CONFORMS] [])) _
    refine XS.iconst X30.here hx rfl (hb hby at_108) ?_
    show Steps p.tables e below (T30.setTop (mkF m 109 #[iv p0, iv p1, rv b0_1, rv w_Outcome_CONFORMS, rv w_Outcome_CONFORMS, rv w_Outcome_CONFORMS, rv w_Outcome_CONFORMS] [(.int (1 : Int32))])) _
    refine XS.goto X30.here hx rfl (pc0 := 109) (pc' := 113) rfl (hb hby at_109) (by decide) (by decide) ?_
    show Steps p.tables e below (T30.setTop (mkF m 113 #[iv p0, iv p1, rv b0_1, rv w_Outcome_CONFORMS, rv w_Outcome_CONFORMS, rv w_Outcome_CONFORMS, rv w_Outcome_CONFORMS] [(.int (1 : Int32))])) _
    exact retN X30 hx (t := .boolean) Bd.returns (by simp) (hb hby at_113) hr
  · exact ⟨rfl, N19⟩
theorem rm0 (l : Launch) (Z : State) (a0 : Array Value) (hw : ∀ d ∈ tables_1, d.before a0 Z = true) (ws : List Jvm.Cond) (p0 : Int32) (p1 : Int32) (w_Outcome_VIOLATES : Addr) (w_Outcome_UNDETERMINED : Addr) (w_Outcome_CONFORMS : Addr) (mr_Outcome : Addr) (h0 : Heap) (n0 : Nat) (Z0 : n0 ≤ h0.size) (S_Outcome_VIOLATES : Sta Z h0 "com/example/shapewell/shapewell/Outcome" "VIOLATES" "Lcom/example/shapewell/shapewell/Outcome;" (.ref w_Outcome_VIOLATES)) (E_w_Outcome_VIOLATES : Exa Z h0 w_Outcome_VIOLATES "com/example/shapewell/shapewell/Outcome") (S_Outcome_UNDETERMINED : Sta Z h0 "com/example/shapewell/shapewell/Outcome" "UNDETERMINED" "Lcom/example/shapewell/shapewell/Outcome;" (.ref w_Outcome_UNDETERMINED)) (E_w_Outcome_UNDETERMINED : Exa Z h0 w_Outcome_UNDETERMINED "com/example/shapewell/shapewell/Outcome") (S_Outcome_CONFORMS : Sta Z h0 "com/example/shapewell/shapewell/Outcome" "CONFORMS" "Lcom/example/shapewell/shapewell/Outcome;" (.ref w_Outcome_CONFORMS)) (E_w_Outcome_CONFORMS : Exa Z h0 w_Outcome_CONFORMS "com/example/shapewell/shapewell/Outcome") (M_mr_Outcome : own_Mir Z "com/example/shapewell/shapewell/Outcome" mr_Outcome) (F_w_Outcome_VIOLATES_ordinal : Fld Z h0 w_Outcome_VIOLATES "java/lang/Enum" "ordinal" "I" (.int (0 : Int32))) (F_w_Outcome_UNDETERMINED_ordinal : Fld Z h0 w_Outcome_UNDETERMINED "java/lang/Enum" "ordinal" "I" (.int (1 : Int32))) (F_w_Outcome_CONFORMS_ordinal : Fld Z h0 w_Outcome_CONFORMS "java/lang/Enum" "ordinal" "I" (.int (2 : Int32))) (ne_w_Outcome_UNDETERMINED_w_Outcome_VIOLATES : ¬ (w_Outcome_UNDETERMINED = w_Outcome_VIOLATES)) (ne_w_Outcome_CONFORMS_w_Outcome_VIOLATES : ¬ (w_Outcome_CONFORMS = w_Outcome_VIOLATES)) (ne_w_Outcome_CONFORMS_w_Outcome_UNDETERMINED : ¬ (w_Outcome_CONFORMS = w_Outcome_UNDETERMINED)) :
    MetFree l x (head1 (Jvm.Cond.code x code maxLocals ret :: ws) room_1) (fun a U => a = #[(.int p0), (.int p1)] ∧ Z.Warmed39 U.vm ∧ U.heap = h0) (fun _ _ _ _ _ => True) (fun _ U o U' => ∃ v L, o = .returned v ∧ own_QL n0 v U'.heap L ∧ FrameEnd U o U' L room_1.cells room_1.slots) := by
  rcases own_s0 p0 with hk0 | hk0 | hk0
  · rcases own_s0 p1 with hk1 | hk1 | hk1
    · exact rm0_0 l Z a0 hw ws p0 p1 w_Outcome_VIOLATES w_Outcome_UNDETERMINED w_Outcome_CONFORMS mr_Outcome h0 n0 Z0 S_Outcome_VIOLATES E_w_Outcome_VIOLATES S_Outcome_UNDETERMINED E_w_Outcome_UNDETERMINED S_Outcome_CONFORMS E_w_Outcome_CONFORMS hk0 hk1 M_mr_Outcome F_w_Outcome_VIOLATES_ordinal
    · exact rm0_1 l Z a0 hw ws p0 p1 w_Outcome_VIOLATES w_Outcome_UNDETERMINED w_Outcome_CONFORMS mr_Outcome h0 n0 Z0 S_Outcome_VIOLATES E_w_Outcome_VIOLATES S_Outcome_UNDETERMINED E_w_Outcome_UNDETERMINED S_Outcome_CONFORMS E_w_Outcome_CONFORMS hk0 hk1 M_mr_Outcome F_w_Outcome_VIOLATES_ordinal F_w_Outcome_UNDETERMINED_ordinal
    · exact rm0_2 l Z a0 hw ws p0 p1 w_Outcome_VIOLATES w_Outcome_UNDETERMINED w_Outcome_CONFORMS mr_Outcome h0 n0 Z0 S_Outcome_VIOLATES E_w_Outcome_VIOLATES S_Outcome_UNDETERMINED E_w_Outcome_UNDETERMINED S_Outcome_CONFORMS E_w_Outcome_CONFORMS hk0 hk1 M_mr_Outcome F_w_Outcome_VIOLATES_ordinal F_w_Outcome_CONFORMS_ordinal
  · rcases own_s0 p1 with hk1 | hk1 | hk1
    · exact rm0_3 l Z a0 hw ws p0 p1 w_Outcome_VIOLATES w_Outcome_UNDETERMINED w_Outcome_CONFORMS mr_Outcome h0 n0 Z0 S_Outcome_VIOLATES E_w_Outcome_VIOLATES S_Outcome_UNDETERMINED E_w_Outcome_UNDETERMINED S_Outcome_CONFORMS E_w_Outcome_CONFORMS hk0 hk1 M_mr_Outcome F_w_Outcome_UNDETERMINED_ordinal F_w_Outcome_VIOLATES_ordinal ne_w_Outcome_UNDETERMINED_w_Outcome_VIOLATES
    · exact rm0_4 l Z a0 hw ws p0 p1 w_Outcome_VIOLATES w_Outcome_UNDETERMINED w_Outcome_CONFORMS mr_Outcome h0 n0 Z0 S_Outcome_VIOLATES E_w_Outcome_VIOLATES S_Outcome_UNDETERMINED E_w_Outcome_UNDETERMINED S_Outcome_CONFORMS E_w_Outcome_CONFORMS hk0 hk1 M_mr_Outcome F_w_Outcome_UNDETERMINED_ordinal ne_w_Outcome_UNDETERMINED_w_Outcome_VIOLATES
    · exact rm0_5 l Z a0 hw ws p0 p1 w_Outcome_VIOLATES w_Outcome_UNDETERMINED w_Outcome_CONFORMS mr_Outcome h0 n0 Z0 S_Outcome_VIOLATES E_w_Outcome_VIOLATES S_Outcome_UNDETERMINED E_w_Outcome_UNDETERMINED S_Outcome_CONFORMS E_w_Outcome_CONFORMS hk0 hk1 M_mr_Outcome F_w_Outcome_UNDETERMINED_ordinal F_w_Outcome_CONFORMS_ordinal ne_w_Outcome_UNDETERMINED_w_Outcome_VIOLATES ne_w_Outcome_CONFORMS_w_Outcome_VIOLATES
  · rcases own_s0 p1 with hk1 | hk1 | hk1
    · exact rm0_6 l Z a0 hw ws p0 p1 w_Outcome_VIOLATES w_Outcome_UNDETERMINED w_Outcome_CONFORMS mr_Outcome h0 n0 Z0 S_Outcome_VIOLATES E_w_Outcome_VIOLATES S_Outcome_UNDETERMINED E_w_Outcome_UNDETERMINED S_Outcome_CONFORMS E_w_Outcome_CONFORMS hk0 hk1 M_mr_Outcome F_w_Outcome_CONFORMS_ordinal F_w_Outcome_VIOLATES_ordinal ne_w_Outcome_CONFORMS_w_Outcome_VIOLATES
    · exact rm0_7 l Z a0 hw ws p0 p1 w_Outcome_VIOLATES w_Outcome_UNDETERMINED w_Outcome_CONFORMS mr_Outcome h0 n0 Z0 S_Outcome_VIOLATES E_w_Outcome_VIOLATES S_Outcome_UNDETERMINED E_w_Outcome_UNDETERMINED S_Outcome_CONFORMS E_w_Outcome_CONFORMS hk0 hk1 M_mr_Outcome F_w_Outcome_CONFORMS_ordinal F_w_Outcome_UNDETERMINED_ordinal ne_w_Outcome_CONFORMS_w_Outcome_VIOLATES ne_w_Outcome_UNDETERMINED_w_Outcome_VIOLATES ne_w_Outcome_CONFORMS_w_Outcome_UNDETERMINED
    · exact rm0_8 l Z a0 hw ws p0 p1 w_Outcome_VIOLATES w_Outcome_UNDETERMINED w_Outcome_CONFORMS mr_Outcome h0 n0 Z0 S_Outcome_VIOLATES E_w_Outcome_VIOLATES S_Outcome_UNDETERMINED E_w_Outcome_UNDETERMINED S_Outcome_CONFORMS E_w_Outcome_CONFORMS hk0 hk1 M_mr_Outcome F_w_Outcome_CONFORMS_ordinal ne_w_Outcome_CONFORMS_w_Outcome_VIOLATES ne_w_Outcome_CONFORMS_w_Outcome_UNDETERMINED
set_option maxRecDepth 65536 in
set_option maxHeartbeats 40000000 in
theorem comes_1 {Post : Tables → Env → Array Value → State → Outcome → State → Prop} (hpost : ∀ tb e args s v u, (limb_1_1.after args s (.returned v) u = true ∧ limb_1_2.after args s (.returned v) u = true ∧ True) → FrameEnd s (.returned v) u (Jvm.fieldLocs frame_1_writes args s ++ Jvm.arrayLocs frame_1_arrays args s ++ Jvm.staticLocs frame_1_statics s) 16 128 → Post tb e args s (.returned v) u) :
    ArmFor flags0 classFile x code maxLocals ret World_1 tables_1 room_1 Calls_1 rest_1 Pre_1 Post := by
  intro l hfl _ _ p e ha hc hk s m args below hf hA hF happ hP
  obtain ⟨hcalls, hrest, hpre⟩ := hP
  obtain ⟨-, -, -, hnamed, -, -, -, hat⟩ := (Spec.applies_iff hf).mp happ
  obtain ⟨hg, hn⟩ := and_e (Cond.before_iff.mp (show (Jvm.Cond.and given_1 narrow_1).before args s = true from hpre))
  obtain ⟨g0, g0r⟩ := and_e hg
  obtain ⟨g1, g1r⟩ := and_e g0r
  obtain ⟨v0, v1, rfl⟩ : ∃ v0 v1 : Value, args = #[v0, v1] := by
    have hs : args.size = 2 := by simpa [Cond.value, given_1] using g0
    obtain ⟨L⟩ := args
    match L, hs with
    | [v0, v1], _ => exact ⟨v0, v1, rfl⟩
  have hw := fun d (hd : d ∈ tables_1) => atoms_spec (ws := Jvm.Cond.code x code maxLocals ret :: tables_1) hat d (List.mem_cons_of_mem _ hd)
  have hfit : Fit s := fun {y c} hc i hi => by
    obtain ⟨ha, rfl⟩ := Array.getElem?_eq_some_iff.mp hc
    have q := List.all_eq_true.mp ((Array.all_eq_true_iff_forall_mem.mp hF) _ (Array.getElem_mem ha)) i (List.mem_range.mpr hi)
    simpa [Array.getElem?_eq_getElem hi] using q
  obtain ⟨p0, ei0⟩ := is_v g1
  obtain rfl : v0 = (.int p0) := Option.some.inj ei0
  obtain ⟨p1, ei1⟩ := is_v g1r
  obtain rfl : v1 = (.int p1) := Option.some.inj ei1
  obtain ⟨n0, n0r⟩ := and_e hn
  obtain ⟨n1, n1r⟩ := and_e n0r
  obtain ⟨n2, n2r⟩ := and_e n1r
  obtain ⟨n3, n3r⟩ := and_e n2r
  obtain ⟨n4, n4r⟩ := and_e n3r
  obtain ⟨w_Outcome_VIOLATES, ev_w_Outcome_VIOLATES⟩ := exa_v n0
  have S_Outcome_VIOLATES : Sta s s.heap "com/example/shapewell/shapewell/Outcome" "VIOLATES" "Lcom/example/shapewell/shapewell/Outcome;" (.ref w_Outcome_VIOLATES) := Sta.start ev_w_Outcome_VIOLATES (Or.inr ⟨(hw _ (List.mem_of_getElem? (i := 3) rfl)), (hw _ (List.mem_of_getElem? (i := 4) rfl))⟩)
  have E_w_Outcome_VIOLATES : Exa s s.heap w_Outcome_VIOLATES "com/example/shapewell/shapewell/Outcome" := Exa.start ev_w_Outcome_VIOLATES n0
  obtain ⟨w_Outcome_UNDETERMINED, ev_w_Outcome_UNDETERMINED⟩ := exa_v n1
  have S_Outcome_UNDETERMINED : Sta s s.heap "com/example/shapewell/shapewell/Outcome" "UNDETERMINED" "Lcom/example/shapewell/shapewell/Outcome;" (.ref w_Outcome_UNDETERMINED) := Sta.start ev_w_Outcome_UNDETERMINED (Or.inr ⟨(hw _ (List.mem_of_getElem? (i := 3) rfl)), (hw _ (List.mem_of_getElem? (i := 7) rfl))⟩)
  have E_w_Outcome_UNDETERMINED : Exa s s.heap w_Outcome_UNDETERMINED "com/example/shapewell/shapewell/Outcome" := Exa.start ev_w_Outcome_UNDETERMINED n1
  obtain ⟨w_Outcome_CONFORMS, ev_w_Outcome_CONFORMS⟩ := exa_v n2
  have S_Outcome_CONFORMS : Sta s s.heap "com/example/shapewell/shapewell/Outcome" "CONFORMS" "Lcom/example/shapewell/shapewell/Outcome;" (.ref w_Outcome_CONFORMS) := Sta.start ev_w_Outcome_CONFORMS (Or.inr ⟨(hw _ (List.mem_of_getElem? (i := 3) rfl)), (hw _ (List.mem_of_getElem? (i := 9) rfl))⟩)
  have E_w_Outcome_CONFORMS : Exa s s.heap w_Outcome_CONFORMS "com/example/shapewell/shapewell/Outcome" := Exa.start ev_w_Outcome_CONFORMS n2
  obtain ⟨mc0, mk0, mr_Outcome, ma0, mb0, mm0, -⟩ := hcalls.1
  have M_mr_Outcome : own_Mir s "com/example/shapewell/shapewell/Outcome" mr_Outcome := ⟨mc0, mk0, ma0, mb0, mm0⟩
  have F_w_Outcome_VIOLATES_ordinal : Fld s s.heap w_Outcome_VIOLATES "java/lang/Enum" "ordinal" "I" (.int (0 : Int32)) := Fld.start ((fld_at ev_w_Outcome_VIOLATES).symm.trans (own_eqv n3 (Term.int_eval _) (Or.inr ⟨_, rfl⟩)))
  have F_w_Outcome_CONFORMS_ordinal : Fld s s.heap w_Outcome_CONFORMS "java/lang/Enum" "ordinal" "I" (.int (2 : Int32)) := Fld.start ((fld_at ev_w_Outcome_CONFORMS).symm.trans (own_eqv n4 (Term.int_eval _) (Or.inr ⟨_, rfl⟩)))
  have F_w_Outcome_UNDETERMINED_ordinal : Fld s s.heap w_Outcome_UNDETERMINED "java/lang/Enum" "ordinal" "I" (.int (1 : Int32)) := Fld.start ((fld_at ev_w_Outcome_UNDETERMINED).symm.trans (own_eqv n4r (Term.int_eval _) (Or.inr ⟨_, rfl⟩)))
  obtain ⟨n, o, h1, h2, h3, _, L, rfl, ⟨rfl, N⟩, hq⟩ := rm0 l s _ hw tables_1 p0 p1 w_Outcome_VIOLATES w_Outcome_UNDETERMINED w_Outcome_CONFORMS mr_Outcome s.heap s.heap.size (Nat.le_refl _) S_Outcome_VIOLATES E_w_Outcome_VIOLATES S_Outcome_UNDETERMINED E_w_Outcome_UNDETERMINED S_Outcome_CONFORMS E_w_Outcome_CONFORMS M_mr_Outcome F_w_Outcome_VIOLATES_ordinal F_w_Outcome_UNDETERMINED_ordinal F_w_Outcome_CONFORMS_ordinal (Ne.symm (Fld.ne F_w_Outcome_VIOLATES_ordinal F_w_Outcome_UNDETERMINED_ordinal (own_nei (by decide +kernel)))) (Ne.symm (Fld.ne F_w_Outcome_VIOLATES_ordinal F_w_Outcome_CONFORMS_ordinal (own_nei (by decide +kernel)))) (Ne.symm (Fld.ne F_w_Outcome_UNDETERMINED_ordinal F_w_Outcome_CONFORMS_ordinal (own_nei (by decide +kernel)))) p e ha hc hk s m _ below hf ((Spec.applies_iff_loose hf).mp happ).1 ⟨rfl, State.Warmed39.refl s, rfl⟩ trivial
  refine ⟨n, _, h1, h2, h3, hpost _ _ _ _ _ _ ⟨Cond.after_iff.mpr rfl, Cond.after_iff.mpr (eq_i res_at (Term.int_eval (1)) rfl), trivial⟩ ⟨hq.1, hq.2.1, (hq.2.2.sift fun y hy => Or.inr (N y hy)).mono (by decide) (by decide)⟩⟩
theorem main_1_1 : Claimed_1_1 := comes_1 fun _ _ _ _ _ _ h hF => ⟨h.1, hF⟩
theorem main_1_2 : Claimed_1_2 := comes_1 fun _ _ _ _ _ _ h hF => ⟨h.2.1, hF⟩
end Jvm.Pilot.@@N@@
namespace Jvm.Pilot.@@N@@
open Jvm Jvm.ClassFile Sem Op Lib Jvm.Free Jvm.Stand Jvm.Pilot.@@N@@.Jvm.D
/-! MADE BY PROGRAM (witnessworld.py) out of the Statement's table words and the real class files: 14 classes; the members and pool entries that the words name. The judged class is class 1, her method 1. -/
namespace start1
open Jvm.ClassFile
def u (s : String) : CpInfo := .utf8 (stringToUtf16 s)
/-- a pool by its gaps: so many unusable entries, then the entry; so many at the end -/
def gap : Nat → List CpInfo → List CpInfo
  | 0, r => r
  | n + 1, r => .unusable :: gap n r
def poolList (es : List (Nat × CpInfo)) (last : Nat) : List CpInfo := es.foldr (fun e r => gap e.1 (e.2 :: r)) (gap last [])
def pool (es : List (Nat × CpInfo)) (last : Nat) : Array CpInfo := ⟨poolList es last⟩
def fileOf (pool : Array CpInfo) (this : Nat) (attrs : Array Attribute := #[]) (ms : Array MethodInfo := #[]) (fl : Nat := 33) (sup : Nat := 0) (ifs : Array Nat := #[]) (fds : Array FieldInfo := #[]) : ClassFile where
  minorVersion := 0
  majorVersion := 65
  constantPool := pool
  accessFlags := fl
  thisClass := this
  superClass := sup
  interfaces := ifs
  fields := fds
  methods := ms
  attributes := attrs
def plain (name : String) (sup : Option ClassId) : Class where
  name := name
  kind := .ordinary
  loader := none
  accessFlags := 33
  super := sup
  interfaces := #[]
  cf := none
  fields := #[]
  methods := #[]
  instanceTypes := #[]
  staticTypes := #[]
  resolved := #[]
  callSites := []
  init := .initialized
  statics := none
  mirror := none

def pool0 : Array CpInfo := pool [(5, u "<init>"), (0, u "()V"), (1, .class_ 10), (1, u "java/lang/Object"), (0, u "getClass"), (0, u "()Ljava/lang/Class;")] 111

def k0m0 : Method := { name := "<init>", desc := "()V", sig := { parameters := [], returnType := none }, accessFlags := 1, code := none }
def k0m1 : Method := { name := "getClass", desc := "()Ljava/lang/Class;", sig := { parameters := [], returnType := some (.object "java/lang/Class") }, accessFlags := 273, code := none }
/-- java/lang/Object -/
def k0 : Class := { plain "java/lang/Object" none with
  accessFlags := 33
  interfaces := #[]
  cf := some (fileOf pool0 8 #[] #[{ accessFlags := 1, nameIndex := 5, descriptorIndex := 6, attributes := #[] }, { accessFlags := 273, nameIndex := 11, descriptorIndex := 12, attributes := #[] }] 33 0 #[] #[])
  fields := #[]
  methods := #[k0m0, k0m1]
  instanceTypes := #[]
  staticTypes := #[]
  resolved := Array.replicate 124 none
  statics := none }

def pool1 : Array CpInfo := pool [(2, .class_ 4), (1, u "java/lang/Object"), (0, u "<init>"), (0, u "()V"), (0, .class_ 8), (0, u "com/example/shapewell/shapewell/Outcome"), (0, .fieldref 7 10), (0, .nameAndType 11 12), (0, u "VIOLATES"), (0, u "Lcom/example/shapewell/shapewell/Outcome;"), (0, .fieldref 7 14), (0, .nameAndType 15 12), (0, u "UNDETERMINED"), (0, .fieldref 7 17), (0, .nameAndType 18 12), (0, u "CONFORMS"), (0, .integer 2147483647), (0, .methodref 7 21), (0, .nameAndType 22 23), (0, u "and"), (0, u "(Lcom/example/shapewell/shapewell/Outcome;)Lcom/example/shapewell/shapewell/Outcome;"), (0, .class_ 25), (0, u "com/example/shapewell/shapewell/OutcomeAndPinLaw"), (2, u "law"), (0, u "(II)Z")] 5

def k1m0 : Method := { name := "<init>", desc := "()V", sig := { parameters := [], returnType := none }, accessFlags := 2, code := none }
def k1c1 : Code := { maxStack := 4, maxLocals := 7, code := code, exceptionTable := #[], attributes := #[] }
def k1m1 : Method := { name := "law", desc := "(II)Z", sig := { parameters := [.int, .int], returnType := some .boolean }, accessFlags := 9, code := some k1c1 }
/-- com/example/shapewell/shapewell/OutcomeAndPinLaw -/
def k1 : Class := { plain "com/example/shapewell/shapewell/OutcomeAndPinLaw" (some 0) with
  accessFlags := 49
  interfaces := #[]
  cf := some (fileOf pool1 24 #[] #[{ accessFlags := 2, nameIndex := 5, descriptorIndex := 6, attributes := #[] }, { accessFlags := 9, nameIndex := 28, descriptorIndex := 29, attributes := #[] }] 49 2 #[] #[])
  fields := #[]
  methods := #[k1m0, k1m1]
  instanceTypes := #[]
  staticTypes := #[]
  resolved := Array.replicate 35 none
  statics := none }

def pool2 : Array CpInfo := pool [(1, .class_ 2), (0, u "java/lang/constant/Constable"), (0, .class_ 4), (0, u "java/lang/Object")] 6

/-- java/lang/constant/Constable -/
def k2 : Class := { plain "java/lang/constant/Constable" (some 0) with
  accessFlags := 1537
  interfaces := #[]
  cf := some (fileOf pool2 1 #[] #[] 1537 3 #[] #[])
  fields := #[]
  methods := #[]
  instanceTypes := #[]
  staticTypes := #[]
  resolved := Array.replicate 11 none
  statics := none }

def pool3 : Array CpInfo := pool [(1, .class_ 2), (0, u "java/lang/Comparable"), (0, .class_ 4), (0, u "java/lang/Object")] 7

/-- java/lang/Comparable -/
def k3 : Class := { plain "java/lang/Comparable" (some 0) with
  accessFlags := 1537
  interfaces := #[]
  cf := some (fileOf pool3 1 #[] #[] 1537 3 #[] #[])
  fields := #[]
  methods := #[]
  instanceTypes := #[]
  staticTypes := #[]
  resolved := Array.replicate 12 none
  statics := none }

def pool4 : Array CpInfo := pool [(1, .class_ 2), (0, u "java/io/Serializable"), (0, .class_ 4), (0, u "java/lang/Object")] 2

/-- java/io/Serializable -/
def k4 : Class := { plain "java/io/Serializable" (some 0) with
  accessFlags := 1537
  interfaces := #[]
  cf := some (fileOf pool4 1 #[] #[] 1537 3 #[] #[])
  fields := #[]
  methods := #[]
  instanceTypes := #[]
  staticTypes := #[]
  resolved := Array.replicate 7 none
  statics := none }

def pool5 : Array CpInfo := pool [(2, .class_ 4), (1, u "java/lang/Enum"), (0, u "name"), (0, u "Ljava/lang/String;"), (0, .fieldref 2 8), (0, .nameAndType 9 10), (0, u "ordinal"), (0, u "I"), (1, .class_ 14), (1, u "java/lang/Object"), (4, u "hash"), (9, .methodref 12 30), (0, .nameAndType 31 32), (0, u "getClass"), (0, u "()Ljava/lang/Class;"), (70, u "compareTo"), (0, u "(Ljava/lang/Enum;)I"), (1, .class_ 108), (1, u "java/lang/Enum$EnumDesc"), (2, .class_ 112), (0, u "java/lang/constant/Constable"), (0, .class_ 114), (0, u "java/lang/Comparable"), (0, .class_ 116), (0, u "java/io/Serializable")] 87

def k5c0 : Code := { maxStack := 2, maxLocals := 4, code := jdk_37_method_8_code, exceptionTable := #[], attributes := #[] }
def k5m0 : Method := { name := "compareTo", desc := "(Ljava/lang/Enum;)I", sig := { parameters := [(.object "java/lang/Enum")], returnType := some .int }, accessFlags := 17, code := some k5c0 }
/-- java/lang/Enum -/
def k5 : Class := { plain "java/lang/Enum" (some 0) with
  accessFlags := 1057
  interfaces := #[2, 3, 4]
  cf := some (fileOf pool5 2 #[.nestMembers #[106]] #[{ accessFlags := 17, nameIndex := 103, descriptorIndex := 104, attributes := #[] }] 1057 12 #[111, 113, 115] #[{ accessFlags := 18, nameIndex := 5, descriptorIndex := 6, attributes := #[] }, { accessFlags := 18, nameIndex := 9, descriptorIndex := 10, attributes := #[] }, { accessFlags := 2, nameIndex := 19, descriptorIndex := 10, attributes := #[] }])
  fields := #[{ name := "name", type := (.object "java/lang/String"), accessFlags := 18, slot := 0, constantValue := 0 }, { name := "ordinal", type := .int, accessFlags := 18, slot := 1, constantValue := 0 }, { name := "hash", type := .int, accessFlags := 2, slot := 2, constantValue := 0 }]
  methods := #[k5m0]
  instanceTypes := #[(.object "java/lang/String"), .int, .int]
  staticTypes := #[]
  resolved := Array.replicate 204 none
  statics := none }

def pool6 : Array CpInfo := pool [(1, .class_ 2), (0, u "com/example/shapewell/shapewell/Outcome"), (2, u "VIOLATES"), (0, u "Lcom/example/shapewell/shapewell/Outcome;"), (2, u "UNDETERMINED"), (2, u "CONFORMS"), (2, u "$VALUES"), (0, u "[Lcom/example/shapewell/shapewell/Outcome;"), (6, .class_ 25), (1, u "java/lang/Enum"), (6, .methodref 1 33), (0, .nameAndType 34 35), (0, u "compareTo"), (0, u "(Ljava/lang/Enum;)I"), (29, u "and"), (0, u "(Lcom/example/shapewell/shapewell/Outcome;)Lcom/example/shapewell/shapewell/Outcome;")] 7

def k6c0 : Code := { maxStack := 2, maxLocals := 2, code := prog_3_method_5_code, exceptionTable := #[], attributes := #[] }
def k6m0 : Method := { name := "and", desc := "(Lcom/example/shapewell/shapewell/Outcome;)Lcom/example/shapewell/shapewell/Outcome;", sig := { parameters := [(.object "com/example/shapewell/shapewell/Outcome")], returnType := some (.object "com/example/shapewell/shapewell/Outcome") }, accessFlags := 0, code := some k6c0 }
/-- com/example/shapewell/shapewell/Outcome -/
def k6 : Class := { plain "com/example/shapewell/shapewell/Outcome" (some 5) with
  accessFlags := 16432
  interfaces := #[]
  cf := some (fileOf pool6 1 #[] #[{ accessFlags := 0, nameIndex := 65, descriptorIndex := 66, attributes := #[] }] 16432 23 #[] #[{ accessFlags := 16409, nameIndex := 5, descriptorIndex := 6, attributes := #[] }, { accessFlags := 16409, nameIndex := 9, descriptorIndex := 6, attributes := #[] }, { accessFlags := 16409, nameIndex := 12, descriptorIndex := 6, attributes := #[] }, { accessFlags := 4122, nameIndex := 15, descriptorIndex := 16, attributes := #[] }])
  fields := #[{ name := "VIOLATES", type := (.object "com/example/shapewell/shapewell/Outcome"), accessFlags := 16409, slot := 0, constantValue := 0 }, { name := "UNDETERMINED", type := (.object "com/example/shapewell/shapewell/Outcome"), accessFlags := 16409, slot := 1, constantValue := 0 }, { name := "CONFORMS", type := (.object "com/example/shapewell/shapewell/Outcome"), accessFlags := 16409, slot := 2, constantValue := 0 }, { name := "$VALUES", type := (.array (.object "com/example/shapewell/shapewell/Outcome")), accessFlags := 4122, slot := 3, constantValue := 0 }]
  methods := #[k6m0]
  instanceTypes := #[(.object "java/lang/String"), .int, .int]
  staticTypes := #[(.object "com/example/shapewell/shapewell/Outcome"), (.object "com/example/shapewell/shapewell/Outcome"), (.object "com/example/shapewell/shapewell/Outcome"), (.array (.object "com/example/shapewell/shapewell/Outcome"))]
  resolved := Array.replicate 74 none
  mirror := some 1
  statics := some 0 }

def pool7 : Array CpInfo := pool [(1, .class_ 2), (0, u "java/lang/Class"), (0, .class_ 4), (0, u "java/lang/Object")] 0

/-- java/lang/Class -/
def k7 : Class := { plain "java/lang/Class" (some 0) with
  accessFlags := 49
  interfaces := #[]
  cf := some (fileOf pool7 1 #[] #[] 49 3 #[] #[])
  fields := #[]
  methods := #[]
  instanceTypes := #[]
  staticTypes := #[]
  resolved := Array.replicate 5 none
  statics := none }

def pool8 : Array CpInfo := pool [(1, u "java/lang/Cloneable"), (0, .class_ 1), (0, u "java/lang/Object"), (0, .class_ 3)] 3

/-- java/lang/Cloneable -/
def k8 : Class := { plain "java/lang/Cloneable" (some 0) with
  accessFlags := 1537
  interfaces := #[]
  cf := some (fileOf pool8 2 #[] #[] 1537 4 #[] #[])
  fields := #[]
  methods := #[]
  instanceTypes := #[]
  staticTypes := #[]
  resolved := Array.replicate 8 none
  statics := none }

/-- the primitive byte -/
def k9 : Class := { plain "byte" none with kind := .primitive 'B', accessFlags := 0x411 }
/-- [B -/
def k10 : Class := { plain "[B" (some 0) with kind := .array 9 .byte, interfaces := #[8, 4], accessFlags := 1041 }

/-- the primitive int -/
def k11 : Class := { plain "int" none with kind := .primitive 'I', accessFlags := 0x411 }
/-- [I -/
def k12 : Class := { plain "[I" (some 0) with kind := .array 11 .int, interfaces := #[8, 4], accessFlags := 1041 }

/-- [Lcom/example/shapewell/shapewell/Outcome; -/
def k13 : Class := { plain "[Lcom/example/shapewell/shapewell/Outcome;" (some 0) with kind := .array 6 (.object "com/example/shapewell/shapewell/Outcome"), interfaces := #[8, 4], accessFlags := 1041 }

def heap : Heap := #[{ cls := 6, slots := #[.ref 2, .ref 3, .ref 4, .null], vm := .statics 6 },
  { cls := 7, slots := #[], vm := .mirror 6 },
  { cls := 6, slots := #[.null, .int 0, .int 0], vm := .none },
  { cls := 6, slots := #[.null, .int 1, .int 0], vm := .none },
  { cls := 6, slots := #[.null, .int 2, .int 0], vm := .none }]
def classes : Array Class := #[k0, k1, k2, k3, k4, k5, k6, k7, k8, k9, k10, k11, k12, k13]
def interned : List (Array UInt16 × Addr) := []
def slotsUsed : Nat := 13
def theMethod : MethodId := ⟨1, 1⟩
def args0 : Array Value := #[.int 5, .int 6]
def aboutOver (below : List Frame) : State where
  vm := { classes := classes, interned := interned.toArray }
  heap := heap
  slotsUsed := slotsUsed
  threads := #[{ frames := .invoking theMethod args0 :: below }]
def below0 : List Frame := [.native { method := ⟨0, 0⟩, args := #[] }]
def about1 : State := aboutOver below0
def p0 : Program := .bare "" "" ""
def e0 : Env := launch0.env 0 0 0
theorem w_frames : about1.frames = Frame.invoking theMethod args0 :: below0 := rfl
set_option maxRecDepth 65536 in
theorem w_args : argsFit about1.vm theMethod args0 = true := by decide +kernel
set_option maxRecDepth 65536 in
theorem w_heap : heapFits about1 = true := by decide +kernel
set_option maxRecDepth 65536 in
theorem w_runnable : about1.curStatus? = some .runnable := by decide +kernel
set_option maxRecDepth 65536 in
theorem w_alone : about1.alone = true := by decide +kernel
set_option maxRecDepth 65536 in
theorem w_named : about1.methodNamed? x = some theMethod := by decide +kernel
set_option maxRecDepth 65536 in
theorem w_hears : about1.hears theMethod below0 = true := by decide +kernel
set_option maxRecDepth 65536 in
theorem w_ripe : about1.ripe theMethod args0 below0 = true := by decide +kernel
theorem w_running : about1.status = .running := rfl
set_option maxRecDepth 65536 in
theorem w_room : about1.hasRoom e0.platform room_1 = true :=
  launch0.hasRoom_least _ room_1 (by decide +kernel) (by decide +kernel) (by decide +kernel) (by decide +kernel) (by decide +kernel) (by decide +kernel)
theorem allAtoms_all (ts : List Jvm.Cond) (a : Array Jvm.Value) (st : Jvm.State) : (allAtoms ts).before a st = ts.all (fun c => c.before a st) := by
  induction ts with
  | nil => rfl
  | cons c t ih =>
    show (Jvm.Cond.and c (allAtoms t)).before a st = _
    rw [Jvm.Cond.before_and, ih, List.all_cons]
def words1 : List Jvm.Cond := Jvm.Cond.code x code maxLocals ret :: tables_1
/-- a 'code' word, met by the world's own term for the bytes: nothing is compared byte by byte -/
theorem code_word {y : MethodName} {bytes : ByteArray} {mx : Nat} {rt : Option FieldType} {a : Array Value} {s : State} {m : MethodId} {meth : Method} {c : Code} (h1 : s.methodNamed? y = some m) (h2 : s.vm.method? m = some meth) (h3 : meth.code = some c) (h4 : c.code = bytes)
    (h5 : (c.maxLocals == mx && c.exceptionTable.isEmpty && decide (c.maxStack ≤ mostOperands) && decide (meth.sig.returnType = rt) && !meth.locks && decide (parseMethodDescriptor y.desc = some meth.sig)) = true) : (Jvm.Cond.code y bytes mx rt).before a s = true := by
  simp only [Bool.and_eq_true, beq_iff_eq, Bool.not_eq_true', decide_eq_true_eq] at h5
  obtain ⟨⟨⟨⟨⟨g1, g2⟩, g3⟩, g4⟩, g5⟩, g6⟩ := h5
  simp [Cond.before, Cond.holds, Cond.value, h1, h2, h3, h4, g1, g2, g3, g4, g5, g6]
def isCode : Jvm.Cond → Bool
  | .code _ _ _ _ => true
  | _ => false
theorem all_split {L : List Jvm.Cond} {P : Jvm.Cond → Bool} (h1 : L.all (fun c => isCode c || P c) = true) (h2 : ∀ c ∈ L.filter isCode, P c = true) : L.all P = true := by
  refine List.all_eq_true.mpr fun c hc => ?_
  have h := List.all_eq_true.mp h1 c hc
  rcases Bool.eq_false_or_eq_true (isCode c) with hi | hi
  · exact h2 c (List.mem_filter.mpr ⟨hc, hi⟩)
  · simpa [hi] using h
set_option maxRecDepth 65536 in
theorem w_c0 : (Jvm.Cond.code x code maxLocals ret).before args0 about1 = true := code_word (m := ⟨1, 1⟩) (meth := k1m1) (c := k1c1) (by decide +kernel) rfl rfl rfl (by decide +kernel)
set_option maxRecDepth 65536 in
theorem w_c1 : (Jvm.Cond.code ({ cls := "com/example/shapewell/shapewell/Outcome", name := "and", desc := "(Lcom/example/shapewell/shapewell/Outcome;)Lcom/example/shapewell/shapewell/Outcome;" } : Jvm.MethodName) prog_3_method_5_code (2 : Nat) (Option.some (Jvm.ClassFile.FieldType.object "com/example/shapewell/shapewell/Outcome"))).before args0 about1 = true := code_word (m := ⟨6, 0⟩) (meth := k6m0) (c := k6c0) (by decide +kernel) rfl rfl rfl (by decide +kernel)
set_option maxRecDepth 65536 in
theorem w_c2 : (Jvm.Cond.code ({ cls := "java/lang/Enum", name := "compareTo", desc := "(Ljava/lang/Enum;)I" } : Jvm.MethodName) jdk_37_method_8_code (4 : Nat) (Option.some Jvm.ClassFile.FieldType.int)).before args0 about1 = true := code_word (m := ⟨5, 0⟩) (meth := k5m0) (c := k5c0) (by decide +kernel) rfl rfl rfl (by decide +kernel)
def codes1 : List Jvm.Cond := [Jvm.Cond.code x code maxLocals ret, Jvm.Cond.code ({ cls := "com/example/shapewell/shapewell/Outcome", name := "and", desc := "(Lcom/example/shapewell/shapewell/Outcome;)Lcom/example/shapewell/shapewell/Outcome;" } : Jvm.MethodName) prog_3_method_5_code (2 : Nat) (Option.some (Jvm.ClassFile.FieldType.object "com/example/shapewell/shapewell/Outcome")), Jvm.Cond.code ({ cls := "java/lang/Enum", name := "compareTo", desc := "(Ljava/lang/Enum;)I" } : Jvm.MethodName) jdk_37_method_8_code (4 : Nat) (Option.some Jvm.ClassFile.FieldType.int)]
set_option maxRecDepth 65536 in
theorem codes_eq : words1.filter isCode = codes1 := rfl
theorem w_codes : ∀ c ∈ words1.filter isCode, c.before args0 about1 = true := by
  rw [codes_eq]
  intro c hc
  simp only [codes1, List.mem_cons, List.not_mem_nil, or_false] at hc
  rcases hc with rfl | rfl | rfl
  · exact w_c0
  · exact w_c1
  · exact w_c2
set_option maxRecDepth 65536 in
theorem w_t1 : (words1.take 24).all (fun c => isCode c || c.before args0 about1) = true := by decide +kernel
set_option maxRecDepth 65536 in
theorem w_t2 : (words1.drop 24).all (fun c => isCode c || c.before args0 about1) = true := by decide +kernel
theorem w_tables : (allAtoms (Jvm.Cond.code x code maxLocals ret :: tables_1)).before args0 about1 = true := by
  rw [allAtoms_all]
  show words1.all (fun c => c.before args0 about1) = true
  refine all_split ?_ w_codes
  rw [← List.take_append_drop 24 words1, List.all_append, w_t1, w_t2]
  rfl
set_option maxRecDepth 65536 in
theorem w_case : (Jvm.Cond.and given_1 narrow_1).before args0 about1 = true := by decide +kernel
theorem w_applies : (headSpec (Jvm.Cond.code x code maxLocals ret :: tables_1) room_1).applies x e0.platform about1 = true :=
  (Spec.applies_iff w_frames).mpr ⟨w_running, w_runnable, w_alone, w_named, w_hears, w_ripe, w_room, w_tables⟩
theorem atStart : AtStart classFile x code maxLocals ret World_1 tables_1 room_1 Calls_1 rest_1 Pre_1 launch0 p0 e0 about1 theMethod args0 below0 :=
  ⟨lists_1, trivial, launch0.admits_env _ _ _, launch0.least_env, fairChoices_fair.cas, fairChoices_fair.clock, w_frames, w_args, w_heap, w_applies, ⟨⟨6, k6, 1, by decide +kernel, rfl, rfl, _, rfl, rfl⟩, trivial⟩, trivial, w_case⟩
end start1
theorem witness_1 : WitnessClaimed_1 := ⟨start1.p0, start1.e0, start1.about1, start1.theMethod, start1.args0, start1.below0, start1.atStart⟩
end Jvm.Pilot.@@N@@
