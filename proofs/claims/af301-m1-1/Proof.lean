import JvmDerived
import JvmDerived.Pilot.@@N@@Statement
import JvmDerived.Pilot.@@N@@Code
set_option linter.unusedVariables false
set_option linter.unusedSimpArgs false
@@BLOCK:NumsL.lean.txt@@
namespace Jvm.RoadKit
open Sem ClassFile Op Lib Jvm.Stand Jvm.Free Jvm.LawKit
section New
variable {p : Program} {l : Launch} {e : Env} {R : Room} {s : State} {m : MethodId} {args : Array Value} {below : List Frame} {meth : Method} {c : Code} {T : State} {locs : List Loc} {cells slots : Nat}
theorem retI (X : Stand p l e R s m args below meth c T locs cells slots) (hx : p.tables.exec = Jvm.exec) {pc : Nat} {Ls : Array Slot} {z : Int32} {rest : List Value} (hret : meth.sig.returnType = some .int) (hd : decode c.code pc = .ok (.ireturn, 1)) {fs : List Frame}
    (hl : ∀ (f : JFrame) (acts : List Action), f.method = m → f.locked = none → f.entered = [] → (doReturn e (T.setTop f) acts (some (.int z))).1 = T.setFrames fs) : Steps p.tables e below (T.setTop (mkF m pc Ls (.int z :: rest))) (T.setFrames fs) := by
  have hm' : T.vm.method? m = some meth := X.method'
  have hn : narrow .int (.int z) = .int z := rfl
  show Steps p.tables e below (T.setTop { method := m, pc := pc, locals := Ls, stack := _ :: rest, locked := none }) _
  jvm_step X.here [X.here.top, hx, hd, hm', hret, hn]
  first | (intro acts; rw [hl _ acts rfl rfl rfl]) | rw [hl _ _ rfl rfl rfl]
  exact Steps.refl _
theorem own_retA (X : Stand p l e R s m args below meth c T locs cells slots) (hx : p.tables.exec = Jvm.exec) {pc : Nat} {Ls : Array Slot} {t : FieldType} {w : Value} {rest : List Value} (hret : meth.sig.returnType = some t) (ht : t.isReference = true) (hw : w.isRef = true) (hd : decode c.code pc = .ok (.areturn, 1)) {fs : List Frame}
    (hl : ∀ (f : JFrame) (acts : List Action), f.method = m → f.locked = none → f.entered = [] → (doReturn e (T.setTop f) acts (some w)).1 = T.setFrames fs) : Steps p.tables e below (T.setTop (mkF m pc Ls (w :: rest))) (T.setFrames fs) :=
  retOut X hx hret (by cases t <;> simp_all [narrow, FieldType.isReference]) (Or.inr (Or.inr (Or.inr (Or.inr ⟨rfl, ht, hw⟩)))) hd hl
end New
end Jvm.RoadKit
namespace Jvm.Pilot.@@N@@
open Jvm Jvm.ClassFile Sem Op Lib Jvm.Free Jvm.Stand Jvm.LawKit Jvm.RoadKit Bundle Jvm.Pilot.@@N@@.Jvm.D
abbrev own_jv (x : Int64) : Slot := .val (.long x)
/-- a callee that leaves the heap as it was and returns r -/
def own_QP (r : Option Value) (h0 : Heap) (n0 : Nat) (v : Option Value) (h : Heap) (L : List Loc) : Prop := v = r ∧ Fr n0 L ∧ h = h0
def own_QL (n0 : Nat) (v : Option Value) (h : Heap) (L : List Loc) : Prop := v = some (.int 1) ∧ Fr n0 L
theorem own_eqv {args : Array Value} {first s : State} {o : Option Outcome} {idx : List Nat} {a b : Term} {x : Value} (h : (Cond.eq a b).value args first o s idx = some true) (hb : b.eval args first o idx s = some x) (hx : x.isRef = true ∨ ∃ n, x = .int n) : a.eval args first o idx s = some x := by
  cases ha : a.eval args first o idx s with
  | none => simp [Cond.value, ha, hb] at h
  | some y =>
    rcases hx with hx | ⟨n, rfl⟩
    · rcases ref_cases hx with rfl | ⟨z, rfl⟩ <;> cases y <;> simp_all [Cond.value]
    · cases y <;> simp_all [Cond.value]
theorem own_len {Z : State} {args : Array Value} {t : Term} {a : Addr} {cl : Cell} {ty : FieldType} {n : Int32} (ev : t.eval args Z none [] Z = some (.ref a)) (A : Arr Z Z.heap a cl ty) (h : (Term.length t).eval args Z none [] Z = some (.int n)) : cl.slots.size < 2 ^ 31 ∧ cl.slots.size.toInt32 = n := by
  have hA : Z.arrayAt? a = some cl := Arr.fin (U := Z) (Vm.Alike.refl _) A
  by_cases q : cl.slots.size < 2 ^ 31
  · rw [len_f ev hA q] at h
    exact ⟨q, Value.int.inj (Option.some.inj h)⟩
  · simp [Term.eval, ev, hA, q] at h
theorem own_nei {a b : Int32} (h : a ≠ b) : (Value.int a) ≠ (Value.int b) := fun q => h (Value.int.inj q)
theorem own_s0 (p : Int32) : (p &&& (7 : Int32)) = (0 : Int32) ∨ (p &&& (7 : Int32)) = (1 : Int32) ∨ (p &&& (7 : Int32)) = (2 : Int32) ∨ (p &&& (7 : Int32)) = (3 : Int32) ∨ (p &&& (7 : Int32)) = (4 : Int32) ∨ (p &&& (7 : Int32)) = (5 : Int32) ∨ (p &&& (7 : Int32)) = (6 : Int32) ∨ (p &&& (7 : Int32)) = (7 : Int32) := by
  have e := Jvm.Kit.i32_mask p 7 (k := 3) (by decide) (by decide)
  have h : (p &&& (7 : Int32)).toInt = 0 ∨ (p &&& (7 : Int32)).toInt = 1 ∨ (p &&& (7 : Int32)).toInt = 2 ∨ (p &&& (7 : Int32)).toInt = 3 ∨ (p &&& (7 : Int32)).toInt = 4 ∨ (p &&& (7 : Int32)).toInt = 5 ∨ (p &&& (7 : Int32)).toInt = 6 ∨ (p &&& (7 : Int32)).toInt = 7 := by omega
  rcases h with h | h | h | h | h | h | h | h
  · exact Or.inl (Int32.toInt_inj.mp (h.trans (by decide)))
  · exact Or.inr (Or.inl (Int32.toInt_inj.mp (h.trans (by decide))))
  · exact Or.inr (Or.inr (Or.inl (Int32.toInt_inj.mp (h.trans (by decide)))))
  · exact Or.inr (Or.inr (Or.inr (Or.inl (Int32.toInt_inj.mp (h.trans (by decide))))))
  · exact Or.inr (Or.inr (Or.inr (Or.inr (Or.inl (Int32.toInt_inj.mp (h.trans (by decide)))))))
  · exact Or.inr (Or.inr (Or.inr (Or.inr (Or.inr (Or.inl (Int32.toInt_inj.mp (h.trans (by decide))))))))
  · exact Or.inr (Or.inr (Or.inr (Or.inr (Or.inr (Or.inr (Or.inl (Int32.toInt_inj.mp (h.trans (by decide)))))))))
  · exact Or.inr (Or.inr (Or.inr (Or.inr (Or.inr (Or.inr (Or.inr ((Int32.toInt_inj.mp (h.trans (by decide))))))))))
theorem d1_0 : decode method_2_code 0 = .ok (.iload_n 0, 1) := by decide +kernel
theorem d1_1 : decode method_2_code 1 = .ok (.ifCond .ne 7, 3) := by decide +kernel
theorem d1_4 : decode method_2_code 4 = .ok (.getstatic 7, 3) := by decide +kernel
theorem d1_7 : decode method_2_code 7 = .ok (.areturn, 1) := by decide +kernel
theorem d1_8 : decode method_2_code 8 = .ok (.iload_n 0, 1) := by decide +kernel
theorem d1_9 : decode method_2_code 9 = .ok (.iconst 1, 1) := by decide +kernel
theorem d1_10 : decode method_2_code 10 = .ok (.if_icmp .ne 7, 3) := by decide +kernel
theorem d1_13 : decode method_2_code 13 = .ok (.getstatic 13, 3) := by decide +kernel
theorem d1_16 : decode method_2_code 16 = .ok (.areturn, 1) := by decide +kernel
theorem d1_17 : decode method_2_code 17 = .ok (.iload_n 0, 1) := by decide +kernel
theorem d1_18 : decode method_2_code 18 = .ok (.iconst 2, 1) := by decide +kernel
theorem d1_19 : decode method_2_code 19 = .ok (.if_icmp .ne 7, 3) := by decide +kernel
theorem d1_22 : decode method_2_code 22 = .ok (.getstatic 16, 3) := by decide +kernel
theorem d1_25 : decode method_2_code 25 = .ok (.areturn, 1) := by decide +kernel
theorem d1_26 : decode method_2_code 26 = .ok (.iload_n 0, 1) := by decide +kernel
theorem d1_27 : decode method_2_code 27 = .ok (.iconst 3, 1) := by decide +kernel
theorem d1_28 : decode method_2_code 28 = .ok (.if_icmp .ne 7, 3) := by decide +kernel
theorem d1_31 : decode method_2_code 31 = .ok (.getstatic 19, 3) := by decide +kernel
theorem d1_34 : decode method_2_code 34 = .ok (.areturn, 1) := by decide +kernel
theorem d1_35 : decode method_2_code 35 = .ok (.iload_n 0, 1) := by decide +kernel
theorem d1_36 : decode method_2_code 36 = .ok (.iconst 4, 1) := by decide +kernel
theorem d1_37 : decode method_2_code 37 = .ok (.if_icmp .ne 7, 3) := by decide +kernel
theorem d1_40 : decode method_2_code 40 = .ok (.getstatic 22, 3) := by decide +kernel
theorem d1_43 : decode method_2_code 43 = .ok (.areturn, 1) := by decide +kernel
theorem d1_44 : decode method_2_code 44 = .ok (.iload_n 0, 1) := by decide +kernel
theorem d1_45 : decode method_2_code 45 = .ok (.iconst 5, 1) := by decide +kernel
theorem d1_46 : decode method_2_code 46 = .ok (.if_icmp .ne 7, 3) := by decide +kernel
theorem d1_49 : decode method_2_code 49 = .ok (.getstatic 25, 3) := by decide +kernel
theorem d1_52 : decode method_2_code 52 = .ok (.areturn, 1) := by decide +kernel
theorem d1_53 : decode method_2_code 53 = .ok (.iload_n 0, 1) := by decide +kernel
theorem d1_54 : decode method_2_code 54 = .ok (.bipush 6, 2) := by decide +kernel
theorem d1_56 : decode method_2_code 56 = .ok (.if_icmp .ne 7, 3) := by decide +kernel
theorem d1_59 : decode method_2_code 59 = .ok (.getstatic 28, 3) := by decide +kernel
theorem d1_62 : decode method_2_code 62 = .ok (.areturn, 1) := by decide +kernel
theorem d1_63 : decode method_2_code 63 = .ok (.getstatic 31, 3) := by decide +kernel
theorem d1_66 : decode method_2_code 66 = .ok (.areturn, 1) := by decide +kernel
theorem d2_0 : decode prog_70_method_5_code 0 = .ok (.aload_n 0, 1) := by decide +kernel
theorem d2_1 : decode prog_70_method_5_code 1 = .ok (.getstatic 3, 3) := by decide +kernel
theorem d2_4 : decode prog_70_method_5_code 4 = .ok (.if_acmp .eq 31, 3) := by decide +kernel
theorem d2_7 : decode prog_70_method_5_code 7 = .ok (.aload_n 0, 1) := by decide +kernel
theorem d2_8 : decode prog_70_method_5_code 8 = .ok (.getstatic 7, 3) := by decide +kernel
theorem d2_11 : decode prog_70_method_5_code 11 = .ok (.if_acmp .eq 24, 3) := by decide +kernel
theorem d2_14 : decode prog_70_method_5_code 14 = .ok (.aload_n 0, 1) := by decide +kernel
theorem d2_15 : decode prog_70_method_5_code 15 = .ok (.getstatic 13, 3) := by decide +kernel
theorem d2_18 : decode prog_70_method_5_code 18 = .ok (.if_acmp .eq 17, 3) := by decide +kernel
theorem d2_21 : decode prog_70_method_5_code 21 = .ok (.aload_n 0, 1) := by decide +kernel
theorem d2_22 : decode prog_70_method_5_code 22 = .ok (.getstatic 16, 3) := by decide +kernel
theorem d2_25 : decode prog_70_method_5_code 25 = .ok (.if_acmp .eq 10, 3) := by decide +kernel
theorem d2_28 : decode prog_70_method_5_code 28 = .ok (.aload_n 0, 1) := by decide +kernel
theorem d2_29 : decode prog_70_method_5_code 29 = .ok (.getstatic 25, 3) := by decide +kernel
theorem d2_32 : decode prog_70_method_5_code 32 = .ok (.if_acmp .ne 7, 3) := by decide +kernel
theorem d2_35 : decode prog_70_method_5_code 35 = .ok (.iconst 1, 1) := by decide +kernel
theorem d2_36 : decode prog_70_method_5_code 36 = .ok (.goto 4, 3) := by decide +kernel
theorem d2_39 : decode prog_70_method_5_code 39 = .ok (.iconst 0, 1) := by decide +kernel
theorem d2_40 : decode prog_70_method_5_code 40 = .ok (.ireturn, 1) := by decide +kernel
theorem pn_0 : plainName "org/driftcairn/giop/MessageTypeMayBeFragmentedPinLaw" = true := by first | (simp [plainName, overriddenIn]; done) | decide +kernel
theorem pn_1 : plainName "org/driftcairn/giop/MessageType" = true := by first | (simp [plainName, overriddenIn]; done) | decide +kernel
theorem pd_0 : parseMethodDescriptor "(I)Lorg/driftcairn/giop/MessageType;" = some ⟨[.int], some (.object "org/driftcairn/giop/MessageType")⟩ := by decide +kernel
theorem pd_1 : parseMethodDescriptor "()Z" = some ⟨[], some .boolean⟩ := by decide +kernel
theorem ef_1_I (m : MethodId) (x0 : Int32) : entryFrame m #[(.int x0)] 1 = mkF m 0 #[iv x0] [] := by first | (simp [entryFrame, mkF, argsToLocals, Value.category]; done) | rfl
theorem ef_2_R (m : MethodId) (x0 : Addr) : entryFrame m #[(.ref x0)] 1 = mkF m 0 #[rv x0] [] := by first | (simp [entryFrame, mkF, argsToLocals, Value.category]; done) | rfl
theorem ef_0_I (m : MethodId) (x0 : Int32) : entryFrame m #[(.int x0)] maxLocals = mkF m 0 #[iv x0, .unset, .unset, .unset] [] := by first | (simp [entryFrame, mkF, argsToLocals, Value.category, maxLocals]; done) | rfl
set_option maxRecDepth 65536 in
set_option maxHeartbeats 40000000 in
theorem rm1_0 (l : Launch) (Z : State) (a0 : Array Value) (hw : ∀ d ∈ tables_1, d.before a0 Z = true) (ws : List Jvm.Cond) (w_MessageType_REQUEST : Addr) (h0 : Heap) (n0 : Nat) (Z0 : n0 ≤ h0.size) (S_MessageType_REQUEST : Sta Z h0 "org/driftcairn/giop/MessageType" "REQUEST" "Lorg/driftcairn/giop/MessageType;" (.ref w_MessageType_REQUEST)) :
    MetFree l (⟨"org/driftcairn/giop/MessageTypeMayBeFragmentedPinLaw", "pick", "(I)Lorg/driftcairn/giop/MessageType;"⟩ : MethodName) (head1 (Jvm.Cond.code (⟨"org/driftcairn/giop/MessageTypeMayBeFragmentedPinLaw", "pick", "(I)Lorg/driftcairn/giop/MessageType;"⟩ : MethodName) method_2_code 1 (some (.object "org/driftcairn/giop/MessageType")) :: ws) ({ frames := 0, cells := 0, slots := 0, locals := 0 } : Room)) (fun a U => a = #[(.int (0 : Int32))] ∧ Z.Warmed39 U.vm ∧ U.heap = h0) (fun _ _ _ _ _ => True) (fun _ U o U' => ∃ v L, o = .returned v ∧ own_QP (some (.ref w_MessageType_REQUEST)) h0 n0 v U'.heap L ∧ FrameEnd U o U' L ({ frames := 0, cells := 0, slots := 0, locals := 0 } : Room).cells ({ frames := 0, cells := 0, slots := 0, locals := 0 } : Room).slots) := by
  refine MetFree.of_bodySF (plainFor_of_name pn_0) hisR ?_
  intro p e s m args below meth c s₁ Bd hml0 hP hK
  obtain ⟨rfl, hZ, hh⟩ := hP
  have hx := Bd.exec
  have hby := Bd.bytes
  have hml : c.maxLocals = 1 := hml0
  have hown : s.vm.findClass "org/driftcairn/giop/MessageTypeMayBeFragmentedPinLaw" = some m.cls := findClass_of_methodNamed Bd.named
  have hnm := (name_of_methodNamed Bd.named Bd.method).1
  have X0 : Stand p l e ({ frames := 0, cells := 0, slots := 0, locals := 0 } : Room) s m #[(.int (0 : Int32))] below meth c s₁ [] 0 0 := Stand.of_body Bd
  have e0 : s₁.heap = h0 := by rw [← hh, Bd.state]; rfl
  have N0 := Fr.nil n0
  have pre0 : ∀ t, Steps p.tables e below (s₁.setTop (mkF m 0 #[iv (0 : Int32)] [])) t → Steps p.tables e below (s₁.setTop (entryFrame m #[(.int (0 : Int32))] 1)) t := fun t k => castTop (ef_1_I m (0 : Int32)) k
  obtain ⟨T1, X1, e1, st1⟩ := getS2 X0 hx hZ hown (host := "") (Or.inl (hw _ (List.mem_of_getElem? (i := 4) rfl))) Via.refl e0 S_MessageType_REQUEST (g := (mkF m 4 #[iv (0 : Int32)] [])) rfl (hb hby d1_4)
  obtain ⟨fs, hr, hrun, hended, hW, hsame⟩ := X1.leave (v := (some (.ref w_MessageType_REQUEST))) (fun h => by rw [Bd.returns] at h; cases h)
  refine ⟨_, _, pre0 _ ?_, hrun, hended, _, _, rfl, ?_, ⟨_, rfl⟩, hW, hsame.mono (by decide) (by decide)⟩
  · show Steps p.tables e below (s₁.setTop (mkF m 0 #[iv (0 : Int32)] [])) _
    refine XS.iloadN X0.here hx rfl (hb hby d1_0) rfl ?_
    show Steps p.tables e below (s₁.setTop (mkF m 1 #[iv (0 : Int32)] [(.int (0 : Int32))])) _
    refine XS.ifNo X0.here hx rfl (hb hby d1_1) rfl ((if0 _ _).trans (teq (by decide +kernel : (0 : Int32) = (0 : Int32))).2) ?_
    show Steps p.tables e below (s₁.setTop (mkF m 4 #[iv (0 : Int32)] [])) _
    refine st1 _ ?_
    show Steps p.tables e below (T1.setTop (mkF m 7 #[iv (0 : Int32)] [(.ref w_MessageType_REQUEST)])) _
    exact own_retA X1 hx Bd.returns rfl rfl (hb hby d1_7) hr
  · exact ⟨rfl, N0, e1⟩
set_option maxRecDepth 65536 in
set_option maxHeartbeats 40000000 in
theorem rm2_1 (l : Launch) (Z : State) (a0 : Array Value) (hw : ∀ d ∈ tables_1, d.before a0 Z = true) (ws : List Jvm.Cond) (w_MessageType_REQUEST : Addr) (h0 : Heap) (n0 : Nat) (Z0 : n0 ≤ h0.size) (S_MessageType_REQUEST : Sta Z h0 "org/driftcairn/giop/MessageType" "REQUEST" "Lorg/driftcairn/giop/MessageType;" (.ref w_MessageType_REQUEST)) :
    MetFree l (⟨"org/driftcairn/giop/MessageType", "mayBeFragmented", "()Z"⟩ : MethodName) (head1 (Jvm.Cond.code (⟨"org/driftcairn/giop/MessageType", "mayBeFragmented", "()Z"⟩ : MethodName) prog_70_method_5_code 1 (some .boolean) :: ws) ({ frames := 0, cells := 0, slots := 0, locals := 0 } : Room)) (fun a U => a = #[(.ref w_MessageType_REQUEST)] ∧ Z.Warmed39 U.vm ∧ U.heap = h0) (fun _ _ _ _ _ => True) (fun _ U o U' => ∃ v L, o = .returned v ∧ own_QP (some (.int (1 : Int32))) h0 n0 v U'.heap L ∧ FrameEnd U o U' L ({ frames := 0, cells := 0, slots := 0, locals := 0 } : Room).cells ({ frames := 0, cells := 0, slots := 0, locals := 0 } : Room).slots) := by
  refine MetFree.of_bodySF (plainFor_of_name pn_1) hisR ?_
  intro p e s m args below meth c s₁ Bd hml0 hP hK
  obtain ⟨rfl, hZ, hh⟩ := hP
  have hx := Bd.exec
  have hby := Bd.bytes
  have hml : c.maxLocals = 1 := hml0
  have hown : s.vm.findClass "org/driftcairn/giop/MessageType" = some m.cls := findClass_of_methodNamed Bd.named
  have hnm := (name_of_methodNamed Bd.named Bd.method).1
  have X0 : Stand p l e ({ frames := 0, cells := 0, slots := 0, locals := 0 } : Room) s m #[(.ref w_MessageType_REQUEST)] below meth c s₁ [] 0 0 := Stand.of_body Bd
  have e0 : s₁.heap = h0 := by rw [← hh, Bd.state]; rfl
  have N0 := Fr.nil n0
  have pre0 : ∀ t, Steps p.tables e below (s₁.setTop (mkF m 0 #[rv w_MessageType_REQUEST] [])) t → Steps p.tables e below (s₁.setTop (entryFrame m #[(.ref w_MessageType_REQUEST)] 1)) t := fun t k => castTop (ef_2_R m w_MessageType_REQUEST) k
  obtain ⟨T1, X1, e1, st1⟩ := getS2 X0 hx hZ hown (host := "") (Or.inl (hw _ (List.mem_of_getElem? (i := 12) rfl))) Via.refl e0 S_MessageType_REQUEST (g := (mkF m 1 #[rv w_MessageType_REQUEST] [(.ref w_MessageType_REQUEST)])) rfl (hb hby d2_1)
  obtain ⟨fs, hr, hrun, hended, hW, hsame⟩ := X1.leave (v := (some (.int (1 : Int32)))) (fun h => by rw [Bd.returns] at h; cases h)
  refine ⟨_, _, pre0 _ ?_, hrun, hended, _, _, rfl, ?_, ⟨_, rfl⟩, hW, hsame.mono (by decide) (by decide)⟩
  · show Steps p.tables e below (s₁.setTop (mkF m 0 #[rv w_MessageType_REQUEST] [])) _
    refine XS.aloadN X0.here hx rfl (hb hby d2_0) rfl rfl ?_
    show Steps p.tables e below (s₁.setTop (mkF m 1 #[rv w_MessageType_REQUEST] [(.ref w_MessageType_REQUEST)])) _
    refine st1 _ ?_
    show Steps p.tables e below (T1.setTop (mkF m 4 #[rv w_MessageType_REQUEST] [(.ref w_MessageType_REQUEST), (.ref w_MessageType_REQUEST)])) _
    refine Jvm.RoadKit.acmp (g := (mkF m 4 #[rv w_MessageType_REQUEST] [(.ref w_MessageType_REQUEST), (.ref w_MessageType_REQUEST)])) X1 hx rfl rfl rfl (pc0 := 4) (pc' := 35) (same := true) rfl (hb hby d2_4) rfl (decide_eq_true rfl) (by decide) (by decide) ?_
    show Steps p.tables e below (T1.setTop (mkF m 35 #[rv w_MessageType_REQUEST] [])) _
    refine XS.iconst X1.here hx rfl (hb hby d2_35) ?_
    show Steps p.tables e below (T1.setTop (mkF m 36 #[rv w_MessageType_REQUEST] [(.int (1 : Int32))])) _
    refine XS.goto X1.here hx rfl (pc0 := 36) (pc' := 40) rfl (hb hby d2_36) (by decide) (by decide) ?_
    show Steps p.tables e below (T1.setTop (mkF m 40 #[rv w_MessageType_REQUEST] [(.int (1 : Int32))])) _
    exact retN X1 hx (t := .boolean) Bd.returns (by simp) (hb hby d2_40) hr
  · exact ⟨rfl, N0, e1⟩
set_option maxRecDepth 65536 in
set_option maxHeartbeats 40000000 in
theorem rm0_0 (l : Launch) (Z : State) (a0 : Array Value) (hw : ∀ d ∈ tables_1, d.before a0 Z = true) (ws : List Jvm.Cond) (p0 : Int32) (w_MessageType_REQUEST : Addr) (h0 : Heap) (n0 : Nat) (Z0 : n0 ≤ h0.size) (hk0 : (p0 &&& (7 : Int32)) = (0 : Int32)) (S_MessageType_REQUEST : Sta Z h0 "org/driftcairn/giop/MessageType" "REQUEST" "Lorg/driftcairn/giop/MessageType;" (.ref w_MessageType_REQUEST)) (E_w_MessageType_REQUEST : Exa Z h0 w_MessageType_REQUEST "org/driftcairn/giop/MessageType") :
    MetFree l x (head1 (Jvm.Cond.code x code maxLocals ret :: ws) room_1) (fun a U => a = #[(.int p0)] ∧ Z.Warmed39 U.vm ∧ U.heap = h0) (fun _ _ _ _ _ => True) (fun _ U o U' => ∃ v L, o = .returned v ∧ own_QL n0 v U'.heap L ∧ FrameEnd U o U' L room_1.cells room_1.slots) := by
  refine MetFree.of_bodySF (plainFor_of_name pn_0) hisR ?_
  intro p e s m args below meth c s₁ Bd hml0 hP hK
  obtain ⟨rfl, hZ, hh⟩ := hP
  have hx := Bd.exec
  have hby := Bd.bytes
  have hml : c.maxLocals = 4 := hml0
  have hown : s.vm.findClass "org/driftcairn/giop/MessageTypeMayBeFragmentedPinLaw" = some m.cls := findClass_of_methodNamed Bd.named
  have hnm := (name_of_methodNamed Bd.named Bd.method).1
  have X0 : Stand p l e room_1 s m #[(.int p0)] below meth c s₁ [] 0 0 := Stand.of_body Bd
  have e0 : s₁.heap = h0 := by rw [← hh, Bd.state]; rfl
  have N0 := Fr.nil n0
  have pre0 : ∀ t, Steps p.tables e below (s₁.setTop (mkF m 0 #[iv p0, .unset, .unset, .unset] [])) t → Steps p.tables e below (s₁.setTop (entryFrame m #[(.int p0)] maxLocals)) t := fun t k => castTop (ef_0_I m p0) k
  obtain ⟨_, _, ⟨T1, L1, k1, n1⟩, -, X1, ⟨Lc1, hQ1, l1, y1, z1⟩, st1⟩ := Jvm.LawKit.callS X0 hx (y := (⟨"org/driftcairn/giop/MessageTypeMayBeFragmentedPinLaw", "pick", "(I)Lorg/driftcairn/giop/MessageType;"⟩ : MethodName)) hown (mvT hZ (hw _ (List.mem_of_getElem? (i := 0) rfl))) (mvT hZ (hw _ (List.mem_of_getElem? (i := 1) rfl))) (mvT hZ (hw _ (List.mem_of_getElem? (i := 2) rfl))) (mvT hZ (hw _ (List.mem_of_getElem? (i := 3) rfl))) (by decide) (backOf (W := 0) (rm1_0 l Z a0 hw [] w_MessageType_REQUEST h0 n0 Z0 S_MessageType_REQUEST) hZ (hw _ (List.mem_of_getElem? (i := 3) rfl)) (hw _ (List.mem_of_getElem? (i := 2) rfl)) (by decide) (by decide)) (g := (mkF m 6 #[iv p0, iv (0 : Int32), .unset, .unset] [(.int (0 : Int32))])) rfl (by rw [hml]; rfl) (argsL := [(.int (0 : Int32))]) (rest := []) (lenOf pd_0 rfl) rfl (by show 2 * 0 + _ ≤ _; exact Nat.le_of_eq rfl) (hb hby at_6) (fun _ _ => ⟨rfl, e0, (by decide : 0 + 0 ≤ _), (by decide : 0 + 0 ≤ _)⟩)
  dsimp only [Pt.U, Pt.locs, Pt.cells, Pt.slots] at X1 l1 y1 z1 st1 hQ1
  subst l1 y1 z1
  obtain ⟨rfl, N1q, e1⟩ := hQ1
  have N1 := Fr.app N0 N1q
  obtain ⟨cq2, kq2, q2a, q2b, q2c⟩ := isOf hZ e1 E_w_MessageType_REQUEST
  obtain ⟨_, _, ⟨T2, L2, k2, n2⟩, -, X2, ⟨Lc2, hQ2, l2, y2, z2⟩, st2⟩ := X1.virtualBack hx (y := (⟨"org/driftcairn/giop/MessageType", "mayBeFragmented", "()Z"⟩ : MethodName)) (z := (⟨"org/driftcairn/giop/MessageType", "mayBeFragmented", "()Z"⟩ : MethodName)) hown (mvT hZ (hw _ (List.mem_of_getElem? (i := 7) rfl))) (mvT hZ (hw _ (List.mem_of_getElem? (i := 8) rfl))) (notFace_of_selects (args := #[]) (mvT hZ (hw _ (List.mem_of_getElem? (i := 10) rfl)))) (mvT hZ (hw _ (List.mem_of_getElem? (i := 10) rfl))) (mvT hZ (hw _ (List.mem_of_getElem? (i := 9) rfl))) (by decide) (backOf (W := 0) (rm2_1 l Z a0 hw [] w_MessageType_REQUEST h0 n0 Z0 S_MessageType_REQUEST) hZ (hw _ (List.mem_of_getElem? (i := 11) rfl)) (hw _ (List.mem_of_getElem? (i := 5) rfl)) (by decide) (by decide)) q2a q2c (g := (mkF m 33 #[iv p0, iv (0 : Int32), rv w_MessageType_REQUEST, iv (1 : Int32)] [(.ref w_MessageType_REQUEST)])) rfl (by rw [hml]; rfl) (Steps.refl _) (argsL := []) (rest := []) (lenOf pd_1 rfl) rfl (by show 2 * 0 + _ ≤ _; exact Nat.le_of_eq rfl) (hb hby at_33) (fun _ _ => ⟨rfl, e1, (by decide : 0 + 0 ≤ _), (by decide : 0 + 0 ≤ _)⟩)
  dsimp only [Pt.U, Pt.locs, Pt.cells, Pt.slots] at X2 l2 y2 z2 st2 hQ2
  subst l2 y2 z2
  obtain ⟨rfl, N2q, e2⟩ := hQ2
  have N2 := Fr.app N1 N2q
  obtain ⟨fs, hr, hrun, hended, hW, hsame⟩ := X2.leave (v := (some (.int (1 : Int32)))) (fun h => by rw [Bd.returns] at h; cases h)
  refine ⟨_, _, pre0 _ ?_, hrun, hended, _, _, rfl, ?_, ⟨_, rfl⟩, hW, hsame.mono (by decide) (by decide)⟩
  · show Steps p.tables e below (s₁.setTop (mkF m 0 #[iv p0, .unset, .unset, .unset] [])) _
    refine XS.iloadN X0.here hx rfl (hb hby at_0) rfl ?_
    show Steps p.tables e below (s₁.setTop (mkF m 1 #[iv p0, .unset, .unset, .unset] [(.int p0)])) _
    refine XS.bipush X0.here hx rfl (hb hby at_1) ?_
    show Steps p.tables e below (s₁.setTop (mkF m 3 #[iv p0, .unset, .unset, .unset] [(.int (7 : Int32)), (.int p0)])) _
    refine XS.iand X0.here hx rfl (hb hby at_3) rfl ?_
    show Steps p.tables e below (s₁.setTop (mkF m 4 #[iv p0, .unset, .unset, .unset] [(.int (p0 &&& (7 : Int32)))])) _
    rewrite [hk0]
    show Steps p.tables e below (s₁.setTop (mkF m 4 #[iv p0, .unset, .unset, .unset] [(.int (0 : Int32))])) _
    refine XS.istoreN X0.here hx rfl (hb hby at_4) rfl (l' := #[iv p0, iv (0 : Int32), .unset, .unset]) rfl ?_
    show Steps p.tables e below (s₁.setTop (mkF m 5 #[iv p0, iv (0 : Int32), .unset, .unset] [])) _
    refine XS.iloadN X0.here hx rfl (hb hby at_5) rfl ?_
    show Steps p.tables e below (s₁.setTop (mkF m 6 #[iv p0, iv (0 : Int32), .unset, .unset] [(.int (0 : Int32))])) _
    refine st1 _ ?_
    show Steps p.tables e below (T1.setTop (mkF m 9 #[iv p0, iv (0 : Int32), .unset, .unset] [(.ref w_MessageType_REQUEST)])) _
    refine XS.astoreN X1.here hx rfl (hb hby at_9) rfl rfl (l' := #[iv p0, iv (0 : Int32), rv w_MessageType_REQUEST, .unset]) rfl ?_
    show Steps p.tables e below (T1.setTop (mkF m 10 #[iv p0, iv (0 : Int32), rv w_MessageType_REQUEST, .unset] [])) _
    refine XS.iloadN X1.here hx rfl (hb hby at_10) rfl ?_
    show Steps p.tables e below (T1.setTop (mkF m 11 #[iv p0, iv (0 : Int32), rv w_MessageType_REQUEST, .unset] [(.int (0 : Int32))])) _
    refine XS.iconst X1.here hx rfl (hb hby at_11) ?_
    show Steps p.tables e below (T1.setTop (mkF m 12 #[iv p0, iv (0 : Int32), rv w_MessageType_REQUEST, .unset] [(.int (4 : Int32)), (.int (0 : Int32))])) _
    refine XS.icmpNo X1.here hx rfl (hb hby at_12) rfl (flt (by decide +kernel : ¬ ((4 : Int32) < (0 : Int32)))).2.2.1 ?_
    show Steps p.tables e below (T1.setTop (mkF m 15 #[iv p0, iv (0 : Int32), rv w_MessageType_REQUEST, .unset] [])) _
    refine XS.iloadN X1.here hx rfl (hb hby at_15) rfl ?_
    show Steps p.tables e below (T1.setTop (mkF m 16 #[iv p0, iv (0 : Int32), rv w_MessageType_REQUEST, .unset] [(.int (0 : Int32))])) _
    refine XS.iconst X1.here hx rfl (hb hby at_16) ?_
    show Steps p.tables e below (T1.setTop (mkF m 17 #[iv p0, iv (0 : Int32), rv w_MessageType_REQUEST, .unset] [(.int (2 : Int32)), (.int (0 : Int32))])) _
    refine XS.icmpYes X1.here hx rfl (pc0 := 17) (pc' := 26) rfl (hb hby at_17) rfl (feq (by decide +kernel : ¬ ((0 : Int32) = (2 : Int32)))).2 (by decide) (by decide) ?_
    show Steps p.tables e below (T1.setTop (mkF m 26 #[iv p0, iv (0 : Int32), rv w_MessageType_REQUEST, .unset] [])) _
    refine XS.iconst X1.here hx rfl (hb hby at_26) ?_
    show Steps p.tables e below (T1.setTop (mkF m 27 #[iv p0, iv (0 : Int32), rv w_MessageType_REQUEST, .unset] [(.int (1 : Int32))])) _
    refine XS.goto X1.here hx rfl (pc0 := 27) (pc' := 31) rfl (hb hby at_27) (by decide) (by decide) ?_
    show Steps p.tables e below (T1.setTop (mkF m 31 #[iv p0, iv (0 : Int32), rv w_MessageType_REQUEST, .unset] [(.int (1 : Int32))])) _
    refine XS.istoreN X1.here hx rfl (hb hby at_31) rfl (l' := #[iv p0, iv (0 : Int32), rv w_MessageType_REQUEST, iv (1 : Int32)]) rfl ?_
    show Steps p.tables e below (T1.setTop (mkF m 32 #[iv p0, iv (0 : Int32), rv w_MessageType_REQUEST, iv (1 : Int32)] [])) _
    refine XS.aloadN X1.here hx rfl (hb hby at_32) rfl rfl ?_
    show Steps p.tables e below (T1.setTop (mkF m 33 #[iv p0, iv (0 : Int32), rv w_MessageType_REQUEST, iv (1 : Int32)] [(.ref w_MessageType_REQUEST)])) _
    refine st2.trans ?_
    show Steps p.tables e below (T2.setTop (mkF m 36 #[iv p0, iv (0 : Int32), rv w_MessageType_REQUEST, iv (1 : Int32)] [(.int (1 : Int32))])) _
    refine XS.iloadN X2.here hx rfl (hb hby at_36) rfl ?_
    show Steps p.tables e below (T2.setTop (mkF m 37 #[iv p0, iv (0 : Int32), rv w_MessageType_REQUEST, iv (1 : Int32)] [(.int (1 : Int32)), (.int (1 : Int32))])) _
    refine XS.icmpNo X2.here hx rfl (hb hby at_37) rfl (teq (by decide +kernel : (1 : Int32) = (1 : Int32))).2 ?_
    show Steps p.tables e below (T2.setTop (mkF m 40 #[iv p0, iv (0 : Int32), rv w_MessageType_REQUEST, iv (1 : Int32)] [])) _
    refine XS.iconst X2.here hx rfl (hb hby at_40) ?_
    show Steps p.tables e below (T2.setTop (mkF m 41 #[iv p0, iv (0 : Int32), rv w_MessageType_REQUEST, iv (1 : Int32)] [(.int (1 : Int32))])) _
    refine XS.goto X2.here hx rfl (pc0 := 41) (pc' := 45) rfl (hb hby at_41) (by decide) (by decide) ?_
    show Steps p.tables e below (T2.setTop (mkF m 45 #[iv p0, iv (0 : Int32), rv w_MessageType_REQUEST, iv (1 : Int32)] [(.int (1 : Int32))])) _
    exact retN X2 hx (t := .boolean) Bd.returns (by simp) (hb hby at_45) hr
  · exact ⟨rfl, N2⟩
set_option maxRecDepth 65536 in
set_option maxHeartbeats 40000000 in
theorem rm1_2 (l : Launch) (Z : State) (a0 : Array Value) (hw : ∀ d ∈ tables_1, d.before a0 Z = true) (ws : List Jvm.Cond) (w_MessageType_REPLY : Addr) (h0 : Heap) (n0 : Nat) (Z0 : n0 ≤ h0.size) (S_MessageType_REPLY : Sta Z h0 "org/driftcairn/giop/MessageType" "REPLY" "Lorg/driftcairn/giop/MessageType;" (.ref w_MessageType_REPLY)) :
    MetFree l (⟨"org/driftcairn/giop/MessageTypeMayBeFragmentedPinLaw", "pick", "(I)Lorg/driftcairn/giop/MessageType;"⟩ : MethodName) (head1 (Jvm.Cond.code (⟨"org/driftcairn/giop/MessageTypeMayBeFragmentedPinLaw", "pick", "(I)Lorg/driftcairn/giop/MessageType;"⟩ : MethodName) method_2_code 1 (some (.object "org/driftcairn/giop/MessageType")) :: ws) ({ frames := 0, cells := 0, slots := 0, locals := 0 } : Room)) (fun a U => a = #[(.int (1 : Int32))] ∧ Z.Warmed39 U.vm ∧ U.heap = h0) (fun _ _ _ _ _ => True) (fun _ U o U' => ∃ v L, o = .returned v ∧ own_QP (some (.ref w_MessageType_REPLY)) h0 n0 v U'.heap L ∧ FrameEnd U o U' L ({ frames := 0, cells := 0, slots := 0, locals := 0 } : Room).cells ({ frames := 0, cells := 0, slots := 0, locals := 0 } : Room).slots) := by
  refine MetFree.of_bodySF (plainFor_of_name pn_0) hisR ?_
  intro p e s m args below meth c s₁ Bd hml0 hP hK
  obtain ⟨rfl, hZ, hh⟩ := hP
  have hx := Bd.exec
  have hby := Bd.bytes
  have hml : c.maxLocals = 1 := hml0
  have hown : s.vm.findClass "org/driftcairn/giop/MessageTypeMayBeFragmentedPinLaw" = some m.cls := findClass_of_methodNamed Bd.named
  have hnm := (name_of_methodNamed Bd.named Bd.method).1
  have X0 : Stand p l e ({ frames := 0, cells := 0, slots := 0, locals := 0 } : Room) s m #[(.int (1 : Int32))] below meth c s₁ [] 0 0 := Stand.of_body Bd
  have e0 : s₁.heap = h0 := by rw [← hh, Bd.state]; rfl
  have N0 := Fr.nil n0
  have pre0 : ∀ t, Steps p.tables e below (s₁.setTop (mkF m 0 #[iv (1 : Int32)] [])) t → Steps p.tables e below (s₁.setTop (entryFrame m #[(.int (1 : Int32))] 1)) t := fun t k => castTop (ef_1_I m (1 : Int32)) k
  obtain ⟨T1, X1, e1, st1⟩ := getS2 X0 hx hZ hown (host := "") (Or.inl (hw _ (List.mem_of_getElem? (i := 27) rfl))) Via.refl e0 S_MessageType_REPLY (g := (mkF m 13 #[iv (1 : Int32)] [])) rfl (hb hby d1_13)
  obtain ⟨fs, hr, hrun, hended, hW, hsame⟩ := X1.leave (v := (some (.ref w_MessageType_REPLY))) (fun h => by rw [Bd.returns] at h; cases h)
  refine ⟨_, _, pre0 _ ?_, hrun, hended, _, _, rfl, ?_, ⟨_, rfl⟩, hW, hsame.mono (by decide) (by decide)⟩
  · show Steps p.tables e below (s₁.setTop (mkF m 0 #[iv (1 : Int32)] [])) _
    refine XS.iloadN X0.here hx rfl (hb hby d1_0) rfl ?_
    show Steps p.tables e below (s₁.setTop (mkF m 1 #[iv (1 : Int32)] [(.int (1 : Int32))])) _
    refine XS.ifYes X0.here hx rfl (pc0 := 1) (pc' := 8) rfl (hb hby d1_1) rfl ((if0 _ _).trans (feq (by decide +kernel : ¬ ((1 : Int32) = (0 : Int32)))).2) (by decide) (by decide) ?_
    show Steps p.tables e below (s₁.setTop (mkF m 8 #[iv (1 : Int32)] [])) _
    refine XS.iloadN X0.here hx rfl (hb hby d1_8) rfl ?_
    show Steps p.tables e below (s₁.setTop (mkF m 9 #[iv (1 : Int32)] [(.int (1 : Int32))])) _
    refine XS.iconst X0.here hx rfl (hb hby d1_9) ?_
    show Steps p.tables e below (s₁.setTop (mkF m 10 #[iv (1 : Int32)] [(.int (1 : Int32)), (.int (1 : Int32))])) _
    refine XS.icmpNo X0.here hx rfl (hb hby d1_10) rfl (teq (by decide +kernel : (1 : Int32) = (1 : Int32))).2 ?_
    show Steps p.tables e below (s₁.setTop (mkF m 13 #[iv (1 : Int32)] [])) _
    refine st1 _ ?_
    show Steps p.tables e below (T1.setTop (mkF m 16 #[iv (1 : Int32)] [(.ref w_MessageType_REPLY)])) _
    exact own_retA X1 hx Bd.returns rfl rfl (hb hby d1_16) hr
  · exact ⟨rfl, N0, e1⟩
set_option maxRecDepth 65536 in
set_option maxHeartbeats 40000000 in
theorem rm2_3 (l : Launch) (Z : State) (a0 : Array Value) (hw : ∀ d ∈ tables_1, d.before a0 Z = true) (ws : List Jvm.Cond) (w_MessageType_REQUEST : Addr) (w_MessageType_REPLY : Addr) (h0 : Heap) (n0 : Nat) (Z0 : n0 ≤ h0.size) (S_MessageType_REQUEST : Sta Z h0 "org/driftcairn/giop/MessageType" "REQUEST" "Lorg/driftcairn/giop/MessageType;" (.ref w_MessageType_REQUEST)) (ne_w_MessageType_REPLY_w_MessageType_REQUEST : ¬ (w_MessageType_REPLY = w_MessageType_REQUEST)) (S_MessageType_REPLY : Sta Z h0 "org/driftcairn/giop/MessageType" "REPLY" "Lorg/driftcairn/giop/MessageType;" (.ref w_MessageType_REPLY)) :
    MetFree l (⟨"org/driftcairn/giop/MessageType", "mayBeFragmented", "()Z"⟩ : MethodName) (head1 (Jvm.Cond.code (⟨"org/driftcairn/giop/MessageType", "mayBeFragmented", "()Z"⟩ : MethodName) prog_70_method_5_code 1 (some .boolean) :: ws) ({ frames := 0, cells := 0, slots := 0, locals := 0 } : Room)) (fun a U => a = #[(.ref w_MessageType_REPLY)] ∧ Z.Warmed39 U.vm ∧ U.heap = h0) (fun _ _ _ _ _ => True) (fun _ U o U' => ∃ v L, o = .returned v ∧ own_QP (some (.int (1 : Int32))) h0 n0 v U'.heap L ∧ FrameEnd U o U' L ({ frames := 0, cells := 0, slots := 0, locals := 0 } : Room).cells ({ frames := 0, cells := 0, slots := 0, locals := 0 } : Room).slots) := by
  refine MetFree.of_bodySF (plainFor_of_name pn_1) hisR ?_
  intro p e s m args below meth c s₁ Bd hml0 hP hK
  obtain ⟨rfl, hZ, hh⟩ := hP
  have hx := Bd.exec
  have hby := Bd.bytes
  have hml : c.maxLocals = 1 := hml0
  have hown : s.vm.findClass "org/driftcairn/giop/MessageType" = some m.cls := findClass_of_methodNamed Bd.named
  have hnm := (name_of_methodNamed Bd.named Bd.method).1
  have X0 : Stand p l e ({ frames := 0, cells := 0, slots := 0, locals := 0 } : Room) s m #[(.ref w_MessageType_REPLY)] below meth c s₁ [] 0 0 := Stand.of_body Bd
  have e0 : s₁.heap = h0 := by rw [← hh, Bd.state]; rfl
  have N0 := Fr.nil n0
  have pre0 : ∀ t, Steps p.tables e below (s₁.setTop (mkF m 0 #[rv w_MessageType_REPLY] [])) t → Steps p.tables e below (s₁.setTop (entryFrame m #[(.ref w_MessageType_REPLY)] 1)) t := fun t k => castTop (ef_2_R m w_MessageType_REPLY) k
  obtain ⟨T1, X1, e1, st1⟩ := getS2 X0 hx hZ hown (host := "") (Or.inl (hw _ (List.mem_of_getElem? (i := 12) rfl))) Via.refl e0 S_MessageType_REQUEST (g := (mkF m 1 #[rv w_MessageType_REPLY] [(.ref w_MessageType_REPLY)])) rfl (hb hby d2_1)
  obtain ⟨T2, X2, e2, st2⟩ := getS2 X1 hx hZ hown (host := "") (Or.inl (hw _ (List.mem_of_getElem? (i := 15) rfl))) Via.refl e1 S_MessageType_REPLY (g := (mkF m 8 #[rv w_MessageType_REPLY] [(.ref w_MessageType_REPLY)])) rfl (hb hby d2_8)
  obtain ⟨fs, hr, hrun, hended, hW, hsame⟩ := X2.leave (v := (some (.int (1 : Int32)))) (fun h => by rw [Bd.returns] at h; cases h)
  refine ⟨_, _, pre0 _ ?_, hrun, hended, _, _, rfl, ?_, ⟨_, rfl⟩, hW, hsame.mono (by decide) (by decide)⟩
  · show Steps p.tables e below (s₁.setTop (mkF m 0 #[rv w_MessageType_REPLY] [])) _
    refine XS.aloadN X0.here hx rfl (hb hby d2_0) rfl rfl ?_
    show Steps p.tables e below (s₁.setTop (mkF m 1 #[rv w_MessageType_REPLY] [(.ref w_MessageType_REPLY)])) _
    refine st1 _ ?_
    show Steps p.tables e below (T1.setTop (mkF m 4 #[rv w_MessageType_REPLY] [(.ref w_MessageType_REQUEST), (.ref w_MessageType_REPLY)])) _
    refine Jvm.RoadKit.acmp (g := (mkF m 4 #[rv w_MessageType_REPLY] [(.ref w_MessageType_REQUEST), (.ref w_MessageType_REPLY)])) X1 hx rfl rfl rfl (pc0 := 4) (pc' := 7) (same := false) rfl (hb hby d2_4) rfl (decide_eq_false fun q => ne_w_MessageType_REPLY_w_MessageType_REQUEST (Value.ref.inj q)) (by decide) (by decide) ?_
    show Steps p.tables e below (T1.setTop (mkF m 7 #[rv w_MessageType_REPLY] [])) _
    refine XS.aloadN X1.here hx rfl (hb hby d2_7) rfl rfl ?_
    show Steps p.tables e below (T1.setTop (mkF m 8 #[rv w_MessageType_REPLY] [(.ref w_MessageType_REPLY)])) _
    refine st2 _ ?_
    show Steps p.tables e below (T2.setTop (mkF m 11 #[rv w_MessageType_REPLY] [(.ref w_MessageType_REPLY), (.ref w_MessageType_REPLY)])) _
    refine Jvm.RoadKit.acmp (g := (mkF m 11 #[rv w_MessageType_REPLY] [(.ref w_MessageType_REPLY), (.ref w_MessageType_REPLY)])) X2 hx rfl rfl rfl (pc0 := 11) (pc' := 35) (same := true) rfl (hb hby d2_11) rfl (decide_eq_true rfl) (by decide) (by decide) ?_
    show Steps p.tables e below (T2.setTop (mkF m 35 #[rv w_MessageType_REPLY] [])) _
    refine XS.iconst X2.here hx rfl (hb hby d2_35) ?_
    show Steps p.tables e below (T2.setTop (mkF m 36 #[rv w_MessageType_REPLY] [(.int (1 : Int32))])) _
    refine XS.goto X2.here hx rfl (pc0 := 36) (pc' := 40) rfl (hb hby d2_36) (by decide) (by decide) ?_
    show Steps p.tables e below (T2.setTop (mkF m 40 #[rv w_MessageType_REPLY] [(.int (1 : Int32))])) _
    exact retN X2 hx (t := .boolean) Bd.returns (by simp) (hb hby d2_40) hr
  · exact ⟨rfl, N0, e2⟩
set_option maxRecDepth 65536 in
set_option maxHeartbeats 40000000 in
theorem rm0_1 (l : Launch) (Z : State) (a0 : Array Value) (hw : ∀ d ∈ tables_1, d.before a0 Z = true) (ws : List Jvm.Cond) (p0 : Int32) (w_MessageType_REQUEST : Addr) (w_MessageType_REPLY : Addr) (h0 : Heap) (n0 : Nat) (Z0 : n0 ≤ h0.size) (hk0 : (p0 &&& (7 : Int32)) = (1 : Int32)) (S_MessageType_REPLY : Sta Z h0 "org/driftcairn/giop/MessageType" "REPLY" "Lorg/driftcairn/giop/MessageType;" (.ref w_MessageType_REPLY)) (S_MessageType_REQUEST : Sta Z h0 "org/driftcairn/giop/MessageType" "REQUEST" "Lorg/driftcairn/giop/MessageType;" (.ref w_MessageType_REQUEST)) (ne_w_MessageType_REPLY_w_MessageType_REQUEST : ¬ (w_MessageType_REPLY = w_MessageType_REQUEST)) (E_w_MessageType_REPLY : Exa Z h0 w_MessageType_REPLY "org/driftcairn/giop/MessageType") :
    MetFree l x (head1 (Jvm.Cond.code x code maxLocals ret :: ws) room_1) (fun a U => a = #[(.int p0)] ∧ Z.Warmed39 U.vm ∧ U.heap = h0) (fun _ _ _ _ _ => True) (fun _ U o U' => ∃ v L, o = .returned v ∧ own_QL n0 v U'.heap L ∧ FrameEnd U o U' L room_1.cells room_1.slots) := by
  refine MetFree.of_bodySF (plainFor_of_name pn_0) hisR ?_
  intro p e s m args below meth c s₁ Bd hml0 hP hK
  obtain ⟨rfl, hZ, hh⟩ := hP
  have hx := Bd.exec
  have hby := Bd.bytes
  have hml : c.maxLocals = 4 := hml0
  have hown : s.vm.findClass "org/driftcairn/giop/MessageTypeMayBeFragmentedPinLaw" = some m.cls := findClass_of_methodNamed Bd.named
  have hnm := (name_of_methodNamed Bd.named Bd.method).1
  have X0 : Stand p l e room_1 s m #[(.int p0)] below meth c s₁ [] 0 0 := Stand.of_body Bd
  have e0 : s₁.heap = h0 := by rw [← hh, Bd.state]; rfl
  have N0 := Fr.nil n0
  have pre0 : ∀ t, Steps p.tables e below (s₁.setTop (mkF m 0 #[iv p0, .unset, .unset, .unset] [])) t → Steps p.tables e below (s₁.setTop (entryFrame m #[(.int p0)] maxLocals)) t := fun t k => castTop (ef_0_I m p0) k
  obtain ⟨_, _, ⟨T1, L1, k1, n1⟩, -, X1, ⟨Lc1, hQ1, l1, y1, z1⟩, st1⟩ := Jvm.LawKit.callS X0 hx (y := (⟨"org/driftcairn/giop/MessageTypeMayBeFragmentedPinLaw", "pick", "(I)Lorg/driftcairn/giop/MessageType;"⟩ : MethodName)) hown (mvT hZ (hw _ (List.mem_of_getElem? (i := 0) rfl))) (mvT hZ (hw _ (List.mem_of_getElem? (i := 1) rfl))) (mvT hZ (hw _ (List.mem_of_getElem? (i := 2) rfl))) (mvT hZ (hw _ (List.mem_of_getElem? (i := 3) rfl))) (by decide) (backOf (W := 0) (rm1_2 l Z a0 hw [] w_MessageType_REPLY h0 n0 Z0 S_MessageType_REPLY) hZ (hw _ (List.mem_of_getElem? (i := 3) rfl)) (hw _ (List.mem_of_getElem? (i := 2) rfl)) (by decide) (by decide)) (g := (mkF m 6 #[iv p0, iv (1 : Int32), .unset, .unset] [(.int (1 : Int32))])) rfl (by rw [hml]; rfl) (argsL := [(.int (1 : Int32))]) (rest := []) (lenOf pd_0 rfl) rfl (by show 2 * 0 + _ ≤ _; exact Nat.le_of_eq rfl) (hb hby at_6) (fun _ _ => ⟨rfl, e0, (by decide : 0 + 0 ≤ _), (by decide : 0 + 0 ≤ _)⟩)
  dsimp only [Pt.U, Pt.locs, Pt.cells, Pt.slots] at X1 l1 y1 z1 st1 hQ1
  subst l1 y1 z1
  obtain ⟨rfl, N1q, e1⟩ := hQ1
  have N1 := Fr.app N0 N1q
  obtain ⟨cq2, kq2, q2a, q2b, q2c⟩ := isOf hZ e1 E_w_MessageType_REPLY
  obtain ⟨_, _, ⟨T2, L2, k2, n2⟩, -, X2, ⟨Lc2, hQ2, l2, y2, z2⟩, st2⟩ := X1.virtualBack hx (y := (⟨"org/driftcairn/giop/MessageType", "mayBeFragmented", "()Z"⟩ : MethodName)) (z := (⟨"org/driftcairn/giop/MessageType", "mayBeFragmented", "()Z"⟩ : MethodName)) hown (mvT hZ (hw _ (List.mem_of_getElem? (i := 7) rfl))) (mvT hZ (hw _ (List.mem_of_getElem? (i := 8) rfl))) (notFace_of_selects (args := #[]) (mvT hZ (hw _ (List.mem_of_getElem? (i := 10) rfl)))) (mvT hZ (hw _ (List.mem_of_getElem? (i := 10) rfl))) (mvT hZ (hw _ (List.mem_of_getElem? (i := 9) rfl))) (by decide) (backOf (W := 0) (rm2_3 l Z a0 hw [] w_MessageType_REQUEST w_MessageType_REPLY h0 n0 Z0 S_MessageType_REQUEST ne_w_MessageType_REPLY_w_MessageType_REQUEST S_MessageType_REPLY) hZ (hw _ (List.mem_of_getElem? (i := 11) rfl)) (hw _ (List.mem_of_getElem? (i := 5) rfl)) (by decide) (by decide)) q2a q2c (g := (mkF m 33 #[iv p0, iv (1 : Int32), rv w_MessageType_REPLY, iv (1 : Int32)] [(.ref w_MessageType_REPLY)])) rfl (by rw [hml]; rfl) (Steps.refl _) (argsL := []) (rest := []) (lenOf pd_1 rfl) rfl (by show 2 * 0 + _ ≤ _; exact Nat.le_of_eq rfl) (hb hby at_33) (fun _ _ => ⟨rfl, e1, (by decide : 0 + 0 ≤ _), (by decide : 0 + 0 ≤ _)⟩)
  dsimp only [Pt.U, Pt.locs, Pt.cells, Pt.slots] at X2 l2 y2 z2 st2 hQ2
  subst l2 y2 z2
  obtain ⟨rfl, N2q, e2⟩ := hQ2
  have N2 := Fr.app N1 N2q
  obtain ⟨fs, hr, hrun, hended, hW, hsame⟩ := X2.leave (v := (some (.int (1 : Int32)))) (fun h => by rw [Bd.returns] at h; cases h)
  refine ⟨_, _, pre0 _ ?_, hrun, hended, _, _, rfl, ?_, ⟨_, rfl⟩, hW, hsame.mono (by decide) (by decide)⟩
  · show Steps p.tables e below (s₁.setTop (mkF m 0 #[iv p0, .unset, .unset, .unset] [])) _
    refine XS.iloadN X0.here hx rfl (hb hby at_0) rfl ?_
    show Steps p.tables e below (s₁.setTop (mkF m 1 #[iv p0, .unset, .unset, .unset] [(.int p0)])) _
    refine XS.bipush X0.here hx rfl (hb hby at_1) ?_
    show Steps p.tables e below (s₁.setTop (mkF m 3 #[iv p0, .unset, .unset, .unset] [(.int (7 : Int32)), (.int p0)])) _
    refine XS.iand X0.here hx rfl (hb hby at_3) rfl ?_
    show Steps p.tables e below (s₁.setTop (mkF m 4 #[iv p0, .unset, .unset, .unset] [(.int (p0 &&& (7 : Int32)))])) _
    rewrite [hk0]
    show Steps p.tables e below (s₁.setTop (mkF m 4 #[iv p0, .unset, .unset, .unset] [(.int (1 : Int32))])) _
    refine XS.istoreN X0.here hx rfl (hb hby at_4) rfl (l' := #[iv p0, iv (1 : Int32), .unset, .unset]) rfl ?_
    show Steps p.tables e below (s₁.setTop (mkF m 5 #[iv p0, iv (1 : Int32), .unset, .unset] [])) _
    refine XS.iloadN X0.here hx rfl (hb hby at_5) rfl ?_
    show Steps p.tables e below (s₁.setTop (mkF m 6 #[iv p0, iv (1 : Int32), .unset, .unset] [(.int (1 : Int32))])) _
    refine st1 _ ?_
    show Steps p.tables e below (T1.setTop (mkF m 9 #[iv p0, iv (1 : Int32), .unset, .unset] [(.ref w_MessageType_REPLY)])) _
    refine XS.astoreN X1.here hx rfl (hb hby at_9) rfl rfl (l' := #[iv p0, iv (1 : Int32), rv w_MessageType_REPLY, .unset]) rfl ?_
    show Steps p.tables e below (T1.setTop (mkF m 10 #[iv p0, iv (1 : Int32), rv w_MessageType_REPLY, .unset] [])) _
    refine XS.iloadN X1.here hx rfl (hb hby at_10) rfl ?_
    show Steps p.tables e below (T1.setTop (mkF m 11 #[iv p0, iv (1 : Int32), rv w_MessageType_REPLY, .unset] [(.int (1 : Int32))])) _
    refine XS.iconst X1.here hx rfl (hb hby at_11) ?_
    show Steps p.tables e below (T1.setTop (mkF m 12 #[iv p0, iv (1 : Int32), rv w_MessageType_REPLY, .unset] [(.int (4 : Int32)), (.int (1 : Int32))])) _
    refine XS.icmpNo X1.here hx rfl (hb hby at_12) rfl (flt (by decide +kernel : ¬ ((4 : Int32) < (1 : Int32)))).2.2.1 ?_
    show Steps p.tables e below (T1.setTop (mkF m 15 #[iv p0, iv (1 : Int32), rv w_MessageType_REPLY, .unset] [])) _
    refine XS.iloadN X1.here hx rfl (hb hby at_15) rfl ?_
    show Steps p.tables e below (T1.setTop (mkF m 16 #[iv p0, iv (1 : Int32), rv w_MessageType_REPLY, .unset] [(.int (1 : Int32))])) _
    refine XS.iconst X1.here hx rfl (hb hby at_16) ?_
    show Steps p.tables e below (T1.setTop (mkF m 17 #[iv p0, iv (1 : Int32), rv w_MessageType_REPLY, .unset] [(.int (2 : Int32)), (.int (1 : Int32))])) _
    refine XS.icmpYes X1.here hx rfl (pc0 := 17) (pc' := 26) rfl (hb hby at_17) rfl (feq (by decide +kernel : ¬ ((1 : Int32) = (2 : Int32)))).2 (by decide) (by decide) ?_
    show Steps p.tables e below (T1.setTop (mkF m 26 #[iv p0, iv (1 : Int32), rv w_MessageType_REPLY, .unset] [])) _
    refine XS.iconst X1.here hx rfl (hb hby at_26) ?_
    show Steps p.tables e below (T1.setTop (mkF m 27 #[iv p0, iv (1 : Int32), rv w_MessageType_REPLY, .unset] [(.int (1 : Int32))])) _
    refine XS.goto X1.here hx rfl (pc0 := 27) (pc' := 31) rfl (hb hby at_27) (by decide) (by decide) ?_
    show Steps p.tables e below (T1.setTop (mkF m 31 #[iv p0, iv (1 : Int32), rv w_MessageType_REPLY, .unset] [(.int (1 : Int32))])) _
    refine XS.istoreN X1.here hx rfl (hb hby at_31) rfl (l' := #[iv p0, iv (1 : Int32), rv w_MessageType_REPLY, iv (1 : Int32)]) rfl ?_
    show Steps p.tables e below (T1.setTop (mkF m 32 #[iv p0, iv (1 : Int32), rv w_MessageType_REPLY, iv (1 : Int32)] [])) _
    refine XS.aloadN X1.here hx rfl (hb hby at_32) rfl rfl ?_
    show Steps p.tables e below (T1.setTop (mkF m 33 #[iv p0, iv (1 : Int32), rv w_MessageType_REPLY, iv (1 : Int32)] [(.ref w_MessageType_REPLY)])) _
    refine st2.trans ?_
    show Steps p.tables e below (T2.setTop (mkF m 36 #[iv p0, iv (1 : Int32), rv w_MessageType_REPLY, iv (1 : Int32)] [(.int (1 : Int32))])) _
    refine XS.iloadN X2.here hx rfl (hb hby at_36) rfl ?_
    show Steps p.tables e below (T2.setTop (mkF m 37 #[iv p0, iv (1 : Int32), rv w_MessageType_REPLY, iv (1 : Int32)] [(.int (1 : Int32)), (.int (1 : Int32))])) _
    refine XS.icmpNo X2.here hx rfl (hb hby at_37) rfl (teq (by decide +kernel : (1 : Int32) = (1 : Int32))).2 ?_
    show Steps p.tables e below (T2.setTop (mkF m 40 #[iv p0, iv (1 : Int32), rv w_MessageType_REPLY, iv (1 : Int32)] [])) _
    refine XS.iconst X2.here hx rfl (hb hby at_40) ?_
    show Steps p.tables e below (T2.setTop (mkF m 41 #[iv p0, iv (1 : Int32), rv w_MessageType_REPLY, iv (1 : Int32)] [(.int (1 : Int32))])) _
    refine XS.goto X2.here hx rfl (pc0 := 41) (pc' := 45) rfl (hb hby at_41) (by decide) (by decide) ?_
    show Steps p.tables e below (T2.setTop (mkF m 45 #[iv p0, iv (1 : Int32), rv w_MessageType_REPLY, iv (1 : Int32)] [(.int (1 : Int32))])) _
    exact retN X2 hx (t := .boolean) Bd.returns (by simp) (hb hby at_45) hr
  · exact ⟨rfl, N2⟩
set_option maxRecDepth 65536 in
set_option maxHeartbeats 40000000 in
theorem rm1_4 (l : Launch) (Z : State) (a0 : Array Value) (hw : ∀ d ∈ tables_1, d.before a0 Z = true) (ws : List Jvm.Cond) (w_MessageType_CANCEL_REQUEST : Addr) (h0 : Heap) (n0 : Nat) (Z0 : n0 ≤ h0.size) (S_MessageType_CANCEL_REQUEST : Sta Z h0 "org/driftcairn/giop/MessageType" "CANCEL_REQUEST" "Lorg/driftcairn/giop/MessageType;" (.ref w_MessageType_CANCEL_REQUEST)) :
    MetFree l (⟨"org/driftcairn/giop/MessageTypeMayBeFragmentedPinLaw", "pick", "(I)Lorg/driftcairn/giop/MessageType;"⟩ : MethodName) (head1 (Jvm.Cond.code (⟨"org/driftcairn/giop/MessageTypeMayBeFragmentedPinLaw", "pick", "(I)Lorg/driftcairn/giop/MessageType;"⟩ : MethodName) method_2_code 1 (some (.object "org/driftcairn/giop/MessageType")) :: ws) ({ frames := 0, cells := 0, slots := 0, locals := 0 } : Room)) (fun a U => a = #[(.int (2 : Int32))] ∧ Z.Warmed39 U.vm ∧ U.heap = h0) (fun _ _ _ _ _ => True) (fun _ U o U' => ∃ v L, o = .returned v ∧ own_QP (some (.ref w_MessageType_CANCEL_REQUEST)) h0 n0 v U'.heap L ∧ FrameEnd U o U' L ({ frames := 0, cells := 0, slots := 0, locals := 0 } : Room).cells ({ frames := 0, cells := 0, slots := 0, locals := 0 } : Room).slots) := by
  refine MetFree.of_bodySF (plainFor_of_name pn_0) hisR ?_
  intro p e s m args below meth c s₁ Bd hml0 hP hK
  obtain ⟨rfl, hZ, hh⟩ := hP
  have hx := Bd.exec
  have hby := Bd.bytes
  have hml : c.maxLocals = 1 := hml0
  have hown : s.vm.findClass "org/driftcairn/giop/MessageTypeMayBeFragmentedPinLaw" = some m.cls := findClass_of_methodNamed Bd.named
  have hnm := (name_of_methodNamed Bd.named Bd.method).1
  have X0 : Stand p l e ({ frames := 0, cells := 0, slots := 0, locals := 0 } : Room) s m #[(.int (2 : Int32))] below meth c s₁ [] 0 0 := Stand.of_body Bd
  have e0 : s₁.heap = h0 := by rw [← hh, Bd.state]; rfl
  have N0 := Fr.nil n0
  have pre0 : ∀ t, Steps p.tables e below (s₁.setTop (mkF m 0 #[iv (2 : Int32)] [])) t → Steps p.tables e below (s₁.setTop (entryFrame m #[(.int (2 : Int32))] 1)) t := fun t k => castTop (ef_1_I m (2 : Int32)) k
  obtain ⟨T1, X1, e1, st1⟩ := getS2 X0 hx hZ hown (host := "") (Or.inl (hw _ (List.mem_of_getElem? (i := 25) rfl))) Via.refl e0 S_MessageType_CANCEL_REQUEST (g := (mkF m 22 #[iv (2 : Int32)] [])) rfl (hb hby d1_22)
  obtain ⟨fs, hr, hrun, hended, hW, hsame⟩ := X1.leave (v := (some (.ref w_MessageType_CANCEL_REQUEST))) (fun h => by rw [Bd.returns] at h; cases h)
  refine ⟨_, _, pre0 _ ?_, hrun, hended, _, _, rfl, ?_, ⟨_, rfl⟩, hW, hsame.mono (by decide) (by decide)⟩
  · show Steps p.tables e below (s₁.setTop (mkF m 0 #[iv (2 : Int32)] [])) _
    refine XS.iloadN X0.here hx rfl (hb hby d1_0) rfl ?_
    show Steps p.tables e below (s₁.setTop (mkF m 1 #[iv (2 : Int32)] [(.int (2 : Int32))])) _
    refine XS.ifYes X0.here hx rfl (pc0 := 1) (pc' := 8) rfl (hb hby d1_1) rfl ((if0 _ _).trans (feq (by decide +kernel : ¬ ((2 : Int32) = (0 : Int32)))).2) (by decide) (by decide) ?_
    show Steps p.tables e below (s₁.setTop (mkF m 8 #[iv (2 : Int32)] [])) _
    refine XS.iloadN X0.here hx rfl (hb hby d1_8) rfl ?_
    show Steps p.tables e below (s₁.setTop (mkF m 9 #[iv (2 : Int32)] [(.int (2 : Int32))])) _
    refine XS.iconst X0.here hx rfl (hb hby d1_9) ?_
    show Steps p.tables e below (s₁.setTop (mkF m 10 #[iv (2 : Int32)] [(.int (1 : Int32)), (.int (2 : Int32))])) _
    refine XS.icmpYes X0.here hx rfl (pc0 := 10) (pc' := 17) rfl (hb hby d1_10) rfl (feq (by decide +kernel : ¬ ((2 : Int32) = (1 : Int32)))).2 (by decide) (by decide) ?_
    show Steps p.tables e below (s₁.setTop (mkF m 17 #[iv (2 : Int32)] [])) _
    refine XS.iloadN X0.here hx rfl (hb hby d1_17) rfl ?_
    show Steps p.tables e below (s₁.setTop (mkF m 18 #[iv (2 : Int32)] [(.int (2 : Int32))])) _
    refine XS.iconst X0.here hx rfl (hb hby d1_18) ?_
    show Steps p.tables e below (s₁.setTop (mkF m 19 #[iv (2 : Int32)] [(.int (2 : Int32)), (.int (2 : Int32))])) _
    refine XS.icmpNo X0.here hx rfl (hb hby d1_19) rfl (teq (by decide +kernel : (2 : Int32) = (2 : Int32))).2 ?_
    show Steps p.tables e below (s₁.setTop (mkF m 22 #[iv (2 : Int32)] [])) _
    refine st1 _ ?_
    show Steps p.tables e below (T1.setTop (mkF m 25 #[iv (2 : Int32)] [(.ref w_MessageType_CANCEL_REQUEST)])) _
    exact own_retA X1 hx Bd.returns rfl rfl (hb hby d1_25) hr
  · exact ⟨rfl, N0, e1⟩
set_option maxRecDepth 65536 in
set_option maxHeartbeats 40000000 in
theorem rm2_5 (l : Launch) (Z : State) (a0 : Array Value) (hw : ∀ d ∈ tables_1, d.before a0 Z = true) (ws : List Jvm.Cond) (w_MessageType_REQUEST : Addr) (w_MessageType_LOCATE_REQUEST : Addr) (w_MessageType_REPLY : Addr) (w_MessageType_LOCATE_REPLY : Addr) (w_MessageType_FRAGMENT : Addr) (w_MessageType_CANCEL_REQUEST : Addr) (h0 : Heap) (n0 : Nat) (Z0 : n0 ≤ h0.size) (S_MessageType_REQUEST : Sta Z h0 "org/driftcairn/giop/MessageType" "REQUEST" "Lorg/driftcairn/giop/MessageType;" (.ref w_MessageType_REQUEST)) (ne_w_MessageType_CANCEL_REQUEST_w_MessageType_REQUEST : ¬ (w_MessageType_CANCEL_REQUEST = w_MessageType_REQUEST)) (S_MessageType_REPLY : Sta Z h0 "org/driftcairn/giop/MessageType" "REPLY" "Lorg/driftcairn/giop/MessageType;" (.ref w_MessageType_REPLY)) (ne_w_MessageType_CANCEL_REQUEST_w_MessageType_REPLY : ¬ (w_MessageType_CANCEL_REQUEST = w_MessageType_REPLY)) (S_MessageType_LOCATE_REQUEST : Sta Z h0 "org/driftcairn/giop/MessageType" "LOCATE_REQUEST" "Lorg/driftcairn/giop/MessageType;" (.ref w_MessageType_LOCATE_REQUEST)) (ne_w_MessageType_CANCEL_REQUEST_w_MessageType_LOCATE_REQUEST : ¬ (w_MessageType_CANCEL_REQUEST = w_MessageType_LOCATE_REQUEST)) (S_MessageType_LOCATE_REPLY : Sta Z h0 "org/driftcairn/giop/MessageType" "LOCATE_REPLY" "Lorg/driftcairn/giop/MessageType;" (.ref w_MessageType_LOCATE_REPLY)) (ne_w_MessageType_CANCEL_REQUEST_w_MessageType_LOCATE_REPLY : ¬ (w_MessageType_CANCEL_REQUEST = w_MessageType_LOCATE_REPLY)) (S_MessageType_FRAGMENT : Sta Z h0 "org/driftcairn/giop/MessageType" "FRAGMENT" "Lorg/driftcairn/giop/MessageType;" (.ref w_MessageType_FRAGMENT)) (ne_w_MessageType_CANCEL_REQUEST_w_MessageType_FRAGMENT : ¬ (w_MessageType_CANCEL_REQUEST = w_MessageType_FRAGMENT)) :
    MetFree l (⟨"org/driftcairn/giop/MessageType", "mayBeFragmented", "()Z"⟩ : MethodName) (head1 (Jvm.Cond.code (⟨"org/driftcairn/giop/MessageType", "mayBeFragmented", "()Z"⟩ : MethodName) prog_70_method_5_code 1 (some .boolean) :: ws) ({ frames := 0, cells := 0, slots := 0, locals := 0 } : Room)) (fun a U => a = #[(.ref w_MessageType_CANCEL_REQUEST)] ∧ Z.Warmed39 U.vm ∧ U.heap = h0) (fun _ _ _ _ _ => True) (fun _ U o U' => ∃ v L, o = .returned v ∧ own_QP (some (.int (0 : Int32))) h0 n0 v U'.heap L ∧ FrameEnd U o U' L ({ frames := 0, cells := 0, slots := 0, locals := 0 } : Room).cells ({ frames := 0, cells := 0, slots := 0, locals := 0 } : Room).slots) := by
  refine MetFree.of_bodySF (plainFor_of_name pn_1) hisR ?_
  intro p e s m args below meth c s₁ Bd hml0 hP hK
  obtain ⟨rfl, hZ, hh⟩ := hP
  have hx := Bd.exec
  have hby := Bd.bytes
  have hml : c.maxLocals = 1 := hml0
  have hown : s.vm.findClass "org/driftcairn/giop/MessageType" = some m.cls := findClass_of_methodNamed Bd.named
  have hnm := (name_of_methodNamed Bd.named Bd.method).1
  have X0 : Stand p l e ({ frames := 0, cells := 0, slots := 0, locals := 0 } : Room) s m #[(.ref w_MessageType_CANCEL_REQUEST)] below meth c s₁ [] 0 0 := Stand.of_body Bd
  have e0 : s₁.heap = h0 := by rw [← hh, Bd.state]; rfl
  have N0 := Fr.nil n0
  have pre0 : ∀ t, Steps p.tables e below (s₁.setTop (mkF m 0 #[rv w_MessageType_CANCEL_REQUEST] [])) t → Steps p.tables e below (s₁.setTop (entryFrame m #[(.ref w_MessageType_CANCEL_REQUEST)] 1)) t := fun t k => castTop (ef_2_R m w_MessageType_CANCEL_REQUEST) k
  obtain ⟨T1, X1, e1, st1⟩ := getS2 X0 hx hZ hown (host := "") (Or.inl (hw _ (List.mem_of_getElem? (i := 12) rfl))) Via.refl e0 S_MessageType_REQUEST (g := (mkF m 1 #[rv w_MessageType_CANCEL_REQUEST] [(.ref w_MessageType_CANCEL_REQUEST)])) rfl (hb hby d2_1)
  obtain ⟨T2, X2, e2, st2⟩ := getS2 X1 hx hZ hown (host := "") (Or.inl (hw _ (List.mem_of_getElem? (i := 15) rfl))) Via.refl e1 S_MessageType_REPLY (g := (mkF m 8 #[rv w_MessageType_CANCEL_REQUEST] [(.ref w_MessageType_CANCEL_REQUEST)])) rfl (hb hby d2_8)
  obtain ⟨T3, X3, e3, st3⟩ := getS2 X2 hx hZ hown (host := "") (Or.inl (hw _ (List.mem_of_getElem? (i := 17) rfl))) Via.refl e2 S_MessageType_LOCATE_REQUEST (g := (mkF m 15 #[rv w_MessageType_CANCEL_REQUEST] [(.ref w_MessageType_CANCEL_REQUEST)])) rfl (hb hby d2_15)
  obtain ⟨T4, X4, e4, st4⟩ := getS2 X3 hx hZ hown (host := "") (Or.inl (hw _ (List.mem_of_getElem? (i := 20) rfl))) Via.refl e3 S_MessageType_LOCATE_REPLY (g := (mkF m 22 #[rv w_MessageType_CANCEL_REQUEST] [(.ref w_MessageType_CANCEL_REQUEST)])) rfl (hb hby d2_22)
  obtain ⟨T5, X5, e5, st5⟩ := getS2 X4 hx hZ hown (host := "") (Or.inl (hw _ (List.mem_of_getElem? (i := 22) rfl))) Via.refl e4 S_MessageType_FRAGMENT (g := (mkF m 29 #[rv w_MessageType_CANCEL_REQUEST] [(.ref w_MessageType_CANCEL_REQUEST)])) rfl (hb hby d2_29)
  obtain ⟨fs, hr, hrun, hended, hW, hsame⟩ := X5.leave (v := (some (.int (0 : Int32)))) (fun h => by rw [Bd.returns] at h; cases h)
  refine ⟨_, _, pre0 _ ?_, hrun, hended, _, _, rfl, ?_, ⟨_, rfl⟩, hW, hsame.mono (by decide) (by decide)⟩
  · show Steps p.tables e below (s₁.setTop (mkF m 0 #[rv w_MessageType_CANCEL_REQUEST] [])) _
    refine XS.aloadN X0.here hx rfl (hb hby d2_0) rfl rfl ?_
    show Steps p.tables e below (s₁.setTop (mkF m 1 #[rv w_MessageType_CANCEL_REQUEST] [(.ref w_MessageType_CANCEL_REQUEST)])) _
    refine st1 _ ?_
    show Steps p.tables e below (T1.setTop (mkF m 4 #[rv w_MessageType_CANCEL_REQUEST] [(.ref w_MessageType_REQUEST), (.ref w_MessageType_CANCEL_REQUEST)])) _
    refine Jvm.RoadKit.acmp (g := (mkF m 4 #[rv w_MessageType_CANCEL_REQUEST] [(.ref w_MessageType_REQUEST), (.ref w_MessageType_CANCEL_REQUEST)])) X1 hx rfl rfl rfl (pc0 := 4) (pc' := 7) (same := false) rfl (hb hby d2_4) rfl (decide_eq_false fun q => ne_w_MessageType_CANCEL_REQUEST_w_MessageType_REQUEST (Value.ref.inj q)) (by decide) (by decide) ?_
    show Steps p.tables e below (T1.setTop (mkF m 7 #[rv w_MessageType_CANCEL_REQUEST] [])) _
    refine XS.aloadN X1.here hx rfl (hb hby d2_7) rfl rfl ?_
    show Steps p.tables e below (T1.setTop (mkF m 8 #[rv w_MessageType_CANCEL_REQUEST] [(.ref w_MessageType_CANCEL_REQUEST)])) _
    refine st2 _ ?_
    show Steps p.tables e below (T2.setTop (mkF m 11 #[rv w_MessageType_CANCEL_REQUEST] [(.ref w_MessageType_REPLY), (.ref w_MessageType_CANCEL_REQUEST)])) _
    refine Jvm.RoadKit.acmp (g := (mkF m 11 #[rv w_MessageType_CANCEL_REQUEST] [(.ref w_MessageType_REPLY), (.ref w_MessageType_CANCEL_REQUEST)])) X2 hx rfl rfl rfl (pc0 := 11) (pc' := 14) (same := false) rfl (hb hby d2_11) rfl (decide_eq_false fun q => ne_w_MessageType_CANCEL_REQUEST_w_MessageType_REPLY (Value.ref.inj q)) (by decide) (by decide) ?_
    show Steps p.tables e below (T2.setTop (mkF m 14 #[rv w_MessageType_CANCEL_REQUEST] [])) _
    refine XS.aloadN X2.here hx rfl (hb hby d2_14) rfl rfl ?_
    show Steps p.tables e below (T2.setTop (mkF m 15 #[rv w_MessageType_CANCEL_REQUEST] [(.ref w_MessageType_CANCEL_REQUEST)])) _
    refine st3 _ ?_
    show Steps p.tables e below (T3.setTop (mkF m 18 #[rv w_MessageType_CANCEL_REQUEST] [(.ref w_MessageType_LOCATE_REQUEST), (.ref w_MessageType_CANCEL_REQUEST)])) _
    refine Jvm.RoadKit.acmp (g := (mkF m 18 #[rv w_MessageType_CANCEL_REQUEST] [(.ref w_MessageType_LOCATE_REQUEST), (.ref w_MessageType_CANCEL_REQUEST)])) X3 hx rfl rfl rfl (pc0 := 18) (pc' := 21) (same := false) rfl (hb hby d2_18) rfl (decide_eq_false fun q => ne_w_MessageType_CANCEL_REQUEST_w_MessageType_LOCATE_REQUEST (Value.ref.inj q)) (by decide) (by decide) ?_
    show Steps p.tables e below (T3.setTop (mkF m 21 #[rv w_MessageType_CANCEL_REQUEST] [])) _
    refine XS.aloadN X3.here hx rfl (hb hby d2_21) rfl rfl ?_
    show Steps p.tables e below (T3.setTop (mkF m 22 #[rv w_MessageType_CANCEL_REQUEST] [(.ref w_MessageType_CANCEL_REQUEST)])) _
    refine st4 _ ?_
    show Steps p.tables e below (T4.setTop (mkF m 25 #[rv w_MessageType_CANCEL_REQUEST] [(.ref w_MessageType_LOCATE_REPLY), (.ref w_MessageType_CANCEL_REQUEST)])) _
    refine Jvm.RoadKit.acmp (g := (mkF m 25 #[rv w_MessageType_CANCEL_REQUEST] [(.ref w_MessageType_LOCATE_REPLY), (.ref w_MessageType_CANCEL_REQUEST)])) X4 hx rfl rfl rfl (pc0 := 25) (pc' := 28) (same := false) rfl (hb hby d2_25) rfl (decide_eq_false fun q => ne_w_MessageType_CANCEL_REQUEST_w_MessageType_LOCATE_REPLY (Value.ref.inj q)) (by decide) (by decide) ?_
    show Steps p.tables e below (T4.setTop (mkF m 28 #[rv w_MessageType_CANCEL_REQUEST] [])) _
    refine XS.aloadN X4.here hx rfl (hb hby d2_28) rfl rfl ?_
    show Steps p.tables e below (T4.setTop (mkF m 29 #[rv w_MessageType_CANCEL_REQUEST] [(.ref w_MessageType_CANCEL_REQUEST)])) _
    refine st5 _ ?_
    show Steps p.tables e below (T5.setTop (mkF m 32 #[rv w_MessageType_CANCEL_REQUEST] [(.ref w_MessageType_FRAGMENT), (.ref w_MessageType_CANCEL_REQUEST)])) _
    refine Jvm.RoadKit.acmp (g := (mkF m 32 #[rv w_MessageType_CANCEL_REQUEST] [(.ref w_MessageType_FRAGMENT), (.ref w_MessageType_CANCEL_REQUEST)])) X5 hx rfl rfl rfl (pc0 := 32) (pc' := 39) (same := false) rfl (hb hby d2_32) rfl (decide_eq_false fun q => ne_w_MessageType_CANCEL_REQUEST_w_MessageType_FRAGMENT (Value.ref.inj q)) (by decide) (by decide) ?_
    show Steps p.tables e below (T5.setTop (mkF m 39 #[rv w_MessageType_CANCEL_REQUEST] [])) _
    refine XS.iconst X5.here hx rfl (hb hby d2_39) ?_
    show Steps p.tables e below (T5.setTop (mkF m 40 #[rv w_MessageType_CANCEL_REQUEST] [(.int (0 : Int32))])) _
    exact retN X5 hx (t := .boolean) Bd.returns (by simp) (hb hby d2_40) hr
  · exact ⟨rfl, N0, e5⟩
set_option maxRecDepth 65536 in
set_option maxHeartbeats 40000000 in
theorem rm0_2 (l : Launch) (Z : State) (a0 : Array Value) (hw : ∀ d ∈ tables_1, d.before a0 Z = true) (ws : List Jvm.Cond) (p0 : Int32) (w_MessageType_REQUEST : Addr) (w_MessageType_LOCATE_REQUEST : Addr) (w_MessageType_REPLY : Addr) (w_MessageType_LOCATE_REPLY : Addr) (w_MessageType_FRAGMENT : Addr) (w_MessageType_CANCEL_REQUEST : Addr) (h0 : Heap) (n0 : Nat) (Z0 : n0 ≤ h0.size) (hk0 : (p0 &&& (7 : Int32)) = (2 : Int32)) (S_MessageType_CANCEL_REQUEST : Sta Z h0 "org/driftcairn/giop/MessageType" "CANCEL_REQUEST" "Lorg/driftcairn/giop/MessageType;" (.ref w_MessageType_CANCEL_REQUEST)) (S_MessageType_REQUEST : Sta Z h0 "org/driftcairn/giop/MessageType" "REQUEST" "Lorg/driftcairn/giop/MessageType;" (.ref w_MessageType_REQUEST)) (ne_w_MessageType_CANCEL_REQUEST_w_MessageType_REQUEST : ¬ (w_MessageType_CANCEL_REQUEST = w_MessageType_REQUEST)) (S_MessageType_REPLY : Sta Z h0 "org/driftcairn/giop/MessageType" "REPLY" "Lorg/driftcairn/giop/MessageType;" (.ref w_MessageType_REPLY)) (ne_w_MessageType_CANCEL_REQUEST_w_MessageType_REPLY : ¬ (w_MessageType_CANCEL_REQUEST = w_MessageType_REPLY)) (S_MessageType_LOCATE_REQUEST : Sta Z h0 "org/driftcairn/giop/MessageType" "LOCATE_REQUEST" "Lorg/driftcairn/giop/MessageType;" (.ref w_MessageType_LOCATE_REQUEST)) (ne_w_MessageType_CANCEL_REQUEST_w_MessageType_LOCATE_REQUEST : ¬ (w_MessageType_CANCEL_REQUEST = w_MessageType_LOCATE_REQUEST)) (S_MessageType_LOCATE_REPLY : Sta Z h0 "org/driftcairn/giop/MessageType" "LOCATE_REPLY" "Lorg/driftcairn/giop/MessageType;" (.ref w_MessageType_LOCATE_REPLY)) (ne_w_MessageType_CANCEL_REQUEST_w_MessageType_LOCATE_REPLY : ¬ (w_MessageType_CANCEL_REQUEST = w_MessageType_LOCATE_REPLY)) (S_MessageType_FRAGMENT : Sta Z h0 "org/driftcairn/giop/MessageType" "FRAGMENT" "Lorg/driftcairn/giop/MessageType;" (.ref w_MessageType_FRAGMENT)) (ne_w_MessageType_CANCEL_REQUEST_w_MessageType_FRAGMENT : ¬ (w_MessageType_CANCEL_REQUEST = w_MessageType_FRAGMENT)) (E_w_MessageType_CANCEL_REQUEST : Exa Z h0 w_MessageType_CANCEL_REQUEST "org/driftcairn/giop/MessageType") :
    MetFree l x (head1 (Jvm.Cond.code x code maxLocals ret :: ws) room_1) (fun a U => a = #[(.int p0)] ∧ Z.Warmed39 U.vm ∧ U.heap = h0) (fun _ _ _ _ _ => True) (fun _ U o U' => ∃ v L, o = .returned v ∧ own_QL n0 v U'.heap L ∧ FrameEnd U o U' L room_1.cells room_1.slots) := by
  refine MetFree.of_bodySF (plainFor_of_name pn_0) hisR ?_
  intro p e s m args below meth c s₁ Bd hml0 hP hK
  obtain ⟨rfl, hZ, hh⟩ := hP
  have hx := Bd.exec
  have hby := Bd.bytes
  have hml : c.maxLocals = 4 := hml0
  have hown : s.vm.findClass "org/driftcairn/giop/MessageTypeMayBeFragmentedPinLaw" = some m.cls := findClass_of_methodNamed Bd.named
  have hnm := (name_of_methodNamed Bd.named Bd.method).1
  have X0 : Stand p l e room_1 s m #[(.int p0)] below meth c s₁ [] 0 0 := Stand.of_body Bd
  have e0 : s₁.heap = h0 := by rw [← hh, Bd.state]; rfl
  have N0 := Fr.nil n0
  have pre0 : ∀ t, Steps p.tables e below (s₁.setTop (mkF m 0 #[iv p0, .unset, .unset, .unset] [])) t → Steps p.tables e below (s₁.setTop (entryFrame m #[(.int p0)] maxLocals)) t := fun t k => castTop (ef_0_I m p0) k
  obtain ⟨_, _, ⟨T1, L1, k1, n1⟩, -, X1, ⟨Lc1, hQ1, l1, y1, z1⟩, st1⟩ := Jvm.LawKit.callS X0 hx (y := (⟨"org/driftcairn/giop/MessageTypeMayBeFragmentedPinLaw", "pick", "(I)Lorg/driftcairn/giop/MessageType;"⟩ : MethodName)) hown (mvT hZ (hw _ (List.mem_of_getElem? (i := 0) rfl))) (mvT hZ (hw _ (List.mem_of_getElem? (i := 1) rfl))) (mvT hZ (hw _ (List.mem_of_getElem? (i := 2) rfl))) (mvT hZ (hw _ (List.mem_of_getElem? (i := 3) rfl))) (by decide) (backOf (W := 0) (rm1_4 l Z a0 hw [] w_MessageType_CANCEL_REQUEST h0 n0 Z0 S_MessageType_CANCEL_REQUEST) hZ (hw _ (List.mem_of_getElem? (i := 3) rfl)) (hw _ (List.mem_of_getElem? (i := 2) rfl)) (by decide) (by decide)) (g := (mkF m 6 #[iv p0, iv (2 : Int32), .unset, .unset] [(.int (2 : Int32))])) rfl (by rw [hml]; rfl) (argsL := [(.int (2 : Int32))]) (rest := []) (lenOf pd_0 rfl) rfl (by show 2 * 0 + _ ≤ _; exact Nat.le_of_eq rfl) (hb hby at_6) (fun _ _ => ⟨rfl, e0, (by decide : 0 + 0 ≤ _), (by decide : 0 + 0 ≤ _)⟩)
  dsimp only [Pt.U, Pt.locs, Pt.cells, Pt.slots] at X1 l1 y1 z1 st1 hQ1
  subst l1 y1 z1
  obtain ⟨rfl, N1q, e1⟩ := hQ1
  have N1 := Fr.app N0 N1q
  obtain ⟨cq2, kq2, q2a, q2b, q2c⟩ := isOf hZ e1 E_w_MessageType_CANCEL_REQUEST
  obtain ⟨_, _, ⟨T2, L2, k2, n2⟩, -, X2, ⟨Lc2, hQ2, l2, y2, z2⟩, st2⟩ := X1.virtualBack hx (y := (⟨"org/driftcairn/giop/MessageType", "mayBeFragmented", "()Z"⟩ : MethodName)) (z := (⟨"org/driftcairn/giop/MessageType", "mayBeFragmented", "()Z"⟩ : MethodName)) hown (mvT hZ (hw _ (List.mem_of_getElem? (i := 7) rfl))) (mvT hZ (hw _ (List.mem_of_getElem? (i := 8) rfl))) (notFace_of_selects (args := #[]) (mvT hZ (hw _ (List.mem_of_getElem? (i := 10) rfl)))) (mvT hZ (hw _ (List.mem_of_getElem? (i := 10) rfl))) (mvT hZ (hw _ (List.mem_of_getElem? (i := 9) rfl))) (by decide) (backOf (W := 0) (rm2_5 l Z a0 hw [] w_MessageType_REQUEST w_MessageType_LOCATE_REQUEST w_MessageType_REPLY w_MessageType_LOCATE_REPLY w_MessageType_FRAGMENT w_MessageType_CANCEL_REQUEST h0 n0 Z0 S_MessageType_REQUEST ne_w_MessageType_CANCEL_REQUEST_w_MessageType_REQUEST S_MessageType_REPLY ne_w_MessageType_CANCEL_REQUEST_w_MessageType_REPLY S_MessageType_LOCATE_REQUEST ne_w_MessageType_CANCEL_REQUEST_w_MessageType_LOCATE_REQUEST S_MessageType_LOCATE_REPLY ne_w_MessageType_CANCEL_REQUEST_w_MessageType_LOCATE_REPLY S_MessageType_FRAGMENT ne_w_MessageType_CANCEL_REQUEST_w_MessageType_FRAGMENT) hZ (hw _ (List.mem_of_getElem? (i := 11) rfl)) (hw _ (List.mem_of_getElem? (i := 5) rfl)) (by decide) (by decide)) q2a q2c (g := (mkF m 33 #[iv p0, iv (2 : Int32), rv w_MessageType_CANCEL_REQUEST, iv (0 : Int32)] [(.ref w_MessageType_CANCEL_REQUEST)])) rfl (by rw [hml]; rfl) (Steps.refl _) (argsL := []) (rest := []) (lenOf pd_1 rfl) rfl (by show 2 * 0 + _ ≤ _; exact Nat.le_of_eq rfl) (hb hby at_33) (fun _ _ => ⟨rfl, e1, (by decide : 0 + 0 ≤ _), (by decide : 0 + 0 ≤ _)⟩)
  dsimp only [Pt.U, Pt.locs, Pt.cells, Pt.slots] at X2 l2 y2 z2 st2 hQ2
  subst l2 y2 z2
  obtain ⟨rfl, N2q, e2⟩ := hQ2
  have N2 := Fr.app N1 N2q
  obtain ⟨fs, hr, hrun, hended, hW, hsame⟩ := X2.leave (v := (some (.int (1 : Int32)))) (fun h => by rw [Bd.returns] at h; cases h)
  refine ⟨_, _, pre0 _ ?_, hrun, hended, _, _, rfl, ?_, ⟨_, rfl⟩, hW, hsame.mono (by decide) (by decide)⟩
  · show Steps p.tables e below (s₁.setTop (mkF m 0 #[iv p0, .unset, .unset, .unset] [])) _
    refine XS.iloadN X0.here hx rfl (hb hby at_0) rfl ?_
    show Steps p.tables e below (s₁.setTop (mkF m 1 #[iv p0, .unset, .unset, .unset] [(.int p0)])) _
    refine XS.bipush X0.here hx rfl (hb hby at_1) ?_
    show Steps p.tables e below (s₁.setTop (mkF m 3 #[iv p0, .unset, .unset, .unset] [(.int (7 : Int32)), (.int p0)])) _
    refine XS.iand X0.here hx rfl (hb hby at_3) rfl ?_
    show Steps p.tables e below (s₁.setTop (mkF m 4 #[iv p0, .unset, .unset, .unset] [(.int (p0 &&& (7 : Int32)))])) _
    rewrite [hk0]
    show Steps p.tables e below (s₁.setTop (mkF m 4 #[iv p0, .unset, .unset, .unset] [(.int (2 : Int32))])) _
    refine XS.istoreN X0.here hx rfl (hb hby at_4) rfl (l' := #[iv p0, iv (2 : Int32), .unset, .unset]) rfl ?_
    show Steps p.tables e below (s₁.setTop (mkF m 5 #[iv p0, iv (2 : Int32), .unset, .unset] [])) _
    refine XS.iloadN X0.here hx rfl (hb hby at_5) rfl ?_
    show Steps p.tables e below (s₁.setTop (mkF m 6 #[iv p0, iv (2 : Int32), .unset, .unset] [(.int (2 : Int32))])) _
    refine st1 _ ?_
    show Steps p.tables e below (T1.setTop (mkF m 9 #[iv p0, iv (2 : Int32), .unset, .unset] [(.ref w_MessageType_CANCEL_REQUEST)])) _
    refine XS.astoreN X1.here hx rfl (hb hby at_9) rfl rfl (l' := #[iv p0, iv (2 : Int32), rv w_MessageType_CANCEL_REQUEST, .unset]) rfl ?_
    show Steps p.tables e below (T1.setTop (mkF m 10 #[iv p0, iv (2 : Int32), rv w_MessageType_CANCEL_REQUEST, .unset] [])) _
    refine XS.iloadN X1.here hx rfl (hb hby at_10) rfl ?_
    show Steps p.tables e below (T1.setTop (mkF m 11 #[iv p0, iv (2 : Int32), rv w_MessageType_CANCEL_REQUEST, .unset] [(.int (2 : Int32))])) _
    refine XS.iconst X1.here hx rfl (hb hby at_11) ?_
    show Steps p.tables e below (T1.setTop (mkF m 12 #[iv p0, iv (2 : Int32), rv w_MessageType_CANCEL_REQUEST, .unset] [(.int (4 : Int32)), (.int (2 : Int32))])) _
    refine XS.icmpNo X1.here hx rfl (hb hby at_12) rfl (flt (by decide +kernel : ¬ ((4 : Int32) < (2 : Int32)))).2.2.1 ?_
    show Steps p.tables e below (T1.setTop (mkF m 15 #[iv p0, iv (2 : Int32), rv w_MessageType_CANCEL_REQUEST, .unset] [])) _
    refine XS.iloadN X1.here hx rfl (hb hby at_15) rfl ?_
    show Steps p.tables e below (T1.setTop (mkF m 16 #[iv p0, iv (2 : Int32), rv w_MessageType_CANCEL_REQUEST, .unset] [(.int (2 : Int32))])) _
    refine XS.iconst X1.here hx rfl (hb hby at_16) ?_
    show Steps p.tables e below (T1.setTop (mkF m 17 #[iv p0, iv (2 : Int32), rv w_MessageType_CANCEL_REQUEST, .unset] [(.int (2 : Int32)), (.int (2 : Int32))])) _
    refine XS.icmpNo X1.here hx rfl (hb hby at_17) rfl (teq (by decide +kernel : (2 : Int32) = (2 : Int32))).2 ?_
    show Steps p.tables e below (T1.setTop (mkF m 20 #[iv p0, iv (2 : Int32), rv w_MessageType_CANCEL_REQUEST, .unset] [])) _
    refine XS.iloadN X1.here hx rfl (hb hby at_20) rfl ?_
    show Steps p.tables e below (T1.setTop (mkF m 21 #[iv p0, iv (2 : Int32), rv w_MessageType_CANCEL_REQUEST, .unset] [(.int (2 : Int32))])) _
    refine XS.bipush X1.here hx rfl (hb hby at_21) ?_
    show Steps p.tables e below (T1.setTop (mkF m 23 #[iv p0, iv (2 : Int32), rv w_MessageType_CANCEL_REQUEST, .unset] [(.int (7 : Int32)), (.int (2 : Int32))])) _
    refine XS.icmpYes X1.here hx rfl (pc0 := 23) (pc' := 30) rfl (hb hby at_23) rfl (feq (by decide +kernel : ¬ ((2 : Int32) = (7 : Int32)))).2 (by decide) (by decide) ?_
    show Steps p.tables e below (T1.setTop (mkF m 30 #[iv p0, iv (2 : Int32), rv w_MessageType_CANCEL_REQUEST, .unset] [])) _
    refine XS.iconst X1.here hx rfl (hb hby at_30) ?_
    show Steps p.tables e below (T1.setTop (mkF m 31 #[iv p0, iv (2 : Int32), rv w_MessageType_CANCEL_REQUEST, .unset] [(.int (0 : Int32))])) _
    refine XS.istoreN X1.here hx rfl (hb hby at_31) rfl (l' := #[iv p0, iv (2 : Int32), rv w_MessageType_CANCEL_REQUEST, iv (0 : Int32)]) rfl ?_
    show Steps p.tables e below (T1.setTop (mkF m 32 #[iv p0, iv (2 : Int32), rv w_MessageType_CANCEL_REQUEST, iv (0 : Int32)] [])) _
    refine XS.aloadN X1.here hx rfl (hb hby at_32) rfl rfl ?_
    show Steps p.tables e below (T1.setTop (mkF m 33 #[iv p0, iv (2 : Int32), rv w_MessageType_CANCEL_REQUEST, iv (0 : Int32)] [(.ref w_MessageType_CANCEL_REQUEST)])) _
    refine st2.trans ?_
    show Steps p.tables e below (T2.setTop (mkF m 36 #[iv p0, iv (2 : Int32), rv w_MessageType_CANCEL_REQUEST, iv (0 : Int32)] [(.int (0 : Int32))])) _
    refine XS.iloadN X2.here hx rfl (hb hby at_36) rfl ?_
    show Steps p.tables e below (T2.setTop (mkF m 37 #[iv p0, iv (2 : Int32), rv w_MessageType_CANCEL_REQUEST, iv (0 : Int32)] [(.int (0 : Int32)), (.int (0 : Int32))])) _
    refine XS.icmpNo X2.here hx rfl (hb hby at_37) rfl (teq (by decide +kernel : (0 : Int32) = (0 : Int32))).2 ?_
    show Steps p.tables e below (T2.setTop (mkF m 40 #[iv p0, iv (2 : Int32), rv w_MessageType_CANCEL_REQUEST, iv (0 : Int32)] [])) _
    refine XS.iconst X2.here hx rfl (hb hby at_40) ?_
    show Steps p.tables e below (T2.setTop (mkF m 41 #[iv p0, iv (2 : Int32), rv w_MessageType_CANCEL_REQUEST, iv (0 : Int32)] [(.int (1 : Int32))])) _
    refine XS.goto X2.here hx rfl (pc0 := 41) (pc' := 45) rfl (hb hby at_41) (by decide) (by decide) ?_
    show Steps p.tables e below (T2.setTop (mkF m 45 #[iv p0, iv (2 : Int32), rv w_MessageType_CANCEL_REQUEST, iv (0 : Int32)] [(.int (1 : Int32))])) _
    exact retN X2 hx (t := .boolean) Bd.returns (by simp) (hb hby at_45) hr
  · exact ⟨rfl, N2⟩
set_option maxRecDepth 65536 in
set_option maxHeartbeats 40000000 in
theorem rm1_6 (l : Launch) (Z : State) (a0 : Array Value) (hw : ∀ d ∈ tables_1, d.before a0 Z = true) (ws : List Jvm.Cond) (w_MessageType_LOCATE_REQUEST : Addr) (h0 : Heap) (n0 : Nat) (Z0 : n0 ≤ h0.size) (S_MessageType_LOCATE_REQUEST : Sta Z h0 "org/driftcairn/giop/MessageType" "LOCATE_REQUEST" "Lorg/driftcairn/giop/MessageType;" (.ref w_MessageType_LOCATE_REQUEST)) :
    MetFree l (⟨"org/driftcairn/giop/MessageTypeMayBeFragmentedPinLaw", "pick", "(I)Lorg/driftcairn/giop/MessageType;"⟩ : MethodName) (head1 (Jvm.Cond.code (⟨"org/driftcairn/giop/MessageTypeMayBeFragmentedPinLaw", "pick", "(I)Lorg/driftcairn/giop/MessageType;"⟩ : MethodName) method_2_code 1 (some (.object "org/driftcairn/giop/MessageType")) :: ws) ({ frames := 0, cells := 0, slots := 0, locals := 0 } : Room)) (fun a U => a = #[(.int (3 : Int32))] ∧ Z.Warmed39 U.vm ∧ U.heap = h0) (fun _ _ _ _ _ => True) (fun _ U o U' => ∃ v L, o = .returned v ∧ own_QP (some (.ref w_MessageType_LOCATE_REQUEST)) h0 n0 v U'.heap L ∧ FrameEnd U o U' L ({ frames := 0, cells := 0, slots := 0, locals := 0 } : Room).cells ({ frames := 0, cells := 0, slots := 0, locals := 0 } : Room).slots) := by
  refine MetFree.of_bodySF (plainFor_of_name pn_0) hisR ?_
  intro p e s m args below meth c s₁ Bd hml0 hP hK
  obtain ⟨rfl, hZ, hh⟩ := hP
  have hx := Bd.exec
  have hby := Bd.bytes
  have hml : c.maxLocals = 1 := hml0
  have hown : s.vm.findClass "org/driftcairn/giop/MessageTypeMayBeFragmentedPinLaw" = some m.cls := findClass_of_methodNamed Bd.named
  have hnm := (name_of_methodNamed Bd.named Bd.method).1
  have X0 : Stand p l e ({ frames := 0, cells := 0, slots := 0, locals := 0 } : Room) s m #[(.int (3 : Int32))] below meth c s₁ [] 0 0 := Stand.of_body Bd
  have e0 : s₁.heap = h0 := by rw [← hh, Bd.state]; rfl
  have N0 := Fr.nil n0
  have pre0 : ∀ t, Steps p.tables e below (s₁.setTop (mkF m 0 #[iv (3 : Int32)] [])) t → Steps p.tables e below (s₁.setTop (entryFrame m #[(.int (3 : Int32))] 1)) t := fun t k => castTop (ef_1_I m (3 : Int32)) k
  obtain ⟨T1, X1, e1, st1⟩ := getS2 X0 hx hZ hown (host := "") (Or.inl (hw _ (List.mem_of_getElem? (i := 13) rfl))) Via.refl e0 S_MessageType_LOCATE_REQUEST (g := (mkF m 31 #[iv (3 : Int32)] [])) rfl (hb hby d1_31)
  obtain ⟨fs, hr, hrun, hended, hW, hsame⟩ := X1.leave (v := (some (.ref w_MessageType_LOCATE_REQUEST))) (fun h => by rw [Bd.returns] at h; cases h)
  refine ⟨_, _, pre0 _ ?_, hrun, hended, _, _, rfl, ?_, ⟨_, rfl⟩, hW, hsame.mono (by decide) (by decide)⟩
  · show Steps p.tables e below (s₁.setTop (mkF m 0 #[iv (3 : Int32)] [])) _
    refine XS.iloadN X0.here hx rfl (hb hby d1_0) rfl ?_
    show Steps p.tables e below (s₁.setTop (mkF m 1 #[iv (3 : Int32)] [(.int (3 : Int32))])) _
    refine XS.ifYes X0.here hx rfl (pc0 := 1) (pc' := 8) rfl (hb hby d1_1) rfl ((if0 _ _).trans (feq (by decide +kernel : ¬ ((3 : Int32) = (0 : Int32)))).2) (by decide) (by decide) ?_
    show Steps p.tables e below (s₁.setTop (mkF m 8 #[iv (3 : Int32)] [])) _
    refine XS.iloadN X0.here hx rfl (hb hby d1_8) rfl ?_
    show Steps p.tables e below (s₁.setTop (mkF m 9 #[iv (3 : Int32)] [(.int (3 : Int32))])) _
    refine XS.iconst X0.here hx rfl (hb hby d1_9) ?_
    show Steps p.tables e below (s₁.setTop (mkF m 10 #[iv (3 : Int32)] [(.int (1 : Int32)), (.int (3 : Int32))])) _
    refine XS.icmpYes X0.here hx rfl (pc0 := 10) (pc' := 17) rfl (hb hby d1_10) rfl (feq (by decide +kernel : ¬ ((3 : Int32) = (1 : Int32)))).2 (by decide) (by decide) ?_
    show Steps p.tables e below (s₁.setTop (mkF m 17 #[iv (3 : Int32)] [])) _
    refine XS.iloadN X0.here hx rfl (hb hby d1_17) rfl ?_
    show Steps p.tables e below (s₁.setTop (mkF m 18 #[iv (3 : Int32)] [(.int (3 : Int32))])) _
    refine XS.iconst X0.here hx rfl (hb hby d1_18) ?_
    show Steps p.tables e below (s₁.setTop (mkF m 19 #[iv (3 : Int32)] [(.int (2 : Int32)), (.int (3 : Int32))])) _
    refine XS.icmpYes X0.here hx rfl (pc0 := 19) (pc' := 26) rfl (hb hby d1_19) rfl (feq (by decide +kernel : ¬ ((3 : Int32) = (2 : Int32)))).2 (by decide) (by decide) ?_
    show Steps p.tables e below (s₁.setTop (mkF m 26 #[iv (3 : Int32)] [])) _
    refine XS.iloadN X0.here hx rfl (hb hby d1_26) rfl ?_
    show Steps p.tables e below (s₁.setTop (mkF m 27 #[iv (3 : Int32)] [(.int (3 : Int32))])) _
    refine XS.iconst X0.here hx rfl (hb hby d1_27) ?_
    show Steps p.tables e below (s₁.setTop (mkF m 28 #[iv (3 : Int32)] [(.int (3 : Int32)), (.int (3 : Int32))])) _
    refine XS.icmpNo X0.here hx rfl (hb hby d1_28) rfl (teq (by decide +kernel : (3 : Int32) = (3 : Int32))).2 ?_
    show Steps p.tables e below (s₁.setTop (mkF m 31 #[iv (3 : Int32)] [])) _
    refine st1 _ ?_
    show Steps p.tables e below (T1.setTop (mkF m 34 #[iv (3 : Int32)] [(.ref w_MessageType_LOCATE_REQUEST)])) _
    exact own_retA X1 hx Bd.returns rfl rfl (hb hby d1_34) hr
  · exact ⟨rfl, N0, e1⟩
set_option maxRecDepth 65536 in
set_option maxHeartbeats 40000000 in
theorem rm2_7 (l : Launch) (Z : State) (a0 : Array Value) (hw : ∀ d ∈ tables_1, d.before a0 Z = true) (ws : List Jvm.Cond) (w_MessageType_REQUEST : Addr) (w_MessageType_LOCATE_REQUEST : Addr) (w_MessageType_REPLY : Addr) (h0 : Heap) (n0 : Nat) (Z0 : n0 ≤ h0.size) (S_MessageType_REQUEST : Sta Z h0 "org/driftcairn/giop/MessageType" "REQUEST" "Lorg/driftcairn/giop/MessageType;" (.ref w_MessageType_REQUEST)) (ne_w_MessageType_LOCATE_REQUEST_w_MessageType_REQUEST : ¬ (w_MessageType_LOCATE_REQUEST = w_MessageType_REQUEST)) (S_MessageType_REPLY : Sta Z h0 "org/driftcairn/giop/MessageType" "REPLY" "Lorg/driftcairn/giop/MessageType;" (.ref w_MessageType_REPLY)) (ne_w_MessageType_LOCATE_REQUEST_w_MessageType_REPLY : ¬ (w_MessageType_LOCATE_REQUEST = w_MessageType_REPLY)) (S_MessageType_LOCATE_REQUEST : Sta Z h0 "org/driftcairn/giop/MessageType" "LOCATE_REQUEST" "Lorg/driftcairn/giop/MessageType;" (.ref w_MessageType_LOCATE_REQUEST)) :
    MetFree l (⟨"org/driftcairn/giop/MessageType", "mayBeFragmented", "()Z"⟩ : MethodName) (head1 (Jvm.Cond.code (⟨"org/driftcairn/giop/MessageType", "mayBeFragmented", "()Z"⟩ : MethodName) prog_70_method_5_code 1 (some .boolean) :: ws) ({ frames := 0, cells := 0, slots := 0, locals := 0 } : Room)) (fun a U => a = #[(.ref w_MessageType_LOCATE_REQUEST)] ∧ Z.Warmed39 U.vm ∧ U.heap = h0) (fun _ _ _ _ _ => True) (fun _ U o U' => ∃ v L, o = .returned v ∧ own_QP (some (.int (1 : Int32))) h0 n0 v U'.heap L ∧ FrameEnd U o U' L ({ frames := 0, cells := 0, slots := 0, locals := 0 } : Room).cells ({ frames := 0, cells := 0, slots := 0, locals := 0 } : Room).slots) := by
  refine MetFree.of_bodySF (plainFor_of_name pn_1) hisR ?_
  intro p e s m args below meth c s₁ Bd hml0 hP hK
  obtain ⟨rfl, hZ, hh⟩ := hP
  have hx := Bd.exec
  have hby := Bd.bytes
  have hml : c.maxLocals = 1 := hml0
  have hown : s.vm.findClass "org/driftcairn/giop/MessageType" = some m.cls := findClass_of_methodNamed Bd.named
  have hnm := (name_of_methodNamed Bd.named Bd.method).1
  have X0 : Stand p l e ({ frames := 0, cells := 0, slots := 0, locals := 0 } : Room) s m #[(.ref w_MessageType_LOCATE_REQUEST)] below meth c s₁ [] 0 0 := Stand.of_body Bd
  have e0 : s₁.heap = h0 := by rw [← hh, Bd.state]; rfl
  have N0 := Fr.nil n0
  have pre0 : ∀ t, Steps p.tables e below (s₁.setTop (mkF m 0 #[rv w_MessageType_LOCATE_REQUEST] [])) t → Steps p.tables e below (s₁.setTop (entryFrame m #[(.ref w_MessageType_LOCATE_REQUEST)] 1)) t := fun t k => castTop (ef_2_R m w_MessageType_LOCATE_REQUEST) k
  obtain ⟨T1, X1, e1, st1⟩ := getS2 X0 hx hZ hown (host := "") (Or.inl (hw _ (List.mem_of_getElem? (i := 12) rfl))) Via.refl e0 S_MessageType_REQUEST (g := (mkF m 1 #[rv w_MessageType_LOCATE_REQUEST] [(.ref w_MessageType_LOCATE_REQUEST)])) rfl (hb hby d2_1)
  obtain ⟨T2, X2, e2, st2⟩ := getS2 X1 hx hZ hown (host := "") (Or.inl (hw _ (List.mem_of_getElem? (i := 15) rfl))) Via.refl e1 S_MessageType_REPLY (g := (mkF m 8 #[rv w_MessageType_LOCATE_REQUEST] [(.ref w_MessageType_LOCATE_REQUEST)])) rfl (hb hby d2_8)
  obtain ⟨T3, X3, e3, st3⟩ := getS2 X2 hx hZ hown (host := "") (Or.inl (hw _ (List.mem_of_getElem? (i := 17) rfl))) Via.refl e2 S_MessageType_LOCATE_REQUEST (g := (mkF m 15 #[rv w_MessageType_LOCATE_REQUEST] [(.ref w_MessageType_LOCATE_REQUEST)])) rfl (hb hby d2_15)
  obtain ⟨fs, hr, hrun, hended, hW, hsame⟩ := X3.leave (v := (some (.int (1 : Int32)))) (fun h => by rw [Bd.returns] at h; cases h)
  refine ⟨_, _, pre0 _ ?_, hrun, hended, _, _, rfl, ?_, ⟨_, rfl⟩, hW, hsame.mono (by decide) (by decide)⟩
  · show Steps p.tables e below (s₁.setTop (mkF m 0 #[rv w_MessageType_LOCATE_REQUEST] [])) _
    refine XS.aloadN X0.here hx rfl (hb hby d2_0) rfl rfl ?_
    show Steps p.tables e below (s₁.setTop (mkF m 1 #[rv w_MessageType_LOCATE_REQUEST] [(.ref w_MessageType_LOCATE_REQUEST)])) _
    refine st1 _ ?_
    show Steps p.tables e below (T1.setTop (mkF m 4 #[rv w_MessageType_LOCATE_REQUEST] [(.ref w_MessageType_REQUEST), (.ref w_MessageType_LOCATE_REQUEST)])) _
    refine Jvm.RoadKit.acmp (g := (mkF m 4 #[rv w_MessageType_LOCATE_REQUEST] [(.ref w_MessageType_REQUEST), (.ref w_MessageType_LOCATE_REQUEST)])) X1 hx rfl rfl rfl (pc0 := 4) (pc' := 7) (same := false) rfl (hb hby d2_4) rfl (decide_eq_false fun q => ne_w_MessageType_LOCATE_REQUEST_w_MessageType_REQUEST (Value.ref.inj q)) (by decide) (by decide) ?_
    show Steps p.tables e below (T1.setTop (mkF m 7 #[rv w_MessageType_LOCATE_REQUEST] [])) _
    refine XS.aloadN X1.here hx rfl (hb hby d2_7) rfl rfl ?_
    show Steps p.tables e below (T1.setTop (mkF m 8 #[rv w_MessageType_LOCATE_REQUEST] [(.ref w_MessageType_LOCATE_REQUEST)])) _
    refine st2 _ ?_
    show Steps p.tables e below (T2.setTop (mkF m 11 #[rv w_MessageType_LOCATE_REQUEST] [(.ref w_MessageType_REPLY), (.ref w_MessageType_LOCATE_REQUEST)])) _
    refine Jvm.RoadKit.acmp (g := (mkF m 11 #[rv w_MessageType_LOCATE_REQUEST] [(.ref w_MessageType_REPLY), (.ref w_MessageType_LOCATE_REQUEST)])) X2 hx rfl rfl rfl (pc0 := 11) (pc' := 14) (same := false) rfl (hb hby d2_11) rfl (decide_eq_false fun q => ne_w_MessageType_LOCATE_REQUEST_w_MessageType_REPLY (Value.ref.inj q)) (by decide) (by decide) ?_
    show Steps p.tables e below (T2.setTop (mkF m 14 #[rv w_MessageType_LOCATE_REQUEST] [])) _
    refine XS.aloadN X2.here hx rfl (hb hby d2_14) rfl rfl ?_
    show Steps p.tables e below (T2.setTop (mkF m 15 #[rv w_MessageType_LOCATE_REQUEST] [(.ref w_MessageType_LOCATE_REQUEST)])) _
    refine st3 _ ?_
    show Steps p.tables e below (T3.setTop (mkF m 18 #[rv w_MessageType_LOCATE_REQUEST] [(.ref w_MessageType_LOCATE_REQUEST), (.ref w_MessageType_LOCATE_REQUEST)])) _
    refine Jvm.RoadKit.acmp (g := (mkF m 18 #[rv w_MessageType_LOCATE_REQUEST] [(.ref w_MessageType_LOCATE_REQUEST), (.ref w_MessageType_LOCATE_REQUEST)])) X3 hx rfl rfl rfl (pc0 := 18) (pc' := 35) (same := true) rfl (hb hby d2_18) rfl (decide_eq_true rfl) (by decide) (by decide) ?_
    show Steps p.tables e below (T3.setTop (mkF m 35 #[rv w_MessageType_LOCATE_REQUEST] [])) _
    refine XS.iconst X3.here hx rfl (hb hby d2_35) ?_
    show Steps p.tables e below (T3.setTop (mkF m 36 #[rv w_MessageType_LOCATE_REQUEST] [(.int (1 : Int32))])) _
    refine XS.goto X3.here hx rfl (pc0 := 36) (pc' := 40) rfl (hb hby d2_36) (by decide) (by decide) ?_
    show Steps p.tables e below (T3.setTop (mkF m 40 #[rv w_MessageType_LOCATE_REQUEST] [(.int (1 : Int32))])) _
    exact retN X3 hx (t := .boolean) Bd.returns (by simp) (hb hby d2_40) hr
  · exact ⟨rfl, N0, e3⟩
set_option maxRecDepth 65536 in
set_option maxHeartbeats 40000000 in
theorem rm0_3 (l : Launch) (Z : State) (a0 : Array Value) (hw : ∀ d ∈ tables_1, d.before a0 Z = true) (ws : List Jvm.Cond) (p0 : Int32) (w_MessageType_REQUEST : Addr) (w_MessageType_LOCATE_REQUEST : Addr) (w_MessageType_REPLY : Addr) (h0 : Heap) (n0 : Nat) (Z0 : n0 ≤ h0.size) (hk0 : (p0 &&& (7 : Int32)) = (3 : Int32)) (S_MessageType_LOCATE_REQUEST : Sta Z h0 "org/driftcairn/giop/MessageType" "LOCATE_REQUEST" "Lorg/driftcairn/giop/MessageType;" (.ref w_MessageType_LOCATE_REQUEST)) (S_MessageType_REQUEST : Sta Z h0 "org/driftcairn/giop/MessageType" "REQUEST" "Lorg/driftcairn/giop/MessageType;" (.ref w_MessageType_REQUEST)) (ne_w_MessageType_LOCATE_REQUEST_w_MessageType_REQUEST : ¬ (w_MessageType_LOCATE_REQUEST = w_MessageType_REQUEST)) (S_MessageType_REPLY : Sta Z h0 "org/driftcairn/giop/MessageType" "REPLY" "Lorg/driftcairn/giop/MessageType;" (.ref w_MessageType_REPLY)) (ne_w_MessageType_LOCATE_REQUEST_w_MessageType_REPLY : ¬ (w_MessageType_LOCATE_REQUEST = w_MessageType_REPLY)) (E_w_MessageType_LOCATE_REQUEST : Exa Z h0 w_MessageType_LOCATE_REQUEST "org/driftcairn/giop/MessageType") :
    MetFree l x (head1 (Jvm.Cond.code x code maxLocals ret :: ws) room_1) (fun a U => a = #[(.int p0)] ∧ Z.Warmed39 U.vm ∧ U.heap = h0) (fun _ _ _ _ _ => True) (fun _ U o U' => ∃ v L, o = .returned v ∧ own_QL n0 v U'.heap L ∧ FrameEnd U o U' L room_1.cells room_1.slots) := by
  refine MetFree.of_bodySF (plainFor_of_name pn_0) hisR ?_
  intro p e s m args below meth c s₁ Bd hml0 hP hK
  obtain ⟨rfl, hZ, hh⟩ := hP
  have hx := Bd.exec
  have hby := Bd.bytes
  have hml : c.maxLocals = 4 := hml0
  have hown : s.vm.findClass "org/driftcairn/giop/MessageTypeMayBeFragmentedPinLaw" = some m.cls := findClass_of_methodNamed Bd.named
  have hnm := (name_of_methodNamed Bd.named Bd.method).1
  have X0 : Stand p l e room_1 s m #[(.int p0)] below meth c s₁ [] 0 0 := Stand.of_body Bd
  have e0 : s₁.heap = h0 := by rw [← hh, Bd.state]; rfl
  have N0 := Fr.nil n0
  have pre0 : ∀ t, Steps p.tables e below (s₁.setTop (mkF m 0 #[iv p0, .unset, .unset, .unset] [])) t → Steps p.tables e below (s₁.setTop (entryFrame m #[(.int p0)] maxLocals)) t := fun t k => castTop (ef_0_I m p0) k
  obtain ⟨_, _, ⟨T1, L1, k1, n1⟩, -, X1, ⟨Lc1, hQ1, l1, y1, z1⟩, st1⟩ := Jvm.LawKit.callS X0 hx (y := (⟨"org/driftcairn/giop/MessageTypeMayBeFragmentedPinLaw", "pick", "(I)Lorg/driftcairn/giop/MessageType;"⟩ : MethodName)) hown (mvT hZ (hw _ (List.mem_of_getElem? (i := 0) rfl))) (mvT hZ (hw _ (List.mem_of_getElem? (i := 1) rfl))) (mvT hZ (hw _ (List.mem_of_getElem? (i := 2) rfl))) (mvT hZ (hw _ (List.mem_of_getElem? (i := 3) rfl))) (by decide) (backOf (W := 0) (rm1_6 l Z a0 hw [] w_MessageType_LOCATE_REQUEST h0 n0 Z0 S_MessageType_LOCATE_REQUEST) hZ (hw _ (List.mem_of_getElem? (i := 3) rfl)) (hw _ (List.mem_of_getElem? (i := 2) rfl)) (by decide) (by decide)) (g := (mkF m 6 #[iv p0, iv (3 : Int32), .unset, .unset] [(.int (3 : Int32))])) rfl (by rw [hml]; rfl) (argsL := [(.int (3 : Int32))]) (rest := []) (lenOf pd_0 rfl) rfl (by show 2 * 0 + _ ≤ _; exact Nat.le_of_eq rfl) (hb hby at_6) (fun _ _ => ⟨rfl, e0, (by decide : 0 + 0 ≤ _), (by decide : 0 + 0 ≤ _)⟩)
  dsimp only [Pt.U, Pt.locs, Pt.cells, Pt.slots] at X1 l1 y1 z1 st1 hQ1
  subst l1 y1 z1
  obtain ⟨rfl, N1q, e1⟩ := hQ1
  have N1 := Fr.app N0 N1q
  obtain ⟨cq2, kq2, q2a, q2b, q2c⟩ := isOf hZ e1 E_w_MessageType_LOCATE_REQUEST
  obtain ⟨_, _, ⟨T2, L2, k2, n2⟩, -, X2, ⟨Lc2, hQ2, l2, y2, z2⟩, st2⟩ := X1.virtualBack hx (y := (⟨"org/driftcairn/giop/MessageType", "mayBeFragmented", "()Z"⟩ : MethodName)) (z := (⟨"org/driftcairn/giop/MessageType", "mayBeFragmented", "()Z"⟩ : MethodName)) hown (mvT hZ (hw _ (List.mem_of_getElem? (i := 7) rfl))) (mvT hZ (hw _ (List.mem_of_getElem? (i := 8) rfl))) (notFace_of_selects (args := #[]) (mvT hZ (hw _ (List.mem_of_getElem? (i := 10) rfl)))) (mvT hZ (hw _ (List.mem_of_getElem? (i := 10) rfl))) (mvT hZ (hw _ (List.mem_of_getElem? (i := 9) rfl))) (by decide) (backOf (W := 0) (rm2_7 l Z a0 hw [] w_MessageType_REQUEST w_MessageType_LOCATE_REQUEST w_MessageType_REPLY h0 n0 Z0 S_MessageType_REQUEST ne_w_MessageType_LOCATE_REQUEST_w_MessageType_REQUEST S_MessageType_REPLY ne_w_MessageType_LOCATE_REQUEST_w_MessageType_REPLY S_MessageType_LOCATE_REQUEST) hZ (hw _ (List.mem_of_getElem? (i := 11) rfl)) (hw _ (List.mem_of_getElem? (i := 5) rfl)) (by decide) (by decide)) q2a q2c (g := (mkF m 33 #[iv p0, iv (3 : Int32), rv w_MessageType_LOCATE_REQUEST, iv (1 : Int32)] [(.ref w_MessageType_LOCATE_REQUEST)])) rfl (by rw [hml]; rfl) (Steps.refl _) (argsL := []) (rest := []) (lenOf pd_1 rfl) rfl (by show 2 * 0 + _ ≤ _; exact Nat.le_of_eq rfl) (hb hby at_33) (fun _ _ => ⟨rfl, e1, (by decide : 0 + 0 ≤ _), (by decide : 0 + 0 ≤ _)⟩)
  dsimp only [Pt.U, Pt.locs, Pt.cells, Pt.slots] at X2 l2 y2 z2 st2 hQ2
  subst l2 y2 z2
  obtain ⟨rfl, N2q, e2⟩ := hQ2
  have N2 := Fr.app N1 N2q
  obtain ⟨fs, hr, hrun, hended, hW, hsame⟩ := X2.leave (v := (some (.int (1 : Int32)))) (fun h => by rw [Bd.returns] at h; cases h)
  refine ⟨_, _, pre0 _ ?_, hrun, hended, _, _, rfl, ?_, ⟨_, rfl⟩, hW, hsame.mono (by decide) (by decide)⟩
  · show Steps p.tables e below (s₁.setTop (mkF m 0 #[iv p0, .unset, .unset, .unset] [])) _
    refine XS.iloadN X0.here hx rfl (hb hby at_0) rfl ?_
    show Steps p.tables e below (s₁.setTop (mkF m 1 #[iv p0, .unset, .unset, .unset] [(.int p0)])) _
    refine XS.bipush X0.here hx rfl (hb hby at_1) ?_
    show Steps p.tables e below (s₁.setTop (mkF m 3 #[iv p0, .unset, .unset, .unset] [(.int (7 : Int32)), (.int p0)])) _
    refine XS.iand X0.here hx rfl (hb hby at_3) rfl ?_
    show Steps p.tables e below (s₁.setTop (mkF m 4 #[iv p0, .unset, .unset, .unset] [(.int (p0 &&& (7 : Int32)))])) _
    rewrite [hk0]
    show Steps p.tables e below (s₁.setTop (mkF m 4 #[iv p0, .unset, .unset, .unset] [(.int (3 : Int32))])) _
    refine XS.istoreN X0.here hx rfl (hb hby at_4) rfl (l' := #[iv p0, iv (3 : Int32), .unset, .unset]) rfl ?_
    show Steps p.tables e below (s₁.setTop (mkF m 5 #[iv p0, iv (3 : Int32), .unset, .unset] [])) _
    refine XS.iloadN X0.here hx rfl (hb hby at_5) rfl ?_
    show Steps p.tables e below (s₁.setTop (mkF m 6 #[iv p0, iv (3 : Int32), .unset, .unset] [(.int (3 : Int32))])) _
    refine st1 _ ?_
    show Steps p.tables e below (T1.setTop (mkF m 9 #[iv p0, iv (3 : Int32), .unset, .unset] [(.ref w_MessageType_LOCATE_REQUEST)])) _
    refine XS.astoreN X1.here hx rfl (hb hby at_9) rfl rfl (l' := #[iv p0, iv (3 : Int32), rv w_MessageType_LOCATE_REQUEST, .unset]) rfl ?_
    show Steps p.tables e below (T1.setTop (mkF m 10 #[iv p0, iv (3 : Int32), rv w_MessageType_LOCATE_REQUEST, .unset] [])) _
    refine XS.iloadN X1.here hx rfl (hb hby at_10) rfl ?_
    show Steps p.tables e below (T1.setTop (mkF m 11 #[iv p0, iv (3 : Int32), rv w_MessageType_LOCATE_REQUEST, .unset] [(.int (3 : Int32))])) _
    refine XS.iconst X1.here hx rfl (hb hby at_11) ?_
    show Steps p.tables e below (T1.setTop (mkF m 12 #[iv p0, iv (3 : Int32), rv w_MessageType_LOCATE_REQUEST, .unset] [(.int (4 : Int32)), (.int (3 : Int32))])) _
    refine XS.icmpNo X1.here hx rfl (hb hby at_12) rfl (flt (by decide +kernel : ¬ ((4 : Int32) < (3 : Int32)))).2.2.1 ?_
    show Steps p.tables e below (T1.setTop (mkF m 15 #[iv p0, iv (3 : Int32), rv w_MessageType_LOCATE_REQUEST, .unset] [])) _
    refine XS.iloadN X1.here hx rfl (hb hby at_15) rfl ?_
    show Steps p.tables e below (T1.setTop (mkF m 16 #[iv p0, iv (3 : Int32), rv w_MessageType_LOCATE_REQUEST, .unset] [(.int (3 : Int32))])) _
    refine XS.iconst X1.here hx rfl (hb hby at_16) ?_
    show Steps p.tables e below (T1.setTop (mkF m 17 #[iv p0, iv (3 : Int32), rv w_MessageType_LOCATE_REQUEST, .unset] [(.int (2 : Int32)), (.int (3 : Int32))])) _
    refine XS.icmpYes X1.here hx rfl (pc0 := 17) (pc' := 26) rfl (hb hby at_17) rfl (feq (by decide +kernel : ¬ ((3 : Int32) = (2 : Int32)))).2 (by decide) (by decide) ?_
    show Steps p.tables e below (T1.setTop (mkF m 26 #[iv p0, iv (3 : Int32), rv w_MessageType_LOCATE_REQUEST, .unset] [])) _
    refine XS.iconst X1.here hx rfl (hb hby at_26) ?_
    show Steps p.tables e below (T1.setTop (mkF m 27 #[iv p0, iv (3 : Int32), rv w_MessageType_LOCATE_REQUEST, .unset] [(.int (1 : Int32))])) _
    refine XS.goto X1.here hx rfl (pc0 := 27) (pc' := 31) rfl (hb hby at_27) (by decide) (by decide) ?_
    show Steps p.tables e below (T1.setTop (mkF m 31 #[iv p0, iv (3 : Int32), rv w_MessageType_LOCATE_REQUEST, .unset] [(.int (1 : Int32))])) _
    refine XS.istoreN X1.here hx rfl (hb hby at_31) rfl (l' := #[iv p0, iv (3 : Int32), rv w_MessageType_LOCATE_REQUEST, iv (1 : Int32)]) rfl ?_
    show Steps p.tables e below (T1.setTop (mkF m 32 #[iv p0, iv (3 : Int32), rv w_MessageType_LOCATE_REQUEST, iv (1 : Int32)] [])) _
    refine XS.aloadN X1.here hx rfl (hb hby at_32) rfl rfl ?_
    show Steps p.tables e below (T1.setTop (mkF m 33 #[iv p0, iv (3 : Int32), rv w_MessageType_LOCATE_REQUEST, iv (1 : Int32)] [(.ref w_MessageType_LOCATE_REQUEST)])) _
    refine st2.trans ?_
    show Steps p.tables e below (T2.setTop (mkF m 36 #[iv p0, iv (3 : Int32), rv w_MessageType_LOCATE_REQUEST, iv (1 : Int32)] [(.int (1 : Int32))])) _
    refine XS.iloadN X2.here hx rfl (hb hby at_36) rfl ?_
    show Steps p.tables e below (T2.setTop (mkF m 37 #[iv p0, iv (3 : Int32), rv w_MessageType_LOCATE_REQUEST, iv (1 : Int32)] [(.int (1 : Int32)), (.int (1 : Int32))])) _
    refine XS.icmpNo X2.here hx rfl (hb hby at_37) rfl (teq (by decide +kernel : (1 : Int32) = (1 : Int32))).2 ?_
    show Steps p.tables e below (T2.setTop (mkF m 40 #[iv p0, iv (3 : Int32), rv w_MessageType_LOCATE_REQUEST, iv (1 : Int32)] [])) _
    refine XS.iconst X2.here hx rfl (hb hby at_40) ?_
    show Steps p.tables e below (T2.setTop (mkF m 41 #[iv p0, iv (3 : Int32), rv w_MessageType_LOCATE_REQUEST, iv (1 : Int32)] [(.int (1 : Int32))])) _
    refine XS.goto X2.here hx rfl (pc0 := 41) (pc' := 45) rfl (hb hby at_41) (by decide) (by decide) ?_
    show Steps p.tables e below (T2.setTop (mkF m 45 #[iv p0, iv (3 : Int32), rv w_MessageType_LOCATE_REQUEST, iv (1 : Int32)] [(.int (1 : Int32))])) _
    exact retN X2 hx (t := .boolean) Bd.returns (by simp) (hb hby at_45) hr
  · exact ⟨rfl, N2⟩
set_option maxRecDepth 65536 in
set_option maxHeartbeats 40000000 in
theorem rm1_8 (l : Launch) (Z : State) (a0 : Array Value) (hw : ∀ d ∈ tables_1, d.before a0 Z = true) (ws : List Jvm.Cond) (w_MessageType_LOCATE_REPLY : Addr) (h0 : Heap) (n0 : Nat) (Z0 : n0 ≤ h0.size) (S_MessageType_LOCATE_REPLY : Sta Z h0 "org/driftcairn/giop/MessageType" "LOCATE_REPLY" "Lorg/driftcairn/giop/MessageType;" (.ref w_MessageType_LOCATE_REPLY)) :
    MetFree l (⟨"org/driftcairn/giop/MessageTypeMayBeFragmentedPinLaw", "pick", "(I)Lorg/driftcairn/giop/MessageType;"⟩ : MethodName) (head1 (Jvm.Cond.code (⟨"org/driftcairn/giop/MessageTypeMayBeFragmentedPinLaw", "pick", "(I)Lorg/driftcairn/giop/MessageType;"⟩ : MethodName) method_2_code 1 (some (.object "org/driftcairn/giop/MessageType")) :: ws) ({ frames := 0, cells := 0, slots := 0, locals := 0 } : Room)) (fun a U => a = #[(.int (4 : Int32))] ∧ Z.Warmed39 U.vm ∧ U.heap = h0) (fun _ _ _ _ _ => True) (fun _ U o U' => ∃ v L, o = .returned v ∧ own_QP (some (.ref w_MessageType_LOCATE_REPLY)) h0 n0 v U'.heap L ∧ FrameEnd U o U' L ({ frames := 0, cells := 0, slots := 0, locals := 0 } : Room).cells ({ frames := 0, cells := 0, slots := 0, locals := 0 } : Room).slots) := by
  refine MetFree.of_bodySF (plainFor_of_name pn_0) hisR ?_
  intro p e s m args below meth c s₁ Bd hml0 hP hK
  obtain ⟨rfl, hZ, hh⟩ := hP
  have hx := Bd.exec
  have hby := Bd.bytes
  have hml : c.maxLocals = 1 := hml0
  have hown : s.vm.findClass "org/driftcairn/giop/MessageTypeMayBeFragmentedPinLaw" = some m.cls := findClass_of_methodNamed Bd.named
  have hnm := (name_of_methodNamed Bd.named Bd.method).1
  have X0 : Stand p l e ({ frames := 0, cells := 0, slots := 0, locals := 0 } : Room) s m #[(.int (4 : Int32))] below meth c s₁ [] 0 0 := Stand.of_body Bd
  have e0 : s₁.heap = h0 := by rw [← hh, Bd.state]; rfl
  have N0 := Fr.nil n0
  have pre0 : ∀ t, Steps p.tables e below (s₁.setTop (mkF m 0 #[iv (4 : Int32)] [])) t → Steps p.tables e below (s₁.setTop (entryFrame m #[(.int (4 : Int32))] 1)) t := fun t k => castTop (ef_1_I m (4 : Int32)) k
  obtain ⟨T1, X1, e1, st1⟩ := getS2 X0 hx hZ hown (host := "") (Or.inl (hw _ (List.mem_of_getElem? (i := 28) rfl))) Via.refl e0 S_MessageType_LOCATE_REPLY (g := (mkF m 40 #[iv (4 : Int32)] [])) rfl (hb hby d1_40)
  obtain ⟨fs, hr, hrun, hended, hW, hsame⟩ := X1.leave (v := (some (.ref w_MessageType_LOCATE_REPLY))) (fun h => by rw [Bd.returns] at h; cases h)
  refine ⟨_, _, pre0 _ ?_, hrun, hended, _, _, rfl, ?_, ⟨_, rfl⟩, hW, hsame.mono (by decide) (by decide)⟩
  · show Steps p.tables e below (s₁.setTop (mkF m 0 #[iv (4 : Int32)] [])) _
    refine XS.iloadN X0.here hx rfl (hb hby d1_0) rfl ?_
    show Steps p.tables e below (s₁.setTop (mkF m 1 #[iv (4 : Int32)] [(.int (4 : Int32))])) _
    refine XS.ifYes X0.here hx rfl (pc0 := 1) (pc' := 8) rfl (hb hby d1_1) rfl ((if0 _ _).trans (feq (by decide +kernel : ¬ ((4 : Int32) = (0 : Int32)))).2) (by decide) (by decide) ?_
    show Steps p.tables e below (s₁.setTop (mkF m 8 #[iv (4 : Int32)] [])) _
    refine XS.iloadN X0.here hx rfl (hb hby d1_8) rfl ?_
    show Steps p.tables e below (s₁.setTop (mkF m 9 #[iv (4 : Int32)] [(.int (4 : Int32))])) _
    refine XS.iconst X0.here hx rfl (hb hby d1_9) ?_
    show Steps p.tables e below (s₁.setTop (mkF m 10 #[iv (4 : Int32)] [(.int (1 : Int32)), (.int (4 : Int32))])) _
    refine XS.icmpYes X0.here hx rfl (pc0 := 10) (pc' := 17) rfl (hb hby d1_10) rfl (feq (by decide +kernel : ¬ ((4 : Int32) = (1 : Int32)))).2 (by decide) (by decide) ?_
    show Steps p.tables e below (s₁.setTop (mkF m 17 #[iv (4 : Int32)] [])) _
    refine XS.iloadN X0.here hx rfl (hb hby d1_17) rfl ?_
    show Steps p.tables e below (s₁.setTop (mkF m 18 #[iv (4 : Int32)] [(.int (4 : Int32))])) _
    refine XS.iconst X0.here hx rfl (hb hby d1_18) ?_
    show Steps p.tables e below (s₁.setTop (mkF m 19 #[iv (4 : Int32)] [(.int (2 : Int32)), (.int (4 : Int32))])) _
    refine XS.icmpYes X0.here hx rfl (pc0 := 19) (pc' := 26) rfl (hb hby d1_19) rfl (feq (by decide +kernel : ¬ ((4 : Int32) = (2 : Int32)))).2 (by decide) (by decide) ?_
    show Steps p.tables e below (s₁.setTop (mkF m 26 #[iv (4 : Int32)] [])) _
    refine XS.iloadN X0.here hx rfl (hb hby d1_26) rfl ?_
    show Steps p.tables e below (s₁.setTop (mkF m 27 #[iv (4 : Int32)] [(.int (4 : Int32))])) _
    refine XS.iconst X0.here hx rfl (hb hby d1_27) ?_
    show Steps p.tables e below (s₁.setTop (mkF m 28 #[iv (4 : Int32)] [(.int (3 : Int32)), (.int (4 : Int32))])) _
    refine XS.icmpYes X0.here hx rfl (pc0 := 28) (pc' := 35) rfl (hb hby d1_28) rfl (feq (by decide +kernel : ¬ ((4 : Int32) = (3 : Int32)))).2 (by decide) (by decide) ?_
    show Steps p.tables e below (s₁.setTop (mkF m 35 #[iv (4 : Int32)] [])) _
    refine XS.iloadN X0.here hx rfl (hb hby d1_35) rfl ?_
    show Steps p.tables e below (s₁.setTop (mkF m 36 #[iv (4 : Int32)] [(.int (4 : Int32))])) _
    refine XS.iconst X0.here hx rfl (hb hby d1_36) ?_
    show Steps p.tables e below (s₁.setTop (mkF m 37 #[iv (4 : Int32)] [(.int (4 : Int32)), (.int (4 : Int32))])) _
    refine XS.icmpNo X0.here hx rfl (hb hby d1_37) rfl (teq (by decide +kernel : (4 : Int32) = (4 : Int32))).2 ?_
    show Steps p.tables e below (s₁.setTop (mkF m 40 #[iv (4 : Int32)] [])) _
    refine st1 _ ?_
    show Steps p.tables e below (T1.setTop (mkF m 43 #[iv (4 : Int32)] [(.ref w_MessageType_LOCATE_REPLY)])) _
    exact own_retA X1 hx Bd.returns rfl rfl (hb hby d1_43) hr
  · exact ⟨rfl, N0, e1⟩
set_option maxRecDepth 65536 in
set_option maxHeartbeats 40000000 in
theorem rm2_9 (l : Launch) (Z : State) (a0 : Array Value) (hw : ∀ d ∈ tables_1, d.before a0 Z = true) (ws : List Jvm.Cond) (w_MessageType_REQUEST : Addr) (w_MessageType_LOCATE_REQUEST : Addr) (w_MessageType_REPLY : Addr) (w_MessageType_LOCATE_REPLY : Addr) (h0 : Heap) (n0 : Nat) (Z0 : n0 ≤ h0.size) (S_MessageType_REQUEST : Sta Z h0 "org/driftcairn/giop/MessageType" "REQUEST" "Lorg/driftcairn/giop/MessageType;" (.ref w_MessageType_REQUEST)) (ne_w_MessageType_LOCATE_REPLY_w_MessageType_REQUEST : ¬ (w_MessageType_LOCATE_REPLY = w_MessageType_REQUEST)) (S_MessageType_REPLY : Sta Z h0 "org/driftcairn/giop/MessageType" "REPLY" "Lorg/driftcairn/giop/MessageType;" (.ref w_MessageType_REPLY)) (ne_w_MessageType_LOCATE_REPLY_w_MessageType_REPLY : ¬ (w_MessageType_LOCATE_REPLY = w_MessageType_REPLY)) (S_MessageType_LOCATE_REQUEST : Sta Z h0 "org/driftcairn/giop/MessageType" "LOCATE_REQUEST" "Lorg/driftcairn/giop/MessageType;" (.ref w_MessageType_LOCATE_REQUEST)) (ne_w_MessageType_LOCATE_REPLY_w_MessageType_LOCATE_REQUEST : ¬ (w_MessageType_LOCATE_REPLY = w_MessageType_LOCATE_REQUEST)) (S_MessageType_LOCATE_REPLY : Sta Z h0 "org/driftcairn/giop/MessageType" "LOCATE_REPLY" "Lorg/driftcairn/giop/MessageType;" (.ref w_MessageType_LOCATE_REPLY)) :
    MetFree l (⟨"org/driftcairn/giop/MessageType", "mayBeFragmented", "()Z"⟩ : MethodName) (head1 (Jvm.Cond.code (⟨"org/driftcairn/giop/MessageType", "mayBeFragmented", "()Z"⟩ : MethodName) prog_70_method_5_code 1 (some .boolean) :: ws) ({ frames := 0, cells := 0, slots := 0, locals := 0 } : Room)) (fun a U => a = #[(.ref w_MessageType_LOCATE_REPLY)] ∧ Z.Warmed39 U.vm ∧ U.heap = h0) (fun _ _ _ _ _ => True) (fun _ U o U' => ∃ v L, o = .returned v ∧ own_QP (some (.int (1 : Int32))) h0 n0 v U'.heap L ∧ FrameEnd U o U' L ({ frames := 0, cells := 0, slots := 0, locals := 0 } : Room).cells ({ frames := 0, cells := 0, slots := 0, locals := 0 } : Room).slots) := by
  refine MetFree.of_bodySF (plainFor_of_name pn_1) hisR ?_
  intro p e s m args below meth c s₁ Bd hml0 hP hK
  obtain ⟨rfl, hZ, hh⟩ := hP
  have hx := Bd.exec
  have hby := Bd.bytes
  have hml : c.maxLocals = 1 := hml0
  have hown : s.vm.findClass "org/driftcairn/giop/MessageType" = some m.cls := findClass_of_methodNamed Bd.named
  have hnm := (name_of_methodNamed Bd.named Bd.method).1
  have X0 : Stand p l e ({ frames := 0, cells := 0, slots := 0, locals := 0 } : Room) s m #[(.ref w_MessageType_LOCATE_REPLY)] below meth c s₁ [] 0 0 := Stand.of_body Bd
  have e0 : s₁.heap = h0 := by rw [← hh, Bd.state]; rfl
  have N0 := Fr.nil n0
  have pre0 : ∀ t, Steps p.tables e below (s₁.setTop (mkF m 0 #[rv w_MessageType_LOCATE_REPLY] [])) t → Steps p.tables e below (s₁.setTop (entryFrame m #[(.ref w_MessageType_LOCATE_REPLY)] 1)) t := fun t k => castTop (ef_2_R m w_MessageType_LOCATE_REPLY) k
  obtain ⟨T1, X1, e1, st1⟩ := getS2 X0 hx hZ hown (host := "") (Or.inl (hw _ (List.mem_of_getElem? (i := 12) rfl))) Via.refl e0 S_MessageType_REQUEST (g := (mkF m 1 #[rv w_MessageType_LOCATE_REPLY] [(.ref w_MessageType_LOCATE_REPLY)])) rfl (hb hby d2_1)
  obtain ⟨T2, X2, e2, st2⟩ := getS2 X1 hx hZ hown (host := "") (Or.inl (hw _ (List.mem_of_getElem? (i := 15) rfl))) Via.refl e1 S_MessageType_REPLY (g := (mkF m 8 #[rv w_MessageType_LOCATE_REPLY] [(.ref w_MessageType_LOCATE_REPLY)])) rfl (hb hby d2_8)
  obtain ⟨T3, X3, e3, st3⟩ := getS2 X2 hx hZ hown (host := "") (Or.inl (hw _ (List.mem_of_getElem? (i := 17) rfl))) Via.refl e2 S_MessageType_LOCATE_REQUEST (g := (mkF m 15 #[rv w_MessageType_LOCATE_REPLY] [(.ref w_MessageType_LOCATE_REPLY)])) rfl (hb hby d2_15)
  obtain ⟨T4, X4, e4, st4⟩ := getS2 X3 hx hZ hown (host := "") (Or.inl (hw _ (List.mem_of_getElem? (i := 20) rfl))) Via.refl e3 S_MessageType_LOCATE_REPLY (g := (mkF m 22 #[rv w_MessageType_LOCATE_REPLY] [(.ref w_MessageType_LOCATE_REPLY)])) rfl (hb hby d2_22)
  obtain ⟨fs, hr, hrun, hended, hW, hsame⟩ := X4.leave (v := (some (.int (1 : Int32)))) (fun h => by rw [Bd.returns] at h; cases h)
  refine ⟨_, _, pre0 _ ?_, hrun, hended, _, _, rfl, ?_, ⟨_, rfl⟩, hW, hsame.mono (by decide) (by decide)⟩
  · show Steps p.tables e below (s₁.setTop (mkF m 0 #[rv w_MessageType_LOCATE_REPLY] [])) _
    refine XS.aloadN X0.here hx rfl (hb hby d2_0) rfl rfl ?_
    show Steps p.tables e below (s₁.setTop (mkF m 1 #[rv w_MessageType_LOCATE_REPLY] [(.ref w_MessageType_LOCATE_REPLY)])) _
    refine st1 _ ?_
    show Steps p.tables e below (T1.setTop (mkF m 4 #[rv w_MessageType_LOCATE_REPLY] [(.ref w_MessageType_REQUEST), (.ref w_MessageType_LOCATE_REPLY)])) _
    refine Jvm.RoadKit.acmp (g := (mkF m 4 #[rv w_MessageType_LOCATE_REPLY] [(.ref w_MessageType_REQUEST), (.ref w_MessageType_LOCATE_REPLY)])) X1 hx rfl rfl rfl (pc0 := 4) (pc' := 7) (same := false) rfl (hb hby d2_4) rfl (decide_eq_false fun q => ne_w_MessageType_LOCATE_REPLY_w_MessageType_REQUEST (Value.ref.inj q)) (by decide) (by decide) ?_
    show Steps p.tables e below (T1.setTop (mkF m 7 #[rv w_MessageType_LOCATE_REPLY] [])) _
    refine XS.aloadN X1.here hx rfl (hb hby d2_7) rfl rfl ?_
    show Steps p.tables e below (T1.setTop (mkF m 8 #[rv w_MessageType_LOCATE_REPLY] [(.ref w_MessageType_LOCATE_REPLY)])) _
    refine st2 _ ?_
    show Steps p.tables e below (T2.setTop (mkF m 11 #[rv w_MessageType_LOCATE_REPLY] [(.ref w_MessageType_REPLY), (.ref w_MessageType_LOCATE_REPLY)])) _
    refine Jvm.RoadKit.acmp (g := (mkF m 11 #[rv w_MessageType_LOCATE_REPLY] [(.ref w_MessageType_REPLY), (.ref w_MessageType_LOCATE_REPLY)])) X2 hx rfl rfl rfl (pc0 := 11) (pc' := 14) (same := false) rfl (hb hby d2_11) rfl (decide_eq_false fun q => ne_w_MessageType_LOCATE_REPLY_w_MessageType_REPLY (Value.ref.inj q)) (by decide) (by decide) ?_
    show Steps p.tables e below (T2.setTop (mkF m 14 #[rv w_MessageType_LOCATE_REPLY] [])) _
    refine XS.aloadN X2.here hx rfl (hb hby d2_14) rfl rfl ?_
    show Steps p.tables e below (T2.setTop (mkF m 15 #[rv w_MessageType_LOCATE_REPLY] [(.ref w_MessageType_LOCATE_REPLY)])) _
    refine st3 _ ?_
    show Steps p.tables e below (T3.setTop (mkF m 18 #[rv w_MessageType_LOCATE_REPLY] [(.ref w_MessageType_LOCATE_REQUEST), (.ref w_MessageType_LOCATE_REPLY)])) _
    refine Jvm.RoadKit.acmp (g := (mkF m 18 #[rv w_MessageType_LOCATE_REPLY] [(.ref w_MessageType_LOCATE_REQUEST), (.ref w_MessageType_LOCATE_REPLY)])) X3 hx rfl rfl rfl (pc0 := 18) (pc' := 21) (same := false) rfl (hb hby d2_18) rfl (decide_eq_false fun q => ne_w_MessageType_LOCATE_REPLY_w_MessageType_LOCATE_REQUEST (Value.ref.inj q)) (by decide) (by decide) ?_
    show Steps p.tables e below (T3.setTop (mkF m 21 #[rv w_MessageType_LOCATE_REPLY] [])) _
    refine XS.aloadN X3.here hx rfl (hb hby d2_21) rfl rfl ?_
    show Steps p.tables e below (T3.setTop (mkF m 22 #[rv w_MessageType_LOCATE_REPLY] [(.ref w_MessageType_LOCATE_REPLY)])) _
    refine st4 _ ?_
    show Steps p.tables e below (T4.setTop (mkF m 25 #[rv w_MessageType_LOCATE_REPLY] [(.ref w_MessageType_LOCATE_REPLY), (.ref w_MessageType_LOCATE_REPLY)])) _
    refine Jvm.RoadKit.acmp (g := (mkF m 25 #[rv w_MessageType_LOCATE_REPLY] [(.ref w_MessageType_LOCATE_REPLY), (.ref w_MessageType_LOCATE_REPLY)])) X4 hx rfl rfl rfl (pc0 := 25) (pc' := 35) (same := true) rfl (hb hby d2_25) rfl (decide_eq_true rfl) (by decide) (by decide) ?_
    show Steps p.tables e below (T4.setTop (mkF m 35 #[rv w_MessageType_LOCATE_REPLY] [])) _
    refine XS.iconst X4.here hx rfl (hb hby d2_35) ?_
    show Steps p.tables e below (T4.setTop (mkF m 36 #[rv w_MessageType_LOCATE_REPLY] [(.int (1 : Int32))])) _
    refine XS.goto X4.here hx rfl (pc0 := 36) (pc' := 40) rfl (hb hby d2_36) (by decide) (by decide) ?_
    show Steps p.tables e below (T4.setTop (mkF m 40 #[rv w_MessageType_LOCATE_REPLY] [(.int (1 : Int32))])) _
    exact retN X4 hx (t := .boolean) Bd.returns (by simp) (hb hby d2_40) hr
  · exact ⟨rfl, N0, e4⟩
set_option maxRecDepth 65536 in
set_option maxHeartbeats 40000000 in
theorem rm0_4 (l : Launch) (Z : State) (a0 : Array Value) (hw : ∀ d ∈ tables_1, d.before a0 Z = true) (ws : List Jvm.Cond) (p0 : Int32) (w_MessageType_REQUEST : Addr) (w_MessageType_LOCATE_REQUEST : Addr) (w_MessageType_REPLY : Addr) (w_MessageType_LOCATE_REPLY : Addr) (h0 : Heap) (n0 : Nat) (Z0 : n0 ≤ h0.size) (hk0 : (p0 &&& (7 : Int32)) = (4 : Int32)) (S_MessageType_LOCATE_REPLY : Sta Z h0 "org/driftcairn/giop/MessageType" "LOCATE_REPLY" "Lorg/driftcairn/giop/MessageType;" (.ref w_MessageType_LOCATE_REPLY)) (S_MessageType_REQUEST : Sta Z h0 "org/driftcairn/giop/MessageType" "REQUEST" "Lorg/driftcairn/giop/MessageType;" (.ref w_MessageType_REQUEST)) (ne_w_MessageType_LOCATE_REPLY_w_MessageType_REQUEST : ¬ (w_MessageType_LOCATE_REPLY = w_MessageType_REQUEST)) (S_MessageType_REPLY : Sta Z h0 "org/driftcairn/giop/MessageType" "REPLY" "Lorg/driftcairn/giop/MessageType;" (.ref w_MessageType_REPLY)) (ne_w_MessageType_LOCATE_REPLY_w_MessageType_REPLY : ¬ (w_MessageType_LOCATE_REPLY = w_MessageType_REPLY)) (S_MessageType_LOCATE_REQUEST : Sta Z h0 "org/driftcairn/giop/MessageType" "LOCATE_REQUEST" "Lorg/driftcairn/giop/MessageType;" (.ref w_MessageType_LOCATE_REQUEST)) (ne_w_MessageType_LOCATE_REPLY_w_MessageType_LOCATE_REQUEST : ¬ (w_MessageType_LOCATE_REPLY = w_MessageType_LOCATE_REQUEST)) (E_w_MessageType_LOCATE_REPLY : Exa Z h0 w_MessageType_LOCATE_REPLY "org/driftcairn/giop/MessageType") :
    MetFree l x (head1 (Jvm.Cond.code x code maxLocals ret :: ws) room_1) (fun a U => a = #[(.int p0)] ∧ Z.Warmed39 U.vm ∧ U.heap = h0) (fun _ _ _ _ _ => True) (fun _ U o U' => ∃ v L, o = .returned v ∧ own_QL n0 v U'.heap L ∧ FrameEnd U o U' L room_1.cells room_1.slots) := by
  refine MetFree.of_bodySF (plainFor_of_name pn_0) hisR ?_
  intro p e s m args below meth c s₁ Bd hml0 hP hK
  obtain ⟨rfl, hZ, hh⟩ := hP
  have hx := Bd.exec
  have hby := Bd.bytes
  have hml : c.maxLocals = 4 := hml0
  have hown : s.vm.findClass "org/driftcairn/giop/MessageTypeMayBeFragmentedPinLaw" = some m.cls := findClass_of_methodNamed Bd.named
  have hnm := (name_of_methodNamed Bd.named Bd.method).1
  have X0 : Stand p l e room_1 s m #[(.int p0)] below meth c s₁ [] 0 0 := Stand.of_body Bd
  have e0 : s₁.heap = h0 := by rw [← hh, Bd.state]; rfl
  have N0 := Fr.nil n0
  have pre0 : ∀ t, Steps p.tables e below (s₁.setTop (mkF m 0 #[iv p0, .unset, .unset, .unset] [])) t → Steps p.tables e below (s₁.setTop (entryFrame m #[(.int p0)] maxLocals)) t := fun t k => castTop (ef_0_I m p0) k
  obtain ⟨_, _, ⟨T1, L1, k1, n1⟩, -, X1, ⟨Lc1, hQ1, l1, y1, z1⟩, st1⟩ := Jvm.LawKit.callS X0 hx (y := (⟨"org/driftcairn/giop/MessageTypeMayBeFragmentedPinLaw", "pick", "(I)Lorg/driftcairn/giop/MessageType;"⟩ : MethodName)) hown (mvT hZ (hw _ (List.mem_of_getElem? (i := 0) rfl))) (mvT hZ (hw _ (List.mem_of_getElem? (i := 1) rfl))) (mvT hZ (hw _ (List.mem_of_getElem? (i := 2) rfl))) (mvT hZ (hw _ (List.mem_of_getElem? (i := 3) rfl))) (by decide) (backOf (W := 0) (rm1_8 l Z a0 hw [] w_MessageType_LOCATE_REPLY h0 n0 Z0 S_MessageType_LOCATE_REPLY) hZ (hw _ (List.mem_of_getElem? (i := 3) rfl)) (hw _ (List.mem_of_getElem? (i := 2) rfl)) (by decide) (by decide)) (g := (mkF m 6 #[iv p0, iv (4 : Int32), .unset, .unset] [(.int (4 : Int32))])) rfl (by rw [hml]; rfl) (argsL := [(.int (4 : Int32))]) (rest := []) (lenOf pd_0 rfl) rfl (by show 2 * 0 + _ ≤ _; exact Nat.le_of_eq rfl) (hb hby at_6) (fun _ _ => ⟨rfl, e0, (by decide : 0 + 0 ≤ _), (by decide : 0 + 0 ≤ _)⟩)
  dsimp only [Pt.U, Pt.locs, Pt.cells, Pt.slots] at X1 l1 y1 z1 st1 hQ1
  subst l1 y1 z1
  obtain ⟨rfl, N1q, e1⟩ := hQ1
  have N1 := Fr.app N0 N1q
  obtain ⟨cq2, kq2, q2a, q2b, q2c⟩ := isOf hZ e1 E_w_MessageType_LOCATE_REPLY
  obtain ⟨_, _, ⟨T2, L2, k2, n2⟩, -, X2, ⟨Lc2, hQ2, l2, y2, z2⟩, st2⟩ := X1.virtualBack hx (y := (⟨"org/driftcairn/giop/MessageType", "mayBeFragmented", "()Z"⟩ : MethodName)) (z := (⟨"org/driftcairn/giop/MessageType", "mayBeFragmented", "()Z"⟩ : MethodName)) hown (mvT hZ (hw _ (List.mem_of_getElem? (i := 7) rfl))) (mvT hZ (hw _ (List.mem_of_getElem? (i := 8) rfl))) (notFace_of_selects (args := #[]) (mvT hZ (hw _ (List.mem_of_getElem? (i := 10) rfl)))) (mvT hZ (hw _ (List.mem_of_getElem? (i := 10) rfl))) (mvT hZ (hw _ (List.mem_of_getElem? (i := 9) rfl))) (by decide) (backOf (W := 0) (rm2_9 l Z a0 hw [] w_MessageType_REQUEST w_MessageType_LOCATE_REQUEST w_MessageType_REPLY w_MessageType_LOCATE_REPLY h0 n0 Z0 S_MessageType_REQUEST ne_w_MessageType_LOCATE_REPLY_w_MessageType_REQUEST S_MessageType_REPLY ne_w_MessageType_LOCATE_REPLY_w_MessageType_REPLY S_MessageType_LOCATE_REQUEST ne_w_MessageType_LOCATE_REPLY_w_MessageType_LOCATE_REQUEST S_MessageType_LOCATE_REPLY) hZ (hw _ (List.mem_of_getElem? (i := 11) rfl)) (hw _ (List.mem_of_getElem? (i := 5) rfl)) (by decide) (by decide)) q2a q2c (g := (mkF m 33 #[iv p0, iv (4 : Int32), rv w_MessageType_LOCATE_REPLY, iv (1 : Int32)] [(.ref w_MessageType_LOCATE_REPLY)])) rfl (by rw [hml]; rfl) (Steps.refl _) (argsL := []) (rest := []) (lenOf pd_1 rfl) rfl (by show 2 * 0 + _ ≤ _; exact Nat.le_of_eq rfl) (hb hby at_33) (fun _ _ => ⟨rfl, e1, (by decide : 0 + 0 ≤ _), (by decide : 0 + 0 ≤ _)⟩)
  dsimp only [Pt.U, Pt.locs, Pt.cells, Pt.slots] at X2 l2 y2 z2 st2 hQ2
  subst l2 y2 z2
  obtain ⟨rfl, N2q, e2⟩ := hQ2
  have N2 := Fr.app N1 N2q
  obtain ⟨fs, hr, hrun, hended, hW, hsame⟩ := X2.leave (v := (some (.int (1 : Int32)))) (fun h => by rw [Bd.returns] at h; cases h)
  refine ⟨_, _, pre0 _ ?_, hrun, hended, _, _, rfl, ?_, ⟨_, rfl⟩, hW, hsame.mono (by decide) (by decide)⟩
  · show Steps p.tables e below (s₁.setTop (mkF m 0 #[iv p0, .unset, .unset, .unset] [])) _
    refine XS.iloadN X0.here hx rfl (hb hby at_0) rfl ?_
    show Steps p.tables e below (s₁.setTop (mkF m 1 #[iv p0, .unset, .unset, .unset] [(.int p0)])) _
    refine XS.bipush X0.here hx rfl (hb hby at_1) ?_
    show Steps p.tables e below (s₁.setTop (mkF m 3 #[iv p0, .unset, .unset, .unset] [(.int (7 : Int32)), (.int p0)])) _
    refine XS.iand X0.here hx rfl (hb hby at_3) rfl ?_
    show Steps p.tables e below (s₁.setTop (mkF m 4 #[iv p0, .unset, .unset, .unset] [(.int (p0 &&& (7 : Int32)))])) _
    rewrite [hk0]
    show Steps p.tables e below (s₁.setTop (mkF m 4 #[iv p0, .unset, .unset, .unset] [(.int (4 : Int32))])) _
    refine XS.istoreN X0.here hx rfl (hb hby at_4) rfl (l' := #[iv p0, iv (4 : Int32), .unset, .unset]) rfl ?_
    show Steps p.tables e below (s₁.setTop (mkF m 5 #[iv p0, iv (4 : Int32), .unset, .unset] [])) _
    refine XS.iloadN X0.here hx rfl (hb hby at_5) rfl ?_
    show Steps p.tables e below (s₁.setTop (mkF m 6 #[iv p0, iv (4 : Int32), .unset, .unset] [(.int (4 : Int32))])) _
    refine st1 _ ?_
    show Steps p.tables e below (T1.setTop (mkF m 9 #[iv p0, iv (4 : Int32), .unset, .unset] [(.ref w_MessageType_LOCATE_REPLY)])) _
    refine XS.astoreN X1.here hx rfl (hb hby at_9) rfl rfl (l' := #[iv p0, iv (4 : Int32), rv w_MessageType_LOCATE_REPLY, .unset]) rfl ?_
    show Steps p.tables e below (T1.setTop (mkF m 10 #[iv p0, iv (4 : Int32), rv w_MessageType_LOCATE_REPLY, .unset] [])) _
    refine XS.iloadN X1.here hx rfl (hb hby at_10) rfl ?_
    show Steps p.tables e below (T1.setTop (mkF m 11 #[iv p0, iv (4 : Int32), rv w_MessageType_LOCATE_REPLY, .unset] [(.int (4 : Int32))])) _
    refine XS.iconst X1.here hx rfl (hb hby at_11) ?_
    show Steps p.tables e below (T1.setTop (mkF m 12 #[iv p0, iv (4 : Int32), rv w_MessageType_LOCATE_REPLY, .unset] [(.int (4 : Int32)), (.int (4 : Int32))])) _
    refine XS.icmpNo X1.here hx rfl (hb hby at_12) rfl (flt (by decide +kernel : ¬ ((4 : Int32) < (4 : Int32)))).2.2.1 ?_
    show Steps p.tables e below (T1.setTop (mkF m 15 #[iv p0, iv (4 : Int32), rv w_MessageType_LOCATE_REPLY, .unset] [])) _
    refine XS.iloadN X1.here hx rfl (hb hby at_15) rfl ?_
    show Steps p.tables e below (T1.setTop (mkF m 16 #[iv p0, iv (4 : Int32), rv w_MessageType_LOCATE_REPLY, .unset] [(.int (4 : Int32))])) _
    refine XS.iconst X1.here hx rfl (hb hby at_16) ?_
    show Steps p.tables e below (T1.setTop (mkF m 17 #[iv p0, iv (4 : Int32), rv w_MessageType_LOCATE_REPLY, .unset] [(.int (2 : Int32)), (.int (4 : Int32))])) _
    refine XS.icmpYes X1.here hx rfl (pc0 := 17) (pc' := 26) rfl (hb hby at_17) rfl (feq (by decide +kernel : ¬ ((4 : Int32) = (2 : Int32)))).2 (by decide) (by decide) ?_
    show Steps p.tables e below (T1.setTop (mkF m 26 #[iv p0, iv (4 : Int32), rv w_MessageType_LOCATE_REPLY, .unset] [])) _
    refine XS.iconst X1.here hx rfl (hb hby at_26) ?_
    show Steps p.tables e below (T1.setTop (mkF m 27 #[iv p0, iv (4 : Int32), rv w_MessageType_LOCATE_REPLY, .unset] [(.int (1 : Int32))])) _
    refine XS.goto X1.here hx rfl (pc0 := 27) (pc' := 31) rfl (hb hby at_27) (by decide) (by decide) ?_
    show Steps p.tables e below (T1.setTop (mkF m 31 #[iv p0, iv (4 : Int32), rv w_MessageType_LOCATE_REPLY, .unset] [(.int (1 : Int32))])) _
    refine XS.istoreN X1.here hx rfl (hb hby at_31) rfl (l' := #[iv p0, iv (4 : Int32), rv w_MessageType_LOCATE_REPLY, iv (1 : Int32)]) rfl ?_
    show Steps p.tables e below (T1.setTop (mkF m 32 #[iv p0, iv (4 : Int32), rv w_MessageType_LOCATE_REPLY, iv (1 : Int32)] [])) _
    refine XS.aloadN X1.here hx rfl (hb hby at_32) rfl rfl ?_
    show Steps p.tables e below (T1.setTop (mkF m 33 #[iv p0, iv (4 : Int32), rv w_MessageType_LOCATE_REPLY, iv (1 : Int32)] [(.ref w_MessageType_LOCATE_REPLY)])) _
    refine st2.trans ?_
    show Steps p.tables e below (T2.setTop (mkF m 36 #[iv p0, iv (4 : Int32), rv w_MessageType_LOCATE_REPLY, iv (1 : Int32)] [(.int (1 : Int32))])) _
    refine XS.iloadN X2.here hx rfl (hb hby at_36) rfl ?_
    show Steps p.tables e below (T2.setTop (mkF m 37 #[iv p0, iv (4 : Int32), rv w_MessageType_LOCATE_REPLY, iv (1 : Int32)] [(.int (1 : Int32)), (.int (1 : Int32))])) _
    refine XS.icmpNo X2.here hx rfl (hb hby at_37) rfl (teq (by decide +kernel : (1 : Int32) = (1 : Int32))).2 ?_
    show Steps p.tables e below (T2.setTop (mkF m 40 #[iv p0, iv (4 : Int32), rv w_MessageType_LOCATE_REPLY, iv (1 : Int32)] [])) _
    refine XS.iconst X2.here hx rfl (hb hby at_40) ?_
    show Steps p.tables e below (T2.setTop (mkF m 41 #[iv p0, iv (4 : Int32), rv w_MessageType_LOCATE_REPLY, iv (1 : Int32)] [(.int (1 : Int32))])) _
    refine XS.goto X2.here hx rfl (pc0 := 41) (pc' := 45) rfl (hb hby at_41) (by decide) (by decide) ?_
    show Steps p.tables e below (T2.setTop (mkF m 45 #[iv p0, iv (4 : Int32), rv w_MessageType_LOCATE_REPLY, iv (1 : Int32)] [(.int (1 : Int32))])) _
    exact retN X2 hx (t := .boolean) Bd.returns (by simp) (hb hby at_45) hr
  · exact ⟨rfl, N2⟩
set_option maxRecDepth 65536 in
set_option maxHeartbeats 40000000 in
theorem rm1_10 (l : Launch) (Z : State) (a0 : Array Value) (hw : ∀ d ∈ tables_1, d.before a0 Z = true) (ws : List Jvm.Cond) (w_MessageType_CLOSE_CONNECTION : Addr) (h0 : Heap) (n0 : Nat) (Z0 : n0 ≤ h0.size) (S_MessageType_CLOSE_CONNECTION : Sta Z h0 "org/driftcairn/giop/MessageType" "CLOSE_CONNECTION" "Lorg/driftcairn/giop/MessageType;" (.ref w_MessageType_CLOSE_CONNECTION)) :
    MetFree l (⟨"org/driftcairn/giop/MessageTypeMayBeFragmentedPinLaw", "pick", "(I)Lorg/driftcairn/giop/MessageType;"⟩ : MethodName) (head1 (Jvm.Cond.code (⟨"org/driftcairn/giop/MessageTypeMayBeFragmentedPinLaw", "pick", "(I)Lorg/driftcairn/giop/MessageType;"⟩ : MethodName) method_2_code 1 (some (.object "org/driftcairn/giop/MessageType")) :: ws) ({ frames := 0, cells := 0, slots := 0, locals := 0 } : Room)) (fun a U => a = #[(.int (5 : Int32))] ∧ Z.Warmed39 U.vm ∧ U.heap = h0) (fun _ _ _ _ _ => True) (fun _ U o U' => ∃ v L, o = .returned v ∧ own_QP (some (.ref w_MessageType_CLOSE_CONNECTION)) h0 n0 v U'.heap L ∧ FrameEnd U o U' L ({ frames := 0, cells := 0, slots := 0, locals := 0 } : Room).cells ({ frames := 0, cells := 0, slots := 0, locals := 0 } : Room).slots) := by
  refine MetFree.of_bodySF (plainFor_of_name pn_0) hisR ?_
  intro p e s m args below meth c s₁ Bd hml0 hP hK
  obtain ⟨rfl, hZ, hh⟩ := hP
  have hx := Bd.exec
  have hby := Bd.bytes
  have hml : c.maxLocals = 1 := hml0
  have hown : s.vm.findClass "org/driftcairn/giop/MessageTypeMayBeFragmentedPinLaw" = some m.cls := findClass_of_methodNamed Bd.named
  have hnm := (name_of_methodNamed Bd.named Bd.method).1
  have X0 : Stand p l e ({ frames := 0, cells := 0, slots := 0, locals := 0 } : Room) s m #[(.int (5 : Int32))] below meth c s₁ [] 0 0 := Stand.of_body Bd
  have e0 : s₁.heap = h0 := by rw [← hh, Bd.state]; rfl
  have N0 := Fr.nil n0
  have pre0 : ∀ t, Steps p.tables e below (s₁.setTop (mkF m 0 #[iv (5 : Int32)] [])) t → Steps p.tables e below (s₁.setTop (entryFrame m #[(.int (5 : Int32))] 1)) t := fun t k => castTop (ef_1_I m (5 : Int32)) k
  obtain ⟨T1, X1, e1, st1⟩ := getS2 X0 hx hZ hown (host := "") (Or.inl (hw _ (List.mem_of_getElem? (i := 29) rfl))) Via.refl e0 S_MessageType_CLOSE_CONNECTION (g := (mkF m 49 #[iv (5 : Int32)] [])) rfl (hb hby d1_49)
  obtain ⟨fs, hr, hrun, hended, hW, hsame⟩ := X1.leave (v := (some (.ref w_MessageType_CLOSE_CONNECTION))) (fun h => by rw [Bd.returns] at h; cases h)
  refine ⟨_, _, pre0 _ ?_, hrun, hended, _, _, rfl, ?_, ⟨_, rfl⟩, hW, hsame.mono (by decide) (by decide)⟩
  · show Steps p.tables e below (s₁.setTop (mkF m 0 #[iv (5 : Int32)] [])) _
    refine XS.iloadN X0.here hx rfl (hb hby d1_0) rfl ?_
    show Steps p.tables e below (s₁.setTop (mkF m 1 #[iv (5 : Int32)] [(.int (5 : Int32))])) _
    refine XS.ifYes X0.here hx rfl (pc0 := 1) (pc' := 8) rfl (hb hby d1_1) rfl ((if0 _ _).trans (feq (by decide +kernel : ¬ ((5 : Int32) = (0 : Int32)))).2) (by decide) (by decide) ?_
    show Steps p.tables e below (s₁.setTop (mkF m 8 #[iv (5 : Int32)] [])) _
    refine XS.iloadN X0.here hx rfl (hb hby d1_8) rfl ?_
    show Steps p.tables e below (s₁.setTop (mkF m 9 #[iv (5 : Int32)] [(.int (5 : Int32))])) _
    refine XS.iconst X0.here hx rfl (hb hby d1_9) ?_
    show Steps p.tables e below (s₁.setTop (mkF m 10 #[iv (5 : Int32)] [(.int (1 : Int32)), (.int (5 : Int32))])) _
    refine XS.icmpYes X0.here hx rfl (pc0 := 10) (pc' := 17) rfl (hb hby d1_10) rfl (feq (by decide +kernel : ¬ ((5 : Int32) = (1 : Int32)))).2 (by decide) (by decide) ?_
    show Steps p.tables e below (s₁.setTop (mkF m 17 #[iv (5 : Int32)] [])) _
    refine XS.iloadN X0.here hx rfl (hb hby d1_17) rfl ?_
    show Steps p.tables e below (s₁.setTop (mkF m 18 #[iv (5 : Int32)] [(.int (5 : Int32))])) _
    refine XS.iconst X0.here hx rfl (hb hby d1_18) ?_
    show Steps p.tables e below (s₁.setTop (mkF m 19 #[iv (5 : Int32)] [(.int (2 : Int32)), (.int (5 : Int32))])) _
    refine XS.icmpYes X0.here hx rfl (pc0 := 19) (pc' := 26) rfl (hb hby d1_19) rfl (feq (by decide +kernel : ¬ ((5 : Int32) = (2 : Int32)))).2 (by decide) (by decide) ?_
    show Steps p.tables e below (s₁.setTop (mkF m 26 #[iv (5 : Int32)] [])) _
    refine XS.iloadN X0.here hx rfl (hb hby d1_26) rfl ?_
    show Steps p.tables e below (s₁.setTop (mkF m 27 #[iv (5 : Int32)] [(.int (5 : Int32))])) _
    refine XS.iconst X0.here hx rfl (hb hby d1_27) ?_
    show Steps p.tables e below (s₁.setTop (mkF m 28 #[iv (5 : Int32)] [(.int (3 : Int32)), (.int (5 : Int32))])) _
    refine XS.icmpYes X0.here hx rfl (pc0 := 28) (pc' := 35) rfl (hb hby d1_28) rfl (feq (by decide +kernel : ¬ ((5 : Int32) = (3 : Int32)))).2 (by decide) (by decide) ?_
    show Steps p.tables e below (s₁.setTop (mkF m 35 #[iv (5 : Int32)] [])) _
    refine XS.iloadN X0.here hx rfl (hb hby d1_35) rfl ?_
    show Steps p.tables e below (s₁.setTop (mkF m 36 #[iv (5 : Int32)] [(.int (5 : Int32))])) _
    refine XS.iconst X0.here hx rfl (hb hby d1_36) ?_
    show Steps p.tables e below (s₁.setTop (mkF m 37 #[iv (5 : Int32)] [(.int (4 : Int32)), (.int (5 : Int32))])) _
    refine XS.icmpYes X0.here hx rfl (pc0 := 37) (pc' := 44) rfl (hb hby d1_37) rfl (feq (by decide +kernel : ¬ ((5 : Int32) = (4 : Int32)))).2 (by decide) (by decide) ?_
    show Steps p.tables e below (s₁.setTop (mkF m 44 #[iv (5 : Int32)] [])) _
    refine XS.iloadN X0.here hx rfl (hb hby d1_44) rfl ?_
    show Steps p.tables e below (s₁.setTop (mkF m 45 #[iv (5 : Int32)] [(.int (5 : Int32))])) _
    refine XS.iconst X0.here hx rfl (hb hby d1_45) ?_
    show Steps p.tables e below (s₁.setTop (mkF m 46 #[iv (5 : Int32)] [(.int (5 : Int32)), (.int (5 : Int32))])) _
    refine XS.icmpNo X0.here hx rfl (hb hby d1_46) rfl (teq (by decide +kernel : (5 : Int32) = (5 : Int32))).2 ?_
    show Steps p.tables e below (s₁.setTop (mkF m 49 #[iv (5 : Int32)] [])) _
    refine st1 _ ?_
    show Steps p.tables e below (T1.setTop (mkF m 52 #[iv (5 : Int32)] [(.ref w_MessageType_CLOSE_CONNECTION)])) _
    exact own_retA X1 hx Bd.returns rfl rfl (hb hby d1_52) hr
  · exact ⟨rfl, N0, e1⟩
set_option maxRecDepth 65536 in
set_option maxHeartbeats 40000000 in
theorem rm2_11 (l : Launch) (Z : State) (a0 : Array Value) (hw : ∀ d ∈ tables_1, d.before a0 Z = true) (ws : List Jvm.Cond) (w_MessageType_REQUEST : Addr) (w_MessageType_LOCATE_REQUEST : Addr) (w_MessageType_REPLY : Addr) (w_MessageType_LOCATE_REPLY : Addr) (w_MessageType_FRAGMENT : Addr) (w_MessageType_CLOSE_CONNECTION : Addr) (h0 : Heap) (n0 : Nat) (Z0 : n0 ≤ h0.size) (S_MessageType_REQUEST : Sta Z h0 "org/driftcairn/giop/MessageType" "REQUEST" "Lorg/driftcairn/giop/MessageType;" (.ref w_MessageType_REQUEST)) (ne_w_MessageType_CLOSE_CONNECTION_w_MessageType_REQUEST : ¬ (w_MessageType_CLOSE_CONNECTION = w_MessageType_REQUEST)) (S_MessageType_REPLY : Sta Z h0 "org/driftcairn/giop/MessageType" "REPLY" "Lorg/driftcairn/giop/MessageType;" (.ref w_MessageType_REPLY)) (ne_w_MessageType_CLOSE_CONNECTION_w_MessageType_REPLY : ¬ (w_MessageType_CLOSE_CONNECTION = w_MessageType_REPLY)) (S_MessageType_LOCATE_REQUEST : Sta Z h0 "org/driftcairn/giop/MessageType" "LOCATE_REQUEST" "Lorg/driftcairn/giop/MessageType;" (.ref w_MessageType_LOCATE_REQUEST)) (ne_w_MessageType_CLOSE_CONNECTION_w_MessageType_LOCATE_REQUEST : ¬ (w_MessageType_CLOSE_CONNECTION = w_MessageType_LOCATE_REQUEST)) (S_MessageType_LOCATE_REPLY : Sta Z h0 "org/driftcairn/giop/MessageType" "LOCATE_REPLY" "Lorg/driftcairn/giop/MessageType;" (.ref w_MessageType_LOCATE_REPLY)) (ne_w_MessageType_CLOSE_CONNECTION_w_MessageType_LOCATE_REPLY : ¬ (w_MessageType_CLOSE_CONNECTION = w_MessageType_LOCATE_REPLY)) (S_MessageType_FRAGMENT : Sta Z h0 "org/driftcairn/giop/MessageType" "FRAGMENT" "Lorg/driftcairn/giop/MessageType;" (.ref w_MessageType_FRAGMENT)) (ne_w_MessageType_CLOSE_CONNECTION_w_MessageType_FRAGMENT : ¬ (w_MessageType_CLOSE_CONNECTION = w_MessageType_FRAGMENT)) :
    MetFree l (⟨"org/driftcairn/giop/MessageType", "mayBeFragmented", "()Z"⟩ : MethodName) (head1 (Jvm.Cond.code (⟨"org/driftcairn/giop/MessageType", "mayBeFragmented", "()Z"⟩ : MethodName) prog_70_method_5_code 1 (some .boolean) :: ws) ({ frames := 0, cells := 0, slots := 0, locals := 0 } : Room)) (fun a U => a = #[(.ref w_MessageType_CLOSE_CONNECTION)] ∧ Z.Warmed39 U.vm ∧ U.heap = h0) (fun _ _ _ _ _ => True) (fun _ U o U' => ∃ v L, o = .returned v ∧ own_QP (some (.int (0 : Int32))) h0 n0 v U'.heap L ∧ FrameEnd U o U' L ({ frames := 0, cells := 0, slots := 0, locals := 0 } : Room).cells ({ frames := 0, cells := 0, slots := 0, locals := 0 } : Room).slots) := by
  refine MetFree.of_bodySF (plainFor_of_name pn_1) hisR ?_
  intro p e s m args below meth c s₁ Bd hml0 hP hK
  obtain ⟨rfl, hZ, hh⟩ := hP
  have hx := Bd.exec
  have hby := Bd.bytes
  have hml : c.maxLocals = 1 := hml0
  have hown : s.vm.findClass "org/driftcairn/giop/MessageType" = some m.cls := findClass_of_methodNamed Bd.named
  have hnm := (name_of_methodNamed Bd.named Bd.method).1
  have X0 : Stand p l e ({ frames := 0, cells := 0, slots := 0, locals := 0 } : Room) s m #[(.ref w_MessageType_CLOSE_CONNECTION)] below meth c s₁ [] 0 0 := Stand.of_body Bd
  have e0 : s₁.heap = h0 := by rw [← hh, Bd.state]; rfl
  have N0 := Fr.nil n0
  have pre0 : ∀ t, Steps p.tables e below (s₁.setTop (mkF m 0 #[rv w_MessageType_CLOSE_CONNECTION] [])) t → Steps p.tables e below (s₁.setTop (entryFrame m #[(.ref w_MessageType_CLOSE_CONNECTION)] 1)) t := fun t k => castTop (ef_2_R m w_MessageType_CLOSE_CONNECTION) k
  obtain ⟨T1, X1, e1, st1⟩ := getS2 X0 hx hZ hown (host := "") (Or.inl (hw _ (List.mem_of_getElem? (i := 12) rfl))) Via.refl e0 S_MessageType_REQUEST (g := (mkF m 1 #[rv w_MessageType_CLOSE_CONNECTION] [(.ref w_MessageType_CLOSE_CONNECTION)])) rfl (hb hby d2_1)
  obtain ⟨T2, X2, e2, st2⟩ := getS2 X1 hx hZ hown (host := "") (Or.inl (hw _ (List.mem_of_getElem? (i := 15) rfl))) Via.refl e1 S_MessageType_REPLY (g := (mkF m 8 #[rv w_MessageType_CLOSE_CONNECTION] [(.ref w_MessageType_CLOSE_CONNECTION)])) rfl (hb hby d2_8)
  obtain ⟨T3, X3, e3, st3⟩ := getS2 X2 hx hZ hown (host := "") (Or.inl (hw _ (List.mem_of_getElem? (i := 17) rfl))) Via.refl e2 S_MessageType_LOCATE_REQUEST (g := (mkF m 15 #[rv w_MessageType_CLOSE_CONNECTION] [(.ref w_MessageType_CLOSE_CONNECTION)])) rfl (hb hby d2_15)
  obtain ⟨T4, X4, e4, st4⟩ := getS2 X3 hx hZ hown (host := "") (Or.inl (hw _ (List.mem_of_getElem? (i := 20) rfl))) Via.refl e3 S_MessageType_LOCATE_REPLY (g := (mkF m 22 #[rv w_MessageType_CLOSE_CONNECTION] [(.ref w_MessageType_CLOSE_CONNECTION)])) rfl (hb hby d2_22)
  obtain ⟨T5, X5, e5, st5⟩ := getS2 X4 hx hZ hown (host := "") (Or.inl (hw _ (List.mem_of_getElem? (i := 22) rfl))) Via.refl e4 S_MessageType_FRAGMENT (g := (mkF m 29 #[rv w_MessageType_CLOSE_CONNECTION] [(.ref w_MessageType_CLOSE_CONNECTION)])) rfl (hb hby d2_29)
  obtain ⟨fs, hr, hrun, hended, hW, hsame⟩ := X5.leave (v := (some (.int (0 : Int32)))) (fun h => by rw [Bd.returns] at h; cases h)
  refine ⟨_, _, pre0 _ ?_, hrun, hended, _, _, rfl, ?_, ⟨_, rfl⟩, hW, hsame.mono (by decide) (by decide)⟩
  · show Steps p.tables e below (s₁.setTop (mkF m 0 #[rv w_MessageType_CLOSE_CONNECTION] [])) _
    refine XS.aloadN X0.here hx rfl (hb hby d2_0) rfl rfl ?_
    show Steps p.tables e below (s₁.setTop (mkF m 1 #[rv w_MessageType_CLOSE_CONNECTION] [(.ref w_MessageType_CLOSE_CONNECTION)])) _
    refine st1 _ ?_
    show Steps p.tables e below (T1.setTop (mkF m 4 #[rv w_MessageType_CLOSE_CONNECTION] [(.ref w_MessageType_REQUEST), (.ref w_MessageType_CLOSE_CONNECTION)])) _
    refine Jvm.RoadKit.acmp (g := (mkF m 4 #[rv w_MessageType_CLOSE_CONNECTION] [(.ref w_MessageType_REQUEST), (.ref w_MessageType_CLOSE_CONNECTION)])) X1 hx rfl rfl rfl (pc0 := 4) (pc' := 7) (same := false) rfl (hb hby d2_4) rfl (decide_eq_false fun q => ne_w_MessageType_CLOSE_CONNECTION_w_MessageType_REQUEST (Value.ref.inj q)) (by decide) (by decide) ?_
    show Steps p.tables e below (T1.setTop (mkF m 7 #[rv w_MessageType_CLOSE_CONNECTION] [])) _
    refine XS.aloadN X1.here hx rfl (hb hby d2_7) rfl rfl ?_
    show Steps p.tables e below (T1.setTop (mkF m 8 #[rv w_MessageType_CLOSE_CONNECTION] [(.ref w_MessageType_CLOSE_CONNECTION)])) _
    refine st2 _ ?_
    show Steps p.tables e below (T2.setTop (mkF m 11 #[rv w_MessageType_CLOSE_CONNECTION] [(.ref w_MessageType_REPLY), (.ref w_MessageType_CLOSE_CONNECTION)])) _
    refine Jvm.RoadKit.acmp (g := (mkF m 11 #[rv w_MessageType_CLOSE_CONNECTION] [(.ref w_MessageType_REPLY), (.ref w_MessageType_CLOSE_CONNECTION)])) X2 hx rfl rfl rfl (pc0 := 11) (pc' := 14) (same := false) rfl (hb hby d2_11) rfl (decide_eq_false fun q => ne_w_MessageType_CLOSE_CONNECTION_w_MessageType_REPLY (Value.ref.inj q)) (by decide) (by decide) ?_
    show Steps p.tables e below (T2.setTop (mkF m 14 #[rv w_MessageType_CLOSE_CONNECTION] [])) _
    refine XS.aloadN X2.here hx rfl (hb hby d2_14) rfl rfl ?_
    show Steps p.tables e below (T2.setTop (mkF m 15 #[rv w_MessageType_CLOSE_CONNECTION] [(.ref w_MessageType_CLOSE_CONNECTION)])) _
    refine st3 _ ?_
    show Steps p.tables e below (T3.setTop (mkF m 18 #[rv w_MessageType_CLOSE_CONNECTION] [(.ref w_MessageType_LOCATE_REQUEST), (.ref w_MessageType_CLOSE_CONNECTION)])) _
    refine Jvm.RoadKit.acmp (g := (mkF m 18 #[rv w_MessageType_CLOSE_CONNECTION] [(.ref w_MessageType_LOCATE_REQUEST), (.ref w_MessageType_CLOSE_CONNECTION)])) X3 hx rfl rfl rfl (pc0 := 18) (pc' := 21) (same := false) rfl (hb hby d2_18) rfl (decide_eq_false fun q => ne_w_MessageType_CLOSE_CONNECTION_w_MessageType_LOCATE_REQUEST (Value.ref.inj q)) (by decide) (by decide) ?_
    show Steps p.tables e below (T3.setTop (mkF m 21 #[rv w_MessageType_CLOSE_CONNECTION] [])) _
    refine XS.aloadN X3.here hx rfl (hb hby d2_21) rfl rfl ?_
    show Steps p.tables e below (T3.setTop (mkF m 22 #[rv w_MessageType_CLOSE_CONNECTION] [(.ref w_MessageType_CLOSE_CONNECTION)])) _
    refine st4 _ ?_
    show Steps p.tables e below (T4.setTop (mkF m 25 #[rv w_MessageType_CLOSE_CONNECTION] [(.ref w_MessageType_LOCATE_REPLY), (.ref w_MessageType_CLOSE_CONNECTION)])) _
    refine Jvm.RoadKit.acmp (g := (mkF m 25 #[rv w_MessageType_CLOSE_CONNECTION] [(.ref w_MessageType_LOCATE_REPLY), (.ref w_MessageType_CLOSE_CONNECTION)])) X4 hx rfl rfl rfl (pc0 := 25) (pc' := 28) (same := false) rfl (hb hby d2_25) rfl (decide_eq_false fun q => ne_w_MessageType_CLOSE_CONNECTION_w_MessageType_LOCATE_REPLY (Value.ref.inj q)) (by decide) (by decide) ?_
    show Steps p.tables e below (T4.setTop (mkF m 28 #[rv w_MessageType_CLOSE_CONNECTION] [])) _
    refine XS.aloadN X4.here hx rfl (hb hby d2_28) rfl rfl ?_
    show Steps p.tables e below (T4.setTop (mkF m 29 #[rv w_MessageType_CLOSE_CONNECTION] [(.ref w_MessageType_CLOSE_CONNECTION)])) _
    refine st5 _ ?_
    show Steps p.tables e below (T5.setTop (mkF m 32 #[rv w_MessageType_CLOSE_CONNECTION] [(.ref w_MessageType_FRAGMENT), (.ref w_MessageType_CLOSE_CONNECTION)])) _
    refine Jvm.RoadKit.acmp (g := (mkF m 32 #[rv w_MessageType_CLOSE_CONNECTION] [(.ref w_MessageType_FRAGMENT), (.ref w_MessageType_CLOSE_CONNECTION)])) X5 hx rfl rfl rfl (pc0 := 32) (pc' := 39) (same := false) rfl (hb hby d2_32) rfl (decide_eq_false fun q => ne_w_MessageType_CLOSE_CONNECTION_w_MessageType_FRAGMENT (Value.ref.inj q)) (by decide) (by decide) ?_
    show Steps p.tables e below (T5.setTop (mkF m 39 #[rv w_MessageType_CLOSE_CONNECTION] [])) _
    refine XS.iconst X5.here hx rfl (hb hby d2_39) ?_
    show Steps p.tables e below (T5.setTop (mkF m 40 #[rv w_MessageType_CLOSE_CONNECTION] [(.int (0 : Int32))])) _
    exact retN X5 hx (t := .boolean) Bd.returns (by simp) (hb hby d2_40) hr
  · exact ⟨rfl, N0, e5⟩
set_option maxRecDepth 65536 in
set_option maxHeartbeats 40000000 in
theorem rm0_5 (l : Launch) (Z : State) (a0 : Array Value) (hw : ∀ d ∈ tables_1, d.before a0 Z = true) (ws : List Jvm.Cond) (p0 : Int32) (w_MessageType_REQUEST : Addr) (w_MessageType_LOCATE_REQUEST : Addr) (w_MessageType_REPLY : Addr) (w_MessageType_LOCATE_REPLY : Addr) (w_MessageType_FRAGMENT : Addr) (w_MessageType_CLOSE_CONNECTION : Addr) (h0 : Heap) (n0 : Nat) (Z0 : n0 ≤ h0.size) (hk0 : (p0 &&& (7 : Int32)) = (5 : Int32)) (S_MessageType_CLOSE_CONNECTION : Sta Z h0 "org/driftcairn/giop/MessageType" "CLOSE_CONNECTION" "Lorg/driftcairn/giop/MessageType;" (.ref w_MessageType_CLOSE_CONNECTION)) (S_MessageType_REQUEST : Sta Z h0 "org/driftcairn/giop/MessageType" "REQUEST" "Lorg/driftcairn/giop/MessageType;" (.ref w_MessageType_REQUEST)) (ne_w_MessageType_CLOSE_CONNECTION_w_MessageType_REQUEST : ¬ (w_MessageType_CLOSE_CONNECTION = w_MessageType_REQUEST)) (S_MessageType_REPLY : Sta Z h0 "org/driftcairn/giop/MessageType" "REPLY" "Lorg/driftcairn/giop/MessageType;" (.ref w_MessageType_REPLY)) (ne_w_MessageType_CLOSE_CONNECTION_w_MessageType_REPLY : ¬ (w_MessageType_CLOSE_CONNECTION = w_MessageType_REPLY)) (S_MessageType_LOCATE_REQUEST : Sta Z h0 "org/driftcairn/giop/MessageType" "LOCATE_REQUEST" "Lorg/driftcairn/giop/MessageType;" (.ref w_MessageType_LOCATE_REQUEST)) (ne_w_MessageType_CLOSE_CONNECTION_w_MessageType_LOCATE_REQUEST : ¬ (w_MessageType_CLOSE_CONNECTION = w_MessageType_LOCATE_REQUEST)) (S_MessageType_LOCATE_REPLY : Sta Z h0 "org/driftcairn/giop/MessageType" "LOCATE_REPLY" "Lorg/driftcairn/giop/MessageType;" (.ref w_MessageType_LOCATE_REPLY)) (ne_w_MessageType_CLOSE_CONNECTION_w_MessageType_LOCATE_REPLY : ¬ (w_MessageType_CLOSE_CONNECTION = w_MessageType_LOCATE_REPLY)) (S_MessageType_FRAGMENT : Sta Z h0 "org/driftcairn/giop/MessageType" "FRAGMENT" "Lorg/driftcairn/giop/MessageType;" (.ref w_MessageType_FRAGMENT)) (ne_w_MessageType_CLOSE_CONNECTION_w_MessageType_FRAGMENT : ¬ (w_MessageType_CLOSE_CONNECTION = w_MessageType_FRAGMENT)) (E_w_MessageType_CLOSE_CONNECTION : Exa Z h0 w_MessageType_CLOSE_CONNECTION "org/driftcairn/giop/MessageType") :
    MetFree l x (head1 (Jvm.Cond.code x code maxLocals ret :: ws) room_1) (fun a U => a = #[(.int p0)] ∧ Z.Warmed39 U.vm ∧ U.heap = h0) (fun _ _ _ _ _ => True) (fun _ U o U' => ∃ v L, o = .returned v ∧ own_QL n0 v U'.heap L ∧ FrameEnd U o U' L room_1.cells room_1.slots) := by
  refine MetFree.of_bodySF (plainFor_of_name pn_0) hisR ?_
  intro p e s m args below meth c s₁ Bd hml0 hP hK
  obtain ⟨rfl, hZ, hh⟩ := hP
  have hx := Bd.exec
  have hby := Bd.bytes
  have hml : c.maxLocals = 4 := hml0
  have hown : s.vm.findClass "org/driftcairn/giop/MessageTypeMayBeFragmentedPinLaw" = some m.cls := findClass_of_methodNamed Bd.named
  have hnm := (name_of_methodNamed Bd.named Bd.method).1
  have X0 : Stand p l e room_1 s m #[(.int p0)] below meth c s₁ [] 0 0 := Stand.of_body Bd
  have e0 : s₁.heap = h0 := by rw [← hh, Bd.state]; rfl
  have N0 := Fr.nil n0
  have pre0 : ∀ t, Steps p.tables e below (s₁.setTop (mkF m 0 #[iv p0, .unset, .unset, .unset] [])) t → Steps p.tables e below (s₁.setTop (entryFrame m #[(.int p0)] maxLocals)) t := fun t k => castTop (ef_0_I m p0) k
  obtain ⟨_, _, ⟨T1, L1, k1, n1⟩, -, X1, ⟨Lc1, hQ1, l1, y1, z1⟩, st1⟩ := Jvm.LawKit.callS X0 hx (y := (⟨"org/driftcairn/giop/MessageTypeMayBeFragmentedPinLaw", "pick", "(I)Lorg/driftcairn/giop/MessageType;"⟩ : MethodName)) hown (mvT hZ (hw _ (List.mem_of_getElem? (i := 0) rfl))) (mvT hZ (hw _ (List.mem_of_getElem? (i := 1) rfl))) (mvT hZ (hw _ (List.mem_of_getElem? (i := 2) rfl))) (mvT hZ (hw _ (List.mem_of_getElem? (i := 3) rfl))) (by decide) (backOf (W := 0) (rm1_10 l Z a0 hw [] w_MessageType_CLOSE_CONNECTION h0 n0 Z0 S_MessageType_CLOSE_CONNECTION) hZ (hw _ (List.mem_of_getElem? (i := 3) rfl)) (hw _ (List.mem_of_getElem? (i := 2) rfl)) (by decide) (by decide)) (g := (mkF m 6 #[iv p0, iv (5 : Int32), .unset, .unset] [(.int (5 : Int32))])) rfl (by rw [hml]; rfl) (argsL := [(.int (5 : Int32))]) (rest := []) (lenOf pd_0 rfl) rfl (by show 2 * 0 + _ ≤ _; exact Nat.le_of_eq rfl) (hb hby at_6) (fun _ _ => ⟨rfl, e0, (by decide : 0 + 0 ≤ _), (by decide : 0 + 0 ≤ _)⟩)
  dsimp only [Pt.U, Pt.locs, Pt.cells, Pt.slots] at X1 l1 y1 z1 st1 hQ1
  subst l1 y1 z1
  obtain ⟨rfl, N1q, e1⟩ := hQ1
  have N1 := Fr.app N0 N1q
  obtain ⟨cq2, kq2, q2a, q2b, q2c⟩ := isOf hZ e1 E_w_MessageType_CLOSE_CONNECTION
  obtain ⟨_, _, ⟨T2, L2, k2, n2⟩, -, X2, ⟨Lc2, hQ2, l2, y2, z2⟩, st2⟩ := X1.virtualBack hx (y := (⟨"org/driftcairn/giop/MessageType", "mayBeFragmented", "()Z"⟩ : MethodName)) (z := (⟨"org/driftcairn/giop/MessageType", "mayBeFragmented", "()Z"⟩ : MethodName)) hown (mvT hZ (hw _ (List.mem_of_getElem? (i := 7) rfl))) (mvT hZ (hw _ (List.mem_of_getElem? (i := 8) rfl))) (notFace_of_selects (args := #[]) (mvT hZ (hw _ (List.mem_of_getElem? (i := 10) rfl)))) (mvT hZ (hw _ (List.mem_of_getElem? (i := 10) rfl))) (mvT hZ (hw _ (List.mem_of_getElem? (i := 9) rfl))) (by decide) (backOf (W := 0) (rm2_11 l Z a0 hw [] w_MessageType_REQUEST w_MessageType_LOCATE_REQUEST w_MessageType_REPLY w_MessageType_LOCATE_REPLY w_MessageType_FRAGMENT w_MessageType_CLOSE_CONNECTION h0 n0 Z0 S_MessageType_REQUEST ne_w_MessageType_CLOSE_CONNECTION_w_MessageType_REQUEST S_MessageType_REPLY ne_w_MessageType_CLOSE_CONNECTION_w_MessageType_REPLY S_MessageType_LOCATE_REQUEST ne_w_MessageType_CLOSE_CONNECTION_w_MessageType_LOCATE_REQUEST S_MessageType_LOCATE_REPLY ne_w_MessageType_CLOSE_CONNECTION_w_MessageType_LOCATE_REPLY S_MessageType_FRAGMENT ne_w_MessageType_CLOSE_CONNECTION_w_MessageType_FRAGMENT) hZ (hw _ (List.mem_of_getElem? (i := 11) rfl)) (hw _ (List.mem_of_getElem? (i := 5) rfl)) (by decide) (by decide)) q2a q2c (g := (mkF m 33 #[iv p0, iv (5 : Int32), rv w_MessageType_CLOSE_CONNECTION, iv (0 : Int32)] [(.ref w_MessageType_CLOSE_CONNECTION)])) rfl (by rw [hml]; rfl) (Steps.refl _) (argsL := []) (rest := []) (lenOf pd_1 rfl) rfl (by show 2 * 0 + _ ≤ _; exact Nat.le_of_eq rfl) (hb hby at_33) (fun _ _ => ⟨rfl, e1, (by decide : 0 + 0 ≤ _), (by decide : 0 + 0 ≤ _)⟩)
  dsimp only [Pt.U, Pt.locs, Pt.cells, Pt.slots] at X2 l2 y2 z2 st2 hQ2
  subst l2 y2 z2
  obtain ⟨rfl, N2q, e2⟩ := hQ2
  have N2 := Fr.app N1 N2q
  obtain ⟨fs, hr, hrun, hended, hW, hsame⟩ := X2.leave (v := (some (.int (1 : Int32)))) (fun h => by rw [Bd.returns] at h; cases h)
  refine ⟨_, _, pre0 _ ?_, hrun, hended, _, _, rfl, ?_, ⟨_, rfl⟩, hW, hsame.mono (by decide) (by decide)⟩
  · show Steps p.tables e below (s₁.setTop (mkF m 0 #[iv p0, .unset, .unset, .unset] [])) _
    refine XS.iloadN X0.here hx rfl (hb hby at_0) rfl ?_
    show Steps p.tables e below (s₁.setTop (mkF m 1 #[iv p0, .unset, .unset, .unset] [(.int p0)])) _
    refine XS.bipush X0.here hx rfl (hb hby at_1) ?_
    show Steps p.tables e below (s₁.setTop (mkF m 3 #[iv p0, .unset, .unset, .unset] [(.int (7 : Int32)), (.int p0)])) _
    refine XS.iand X0.here hx rfl (hb hby at_3) rfl ?_
    show Steps p.tables e below (s₁.setTop (mkF m 4 #[iv p0, .unset, .unset, .unset] [(.int (p0 &&& (7 : Int32)))])) _
    rewrite [hk0]
    show Steps p.tables e below (s₁.setTop (mkF m 4 #[iv p0, .unset, .unset, .unset] [(.int (5 : Int32))])) _
    refine XS.istoreN X0.here hx rfl (hb hby at_4) rfl (l' := #[iv p0, iv (5 : Int32), .unset, .unset]) rfl ?_
    show Steps p.tables e below (s₁.setTop (mkF m 5 #[iv p0, iv (5 : Int32), .unset, .unset] [])) _
    refine XS.iloadN X0.here hx rfl (hb hby at_5) rfl ?_
    show Steps p.tables e below (s₁.setTop (mkF m 6 #[iv p0, iv (5 : Int32), .unset, .unset] [(.int (5 : Int32))])) _
    refine st1 _ ?_
    show Steps p.tables e below (T1.setTop (mkF m 9 #[iv p0, iv (5 : Int32), .unset, .unset] [(.ref w_MessageType_CLOSE_CONNECTION)])) _
    refine XS.astoreN X1.here hx rfl (hb hby at_9) rfl rfl (l' := #[iv p0, iv (5 : Int32), rv w_MessageType_CLOSE_CONNECTION, .unset]) rfl ?_
    show Steps p.tables e below (T1.setTop (mkF m 10 #[iv p0, iv (5 : Int32), rv w_MessageType_CLOSE_CONNECTION, .unset] [])) _
    refine XS.iloadN X1.here hx rfl (hb hby at_10) rfl ?_
    show Steps p.tables e below (T1.setTop (mkF m 11 #[iv p0, iv (5 : Int32), rv w_MessageType_CLOSE_CONNECTION, .unset] [(.int (5 : Int32))])) _
    refine XS.iconst X1.here hx rfl (hb hby at_11) ?_
    show Steps p.tables e below (T1.setTop (mkF m 12 #[iv p0, iv (5 : Int32), rv w_MessageType_CLOSE_CONNECTION, .unset] [(.int (4 : Int32)), (.int (5 : Int32))])) _
    refine XS.icmpYes X1.here hx rfl (pc0 := 12) (pc' := 20) rfl (hb hby at_12) rfl (tlt (by decide +kernel : (4 : Int32) < (5 : Int32))).2.2.1 (by decide) (by decide) ?_
    show Steps p.tables e below (T1.setTop (mkF m 20 #[iv p0, iv (5 : Int32), rv w_MessageType_CLOSE_CONNECTION, .unset] [])) _
    refine XS.iloadN X1.here hx rfl (hb hby at_20) rfl ?_
    show Steps p.tables e below (T1.setTop (mkF m 21 #[iv p0, iv (5 : Int32), rv w_MessageType_CLOSE_CONNECTION, .unset] [(.int (5 : Int32))])) _
    refine XS.bipush X1.here hx rfl (hb hby at_21) ?_
    show Steps p.tables e below (T1.setTop (mkF m 23 #[iv p0, iv (5 : Int32), rv w_MessageType_CLOSE_CONNECTION, .unset] [(.int (7 : Int32)), (.int (5 : Int32))])) _
    refine XS.icmpYes X1.here hx rfl (pc0 := 23) (pc' := 30) rfl (hb hby at_23) rfl (feq (by decide +kernel : ¬ ((5 : Int32) = (7 : Int32)))).2 (by decide) (by decide) ?_
    show Steps p.tables e below (T1.setTop (mkF m 30 #[iv p0, iv (5 : Int32), rv w_MessageType_CLOSE_CONNECTION, .unset] [])) _
    refine XS.iconst X1.here hx rfl (hb hby at_30) ?_
    show Steps p.tables e below (T1.setTop (mkF m 31 #[iv p0, iv (5 : Int32), rv w_MessageType_CLOSE_CONNECTION, .unset] [(.int (0 : Int32))])) _
    refine XS.istoreN X1.here hx rfl (hb hby at_31) rfl (l' := #[iv p0, iv (5 : Int32), rv w_MessageType_CLOSE_CONNECTION, iv (0 : Int32)]) rfl ?_
    show Steps p.tables e below (T1.setTop (mkF m 32 #[iv p0, iv (5 : Int32), rv w_MessageType_CLOSE_CONNECTION, iv (0 : Int32)] [])) _
    refine XS.aloadN X1.here hx rfl (hb hby at_32) rfl rfl ?_
    show Steps p.tables e below (T1.setTop (mkF m 33 #[iv p0, iv (5 : Int32), rv w_MessageType_CLOSE_CONNECTION, iv (0 : Int32)] [(.ref w_MessageType_CLOSE_CONNECTION)])) _
    refine st2.trans ?_
    show Steps p.tables e below (T2.setTop (mkF m 36 #[iv p0, iv (5 : Int32), rv w_MessageType_CLOSE_CONNECTION, iv (0 : Int32)] [(.int (0 : Int32))])) _
    refine XS.iloadN X2.here hx rfl (hb hby at_36) rfl ?_
    show Steps p.tables e below (T2.setTop (mkF m 37 #[iv p0, iv (5 : Int32), rv w_MessageType_CLOSE_CONNECTION, iv (0 : Int32)] [(.int (0 : Int32)), (.int (0 : Int32))])) _
    refine XS.icmpNo X2.here hx rfl (hb hby at_37) rfl (teq (by decide +kernel : (0 : Int32) = (0 : Int32))).2 ?_
    show Steps p.tables e below (T2.setTop (mkF m 40 #[iv p0, iv (5 : Int32), rv w_MessageType_CLOSE_CONNECTION, iv (0 : Int32)] [])) _
    refine XS.iconst X2.here hx rfl (hb hby at_40) ?_
    show Steps p.tables e below (T2.setTop (mkF m 41 #[iv p0, iv (5 : Int32), rv w_MessageType_CLOSE_CONNECTION, iv (0 : Int32)] [(.int (1 : Int32))])) _
    refine XS.goto X2.here hx rfl (pc0 := 41) (pc' := 45) rfl (hb hby at_41) (by decide) (by decide) ?_
    show Steps p.tables e below (T2.setTop (mkF m 45 #[iv p0, iv (5 : Int32), rv w_MessageType_CLOSE_CONNECTION, iv (0 : Int32)] [(.int (1 : Int32))])) _
    exact retN X2 hx (t := .boolean) Bd.returns (by simp) (hb hby at_45) hr
  · exact ⟨rfl, N2⟩
set_option maxRecDepth 65536 in
set_option maxHeartbeats 40000000 in
theorem rm1_12 (l : Launch) (Z : State) (a0 : Array Value) (hw : ∀ d ∈ tables_1, d.before a0 Z = true) (ws : List Jvm.Cond) (w_MessageType_MESSAGE_ERROR : Addr) (h0 : Heap) (n0 : Nat) (Z0 : n0 ≤ h0.size) (S_MessageType_MESSAGE_ERROR : Sta Z h0 "org/driftcairn/giop/MessageType" "MESSAGE_ERROR" "Lorg/driftcairn/giop/MessageType;" (.ref w_MessageType_MESSAGE_ERROR)) :
    MetFree l (⟨"org/driftcairn/giop/MessageTypeMayBeFragmentedPinLaw", "pick", "(I)Lorg/driftcairn/giop/MessageType;"⟩ : MethodName) (head1 (Jvm.Cond.code (⟨"org/driftcairn/giop/MessageTypeMayBeFragmentedPinLaw", "pick", "(I)Lorg/driftcairn/giop/MessageType;"⟩ : MethodName) method_2_code 1 (some (.object "org/driftcairn/giop/MessageType")) :: ws) ({ frames := 0, cells := 0, slots := 0, locals := 0 } : Room)) (fun a U => a = #[(.int (6 : Int32))] ∧ Z.Warmed39 U.vm ∧ U.heap = h0) (fun _ _ _ _ _ => True) (fun _ U o U' => ∃ v L, o = .returned v ∧ own_QP (some (.ref w_MessageType_MESSAGE_ERROR)) h0 n0 v U'.heap L ∧ FrameEnd U o U' L ({ frames := 0, cells := 0, slots := 0, locals := 0 } : Room).cells ({ frames := 0, cells := 0, slots := 0, locals := 0 } : Room).slots) := by
  refine MetFree.of_bodySF (plainFor_of_name pn_0) hisR ?_
  intro p e s m args below meth c s₁ Bd hml0 hP hK
  obtain ⟨rfl, hZ, hh⟩ := hP
  have hx := Bd.exec
  have hby := Bd.bytes
  have hml : c.maxLocals = 1 := hml0
  have hown : s.vm.findClass "org/driftcairn/giop/MessageTypeMayBeFragmentedPinLaw" = some m.cls := findClass_of_methodNamed Bd.named
  have hnm := (name_of_methodNamed Bd.named Bd.method).1
  have X0 : Stand p l e ({ frames := 0, cells := 0, slots := 0, locals := 0 } : Room) s m #[(.int (6 : Int32))] below meth c s₁ [] 0 0 := Stand.of_body Bd
  have e0 : s₁.heap = h0 := by rw [← hh, Bd.state]; rfl
  have N0 := Fr.nil n0
  have pre0 : ∀ t, Steps p.tables e below (s₁.setTop (mkF m 0 #[iv (6 : Int32)] [])) t → Steps p.tables e below (s₁.setTop (entryFrame m #[(.int (6 : Int32))] 1)) t := fun t k => castTop (ef_1_I m (6 : Int32)) k
  obtain ⟨T1, X1, e1, st1⟩ := getS2 X0 hx hZ hown (host := "") (Or.inl (hw _ (List.mem_of_getElem? (i := 18) rfl))) Via.refl e0 S_MessageType_MESSAGE_ERROR (g := (mkF m 59 #[iv (6 : Int32)] [])) rfl (hb hby d1_59)
  obtain ⟨fs, hr, hrun, hended, hW, hsame⟩ := X1.leave (v := (some (.ref w_MessageType_MESSAGE_ERROR))) (fun h => by rw [Bd.returns] at h; cases h)
  refine ⟨_, _, pre0 _ ?_, hrun, hended, _, _, rfl, ?_, ⟨_, rfl⟩, hW, hsame.mono (by decide) (by decide)⟩
  · show Steps p.tables e below (s₁.setTop (mkF m 0 #[iv (6 : Int32)] [])) _
    refine XS.iloadN X0.here hx rfl (hb hby d1_0) rfl ?_
    show Steps p.tables e below (s₁.setTop (mkF m 1 #[iv (6 : Int32)] [(.int (6 : Int32))])) _
    refine XS.ifYes X0.here hx rfl (pc0 := 1) (pc' := 8) rfl (hb hby d1_1) rfl ((if0 _ _).trans (feq (by decide +kernel : ¬ ((6 : Int32) = (0 : Int32)))).2) (by decide) (by decide) ?_
    show Steps p.tables e below (s₁.setTop (mkF m 8 #[iv (6 : Int32)] [])) _
    refine XS.iloadN X0.here hx rfl (hb hby d1_8) rfl ?_
    show Steps p.tables e below (s₁.setTop (mkF m 9 #[iv (6 : Int32)] [(.int (6 : Int32))])) _
    refine XS.iconst X0.here hx rfl (hb hby d1_9) ?_
    show Steps p.tables e below (s₁.setTop (mkF m 10 #[iv (6 : Int32)] [(.int (1 : Int32)), (.int (6 : Int32))])) _
    refine XS.icmpYes X0.here hx rfl (pc0 := 10) (pc' := 17) rfl (hb hby d1_10) rfl (feq (by decide +kernel : ¬ ((6 : Int32) = (1 : Int32)))).2 (by decide) (by decide) ?_
    show Steps p.tables e below (s₁.setTop (mkF m 17 #[iv (6 : Int32)] [])) _
    refine XS.iloadN X0.here hx rfl (hb hby d1_17) rfl ?_
    show Steps p.tables e below (s₁.setTop (mkF m 18 #[iv (6 : Int32)] [(.int (6 : Int32))])) _
    refine XS.iconst X0.here hx rfl (hb hby d1_18) ?_
    show Steps p.tables e below (s₁.setTop (mkF m 19 #[iv (6 : Int32)] [(.int (2 : Int32)), (.int (6 : Int32))])) _
    refine XS.icmpYes X0.here hx rfl (pc0 := 19) (pc' := 26) rfl (hb hby d1_19) rfl (feq (by decide +kernel : ¬ ((6 : Int32) = (2 : Int32)))).2 (by decide) (by decide) ?_
    show Steps p.tables e below (s₁.setTop (mkF m 26 #[iv (6 : Int32)] [])) _
    refine XS.iloadN X0.here hx rfl (hb hby d1_26) rfl ?_
    show Steps p.tables e below (s₁.setTop (mkF m 27 #[iv (6 : Int32)] [(.int (6 : Int32))])) _
    refine XS.iconst X0.here hx rfl (hb hby d1_27) ?_
    show Steps p.tables e below (s₁.setTop (mkF m 28 #[iv (6 : Int32)] [(.int (3 : Int32)), (.int (6 : Int32))])) _
    refine XS.icmpYes X0.here hx rfl (pc0 := 28) (pc' := 35) rfl (hb hby d1_28) rfl (feq (by decide +kernel : ¬ ((6 : Int32) = (3 : Int32)))).2 (by decide) (by decide) ?_
    show Steps p.tables e below (s₁.setTop (mkF m 35 #[iv (6 : Int32)] [])) _
    refine XS.iloadN X0.here hx rfl (hb hby d1_35) rfl ?_
    show Steps p.tables e below (s₁.setTop (mkF m 36 #[iv (6 : Int32)] [(.int (6 : Int32))])) _
    refine XS.iconst X0.here hx rfl (hb hby d1_36) ?_
    show Steps p.tables e below (s₁.setTop (mkF m 37 #[iv (6 : Int32)] [(.int (4 : Int32)), (.int (6 : Int32))])) _
    refine XS.icmpYes X0.here hx rfl (pc0 := 37) (pc' := 44) rfl (hb hby d1_37) rfl (feq (by decide +kernel : ¬ ((6 : Int32) = (4 : Int32)))).2 (by decide) (by decide) ?_
    show Steps p.tables e below (s₁.setTop (mkF m 44 #[iv (6 : Int32)] [])) _
    refine XS.iloadN X0.here hx rfl (hb hby d1_44) rfl ?_
    show Steps p.tables e below (s₁.setTop (mkF m 45 #[iv (6 : Int32)] [(.int (6 : Int32))])) _
    refine XS.iconst X0.here hx rfl (hb hby d1_45) ?_
    show Steps p.tables e below (s₁.setTop (mkF m 46 #[iv (6 : Int32)] [(.int (5 : Int32)), (.int (6 : Int32))])) _
    refine XS.icmpYes X0.here hx rfl (pc0 := 46) (pc' := 53) rfl (hb hby d1_46) rfl (feq (by decide +kernel : ¬ ((6 : Int32) = (5 : Int32)))).2 (by decide) (by decide) ?_
    show Steps p.tables e below (s₁.setTop (mkF m 53 #[iv (6 : Int32)] [])) _
    refine XS.iloadN X0.here hx rfl (hb hby d1_53) rfl ?_
    show Steps p.tables e below (s₁.setTop (mkF m 54 #[iv (6 : Int32)] [(.int (6 : Int32))])) _
    refine XS.bipush X0.here hx rfl (hb hby d1_54) ?_
    show Steps p.tables e below (s₁.setTop (mkF m 56 #[iv (6 : Int32)] [(.int (6 : Int32)), (.int (6 : Int32))])) _
    refine XS.icmpNo X0.here hx rfl (hb hby d1_56) rfl (teq (by decide +kernel : (6 : Int32) = (6 : Int32))).2 ?_
    show Steps p.tables e below (s₁.setTop (mkF m 59 #[iv (6 : Int32)] [])) _
    refine st1 _ ?_
    show Steps p.tables e below (T1.setTop (mkF m 62 #[iv (6 : Int32)] [(.ref w_MessageType_MESSAGE_ERROR)])) _
    exact own_retA X1 hx Bd.returns rfl rfl (hb hby d1_62) hr
  · exact ⟨rfl, N0, e1⟩
set_option maxRecDepth 65536 in
set_option maxHeartbeats 40000000 in
theorem rm2_13 (l : Launch) (Z : State) (a0 : Array Value) (hw : ∀ d ∈ tables_1, d.before a0 Z = true) (ws : List Jvm.Cond) (w_MessageType_REQUEST : Addr) (w_MessageType_LOCATE_REQUEST : Addr) (w_MessageType_REPLY : Addr) (w_MessageType_MESSAGE_ERROR : Addr) (w_MessageType_LOCATE_REPLY : Addr) (w_MessageType_FRAGMENT : Addr) (h0 : Heap) (n0 : Nat) (Z0 : n0 ≤ h0.size) (S_MessageType_REQUEST : Sta Z h0 "org/driftcairn/giop/MessageType" "REQUEST" "Lorg/driftcairn/giop/MessageType;" (.ref w_MessageType_REQUEST)) (ne_w_MessageType_MESSAGE_ERROR_w_MessageType_REQUEST : ¬ (w_MessageType_MESSAGE_ERROR = w_MessageType_REQUEST)) (S_MessageType_REPLY : Sta Z h0 "org/driftcairn/giop/MessageType" "REPLY" "Lorg/driftcairn/giop/MessageType;" (.ref w_MessageType_REPLY)) (ne_w_MessageType_MESSAGE_ERROR_w_MessageType_REPLY : ¬ (w_MessageType_MESSAGE_ERROR = w_MessageType_REPLY)) (S_MessageType_LOCATE_REQUEST : Sta Z h0 "org/driftcairn/giop/MessageType" "LOCATE_REQUEST" "Lorg/driftcairn/giop/MessageType;" (.ref w_MessageType_LOCATE_REQUEST)) (ne_w_MessageType_LOCATE_REQUEST_w_MessageType_MESSAGE_ERROR : ¬ (w_MessageType_LOCATE_REQUEST = w_MessageType_MESSAGE_ERROR)) (S_MessageType_LOCATE_REPLY : Sta Z h0 "org/driftcairn/giop/MessageType" "LOCATE_REPLY" "Lorg/driftcairn/giop/MessageType;" (.ref w_MessageType_LOCATE_REPLY)) (ne_w_MessageType_LOCATE_REPLY_w_MessageType_MESSAGE_ERROR : ¬ (w_MessageType_LOCATE_REPLY = w_MessageType_MESSAGE_ERROR)) (S_MessageType_FRAGMENT : Sta Z h0 "org/driftcairn/giop/MessageType" "FRAGMENT" "Lorg/driftcairn/giop/MessageType;" (.ref w_MessageType_FRAGMENT)) (ne_w_MessageType_FRAGMENT_w_MessageType_MESSAGE_ERROR : ¬ (w_MessageType_FRAGMENT = w_MessageType_MESSAGE_ERROR)) :
    MetFree l (⟨"org/driftcairn/giop/MessageType", "mayBeFragmented", "()Z"⟩ : MethodName) (head1 (Jvm.Cond.code (⟨"org/driftcairn/giop/MessageType", "mayBeFragmented", "()Z"⟩ : MethodName) prog_70_method_5_code 1 (some .boolean) :: ws) ({ frames := 0, cells := 0, slots := 0, locals := 0 } : Room)) (fun a U => a = #[(.ref w_MessageType_MESSAGE_ERROR)] ∧ Z.Warmed39 U.vm ∧ U.heap = h0) (fun _ _ _ _ _ => True) (fun _ U o U' => ∃ v L, o = .returned v ∧ own_QP (some (.int (0 : Int32))) h0 n0 v U'.heap L ∧ FrameEnd U o U' L ({ frames := 0, cells := 0, slots := 0, locals := 0 } : Room).cells ({ frames := 0, cells := 0, slots := 0, locals := 0 } : Room).slots) := by
  refine MetFree.of_bodySF (plainFor_of_name pn_1) hisR ?_
  intro p e s m args below meth c s₁ Bd hml0 hP hK
  obtain ⟨rfl, hZ, hh⟩ := hP
  have hx := Bd.exec
  have hby := Bd.bytes
  have hml : c.maxLocals = 1 := hml0
  have hown : s.vm.findClass "org/driftcairn/giop/MessageType" = some m.cls := findClass_of_methodNamed Bd.named
  have hnm := (name_of_methodNamed Bd.named Bd.method).1
  have X0 : Stand p l e ({ frames := 0, cells := 0, slots := 0, locals := 0 } : Room) s m #[(.ref w_MessageType_MESSAGE_ERROR)] below meth c s₁ [] 0 0 := Stand.of_body Bd
  have e0 : s₁.heap = h0 := by rw [← hh, Bd.state]; rfl
  have N0 := Fr.nil n0
  have pre0 : ∀ t, Steps p.tables e below (s₁.setTop (mkF m 0 #[rv w_MessageType_MESSAGE_ERROR] [])) t → Steps p.tables e below (s₁.setTop (entryFrame m #[(.ref w_MessageType_MESSAGE_ERROR)] 1)) t := fun t k => castTop (ef_2_R m w_MessageType_MESSAGE_ERROR) k
  obtain ⟨T1, X1, e1, st1⟩ := getS2 X0 hx hZ hown (host := "") (Or.inl (hw _ (List.mem_of_getElem? (i := 12) rfl))) Via.refl e0 S_MessageType_REQUEST (g := (mkF m 1 #[rv w_MessageType_MESSAGE_ERROR] [(.ref w_MessageType_MESSAGE_ERROR)])) rfl (hb hby d2_1)
  obtain ⟨T2, X2, e2, st2⟩ := getS2 X1 hx hZ hown (host := "") (Or.inl (hw _ (List.mem_of_getElem? (i := 15) rfl))) Via.refl e1 S_MessageType_REPLY (g := (mkF m 8 #[rv w_MessageType_MESSAGE_ERROR] [(.ref w_MessageType_MESSAGE_ERROR)])) rfl (hb hby d2_8)
  obtain ⟨T3, X3, e3, st3⟩ := getS2 X2 hx hZ hown (host := "") (Or.inl (hw _ (List.mem_of_getElem? (i := 17) rfl))) Via.refl e2 S_MessageType_LOCATE_REQUEST (g := (mkF m 15 #[rv w_MessageType_MESSAGE_ERROR] [(.ref w_MessageType_MESSAGE_ERROR)])) rfl (hb hby d2_15)
  obtain ⟨T4, X4, e4, st4⟩ := getS2 X3 hx hZ hown (host := "") (Or.inl (hw _ (List.mem_of_getElem? (i := 20) rfl))) Via.refl e3 S_MessageType_LOCATE_REPLY (g := (mkF m 22 #[rv w_MessageType_MESSAGE_ERROR] [(.ref w_MessageType_MESSAGE_ERROR)])) rfl (hb hby d2_22)
  obtain ⟨T5, X5, e5, st5⟩ := getS2 X4 hx hZ hown (host := "") (Or.inl (hw _ (List.mem_of_getElem? (i := 22) rfl))) Via.refl e4 S_MessageType_FRAGMENT (g := (mkF m 29 #[rv w_MessageType_MESSAGE_ERROR] [(.ref w_MessageType_MESSAGE_ERROR)])) rfl (hb hby d2_29)
  obtain ⟨fs, hr, hrun, hended, hW, hsame⟩ := X5.leave (v := (some (.int (0 : Int32)))) (fun h => by rw [Bd.returns] at h; cases h)
  refine ⟨_, _, pre0 _ ?_, hrun, hended, _, _, rfl, ?_, ⟨_, rfl⟩, hW, hsame.mono (by decide) (by decide)⟩
  · show Steps p.tables e below (s₁.setTop (mkF m 0 #[rv w_MessageType_MESSAGE_ERROR] [])) _
    refine XS.aloadN X0.here hx rfl (hb hby d2_0) rfl rfl ?_
    show Steps p.tables e below (s₁.setTop (mkF m 1 #[rv w_MessageType_MESSAGE_ERROR] [(.ref w_MessageType_MESSAGE_ERROR)])) _
    refine st1 _ ?_
    show Steps p.tables e below (T1.setTop (mkF m 4 #[rv w_MessageType_MESSAGE_ERROR] [(.ref w_MessageType_REQUEST), (.ref w_MessageType_MESSAGE_ERROR)])) _
    refine Jvm.RoadKit.acmp (g := (mkF m 4 #[rv w_MessageType_MESSAGE_ERROR] [(.ref w_MessageType_REQUEST), (.ref w_MessageType_MESSAGE_ERROR)])) X1 hx rfl rfl rfl (pc0 := 4) (pc' := 7) (same := false) rfl (hb hby d2_4) rfl (decide_eq_false fun q => ne_w_MessageType_MESSAGE_ERROR_w_MessageType_REQUEST (Value.ref.inj q)) (by decide) (by decide) ?_
    show Steps p.tables e below (T1.setTop (mkF m 7 #[rv w_MessageType_MESSAGE_ERROR] [])) _
    refine XS.aloadN X1.here hx rfl (hb hby d2_7) rfl rfl ?_
    show Steps p.tables e below (T1.setTop (mkF m 8 #[rv w_MessageType_MESSAGE_ERROR] [(.ref w_MessageType_MESSAGE_ERROR)])) _
    refine st2 _ ?_
    show Steps p.tables e below (T2.setTop (mkF m 11 #[rv w_MessageType_MESSAGE_ERROR] [(.ref w_MessageType_REPLY), (.ref w_MessageType_MESSAGE_ERROR)])) _
    refine Jvm.RoadKit.acmp (g := (mkF m 11 #[rv w_MessageType_MESSAGE_ERROR] [(.ref w_MessageType_REPLY), (.ref w_MessageType_MESSAGE_ERROR)])) X2 hx rfl rfl rfl (pc0 := 11) (pc' := 14) (same := false) rfl (hb hby d2_11) rfl (decide_eq_false fun q => ne_w_MessageType_MESSAGE_ERROR_w_MessageType_REPLY (Value.ref.inj q)) (by decide) (by decide) ?_
    show Steps p.tables e below (T2.setTop (mkF m 14 #[rv w_MessageType_MESSAGE_ERROR] [])) _
    refine XS.aloadN X2.here hx rfl (hb hby d2_14) rfl rfl ?_
    show Steps p.tables e below (T2.setTop (mkF m 15 #[rv w_MessageType_MESSAGE_ERROR] [(.ref w_MessageType_MESSAGE_ERROR)])) _
    refine st3 _ ?_
    show Steps p.tables e below (T3.setTop (mkF m 18 #[rv w_MessageType_MESSAGE_ERROR] [(.ref w_MessageType_LOCATE_REQUEST), (.ref w_MessageType_MESSAGE_ERROR)])) _
    refine Jvm.RoadKit.acmp (g := (mkF m 18 #[rv w_MessageType_MESSAGE_ERROR] [(.ref w_MessageType_LOCATE_REQUEST), (.ref w_MessageType_MESSAGE_ERROR)])) X3 hx rfl rfl rfl (pc0 := 18) (pc' := 21) (same := false) rfl (hb hby d2_18) rfl (decide_eq_false fun q => (Ne.symm ne_w_MessageType_LOCATE_REQUEST_w_MessageType_MESSAGE_ERROR) (Value.ref.inj q)) (by decide) (by decide) ?_
    show Steps p.tables e below (T3.setTop (mkF m 21 #[rv w_MessageType_MESSAGE_ERROR] [])) _
    refine XS.aloadN X3.here hx rfl (hb hby d2_21) rfl rfl ?_
    show Steps p.tables e below (T3.setTop (mkF m 22 #[rv w_MessageType_MESSAGE_ERROR] [(.ref w_MessageType_MESSAGE_ERROR)])) _
    refine st4 _ ?_
    show Steps p.tables e below (T4.setTop (mkF m 25 #[rv w_MessageType_MESSAGE_ERROR] [(.ref w_MessageType_LOCATE_REPLY), (.ref w_MessageType_MESSAGE_ERROR)])) _
    refine Jvm.RoadKit.acmp (g := (mkF m 25 #[rv w_MessageType_MESSAGE_ERROR] [(.ref w_MessageType_LOCATE_REPLY), (.ref w_MessageType_MESSAGE_ERROR)])) X4 hx rfl rfl rfl (pc0 := 25) (pc' := 28) (same := false) rfl (hb hby d2_25) rfl (decide_eq_false fun q => (Ne.symm ne_w_MessageType_LOCATE_REPLY_w_MessageType_MESSAGE_ERROR) (Value.ref.inj q)) (by decide) (by decide) ?_
    show Steps p.tables e below (T4.setTop (mkF m 28 #[rv w_MessageType_MESSAGE_ERROR] [])) _
    refine XS.aloadN X4.here hx rfl (hb hby d2_28) rfl rfl ?_
    show Steps p.tables e below (T4.setTop (mkF m 29 #[rv w_MessageType_MESSAGE_ERROR] [(.ref w_MessageType_MESSAGE_ERROR)])) _
    refine st5 _ ?_
    show Steps p.tables e below (T5.setTop (mkF m 32 #[rv w_MessageType_MESSAGE_ERROR] [(.ref w_MessageType_FRAGMENT), (.ref w_MessageType_MESSAGE_ERROR)])) _
    refine Jvm.RoadKit.acmp (g := (mkF m 32 #[rv w_MessageType_MESSAGE_ERROR] [(.ref w_MessageType_FRAGMENT), (.ref w_MessageType_MESSAGE_ERROR)])) X5 hx rfl rfl rfl (pc0 := 32) (pc' := 39) (same := false) rfl (hb hby d2_32) rfl (decide_eq_false fun q => (Ne.symm ne_w_MessageType_FRAGMENT_w_MessageType_MESSAGE_ERROR) (Value.ref.inj q)) (by decide) (by decide) ?_
    show Steps p.tables e below (T5.setTop (mkF m 39 #[rv w_MessageType_MESSAGE_ERROR] [])) _
    refine XS.iconst X5.here hx rfl (hb hby d2_39) ?_
    show Steps p.tables e below (T5.setTop (mkF m 40 #[rv w_MessageType_MESSAGE_ERROR] [(.int (0 : Int32))])) _
    exact retN X5 hx (t := .boolean) Bd.returns (by simp) (hb hby d2_40) hr
  · exact ⟨rfl, N0, e5⟩
set_option maxRecDepth 65536 in
set_option maxHeartbeats 40000000 in
theorem rm0_6 (l : Launch) (Z : State) (a0 : Array Value) (hw : ∀ d ∈ tables_1, d.before a0 Z = true) (ws : List Jvm.Cond) (p0 : Int32) (w_MessageType_REQUEST : Addr) (w_MessageType_LOCATE_REQUEST : Addr) (w_MessageType_REPLY : Addr) (w_MessageType_MESSAGE_ERROR : Addr) (w_MessageType_LOCATE_REPLY : Addr) (w_MessageType_FRAGMENT : Addr) (h0 : Heap) (n0 : Nat) (Z0 : n0 ≤ h0.size) (hk0 : (p0 &&& (7 : Int32)) = (6 : Int32)) (S_MessageType_MESSAGE_ERROR : Sta Z h0 "org/driftcairn/giop/MessageType" "MESSAGE_ERROR" "Lorg/driftcairn/giop/MessageType;" (.ref w_MessageType_MESSAGE_ERROR)) (S_MessageType_REQUEST : Sta Z h0 "org/driftcairn/giop/MessageType" "REQUEST" "Lorg/driftcairn/giop/MessageType;" (.ref w_MessageType_REQUEST)) (ne_w_MessageType_MESSAGE_ERROR_w_MessageType_REQUEST : ¬ (w_MessageType_MESSAGE_ERROR = w_MessageType_REQUEST)) (S_MessageType_REPLY : Sta Z h0 "org/driftcairn/giop/MessageType" "REPLY" "Lorg/driftcairn/giop/MessageType;" (.ref w_MessageType_REPLY)) (ne_w_MessageType_MESSAGE_ERROR_w_MessageType_REPLY : ¬ (w_MessageType_MESSAGE_ERROR = w_MessageType_REPLY)) (S_MessageType_LOCATE_REQUEST : Sta Z h0 "org/driftcairn/giop/MessageType" "LOCATE_REQUEST" "Lorg/driftcairn/giop/MessageType;" (.ref w_MessageType_LOCATE_REQUEST)) (ne_w_MessageType_LOCATE_REQUEST_w_MessageType_MESSAGE_ERROR : ¬ (w_MessageType_LOCATE_REQUEST = w_MessageType_MESSAGE_ERROR)) (S_MessageType_LOCATE_REPLY : Sta Z h0 "org/driftcairn/giop/MessageType" "LOCATE_REPLY" "Lorg/driftcairn/giop/MessageType;" (.ref w_MessageType_LOCATE_REPLY)) (ne_w_MessageType_LOCATE_REPLY_w_MessageType_MESSAGE_ERROR : ¬ (w_MessageType_LOCATE_REPLY = w_MessageType_MESSAGE_ERROR)) (S_MessageType_FRAGMENT : Sta Z h0 "org/driftcairn/giop/MessageType" "FRAGMENT" "Lorg/driftcairn/giop/MessageType;" (.ref w_MessageType_FRAGMENT)) (ne_w_MessageType_FRAGMENT_w_MessageType_MESSAGE_ERROR : ¬ (w_MessageType_FRAGMENT = w_MessageType_MESSAGE_ERROR)) (E_w_MessageType_MESSAGE_ERROR : Exa Z h0 w_MessageType_MESSAGE_ERROR "org/driftcairn/giop/MessageType") :
    MetFree l x (head1 (Jvm.Cond.code x code maxLocals ret :: ws) room_1) (fun a U => a = #[(.int p0)] ∧ Z.Warmed39 U.vm ∧ U.heap = h0) (fun _ _ _ _ _ => True) (fun _ U o U' => ∃ v L, o = .returned v ∧ own_QL n0 v U'.heap L ∧ FrameEnd U o U' L room_1.cells room_1.slots) := by
  refine MetFree.of_bodySF (plainFor_of_name pn_0) hisR ?_
  intro p e s m args below meth c s₁ Bd hml0 hP hK
  obtain ⟨rfl, hZ, hh⟩ := hP
  have hx := Bd.exec
  have hby := Bd.bytes
  have hml : c.maxLocals = 4 := hml0
  have hown : s.vm.findClass "org/driftcairn/giop/MessageTypeMayBeFragmentedPinLaw" = some m.cls := findClass_of_methodNamed Bd.named
  have hnm := (name_of_methodNamed Bd.named Bd.method).1
  have X0 : Stand p l e room_1 s m #[(.int p0)] below meth c s₁ [] 0 0 := Stand.of_body Bd
  have e0 : s₁.heap = h0 := by rw [← hh, Bd.state]; rfl
  have N0 := Fr.nil n0
  have pre0 : ∀ t, Steps p.tables e below (s₁.setTop (mkF m 0 #[iv p0, .unset, .unset, .unset] [])) t → Steps p.tables e below (s₁.setTop (entryFrame m #[(.int p0)] maxLocals)) t := fun t k => castTop (ef_0_I m p0) k
  obtain ⟨_, _, ⟨T1, L1, k1, n1⟩, -, X1, ⟨Lc1, hQ1, l1, y1, z1⟩, st1⟩ := Jvm.LawKit.callS X0 hx (y := (⟨"org/driftcairn/giop/MessageTypeMayBeFragmentedPinLaw", "pick", "(I)Lorg/driftcairn/giop/MessageType;"⟩ : MethodName)) hown (mvT hZ (hw _ (List.mem_of_getElem? (i := 0) rfl))) (mvT hZ (hw _ (List.mem_of_getElem? (i := 1) rfl))) (mvT hZ (hw _ (List.mem_of_getElem? (i := 2) rfl))) (mvT hZ (hw _ (List.mem_of_getElem? (i := 3) rfl))) (by decide) (backOf (W := 0) (rm1_12 l Z a0 hw [] w_MessageType_MESSAGE_ERROR h0 n0 Z0 S_MessageType_MESSAGE_ERROR) hZ (hw _ (List.mem_of_getElem? (i := 3) rfl)) (hw _ (List.mem_of_getElem? (i := 2) rfl)) (by decide) (by decide)) (g := (mkF m 6 #[iv p0, iv (6 : Int32), .unset, .unset] [(.int (6 : Int32))])) rfl (by rw [hml]; rfl) (argsL := [(.int (6 : Int32))]) (rest := []) (lenOf pd_0 rfl) rfl (by show 2 * 0 + _ ≤ _; exact Nat.le_of_eq rfl) (hb hby at_6) (fun _ _ => ⟨rfl, e0, (by decide : 0 + 0 ≤ _), (by decide : 0 + 0 ≤ _)⟩)
  dsimp only [Pt.U, Pt.locs, Pt.cells, Pt.slots] at X1 l1 y1 z1 st1 hQ1
  subst l1 y1 z1
  obtain ⟨rfl, N1q, e1⟩ := hQ1
  have N1 := Fr.app N0 N1q
  obtain ⟨cq2, kq2, q2a, q2b, q2c⟩ := isOf hZ e1 E_w_MessageType_MESSAGE_ERROR
  obtain ⟨_, _, ⟨T2, L2, k2, n2⟩, -, X2, ⟨Lc2, hQ2, l2, y2, z2⟩, st2⟩ := X1.virtualBack hx (y := (⟨"org/driftcairn/giop/MessageType", "mayBeFragmented", "()Z"⟩ : MethodName)) (z := (⟨"org/driftcairn/giop/MessageType", "mayBeFragmented", "()Z"⟩ : MethodName)) hown (mvT hZ (hw _ (List.mem_of_getElem? (i := 7) rfl))) (mvT hZ (hw _ (List.mem_of_getElem? (i := 8) rfl))) (notFace_of_selects (args := #[]) (mvT hZ (hw _ (List.mem_of_getElem? (i := 10) rfl)))) (mvT hZ (hw _ (List.mem_of_getElem? (i := 10) rfl))) (mvT hZ (hw _ (List.mem_of_getElem? (i := 9) rfl))) (by decide) (backOf (W := 0) (rm2_13 l Z a0 hw [] w_MessageType_REQUEST w_MessageType_LOCATE_REQUEST w_MessageType_REPLY w_MessageType_MESSAGE_ERROR w_MessageType_LOCATE_REPLY w_MessageType_FRAGMENT h0 n0 Z0 S_MessageType_REQUEST ne_w_MessageType_MESSAGE_ERROR_w_MessageType_REQUEST S_MessageType_REPLY ne_w_MessageType_MESSAGE_ERROR_w_MessageType_REPLY S_MessageType_LOCATE_REQUEST ne_w_MessageType_LOCATE_REQUEST_w_MessageType_MESSAGE_ERROR S_MessageType_LOCATE_REPLY ne_w_MessageType_LOCATE_REPLY_w_MessageType_MESSAGE_ERROR S_MessageType_FRAGMENT ne_w_MessageType_FRAGMENT_w_MessageType_MESSAGE_ERROR) hZ (hw _ (List.mem_of_getElem? (i := 11) rfl)) (hw _ (List.mem_of_getElem? (i := 5) rfl)) (by decide) (by decide)) q2a q2c (g := (mkF m 33 #[iv p0, iv (6 : Int32), rv w_MessageType_MESSAGE_ERROR, iv (0 : Int32)] [(.ref w_MessageType_MESSAGE_ERROR)])) rfl (by rw [hml]; rfl) (Steps.refl _) (argsL := []) (rest := []) (lenOf pd_1 rfl) rfl (by show 2 * 0 + _ ≤ _; exact Nat.le_of_eq rfl) (hb hby at_33) (fun _ _ => ⟨rfl, e1, (by decide : 0 + 0 ≤ _), (by decide : 0 + 0 ≤ _)⟩)
  dsimp only [Pt.U, Pt.locs, Pt.cells, Pt.slots] at X2 l2 y2 z2 st2 hQ2
  subst l2 y2 z2
  obtain ⟨rfl, N2q, e2⟩ := hQ2
  have N2 := Fr.app N1 N2q
  obtain ⟨fs, hr, hrun, hended, hW, hsame⟩ := X2.leave (v := (some (.int (1 : Int32)))) (fun h => by rw [Bd.returns] at h; cases h)
  refine ⟨_, _, pre0 _ ?_, hrun, hended, _, _, rfl, ?_, ⟨_, rfl⟩, hW, hsame.mono (by decide) (by decide)⟩
  · show Steps p.tables e below (s₁.setTop (mkF m 0 #[iv p0, .unset, .unset, .unset] [])) _
    refine XS.iloadN X0.here hx rfl (hb hby at_0) rfl ?_
    show Steps p.tables e below (s₁.setTop (mkF m 1 #[iv p0, .unset, .unset, .unset] [(.int p0)])) _
    refine XS.bipush X0.here hx rfl (hb hby at_1) ?_
    show Steps p.tables e below (s₁.setTop (mkF m 3 #[iv p0, .unset, .unset, .unset] [(.int (7 : Int32)), (.int p0)])) _
    refine XS.iand X0.here hx rfl (hb hby at_3) rfl ?_
    show Steps p.tables e below (s₁.setTop (mkF m 4 #[iv p0, .unset, .unset, .unset] [(.int (p0 &&& (7 : Int32)))])) _
    rewrite [hk0]
    show Steps p.tables e below (s₁.setTop (mkF m 4 #[iv p0, .unset, .unset, .unset] [(.int (6 : Int32))])) _
    refine XS.istoreN X0.here hx rfl (hb hby at_4) rfl (l' := #[iv p0, iv (6 : Int32), .unset, .unset]) rfl ?_
    show Steps p.tables e below (s₁.setTop (mkF m 5 #[iv p0, iv (6 : Int32), .unset, .unset] [])) _
    refine XS.iloadN X0.here hx rfl (hb hby at_5) rfl ?_
    show Steps p.tables e below (s₁.setTop (mkF m 6 #[iv p0, iv (6 : Int32), .unset, .unset] [(.int (6 : Int32))])) _
    refine st1 _ ?_
    show Steps p.tables e below (T1.setTop (mkF m 9 #[iv p0, iv (6 : Int32), .unset, .unset] [(.ref w_MessageType_MESSAGE_ERROR)])) _
    refine XS.astoreN X1.here hx rfl (hb hby at_9) rfl rfl (l' := #[iv p0, iv (6 : Int32), rv w_MessageType_MESSAGE_ERROR, .unset]) rfl ?_
    show Steps p.tables e below (T1.setTop (mkF m 10 #[iv p0, iv (6 : Int32), rv w_MessageType_MESSAGE_ERROR, .unset] [])) _
    refine XS.iloadN X1.here hx rfl (hb hby at_10) rfl ?_
    show Steps p.tables e below (T1.setTop (mkF m 11 #[iv p0, iv (6 : Int32), rv w_MessageType_MESSAGE_ERROR, .unset] [(.int (6 : Int32))])) _
    refine XS.iconst X1.here hx rfl (hb hby at_11) ?_
    show Steps p.tables e below (T1.setTop (mkF m 12 #[iv p0, iv (6 : Int32), rv w_MessageType_MESSAGE_ERROR, .unset] [(.int (4 : Int32)), (.int (6 : Int32))])) _
    refine XS.icmpYes X1.here hx rfl (pc0 := 12) (pc' := 20) rfl (hb hby at_12) rfl (tlt (by decide +kernel : (4 : Int32) < (6 : Int32))).2.2.1 (by decide) (by decide) ?_
    show Steps p.tables e below (T1.setTop (mkF m 20 #[iv p0, iv (6 : Int32), rv w_MessageType_MESSAGE_ERROR, .unset] [])) _
    refine XS.iloadN X1.here hx rfl (hb hby at_20) rfl ?_
    show Steps p.tables e below (T1.setTop (mkF m 21 #[iv p0, iv (6 : Int32), rv w_MessageType_MESSAGE_ERROR, .unset] [(.int (6 : Int32))])) _
    refine XS.bipush X1.here hx rfl (hb hby at_21) ?_
    show Steps p.tables e below (T1.setTop (mkF m 23 #[iv p0, iv (6 : Int32), rv w_MessageType_MESSAGE_ERROR, .unset] [(.int (7 : Int32)), (.int (6 : Int32))])) _
    refine XS.icmpYes X1.here hx rfl (pc0 := 23) (pc' := 30) rfl (hb hby at_23) rfl (feq (by decide +kernel : ¬ ((6 : Int32) = (7 : Int32)))).2 (by decide) (by decide) ?_
    show Steps p.tables e below (T1.setTop (mkF m 30 #[iv p0, iv (6 : Int32), rv w_MessageType_MESSAGE_ERROR, .unset] [])) _
    refine XS.iconst X1.here hx rfl (hb hby at_30) ?_
    show Steps p.tables e below (T1.setTop (mkF m 31 #[iv p0, iv (6 : Int32), rv w_MessageType_MESSAGE_ERROR, .unset] [(.int (0 : Int32))])) _
    refine XS.istoreN X1.here hx rfl (hb hby at_31) rfl (l' := #[iv p0, iv (6 : Int32), rv w_MessageType_MESSAGE_ERROR, iv (0 : Int32)]) rfl ?_
    show Steps p.tables e below (T1.setTop (mkF m 32 #[iv p0, iv (6 : Int32), rv w_MessageType_MESSAGE_ERROR, iv (0 : Int32)] [])) _
    refine XS.aloadN X1.here hx rfl (hb hby at_32) rfl rfl ?_
    show Steps p.tables e below (T1.setTop (mkF m 33 #[iv p0, iv (6 : Int32), rv w_MessageType_MESSAGE_ERROR, iv (0 : Int32)] [(.ref w_MessageType_MESSAGE_ERROR)])) _
    refine st2.trans ?_
    show Steps p.tables e below (T2.setTop (mkF m 36 #[iv p0, iv (6 : Int32), rv w_MessageType_MESSAGE_ERROR, iv (0 : Int32)] [(.int (0 : Int32))])) _
    refine XS.iloadN X2.here hx rfl (hb hby at_36) rfl ?_
    show Steps p.tables e below (T2.setTop (mkF m 37 #[iv p0, iv (6 : Int32), rv w_MessageType_MESSAGE_ERROR, iv (0 : Int32)] [(.int (0 : Int32)), (.int (0 : Int32))])) _
    refine XS.icmpNo X2.here hx rfl (hb hby at_37) rfl (teq (by decide +kernel : (0 : Int32) = (0 : Int32))).2 ?_
    show Steps p.tables e below (T2.setTop (mkF m 40 #[iv p0, iv (6 : Int32), rv w_MessageType_MESSAGE_ERROR, iv (0 : Int32)] [])) _
    refine XS.iconst X2.here hx rfl (hb hby at_40) ?_
    show Steps p.tables e below (T2.setTop (mkF m 41 #[iv p0, iv (6 : Int32), rv w_MessageType_MESSAGE_ERROR, iv (0 : Int32)] [(.int (1 : Int32))])) _
    refine XS.goto X2.here hx rfl (pc0 := 41) (pc' := 45) rfl (hb hby at_41) (by decide) (by decide) ?_
    show Steps p.tables e below (T2.setTop (mkF m 45 #[iv p0, iv (6 : Int32), rv w_MessageType_MESSAGE_ERROR, iv (0 : Int32)] [(.int (1 : Int32))])) _
    exact retN X2 hx (t := .boolean) Bd.returns (by simp) (hb hby at_45) hr
  · exact ⟨rfl, N2⟩
set_option maxRecDepth 65536 in
set_option maxHeartbeats 40000000 in
theorem rm1_14 (l : Launch) (Z : State) (a0 : Array Value) (hw : ∀ d ∈ tables_1, d.before a0 Z = true) (ws : List Jvm.Cond) (w_MessageType_FRAGMENT : Addr) (h0 : Heap) (n0 : Nat) (Z0 : n0 ≤ h0.size) (S_MessageType_FRAGMENT : Sta Z h0 "org/driftcairn/giop/MessageType" "FRAGMENT" "Lorg/driftcairn/giop/MessageType;" (.ref w_MessageType_FRAGMENT)) :
    MetFree l (⟨"org/driftcairn/giop/MessageTypeMayBeFragmentedPinLaw", "pick", "(I)Lorg/driftcairn/giop/MessageType;"⟩ : MethodName) (head1 (Jvm.Cond.code (⟨"org/driftcairn/giop/MessageTypeMayBeFragmentedPinLaw", "pick", "(I)Lorg/driftcairn/giop/MessageType;"⟩ : MethodName) method_2_code 1 (some (.object "org/driftcairn/giop/MessageType")) :: ws) ({ frames := 0, cells := 0, slots := 0, locals := 0 } : Room)) (fun a U => a = #[(.int (7 : Int32))] ∧ Z.Warmed39 U.vm ∧ U.heap = h0) (fun _ _ _ _ _ => True) (fun _ U o U' => ∃ v L, o = .returned v ∧ own_QP (some (.ref w_MessageType_FRAGMENT)) h0 n0 v U'.heap L ∧ FrameEnd U o U' L ({ frames := 0, cells := 0, slots := 0, locals := 0 } : Room).cells ({ frames := 0, cells := 0, slots := 0, locals := 0 } : Room).slots) := by
  refine MetFree.of_bodySF (plainFor_of_name pn_0) hisR ?_
  intro p e s m args below meth c s₁ Bd hml0 hP hK
  obtain ⟨rfl, hZ, hh⟩ := hP
  have hx := Bd.exec
  have hby := Bd.bytes
  have hml : c.maxLocals = 1 := hml0
  have hown : s.vm.findClass "org/driftcairn/giop/MessageTypeMayBeFragmentedPinLaw" = some m.cls := findClass_of_methodNamed Bd.named
  have hnm := (name_of_methodNamed Bd.named Bd.method).1
  have X0 : Stand p l e ({ frames := 0, cells := 0, slots := 0, locals := 0 } : Room) s m #[(.int (7 : Int32))] below meth c s₁ [] 0 0 := Stand.of_body Bd
  have e0 : s₁.heap = h0 := by rw [← hh, Bd.state]; rfl
  have N0 := Fr.nil n0
  have pre0 : ∀ t, Steps p.tables e below (s₁.setTop (mkF m 0 #[iv (7 : Int32)] [])) t → Steps p.tables e below (s₁.setTop (entryFrame m #[(.int (7 : Int32))] 1)) t := fun t k => castTop (ef_1_I m (7 : Int32)) k
  obtain ⟨T1, X1, e1, st1⟩ := getS2 X0 hx hZ hown (host := "") (Or.inl (hw _ (List.mem_of_getElem? (i := 24) rfl))) Via.refl e0 S_MessageType_FRAGMENT (g := (mkF m 63 #[iv (7 : Int32)] [])) rfl (hb hby d1_63)
  obtain ⟨fs, hr, hrun, hended, hW, hsame⟩ := X1.leave (v := (some (.ref w_MessageType_FRAGMENT))) (fun h => by rw [Bd.returns] at h; cases h)
  refine ⟨_, _, pre0 _ ?_, hrun, hended, _, _, rfl, ?_, ⟨_, rfl⟩, hW, hsame.mono (by decide) (by decide)⟩
  · show Steps p.tables e below (s₁.setTop (mkF m 0 #[iv (7 : Int32)] [])) _
    refine XS.iloadN X0.here hx rfl (hb hby d1_0) rfl ?_
    show Steps p.tables e below (s₁.setTop (mkF m 1 #[iv (7 : Int32)] [(.int (7 : Int32))])) _
    refine XS.ifYes X0.here hx rfl (pc0 := 1) (pc' := 8) rfl (hb hby d1_1) rfl ((if0 _ _).trans (feq (by decide +kernel : ¬ ((7 : Int32) = (0 : Int32)))).2) (by decide) (by decide) ?_
    show Steps p.tables e below (s₁.setTop (mkF m 8 #[iv (7 : Int32)] [])) _
    refine XS.iloadN X0.here hx rfl (hb hby d1_8) rfl ?_
    show Steps p.tables e below (s₁.setTop (mkF m 9 #[iv (7 : Int32)] [(.int (7 : Int32))])) _
    refine XS.iconst X0.here hx rfl (hb hby d1_9) ?_
    show Steps p.tables e below (s₁.setTop (mkF m 10 #[iv (7 : Int32)] [(.int (1 : Int32)), (.int (7 : Int32))])) _
    refine XS.icmpYes X0.here hx rfl (pc0 := 10) (pc' := 17) rfl (hb hby d1_10) rfl (feq (by decide +kernel : ¬ ((7 : Int32) = (1 : Int32)))).2 (by decide) (by decide) ?_
    show Steps p.tables e below (s₁.setTop (mkF m 17 #[iv (7 : Int32)] [])) _
    refine XS.iloadN X0.here hx rfl (hb hby d1_17) rfl ?_
    show Steps p.tables e below (s₁.setTop (mkF m 18 #[iv (7 : Int32)] [(.int (7 : Int32))])) _
    refine XS.iconst X0.here hx rfl (hb hby d1_18) ?_
    show Steps p.tables e below (s₁.setTop (mkF m 19 #[iv (7 : Int32)] [(.int (2 : Int32)), (.int (7 : Int32))])) _
    refine XS.icmpYes X0.here hx rfl (pc0 := 19) (pc' := 26) rfl (hb hby d1_19) rfl (feq (by decide +kernel : ¬ ((7 : Int32) = (2 : Int32)))).2 (by decide) (by decide) ?_
    show Steps p.tables e below (s₁.setTop (mkF m 26 #[iv (7 : Int32)] [])) _
    refine XS.iloadN X0.here hx rfl (hb hby d1_26) rfl ?_
    show Steps p.tables e below (s₁.setTop (mkF m 27 #[iv (7 : Int32)] [(.int (7 : Int32))])) _
    refine XS.iconst X0.here hx rfl (hb hby d1_27) ?_
    show Steps p.tables e below (s₁.setTop (mkF m 28 #[iv (7 : Int32)] [(.int (3 : Int32)), (.int (7 : Int32))])) _
    refine XS.icmpYes X0.here hx rfl (pc0 := 28) (pc' := 35) rfl (hb hby d1_28) rfl (feq (by decide +kernel : ¬ ((7 : Int32) = (3 : Int32)))).2 (by decide) (by decide) ?_
    show Steps p.tables e below (s₁.setTop (mkF m 35 #[iv (7 : Int32)] [])) _
    refine XS.iloadN X0.here hx rfl (hb hby d1_35) rfl ?_
    show Steps p.tables e below (s₁.setTop (mkF m 36 #[iv (7 : Int32)] [(.int (7 : Int32))])) _
    refine XS.iconst X0.here hx rfl (hb hby d1_36) ?_
    show Steps p.tables e below (s₁.setTop (mkF m 37 #[iv (7 : Int32)] [(.int (4 : Int32)), (.int (7 : Int32))])) _
    refine XS.icmpYes X0.here hx rfl (pc0 := 37) (pc' := 44) rfl (hb hby d1_37) rfl (feq (by decide +kernel : ¬ ((7 : Int32) = (4 : Int32)))).2 (by decide) (by decide) ?_
    show Steps p.tables e below (s₁.setTop (mkF m 44 #[iv (7 : Int32)] [])) _
    refine XS.iloadN X0.here hx rfl (hb hby d1_44) rfl ?_
    show Steps p.tables e below (s₁.setTop (mkF m 45 #[iv (7 : Int32)] [(.int (7 : Int32))])) _
    refine XS.iconst X0.here hx rfl (hb hby d1_45) ?_
    show Steps p.tables e below (s₁.setTop (mkF m 46 #[iv (7 : Int32)] [(.int (5 : Int32)), (.int (7 : Int32))])) _
    refine XS.icmpYes X0.here hx rfl (pc0 := 46) (pc' := 53) rfl (hb hby d1_46) rfl (feq (by decide +kernel : ¬ ((7 : Int32) = (5 : Int32)))).2 (by decide) (by decide) ?_
    show Steps p.tables e below (s₁.setTop (mkF m 53 #[iv (7 : Int32)] [])) _
    refine XS.iloadN X0.here hx rfl (hb hby d1_53) rfl ?_
    show Steps p.tables e below (s₁.setTop (mkF m 54 #[iv (7 : Int32)] [(.int (7 : Int32))])) _
    refine XS.bipush X0.here hx rfl (hb hby d1_54) ?_
    show Steps p.tables e below (s₁.setTop (mkF m 56 #[iv (7 : Int32)] [(.int (6 : Int32)), (.int (7 : Int32))])) _
    refine XS.icmpYes X0.here hx rfl (pc0 := 56) (pc' := 63) rfl (hb hby d1_56) rfl (feq (by decide +kernel : ¬ ((7 : Int32) = (6 : Int32)))).2 (by decide) (by decide) ?_
    show Steps p.tables e below (s₁.setTop (mkF m 63 #[iv (7 : Int32)] [])) _
    refine st1 _ ?_
    show Steps p.tables e below (T1.setTop (mkF m 66 #[iv (7 : Int32)] [(.ref w_MessageType_FRAGMENT)])) _
    exact own_retA X1 hx Bd.returns rfl rfl (hb hby d1_66) hr
  · exact ⟨rfl, N0, e1⟩
set_option maxRecDepth 65536 in
set_option maxHeartbeats 40000000 in
theorem rm2_15 (l : Launch) (Z : State) (a0 : Array Value) (hw : ∀ d ∈ tables_1, d.before a0 Z = true) (ws : List Jvm.Cond) (w_MessageType_REQUEST : Addr) (w_MessageType_LOCATE_REQUEST : Addr) (w_MessageType_REPLY : Addr) (w_MessageType_LOCATE_REPLY : Addr) (w_MessageType_FRAGMENT : Addr) (h0 : Heap) (n0 : Nat) (Z0 : n0 ≤ h0.size) (S_MessageType_REQUEST : Sta Z h0 "org/driftcairn/giop/MessageType" "REQUEST" "Lorg/driftcairn/giop/MessageType;" (.ref w_MessageType_REQUEST)) (ne_w_MessageType_FRAGMENT_w_MessageType_REQUEST : ¬ (w_MessageType_FRAGMENT = w_MessageType_REQUEST)) (S_MessageType_REPLY : Sta Z h0 "org/driftcairn/giop/MessageType" "REPLY" "Lorg/driftcairn/giop/MessageType;" (.ref w_MessageType_REPLY)) (ne_w_MessageType_FRAGMENT_w_MessageType_REPLY : ¬ (w_MessageType_FRAGMENT = w_MessageType_REPLY)) (S_MessageType_LOCATE_REQUEST : Sta Z h0 "org/driftcairn/giop/MessageType" "LOCATE_REQUEST" "Lorg/driftcairn/giop/MessageType;" (.ref w_MessageType_LOCATE_REQUEST)) (ne_w_MessageType_FRAGMENT_w_MessageType_LOCATE_REQUEST : ¬ (w_MessageType_FRAGMENT = w_MessageType_LOCATE_REQUEST)) (S_MessageType_LOCATE_REPLY : Sta Z h0 "org/driftcairn/giop/MessageType" "LOCATE_REPLY" "Lorg/driftcairn/giop/MessageType;" (.ref w_MessageType_LOCATE_REPLY)) (ne_w_MessageType_FRAGMENT_w_MessageType_LOCATE_REPLY : ¬ (w_MessageType_FRAGMENT = w_MessageType_LOCATE_REPLY)) (S_MessageType_FRAGMENT : Sta Z h0 "org/driftcairn/giop/MessageType" "FRAGMENT" "Lorg/driftcairn/giop/MessageType;" (.ref w_MessageType_FRAGMENT)) :
    MetFree l (⟨"org/driftcairn/giop/MessageType", "mayBeFragmented", "()Z"⟩ : MethodName) (head1 (Jvm.Cond.code (⟨"org/driftcairn/giop/MessageType", "mayBeFragmented", "()Z"⟩ : MethodName) prog_70_method_5_code 1 (some .boolean) :: ws) ({ frames := 0, cells := 0, slots := 0, locals := 0 } : Room)) (fun a U => a = #[(.ref w_MessageType_FRAGMENT)] ∧ Z.Warmed39 U.vm ∧ U.heap = h0) (fun _ _ _ _ _ => True) (fun _ U o U' => ∃ v L, o = .returned v ∧ own_QP (some (.int (1 : Int32))) h0 n0 v U'.heap L ∧ FrameEnd U o U' L ({ frames := 0, cells := 0, slots := 0, locals := 0 } : Room).cells ({ frames := 0, cells := 0, slots := 0, locals := 0 } : Room).slots) := by
  refine MetFree.of_bodySF (plainFor_of_name pn_1) hisR ?_
  intro p e s m args below meth c s₁ Bd hml0 hP hK
  obtain ⟨rfl, hZ, hh⟩ := hP
  have hx := Bd.exec
  have hby := Bd.bytes
  have hml : c.maxLocals = 1 := hml0
  have hown : s.vm.findClass "org/driftcairn/giop/MessageType" = some m.cls := findClass_of_methodNamed Bd.named
  have hnm := (name_of_methodNamed Bd.named Bd.method).1
  have X0 : Stand p l e ({ frames := 0, cells := 0, slots := 0, locals := 0 } : Room) s m #[(.ref w_MessageType_FRAGMENT)] below meth c s₁ [] 0 0 := Stand.of_body Bd
  have e0 : s₁.heap = h0 := by rw [← hh, Bd.state]; rfl
  have N0 := Fr.nil n0
  have pre0 : ∀ t, Steps p.tables e below (s₁.setTop (mkF m 0 #[rv w_MessageType_FRAGMENT] [])) t → Steps p.tables e below (s₁.setTop (entryFrame m #[(.ref w_MessageType_FRAGMENT)] 1)) t := fun t k => castTop (ef_2_R m w_MessageType_FRAGMENT) k
  obtain ⟨T1, X1, e1, st1⟩ := getS2 X0 hx hZ hown (host := "") (Or.inl (hw _ (List.mem_of_getElem? (i := 12) rfl))) Via.refl e0 S_MessageType_REQUEST (g := (mkF m 1 #[rv w_MessageType_FRAGMENT] [(.ref w_MessageType_FRAGMENT)])) rfl (hb hby d2_1)
  obtain ⟨T2, X2, e2, st2⟩ := getS2 X1 hx hZ hown (host := "") (Or.inl (hw _ (List.mem_of_getElem? (i := 15) rfl))) Via.refl e1 S_MessageType_REPLY (g := (mkF m 8 #[rv w_MessageType_FRAGMENT] [(.ref w_MessageType_FRAGMENT)])) rfl (hb hby d2_8)
  obtain ⟨T3, X3, e3, st3⟩ := getS2 X2 hx hZ hown (host := "") (Or.inl (hw _ (List.mem_of_getElem? (i := 17) rfl))) Via.refl e2 S_MessageType_LOCATE_REQUEST (g := (mkF m 15 #[rv w_MessageType_FRAGMENT] [(.ref w_MessageType_FRAGMENT)])) rfl (hb hby d2_15)
  obtain ⟨T4, X4, e4, st4⟩ := getS2 X3 hx hZ hown (host := "") (Or.inl (hw _ (List.mem_of_getElem? (i := 20) rfl))) Via.refl e3 S_MessageType_LOCATE_REPLY (g := (mkF m 22 #[rv w_MessageType_FRAGMENT] [(.ref w_MessageType_FRAGMENT)])) rfl (hb hby d2_22)
  obtain ⟨T5, X5, e5, st5⟩ := getS2 X4 hx hZ hown (host := "") (Or.inl (hw _ (List.mem_of_getElem? (i := 22) rfl))) Via.refl e4 S_MessageType_FRAGMENT (g := (mkF m 29 #[rv w_MessageType_FRAGMENT] [(.ref w_MessageType_FRAGMENT)])) rfl (hb hby d2_29)
  obtain ⟨fs, hr, hrun, hended, hW, hsame⟩ := X5.leave (v := (some (.int (1 : Int32)))) (fun h => by rw [Bd.returns] at h; cases h)
  refine ⟨_, _, pre0 _ ?_, hrun, hended, _, _, rfl, ?_, ⟨_, rfl⟩, hW, hsame.mono (by decide) (by decide)⟩
  · show Steps p.tables e below (s₁.setTop (mkF m 0 #[rv w_MessageType_FRAGMENT] [])) _
    refine XS.aloadN X0.here hx rfl (hb hby d2_0) rfl rfl ?_
    show Steps p.tables e below (s₁.setTop (mkF m 1 #[rv w_MessageType_FRAGMENT] [(.ref w_MessageType_FRAGMENT)])) _
    refine st1 _ ?_
    show Steps p.tables e below (T1.setTop (mkF m 4 #[rv w_MessageType_FRAGMENT] [(.ref w_MessageType_REQUEST), (.ref w_MessageType_FRAGMENT)])) _
    refine Jvm.RoadKit.acmp (g := (mkF m 4 #[rv w_MessageType_FRAGMENT] [(.ref w_MessageType_REQUEST), (.ref w_MessageType_FRAGMENT)])) X1 hx rfl rfl rfl (pc0 := 4) (pc' := 7) (same := false) rfl (hb hby d2_4) rfl (decide_eq_false fun q => ne_w_MessageType_FRAGMENT_w_MessageType_REQUEST (Value.ref.inj q)) (by decide) (by decide) ?_
    show Steps p.tables e below (T1.setTop (mkF m 7 #[rv w_MessageType_FRAGMENT] [])) _
    refine XS.aloadN X1.here hx rfl (hb hby d2_7) rfl rfl ?_
    show Steps p.tables e below (T1.setTop (mkF m 8 #[rv w_MessageType_FRAGMENT] [(.ref w_MessageType_FRAGMENT)])) _
    refine st2 _ ?_
    show Steps p.tables e below (T2.setTop (mkF m 11 #[rv w_MessageType_FRAGMENT] [(.ref w_MessageType_REPLY), (.ref w_MessageType_FRAGMENT)])) _
    refine Jvm.RoadKit.acmp (g := (mkF m 11 #[rv w_MessageType_FRAGMENT] [(.ref w_MessageType_REPLY), (.ref w_MessageType_FRAGMENT)])) X2 hx rfl rfl rfl (pc0 := 11) (pc' := 14) (same := false) rfl (hb hby d2_11) rfl (decide_eq_false fun q => ne_w_MessageType_FRAGMENT_w_MessageType_REPLY (Value.ref.inj q)) (by decide) (by decide) ?_
    show Steps p.tables e below (T2.setTop (mkF m 14 #[rv w_MessageType_FRAGMENT] [])) _
    refine XS.aloadN X2.here hx rfl (hb hby d2_14) rfl rfl ?_
    show Steps p.tables e below (T2.setTop (mkF m 15 #[rv w_MessageType_FRAGMENT] [(.ref w_MessageType_FRAGMENT)])) _
    refine st3 _ ?_
    show Steps p.tables e below (T3.setTop (mkF m 18 #[rv w_MessageType_FRAGMENT] [(.ref w_MessageType_LOCATE_REQUEST), (.ref w_MessageType_FRAGMENT)])) _
    refine Jvm.RoadKit.acmp (g := (mkF m 18 #[rv w_MessageType_FRAGMENT] [(.ref w_MessageType_LOCATE_REQUEST), (.ref w_MessageType_FRAGMENT)])) X3 hx rfl rfl rfl (pc0 := 18) (pc' := 21) (same := false) rfl (hb hby d2_18) rfl (decide_eq_false fun q => ne_w_MessageType_FRAGMENT_w_MessageType_LOCATE_REQUEST (Value.ref.inj q)) (by decide) (by decide) ?_
    show Steps p.tables e below (T3.setTop (mkF m 21 #[rv w_MessageType_FRAGMENT] [])) _
    refine XS.aloadN X3.here hx rfl (hb hby d2_21) rfl rfl ?_
    show Steps p.tables e below (T3.setTop (mkF m 22 #[rv w_MessageType_FRAGMENT] [(.ref w_MessageType_FRAGMENT)])) _
    refine st4 _ ?_
    show Steps p.tables e below (T4.setTop (mkF m 25 #[rv w_MessageType_FRAGMENT] [(.ref w_MessageType_LOCATE_REPLY), (.ref w_MessageType_FRAGMENT)])) _
    refine Jvm.RoadKit.acmp (g := (mkF m 25 #[rv w_MessageType_FRAGMENT] [(.ref w_MessageType_LOCATE_REPLY), (.ref w_MessageType_FRAGMENT)])) X4 hx rfl rfl rfl (pc0 := 25) (pc' := 28) (same := false) rfl (hb hby d2_25) rfl (decide_eq_false fun q => ne_w_MessageType_FRAGMENT_w_MessageType_LOCATE_REPLY (Value.ref.inj q)) (by decide) (by decide) ?_
    show Steps p.tables e below (T4.setTop (mkF m 28 #[rv w_MessageType_FRAGMENT] [])) _
    refine XS.aloadN X4.here hx rfl (hb hby d2_28) rfl rfl ?_
    show Steps p.tables e below (T4.setTop (mkF m 29 #[rv w_MessageType_FRAGMENT] [(.ref w_MessageType_FRAGMENT)])) _
    refine st5 _ ?_
    show Steps p.tables e below (T5.setTop (mkF m 32 #[rv w_MessageType_FRAGMENT] [(.ref w_MessageType_FRAGMENT), (.ref w_MessageType_FRAGMENT)])) _
    refine Jvm.RoadKit.acmp (g := (mkF m 32 #[rv w_MessageType_FRAGMENT] [(.ref w_MessageType_FRAGMENT), (.ref w_MessageType_FRAGMENT)])) X5 hx rfl rfl rfl (pc0 := 32) (pc' := 35) (same := true) rfl (hb hby d2_32) rfl (decide_eq_true rfl) (by decide) (by decide) ?_
    show Steps p.tables e below (T5.setTop (mkF m 35 #[rv w_MessageType_FRAGMENT] [])) _
    refine XS.iconst X5.here hx rfl (hb hby d2_35) ?_
    show Steps p.tables e below (T5.setTop (mkF m 36 #[rv w_MessageType_FRAGMENT] [(.int (1 : Int32))])) _
    refine XS.goto X5.here hx rfl (pc0 := 36) (pc' := 40) rfl (hb hby d2_36) (by decide) (by decide) ?_
    show Steps p.tables e below (T5.setTop (mkF m 40 #[rv w_MessageType_FRAGMENT] [(.int (1 : Int32))])) _
    exact retN X5 hx (t := .boolean) Bd.returns (by simp) (hb hby d2_40) hr
  · exact ⟨rfl, N0, e5⟩
set_option maxRecDepth 65536 in
set_option maxHeartbeats 40000000 in
theorem rm0_7 (l : Launch) (Z : State) (a0 : Array Value) (hw : ∀ d ∈ tables_1, d.before a0 Z = true) (ws : List Jvm.Cond) (p0 : Int32) (w_MessageType_REQUEST : Addr) (w_MessageType_LOCATE_REQUEST : Addr) (w_MessageType_REPLY : Addr) (w_MessageType_LOCATE_REPLY : Addr) (w_MessageType_FRAGMENT : Addr) (h0 : Heap) (n0 : Nat) (Z0 : n0 ≤ h0.size) (hk0 : (p0 &&& (7 : Int32)) = (7 : Int32)) (S_MessageType_FRAGMENT : Sta Z h0 "org/driftcairn/giop/MessageType" "FRAGMENT" "Lorg/driftcairn/giop/MessageType;" (.ref w_MessageType_FRAGMENT)) (S_MessageType_REQUEST : Sta Z h0 "org/driftcairn/giop/MessageType" "REQUEST" "Lorg/driftcairn/giop/MessageType;" (.ref w_MessageType_REQUEST)) (ne_w_MessageType_FRAGMENT_w_MessageType_REQUEST : ¬ (w_MessageType_FRAGMENT = w_MessageType_REQUEST)) (S_MessageType_REPLY : Sta Z h0 "org/driftcairn/giop/MessageType" "REPLY" "Lorg/driftcairn/giop/MessageType;" (.ref w_MessageType_REPLY)) (ne_w_MessageType_FRAGMENT_w_MessageType_REPLY : ¬ (w_MessageType_FRAGMENT = w_MessageType_REPLY)) (S_MessageType_LOCATE_REQUEST : Sta Z h0 "org/driftcairn/giop/MessageType" "LOCATE_REQUEST" "Lorg/driftcairn/giop/MessageType;" (.ref w_MessageType_LOCATE_REQUEST)) (ne_w_MessageType_FRAGMENT_w_MessageType_LOCATE_REQUEST : ¬ (w_MessageType_FRAGMENT = w_MessageType_LOCATE_REQUEST)) (S_MessageType_LOCATE_REPLY : Sta Z h0 "org/driftcairn/giop/MessageType" "LOCATE_REPLY" "Lorg/driftcairn/giop/MessageType;" (.ref w_MessageType_LOCATE_REPLY)) (ne_w_MessageType_FRAGMENT_w_MessageType_LOCATE_REPLY : ¬ (w_MessageType_FRAGMENT = w_MessageType_LOCATE_REPLY)) (E_w_MessageType_FRAGMENT : Exa Z h0 w_MessageType_FRAGMENT "org/driftcairn/giop/MessageType") :
    MetFree l x (head1 (Jvm.Cond.code x code maxLocals ret :: ws) room_1) (fun a U => a = #[(.int p0)] ∧ Z.Warmed39 U.vm ∧ U.heap = h0) (fun _ _ _ _ _ => True) (fun _ U o U' => ∃ v L, o = .returned v ∧ own_QL n0 v U'.heap L ∧ FrameEnd U o U' L room_1.cells room_1.slots) := by
  refine MetFree.of_bodySF (plainFor_of_name pn_0) hisR ?_
  intro p e s m args below meth c s₁ Bd hml0 hP hK
  obtain ⟨rfl, hZ, hh⟩ := hP
  have hx := Bd.exec
  have hby := Bd.bytes
  have hml : c.maxLocals = 4 := hml0
  have hown : s.vm.findClass "org/driftcairn/giop/MessageTypeMayBeFragmentedPinLaw" = some m.cls := findClass_of_methodNamed Bd.named
  have hnm := (name_of_methodNamed Bd.named Bd.method).1
  have X0 : Stand p l e room_1 s m #[(.int p0)] below meth c s₁ [] 0 0 := Stand.of_body Bd
  have e0 : s₁.heap = h0 := by rw [← hh, Bd.state]; rfl
  have N0 := Fr.nil n0
  have pre0 : ∀ t, Steps p.tables e below (s₁.setTop (mkF m 0 #[iv p0, .unset, .unset, .unset] [])) t → Steps p.tables e below (s₁.setTop (entryFrame m #[(.int p0)] maxLocals)) t := fun t k => castTop (ef_0_I m p0) k
  obtain ⟨_, _, ⟨T1, L1, k1, n1⟩, -, X1, ⟨Lc1, hQ1, l1, y1, z1⟩, st1⟩ := Jvm.LawKit.callS X0 hx (y := (⟨"org/driftcairn/giop/MessageTypeMayBeFragmentedPinLaw", "pick", "(I)Lorg/driftcairn/giop/MessageType;"⟩ : MethodName)) hown (mvT hZ (hw _ (List.mem_of_getElem? (i := 0) rfl))) (mvT hZ (hw _ (List.mem_of_getElem? (i := 1) rfl))) (mvT hZ (hw _ (List.mem_of_getElem? (i := 2) rfl))) (mvT hZ (hw _ (List.mem_of_getElem? (i := 3) rfl))) (by decide) (backOf (W := 0) (rm1_14 l Z a0 hw [] w_MessageType_FRAGMENT h0 n0 Z0 S_MessageType_FRAGMENT) hZ (hw _ (List.mem_of_getElem? (i := 3) rfl)) (hw _ (List.mem_of_getElem? (i := 2) rfl)) (by decide) (by decide)) (g := (mkF m 6 #[iv p0, iv (7 : Int32), .unset, .unset] [(.int (7 : Int32))])) rfl (by rw [hml]; rfl) (argsL := [(.int (7 : Int32))]) (rest := []) (lenOf pd_0 rfl) rfl (by show 2 * 0 + _ ≤ _; exact Nat.le_of_eq rfl) (hb hby at_6) (fun _ _ => ⟨rfl, e0, (by decide : 0 + 0 ≤ _), (by decide : 0 + 0 ≤ _)⟩)
  dsimp only [Pt.U, Pt.locs, Pt.cells, Pt.slots] at X1 l1 y1 z1 st1 hQ1
  subst l1 y1 z1
  obtain ⟨rfl, N1q, e1⟩ := hQ1
  have N1 := Fr.app N0 N1q
  obtain ⟨cq2, kq2, q2a, q2b, q2c⟩ := isOf hZ e1 E_w_MessageType_FRAGMENT
  obtain ⟨_, _, ⟨T2, L2, k2, n2⟩, -, X2, ⟨Lc2, hQ2, l2, y2, z2⟩, st2⟩ := X1.virtualBack hx (y := (⟨"org/driftcairn/giop/MessageType", "mayBeFragmented", "()Z"⟩ : MethodName)) (z := (⟨"org/driftcairn/giop/MessageType", "mayBeFragmented", "()Z"⟩ : MethodName)) hown (mvT hZ (hw _ (List.mem_of_getElem? (i := 7) rfl))) (mvT hZ (hw _ (List.mem_of_getElem? (i := 8) rfl))) (notFace_of_selects (args := #[]) (mvT hZ (hw _ (List.mem_of_getElem? (i := 10) rfl)))) (mvT hZ (hw _ (List.mem_of_getElem? (i := 10) rfl))) (mvT hZ (hw _ (List.mem_of_getElem? (i := 9) rfl))) (by decide) (backOf (W := 0) (rm2_15 l Z a0 hw [] w_MessageType_REQUEST w_MessageType_LOCATE_REQUEST w_MessageType_REPLY w_MessageType_LOCATE_REPLY w_MessageType_FRAGMENT h0 n0 Z0 S_MessageType_REQUEST ne_w_MessageType_FRAGMENT_w_MessageType_REQUEST S_MessageType_REPLY ne_w_MessageType_FRAGMENT_w_MessageType_REPLY S_MessageType_LOCATE_REQUEST ne_w_MessageType_FRAGMENT_w_MessageType_LOCATE_REQUEST S_MessageType_LOCATE_REPLY ne_w_MessageType_FRAGMENT_w_MessageType_LOCATE_REPLY S_MessageType_FRAGMENT) hZ (hw _ (List.mem_of_getElem? (i := 11) rfl)) (hw _ (List.mem_of_getElem? (i := 5) rfl)) (by decide) (by decide)) q2a q2c (g := (mkF m 33 #[iv p0, iv (7 : Int32), rv w_MessageType_FRAGMENT, iv (1 : Int32)] [(.ref w_MessageType_FRAGMENT)])) rfl (by rw [hml]; rfl) (Steps.refl _) (argsL := []) (rest := []) (lenOf pd_1 rfl) rfl (by show 2 * 0 + _ ≤ _; exact Nat.le_of_eq rfl) (hb hby at_33) (fun _ _ => ⟨rfl, e1, (by decide : 0 + 0 ≤ _), (by decide : 0 + 0 ≤ _)⟩)
  dsimp only [Pt.U, Pt.locs, Pt.cells, Pt.slots] at X2 l2 y2 z2 st2 hQ2
  subst l2 y2 z2
  obtain ⟨rfl, N2q, e2⟩ := hQ2
  have N2 := Fr.app N1 N2q
  obtain ⟨fs, hr, hrun, hended, hW, hsame⟩ := X2.leave (v := (some (.int (1 : Int32)))) (fun h => by rw [Bd.returns] at h; cases h)
  refine ⟨_, _, pre0 _ ?_, hrun, hended, _, _, rfl, ?_, ⟨_, rfl⟩, hW, hsame.mono (by decide) (by decide)⟩
  · show Steps p.tables e below (s₁.setTop (mkF m 0 #[iv p0, .unset, .unset, .unset] [])) _
    refine XS.iloadN X0.here hx rfl (hb hby at_0) rfl ?_
    show Steps p.tables e below (s₁.setTop (mkF m 1 #[iv p0, .unset, .unset, .unset] [(.int p0)])) _
    refine XS.bipush X0.here hx rfl (hb hby at_1) ?_
    show Steps p.tables e below (s₁.setTop (mkF m 3 #[iv p0, .unset, .unset, .unset] [(.int (7 : Int32)), (.int p0)])) _
    refine XS.iand X0.here hx rfl (hb hby at_3) rfl ?_
    show Steps p.tables e below (s₁.setTop (mkF m 4 #[iv p0, .unset, .unset, .unset] [(.int (p0 &&& (7 : Int32)))])) _
    rewrite [hk0]
    show Steps p.tables e below (s₁.setTop (mkF m 4 #[iv p0, .unset, .unset, .unset] [(.int (7 : Int32))])) _
    refine XS.istoreN X0.here hx rfl (hb hby at_4) rfl (l' := #[iv p0, iv (7 : Int32), .unset, .unset]) rfl ?_
    show Steps p.tables e below (s₁.setTop (mkF m 5 #[iv p0, iv (7 : Int32), .unset, .unset] [])) _
    refine XS.iloadN X0.here hx rfl (hb hby at_5) rfl ?_
    show Steps p.tables e below (s₁.setTop (mkF m 6 #[iv p0, iv (7 : Int32), .unset, .unset] [(.int (7 : Int32))])) _
    refine st1 _ ?_
    show Steps p.tables e below (T1.setTop (mkF m 9 #[iv p0, iv (7 : Int32), .unset, .unset] [(.ref w_MessageType_FRAGMENT)])) _
    refine XS.astoreN X1.here hx rfl (hb hby at_9) rfl rfl (l' := #[iv p0, iv (7 : Int32), rv w_MessageType_FRAGMENT, .unset]) rfl ?_
    show Steps p.tables e below (T1.setTop (mkF m 10 #[iv p0, iv (7 : Int32), rv w_MessageType_FRAGMENT, .unset] [])) _
    refine XS.iloadN X1.here hx rfl (hb hby at_10) rfl ?_
    show Steps p.tables e below (T1.setTop (mkF m 11 #[iv p0, iv (7 : Int32), rv w_MessageType_FRAGMENT, .unset] [(.int (7 : Int32))])) _
    refine XS.iconst X1.here hx rfl (hb hby at_11) ?_
    show Steps p.tables e below (T1.setTop (mkF m 12 #[iv p0, iv (7 : Int32), rv w_MessageType_FRAGMENT, .unset] [(.int (4 : Int32)), (.int (7 : Int32))])) _
    refine XS.icmpYes X1.here hx rfl (pc0 := 12) (pc' := 20) rfl (hb hby at_12) rfl (tlt (by decide +kernel : (4 : Int32) < (7 : Int32))).2.2.1 (by decide) (by decide) ?_
    show Steps p.tables e below (T1.setTop (mkF m 20 #[iv p0, iv (7 : Int32), rv w_MessageType_FRAGMENT, .unset] [])) _
    refine XS.iloadN X1.here hx rfl (hb hby at_20) rfl ?_
    show Steps p.tables e below (T1.setTop (mkF m 21 #[iv p0, iv (7 : Int32), rv w_MessageType_FRAGMENT, .unset] [(.int (7 : Int32))])) _
    refine XS.bipush X1.here hx rfl (hb hby at_21) ?_
    show Steps p.tables e below (T1.setTop (mkF m 23 #[iv p0, iv (7 : Int32), rv w_MessageType_FRAGMENT, .unset] [(.int (7 : Int32)), (.int (7 : Int32))])) _
    refine XS.icmpNo X1.here hx rfl (hb hby at_23) rfl (teq (by decide +kernel : (7 : Int32) = (7 : Int32))).2 ?_
    show Steps p.tables e below (T1.setTop (mkF m 26 #[iv p0, iv (7 : Int32), rv w_MessageType_FRAGMENT, .unset] [])) _
    refine XS.iconst X1.here hx rfl (hb hby at_26) ?_
    show Steps p.tables e below (T1.setTop (mkF m 27 #[iv p0, iv (7 : Int32), rv w_MessageType_FRAGMENT, .unset] [(.int (1 : Int32))])) _
    refine XS.goto X1.here hx rfl (pc0 := 27) (pc' := 31) rfl (hb hby at_27) (by decide) (by decide) ?_
    show Steps p.tables e below (T1.setTop (mkF m 31 #[iv p0, iv (7 : Int32), rv w_MessageType_FRAGMENT, .unset] [(.int (1 : Int32))])) _
    refine XS.istoreN X1.here hx rfl (hb hby at_31) rfl (l' := #[iv p0, iv (7 : Int32), rv w_MessageType_FRAGMENT, iv (1 : Int32)]) rfl ?_
    show Steps p.tables e below (T1.setTop (mkF m 32 #[iv p0, iv (7 : Int32), rv w_MessageType_FRAGMENT, iv (1 : Int32)] [])) _
    refine XS.aloadN X1.here hx rfl (hb hby at_32) rfl rfl ?_
    show Steps p.tables e below (T1.setTop (mkF m 33 #[iv p0, iv (7 : Int32), rv w_MessageType_FRAGMENT, iv (1 : Int32)] [(.ref w_MessageType_FRAGMENT)])) _
    refine st2.trans ?_
    show Steps p.tables e below (T2.setTop (mkF m 36 #[iv p0, iv (7 : Int32), rv w_MessageType_FRAGMENT, iv (1 : Int32)] [(.int (1 : Int32))])) _
    refine XS.iloadN X2.here hx rfl (hb hby at_36) rfl ?_
    show Steps p.tables e below (T2.setTop (mkF m 37 #[iv p0, iv (7 : Int32), rv w_MessageType_FRAGMENT, iv (1 : Int32)] [(.int (1 : Int32)), (.int (1 : Int32))])) _
    refine XS.icmpNo X2.here hx rfl (hb hby at_37) rfl (teq (by decide +kernel : (1 : Int32) = (1 : Int32))).2 ?_
    show Steps p.tables e below (T2.setTop (mkF m 40 #[iv p0, iv (7 : Int32), rv w_MessageType_FRAGMENT, iv (1 : Int32)] [])) _
    refine XS.iconst X2.here hx rfl (hb hby at_40) ?_
    show Steps p.tables e below (T2.setTop (mkF m 41 #[iv p0, iv (7 : Int32), rv w_MessageType_FRAGMENT, iv (1 : Int32)] [(.int (1 : Int32))])) _
    refine XS.goto X2.here hx rfl (pc0 := 41) (pc' := 45) rfl (hb hby at_41) (by decide) (by decide) ?_
    show Steps p.tables e below (T2.setTop (mkF m 45 #[iv p0, iv (7 : Int32), rv w_MessageType_FRAGMENT, iv (1 : Int32)] [(.int (1 : Int32))])) _
    exact retN X2 hx (t := .boolean) Bd.returns (by simp) (hb hby at_45) hr
  · exact ⟨rfl, N2⟩
theorem rm0 (l : Launch) (Z : State) (a0 : Array Value) (hw : ∀ d ∈ tables_1, d.before a0 Z = true) (ws : List Jvm.Cond) (p0 : Int32) (w_MessageType_REQUEST : Addr) (w_MessageType_LOCATE_REQUEST : Addr) (w_MessageType_REPLY : Addr) (w_MessageType_MESSAGE_ERROR : Addr) (w_MessageType_LOCATE_REPLY : Addr) (w_MessageType_FRAGMENT : Addr) (w_MessageType_CANCEL_REQUEST : Addr) (w_MessageType_CLOSE_CONNECTION : Addr) (h0 : Heap) (n0 : Nat) (Z0 : n0 ≤ h0.size) (S_MessageType_REQUEST : Sta Z h0 "org/driftcairn/giop/MessageType" "REQUEST" "Lorg/driftcairn/giop/MessageType;" (.ref w_MessageType_REQUEST)) (E_w_MessageType_REQUEST : Exa Z h0 w_MessageType_REQUEST "org/driftcairn/giop/MessageType") (S_MessageType_REPLY : Sta Z h0 "org/driftcairn/giop/MessageType" "REPLY" "Lorg/driftcairn/giop/MessageType;" (.ref w_MessageType_REPLY)) (ne_w_MessageType_REPLY_w_MessageType_REQUEST : ¬ (w_MessageType_REPLY = w_MessageType_REQUEST)) (E_w_MessageType_REPLY : Exa Z h0 w_MessageType_REPLY "org/driftcairn/giop/MessageType") (S_MessageType_CANCEL_REQUEST : Sta Z h0 "org/driftcairn/giop/MessageType" "CANCEL_REQUEST" "Lorg/driftcairn/giop/MessageType;" (.ref w_MessageType_CANCEL_REQUEST)) (ne_w_MessageType_CANCEL_REQUEST_w_MessageType_REQUEST : ¬ (w_MessageType_CANCEL_REQUEST = w_MessageType_REQUEST)) (ne_w_MessageType_CANCEL_REQUEST_w_MessageType_REPLY : ¬ (w_MessageType_CANCEL_REQUEST = w_MessageType_REPLY)) (S_MessageType_LOCATE_REQUEST : Sta Z h0 "org/driftcairn/giop/MessageType" "LOCATE_REQUEST" "Lorg/driftcairn/giop/MessageType;" (.ref w_MessageType_LOCATE_REQUEST)) (ne_w_MessageType_CANCEL_REQUEST_w_MessageType_LOCATE_REQUEST : ¬ (w_MessageType_CANCEL_REQUEST = w_MessageType_LOCATE_REQUEST)) (S_MessageType_LOCATE_REPLY : Sta Z h0 "org/driftcairn/giop/MessageType" "LOCATE_REPLY" "Lorg/driftcairn/giop/MessageType;" (.ref w_MessageType_LOCATE_REPLY)) (ne_w_MessageType_CANCEL_REQUEST_w_MessageType_LOCATE_REPLY : ¬ (w_MessageType_CANCEL_REQUEST = w_MessageType_LOCATE_REPLY)) (S_MessageType_FRAGMENT : Sta Z h0 "org/driftcairn/giop/MessageType" "FRAGMENT" "Lorg/driftcairn/giop/MessageType;" (.ref w_MessageType_FRAGMENT)) (ne_w_MessageType_CANCEL_REQUEST_w_MessageType_FRAGMENT : ¬ (w_MessageType_CANCEL_REQUEST = w_MessageType_FRAGMENT)) (E_w_MessageType_CANCEL_REQUEST : Exa Z h0 w_MessageType_CANCEL_REQUEST "org/driftcairn/giop/MessageType") (ne_w_MessageType_LOCATE_REQUEST_w_MessageType_REQUEST : ¬ (w_MessageType_LOCATE_REQUEST = w_MessageType_REQUEST)) (ne_w_MessageType_LOCATE_REQUEST_w_MessageType_REPLY : ¬ (w_MessageType_LOCATE_REQUEST = w_MessageType_REPLY)) (E_w_MessageType_LOCATE_REQUEST : Exa Z h0 w_MessageType_LOCATE_REQUEST "org/driftcairn/giop/MessageType") (ne_w_MessageType_LOCATE_REPLY_w_MessageType_REQUEST : ¬ (w_MessageType_LOCATE_REPLY = w_MessageType_REQUEST)) (ne_w_MessageType_LOCATE_REPLY_w_MessageType_REPLY : ¬ (w_MessageType_LOCATE_REPLY = w_MessageType_REPLY)) (ne_w_MessageType_LOCATE_REPLY_w_MessageType_LOCATE_REQUEST : ¬ (w_MessageType_LOCATE_REPLY = w_MessageType_LOCATE_REQUEST)) (E_w_MessageType_LOCATE_REPLY : Exa Z h0 w_MessageType_LOCATE_REPLY "org/driftcairn/giop/MessageType") (S_MessageType_CLOSE_CONNECTION : Sta Z h0 "org/driftcairn/giop/MessageType" "CLOSE_CONNECTION" "Lorg/driftcairn/giop/MessageType;" (.ref w_MessageType_CLOSE_CONNECTION)) (ne_w_MessageType_CLOSE_CONNECTION_w_MessageType_REQUEST : ¬ (w_MessageType_CLOSE_CONNECTION = w_MessageType_REQUEST)) (ne_w_MessageType_CLOSE_CONNECTION_w_MessageType_REPLY : ¬ (w_MessageType_CLOSE_CONNECTION = w_MessageType_REPLY)) (ne_w_MessageType_CLOSE_CONNECTION_w_MessageType_LOCATE_REQUEST : ¬ (w_MessageType_CLOSE_CONNECTION = w_MessageType_LOCATE_REQUEST)) (ne_w_MessageType_CLOSE_CONNECTION_w_MessageType_LOCATE_REPLY : ¬ (w_MessageType_CLOSE_CONNECTION = w_MessageType_LOCATE_REPLY)) (ne_w_MessageType_CLOSE_CONNECTION_w_MessageType_FRAGMENT : ¬ (w_MessageType_CLOSE_CONNECTION = w_MessageType_FRAGMENT)) (E_w_MessageType_CLOSE_CONNECTION : Exa Z h0 w_MessageType_CLOSE_CONNECTION "org/driftcairn/giop/MessageType") (S_MessageType_MESSAGE_ERROR : Sta Z h0 "org/driftcairn/giop/MessageType" "MESSAGE_ERROR" "Lorg/driftcairn/giop/MessageType;" (.ref w_MessageType_MESSAGE_ERROR)) (ne_w_MessageType_MESSAGE_ERROR_w_MessageType_REQUEST : ¬ (w_MessageType_MESSAGE_ERROR = w_MessageType_REQUEST)) (ne_w_MessageType_MESSAGE_ERROR_w_MessageType_REPLY : ¬ (w_MessageType_MESSAGE_ERROR = w_MessageType_REPLY)) (ne_w_MessageType_LOCATE_REQUEST_w_MessageType_MESSAGE_ERROR : ¬ (w_MessageType_LOCATE_REQUEST = w_MessageType_MESSAGE_ERROR)) (ne_w_MessageType_LOCATE_REPLY_w_MessageType_MESSAGE_ERROR : ¬ (w_MessageType_LOCATE_REPLY = w_MessageType_MESSAGE_ERROR)) (ne_w_MessageType_FRAGMENT_w_MessageType_MESSAGE_ERROR : ¬ (w_MessageType_FRAGMENT = w_MessageType_MESSAGE_ERROR)) (E_w_MessageType_MESSAGE_ERROR : Exa Z h0 w_MessageType_MESSAGE_ERROR "org/driftcairn/giop/MessageType") (ne_w_MessageType_FRAGMENT_w_MessageType_REQUEST : ¬ (w_MessageType_FRAGMENT = w_MessageType_REQUEST)) (ne_w_MessageType_FRAGMENT_w_MessageType_REPLY : ¬ (w_MessageType_FRAGMENT = w_MessageType_REPLY)) (ne_w_MessageType_FRAGMENT_w_MessageType_LOCATE_REQUEST : ¬ (w_MessageType_FRAGMENT = w_MessageType_LOCATE_REQUEST)) (ne_w_MessageType_FRAGMENT_w_MessageType_LOCATE_REPLY : ¬ (w_MessageType_FRAGMENT = w_MessageType_LOCATE_REPLY)) (E_w_MessageType_FRAGMENT : Exa Z h0 w_MessageType_FRAGMENT "org/driftcairn/giop/MessageType") :
    MetFree l x (head1 (Jvm.Cond.code x code maxLocals ret :: ws) room_1) (fun a U => a = #[(.int p0)] ∧ Z.Warmed39 U.vm ∧ U.heap = h0) (fun _ _ _ _ _ => True) (fun _ U o U' => ∃ v L, o = .returned v ∧ own_QL n0 v U'.heap L ∧ FrameEnd U o U' L room_1.cells room_1.slots) := by
  rcases own_s0 p0 with hk0 | hk0 | hk0 | hk0 | hk0 | hk0 | hk0 | hk0
  · exact rm0_0 l Z a0 hw ws p0 w_MessageType_REQUEST h0 n0 Z0 hk0 S_MessageType_REQUEST E_w_MessageType_REQUEST
  · exact rm0_1 l Z a0 hw ws p0 w_MessageType_REQUEST w_MessageType_REPLY h0 n0 Z0 hk0 S_MessageType_REPLY S_MessageType_REQUEST ne_w_MessageType_REPLY_w_MessageType_REQUEST E_w_MessageType_REPLY
  · exact rm0_2 l Z a0 hw ws p0 w_MessageType_REQUEST w_MessageType_LOCATE_REQUEST w_MessageType_REPLY w_MessageType_LOCATE_REPLY w_MessageType_FRAGMENT w_MessageType_CANCEL_REQUEST h0 n0 Z0 hk0 S_MessageType_CANCEL_REQUEST S_MessageType_REQUEST ne_w_MessageType_CANCEL_REQUEST_w_MessageType_REQUEST S_MessageType_REPLY ne_w_MessageType_CANCEL_REQUEST_w_MessageType_REPLY S_MessageType_LOCATE_REQUEST ne_w_MessageType_CANCEL_REQUEST_w_MessageType_LOCATE_REQUEST S_MessageType_LOCATE_REPLY ne_w_MessageType_CANCEL_REQUEST_w_MessageType_LOCATE_REPLY S_MessageType_FRAGMENT ne_w_MessageType_CANCEL_REQUEST_w_MessageType_FRAGMENT E_w_MessageType_CANCEL_REQUEST
  · exact rm0_3 l Z a0 hw ws p0 w_MessageType_REQUEST w_MessageType_LOCATE_REQUEST w_MessageType_REPLY h0 n0 Z0 hk0 S_MessageType_LOCATE_REQUEST S_MessageType_REQUEST ne_w_MessageType_LOCATE_REQUEST_w_MessageType_REQUEST S_MessageType_REPLY ne_w_MessageType_LOCATE_REQUEST_w_MessageType_REPLY E_w_MessageType_LOCATE_REQUEST
  · exact rm0_4 l Z a0 hw ws p0 w_MessageType_REQUEST w_MessageType_LOCATE_REQUEST w_MessageType_REPLY w_MessageType_LOCATE_REPLY h0 n0 Z0 hk0 S_MessageType_LOCATE_REPLY S_MessageType_REQUEST ne_w_MessageType_LOCATE_REPLY_w_MessageType_REQUEST S_MessageType_REPLY ne_w_MessageType_LOCATE_REPLY_w_MessageType_REPLY S_MessageType_LOCATE_REQUEST ne_w_MessageType_LOCATE_REPLY_w_MessageType_LOCATE_REQUEST E_w_MessageType_LOCATE_REPLY
  · exact rm0_5 l Z a0 hw ws p0 w_MessageType_REQUEST w_MessageType_LOCATE_REQUEST w_MessageType_REPLY w_MessageType_LOCATE_REPLY w_MessageType_FRAGMENT w_MessageType_CLOSE_CONNECTION h0 n0 Z0 hk0 S_MessageType_CLOSE_CONNECTION S_MessageType_REQUEST ne_w_MessageType_CLOSE_CONNECTION_w_MessageType_REQUEST S_MessageType_REPLY ne_w_MessageType_CLOSE_CONNECTION_w_MessageType_REPLY S_MessageType_LOCATE_REQUEST ne_w_MessageType_CLOSE_CONNECTION_w_MessageType_LOCATE_REQUEST S_MessageType_LOCATE_REPLY ne_w_MessageType_CLOSE_CONNECTION_w_MessageType_LOCATE_REPLY S_MessageType_FRAGMENT ne_w_MessageType_CLOSE_CONNECTION_w_MessageType_FRAGMENT E_w_MessageType_CLOSE_CONNECTION
  · exact rm0_6 l Z a0 hw ws p0 w_MessageType_REQUEST w_MessageType_LOCATE_REQUEST w_MessageType_REPLY w_MessageType_MESSAGE_ERROR w_MessageType_LOCATE_REPLY w_MessageType_FRAGMENT h0 n0 Z0 hk0 S_MessageType_MESSAGE_ERROR S_MessageType_REQUEST ne_w_MessageType_MESSAGE_ERROR_w_MessageType_REQUEST S_MessageType_REPLY ne_w_MessageType_MESSAGE_ERROR_w_MessageType_REPLY S_MessageType_LOCATE_REQUEST ne_w_MessageType_LOCATE_REQUEST_w_MessageType_MESSAGE_ERROR S_MessageType_LOCATE_REPLY ne_w_MessageType_LOCATE_REPLY_w_MessageType_MESSAGE_ERROR S_MessageType_FRAGMENT ne_w_MessageType_FRAGMENT_w_MessageType_MESSAGE_ERROR E_w_MessageType_MESSAGE_ERROR
  · exact rm0_7 l Z a0 hw ws p0 w_MessageType_REQUEST w_MessageType_LOCATE_REQUEST w_MessageType_REPLY w_MessageType_LOCATE_REPLY w_MessageType_FRAGMENT h0 n0 Z0 hk0 S_MessageType_FRAGMENT S_MessageType_REQUEST ne_w_MessageType_FRAGMENT_w_MessageType_REQUEST S_MessageType_REPLY ne_w_MessageType_FRAGMENT_w_MessageType_REPLY S_MessageType_LOCATE_REQUEST ne_w_MessageType_FRAGMENT_w_MessageType_LOCATE_REQUEST S_MessageType_LOCATE_REPLY ne_w_MessageType_FRAGMENT_w_MessageType_LOCATE_REPLY E_w_MessageType_FRAGMENT
set_option maxRecDepth 65536 in
set_option maxHeartbeats 40000000 in
theorem comes_1 {Post : Tables → Env → Array Value → State → Outcome → State → Prop} (hpost : ∀ tb e args s v u, (limb_1_1.after args s (.returned v) u = true ∧ limb_1_2.after args s (.returned v) u = true ∧ True) → FrameEnd s (.returned v) u (Jvm.fieldLocs frame_1_writes args s ++ Jvm.arrayLocs frame_1_arrays args s ++ Jvm.staticLocs frame_1_statics s) 0 0 → Post tb e args s (.returned v) u) :
    ArmFor flags0 classFile x code maxLocals ret World_1 tables_1 room_1 Calls_1 rest_1 Pre_1 Post := by
  intro l hfl _ _ p e ha hc hk s m args below hf hA hF happ hP
  obtain ⟨hcalls, hrest, hpre⟩ := hP
  obtain ⟨-, -, -, hnamed, -, -, -, hat⟩ := (Spec.applies_iff hf).mp happ
  obtain ⟨hg, hn⟩ := and_e (Cond.before_iff.mp (show (Jvm.Cond.and given_1 narrow_1).before args s = true from hpre))
  obtain ⟨g0, g0r⟩ := and_e hg
  obtain ⟨v0, rfl⟩ : ∃ v0 : Value, args = #[v0] := by
    have hs : args.size = 1 := by simpa [Cond.value, given_1] using g0
    obtain ⟨L⟩ := args
    match L, hs with
    | [v0], _ => exact ⟨v0, rfl⟩
  have hw := fun d (hd : d ∈ tables_1) => atoms_spec (ws := Jvm.Cond.code x code maxLocals ret :: tables_1) hat d (List.mem_cons_of_mem _ hd)
  have hfit : Fit s := fun {y c} hc i hi => by
    obtain ⟨ha, rfl⟩ := Array.getElem?_eq_some_iff.mp hc
    have q := List.all_eq_true.mp ((Array.all_eq_true_iff_forall_mem.mp hF) _ (Array.getElem_mem ha)) i (List.mem_range.mpr hi)
    simpa [Array.getElem?_eq_getElem hi] using q
  obtain ⟨p0, ei0⟩ := is_v g0r
  obtain rfl : v0 = (.int p0) := Option.some.inj ei0
  obtain ⟨n0, n0r⟩ := and_e hn
  obtain ⟨n1, n1r⟩ := and_e n0r
  obtain ⟨n2, n2r⟩ := and_e n1r
  obtain ⟨n3, n3r⟩ := and_e n2r
  obtain ⟨n4, n4r⟩ := and_e n3r
  obtain ⟨n5, n5r⟩ := and_e n4r
  obtain ⟨n6, n6r⟩ := and_e n5r
  obtain ⟨n7, n7r⟩ := and_e n6r
  obtain ⟨n8, n8r⟩ := and_e n7r
  obtain ⟨n9, n9r⟩ := and_e n8r
  obtain ⟨n10, n10r⟩ := and_e n9r
  obtain ⟨n11, n11r⟩ := and_e n10r
  obtain ⟨n12, n12r⟩ := and_e n11r
  obtain ⟨n13, n13r⟩ := and_e n12r
  obtain ⟨n14, n14r⟩ := and_e n13r
  obtain ⟨w_MessageType_REQUEST, ev_w_MessageType_REQUEST⟩ := exa_v n0
  have S_MessageType_REQUEST : Sta s s.heap "org/driftcairn/giop/MessageType" "REQUEST" "Lorg/driftcairn/giop/MessageType;" (.ref w_MessageType_REQUEST) := Sta.start ev_w_MessageType_REQUEST (Or.inr ⟨(hw _ (List.mem_of_getElem? (i := 5) rfl)), (hw _ (List.mem_of_getElem? (i := 6) rfl))⟩)
  have E_w_MessageType_REQUEST : Exa s s.heap w_MessageType_REQUEST "org/driftcairn/giop/MessageType" := Exa.start ev_w_MessageType_REQUEST n0
  obtain ⟨w_MessageType_LOCATE_REQUEST, ev_w_MessageType_LOCATE_REQUEST⟩ := exa_v n1
  have S_MessageType_LOCATE_REQUEST : Sta s s.heap "org/driftcairn/giop/MessageType" "LOCATE_REQUEST" "Lorg/driftcairn/giop/MessageType;" (.ref w_MessageType_LOCATE_REQUEST) := Sta.start ev_w_MessageType_LOCATE_REQUEST (Or.inr ⟨(hw _ (List.mem_of_getElem? (i := 5) rfl)), (hw _ (List.mem_of_getElem? (i := 14) rfl))⟩)
  have E_w_MessageType_LOCATE_REQUEST : Exa s s.heap w_MessageType_LOCATE_REQUEST "org/driftcairn/giop/MessageType" := Exa.start ev_w_MessageType_LOCATE_REQUEST n1
  obtain ⟨w_MessageType_REPLY, ev_w_MessageType_REPLY⟩ := exa_v n4
  have S_MessageType_REPLY : Sta s s.heap "org/driftcairn/giop/MessageType" "REPLY" "Lorg/driftcairn/giop/MessageType;" (.ref w_MessageType_REPLY) := Sta.start ev_w_MessageType_REPLY (Or.inr ⟨(hw _ (List.mem_of_getElem? (i := 5) rfl)), (hw _ (List.mem_of_getElem? (i := 16) rfl))⟩)
  have E_w_MessageType_REPLY : Exa s s.heap w_MessageType_REPLY "org/driftcairn/giop/MessageType" := Exa.start ev_w_MessageType_REPLY n4
  obtain ⟨w_MessageType_MESSAGE_ERROR, ev_w_MessageType_MESSAGE_ERROR⟩ := exa_v n6
  have S_MessageType_MESSAGE_ERROR : Sta s s.heap "org/driftcairn/giop/MessageType" "MESSAGE_ERROR" "Lorg/driftcairn/giop/MessageType;" (.ref w_MessageType_MESSAGE_ERROR) := Sta.start ev_w_MessageType_MESSAGE_ERROR (Or.inr ⟨(hw _ (List.mem_of_getElem? (i := 5) rfl)), (hw _ (List.mem_of_getElem? (i := 19) rfl))⟩)
  have E_w_MessageType_MESSAGE_ERROR : Exa s s.heap w_MessageType_MESSAGE_ERROR "org/driftcairn/giop/MessageType" := Exa.start ev_w_MessageType_MESSAGE_ERROR n6
  obtain ⟨w_MessageType_LOCATE_REPLY, ev_w_MessageType_LOCATE_REPLY⟩ := exa_v n8
  have S_MessageType_LOCATE_REPLY : Sta s s.heap "org/driftcairn/giop/MessageType" "LOCATE_REPLY" "Lorg/driftcairn/giop/MessageType;" (.ref w_MessageType_LOCATE_REPLY) := Sta.start ev_w_MessageType_LOCATE_REPLY (Or.inr ⟨(hw _ (List.mem_of_getElem? (i := 5) rfl)), (hw _ (List.mem_of_getElem? (i := 21) rfl))⟩)
  have E_w_MessageType_LOCATE_REPLY : Exa s s.heap w_MessageType_LOCATE_REPLY "org/driftcairn/giop/MessageType" := Exa.start ev_w_MessageType_LOCATE_REPLY n8
  obtain ⟨w_MessageType_FRAGMENT, ev_w_MessageType_FRAGMENT⟩ := exa_v n10
  have S_MessageType_FRAGMENT : Sta s s.heap "org/driftcairn/giop/MessageType" "FRAGMENT" "Lorg/driftcairn/giop/MessageType;" (.ref w_MessageType_FRAGMENT) := Sta.start ev_w_MessageType_FRAGMENT (Or.inr ⟨(hw _ (List.mem_of_getElem? (i := 5) rfl)), (hw _ (List.mem_of_getElem? (i := 23) rfl))⟩)
  have E_w_MessageType_FRAGMENT : Exa s s.heap w_MessageType_FRAGMENT "org/driftcairn/giop/MessageType" := Exa.start ev_w_MessageType_FRAGMENT n10
  obtain ⟨w_MessageType_CANCEL_REQUEST, ev_w_MessageType_CANCEL_REQUEST⟩ := exa_v n12
  have S_MessageType_CANCEL_REQUEST : Sta s s.heap "org/driftcairn/giop/MessageType" "CANCEL_REQUEST" "Lorg/driftcairn/giop/MessageType;" (.ref w_MessageType_CANCEL_REQUEST) := Sta.start ev_w_MessageType_CANCEL_REQUEST (Or.inr ⟨(hw _ (List.mem_of_getElem? (i := 5) rfl)), (hw _ (List.mem_of_getElem? (i := 26) rfl))⟩)
  have E_w_MessageType_CANCEL_REQUEST : Exa s s.heap w_MessageType_CANCEL_REQUEST "org/driftcairn/giop/MessageType" := Exa.start ev_w_MessageType_CANCEL_REQUEST n12
  obtain ⟨w_MessageType_CLOSE_CONNECTION, ev_w_MessageType_CLOSE_CONNECTION⟩ := exa_v n14
  have S_MessageType_CLOSE_CONNECTION : Sta s s.heap "org/driftcairn/giop/MessageType" "CLOSE_CONNECTION" "Lorg/driftcairn/giop/MessageType;" (.ref w_MessageType_CLOSE_CONNECTION) := Sta.start ev_w_MessageType_CLOSE_CONNECTION (Or.inr ⟨(hw _ (List.mem_of_getElem? (i := 5) rfl)), (hw _ (List.mem_of_getElem? (i := 30) rfl))⟩)
  have E_w_MessageType_CLOSE_CONNECTION : Exa s s.heap w_MessageType_CLOSE_CONNECTION "org/driftcairn/giop/MessageType" := Exa.start ev_w_MessageType_CLOSE_CONNECTION n14
  have F_w_MessageType_LOCATE_REQUEST_ordinal : Fld s s.heap w_MessageType_LOCATE_REQUEST "java/lang/Enum" "ordinal" "I" (.int (3 : Int32)) := Fld.start ((fld_at ev_w_MessageType_LOCATE_REQUEST).symm.trans (own_eqv n2 (Term.int_eval _) (Or.inr ⟨_, rfl⟩)))
  have F_w_MessageType_REQUEST_ordinal : Fld s s.heap w_MessageType_REQUEST "java/lang/Enum" "ordinal" "I" (.int (0 : Int32)) := Fld.start ((fld_at ev_w_MessageType_REQUEST).symm.trans (own_eqv n3 (Term.int_eval _) (Or.inr ⟨_, rfl⟩)))
  have F_w_MessageType_REPLY_ordinal : Fld s s.heap w_MessageType_REPLY "java/lang/Enum" "ordinal" "I" (.int (1 : Int32)) := Fld.start ((fld_at ev_w_MessageType_REPLY).symm.trans (own_eqv n5 (Term.int_eval _) (Or.inr ⟨_, rfl⟩)))
  have F_w_MessageType_MESSAGE_ERROR_ordinal : Fld s s.heap w_MessageType_MESSAGE_ERROR "java/lang/Enum" "ordinal" "I" (.int (6 : Int32)) := Fld.start ((fld_at ev_w_MessageType_MESSAGE_ERROR).symm.trans (own_eqv n7 (Term.int_eval _) (Or.inr ⟨_, rfl⟩)))
  have F_w_MessageType_LOCATE_REPLY_ordinal : Fld s s.heap w_MessageType_LOCATE_REPLY "java/lang/Enum" "ordinal" "I" (.int (4 : Int32)) := Fld.start ((fld_at ev_w_MessageType_LOCATE_REPLY).symm.trans (own_eqv n9 (Term.int_eval _) (Or.inr ⟨_, rfl⟩)))
  have F_w_MessageType_FRAGMENT_ordinal : Fld s s.heap w_MessageType_FRAGMENT "java/lang/Enum" "ordinal" "I" (.int (7 : Int32)) := Fld.start ((fld_at ev_w_MessageType_FRAGMENT).symm.trans (own_eqv n11 (Term.int_eval _) (Or.inr ⟨_, rfl⟩)))
  have F_w_MessageType_CANCEL_REQUEST_ordinal : Fld s s.heap w_MessageType_CANCEL_REQUEST "java/lang/Enum" "ordinal" "I" (.int (2 : Int32)) := Fld.start ((fld_at ev_w_MessageType_CANCEL_REQUEST).symm.trans (own_eqv n13 (Term.int_eval _) (Or.inr ⟨_, rfl⟩)))
  have F_w_MessageType_CLOSE_CONNECTION_ordinal : Fld s s.heap w_MessageType_CLOSE_CONNECTION "java/lang/Enum" "ordinal" "I" (.int (5 : Int32)) := Fld.start ((fld_at ev_w_MessageType_CLOSE_CONNECTION).symm.trans (own_eqv n14r (Term.int_eval _) (Or.inr ⟨_, rfl⟩)))
  obtain ⟨n, o, h1, h2, h3, _, L, rfl, ⟨rfl, N⟩, hq⟩ := rm0 l s _ hw tables_1 p0 w_MessageType_REQUEST w_MessageType_LOCATE_REQUEST w_MessageType_REPLY w_MessageType_MESSAGE_ERROR w_MessageType_LOCATE_REPLY w_MessageType_FRAGMENT w_MessageType_CANCEL_REQUEST w_MessageType_CLOSE_CONNECTION s.heap s.heap.size (Nat.le_refl _) S_MessageType_REQUEST E_w_MessageType_REQUEST S_MessageType_REPLY (Ne.symm (Fld.ne F_w_MessageType_REQUEST_ordinal F_w_MessageType_REPLY_ordinal (own_nei (by decide +kernel)))) E_w_MessageType_REPLY S_MessageType_CANCEL_REQUEST (Ne.symm (Fld.ne F_w_MessageType_REQUEST_ordinal F_w_MessageType_CANCEL_REQUEST_ordinal (own_nei (by decide +kernel)))) (Ne.symm (Fld.ne F_w_MessageType_REPLY_ordinal F_w_MessageType_CANCEL_REQUEST_ordinal (own_nei (by decide +kernel)))) S_MessageType_LOCATE_REQUEST (Ne.symm (Fld.ne F_w_MessageType_LOCATE_REQUEST_ordinal F_w_MessageType_CANCEL_REQUEST_ordinal (own_nei (by decide +kernel)))) S_MessageType_LOCATE_REPLY (Ne.symm (Fld.ne F_w_MessageType_LOCATE_REPLY_ordinal F_w_MessageType_CANCEL_REQUEST_ordinal (own_nei (by decide +kernel)))) S_MessageType_FRAGMENT (Ne.symm (Fld.ne F_w_MessageType_FRAGMENT_ordinal F_w_MessageType_CANCEL_REQUEST_ordinal (own_nei (by decide +kernel)))) E_w_MessageType_CANCEL_REQUEST (Ne.symm (Fld.ne F_w_MessageType_REQUEST_ordinal F_w_MessageType_LOCATE_REQUEST_ordinal (own_nei (by decide +kernel)))) (Fld.ne F_w_MessageType_LOCATE_REQUEST_ordinal F_w_MessageType_REPLY_ordinal (own_nei (by decide +kernel))) E_w_MessageType_LOCATE_REQUEST (Ne.symm (Fld.ne F_w_MessageType_REQUEST_ordinal F_w_MessageType_LOCATE_REPLY_ordinal (own_nei (by decide +kernel)))) (Ne.symm (Fld.ne F_w_MessageType_REPLY_ordinal F_w_MessageType_LOCATE_REPLY_ordinal (own_nei (by decide +kernel)))) (Ne.symm (Fld.ne F_w_MessageType_LOCATE_REQUEST_ordinal F_w_MessageType_LOCATE_REPLY_ordinal (own_nei (by decide +kernel)))) E_w_MessageType_LOCATE_REPLY S_MessageType_CLOSE_CONNECTION (Ne.symm (Fld.ne F_w_MessageType_REQUEST_ordinal F_w_MessageType_CLOSE_CONNECTION_ordinal (own_nei (by decide +kernel)))) (Ne.symm (Fld.ne F_w_MessageType_REPLY_ordinal F_w_MessageType_CLOSE_CONNECTION_ordinal (own_nei (by decide +kernel)))) (Ne.symm (Fld.ne F_w_MessageType_LOCATE_REQUEST_ordinal F_w_MessageType_CLOSE_CONNECTION_ordinal (own_nei (by decide +kernel)))) (Ne.symm (Fld.ne F_w_MessageType_LOCATE_REPLY_ordinal F_w_MessageType_CLOSE_CONNECTION_ordinal (own_nei (by decide +kernel)))) (Ne.symm (Fld.ne F_w_MessageType_FRAGMENT_ordinal F_w_MessageType_CLOSE_CONNECTION_ordinal (own_nei (by decide +kernel)))) E_w_MessageType_CLOSE_CONNECTION S_MessageType_MESSAGE_ERROR (Ne.symm (Fld.ne F_w_MessageType_REQUEST_ordinal F_w_MessageType_MESSAGE_ERROR_ordinal (own_nei (by decide +kernel)))) (Ne.symm (Fld.ne F_w_MessageType_REPLY_ordinal F_w_MessageType_MESSAGE_ERROR_ordinal (own_nei (by decide +kernel)))) (Fld.ne F_w_MessageType_LOCATE_REQUEST_ordinal F_w_MessageType_MESSAGE_ERROR_ordinal (own_nei (by decide +kernel))) (Ne.symm (Fld.ne F_w_MessageType_MESSAGE_ERROR_ordinal F_w_MessageType_LOCATE_REPLY_ordinal (own_nei (by decide +kernel)))) (Ne.symm (Fld.ne F_w_MessageType_MESSAGE_ERROR_ordinal F_w_MessageType_FRAGMENT_ordinal (own_nei (by decide +kernel)))) E_w_MessageType_MESSAGE_ERROR (Ne.symm (Fld.ne F_w_MessageType_REQUEST_ordinal F_w_MessageType_FRAGMENT_ordinal (own_nei (by decide +kernel)))) (Ne.symm (Fld.ne F_w_MessageType_REPLY_ordinal F_w_MessageType_FRAGMENT_ordinal (own_nei (by decide +kernel)))) (Ne.symm (Fld.ne F_w_MessageType_LOCATE_REQUEST_ordinal F_w_MessageType_FRAGMENT_ordinal (own_nei (by decide +kernel)))) (Ne.symm (Fld.ne F_w_MessageType_LOCATE_REPLY_ordinal F_w_MessageType_FRAGMENT_ordinal (own_nei (by decide +kernel)))) E_w_MessageType_FRAGMENT p e ha hc hk s m _ below hf ((Spec.applies_iff_loose hf).mp happ).1 ⟨rfl, State.Warmed39.refl s, rfl⟩ trivial
  refine ⟨n, _, h1, h2, h3, hpost _ _ _ _ _ _ ⟨Cond.after_iff.mpr rfl, Cond.after_iff.mpr (eq_i res_at (Term.int_eval (1)) rfl), trivial⟩ ⟨hq.1, hq.2.1, (hq.2.2.sift fun y hy => Or.inr (N y hy)).mono (by decide) (by decide)⟩⟩
theorem main_1_1 : Claimed_1_1 := comes_1 fun _ _ _ _ _ _ h hF => ⟨h.1, hF⟩
theorem main_1_2 : Claimed_1_2 := comes_1 fun _ _ _ _ _ _ h hF => ⟨h.2.1, hF⟩
end Jvm.Pilot.@@N@@
namespace Jvm.Pilot.@@N@@
open Jvm Jvm.ClassFile Sem Op Lib Jvm.Free Jvm.Stand Jvm.Pilot.@@N@@.Jvm.D
/-! MADE BY PROGRAM (witnessworld.py) out of the Statement's table words and the real class files: 12 classes; the members and pool entries that the words name. The judged class is class 1, her method 2. -/
namespace start1
open Jvm.ClassFile
def u (s : String) : CpInfo := .utf8 (stringToUtf16 s)
/-- a pool by its gaps: so many unusable entries, then the entry; so many at the end -/
def gap : Nat → List CpInfo → List CpInfo
  | 0, r => r
  | n + 1, r => .unusable :: gap n r
def poolList (es : List (Nat × CpInfo)) (last : Nat) : List CpInfo := es.foldr (fun e r => gap e.1 (e.2 :: r)) (gap last [])
def pool (es : List (Nat × CpInfo)) (last : Nat) : Array CpInfo := ⟨poolList es last⟩
def fileOf (pool : Array CpInfo) (this : Nat) (attrs : Array Attribute := #[]) (ms : Array MethodInfo := #[]) (fl : Nat := 33) (sup : Nat := 0) (ifs : Array Nat := #[]) (fds : Array FieldInfo := #[]) : ClassFile where
  minorVersion := 0
  majorVersion := 65
  constantPool := pool
  accessFlags := fl
  thisClass := this
  superClass := sup
  interfaces := ifs
  fields := fds
  methods := ms
  attributes := attrs
def plain (name : String) (sup : Option ClassId) : Class where
  name := name
  kind := .ordinary
  loader := none
  accessFlags := 33
  super := sup
  interfaces := #[]
  cf := none
  fields := #[]
  methods := #[]
  instanceTypes := #[]
  staticTypes := #[]
  resolved := #[]
  callSites := []
  init := .initialized
  statics := none
  mirror := none

def pool0 : Array CpInfo := pool [(5, u "<init>"), (0, u "()V"), (1, .class_ 10), (1, u "java/lang/Object")] 113

def k0m0 : Method := { name := "<init>", desc := "()V", sig := { parameters := [], returnType := none }, accessFlags := 1, code := none }
/-- java/lang/Object -/
def k0 : Class := { plain "java/lang/Object" none with
  accessFlags := 33
  interfaces := #[]
  cf := some (fileOf pool0 8 #[] #[{ accessFlags := 1, nameIndex := 5, descriptorIndex := 6, attributes := #[] }] 33 0 #[] #[])
  fields := #[]
  methods := #[k0m0]
  instanceTypes := #[]
  staticTypes := #[]
  resolved := Array.replicate 124 none
  statics := none }

def pool1 : Array CpInfo := pool [(2, .class_ 4), (1, u "java/lang/Object"), (0, u "<init>"), (0, u "()V"), (0, .fieldref 8 9), (0, .class_ 10), (0, .nameAndType 11 12), (0, u "org/driftcairn/giop/MessageType"), (0, u "REQUEST"), (0, u "Lorg/driftcairn/giop/MessageType;"), (0, .fieldref 8 14), (0, .nameAndType 15 12), (0, u "REPLY"), (0, .fieldref 8 17), (0, .nameAndType 18 12), (0, u "CANCEL_REQUEST"), (0, .fieldref 8 20), (0, .nameAndType 21 12), (0, u "LOCATE_REQUEST"), (0, .fieldref 8 23), (0, .nameAndType 24 12), (0, u "LOCATE_REPLY"), (0, .fieldref 8 26), (0, .nameAndType 27 12), (0, u "CLOSE_CONNECTION"), (0, .fieldref 8 29), (0, .nameAndType 30 12), (0, u "MESSAGE_ERROR"), (0, .fieldref 8 32), (0, .nameAndType 33 12), (0, u "FRAGMENT"), (0, .methodref 35 36), (0, .class_ 37), (0, .nameAndType 38 39), (0, u "org/driftcairn/giop/MessageTypeMayBeFragmentedPinLaw"), (0, u "pick"), (0, u "(I)Lorg/driftcairn/giop/MessageType;"), (0, .methodref 8 41), (0, .nameAndType 42 43), (0, u "mayBeFragmented"), (0, u "()Z"), (3, u "law"), (0, u "(I)Z")] 2

def k1m0 : Method := { name := "<init>", desc := "()V", sig := { parameters := [], returnType := none }, accessFlags := 1, code := none }
def k1c1 : Code := { maxStack := 2, maxLocals := 1, code := method_2_code, exceptionTable := #[], attributes := #[] }
def k1m1 : Method := { name := "pick", desc := "(I)Lorg/driftcairn/giop/MessageType;", sig := { parameters := [.int], returnType := some (.object "org/driftcairn/giop/MessageType") }, accessFlags := 10, code := some k1c1 }
def k1c2 : Code := { maxStack := 2, maxLocals := 4, code := code, exceptionTable := #[], attributes := #[] }
def k1m2 : Method := { name := "law", desc := "(I)Z", sig := { parameters := [.int], returnType := some .boolean }, accessFlags := 9, code := some k1c2 }
/-- org/driftcairn/giop/MessageTypeMayBeFragmentedPinLaw -/
def k1 : Class := { plain "org/driftcairn/giop/MessageTypeMayBeFragmentedPinLaw" (some 0) with
  accessFlags := 49
  interfaces := #[]
  cf := some (fileOf pool1 35 #[] #[{ accessFlags := 1, nameIndex := 5, descriptorIndex := 6, attributes := #[] }, { accessFlags := 10, nameIndex := 38, descriptorIndex := 39, attributes := #[] }, { accessFlags := 9, nameIndex := 47, descriptorIndex := 48, attributes := #[] }] 49 2 #[] #[])
  fields := #[]
  methods := #[k1m0, k1m1, k1m2]
  instanceTypes := #[]
  staticTypes := #[]
  resolved := Array.replicate 51 none
  statics := none }

def pool2 : Array CpInfo := pool [(1, .class_ 2), (0, u "java/lang/constant/Constable"), (0, .class_ 4), (0, u "java/lang/Object")] 6

/-- java/lang/constant/Constable -/
def k2 : Class := { plain "java/lang/constant/Constable" (some 0) with
  accessFlags := 1537
  interfaces := #[]
  cf := some (fileOf pool2 1 #[] #[] 1537 3 #[] #[])
  fields := #[]
  methods := #[]
  instanceTypes := #[]
  staticTypes := #[]
  resolved := Array.replicate 11 none
  statics := none }

def pool3 : Array CpInfo := pool [(1, .class_ 2), (0, u "java/lang/Comparable"), (0, .class_ 4), (0, u "java/lang/Object")] 7

/-- java/lang/Comparable -/
def k3 : Class := { plain "java/lang/Comparable" (some 0) with
  accessFlags := 1537
  interfaces := #[]
  cf := some (fileOf pool3 1 #[] #[] 1537 3 #[] #[])
  fields := #[]
  methods := #[]
  instanceTypes := #[]
  staticTypes := #[]
  resolved := Array.replicate 12 none
  statics := none }

def pool4 : Array CpInfo := pool [(1, .class_ 2), (0, u "java/io/Serializable"), (0, .class_ 4), (0, u "java/lang/Object")] 2

/-- java/io/Serializable -/
def k4 : Class := { plain "java/io/Serializable" (some 0) with
  accessFlags := 1537
  interfaces := #[]
  cf := some (fileOf pool4 1 #[] #[] 1537 3 #[] #[])
  fields := #[]
  methods := #[]
  instanceTypes := #[]
  staticTypes := #[]
  resolved := Array.replicate 7 none
  statics := none }

def pool5 : Array CpInfo := pool [(2, .class_ 4), (1, u "java/lang/Enum"), (0, u "name"), (0, u "Ljava/lang/String;"), (2, u "ordinal"), (0, u "I"), (1, .class_ 14), (1, u "java/lang/Object"), (4, u "hash"), (86, .class_ 108), (1, u "java/lang/Enum$EnumDesc"), (2, .class_ 112), (0, u "java/lang/constant/Constable"), (0, .class_ 114), (0, u "java/lang/Comparable"), (0, .class_ 116), (0, u "java/io/Serializable")] 87

/-- java/lang/Enum -/
def k5 : Class := { plain "java/lang/Enum" (some 0) with
  accessFlags := 1057
  interfaces := #[2, 3, 4]
  cf := some (fileOf pool5 2 #[.nestMembers #[106]] #[] 1057 12 #[111, 113, 115] #[{ accessFlags := 18, nameIndex := 5, descriptorIndex := 6, attributes := #[] }, { accessFlags := 18, nameIndex := 9, descriptorIndex := 10, attributes := #[] }, { accessFlags := 2, nameIndex := 19, descriptorIndex := 10, attributes := #[] }])
  fields := #[{ name := "name", type := (.object "java/lang/String"), accessFlags := 18, slot := 0, constantValue := 0 }, { name := "ordinal", type := .int, accessFlags := 18, slot := 1, constantValue := 0 }, { name := "hash", type := .int, accessFlags := 2, slot := 2, constantValue := 0 }]
  methods := #[]
  instanceTypes := #[(.object "java/lang/String"), .int, .int]
  staticTypes := #[]
  resolved := Array.replicate 204 none
  statics := none }

def pool6 : Array CpInfo := pool [(1, .class_ 2), (0, u "org/driftcairn/giop/MessageType"), (0, .fieldref 1 4), (0, .nameAndType 5 6), (0, u "REQUEST"), (0, u "Lorg/driftcairn/giop/MessageType;"), (0, .fieldref 1 8), (0, .nameAndType 9 6), (0, u "REPLY"), (2, u "CANCEL_REQUEST"), (0, .fieldref 1 14), (0, .nameAndType 15 6), (0, u "LOCATE_REQUEST"), (0, .fieldref 1 17), (0, .nameAndType 18 6), (0, u "LOCATE_REPLY"), (2, u "CLOSE_CONNECTION"), (2, u "MESSAGE_ERROR"), (0, .fieldref 1 26), (0, .nameAndType 27 6), (0, u "FRAGMENT"), (2, u "$VALUES"), (0, u "[Lorg/driftcairn/giop/MessageType;"), (6, .class_ 40), (1, u "java/lang/Enum"), (8, u "BY_CODE"), (25, u "mayBeFragmented"), (0, u "()Z")] 4

def k6c0 : Code := { maxStack := 2, maxLocals := 1, code := prog_70_method_5_code, exceptionTable := #[], attributes := #[] }
def k6m0 : Method := { name := "mayBeFragmented", desc := "()Z", sig := { parameters := [], returnType := some .boolean }, accessFlags := 1, code := some k6c0 }
/-- org/driftcairn/giop/MessageType -/
def k6 : Class := { plain "org/driftcairn/giop/MessageType" (some 5) with
  accessFlags := 16433
  interfaces := #[]
  cf := some (fileOf pool6 1 #[] #[{ accessFlags := 1, nameIndex := 75, descriptorIndex := 76, attributes := #[] }] 16433 38 #[] #[{ accessFlags := 16409, nameIndex := 5, descriptorIndex := 6, attributes := #[] }, { accessFlags := 16409, nameIndex := 9, descriptorIndex := 6, attributes := #[] }, { accessFlags := 16409, nameIndex := 12, descriptorIndex := 6, attributes := #[] }, { accessFlags := 16409, nameIndex := 15, descriptorIndex := 6, attributes := #[] }, { accessFlags := 16409, nameIndex := 18, descriptorIndex := 6, attributes := #[] }, { accessFlags := 16409, nameIndex := 21, descriptorIndex := 6, attributes := #[] }, { accessFlags := 16409, nameIndex := 24, descriptorIndex := 6, attributes := #[] }, { accessFlags := 16409, nameIndex := 27, descriptorIndex := 6, attributes := #[] }, { accessFlags := 26, nameIndex := 49, descriptorIndex := 31, attributes := #[] }, { accessFlags := 4122, nameIndex := 30, descriptorIndex := 31, attributes := #[] }])
  fields := #[{ name := "REQUEST", type := (.object "org/driftcairn/giop/MessageType"), accessFlags := 16409, slot := 0, constantValue := 0 }, { name := "REPLY", type := (.object "org/driftcairn/giop/MessageType"), accessFlags := 16409, slot := 1, constantValue := 0 }, { name := "CANCEL_REQUEST", type := (.object "org/driftcairn/giop/MessageType"), accessFlags := 16409, slot := 2, constantValue := 0 }, { name := "LOCATE_REQUEST", type := (.object "org/driftcairn/giop/MessageType"), accessFlags := 16409, slot := 3, constantValue := 0 }, { name := "LOCATE_REPLY", type := (.object "org/driftcairn/giop/MessageType"), accessFlags := 16409, slot := 4, constantValue := 0 }, { name := "CLOSE_CONNECTION", type := (.object "org/driftcairn/giop/MessageType"), accessFlags := 16409, slot := 5, constantValue := 0 }, { name := "MESSAGE_ERROR", type := (.object "org/driftcairn/giop/MessageType"), accessFlags := 16409, slot := 6, constantValue := 0 }, { name := "FRAGMENT", type := (.object "org/driftcairn/giop/MessageType"), accessFlags := 16409, slot := 7, constantValue := 0 }, { name := "BY_CODE", type := (.array (.object "org/driftcairn/giop/MessageType")), accessFlags := 26, slot := 8, constantValue := 0 }, { name := "$VALUES", type := (.array (.object "org/driftcairn/giop/MessageType")), accessFlags := 4122, slot := 9, constantValue := 0 }]
  methods := #[k6m0]
  instanceTypes := #[(.object "java/lang/String"), .int, .int]
  staticTypes := #[(.object "org/driftcairn/giop/MessageType"), (.object "org/driftcairn/giop/MessageType"), (.object "org/driftcairn/giop/MessageType"), (.object "org/driftcairn/giop/MessageType"), (.object "org/driftcairn/giop/MessageType"), (.object "org/driftcairn/giop/MessageType"), (.object "org/driftcairn/giop/MessageType"), (.object "org/driftcairn/giop/MessageType"), (.array (.object "org/driftcairn/giop/MessageType")), (.array (.object "org/driftcairn/giop/MessageType"))]
  resolved := Array.replicate 81 none
  statics := some 0 }

def pool7 : Array CpInfo := pool [(1, u "java/lang/Cloneable"), (0, .class_ 1), (0, u "java/lang/Object"), (0, .class_ 3)] 3

/-- java/lang/Cloneable -/
def k7 : Class := { plain "java/lang/Cloneable" (some 0) with
  accessFlags := 1537
  interfaces := #[]
  cf := some (fileOf pool7 2 #[] #[] 1537 4 #[] #[])
  fields := #[]
  methods := #[]
  instanceTypes := #[]
  staticTypes := #[]
  resolved := Array.replicate 8 none
  statics := none }

/-- the primitive byte -/
def k8 : Class := { plain "byte" none with kind := .primitive 'B', accessFlags := 0x411 }
/-- [B -/
def k9 : Class := { plain "[B" (some 0) with kind := .array 8 .byte, interfaces := #[7, 4], accessFlags := 1041 }

/-- the primitive int -/
def k10 : Class := { plain "int" none with kind := .primitive 'I', accessFlags := 0x411 }
/-- [I -/
def k11 : Class := { plain "[I" (some 0) with kind := .array 10 .int, interfaces := #[7, 4], accessFlags := 1041 }

def heap : Heap := #[{ cls := 6, slots := #[.ref 1, .ref 3, .ref 7, .ref 2, .ref 5, .ref 8, .ref 4, .ref 6, .null, .null], vm := .statics 6 },
  { cls := 6, slots := #[.null, .int 0, .int 0], vm := .none },
  { cls := 6, slots := #[.null, .int 3, .int 0], vm := .none },
  { cls := 6, slots := #[.null, .int 1, .int 0], vm := .none },
  { cls := 6, slots := #[.null, .int 6, .int 0], vm := .none },
  { cls := 6, slots := #[.null, .int 4, .int 0], vm := .none },
  { cls := 6, slots := #[.null, .int 7, .int 0], vm := .none },
  { cls := 6, slots := #[.null, .int 2, .int 0], vm := .none },
  { cls := 6, slots := #[.null, .int 5, .int 0], vm := .none }]
def classes : Array Class := #[k0, k1, k2, k3, k4, k5, k6, k7, k8, k9, k10, k11]
def interned : List (Array UInt16 × Addr) := []
def slotsUsed : Nat := 34
def theMethod : MethodId := ⟨1, 2⟩
def args0 : Array Value := #[.int 5]
def aboutOver (below : List Frame) : State where
  vm := { classes := classes, interned := interned.toArray }
  heap := heap
  slotsUsed := slotsUsed
  threads := #[{ frames := .invoking theMethod args0 :: below }]
def below0 : List Frame := [.native { method := ⟨0, 0⟩, args := #[] }]
def about1 : State := aboutOver below0
def p0 : Program := .bare "" "" ""
def e0 : Env := launch0.env 0 0 0
theorem w_frames : about1.frames = Frame.invoking theMethod args0 :: below0 := rfl
set_option maxRecDepth 65536 in
theorem w_args : argsFit about1.vm theMethod args0 = true := by decide +kernel
set_option maxRecDepth 65536 in
theorem w_heap : heapFits about1 = true := by decide +kernel
set_option maxRecDepth 65536 in
theorem w_runnable : about1.curStatus? = some .runnable := by decide +kernel
set_option maxRecDepth 65536 in
theorem w_alone : about1.alone = true := by decide +kernel
set_option maxRecDepth 65536 in
theorem w_named : about1.methodNamed? x = some theMethod := by decide +kernel
set_option maxRecDepth 65536 in
theorem w_hears : about1.hears theMethod below0 = true := by decide +kernel
set_option maxRecDepth 65536 in
theorem w_ripe : about1.ripe theMethod args0 below0 = true := by decide +kernel
theorem w_running : about1.status = .running := rfl
set_option maxRecDepth 65536 in
theorem w_room : about1.hasRoom e0.platform room_1 = true :=
  launch0.hasRoom_least _ room_1 (by decide +kernel) (by decide +kernel) (by decide +kernel) (by decide +kernel) (by decide +kernel) (by decide +kernel)
theorem allAtoms_all (ts : List Jvm.Cond) (a : Array Jvm.Value) (st : Jvm.State) : (allAtoms ts).before a st = ts.all (fun c => c.before a st) := by
  induction ts with
  | nil => rfl
  | cons c t ih =>
    show (Jvm.Cond.and c (allAtoms t)).before a st = _
    rw [Jvm.Cond.before_and, ih, List.all_cons]
def words1 : List Jvm.Cond := Jvm.Cond.code x code maxLocals ret :: tables_1
/-- a 'code' word, met by the world's own term for the bytes: nothing is compared byte by byte -/
theorem code_word {y : MethodName} {bytes : ByteArray} {mx : Nat} {rt : Option FieldType} {a : Array Value} {s : State} {m : MethodId} {meth : Method} {c : Code} (h1 : s.methodNamed? y = some m) (h2 : s.vm.method? m = some meth) (h3 : meth.code = some c) (h4 : c.code = bytes)
    (h5 : (c.maxLocals == mx && c.exceptionTable.isEmpty && decide (c.maxStack ≤ mostOperands) && decide (meth.sig.returnType = rt) && !meth.locks && decide (parseMethodDescriptor y.desc = some meth.sig)) = true) : (Jvm.Cond.code y bytes mx rt).before a s = true := by
  simp only [Bool.and_eq_true, beq_iff_eq, Bool.not_eq_true', decide_eq_true_eq] at h5
  obtain ⟨⟨⟨⟨⟨g1, g2⟩, g3⟩, g4⟩, g5⟩, g6⟩ := h5
  simp [Cond.before, Cond.holds, Cond.value, h1, h2, h3, h4, g1, g2, g3, g4, g5, g6]
def isCode : Jvm.Cond → Bool
  | .code _ _ _ _ => true
  | _ => false
theorem all_split {L : List Jvm.Cond} {P : Jvm.Cond → Bool} (h1 : L.all (fun c => isCode c || P c) = true) (h2 : ∀ c ∈ L.filter isCode, P c = true) : L.all P = true := by
  refine List.all_eq_true.mpr fun c hc => ?_
  have h := List.all_eq_true.mp h1 c hc
  rcases Bool.eq_false_or_eq_true (isCode c) with hi | hi
  · exact h2 c (List.mem_filter.mpr ⟨hc, hi⟩)
  · simpa [hi] using h
set_option maxRecDepth 65536 in
theorem w_c0 : (Jvm.Cond.code x code maxLocals ret).before args0 about1 = true := code_word (m := ⟨1, 2⟩) (meth := k1m2) (c := k1c2) (by decide +kernel) rfl rfl rfl (by decide +kernel)
set_option maxRecDepth 65536 in
theorem w_c1 : (Jvm.Cond.code ({ cls := "org/driftcairn/giop/MessageTypeMayBeFragmentedPinLaw", name := "pick", desc := "(I)Lorg/driftcairn/giop/MessageType;" } : Jvm.MethodName) method_2_code (1 : Nat) (Option.some (Jvm.ClassFile.FieldType.object "org/driftcairn/giop/MessageType"))).before args0 about1 = true := code_word (m := ⟨1, 1⟩) (meth := k1m1) (c := k1c1) (by decide +kernel) rfl rfl rfl (by decide +kernel)
set_option maxRecDepth 65536 in
theorem w_c2 : (Jvm.Cond.code ({ cls := "org/driftcairn/giop/MessageType", name := "mayBeFragmented", desc := "()Z" } : Jvm.MethodName) prog_70_method_5_code (1 : Nat) (Option.some Jvm.ClassFile.FieldType.boolean)).before args0 about1 = true := code_word (m := ⟨6, 0⟩) (meth := k6m0) (c := k6c0) (by decide +kernel) rfl rfl rfl (by decide +kernel)
def codes1 : List Jvm.Cond := [Jvm.Cond.code x code maxLocals ret, Jvm.Cond.code ({ cls := "org/driftcairn/giop/MessageTypeMayBeFragmentedPinLaw", name := "pick", desc := "(I)Lorg/driftcairn/giop/MessageType;" } : Jvm.MethodName) method_2_code (1 : Nat) (Option.some (Jvm.ClassFile.FieldType.object "org/driftcairn/giop/MessageType")), Jvm.Cond.code ({ cls := "org/driftcairn/giop/MessageType", name := "mayBeFragmented", desc := "()Z" } : Jvm.MethodName) prog_70_method_5_code (1 : Nat) (Option.some Jvm.ClassFile.FieldType.boolean)]
set_option maxRecDepth 65536 in
theorem codes_eq : words1.filter isCode = codes1 := rfl
theorem w_codes : ∀ c ∈ words1.filter isCode, c.before args0 about1 = true := by
  rw [codes_eq]
  intro c hc
  simp only [codes1, List.mem_cons, List.not_mem_nil, or_false] at hc
  rcases hc with rfl | rfl | rfl
  · exact w_c0
  · exact w_c1
  · exact w_c2
set_option maxRecDepth 65536 in
theorem w_t1 : (words1.take 24).all (fun c => isCode c || c.before args0 about1) = true := by decide +kernel
set_option maxRecDepth 65536 in
theorem w_t2 : (words1.drop 24).all (fun c => isCode c || c.before args0 about1) = true := by decide +kernel
theorem w_tables : (allAtoms (Jvm.Cond.code x code maxLocals ret :: tables_1)).before args0 about1 = true := by
  rw [allAtoms_all]
  show words1.all (fun c => c.before args0 about1) = true
  refine all_split ?_ w_codes
  rw [← List.take_append_drop 24 words1, List.all_append, w_t1, w_t2]
  rfl
set_option maxRecDepth 65536 in
theorem w_case : (Jvm.Cond.and given_1 narrow_1).before args0 about1 = true := by decide +kernel
theorem w_applies : (headSpec (Jvm.Cond.code x code maxLocals ret :: tables_1) room_1).applies x e0.platform about1 = true :=
  (Spec.applies_iff w_frames).mpr ⟨w_running, w_runnable, w_alone, w_named, w_hears, w_ripe, w_room, w_tables⟩
theorem atStart : AtStart classFile x code maxLocals ret World_1 tables_1 room_1 Calls_1 rest_1 Pre_1 launch0 p0 e0 about1 theMethod args0 below0 :=
  ⟨lists_1, trivial, launch0.admits_env _ _ _, launch0.least_env, fairChoices_fair.cas, fairChoices_fair.clock, w_frames, w_args, w_heap, w_applies, trivial, trivial, w_case⟩
end start1
theorem witness_1 : WitnessClaimed_1 := ⟨start1.p0, start1.e0, start1.about1, start1.theMethod, start1.args0, start1.below0, start1.atStart⟩
end Jvm.Pilot.@@N@@
