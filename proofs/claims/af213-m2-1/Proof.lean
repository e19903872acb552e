import JvmDerived
import JvmDerived.Pilot.@@N@@Statement
import JvmDerived.Pilot.@@N@@Code
set_option linter.unusedVariables false
set_option linter.unusedSimpArgs false
@@BLOCK:NumsL.lean.txt@@
namespace Jvm.RoadKit
open Sem ClassFile Op Lib Jvm.Stand Jvm.Free Jvm.LawKit
section New
variable {p : Program} {l : Launch} {e : Env} {R : Room} {s : State} {m : MethodId} {args : Array Value} {below : List Frame} {meth : Method} {c : Code} {T : State} {locs : List Loc} {cells slots : Nat}
theorem retI (X : Stand p l e R s m args below meth c T locs cells slots) (hx : p.tables.exec = Jvm.exec) {pc : Nat} {Ls : Array Slot} {z : Int32} {rest : List Value} (hret : meth.sig.returnType = some .int) (hd : decode c.code pc = .ok (.ireturn, 1)) {fs : List Frame}
    (hl : ∀ (f : JFrame) (acts : List Action), f.method = m → f.locked = none → f.entered = [] → (doReturn e (T.setTop f) acts (some (.int z))).1 = T.setFrames fs) : Steps p.tables e below (T.setTop (mkF m pc Ls (.int z :: rest))) (T.setFrames fs) := by
  have hm' : T.vm.method? m = some meth := X.method'
  have hn : narrow .int (.int z) = .int z := rfl
  show Steps p.tables e below (T.setTop { method := m, pc := pc, locals := Ls, stack := _ :: rest, locked := none }) _
  jvm_step X.here [X.here.top, hx, hd, hm', hret, hn]
  first | (intro acts; rw [hl _ acts rfl rfl rfl]) | rw [hl _ _ rfl rfl rfl]
  exact Steps.refl _
theorem own_retA (X : Stand p l e R s m args below meth c T locs cells slots) (hx : p.tables.exec = Jvm.exec) {pc : Nat} {Ls : Array Slot} {t : FieldType} {w : Value} {rest : List Value} (hret : meth.sig.returnType = some t) (ht : t.isReference = true) (hw : w.isRef = true) (hd : decode c.code pc = .ok (.areturn, 1)) {fs : List Frame}
    (hl : ∀ (f : JFrame) (acts : List Action), f.method = m → f.locked = none → f.entered = [] → (doReturn e (T.setTop f) acts (some w)).1 = T.setFrames fs) : Steps p.tables e below (T.setTop (mkF m pc Ls (w :: rest))) (T.setFrames fs) :=
  retOut X hx hret (by cases t <;> simp_all [narrow, FieldType.isReference]) (Or.inr (Or.inr (Or.inr (Or.inr ⟨rfl, ht, hw⟩)))) hd hl
end New
end Jvm.RoadKit
namespace Jvm.Pilot.@@N@@
open Jvm Jvm.ClassFile Sem Op Lib Jvm.Free Jvm.Stand Jvm.LawKit Jvm.RoadKit Bundle Jvm.Pilot.@@N@@.Jvm.D
abbrev own_jv (x : Int64) : Slot := .val (.long x)
/-- a callee that leaves the heap as it was and returns r -/
def own_QP (r : Option Value) (h0 : Heap) (n0 : Nat) (v : Option Value) (h : Heap) (L : List Loc) : Prop := v = r ∧ Fr n0 L ∧ h = h0
def own_QL (n0 : Nat) (v : Option Value) (h : Heap) (L : List Loc) : Prop := v = some (.int 1) ∧ Fr n0 L
theorem own_eqv {args : Array Value} {first s : State} {o : Option Outcome} {idx : List Nat} {a b : Term} {x : Value} (h : (Cond.eq a b).value args first o s idx = some true) (hb : b.eval args first o idx s = some x) (hx : x.isRef = true ∨ ∃ n, x = .int n) : a.eval args first o idx s = some x := by
  cases ha : a.eval args first o idx s with
  | none => simp [Cond.value, ha, hb] at h
  | some y =>
    rcases hx with hx | ⟨n, rfl⟩
    · rcases ref_cases hx with rfl | ⟨z, rfl⟩ <;> cases y <;> simp_all [Cond.value]
    · cases y <;> simp_all [Cond.value]
theorem own_len {Z : State} {args : Array Value} {t : Term} {a : Addr} {cl : Cell} {ty : FieldType} {n : Int32} (ev : t.eval args Z none [] Z = some (.ref a)) (A : Arr Z Z.heap a cl ty) (h : (Term.length t).eval args Z none [] Z = some (.int n)) : cl.slots.size < 2 ^ 31 ∧ cl.slots.size.toInt32 = n := by
  have hA : Z.arrayAt? a = some cl := Arr.fin (U := Z) (Vm.Alike.refl _) A
  by_cases q : cl.slots.size < 2 ^ 31
  · rw [len_f ev hA q] at h
    exact ⟨q, Value.int.inj (Option.some.inj h)⟩
  · simp [Term.eval, ev, hA, q] at h
theorem own_nei {a b : Int32} (h : a ≠ b) : (Value.int a) ≠ (Value.int b) := fun q => h (Value.int.inj q)
theorem own_s0 (p : Int32) : (p &&& (3 : Int32)) = (0 : Int32) ∨ (p &&& (3 : Int32)) = (1 : Int32) ∨ (p &&& (3 : Int32)) = (2 : Int32) ∨ (p &&& (3 : Int32)) = (3 : Int32) := by
  have e := Jvm.Kit.i32_mask p 3 (k := 2) (by decide) (by decide)
  have h : (p &&& (3 : Int32)).toInt = 0 ∨ (p &&& (3 : Int32)).toInt = 1 ∨ (p &&& (3 : Int32)).toInt = 2 ∨ (p &&& (3 : Int32)).toInt = 3 := by omega
  rcases h with h | h | h | h
  · exact Or.inl (Int32.toInt_inj.mp (h.trans (by decide)))
  · exact Or.inr (Or.inl (Int32.toInt_inj.mp (h.trans (by decide))))
  · exact Or.inr (Or.inr (Or.inl (Int32.toInt_inj.mp (h.trans (by decide)))))
  · exact Or.inr (Or.inr (Or.inr ((Int32.toInt_inj.mp (h.trans (by decide))))))
theorem own_s1 (p1 : Int32) : (p1.toInt8.toInt32) = (66 : Int32) ∨ (p1.toInt8.toInt32) = (73 : Int32) ∨ (p1.toInt8.toInt32) = (74 : Int32) ∨ (¬ ((p1.toInt8.toInt32) = (66 : Int32)) ∧ ¬ ((p1.toInt8.toInt32) = (73 : Int32)) ∧ ¬ ((p1.toInt8.toInt32) = (74 : Int32))) := by
  by_cases h1 : (p1.toInt8.toInt32) = (66 : Int32)
  · exact Or.inl h1
  by_cases h2 : (p1.toInt8.toInt32) = (73 : Int32)
  · exact Or.inr (Or.inl h2)
  by_cases h3 : (p1.toInt8.toInt32) = (74 : Int32)
  · exact Or.inr (Or.inr (Or.inl h3))
  exact Or.inr (Or.inr (Or.inr ⟨h1, h2, h3⟩))
theorem own_miss3 {d : Int32} (h1 : ¬ (d = (66 : Int32))) (h2 : ¬ (d = (73 : Int32))) (h3 : ¬ (d = (74 : Int32))) {a b c : Int} : (#[(66, a), (73, b), (74, c)] : Array (Int × Int)).find? (·.1 == d.toInt) = none := find_miss fun p hp => by
  simp only [List.mem_cons, List.not_mem_nil, or_false] at hp
  rcases hp with rfl | rfl | rfl
  · exact fun q => h1 (Int32.toInt_inj.mp ((show d.toInt = 66 from q.symm).trans (by decide)))
  · exact fun q => h2 (Int32.toInt_inj.mp ((show d.toInt = 73 from q.symm).trans (by decide)))
  · exact fun q => h3 (Int32.toInt_inj.mp ((show d.toInt = 74 from q.symm).trans (by decide)))
theorem d1_0 : decode prog_24_method_4_code 0 = .ok (.iload_n 0, 1) := by decide +kernel
theorem d1_1 : decode prog_24_method_4_code 1 = .ok (.lookupswitch 53 #[(66, 35), (73, 47), (74, 41)], 35) := by decide +kernel
theorem d1_36 : decode prog_24_method_4_code 36 = .ok (.getstatic 5, 3) := by decide +kernel
theorem d1_39 : decode prog_24_method_4_code 39 = .ok (.goto 18, 3) := by decide +kernel
theorem d1_42 : decode prog_24_method_4_code 42 = .ok (.getstatic 9, 3) := by decide +kernel
theorem d1_45 : decode prog_24_method_4_code 45 = .ok (.goto 12, 3) := by decide +kernel
theorem d1_48 : decode prog_24_method_4_code 48 = .ok (.getstatic 12, 3) := by decide +kernel
theorem d1_51 : decode prog_24_method_4_code 51 = .ok (.goto 6, 3) := by decide +kernel
theorem d1_54 : decode prog_24_method_4_code 54 = .ok (.getstatic 15, 3) := by decide +kernel
theorem d1_57 : decode prog_24_method_4_code 57 = .ok (.areturn, 1) := by decide +kernel
theorem d2_0 : decode method_3_code 0 = .ok (.iload_n 0, 1) := by decide +kernel
theorem d2_1 : decode method_3_code 1 = .ok (.istore_n 1, 1) := by decide +kernel
theorem d2_2 : decode method_3_code 2 = .ok (.iload_n 1, 1) := by decide +kernel
theorem d2_3 : decode method_3_code 3 = .ok (.bipush 66, 2) := by decide +kernel
theorem d2_5 : decode method_3_code 5 = .ok (.if_icmp .ne 7, 3) := by decide +kernel
theorem d2_8 : decode method_3_code 8 = .ok (.getstatic 22, 3) := by decide +kernel
theorem d2_11 : decode method_3_code 11 = .ok (.areturn, 1) := by decide +kernel
theorem d2_12 : decode method_3_code 12 = .ok (.iload_n 1, 1) := by decide +kernel
theorem d2_13 : decode method_3_code 13 = .ok (.bipush 74, 2) := by decide +kernel
theorem d2_15 : decode method_3_code 15 = .ok (.if_icmp .ne 7, 3) := by decide +kernel
theorem d2_18 : decode method_3_code 18 = .ok (.getstatic 26, 3) := by decide +kernel
theorem d2_21 : decode method_3_code 21 = .ok (.areturn, 1) := by decide +kernel
theorem d2_22 : decode method_3_code 22 = .ok (.iload_n 1, 1) := by decide +kernel
theorem d2_23 : decode method_3_code 23 = .ok (.bipush 73, 2) := by decide +kernel
theorem d2_25 : decode method_3_code 25 = .ok (.if_icmp .ne 7, 3) := by decide +kernel
theorem d2_28 : decode method_3_code 28 = .ok (.getstatic 29, 3) := by decide +kernel
theorem d2_31 : decode method_3_code 31 = .ok (.areturn, 1) := by decide +kernel
theorem d2_32 : decode method_3_code 32 = .ok (.getstatic 32, 3) := by decide +kernel
theorem d2_35 : decode method_3_code 35 = .ok (.areturn, 1) := by decide +kernel
theorem d3_0 : decode prog_24_method_6_code 0 = .ok (.aload_n 0, 1) := by decide +kernel
theorem d3_1 : decode prog_24_method_6_code 1 = .ok (.getfield 73, 3) := by decide +kernel
theorem d3_4 : decode prog_24_method_6_code 4 = .ok (.ireturn, 1) := by decide +kernel
theorem pn_0 : plainName "com/example/pipewright/pipewright/io/Iso2022Layout$GraphicSet" = true := by first | (simp [plainName, overriddenIn]; done) | decide +kernel
theorem pn_1 : plainName "com/example/pipewright/pipewright/io/GraphicSetOfOneBytePinLaw" = true := by first | (simp [plainName, overriddenIn]; done) | decide +kernel
theorem pd_0 : parseMethodDescriptor "(B)Lcom/example/pipewright/pipewright/io/Iso2022Layout$GraphicSet;" = some ⟨[.byte], some (.object "com/example/pipewright/pipewright/io/Iso2022Layout$GraphicSet")⟩ := by decide +kernel
theorem pd_1 : parseMethodDescriptor "()I" = some ⟨[], some .int⟩ := by decide +kernel
theorem ef_1_I (m : MethodId) (x0 : Int32) : entryFrame m #[(.int x0)] 1 = mkF m 0 #[iv x0] [] := by first | (simp [entryFrame, mkF, argsToLocals, Value.category]; done) | rfl
theorem ef_2_I (m : MethodId) (x0 : Int32) : entryFrame m #[(.int x0)] 2 = mkF m 0 #[iv x0, .unset] [] := by first | (simp [entryFrame, mkF, argsToLocals, Value.category]; done) | rfl
theorem ef_3_R (m : MethodId) (x0 : Addr) : entryFrame m #[(.ref x0)] 1 = mkF m 0 #[rv x0] [] := by first | (simp [entryFrame, mkF, argsToLocals, Value.category]; done) | rfl
theorem ef_0_II (m : MethodId) (x0 : Int32) (x1 : Int32) : entryFrame m #[(.int x0), (.int x1)] maxLocals = mkF m 0 #[iv x0, iv x1, .unset, .unset, .unset, .unset] [] := by first | (simp [entryFrame, mkF, argsToLocals, Value.category, maxLocals]; done) | rfl
set_option maxRecDepth 65536 in
set_option maxHeartbeats 40000000 in
theorem rm1_0 (l : Launch) (Z : State) (a0 : Array Value) (hw : ∀ d ∈ tables_1, d.before a0 Z = true) (ws : List Jvm.Cond) (w_GraphicSet_ASCII : Addr) (h0 : Heap) (n0 : Nat) (Z0 : n0 ≤ h0.size) (S_GraphicSet_ASCII : Sta Z h0 "com/example/pipewright/pipewright/io/Iso2022Layout$GraphicSet" "ASCII" "Lcom/example/pipewright/pipewright/io/Iso2022Layout$GraphicSet;" (.ref w_GraphicSet_ASCII)) :
    MetFree l (⟨"com/example/pipewright/pipewright/io/Iso2022Layout$GraphicSet", "ofOneByte", "(B)Lcom/example/pipewright/pipewright/io/Iso2022Layout$GraphicSet;"⟩ : MethodName) (head1 (Jvm.Cond.code (⟨"com/example/pipewright/pipewright/io/Iso2022Layout$GraphicSet", "ofOneByte", "(B)Lcom/example/pipewright/pipewright/io/Iso2022Layout$GraphicSet;"⟩ : MethodName) prog_24_method_4_code 1 (some (.object "com/example/pipewright/pipewright/io/Iso2022Layout$GraphicSet")) :: ws) ({ frames := 0, cells := 0, slots := 0, locals := 0 } : Room)) (fun a U => a = #[(.int (66 : Int32))] ∧ Z.Warmed39 U.vm ∧ U.heap = h0) (fun _ _ _ _ _ => True) (fun _ U o U' => ∃ v L, o = .returned v ∧ own_QP (some (.ref w_GraphicSet_ASCII)) h0 n0 v U'.heap L ∧ FrameEnd U o U' L ({ frames := 0, cells := 0, slots := 0, locals := 0 } : Room).cells ({ frames := 0, cells := 0, slots := 0, locals := 0 } : Room).slots) := by
  refine MetFree.of_bodySF (plainFor_of_name pn_0) hisR ?_
  intro p e s m args below meth c s₁ Bd hml0 hP hK
  obtain ⟨rfl, hZ, hh⟩ := hP
  have hx := Bd.exec
  have hby := Bd.bytes
  have hml : c.maxLocals = 1 := hml0
  have hown : s.vm.findClass "com/example/pipewright/pipewright/io/Iso2022Layout$GraphicSet" = some m.cls := findClass_of_methodNamed Bd.named
  have hnm := (name_of_methodNamed Bd.named Bd.method).1
  have X0 : Stand p l e ({ frames := 0, cells := 0, slots := 0, locals := 0 } : Room) s m #[(.int (66 : Int32))] below meth c s₁ [] 0 0 := Stand.of_body Bd
  have e0 : s₁.heap = h0 := by rw [← hh, Bd.state]; rfl
  have N0 := Fr.nil n0
  have pre0 : ∀ t, Steps p.tables e below (s₁.setTop (mkF m 0 #[iv (66 : Int32)] [])) t → Steps p.tables e below (s₁.setTop (entryFrame m #[(.int (66 : Int32))] 1)) t := fun t k => castTop (ef_1_I m (66 : Int32)) k
  obtain ⟨T1, X1, e1, st1⟩ := getS2 X0 hx hZ hown (host := "") (Or.inl (hw _ (List.mem_of_getElem? (i := 4) rfl))) Via.refl e0 S_GraphicSet_ASCII (g := (mkF m 36 #[iv (66 : Int32)] [])) rfl (hb hby d1_36)
  obtain ⟨fs, hr, hrun, hended, hW, hsame⟩ := X1.leave (v := (some (.ref w_GraphicSet_ASCII))) (fun h => by rw [Bd.returns] at h; cases h)
  refine ⟨_, _, pre0 _ ?_, hrun, hended, _, _, rfl, ?_, ⟨_, rfl⟩, hW, hsame.mono (by decide) (by decide)⟩
  · show Steps p.tables e below (s₁.setTop (mkF m 0 #[iv (66 : Int32)] [])) _
    refine XS.iloadN X0.here hx rfl (hb hby d1_0) rfl ?_
    show Steps p.tables e below (s₁.setTop (mkF m 1 #[iv (66 : Int32)] [(.int (66 : Int32))])) _
    refine X0.lookupswitchHit hx (g := (mkF m 1 #[iv (66 : Int32)] [(.int (66 : Int32))])) rfl rfl (hb hby d1_1) (by decide) (a := 66) (off := 35) (by decide) (show (0 : Int) ≤ ((1 : Nat) : Int) + 35 from by decide) _ ?_
    show Steps p.tables e below (s₁.setTop (mkF m 36 #[iv (66 : Int32)] [])) _
    refine st1 _ ?_
    show Steps p.tables e below (T1.setTop (mkF m 39 #[iv (66 : Int32)] [(.ref w_GraphicSet_ASCII)])) _
    refine XS.goto X1.here hx rfl (pc0 := 39) (pc' := 57) rfl (hb hby d1_39) (by decide) (by decide) ?_
    show Steps p.tables e below (T1.setTop (mkF m 57 #[iv (66 : Int32)] [(.ref w_GraphicSet_ASCII)])) _
    exact own_retA X1 hx Bd.returns rfl rfl (hb hby d1_57) hr
  · exact ⟨rfl, N0, e1⟩
set_option maxRecDepth 65536 in
set_option maxHeartbeats 40000000 in
theorem rm2_1 (l : Launch) (Z : State) (a0 : Array Value) (hw : ∀ d ∈ tables_1, d.before a0 Z = true) (ws : List Jvm.Cond) (w_GraphicSet_ASCII : Addr) (h0 : Heap) (n0 : Nat) (Z0 : n0 ≤ h0.size) (S_GraphicSet_ASCII : Sta Z h0 "com/example/pipewright/pipewright/io/Iso2022Layout$GraphicSet" "ASCII" "Lcom/example/pipewright/pipewright/io/Iso2022Layout$GraphicSet;" (.ref w_GraphicSet_ASCII)) :
    MetFree l (⟨"com/example/pipewright/pipewright/io/GraphicSetOfOneBytePinLaw", "expected", "(B)Lcom/example/pipewright/pipewright/io/Iso2022Layout$GraphicSet;"⟩ : MethodName) (head1 (Jvm.Cond.code (⟨"com/example/pipewright/pipewright/io/GraphicSetOfOneBytePinLaw", "expected", "(B)Lcom/example/pipewright/pipewright/io/Iso2022Layout$GraphicSet;"⟩ : MethodName) method_3_code 2 (some (.object "com/example/pipewright/pipewright/io/Iso2022Layout$GraphicSet")) :: ws) ({ frames := 0, cells := 0, slots := 0, locals := 0 } : Room)) (fun a U => a = #[(.int (66 : Int32))] ∧ Z.Warmed39 U.vm ∧ U.heap = h0) (fun _ _ _ _ _ => True) (fun _ U o U' => ∃ v L, o = .returned v ∧ own_QP (some (.ref w_GraphicSet_ASCII)) h0 n0 v U'.heap L ∧ FrameEnd U o U' L ({ frames := 0, cells := 0, slots := 0, locals := 0 } : Room).cells ({ frames := 0, cells := 0, slots := 0, locals := 0 } : Room).slots) := by
  refine MetFree.of_bodySF (plainFor_of_name pn_1) hisR ?_
  intro p e s m args below meth c s₁ Bd hml0 hP hK
  obtain ⟨rfl, hZ, hh⟩ := hP
  have hx := Bd.exec
  have hby := Bd.bytes
  have hml : c.maxLocals = 2 := hml0
  have hown : s.vm.findClass "com/example/pipewright/pipewright/io/GraphicSetOfOneBytePinLaw" = some m.cls := findClass_of_methodNamed Bd.named
  have hnm := (name_of_methodNamed Bd.named Bd.method).1
  have X0 : Stand p l e ({ frames := 0, cells := 0, slots := 0, locals := 0 } : Room) s m #[(.int (66 : Int32))] below meth c s₁ [] 0 0 := Stand.of_body Bd
  have e0 : s₁.heap = h0 := by rw [← hh, Bd.state]; rfl
  have N0 := Fr.nil n0
  have pre0 : ∀ t, Steps p.tables e below (s₁.setTop (mkF m 0 #[iv (66 : Int32), .unset] [])) t → Steps p.tables e below (s₁.setTop (entryFrame m #[(.int (66 : Int32))] 2)) t := fun t k => castTop (ef_2_I m (66 : Int32)) k
  obtain ⟨T1, X1, e1, st1⟩ := getS2 X0 hx hZ hown (host := "") (Or.inl (hw _ (List.mem_of_getElem? (i := 10) rfl))) Via.refl e0 S_GraphicSet_ASCII (g := (mkF m 8 #[iv (66 : Int32), iv (66 : Int32)] [])) rfl (hb hby d2_8)
  obtain ⟨fs, hr, hrun, hended, hW, hsame⟩ := X1.leave (v := (some (.ref w_GraphicSet_ASCII))) (fun h => by rw [Bd.returns] at h; cases h)
  refine ⟨_, _, pre0 _ ?_, hrun, hended, _, _, rfl, ?_, ⟨_, rfl⟩, hW, hsame.mono (by decide) (by decide)⟩
  · show Steps p.tables e below (s₁.setTop (mkF m 0 #[iv (66 : Int32), .unset] [])) _
    refine XS.iloadN X0.here hx rfl (hb hby d2_0) rfl ?_
    show Steps p.tables e below (s₁.setTop (mkF m 1 #[iv (66 : Int32), .unset] [(.int (66 : Int32))])) _
    refine XS.istoreN X0.here hx rfl (hb hby d2_1) rfl (l' := #[iv (66 : Int32), iv (66 : Int32)]) rfl ?_
    show Steps p.tables e below (s₁.setTop (mkF m 2 #[iv (66 : Int32), iv (66 : Int32)] [])) _
    refine XS.iloadN X0.here hx rfl (hb hby d2_2) rfl ?_
    show Steps p.tables e below (s₁.setTop (mkF m 3 #[iv (66 : Int32), iv (66 : Int32)] [(.int (66 : Int32))])) _
    refine XS.bipush X0.here hx rfl (hb hby d2_3) ?_
    show Steps p.tables e below (s₁.setTop (mkF m 5 #[iv (66 : Int32), iv (66 : Int32)] [(.int (66 : Int32)), (.int (66 : Int32))])) _
    refine XS.icmpNo X0.here hx rfl (hb hby d2_5) rfl (teq (by decide +kernel : (66 : Int32) = (66 : Int32))).2 ?_
    show Steps p.tables e below (s₁.setTop (mkF m 8 #[iv (66 : Int32), iv (66 : Int32)] [])) _
    refine st1 _ ?_
    show Steps p.tables e below (T1.setTop (mkF m 11 #[iv (66 : Int32), iv (66 : Int32)] [(.ref w_GraphicSet_ASCII)])) _
    exact own_retA X1 hx Bd.returns rfl rfl (hb hby d2_11) hr
  · exact ⟨rfl, N0, e1⟩
set_option maxRecDepth 65536 in
set_option maxHeartbeats 40000000 in
theorem rm3_2 (l : Launch) (Z : State) (a0 : Array Value) (hw : ∀ d ∈ tables_1, d.before a0 Z = true) (ws : List Jvm.Cond) (w_GraphicSet_ASCII : Addr) (h0 : Heap) (n0 : Nat) (Z0 : n0 ≤ h0.size) (F_w_GraphicSet_ASCII_width : Fld Z h0 w_GraphicSet_ASCII "com/example/pipewright/pipewright/io/Iso2022Layout$GraphicSet" "width" "I" (.int (1 : Int32))) :
    MetFree l (⟨"com/example/pipewright/pipewright/io/Iso2022Layout$GraphicSet", "width", "()I"⟩ : MethodName) (head1 (Jvm.Cond.code (⟨"com/example/pipewright/pipewright/io/Iso2022Layout$GraphicSet", "width", "()I"⟩ : MethodName) prog_24_method_6_code 1 (some .int) :: ws) ({ frames := 0, cells := 0, slots := 0, locals := 0 } : Room)) (fun a U => a = #[(.ref w_GraphicSet_ASCII)] ∧ Z.Warmed39 U.vm ∧ U.heap = h0) (fun _ _ _ _ _ => True) (fun _ U o U' => ∃ v L, o = .returned v ∧ own_QP (some (.int (1 : Int32))) h0 n0 v U'.heap L ∧ FrameEnd U o U' L ({ frames := 0, cells := 0, slots := 0, locals := 0 } : Room).cells ({ frames := 0, cells := 0, slots := 0, locals := 0 } : Room).slots) := by
  refine MetFree.of_bodySF (plainFor_of_name pn_0) hisR ?_
  intro p e s m args below meth c s₁ Bd hml0 hP hK
  obtain ⟨rfl, hZ, hh⟩ := hP
  have hx := Bd.exec
  have hby := Bd.bytes
  have hml : c.maxLocals = 1 := hml0
  have hown : s.vm.findClass "com/example/pipewright/pipewright/io/Iso2022Layout$GraphicSet" = some m.cls := findClass_of_methodNamed Bd.named
  have hnm := (name_of_methodNamed Bd.named Bd.method).1
  have X0 : Stand p l e ({ frames := 0, cells := 0, slots := 0, locals := 0 } : Room) s m #[(.ref w_GraphicSet_ASCII)] below meth c s₁ [] 0 0 := Stand.of_body Bd
  have e0 : s₁.heap = h0 := by rw [← hh, Bd.state]; rfl
  have N0 := Fr.nil n0
  have pre0 : ∀ t, Steps p.tables e below (s₁.setTop (mkF m 0 #[rv w_GraphicSet_ASCII] [])) t → Steps p.tables e below (s₁.setTop (entryFrame m #[(.ref w_GraphicSet_ASCII)] 1)) t := fun t k => castTop (ef_3_R m w_GraphicSet_ASCII) k
  obtain ⟨T1, X1, e1, st1⟩ := getF X0 hx hZ hown (host := "") (Or.inl (hw _ (List.mem_of_getElem? (i := 16) rfl))) Via.refl e0 F_w_GraphicSet_ASCII_width (g := (mkF m 1 #[rv w_GraphicSet_ASCII] [(.ref w_GraphicSet_ASCII)])) rfl rfl (hb hby d3_1)
  obtain ⟨fs, hr, hrun, hended, hW, hsame⟩ := X1.leave (v := (some (.int (1 : Int32)))) (fun h => by rw [Bd.returns] at h; cases h)
  refine ⟨_, _, pre0 _ ?_, hrun, hended, _, _, rfl, ?_, ⟨_, rfl⟩, hW, hsame.mono (by decide) (by decide)⟩
  · show Steps p.tables e below (s₁.setTop (mkF m 0 #[rv w_GraphicSet_ASCII] [])) _
    refine XS.aloadN X0.here hx rfl (hb hby d3_0) rfl rfl ?_
    show Steps p.tables e below (s₁.setTop (mkF m 1 #[rv w_GraphicSet_ASCII] [(.ref w_GraphicSet_ASCII)])) _
    refine st1 _ ?_
    show Steps p.tables e below (T1.setTop (mkF m 4 #[rv w_GraphicSet_ASCII] [(.int (1 : Int32))])) _
    exact retI X1 hx Bd.returns (hb hby d3_4) hr
  · exact ⟨rfl, N0, e1⟩
set_option maxRecDepth 65536 in
set_option maxHeartbeats 40000000 in
theorem rm0_0 (l : Launch) (Z : State) (a0 : Array Value) (hw : ∀ d ∈ tables_1, d.before a0 Z = true) (ws : List Jvm.Cond) (p0 : Int32) (p1 : Int32) (w_GraphicSet_ASCII : Addr) (h0 : Heap) (n0 : Nat) (Z0 : n0 ≤ h0.size) (hk0 : (p0 &&& (3 : Int32)) = (0 : Int32)) (S_GraphicSet_ASCII : Sta Z h0 "com/example/pipewright/pipewright/io/Iso2022Layout$GraphicSet" "ASCII" "Lcom/example/pipewright/pipewright/io/Iso2022Layout$GraphicSet;" (.ref w_GraphicSet_ASCII)) (F_w_GraphicSet_ASCII_width : Fld Z h0 w_GraphicSet_ASCII "com/example/pipewright/pipewright/io/Iso2022Layout$GraphicSet" "width" "I" (.int (1 : Int32))) (E_w_GraphicSet_ASCII : Exa Z h0 w_GraphicSet_ASCII "com/example/pipewright/pipewright/io/Iso2022Layout$GraphicSet") :
    MetFree l x (head1 (Jvm.Cond.code x code maxLocals ret :: ws) room_1) (fun a U => a = #[(.int p0), (.int p1)] ∧ Z.Warmed39 U.vm ∧ U.heap = h0) (fun _ _ _ _ _ => True) (fun _ U o U' => ∃ v L, o = .returned v ∧ own_QL n0 v U'.heap L ∧ FrameEnd U o U' L room_1.cells room_1.slots) := by
  refine MetFree.of_bodySF (plainFor_of_name pn_1) hisR ?_
  intro p e s m args below meth c s₁ Bd hml0 hP hK
  obtain ⟨rfl, hZ, hh⟩ := hP
  have hx := Bd.exec
  have hby := Bd.bytes
  have hml : c.maxLocals = 6 := hml0
  have hown : s.vm.findClass "com/example/pipewright/pipewright/io/GraphicSetOfOneBytePinLaw" = some m.cls := findClass_of_methodNamed Bd.named
  have hnm := (name_of_methodNamed Bd.named Bd.method).1
  have X0 : Stand p l e room_1 s m #[(.int p0), (.int p1)] below meth c s₁ [] 0 0 := Stand.of_body Bd
  have e0 : s₁.heap = h0 := by rw [← hh, Bd.state]; rfl
  have N0 := Fr.nil n0
  have pre0 : ∀ t, Steps p.tables e below (s₁.setTop (mkF m 0 #[iv p0, iv p1, .unset, .unset, .unset, .unset] [])) t → Steps p.tables e below (s₁.setTop (entryFrame m #[(.int p0), (.int p1)] maxLocals)) t := fun t k => castTop (ef_0_II m p0 p1) k
  obtain ⟨_, _, ⟨T1, L1, k1, n1⟩, -, X1, ⟨Lc1, hQ1, l1, y1, z1⟩, st1⟩ := Jvm.LawKit.callS X0 hx (y := (⟨"com/example/pipewright/pipewright/io/Iso2022Layout$GraphicSet", "ofOneByte", "(B)Lcom/example/pipewright/pipewright/io/Iso2022Layout$GraphicSet;"⟩ : MethodName)) hown (mvT hZ (hw _ (List.mem_of_getElem? (i := 0) rfl))) (mvT hZ (hw _ (List.mem_of_getElem? (i := 1) rfl))) (mvT hZ (hw _ (List.mem_of_getElem? (i := 2) rfl))) (mvT hZ (hw _ (List.mem_of_getElem? (i := 3) rfl))) (by decide) (backOf (W := 0) (rm1_0 l Z a0 hw [] w_GraphicSet_ASCII h0 n0 Z0 S_GraphicSet_ASCII) hZ (hw _ (List.mem_of_getElem? (i := 3) rfl)) (hw _ (List.mem_of_getElem? (i := 2) rfl)) (by decide) (by decide)) (g := (mkF m 40 #[iv p0, iv p1, iv (0 : Int32), iv (66 : Int32), .unset, .unset] [(.int (66 : Int32))])) rfl (by rw [hml]; rfl) (argsL := [(.int (66 : Int32))]) (rest := []) (lenOf pd_0 rfl) rfl (by show 2 * 0 + _ ≤ _; exact Nat.le_of_eq rfl) (hb hby at_40) (fun _ _ => ⟨rfl, e0, (by decide : 0 + 0 ≤ _), (by decide : 0 + 0 ≤ _)⟩)
  dsimp only [Pt.U, Pt.locs, Pt.cells, Pt.slots] at X1 l1 y1 z1 st1 hQ1
  subst l1 y1 z1
  obtain ⟨rfl, N1q, e1⟩ := hQ1
  have N1 := Fr.app N0 N1q
  obtain ⟨_, _, ⟨T2, L2, k2, n2⟩, -, X2, ⟨Lc2, hQ2, l2, y2, z2⟩, st2⟩ := Jvm.LawKit.callS X1 hx (y := (⟨"com/example/pipewright/pipewright/io/GraphicSetOfOneBytePinLaw", "expected", "(B)Lcom/example/pipewright/pipewright/io/Iso2022Layout$GraphicSet;"⟩ : MethodName)) hown (mvT hZ (hw _ (List.mem_of_getElem? (i := 6) rfl))) (mvT hZ (hw _ (List.mem_of_getElem? (i := 7) rfl))) (mvT hZ (hw _ (List.mem_of_getElem? (i := 8) rfl))) (mvT hZ (hw _ (List.mem_of_getElem? (i := 9) rfl))) (by decide) (backOf (W := 0) (rm2_1 l Z a0 hw [] w_GraphicSet_ASCII h0 n0 Z0 S_GraphicSet_ASCII) hZ (hw _ (List.mem_of_getElem? (i := 9) rfl)) (hw _ (List.mem_of_getElem? (i := 8) rfl)) (by decide) (by decide)) (g := (mkF m 46 #[iv p0, iv p1, iv (0 : Int32), iv (66 : Int32), rv w_GraphicSet_ASCII, .unset] [(.int (66 : Int32))])) rfl (by rw [hml]; rfl) (argsL := [(.int (66 : Int32))]) (rest := []) (lenOf pd_0 rfl) rfl (by show 2 * 0 + _ ≤ _; exact Nat.le_of_eq rfl) (hb hby at_46) (fun _ _ => ⟨rfl, e1, (by decide : 0 + 0 ≤ _), (by decide : 0 + 0 ≤ _)⟩)
  dsimp only [Pt.U, Pt.locs, Pt.cells, Pt.slots] at X2 l2 y2 z2 st2 hQ2
  subst l2 y2 z2
  obtain ⟨rfl, N2q, e2⟩ := hQ2
  have N2 := Fr.app N1 N2q
  obtain ⟨cq3, kq3, q3a, q3b, q3c⟩ := isOf hZ e2 E_w_GraphicSet_ASCII
  obtain ⟨_, _, ⟨T3, L3, k3, n3⟩, -, X3, ⟨Lc3, hQ3, l3, y3, z3⟩, st3⟩ := X2.virtualBack hx (y := (⟨"com/example/pipewright/pipewright/io/Iso2022Layout$GraphicSet", "width", "()I"⟩ : MethodName)) (z := (⟨"com/example/pipewright/pipewright/io/Iso2022Layout$GraphicSet", "width", "()I"⟩ : MethodName)) hown (mvT hZ (hw _ (List.mem_of_getElem? (i := 11) rfl))) (mvT hZ (hw _ (List.mem_of_getElem? (i := 12) rfl))) (notFace_of_selects (args := #[]) (mvT hZ (hw _ (List.mem_of_getElem? (i := 14) rfl)))) (mvT hZ (hw _ (List.mem_of_getElem? (i := 14) rfl))) (mvT hZ (hw _ (List.mem_of_getElem? (i := 13) rfl))) (by decide) (backOf (W := 0) (rm3_2 l Z a0 hw [] w_GraphicSet_ASCII h0 n0 Z0 F_w_GraphicSet_ASCII_width) hZ (hw _ (List.mem_of_getElem? (i := 15) rfl)) (hw _ (List.mem_of_getElem? (i := 2) rfl)) (by decide) (by decide)) q3a q3c (g := (mkF m 60 #[iv p0, iv p1, iv (0 : Int32), iv (66 : Int32), rv w_GraphicSet_ASCII, rv w_GraphicSet_ASCII] [(.ref w_GraphicSet_ASCII)])) rfl (by rw [hml]; rfl) (Steps.refl _) (argsL := []) (rest := []) (lenOf pd_1 rfl) rfl (by show 2 * 0 + _ ≤ _; exact Nat.le_of_eq rfl) (hb hby at_60) (fun _ _ => ⟨rfl, e2, (by decide : 0 + 0 ≤ _), (by decide : 0 + 0 ≤ _)⟩)
  dsimp only [Pt.U, Pt.locs, Pt.cells, Pt.slots] at X3 l3 y3 z3 st3 hQ3
  subst l3 y3 z3
  obtain ⟨rfl, N3q, e3⟩ := hQ3
  have N3 := Fr.app N2 N3q
  obtain ⟨fs, hr, hrun, hended, hW, hsame⟩ := X3.leave (v := (some (.int (1 : Int32)))) (fun h => by rw [Bd.returns] at h; cases h)
  refine ⟨_, _, pre0 _ ?_, hrun, hended, _, _, rfl, ?_, ⟨_, rfl⟩, hW, hsame.mono (by decide) (by decide)⟩
  · show Steps p.tables e below (s₁.setTop (mkF m 0 #[iv p0, iv p1, .unset, .unset, .unset, .unset] [])) _
    refine XS.iloadN X0.here hx rfl (hb hby at_0) rfl ?_
    show Steps p.tables e below (s₁.setTop (mkF m 1 #[iv p0, iv p1, .unset, .unset, .unset, .unset] [(.int p0)])) _
    refine XS.iconst X0.here hx rfl (hb hby at_1) ?_
    show Steps p.tables e below (s₁.setTop (mkF m 2 #[iv p0, iv p1, .unset, .unset, .unset, .unset] [(.int (3 : Int32)), (.int p0)])) _
    refine XS.iand X0.here hx rfl (hb hby at_2) rfl ?_
    show Steps p.tables e below (s₁.setTop (mkF m 3 #[iv p0, iv p1, .unset, .unset, .unset, .unset] [(.int (p0 &&& (3 : Int32)))])) _
    rewrite [hk0]
    show Steps p.tables e below (s₁.setTop (mkF m 3 #[iv p0, iv p1, .unset, .unset, .unset, .unset] [(.int (0 : Int32))])) _
    refine XS.istoreN X0.here hx rfl (hb hby at_3) rfl (l' := #[iv p0, iv p1, iv (0 : Int32), .unset, .unset, .unset]) rfl ?_
    show Steps p.tables e below (s₁.setTop (mkF m 4 #[iv p0, iv p1, iv (0 : Int32), .unset, .unset, .unset] [])) _
    refine XS.iloadN X0.here hx rfl (hb hby at_4) rfl ?_
    show Steps p.tables e below (s₁.setTop (mkF m 5 #[iv p0, iv p1, iv (0 : Int32), .unset, .unset, .unset] [(.int (0 : Int32))])) _
    refine XS.ifNo X0.here hx rfl (hb hby at_5) rfl ((if0 _ _).trans (teq (by decide +kernel : (0 : Int32) = (0 : Int32))).2) ?_
    show Steps p.tables e below (s₁.setTop (mkF m 8 #[iv p0, iv p1, iv (0 : Int32), .unset, .unset, .unset] [])) _
    refine XS.bipush X0.here hx rfl (hb hby at_8) ?_
    show Steps p.tables e below (s₁.setTop (mkF m 10 #[iv p0, iv p1, iv (0 : Int32), .unset, .unset, .unset] [(.int (66 : Int32))])) _
    refine XS.istoreN X0.here hx rfl (hb hby at_10) rfl (l' := #[iv p0, iv p1, iv (0 : Int32), iv (66 : Int32), .unset, .unset]) rfl ?_
    show Steps p.tables e below (s₁.setTop (mkF m 11 #[iv p0, iv p1, iv (0 : Int32), iv (66 : Int32), .unset, .unset] [])) _
    refine XS.goto X0.here hx rfl (pc0 := 11) (pc' := 39) rfl (hb hby at_11) (by decide) (by decide) ?_
    show Steps p.tables e below (s₁.setTop (mkF m 39 #[iv p0, iv p1, iv (0 : Int32), iv (66 : Int32), .unset, .unset] [])) _
    refine XS.iloadN X0.here hx rfl (hb hby at_39) rfl ?_
    show Steps p.tables e below (s₁.setTop (mkF m 40 #[iv p0, iv p1, iv (0 : Int32), iv (66 : Int32), .unset, .unset] [(.int (66 : Int32))])) _
    refine st1 _ ?_
    show Steps p.tables e below (T1.setTop (mkF m 43 #[iv p0, iv p1, iv (0 : Int32), iv (66 : Int32), .unset, .unset] [(.ref w_GraphicSet_ASCII)])) _
    refine XS.astore X1.here hx rfl (hb hby at_43) rfl rfl (l' := #[iv p0, iv p1, iv (0 : Int32), iv (66 : Int32), rv w_GraphicSet_ASCII, .unset]) rfl ?_
    show Steps p.tables e below (T1.setTop (mkF m 45 #[iv p0, iv p1, iv (0 : Int32), iv (66 : Int32), rv w_GraphicSet_ASCII, .unset] [])) _
    refine XS.iloadN X1.here hx rfl (hb hby at_45) rfl ?_
    show Steps p.tables e below (T1.setTop (mkF m 46 #[iv p0, iv p1, iv (0 : Int32), iv (66 : Int32), rv w_GraphicSet_ASCII, .unset] [(.int (66 : Int32))])) _
    refine st2 _ ?_
    show Steps p.tables e below (T2.setTop (mkF m 49 #[iv p0, iv p1, iv (0 : Int32), iv (66 : Int32), rv w_GraphicSet_ASCII, .unset] [(.ref w_GraphicSet_ASCII)])) _
    refine XS.astore X2.here hx rfl (hb hby at_49) rfl rfl (l' := #[iv p0, iv p1, iv (0 : Int32), iv (66 : Int32), rv w_GraphicSet_ASCII, rv w_GraphicSet_ASCII]) rfl ?_
    show Steps p.tables e below (T2.setTop (mkF m 51 #[iv p0, iv p1, iv (0 : Int32), iv (66 : Int32), rv w_GraphicSet_ASCII, rv w_GraphicSet_ASCII] [])) _
    refine XS.aload X2.here hx rfl (hb hby at_51) rfl rfl ?_
    show Steps p.tables e below (T2.setTop (mkF m 53 #[iv p0, iv p1, iv (0 : Int32), iv (66 : Int32), rv w_GraphicSet_ASCII, rv w_GraphicSet_ASCII] [(.ref w_GraphicSet_ASCII)])) _
    refine XS.aload X2.here hx rfl (hb hby at_53) rfl rfl ?_
    show Steps p.tables e below (T2.setTop (mkF m 55 #[iv p0, iv p1, iv (0 : Int32), iv (66 : Int32), rv w_GraphicSet_ASCII, rv w_GraphicSet_ASCII] [(.ref w_GraphicSet_ASCII), (.ref w_GraphicSet_ASCII)])) _
    refine Jvm.RoadKit.acmp (g := (mkF m 55 #[iv p0, iv p1, iv (0 : Int32), iv (66 : Int32), rv w_GraphicSet_ASCII, rv w_GraphicSet_ASCII] [(.ref w_GraphicSet_ASCII), (.ref w_GraphicSet_ASCII)])) X2 hx rfl rfl rfl (pc0 := 55) (pc' := 58) (same := true) rfl (hb hby at_55) rfl (decide_eq_true rfl) (by decide) (by decide) ?_
    show Steps p.tables e below (T2.setTop (mkF m 58 #[iv p0, iv p1, iv (0 : Int32), iv (66 : Int32), rv w_GraphicSet_ASCII, rv w_GraphicSet_ASCII] [])) _
    refine XS.aload X2.here hx rfl (hb hby at_58) rfl rfl ?_
    show Steps p.tables e below (T2.setTop (mkF m 60 #[iv p0, iv p1, iv (0 : Int32), iv (66 : Int32), rv w_GraphicSet_ASCII, rv w_GraphicSet_ASCII] [(.ref w_GraphicSet_ASCII)])) _
    refine st3.trans ?_
    show Steps p.tables e below (T3.setTop (mkF m 63 #[iv p0, iv p1, iv (0 : Int32), iv (66 : Int32), rv w_GraphicSet_ASCII, rv w_GraphicSet_ASCII] [(.int (1 : Int32))])) _
    refine XS.iconst X3.here hx rfl (hb hby at_63) ?_
    show Steps p.tables e below (T3.setTop (mkF m 64 #[iv p0, iv p1, iv (0 : Int32), iv (66 : Int32), rv w_GraphicSet_ASCII, rv w_GraphicSet_ASCII] [(.int (1 : Int32)), (.int (1 : Int32))])) _
    refine XS.icmpNo X3.here hx rfl (hb hby at_64) rfl (teq (by decide +kernel : (1 : Int32) = (1 : Int32))).2 ?_
    show Steps p.tables e below (T3.setTop (mkF m 67 #[iv p0, iv p1, iv (0 : Int32), iv (66 : Int32), rv w_GraphicSet_ASCII, rv w_GraphicSet_ASCII] [])) _
    refine XS.iconst X3.here hx rfl (hb hby at_67) ?_
    show Steps p.tables e below (T3.setTop (mkF m 68 #[iv p0, iv p1, iv (0 : Int32), iv (66 : Int32), rv w_GraphicSet_ASCII, rv w_GraphicSet_ASCII] [(.int (1 : Int32))])) _
    refine XS.goto X3.here hx rfl (pc0 := 68) (pc' := 72) rfl (hb hby at_68) (by decide) (by decide) ?_
    show Steps p.tables e below (T3.setTop (mkF m 72 #[iv p0, iv p1, iv (0 : Int32), iv (66 : Int32), rv w_GraphicSet_ASCII, rv w_GraphicSet_ASCII] [(.int (1 : Int32))])) _
    exact retN X3 hx (t := .boolean) Bd.returns (by simp) (hb hby at_72) hr
  · exact ⟨rfl, N3⟩
set_option maxRecDepth 65536 in
set_option maxHeartbeats 40000000 in
theorem rm1_3 (l : Launch) (Z : State) (a0 : Array Value) (hw : ∀ d ∈ tables_1, d.before a0 Z = true) (ws : List Jvm.Cond) (w_GraphicSet_JIS_X_0201_ROMAN : Addr) (h0 : Heap) (n0 : Nat) (Z0 : n0 ≤ h0.size) (S_GraphicSet_JIS_X_0201_ROMAN : Sta Z h0 "com/example/pipewright/pipewright/io/Iso2022Layout$GraphicSet" "JIS_X_0201_ROMAN" "Lcom/example/pipewright/pipewright/io/Iso2022Layout$GraphicSet;" (.ref w_GraphicSet_JIS_X_0201_ROMAN)) :
    MetFree l (⟨"com/example/pipewright/pipewright/io/Iso2022Layout$GraphicSet", "ofOneByte", "(B)Lcom/example/pipewright/pipewright/io/Iso2022Layout$GraphicSet;"⟩ : MethodName) (head1 (Jvm.Cond.code (⟨"com/example/pipewright/pipewright/io/Iso2022Layout$GraphicSet", "ofOneByte", "(B)Lcom/example/pipewright/pipewright/io/Iso2022Layout$GraphicSet;"⟩ : MethodName) prog_24_method_4_code 1 (some (.object "com/example/pipewright/pipewright/io/Iso2022Layout$GraphicSet")) :: ws) ({ frames := 0, cells := 0, slots := 0, locals := 0 } : Room)) (fun a U => a = #[(.int (74 : Int32))] ∧ Z.Warmed39 U.vm ∧ U.heap = h0) (fun _ _ _ _ _ => True) (fun _ U o U' => ∃ v L, o = .returned v ∧ own_QP (some (.ref w_GraphicSet_JIS_X_0201_ROMAN)) h0 n0 v U'.heap L ∧ FrameEnd U o U' L ({ frames := 0, cells := 0, slots := 0, locals := 0 } : Room).cells ({ frames := 0, cells := 0, slots := 0, locals := 0 } : Room).slots) := by
  refine MetFree.of_bodySF (plainFor_of_name pn_0) hisR ?_
  intro p e s m args below meth c s₁ Bd hml0 hP hK
  obtain ⟨rfl, hZ, hh⟩ := hP
  have hx := Bd.exec
  have hby := Bd.bytes
  have hml : c.maxLocals = 1 := hml0
  have hown : s.vm.findClass "com/example/pipewright/pipewright/io/Iso2022Layout$GraphicSet" = some m.cls := findClass_of_methodNamed Bd.named
  have hnm := (name_of_methodNamed Bd.named Bd.method).1
  have X0 : Stand p l e ({ frames := 0, cells := 0, slots := 0, locals := 0 } : Room) s m #[(.int (74 : Int32))] below meth c s₁ [] 0 0 := Stand.of_body Bd
  have e0 : s₁.heap = h0 := by rw [← hh, Bd.state]; rfl
  have N0 := Fr.nil n0
  have pre0 : ∀ t, Steps p.tables e below (s₁.setTop (mkF m 0 #[iv (74 : Int32)] [])) t → Steps p.tables e below (s₁.setTop (entryFrame m #[(.int (74 : Int32))] 1)) t := fun t k => castTop (ef_1_I m (74 : Int32)) k
  obtain ⟨T1, X1, e1, st1⟩ := getS2 X0 hx hZ hown (host := "") (Or.inl (hw _ (List.mem_of_getElem? (i := 21) rfl))) Via.refl e0 S_GraphicSet_JIS_X_0201_ROMAN (g := (mkF m 42 #[iv (74 : Int32)] [])) rfl (hb hby d1_42)
  obtain ⟨fs, hr, hrun, hended, hW, hsame⟩ := X1.leave (v := (some (.ref w_GraphicSet_JIS_X_0201_ROMAN))) (fun h => by rw [Bd.returns] at h; cases h)
  refine ⟨_, _, pre0 _ ?_, hrun, hended, _, _, rfl, ?_, ⟨_, rfl⟩, hW, hsame.mono (by decide) (by decide)⟩
  · show Steps p.tables e below (s₁.setTop (mkF m 0 #[iv (74 : Int32)] [])) _
    refine XS.iloadN X0.here hx rfl (hb hby d1_0) rfl ?_
    show Steps p.tables e below (s₁.setTop (mkF m 1 #[iv (74 : Int32)] [(.int (74 : Int32))])) _
    refine X0.lookupswitchHit hx (g := (mkF m 1 #[iv (74 : Int32)] [(.int (74 : Int32))])) rfl rfl (hb hby d1_1) (by decide) (a := 74) (off := 41) (by decide) (show (0 : Int) ≤ ((1 : Nat) : Int) + 41 from by decide) _ ?_
    show Steps p.tables e below (s₁.setTop (mkF m 42 #[iv (74 : Int32)] [])) _
    refine st1 _ ?_
    show Steps p.tables e below (T1.setTop (mkF m 45 #[iv (74 : Int32)] [(.ref w_GraphicSet_JIS_X_0201_ROMAN)])) _
    refine XS.goto X1.here hx rfl (pc0 := 45) (pc' := 57) rfl (hb hby d1_45) (by decide) (by decide) ?_
    show Steps p.tables e below (T1.setTop (mkF m 57 #[iv (74 : Int32)] [(.ref w_GraphicSet_JIS_X_0201_ROMAN)])) _
    exact own_retA X1 hx Bd.returns rfl rfl (hb hby d1_57) hr
  · exact ⟨rfl, N0, e1⟩
set_option maxRecDepth 65536 in
set_option maxHeartbeats 40000000 in
theorem rm2_4 (l : Launch) (Z : State) (a0 : Array Value) (hw : ∀ d ∈ tables_1, d.before a0 Z = true) (ws : List Jvm.Cond) (w_GraphicSet_JIS_X_0201_ROMAN : Addr) (h0 : Heap) (n0 : Nat) (Z0 : n0 ≤ h0.size) (S_GraphicSet_JIS_X_0201_ROMAN : Sta Z h0 "com/example/pipewright/pipewright/io/Iso2022Layout$GraphicSet" "JIS_X_0201_ROMAN" "Lcom/example/pipewright/pipewright/io/Iso2022Layout$GraphicSet;" (.ref w_GraphicSet_JIS_X_0201_ROMAN)) :
    MetFree l (⟨"com/example/pipewright/pipewright/io/GraphicSetOfOneBytePinLaw", "expected", "(B)Lcom/example/pipewright/pipewright/io/Iso2022Layout$GraphicSet;"⟩ : MethodName) (head1 (Jvm.Cond.code (⟨"com/example/pipewright/pipewright/io/GraphicSetOfOneBytePinLaw", "expected", "(B)Lcom/example/pipewright/pipewright/io/Iso2022Layout$GraphicSet;"⟩ : MethodName) method_3_code 2 (some (.object "com/example/pipewright/pipewright/io/Iso2022Layout$GraphicSet")) :: ws) ({ frames := 0, cells := 0, slots := 0, locals := 0 } : Room)) (fun a U => a = #[(.int (74 : Int32))] ∧ Z.Warmed39 U.vm ∧ U.heap = h0) (fun _ _ _ _ _ => True) (fun _ U o U' => ∃ v L, o = .returned v ∧ own_QP (some (.ref w_GraphicSet_JIS_X_0201_ROMAN)) h0 n0 v U'.heap L ∧ FrameEnd U o U' L ({ frames := 0, cells := 0, slots := 0, locals := 0 } : Room).cells ({ frames := 0, cells := 0, slots := 0, locals := 0 } : Room).slots) := by
  refine MetFree.of_bodySF (plainFor_of_name pn_1) hisR ?_
  intro p e s m args below meth c s₁ Bd hml0 hP hK
  obtain ⟨rfl, hZ, hh⟩ := hP
  have hx := Bd.exec
  have hby := Bd.bytes
  have hml : c.maxLocals = 2 := hml0
  have hown : s.vm.findClass "com/example/pipewright/pipewright/io/GraphicSetOfOneBytePinLaw" = some m.cls := findClass_of_methodNamed Bd.named
  have hnm := (name_of_methodNamed Bd.named Bd.method).1
  have X0 : Stand p l e ({ frames := 0, cells := 0, slots := 0, locals := 0 } : Room) s m #[(.int (74 : Int32))] below meth c s₁ [] 0 0 := Stand.of_body Bd
  have e0 : s₁.heap = h0 := by rw [← hh, Bd.state]; rfl
  have N0 := Fr.nil n0
  have pre0 : ∀ t, Steps p.tables e below (s₁.setTop (mkF m 0 #[iv (74 : Int32), .unset] [])) t → Steps p.tables e below (s₁.setTop (entryFrame m #[(.int (74 : Int32))] 2)) t := fun t k => castTop (ef_2_I m (74 : Int32)) k
  obtain ⟨T1, X1, e1, st1⟩ := getS2 X0 hx hZ hown (host := "") (Or.inl (hw _ (List.mem_of_getElem? (i := 23) rfl))) Via.refl e0 S_GraphicSet_JIS_X_0201_ROMAN (g := (mkF m 18 #[iv (74 : Int32), iv (74 : Int32)] [])) rfl (hb hby d2_18)
  obtain ⟨fs, hr, hrun, hended, hW, hsame⟩ := X1.leave (v := (some (.ref w_GraphicSet_JIS_X_0201_ROMAN))) (fun h => by rw [Bd.returns] at h; cases h)
  refine ⟨_, _, pre0 _ ?_, hrun, hended, _, _, rfl, ?_, ⟨_, rfl⟩, hW, hsame.mono (by decide) (by decide)⟩
  · show Steps p.tables e below (s₁.setTop (mkF m 0 #[iv (74 : Int32), .unset] [])) _
    refine XS.iloadN X0.here hx rfl (hb hby d2_0) rfl ?_
    show Steps p.tables e below (s₁.setTop (mkF m 1 #[iv (74 : Int32), .unset] [(.int (74 : Int32))])) _
    refine XS.istoreN X0.here hx rfl (hb hby d2_1) rfl (l' := #[iv (74 : Int32), iv (74 : Int32)]) rfl ?_
    show Steps p.tables e below (s₁.setTop (mkF m 2 #[iv (74 : Int32), iv (74 : Int32)] [])) _
    refine XS.iloadN X0.here hx rfl (hb hby d2_2) rfl ?_
    show Steps p.tables e below (s₁.setTop (mkF m 3 #[iv (74 : Int32), iv (74 : Int32)] [(.int (74 : Int32))])) _
    refine XS.bipush X0.here hx rfl (hb hby d2_3) ?_
    show Steps p.tables e below (s₁.setTop (mkF m 5 #[iv (74 : Int32), iv (74 : Int32)] [(.int (66 : Int32)), (.int (74 : Int32))])) _
    refine XS.icmpYes X0.here hx rfl (pc0 := 5) (pc' := 12) rfl (hb hby d2_5) rfl (feq (by decide +kernel : ¬ ((74 : Int32) = (66 : Int32)))).2 (by decide) (by decide) ?_
    show Steps p.tables e below (s₁.setTop (mkF m 12 #[iv (74 : Int32), iv (74 : Int32)] [])) _
    refine XS.iloadN X0.here hx rfl (hb hby d2_12) rfl ?_
    show Steps p.tables e below (s₁.setTop (mkF m 13 #[iv (74 : Int32), iv (74 : Int32)] [(.int (74 : Int32))])) _
    refine XS.bipush X0.here hx rfl (hb hby d2_13) ?_
    show Steps p.tables e below (s₁.setTop (mkF m 15 #[iv (74 : Int32), iv (74 : Int32)] [(.int (74 : Int32)), (.int (74 : Int32))])) _
    refine XS.icmpNo X0.here hx rfl (hb hby d2_15) rfl (teq (by decide +kernel : (74 : Int32) = (74 : Int32))).2 ?_
    show Steps p.tables e below (s₁.setTop (mkF m 18 #[iv (74 : Int32), iv (74 : Int32)] [])) _
    refine st1 _ ?_
    show Steps p.tables e below (T1.setTop (mkF m 21 #[iv (74 : Int32), iv (74 : Int32)] [(.ref w_GraphicSet_JIS_X_0201_ROMAN)])) _
    exact own_retA X1 hx Bd.returns rfl rfl (hb hby d2_21) hr
  · exact ⟨rfl, N0, e1⟩
set_option maxRecDepth 65536 in
set_option maxHeartbeats 40000000 in
theorem rm3_5 (l : Launch) (Z : State) (a0 : Array Value) (hw : ∀ d ∈ tables_1, d.before a0 Z = true) (ws : List Jvm.Cond) (w_GraphicSet_JIS_X_0201_ROMAN : Addr) (h0 : Heap) (n0 : Nat) (Z0 : n0 ≤ h0.size) (F_w_GraphicSet_JIS_X_0201_ROMAN_width : Fld Z h0 w_GraphicSet_JIS_X_0201_ROMAN "com/example/pipewright/pipewright/io/Iso2022Layout$GraphicSet" "width" "I" (.int (1 : Int32))) :
    MetFree l (⟨"com/example/pipewright/pipewright/io/Iso2022Layout$GraphicSet", "width", "()I"⟩ : MethodName) (head1 (Jvm.Cond.code (⟨"com/example/pipewright/pipewright/io/Iso2022Layout$GraphicSet", "width", "()I"⟩ : MethodName) prog_24_method_6_code 1 (some .int) :: ws) ({ frames := 0, cells := 0, slots := 0, locals := 0 } : Room)) (fun a U => a = #[(.ref w_GraphicSet_JIS_X_0201_ROMAN)] ∧ Z.Warmed39 U.vm ∧ U.heap = h0) (fun _ _ _ _ _ => True) (fun _ U o U' => ∃ v L, o = .returned v ∧ own_QP (some (.int (1 : Int32))) h0 n0 v U'.heap L ∧ FrameEnd U o U' L ({ frames := 0, cells := 0, slots := 0, locals := 0 } : Room).cells ({ frames := 0, cells := 0, slots := 0, locals := 0 } : Room).slots) := by
  refine MetFree.of_bodySF (plainFor_of_name pn_0) hisR ?_
  intro p e s m args below meth c s₁ Bd hml0 hP hK
  obtain ⟨rfl, hZ, hh⟩ := hP
  have hx := Bd.exec
  have hby := Bd.bytes
  have hml : c.maxLocals = 1 := hml0
  have hown : s.vm.findClass "com/example/pipewright/pipewright/io/Iso2022Layout$GraphicSet" = some m.cls := findClass_of_methodNamed Bd.named
  have hnm := (name_of_methodNamed Bd.named Bd.method).1
  have X0 : Stand p l e ({ frames := 0, cells := 0, slots := 0, locals := 0 } : Room) s m #[(.ref w_GraphicSet_JIS_X_0201_ROMAN)] below meth c s₁ [] 0 0 := Stand.of_body Bd
  have e0 : s₁.heap = h0 := by rw [← hh, Bd.state]; rfl
  have N0 := Fr.nil n0
  have pre0 : ∀ t, Steps p.tables e below (s₁.setTop (mkF m 0 #[rv w_GraphicSet_JIS_X_0201_ROMAN] [])) t → Steps p.tables e below (s₁.setTop (entryFrame m #[(.ref w_GraphicSet_JIS_X_0201_ROMAN)] 1)) t := fun t k => castTop (ef_3_R m w_GraphicSet_JIS_X_0201_ROMAN) k
  obtain ⟨T1, X1, e1, st1⟩ := getF X0 hx hZ hown (host := "") (Or.inl (hw _ (List.mem_of_getElem? (i := 16) rfl))) Via.refl e0 F_w_GraphicSet_JIS_X_0201_ROMAN_width (g := (mkF m 1 #[rv w_GraphicSet_JIS_X_0201_ROMAN] [(.ref w_GraphicSet_JIS_X_0201_ROMAN)])) rfl rfl (hb hby d3_1)
  obtain ⟨fs, hr, hrun, hended, hW, hsame⟩ := X1.leave (v := (some (.int (1 : Int32)))) (fun h => by rw [Bd.returns] at h; cases h)
  refine ⟨_, _, pre0 _ ?_, hrun, hended, _, _, rfl, ?_, ⟨_, rfl⟩, hW, hsame.mono (by decide) (by decide)⟩
  · show Steps p.tables e below (s₁.setTop (mkF m 0 #[rv w_GraphicSet_JIS_X_0201_ROMAN] [])) _
    refine XS.aloadN X0.here hx rfl (hb hby d3_0) rfl rfl ?_
    show Steps p.tables e below (s₁.setTop (mkF m 1 #[rv w_GraphicSet_JIS_X_0201_ROMAN] [(.ref w_GraphicSet_JIS_X_0201_ROMAN)])) _
    refine st1 _ ?_
    show Steps p.tables e below (T1.setTop (mkF m 4 #[rv w_GraphicSet_JIS_X_0201_ROMAN] [(.int (1 : Int32))])) _
    exact retI X1 hx Bd.returns (hb hby d3_4) hr
  · exact ⟨rfl, N0, e1⟩
set_option maxRecDepth 65536 in
set_option maxHeartbeats 40000000 in
theorem rm0_1 (l : Launch) (Z : State) (a0 : Array Value) (hw : ∀ d ∈ tables_1, d.before a0 Z = true) (ws : List Jvm.Cond) (p0 : Int32) (p1 : Int32) (w_GraphicSet_JIS_X_0201_ROMAN : Addr) (h0 : Heap) (n0 : Nat) (Z0 : n0 ≤ h0.size) (hk0 : (p0 &&& (3 : Int32)) = (1 : Int32)) (S_GraphicSet_JIS_X_0201_ROMAN : Sta Z h0 "com/example/pipewright/pipewright/io/Iso2022Layout$GraphicSet" "JIS_X_0201_ROMAN" "Lcom/example/pipewright/pipewright/io/Iso2022Layout$GraphicSet;" (.ref w_GraphicSet_JIS_X_0201_ROMAN)) (F_w_GraphicSet_JIS_X_0201_ROMAN_width : Fld Z h0 w_GraphicSet_JIS_X_0201_ROMAN "com/example/pipewright/pipewright/io/Iso2022Layout$GraphicSet" "width" "I" (.int (1 : Int32))) (E_w_GraphicSet_JIS_X_0201_ROMAN : Exa Z h0 w_GraphicSet_JIS_X_0201_ROMAN "com/example/pipewright/pipewright/io/Iso2022Layout$GraphicSet") :
    MetFree l x (head1 (Jvm.Cond.code x code maxLocals ret :: ws) room_1) (fun a U => a = #[(.int p0), (.int p1)] ∧ Z.Warmed39 U.vm ∧ U.heap = h0) (fun _ _ _ _ _ => True) (fun _ U o U' => ∃ v L, o = .returned v ∧ own_QL n0 v U'.heap L ∧ FrameEnd U o U' L room_1.cells room_1.slots) := by
  refine MetFree.of_bodySF (plainFor_of_name pn_1) hisR ?_
  intro p e s m args below meth c s₁ Bd hml0 hP hK
  obtain ⟨rfl, hZ, hh⟩ := hP
  have hx := Bd.exec
  have hby := Bd.bytes
  have hml : c.maxLocals = 6 := hml0
  have hown : s.vm.findClass "com/example/pipewright/pipewright/io/GraphicSetOfOneBytePinLaw" = some m.cls := findClass_of_methodNamed Bd.named
  have hnm := (name_of_methodNamed Bd.named Bd.method).1
  have X0 : Stand p l e room_1 s m #[(.int p0), (.int p1)] below meth c s₁ [] 0 0 := Stand.of_body Bd
  have e0 : s₁.heap = h0 := by rw [← hh, Bd.state]; rfl
  have N0 := Fr.nil n0
  have pre0 : ∀ t, Steps p.tables e below (s₁.setTop (mkF m 0 #[iv p0, iv p1, .unset, .unset, .unset, .unset] [])) t → Steps p.tables e below (s₁.setTop (entryFrame m #[(.int p0), (.int p1)] maxLocals)) t := fun t k => castTop (ef_0_II m p0 p1) k
  obtain ⟨_, _, ⟨T1, L1, k1, n1⟩, -, X1, ⟨Lc1, hQ1, l1, y1, z1⟩, st1⟩ := Jvm.LawKit.callS X0 hx (y := (⟨"com/example/pipewright/pipewright/io/Iso2022Layout$GraphicSet", "ofOneByte", "(B)Lcom/example/pipewright/pipewright/io/Iso2022Layout$GraphicSet;"⟩ : MethodName)) hown (mvT hZ (hw _ (List.mem_of_getElem? (i := 0) rfl))) (mvT hZ (hw _ (List.mem_of_getElem? (i := 1) rfl))) (mvT hZ (hw _ (List.mem_of_getElem? (i := 2) rfl))) (mvT hZ (hw _ (List.mem_of_getElem? (i := 3) rfl))) (by decide) (backOf (W := 0) (rm1_3 l Z a0 hw [] w_GraphicSet_JIS_X_0201_ROMAN h0 n0 Z0 S_GraphicSet_JIS_X_0201_ROMAN) hZ (hw _ (List.mem_of_getElem? (i := 3) rfl)) (hw _ (List.mem_of_getElem? (i := 2) rfl)) (by decide) (by decide)) (g := (mkF m 40 #[iv p0, iv p1, iv (1 : Int32), iv (74 : Int32), .unset, .unset] [(.int (74 : Int32))])) rfl (by rw [hml]; rfl) (argsL := [(.int (74 : Int32))]) (rest := []) (lenOf pd_0 rfl) rfl (by show 2 * 0 + _ ≤ _; exact Nat.le_of_eq rfl) (hb hby at_40) (fun _ _ => ⟨rfl, e0, (by decide : 0 + 0 ≤ _), (by decide : 0 + 0 ≤ _)⟩)
  dsimp only [Pt.U, Pt.locs, Pt.cells, Pt.slots] at X1 l1 y1 z1 st1 hQ1
  subst l1 y1 z1
  obtain ⟨rfl, N1q, e1⟩ := hQ1
  have N1 := Fr.app N0 N1q
  obtain ⟨_, _, ⟨T2, L2, k2, n2⟩, -, X2, ⟨Lc2, hQ2, l2, y2, z2⟩, st2⟩ := Jvm.LawKit.callS X1 hx (y := (⟨"com/example/pipewright/pipewright/io/GraphicSetOfOneBytePinLaw", "expected", "(B)Lcom/example/pipewright/pipewright/io/Iso2022Layout$GraphicSet;"⟩ : MethodName)) hown (mvT hZ (hw _ (List.mem_of_getElem? (i := 6) rfl))) (mvT hZ (hw _ (List.mem_of_getElem? (i := 7) rfl))) (mvT hZ (hw _ (List.mem_of_getElem? (i := 8) rfl))) (mvT hZ (hw _ (List.mem_of_getElem? (i := 9) rfl))) (by decide) (backOf (W := 0) (rm2_4 l Z a0 hw [] w_GraphicSet_JIS_X_0201_ROMAN h0 n0 Z0 S_GraphicSet_JIS_X_0201_ROMAN) hZ (hw _ (List.mem_of_getElem? (i := 9) rfl)) (hw _ (List.mem_of_getElem? (i := 8) rfl)) (by decide) (by decide)) (g := (mkF m 46 #[iv p0, iv p1, iv (1 : Int32), iv (74 : Int32), rv w_GraphicSet_JIS_X_0201_ROMAN, .unset] [(.int (74 : Int32))])) rfl (by rw [hml]; rfl) (argsL := [(.int (74 : Int32))]) (rest := []) (lenOf pd_0 rfl) rfl (by show 2 * 0 + _ ≤ _; exact Nat.le_of_eq rfl) (hb hby at_46) (fun _ _ => ⟨rfl, e1, (by decide : 0 + 0 ≤ _), (by decide : 0 + 0 ≤ _)⟩)
  dsimp only [Pt.U, Pt.locs, Pt.cells, Pt.slots] at X2 l2 y2 z2 st2 hQ2
  subst l2 y2 z2
  obtain ⟨rfl, N2q, e2⟩ := hQ2
  have N2 := Fr.app N1 N2q
  obtain ⟨cq3, kq3, q3a, q3b, q3c⟩ := isOf hZ e2 E_w_GraphicSet_JIS_X_0201_ROMAN
  obtain ⟨_, _, ⟨T3, L3, k3, n3⟩, -, X3, ⟨Lc3, hQ3, l3, y3, z3⟩, st3⟩ := X2.virtualBack hx (y := (⟨"com/example/pipewright/pipewright/io/Iso2022Layout$GraphicSet", "width", "()I"⟩ : MethodName)) (z := (⟨"com/example/pipewright/pipewright/io/Iso2022Layout$GraphicSet", "width", "()I"⟩ : MethodName)) hown (mvT hZ (hw _ (List.mem_of_getElem? (i := 11) rfl))) (mvT hZ (hw _ (List.mem_of_getElem? (i := 12) rfl))) (notFace_of_selects (args := #[]) (mvT hZ (hw _ (List.mem_of_getElem? (i := 14) rfl)))) (mvT hZ (hw _ (List.mem_of_getElem? (i := 14) rfl))) (mvT hZ (hw _ (List.mem_of_getElem? (i := 13) rfl))) (by decide) (backOf (W := 0) (rm3_5 l Z a0 hw [] w_GraphicSet_JIS_X_0201_ROMAN h0 n0 Z0 F_w_GraphicSet_JIS_X_0201_ROMAN_width) hZ (hw _ (List.mem_of_getElem? (i := 15) rfl)) (hw _ (List.mem_of_getElem? (i := 2) rfl)) (by decide) (by decide)) q3a q3c (g := (mkF m 60 #[iv p0, iv p1, iv (1 : Int32), iv (74 : Int32), rv w_GraphicSet_JIS_X_0201_ROMAN, rv w_GraphicSet_JIS_X_0201_ROMAN] [(.ref w_GraphicSet_JIS_X_0201_ROMAN)])) rfl (by rw [hml]; rfl) (Steps.refl _) (argsL := []) (rest := []) (lenOf pd_1 rfl) rfl (by show 2 * 0 + _ ≤ _; exact Nat.le_of_eq rfl) (hb hby at_60) (fun _ _ => ⟨rfl, e2, (by decide : 0 + 0 ≤ _), (by decide : 0 + 0 ≤ _)⟩)
  dsimp only [Pt.U, Pt.locs, Pt.cells, Pt.slots] at X3 l3 y3 z3 st3 hQ3
  subst l3 y3 z3
  obtain ⟨rfl, N3q, e3⟩ := hQ3
  have N3 := Fr.app N2 N3q
  obtain ⟨fs, hr, hrun, hended, hW, hsame⟩ := X3.leave (v := (some (.int (1 : Int32)))) (fun h => by rw [Bd.returns] at h; cases h)
  refine ⟨_, _, pre0 _ ?_, hrun, hended, _, _, rfl, ?_, ⟨_, rfl⟩, hW, hsame.mono (by decide) (by decide)⟩
  · show Steps p.tables e below (s₁.setTop (mkF m 0 #[iv p0, iv p1, .unset, .unset, .unset, .unset] [])) _
    refine XS.iloadN X0.here hx rfl (hb hby at_0) rfl ?_
    show Steps p.tables e below (s₁.setTop (mkF m 1 #[iv p0, iv p1, .unset, .unset, .unset, .unset] [(.int p0)])) _
    refine XS.iconst X0.here hx rfl (hb hby at_1) ?_
    show Steps p.tables e below (s₁.setTop (mkF m 2 #[iv p0, iv p1, .unset, .unset, .unset, .unset] [(.int (3 : Int32)), (.int p0)])) _
    refine XS.iand X0.here hx rfl (hb hby at_2) rfl ?_
    show Steps p.tables e below (s₁.setTop (mkF m 3 #[iv p0, iv p1, .unset, .unset, .unset, .unset] [(.int (p0 &&& (3 : Int32)))])) _
    rewrite [hk0]
    show Steps p.tables e below (s₁.setTop (mkF m 3 #[iv p0, iv p1, .unset, .unset, .unset, .unset] [(.int (1 : Int32))])) _
    refine XS.istoreN X0.here hx rfl (hb hby at_3) rfl (l' := #[iv p0, iv p1, iv (1 : Int32), .unset, .unset, .unset]) rfl ?_
    show Steps p.tables e below (s₁.setTop (mkF m 4 #[iv p0, iv p1, iv (1 : Int32), .unset, .unset, .unset] [])) _
    refine XS.iloadN X0.here hx rfl (hb hby at_4) rfl ?_
    show Steps p.tables e below (s₁.setTop (mkF m 5 #[iv p0, iv p1, iv (1 : Int32), .unset, .unset, .unset] [(.int (1 : Int32))])) _
    refine XS.ifYes X0.here hx rfl (pc0 := 5) (pc' := 14) rfl (hb hby at_5) rfl ((if0 _ _).trans (feq (by decide +kernel : ¬ ((1 : Int32) = (0 : Int32)))).2) (by decide) (by decide) ?_
    show Steps p.tables e below (s₁.setTop (mkF m 14 #[iv p0, iv p1, iv (1 : Int32), .unset, .unset, .unset] [])) _
    refine XS.iloadN X0.here hx rfl (hb hby at_14) rfl ?_
    show Steps p.tables e below (s₁.setTop (mkF m 15 #[iv p0, iv p1, iv (1 : Int32), .unset, .unset, .unset] [(.int (1 : Int32))])) _
    refine XS.iconst X0.here hx rfl (hb hby at_15) ?_
    show Steps p.tables e below (s₁.setTop (mkF m 16 #[iv p0, iv p1, iv (1 : Int32), .unset, .unset, .unset] [(.int (1 : Int32)), (.int (1 : Int32))])) _
    refine XS.icmpNo X0.here hx rfl (hb hby at_16) rfl (teq (by decide +kernel : (1 : Int32) = (1 : Int32))).2 ?_
    show Steps p.tables e below (s₁.setTop (mkF m 19 #[iv p0, iv p1, iv (1 : Int32), .unset, .unset, .unset] [])) _
    refine XS.bipush X0.here hx rfl (hb hby at_19) ?_
    show Steps p.tables e below (s₁.setTop (mkF m 21 #[iv p0, iv p1, iv (1 : Int32), .unset, .unset, .unset] [(.int (74 : Int32))])) _
    refine XS.istoreN X0.here hx rfl (hb hby at_21) rfl (l' := #[iv p0, iv p1, iv (1 : Int32), iv (74 : Int32), .unset, .unset]) rfl ?_
    show Steps p.tables e below (s₁.setTop (mkF m 22 #[iv p0, iv p1, iv (1 : Int32), iv (74 : Int32), .unset, .unset] [])) _
    refine XS.goto X0.here hx rfl (pc0 := 22) (pc' := 39) rfl (hb hby at_22) (by decide) (by decide) ?_
    show Steps p.tables e below (s₁.setTop (mkF m 39 #[iv p0, iv p1, iv (1 : Int32), iv (74 : Int32), .unset, .unset] [])) _
    refine XS.iloadN X0.here hx rfl (hb hby at_39) rfl ?_
    show Steps p.tables e below (s₁.setTop (mkF m 40 #[iv p0, iv p1, iv (1 : Int32), iv (74 : Int32), .unset, .unset] [(.int (74 : Int32))])) _
    refine st1 _ ?_
    show Steps p.tables e below (T1.setTop (mkF m 43 #[iv p0, iv p1, iv (1 : Int32), iv (74 : Int32), .unset, .unset] [(.ref w_GraphicSet_JIS_X_0201_ROMAN)])) _
    refine XS.astore X1.here hx rfl (hb hby at_43) rfl rfl (l' := #[iv p0, iv p1, iv (1 : Int32), iv (74 : Int32), rv w_GraphicSet_JIS_X_0201_ROMAN, .unset]) rfl ?_
    show Steps p.tables e below (T1.setTop (mkF m 45 #[iv p0, iv p1, iv (1 : Int32), iv (74 : Int32), rv w_GraphicSet_JIS_X_0201_ROMAN, .unset] [])) _
    refine XS.iloadN X1.here hx rfl (hb hby at_45) rfl ?_
    show Steps p.tables e below (T1.setTop (mkF m 46 #[iv p0, iv p1, iv (1 : Int32), iv (74 : Int32), rv w_GraphicSet_JIS_X_0201_ROMAN, .unset] [(.int (74 : Int32))])) _
    refine st2 _ ?_
    show Steps p.tables e below (T2.setTop (mkF m 49 #[iv p0, iv p1, iv (1 : Int32), iv (74 : Int32), rv w_GraphicSet_JIS_X_0201_ROMAN, .unset] [(.ref w_GraphicSet_JIS_X_0201_ROMAN)])) _
    refine XS.astore X2.here hx rfl (hb hby at_49) rfl rfl (l' := #[iv p0, iv p1, iv (1 : Int32), iv (74 : Int32), rv w_GraphicSet_JIS_X_0201_ROMAN, rv w_GraphicSet_JIS_X_0201_ROMAN]) rfl ?_
    show Steps p.tables e below (T2.setTop (mkF m 51 #[iv p0, iv p1, iv (1 : Int32), iv (74 : Int32), rv w_GraphicSet_JIS_X_0201_ROMAN, rv w_GraphicSet_JIS_X_0201_ROMAN] [])) _
    refine XS.aload X2.here hx rfl (hb hby at_51) rfl rfl ?_
    show Steps p.tables e below (T2.setTop (mkF m 53 #[iv p0, iv p1, iv (1 : Int32), iv (74 : Int32), rv w_GraphicSet_JIS_X_0201_ROMAN, rv w_GraphicSet_JIS_X_0201_ROMAN] [(.ref w_GraphicSet_JIS_X_0201_ROMAN)])) _
    refine XS.aload X2.here hx rfl (hb hby at_53) rfl rfl ?_
    show Steps p.tables e below (T2.setTop (mkF m 55 #[iv p0, iv p1, iv (1 : Int32), iv (74 : Int32), rv w_GraphicSet_JIS_X_0201_ROMAN, rv w_GraphicSet_JIS_X_0201_ROMAN] [(.ref w_GraphicSet_JIS_X_0201_ROMAN), (.ref w_GraphicSet_JIS_X_0201_ROMAN)])) _
    refine Jvm.RoadKit.acmp (g := (mkF m 55 #[iv p0, iv p1, iv (1 : Int32), iv (74 : Int32), rv w_GraphicSet_JIS_X_0201_ROMAN, rv w_GraphicSet_JIS_X_0201_ROMAN] [(.ref w_GraphicSet_JIS_X_0201_ROMAN), (.ref w_GraphicSet_JIS_X_0201_ROMAN)])) X2 hx rfl rfl rfl (pc0 := 55) (pc' := 58) (same := true) rfl (hb hby at_55) rfl (decide_eq_true rfl) (by decide) (by decide) ?_
    show Steps p.tables e below (T2.setTop (mkF m 58 #[iv p0, iv p1, iv (1 : Int32), iv (74 : Int32), rv w_GraphicSet_JIS_X_0201_ROMAN, rv w_GraphicSet_JIS_X_0201_ROMAN] [])) _
    refine XS.aload X2.here hx rfl (hb hby at_58) rfl rfl ?_
    show Steps p.tables e below (T2.setTop (mkF m 60 #[iv p0, iv p1, iv (1 : Int32), iv (74 : Int32), rv w_GraphicSet_JIS_X_0201_ROMAN, rv w_GraphicSet_JIS_X_0201_ROMAN] [(.ref w_GraphicSet_JIS_X_0201_ROMAN)])) _
    refine st3.trans ?_
    show Steps p.tables e below (T3.setTop (mkF m 63 #[iv p0, iv p1, iv (1 : Int32), iv (74 : Int32), rv w_GraphicSet_JIS_X_0201_ROMAN, rv w_GraphicSet_JIS_X_0201_ROMAN] [(.int (1 : Int32))])) _
    refine XS.iconst X3.here hx rfl (hb hby at_63) ?_
    show Steps p.tables e below (T3.setTop (mkF m 64 #[iv p0, iv p1, iv (1 : Int32), iv (74 : Int32), rv w_GraphicSet_JIS_X_0201_ROMAN, rv w_GraphicSet_JIS_X_0201_ROMAN] [(.int (1 : Int32)), (.int (1 : Int32))])) _
    refine XS.icmpNo X3.here hx rfl (hb hby at_64) rfl (teq (by decide +kernel : (1 : Int32) = (1 : Int32))).2 ?_
    show Steps p.tables e below (T3.setTop (mkF m 67 #[iv p0, iv p1, iv (1 : Int32), iv (74 : Int32), rv w_GraphicSet_JIS_X_0201_ROMAN, rv w_GraphicSet_JIS_X_0201_ROMAN] [])) _
    refine XS.iconst X3.here hx rfl (hb hby at_67) ?_
    show Steps p.tables e below (T3.setTop (mkF m 68 #[iv p0, iv p1, iv (1 : Int32), iv (74 : Int32), rv w_GraphicSet_JIS_X_0201_ROMAN, rv w_GraphicSet_JIS_X_0201_ROMAN] [(.int (1 : Int32))])) _
    refine XS.goto X3.here hx rfl (pc0 := 68) (pc' := 72) rfl (hb hby at_68) (by decide) (by decide) ?_
    show Steps p.tables e below (T3.setTop (mkF m 72 #[iv p0, iv p1, iv (1 : Int32), iv (74 : Int32), rv w_GraphicSet_JIS_X_0201_ROMAN, rv w_GraphicSet_JIS_X_0201_ROMAN] [(.int (1 : Int32))])) _
    exact retN X3 hx (t := .boolean) Bd.returns (by simp) (hb hby at_72) hr
  · exact ⟨rfl, N3⟩
set_option maxRecDepth 65536 in
set_option maxHeartbeats 40000000 in
theorem rm1_6 (l : Launch) (Z : State) (a0 : Array Value) (hw : ∀ d ∈ tables_1, d.before a0 Z = true) (ws : List Jvm.Cond) (w_GraphicSet_JIS_X_0201_KATAKANA : Addr) (h0 : Heap) (n0 : Nat) (Z0 : n0 ≤ h0.size) (S_GraphicSet_JIS_X_0201_KATAKANA : Sta Z h0 "com/example/pipewright/pipewright/io/Iso2022Layout$GraphicSet" "JIS_X_0201_KATAKANA" "Lcom/example/pipewright/pipewright/io/Iso2022Layout$GraphicSet;" (.ref w_GraphicSet_JIS_X_0201_KATAKANA)) :
    MetFree l (⟨"com/example/pipewright/pipewright/io/Iso2022Layout$GraphicSet", "ofOneByte", "(B)Lcom/example/pipewright/pipewright/io/Iso2022Layout$GraphicSet;"⟩ : MethodName) (head1 (Jvm.Cond.code (⟨"com/example/pipewright/pipewright/io/Iso2022Layout$GraphicSet", "ofOneByte", "(B)Lcom/example/pipewright/pipewright/io/Iso2022Layout$GraphicSet;"⟩ : MethodName) prog_24_method_4_code 1 (some (.object "com/example/pipewright/pipewright/io/Iso2022Layout$GraphicSet")) :: ws) ({ frames := 0, cells := 0, slots := 0, locals := 0 } : Room)) (fun a U => a = #[(.int (73 : Int32))] ∧ Z.Warmed39 U.vm ∧ U.heap = h0) (fun _ _ _ _ _ => True) (fun _ U o U' => ∃ v L, o = .returned v ∧ own_QP (some (.ref w_GraphicSet_JIS_X_0201_KATAKANA)) h0 n0 v U'.heap L ∧ FrameEnd U o U' L ({ frames := 0, cells := 0, slots := 0, locals := 0 } : Room).cells ({ frames := 0, cells := 0, slots := 0, locals := 0 } : Room).slots) := by
  refine MetFree.of_bodySF (plainFor_of_name pn_0) hisR ?_
  intro p e s m args below meth c s₁ Bd hml0 hP hK
  obtain ⟨rfl, hZ, hh⟩ := hP
  have hx := Bd.exec
  have hby := Bd.bytes
  have hml : c.maxLocals = 1 := hml0
  have hown : s.vm.findClass "com/example/pipewright/pipewright/io/Iso2022Layout$GraphicSet" = some m.cls := findClass_of_methodNamed Bd.named
  have hnm := (name_of_methodNamed Bd.named Bd.method).1
  have X0 : Stand p l e ({ frames := 0, cells := 0, slots := 0, locals := 0 } : Room) s m #[(.int (73 : Int32))] below meth c s₁ [] 0 0 := Stand.of_body Bd
  have e0 : s₁.heap = h0 := by rw [← hh, Bd.state]; rfl
  have N0 := Fr.nil n0
  have pre0 : ∀ t, Steps p.tables e below (s₁.setTop (mkF m 0 #[iv (73 : Int32)] [])) t → Steps p.tables e below (s₁.setTop (entryFrame m #[(.int (73 : Int32))] 1)) t := fun t k => castTop (ef_1_I m (73 : Int32)) k
  obtain ⟨T1, X1, e1, st1⟩ := getS2 X0 hx hZ hown (host := "") (Or.inl (hw _ (List.mem_of_getElem? (i := 18) rfl))) Via.refl e0 S_GraphicSet_JIS_X_0201_KATAKANA (g := (mkF m 48 #[iv (73 : Int32)] [])) rfl (hb hby d1_48)
  obtain ⟨fs, hr, hrun, hended, hW, hsame⟩ := X1.leave (v := (some (.ref w_GraphicSet_JIS_X_0201_KATAKANA))) (fun h => by rw [Bd.returns] at h; cases h)
  refine ⟨_, _, pre0 _ ?_, hrun, hended, _, _, rfl, ?_, ⟨_, rfl⟩, hW, hsame.mono (by decide) (by decide)⟩
  · show Steps p.tables e below (s₁.setTop (mkF m 0 #[iv (73 : Int32)] [])) _
    refine XS.iloadN X0.here hx rfl (hb hby d1_0) rfl ?_
    show Steps p.tables e below (s₁.setTop (mkF m 1 #[iv (73 : Int32)] [(.int (73 : Int32))])) _
    refine X0.lookupswitchHit hx (g := (mkF m 1 #[iv (73 : Int32)] [(.int (73 : Int32))])) rfl rfl (hb hby d1_1) (by decide) (a := 73) (off := 47) (by decide) (show (0 : Int) ≤ ((1 : Nat) : Int) + 47 from by decide) _ ?_
    show Steps p.tables e below (s₁.setTop (mkF m 48 #[iv (73 : Int32)] [])) _
    refine st1 _ ?_
    show Steps p.tables e below (T1.setTop (mkF m 51 #[iv (73 : Int32)] [(.ref w_GraphicSet_JIS_X_0201_KATAKANA)])) _
    refine XS.goto X1.here hx rfl (pc0 := 51) (pc' := 57) rfl (hb hby d1_51) (by decide) (by decide) ?_
    show Steps p.tables e below (T1.setTop (mkF m 57 #[iv (73 : Int32)] [(.ref w_GraphicSet_JIS_X_0201_KATAKANA)])) _
    exact own_retA X1 hx Bd.returns rfl rfl (hb hby d1_57) hr
  · exact ⟨rfl, N0, e1⟩
set_option maxRecDepth 65536 in
set_option maxHeartbeats 40000000 in
theorem rm2_7 (l : Launch) (Z : State) (a0 : Array Value) (hw : ∀ d ∈ tables_1, d.before a0 Z = true) (ws : List Jvm.Cond) (w_GraphicSet_JIS_X_0201_KATAKANA : Addr) (h0 : Heap) (n0 : Nat) (Z0 : n0 ≤ h0.size) (S_GraphicSet_JIS_X_0201_KATAKANA : Sta Z h0 "com/example/pipewright/pipewright/io/Iso2022Layout$GraphicSet" "JIS_X_0201_KATAKANA" "Lcom/example/pipewright/pipewright/io/Iso2022Layout$GraphicSet;" (.ref w_GraphicSet_JIS_X_0201_KATAKANA)) :
    MetFree l (⟨"com/example/pipewright/pipewright/io/GraphicSetOfOneBytePinLaw", "expected", "(B)Lcom/example/pipewright/pipewright/io/Iso2022Layout$GraphicSet;"⟩ : MethodName) (head1 (Jvm.Cond.code (⟨"com/example/pipewright/pipewright/io/GraphicSetOfOneBytePinLaw", "expected", "(B)Lcom/example/pipewright/pipewright/io/Iso2022Layout$GraphicSet;"⟩ : MethodName) method_3_code 2 (some (.object "com/example/pipewright/pipewright/io/Iso2022Layout$GraphicSet")) :: ws) ({ frames := 0, cells := 0, slots := 0, locals := 0 } : Room)) (fun a U => a = #[(.int (73 : Int32))] ∧ Z.Warmed39 U.vm ∧ U.heap = h0) (fun _ _ _ _ _ => True) (fun _ U o U' => ∃ v L, o = .returned v ∧ own_QP (some (.ref w_GraphicSet_JIS_X_0201_KATAKANA)) h0 n0 v U'.heap L ∧ FrameEnd U o U' L ({ frames := 0, cells := 0, slots := 0, locals := 0 } : Room).cells ({ frames := 0, cells := 0, slots := 0, locals := 0 } : Room).slots) := by
  refine MetFree.of_bodySF (plainFor_of_name pn_1) hisR ?_
  intro p e s m args below meth c s₁ Bd hml0 hP hK
  obtain ⟨rfl, hZ, hh⟩ := hP
  have hx := Bd.exec
  have hby := Bd.bytes
  have hml : c.maxLocals = 2 := hml0
  have hown : s.vm.findClass "com/example/pipewright/pipewright/io/GraphicSetOfOneBytePinLaw" = some m.cls := findClass_of_methodNamed Bd.named
  have hnm := (name_of_methodNamed Bd.named Bd.method).1
  have X0 : Stand p l e ({ frames := 0, cells := 0, slots := 0, locals := 0 } : Room) s m #[(.int (73 : Int32))] below meth c s₁ [] 0 0 := Stand.of_body Bd
  have e0 : s₁.heap = h0 := by rw [← hh, Bd.state]; rfl
  have N0 := Fr.nil n0
  have pre0 : ∀ t, Steps p.tables e below (s₁.setTop (mkF m 0 #[iv (73 : Int32), .unset] [])) t → Steps p.tables e below (s₁.setTop (entryFrame m #[(.int (73 : Int32))] 2)) t := fun t k => castTop (ef_2_I m (73 : Int32)) k
  obtain ⟨T1, X1, e1, st1⟩ := getS2 X0 hx hZ hown (host := "") (Or.inl (hw _ (List.mem_of_getElem? (i := 20) rfl))) Via.refl e0 S_GraphicSet_JIS_X_0201_KATAKANA (g := (mkF m 28 #[iv (73 : Int32), iv (73 : Int32)] [])) rfl (hb hby d2_28)
  obtain ⟨fs, hr, hrun, hended, hW, hsame⟩ := X1.leave (v := (some (.ref w_GraphicSet_JIS_X_0201_KATAKANA))) (fun h => by rw [Bd.returns] at h; cases h)
  refine ⟨_, _, pre0 _ ?_, hrun, hended, _, _, rfl, ?_, ⟨_, rfl⟩, hW, hsame.mono (by decide) (by decide)⟩
  · show Steps p.tables e below (s₁.setTop (mkF m 0 #[iv (73 : Int32), .unset] [])) _
    refine XS.iloadN X0.here hx rfl (hb hby d2_0) rfl ?_
    show Steps p.tables e below (s₁.setTop (mkF m 1 #[iv (73 : Int32), .unset] [(.int (73 : Int32))])) _
    refine XS.istoreN X0.here hx rfl (hb hby d2_1) rfl (l' := #[iv (73 : Int32), iv (73 : Int32)]) rfl ?_
    show Steps p.tables e below (s₁.setTop (mkF m 2 #[iv (73 : Int32), iv (73 : Int32)] [])) _
    refine XS.iloadN X0.here hx rfl (hb hby d2_2) rfl ?_
    show Steps p.tables e below (s₁.setTop (mkF m 3 #[iv (73 : Int32), iv (73 : Int32)] [(.int (73 : Int32))])) _
    refine XS.bipush X0.here hx rfl (hb hby d2_3) ?_
    show Steps p.tables e below (s₁.setTop (mkF m 5 #[iv (73 : Int32), iv (73 : Int32)] [(.int (66 : Int32)), (.int (73 : Int32))])) _
    refine XS.icmpYes X0.here hx rfl (pc0 := 5) (pc' := 12) rfl (hb hby d2_5) rfl (feq (by decide +kernel : ¬ ((73 : Int32) = (66 : Int32)))).2 (by decide) (by decide) ?_
    show Steps p.tables e below (s₁.setTop (mkF m 12 #[iv (73 : Int32), iv (73 : Int32)] [])) _
    refine XS.iloadN X0.here hx rfl (hb hby d2_12) rfl ?_
    show Steps p.tables e below (s₁.setTop (mkF m 13 #[iv (73 : Int32), iv (73 : Int32)] [(.int (73 : Int32))])) _
    refine XS.bipush X0.here hx rfl (hb hby d2_13) ?_
    show Steps p.tables e below (s₁.setTop (mkF m 15 #[iv (73 : Int32), iv (73 : Int32)] [(.int (74 : Int32)), (.int (73 : Int32))])) _
    refine XS.icmpYes X0.here hx rfl (pc0 := 15) (pc' := 22) rfl (hb hby d2_15) rfl (feq (by decide +kernel : ¬ ((73 : Int32) = (74 : Int32)))).2 (by decide) (by decide) ?_
    show Steps p.tables e below (s₁.setTop (mkF m 22 #[iv (73 : Int32), iv (73 : Int32)] [])) _
    refine XS.iloadN X0.here hx rfl (hb hby d2_22) rfl ?_
    show Steps p.tables e below (s₁.setTop (mkF m 23 #[iv (73 : Int32), iv (73 : Int32)] [(.int (73 : Int32))])) _
    refine XS.bipush X0.here hx rfl (hb hby d2_23) ?_
    show Steps p.tables e below (s₁.setTop (mkF m 25 #[iv (73 : Int32), iv (73 : Int32)] [(.int (73 : Int32)), (.int (73 : Int32))])) _
    refine XS.icmpNo X0.here hx rfl (hb hby d2_25) rfl (teq (by decide +kernel : (73 : Int32) = (73 : Int32))).2 ?_
    show Steps p.tables e below (s₁.setTop (mkF m 28 #[iv (73 : Int32), iv (73 : Int32)] [])) _
    refine st1 _ ?_
    show Steps p.tables e below (T1.setTop (mkF m 31 #[iv (73 : Int32), iv (73 : Int32)] [(.ref w_GraphicSet_JIS_X_0201_KATAKANA)])) _
    exact own_retA X1 hx Bd.returns rfl rfl (hb hby d2_31) hr
  · exact ⟨rfl, N0, e1⟩
set_option maxRecDepth 65536 in
set_option maxHeartbeats 40000000 in
theorem rm3_8 (l : Launch) (Z : State) (a0 : Array Value) (hw : ∀ d ∈ tables_1, d.before a0 Z = true) (ws : List Jvm.Cond) (w_GraphicSet_JIS_X_0201_KATAKANA : Addr) (h0 : Heap) (n0 : Nat) (Z0 : n0 ≤ h0.size) (F_w_GraphicSet_JIS_X_0201_KATAKANA_width : Fld Z h0 w_GraphicSet_JIS_X_0201_KATAKANA "com/example/pipewright/pipewright/io/Iso2022Layout$GraphicSet" "width" "I" (.int (1 : Int32))) :
    MetFree l (⟨"com/example/pipewright/pipewright/io/Iso2022Layout$GraphicSet", "width", "()I"⟩ : MethodName) (head1 (Jvm.Cond.code (⟨"com/example/pipewright/pipewright/io/Iso2022Layout$GraphicSet", "width", "()I"⟩ : MethodName) prog_24_method_6_code 1 (some .int) :: ws) ({ frames := 0, cells := 0, slots := 0, locals := 0 } : Room)) (fun a U => a = #[(.ref w_GraphicSet_JIS_X_0201_KATAKANA)] ∧ Z.Warmed39 U.vm ∧ U.heap = h0) (fun _ _ _ _ _ => True) (fun _ U o U' => ∃ v L, o = .returned v ∧ own_QP (some (.int (1 : Int32))) h0 n0 v U'.heap L ∧ FrameEnd U o U' L ({ frames := 0, cells := 0, slots := 0, locals := 0 } : Room).cells ({ frames := 0, cells := 0, slots := 0, locals := 0 } : Room).slots) := by
  refine MetFree.of_bodySF (plainFor_of_name pn_0) hisR ?_
  intro p e s m args below meth c s₁ Bd hml0 hP hK
  obtain ⟨rfl, hZ, hh⟩ := hP
  have hx := Bd.exec
  have hby := Bd.bytes
  have hml : c.maxLocals = 1 := hml0
  have hown : s.vm.findClass "com/example/pipewright/pipewright/io/Iso2022Layout$GraphicSet" = some m.cls := findClass_of_methodNamed Bd.named
  have hnm := (name_of_methodNamed Bd.named Bd.method).1
  have X0 : Stand p l e ({ frames := 0, cells := 0, slots := 0, locals := 0 } : Room) s m #[(.ref w_GraphicSet_JIS_X_0201_KATAKANA)] below meth c s₁ [] 0 0 := Stand.of_body Bd
  have e0 : s₁.heap = h0 := by rw [← hh, Bd.state]; rfl
  have N0 := Fr.nil n0
  have pre0 : ∀ t, Steps p.tables e below (s₁.setTop (mkF m 0 #[rv w_GraphicSet_JIS_X_0201_KATAKANA] [])) t → Steps p.tables e below (s₁.setTop (entryFrame m #[(.ref w_GraphicSet_JIS_X_0201_KATAKANA)] 1)) t := fun t k => castTop (ef_3_R m w_GraphicSet_JIS_X_0201_KATAKANA) k
  obtain ⟨T1, X1, e1, st1⟩ := getF X0 hx hZ hown (host := "") (Or.inl (hw _ (List.mem_of_getElem? (i := 16) rfl))) Via.refl e0 F_w_GraphicSet_JIS_X_0201_KATAKANA_width (g := (mkF m 1 #[rv w_GraphicSet_JIS_X_0201_KATAKANA] [(.ref w_GraphicSet_JIS_X_0201_KATAKANA)])) rfl rfl (hb hby d3_1)
  obtain ⟨fs, hr, hrun, hended, hW, hsame⟩ := X1.leave (v := (some (.int (1 : Int32)))) (fun h => by rw [Bd.returns] at h; cases h)
  refine ⟨_, _, pre0 _ ?_, hrun, hended, _, _, rfl, ?_, ⟨_, rfl⟩, hW, hsame.mono (by decide) (by decide)⟩
  · show Steps p.tables e below (s₁.setTop (mkF m 0 #[rv w_GraphicSet_JIS_X_0201_KATAKANA] [])) _
    refine XS.aloadN X0.here hx rfl (hb hby d3_0) rfl rfl ?_
    show Steps p.tables e below (s₁.setTop (mkF m 1 #[rv w_GraphicSet_JIS_X_0201_KATAKANA] [(.ref w_GraphicSet_JIS_X_0201_KATAKANA)])) _
    refine st1 _ ?_
    show Steps p.tables e below (T1.setTop (mkF m 4 #[rv w_GraphicSet_JIS_X_0201_KATAKANA] [(.int (1 : Int32))])) _
    exact retI X1 hx Bd.returns (hb hby d3_4) hr
  · exact ⟨rfl, N0, e1⟩
set_option maxRecDepth 65536 in
set_option maxHeartbeats 40000000 in
theorem rm0_2 (l : Launch) (Z : State) (a0 : Array Value) (hw : ∀ d ∈ tables_1, d.before a0 Z = true) (ws : List Jvm.Cond) (p0 : Int32) (p1 : Int32) (w_GraphicSet_JIS_X_0201_KATAKANA : Addr) (h0 : Heap) (n0 : Nat) (Z0 : n0 ≤ h0.size) (hk0 : (p0 &&& (3 : Int32)) = (2 : Int32)) (S_GraphicSet_JIS_X_0201_KATAKANA : Sta Z h0 "com/example/pipewright/pipewright/io/Iso2022Layout$GraphicSet" "JIS_X_0201_KATAKANA" "Lcom/example/pipewright/pipewright/io/Iso2022Layout$GraphicSet;" (.ref w_GraphicSet_JIS_X_0201_KATAKANA)) (F_w_GraphicSet_JIS_X_0201_KATAKANA_width : Fld Z h0 w_GraphicSet_JIS_X_0201_KATAKANA "com/example/pipewright/pipewright/io/Iso2022Layout$GraphicSet" "width" "I" (.int (1 : Int32))) (E_w_GraphicSet_JIS_X_0201_KATAKANA : Exa Z h0 w_GraphicSet_JIS_X_0201_KATAKANA "com/example/pipewright/pipewright/io/Iso2022Layout$GraphicSet") :
    MetFree l x (head1 (Jvm.Cond.code x code maxLocals ret :: ws) room_1) (fun a U => a = #[(.int p0), (.int p1)] ∧ Z.Warmed39 U.vm ∧ U.heap = h0) (fun _ _ _ _ _ => True) (fun _ U o U' => ∃ v L, o = .returned v ∧ own_QL n0 v U'.heap L ∧ FrameEnd U o U' L room_1.cells room_1.slots) := by
  refine MetFree.of_bodySF (plainFor_of_name pn_1) hisR ?_
  intro p e s m args below meth c s₁ Bd hml0 hP hK
  obtain ⟨rfl, hZ, hh⟩ := hP
  have hx := Bd.exec
  have hby := Bd.bytes
  have hml : c.maxLocals = 6 := hml0
  have hown : s.vm.findClass "com/example/pipewright/pipewright/io/GraphicSetOfOneBytePinLaw" = some m.cls := findClass_of_methodNamed Bd.named
  have hnm := (name_of_methodNamed Bd.named Bd.method).1
  have X0 : Stand p l e room_1 s m #[(.int p0), (.int p1)] below meth c s₁ [] 0 0 := Stand.of_body Bd
  have e0 : s₁.heap = h0 := by rw [← hh, Bd.state]; rfl
  have N0 := Fr.nil n0
  have pre0 : ∀ t, Steps p.tables e below (s₁.setTop (mkF m 0 #[iv p0, iv p1, .unset, .unset, .unset, .unset] [])) t → Steps p.tables e below (s₁.setTop (entryFrame m #[(.int p0), (.int p1)] maxLocals)) t := fun t k => castTop (ef_0_II m p0 p1) k
  obtain ⟨_, _, ⟨T1, L1, k1, n1⟩, -, X1, ⟨Lc1, hQ1, l1, y1, z1⟩, st1⟩ := Jvm.LawKit.callS X0 hx (y := (⟨"com/example/pipewright/pipewright/io/Iso2022Layout$GraphicSet", "ofOneByte", "(B)Lcom/example/pipewright/pipewright/io/Iso2022Layout$GraphicSet;"⟩ : MethodName)) hown (mvT hZ (hw _ (List.mem_of_getElem? (i := 0) rfl))) (mvT hZ (hw _ (List.mem_of_getElem? (i := 1) rfl))) (mvT hZ (hw _ (List.mem_of_getElem? (i := 2) rfl))) (mvT hZ (hw _ (List.mem_of_getElem? (i := 3) rfl))) (by decide) (backOf (W := 0) (rm1_6 l Z a0 hw [] w_GraphicSet_JIS_X_0201_KATAKANA h0 n0 Z0 S_GraphicSet_JIS_X_0201_KATAKANA) hZ (hw _ (List.mem_of_getElem? (i := 3) rfl)) (hw _ (List.mem_of_getElem? (i := 2) rfl)) (by decide) (by decide)) (g := (mkF m 40 #[iv p0, iv p1, iv (2 : Int32), iv (73 : Int32), .unset, .unset] [(.int (73 : Int32))])) rfl (by rw [hml]; rfl) (argsL := [(.int (73 : Int32))]) (rest := []) (lenOf pd_0 rfl) rfl (by show 2 * 0 + _ ≤ _; exact Nat.le_of_eq rfl) (hb hby at_40) (fun _ _ => ⟨rfl, e0, (by decide : 0 + 0 ≤ _), (by decide : 0 + 0 ≤ _)⟩)
  dsimp only [Pt.U, Pt.locs, Pt.cells, Pt.slots] at X1 l1 y1 z1 st1 hQ1
  subst l1 y1 z1
  obtain ⟨rfl, N1q, e1⟩ := hQ1
  have N1 := Fr.app N0 N1q
  obtain ⟨_, _, ⟨T2, L2, k2, n2⟩, -, X2, ⟨Lc2, hQ2, l2, y2, z2⟩, st2⟩ := Jvm.LawKit.callS X1 hx (y := (⟨"com/example/pipewright/pipewright/io/GraphicSetOfOneBytePinLaw", "expected", "(B)Lcom/example/pipewright/pipewright/io/Iso2022Layout$GraphicSet;"⟩ : MethodName)) hown (mvT hZ (hw _ (List.mem_of_getElem? (i := 6) rfl))) (mvT hZ (hw _ (List.mem_of_getElem? (i := 7) rfl))) (mvT hZ (hw _ (List.mem_of_getElem? (i := 8) rfl))) (mvT hZ (hw _ (List.mem_of_getElem? (i := 9) rfl))) (by decide) (backOf (W := 0) (rm2_7 l Z a0 hw [] w_GraphicSet_JIS_X_0201_KATAKANA h0 n0 Z0 S_GraphicSet_JIS_X_0201_KATAKANA) hZ (hw _ (List.mem_of_getElem? (i := 9) rfl)) (hw _ (List.mem_of_getElem? (i := 8) rfl)) (by decide) (by decide)) (g := (mkF m 46 #[iv p0, iv p1, iv (2 : Int32), iv (73 : Int32), rv w_GraphicSet_JIS_X_0201_KATAKANA, .unset] [(.int (73 : Int32))])) rfl (by rw [hml]; rfl) (argsL := [(.int (73 : Int32))]) (rest := []) (lenOf pd_0 rfl) rfl (by show 2 * 0 + _ ≤ _; exact Nat.le_of_eq rfl) (hb hby at_46) (fun _ _ => ⟨rfl, e1, (by decide : 0 + 0 ≤ _), (by decide : 0 + 0 ≤ _)⟩)
  dsimp only [Pt.U, Pt.locs, Pt.cells, Pt.slots] at X2 l2 y2 z2 st2 hQ2
  subst l2 y2 z2
  obtain ⟨rfl, N2q, e2⟩ := hQ2
  have N2 := Fr.app N1 N2q
  obtain ⟨cq3, kq3, q3a, q3b, q3c⟩ := isOf hZ e2 E_w_GraphicSet_JIS_X_0201_KATAKANA
  obtain ⟨_, _, ⟨T3, L3, k3, n3⟩, -, X3, ⟨Lc3, hQ3, l3, y3, z3⟩, st3⟩ := X2.virtualBack hx (y := (⟨"com/example/pipewright/pipewright/io/Iso2022Layout$GraphicSet", "width", "()I"⟩ : MethodName)) (z := (⟨"com/example/pipewright/pipewright/io/Iso2022Layout$GraphicSet", "width", "()I"⟩ : MethodName)) hown (mvT hZ (hw _ (List.mem_of_getElem? (i := 11) rfl))) (mvT hZ (hw _ (List.mem_of_getElem? (i := 12) rfl))) (notFace_of_selects (args := #[]) (mvT hZ (hw _ (List.mem_of_getElem? (i := 14) rfl)))) (mvT hZ (hw _ (List.mem_of_getElem? (i := 14) rfl))) (mvT hZ (hw _ (List.mem_of_getElem? (i := 13) rfl))) (by decide) (backOf (W := 0) (rm3_8 l Z a0 hw [] w_GraphicSet_JIS_X_0201_KATAKANA h0 n0 Z0 F_w_GraphicSet_JIS_X_0201_KATAKANA_width) hZ (hw _ (List.mem_of_getElem? (i := 15) rfl)) (hw _ (List.mem_of_getElem? (i := 2) rfl)) (by decide) (by decide)) q3a q3c (g := (mkF m 60 #[iv p0, iv p1, iv (2 : Int32), iv (73 : Int32), rv w_GraphicSet_JIS_X_0201_KATAKANA, rv w_GraphicSet_JIS_X_0201_KATAKANA] [(.ref w_GraphicSet_JIS_X_0201_KATAKANA)])) rfl (by rw [hml]; rfl) (Steps.refl _) (argsL := []) (rest := []) (lenOf pd_1 rfl) rfl (by show 2 * 0 + _ ≤ _; exact Nat.le_of_eq rfl) (hb hby at_60) (fun _ _ => ⟨rfl, e2, (by decide : 0 + 0 ≤ _), (by decide : 0 + 0 ≤ _)⟩)
  dsimp only [Pt.U, Pt.locs, Pt.cells, Pt.slots] at X3 l3 y3 z3 st3 hQ3
  subst l3 y3 z3
  obtain ⟨rfl, N3q, e3⟩ := hQ3
  have N3 := Fr.app N2 N3q
  obtain ⟨fs, hr, hrun, hended, hW, hsame⟩ := X3.leave (v := (some (.int (1 : Int32)))) (fun h => by rw [Bd.returns] at h; cases h)
  refine ⟨_, _, pre0 _ ?_, hrun, hended, _, _, rfl, ?_, ⟨_, rfl⟩, hW, hsame.mono (by decide) (by decide)⟩
  · show Steps p.tables e below (s₁.setTop (mkF m 0 #[iv p0, iv p1, .unset, .unset, .unset, .unset] [])) _
    refine XS.iloadN X0.here hx rfl (hb hby at_0) rfl ?_
    show Steps p.tables e below (s₁.setTop (mkF m 1 #[iv p0, iv p1, .unset, .unset, .unset, .unset] [(.int p0)])) _
    refine XS.iconst X0.here hx rfl (hb hby at_1) ?_
    show Steps p.tables e below (s₁.setTop (mkF m 2 #[iv p0, iv p1, .unset, .unset, .unset, .unset] [(.int (3 : Int32)), (.int p0)])) _
    refine XS.iand X0.here hx rfl (hb hby at_2) rfl ?_
    show Steps p.tables e below (s₁.setTop (mkF m 3 #[iv p0, iv p1, .unset, .unset, .unset, .unset] [(.int (p0 &&& (3 : Int32)))])) _
    rewrite [hk0]
    show Steps p.tables e below (s₁.setTop (mkF m 3 #[iv p0, iv p1, .unset, .unset, .unset, .unset] [(.int (2 : Int32))])) _
    refine XS.istoreN X0.here hx rfl (hb hby at_3) rfl (l' := #[iv p0, iv p1, iv (2 : Int32), .unset, .unset, .unset]) rfl ?_
    show Steps p.tables e below (s₁.setTop (mkF m 4 #[iv p0, iv p1, iv (2 : Int32), .unset, .unset, .unset] [])) _
    refine XS.iloadN X0.here hx rfl (hb hby at_4) rfl ?_
    show Steps p.tables e below (s₁.setTop (mkF m 5 #[iv p0, iv p1, iv (2 : Int32), .unset, .unset, .unset] [(.int (2 : Int32))])) _
    refine XS.ifYes X0.here hx rfl (pc0 := 5) (pc' := 14) rfl (hb hby at_5) rfl ((if0 _ _).trans (feq (by decide +kernel : ¬ ((2 : Int32) = (0 : Int32)))).2) (by decide) (by decide) ?_
    show Steps p.tables e below (s₁.setTop (mkF m 14 #[iv p0, iv p1, iv (2 : Int32), .unset, .unset, .unset] [])) _
    refine XS.iloadN X0.here hx rfl (hb hby at_14) rfl ?_
    show Steps p.tables e below (s₁.setTop (mkF m 15 #[iv p0, iv p1, iv (2 : Int32), .unset, .unset, .unset] [(.int (2 : Int32))])) _
    refine XS.iconst X0.here hx rfl (hb hby at_15) ?_
    show Steps p.tables e below (s₁.setTop (mkF m 16 #[iv p0, iv p1, iv (2 : Int32), .unset, .unset, .unset] [(.int (1 : Int32)), (.int (2 : Int32))])) _
    refine XS.icmpYes X0.here hx rfl (pc0 := 16) (pc' := 25) rfl (hb hby at_16) rfl (feq (by decide +kernel : ¬ ((2 : Int32) = (1 : Int32)))).2 (by decide) (by decide) ?_
    show Steps p.tables e below (s₁.setTop (mkF m 25 #[iv p0, iv p1, iv (2 : Int32), .unset, .unset, .unset] [])) _
    refine XS.iloadN X0.here hx rfl (hb hby at_25) rfl ?_
    show Steps p.tables e below (s₁.setTop (mkF m 26 #[iv p0, iv p1, iv (2 : Int32), .unset, .unset, .unset] [(.int (2 : Int32))])) _
    refine XS.iconst X0.here hx rfl (hb hby at_26) ?_
    show Steps p.tables e below (s₁.setTop (mkF m 27 #[iv p0, iv p1, iv (2 : Int32), .unset, .unset, .unset] [(.int (2 : Int32)), (.int (2 : Int32))])) _
    refine XS.icmpNo X0.here hx rfl (hb hby at_27) rfl (teq (by decide +kernel : (2 : Int32) = (2 : Int32))).2 ?_
    show Steps p.tables e below (s₁.setTop (mkF m 30 #[iv p0, iv p1, iv (2 : Int32), .unset, .unset, .unset] [])) _
    refine XS.bipush X0.here hx rfl (hb hby at_30) ?_
    show Steps p.tables e below (s₁.setTop (mkF m 32 #[iv p0, iv p1, iv (2 : Int32), .unset, .unset, .unset] [(.int (73 : Int32))])) _
    refine XS.istoreN X0.here hx rfl (hb hby at_32) rfl (l' := #[iv p0, iv p1, iv (2 : Int32), iv (73 : Int32), .unset, .unset]) rfl ?_
    show Steps p.tables e below (s₁.setTop (mkF m 33 #[iv p0, iv p1, iv (2 : Int32), iv (73 : Int32), .unset, .unset] [])) _
    refine XS.goto X0.here hx rfl (pc0 := 33) (pc' := 39) rfl (hb hby at_33) (by decide) (by decide) ?_
    show Steps p.tables e below (s₁.setTop (mkF m 39 #[iv p0, iv p1, iv (2 : Int32), iv (73 : Int32), .unset, .unset] [])) _
    refine XS.iloadN X0.here hx rfl (hb hby at_39) rfl ?_
    show Steps p.tables e below (s₁.setTop (mkF m 40 #[iv p0, iv p1, iv (2 : Int32), iv (73 : Int32), .unset, .unset] [(.int (73 : Int32))])) _
    refine st1 _ ?_
    show Steps p.tables e below (T1.setTop (mkF m 43 #[iv p0, iv p1, iv (2 : Int32), iv (73 : Int32), .unset, .unset] [(.ref w_GraphicSet_JIS_X_0201_KATAKANA)])) _
    refine XS.astore X1.here hx rfl (hb hby at_43) rfl rfl (l' := #[iv p0, iv p1, iv (2 : Int32), iv (73 : Int32), rv w_GraphicSet_JIS_X_0201_KATAKANA, .unset]) rfl ?_
    show Steps p.tables e below (T1.setTop (mkF m 45 #[iv p0, iv p1, iv (2 : Int32), iv (73 : Int32), rv w_GraphicSet_JIS_X_0201_KATAKANA, .unset] [])) _
    refine XS.iloadN X1.here hx rfl (hb hby at_45) rfl ?_
    show Steps p.tables e below (T1.setTop (mkF m 46 #[iv p0, iv p1, iv (2 : Int32), iv (73 : Int32), rv w_GraphicSet_JIS_X_0201_KATAKANA, .unset] [(.int (73 : Int32))])) _
    refine st2 _ ?_
    show Steps p.tables e below (T2.setTop (mkF m 49 #[iv p0, iv p1, iv (2 : Int32), iv (73 : Int32), rv w_GraphicSet_JIS_X_0201_KATAKANA, .unset] [(.ref w_GraphicSet_JIS_X_0201_KATAKANA)])) _
    refine XS.astore X2.here hx rfl (hb hby at_49) rfl rfl (l' := #[iv p0, iv p1, iv (2 : Int32), iv (73 : Int32), rv w_GraphicSet_JIS_X_0201_KATAKANA, rv w_GraphicSet_JIS_X_0201_KATAKANA]) rfl ?_
    show Steps p.tables e below (T2.setTop (mkF m 51 #[iv p0, iv p1, iv (2 : Int32), iv (73 : Int32), rv w_GraphicSet_JIS_X_0201_KATAKANA, rv w_GraphicSet_JIS_X_0201_KATAKANA] [])) _
    refine XS.aload X2.here hx rfl (hb hby at_51) rfl rfl ?_
    show Steps p.tables e below (T2.setTop (mkF m 53 #[iv p0, iv p1, iv (2 : Int32), iv (73 : Int32), rv w_GraphicSet_JIS_X_0201_KATAKANA, rv w_GraphicSet_JIS_X_0201_KATAKANA] [(.ref w_GraphicSet_JIS_X_0201_KATAKANA)])) _
    refine XS.aload X2.here hx rfl (hb hby at_53) rfl rfl ?_
    show Steps p.tables e below (T2.setTop (mkF m 55 #[iv p0, iv p1, iv (2 : Int32), iv (73 : Int32), rv w_GraphicSet_JIS_X_0201_KATAKANA, rv w_GraphicSet_JIS_X_0201_KATAKANA] [(.ref w_GraphicSet_JIS_X_0201_KATAKANA), (.ref w_GraphicSet_JIS_X_0201_KATAKANA)])) _
    refine Jvm.RoadKit.acmp (g := (mkF m 55 #[iv p0, iv p1, iv (2 : Int32), iv (73 : Int32), rv w_GraphicSet_JIS_X_0201_KATAKANA, rv w_GraphicSet_JIS_X_0201_KATAKANA] [(.ref w_GraphicSet_JIS_X_0201_KATAKANA), (.ref w_GraphicSet_JIS_X_0201_KATAKANA)])) X2 hx rfl rfl rfl (pc0 := 55) (pc' := 58) (same := true) rfl (hb hby at_55) rfl (decide_eq_true rfl) (by decide) (by decide) ?_
    show Steps p.tables e below (T2.setTop (mkF m 58 #[iv p0, iv p1, iv (2 : Int32), iv (73 : Int32), rv w_GraphicSet_JIS_X_0201_KATAKANA, rv w_GraphicSet_JIS_X_0201_KATAKANA] [])) _
    refine XS.aload X2.here hx rfl (hb hby at_58) rfl rfl ?_
    show Steps p.tables e below (T2.setTop (mkF m 60 #[iv p0, iv p1, iv (2 : Int32), iv (73 : Int32), rv w_GraphicSet_JIS_X_0201_KATAKANA, rv w_GraphicSet_JIS_X_0201_KATAKANA] [(.ref w_GraphicSet_JIS_X_0201_KATAKANA)])) _
    refine st3.trans ?_
    show Steps p.tables e below (T3.setTop (mkF m 63 #[iv p0, iv p1, iv (2 : Int32), iv (73 : Int32), rv w_GraphicSet_JIS_X_0201_KATAKANA, rv w_GraphicSet_JIS_X_0201_KATAKANA] [(.int (1 : Int32))])) _
    refine XS.iconst X3.here hx rfl (hb hby at_63) ?_
    show Steps p.tables e below (T3.setTop (mkF m 64 #[iv p0, iv p1, iv (2 : Int32), iv (73 : Int32), rv w_GraphicSet_JIS_X_0201_KATAKANA, rv w_GraphicSet_JIS_X_0201_KATAKANA] [(.int (1 : Int32)), (.int (1 : Int32))])) _
    refine XS.icmpNo X3.here hx rfl (hb hby at_64) rfl (teq (by decide +kernel : (1 : Int32) = (1 : Int32))).2 ?_
    show Steps p.tables e below (T3.setTop (mkF m 67 #[iv p0, iv p1, iv (2 : Int32), iv (73 : Int32), rv w_GraphicSet_JIS_X_0201_KATAKANA, rv w_GraphicSet_JIS_X_0201_KATAKANA] [])) _
    refine XS.iconst X3.here hx rfl (hb hby at_67) ?_
    show Steps p.tables e below (T3.setTop (mkF m 68 #[iv p0, iv p1, iv (2 : Int32), iv (73 : Int32), rv w_GraphicSet_JIS_X_0201_KATAKANA, rv w_GraphicSet_JIS_X_0201_KATAKANA] [(.int (1 : Int32))])) _
    refine XS.goto X3.here hx rfl (pc0 := 68) (pc' := 72) rfl (hb hby at_68) (by decide) (by decide) ?_
    show Steps p.tables e below (T3.setTop (mkF m 72 #[iv p0, iv p1, iv (2 : Int32), iv (73 : Int32), rv w_GraphicSet_JIS_X_0201_KATAKANA, rv w_GraphicSet_JIS_X_0201_KATAKANA] [(.int (1 : Int32))])) _
    exact retN X3 hx (t := .boolean) Bd.returns (by simp) (hb hby at_72) hr
  · exact ⟨rfl, N3⟩
set_option maxRecDepth 65536 in
set_option maxHeartbeats 40000000 in
theorem rm0_3 (l : Launch) (Z : State) (a0 : Array Value) (hw : ∀ d ∈ tables_1, d.before a0 Z = true) (ws : List Jvm.Cond) (p0 : Int32) (p1 : Int32) (w_GraphicSet_ASCII : Addr) (h0 : Heap) (n0 : Nat) (Z0 : n0 ≤ h0.size) (hk0 : (p0 &&& (3 : Int32)) = (3 : Int32)) (hd : (p1.toInt8.toInt32) = (66 : Int32)) (S_GraphicSet_ASCII : Sta Z h0 "com/example/pipewright/pipewright/io/Iso2022Layout$GraphicSet" "ASCII" "Lcom/example/pipewright/pipewright/io/Iso2022Layout$GraphicSet;" (.ref w_GraphicSet_ASCII)) (F_w_GraphicSet_ASCII_width : Fld Z h0 w_GraphicSet_ASCII "com/example/pipewright/pipewright/io/Iso2022Layout$GraphicSet" "width" "I" (.int (1 : Int32))) (E_w_GraphicSet_ASCII : Exa Z h0 w_GraphicSet_ASCII "com/example/pipewright/pipewright/io/Iso2022Layout$GraphicSet") :
    MetFree l x (head1 (Jvm.Cond.code x code maxLocals ret :: ws) room_1) (fun a U => a = #[(.int p0), (.int p1)] ∧ Z.Warmed39 U.vm ∧ U.heap = h0) (fun _ _ _ _ _ => True) (fun _ U o U' => ∃ v L, o = .returned v ∧ own_QL n0 v U'.heap L ∧ FrameEnd U o U' L room_1.cells room_1.slots) := by
  refine MetFree.of_bodySF (plainFor_of_name pn_1) hisR ?_
  intro p e s m args below meth c s₁ Bd hml0 hP hK
  obtain ⟨rfl, hZ, hh⟩ := hP
  have hx := Bd.exec
  have hby := Bd.bytes
  have hml : c.maxLocals = 6 := hml0
  have hown : s.vm.findClass "com/example/pipewright/pipewright/io/GraphicSetOfOneBytePinLaw" = some m.cls := findClass_of_methodNamed Bd.named
  have hnm := (name_of_methodNamed Bd.named Bd.method).1
  have X0 : Stand p l e room_1 s m #[(.int p0), (.int p1)] below meth c s₁ [] 0 0 := Stand.of_body Bd
  have e0 : s₁.heap = h0 := by rw [← hh, Bd.state]; rfl
  have N0 := Fr.nil n0
  have pre0 : ∀ t, Steps p.tables e below (s₁.setTop (mkF m 0 #[iv p0, iv p1, .unset, .unset, .unset, .unset] [])) t → Steps p.tables e below (s₁.setTop (entryFrame m #[(.int p0), (.int p1)] maxLocals)) t := fun t k => castTop (ef_0_II m p0 p1) k
  obtain ⟨_, _, ⟨T1, L1, k1, n1⟩, -, X1, ⟨Lc1, hQ1, l1, y1, z1⟩, st1⟩ := Jvm.LawKit.callS X0 hx (y := (⟨"com/example/pipewright/pipewright/io/Iso2022Layout$GraphicSet", "ofOneByte", "(B)Lcom/example/pipewright/pipewright/io/Iso2022Layout$GraphicSet;"⟩ : MethodName)) hown (mvT hZ (hw _ (List.mem_of_getElem? (i := 0) rfl))) (mvT hZ (hw _ (List.mem_of_getElem? (i := 1) rfl))) (mvT hZ (hw _ (List.mem_of_getElem? (i := 2) rfl))) (mvT hZ (hw _ (List.mem_of_getElem? (i := 3) rfl))) (by decide) (backOf (W := 0) (rm1_0 l Z a0 hw [] w_GraphicSet_ASCII h0 n0 Z0 S_GraphicSet_ASCII) hZ (hw _ (List.mem_of_getElem? (i := 3) rfl)) (hw _ (List.mem_of_getElem? (i := 2) rfl)) (by decide) (by decide)) (g := (mkF m 40 #[iv p0, iv p1, iv (3 : Int32), iv (66 : Int32), .unset, .unset] [(.int (66 : Int32))])) rfl (by rw [hml]; rfl) (argsL := [(.int (66 : Int32))]) (rest := []) (lenOf pd_0 rfl) rfl (by show 2 * 0 + _ ≤ _; exact Nat.le_of_eq rfl) (hb hby at_40) (fun _ _ => ⟨rfl, e0, (by decide : 0 + 0 ≤ _), (by decide : 0 + 0 ≤ _)⟩)
  dsimp only [Pt.U, Pt.locs, Pt.cells, Pt.slots] at X1 l1 y1 z1 st1 hQ1
  subst l1 y1 z1
  obtain ⟨rfl, N1q, e1⟩ := hQ1
  have N1 := Fr.app N0 N1q
  obtain ⟨_, _, ⟨T2, L2, k2, n2⟩, -, X2, ⟨Lc2, hQ2, l2, y2, z2⟩, st2⟩ := Jvm.LawKit.callS X1 hx (y := (⟨"com/example/pipewright/pipewright/io/GraphicSetOfOneBytePinLaw", "expected", "(B)Lcom/example/pipewright/pipewright/io/Iso2022Layout$GraphicSet;"⟩ : MethodName)) hown (mvT hZ (hw _ (List.mem_of_getElem? (i := 6) rfl))) (mvT hZ (hw _ (List.mem_of_getElem? (i := 7) rfl))) (mvT hZ (hw _ (List.mem_of_getElem? (i := 8) rfl))) (mvT hZ (hw _ (List.mem_of_getElem? (i := 9) rfl))) (by decide) (backOf (W := 0) (rm2_1 l Z a0 hw [] w_GraphicSet_ASCII h0 n0 Z0 S_GraphicSet_ASCII) hZ (hw _ (List.mem_of_getElem? (i := 9) rfl)) (hw _ (List.mem_of_getElem? (i := 8) rfl)) (by decide) (by decide)) (g := (mkF m 46 #[iv p0, iv p1, iv (3 : Int32), iv (66 : Int32), rv w_GraphicSet_ASCII, .unset] [(.int (66 : Int32))])) rfl (by rw [hml]; rfl) (argsL := [(.int (66 : Int32))]) (rest := []) (lenOf pd_0 rfl) rfl (by show 2 * 0 + _ ≤ _; exact Nat.le_of_eq rfl) (hb hby at_46) (fun _ _ => ⟨rfl, e1, (by decide : 0 + 0 ≤ _), (by decide : 0 + 0 ≤ _)⟩)
  dsimp only [Pt.U, Pt.locs, Pt.cells, Pt.slots] at X2 l2 y2 z2 st2 hQ2
  subst l2 y2 z2
  obtain ⟨rfl, N2q, e2⟩ := hQ2
  have N2 := Fr.app N1 N2q
  obtain ⟨cq3, kq3, q3a, q3b, q3c⟩ := isOf hZ e2 E_w_GraphicSet_ASCII
  obtain ⟨_, _, ⟨T3, L3, k3, n3⟩, -, X3, ⟨Lc3, hQ3, l3, y3, z3⟩, st3⟩ := X2.virtualBack hx (y := (⟨"com/example/pipewright/pipewright/io/Iso2022Layout$GraphicSet", "width", "()I"⟩ : MethodName)) (z := (⟨"com/example/pipewright/pipewright/io/Iso2022Layout$GraphicSet", "width", "()I"⟩ : MethodName)) hown (mvT hZ (hw _ (List.mem_of_getElem? (i := 11) rfl))) (mvT hZ (hw _ (List.mem_of_getElem? (i := 12) rfl))) (notFace_of_selects (args := #[]) (mvT hZ (hw _ (List.mem_of_getElem? (i := 14) rfl)))) (mvT hZ (hw _ (List.mem_of_getElem? (i := 14) rfl))) (mvT hZ (hw _ (List.mem_of_getElem? (i := 13) rfl))) (by decide) (backOf (W := 0) (rm3_2 l Z a0 hw [] w_GraphicSet_ASCII h0 n0 Z0 F_w_GraphicSet_ASCII_width) hZ (hw _ (List.mem_of_getElem? (i := 15) rfl)) (hw _ (List.mem_of_getElem? (i := 2) rfl)) (by decide) (by decide)) q3a q3c (g := (mkF m 60 #[iv p0, iv p1, iv (3 : Int32), iv (66 : Int32), rv w_GraphicSet_ASCII, rv w_GraphicSet_ASCII] [(.ref w_GraphicSet_ASCII)])) rfl (by rw [hml]; rfl) (Steps.refl _) (argsL := []) (rest := []) (lenOf pd_1 rfl) rfl (by show 2 * 0 + _ ≤ _; exact Nat.le_of_eq rfl) (hb hby at_60) (fun _ _ => ⟨rfl, e2, (by decide : 0 + 0 ≤ _), (by decide : 0 + 0 ≤ _)⟩)
  dsimp only [Pt.U, Pt.locs, Pt.cells, Pt.slots] at X3 l3 y3 z3 st3 hQ3
  subst l3 y3 z3
  obtain ⟨rfl, N3q, e3⟩ := hQ3
  have N3 := Fr.app N2 N3q
  obtain ⟨fs, hr, hrun, hended, hW, hsame⟩ := X3.leave (v := (some (.int (1 : Int32)))) (fun h => by rw [Bd.returns] at h; cases h)
  refine ⟨_, _, pre0 _ ?_, hrun, hended, _, _, rfl, ?_, ⟨_, rfl⟩, hW, hsame.mono (by decide) (by decide)⟩
  · show Steps p.tables e below (s₁.setTop (mkF m 0 #[iv p0, iv p1, .unset, .unset, .unset, .unset] [])) _
    refine XS.iloadN X0.here hx rfl (hb hby at_0) rfl ?_
    show Steps p.tables e below (s₁.setTop (mkF m 1 #[iv p0, iv p1, .unset, .unset, .unset, .unset] [(.int p0)])) _
    refine XS.iconst X0.here hx rfl (hb hby at_1) ?_
    show Steps p.tables e below (s₁.setTop (mkF m 2 #[iv p0, iv p1, .unset, .unset, .unset, .unset] [(.int (3 : Int32)), (.int p0)])) _
    refine XS.iand X0.here hx rfl (hb hby at_2) rfl ?_
    show Steps p.tables e below (s₁.setTop (mkF m 3 #[iv p0, iv p1, .unset, .unset, .unset, .unset] [(.int (p0 &&& (3 : Int32)))])) _
    rewrite [hk0]
    show Steps p.tables e below (s₁.setTop (mkF m 3 #[iv p0, iv p1, .unset, .unset, .unset, .unset] [(.int (3 : Int32))])) _
    refine XS.istoreN X0.here hx rfl (hb hby at_3) rfl (l' := #[iv p0, iv p1, iv (3 : Int32), .unset, .unset, .unset]) rfl ?_
    show Steps p.tables e below (s₁.setTop (mkF m 4 #[iv p0, iv p1, iv (3 : Int32), .unset, .unset, .unset] [])) _
    refine XS.iloadN X0.here hx rfl (hb hby at_4) rfl ?_
    show Steps p.tables e below (s₁.setTop (mkF m 5 #[iv p0, iv p1, iv (3 : Int32), .unset, .unset, .unset] [(.int (3 : Int32))])) _
    refine XS.ifYes X0.here hx rfl (pc0 := 5) (pc' := 14) rfl (hb hby at_5) rfl ((if0 _ _).trans (feq (by decide +kernel : ¬ ((3 : Int32) = (0 : Int32)))).2) (by decide) (by decide) ?_
    show Steps p.tables e below (s₁.setTop (mkF m 14 #[iv p0, iv p1, iv (3 : Int32), .unset, .unset, .unset] [])) _
    refine XS.iloadN X0.here hx rfl (hb hby at_14) rfl ?_
    show Steps p.tables e below (s₁.setTop (mkF m 15 #[iv p0, iv p1, iv (3 : Int32), .unset, .unset, .unset] [(.int (3 : Int32))])) _
    refine XS.iconst X0.here hx rfl (hb hby at_15) ?_
    show Steps p.tables e below (s₁.setTop (mkF m 16 #[iv p0, iv p1, iv (3 : Int32), .unset, .unset, .unset] [(.int (1 : Int32)), (.int (3 : Int32))])) _
    refine XS.icmpYes X0.here hx rfl (pc0 := 16) (pc' := 25) rfl (hb hby at_16) rfl (feq (by decide +kernel : ¬ ((3 : Int32) = (1 : Int32)))).2 (by decide) (by decide) ?_
    show Steps p.tables e below (s₁.setTop (mkF m 25 #[iv p0, iv p1, iv (3 : Int32), .unset, .unset, .unset] [])) _
    refine XS.iloadN X0.here hx rfl (hb hby at_25) rfl ?_
    show Steps p.tables e below (s₁.setTop (mkF m 26 #[iv p0, iv p1, iv (3 : Int32), .unset, .unset, .unset] [(.int (3 : Int32))])) _
    refine XS.iconst X0.here hx rfl (hb hby at_26) ?_
    show Steps p.tables e below (s₁.setTop (mkF m 27 #[iv p0, iv p1, iv (3 : Int32), .unset, .unset, .unset] [(.int (2 : Int32)), (.int (3 : Int32))])) _
    refine XS.icmpYes X0.here hx rfl (pc0 := 27) (pc' := 36) rfl (hb hby at_27) rfl (feq (by decide +kernel : ¬ ((3 : Int32) = (2 : Int32)))).2 (by decide) (by decide) ?_
    show Steps p.tables e below (s₁.setTop (mkF m 36 #[iv p0, iv p1, iv (3 : Int32), .unset, .unset, .unset] [])) _
    refine XS.iloadN X0.here hx rfl (hb hby at_36) rfl ?_
    show Steps p.tables e below (s₁.setTop (mkF m 37 #[iv p0, iv p1, iv (3 : Int32), .unset, .unset, .unset] [(.int p1)])) _
    refine XS.i2b X0.here hx rfl (hb hby at_37) rfl ?_
    show Steps p.tables e below (s₁.setTop (mkF m 38 #[iv p0, iv p1, iv (3 : Int32), .unset, .unset, .unset] [(.int (p1.toInt8.toInt32))])) _
    rewrite [hd]
    show Steps p.tables e below (s₁.setTop (mkF m 38 #[iv p0, iv p1, iv (3 : Int32), .unset, .unset, .unset] [(.int (66 : Int32))])) _
    refine XS.istoreN X0.here hx rfl (hb hby at_38) rfl (l' := #[iv p0, iv p1, iv (3 : Int32), iv (66 : Int32), .unset, .unset]) rfl ?_
    show Steps p.tables e below (s₁.setTop (mkF m 39 #[iv p0, iv p1, iv (3 : Int32), iv (66 : Int32), .unset, .unset] [])) _
    refine XS.iloadN X0.here hx rfl (hb hby at_39) rfl ?_
    show Steps p.tables e below (s₁.setTop (mkF m 40 #[iv p0, iv p1, iv (3 : Int32), iv (66 : Int32), .unset, .unset] [(.int (66 : Int32))])) _
    refine st1 _ ?_
    show Steps p.tables e below (T1.setTop (mkF m 43 #[iv p0, iv p1, iv (3 : Int32), iv (66 : Int32), .unset, .unset] [(.ref w_GraphicSet_ASCII)])) _
    refine XS.astore X1.here hx rfl (hb hby at_43) rfl rfl (l' := #[iv p0, iv p1, iv (3 : Int32), iv (66 : Int32), rv w_GraphicSet_ASCII, .unset]) rfl ?_
    show Steps p.tables e below (T1.setTop (mkF m 45 #[iv p0, iv p1, iv (3 : Int32), iv (66 : Int32), rv w_GraphicSet_ASCII, .unset] [])) _
    refine XS.iloadN X1.here hx rfl (hb hby at_45) rfl ?_
    show Steps p.tables e below (T1.setTop (mkF m 46 #[iv p0, iv p1, iv (3 : Int32), iv (66 : Int32), rv w_GraphicSet_ASCII, .unset] [(.int (66 : Int32))])) _
    refine st2 _ ?_
    show Steps p.tables e below (T2.setTop (mkF m 49 #[iv p0, iv p1, iv (3 : Int32), iv (66 : Int32), rv w_GraphicSet_ASCII, .unset] [(.ref w_GraphicSet_ASCII)])) _
    refine XS.astore X2.here hx rfl (hb hby at_49) rfl rfl (l' := #[iv p0, iv p1, iv (3 : Int32), iv (66 : Int32), rv w_GraphicSet_ASCII, rv w_GraphicSet_ASCII]) rfl ?_
    show Steps p.tables e below (T2.setTop (mkF m 51 #[iv p0, iv p1, iv (3 : Int32), iv (66 : Int32), rv w_GraphicSet_ASCII, rv w_GraphicSet_ASCII] [])) _
    refine XS.aload X2.here hx rfl (hb hby at_51) rfl rfl ?_
    show Steps p.tables e below (T2.setTop (mkF m 53 #[iv p0, iv p1, iv (3 : Int32), iv (66 : Int32), rv w_GraphicSet_ASCII, rv w_GraphicSet_ASCII] [(.ref w_GraphicSet_ASCII)])) _
    refine XS.aload X2.here hx rfl (hb hby at_53) rfl rfl ?_
    show Steps p.tables e below (T2.setTop (mkF m 55 #[iv p0, iv p1, iv (3 : Int32), iv (66 : Int32), rv w_GraphicSet_ASCII, rv w_GraphicSet_ASCII] [(.ref w_GraphicSet_ASCII), (.ref w_GraphicSet_ASCII)])) _
    refine Jvm.RoadKit.acmp (g := (mkF m 55 #[iv p0, iv p1, iv (3 : Int32), iv (66 : Int32), rv w_GraphicSet_ASCII, rv w_GraphicSet_ASCII] [(.ref w_GraphicSet_ASCII), (.ref w_GraphicSet_ASCII)])) X2 hx rfl rfl rfl (pc0 := 55) (pc' := 58) (same := true) rfl (hb hby at_55) rfl (decide_eq_true rfl) (by decide) (by decide) ?_
    show Steps p.tables e below (T2.setTop (mkF m 58 #[iv p0, iv p1, iv (3 : Int32), iv (66 : Int32), rv w_GraphicSet_ASCII, rv w_GraphicSet_ASCII] [])) _
    refine XS.aload X2.here hx rfl (hb hby at_58) rfl rfl ?_
    show Steps p.tables e below (T2.setTop (mkF m 60 #[iv p0, iv p1, iv (3 : Int32), iv (66 : Int32), rv w_GraphicSet_ASCII, rv w_GraphicSet_ASCII] [(.ref w_GraphicSet_ASCII)])) _
    refine st3.trans ?_
    show Steps p.tables e below (T3.setTop (mkF m 63 #[iv p0, iv p1, iv (3 : Int32), iv (66 : Int32), rv w_GraphicSet_ASCII, rv w_GraphicSet_ASCII] [(.int (1 : Int32))])) _
    refine XS.iconst X3.here hx rfl (hb hby at_63) ?_
    show Steps p.tables e below (T3.setTop (mkF m 64 #[iv p0, iv p1, iv (3 : Int32), iv (66 : Int32), rv w_GraphicSet_ASCII, rv w_GraphicSet_ASCII] [(.int (1 : Int32)), (.int (1 : Int32))])) _
    refine XS.icmpNo X3.here hx rfl (hb hby at_64) rfl (teq (by decide +kernel : (1 : Int32) = (1 : Int32))).2 ?_
    show Steps p.tables e below (T3.setTop (mkF m 67 #[iv p0, iv p1, iv (3 : Int32), iv (66 : Int32), rv w_GraphicSet_ASCII, rv w_GraphicSet_ASCII] [])) _
    refine XS.iconst X3.here hx rfl (hb hby at_67) ?_
    show Steps p.tables e below (T3.setTop (mkF m 68 #[iv p0, iv p1, iv (3 : Int32), iv (66 : Int32), rv w_GraphicSet_ASCII, rv w_GraphicSet_ASCII] [(.int (1 : Int32))])) _
    refine XS.goto X3.here hx rfl (pc0 := 68) (pc' := 72) rfl (hb hby at_68) (by decide) (by decide) ?_
    show Steps p.tables e below (T3.setTop (mkF m 72 #[iv p0, iv p1, iv (3 : Int32), iv (66 : Int32), rv w_GraphicSet_ASCII, rv w_GraphicSet_ASCII] [(.int (1 : Int32))])) _
    exact retN X3 hx (t := .boolean) Bd.returns (by simp) (hb hby at_72) hr
  · exact ⟨rfl, N3⟩
set_option maxRecDepth 65536 in
set_option maxHeartbeats 40000000 in
theorem rm0_4 (l : Launch) (Z : State) (a0 : Array Value) (hw : ∀ d ∈ tables_1, d.before a0 Z = true) (ws : List Jvm.Cond) (p0 : Int32) (p1 : Int32) (w_GraphicSet_JIS_X_0201_KATAKANA : Addr) (h0 : Heap) (n0 : Nat) (Z0 : n0 ≤ h0.size) (hk0 : (p0 &&& (3 : Int32)) = (3 : Int32)) (hd : (p1.toInt8.toInt32) = (73 : Int32)) (S_GraphicSet_JIS_X_0201_KATAKANA : Sta Z h0 "com/example/pipewright/pipewright/io/Iso2022Layout$GraphicSet" "JIS_X_0201_KATAKANA" "Lcom/example/pipewright/pipewright/io/Iso2022Layout$GraphicSet;" (.ref w_GraphicSet_JIS_X_0201_KATAKANA)) (F_w_GraphicSet_JIS_X_0201_KATAKANA_width : Fld Z h0 w_GraphicSet_JIS_X_0201_KATAKANA "com/example/pipewright/pipewright/io/Iso2022Layout$GraphicSet" "width" "I" (.int (1 : Int32))) (E_w_GraphicSet_JIS_X_0201_KATAKANA : Exa Z h0 w_GraphicSet_JIS_X_0201_KATAKANA "com/example/pipewright/pipewright/io/Iso2022Layout$GraphicSet") :
    MetFree l x (head1 (Jvm.Cond.code x code maxLocals ret :: ws) room_1) (fun a U => a = #[(.int p0), (.int p1)] ∧ Z.Warmed39 U.vm ∧ U.heap = h0) (fun _ _ _ _ _ => True) (fun _ U o U' => ∃ v L, o = .returned v ∧ own_QL n0 v U'.heap L ∧ FrameEnd U o U' L room_1.cells room_1.slots) := by
  refine MetFree.of_bodySF (plainFor_of_name pn_1) hisR ?_
  intro p e s m args below meth c s₁ Bd hml0 hP hK
  obtain ⟨rfl, hZ, hh⟩ := hP
  have hx := Bd.exec
  have hby := Bd.bytes
  have hml : c.maxLocals = 6 := hml0
  have hown : s.vm.findClass "com/example/pipewright/pipewright/io/GraphicSetOfOneBytePinLaw" = some m.cls := findClass_of_methodNamed Bd.named
  have hnm := (name_of_methodNamed Bd.named Bd.method).1
  have X0 : Stand p l e room_1 s m #[(.int p0), (.int p1)] below meth c s₁ [] 0 0 := Stand.of_body Bd
  have e0 : s₁.heap = h0 := by rw [← hh, Bd.state]; rfl
  have N0 := Fr.nil n0
  have pre0 : ∀ t, Steps p.tables e below (s₁.setTop (mkF m 0 #[iv p0, iv p1, .unset, .unset, .unset, .unset] [])) t → Steps p.tables e below (s₁.setTop (entryFrame m #[(.int p0), (.int p1)] maxLocals)) t := fun t k => castTop (ef_0_II m p0 p1) k
  obtain ⟨_, _, ⟨T1, L1, k1, n1⟩, -, X1, ⟨Lc1, hQ1, l1, y1, z1⟩, st1⟩ := Jvm.LawKit.callS X0 hx (y := (⟨"com/example/pipewright/pipewright/io/Iso2022Layout$GraphicSet", "ofOneByte", "(B)Lcom/example/pipewright/pipewright/io/Iso2022Layout$GraphicSet;"⟩ : MethodName)) hown (mvT hZ (hw _ (List.mem_of_getElem? (i := 0) rfl))) (mvT hZ (hw _ (List.mem_of_getElem? (i := 1) rfl))) (mvT hZ (hw _ (List.mem_of_getElem? (i := 2) rfl))) (mvT hZ (hw _ (List.mem_of_getElem? (i := 3) rfl))) (by decide) (backOf (W := 0) (rm1_6 l Z a0 hw [] w_GraphicSet_JIS_X_0201_KATAKANA h0 n0 Z0 S_GraphicSet_JIS_X_0201_KATAKANA) hZ (hw _ (List.mem_of_getElem? (i := 3) rfl)) (hw _ (List.mem_of_getElem? (i := 2) rfl)) (by decide) (by decide)) (g := (mkF m 40 #[iv p0, iv p1, iv (3 : Int32), iv (73 : Int32), .unset, .unset] [(.int (73 : Int32))])) rfl (by rw [hml]; rfl) (argsL := [(.int (73 : Int32))]) (rest := []) (lenOf pd_0 rfl) rfl (by show 2 * 0 + _ ≤ _; exact Nat.le_of_eq rfl) (hb hby at_40) (fun _ _ => ⟨rfl, e0, (by decide : 0 + 0 ≤ _), (by decide : 0 + 0 ≤ _)⟩)
  dsimp only [Pt.U, Pt.locs, Pt.cells, Pt.slots] at X1 l1 y1 z1 st1 hQ1
  subst l1 y1 z1
  obtain ⟨rfl, N1q, e1⟩ := hQ1
  have N1 := Fr.app N0 N1q
  obtain ⟨_, _, ⟨T2, L2, k2, n2⟩, -, X2, ⟨Lc2, hQ2, l2, y2, z2⟩, st2⟩ := Jvm.LawKit.callS X1 hx (y := (⟨"com/example/pipewright/pipewright/io/GraphicSetOfOneBytePinLaw", "expected", "(B)Lcom/example/pipewright/pipewright/io/Iso2022Layout$GraphicSet;"⟩ : MethodName)) hown (mvT hZ (hw _ (List.mem_of_getElem? (i := 6) rfl))) (mvT hZ (hw _ (List.mem_of_getElem? (i := 7) rfl))) (mvT hZ (hw _ (List.mem_of_getElem? (i := 8) rfl))) (mvT hZ (hw _ (List.mem_of_getElem? (i := 9) rfl))) (by decide) (backOf (W := 0) (rm2_7 l Z a0 hw [] w_GraphicSet_JIS_X_0201_KATAKANA h0 n0 Z0 S_GraphicSet_JIS_X_0201_KATAKANA) hZ (hw _ (List.mem_of_getElem? (i := 9) rfl)) (hw _ (List.mem_of_getElem? (i := 8) rfl)) (by decide) (by decide)) (g := (mkF m 46 #[iv p0, iv p1, iv (3 : Int32), iv (73 : Int32), rv w_GraphicSet_JIS_X_0201_KATAKANA, .unset] [(.int (73 : Int32))])) rfl (by rw [hml]; rfl) (argsL := [(.int (73 : Int32))]) (rest := []) (lenOf pd_0 rfl) rfl (by show 2 * 0 + _ ≤ _; exact Nat.le_of_eq rfl) (hb hby at_46) (fun _ _ => ⟨rfl, e1, (by decide : 0 + 0 ≤ _), (by decide : 0 + 0 ≤ _)⟩)
  dsimp only [Pt.U, Pt.locs, Pt.cells, Pt.slots] at X2 l2 y2 z2 st2 hQ2
  subst l2 y2 z2
  obtain ⟨rfl, N2q, e2⟩ := hQ2
  have N2 := Fr.app N1 N2q
  obtain ⟨cq3, kq3, q3a, q3b, q3c⟩ := isOf hZ e2 E_w_GraphicSet_JIS_X_0201_KATAKANA
  obtain ⟨_, _, ⟨T3, L3, k3, n3⟩, -, X3, ⟨Lc3, hQ3, l3, y3, z3⟩, st3⟩ := X2.virtualBack hx (y := (⟨"com/example/pipewright/pipewright/io/Iso2022Layout$GraphicSet", "width", "()I"⟩ : MethodName)) (z := (⟨"com/example/pipewright/pipewright/io/Iso2022Layout$GraphicSet", "width", "()I"⟩ : MethodName)) hown (mvT hZ (hw _ (List.mem_of_getElem? (i := 11) rfl))) (mvT hZ (hw _ (List.mem_of_getElem? (i := 12) rfl))) (notFace_of_selects (args := #[]) (mvT hZ (hw _ (List.mem_of_getElem? (i := 14) rfl)))) (mvT hZ (hw _ (List.mem_of_getElem? (i := 14) rfl))) (mvT hZ (hw _ (List.mem_of_getElem? (i := 13) rfl))) (by decide) (backOf (W := 0) (rm3_8 l Z a0 hw [] w_GraphicSet_JIS_X_0201_KATAKANA h0 n0 Z0 F_w_GraphicSet_JIS_X_0201_KATAKANA_width) hZ (hw _ (List.mem_of_getElem? (i := 15) rfl)) (hw _ (List.mem_of_getElem? (i := 2) rfl)) (by decide) (by decide)) q3a q3c (g := (mkF m 60 #[iv p0, iv p1, iv (3 : Int32), iv (73 : Int32), rv w_GraphicSet_JIS_X_0201_KATAKANA, rv w_GraphicSet_JIS_X_0201_KATAKANA] [(.ref w_GraphicSet_JIS_X_0201_KATAKANA)])) rfl (by rw [hml]; rfl) (Steps.refl _) (argsL := []) (rest := []) (lenOf pd_1 rfl) rfl (by show 2 * 0 + _ ≤ _; exact Nat.le_of_eq rfl) (hb hby at_60) (fun _ _ => ⟨rfl, e2, (by decide : 0 + 0 ≤ _), (by decide : 0 + 0 ≤ _)⟩)
  dsimp only [Pt.U, Pt.locs, Pt.cells, Pt.slots] at X3 l3 y3 z3 st3 hQ3
  subst l3 y3 z3
  obtain ⟨rfl, N3q, e3⟩ := hQ3
  have N3 := Fr.app N2 N3q
  obtain ⟨fs, hr, hrun, hended, hW, hsame⟩ := X3.leave (v := (some (.int (1 : Int32)))) (fun h => by rw [Bd.returns] at h; cases h)
  refine ⟨_, _, pre0 _ ?_, hrun, hended, _, _, rfl, ?_, ⟨_, rfl⟩, hW, hsame.mono (by decide) (by decide)⟩
  · show Steps p.tables e below (s₁.setTop (mkF m 0 #[iv p0, iv p1, .unset, .unset, .unset, .unset] [])) _
    refine XS.iloadN X0.here hx rfl (hb hby at_0) rfl ?_
    show Steps p.tables e below (s₁.setTop (mkF m 1 #[iv p0, iv p1, .unset, .unset, .unset, .unset] [(.int p0)])) _
    refine XS.iconst X0.here hx rfl (hb hby at_1) ?_
    show Steps p.tables e below (s₁.setTop (mkF m 2 #[iv p0, iv p1, .unset, .unset, .unset, .unset] [(.int (3 : Int32)), (.int p0)])) _
    refine XS.iand X0.here hx rfl (hb hby at_2) rfl ?_
    show Steps p.tables e below (s₁.setTop (mkF m 3 #[iv p0, iv p1, .unset, .unset, .unset, .unset] [(.int (p0 &&& (3 : Int32)))])) _
    rewrite [hk0]
    show Steps p.tables e below (s₁.setTop (mkF m 3 #[iv p0, iv p1, .unset, .unset, .unset, .unset] [(.int (3 : Int32))])) _
    refine XS.istoreN X0.here hx rfl (hb hby at_3) rfl (l' := #[iv p0, iv p1, iv (3 : Int32), .unset, .unset, .unset]) rfl ?_
    show Steps p.tables e below (s₁.setTop (mkF m 4 #[iv p0, iv p1, iv (3 : Int32), .unset, .unset, .unset] [])) _
    refine XS.iloadN X0.here hx rfl (hb hby at_4) rfl ?_
    show Steps p.tables e below (s₁.setTop (mkF m 5 #[iv p0, iv p1, iv (3 : Int32), .unset, .unset, .unset] [(.int (3 : Int32))])) _
    refine XS.ifYes X0.here hx rfl (pc0 := 5) (pc' := 14) rfl (hb hby at_5) rfl ((if0 _ _).trans (feq (by decide +kernel : ¬ ((3 : Int32) = (0 : Int32)))).2) (by decide) (by decide) ?_
    show Steps p.tables e below (s₁.setTop (mkF m 14 #[iv p0, iv p1, iv (3 : Int32), .unset, .unset, .unset] [])) _
    refine XS.iloadN X0.here hx rfl (hb hby at_14) rfl ?_
    show Steps p.tables e below (s₁.setTop (mkF m 15 #[iv p0, iv p1, iv (3 : Int32), .unset, .unset, .unset] [(.int (3 : Int32))])) _
    refine XS.iconst X0.here hx rfl (hb hby at_15) ?_
    show Steps p.tables e below (s₁.setTop (mkF m 16 #[iv p0, iv p1, iv (3 : Int32), .unset, .unset, .unset] [(.int (1 : Int32)), (.int (3 : Int32))])) _
    refine XS.icmpYes X0.here hx rfl (pc0 := 16) (pc' := 25) rfl (hb hby at_16) rfl (feq (by decide +kernel : ¬ ((3 : Int32) = (1 : Int32)))).2 (by decide) (by decide) ?_
    show Steps p.tables e below (s₁.setTop (mkF m 25 #[iv p0, iv p1, iv (3 : Int32), .unset, .unset, .unset] [])) _
    refine XS.iloadN X0.here hx rfl (hb hby at_25) rfl ?_
    show Steps p.tables e below (s₁.setTop (mkF m 26 #[iv p0, iv p1, iv (3 : Int32), .unset, .unset, .unset] [(.int (3 : Int32))])) _
    refine XS.iconst X0.here hx rfl (hb hby at_26) ?_
    show Steps p.tables e below (s₁.setTop (mkF m 27 #[iv p0, iv p1, iv (3 : Int32), .unset, .unset, .unset] [(.int (2 : Int32)), (.int (3 : Int32))])) _
    refine XS.icmpYes X0.here hx rfl (pc0 := 27) (pc' := 36) rfl (hb hby at_27) rfl (feq (by decide +kernel : ¬ ((3 : Int32) = (2 : Int32)))).2 (by decide) (by decide) ?_
    show Steps p.tables e below (s₁.setTop (mkF m 36 #[iv p0, iv p1, iv (3 : Int32), .unset, .unset, .unset] [])) _
    refine XS.iloadN X0.here hx rfl (hb hby at_36) rfl ?_
    show Steps p.tables e below (s₁.setTop (mkF m 37 #[iv p0, iv p1, iv (3 : Int32), .unset, .unset, .unset] [(.int p1)])) _
    refine XS.i2b X0.here hx rfl (hb hby at_37) rfl ?_
    show Steps p.tables e below (s₁.setTop (mkF m 38 #[iv p0, iv p1, iv (3 : Int32), .unset, .unset, .unset] [(.int (p1.toInt8.toInt32))])) _
    rewrite [hd]
    show Steps p.tables e below (s₁.setTop (mkF m 38 #[iv p0, iv p1, iv (3 : Int32), .unset, .unset, .unset] [(.int (73 : Int32))])) _
    refine XS.istoreN X0.here hx rfl (hb hby at_38) rfl (l' := #[iv p0, iv p1, iv (3 : Int32), iv (73 : Int32), .unset, .unset]) rfl ?_
    show Steps p.tables e below (s₁.setTop (mkF m 39 #[iv p0, iv p1, iv (3 : Int32), iv (73 : Int32), .unset, .unset] [])) _
    refine XS.iloadN X0.here hx rfl (hb hby at_39) rfl ?_
    show Steps p.tables e below (s₁.setTop (mkF m 40 #[iv p0, iv p1, iv (3 : Int32), iv (73 : Int32), .unset, .unset] [(.int (73 : Int32))])) _
    refine st1 _ ?_
    show Steps p.tables e below (T1.setTop (mkF m 43 #[iv p0, iv p1, iv (3 : Int32), iv (73 : Int32), .unset, .unset] [(.ref w_GraphicSet_JIS_X_0201_KATAKANA)])) _
    refine XS.astore X1.here hx rfl (hb hby at_43) rfl rfl (l' := #[iv p0, iv p1, iv (3 : Int32), iv (73 : Int32), rv w_GraphicSet_JIS_X_0201_KATAKANA, .unset]) rfl ?_
    show Steps p.tables e below (T1.setTop (mkF m 45 #[iv p0, iv p1, iv (3 : Int32), iv (73 : Int32), rv w_GraphicSet_JIS_X_0201_KATAKANA, .unset] [])) _
    refine XS.iloadN X1.here hx rfl (hb hby at_45) rfl ?_
    show Steps p.tables e below (T1.setTop (mkF m 46 #[iv p0, iv p1, iv (3 : Int32), iv (73 : Int32), rv w_GraphicSet_JIS_X_0201_KATAKANA, .unset] [(.int (73 : Int32))])) _
    refine st2 _ ?_
    show Steps p.tables e below (T2.setTop (mkF m 49 #[iv p0, iv p1, iv (3 : Int32), iv (73 : Int32), rv w_GraphicSet_JIS_X_0201_KATAKANA, .unset] [(.ref w_GraphicSet_JIS_X_0201_KATAKANA)])) _
    refine XS.astore X2.here hx rfl (hb hby at_49) rfl rfl (l' := #[iv p0, iv p1, iv (3 : Int32), iv (73 : Int32), rv w_GraphicSet_JIS_X_0201_KATAKANA, rv w_GraphicSet_JIS_X_0201_KATAKANA]) rfl ?_
    show Steps p.tables e below (T2.setTop (mkF m 51 #[iv p0, iv p1, iv (3 : Int32), iv (73 : Int32), rv w_GraphicSet_JIS_X_0201_KATAKANA, rv w_GraphicSet_JIS_X_0201_KATAKANA] [])) _
    refine XS.aload X2.here hx rfl (hb hby at_51) rfl rfl ?_
    show Steps p.tables e below (T2.setTop (mkF m 53 #[iv p0, iv p1, iv (3 : Int32), iv (73 : Int32), rv w_GraphicSet_JIS_X_0201_KATAKANA, rv w_GraphicSet_JIS_X_0201_KATAKANA] [(.ref w_GraphicSet_JIS_X_0201_KATAKANA)])) _
    refine XS.aload X2.here hx rfl (hb hby at_53) rfl rfl ?_
    show Steps p.tables e below (T2.setTop (mkF m 55 #[iv p0, iv p1, iv (3 : Int32), iv (73 : Int32), rv w_GraphicSet_JIS_X_0201_KATAKANA, rv w_GraphicSet_JIS_X_0201_KATAKANA] [(.ref w_GraphicSet_JIS_X_0201_KATAKANA), (.ref w_GraphicSet_JIS_X_0201_KATAKANA)])) _
    refine Jvm.RoadKit.acmp (g := (mkF m 55 #[iv p0, iv p1, iv (3 : Int32), iv (73 : Int32), rv w_GraphicSet_JIS_X_0201_KATAKANA, rv w_GraphicSet_JIS_X_0201_KATAKANA] [(.ref w_GraphicSet_JIS_X_0201_KATAKANA), (.ref w_GraphicSet_JIS_X_0201_KATAKANA)])) X2 hx rfl rfl rfl (pc0 := 55) (pc' := 58) (same := true) rfl (hb hby at_55) rfl (decide_eq_true rfl) (by decide) (by decide) ?_
    show Steps p.tables e below (T2.setTop (mkF m 58 #[iv p0, iv p1, iv (3 : Int32), iv (73 : Int32), rv w_GraphicSet_JIS_X_0201_KATAKANA, rv w_GraphicSet_JIS_X_0201_KATAKANA] [])) _
    refine XS.aload X2.here hx rfl (hb hby at_58) rfl rfl ?_
    show Steps p.tables e below (T2.setTop (mkF m 60 #[iv p0, iv p1, iv (3 : Int32), iv (73 : Int32), rv w_GraphicSet_JIS_X_0201_KATAKANA, rv w_GraphicSet_JIS_X_0201_KATAKANA] [(.ref w_GraphicSet_JIS_X_0201_KATAKANA)])) _
    refine st3.trans ?_
    show Steps p.tables e below (T3.setTop (mkF m 63 #[iv p0, iv p1, iv (3 : Int32), iv (73 : Int32), rv w_GraphicSet_JIS_X_0201_KATAKANA, rv w_GraphicSet_JIS_X_0201_KATAKANA] [(.int (1 : Int32))])) _
    refine XS.iconst X3.here hx rfl (hb hby at_63) ?_
    show Steps p.tables e below (T3.setTop (mkF m 64 #[iv p0, iv p1, iv (3 : Int32), iv (73 : Int32), rv w_GraphicSet_JIS_X_0201_KATAKANA, rv w_GraphicSet_JIS_X_0201_KATAKANA] [(.int (1 : Int32)), (.int (1 : Int32))])) _
    refine XS.icmpNo X3.here hx rfl (hb hby at_64) rfl (teq (by decide +kernel : (1 : Int32) = (1 : Int32))).2 ?_
    show Steps p.tables e below (T3.setTop (mkF m 67 #[iv p0, iv p1, iv (3 : Int32), iv (73 : Int32), rv w_GraphicSet_JIS_X_0201_KATAKANA, rv w_GraphicSet_JIS_X_0201_KATAKANA] [])) _
    refine XS.iconst X3.here hx rfl (hb hby at_67) ?_
    show Steps p.tables e below (T3.setTop (mkF m 68 #[iv p0, iv p1, iv (3 : Int32), iv (73 : Int32), rv w_GraphicSet_JIS_X_0201_KATAKANA, rv w_GraphicSet_JIS_X_0201_KATAKANA] [(.int (1 : Int32))])) _
    refine XS.goto X3.here hx rfl (pc0 := 68) (pc' := 72) rfl (hb hby at_68) (by decide) (by decide) ?_
    show Steps p.tables e below (T3.setTop (mkF m 72 #[iv p0, iv p1, iv (3 : Int32), iv (73 : Int32), rv w_GraphicSet_JIS_X_0201_KATAKANA, rv w_GraphicSet_JIS_X_0201_KATAKANA] [(.int (1 : Int32))])) _
    exact retN X3 hx (t := .boolean) Bd.returns (by simp) (hb hby at_72) hr
  · exact ⟨rfl, N3⟩
set_option maxRecDepth 65536 in
set_option maxHeartbeats 40000000 in
theorem rm0_5 (l : Launch) (Z : State) (a0 : Array Value) (hw : ∀ d ∈ tables_1, d.before a0 Z = true) (ws : List Jvm.Cond) (p0 : Int32) (p1 : Int32) (w_GraphicSet_JIS_X_0201_ROMAN : Addr) (h0 : Heap) (n0 : Nat) (Z0 : n0 ≤ h0.size) (hk0 : (p0 &&& (3 : Int32)) = (3 : Int32)) (hd : (p1.toInt8.toInt32) = (74 : Int32)) (S_GraphicSet_JIS_X_0201_ROMAN : Sta Z h0 "com/example/pipewright/pipewright/io/Iso2022Layout$GraphicSet" "JIS_X_0201_ROMAN" "Lcom/example/pipewright/pipewright/io/Iso2022Layout$GraphicSet;" (.ref w_GraphicSet_JIS_X_0201_ROMAN)) (F_w_GraphicSet_JIS_X_0201_ROMAN_width : Fld Z h0 w_GraphicSet_JIS_X_0201_ROMAN "com/example/pipewright/pipewright/io/Iso2022Layout$GraphicSet" "width" "I" (.int (1 : Int32))) (E_w_GraphicSet_JIS_X_0201_ROMAN : Exa Z h0 w_GraphicSet_JIS_X_0201_ROMAN "com/example/pipewright/pipewright/io/Iso2022Layout$GraphicSet") :
    MetFree l x (head1 (Jvm.Cond.code x code maxLocals ret :: ws) room_1) (fun a U => a = #[(.int p0), (.int p1)] ∧ Z.Warmed39 U.vm ∧ U.heap = h0) (fun _ _ _ _ _ => True) (fun _ U o U' => ∃ v L, o = .returned v ∧ own_QL n0 v U'.heap L ∧ FrameEnd U o U' L room_1.cells room_1.slots) := by
  refine MetFree.of_bodySF (plainFor_of_name pn_1) hisR ?_
  intro p e s m args below meth c s₁ Bd hml0 hP hK
  obtain ⟨rfl, hZ, hh⟩ := hP
  have hx := Bd.exec
  have hby := Bd.bytes
  have hml : c.maxLocals = 6 := hml0
  have hown : s.vm.findClass "com/example/pipewright/pipewright/io/GraphicSetOfOneBytePinLaw" = some m.cls := findClass_of_methodNamed Bd.named
  have hnm := (name_of_methodNamed Bd.named Bd.method).1
  have X0 : Stand p l e room_1 s m #[(.int p0), (.int p1)] below meth c s₁ [] 0 0 := Stand.of_body Bd
  have e0 : s₁.heap = h0 := by rw [← hh, Bd.state]; rfl
  have N0 := Fr.nil n0
  have pre0 : ∀ t, Steps p.tables e below (s₁.setTop (mkF m 0 #[iv p0, iv p1, .unset, .unset, .unset, .unset] [])) t → Steps p.tables e below (s₁.setTop (entryFrame m #[(.int p0), (.int p1)] maxLocals)) t := fun t k => castTop (ef_0_II m p0 p1) k
  obtain ⟨_, _, ⟨T1, L1, k1, n1⟩, -, X1, ⟨Lc1, hQ1, l1, y1, z1⟩, st1⟩ := Jvm.LawKit.callS X0 hx (y := (⟨"com/example/pipewright/pipewright/io/Iso2022Layout$GraphicSet", "ofOneByte", "(B)Lcom/example/pipewright/pipewright/io/Iso2022Layout$GraphicSet;"⟩ : MethodName)) hown (mvT hZ (hw _ (List.mem_of_getElem? (i := 0) rfl))) (mvT hZ (hw _ (List.mem_of_getElem? (i := 1) rfl))) (mvT hZ (hw _ (List.mem_of_getElem? (i := 2) rfl))) (mvT hZ (hw _ (List.mem_of_getElem? (i := 3) rfl))) (by decide) (backOf (W := 0) (rm1_3 l Z a0 hw [] w_GraphicSet_JIS_X_0201_ROMAN h0 n0 Z0 S_GraphicSet_JIS_X_0201_ROMAN) hZ (hw _ (List.mem_of_getElem? (i := 3) rfl)) (hw _ (List.mem_of_getElem? (i := 2) rfl)) (by decide) (by decide)) (g := (mkF m 40 #[iv p0, iv p1, iv (3 : Int32), iv (74 : Int32), .unset, .unset] [(.int (74 : Int32))])) rfl (by rw [hml]; rfl) (argsL := [(.int (74 : Int32))]) (rest := []) (lenOf pd_0 rfl) rfl (by show 2 * 0 + _ ≤ _; exact Nat.le_of_eq rfl) (hb hby at_40) (fun _ _ => ⟨rfl, e0, (by decide : 0 + 0 ≤ _), (by decide : 0 + 0 ≤ _)⟩)
  dsimp only [Pt.U, Pt.locs, Pt.cells, Pt.slots] at X1 l1 y1 z1 st1 hQ1
  subst l1 y1 z1
  obtain ⟨rfl, N1q, e1⟩ := hQ1
  have N1 := Fr.app N0 N1q
  obtain ⟨_, _, ⟨T2, L2, k2, n2⟩, -, X2, ⟨Lc2, hQ2, l2, y2, z2⟩, st2⟩ := Jvm.LawKit.callS X1 hx (y := (⟨"com/example/pipewright/pipewright/io/GraphicSetOfOneBytePinLaw", "expected", "(B)Lcom/example/pipewright/pipewright/io/Iso2022Layout$GraphicSet;"⟩ : MethodName)) hown (mvT hZ (hw _ (List.mem_of_getElem? (i := 6) rfl))) (mvT hZ (hw _ (List.mem_of_getElem? (i := 7) rfl))) (mvT hZ (hw _ (List.mem_of_getElem? (i := 8) rfl))) (mvT hZ (hw _ (List.mem_of_getElem? (i := 9) rfl))) (by decide) (backOf (W := 0) (rm2_4 l Z a0 hw [] w_GraphicSet_JIS_X_0201_ROMAN h0 n0 Z0 S_GraphicSet_JIS_X_0201_ROMAN) hZ (hw _ (List.mem_of_getElem? (i := 9) rfl)) (hw _ (List.mem_of_getElem? (i := 8) rfl)) (by decide) (by decide)) (g := (mkF m 46 #[iv p0, iv p1, iv (3 : Int32), iv (74 : Int32), rv w_GraphicSet_JIS_X_0201_ROMAN, .unset] [(.int (74 : Int32))])) rfl (by rw [hml]; rfl) (argsL := [(.int (74 : Int32))]) (rest := []) (lenOf pd_0 rfl) rfl (by show 2 * 0 + _ ≤ _; exact Nat.le_of_eq rfl) (hb hby at_46) (fun _ _ => ⟨rfl, e1, (by decide : 0 + 0 ≤ _), (by decide : 0 + 0 ≤ _)⟩)
  dsimp only [Pt.U, Pt.locs, Pt.cells, Pt.slots] at X2 l2 y2 z2 st2 hQ2
  subst l2 y2 z2
  obtain ⟨rfl, N2q, e2⟩ := hQ2
  have N2 := Fr.app N1 N2q
  obtain ⟨cq3, kq3, q3a, q3b, q3c⟩ := isOf hZ e2 E_w_GraphicSet_JIS_X_0201_ROMAN
  obtain ⟨_, _, ⟨T3, L3, k3, n3⟩, -, X3, ⟨Lc3, hQ3, l3, y3, z3⟩, st3⟩ := X2.virtualBack hx (y := (⟨"com/example/pipewright/pipewright/io/Iso2022Layout$GraphicSet", "width", "()I"⟩ : MethodName)) (z := (⟨"com/example/pipewright/pipewright/io/Iso2022Layout$GraphicSet", "width", "()I"⟩ : MethodName)) hown (mvT hZ (hw _ (List.mem_of_getElem? (i := 11) rfl))) (mvT hZ (hw _ (List.mem_of_getElem? (i := 12) rfl))) (notFace_of_selects (args := #[]) (mvT hZ (hw _ (List.mem_of_getElem? (i := 14) rfl)))) (mvT hZ (hw _ (List.mem_of_getElem? (i := 14) rfl))) (mvT hZ (hw _ (List.mem_of_getElem? (i := 13) rfl))) (by decide) (backOf (W := 0) (rm3_5 l Z a0 hw [] w_GraphicSet_JIS_X_0201_ROMAN h0 n0 Z0 F_w_GraphicSet_JIS_X_0201_ROMAN_width) hZ (hw _ (List.mem_of_getElem? (i := 15) rfl)) (hw _ (List.mem_of_getElem? (i := 2) rfl)) (by decide) (by decide)) q3a q3c (g := (mkF m 60 #[iv p0, iv p1, iv (3 : Int32), iv (74 : Int32), rv w_GraphicSet_JIS_X_0201_ROMAN, rv w_GraphicSet_JIS_X_0201_ROMAN] [(.ref w_GraphicSet_JIS_X_0201_ROMAN)])) rfl (by rw [hml]; rfl) (Steps.refl _) (argsL := []) (rest := []) (lenOf pd_1 rfl) rfl (by show 2 * 0 + _ ≤ _; exact Nat.le_of_eq rfl) (hb hby at_60) (fun _ _ => ⟨rfl, e2, (by decide : 0 + 0 ≤ _), (by decide : 0 + 0 ≤ _)⟩)
  dsimp only [Pt.U, Pt.locs, Pt.cells, Pt.slots] at X3 l3 y3 z3 st3 hQ3
  subst l3 y3 z3
  obtain ⟨rfl, N3q, e3⟩ := hQ3
  have N3 := Fr.app N2 N3q
  obtain ⟨fs, hr, hrun, hended, hW, hsame⟩ := X3.leave (v := (some (.int (1 : Int32)))) (fun h => by rw [Bd.returns] at h; cases h)
  refine ⟨_, _, pre0 _ ?_, hrun, hended, _, _, rfl, ?_, ⟨_, rfl⟩, hW, hsame.mono (by decide) (by decide)⟩
  · show Steps p.tables e below (s₁.setTop (mkF m 0 #[iv p0, iv p1, .unset, .unset, .unset, .unset] [])) _
    refine XS.iloadN X0.here hx rfl (hb hby at_0) rfl ?_
    show Steps p.tables e below (s₁.setTop (mkF m 1 #[iv p0, iv p1, .unset, .unset, .unset, .unset] [(.int p0)])) _
    refine XS.iconst X0.here hx rfl (hb hby at_1) ?_
    show Steps p.tables e below (s₁.setTop (mkF m 2 #[iv p0, iv p1, .unset, .unset, .unset, .unset] [(.int (3 : Int32)), (.int p0)])) _
    refine XS.iand X0.here hx rfl (hb hby at_2) rfl ?_
    show Steps p.tables e below (s₁.setTop (mkF m 3 #[iv p0, iv p1, .unset, .unset, .unset, .unset] [(.int (p0 &&& (3 : Int32)))])) _
    rewrite [hk0]
    show Steps p.tables e below (s₁.setTop (mkF m 3 #[iv p0, iv p1, .unset, .unset, .unset, .unset] [(.int (3 : Int32))])) _
    refine XS.istoreN X0.here hx rfl (hb hby at_3) rfl (l' := #[iv p0, iv p1, iv (3 : Int32), .unset, .unset, .unset]) rfl ?_
    show Steps p.tables e below (s₁.setTop (mkF m 4 #[iv p0, iv p1, iv (3 : Int32), .unset, .unset, .unset] [])) _
    refine XS.iloadN X0.here hx rfl (hb hby at_4) rfl ?_
    show Steps p.tables e below (s₁.setTop (mkF m 5 #[iv p0, iv p1, iv (3 : Int32), .unset, .unset, .unset] [(.int (3 : Int32))])) _
    refine XS.ifYes X0.here hx rfl (pc0 := 5) (pc' := 14) rfl (hb hby at_5) rfl ((if0 _ _).trans (feq (by decide +kernel : ¬ ((3 : Int32) = (0 : Int32)))).2) (by decide) (by decide) ?_
    show Steps p.tables e below (s₁.setTop (mkF m 14 #[iv p0, iv p1, iv (3 : Int32), .unset, .unset, .unset] [])) _
    refine XS.iloadN X0.here hx rfl (hb hby at_14) rfl ?_
    show Steps p.tables e below (s₁.setTop (mkF m 15 #[iv p0, iv p1, iv (3 : Int32), .unset, .unset, .unset] [(.int (3 : Int32))])) _
    refine XS.iconst X0.here hx rfl (hb hby at_15) ?_
    show Steps p.tables e below (s₁.setTop (mkF m 16 #[iv p0, iv p1, iv (3 : Int32), .unset, .unset, .unset] [(.int (1 : Int32)), (.int (3 : Int32))])) _
    refine XS.icmpYes X0.here hx rfl (pc0 := 16) (pc' := 25) rfl (hb hby at_16) rfl (feq (by decide +kernel : ¬ ((3 : Int32) = (1 : Int32)))).2 (by decide) (by decide) ?_
    show Steps p.tables e below (s₁.setTop (mkF m 25 #[iv p0, iv p1, iv (3 : Int32), .unset, .unset, .unset] [])) _
    refine XS.iloadN X0.here hx rfl (hb hby at_25) rfl ?_
    show Steps p.tables e below (s₁.setTop (mkF m 26 #[iv p0, iv p1, iv (3 : Int32), .unset, .unset, .unset] [(.int (3 : Int32))])) _
    refine XS.iconst X0.here hx rfl (hb hby at_26) ?_
    show Steps p.tables e below (s₁.setTop (mkF m 27 #[iv p0, iv p1, iv (3 : Int32), .unset, .unset, .unset] [(.int (2 : Int32)), (.int (3 : Int32))])) _
    refine XS.icmpYes X0.here hx rfl (pc0 := 27) (pc' := 36) rfl (hb hby at_27) rfl (feq (by decide +kernel : ¬ ((3 : Int32) = (2 : Int32)))).2 (by decide) (by decide) ?_
    show Steps p.tables e below (s₁.setTop (mkF m 36 #[iv p0, iv p1, iv (3 : Int32), .unset, .unset, .unset] [])) _
    refine XS.iloadN X0.here hx rfl (hb hby at_36) rfl ?_
    show Steps p.tables e below (s₁.setTop (mkF m 37 #[iv p0, iv p1, iv (3 : Int32), .unset, .unset, .unset] [(.int p1)])) _
    refine XS.i2b X0.here hx rfl (hb hby at_37) rfl ?_
    show Steps p.tables e below (s₁.setTop (mkF m 38 #[iv p0, iv p1, iv (3 : Int32), .unset, .unset, .unset] [(.int (p1.toInt8.toInt32))])) _
    rewrite [hd]
    show Steps p.tables e below (s₁.setTop (mkF m 38 #[iv p0, iv p1, iv (3 : Int32), .unset, .unset, .unset] [(.int (74 : Int32))])) _
    refine XS.istoreN X0.here hx rfl (hb hby at_38) rfl (l' := #[iv p0, iv p1, iv (3 : Int32), iv (74 : Int32), .unset, .unset]) rfl ?_
    show Steps p.tables e below (s₁.setTop (mkF m 39 #[iv p0, iv p1, iv (3 : Int32), iv (74 : Int32), .unset, .unset] [])) _
    refine XS.iloadN X0.here hx rfl (hb hby at_39) rfl ?_
    show Steps p.tables e below (s₁.setTop (mkF m 40 #[iv p0, iv p1, iv (3 : Int32), iv (74 : Int32), .unset, .unset] [(.int (74 : Int32))])) _
    refine st1 _ ?_
    show Steps p.tables e below (T1.setTop (mkF m 43 #[iv p0, iv p1, iv (3 : Int32), iv (74 : Int32), .unset, .unset] [(.ref w_GraphicSet_JIS_X_0201_ROMAN)])) _
    refine XS.astore X1.here hx rfl (hb hby at_43) rfl rfl (l' := #[iv p0, iv p1, iv (3 : Int32), iv (74 : Int32), rv w_GraphicSet_JIS_X_0201_ROMAN, .unset]) rfl ?_
    show Steps p.tables e below (T1.setTop (mkF m 45 #[iv p0, iv p1, iv (3 : Int32), iv (74 : Int32), rv w_GraphicSet_JIS_X_0201_ROMAN, .unset] [])) _
    refine XS.iloadN X1.here hx rfl (hb hby at_45) rfl ?_
    show Steps p.tables e below (T1.setTop (mkF m 46 #[iv p0, iv p1, iv (3 : Int32), iv (74 : Int32), rv w_GraphicSet_JIS_X_0201_ROMAN, .unset] [(.int (74 : Int32))])) _
    refine st2 _ ?_
    show Steps p.tables e below (T2.setTop (mkF m 49 #[iv p0, iv p1, iv (3 : Int32), iv (74 : Int32), rv w_GraphicSet_JIS_X_0201_ROMAN, .unset] [(.ref w_GraphicSet_JIS_X_0201_ROMAN)])) _
    refine XS.astore X2.here hx rfl (hb hby at_49) rfl rfl (l' := #[iv p0, iv p1, iv (3 : Int32), iv (74 : Int32), rv w_GraphicSet_JIS_X_0201_ROMAN, rv w_GraphicSet_JIS_X_0201_ROMAN]) rfl ?_
    show Steps p.tables e below (T2.setTop (mkF m 51 #[iv p0, iv p1, iv (3 : Int32), iv (74 : Int32), rv w_GraphicSet_JIS_X_0201_ROMAN, rv w_GraphicSet_JIS_X_0201_ROMAN] [])) _
    refine XS.aload X2.here hx rfl (hb hby at_51) rfl rfl ?_
    show Steps p.tables e below (T2.setTop (mkF m 53 #[iv p0, iv p1, iv (3 : Int32), iv (74 : Int32), rv w_GraphicSet_JIS_X_0201_ROMAN, rv w_GraphicSet_JIS_X_0201_ROMAN] [(.ref w_GraphicSet_JIS_X_0201_ROMAN)])) _
    refine XS.aload X2.here hx rfl (hb hby at_53) rfl rfl ?_
    show Steps p.tables e below (T2.setTop (mkF m 55 #[iv p0, iv p1, iv (3 : Int32), iv (74 : Int32), rv w_GraphicSet_JIS_X_0201_ROMAN, rv w_GraphicSet_JIS_X_0201_ROMAN] [(.ref w_GraphicSet_JIS_X_0201_ROMAN), (.ref w_GraphicSet_JIS_X_0201_ROMAN)])) _
    refine Jvm.RoadKit.acmp (g := (mkF m 55 #[iv p0, iv p1, iv (3 : Int32), iv (74 : Int32), rv w_GraphicSet_JIS_X_0201_ROMAN, rv w_GraphicSet_JIS_X_0201_ROMAN] [(.ref w_GraphicSet_JIS_X_0201_ROMAN), (.ref w_GraphicSet_JIS_X_0201_ROMAN)])) X2 hx rfl rfl rfl (pc0 := 55) (pc' := 58) (same := true) rfl (hb hby at_55) rfl (decide_eq_true rfl) (by decide) (by decide) ?_
    show Steps p.tables e below (T2.setTop (mkF m 58 #[iv p0, iv p1, iv (3 : Int32), iv (74 : Int32), rv w_GraphicSet_JIS_X_0201_ROMAN, rv w_GraphicSet_JIS_X_0201_ROMAN] [])) _
    refine XS.aload X2.here hx rfl (hb hby at_58) rfl rfl ?_
    show Steps p.tables e below (T2.setTop (mkF m 60 #[iv p0, iv p1, iv (3 : Int32), iv (74 : Int32), rv w_GraphicSet_JIS_X_0201_ROMAN, rv w_GraphicSet_JIS_X_0201_ROMAN] [(.ref w_GraphicSet_JIS_X_0201_ROMAN)])) _
    refine st3.trans ?_
    show Steps p.tables e below (T3.setTop (mkF m 63 #[iv p0, iv p1, iv (3 : Int32), iv (74 : Int32), rv w_GraphicSet_JIS_X_0201_ROMAN, rv w_GraphicSet_JIS_X_0201_ROMAN] [(.int (1 : Int32))])) _
    refine XS.iconst X3.here hx rfl (hb hby at_63) ?_
    show Steps p.tables e below (T3.setTop (mkF m 64 #[iv p0, iv p1, iv (3 : Int32), iv (74 : Int32), rv w_GraphicSet_JIS_X_0201_ROMAN, rv w_GraphicSet_JIS_X_0201_ROMAN] [(.int (1 : Int32)), (.int (1 : Int32))])) _
    refine XS.icmpNo X3.here hx rfl (hb hby at_64) rfl (teq (by decide +kernel : (1 : Int32) = (1 : Int32))).2 ?_
    show Steps p.tables e below (T3.setTop (mkF m 67 #[iv p0, iv p1, iv (3 : Int32), iv (74 : Int32), rv w_GraphicSet_JIS_X_0201_ROMAN, rv w_GraphicSet_JIS_X_0201_ROMAN] [])) _
    refine XS.iconst X3.here hx rfl (hb hby at_67) ?_
    show Steps p.tables e below (T3.setTop (mkF m 68 #[iv p0, iv p1, iv (3 : Int32), iv (74 : Int32), rv w_GraphicSet_JIS_X_0201_ROMAN, rv w_GraphicSet_JIS_X_0201_ROMAN] [(.int (1 : Int32))])) _
    refine XS.goto X3.here hx rfl (pc0 := 68) (pc' := 72) rfl (hb hby at_68) (by decide) (by decide) ?_
    show Steps p.tables e below (T3.setTop (mkF m 72 #[iv p0, iv p1, iv (3 : Int32), iv (74 : Int32), rv w_GraphicSet_JIS_X_0201_ROMAN, rv w_GraphicSet_JIS_X_0201_ROMAN] [(.int (1 : Int32))])) _
    exact retN X3 hx (t := .boolean) Bd.returns (by simp) (hb hby at_72) hr
  · exact ⟨rfl, N3⟩
set_option maxRecDepth 65536 in
set_option maxHeartbeats 40000000 in
theorem rm1_9 (l : Launch) (Z : State) (a0 : Array Value) (hw : ∀ d ∈ tables_1, d.before a0 Z = true) (ws : List Jvm.Cond) (p1 : Int32) (w_GraphicSet_UNREAD_ONE_BYTE : Addr) (h0 : Heap) (n0 : Nat) (Z0 : n0 ≤ h0.size) (hd66 : ¬ ((p1.toInt8.toInt32) = (66 : Int32))) (hd73 : ¬ ((p1.toInt8.toInt32) = (73 : Int32))) (hd74 : ¬ ((p1.toInt8.toInt32) = (74 : Int32))) (S_GraphicSet_UNREAD_ONE_BYTE : Sta Z h0 "com/example/pipewright/pipewright/io/Iso2022Layout$GraphicSet" "UNREAD_ONE_BYTE" "Lcom/example/pipewright/pipewright/io/Iso2022Layout$GraphicSet;" (.ref w_GraphicSet_UNREAD_ONE_BYTE)) :
    MetFree l (⟨"com/example/pipewright/pipewright/io/Iso2022Layout$GraphicSet", "ofOneByte", "(B)Lcom/example/pipewright/pipewright/io/Iso2022Layout$GraphicSet;"⟩ : MethodName) (head1 (Jvm.Cond.code (⟨"com/example/pipewright/pipewright/io/Iso2022Layout$GraphicSet", "ofOneByte", "(B)Lcom/example/pipewright/pipewright/io/Iso2022Layout$GraphicSet;"⟩ : MethodName) prog_24_method_4_code 1 (some (.object "com/example/pipewright/pipewright/io/Iso2022Layout$GraphicSet")) :: ws) ({ frames := 0, cells := 0, slots := 0, locals := 0 } : Room)) (fun a U => a = #[(.int (p1.toInt8.toInt32))] ∧ Z.Warmed39 U.vm ∧ U.heap = h0) (fun _ _ _ _ _ => True) (fun _ U o U' => ∃ v L, o = .returned v ∧ own_QP (some (.ref w_GraphicSet_UNREAD_ONE_BYTE)) h0 n0 v U'.heap L ∧ FrameEnd U o U' L ({ frames := 0, cells := 0, slots := 0, locals := 0 } : Room).cells ({ frames := 0, cells := 0, slots := 0, locals := 0 } : Room).slots) := by
  refine MetFree.of_bodySF (plainFor_of_name pn_0) hisR ?_
  intro p e s m args below meth c s₁ Bd hml0 hP hK
  obtain ⟨rfl, hZ, hh⟩ := hP
  have hx := Bd.exec
  have hby := Bd.bytes
  have hml : c.maxLocals = 1 := hml0
  have hown : s.vm.findClass "com/example/pipewright/pipewright/io/Iso2022Layout$GraphicSet" = some m.cls := findClass_of_methodNamed Bd.named
  have hnm := (name_of_methodNamed Bd.named Bd.method).1
  have X0 : Stand p l e ({ frames := 0, cells := 0, slots := 0, locals := 0 } : Room) s m #[(.int (p1.toInt8.toInt32))] below meth c s₁ [] 0 0 := Stand.of_body Bd
  have e0 : s₁.heap = h0 := by rw [← hh, Bd.state]; rfl
  have N0 := Fr.nil n0
  have pre0 : ∀ t, Steps p.tables e below (s₁.setTop (mkF m 0 #[iv (p1.toInt8.toInt32)] [])) t → Steps p.tables e below (s₁.setTop (entryFrame m #[(.int (p1.toInt8.toInt32))] 1)) t := fun t k => castTop (ef_1_I m (p1.toInt8.toInt32)) k
  obtain ⟨T1, X1, e1, st1⟩ := getS2 X0 hx hZ hown (host := "") (Or.inl (hw _ (List.mem_of_getElem? (i := 24) rfl))) Via.refl e0 S_GraphicSet_UNREAD_ONE_BYTE (g := (mkF m 54 #[iv (p1.toInt8.toInt32)] [])) rfl (hb hby d1_54)
  obtain ⟨fs, hr, hrun, hended, hW, hsame⟩ := X1.leave (v := (some (.ref w_GraphicSet_UNREAD_ONE_BYTE))) (fun h => by rw [Bd.returns] at h; cases h)
  refine ⟨_, _, pre0 _ ?_, hrun, hended, _, _, rfl, ?_, ⟨_, rfl⟩, hW, hsame.mono (by decide) (by decide)⟩
  · show Steps p.tables e below (s₁.setTop (mkF m 0 #[iv (p1.toInt8.toInt32)] [])) _
    refine XS.iloadN X0.here hx rfl (hb hby d1_0) rfl ?_
    show Steps p.tables e below (s₁.setTop (mkF m 1 #[iv (p1.toInt8.toInt32)] [(.int (p1.toInt8.toInt32))])) _
    refine X0.lookupswitchMiss hx (g := (mkF m 1 #[iv (p1.toInt8.toInt32)] [(.int (p1.toInt8.toInt32))])) rfl rfl (hb hby d1_1) (by decide) (own_miss3 hd66 hd73 hd74) (show (0 : Int) ≤ ((1 : Nat) : Int) + 53 from by decide) _ ?_
    show Steps p.tables e below (s₁.setTop (mkF m 54 #[iv (p1.toInt8.toInt32)] [])) _
    refine st1 _ ?_
    show Steps p.tables e below (T1.setTop (mkF m 57 #[iv (p1.toInt8.toInt32)] [(.ref w_GraphicSet_UNREAD_ONE_BYTE)])) _
    exact own_retA X1 hx Bd.returns rfl rfl (hb hby d1_57) hr
  · exact ⟨rfl, N0, e1⟩
set_option maxRecDepth 65536 in
set_option maxHeartbeats 40000000 in
theorem rm2_10 (l : Launch) (Z : State) (a0 : Array Value) (hw : ∀ d ∈ tables_1, d.before a0 Z = true) (ws : List Jvm.Cond) (p1 : Int32) (w_GraphicSet_UNREAD_ONE_BYTE : Addr) (h0 : Heap) (n0 : Nat) (Z0 : n0 ≤ h0.size) (hd66 : ¬ ((p1.toInt8.toInt32) = (66 : Int32))) (hd74 : ¬ ((p1.toInt8.toInt32) = (74 : Int32))) (hd73 : ¬ ((p1.toInt8.toInt32) = (73 : Int32))) (S_GraphicSet_UNREAD_ONE_BYTE : Sta Z h0 "com/example/pipewright/pipewright/io/Iso2022Layout$GraphicSet" "UNREAD_ONE_BYTE" "Lcom/example/pipewright/pipewright/io/Iso2022Layout$GraphicSet;" (.ref w_GraphicSet_UNREAD_ONE_BYTE)) :
    MetFree l (⟨"com/example/pipewright/pipewright/io/GraphicSetOfOneBytePinLaw", "expected", "(B)Lcom/example/pipewright/pipewright/io/Iso2022Layout$GraphicSet;"⟩ : MethodName) (head1 (Jvm.Cond.code (⟨"com/example/pipewright/pipewright/io/GraphicSetOfOneBytePinLaw", "expected", "(B)Lcom/example/pipewright/pipewright/io/Iso2022Layout$GraphicSet;"⟩ : MethodName) method_3_code 2 (some (.object "com/example/pipewright/pipewright/io/Iso2022Layout$GraphicSet")) :: ws) ({ frames := 0, cells := 0, slots := 0, locals := 0 } : Room)) (fun a U => a = #[(.int (p1.toInt8.toInt32))] ∧ Z.Warmed39 U.vm ∧ U.heap = h0) (fun _ _ _ _ _ => True) (fun _ U o U' => ∃ v L, o = .returned v ∧ own_QP (some (.ref w_GraphicSet_UNREAD_ONE_BYTE)) h0 n0 v U'.heap L ∧ FrameEnd U o U' L ({ frames := 0, cells := 0, slots := 0, locals := 0 } : Room).cells ({ frames := 0, cells := 0, slots := 0, locals := 0 } : Room).slots) := by
  refine MetFree.of_bodySF (plainFor_of_name pn_1) hisR ?_
  intro p e s m args below meth c s₁ Bd hml0 hP hK
  obtain ⟨rfl, hZ, hh⟩ := hP
  have hx := Bd.exec
  have hby := Bd.bytes
  have hml : c.maxLocals = 2 := hml0
  have hown : s.vm.findClass "com/example/pipewright/pipewright/io/GraphicSetOfOneBytePinLaw" = some m.cls := findClass_of_methodNamed Bd.named
  have hnm := (name_of_methodNamed Bd.named Bd.method).1
  have X0 : Stand p l e ({ frames := 0, cells := 0, slots := 0, locals := 0 } : Room) s m #[(.int (p1.toInt8.toInt32))] below meth c s₁ [] 0 0 := Stand.of_body Bd
  have e0 : s₁.heap = h0 := by rw [← hh, Bd.state]; rfl
  have N0 := Fr.nil n0
  have pre0 : ∀ t, Steps p.tables e below (s₁.setTop (mkF m 0 #[iv (p1.toInt8.toInt32), .unset] [])) t → Steps p.tables e below (s₁.setTop (entryFrame m #[(.int (p1.toInt8.toInt32))] 2)) t := fun t k => castTop (ef_2_I m (p1.toInt8.toInt32)) k
  obtain ⟨T1, X1, e1, st1⟩ := getS2 X0 hx hZ hown (host := "") (Or.inl (hw _ (List.mem_of_getElem? (i := 26) rfl))) Via.refl e0 S_GraphicSet_UNREAD_ONE_BYTE (g := (mkF m 32 #[iv (p1.toInt8.toInt32), iv (p1.toInt8.toInt32)] [])) rfl (hb hby d2_32)
  obtain ⟨fs, hr, hrun, hended, hW, hsame⟩ := X1.leave (v := (some (.ref w_GraphicSet_UNREAD_ONE_BYTE))) (fun h => by rw [Bd.returns] at h; cases h)
  refine ⟨_, _, pre0 _ ?_, hrun, hended, _, _, rfl, ?_, ⟨_, rfl⟩, hW, hsame.mono (by decide) (by decide)⟩
  · show Steps p.tables e below (s₁.setTop (mkF m 0 #[iv (p1.toInt8.toInt32), .unset] [])) _
    refine XS.iloadN X0.here hx rfl (hb hby d2_0) rfl ?_
    show Steps p.tables e below (s₁.setTop (mkF m 1 #[iv (p1.toInt8.toInt32), .unset] [(.int (p1.toInt8.toInt32))])) _
    refine XS.istoreN X0.here hx rfl (hb hby d2_1) rfl (l' := #[iv (p1.toInt8.toInt32), iv (p1.toInt8.toInt32)]) rfl ?_
    show Steps p.tables e below (s₁.setTop (mkF m 2 #[iv (p1.toInt8.toInt32), iv (p1.toInt8.toInt32)] [])) _
    refine XS.iloadN X0.here hx rfl (hb hby d2_2) rfl ?_
    show Steps p.tables e below (s₁.setTop (mkF m 3 #[iv (p1.toInt8.toInt32), iv (p1.toInt8.toInt32)] [(.int (p1.toInt8.toInt32))])) _
    refine XS.bipush X0.here hx rfl (hb hby d2_3) ?_
    show Steps p.tables e below (s₁.setTop (mkF m 5 #[iv (p1.toInt8.toInt32), iv (p1.toInt8.toInt32)] [(.int (66 : Int32)), (.int (p1.toInt8.toInt32))])) _
    refine XS.icmpYes X0.here hx rfl (pc0 := 5) (pc' := 12) rfl (hb hby d2_5) rfl (feq hd66).2 (by decide) (by decide) ?_
    show Steps p.tables e below (s₁.setTop (mkF m 12 #[iv (p1.toInt8.toInt32), iv (p1.toInt8.toInt32)] [])) _
    refine XS.iloadN X0.here hx rfl (hb hby d2_12) rfl ?_
    show Steps p.tables e below (s₁.setTop (mkF m 13 #[iv (p1.toInt8.toInt32), iv (p1.toInt8.toInt32)] [(.int (p1.toInt8.toInt32))])) _
    refine XS.bipush X0.here hx rfl (hb hby d2_13) ?_
    show Steps p.tables e below (s₁.setTop (mkF m 15 #[iv (p1.toInt8.toInt32), iv (p1.toInt8.toInt32)] [(.int (74 : Int32)), (.int (p1.toInt8.toInt32))])) _
    refine XS.icmpYes X0.here hx rfl (pc0 := 15) (pc' := 22) rfl (hb hby d2_15) rfl (feq hd74).2 (by decide) (by decide) ?_
    show Steps p.tables e below (s₁.setTop (mkF m 22 #[iv (p1.toInt8.toInt32), iv (p1.toInt8.toInt32)] [])) _
    refine XS.iloadN X0.here hx rfl (hb hby d2_22) rfl ?_
    show Steps p.tables e below (s₁.setTop (mkF m 23 #[iv (p1.toInt8.toInt32), iv (p1.toInt8.toInt32)] [(.int (p1.toInt8.toInt32))])) _
    refine XS.bipush X0.here hx rfl (hb hby d2_23) ?_
    show Steps p.tables e below (s₁.setTop (mkF m 25 #[iv (p1.toInt8.toInt32), iv (p1.toInt8.toInt32)] [(.int (73 : Int32)), (.int (p1.toInt8.toInt32))])) _
    refine XS.icmpYes X0.here hx rfl (pc0 := 25) (pc' := 32) rfl (hb hby d2_25) rfl (feq hd73).2 (by decide) (by decide) ?_
    show Steps p.tables e below (s₁.setTop (mkF m 32 #[iv (p1.toInt8.toInt32), iv (p1.toInt8.toInt32)] [])) _
    refine st1 _ ?_
    show Steps p.tables e below (T1.setTop (mkF m 35 #[iv (p1.toInt8.toInt32), iv (p1.toInt8.toInt32)] [(.ref w_GraphicSet_UNREAD_ONE_BYTE)])) _
    exact own_retA X1 hx Bd.returns rfl rfl (hb hby d2_35) hr
  · exact ⟨rfl, N0, e1⟩
set_option maxRecDepth 65536 in
set_option maxHeartbeats 40000000 in
theorem rm3_11 (l : Launch) (Z : State) (a0 : Array Value) (hw : ∀ d ∈ tables_1, d.before a0 Z = true) (ws : List Jvm.Cond) (w_GraphicSet_UNREAD_ONE_BYTE : Addr) (h0 : Heap) (n0 : Nat) (Z0 : n0 ≤ h0.size) (F_w_GraphicSet_UNREAD_ONE_BYTE_width : Fld Z h0 w_GraphicSet_UNREAD_ONE_BYTE "com/example/pipewright/pipewright/io/Iso2022Layout$GraphicSet" "width" "I" (.int (1 : Int32))) :
    MetFree l (⟨"com/example/pipewright/pipewright/io/Iso2022Layout$GraphicSet", "width", "()I"⟩ : MethodName) (head1 (Jvm.Cond.code (⟨"com/example/pipewright/pipewright/io/Iso2022Layout$GraphicSet", "width", "()I"⟩ : MethodName) prog_24_method_6_code 1 (some .int) :: ws) ({ frames := 0, cells := 0, slots := 0, locals := 0 } : Room)) (fun a U => a = #[(.ref w_GraphicSet_UNREAD_ONE_BYTE)] ∧ Z.Warmed39 U.vm ∧ U.heap = h0) (fun _ _ _ _ _ => True) (fun _ U o U' => ∃ v L, o = .returned v ∧ own_QP (some (.int (1 : Int32))) h0 n0 v U'.heap L ∧ FrameEnd U o U' L ({ frames := 0, cells := 0, slots := 0, locals := 0 } : Room).cells ({ frames := 0, cells := 0, slots := 0, locals := 0 } : Room).slots) := by
  refine MetFree.of_bodySF (plainFor_of_name pn_0) hisR ?_
  intro p e s m args below meth c s₁ Bd hml0 hP hK
  obtain ⟨rfl, hZ, hh⟩ := hP
  have hx := Bd.exec
  have hby := Bd.bytes
  have hml : c.maxLocals = 1 := hml0
  have hown : s.vm.findClass "com/example/pipewright/pipewright/io/Iso2022Layout$GraphicSet" = some m.cls := findClass_of_methodNamed Bd.named
  have hnm := (name_of_methodNamed Bd.named Bd.method).1
  have X0 : Stand p l e ({ frames := 0, cells := 0, slots := 0, locals := 0 } : Room) s m #[(.ref w_GraphicSet_UNREAD_ONE_BYTE)] below meth c s₁ [] 0 0 := Stand.of_body Bd
  have e0 : s₁.heap = h0 := by rw [← hh, Bd.state]; rfl
  have N0 := Fr.nil n0
  have pre0 : ∀ t, Steps p.tables e below (s₁.setTop (mkF m 0 #[rv w_GraphicSet_UNREAD_ONE_BYTE] [])) t → Steps p.tables e below (s₁.setTop (entryFrame m #[(.ref w_GraphicSet_UNREAD_ONE_BYTE)] 1)) t := fun t k => castTop (ef_3_R m w_GraphicSet_UNREAD_ONE_BYTE) k
  obtain ⟨T1, X1, e1, st1⟩ := getF X0 hx hZ hown (host := "") (Or.inl (hw _ (List.mem_of_getElem? (i := 16) rfl))) Via.refl e0 F_w_GraphicSet_UNREAD_ONE_BYTE_width (g := (mkF m 1 #[rv w_GraphicSet_UNREAD_ONE_BYTE] [(.ref w_GraphicSet_UNREAD_ONE_BYTE)])) rfl rfl (hb hby d3_1)
  obtain ⟨fs, hr, hrun, hended, hW, hsame⟩ := X1.leave (v := (some (.int (1 : Int32)))) (fun h => by rw [Bd.returns] at h; cases h)
  refine ⟨_, _, pre0 _ ?_, hrun, hended, _, _, rfl, ?_, ⟨_, rfl⟩, hW, hsame.mono (by decide) (by decide)⟩
  · show Steps p.tables e below (s₁.setTop (mkF m 0 #[rv w_GraphicSet_UNREAD_ONE_BYTE] [])) _
    refine XS.aloadN X0.here hx rfl (hb hby d3_0) rfl rfl ?_
    show Steps p.tables e below (s₁.setTop (mkF m 1 #[rv w_GraphicSet_UNREAD_ONE_BYTE] [(.ref w_GraphicSet_UNREAD_ONE_BYTE)])) _
    refine st1 _ ?_
    show Steps p.tables e below (T1.setTop (mkF m 4 #[rv w_GraphicSet_UNREAD_ONE_BYTE] [(.int (1 : Int32))])) _
    exact retI X1 hx Bd.returns (hb hby d3_4) hr
  · exact ⟨rfl, N0, e1⟩
set_option maxRecDepth 65536 in
set_option maxHeartbeats 40000000 in
theorem rm0_6 (l : Launch) (Z : State) (a0 : Array Value) (hw : ∀ d ∈ tables_1, d.before a0 Z = true) (ws : List Jvm.Cond) (p0 : Int32) (p1 : Int32) (w_GraphicSet_UNREAD_ONE_BYTE : Addr) (h0 : Heap) (n0 : Nat) (Z0 : n0 ≤ h0.size) (hk0 : (p0 &&& (3 : Int32)) = (3 : Int32)) (hd66 : ¬ ((p1.toInt8.toInt32) = (66 : Int32))) (hd73 : ¬ ((p1.toInt8.toInt32) = (73 : Int32))) (hd74 : ¬ ((p1.toInt8.toInt32) = (74 : Int32))) (S_GraphicSet_UNREAD_ONE_BYTE : Sta Z h0 "com/example/pipewright/pipewright/io/Iso2022Layout$GraphicSet" "UNREAD_ONE_BYTE" "Lcom/example/pipewright/pipewright/io/Iso2022Layout$GraphicSet;" (.ref w_GraphicSet_UNREAD_ONE_BYTE)) (F_w_GraphicSet_UNREAD_ONE_BYTE_width : Fld Z h0 w_GraphicSet_UNREAD_ONE_BYTE "com/example/pipewright/pipewright/io/Iso2022Layout$GraphicSet" "width" "I" (.int (1 : Int32))) (E_w_GraphicSet_UNREAD_ONE_BYTE : Exa Z h0 w_GraphicSet_UNREAD_ONE_BYTE "com/example/pipewright/pipewright/io/Iso2022Layout$GraphicSet") :
    MetFree l x (head1 (Jvm.Cond.code x code maxLocals ret :: ws) room_1) (fun a U => a = #[(.int p0), (.int p1)] ∧ Z.Warmed39 U.vm ∧ U.heap = h0) (fun _ _ _ _ _ => True) (fun _ U o U' => ∃ v L, o = .returned v ∧ own_QL n0 v U'.heap L ∧ FrameEnd U o U' L room_1.cells room_1.slots) := by
  refine MetFree.of_bodySF (plainFor_of_name pn_1) hisR ?_
  intro p e s m args below meth c s₁ Bd hml0 hP hK
  obtain ⟨rfl, hZ, hh⟩ := hP
  have hx := Bd.exec
  have hby := Bd.bytes
  have hml : c.maxLocals = 6 := hml0
  have hown : s.vm.findClass "com/example/pipewright/pipewright/io/GraphicSetOfOneBytePinLaw" = some m.cls := findClass_of_methodNamed Bd.named
  have hnm := (name_of_methodNamed Bd.named Bd.method).1
  have X0 : Stand p l e room_1 s m #[(.int p0), (.int p1)] below meth c s₁ [] 0 0 := Stand.of_body Bd
  have e0 : s₁.heap = h0 := by rw [← hh, Bd.state]; rfl
  have N0 := Fr.nil n0
  have pre0 : ∀ t, Steps p.tables e below (s₁.setTop (mkF m 0 #[iv p0, iv p1, .unset, .unset, .unset, .unset] [])) t → Steps p.tables e below (s₁.setTop (entryFrame m #[(.int p0), (.int p1)] maxLocals)) t := fun t k => castTop (ef_0_II m p0 p1) k
  obtain ⟨_, _, ⟨T1, L1, k1, n1⟩, -, X1, ⟨Lc1, hQ1, l1, y1, z1⟩, st1⟩ := Jvm.LawKit.callS X0 hx (y := (⟨"com/example/pipewright/pipewright/io/Iso2022Layout$GraphicSet", "ofOneByte", "(B)Lcom/example/pipewright/pipewright/io/Iso2022Layout$GraphicSet;"⟩ : MethodName)) hown (mvT hZ (hw _ (List.mem_of_getElem? (i := 0) rfl))) (mvT hZ (hw _ (List.mem_of_getElem? (i := 1) rfl))) (mvT hZ (hw _ (List.mem_of_getElem? (i := 2) rfl))) (mvT hZ (hw _ (List.mem_of_getElem? (i := 3) rfl))) (by decide) (backOf (W := 0) (rm1_9 l Z a0 hw [] p1 w_GraphicSet_UNREAD_ONE_BYTE h0 n0 Z0 hd66 hd73 hd74 S_GraphicSet_UNREAD_ONE_BYTE) hZ (hw _ (List.mem_of_getElem? (i := 3) rfl)) (hw _ (List.mem_of_getElem? (i := 2) rfl)) (by decide) (by decide)) (g := (mkF m 40 #[iv p0, iv p1, iv (3 : Int32), iv (p1.toInt8.toInt32), .unset, .unset] [(.int (p1.toInt8.toInt32))])) rfl (by rw [hml]; rfl) (argsL := [(.int (p1.toInt8.toInt32))]) (rest := []) (lenOf pd_0 rfl) rfl (by show 2 * 0 + _ ≤ _; exact Nat.le_of_eq rfl) (hb hby at_40) (fun _ _ => ⟨rfl, e0, (by decide : 0 + 0 ≤ _), (by decide : 0 + 0 ≤ _)⟩)
  dsimp only [Pt.U, Pt.locs, Pt.cells, Pt.slots] at X1 l1 y1 z1 st1 hQ1
  subst l1 y1 z1
  obtain ⟨rfl, N1q, e1⟩ := hQ1
  have N1 := Fr.app N0 N1q
  obtain ⟨_, _, ⟨T2, L2, k2, n2⟩, -, X2, ⟨Lc2, hQ2, l2, y2, z2⟩, st2⟩ := Jvm.LawKit.callS X1 hx (y := (⟨"com/example/pipewright/pipewright/io/GraphicSetOfOneBytePinLaw", "expected", "(B)Lcom/example/pipewright/pipewright/io/Iso2022Layout$GraphicSet;"⟩ : MethodName)) hown (mvT hZ (hw _ (List.mem_of_getElem? (i := 6) rfl))) (mvT hZ (hw _ (List.mem_of_getElem? (i := 7) rfl))) (mvT hZ (hw _ (List.mem_of_getElem? (i := 8) rfl))) (mvT hZ (hw _ (List.mem_of_getElem? (i := 9) rfl))) (by decide) (backOf (W := 0) (rm2_10 l Z a0 hw [] p1 w_GraphicSet_UNREAD_ONE_BYTE h0 n0 Z0 hd66 hd74 hd73 S_GraphicSet_UNREAD_ONE_BYTE) hZ (hw _ (List.mem_of_getElem? (i := 9) rfl)) (hw _ (List.mem_of_getElem? (i := 8) rfl)) (by decide) (by decide)) (g := (mkF m 46 #[iv p0, iv p1, iv (3 : Int32), iv (p1.toInt8.toInt32), rv w_GraphicSet_UNREAD_ONE_BYTE, .unset] [(.int (p1.toInt8.toInt32))])) rfl (by rw [hml]; rfl) (argsL := [(.int (p1.toInt8.toInt32))]) (rest := []) (lenOf pd_0 rfl) rfl (by show 2 * 0 + _ ≤ _; exact Nat.le_of_eq rfl) (hb hby at_46) (fun _ _ => ⟨rfl, e1, (by decide : 0 + 0 ≤ _), (by decide : 0 + 0 ≤ _)⟩)
  dsimp only [Pt.U, Pt.locs, Pt.cells, Pt.slots] at X2 l2 y2 z2 st2 hQ2
  subst l2 y2 z2
  obtain ⟨rfl, N2q, e2⟩ := hQ2
  have N2 := Fr.app N1 N2q
  obtain ⟨cq3, kq3, q3a, q3b, q3c⟩ := isOf hZ e2 E_w_GraphicSet_UNREAD_ONE_BYTE
  obtain ⟨_, _, ⟨T3, L3, k3, n3⟩, -, X3, ⟨Lc3, hQ3, l3, y3, z3⟩, st3⟩ := X2.virtualBack hx (y := (⟨"com/example/pipewright/pipewright/io/Iso2022Layout$GraphicSet", "width", "()I"⟩ : MethodName)) (z := (⟨"com/example/pipewright/pipewright/io/Iso2022Layout$GraphicSet", "width", "()I"⟩ : MethodName)) hown (mvT hZ (hw _ (List.mem_of_getElem? (i := 11) rfl))) (mvT hZ (hw _ (List.mem_of_getElem? (i := 12) rfl))) (notFace_of_selects (args := #[]) (mvT hZ (hw _ (List.mem_of_getElem? (i := 14) rfl)))) (mvT hZ (hw _ (List.mem_of_getElem? (i := 14) rfl))) (mvT hZ (hw _ (List.mem_of_getElem? (i := 13) rfl))) (by decide) (backOf (W := 0) (rm3_11 l Z a0 hw [] w_GraphicSet_UNREAD_ONE_BYTE h0 n0 Z0 F_w_GraphicSet_UNREAD_ONE_BYTE_width) hZ (hw _ (List.mem_of_getElem? (i := 15) rfl)) (hw _ (List.mem_of_getElem? (i := 2) rfl)) (by decide) (by decide)) q3a q3c (g := (mkF m 60 #[iv p0, iv p1, iv (3 : Int32), iv (p1.toInt8.toInt32), rv w_GraphicSet_UNREAD_ONE_BYTE, rv w_GraphicSet_UNREAD_ONE_BYTE] [(.ref w_GraphicSet_UNREAD_ONE_BYTE)])) rfl (by rw [hml]; rfl) (Steps.refl _) (argsL := []) (rest := []) (lenOf pd_1 rfl) rfl (by show 2 * 0 + _ ≤ _; exact Nat.le_of_eq rfl) (hb hby at_60) (fun _ _ => ⟨rfl, e2, (by decide : 0 + 0 ≤ _), (by decide : 0 + 0 ≤ _)⟩)
  dsimp only [Pt.U, Pt.locs, Pt.cells, Pt.slots] at X3 l3 y3 z3 st3 hQ3
  subst l3 y3 z3
  obtain ⟨rfl, N3q, e3⟩ := hQ3
  have N3 := Fr.app N2 N3q
  obtain ⟨fs, hr, hrun, hended, hW, hsame⟩ := X3.leave (v := (some (.int (1 : Int32)))) (fun h => by rw [Bd.returns] at h; cases h)
  refine ⟨_, _, pre0 _ ?_, hrun, hended, _, _, rfl, ?_, ⟨_, rfl⟩, hW, hsame.mono (by decide) (by decide)⟩
  · show Steps p.tables e below (s₁.setTop (mkF m 0 #[iv p0, iv p1, .unset, .unset, .unset, .unset] [])) _
    refine XS.iloadN X0.here hx rfl (hb hby at_0) rfl ?_
    show Steps p.tables e below (s₁.setTop (mkF m 1 #[iv p0, iv p1, .unset, .unset, .unset, .unset] [(.int p0)])) _
    refine XS.iconst X0.here hx rfl (hb hby at_1) ?_
    show Steps p.tables e below (s₁.setTop (mkF m 2 #[iv p0, iv p1, .unset, .unset, .unset, .unset] [(.int (3 : Int32)), (.int p0)])) _
    refine XS.iand X0.here hx rfl (hb hby at_2) rfl ?_
    show Steps p.tables e below (s₁.setTop (mkF m 3 #[iv p0, iv p1, .unset, .unset, .unset, .unset] [(.int (p0 &&& (3 : Int32)))])) _
    rewrite [hk0]
    show Steps p.tables e below (s₁.setTop (mkF m 3 #[iv p0, iv p1, .unset, .unset, .unset, .unset] [(.int (3 : Int32))])) _
    refine XS.istoreN X0.here hx rfl (hb hby at_3) rfl (l' := #[iv p0, iv p1, iv (3 : Int32), .unset, .unset, .unset]) rfl ?_
    show Steps p.tables e below (s₁.setTop (mkF m 4 #[iv p0, iv p1, iv (3 : Int32), .unset, .unset, .unset] [])) _
    refine XS.iloadN X0.here hx rfl (hb hby at_4) rfl ?_
    show Steps p.tables e below (s₁.setTop (mkF m 5 #[iv p0, iv p1, iv (3 : Int32), .unset, .unset, .unset] [(.int (3 : Int32))])) _
    refine XS.ifYes X0.here hx rfl (pc0 := 5) (pc' := 14) rfl (hb hby at_5) rfl ((if0 _ _).trans (feq (by decide +kernel : ¬ ((3 : Int32) = (0 : Int32)))).2) (by decide) (by decide) ?_
    show Steps p.tables e below (s₁.setTop (mkF m 14 #[iv p0, iv p1, iv (3 : Int32), .unset, .unset, .unset] [])) _
    refine XS.iloadN X0.here hx rfl (hb hby at_14) rfl ?_
    show Steps p.tables e below (s₁.setTop (mkF m 15 #[iv p0, iv p1, iv (3 : Int32), .unset, .unset, .unset] [(.int (3 : Int32))])) _
    refine XS.iconst X0.here hx rfl (hb hby at_15) ?_
    show Steps p.tables e below (s₁.setTop (mkF m 16 #[iv p0, iv p1, iv (3 : Int32), .unset, .unset, .unset] [(.int (1 : Int32)), (.int (3 : Int32))])) _
    refine XS.icmpYes X0.here hx rfl (pc0 := 16) (pc' := 25) rfl (hb hby at_16) rfl (feq (by decide +kernel : ¬ ((3 : Int32) = (1 : Int32)))).2 (by decide) (by decide) ?_
    show Steps p.tables e below (s₁.setTop (mkF m 25 #[iv p0, iv p1, iv (3 : Int32), .unset, .unset, .unset] [])) _
    refine XS.iloadN X0.here hx rfl (hb hby at_25) rfl ?_
    show Steps p.tables e below (s₁.setTop (mkF m 26 #[iv p0, iv p1, iv (3 : Int32), .unset, .unset, .unset] [(.int (3 : Int32))])) _
    refine XS.iconst X0.here hx rfl (hb hby at_26) ?_
    show Steps p.tables e below (s₁.setTop (mkF m 27 #[iv p0, iv p1, iv (3 : Int32), .unset, .unset, .unset] [(.int (2 : Int32)), (.int (3 : Int32))])) _
    refine XS.icmpYes X0.here hx rfl (pc0 := 27) (pc' := 36) rfl (hb hby at_27) rfl (feq (by decide +kernel : ¬ ((3 : Int32) = (2 : Int32)))).2 (by decide) (by decide) ?_
    show Steps p.tables e below (s₁.setTop (mkF m 36 #[iv p0, iv p1, iv (3 : Int32), .unset, .unset, .unset] [])) _
    refine XS.iloadN X0.here hx rfl (hb hby at_36) rfl ?_
    show Steps p.tables e below (s₁.setTop (mkF m 37 #[iv p0, iv p1, iv (3 : Int32), .unset, .unset, .unset] [(.int p1)])) _
    refine XS.i2b X0.here hx rfl (hb hby at_37) rfl ?_
    show Steps p.tables e below (s₁.setTop (mkF m 38 #[iv p0, iv p1, iv (3 : Int32), .unset, .unset, .unset] [(.int (p1.toInt8.toInt32))])) _
    refine XS.istoreN X0.here hx rfl (hb hby at_38) rfl (l' := #[iv p0, iv p1, iv (3 : Int32), iv (p1.toInt8.toInt32), .unset, .unset]) rfl ?_
    show Steps p.tables e below (s₁.setTop (mkF m 39 #[iv p0, iv p1, iv (3 : Int32), iv (p1.toInt8.toInt32), .unset, .unset] [])) _
    refine XS.iloadN X0.here hx rfl (hb hby at_39) rfl ?_
    show Steps p.tables e below (s₁.setTop (mkF m 40 #[iv p0, iv p1, iv (3 : Int32), iv (p1.toInt8.toInt32), .unset, .unset] [(.int (p1.toInt8.toInt32))])) _
    refine st1 _ ?_
    show Steps p.tables e below (T1.setTop (mkF m 43 #[iv p0, iv p1, iv (3 : Int32), iv (p1.toInt8.toInt32), .unset, .unset] [(.ref w_GraphicSet_UNREAD_ONE_BYTE)])) _
    refine XS.astore X1.here hx rfl (hb hby at_43) rfl rfl (l' := #[iv p0, iv p1, iv (3 : Int32), iv (p1.toInt8.toInt32), rv w_GraphicSet_UNREAD_ONE_BYTE, .unset]) rfl ?_
    show Steps p.tables e below (T1.setTop (mkF m 45 #[iv p0, iv p1, iv (3 : Int32), iv (p1.toInt8.toInt32), rv w_GraphicSet_UNREAD_ONE_BYTE, .unset] [])) _
    refine XS.iloadN X1.here hx rfl (hb hby at_45) rfl ?_
    show Steps p.tables e below (T1.setTop (mkF m 46 #[iv p0, iv p1, iv (3 : Int32), iv (p1.toInt8.toInt32), rv w_GraphicSet_UNREAD_ONE_BYTE, .unset] [(.int (p1.toInt8.toInt32))])) _
    refine st2 _ ?_
    show Steps p.tables e below (T2.setTop (mkF m 49 #[iv p0, iv p1, iv (3 : Int32), iv (p1.toInt8.toInt32), rv w_GraphicSet_UNREAD_ONE_BYTE, .unset] [(.ref w_GraphicSet_UNREAD_ONE_BYTE)])) _
    refine XS.astore X2.here hx rfl (hb hby at_49) rfl rfl (l' := #[iv p0, iv p1, iv (3 : Int32), iv (p1.toInt8.toInt32), rv w_GraphicSet_UNREAD_ONE_BYTE, rv w_GraphicSet_UNREAD_ONE_BYTE]) rfl ?_
    show Steps p.tables e below (T2.setTop (mkF m 51 #[iv p0, iv p1, iv (3 : Int32), iv (p1.toInt8.toInt32), rv w_GraphicSet_UNREAD_ONE_BYTE, rv w_GraphicSet_UNREAD_ONE_BYTE] [])) _
    refine XS.aload X2.here hx rfl (hb hby at_51) rfl rfl ?_
    show Steps p.tables e below (T2.setTop (mkF m 53 #[iv p0, iv p1, iv (3 : Int32), iv (p1.toInt8.toInt32), rv w_GraphicSet_UNREAD_ONE_BYTE, rv w_GraphicSet_UNREAD_ONE_BYTE] [(.ref w_GraphicSet_UNREAD_ONE_BYTE)])) _
    refine XS.aload X2.here hx rfl (hb hby at_53) rfl rfl ?_
    show Steps p.tables e below (T2.setTop (mkF m 55 #[iv p0, iv p1, iv (3 : Int32), iv (p1.toInt8.toInt32), rv w_GraphicSet_UNREAD_ONE_BYTE, rv w_GraphicSet_UNREAD_ONE_BYTE] [(.ref w_GraphicSet_UNREAD_ONE_BYTE), (.ref w_GraphicSet_UNREAD_ONE_BYTE)])) _
    refine Jvm.RoadKit.acmp (g := (mkF m 55 #[iv p0, iv p1, iv (3 : Int32), iv (p1.toInt8.toInt32), rv w_GraphicSet_UNREAD_ONE_BYTE, rv w_GraphicSet_UNREAD_ONE_BYTE] [(.ref w_GraphicSet_UNREAD_ONE_BYTE), (.ref w_GraphicSet_UNREAD_ONE_BYTE)])) X2 hx rfl rfl rfl (pc0 := 55) (pc' := 58) (same := true) rfl (hb hby at_55) rfl (decide_eq_true rfl) (by decide) (by decide) ?_
    show Steps p.tables e below (T2.setTop (mkF m 58 #[iv p0, iv p1, iv (3 : Int32), iv (p1.toInt8.toInt32), rv w_GraphicSet_UNREAD_ONE_BYTE, rv w_GraphicSet_UNREAD_ONE_BYTE] [])) _
    refine XS.aload X2.here hx rfl (hb hby at_58) rfl rfl ?_
    show Steps p.tables e below (T2.setTop (mkF m 60 #[iv p0, iv p1, iv (3 : Int32), iv (p1.toInt8.toInt32), rv w_GraphicSet_UNREAD_ONE_BYTE, rv w_GraphicSet_UNREAD_ONE_BYTE] [(.ref w_GraphicSet_UNREAD_ONE_BYTE)])) _
    refine st3.trans ?_
    show Steps p.tables e below (T3.setTop (mkF m 63 #[iv p0, iv p1, iv (3 : Int32), iv (p1.toInt8.toInt32), rv w_GraphicSet_UNREAD_ONE_BYTE, rv w_GraphicSet_UNREAD_ONE_BYTE] [(.int (1 : Int32))])) _
    refine XS.iconst X3.here hx rfl (hb hby at_63) ?_
    show Steps p.tables e below (T3.setTop (mkF m 64 #[iv p0, iv p1, iv (3 : Int32), iv (p1.toInt8.toInt32), rv w_GraphicSet_UNREAD_ONE_BYTE, rv w_GraphicSet_UNREAD_ONE_BYTE] [(.int (1 : Int32)), (.int (1 : Int32))])) _
    refine XS.icmpNo X3.here hx rfl (hb hby at_64) rfl (teq (by decide +kernel : (1 : Int32) = (1 : Int32))).2 ?_
    show Steps p.tables e below (T3.setTop (mkF m 67 #[iv p0, iv p1, iv (3 : Int32), iv (p1.toInt8.toInt32), rv w_GraphicSet_UNREAD_ONE_BYTE, rv w_GraphicSet_UNREAD_ONE_BYTE] [])) _
    refine XS.iconst X3.here hx rfl (hb hby at_67) ?_
    show Steps p.tables e below (T3.setTop (mkF m 68 #[iv p0, iv p1, iv (3 : Int32), iv (p1.toInt8.toInt32), rv w_GraphicSet_UNREAD_ONE_BYTE, rv w_GraphicSet_UNREAD_ONE_BYTE] [(.int (1 : Int32))])) _
    refine XS.goto X3.here hx rfl (pc0 := 68) (pc' := 72) rfl (hb hby at_68) (by decide) (by decide) ?_
    show Steps p.tables e below (T3.setTop (mkF m 72 #[iv p0, iv p1, iv (3 : Int32), iv (p1.toInt8.toInt32), rv w_GraphicSet_UNREAD_ONE_BYTE, rv w_GraphicSet_UNREAD_ONE_BYTE] [(.int (1 : Int32))])) _
    exact retN X3 hx (t := .boolean) Bd.returns (by simp) (hb hby at_72) hr
  · exact ⟨rfl, N3⟩
theorem rm0 (l : Launch) (Z : State) (a0 : Array Value) (hw : ∀ d ∈ tables_1, d.before a0 Z = true) (ws : List Jvm.Cond) (p0 : Int32) (p1 : Int32) (w_GraphicSet_ASCII : Addr) (w_GraphicSet_JIS_X_0201_KATAKANA : Addr) (w_GraphicSet_JIS_X_0201_ROMAN : Addr) (w_GraphicSet_UNREAD_ONE_BYTE : Addr) (h0 : Heap) (n0 : Nat) (Z0 : n0 ≤ h0.size) (S_GraphicSet_ASCII : Sta Z h0 "com/example/pipewright/pipewright/io/Iso2022Layout$GraphicSet" "ASCII" "Lcom/example/pipewright/pipewright/io/Iso2022Layout$GraphicSet;" (.ref w_GraphicSet_ASCII)) (F_w_GraphicSet_ASCII_width : Fld Z h0 w_GraphicSet_ASCII "com/example/pipewright/pipewright/io/Iso2022Layout$GraphicSet" "width" "I" (.int (1 : Int32))) (E_w_GraphicSet_ASCII : Exa Z h0 w_GraphicSet_ASCII "com/example/pipewright/pipewright/io/Iso2022Layout$GraphicSet") (S_GraphicSet_JIS_X_0201_ROMAN : Sta Z h0 "com/example/pipewright/pipewright/io/Iso2022Layout$GraphicSet" "JIS_X_0201_ROMAN" "Lcom/example/pipewright/pipewright/io/Iso2022Layout$GraphicSet;" (.ref w_GraphicSet_JIS_X_0201_ROMAN)) (F_w_GraphicSet_JIS_X_0201_ROMAN_width : Fld Z h0 w_GraphicSet_JIS_X_0201_ROMAN "com/example/pipewright/pipewright/io/Iso2022Layout$GraphicSet" "width" "I" (.int (1 : Int32))) (E_w_GraphicSet_JIS_X_0201_ROMAN : Exa Z h0 w_GraphicSet_JIS_X_0201_ROMAN "com/example/pipewright/pipewright/io/Iso2022Layout$GraphicSet") (S_GraphicSet_JIS_X_0201_KATAKANA : Sta Z h0 "com/example/pipewright/pipewright/io/Iso2022Layout$GraphicSet" "JIS_X_0201_KATAKANA" "Lcom/example/pipewright/pipewright/io/Iso2022Layout$GraphicSet;" (.ref w_GraphicSet_JIS_X_0201_KATAKANA)) (F_w_GraphicSet_JIS_X_0201_KATAKANA_width : Fld Z h0 w_GraphicSet_JIS_X_0201_KATAKANA "com/example/pipewright/pipewright/io/Iso2022Layout$GraphicSet" "width" "I" (.int (1 : Int32))) (E_w_GraphicSet_JIS_X_0201_KATAKANA : Exa Z h0 w_GraphicSet_JIS_X_0201_KATAKANA "com/example/pipewright/pipewright/io/Iso2022Layout$GraphicSet") (S_GraphicSet_UNREAD_ONE_BYTE : Sta Z h0 "com/example/pipewright/pipewright/io/Iso2022Layout$GraphicSet" "UNREAD_ONE_BYTE" "Lcom/example/pipewright/pipewright/io/Iso2022Layout$GraphicSet;" (.ref w_GraphicSet_UNREAD_ONE_BYTE)) (F_w_GraphicSet_UNREAD_ONE_BYTE_width : Fld Z h0 w_GraphicSet_UNREAD_ONE_BYTE "com/example/pipewright/pipewright/io/Iso2022Layout$GraphicSet" "width" "I" (.int (1 : Int32))) (E_w_GraphicSet_UNREAD_ONE_BYTE : Exa Z h0 w_GraphicSet_UNREAD_ONE_BYTE "com/example/pipewright/pipewright/io/Iso2022Layout$GraphicSet") :
    MetFree l x (head1 (Jvm.Cond.code x code maxLocals ret :: ws) room_1) (fun a U => a = #[(.int p0), (.int p1)] ∧ Z.Warmed39 U.vm ∧ U.heap = h0) (fun _ _ _ _ _ => True) (fun _ U o U' => ∃ v L, o = .returned v ∧ own_QL n0 v U'.heap L ∧ FrameEnd U o U' L room_1.cells room_1.slots) := by
  rcases own_s0 p0 with hk0 | hk0 | hk0 | hk0
  · exact rm0_0 l Z a0 hw ws p0 p1 w_GraphicSet_ASCII h0 n0 Z0 hk0 S_GraphicSet_ASCII F_w_GraphicSet_ASCII_width E_w_GraphicSet_ASCII
  · exact rm0_1 l Z a0 hw ws p0 p1 w_GraphicSet_JIS_X_0201_ROMAN h0 n0 Z0 hk0 S_GraphicSet_JIS_X_0201_ROMAN F_w_GraphicSet_JIS_X_0201_ROMAN_width E_w_GraphicSet_JIS_X_0201_ROMAN
  · exact rm0_2 l Z a0 hw ws p0 p1 w_GraphicSet_JIS_X_0201_KATAKANA h0 n0 Z0 hk0 S_GraphicSet_JIS_X_0201_KATAKANA F_w_GraphicSet_JIS_X_0201_KATAKANA_width E_w_GraphicSet_JIS_X_0201_KATAKANA
  · rcases own_s1 p1 with hd | hd | hd | ⟨hd66, hd73, hd74⟩
    · exact rm0_3 l Z a0 hw ws p0 p1 w_GraphicSet_ASCII h0 n0 Z0 hk0 hd S_GraphicSet_ASCII F_w_GraphicSet_ASCII_width E_w_GraphicSet_ASCII
    · exact rm0_4 l Z a0 hw ws p0 p1 w_GraphicSet_JIS_X_0201_KATAKANA h0 n0 Z0 hk0 hd S_GraphicSet_JIS_X_0201_KATAKANA F_w_GraphicSet_JIS_X_0201_KATAKANA_width E_w_GraphicSet_JIS_X_0201_KATAKANA
    · exact rm0_5 l Z a0 hw ws p0 p1 w_GraphicSet_JIS_X_0201_ROMAN h0 n0 Z0 hk0 hd S_GraphicSet_JIS_X_0201_ROMAN F_w_GraphicSet_JIS_X_0201_ROMAN_width E_w_GraphicSet_JIS_X_0201_ROMAN
    · exact rm0_6 l Z a0 hw ws p0 p1 w_GraphicSet_UNREAD_ONE_BYTE h0 n0 Z0 hk0 hd66 hd73 hd74 S_GraphicSet_UNREAD_ONE_BYTE F_w_GraphicSet_UNREAD_ONE_BYTE_width E_w_GraphicSet_UNREAD_ONE_BYTE
set_option maxRecDepth 65536 in
set_option maxHeartbeats 40000000 in
theorem comes_1 {Post : Tables → Env → Array Value → State → Outcome → State → Prop} (hpost : ∀ tb e args s v u, (limb_1_1.after args s (.returned v) u = true ∧ limb_1_2.after args s (.returned v) u = true ∧ True) → FrameEnd s (.returned v) u (Jvm.fieldLocs frame_1_writes args s ++ Jvm.arrayLocs frame_1_arrays args s ++ Jvm.staticLocs frame_1_statics s) 0 0 → Post tb e args s (.returned v) u) :
    ArmFor flags0 classFile x code maxLocals ret World_1 tables_1 room_1 Calls_1 rest_1 Pre_1 Post := by
  intro l hfl _ _ p e ha hc hk s m args below hf hA hF happ hP
  obtain ⟨hcalls, hrest, hpre⟩ := hP
  obtain ⟨-, -, -, hnamed, -, -, -, hat⟩ := (Spec.applies_iff hf).mp happ
  obtain ⟨hg, hn⟩ := and_e (Cond.before_iff.mp (show (Jvm.Cond.and given_1 narrow_1).before args s = true from hpre))
  obtain ⟨g0, g0r⟩ := and_e hg
  obtain ⟨g1, g1r⟩ := and_e g0r
  obtain ⟨v0, v1, rfl⟩ : ∃ v0 v1 : Value, args = #[v0, v1] := by
    have hs : args.size = 2 := by simpa [Cond.value, given_1] using g0
    obtain ⟨L⟩ := args
    match L, hs with
    | [v0, v1], _ => exact ⟨v0, v1, rfl⟩
  have hw := fun d (hd : d ∈ tables_1) => atoms_spec (ws := Jvm.Cond.code x code maxLocals ret :: tables_1) hat d (List.mem_cons_of_mem _ hd)
  have hfit : Fit s := fun {y c} hc i hi => by
    obtain ⟨ha, rfl⟩ := Array.getElem?_eq_some_iff.mp hc
    have q := List.all_eq_true.mp ((Array.all_eq_true_iff_forall_mem.mp hF) _ (Array.getElem_mem ha)) i (List.mem_range.mpr hi)
    simpa [Array.getElem?_eq_getElem hi] using q
  obtain ⟨p0, ei0⟩ := is_v g1
  obtain rfl : v0 = (.int p0) := Option.some.inj ei0
  obtain ⟨p1, ei1⟩ := is_v g1r
  obtain rfl : v1 = (.int p1) := Option.some.inj ei1
  obtain ⟨n0, n0r⟩ := and_e hn
  obtain ⟨n1, n1r⟩ := and_e n0r
  obtain ⟨n2, n2r⟩ := and_e n1r
  obtain ⟨n3, n3r⟩ := and_e n2r
  obtain ⟨n4, n4r⟩ := and_e n3r
  obtain ⟨n5, n5r⟩ := and_e n4r
  obtain ⟨n6, n6r⟩ := and_e n5r
  obtain ⟨w_GraphicSet_ASCII, ev_w_GraphicSet_ASCII⟩ := exa_v n0
  have S_GraphicSet_ASCII : Sta s s.heap "com/example/pipewright/pipewright/io/Iso2022Layout$GraphicSet" "ASCII" "Lcom/example/pipewright/pipewright/io/Iso2022Layout$GraphicSet;" (.ref w_GraphicSet_ASCII) := Sta.start ev_w_GraphicSet_ASCII (Or.inr ⟨(hw _ (List.mem_of_getElem? (i := 2) rfl)), (hw _ (List.mem_of_getElem? (i := 5) rfl))⟩)
  have E_w_GraphicSet_ASCII : Exa s s.heap w_GraphicSet_ASCII "com/example/pipewright/pipewright/io/Iso2022Layout$GraphicSet" := Exa.start ev_w_GraphicSet_ASCII n0
  obtain ⟨w_GraphicSet_JIS_X_0201_KATAKANA, ev_w_GraphicSet_JIS_X_0201_KATAKANA⟩ := exa_v n2
  have S_GraphicSet_JIS_X_0201_KATAKANA : Sta s s.heap "com/example/pipewright/pipewright/io/Iso2022Layout$GraphicSet" "JIS_X_0201_KATAKANA" "Lcom/example/pipewright/pipewright/io/Iso2022Layout$GraphicSet;" (.ref w_GraphicSet_JIS_X_0201_KATAKANA) := Sta.start ev_w_GraphicSet_JIS_X_0201_KATAKANA (Or.inr ⟨(hw _ (List.mem_of_getElem? (i := 2) rfl)), (hw _ (List.mem_of_getElem? (i := 19) rfl))⟩)
  have E_w_GraphicSet_JIS_X_0201_KATAKANA : Exa s s.heap w_GraphicSet_JIS_X_0201_KATAKANA "com/example/pipewright/pipewright/io/Iso2022Layout$GraphicSet" := Exa.start ev_w_GraphicSet_JIS_X_0201_KATAKANA n2
  obtain ⟨w_GraphicSet_JIS_X_0201_ROMAN, ev_w_GraphicSet_JIS_X_0201_ROMAN⟩ := exa_v n4
  have S_GraphicSet_JIS_X_0201_ROMAN : Sta s s.heap "com/example/pipewright/pipewright/io/Iso2022Layout$GraphicSet" "JIS_X_0201_ROMAN" "Lcom/example/pipewright/pipewright/io/Iso2022Layout$GraphicSet;" (.ref w_GraphicSet_JIS_X_0201_ROMAN) := Sta.start ev_w_GraphicSet_JIS_X_0201_ROMAN (Or.inr ⟨(hw _ (List.mem_of_getElem? (i := 2) rfl)), (hw _ (List.mem_of_getElem? (i := 22) rfl))⟩)
  have E_w_GraphicSet_JIS_X_0201_ROMAN : Exa s s.heap w_GraphicSet_JIS_X_0201_ROMAN "com/example/pipewright/pipewright/io/Iso2022Layout$GraphicSet" := Exa.start ev_w_GraphicSet_JIS_X_0201_ROMAN n4
  obtain ⟨w_GraphicSet_UNREAD_ONE_BYTE, ev_w_GraphicSet_UNREAD_ONE_BYTE⟩ := exa_v n6
  have S_GraphicSet_UNREAD_ONE_BYTE : Sta s s.heap "com/example/pipewright/pipewright/io/Iso2022Layout$GraphicSet" "UNREAD_ONE_BYTE" "Lcom/example/pipewright/pipewright/io/Iso2022Layout$GraphicSet;" (.ref w_GraphicSet_UNREAD_ONE_BYTE) := Sta.start ev_w_GraphicSet_UNREAD_ONE_BYTE (Or.inr ⟨(hw _ (List.mem_of_getElem? (i := 2) rfl)), (hw _ (List.mem_of_getElem? (i := 25) rfl))⟩)
  have E_w_GraphicSet_UNREAD_ONE_BYTE : Exa s s.heap w_GraphicSet_UNREAD_ONE_BYTE "com/example/pipewright/pipewright/io/Iso2022Layout$GraphicSet" := Exa.start ev_w_GraphicSet_UNREAD_ONE_BYTE n6
  have F_w_GraphicSet_ASCII_width : Fld s s.heap w_GraphicSet_ASCII "com/example/pipewright/pipewright/io/Iso2022Layout$GraphicSet" "width" "I" (.int (1 : Int32)) := Fld.start ((fld_at ev_w_GraphicSet_ASCII).symm.trans (own_eqv n1 (Term.int_eval _) (Or.inr ⟨_, rfl⟩)))
  have F_w_GraphicSet_JIS_X_0201_KATAKANA_width : Fld s s.heap w_GraphicSet_JIS_X_0201_KATAKANA "com/example/pipewright/pipewright/io/Iso2022Layout$GraphicSet" "width" "I" (.int (1 : Int32)) := Fld.start ((fld_at ev_w_GraphicSet_JIS_X_0201_KATAKANA).symm.trans (own_eqv n3 (Term.int_eval _) (Or.inr ⟨_, rfl⟩)))
  have F_w_GraphicSet_JIS_X_0201_ROMAN_width : Fld s s.heap w_GraphicSet_JIS_X_0201_ROMAN "com/example/pipewright/pipewright/io/Iso2022Layout$GraphicSet" "width" "I" (.int (1 : Int32)) := Fld.start ((fld_at ev_w_GraphicSet_JIS_X_0201_ROMAN).symm.trans (own_eqv n5 (Term.int_eval _) (Or.inr ⟨_, rfl⟩)))
  have F_w_GraphicSet_UNREAD_ONE_BYTE_width : Fld s s.heap w_GraphicSet_UNREAD_ONE_BYTE "com/example/pipewright/pipewright/io/Iso2022Layout$GraphicSet" "width" "I" (.int (1 : Int32)) := Fld.start ((fld_at ev_w_GraphicSet_UNREAD_ONE_BYTE).symm.trans (own_eqv n6r (Term.int_eval _) (Or.inr ⟨_, rfl⟩)))
  obtain ⟨n, o, h1, h2, h3, _, L, rfl, ⟨rfl, N⟩, hq⟩ := rm0 l s _ hw tables_1 p0 p1 w_GraphicSet_ASCII w_GraphicSet_JIS_X_0201_KATAKANA w_GraphicSet_JIS_X_0201_ROMAN w_GraphicSet_UNREAD_ONE_BYTE s.heap s.heap.size (Nat.le_refl _) S_GraphicSet_ASCII F_w_GraphicSet_ASCII_width E_w_GraphicSet_ASCII S_GraphicSet_JIS_X_0201_ROMAN F_w_GraphicSet_JIS_X_0201_ROMAN_width E_w_GraphicSet_JIS_X_0201_ROMAN S_GraphicSet_JIS_X_0201_KATAKANA F_w_GraphicSet_JIS_X_0201_KATAKANA_width E_w_GraphicSet_JIS_X_0201_KATAKANA S_GraphicSet_UNREAD_ONE_BYTE F_w_GraphicSet_UNREAD_ONE_BYTE_width E_w_GraphicSet_UNREAD_ONE_BYTE p e ha hc hk s m _ below hf ((Spec.applies_iff_loose hf).mp happ).1 ⟨rfl, State.Warmed39.refl s, rfl⟩ trivial
  refine ⟨n, _, h1, h2, h3, hpost _ _ _ _ _ _ ⟨Cond.after_iff.mpr rfl, Cond.after_iff.mpr (eq_i res_at (Term.int_eval (1)) rfl), trivial⟩ ⟨hq.1, hq.2.1, (hq.2.2.sift fun y hy => Or.inr (N y hy)).mono (by decide) (by decide)⟩⟩
theorem main_1_1 : Claimed_1_1 := comes_1 fun _ _ _ _ _ _ h hF => ⟨h.1, hF⟩
theorem main_1_2 : Claimed_1_2 := comes_1 fun _ _ _ _ _ _ h hF => ⟨h.2.1, hF⟩
end Jvm.Pilot.@@N@@
namespace Jvm.Pilot.@@N@@
open Jvm Jvm.ClassFile Sem Op Lib Jvm.Free Jvm.Stand Jvm.Pilot.@@N@@.Jvm.D
/-! MADE BY PROGRAM (witnessworld.py) out of the Statement's table words and the real class files: 12 classes; the members and pool entries that the words name. The judged class is class 1, her method 1. -/
namespace start1
open Jvm.ClassFile
def u (s : String) : CpInfo := .utf8 (stringToUtf16 s)
/-- a pool by its gaps: so many unusable entries, then the entry; so many at the end -/
def gap : Nat → List CpInfo → List CpInfo
  | 0, r => r
  | n + 1, r => .unusable :: gap n r
def poolList (es : List (Nat × CpInfo)) (last : Nat) : List CpInfo := es.foldr (fun e r => gap e.1 (e.2 :: r)) (gap last [])
def pool (es : List (Nat × CpInfo)) (last : Nat) : Array CpInfo := ⟨poolList es last⟩
def fileOf (pool : Array CpInfo) (this : Nat) (attrs : Array Attribute := #[]) (ms : Array MethodInfo := #[]) (fl : Nat := 33) (sup : Nat := 0) (ifs : Array Nat := #[]) (fds : Array FieldInfo := #[]) : ClassFile where
  minorVersion := 0
  majorVersion := 65
  constantPool := pool
  accessFlags := fl
  thisClass := this
  superClass := sup
  interfaces := ifs
  fields := fds
  methods := ms
  attributes := attrs
def plain (name : String) (sup : Option ClassId) : Class where
  name := name
  kind := .ordinary
  loader := none
  accessFlags := 33
  super := sup
  interfaces := #[]
  cf := none
  fields := #[]
  methods := #[]
  instanceTypes := #[]
  staticTypes := #[]
  resolved := #[]
  callSites := []
  init := .initialized
  statics := none
  mirror := none

def pool0 : Array CpInfo := pool [(5, u "<init>"), (0, u "()V"), (1, .class_ 10), (1, u "java/lang/Object")] 113

def k0m0 : Method := { name := "<init>", desc := "()V", sig := { parameters := [], returnType := none }, accessFlags := 1, code := none }
/-- java/lang/Object -/
def k0 : Class := { plain "java/lang/Object" none with
  accessFlags := 33
  interfaces := #[]
  cf := some (fileOf pool0 8 #[] #[{ accessFlags := 1, nameIndex := 5, descriptorIndex := 6, attributes := #[] }] 33 0 #[] #[])
  fields := #[]
  methods := #[k0m0]
  instanceTypes := #[]
  staticTypes := #[]
  resolved := Array.replicate 124 none
  statics := none }

def pool1 : Array CpInfo := pool [(2, .class_ 4), (1, u "java/lang/Object"), (0, u "<init>"), (0, u "()V"), (0, .methodref 8 9), (0, .class_ 10), (0, .nameAndType 11 12), (0, u "com/example/pipewright/pipewright/io/Iso2022Layout$GraphicSet"), (0, u "ofOneByte"), (0, u "(B)Lcom/example/pipewright/pipewright/io/Iso2022Layout$GraphicSet;"), (0, .methodref 14 15), (0, .class_ 16), (0, .nameAndType 17 12), (0, u "com/example/pipewright/pipewright/io/GraphicSetOfOneBytePinLaw"), (0, u "expected"), (0, .methodref 8 19), (0, .nameAndType 20 21), (0, u "width"), (0, u "()I"), (0, .fieldref 8 23), (0, .nameAndType 24 25), (0, u "ASCII"), (0, u "Lcom/example/pipewright/pipewright/io/Iso2022Layout$GraphicSet;"), (0, .fieldref 8 27), (0, .nameAndType 28 25), (0, u "JIS_X_0201_ROMAN"), (0, .fieldref 8 30), (0, .nameAndType 31 25), (0, u "JIS_X_0201_KATAKANA"), (0, .fieldref 8 33), (0, .nameAndType 34 25), (0, u "UNREAD_ONE_BYTE"), (2, u "law"), (0, u "(II)Z")] 7

def k1m0 : Method := { name := "<init>", desc := "()V", sig := { parameters := [], returnType := none }, accessFlags := 1, code := none }
def k1c1 : Code := { maxStack := 2, maxLocals := 6, code := code, exceptionTable := #[], attributes := #[] }
def k1m1 : Method := { name := "law", desc := "(II)Z", sig := { parameters := [.int, .int], returnType := some .boolean }, accessFlags := 9, code := some k1c1 }
def k1c2 : Code := { maxStack := 2, maxLocals := 2, code := method_3_code, exceptionTable := #[], attributes := #[] }
def k1m2 : Method := { name := "expected", desc := "(B)Lcom/example/pipewright/pipewright/io/Iso2022Layout$GraphicSet;", sig := { parameters := [.byte], returnType := some (.object "com/example/pipewright/pipewright/io/Iso2022Layout$GraphicSet") }, accessFlags := 10, code := some k1c2 }
/-- com/example/pipewright/pipewright/io/GraphicSetOfOneBytePinLaw -/
def k1 : Class := { plain "com/example/pipewright/pipewright/io/GraphicSetOfOneBytePinLaw" (some 0) with
  accessFlags := 49
  interfaces := #[]
  cf := some (fileOf pool1 14 #[] #[{ accessFlags := 1, nameIndex := 5, descriptorIndex := 6, attributes := #[] }, { accessFlags := 9, nameIndex := 37, descriptorIndex := 38, attributes := #[] }, { accessFlags := 10, nameIndex := 17, descriptorIndex := 12, attributes := #[] }] 49 2 #[] #[])
  fields := #[]
  methods := #[k1m0, k1m1, k1m2]
  instanceTypes := #[]
  staticTypes := #[]
  resolved := Array.replicate 46 none
  statics := none }

def pool2 : Array CpInfo := pool [(1, .class_ 2), (0, u "java/lang/constant/Constable"), (0, .class_ 4), (0, u "java/lang/Object")] 6

/-- java/lang/constant/Constable -/
def k2 : Class := { plain "java/lang/constant/Constable" (some 0) with
  accessFlags := 1537
  interfaces := #[]
  cf := some (fileOf pool2 1 #[] #[] 1537 3 #[] #[])
  fields := #[]
  methods := #[]
  instanceTypes := #[]
  staticTypes := #[]
  resolved := Array.replicate 11 none
  statics := none }

def pool3 : Array CpInfo := pool [(1, .class_ 2), (0, u "java/lang/Comparable"), (0, .class_ 4), (0, u "java/lang/Object")] 7

/-- java/lang/Comparable -/
def k3 : Class := { plain "java/lang/Comparable" (some 0) with
  accessFlags := 1537
  interfaces := #[]
  cf := some (fileOf pool3 1 #[] #[] 1537 3 #[] #[])
  fields := #[]
  methods := #[]
  instanceTypes := #[]
  staticTypes := #[]
  resolved := Array.replicate 12 none
  statics := none }

def pool4 : Array CpInfo := pool [(1, .class_ 2), (0, u "java/io/Serializable"), (0, .class_ 4), (0, u "java/lang/Object")] 2

/-- java/io/Serializable -/
def k4 : Class := { plain "java/io/Serializable" (some 0) with
  accessFlags := 1537
  interfaces := #[]
  cf := some (fileOf pool4 1 #[] #[] 1537 3 #[] #[])
  fields := #[]
  methods := #[]
  instanceTypes := #[]
  staticTypes := #[]
  resolved := Array.replicate 7 none
  statics := none }

def pool5 : Array CpInfo := pool [(2, .class_ 4), (1, u "java/lang/Enum"), (0, u "name"), (0, u "Ljava/lang/String;"), (2, u "ordinal"), (0, u "I"), (1, .class_ 14), (1, u "java/lang/Object"), (4, u "hash"), (86, .class_ 108), (1, u "java/lang/Enum$EnumDesc"), (2, .class_ 112), (0, u "java/lang/constant/Constable"), (0, .class_ 114), (0, u "java/lang/Comparable"), (0, .class_ 116), (0, u "java/io/Serializable")] 87

/-- java/lang/Enum -/
def k5 : Class := { plain "java/lang/Enum" (some 0) with
  accessFlags := 1057
  interfaces := #[2, 3, 4]
  cf := some (fileOf pool5 2 #[.nestMembers #[106]] #[] 1057 12 #[111, 113, 115] #[{ accessFlags := 18, nameIndex := 5, descriptorIndex := 6, attributes := #[] }, { accessFlags := 18, nameIndex := 9, descriptorIndex := 10, attributes := #[] }, { accessFlags := 2, nameIndex := 19, descriptorIndex := 10, attributes := #[] }])
  fields := #[{ name := "name", type := (.object "java/lang/String"), accessFlags := 18, slot := 0, constantValue := 0 }, { name := "ordinal", type := .int, accessFlags := 18, slot := 1, constantValue := 0 }, { name := "hash", type := .int, accessFlags := 2, slot := 2, constantValue := 0 }]
  methods := #[]
  instanceTypes := #[(.object "java/lang/String"), .int, .int]
  staticTypes := #[]
  resolved := Array.replicate 204 none
  statics := none }

def pool6 : Array CpInfo := pool [(1, .class_ 2), (0, u "com/example/pipewright/pipewright/io/Iso2022Layout"), (0, .class_ 4), (0, u "com/example/pipewright/pipewright/io/Iso2022Layout$GraphicSet"), (0, .fieldref 3 6), (0, .nameAndType 7 8), (0, u "ASCII"), (0, u "Lcom/example/pipewright/pipewright/io/Iso2022Layout$GraphicSet;"), (0, .fieldref 3 10), (0, .nameAndType 11 8), (0, u "JIS_X_0201_ROMAN"), (0, .fieldref 3 13), (0, .nameAndType 14 8), (0, u "JIS_X_0201_KATAKANA"), (0, .fieldref 3 16), (0, .nameAndType 17 8), (0, u "UNREAD_ONE_BYTE"), (2, u "JIS_X_0208"), (2, u "JIS_X_0212"), (2, u "GB_2312"), (2, u "KS_X_1001"), (2, u "CNS_11643_1"), (2, u "CNS_11643_2"), (2, u "CNS_11643_3"), (2, u "CNS_11643_4"), (2, u "CNS_11643_5"), (2, u "CNS_11643_6"), (2, u "CNS_11643_7"), (2, u "UNREAD_TWO_BYTES"), (2, u "$VALUES"), (0, u "[Lcom/example/pipewright/pipewright/io/Iso2022Layout$GraphicSet;"), (6, .class_ 66), (1, u "java/lang/Enum"), (6, .fieldref 3 74), (0, .nameAndType 75 76), (0, u "width"), (0, u "I"), (2, u "eucCharset"), (0, u "Ljava/lang/String;"), (2, u "eucPrefix"), (0, u "[I"), (3, u "()I"), (4, u "codePoints"), (6, u "held"), (109, u "SIDE"), (9, u "ofOneByte"), (0, u "(B)Lcom/example/pipewright/pipewright/io/Iso2022Layout$GraphicSet;")] 15

def k6c0 : Code := { maxStack := 1, maxLocals := 1, code := prog_24_method_4_code, exceptionTable := #[], attributes := #[] }
def k6m0 : Method := { name := "ofOneByte", desc := "(B)Lcom/example/pipewright/pipewright/io/Iso2022Layout$GraphicSet;", sig := { parameters := [.byte], returnType := some (.object "com/example/pipewright/pipewright/io/Iso2022Layout$GraphicSet") }, accessFlags := 8, code := some k6c0 }
def k6c1 : Code := { maxStack := 1, maxLocals := 1, code := prog_24_method_6_code, exceptionTable := #[], attributes := #[] }
def k6m1 : Method := { name := "width", desc := "()I", sig := { parameters := [], returnType := some .int }, accessFlags := 0, code := some k6c1 }
/-- com/example/pipewright/pipewright/io/Iso2022Layout$GraphicSet -/
def k6 : Class := { plain "com/example/pipewright/pipewright/io/Iso2022Layout$GraphicSet" (some 5) with
  accessFlags := 16432
  interfaces := #[]
  cf := some (fileOf pool6 3 #[.nestHost 1] #[{ accessFlags := 8, nameIndex := 220, descriptorIndex := 221, attributes := #[] }, { accessFlags := 0, nameIndex := 75, descriptorIndex := 88, attributes := #[] }] 16432 64 #[] #[{ accessFlags := 16409, nameIndex := 7, descriptorIndex := 8, attributes := #[] }, { accessFlags := 16409, nameIndex := 11, descriptorIndex := 8, attributes := #[] }, { accessFlags := 16409, nameIndex := 14, descriptorIndex := 8, attributes := #[] }, { accessFlags := 16409, nameIndex := 17, descriptorIndex := 8, attributes := #[] }, { accessFlags := 16409, nameIndex := 20, descriptorIndex := 8, attributes := #[] }, { accessFlags := 16409, nameIndex := 23, descriptorIndex := 8, attributes := #[] }, { accessFlags := 16409, nameIndex := 26, descriptorIndex := 8, attributes := #[] }, { accessFlags := 16409, nameIndex := 29, descriptorIndex := 8, attributes := #[] }, { accessFlags := 16409, nameIndex := 32, descriptorIndex := 8, attributes := #[] }, { accessFlags := 16409, nameIndex := 35, descriptorIndex := 8, attributes := #[] }, { accessFlags := 16409, nameIndex := 38, descriptorIndex := 8, attributes := #[] }, { accessFlags := 16409, nameIndex := 41, descriptorIndex := 8, attributes := #[] }, { accessFlags := 16409, nameIndex := 44, descriptorIndex := 8, attributes := #[] }, { accessFlags := 16409, nameIndex := 47, descriptorIndex := 8, attributes := #[] }, { accessFlags := 16409, nameIndex := 50, descriptorIndex := 8, attributes := #[] }, { accessFlags := 16409, nameIndex := 53, descriptorIndex := 8, attributes := #[] }, { accessFlags := 26, nameIndex := 210, descriptorIndex := 76, attributes := #[] }, { accessFlags := 18, nameIndex := 75, descriptorIndex := 76, attributes := #[] }, { accessFlags := 18, nameIndex := 79, descriptorIndex := 80, attributes := #[] }, { accessFlags := 18, nameIndex := 83, descriptorIndex := 84, attributes := #[] }, { accessFlags := 66, nameIndex := 93, descriptorIndex := 84, attributes := #[] }, { accessFlags := 66, nameIndex := 100, descriptorIndex := 84, attributes := #[] }, { accessFlags := 4122, nameIndex := 56, descriptorIndex := 57, attributes := #[] }])
  fields := #[{ name := "ASCII", type := (.object "com/example/pipewright/pipewright/io/Iso2022Layout$GraphicSet"), accessFlags := 16409, slot := 0, constantValue := 0 }, { name := "JIS_X_0201_ROMAN", type := (.object "com/example/pipewright/pipewright/io/Iso2022Layout$GraphicSet"), accessFlags := 16409, slot := 1, constantValue := 0 }, { name := "JIS_X_0201_KATAKANA", type := (.object "com/example/pipewright/pipewright/io/Iso2022Layout$GraphicSet"), accessFlags := 16409, slot := 2, constantValue := 0 }, { name := "UNREAD_ONE_BYTE", type := (.object "com/example/pipewright/pipewright/io/Iso2022Layout$GraphicSet"), accessFlags := 16409, slot := 3, constantValue := 0 }, { name := "JIS_X_0208", type := (.object "com/example/pipewright/pipewright/io/Iso2022Layout$GraphicSet"), accessFlags := 16409, slot := 4, constantValue := 0 }, { name := "JIS_X_0212", type := (.object "com/example/pipewright/pipewright/io/Iso2022Layout$GraphicSet"), accessFlags := 16409, slot := 5, constantValue := 0 }, { name := "GB_2312", type := (.object "com/example/pipewright/pipewright/io/Iso2022Layout$GraphicSet"), accessFlags := 16409, slot := 6, constantValue := 0 }, { name := "KS_X_1001", type := (.object "com/example/pipewright/pipewright/io/Iso2022Layout$GraphicSet"), accessFlags := 16409, slot := 7, constantValue := 0 }, { name := "CNS_11643_1", type := (.object "com/example/pipewright/pipewright/io/Iso2022Layout$GraphicSet"), accessFlags := 16409, slot := 8, constantValue := 0 }, { name := "CNS_11643_2", type := (.object "com/example/pipewright/pipewright/io/Iso2022Layout$GraphicSet"), accessFlags := 16409, slot := 9, constantValue := 0 }, { name := "CNS_11643_3", type := (.object "com/example/pipewright/pipewright/io/Iso2022Layout$GraphicSet"), accessFlags := 16409, slot := 10, constantValue := 0 }, { name := "CNS_11643_4", type := (.object "com/example/pipewright/pipewright/io/Iso2022Layout$GraphicSet"), accessFlags := 16409, slot := 11, constantValue := 0 }, { name := "CNS_11643_5", type := (.object "com/example/pipewright/pipewright/io/Iso2022Layout$GraphicSet"), accessFlags := 16409, slot := 12, constantValue := 0 }, { name := "CNS_11643_6", type := (.object "com/example/pipewright/pipewright/io/Iso2022Layout$GraphicSet"), accessFlags := 16409, slot := 13, constantValue := 0 }, { name := "CNS_11643_7", type := (.object "com/example/pipewright/pipewright/io/Iso2022Layout$GraphicSet"), accessFlags := 16409, slot := 14, constantValue := 0 }, { name := "UNREAD_TWO_BYTES", type := (.object "com/example/pipewright/pipewright/io/Iso2022Layout$GraphicSet"), accessFlags := 16409, slot := 15, constantValue := 0 }, { name := "SIDE", type := .int, accessFlags := 26, slot := 16, constantValue := 0 }, { name := "width", type := .int, accessFlags := 18, slot := 3, constantValue := 0 }, { name := "eucCharset", type := (.object "java/lang/String"), accessFlags := 18, slot := 4, constantValue := 0 }, { name := "eucPrefix", type := (.array .int), accessFlags := 18, slot := 5, constantValue := 0 }, { name := "codePoints", type := (.array .int), accessFlags := 66, slot := 6, constantValue := 0 }, { name := "held", type := (.array .int), accessFlags := 66, slot := 7, constantValue := 0 }, { name := "$VALUES", type := (.array (.object "com/example/pipewright/pipewright/io/Iso2022Layout$GraphicSet")), accessFlags := 4122, slot := 17, constantValue := 0 }]
  methods := #[k6m0, k6m1]
  instanceTypes := #[(.object "java/lang/String"), .int, .int, .int, (.object "java/lang/String"), (.array .int), (.array .int), (.array .int)]
  staticTypes := #[(.object "com/example/pipewright/pipewright/io/Iso2022Layout$GraphicSet"), (.object "com/example/pipewright/pipewright/io/Iso2022Layout$GraphicSet"), (.object "com/example/pipewright/pipewright/io/Iso2022Layout$GraphicSet"), (.object "com/example/pipewright/pipewright/io/Iso2022Layout$GraphicSet"), (.object "com/example/pipewright/pipewright/io/Iso2022Layout$GraphicSet"), (.object "com/example/pipewright/pipewright/io/Iso2022Layout$GraphicSet"), (.object "com/example/pipewright/pipewright/io/Iso2022Layout$GraphicSet"), (.object "com/example/pipewright/pipewright/io/Iso2022Layout$GraphicSet"), (.object "com/example/pipewright/pipewright/io/Iso2022Layout$GraphicSet"), (.object "com/example/pipewright/pipewright/io/Iso2022Layout$GraphicSet"), (.object "com/example/pipewright/pipewright/io/Iso2022Layout$GraphicSet"), (.object "com/example/pipewright/pipewright/io/Iso2022Layout$GraphicSet"), (.object "com/example/pipewright/pipewright/io/Iso2022Layout$GraphicSet"), (.object "com/example/pipewright/pipewright/io/Iso2022Layout$GraphicSet"), (.object "com/example/pipewright/pipewright/io/Iso2022Layout$GraphicSet"), (.object "com/example/pipewright/pipewright/io/Iso2022Layout$GraphicSet"), .int, (.array (.object "com/example/pipewright/pipewright/io/Iso2022Layout$GraphicSet"))]
  resolved := Array.replicate 237 none
  statics := some 0 }

def pool7 : Array CpInfo := pool [(1, u "java/lang/Cloneable"), (0, .class_ 1), (0, u "java/lang/Object"), (0, .class_ 3)] 3

/-- java/lang/Cloneable -/
def k7 : Class := { plain "java/lang/Cloneable" (some 0) with
  accessFlags := 1537
  interfaces := #[]
  cf := some (fileOf pool7 2 #[] #[] 1537 4 #[] #[])
  fields := #[]
  methods := #[]
  instanceTypes := #[]
  staticTypes := #[]
  resolved := Array.replicate 8 none
  statics := none }

/-- the primitive byte -/
def k8 : Class := { plain "byte" none with kind := .primitive 'B', accessFlags := 0x411 }
/-- [B -/
def k9 : Class := { plain "[B" (some 0) with kind := .array 8 .byte, interfaces := #[7, 4], accessFlags := 1041 }

/-- the primitive int -/
def k10 : Class := { plain "int" none with kind := .primitive 'I', accessFlags := 0x411 }
/-- [I -/
def k11 : Class := { plain "[I" (some 0) with kind := .array 10 .int, interfaces := #[7, 4], accessFlags := 1041 }

def heap : Heap := #[{ cls := 6, slots := #[.ref 1, .ref 3, .ref 2, .ref 4, .null, .null, .null, .null, .null, .null, .null, .null, .null, .null, .null, .null, .int 0, .null], vm := .statics 6 },
  { cls := 6, slots := #[.null, .int 0, .int 0, .int 1, .null, .null, .null, .null], vm := .none },
  { cls := 6, slots := #[.null, .int 0, .int 0, .int 1, .null, .null, .null, .null], vm := .none },
  { cls := 6, slots := #[.null, .int 0, .int 0, .int 1, .null, .null, .null, .null], vm := .none },
  { cls := 6, slots := #[.null, .int 0, .int 0, .int 1, .null, .null, .null, .null], vm := .none }]
def classes : Array Class := #[k0, k1, k2, k3, k4, k5, k6, k7, k8, k9, k10, k11]
def interned : List (Array UInt16 × Addr) := []
def slotsUsed : Nat := 50
def theMethod : MethodId := ⟨1, 1⟩
def args0 : Array Value := #[.int 5, .int 9]
def aboutOver (below : List Frame) : State where
  vm := { classes := classes, interned := interned.toArray }
  heap := heap
  slotsUsed := slotsUsed
  threads := #[{ frames := .invoking theMethod args0 :: below }]
def below0 : List Frame := [.native { method := ⟨0, 0⟩, args := #[] }]
def about1 : State := aboutOver below0
def p0 : Program := .bare "" "" ""
def e0 : Env := launch0.env 0 0 0
theorem w_frames : about1.frames = Frame.invoking theMethod args0 :: below0 := rfl
set_option maxRecDepth 65536 in
theorem w_args : argsFit about1.vm theMethod args0 = true := by decide +kernel
set_option maxRecDepth 65536 in
theorem w_heap : heapFits about1 = true := by decide +kernel
set_option maxRecDepth 65536 in
theorem w_runnable : about1.curStatus? = some .runnable := by decide +kernel
set_option maxRecDepth 65536 in
theorem w_alone : about1.alone = true := by decide +kernel
set_option maxRecDepth 65536 in
theorem w_named : about1.methodNamed? x = some theMethod := by decide +kernel
set_option maxRecDepth 65536 in
theorem w_hears : about1.hears theMethod below0 = true := by decide +kernel
set_option maxRecDepth 65536 in
theorem w_ripe : about1.ripe theMethod args0 below0 = true := by decide +kernel
theorem w_running : about1.status = .running := rfl
set_option maxRecDepth 65536 in
theorem w_room : about1.hasRoom e0.platform room_1 = true :=
  launch0.hasRoom_least _ room_1 (by decide +kernel) (by decide +kernel) (by decide +kernel) (by decide +kernel) (by decide +kernel) (by decide +kernel)
theorem allAtoms_all (ts : List Jvm.Cond) (a : Array Jvm.Value) (st : Jvm.State) : (allAtoms ts).before a st = ts.all (fun c => c.before a st) := by
  induction ts with
  | nil => rfl
  | cons c t ih =>
    show (Jvm.Cond.and c (allAtoms t)).before a st = _
    rw [Jvm.Cond.before_and, ih, List.all_cons]
def words1 : List Jvm.Cond := Jvm.Cond.code x code maxLocals ret :: tables_1
/-- a 'code' word, met by the world's own term for the bytes: nothing is compared byte by byte -/
theorem code_word {y : MethodName} {bytes : ByteArray} {mx : Nat} {rt : Option FieldType} {a : Array Value} {s : State} {m : MethodId} {meth : Method} {c : Code} (h1 : s.methodNamed? y = some m) (h2 : s.vm.method? m = some meth) (h3 : meth.code = some c) (h4 : c.code = bytes)
    (h5 : (c.maxLocals == mx && c.exceptionTable.isEmpty && decide (c.maxStack ≤ mostOperands) && decide (meth.sig.returnType = rt) && !meth.locks && decide (parseMethodDescriptor y.desc = some meth.sig)) = true) : (Jvm.Cond.code y bytes mx rt).before a s = true := by
  simp only [Bool.and_eq_true, beq_iff_eq, Bool.not_eq_true', decide_eq_true_eq] at h5
  obtain ⟨⟨⟨⟨⟨g1, g2⟩, g3⟩, g4⟩, g5⟩, g6⟩ := h5
  simp [Cond.before, Cond.holds, Cond.value, h1, h2, h3, h4, g1, g2, g3, g4, g5, g6]
def isCode : Jvm.Cond → Bool
  | .code _ _ _ _ => true
  | _ => false
theorem all_split {L : List Jvm.Cond} {P : Jvm.Cond → Bool} (h1 : L.all (fun c => isCode c || P c) = true) (h2 : ∀ c ∈ L.filter isCode, P c = true) : L.all P = true := by
  refine List.all_eq_true.mpr fun c hc => ?_
  have h := List.all_eq_true.mp h1 c hc
  rcases Bool.eq_false_or_eq_true (isCode c) with hi | hi
  · exact h2 c (List.mem_filter.mpr ⟨hc, hi⟩)
  · simpa [hi] using h
set_option maxRecDepth 65536 in
theorem w_c0 : (Jvm.Cond.code x code maxLocals ret).before args0 about1 = true := code_word (m := ⟨1, 1⟩) (meth := k1m1) (c := k1c1) (by decide +kernel) rfl rfl rfl (by decide +kernel)
set_option maxRecDepth 65536 in
theorem w_c1 : (Jvm.Cond.code ({ cls := "com/example/pipewright/pipewright/io/Iso2022Layout$GraphicSet", name := "ofOneByte", desc := "(B)Lcom/example/pipewright/pipewright/io/Iso2022Layout$GraphicSet;" } : Jvm.MethodName) prog_24_method_4_code (1 : Nat) (Option.some (Jvm.ClassFile.FieldType.object "com/example/pipewright/pipewright/io/Iso2022Layout$GraphicSet"))).before args0 about1 = true := code_word (m := ⟨6, 0⟩) (meth := k6m0) (c := k6c0) (by decide +kernel) rfl rfl rfl (by decide +kernel)
set_option maxRecDepth 65536 in
theorem w_c2 : (Jvm.Cond.code ({ cls := "com/example/pipewright/pipewright/io/GraphicSetOfOneBytePinLaw", name := "expected", desc := "(B)Lcom/example/pipewright/pipewright/io/Iso2022Layout$GraphicSet;" } : Jvm.MethodName) method_3_code (2 : Nat) (Option.some (Jvm.ClassFile.FieldType.object "com/example/pipewright/pipewright/io/Iso2022Layout$GraphicSet"))).before args0 about1 = true := code_word (m := ⟨1, 2⟩) (meth := k1m2) (c := k1c2) (by decide +kernel) rfl rfl rfl (by decide +kernel)
set_option maxRecDepth 65536 in
theorem w_c3 : (Jvm.Cond.code ({ cls := "com/example/pipewright/pipewright/io/Iso2022Layout$GraphicSet", name := "width", desc := "()I" } : Jvm.MethodName) prog_24_method_6_code (1 : Nat) (Option.some Jvm.ClassFile.FieldType.int)).before args0 about1 = true := code_word (m := ⟨6, 1⟩) (meth := k6m1) (c := k6c1) (by decide +kernel) rfl rfl rfl (by decide +kernel)
def codes1 : List Jvm.Cond := [Jvm.Cond.code x code maxLocals ret, Jvm.Cond.code ({ cls := "com/example/pipewright/pipewright/io/Iso2022Layout$GraphicSet", name := "ofOneByte", desc := "(B)Lcom/example/pipewright/pipewright/io/Iso2022Layout$GraphicSet;" } : Jvm.MethodName) prog_24_method_4_code (1 : Nat) (Option.some (Jvm.ClassFile.FieldType.object "com/example/pipewright/pipewright/io/Iso2022Layout$GraphicSet")), Jvm.Cond.code ({ cls := "com/example/pipewright/pipewright/io/GraphicSetOfOneBytePinLaw", name := "expected", desc := "(B)Lcom/example/pipewright/pipewright/io/Iso2022Layout$GraphicSet;" } : Jvm.MethodName) method_3_code (2 : Nat) (Option.some (Jvm.ClassFile.FieldType.object "com/example/pipewright/pipewright/io/Iso2022Layout$GraphicSet")), Jvm.Cond.code ({ cls := "com/example/pipewright/pipewright/io/Iso2022Layout$GraphicSet", name := "width", desc := "()I" } : Jvm.MethodName) prog_24_method_6_code (1 : Nat) (Option.some Jvm.ClassFile.FieldType.int)]
set_option maxRecDepth 65536 in
theorem codes_eq : words1.filter isCode = codes1 := rfl
theorem w_codes : ∀ c ∈ words1.filter isCode, c.before args0 about1 = true := by
  rw [codes_eq]
  intro c hc
  simp only [codes1, List.mem_cons, List.not_mem_nil, or_false] at hc
  rcases hc with rfl | rfl | rfl | rfl
  · exact w_c0
  · exact w_c1
  · exact w_c2
  · exact w_c3
set_option maxRecDepth 65536 in
theorem w_t1 : (words1.take 24).all (fun c => isCode c || c.before args0 about1) = true := by decide +kernel
set_option maxRecDepth 65536 in
theorem w_t2 : (words1.drop 24).all (fun c => isCode c || c.before args0 about1) = true := by decide +kernel
theorem w_tables : (allAtoms (Jvm.Cond.code x code maxLocals ret :: tables_1)).before args0 about1 = true := by
  rw [allAtoms_all]
  show words1.all (fun c => c.before args0 about1) = true
  refine all_split ?_ w_codes
  rw [← List.take_append_drop 24 words1, List.all_append, w_t1, w_t2]
  rfl
set_option maxRecDepth 65536 in
theorem w_case : (Jvm.Cond.and given_1 narrow_1).before args0 about1 = true := by decide +kernel
theorem w_applies : (headSpec (Jvm.Cond.code x code maxLocals ret :: tables_1) room_1).applies x e0.platform about1 = true :=
  (Spec.applies_iff w_frames).mpr ⟨w_running, w_runnable, w_alone, w_named, w_hears, w_ripe, w_room, w_tables⟩
theorem atStart : AtStart classFile x code maxLocals ret World_1 tables_1 room_1 Calls_1 rest_1 Pre_1 launch0 p0 e0 about1 theMethod args0 below0 :=
  ⟨lists_1, trivial, launch0.admits_env _ _ _, launch0.least_env, fairChoices_fair.cas, fairChoices_fair.clock, w_frames, w_args, w_heap, w_applies, trivial, trivial, w_case⟩
end start1
theorem witness_1 : WitnessClaimed_1 := ⟨start1.p0, start1.e0, start1.about1, start1.theMethod, start1.args0, start1.below0, start1.atStart⟩
end Jvm.Pilot.@@N@@
