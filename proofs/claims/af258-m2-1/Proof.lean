import JvmDerived
import JvmDerived.Pilot.@@N@@Statement
import JvmDerived.Pilot.@@N@@Code
set_option linter.unusedVariables false
set_option linter.unusedSimpArgs false
@@BLOCK:NumsL.lean.txt@@
namespace Jvm.RoadKit
open Sem ClassFile Op Lib Jvm.Stand Jvm.Free Jvm.LawKit
section New
variable {p : Program} {l : Launch} {e : Env} {R : Room} {s : State} {m : MethodId} {args : Array Value} {below : List Frame} {meth : Method} {c : Code} {T : State} {locs : List Loc} {cells slots : Nat}
theorem retI (X : Stand p l e R s m args below meth c T locs cells slots) (hx : p.tables.exec = Jvm.exec) {pc : Nat} {Ls : Array Slot} {z : Int32} {rest : List Value} (hret : meth.sig.returnType = some .int) (hd : decode c.code pc = .ok (.ireturn, 1)) {fs : List Frame}
    (hl : ∀ (f : JFrame) (acts : List Action), f.method = m → f.locked = none → f.entered = [] → (doReturn e (T.setTop f) acts (some (.int z))).1 = T.setFrames fs) : Steps p.tables e below (T.setTop (mkF m pc Ls (.int z :: rest))) (T.setFrames fs) := by
  have hm' : T.vm.method? m = some meth := X.method'
  have hn : narrow .int (.int z) = .int z := rfl
  show Steps p.tables e below (T.setTop { method := m, pc := pc, locals := Ls, stack := _ :: rest, locked := none }) _
  jvm_step X.here [X.here.top, hx, hd, hm', hret, hn]
  first | (intro acts; rw [hl _ acts rfl rfl rfl]) | rw [hl _ _ rfl rfl rfl]
  exact Steps.refl _
theorem own_retA (X : Stand p l e R s m args below meth c T locs cells slots) (hx : p.tables.exec = Jvm.exec) {pc : Nat} {Ls : Array Slot} {t : FieldType} {w : Value} {rest : List Value} (hret : meth.sig.returnType = some t) (ht : t.isReference = true) (hw : w.isRef = true) (hd : decode c.code pc = .ok (.areturn, 1)) {fs : List Frame}
    (hl : ∀ (f : JFrame) (acts : List Action), f.method = m → f.locked = none → f.entered = [] → (doReturn e (T.setTop f) acts (some w)).1 = T.setFrames fs) : Steps p.tables e below (T.setTop (mkF m pc Ls (w :: rest))) (T.setFrames fs) :=
  retOut X hx hret (by cases t <;> simp_all [narrow, FieldType.isReference]) (Or.inr (Or.inr (Or.inr (Or.inr ⟨rfl, ht, hw⟩)))) hd hl
end New
end Jvm.RoadKit
namespace Jvm.Pilot.@@N@@
open Jvm Jvm.ClassFile Sem Op Lib Jvm.Free Jvm.Stand Jvm.LawKit Jvm.RoadKit Bundle Jvm.Pilot.@@N@@.Jvm.D
abbrev own_jv (x : Int64) : Slot := .val (.long x)
/-- a callee that leaves the heap as it was and returns r -/
def own_QP (r : Option Value) (h0 : Heap) (n0 : Nat) (v : Option Value) (h : Heap) (L : List Loc) : Prop := v = r ∧ Fr n0 L ∧ h = h0
def own_QL (n0 : Nat) (v : Option Value) (h : Heap) (L : List Loc) : Prop := v = some (.int 1) ∧ Fr n0 L
theorem own_eqv {args : Array Value} {first s : State} {o : Option Outcome} {idx : List Nat} {a b : Term} {x : Value} (h : (Cond.eq a b).value args first o s idx = some true) (hb : b.eval args first o idx s = some x) (hx : x.isRef = true ∨ ∃ n, x = .int n) : a.eval args first o idx s = some x := by
  cases ha : a.eval args first o idx s with
  | none => simp [Cond.value, ha, hb] at h
  | some y =>
    rcases hx with hx | ⟨n, rfl⟩
    · rcases ref_cases hx with rfl | ⟨z, rfl⟩ <;> cases y <;> simp_all [Cond.value]
    · cases y <;> simp_all [Cond.value]
theorem own_len {Z : State} {args : Array Value} {t : Term} {a : Addr} {cl : Cell} {ty : FieldType} {n : Int32} (ev : t.eval args Z none [] Z = some (.ref a)) (A : Arr Z Z.heap a cl ty) (h : (Term.length t).eval args Z none [] Z = some (.int n)) : cl.slots.size < 2 ^ 31 ∧ cl.slots.size.toInt32 = n := by
  have hA : Z.arrayAt? a = some cl := Arr.fin (U := Z) (Vm.Alike.refl _) A
  by_cases q : cl.slots.size < 2 ^ 31
  · rw [len_f ev hA q] at h
    exact ⟨q, Value.int.inj (Option.some.inj h)⟩
  · simp [Term.eval, ev, hA, q] at h
theorem own_nei {a b : Int32} (h : a ≠ b) : (Value.int a) ≠ (Value.int b) := fun q => h (Value.int.inj q)
theorem own_s0 (p : Int32) : ((p &&& (2147483647 : Int32)) % (3 : Int32)) = (0 : Int32) ∨ ((p &&& (2147483647 : Int32)) % (3 : Int32)) = (1 : Int32) ∨ ((p &&& (2147483647 : Int32)) % (3 : Int32)) = (2 : Int32) := by
  have e := Jvm.Kit.i32_mask p 2147483647 (k := 31) (by decide) (by decide)
  have q : ((p &&& (2147483647 : Int32)) % (3 : Int32)).toInt = (p &&& (2147483647 : Int32)).toInt.tmod 3 := Int32.toInt_mod _ _
  rw [Int.tmod_eq_emod_of_nonneg (by omega)] at q
  have h : ((p &&& (2147483647 : Int32)) % (3 : Int32)).toInt = 0 ∨ ((p &&& (2147483647 : Int32)) % (3 : Int32)).toInt = 1 ∨ ((p &&& (2147483647 : Int32)) % (3 : Int32)).toInt = 2 := by omega
  rcases h with h | h | h
  · exact Or.inl (Int32.toInt_inj.mp (h.trans (by decide)))
  · exact Or.inr (Or.inl (Int32.toInt_inj.mp (h.trans (by decide))))
  · exact Or.inr (Or.inr ((Int32.toInt_inj.mp (h.trans (by decide)))))
theorem d1_0 : decode prog_10_method_8_code 0 = .ok (.aload_n 0, 1) := by decide +kernel
theorem d1_1 : decode prog_10_method_8_code 1 = .ok (.getfield 44, 3) := by decide +kernel
theorem d1_4 : decode prog_10_method_8_code 4 = .ok (.ifCond .eq 12, 3) := by decide +kernel
theorem d1_7 : decode prog_10_method_8_code 7 = .ok (.iconst 3, 1) := by decide +kernel
theorem d1_8 : decode prog_10_method_8_code 8 = .ok (.aload_n 0, 1) := by decide +kernel
theorem d1_9 : decode prog_10_method_8_code 9 = .ok (.getfield 40, 3) := by decide +kernel
theorem d1_12 : decode prog_10_method_8_code 12 = .ok (.imul, 1) := by decide +kernel
theorem d1_13 : decode prog_10_method_8_code 13 = .ok (.goto 4, 3) := by decide +kernel
theorem d1_16 : decode prog_10_method_8_code 16 = .ok (.iconst 0, 1) := by decide +kernel
theorem d1_17 : decode prog_10_method_8_code 17 = .ok (.ireturn, 1) := by decide +kernel
theorem d2_0 : decode prog_10_method_7_code 0 = .ok (.aload_n 0, 1) := by decide +kernel
theorem d2_1 : decode prog_10_method_7_code 1 = .ok (.getfield 44, 3) := by decide +kernel
theorem d2_4 : decode prog_10_method_7_code 4 = .ok (.ireturn, 1) := by decide +kernel
theorem d3_0 : decode prog_10_method_6_code 0 = .ok (.aload_n 0, 1) := by decide +kernel
theorem d3_1 : decode prog_10_method_6_code 1 = .ok (.getfield 40, 3) := by decide +kernel
theorem d3_4 : decode prog_10_method_6_code 4 = .ok (.ireturn, 1) := by decide +kernel
theorem pn_0 : plainName "com/example/stile/stile/BenchWorkload" = true := by first | (simp [plainName, overriddenIn]; done) | decide +kernel
theorem pn_1 : plainName "com/example/stile/stile/BenchWorkloadExpectedCountPinLaw" = true := by first | (simp [plainName, overriddenIn]; done) | decide +kernel
theorem pd_0 : parseMethodDescriptor "()I" = some ⟨[], some .int⟩ := by decide +kernel
theorem pd_1 : parseMethodDescriptor "()Z" = some ⟨[], some .boolean⟩ := by decide +kernel
theorem ef_1_R (m : MethodId) (x0 : Addr) : entryFrame m #[(.ref x0)] 1 = mkF m 0 #[rv x0] [] := by first | (simp [entryFrame, mkF, argsToLocals, Value.category]; done) | rfl
theorem ef_2_R (m : MethodId) (x0 : Addr) : entryFrame m #[(.ref x0)] 1 = mkF m 0 #[rv x0] [] := by first | (simp [entryFrame, mkF, argsToLocals, Value.category]; done) | rfl
theorem ef_3_R (m : MethodId) (x0 : Addr) : entryFrame m #[(.ref x0)] 1 = mkF m 0 #[rv x0] [] := by first | (simp [entryFrame, mkF, argsToLocals, Value.category]; done) | rfl
theorem ef_0_I (m : MethodId) (x0 : Int32) : entryFrame m #[(.int x0)] maxLocals = mkF m 0 #[iv x0, .unset, .unset, .unset, .unset, .unset] [] := by first | (simp [entryFrame, mkF, argsToLocals, Value.category, maxLocals]; done) | rfl
set_option maxRecDepth 65536 in
set_option maxHeartbeats 40000000 in
theorem rm1_0 (l : Launch) (Z : State) (a0 : Array Value) (hw : ∀ d ∈ tables_1, d.before a0 Z = true) (ws : List Jvm.Cond) (w_BenchWorkload_INPROC_NOHOLD : Addr) (h0 : Heap) (n0 : Nat) (Z0 : n0 ≤ h0.size) (F_w_BenchWorkload_INPROC_NOHOLD_counts : Fld Z h0 w_BenchWorkload_INPROC_NOHOLD "com/example/stile/stile/BenchWorkload" "counts" "Z" (.int (0 : Int32))) :
    MetFree l (⟨"com/example/stile/stile/BenchWorkload", "expectedCount", "()I"⟩ : MethodName) (head1 (Jvm.Cond.code (⟨"com/example/stile/stile/BenchWorkload", "expectedCount", "()I"⟩ : MethodName) prog_10_method_8_code 1 (some .int) :: ws) ({ frames := 0, cells := 0, slots := 0, locals := 0 } : Room)) (fun a U => a = #[(.ref w_BenchWorkload_INPROC_NOHOLD)] ∧ Z.Warmed39 U.vm ∧ U.heap = h0) (fun _ _ _ _ _ => True) (fun _ U o U' => ∃ v L, o = .returned v ∧ own_QP (some (.int (0 : Int32))) h0 n0 v U'.heap L ∧ FrameEnd U o U' L ({ frames := 0, cells := 0, slots := 0, locals := 0 } : Room).cells ({ frames := 0, cells := 0, slots := 0, locals := 0 } : Room).slots) := by
  refine MetFree.of_bodySF (plainFor_of_name pn_0) hisR ?_
  intro p e s m args below meth c s₁ Bd hml0 hP hK
  obtain ⟨rfl, hZ, hh⟩ := hP
  have hx := Bd.exec
  have hby := Bd.bytes
  have hml : c.maxLocals = 1 := hml0
  have hown : s.vm.findClass "com/example/stile/stile/BenchWorkload" = some m.cls := findClass_of_methodNamed Bd.named
  have hnm := (name_of_methodNamed Bd.named Bd.method).1
  have X0 : Stand p l e ({ frames := 0, cells := 0, slots := 0, locals := 0 } : Room) s m #[(.ref w_BenchWorkload_INPROC_NOHOLD)] below meth c s₁ [] 0 0 := Stand.of_body Bd
  have e0 : s₁.heap = h0 := by rw [← hh, Bd.state]; rfl
  have N0 := Fr.nil n0
  have pre0 : ∀ t, Steps p.tables e below (s₁.setTop (mkF m 0 #[rv w_BenchWorkload_INPROC_NOHOLD] [])) t → Steps p.tables e below (s₁.setTop (entryFrame m #[(.ref w_BenchWorkload_INPROC_NOHOLD)] 1)) t := fun t k => castTop (ef_1_R m w_BenchWorkload_INPROC_NOHOLD) k
  obtain ⟨T1, X1, e1, st1⟩ := getF X0 hx hZ hown (host := "") (Or.inl (hw _ (List.mem_of_getElem? (i := 9) rfl))) Via.refl e0 F_w_BenchWorkload_INPROC_NOHOLD_counts (g := (mkF m 1 #[rv w_BenchWorkload_INPROC_NOHOLD] [(.ref w_BenchWorkload_INPROC_NOHOLD)])) rfl rfl (hb hby d1_1)
  obtain ⟨fs, hr, hrun, hended, hW, hsame⟩ := X1.leave (v := (some (.int (0 : Int32)))) (fun h => by rw [Bd.returns] at h; cases h)
  refine ⟨_, _, pre0 _ ?_, hrun, hended, _, _, rfl, ?_, ⟨_, rfl⟩, hW, hsame.mono (by decide) (by decide)⟩
  · show Steps p.tables e below (s₁.setTop (mkF m 0 #[rv w_BenchWorkload_INPROC_NOHOLD] [])) _
    refine XS.aloadN X0.here hx rfl (hb hby d1_0) rfl rfl ?_
    show Steps p.tables e below (s₁.setTop (mkF m 1 #[rv w_BenchWorkload_INPROC_NOHOLD] [(.ref w_BenchWorkload_INPROC_NOHOLD)])) _
    refine st1 _ ?_
    show Steps p.tables e below (T1.setTop (mkF m 4 #[rv w_BenchWorkload_INPROC_NOHOLD] [(.int (0 : Int32))])) _
    refine XS.ifYes X1.here hx rfl (pc0 := 4) (pc' := 16) rfl (hb hby d1_4) rfl ((if0 _ _).trans (teq (by decide +kernel : (0 : Int32) = (0 : Int32))).1) (by decide) (by decide) ?_
    show Steps p.tables e below (T1.setTop (mkF m 16 #[rv w_BenchWorkload_INPROC_NOHOLD] [])) _
    refine XS.iconst X1.here hx rfl (hb hby d1_16) ?_
    show Steps p.tables e below (T1.setTop (mkF m 17 #[rv w_BenchWorkload_INPROC_NOHOLD] [(.int (0 : Int32))])) _
    exact retI X1 hx Bd.returns (hb hby d1_17) hr
  · exact ⟨rfl, N0, e1⟩
set_option maxRecDepth 65536 in
set_option maxHeartbeats 40000000 in
theorem rm2_1 (l : Launch) (Z : State) (a0 : Array Value) (hw : ∀ d ∈ tables_1, d.before a0 Z = true) (ws : List Jvm.Cond) (w_BenchWorkload_INPROC_NOHOLD : Addr) (h0 : Heap) (n0 : Nat) (Z0 : n0 ≤ h0.size) (F_w_BenchWorkload_INPROC_NOHOLD_counts : Fld Z h0 w_BenchWorkload_INPROC_NOHOLD "com/example/stile/stile/BenchWorkload" "counts" "Z" (.int (0 : Int32))) :
    MetFree l (⟨"com/example/stile/stile/BenchWorkload", "counts", "()Z"⟩ : MethodName) (head1 (Jvm.Cond.code (⟨"com/example/stile/stile/BenchWorkload", "counts", "()Z"⟩ : MethodName) prog_10_method_7_code 1 (some .boolean) :: ws) ({ frames := 0, cells := 0, slots := 0, locals := 0 } : Room)) (fun a U => a = #[(.ref w_BenchWorkload_INPROC_NOHOLD)] ∧ Z.Warmed39 U.vm ∧ U.heap = h0) (fun _ _ _ _ _ => True) (fun _ U o U' => ∃ v L, o = .returned v ∧ own_QP (some (.int (0 : Int32))) h0 n0 v U'.heap L ∧ FrameEnd U o U' L ({ frames := 0, cells := 0, slots := 0, locals := 0 } : Room).cells ({ frames := 0, cells := 0, slots := 0, locals := 0 } : Room).slots) := by
  refine MetFree.of_bodySF (plainFor_of_name pn_0) hisR ?_
  intro p e s m args below meth c s₁ Bd hml0 hP hK
  obtain ⟨rfl, hZ, hh⟩ := hP
  have hx := Bd.exec
  have hby := Bd.bytes
  have hml : c.maxLocals = 1 := hml0
  have hown : s.vm.findClass "com/example/stile/stile/BenchWorkload" = some m.cls := findClass_of_methodNamed Bd.named
  have hnm := (name_of_methodNamed Bd.named Bd.method).1
  have X0 : Stand p l e ({ frames := 0, cells := 0, slots := 0, locals := 0 } : Room) s m #[(.ref w_BenchWorkload_INPROC_NOHOLD)] below meth c s₁ [] 0 0 := Stand.of_body Bd
  have e0 : s₁.heap = h0 := by rw [← hh, Bd.state]; rfl
  have N0 := Fr.nil n0
  have pre0 : ∀ t, Steps p.tables e below (s₁.setTop (mkF m 0 #[rv w_BenchWorkload_INPROC_NOHOLD] [])) t → Steps p.tables e below (s₁.setTop (entryFrame m #[(.ref w_BenchWorkload_INPROC_NOHOLD)] 1)) t := fun t k => castTop (ef_2_R m w_BenchWorkload_INPROC_NOHOLD) k
  obtain ⟨T1, X1, e1, st1⟩ := getF X0 hx hZ hown (host := "") (Or.inl (hw _ (List.mem_of_getElem? (i := 9) rfl))) Via.refl e0 F_w_BenchWorkload_INPROC_NOHOLD_counts (g := (mkF m 1 #[rv w_BenchWorkload_INPROC_NOHOLD] [(.ref w_BenchWorkload_INPROC_NOHOLD)])) rfl rfl (hb hby d2_1)
  obtain ⟨fs, hr, hrun, hended, hW, hsame⟩ := X1.leave (v := (some (.int (0 : Int32)))) (fun h => by rw [Bd.returns] at h; cases h)
  refine ⟨_, _, pre0 _ ?_, hrun, hended, _, _, rfl, ?_, ⟨_, rfl⟩, hW, hsame.mono (by decide) (by decide)⟩
  · show Steps p.tables e below (s₁.setTop (mkF m 0 #[rv w_BenchWorkload_INPROC_NOHOLD] [])) _
    refine XS.aloadN X0.here hx rfl (hb hby d2_0) rfl rfl ?_
    show Steps p.tables e below (s₁.setTop (mkF m 1 #[rv w_BenchWorkload_INPROC_NOHOLD] [(.ref w_BenchWorkload_INPROC_NOHOLD)])) _
    refine st1 _ ?_
    show Steps p.tables e below (T1.setTop (mkF m 4 #[rv w_BenchWorkload_INPROC_NOHOLD] [(.int (0 : Int32))])) _
    exact retN X1 hx (t := .boolean) Bd.returns (by simp) (hb hby d2_4) hr
  · exact ⟨rfl, N0, e1⟩
set_option maxRecDepth 65536 in
set_option maxHeartbeats 40000000 in
theorem rm3_2 (l : Launch) (Z : State) (a0 : Array Value) (hw : ∀ d ∈ tables_1, d.before a0 Z = true) (ws : List Jvm.Cond) (w_BenchWorkload_INPROC_NOHOLD : Addr) (h0 : Heap) (n0 : Nat) (Z0 : n0 ≤ h0.size) (F_w_BenchWorkload_INPROC_NOHOLD_entries : Fld Z h0 w_BenchWorkload_INPROC_NOHOLD "com/example/stile/stile/BenchWorkload" "entries" "I" (.int (500 : Int32))) :
    MetFree l (⟨"com/example/stile/stile/BenchWorkload", "entries", "()I"⟩ : MethodName) (head1 (Jvm.Cond.code (⟨"com/example/stile/stile/BenchWorkload", "entries", "()I"⟩ : MethodName) prog_10_method_6_code 1 (some .int) :: ws) ({ frames := 0, cells := 0, slots := 0, locals := 0 } : Room)) (fun a U => a = #[(.ref w_BenchWorkload_INPROC_NOHOLD)] ∧ Z.Warmed39 U.vm ∧ U.heap = h0) (fun _ _ _ _ _ => True) (fun _ U o U' => ∃ v L, o = .returned v ∧ own_QP (some (.int (500 : Int32))) h0 n0 v U'.heap L ∧ FrameEnd U o U' L ({ frames := 0, cells := 0, slots := 0, locals := 0 } : Room).cells ({ frames := 0, cells := 0, slots := 0, locals := 0 } : Room).slots) := by
  refine MetFree.of_bodySF (plainFor_of_name pn_0) hisR ?_
  intro p e s m args below meth c s₁ Bd hml0 hP hK
  obtain ⟨rfl, hZ, hh⟩ := hP
  have hx := Bd.exec
  have hby := Bd.bytes
  have hml : c.maxLocals = 1 := hml0
  have hown : s.vm.findClass "com/example/stile/stile/BenchWorkload" = some m.cls := findClass_of_methodNamed Bd.named
  have hnm := (name_of_methodNamed Bd.named Bd.method).1
  have X0 : Stand p l e ({ frames := 0, cells := 0, slots := 0, locals := 0 } : Room) s m #[(.ref w_BenchWorkload_INPROC_NOHOLD)] below meth c s₁ [] 0 0 := Stand.of_body Bd
  have e0 : s₁.heap = h0 := by rw [← hh, Bd.state]; rfl
  have N0 := Fr.nil n0
  have pre0 : ∀ t, Steps p.tables e below (s₁.setTop (mkF m 0 #[rv w_BenchWorkload_INPROC_NOHOLD] [])) t → Steps p.tables e below (s₁.setTop (entryFrame m #[(.ref w_BenchWorkload_INPROC_NOHOLD)] 1)) t := fun t k => castTop (ef_3_R m w_BenchWorkload_INPROC_NOHOLD) k
  obtain ⟨T1, X1, e1, st1⟩ := getF X0 hx hZ hown (host := "") (Or.inl (hw _ (List.mem_of_getElem? (i := 21) rfl))) Via.refl e0 F_w_BenchWorkload_INPROC_NOHOLD_entries (g := (mkF m 1 #[rv w_BenchWorkload_INPROC_NOHOLD] [(.ref w_BenchWorkload_INPROC_NOHOLD)])) rfl rfl (hb hby d3_1)
  obtain ⟨fs, hr, hrun, hended, hW, hsame⟩ := X1.leave (v := (some (.int (500 : Int32)))) (fun h => by rw [Bd.returns] at h; cases h)
  refine ⟨_, _, pre0 _ ?_, hrun, hended, _, _, rfl, ?_, ⟨_, rfl⟩, hW, hsame.mono (by decide) (by decide)⟩
  · show Steps p.tables e below (s₁.setTop (mkF m 0 #[rv w_BenchWorkload_INPROC_NOHOLD] [])) _
    refine XS.aloadN X0.here hx rfl (hb hby d3_0) rfl rfl ?_
    show Steps p.tables e below (s₁.setTop (mkF m 1 #[rv w_BenchWorkload_INPROC_NOHOLD] [(.ref w_BenchWorkload_INPROC_NOHOLD)])) _
    refine st1 _ ?_
    show Steps p.tables e below (T1.setTop (mkF m 4 #[rv w_BenchWorkload_INPROC_NOHOLD] [(.int (500 : Int32))])) _
    exact retI X1 hx Bd.returns (hb hby d3_4) hr
  · exact ⟨rfl, N0, e1⟩
set_option maxRecDepth 65536 in
set_option maxHeartbeats 40000000 in
theorem rm0_0 (l : Launch) (Z : State) (a0 : Array Value) (hw : ∀ d ∈ tables_1, d.before a0 Z = true) (ws : List Jvm.Cond) (p0 : Int32) (w_BenchWorkload_INPROC_NOHOLD : Addr) (h0 : Heap) (n0 : Nat) (Z0 : n0 ≤ h0.size) (hk0 : ((p0 &&& (2147483647 : Int32)) % (3 : Int32)) = (0 : Int32)) (S_BenchWorkload_INPROC_NOHOLD : Sta Z h0 "com/example/stile/stile/BenchWorkload" "INPROC_NOHOLD" "Lcom/example/stile/stile/BenchWorkload;" (.ref w_BenchWorkload_INPROC_NOHOLD)) (F_w_BenchWorkload_INPROC_NOHOLD_counts : Fld Z h0 w_BenchWorkload_INPROC_NOHOLD "com/example/stile/stile/BenchWorkload" "counts" "Z" (.int (0 : Int32))) (E_w_BenchWorkload_INPROC_NOHOLD : Exa Z h0 w_BenchWorkload_INPROC_NOHOLD "com/example/stile/stile/BenchWorkload") (F_w_BenchWorkload_INPROC_NOHOLD_entries : Fld Z h0 w_BenchWorkload_INPROC_NOHOLD "com/example/stile/stile/BenchWorkload" "entries" "I" (.int (500 : Int32))) :
    MetFree l x (head1 (Jvm.Cond.code x code maxLocals ret :: ws) room_1) (fun a U => a = #[(.int p0)] ∧ Z.Warmed39 U.vm ∧ U.heap = h0) (fun _ _ _ _ _ => True) (fun _ U o U' => ∃ v L, o = .returned v ∧ own_QL n0 v U'.heap L ∧ FrameEnd U o U' L room_1.cells room_1.slots) := by
  refine MetFree.of_bodySF (plainFor_of_name pn_1) hisR ?_
  intro p e s m args below meth c s₁ Bd hml0 hP hK
  obtain ⟨rfl, hZ, hh⟩ := hP
  have hx := Bd.exec
  have hby := Bd.bytes
  have hml : c.maxLocals = 6 := hml0
  have hown : s.vm.findClass "com/example/stile/stile/BenchWorkloadExpectedCountPinLaw" = some m.cls := findClass_of_methodNamed Bd.named
  have hnm := (name_of_methodNamed Bd.named Bd.method).1
  have X0 : Stand p l e room_1 s m #[(.int p0)] below meth c s₁ [] 0 0 := Stand.of_body Bd
  have e0 : s₁.heap = h0 := by rw [← hh, Bd.state]; rfl
  have N0 := Fr.nil n0
  have pre0 : ∀ t, Steps p.tables e below (s₁.setTop (mkF m 0 #[iv p0, .unset, .unset, .unset, .unset, .unset] [])) t → Steps p.tables e below (s₁.setTop (entryFrame m #[(.int p0)] maxLocals)) t := fun t k => castTop (ef_0_I m p0) k
  obtain ⟨T1, X1, e1, st1⟩ := getS2 X0 hx hZ hown (host := "") (Or.inl (hw _ (List.mem_of_getElem? (i := 1) rfl))) Via.refl e0 S_BenchWorkload_INPROC_NOHOLD (g := (mkF m 11 #[iv p0, iv (0 : Int32), .unset, .unset, .unset, .unset] [])) rfl (hb hby at_11)
  obtain ⟨cq2, kq2, q2a, q2b, q2c⟩ := isOf hZ e1 E_w_BenchWorkload_INPROC_NOHOLD
  obtain ⟨_, _, ⟨T2, L2, k2, n2⟩, -, X2, ⟨Lc2, hQ2, l2, y2, z2⟩, st2⟩ := X1.virtualBack hx (y := (⟨"com/example/stile/stile/BenchWorkload", "expectedCount", "()I"⟩ : MethodName)) (z := (⟨"com/example/stile/stile/BenchWorkload", "expectedCount", "()I"⟩ : MethodName)) hown (mvT hZ (hw _ (List.mem_of_getElem? (i := 4) rfl))) (mvT hZ (hw _ (List.mem_of_getElem? (i := 5) rfl))) (notFace_of_selects (args := #[]) (mvT hZ (hw _ (List.mem_of_getElem? (i := 7) rfl)))) (mvT hZ (hw _ (List.mem_of_getElem? (i := 7) rfl))) (mvT hZ (hw _ (List.mem_of_getElem? (i := 6) rfl))) (by decide) (backOf (W := 0) (rm1_0 l Z a0 hw [] w_BenchWorkload_INPROC_NOHOLD h0 n0 Z0 F_w_BenchWorkload_INPROC_NOHOLD_counts) hZ (hw _ (List.mem_of_getElem? (i := 8) rfl)) (hw _ (List.mem_of_getElem? (i := 2) rfl)) (by decide) (by decide)) q2a q2c (g := (mkF m 45 #[iv p0, iv (0 : Int32), rv w_BenchWorkload_INPROC_NOHOLD, iv (0 : Int32), .unset, .unset] [(.ref w_BenchWorkload_INPROC_NOHOLD)])) rfl (by rw [hml]; rfl) (Steps.refl _) (argsL := []) (rest := []) (lenOf pd_0 rfl) rfl (by show 2 * 0 + _ ≤ _; exact Nat.le_of_eq rfl) (hb hby at_45) (fun _ _ => ⟨rfl, e1, (by decide : 0 + 0 ≤ _), (by decide : 0 + 0 ≤ _)⟩)
  dsimp only [Pt.U, Pt.locs, Pt.cells, Pt.slots] at X2 l2 y2 z2 st2 hQ2
  subst l2 y2 z2
  obtain ⟨rfl, N2q, e2⟩ := hQ2
  have N2 := Fr.app N0 N2q
  obtain ⟨cq3, kq3, q3a, q3b, q3c⟩ := isOf hZ e2 E_w_BenchWorkload_INPROC_NOHOLD
  obtain ⟨_, _, ⟨T3, L3, k3, n3⟩, -, X3, ⟨Lc3, hQ3, l3, y3, z3⟩, st3⟩ := X2.virtualBack hx (y := (⟨"com/example/stile/stile/BenchWorkload", "counts", "()Z"⟩ : MethodName)) (z := (⟨"com/example/stile/stile/BenchWorkload", "counts", "()Z"⟩ : MethodName)) hown (mvT hZ (hw _ (List.mem_of_getElem? (i := 11) rfl))) (mvT hZ (hw _ (List.mem_of_getElem? (i := 12) rfl))) (notFace_of_selects (args := #[]) (mvT hZ (hw _ (List.mem_of_getElem? (i := 14) rfl)))) (mvT hZ (hw _ (List.mem_of_getElem? (i := 14) rfl))) (mvT hZ (hw _ (List.mem_of_getElem? (i := 13) rfl))) (by decide) (backOf (W := 0) (rm2_1 l Z a0 hw [] w_BenchWorkload_INPROC_NOHOLD h0 n0 Z0 F_w_BenchWorkload_INPROC_NOHOLD_counts) hZ (hw _ (List.mem_of_getElem? (i := 15) rfl)) (hw _ (List.mem_of_getElem? (i := 2) rfl)) (by decide) (by decide)) q3a q3c (g := (mkF m 51 #[iv p0, iv (0 : Int32), rv w_BenchWorkload_INPROC_NOHOLD, iv (0 : Int32), iv (0 : Int32), .unset] [(.ref w_BenchWorkload_INPROC_NOHOLD)])) rfl (by rw [hml]; rfl) (Steps.refl _) (argsL := []) (rest := []) (lenOf pd_1 rfl) rfl (by show 2 * 0 + _ ≤ _; exact Nat.le_of_eq rfl) (hb hby at_51) (fun _ _ => ⟨rfl, e2, (by decide : 0 + 0 ≤ _), (by decide : 0 + 0 ≤ _)⟩)
  dsimp only [Pt.U, Pt.locs, Pt.cells, Pt.slots] at X3 l3 y3 z3 st3 hQ3
  subst l3 y3 z3
  obtain ⟨rfl, N3q, e3⟩ := hQ3
  have N3 := Fr.app N2 N3q
  obtain ⟨cq4, kq4, q4a, q4b, q4c⟩ := isOf hZ e3 E_w_BenchWorkload_INPROC_NOHOLD
  obtain ⟨_, _, ⟨T4, L4, k4, n4⟩, -, X4, ⟨Lc4, hQ4, l4, y4, z4⟩, st4⟩ := X3.virtualBack hx (y := (⟨"com/example/stile/stile/BenchWorkload", "entries", "()I"⟩ : MethodName)) (z := (⟨"com/example/stile/stile/BenchWorkload", "entries", "()I"⟩ : MethodName)) hown (mvT hZ (hw _ (List.mem_of_getElem? (i := 16) rfl))) (mvT hZ (hw _ (List.mem_of_getElem? (i := 17) rfl))) (notFace_of_selects (args := #[]) (mvT hZ (hw _ (List.mem_of_getElem? (i := 19) rfl)))) (mvT hZ (hw _ (List.mem_of_getElem? (i := 19) rfl))) (mvT hZ (hw _ (List.mem_of_getElem? (i := 18) rfl))) (by decide) (backOf (W := 2) (rm3_2 l Z a0 hw [] w_BenchWorkload_INPROC_NOHOLD h0 n0 Z0 F_w_BenchWorkload_INPROC_NOHOLD_entries) hZ (hw _ (List.mem_of_getElem? (i := 20) rfl)) (hw _ (List.mem_of_getElem? (i := 2) rfl)) (by decide) (by decide)) q4a q4c (g := (mkF m 77 #[iv p0, iv (0 : Int32), rv w_BenchWorkload_INPROC_NOHOLD, iv (0 : Int32), iv (0 : Int32), iv (0 : Int32)] [(.ref w_BenchWorkload_INPROC_NOHOLD), (.int (0 : Int32)), (.int (0 : Int32))])) rfl (by rw [hml]; rfl) (Steps.refl _) (argsL := []) (rest := [(.int (0 : Int32)), (.int (0 : Int32))]) (lenOf pd_0 rfl) rfl (by show 2 * 0 + _ ≤ _; exact Nat.le_of_eq rfl) (hb hby at_77) (fun _ _ => ⟨rfl, e3, (by decide : 0 + 0 ≤ _), (by decide : 0 + 0 ≤ _)⟩)
  dsimp only [Pt.U, Pt.locs, Pt.cells, Pt.slots] at X4 l4 y4 z4 st4 hQ4
  subst l4 y4 z4
  obtain ⟨rfl, N4q, e4⟩ := hQ4
  have N4 := Fr.app N3 N4q
  obtain ⟨fs, hr, hrun, hended, hW, hsame⟩ := X4.leave (v := (some (.int (1 : Int32)))) (fun h => by rw [Bd.returns] at h; cases h)
  refine ⟨_, _, pre0 _ ?_, hrun, hended, _, _, rfl, ?_, ⟨_, rfl⟩, hW, hsame.mono (by decide) (by decide)⟩
  · show Steps p.tables e below (s₁.setTop (mkF m 0 #[iv p0, .unset, .unset, .unset, .unset, .unset] [])) _
    refine XS.iloadN X0.here hx rfl (hb hby at_0) rfl ?_
    show Steps p.tables e below (s₁.setTop (mkF m 1 #[iv p0, .unset, .unset, .unset, .unset, .unset] [(.int p0)])) _
    refine X0.ldcInt hx hown (mvT hZ (hw _ (List.mem_of_getElem? (i := 0) rfl))) (g := (mkF m 1 #[iv p0, .unset, .unset, .unset, .unset, .unset] [(.int p0)])) rfl (hb hby at_1) _ ?_
    show Steps p.tables e below (s₁.setTop (mkF m 3 #[iv p0, .unset, .unset, .unset, .unset, .unset] [(.int (2147483647 : Int32)), (.int p0)])) _
    refine XS.iand X0.here hx rfl (hb hby at_3) rfl ?_
    show Steps p.tables e below (s₁.setTop (mkF m 4 #[iv p0, .unset, .unset, .unset, .unset, .unset] [(.int (p0 &&& (2147483647 : Int32)))])) _
    refine XS.iconst X0.here hx rfl (hb hby at_4) ?_
    show Steps p.tables e below (s₁.setTop (mkF m 5 #[iv p0, .unset, .unset, .unset, .unset, .unset] [(.int (3 : Int32)), (.int (p0 &&& (2147483647 : Int32)))])) _
    refine iremM X0 hx rfl (hb hby at_5) rfl (by decide) ?_
    show Steps p.tables e below (s₁.setTop (mkF m 6 #[iv p0, .unset, .unset, .unset, .unset, .unset] [(.int ((p0 &&& (2147483647 : Int32)) % (3 : Int32)))])) _
    rewrite [hk0]
    show Steps p.tables e below (s₁.setTop (mkF m 6 #[iv p0, .unset, .unset, .unset, .unset, .unset] [(.int (0 : Int32))])) _
    refine XS.istoreN X0.here hx rfl (hb hby at_6) rfl (l' := #[iv p0, iv (0 : Int32), .unset, .unset, .unset, .unset]) rfl ?_
    show Steps p.tables e below (s₁.setTop (mkF m 7 #[iv p0, iv (0 : Int32), .unset, .unset, .unset, .unset] [])) _
    refine XS.iloadN X0.here hx rfl (hb hby at_7) rfl ?_
    show Steps p.tables e below (s₁.setTop (mkF m 8 #[iv p0, iv (0 : Int32), .unset, .unset, .unset, .unset] [(.int (0 : Int32))])) _
    refine XS.ifNo X0.here hx rfl (hb hby at_8) rfl ((if0 _ _).trans (teq (by decide +kernel : (0 : Int32) = (0 : Int32))).2) ?_
    show Steps p.tables e below (s₁.setTop (mkF m 11 #[iv p0, iv (0 : Int32), .unset, .unset, .unset, .unset] [])) _
    refine st1 _ ?_
    show Steps p.tables e below (T1.setTop (mkF m 14 #[iv p0, iv (0 : Int32), .unset, .unset, .unset, .unset] [(.ref w_BenchWorkload_INPROC_NOHOLD)])) _
    refine XS.astoreN X1.here hx rfl (hb hby at_14) rfl rfl (l' := #[iv p0, iv (0 : Int32), rv w_BenchWorkload_INPROC_NOHOLD, .unset, .unset, .unset]) rfl ?_
    show Steps p.tables e below (T1.setTop (mkF m 15 #[iv p0, iv (0 : Int32), rv w_BenchWorkload_INPROC_NOHOLD, .unset, .unset, .unset] [])) _
    refine XS.iconst X1.here hx rfl (hb hby at_15) ?_
    show Steps p.tables e below (T1.setTop (mkF m 16 #[iv p0, iv (0 : Int32), rv w_BenchWorkload_INPROC_NOHOLD, .unset, .unset, .unset] [(.int (0 : Int32))])) _
    refine XS.istoreN X1.here hx rfl (hb hby at_16) rfl (l' := #[iv p0, iv (0 : Int32), rv w_BenchWorkload_INPROC_NOHOLD, iv (0 : Int32), .unset, .unset]) rfl ?_
    show Steps p.tables e below (T1.setTop (mkF m 17 #[iv p0, iv (0 : Int32), rv w_BenchWorkload_INPROC_NOHOLD, iv (0 : Int32), .unset, .unset] [])) _
    refine XS.goto X1.here hx rfl (pc0 := 17) (pc' := 44) rfl (hb hby at_17) (by decide) (by decide) ?_
    show Steps p.tables e below (T1.setTop (mkF m 44 #[iv p0, iv (0 : Int32), rv w_BenchWorkload_INPROC_NOHOLD, iv (0 : Int32), .unset, .unset] [])) _
    refine XS.aloadN X1.here hx rfl (hb hby at_44) rfl rfl ?_
    show Steps p.tables e below (T1.setTop (mkF m 45 #[iv p0, iv (0 : Int32), rv w_BenchWorkload_INPROC_NOHOLD, iv (0 : Int32), .unset, .unset] [(.ref w_BenchWorkload_INPROC_NOHOLD)])) _
    refine st2.trans ?_
    show Steps p.tables e below (T2.setTop (mkF m 48 #[iv p0, iv (0 : Int32), rv w_BenchWorkload_INPROC_NOHOLD, iv (0 : Int32), .unset, .unset] [(.int (0 : Int32))])) _
    refine XS.istore X2.here hx rfl (hb hby at_48) rfl (l' := #[iv p0, iv (0 : Int32), rv w_BenchWorkload_INPROC_NOHOLD, iv (0 : Int32), iv (0 : Int32), .unset]) rfl ?_
    show Steps p.tables e below (T2.setTop (mkF m 50 #[iv p0, iv (0 : Int32), rv w_BenchWorkload_INPROC_NOHOLD, iv (0 : Int32), iv (0 : Int32), .unset] [])) _
    refine XS.aloadN X2.here hx rfl (hb hby at_50) rfl rfl ?_
    show Steps p.tables e below (T2.setTop (mkF m 51 #[iv p0, iv (0 : Int32), rv w_BenchWorkload_INPROC_NOHOLD, iv (0 : Int32), iv (0 : Int32), .unset] [(.ref w_BenchWorkload_INPROC_NOHOLD)])) _
    refine st3.trans ?_
    show Steps p.tables e below (T3.setTop (mkF m 54 #[iv p0, iv (0 : Int32), rv w_BenchWorkload_INPROC_NOHOLD, iv (0 : Int32), iv (0 : Int32), .unset] [(.int (0 : Int32))])) _
    refine XS.ifYes X3.here hx rfl (pc0 := 54) (pc' := 61) rfl (hb hby at_54) rfl ((if0 _ _).trans (teq (by decide +kernel : (0 : Int32) = (0 : Int32))).1) (by decide) (by decide) ?_
    show Steps p.tables e below (T3.setTop (mkF m 61 #[iv p0, iv (0 : Int32), rv w_BenchWorkload_INPROC_NOHOLD, iv (0 : Int32), iv (0 : Int32), .unset] [])) _
    refine XS.iconst X3.here hx rfl (hb hby at_61) ?_
    show Steps p.tables e below (T3.setTop (mkF m 62 #[iv p0, iv (0 : Int32), rv w_BenchWorkload_INPROC_NOHOLD, iv (0 : Int32), iv (0 : Int32), .unset] [(.int (0 : Int32))])) _
    refine XS.istore X3.here hx rfl (hb hby at_62) rfl (l' := #[iv p0, iv (0 : Int32), rv w_BenchWorkload_INPROC_NOHOLD, iv (0 : Int32), iv (0 : Int32), iv (0 : Int32)]) rfl ?_
    show Steps p.tables e below (T3.setTop (mkF m 64 #[iv p0, iv (0 : Int32), rv w_BenchWorkload_INPROC_NOHOLD, iv (0 : Int32), iv (0 : Int32), iv (0 : Int32)] [])) _
    refine XS.iload X3.here hx rfl (hb hby at_64) rfl ?_
    show Steps p.tables e below (T3.setTop (mkF m 66 #[iv p0, iv (0 : Int32), rv w_BenchWorkload_INPROC_NOHOLD, iv (0 : Int32), iv (0 : Int32), iv (0 : Int32)] [(.int (0 : Int32))])) _
    refine XS.iloadN X3.here hx rfl (hb hby at_66) rfl ?_
    show Steps p.tables e below (T3.setTop (mkF m 67 #[iv p0, iv (0 : Int32), rv w_BenchWorkload_INPROC_NOHOLD, iv (0 : Int32), iv (0 : Int32), iv (0 : Int32)] [(.int (0 : Int32)), (.int (0 : Int32))])) _
    refine XS.icmpNo X3.here hx rfl (hb hby at_67) rfl (teq (by decide +kernel : (0 : Int32) = (0 : Int32))).2 ?_
    show Steps p.tables e below (T3.setTop (mkF m 70 #[iv p0, iv (0 : Int32), rv w_BenchWorkload_INPROC_NOHOLD, iv (0 : Int32), iv (0 : Int32), iv (0 : Int32)] [])) _
    refine XS.iload X3.here hx rfl (hb hby at_70) rfl ?_
    show Steps p.tables e below (T3.setTop (mkF m 72 #[iv p0, iv (0 : Int32), rv w_BenchWorkload_INPROC_NOHOLD, iv (0 : Int32), iv (0 : Int32), iv (0 : Int32)] [(.int (0 : Int32))])) _
    refine XS.iload X3.here hx rfl (hb hby at_72) rfl ?_
    show Steps p.tables e below (T3.setTop (mkF m 74 #[iv p0, iv (0 : Int32), rv w_BenchWorkload_INPROC_NOHOLD, iv (0 : Int32), iv (0 : Int32), iv (0 : Int32)] [(.int (0 : Int32)), (.int (0 : Int32))])) _
    refine XS.iconst X3.here hx rfl (hb hby at_74) ?_
    show Steps p.tables e below (T3.setTop (mkF m 75 #[iv p0, iv (0 : Int32), rv w_BenchWorkload_INPROC_NOHOLD, iv (0 : Int32), iv (0 : Int32), iv (0 : Int32)] [(.int (3 : Int32)), (.int (0 : Int32)), (.int (0 : Int32))])) _
    refine XS.imul X3.here hx rfl (hb hby at_75) rfl ?_
    show Steps p.tables e below (T3.setTop (mkF m 76 #[iv p0, iv (0 : Int32), rv w_BenchWorkload_INPROC_NOHOLD, iv (0 : Int32), iv (0 : Int32), iv (0 : Int32)] [(.int ((0 : Int32) * (3 : Int32))), (.int (0 : Int32))])) _
    rewrite [show ((0 : Int32) * (3 : Int32)) = (0 : Int32) from by decide +kernel]
    show Steps p.tables e below (T3.setTop (mkF m 76 #[iv p0, iv (0 : Int32), rv w_BenchWorkload_INPROC_NOHOLD, iv (0 : Int32), iv (0 : Int32), iv (0 : Int32)] [(.int (0 : Int32)), (.int (0 : Int32))])) _
    refine XS.aloadN X3.here hx rfl (hb hby at_76) rfl rfl ?_
    show Steps p.tables e below (T3.setTop (mkF m 77 #[iv p0, iv (0 : Int32), rv w_BenchWorkload_INPROC_NOHOLD, iv (0 : Int32), iv (0 : Int32), iv (0 : Int32)] [(.ref w_BenchWorkload_INPROC_NOHOLD), (.int (0 : Int32)), (.int (0 : Int32))])) _
    refine st4.trans ?_
    show Steps p.tables e below (T4.setTop (mkF m 80 #[iv p0, iv (0 : Int32), rv w_BenchWorkload_INPROC_NOHOLD, iv (0 : Int32), iv (0 : Int32), iv (0 : Int32)] [(.int (500 : Int32)), (.int (0 : Int32)), (.int (0 : Int32))])) _
    refine XS.imul X4.here hx rfl (hb hby at_80) rfl ?_
    show Steps p.tables e below (T4.setTop (mkF m 81 #[iv p0, iv (0 : Int32), rv w_BenchWorkload_INPROC_NOHOLD, iv (0 : Int32), iv (0 : Int32), iv (0 : Int32)] [(.int ((0 : Int32) * (500 : Int32))), (.int (0 : Int32))])) _
    rewrite [show ((0 : Int32) * (500 : Int32)) = (0 : Int32) from by decide +kernel]
    show Steps p.tables e below (T4.setTop (mkF m 81 #[iv p0, iv (0 : Int32), rv w_BenchWorkload_INPROC_NOHOLD, iv (0 : Int32), iv (0 : Int32), iv (0 : Int32)] [(.int (0 : Int32)), (.int (0 : Int32))])) _
    refine XS.icmpNo X4.here hx rfl (hb hby at_81) rfl (teq (by decide +kernel : (0 : Int32) = (0 : Int32))).2 ?_
    show Steps p.tables e below (T4.setTop (mkF m 84 #[iv p0, iv (0 : Int32), rv w_BenchWorkload_INPROC_NOHOLD, iv (0 : Int32), iv (0 : Int32), iv (0 : Int32)] [])) _
    refine XS.iconst X4.here hx rfl (hb hby at_84) ?_
    show Steps p.tables e below (T4.setTop (mkF m 85 #[iv p0, iv (0 : Int32), rv w_BenchWorkload_INPROC_NOHOLD, iv (0 : Int32), iv (0 : Int32), iv (0 : Int32)] [(.int (1 : Int32))])) _
    refine XS.goto X4.here hx rfl (pc0 := 85) (pc' := 89) rfl (hb hby at_85) (by decide) (by decide) ?_
    show Steps p.tables e below (T4.setTop (mkF m 89 #[iv p0, iv (0 : Int32), rv w_BenchWorkload_INPROC_NOHOLD, iv (0 : Int32), iv (0 : Int32), iv (0 : Int32)] [(.int (1 : Int32))])) _
    exact retN X4 hx (t := .boolean) Bd.returns (by simp) (hb hby at_89) hr
  · exact ⟨rfl, N4⟩
set_option maxRecDepth 65536 in
set_option maxHeartbeats 40000000 in
theorem rm1_3 (l : Launch) (Z : State) (a0 : Array Value) (hw : ∀ d ∈ tables_1, d.before a0 Z = true) (ws : List Jvm.Cond) (w_BenchWorkload_INPROC_HOLD10 : Addr) (h0 : Heap) (n0 : Nat) (Z0 : n0 ≤ h0.size) (F_w_BenchWorkload_INPROC_HOLD10_counts : Fld Z h0 w_BenchWorkload_INPROC_HOLD10 "com/example/stile/stile/BenchWorkload" "counts" "Z" (.int (1 : Int32))) (F_w_BenchWorkload_INPROC_HOLD10_entries : Fld Z h0 w_BenchWorkload_INPROC_HOLD10 "com/example/stile/stile/BenchWorkload" "entries" "I" (.int (50 : Int32))) :
    MetFree l (⟨"com/example/stile/stile/BenchWorkload", "expectedCount", "()I"⟩ : MethodName) (head1 (Jvm.Cond.code (⟨"com/example/stile/stile/BenchWorkload", "expectedCount", "()I"⟩ : MethodName) prog_10_method_8_code 1 (some .int) :: ws) ({ frames := 0, cells := 0, slots := 0, locals := 0 } : Room)) (fun a U => a = #[(.ref w_BenchWorkload_INPROC_HOLD10)] ∧ Z.Warmed39 U.vm ∧ U.heap = h0) (fun _ _ _ _ _ => True) (fun _ U o U' => ∃ v L, o = .returned v ∧ own_QP (some (.int (150 : Int32))) h0 n0 v U'.heap L ∧ FrameEnd U o U' L ({ frames := 0, cells := 0, slots := 0, locals := 0 } : Room).cells ({ frames := 0, cells := 0, slots := 0, locals := 0 } : Room).slots) := by
  refine MetFree.of_bodySF (plainFor_of_name pn_0) hisR ?_
  intro p e s m args below meth c s₁ Bd hml0 hP hK
  obtain ⟨rfl, hZ, hh⟩ := hP
  have hx := Bd.exec
  have hby := Bd.bytes
  have hml : c.maxLocals = 1 := hml0
  have hown : s.vm.findClass "com/example/stile/stile/BenchWorkload" = some m.cls := findClass_of_methodNamed Bd.named
  have hnm := (name_of_methodNamed Bd.named Bd.method).1
  have X0 : Stand p l e ({ frames := 0, cells := 0, slots := 0, locals := 0 } : Room) s m #[(.ref w_BenchWorkload_INPROC_HOLD10)] below meth c s₁ [] 0 0 := Stand.of_body Bd
  have e0 : s₁.heap = h0 := by rw [← hh, Bd.state]; rfl
  have N0 := Fr.nil n0
  have pre0 : ∀ t, Steps p.tables e below (s₁.setTop (mkF m 0 #[rv w_BenchWorkload_INPROC_HOLD10] [])) t → Steps p.tables e below (s₁.setTop (entryFrame m #[(.ref w_BenchWorkload_INPROC_HOLD10)] 1)) t := fun t k => castTop (ef_1_R m w_BenchWorkload_INPROC_HOLD10) k
  obtain ⟨T1, X1, e1, st1⟩ := getF X0 hx hZ hown (host := "") (Or.inl (hw _ (List.mem_of_getElem? (i := 9) rfl))) Via.refl e0 F_w_BenchWorkload_INPROC_HOLD10_counts (g := (mkF m 1 #[rv w_BenchWorkload_INPROC_HOLD10] [(.ref w_BenchWorkload_INPROC_HOLD10)])) rfl rfl (hb hby d1_1)
  obtain ⟨T2, X2, e2, st2⟩ := getF X1 hx hZ hown (host := "") (Or.inl (hw _ (List.mem_of_getElem? (i := 21) rfl))) Via.refl e1 F_w_BenchWorkload_INPROC_HOLD10_entries (g := (mkF m 9 #[rv w_BenchWorkload_INPROC_HOLD10] [(.ref w_BenchWorkload_INPROC_HOLD10), (.int (3 : Int32))])) rfl rfl (hb hby d1_9)
  obtain ⟨fs, hr, hrun, hended, hW, hsame⟩ := X2.leave (v := (some (.int (150 : Int32)))) (fun h => by rw [Bd.returns] at h; cases h)
  refine ⟨_, _, pre0 _ ?_, hrun, hended, _, _, rfl, ?_, ⟨_, rfl⟩, hW, hsame.mono (by decide) (by decide)⟩
  · show Steps p.tables e below (s₁.setTop (mkF m 0 #[rv w_BenchWorkload_INPROC_HOLD10] [])) _
    refine XS.aloadN X0.here hx rfl (hb hby d1_0) rfl rfl ?_
    show Steps p.tables e below (s₁.setTop (mkF m 1 #[rv w_BenchWorkload_INPROC_HOLD10] [(.ref w_BenchWorkload_INPROC_HOLD10)])) _
    refine st1 _ ?_
    show Steps p.tables e below (T1.setTop (mkF m 4 #[rv w_BenchWorkload_INPROC_HOLD10] [(.int (1 : Int32))])) _
    refine XS.ifNo X1.here hx rfl (hb hby d1_4) rfl ((if0 _ _).trans (feq (by decide +kernel : ¬ ((1 : Int32) = (0 : Int32)))).1) ?_
    show Steps p.tables e below (T1.setTop (mkF m 7 #[rv w_BenchWorkload_INPROC_HOLD10] [])) _
    refine XS.iconst X1.here hx rfl (hb hby d1_7) ?_
    show Steps p.tables e below (T1.setTop (mkF m 8 #[rv w_BenchWorkload_INPROC_HOLD10] [(.int (3 : Int32))])) _
    refine XS.aloadN X1.here hx rfl (hb hby d1_8) rfl rfl ?_
    show Steps p.tables e below (T1.setTop (mkF m 9 #[rv w_BenchWorkload_INPROC_HOLD10] [(.ref w_BenchWorkload_INPROC_HOLD10), (.int (3 : Int32))])) _
    refine st2 _ ?_
    show Steps p.tables e below (T2.setTop (mkF m 12 #[rv w_BenchWorkload_INPROC_HOLD10] [(.int (50 : Int32)), (.int (3 : Int32))])) _
    refine XS.imul X2.here hx rfl (hb hby d1_12) rfl ?_
    show Steps p.tables e below (T2.setTop (mkF m 13 #[rv w_BenchWorkload_INPROC_HOLD10] [(.int ((3 : Int32) * (50 : Int32)))])) _
    rewrite [show ((3 : Int32) * (50 : Int32)) = (150 : Int32) from by decide +kernel]
    show Steps p.tables e below (T2.setTop (mkF m 13 #[rv w_BenchWorkload_INPROC_HOLD10] [(.int (150 : Int32))])) _
    refine XS.goto X2.here hx rfl (pc0 := 13) (pc' := 17) rfl (hb hby d1_13) (by decide) (by decide) ?_
    show Steps p.tables e below (T2.setTop (mkF m 17 #[rv w_BenchWorkload_INPROC_HOLD10] [(.int (150 : Int32))])) _
    exact retI X2 hx Bd.returns (hb hby d1_17) hr
  · exact ⟨rfl, N0, e2⟩
set_option maxRecDepth 65536 in
set_option maxHeartbeats 40000000 in
theorem rm2_4 (l : Launch) (Z : State) (a0 : Array Value) (hw : ∀ d ∈ tables_1, d.before a0 Z = true) (ws : List Jvm.Cond) (w_BenchWorkload_INPROC_HOLD10 : Addr) (h0 : Heap) (n0 : Nat) (Z0 : n0 ≤ h0.size) (F_w_BenchWorkload_INPROC_HOLD10_counts : Fld Z h0 w_BenchWorkload_INPROC_HOLD10 "com/example/stile/stile/BenchWorkload" "counts" "Z" (.int (1 : Int32))) :
    MetFree l (⟨"com/example/stile/stile/BenchWorkload", "counts", "()Z"⟩ : MethodName) (head1 (Jvm.Cond.code (⟨"com/example/stile/stile/BenchWorkload", "counts", "()Z"⟩ : MethodName) prog_10_method_7_code 1 (some .boolean) :: ws) ({ frames := 0, cells := 0, slots := 0, locals := 0 } : Room)) (fun a U => a = #[(.ref w_BenchWorkload_INPROC_HOLD10)] ∧ Z.Warmed39 U.vm ∧ U.heap = h0) (fun _ _ _ _ _ => True) (fun _ U o U' => ∃ v L, o = .returned v ∧ own_QP (some (.int (1 : Int32))) h0 n0 v U'.heap L ∧ FrameEnd U o U' L ({ frames := 0, cells := 0, slots := 0, locals := 0 } : Room).cells ({ frames := 0, cells := 0, slots := 0, locals := 0 } : Room).slots) := by
  refine MetFree.of_bodySF (plainFor_of_name pn_0) hisR ?_
  intro p e s m args below meth c s₁ Bd hml0 hP hK
  obtain ⟨rfl, hZ, hh⟩ := hP
  have hx := Bd.exec
  have hby := Bd.bytes
  have hml : c.maxLocals = 1 := hml0
  have hown : s.vm.findClass "com/example/stile/stile/BenchWorkload" = some m.cls := findClass_of_methodNamed Bd.named
  have hnm := (name_of_methodNamed Bd.named Bd.method).1
  have X0 : Stand p l e ({ frames := 0, cells := 0, slots := 0, locals := 0 } : Room) s m #[(.ref w_BenchWorkload_INPROC_HOLD10)] below meth c s₁ [] 0 0 := Stand.of_body Bd
  have e0 : s₁.heap = h0 := by rw [← hh, Bd.state]; rfl
  have N0 := Fr.nil n0
  have pre0 : ∀ t, Steps p.tables e below (s₁.setTop (mkF m 0 #[rv w_BenchWorkload_INPROC_HOLD10] [])) t → Steps p.tables e below (s₁.setTop (entryFrame m #[(.ref w_BenchWorkload_INPROC_HOLD10)] 1)) t := fun t k => castTop (ef_2_R m w_BenchWorkload_INPROC_HOLD10) k
  obtain ⟨T1, X1, e1, st1⟩ := getF X0 hx hZ hown (host := "") (Or.inl (hw _ (List.mem_of_getElem? (i := 9) rfl))) Via.refl e0 F_w_BenchWorkload_INPROC_HOLD10_counts (g := (mkF m 1 #[rv w_BenchWorkload_INPROC_HOLD10] [(.ref w_BenchWorkload_INPROC_HOLD10)])) rfl rfl (hb hby d2_1)
  obtain ⟨fs, hr, hrun, hended, hW, hsame⟩ := X1.leave (v := (some (.int (1 : Int32)))) (fun h => by rw [Bd.returns] at h; cases h)
  refine ⟨_, _, pre0 _ ?_, hrun, hended, _, _, rfl, ?_, ⟨_, rfl⟩, hW, hsame.mono (by decide) (by decide)⟩
  · show Steps p.tables e below (s₁.setTop (mkF m 0 #[rv w_BenchWorkload_INPROC_HOLD10] [])) _
    refine XS.aloadN X0.here hx rfl (hb hby d2_0) rfl rfl ?_
    show Steps p.tables e below (s₁.setTop (mkF m 1 #[rv w_BenchWorkload_INPROC_HOLD10] [(.ref w_BenchWorkload_INPROC_HOLD10)])) _
    refine st1 _ ?_
    show Steps p.tables e below (T1.setTop (mkF m 4 #[rv w_BenchWorkload_INPROC_HOLD10] [(.int (1 : Int32))])) _
    exact retN X1 hx (t := .boolean) Bd.returns (by simp) (hb hby d2_4) hr
  · exact ⟨rfl, N0, e1⟩
set_option maxRecDepth 65536 in
set_option maxHeartbeats 40000000 in
theorem rm3_5 (l : Launch) (Z : State) (a0 : Array Value) (hw : ∀ d ∈ tables_1, d.before a0 Z = true) (ws : List Jvm.Cond) (w_BenchWorkload_INPROC_HOLD10 : Addr) (h0 : Heap) (n0 : Nat) (Z0 : n0 ≤ h0.size) (F_w_BenchWorkload_INPROC_HOLD10_entries : Fld Z h0 w_BenchWorkload_INPROC_HOLD10 "com/example/stile/stile/BenchWorkload" "entries" "I" (.int (50 : Int32))) :
    MetFree l (⟨"com/example/stile/stile/BenchWorkload", "entries", "()I"⟩ : MethodName) (head1 (Jvm.Cond.code (⟨"com/example/stile/stile/BenchWorkload", "entries", "()I"⟩ : MethodName) prog_10_method_6_code 1 (some .int) :: ws) ({ frames := 0, cells := 0, slots := 0, locals := 0 } : Room)) (fun a U => a = #[(.ref w_BenchWorkload_INPROC_HOLD10)] ∧ Z.Warmed39 U.vm ∧ U.heap = h0) (fun _ _ _ _ _ => True) (fun _ U o U' => ∃ v L, o = .returned v ∧ own_QP (some (.int (50 : Int32))) h0 n0 v U'.heap L ∧ FrameEnd U o U' L ({ frames := 0, cells := 0, slots := 0, locals := 0 } : Room).cells ({ frames := 0, cells := 0, slots := 0, locals := 0 } : Room).slots) := by
  refine MetFree.of_bodySF (plainFor_of_name pn_0) hisR ?_
  intro p e s m args below meth c s₁ Bd hml0 hP hK
  obtain ⟨rfl, hZ, hh⟩ := hP
  have hx := Bd.exec
  have hby := Bd.bytes
  have hml : c.maxLocals = 1 := hml0
  have hown : s.vm.findClass "com/example/stile/stile/BenchWorkload" = some m.cls := findClass_of_methodNamed Bd.named
  have hnm := (name_of_methodNamed Bd.named Bd.method).1
  have X0 : Stand p l e ({ frames := 0, cells := 0, slots := 0, locals := 0 } : Room) s m #[(.ref w_BenchWorkload_INPROC_HOLD10)] below meth c s₁ [] 0 0 := Stand.of_body Bd
  have e0 : s₁.heap = h0 := by rw [← hh, Bd.state]; rfl
  have N0 := Fr.nil n0
  have pre0 : ∀ t, Steps p.tables e below (s₁.setTop (mkF m 0 #[rv w_BenchWorkload_INPROC_HOLD10] [])) t → Steps p.tables e below (s₁.setTop (entryFrame m #[(.ref w_BenchWorkload_INPROC_HOLD10)] 1)) t := fun t k => castTop (ef_3_R m w_BenchWorkload_INPROC_HOLD10) k
  obtain ⟨T1, X1, e1, st1⟩ := getF X0 hx hZ hown (host := "") (Or.inl (hw _ (List.mem_of_getElem? (i := 21) rfl))) Via.refl e0 F_w_BenchWorkload_INPROC_HOLD10_entries (g := (mkF m 1 #[rv w_BenchWorkload_INPROC_HOLD10] [(.ref w_BenchWorkload_INPROC_HOLD10)])) rfl rfl (hb hby d3_1)
  obtain ⟨fs, hr, hrun, hended, hW, hsame⟩ := X1.leave (v := (some (.int (50 : Int32)))) (fun h => by rw [Bd.returns] at h; cases h)
  refine ⟨_, _, pre0 _ ?_, hrun, hended, _, _, rfl, ?_, ⟨_, rfl⟩, hW, hsame.mono (by decide) (by decide)⟩
  · show Steps p.tables e below (s₁.setTop (mkF m 0 #[rv w_BenchWorkload_INPROC_HOLD10] [])) _
    refine XS.aloadN X0.here hx rfl (hb hby d3_0) rfl rfl ?_
    show Steps p.tables e below (s₁.setTop (mkF m 1 #[rv w_BenchWorkload_INPROC_HOLD10] [(.ref w_BenchWorkload_INPROC_HOLD10)])) _
    refine st1 _ ?_
    show Steps p.tables e below (T1.setTop (mkF m 4 #[rv w_BenchWorkload_INPROC_HOLD10] [(.int (50 : Int32))])) _
    exact retI X1 hx Bd.returns (hb hby d3_4) hr
  · exact ⟨rfl, N0, e1⟩
set_option maxRecDepth 65536 in
set_option maxHeartbeats 40000000 in
theorem rm0_1 (l : Launch) (Z : State) (a0 : Array Value) (hw : ∀ d ∈ tables_1, d.before a0 Z = true) (ws : List Jvm.Cond) (p0 : Int32) (w_BenchWorkload_INPROC_HOLD10 : Addr) (h0 : Heap) (n0 : Nat) (Z0 : n0 ≤ h0.size) (hk0 : ((p0 &&& (2147483647 : Int32)) % (3 : Int32)) = (1 : Int32)) (S_BenchWorkload_INPROC_HOLD10 : Sta Z h0 "com/example/stile/stile/BenchWorkload" "INPROC_HOLD10" "Lcom/example/stile/stile/BenchWorkload;" (.ref w_BenchWorkload_INPROC_HOLD10)) (F_w_BenchWorkload_INPROC_HOLD10_counts : Fld Z h0 w_BenchWorkload_INPROC_HOLD10 "com/example/stile/stile/BenchWorkload" "counts" "Z" (.int (1 : Int32))) (F_w_BenchWorkload_INPROC_HOLD10_entries : Fld Z h0 w_BenchWorkload_INPROC_HOLD10 "com/example/stile/stile/BenchWorkload" "entries" "I" (.int (50 : Int32))) (E_w_BenchWorkload_INPROC_HOLD10 : Exa Z h0 w_BenchWorkload_INPROC_HOLD10 "com/example/stile/stile/BenchWorkload") :
    MetFree l x (head1 (Jvm.Cond.code x code maxLocals ret :: ws) room_1) (fun a U => a = #[(.int p0)] ∧ Z.Warmed39 U.vm ∧ U.heap = h0) (fun _ _ _ _ _ => True) (fun _ U o U' => ∃ v L, o = .returned v ∧ own_QL n0 v U'.heap L ∧ FrameEnd U o U' L room_1.cells room_1.slots) := by
  refine MetFree.of_bodySF (plainFor_of_name pn_1) hisR ?_
  intro p e s m args below meth c s₁ Bd hml0 hP hK
  obtain ⟨rfl, hZ, hh⟩ := hP
  have hx := Bd.exec
  have hby := Bd.bytes
  have hml : c.maxLocals = 6 := hml0
  have hown : s.vm.findClass "com/example/stile/stile/BenchWorkloadExpectedCountPinLaw" = some m.cls := findClass_of_methodNamed Bd.named
  have hnm := (name_of_methodNamed Bd.named Bd.method).1
  have X0 : Stand p l e room_1 s m #[(.int p0)] below meth c s₁ [] 0 0 := Stand.of_body Bd
  have e0 : s₁.heap = h0 := by rw [← hh, Bd.state]; rfl
  have N0 := Fr.nil n0
  have pre0 : ∀ t, Steps p.tables e below (s₁.setTop (mkF m 0 #[iv p0, .unset, .unset, .unset, .unset, .unset] [])) t → Steps p.tables e below (s₁.setTop (entryFrame m #[(.int p0)] maxLocals)) t := fun t k => castTop (ef_0_I m p0) k
  obtain ⟨T1, X1, e1, st1⟩ := getS2 X0 hx hZ hown (host := "") (Or.inl (hw _ (List.mem_of_getElem? (i := 25) rfl))) Via.refl e0 S_BenchWorkload_INPROC_HOLD10 (g := (mkF m 25 #[iv p0, iv (1 : Int32), .unset, .unset, .unset, .unset] [])) rfl (hb hby at_25)
  obtain ⟨cq2, kq2, q2a, q2b, q2c⟩ := isOf hZ e1 E_w_BenchWorkload_INPROC_HOLD10
  obtain ⟨_, _, ⟨T2, L2, k2, n2⟩, -, X2, ⟨Lc2, hQ2, l2, y2, z2⟩, st2⟩ := X1.virtualBack hx (y := (⟨"com/example/stile/stile/BenchWorkload", "expectedCount", "()I"⟩ : MethodName)) (z := (⟨"com/example/stile/stile/BenchWorkload", "expectedCount", "()I"⟩ : MethodName)) hown (mvT hZ (hw _ (List.mem_of_getElem? (i := 4) rfl))) (mvT hZ (hw _ (List.mem_of_getElem? (i := 5) rfl))) (notFace_of_selects (args := #[]) (mvT hZ (hw _ (List.mem_of_getElem? (i := 7) rfl)))) (mvT hZ (hw _ (List.mem_of_getElem? (i := 7) rfl))) (mvT hZ (hw _ (List.mem_of_getElem? (i := 6) rfl))) (by decide) (backOf (W := 0) (rm1_3 l Z a0 hw [] w_BenchWorkload_INPROC_HOLD10 h0 n0 Z0 F_w_BenchWorkload_INPROC_HOLD10_counts F_w_BenchWorkload_INPROC_HOLD10_entries) hZ (hw _ (List.mem_of_getElem? (i := 8) rfl)) (hw _ (List.mem_of_getElem? (i := 2) rfl)) (by decide) (by decide)) q2a q2c (g := (mkF m 45 #[iv p0, iv (1 : Int32), rv w_BenchWorkload_INPROC_HOLD10, iv (150 : Int32), .unset, .unset] [(.ref w_BenchWorkload_INPROC_HOLD10)])) rfl (by rw [hml]; rfl) (Steps.refl _) (argsL := []) (rest := []) (lenOf pd_0 rfl) rfl (by show 2 * 0 + _ ≤ _; exact Nat.le_of_eq rfl) (hb hby at_45) (fun _ _ => ⟨rfl, e1, (by decide : 0 + 0 ≤ _), (by decide : 0 + 0 ≤ _)⟩)
  dsimp only [Pt.U, Pt.locs, Pt.cells, Pt.slots] at X2 l2 y2 z2 st2 hQ2
  subst l2 y2 z2
  obtain ⟨rfl, N2q, e2⟩ := hQ2
  have N2 := Fr.app N0 N2q
  obtain ⟨cq3, kq3, q3a, q3b, q3c⟩ := isOf hZ e2 E_w_BenchWorkload_INPROC_HOLD10
  obtain ⟨_, _, ⟨T3, L3, k3, n3⟩, -, X3, ⟨Lc3, hQ3, l3, y3, z3⟩, st3⟩ := X2.virtualBack hx (y := (⟨"com/example/stile/stile/BenchWorkload", "counts", "()Z"⟩ : MethodName)) (z := (⟨"com/example/stile/stile/BenchWorkload", "counts", "()Z"⟩ : MethodName)) hown (mvT hZ (hw _ (List.mem_of_getElem? (i := 11) rfl))) (mvT hZ (hw _ (List.mem_of_getElem? (i := 12) rfl))) (notFace_of_selects (args := #[]) (mvT hZ (hw _ (List.mem_of_getElem? (i := 14) rfl)))) (mvT hZ (hw _ (List.mem_of_getElem? (i := 14) rfl))) (mvT hZ (hw _ (List.mem_of_getElem? (i := 13) rfl))) (by decide) (backOf (W := 0) (rm2_4 l Z a0 hw [] w_BenchWorkload_INPROC_HOLD10 h0 n0 Z0 F_w_BenchWorkload_INPROC_HOLD10_counts) hZ (hw _ (List.mem_of_getElem? (i := 15) rfl)) (hw _ (List.mem_of_getElem? (i := 2) rfl)) (by decide) (by decide)) q3a q3c (g := (mkF m 51 #[iv p0, iv (1 : Int32), rv w_BenchWorkload_INPROC_HOLD10, iv (150 : Int32), iv (150 : Int32), .unset] [(.ref w_BenchWorkload_INPROC_HOLD10)])) rfl (by rw [hml]; rfl) (Steps.refl _) (argsL := []) (rest := []) (lenOf pd_1 rfl) rfl (by show 2 * 0 + _ ≤ _; exact Nat.le_of_eq rfl) (hb hby at_51) (fun _ _ => ⟨rfl, e2, (by decide : 0 + 0 ≤ _), (by decide : 0 + 0 ≤ _)⟩)
  dsimp only [Pt.U, Pt.locs, Pt.cells, Pt.slots] at X3 l3 y3 z3 st3 hQ3
  subst l3 y3 z3
  obtain ⟨rfl, N3q, e3⟩ := hQ3
  have N3 := Fr.app N2 N3q
  obtain ⟨cq4, kq4, q4a, q4b, q4c⟩ := isOf hZ e3 E_w_BenchWorkload_INPROC_HOLD10
  obtain ⟨_, _, ⟨T4, L4, k4, n4⟩, -, X4, ⟨Lc4, hQ4, l4, y4, z4⟩, st4⟩ := X3.virtualBack hx (y := (⟨"com/example/stile/stile/BenchWorkload", "entries", "()I"⟩ : MethodName)) (z := (⟨"com/example/stile/stile/BenchWorkload", "entries", "()I"⟩ : MethodName)) hown (mvT hZ (hw _ (List.mem_of_getElem? (i := 16) rfl))) (mvT hZ (hw _ (List.mem_of_getElem? (i := 17) rfl))) (notFace_of_selects (args := #[]) (mvT hZ (hw _ (List.mem_of_getElem? (i := 19) rfl)))) (mvT hZ (hw _ (List.mem_of_getElem? (i := 19) rfl))) (mvT hZ (hw _ (List.mem_of_getElem? (i := 18) rfl))) (by decide) (backOf (W := 2) (rm3_5 l Z a0 hw [] w_BenchWorkload_INPROC_HOLD10 h0 n0 Z0 F_w_BenchWorkload_INPROC_HOLD10_entries) hZ (hw _ (List.mem_of_getElem? (i := 20) rfl)) (hw _ (List.mem_of_getElem? (i := 2) rfl)) (by decide) (by decide)) q4a q4c (g := (mkF m 77 #[iv p0, iv (1 : Int32), rv w_BenchWorkload_INPROC_HOLD10, iv (150 : Int32), iv (150 : Int32), iv (1 : Int32)] [(.ref w_BenchWorkload_INPROC_HOLD10), (.int (3 : Int32)), (.int (150 : Int32))])) rfl (by rw [hml]; rfl) (Steps.refl _) (argsL := []) (rest := [(.int (3 : Int32)), (.int (150 : Int32))]) (lenOf pd_0 rfl) rfl (by show 2 * 0 + _ ≤ _; exact Nat.le_of_eq rfl) (hb hby at_77) (fun _ _ => ⟨rfl, e3, (by decide : 0 + 0 ≤ _), (by decide : 0 + 0 ≤ _)⟩)
  dsimp only [Pt.U, Pt.locs, Pt.cells, Pt.slots] at X4 l4 y4 z4 st4 hQ4
  subst l4 y4 z4
  obtain ⟨rfl, N4q, e4⟩ := hQ4
  have N4 := Fr.app N3 N4q
  obtain ⟨fs, hr, hrun, hended, hW, hsame⟩ := X4.leave (v := (some (.int (1 : Int32)))) (fun h => by rw [Bd.returns] at h; cases h)
  refine ⟨_, _, pre0 _ ?_, hrun, hended, _, _, rfl, ?_, ⟨_, rfl⟩, hW, hsame.mono (by decide) (by decide)⟩
  · show Steps p.tables e below (s₁.setTop (mkF m 0 #[iv p0, .unset, .unset, .unset, .unset, .unset] [])) _
    refine XS.iloadN X0.here hx rfl (hb hby at_0) rfl ?_
    show Steps p.tables e below (s₁.setTop (mkF m 1 #[iv p0, .unset, .unset, .unset, .unset, .unset] [(.int p0)])) _
    refine X0.ldcInt hx hown (mvT hZ (hw _ (List.mem_of_getElem? (i := 0) rfl))) (g := (mkF m 1 #[iv p0, .unset, .unset, .unset, .unset, .unset] [(.int p0)])) rfl (hb hby at_1) _ ?_
    show Steps p.tables e below (s₁.setTop (mkF m 3 #[iv p0, .unset, .unset, .unset, .unset, .unset] [(.int (2147483647 : Int32)), (.int p0)])) _
    refine XS.iand X0.here hx rfl (hb hby at_3) rfl ?_
    show Steps p.tables e below (s₁.setTop (mkF m 4 #[iv p0, .unset, .unset, .unset, .unset, .unset] [(.int (p0 &&& (2147483647 : Int32)))])) _
    refine XS.iconst X0.here hx rfl (hb hby at_4) ?_
    show Steps p.tables e below (s₁.setTop (mkF m 5 #[iv p0, .unset, .unset, .unset, .unset, .unset] [(.int (3 : Int32)), (.int (p0 &&& (2147483647 : Int32)))])) _
    refine iremM X0 hx rfl (hb hby at_5) rfl (by decide) ?_
    show Steps p.tables e below (s₁.setTop (mkF m 6 #[iv p0, .unset, .unset, .unset, .unset, .unset] [(.int ((p0 &&& (2147483647 : Int32)) % (3 : Int32)))])) _
    rewrite [hk0]
    show Steps p.tables e below (s₁.setTop (mkF m 6 #[iv p0, .unset, .unset, .unset, .unset, .unset] [(.int (1 : Int32))])) _
    refine XS.istoreN X0.here hx rfl (hb hby at_6) rfl (l' := #[iv p0, iv (1 : Int32), .unset, .unset, .unset, .unset]) rfl ?_
    show Steps p.tables e below (s₁.setTop (mkF m 7 #[iv p0, iv (1 : Int32), .unset, .unset, .unset, .unset] [])) _
    refine XS.iloadN X0.here hx rfl (hb hby at_7) rfl ?_
    show Steps p.tables e below (s₁.setTop (mkF m 8 #[iv p0, iv (1 : Int32), .unset, .unset, .unset, .unset] [(.int (1 : Int32))])) _
    refine XS.ifYes X0.here hx rfl (pc0 := 8) (pc' := 20) rfl (hb hby at_8) rfl ((if0 _ _).trans (feq (by decide +kernel : ¬ ((1 : Int32) = (0 : Int32)))).2) (by decide) (by decide) ?_
    show Steps p.tables e below (s₁.setTop (mkF m 20 #[iv p0, iv (1 : Int32), .unset, .unset, .unset, .unset] [])) _
    refine XS.iloadN X0.here hx rfl (hb hby at_20) rfl ?_
    show Steps p.tables e below (s₁.setTop (mkF m 21 #[iv p0, iv (1 : Int32), .unset, .unset, .unset, .unset] [(.int (1 : Int32))])) _
    refine XS.iconst X0.here hx rfl (hb hby at_21) ?_
    show Steps p.tables e below (s₁.setTop (mkF m 22 #[iv p0, iv (1 : Int32), .unset, .unset, .unset, .unset] [(.int (1 : Int32)), (.int (1 : Int32))])) _
    refine XS.icmpNo X0.here hx rfl (hb hby at_22) rfl (teq (by decide +kernel : (1 : Int32) = (1 : Int32))).2 ?_
    show Steps p.tables e below (s₁.setTop (mkF m 25 #[iv p0, iv (1 : Int32), .unset, .unset, .unset, .unset] [])) _
    refine st1 _ ?_
    show Steps p.tables e below (T1.setTop (mkF m 28 #[iv p0, iv (1 : Int32), .unset, .unset, .unset, .unset] [(.ref w_BenchWorkload_INPROC_HOLD10)])) _
    refine XS.astoreN X1.here hx rfl (hb hby at_28) rfl rfl (l' := #[iv p0, iv (1 : Int32), rv w_BenchWorkload_INPROC_HOLD10, .unset, .unset, .unset]) rfl ?_
    show Steps p.tables e below (T1.setTop (mkF m 29 #[iv p0, iv (1 : Int32), rv w_BenchWorkload_INPROC_HOLD10, .unset, .unset, .unset] [])) _
    refine XS.sipush X1.here hx rfl (hb hby at_29) ?_
    show Steps p.tables e below (T1.setTop (mkF m 32 #[iv p0, iv (1 : Int32), rv w_BenchWorkload_INPROC_HOLD10, .unset, .unset, .unset] [(.int (150 : Int32))])) _
    refine XS.istoreN X1.here hx rfl (hb hby at_32) rfl (l' := #[iv p0, iv (1 : Int32), rv w_BenchWorkload_INPROC_HOLD10, iv (150 : Int32), .unset, .unset]) rfl ?_
    show Steps p.tables e below (T1.setTop (mkF m 33 #[iv p0, iv (1 : Int32), rv w_BenchWorkload_INPROC_HOLD10, iv (150 : Int32), .unset, .unset] [])) _
    refine XS.goto X1.here hx rfl (pc0 := 33) (pc' := 44) rfl (hb hby at_33) (by decide) (by decide) ?_
    show Steps p.tables e below (T1.setTop (mkF m 44 #[iv p0, iv (1 : Int32), rv w_BenchWorkload_INPROC_HOLD10, iv (150 : Int32), .unset, .unset] [])) _
    refine XS.aloadN X1.here hx rfl (hb hby at_44) rfl rfl ?_
    show Steps p.tables e below (T1.setTop (mkF m 45 #[iv p0, iv (1 : Int32), rv w_BenchWorkload_INPROC_HOLD10, iv (150 : Int32), .unset, .unset] [(.ref w_BenchWorkload_INPROC_HOLD10)])) _
    refine st2.trans ?_
    show Steps p.tables e below (T2.setTop (mkF m 48 #[iv p0, iv (1 : Int32), rv w_BenchWorkload_INPROC_HOLD10, iv (150 : Int32), .unset, .unset] [(.int (150 : Int32))])) _
    refine XS.istore X2.here hx rfl (hb hby at_48) rfl (l' := #[iv p0, iv (1 : Int32), rv w_BenchWorkload_INPROC_HOLD10, iv (150 : Int32), iv (150 : Int32), .unset]) rfl ?_
    show Steps p.tables e below (T2.setTop (mkF m 50 #[iv p0, iv (1 : Int32), rv w_BenchWorkload_INPROC_HOLD10, iv (150 : Int32), iv (150 : Int32), .unset] [])) _
    refine XS.aloadN X2.here hx rfl (hb hby at_50) rfl rfl ?_
    show Steps p.tables e below (T2.setTop (mkF m 51 #[iv p0, iv (1 : Int32), rv w_BenchWorkload_INPROC_HOLD10, iv (150 : Int32), iv (150 : Int32), .unset] [(.ref w_BenchWorkload_INPROC_HOLD10)])) _
    refine st3.trans ?_
    show Steps p.tables e below (T3.setTop (mkF m 54 #[iv p0, iv (1 : Int32), rv w_BenchWorkload_INPROC_HOLD10, iv (150 : Int32), iv (150 : Int32), .unset] [(.int (1 : Int32))])) _
    refine XS.ifNo X3.here hx rfl (hb hby at_54) rfl ((if0 _ _).trans (feq (by decide +kernel : ¬ ((1 : Int32) = (0 : Int32)))).1) ?_
    show Steps p.tables e below (T3.setTop (mkF m 57 #[iv p0, iv (1 : Int32), rv w_BenchWorkload_INPROC_HOLD10, iv (150 : Int32), iv (150 : Int32), .unset] [])) _
    refine XS.iconst X3.here hx rfl (hb hby at_57) ?_
    show Steps p.tables e below (T3.setTop (mkF m 58 #[iv p0, iv (1 : Int32), rv w_BenchWorkload_INPROC_HOLD10, iv (150 : Int32), iv (150 : Int32), .unset] [(.int (1 : Int32))])) _
    refine XS.goto X3.here hx rfl (pc0 := 58) (pc' := 62) rfl (hb hby at_58) (by decide) (by decide) ?_
    show Steps p.tables e below (T3.setTop (mkF m 62 #[iv p0, iv (1 : Int32), rv w_BenchWorkload_INPROC_HOLD10, iv (150 : Int32), iv (150 : Int32), .unset] [(.int (1 : Int32))])) _
    refine XS.istore X3.here hx rfl (hb hby at_62) rfl (l' := #[iv p0, iv (1 : Int32), rv w_BenchWorkload_INPROC_HOLD10, iv (150 : Int32), iv (150 : Int32), iv (1 : Int32)]) rfl ?_
    show Steps p.tables e below (T3.setTop (mkF m 64 #[iv p0, iv (1 : Int32), rv w_BenchWorkload_INPROC_HOLD10, iv (150 : Int32), iv (150 : Int32), iv (1 : Int32)] [])) _
    refine XS.iload X3.here hx rfl (hb hby at_64) rfl ?_
    show Steps p.tables e below (T3.setTop (mkF m 66 #[iv p0, iv (1 : Int32), rv w_BenchWorkload_INPROC_HOLD10, iv (150 : Int32), iv (150 : Int32), iv (1 : Int32)] [(.int (150 : Int32))])) _
    refine XS.iloadN X3.here hx rfl (hb hby at_66) rfl ?_
    show Steps p.tables e below (T3.setTop (mkF m 67 #[iv p0, iv (1 : Int32), rv w_BenchWorkload_INPROC_HOLD10, iv (150 : Int32), iv (150 : Int32), iv (1 : Int32)] [(.int (150 : Int32)), (.int (150 : Int32))])) _
    refine XS.icmpNo X3.here hx rfl (hb hby at_67) rfl (teq (by decide +kernel : (150 : Int32) = (150 : Int32))).2 ?_
    show Steps p.tables e below (T3.setTop (mkF m 70 #[iv p0, iv (1 : Int32), rv w_BenchWorkload_INPROC_HOLD10, iv (150 : Int32), iv (150 : Int32), iv (1 : Int32)] [])) _
    refine XS.iload X3.here hx rfl (hb hby at_70) rfl ?_
    show Steps p.tables e below (T3.setTop (mkF m 72 #[iv p0, iv (1 : Int32), rv w_BenchWorkload_INPROC_HOLD10, iv (150 : Int32), iv (150 : Int32), iv (1 : Int32)] [(.int (150 : Int32))])) _
    refine XS.iload X3.here hx rfl (hb hby at_72) rfl ?_
    show Steps p.tables e below (T3.setTop (mkF m 74 #[iv p0, iv (1 : Int32), rv w_BenchWorkload_INPROC_HOLD10, iv (150 : Int32), iv (150 : Int32), iv (1 : Int32)] [(.int (1 : Int32)), (.int (150 : Int32))])) _
    refine XS.iconst X3.here hx rfl (hb hby at_74) ?_
    show Steps p.tables e below (T3.setTop (mkF m 75 #[iv p0, iv (1 : Int32), rv w_BenchWorkload_INPROC_HOLD10, iv (150 : Int32), iv (150 : Int32), iv (1 : Int32)] [(.int (3 : Int32)), (.int (1 : Int32)), (.int (150 : Int32))])) _
    refine XS.imul X3.here hx rfl (hb hby at_75) rfl ?_
    show Steps p.tables e below (T3.setTop (mkF m 76 #[iv p0, iv (1 : Int32), rv w_BenchWorkload_INPROC_HOLD10, iv (150 : Int32), iv (150 : Int32), iv (1 : Int32)] [(.int ((1 : Int32) * (3 : Int32))), (.int (150 : Int32))])) _
    rewrite [show ((1 : Int32) * (3 : Int32)) = (3 : Int32) from by decide +kernel]
    show Steps p.tables e below (T3.setTop (mkF m 76 #[iv p0, iv (1 : Int32), rv w_BenchWorkload_INPROC_HOLD10, iv (150 : Int32), iv (150 : Int32), iv (1 : Int32)] [(.int (3 : Int32)), (.int (150 : Int32))])) _
    refine XS.aloadN X3.here hx rfl (hb hby at_76) rfl rfl ?_
    show Steps p.tables e below (T3.setTop (mkF m 77 #[iv p0, iv (1 : Int32), rv w_BenchWorkload_INPROC_HOLD10, iv (150 : Int32), iv (150 : Int32), iv (1 : Int32)] [(.ref w_BenchWorkload_INPROC_HOLD10), (.int (3 : Int32)), (.int (150 : Int32))])) _
    refine st4.trans ?_
    show Steps p.tables e below (T4.setTop (mkF m 80 #[iv p0, iv (1 : Int32), rv w_BenchWorkload_INPROC_HOLD10, iv (150 : Int32), iv (150 : Int32), iv (1 : Int32)] [(.int (50 : Int32)), (.int (3 : Int32)), (.int (150 : Int32))])) _
    refine XS.imul X4.here hx rfl (hb hby at_80) rfl ?_
    show Steps p.tables e below (T4.setTop (mkF m 81 #[iv p0, iv (1 : Int32), rv w_BenchWorkload_INPROC_HOLD10, iv (150 : Int32), iv (150 : Int32), iv (1 : Int32)] [(.int ((3 : Int32) * (50 : Int32))), (.int (150 : Int32))])) _
    rewrite [show ((3 : Int32) * (50 : Int32)) = (150 : Int32) from by decide +kernel]
    show Steps p.tables e below (T4.setTop (mkF m 81 #[iv p0, iv (1 : Int32), rv w_BenchWorkload_INPROC_HOLD10, iv (150 : Int32), iv (150 : Int32), iv (1 : Int32)] [(.int (150 : Int32)), (.int (150 : Int32))])) _
    refine XS.icmpNo X4.here hx rfl (hb hby at_81) rfl (teq (by decide +kernel : (150 : Int32) = (150 : Int32))).2 ?_
    show Steps p.tables e below (T4.setTop (mkF m 84 #[iv p0, iv (1 : Int32), rv w_BenchWorkload_INPROC_HOLD10, iv (150 : Int32), iv (150 : Int32), iv (1 : Int32)] [])) _
    refine XS.iconst X4.here hx rfl (hb hby at_84) ?_
    show Steps p.tables e below (T4.setTop (mkF m 85 #[iv p0, iv (1 : Int32), rv w_BenchWorkload_INPROC_HOLD10, iv (150 : Int32), iv (150 : Int32), iv (1 : Int32)] [(.int (1 : Int32))])) _
    refine XS.goto X4.here hx rfl (pc0 := 85) (pc' := 89) rfl (hb hby at_85) (by decide) (by decide) ?_
    show Steps p.tables e below (T4.setTop (mkF m 89 #[iv p0, iv (1 : Int32), rv w_BenchWorkload_INPROC_HOLD10, iv (150 : Int32), iv (150 : Int32), iv (1 : Int32)] [(.int (1 : Int32))])) _
    exact retN X4 hx (t := .boolean) Bd.returns (by simp) (hb hby at_89) hr
  · exact ⟨rfl, N4⟩
set_option maxRecDepth 65536 in
set_option maxHeartbeats 40000000 in
theorem rm1_6 (l : Launch) (Z : State) (a0 : Array Value) (hw : ∀ d ∈ tables_1, d.before a0 Z = true) (ws : List Jvm.Cond) (w_BenchWorkload_CLI_HOLD10 : Addr) (h0 : Heap) (n0 : Nat) (Z0 : n0 ≤ h0.size) (F_w_BenchWorkload_CLI_HOLD10_counts : Fld Z h0 w_BenchWorkload_CLI_HOLD10 "com/example/stile/stile/BenchWorkload" "counts" "Z" (.int (1 : Int32))) (F_w_BenchWorkload_CLI_HOLD10_entries : Fld Z h0 w_BenchWorkload_CLI_HOLD10 "com/example/stile/stile/BenchWorkload" "entries" "I" (.int (50 : Int32))) :
    MetFree l (⟨"com/example/stile/stile/BenchWorkload", "expectedCount", "()I"⟩ : MethodName) (head1 (Jvm.Cond.code (⟨"com/example/stile/stile/BenchWorkload", "expectedCount", "()I"⟩ : MethodName) prog_10_method_8_code 1 (some .int) :: ws) ({ frames := 0, cells := 0, slots := 0, locals := 0 } : Room)) (fun a U => a = #[(.ref w_BenchWorkload_CLI_HOLD10)] ∧ Z.Warmed39 U.vm ∧ U.heap = h0) (fun _ _ _ _ _ => True) (fun _ U o U' => ∃ v L, o = .returned v ∧ own_QP (some (.int (150 : Int32))) h0 n0 v U'.heap L ∧ FrameEnd U o U' L ({ frames := 0, cells := 0, slots := 0, locals := 0 } : Room).cells ({ frames := 0, cells := 0, slots := 0, locals := 0 } : Room).slots) := by
  refine MetFree.of_bodySF (plainFor_of_name pn_0) hisR ?_
  intro p e s m args below meth c s₁ Bd hml0 hP hK
  obtain ⟨rfl, hZ, hh⟩ := hP
  have hx := Bd.exec
  have hby := Bd.bytes
  have hml : c.maxLocals = 1 := hml0
  have hown : s.vm.findClass "com/example/stile/stile/BenchWorkload" = some m.cls := findClass_of_methodNamed Bd.named
  have hnm := (name_of_methodNamed Bd.named Bd.method).1
  have X0 : Stand p l e ({ frames := 0, cells := 0, slots := 0, locals := 0 } : Room) s m #[(.ref w_BenchWorkload_CLI_HOLD10)] below meth c s₁ [] 0 0 := Stand.of_body Bd
  have e0 : s₁.heap = h0 := by rw [← hh, Bd.state]; rfl
  have N0 := Fr.nil n0
  have pre0 : ∀ t, Steps p.tables e below (s₁.setTop (mkF m 0 #[rv w_BenchWorkload_CLI_HOLD10] [])) t → Steps p.tables e below (s₁.setTop (entryFrame m #[(.ref w_BenchWorkload_CLI_HOLD10)] 1)) t := fun t k => castTop (ef_1_R m w_BenchWorkload_CLI_HOLD10) k
  obtain ⟨T1, X1, e1, st1⟩ := getF X0 hx hZ hown (host := "") (Or.inl (hw _ (List.mem_of_getElem? (i := 9) rfl))) Via.refl e0 F_w_BenchWorkload_CLI_HOLD10_counts (g := (mkF m 1 #[rv w_BenchWorkload_CLI_HOLD10] [(.ref w_BenchWorkload_CLI_HOLD10)])) rfl rfl (hb hby d1_1)
  obtain ⟨T2, X2, e2, st2⟩ := getF X1 hx hZ hown (host := "") (Or.inl (hw _ (List.mem_of_getElem? (i := 21) rfl))) Via.refl e1 F_w_BenchWorkload_CLI_HOLD10_entries (g := (mkF m 9 #[rv w_BenchWorkload_CLI_HOLD10] [(.ref w_BenchWorkload_CLI_HOLD10), (.int (3 : Int32))])) rfl rfl (hb hby d1_9)
  obtain ⟨fs, hr, hrun, hended, hW, hsame⟩ := X2.leave (v := (some (.int (150 : Int32)))) (fun h => by rw [Bd.returns] at h; cases h)
  refine ⟨_, _, pre0 _ ?_, hrun, hended, _, _, rfl, ?_, ⟨_, rfl⟩, hW, hsame.mono (by decide) (by decide)⟩
  · show Steps p.tables e below (s₁.setTop (mkF m 0 #[rv w_BenchWorkload_CLI_HOLD10] [])) _
    refine XS.aloadN X0.here hx rfl (hb hby d1_0) rfl rfl ?_
    show Steps p.tables e below (s₁.setTop (mkF m 1 #[rv w_BenchWorkload_CLI_HOLD10] [(.ref w_BenchWorkload_CLI_HOLD10)])) _
    refine st1 _ ?_
    show Steps p.tables e below (T1.setTop (mkF m 4 #[rv w_BenchWorkload_CLI_HOLD10] [(.int (1 : Int32))])) _
    refine XS.ifNo X1.here hx rfl (hb hby d1_4) rfl ((if0 _ _).trans (feq (by decide +kernel : ¬ ((1 : Int32) = (0 : Int32)))).1) ?_
    show Steps p.tables e below (T1.setTop (mkF m 7 #[rv w_BenchWorkload_CLI_HOLD10] [])) _
    refine XS.iconst X1.here hx rfl (hb hby d1_7) ?_
    show Steps p.tables e below (T1.setTop (mkF m 8 #[rv w_BenchWorkload_CLI_HOLD10] [(.int (3 : Int32))])) _
    refine XS.aloadN X1.here hx rfl (hb hby d1_8) rfl rfl ?_
    show Steps p.tables e below (T1.setTop (mkF m 9 #[rv w_BenchWorkload_CLI_HOLD10] [(.ref w_BenchWorkload_CLI_HOLD10), (.int (3 : Int32))])) _
    refine st2 _ ?_
    show Steps p.tables e below (T2.setTop (mkF m 12 #[rv w_BenchWorkload_CLI_HOLD10] [(.int (50 : Int32)), (.int (3 : Int32))])) _
    refine XS.imul X2.here hx rfl (hb hby d1_12) rfl ?_
    show Steps p.tables e below (T2.setTop (mkF m 13 #[rv w_BenchWorkload_CLI_HOLD10] [(.int ((3 : Int32) * (50 : Int32)))])) _
    rewrite [show ((3 : Int32) * (50 : Int32)) = (150 : Int32) from by decide +kernel]
    show Steps p.tables e below (T2.setTop (mkF m 13 #[rv w_BenchWorkload_CLI_HOLD10] [(.int (150 : Int32))])) _
    refine XS.goto X2.here hx rfl (pc0 := 13) (pc' := 17) rfl (hb hby d1_13) (by decide) (by decide) ?_
    show Steps p.tables e below (T2.setTop (mkF m 17 #[rv w_BenchWorkload_CLI_HOLD10] [(.int (150 : Int32))])) _
    exact retI X2 hx Bd.returns (hb hby d1_17) hr
  · exact ⟨rfl, N0, e2⟩
set_option maxRecDepth 65536 in
set_option maxHeartbeats 40000000 in
theorem rm2_7 (l : Launch) (Z : State) (a0 : Array Value) (hw : ∀ d ∈ tables_1, d.before a0 Z = true) (ws : List Jvm.Cond) (w_BenchWorkload_CLI_HOLD10 : Addr) (h0 : Heap) (n0 : Nat) (Z0 : n0 ≤ h0.size) (F_w_BenchWorkload_CLI_HOLD10_counts : Fld Z h0 w_BenchWorkload_CLI_HOLD10 "com/example/stile/stile/BenchWorkload" "counts" "Z" (.int (1 : Int32))) :
    MetFree l (⟨"com/example/stile/stile/BenchWorkload", "counts", "()Z"⟩ : MethodName) (head1 (Jvm.Cond.code (⟨"com/example/stile/stile/BenchWorkload", "counts", "()Z"⟩ : MethodName) prog_10_method_7_code 1 (some .boolean) :: ws) ({ frames := 0, cells := 0, slots := 0, locals := 0 } : Room)) (fun a U => a = #[(.ref w_BenchWorkload_CLI_HOLD10)] ∧ Z.Warmed39 U.vm ∧ U.heap = h0) (fun _ _ _ _ _ => True) (fun _ U o U' => ∃ v L, o = .returned v ∧ own_QP (some (.int (1 : Int32))) h0 n0 v U'.heap L ∧ FrameEnd U o U' L ({ frames := 0, cells := 0, slots := 0, locals := 0 } : Room).cells ({ frames := 0, cells := 0, slots := 0, locals := 0 } : Room).slots) := by
  refine MetFree.of_bodySF (plainFor_of_name pn_0) hisR ?_
  intro p e s m args below meth c s₁ Bd hml0 hP hK
  obtain ⟨rfl, hZ, hh⟩ := hP
  have hx := Bd.exec
  have hby := Bd.bytes
  have hml : c.maxLocals = 1 := hml0
  have hown : s.vm.findClass "com/example/stile/stile/BenchWorkload" = some m.cls := findClass_of_methodNamed Bd.named
  have hnm := (name_of_methodNamed Bd.named Bd.method).1
  have X0 : Stand p l e ({ frames := 0, cells := 0, slots := 0, locals := 0 } : Room) s m #[(.ref w_BenchWorkload_CLI_HOLD10)] below meth c s₁ [] 0 0 := Stand.of_body Bd
  have e0 : s₁.heap = h0 := by rw [← hh, Bd.state]; rfl
  have N0 := Fr.nil n0
  have pre0 : ∀ t, Steps p.tables e below (s₁.setTop (mkF m 0 #[rv w_BenchWorkload_CLI_HOLD10] [])) t → Steps p.tables e below (s₁.setTop (entryFrame m #[(.ref w_BenchWorkload_CLI_HOLD10)] 1)) t := fun t k => castTop (ef_2_R m w_BenchWorkload_CLI_HOLD10) k
  obtain ⟨T1, X1, e1, st1⟩ := getF X0 hx hZ hown (host := "") (Or.inl (hw _ (List.mem_of_getElem? (i := 9) rfl))) Via.refl e0 F_w_BenchWorkload_CLI_HOLD10_counts (g := (mkF m 1 #[rv w_BenchWorkload_CLI_HOLD10] [(.ref w_BenchWorkload_CLI_HOLD10)])) rfl rfl (hb hby d2_1)
  obtain ⟨fs, hr, hrun, hended, hW, hsame⟩ := X1.leave (v := (some (.int (1 : Int32)))) (fun h => by rw [Bd.returns] at h; cases h)
  refine ⟨_, _, pre0 _ ?_, hrun, hended, _, _, rfl, ?_, ⟨_, rfl⟩, hW, hsame.mono (by decide) (by decide)⟩
  · show Steps p.tables e below (s₁.setTop (mkF m 0 #[rv w_BenchWorkload_CLI_HOLD10] [])) _
    refine XS.aloadN X0.here hx rfl (hb hby d2_0) rfl rfl ?_
    show Steps p.tables e below (s₁.setTop (mkF m 1 #[rv w_BenchWorkload_CLI_HOLD10] [(.ref w_BenchWorkload_CLI_HOLD10)])) _
    refine st1 _ ?_
    show Steps p.tables e below (T1.setTop (mkF m 4 #[rv w_BenchWorkload_CLI_HOLD10] [(.int (1 : Int32))])) _
    exact retN X1 hx (t := .boolean) Bd.returns (by simp) (hb hby d2_4) hr
  · exact ⟨rfl, N0, e1⟩
set_option maxRecDepth 65536 in
set_option maxHeartbeats 40000000 in
theorem rm3_8 (l : Launch) (Z : State) (a0 : Array Value) (hw : ∀ d ∈ tables_1, d.before a0 Z = true) (ws : List Jvm.Cond) (w_BenchWorkload_CLI_HOLD10 : Addr) (h0 : Heap) (n0 : Nat) (Z0 : n0 ≤ h0.size) (F_w_BenchWorkload_CLI_HOLD10_entries : Fld Z h0 w_BenchWorkload_CLI_HOLD10 "com/example/stile/stile/BenchWorkload" "entries" "I" (.int (50 : Int32))) :
    MetFree l (⟨"com/example/stile/stile/BenchWorkload", "entries", "()I"⟩ : MethodName) (head1 (Jvm.Cond.code (⟨"com/example/stile/stile/BenchWorkload", "entries", "()I"⟩ : MethodName) prog_10_method_6_code 1 (some .int) :: ws) ({ frames := 0, cells := 0, slots := 0, locals := 0 } : Room)) (fun a U => a = #[(.ref w_BenchWorkload_CLI_HOLD10)] ∧ Z.Warmed39 U.vm ∧ U.heap = h0) (fun _ _ _ _ _ => True) (fun _ U o U' => ∃ v L, o = .returned v ∧ own_QP (some (.int (50 : Int32))) h0 n0 v U'.heap L ∧ FrameEnd U o U' L ({ frames := 0, cells := 0, slots := 0, locals := 0 } : Room).cells ({ frames := 0, cells := 0, slots := 0, locals := 0 } : Room).slots) := by
  refine MetFree.of_bodySF (plainFor_of_name pn_0) hisR ?_
  intro p e s m args below meth c s₁ Bd hml0 hP hK
  obtain ⟨rfl, hZ, hh⟩ := hP
  have hx := Bd.exec
  have hby := Bd.bytes
  have hml : c.maxLocals = 1 := hml0
  have hown : s.vm.findClass "com/example/stile/stile/BenchWorkload" = some m.cls := findClass_of_methodNamed Bd.named
  have hnm := (name_of_methodNamed Bd.named Bd.method).1
  have X0 : Stand p l e ({ frames := 0, cells := 0, slots := 0, locals := 0 } : Room) s m #[(.ref w_BenchWorkload_CLI_HOLD10)] below meth c s₁ [] 0 0 := Stand.of_body Bd
  have e0 : s₁.heap = h0 := by rw [← hh, Bd.state]; rfl
  have N0 := Fr.nil n0
  have pre0 : ∀ t, Steps p.tables e below (s₁.setTop (mkF m 0 #[rv w_BenchWorkload_CLI_HOLD10] [])) t → Steps p.tables e below (s₁.setTop (entryFrame m #[(.ref w_BenchWorkload_CLI_HOLD10)] 1)) t := fun t k => castTop (ef_3_R m w_BenchWorkload_CLI_HOLD10) k
  obtain ⟨T1, X1, e1, st1⟩ := getF X0 hx hZ hown (host := "") (Or.inl (hw _ (List.mem_of_getElem? (i := 21) rfl))) Via.refl e0 F_w_BenchWorkload_CLI_HOLD10_entries (g := (mkF m 1 #[rv w_BenchWorkload_CLI_HOLD10] [(.ref w_BenchWorkload_CLI_HOLD10)])) rfl rfl (hb hby d3_1)
  obtain ⟨fs, hr, hrun, hended, hW, hsame⟩ := X1.leave (v := (some (.int (50 : Int32)))) (fun h => by rw [Bd.returns] at h; cases h)
  refine ⟨_, _, pre0 _ ?_, hrun, hended, _, _, rfl, ?_, ⟨_, rfl⟩, hW, hsame.mono (by decide) (by decide)⟩
  · show Steps p.tables e below (s₁.setTop (mkF m 0 #[rv w_BenchWorkload_CLI_HOLD10] [])) _
    refine XS.aloadN X0.here hx rfl (hb hby d3_0) rfl rfl ?_
    show Steps p.tables e below (s₁.setTop (mkF m 1 #[rv w_BenchWorkload_CLI_HOLD10] [(.ref w_BenchWorkload_CLI_HOLD10)])) _
    refine st1 _ ?_
    show Steps p.tables e below (T1.setTop (mkF m 4 #[rv w_BenchWorkload_CLI_HOLD10] [(.int (50 : Int32))])) _
    exact retI X1 hx Bd.returns (hb hby d3_4) hr
  · exact ⟨rfl, N0, e1⟩
set_option maxRecDepth 65536 in
set_option maxHeartbeats 40000000 in
theorem rm0_2 (l : Launch) (Z : State) (a0 : Array Value) (hw : ∀ d ∈ tables_1, d.before a0 Z = true) (ws : List Jvm.Cond) (p0 : Int32) (w_BenchWorkload_CLI_HOLD10 : Addr) (h0 : Heap) (n0 : Nat) (Z0 : n0 ≤ h0.size) (hk0 : ((p0 &&& (2147483647 : Int32)) % (3 : Int32)) = (2 : Int32)) (S_BenchWorkload_CLI_HOLD10 : Sta Z h0 "com/example/stile/stile/BenchWorkload" "CLI_HOLD10" "Lcom/example/stile/stile/BenchWorkload;" (.ref w_BenchWorkload_CLI_HOLD10)) (F_w_BenchWorkload_CLI_HOLD10_counts : Fld Z h0 w_BenchWorkload_CLI_HOLD10 "com/example/stile/stile/BenchWorkload" "counts" "Z" (.int (1 : Int32))) (F_w_BenchWorkload_CLI_HOLD10_entries : Fld Z h0 w_BenchWorkload_CLI_HOLD10 "com/example/stile/stile/BenchWorkload" "entries" "I" (.int (50 : Int32))) (E_w_BenchWorkload_CLI_HOLD10 : Exa Z h0 w_BenchWorkload_CLI_HOLD10 "com/example/stile/stile/BenchWorkload") :
    MetFree l x (head1 (Jvm.Cond.code x code maxLocals ret :: ws) room_1) (fun a U => a = #[(.int p0)] ∧ Z.Warmed39 U.vm ∧ U.heap = h0) (fun _ _ _ _ _ => True) (fun _ U o U' => ∃ v L, o = .returned v ∧ own_QL n0 v U'.heap L ∧ FrameEnd U o U' L room_1.cells room_1.slots) := by
  refine MetFree.of_bodySF (plainFor_of_name pn_1) hisR ?_
  intro p e s m args below meth c s₁ Bd hml0 hP hK
  obtain ⟨rfl, hZ, hh⟩ := hP
  have hx := Bd.exec
  have hby := Bd.bytes
  have hml : c.maxLocals = 6 := hml0
  have hown : s.vm.findClass "com/example/stile/stile/BenchWorkloadExpectedCountPinLaw" = some m.cls := findClass_of_methodNamed Bd.named
  have hnm := (name_of_methodNamed Bd.named Bd.method).1
  have X0 : Stand p l e room_1 s m #[(.int p0)] below meth c s₁ [] 0 0 := Stand.of_body Bd
  have e0 : s₁.heap = h0 := by rw [← hh, Bd.state]; rfl
  have N0 := Fr.nil n0
  have pre0 : ∀ t, Steps p.tables e below (s₁.setTop (mkF m 0 #[iv p0, .unset, .unset, .unset, .unset, .unset] [])) t → Steps p.tables e below (s₁.setTop (entryFrame m #[(.int p0)] maxLocals)) t := fun t k => castTop (ef_0_I m p0) k
  obtain ⟨T1, X1, e1, st1⟩ := getS2 X0 hx hZ hown (host := "") (Or.inl (hw _ (List.mem_of_getElem? (i := 23) rfl))) Via.refl e0 S_BenchWorkload_CLI_HOLD10 (g := (mkF m 36 #[iv p0, iv (2 : Int32), .unset, .unset, .unset, .unset] [])) rfl (hb hby at_36)
  obtain ⟨cq2, kq2, q2a, q2b, q2c⟩ := isOf hZ e1 E_w_BenchWorkload_CLI_HOLD10
  obtain ⟨_, _, ⟨T2, L2, k2, n2⟩, -, X2, ⟨Lc2, hQ2, l2, y2, z2⟩, st2⟩ := X1.virtualBack hx (y := (⟨"com/example/stile/stile/BenchWorkload", "expectedCount", "()I"⟩ : MethodName)) (z := (⟨"com/example/stile/stile/BenchWorkload", "expectedCount", "()I"⟩ : MethodName)) hown (mvT hZ (hw _ (List.mem_of_getElem? (i := 4) rfl))) (mvT hZ (hw _ (List.mem_of_getElem? (i := 5) rfl))) (notFace_of_selects (args := #[]) (mvT hZ (hw _ (List.mem_of_getElem? (i := 7) rfl)))) (mvT hZ (hw _ (List.mem_of_getElem? (i := 7) rfl))) (mvT hZ (hw _ (List.mem_of_getElem? (i := 6) rfl))) (by decide) (backOf (W := 0) (rm1_6 l Z a0 hw [] w_BenchWorkload_CLI_HOLD10 h0 n0 Z0 F_w_BenchWorkload_CLI_HOLD10_counts F_w_BenchWorkload_CLI_HOLD10_entries) hZ (hw _ (List.mem_of_getElem? (i := 8) rfl)) (hw _ (List.mem_of_getElem? (i := 2) rfl)) (by decide) (by decide)) q2a q2c (g := (mkF m 45 #[iv p0, iv (2 : Int32), rv w_BenchWorkload_CLI_HOLD10, iv (150 : Int32), .unset, .unset] [(.ref w_BenchWorkload_CLI_HOLD10)])) rfl (by rw [hml]; rfl) (Steps.refl _) (argsL := []) (rest := []) (lenOf pd_0 rfl) rfl (by show 2 * 0 + _ ≤ _; exact Nat.le_of_eq rfl) (hb hby at_45) (fun _ _ => ⟨rfl, e1, (by decide : 0 + 0 ≤ _), (by decide : 0 + 0 ≤ _)⟩)
  dsimp only [Pt.U, Pt.locs, Pt.cells, Pt.slots] at X2 l2 y2 z2 st2 hQ2
  subst l2 y2 z2
  obtain ⟨rfl, N2q, e2⟩ := hQ2
  have N2 := Fr.app N0 N2q
  obtain ⟨cq3, kq3, q3a, q3b, q3c⟩ := isOf hZ e2 E_w_BenchWorkload_CLI_HOLD10
  obtain ⟨_, _, ⟨T3, L3, k3, n3⟩, -, X3, ⟨Lc3, hQ3, l3, y3, z3⟩, st3⟩ := X2.virtualBack hx (y := (⟨"com/example/stile/stile/BenchWorkload", "counts", "()Z"⟩ : MethodName)) (z := (⟨"com/example/stile/stile/BenchWorkload", "counts", "()Z"⟩ : MethodName)) hown (mvT hZ (hw _ (List.mem_of_getElem? (i := 11) rfl))) (mvT hZ (hw _ (List.mem_of_getElem? (i := 12) rfl))) (notFace_of_selects (args := #[]) (mvT hZ (hw _ (List.mem_of_getElem? (i := 14) rfl)))) (mvT hZ (hw _ (List.mem_of_getElem? (i := 14) rfl))) (mvT hZ (hw _ (List.mem_of_getElem? (i := 13) rfl))) (by decide) (backOf (W := 0) (rm2_7 l Z a0 hw [] w_BenchWorkload_CLI_HOLD10 h0 n0 Z0 F_w_BenchWorkload_CLI_HOLD10_counts) hZ (hw _ (List.mem_of_getElem? (i := 15) rfl)) (hw _ (List.mem_of_getElem? (i := 2) rfl)) (by decide) (by decide)) q3a q3c (g := (mkF m 51 #[iv p0, iv (2 : Int32), rv w_BenchWorkload_CLI_HOLD10, iv (150 : Int32), iv (150 : Int32), .unset] [(.ref w_BenchWorkload_CLI_HOLD10)])) rfl (by rw [hml]; rfl) (Steps.refl _) (argsL := []) (rest := []) (lenOf pd_1 rfl) rfl (by show 2 * 0 + _ ≤ _; exact Nat.le_of_eq rfl) (hb hby at_51) (fun _ _ => ⟨rfl, e2, (by decide : 0 + 0 ≤ _), (by decide : 0 + 0 ≤ _)⟩)
  dsimp only [Pt.U, Pt.locs, Pt.cells, Pt.slots] at X3 l3 y3 z3 st3 hQ3
  subst l3 y3 z3
  obtain ⟨rfl, N3q, e3⟩ := hQ3
  have N3 := Fr.app N2 N3q
  obtain ⟨cq4, kq4, q4a, q4b, q4c⟩ := isOf hZ e3 E_w_BenchWorkload_CLI_HOLD10
  obtain ⟨_, _, ⟨T4, L4, k4, n4⟩, -, X4, ⟨Lc4, hQ4, l4, y4, z4⟩, st4⟩ := X3.virtualBack hx (y := (⟨"com/example/stile/stile/BenchWorkload", "entries", "()I"⟩ : MethodName)) (z := (⟨"com/example/stile/stile/BenchWorkload", "entries", "()I"⟩ : MethodName)) hown (mvT hZ (hw _ (List.mem_of_getElem? (i := 16) rfl))) (mvT hZ (hw _ (List.mem_of_getElem? (i := 17) rfl))) (notFace_of_selects (args := #[]) (mvT hZ (hw _ (List.mem_of_getElem? (i := 19) rfl)))) (mvT hZ (hw _ (List.mem_of_getElem? (i := 19) rfl))) (mvT hZ (hw _ (List.mem_of_getElem? (i := 18) rfl))) (by decide) (backOf (W := 2) (rm3_8 l Z a0 hw [] w_BenchWorkload_CLI_HOLD10 h0 n0 Z0 F_w_BenchWorkload_CLI_HOLD10_entries) hZ (hw _ (List.mem_of_getElem? (i := 20) rfl)) (hw _ (List.mem_of_getElem? (i := 2) rfl)) (by decide) (by decide)) q4a q4c (g := (mkF m 77 #[iv p0, iv (2 : Int32), rv w_BenchWorkload_CLI_HOLD10, iv (150 : Int32), iv (150 : Int32), iv (1 : Int32)] [(.ref w_BenchWorkload_CLI_HOLD10), (.int (3 : Int32)), (.int (150 : Int32))])) rfl (by rw [hml]; rfl) (Steps.refl _) (argsL := []) (rest := [(.int (3 : Int32)), (.int (150 : Int32))]) (lenOf pd_0 rfl) rfl (by show 2 * 0 + _ ≤ _; exact Nat.le_of_eq rfl) (hb hby at_77) (fun _ _ => ⟨rfl, e3, (by decide : 0 + 0 ≤ _), (by decide : 0 + 0 ≤ _)⟩)
  dsimp only [Pt.U, Pt.locs, Pt.cells, Pt.slots] at X4 l4 y4 z4 st4 hQ4
  subst l4 y4 z4
  obtain ⟨rfl, N4q, e4⟩ := hQ4
  have N4 := Fr.app N3 N4q
  obtain ⟨fs, hr, hrun, hended, hW, hsame⟩ := X4.leave (v := (some (.int (1 : Int32)))) (fun h => by rw [Bd.returns] at h; cases h)
  refine ⟨_, _, pre0 _ ?_, hrun, hended, _, _, rfl, ?_, ⟨_, rfl⟩, hW, hsame.mono (by decide) (by decide)⟩
  · show Steps p.tables e below (s₁.setTop (mkF m 0 #[iv p0, .unset, .unset, .unset, .unset, .unset] [])) _
    refine XS.iloadN X0.here hx rfl (hb hby at_0) rfl ?_
    show Steps p.tables e below (s₁.setTop (mkF m 1 #[iv p0, .unset, .unset, .unset, .unset, .unset] [(.int p0)])) _
    refine X0.ldcInt hx hown (mvT hZ (hw _ (List.mem_of_getElem? (i := 0) rfl))) (g := (mkF m 1 #[iv p0, .unset, .unset, .unset, .unset, .unset] [(.int p0)])) rfl (hb hby at_1) _ ?_
    show Steps p.tables e below (s₁.setTop (mkF m 3 #[iv p0, .unset, .unset, .unset, .unset, .unset] [(.int (2147483647 : Int32)), (.int p0)])) _
    refine XS.iand X0.here hx rfl (hb hby at_3) rfl ?_
    show Steps p.tables e below (s₁.setTop (mkF m 4 #[iv p0, .unset, .unset, .unset, .unset, .unset] [(.int (p0 &&& (2147483647 : Int32)))])) _
    refine XS.iconst X0.here hx rfl (hb hby at_4) ?_
    show Steps p.tables e below (s₁.setTop (mkF m 5 #[iv p0, .unset, .unset, .unset, .unset, .unset] [(.int (3 : Int32)), (.int (p0 &&& (2147483647 : Int32)))])) _
    refine iremM X0 hx rfl (hb hby at_5) rfl (by decide) ?_
    show Steps p.tables e below (s₁.setTop (mkF m 6 #[iv p0, .unset, .unset, .unset, .unset, .unset] [(.int ((p0 &&& (2147483647 : Int32)) % (3 : Int32)))])) _
    rewrite [hk0]
    show Steps p.tables e below (s₁.setTop (mkF m 6 #[iv p0, .unset, .unset, .unset, .unset, .unset] [(.int (2 : Int32))])) _
    refine XS.istoreN X0.here hx rfl (hb hby at_6) rfl (l' := #[iv p0, iv (2 : Int32), .unset, .unset, .unset, .unset]) rfl ?_
    show Steps p.tables e below (s₁.setTop (mkF m 7 #[iv p0, iv (2 : Int32), .unset, .unset, .unset, .unset] [])) _
    refine XS.iloadN X0.here hx rfl (hb hby at_7) rfl ?_
    show Steps p.tables e below (s₁.setTop (mkF m 8 #[iv p0, iv (2 : Int32), .unset, .unset, .unset, .unset] [(.int (2 : Int32))])) _
    refine XS.ifYes X0.here hx rfl (pc0 := 8) (pc' := 20) rfl (hb hby at_8) rfl ((if0 _ _).trans (feq (by decide +kernel : ¬ ((2 : Int32) = (0 : Int32)))).2) (by decide) (by decide) ?_
    show Steps p.tables e below (s₁.setTop (mkF m 20 #[iv p0, iv (2 : Int32), .unset, .unset, .unset, .unset] [])) _
    refine XS.iloadN X0.here hx rfl (hb hby at_20) rfl ?_
    show Steps p.tables e below (s₁.setTop (mkF m 21 #[iv p0, iv (2 : Int32), .unset, .unset, .unset, .unset] [(.int (2 : Int32))])) _
    refine XS.iconst X0.here hx rfl (hb hby at_21) ?_
    show Steps p.tables e below (s₁.setTop (mkF m 22 #[iv p0, iv (2 : Int32), .unset, .unset, .unset, .unset] [(.int (1 : Int32)), (.int (2 : Int32))])) _
    refine XS.icmpYes X0.here hx rfl (pc0 := 22) (pc' := 36) rfl (hb hby at_22) rfl (feq (by decide +kernel : ¬ ((2 : Int32) = (1 : Int32)))).2 (by decide) (by decide) ?_
    show Steps p.tables e below (s₁.setTop (mkF m 36 #[iv p0, iv (2 : Int32), .unset, .unset, .unset, .unset] [])) _
    refine st1 _ ?_
    show Steps p.tables e below (T1.setTop (mkF m 39 #[iv p0, iv (2 : Int32), .unset, .unset, .unset, .unset] [(.ref w_BenchWorkload_CLI_HOLD10)])) _
    refine XS.astoreN X1.here hx rfl (hb hby at_39) rfl rfl (l' := #[iv p0, iv (2 : Int32), rv w_BenchWorkload_CLI_HOLD10, .unset, .unset, .unset]) rfl ?_
    show Steps p.tables e below (T1.setTop (mkF m 40 #[iv p0, iv (2 : Int32), rv w_BenchWorkload_CLI_HOLD10, .unset, .unset, .unset] [])) _
    refine XS.sipush X1.here hx rfl (hb hby at_40) ?_
    show Steps p.tables e below (T1.setTop (mkF m 43 #[iv p0, iv (2 : Int32), rv w_BenchWorkload_CLI_HOLD10, .unset, .unset, .unset] [(.int (150 : Int32))])) _
    refine XS.istoreN X1.here hx rfl (hb hby at_43) rfl (l' := #[iv p0, iv (2 : Int32), rv w_BenchWorkload_CLI_HOLD10, iv (150 : Int32), .unset, .unset]) rfl ?_
    show Steps p.tables e below (T1.setTop (mkF m 44 #[iv p0, iv (2 : Int32), rv w_BenchWorkload_CLI_HOLD10, iv (150 : Int32), .unset, .unset] [])) _
    refine XS.aloadN X1.here hx rfl (hb hby at_44) rfl rfl ?_
    show Steps p.tables e below (T1.setTop (mkF m 45 #[iv p0, iv (2 : Int32), rv w_BenchWorkload_CLI_HOLD10, iv (150 : Int32), .unset, .unset] [(.ref w_BenchWorkload_CLI_HOLD10)])) _
    refine st2.trans ?_
    show Steps p.tables e below (T2.setTop (mkF m 48 #[iv p0, iv (2 : Int32), rv w_BenchWorkload_CLI_HOLD10, iv (150 : Int32), .unset, .unset] [(.int (150 : Int32))])) _
    refine XS.istore X2.here hx rfl (hb hby at_48) rfl (l' := #[iv p0, iv (2 : Int32), rv w_BenchWorkload_CLI_HOLD10, iv (150 : Int32), iv (150 : Int32), .unset]) rfl ?_
    show Steps p.tables e below (T2.setTop (mkF m 50 #[iv p0, iv (2 : Int32), rv w_BenchWorkload_CLI_HOLD10, iv (150 : Int32), iv (150 : Int32), .unset] [])) _
    refine XS.aloadN X2.here hx rfl (hb hby at_50) rfl rfl ?_
    show Steps p.tables e below (T2.setTop (mkF m 51 #[iv p0, iv (2 : Int32), rv w_BenchWorkload_CLI_HOLD10, iv (150 : Int32), iv (150 : Int32), .unset] [(.ref w_BenchWorkload_CLI_HOLD10)])) _
    refine st3.trans ?_
    show Steps p.tables e below (T3.setTop (mkF m 54 #[iv p0, iv (2 : Int32), rv w_BenchWorkload_CLI_HOLD10, iv (150 : Int32), iv (150 : Int32), .unset] [(.int (1 : Int32))])) _
    refine XS.ifNo X3.here hx rfl (hb hby at_54) rfl ((if0 _ _).trans (feq (by decide +kernel : ¬ ((1 : Int32) = (0 : Int32)))).1) ?_
    show Steps p.tables e below (T3.setTop (mkF m 57 #[iv p0, iv (2 : Int32), rv w_BenchWorkload_CLI_HOLD10, iv (150 : Int32), iv (150 : Int32), .unset] [])) _
    refine XS.iconst X3.here hx rfl (hb hby at_57) ?_
    show Steps p.tables e below (T3.setTop (mkF m 58 #[iv p0, iv (2 : Int32), rv w_BenchWorkload_CLI_HOLD10, iv (150 : Int32), iv (150 : Int32), .unset] [(.int (1 : Int32))])) _
    refine XS.goto X3.here hx rfl (pc0 := 58) (pc' := 62) rfl (hb hby at_58) (by decide) (by decide) ?_
    show Steps p.tables e below (T3.setTop (mkF m 62 #[iv p0, iv (2 : Int32), rv w_BenchWorkload_CLI_HOLD10, iv (150 : Int32), iv (150 : Int32), .unset] [(.int (1 : Int32))])) _
    refine XS.istore X3.here hx rfl (hb hby at_62) rfl (l' := #[iv p0, iv (2 : Int32), rv w_BenchWorkload_CLI_HOLD10, iv (150 : Int32), iv (150 : Int32), iv (1 : Int32)]) rfl ?_
    show Steps p.tables e below (T3.setTop (mkF m 64 #[iv p0, iv (2 : Int32), rv w_BenchWorkload_CLI_HOLD10, iv (150 : Int32), iv (150 : Int32), iv (1 : Int32)] [])) _
    refine XS.iload X3.here hx rfl (hb hby at_64) rfl ?_
    show Steps p.tables e below (T3.setTop (mkF m 66 #[iv p0, iv (2 : Int32), rv w_BenchWorkload_CLI_HOLD10, iv (150 : Int32), iv (150 : Int32), iv (1 : Int32)] [(.int (150 : Int32))])) _
    refine XS.iloadN X3.here hx rfl (hb hby at_66) rfl ?_
    show Steps p.tables e below (T3.setTop (mkF m 67 #[iv p0, iv (2 : Int32), rv w_BenchWorkload_CLI_HOLD10, iv (150 : Int32), iv (150 : Int32), iv (1 : Int32)] [(.int (150 : Int32)), (.int (150 : Int32))])) _
    refine XS.icmpNo X3.here hx rfl (hb hby at_67) rfl (teq (by decide +kernel : (150 : Int32) = (150 : Int32))).2 ?_
    show Steps p.tables e below (T3.setTop (mkF m 70 #[iv p0, iv (2 : Int32), rv w_BenchWorkload_CLI_HOLD10, iv (150 : Int32), iv (150 : Int32), iv (1 : Int32)] [])) _
    refine XS.iload X3.here hx rfl (hb hby at_70) rfl ?_
    show Steps p.tables e below (T3.setTop (mkF m 72 #[iv p0, iv (2 : Int32), rv w_BenchWorkload_CLI_HOLD10, iv (150 : Int32), iv (150 : Int32), iv (1 : Int32)] [(.int (150 : Int32))])) _
    refine XS.iload X3.here hx rfl (hb hby at_72) rfl ?_
    show Steps p.tables e below (T3.setTop (mkF m 74 #[iv p0, iv (2 : Int32), rv w_BenchWorkload_CLI_HOLD10, iv (150 : Int32), iv (150 : Int32), iv (1 : Int32)] [(.int (1 : Int32)), (.int (150 : Int32))])) _
    refine XS.iconst X3.here hx rfl (hb hby at_74) ?_
    show Steps p.tables e below (T3.setTop (mkF m 75 #[iv p0, iv (2 : Int32), rv w_BenchWorkload_CLI_HOLD10, iv (150 : Int32), iv (150 : Int32), iv (1 : Int32)] [(.int (3 : Int32)), (.int (1 : Int32)), (.int (150 : Int32))])) _
    refine XS.imul X3.here hx rfl (hb hby at_75) rfl ?_
    show Steps p.tables e below (T3.setTop (mkF m 76 #[iv p0, iv (2 : Int32), rv w_BenchWorkload_CLI_HOLD10, iv (150 : Int32), iv (150 : Int32), iv (1 : Int32)] [(.int ((1 : Int32) * (3 : Int32))), (.int (150 : Int32))])) _
    rewrite [show ((1 : Int32) * (3 : Int32)) = (3 : Int32) from by decide +kernel]
    show Steps p.tables e below (T3.setTop (mkF m 76 #[iv p0, iv (2 : Int32), rv w_BenchWorkload_CLI_HOLD10, iv (150 : Int32), iv (150 : Int32), iv (1 : Int32)] [(.int (3 : Int32)), (.int (150 : Int32))])) _
    refine XS.aloadN X3.here hx rfl (hb hby at_76) rfl rfl ?_
    show Steps p.tables e below (T3.setTop (mkF m 77 #[iv p0, iv (2 : Int32), rv w_BenchWorkload_CLI_HOLD10, iv (150 : Int32), iv (150 : Int32), iv (1 : Int32)] [(.ref w_BenchWorkload_CLI_HOLD10), (.int (3 : Int32)), (.int (150 : Int32))])) _
    refine st4.trans ?_
    show Steps p.tables e below (T4.setTop (mkF m 80 #[iv p0, iv (2 : Int32), rv w_BenchWorkload_CLI_HOLD10, iv (150 : Int32), iv (150 : Int32), iv (1 : Int32)] [(.int (50 : Int32)), (.int (3 : Int32)), (.int (150 : Int32))])) _
    refine XS.imul X4.here hx rfl (hb hby at_80) rfl ?_
    show Steps p.tables e below (T4.setTop (mkF m 81 #[iv p0, iv (2 : Int32), rv w_BenchWorkload_CLI_HOLD10, iv (150 : Int32), iv (150 : Int32), iv (1 : Int32)] [(.int ((3 : Int32) * (50 : Int32))), (.int (150 : Int32))])) _
    rewrite [show ((3 : Int32) * (50 : Int32)) = (150 : Int32) from by decide +kernel]
    show Steps p.tables e below (T4.setTop (mkF m 81 #[iv p0, iv (2 : Int32), rv w_BenchWorkload_CLI_HOLD10, iv (150 : Int32), iv (150 : Int32), iv (1 : Int32)] [(.int (150 : Int32)), (.int (150 : Int32))])) _
    refine XS.icmpNo X4.here hx rfl (hb hby at_81) rfl (teq (by decide +kernel : (150 : Int32) = (150 : Int32))).2 ?_
    show Steps p.tables e below (T4.setTop (mkF m 84 #[iv p0, iv (2 : Int32), rv w_BenchWorkload_CLI_HOLD10, iv (150 : Int32), iv (150 : Int32), iv (1 : Int32)] [])) _
    refine XS.iconst X4.here hx rfl (hb hby at_84) ?_
    show Steps p.tables e below (T4.setTop (mkF m 85 #[iv p0, iv (2 : Int32), rv w_BenchWorkload_CLI_HOLD10, iv (150 : Int32), iv (150 : Int32), iv (1 : Int32)] [(.int (1 : Int32))])) _
    refine XS.goto X4.here hx rfl (pc0 := 85) (pc' := 89) rfl (hb hby at_85) (by decide) (by decide) ?_
    show Steps p.tables e below (T4.setTop (mkF m 89 #[iv p0, iv (2 : Int32), rv w_BenchWorkload_CLI_HOLD10, iv (150 : Int32), iv (150 : Int32), iv (1 : Int32)] [(.int (1 : Int32))])) _
    exact retN X4 hx (t := .boolean) Bd.returns (by simp) (hb hby at_89) hr
  · exact ⟨rfl, N4⟩
theorem rm0 (l : Launch) (Z : State) (a0 : Array Value) (hw : ∀ d ∈ tables_1, d.before a0 Z = true) (ws : List Jvm.Cond) (p0 : Int32) (w_BenchWorkload_INPROC_NOHOLD : Addr) (w_BenchWorkload_CLI_HOLD10 : Addr) (w_BenchWorkload_INPROC_HOLD10 : Addr) (h0 : Heap) (n0 : Nat) (Z0 : n0 ≤ h0.size) (S_BenchWorkload_INPROC_NOHOLD : Sta Z h0 "com/example/stile/stile/BenchWorkload" "INPROC_NOHOLD" "Lcom/example/stile/stile/BenchWorkload;" (.ref w_BenchWorkload_INPROC_NOHOLD)) (F_w_BenchWorkload_INPROC_NOHOLD_counts : Fld Z h0 w_BenchWorkload_INPROC_NOHOLD "com/example/stile/stile/BenchWorkload" "counts" "Z" (.int (0 : Int32))) (E_w_BenchWorkload_INPROC_NOHOLD : Exa Z h0 w_BenchWorkload_INPROC_NOHOLD "com/example/stile/stile/BenchWorkload") (F_w_BenchWorkload_INPROC_NOHOLD_entries : Fld Z h0 w_BenchWorkload_INPROC_NOHOLD "com/example/stile/stile/BenchWorkload" "entries" "I" (.int (500 : Int32))) (S_BenchWorkload_INPROC_HOLD10 : Sta Z h0 "com/example/stile/stile/BenchWorkload" "INPROC_HOLD10" "Lcom/example/stile/stile/BenchWorkload;" (.ref w_BenchWorkload_INPROC_HOLD10)) (F_w_BenchWorkload_INPROC_HOLD10_counts : Fld Z h0 w_BenchWorkload_INPROC_HOLD10 "com/example/stile/stile/BenchWorkload" "counts" "Z" (.int (1 : Int32))) (F_w_BenchWorkload_INPROC_HOLD10_entries : Fld Z h0 w_BenchWorkload_INPROC_HOLD10 "com/example/stile/stile/BenchWorkload" "entries" "I" (.int (50 : Int32))) (E_w_BenchWorkload_INPROC_HOLD10 : Exa Z h0 w_BenchWorkload_INPROC_HOLD10 "com/example/stile/stile/BenchWorkload") (S_BenchWorkload_CLI_HOLD10 : Sta Z h0 "com/example/stile/stile/BenchWorkload" "CLI_HOLD10" "Lcom/example/stile/stile/BenchWorkload;" (.ref w_BenchWorkload_CLI_HOLD10)) (F_w_BenchWorkload_CLI_HOLD10_counts : Fld Z h0 w_BenchWorkload_CLI_HOLD10 "com/example/stile/stile/BenchWorkload" "counts" "Z" (.int (1 : Int32))) (F_w_BenchWorkload_CLI_HOLD10_entries : Fld Z h0 w_BenchWorkload_CLI_HOLD10 "com/example/stile/stile/BenchWorkload" "entries" "I" (.int (50 : Int32))) (E_w_BenchWorkload_CLI_HOLD10 : Exa Z h0 w_BenchWorkload_CLI_HOLD10 "com/example/stile/stile/BenchWorkload") :
    MetFree l x (head1 (Jvm.Cond.code x code maxLocals ret :: ws) room_1) (fun a U => a = #[(.int p0)] ∧ Z.Warmed39 U.vm ∧ U.heap = h0) (fun _ _ _ _ _ => True) (fun _ U o U' => ∃ v L, o = .returned v ∧ own_QL n0 v U'.heap L ∧ FrameEnd U o U' L room_1.cells room_1.slots) := by
  rcases own_s0 p0 with hk0 | hk0 | hk0
  · exact rm0_0 l Z a0 hw ws p0 w_BenchWorkload_INPROC_NOHOLD h0 n0 Z0 hk0 S_BenchWorkload_INPROC_NOHOLD F_w_BenchWorkload_INPROC_NOHOLD_counts E_w_BenchWorkload_INPROC_NOHOLD F_w_BenchWorkload_INPROC_NOHOLD_entries
  · exact rm0_1 l Z a0 hw ws p0 w_BenchWorkload_INPROC_HOLD10 h0 n0 Z0 hk0 S_BenchWorkload_INPROC_HOLD10 F_w_BenchWorkload_INPROC_HOLD10_counts F_w_BenchWorkload_INPROC_HOLD10_entries E_w_BenchWorkload_INPROC_HOLD10
  · exact rm0_2 l Z a0 hw ws p0 w_BenchWorkload_CLI_HOLD10 h0 n0 Z0 hk0 S_BenchWorkload_CLI_HOLD10 F_w_BenchWorkload_CLI_HOLD10_counts F_w_BenchWorkload_CLI_HOLD10_entries E_w_BenchWorkload_CLI_HOLD10
set_option maxRecDepth 65536 in
set_option maxHeartbeats 40000000 in
theorem comes_1 {Post : Tables → Env → Array Value → State → Outcome → State → Prop} (hpost : ∀ tb e args s v u, (limb_1_1.after args s (.returned v) u = true ∧ limb_1_2.after args s (.returned v) u = true ∧ True) → FrameEnd s (.returned v) u (Jvm.fieldLocs frame_1_writes args s ++ Jvm.arrayLocs frame_1_arrays args s ++ Jvm.staticLocs frame_1_statics s) 0 0 → Post tb e args s (.returned v) u) :
    ArmFor flags0 classFile x code maxLocals ret World_1 tables_1 room_1 Calls_1 rest_1 Pre_1 Post := by
  intro l hfl _ _ p e ha hc hk s m args below hf hA hF happ hP
  obtain ⟨hcalls, hrest, hpre⟩ := hP
  obtain ⟨-, -, -, hnamed, -, -, -, hat⟩ := (Spec.applies_iff hf).mp happ
  obtain ⟨hg, hn⟩ := and_e (Cond.before_iff.mp (show (Jvm.Cond.and given_1 narrow_1).before args s = true from hpre))
  obtain ⟨g0, g0r⟩ := and_e hg
  obtain ⟨v0, rfl⟩ : ∃ v0 : Value, args = #[v0] := by
    have hs : args.size = 1 := by simpa [Cond.value, given_1] using g0
    obtain ⟨L⟩ := args
    match L, hs with
    | [v0], _ => exact ⟨v0, rfl⟩
  have hw := fun d (hd : d ∈ tables_1) => atoms_spec (ws := Jvm.Cond.code x code maxLocals ret :: tables_1) hat d (List.mem_cons_of_mem _ hd)
  have hfit : Fit s := fun {y c} hc i hi => by
    obtain ⟨ha, rfl⟩ := Array.getElem?_eq_some_iff.mp hc
    have q := List.all_eq_true.mp ((Array.all_eq_true_iff_forall_mem.mp hF) _ (Array.getElem_mem ha)) i (List.mem_range.mpr hi)
    simpa [Array.getElem?_eq_getElem hi] using q
  obtain ⟨p0, ei0⟩ := is_v g0r
  obtain rfl : v0 = (.int p0) := Option.some.inj ei0
  obtain ⟨n0, n0r⟩ := and_e hn
  obtain ⟨n1, n1r⟩ := and_e n0r
  obtain ⟨n2, n2r⟩ := and_e n1r
  obtain ⟨n3, n3r⟩ := and_e n2r
  obtain ⟨n4, n4r⟩ := and_e n3r
  obtain ⟨n5, n5r⟩ := and_e n4r
  obtain ⟨n6, n6r⟩ := and_e n5r
  obtain ⟨n7, n7r⟩ := and_e n6r
  obtain ⟨w_BenchWorkload_INPROC_NOHOLD, ev_w_BenchWorkload_INPROC_NOHOLD⟩ := exa_v n0
  have S_BenchWorkload_INPROC_NOHOLD : Sta s s.heap "com/example/stile/stile/BenchWorkload" "INPROC_NOHOLD" "Lcom/example/stile/stile/BenchWorkload;" (.ref w_BenchWorkload_INPROC_NOHOLD) := Sta.start ev_w_BenchWorkload_INPROC_NOHOLD (Or.inr ⟨(hw _ (List.mem_of_getElem? (i := 2) rfl)), (hw _ (List.mem_of_getElem? (i := 3) rfl))⟩)
  have E_w_BenchWorkload_INPROC_NOHOLD : Exa s s.heap w_BenchWorkload_INPROC_NOHOLD "com/example/stile/stile/BenchWorkload" := Exa.start ev_w_BenchWorkload_INPROC_NOHOLD n0
  obtain ⟨w_BenchWorkload_CLI_HOLD10, ev_w_BenchWorkload_CLI_HOLD10⟩ := exa_v n3
  have S_BenchWorkload_CLI_HOLD10 : Sta s s.heap "com/example/stile/stile/BenchWorkload" "CLI_HOLD10" "Lcom/example/stile/stile/BenchWorkload;" (.ref w_BenchWorkload_CLI_HOLD10) := Sta.start ev_w_BenchWorkload_CLI_HOLD10 (Or.inr ⟨(hw _ (List.mem_of_getElem? (i := 2) rfl)), (hw _ (List.mem_of_getElem? (i := 24) rfl))⟩)
  have E_w_BenchWorkload_CLI_HOLD10 : Exa s s.heap w_BenchWorkload_CLI_HOLD10 "com/example/stile/stile/BenchWorkload" := Exa.start ev_w_BenchWorkload_CLI_HOLD10 n3
  obtain ⟨w_BenchWorkload_INPROC_HOLD10, ev_w_BenchWorkload_INPROC_HOLD10⟩ := exa_v n6
  have S_BenchWorkload_INPROC_HOLD10 : Sta s s.heap "com/example/stile/stile/BenchWorkload" "INPROC_HOLD10" "Lcom/example/stile/stile/BenchWorkload;" (.ref w_BenchWorkload_INPROC_HOLD10) := Sta.start ev_w_BenchWorkload_INPROC_HOLD10 (Or.inr ⟨(hw _ (List.mem_of_getElem? (i := 2) rfl)), (hw _ (List.mem_of_getElem? (i := 26) rfl))⟩)
  have E_w_BenchWorkload_INPROC_HOLD10 : Exa s s.heap w_BenchWorkload_INPROC_HOLD10 "com/example/stile/stile/BenchWorkload" := Exa.start ev_w_BenchWorkload_INPROC_HOLD10 n6
  have F_w_BenchWorkload_INPROC_NOHOLD_counts : Fld s s.heap w_BenchWorkload_INPROC_NOHOLD "com/example/stile/stile/BenchWorkload" "counts" "Z" (.int (0 : Int32)) := Fld.start ((fld_at ev_w_BenchWorkload_INPROC_NOHOLD).symm.trans (own_eqv n1 (Term.int_eval _) (Or.inr ⟨_, rfl⟩)))
  have F_w_BenchWorkload_INPROC_NOHOLD_entries : Fld s s.heap w_BenchWorkload_INPROC_NOHOLD "com/example/stile/stile/BenchWorkload" "entries" "I" (.int (500 : Int32)) := Fld.start ((fld_at ev_w_BenchWorkload_INPROC_NOHOLD).symm.trans (own_eqv n2 (Term.int_eval _) (Or.inr ⟨_, rfl⟩)))
  have F_w_BenchWorkload_CLI_HOLD10_counts : Fld s s.heap w_BenchWorkload_CLI_HOLD10 "com/example/stile/stile/BenchWorkload" "counts" "Z" (.int (1 : Int32)) := Fld.start ((fld_at ev_w_BenchWorkload_CLI_HOLD10).symm.trans (own_eqv n4 (Term.int_eval _) (Or.inr ⟨_, rfl⟩)))
  have F_w_BenchWorkload_CLI_HOLD10_entries : Fld s s.heap w_BenchWorkload_CLI_HOLD10 "com/example/stile/stile/BenchWorkload" "entries" "I" (.int (50 : Int32)) := Fld.start ((fld_at ev_w_BenchWorkload_CLI_HOLD10).symm.trans (own_eqv n5 (Term.int_eval _) (Or.inr ⟨_, rfl⟩)))
  have F_w_BenchWorkload_INPROC_HOLD10_counts : Fld s s.heap w_BenchWorkload_INPROC_HOLD10 "com/example/stile/stile/BenchWorkload" "counts" "Z" (.int (1 : Int32)) := Fld.start ((fld_at ev_w_BenchWorkload_INPROC_HOLD10).symm.trans (own_eqv n7 (Term.int_eval _) (Or.inr ⟨_, rfl⟩)))
  have F_w_BenchWorkload_INPROC_HOLD10_entries : Fld s s.heap w_BenchWorkload_INPROC_HOLD10 "com/example/stile/stile/BenchWorkload" "entries" "I" (.int (50 : Int32)) := Fld.start ((fld_at ev_w_BenchWorkload_INPROC_HOLD10).symm.trans (own_eqv n7r (Term.int_eval _) (Or.inr ⟨_, rfl⟩)))
  obtain ⟨n, o, h1, h2, h3, _, L, rfl, ⟨rfl, N⟩, hq⟩ := rm0 l s _ hw tables_1 p0 w_BenchWorkload_INPROC_NOHOLD w_BenchWorkload_CLI_HOLD10 w_BenchWorkload_INPROC_HOLD10 s.heap s.heap.size (Nat.le_refl _) S_BenchWorkload_INPROC_NOHOLD F_w_BenchWorkload_INPROC_NOHOLD_counts E_w_BenchWorkload_INPROC_NOHOLD F_w_BenchWorkload_INPROC_NOHOLD_entries S_BenchWorkload_INPROC_HOLD10 F_w_BenchWorkload_INPROC_HOLD10_counts F_w_BenchWorkload_INPROC_HOLD10_entries E_w_BenchWorkload_INPROC_HOLD10 S_BenchWorkload_CLI_HOLD10 F_w_BenchWorkload_CLI_HOLD10_counts F_w_BenchWorkload_CLI_HOLD10_entries E_w_BenchWorkload_CLI_HOLD10 p e ha hc hk s m _ below hf ((Spec.applies_iff_loose hf).mp happ).1 ⟨rfl, State.Warmed39.refl s, rfl⟩ trivial
  refine ⟨n, _, h1, h2, h3, hpost _ _ _ _ _ _ ⟨Cond.after_iff.mpr rfl, Cond.after_iff.mpr (eq_i res_at (Term.int_eval (1)) rfl), trivial⟩ ⟨hq.1, hq.2.1, (hq.2.2.sift fun y hy => Or.inr (N y hy)).mono (by decide) (by decide)⟩⟩
theorem main_1_1 : Claimed_1_1 := comes_1 fun _ _ _ _ _ _ h hF => ⟨h.1, hF⟩
theorem main_1_2 : Claimed_1_2 := comes_1 fun _ _ _ _ _ _ h hF => ⟨h.2.1, hF⟩
end Jvm.Pilot.@@N@@
namespace Jvm.Pilot.@@N@@
open Jvm Jvm.ClassFile Sem Op Lib Jvm.Free Jvm.Stand Jvm.Pilot.@@N@@.Jvm.D
/-! MADE BY PROGRAM (witnessworld.py) out of the Statement's table words and the real class files: 12 classes; the members and pool entries that the words name. The judged class is class 1, her method 1. -/
namespace start1
open Jvm.ClassFile
def u (s : String) : CpInfo := .utf8 (stringToUtf16 s)
/-- a pool by its gaps: so many unusable entries, then the entry; so many at the end -/
def gap : Nat → List CpInfo → List CpInfo
  | 0, r => r
  | n + 1, r => .unusable :: gap n r
def poolList (es : List (Nat × CpInfo)) (last : Nat) : List CpInfo := es.foldr (fun e r => gap e.1 (e.2 :: r)) (gap last [])
def pool (es : List (Nat × CpInfo)) (last : Nat) : Array CpInfo := ⟨poolList es last⟩
def fileOf (pool : Array CpInfo) (this : Nat) (attrs : Array Attribute := #[]) (ms : Array MethodInfo := #[]) (fl : Nat := 33) (sup : Nat := 0) (ifs : Array Nat := #[]) (fds : Array FieldInfo := #[]) : ClassFile where
  minorVersion := 0
  majorVersion := 65
  constantPool := pool
  accessFlags := fl
  thisClass := this
  superClass := sup
  interfaces := ifs
  fields := fds
  methods := ms
  attributes := attrs
def plain (name : String) (sup : Option ClassId) : Class where
  name := name
  kind := .ordinary
  loader := none
  accessFlags := 33
  super := sup
  interfaces := #[]
  cf := none
  fields := #[]
  methods := #[]
  instanceTypes := #[]
  staticTypes := #[]
  resolved := #[]
  callSites := []
  init := .initialized
  statics := none
  mirror := none

def pool0 : Array CpInfo := pool [(5, u "<init>"), (0, u "()V"), (1, .class_ 10), (1, u "java/lang/Object")] 113

def k0m0 : Method := { name := "<init>", desc := "()V", sig := { parameters := [], returnType := none }, accessFlags := 1, code := none }
/-- java/lang/Object -/
def k0 : Class := { plain "java/lang/Object" none with
  accessFlags := 33
  interfaces := #[]
  cf := some (fileOf pool0 8 #[] #[{ accessFlags := 1, nameIndex := 5, descriptorIndex := 6, attributes := #[] }] 33 0 #[] #[])
  fields := #[]
  methods := #[k0m0]
  instanceTypes := #[]
  staticTypes := #[]
  resolved := Array.replicate 124 none
  statics := none }

def pool1 : Array CpInfo := pool [(2, .class_ 4), (1, u "java/lang/Object"), (0, u "<init>"), (0, u "()V"), (0, .integer 2147483647), (0, .fieldref 9 10), (0, .class_ 11), (0, .nameAndType 12 13), (0, u "com/example/stile/stile/BenchWorkload"), (0, u "INPROC_NOHOLD"), (0, u "Lcom/example/stile/stile/BenchWorkload;"), (0, .fieldref 9 15), (0, .nameAndType 16 13), (0, u "INPROC_HOLD10"), (0, .fieldref 9 18), (0, .nameAndType 19 13), (0, u "CLI_HOLD10"), (0, .methodref 9 21), (0, .nameAndType 22 23), (0, u "expectedCount"), (0, u "()I"), (0, .methodref 9 25), (0, .nameAndType 26 27), (0, u "counts"), (0, u "()Z"), (0, .methodref 9 29), (0, .nameAndType 30 23), (0, u "entries"), (0, .class_ 32), (0, u "com/example/stile/stile/BenchWorkloadExpectedCountPinLaw"), (2, u "law"), (0, u "(I)Z")] 3

def k1m0 : Method := { name := "<init>", desc := "()V", sig := { parameters := [], returnType := none }, accessFlags := 1, code := none }
def k1c1 : Code := { maxStack := 3, maxLocals := 6, code := code, exceptionTable := #[], attributes := #[] }
def k1m1 : Method := { name := "law", desc := "(I)Z", sig := { parameters := [.int], returnType := some .boolean }, accessFlags := 9, code := some k1c1 }
/-- com/example/stile/stile/BenchWorkloadExpectedCountPinLaw -/
def k1 : Class := { plain "com/example/stile/stile/BenchWorkloadExpectedCountPinLaw" (some 0) with
  accessFlags := 49
  interfaces := #[]
  cf := some (fileOf pool1 31 #[] #[{ accessFlags := 1, nameIndex := 5, descriptorIndex := 6, attributes := #[] }, { accessFlags := 9, nameIndex := 35, descriptorIndex := 36, attributes := #[] }] 49 2 #[] #[])
  fields := #[]
  methods := #[k1m0, k1m1]
  instanceTypes := #[]
  staticTypes := #[]
  resolved := Array.replicate 40 none
  statics := none }

def pool2 : Array CpInfo := pool [(1, .class_ 2), (0, u "java/lang/constant/Constable"), (0, .class_ 4), (0, u "java/lang/Object")] 6

/-- java/lang/constant/Constable -/
def k2 : Class := { plain "java/lang/constant/Constable" (some 0) with
  accessFlags := 1537
  interfaces := #[]
  cf := some (fileOf pool2 1 #[] #[] 1537 3 #[] #[])
  fields := #[]
  methods := #[]
  instanceTypes := #[]
  staticTypes := #[]
  resolved := Array.replicate 11 none
  statics := none }

def pool3 : Array CpInfo := pool [(1, .class_ 2), (0, u "java/lang/Comparable"), (0, .class_ 4), (0, u "java/lang/Object")] 7

/-- java/lang/Comparable -/
def k3 : Class := { plain "java/lang/Comparable" (some 0) with
  accessFlags := 1537
  interfaces := #[]
  cf := some (fileOf pool3 1 #[] #[] 1537 3 #[] #[])
  fields := #[]
  methods := #[]
  instanceTypes := #[]
  staticTypes := #[]
  resolved := Array.replicate 12 none
  statics := none }

def pool4 : Array CpInfo := pool [(1, .class_ 2), (0, u "java/io/Serializable"), (0, .class_ 4), (0, u "java/lang/Object")] 2

/-- java/io/Serializable -/
def k4 : Class := { plain "java/io/Serializable" (some 0) with
  accessFlags := 1537
  interfaces := #[]
  cf := some (fileOf pool4 1 #[] #[] 1537 3 #[] #[])
  fields := #[]
  methods := #[]
  instanceTypes := #[]
  staticTypes := #[]
  resolved := Array.replicate 7 none
  statics := none }

def pool5 : Array CpInfo := pool [(2, .class_ 4), (1, u "java/lang/Enum"), (0, u "name"), (0, u "Ljava/lang/String;"), (2, u "ordinal"), (0, u "I"), (1, .class_ 14), (1, u "java/lang/Object"), (4, u "hash"), (86, .class_ 108), (1, u "java/lang/Enum$EnumDesc"), (2, .class_ 112), (0, u "java/lang/constant/Constable"), (0, .class_ 114), (0, u "java/lang/Comparable"), (0, .class_ 116), (0, u "java/io/Serializable")] 87

/-- java/lang/Enum -/
def k5 : Class := { plain "java/lang/Enum" (some 0) with
  accessFlags := 1057
  interfaces := #[2, 3, 4]
  cf := some (fileOf pool5 2 #[.nestMembers #[106]] #[] 1057 12 #[111, 113, 115] #[{ accessFlags := 18, nameIndex := 5, descriptorIndex := 6, attributes := #[] }, { accessFlags := 18, nameIndex := 9, descriptorIndex := 10, attributes := #[] }, { accessFlags := 2, nameIndex := 19, descriptorIndex := 10, attributes := #[] }])
  fields := #[{ name := "name", type := (.object "java/lang/String"), accessFlags := 18, slot := 0, constantValue := 0 }, { name := "ordinal", type := .int, accessFlags := 18, slot := 1, constantValue := 0 }, { name := "hash", type := .int, accessFlags := 2, slot := 2, constantValue := 0 }]
  methods := #[]
  instanceTypes := #[(.object "java/lang/String"), .int, .int]
  staticTypes := #[]
  resolved := Array.replicate 204 none
  statics := none }

def pool6 : Array CpInfo := pool [(1, .class_ 2), (0, u "com/example/stile/stile/BenchWorkload"), (2, u "INPROC_NOHOLD"), (0, u "Lcom/example/stile/stile/BenchWorkload;"), (2, u "INPROC_HOLD10"), (2, u "CLI_HOLD10"), (2, u "$VALUES"), (0, u "[Lcom/example/stile/stile/BenchWorkload;"), (6, .class_ 25), (1, u "java/lang/Enum"), (8, u "label"), (0, u "Ljava/lang/String;"), (2, u "inProcess"), (0, u "Z"), (0, .fieldref 1 41), (0, .nameAndType 42 43), (0, u "entries"), (0, u "I"), (0, .fieldref 1 45), (0, .nameAndType 46 39), (0, u "counts"), (34, u "COUNTER_COMMAND"), (3, u "MEMBERS"), (1, u "HOLD_MILLIS"), (0, u "J"), (9, u "()Z"), (0, u "()I"), (0, u "expectedCount")] 22

def k6c0 : Code := { maxStack := 1, maxLocals := 1, code := prog_10_method_6_code, exceptionTable := #[], attributes := #[] }
def k6m0 : Method := { name := "entries", desc := "()I", sig := { parameters := [], returnType := some .int }, accessFlags := 0, code := some k6c0 }
def k6c1 : Code := { maxStack := 1, maxLocals := 1, code := prog_10_method_7_code, exceptionTable := #[], attributes := #[] }
def k6m1 : Method := { name := "counts", desc := "()Z", sig := { parameters := [], returnType := some .boolean }, accessFlags := 0, code := some k6c1 }
def k6c2 : Code := { maxStack := 2, maxLocals := 1, code := prog_10_method_8_code, exceptionTable := #[], attributes := #[] }
def k6m2 : Method := { name := "expectedCount", desc := "()I", sig := { parameters := [], returnType := some .int }, accessFlags := 0, code := some k6c2 }
/-- com/example/stile/stile/BenchWorkload -/
def k6 : Class := { plain "com/example/stile/stile/BenchWorkload" (some 5) with
  accessFlags := 16432
  interfaces := #[]
  cf := some (fileOf pool6 1 #[] #[{ accessFlags := 0, nameIndex := 42, descriptorIndex := 99, attributes := #[] }, { accessFlags := 0, nameIndex := 46, descriptorIndex := 98, attributes := #[] }, { accessFlags := 0, nameIndex := 100, descriptorIndex := 99, attributes := #[] }] 16432 23 #[] #[{ accessFlags := 16409, nameIndex := 5, descriptorIndex := 6, attributes := #[] }, { accessFlags := 16409, nameIndex := 9, descriptorIndex := 6, attributes := #[] }, { accessFlags := 16409, nameIndex := 12, descriptorIndex := 6, attributes := #[] }, { accessFlags := 24, nameIndex := 81, descriptorIndex := 35, attributes := #[] }, { accessFlags := 24, nameIndex := 85, descriptorIndex := 43, attributes := #[] }, { accessFlags := 24, nameIndex := 87, descriptorIndex := 88, attributes := #[] }, { accessFlags := 18, nameIndex := 34, descriptorIndex := 35, attributes := #[] }, { accessFlags := 18, nameIndex := 38, descriptorIndex := 39, attributes := #[] }, { accessFlags := 18, nameIndex := 42, descriptorIndex := 43, attributes := #[] }, { accessFlags := 18, nameIndex := 46, descriptorIndex := 39, attributes := #[] }, { accessFlags := 4122, nameIndex := 15, descriptorIndex := 16, attributes := #[] }])
  fields := #[{ name := "INPROC_NOHOLD", type := (.object "com/example/stile/stile/BenchWorkload"), accessFlags := 16409, slot := 0, constantValue := 0 }, { name := "INPROC_HOLD10", type := (.object "com/example/stile/stile/BenchWorkload"), accessFlags := 16409, slot := 1, constantValue := 0 }, { name := "CLI_HOLD10", type := (.object "com/example/stile/stile/BenchWorkload"), accessFlags := 16409, slot := 2, constantValue := 0 }, { name := "COUNTER_COMMAND", type := (.object "java/lang/String"), accessFlags := 24, slot := 3, constantValue := 0 }, { name := "MEMBERS", type := .int, accessFlags := 24, slot := 4, constantValue := 0 }, { name := "HOLD_MILLIS", type := .long, accessFlags := 24, slot := 5, constantValue := 0 }, { name := "label", type := (.object "java/lang/String"), accessFlags := 18, slot := 3, constantValue := 0 }, { name := "inProcess", type := .boolean, accessFlags := 18, slot := 4, constantValue := 0 }, { name := "entries", type := .int, accessFlags := 18, slot := 5, constantValue := 0 }, { name := "counts", type := .boolean, accessFlags := 18, slot := 6, constantValue := 0 }, { name := "$VALUES", type := (.array (.object "com/example/stile/stile/BenchWorkload")), accessFlags := 4122, slot := 6, constantValue := 0 }]
  methods := #[k6m0, k6m1, k6m2]
  instanceTypes := #[(.object "java/lang/String"), .int, .int, (.object "java/lang/String"), .boolean, .int, .boolean]
  staticTypes := #[(.object "com/example/stile/stile/BenchWorkload"), (.object "com/example/stile/stile/BenchWorkload"), (.object "com/example/stile/stile/BenchWorkload"), (.object "java/lang/String"), .int, .long, (.array (.object "com/example/stile/stile/BenchWorkload"))]
  resolved := Array.replicate 123 none
  statics := some 0 }

def pool7 : Array CpInfo := pool [(1, u "java/lang/Cloneable"), (0, .class_ 1), (0, u "java/lang/Object"), (0, .class_ 3)] 3

/-- java/lang/Cloneable -/
def k7 : Class := { plain "java/lang/Cloneable" (some 0) with
  accessFlags := 1537
  interfaces := #[]
  cf := some (fileOf pool7 2 #[] #[] 1537 4 #[] #[])
  fields := #[]
  methods := #[]
  instanceTypes := #[]
  staticTypes := #[]
  resolved := Array.replicate 8 none
  statics := none }

/-- the primitive byte -/
def k8 : Class := { plain "byte" none with kind := .primitive 'B', accessFlags := 0x411 }
/-- [B -/
def k9 : Class := { plain "[B" (some 0) with kind := .array 8 .byte, interfaces := #[7, 4], accessFlags := 1041 }

/-- the primitive int -/
def k10 : Class := { plain "int" none with kind := .primitive 'I', accessFlags := 0x411 }
/-- [I -/
def k11 : Class := { plain "[I" (some 0) with kind := .array 10 .int, interfaces := #[7, 4], accessFlags := 1041 }

def heap : Heap := #[{ cls := 6, slots := #[.ref 1, .ref 3, .ref 2, .null, .int 0, .long 0, .null], vm := .statics 6 },
  { cls := 6, slots := #[.null, .int 0, .int 0, .null, .int 0, .int 500, .int 0], vm := .none },
  { cls := 6, slots := #[.null, .int 0, .int 0, .null, .int 0, .int 50, .int 1], vm := .none },
  { cls := 6, slots := #[.null, .int 0, .int 0, .null, .int 0, .int 50, .int 1], vm := .none }]
def classes : Array Class := #[k0, k1, k2, k3, k4, k5, k6, k7, k8, k9, k10, k11]
def interned : List (Array UInt16 × Addr) := []
def slotsUsed : Nat := 28
def theMethod : MethodId := ⟨1, 1⟩
def args0 : Array Value := #[.int 5]
def aboutOver (below : List Frame) : State where
  vm := { classes := classes, interned := interned.toArray }
  heap := heap
  slotsUsed := slotsUsed
  threads := #[{ frames := .invoking theMethod args0 :: below }]
def below0 : List Frame := [.native { method := ⟨0, 0⟩, args := #[] }]
def about1 : State := aboutOver below0
def p0 : Program := .bare "" "" ""
def e0 : Env := launch0.env 0 0 0
theorem w_frames : about1.frames = Frame.invoking theMethod args0 :: below0 := rfl
set_option maxRecDepth 65536 in
theorem w_args : argsFit about1.vm theMethod args0 = true := by decide +kernel
set_option maxRecDepth 65536 in
theorem w_heap : heapFits about1 = true := by decide +kernel
set_option maxRecDepth 65536 in
theorem w_runnable : about1.curStatus? = some .runnable := by decide +kernel
set_option maxRecDepth 65536 in
theorem w_alone : about1.alone = true := by decide +kernel
set_option maxRecDepth 65536 in
theorem w_named : about1.methodNamed? x = some theMethod := by decide +kernel
set_option maxRecDepth 65536 in
theorem w_hears : about1.hears theMethod below0 = true := by decide +kernel
set_option maxRecDepth 65536 in
theorem w_ripe : about1.ripe theMethod args0 below0 = true := by decide +kernel
theorem w_running : about1.status = .running := rfl
set_option maxRecDepth 65536 in
theorem w_room : about1.hasRoom e0.platform room_1 = true :=
  launch0.hasRoom_least _ room_1 (by decide +kernel) (by decide +kernel) (by decide +kernel) (by decide +kernel) (by decide +kernel) (by decide +kernel)
theorem allAtoms_all (ts : List Jvm.Cond) (a : Array Jvm.Value) (st : Jvm.State) : (allAtoms ts).before a st = ts.all (fun c => c.before a st) := by
  induction ts with
  | nil => rfl
  | cons c t ih =>
    show (Jvm.Cond.and c (allAtoms t)).before a st = _
    rw [Jvm.Cond.before_and, ih, List.all_cons]
def words1 : List Jvm.Cond := Jvm.Cond.code x code maxLocals ret :: tables_1
/-- a 'code' word, met by the world's own term for the bytes: nothing is compared byte by byte -/
theorem code_word {y : MethodName} {bytes : ByteArray} {mx : Nat} {rt : Option FieldType} {a : Array Value} {s : State} {m : MethodId} {meth : Method} {c : Code} (h1 : s.methodNamed? y = some m) (h2 : s.vm.method? m = some meth) (h3 : meth.code = some c) (h4 : c.code = bytes)
    (h5 : (c.maxLocals == mx && c.exceptionTable.isEmpty && decide (c.maxStack ≤ mostOperands) && decide (meth.sig.returnType = rt) && !meth.locks && decide (parseMethodDescriptor y.desc = some meth.sig)) = true) : (Jvm.Cond.code y bytes mx rt).before a s = true := by
  simp only [Bool.and_eq_true, beq_iff_eq, Bool.not_eq_true', decide_eq_true_eq] at h5
  obtain ⟨⟨⟨⟨⟨g1, g2⟩, g3⟩, g4⟩, g5⟩, g6⟩ := h5
  simp [Cond.before, Cond.holds, Cond.value, h1, h2, h3, h4, g1, g2, g3, g4, g5, g6]
def isCode : Jvm.Cond → Bool
  | .code _ _ _ _ => true
  | _ => false
theorem all_split {L : List Jvm.Cond} {P : Jvm.Cond → Bool} (h1 : L.all (fun c => isCode c || P c) = true) (h2 : ∀ c ∈ L.filter isCode, P c = true) : L.all P = true := by
  refine List.all_eq_true.mpr fun c hc => ?_
  have h := List.all_eq_true.mp h1 c hc
  rcases Bool.eq_false_or_eq_true (isCode c) with hi | hi
  · exact h2 c (List.mem_filter.mpr ⟨hc, hi⟩)
  · simpa [hi] using h
set_option maxRecDepth 65536 in
theorem w_c0 : (Jvm.Cond.code x code maxLocals ret).before args0 about1 = true := code_word (m := ⟨1, 1⟩) (meth := k1m1) (c := k1c1) (by decide +kernel) rfl rfl rfl (by decide +kernel)
set_option maxRecDepth 65536 in
theorem w_c1 : (Jvm.Cond.code ({ cls := "com/example/stile/stile/BenchWorkload", name := "expectedCount", desc := "()I" } : Jvm.MethodName) prog_10_method_8_code (1 : Nat) (Option.some Jvm.ClassFile.FieldType.int)).before args0 about1 = true := code_word (m := ⟨6, 2⟩) (meth := k6m2) (c := k6c2) (by decide +kernel) rfl rfl rfl (by decide +kernel)
set_option maxRecDepth 65536 in
theorem w_c2 : (Jvm.Cond.code ({ cls := "com/example/stile/stile/BenchWorkload", name := "counts", desc := "()Z" } : Jvm.MethodName) prog_10_method_7_code (1 : Nat) (Option.some Jvm.ClassFile.FieldType.boolean)).before args0 about1 = true := code_word (m := ⟨6, 1⟩) (meth := k6m1) (c := k6c1) (by decide +kernel) rfl rfl rfl (by decide +kernel)
set_option maxRecDepth 65536 in
theorem w_c3 : (Jvm.Cond.code ({ cls := "com/example/stile/stile/BenchWorkload", name := "entries", desc := "()I" } : Jvm.MethodName) prog_10_method_6_code (1 : Nat) (Option.some Jvm.ClassFile.FieldType.int)).before args0 about1 = true := code_word (m := ⟨6, 0⟩) (meth := k6m0) (c := k6c0) (by decide +kernel) rfl rfl rfl (by decide +kernel)
def codes1 : List Jvm.Cond := [Jvm.Cond.code x code maxLocals ret, Jvm.Cond.code ({ cls := "com/example/stile/stile/BenchWorkload", name := "expectedCount", desc := "()I" } : Jvm.MethodName) prog_10_method_8_code (1 : Nat) (Option.some Jvm.ClassFile.FieldType.int), Jvm.Cond.code ({ cls := "com/example/stile/stile/BenchWorkload", name := "counts", desc := "()Z" } : Jvm.MethodName) prog_10_method_7_code (1 : Nat) (Option.some Jvm.ClassFile.FieldType.boolean), Jvm.Cond.code ({ cls := "com/example/stile/stile/BenchWorkload", name := "entries", desc := "()I" } : Jvm.MethodName) prog_10_method_6_code (1 : Nat) (Option.some Jvm.ClassFile.FieldType.int)]
set_option maxRecDepth 65536 in
theorem codes_eq : words1.filter isCode = codes1 := rfl
theorem w_codes : ∀ c ∈ words1.filter isCode, c.before args0 about1 = true := by
  rw [codes_eq]
  intro c hc
  simp only [codes1, List.mem_cons, List.not_mem_nil, or_false] at hc
  rcases hc with rfl | rfl | rfl | rfl
  · exact w_c0
  · exact w_c1
  · exact w_c2
  · exact w_c3
set_option maxRecDepth 65536 in
theorem w_t1 : (words1.take 24).all (fun c => isCode c || c.before args0 about1) = true := by decide +kernel
set_option maxRecDepth 65536 in
theorem w_t2 : (words1.drop 24).all (fun c => isCode c || c.before args0 about1) = true := by decide +kernel
theorem w_tables : (allAtoms (Jvm.Cond.code x code maxLocals ret :: tables_1)).before args0 about1 = true := by
  rw [allAtoms_all]
  show words1.all (fun c => c.before args0 about1) = true
  refine all_split ?_ w_codes
  rw [← List.take_append_drop 24 words1, List.all_append, w_t1, w_t2]
  rfl
set_option maxRecDepth 65536 in
theorem w_case : (Jvm.Cond.and given_1 narrow_1).before args0 about1 = true := by decide +kernel
theorem w_applies : (headSpec (Jvm.Cond.code x code maxLocals ret :: tables_1) room_1).applies x e0.platform about1 = true :=
  (Spec.applies_iff w_frames).mpr ⟨w_running, w_runnable, w_alone, w_named, w_hears, w_ripe, w_room, w_tables⟩
theorem atStart : AtStart classFile x code maxLocals ret World_1 tables_1 room_1 Calls_1 rest_1 Pre_1 launch0 p0 e0 about1 theMethod args0 below0 :=
  ⟨lists_1, trivial, launch0.admits_env _ _ _, launch0.least_env, fairChoices_fair.cas, fairChoices_fair.clock, w_frames, w_args, w_heap, w_applies, trivial, trivial, w_case⟩
end start1
theorem witness_1 : WitnessClaimed_1 := ⟨start1.p0, start1.e0, start1.about1, start1.theMethod, start1.args0, start1.below0, start1.atStart⟩
end Jvm.Pilot.@@N@@
