import JvmDerived
import JvmDerived.Pilot.@@N@@Statement
import JvmDerived.Pilot.@@N@@Code
set_option linter.unusedVariables false
set_option linter.unusedSimpArgs false
namespace Jvm.RoadKit
open Sem ClassFile Op Lib Jvm.Stand Jvm.Free Jvm.LawKit
section New
variable {p : Program} {l : Launch} {e : Env} {R : Room} {s : State} {m : MethodId} {args : Array Value} {below : List Frame} {meth : Method} {c : Code} {T : State} {locs : List Loc} {cells slots : Nat}
theorem retI (X : Stand p l e R s m args below meth c T locs cells slots) (hx : p.tables.exec = Jvm.exec) {pc : Nat} {Ls : Array Slot} {z : Int32} {rest : List Value} (hret : meth.sig.returnType = some .int) (hd : decode c.code pc = .ok (.ireturn, 1)) {fs : List Frame}
    (hl : ∀ (f : JFrame) (acts : List Action), f.method = m → f.locked = none → f.entered = [] → (doReturn e (T.setTop f) acts (some (.int z))).1 = T.setFrames fs) : Steps p.tables e below (T.setTop (mkF m pc Ls (.int z :: rest))) (T.setFrames fs) := by
  have hm' : T.vm.method? m = some meth := X.method'
  have hn : narrow .int (.int z) = .int z := rfl
  show Steps p.tables e below (T.setTop { method := m, pc := pc, locals := Ls, stack := _ :: rest, locked := none }) _
  jvm_step X.here [X.here.top, hx, hd, hm', hret, hn]
  first | (intro acts; rw [hl _ acts rfl rfl rfl]) | rw [hl _ _ rfl rfl rfl]
  exact Steps.refl _
end New
end Jvm.RoadKit
namespace Jvm.Pilot.@@N@@
open Jvm Jvm.ClassFile Sem Op Lib Jvm.Free Jvm.Stand Jvm.LawKit Jvm.RoadKit Bundle Jvm.Pilot.@@N@@.Jvm.D
def Q0 (n0 : Nat) (v : Option Value) (h : Heap) (L : List Loc) : Prop := v = some (.int (1 : Int32)) ∧ Fr n0 L
def Qv (r : Value) (h0 : Heap) (n0 : Nat) (v : Option Value) (h : Heap) (L : List Loc) : Prop := v = some r ∧ Fr n0 L ∧ h = h0
theorem own_atoms {Z : State} {a0 : Array Value} (hw : ∀ d ∈ tables_1, d.before a0 Z = true) : ∀ a ∈ Bundle.stringAtoms, a.before a0 Z = true := fun a ha => by
  simp only [Bundle.stringAtoms, List.mem_cons, List.not_mem_nil, or_false] at ha
  rcases ha with rfl | rfl | rfl | rfl | rfl | rfl | rfl
  all_goals first | exact hw _ (List.mem_of_getElem? (i := 11) rfl) | exact hw _ (List.mem_of_getElem? (i := 12) rfl) | exact hw _ (List.mem_of_getElem? (i := 13) rfl) | exact hw _ (List.mem_of_getElem? (i := 14) rfl) | exact hw _ (List.mem_of_getElem? (i := 15) rfl) | exact hw _ (List.mem_of_getElem? (i := 16) rfl) | exact hw _ (List.mem_of_getElem? (i := 17) rfl)
def GI (Z : State) (h : Heap) (n0 : Nat) (a : Addr) (c z : Int32) (vs : List Value) : Prop := n0 ≤ h.size ∧ n0 ≤ a ∧ Exa Z h a "com/example/harbinger/harbinger/broker/Group" ∧ ∃ (b : Addr) (k : ClassId), n0 ≤ b ∧ Fld Z h a "com/example/harbinger/harbinger/broker/Group" "audiences" "[I" (.ref b) ∧ Fld Z h a "com/example/harbinger/harbinger/broker/Group" "audienceCount" "I" (.int c) ∧ Arv Z h b k .int z vs (.int (0 : Int32))
def QG (Z : State) (h0 : Heap) (n0 : Nat) (a : Addr) (c z : Int32) (vs : List Value) (v : Option Value) (h : Heap) (L : List Loc) : Prop := v = none ∧ Fr n0 L ∧ h0.size ≤ h.size ∧ GI Z h n0 a c z vs
def QC (Z : State) (h0 : Heap) (n0 : Nat) (z : Int32) (vs : List Value) (v : Option Value) (h : Heap) (L : List Loc) : Prop := ∃ (b : Addr) (k : ClassId), v = some (.ref b) ∧ Fr n0 L ∧ h0.size ≤ b ∧ Keep h0 h [] ∧ Arv Z h b k .int z vs (.int (0 : Int32))
theorem d1_0 : decode jdk_29_method_69_code 0 = .ok (.iload_n 0, 1) := by decide +kernel
theorem d1_1 : decode jdk_29_method_69_code 1 = .ok (.iload_n 1, 1) := by decide +kernel
theorem d1_2 : decode jdk_29_method_69_code 2 = .ok (.if_icmp .gt 7, 3) := by decide +kernel
theorem d1_5 : decode jdk_29_method_69_code 5 = .ok (.iload_n 0, 1) := by decide +kernel
theorem d1_6 : decode jdk_29_method_69_code 6 = .ok (.goto 4, 3) := by decide +kernel
theorem d1_10 : decode jdk_29_method_69_code 10 = .ok (.ireturn, 1) := by decide +kernel
theorem ef_1 (m : MethodId) (x0 : Int32) (x1 : Int32) : entryFrame m #[(.int x0), (.int x1)] 2 = mkF m 0 #[.val (.int x0), .val (.int x1)] [] := by first | (simp [entryFrame, mkF, argsToLocals, Value.category]; done) | rfl
theorem d1_9 : decode jdk_29_method_69_code 9 = .ok (.iload_n 1, 1) := by decide +kernel
set_option maxRecDepth 65536 in
set_option maxHeartbeats 40000000 in
theorem rm1_f (l : Launch) (Z : State) (a0 : Array Value) (hw : ∀ d ∈ tables_1, d.before a0 Z = true) (ws : List Jvm.Cond) (p1 : Int32) (p2 : Int32) (h0 : Heap) (n0 : Nat) (Z0 : n0 ≤ h0.size) (hc2 : ¬ (p2 < p1)) :
    MetFree l (⟨"java/lang/Math", "min", "(II)I"⟩ : MethodName) (head1 (Jvm.Cond.code (⟨"java/lang/Math", "min", "(II)I"⟩ : MethodName) jdk_29_method_69_code 2 (some .int) :: ws) ({ frames := 0, cells := 0, slots := 0, locals := 0 } : Room)) (fun a U => a = #[(.int p1), (.int p2)] ∧ Z.Warmed39 U.vm ∧ U.heap = h0) (fun _ _ _ _ _ => True) (fun _ U o U' => ∃ v L, o = .returned v ∧ Qv (.int p1) h0 n0 v U'.heap L ∧ FrameEnd U o U' L ({ frames := 0, cells := 0, slots := 0, locals := 0 } : Room).cells ({ frames := 0, cells := 0, slots := 0, locals := 0 } : Room).slots) := by
  refine MetFree.of_bodySF (Jvm.Free.JP.mathPlain rfl (by decide +kernel)) hisR ?_
  intro p e s m args below meth c s₁ Bd hml0 hP hK
  obtain ⟨rfl, hZ, hh⟩ := hP
  have hx := Bd.exec
  have hby := Bd.bytes
  have hml : c.maxLocals = 2 := hml0
  have hown : s.vm.findClass "java/lang/Math" = some m.cls := findClass_of_methodNamed Bd.named
  have hnm := (name_of_methodNamed Bd.named Bd.method).1
  have X0 : Stand p l e ({ frames := 0, cells := 0, slots := 0, locals := 0 } : Room) s m #[(.int p1), (.int p2)] below meth c s₁ [] 0 0 := Stand.of_body Bd
  have e0 : s₁.heap = h0 := by rw [← hh, Bd.state]; rfl
  have N0 := Fr.nil n0
  have pre0 : ∀ t, Steps p.tables e below (s₁.setTop (mkF m 0 #[.val (.int p1), .val (.int p2)] [])) t → Steps p.tables e below (s₁.setTop (entryFrame m #[(.int p1), (.int p2)] 2)) t := fun t k => castTop (ef_1 m p1 p2) k
  -- 3. LAWS

  obtain ⟨fs, hr, hrun, hended, hW, hsame⟩ := X0.leave (v := some (.int p1)) (fun h => by rw [Bd.returns] at h; cases h)
  refine ⟨_, _, pre0 _ ?_, hrun, hended, _, _, rfl, ?_, ⟨_, rfl⟩, hW, hsame.mono (by decide) (by decide)⟩
  -- 4. STEPS
  · show Steps p.tables e below (s₁.setTop (mkF m 0 #[.val (.int p1), .val (.int p2)] [])) _
    refine XS.iloadN X0.here hx rfl (hb hby d1_0) rfl ?_
    show Steps p.tables e below (s₁.setTop (mkF m 1 #[.val (.int p1), .val (.int p2)] [(.int p1)])) _
    refine XS.iloadN X0.here hx rfl (hb hby d1_1) rfl ?_
    show Steps p.tables e below (s₁.setTop (mkF m 2 #[.val (.int p1), .val (.int p2)] [(.int p2), (.int p1)])) _
    refine XS.icmpNo X0.here hx rfl (hb hby d1_2) rfl (flt hc2).2.2.1 ?_
    show Steps p.tables e below (s₁.setTop (mkF m 5 #[.val (.int p1), .val (.int p2)] [])) _
    refine XS.iloadN X0.here hx rfl (hb hby d1_5) rfl ?_
    show Steps p.tables e below (s₁.setTop (mkF m 6 #[.val (.int p1), .val (.int p2)] [(.int p1)])) _
    refine XS.goto X0.here hx rfl (pc0 := 6) (pc' := 10) rfl (hb hby d1_6) (by decide) (by decide) ?_
    show Steps p.tables e below (s₁.setTop (mkF m 10 #[.val (.int p1), .val (.int p2)] [(.int p1)])) _
    exact retI X0 hx Bd.returns (hb hby d1_10) hr      -- retI stands in the head ('lawwalk <made dir>' prints it)
  · show Qv (.int p1) h0 n0 _ s₁.heap _
    rw [e0]
    exact ⟨rfl, N0, rfl⟩
set_option maxRecDepth 65536 in
set_option maxHeartbeats 40000000 in
theorem rm1_t (l : Launch) (Z : State) (a0 : Array Value) (hw : ∀ d ∈ tables_1, d.before a0 Z = true) (ws : List Jvm.Cond) (p1 : Int32) (p2 : Int32) (h0 : Heap) (n0 : Nat) (Z0 : n0 ≤ h0.size) (hc2 : p2 < p1) :
    MetFree l (⟨"java/lang/Math", "min", "(II)I"⟩ : MethodName) (head1 (Jvm.Cond.code (⟨"java/lang/Math", "min", "(II)I"⟩ : MethodName) jdk_29_method_69_code 2 (some .int) :: ws) ({ frames := 0, cells := 0, slots := 0, locals := 0 } : Room)) (fun a U => a = #[(.int p1), (.int p2)] ∧ Z.Warmed39 U.vm ∧ U.heap = h0) (fun _ _ _ _ _ => True) (fun _ U o U' => ∃ v L, o = .returned v ∧ Qv (.int p2) h0 n0 v U'.heap L ∧ FrameEnd U o U' L ({ frames := 0, cells := 0, slots := 0, locals := 0 } : Room).cells ({ frames := 0, cells := 0, slots := 0, locals := 0 } : Room).slots) := by
  refine MetFree.of_bodySF (Jvm.Free.JP.mathPlain rfl (by decide +kernel)) hisR ?_
  intro p e s m args below meth c s₁ Bd hml0 hP hK
  obtain ⟨rfl, hZ, hh⟩ := hP
  have hx := Bd.exec
  have hby := Bd.bytes
  have hml : c.maxLocals = 2 := hml0
  have hown : s.vm.findClass "java/lang/Math" = some m.cls := findClass_of_methodNamed Bd.named
  have hnm := (name_of_methodNamed Bd.named Bd.method).1
  have X0 : Stand p l e ({ frames := 0, cells := 0, slots := 0, locals := 0 } : Room) s m #[(.int p1), (.int p2)] below meth c s₁ [] 0 0 := Stand.of_body Bd
  have e0 : s₁.heap = h0 := by rw [← hh, Bd.state]; rfl
  have N0 := Fr.nil n0
  have pre0 : ∀ t, Steps p.tables e below (s₁.setTop (mkF m 0 #[.val (.int p1), .val (.int p2)] [])) t → Steps p.tables e below (s₁.setTop (entryFrame m #[(.int p1), (.int p2)] 2)) t := fun t k => castTop (ef_1 m p1 p2) k
  -- 3. LAWS

  obtain ⟨fs, hr, hrun, hended, hW, hsame⟩ := X0.leave (v := some (.int p2)) (fun h => by rw [Bd.returns] at h; cases h)
  refine ⟨_, _, pre0 _ ?_, hrun, hended, _, _, rfl, ?_, ⟨_, rfl⟩, hW, hsame.mono (by decide) (by decide)⟩
  -- 4. STEPS
  · show Steps p.tables e below (s₁.setTop (mkF m 0 #[.val (.int p1), .val (.int p2)] [])) _
    refine XS.iloadN X0.here hx rfl (hb hby d1_0) rfl ?_
    show Steps p.tables e below (s₁.setTop (mkF m 1 #[.val (.int p1), .val (.int p2)] [(.int p1)])) _
    refine XS.iloadN X0.here hx rfl (hb hby d1_1) rfl ?_
    show Steps p.tables e below (s₁.setTop (mkF m 2 #[.val (.int p1), .val (.int p2)] [(.int p2), (.int p1)])) _
    refine XS.icmpYes X0.here hx rfl (pc0 := 2) (pc' := 9) rfl (hb hby d1_2) rfl (tlt hc2).2.2.1 (by decide) (by decide) ?_
    show Steps p.tables e below (s₁.setTop (mkF m 9 #[.val (.int p1), .val (.int p2)] [])) _
    refine XS.iloadN X0.here hx rfl (hb hby d1_9) rfl ?_
    show Steps p.tables e below (s₁.setTop (mkF m 10 #[.val (.int p1), .val (.int p2)] [(.int p2)])) _
    exact retI X0 hx Bd.returns (hb hby d1_10) hr      -- retI stands in the head ('lawwalk <made dir>' prints it)
  · show Qv (.int p2) h0 n0 _ s₁.heap _
    rw [e0]
    exact ⟨rfl, N0, rfl⟩
def R1 (p1 : Int32) (p2 : Int32) (r : Int32) : Prop := ((¬ (p2 < p1)) ∧ r = p1) ∨ ((p2 < p1) ∧ r = p2)
theorem rm1 (l : Launch) (Z : State) (a0 : Array Value) (hw : ∀ d ∈ tables_1, d.before a0 Z = true) (ws : List Jvm.Cond) (p1 : Int32) (p2 : Int32) (r : Int32) (h0 : Heap) (n0 : Nat) (Z0 : n0 ≤ h0.size)  (hR : R1 p1 p2 r) :
    MetFree l (⟨"java/lang/Math", "min", "(II)I"⟩ : MethodName) (head1 (Jvm.Cond.code (⟨"java/lang/Math", "min", "(II)I"⟩ : MethodName) jdk_29_method_69_code 2 (some .int) :: ws) ({ frames := 0, cells := 0, slots := 0, locals := 0 } : Room)) (fun a U => a = #[(.int p1), (.int p2)] ∧ Z.Warmed39 U.vm ∧ U.heap = h0) (fun _ _ _ _ _ => True) (fun _ U o U' => ∃ v L, o = .returned v ∧ Qv (.int r) h0 n0 v U'.heap L ∧ FrameEnd U o U' L ({ frames := 0, cells := 0, slots := 0, locals := 0 } : Room).cells ({ frames := 0, cells := 0, slots := 0, locals := 0 } : Room).slots) := by
  rcases hR with ⟨hc2, hr⟩ | ⟨hc2, hr⟩
  · rw [hr]; exact rm1_f l Z a0 hw ws p1 p2 h0 n0 Z0 hc2
  · rw [hr]; exact rm1_t l Z a0 hw ws p1 p2 h0 n0 Z0 hc2
theorem d2_0 : decode jdk_29_method_65_code 0 = .ok (.iload_n 0, 1) := by decide +kernel
theorem d2_1 : decode jdk_29_method_65_code 1 = .ok (.iload_n 1, 1) := by decide +kernel
theorem d2_2 : decode jdk_29_method_65_code 2 = .ok (.if_icmp .lt 7, 3) := by decide +kernel
theorem d2_5 : decode jdk_29_method_65_code 5 = .ok (.iload_n 0, 1) := by decide +kernel
theorem d2_6 : decode jdk_29_method_65_code 6 = .ok (.goto 4, 3) := by decide +kernel
theorem d2_10 : decode jdk_29_method_65_code 10 = .ok (.ireturn, 1) := by decide +kernel
theorem ef_2 (m : MethodId) (x0 : Int32) (x1 : Int32) : entryFrame m #[(.int x0), (.int x1)] 2 = mkF m 0 #[.val (.int x0), .val (.int x1)] [] := by first | (simp [entryFrame, mkF, argsToLocals, Value.category]; done) | rfl
theorem d2_9 : decode jdk_29_method_65_code 9 = .ok (.iload_n 1, 1) := by decide +kernel
set_option maxRecDepth 65536 in
set_option maxHeartbeats 40000000 in
theorem rm2_f (l : Launch) (Z : State) (a0 : Array Value) (hw : ∀ d ∈ tables_1, d.before a0 Z = true) (ws : List Jvm.Cond) (p1 : Int32) (p2 : Int32) (h0 : Heap) (n0 : Nat) (Z0 : n0 ≤ h0.size) (hc2 : ¬ (p1 < p2)) :
    MetFree l (⟨"java/lang/Math", "max", "(II)I"⟩ : MethodName) (head1 (Jvm.Cond.code (⟨"java/lang/Math", "max", "(II)I"⟩ : MethodName) jdk_29_method_65_code 2 (some .int) :: ws) ({ frames := 0, cells := 0, slots := 0, locals := 0 } : Room)) (fun a U => a = #[(.int p1), (.int p2)] ∧ Z.Warmed39 U.vm ∧ U.heap = h0) (fun _ _ _ _ _ => True) (fun _ U o U' => ∃ v L, o = .returned v ∧ Qv (.int p1) h0 n0 v U'.heap L ∧ FrameEnd U o U' L ({ frames := 0, cells := 0, slots := 0, locals := 0 } : Room).cells ({ frames := 0, cells := 0, slots := 0, locals := 0 } : Room).slots) := by
  refine MetFree.of_bodySF (Jvm.Free.JP.mathPlain rfl (by decide +kernel)) hisR ?_
  intro p e s m args below meth c s₁ Bd hml0 hP hK
  obtain ⟨rfl, hZ, hh⟩ := hP
  have hx := Bd.exec
  have hby := Bd.bytes
  have hml : c.maxLocals = 2 := hml0
  have hown : s.vm.findClass "java/lang/Math" = some m.cls := findClass_of_methodNamed Bd.named
  have hnm := (name_of_methodNamed Bd.named Bd.method).1
  have X0 : Stand p l e ({ frames := 0, cells := 0, slots := 0, locals := 0 } : Room) s m #[(.int p1), (.int p2)] below meth c s₁ [] 0 0 := Stand.of_body Bd
  have e0 : s₁.heap = h0 := by rw [← hh, Bd.state]; rfl
  have N0 := Fr.nil n0
  have pre0 : ∀ t, Steps p.tables e below (s₁.setTop (mkF m 0 #[.val (.int p1), .val (.int p2)] [])) t → Steps p.tables e below (s₁.setTop (entryFrame m #[(.int p1), (.int p2)] 2)) t := fun t k => castTop (ef_2 m p1 p2) k
  -- 3. LAWS

  obtain ⟨fs, hr, hrun, hended, hW, hsame⟩ := X0.leave (v := some (.int p1)) (fun h => by rw [Bd.returns] at h; cases h)
  refine ⟨_, _, pre0 _ ?_, hrun, hended, _, _, rfl, ?_, ⟨_, rfl⟩, hW, hsame.mono (by decide) (by decide)⟩
  -- 4. STEPS
  · show Steps p.tables e below (s₁.setTop (mkF m 0 #[.val (.int p1), .val (.int p2)] [])) _
    refine XS.iloadN X0.here hx rfl (hb hby d2_0) rfl ?_
    show Steps p.tables e below (s₁.setTop (mkF m 1 #[.val (.int p1), .val (.int p2)] [(.int p1)])) _
    refine XS.iloadN X0.here hx rfl (hb hby d2_1) rfl ?_
    show Steps p.tables e below (s₁.setTop (mkF m 2 #[.val (.int p1), .val (.int p2)] [(.int p2), (.int p1)])) _
    refine XS.icmpNo X0.here hx rfl (hb hby d2_2) rfl (flt hc2).1 ?_
    show Steps p.tables e below (s₁.setTop (mkF m 5 #[.val (.int p1), .val (.int p2)] [])) _
    refine XS.iloadN X0.here hx rfl (hb hby d2_5) rfl ?_
    show Steps p.tables e below (s₁.setTop (mkF m 6 #[.val (.int p1), .val (.int p2)] [(.int p1)])) _
    refine XS.goto X0.here hx rfl (pc0 := 6) (pc' := 10) rfl (hb hby d2_6) (by decide) (by decide) ?_
    show Steps p.tables e below (s₁.setTop (mkF m 10 #[.val (.int p1), .val (.int p2)] [(.int p1)])) _
    exact retI X0 hx Bd.returns (hb hby d2_10) hr      -- retI stands in the head ('lawwalk <made dir>' prints it)
  · show Qv (.int p1) h0 n0 _ s₁.heap _
    rw [e0]
    exact ⟨rfl, N0, rfl⟩
set_option maxRecDepth 65536 in
set_option maxHeartbeats 40000000 in
theorem rm2_t (l : Launch) (Z : State) (a0 : Array Value) (hw : ∀ d ∈ tables_1, d.before a0 Z = true) (ws : List Jvm.Cond) (p1 : Int32) (p2 : Int32) (h0 : Heap) (n0 : Nat) (Z0 : n0 ≤ h0.size) (hc2 : p1 < p2) :
    MetFree l (⟨"java/lang/Math", "max", "(II)I"⟩ : MethodName) (head1 (Jvm.Cond.code (⟨"java/lang/Math", "max", "(II)I"⟩ : MethodName) jdk_29_method_65_code 2 (some .int) :: ws) ({ frames := 0, cells := 0, slots := 0, locals := 0 } : Room)) (fun a U => a = #[(.int p1), (.int p2)] ∧ Z.Warmed39 U.vm ∧ U.heap = h0) (fun _ _ _ _ _ => True) (fun _ U o U' => ∃ v L, o = .returned v ∧ Qv (.int p2) h0 n0 v U'.heap L ∧ FrameEnd U o U' L ({ frames := 0, cells := 0, slots := 0, locals := 0 } : Room).cells ({ frames := 0, cells := 0, slots := 0, locals := 0 } : Room).slots) := by
  refine MetFree.of_bodySF (Jvm.Free.JP.mathPlain rfl (by decide +kernel)) hisR ?_
  intro p e s m args below meth c s₁ Bd hml0 hP hK
  obtain ⟨rfl, hZ, hh⟩ := hP
  have hx := Bd.exec
  have hby := Bd.bytes
  have hml : c.maxLocals = 2 := hml0
  have hown : s.vm.findClass "java/lang/Math" = some m.cls := findClass_of_methodNamed Bd.named
  have hnm := (name_of_methodNamed Bd.named Bd.method).1
  have X0 : Stand p l e ({ frames := 0, cells := 0, slots := 0, locals := 0 } : Room) s m #[(.int p1), (.int p2)] below meth c s₁ [] 0 0 := Stand.of_body Bd
  have e0 : s₁.heap = h0 := by rw [← hh, Bd.state]; rfl
  have N0 := Fr.nil n0
  have pre0 : ∀ t, Steps p.tables e below (s₁.setTop (mkF m 0 #[.val (.int p1), .val (.int p2)] [])) t → Steps p.tables e below (s₁.setTop (entryFrame m #[(.int p1), (.int p2)] 2)) t := fun t k => castTop (ef_2 m p1 p2) k
  -- 3. LAWS

  obtain ⟨fs, hr, hrun, hended, hW, hsame⟩ := X0.leave (v := some (.int p2)) (fun h => by rw [Bd.returns] at h; cases h)
  refine ⟨_, _, pre0 _ ?_, hrun, hended, _, _, rfl, ?_, ⟨_, rfl⟩, hW, hsame.mono (by decide) (by decide)⟩
  -- 4. STEPS
  · show Steps p.tables e below (s₁.setTop (mkF m 0 #[.val (.int p1), .val (.int p2)] [])) _
    refine XS.iloadN X0.here hx rfl (hb hby d2_0) rfl ?_
    show Steps p.tables e below (s₁.setTop (mkF m 1 #[.val (.int p1), .val (.int p2)] [(.int p1)])) _
    refine XS.iloadN X0.here hx rfl (hb hby d2_1) rfl ?_
    show Steps p.tables e below (s₁.setTop (mkF m 2 #[.val (.int p1), .val (.int p2)] [(.int p2), (.int p1)])) _
    refine XS.icmpYes X0.here hx rfl (pc0 := 2) (pc' := 9) rfl (hb hby d2_2) rfl (tlt hc2).1 (by decide) (by decide) ?_
    show Steps p.tables e below (s₁.setTop (mkF m 9 #[.val (.int p1), .val (.int p2)] [])) _
    refine XS.iloadN X0.here hx rfl (hb hby d2_9) rfl ?_
    show Steps p.tables e below (s₁.setTop (mkF m 10 #[.val (.int p1), .val (.int p2)] [(.int p2)])) _
    exact retI X0 hx Bd.returns (hb hby d2_10) hr      -- retI stands in the head ('lawwalk <made dir>' prints it)
  · show Qv (.int p2) h0 n0 _ s₁.heap _
    rw [e0]
    exact ⟨rfl, N0, rfl⟩
def R2 (p1 : Int32) (p2 : Int32) (r : Int32) : Prop := ((¬ (p1 < p2)) ∧ r = p1) ∨ ((p1 < p2) ∧ r = p2)
theorem rm2 (l : Launch) (Z : State) (a0 : Array Value) (hw : ∀ d ∈ tables_1, d.before a0 Z = true) (ws : List Jvm.Cond) (p1 : Int32) (p2 : Int32) (r : Int32) (h0 : Heap) (n0 : Nat) (Z0 : n0 ≤ h0.size)  (hR : R2 p1 p2 r) :
    MetFree l (⟨"java/lang/Math", "max", "(II)I"⟩ : MethodName) (head1 (Jvm.Cond.code (⟨"java/lang/Math", "max", "(II)I"⟩ : MethodName) jdk_29_method_65_code 2 (some .int) :: ws) ({ frames := 0, cells := 0, slots := 0, locals := 0 } : Room)) (fun a U => a = #[(.int p1), (.int p2)] ∧ Z.Warmed39 U.vm ∧ U.heap = h0) (fun _ _ _ _ _ => True) (fun _ U o U' => ∃ v L, o = .returned v ∧ Qv (.int r) h0 n0 v U'.heap L ∧ FrameEnd U o U' L ({ frames := 0, cells := 0, slots := 0, locals := 0 } : Room).cells ({ frames := 0, cells := 0, slots := 0, locals := 0 } : Room).slots) := by
  rcases hR with ⟨hc2, hr⟩ | ⟨hc2, hr⟩
  · rw [hr]; exact rm2_f l Z a0 hw ws p1 p2 h0 n0 Z0 hc2
  · rw [hr]; exact rm2_t l Z a0 hw ws p1 p2 h0 n0 Z0 hc2
theorem d3_0 : decode prog_6_method_1_code 0 = .ok (.aload_n 0, 1) := by decide +kernel
theorem d3_1 : decode prog_6_method_1_code 1 = .ok (.invokespecial 1, 3) := by decide +kernel
theorem d3_4 : decode prog_6_method_1_code 4 = .ok (.aload_n 0, 1) := by decide +kernel
theorem d3_5 : decode prog_6_method_1_code 5 = .ok (.ldc2_w 9, 3) := by decide +kernel
theorem d3_8 : decode prog_6_method_1_code 8 = .ok (.putfield 11, 3) := by decide +kernel
theorem d3_11 : decode prog_6_method_1_code 11 = .ok (.aload_n 0, 1) := by decide +kernel
theorem d3_12 : decode prog_6_method_1_code 12 = .ok (.iconst 1, 1) := by decide +kernel
theorem d3_13 : decode prog_6_method_1_code 13 = .ok (.newarray .long, 2) := by decide +kernel
theorem d3_15 : decode prog_6_method_1_code 15 = .ok (.putfield 17, 3) := by decide +kernel
theorem d3_18 : decode prog_6_method_1_code 18 = .ok (.aload_n 0, 1) := by decide +kernel
theorem d3_19 : decode prog_6_method_1_code 19 = .ok (.iconst 1, 1) := by decide +kernel
theorem d3_20 : decode prog_6_method_1_code 20 = .ok (.newarray .int, 2) := by decide +kernel
theorem d3_22 : decode prog_6_method_1_code 22 = .ok (.putfield 21, 3) := by decide +kernel
theorem d3_25 : decode prog_6_method_1_code 25 = .ok (.aload_n 0, 1) := by decide +kernel
theorem d3_26 : decode prog_6_method_1_code 26 = .ok (.iconst (-1), 1) := by decide +kernel
theorem d3_27 : decode prog_6_method_1_code 27 = .ok (.putfield 25, 3) := by decide +kernel
theorem d3_30 : decode prog_6_method_1_code 30 = .ok (.aload_n 0, 1) := by decide +kernel
theorem d3_31 : decode prog_6_method_1_code 31 = .ok (.getstatic 29, 3) := by decide +kernel
theorem d3_34 : decode prog_6_method_1_code 34 = .ok (.putfield 33, 3) := by decide +kernel
theorem d3_37 : decode prog_6_method_1_code 37 = .ok (.aload_n 0, 1) := by decide +kernel
theorem d3_38 : decode prog_6_method_1_code 38 = .ok (.iconst 1, 1) := by decide +kernel
theorem d3_39 : decode prog_6_method_1_code 39 = .ok (.putfield 36, 3) := by decide +kernel
theorem d3_42 : decode prog_6_method_1_code 42 = .ok (.aload_n 0, 1) := by decide +kernel
theorem d3_43 : decode prog_6_method_1_code 43 = .ok (.aload_n 1, 1) := by decide +kernel
theorem d3_44 : decode prog_6_method_1_code 44 = .ok (.putfield 39, 3) := by decide +kernel
theorem d3_47 : decode prog_6_method_1_code 47 = .ok (.return_, 1) := by decide +kernel
theorem pn_3 : plainName "com/example/harbinger/harbinger/broker/Group" = true := by first | (simp [plainName, overriddenIn]; done) | decide +kernel
theorem ef_3 (m : MethodId) (x0 : Addr) (x1 : Addr) : entryFrame m #[(.ref x0), (.ref x1)] 2 = mkF m 0 #[.val (.ref x0), .val (.ref x1)] [] := by first | (simp [entryFrame, mkF, argsToLocals, Value.category]; done) | rfl
set_option maxRecDepth 65536 in
set_option maxHeartbeats 40000000 in
theorem rm3 (l : Launch) (Z : State) (a0 : Array Value) (hw : ∀ d ∈ tables_1, d.before a0 Z = true) (ws : List Jvm.Cond) (a1 : Addr) (a2 : Addr) (u_last_a1 : Value) (u_marks_a1 : Value) (u_audiences_a1 : Value) (u_audience_a1 : Value) (w_NO_MEMBERS : Addr) (u_members_a1 : Value) (u_membersHash_a1 : Value) (u_groupId_a1 : Value) (h0 : Heap) (n0 : Nat) (Z0 : n0 ≤ h0.size) (E_a1 : Exa Z h0 a1 "com/example/harbinger/harbinger/broker/Group") (F_last_a1 : Fld Z h0 a1 "com/example/harbinger/harbinger/broker/Group" "last" "J" u_last_a1) (g_a1 : n0 ≤ a1) (F_marks_a1 : Fld Z h0 a1 "com/example/harbinger/harbinger/broker/Group" "marks" "[J" u_marks_a1) (F_audiences_a1 : Fld Z h0 a1 "com/example/harbinger/harbinger/broker/Group" "audiences" "[I" u_audiences_a1) (F_audience_a1 : Fld Z h0 a1 "com/example/harbinger/harbinger/broker/Group" "audience" "I" u_audience_a1) (S_NO_MEMBERS : Sta Z h0 "com/example/harbinger/harbinger/broker/Group" "NO_MEMBERS" "[Lcom/example/harbinger/harbinger/broker/Mailbox;" (.ref w_NO_MEMBERS)) (F_members_a1 : Fld Z h0 a1 "com/example/harbinger/harbinger/broker/Group" "members" "[Lcom/example/harbinger/harbinger/broker/Mailbox;" u_members_a1) (F_membersHash_a1 : Fld Z h0 a1 "com/example/harbinger/harbinger/broker/Group" "membersHash" "I" u_membersHash_a1) (F_groupId_a1 : Fld Z h0 a1 "com/example/harbinger/harbinger/broker/Group" "groupId" "Ljava/lang/String;" u_groupId_a1) (F_audienceCount_a1 : Fld Z h0 a1 "com/example/harbinger/harbinger/broker/Group" "audienceCount" "I" (.int (0 : Int32))) :
    MetFree l (⟨"com/example/harbinger/harbinger/broker/Group", "<init>", "(Ljava/lang/String;)V"⟩ : MethodName) (head1 (Jvm.Cond.code (⟨"com/example/harbinger/harbinger/broker/Group", "<init>", "(Ljava/lang/String;)V"⟩ : MethodName) prog_6_method_1_code 2 none :: ws) ({ frames := 1, cells := 2, slots := 2, locals := 12 } : Room)) (fun a U => a = #[(.ref a1), (.ref a2)] ∧ Z.Warmed39 U.vm ∧ U.heap = h0) (fun _ _ _ _ _ => True) (fun _ U o U' => ∃ v L, o = .returned v ∧ QG Z h0 n0 a1 (0 : Int32) (1 : Int32) [(.int (0 : Int32))] v U'.heap L ∧ FrameEnd U o U' L ({ frames := 1, cells := 2, slots := 2, locals := 12 } : Room).cells ({ frames := 1, cells := 2, slots := 2, locals := 12 } : Room).slots) := by
  refine MetFree.of_bodySF (plainFor_of_name pn_3) hisR ?_
  intro p e s m args below meth c s₁ Bd hml0 hP hK
  obtain ⟨rfl, hZ, hh⟩ := hP
  have hx := Bd.exec
  have hby := Bd.bytes
  have hml : c.maxLocals = 2 := hml0
  have hown : s.vm.findClass "com/example/harbinger/harbinger/broker/Group" = some m.cls := findClass_of_methodNamed Bd.named
  have hnm := (name_of_methodNamed Bd.named Bd.method).1
  have X0 : Stand p l e ({ frames := 1, cells := 2, slots := 2, locals := 12 } : Room) s m #[(.ref a1), (.ref a2)] below meth c s₁ [] 0 0 := Stand.of_body Bd
  have e0 : s₁.heap = h0 := by rw [← hh, Bd.state]; rfl
  have N0 := Fr.nil n0
  have pre0 : ∀ t, Steps p.tables e below (s₁.setTop (mkF m 0 #[.val (.ref a1), .val (.ref a2)] [])) t → Steps p.tables e below (s₁.setTop (entryFrame m #[(.ref a1), (.ref a2)] 2)) t := fun t k => castTop (ef_3 m a1 a2) k
  -- 3. LAWS
  obtain ⟨T3, X3, e3, st3⟩ := initO X0 hx hZ hown (hw _ (List.mem_of_getElem? (i := 21) rfl)) (hw _ (List.mem_of_getElem? (i := 22) rfl)) (hw _ (List.mem_of_getElem? (i := 23) rfl)) e0 (g := (mkF m 1 #[.val (.ref a1), .val (.ref a2)] [(.ref a1)])) rfl (by rw [hml]; rfl) rfl (hb hby d3_1) (by decide) (W := 0) (by show 2 * 0 + _ ≤ _; exact Nat.le_of_eq rfl) (by decide)
  obtain ⟨T4, h4, X4, e4, W4, st4⟩ := putF X3 hx hZ hown (host := "") (Or.inl (hw _ (List.mem_of_getElem? (i := 25) rfl))) Via.refl e3 F_last_a1 E_a1 (Or.inl (hw _ (List.mem_of_getElem? (i := 26) rfl))) (hw _ (List.mem_of_getElem? (i := 8) rfl)) (ty := .long) (by decide) rfl rfl (g := (mkF m 8 #[.val (.ref a1), .val (.ref a2)] [(.long (-1 : Int64)), (.ref a1)])) rfl rfl (hb hby d3_8)
  have Fw4 := F_last_a1.same W4      -- the field now holds (.long (-1 : Int64))
  have K4 : Keep h0 h4 [a1] := (Keep.refl h0 [a1]).wr W4 (Or.inl (List.mem_of_getElem? (i := 0) rfl))
  have N4 := Fr.snoc X4 N0 g_a1
  obtain ⟨T5, h5, k5, X5, e5, E5, A5, st5⟩ := newP X4 hx hZ (hw _ (List.mem_of_getElem? (i := 27) rfl)) e4 (g := (mkF m 13 #[.val (.ref a1), .val (.ref a2)] [(.int (1 : Int32)), (.ref a1)])) rfl (hb hby d3_13) rfl (by decide) (cap := 1) (by decide) (by decide) (by decide) (by decide)
  obtain ⟨b5, g5⟩ : ∃ z, z = h4.size := ⟨_, rfl⟩      -- the fresh array's address
  rw [← g5] at A5 st5
  have V_b5 : Arv Z h5 b5 k5 .long (1 : Int32) [(.long (0 : Int64))] (.long (0 : Int64)) := (Arv.new A5 (by decide)).pad (pad_rep [] (.long (0 : Int64)) 1)
  have g_b5 : n0 ≤ b5 := Nat.le_trans (Nat.le_trans Z0 (Keep.of_wr W4).1) (Nat.le_of_eq g5.symm)
  have sz_b5 : h0.size ≤ b5 := (Nat.le_trans K4.1 (Nat.le_of_eq g5.symm))
  have K5 : Keep h0 h5 [a1] := K4.ext E5
  obtain ⟨T6, h6, X6, e6, W6, st6⟩ := putF X5 hx hZ hown (host := "") (Or.inl (hw _ (List.mem_of_getElem? (i := 28) rfl))) Via.refl e5 ((F_marks_a1.other W4 (Or.inr (slot_ne (Or.inl (hw _ (List.mem_of_getElem? (i := 29) rfl))) (Or.inl (hw _ (List.mem_of_getElem? (i := 26) rfl))) (by decide) (t := (.array .long)) (t' := .long) (by decide) (by decide)))).ext E5) ((E_a1.wr W4).ext E5) (Or.inl (hw _ (List.mem_of_getElem? (i := 29) rfl))) (hw _ (List.mem_of_getElem? (i := 8) rfl)) (ty := (.array .long)) (by decide) rfl rfl (g := (mkF m 15 #[.val (.ref a1), .val (.ref a2)] [(.ref b5), (.ref a1)])) rfl rfl (hb hby d3_15)
  have Fw6 := ((F_marks_a1.other W4 (Or.inr (slot_ne (Or.inl (hw _ (List.mem_of_getElem? (i := 29) rfl))) (Or.inl (hw _ (List.mem_of_getElem? (i := 26) rfl))) (by decide) (t := (.array .long)) (t' := .long) (by decide) (by decide)))).ext E5).same W6      -- the field now holds (.ref b5)
  have K6 : Keep h0 h6 [a1] := K5.wr W6 (Or.inl (List.mem_of_getElem? (i := 0) rfl))
  have N6 := Fr.snoc X6 N4 g_a1
  obtain ⟨T7, h7, k7, X7, e7, E7, A7, st7⟩ := newP X6 hx hZ (hw _ (List.mem_of_getElem? (i := 30) rfl)) e6 (g := (mkF m 20 #[.val (.ref a1), .val (.ref a2)] [(.int (1 : Int32)), (.ref a1)])) rfl (hb hby d3_20) rfl (by decide) (cap := 1) (by decide) (by decide) (by decide) (by decide)
  obtain ⟨b7, g7⟩ : ∃ z, z = h6.size := ⟨_, rfl⟩      -- the fresh array's address
  rw [← g7] at A7 st7
  have V_b7 : Arv Z h7 b7 k7 .int (1 : Int32) [(.int (0 : Int32))] (.int (0 : Int32)) := (Arv.new A7 (by decide)).pad (pad_rep [] (.int (0 : Int32)) 1)
  have g_b7 : n0 ≤ b7 := Nat.le_trans (Nat.le_trans (Nat.le_trans (Nat.le_trans Z0 (Keep.of_wr W4).1) E5.1) (Keep.of_wr W6).1) (Nat.le_of_eq g7.symm)
  have sz_b7 : h0.size ≤ b7 := (Nat.le_trans K6.1 (Nat.le_of_eq g7.symm))
  have K7 : Keep h0 h7 [a1] := K6.ext E7
  obtain ⟨T8, h8, X8, e8, W8, st8⟩ := putF X7 hx hZ hown (host := "") (Or.inl (hw _ (List.mem_of_getElem? (i := 31) rfl))) Via.refl e7 ((((F_audiences_a1.other W4 (Or.inr (slot_ne (Or.inl (hw _ (List.mem_of_getElem? (i := 32) rfl))) (Or.inl (hw _ (List.mem_of_getElem? (i := 26) rfl))) (by decide) (t := (.array .int)) (t' := .long) (by decide) (by decide)))).ext E5).other W6 (Or.inr (slot_ne (Or.inl (hw _ (List.mem_of_getElem? (i := 32) rfl))) (Or.inl (hw _ (List.mem_of_getElem? (i := 29) rfl))) (by decide) (t := (.array .int)) (t' := (.array .long)) (by decide) (by decide)))).ext E7) ((((E_a1.wr W4).ext E5).wr W6).ext E7) (Or.inl (hw _ (List.mem_of_getElem? (i := 32) rfl))) (hw _ (List.mem_of_getElem? (i := 8) rfl)) (ty := (.array .int)) (by decide) rfl rfl (g := (mkF m 22 #[.val (.ref a1), .val (.ref a2)] [(.ref b7), (.ref a1)])) rfl rfl (hb hby d3_22)
  have Fw8 := ((((F_audiences_a1.other W4 (Or.inr (slot_ne (Or.inl (hw _ (List.mem_of_getElem? (i := 32) rfl))) (Or.inl (hw _ (List.mem_of_getElem? (i := 26) rfl))) (by decide) (t := (.array .int)) (t' := .long) (by decide) (by decide)))).ext E5).other W6 (Or.inr (slot_ne (Or.inl (hw _ (List.mem_of_getElem? (i := 32) rfl))) (Or.inl (hw _ (List.mem_of_getElem? (i := 29) rfl))) (by decide) (t := (.array .int)) (t' := (.array .long)) (by decide) (by decide)))).ext E7).same W8      -- the field now holds (.ref b7)
  have K8 : Keep h0 h8 [a1] := K7.wr W8 (Or.inl (List.mem_of_getElem? (i := 0) rfl))
  have N8 := Fr.snoc X8 N6 g_a1
  obtain ⟨T9, h9, X9, e9, W9, st9⟩ := putF X8 hx hZ hown (host := "") (Or.inl (hw _ (List.mem_of_getElem? (i := 33) rfl))) Via.refl e8 (((((F_audience_a1.other W4 (Or.inr (slot_ne (Or.inl (hw _ (List.mem_of_getElem? (i := 34) rfl))) (Or.inl (hw _ (List.mem_of_getElem? (i := 26) rfl))) (by decide) (t := .int) (t' := .long) (by decide) (by decide)))).ext E5).other W6 (Or.inr (slot_ne (Or.inl (hw _ (List.mem_of_getElem? (i := 34) rfl))) (Or.inl (hw _ (List.mem_of_getElem? (i := 29) rfl))) (by decide) (t := .int) (t' := (.array .long)) (by decide) (by decide)))).ext E7).other W8 (Or.inr (slot_ne (Or.inl (hw _ (List.mem_of_getElem? (i := 34) rfl))) (Or.inl (hw _ (List.mem_of_getElem? (i := 32) rfl))) (by decide) (t := .int) (t' := (.array .int)) (by decide) (by decide)))) (((((E_a1.wr W4).ext E5).wr W6).ext E7).wr W8) (Or.inl (hw _ (List.mem_of_getElem? (i := 34) rfl))) (hw _ (List.mem_of_getElem? (i := 8) rfl)) (ty := .int) (by decide) rfl rfl (g := (mkF m 27 #[.val (.ref a1), .val (.ref a2)] [(.int (-1 : Int32)), (.ref a1)])) rfl rfl (hb hby d3_27)
  have Fw9 := (((((F_audience_a1.other W4 (Or.inr (slot_ne (Or.inl (hw _ (List.mem_of_getElem? (i := 34) rfl))) (Or.inl (hw _ (List.mem_of_getElem? (i := 26) rfl))) (by decide) (t := .int) (t' := .long) (by decide) (by decide)))).ext E5).other W6 (Or.inr (slot_ne (Or.inl (hw _ (List.mem_of_getElem? (i := 34) rfl))) (Or.inl (hw _ (List.mem_of_getElem? (i := 29) rfl))) (by decide) (t := .int) (t' := (.array .long)) (by decide) (by decide)))).ext E7).other W8 (Or.inr (slot_ne (Or.inl (hw _ (List.mem_of_getElem? (i := 34) rfl))) (Or.inl (hw _ (List.mem_of_getElem? (i := 32) rfl))) (by decide) (t := .int) (t' := (.array .int)) (by decide) (by decide)))).same W9      -- the field now holds (.int (-1 : Int32))
  have K9 : Keep h0 h9 [a1] := K8.wr W9 (Or.inl (List.mem_of_getElem? (i := 0) rfl))
  have N9 := Fr.snoc X9 N8 g_a1
  obtain ⟨T10, X10, e10, st10⟩ := getS2 X9 hx hZ hown (host := "") (Or.inl (hw _ (List.mem_of_getElem? (i := 35) rfl))) Via.refl e9 ((((((S_NO_MEMBERS.wr W4).ext E5).wr W6).ext E7).wr W8).wr W9) (g := (mkF m 31 #[.val (.ref a1), .val (.ref a2)] [(.ref a1)])) rfl (hb hby d3_31)
  obtain ⟨T11, h11, X11, e11, W11, st11⟩ := putF X10 hx hZ hown (host := "") (Or.inl (hw _ (List.mem_of_getElem? (i := 37) rfl))) Via.refl e10 ((((((F_members_a1.other W4 (Or.inr (slot_ne (Or.inl (hw _ (List.mem_of_getElem? (i := 38) rfl))) (Or.inl (hw _ (List.mem_of_getElem? (i := 26) rfl))) (by decide) (t := (.array (.object "com/example/harbinger/harbinger/broker/Mailbox"))) (t' := .long) (by decide) (by decide)))).ext E5).other W6 (Or.inr (slot_ne (Or.inl (hw _ (List.mem_of_getElem? (i := 38) rfl))) (Or.inl (hw _ (List.mem_of_getElem? (i := 29) rfl))) (by decide) (t := (.array (.object "com/example/harbinger/harbinger/broker/Mailbox"))) (t' := (.array .long)) (by decide) (by decide)))).ext E7).other W8 (Or.inr (slot_ne (Or.inl (hw _ (List.mem_of_getElem? (i := 38) rfl))) (Or.inl (hw _ (List.mem_of_getElem? (i := 32) rfl))) (by decide) (t := (.array (.object "com/example/harbinger/harbinger/broker/Mailbox"))) (t' := (.array .int)) (by decide) (by decide)))).other W9 (Or.inr (slot_ne (Or.inl (hw _ (List.mem_of_getElem? (i := 38) rfl))) (Or.inl (hw _ (List.mem_of_getElem? (i := 34) rfl))) (by decide) (t := (.array (.object "com/example/harbinger/harbinger/broker/Mailbox"))) (t' := .int) (by decide) (by decide)))) ((((((E_a1.wr W4).ext E5).wr W6).ext E7).wr W8).wr W9) (Or.inl (hw _ (List.mem_of_getElem? (i := 38) rfl))) (hw _ (List.mem_of_getElem? (i := 8) rfl)) (ty := (.array (.object "com/example/harbinger/harbinger/broker/Mailbox"))) (by decide) rfl rfl (g := (mkF m 34 #[.val (.ref a1), .val (.ref a2)] [(.ref w_NO_MEMBERS), (.ref a1)])) rfl rfl (hb hby d3_34)
  have Fw11 := ((((((F_members_a1.other W4 (Or.inr (slot_ne (Or.inl (hw _ (List.mem_of_getElem? (i := 38) rfl))) (Or.inl (hw _ (List.mem_of_getElem? (i := 26) rfl))) (by decide) (t := (.array (.object "com/example/harbinger/harbinger/broker/Mailbox"))) (t' := .long) (by decide) (by decide)))).ext E5).other W6 (Or.inr (slot_ne (Or.inl (hw _ (List.mem_of_getElem? (i := 38) rfl))) (Or.inl (hw _ (List.mem_of_getElem? (i := 29) rfl))) (by decide) (t := (.array (.object "com/example/harbinger/harbinger/broker/Mailbox"))) (t' := (.array .long)) (by decide) (by decide)))).ext E7).other W8 (Or.inr (slot_ne (Or.inl (hw _ (List.mem_of_getElem? (i := 38) rfl))) (Or.inl (hw _ (List.mem_of_getElem? (i := 32) rfl))) (by decide) (t := (.array (.object "com/example/harbinger/harbinger/broker/Mailbox"))) (t' := (.array .int)) (by decide) (by decide)))).other W9 (Or.inr (slot_ne (Or.inl (hw _ (List.mem_of_getElem? (i := 38) rfl))) (Or.inl (hw _ (List.mem_of_getElem? (i := 34) rfl))) (by decide) (t := (.array (.object "com/example/harbinger/harbinger/broker/Mailbox"))) (t' := .int) (by decide) (by decide)))).same W11      -- the field now holds (.ref w_NO_MEMBERS)
  have K11 : Keep h0 h11 [a1] := K9.wr W11 (Or.inl (List.mem_of_getElem? (i := 0) rfl))
  have N11 := Fr.snoc X11 N9 g_a1
  obtain ⟨T12, h12, X12, e12, W12, st12⟩ := putF X11 hx hZ hown (host := "") (Or.inl (hw _ (List.mem_of_getElem? (i := 39) rfl))) Via.refl e11 (((((((F_membersHash_a1.other W4 (Or.inr (slot_ne (Or.inl (hw _ (List.mem_of_getElem? (i := 40) rfl))) (Or.inl (hw _ (List.mem_of_getElem? (i := 26) rfl))) (by decide) (t := .int) (t' := .long) (by decide) (by decide)))).ext E5).other W6 (Or.inr (slot_ne (Or.inl (hw _ (List.mem_of_getElem? (i := 40) rfl))) (Or.inl (hw _ (List.mem_of_getElem? (i := 29) rfl))) (by decide) (t := .int) (t' := (.array .long)) (by decide) (by decide)))).ext E7).other W8 (Or.inr (slot_ne (Or.inl (hw _ (List.mem_of_getElem? (i := 40) rfl))) (Or.inl (hw _ (List.mem_of_getElem? (i := 32) rfl))) (by decide) (t := .int) (t' := (.array .int)) (by decide) (by decide)))).other W9 (Or.inr (slot_ne (Or.inl (hw _ (List.mem_of_getElem? (i := 40) rfl))) (Or.inl (hw _ (List.mem_of_getElem? (i := 34) rfl))) (by decide) (t := .int) (t' := .int) (by decide) (by decide)))).other W11 (Or.inr (slot_ne (Or.inl (hw _ (List.mem_of_getElem? (i := 40) rfl))) (Or.inl (hw _ (List.mem_of_getElem? (i := 38) rfl))) (by decide) (t := .int) (t' := (.array (.object "com/example/harbinger/harbinger/broker/Mailbox"))) (by decide) (by decide)))) (((((((E_a1.wr W4).ext E5).wr W6).ext E7).wr W8).wr W9).wr W11) (Or.inl (hw _ (List.mem_of_getElem? (i := 40) rfl))) (hw _ (List.mem_of_getElem? (i := 8) rfl)) (ty := .int) (by decide) rfl rfl (g := (mkF m 39 #[.val (.ref a1), .val (.ref a2)] [(.int (1 : Int32)), (.ref a1)])) rfl rfl (hb hby d3_39)
  have Fw12 := (((((((F_membersHash_a1.other W4 (Or.inr (slot_ne (Or.inl (hw _ (List.mem_of_getElem? (i := 40) rfl))) (Or.inl (hw _ (List.mem_of_getElem? (i := 26) rfl))) (by decide) (t := .int) (t' := .long) (by decide) (by decide)))).ext E5).other W6 (Or.inr (slot_ne (Or.inl (hw _ (List.mem_of_getElem? (i := 40) rfl))) (Or.inl (hw _ (List.mem_of_getElem? (i := 29) rfl))) (by decide) (t := .int) (t' := (.array .long)) (by decide) (by decide)))).ext E7).other W8 (Or.inr (slot_ne (Or.inl (hw _ (List.mem_of_getElem? (i := 40) rfl))) (Or.inl (hw _ (List.mem_of_getElem? (i := 32) rfl))) (by decide) (t := .int) (t' := (.array .int)) (by decide) (by decide)))).other W9 (Or.inr (slot_ne (Or.inl (hw _ (List.mem_of_getElem? (i := 40) rfl))) (Or.inl (hw _ (List.mem_of_getElem? (i := 34) rfl))) (by decide) (t := .int) (t' := .int) (by decide) (by decide)))).other W11 (Or.inr (slot_ne (Or.inl (hw _ (List.mem_of_getElem? (i := 40) rfl))) (Or.inl (hw _ (List.mem_of_getElem? (i := 38) rfl))) (by decide) (t := .int) (t' := (.array (.object "com/example/harbinger/harbinger/broker/Mailbox"))) (by decide) (by decide)))).same W12      -- the field now holds (.int (1 : Int32))
  have K12 : Keep h0 h12 [a1] := K11.wr W12 (Or.inl (List.mem_of_getElem? (i := 0) rfl))
  have N12 := Fr.snoc X12 N11 g_a1
  obtain ⟨T13, h13, X13, e13, W13, st13⟩ := putF X12 hx hZ hown (host := "") (Or.inl (hw _ (List.mem_of_getElem? (i := 41) rfl))) Via.refl e12 ((((((((F_groupId_a1.other W4 (Or.inr (slot_ne (Or.inr (hw _ (List.mem_of_getElem? (i := 42) rfl))) (Or.inl (hw _ (List.mem_of_getElem? (i := 26) rfl))) (by decide) (t := (.object "java/lang/String")) (t' := .long) (by decide) (by decide)))).ext E5).other W6 (Or.inr (slot_ne (Or.inr (hw _ (List.mem_of_getElem? (i := 42) rfl))) (Or.inl (hw _ (List.mem_of_getElem? (i := 29) rfl))) (by decide) (t := (.object "java/lang/String")) (t' := (.array .long)) (by decide) (by decide)))).ext E7).other W8 (Or.inr (slot_ne (Or.inr (hw _ (List.mem_of_getElem? (i := 42) rfl))) (Or.inl (hw _ (List.mem_of_getElem? (i := 32) rfl))) (by decide) (t := (.object "java/lang/String")) (t' := (.array .int)) (by decide) (by decide)))).other W9 (Or.inr (slot_ne (Or.inr (hw _ (List.mem_of_getElem? (i := 42) rfl))) (Or.inl (hw _ (List.mem_of_getElem? (i := 34) rfl))) (by decide) (t := (.object "java/lang/String")) (t' := .int) (by decide) (by decide)))).other W11 (Or.inr (slot_ne (Or.inr (hw _ (List.mem_of_getElem? (i := 42) rfl))) (Or.inl (hw _ (List.mem_of_getElem? (i := 38) rfl))) (by decide) (t := (.object "java/lang/String")) (t' := (.array (.object "com/example/harbinger/harbinger/broker/Mailbox"))) (by decide) (by decide)))).other W12 (Or.inr (slot_ne (Or.inr (hw _ (List.mem_of_getElem? (i := 42) rfl))) (Or.inl (hw _ (List.mem_of_getElem? (i := 40) rfl))) (by decide) (t := (.object "java/lang/String")) (t' := .int) (by decide) (by decide)))) ((((((((E_a1.wr W4).ext E5).wr W6).ext E7).wr W8).wr W9).wr W11).wr W12) (Or.inr ⟨(hw _ (List.mem_of_getElem? (i := 42) rfl)), rfl, hnm⟩) (hw _ (List.mem_of_getElem? (i := 8) rfl)) (ty := (.object "java/lang/String")) (by decide) rfl rfl (g := (mkF m 44 #[.val (.ref a1), .val (.ref a2)] [(.ref a2), (.ref a1)])) rfl rfl (hb hby d3_44)
  have Fw13 := ((((((((F_groupId_a1.other W4 (Or.inr (slot_ne (Or.inr (hw _ (List.mem_of_getElem? (i := 42) rfl))) (Or.inl (hw _ (List.mem_of_getElem? (i := 26) rfl))) (by decide) (t := (.object "java/lang/String")) (t' := .long) (by decide) (by decide)))).ext E5).other W6 (Or.inr (slot_ne (Or.inr (hw _ (List.mem_of_getElem? (i := 42) rfl))) (Or.inl (hw _ (List.mem_of_getElem? (i := 29) rfl))) (by decide) (t := (.object "java/lang/String")) (t' := (.array .long)) (by decide) (by decide)))).ext E7).other W8 (Or.inr (slot_ne (Or.inr (hw _ (List.mem_of_getElem? (i := 42) rfl))) (Or.inl (hw _ (List.mem_of_getElem? (i := 32) rfl))) (by decide) (t := (.object "java/lang/String")) (t' := (.array .int)) (by decide) (by decide)))).other W9 (Or.inr (slot_ne (Or.inr (hw _ (List.mem_of_getElem? (i := 42) rfl))) (Or.inl (hw _ (List.mem_of_getElem? (i := 34) rfl))) (by decide) (t := (.object "java/lang/String")) (t' := .int) (by decide) (by decide)))).other W11 (Or.inr (slot_ne (Or.inr (hw _ (List.mem_of_getElem? (i := 42) rfl))) (Or.inl (hw _ (List.mem_of_getElem? (i := 38) rfl))) (by decide) (t := (.object "java/lang/String")) (t' := (.array (.object "com/example/harbinger/harbinger/broker/Mailbox"))) (by decide) (by decide)))).other W12 (Or.inr (slot_ne (Or.inr (hw _ (List.mem_of_getElem? (i := 42) rfl))) (Or.inl (hw _ (List.mem_of_getElem? (i := 40) rfl))) (by decide) (t := (.object "java/lang/String")) (t' := .int) (by decide) (by decide)))).same W13      -- the field now holds (.ref a2)
  have K13 : Keep h0 h13 [a1] := K12.wr W13 (Or.inl (List.mem_of_getElem? (i := 0) rfl))
  have N13 := Fr.snoc X13 N12 g_a1
  obtain ⟨fs, hr, hrun, hended, hW, hsame⟩ := X13.leave (v := none) (fun _ => rfl)
  refine ⟨_, _, pre0 _ ?_, hrun, hended, _, _, rfl, ?_, ⟨_, rfl⟩, hW, hsame.mono (by decide) (by decide)⟩
  -- 4. STEPS
  · show Steps p.tables e below (s₁.setTop (mkF m 0 #[.val (.ref a1), .val (.ref a2)] [])) _
    refine XS.aloadN X0.here hx rfl (hb hby d3_0) rfl rfl ?_
    show Steps p.tables e below (s₁.setTop (mkF m 1 #[.val (.ref a1), .val (.ref a2)] [(.ref a1)])) _
    refine st3 _ ?_
    show Steps p.tables e below (T3.setTop (mkF m 4 #[.val (.ref a1), .val (.ref a2)] [])) _
    refine XS.aloadN X3.here hx rfl (hb hby d3_4) rfl rfl ?_
    show Steps p.tables e below (T3.setTop (mkF m 5 #[.val (.ref a1), .val (.ref a2)] [(.ref a1)])) _
    refine X3.ldc2Long hx hown (mvT hZ (hw _ (List.mem_of_getElem? (i := 24) rfl))) (g := (mkF m 5 #[.val (.ref a1), .val (.ref a2)] [(.ref a1)])) rfl (hb hby d3_5) _ ?_
    show Steps p.tables e below (T3.setTop (mkF m 8 #[.val (.ref a1), .val (.ref a2)] [(.long (-1 : Int64)), (.ref a1)])) _
    refine st4 _ ?_
    show Steps p.tables e below (T4.setTop (mkF m 11 #[.val (.ref a1), .val (.ref a2)] [])) _
    refine XS.aloadN X4.here hx rfl (hb hby d3_11) rfl rfl ?_
    show Steps p.tables e below (T4.setTop (mkF m 12 #[.val (.ref a1), .val (.ref a2)] [(.ref a1)])) _
    refine XS.iconst X4.here hx rfl (hb hby d3_12) ?_
    show Steps p.tables e below (T4.setTop (mkF m 13 #[.val (.ref a1), .val (.ref a2)] [(.int (1 : Int32)), (.ref a1)])) _
    refine st5 _ ?_
    show Steps p.tables e below (T5.setTop (mkF m 15 #[.val (.ref a1), .val (.ref a2)] [(.ref b5), (.ref a1)])) _
    refine st6 _ ?_
    show Steps p.tables e below (T6.setTop (mkF m 18 #[.val (.ref a1), .val (.ref a2)] [])) _
    refine XS.aloadN X6.here hx rfl (hb hby d3_18) rfl rfl ?_
    show Steps p.tables e below (T6.setTop (mkF m 19 #[.val (.ref a1), .val (.ref a2)] [(.ref a1)])) _
    refine XS.iconst X6.here hx rfl (hb hby d3_19) ?_
    show Steps p.tables e below (T6.setTop (mkF m 20 #[.val (.ref a1), .val (.ref a2)] [(.int (1 : Int32)), (.ref a1)])) _
    refine st7 _ ?_
    show Steps p.tables e below (T7.setTop (mkF m 22 #[.val (.ref a1), .val (.ref a2)] [(.ref b7), (.ref a1)])) _
    refine st8 _ ?_
    show Steps p.tables e below (T8.setTop (mkF m 25 #[.val (.ref a1), .val (.ref a2)] [])) _
    refine XS.aloadN X8.here hx rfl (hb hby d3_25) rfl rfl ?_
    show Steps p.tables e below (T8.setTop (mkF m 26 #[.val (.ref a1), .val (.ref a2)] [(.ref a1)])) _
    refine XS.iconst X8.here hx rfl (hb hby d3_26) ?_
    show Steps p.tables e below (T8.setTop (mkF m 27 #[.val (.ref a1), .val (.ref a2)] [(.int (-1 : Int32)), (.ref a1)])) _
    refine st9 _ ?_
    show Steps p.tables e below (T9.setTop (mkF m 30 #[.val (.ref a1), .val (.ref a2)] [])) _
    refine XS.aloadN X9.here hx rfl (hb hby d3_30) rfl rfl ?_
    show Steps p.tables e below (T9.setTop (mkF m 31 #[.val (.ref a1), .val (.ref a2)] [(.ref a1)])) _
    refine st10 _ ?_
    show Steps p.tables e below (T10.setTop (mkF m 34 #[.val (.ref a1), .val (.ref a2)] [(.ref w_NO_MEMBERS), (.ref a1)])) _
    refine st11 _ ?_
    show Steps p.tables e below (T11.setTop (mkF m 37 #[.val (.ref a1), .val (.ref a2)] [])) _
    refine XS.aloadN X11.here hx rfl (hb hby d3_37) rfl rfl ?_
    show Steps p.tables e below (T11.setTop (mkF m 38 #[.val (.ref a1), .val (.ref a2)] [(.ref a1)])) _
    refine XS.iconst X11.here hx rfl (hb hby d3_38) ?_
    show Steps p.tables e below (T11.setTop (mkF m 39 #[.val (.ref a1), .val (.ref a2)] [(.int (1 : Int32)), (.ref a1)])) _
    refine st12 _ ?_
    show Steps p.tables e below (T12.setTop (mkF m 42 #[.val (.ref a1), .val (.ref a2)] [])) _
    refine XS.aloadN X12.here hx rfl (hb hby d3_42) rfl rfl ?_
    show Steps p.tables e below (T12.setTop (mkF m 43 #[.val (.ref a1), .val (.ref a2)] [(.ref a1)])) _
    refine XS.aloadN X12.here hx rfl (hb hby d3_43) rfl rfl ?_
    show Steps p.tables e below (T12.setTop (mkF m 44 #[.val (.ref a1), .val (.ref a2)] [(.ref a2), (.ref a1)])) _
    refine st13 _ ?_
    show Steps p.tables e below (T13.setTop (mkF m 47 #[.val (.ref a1), .val (.ref a2)] [])) _
    exact X13.returnOut hx Bd.returns (hb hby d3_47) hr
  · show QG Z h0 n0 a1 (0 : Int32) (1 : Int32) [(.int (0 : Int32))] _ T13.heap _
    rw [e13]
    exact ⟨rfl, N13, K13.1, (Nat.le_trans (Nat.le_trans (Nat.le_trans (Nat.le_trans (Nat.le_trans (Nat.le_trans (Nat.le_trans (Nat.le_trans (Nat.le_trans Z0 (Keep.of_wr W4).1) E5.1) (Keep.of_wr W6).1) E7.1) (Keep.of_wr W8).1) (Keep.of_wr W9).1) (Keep.of_wr W11).1) (Keep.of_wr W12).1) (Keep.of_wr W13).1), g_a1, (((((((((E_a1.wr W4).ext E5).wr W6).ext E7).wr W8).wr W9).wr W11).wr W12).wr W13), b7, k7, g_b7, ((((Fw8.other W9 (Or.inr (slot_ne (Or.inl (hw _ (List.mem_of_getElem? (i := 32) rfl))) (Or.inl (hw _ (List.mem_of_getElem? (i := 34) rfl))) (by decide) (t := (.array .int)) (t' := .int) (by decide) (by decide)))).other W11 (Or.inr (slot_ne (Or.inl (hw _ (List.mem_of_getElem? (i := 32) rfl))) (Or.inl (hw _ (List.mem_of_getElem? (i := 38) rfl))) (by decide) (t := (.array .int)) (t' := (.array (.object "com/example/harbinger/harbinger/broker/Mailbox"))) (by decide) (by decide)))).other W12 (Or.inr (slot_ne (Or.inl (hw _ (List.mem_of_getElem? (i := 32) rfl))) (Or.inl (hw _ (List.mem_of_getElem? (i := 40) rfl))) (by decide) (t := (.array .int)) (t' := .int) (by decide) (by decide)))).other W13 (Or.inr (slot_ne (Or.inl (hw _ (List.mem_of_getElem? (i := 32) rfl))) (Or.inr (hw _ (List.mem_of_getElem? (i := 42) rfl))) (by decide) (t := (.array .int)) (t' := (.object "java/lang/String")) (by decide) (by decide)))), (((((((((F_audienceCount_a1.other W4 (Or.inr (slot_ne (Or.inl (hw _ (List.mem_of_getElem? (i := 49) rfl))) (Or.inl (hw _ (List.mem_of_getElem? (i := 26) rfl))) (by decide) (t := .int) (t' := .long) (by decide) (by decide)))).ext E5).other W6 (Or.inr (slot_ne (Or.inl (hw _ (List.mem_of_getElem? (i := 49) rfl))) (Or.inl (hw _ (List.mem_of_getElem? (i := 29) rfl))) (by decide) (t := .int) (t' := (.array .long)) (by decide) (by decide)))).ext E7).other W8 (Or.inr (slot_ne (Or.inl (hw _ (List.mem_of_getElem? (i := 49) rfl))) (Or.inl (hw _ (List.mem_of_getElem? (i := 32) rfl))) (by decide) (t := .int) (t' := (.array .int)) (by decide) (by decide)))).other W9 (Or.inr (slot_ne (Or.inl (hw _ (List.mem_of_getElem? (i := 49) rfl))) (Or.inl (hw _ (List.mem_of_getElem? (i := 34) rfl))) (by decide) (t := .int) (t' := .int) (by decide) (by decide)))).other W11 (Or.inr (slot_ne (Or.inl (hw _ (List.mem_of_getElem? (i := 49) rfl))) (Or.inl (hw _ (List.mem_of_getElem? (i := 38) rfl))) (by decide) (t := .int) (t' := (.array (.object "com/example/harbinger/harbinger/broker/Mailbox"))) (by decide) (by decide)))).other W12 (Or.inr (slot_ne (Or.inl (hw _ (List.mem_of_getElem? (i := 49) rfl))) (Or.inl (hw _ (List.mem_of_getElem? (i := 40) rfl))) (by decide) (t := .int) (t' := .int) (by decide) (by decide)))).other W13 (Or.inr (slot_ne (Or.inl (hw _ (List.mem_of_getElem? (i := 49) rfl))) (Or.inr (hw _ (List.mem_of_getElem? (i := 42) rfl))) (by decide) (t := .int) (t' := (.object "java/lang/String")) (by decide) (by decide)))), (((((V_b7.other W8 (Ne.symm (Nat.ne_of_lt (Nat.lt_of_lt_of_le (((E_a1.wr W4).ext E5).wr W6).lt (Nat.le_of_eq g7.symm))))).other W9 (Ne.symm (Nat.ne_of_lt (Nat.lt_of_lt_of_le (((E_a1.wr W4).ext E5).wr W6).lt (Nat.le_of_eq g7.symm))))).other W11 (Ne.symm (Nat.ne_of_lt (Nat.lt_of_lt_of_le (((E_a1.wr W4).ext E5).wr W6).lt (Nat.le_of_eq g7.symm))))).other W12 (Ne.symm (Nat.ne_of_lt (Nat.lt_of_lt_of_le (((E_a1.wr W4).ext E5).wr W6).lt (Nat.le_of_eq g7.symm))))).other W13 (Ne.symm (Nat.ne_of_lt (Nat.lt_of_lt_of_le (((E_a1.wr W4).ext E5).wr W6).lt (Nat.le_of_eq g7.symm)))))⟩
theorem pn_7 : plainName "java/util/Arrays" = true := by first | (simp [plainName, overriddenIn]; done) | decide +kernel
theorem pd_7_min : parseMethodDescriptor "(II)I" = some ⟨[.int, .int], some .int⟩ := by decide +kernel
theorem ef_7 (m : MethodId) (x0 : Addr) (x1 : Int32) : entryFrame m #[(.ref x0), (.int x1)] 3 = mkF m 0 #[.val (.ref x0), .val (.int x1), .unset] [] := by first | (simp [entryFrame, mkF, argsToLocals, Value.category]; done) | rfl
theorem d7_0 : decode jdk_65_method_123_code 0 = .ok (.iload_n 1, 1) := by decide +kernel
theorem d7_1 : decode jdk_65_method_123_code 1 = .ok (.aload_n 0, 1) := by decide +kernel
theorem d7_2 : decode jdk_65_method_123_code 2 = .ok (.arraylength, 1) := by decide +kernel
theorem d7_3 : decode jdk_65_method_123_code 3 = .ok (.if_icmp .ne 11, 3) := by decide +kernel
theorem d7_14 : decode jdk_65_method_123_code 14 = .ok (.iload_n 1, 1) := by decide +kernel
theorem d7_15 : decode jdk_65_method_123_code 15 = .ok (.newarray .int, 2) := by decide +kernel
theorem d7_17 : decode jdk_65_method_123_code 17 = .ok (.astore_n 2, 1) := by decide +kernel
theorem d7_18 : decode jdk_65_method_123_code 18 = .ok (.aload_n 0, 1) := by decide +kernel
theorem d7_19 : decode jdk_65_method_123_code 19 = .ok (.iconst 0, 1) := by decide +kernel
theorem d7_20 : decode jdk_65_method_123_code 20 = .ok (.aload_n 2, 1) := by decide +kernel
theorem d7_21 : decode jdk_65_method_123_code 21 = .ok (.iconst 0, 1) := by decide +kernel
theorem d7_22 : decode jdk_65_method_123_code 22 = .ok (.aload_n 0, 1) := by decide +kernel
theorem d7_23 : decode jdk_65_method_123_code 23 = .ok (.arraylength, 1) := by decide +kernel
theorem d7_24 : decode jdk_65_method_123_code 24 = .ok (.iload_n 1, 1) := by decide +kernel
theorem d7_25 : decode jdk_65_method_123_code 25 = .ok (.invokestatic 304, 3) := by decide +kernel
theorem d7_28 : decode jdk_65_method_123_code 28 = .ok (.invokestatic 150, 3) := by decide +kernel
theorem d7_31 : decode jdk_65_method_123_code 31 = .ok (.aload_n 2, 1) := by decide +kernel
theorem d7_32 : decode jdk_65_method_123_code 32 = .ok (.areturn, 1) := by decide +kernel
set_option maxRecDepth 65536 in
set_option maxHeartbeats 40000000 in
theorem rm7b (l : Launch) (Z : State) (a0 : Array Value) (hw : ∀ d ∈ tables_1, d.before a0 Z = true) (ws : List Jvm.Cond) (a1 : Addr) (kA : ClassId) (v0 : Int32) (h0 : Heap) (n0 : Nat) (Z0 : n0 ≤ h0.size) (V_a1 : Arv Z h0 a1 kA .int (1 : Int32) [(.int v0)] (.int (0 : Int32))) :
    MetFree l (⟨"java/util/Arrays", "copyOf", "([II)[I"⟩ : MethodName) (head1 (Jvm.Cond.code (⟨"java/util/Arrays", "copyOf", "([II)[I"⟩ : MethodName) jdk_65_method_123_code 3 (some (.array .int)) :: ws) ({ frames := 1, cells := 1, slots := 2, locals := 60 } : Room)) (fun a U => a = #[(.ref a1), (.int ((1 : Int32) * (2 : Int32)))] ∧ Z.Warmed39 U.vm ∧ U.heap = h0) (fun _ _ _ _ _ => True) (fun _ U o U' => ∃ v L, o = .returned v ∧ QC Z h0 n0 ((1 : Int32) * (2 : Int32)) [(.int v0), (.int (0 : Int32))] v U'.heap L ∧ FrameEnd U o U' L ({ frames := 1, cells := 1, slots := 2, locals := 60 } : Room).cells ({ frames := 1, cells := 1, slots := 2, locals := 60 } : Room).slots) := by
  refine MetFree.of_bodySF (plainFor_of_name pn_7) hisR ?_
  intro p e s m args below meth c s₁ Bd hml0 hP hK
  obtain ⟨rfl, hZ, hh⟩ := hP
  have hx := Bd.exec
  have hby := Bd.bytes
  have hml : c.maxLocals = 3 := hml0
  have hown : s.vm.findClass "java/util/Arrays" = some m.cls := findClass_of_methodNamed Bd.named
  have X0 : Stand p l e ({ frames := 1, cells := 1, slots := 2, locals := 60 } : Room) s m #[(.ref a1), (.int ((1 : Int32) * (2 : Int32)))] below meth c s₁ [] 0 0 := Stand.of_body Bd
  have e0 : s₁.heap = h0 := by rw [← hh, Bd.state]; rfl
  have N0 := Fr.nil n0
  have pre0 : ∀ t, Steps p.tables e below (s₁.setTop (mkF m 0 #[.val (.ref a1), .val (.int ((1 : Int32) * (2 : Int32))), .unset] [])) t → Steps p.tables e below (s₁.setTop (entryFrame m #[(.ref a1), (.int ((1 : Int32) * (2 : Int32)))] 3)) t := fun t k => castTop (ef_7 m a1 ((1 : Int32) * (2 : Int32))) k
  have VA := V_a1
  obtain ⟨cA, ArA, qA, SA, NA, HA, GA⟩ := V_a1
  obtain ⟨T3, h3, k3, X3, e3, E3, A3, st3⟩ := newP X0 hx hZ (hw _ (List.mem_of_getElem? (i := 30) rfl)) e0 (g := (mkF m 15 #[.val (.ref a1), .val (.int ((1 : Int32) * (2 : Int32))), .unset] [(.int ((1 : Int32) * (2 : Int32)))])) rfl (hb hby d7_15) rfl (by decide) (cap := 2) (by decide) (by decide) (by decide) (by decide)
  obtain ⟨b3, g3⟩ : ∃ z, z = h0.size := ⟨_, rfl⟩
  rw [← g3] at A3 st3
  have V_b3 : Arv Z h3 b3 k3 .int ((1 : Int32) * (2 : Int32)) [(.int (0 : Int32)), (.int (0 : Int32))] (.int (0 : Int32)) := (Arv.new A3 (by decide)).pad (pad_rep [] (.int (0 : Int32)) 2)
  have g_b3 : n0 ≤ b3 := Nat.le_trans Z0 (Nat.le_of_eq g3.symm)
  have sz_b3 : h0.size ≤ b3 := Nat.le_of_eq g3.symm
  have ArA3 := ArA.ext E3
  obtain ⟨_, _, ⟨T4, L4, k4, n4⟩, -, X4, ⟨Lc4, hQ4, l4, y4, z4⟩, st4⟩ := Jvm.LawKit.callS X3 hx (y := (⟨"java/lang/Math", "min", "(II)I"⟩ : MethodName)) hown (mvT hZ (hw _ (List.mem_of_getElem? (i := 59) rfl))) (mvT hZ (hw _ (List.mem_of_getElem? (i := 1) rfl))) (mvT hZ (hw _ (List.mem_of_getElem? (i := 2) rfl))) (mvT hZ (hw _ (List.mem_of_getElem? (i := 3) rfl))) (by decide) (backOf (W := 4) (rm1 l Z a0 hw [] (1 : Int32) ((1 : Int32) * (2 : Int32)) (1 : Int32) h3 n0 (Nat.le_trans Z0 E3.1) (by unfold R1; decide)) hZ (hw _ (List.mem_of_getElem? (i := 3) rfl)) (hw _ (List.mem_of_getElem? (i := 2) rfl)) (by decide) (by decide)) (g := (mkF m 25 #[.val (.ref a1), .val (.int ((1 : Int32) * (2 : Int32))), .val (.ref b3)] [(.int ((1 : Int32) * (2 : Int32))), (.int (1 : Int32)), (.int (0 : Int32)), (.ref b3), (.int (0 : Int32)), (.ref a1)])) rfl (by rw [hml]; rfl) (argsL := [(.int (1 : Int32)), (.int ((1 : Int32) * (2 : Int32)))]) (rest := [(.int (0 : Int32)), (.ref b3), (.int (0 : Int32)), (.ref a1)]) (lenOf pd_7_min rfl) rfl (by show 2 * 0 + _ ≤ _; exact Nat.le_of_eq rfl) (hb hby d7_25) (fun _ _ => ⟨rfl, e3, (by decide : 1 + 0 ≤ _), (by decide : 2 + 0 ≤ _)⟩)
  dsimp only [Pt.U, Pt.locs, Pt.cells, Pt.slots] at X4 l4 y4 z4 st4 hQ4
  subst l4 y4 z4
  obtain ⟨rfl, N4q, e4⟩ := hQ4
  have N4 := Fr.app N0 N4q
  obtain ⟨T5, h5, L5, X5, e5, N5, K5, V5, st5⟩ := cpA X4 hx hZ hown (hw _ (List.mem_of_getElem? (i := 60) rfl)) (hw _ (List.mem_of_getElem? (i := 63) rfl)) (hw _ (List.mem_of_getElem? (i := 61) rfl)) (hw _ (List.mem_of_getElem? (i := 62) rfl)) e4 (VA.ext E3) V_b3 (Or.inl ⟨rfl, rfl⟩) (sp := (0 : Int32)) (dp := (0 : Int32)) (nn := (1 : Int32)) (us := [(.int v0)]) (by decide) (by decide) (by decide) (by decide) (by decide) rfl (by decide) N4 g_b3 (g := (mkF m 28 #[.val (.ref a1), .val (.int ((1 : Int32) * (2 : Int32))), .val (.ref b3)] [(.int (1 : Int32)), (.int (0 : Int32)), (.ref b3), (.int (0 : Int32)), (.ref a1)])) rfl (by rw [hml]; rfl) rfl (hb hby d7_28) (by decide) (W := 0) (by show 2 * 0 + _ ≤ _; exact Nat.le_of_eq rfl) (by decide)
  have V6 : Arv Z h5 b3 k3 .int ((1 : Int32) * (2 : Int32)) [(.int v0), (.int (0 : Int32))] (.int (0 : Int32)) := V5
  have K6 : Keep h0 h5 [] := ((Keep.refl h0 []).ext E3).trans K5 fun x hx => Or.inr (by cases List.mem_singleton.mp hx; exact sz_b3)
  obtain ⟨fs, hr, hrun, hended, hW, hsame⟩ := X5.leave (v := some (.ref b3)) (fun h => by rw [Bd.returns] at h; cases h)
  refine ⟨_, _, pre0 _ ?_, hrun, hended, _, _, rfl, ?_, ⟨_, rfl⟩, hW, hsame.mono (by decide) (by decide)⟩
  · show Steps p.tables e below (s₁.setTop (mkF m 0 #[.val (.ref a1), .val (.int ((1 : Int32) * (2 : Int32))), .unset] [])) _
    refine XS.iloadN X0.here hx rfl (hb hby d7_0) rfl ?_
    show Steps p.tables e below (s₁.setTop (mkF m 1 #[.val (.ref a1), .val (.int ((1 : Int32) * (2 : Int32))), .unset] [(.int ((1 : Int32) * (2 : Int32)))])) _
    refine XS.aloadN X0.here hx rfl (hb hby d7_1) rfl rfl ?_
    show Steps p.tables e below (s₁.setTop (mkF m 2 #[.val (.ref a1), .val (.int ((1 : Int32) * (2 : Int32))), .unset] [(.ref a1), (.int ((1 : Int32) * (2 : Int32)))])) _
    refine X0.arraylength hx (by rw [e0]; exact ArA.1) (State.isArrayOf_alike hZ.alike ArA.2.1) (g := (mkF m 2 #[.val (.ref a1), .val (.int ((1 : Int32) * (2 : Int32))), .unset] [(.ref a1), (.int ((1 : Int32) * (2 : Int32)))])) rfl rfl (hb hby d7_2) _ ?_
    rw [len_of SA NA]
    show Steps p.tables e below (s₁.setTop (mkF m 3 #[.val (.ref a1), .val (.int ((1 : Int32) * (2 : Int32))), .unset] [(.int (1 : Int32)), (.int ((1 : Int32) * (2 : Int32)))])) _
    refine XS.icmpYes X0.here hx rfl (pc0 := 3) (pc' := 14) rfl (hb hby d7_3) rfl (feq (by decide)).2 (by decide) (by decide) ?_
    show Steps p.tables e below (s₁.setTop (mkF m 14 #[.val (.ref a1), .val (.int ((1 : Int32) * (2 : Int32))), .unset] [])) _
    refine XS.iloadN X0.here hx rfl (hb hby d7_14) rfl ?_
    show Steps p.tables e below (s₁.setTop (mkF m 15 #[.val (.ref a1), .val (.int ((1 : Int32) * (2 : Int32))), .unset] [(.int ((1 : Int32) * (2 : Int32)))])) _
    refine st3 _ ?_
    show Steps p.tables e below (T3.setTop (mkF m 17 #[.val (.ref a1), .val (.int ((1 : Int32) * (2 : Int32))), .unset] [(.ref b3)])) _
    refine XS.astoreN X3.here hx rfl (hb hby d7_17) rfl rfl (l' := #[.val (.ref a1), .val (.int ((1 : Int32) * (2 : Int32))), .val (.ref b3)]) rfl ?_
    show Steps p.tables e below (T3.setTop (mkF m 18 #[.val (.ref a1), .val (.int ((1 : Int32) * (2 : Int32))), .val (.ref b3)] [])) _
    refine XS.aloadN X3.here hx rfl (hb hby d7_18) rfl rfl ?_
    show Steps p.tables e below (T3.setTop (mkF m 19 #[.val (.ref a1), .val (.int ((1 : Int32) * (2 : Int32))), .val (.ref b3)] [(.ref a1)])) _
    refine XS.iconst X3.here hx rfl (hb hby d7_19) ?_
    show Steps p.tables e below (T3.setTop (mkF m 20 #[.val (.ref a1), .val (.int ((1 : Int32) * (2 : Int32))), .val (.ref b3)] [(.int (0 : Int32)), (.ref a1)])) _
    refine XS.aloadN X3.here hx rfl (hb hby d7_20) rfl rfl ?_
    show Steps p.tables e below (T3.setTop (mkF m 21 #[.val (.ref a1), .val (.int ((1 : Int32) * (2 : Int32))), .val (.ref b3)] [(.ref b3), (.int (0 : Int32)), (.ref a1)])) _
    refine XS.iconst X3.here hx rfl (hb hby d7_21) ?_
    show Steps p.tables e below (T3.setTop (mkF m 22 #[.val (.ref a1), .val (.int ((1 : Int32) * (2 : Int32))), .val (.ref b3)] [(.int (0 : Int32)), (.ref b3), (.int (0 : Int32)), (.ref a1)])) _
    refine XS.aloadN X3.here hx rfl (hb hby d7_22) rfl rfl ?_
    show Steps p.tables e below (T3.setTop (mkF m 23 #[.val (.ref a1), .val (.int ((1 : Int32) * (2 : Int32))), .val (.ref b3)] [(.ref a1), (.int (0 : Int32)), (.ref b3), (.int (0 : Int32)), (.ref a1)])) _
    refine X3.arraylength hx (by rw [e3]; exact ArA3.1) (State.isArrayOf_alike hZ.alike ArA3.2.1) (g := (mkF m 23 #[.val (.ref a1), .val (.int ((1 : Int32) * (2 : Int32))), .val (.ref b3)] [(.ref a1), (.int (0 : Int32)), (.ref b3), (.int (0 : Int32)), (.ref a1)])) rfl rfl (hb hby d7_23) _ ?_
    rw [len_of SA NA]
    show Steps p.tables e below (T3.setTop (mkF m 24 #[.val (.ref a1), .val (.int ((1 : Int32) * (2 : Int32))), .val (.ref b3)] [(.int (1 : Int32)), (.int (0 : Int32)), (.ref b3), (.int (0 : Int32)), (.ref a1)])) _
    refine XS.iloadN X3.here hx rfl (hb hby d7_24) rfl ?_
    show Steps p.tables e below (T3.setTop (mkF m 25 #[.val (.ref a1), .val (.int ((1 : Int32) * (2 : Int32))), .val (.ref b3)] [(.int ((1 : Int32) * (2 : Int32))), (.int (1 : Int32)), (.int (0 : Int32)), (.ref b3), (.int (0 : Int32)), (.ref a1)])) _
    refine st4 _ ?_
    show Steps p.tables e below (T4.setTop (mkF m 28 #[.val (.ref a1), .val (.int ((1 : Int32) * (2 : Int32))), .val (.ref b3)] [(.int (1 : Int32)), (.int (0 : Int32)), (.ref b3), (.int (0 : Int32)), (.ref a1)])) _
    refine st5 _ ?_
    show Steps p.tables e below (T5.setTop (mkF m 31 #[.val (.ref a1), .val (.int ((1 : Int32) * (2 : Int32))), .val (.ref b3)] [])) _
    refine XS.aloadN X5.here hx rfl (hb hby d7_31) rfl rfl ?_
    show Steps p.tables e below (T5.setTop (mkF m 32 #[.val (.ref a1), .val (.int ((1 : Int32) * (2 : Int32))), .val (.ref b3)] [(.ref b3)])) _
    jvm_step X5.here [X5.here.top, hx, (hb hby d7_32), X5.method', Bd.returns, Value.isRef, FieldType.isReference]
    first | (intro acts; rw [hr _ acts rfl rfl rfl]) | rw [hr _ _ rfl rfl rfl]
    exact Steps.refl _
  · show QC Z h0 n0 ((1 : Int32) * (2 : Int32)) _ _ T5.heap _
    rw [e5]
    exact ⟨b3, k3, rfl, N5, sz_b3, K6, V6⟩
set_option maxRecDepth 65536 in
set_option maxHeartbeats 40000000 in
theorem rm7c (l : Launch) (Z : State) (a0 : Array Value) (hw : ∀ d ∈ tables_1, d.before a0 Z = true) (ws : List Jvm.Cond) (a1 : Addr) (kA : ClassId) (v0 v1 : Int32) (h0 : Heap) (n0 : Nat) (Z0 : n0 ≤ h0.size) (V_a1 : Arv Z h0 a1 kA .int (2 : Int32) [(.int v0), (.int v1)] (.int (0 : Int32))) :
    MetFree l (⟨"java/util/Arrays", "copyOf", "([II)[I"⟩ : MethodName) (head1 (Jvm.Cond.code (⟨"java/util/Arrays", "copyOf", "([II)[I"⟩ : MethodName) jdk_65_method_123_code 3 (some (.array .int)) :: ws) ({ frames := 1, cells := 1, slots := 4, locals := 60 } : Room)) (fun a U => a = #[(.ref a1), (.int ((2 : Int32) * (2 : Int32)))] ∧ Z.Warmed39 U.vm ∧ U.heap = h0) (fun _ _ _ _ _ => True) (fun _ U o U' => ∃ v L, o = .returned v ∧ QC Z h0 n0 ((2 : Int32) * (2 : Int32)) [(.int v0), (.int v1), (.int (0 : Int32)), (.int (0 : Int32))] v U'.heap L ∧ FrameEnd U o U' L ({ frames := 1, cells := 1, slots := 4, locals := 60 } : Room).cells ({ frames := 1, cells := 1, slots := 4, locals := 60 } : Room).slots) := by
  refine MetFree.of_bodySF (plainFor_of_name pn_7) hisR ?_
  intro p e s m args below meth c s₁ Bd hml0 hP hK
  obtain ⟨rfl, hZ, hh⟩ := hP
  have hx := Bd.exec
  have hby := Bd.bytes
  have hml : c.maxLocals = 3 := hml0
  have hown : s.vm.findClass "java/util/Arrays" = some m.cls := findClass_of_methodNamed Bd.named
  have X0 : Stand p l e ({ frames := 1, cells := 1, slots := 4, locals := 60 } : Room) s m #[(.ref a1), (.int ((2 : Int32) * (2 : Int32)))] below meth c s₁ [] 0 0 := Stand.of_body Bd
  have e0 : s₁.heap = h0 := by rw [← hh, Bd.state]; rfl
  have N0 := Fr.nil n0
  have pre0 : ∀ t, Steps p.tables e below (s₁.setTop (mkF m 0 #[.val (.ref a1), .val (.int ((2 : Int32) * (2 : Int32))), .unset] [])) t → Steps p.tables e below (s₁.setTop (entryFrame m #[(.ref a1), (.int ((2 : Int32) * (2 : Int32)))] 3)) t := fun t k => castTop (ef_7 m a1 ((2 : Int32) * (2 : Int32))) k
  have VA := V_a1
  obtain ⟨cA, ArA, qA, SA, NA, HA, GA⟩ := V_a1
  obtain ⟨T3, h3, k3, X3, e3, E3, A3, st3⟩ := newP X0 hx hZ (hw _ (List.mem_of_getElem? (i := 30) rfl)) e0 (g := (mkF m 15 #[.val (.ref a1), .val (.int ((2 : Int32) * (2 : Int32))), .unset] [(.int ((2 : Int32) * (2 : Int32)))])) rfl (hb hby d7_15) rfl (by decide) (cap := 4) (by decide) (by decide) (by decide) (by decide)
  obtain ⟨b3, g3⟩ : ∃ z, z = h0.size := ⟨_, rfl⟩
  rw [← g3] at A3 st3
  have V_b3 : Arv Z h3 b3 k3 .int ((2 : Int32) * (2 : Int32)) [(.int (0 : Int32)), (.int (0 : Int32)), (.int (0 : Int32)), (.int (0 : Int32))] (.int (0 : Int32)) := (Arv.new A3 (by decide)).pad (pad_rep [] (.int (0 : Int32)) 4)
  have g_b3 : n0 ≤ b3 := Nat.le_trans Z0 (Nat.le_of_eq g3.symm)
  have sz_b3 : h0.size ≤ b3 := Nat.le_of_eq g3.symm
  have ArA3 := ArA.ext E3
  obtain ⟨_, _, ⟨T4, L4, k4, n4⟩, -, X4, ⟨Lc4, hQ4, l4, y4, z4⟩, st4⟩ := Jvm.LawKit.callS X3 hx (y := (⟨"java/lang/Math", "min", "(II)I"⟩ : MethodName)) hown (mvT hZ (hw _ (List.mem_of_getElem? (i := 59) rfl))) (mvT hZ (hw _ (List.mem_of_getElem? (i := 1) rfl))) (mvT hZ (hw _ (List.mem_of_getElem? (i := 2) rfl))) (mvT hZ (hw _ (List.mem_of_getElem? (i := 3) rfl))) (by decide) (backOf (W := 4) (rm1 l Z a0 hw [] (2 : Int32) ((2 : Int32) * (2 : Int32)) (2 : Int32) h3 n0 (Nat.le_trans Z0 E3.1) (by unfold R1; decide)) hZ (hw _ (List.mem_of_getElem? (i := 3) rfl)) (hw _ (List.mem_of_getElem? (i := 2) rfl)) (by decide) (by decide)) (g := (mkF m 25 #[.val (.ref a1), .val (.int ((2 : Int32) * (2 : Int32))), .val (.ref b3)] [(.int ((2 : Int32) * (2 : Int32))), (.int (2 : Int32)), (.int (0 : Int32)), (.ref b3), (.int (0 : Int32)), (.ref a1)])) rfl (by rw [hml]; rfl) (argsL := [(.int (2 : Int32)), (.int ((2 : Int32) * (2 : Int32)))]) (rest := [(.int (0 : Int32)), (.ref b3), (.int (0 : Int32)), (.ref a1)]) (lenOf pd_7_min rfl) rfl (by show 2 * 0 + _ ≤ _; exact Nat.le_of_eq rfl) (hb hby d7_25) (fun _ _ => ⟨rfl, e3, (by decide : 1 + 0 ≤ _), (by decide : 4 + 0 ≤ _)⟩)
  dsimp only [Pt.U, Pt.locs, Pt.cells, Pt.slots] at X4 l4 y4 z4 st4 hQ4
  subst l4 y4 z4
  obtain ⟨rfl, N4q, e4⟩ := hQ4
  have N4 := Fr.app N0 N4q
  obtain ⟨T5, h5, L5, X5, e5, N5, K5, V5, st5⟩ := cpA X4 hx hZ hown (hw _ (List.mem_of_getElem? (i := 60) rfl)) (hw _ (List.mem_of_getElem? (i := 63) rfl)) (hw _ (List.mem_of_getElem? (i := 61) rfl)) (hw _ (List.mem_of_getElem? (i := 62) rfl)) e4 (VA.ext E3) V_b3 (Or.inl ⟨rfl, rfl⟩) (sp := (0 : Int32)) (dp := (0 : Int32)) (nn := (2 : Int32)) (us := [(.int v0), (.int v1)]) (by decide) (by decide) (by decide) (by decide) (by decide) rfl (by decide) N4 g_b3 (g := (mkF m 28 #[.val (.ref a1), .val (.int ((2 : Int32) * (2 : Int32))), .val (.ref b3)] [(.int (2 : Int32)), (.int (0 : Int32)), (.ref b3), (.int (0 : Int32)), (.ref a1)])) rfl (by rw [hml]; rfl) rfl (hb hby d7_28) (by decide) (W := 0) (by show 2 * 0 + _ ≤ _; exact Nat.le_of_eq rfl) (by decide)
  have V6 : Arv Z h5 b3 k3 .int ((2 : Int32) * (2 : Int32)) [(.int v0), (.int v1), (.int (0 : Int32)), (.int (0 : Int32))] (.int (0 : Int32)) := V5
  have K6 : Keep h0 h5 [] := ((Keep.refl h0 []).ext E3).trans K5 fun x hx => Or.inr (by cases List.mem_singleton.mp hx; exact sz_b3)
  obtain ⟨fs, hr, hrun, hended, hW, hsame⟩ := X5.leave (v := some (.ref b3)) (fun h => by rw [Bd.returns] at h; cases h)
  refine ⟨_, _, pre0 _ ?_, hrun, hended, _, _, rfl, ?_, ⟨_, rfl⟩, hW, hsame.mono (by decide) (by decide)⟩
  · show Steps p.tables e below (s₁.setTop (mkF m 0 #[.val (.ref a1), .val (.int ((2 : Int32) * (2 : Int32))), .unset] [])) _
    refine XS.iloadN X0.here hx rfl (hb hby d7_0) rfl ?_
    show Steps p.tables e below (s₁.setTop (mkF m 1 #[.val (.ref a1), .val (.int ((2 : Int32) * (2 : Int32))), .unset] [(.int ((2 : Int32) * (2 : Int32)))])) _
    refine XS.aloadN X0.here hx rfl (hb hby d7_1) rfl rfl ?_
    show Steps p.tables e below (s₁.setTop (mkF m 2 #[.val (.ref a1), .val (.int ((2 : Int32) * (2 : Int32))), .unset] [(.ref a1), (.int ((2 : Int32) * (2 : Int32)))])) _
    refine X0.arraylength hx (by rw [e0]; exact ArA.1) (State.isArrayOf_alike hZ.alike ArA.2.1) (g := (mkF m 2 #[.val (.ref a1), .val (.int ((2 : Int32) * (2 : Int32))), .unset] [(.ref a1), (.int ((2 : Int32) * (2 : Int32)))])) rfl rfl (hb hby d7_2) _ ?_
    rw [len_of SA NA]
    show Steps p.tables e below (s₁.setTop (mkF m 3 #[.val (.ref a1), .val (.int ((2 : Int32) * (2 : Int32))), .unset] [(.int (2 : Int32)), (.int ((2 : Int32) * (2 : Int32)))])) _
    refine XS.icmpYes X0.here hx rfl (pc0 := 3) (pc' := 14) rfl (hb hby d7_3) rfl (feq (by decide)).2 (by decide) (by decide) ?_
    show Steps p.tables e below (s₁.setTop (mkF m 14 #[.val (.ref a1), .val (.int ((2 : Int32) * (2 : Int32))), .unset] [])) _
    refine XS.iloadN X0.here hx rfl (hb hby d7_14) rfl ?_
    show Steps p.tables e below (s₁.setTop (mkF m 15 #[.val (.ref a1), .val (.int ((2 : Int32) * (2 : Int32))), .unset] [(.int ((2 : Int32) * (2 : Int32)))])) _
    refine st3 _ ?_
    show Steps p.tables e below (T3.setTop (mkF m 17 #[.val (.ref a1), .val (.int ((2 : Int32) * (2 : Int32))), .unset] [(.ref b3)])) _
    refine XS.astoreN X3.here hx rfl (hb hby d7_17) rfl rfl (l' := #[.val (.ref a1), .val (.int ((2 : Int32) * (2 : Int32))), .val (.ref b3)]) rfl ?_
    show Steps p.tables e below (T3.setTop (mkF m 18 #[.val (.ref a1), .val (.int ((2 : Int32) * (2 : Int32))), .val (.ref b3)] [])) _
    refine XS.aloadN X3.here hx rfl (hb hby d7_18) rfl rfl ?_
    show Steps p.tables e below (T3.setTop (mkF m 19 #[.val (.ref a1), .val (.int ((2 : Int32) * (2 : Int32))), .val (.ref b3)] [(.ref a1)])) _
    refine XS.iconst X3.here hx rfl (hb hby d7_19) ?_
    show Steps p.tables e below (T3.setTop (mkF m 20 #[.val (.ref a1), .val (.int ((2 : Int32) * (2 : Int32))), .val (.ref b3)] [(.int (0 : Int32)), (.ref a1)])) _
    refine XS.aloadN X3.here hx rfl (hb hby d7_20) rfl rfl ?_
    show Steps p.tables e below (T3.setTop (mkF m 21 #[.val (.ref a1), .val (.int ((2 : Int32) * (2 : Int32))), .val (.ref b3)] [(.ref b3), (.int (0 : Int32)), (.ref a1)])) _
    refine XS.iconst X3.here hx rfl (hb hby d7_21) ?_
    show Steps p.tables e below (T3.setTop (mkF m 22 #[.val (.ref a1), .val (.int ((2 : Int32) * (2 : Int32))), .val (.ref b3)] [(.int (0 : Int32)), (.ref b3), (.int (0 : Int32)), (.ref a1)])) _
    refine XS.aloadN X3.here hx rfl (hb hby d7_22) rfl rfl ?_
    show Steps p.tables e below (T3.setTop (mkF m 23 #[.val (.ref a1), .val (.int ((2 : Int32) * (2 : Int32))), .val (.ref b3)] [(.ref a1), (.int (0 : Int32)), (.ref b3), (.int (0 : Int32)), (.ref a1)])) _
    refine X3.arraylength hx (by rw [e3]; exact ArA3.1) (State.isArrayOf_alike hZ.alike ArA3.2.1) (g := (mkF m 23 #[.val (.ref a1), .val (.int ((2 : Int32) * (2 : Int32))), .val (.ref b3)] [(.ref a1), (.int (0 : Int32)), (.ref b3), (.int (0 : Int32)), (.ref a1)])) rfl rfl (hb hby d7_23) _ ?_
    rw [len_of SA NA]
    show Steps p.tables e below (T3.setTop (mkF m 24 #[.val (.ref a1), .val (.int ((2 : Int32) * (2 : Int32))), .val (.ref b3)] [(.int (2 : Int32)), (.int (0 : Int32)), (.ref b3), (.int (0 : Int32)), (.ref a1)])) _
    refine XS.iloadN X3.here hx rfl (hb hby d7_24) rfl ?_
    show Steps p.tables e below (T3.setTop (mkF m 25 #[.val (.ref a1), .val (.int ((2 : Int32) * (2 : Int32))), .val (.ref b3)] [(.int ((2 : Int32) * (2 : Int32))), (.int (2 : Int32)), (.int (0 : Int32)), (.ref b3), (.int (0 : Int32)), (.ref a1)])) _
    refine st4 _ ?_
    show Steps p.tables e below (T4.setTop (mkF m 28 #[.val (.ref a1), .val (.int ((2 : Int32) * (2 : Int32))), .val (.ref b3)] [(.int (2 : Int32)), (.int (0 : Int32)), (.ref b3), (.int (0 : Int32)), (.ref a1)])) _
    refine st5 _ ?_
    show Steps p.tables e below (T5.setTop (mkF m 31 #[.val (.ref a1), .val (.int ((2 : Int32) * (2 : Int32))), .val (.ref b3)] [])) _
    refine XS.aloadN X5.here hx rfl (hb hby d7_31) rfl rfl ?_
    show Steps p.tables e below (T5.setTop (mkF m 32 #[.val (.ref a1), .val (.int ((2 : Int32) * (2 : Int32))), .val (.ref b3)] [(.ref b3)])) _
    jvm_step X5.here [X5.here.top, hx, (hb hby d7_32), X5.method', Bd.returns, Value.isRef, FieldType.isReference]
    first | (intro acts; rw [hr _ acts rfl rfl rfl]) | rw [hr _ _ rfl rfl rfl]
    exact Steps.refl _
  · show QC Z h0 n0 ((2 : Int32) * (2 : Int32)) _ _ T5.heap _
    rw [e5]
    exact ⟨b3, k3, rfl, N5, sz_b3, K6, V6⟩
theorem d6_0 : decode prog_6_method_9_code 0 = .ok (.aload_n 0, 1) := by decide +kernel
theorem d6_1 : decode prog_6_method_9_code 1 = .ok (.getfield 68, 3) := by decide +kernel
theorem d6_4 : decode prog_6_method_9_code 4 = .ok (.aload_n 0, 1) := by decide +kernel
theorem d6_5 : decode prog_6_method_9_code 5 = .ok (.getfield 21, 3) := by decide +kernel
theorem d6_8 : decode prog_6_method_9_code 8 = .ok (.arraylength, 1) := by decide +kernel
theorem d6_9 : decode prog_6_method_9_code 9 = .ok (.if_icmp .ne 20, 3) := by decide +kernel
theorem d6_29 : decode prog_6_method_9_code 29 = .ok (.aload_n 0, 1) := by decide +kernel
theorem d6_30 : decode prog_6_method_9_code 30 = .ok (.getfield 21, 3) := by decide +kernel
theorem d6_33 : decode prog_6_method_9_code 33 = .ok (.aload_n 0, 1) := by decide +kernel
theorem d6_34 : decode prog_6_method_9_code 34 = .ok (.dup, 1) := by decide +kernel
theorem d6_35 : decode prog_6_method_9_code 35 = .ok (.getfield 68, 3) := by decide +kernel
theorem d6_38 : decode prog_6_method_9_code 38 = .ok (.dup_x1, 1) := by decide +kernel
theorem d6_39 : decode prog_6_method_9_code 39 = .ok (.iconst 1, 1) := by decide +kernel
theorem d6_40 : decode prog_6_method_9_code 40 = .ok (.iadd, 1) := by decide +kernel
theorem d6_41 : decode prog_6_method_9_code 41 = .ok (.putfield 68, 3) := by decide +kernel
theorem d6_44 : decode prog_6_method_9_code 44 = .ok (.iload_n 1, 1) := by decide +kernel
theorem d6_45 : decode prog_6_method_9_code 45 = .ok (.iastore, 1) := by decide +kernel
theorem d6_46 : decode prog_6_method_9_code 46 = .ok (.return_, 1) := by decide +kernel
theorem pn_6 : plainName "com/example/harbinger/harbinger/broker/Group" = true := by first | (simp [plainName, overriddenIn]; done) | decide +kernel
theorem ef_6 (m : MethodId) (x0 : Addr) (x1 : Int32) : entryFrame m #[(.ref x0), (.int x1)] 2 = mkF m 0 #[.val (.ref x0), .val (.int x1)] [] := by first | (simp [entryFrame, mkF, argsToLocals, Value.category]; done) | rfl
set_option maxRecDepth 65536 in
set_option maxHeartbeats 40000000 in
theorem rm6_rawa (l : Launch) (Z : State) (a0 : Array Value) (hw : ∀ d ∈ tables_1, d.before a0 Z = true) (ws : List Jvm.Cond) (a1 : Addr) (p2 : Int32) (w5 : Addr) (kA : ClassId) (v0 : Int32) (h0 : Heap) (n0 : Nat) (Z0 : n0 ≤ h0.size) (V_w5 : Arv Z h0 w5 kA .int (1 : Int32) [(.int v0)] (.int (0 : Int32))) (g_w5 : n0 ≤ w5) (F_audienceCount_a1 : Fld Z h0 a1 "com/example/harbinger/harbinger/broker/Group" "audienceCount" "I" (.int (0 : Int32))) (F_audiences_a1 : Fld Z h0 a1 "com/example/harbinger/harbinger/broker/Group" "audiences" "[I" (.ref w5)) (E_a1 : Exa Z h0 a1 "com/example/harbinger/harbinger/broker/Group") (g_a1 : n0 ≤ a1) (hne_w5_a1 : w5 ≠ a1) (hc9 : ¬ ((0 : Int32) = (1 : Int32))) :
    MetFree l (⟨"com/example/harbinger/harbinger/broker/Group", "adopt", "(I)V"⟩ : MethodName) (head1 (Jvm.Cond.code (⟨"com/example/harbinger/harbinger/broker/Group", "adopt", "(I)V"⟩ : MethodName) prog_6_method_9_code 2 none :: ws) ({ frames := 0, cells := 0, slots := 0, locals := 0 } : Room)) (fun a U => a = #[(.ref a1), (.int p2)] ∧ Z.Warmed39 U.vm ∧ U.heap = h0) (fun _ _ _ _ _ => True) (fun _ U o U' => ∃ v L, o = .returned v ∧ QG Z h0 n0 a1 ((0 : Int32) + (1 : Int32)) (1 : Int32) [(.int p2)] v U'.heap L ∧ FrameEnd U o U' L ({ frames := 0, cells := 0, slots := 0, locals := 0 } : Room).cells ({ frames := 0, cells := 0, slots := 0, locals := 0 } : Room).slots) := by
  refine MetFree.of_bodySF (plainFor_of_name pn_6) hisR ?_
  intro p e s m args below meth c s₁ Bd hml0 hP hK
  obtain ⟨rfl, hZ, hh⟩ := hP
  have hx := Bd.exec
  have hby := Bd.bytes
  have hml : c.maxLocals = 2 := hml0
  have hown : s.vm.findClass "com/example/harbinger/harbinger/broker/Group" = some m.cls := findClass_of_methodNamed Bd.named
  have hnm := (name_of_methodNamed Bd.named Bd.method).1
  have X0 : Stand p l e ({ frames := 0, cells := 0, slots := 0, locals := 0 } : Room) s m #[(.ref a1), (.int p2)] below meth c s₁ [] 0 0 := Stand.of_body Bd
  have e0 : s₁.heap = h0 := by rw [← hh, Bd.state]; rfl
  have N0 := Fr.nil n0
  have pre0 : ∀ t, Steps p.tables e below (s₁.setTop (mkF m 0 #[.val (.ref a1), .val (.int p2)] [])) t → Steps p.tables e below (s₁.setTop (entryFrame m #[(.ref a1), (.int p2)] 2)) t := fun t k => castTop (ef_6 m a1 p2) k
  -- 3. LAWS
  obtain ⟨T3, X3, e3, st3⟩ := getF X0 hx hZ hown (host := "") (Or.inl (hw _ (List.mem_of_getElem? (i := 48) rfl))) Via.refl e0 F_audienceCount_a1 (g := (mkF m 1 #[.val (.ref a1), .val (.int p2)] [(.ref a1)])) rfl rfl (hb hby d6_1)
  obtain ⟨T4, X4, e4, st4⟩ := getF X3 hx hZ hown (host := "") (Or.inl (hw _ (List.mem_of_getElem? (i := 31) rfl))) Via.refl e3 F_audiences_a1 (g := (mkF m 5 #[.val (.ref a1), .val (.int p2)] [(.ref a1), (.int (0 : Int32))])) rfl rfl (hb hby d6_5)
  obtain ⟨cl8v, Ar8v, q8v, S8v, N8v, H8v, G8v⟩ := id V_w5
  obtain ⟨T5, X5, e5, st5⟩ := getF X4 hx hZ hown (host := "") (Or.inl (hw _ (List.mem_of_getElem? (i := 31) rfl))) Via.refl e4 F_audiences_a1 (g := (mkF m 30 #[.val (.ref a1), .val (.int p2)] [(.ref a1)])) rfl rfl (hb hby d6_30)
  obtain ⟨T6, X6, e6, st6⟩ := getF X5 hx hZ hown (host := "") (Or.inl (hw _ (List.mem_of_getElem? (i := 48) rfl))) Via.refl e5 F_audienceCount_a1 (g := (mkF m 35 #[.val (.ref a1), .val (.int p2)] [(.ref a1), (.ref a1), (.ref w5)])) rfl rfl (hb hby d6_35)
  obtain ⟨T7, h7, X7, e7, W7, st7⟩ := putF X6 hx hZ hown (host := "") (Or.inl (hw _ (List.mem_of_getElem? (i := 48) rfl))) Via.refl e6 F_audienceCount_a1 E_a1 (Or.inl (hw _ (List.mem_of_getElem? (i := 49) rfl))) (hw _ (List.mem_of_getElem? (i := 8) rfl)) (ty := .int) (by decide) rfl rfl (g := (mkF m 41 #[.val (.ref a1), .val (.int p2)] [(.int ((0 : Int32) + (1 : Int32))), (.ref a1), (.int (0 : Int32)), (.ref w5)])) rfl rfl (hb hby d6_41)
  have Fw7 := F_audienceCount_a1.same W7      -- the field now holds (.int ((0 : Int32) + (1 : Int32)))
  have K7 : Keep h0 h7 [a1] := (Keep.refl h0 [a1]).wr W7 (Or.inl (List.mem_of_getElem? (i := 0) rfl))
  have N7 := Fr.snoc X7 N0 g_a1
  obtain ⟨cl45v, Ar45v, q45v, S45v, N45v, H45v, G45v⟩ := (V_w5.other W7 hne_w5_a1)
  have hin45 : ¬ ((0 : Int32) < 0 ∨ cl45v.slots.size ≤ ((0 : Int32)).toNatClampNeg) := inb_of S45v ⟨by decide, by decide⟩
  obtain ⟨T8, h8, X8, e8, W8, st8⟩ := stI X7 hx hZ e7 Ar45v (j := (0 : Int32)) hin45 (g := (mkF m 45 #[.val (.ref a1), .val (.int p2)] [(.int p2), (.int (0 : Int32)), (.ref w5)])) rfl rfl (hb hby d6_45)
  have V45 : Arv Z h8 w5 kA .int (1 : Int32) [(.int p2)] (.int (0 : Int32)) := Arv.set Ar45v q45v S45v N45v H45v G45v rfl W8 0 rfl (Nat.le_of_ble_eq_true rfl)
  have N8 := Fr.snoc X8 N7 g_w5
  obtain ⟨fs, hr, hrun, hended, hW, hsame⟩ := X8.leave (v := none) (fun _ => rfl)
  refine ⟨_, _, pre0 _ ?_, hrun, hended, _, _, rfl, ?_, ⟨_, rfl⟩, hW, hsame.mono (by decide) (by decide)⟩
  -- 4. STEPS
  · show Steps p.tables e below (s₁.setTop (mkF m 0 #[.val (.ref a1), .val (.int p2)] [])) _
    refine XS.aloadN X0.here hx rfl (hb hby d6_0) rfl rfl ?_
    show Steps p.tables e below (s₁.setTop (mkF m 1 #[.val (.ref a1), .val (.int p2)] [(.ref a1)])) _
    refine st3 _ ?_
    show Steps p.tables e below (T3.setTop (mkF m 4 #[.val (.ref a1), .val (.int p2)] [(.int (0 : Int32))])) _
    refine XS.aloadN X3.here hx rfl (hb hby d6_4) rfl rfl ?_
    show Steps p.tables e below (T3.setTop (mkF m 5 #[.val (.ref a1), .val (.int p2)] [(.ref a1), (.int (0 : Int32))])) _
    refine st4 _ ?_
    show Steps p.tables e below (T4.setTop (mkF m 8 #[.val (.ref a1), .val (.int p2)] [(.ref w5), (.int (0 : Int32))])) _
    refine X4.arraylength hx (by rw [e4]; exact Ar8v.1) (State.isArrayOf_alike hZ.alike Ar8v.2.1) (g := (mkF m 8 #[.val (.ref a1), .val (.int p2)] [(.ref w5), (.int (0 : Int32))])) rfl rfl (hb hby d6_8) _ ?_
    rw [len_of S8v N8v]
    show Steps p.tables e below (T4.setTop (mkF m 9 #[.val (.ref a1), .val (.int p2)] [(.int (1 : Int32)), (.int (0 : Int32))])) _
    refine XS.icmpYes X4.here hx rfl (pc0 := 9) (pc' := 29) rfl (hb hby d6_9) rfl (feq hc9).2 (by decide) (by decide) ?_
    show Steps p.tables e below (T4.setTop (mkF m 29 #[.val (.ref a1), .val (.int p2)] [])) _
    refine XS.aloadN X4.here hx rfl (hb hby d6_29) rfl rfl ?_
    show Steps p.tables e below (T4.setTop (mkF m 30 #[.val (.ref a1), .val (.int p2)] [(.ref a1)])) _
    refine st5 _ ?_
    show Steps p.tables e below (T5.setTop (mkF m 33 #[.val (.ref a1), .val (.int p2)] [(.ref w5)])) _
    refine XS.aloadN X5.here hx rfl (hb hby d6_33) rfl rfl ?_
    show Steps p.tables e below (T5.setTop (mkF m 34 #[.val (.ref a1), .val (.int p2)] [(.ref a1), (.ref w5)])) _
    refine XS.dup X5.here hx rfl (hb hby d6_34) rfl rfl ?_
    show Steps p.tables e below (T5.setTop (mkF m 35 #[.val (.ref a1), .val (.int p2)] [(.ref a1), (.ref a1), (.ref w5)])) _
    refine st6 _ ?_
    show Steps p.tables e below (T6.setTop (mkF m 38 #[.val (.ref a1), .val (.int p2)] [(.int (0 : Int32)), (.ref a1), (.ref w5)])) _
    refine XS.dupX1 X6.here hx rfl (hb hby d6_38) rfl rfl rfl ?_
    show Steps p.tables e below (T6.setTop (mkF m 39 #[.val (.ref a1), .val (.int p2)] [(.int (0 : Int32)), (.ref a1), (.int (0 : Int32)), (.ref w5)])) _
    refine XS.iconst X6.here hx rfl (hb hby d6_39) ?_
    show Steps p.tables e below (T6.setTop (mkF m 40 #[.val (.ref a1), .val (.int p2)] [(.int (1 : Int32)), (.int (0 : Int32)), (.ref a1), (.int (0 : Int32)), (.ref w5)])) _
    refine XS.iadd X6.here hx rfl (hb hby d6_40) rfl ?_
    show Steps p.tables e below (T6.setTop (mkF m 41 #[.val (.ref a1), .val (.int p2)] [(.int ((0 : Int32) + (1 : Int32))), (.ref a1), (.int (0 : Int32)), (.ref w5)])) _
    refine st7 _ ?_
    show Steps p.tables e below (T7.setTop (mkF m 44 #[.val (.ref a1), .val (.int p2)] [(.int (0 : Int32)), (.ref w5)])) _
    refine XS.iloadN X7.here hx rfl (hb hby d6_44) rfl ?_
    show Steps p.tables e below (T7.setTop (mkF m 45 #[.val (.ref a1), .val (.int p2)] [(.int p2), (.int (0 : Int32)), (.ref w5)])) _
    refine st8 _ ?_
    show Steps p.tables e below (T8.setTop (mkF m 46 #[.val (.ref a1), .val (.int p2)] [])) _
    exact X8.returnOut hx Bd.returns (hb hby d6_46) hr
  · show QG Z h0 n0 a1 ((0 : Int32) + (1 : Int32)) (1 : Int32) [(.int p2)] _ T8.heap _
    rw [e8]
    exact ⟨rfl, N8, (Nat.le_trans (Nat.le_trans (Nat.le_refl h0.size) (Keep.of_wr W7).1) (Keep.of_wr W8).1), (Nat.le_trans (Nat.le_trans Z0 (Keep.of_wr W7).1) (Keep.of_wr W8).1), g_a1, ((E_a1.wr W7).wr W8), w5, kA, g_w5, ((F_audiences_a1.other W7 (Or.inr (slot_ne (Or.inl (hw _ (List.mem_of_getElem? (i := 32) rfl))) (Or.inl (hw _ (List.mem_of_getElem? (i := 49) rfl))) (by decide) (t := (.array .int)) (t' := .int) (by decide) (by decide)))).other W8 (Or.inl hne_w5_a1.symm)), (Fw7.other W8 (Or.inl hne_w5_a1.symm)), V45⟩
theorem rm6a (l : Launch) (Z : State) (a0 : Array Value) (hw : ∀ d ∈ tables_1, d.before a0 Z = true) (ws : List Jvm.Cond) (a1 : Addr) (p2 : Int32) (v0 : Int32) (h0 : Heap) (n0 : Nat) (Z0 : n0 ≤ h0.size) (H : GI Z h0 n0 a1 (0 : Int32) (1 : Int32) [(.int v0)]) :
    MetFree l (⟨"com/example/harbinger/harbinger/broker/Group", "adopt", "(I)V"⟩ : MethodName) (head1 (Jvm.Cond.code (⟨"com/example/harbinger/harbinger/broker/Group", "adopt", "(I)V"⟩ : MethodName) prog_6_method_9_code 2 none :: ws) ({ frames := 0, cells := 0, slots := 0, locals := 0 } : Room)) (fun a U => a = #[(.ref a1), (.int p2)] ∧ Z.Warmed39 U.vm ∧ U.heap = h0) (fun _ _ _ _ _ => True) (fun _ U o U' => ∃ v L, o = .returned v ∧ QG Z h0 n0 a1 (1 : Int32) (1 : Int32) [(.int p2)] v U'.heap L ∧ FrameEnd U o U' L ({ frames := 0, cells := 0, slots := 0, locals := 0 } : Room).cells ({ frames := 0, cells := 0, slots := 0, locals := 0 } : Room).slots) := by
  obtain ⟨-, ga, E, b, k, gb, Fa, Fc, V⟩ := H
  have hne : b ≠ a1 := by
    obtain ⟨cl, A, -⟩ := V
    exact (ne_arr E (hw _ (List.mem_of_getElem? (i := 8) rfl)) A).symm
  exact rm6_rawa l Z a0 hw ws a1 p2 b k v0 h0 n0 Z0 V gb Fc Fa E ga hne (by decide)
theorem d6_12 : decode prog_6_method_9_code 12 = .ok (.aload_n 0, 1) := by decide +kernel
theorem d6_13 : decode prog_6_method_9_code 13 = .ok (.aload_n 0, 1) := by decide +kernel
theorem d6_14 : decode prog_6_method_9_code 14 = .ok (.getfield 21, 3) := by decide +kernel
theorem d6_17 : decode prog_6_method_9_code 17 = .ok (.aload_n 0, 1) := by decide +kernel
theorem d6_18 : decode prog_6_method_9_code 18 = .ok (.getfield 68, 3) := by decide +kernel
theorem d6_21 : decode prog_6_method_9_code 21 = .ok (.iconst 2, 1) := by decide +kernel
theorem d6_22 : decode prog_6_method_9_code 22 = .ok (.imul, 1) := by decide +kernel
theorem d6_23 : decode prog_6_method_9_code 23 = .ok (.invokestatic 71, 3) := by decide +kernel
theorem d6_26 : decode prog_6_method_9_code 26 = .ok (.putfield 21, 3) := by decide +kernel
theorem pd_6_5 : parseMethodDescriptor "([II)[I" = some ⟨[(.array .int), .int], some (.array .int)⟩ := by decide +kernel
set_option maxRecDepth 65536 in
set_option maxHeartbeats 40000000 in
theorem rm6_rawb (l : Launch) (Z : State) (a0 : Array Value) (hw : ∀ d ∈ tables_1, d.before a0 Z = true) (ws : List Jvm.Cond) (a1 : Addr) (p2 : Int32) (w5 : Addr) (kA : ClassId) (v0 : Int32) (h0 : Heap) (n0 : Nat) (Z0 : n0 ≤ h0.size) (V_w5 : Arv Z h0 w5 kA .int (1 : Int32) [(.int v0)] (.int (0 : Int32))) (g_w5 : n0 ≤ w5) (F_audienceCount_a1 : Fld Z h0 a1 "com/example/harbinger/harbinger/broker/Group" "audienceCount" "I" (.int (1 : Int32))) (F_audiences_a1 : Fld Z h0 a1 "com/example/harbinger/harbinger/broker/Group" "audiences" "[I" (.ref w5)) (E_a1 : Exa Z h0 a1 "com/example/harbinger/harbinger/broker/Group") (g_a1 : n0 ≤ a1) :
    MetFree l (⟨"com/example/harbinger/harbinger/broker/Group", "adopt", "(I)V"⟩ : MethodName) (head1 (Jvm.Cond.code (⟨"com/example/harbinger/harbinger/broker/Group", "adopt", "(I)V"⟩ : MethodName) prog_6_method_9_code 2 none :: ws) ({ frames := 2, cells := 1, slots := 2, locals := 75 } : Room)) (fun a U => a = #[(.ref a1), (.int p2)] ∧ Z.Warmed39 U.vm ∧ U.heap = h0) (fun _ _ _ _ _ => True) (fun _ U o U' => ∃ v L, o = .returned v ∧ QG Z h0 n0 a1 ((1 : Int32) + (1 : Int32)) ((1 : Int32) * (2 : Int32)) [(.int v0), (.int p2)] v U'.heap L ∧ FrameEnd U o U' L ({ frames := 2, cells := 1, slots := 2, locals := 75 } : Room).cells ({ frames := 2, cells := 1, slots := 2, locals := 75 } : Room).slots) := by
  refine MetFree.of_bodySF (plainFor_of_name pn_6) hisR ?_
  intro p e s m args below meth c s₁ Bd hml0 hP hK
  obtain ⟨rfl, hZ, hh⟩ := hP
  have hx := Bd.exec
  have hby := Bd.bytes
  have hml : c.maxLocals = 2 := hml0
  have hown : s.vm.findClass "com/example/harbinger/harbinger/broker/Group" = some m.cls := findClass_of_methodNamed Bd.named
  have hnm := (name_of_methodNamed Bd.named Bd.method).1
  have X0 : Stand p l e ({ frames := 2, cells := 1, slots := 2, locals := 75 } : Room) s m #[(.ref a1), (.int p2)] below meth c s₁ [] 0 0 := Stand.of_body Bd
  have e0 : s₁.heap = h0 := by rw [← hh, Bd.state]; rfl
  have N0 := Fr.nil n0
  have pre0 : ∀ t, Steps p.tables e below (s₁.setTop (mkF m 0 #[.val (.ref a1), .val (.int p2)] [])) t → Steps p.tables e below (s₁.setTop (entryFrame m #[(.ref a1), (.int p2)] 2)) t := fun t k => castTop (ef_6 m a1 p2) k
  -- 3. LAWS
  obtain ⟨T3, X3, e3, st3⟩ := getF X0 hx hZ hown (host := "") (Or.inl (hw _ (List.mem_of_getElem? (i := 48) rfl))) Via.refl e0 F_audienceCount_a1 (g := (mkF m 1 #[.val (.ref a1), .val (.int p2)] [(.ref a1)])) rfl rfl (hb hby d6_1)
  obtain ⟨T4, X4, e4, st4⟩ := getF X3 hx hZ hown (host := "") (Or.inl (hw _ (List.mem_of_getElem? (i := 31) rfl))) Via.refl e3 F_audiences_a1 (g := (mkF m 5 #[.val (.ref a1), .val (.int p2)] [(.ref a1), (.int (1 : Int32))])) rfl rfl (hb hby d6_5)
  obtain ⟨cl8v, Ar8v, q8v, S8v, N8v, H8v, G8v⟩ := id V_w5
  obtain ⟨T5, X5, e5, st5⟩ := getF X4 hx hZ hown (host := "") (Or.inl (hw _ (List.mem_of_getElem? (i := 31) rfl))) Via.refl e4 F_audiences_a1 (g := (mkF m 14 #[.val (.ref a1), .val (.int p2)] [(.ref a1), (.ref a1)])) rfl rfl (hb hby d6_14)
  obtain ⟨T6, X6, e6, st6⟩ := getF X5 hx hZ hown (host := "") (Or.inl (hw _ (List.mem_of_getElem? (i := 48) rfl))) Via.refl e5 F_audienceCount_a1 (g := (mkF m 18 #[.val (.ref a1), .val (.int p2)] [(.ref a1), (.ref w5), (.ref a1)])) rfl rfl (hb hby d6_18)
  obtain ⟨_, _, ⟨T7, L7, k7, n7⟩, -, X7, ⟨Lc7, hQ7, l7, y7, z7⟩, st7⟩ := Jvm.LawKit.callS X6 hx (y := (⟨"java/util/Arrays", "copyOf", "([II)[I"⟩ : MethodName)) hown (mvT hZ (hw _ (List.mem_of_getElem? (i := 55) rfl))) (mvT hZ (hw _ (List.mem_of_getElem? (i := 56) rfl))) (mvT hZ (hw _ (List.mem_of_getElem? (i := 57) rfl))) (mvT hZ (hw _ (List.mem_of_getElem? (i := 58) rfl))) (by decide) (backOf (W := 1) (rm7b l Z a0 hw [] w5 kA v0 h0 n0 Z0 V_w5) hZ (hw _ (List.mem_of_getElem? (i := 58) rfl)) (hw _ (List.mem_of_getElem? (i := 57) rfl)) (by decide) (by decide)) (g := (mkF m 23 #[.val (.ref a1), .val (.int p2)] [(.int ((1 : Int32) * (2 : Int32))), (.ref w5), (.ref a1)])) rfl (by rw [hml]; rfl) (argsL := [(.ref w5), (.int ((1 : Int32) * (2 : Int32)))]) (rest := [(.ref a1)]) (lenOf pd_6_5 rfl) rfl (by show 2 * 0 + _ ≤ _; exact Nat.le_of_eq rfl) (hb hby d6_23) (fun _ _ => ⟨rfl, e6, (by decide : 0 + 1 ≤ _), (by decide : 0 + 2 ≤ _)⟩)
  dsimp only [Pt.U, Pt.locs, Pt.cells, Pt.slots] at X7 l7 y7 z7 st7 hQ7
  subst l7 y7 z7
  obtain ⟨b7, kb7, rfl, N7q, ge7, Kc7, V_b7⟩ := hQ7
  have N7 := Fr.app N0 N7q
  have g_b7 : n0 ≤ b7 := Nat.le_trans Z0 ge7
  have Kk7 : Keep h0 T7.heap [a1] := (Keep.refl h0 [a1]).trans Kc7 (fun _ q => absurd q List.not_mem_nil)
  obtain ⟨T8, h8, X8, e8, W8, st8⟩ := putF X7 hx hZ hown (host := "") (Or.inl (hw _ (List.mem_of_getElem? (i := 31) rfl))) Via.refl rfl (F_audiences_a1.keep Kc7 List.not_mem_nil) (E_a1.keep Kc7) (Or.inl (hw _ (List.mem_of_getElem? (i := 32) rfl))) (hw _ (List.mem_of_getElem? (i := 8) rfl)) (ty := (.array .int)) (by decide) rfl rfl (g := (mkF m 26 #[.val (.ref a1), .val (.int p2)] [(.ref b7), (.ref a1)])) rfl rfl (hb hby d6_26)
  have Fw8 := (F_audiences_a1.keep Kc7 List.not_mem_nil).same W8      -- the field now holds (.ref b7)
  have K8 : Keep h0 h8 [a1] := Kk7.wr W8 (Or.inl (List.mem_of_getElem? (i := 0) rfl))
  have N8 := Fr.snoc X8 N7 g_a1
  obtain ⟨T9, X9, e9, st9⟩ := getF X8 hx hZ hown (host := "") (Or.inl (hw _ (List.mem_of_getElem? (i := 31) rfl))) Via.refl e8 Fw8 (g := (mkF m 30 #[.val (.ref a1), .val (.int p2)] [(.ref a1)])) rfl rfl (hb hby d6_30)
  obtain ⟨T10, X10, e10, st10⟩ := getF X9 hx hZ hown (host := "") (Or.inl (hw _ (List.mem_of_getElem? (i := 48) rfl))) Via.refl e9 ((F_audienceCount_a1.keep Kc7 List.not_mem_nil).other W8 (Or.inr (slot_ne (Or.inl (hw _ (List.mem_of_getElem? (i := 49) rfl))) (Or.inl (hw _ (List.mem_of_getElem? (i := 32) rfl))) (by decide) (t := .int) (t' := (.array .int)) (by decide) (by decide)))) (g := (mkF m 35 #[.val (.ref a1), .val (.int p2)] [(.ref a1), (.ref a1), (.ref b7)])) rfl rfl (hb hby d6_35)
  obtain ⟨T11, h11, X11, e11, W11, st11⟩ := putF X10 hx hZ hown (host := "") (Or.inl (hw _ (List.mem_of_getElem? (i := 48) rfl))) Via.refl e10 ((F_audienceCount_a1.keep Kc7 List.not_mem_nil).other W8 (Or.inr (slot_ne (Or.inl (hw _ (List.mem_of_getElem? (i := 49) rfl))) (Or.inl (hw _ (List.mem_of_getElem? (i := 32) rfl))) (by decide) (t := .int) (t' := (.array .int)) (by decide) (by decide)))) ((E_a1.keep Kc7).wr W8) (Or.inl (hw _ (List.mem_of_getElem? (i := 49) rfl))) (hw _ (List.mem_of_getElem? (i := 8) rfl)) (ty := .int) (by decide) rfl rfl (g := (mkF m 41 #[.val (.ref a1), .val (.int p2)] [(.int ((1 : Int32) + (1 : Int32))), (.ref a1), (.int (1 : Int32)), (.ref b7)])) rfl rfl (hb hby d6_41)
  have Fw11 := ((F_audienceCount_a1.keep Kc7 List.not_mem_nil).other W8 (Or.inr (slot_ne (Or.inl (hw _ (List.mem_of_getElem? (i := 49) rfl))) (Or.inl (hw _ (List.mem_of_getElem? (i := 32) rfl))) (by decide) (t := .int) (t' := (.array .int)) (by decide) (by decide)))).same W11      -- the field now holds (.int ((1 : Int32) + (1 : Int32)))
  have K11 : Keep h0 h11 [a1] := K8.wr W11 (Or.inl (List.mem_of_getElem? (i := 0) rfl))
  have N11 := Fr.snoc X11 N8 g_a1
  obtain ⟨cl45v, Ar45v, q45v, S45v, N45v, H45v, G45v⟩ := ((V_b7.other W8 (Ne.symm (Nat.ne_of_lt (Nat.lt_of_lt_of_le E_a1.lt ge7)))).other W11 (Ne.symm (Nat.ne_of_lt (Nat.lt_of_lt_of_le E_a1.lt ge7))))
  have hin45 : ¬ ((1 : Int32) < 0 ∨ cl45v.slots.size ≤ ((1 : Int32)).toNatClampNeg) := inb_of S45v ⟨by decide, by decide⟩
  obtain ⟨T12, h12, X12, e12, W12, st12⟩ := stI X11 hx hZ e11 Ar45v (j := (1 : Int32)) hin45 (g := (mkF m 45 #[.val (.ref a1), .val (.int p2)] [(.int p2), (.int (1 : Int32)), (.ref b7)])) rfl rfl (hb hby d6_45)
  have V45 : Arv Z h12 b7 kb7 .int ((1 : Int32) * (2 : Int32)) [(.int v0), (.int p2)] (.int (0 : Int32)) := Arv.set Ar45v q45v S45v N45v H45v G45v rfl W12 1 rfl (Nat.le_of_ble_eq_true rfl)
  have N12 := Fr.snoc X12 N11 g_b7
  obtain ⟨fs, hr, hrun, hended, hW, hsame⟩ := X12.leave (v := none) (fun _ => rfl)
  refine ⟨_, _, pre0 _ ?_, hrun, hended, _, _, rfl, ?_, ⟨_, rfl⟩, hW, hsame.mono (by decide) (by decide)⟩
  -- 4. STEPS
  · show Steps p.tables e below (s₁.setTop (mkF m 0 #[.val (.ref a1), .val (.int p2)] [])) _
    refine XS.aloadN X0.here hx rfl (hb hby d6_0) rfl rfl ?_
    show Steps p.tables e below (s₁.setTop (mkF m 1 #[.val (.ref a1), .val (.int p2)] [(.ref a1)])) _
    refine st3 _ ?_
    show Steps p.tables e below (T3.setTop (mkF m 4 #[.val (.ref a1), .val (.int p2)] [(.int (1 : Int32))])) _
    refine XS.aloadN X3.here hx rfl (hb hby d6_4) rfl rfl ?_
    show Steps p.tables e below (T3.setTop (mkF m 5 #[.val (.ref a1), .val (.int p2)] [(.ref a1), (.int (1 : Int32))])) _
    refine st4 _ ?_
    show Steps p.tables e below (T4.setTop (mkF m 8 #[.val (.ref a1), .val (.int p2)] [(.ref w5), (.int (1 : Int32))])) _
    refine X4.arraylength hx (by rw [e4]; exact Ar8v.1) (State.isArrayOf_alike hZ.alike Ar8v.2.1) (g := (mkF m 8 #[.val (.ref a1), .val (.int p2)] [(.ref w5), (.int (1 : Int32))])) rfl rfl (hb hby d6_8) _ ?_
    rw [len_of S8v N8v]
    show Steps p.tables e below (T4.setTop (mkF m 9 #[.val (.ref a1), .val (.int p2)] [(.int (1 : Int32)), (.int (1 : Int32))])) _
    refine XS.icmpNo X4.here hx rfl (hb hby d6_9) rfl (teq (rfl : (1 : Int32) = (1 : Int32))).2 ?_
    show Steps p.tables e below (T4.setTop (mkF m 12 #[.val (.ref a1), .val (.int p2)] [])) _
    refine XS.aloadN X4.here hx rfl (hb hby d6_12) rfl rfl ?_
    show Steps p.tables e below (T4.setTop (mkF m 13 #[.val (.ref a1), .val (.int p2)] [(.ref a1)])) _
    refine XS.aloadN X4.here hx rfl (hb hby d6_13) rfl rfl ?_
    show Steps p.tables e below (T4.setTop (mkF m 14 #[.val (.ref a1), .val (.int p2)] [(.ref a1), (.ref a1)])) _
    refine st5 _ ?_
    show Steps p.tables e below (T5.setTop (mkF m 17 #[.val (.ref a1), .val (.int p2)] [(.ref w5), (.ref a1)])) _
    refine XS.aloadN X5.here hx rfl (hb hby d6_17) rfl rfl ?_
    show Steps p.tables e below (T5.setTop (mkF m 18 #[.val (.ref a1), .val (.int p2)] [(.ref a1), (.ref w5), (.ref a1)])) _
    refine st6 _ ?_
    show Steps p.tables e below (T6.setTop (mkF m 21 #[.val (.ref a1), .val (.int p2)] [(.int (1 : Int32)), (.ref w5), (.ref a1)])) _
    refine XS.iconst X6.here hx rfl (hb hby d6_21) ?_
    show Steps p.tables e below (T6.setTop (mkF m 22 #[.val (.ref a1), .val (.int p2)] [(.int (2 : Int32)), (.int (1 : Int32)), (.ref w5), (.ref a1)])) _
    refine XS.imul X6.here hx rfl (hb hby d6_22) rfl ?_
    show Steps p.tables e below (T6.setTop (mkF m 23 #[.val (.ref a1), .val (.int p2)] [(.int ((1 : Int32) * (2 : Int32))), (.ref w5), (.ref a1)])) _
    refine st7 _ ?_
    show Steps p.tables e below (T7.setTop (mkF m 26 #[.val (.ref a1), .val (.int p2)] [(.ref b7), (.ref a1)])) _
    refine st8 _ ?_
    show Steps p.tables e below (T8.setTop (mkF m 29 #[.val (.ref a1), .val (.int p2)] [])) _
    refine XS.aloadN X8.here hx rfl (hb hby d6_29) rfl rfl ?_
    show Steps p.tables e below (T8.setTop (mkF m 30 #[.val (.ref a1), .val (.int p2)] [(.ref a1)])) _
    refine st9 _ ?_
    show Steps p.tables e below (T9.setTop (mkF m 33 #[.val (.ref a1), .val (.int p2)] [(.ref b7)])) _
    refine XS.aloadN X9.here hx rfl (hb hby d6_33) rfl rfl ?_
    show Steps p.tables e below (T9.setTop (mkF m 34 #[.val (.ref a1), .val (.int p2)] [(.ref a1), (.ref b7)])) _
    refine XS.dup X9.here hx rfl (hb hby d6_34) rfl rfl ?_
    show Steps p.tables e below (T9.setTop (mkF m 35 #[.val (.ref a1), .val (.int p2)] [(.ref a1), (.ref a1), (.ref b7)])) _
    refine st10 _ ?_
    show Steps p.tables e below (T10.setTop (mkF m 38 #[.val (.ref a1), .val (.int p2)] [(.int (1 : Int32)), (.ref a1), (.ref b7)])) _
    refine XS.dupX1 X10.here hx rfl (hb hby d6_38) rfl rfl rfl ?_
    show Steps p.tables e below (T10.setTop (mkF m 39 #[.val (.ref a1), .val (.int p2)] [(.int (1 : Int32)), (.ref a1), (.int (1 : Int32)), (.ref b7)])) _
    refine XS.iconst X10.here hx rfl (hb hby d6_39) ?_
    show Steps p.tables e below (T10.setTop (mkF m 40 #[.val (.ref a1), .val (.int p2)] [(.int (1 : Int32)), (.int (1 : Int32)), (.ref a1), (.int (1 : Int32)), (.ref b7)])) _
    refine XS.iadd X10.here hx rfl (hb hby d6_40) rfl ?_
    show Steps p.tables e below (T10.setTop (mkF m 41 #[.val (.ref a1), .val (.int p2)] [(.int ((1 : Int32) + (1 : Int32))), (.ref a1), (.int (1 : Int32)), (.ref b7)])) _
    refine st11 _ ?_
    show Steps p.tables e below (T11.setTop (mkF m 44 #[.val (.ref a1), .val (.int p2)] [(.int (1 : Int32)), (.ref b7)])) _
    refine XS.iloadN X11.here hx rfl (hb hby d6_44) rfl ?_
    show Steps p.tables e below (T11.setTop (mkF m 45 #[.val (.ref a1), .val (.int p2)] [(.int p2), (.int (1 : Int32)), (.ref b7)])) _
    refine st12 _ ?_
    show Steps p.tables e below (T12.setTop (mkF m 46 #[.val (.ref a1), .val (.int p2)] [])) _
    exact X12.returnOut hx Bd.returns (hb hby d6_46) hr
  · show QG Z h0 n0 a1 ((1 : Int32) + (1 : Int32)) ((1 : Int32) * (2 : Int32)) [(.int v0), (.int p2)] _ T12.heap _
    rw [e12]
    exact ⟨rfl, N12, (Nat.le_trans (Nat.le_trans (Nat.le_trans (Nat.le_trans (Nat.le_refl h0.size) Kc7.1) (Keep.of_wr W8).1) (Keep.of_wr W11).1) (Keep.of_wr W12).1), (Nat.le_trans (Nat.le_trans (Nat.le_trans (Nat.le_trans Z0 Kc7.1) (Keep.of_wr W8).1) (Keep.of_wr W11).1) (Keep.of_wr W12).1), g_a1, ((((E_a1.keep Kc7).wr W8).wr W11).wr W12), b7, kb7, g_b7, ((Fw8.other W11 (Or.inr (slot_ne (Or.inl (hw _ (List.mem_of_getElem? (i := 32) rfl))) (Or.inl (hw _ (List.mem_of_getElem? (i := 49) rfl))) (by decide) (t := (.array .int)) (t' := .int) (by decide) (by decide)))).other W12 (Or.inl (Nat.ne_of_lt (Nat.lt_of_lt_of_le E_a1.lt ge7)))), (Fw11.other W12 (Or.inl (Nat.ne_of_lt (Nat.lt_of_lt_of_le E_a1.lt ge7)))), V45⟩
theorem rm6b (l : Launch) (Z : State) (a0 : Array Value) (hw : ∀ d ∈ tables_1, d.before a0 Z = true) (ws : List Jvm.Cond) (a1 : Addr) (p2 : Int32) (v0 : Int32) (h0 : Heap) (n0 : Nat) (Z0 : n0 ≤ h0.size) (H : GI Z h0 n0 a1 (1 : Int32) (1 : Int32) [(.int v0)]) :
    MetFree l (⟨"com/example/harbinger/harbinger/broker/Group", "adopt", "(I)V"⟩ : MethodName) (head1 (Jvm.Cond.code (⟨"com/example/harbinger/harbinger/broker/Group", "adopt", "(I)V"⟩ : MethodName) prog_6_method_9_code 2 none :: ws) ({ frames := 2, cells := 1, slots := 2, locals := 75 } : Room)) (fun a U => a = #[(.ref a1), (.int p2)] ∧ Z.Warmed39 U.vm ∧ U.heap = h0) (fun _ _ _ _ _ => True) (fun _ U o U' => ∃ v L, o = .returned v ∧ QG Z h0 n0 a1 (2 : Int32) (2 : Int32) [(.int v0), (.int p2)] v U'.heap L ∧ FrameEnd U o U' L ({ frames := 2, cells := 1, slots := 2, locals := 75 } : Room).cells ({ frames := 2, cells := 1, slots := 2, locals := 75 } : Room).slots) := by
  obtain ⟨-, ga, E, b, k, gb, Fa, Fc, V⟩ := H
  have hne : b ≠ a1 := by
    obtain ⟨cl, A, -⟩ := V
    exact (ne_arr E (hw _ (List.mem_of_getElem? (i := 8) rfl)) A).symm
  exact rm6_rawb l Z a0 hw ws a1 p2 b k v0 h0 n0 Z0 V gb Fc Fa E ga
set_option maxRecDepth 65536 in
set_option maxHeartbeats 40000000 in
theorem rm6_rawc (l : Launch) (Z : State) (a0 : Array Value) (hw : ∀ d ∈ tables_1, d.before a0 Z = true) (ws : List Jvm.Cond) (a1 : Addr) (p2 : Int32) (w5 : Addr) (kA : ClassId) (v0 : Int32) (v1 : Int32) (h0 : Heap) (n0 : Nat) (Z0 : n0 ≤ h0.size) (V_w5 : Arv Z h0 w5 kA .int (2 : Int32) [(.int v0), (.int v1)] (.int (0 : Int32))) (g_w5 : n0 ≤ w5) (F_audienceCount_a1 : Fld Z h0 a1 "com/example/harbinger/harbinger/broker/Group" "audienceCount" "I" (.int (2 : Int32))) (F_audiences_a1 : Fld Z h0 a1 "com/example/harbinger/harbinger/broker/Group" "audiences" "[I" (.ref w5)) (E_a1 : Exa Z h0 a1 "com/example/harbinger/harbinger/broker/Group") (g_a1 : n0 ≤ a1) :
    MetFree l (⟨"com/example/harbinger/harbinger/broker/Group", "adopt", "(I)V"⟩ : MethodName) (head1 (Jvm.Cond.code (⟨"com/example/harbinger/harbinger/broker/Group", "adopt", "(I)V"⟩ : MethodName) prog_6_method_9_code 2 none :: ws) ({ frames := 2, cells := 1, slots := 4, locals := 75 } : Room)) (fun a U => a = #[(.ref a1), (.int p2)] ∧ Z.Warmed39 U.vm ∧ U.heap = h0) (fun _ _ _ _ _ => True) (fun _ U o U' => ∃ v L, o = .returned v ∧ QG Z h0 n0 a1 ((2 : Int32) + (1 : Int32)) ((2 : Int32) * (2 : Int32)) [(.int v0), (.int v1), (.int p2), (.int (0 : Int32))] v U'.heap L ∧ FrameEnd U o U' L ({ frames := 2, cells := 1, slots := 4, locals := 75 } : Room).cells ({ frames := 2, cells := 1, slots := 4, locals := 75 } : Room).slots) := by
  refine MetFree.of_bodySF (plainFor_of_name pn_6) hisR ?_
  intro p e s m args below meth c s₁ Bd hml0 hP hK
  obtain ⟨rfl, hZ, hh⟩ := hP
  have hx := Bd.exec
  have hby := Bd.bytes
  have hml : c.maxLocals = 2 := hml0
  have hown : s.vm.findClass "com/example/harbinger/harbinger/broker/Group" = some m.cls := findClass_of_methodNamed Bd.named
  have hnm := (name_of_methodNamed Bd.named Bd.method).1
  have X0 : Stand p l e ({ frames := 2, cells := 1, slots := 4, locals := 75 } : Room) s m #[(.ref a1), (.int p2)] below meth c s₁ [] 0 0 := Stand.of_body Bd
  have e0 : s₁.heap = h0 := by rw [← hh, Bd.state]; rfl
  have N0 := Fr.nil n0
  have pre0 : ∀ t, Steps p.tables e below (s₁.setTop (mkF m 0 #[.val (.ref a1), .val (.int p2)] [])) t → Steps p.tables e below (s₁.setTop (entryFrame m #[(.ref a1), (.int p2)] 2)) t := fun t k => castTop (ef_6 m a1 p2) k
  -- 3. LAWS
  obtain ⟨T3, X3, e3, st3⟩ := getF X0 hx hZ hown (host := "") (Or.inl (hw _ (List.mem_of_getElem? (i := 48) rfl))) Via.refl e0 F_audienceCount_a1 (g := (mkF m 1 #[.val (.ref a1), .val (.int p2)] [(.ref a1)])) rfl rfl (hb hby d6_1)
  obtain ⟨T4, X4, e4, st4⟩ := getF X3 hx hZ hown (host := "") (Or.inl (hw _ (List.mem_of_getElem? (i := 31) rfl))) Via.refl e3 F_audiences_a1 (g := (mkF m 5 #[.val (.ref a1), .val (.int p2)] [(.ref a1), (.int (2 : Int32))])) rfl rfl (hb hby d6_5)
  obtain ⟨cl8v, Ar8v, q8v, S8v, N8v, H8v, G8v⟩ := id V_w5
  obtain ⟨T5, X5, e5, st5⟩ := getF X4 hx hZ hown (host := "") (Or.inl (hw _ (List.mem_of_getElem? (i := 31) rfl))) Via.refl e4 F_audiences_a1 (g := (mkF m 14 #[.val (.ref a1), .val (.int p2)] [(.ref a1), (.ref a1)])) rfl rfl (hb hby d6_14)
  obtain ⟨T6, X6, e6, st6⟩ := getF X5 hx hZ hown (host := "") (Or.inl (hw _ (List.mem_of_getElem? (i := 48) rfl))) Via.refl e5 F_audienceCount_a1 (g := (mkF m 18 #[.val (.ref a1), .val (.int p2)] [(.ref a1), (.ref w5), (.ref a1)])) rfl rfl (hb hby d6_18)
  obtain ⟨_, _, ⟨T7, L7, k7, n7⟩, -, X7, ⟨Lc7, hQ7, l7, y7, z7⟩, st7⟩ := Jvm.LawKit.callS X6 hx (y := (⟨"java/util/Arrays", "copyOf", "([II)[I"⟩ : MethodName)) hown (mvT hZ (hw _ (List.mem_of_getElem? (i := 55) rfl))) (mvT hZ (hw _ (List.mem_of_getElem? (i := 56) rfl))) (mvT hZ (hw _ (List.mem_of_getElem? (i := 57) rfl))) (mvT hZ (hw _ (List.mem_of_getElem? (i := 58) rfl))) (by decide) (backOf (W := 1) (rm7c l Z a0 hw [] w5 kA v0 v1 h0 n0 Z0 V_w5) hZ (hw _ (List.mem_of_getElem? (i := 58) rfl)) (hw _ (List.mem_of_getElem? (i := 57) rfl)) (by decide) (by decide)) (g := (mkF m 23 #[.val (.ref a1), .val (.int p2)] [(.int ((2 : Int32) * (2 : Int32))), (.ref w5), (.ref a1)])) rfl (by rw [hml]; rfl) (argsL := [(.ref w5), (.int ((2 : Int32) * (2 : Int32)))]) (rest := [(.ref a1)]) (lenOf pd_6_5 rfl) rfl (by show 2 * 0 + _ ≤ _; exact Nat.le_of_eq rfl) (hb hby d6_23) (fun _ _ => ⟨rfl, e6, (by decide : 0 + 1 ≤ _), (by decide : 0 + 4 ≤ _)⟩)
  dsimp only [Pt.U, Pt.locs, Pt.cells, Pt.slots] at X7 l7 y7 z7 st7 hQ7
  subst l7 y7 z7
  obtain ⟨b7, kb7, rfl, N7q, ge7, Kc7, V_b7⟩ := hQ7
  have N7 := Fr.app N0 N7q
  have g_b7 : n0 ≤ b7 := Nat.le_trans Z0 ge7
  have Kk7 : Keep h0 T7.heap [a1] := (Keep.refl h0 [a1]).trans Kc7 (fun _ q => absurd q List.not_mem_nil)
  obtain ⟨T8, h8, X8, e8, W8, st8⟩ := putF X7 hx hZ hown (host := "") (Or.inl (hw _ (List.mem_of_getElem? (i := 31) rfl))) Via.refl rfl (F_audiences_a1.keep Kc7 List.not_mem_nil) (E_a1.keep Kc7) (Or.inl (hw _ (List.mem_of_getElem? (i := 32) rfl))) (hw _ (List.mem_of_getElem? (i := 8) rfl)) (ty := (.array .int)) (by decide) rfl rfl (g := (mkF m 26 #[.val (.ref a1), .val (.int p2)] [(.ref b7), (.ref a1)])) rfl rfl (hb hby d6_26)
  have Fw8 := (F_audiences_a1.keep Kc7 List.not_mem_nil).same W8      -- the field now holds (.ref b7)
  have K8 : Keep h0 h8 [a1] := Kk7.wr W8 (Or.inl (List.mem_of_getElem? (i := 0) rfl))
  have N8 := Fr.snoc X8 N7 g_a1
  obtain ⟨T9, X9, e9, st9⟩ := getF X8 hx hZ hown (host := "") (Or.inl (hw _ (List.mem_of_getElem? (i := 31) rfl))) Via.refl e8 Fw8 (g := (mkF m 30 #[.val (.ref a1), .val (.int p2)] [(.ref a1)])) rfl rfl (hb hby d6_30)
  obtain ⟨T10, X10, e10, st10⟩ := getF X9 hx hZ hown (host := "") (Or.inl (hw _ (List.mem_of_getElem? (i := 48) rfl))) Via.refl e9 ((F_audienceCount_a1.keep Kc7 List.not_mem_nil).other W8 (Or.inr (slot_ne (Or.inl (hw _ (List.mem_of_getElem? (i := 49) rfl))) (Or.inl (hw _ (List.mem_of_getElem? (i := 32) rfl))) (by decide) (t := .int) (t' := (.array .int)) (by decide) (by decide)))) (g := (mkF m 35 #[.val (.ref a1), .val (.int p2)] [(.ref a1), (.ref a1), (.ref b7)])) rfl rfl (hb hby d6_35)
  obtain ⟨T11, h11, X11, e11, W11, st11⟩ := putF X10 hx hZ hown (host := "") (Or.inl (hw _ (List.mem_of_getElem? (i := 48) rfl))) Via.refl e10 ((F_audienceCount_a1.keep Kc7 List.not_mem_nil).other W8 (Or.inr (slot_ne (Or.inl (hw _ (List.mem_of_getElem? (i := 49) rfl))) (Or.inl (hw _ (List.mem_of_getElem? (i := 32) rfl))) (by decide) (t := .int) (t' := (.array .int)) (by decide) (by decide)))) ((E_a1.keep Kc7).wr W8) (Or.inl (hw _ (List.mem_of_getElem? (i := 49) rfl))) (hw _ (List.mem_of_getElem? (i := 8) rfl)) (ty := .int) (by decide) rfl rfl (g := (mkF m 41 #[.val (.ref a1), .val (.int p2)] [(.int ((2 : Int32) + (1 : Int32))), (.ref a1), (.int (2 : Int32)), (.ref b7)])) rfl rfl (hb hby d6_41)
  have Fw11 := ((F_audienceCount_a1.keep Kc7 List.not_mem_nil).other W8 (Or.inr (slot_ne (Or.inl (hw _ (List.mem_of_getElem? (i := 49) rfl))) (Or.inl (hw _ (List.mem_of_getElem? (i := 32) rfl))) (by decide) (t := .int) (t' := (.array .int)) (by decide) (by decide)))).same W11      -- the field now holds (.int ((2 : Int32) + (1 : Int32)))
  have K11 : Keep h0 h11 [a1] := K8.wr W11 (Or.inl (List.mem_of_getElem? (i := 0) rfl))
  have N11 := Fr.snoc X11 N8 g_a1
  obtain ⟨cl45v, Ar45v, q45v, S45v, N45v, H45v, G45v⟩ := ((V_b7.other W8 (Ne.symm (Nat.ne_of_lt (Nat.lt_of_lt_of_le E_a1.lt ge7)))).other W11 (Ne.symm (Nat.ne_of_lt (Nat.lt_of_lt_of_le E_a1.lt ge7))))
  have hin45 : ¬ ((2 : Int32) < 0 ∨ cl45v.slots.size ≤ ((2 : Int32)).toNatClampNeg) := inb_of S45v ⟨by decide, by decide⟩
  obtain ⟨T12, h12, X12, e12, W12, st12⟩ := stI X11 hx hZ e11 Ar45v (j := (2 : Int32)) hin45 (g := (mkF m 45 #[.val (.ref a1), .val (.int p2)] [(.int p2), (.int (2 : Int32)), (.ref b7)])) rfl rfl (hb hby d6_45)
  have V45 : Arv Z h12 b7 kb7 .int ((2 : Int32) * (2 : Int32)) [(.int v0), (.int v1), (.int p2), (.int (0 : Int32))] (.int (0 : Int32)) := Arv.set Ar45v q45v S45v N45v H45v G45v rfl W12 2 rfl (Nat.le_of_ble_eq_true rfl)
  have N12 := Fr.snoc X12 N11 g_b7
  obtain ⟨fs, hr, hrun, hended, hW, hsame⟩ := X12.leave (v := none) (fun _ => rfl)
  refine ⟨_, _, pre0 _ ?_, hrun, hended, _, _, rfl, ?_, ⟨_, rfl⟩, hW, hsame.mono (by decide) (by decide)⟩
  -- 4. STEPS
  · show Steps p.tables e below (s₁.setTop (mkF m 0 #[.val (.ref a1), .val (.int p2)] [])) _
    refine XS.aloadN X0.here hx rfl (hb hby d6_0) rfl rfl ?_
    show Steps p.tables e below (s₁.setTop (mkF m 1 #[.val (.ref a1), .val (.int p2)] [(.ref a1)])) _
    refine st3 _ ?_
    show Steps p.tables e below (T3.setTop (mkF m 4 #[.val (.ref a1), .val (.int p2)] [(.int (2 : Int32))])) _
    refine XS.aloadN X3.here hx rfl (hb hby d6_4) rfl rfl ?_
    show Steps p.tables e below (T3.setTop (mkF m 5 #[.val (.ref a1), .val (.int p2)] [(.ref a1), (.int (2 : Int32))])) _
    refine st4 _ ?_
    show Steps p.tables e below (T4.setTop (mkF m 8 #[.val (.ref a1), .val (.int p2)] [(.ref w5), (.int (2 : Int32))])) _
    refine X4.arraylength hx (by rw [e4]; exact Ar8v.1) (State.isArrayOf_alike hZ.alike Ar8v.2.1) (g := (mkF m 8 #[.val (.ref a1), .val (.int p2)] [(.ref w5), (.int (2 : Int32))])) rfl rfl (hb hby d6_8) _ ?_
    rw [len_of S8v N8v]
    show Steps p.tables e below (T4.setTop (mkF m 9 #[.val (.ref a1), .val (.int p2)] [(.int (2 : Int32)), (.int (2 : Int32))])) _
    refine XS.icmpNo X4.here hx rfl (hb hby d6_9) rfl (teq (rfl : (2 : Int32) = (2 : Int32))).2 ?_
    show Steps p.tables e below (T4.setTop (mkF m 12 #[.val (.ref a1), .val (.int p2)] [])) _
    refine XS.aloadN X4.here hx rfl (hb hby d6_12) rfl rfl ?_
    show Steps p.tables e below (T4.setTop (mkF m 13 #[.val (.ref a1), .val (.int p2)] [(.ref a1)])) _
    refine XS.aloadN X4.here hx rfl (hb hby d6_13) rfl rfl ?_
    show Steps p.tables e below (T4.setTop (mkF m 14 #[.val (.ref a1), .val (.int p2)] [(.ref a1), (.ref a1)])) _
    refine st5 _ ?_
    show Steps p.tables e below (T5.setTop (mkF m 17 #[.val (.ref a1), .val (.int p2)] [(.ref w5), (.ref a1)])) _
    refine XS.aloadN X5.here hx rfl (hb hby d6_17) rfl rfl ?_
    show Steps p.tables e below (T5.setTop (mkF m 18 #[.val (.ref a1), .val (.int p2)] [(.ref a1), (.ref w5), (.ref a1)])) _
    refine st6 _ ?_
    show Steps p.tables e below (T6.setTop (mkF m 21 #[.val (.ref a1), .val (.int p2)] [(.int (2 : Int32)), (.ref w5), (.ref a1)])) _
    refine XS.iconst X6.here hx rfl (hb hby d6_21) ?_
    show Steps p.tables e below (T6.setTop (mkF m 22 #[.val (.ref a1), .val (.int p2)] [(.int (2 : Int32)), (.int (2 : Int32)), (.ref w5), (.ref a1)])) _
    refine XS.imul X6.here hx rfl (hb hby d6_22) rfl ?_
    show Steps p.tables e below (T6.setTop (mkF m 23 #[.val (.ref a1), .val (.int p2)] [(.int ((2 : Int32) * (2 : Int32))), (.ref w5), (.ref a1)])) _
    refine st7 _ ?_
    show Steps p.tables e below (T7.setTop (mkF m 26 #[.val (.ref a1), .val (.int p2)] [(.ref b7), (.ref a1)])) _
    refine st8 _ ?_
    show Steps p.tables e below (T8.setTop (mkF m 29 #[.val (.ref a1), .val (.int p2)] [])) _
    refine XS.aloadN X8.here hx rfl (hb hby d6_29) rfl rfl ?_
    show Steps p.tables e below (T8.setTop (mkF m 30 #[.val (.ref a1), .val (.int p2)] [(.ref a1)])) _
    refine st9 _ ?_
    show Steps p.tables e below (T9.setTop (mkF m 33 #[.val (.ref a1), .val (.int p2)] [(.ref b7)])) _
    refine XS.aloadN X9.here hx rfl (hb hby d6_33) rfl rfl ?_
    show Steps p.tables e below (T9.setTop (mkF m 34 #[.val (.ref a1), .val (.int p2)] [(.ref a1), (.ref b7)])) _
    refine XS.dup X9.here hx rfl (hb hby d6_34) rfl rfl ?_
    show Steps p.tables e below (T9.setTop (mkF m 35 #[.val (.ref a1), .val (.int p2)] [(.ref a1), (.ref a1), (.ref b7)])) _
    refine st10 _ ?_
    show Steps p.tables e below (T10.setTop (mkF m 38 #[.val (.ref a1), .val (.int p2)] [(.int (2 : Int32)), (.ref a1), (.ref b7)])) _
    refine XS.dupX1 X10.here hx rfl (hb hby d6_38) rfl rfl rfl ?_
    show Steps p.tables e below (T10.setTop (mkF m 39 #[.val (.ref a1), .val (.int p2)] [(.int (2 : Int32)), (.ref a1), (.int (2 : Int32)), (.ref b7)])) _
    refine XS.iconst X10.here hx rfl (hb hby d6_39) ?_
    show Steps p.tables e below (T10.setTop (mkF m 40 #[.val (.ref a1), .val (.int p2)] [(.int (1 : Int32)), (.int (2 : Int32)), (.ref a1), (.int (2 : Int32)), (.ref b7)])) _
    refine XS.iadd X10.here hx rfl (hb hby d6_40) rfl ?_
    show Steps p.tables e below (T10.setTop (mkF m 41 #[.val (.ref a1), .val (.int p2)] [(.int ((2 : Int32) + (1 : Int32))), (.ref a1), (.int (2 : Int32)), (.ref b7)])) _
    refine st11 _ ?_
    show Steps p.tables e below (T11.setTop (mkF m 44 #[.val (.ref a1), .val (.int p2)] [(.int (2 : Int32)), (.ref b7)])) _
    refine XS.iloadN X11.here hx rfl (hb hby d6_44) rfl ?_
    show Steps p.tables e below (T11.setTop (mkF m 45 #[.val (.ref a1), .val (.int p2)] [(.int p2), (.int (2 : Int32)), (.ref b7)])) _
    refine st12 _ ?_
    show Steps p.tables e below (T12.setTop (mkF m 46 #[.val (.ref a1), .val (.int p2)] [])) _
    exact X12.returnOut hx Bd.returns (hb hby d6_46) hr
  · show QG Z h0 n0 a1 ((2 : Int32) + (1 : Int32)) ((2 : Int32) * (2 : Int32)) [(.int v0), (.int v1), (.int p2), (.int (0 : Int32))] _ T12.heap _
    rw [e12]
    exact ⟨rfl, N12, (Nat.le_trans (Nat.le_trans (Nat.le_trans (Nat.le_trans (Nat.le_refl h0.size) Kc7.1) (Keep.of_wr W8).1) (Keep.of_wr W11).1) (Keep.of_wr W12).1), (Nat.le_trans (Nat.le_trans (Nat.le_trans (Nat.le_trans Z0 Kc7.1) (Keep.of_wr W8).1) (Keep.of_wr W11).1) (Keep.of_wr W12).1), g_a1, ((((E_a1.keep Kc7).wr W8).wr W11).wr W12), b7, kb7, g_b7, ((Fw8.other W11 (Or.inr (slot_ne (Or.inl (hw _ (List.mem_of_getElem? (i := 32) rfl))) (Or.inl (hw _ (List.mem_of_getElem? (i := 49) rfl))) (by decide) (t := (.array .int)) (t' := .int) (by decide) (by decide)))).other W12 (Or.inl (Nat.ne_of_lt (Nat.lt_of_lt_of_le E_a1.lt ge7)))), (Fw11.other W12 (Or.inl (Nat.ne_of_lt (Nat.lt_of_lt_of_le E_a1.lt ge7)))), V45⟩
theorem rm6c (l : Launch) (Z : State) (a0 : Array Value) (hw : ∀ d ∈ tables_1, d.before a0 Z = true) (ws : List Jvm.Cond) (a1 : Addr) (p2 : Int32) (v0 v1 : Int32) (h0 : Heap) (n0 : Nat) (Z0 : n0 ≤ h0.size) (H : GI Z h0 n0 a1 (2 : Int32) (2 : Int32) [(.int v0), (.int v1)]) :
    MetFree l (⟨"com/example/harbinger/harbinger/broker/Group", "adopt", "(I)V"⟩ : MethodName) (head1 (Jvm.Cond.code (⟨"com/example/harbinger/harbinger/broker/Group", "adopt", "(I)V"⟩ : MethodName) prog_6_method_9_code 2 none :: ws) ({ frames := 2, cells := 1, slots := 4, locals := 75 } : Room)) (fun a U => a = #[(.ref a1), (.int p2)] ∧ Z.Warmed39 U.vm ∧ U.heap = h0) (fun _ _ _ _ _ => True) (fun _ U o U' => ∃ v L, o = .returned v ∧ QG Z h0 n0 a1 (3 : Int32) (4 : Int32) [(.int v0), (.int v1), (.int p2), (.int (0 : Int32))] v U'.heap L ∧ FrameEnd U o U' L ({ frames := 2, cells := 1, slots := 4, locals := 75 } : Room).cells ({ frames := 2, cells := 1, slots := 4, locals := 75 } : Room).slots) := by
  obtain ⟨-, ga, E, b, k, gb, Fa, Fc, V⟩ := H
  have hne : b ≠ a1 := by
    obtain ⟨cl, A, -⟩ := V
    exact (ne_arr E (hw _ (List.mem_of_getElem? (i := 8) rfl)) A).symm
  exact rm6_rawc l Z a0 hw ws a1 p2 b k v0 v1 h0 n0 Z0 V gb Fc Fa E ga
theorem d5_0 : decode prog_6_method_8_code 0 = .ok (.aload_n 0, 1) := by decide +kernel
theorem d5_1 : decode prog_6_method_8_code 1 = .ok (.getfield 68, 3) := by decide +kernel
theorem d5_4 : decode prog_6_method_8_code 4 = .ok (.ifCond .eq 18, 3) := by decide +kernel
theorem d5_22 : decode prog_6_method_8_code 22 = .ok (.iconst 1, 1) := by decide +kernel
theorem d5_23 : decode prog_6_method_8_code 23 = .ok (.goto 4, 3) := by decide +kernel
theorem d5_27 : decode prog_6_method_8_code 27 = .ok (.ireturn, 1) := by decide +kernel
theorem pn_5 : plainName "com/example/harbinger/harbinger/broker/Group" = true := by first | (simp [plainName, overriddenIn]; done) | decide +kernel
theorem ef_5 (m : MethodId) (x0 : Addr) (x1 : Int32) : entryFrame m #[(.ref x0), (.int x1)] 2 = mkF m 0 #[.val (.ref x0), .val (.int x1)] [] := by first | (simp [entryFrame, mkF, argsToLocals, Value.category]; done) | rfl
theorem d5_7 : decode prog_6_method_8_code 7 = .ok (.aload_n 0, 1) := by decide +kernel
theorem d5_8 : decode prog_6_method_8_code 8 = .ok (.getfield 21, 3) := by decide +kernel
theorem d5_11 : decode prog_6_method_8_code 11 = .ok (.aload_n 0, 1) := by decide +kernel
theorem d5_12 : decode prog_6_method_8_code 12 = .ok (.getfield 68, 3) := by decide +kernel
theorem d5_15 : decode prog_6_method_8_code 15 = .ok (.iconst 1, 1) := by decide +kernel
theorem d5_16 : decode prog_6_method_8_code 16 = .ok (.isub, 1) := by decide +kernel
theorem d5_17 : decode prog_6_method_8_code 17 = .ok (.iaload, 1) := by decide +kernel
theorem d5_18 : decode prog_6_method_8_code 18 = .ok (.iload_n 1, 1) := by decide +kernel
theorem d5_19 : decode prog_6_method_8_code 19 = .ok (.if_icmp .ge 7, 3) := by decide +kernel
theorem d5_26 : decode prog_6_method_8_code 26 = .ok (.iconst 0, 1) := by decide +kernel
set_option maxRecDepth 65536 in
set_option maxHeartbeats 40000000 in
theorem rm5_rawt (l : Launch) (Z : State) (a0 : Array Value) (hw : ∀ d ∈ tables_1, d.before a0 Z = true) (ws : List Jvm.Cond) (a1 : Addr) (p2 : Int32) (w3 : Int32) (h0 : Heap) (n0 : Nat) (Z0 : n0 ≤ h0.size) (F_audienceCount_a1 : Fld Z h0 a1 "com/example/harbinger/harbinger/broker/Group" "audienceCount" "I" (.int w3)) (hc4 : w3 = (0 : Int32)) :
    MetFree l (⟨"com/example/harbinger/harbinger/broker/Group", "precedes", "(I)Z"⟩ : MethodName) (head1 (Jvm.Cond.code (⟨"com/example/harbinger/harbinger/broker/Group", "precedes", "(I)Z"⟩ : MethodName) prog_6_method_8_code 2 (some .boolean) :: ws) ({ frames := 0, cells := 0, slots := 0, locals := 0 } : Room)) (fun a U => a = #[(.ref a1), (.int p2)] ∧ Z.Warmed39 U.vm ∧ U.heap = h0) (fun _ _ _ _ _ => True) (fun _ U o U' => ∃ v L, o = .returned v ∧ Qv (.int (1 : Int32)) h0 n0 v U'.heap L ∧ FrameEnd U o U' L ({ frames := 0, cells := 0, slots := 0, locals := 0 } : Room).cells ({ frames := 0, cells := 0, slots := 0, locals := 0 } : Room).slots) := by
  refine MetFree.of_bodySF (plainFor_of_name pn_5) hisR ?_
  intro p e s m args below meth c s₁ Bd hml0 hP hK
  obtain ⟨rfl, hZ, hh⟩ := hP
  have hx := Bd.exec
  have hby := Bd.bytes
  have hml : c.maxLocals = 2 := hml0
  have hown : s.vm.findClass "com/example/harbinger/harbinger/broker/Group" = some m.cls := findClass_of_methodNamed Bd.named
  have hnm := (name_of_methodNamed Bd.named Bd.method).1
  have X0 : Stand p l e ({ frames := 0, cells := 0, slots := 0, locals := 0 } : Room) s m #[(.ref a1), (.int p2)] below meth c s₁ [] 0 0 := Stand.of_body Bd
  have e0 : s₁.heap = h0 := by rw [← hh, Bd.state]; rfl
  have N0 := Fr.nil n0
  have pre0 : ∀ t, Steps p.tables e below (s₁.setTop (mkF m 0 #[.val (.ref a1), .val (.int p2)] [])) t → Steps p.tables e below (s₁.setTop (entryFrame m #[(.ref a1), (.int p2)] 2)) t := fun t k => castTop (ef_5 m a1 p2) k
  -- 3. LAWS
  obtain ⟨T4, X4, e4, st4⟩ := getF X0 hx hZ hown (host := "") (Or.inl (hw _ (List.mem_of_getElem? (i := 48) rfl))) Via.refl e0 F_audienceCount_a1 (g := (mkF m 1 #[.val (.ref a1), .val (.int p2)] [(.ref a1)])) rfl rfl (hb hby d5_1)
  obtain ⟨fs, hr, hrun, hended, hW, hsame⟩ := X4.leave (v := some (.int (1 : Int32))) (fun h => by rw [Bd.returns] at h; cases h)
  refine ⟨_, _, pre0 _ ?_, hrun, hended, _, _, rfl, ?_, ⟨_, rfl⟩, hW, hsame.mono (by decide) (by decide)⟩
  -- 4. STEPS
  · show Steps p.tables e below (s₁.setTop (mkF m 0 #[.val (.ref a1), .val (.int p2)] [])) _
    refine XS.aloadN X0.here hx rfl (hb hby d5_0) rfl rfl ?_
    show Steps p.tables e below (s₁.setTop (mkF m 1 #[.val (.ref a1), .val (.int p2)] [(.ref a1)])) _
    refine st4 _ ?_
    show Steps p.tables e below (T4.setTop (mkF m 4 #[.val (.ref a1), .val (.int p2)] [(.int w3)])) _
    refine XS.ifYes X4.here hx rfl (pc0 := 4) (pc' := 22) rfl (hb hby d5_4) rfl ((if0 _ _).trans (teq hc4).1) (by decide) (by decide) ?_
    show Steps p.tables e below (T4.setTop (mkF m 22 #[.val (.ref a1), .val (.int p2)] [])) _
    refine XS.iconst X4.here hx rfl (hb hby d5_22) ?_
    show Steps p.tables e below (T4.setTop (mkF m 23 #[.val (.ref a1), .val (.int p2)] [(.int (1 : Int32))])) _
    refine XS.goto X4.here hx rfl (pc0 := 23) (pc' := 27) rfl (hb hby d5_23) (by decide) (by decide) ?_
    show Steps p.tables e below (T4.setTop (mkF m 27 #[.val (.ref a1), .val (.int p2)] [(.int (1 : Int32))])) _
    exact retN X4 hx (t := .boolean) Bd.returns (by simp) (hb hby d5_27) hr
  · show Qv (.int (1 : Int32)) h0 n0 _ T4.heap _
    rw [e4]
    exact ⟨rfl, N0, rfl⟩
set_option maxRecDepth 65536 in
set_option maxHeartbeats 40000000 in
theorem rm5_rawff (l : Launch) (Z : State) (a0 : Array Value) (hw : ∀ d ∈ tables_1, d.before a0 Z = true) (ws : List Jvm.Cond) (a1 : Addr) (p2 : Int32) (w3 : Int32) (w5 : Addr) (w8 : Int32) (cl_w5 : Cell) (h0 : Heap) (n0 : Nat) (Z0 : n0 ≤ h0.size) (F_audienceCount_a1 : Fld Z h0 a1 "com/example/harbinger/harbinger/broker/Group" "audienceCount" "I" (.int w3)) (F_audiences_a1 : Fld Z h0 a1 "com/example/harbinger/harbinger/broker/Group" "audiences" "[I" (.ref w5)) (Ar_w5 : Arr Z h0 w5 cl_w5 .int) (hin17 : ¬ ((w3 - (1 : Int32)) < 0 ∨ cl_w5.slots.size ≤ ((w3 - (1 : Int32))).toNatClampNeg)) (hat17 : cl_w5.slots[((w3 - (1 : Int32))).toNatClampNeg]? = some (.int w8)) (hc4 : ¬ (w3 = (0 : Int32))) (hc19 : w8 < p2) :
    MetFree l (⟨"com/example/harbinger/harbinger/broker/Group", "precedes", "(I)Z"⟩ : MethodName) (head1 (Jvm.Cond.code (⟨"com/example/harbinger/harbinger/broker/Group", "precedes", "(I)Z"⟩ : MethodName) prog_6_method_8_code 2 (some .boolean) :: ws) ({ frames := 0, cells := 0, slots := 0, locals := 0 } : Room)) (fun a U => a = #[(.ref a1), (.int p2)] ∧ Z.Warmed39 U.vm ∧ U.heap = h0) (fun _ _ _ _ _ => True) (fun _ U o U' => ∃ v L, o = .returned v ∧ Qv (.int (1 : Int32)) h0 n0 v U'.heap L ∧ FrameEnd U o U' L ({ frames := 0, cells := 0, slots := 0, locals := 0 } : Room).cells ({ frames := 0, cells := 0, slots := 0, locals := 0 } : Room).slots) := by
  refine MetFree.of_bodySF (plainFor_of_name pn_5) hisR ?_
  intro p e s m args below meth c s₁ Bd hml0 hP hK
  obtain ⟨rfl, hZ, hh⟩ := hP
  have hx := Bd.exec
  have hby := Bd.bytes
  have hml : c.maxLocals = 2 := hml0
  have hown : s.vm.findClass "com/example/harbinger/harbinger/broker/Group" = some m.cls := findClass_of_methodNamed Bd.named
  have hnm := (name_of_methodNamed Bd.named Bd.method).1
  have X0 : Stand p l e ({ frames := 0, cells := 0, slots := 0, locals := 0 } : Room) s m #[(.ref a1), (.int p2)] below meth c s₁ [] 0 0 := Stand.of_body Bd
  have e0 : s₁.heap = h0 := by rw [← hh, Bd.state]; rfl
  have N0 := Fr.nil n0
  have pre0 : ∀ t, Steps p.tables e below (s₁.setTop (mkF m 0 #[.val (.ref a1), .val (.int p2)] [])) t → Steps p.tables e below (s₁.setTop (entryFrame m #[(.ref a1), (.int p2)] 2)) t := fun t k => castTop (ef_5 m a1 p2) k
  -- 3. LAWS
  obtain ⟨T4, X4, e4, st4⟩ := getF X0 hx hZ hown (host := "") (Or.inl (hw _ (List.mem_of_getElem? (i := 48) rfl))) Via.refl e0 F_audienceCount_a1 (g := (mkF m 1 #[.val (.ref a1), .val (.int p2)] [(.ref a1)])) rfl rfl (hb hby d5_1)
  obtain ⟨T6, X6, e6, st6⟩ := getF X4 hx hZ hown (host := "") (Or.inl (hw _ (List.mem_of_getElem? (i := 31) rfl))) Via.refl e4 F_audiences_a1 (g := (mkF m 8 #[.val (.ref a1), .val (.int p2)] [(.ref a1)])) rfl rfl (hb hby d5_8)
  obtain ⟨T7, X7, e7, st7⟩ := getF X6 hx hZ hown (host := "") (Or.inl (hw _ (List.mem_of_getElem? (i := 48) rfl))) Via.refl e6 F_audienceCount_a1 (g := (mkF m 12 #[.val (.ref a1), .val (.int p2)] [(.ref a1), (.ref w5)])) rfl rfl (hb hby d5_12)
  obtain ⟨fs, hr, hrun, hended, hW, hsame⟩ := X7.leave (v := some (.int (1 : Int32))) (fun h => by rw [Bd.returns] at h; cases h)
  refine ⟨_, _, pre0 _ ?_, hrun, hended, _, _, rfl, ?_, ⟨_, rfl⟩, hW, hsame.mono (by decide) (by decide)⟩
  -- 4. STEPS
  · show Steps p.tables e below (s₁.setTop (mkF m 0 #[.val (.ref a1), .val (.int p2)] [])) _
    refine XS.aloadN X0.here hx rfl (hb hby d5_0) rfl rfl ?_
    show Steps p.tables e below (s₁.setTop (mkF m 1 #[.val (.ref a1), .val (.int p2)] [(.ref a1)])) _
    refine st4 _ ?_
    show Steps p.tables e below (T4.setTop (mkF m 4 #[.val (.ref a1), .val (.int p2)] [(.int w3)])) _
    refine XS.ifNo X4.here hx rfl (hb hby d5_4) rfl ((if0 _ _).trans (feq hc4).1) ?_
    show Steps p.tables e below (T4.setTop (mkF m 7 #[.val (.ref a1), .val (.int p2)] [])) _
    refine XS.aloadN X4.here hx rfl (hb hby d5_7) rfl rfl ?_
    show Steps p.tables e below (T4.setTop (mkF m 8 #[.val (.ref a1), .val (.int p2)] [(.ref a1)])) _
    refine st6 _ ?_
    show Steps p.tables e below (T6.setTop (mkF m 11 #[.val (.ref a1), .val (.int p2)] [(.ref w5)])) _
    refine XS.aloadN X6.here hx rfl (hb hby d5_11) rfl rfl ?_
    show Steps p.tables e below (T6.setTop (mkF m 12 #[.val (.ref a1), .val (.int p2)] [(.ref a1), (.ref w5)])) _
    refine st7 _ ?_
    show Steps p.tables e below (T7.setTop (mkF m 15 #[.val (.ref a1), .val (.int p2)] [(.int w3), (.ref w5)])) _
    refine XS.iconst X7.here hx rfl (hb hby d5_15) ?_
    show Steps p.tables e below (T7.setTop (mkF m 16 #[.val (.ref a1), .val (.int p2)] [(.int (1 : Int32)), (.int w3), (.ref w5)])) _
    refine XS.isub X7.here hx rfl (hb hby d5_16) rfl ?_
    show Steps p.tables e below (T7.setTop (mkF m 17 #[.val (.ref a1), .val (.int p2)] [(.int (w3 - (1 : Int32))), (.ref w5)])) _
    refine X7.iaload hx (j := (w3 - (1 : Int32))) (v := (.int w8)) (by rw [e7]; exact Ar_w5.1) (State.isArrayOf_alike hZ.alike Ar_w5.2.1) Ar_w5.2.2 hin17 hat17 (g := (mkF m 17 #[.val (.ref a1), .val (.int p2)] [(.int (w3 - (1 : Int32))), (.ref w5)])) rfl rfl (hb hby d5_17) _ ?_
    show Steps p.tables e below (T7.setTop (mkF m 18 #[.val (.ref a1), .val (.int p2)] [(.int w8)])) _
    refine XS.iloadN X7.here hx rfl (hb hby d5_18) rfl ?_
    show Steps p.tables e below (T7.setTop (mkF m 19 #[.val (.ref a1), .val (.int p2)] [(.int p2), (.int w8)])) _
    refine XS.icmpNo X7.here hx rfl (hb hby d5_19) rfl (tlt hc19).2.1 ?_
    show Steps p.tables e below (T7.setTop (mkF m 22 #[.val (.ref a1), .val (.int p2)] [])) _
    refine XS.iconst X7.here hx rfl (hb hby d5_22) ?_
    show Steps p.tables e below (T7.setTop (mkF m 23 #[.val (.ref a1), .val (.int p2)] [(.int (1 : Int32))])) _
    refine XS.goto X7.here hx rfl (pc0 := 23) (pc' := 27) rfl (hb hby d5_23) (by decide) (by decide) ?_
    show Steps p.tables e below (T7.setTop (mkF m 27 #[.val (.ref a1), .val (.int p2)] [(.int (1 : Int32))])) _
    exact retN X7 hx (t := .boolean) Bd.returns (by simp) (hb hby d5_27) hr
  · show Qv (.int (1 : Int32)) h0 n0 _ T7.heap _
    rw [e7]
    exact ⟨rfl, N0, rfl⟩
set_option maxRecDepth 65536 in
set_option maxHeartbeats 40000000 in
theorem rm5_rawft (l : Launch) (Z : State) (a0 : Array Value) (hw : ∀ d ∈ tables_1, d.before a0 Z = true) (ws : List Jvm.Cond) (a1 : Addr) (p2 : Int32) (w3 : Int32) (w5 : Addr) (w8 : Int32) (cl_w5 : Cell) (h0 : Heap) (n0 : Nat) (Z0 : n0 ≤ h0.size) (F_audienceCount_a1 : Fld Z h0 a1 "com/example/harbinger/harbinger/broker/Group" "audienceCount" "I" (.int w3)) (F_audiences_a1 : Fld Z h0 a1 "com/example/harbinger/harbinger/broker/Group" "audiences" "[I" (.ref w5)) (Ar_w5 : Arr Z h0 w5 cl_w5 .int) (hin17 : ¬ ((w3 - (1 : Int32)) < 0 ∨ cl_w5.slots.size ≤ ((w3 - (1 : Int32))).toNatClampNeg)) (hat17 : cl_w5.slots[((w3 - (1 : Int32))).toNatClampNeg]? = some (.int w8)) (hc4 : ¬ (w3 = (0 : Int32))) (hc19 : ¬ (w8 < p2)) :
    MetFree l (⟨"com/example/harbinger/harbinger/broker/Group", "precedes", "(I)Z"⟩ : MethodName) (head1 (Jvm.Cond.code (⟨"com/example/harbinger/harbinger/broker/Group", "precedes", "(I)Z"⟩ : MethodName) prog_6_method_8_code 2 (some .boolean) :: ws) ({ frames := 0, cells := 0, slots := 0, locals := 0 } : Room)) (fun a U => a = #[(.ref a1), (.int p2)] ∧ Z.Warmed39 U.vm ∧ U.heap = h0) (fun _ _ _ _ _ => True) (fun _ U o U' => ∃ v L, o = .returned v ∧ Qv (.int (0 : Int32)) h0 n0 v U'.heap L ∧ FrameEnd U o U' L ({ frames := 0, cells := 0, slots := 0, locals := 0 } : Room).cells ({ frames := 0, cells := 0, slots := 0, locals := 0 } : Room).slots) := by
  refine MetFree.of_bodySF (plainFor_of_name pn_5) hisR ?_
  intro p e s m args below meth c s₁ Bd hml0 hP hK
  obtain ⟨rfl, hZ, hh⟩ := hP
  have hx := Bd.exec
  have hby := Bd.bytes
  have hml : c.maxLocals = 2 := hml0
  have hown : s.vm.findClass "com/example/harbinger/harbinger/broker/Group" = some m.cls := findClass_of_methodNamed Bd.named
  have hnm := (name_of_methodNamed Bd.named Bd.method).1
  have X0 : Stand p l e ({ frames := 0, cells := 0, slots := 0, locals := 0 } : Room) s m #[(.ref a1), (.int p2)] below meth c s₁ [] 0 0 := Stand.of_body Bd
  have e0 : s₁.heap = h0 := by rw [← hh, Bd.state]; rfl
  have N0 := Fr.nil n0
  have pre0 : ∀ t, Steps p.tables e below (s₁.setTop (mkF m 0 #[.val (.ref a1), .val (.int p2)] [])) t → Steps p.tables e below (s₁.setTop (entryFrame m #[(.ref a1), (.int p2)] 2)) t := fun t k => castTop (ef_5 m a1 p2) k
  -- 3. LAWS
  obtain ⟨T4, X4, e4, st4⟩ := getF X0 hx hZ hown (host := "") (Or.inl (hw _ (List.mem_of_getElem? (i := 48) rfl))) Via.refl e0 F_audienceCount_a1 (g := (mkF m 1 #[.val (.ref a1), .val (.int p2)] [(.ref a1)])) rfl rfl (hb hby d5_1)
  obtain ⟨T6, X6, e6, st6⟩ := getF X4 hx hZ hown (host := "") (Or.inl (hw _ (List.mem_of_getElem? (i := 31) rfl))) Via.refl e4 F_audiences_a1 (g := (mkF m 8 #[.val (.ref a1), .val (.int p2)] [(.ref a1)])) rfl rfl (hb hby d5_8)
  obtain ⟨T7, X7, e7, st7⟩ := getF X6 hx hZ hown (host := "") (Or.inl (hw _ (List.mem_of_getElem? (i := 48) rfl))) Via.refl e6 F_audienceCount_a1 (g := (mkF m 12 #[.val (.ref a1), .val (.int p2)] [(.ref a1), (.ref w5)])) rfl rfl (hb hby d5_12)
  obtain ⟨fs, hr, hrun, hended, hW, hsame⟩ := X7.leave (v := some (.int (0 : Int32))) (fun h => by rw [Bd.returns] at h; cases h)
  refine ⟨_, _, pre0 _ ?_, hrun, hended, _, _, rfl, ?_, ⟨_, rfl⟩, hW, hsame.mono (by decide) (by decide)⟩
  -- 4. STEPS
  · show Steps p.tables e below (s₁.setTop (mkF m 0 #[.val (.ref a1), .val (.int p2)] [])) _
    refine XS.aloadN X0.here hx rfl (hb hby d5_0) rfl rfl ?_
    show Steps p.tables e below (s₁.setTop (mkF m 1 #[.val (.ref a1), .val (.int p2)] [(.ref a1)])) _
    refine st4 _ ?_
    show Steps p.tables e below (T4.setTop (mkF m 4 #[.val (.ref a1), .val (.int p2)] [(.int w3)])) _
    refine XS.ifNo X4.here hx rfl (hb hby d5_4) rfl ((if0 _ _).trans (feq hc4).1) ?_
    show Steps p.tables e below (T4.setTop (mkF m 7 #[.val (.ref a1), .val (.int p2)] [])) _
    refine XS.aloadN X4.here hx rfl (hb hby d5_7) rfl rfl ?_
    show Steps p.tables e below (T4.setTop (mkF m 8 #[.val (.ref a1), .val (.int p2)] [(.ref a1)])) _
    refine st6 _ ?_
    show Steps p.tables e below (T6.setTop (mkF m 11 #[.val (.ref a1), .val (.int p2)] [(.ref w5)])) _
    refine XS.aloadN X6.here hx rfl (hb hby d5_11) rfl rfl ?_
    show Steps p.tables e below (T6.setTop (mkF m 12 #[.val (.ref a1), .val (.int p2)] [(.ref a1), (.ref w5)])) _
    refine st7 _ ?_
    show Steps p.tables e below (T7.setTop (mkF m 15 #[.val (.ref a1), .val (.int p2)] [(.int w3), (.ref w5)])) _
    refine XS.iconst X7.here hx rfl (hb hby d5_15) ?_
    show Steps p.tables e below (T7.setTop (mkF m 16 #[.val (.ref a1), .val (.int p2)] [(.int (1 : Int32)), (.int w3), (.ref w5)])) _
    refine XS.isub X7.here hx rfl (hb hby d5_16) rfl ?_
    show Steps p.tables e below (T7.setTop (mkF m 17 #[.val (.ref a1), .val (.int p2)] [(.int (w3 - (1 : Int32))), (.ref w5)])) _
    refine X7.iaload hx (j := (w3 - (1 : Int32))) (v := (.int w8)) (by rw [e7]; exact Ar_w5.1) (State.isArrayOf_alike hZ.alike Ar_w5.2.1) Ar_w5.2.2 hin17 hat17 (g := (mkF m 17 #[.val (.ref a1), .val (.int p2)] [(.int (w3 - (1 : Int32))), (.ref w5)])) rfl rfl (hb hby d5_17) _ ?_
    show Steps p.tables e below (T7.setTop (mkF m 18 #[.val (.ref a1), .val (.int p2)] [(.int w8)])) _
    refine XS.iloadN X7.here hx rfl (hb hby d5_18) rfl ?_
    show Steps p.tables e below (T7.setTop (mkF m 19 #[.val (.ref a1), .val (.int p2)] [(.int p2), (.int w8)])) _
    refine XS.icmpYes X7.here hx rfl (pc0 := 19) (pc' := 26) rfl (hb hby d5_19) rfl (flt hc19).2.1 (by decide) (by decide) ?_
    show Steps p.tables e below (T7.setTop (mkF m 26 #[.val (.ref a1), .val (.int p2)] [])) _
    refine XS.iconst X7.here hx rfl (hb hby d5_26) ?_
    show Steps p.tables e below (T7.setTop (mkF m 27 #[.val (.ref a1), .val (.int p2)] [(.int (0 : Int32))])) _
    exact retN X7 hx (t := .boolean) Bd.returns (by simp) (hb hby d5_27) hr
  · show Qv (.int (0 : Int32)) h0 n0 _ T7.heap _
    rw [e7]
    exact ⟨rfl, N0, rfl⟩
def R5 (c last p2 r : Int32) : Prop := (c = 0 ∧ r = 1) ∨ (¬ c = 0 ∧ last < p2 ∧ r = 1) ∨ (¬ c = 0 ∧ ¬ last < p2 ∧ r = 0)
theorem rm5 (l : Launch) (Z : State) (a0 : Array Value) (hw : ∀ d ∈ tables_1, d.before a0 Z = true) (ws : List Jvm.Cond) (a1 : Addr) (p2 c z : Int32) (vs : List Value) (last r : Int32) (h0 : Heap) (n0 : Nat) (Z0 : n0 ≤ h0.size) (H : GI Z h0 n0 a1 c z vs) (hi : c = 0 ∨ (¬ (c - 1) < 0 ∧ (c - 1) < z ∧ vs.getD (c - 1).toNatClampNeg (.int (0 : Int32)) = .int last)) (hR : R5 c last p2 r) :
    MetFree l (⟨"com/example/harbinger/harbinger/broker/Group", "precedes", "(I)Z"⟩ : MethodName) (head1 (Jvm.Cond.code (⟨"com/example/harbinger/harbinger/broker/Group", "precedes", "(I)Z"⟩ : MethodName) prog_6_method_8_code 2 (some .boolean) :: ws) ({ frames := 0, cells := 0, slots := 0, locals := 0 } : Room)) (fun a U => a = #[(.ref a1), (.int p2)] ∧ Z.Warmed39 U.vm ∧ U.heap = h0) (fun _ _ _ _ _ => True) (fun _ U o U' => ∃ v L, o = .returned v ∧ Qv (.int r) h0 n0 v U'.heap L ∧ FrameEnd U o U' L ({ frames := 0, cells := 0, slots := 0, locals := 0 } : Room).cells ({ frames := 0, cells := 0, slots := 0, locals := 0 } : Room).slots) := by
  obtain ⟨-, ga, E, b, k, gb, Fa, Fc, V⟩ := H
  rcases hR with ⟨g, hr⟩ | ⟨g, g1, hr⟩ | ⟨g, g1, hr⟩
  · rw [hr]; exact rm5_rawt l Z a0 hw ws a1 p2 c h0 n0 Z0 Fc g
  all_goals
    obtain ⟨h1, h2, h3⟩ := hi.resolve_left g
    obtain ⟨cl, A, q, Sz, Ng, Hs, Gs⟩ := V
    have hin : ¬ ((c - (1 : Int32)) < 0 ∨ cl.slots.size ≤ ((c - (1 : Int32))).toNatClampNeg) := inb_of Sz ⟨h1, h2⟩
  · rw [hr]; exact rm5_rawff l Z a0 hw ws a1 p2 c b last cl h0 n0 Z0 Fc Fa A hin (Has.at Hs hin h3) g g1
  · rw [hr]; exact rm5_rawft l Z a0 hw ws a1 p2 c b last cl h0 n0 Z0 Fc Fa A hin (Has.at Hs hin h3) g g1
def OwnFin (p : Program) (e : Env) (below : List Frame) (s : State) (n0 : Nat) (St : State) : Prop := ∃ (u : State) (o : Outcome), Steps p.tables e below St u ∧ u.status = .running ∧ Ended u below o ∧ ∃ v L, o = .returned v ∧ Q0 n0 v u.heap L ∧ ReturnedEndW s o u L room_1.cells room_1.slots
theorem OwnFin.step {p : Program} {e : Env} {below : List Frame} {s : State} {n0 : Nat} {A B : State} (h : ∀ t, Steps p.tables e below B t → Steps p.tables e below A t) (k : OwnFin p e below s n0 B) : OwnFin p e below s n0 A := by
  obtain ⟨u, o, h1, r⟩ := k
  exact ⟨u, o, h _ h1, r⟩
theorem pd_0_3 : parseMethodDescriptor "(I)Z" = some ⟨[.int], some .boolean⟩ := by decide +kernel
set_option maxRecDepth 65536 in
set_option maxHeartbeats 40000000 in
theorem tail0 {p : Program} {l : Launch} {e : Env} {s : State} {m : MethodId} {args : Array Value} {below : List Frame} {meth : Method} {c : Code} {T0 : State} {locs : List Loc} {Z : State} {a0 : Array Value} {vm0 : Vm} {k0 : Nat} {h0 : Heap} {n0 : Nat} (x0 x1 x2 x3 x4 k lo hi mid : Int32) (g : Addr) (cnt last cg zg : Int32) (vg : List Value) (r6 : Int32) (r7 : Int32) (X0 : Stand p l e room_1 (s.setVm vm0) m args below meth c T0 locs 7 27) (hret : meth.sig.returnType = some .boolean) (hlk : meth.locks = false) (hx : p.tables.exec = Jvm.exec) (hZ : Z.Warmed39 (s.setVm vm0).vm) (hw : ∀ d ∈ tables_1, d.before a0 Z = true) (hby : c.code = code) (hml : c.maxLocals = 14) (hown : (s.setVm vm0).vm.findClass "com/example/harbinger/harbinger/broker/GroupPrecedesPinLaw" = some m.cls) (hS : s.Since vm0 k0) (hk0 : k0 ≤ h0.size) (e0 : T0.heap = h0) (N0 : Fr n0 locs) (Z0 : n0 ≤ h0.size) (GI0 : GI Z h0 n0 g cg zg vg) (hi0 : cg = 0 ∨ (¬ (cg - 1) < 0 ∧ (cg - 1) < zg ∧ vg.getD (cg - 1).toNatClampNeg (.int (0 : Int32)) = .int last)) (P6 : R5 cg last last r6) (P7 : R5 cg last x4 r7) (hc145 : cnt = (0 : Int32)) (hc171 : cnt = (0 : Int32)) (hc179 : r6 = (1 : Int32)) (hc198 : r7 = (1 : Int32)) (hc203 : ¬ ((1 : Int32) = (0 : Int32))) :
    OwnFin p e below s n0 (T0.setTop (mkF m 143 #[.val (.int x0), .val (.int x1), .val (.int x2), .val (.int x3), .val (.int x4), .val (.int k), .val (.int lo), .val (.int hi), .val (.int mid), .val (.ref g), .val (.int cnt), .val (.int last), .unset, .unset] [])) := by
  obtain ⟨cq6, kq6, q6a, q6b, q6c⟩ := isOf hZ e0 GI0.2.2.1
  obtain ⟨_, _, ⟨T6, L6, k6, n6⟩, -, X6, ⟨Lc6, hQ6, l6, y6, z6⟩, st6⟩ := X0.virtualBack hx (y := (⟨"com/example/harbinger/harbinger/broker/Group", "precedes", "(I)Z"⟩ : MethodName)) (z := (⟨"com/example/harbinger/harbinger/broker/Group", "precedes", "(I)Z"⟩ : MethodName)) hown (mvT hZ (hw _ (List.mem_of_getElem? (i := 43) rfl))) (mvT hZ (hw _ (List.mem_of_getElem? (i := 44) rfl))) (notFace_of_selects (args := #[]) (mvT hZ (hw _ (List.mem_of_getElem? (i := 46) rfl)))) (mvT hZ (hw _ (List.mem_of_getElem? (i := 46) rfl))) (mvT hZ (hw _ (List.mem_of_getElem? (i := 45) rfl))) (by decide) (backOf (W := 0) (rm5 l Z a0 hw [] g last cg zg vg last r6 h0 n0 Z0 GI0 hi0 P6) hZ (hw _ (List.mem_of_getElem? (i := 47) rfl)) (hw _ (List.mem_of_getElem? (i := 9) rfl)) (by decide) (by decide)) q6a q6c (g := (mkF m 166 #[.val (.int x0), .val (.int x1), .val (.int x2), .val (.int x3), .val (.int x4), .val (.int k), .val (.int lo), .val (.int hi), .val (.int mid), .val (.ref g), .val (.int cnt), .val (.int last), .val (.int (1 : Int32)), .unset] [(.int last), (.ref g)])) rfl (by rw [hml]; rfl) (Steps.refl _) (argsL := [(.int last)]) (rest := []) (lenOf pd_0_3 rfl) rfl (by show 2 * 0 + _ ≤ _; exact Nat.le_of_eq rfl) (hb hby at_166) (fun _ _ => ⟨rfl, e0, (by decide : 7 + 0 ≤ _), (by decide : 27 + 0 ≤ _)⟩)
  dsimp only [Pt.U, Pt.locs, Pt.cells, Pt.slots] at X6 l6 y6 z6 st6 hQ6
  subst l6 y6 z6
  obtain ⟨rfl, N6q, e6⟩ := hQ6
  have N6 := Fr.app N0 N6q
  obtain ⟨cq7, kq7, q7a, q7b, q7c⟩ := isOf hZ e6 GI0.2.2.1
  obtain ⟨_, _, ⟨T7, L7, k7, n7⟩, -, X7, ⟨Lc7, hQ7, l7, y7, z7⟩, st7⟩ := X6.virtualBack hx (y := (⟨"com/example/harbinger/harbinger/broker/Group", "precedes", "(I)Z"⟩ : MethodName)) (z := (⟨"com/example/harbinger/harbinger/broker/Group", "precedes", "(I)Z"⟩ : MethodName)) hown (mvT hZ (hw _ (List.mem_of_getElem? (i := 43) rfl))) (mvT hZ (hw _ (List.mem_of_getElem? (i := 44) rfl))) (notFace_of_selects (args := #[]) (mvT hZ (hw _ (List.mem_of_getElem? (i := 46) rfl)))) (mvT hZ (hw _ (List.mem_of_getElem? (i := 46) rfl))) (mvT hZ (hw _ (List.mem_of_getElem? (i := 45) rfl))) (by decide) (backOf (W := 0) (rm5 l Z a0 hw [] g x4 cg zg vg last r7 h0 n0 Z0 GI0 hi0 P7) hZ (hw _ (List.mem_of_getElem? (i := 47) rfl)) (hw _ (List.mem_of_getElem? (i := 9) rfl)) (by decide) (by decide)) q7a q7c (g := (mkF m 193 #[.val (.int x0), .val (.int x1), .val (.int x2), .val (.int x3), .val (.int x4), .val (.int k), .val (.int lo), .val (.int hi), .val (.int mid), .val (.ref g), .val (.int cnt), .val (.int last), .val (.int (1 : Int32)), .val (.int (1 : Int32))] [(.int x4), (.ref g)])) rfl (by rw [hml]; rfl) (Steps.refl _) (argsL := [(.int x4)]) (rest := []) (lenOf pd_0_3 rfl) rfl (by show 2 * 0 + _ ≤ _; exact Nat.le_of_eq rfl) (hb hby at_193) (fun _ _ => ⟨rfl, e6, (by decide : 7 + 0 ≤ _), (by decide : 27 + 0 ≤ _)⟩)
  dsimp only [Pt.U, Pt.locs, Pt.cells, Pt.slots] at X7 l7 y7 z7 st7 hQ7
  subst l7 y7 z7
  obtain ⟨rfl, N7q, e7⟩ := hQ7
  have N7 := Fr.app N6 N7q
  obtain ⟨fs, hr, hrun, hended, hRE⟩ := X7.leaveW hS (by rw [e7]; exact hk0) (v := some (.int (1 : Int32))) (fun h => by rw [hret] at h; cases h)
  refine ⟨_, _, ?_, hrun, hended, _, _, rfl, ⟨rfl, N7⟩, hRE.1, hRE.2.1, hRE.2.2.1, hRE.2.2.2.mono (by decide) (by decide)⟩
  show Steps p.tables e below (T0.setTop (mkF m 143 #[.val (.int x0), .val (.int x1), .val (.int x2), .val (.int x3), .val (.int x4), .val (.int k), .val (.int lo), .val (.int hi), .val (.int mid), .val (.ref g), .val (.int cnt), .val (.int last), .unset, .unset] [])) _
  refine XS.iload X0.here hx rfl (hb hby at_143) rfl ?_
  show Steps p.tables e below (T0.setTop (mkF m 145 #[.val (.int x0), .val (.int x1), .val (.int x2), .val (.int x3), .val (.int x4), .val (.int k), .val (.int lo), .val (.int hi), .val (.int mid), .val (.ref g), .val (.int cnt), .val (.int last), .unset, .unset] [(.int cnt)])) _
  refine XS.ifYes X0.here hx rfl (pc0 := 145) (pc' := 155) rfl (hb hby at_145) rfl ((if0 _ _).trans (teq hc145).1) (by decide) (by decide) ?_
  show Steps p.tables e below (T0.setTop (mkF m 155 #[.val (.int x0), .val (.int x1), .val (.int x2), .val (.int x3), .val (.int x4), .val (.int k), .val (.int lo), .val (.int hi), .val (.int mid), .val (.ref g), .val (.int cnt), .val (.int last), .unset, .unset] [])) _
  refine XS.iconst X0.here hx rfl (hb hby at_155) ?_
  show Steps p.tables e below (T0.setTop (mkF m 156 #[.val (.int x0), .val (.int x1), .val (.int x2), .val (.int x3), .val (.int x4), .val (.int k), .val (.int lo), .val (.int hi), .val (.int mid), .val (.ref g), .val (.int cnt), .val (.int last), .unset, .unset] [(.int (1 : Int32))])) _
  refine XS.goto X0.here hx rfl (pc0 := 156) (pc' := 160) rfl (hb hby at_156) (by decide) (by decide) ?_
  show Steps p.tables e below (T0.setTop (mkF m 160 #[.val (.int x0), .val (.int x1), .val (.int x2), .val (.int x3), .val (.int x4), .val (.int k), .val (.int lo), .val (.int hi), .val (.int mid), .val (.ref g), .val (.int cnt), .val (.int last), .unset, .unset] [(.int (1 : Int32))])) _
  refine XS.istore X0.here hx rfl (hb hby at_160) rfl (l' := #[.val (.int x0), .val (.int x1), .val (.int x2), .val (.int x3), .val (.int x4), .val (.int k), .val (.int lo), .val (.int hi), .val (.int mid), .val (.ref g), .val (.int cnt), .val (.int last), .val (.int (1 : Int32)), .unset]) rfl ?_
  show Steps p.tables e below (T0.setTop (mkF m 162 #[.val (.int x0), .val (.int x1), .val (.int x2), .val (.int x3), .val (.int x4), .val (.int k), .val (.int lo), .val (.int hi), .val (.int mid), .val (.ref g), .val (.int cnt), .val (.int last), .val (.int (1 : Int32)), .unset] [])) _
  refine XS.aload X0.here hx rfl (hb hby at_162) rfl rfl ?_
  show Steps p.tables e below (T0.setTop (mkF m 164 #[.val (.int x0), .val (.int x1), .val (.int x2), .val (.int x3), .val (.int x4), .val (.int k), .val (.int lo), .val (.int hi), .val (.int mid), .val (.ref g), .val (.int cnt), .val (.int last), .val (.int (1 : Int32)), .unset] [(.ref g)])) _
  refine XS.iload X0.here hx rfl (hb hby at_164) rfl ?_
  show Steps p.tables e below (T0.setTop (mkF m 166 #[.val (.int x0), .val (.int x1), .val (.int x2), .val (.int x3), .val (.int x4), .val (.int k), .val (.int lo), .val (.int hi), .val (.int mid), .val (.ref g), .val (.int cnt), .val (.int last), .val (.int (1 : Int32)), .unset] [(.int last), (.ref g)])) _
  refine st6.trans ?_
  show Steps p.tables e below (T6.setTop (mkF m 169 #[.val (.int x0), .val (.int x1), .val (.int x2), .val (.int x3), .val (.int x4), .val (.int k), .val (.int lo), .val (.int hi), .val (.int mid), .val (.ref g), .val (.int cnt), .val (.int last), .val (.int (1 : Int32)), .unset] [(.int r6)])) _
  refine XS.iload X6.here hx rfl (hb hby at_169) rfl ?_
  show Steps p.tables e below (T6.setTop (mkF m 171 #[.val (.int x0), .val (.int x1), .val (.int x2), .val (.int x3), .val (.int x4), .val (.int k), .val (.int lo), .val (.int hi), .val (.int mid), .val (.ref g), .val (.int cnt), .val (.int last), .val (.int (1 : Int32)), .unset] [(.int cnt), (.int r6)])) _
  refine XS.ifNo X6.here hx rfl (hb hby at_171) rfl ((if0 _ _).trans (teq hc171).2) ?_
  show Steps p.tables e below (T6.setTop (mkF m 174 #[.val (.int x0), .val (.int x1), .val (.int x2), .val (.int x3), .val (.int x4), .val (.int k), .val (.int lo), .val (.int hi), .val (.int mid), .val (.ref g), .val (.int cnt), .val (.int last), .val (.int (1 : Int32)), .unset] [(.int r6)])) _
  refine XS.iconst X6.here hx rfl (hb hby at_174) ?_
  show Steps p.tables e below (T6.setTop (mkF m 175 #[.val (.int x0), .val (.int x1), .val (.int x2), .val (.int x3), .val (.int x4), .val (.int k), .val (.int lo), .val (.int hi), .val (.int mid), .val (.ref g), .val (.int cnt), .val (.int last), .val (.int (1 : Int32)), .unset] [(.int (1 : Int32)), (.int r6)])) _
  refine XS.goto X6.here hx rfl (pc0 := 175) (pc' := 179) rfl (hb hby at_175) (by decide) (by decide) ?_
  show Steps p.tables e below (T6.setTop (mkF m 179 #[.val (.int x0), .val (.int x1), .val (.int x2), .val (.int x3), .val (.int x4), .val (.int k), .val (.int lo), .val (.int hi), .val (.int mid), .val (.ref g), .val (.int cnt), .val (.int last), .val (.int (1 : Int32)), .unset] [(.int (1 : Int32)), (.int r6)])) _
  refine XS.icmpNo X6.here hx rfl (hb hby at_179) rfl (teq hc179).2 ?_
  show Steps p.tables e below (T6.setTop (mkF m 182 #[.val (.int x0), .val (.int x1), .val (.int x2), .val (.int x3), .val (.int x4), .val (.int k), .val (.int lo), .val (.int hi), .val (.int mid), .val (.ref g), .val (.int cnt), .val (.int last), .val (.int (1 : Int32)), .unset] [])) _
  refine XS.iconst X6.here hx rfl (hb hby at_182) ?_
  show Steps p.tables e below (T6.setTop (mkF m 183 #[.val (.int x0), .val (.int x1), .val (.int x2), .val (.int x3), .val (.int x4), .val (.int k), .val (.int lo), .val (.int hi), .val (.int mid), .val (.ref g), .val (.int cnt), .val (.int last), .val (.int (1 : Int32)), .unset] [(.int (1 : Int32))])) _
  refine XS.goto X6.here hx rfl (pc0 := 183) (pc' := 187) rfl (hb hby at_183) (by decide) (by decide) ?_
  show Steps p.tables e below (T6.setTop (mkF m 187 #[.val (.int x0), .val (.int x1), .val (.int x2), .val (.int x3), .val (.int x4), .val (.int k), .val (.int lo), .val (.int hi), .val (.int mid), .val (.ref g), .val (.int cnt), .val (.int last), .val (.int (1 : Int32)), .unset] [(.int (1 : Int32))])) _
  refine XS.istore X6.here hx rfl (hb hby at_187) rfl (l' := #[.val (.int x0), .val (.int x1), .val (.int x2), .val (.int x3), .val (.int x4), .val (.int k), .val (.int lo), .val (.int hi), .val (.int mid), .val (.ref g), .val (.int cnt), .val (.int last), .val (.int (1 : Int32)), .val (.int (1 : Int32))]) rfl ?_
  show Steps p.tables e below (T6.setTop (mkF m 189 #[.val (.int x0), .val (.int x1), .val (.int x2), .val (.int x3), .val (.int x4), .val (.int k), .val (.int lo), .val (.int hi), .val (.int mid), .val (.ref g), .val (.int cnt), .val (.int last), .val (.int (1 : Int32)), .val (.int (1 : Int32))] [])) _
  refine XS.aload X6.here hx rfl (hb hby at_189) rfl rfl ?_
  show Steps p.tables e below (T6.setTop (mkF m 191 #[.val (.int x0), .val (.int x1), .val (.int x2), .val (.int x3), .val (.int x4), .val (.int k), .val (.int lo), .val (.int hi), .val (.int mid), .val (.ref g), .val (.int cnt), .val (.int last), .val (.int (1 : Int32)), .val (.int (1 : Int32))] [(.ref g)])) _
  refine XS.iload X6.here hx rfl (hb hby at_191) rfl ?_
  show Steps p.tables e below (T6.setTop (mkF m 193 #[.val (.int x0), .val (.int x1), .val (.int x2), .val (.int x3), .val (.int x4), .val (.int k), .val (.int lo), .val (.int hi), .val (.int mid), .val (.ref g), .val (.int cnt), .val (.int last), .val (.int (1 : Int32)), .val (.int (1 : Int32))] [(.int x4), (.ref g)])) _
  refine st7.trans ?_
  show Steps p.tables e below (T7.setTop (mkF m 196 #[.val (.int x0), .val (.int x1), .val (.int x2), .val (.int x3), .val (.int x4), .val (.int k), .val (.int lo), .val (.int hi), .val (.int mid), .val (.ref g), .val (.int cnt), .val (.int last), .val (.int (1 : Int32)), .val (.int (1 : Int32))] [(.int r7)])) _
  refine XS.iload X7.here hx rfl (hb hby at_196) rfl ?_
  show Steps p.tables e below (T7.setTop (mkF m 198 #[.val (.int x0), .val (.int x1), .val (.int x2), .val (.int x3), .val (.int x4), .val (.int k), .val (.int lo), .val (.int hi), .val (.int mid), .val (.ref g), .val (.int cnt), .val (.int last), .val (.int (1 : Int32)), .val (.int (1 : Int32))] [(.int (1 : Int32)), (.int r7)])) _
  refine XS.icmpNo X7.here hx rfl (hb hby at_198) rfl (teq hc198).2 ?_
  show Steps p.tables e below (T7.setTop (mkF m 201 #[.val (.int x0), .val (.int x1), .val (.int x2), .val (.int x3), .val (.int x4), .val (.int k), .val (.int lo), .val (.int hi), .val (.int mid), .val (.ref g), .val (.int cnt), .val (.int last), .val (.int (1 : Int32)), .val (.int (1 : Int32))] [])) _
  refine XS.iload X7.here hx rfl (hb hby at_201) rfl ?_
  show Steps p.tables e below (T7.setTop (mkF m 203 #[.val (.int x0), .val (.int x1), .val (.int x2), .val (.int x3), .val (.int x4), .val (.int k), .val (.int lo), .val (.int hi), .val (.int mid), .val (.ref g), .val (.int cnt), .val (.int last), .val (.int (1 : Int32)), .val (.int (1 : Int32))] [(.int (1 : Int32))])) _
  refine XS.ifNo X7.here hx rfl (hb hby at_203) rfl ((if0 _ _).trans (feq hc203).1) ?_
  show Steps p.tables e below (T7.setTop (mkF m 206 #[.val (.int x0), .val (.int x1), .val (.int x2), .val (.int x3), .val (.int x4), .val (.int k), .val (.int lo), .val (.int hi), .val (.int mid), .val (.ref g), .val (.int cnt), .val (.int last), .val (.int (1 : Int32)), .val (.int (1 : Int32))] [])) _
  refine XS.iconst X7.here hx rfl (hb hby at_206) ?_
  show Steps p.tables e below (T7.setTop (mkF m 207 #[.val (.int x0), .val (.int x1), .val (.int x2), .val (.int x3), .val (.int x4), .val (.int k), .val (.int lo), .val (.int hi), .val (.int mid), .val (.ref g), .val (.int cnt), .val (.int last), .val (.int (1 : Int32)), .val (.int (1 : Int32))] [(.int (1 : Int32))])) _
  refine XS.goto X7.here hx rfl (pc0 := 207) (pc' := 211) rfl (hb hby at_207) (by decide) (by decide) ?_
  show Steps p.tables e below (T7.setTop (mkF m 211 #[.val (.int x0), .val (.int x1), .val (.int x2), .val (.int x3), .val (.int x4), .val (.int k), .val (.int lo), .val (.int hi), .val (.int mid), .val (.ref g), .val (.int cnt), .val (.int last), .val (.int (1 : Int32)), .val (.int (1 : Int32))] [(.int (1 : Int32))])) _
  exact retN X7 hx (t := .boolean) hret (by simp) (hb hby at_211) hr
set_option maxRecDepth 65536 in
set_option maxHeartbeats 40000000 in
theorem tail1 {p : Program} {l : Launch} {e : Env} {s : State} {m : MethodId} {args : Array Value} {below : List Frame} {meth : Method} {c : Code} {T0 : State} {locs : List Loc} {Z : State} {a0 : Array Value} {vm0 : Vm} {k0 : Nat} {h0 : Heap} {n0 : Nat} (x0 x1 x2 x3 x4 k lo hi mid : Int32) (g : Addr) (cnt last cg zg : Int32) (vg : List Value) (r6 : Int32) (r7 : Int32) (X0 : Stand p l e room_1 (s.setVm vm0) m args below meth c T0 locs 7 27) (hret : meth.sig.returnType = some .boolean) (hlk : meth.locks = false) (hx : p.tables.exec = Jvm.exec) (hZ : Z.Warmed39 (s.setVm vm0).vm) (hw : ∀ d ∈ tables_1, d.before a0 Z = true) (hby : c.code = code) (hml : c.maxLocals = 14) (hown : (s.setVm vm0).vm.findClass "com/example/harbinger/harbinger/broker/GroupPrecedesPinLaw" = some m.cls) (hS : s.Since vm0 k0) (hk0 : k0 ≤ h0.size) (e0 : T0.heap = h0) (N0 : Fr n0 locs) (Z0 : n0 ≤ h0.size) (GI0 : GI Z h0 n0 g cg zg vg) (hi0 : cg = 0 ∨ (¬ (cg - 1) < 0 ∧ (cg - 1) < zg ∧ vg.getD (cg - 1).toNatClampNeg (.int (0 : Int32)) = .int last)) (P6 : R5 cg last last r6) (P7 : R5 cg last x4 r7) (hc145 : ¬ (cnt = (0 : Int32))) (hc152 : last < x4) (hc171 : ¬ (cnt = (0 : Int32))) (hc179 : r6 = (0 : Int32)) (hc198 : r7 = (1 : Int32)) (hc203 : ¬ ((1 : Int32) = (0 : Int32))) :
    OwnFin p e below s n0 (T0.setTop (mkF m 143 #[.val (.int x0), .val (.int x1), .val (.int x2), .val (.int x3), .val (.int x4), .val (.int k), .val (.int lo), .val (.int hi), .val (.int mid), .val (.ref g), .val (.int cnt), .val (.int last), .unset, .unset] [])) := by
  obtain ⟨cq6, kq6, q6a, q6b, q6c⟩ := isOf hZ e0 GI0.2.2.1
  obtain ⟨_, _, ⟨T6, L6, k6, n6⟩, -, X6, ⟨Lc6, hQ6, l6, y6, z6⟩, st6⟩ := X0.virtualBack hx (y := (⟨"com/example/harbinger/harbinger/broker/Group", "precedes", "(I)Z"⟩ : MethodName)) (z := (⟨"com/example/harbinger/harbinger/broker/Group", "precedes", "(I)Z"⟩ : MethodName)) hown (mvT hZ (hw _ (List.mem_of_getElem? (i := 43) rfl))) (mvT hZ (hw _ (List.mem_of_getElem? (i := 44) rfl))) (notFace_of_selects (args := #[]) (mvT hZ (hw _ (List.mem_of_getElem? (i := 46) rfl)))) (mvT hZ (hw _ (List.mem_of_getElem? (i := 46) rfl))) (mvT hZ (hw _ (List.mem_of_getElem? (i := 45) rfl))) (by decide) (backOf (W := 0) (rm5 l Z a0 hw [] g last cg zg vg last r6 h0 n0 Z0 GI0 hi0 P6) hZ (hw _ (List.mem_of_getElem? (i := 47) rfl)) (hw _ (List.mem_of_getElem? (i := 9) rfl)) (by decide) (by decide)) q6a q6c (g := (mkF m 166 #[.val (.int x0), .val (.int x1), .val (.int x2), .val (.int x3), .val (.int x4), .val (.int k), .val (.int lo), .val (.int hi), .val (.int mid), .val (.ref g), .val (.int cnt), .val (.int last), .val (.int (1 : Int32)), .unset] [(.int last), (.ref g)])) rfl (by rw [hml]; rfl) (Steps.refl _) (argsL := [(.int last)]) (rest := []) (lenOf pd_0_3 rfl) rfl (by show 2 * 0 + _ ≤ _; exact Nat.le_of_eq rfl) (hb hby at_166) (fun _ _ => ⟨rfl, e0, (by decide : 7 + 0 ≤ _), (by decide : 27 + 0 ≤ _)⟩)
  dsimp only [Pt.U, Pt.locs, Pt.cells, Pt.slots] at X6 l6 y6 z6 st6 hQ6
  subst l6 y6 z6
  obtain ⟨rfl, N6q, e6⟩ := hQ6
  have N6 := Fr.app N0 N6q
  obtain ⟨cq7, kq7, q7a, q7b, q7c⟩ := isOf hZ e6 GI0.2.2.1
  obtain ⟨_, _, ⟨T7, L7, k7, n7⟩, -, X7, ⟨Lc7, hQ7, l7, y7, z7⟩, st7⟩ := X6.virtualBack hx (y := (⟨"com/example/harbinger/harbinger/broker/Group", "precedes", "(I)Z"⟩ : MethodName)) (z := (⟨"com/example/harbinger/harbinger/broker/Group", "precedes", "(I)Z"⟩ : MethodName)) hown (mvT hZ (hw _ (List.mem_of_getElem? (i := 43) rfl))) (mvT hZ (hw _ (List.mem_of_getElem? (i := 44) rfl))) (notFace_of_selects (args := #[]) (mvT hZ (hw _ (List.mem_of_getElem? (i := 46) rfl)))) (mvT hZ (hw _ (List.mem_of_getElem? (i := 46) rfl))) (mvT hZ (hw _ (List.mem_of_getElem? (i := 45) rfl))) (by decide) (backOf (W := 0) (rm5 l Z a0 hw [] g x4 cg zg vg last r7 h0 n0 Z0 GI0 hi0 P7) hZ (hw _ (List.mem_of_getElem? (i := 47) rfl)) (hw _ (List.mem_of_getElem? (i := 9) rfl)) (by decide) (by decide)) q7a q7c (g := (mkF m 193 #[.val (.int x0), .val (.int x1), .val (.int x2), .val (.int x3), .val (.int x4), .val (.int k), .val (.int lo), .val (.int hi), .val (.int mid), .val (.ref g), .val (.int cnt), .val (.int last), .val (.int (1 : Int32)), .val (.int (1 : Int32))] [(.int x4), (.ref g)])) rfl (by rw [hml]; rfl) (Steps.refl _) (argsL := [(.int x4)]) (rest := []) (lenOf pd_0_3 rfl) rfl (by show 2 * 0 + _ ≤ _; exact Nat.le_of_eq rfl) (hb hby at_193) (fun _ _ => ⟨rfl, e6, (by decide : 7 + 0 ≤ _), (by decide : 27 + 0 ≤ _)⟩)
  dsimp only [Pt.U, Pt.locs, Pt.cells, Pt.slots] at X7 l7 y7 z7 st7 hQ7
  subst l7 y7 z7
  obtain ⟨rfl, N7q, e7⟩ := hQ7
  have N7 := Fr.app N6 N7q
  obtain ⟨fs, hr, hrun, hended, hRE⟩ := X7.leaveW hS (by rw [e7]; exact hk0) (v := some (.int (1 : Int32))) (fun h => by rw [hret] at h; cases h)
  refine ⟨_, _, ?_, hrun, hended, _, _, rfl, ⟨rfl, N7⟩, hRE.1, hRE.2.1, hRE.2.2.1, hRE.2.2.2.mono (by decide) (by decide)⟩
  show Steps p.tables e below (T0.setTop (mkF m 143 #[.val (.int x0), .val (.int x1), .val (.int x2), .val (.int x3), .val (.int x4), .val (.int k), .val (.int lo), .val (.int hi), .val (.int mid), .val (.ref g), .val (.int cnt), .val (.int last), .unset, .unset] [])) _
  refine XS.iload X0.here hx rfl (hb hby at_143) rfl ?_
  show Steps p.tables e below (T0.setTop (mkF m 145 #[.val (.int x0), .val (.int x1), .val (.int x2), .val (.int x3), .val (.int x4), .val (.int k), .val (.int lo), .val (.int hi), .val (.int mid), .val (.ref g), .val (.int cnt), .val (.int last), .unset, .unset] [(.int cnt)])) _
  refine XS.ifNo X0.here hx rfl (hb hby at_145) rfl ((if0 _ _).trans (feq hc145).1) ?_
  show Steps p.tables e below (T0.setTop (mkF m 148 #[.val (.int x0), .val (.int x1), .val (.int x2), .val (.int x3), .val (.int x4), .val (.int k), .val (.int lo), .val (.int hi), .val (.int mid), .val (.ref g), .val (.int cnt), .val (.int last), .unset, .unset] [])) _
  refine XS.iload X0.here hx rfl (hb hby at_148) rfl ?_
  show Steps p.tables e below (T0.setTop (mkF m 150 #[.val (.int x0), .val (.int x1), .val (.int x2), .val (.int x3), .val (.int x4), .val (.int k), .val (.int lo), .val (.int hi), .val (.int mid), .val (.ref g), .val (.int cnt), .val (.int last), .unset, .unset] [(.int last)])) _
  refine XS.iload X0.here hx rfl (hb hby at_150) rfl ?_
  show Steps p.tables e below (T0.setTop (mkF m 152 #[.val (.int x0), .val (.int x1), .val (.int x2), .val (.int x3), .val (.int x4), .val (.int k), .val (.int lo), .val (.int hi), .val (.int mid), .val (.ref g), .val (.int cnt), .val (.int last), .unset, .unset] [(.int x4), (.int last)])) _
  refine XS.icmpNo X0.here hx rfl (hb hby at_152) rfl (tlt hc152).2.1 ?_
  show Steps p.tables e below (T0.setTop (mkF m 155 #[.val (.int x0), .val (.int x1), .val (.int x2), .val (.int x3), .val (.int x4), .val (.int k), .val (.int lo), .val (.int hi), .val (.int mid), .val (.ref g), .val (.int cnt), .val (.int last), .unset, .unset] [])) _
  refine XS.iconst X0.here hx rfl (hb hby at_155) ?_
  show Steps p.tables e below (T0.setTop (mkF m 156 #[.val (.int x0), .val (.int x1), .val (.int x2), .val (.int x3), .val (.int x4), .val (.int k), .val (.int lo), .val (.int hi), .val (.int mid), .val (.ref g), .val (.int cnt), .val (.int last), .unset, .unset] [(.int (1 : Int32))])) _
  refine XS.goto X0.here hx rfl (pc0 := 156) (pc' := 160) rfl (hb hby at_156) (by decide) (by decide) ?_
  show Steps p.tables e below (T0.setTop (mkF m 160 #[.val (.int x0), .val (.int x1), .val (.int x2), .val (.int x3), .val (.int x4), .val (.int k), .val (.int lo), .val (.int hi), .val (.int mid), .val (.ref g), .val (.int cnt), .val (.int last), .unset, .unset] [(.int (1 : Int32))])) _
  refine XS.istore X0.here hx rfl (hb hby at_160) rfl (l' := #[.val (.int x0), .val (.int x1), .val (.int x2), .val (.int x3), .val (.int x4), .val (.int k), .val (.int lo), .val (.int hi), .val (.int mid), .val (.ref g), .val (.int cnt), .val (.int last), .val (.int (1 : Int32)), .unset]) rfl ?_
  show Steps p.tables e below (T0.setTop (mkF m 162 #[.val (.int x0), .val (.int x1), .val (.int x2), .val (.int x3), .val (.int x4), .val (.int k), .val (.int lo), .val (.int hi), .val (.int mid), .val (.ref g), .val (.int cnt), .val (.int last), .val (.int (1 : Int32)), .unset] [])) _
  refine XS.aload X0.here hx rfl (hb hby at_162) rfl rfl ?_
  show Steps p.tables e below (T0.setTop (mkF m 164 #[.val (.int x0), .val (.int x1), .val (.int x2), .val (.int x3), .val (.int x4), .val (.int k), .val (.int lo), .val (.int hi), .val (.int mid), .val (.ref g), .val (.int cnt), .val (.int last), .val (.int (1 : Int32)), .unset] [(.ref g)])) _
  refine XS.iload X0.here hx rfl (hb hby at_164) rfl ?_
  show Steps p.tables e below (T0.setTop (mkF m 166 #[.val (.int x0), .val (.int x1), .val (.int x2), .val (.int x3), .val (.int x4), .val (.int k), .val (.int lo), .val (.int hi), .val (.int mid), .val (.ref g), .val (.int cnt), .val (.int last), .val (.int (1 : Int32)), .unset] [(.int last), (.ref g)])) _
  refine st6.trans ?_
  show Steps p.tables e below (T6.setTop (mkF m 169 #[.val (.int x0), .val (.int x1), .val (.int x2), .val (.int x3), .val (.int x4), .val (.int k), .val (.int lo), .val (.int hi), .val (.int mid), .val (.ref g), .val (.int cnt), .val (.int last), .val (.int (1 : Int32)), .unset] [(.int r6)])) _
  refine XS.iload X6.here hx rfl (hb hby at_169) rfl ?_
  show Steps p.tables e below (T6.setTop (mkF m 171 #[.val (.int x0), .val (.int x1), .val (.int x2), .val (.int x3), .val (.int x4), .val (.int k), .val (.int lo), .val (.int hi), .val (.int mid), .val (.ref g), .val (.int cnt), .val (.int last), .val (.int (1 : Int32)), .unset] [(.int cnt), (.int r6)])) _
  refine XS.ifYes X6.here hx rfl (pc0 := 171) (pc' := 178) rfl (hb hby at_171) rfl ((if0 _ _).trans (feq hc171).2) (by decide) (by decide) ?_
  show Steps p.tables e below (T6.setTop (mkF m 178 #[.val (.int x0), .val (.int x1), .val (.int x2), .val (.int x3), .val (.int x4), .val (.int k), .val (.int lo), .val (.int hi), .val (.int mid), .val (.ref g), .val (.int cnt), .val (.int last), .val (.int (1 : Int32)), .unset] [(.int r6)])) _
  refine XS.iconst X6.here hx rfl (hb hby at_178) ?_
  show Steps p.tables e below (T6.setTop (mkF m 179 #[.val (.int x0), .val (.int x1), .val (.int x2), .val (.int x3), .val (.int x4), .val (.int k), .val (.int lo), .val (.int hi), .val (.int mid), .val (.ref g), .val (.int cnt), .val (.int last), .val (.int (1 : Int32)), .unset] [(.int (0 : Int32)), (.int r6)])) _
  refine XS.icmpNo X6.here hx rfl (hb hby at_179) rfl (teq hc179).2 ?_
  show Steps p.tables e below (T6.setTop (mkF m 182 #[.val (.int x0), .val (.int x1), .val (.int x2), .val (.int x3), .val (.int x4), .val (.int k), .val (.int lo), .val (.int hi), .val (.int mid), .val (.ref g), .val (.int cnt), .val (.int last), .val (.int (1 : Int32)), .unset] [])) _
  refine XS.iconst X6.here hx rfl (hb hby at_182) ?_
  show Steps p.tables e below (T6.setTop (mkF m 183 #[.val (.int x0), .val (.int x1), .val (.int x2), .val (.int x3), .val (.int x4), .val (.int k), .val (.int lo), .val (.int hi), .val (.int mid), .val (.ref g), .val (.int cnt), .val (.int last), .val (.int (1 : Int32)), .unset] [(.int (1 : Int32))])) _
  refine XS.goto X6.here hx rfl (pc0 := 183) (pc' := 187) rfl (hb hby at_183) (by decide) (by decide) ?_
  show Steps p.tables e below (T6.setTop (mkF m 187 #[.val (.int x0), .val (.int x1), .val (.int x2), .val (.int x3), .val (.int x4), .val (.int k), .val (.int lo), .val (.int hi), .val (.int mid), .val (.ref g), .val (.int cnt), .val (.int last), .val (.int (1 : Int32)), .unset] [(.int (1 : Int32))])) _
  refine XS.istore X6.here hx rfl (hb hby at_187) rfl (l' := #[.val (.int x0), .val (.int x1), .val (.int x2), .val (.int x3), .val (.int x4), .val (.int k), .val (.int lo), .val (.int hi), .val (.int mid), .val (.ref g), .val (.int cnt), .val (.int last), .val (.int (1 : Int32)), .val (.int (1 : Int32))]) rfl ?_
  show Steps p.tables e below (T6.setTop (mkF m 189 #[.val (.int x0), .val (.int x1), .val (.int x2), .val (.int x3), .val (.int x4), .val (.int k), .val (.int lo), .val (.int hi), .val (.int mid), .val (.ref g), .val (.int cnt), .val (.int last), .val (.int (1 : Int32)), .val (.int (1 : Int32))] [])) _
  refine XS.aload X6.here hx rfl (hb hby at_189) rfl rfl ?_
  show Steps p.tables e below (T6.setTop (mkF m 191 #[.val (.int x0), .val (.int x1), .val (.int x2), .val (.int x3), .val (.int x4), .val (.int k), .val (.int lo), .val (.int hi), .val (.int mid), .val (.ref g), .val (.int cnt), .val (.int last), .val (.int (1 : Int32)), .val (.int (1 : Int32))] [(.ref g)])) _
  refine XS.iload X6.here hx rfl (hb hby at_191) rfl ?_
  show Steps p.tables e below (T6.setTop (mkF m 193 #[.val (.int x0), .val (.int x1), .val (.int x2), .val (.int x3), .val (.int x4), .val (.int k), .val (.int lo), .val (.int hi), .val (.int mid), .val (.ref g), .val (.int cnt), .val (.int last), .val (.int (1 : Int32)), .val (.int (1 : Int32))] [(.int x4), (.ref g)])) _
  refine st7.trans ?_
  show Steps p.tables e below (T7.setTop (mkF m 196 #[.val (.int x0), .val (.int x1), .val (.int x2), .val (.int x3), .val (.int x4), .val (.int k), .val (.int lo), .val (.int hi), .val (.int mid), .val (.ref g), .val (.int cnt), .val (.int last), .val (.int (1 : Int32)), .val (.int (1 : Int32))] [(.int r7)])) _
  refine XS.iload X7.here hx rfl (hb hby at_196) rfl ?_
  show Steps p.tables e below (T7.setTop (mkF m 198 #[.val (.int x0), .val (.int x1), .val (.int x2), .val (.int x3), .val (.int x4), .val (.int k), .val (.int lo), .val (.int hi), .val (.int mid), .val (.ref g), .val (.int cnt), .val (.int last), .val (.int (1 : Int32)), .val (.int (1 : Int32))] [(.int (1 : Int32)), (.int r7)])) _
  refine XS.icmpNo X7.here hx rfl (hb hby at_198) rfl (teq hc198).2 ?_
  show Steps p.tables e below (T7.setTop (mkF m 201 #[.val (.int x0), .val (.int x1), .val (.int x2), .val (.int x3), .val (.int x4), .val (.int k), .val (.int lo), .val (.int hi), .val (.int mid), .val (.ref g), .val (.int cnt), .val (.int last), .val (.int (1 : Int32)), .val (.int (1 : Int32))] [])) _
  refine XS.iload X7.here hx rfl (hb hby at_201) rfl ?_
  show Steps p.tables e below (T7.setTop (mkF m 203 #[.val (.int x0), .val (.int x1), .val (.int x2), .val (.int x3), .val (.int x4), .val (.int k), .val (.int lo), .val (.int hi), .val (.int mid), .val (.ref g), .val (.int cnt), .val (.int last), .val (.int (1 : Int32)), .val (.int (1 : Int32))] [(.int (1 : Int32))])) _
  refine XS.ifNo X7.here hx rfl (hb hby at_203) rfl ((if0 _ _).trans (feq hc203).1) ?_
  show Steps p.tables e below (T7.setTop (mkF m 206 #[.val (.int x0), .val (.int x1), .val (.int x2), .val (.int x3), .val (.int x4), .val (.int k), .val (.int lo), .val (.int hi), .val (.int mid), .val (.ref g), .val (.int cnt), .val (.int last), .val (.int (1 : Int32)), .val (.int (1 : Int32))] [])) _
  refine XS.iconst X7.here hx rfl (hb hby at_206) ?_
  show Steps p.tables e below (T7.setTop (mkF m 207 #[.val (.int x0), .val (.int x1), .val (.int x2), .val (.int x3), .val (.int x4), .val (.int k), .val (.int lo), .val (.int hi), .val (.int mid), .val (.ref g), .val (.int cnt), .val (.int last), .val (.int (1 : Int32)), .val (.int (1 : Int32))] [(.int (1 : Int32))])) _
  refine XS.goto X7.here hx rfl (pc0 := 207) (pc' := 211) rfl (hb hby at_207) (by decide) (by decide) ?_
  show Steps p.tables e below (T7.setTop (mkF m 211 #[.val (.int x0), .val (.int x1), .val (.int x2), .val (.int x3), .val (.int x4), .val (.int k), .val (.int lo), .val (.int hi), .val (.int mid), .val (.ref g), .val (.int cnt), .val (.int last), .val (.int (1 : Int32)), .val (.int (1 : Int32))] [(.int (1 : Int32))])) _
  exact retN X7 hx (t := .boolean) hret (by simp) (hb hby at_211) hr
set_option maxRecDepth 65536 in
set_option maxHeartbeats 40000000 in
theorem tail2 {p : Program} {l : Launch} {e : Env} {s : State} {m : MethodId} {args : Array Value} {below : List Frame} {meth : Method} {c : Code} {T0 : State} {locs : List Loc} {Z : State} {a0 : Array Value} {vm0 : Vm} {k0 : Nat} {h0 : Heap} {n0 : Nat} (x0 x1 x2 x3 x4 k lo hi mid : Int32) (g : Addr) (cnt last cg zg : Int32) (vg : List Value) (r6 : Int32) (r7 : Int32) (X0 : Stand p l e room_1 (s.setVm vm0) m args below meth c T0 locs 7 27) (hret : meth.sig.returnType = some .boolean) (hlk : meth.locks = false) (hx : p.tables.exec = Jvm.exec) (hZ : Z.Warmed39 (s.setVm vm0).vm) (hw : ∀ d ∈ tables_1, d.before a0 Z = true) (hby : c.code = code) (hml : c.maxLocals = 14) (hown : (s.setVm vm0).vm.findClass "com/example/harbinger/harbinger/broker/GroupPrecedesPinLaw" = some m.cls) (hS : s.Since vm0 k0) (hk0 : k0 ≤ h0.size) (e0 : T0.heap = h0) (N0 : Fr n0 locs) (Z0 : n0 ≤ h0.size) (GI0 : GI Z h0 n0 g cg zg vg) (hi0 : cg = 0 ∨ (¬ (cg - 1) < 0 ∧ (cg - 1) < zg ∧ vg.getD (cg - 1).toNatClampNeg (.int (0 : Int32)) = .int last)) (P6 : R5 cg last last r6) (P7 : R5 cg last x4 r7) (hc145 : ¬ (cnt = (0 : Int32))) (hc152 : ¬ (last < x4)) (hc171 : ¬ (cnt = (0 : Int32))) (hc179 : r6 = (0 : Int32)) (hc198 : r7 = (0 : Int32)) (hc203 : ¬ ((1 : Int32) = (0 : Int32))) :
    OwnFin p e below s n0 (T0.setTop (mkF m 143 #[.val (.int x0), .val (.int x1), .val (.int x2), .val (.int x3), .val (.int x4), .val (.int k), .val (.int lo), .val (.int hi), .val (.int mid), .val (.ref g), .val (.int cnt), .val (.int last), .unset, .unset] [])) := by
  obtain ⟨cq6, kq6, q6a, q6b, q6c⟩ := isOf hZ e0 GI0.2.2.1
  obtain ⟨_, _, ⟨T6, L6, k6, n6⟩, -, X6, ⟨Lc6, hQ6, l6, y6, z6⟩, st6⟩ := X0.virtualBack hx (y := (⟨"com/example/harbinger/harbinger/broker/Group", "precedes", "(I)Z"⟩ : MethodName)) (z := (⟨"com/example/harbinger/harbinger/broker/Group", "precedes", "(I)Z"⟩ : MethodName)) hown (mvT hZ (hw _ (List.mem_of_getElem? (i := 43) rfl))) (mvT hZ (hw _ (List.mem_of_getElem? (i := 44) rfl))) (notFace_of_selects (args := #[]) (mvT hZ (hw _ (List.mem_of_getElem? (i := 46) rfl)))) (mvT hZ (hw _ (List.mem_of_getElem? (i := 46) rfl))) (mvT hZ (hw _ (List.mem_of_getElem? (i := 45) rfl))) (by decide) (backOf (W := 0) (rm5 l Z a0 hw [] g last cg zg vg last r6 h0 n0 Z0 GI0 hi0 P6) hZ (hw _ (List.mem_of_getElem? (i := 47) rfl)) (hw _ (List.mem_of_getElem? (i := 9) rfl)) (by decide) (by decide)) q6a q6c (g := (mkF m 166 #[.val (.int x0), .val (.int x1), .val (.int x2), .val (.int x3), .val (.int x4), .val (.int k), .val (.int lo), .val (.int hi), .val (.int mid), .val (.ref g), .val (.int cnt), .val (.int last), .val (.int (0 : Int32)), .unset] [(.int last), (.ref g)])) rfl (by rw [hml]; rfl) (Steps.refl _) (argsL := [(.int last)]) (rest := []) (lenOf pd_0_3 rfl) rfl (by show 2 * 0 + _ ≤ _; exact Nat.le_of_eq rfl) (hb hby at_166) (fun _ _ => ⟨rfl, e0, (by decide : 7 + 0 ≤ _), (by decide : 27 + 0 ≤ _)⟩)
  dsimp only [Pt.U, Pt.locs, Pt.cells, Pt.slots] at X6 l6 y6 z6 st6 hQ6
  subst l6 y6 z6
  obtain ⟨rfl, N6q, e6⟩ := hQ6
  have N6 := Fr.app N0 N6q
  obtain ⟨cq7, kq7, q7a, q7b, q7c⟩ := isOf hZ e6 GI0.2.2.1
  obtain ⟨_, _, ⟨T7, L7, k7, n7⟩, -, X7, ⟨Lc7, hQ7, l7, y7, z7⟩, st7⟩ := X6.virtualBack hx (y := (⟨"com/example/harbinger/harbinger/broker/Group", "precedes", "(I)Z"⟩ : MethodName)) (z := (⟨"com/example/harbinger/harbinger/broker/Group", "precedes", "(I)Z"⟩ : MethodName)) hown (mvT hZ (hw _ (List.mem_of_getElem? (i := 43) rfl))) (mvT hZ (hw _ (List.mem_of_getElem? (i := 44) rfl))) (notFace_of_selects (args := #[]) (mvT hZ (hw _ (List.mem_of_getElem? (i := 46) rfl)))) (mvT hZ (hw _ (List.mem_of_getElem? (i := 46) rfl))) (mvT hZ (hw _ (List.mem_of_getElem? (i := 45) rfl))) (by decide) (backOf (W := 0) (rm5 l Z a0 hw [] g x4 cg zg vg last r7 h0 n0 Z0 GI0 hi0 P7) hZ (hw _ (List.mem_of_getElem? (i := 47) rfl)) (hw _ (List.mem_of_getElem? (i := 9) rfl)) (by decide) (by decide)) q7a q7c (g := (mkF m 193 #[.val (.int x0), .val (.int x1), .val (.int x2), .val (.int x3), .val (.int x4), .val (.int k), .val (.int lo), .val (.int hi), .val (.int mid), .val (.ref g), .val (.int cnt), .val (.int last), .val (.int (0 : Int32)), .val (.int (1 : Int32))] [(.int x4), (.ref g)])) rfl (by rw [hml]; rfl) (Steps.refl _) (argsL := [(.int x4)]) (rest := []) (lenOf pd_0_3 rfl) rfl (by show 2 * 0 + _ ≤ _; exact Nat.le_of_eq rfl) (hb hby at_193) (fun _ _ => ⟨rfl, e6, (by decide : 7 + 0 ≤ _), (by decide : 27 + 0 ≤ _)⟩)
  dsimp only [Pt.U, Pt.locs, Pt.cells, Pt.slots] at X7 l7 y7 z7 st7 hQ7
  subst l7 y7 z7
  obtain ⟨rfl, N7q, e7⟩ := hQ7
  have N7 := Fr.app N6 N7q
  obtain ⟨fs, hr, hrun, hended, hRE⟩ := X7.leaveW hS (by rw [e7]; exact hk0) (v := some (.int (1 : Int32))) (fun h => by rw [hret] at h; cases h)
  refine ⟨_, _, ?_, hrun, hended, _, _, rfl, ⟨rfl, N7⟩, hRE.1, hRE.2.1, hRE.2.2.1, hRE.2.2.2.mono (by decide) (by decide)⟩
  show Steps p.tables e below (T0.setTop (mkF m 143 #[.val (.int x0), .val (.int x1), .val (.int x2), .val (.int x3), .val (.int x4), .val (.int k), .val (.int lo), .val (.int hi), .val (.int mid), .val (.ref g), .val (.int cnt), .val (.int last), .unset, .unset] [])) _
  refine XS.iload X0.here hx rfl (hb hby at_143) rfl ?_
  show Steps p.tables e below (T0.setTop (mkF m 145 #[.val (.int x0), .val (.int x1), .val (.int x2), .val (.int x3), .val (.int x4), .val (.int k), .val (.int lo), .val (.int hi), .val (.int mid), .val (.ref g), .val (.int cnt), .val (.int last), .unset, .unset] [(.int cnt)])) _
  refine XS.ifNo X0.here hx rfl (hb hby at_145) rfl ((if0 _ _).trans (feq hc145).1) ?_
  show Steps p.tables e below (T0.setTop (mkF m 148 #[.val (.int x0), .val (.int x1), .val (.int x2), .val (.int x3), .val (.int x4), .val (.int k), .val (.int lo), .val (.int hi), .val (.int mid), .val (.ref g), .val (.int cnt), .val (.int last), .unset, .unset] [])) _
  refine XS.iload X0.here hx rfl (hb hby at_148) rfl ?_
  show Steps p.tables e below (T0.setTop (mkF m 150 #[.val (.int x0), .val (.int x1), .val (.int x2), .val (.int x3), .val (.int x4), .val (.int k), .val (.int lo), .val (.int hi), .val (.int mid), .val (.ref g), .val (.int cnt), .val (.int last), .unset, .unset] [(.int last)])) _
  refine XS.iload X0.here hx rfl (hb hby at_150) rfl ?_
  show Steps p.tables e below (T0.setTop (mkF m 152 #[.val (.int x0), .val (.int x1), .val (.int x2), .val (.int x3), .val (.int x4), .val (.int k), .val (.int lo), .val (.int hi), .val (.int mid), .val (.ref g), .val (.int cnt), .val (.int last), .unset, .unset] [(.int x4), (.int last)])) _
  refine XS.icmpYes X0.here hx rfl (pc0 := 152) (pc' := 159) rfl (hb hby at_152) rfl (flt hc152).2.1 (by decide) (by decide) ?_
  show Steps p.tables e below (T0.setTop (mkF m 159 #[.val (.int x0), .val (.int x1), .val (.int x2), .val (.int x3), .val (.int x4), .val (.int k), .val (.int lo), .val (.int hi), .val (.int mid), .val (.ref g), .val (.int cnt), .val (.int last), .unset, .unset] [])) _
  refine XS.iconst X0.here hx rfl (hb hby at_159) ?_
  show Steps p.tables e below (T0.setTop (mkF m 160 #[.val (.int x0), .val (.int x1), .val (.int x2), .val (.int x3), .val (.int x4), .val (.int k), .val (.int lo), .val (.int hi), .val (.int mid), .val (.ref g), .val (.int cnt), .val (.int last), .unset, .unset] [(.int (0 : Int32))])) _
  refine XS.istore X0.here hx rfl (hb hby at_160) rfl (l' := #[.val (.int x0), .val (.int x1), .val (.int x2), .val (.int x3), .val (.int x4), .val (.int k), .val (.int lo), .val (.int hi), .val (.int mid), .val (.ref g), .val (.int cnt), .val (.int last), .val (.int (0 : Int32)), .unset]) rfl ?_
  show Steps p.tables e below (T0.setTop (mkF m 162 #[.val (.int x0), .val (.int x1), .val (.int x2), .val (.int x3), .val (.int x4), .val (.int k), .val (.int lo), .val (.int hi), .val (.int mid), .val (.ref g), .val (.int cnt), .val (.int last), .val (.int (0 : Int32)), .unset] [])) _
  refine XS.aload X0.here hx rfl (hb hby at_162) rfl rfl ?_
  show Steps p.tables e below (T0.setTop (mkF m 164 #[.val (.int x0), .val (.int x1), .val (.int x2), .val (.int x3), .val (.int x4), .val (.int k), .val (.int lo), .val (.int hi), .val (.int mid), .val (.ref g), .val (.int cnt), .val (.int last), .val (.int (0 : Int32)), .unset] [(.ref g)])) _
  refine XS.iload X0.here hx rfl (hb hby at_164) rfl ?_
  show Steps p.tables e below (T0.setTop (mkF m 166 #[.val (.int x0), .val (.int x1), .val (.int x2), .val (.int x3), .val (.int x4), .val (.int k), .val (.int lo), .val (.int hi), .val (.int mid), .val (.ref g), .val (.int cnt), .val (.int last), .val (.int (0 : Int32)), .unset] [(.int last), (.ref g)])) _
  refine st6.trans ?_
  show Steps p.tables e below (T6.setTop (mkF m 169 #[.val (.int x0), .val (.int x1), .val (.int x2), .val (.int x3), .val (.int x4), .val (.int k), .val (.int lo), .val (.int hi), .val (.int mid), .val (.ref g), .val (.int cnt), .val (.int last), .val (.int (0 : Int32)), .unset] [(.int r6)])) _
  refine XS.iload X6.here hx rfl (hb hby at_169) rfl ?_
  show Steps p.tables e below (T6.setTop (mkF m 171 #[.val (.int x0), .val (.int x1), .val (.int x2), .val (.int x3), .val (.int x4), .val (.int k), .val (.int lo), .val (.int hi), .val (.int mid), .val (.ref g), .val (.int cnt), .val (.int last), .val (.int (0 : Int32)), .unset] [(.int cnt), (.int r6)])) _
  refine XS.ifYes X6.here hx rfl (pc0 := 171) (pc' := 178) rfl (hb hby at_171) rfl ((if0 _ _).trans (feq hc171).2) (by decide) (by decide) ?_
  show Steps p.tables e below (T6.setTop (mkF m 178 #[.val (.int x0), .val (.int x1), .val (.int x2), .val (.int x3), .val (.int x4), .val (.int k), .val (.int lo), .val (.int hi), .val (.int mid), .val (.ref g), .val (.int cnt), .val (.int last), .val (.int (0 : Int32)), .unset] [(.int r6)])) _
  refine XS.iconst X6.here hx rfl (hb hby at_178) ?_
  show Steps p.tables e below (T6.setTop (mkF m 179 #[.val (.int x0), .val (.int x1), .val (.int x2), .val (.int x3), .val (.int x4), .val (.int k), .val (.int lo), .val (.int hi), .val (.int mid), .val (.ref g), .val (.int cnt), .val (.int last), .val (.int (0 : Int32)), .unset] [(.int (0 : Int32)), (.int r6)])) _
  refine XS.icmpNo X6.here hx rfl (hb hby at_179) rfl (teq hc179).2 ?_
  show Steps p.tables e below (T6.setTop (mkF m 182 #[.val (.int x0), .val (.int x1), .val (.int x2), .val (.int x3), .val (.int x4), .val (.int k), .val (.int lo), .val (.int hi), .val (.int mid), .val (.ref g), .val (.int cnt), .val (.int last), .val (.int (0 : Int32)), .unset] [])) _
  refine XS.iconst X6.here hx rfl (hb hby at_182) ?_
  show Steps p.tables e below (T6.setTop (mkF m 183 #[.val (.int x0), .val (.int x1), .val (.int x2), .val (.int x3), .val (.int x4), .val (.int k), .val (.int lo), .val (.int hi), .val (.int mid), .val (.ref g), .val (.int cnt), .val (.int last), .val (.int (0 : Int32)), .unset] [(.int (1 : Int32))])) _
  refine XS.goto X6.here hx rfl (pc0 := 183) (pc' := 187) rfl (hb hby at_183) (by decide) (by decide) ?_
  show Steps p.tables e below (T6.setTop (mkF m 187 #[.val (.int x0), .val (.int x1), .val (.int x2), .val (.int x3), .val (.int x4), .val (.int k), .val (.int lo), .val (.int hi), .val (.int mid), .val (.ref g), .val (.int cnt), .val (.int last), .val (.int (0 : Int32)), .unset] [(.int (1 : Int32))])) _
  refine XS.istore X6.here hx rfl (hb hby at_187) rfl (l' := #[.val (.int x0), .val (.int x1), .val (.int x2), .val (.int x3), .val (.int x4), .val (.int k), .val (.int lo), .val (.int hi), .val (.int mid), .val (.ref g), .val (.int cnt), .val (.int last), .val (.int (0 : Int32)), .val (.int (1 : Int32))]) rfl ?_
  show Steps p.tables e below (T6.setTop (mkF m 189 #[.val (.int x0), .val (.int x1), .val (.int x2), .val (.int x3), .val (.int x4), .val (.int k), .val (.int lo), .val (.int hi), .val (.int mid), .val (.ref g), .val (.int cnt), .val (.int last), .val (.int (0 : Int32)), .val (.int (1 : Int32))] [])) _
  refine XS.aload X6.here hx rfl (hb hby at_189) rfl rfl ?_
  show Steps p.tables e below (T6.setTop (mkF m 191 #[.val (.int x0), .val (.int x1), .val (.int x2), .val (.int x3), .val (.int x4), .val (.int k), .val (.int lo), .val (.int hi), .val (.int mid), .val (.ref g), .val (.int cnt), .val (.int last), .val (.int (0 : Int32)), .val (.int (1 : Int32))] [(.ref g)])) _
  refine XS.iload X6.here hx rfl (hb hby at_191) rfl ?_
  show Steps p.tables e below (T6.setTop (mkF m 193 #[.val (.int x0), .val (.int x1), .val (.int x2), .val (.int x3), .val (.int x4), .val (.int k), .val (.int lo), .val (.int hi), .val (.int mid), .val (.ref g), .val (.int cnt), .val (.int last), .val (.int (0 : Int32)), .val (.int (1 : Int32))] [(.int x4), (.ref g)])) _
  refine st7.trans ?_
  show Steps p.tables e below (T7.setTop (mkF m 196 #[.val (.int x0), .val (.int x1), .val (.int x2), .val (.int x3), .val (.int x4), .val (.int k), .val (.int lo), .val (.int hi), .val (.int mid), .val (.ref g), .val (.int cnt), .val (.int last), .val (.int (0 : Int32)), .val (.int (1 : Int32))] [(.int r7)])) _
  refine XS.iload X7.here hx rfl (hb hby at_196) rfl ?_
  show Steps p.tables e below (T7.setTop (mkF m 198 #[.val (.int x0), .val (.int x1), .val (.int x2), .val (.int x3), .val (.int x4), .val (.int k), .val (.int lo), .val (.int hi), .val (.int mid), .val (.ref g), .val (.int cnt), .val (.int last), .val (.int (0 : Int32)), .val (.int (1 : Int32))] [(.int (0 : Int32)), (.int r7)])) _
  refine XS.icmpNo X7.here hx rfl (hb hby at_198) rfl (teq hc198).2 ?_
  show Steps p.tables e below (T7.setTop (mkF m 201 #[.val (.int x0), .val (.int x1), .val (.int x2), .val (.int x3), .val (.int x4), .val (.int k), .val (.int lo), .val (.int hi), .val (.int mid), .val (.ref g), .val (.int cnt), .val (.int last), .val (.int (0 : Int32)), .val (.int (1 : Int32))] [])) _
  refine XS.iload X7.here hx rfl (hb hby at_201) rfl ?_
  show Steps p.tables e below (T7.setTop (mkF m 203 #[.val (.int x0), .val (.int x1), .val (.int x2), .val (.int x3), .val (.int x4), .val (.int k), .val (.int lo), .val (.int hi), .val (.int mid), .val (.ref g), .val (.int cnt), .val (.int last), .val (.int (0 : Int32)), .val (.int (1 : Int32))] [(.int (1 : Int32))])) _
  refine XS.ifNo X7.here hx rfl (hb hby at_203) rfl ((if0 _ _).trans (feq hc203).1) ?_
  show Steps p.tables e below (T7.setTop (mkF m 206 #[.val (.int x0), .val (.int x1), .val (.int x2), .val (.int x3), .val (.int x4), .val (.int k), .val (.int lo), .val (.int hi), .val (.int mid), .val (.ref g), .val (.int cnt), .val (.int last), .val (.int (0 : Int32)), .val (.int (1 : Int32))] [])) _
  refine XS.iconst X7.here hx rfl (hb hby at_206) ?_
  show Steps p.tables e below (T7.setTop (mkF m 207 #[.val (.int x0), .val (.int x1), .val (.int x2), .val (.int x3), .val (.int x4), .val (.int k), .val (.int lo), .val (.int hi), .val (.int mid), .val (.ref g), .val (.int cnt), .val (.int last), .val (.int (0 : Int32)), .val (.int (1 : Int32))] [(.int (1 : Int32))])) _
  refine XS.goto X7.here hx rfl (pc0 := 207) (pc' := 211) rfl (hb hby at_207) (by decide) (by decide) ?_
  show Steps p.tables e below (T7.setTop (mkF m 211 #[.val (.int x0), .val (.int x1), .val (.int x2), .val (.int x3), .val (.int x4), .val (.int k), .val (.int lo), .val (.int hi), .val (.int mid), .val (.ref g), .val (.int cnt), .val (.int last), .val (.int (0 : Int32)), .val (.int (1 : Int32))] [(.int (1 : Int32))])) _
  exact retN X7 hx (t := .boolean) hret (by simp) (hb hby at_211) hr
set_option maxRecDepth 65536 in
set_option maxHeartbeats 40000000 in
theorem tailN {p : Program} {l : Launch} {e : Env} {s : State} {m : MethodId} {args : Array Value} {below : List Frame} {meth : Method} {c : Code} {T0 : State} {locs : List Loc} {Z : State} {a0 : Array Value} {vm0 : Vm} {k0 : Nat} {h0 : Heap} {n0 : Nat} (x0 x1 x2 x3 x4 k lo hi mid : Int32) (g : Addr) (cnt last cg zg : Int32) (vg : List Value) (X0 : Stand p l e room_1 (s.setVm vm0) m args below meth c T0 locs 7 27) (hret : meth.sig.returnType = some .boolean) (hlk : meth.locks = false) (hx : p.tables.exec = Jvm.exec) (hZ : Z.Warmed39 (s.setVm vm0).vm) (hw : ∀ d ∈ tables_1, d.before a0 Z = true) (hby : c.code = code) (hml : c.maxLocals = 14) (hown : (s.setVm vm0).vm.findClass "com/example/harbinger/harbinger/broker/GroupPrecedesPinLaw" = some m.cls) (hS : s.Since vm0 k0) (hk0 : k0 ≤ h0.size) (e0 : T0.heap = h0) (N0 : Fr n0 locs) (Z0 : n0 ≤ h0.size) (GI0 : GI Z h0 n0 g cg zg vg) (hi0 : ¬ (cg - 1) < 0 ∧ (cg - 1) < zg ∧ vg.getD (cg - 1).toNatClampNeg (.int (0 : Int32)) = .int last) (hcg : ¬ cg = 0) (hcnt : ¬ cnt = 0) :
    OwnFin p e below s n0 (T0.setTop (mkF m 143 #[.val (.int x0), .val (.int x1), .val (.int x2), .val (.int x3), .val (.int x4), .val (.int k), .val (.int lo), .val (.int hi), .val (.int mid), .val (.ref g), .val (.int cnt), .val (.int last), .unset, .unset] [])) := by
  have hll : ¬ last < last := by rw [Int32.lt_iff_toInt_lt]; omega
  by_cases hl : last < x4
  · exact tail1 x0 x1 x2 x3 x4 k lo hi mid g cnt last cg zg vg (0 : Int32) (1 : Int32) X0 hret hlk hx hZ hw hby hml hown hS hk0 e0 N0 Z0 GI0 (Or.inr hi0) (Or.inr (Or.inr ⟨hcg, hll, rfl⟩)) (Or.inr (Or.inl ⟨hcg, hl, rfl⟩)) hcnt hl hcnt (by decide) (by decide) (by decide)
  · exact tail2 x0 x1 x2 x3 x4 k lo hi mid g cnt last cg zg vg (0 : Int32) (0 : Int32) X0 hret hlk hx hZ hw hby hml hown hS hk0 e0 N0 Z0 GI0 (Or.inr hi0) (Or.inr (Or.inr ⟨hcg, hll, rfl⟩)) (Or.inr (Or.inr ⟨hcg, hl, rfl⟩)) hcnt hl hcnt (by decide) (by decide) (by decide)
set_option maxRecDepth 65536 in
set_option maxHeartbeats 40000000 in
theorem mid0 {p : Program} {l : Launch} {e : Env} {s : State} {m : MethodId} {args : Array Value} {below : List Frame} {meth : Method} {c : Code} {T0 : State} {locs : List Loc} {Z : State} {a0 : Array Value} {vm0 : Vm} {k0 : Nat} {h0 : Heap} {n0 : Nat} (x0 x1 x2 x3 x4 k lo hi mid : Int32) (g : Addr) (X0 : Stand p l e room_1 (s.setVm vm0) m args below meth c T0 locs 5 21) (hret : meth.sig.returnType = some .boolean) (hlk : meth.locks = false) (hx : p.tables.exec = Jvm.exec) (hZ : Z.Warmed39 (s.setVm vm0).vm) (hw : ∀ d ∈ tables_1, d.before a0 Z = true) (hby : c.code = code) (hml : c.maxLocals = 14) (hown : (s.setVm vm0).vm.findClass "com/example/harbinger/harbinger/broker/GroupPrecedesPinLaw" = some m.cls) (hS : s.Since vm0 k0) (hk0 : k0 ≤ h0.size) (e0 : T0.heap = h0) (N0 : Fr n0 locs) (Z0 : n0 ≤ h0.size) (GI0 : GI Z h0 n0 g (0 : Int32) (1 : Int32) [(.int (0 : Int32))]) (hc66 : k < (1 : Int32)) (hc86 : k < (2 : Int32)) (hc116 : k < (3 : Int32)) :
    OwnFin p e below s n0 (T0.setTop (mkF m 63 #[.val (.int x0), .val (.int x1), .val (.int x2), .val (.int x3), .val (.int x4), .val (.int k), .val (.int lo), .val (.int hi), .val (.int mid), .val (.ref g), .val (.int (0 : Int32)), .val (.int (0 : Int32)), .unset, .unset] [])) := by

  refine OwnFin.step (fun t kt => ?_) (tail0 x0 x1 x2 x3 x4 k lo hi mid g (0 : Int32) (0 : Int32) (0 : Int32) (1 : Int32) [(.int (0 : Int32))] (1 : Int32) (1 : Int32) (X0.more (by decide) (by decide)) hret hlk hx hZ hw hby hml hown hS hk0 e0 N0 Z0 GI0 (Or.inl rfl) (Or.inl ⟨rfl, rfl⟩) (Or.inl ⟨rfl, rfl⟩) (by decide) (by decide) (by decide) (by decide) (by decide))
  show Steps p.tables e below (T0.setTop (mkF m 63 #[.val (.int x0), .val (.int x1), .val (.int x2), .val (.int x3), .val (.int x4), .val (.int k), .val (.int lo), .val (.int hi), .val (.int mid), .val (.ref g), .val (.int (0 : Int32)), .val (.int (0 : Int32)), .unset, .unset] [])) _
  refine XS.iload X0.here hx rfl (hb hby at_63) rfl ?_
  show Steps p.tables e below (T0.setTop (mkF m 65 #[.val (.int x0), .val (.int x1), .val (.int x2), .val (.int x3), .val (.int x4), .val (.int k), .val (.int lo), .val (.int hi), .val (.int mid), .val (.ref g), .val (.int (0 : Int32)), .val (.int (0 : Int32)), .unset, .unset] [(.int k)])) _
  refine XS.iconst X0.here hx rfl (hb hby at_65) ?_
  show Steps p.tables e below (T0.setTop (mkF m 66 #[.val (.int x0), .val (.int x1), .val (.int x2), .val (.int x3), .val (.int x4), .val (.int k), .val (.int lo), .val (.int hi), .val (.int mid), .val (.ref g), .val (.int (0 : Int32)), .val (.int (0 : Int32)), .unset, .unset] [(.int (1 : Int32)), (.int k)])) _
  refine XS.icmpYes X0.here hx rfl (pc0 := 66) (pc' := 83) rfl (hb hby at_66) rfl (tlt hc66).1 (by decide) (by decide) ?_
  show Steps p.tables e below (T0.setTop (mkF m 83 #[.val (.int x0), .val (.int x1), .val (.int x2), .val (.int x3), .val (.int x4), .val (.int k), .val (.int lo), .val (.int hi), .val (.int mid), .val (.ref g), .val (.int (0 : Int32)), .val (.int (0 : Int32)), .unset, .unset] [])) _
  refine XS.iload X0.here hx rfl (hb hby at_83) rfl ?_
  show Steps p.tables e below (T0.setTop (mkF m 85 #[.val (.int x0), .val (.int x1), .val (.int x2), .val (.int x3), .val (.int x4), .val (.int k), .val (.int lo), .val (.int hi), .val (.int mid), .val (.ref g), .val (.int (0 : Int32)), .val (.int (0 : Int32)), .unset, .unset] [(.int k)])) _
  refine XS.iconst X0.here hx rfl (hb hby at_85) ?_
  show Steps p.tables e below (T0.setTop (mkF m 86 #[.val (.int x0), .val (.int x1), .val (.int x2), .val (.int x3), .val (.int x4), .val (.int k), .val (.int lo), .val (.int hi), .val (.int mid), .val (.ref g), .val (.int (0 : Int32)), .val (.int (0 : Int32)), .unset, .unset] [(.int (2 : Int32)), (.int k)])) _
  refine XS.icmpYes X0.here hx rfl (pc0 := 86) (pc' := 113) rfl (hb hby at_86) rfl (tlt hc86).1 (by decide) (by decide) ?_
  show Steps p.tables e below (T0.setTop (mkF m 113 #[.val (.int x0), .val (.int x1), .val (.int x2), .val (.int x3), .val (.int x4), .val (.int k), .val (.int lo), .val (.int hi), .val (.int mid), .val (.ref g), .val (.int (0 : Int32)), .val (.int (0 : Int32)), .unset, .unset] [])) _
  refine XS.iload X0.here hx rfl (hb hby at_113) rfl ?_
  show Steps p.tables e below (T0.setTop (mkF m 115 #[.val (.int x0), .val (.int x1), .val (.int x2), .val (.int x3), .val (.int x4), .val (.int k), .val (.int lo), .val (.int hi), .val (.int mid), .val (.ref g), .val (.int (0 : Int32)), .val (.int (0 : Int32)), .unset, .unset] [(.int k)])) _
  refine XS.iconst X0.here hx rfl (hb hby at_115) ?_
  show Steps p.tables e below (T0.setTop (mkF m 116 #[.val (.int x0), .val (.int x1), .val (.int x2), .val (.int x3), .val (.int x4), .val (.int k), .val (.int lo), .val (.int hi), .val (.int mid), .val (.ref g), .val (.int (0 : Int32)), .val (.int (0 : Int32)), .unset, .unset] [(.int (3 : Int32)), (.int k)])) _
  refine XS.icmpYes X0.here hx rfl (pc0 := 116) (pc' := 143) rfl (hb hby at_116) rfl (tlt hc116).1 (by decide) (by decide) ?_
  exact kt
theorem pd_0_4 : parseMethodDescriptor "(I)V" = some ⟨[.int], none⟩ := by decide +kernel
set_option maxRecDepth 65536 in
set_option maxHeartbeats 40000000 in
theorem mid1 {p : Program} {l : Launch} {e : Env} {s : State} {m : MethodId} {args : Array Value} {below : List Frame} {meth : Method} {c : Code} {T0 : State} {locs : List Loc} {Z : State} {a0 : Array Value} {vm0 : Vm} {k0 : Nat} {h0 : Heap} {n0 : Nat} (x0 x1 x2 x3 x4 k lo hi mid : Int32) (g : Addr) (X0 : Stand p l e room_1 (s.setVm vm0) m args below meth c T0 locs 5 21) (hret : meth.sig.returnType = some .boolean) (hlk : meth.locks = false) (hx : p.tables.exec = Jvm.exec) (hZ : Z.Warmed39 (s.setVm vm0).vm) (hw : ∀ d ∈ tables_1, d.before a0 Z = true) (hby : c.code = code) (hml : c.maxLocals = 14) (hown : (s.setVm vm0).vm.findClass "com/example/harbinger/harbinger/broker/GroupPrecedesPinLaw" = some m.cls) (hS : s.Since vm0 k0) (hk0 : k0 ≤ h0.size) (e0 : T0.heap = h0) (N0 : Fr n0 locs) (Z0 : n0 ≤ h0.size) (GI0 : GI Z h0 n0 g (0 : Int32) (1 : Int32) [(.int (0 : Int32))]) (hc66 : ¬ (k < (1 : Int32))) (hc86 : k < (2 : Int32)) (hc116 : k < (3 : Int32)) :
    OwnFin p e below s n0 (T0.setTop (mkF m 63 #[.val (.int x0), .val (.int x1), .val (.int x2), .val (.int x3), .val (.int x4), .val (.int k), .val (.int lo), .val (.int hi), .val (.int mid), .val (.ref g), .val (.int (0 : Int32)), .val (.int (0 : Int32)), .unset, .unset] [])) := by
  obtain ⟨cq6, kq6, q6a, q6b, q6c⟩ := isOf hZ e0 GI0.2.2.1
  obtain ⟨_, _, ⟨T6, L6, k6, n6⟩, -, X6, ⟨Lc6, hQ6, l6, y6, z6⟩, st6⟩ := X0.virtualBack hx (y := (⟨"com/example/harbinger/harbinger/broker/Group", "adopt", "(I)V"⟩ : MethodName)) (z := (⟨"com/example/harbinger/harbinger/broker/Group", "adopt", "(I)V"⟩ : MethodName)) hown (mvT hZ (hw _ (List.mem_of_getElem? (i := 50) rfl))) (mvT hZ (hw _ (List.mem_of_getElem? (i := 51) rfl))) (notFace_of_selects (args := #[]) (mvT hZ (hw _ (List.mem_of_getElem? (i := 53) rfl)))) (mvT hZ (hw _ (List.mem_of_getElem? (i := 53) rfl))) (mvT hZ (hw _ (List.mem_of_getElem? (i := 52) rfl))) (by decide) (backOf (W := 0) (rm6a l Z a0 hw [] g lo (0 : Int32) h0 n0 Z0 GI0) hZ (hw _ (List.mem_of_getElem? (i := 54) rfl)) (hw _ (List.mem_of_getElem? (i := 9) rfl)) (by decide) (by decide)) q6a q6c (g := (mkF m 73 #[.val (.int x0), .val (.int x1), .val (.int x2), .val (.int x3), .val (.int x4), .val (.int k), .val (.int lo), .val (.int hi), .val (.int mid), .val (.ref g), .val (.int (0 : Int32)), .val (.int (0 : Int32)), .unset, .unset] [(.int lo), (.ref g)])) rfl (by rw [hml]; rfl) (Steps.refl _) (argsL := [(.int lo)]) (rest := []) (lenOf pd_0_4 rfl) rfl (by show 2 * 0 + _ ≤ _; exact Nat.le_of_eq rfl) (hb hby at_73) (fun _ _ => ⟨rfl, e0, (by decide : 5 + 0 ≤ _), (by decide : 21 + 0 ≤ _)⟩)
  dsimp only [Pt.U, Pt.locs, Pt.cells, Pt.slots] at X6 l6 y6 z6 st6 hQ6
  subst l6 y6 z6
  obtain ⟨rfl, N6q, sz6, GI6⟩ := hQ6
  have N6 := Fr.app N0 N6q
  refine OwnFin.step (fun t kt => ?_) (tailN x0 x1 x2 x3 x4 k lo hi mid g (1 : Int32) lo (1 : Int32) (1 : Int32) [(.int lo)] (X6.more (by decide) (by decide)) hret hlk hx hZ hw hby hml hown hS (Nat.le_trans hk0 sz6) rfl N6 GI6.1 GI6 ⟨by decide, by decide, rfl⟩ (by decide) (by decide))
  show Steps p.tables e below (T0.setTop (mkF m 63 #[.val (.int x0), .val (.int x1), .val (.int x2), .val (.int x3), .val (.int x4), .val (.int k), .val (.int lo), .val (.int hi), .val (.int mid), .val (.ref g), .val (.int (0 : Int32)), .val (.int (0 : Int32)), .unset, .unset] [])) _
  refine XS.iload X0.here hx rfl (hb hby at_63) rfl ?_
  show Steps p.tables e below (T0.setTop (mkF m 65 #[.val (.int x0), .val (.int x1), .val (.int x2), .val (.int x3), .val (.int x4), .val (.int k), .val (.int lo), .val (.int hi), .val (.int mid), .val (.ref g), .val (.int (0 : Int32)), .val (.int (0 : Int32)), .unset, .unset] [(.int k)])) _
  refine XS.iconst X0.here hx rfl (hb hby at_65) ?_
  show Steps p.tables e below (T0.setTop (mkF m 66 #[.val (.int x0), .val (.int x1), .val (.int x2), .val (.int x3), .val (.int x4), .val (.int k), .val (.int lo), .val (.int hi), .val (.int mid), .val (.ref g), .val (.int (0 : Int32)), .val (.int (0 : Int32)), .unset, .unset] [(.int (1 : Int32)), (.int k)])) _
  refine XS.icmpNo X0.here hx rfl (hb hby at_66) rfl (flt hc66).1 ?_
  show Steps p.tables e below (T0.setTop (mkF m 69 #[.val (.int x0), .val (.int x1), .val (.int x2), .val (.int x3), .val (.int x4), .val (.int k), .val (.int lo), .val (.int hi), .val (.int mid), .val (.ref g), .val (.int (0 : Int32)), .val (.int (0 : Int32)), .unset, .unset] [])) _
  refine XS.aload X0.here hx rfl (hb hby at_69) rfl rfl ?_
  show Steps p.tables e below (T0.setTop (mkF m 71 #[.val (.int x0), .val (.int x1), .val (.int x2), .val (.int x3), .val (.int x4), .val (.int k), .val (.int lo), .val (.int hi), .val (.int mid), .val (.ref g), .val (.int (0 : Int32)), .val (.int (0 : Int32)), .unset, .unset] [(.ref g)])) _
  refine XS.iload X0.here hx rfl (hb hby at_71) rfl ?_
  show Steps p.tables e below (T0.setTop (mkF m 73 #[.val (.int x0), .val (.int x1), .val (.int x2), .val (.int x3), .val (.int x4), .val (.int k), .val (.int lo), .val (.int hi), .val (.int mid), .val (.ref g), .val (.int (0 : Int32)), .val (.int (0 : Int32)), .unset, .unset] [(.int lo), (.ref g)])) _
  refine st6.trans ?_
  show Steps p.tables e below (T6.setTop (mkF m 76 #[.val (.int x0), .val (.int x1), .val (.int x2), .val (.int x3), .val (.int x4), .val (.int k), .val (.int lo), .val (.int hi), .val (.int mid), .val (.ref g), .val (.int (0 : Int32)), .val (.int (0 : Int32)), .unset, .unset] [])) _
  refine XS.iconst X6.here hx rfl (hb hby at_76) ?_
  show Steps p.tables e below (T6.setTop (mkF m 77 #[.val (.int x0), .val (.int x1), .val (.int x2), .val (.int x3), .val (.int x4), .val (.int k), .val (.int lo), .val (.int hi), .val (.int mid), .val (.ref g), .val (.int (0 : Int32)), .val (.int (0 : Int32)), .unset, .unset] [(.int (1 : Int32))])) _
  refine XS.istore X6.here hx rfl (hb hby at_77) rfl (l' := #[.val (.int x0), .val (.int x1), .val (.int x2), .val (.int x3), .val (.int x4), .val (.int k), .val (.int lo), .val (.int hi), .val (.int mid), .val (.ref g), .val (.int (1 : Int32)), .val (.int (0 : Int32)), .unset, .unset]) rfl ?_
  show Steps p.tables e below (T6.setTop (mkF m 79 #[.val (.int x0), .val (.int x1), .val (.int x2), .val (.int x3), .val (.int x4), .val (.int k), .val (.int lo), .val (.int hi), .val (.int mid), .val (.ref g), .val (.int (1 : Int32)), .val (.int (0 : Int32)), .unset, .unset] [])) _
  refine XS.iload X6.here hx rfl (hb hby at_79) rfl ?_
  show Steps p.tables e below (T6.setTop (mkF m 81 #[.val (.int x0), .val (.int x1), .val (.int x2), .val (.int x3), .val (.int x4), .val (.int k), .val (.int lo), .val (.int hi), .val (.int mid), .val (.ref g), .val (.int (1 : Int32)), .val (.int (0 : Int32)), .unset, .unset] [(.int lo)])) _
  refine XS.istore X6.here hx rfl (hb hby at_81) rfl (l' := #[.val (.int x0), .val (.int x1), .val (.int x2), .val (.int x3), .val (.int x4), .val (.int k), .val (.int lo), .val (.int hi), .val (.int mid), .val (.ref g), .val (.int (1 : Int32)), .val (.int lo), .unset, .unset]) rfl ?_
  show Steps p.tables e below (T6.setTop (mkF m 83 #[.val (.int x0), .val (.int x1), .val (.int x2), .val (.int x3), .val (.int x4), .val (.int k), .val (.int lo), .val (.int hi), .val (.int mid), .val (.ref g), .val (.int (1 : Int32)), .val (.int lo), .unset, .unset] [])) _
  refine XS.iload X6.here hx rfl (hb hby at_83) rfl ?_
  show Steps p.tables e below (T6.setTop (mkF m 85 #[.val (.int x0), .val (.int x1), .val (.int x2), .val (.int x3), .val (.int x4), .val (.int k), .val (.int lo), .val (.int hi), .val (.int mid), .val (.ref g), .val (.int (1 : Int32)), .val (.int lo), .unset, .unset] [(.int k)])) _
  refine XS.iconst X6.here hx rfl (hb hby at_85) ?_
  show Steps p.tables e below (T6.setTop (mkF m 86 #[.val (.int x0), .val (.int x1), .val (.int x2), .val (.int x3), .val (.int x4), .val (.int k), .val (.int lo), .val (.int hi), .val (.int mid), .val (.ref g), .val (.int (1 : Int32)), .val (.int lo), .unset, .unset] [(.int (2 : Int32)), (.int k)])) _
  refine XS.icmpYes X6.here hx rfl (pc0 := 86) (pc' := 113) rfl (hb hby at_86) rfl (tlt hc86).1 (by decide) (by decide) ?_
  show Steps p.tables e below (T6.setTop (mkF m 113 #[.val (.int x0), .val (.int x1), .val (.int x2), .val (.int x3), .val (.int x4), .val (.int k), .val (.int lo), .val (.int hi), .val (.int mid), .val (.ref g), .val (.int (1 : Int32)), .val (.int lo), .unset, .unset] [])) _
  refine XS.iload X6.here hx rfl (hb hby at_113) rfl ?_
  show Steps p.tables e below (T6.setTop (mkF m 115 #[.val (.int x0), .val (.int x1), .val (.int x2), .val (.int x3), .val (.int x4), .val (.int k), .val (.int lo), .val (.int hi), .val (.int mid), .val (.ref g), .val (.int (1 : Int32)), .val (.int lo), .unset, .unset] [(.int k)])) _
  refine XS.iconst X6.here hx rfl (hb hby at_115) ?_
  show Steps p.tables e below (T6.setTop (mkF m 116 #[.val (.int x0), .val (.int x1), .val (.int x2), .val (.int x3), .val (.int x4), .val (.int k), .val (.int lo), .val (.int hi), .val (.int mid), .val (.ref g), .val (.int (1 : Int32)), .val (.int lo), .unset, .unset] [(.int (3 : Int32)), (.int k)])) _
  refine XS.icmpYes X6.here hx rfl (pc0 := 116) (pc' := 143) rfl (hb hby at_116) rfl (tlt hc116).1 (by decide) (by decide) ?_
  exact kt
set_option maxRecDepth 65536 in
set_option maxHeartbeats 40000000 in
theorem mid2 {p : Program} {l : Launch} {e : Env} {s : State} {m : MethodId} {args : Array Value} {below : List Frame} {meth : Method} {c : Code} {T0 : State} {locs : List Loc} {Z : State} {a0 : Array Value} {vm0 : Vm} {k0 : Nat} {h0 : Heap} {n0 : Nat} (x0 x1 x2 x3 x4 k lo hi mid : Int32) (g : Addr) (X0 : Stand p l e room_1 (s.setVm vm0) m args below meth c T0 locs 5 21) (hret : meth.sig.returnType = some .boolean) (hlk : meth.locks = false) (hx : p.tables.exec = Jvm.exec) (hZ : Z.Warmed39 (s.setVm vm0).vm) (hw : ∀ d ∈ tables_1, d.before a0 Z = true) (hby : c.code = code) (hml : c.maxLocals = 14) (hown : (s.setVm vm0).vm.findClass "com/example/harbinger/harbinger/broker/GroupPrecedesPinLaw" = some m.cls) (hS : s.Since vm0 k0) (hk0 : k0 ≤ h0.size) (e0 : T0.heap = h0) (N0 : Fr n0 locs) (Z0 : n0 ≤ h0.size) (GI0 : GI Z h0 n0 g (0 : Int32) (1 : Int32) [(.int (0 : Int32))]) (hc66 : ¬ (k < (1 : Int32))) (hc86 : ¬ (k < (2 : Int32))) (hc93 : ¬ (lo < mid)) (hc116 : k < (3 : Int32)) :
    OwnFin p e below s n0 (T0.setTop (mkF m 63 #[.val (.int x0), .val (.int x1), .val (.int x2), .val (.int x3), .val (.int x4), .val (.int k), .val (.int lo), .val (.int hi), .val (.int mid), .val (.ref g), .val (.int (0 : Int32)), .val (.int (0 : Int32)), .unset, .unset] [])) := by
  obtain ⟨cq6, kq6, q6a, q6b, q6c⟩ := isOf hZ e0 GI0.2.2.1
  obtain ⟨_, _, ⟨T6, L6, k6, n6⟩, -, X6, ⟨Lc6, hQ6, l6, y6, z6⟩, st6⟩ := X0.virtualBack hx (y := (⟨"com/example/harbinger/harbinger/broker/Group", "adopt", "(I)V"⟩ : MethodName)) (z := (⟨"com/example/harbinger/harbinger/broker/Group", "adopt", "(I)V"⟩ : MethodName)) hown (mvT hZ (hw _ (List.mem_of_getElem? (i := 50) rfl))) (mvT hZ (hw _ (List.mem_of_getElem? (i := 51) rfl))) (notFace_of_selects (args := #[]) (mvT hZ (hw _ (List.mem_of_getElem? (i := 53) rfl)))) (mvT hZ (hw _ (List.mem_of_getElem? (i := 53) rfl))) (mvT hZ (hw _ (List.mem_of_getElem? (i := 52) rfl))) (by decide) (backOf (W := 0) (rm6a l Z a0 hw [] g lo (0 : Int32) h0 n0 Z0 GI0) hZ (hw _ (List.mem_of_getElem? (i := 54) rfl)) (hw _ (List.mem_of_getElem? (i := 9) rfl)) (by decide) (by decide)) q6a q6c (g := (mkF m 73 #[.val (.int x0), .val (.int x1), .val (.int x2), .val (.int x3), .val (.int x4), .val (.int k), .val (.int lo), .val (.int hi), .val (.int mid), .val (.ref g), .val (.int (0 : Int32)), .val (.int (0 : Int32)), .unset, .unset] [(.int lo), (.ref g)])) rfl (by rw [hml]; rfl) (Steps.refl _) (argsL := [(.int lo)]) (rest := []) (lenOf pd_0_4 rfl) rfl (by show 2 * 0 + _ ≤ _; exact Nat.le_of_eq rfl) (hb hby at_73) (fun _ _ => ⟨rfl, e0, (by decide : 5 + 0 ≤ _), (by decide : 21 + 0 ≤ _)⟩)
  dsimp only [Pt.U, Pt.locs, Pt.cells, Pt.slots] at X6 l6 y6 z6 st6 hQ6
  subst l6 y6 z6
  obtain ⟨rfl, N6q, sz6, GI6⟩ := hQ6
  have N6 := Fr.app N0 N6q
  refine OwnFin.step (fun t kt => ?_) (tailN x0 x1 x2 x3 x4 k lo hi mid g (1 : Int32) lo (1 : Int32) (1 : Int32) [(.int lo)] (X6.more (by decide) (by decide)) hret hlk hx hZ hw hby hml hown hS (Nat.le_trans hk0 sz6) rfl N6 GI6.1 GI6 ⟨by decide, by decide, rfl⟩ (by decide) (by decide))
  show Steps p.tables e below (T0.setTop (mkF m 63 #[.val (.int x0), .val (.int x1), .val (.int x2), .val (.int x3), .val (.int x4), .val (.int k), .val (.int lo), .val (.int hi), .val (.int mid), .val (.ref g), .val (.int (0 : Int32)), .val (.int (0 : Int32)), .unset, .unset] [])) _
  refine XS.iload X0.here hx rfl (hb hby at_63) rfl ?_
  show Steps p.tables e below (T0.setTop (mkF m 65 #[.val (.int x0), .val (.int x1), .val (.int x2), .val (.int x3), .val (.int x4), .val (.int k), .val (.int lo), .val (.int hi), .val (.int mid), .val (.ref g), .val (.int (0 : Int32)), .val (.int (0 : Int32)), .unset, .unset] [(.int k)])) _
  refine XS.iconst X0.here hx rfl (hb hby at_65) ?_
  show Steps p.tables e below (T0.setTop (mkF m 66 #[.val (.int x0), .val (.int x1), .val (.int x2), .val (.int x3), .val (.int x4), .val (.int k), .val (.int lo), .val (.int hi), .val (.int mid), .val (.ref g), .val (.int (0 : Int32)), .val (.int (0 : Int32)), .unset, .unset] [(.int (1 : Int32)), (.int k)])) _
  refine XS.icmpNo X0.here hx rfl (hb hby at_66) rfl (flt hc66).1 ?_
  show Steps p.tables e below (T0.setTop (mkF m 69 #[.val (.int x0), .val (.int x1), .val (.int x2), .val (.int x3), .val (.int x4), .val (.int k), .val (.int lo), .val (.int hi), .val (.int mid), .val (.ref g), .val (.int (0 : Int32)), .val (.int (0 : Int32)), .unset, .unset] [])) _
  refine XS.aload X0.here hx rfl (hb hby at_69) rfl rfl ?_
  show Steps p.tables e below (T0.setTop (mkF m 71 #[.val (.int x0), .val (.int x1), .val (.int x2), .val (.int x3), .val (.int x4), .val (.int k), .val (.int lo), .val (.int hi), .val (.int mid), .val (.ref g), .val (.int (0 : Int32)), .val (.int (0 : Int32)), .unset, .unset] [(.ref g)])) _
  refine XS.iload X0.here hx rfl (hb hby at_71) rfl ?_
  show Steps p.tables e below (T0.setTop (mkF m 73 #[.val (.int x0), .val (.int x1), .val (.int x2), .val (.int x3), .val (.int x4), .val (.int k), .val (.int lo), .val (.int hi), .val (.int mid), .val (.ref g), .val (.int (0 : Int32)), .val (.int (0 : Int32)), .unset, .unset] [(.int lo), (.ref g)])) _
  refine st6.trans ?_
  show Steps p.tables e below (T6.setTop (mkF m 76 #[.val (.int x0), .val (.int x1), .val (.int x2), .val (.int x3), .val (.int x4), .val (.int k), .val (.int lo), .val (.int hi), .val (.int mid), .val (.ref g), .val (.int (0 : Int32)), .val (.int (0 : Int32)), .unset, .unset] [])) _
  refine XS.iconst X6.here hx rfl (hb hby at_76) ?_
  show Steps p.tables e below (T6.setTop (mkF m 77 #[.val (.int x0), .val (.int x1), .val (.int x2), .val (.int x3), .val (.int x4), .val (.int k), .val (.int lo), .val (.int hi), .val (.int mid), .val (.ref g), .val (.int (0 : Int32)), .val (.int (0 : Int32)), .unset, .unset] [(.int (1 : Int32))])) _
  refine XS.istore X6.here hx rfl (hb hby at_77) rfl (l' := #[.val (.int x0), .val (.int x1), .val (.int x2), .val (.int x3), .val (.int x4), .val (.int k), .val (.int lo), .val (.int hi), .val (.int mid), .val (.ref g), .val (.int (1 : Int32)), .val (.int (0 : Int32)), .unset, .unset]) rfl ?_
  show Steps p.tables e below (T6.setTop (mkF m 79 #[.val (.int x0), .val (.int x1), .val (.int x2), .val (.int x3), .val (.int x4), .val (.int k), .val (.int lo), .val (.int hi), .val (.int mid), .val (.ref g), .val (.int (1 : Int32)), .val (.int (0 : Int32)), .unset, .unset] [])) _
  refine XS.iload X6.here hx rfl (hb hby at_79) rfl ?_
  show Steps p.tables e below (T6.setTop (mkF m 81 #[.val (.int x0), .val (.int x1), .val (.int x2), .val (.int x3), .val (.int x4), .val (.int k), .val (.int lo), .val (.int hi), .val (.int mid), .val (.ref g), .val (.int (1 : Int32)), .val (.int (0 : Int32)), .unset, .unset] [(.int lo)])) _
  refine XS.istore X6.here hx rfl (hb hby at_81) rfl (l' := #[.val (.int x0), .val (.int x1), .val (.int x2), .val (.int x3), .val (.int x4), .val (.int k), .val (.int lo), .val (.int hi), .val (.int mid), .val (.ref g), .val (.int (1 : Int32)), .val (.int lo), .unset, .unset]) rfl ?_
  show Steps p.tables e below (T6.setTop (mkF m 83 #[.val (.int x0), .val (.int x1), .val (.int x2), .val (.int x3), .val (.int x4), .val (.int k), .val (.int lo), .val (.int hi), .val (.int mid), .val (.ref g), .val (.int (1 : Int32)), .val (.int lo), .unset, .unset] [])) _
  refine XS.iload X6.here hx rfl (hb hby at_83) rfl ?_
  show Steps p.tables e below (T6.setTop (mkF m 85 #[.val (.int x0), .val (.int x1), .val (.int x2), .val (.int x3), .val (.int x4), .val (.int k), .val (.int lo), .val (.int hi), .val (.int mid), .val (.ref g), .val (.int (1 : Int32)), .val (.int lo), .unset, .unset] [(.int k)])) _
  refine XS.iconst X6.here hx rfl (hb hby at_85) ?_
  show Steps p.tables e below (T6.setTop (mkF m 86 #[.val (.int x0), .val (.int x1), .val (.int x2), .val (.int x3), .val (.int x4), .val (.int k), .val (.int lo), .val (.int hi), .val (.int mid), .val (.ref g), .val (.int (1 : Int32)), .val (.int lo), .unset, .unset] [(.int (2 : Int32)), (.int k)])) _
  refine XS.icmpNo X6.here hx rfl (hb hby at_86) rfl (flt hc86).1 ?_
  show Steps p.tables e below (T6.setTop (mkF m 89 #[.val (.int x0), .val (.int x1), .val (.int x2), .val (.int x3), .val (.int x4), .val (.int k), .val (.int lo), .val (.int hi), .val (.int mid), .val (.ref g), .val (.int (1 : Int32)), .val (.int lo), .unset, .unset] [])) _
  refine XS.iload X6.here hx rfl (hb hby at_89) rfl ?_
  show Steps p.tables e below (T6.setTop (mkF m 91 #[.val (.int x0), .val (.int x1), .val (.int x2), .val (.int x3), .val (.int x4), .val (.int k), .val (.int lo), .val (.int hi), .val (.int mid), .val (.ref g), .val (.int (1 : Int32)), .val (.int lo), .unset, .unset] [(.int mid)])) _
  refine XS.iload X6.here hx rfl (hb hby at_91) rfl ?_
  show Steps p.tables e below (T6.setTop (mkF m 93 #[.val (.int x0), .val (.int x1), .val (.int x2), .val (.int x3), .val (.int x4), .val (.int k), .val (.int lo), .val (.int hi), .val (.int mid), .val (.ref g), .val (.int (1 : Int32)), .val (.int lo), .unset, .unset] [(.int lo), (.int mid)])) _
  refine XS.icmpYes X6.here hx rfl (pc0 := 93) (pc' := 113) rfl (hb hby at_93) rfl (flt hc93).2.2.2 (by decide) (by decide) ?_
  show Steps p.tables e below (T6.setTop (mkF m 113 #[.val (.int x0), .val (.int x1), .val (.int x2), .val (.int x3), .val (.int x4), .val (.int k), .val (.int lo), .val (.int hi), .val (.int mid), .val (.ref g), .val (.int (1 : Int32)), .val (.int lo), .unset, .unset] [])) _
  refine XS.iload X6.here hx rfl (hb hby at_113) rfl ?_
  show Steps p.tables e below (T6.setTop (mkF m 115 #[.val (.int x0), .val (.int x1), .val (.int x2), .val (.int x3), .val (.int x4), .val (.int k), .val (.int lo), .val (.int hi), .val (.int mid), .val (.ref g), .val (.int (1 : Int32)), .val (.int lo), .unset, .unset] [(.int k)])) _
  refine XS.iconst X6.here hx rfl (hb hby at_115) ?_
  show Steps p.tables e below (T6.setTop (mkF m 116 #[.val (.int x0), .val (.int x1), .val (.int x2), .val (.int x3), .val (.int x4), .val (.int k), .val (.int lo), .val (.int hi), .val (.int mid), .val (.ref g), .val (.int (1 : Int32)), .val (.int lo), .unset, .unset] [(.int (3 : Int32)), (.int k)])) _
  refine XS.icmpYes X6.here hx rfl (pc0 := 116) (pc' := 143) rfl (hb hby at_116) rfl (tlt hc116).1 (by decide) (by decide) ?_
  exact kt
set_option maxRecDepth 65536 in
set_option maxHeartbeats 40000000 in
theorem mid3 {p : Program} {l : Launch} {e : Env} {s : State} {m : MethodId} {args : Array Value} {below : List Frame} {meth : Method} {c : Code} {T0 : State} {locs : List Loc} {Z : State} {a0 : Array Value} {vm0 : Vm} {k0 : Nat} {h0 : Heap} {n0 : Nat} (x0 x1 x2 x3 x4 k lo hi mid : Int32) (g : Addr) (X0 : Stand p l e room_1 (s.setVm vm0) m args below meth c T0 locs 5 21) (hret : meth.sig.returnType = some .boolean) (hlk : meth.locks = false) (hx : p.tables.exec = Jvm.exec) (hZ : Z.Warmed39 (s.setVm vm0).vm) (hw : ∀ d ∈ tables_1, d.before a0 Z = true) (hby : c.code = code) (hml : c.maxLocals = 14) (hown : (s.setVm vm0).vm.findClass "com/example/harbinger/harbinger/broker/GroupPrecedesPinLaw" = some m.cls) (hS : s.Since vm0 k0) (hk0 : k0 ≤ h0.size) (e0 : T0.heap = h0) (N0 : Fr n0 locs) (Z0 : n0 ≤ h0.size) (GI0 : GI Z h0 n0 g (0 : Int32) (1 : Int32) [(.int (0 : Int32))]) (hc66 : ¬ (k < (1 : Int32))) (hc86 : ¬ (k < (2 : Int32))) (hc93 : lo < mid) (hc116 : k < (3 : Int32)) :
    OwnFin p e below s n0 (T0.setTop (mkF m 63 #[.val (.int x0), .val (.int x1), .val (.int x2), .val (.int x3), .val (.int x4), .val (.int k), .val (.int lo), .val (.int hi), .val (.int mid), .val (.ref g), .val (.int (0 : Int32)), .val (.int (0 : Int32)), .unset, .unset] [])) := by
  obtain ⟨cq6, kq6, q6a, q6b, q6c⟩ := isOf hZ e0 GI0.2.2.1
  obtain ⟨_, _, ⟨T6, L6, k6, n6⟩, -, X6, ⟨Lc6, hQ6, l6, y6, z6⟩, st6⟩ := X0.virtualBack hx (y := (⟨"com/example/harbinger/harbinger/broker/Group", "adopt", "(I)V"⟩ : MethodName)) (z := (⟨"com/example/harbinger/harbinger/broker/Group", "adopt", "(I)V"⟩ : MethodName)) hown (mvT hZ (hw _ (List.mem_of_getElem? (i := 50) rfl))) (mvT hZ (hw _ (List.mem_of_getElem? (i := 51) rfl))) (notFace_of_selects (args := #[]) (mvT hZ (hw _ (List.mem_of_getElem? (i := 53) rfl)))) (mvT hZ (hw _ (List.mem_of_getElem? (i := 53) rfl))) (mvT hZ (hw _ (List.mem_of_getElem? (i := 52) rfl))) (by decide) (backOf (W := 0) (rm6a l Z a0 hw [] g lo (0 : Int32) h0 n0 Z0 GI0) hZ (hw _ (List.mem_of_getElem? (i := 54) rfl)) (hw _ (List.mem_of_getElem? (i := 9) rfl)) (by decide) (by decide)) q6a q6c (g := (mkF m 73 #[.val (.int x0), .val (.int x1), .val (.int x2), .val (.int x3), .val (.int x4), .val (.int k), .val (.int lo), .val (.int hi), .val (.int mid), .val (.ref g), .val (.int (0 : Int32)), .val (.int (0 : Int32)), .unset, .unset] [(.int lo), (.ref g)])) rfl (by rw [hml]; rfl) (Steps.refl _) (argsL := [(.int lo)]) (rest := []) (lenOf pd_0_4 rfl) rfl (by show 2 * 0 + _ ≤ _; exact Nat.le_of_eq rfl) (hb hby at_73) (fun _ _ => ⟨rfl, e0, (by decide : 5 + 0 ≤ _), (by decide : 21 + 0 ≤ _)⟩)
  dsimp only [Pt.U, Pt.locs, Pt.cells, Pt.slots] at X6 l6 y6 z6 st6 hQ6
  subst l6 y6 z6
  obtain ⟨rfl, N6q, sz6, GI6⟩ := hQ6
  have N6 := Fr.app N0 N6q
  obtain ⟨cq7, kq7, q7a, q7b, q7c⟩ := isOf hZ rfl GI6.2.2.1
  obtain ⟨_, _, ⟨T7, L7, k7, n7⟩, -, X7, ⟨Lc7, hQ7, l7, y7, z7⟩, st7⟩ := X6.virtualBack hx (y := (⟨"com/example/harbinger/harbinger/broker/Group", "adopt", "(I)V"⟩ : MethodName)) (z := (⟨"com/example/harbinger/harbinger/broker/Group", "adopt", "(I)V"⟩ : MethodName)) hown (mvT hZ (hw _ (List.mem_of_getElem? (i := 50) rfl))) (mvT hZ (hw _ (List.mem_of_getElem? (i := 51) rfl))) (notFace_of_selects (args := #[]) (mvT hZ (hw _ (List.mem_of_getElem? (i := 53) rfl)))) (mvT hZ (hw _ (List.mem_of_getElem? (i := 53) rfl))) (mvT hZ (hw _ (List.mem_of_getElem? (i := 52) rfl))) (by decide) (backOf (W := 0) (rm6b l Z a0 hw [] g mid lo T6.heap n0 GI6.1 GI6) hZ (hw _ (List.mem_of_getElem? (i := 54) rfl)) (hw _ (List.mem_of_getElem? (i := 9) rfl)) (by decide) (by decide)) q7a q7c (g := (mkF m 100 #[.val (.int x0), .val (.int x1), .val (.int x2), .val (.int x3), .val (.int x4), .val (.int k), .val (.int lo), .val (.int hi), .val (.int mid), .val (.ref g), .val (.int (1 : Int32)), .val (.int lo), .unset, .unset] [(.int mid), (.ref g)])) rfl (by rw [hml]; rfl) (Steps.refl _) (argsL := [(.int mid)]) (rest := []) (lenOf pd_0_4 rfl) rfl (by show 2 * 0 + _ ≤ _; exact Nat.le_of_eq rfl) (hb hby at_100) (fun _ _ => ⟨rfl, rfl, (by decide : 5 + 1 ≤ _), (by decide : 21 + 2 ≤ _)⟩)
  dsimp only [Pt.U, Pt.locs, Pt.cells, Pt.slots] at X7 l7 y7 z7 st7 hQ7
  subst l7 y7 z7
  obtain ⟨rfl, N7q, sz7, GI7⟩ := hQ7
  have N7 := Fr.app N6 N7q
  refine OwnFin.step (fun t kt => ?_) (tailN x0 x1 x2 x3 x4 k lo hi mid g ((1 : Int32) + (1 : Int32)) mid (2 : Int32) (2 : Int32) [(.int lo), (.int mid)] (X7.more (by decide) (by decide)) hret hlk hx hZ hw hby hml hown hS (Nat.le_trans (Nat.le_trans hk0 sz6) sz7) rfl N7 GI7.1 GI7 ⟨by decide, by decide, rfl⟩ (by decide) (by decide))
  show Steps p.tables e below (T0.setTop (mkF m 63 #[.val (.int x0), .val (.int x1), .val (.int x2), .val (.int x3), .val (.int x4), .val (.int k), .val (.int lo), .val (.int hi), .val (.int mid), .val (.ref g), .val (.int (0 : Int32)), .val (.int (0 : Int32)), .unset, .unset] [])) _
  refine XS.iload X0.here hx rfl (hb hby at_63) rfl ?_
  show Steps p.tables e below (T0.setTop (mkF m 65 #[.val (.int x0), .val (.int x1), .val (.int x2), .val (.int x3), .val (.int x4), .val (.int k), .val (.int lo), .val (.int hi), .val (.int mid), .val (.ref g), .val (.int (0 : Int32)), .val (.int (0 : Int32)), .unset, .unset] [(.int k)])) _
  refine XS.iconst X0.here hx rfl (hb hby at_65) ?_
  show Steps p.tables e below (T0.setTop (mkF m 66 #[.val (.int x0), .val (.int x1), .val (.int x2), .val (.int x3), .val (.int x4), .val (.int k), .val (.int lo), .val (.int hi), .val (.int mid), .val (.ref g), .val (.int (0 : Int32)), .val (.int (0 : Int32)), .unset, .unset] [(.int (1 : Int32)), (.int k)])) _
  refine XS.icmpNo X0.here hx rfl (hb hby at_66) rfl (flt hc66).1 ?_
  show Steps p.tables e below (T0.setTop (mkF m 69 #[.val (.int x0), .val (.int x1), .val (.int x2), .val (.int x3), .val (.int x4), .val (.int k), .val (.int lo), .val (.int hi), .val (.int mid), .val (.ref g), .val (.int (0 : Int32)), .val (.int (0 : Int32)), .unset, .unset] [])) _
  refine XS.aload X0.here hx rfl (hb hby at_69) rfl rfl ?_
  show Steps p.tables e below (T0.setTop (mkF m 71 #[.val (.int x0), .val (.int x1), .val (.int x2), .val (.int x3), .val (.int x4), .val (.int k), .val (.int lo), .val (.int hi), .val (.int mid), .val (.ref g), .val (.int (0 : Int32)), .val (.int (0 : Int32)), .unset, .unset] [(.ref g)])) _
  refine XS.iload X0.here hx rfl (hb hby at_71) rfl ?_
  show Steps p.tables e below (T0.setTop (mkF m 73 #[.val (.int x0), .val (.int x1), .val (.int x2), .val (.int x3), .val (.int x4), .val (.int k), .val (.int lo), .val (.int hi), .val (.int mid), .val (.ref g), .val (.int (0 : Int32)), .val (.int (0 : Int32)), .unset, .unset] [(.int lo), (.ref g)])) _
  refine st6.trans ?_
  show Steps p.tables e below (T6.setTop (mkF m 76 #[.val (.int x0), .val (.int x1), .val (.int x2), .val (.int x3), .val (.int x4), .val (.int k), .val (.int lo), .val (.int hi), .val (.int mid), .val (.ref g), .val (.int (0 : Int32)), .val (.int (0 : Int32)), .unset, .unset] [])) _
  refine XS.iconst X6.here hx rfl (hb hby at_76) ?_
  show Steps p.tables e below (T6.setTop (mkF m 77 #[.val (.int x0), .val (.int x1), .val (.int x2), .val (.int x3), .val (.int x4), .val (.int k), .val (.int lo), .val (.int hi), .val (.int mid), .val (.ref g), .val (.int (0 : Int32)), .val (.int (0 : Int32)), .unset, .unset] [(.int (1 : Int32))])) _
  refine XS.istore X6.here hx rfl (hb hby at_77) rfl (l' := #[.val (.int x0), .val (.int x1), .val (.int x2), .val (.int x3), .val (.int x4), .val (.int k), .val (.int lo), .val (.int hi), .val (.int mid), .val (.ref g), .val (.int (1 : Int32)), .val (.int (0 : Int32)), .unset, .unset]) rfl ?_
  show Steps p.tables e below (T6.setTop (mkF m 79 #[.val (.int x0), .val (.int x1), .val (.int x2), .val (.int x3), .val (.int x4), .val (.int k), .val (.int lo), .val (.int hi), .val (.int mid), .val (.ref g), .val (.int (1 : Int32)), .val (.int (0 : Int32)), .unset, .unset] [])) _
  refine XS.iload X6.here hx rfl (hb hby at_79) rfl ?_
  show Steps p.tables e below (T6.setTop (mkF m 81 #[.val (.int x0), .val (.int x1), .val (.int x2), .val (.int x3), .val (.int x4), .val (.int k), .val (.int lo), .val (.int hi), .val (.int mid), .val (.ref g), .val (.int (1 : Int32)), .val (.int (0 : Int32)), .unset, .unset] [(.int lo)])) _
  refine XS.istore X6.here hx rfl (hb hby at_81) rfl (l' := #[.val (.int x0), .val (.int x1), .val (.int x2), .val (.int x3), .val (.int x4), .val (.int k), .val (.int lo), .val (.int hi), .val (.int mid), .val (.ref g), .val (.int (1 : Int32)), .val (.int lo), .unset, .unset]) rfl ?_
  show Steps p.tables e below (T6.setTop (mkF m 83 #[.val (.int x0), .val (.int x1), .val (.int x2), .val (.int x3), .val (.int x4), .val (.int k), .val (.int lo), .val (.int hi), .val (.int mid), .val (.ref g), .val (.int (1 : Int32)), .val (.int lo), .unset, .unset] [])) _
  refine XS.iload X6.here hx rfl (hb hby at_83) rfl ?_
  show Steps p.tables e below (T6.setTop (mkF m 85 #[.val (.int x0), .val (.int x1), .val (.int x2), .val (.int x3), .val (.int x4), .val (.int k), .val (.int lo), .val (.int hi), .val (.int mid), .val (.ref g), .val (.int (1 : Int32)), .val (.int lo), .unset, .unset] [(.int k)])) _
  refine XS.iconst X6.here hx rfl (hb hby at_85) ?_
  show Steps p.tables e below (T6.setTop (mkF m 86 #[.val (.int x0), .val (.int x1), .val (.int x2), .val (.int x3), .val (.int x4), .val (.int k), .val (.int lo), .val (.int hi), .val (.int mid), .val (.ref g), .val (.int (1 : Int32)), .val (.int lo), .unset, .unset] [(.int (2 : Int32)), (.int k)])) _
  refine XS.icmpNo X6.here hx rfl (hb hby at_86) rfl (flt hc86).1 ?_
  show Steps p.tables e below (T6.setTop (mkF m 89 #[.val (.int x0), .val (.int x1), .val (.int x2), .val (.int x3), .val (.int x4), .val (.int k), .val (.int lo), .val (.int hi), .val (.int mid), .val (.ref g), .val (.int (1 : Int32)), .val (.int lo), .unset, .unset] [])) _
  refine XS.iload X6.here hx rfl (hb hby at_89) rfl ?_
  show Steps p.tables e below (T6.setTop (mkF m 91 #[.val (.int x0), .val (.int x1), .val (.int x2), .val (.int x3), .val (.int x4), .val (.int k), .val (.int lo), .val (.int hi), .val (.int mid), .val (.ref g), .val (.int (1 : Int32)), .val (.int lo), .unset, .unset] [(.int mid)])) _
  refine XS.iload X6.here hx rfl (hb hby at_91) rfl ?_
  show Steps p.tables e below (T6.setTop (mkF m 93 #[.val (.int x0), .val (.int x1), .val (.int x2), .val (.int x3), .val (.int x4), .val (.int k), .val (.int lo), .val (.int hi), .val (.int mid), .val (.ref g), .val (.int (1 : Int32)), .val (.int lo), .unset, .unset] [(.int lo), (.int mid)])) _
  refine XS.icmpNo X6.here hx rfl (hb hby at_93) rfl (tlt hc93).2.2.2 ?_
  show Steps p.tables e below (T6.setTop (mkF m 96 #[.val (.int x0), .val (.int x1), .val (.int x2), .val (.int x3), .val (.int x4), .val (.int k), .val (.int lo), .val (.int hi), .val (.int mid), .val (.ref g), .val (.int (1 : Int32)), .val (.int lo), .unset, .unset] [])) _
  refine XS.aload X6.here hx rfl (hb hby at_96) rfl rfl ?_
  show Steps p.tables e below (T6.setTop (mkF m 98 #[.val (.int x0), .val (.int x1), .val (.int x2), .val (.int x3), .val (.int x4), .val (.int k), .val (.int lo), .val (.int hi), .val (.int mid), .val (.ref g), .val (.int (1 : Int32)), .val (.int lo), .unset, .unset] [(.ref g)])) _
  refine XS.iload X6.here hx rfl (hb hby at_98) rfl ?_
  show Steps p.tables e below (T6.setTop (mkF m 100 #[.val (.int x0), .val (.int x1), .val (.int x2), .val (.int x3), .val (.int x4), .val (.int k), .val (.int lo), .val (.int hi), .val (.int mid), .val (.ref g), .val (.int (1 : Int32)), .val (.int lo), .unset, .unset] [(.int mid), (.ref g)])) _
  refine st7.trans ?_
  show Steps p.tables e below (T7.setTop (mkF m 103 #[.val (.int x0), .val (.int x1), .val (.int x2), .val (.int x3), .val (.int x4), .val (.int k), .val (.int lo), .val (.int hi), .val (.int mid), .val (.ref g), .val (.int (1 : Int32)), .val (.int lo), .unset, .unset] [])) _
  refine XS.iload X7.here hx rfl (hb hby at_103) rfl ?_
  show Steps p.tables e below (T7.setTop (mkF m 105 #[.val (.int x0), .val (.int x1), .val (.int x2), .val (.int x3), .val (.int x4), .val (.int k), .val (.int lo), .val (.int hi), .val (.int mid), .val (.ref g), .val (.int (1 : Int32)), .val (.int lo), .unset, .unset] [(.int (1 : Int32))])) _
  refine XS.iconst X7.here hx rfl (hb hby at_105) ?_
  show Steps p.tables e below (T7.setTop (mkF m 106 #[.val (.int x0), .val (.int x1), .val (.int x2), .val (.int x3), .val (.int x4), .val (.int k), .val (.int lo), .val (.int hi), .val (.int mid), .val (.ref g), .val (.int (1 : Int32)), .val (.int lo), .unset, .unset] [(.int (1 : Int32)), (.int (1 : Int32))])) _
  refine XS.iadd X7.here hx rfl (hb hby at_106) rfl ?_
  show Steps p.tables e below (T7.setTop (mkF m 107 #[.val (.int x0), .val (.int x1), .val (.int x2), .val (.int x3), .val (.int x4), .val (.int k), .val (.int lo), .val (.int hi), .val (.int mid), .val (.ref g), .val (.int (1 : Int32)), .val (.int lo), .unset, .unset] [(.int ((1 : Int32) + (1 : Int32)))])) _
  refine XS.istore X7.here hx rfl (hb hby at_107) rfl (l' := #[.val (.int x0), .val (.int x1), .val (.int x2), .val (.int x3), .val (.int x4), .val (.int k), .val (.int lo), .val (.int hi), .val (.int mid), .val (.ref g), .val (.int ((1 : Int32) + (1 : Int32))), .val (.int lo), .unset, .unset]) rfl ?_
  show Steps p.tables e below (T7.setTop (mkF m 109 #[.val (.int x0), .val (.int x1), .val (.int x2), .val (.int x3), .val (.int x4), .val (.int k), .val (.int lo), .val (.int hi), .val (.int mid), .val (.ref g), .val (.int ((1 : Int32) + (1 : Int32))), .val (.int lo), .unset, .unset] [])) _
  refine XS.iload X7.here hx rfl (hb hby at_109) rfl ?_
  show Steps p.tables e below (T7.setTop (mkF m 111 #[.val (.int x0), .val (.int x1), .val (.int x2), .val (.int x3), .val (.int x4), .val (.int k), .val (.int lo), .val (.int hi), .val (.int mid), .val (.ref g), .val (.int ((1 : Int32) + (1 : Int32))), .val (.int lo), .unset, .unset] [(.int mid)])) _
  refine XS.istore X7.here hx rfl (hb hby at_111) rfl (l' := #[.val (.int x0), .val (.int x1), .val (.int x2), .val (.int x3), .val (.int x4), .val (.int k), .val (.int lo), .val (.int hi), .val (.int mid), .val (.ref g), .val (.int ((1 : Int32) + (1 : Int32))), .val (.int mid), .unset, .unset]) rfl ?_
  show Steps p.tables e below (T7.setTop (mkF m 113 #[.val (.int x0), .val (.int x1), .val (.int x2), .val (.int x3), .val (.int x4), .val (.int k), .val (.int lo), .val (.int hi), .val (.int mid), .val (.ref g), .val (.int ((1 : Int32) + (1 : Int32))), .val (.int mid), .unset, .unset] [])) _
  refine XS.iload X7.here hx rfl (hb hby at_113) rfl ?_
  show Steps p.tables e below (T7.setTop (mkF m 115 #[.val (.int x0), .val (.int x1), .val (.int x2), .val (.int x3), .val (.int x4), .val (.int k), .val (.int lo), .val (.int hi), .val (.int mid), .val (.ref g), .val (.int ((1 : Int32) + (1 : Int32))), .val (.int mid), .unset, .unset] [(.int k)])) _
  refine XS.iconst X7.here hx rfl (hb hby at_115) ?_
  show Steps p.tables e below (T7.setTop (mkF m 116 #[.val (.int x0), .val (.int x1), .val (.int x2), .val (.int x3), .val (.int x4), .val (.int k), .val (.int lo), .val (.int hi), .val (.int mid), .val (.ref g), .val (.int ((1 : Int32) + (1 : Int32))), .val (.int mid), .unset, .unset] [(.int (3 : Int32)), (.int k)])) _
  refine XS.icmpYes X7.here hx rfl (pc0 := 116) (pc' := 143) rfl (hb hby at_116) rfl (tlt hc116).1 (by decide) (by decide) ?_
  exact kt
set_option maxRecDepth 65536 in
set_option maxHeartbeats 40000000 in
theorem mid4 {p : Program} {l : Launch} {e : Env} {s : State} {m : MethodId} {args : Array Value} {below : List Frame} {meth : Method} {c : Code} {T0 : State} {locs : List Loc} {Z : State} {a0 : Array Value} {vm0 : Vm} {k0 : Nat} {h0 : Heap} {n0 : Nat} (x0 x1 x2 x3 x4 k lo hi mid : Int32) (g : Addr) (X0 : Stand p l e room_1 (s.setVm vm0) m args below meth c T0 locs 5 21) (hret : meth.sig.returnType = some .boolean) (hlk : meth.locks = false) (hx : p.tables.exec = Jvm.exec) (hZ : Z.Warmed39 (s.setVm vm0).vm) (hw : ∀ d ∈ tables_1, d.before a0 Z = true) (hby : c.code = code) (hml : c.maxLocals = 14) (hown : (s.setVm vm0).vm.findClass "com/example/harbinger/harbinger/broker/GroupPrecedesPinLaw" = some m.cls) (hS : s.Since vm0 k0) (hk0 : k0 ≤ h0.size) (e0 : T0.heap = h0) (N0 : Fr n0 locs) (Z0 : n0 ≤ h0.size) (GI0 : GI Z h0 n0 g (0 : Int32) (1 : Int32) [(.int (0 : Int32))]) (hc66 : ¬ (k < (1 : Int32))) (hc86 : ¬ (k < (2 : Int32))) (hc93 : ¬ (lo < mid)) (hc116 : ¬ (k < (3 : Int32))) (hc123 : ¬ (lo < hi)) :
    OwnFin p e below s n0 (T0.setTop (mkF m 63 #[.val (.int x0), .val (.int x1), .val (.int x2), .val (.int x3), .val (.int x4), .val (.int k), .val (.int lo), .val (.int hi), .val (.int mid), .val (.ref g), .val (.int (0 : Int32)), .val (.int (0 : Int32)), .unset, .unset] [])) := by
  obtain ⟨cq6, kq6, q6a, q6b, q6c⟩ := isOf hZ e0 GI0.2.2.1
  obtain ⟨_, _, ⟨T6, L6, k6, n6⟩, -, X6, ⟨Lc6, hQ6, l6, y6, z6⟩, st6⟩ := X0.virtualBack hx (y := (⟨"com/example/harbinger/harbinger/broker/Group", "adopt", "(I)V"⟩ : MethodName)) (z := (⟨"com/example/harbinger/harbinger/broker/Group", "adopt", "(I)V"⟩ : MethodName)) hown (mvT hZ (hw _ (List.mem_of_getElem? (i := 50) rfl))) (mvT hZ (hw _ (List.mem_of_getElem? (i := 51) rfl))) (notFace_of_selects (args := #[]) (mvT hZ (hw _ (List.mem_of_getElem? (i := 53) rfl)))) (mvT hZ (hw _ (List.mem_of_getElem? (i := 53) rfl))) (mvT hZ (hw _ (List.mem_of_getElem? (i := 52) rfl))) (by decide) (backOf (W := 0) (rm6a l Z a0 hw [] g lo (0 : Int32) h0 n0 Z0 GI0) hZ (hw _ (List.mem_of_getElem? (i := 54) rfl)) (hw _ (List.mem_of_getElem? (i := 9) rfl)) (by decide) (by decide)) q6a q6c (g := (mkF m 73 #[.val (.int x0), .val (.int x1), .val (.int x2), .val (.int x3), .val (.int x4), .val (.int k), .val (.int lo), .val (.int hi), .val (.int mid), .val (.ref g), .val (.int (0 : Int32)), .val (.int (0 : Int32)), .unset, .unset] [(.int lo), (.ref g)])) rfl (by rw [hml]; rfl) (Steps.refl _) (argsL := [(.int lo)]) (rest := []) (lenOf pd_0_4 rfl) rfl (by show 2 * 0 + _ ≤ _; exact Nat.le_of_eq rfl) (hb hby at_73) (fun _ _ => ⟨rfl, e0, (by decide : 5 + 0 ≤ _), (by decide : 21 + 0 ≤ _)⟩)
  dsimp only [Pt.U, Pt.locs, Pt.cells, Pt.slots] at X6 l6 y6 z6 st6 hQ6
  subst l6 y6 z6
  obtain ⟨rfl, N6q, sz6, GI6⟩ := hQ6
  have N6 := Fr.app N0 N6q
  refine OwnFin.step (fun t kt => ?_) (tailN x0 x1 x2 x3 x4 k lo hi mid g (1 : Int32) lo (1 : Int32) (1 : Int32) [(.int lo)] (X6.more (by decide) (by decide)) hret hlk hx hZ hw hby hml hown hS (Nat.le_trans hk0 sz6) rfl N6 GI6.1 GI6 ⟨by decide, by decide, rfl⟩ (by decide) (by decide))
  show Steps p.tables e below (T0.setTop (mkF m 63 #[.val (.int x0), .val (.int x1), .val (.int x2), .val (.int x3), .val (.int x4), .val (.int k), .val (.int lo), .val (.int hi), .val (.int mid), .val (.ref g), .val (.int (0 : Int32)), .val (.int (0 : Int32)), .unset, .unset] [])) _
  refine XS.iload X0.here hx rfl (hb hby at_63) rfl ?_
  show Steps p.tables e below (T0.setTop (mkF m 65 #[.val (.int x0), .val (.int x1), .val (.int x2), .val (.int x3), .val (.int x4), .val (.int k), .val (.int lo), .val (.int hi), .val (.int mid), .val (.ref g), .val (.int (0 : Int32)), .val (.int (0 : Int32)), .unset, .unset] [(.int k)])) _
  refine XS.iconst X0.here hx rfl (hb hby at_65) ?_
  show Steps p.tables e below (T0.setTop (mkF m 66 #[.val (.int x0), .val (.int x1), .val (.int x2), .val (.int x3), .val (.int x4), .val (.int k), .val (.int lo), .val (.int hi), .val (.int mid), .val (.ref g), .val (.int (0 : Int32)), .val (.int (0 : Int32)), .unset, .unset] [(.int (1 : Int32)), (.int k)])) _
  refine XS.icmpNo X0.here hx rfl (hb hby at_66) rfl (flt hc66).1 ?_
  show Steps p.tables e below (T0.setTop (mkF m 69 #[.val (.int x0), .val (.int x1), .val (.int x2), .val (.int x3), .val (.int x4), .val (.int k), .val (.int lo), .val (.int hi), .val (.int mid), .val (.ref g), .val (.int (0 : Int32)), .val (.int (0 : Int32)), .unset, .unset] [])) _
  refine XS.aload X0.here hx rfl (hb hby at_69) rfl rfl ?_
  show Steps p.tables e below (T0.setTop (mkF m 71 #[.val (.int x0), .val (.int x1), .val (.int x2), .val (.int x3), .val (.int x4), .val (.int k), .val (.int lo), .val (.int hi), .val (.int mid), .val (.ref g), .val (.int (0 : Int32)), .val (.int (0 : Int32)), .unset, .unset] [(.ref g)])) _
  refine XS.iload X0.here hx rfl (hb hby at_71) rfl ?_
  show Steps p.tables e below (T0.setTop (mkF m 73 #[.val (.int x0), .val (.int x1), .val (.int x2), .val (.int x3), .val (.int x4), .val (.int k), .val (.int lo), .val (.int hi), .val (.int mid), .val (.ref g), .val (.int (0 : Int32)), .val (.int (0 : Int32)), .unset, .unset] [(.int lo), (.ref g)])) _
  refine st6.trans ?_
  show Steps p.tables e below (T6.setTop (mkF m 76 #[.val (.int x0), .val (.int x1), .val (.int x2), .val (.int x3), .val (.int x4), .val (.int k), .val (.int lo), .val (.int hi), .val (.int mid), .val (.ref g), .val (.int (0 : Int32)), .val (.int (0 : Int32)), .unset, .unset] [])) _
  refine XS.iconst X6.here hx rfl (hb hby at_76) ?_
  show Steps p.tables e below (T6.setTop (mkF m 77 #[.val (.int x0), .val (.int x1), .val (.int x2), .val (.int x3), .val (.int x4), .val (.int k), .val (.int lo), .val (.int hi), .val (.int mid), .val (.ref g), .val (.int (0 : Int32)), .val (.int (0 : Int32)), .unset, .unset] [(.int (1 : Int32))])) _
  refine XS.istore X6.here hx rfl (hb hby at_77) rfl (l' := #[.val (.int x0), .val (.int x1), .val (.int x2), .val (.int x3), .val (.int x4), .val (.int k), .val (.int lo), .val (.int hi), .val (.int mid), .val (.ref g), .val (.int (1 : Int32)), .val (.int (0 : Int32)), .unset, .unset]) rfl ?_
  show Steps p.tables e below (T6.setTop (mkF m 79 #[.val (.int x0), .val (.int x1), .val (.int x2), .val (.int x3), .val (.int x4), .val (.int k), .val (.int lo), .val (.int hi), .val (.int mid), .val (.ref g), .val (.int (1 : Int32)), .val (.int (0 : Int32)), .unset, .unset] [])) _
  refine XS.iload X6.here hx rfl (hb hby at_79) rfl ?_
  show Steps p.tables e below (T6.setTop (mkF m 81 #[.val (.int x0), .val (.int x1), .val (.int x2), .val (.int x3), .val (.int x4), .val (.int k), .val (.int lo), .val (.int hi), .val (.int mid), .val (.ref g), .val (.int (1 : Int32)), .val (.int (0 : Int32)), .unset, .unset] [(.int lo)])) _
  refine XS.istore X6.here hx rfl (hb hby at_81) rfl (l' := #[.val (.int x0), .val (.int x1), .val (.int x2), .val (.int x3), .val (.int x4), .val (.int k), .val (.int lo), .val (.int hi), .val (.int mid), .val (.ref g), .val (.int (1 : Int32)), .val (.int lo), .unset, .unset]) rfl ?_
  show Steps p.tables e below (T6.setTop (mkF m 83 #[.val (.int x0), .val (.int x1), .val (.int x2), .val (.int x3), .val (.int x4), .val (.int k), .val (.int lo), .val (.int hi), .val (.int mid), .val (.ref g), .val (.int (1 : Int32)), .val (.int lo), .unset, .unset] [])) _
  refine XS.iload X6.here hx rfl (hb hby at_83) rfl ?_
  show Steps p.tables e below (T6.setTop (mkF m 85 #[.val (.int x0), .val (.int x1), .val (.int x2), .val (.int x3), .val (.int x4), .val (.int k), .val (.int lo), .val (.int hi), .val (.int mid), .val (.ref g), .val (.int (1 : Int32)), .val (.int lo), .unset, .unset] [(.int k)])) _
  refine XS.iconst X6.here hx rfl (hb hby at_85) ?_
  show Steps p.tables e below (T6.setTop (mkF m 86 #[.val (.int x0), .val (.int x1), .val (.int x2), .val (.int x3), .val (.int x4), .val (.int k), .val (.int lo), .val (.int hi), .val (.int mid), .val (.ref g), .val (.int (1 : Int32)), .val (.int lo), .unset, .unset] [(.int (2 : Int32)), (.int k)])) _
  refine XS.icmpNo X6.here hx rfl (hb hby at_86) rfl (flt hc86).1 ?_
  show Steps p.tables e below (T6.setTop (mkF m 89 #[.val (.int x0), .val (.int x1), .val (.int x2), .val (.int x3), .val (.int x4), .val (.int k), .val (.int lo), .val (.int hi), .val (.int mid), .val (.ref g), .val (.int (1 : Int32)), .val (.int lo), .unset, .unset] [])) _
  refine XS.iload X6.here hx rfl (hb hby at_89) rfl ?_
  show Steps p.tables e below (T6.setTop (mkF m 91 #[.val (.int x0), .val (.int x1), .val (.int x2), .val (.int x3), .val (.int x4), .val (.int k), .val (.int lo), .val (.int hi), .val (.int mid), .val (.ref g), .val (.int (1 : Int32)), .val (.int lo), .unset, .unset] [(.int mid)])) _
  refine XS.iload X6.here hx rfl (hb hby at_91) rfl ?_
  show Steps p.tables e below (T6.setTop (mkF m 93 #[.val (.int x0), .val (.int x1), .val (.int x2), .val (.int x3), .val (.int x4), .val (.int k), .val (.int lo), .val (.int hi), .val (.int mid), .val (.ref g), .val (.int (1 : Int32)), .val (.int lo), .unset, .unset] [(.int lo), (.int mid)])) _
  refine XS.icmpYes X6.here hx rfl (pc0 := 93) (pc' := 113) rfl (hb hby at_93) rfl (flt hc93).2.2.2 (by decide) (by decide) ?_
  show Steps p.tables e below (T6.setTop (mkF m 113 #[.val (.int x0), .val (.int x1), .val (.int x2), .val (.int x3), .val (.int x4), .val (.int k), .val (.int lo), .val (.int hi), .val (.int mid), .val (.ref g), .val (.int (1 : Int32)), .val (.int lo), .unset, .unset] [])) _
  refine XS.iload X6.here hx rfl (hb hby at_113) rfl ?_
  show Steps p.tables e below (T6.setTop (mkF m 115 #[.val (.int x0), .val (.int x1), .val (.int x2), .val (.int x3), .val (.int x4), .val (.int k), .val (.int lo), .val (.int hi), .val (.int mid), .val (.ref g), .val (.int (1 : Int32)), .val (.int lo), .unset, .unset] [(.int k)])) _
  refine XS.iconst X6.here hx rfl (hb hby at_115) ?_
  show Steps p.tables e below (T6.setTop (mkF m 116 #[.val (.int x0), .val (.int x1), .val (.int x2), .val (.int x3), .val (.int x4), .val (.int k), .val (.int lo), .val (.int hi), .val (.int mid), .val (.ref g), .val (.int (1 : Int32)), .val (.int lo), .unset, .unset] [(.int (3 : Int32)), (.int k)])) _
  refine XS.icmpNo X6.here hx rfl (hb hby at_116) rfl (flt hc116).1 ?_
  show Steps p.tables e below (T6.setTop (mkF m 119 #[.val (.int x0), .val (.int x1), .val (.int x2), .val (.int x3), .val (.int x4), .val (.int k), .val (.int lo), .val (.int hi), .val (.int mid), .val (.ref g), .val (.int (1 : Int32)), .val (.int lo), .unset, .unset] [])) _
  refine XS.iload X6.here hx rfl (hb hby at_119) rfl ?_
  show Steps p.tables e below (T6.setTop (mkF m 121 #[.val (.int x0), .val (.int x1), .val (.int x2), .val (.int x3), .val (.int x4), .val (.int k), .val (.int lo), .val (.int hi), .val (.int mid), .val (.ref g), .val (.int (1 : Int32)), .val (.int lo), .unset, .unset] [(.int hi)])) _
  refine XS.iload X6.here hx rfl (hb hby at_121) rfl ?_
  show Steps p.tables e below (T6.setTop (mkF m 123 #[.val (.int x0), .val (.int x1), .val (.int x2), .val (.int x3), .val (.int x4), .val (.int k), .val (.int lo), .val (.int hi), .val (.int mid), .val (.ref g), .val (.int (1 : Int32)), .val (.int lo), .unset, .unset] [(.int lo), (.int hi)])) _
  refine XS.icmpYes X6.here hx rfl (pc0 := 123) (pc' := 143) rfl (hb hby at_123) rfl (flt hc123).2.2.2 (by decide) (by decide) ?_
  exact kt
set_option maxRecDepth 65536 in
set_option maxHeartbeats 40000000 in
theorem mid5 {p : Program} {l : Launch} {e : Env} {s : State} {m : MethodId} {args : Array Value} {below : List Frame} {meth : Method} {c : Code} {T0 : State} {locs : List Loc} {Z : State} {a0 : Array Value} {vm0 : Vm} {k0 : Nat} {h0 : Heap} {n0 : Nat} (x0 x1 x2 x3 x4 k lo hi mid : Int32) (g : Addr) (X0 : Stand p l e room_1 (s.setVm vm0) m args below meth c T0 locs 5 21) (hret : meth.sig.returnType = some .boolean) (hlk : meth.locks = false) (hx : p.tables.exec = Jvm.exec) (hZ : Z.Warmed39 (s.setVm vm0).vm) (hw : ∀ d ∈ tables_1, d.before a0 Z = true) (hby : c.code = code) (hml : c.maxLocals = 14) (hown : (s.setVm vm0).vm.findClass "com/example/harbinger/harbinger/broker/GroupPrecedesPinLaw" = some m.cls) (hS : s.Since vm0 k0) (hk0 : k0 ≤ h0.size) (e0 : T0.heap = h0) (N0 : Fr n0 locs) (Z0 : n0 ≤ h0.size) (GI0 : GI Z h0 n0 g (0 : Int32) (1 : Int32) [(.int (0 : Int32))]) (hc66 : ¬ (k < (1 : Int32))) (hc86 : ¬ (k < (2 : Int32))) (hc93 : ¬ (lo < mid)) (hc116 : ¬ (k < (3 : Int32))) (hc123 : lo < hi) :
    OwnFin p e below s n0 (T0.setTop (mkF m 63 #[.val (.int x0), .val (.int x1), .val (.int x2), .val (.int x3), .val (.int x4), .val (.int k), .val (.int lo), .val (.int hi), .val (.int mid), .val (.ref g), .val (.int (0 : Int32)), .val (.int (0 : Int32)), .unset, .unset] [])) := by
  obtain ⟨cq6, kq6, q6a, q6b, q6c⟩ := isOf hZ e0 GI0.2.2.1
  obtain ⟨_, _, ⟨T6, L6, k6, n6⟩, -, X6, ⟨Lc6, hQ6, l6, y6, z6⟩, st6⟩ := X0.virtualBack hx (y := (⟨"com/example/harbinger/harbinger/broker/Group", "adopt", "(I)V"⟩ : MethodName)) (z := (⟨"com/example/harbinger/harbinger/broker/Group", "adopt", "(I)V"⟩ : MethodName)) hown (mvT hZ (hw _ (List.mem_of_getElem? (i := 50) rfl))) (mvT hZ (hw _ (List.mem_of_getElem? (i := 51) rfl))) (notFace_of_selects (args := #[]) (mvT hZ (hw _ (List.mem_of_getElem? (i := 53) rfl)))) (mvT hZ (hw _ (List.mem_of_getElem? (i := 53) rfl))) (mvT hZ (hw _ (List.mem_of_getElem? (i := 52) rfl))) (by decide) (backOf (W := 0) (rm6a l Z a0 hw [] g lo (0 : Int32) h0 n0 Z0 GI0) hZ (hw _ (List.mem_of_getElem? (i := 54) rfl)) (hw _ (List.mem_of_getElem? (i := 9) rfl)) (by decide) (by decide)) q6a q6c (g := (mkF m 73 #[.val (.int x0), .val (.int x1), .val (.int x2), .val (.int x3), .val (.int x4), .val (.int k), .val (.int lo), .val (.int hi), .val (.int mid), .val (.ref g), .val (.int (0 : Int32)), .val (.int (0 : Int32)), .unset, .unset] [(.int lo), (.ref g)])) rfl (by rw [hml]; rfl) (Steps.refl _) (argsL := [(.int lo)]) (rest := []) (lenOf pd_0_4 rfl) rfl (by show 2 * 0 + _ ≤ _; exact Nat.le_of_eq rfl) (hb hby at_73) (fun _ _ => ⟨rfl, e0, (by decide : 5 + 0 ≤ _), (by decide : 21 + 0 ≤ _)⟩)
  dsimp only [Pt.U, Pt.locs, Pt.cells, Pt.slots] at X6 l6 y6 z6 st6 hQ6
  subst l6 y6 z6
  obtain ⟨rfl, N6q, sz6, GI6⟩ := hQ6
  have N6 := Fr.app N0 N6q
  obtain ⟨cq7, kq7, q7a, q7b, q7c⟩ := isOf hZ rfl GI6.2.2.1
  obtain ⟨_, _, ⟨T7, L7, k7, n7⟩, -, X7, ⟨Lc7, hQ7, l7, y7, z7⟩, st7⟩ := X6.virtualBack hx (y := (⟨"com/example/harbinger/harbinger/broker/Group", "adopt", "(I)V"⟩ : MethodName)) (z := (⟨"com/example/harbinger/harbinger/broker/Group", "adopt", "(I)V"⟩ : MethodName)) hown (mvT hZ (hw _ (List.mem_of_getElem? (i := 50) rfl))) (mvT hZ (hw _ (List.mem_of_getElem? (i := 51) rfl))) (notFace_of_selects (args := #[]) (mvT hZ (hw _ (List.mem_of_getElem? (i := 53) rfl)))) (mvT hZ (hw _ (List.mem_of_getElem? (i := 53) rfl))) (mvT hZ (hw _ (List.mem_of_getElem? (i := 52) rfl))) (by decide) (backOf (W := 0) (rm6b l Z a0 hw [] g hi lo T6.heap n0 GI6.1 GI6) hZ (hw _ (List.mem_of_getElem? (i := 54) rfl)) (hw _ (List.mem_of_getElem? (i := 9) rfl)) (by decide) (by decide)) q7a q7c (g := (mkF m 130 #[.val (.int x0), .val (.int x1), .val (.int x2), .val (.int x3), .val (.int x4), .val (.int k), .val (.int lo), .val (.int hi), .val (.int mid), .val (.ref g), .val (.int (1 : Int32)), .val (.int lo), .unset, .unset] [(.int hi), (.ref g)])) rfl (by rw [hml]; rfl) (Steps.refl _) (argsL := [(.int hi)]) (rest := []) (lenOf pd_0_4 rfl) rfl (by show 2 * 0 + _ ≤ _; exact Nat.le_of_eq rfl) (hb hby at_130) (fun _ _ => ⟨rfl, rfl, (by decide : 5 + 1 ≤ _), (by decide : 21 + 2 ≤ _)⟩)
  dsimp only [Pt.U, Pt.locs, Pt.cells, Pt.slots] at X7 l7 y7 z7 st7 hQ7
  subst l7 y7 z7
  obtain ⟨rfl, N7q, sz7, GI7⟩ := hQ7
  have N7 := Fr.app N6 N7q
  refine OwnFin.step (fun t kt => ?_) (tailN x0 x1 x2 x3 x4 k lo hi mid g ((1 : Int32) + (1 : Int32)) hi (2 : Int32) (2 : Int32) [(.int lo), (.int hi)] (X7.more (by decide) (by decide)) hret hlk hx hZ hw hby hml hown hS (Nat.le_trans (Nat.le_trans hk0 sz6) sz7) rfl N7 GI7.1 GI7 ⟨by decide, by decide, rfl⟩ (by decide) (by decide))
  show Steps p.tables e below (T0.setTop (mkF m 63 #[.val (.int x0), .val (.int x1), .val (.int x2), .val (.int x3), .val (.int x4), .val (.int k), .val (.int lo), .val (.int hi), .val (.int mid), .val (.ref g), .val (.int (0 : Int32)), .val (.int (0 : Int32)), .unset, .unset] [])) _
  refine XS.iload X0.here hx rfl (hb hby at_63) rfl ?_
  show Steps p.tables e below (T0.setTop (mkF m 65 #[.val (.int x0), .val (.int x1), .val (.int x2), .val (.int x3), .val (.int x4), .val (.int k), .val (.int lo), .val (.int hi), .val (.int mid), .val (.ref g), .val (.int (0 : Int32)), .val (.int (0 : Int32)), .unset, .unset] [(.int k)])) _
  refine XS.iconst X0.here hx rfl (hb hby at_65) ?_
  show Steps p.tables e below (T0.setTop (mkF m 66 #[.val (.int x0), .val (.int x1), .val (.int x2), .val (.int x3), .val (.int x4), .val (.int k), .val (.int lo), .val (.int hi), .val (.int mid), .val (.ref g), .val (.int (0 : Int32)), .val (.int (0 : Int32)), .unset, .unset] [(.int (1 : Int32)), (.int k)])) _
  refine XS.icmpNo X0.here hx rfl (hb hby at_66) rfl (flt hc66).1 ?_
  show Steps p.tables e below (T0.setTop (mkF m 69 #[.val (.int x0), .val (.int x1), .val (.int x2), .val (.int x3), .val (.int x4), .val (.int k), .val (.int lo), .val (.int hi), .val (.int mid), .val (.ref g), .val (.int (0 : Int32)), .val (.int (0 : Int32)), .unset, .unset] [])) _
  refine XS.aload X0.here hx rfl (hb hby at_69) rfl rfl ?_
  show Steps p.tables e below (T0.setTop (mkF m 71 #[.val (.int x0), .val (.int x1), .val (.int x2), .val (.int x3), .val (.int x4), .val (.int k), .val (.int lo), .val (.int hi), .val (.int mid), .val (.ref g), .val (.int (0 : Int32)), .val (.int (0 : Int32)), .unset, .unset] [(.ref g)])) _
  refine XS.iload X0.here hx rfl (hb hby at_71) rfl ?_
  show Steps p.tables e below (T0.setTop (mkF m 73 #[.val (.int x0), .val (.int x1), .val (.int x2), .val (.int x3), .val (.int x4), .val (.int k), .val (.int lo), .val (.int hi), .val (.int mid), .val (.ref g), .val (.int (0 : Int32)), .val (.int (0 : Int32)), .unset, .unset] [(.int lo), (.ref g)])) _
  refine st6.trans ?_
  show Steps p.tables e below (T6.setTop (mkF m 76 #[.val (.int x0), .val (.int x1), .val (.int x2), .val (.int x3), .val (.int x4), .val (.int k), .val (.int lo), .val (.int hi), .val (.int mid), .val (.ref g), .val (.int (0 : Int32)), .val (.int (0 : Int32)), .unset, .unset] [])) _
  refine XS.iconst X6.here hx rfl (hb hby at_76) ?_
  show Steps p.tables e below (T6.setTop (mkF m 77 #[.val (.int x0), .val (.int x1), .val (.int x2), .val (.int x3), .val (.int x4), .val (.int k), .val (.int lo), .val (.int hi), .val (.int mid), .val (.ref g), .val (.int (0 : Int32)), .val (.int (0 : Int32)), .unset, .unset] [(.int (1 : Int32))])) _
  refine XS.istore X6.here hx rfl (hb hby at_77) rfl (l' := #[.val (.int x0), .val (.int x1), .val (.int x2), .val (.int x3), .val (.int x4), .val (.int k), .val (.int lo), .val (.int hi), .val (.int mid), .val (.ref g), .val (.int (1 : Int32)), .val (.int (0 : Int32)), .unset, .unset]) rfl ?_
  show Steps p.tables e below (T6.setTop (mkF m 79 #[.val (.int x0), .val (.int x1), .val (.int x2), .val (.int x3), .val (.int x4), .val (.int k), .val (.int lo), .val (.int hi), .val (.int mid), .val (.ref g), .val (.int (1 : Int32)), .val (.int (0 : Int32)), .unset, .unset] [])) _
  refine XS.iload X6.here hx rfl (hb hby at_79) rfl ?_
  show Steps p.tables e below (T6.setTop (mkF m 81 #[.val (.int x0), .val (.int x1), .val (.int x2), .val (.int x3), .val (.int x4), .val (.int k), .val (.int lo), .val (.int hi), .val (.int mid), .val (.ref g), .val (.int (1 : Int32)), .val (.int (0 : Int32)), .unset, .unset] [(.int lo)])) _
  refine XS.istore X6.here hx rfl (hb hby at_81) rfl (l' := #[.val (.int x0), .val (.int x1), .val (.int x2), .val (.int x3), .val (.int x4), .val (.int k), .val (.int lo), .val (.int hi), .val (.int mid), .val (.ref g), .val (.int (1 : Int32)), .val (.int lo), .unset, .unset]) rfl ?_
  show Steps p.tables e below (T6.setTop (mkF m 83 #[.val (.int x0), .val (.int x1), .val (.int x2), .val (.int x3), .val (.int x4), .val (.int k), .val (.int lo), .val (.int hi), .val (.int mid), .val (.ref g), .val (.int (1 : Int32)), .val (.int lo), .unset, .unset] [])) _
  refine XS.iload X6.here hx rfl (hb hby at_83) rfl ?_
  show Steps p.tables e below (T6.setTop (mkF m 85 #[.val (.int x0), .val (.int x1), .val (.int x2), .val (.int x3), .val (.int x4), .val (.int k), .val (.int lo), .val (.int hi), .val (.int mid), .val (.ref g), .val (.int (1 : Int32)), .val (.int lo), .unset, .unset] [(.int k)])) _
  refine XS.iconst X6.here hx rfl (hb hby at_85) ?_
  show Steps p.tables e below (T6.setTop (mkF m 86 #[.val (.int x0), .val (.int x1), .val (.int x2), .val (.int x3), .val (.int x4), .val (.int k), .val (.int lo), .val (.int hi), .val (.int mid), .val (.ref g), .val (.int (1 : Int32)), .val (.int lo), .unset, .unset] [(.int (2 : Int32)), (.int k)])) _
  refine XS.icmpNo X6.here hx rfl (hb hby at_86) rfl (flt hc86).1 ?_
  show Steps p.tables e below (T6.setTop (mkF m 89 #[.val (.int x0), .val (.int x1), .val (.int x2), .val (.int x3), .val (.int x4), .val (.int k), .val (.int lo), .val (.int hi), .val (.int mid), .val (.ref g), .val (.int (1 : Int32)), .val (.int lo), .unset, .unset] [])) _
  refine XS.iload X6.here hx rfl (hb hby at_89) rfl ?_
  show Steps p.tables e below (T6.setTop (mkF m 91 #[.val (.int x0), .val (.int x1), .val (.int x2), .val (.int x3), .val (.int x4), .val (.int k), .val (.int lo), .val (.int hi), .val (.int mid), .val (.ref g), .val (.int (1 : Int32)), .val (.int lo), .unset, .unset] [(.int mid)])) _
  refine XS.iload X6.here hx rfl (hb hby at_91) rfl ?_
  show Steps p.tables e below (T6.setTop (mkF m 93 #[.val (.int x0), .val (.int x1), .val (.int x2), .val (.int x3), .val (.int x4), .val (.int k), .val (.int lo), .val (.int hi), .val (.int mid), .val (.ref g), .val (.int (1 : Int32)), .val (.int lo), .unset, .unset] [(.int lo), (.int mid)])) _
  refine XS.icmpYes X6.here hx rfl (pc0 := 93) (pc' := 113) rfl (hb hby at_93) rfl (flt hc93).2.2.2 (by decide) (by decide) ?_
  show Steps p.tables e below (T6.setTop (mkF m 113 #[.val (.int x0), .val (.int x1), .val (.int x2), .val (.int x3), .val (.int x4), .val (.int k), .val (.int lo), .val (.int hi), .val (.int mid), .val (.ref g), .val (.int (1 : Int32)), .val (.int lo), .unset, .unset] [])) _
  refine XS.iload X6.here hx rfl (hb hby at_113) rfl ?_
  show Steps p.tables e below (T6.setTop (mkF m 115 #[.val (.int x0), .val (.int x1), .val (.int x2), .val (.int x3), .val (.int x4), .val (.int k), .val (.int lo), .val (.int hi), .val (.int mid), .val (.ref g), .val (.int (1 : Int32)), .val (.int lo), .unset, .unset] [(.int k)])) _
  refine XS.iconst X6.here hx rfl (hb hby at_115) ?_
  show Steps p.tables e below (T6.setTop (mkF m 116 #[.val (.int x0), .val (.int x1), .val (.int x2), .val (.int x3), .val (.int x4), .val (.int k), .val (.int lo), .val (.int hi), .val (.int mid), .val (.ref g), .val (.int (1 : Int32)), .val (.int lo), .unset, .unset] [(.int (3 : Int32)), (.int k)])) _
  refine XS.icmpNo X6.here hx rfl (hb hby at_116) rfl (flt hc116).1 ?_
  show Steps p.tables e below (T6.setTop (mkF m 119 #[.val (.int x0), .val (.int x1), .val (.int x2), .val (.int x3), .val (.int x4), .val (.int k), .val (.int lo), .val (.int hi), .val (.int mid), .val (.ref g), .val (.int (1 : Int32)), .val (.int lo), .unset, .unset] [])) _
  refine XS.iload X6.here hx rfl (hb hby at_119) rfl ?_
  show Steps p.tables e below (T6.setTop (mkF m 121 #[.val (.int x0), .val (.int x1), .val (.int x2), .val (.int x3), .val (.int x4), .val (.int k), .val (.int lo), .val (.int hi), .val (.int mid), .val (.ref g), .val (.int (1 : Int32)), .val (.int lo), .unset, .unset] [(.int hi)])) _
  refine XS.iload X6.here hx rfl (hb hby at_121) rfl ?_
  show Steps p.tables e below (T6.setTop (mkF m 123 #[.val (.int x0), .val (.int x1), .val (.int x2), .val (.int x3), .val (.int x4), .val (.int k), .val (.int lo), .val (.int hi), .val (.int mid), .val (.ref g), .val (.int (1 : Int32)), .val (.int lo), .unset, .unset] [(.int lo), (.int hi)])) _
  refine XS.icmpNo X6.here hx rfl (hb hby at_123) rfl (tlt hc123).2.2.2 ?_
  show Steps p.tables e below (T6.setTop (mkF m 126 #[.val (.int x0), .val (.int x1), .val (.int x2), .val (.int x3), .val (.int x4), .val (.int k), .val (.int lo), .val (.int hi), .val (.int mid), .val (.ref g), .val (.int (1 : Int32)), .val (.int lo), .unset, .unset] [])) _
  refine XS.aload X6.here hx rfl (hb hby at_126) rfl rfl ?_
  show Steps p.tables e below (T6.setTop (mkF m 128 #[.val (.int x0), .val (.int x1), .val (.int x2), .val (.int x3), .val (.int x4), .val (.int k), .val (.int lo), .val (.int hi), .val (.int mid), .val (.ref g), .val (.int (1 : Int32)), .val (.int lo), .unset, .unset] [(.ref g)])) _
  refine XS.iload X6.here hx rfl (hb hby at_128) rfl ?_
  show Steps p.tables e below (T6.setTop (mkF m 130 #[.val (.int x0), .val (.int x1), .val (.int x2), .val (.int x3), .val (.int x4), .val (.int k), .val (.int lo), .val (.int hi), .val (.int mid), .val (.ref g), .val (.int (1 : Int32)), .val (.int lo), .unset, .unset] [(.int hi), (.ref g)])) _
  refine st7.trans ?_
  show Steps p.tables e below (T7.setTop (mkF m 133 #[.val (.int x0), .val (.int x1), .val (.int x2), .val (.int x3), .val (.int x4), .val (.int k), .val (.int lo), .val (.int hi), .val (.int mid), .val (.ref g), .val (.int (1 : Int32)), .val (.int lo), .unset, .unset] [])) _
  refine XS.iload X7.here hx rfl (hb hby at_133) rfl ?_
  show Steps p.tables e below (T7.setTop (mkF m 135 #[.val (.int x0), .val (.int x1), .val (.int x2), .val (.int x3), .val (.int x4), .val (.int k), .val (.int lo), .val (.int hi), .val (.int mid), .val (.ref g), .val (.int (1 : Int32)), .val (.int lo), .unset, .unset] [(.int (1 : Int32))])) _
  refine XS.iconst X7.here hx rfl (hb hby at_135) ?_
  show Steps p.tables e below (T7.setTop (mkF m 136 #[.val (.int x0), .val (.int x1), .val (.int x2), .val (.int x3), .val (.int x4), .val (.int k), .val (.int lo), .val (.int hi), .val (.int mid), .val (.ref g), .val (.int (1 : Int32)), .val (.int lo), .unset, .unset] [(.int (1 : Int32)), (.int (1 : Int32))])) _
  refine XS.iadd X7.here hx rfl (hb hby at_136) rfl ?_
  show Steps p.tables e below (T7.setTop (mkF m 137 #[.val (.int x0), .val (.int x1), .val (.int x2), .val (.int x3), .val (.int x4), .val (.int k), .val (.int lo), .val (.int hi), .val (.int mid), .val (.ref g), .val (.int (1 : Int32)), .val (.int lo), .unset, .unset] [(.int ((1 : Int32) + (1 : Int32)))])) _
  refine XS.istore X7.here hx rfl (hb hby at_137) rfl (l' := #[.val (.int x0), .val (.int x1), .val (.int x2), .val (.int x3), .val (.int x4), .val (.int k), .val (.int lo), .val (.int hi), .val (.int mid), .val (.ref g), .val (.int ((1 : Int32) + (1 : Int32))), .val (.int lo), .unset, .unset]) rfl ?_
  show Steps p.tables e below (T7.setTop (mkF m 139 #[.val (.int x0), .val (.int x1), .val (.int x2), .val (.int x3), .val (.int x4), .val (.int k), .val (.int lo), .val (.int hi), .val (.int mid), .val (.ref g), .val (.int ((1 : Int32) + (1 : Int32))), .val (.int lo), .unset, .unset] [])) _
  refine XS.iload X7.here hx rfl (hb hby at_139) rfl ?_
  show Steps p.tables e below (T7.setTop (mkF m 141 #[.val (.int x0), .val (.int x1), .val (.int x2), .val (.int x3), .val (.int x4), .val (.int k), .val (.int lo), .val (.int hi), .val (.int mid), .val (.ref g), .val (.int ((1 : Int32) + (1 : Int32))), .val (.int lo), .unset, .unset] [(.int hi)])) _
  refine XS.istore X7.here hx rfl (hb hby at_141) rfl (l' := #[.val (.int x0), .val (.int x1), .val (.int x2), .val (.int x3), .val (.int x4), .val (.int k), .val (.int lo), .val (.int hi), .val (.int mid), .val (.ref g), .val (.int ((1 : Int32) + (1 : Int32))), .val (.int hi), .unset, .unset]) rfl ?_
  exact kt
set_option maxRecDepth 65536 in
set_option maxHeartbeats 40000000 in
theorem mid6 {p : Program} {l : Launch} {e : Env} {s : State} {m : MethodId} {args : Array Value} {below : List Frame} {meth : Method} {c : Code} {T0 : State} {locs : List Loc} {Z : State} {a0 : Array Value} {vm0 : Vm} {k0 : Nat} {h0 : Heap} {n0 : Nat} (x0 x1 x2 x3 x4 k lo hi mid : Int32) (g : Addr) (X0 : Stand p l e room_1 (s.setVm vm0) m args below meth c T0 locs 5 21) (hret : meth.sig.returnType = some .boolean) (hlk : meth.locks = false) (hx : p.tables.exec = Jvm.exec) (hZ : Z.Warmed39 (s.setVm vm0).vm) (hw : ∀ d ∈ tables_1, d.before a0 Z = true) (hby : c.code = code) (hml : c.maxLocals = 14) (hown : (s.setVm vm0).vm.findClass "com/example/harbinger/harbinger/broker/GroupPrecedesPinLaw" = some m.cls) (hS : s.Since vm0 k0) (hk0 : k0 ≤ h0.size) (e0 : T0.heap = h0) (N0 : Fr n0 locs) (Z0 : n0 ≤ h0.size) (GI0 : GI Z h0 n0 g (0 : Int32) (1 : Int32) [(.int (0 : Int32))]) (hc66 : ¬ (k < (1 : Int32))) (hc86 : ¬ (k < (2 : Int32))) (hc93 : lo < mid) (hc116 : ¬ (k < (3 : Int32))) (hc123 : ¬ (mid < hi)) :
    OwnFin p e below s n0 (T0.setTop (mkF m 63 #[.val (.int x0), .val (.int x1), .val (.int x2), .val (.int x3), .val (.int x4), .val (.int k), .val (.int lo), .val (.int hi), .val (.int mid), .val (.ref g), .val (.int (0 : Int32)), .val (.int (0 : Int32)), .unset, .unset] [])) := by
  obtain ⟨cq6, kq6, q6a, q6b, q6c⟩ := isOf hZ e0 GI0.2.2.1
  obtain ⟨_, _, ⟨T6, L6, k6, n6⟩, -, X6, ⟨Lc6, hQ6, l6, y6, z6⟩, st6⟩ := X0.virtualBack hx (y := (⟨"com/example/harbinger/harbinger/broker/Group", "adopt", "(I)V"⟩ : MethodName)) (z := (⟨"com/example/harbinger/harbinger/broker/Group", "adopt", "(I)V"⟩ : MethodName)) hown (mvT hZ (hw _ (List.mem_of_getElem? (i := 50) rfl))) (mvT hZ (hw _ (List.mem_of_getElem? (i := 51) rfl))) (notFace_of_selects (args := #[]) (mvT hZ (hw _ (List.mem_of_getElem? (i := 53) rfl)))) (mvT hZ (hw _ (List.mem_of_getElem? (i := 53) rfl))) (mvT hZ (hw _ (List.mem_of_getElem? (i := 52) rfl))) (by decide) (backOf (W := 0) (rm6a l Z a0 hw [] g lo (0 : Int32) h0 n0 Z0 GI0) hZ (hw _ (List.mem_of_getElem? (i := 54) rfl)) (hw _ (List.mem_of_getElem? (i := 9) rfl)) (by decide) (by decide)) q6a q6c (g := (mkF m 73 #[.val (.int x0), .val (.int x1), .val (.int x2), .val (.int x3), .val (.int x4), .val (.int k), .val (.int lo), .val (.int hi), .val (.int mid), .val (.ref g), .val (.int (0 : Int32)), .val (.int (0 : Int32)), .unset, .unset] [(.int lo), (.ref g)])) rfl (by rw [hml]; rfl) (Steps.refl _) (argsL := [(.int lo)]) (rest := []) (lenOf pd_0_4 rfl) rfl (by show 2 * 0 + _ ≤ _; exact Nat.le_of_eq rfl) (hb hby at_73) (fun _ _ => ⟨rfl, e0, (by decide : 5 + 0 ≤ _), (by decide : 21 + 0 ≤ _)⟩)
  dsimp only [Pt.U, Pt.locs, Pt.cells, Pt.slots] at X6 l6 y6 z6 st6 hQ6
  subst l6 y6 z6
  obtain ⟨rfl, N6q, sz6, GI6⟩ := hQ6
  have N6 := Fr.app N0 N6q
  obtain ⟨cq7, kq7, q7a, q7b, q7c⟩ := isOf hZ rfl GI6.2.2.1
  obtain ⟨_, _, ⟨T7, L7, k7, n7⟩, -, X7, ⟨Lc7, hQ7, l7, y7, z7⟩, st7⟩ := X6.virtualBack hx (y := (⟨"com/example/harbinger/harbinger/broker/Group", "adopt", "(I)V"⟩ : MethodName)) (z := (⟨"com/example/harbinger/harbinger/broker/Group", "adopt", "(I)V"⟩ : MethodName)) hown (mvT hZ (hw _ (List.mem_of_getElem? (i := 50) rfl))) (mvT hZ (hw _ (List.mem_of_getElem? (i := 51) rfl))) (notFace_of_selects (args := #[]) (mvT hZ (hw _ (List.mem_of_getElem? (i := 53) rfl)))) (mvT hZ (hw _ (List.mem_of_getElem? (i := 53) rfl))) (mvT hZ (hw _ (List.mem_of_getElem? (i := 52) rfl))) (by decide) (backOf (W := 0) (rm6b l Z a0 hw [] g mid lo T6.heap n0 GI6.1 GI6) hZ (hw _ (List.mem_of_getElem? (i := 54) rfl)) (hw _ (List.mem_of_getElem? (i := 9) rfl)) (by decide) (by decide)) q7a q7c (g := (mkF m 100 #[.val (.int x0), .val (.int x1), .val (.int x2), .val (.int x3), .val (.int x4), .val (.int k), .val (.int lo), .val (.int hi), .val (.int mid), .val (.ref g), .val (.int (1 : Int32)), .val (.int lo), .unset, .unset] [(.int mid), (.ref g)])) rfl (by rw [hml]; rfl) (Steps.refl _) (argsL := [(.int mid)]) (rest := []) (lenOf pd_0_4 rfl) rfl (by show 2 * 0 + _ ≤ _; exact Nat.le_of_eq rfl) (hb hby at_100) (fun _ _ => ⟨rfl, rfl, (by decide : 5 + 1 ≤ _), (by decide : 21 + 2 ≤ _)⟩)
  dsimp only [Pt.U, Pt.locs, Pt.cells, Pt.slots] at X7 l7 y7 z7 st7 hQ7
  subst l7 y7 z7
  obtain ⟨rfl, N7q, sz7, GI7⟩ := hQ7
  have N7 := Fr.app N6 N7q
  refine OwnFin.step (fun t kt => ?_) (tailN x0 x1 x2 x3 x4 k lo hi mid g ((1 : Int32) + (1 : Int32)) mid (2 : Int32) (2 : Int32) [(.int lo), (.int mid)] (X7.more (by decide) (by decide)) hret hlk hx hZ hw hby hml hown hS (Nat.le_trans (Nat.le_trans hk0 sz6) sz7) rfl N7 GI7.1 GI7 ⟨by decide, by decide, rfl⟩ (by decide) (by decide))
  show Steps p.tables e below (T0.setTop (mkF m 63 #[.val (.int x0), .val (.int x1), .val (.int x2), .val (.int x3), .val (.int x4), .val (.int k), .val (.int lo), .val (.int hi), .val (.int mid), .val (.ref g), .val (.int (0 : Int32)), .val (.int (0 : Int32)), .unset, .unset] [])) _
  refine XS.iload X0.here hx rfl (hb hby at_63) rfl ?_
  show Steps p.tables e below (T0.setTop (mkF m 65 #[.val (.int x0), .val (.int x1), .val (.int x2), .val (.int x3), .val (.int x4), .val (.int k), .val (.int lo), .val (.int hi), .val (.int mid), .val (.ref g), .val (.int (0 : Int32)), .val (.int (0 : Int32)), .unset, .unset] [(.int k)])) _
  refine XS.iconst X0.here hx rfl (hb hby at_65) ?_
  show Steps p.tables e below (T0.setTop (mkF m 66 #[.val (.int x0), .val (.int x1), .val (.int x2), .val (.int x3), .val (.int x4), .val (.int k), .val (.int lo), .val (.int hi), .val (.int mid), .val (.ref g), .val (.int (0 : Int32)), .val (.int (0 : Int32)), .unset, .unset] [(.int (1 : Int32)), (.int k)])) _
  refine XS.icmpNo X0.here hx rfl (hb hby at_66) rfl (flt hc66).1 ?_
  show Steps p.tables e below (T0.setTop (mkF m 69 #[.val (.int x0), .val (.int x1), .val (.int x2), .val (.int x3), .val (.int x4), .val (.int k), .val (.int lo), .val (.int hi), .val (.int mid), .val (.ref g), .val (.int (0 : Int32)), .val (.int (0 : Int32)), .unset, .unset] [])) _
  refine XS.aload X0.here hx rfl (hb hby at_69) rfl rfl ?_
  show Steps p.tables e below (T0.setTop (mkF m 71 #[.val (.int x0), .val (.int x1), .val (.int x2), .val (.int x3), .val (.int x4), .val (.int k), .val (.int lo), .val (.int hi), .val (.int mid), .val (.ref g), .val (.int (0 : Int32)), .val (.int (0 : Int32)), .unset, .unset] [(.ref g)])) _
  refine XS.iload X0.here hx rfl (hb hby at_71) rfl ?_
  show Steps p.tables e below (T0.setTop (mkF m 73 #[.val (.int x0), .val (.int x1), .val (.int x2), .val (.int x3), .val (.int x4), .val (.int k), .val (.int lo), .val (.int hi), .val (.int mid), .val (.ref g), .val (.int (0 : Int32)), .val (.int (0 : Int32)), .unset, .unset] [(.int lo), (.ref g)])) _
  refine st6.trans ?_
  show Steps p.tables e below (T6.setTop (mkF m 76 #[.val (.int x0), .val (.int x1), .val (.int x2), .val (.int x3), .val (.int x4), .val (.int k), .val (.int lo), .val (.int hi), .val (.int mid), .val (.ref g), .val (.int (0 : Int32)), .val (.int (0 : Int32)), .unset, .unset] [])) _
  refine XS.iconst X6.here hx rfl (hb hby at_76) ?_
  show Steps p.tables e below (T6.setTop (mkF m 77 #[.val (.int x0), .val (.int x1), .val (.int x2), .val (.int x3), .val (.int x4), .val (.int k), .val (.int lo), .val (.int hi), .val (.int mid), .val (.ref g), .val (.int (0 : Int32)), .val (.int (0 : Int32)), .unset, .unset] [(.int (1 : Int32))])) _
  refine XS.istore X6.here hx rfl (hb hby at_77) rfl (l' := #[.val (.int x0), .val (.int x1), .val (.int x2), .val (.int x3), .val (.int x4), .val (.int k), .val (.int lo), .val (.int hi), .val (.int mid), .val (.ref g), .val (.int (1 : Int32)), .val (.int (0 : Int32)), .unset, .unset]) rfl ?_
  show Steps p.tables e below (T6.setTop (mkF m 79 #[.val (.int x0), .val (.int x1), .val (.int x2), .val (.int x3), .val (.int x4), .val (.int k), .val (.int lo), .val (.int hi), .val (.int mid), .val (.ref g), .val (.int (1 : Int32)), .val (.int (0 : Int32)), .unset, .unset] [])) _
  refine XS.iload X6.here hx rfl (hb hby at_79) rfl ?_
  show Steps p.tables e below (T6.setTop (mkF m 81 #[.val (.int x0), .val (.int x1), .val (.int x2), .val (.int x3), .val (.int x4), .val (.int k), .val (.int lo), .val (.int hi), .val (.int mid), .val (.ref g), .val (.int (1 : Int32)), .val (.int (0 : Int32)), .unset, .unset] [(.int lo)])) _
  refine XS.istore X6.here hx rfl (hb hby at_81) rfl (l' := #[.val (.int x0), .val (.int x1), .val (.int x2), .val (.int x3), .val (.int x4), .val (.int k), .val (.int lo), .val (.int hi), .val (.int mid), .val (.ref g), .val (.int (1 : Int32)), .val (.int lo), .unset, .unset]) rfl ?_
  show Steps p.tables e below (T6.setTop (mkF m 83 #[.val (.int x0), .val (.int x1), .val (.int x2), .val (.int x3), .val (.int x4), .val (.int k), .val (.int lo), .val (.int hi), .val (.int mid), .val (.ref g), .val (.int (1 : Int32)), .val (.int lo), .unset, .unset] [])) _
  refine XS.iload X6.here hx rfl (hb hby at_83) rfl ?_
  show Steps p.tables e below (T6.setTop (mkF m 85 #[.val (.int x0), .val (.int x1), .val (.int x2), .val (.int x3), .val (.int x4), .val (.int k), .val (.int lo), .val (.int hi), .val (.int mid), .val (.ref g), .val (.int (1 : Int32)), .val (.int lo), .unset, .unset] [(.int k)])) _
  refine XS.iconst X6.here hx rfl (hb hby at_85) ?_
  show Steps p.tables e below (T6.setTop (mkF m 86 #[.val (.int x0), .val (.int x1), .val (.int x2), .val (.int x3), .val (.int x4), .val (.int k), .val (.int lo), .val (.int hi), .val (.int mid), .val (.ref g), .val (.int (1 : Int32)), .val (.int lo), .unset, .unset] [(.int (2 : Int32)), (.int k)])) _
  refine XS.icmpNo X6.here hx rfl (hb hby at_86) rfl (flt hc86).1 ?_
  show Steps p.tables e below (T6.setTop (mkF m 89 #[.val (.int x0), .val (.int x1), .val (.int x2), .val (.int x3), .val (.int x4), .val (.int k), .val (.int lo), .val (.int hi), .val (.int mid), .val (.ref g), .val (.int (1 : Int32)), .val (.int lo), .unset, .unset] [])) _
  refine XS.iload X6.here hx rfl (hb hby at_89) rfl ?_
  show Steps p.tables e below (T6.setTop (mkF m 91 #[.val (.int x0), .val (.int x1), .val (.int x2), .val (.int x3), .val (.int x4), .val (.int k), .val (.int lo), .val (.int hi), .val (.int mid), .val (.ref g), .val (.int (1 : Int32)), .val (.int lo), .unset, .unset] [(.int mid)])) _
  refine XS.iload X6.here hx rfl (hb hby at_91) rfl ?_
  show Steps p.tables e below (T6.setTop (mkF m 93 #[.val (.int x0), .val (.int x1), .val (.int x2), .val (.int x3), .val (.int x4), .val (.int k), .val (.int lo), .val (.int hi), .val (.int mid), .val (.ref g), .val (.int (1 : Int32)), .val (.int lo), .unset, .unset] [(.int lo), (.int mid)])) _
  refine XS.icmpNo X6.here hx rfl (hb hby at_93) rfl (tlt hc93).2.2.2 ?_
  show Steps p.tables e below (T6.setTop (mkF m 96 #[.val (.int x0), .val (.int x1), .val (.int x2), .val (.int x3), .val (.int x4), .val (.int k), .val (.int lo), .val (.int hi), .val (.int mid), .val (.ref g), .val (.int (1 : Int32)), .val (.int lo), .unset, .unset] [])) _
  refine XS.aload X6.here hx rfl (hb hby at_96) rfl rfl ?_
  show Steps p.tables e below (T6.setTop (mkF m 98 #[.val (.int x0), .val (.int x1), .val (.int x2), .val (.int x3), .val (.int x4), .val (.int k), .val (.int lo), .val (.int hi), .val (.int mid), .val (.ref g), .val (.int (1 : Int32)), .val (.int lo), .unset, .unset] [(.ref g)])) _
  refine XS.iload X6.here hx rfl (hb hby at_98) rfl ?_
  show Steps p.tables e below (T6.setTop (mkF m 100 #[.val (.int x0), .val (.int x1), .val (.int x2), .val (.int x3), .val (.int x4), .val (.int k), .val (.int lo), .val (.int hi), .val (.int mid), .val (.ref g), .val (.int (1 : Int32)), .val (.int lo), .unset, .unset] [(.int mid), (.ref g)])) _
  refine st7.trans ?_
  show Steps p.tables e below (T7.setTop (mkF m 103 #[.val (.int x0), .val (.int x1), .val (.int x2), .val (.int x3), .val (.int x4), .val (.int k), .val (.int lo), .val (.int hi), .val (.int mid), .val (.ref g), .val (.int (1 : Int32)), .val (.int lo), .unset, .unset] [])) _
  refine XS.iload X7.here hx rfl (hb hby at_103) rfl ?_
  show Steps p.tables e below (T7.setTop (mkF m 105 #[.val (.int x0), .val (.int x1), .val (.int x2), .val (.int x3), .val (.int x4), .val (.int k), .val (.int lo), .val (.int hi), .val (.int mid), .val (.ref g), .val (.int (1 : Int32)), .val (.int lo), .unset, .unset] [(.int (1 : Int32))])) _
  refine XS.iconst X7.here hx rfl (hb hby at_105) ?_
  show Steps p.tables e below (T7.setTop (mkF m 106 #[.val (.int x0), .val (.int x1), .val (.int x2), .val (.int x3), .val (.int x4), .val (.int k), .val (.int lo), .val (.int hi), .val (.int mid), .val (.ref g), .val (.int (1 : Int32)), .val (.int lo), .unset, .unset] [(.int (1 : Int32)), (.int (1 : Int32))])) _
  refine XS.iadd X7.here hx rfl (hb hby at_106) rfl ?_
  show Steps p.tables e below (T7.setTop (mkF m 107 #[.val (.int x0), .val (.int x1), .val (.int x2), .val (.int x3), .val (.int x4), .val (.int k), .val (.int lo), .val (.int hi), .val (.int mid), .val (.ref g), .val (.int (1 : Int32)), .val (.int lo), .unset, .unset] [(.int ((1 : Int32) + (1 : Int32)))])) _
  refine XS.istore X7.here hx rfl (hb hby at_107) rfl (l' := #[.val (.int x0), .val (.int x1), .val (.int x2), .val (.int x3), .val (.int x4), .val (.int k), .val (.int lo), .val (.int hi), .val (.int mid), .val (.ref g), .val (.int ((1 : Int32) + (1 : Int32))), .val (.int lo), .unset, .unset]) rfl ?_
  show Steps p.tables e below (T7.setTop (mkF m 109 #[.val (.int x0), .val (.int x1), .val (.int x2), .val (.int x3), .val (.int x4), .val (.int k), .val (.int lo), .val (.int hi), .val (.int mid), .val (.ref g), .val (.int ((1 : Int32) + (1 : Int32))), .val (.int lo), .unset, .unset] [])) _
  refine XS.iload X7.here hx rfl (hb hby at_109) rfl ?_
  show Steps p.tables e below (T7.setTop (mkF m 111 #[.val (.int x0), .val (.int x1), .val (.int x2), .val (.int x3), .val (.int x4), .val (.int k), .val (.int lo), .val (.int hi), .val (.int mid), .val (.ref g), .val (.int ((1 : Int32) + (1 : Int32))), .val (.int lo), .unset, .unset] [(.int mid)])) _
  refine XS.istore X7.here hx rfl (hb hby at_111) rfl (l' := #[.val (.int x0), .val (.int x1), .val (.int x2), .val (.int x3), .val (.int x4), .val (.int k), .val (.int lo), .val (.int hi), .val (.int mid), .val (.ref g), .val (.int ((1 : Int32) + (1 : Int32))), .val (.int mid), .unset, .unset]) rfl ?_
  show Steps p.tables e below (T7.setTop (mkF m 113 #[.val (.int x0), .val (.int x1), .val (.int x2), .val (.int x3), .val (.int x4), .val (.int k), .val (.int lo), .val (.int hi), .val (.int mid), .val (.ref g), .val (.int ((1 : Int32) + (1 : Int32))), .val (.int mid), .unset, .unset] [])) _
  refine XS.iload X7.here hx rfl (hb hby at_113) rfl ?_
  show Steps p.tables e below (T7.setTop (mkF m 115 #[.val (.int x0), .val (.int x1), .val (.int x2), .val (.int x3), .val (.int x4), .val (.int k), .val (.int lo), .val (.int hi), .val (.int mid), .val (.ref g), .val (.int ((1 : Int32) + (1 : Int32))), .val (.int mid), .unset, .unset] [(.int k)])) _
  refine XS.iconst X7.here hx rfl (hb hby at_115) ?_
  show Steps p.tables e below (T7.setTop (mkF m 116 #[.val (.int x0), .val (.int x1), .val (.int x2), .val (.int x3), .val (.int x4), .val (.int k), .val (.int lo), .val (.int hi), .val (.int mid), .val (.ref g), .val (.int ((1 : Int32) + (1 : Int32))), .val (.int mid), .unset, .unset] [(.int (3 : Int32)), (.int k)])) _
  refine XS.icmpNo X7.here hx rfl (hb hby at_116) rfl (flt hc116).1 ?_
  show Steps p.tables e below (T7.setTop (mkF m 119 #[.val (.int x0), .val (.int x1), .val (.int x2), .val (.int x3), .val (.int x4), .val (.int k), .val (.int lo), .val (.int hi), .val (.int mid), .val (.ref g), .val (.int ((1 : Int32) + (1 : Int32))), .val (.int mid), .unset, .unset] [])) _
  refine XS.iload X7.here hx rfl (hb hby at_119) rfl ?_
  show Steps p.tables e below (T7.setTop (mkF m 121 #[.val (.int x0), .val (.int x1), .val (.int x2), .val (.int x3), .val (.int x4), .val (.int k), .val (.int lo), .val (.int hi), .val (.int mid), .val (.ref g), .val (.int ((1 : Int32) + (1 : Int32))), .val (.int mid), .unset, .unset] [(.int hi)])) _
  refine XS.iload X7.here hx rfl (hb hby at_121) rfl ?_
  show Steps p.tables e below (T7.setTop (mkF m 123 #[.val (.int x0), .val (.int x1), .val (.int x2), .val (.int x3), .val (.int x4), .val (.int k), .val (.int lo), .val (.int hi), .val (.int mid), .val (.ref g), .val (.int ((1 : Int32) + (1 : Int32))), .val (.int mid), .unset, .unset] [(.int mid), (.int hi)])) _
  refine XS.icmpYes X7.here hx rfl (pc0 := 123) (pc' := 143) rfl (hb hby at_123) rfl (flt hc123).2.2.2 (by decide) (by decide) ?_
  exact kt
set_option maxRecDepth 65536 in
set_option maxHeartbeats 40000000 in
theorem mid7 {p : Program} {l : Launch} {e : Env} {s : State} {m : MethodId} {args : Array Value} {below : List Frame} {meth : Method} {c : Code} {T0 : State} {locs : List Loc} {Z : State} {a0 : Array Value} {vm0 : Vm} {k0 : Nat} {h0 : Heap} {n0 : Nat} (x0 x1 x2 x3 x4 k lo hi mid : Int32) (g : Addr) (X0 : Stand p l e room_1 (s.setVm vm0) m args below meth c T0 locs 5 21) (hret : meth.sig.returnType = some .boolean) (hlk : meth.locks = false) (hx : p.tables.exec = Jvm.exec) (hZ : Z.Warmed39 (s.setVm vm0).vm) (hw : ∀ d ∈ tables_1, d.before a0 Z = true) (hby : c.code = code) (hml : c.maxLocals = 14) (hown : (s.setVm vm0).vm.findClass "com/example/harbinger/harbinger/broker/GroupPrecedesPinLaw" = some m.cls) (hS : s.Since vm0 k0) (hk0 : k0 ≤ h0.size) (e0 : T0.heap = h0) (N0 : Fr n0 locs) (Z0 : n0 ≤ h0.size) (GI0 : GI Z h0 n0 g (0 : Int32) (1 : Int32) [(.int (0 : Int32))]) (hc66 : ¬ (k < (1 : Int32))) (hc86 : ¬ (k < (2 : Int32))) (hc93 : lo < mid) (hc116 : ¬ (k < (3 : Int32))) (hc123 : mid < hi) :
    OwnFin p e below s n0 (T0.setTop (mkF m 63 #[.val (.int x0), .val (.int x1), .val (.int x2), .val (.int x3), .val (.int x4), .val (.int k), .val (.int lo), .val (.int hi), .val (.int mid), .val (.ref g), .val (.int (0 : Int32)), .val (.int (0 : Int32)), .unset, .unset] [])) := by
  obtain ⟨cq6, kq6, q6a, q6b, q6c⟩ := isOf hZ e0 GI0.2.2.1
  obtain ⟨_, _, ⟨T6, L6, k6, n6⟩, -, X6, ⟨Lc6, hQ6, l6, y6, z6⟩, st6⟩ := X0.virtualBack hx (y := (⟨"com/example/harbinger/harbinger/broker/Group", "adopt", "(I)V"⟩ : MethodName)) (z := (⟨"com/example/harbinger/harbinger/broker/Group", "adopt", "(I)V"⟩ : MethodName)) hown (mvT hZ (hw _ (List.mem_of_getElem? (i := 50) rfl))) (mvT hZ (hw _ (List.mem_of_getElem? (i := 51) rfl))) (notFace_of_selects (args := #[]) (mvT hZ (hw _ (List.mem_of_getElem? (i := 53) rfl)))) (mvT hZ (hw _ (List.mem_of_getElem? (i := 53) rfl))) (mvT hZ (hw _ (List.mem_of_getElem? (i := 52) rfl))) (by decide) (backOf (W := 0) (rm6a l Z a0 hw [] g lo (0 : Int32) h0 n0 Z0 GI0) hZ (hw _ (List.mem_of_getElem? (i := 54) rfl)) (hw _ (List.mem_of_getElem? (i := 9) rfl)) (by decide) (by decide)) q6a q6c (g := (mkF m 73 #[.val (.int x0), .val (.int x1), .val (.int x2), .val (.int x3), .val (.int x4), .val (.int k), .val (.int lo), .val (.int hi), .val (.int mid), .val (.ref g), .val (.int (0 : Int32)), .val (.int (0 : Int32)), .unset, .unset] [(.int lo), (.ref g)])) rfl (by rw [hml]; rfl) (Steps.refl _) (argsL := [(.int lo)]) (rest := []) (lenOf pd_0_4 rfl) rfl (by show 2 * 0 + _ ≤ _; exact Nat.le_of_eq rfl) (hb hby at_73) (fun _ _ => ⟨rfl, e0, (by decide : 5 + 0 ≤ _), (by decide : 21 + 0 ≤ _)⟩)
  dsimp only [Pt.U, Pt.locs, Pt.cells, Pt.slots] at X6 l6 y6 z6 st6 hQ6
  subst l6 y6 z6
  obtain ⟨rfl, N6q, sz6, GI6⟩ := hQ6
  have N6 := Fr.app N0 N6q
  obtain ⟨cq7, kq7, q7a, q7b, q7c⟩ := isOf hZ rfl GI6.2.2.1
  obtain ⟨_, _, ⟨T7, L7, k7, n7⟩, -, X7, ⟨Lc7, hQ7, l7, y7, z7⟩, st7⟩ := X6.virtualBack hx (y := (⟨"com/example/harbinger/harbinger/broker/Group", "adopt", "(I)V"⟩ : MethodName)) (z := (⟨"com/example/harbinger/harbinger/broker/Group", "adopt", "(I)V"⟩ : MethodName)) hown (mvT hZ (hw _ (List.mem_of_getElem? (i := 50) rfl))) (mvT hZ (hw _ (List.mem_of_getElem? (i := 51) rfl))) (notFace_of_selects (args := #[]) (mvT hZ (hw _ (List.mem_of_getElem? (i := 53) rfl)))) (mvT hZ (hw _ (List.mem_of_getElem? (i := 53) rfl))) (mvT hZ (hw _ (List.mem_of_getElem? (i := 52) rfl))) (by decide) (backOf (W := 0) (rm6b l Z a0 hw [] g mid lo T6.heap n0 GI6.1 GI6) hZ (hw _ (List.mem_of_getElem? (i := 54) rfl)) (hw _ (List.mem_of_getElem? (i := 9) rfl)) (by decide) (by decide)) q7a q7c (g := (mkF m 100 #[.val (.int x0), .val (.int x1), .val (.int x2), .val (.int x3), .val (.int x4), .val (.int k), .val (.int lo), .val (.int hi), .val (.int mid), .val (.ref g), .val (.int (1 : Int32)), .val (.int lo), .unset, .unset] [(.int mid), (.ref g)])) rfl (by rw [hml]; rfl) (Steps.refl _) (argsL := [(.int mid)]) (rest := []) (lenOf pd_0_4 rfl) rfl (by show 2 * 0 + _ ≤ _; exact Nat.le_of_eq rfl) (hb hby at_100) (fun _ _ => ⟨rfl, rfl, (by decide : 5 + 1 ≤ _), (by decide : 21 + 2 ≤ _)⟩)
  dsimp only [Pt.U, Pt.locs, Pt.cells, Pt.slots] at X7 l7 y7 z7 st7 hQ7
  subst l7 y7 z7
  obtain ⟨rfl, N7q, sz7, GI7⟩ := hQ7
  have N7 := Fr.app N6 N7q
  obtain ⟨cq8, kq8, q8a, q8b, q8c⟩ := isOf hZ rfl GI7.2.2.1
  obtain ⟨_, _, ⟨T8, L8, k8, n8⟩, -, X8, ⟨Lc8, hQ8, l8, y8, z8⟩, st8⟩ := X7.virtualBack hx (y := (⟨"com/example/harbinger/harbinger/broker/Group", "adopt", "(I)V"⟩ : MethodName)) (z := (⟨"com/example/harbinger/harbinger/broker/Group", "adopt", "(I)V"⟩ : MethodName)) hown (mvT hZ (hw _ (List.mem_of_getElem? (i := 50) rfl))) (mvT hZ (hw _ (List.mem_of_getElem? (i := 51) rfl))) (notFace_of_selects (args := #[]) (mvT hZ (hw _ (List.mem_of_getElem? (i := 53) rfl)))) (mvT hZ (hw _ (List.mem_of_getElem? (i := 53) rfl))) (mvT hZ (hw _ (List.mem_of_getElem? (i := 52) rfl))) (by decide) (backOf (W := 0) (rm6c l Z a0 hw [] g hi lo mid T7.heap n0 GI7.1 GI7) hZ (hw _ (List.mem_of_getElem? (i := 54) rfl)) (hw _ (List.mem_of_getElem? (i := 9) rfl)) (by decide) (by decide)) q8a q8c (g := (mkF m 130 #[.val (.int x0), .val (.int x1), .val (.int x2), .val (.int x3), .val (.int x4), .val (.int k), .val (.int lo), .val (.int hi), .val (.int mid), .val (.ref g), .val (.int ((1 : Int32) + (1 : Int32))), .val (.int mid), .unset, .unset] [(.int hi), (.ref g)])) rfl (by rw [hml]; rfl) (Steps.refl _) (argsL := [(.int hi)]) (rest := []) (lenOf pd_0_4 rfl) rfl (by show 2 * 0 + _ ≤ _; exact Nat.le_of_eq rfl) (hb hby at_130) (fun _ _ => ⟨rfl, rfl, (by decide : 6 + 1 ≤ _), (by decide : 23 + 4 ≤ _)⟩)
  dsimp only [Pt.U, Pt.locs, Pt.cells, Pt.slots] at X8 l8 y8 z8 st8 hQ8
  subst l8 y8 z8
  obtain ⟨rfl, N8q, sz8, GI8⟩ := hQ8
  have N8 := Fr.app N7 N8q
  refine OwnFin.step (fun t kt => ?_) (tailN x0 x1 x2 x3 x4 k lo hi mid g (((1 : Int32) + (1 : Int32)) + (1 : Int32)) hi (3 : Int32) (4 : Int32) [(.int lo), (.int mid), (.int hi), (.int (0 : Int32))] (X8.more (by decide) (by decide)) hret hlk hx hZ hw hby hml hown hS (Nat.le_trans (Nat.le_trans (Nat.le_trans hk0 sz6) sz7) sz8) rfl N8 GI8.1 GI8 ⟨by decide, by decide, rfl⟩ (by decide) (by decide))
  show Steps p.tables e below (T0.setTop (mkF m 63 #[.val (.int x0), .val (.int x1), .val (.int x2), .val (.int x3), .val (.int x4), .val (.int k), .val (.int lo), .val (.int hi), .val (.int mid), .val (.ref g), .val (.int (0 : Int32)), .val (.int (0 : Int32)), .unset, .unset] [])) _
  refine XS.iload X0.here hx rfl (hb hby at_63) rfl ?_
  show Steps p.tables e below (T0.setTop (mkF m 65 #[.val (.int x0), .val (.int x1), .val (.int x2), .val (.int x3), .val (.int x4), .val (.int k), .val (.int lo), .val (.int hi), .val (.int mid), .val (.ref g), .val (.int (0 : Int32)), .val (.int (0 : Int32)), .unset, .unset] [(.int k)])) _
  refine XS.iconst X0.here hx rfl (hb hby at_65) ?_
  show Steps p.tables e below (T0.setTop (mkF m 66 #[.val (.int x0), .val (.int x1), .val (.int x2), .val (.int x3), .val (.int x4), .val (.int k), .val (.int lo), .val (.int hi), .val (.int mid), .val (.ref g), .val (.int (0 : Int32)), .val (.int (0 : Int32)), .unset, .unset] [(.int (1 : Int32)), (.int k)])) _
  refine XS.icmpNo X0.here hx rfl (hb hby at_66) rfl (flt hc66).1 ?_
  show Steps p.tables e below (T0.setTop (mkF m 69 #[.val (.int x0), .val (.int x1), .val (.int x2), .val (.int x3), .val (.int x4), .val (.int k), .val (.int lo), .val (.int hi), .val (.int mid), .val (.ref g), .val (.int (0 : Int32)), .val (.int (0 : Int32)), .unset, .unset] [])) _
  refine XS.aload X0.here hx rfl (hb hby at_69) rfl rfl ?_
  show Steps p.tables e below (T0.setTop (mkF m 71 #[.val (.int x0), .val (.int x1), .val (.int x2), .val (.int x3), .val (.int x4), .val (.int k), .val (.int lo), .val (.int hi), .val (.int mid), .val (.ref g), .val (.int (0 : Int32)), .val (.int (0 : Int32)), .unset, .unset] [(.ref g)])) _
  refine XS.iload X0.here hx rfl (hb hby at_71) rfl ?_
  show Steps p.tables e below (T0.setTop (mkF m 73 #[.val (.int x0), .val (.int x1), .val (.int x2), .val (.int x3), .val (.int x4), .val (.int k), .val (.int lo), .val (.int hi), .val (.int mid), .val (.ref g), .val (.int (0 : Int32)), .val (.int (0 : Int32)), .unset, .unset] [(.int lo), (.ref g)])) _
  refine st6.trans ?_
  show Steps p.tables e below (T6.setTop (mkF m 76 #[.val (.int x0), .val (.int x1), .val (.int x2), .val (.int x3), .val (.int x4), .val (.int k), .val (.int lo), .val (.int hi), .val (.int mid), .val (.ref g), .val (.int (0 : Int32)), .val (.int (0 : Int32)), .unset, .unset] [])) _
  refine XS.iconst X6.here hx rfl (hb hby at_76) ?_
  show Steps p.tables e below (T6.setTop (mkF m 77 #[.val (.int x0), .val (.int x1), .val (.int x2), .val (.int x3), .val (.int x4), .val (.int k), .val (.int lo), .val (.int hi), .val (.int mid), .val (.ref g), .val (.int (0 : Int32)), .val (.int (0 : Int32)), .unset, .unset] [(.int (1 : Int32))])) _
  refine XS.istore X6.here hx rfl (hb hby at_77) rfl (l' := #[.val (.int x0), .val (.int x1), .val (.int x2), .val (.int x3), .val (.int x4), .val (.int k), .val (.int lo), .val (.int hi), .val (.int mid), .val (.ref g), .val (.int (1 : Int32)), .val (.int (0 : Int32)), .unset, .unset]) rfl ?_
  show Steps p.tables e below (T6.setTop (mkF m 79 #[.val (.int x0), .val (.int x1), .val (.int x2), .val (.int x3), .val (.int x4), .val (.int k), .val (.int lo), .val (.int hi), .val (.int mid), .val (.ref g), .val (.int (1 : Int32)), .val (.int (0 : Int32)), .unset, .unset] [])) _
  refine XS.iload X6.here hx rfl (hb hby at_79) rfl ?_
  show Steps p.tables e below (T6.setTop (mkF m 81 #[.val (.int x0), .val (.int x1), .val (.int x2), .val (.int x3), .val (.int x4), .val (.int k), .val (.int lo), .val (.int hi), .val (.int mid), .val (.ref g), .val (.int (1 : Int32)), .val (.int (0 : Int32)), .unset, .unset] [(.int lo)])) _
  refine XS.istore X6.here hx rfl (hb hby at_81) rfl (l' := #[.val (.int x0), .val (.int x1), .val (.int x2), .val (.int x3), .val (.int x4), .val (.int k), .val (.int lo), .val (.int hi), .val (.int mid), .val (.ref g), .val (.int (1 : Int32)), .val (.int lo), .unset, .unset]) rfl ?_
  show Steps p.tables e below (T6.setTop (mkF m 83 #[.val (.int x0), .val (.int x1), .val (.int x2), .val (.int x3), .val (.int x4), .val (.int k), .val (.int lo), .val (.int hi), .val (.int mid), .val (.ref g), .val (.int (1 : Int32)), .val (.int lo), .unset, .unset] [])) _
  refine XS.iload X6.here hx rfl (hb hby at_83) rfl ?_
  show Steps p.tables e below (T6.setTop (mkF m 85 #[.val (.int x0), .val (.int x1), .val (.int x2), .val (.int x3), .val (.int x4), .val (.int k), .val (.int lo), .val (.int hi), .val (.int mid), .val (.ref g), .val (.int (1 : Int32)), .val (.int lo), .unset, .unset] [(.int k)])) _
  refine XS.iconst X6.here hx rfl (hb hby at_85) ?_
  show Steps p.tables e below (T6.setTop (mkF m 86 #[.val (.int x0), .val (.int x1), .val (.int x2), .val (.int x3), .val (.int x4), .val (.int k), .val (.int lo), .val (.int hi), .val (.int mid), .val (.ref g), .val (.int (1 : Int32)), .val (.int lo), .unset, .unset] [(.int (2 : Int32)), (.int k)])) _
  refine XS.icmpNo X6.here hx rfl (hb hby at_86) rfl (flt hc86).1 ?_
  show Steps p.tables e below (T6.setTop (mkF m 89 #[.val (.int x0), .val (.int x1), .val (.int x2), .val (.int x3), .val (.int x4), .val (.int k), .val (.int lo), .val (.int hi), .val (.int mid), .val (.ref g), .val (.int (1 : Int32)), .val (.int lo), .unset, .unset] [])) _
  refine XS.iload X6.here hx rfl (hb hby at_89) rfl ?_
  show Steps p.tables e below (T6.setTop (mkF m 91 #[.val (.int x0), .val (.int x1), .val (.int x2), .val (.int x3), .val (.int x4), .val (.int k), .val (.int lo), .val (.int hi), .val (.int mid), .val (.ref g), .val (.int (1 : Int32)), .val (.int lo), .unset, .unset] [(.int mid)])) _
  refine XS.iload X6.here hx rfl (hb hby at_91) rfl ?_
  show Steps p.tables e below (T6.setTop (mkF m 93 #[.val (.int x0), .val (.int x1), .val (.int x2), .val (.int x3), .val (.int x4), .val (.int k), .val (.int lo), .val (.int hi), .val (.int mid), .val (.ref g), .val (.int (1 : Int32)), .val (.int lo), .unset, .unset] [(.int lo), (.int mid)])) _
  refine XS.icmpNo X6.here hx rfl (hb hby at_93) rfl (tlt hc93).2.2.2 ?_
  show Steps p.tables e below (T6.setTop (mkF m 96 #[.val (.int x0), .val (.int x1), .val (.int x2), .val (.int x3), .val (.int x4), .val (.int k), .val (.int lo), .val (.int hi), .val (.int mid), .val (.ref g), .val (.int (1 : Int32)), .val (.int lo), .unset, .unset] [])) _
  refine XS.aload X6.here hx rfl (hb hby at_96) rfl rfl ?_
  show Steps p.tables e below (T6.setTop (mkF m 98 #[.val (.int x0), .val (.int x1), .val (.int x2), .val (.int x3), .val (.int x4), .val (.int k), .val (.int lo), .val (.int hi), .val (.int mid), .val (.ref g), .val (.int (1 : Int32)), .val (.int lo), .unset, .unset] [(.ref g)])) _
  refine XS.iload X6.here hx rfl (hb hby at_98) rfl ?_
  show Steps p.tables e below (T6.setTop (mkF m 100 #[.val (.int x0), .val (.int x1), .val (.int x2), .val (.int x3), .val (.int x4), .val (.int k), .val (.int lo), .val (.int hi), .val (.int mid), .val (.ref g), .val (.int (1 : Int32)), .val (.int lo), .unset, .unset] [(.int mid), (.ref g)])) _
  refine st7.trans ?_
  show Steps p.tables e below (T7.setTop (mkF m 103 #[.val (.int x0), .val (.int x1), .val (.int x2), .val (.int x3), .val (.int x4), .val (.int k), .val (.int lo), .val (.int hi), .val (.int mid), .val (.ref g), .val (.int (1 : Int32)), .val (.int lo), .unset, .unset] [])) _
  refine XS.iload X7.here hx rfl (hb hby at_103) rfl ?_
  show Steps p.tables e below (T7.setTop (mkF m 105 #[.val (.int x0), .val (.int x1), .val (.int x2), .val (.int x3), .val (.int x4), .val (.int k), .val (.int lo), .val (.int hi), .val (.int mid), .val (.ref g), .val (.int (1 : Int32)), .val (.int lo), .unset, .unset] [(.int (1 : Int32))])) _
  refine XS.iconst X7.here hx rfl (hb hby at_105) ?_
  show Steps p.tables e below (T7.setTop (mkF m 106 #[.val (.int x0), .val (.int x1), .val (.int x2), .val (.int x3), .val (.int x4), .val (.int k), .val (.int lo), .val (.int hi), .val (.int mid), .val (.ref g), .val (.int (1 : Int32)), .val (.int lo), .unset, .unset] [(.int (1 : Int32)), (.int (1 : Int32))])) _
  refine XS.iadd X7.here hx rfl (hb hby at_106) rfl ?_
  show Steps p.tables e below (T7.setTop (mkF m 107 #[.val (.int x0), .val (.int x1), .val (.int x2), .val (.int x3), .val (.int x4), .val (.int k), .val (.int lo), .val (.int hi), .val (.int mid), .val (.ref g), .val (.int (1 : Int32)), .val (.int lo), .unset, .unset] [(.int ((1 : Int32) + (1 : Int32)))])) _
  refine XS.istore X7.here hx rfl (hb hby at_107) rfl (l' := #[.val (.int x0), .val (.int x1), .val (.int x2), .val (.int x3), .val (.int x4), .val (.int k), .val (.int lo), .val (.int hi), .val (.int mid), .val (.ref g), .val (.int ((1 : Int32) + (1 : Int32))), .val (.int lo), .unset, .unset]) rfl ?_
  show Steps p.tables e below (T7.setTop (mkF m 109 #[.val (.int x0), .val (.int x1), .val (.int x2), .val (.int x3), .val (.int x4), .val (.int k), .val (.int lo), .val (.int hi), .val (.int mid), .val (.ref g), .val (.int ((1 : Int32) + (1 : Int32))), .val (.int lo), .unset, .unset] [])) _
  refine XS.iload X7.here hx rfl (hb hby at_109) rfl ?_
  show Steps p.tables e below (T7.setTop (mkF m 111 #[.val (.int x0), .val (.int x1), .val (.int x2), .val (.int x3), .val (.int x4), .val (.int k), .val (.int lo), .val (.int hi), .val (.int mid), .val (.ref g), .val (.int ((1 : Int32) + (1 : Int32))), .val (.int lo), .unset, .unset] [(.int mid)])) _
  refine XS.istore X7.here hx rfl (hb hby at_111) rfl (l' := #[.val (.int x0), .val (.int x1), .val (.int x2), .val (.int x3), .val (.int x4), .val (.int k), .val (.int lo), .val (.int hi), .val (.int mid), .val (.ref g), .val (.int ((1 : Int32) + (1 : Int32))), .val (.int mid), .unset, .unset]) rfl ?_
  show Steps p.tables e below (T7.setTop (mkF m 113 #[.val (.int x0), .val (.int x1), .val (.int x2), .val (.int x3), .val (.int x4), .val (.int k), .val (.int lo), .val (.int hi), .val (.int mid), .val (.ref g), .val (.int ((1 : Int32) + (1 : Int32))), .val (.int mid), .unset, .unset] [])) _
  refine XS.iload X7.here hx rfl (hb hby at_113) rfl ?_
  show Steps p.tables e below (T7.setTop (mkF m 115 #[.val (.int x0), .val (.int x1), .val (.int x2), .val (.int x3), .val (.int x4), .val (.int k), .val (.int lo), .val (.int hi), .val (.int mid), .val (.ref g), .val (.int ((1 : Int32) + (1 : Int32))), .val (.int mid), .unset, .unset] [(.int k)])) _
  refine XS.iconst X7.here hx rfl (hb hby at_115) ?_
  show Steps p.tables e below (T7.setTop (mkF m 116 #[.val (.int x0), .val (.int x1), .val (.int x2), .val (.int x3), .val (.int x4), .val (.int k), .val (.int lo), .val (.int hi), .val (.int mid), .val (.ref g), .val (.int ((1 : Int32) + (1 : Int32))), .val (.int mid), .unset, .unset] [(.int (3 : Int32)), (.int k)])) _
  refine XS.icmpNo X7.here hx rfl (hb hby at_116) rfl (flt hc116).1 ?_
  show Steps p.tables e below (T7.setTop (mkF m 119 #[.val (.int x0), .val (.int x1), .val (.int x2), .val (.int x3), .val (.int x4), .val (.int k), .val (.int lo), .val (.int hi), .val (.int mid), .val (.ref g), .val (.int ((1 : Int32) + (1 : Int32))), .val (.int mid), .unset, .unset] [])) _
  refine XS.iload X7.here hx rfl (hb hby at_119) rfl ?_
  show Steps p.tables e below (T7.setTop (mkF m 121 #[.val (.int x0), .val (.int x1), .val (.int x2), .val (.int x3), .val (.int x4), .val (.int k), .val (.int lo), .val (.int hi), .val (.int mid), .val (.ref g), .val (.int ((1 : Int32) + (1 : Int32))), .val (.int mid), .unset, .unset] [(.int hi)])) _
  refine XS.iload X7.here hx rfl (hb hby at_121) rfl ?_
  show Steps p.tables e below (T7.setTop (mkF m 123 #[.val (.int x0), .val (.int x1), .val (.int x2), .val (.int x3), .val (.int x4), .val (.int k), .val (.int lo), .val (.int hi), .val (.int mid), .val (.ref g), .val (.int ((1 : Int32) + (1 : Int32))), .val (.int mid), .unset, .unset] [(.int mid), (.int hi)])) _
  refine XS.icmpNo X7.here hx rfl (hb hby at_123) rfl (tlt hc123).2.2.2 ?_
  show Steps p.tables e below (T7.setTop (mkF m 126 #[.val (.int x0), .val (.int x1), .val (.int x2), .val (.int x3), .val (.int x4), .val (.int k), .val (.int lo), .val (.int hi), .val (.int mid), .val (.ref g), .val (.int ((1 : Int32) + (1 : Int32))), .val (.int mid), .unset, .unset] [])) _
  refine XS.aload X7.here hx rfl (hb hby at_126) rfl rfl ?_
  show Steps p.tables e below (T7.setTop (mkF m 128 #[.val (.int x0), .val (.int x1), .val (.int x2), .val (.int x3), .val (.int x4), .val (.int k), .val (.int lo), .val (.int hi), .val (.int mid), .val (.ref g), .val (.int ((1 : Int32) + (1 : Int32))), .val (.int mid), .unset, .unset] [(.ref g)])) _
  refine XS.iload X7.here hx rfl (hb hby at_128) rfl ?_
  show Steps p.tables e below (T7.setTop (mkF m 130 #[.val (.int x0), .val (.int x1), .val (.int x2), .val (.int x3), .val (.int x4), .val (.int k), .val (.int lo), .val (.int hi), .val (.int mid), .val (.ref g), .val (.int ((1 : Int32) + (1 : Int32))), .val (.int mid), .unset, .unset] [(.int hi), (.ref g)])) _
  refine st8.trans ?_
  show Steps p.tables e below (T8.setTop (mkF m 133 #[.val (.int x0), .val (.int x1), .val (.int x2), .val (.int x3), .val (.int x4), .val (.int k), .val (.int lo), .val (.int hi), .val (.int mid), .val (.ref g), .val (.int ((1 : Int32) + (1 : Int32))), .val (.int mid), .unset, .unset] [])) _
  refine XS.iload X8.here hx rfl (hb hby at_133) rfl ?_
  show Steps p.tables e below (T8.setTop (mkF m 135 #[.val (.int x0), .val (.int x1), .val (.int x2), .val (.int x3), .val (.int x4), .val (.int k), .val (.int lo), .val (.int hi), .val (.int mid), .val (.ref g), .val (.int ((1 : Int32) + (1 : Int32))), .val (.int mid), .unset, .unset] [(.int ((1 : Int32) + (1 : Int32)))])) _
  refine XS.iconst X8.here hx rfl (hb hby at_135) ?_
  show Steps p.tables e below (T8.setTop (mkF m 136 #[.val (.int x0), .val (.int x1), .val (.int x2), .val (.int x3), .val (.int x4), .val (.int k), .val (.int lo), .val (.int hi), .val (.int mid), .val (.ref g), .val (.int ((1 : Int32) + (1 : Int32))), .val (.int mid), .unset, .unset] [(.int (1 : Int32)), (.int ((1 : Int32) + (1 : Int32)))])) _
  refine XS.iadd X8.here hx rfl (hb hby at_136) rfl ?_
  show Steps p.tables e below (T8.setTop (mkF m 137 #[.val (.int x0), .val (.int x1), .val (.int x2), .val (.int x3), .val (.int x4), .val (.int k), .val (.int lo), .val (.int hi), .val (.int mid), .val (.ref g), .val (.int ((1 : Int32) + (1 : Int32))), .val (.int mid), .unset, .unset] [(.int (((1 : Int32) + (1 : Int32)) + (1 : Int32)))])) _
  refine XS.istore X8.here hx rfl (hb hby at_137) rfl (l' := #[.val (.int x0), .val (.int x1), .val (.int x2), .val (.int x3), .val (.int x4), .val (.int k), .val (.int lo), .val (.int hi), .val (.int mid), .val (.ref g), .val (.int (((1 : Int32) + (1 : Int32)) + (1 : Int32))), .val (.int mid), .unset, .unset]) rfl ?_
  show Steps p.tables e below (T8.setTop (mkF m 139 #[.val (.int x0), .val (.int x1), .val (.int x2), .val (.int x3), .val (.int x4), .val (.int k), .val (.int lo), .val (.int hi), .val (.int mid), .val (.ref g), .val (.int (((1 : Int32) + (1 : Int32)) + (1 : Int32))), .val (.int mid), .unset, .unset] [])) _
  refine XS.iload X8.here hx rfl (hb hby at_139) rfl ?_
  show Steps p.tables e below (T8.setTop (mkF m 141 #[.val (.int x0), .val (.int x1), .val (.int x2), .val (.int x3), .val (.int x4), .val (.int k), .val (.int lo), .val (.int hi), .val (.int mid), .val (.ref g), .val (.int (((1 : Int32) + (1 : Int32)) + (1 : Int32))), .val (.int mid), .unset, .unset] [(.int hi)])) _
  refine XS.istore X8.here hx rfl (hb hby at_141) rfl (l' := #[.val (.int x0), .val (.int x1), .val (.int x2), .val (.int x3), .val (.int x4), .val (.int k), .val (.int lo), .val (.int hi), .val (.int mid), .val (.ref g), .val (.int (((1 : Int32) + (1 : Int32)) + (1 : Int32))), .val (.int hi), .unset, .unset]) rfl ?_
  exact kt
theorem own_m3 (x : Int32) : (x &&& 3) = 0 ∨ (x &&& 3) = 1 ∨ (x &&& 3) = 2 ∨ (x &&& 3) = 3 := by
  have h := c_mask x 3 2 (by decide) (by decide)
  have : (x &&& 3).toInt = 0 ∨ (x &&& 3).toInt = 1 ∨ (x &&& 3).toInt = 2 ∨ (x &&& 3).toInt = 3 := by omega
  rcases this with q | q | q | q
  · exact Or.inl (Int32.toInt_inj.mp q)
  · exact Or.inr (Or.inl (Int32.toInt_inj.mp q))
  · exact Or.inr (Or.inr (Or.inl (Int32.toInt_inj.mp q)))
  · exact Or.inr (Or.inr (Or.inr (Int32.toInt_inj.mp q)))
set_option maxRecDepth 65536 in
set_option maxHeartbeats 40000000 in
theorem mids {p : Program} {l : Launch} {e : Env} {s : State} {m : MethodId} {args : Array Value} {below : List Frame} {meth : Method} {c : Code} {T0 : State} {locs : List Loc} {Z : State} {a0 : Array Value} {vm0 : Vm} {k0 : Nat} {h0 : Heap} {n0 : Nat} (x0 x1 x2 x3 x4 k lo hi mid : Int32) (g : Addr) (X0 : Stand p l e room_1 (s.setVm vm0) m args below meth c T0 locs 5 21) (hret : meth.sig.returnType = some .boolean) (hlk : meth.locks = false) (hx : p.tables.exec = Jvm.exec) (hZ : Z.Warmed39 (s.setVm vm0).vm) (hw : ∀ d ∈ tables_1, d.before a0 Z = true) (hby : c.code = code) (hml : c.maxLocals = 14) (hown : (s.setVm vm0).vm.findClass "com/example/harbinger/harbinger/broker/GroupPrecedesPinLaw" = some m.cls) (hS : s.Since vm0 k0) (hk0 : k0 ≤ h0.size) (e0 : T0.heap = h0) (N0 : Fr n0 locs) (Z0 : n0 ≤ h0.size) (GI0 : GI Z h0 n0 g (0 : Int32) (1 : Int32) [(.int (0 : Int32))]) (hk : k = 0 ∨ k = 1 ∨ k = 2 ∨ k = 3) :
    OwnFin p e below s n0 (T0.setTop (mkF m 63 #[.val (.int x0), .val (.int x1), .val (.int x2), .val (.int x3), .val (.int x4), .val (.int k), .val (.int lo), .val (.int hi), .val (.int mid), .val (.ref g), .val (.int (0 : Int32)), .val (.int (0 : Int32)), .unset, .unset] [])) := by
  rcases hk with q | q | q | q
  · exact mid0 x0 x1 x2 x3 x4 k lo hi mid g X0 hret hlk hx hZ hw hby hml hown hS hk0 e0 N0 Z0 GI0 (by rw [q] <;> decide) (by rw [q] <;> decide) (by rw [q] <;> decide)
  · exact mid1 x0 x1 x2 x3 x4 k lo hi mid g X0 hret hlk hx hZ hw hby hml hown hS hk0 e0 N0 Z0 GI0 (by rw [q] <;> decide) (by rw [q] <;> decide) (by rw [q] <;> decide)
  · by_cases c1 : lo < mid
    · exact mid3 x0 x1 x2 x3 x4 k lo hi mid g X0 hret hlk hx hZ hw hby hml hown hS hk0 e0 N0 Z0 GI0 (by rw [q] <;> decide) (by rw [q] <;> decide) c1 (by rw [q] <;> decide)
    · exact mid2 x0 x1 x2 x3 x4 k lo hi mid g X0 hret hlk hx hZ hw hby hml hown hS hk0 e0 N0 Z0 GI0 (by rw [q] <;> decide) (by rw [q] <;> decide) c1 (by rw [q] <;> decide)
  · by_cases c1 : lo < mid
    · by_cases c2 : mid < hi
      · exact mid7 x0 x1 x2 x3 x4 k lo hi mid g X0 hret hlk hx hZ hw hby hml hown hS hk0 e0 N0 Z0 GI0 (by rw [q] <;> decide) (by rw [q] <;> decide) c1 (by rw [q] <;> decide) c2
      · exact mid6 x0 x1 x2 x3 x4 k lo hi mid g X0 hret hlk hx hZ hw hby hml hown hS hk0 e0 N0 Z0 GI0 (by rw [q] <;> decide) (by rw [q] <;> decide) c1 (by rw [q] <;> decide) c2
    · by_cases c2 : lo < hi
      · exact mid5 x0 x1 x2 x3 x4 k lo hi mid g X0 hret hlk hx hZ hw hby hml hown hS hk0 e0 N0 Z0 GI0 (by rw [q] <;> decide) (by rw [q] <;> decide) c1 (by rw [q] <;> decide) c2
      · exact mid4 x0 x1 x2 x3 x4 k lo hi mid g X0 hret hlk hx hZ hw hby hml hown hS hk0 e0 N0 Z0 GI0 (by rw [q] <;> decide) (by rw [q] <;> decide) c1 (by rw [q] <;> decide) c2
theorem own_R1 (a b : Int32) : ∃ r, R1 a b r := by
  by_cases h : b < a
  · exact ⟨b, Or.inr ⟨h, rfl⟩⟩
  · exact ⟨a, Or.inl ⟨h, rfl⟩⟩
theorem own_R2 (a b : Int32) : ∃ r, R2 a b r := by
  by_cases h : a < b
  · exact ⟨b, Or.inr ⟨h, rfl⟩⟩
  · exact ⟨a, Or.inl ⟨h, rfl⟩⟩
theorem pd_0_0 : parseMethodDescriptor "(II)I" = some ⟨[.int, .int], some .int⟩ := by decide +kernel
theorem pd_0_1 : parseMethodDescriptor "(Ljava/lang/String;)V" = some ⟨[(.object "java/lang/String")], none⟩ := by decide +kernel
theorem pn_0 : plainName "com/example/harbinger/harbinger/broker/GroupPrecedesPinLaw" = true := by first | (simp [plainName, overriddenIn]; done) | decide +kernel
theorem ef_0 (m : MethodId) (x0 : Int32) (x1 : Int32) (x2 : Int32) (x3 : Int32) (x4 : Int32) : entryFrame m #[(.int x0), (.int x1), (.int x2), (.int x3), (.int x4)] maxLocals = mkF m 0 #[.val (.int x0), .val (.int x1), .val (.int x2), .val (.int x3), .val (.int x4), .unset, .unset, .unset, .unset, .unset, .unset, .unset, .unset, .unset] [] := by first | (simp [entryFrame, mkF, argsToLocals, Value.category, maxLocals]; done) | rfl
set_option maxRecDepth 65536 in
set_option maxHeartbeats 40000000 in
theorem rm0 (l : Launch) (Z : State) (a0 : Array Value) (hw : ∀ d ∈ tables_1, d.before a0 Z = true) (ws : List Jvm.Cond) (p1 p2 p3 p4 p5 : Int32) (w_NO_MEMBERS : Addr) (h0 : Heap) (n0 : Nat) (Z0 : n0 ≤ h0.size) (S_NO_MEMBERS : Sta Z h0 "com/example/harbinger/harbinger/broker/Group" "NO_MEMBERS" "[Lcom/example/harbinger/harbinger/broker/Mailbox;" (.ref w_NO_MEMBERS)) :
    MetFree l x (head1 (Jvm.Cond.code x code maxLocals ret :: ws) room_1) (fun a U => a = #[(.int p1), (.int p2), (.int p3), (.int p4), (.int p5)] ∧ Z.Warmed39 U.vm ∧ U.heap = h0) (fun _ _ _ _ _ => True) (fun _ U o U' => ∃ v L, o = .returned v ∧ Q0 n0 v U'.heap L ∧ ReturnedEndW U o U' L room_1.cells room_1.slots) := by
  refine MetFree.of_bodySF (plainFor_of_name pn_0) hisR ?_
  intro p e s m args below meth c s₁ Bd hml0 hP hK
  obtain ⟨rfl, hZ, hh⟩ := hP
  have hx := Bd.exec
  have hby := Bd.bytes
  have hml : c.maxLocals = 14 := hml0
  have hown : s.vm.findClass "com/example/harbinger/harbinger/broker/GroupPrecedesPinLaw" = some m.cls := findClass_of_methodNamed Bd.named
  have hnm := (name_of_methodNamed Bd.named Bd.method).1
  have X0 : Stand p l e room_1 s m #[(.int p1), (.int p2), (.int p3), (.int p4), (.int p5)] below meth c s₁ [] 0 0 := Stand.of_body Bd
  have e0 : s₁.heap = h0 := by rw [← hh, Bd.state]; rfl
  have N0 := Fr.nil n0
  have pre0 : ∀ t, Steps p.tables e below (s₁.setTop (mkF m 0 #[.val (.int p1), .val (.int p2), .val (.int p3), .val (.int p4), .val (.int p5), .unset, .unset, .unset, .unset, .unset, .unset, .unset, .unset, .unset] [])) t → Steps p.tables e below (s₁.setTop (entryFrame m #[(.int p1), (.int p2), (.int p3), (.int p4), (.int p5)] maxLocals)) t := fun t k => castTop (ef_0 m p1 p2 p3 p4 p5) k
  obtain ⟨r6, P6⟩ := own_R1 p3 p4
  obtain ⟨r7, P7⟩ := own_R1 p2 r6
  obtain ⟨r8, P8⟩ := own_R2 p3 p4
  obtain ⟨r9, P9⟩ := own_R2 p2 r8
  obtain ⟨_, _, ⟨T6, L6, k6, n6⟩, -, X6, ⟨Lc6, hQ6, l6, y6, z6⟩, st6⟩ := Jvm.LawKit.callS X0 hx (y := (⟨"java/lang/Math", "min", "(II)I"⟩ : MethodName)) hown (mvT hZ (hw _ (List.mem_of_getElem? (i := 0) rfl))) (mvT hZ (hw _ (List.mem_of_getElem? (i := 1) rfl))) (mvT hZ (hw _ (List.mem_of_getElem? (i := 2) rfl))) (mvT hZ (hw _ (List.mem_of_getElem? (i := 3) rfl))) (by decide) (backOf (W := 1) (rm1 l Z a0 hw [] p3 p4  r6 h0 n0 Z0  P6) hZ (hw _ (List.mem_of_getElem? (i := 3) rfl)) (hw _ (List.mem_of_getElem? (i := 2) rfl)) (by decide) (by decide)) (g := (mkF m 8 #[.val (.int p1), .val (.int p2), .val (.int p3), .val (.int p4), .val (.int p5), .val (.int (p1 &&& (3 : Int32))), .unset, .unset, .unset, .unset, .unset, .unset, .unset, .unset] [(.int p4), (.int p3), (.int p2)])) rfl (by rw [hml]; rfl) (argsL := [(.int p3), (.int p4)]) (rest := [(.int p2)]) (lenOf pd_0_0 rfl) rfl (by show 2 * 0 + _ ≤ _; exact Nat.le_of_eq rfl) (hb hby at_8) (fun _ _ => ⟨rfl, e0, (by decide : 0 + 0 ≤ _), (by decide : 0 + 0 ≤ _)⟩)
  dsimp only [Pt.U, Pt.locs, Pt.cells, Pt.slots] at X6 l6 y6 z6 st6 hQ6
  subst l6 y6 z6
  obtain ⟨rfl, N6q, e6⟩ := hQ6
  have N6 := Fr.app N0 N6q
  obtain ⟨_, _, ⟨T7, L7, k7, n7⟩, -, X7, ⟨Lc7, hQ7, l7, y7, z7⟩, st7⟩ := Jvm.LawKit.callS X6 hx (y := (⟨"java/lang/Math", "min", "(II)I"⟩ : MethodName)) hown (mvT hZ (hw _ (List.mem_of_getElem? (i := 0) rfl))) (mvT hZ (hw _ (List.mem_of_getElem? (i := 1) rfl))) (mvT hZ (hw _ (List.mem_of_getElem? (i := 2) rfl))) (mvT hZ (hw _ (List.mem_of_getElem? (i := 3) rfl))) (by decide) (backOf (W := 0) (rm1 l Z a0 hw [] p2 r6  r7 h0 n0 Z0  P7) hZ (hw _ (List.mem_of_getElem? (i := 3) rfl)) (hw _ (List.mem_of_getElem? (i := 2) rfl)) (by decide) (by decide)) (g := (mkF m 11 #[.val (.int p1), .val (.int p2), .val (.int p3), .val (.int p4), .val (.int p5), .val (.int (p1 &&& (3 : Int32))), .unset, .unset, .unset, .unset, .unset, .unset, .unset, .unset] [(.int r6), (.int p2)])) rfl (by rw [hml]; rfl) (argsL := [(.int p2), (.int r6)]) (rest := []) (lenOf pd_0_0 rfl) rfl (by show 2 * 0 + _ ≤ _; exact Nat.le_of_eq rfl) (hb hby at_11) (fun _ _ => ⟨rfl, e6, (by decide : 0 + 0 ≤ _), (by decide : 0 + 0 ≤ _)⟩)
  dsimp only [Pt.U, Pt.locs, Pt.cells, Pt.slots] at X7 l7 y7 z7 st7 hQ7
  subst l7 y7 z7
  obtain ⟨rfl, N7q, e7⟩ := hQ7
  have N7 := Fr.app N6 N7q
  obtain ⟨_, _, ⟨T8, L8, k8, n8⟩, -, X8, ⟨Lc8, hQ8, l8, y8, z8⟩, st8⟩ := Jvm.LawKit.callS X7 hx (y := (⟨"java/lang/Math", "max", "(II)I"⟩ : MethodName)) hown (mvT hZ (hw _ (List.mem_of_getElem? (i := 4) rfl))) (mvT hZ (hw _ (List.mem_of_getElem? (i := 5) rfl))) (mvT hZ (hw _ (List.mem_of_getElem? (i := 2) rfl))) (mvT hZ (hw _ (List.mem_of_getElem? (i := 6) rfl))) (by decide) (backOf (W := 1) (rm2 l Z a0 hw [] p3 p4  r8 h0 n0 Z0  P8) hZ (hw _ (List.mem_of_getElem? (i := 6) rfl)) (hw _ (List.mem_of_getElem? (i := 2) rfl)) (by decide) (by decide)) (g := (mkF m 19 #[.val (.int p1), .val (.int p2), .val (.int p3), .val (.int p4), .val (.int p5), .val (.int (p1 &&& (3 : Int32))), .val (.int r7), .unset, .unset, .unset, .unset, .unset, .unset, .unset] [(.int p4), (.int p3), (.int p2)])) rfl (by rw [hml]; rfl) (argsL := [(.int p3), (.int p4)]) (rest := [(.int p2)]) (lenOf pd_0_0 rfl) rfl (by show 2 * 0 + _ ≤ _; exact Nat.le_of_eq rfl) (hb hby at_19) (fun _ _ => ⟨rfl, e7, (by decide : 0 + 0 ≤ _), (by decide : 0 + 0 ≤ _)⟩)
  dsimp only [Pt.U, Pt.locs, Pt.cells, Pt.slots] at X8 l8 y8 z8 st8 hQ8
  subst l8 y8 z8
  obtain ⟨rfl, N8q, e8⟩ := hQ8
  have N8 := Fr.app N7 N8q
  obtain ⟨_, _, ⟨T9, L9, k9, n9⟩, -, X9, ⟨Lc9, hQ9, l9, y9, z9⟩, st9⟩ := Jvm.LawKit.callS X8 hx (y := (⟨"java/lang/Math", "max", "(II)I"⟩ : MethodName)) hown (mvT hZ (hw _ (List.mem_of_getElem? (i := 4) rfl))) (mvT hZ (hw _ (List.mem_of_getElem? (i := 5) rfl))) (mvT hZ (hw _ (List.mem_of_getElem? (i := 2) rfl))) (mvT hZ (hw _ (List.mem_of_getElem? (i := 6) rfl))) (by decide) (backOf (W := 0) (rm2 l Z a0 hw [] p2 r8  r9 h0 n0 Z0  P9) hZ (hw _ (List.mem_of_getElem? (i := 6) rfl)) (hw _ (List.mem_of_getElem? (i := 2) rfl)) (by decide) (by decide)) (g := (mkF m 22 #[.val (.int p1), .val (.int p2), .val (.int p3), .val (.int p4), .val (.int p5), .val (.int (p1 &&& (3 : Int32))), .val (.int r7), .unset, .unset, .unset, .unset, .unset, .unset, .unset] [(.int r8), (.int p2)])) rfl (by rw [hml]; rfl) (argsL := [(.int p2), (.int r8)]) (rest := []) (lenOf pd_0_0 rfl) rfl (by show 2 * 0 + _ ≤ _; exact Nat.le_of_eq rfl) (hb hby at_22) (fun _ _ => ⟨rfl, e8, (by decide : 0 + 0 ≤ _), (by decide : 0 + 0 ≤ _)⟩)
  dsimp only [Pt.U, Pt.locs, Pt.cells, Pt.slots] at X9 l9 y9 z9 st9 hQ9
  subst l9 y9 z9
  obtain ⟨rfl, N9q, e9⟩ := hQ9
  have N9 := Fr.app N8 N9q
  obtain ⟨T10, h10, X10, e10, E10, A10, D10, -, st10⟩ := newO X9 hx hZ hown (hw _ (List.mem_of_getElem? (i := 7) rfl)) (hw _ (List.mem_of_getElem? (i := 8) rfl)) (hw _ (List.mem_of_getElem? (i := 9) rfl)) e9 (g := (mkF m 46 #[.val (.int p1), .val (.int p2), .val (.int p3), .val (.int p4), .val (.int p5), .val (.int (p1 &&& (3 : Int32))), .val (.int r7), .val (.int r9), .val (.int ((((((p2.toInt64) + (p3.toInt64)) + (p4.toInt64)) - (r7.toInt64)) - (r9.toInt64)).toInt32)), .unset, .unset, .unset, .unset, .unset] [])) rfl (hb hby at_46) (by decide) (by decide)
  obtain ⟨b10, g10⟩ : ∃ z, z = h0.size := ⟨_, rfl⟩      -- the fresh object's address
  rw [← g10] at A10 D10 st10      -- A10 : Exa Z h10 b10 "com/example/harbinger/harbinger/broker/Group"; E10 : Ext h0 h10 (carries every older fact: .ext E10)
  have F_last_b10 : Fld Z h10 b10 "com/example/harbinger/harbinger/broker/Group" "last" "J" (.long (0 : Int64)) := D10 (Or.inl (hw _ (List.mem_of_getElem? (i := 26) rfl))) (ty := .long) (by decide)
  have F_marks_b10 : Fld Z h10 b10 "com/example/harbinger/harbinger/broker/Group" "marks" "[J" .null := D10 (Or.inl (hw _ (List.mem_of_getElem? (i := 29) rfl))) (ty := (.array .long)) (by decide)
  have F_audiences_b10 : Fld Z h10 b10 "com/example/harbinger/harbinger/broker/Group" "audiences" "[I" .null := D10 (Or.inl (hw _ (List.mem_of_getElem? (i := 32) rfl))) (ty := (.array .int)) (by decide)
  have F_audience_b10 : Fld Z h10 b10 "com/example/harbinger/harbinger/broker/Group" "audience" "I" (.int (0 : Int32)) := D10 (Or.inl (hw _ (List.mem_of_getElem? (i := 34) rfl))) (ty := .int) (by decide)
  have F_members_b10 : Fld Z h10 b10 "com/example/harbinger/harbinger/broker/Group" "members" "[Lcom/example/harbinger/harbinger/broker/Mailbox;" .null := D10 (Or.inl (hw _ (List.mem_of_getElem? (i := 38) rfl))) (ty := (.array (.object "com/example/harbinger/harbinger/broker/Mailbox"))) (by decide)
  have F_membersHash_b10 : Fld Z h10 b10 "com/example/harbinger/harbinger/broker/Group" "membersHash" "I" (.int (0 : Int32)) := D10 (Or.inl (hw _ (List.mem_of_getElem? (i := 40) rfl))) (ty := .int) (by decide)
  have F_groupId_b10 : Fld Z h10 b10 "com/example/harbinger/harbinger/broker/Group" "groupId" "Ljava/lang/String;" .null := D10 (Or.inr (hw _ (List.mem_of_getElem? (i := 42) rfl))) (ty := (.object "java/lang/String")) (by decide)
  have F_audienceCount_b10 : Fld Z h10 b10 "com/example/harbinger/harbinger/broker/Group" "audienceCount" "I" (.int (0 : Int32)) := D10 (Or.inl (hw _ (List.mem_of_getElem? (i := 49) rfl))) (ty := .int) (by decide)
  have E_b10 := A10
  have g_b10 : n0 ≤ b10 := Nat.le_trans Z0 (Nat.le_of_eq g10.symm)
  have sz_b10 : h0.size ≤ b10 := (Nat.le_trans (Keep.refl h0 []).1 (Nat.le_of_eq g10.symm))
  have K10 : Keep h0 h10 [] := (Keep.refl h0 []).ext E10
  obtain ⟨sa11, T11, h11, ks11, X11, e11, E11, hS, hk11, hZ, hown, st11⟩ := ldcS (s := s) (vm0 := s.vm) X10 hx hZ hown (hw _ (List.mem_of_getElem? (i := 10) rfl)) (own_atoms hw) e10 ((State.WarmedH.refl s).since 0) (Nat.zero_le _) (g := (mkF m 50 #[.val (.int p1), .val (.int p2), .val (.int p3), .val (.int p4), .val (.int p5), .val (.int (p1 &&& (3 : Int32))), .val (.int r7), .val (.int r9), .val (.int ((((((p2.toInt64) + (p3.toInt64)) + (p4.toInt64)) - (r7.toInt64)) - (r9.toInt64)).toInt32)), .unset, .unset, .unset, .unset, .unset] [(.ref b10), (.ref b10)])) rfl (hb hby at_50) (n := 4) (by decide) (by decide) (by decide) (by decide)
  have K11 : Keep h0 h11 [] := K10.ext E11
  obtain ⟨_, _, ⟨T12, L12, k12, n12⟩, -, X12, ⟨Lc12, hQ12, l12, y12, z12⟩, st12⟩ := X11.specialBack hx (y := (⟨"com/example/harbinger/harbinger/broker/Group", "<init>", "(Ljava/lang/String;)V"⟩ : MethodName)) rfl hown (mvT hZ (hw _ (List.mem_of_getElem? (i := 18) rfl))) (mvT hZ (hw _ (List.mem_of_getElem? (i := 19) rfl))) (mvT hZ (hw _ (List.mem_of_getElem? (i := 20) rfl))) (by decide) (backOf (W := 1) (rm3 l Z a0 hw [] b10 sa11 (.long (0 : Int64)) .null .null (.int (0 : Int32)) w_NO_MEMBERS .null (.int (0 : Int32)) .null h11 n0 (Nat.le_trans (Nat.le_trans Z0 E10.1) E11.1) (E_b10.ext E11) (F_last_b10.ext E11) g_b10 (F_marks_b10.ext E11) (F_audiences_b10.ext E11) (F_audience_b10.ext E11) ((S_NO_MEMBERS.ext E10).ext E11) (F_members_b10.ext E11) (F_membersHash_b10.ext E11) (F_groupId_b10.ext E11) (F_audienceCount_b10.ext E11)) hZ (hw _ (List.mem_of_getElem? (i := 20) rfl)) (hw _ (List.mem_of_getElem? (i := 9) rfl)) (by decide) (by decide)) (g := (mkF m 52 #[.val (.int p1), .val (.int p2), .val (.int p3), .val (.int p4), .val (.int p5), .val (.int (p1 &&& (3 : Int32))), .val (.int r7), .val (.int r9), .val (.int ((((((p2.toInt64) + (p3.toInt64)) + (p4.toInt64)) - (r7.toInt64)) - (r9.toInt64)).toInt32)), .unset, .unset, .unset, .unset, .unset] [(.ref sa11), (.ref b10), (.ref b10)])) rfl (by rw [hml]; rfl) (Steps.refl _) (a := b10) (argsL := [(.ref sa11)]) (rest := [(.ref b10)]) (lenOf pd_0_1 rfl) rfl (by show 2 * 0 + _ ≤ _; exact Nat.le_of_eq rfl) (hb hby at_52) (fun _ _ => ⟨rfl, e11, (by decide : 3 + 2 ≤ _), (by decide : 19 + 2 ≤ _)⟩)
  dsimp only [Pt.U, Pt.locs, Pt.cells, Pt.slots] at X12 l12 y12 z12 st12 hQ12
  subst l12 y12 z12
  obtain ⟨rfl, N12q, sz12, GI12⟩ := hQ12
  have N12 := Fr.app N9 N12q
  refine OwnFin.step (fun t kt => pre0 _ ?_) (mids p1 p2 p3 p4 p5 (p1 &&& (3 : Int32)) r7 r9 ((((((p2.toInt64) + (p3.toInt64)) + (p4.toInt64)) - (r7.toInt64)) - (r9.toInt64)).toInt32) b10 (X12.more (by decide) (by decide)) Bd.returns (by first | exact BodyLoose.notSynchronized Bd | exact Body.notSynchronized Bd) hx hZ hw hby hml hown hS (Nat.le_trans hk11 sz12) rfl N12 GI12.1 GI12 (own_m3 p1))
  show Steps p.tables e below (s₁.setTop (mkF m 0 #[.val (.int p1), .val (.int p2), .val (.int p3), .val (.int p4), .val (.int p5), .unset, .unset, .unset, .unset, .unset, .unset, .unset, .unset, .unset] [])) _
  refine XS.iloadN X0.here hx rfl (hb hby at_0) rfl ?_
  show Steps p.tables e below (s₁.setTop (mkF m 1 #[.val (.int p1), .val (.int p2), .val (.int p3), .val (.int p4), .val (.int p5), .unset, .unset, .unset, .unset, .unset, .unset, .unset, .unset, .unset] [(.int p1)])) _
  refine XS.iconst X0.here hx rfl (hb hby at_1) ?_
  show Steps p.tables e below (s₁.setTop (mkF m 2 #[.val (.int p1), .val (.int p2), .val (.int p3), .val (.int p4), .val (.int p5), .unset, .unset, .unset, .unset, .unset, .unset, .unset, .unset, .unset] [(.int (3 : Int32)), (.int p1)])) _
  refine XS.iand X0.here hx rfl (hb hby at_2) rfl ?_
  show Steps p.tables e below (s₁.setTop (mkF m 3 #[.val (.int p1), .val (.int p2), .val (.int p3), .val (.int p4), .val (.int p5), .unset, .unset, .unset, .unset, .unset, .unset, .unset, .unset, .unset] [(.int (p1 &&& (3 : Int32)))])) _
  refine XS.istore X0.here hx rfl (hb hby at_3) rfl (l' := #[.val (.int p1), .val (.int p2), .val (.int p3), .val (.int p4), .val (.int p5), .val (.int (p1 &&& (3 : Int32))), .unset, .unset, .unset, .unset, .unset, .unset, .unset, .unset]) rfl ?_
  show Steps p.tables e below (s₁.setTop (mkF m 5 #[.val (.int p1), .val (.int p2), .val (.int p3), .val (.int p4), .val (.int p5), .val (.int (p1 &&& (3 : Int32))), .unset, .unset, .unset, .unset, .unset, .unset, .unset, .unset] [])) _
  refine XS.iloadN X0.here hx rfl (hb hby at_5) rfl ?_
  show Steps p.tables e below (s₁.setTop (mkF m 6 #[.val (.int p1), .val (.int p2), .val (.int p3), .val (.int p4), .val (.int p5), .val (.int (p1 &&& (3 : Int32))), .unset, .unset, .unset, .unset, .unset, .unset, .unset, .unset] [(.int p2)])) _
  refine XS.iloadN X0.here hx rfl (hb hby at_6) rfl ?_
  show Steps p.tables e below (s₁.setTop (mkF m 7 #[.val (.int p1), .val (.int p2), .val (.int p3), .val (.int p4), .val (.int p5), .val (.int (p1 &&& (3 : Int32))), .unset, .unset, .unset, .unset, .unset, .unset, .unset, .unset] [(.int p3), (.int p2)])) _
  refine XS.iloadN X0.here hx rfl (hb hby at_7) rfl ?_
  show Steps p.tables e below (s₁.setTop (mkF m 8 #[.val (.int p1), .val (.int p2), .val (.int p3), .val (.int p4), .val (.int p5), .val (.int (p1 &&& (3 : Int32))), .unset, .unset, .unset, .unset, .unset, .unset, .unset, .unset] [(.int p4), (.int p3), (.int p2)])) _
  refine st6 _ ?_
  show Steps p.tables e below (T6.setTop (mkF m 11 #[.val (.int p1), .val (.int p2), .val (.int p3), .val (.int p4), .val (.int p5), .val (.int (p1 &&& (3 : Int32))), .unset, .unset, .unset, .unset, .unset, .unset, .unset, .unset] [(.int r6), (.int p2)])) _
  refine st7 _ ?_
  show Steps p.tables e below (T7.setTop (mkF m 14 #[.val (.int p1), .val (.int p2), .val (.int p3), .val (.int p4), .val (.int p5), .val (.int (p1 &&& (3 : Int32))), .unset, .unset, .unset, .unset, .unset, .unset, .unset, .unset] [(.int r7)])) _
  refine XS.istore X7.here hx rfl (hb hby at_14) rfl (l' := #[.val (.int p1), .val (.int p2), .val (.int p3), .val (.int p4), .val (.int p5), .val (.int (p1 &&& (3 : Int32))), .val (.int r7), .unset, .unset, .unset, .unset, .unset, .unset, .unset]) rfl ?_
  show Steps p.tables e below (T7.setTop (mkF m 16 #[.val (.int p1), .val (.int p2), .val (.int p3), .val (.int p4), .val (.int p5), .val (.int (p1 &&& (3 : Int32))), .val (.int r7), .unset, .unset, .unset, .unset, .unset, .unset, .unset] [])) _
  refine XS.iloadN X7.here hx rfl (hb hby at_16) rfl ?_
  show Steps p.tables e below (T7.setTop (mkF m 17 #[.val (.int p1), .val (.int p2), .val (.int p3), .val (.int p4), .val (.int p5), .val (.int (p1 &&& (3 : Int32))), .val (.int r7), .unset, .unset, .unset, .unset, .unset, .unset, .unset] [(.int p2)])) _
  refine XS.iloadN X7.here hx rfl (hb hby at_17) rfl ?_
  show Steps p.tables e below (T7.setTop (mkF m 18 #[.val (.int p1), .val (.int p2), .val (.int p3), .val (.int p4), .val (.int p5), .val (.int (p1 &&& (3 : Int32))), .val (.int r7), .unset, .unset, .unset, .unset, .unset, .unset, .unset] [(.int p3), (.int p2)])) _
  refine XS.iloadN X7.here hx rfl (hb hby at_18) rfl ?_
  show Steps p.tables e below (T7.setTop (mkF m 19 #[.val (.int p1), .val (.int p2), .val (.int p3), .val (.int p4), .val (.int p5), .val (.int (p1 &&& (3 : Int32))), .val (.int r7), .unset, .unset, .unset, .unset, .unset, .unset, .unset] [(.int p4), (.int p3), (.int p2)])) _
  refine st8 _ ?_
  show Steps p.tables e below (T8.setTop (mkF m 22 #[.val (.int p1), .val (.int p2), .val (.int p3), .val (.int p4), .val (.int p5), .val (.int (p1 &&& (3 : Int32))), .val (.int r7), .unset, .unset, .unset, .unset, .unset, .unset, .unset] [(.int r8), (.int p2)])) _
  refine st9 _ ?_
  show Steps p.tables e below (T9.setTop (mkF m 25 #[.val (.int p1), .val (.int p2), .val (.int p3), .val (.int p4), .val (.int p5), .val (.int (p1 &&& (3 : Int32))), .val (.int r7), .unset, .unset, .unset, .unset, .unset, .unset, .unset] [(.int r9)])) _
  refine XS.istore X9.here hx rfl (hb hby at_25) rfl (l' := #[.val (.int p1), .val (.int p2), .val (.int p3), .val (.int p4), .val (.int p5), .val (.int (p1 &&& (3 : Int32))), .val (.int r7), .val (.int r9), .unset, .unset, .unset, .unset, .unset, .unset]) rfl ?_
  show Steps p.tables e below (T9.setTop (mkF m 27 #[.val (.int p1), .val (.int p2), .val (.int p3), .val (.int p4), .val (.int p5), .val (.int (p1 &&& (3 : Int32))), .val (.int r7), .val (.int r9), .unset, .unset, .unset, .unset, .unset, .unset] [])) _
  refine XS.iloadN X9.here hx rfl (hb hby at_27) rfl ?_
  show Steps p.tables e below (T9.setTop (mkF m 28 #[.val (.int p1), .val (.int p2), .val (.int p3), .val (.int p4), .val (.int p5), .val (.int (p1 &&& (3 : Int32))), .val (.int r7), .val (.int r9), .unset, .unset, .unset, .unset, .unset, .unset] [(.int p2)])) _
  refine XS.i2l X9.here hx rfl (hb hby at_28) rfl ?_
  show Steps p.tables e below (T9.setTop (mkF m 29 #[.val (.int p1), .val (.int p2), .val (.int p3), .val (.int p4), .val (.int p5), .val (.int (p1 &&& (3 : Int32))), .val (.int r7), .val (.int r9), .unset, .unset, .unset, .unset, .unset, .unset] [(.long (p2.toInt64))])) _
  refine XS.iloadN X9.here hx rfl (hb hby at_29) rfl ?_
  show Steps p.tables e below (T9.setTop (mkF m 30 #[.val (.int p1), .val (.int p2), .val (.int p3), .val (.int p4), .val (.int p5), .val (.int (p1 &&& (3 : Int32))), .val (.int r7), .val (.int r9), .unset, .unset, .unset, .unset, .unset, .unset] [(.int p3), (.long (p2.toInt64))])) _
  refine XS.i2l X9.here hx rfl (hb hby at_30) rfl ?_
  show Steps p.tables e below (T9.setTop (mkF m 31 #[.val (.int p1), .val (.int p2), .val (.int p3), .val (.int p4), .val (.int p5), .val (.int (p1 &&& (3 : Int32))), .val (.int r7), .val (.int r9), .unset, .unset, .unset, .unset, .unset, .unset] [(.long (p3.toInt64)), (.long (p2.toInt64))])) _
  refine XS.ladd X9.here hx rfl (hb hby at_31) rfl ?_
  show Steps p.tables e below (T9.setTop (mkF m 32 #[.val (.int p1), .val (.int p2), .val (.int p3), .val (.int p4), .val (.int p5), .val (.int (p1 &&& (3 : Int32))), .val (.int r7), .val (.int r9), .unset, .unset, .unset, .unset, .unset, .unset] [(.long ((p2.toInt64) + (p3.toInt64)))])) _
  refine XS.iloadN X9.here hx rfl (hb hby at_32) rfl ?_
  show Steps p.tables e below (T9.setTop (mkF m 33 #[.val (.int p1), .val (.int p2), .val (.int p3), .val (.int p4), .val (.int p5), .val (.int (p1 &&& (3 : Int32))), .val (.int r7), .val (.int r9), .unset, .unset, .unset, .unset, .unset, .unset] [(.int p4), (.long ((p2.toInt64) + (p3.toInt64)))])) _
  refine XS.i2l X9.here hx rfl (hb hby at_33) rfl ?_
  show Steps p.tables e below (T9.setTop (mkF m 34 #[.val (.int p1), .val (.int p2), .val (.int p3), .val (.int p4), .val (.int p5), .val (.int (p1 &&& (3 : Int32))), .val (.int r7), .val (.int r9), .unset, .unset, .unset, .unset, .unset, .unset] [(.long (p4.toInt64)), (.long ((p2.toInt64) + (p3.toInt64)))])) _
  refine XS.ladd X9.here hx rfl (hb hby at_34) rfl ?_
  show Steps p.tables e below (T9.setTop (mkF m 35 #[.val (.int p1), .val (.int p2), .val (.int p3), .val (.int p4), .val (.int p5), .val (.int (p1 &&& (3 : Int32))), .val (.int r7), .val (.int r9), .unset, .unset, .unset, .unset, .unset, .unset] [(.long (((p2.toInt64) + (p3.toInt64)) + (p4.toInt64)))])) _
  refine XS.iload X9.here hx rfl (hb hby at_35) rfl ?_
  show Steps p.tables e below (T9.setTop (mkF m 37 #[.val (.int p1), .val (.int p2), .val (.int p3), .val (.int p4), .val (.int p5), .val (.int (p1 &&& (3 : Int32))), .val (.int r7), .val (.int r9), .unset, .unset, .unset, .unset, .unset, .unset] [(.int r7), (.long (((p2.toInt64) + (p3.toInt64)) + (p4.toInt64)))])) _
  refine XS.i2l X9.here hx rfl (hb hby at_37) rfl ?_
  show Steps p.tables e below (T9.setTop (mkF m 38 #[.val (.int p1), .val (.int p2), .val (.int p3), .val (.int p4), .val (.int p5), .val (.int (p1 &&& (3 : Int32))), .val (.int r7), .val (.int r9), .unset, .unset, .unset, .unset, .unset, .unset] [(.long (r7.toInt64)), (.long (((p2.toInt64) + (p3.toInt64)) + (p4.toInt64)))])) _
  refine XS.lsub X9.here hx rfl (hb hby at_38) rfl ?_
  show Steps p.tables e below (T9.setTop (mkF m 39 #[.val (.int p1), .val (.int p2), .val (.int p3), .val (.int p4), .val (.int p5), .val (.int (p1 &&& (3 : Int32))), .val (.int r7), .val (.int r9), .unset, .unset, .unset, .unset, .unset, .unset] [(.long ((((p2.toInt64) + (p3.toInt64)) + (p4.toInt64)) - (r7.toInt64)))])) _
  refine XS.iload X9.here hx rfl (hb hby at_39) rfl ?_
  show Steps p.tables e below (T9.setTop (mkF m 41 #[.val (.int p1), .val (.int p2), .val (.int p3), .val (.int p4), .val (.int p5), .val (.int (p1 &&& (3 : Int32))), .val (.int r7), .val (.int r9), .unset, .unset, .unset, .unset, .unset, .unset] [(.int r9), (.long ((((p2.toInt64) + (p3.toInt64)) + (p4.toInt64)) - (r7.toInt64)))])) _
  refine XS.i2l X9.here hx rfl (hb hby at_41) rfl ?_
  show Steps p.tables e below (T9.setTop (mkF m 42 #[.val (.int p1), .val (.int p2), .val (.int p3), .val (.int p4), .val (.int p5), .val (.int (p1 &&& (3 : Int32))), .val (.int r7), .val (.int r9), .unset, .unset, .unset, .unset, .unset, .unset] [(.long (r9.toInt64)), (.long ((((p2.toInt64) + (p3.toInt64)) + (p4.toInt64)) - (r7.toInt64)))])) _
  refine XS.lsub X9.here hx rfl (hb hby at_42) rfl ?_
  show Steps p.tables e below (T9.setTop (mkF m 43 #[.val (.int p1), .val (.int p2), .val (.int p3), .val (.int p4), .val (.int p5), .val (.int (p1 &&& (3 : Int32))), .val (.int r7), .val (.int r9), .unset, .unset, .unset, .unset, .unset, .unset] [(.long (((((p2.toInt64) + (p3.toInt64)) + (p4.toInt64)) - (r7.toInt64)) - (r9.toInt64)))])) _
  refine XS.l2i X9.here hx rfl (hb hby at_43) rfl ?_
  show Steps p.tables e below (T9.setTop (mkF m 44 #[.val (.int p1), .val (.int p2), .val (.int p3), .val (.int p4), .val (.int p5), .val (.int (p1 &&& (3 : Int32))), .val (.int r7), .val (.int r9), .unset, .unset, .unset, .unset, .unset, .unset] [(.int ((((((p2.toInt64) + (p3.toInt64)) + (p4.toInt64)) - (r7.toInt64)) - (r9.toInt64)).toInt32))])) _
  refine XS.istore X9.here hx rfl (hb hby at_44) rfl (l' := #[.val (.int p1), .val (.int p2), .val (.int p3), .val (.int p4), .val (.int p5), .val (.int (p1 &&& (3 : Int32))), .val (.int r7), .val (.int r9), .val (.int ((((((p2.toInt64) + (p3.toInt64)) + (p4.toInt64)) - (r7.toInt64)) - (r9.toInt64)).toInt32)), .unset, .unset, .unset, .unset, .unset]) rfl ?_
  show Steps p.tables e below (T9.setTop (mkF m 46 #[.val (.int p1), .val (.int p2), .val (.int p3), .val (.int p4), .val (.int p5), .val (.int (p1 &&& (3 : Int32))), .val (.int r7), .val (.int r9), .val (.int ((((((p2.toInt64) + (p3.toInt64)) + (p4.toInt64)) - (r7.toInt64)) - (r9.toInt64)).toInt32)), .unset, .unset, .unset, .unset, .unset] [])) _
  refine st10 _ ?_
  show Steps p.tables e below (T10.setTop (mkF m 49 #[.val (.int p1), .val (.int p2), .val (.int p3), .val (.int p4), .val (.int p5), .val (.int (p1 &&& (3 : Int32))), .val (.int r7), .val (.int r9), .val (.int ((((((p2.toInt64) + (p3.toInt64)) + (p4.toInt64)) - (r7.toInt64)) - (r9.toInt64)).toInt32)), .unset, .unset, .unset, .unset, .unset] [(.ref b10)])) _
  refine XS.dup X10.here hx rfl (hb hby at_49) rfl rfl ?_
  show Steps p.tables e below (T10.setTop (mkF m 50 #[.val (.int p1), .val (.int p2), .val (.int p3), .val (.int p4), .val (.int p5), .val (.int (p1 &&& (3 : Int32))), .val (.int r7), .val (.int r9), .val (.int ((((((p2.toInt64) + (p3.toInt64)) + (p4.toInt64)) - (r7.toInt64)) - (r9.toInt64)).toInt32)), .unset, .unset, .unset, .unset, .unset] [(.ref b10), (.ref b10)])) _
  refine st11 _ ?_
  show Steps p.tables e below (T11.setTop (mkF m 52 #[.val (.int p1), .val (.int p2), .val (.int p3), .val (.int p4), .val (.int p5), .val (.int (p1 &&& (3 : Int32))), .val (.int r7), .val (.int r9), .val (.int ((((((p2.toInt64) + (p3.toInt64)) + (p4.toInt64)) - (r7.toInt64)) - (r9.toInt64)).toInt32)), .unset, .unset, .unset, .unset, .unset] [(.ref sa11), (.ref b10), (.ref b10)])) _
  refine st12.trans ?_
  show Steps p.tables e below (T12.setTop (mkF m 55 #[.val (.int p1), .val (.int p2), .val (.int p3), .val (.int p4), .val (.int p5), .val (.int (p1 &&& (3 : Int32))), .val (.int r7), .val (.int r9), .val (.int ((((((p2.toInt64) + (p3.toInt64)) + (p4.toInt64)) - (r7.toInt64)) - (r9.toInt64)).toInt32)), .unset, .unset, .unset, .unset, .unset] [(.ref b10)])) _
  refine XS.astore X12.here hx rfl (hb hby at_55) rfl rfl (l' := #[.val (.int p1), .val (.int p2), .val (.int p3), .val (.int p4), .val (.int p5), .val (.int (p1 &&& (3 : Int32))), .val (.int r7), .val (.int r9), .val (.int ((((((p2.toInt64) + (p3.toInt64)) + (p4.toInt64)) - (r7.toInt64)) - (r9.toInt64)).toInt32)), .val (.ref b10), .unset, .unset, .unset, .unset]) rfl ?_
  show Steps p.tables e below (T12.setTop (mkF m 57 #[.val (.int p1), .val (.int p2), .val (.int p3), .val (.int p4), .val (.int p5), .val (.int (p1 &&& (3 : Int32))), .val (.int r7), .val (.int r9), .val (.int ((((((p2.toInt64) + (p3.toInt64)) + (p4.toInt64)) - (r7.toInt64)) - (r9.toInt64)).toInt32)), .val (.ref b10), .unset, .unset, .unset, .unset] [])) _
  refine XS.iconst X12.here hx rfl (hb hby at_57) ?_
  show Steps p.tables e below (T12.setTop (mkF m 58 #[.val (.int p1), .val (.int p2), .val (.int p3), .val (.int p4), .val (.int p5), .val (.int (p1 &&& (3 : Int32))), .val (.int r7), .val (.int r9), .val (.int ((((((p2.toInt64) + (p3.toInt64)) + (p4.toInt64)) - (r7.toInt64)) - (r9.toInt64)).toInt32)), .val (.ref b10), .unset, .unset, .unset, .unset] [(.int (0 : Int32))])) _
  refine XS.istore X12.here hx rfl (hb hby at_58) rfl (l' := #[.val (.int p1), .val (.int p2), .val (.int p3), .val (.int p4), .val (.int p5), .val (.int (p1 &&& (3 : Int32))), .val (.int r7), .val (.int r9), .val (.int ((((((p2.toInt64) + (p3.toInt64)) + (p4.toInt64)) - (r7.toInt64)) - (r9.toInt64)).toInt32)), .val (.ref b10), .val (.int (0 : Int32)), .unset, .unset, .unset]) rfl ?_
  show Steps p.tables e below (T12.setTop (mkF m 60 #[.val (.int p1), .val (.int p2), .val (.int p3), .val (.int p4), .val (.int p5), .val (.int (p1 &&& (3 : Int32))), .val (.int r7), .val (.int r9), .val (.int ((((((p2.toInt64) + (p3.toInt64)) + (p4.toInt64)) - (r7.toInt64)) - (r9.toInt64)).toInt32)), .val (.ref b10), .val (.int (0 : Int32)), .unset, .unset, .unset] [])) _
  refine XS.iconst X12.here hx rfl (hb hby at_60) ?_
  show Steps p.tables e below (T12.setTop (mkF m 61 #[.val (.int p1), .val (.int p2), .val (.int p3), .val (.int p4), .val (.int p5), .val (.int (p1 &&& (3 : Int32))), .val (.int r7), .val (.int r9), .val (.int ((((((p2.toInt64) + (p3.toInt64)) + (p4.toInt64)) - (r7.toInt64)) - (r9.toInt64)).toInt32)), .val (.ref b10), .val (.int (0 : Int32)), .unset, .unset, .unset] [(.int (0 : Int32))])) _
  refine XS.istore X12.here hx rfl (hb hby at_61) rfl (l' := #[.val (.int p1), .val (.int p2), .val (.int p3), .val (.int p4), .val (.int p5), .val (.int (p1 &&& (3 : Int32))), .val (.int r7), .val (.int r9), .val (.int ((((((p2.toInt64) + (p3.toInt64)) + (p4.toInt64)) - (r7.toInt64)) - (r9.toInt64)).toInt32)), .val (.ref b10), .val (.int (0 : Int32)), .val (.int (0 : Int32)), .unset, .unset]) rfl ?_
  exact kt
set_option maxRecDepth 65536 in
set_option maxHeartbeats 40000000 in
theorem comes_1 {Post : Tables → Env → Array Value → State → Outcome → State → Prop} (hpost : ∀ tb e args s v u, (limb_1_1.after args s (.returned v) u = true ∧ limb_1_2.after args s (.returned v) u = true ∧ True) → ReturnedEndW s (.returned v) u (Jvm.fieldLocs frame_1_writes args s ++ Jvm.arrayLocs frame_1_arrays args s ++ Jvm.staticLocs frame_1_statics s) 24 1152 → Post tb e args s (.returned v) u) :
    ArmFor flags0 classFile x code maxLocals ret World_1 tables_1 room_1 Calls_1 rest_1 Pre_1 Post := by
  intro l hfl _ _ p e ha hc hk s m args below hf hA hF happ hP
  obtain ⟨hcalls, hrest, hpre⟩ := hP
  obtain ⟨-, -, -, hnamed, -, -, -, hat⟩ := (Spec.applies_iff hf).mp happ
  obtain ⟨hg, hn⟩ := and_e (Cond.before_iff.mp (show (Jvm.Cond.and given_1 narrow_1).before args s = true from hpre))
  obtain ⟨g15, g16⟩ := and_e hg
  obtain ⟨g17, g18⟩ := and_e g16
  obtain ⟨g19, g20⟩ := and_e g18
  obtain ⟨g21, g22⟩ := and_e g20
  obtain ⟨g23, g24⟩ := and_e g22
  obtain ⟨w0, w1, w2, w3, w4, rfl⟩ : ∃ w0 w1 w2 w3 w4 : Value, args = #[w0, w1, w2, w3, w4] := by
    have hs : args.size = 5 := by simpa [Cond.value, given_1] using g15
    obtain ⟨L⟩ := args
    match L, hs with
    | [w0, w1, w2, w3, w4], _ => exact ⟨w0, w1, w2, w3, w4, rfl⟩
  have hw := fun d (hd : d ∈ tables_1) => atoms_spec (ws := Jvm.Cond.code x code maxLocals ret :: tables_1) hat d (List.mem_cons_of_mem _ hd)
  have hfit : Fit s := fun {y c} hc i hi => by
    obtain ⟨ha, rfl⟩ := Array.getElem?_eq_some_iff.mp hc
    have q := List.all_eq_true.mp ((Array.all_eq_true_iff_forall_mem.mp hF) _ (Array.getElem_mem ha)) i (List.mem_range.mpr hi)
    simpa [Array.getElem?_eq_getElem hi] using q
  obtain ⟨i0, ei0⟩ := is_v g17
  obtain rfl : w0 = (.int i0) := Option.some.inj ei0
  obtain ⟨i1, ei1⟩ := is_v g19
  obtain rfl : w1 = (.int i1) := Option.some.inj ei1
  obtain ⟨i2, ei2⟩ := is_v g21
  obtain rfl : w2 = (.int i2) := Option.some.inj ei2
  obtain ⟨i3, ei3⟩ := is_v g23
  obtain rfl : w3 = (.int i3) := Option.some.inj ei3
  obtain ⟨i4, ei4⟩ := is_v g24
  obtain rfl : w4 = (.int i4) := Option.some.inj ei4
  obtain ⟨nw0, nw1⟩ := and_e hn
  obtain ⟨w_NO_MEMBERS, v_NO⟩ := arr_v nw0
  have S_NO_MEMBERS := Sta.start v_NO (Or.inr ⟨(hw _ (List.mem_of_getElem? (i := 9) rfl)), (hw _ (List.mem_of_getElem? (i := 36) rfl))⟩)
  obtain ⟨n, o, h1, h2, h3, _, L, rfl, ⟨rfl, N⟩, hq⟩ := rm0 l s _ hw tables_1 i0 i1 i2 i3 i4 w_NO_MEMBERS s.heap s.heap.size (Nat.le_refl _) S_NO_MEMBERS p e ha hc hk s m _ below hf ((Spec.applies_iff_loose hf).mp happ).1 ⟨rfl, State.Warmed39.refl s, rfl⟩ trivial
  refine ⟨n, _, h1, h2, h3, hpost _ _ _ _ _ _ ⟨Cond.after_iff.mpr rfl, Cond.after_iff.mpr (eq_i res_at (Term.int_eval (1)) rfl), trivial⟩ ⟨hq.1, hq.2.1, hq.2.2.1, (hq.2.2.2.sift fun y hy => Or.inr (N y hy)).mono (by decide) (by decide)⟩⟩
theorem main_1_1 : Claimed_1_1 := comes_1 fun _ _ _ _ _ _ h hF => ⟨h.1, hF⟩
theorem main_1_2 : Claimed_1_2 := comes_1 fun _ _ _ _ _ _ h hF => ⟨h.2.1, hF⟩
end Jvm.Pilot.@@N@@
namespace Jvm.Pilot.@@N@@
open Jvm Jvm.ClassFile Sem Op Lib Jvm.Free Jvm.Stand Jvm.Pilot.@@N@@.Jvm.D
/-! MADE BY PROGRAM (witnessworld.py) out of the Statement's table words and the real class files: 21 classes; the members and pool entries that the words name. The judged class is class 1, her method 1. -/
namespace start1
open Jvm.ClassFile
def u (s : String) : CpInfo := .utf8 (stringToUtf16 s)
/-- a pool by its gaps: so many unusable entries, then the entry; so many at the end -/
def gap : Nat → List CpInfo → List CpInfo
  | 0, r => r
  | n + 1, r => .unusable :: gap n r
def poolList (es : List (Nat × CpInfo)) (last : Nat) : List CpInfo := es.foldr (fun e r => gap e.1 (e.2 :: r)) (gap last [])
def pool (es : List (Nat × CpInfo)) (last : Nat) : Array CpInfo := ⟨poolList es last⟩
def fileOf (pool : Array CpInfo) (this : Nat) (attrs : Array Attribute := #[]) (ms : Array MethodInfo := #[]) (fl : Nat := 33) (sup : Nat := 0) (ifs : Array Nat := #[]) (fds : Array FieldInfo := #[]) : ClassFile where
  minorVersion := 0
  majorVersion := 65
  constantPool := pool
  accessFlags := fl
  thisClass := this
  superClass := sup
  interfaces := ifs
  fields := fds
  methods := ms
  attributes := attrs
def plain (name : String) (sup : Option ClassId) : Class where
  name := name
  kind := .ordinary
  loader := none
  accessFlags := 33
  super := sup
  interfaces := #[]
  cf := none
  fields := #[]
  methods := #[]
  instanceTypes := #[]
  staticTypes := #[]
  resolved := #[]
  callSites := []
  init := .initialized
  statics := none
  mirror := none

def pool0 : Array CpInfo := pool [(5, u "<init>"), (0, u "()V"), (1, .class_ 10), (1, u "java/lang/Object")] 113

def k0c0 : Code := { maxStack := 0, maxLocals := 1, code := object_method_1_code, exceptionTable := #[], attributes := #[] }
def k0m0 : Method := { name := "<init>", desc := "()V", sig := { parameters := [], returnType := none }, accessFlags := 1, code := some k0c0 }
/-- java/lang/Object -/
def k0 : Class := { plain "java/lang/Object" none with
  accessFlags := 33
  interfaces := #[]
  cf := some (fileOf pool0 8 #[] #[{ accessFlags := 1, nameIndex := 5, descriptorIndex := 6, attributes := #[] }] 33 0 #[] #[])
  fields := #[]
  methods := #[k0m0]
  instanceTypes := #[]
  staticTypes := #[]
  resolved := Array.replicate 124 none
  statics := none }

def pool1 : Array CpInfo := pool [(2, .class_ 4), (1, u "java/lang/Object"), (0, u "<init>"), (0, u "()V"), (0, .methodref 8 9), (0, .class_ 10), (0, .nameAndType 11 12), (0, u "java/lang/Math"), (0, u "min"), (0, u "(II)I"), (0, .methodref 8 14), (0, .nameAndType 15 12), (0, u "max"), (0, .class_ 17), (0, u "com/example/harbinger/harbinger/broker/Group"), (0, .string 19), (0, u "g"), (0, .methodref 16 21), (0, .nameAndType 5 22), (0, u "(Ljava/lang/String;)V"), (0, .methodref 16 24), (0, .nameAndType 25 26), (0, u "adopt"), (0, u "(I)V"), (0, .methodref 16 28), (0, .nameAndType 29 30), (0, u "precedes"), (0, u "(I)Z"), (0, .class_ 32), (0, u "com/example/harbinger/harbinger/broker/GroupPrecedesPinLaw"), (2, u "law"), (0, u "(IIIII)Z")] 3

def k1m0 : Method := { name := "<init>", desc := "()V", sig := { parameters := [], returnType := none }, accessFlags := 1, code := none }
def k1c1 : Code := { maxStack := 4, maxLocals := 14, code := code, exceptionTable := #[], attributes := #[] }
def k1m1 : Method := { name := "law", desc := "(IIIII)Z", sig := { parameters := [.int, .int, .int, .int, .int], returnType := some .boolean }, accessFlags := 9, code := some k1c1 }
/-- com/example/harbinger/harbinger/broker/GroupPrecedesPinLaw -/
def k1 : Class := { plain "com/example/harbinger/harbinger/broker/GroupPrecedesPinLaw" (some 0) with
  accessFlags := 49
  interfaces := #[]
  cf := some (fileOf pool1 31 #[] #[{ accessFlags := 1, nameIndex := 5, descriptorIndex := 6, attributes := #[] }, { accessFlags := 9, nameIndex := 35, descriptorIndex := 36, attributes := #[] }] 49 2 #[] #[])
  fields := #[]
  methods := #[k1m0, k1m1]
  instanceTypes := #[]
  staticTypes := #[]
  resolved := Array.replicate 40 none
  statics := none }

def pool2 : Array CpInfo := pool [(1, .class_ 2), (0, u "java/lang/Math"), (1, .class_ 6), (1, u "java/lang/Object"), (0, u "<init>"), (0, u "()V"), (89, .class_ 100), (1, u "java/lang/Math$RandomNumberGeneratorHolder"), (71, u "negativeZeroFloatBits"), (0, u "J"), (2, u "negativeZeroDoubleBits"), (21, u "max"), (2, u "min"), (43, u "$assertionsDisabled"), (0, u "Z"), (88, u "(II)I"), (2, u "twoToTheDoubleScaleDown"), (0, u "D"), (4, u "twoToTheDoubleScaleUp"), (9, u "E"), (3, u "PI"), (2, u "TAU"), (2, u "DEGREES_TO_RADIANS"), (0, u "RADIANS_TO_DEGREES")] 94

def k2m0 : Method := { name := "<init>", desc := "()V", sig := { parameters := [], returnType := none }, accessFlags := 2, code := none }
def k2c1 : Code := { maxStack := 2, maxLocals := 2, code := jdk_29_method_65_code, exceptionTable := #[], attributes := #[] }
def k2m1 : Method := { name := "max", desc := "(II)I", sig := { parameters := [.int, .int], returnType := some .int }, accessFlags := 9, code := some k2c1 }
def k2c2 : Code := { maxStack := 2, maxLocals := 2, code := jdk_29_method_69_code, exceptionTable := #[], attributes := #[] }
def k2m2 : Method := { name := "min", desc := "(II)I", sig := { parameters := [.int, .int], returnType := some .int }, accessFlags := 9, code := some k2c2 }
/-- java/lang/Math -/
def k2 : Class := { plain "java/lang/Math" (some 0) with
  accessFlags := 49
  interfaces := #[]
  cf := some (fileOf pool2 1 #[.nestMembers #[98]] #[{ accessFlags := 2, nameIndex := 7, descriptorIndex := 8, attributes := #[] }, { accessFlags := 9, nameIndex := 198, descriptorIndex := 335, attributes := #[] }, { accessFlags := 9, nameIndex := 201, descriptorIndex := 335, attributes := #[] }] 49 4 #[] #[{ accessFlags := 25, nameIndex := 354, descriptorIndex := 339, attributes := #[] }, { accessFlags := 25, nameIndex := 358, descriptorIndex := 339, attributes := #[] }, { accessFlags := 25, nameIndex := 361, descriptorIndex := 339, attributes := #[] }, { accessFlags := 26, nameIndex := 364, descriptorIndex := 339, attributes := #[] }, { accessFlags := 26, nameIndex := 365, descriptorIndex := 339, attributes := #[] }, { accessFlags := 26, nameIndex := 172, descriptorIndex := 173, attributes := #[] }, { accessFlags := 26, nameIndex := 176, descriptorIndex := 173, attributes := #[] }, { accessFlags := 8, nameIndex := 344, descriptorIndex := 339, attributes := #[] }, { accessFlags := 8, nameIndex := 338, descriptorIndex := 339, attributes := #[] }, { accessFlags := 4120, nameIndex := 245, descriptorIndex := 246, attributes := #[] }])
  fields := #[{ name := "E", type := .double, accessFlags := 25, slot := 0, constantValue := 0 }, { name := "PI", type := .double, accessFlags := 25, slot := 1, constantValue := 0 }, { name := "TAU", type := .double, accessFlags := 25, slot := 2, constantValue := 0 }, { name := "DEGREES_TO_RADIANS", type := .double, accessFlags := 26, slot := 3, constantValue := 0 }, { name := "RADIANS_TO_DEGREES", type := .double, accessFlags := 26, slot := 4, constantValue := 0 }, { name := "negativeZeroFloatBits", type := .long, accessFlags := 26, slot := 5, constantValue := 0 }, { name := "negativeZeroDoubleBits", type := .long, accessFlags := 26, slot := 6, constantValue := 0 }, { name := "twoToTheDoubleScaleUp", type := .double, accessFlags := 8, slot := 7, constantValue := 0 }, { name := "twoToTheDoubleScaleDown", type := .double, accessFlags := 8, slot := 8, constantValue := 0 }, { name := "$assertionsDisabled", type := .boolean, accessFlags := 4120, slot := 9, constantValue := 0 }]
  methods := #[k2m0, k2m1, k2m2]
  instanceTypes := #[]
  staticTypes := #[.double, .double, .double, .double, .double, .long, .long, .double, .double, .boolean]
  resolved := Array.replicate 460 none
  statics := none }

def pool3 : Array CpInfo := pool [(1, .methodref 2 3), (0, .class_ 4), (0, .nameAndType 5 6), (0, u "java/lang/Object"), (0, u "<init>"), (0, u "()V"), (2, .long 18446744073709551615), (1, .fieldref 12 13), (0, .class_ 14), (0, .nameAndType 15 16), (0, u "com/example/harbinger/harbinger/broker/Group"), (0, u "last"), (0, u "J"), (0, .fieldref 12 18), (0, .nameAndType 19 20), (0, u "marks"), (0, u "[J"), (0, .fieldref 12 22), (0, .nameAndType 23 24), (0, u "audiences"), (0, u "[I"), (0, .fieldref 12 26), (0, .nameAndType 27 28), (0, u "audience"), (0, u "I"), (0, .fieldref 12 30), (0, .nameAndType 31 32), (0, u "NO_MEMBERS"), (0, u "[Lcom/example/harbinger/harbinger/broker/Mailbox;"), (0, .fieldref 12 34), (0, .nameAndType 35 32), (0, u "members"), (0, .fieldref 12 37), (0, .nameAndType 38 28), (0, u "membersHash"), (0, .fieldref 12 40), (0, .nameAndType 41 42), (0, u "groupId"), (0, u "Ljava/lang/String;"), (2, u "count"), (22, .fieldref 12 69), (0, .nameAndType 70 28), (0, u "audienceCount"), (0, .methodref 72 73), (0, .class_ 74), (0, .nameAndType 75 76), (0, u "java/util/Arrays"), (0, u "copyOf"), (0, u "([II)[I"), (29, u "entered"), (14, u "marked"), (3, .class_ 126), (0, u "com/example/harbinger/harbinger/broker/Group$Snapshot"), (3, u "MARK_EVERY"), (2, u "NO_AUDIENCE"), (1, u "(Ljava/lang/String;)V"), (9, u "precedes"), (0, u "(I)Z"), (0, u "adopt"), (0, u "(I)V")] 17

def k3c0 : Code := { maxStack := 3, maxLocals := 2, code := prog_6_method_1_code, exceptionTable := #[], attributes := #[] }
def k3m0 : Method := { name := "<init>", desc := "(Ljava/lang/String;)V", sig := { parameters := [(.object "java/lang/String")], returnType := none }, accessFlags := 0, code := some k3c0 }
def k3c1 : Code := { maxStack := 3, maxLocals := 2, code := prog_6_method_8_code, exceptionTable := #[], attributes := #[] }
def k3m1 : Method := { name := "precedes", desc := "(I)Z", sig := { parameters := [.int], returnType := some .boolean }, accessFlags := 0, code := some k3c1 }
def k3c2 : Code := { maxStack := 5, maxLocals := 2, code := prog_6_method_9_code, exceptionTable := #[], attributes := #[] }
def k3m2 : Method := { name := "adopt", desc := "(I)V", sig := { parameters := [.int], returnType := none }, accessFlags := 0, code := some k3c2 }
/-- com/example/harbinger/harbinger/broker/Group -/
def k3 : Class := { plain "com/example/harbinger/harbinger/broker/Group" (some 0) with
  accessFlags := 48
  interfaces := #[]
  cf := some (fileOf pool3 12 #[.nestMembers #[125]] #[{ accessFlags := 0, nameIndex := 5, descriptorIndex := 135, attributes := #[] }, { accessFlags := 0, nameIndex := 145, descriptorIndex := 146, attributes := #[] }, { accessFlags := 0, nameIndex := 147, descriptorIndex := 148, attributes := #[] }] 48 2 #[] #[{ accessFlags := 24, nameIndex := 130, descriptorIndex := 28, attributes := #[] }, { accessFlags := 24, nameIndex := 133, descriptorIndex := 28, attributes := #[] }, { accessFlags := 26, nameIndex := 31, descriptorIndex := 32, attributes := #[] }, { accessFlags := 18, nameIndex := 41, descriptorIndex := 42, attributes := #[] }, { accessFlags := 2, nameIndex := 45, descriptorIndex := 16, attributes := #[] }, { accessFlags := 2, nameIndex := 15, descriptorIndex := 16, attributes := #[] }, { accessFlags := 2, nameIndex := 19, descriptorIndex := 20, attributes := #[] }, { accessFlags := 2, nameIndex := 121, descriptorIndex := 28, attributes := #[] }, { accessFlags := 2, nameIndex := 23, descriptorIndex := 24, attributes := #[] }, { accessFlags := 2, nameIndex := 70, descriptorIndex := 28, attributes := #[] }, { accessFlags := 2, nameIndex := 27, descriptorIndex := 28, attributes := #[] }, { accessFlags := 2, nameIndex := 35, descriptorIndex := 32, attributes := #[] }, { accessFlags := 2, nameIndex := 38, descriptorIndex := 28, attributes := #[] }, { accessFlags := 2, nameIndex := 106, descriptorIndex := 28, attributes := #[] }])
  fields := #[{ name := "MARK_EVERY", type := .int, accessFlags := 24, slot := 0, constantValue := 0 }, { name := "NO_AUDIENCE", type := .int, accessFlags := 24, slot := 1, constantValue := 0 }, { name := "NO_MEMBERS", type := (.array (.object "com/example/harbinger/harbinger/broker/Mailbox")), accessFlags := 26, slot := 2, constantValue := 0 }, { name := "groupId", type := (.object "java/lang/String"), accessFlags := 18, slot := 0, constantValue := 0 }, { name := "count", type := .long, accessFlags := 2, slot := 1, constantValue := 0 }, { name := "last", type := .long, accessFlags := 2, slot := 2, constantValue := 0 }, { name := "marks", type := (.array .long), accessFlags := 2, slot := 3, constantValue := 0 }, { name := "marked", type := .int, accessFlags := 2, slot := 4, constantValue := 0 }, { name := "audiences", type := (.array .int), accessFlags := 2, slot := 5, constantValue := 0 }, { name := "audienceCount", type := .int, accessFlags := 2, slot := 6, constantValue := 0 }, { name := "audience", type := .int, accessFlags := 2, slot := 7, constantValue := 0 }, { name := "members", type := (.array (.object "com/example/harbinger/harbinger/broker/Mailbox")), accessFlags := 2, slot := 8, constantValue := 0 }, { name := "membersHash", type := .int, accessFlags := 2, slot := 9, constantValue := 0 }, { name := "entered", type := .int, accessFlags := 2, slot := 10, constantValue := 0 }]
  methods := #[k3m0, k3m1, k3m2]
  instanceTypes := #[(.object "java/lang/String"), .long, .long, (.array .long), .int, (.array .int), .int, .int, (.array (.object "com/example/harbinger/harbinger/broker/Mailbox")), .int, .int]
  staticTypes := #[.int, .int, (.array (.object "com/example/harbinger/harbinger/broker/Mailbox"))]
  resolved := Array.replicate 166 none
  statics := some 0 }

def pool4 : Array CpInfo := pool [(1, .class_ 2), (0, u "java/io/Serializable"), (0, .class_ 4), (0, u "java/lang/Object")] 2

/-- java/io/Serializable -/
def k4 : Class := { plain "java/io/Serializable" (some 0) with
  accessFlags := 1537
  interfaces := #[]
  cf := some (fileOf pool4 1 #[] #[] 1537 3 #[] #[])
  fields := #[]
  methods := #[]
  instanceTypes := #[]
  staticTypes := #[]
  resolved := Array.replicate 7 none
  statics := none }

def pool5 : Array CpInfo := pool [(1, .class_ 2), (0, u "java/lang/Comparable"), (0, .class_ 4), (0, u "java/lang/Object")] 7

/-- java/lang/Comparable -/
def k5 : Class := { plain "java/lang/Comparable" (some 0) with
  accessFlags := 1537
  interfaces := #[]
  cf := some (fileOf pool5 1 #[] #[] 1537 3 #[] #[])
  fields := #[]
  methods := #[]
  instanceTypes := #[]
  staticTypes := #[]
  resolved := Array.replicate 12 none
  statics := none }

def pool6 : Array CpInfo := pool [(2, .class_ 4), (1, u "java/lang/CharSequence"), (42, .class_ 48), (0, u "java/lang/CharSequence$1CodePointIterator"), (10, .class_ 60), (0, u "java/lang/CharSequence$1CharIterator"), (5, .class_ 67), (0, u "java/lang/Object")] 63

/-- java/lang/CharSequence -/
def k6 : Class := { plain "java/lang/CharSequence" (some 0) with
  accessFlags := 1537
  interfaces := #[]
  cf := some (fileOf pool6 2 #[.nestMembers #[47, 59]] #[] 1537 66 #[] #[])
  fields := #[]
  methods := #[]
  instanceTypes := #[]
  staticTypes := #[]
  resolved := Array.replicate 131 none
  statics := none }

def pool7 : Array CpInfo := pool [(1, .class_ 2), (0, u "java/lang/constant/Constable"), (0, .class_ 4), (0, u "java/lang/Object")] 6

/-- java/lang/constant/Constable -/
def k7 : Class := { plain "java/lang/constant/Constable" (some 0) with
  accessFlags := 1537
  interfaces := #[]
  cf := some (fileOf pool7 1 #[] #[] 1537 3 #[] #[])
  fields := #[]
  methods := #[]
  instanceTypes := #[]
  staticTypes := #[]
  resolved := Array.replicate 11 none
  statics := none }

def pool8 : Array CpInfo := pool [(1, .class_ 2), (0, u "java/lang/constant/ConstantDesc"), (0, .class_ 4), (0, u "java/lang/Object")] 32

/-- java/lang/constant/ConstantDesc -/
def k8 : Class := { plain "java/lang/constant/ConstantDesc" (some 0) with
  accessFlags := 1537
  interfaces := #[]
  cf := some (fileOf pool8 1 #[] #[] 1537 3 #[] #[])
  fields := #[]
  methods := #[]
  instanceTypes := #[]
  staticTypes := #[]
  resolved := Array.replicate 37 none
  statics := none }

def pool9 : Array CpInfo := pool [(2, .class_ 4), (1, u "java/lang/Object"), (0, u "<init>"), (0, u "()V"), (3, .class_ 12), (1, u "java/lang/String"), (0, u "value"), (0, u "[B"), (2, u "coder"), (0, u "B"), (2, u "hash"), (0, u "I"), (2, u "hashIsZero"), (0, u "Z"), (13, u "COMPACT_STRINGS"), (534, .class_ 576), (0, u "java/lang/CharSequence"), (22, u "CASE_INSENSITIVE_ORDER"), (0, u "Ljava/util/Comparator;"), (500, u "serialPersistentFields"), (0, u "[Ljava/io/ObjectStreamField;"), (0, .class_ 1104), (0, u "java/lang/String$CaseInsensitiveComparator"), (1, .class_ 1107), (0, u "java/io/Serializable"), (0, .class_ 1109), (0, u "java/lang/Comparable"), (0, .class_ 1111), (0, u "java/lang/constant/Constable"), (0, .class_ 1113), (0, u "java/lang/constant/ConstantDesc"), (2, u "serialVersionUID"), (0, u "J"), (3, u "REPL"), (0, u "C"), (2, u "LATIN1"), (1, u "UTF16")] 323

def k9m0 : Method := { name := "<init>", desc := "()V", sig := { parameters := [], returnType := none }, accessFlags := 1, code := none }
/-- java/lang/String -/
def k9 : Class := { plain "java/lang/String" (some 0) with
  accessFlags := 49
  interfaces := #[4, 5, 6, 7, 8]
  cf := some (fileOf pool9 10 #[.nestMembers #[1103]] #[{ accessFlags := 1, nameIndex := 5, descriptorIndex := 6, attributes := #[] }] 49 2 #[1106, 1108, 575, 1110, 1112] #[{ accessFlags := 18, nameIndex := 13, descriptorIndex := 14, attributes := #[] }, { accessFlags := 18, nameIndex := 17, descriptorIndex := 18, attributes := #[] }, { accessFlags := 2, nameIndex := 21, descriptorIndex := 22, attributes := #[] }, { accessFlags := 2, nameIndex := 25, descriptorIndex := 26, attributes := #[] }, { accessFlags := 26, nameIndex := 1116, descriptorIndex := 1117, attributes := #[] }, { accessFlags := 24, nameIndex := 40, descriptorIndex := 26, attributes := #[] }, { accessFlags := 26, nameIndex := 1101, descriptorIndex := 1102, attributes := #[] }, { accessFlags := 26, nameIndex := 1121, descriptorIndex := 1122, attributes := #[] }, { accessFlags := 25, nameIndex := 599, descriptorIndex := 600, attributes := #[] }, { accessFlags := 24, nameIndex := 1125, descriptorIndex := 18, attributes := #[] }, { accessFlags := 24, nameIndex := 1127, descriptorIndex := 18, attributes := #[] }])
  fields := #[{ name := "value", type := (.array .byte), accessFlags := 18, slot := 0, constantValue := 0 }, { name := "coder", type := .byte, accessFlags := 18, slot := 1, constantValue := 0 }, { name := "hash", type := .int, accessFlags := 2, slot := 2, constantValue := 0 }, { name := "hashIsZero", type := .boolean, accessFlags := 2, slot := 3, constantValue := 0 }, { name := "serialVersionUID", type := .long, accessFlags := 26, slot := 0, constantValue := 0 }, { name := "COMPACT_STRINGS", type := .boolean, accessFlags := 24, slot := 1, constantValue := 0 }, { name := "serialPersistentFields", type := (.array (.object "java/io/ObjectStreamField")), accessFlags := 26, slot := 2, constantValue := 0 }, { name := "REPL", type := .char, accessFlags := 26, slot := 3, constantValue := 0 }, { name := "CASE_INSENSITIVE_ORDER", type := (.object "java/util/Comparator"), accessFlags := 25, slot := 4, constantValue := 0 }, { name := "LATIN1", type := .byte, accessFlags := 24, slot := 5, constantValue := 0 }, { name := "UTF16", type := .byte, accessFlags := 24, slot := 6, constantValue := 0 }]
  methods := #[k9m0]
  instanceTypes := #[(.array .byte), .byte, .int, .boolean]
  staticTypes := #[.long, .boolean, (.array (.object "java/io/ObjectStreamField")), .char, (.object "java/util/Comparator"), .byte, .byte]
  resolved := Array.replicate 1451 none
  statics := none }

def pool10 : Array CpInfo := pool [(2, .class_ 4), (1, u "java/lang/Object"), (0, u "<init>"), (0, u "()V"), (7, .class_ 16), (1, u "java/util/Arrays"), (57, .class_ 76), (1, u "java/util/Arrays$NaturalOrder"), (36, .class_ 115), (1, u "java/util/Arrays$LegacyMergeSort"), (1, u "Z"), (32, .methodref 151 152), (0, .class_ 153), (0, .nameAndType 154 155), (0, u "java/lang/System"), (0, u "arraycopy"), (0, u "(Ljava/lang/Object;ILjava/lang/Object;II)V"), (146, u "copyOf"), (1, .methodref 305 306), (0, .class_ 307), (0, .nameAndType 308 309), (0, u "java/lang/Math"), (0, u "min"), (0, u "(II)I"), (65, .class_ 376), (0, u "java/util/Arrays$ArrayList"), (68, u "$assertionsDisabled"), (269, u "MIN_ARRAY_SORT_GRAN"), (0, u "I"), (2, u "INSERTIONSORT_THRESHOLD"), (151, u "([II)[I"), (103, .class_ 976), (0, u "java/util/Arrays$ArrayItr")] 52

def k10m0 : Method := { name := "<init>", desc := "()V", sig := { parameters := [], returnType := none }, accessFlags := 2, code := none }
def k10c1 : Code := { maxStack := 6, maxLocals := 3, code := jdk_65_method_123_code, exceptionTable := #[], attributes := #[] }
def k10m1 : Method := { name := "copyOf", desc := "([II)[I", sig := { parameters := [(.array .int), .int], returnType := some (.array .int) }, accessFlags := 9, code := some k10c1 }
/-- java/util/Arrays -/
def k10 : Class := { plain "java/util/Arrays" (some 0) with
  accessFlags := 49
  interfaces := #[]
  cf := some (fileOf pool10 14 #[.nestMembers #[975, 375, 113, 74]] #[{ accessFlags := 2, nameIndex := 5, descriptorIndex := 6, attributes := #[] }, { accessFlags := 9, nameIndex := 302, descriptorIndex := 871, attributes := #[] }] 49 2 #[] #[{ accessFlags := 26, nameIndex := 715, descriptorIndex := 716, attributes := #[] }, { accessFlags := 26, nameIndex := 719, descriptorIndex := 716, attributes := #[] }, { accessFlags := 4120, nameIndex := 445, descriptorIndex := 117, attributes := #[] }])
  fields := #[{ name := "MIN_ARRAY_SORT_GRAN", type := .int, accessFlags := 26, slot := 0, constantValue := 0 }, { name := "INSERTIONSORT_THRESHOLD", type := .int, accessFlags := 26, slot := 1, constantValue := 0 }, { name := "$assertionsDisabled", type := .boolean, accessFlags := 4120, slot := 2, constantValue := 0 }]
  methods := #[k10m0, k10m1]
  instanceTypes := #[]
  staticTypes := #[.int, .int, .boolean]
  resolved := Array.replicate 1029 none
  statics := none }

def pool11 : Array CpInfo := pool [(2, .class_ 4), (1, u "java/lang/Object"), (0, u "<init>"), (0, u "()V"), (1, .class_ 10), (1, u "java/lang/System"), (0, u "allowSecurityManager"), (0, u "I"), (16, u "cons"), (0, u "Ljava/io/Console;"), (77, .class_ 110), (1, u "java/lang/System$CallersHolder"), (43, u "initialErrStream"), (0, u "Ljava/io/PrintStream;"), (19, u "security"), (0, u "Ljava/lang/SecurityManager;"), (31, .class_ 209), (0, u "java/lang/System$1"), (7, u "props"), (0, u "Ljava/util/Properties;"), (2, u "lineSeparator"), (0, u "Ljava/lang/String;"), (96, .class_ 321), (1, u "java/lang/System$LoggerFinder"), (5, .class_ 328), (0, u "java/lang/System$Logger"), (67, u "err"), (2, u "out"), (91, u "notSupportedJnuEncoding"), (15, u "in"), (17, u "initialIn"), (0, u "Ljava/io/InputStream;"), (35, u "bootLayer"), (0, u "Ljava/lang/ModuleLayer;"), (99, .class_ 664), (0, u "java/lang/System$2"), (9, u "NEVER"), (2, u "MAYBE"), (49, u "arraycopy"), (0, u "(Ljava/lang/Object;ILjava/lang/Object;II)V"), (72, .class_ 802), (0, u "java/lang/System$Logger$Level")] 31

def k11m0 : Method := { name := "<init>", desc := "()V", sig := { parameters := [], returnType := none }, accessFlags := 2, code := none }
def k11m1 : Method := { name := "arraycopy", desc := "(Ljava/lang/Object;ILjava/lang/Object;II)V", sig := { parameters := [(.object "java/lang/Object"), .int, (.object "java/lang/Object"), .int, .int], returnType := none }, accessFlags := 265, code := none }
/-- java/lang/System -/
def k11 : Class := { plain "java/lang/System" (some 0) with
  accessFlags := 49
  interfaces := #[]
  cf := some (fileOf pool11 8 #[.nestMembers #[319, 327, 801, 108, 663, 208]] #[{ accessFlags := 2, nameIndex := 5, descriptorIndex := 6, attributes := #[] }, { accessFlags := 265, nameIndex := 727, descriptorIndex := 728, attributes := #[] }] 49 2 #[] #[{ accessFlags := 25, nameIndex := 507, descriptorIndex := 526, attributes := #[] }, { accessFlags := 25, nameIndex := 399, descriptorIndex := 155, attributes := #[] }, { accessFlags := 25, nameIndex := 396, descriptorIndex := 155, attributes := #[] }, { accessFlags := 10, nameIndex := 525, descriptorIndex := 526, attributes := #[] }, { accessFlags := 26, nameIndex := 674, descriptorIndex := 12, attributes := #[] }, { accessFlags := 26, nameIndex := 677, descriptorIndex := 12, attributes := #[] }, { accessFlags := 10, nameIndex := 11, descriptorIndex := 12, attributes := #[] }, { accessFlags := 74, nameIndex := 175, descriptorIndex := 176, attributes := #[] }, { accessFlags := 10, nameIndex := 491, descriptorIndex := 222, attributes := #[] }, { accessFlags := 74, nameIndex := 29, descriptorIndex := 30, attributes := #[] }, { accessFlags := 74, nameIndex := 154, descriptorIndex := 155, attributes := #[] }, { accessFlags := 10, nameIndex := 217, descriptorIndex := 218, attributes := #[] }, { accessFlags := 10, nameIndex := 221, descriptorIndex := 222, attributes := #[] }, { accessFlags := 8, nameIndex := 562, descriptorIndex := 563, attributes := #[] }])
  fields := #[{ name := "in", type := (.object "java/io/InputStream"), accessFlags := 25, slot := 0, constantValue := 0 }, { name := "out", type := (.object "java/io/PrintStream"), accessFlags := 25, slot := 1, constantValue := 0 }, { name := "err", type := (.object "java/io/PrintStream"), accessFlags := 25, slot := 2, constantValue := 0 }, { name := "initialIn", type := (.object "java/io/InputStream"), accessFlags := 10, slot := 3, constantValue := 0 }, { name := "NEVER", type := .int, accessFlags := 26, slot := 4, constantValue := 0 }, { name := "MAYBE", type := .int, accessFlags := 26, slot := 5, constantValue := 0 }, { name := "allowSecurityManager", type := .int, accessFlags := 10, slot := 6, constantValue := 0 }, { name := "security", type := (.object "java/lang/SecurityManager"), accessFlags := 74, slot := 7, constantValue := 0 }, { name := "notSupportedJnuEncoding", type := (.object "java/lang/String"), accessFlags := 10, slot := 8, constantValue := 0 }, { name := "cons", type := (.object "java/io/Console"), accessFlags := 74, slot := 9, constantValue := 0 }, { name := "initialErrStream", type := (.object "java/io/PrintStream"), accessFlags := 74, slot := 10, constantValue := 0 }, { name := "props", type := (.object "java/util/Properties"), accessFlags := 10, slot := 11, constantValue := 0 }, { name := "lineSeparator", type := (.object "java/lang/String"), accessFlags := 10, slot := 12, constantValue := 0 }, { name := "bootLayer", type := (.object "java/lang/ModuleLayer"), accessFlags := 8, slot := 13, constantValue := 0 }]
  methods := #[k11m0, k11m1]
  instanceTypes := #[]
  staticTypes := #[(.object "java/io/InputStream"), (.object "java/io/PrintStream"), (.object "java/io/PrintStream"), (.object "java/io/InputStream"), .int, .int, .int, (.object "java/lang/SecurityManager"), (.object "java/lang/String"), (.object "java/io/Console"), (.object "java/io/PrintStream"), (.object "java/util/Properties"), (.object "java/lang/String"), (.object "java/lang/ModuleLayer")]
  resolved := Array.replicate 834 none
  statics := none }

def pool12 : Array CpInfo := pool [(2, .class_ 4), (1, u "java/lang/Object"), (3, .class_ 10), (1, u "com/example/harbinger/harbinger/broker/Mailbox"), (0, u "subscriptionId"), (0, u "Ljava/lang/String;"), (2, u "group"), (0, u "Lcom/example/harbinger/harbinger/broker/Group;"), (2, u "before"), (0, u "J"), (2, u "span"), (0, u "Lcom/example/harbinger/harbinger/broker/Mailbox$Span;"), (7, .class_ 34), (1, u "com/example/harbinger/harbinger/broker/Mailbox$Span"), (28, u "earlier"), (0, u "Ljava/util/List;"), (5, .class_ 71), (0, u "com/example/harbinger/harbinger/broker/Mailbox$Run"), (70, .class_ 143), (0, u "com/example/harbinger/harbinger/broker/Mailbox$Stretch")] 27

/-- com/example/harbinger/harbinger/broker/Mailbox -/
def k12 : Class := { plain "com/example/harbinger/harbinger/broker/Mailbox" (some 0) with
  accessFlags := 48
  interfaces := #[]
  cf := some (fileOf pool12 8 #[.nestMembers #[142, 70, 32]] #[] 48 2 #[] #[{ accessFlags := 18, nameIndex := 11, descriptorIndex := 12, attributes := #[] }, { accessFlags := 2, nameIndex := 15, descriptorIndex := 16, attributes := #[] }, { accessFlags := 2, nameIndex := 23, descriptorIndex := 24, attributes := #[] }, { accessFlags := 2, nameIndex := 19, descriptorIndex := 20, attributes := #[] }, { accessFlags := 2, nameIndex := 63, descriptorIndex := 64, attributes := #[] }])
  fields := #[{ name := "subscriptionId", type := (.object "java/lang/String"), accessFlags := 18, slot := 0, constantValue := 0 }, { name := "group", type := (.object "com/example/harbinger/harbinger/broker/Group"), accessFlags := 2, slot := 1, constantValue := 0 }, { name := "span", type := (.object "com/example/harbinger/harbinger/broker/Mailbox$Span"), accessFlags := 2, slot := 2, constantValue := 0 }, { name := "before", type := .long, accessFlags := 2, slot := 3, constantValue := 0 }, { name := "earlier", type := (.object "java/util/List"), accessFlags := 2, slot := 4, constantValue := 0 }]
  methods := #[]
  instanceTypes := #[(.object "java/lang/String"), (.object "com/example/harbinger/harbinger/broker/Group"), (.object "com/example/harbinger/harbinger/broker/Mailbox$Span"), .long, (.object "java/util/List")]
  staticTypes := #[]
  resolved := Array.replicate 171 none
  statics := none }

def pool13 : Array CpInfo := pool [(1, u "java/lang/Cloneable"), (0, .class_ 1), (0, u "java/lang/Object"), (0, .class_ 3)] 3

/-- java/lang/Cloneable -/
def k13 : Class := { plain "java/lang/Cloneable" (some 0) with
  accessFlags := 1537
  interfaces := #[]
  cf := some (fileOf pool13 2 #[] #[] 1537 4 #[] #[])
  fields := #[]
  methods := #[]
  instanceTypes := #[]
  staticTypes := #[]
  resolved := Array.replicate 8 none
  statics := none }

/-- the primitive byte -/
def k14 : Class := { plain "byte" none with kind := .primitive 'B', accessFlags := 0x411 }
/-- [B -/
def k15 : Class := { plain "[B" (some 0) with kind := .array 14 .byte, interfaces := #[13, 4], accessFlags := 1041 }

/-- the primitive int -/
def k16 : Class := { plain "int" none with kind := .primitive 'I', accessFlags := 0x411 }
/-- [I -/
def k17 : Class := { plain "[I" (some 0) with kind := .array 16 .int, interfaces := #[13, 4], accessFlags := 1041 }

/-- the primitive long -/
def k18 : Class := { plain "long" none with kind := .primitive 'J', accessFlags := 0x411 }
/-- [J -/
def k19 : Class := { plain "[J" (some 0) with kind := .array 18 .long, interfaces := #[13, 4], accessFlags := 1041 }

/-- [Lcom/example/harbinger/harbinger/broker/Mailbox; -/
def k20 : Class := { plain "[Lcom/example/harbinger/harbinger/broker/Mailbox;" (some 0) with kind := .array 12 (.object "com/example/harbinger/harbinger/broker/Mailbox"), interfaces := #[13, 4], accessFlags := 1041 }

def heap : Heap := #[{ cls := 3, slots := #[.int 0, .int 0, .ref 1], vm := .statics 3 },
  { cls := 20, slots := #[], vm := .none }]
def classes : Array Class := #[k0, k1, k2, k3, k4, k5, k6, k7, k8, k9, k10, k11, k12, k13, k14, k15, k16, k17, k18, k19, k20]
def interned : List (Array UInt16 × Addr) := []
def slotsUsed : Nat := 3
def theMethod : MethodId := ⟨1, 1⟩
def args0 : Array Value := #[.int 3, .int 1, .int 2, .int 5, .int 9]
def aboutOver (below : List Frame) : State where
  vm := { classes := classes, interned := interned.toArray }
  heap := heap
  slotsUsed := slotsUsed
  threads := #[{ frames := .invoking theMethod args0 :: below }]
def below0 : List Frame := [.native { method := ⟨0, 0⟩, args := #[] }]
def about1 : State := aboutOver below0
def p0 : Program := .bare "" "" ""
def e0 : Env := launch0.env 0 0 0
theorem w_frames : about1.frames = Frame.invoking theMethod args0 :: below0 := rfl
set_option maxRecDepth 65536 in
theorem w_args : argsFit about1.vm theMethod args0 = true := by decide +kernel
set_option maxRecDepth 65536 in
theorem w_heap : heapFits about1 = true := by decide +kernel
set_option maxRecDepth 65536 in
theorem w_runnable : about1.curStatus? = some .runnable := by decide +kernel
set_option maxRecDepth 65536 in
theorem w_alone : about1.alone = true := by decide +kernel
set_option maxRecDepth 65536 in
theorem w_named : about1.methodNamed? x = some theMethod := by decide +kernel
set_option maxRecDepth 65536 in
theorem w_hears : about1.hears theMethod below0 = true := by decide +kernel
set_option maxRecDepth 65536 in
theorem w_ripe : about1.ripe theMethod args0 below0 = true := by decide +kernel
theorem w_running : about1.status = .running := rfl
set_option maxRecDepth 65536 in
theorem w_room : about1.hasRoom e0.platform room_1 = true :=
  launch0.hasRoom_least _ room_1 (by decide +kernel) (by decide +kernel) (by decide +kernel) (by decide +kernel) (by decide +kernel) (by decide +kernel)
theorem allAtoms_all (ts : List Jvm.Cond) (a : Array Jvm.Value) (st : Jvm.State) : (allAtoms ts).before a st = ts.all (fun c => c.before a st) := by
  induction ts with
  | nil => rfl
  | cons c t ih =>
    show (Jvm.Cond.and c (allAtoms t)).before a st = _
    rw [Jvm.Cond.before_and, ih, List.all_cons]
def words1 : List Jvm.Cond := Jvm.Cond.code x code maxLocals ret :: tables_1
/-- a 'code' word, met by the world's own term for the bytes: nothing is compared byte by byte -/
theorem code_word {y : MethodName} {bytes : ByteArray} {mx : Nat} {rt : Option FieldType} {a : Array Value} {s : State} {m : MethodId} {meth : Method} {c : Code} (h1 : s.methodNamed? y = some m) (h2 : s.vm.method? m = some meth) (h3 : meth.code = some c) (h4 : c.code = bytes)
    (h5 : (c.maxLocals == mx && c.exceptionTable.isEmpty && decide (c.maxStack ≤ mostOperands) && decide (meth.sig.returnType = rt) && !meth.locks && decide (parseMethodDescriptor y.desc = some meth.sig)) = true) : (Jvm.Cond.code y bytes mx rt).before a s = true := by
  simp only [Bool.and_eq_true, beq_iff_eq, Bool.not_eq_true', decide_eq_true_eq] at h5
  obtain ⟨⟨⟨⟨⟨g1, g2⟩, g3⟩, g4⟩, g5⟩, g6⟩ := h5
  simp [Cond.before, Cond.holds, Cond.value, h1, h2, h3, h4, g1, g2, g3, g4, g5, g6]
def isCode : Jvm.Cond → Bool
  | .code _ _ _ _ => true
  | _ => false
theorem all_split {L : List Jvm.Cond} {P : Jvm.Cond → Bool} (h1 : L.all (fun c => isCode c || P c) = true) (h2 : ∀ c ∈ L.filter isCode, P c = true) : L.all P = true := by
  refine List.all_eq_true.mpr fun c hc => ?_
  have h := List.all_eq_true.mp h1 c hc
  rcases Bool.eq_false_or_eq_true (isCode c) with hi | hi
  · exact h2 c (List.mem_filter.mpr ⟨hc, hi⟩)
  · simpa [hi] using h
set_option maxRecDepth 65536 in
theorem w_c0 : (Jvm.Cond.code x code maxLocals ret).before args0 about1 = true := code_word (m := ⟨1, 1⟩) (meth := k1m1) (c := k1c1) (by decide +kernel) rfl rfl rfl (by decide +kernel)
set_option maxRecDepth 65536 in
theorem w_c1 : (Jvm.Cond.code ({ cls := "java/lang/Math", name := "min", desc := "(II)I" } : Jvm.MethodName) jdk_29_method_69_code (2 : Nat) (Option.some Jvm.ClassFile.FieldType.int)).before args0 about1 = true := code_word (m := ⟨2, 2⟩) (meth := k2m2) (c := k2c2) (by decide +kernel) rfl rfl rfl (by decide +kernel)
set_option maxRecDepth 65536 in
theorem w_c2 : (Jvm.Cond.code ({ cls := "java/lang/Math", name := "max", desc := "(II)I" } : Jvm.MethodName) jdk_29_method_65_code (2 : Nat) (Option.some Jvm.ClassFile.FieldType.int)).before args0 about1 = true := code_word (m := ⟨2, 1⟩) (meth := k2m1) (c := k2c1) (by decide +kernel) rfl rfl rfl (by decide +kernel)
set_option maxRecDepth 65536 in
theorem w_c3 : (Jvm.Cond.code ({ cls := "com/example/harbinger/harbinger/broker/Group", name := "<init>", desc := "(Ljava/lang/String;)V" } : Jvm.MethodName) prog_6_method_1_code (2 : Nat) (Option.none : Option Jvm.ClassFile.FieldType)).before args0 about1 = true := code_word (m := ⟨3, 0⟩) (meth := k3m0) (c := k3c0) (by decide +kernel) rfl rfl rfl (by decide +kernel)
set_option maxRecDepth 65536 in
theorem w_c4 : (Jvm.Cond.code ({ cls := "java/lang/Object", name := "<init>", desc := "()V" } : Jvm.MethodName) object_method_1_code (1 : Nat) (Option.none : Option Jvm.ClassFile.FieldType)).before args0 about1 = true := code_word (m := ⟨0, 0⟩) (meth := k0m0) (c := k0c0) (by decide +kernel) rfl rfl rfl (by decide +kernel)
set_option maxRecDepth 65536 in
theorem w_c5 : (Jvm.Cond.code ({ cls := "com/example/harbinger/harbinger/broker/Group", name := "precedes", desc := "(I)Z" } : Jvm.MethodName) prog_6_method_8_code (2 : Nat) (Option.some Jvm.ClassFile.FieldType.boolean)).before args0 about1 = true := code_word (m := ⟨3, 1⟩) (meth := k3m1) (c := k3c1) (by decide +kernel) rfl rfl rfl (by decide +kernel)
set_option maxRecDepth 65536 in
theorem w_c6 : (Jvm.Cond.code ({ cls := "com/example/harbinger/harbinger/broker/Group", name := "adopt", desc := "(I)V" } : Jvm.MethodName) prog_6_method_9_code (2 : Nat) (Option.none : Option Jvm.ClassFile.FieldType)).before args0 about1 = true := code_word (m := ⟨3, 2⟩) (meth := k3m2) (c := k3c2) (by decide +kernel) rfl rfl rfl (by decide +kernel)
set_option maxRecDepth 65536 in
theorem w_c7 : (Jvm.Cond.code ({ cls := "java/util/Arrays", name := "copyOf", desc := "([II)[I" } : Jvm.MethodName) jdk_65_method_123_code (3 : Nat) (Option.some (Jvm.ClassFile.FieldType.array Jvm.ClassFile.FieldType.int))).before args0 about1 = true := code_word (m := ⟨10, 1⟩) (meth := k10m1) (c := k10c1) (by decide +kernel) rfl rfl rfl (by decide +kernel)
def codes1 : List Jvm.Cond := [Jvm.Cond.code x code maxLocals ret, Jvm.Cond.code ({ cls := "java/lang/Math", name := "min", desc := "(II)I" } : Jvm.MethodName) jdk_29_method_69_code (2 : Nat) (Option.some Jvm.ClassFile.FieldType.int), Jvm.Cond.code ({ cls := "java/lang/Math", name := "max", desc := "(II)I" } : Jvm.MethodName) jdk_29_method_65_code (2 : Nat) (Option.some Jvm.ClassFile.FieldType.int), Jvm.Cond.code ({ cls := "com/example/harbinger/harbinger/broker/Group", name := "<init>", desc := "(Ljava/lang/String;)V" } : Jvm.MethodName) prog_6_method_1_code (2 : Nat) (Option.none : Option Jvm.ClassFile.FieldType), Jvm.Cond.code ({ cls := "java/lang/Object", name := "<init>", desc := "()V" } : Jvm.MethodName) object_method_1_code (1 : Nat) (Option.none : Option Jvm.ClassFile.FieldType), Jvm.Cond.code ({ cls := "com/example/harbinger/harbinger/broker/Group", name := "precedes", desc := "(I)Z" } : Jvm.MethodName) prog_6_method_8_code (2 : Nat) (Option.some Jvm.ClassFile.FieldType.boolean), Jvm.Cond.code ({ cls := "com/example/harbinger/harbinger/broker/Group", name := "adopt", desc := "(I)V" } : Jvm.MethodName) prog_6_method_9_code (2 : Nat) (Option.none : Option Jvm.ClassFile.FieldType), Jvm.Cond.code ({ cls := "java/util/Arrays", name := "copyOf", desc := "([II)[I" } : Jvm.MethodName) jdk_65_method_123_code (3 : Nat) (Option.some (Jvm.ClassFile.FieldType.array Jvm.ClassFile.FieldType.int))]
set_option maxRecDepth 65536 in
theorem codes_eq : words1.filter isCode = codes1 := rfl
theorem w_codes : ∀ c ∈ words1.filter isCode, c.before args0 about1 = true := by
  rw [codes_eq]
  intro c hc
  simp only [codes1, List.mem_cons, List.not_mem_nil, or_false] at hc
  rcases hc with rfl | rfl | rfl | rfl | rfl | rfl | rfl | rfl
  · exact w_c0
  · exact w_c1
  · exact w_c2
  · exact w_c3
  · exact w_c4
  · exact w_c5
  · exact w_c6
  · exact w_c7
set_option maxRecDepth 65536 in
theorem w_t1 : (words1.take 24).all (fun c => isCode c || c.before args0 about1) = true := by decide +kernel
set_option maxRecDepth 65536 in
theorem w_t2 : ((words1.drop 24).take 24).all (fun c => isCode c || c.before args0 about1) = true := by decide +kernel
set_option maxRecDepth 65536 in
theorem w_t3 : ((words1.drop 24).drop 24).all (fun c => isCode c || c.before args0 about1) = true := by decide +kernel
theorem w_tables : (allAtoms (Jvm.Cond.code x code maxLocals ret :: tables_1)).before args0 about1 = true := by
  rw [allAtoms_all]
  show words1.all (fun c => c.before args0 about1) = true
  refine all_split ?_ w_codes
  rw [← List.take_append_drop 24 words1, List.all_append, w_t1, ← List.take_append_drop 24 (words1.drop 24), List.all_append, w_t2, w_t3]
  rfl
set_option maxRecDepth 65536 in
theorem w_case : (Jvm.Cond.and given_1 narrow_1).before args0 about1 = true := by decide +kernel
theorem w_applies : (headSpec (Jvm.Cond.code x code maxLocals ret :: tables_1) room_1).applies x e0.platform about1 = true :=
  (Spec.applies_iff w_frames).mpr ⟨w_running, w_runnable, w_alone, w_named, w_hears, w_ripe, w_room, w_tables⟩
theorem atStart : AtStart classFile x code maxLocals ret World_1 tables_1 room_1 Calls_1 rest_1 Pre_1 launch0 p0 e0 about1 theMethod args0 below0 :=
  ⟨lists_1, trivial, launch0.admits_env _ _ _, launch0.least_env, fairChoices_fair.cas, fairChoices_fair.clock, w_frames, w_args, w_heap, w_applies, trivial, trivial, w_case⟩
end start1
theorem witness_1 : WitnessClaimed_1 := ⟨start1.p0, start1.e0, start1.about1, start1.theMethod, start1.args0, start1.below0, start1.atStart⟩
end Jvm.Pilot.@@N@@
