import JvmDerived
import JvmDerived.Pilot.@@N@@Statement
import JvmDerived.Pilot.@@N@@Code
set_option linter.unusedVariables false
set_option linter.unusedSimpArgs false
namespace Jvm.RoadKit
open Sem ClassFile Op Lib Jvm.Stand Jvm.Free Jvm.LawKit
section New
variable {p : Program} {l : Launch} {e : Env} {R : Room} {s : State} {m : MethodId} {args : Array Value} {below : List Frame} {meth : Method} {c : Code} {T : State} {locs : List Loc} {cells slots : Nat}
theorem retI (X : Stand p l e R s m args below meth c T locs cells slots) (hx : p.tables.exec = Jvm.exec) {pc : Nat} {Ls : Array Slot} {z : Int32} {rest : List Value} (hret : meth.sig.returnType = some .int) (hd : decode c.code pc = .ok (.ireturn, 1)) {fs : List Frame}
    (hl : ∀ (f : JFrame) (acts : List Action), f.method = m → f.locked = none → f.entered = [] → (doReturn e (T.setTop f) acts (some (.int z))).1 = T.setFrames fs) : Steps p.tables e below (T.setTop (mkF m pc Ls (.int z :: rest))) (T.setFrames fs) := by
  have hm' : T.vm.method? m = some meth := X.method'
  have hn : narrow .int (.int z) = .int z := rfl
  show Steps p.tables e below (T.setTop { method := m, pc := pc, locals := Ls, stack := _ :: rest, locked := none }) _
  jvm_step X.here [X.here.top, hx, hd, hm', hret, hn]
  first | (intro acts; rw [hl _ acts rfl rfl rfl]) | rw [hl _ _ rfl rfl rfl]
  exact Steps.refl _
end New
end Jvm.RoadKit
namespace Jvm.Pilot.@@N@@
open Jvm Jvm.ClassFile Sem Op Lib Jvm.Free Jvm.Stand Jvm.LawKit Jvm.RoadKit Bundle Jvm.Pilot.@@N@@.Jvm.D
def Q0 (n0 : Nat) (v : Option Value) (h : Heap) (L : List Loc) : Prop := v = some (.int (1 : Int32)) ∧ Fr n0 L
def Qv (r : Value) (h0 : Heap) (n0 : Nat) (v : Option Value) (h : Heap) (L : List Loc) : Prop := v = some r ∧ Fr n0 L ∧ h = h0
theorem own_int {args : Array Value} {s : State} {t : Term} {C n d : String} {k : Int32} {a : Addr} (ht : t.eval args s none [] s = some (.ref a)) (h : (Jvm.Cond.eq (.field t C n d) (.int k)).value args s none s [] = some true) : s.fieldOf? a C n d = some (.int k) := by
  cases hf : s.fieldOf? a C n d with
  | none => simp [Jvm.Cond.value, Term.eval, ht, hf] at h
  | some w => cases w <;> simp_all [Jvm.Cond.value, Term.eval]
theorem own_val {args : Array Value} {s : State} {t u : Term} {C n d : String} {v : Value} {a : Addr} (ht : t.eval args s none [] s = some (.ref a)) (hu : u.eval args s none [] s = some v) (hv : v.isRef = true) (h : (Jvm.Cond.eq (.field t C n d) u).value args s none s [] = some true) : s.fieldOf? a C n d = some v := by
  cases hf : s.fieldOf? a C n d with
  | none => simp [Jvm.Cond.value, Term.eval, ht, hf] at h
  | some w => rcases ref_cases hv with rfl | ⟨b, rfl⟩ <;> cases w <;> simp_all [Jvm.Cond.value, Term.eval]
theorem own_ne {s : State} {C n d : String} {a b : Addr} {i j : Int32} (ha : s.fieldOf? a C n d = some (.int i)) (hb : s.fieldOf? b C n d = some (.int j)) (h : i ≠ j) : ¬ a = b := fun q => by
  subst q; rw [ha] at hb; exact h (Value.int.inj (Option.some.inj hb))
theorem d1_0 : decode prog_68_method_5_code 0 = .ok (.aload_n 0, 1) := by decide +kernel
theorem d1_1 : decode prog_68_method_5_code 1 = .ok (.getstatic 19, 3) := by decide +kernel
theorem d1_4 : decode prog_68_method_5_code 4 = .ok (.if_acmp .eq 10, 3) := by decide +kernel
theorem d1_14 : decode prog_68_method_5_code 14 = .ok (.iconst 1, 1) := by decide +kernel
theorem d1_15 : decode prog_68_method_5_code 15 = .ok (.goto 4, 3) := by decide +kernel
theorem d1_19 : decode prog_68_method_5_code 19 = .ok (.ireturn, 1) := by decide +kernel
theorem pn_1 : plainName "com/example/applied_pi_checker/appliedpichecker/FunctionSymbol$Kind" = true := by first | (simp [plainName, overriddenIn]; done) | decide +kernel
theorem ef_1 (m : MethodId) (x0 : Addr) : entryFrame m #[(.ref x0)] 1 = mkF m 0 #[.val (.ref x0)] [] := by first | (simp [entryFrame, mkF, argsToLocals, Value.category]; done) | rfl
theorem d1_7 : decode prog_68_method_5_code 7 = .ok (.aload_n 0, 1) := by decide +kernel
theorem d1_8 : decode prog_68_method_5_code 8 = .ok (.getstatic 25, 3) := by decide +kernel
theorem d1_11 : decode prog_68_method_5_code 11 = .ok (.if_acmp .ne 7, 3) := by decide +kernel
theorem d1_18 : decode prog_68_method_5_code 18 = .ok (.iconst 0, 1) := by decide +kernel
set_option maxRecDepth 65536 in
set_option maxHeartbeats 40000000 in
theorem rm1_t (l : Launch) (Z : State) (a0 : Array Value) (hw : ∀ d ∈ tables_1, d.before a0 Z = true) (ws : List Jvm.Cond) (a1 : Addr) (w_DATA : Addr) (h0 : Heap) (n0 : Nat) (Z0 : n0 ≤ h0.size) (S_DATA : Sta Z h0 "com/example/applied_pi_checker/appliedpichecker/FunctionSymbol$Kind" "DATA" "Lcom/example/applied_pi_checker/appliedpichecker/FunctionSymbol$Kind;" (.ref w_DATA)) (ha4 : a1 = w_DATA) :
    MetFree l (⟨"com/example/applied_pi_checker/appliedpichecker/FunctionSymbol$Kind", "isData", "()Z"⟩ : MethodName) (head1 (Jvm.Cond.code (⟨"com/example/applied_pi_checker/appliedpichecker/FunctionSymbol$Kind", "isData", "()Z"⟩ : MethodName) prog_68_method_5_code 1 (some .boolean) :: ws) ({ frames := 0, cells := 0, slots := 0, locals := 0 } : Room)) (fun a U => a = #[(.ref a1)] ∧ Z.Warmed39 U.vm ∧ U.heap = h0) (fun _ _ _ _ _ => True) (fun _ U o U' => ∃ v L, o = .returned v ∧ Qv (.int (1 : Int32)) h0 n0 v U'.heap L ∧ FrameEnd U o U' L ({ frames := 0, cells := 0, slots := 0, locals := 0 } : Room).cells ({ frames := 0, cells := 0, slots := 0, locals := 0 } : Room).slots) := by
  refine MetFree.of_bodySF (plainFor_of_name pn_1) hisR ?_
  intro p e s m args below meth c s₁ Bd hml0 hP hK
  obtain ⟨rfl, hZ, hh⟩ := hP
  have hx := Bd.exec
  have hby := Bd.bytes
  have hml : c.maxLocals = 1 := hml0
  have hown : s.vm.findClass "com/example/applied_pi_checker/appliedpichecker/FunctionSymbol$Kind" = some m.cls := findClass_of_methodNamed Bd.named
  have hnm := (name_of_methodNamed Bd.named Bd.method).1
  have X0 : Stand p l e ({ frames := 0, cells := 0, slots := 0, locals := 0 } : Room) s m #[(.ref a1)] below meth c s₁ [] 0 0 := Stand.of_body Bd
  have e0 : s₁.heap = h0 := by rw [← hh, Bd.state]; rfl
  have N0 := Fr.nil n0
  have pre0 : ∀ t, Steps p.tables e below (s₁.setTop (mkF m 0 #[.val (.ref a1)] [])) t → Steps p.tables e below (s₁.setTop (entryFrame m #[(.ref a1)] 1)) t := fun t k => castTop (ef_1 m a1) k
  -- 3. LAWS
  obtain ⟨T2, X2, e2, st2⟩ := getS2 X0 hx hZ hown (host := "") (Or.inl (hw _ (List.mem_of_getElem? (i := 9) rfl))) Via.refl e0 S_DATA (g := (mkF m 1 #[.val (.ref a1)] [(.ref a1)])) rfl (hb hby d1_1)
  obtain ⟨fs, hr, hrun, hended, hW, hsame⟩ := X2.leave (v := some (.int (1 : Int32))) (fun h => by rw [Bd.returns] at h; cases h)
  refine ⟨_, _, pre0 _ ?_, hrun, hended, _, _, rfl, ?_, ⟨_, rfl⟩, hW, hsame.mono (by decide) (by decide)⟩
  -- 4. STEPS
  · show Steps p.tables e below (s₁.setTop (mkF m 0 #[.val (.ref a1)] [])) _
    refine XS.aloadN X0.here hx rfl (hb hby d1_0) rfl rfl ?_
    show Steps p.tables e below (s₁.setTop (mkF m 1 #[.val (.ref a1)] [(.ref a1)])) _
    refine st2 _ ?_
    show Steps p.tables e below (T2.setTop (mkF m 4 #[.val (.ref a1)] [(.ref w_DATA), (.ref a1)])) _
    refine Jvm.RoadKit.acmp (g := (mkF m 4 #[.val (.ref a1)] [(.ref w_DATA), (.ref a1)])) X2 hx rfl rfl rfl (pc0 := 4) (pc' := 14) (same := true) rfl (hb hby d1_4) rfl (decide_eq_true (congrArg Value.ref ha4)) (by decide) (by decide) ?_
    show Steps p.tables e below (T2.setTop (mkF m 14 #[.val (.ref a1)] [])) _
    refine XS.iconst X2.here hx rfl (hb hby d1_14) ?_
    show Steps p.tables e below (T2.setTop (mkF m 15 #[.val (.ref a1)] [(.int (1 : Int32))])) _
    refine XS.goto X2.here hx rfl (pc0 := 15) (pc' := 19) rfl (hb hby d1_15) (by decide) (by decide) ?_
    show Steps p.tables e below (T2.setTop (mkF m 19 #[.val (.ref a1)] [(.int (1 : Int32))])) _
    exact retN X2 hx (t := .boolean) Bd.returns (by simp) (hb hby d1_19) hr
  · show Qv (.int (1 : Int32)) h0 n0 _ T2.heap _
    rw [e2]
    exact ⟨rfl, N0, rfl⟩
set_option maxRecDepth 65536 in
set_option maxHeartbeats 40000000 in
theorem rm1_ff (l : Launch) (Z : State) (a0 : Array Value) (hw : ∀ d ∈ tables_1, d.before a0 Z = true) (ws : List Jvm.Cond) (a1 : Addr) (w_DATA : Addr) (w_TUPLE : Addr) (h0 : Heap) (n0 : Nat) (Z0 : n0 ≤ h0.size) (S_DATA : Sta Z h0 "com/example/applied_pi_checker/appliedpichecker/FunctionSymbol$Kind" "DATA" "Lcom/example/applied_pi_checker/appliedpichecker/FunctionSymbol$Kind;" (.ref w_DATA)) (S_TUPLE : Sta Z h0 "com/example/applied_pi_checker/appliedpichecker/FunctionSymbol$Kind" "TUPLE" "Lcom/example/applied_pi_checker/appliedpichecker/FunctionSymbol$Kind;" (.ref w_TUPLE)) (ha4 : ¬ (a1 = w_DATA)) (ha11 : a1 = w_TUPLE) :
    MetFree l (⟨"com/example/applied_pi_checker/appliedpichecker/FunctionSymbol$Kind", "isData", "()Z"⟩ : MethodName) (head1 (Jvm.Cond.code (⟨"com/example/applied_pi_checker/appliedpichecker/FunctionSymbol$Kind", "isData", "()Z"⟩ : MethodName) prog_68_method_5_code 1 (some .boolean) :: ws) ({ frames := 0, cells := 0, slots := 0, locals := 0 } : Room)) (fun a U => a = #[(.ref a1)] ∧ Z.Warmed39 U.vm ∧ U.heap = h0) (fun _ _ _ _ _ => True) (fun _ U o U' => ∃ v L, o = .returned v ∧ Qv (.int (1 : Int32)) h0 n0 v U'.heap L ∧ FrameEnd U o U' L ({ frames := 0, cells := 0, slots := 0, locals := 0 } : Room).cells ({ frames := 0, cells := 0, slots := 0, locals := 0 } : Room).slots) := by
  refine MetFree.of_bodySF (plainFor_of_name pn_1) hisR ?_
  intro p e s m args below meth c s₁ Bd hml0 hP hK
  obtain ⟨rfl, hZ, hh⟩ := hP
  have hx := Bd.exec
  have hby := Bd.bytes
  have hml : c.maxLocals = 1 := hml0
  have hown : s.vm.findClass "com/example/applied_pi_checker/appliedpichecker/FunctionSymbol$Kind" = some m.cls := findClass_of_methodNamed Bd.named
  have hnm := (name_of_methodNamed Bd.named Bd.method).1
  have X0 : Stand p l e ({ frames := 0, cells := 0, slots := 0, locals := 0 } : Room) s m #[(.ref a1)] below meth c s₁ [] 0 0 := Stand.of_body Bd
  have e0 : s₁.heap = h0 := by rw [← hh, Bd.state]; rfl
  have N0 := Fr.nil n0
  have pre0 : ∀ t, Steps p.tables e below (s₁.setTop (mkF m 0 #[.val (.ref a1)] [])) t → Steps p.tables e below (s₁.setTop (entryFrame m #[(.ref a1)] 1)) t := fun t k => castTop (ef_1 m a1) k
  -- 3. LAWS
  obtain ⟨T2, X2, e2, st2⟩ := getS2 X0 hx hZ hown (host := "") (Or.inl (hw _ (List.mem_of_getElem? (i := 9) rfl))) Via.refl e0 S_DATA (g := (mkF m 1 #[.val (.ref a1)] [(.ref a1)])) rfl (hb hby d1_1)
  obtain ⟨T3, X3, e3, st3⟩ := getS2 X2 hx hZ hown (host := "") (Or.inl (hw _ (List.mem_of_getElem? (i := 11) rfl))) Via.refl e2 S_TUPLE (g := (mkF m 8 #[.val (.ref a1)] [(.ref a1)])) rfl (hb hby d1_8)
  obtain ⟨fs, hr, hrun, hended, hW, hsame⟩ := X3.leave (v := some (.int (1 : Int32))) (fun h => by rw [Bd.returns] at h; cases h)
  refine ⟨_, _, pre0 _ ?_, hrun, hended, _, _, rfl, ?_, ⟨_, rfl⟩, hW, hsame.mono (by decide) (by decide)⟩
  -- 4. STEPS
  · show Steps p.tables e below (s₁.setTop (mkF m 0 #[.val (.ref a1)] [])) _
    refine XS.aloadN X0.here hx rfl (hb hby d1_0) rfl rfl ?_
    show Steps p.tables e below (s₁.setTop (mkF m 1 #[.val (.ref a1)] [(.ref a1)])) _
    refine st2 _ ?_
    show Steps p.tables e below (T2.setTop (mkF m 4 #[.val (.ref a1)] [(.ref w_DATA), (.ref a1)])) _
    refine Jvm.RoadKit.acmp (g := (mkF m 4 #[.val (.ref a1)] [(.ref w_DATA), (.ref a1)])) X2 hx rfl rfl rfl (pc0 := 4) (pc' := 7) (same := false) rfl (hb hby d1_4) rfl (decide_eq_false fun q => ha4 (Value.ref.inj q)) (by decide) (by decide) ?_
    show Steps p.tables e below (T2.setTop (mkF m 7 #[.val (.ref a1)] [])) _
    refine XS.aloadN X2.here hx rfl (hb hby d1_7) rfl rfl ?_
    show Steps p.tables e below (T2.setTop (mkF m 8 #[.val (.ref a1)] [(.ref a1)])) _
    refine st3 _ ?_
    show Steps p.tables e below (T3.setTop (mkF m 11 #[.val (.ref a1)] [(.ref w_TUPLE), (.ref a1)])) _
    refine Jvm.RoadKit.acmp (g := (mkF m 11 #[.val (.ref a1)] [(.ref w_TUPLE), (.ref a1)])) X3 hx rfl rfl rfl (pc0 := 11) (pc' := 14) (same := true) rfl (hb hby d1_11) rfl (decide_eq_true (congrArg Value.ref ha11)) (by decide) (by decide) ?_
    show Steps p.tables e below (T3.setTop (mkF m 14 #[.val (.ref a1)] [])) _
    refine XS.iconst X3.here hx rfl (hb hby d1_14) ?_
    show Steps p.tables e below (T3.setTop (mkF m 15 #[.val (.ref a1)] [(.int (1 : Int32))])) _
    refine XS.goto X3.here hx rfl (pc0 := 15) (pc' := 19) rfl (hb hby d1_15) (by decide) (by decide) ?_
    show Steps p.tables e below (T3.setTop (mkF m 19 #[.val (.ref a1)] [(.int (1 : Int32))])) _
    exact retN X3 hx (t := .boolean) Bd.returns (by simp) (hb hby d1_19) hr
  · show Qv (.int (1 : Int32)) h0 n0 _ T3.heap _
    rw [e3]
    exact ⟨rfl, N0, rfl⟩
set_option maxRecDepth 65536 in
set_option maxHeartbeats 40000000 in
theorem rm1_ft (l : Launch) (Z : State) (a0 : Array Value) (hw : ∀ d ∈ tables_1, d.before a0 Z = true) (ws : List Jvm.Cond) (a1 : Addr) (w_DATA : Addr) (w_TUPLE : Addr) (h0 : Heap) (n0 : Nat) (Z0 : n0 ≤ h0.size) (S_DATA : Sta Z h0 "com/example/applied_pi_checker/appliedpichecker/FunctionSymbol$Kind" "DATA" "Lcom/example/applied_pi_checker/appliedpichecker/FunctionSymbol$Kind;" (.ref w_DATA)) (S_TUPLE : Sta Z h0 "com/example/applied_pi_checker/appliedpichecker/FunctionSymbol$Kind" "TUPLE" "Lcom/example/applied_pi_checker/appliedpichecker/FunctionSymbol$Kind;" (.ref w_TUPLE)) (ha4 : ¬ (a1 = w_DATA)) (ha11 : ¬ (a1 = w_TUPLE)) :
    MetFree l (⟨"com/example/applied_pi_checker/appliedpichecker/FunctionSymbol$Kind", "isData", "()Z"⟩ : MethodName) (head1 (Jvm.Cond.code (⟨"com/example/applied_pi_checker/appliedpichecker/FunctionSymbol$Kind", "isData", "()Z"⟩ : MethodName) prog_68_method_5_code 1 (some .boolean) :: ws) ({ frames := 0, cells := 0, slots := 0, locals := 0 } : Room)) (fun a U => a = #[(.ref a1)] ∧ Z.Warmed39 U.vm ∧ U.heap = h0) (fun _ _ _ _ _ => True) (fun _ U o U' => ∃ v L, o = .returned v ∧ Qv (.int (0 : Int32)) h0 n0 v U'.heap L ∧ FrameEnd U o U' L ({ frames := 0, cells := 0, slots := 0, locals := 0 } : Room).cells ({ frames := 0, cells := 0, slots := 0, locals := 0 } : Room).slots) := by
  refine MetFree.of_bodySF (plainFor_of_name pn_1) hisR ?_
  intro p e s m args below meth c s₁ Bd hml0 hP hK
  obtain ⟨rfl, hZ, hh⟩ := hP
  have hx := Bd.exec
  have hby := Bd.bytes
  have hml : c.maxLocals = 1 := hml0
  have hown : s.vm.findClass "com/example/applied_pi_checker/appliedpichecker/FunctionSymbol$Kind" = some m.cls := findClass_of_methodNamed Bd.named
  have hnm := (name_of_methodNamed Bd.named Bd.method).1
  have X0 : Stand p l e ({ frames := 0, cells := 0, slots := 0, locals := 0 } : Room) s m #[(.ref a1)] below meth c s₁ [] 0 0 := Stand.of_body Bd
  have e0 : s₁.heap = h0 := by rw [← hh, Bd.state]; rfl
  have N0 := Fr.nil n0
  have pre0 : ∀ t, Steps p.tables e below (s₁.setTop (mkF m 0 #[.val (.ref a1)] [])) t → Steps p.tables e below (s₁.setTop (entryFrame m #[(.ref a1)] 1)) t := fun t k => castTop (ef_1 m a1) k
  -- 3. LAWS
  obtain ⟨T2, X2, e2, st2⟩ := getS2 X0 hx hZ hown (host := "") (Or.inl (hw _ (List.mem_of_getElem? (i := 9) rfl))) Via.refl e0 S_DATA (g := (mkF m 1 #[.val (.ref a1)] [(.ref a1)])) rfl (hb hby d1_1)
  obtain ⟨T3, X3, e3, st3⟩ := getS2 X2 hx hZ hown (host := "") (Or.inl (hw _ (List.mem_of_getElem? (i := 11) rfl))) Via.refl e2 S_TUPLE (g := (mkF m 8 #[.val (.ref a1)] [(.ref a1)])) rfl (hb hby d1_8)
  obtain ⟨fs, hr, hrun, hended, hW, hsame⟩ := X3.leave (v := some (.int (0 : Int32))) (fun h => by rw [Bd.returns] at h; cases h)
  refine ⟨_, _, pre0 _ ?_, hrun, hended, _, _, rfl, ?_, ⟨_, rfl⟩, hW, hsame.mono (by decide) (by decide)⟩
  -- 4. STEPS
  · show Steps p.tables e below (s₁.setTop (mkF m 0 #[.val (.ref a1)] [])) _
    refine XS.aloadN X0.here hx rfl (hb hby d1_0) rfl rfl ?_
    show Steps p.tables e below (s₁.setTop (mkF m 1 #[.val (.ref a1)] [(.ref a1)])) _
    refine st2 _ ?_
    show Steps p.tables e below (T2.setTop (mkF m 4 #[.val (.ref a1)] [(.ref w_DATA), (.ref a1)])) _
    refine Jvm.RoadKit.acmp (g := (mkF m 4 #[.val (.ref a1)] [(.ref w_DATA), (.ref a1)])) X2 hx rfl rfl rfl (pc0 := 4) (pc' := 7) (same := false) rfl (hb hby d1_4) rfl (decide_eq_false fun q => ha4 (Value.ref.inj q)) (by decide) (by decide) ?_
    show Steps p.tables e below (T2.setTop (mkF m 7 #[.val (.ref a1)] [])) _
    refine XS.aloadN X2.here hx rfl (hb hby d1_7) rfl rfl ?_
    show Steps p.tables e below (T2.setTop (mkF m 8 #[.val (.ref a1)] [(.ref a1)])) _
    refine st3 _ ?_
    show Steps p.tables e below (T3.setTop (mkF m 11 #[.val (.ref a1)] [(.ref w_TUPLE), (.ref a1)])) _
    refine Jvm.RoadKit.acmp (g := (mkF m 11 #[.val (.ref a1)] [(.ref w_TUPLE), (.ref a1)])) X3 hx rfl rfl rfl (pc0 := 11) (pc' := 18) (same := false) rfl (hb hby d1_11) rfl (decide_eq_false fun q => ha11 (Value.ref.inj q)) (by decide) (by decide) ?_
    show Steps p.tables e below (T3.setTop (mkF m 18 #[.val (.ref a1)] [])) _
    refine XS.iconst X3.here hx rfl (hb hby d1_18) ?_
    show Steps p.tables e below (T3.setTop (mkF m 19 #[.val (.ref a1)] [(.int (0 : Int32))])) _
    exact retN X3 hx (t := .boolean) Bd.returns (by simp) (hb hby d1_19) hr
  · show Qv (.int (0 : Int32)) h0 n0 _ T3.heap _
    rw [e3]
    exact ⟨rfl, N0, rfl⟩
def R1 (a1 : Addr) (w_DATA : Addr) (w_TUPLE : Addr) (r : Int32) : Prop := ((a1 = w_DATA) ∧ r = (1 : Int32)) ∨ ((¬ (a1 = w_DATA)) ∧ (a1 = w_TUPLE) ∧ r = (1 : Int32)) ∨ ((¬ (a1 = w_DATA)) ∧ (¬ (a1 = w_TUPLE)) ∧ r = (0 : Int32))
theorem rm1 (l : Launch) (Z : State) (a0 : Array Value) (hw : ∀ d ∈ tables_1, d.before a0 Z = true) (ws : List Jvm.Cond) (a1 : Addr) (w_DATA : Addr) (w_TUPLE : Addr) (r : Int32) (h0 : Heap) (n0 : Nat) (Z0 : n0 ≤ h0.size) (S_DATA : Sta Z h0 "com/example/applied_pi_checker/appliedpichecker/FunctionSymbol$Kind" "DATA" "Lcom/example/applied_pi_checker/appliedpichecker/FunctionSymbol$Kind;" (.ref w_DATA)) (S_TUPLE : Sta Z h0 "com/example/applied_pi_checker/appliedpichecker/FunctionSymbol$Kind" "TUPLE" "Lcom/example/applied_pi_checker/appliedpichecker/FunctionSymbol$Kind;" (.ref w_TUPLE)) (hR : R1 a1 w_DATA w_TUPLE r) :
    MetFree l (⟨"com/example/applied_pi_checker/appliedpichecker/FunctionSymbol$Kind", "isData", "()Z"⟩ : MethodName) (head1 (Jvm.Cond.code (⟨"com/example/applied_pi_checker/appliedpichecker/FunctionSymbol$Kind", "isData", "()Z"⟩ : MethodName) prog_68_method_5_code 1 (some .boolean) :: ws) ({ frames := 0, cells := 0, slots := 0, locals := 0 } : Room)) (fun a U => a = #[(.ref a1)] ∧ Z.Warmed39 U.vm ∧ U.heap = h0) (fun _ _ _ _ _ => True) (fun _ U o U' => ∃ v L, o = .returned v ∧ Qv (.int r) h0 n0 v U'.heap L ∧ FrameEnd U o U' L ({ frames := 0, cells := 0, slots := 0, locals := 0 } : Room).cells ({ frames := 0, cells := 0, slots := 0, locals := 0 } : Room).slots) := by
  rcases hR with ⟨ha4, hr⟩ | ⟨ha4, ha11, hr⟩ | ⟨ha4, ha11, hr⟩
  · rw [hr]; exact rm1_t l Z a0 hw ws a1 w_DATA h0 n0 Z0 S_DATA ha4
  · rw [hr]; exact rm1_ff l Z a0 hw ws a1 w_DATA w_TUPLE h0 n0 Z0 S_DATA S_TUPLE ha4 ha11
  · rw [hr]; exact rm1_ft l Z a0 hw ws a1 w_DATA w_TUPLE h0 n0 Z0 S_DATA S_TUPLE ha4 ha11
theorem pn_0 : plainName "com/example/applied_pi_checker/appliedpichecker/KindIsDataPinLaw" = true := by first | (simp [plainName, overriddenIn]; done) | decide +kernel
theorem pd_0_0 : parseMethodDescriptor "()Z" = some ⟨[], some .boolean⟩ := by decide +kernel
theorem ef_0 (m : MethodId) (x0 : Int32) : entryFrame m #[(.int x0)] maxLocals = mkF m 0 #[.val (.int x0), .unset, .unset, .unset] [] := by first | (simp [entryFrame, mkF, argsToLocals, Value.category, maxLocals]; done) | rfl
set_option maxRecDepth 65536 in
set_option maxHeartbeats 40000000 in
theorem rm0_c0 (l : Launch) (Z : State) (a0 : Array Value) (hw : ∀ d ∈ tables_1, d.before a0 Z = true) (ws : List Jvm.Cond) (p1 : Int32) (w_FREE_NAME : Addr) (w_DATA : Addr) (w_TUPLE : Addr) (r3 : Int32) (h0 : Heap) (n0 : Nat) (Z0 : n0 ≤ h0.size) (S_FREE_NAME : Sta Z h0 "com/example/applied_pi_checker/appliedpichecker/FunctionSymbol$Kind" "FREE_NAME" "Lcom/example/applied_pi_checker/appliedpichecker/FunctionSymbol$Kind;" (.ref w_FREE_NAME)) (S_DATA : Sta Z h0 "com/example/applied_pi_checker/appliedpichecker/FunctionSymbol$Kind" "DATA" "Lcom/example/applied_pi_checker/appliedpichecker/FunctionSymbol$Kind;" (.ref w_DATA)) (S_TUPLE : Sta Z h0 "com/example/applied_pi_checker/appliedpichecker/FunctionSymbol$Kind" "TUPLE" "Lcom/example/applied_pi_checker/appliedpichecker/FunctionSymbol$Kind;" (.ref w_TUPLE)) (P3 : R1 w_FREE_NAME w_DATA w_TUPLE r3) (E_FREE_NAME : Exa Z h0 w_FREE_NAME "com/example/applied_pi_checker/appliedpichecker/FunctionSymbol$Kind") (hc9 : ((p1 &&& (2147483647 : Int32)) % (12 : Int32)) = (0 : Int32)) (hc177 : r3 = (0 : Int32)) :
    MetFree l x (head1 (Jvm.Cond.code x code maxLocals ret :: ws) room_1) (fun a U => a = #[(.int p1)] ∧ Z.Warmed39 U.vm ∧ U.heap = h0) (fun _ _ _ _ _ => True) (fun _ U o U' => ∃ v L, o = .returned v ∧ Q0 n0 v U'.heap L ∧ FrameEnd U o U' L room_1.cells room_1.slots) := by
  refine MetFree.of_bodySF (plainFor_of_name pn_0) hisR ?_
  intro p e s m args below meth c s₁ Bd hml0 hP hK
  obtain ⟨rfl, hZ, hh⟩ := hP
  have hx := Bd.exec
  have hby := Bd.bytes
  have hml : c.maxLocals = 4 := hml0
  have hown : s.vm.findClass "com/example/applied_pi_checker/appliedpichecker/KindIsDataPinLaw" = some m.cls := findClass_of_methodNamed Bd.named
  have hnm := (name_of_methodNamed Bd.named Bd.method).1
  have X0 : Stand p l e room_1 s m #[(.int p1)] below meth c s₁ [] 0 0 := Stand.of_body Bd
  have e0 : s₁.heap = h0 := by rw [← hh, Bd.state]; rfl
  have N0 := Fr.nil n0
  have pre0 : ∀ t, Steps p.tables e below (s₁.setTop (mkF m 0 #[.val (.int p1), .unset, .unset, .unset] [])) t → Steps p.tables e below (s₁.setTop (entryFrame m #[(.int p1)] maxLocals)) t := fun t k => castTop (ef_0 m p1) k
  -- 3. LAWS
  obtain ⟨T2, X2, e2, st2⟩ := getS2 X0 hx hZ hown (host := "") (Or.inl (hw _ (List.mem_of_getElem? (i := 1) rfl))) Via.refl e0 S_FREE_NAME (g := (mkF m 12 #[.val (.int p1), .val (.int ((p1 &&& (2147483647 : Int32)) % (12 : Int32))), .unset, .unset] [])) rfl (hb hby at_12)
  obtain ⟨cq3, kq3, q3a, q3b, q3c⟩ := isOf hZ e2 E_FREE_NAME
  obtain ⟨_, _, ⟨T3, L3, k3, n3⟩, -, X3, ⟨Lc3, hQ3, l3, y3, z3⟩, st3⟩ := X2.virtualBack hx (y := (⟨"com/example/applied_pi_checker/appliedpichecker/FunctionSymbol$Kind", "isData", "()Z"⟩ : MethodName)) (z := (⟨"com/example/applied_pi_checker/appliedpichecker/FunctionSymbol$Kind", "isData", "()Z"⟩ : MethodName)) hown (mvT hZ (hw _ (List.mem_of_getElem? (i := 4) rfl))) (mvT hZ (hw _ (List.mem_of_getElem? (i := 5) rfl))) (notFace_of_selects (args := #[]) (mvT hZ (hw _ (List.mem_of_getElem? (i := 7) rfl)))) (mvT hZ (hw _ (List.mem_of_getElem? (i := 7) rfl))) (mvT hZ (hw _ (List.mem_of_getElem? (i := 6) rfl))) (by decide) (backOf (W := 0) (rm1 l Z a0 hw [] w_FREE_NAME w_DATA w_TUPLE r3 h0 n0 Z0 S_DATA S_TUPLE P3) hZ (hw _ (List.mem_of_getElem? (i := 8) rfl)) (hw _ (List.mem_of_getElem? (i := 2) rfl)) (by decide) (by decide)) q3a q3c (g := (mkF m 173 #[.val (.int p1), .val (.int ((p1 &&& (2147483647 : Int32)) % (12 : Int32))), .val (.ref w_FREE_NAME), .val (.int (0 : Int32))] [(.ref w_FREE_NAME)])) rfl (by rw [hml]; rfl) (Steps.refl _) (argsL := []) (rest := []) (lenOf pd_0_0 rfl) rfl (by show 2 * 0 + _ ≤ _; exact Nat.le_of_eq rfl) (hb hby at_173) (fun _ _ => ⟨rfl, e2, (by decide : 0 + 0 ≤ _), (by decide : 0 + 0 ≤ _)⟩)
  dsimp only [Pt.U, Pt.locs, Pt.cells, Pt.slots] at X3 l3 y3 z3 st3 hQ3
  subst l3 y3 z3
  obtain ⟨rfl, N3q, e3⟩ := hQ3
  have N3 := Fr.app N0 N3q
  obtain ⟨fs, hr, hrun, hended, hW, hsame⟩ := X3.leave (v := some (.int (1 : Int32))) (fun h => by rw [Bd.returns] at h; cases h)
  refine ⟨_, _, pre0 _ ?_, hrun, hended, _, _, rfl, ?_, ⟨_, rfl⟩, hW, hsame.mono (by decide) (by decide)⟩
  -- 4. STEPS
  · show Steps p.tables e below (s₁.setTop (mkF m 0 #[.val (.int p1), .unset, .unset, .unset] [])) _
    refine XS.iloadN X0.here hx rfl (hb hby at_0) rfl ?_
    show Steps p.tables e below (s₁.setTop (mkF m 1 #[.val (.int p1), .unset, .unset, .unset] [(.int p1)])) _
    refine X0.ldcInt hx hown (mvT hZ (hw _ (List.mem_of_getElem? (i := 0) rfl))) (g := (mkF m 1 #[.val (.int p1), .unset, .unset, .unset] [(.int p1)])) rfl (hb hby at_1) _ ?_
    show Steps p.tables e below (s₁.setTop (mkF m 3 #[.val (.int p1), .unset, .unset, .unset] [(.int (2147483647 : Int32)), (.int p1)])) _
    refine XS.iand X0.here hx rfl (hb hby at_3) rfl ?_
    show Steps p.tables e below (s₁.setTop (mkF m 4 #[.val (.int p1), .unset, .unset, .unset] [(.int (p1 &&& (2147483647 : Int32)))])) _
    refine XS.bipush X0.here hx rfl (hb hby at_4) ?_
    show Steps p.tables e below (s₁.setTop (mkF m 6 #[.val (.int p1), .unset, .unset, .unset] [(.int (12 : Int32)), (.int (p1 &&& (2147483647 : Int32)))])) _
    refine iremM X0 hx rfl (hb hby at_6) rfl (by decide) ?_
    show Steps p.tables e below (s₁.setTop (mkF m 7 #[.val (.int p1), .unset, .unset, .unset] [(.int ((p1 &&& (2147483647 : Int32)) % (12 : Int32)))])) _
    refine XS.istoreN X0.here hx rfl (hb hby at_7) rfl (l' := #[.val (.int p1), .val (.int ((p1 &&& (2147483647 : Int32)) % (12 : Int32))), .unset, .unset]) rfl ?_
    show Steps p.tables e below (s₁.setTop (mkF m 8 #[.val (.int p1), .val (.int ((p1 &&& (2147483647 : Int32)) % (12 : Int32))), .unset, .unset] [])) _
    refine XS.iloadN X0.here hx rfl (hb hby at_8) rfl ?_
    show Steps p.tables e below (s₁.setTop (mkF m 9 #[.val (.int p1), .val (.int ((p1 &&& (2147483647 : Int32)) % (12 : Int32))), .unset, .unset] [(.int ((p1 &&& (2147483647 : Int32)) % (12 : Int32)))])) _
    refine XS.ifNo X0.here hx rfl (hb hby at_9) rfl ((if0 _ _).trans (teq hc9).2) ?_
    show Steps p.tables e below (s₁.setTop (mkF m 12 #[.val (.int p1), .val (.int ((p1 &&& (2147483647 : Int32)) % (12 : Int32))), .unset, .unset] [])) _
    refine st2 _ ?_
    show Steps p.tables e below (T2.setTop (mkF m 15 #[.val (.int p1), .val (.int ((p1 &&& (2147483647 : Int32)) % (12 : Int32))), .unset, .unset] [(.ref w_FREE_NAME)])) _
    refine XS.astoreN X2.here hx rfl (hb hby at_15) rfl rfl (l' := #[.val (.int p1), .val (.int ((p1 &&& (2147483647 : Int32)) % (12 : Int32))), .val (.ref w_FREE_NAME), .unset]) rfl ?_
    show Steps p.tables e below (T2.setTop (mkF m 16 #[.val (.int p1), .val (.int ((p1 &&& (2147483647 : Int32)) % (12 : Int32))), .val (.ref w_FREE_NAME), .unset] [])) _
    refine XS.iconst X2.here hx rfl (hb hby at_16) ?_
    show Steps p.tables e below (T2.setTop (mkF m 17 #[.val (.int p1), .val (.int ((p1 &&& (2147483647 : Int32)) % (12 : Int32))), .val (.ref w_FREE_NAME), .unset] [(.int (0 : Int32))])) _
    refine XS.istoreN X2.here hx rfl (hb hby at_17) rfl (l' := #[.val (.int p1), .val (.int ((p1 &&& (2147483647 : Int32)) % (12 : Int32))), .val (.ref w_FREE_NAME), .val (.int (0 : Int32))]) rfl ?_
    show Steps p.tables e below (T2.setTop (mkF m 18 #[.val (.int p1), .val (.int ((p1 &&& (2147483647 : Int32)) % (12 : Int32))), .val (.ref w_FREE_NAME), .val (.int (0 : Int32))] [])) _
    refine XS.goto X2.here hx rfl (pc0 := 18) (pc' := 172) rfl (hb hby at_18) (by decide) (by decide) ?_
    show Steps p.tables e below (T2.setTop (mkF m 172 #[.val (.int p1), .val (.int ((p1 &&& (2147483647 : Int32)) % (12 : Int32))), .val (.ref w_FREE_NAME), .val (.int (0 : Int32))] [])) _
    refine XS.aloadN X2.here hx rfl (hb hby at_172) rfl rfl ?_
    show Steps p.tables e below (T2.setTop (mkF m 173 #[.val (.int p1), .val (.int ((p1 &&& (2147483647 : Int32)) % (12 : Int32))), .val (.ref w_FREE_NAME), .val (.int (0 : Int32))] [(.ref w_FREE_NAME)])) _
    refine st3.trans ?_
    show Steps p.tables e below (T3.setTop (mkF m 176 #[.val (.int p1), .val (.int ((p1 &&& (2147483647 : Int32)) % (12 : Int32))), .val (.ref w_FREE_NAME), .val (.int (0 : Int32))] [(.int r3)])) _
    refine XS.iloadN X3.here hx rfl (hb hby at_176) rfl ?_
    show Steps p.tables e below (T3.setTop (mkF m 177 #[.val (.int p1), .val (.int ((p1 &&& (2147483647 : Int32)) % (12 : Int32))), .val (.ref w_FREE_NAME), .val (.int (0 : Int32))] [(.int (0 : Int32)), (.int r3)])) _
    refine XS.icmpNo X3.here hx rfl (hb hby at_177) rfl (teq hc177).2 ?_
    show Steps p.tables e below (T3.setTop (mkF m 180 #[.val (.int p1), .val (.int ((p1 &&& (2147483647 : Int32)) % (12 : Int32))), .val (.ref w_FREE_NAME), .val (.int (0 : Int32))] [])) _
    refine XS.iconst X3.here hx rfl (hb hby at_180) ?_
    show Steps p.tables e below (T3.setTop (mkF m 181 #[.val (.int p1), .val (.int ((p1 &&& (2147483647 : Int32)) % (12 : Int32))), .val (.ref w_FREE_NAME), .val (.int (0 : Int32))] [(.int (1 : Int32))])) _
    refine XS.goto X3.here hx rfl (pc0 := 181) (pc' := 185) rfl (hb hby at_181) (by decide) (by decide) ?_
    show Steps p.tables e below (T3.setTop (mkF m 185 #[.val (.int p1), .val (.int ((p1 &&& (2147483647 : Int32)) % (12 : Int32))), .val (.ref w_FREE_NAME), .val (.int (0 : Int32))] [(.int (1 : Int32))])) _
    exact retN X3 hx (t := .boolean) Bd.returns (by simp) (hb hby at_185) hr
  · show Q0 n0 _ T3.heap _
    rw [e3]
    exact ⟨rfl, N3⟩
set_option maxRecDepth 65536 in
set_option maxHeartbeats 40000000 in
theorem rm0_c1 (l : Launch) (Z : State) (a0 : Array Value) (hw : ∀ d ∈ tables_1, d.before a0 Z = true) (ws : List Jvm.Cond) (p1 : Int32) (w_FRESH_NAME : Addr) (w_DATA : Addr) (w_TUPLE : Addr) (r3 : Int32) (h0 : Heap) (n0 : Nat) (Z0 : n0 ≤ h0.size) (S_FRESH_NAME : Sta Z h0 "com/example/applied_pi_checker/appliedpichecker/FunctionSymbol$Kind" "FRESH_NAME" "Lcom/example/applied_pi_checker/appliedpichecker/FunctionSymbol$Kind;" (.ref w_FRESH_NAME)) (S_DATA : Sta Z h0 "com/example/applied_pi_checker/appliedpichecker/FunctionSymbol$Kind" "DATA" "Lcom/example/applied_pi_checker/appliedpichecker/FunctionSymbol$Kind;" (.ref w_DATA)) (S_TUPLE : Sta Z h0 "com/example/applied_pi_checker/appliedpichecker/FunctionSymbol$Kind" "TUPLE" "Lcom/example/applied_pi_checker/appliedpichecker/FunctionSymbol$Kind;" (.ref w_TUPLE)) (P3 : R1 w_FRESH_NAME w_DATA w_TUPLE r3) (E_FRESH_NAME : Exa Z h0 w_FRESH_NAME "com/example/applied_pi_checker/appliedpichecker/FunctionSymbol$Kind") (hc9 : ¬ (((p1 &&& (2147483647 : Int32)) % (12 : Int32)) = (0 : Int32))) (hc23 : ((p1 &&& (2147483647 : Int32)) % (12 : Int32)) = (1 : Int32)) (hc177 : r3 = (0 : Int32)) :
    MetFree l x (head1 (Jvm.Cond.code x code maxLocals ret :: ws) room_1) (fun a U => a = #[(.int p1)] ∧ Z.Warmed39 U.vm ∧ U.heap = h0) (fun _ _ _ _ _ => True) (fun _ U o U' => ∃ v L, o = .returned v ∧ Q0 n0 v U'.heap L ∧ FrameEnd U o U' L room_1.cells room_1.slots) := by
  refine MetFree.of_bodySF (plainFor_of_name pn_0) hisR ?_
  intro p e s m args below meth c s₁ Bd hml0 hP hK
  obtain ⟨rfl, hZ, hh⟩ := hP
  have hx := Bd.exec
  have hby := Bd.bytes
  have hml : c.maxLocals = 4 := hml0
  have hown : s.vm.findClass "com/example/applied_pi_checker/appliedpichecker/KindIsDataPinLaw" = some m.cls := findClass_of_methodNamed Bd.named
  have hnm := (name_of_methodNamed Bd.named Bd.method).1
  have X0 : Stand p l e room_1 s m #[(.int p1)] below meth c s₁ [] 0 0 := Stand.of_body Bd
  have e0 : s₁.heap = h0 := by rw [← hh, Bd.state]; rfl
  have N0 := Fr.nil n0
  have pre0 : ∀ t, Steps p.tables e below (s₁.setTop (mkF m 0 #[.val (.int p1), .unset, .unset, .unset] [])) t → Steps p.tables e below (s₁.setTop (entryFrame m #[(.int p1)] maxLocals)) t := fun t k => castTop (ef_0 m p1) k
  -- 3. LAWS
  obtain ⟨T2, X2, e2, st2⟩ := getS2 X0 hx hZ hown (host := "") (Or.inl (hw _ (List.mem_of_getElem? (i := 24) rfl))) Via.refl e0 S_FRESH_NAME (g := (mkF m 26 #[.val (.int p1), .val (.int ((p1 &&& (2147483647 : Int32)) % (12 : Int32))), .unset, .unset] [])) rfl (hb hby at_26)
  obtain ⟨cq3, kq3, q3a, q3b, q3c⟩ := isOf hZ e2 E_FRESH_NAME
  obtain ⟨_, _, ⟨T3, L3, k3, n3⟩, -, X3, ⟨Lc3, hQ3, l3, y3, z3⟩, st3⟩ := X2.virtualBack hx (y := (⟨"com/example/applied_pi_checker/appliedpichecker/FunctionSymbol$Kind", "isData", "()Z"⟩ : MethodName)) (z := (⟨"com/example/applied_pi_checker/appliedpichecker/FunctionSymbol$Kind", "isData", "()Z"⟩ : MethodName)) hown (mvT hZ (hw _ (List.mem_of_getElem? (i := 4) rfl))) (mvT hZ (hw _ (List.mem_of_getElem? (i := 5) rfl))) (notFace_of_selects (args := #[]) (mvT hZ (hw _ (List.mem_of_getElem? (i := 7) rfl)))) (mvT hZ (hw _ (List.mem_of_getElem? (i := 7) rfl))) (mvT hZ (hw _ (List.mem_of_getElem? (i := 6) rfl))) (by decide) (backOf (W := 0) (rm1 l Z a0 hw [] w_FRESH_NAME w_DATA w_TUPLE r3 h0 n0 Z0 S_DATA S_TUPLE P3) hZ (hw _ (List.mem_of_getElem? (i := 8) rfl)) (hw _ (List.mem_of_getElem? (i := 2) rfl)) (by decide) (by decide)) q3a q3c (g := (mkF m 173 #[.val (.int p1), .val (.int ((p1 &&& (2147483647 : Int32)) % (12 : Int32))), .val (.ref w_FRESH_NAME), .val (.int (0 : Int32))] [(.ref w_FRESH_NAME)])) rfl (by rw [hml]; rfl) (Steps.refl _) (argsL := []) (rest := []) (lenOf pd_0_0 rfl) rfl (by show 2 * 0 + _ ≤ _; exact Nat.le_of_eq rfl) (hb hby at_173) (fun _ _ => ⟨rfl, e2, (by decide : 0 + 0 ≤ _), (by decide : 0 + 0 ≤ _)⟩)
  dsimp only [Pt.U, Pt.locs, Pt.cells, Pt.slots] at X3 l3 y3 z3 st3 hQ3
  subst l3 y3 z3
  obtain ⟨rfl, N3q, e3⟩ := hQ3
  have N3 := Fr.app N0 N3q
  obtain ⟨fs, hr, hrun, hended, hW, hsame⟩ := X3.leave (v := some (.int (1 : Int32))) (fun h => by rw [Bd.returns] at h; cases h)
  refine ⟨_, _, pre0 _ ?_, hrun, hended, _, _, rfl, ?_, ⟨_, rfl⟩, hW, hsame.mono (by decide) (by decide)⟩
  -- 4. STEPS
  · show Steps p.tables e below (s₁.setTop (mkF m 0 #[.val (.int p1), .unset, .unset, .unset] [])) _
    refine XS.iloadN X0.here hx rfl (hb hby at_0) rfl ?_
    show Steps p.tables e below (s₁.setTop (mkF m 1 #[.val (.int p1), .unset, .unset, .unset] [(.int p1)])) _
    refine X0.ldcInt hx hown (mvT hZ (hw _ (List.mem_of_getElem? (i := 0) rfl))) (g := (mkF m 1 #[.val (.int p1), .unset, .unset, .unset] [(.int p1)])) rfl (hb hby at_1) _ ?_
    show Steps p.tables e below (s₁.setTop (mkF m 3 #[.val (.int p1), .unset, .unset, .unset] [(.int (2147483647 : Int32)), (.int p1)])) _
    refine XS.iand X0.here hx rfl (hb hby at_3) rfl ?_
    show Steps p.tables e below (s₁.setTop (mkF m 4 #[.val (.int p1), .unset, .unset, .unset] [(.int (p1 &&& (2147483647 : Int32)))])) _
    refine XS.bipush X0.here hx rfl (hb hby at_4) ?_
    show Steps p.tables e below (s₁.setTop (mkF m 6 #[.val (.int p1), .unset, .unset, .unset] [(.int (12 : Int32)), (.int (p1 &&& (2147483647 : Int32)))])) _
    refine iremM X0 hx rfl (hb hby at_6) rfl (by decide) ?_
    show Steps p.tables e below (s₁.setTop (mkF m 7 #[.val (.int p1), .unset, .unset, .unset] [(.int ((p1 &&& (2147483647 : Int32)) % (12 : Int32)))])) _
    refine XS.istoreN X0.here hx rfl (hb hby at_7) rfl (l' := #[.val (.int p1), .val (.int ((p1 &&& (2147483647 : Int32)) % (12 : Int32))), .unset, .unset]) rfl ?_
    show Steps p.tables e below (s₁.setTop (mkF m 8 #[.val (.int p1), .val (.int ((p1 &&& (2147483647 : Int32)) % (12 : Int32))), .unset, .unset] [])) _
    refine XS.iloadN X0.here hx rfl (hb hby at_8) rfl ?_
    show Steps p.tables e below (s₁.setTop (mkF m 9 #[.val (.int p1), .val (.int ((p1 &&& (2147483647 : Int32)) % (12 : Int32))), .unset, .unset] [(.int ((p1 &&& (2147483647 : Int32)) % (12 : Int32)))])) _
    refine XS.ifYes X0.here hx rfl (pc0 := 9) (pc' := 21) rfl (hb hby at_9) rfl ((if0 _ _).trans (feq hc9).2) (by decide) (by decide) ?_
    show Steps p.tables e below (s₁.setTop (mkF m 21 #[.val (.int p1), .val (.int ((p1 &&& (2147483647 : Int32)) % (12 : Int32))), .unset, .unset] [])) _
    refine XS.iloadN X0.here hx rfl (hb hby at_21) rfl ?_
    show Steps p.tables e below (s₁.setTop (mkF m 22 #[.val (.int p1), .val (.int ((p1 &&& (2147483647 : Int32)) % (12 : Int32))), .unset, .unset] [(.int ((p1 &&& (2147483647 : Int32)) % (12 : Int32)))])) _
    refine XS.iconst X0.here hx rfl (hb hby at_22) ?_
    show Steps p.tables e below (s₁.setTop (mkF m 23 #[.val (.int p1), .val (.int ((p1 &&& (2147483647 : Int32)) % (12 : Int32))), .unset, .unset] [(.int (1 : Int32)), (.int ((p1 &&& (2147483647 : Int32)) % (12 : Int32)))])) _
    refine XS.icmpNo X0.here hx rfl (hb hby at_23) rfl (teq hc23).2 ?_
    show Steps p.tables e below (s₁.setTop (mkF m 26 #[.val (.int p1), .val (.int ((p1 &&& (2147483647 : Int32)) % (12 : Int32))), .unset, .unset] [])) _
    refine st2 _ ?_
    show Steps p.tables e below (T2.setTop (mkF m 29 #[.val (.int p1), .val (.int ((p1 &&& (2147483647 : Int32)) % (12 : Int32))), .unset, .unset] [(.ref w_FRESH_NAME)])) _
    refine XS.astoreN X2.here hx rfl (hb hby at_29) rfl rfl (l' := #[.val (.int p1), .val (.int ((p1 &&& (2147483647 : Int32)) % (12 : Int32))), .val (.ref w_FRESH_NAME), .unset]) rfl ?_
    show Steps p.tables e below (T2.setTop (mkF m 30 #[.val (.int p1), .val (.int ((p1 &&& (2147483647 : Int32)) % (12 : Int32))), .val (.ref w_FRESH_NAME), .unset] [])) _
    refine XS.iconst X2.here hx rfl (hb hby at_30) ?_
    show Steps p.tables e below (T2.setTop (mkF m 31 #[.val (.int p1), .val (.int ((p1 &&& (2147483647 : Int32)) % (12 : Int32))), .val (.ref w_FRESH_NAME), .unset] [(.int (0 : Int32))])) _
    refine XS.istoreN X2.here hx rfl (hb hby at_31) rfl (l' := #[.val (.int p1), .val (.int ((p1 &&& (2147483647 : Int32)) % (12 : Int32))), .val (.ref w_FRESH_NAME), .val (.int (0 : Int32))]) rfl ?_
    show Steps p.tables e below (T2.setTop (mkF m 32 #[.val (.int p1), .val (.int ((p1 &&& (2147483647 : Int32)) % (12 : Int32))), .val (.ref w_FRESH_NAME), .val (.int (0 : Int32))] [])) _
    refine XS.goto X2.here hx rfl (pc0 := 32) (pc' := 172) rfl (hb hby at_32) (by decide) (by decide) ?_
    show Steps p.tables e below (T2.setTop (mkF m 172 #[.val (.int p1), .val (.int ((p1 &&& (2147483647 : Int32)) % (12 : Int32))), .val (.ref w_FRESH_NAME), .val (.int (0 : Int32))] [])) _
    refine XS.aloadN X2.here hx rfl (hb hby at_172) rfl rfl ?_
    show Steps p.tables e below (T2.setTop (mkF m 173 #[.val (.int p1), .val (.int ((p1 &&& (2147483647 : Int32)) % (12 : Int32))), .val (.ref w_FRESH_NAME), .val (.int (0 : Int32))] [(.ref w_FRESH_NAME)])) _
    refine st3.trans ?_
    show Steps p.tables e below (T3.setTop (mkF m 176 #[.val (.int p1), .val (.int ((p1 &&& (2147483647 : Int32)) % (12 : Int32))), .val (.ref w_FRESH_NAME), .val (.int (0 : Int32))] [(.int r3)])) _
    refine XS.iloadN X3.here hx rfl (hb hby at_176) rfl ?_
    show Steps p.tables e below (T3.setTop (mkF m 177 #[.val (.int p1), .val (.int ((p1 &&& (2147483647 : Int32)) % (12 : Int32))), .val (.ref w_FRESH_NAME), .val (.int (0 : Int32))] [(.int (0 : Int32)), (.int r3)])) _
    refine XS.icmpNo X3.here hx rfl (hb hby at_177) rfl (teq hc177).2 ?_
    show Steps p.tables e below (T3.setTop (mkF m 180 #[.val (.int p1), .val (.int ((p1 &&& (2147483647 : Int32)) % (12 : Int32))), .val (.ref w_FRESH_NAME), .val (.int (0 : Int32))] [])) _
    refine XS.iconst X3.here hx rfl (hb hby at_180) ?_
    show Steps p.tables e below (T3.setTop (mkF m 181 #[.val (.int p1), .val (.int ((p1 &&& (2147483647 : Int32)) % (12 : Int32))), .val (.ref w_FRESH_NAME), .val (.int (0 : Int32))] [(.int (1 : Int32))])) _
    refine XS.goto X3.here hx rfl (pc0 := 181) (pc' := 185) rfl (hb hby at_181) (by decide) (by decide) ?_
    show Steps p.tables e below (T3.setTop (mkF m 185 #[.val (.int p1), .val (.int ((p1 &&& (2147483647 : Int32)) % (12 : Int32))), .val (.ref w_FRESH_NAME), .val (.int (0 : Int32))] [(.int (1 : Int32))])) _
    exact retN X3 hx (t := .boolean) Bd.returns (by simp) (hb hby at_185) hr
  · show Q0 n0 _ T3.heap _
    rw [e3]
    exact ⟨rfl, N3⟩
set_option maxRecDepth 65536 in
set_option maxHeartbeats 40000000 in
theorem rm0_c2 (l : Launch) (Z : State) (a0 : Array Value) (hw : ∀ d ∈ tables_1, d.before a0 Z = true) (ws : List Jvm.Cond) (p1 : Int32) (w_ATTACKER_NAME : Addr) (w_DATA : Addr) (w_TUPLE : Addr) (r3 : Int32) (h0 : Heap) (n0 : Nat) (Z0 : n0 ≤ h0.size) (S_ATTACKER_NAME : Sta Z h0 "com/example/applied_pi_checker/appliedpichecker/FunctionSymbol$Kind" "ATTACKER_NAME" "Lcom/example/applied_pi_checker/appliedpichecker/FunctionSymbol$Kind;" (.ref w_ATTACKER_NAME)) (S_DATA : Sta Z h0 "com/example/applied_pi_checker/appliedpichecker/FunctionSymbol$Kind" "DATA" "Lcom/example/applied_pi_checker/appliedpichecker/FunctionSymbol$Kind;" (.ref w_DATA)) (S_TUPLE : Sta Z h0 "com/example/applied_pi_checker/appliedpichecker/FunctionSymbol$Kind" "TUPLE" "Lcom/example/applied_pi_checker/appliedpichecker/FunctionSymbol$Kind;" (.ref w_TUPLE)) (P3 : R1 w_ATTACKER_NAME w_DATA w_TUPLE r3) (E_ATTACKER_NAME : Exa Z h0 w_ATTACKER_NAME "com/example/applied_pi_checker/appliedpichecker/FunctionSymbol$Kind") (hc9 : ¬ (((p1 &&& (2147483647 : Int32)) % (12 : Int32)) = (0 : Int32))) (hc23 : ¬ (((p1 &&& (2147483647 : Int32)) % (12 : Int32)) = (1 : Int32))) (hc37 : ((p1 &&& (2147483647 : Int32)) % (12 : Int32)) = (2 : Int32)) (hc177 : r3 = (0 : Int32)) :
    MetFree l x (head1 (Jvm.Cond.code x code maxLocals ret :: ws) room_1) (fun a U => a = #[(.int p1)] ∧ Z.Warmed39 U.vm ∧ U.heap = h0) (fun _ _ _ _ _ => True) (fun _ U o U' => ∃ v L, o = .returned v ∧ Q0 n0 v U'.heap L ∧ FrameEnd U o U' L room_1.cells room_1.slots) := by
  refine MetFree.of_bodySF (plainFor_of_name pn_0) hisR ?_
  intro p e s m args below meth c s₁ Bd hml0 hP hK
  obtain ⟨rfl, hZ, hh⟩ := hP
  have hx := Bd.exec
  have hby := Bd.bytes
  have hml : c.maxLocals = 4 := hml0
  have hown : s.vm.findClass "com/example/applied_pi_checker/appliedpichecker/KindIsDataPinLaw" = some m.cls := findClass_of_methodNamed Bd.named
  have hnm := (name_of_methodNamed Bd.named Bd.method).1
  have X0 : Stand p l e room_1 s m #[(.int p1)] below meth c s₁ [] 0 0 := Stand.of_body Bd
  have e0 : s₁.heap = h0 := by rw [← hh, Bd.state]; rfl
  have N0 := Fr.nil n0
  have pre0 : ∀ t, Steps p.tables e below (s₁.setTop (mkF m 0 #[.val (.int p1), .unset, .unset, .unset] [])) t → Steps p.tables e below (s₁.setTop (entryFrame m #[(.int p1)] maxLocals)) t := fun t k => castTop (ef_0 m p1) k
  -- 3. LAWS
  obtain ⟨T2, X2, e2, st2⟩ := getS2 X0 hx hZ hown (host := "") (Or.inl (hw _ (List.mem_of_getElem? (i := 15) rfl))) Via.refl e0 S_ATTACKER_NAME (g := (mkF m 40 #[.val (.int p1), .val (.int ((p1 &&& (2147483647 : Int32)) % (12 : Int32))), .unset, .unset] [])) rfl (hb hby at_40)
  obtain ⟨cq3, kq3, q3a, q3b, q3c⟩ := isOf hZ e2 E_ATTACKER_NAME
  obtain ⟨_, _, ⟨T3, L3, k3, n3⟩, -, X3, ⟨Lc3, hQ3, l3, y3, z3⟩, st3⟩ := X2.virtualBack hx (y := (⟨"com/example/applied_pi_checker/appliedpichecker/FunctionSymbol$Kind", "isData", "()Z"⟩ : MethodName)) (z := (⟨"com/example/applied_pi_checker/appliedpichecker/FunctionSymbol$Kind", "isData", "()Z"⟩ : MethodName)) hown (mvT hZ (hw _ (List.mem_of_getElem? (i := 4) rfl))) (mvT hZ (hw _ (List.mem_of_getElem? (i := 5) rfl))) (notFace_of_selects (args := #[]) (mvT hZ (hw _ (List.mem_of_getElem? (i := 7) rfl)))) (mvT hZ (hw _ (List.mem_of_getElem? (i := 7) rfl))) (mvT hZ (hw _ (List.mem_of_getElem? (i := 6) rfl))) (by decide) (backOf (W := 0) (rm1 l Z a0 hw [] w_ATTACKER_NAME w_DATA w_TUPLE r3 h0 n0 Z0 S_DATA S_TUPLE P3) hZ (hw _ (List.mem_of_getElem? (i := 8) rfl)) (hw _ (List.mem_of_getElem? (i := 2) rfl)) (by decide) (by decide)) q3a q3c (g := (mkF m 173 #[.val (.int p1), .val (.int ((p1 &&& (2147483647 : Int32)) % (12 : Int32))), .val (.ref w_ATTACKER_NAME), .val (.int (0 : Int32))] [(.ref w_ATTACKER_NAME)])) rfl (by rw [hml]; rfl) (Steps.refl _) (argsL := []) (rest := []) (lenOf pd_0_0 rfl) rfl (by show 2 * 0 + _ ≤ _; exact Nat.le_of_eq rfl) (hb hby at_173) (fun _ _ => ⟨rfl, e2, (by decide : 0 + 0 ≤ _), (by decide : 0 + 0 ≤ _)⟩)
  dsimp only [Pt.U, Pt.locs, Pt.cells, Pt.slots] at X3 l3 y3 z3 st3 hQ3
  subst l3 y3 z3
  obtain ⟨rfl, N3q, e3⟩ := hQ3
  have N3 := Fr.app N0 N3q
  obtain ⟨fs, hr, hrun, hended, hW, hsame⟩ := X3.leave (v := some (.int (1 : Int32))) (fun h => by rw [Bd.returns] at h; cases h)
  refine ⟨_, _, pre0 _ ?_, hrun, hended, _, _, rfl, ?_, ⟨_, rfl⟩, hW, hsame.mono (by decide) (by decide)⟩
  -- 4. STEPS
  · show Steps p.tables e below (s₁.setTop (mkF m 0 #[.val (.int p1), .unset, .unset, .unset] [])) _
    refine XS.iloadN X0.here hx rfl (hb hby at_0) rfl ?_
    show Steps p.tables e below (s₁.setTop (mkF m 1 #[.val (.int p1), .unset, .unset, .unset] [(.int p1)])) _
    refine X0.ldcInt hx hown (mvT hZ (hw _ (List.mem_of_getElem? (i := 0) rfl))) (g := (mkF m 1 #[.val (.int p1), .unset, .unset, .unset] [(.int p1)])) rfl (hb hby at_1) _ ?_
    show Steps p.tables e below (s₁.setTop (mkF m 3 #[.val (.int p1), .unset, .unset, .unset] [(.int (2147483647 : Int32)), (.int p1)])) _
    refine XS.iand X0.here hx rfl (hb hby at_3) rfl ?_
    show Steps p.tables e below (s₁.setTop (mkF m 4 #[.val (.int p1), .unset, .unset, .unset] [(.int (p1 &&& (2147483647 : Int32)))])) _
    refine XS.bipush X0.here hx rfl (hb hby at_4) ?_
    show Steps p.tables e below (s₁.setTop (mkF m 6 #[.val (.int p1), .unset, .unset, .unset] [(.int (12 : Int32)), (.int (p1 &&& (2147483647 : Int32)))])) _
    refine iremM X0 hx rfl (hb hby at_6) rfl (by decide) ?_
    show Steps p.tables e below (s₁.setTop (mkF m 7 #[.val (.int p1), .unset, .unset, .unset] [(.int ((p1 &&& (2147483647 : Int32)) % (12 : Int32)))])) _
    refine XS.istoreN X0.here hx rfl (hb hby at_7) rfl (l' := #[.val (.int p1), .val (.int ((p1 &&& (2147483647 : Int32)) % (12 : Int32))), .unset, .unset]) rfl ?_
    show Steps p.tables e below (s₁.setTop (mkF m 8 #[.val (.int p1), .val (.int ((p1 &&& (2147483647 : Int32)) % (12 : Int32))), .unset, .unset] [])) _
    refine XS.iloadN X0.here hx rfl (hb hby at_8) rfl ?_
    show Steps p.tables e below (s₁.setTop (mkF m 9 #[.val (.int p1), .val (.int ((p1 &&& (2147483647 : Int32)) % (12 : Int32))), .unset, .unset] [(.int ((p1 &&& (2147483647 : Int32)) % (12 : Int32)))])) _
    refine XS.ifYes X0.here hx rfl (pc0 := 9) (pc' := 21) rfl (hb hby at_9) rfl ((if0 _ _).trans (feq hc9).2) (by decide) (by decide) ?_
    show Steps p.tables e below (s₁.setTop (mkF m 21 #[.val (.int p1), .val (.int ((p1 &&& (2147483647 : Int32)) % (12 : Int32))), .unset, .unset] [])) _
    refine XS.iloadN X0.here hx rfl (hb hby at_21) rfl ?_
    show Steps p.tables e below (s₁.setTop (mkF m 22 #[.val (.int p1), .val (.int ((p1 &&& (2147483647 : Int32)) % (12 : Int32))), .unset, .unset] [(.int ((p1 &&& (2147483647 : Int32)) % (12 : Int32)))])) _
    refine XS.iconst X0.here hx rfl (hb hby at_22) ?_
    show Steps p.tables e below (s₁.setTop (mkF m 23 #[.val (.int p1), .val (.int ((p1 &&& (2147483647 : Int32)) % (12 : Int32))), .unset, .unset] [(.int (1 : Int32)), (.int ((p1 &&& (2147483647 : Int32)) % (12 : Int32)))])) _
    refine XS.icmpYes X0.here hx rfl (pc0 := 23) (pc' := 35) rfl (hb hby at_23) rfl (feq hc23).2 (by decide) (by decide) ?_
    show Steps p.tables e below (s₁.setTop (mkF m 35 #[.val (.int p1), .val (.int ((p1 &&& (2147483647 : Int32)) % (12 : Int32))), .unset, .unset] [])) _
    refine XS.iloadN X0.here hx rfl (hb hby at_35) rfl ?_
    show Steps p.tables e below (s₁.setTop (mkF m 36 #[.val (.int p1), .val (.int ((p1 &&& (2147483647 : Int32)) % (12 : Int32))), .unset, .unset] [(.int ((p1 &&& (2147483647 : Int32)) % (12 : Int32)))])) _
    refine XS.iconst X0.here hx rfl (hb hby at_36) ?_
    show Steps p.tables e below (s₁.setTop (mkF m 37 #[.val (.int p1), .val (.int ((p1 &&& (2147483647 : Int32)) % (12 : Int32))), .unset, .unset] [(.int (2 : Int32)), (.int ((p1 &&& (2147483647 : Int32)) % (12 : Int32)))])) _
    refine XS.icmpNo X0.here hx rfl (hb hby at_37) rfl (teq hc37).2 ?_
    show Steps p.tables e below (s₁.setTop (mkF m 40 #[.val (.int p1), .val (.int ((p1 &&& (2147483647 : Int32)) % (12 : Int32))), .unset, .unset] [])) _
    refine st2 _ ?_
    show Steps p.tables e below (T2.setTop (mkF m 43 #[.val (.int p1), .val (.int ((p1 &&& (2147483647 : Int32)) % (12 : Int32))), .unset, .unset] [(.ref w_ATTACKER_NAME)])) _
    refine XS.astoreN X2.here hx rfl (hb hby at_43) rfl rfl (l' := #[.val (.int p1), .val (.int ((p1 &&& (2147483647 : Int32)) % (12 : Int32))), .val (.ref w_ATTACKER_NAME), .unset]) rfl ?_
    show Steps p.tables e below (T2.setTop (mkF m 44 #[.val (.int p1), .val (.int ((p1 &&& (2147483647 : Int32)) % (12 : Int32))), .val (.ref w_ATTACKER_NAME), .unset] [])) _
    refine XS.iconst X2.here hx rfl (hb hby at_44) ?_
    show Steps p.tables e below (T2.setTop (mkF m 45 #[.val (.int p1), .val (.int ((p1 &&& (2147483647 : Int32)) % (12 : Int32))), .val (.ref w_ATTACKER_NAME), .unset] [(.int (0 : Int32))])) _
    refine XS.istoreN X2.here hx rfl (hb hby at_45) rfl (l' := #[.val (.int p1), .val (.int ((p1 &&& (2147483647 : Int32)) % (12 : Int32))), .val (.ref w_ATTACKER_NAME), .val (.int (0 : Int32))]) rfl ?_
    show Steps p.tables e below (T2.setTop (mkF m 46 #[.val (.int p1), .val (.int ((p1 &&& (2147483647 : Int32)) % (12 : Int32))), .val (.ref w_ATTACKER_NAME), .val (.int (0 : Int32))] [])) _
    refine XS.goto X2.here hx rfl (pc0 := 46) (pc' := 172) rfl (hb hby at_46) (by decide) (by decide) ?_
    show Steps p.tables e below (T2.setTop (mkF m 172 #[.val (.int p1), .val (.int ((p1 &&& (2147483647 : Int32)) % (12 : Int32))), .val (.ref w_ATTACKER_NAME), .val (.int (0 : Int32))] [])) _
    refine XS.aloadN X2.here hx rfl (hb hby at_172) rfl rfl ?_
    show Steps p.tables e below (T2.setTop (mkF m 173 #[.val (.int p1), .val (.int ((p1 &&& (2147483647 : Int32)) % (12 : Int32))), .val (.ref w_ATTACKER_NAME), .val (.int (0 : Int32))] [(.ref w_ATTACKER_NAME)])) _
    refine st3.trans ?_
    show Steps p.tables e below (T3.setTop (mkF m 176 #[.val (.int p1), .val (.int ((p1 &&& (2147483647 : Int32)) % (12 : Int32))), .val (.ref w_ATTACKER_NAME), .val (.int (0 : Int32))] [(.int r3)])) _
    refine XS.iloadN X3.here hx rfl (hb hby at_176) rfl ?_
    show Steps p.tables e below (T3.setTop (mkF m 177 #[.val (.int p1), .val (.int ((p1 &&& (2147483647 : Int32)) % (12 : Int32))), .val (.ref w_ATTACKER_NAME), .val (.int (0 : Int32))] [(.int (0 : Int32)), (.int r3)])) _
    refine XS.icmpNo X3.here hx rfl (hb hby at_177) rfl (teq hc177).2 ?_
    show Steps p.tables e below (T3.setTop (mkF m 180 #[.val (.int p1), .val (.int ((p1 &&& (2147483647 : Int32)) % (12 : Int32))), .val (.ref w_ATTACKER_NAME), .val (.int (0 : Int32))] [])) _
    refine XS.iconst X3.here hx rfl (hb hby at_180) ?_
    show Steps p.tables e below (T3.setTop (mkF m 181 #[.val (.int p1), .val (.int ((p1 &&& (2147483647 : Int32)) % (12 : Int32))), .val (.ref w_ATTACKER_NAME), .val (.int (0 : Int32))] [(.int (1 : Int32))])) _
    refine XS.goto X3.here hx rfl (pc0 := 181) (pc' := 185) rfl (hb hby at_181) (by decide) (by decide) ?_
    show Steps p.tables e below (T3.setTop (mkF m 185 #[.val (.int p1), .val (.int ((p1 &&& (2147483647 : Int32)) % (12 : Int32))), .val (.ref w_ATTACKER_NAME), .val (.int (0 : Int32))] [(.int (1 : Int32))])) _
    exact retN X3 hx (t := .boolean) Bd.returns (by simp) (hb hby at_185) hr
  · show Q0 n0 _ T3.heap _
    rw [e3]
    exact ⟨rfl, N3⟩
set_option maxRecDepth 65536 in
set_option maxHeartbeats 40000000 in
theorem rm0_c3 (l : Launch) (Z : State) (a0 : Array Value) (hw : ∀ d ∈ tables_1, d.before a0 Z = true) (ws : List Jvm.Cond) (p1 : Int32) (w_CONSTANT : Addr) (w_DATA : Addr) (w_TUPLE : Addr) (r3 : Int32) (h0 : Heap) (n0 : Nat) (Z0 : n0 ≤ h0.size) (S_CONSTANT : Sta Z h0 "com/example/applied_pi_checker/appliedpichecker/FunctionSymbol$Kind" "CONSTANT" "Lcom/example/applied_pi_checker/appliedpichecker/FunctionSymbol$Kind;" (.ref w_CONSTANT)) (S_DATA : Sta Z h0 "com/example/applied_pi_checker/appliedpichecker/FunctionSymbol$Kind" "DATA" "Lcom/example/applied_pi_checker/appliedpichecker/FunctionSymbol$Kind;" (.ref w_DATA)) (S_TUPLE : Sta Z h0 "com/example/applied_pi_checker/appliedpichecker/FunctionSymbol$Kind" "TUPLE" "Lcom/example/applied_pi_checker/appliedpichecker/FunctionSymbol$Kind;" (.ref w_TUPLE)) (P3 : R1 w_CONSTANT w_DATA w_TUPLE r3) (E_CONSTANT : Exa Z h0 w_CONSTANT "com/example/applied_pi_checker/appliedpichecker/FunctionSymbol$Kind") (hc9 : ¬ (((p1 &&& (2147483647 : Int32)) % (12 : Int32)) = (0 : Int32))) (hc23 : ¬ (((p1 &&& (2147483647 : Int32)) % (12 : Int32)) = (1 : Int32))) (hc37 : ¬ (((p1 &&& (2147483647 : Int32)) % (12 : Int32)) = (2 : Int32))) (hc51 : ((p1 &&& (2147483647 : Int32)) % (12 : Int32)) = (3 : Int32)) (hc177 : r3 = (0 : Int32)) :
    MetFree l x (head1 (Jvm.Cond.code x code maxLocals ret :: ws) room_1) (fun a U => a = #[(.int p1)] ∧ Z.Warmed39 U.vm ∧ U.heap = h0) (fun _ _ _ _ _ => True) (fun _ U o U' => ∃ v L, o = .returned v ∧ Q0 n0 v U'.heap L ∧ FrameEnd U o U' L room_1.cells room_1.slots) := by
  refine MetFree.of_bodySF (plainFor_of_name pn_0) hisR ?_
  intro p e s m args below meth c s₁ Bd hml0 hP hK
  obtain ⟨rfl, hZ, hh⟩ := hP
  have hx := Bd.exec
  have hby := Bd.bytes
  have hml : c.maxLocals = 4 := hml0
  have hown : s.vm.findClass "com/example/applied_pi_checker/appliedpichecker/KindIsDataPinLaw" = some m.cls := findClass_of_methodNamed Bd.named
  have hnm := (name_of_methodNamed Bd.named Bd.method).1
  have X0 : Stand p l e room_1 s m #[(.int p1)] below meth c s₁ [] 0 0 := Stand.of_body Bd
  have e0 : s₁.heap = h0 := by rw [← hh, Bd.state]; rfl
  have N0 := Fr.nil n0
  have pre0 : ∀ t, Steps p.tables e below (s₁.setTop (mkF m 0 #[.val (.int p1), .unset, .unset, .unset] [])) t → Steps p.tables e below (s₁.setTop (entryFrame m #[(.int p1)] maxLocals)) t := fun t k => castTop (ef_0 m p1) k
  -- 3. LAWS
  obtain ⟨T2, X2, e2, st2⟩ := getS2 X0 hx hZ hown (host := "") (Or.inl (hw _ (List.mem_of_getElem? (i := 13) rfl))) Via.refl e0 S_CONSTANT (g := (mkF m 54 #[.val (.int p1), .val (.int ((p1 &&& (2147483647 : Int32)) % (12 : Int32))), .unset, .unset] [])) rfl (hb hby at_54)
  obtain ⟨cq3, kq3, q3a, q3b, q3c⟩ := isOf hZ e2 E_CONSTANT
  obtain ⟨_, _, ⟨T3, L3, k3, n3⟩, -, X3, ⟨Lc3, hQ3, l3, y3, z3⟩, st3⟩ := X2.virtualBack hx (y := (⟨"com/example/applied_pi_checker/appliedpichecker/FunctionSymbol$Kind", "isData", "()Z"⟩ : MethodName)) (z := (⟨"com/example/applied_pi_checker/appliedpichecker/FunctionSymbol$Kind", "isData", "()Z"⟩ : MethodName)) hown (mvT hZ (hw _ (List.mem_of_getElem? (i := 4) rfl))) (mvT hZ (hw _ (List.mem_of_getElem? (i := 5) rfl))) (notFace_of_selects (args := #[]) (mvT hZ (hw _ (List.mem_of_getElem? (i := 7) rfl)))) (mvT hZ (hw _ (List.mem_of_getElem? (i := 7) rfl))) (mvT hZ (hw _ (List.mem_of_getElem? (i := 6) rfl))) (by decide) (backOf (W := 0) (rm1 l Z a0 hw [] w_CONSTANT w_DATA w_TUPLE r3 h0 n0 Z0 S_DATA S_TUPLE P3) hZ (hw _ (List.mem_of_getElem? (i := 8) rfl)) (hw _ (List.mem_of_getElem? (i := 2) rfl)) (by decide) (by decide)) q3a q3c (g := (mkF m 173 #[.val (.int p1), .val (.int ((p1 &&& (2147483647 : Int32)) % (12 : Int32))), .val (.ref w_CONSTANT), .val (.int (0 : Int32))] [(.ref w_CONSTANT)])) rfl (by rw [hml]; rfl) (Steps.refl _) (argsL := []) (rest := []) (lenOf pd_0_0 rfl) rfl (by show 2 * 0 + _ ≤ _; exact Nat.le_of_eq rfl) (hb hby at_173) (fun _ _ => ⟨rfl, e2, (by decide : 0 + 0 ≤ _), (by decide : 0 + 0 ≤ _)⟩)
  dsimp only [Pt.U, Pt.locs, Pt.cells, Pt.slots] at X3 l3 y3 z3 st3 hQ3
  subst l3 y3 z3
  obtain ⟨rfl, N3q, e3⟩ := hQ3
  have N3 := Fr.app N0 N3q
  obtain ⟨fs, hr, hrun, hended, hW, hsame⟩ := X3.leave (v := some (.int (1 : Int32))) (fun h => by rw [Bd.returns] at h; cases h)
  refine ⟨_, _, pre0 _ ?_, hrun, hended, _, _, rfl, ?_, ⟨_, rfl⟩, hW, hsame.mono (by decide) (by decide)⟩
  -- 4. STEPS
  · show Steps p.tables e below (s₁.setTop (mkF m 0 #[.val (.int p1), .unset, .unset, .unset] [])) _
    refine XS.iloadN X0.here hx rfl (hb hby at_0) rfl ?_
    show Steps p.tables e below (s₁.setTop (mkF m 1 #[.val (.int p1), .unset, .unset, .unset] [(.int p1)])) _
    refine X0.ldcInt hx hown (mvT hZ (hw _ (List.mem_of_getElem? (i := 0) rfl))) (g := (mkF m 1 #[.val (.int p1), .unset, .unset, .unset] [(.int p1)])) rfl (hb hby at_1) _ ?_
    show Steps p.tables e below (s₁.setTop (mkF m 3 #[.val (.int p1), .unset, .unset, .unset] [(.int (2147483647 : Int32)), (.int p1)])) _
    refine XS.iand X0.here hx rfl (hb hby at_3) rfl ?_
    show Steps p.tables e below (s₁.setTop (mkF m 4 #[.val (.int p1), .unset, .unset, .unset] [(.int (p1 &&& (2147483647 : Int32)))])) _
    refine XS.bipush X0.here hx rfl (hb hby at_4) ?_
    show Steps p.tables e below (s₁.setTop (mkF m 6 #[.val (.int p1), .unset, .unset, .unset] [(.int (12 : Int32)), (.int (p1 &&& (2147483647 : Int32)))])) _
    refine iremM X0 hx rfl (hb hby at_6) rfl (by decide) ?_
    show Steps p.tables e below (s₁.setTop (mkF m 7 #[.val (.int p1), .unset, .unset, .unset] [(.int ((p1 &&& (2147483647 : Int32)) % (12 : Int32)))])) _
    refine XS.istoreN X0.here hx rfl (hb hby at_7) rfl (l' := #[.val (.int p1), .val (.int ((p1 &&& (2147483647 : Int32)) % (12 : Int32))), .unset, .unset]) rfl ?_
    show Steps p.tables e below (s₁.setTop (mkF m 8 #[.val (.int p1), .val (.int ((p1 &&& (2147483647 : Int32)) % (12 : Int32))), .unset, .unset] [])) _
    refine XS.iloadN X0.here hx rfl (hb hby at_8) rfl ?_
    show Steps p.tables e below (s₁.setTop (mkF m 9 #[.val (.int p1), .val (.int ((p1 &&& (2147483647 : Int32)) % (12 : Int32))), .unset, .unset] [(.int ((p1 &&& (2147483647 : Int32)) % (12 : Int32)))])) _
    refine XS.ifYes X0.here hx rfl (pc0 := 9) (pc' := 21) rfl (hb hby at_9) rfl ((if0 _ _).trans (feq hc9).2) (by decide) (by decide) ?_
    show Steps p.tables e below (s₁.setTop (mkF m 21 #[.val (.int p1), .val (.int ((p1 &&& (2147483647 : Int32)) % (12 : Int32))), .unset, .unset] [])) _
    refine XS.iloadN X0.here hx rfl (hb hby at_21) rfl ?_
    show Steps p.tables e below (s₁.setTop (mkF m 22 #[.val (.int p1), .val (.int ((p1 &&& (2147483647 : Int32)) % (12 : Int32))), .unset, .unset] [(.int ((p1 &&& (2147483647 : Int32)) % (12 : Int32)))])) _
    refine XS.iconst X0.here hx rfl (hb hby at_22) ?_
    show Steps p.tables e below (s₁.setTop (mkF m 23 #[.val (.int p1), .val (.int ((p1 &&& (2147483647 : Int32)) % (12 : Int32))), .unset, .unset] [(.int (1 : Int32)), (.int ((p1 &&& (2147483647 : Int32)) % (12 : Int32)))])) _
    refine XS.icmpYes X0.here hx rfl (pc0 := 23) (pc' := 35) rfl (hb hby at_23) rfl (feq hc23).2 (by decide) (by decide) ?_
    show Steps p.tables e below (s₁.setTop (mkF m 35 #[.val (.int p1), .val (.int ((p1 &&& (2147483647 : Int32)) % (12 : Int32))), .unset, .unset] [])) _
    refine XS.iloadN X0.here hx rfl (hb hby at_35) rfl ?_
    show Steps p.tables e below (s₁.setTop (mkF m 36 #[.val (.int p1), .val (.int ((p1 &&& (2147483647 : Int32)) % (12 : Int32))), .unset, .unset] [(.int ((p1 &&& (2147483647 : Int32)) % (12 : Int32)))])) _
    refine XS.iconst X0.here hx rfl (hb hby at_36) ?_
    show Steps p.tables e below (s₁.setTop (mkF m 37 #[.val (.int p1), .val (.int ((p1 &&& (2147483647 : Int32)) % (12 : Int32))), .unset, .unset] [(.int (2 : Int32)), (.int ((p1 &&& (2147483647 : Int32)) % (12 : Int32)))])) _
    refine XS.icmpYes X0.here hx rfl (pc0 := 37) (pc' := 49) rfl (hb hby at_37) rfl (feq hc37).2 (by decide) (by decide) ?_
    show Steps p.tables e below (s₁.setTop (mkF m 49 #[.val (.int p1), .val (.int ((p1 &&& (2147483647 : Int32)) % (12 : Int32))), .unset, .unset] [])) _
    refine XS.iloadN X0.here hx rfl (hb hby at_49) rfl ?_
    show Steps p.tables e below (s₁.setTop (mkF m 50 #[.val (.int p1), .val (.int ((p1 &&& (2147483647 : Int32)) % (12 : Int32))), .unset, .unset] [(.int ((p1 &&& (2147483647 : Int32)) % (12 : Int32)))])) _
    refine XS.iconst X0.here hx rfl (hb hby at_50) ?_
    show Steps p.tables e below (s₁.setTop (mkF m 51 #[.val (.int p1), .val (.int ((p1 &&& (2147483647 : Int32)) % (12 : Int32))), .unset, .unset] [(.int (3 : Int32)), (.int ((p1 &&& (2147483647 : Int32)) % (12 : Int32)))])) _
    refine XS.icmpNo X0.here hx rfl (hb hby at_51) rfl (teq hc51).2 ?_
    show Steps p.tables e below (s₁.setTop (mkF m 54 #[.val (.int p1), .val (.int ((p1 &&& (2147483647 : Int32)) % (12 : Int32))), .unset, .unset] [])) _
    refine st2 _ ?_
    show Steps p.tables e below (T2.setTop (mkF m 57 #[.val (.int p1), .val (.int ((p1 &&& (2147483647 : Int32)) % (12 : Int32))), .unset, .unset] [(.ref w_CONSTANT)])) _
    refine XS.astoreN X2.here hx rfl (hb hby at_57) rfl rfl (l' := #[.val (.int p1), .val (.int ((p1 &&& (2147483647 : Int32)) % (12 : Int32))), .val (.ref w_CONSTANT), .unset]) rfl ?_
    show Steps p.tables e below (T2.setTop (mkF m 58 #[.val (.int p1), .val (.int ((p1 &&& (2147483647 : Int32)) % (12 : Int32))), .val (.ref w_CONSTANT), .unset] [])) _
    refine XS.iconst X2.here hx rfl (hb hby at_58) ?_
    show Steps p.tables e below (T2.setTop (mkF m 59 #[.val (.int p1), .val (.int ((p1 &&& (2147483647 : Int32)) % (12 : Int32))), .val (.ref w_CONSTANT), .unset] [(.int (0 : Int32))])) _
    refine XS.istoreN X2.here hx rfl (hb hby at_59) rfl (l' := #[.val (.int p1), .val (.int ((p1 &&& (2147483647 : Int32)) % (12 : Int32))), .val (.ref w_CONSTANT), .val (.int (0 : Int32))]) rfl ?_
    show Steps p.tables e below (T2.setTop (mkF m 60 #[.val (.int p1), .val (.int ((p1 &&& (2147483647 : Int32)) % (12 : Int32))), .val (.ref w_CONSTANT), .val (.int (0 : Int32))] [])) _
    refine XS.goto X2.here hx rfl (pc0 := 60) (pc' := 172) rfl (hb hby at_60) (by decide) (by decide) ?_
    show Steps p.tables e below (T2.setTop (mkF m 172 #[.val (.int p1), .val (.int ((p1 &&& (2147483647 : Int32)) % (12 : Int32))), .val (.ref w_CONSTANT), .val (.int (0 : Int32))] [])) _
    refine XS.aloadN X2.here hx rfl (hb hby at_172) rfl rfl ?_
    show Steps p.tables e below (T2.setTop (mkF m 173 #[.val (.int p1), .val (.int ((p1 &&& (2147483647 : Int32)) % (12 : Int32))), .val (.ref w_CONSTANT), .val (.int (0 : Int32))] [(.ref w_CONSTANT)])) _
    refine st3.trans ?_
    show Steps p.tables e below (T3.setTop (mkF m 176 #[.val (.int p1), .val (.int ((p1 &&& (2147483647 : Int32)) % (12 : Int32))), .val (.ref w_CONSTANT), .val (.int (0 : Int32))] [(.int r3)])) _
    refine XS.iloadN X3.here hx rfl (hb hby at_176) rfl ?_
    show Steps p.tables e below (T3.setTop (mkF m 177 #[.val (.int p1), .val (.int ((p1 &&& (2147483647 : Int32)) % (12 : Int32))), .val (.ref w_CONSTANT), .val (.int (0 : Int32))] [(.int (0 : Int32)), (.int r3)])) _
    refine XS.icmpNo X3.here hx rfl (hb hby at_177) rfl (teq hc177).2 ?_
    show Steps p.tables e below (T3.setTop (mkF m 180 #[.val (.int p1), .val (.int ((p1 &&& (2147483647 : Int32)) % (12 : Int32))), .val (.ref w_CONSTANT), .val (.int (0 : Int32))] [])) _
    refine XS.iconst X3.here hx rfl (hb hby at_180) ?_
    show Steps p.tables e below (T3.setTop (mkF m 181 #[.val (.int p1), .val (.int ((p1 &&& (2147483647 : Int32)) % (12 : Int32))), .val (.ref w_CONSTANT), .val (.int (0 : Int32))] [(.int (1 : Int32))])) _
    refine XS.goto X3.here hx rfl (pc0 := 181) (pc' := 185) rfl (hb hby at_181) (by decide) (by decide) ?_
    show Steps p.tables e below (T3.setTop (mkF m 185 #[.val (.int p1), .val (.int ((p1 &&& (2147483647 : Int32)) % (12 : Int32))), .val (.ref w_CONSTANT), .val (.int (0 : Int32))] [(.int (1 : Int32))])) _
    exact retN X3 hx (t := .boolean) Bd.returns (by simp) (hb hby at_185) hr
  · show Q0 n0 _ T3.heap _
    rw [e3]
    exact ⟨rfl, N3⟩
set_option maxRecDepth 65536 in
set_option maxHeartbeats 40000000 in
theorem rm0_c4 (l : Launch) (Z : State) (a0 : Array Value) (hw : ∀ d ∈ tables_1, d.before a0 Z = true) (ws : List Jvm.Cond) (p1 : Int32) (w_CONSTRUCTOR : Addr) (w_DATA : Addr) (w_TUPLE : Addr) (r3 : Int32) (h0 : Heap) (n0 : Nat) (Z0 : n0 ≤ h0.size) (S_CONSTRUCTOR : Sta Z h0 "com/example/applied_pi_checker/appliedpichecker/FunctionSymbol$Kind" "CONSTRUCTOR" "Lcom/example/applied_pi_checker/appliedpichecker/FunctionSymbol$Kind;" (.ref w_CONSTRUCTOR)) (S_DATA : Sta Z h0 "com/example/applied_pi_checker/appliedpichecker/FunctionSymbol$Kind" "DATA" "Lcom/example/applied_pi_checker/appliedpichecker/FunctionSymbol$Kind;" (.ref w_DATA)) (S_TUPLE : Sta Z h0 "com/example/applied_pi_checker/appliedpichecker/FunctionSymbol$Kind" "TUPLE" "Lcom/example/applied_pi_checker/appliedpichecker/FunctionSymbol$Kind;" (.ref w_TUPLE)) (P3 : R1 w_CONSTRUCTOR w_DATA w_TUPLE r3) (E_CONSTRUCTOR : Exa Z h0 w_CONSTRUCTOR "com/example/applied_pi_checker/appliedpichecker/FunctionSymbol$Kind") (hc9 : ¬ (((p1 &&& (2147483647 : Int32)) % (12 : Int32)) = (0 : Int32))) (hc23 : ¬ (((p1 &&& (2147483647 : Int32)) % (12 : Int32)) = (1 : Int32))) (hc37 : ¬ (((p1 &&& (2147483647 : Int32)) % (12 : Int32)) = (2 : Int32))) (hc51 : ¬ (((p1 &&& (2147483647 : Int32)) % (12 : Int32)) = (3 : Int32))) (hc65 : ((p1 &&& (2147483647 : Int32)) % (12 : Int32)) = (4 : Int32)) (hc177 : r3 = (0 : Int32)) :
    MetFree l x (head1 (Jvm.Cond.code x code maxLocals ret :: ws) room_1) (fun a U => a = #[(.int p1)] ∧ Z.Warmed39 U.vm ∧ U.heap = h0) (fun _ _ _ _ _ => True) (fun _ U o U' => ∃ v L, o = .returned v ∧ Q0 n0 v U'.heap L ∧ FrameEnd U o U' L room_1.cells room_1.slots) := by
  refine MetFree.of_bodySF (plainFor_of_name pn_0) hisR ?_
  intro p e s m args below meth c s₁ Bd hml0 hP hK
  obtain ⟨rfl, hZ, hh⟩ := hP
  have hx := Bd.exec
  have hby := Bd.bytes
  have hml : c.maxLocals = 4 := hml0
  have hown : s.vm.findClass "com/example/applied_pi_checker/appliedpichecker/KindIsDataPinLaw" = some m.cls := findClass_of_methodNamed Bd.named
  have hnm := (name_of_methodNamed Bd.named Bd.method).1
  have X0 : Stand p l e room_1 s m #[(.int p1)] below meth c s₁ [] 0 0 := Stand.of_body Bd
  have e0 : s₁.heap = h0 := by rw [← hh, Bd.state]; rfl
  have N0 := Fr.nil n0
  have pre0 : ∀ t, Steps p.tables e below (s₁.setTop (mkF m 0 #[.val (.int p1), .unset, .unset, .unset] [])) t → Steps p.tables e below (s₁.setTop (entryFrame m #[(.int p1)] maxLocals)) t := fun t k => castTop (ef_0 m p1) k
  -- 3. LAWS
  obtain ⟨T2, X2, e2, st2⟩ := getS2 X0 hx hZ hown (host := "") (Or.inl (hw _ (List.mem_of_getElem? (i := 20) rfl))) Via.refl e0 S_CONSTRUCTOR (g := (mkF m 68 #[.val (.int p1), .val (.int ((p1 &&& (2147483647 : Int32)) % (12 : Int32))), .unset, .unset] [])) rfl (hb hby at_68)
  obtain ⟨cq3, kq3, q3a, q3b, q3c⟩ := isOf hZ e2 E_CONSTRUCTOR
  obtain ⟨_, _, ⟨T3, L3, k3, n3⟩, -, X3, ⟨Lc3, hQ3, l3, y3, z3⟩, st3⟩ := X2.virtualBack hx (y := (⟨"com/example/applied_pi_checker/appliedpichecker/FunctionSymbol$Kind", "isData", "()Z"⟩ : MethodName)) (z := (⟨"com/example/applied_pi_checker/appliedpichecker/FunctionSymbol$Kind", "isData", "()Z"⟩ : MethodName)) hown (mvT hZ (hw _ (List.mem_of_getElem? (i := 4) rfl))) (mvT hZ (hw _ (List.mem_of_getElem? (i := 5) rfl))) (notFace_of_selects (args := #[]) (mvT hZ (hw _ (List.mem_of_getElem? (i := 7) rfl)))) (mvT hZ (hw _ (List.mem_of_getElem? (i := 7) rfl))) (mvT hZ (hw _ (List.mem_of_getElem? (i := 6) rfl))) (by decide) (backOf (W := 0) (rm1 l Z a0 hw [] w_CONSTRUCTOR w_DATA w_TUPLE r3 h0 n0 Z0 S_DATA S_TUPLE P3) hZ (hw _ (List.mem_of_getElem? (i := 8) rfl)) (hw _ (List.mem_of_getElem? (i := 2) rfl)) (by decide) (by decide)) q3a q3c (g := (mkF m 173 #[.val (.int p1), .val (.int ((p1 &&& (2147483647 : Int32)) % (12 : Int32))), .val (.ref w_CONSTRUCTOR), .val (.int (0 : Int32))] [(.ref w_CONSTRUCTOR)])) rfl (by rw [hml]; rfl) (Steps.refl _) (argsL := []) (rest := []) (lenOf pd_0_0 rfl) rfl (by show 2 * 0 + _ ≤ _; exact Nat.le_of_eq rfl) (hb hby at_173) (fun _ _ => ⟨rfl, e2, (by decide : 0 + 0 ≤ _), (by decide : 0 + 0 ≤ _)⟩)
  dsimp only [Pt.U, Pt.locs, Pt.cells, Pt.slots] at X3 l3 y3 z3 st3 hQ3
  subst l3 y3 z3
  obtain ⟨rfl, N3q, e3⟩ := hQ3
  have N3 := Fr.app N0 N3q
  obtain ⟨fs, hr, hrun, hended, hW, hsame⟩ := X3.leave (v := some (.int (1 : Int32))) (fun h => by rw [Bd.returns] at h; cases h)
  refine ⟨_, _, pre0 _ ?_, hrun, hended, _, _, rfl, ?_, ⟨_, rfl⟩, hW, hsame.mono (by decide) (by decide)⟩
  -- 4. STEPS
  · show Steps p.tables e below (s₁.setTop (mkF m 0 #[.val (.int p1), .unset, .unset, .unset] [])) _
    refine XS.iloadN X0.here hx rfl (hb hby at_0) rfl ?_
    show Steps p.tables e below (s₁.setTop (mkF m 1 #[.val (.int p1), .unset, .unset, .unset] [(.int p1)])) _
    refine X0.ldcInt hx hown (mvT hZ (hw _ (List.mem_of_getElem? (i := 0) rfl))) (g := (mkF m 1 #[.val (.int p1), .unset, .unset, .unset] [(.int p1)])) rfl (hb hby at_1) _ ?_
    show Steps p.tables e below (s₁.setTop (mkF m 3 #[.val (.int p1), .unset, .unset, .unset] [(.int (2147483647 : Int32)), (.int p1)])) _
    refine XS.iand X0.here hx rfl (hb hby at_3) rfl ?_
    show Steps p.tables e below (s₁.setTop (mkF m 4 #[.val (.int p1), .unset, .unset, .unset] [(.int (p1 &&& (2147483647 : Int32)))])) _
    refine XS.bipush X0.here hx rfl (hb hby at_4) ?_
    show Steps p.tables e below (s₁.setTop (mkF m 6 #[.val (.int p1), .unset, .unset, .unset] [(.int (12 : Int32)), (.int (p1 &&& (2147483647 : Int32)))])) _
    refine iremM X0 hx rfl (hb hby at_6) rfl (by decide) ?_
    show Steps p.tables e below (s₁.setTop (mkF m 7 #[.val (.int p1), .unset, .unset, .unset] [(.int ((p1 &&& (2147483647 : Int32)) % (12 : Int32)))])) _
    refine XS.istoreN X0.here hx rfl (hb hby at_7) rfl (l' := #[.val (.int p1), .val (.int ((p1 &&& (2147483647 : Int32)) % (12 : Int32))), .unset, .unset]) rfl ?_
    show Steps p.tables e below (s₁.setTop (mkF m 8 #[.val (.int p1), .val (.int ((p1 &&& (2147483647 : Int32)) % (12 : Int32))), .unset, .unset] [])) _
    refine XS.iloadN X0.here hx rfl (hb hby at_8) rfl ?_
    show Steps p.tables e below (s₁.setTop (mkF m 9 #[.val (.int p1), .val (.int ((p1 &&& (2147483647 : Int32)) % (12 : Int32))), .unset, .unset] [(.int ((p1 &&& (2147483647 : Int32)) % (12 : Int32)))])) _
    refine XS.ifYes X0.here hx rfl (pc0 := 9) (pc' := 21) rfl (hb hby at_9) rfl ((if0 _ _).trans (feq hc9).2) (by decide) (by decide) ?_
    show Steps p.tables e below (s₁.setTop (mkF m 21 #[.val (.int p1), .val (.int ((p1 &&& (2147483647 : Int32)) % (12 : Int32))), .unset, .unset] [])) _
    refine XS.iloadN X0.here hx rfl (hb hby at_21) rfl ?_
    show Steps p.tables e below (s₁.setTop (mkF m 22 #[.val (.int p1), .val (.int ((p1 &&& (2147483647 : Int32)) % (12 : Int32))), .unset, .unset] [(.int ((p1 &&& (2147483647 : Int32)) % (12 : Int32)))])) _
    refine XS.iconst X0.here hx rfl (hb hby at_22) ?_
    show Steps p.tables e below (s₁.setTop (mkF m 23 #[.val (.int p1), .val (.int ((p1 &&& (2147483647 : Int32)) % (12 : Int32))), .unset, .unset] [(.int (1 : Int32)), (.int ((p1 &&& (2147483647 : Int32)) % (12 : Int32)))])) _
    refine XS.icmpYes X0.here hx rfl (pc0 := 23) (pc' := 35) rfl (hb hby at_23) rfl (feq hc23).2 (by decide) (by decide) ?_
    show Steps p.tables e below (s₁.setTop (mkF m 35 #[.val (.int p1), .val (.int ((p1 &&& (2147483647 : Int32)) % (12 : Int32))), .unset, .unset] [])) _
    refine XS.iloadN X0.here hx rfl (hb hby at_35) rfl ?_
    show Steps p.tables e below (s₁.setTop (mkF m 36 #[.val (.int p1), .val (.int ((p1 &&& (2147483647 : Int32)) % (12 : Int32))), .unset, .unset] [(.int ((p1 &&& (2147483647 : Int32)) % (12 : Int32)))])) _
    refine XS.iconst X0.here hx rfl (hb hby at_36) ?_
    show Steps p.tables e below (s₁.setTop (mkF m 37 #[.val (.int p1), .val (.int ((p1 &&& (2147483647 : Int32)) % (12 : Int32))), .unset, .unset] [(.int (2 : Int32)), (.int ((p1 &&& (2147483647 : Int32)) % (12 : Int32)))])) _
    refine XS.icmpYes X0.here hx rfl (pc0 := 37) (pc' := 49) rfl (hb hby at_37) rfl (feq hc37).2 (by decide) (by decide) ?_
    show Steps p.tables e below (s₁.setTop (mkF m 49 #[.val (.int p1), .val (.int ((p1 &&& (2147483647 : Int32)) % (12 : Int32))), .unset, .unset] [])) _
    refine XS.iloadN X0.here hx rfl (hb hby at_49) rfl ?_
    show Steps p.tables e below (s₁.setTop (mkF m 50 #[.val (.int p1), .val (.int ((p1 &&& (2147483647 : Int32)) % (12 : Int32))), .unset, .unset] [(.int ((p1 &&& (2147483647 : Int32)) % (12 : Int32)))])) _
    refine XS.iconst X0.here hx rfl (hb hby at_50) ?_
    show Steps p.tables e below (s₁.setTop (mkF m 51 #[.val (.int p1), .val (.int ((p1 &&& (2147483647 : Int32)) % (12 : Int32))), .unset, .unset] [(.int (3 : Int32)), (.int ((p1 &&& (2147483647 : Int32)) % (12 : Int32)))])) _
    refine XS.icmpYes X0.here hx rfl (pc0 := 51) (pc' := 63) rfl (hb hby at_51) rfl (feq hc51).2 (by decide) (by decide) ?_
    show Steps p.tables e below (s₁.setTop (mkF m 63 #[.val (.int p1), .val (.int ((p1 &&& (2147483647 : Int32)) % (12 : Int32))), .unset, .unset] [])) _
    refine XS.iloadN X0.here hx rfl (hb hby at_63) rfl ?_
    show Steps p.tables e below (s₁.setTop (mkF m 64 #[.val (.int p1), .val (.int ((p1 &&& (2147483647 : Int32)) % (12 : Int32))), .unset, .unset] [(.int ((p1 &&& (2147483647 : Int32)) % (12 : Int32)))])) _
    refine XS.iconst X0.here hx rfl (hb hby at_64) ?_
    show Steps p.tables e below (s₁.setTop (mkF m 65 #[.val (.int p1), .val (.int ((p1 &&& (2147483647 : Int32)) % (12 : Int32))), .unset, .unset] [(.int (4 : Int32)), (.int ((p1 &&& (2147483647 : Int32)) % (12 : Int32)))])) _
    refine XS.icmpNo X0.here hx rfl (hb hby at_65) rfl (teq hc65).2 ?_
    show Steps p.tables e below (s₁.setTop (mkF m 68 #[.val (.int p1), .val (.int ((p1 &&& (2147483647 : Int32)) % (12 : Int32))), .unset, .unset] [])) _
    refine st2 _ ?_
    show Steps p.tables e below (T2.setTop (mkF m 71 #[.val (.int p1), .val (.int ((p1 &&& (2147483647 : Int32)) % (12 : Int32))), .unset, .unset] [(.ref w_CONSTRUCTOR)])) _
    refine XS.astoreN X2.here hx rfl (hb hby at_71) rfl rfl (l' := #[.val (.int p1), .val (.int ((p1 &&& (2147483647 : Int32)) % (12 : Int32))), .val (.ref w_CONSTRUCTOR), .unset]) rfl ?_
    show Steps p.tables e below (T2.setTop (mkF m 72 #[.val (.int p1), .val (.int ((p1 &&& (2147483647 : Int32)) % (12 : Int32))), .val (.ref w_CONSTRUCTOR), .unset] [])) _
    refine XS.iconst X2.here hx rfl (hb hby at_72) ?_
    show Steps p.tables e below (T2.setTop (mkF m 73 #[.val (.int p1), .val (.int ((p1 &&& (2147483647 : Int32)) % (12 : Int32))), .val (.ref w_CONSTRUCTOR), .unset] [(.int (0 : Int32))])) _
    refine XS.istoreN X2.here hx rfl (hb hby at_73) rfl (l' := #[.val (.int p1), .val (.int ((p1 &&& (2147483647 : Int32)) % (12 : Int32))), .val (.ref w_CONSTRUCTOR), .val (.int (0 : Int32))]) rfl ?_
    show Steps p.tables e below (T2.setTop (mkF m 74 #[.val (.int p1), .val (.int ((p1 &&& (2147483647 : Int32)) % (12 : Int32))), .val (.ref w_CONSTRUCTOR), .val (.int (0 : Int32))] [])) _
    refine XS.goto X2.here hx rfl (pc0 := 74) (pc' := 172) rfl (hb hby at_74) (by decide) (by decide) ?_
    show Steps p.tables e below (T2.setTop (mkF m 172 #[.val (.int p1), .val (.int ((p1 &&& (2147483647 : Int32)) % (12 : Int32))), .val (.ref w_CONSTRUCTOR), .val (.int (0 : Int32))] [])) _
    refine XS.aloadN X2.here hx rfl (hb hby at_172) rfl rfl ?_
    show Steps p.tables e below (T2.setTop (mkF m 173 #[.val (.int p1), .val (.int ((p1 &&& (2147483647 : Int32)) % (12 : Int32))), .val (.ref w_CONSTRUCTOR), .val (.int (0 : Int32))] [(.ref w_CONSTRUCTOR)])) _
    refine st3.trans ?_
    show Steps p.tables e below (T3.setTop (mkF m 176 #[.val (.int p1), .val (.int ((p1 &&& (2147483647 : Int32)) % (12 : Int32))), .val (.ref w_CONSTRUCTOR), .val (.int (0 : Int32))] [(.int r3)])) _
    refine XS.iloadN X3.here hx rfl (hb hby at_176) rfl ?_
    show Steps p.tables e below (T3.setTop (mkF m 177 #[.val (.int p1), .val (.int ((p1 &&& (2147483647 : Int32)) % (12 : Int32))), .val (.ref w_CONSTRUCTOR), .val (.int (0 : Int32))] [(.int (0 : Int32)), (.int r3)])) _
    refine XS.icmpNo X3.here hx rfl (hb hby at_177) rfl (teq hc177).2 ?_
    show Steps p.tables e below (T3.setTop (mkF m 180 #[.val (.int p1), .val (.int ((p1 &&& (2147483647 : Int32)) % (12 : Int32))), .val (.ref w_CONSTRUCTOR), .val (.int (0 : Int32))] [])) _
    refine XS.iconst X3.here hx rfl (hb hby at_180) ?_
    show Steps p.tables e below (T3.setTop (mkF m 181 #[.val (.int p1), .val (.int ((p1 &&& (2147483647 : Int32)) % (12 : Int32))), .val (.ref w_CONSTRUCTOR), .val (.int (0 : Int32))] [(.int (1 : Int32))])) _
    refine XS.goto X3.here hx rfl (pc0 := 181) (pc' := 185) rfl (hb hby at_181) (by decide) (by decide) ?_
    show Steps p.tables e below (T3.setTop (mkF m 185 #[.val (.int p1), .val (.int ((p1 &&& (2147483647 : Int32)) % (12 : Int32))), .val (.ref w_CONSTRUCTOR), .val (.int (0 : Int32))] [(.int (1 : Int32))])) _
    exact retN X3 hx (t := .boolean) Bd.returns (by simp) (hb hby at_185) hr
  · show Q0 n0 _ T3.heap _
    rw [e3]
    exact ⟨rfl, N3⟩
set_option maxRecDepth 65536 in
set_option maxHeartbeats 40000000 in
theorem rm0_c5 (l : Launch) (Z : State) (a0 : Array Value) (hw : ∀ d ∈ tables_1, d.before a0 Z = true) (ws : List Jvm.Cond) (p1 : Int32) (w_DATA : Addr) (w_TUPLE : Addr) (r3 : Int32) (h0 : Heap) (n0 : Nat) (Z0 : n0 ≤ h0.size) (S_DATA : Sta Z h0 "com/example/applied_pi_checker/appliedpichecker/FunctionSymbol$Kind" "DATA" "Lcom/example/applied_pi_checker/appliedpichecker/FunctionSymbol$Kind;" (.ref w_DATA)) (S_TUPLE : Sta Z h0 "com/example/applied_pi_checker/appliedpichecker/FunctionSymbol$Kind" "TUPLE" "Lcom/example/applied_pi_checker/appliedpichecker/FunctionSymbol$Kind;" (.ref w_TUPLE)) (P3 : R1 w_DATA w_DATA w_TUPLE r3) (E_DATA : Exa Z h0 w_DATA "com/example/applied_pi_checker/appliedpichecker/FunctionSymbol$Kind") (hc9 : ¬ (((p1 &&& (2147483647 : Int32)) % (12 : Int32)) = (0 : Int32))) (hc23 : ¬ (((p1 &&& (2147483647 : Int32)) % (12 : Int32)) = (1 : Int32))) (hc37 : ¬ (((p1 &&& (2147483647 : Int32)) % (12 : Int32)) = (2 : Int32))) (hc51 : ¬ (((p1 &&& (2147483647 : Int32)) % (12 : Int32)) = (3 : Int32))) (hc65 : ¬ (((p1 &&& (2147483647 : Int32)) % (12 : Int32)) = (4 : Int32))) (hc79 : ((p1 &&& (2147483647 : Int32)) % (12 : Int32)) = (5 : Int32)) (hc177 : r3 = (1 : Int32)) :
    MetFree l x (head1 (Jvm.Cond.code x code maxLocals ret :: ws) room_1) (fun a U => a = #[(.int p1)] ∧ Z.Warmed39 U.vm ∧ U.heap = h0) (fun _ _ _ _ _ => True) (fun _ U o U' => ∃ v L, o = .returned v ∧ Q0 n0 v U'.heap L ∧ FrameEnd U o U' L room_1.cells room_1.slots) := by
  refine MetFree.of_bodySF (plainFor_of_name pn_0) hisR ?_
  intro p e s m args below meth c s₁ Bd hml0 hP hK
  obtain ⟨rfl, hZ, hh⟩ := hP
  have hx := Bd.exec
  have hby := Bd.bytes
  have hml : c.maxLocals = 4 := hml0
  have hown : s.vm.findClass "com/example/applied_pi_checker/appliedpichecker/KindIsDataPinLaw" = some m.cls := findClass_of_methodNamed Bd.named
  have hnm := (name_of_methodNamed Bd.named Bd.method).1
  have X0 : Stand p l e room_1 s m #[(.int p1)] below meth c s₁ [] 0 0 := Stand.of_body Bd
  have e0 : s₁.heap = h0 := by rw [← hh, Bd.state]; rfl
  have N0 := Fr.nil n0
  have pre0 : ∀ t, Steps p.tables e below (s₁.setTop (mkF m 0 #[.val (.int p1), .unset, .unset, .unset] [])) t → Steps p.tables e below (s₁.setTop (entryFrame m #[(.int p1)] maxLocals)) t := fun t k => castTop (ef_0 m p1) k
  -- 3. LAWS
  obtain ⟨T2, X2, e2, st2⟩ := getS2 X0 hx hZ hown (host := "") (Or.inl (hw _ (List.mem_of_getElem? (i := 32) rfl))) Via.refl e0 S_DATA (g := (mkF m 82 #[.val (.int p1), .val (.int ((p1 &&& (2147483647 : Int32)) % (12 : Int32))), .unset, .unset] [])) rfl (hb hby at_82)
  obtain ⟨cq3, kq3, q3a, q3b, q3c⟩ := isOf hZ e2 E_DATA
  obtain ⟨_, _, ⟨T3, L3, k3, n3⟩, -, X3, ⟨Lc3, hQ3, l3, y3, z3⟩, st3⟩ := X2.virtualBack hx (y := (⟨"com/example/applied_pi_checker/appliedpichecker/FunctionSymbol$Kind", "isData", "()Z"⟩ : MethodName)) (z := (⟨"com/example/applied_pi_checker/appliedpichecker/FunctionSymbol$Kind", "isData", "()Z"⟩ : MethodName)) hown (mvT hZ (hw _ (List.mem_of_getElem? (i := 4) rfl))) (mvT hZ (hw _ (List.mem_of_getElem? (i := 5) rfl))) (notFace_of_selects (args := #[]) (mvT hZ (hw _ (List.mem_of_getElem? (i := 7) rfl)))) (mvT hZ (hw _ (List.mem_of_getElem? (i := 7) rfl))) (mvT hZ (hw _ (List.mem_of_getElem? (i := 6) rfl))) (by decide) (backOf (W := 0) (rm1 l Z a0 hw [] w_DATA w_DATA w_TUPLE r3 h0 n0 Z0 S_DATA S_TUPLE P3) hZ (hw _ (List.mem_of_getElem? (i := 8) rfl)) (hw _ (List.mem_of_getElem? (i := 2) rfl)) (by decide) (by decide)) q3a q3c (g := (mkF m 173 #[.val (.int p1), .val (.int ((p1 &&& (2147483647 : Int32)) % (12 : Int32))), .val (.ref w_DATA), .val (.int (1 : Int32))] [(.ref w_DATA)])) rfl (by rw [hml]; rfl) (Steps.refl _) (argsL := []) (rest := []) (lenOf pd_0_0 rfl) rfl (by show 2 * 0 + _ ≤ _; exact Nat.le_of_eq rfl) (hb hby at_173) (fun _ _ => ⟨rfl, e2, (by decide : 0 + 0 ≤ _), (by decide : 0 + 0 ≤ _)⟩)
  dsimp only [Pt.U, Pt.locs, Pt.cells, Pt.slots] at X3 l3 y3 z3 st3 hQ3
  subst l3 y3 z3
  obtain ⟨rfl, N3q, e3⟩ := hQ3
  have N3 := Fr.app N0 N3q
  obtain ⟨fs, hr, hrun, hended, hW, hsame⟩ := X3.leave (v := some (.int (1 : Int32))) (fun h => by rw [Bd.returns] at h; cases h)
  refine ⟨_, _, pre0 _ ?_, hrun, hended, _, _, rfl, ?_, ⟨_, rfl⟩, hW, hsame.mono (by decide) (by decide)⟩
  -- 4. STEPS
  · show Steps p.tables e below (s₁.setTop (mkF m 0 #[.val (.int p1), .unset, .unset, .unset] [])) _
    refine XS.iloadN X0.here hx rfl (hb hby at_0) rfl ?_
    show Steps p.tables e below (s₁.setTop (mkF m 1 #[.val (.int p1), .unset, .unset, .unset] [(.int p1)])) _
    refine X0.ldcInt hx hown (mvT hZ (hw _ (List.mem_of_getElem? (i := 0) rfl))) (g := (mkF m 1 #[.val (.int p1), .unset, .unset, .unset] [(.int p1)])) rfl (hb hby at_1) _ ?_
    show Steps p.tables e below (s₁.setTop (mkF m 3 #[.val (.int p1), .unset, .unset, .unset] [(.int (2147483647 : Int32)), (.int p1)])) _
    refine XS.iand X0.here hx rfl (hb hby at_3) rfl ?_
    show Steps p.tables e below (s₁.setTop (mkF m 4 #[.val (.int p1), .unset, .unset, .unset] [(.int (p1 &&& (2147483647 : Int32)))])) _
    refine XS.bipush X0.here hx rfl (hb hby at_4) ?_
    show Steps p.tables e below (s₁.setTop (mkF m 6 #[.val (.int p1), .unset, .unset, .unset] [(.int (12 : Int32)), (.int (p1 &&& (2147483647 : Int32)))])) _
    refine iremM X0 hx rfl (hb hby at_6) rfl (by decide) ?_
    show Steps p.tables e below (s₁.setTop (mkF m 7 #[.val (.int p1), .unset, .unset, .unset] [(.int ((p1 &&& (2147483647 : Int32)) % (12 : Int32)))])) _
    refine XS.istoreN X0.here hx rfl (hb hby at_7) rfl (l' := #[.val (.int p1), .val (.int ((p1 &&& (2147483647 : Int32)) % (12 : Int32))), .unset, .unset]) rfl ?_
    show Steps p.tables e below (s₁.setTop (mkF m 8 #[.val (.int p1), .val (.int ((p1 &&& (2147483647 : Int32)) % (12 : Int32))), .unset, .unset] [])) _
    refine XS.iloadN X0.here hx rfl (hb hby at_8) rfl ?_
    show Steps p.tables e below (s₁.setTop (mkF m 9 #[.val (.int p1), .val (.int ((p1 &&& (2147483647 : Int32)) % (12 : Int32))), .unset, .unset] [(.int ((p1 &&& (2147483647 : Int32)) % (12 : Int32)))])) _
    refine XS.ifYes X0.here hx rfl (pc0 := 9) (pc' := 21) rfl (hb hby at_9) rfl ((if0 _ _).trans (feq hc9).2) (by decide) (by decide) ?_
    show Steps p.tables e below (s₁.setTop (mkF m 21 #[.val (.int p1), .val (.int ((p1 &&& (2147483647 : Int32)) % (12 : Int32))), .unset, .unset] [])) _
    refine XS.iloadN X0.here hx rfl (hb hby at_21) rfl ?_
    show Steps p.tables e below (s₁.setTop (mkF m 22 #[.val (.int p1), .val (.int ((p1 &&& (2147483647 : Int32)) % (12 : Int32))), .unset, .unset] [(.int ((p1 &&& (2147483647 : Int32)) % (12 : Int32)))])) _
    refine XS.iconst X0.here hx rfl (hb hby at_22) ?_
    show Steps p.tables e below (s₁.setTop (mkF m 23 #[.val (.int p1), .val (.int ((p1 &&& (2147483647 : Int32)) % (12 : Int32))), .unset, .unset] [(.int (1 : Int32)), (.int ((p1 &&& (2147483647 : Int32)) % (12 : Int32)))])) _
    refine XS.icmpYes X0.here hx rfl (pc0 := 23) (pc' := 35) rfl (hb hby at_23) rfl (feq hc23).2 (by decide) (by decide) ?_
    show Steps p.tables e below (s₁.setTop (mkF m 35 #[.val (.int p1), .val (.int ((p1 &&& (2147483647 : Int32)) % (12 : Int32))), .unset, .unset] [])) _
    refine XS.iloadN X0.here hx rfl (hb hby at_35) rfl ?_
    show Steps p.tables e below (s₁.setTop (mkF m 36 #[.val (.int p1), .val (.int ((p1 &&& (2147483647 : Int32)) % (12 : Int32))), .unset, .unset] [(.int ((p1 &&& (2147483647 : Int32)) % (12 : Int32)))])) _
    refine XS.iconst X0.here hx rfl (hb hby at_36) ?_
    show Steps p.tables e below (s₁.setTop (mkF m 37 #[.val (.int p1), .val (.int ((p1 &&& (2147483647 : Int32)) % (12 : Int32))), .unset, .unset] [(.int (2 : Int32)), (.int ((p1 &&& (2147483647 : Int32)) % (12 : Int32)))])) _
    refine XS.icmpYes X0.here hx rfl (pc0 := 37) (pc' := 49) rfl (hb hby at_37) rfl (feq hc37).2 (by decide) (by decide) ?_
    show Steps p.tables e below (s₁.setTop (mkF m 49 #[.val (.int p1), .val (.int ((p1 &&& (2147483647 : Int32)) % (12 : Int32))), .unset, .unset] [])) _
    refine XS.iloadN X0.here hx rfl (hb hby at_49) rfl ?_
    show Steps p.tables e below (s₁.setTop (mkF m 50 #[.val (.int p1), .val (.int ((p1 &&& (2147483647 : Int32)) % (12 : Int32))), .unset, .unset] [(.int ((p1 &&& (2147483647 : Int32)) % (12 : Int32)))])) _
    refine XS.iconst X0.here hx rfl (hb hby at_50) ?_
    show Steps p.tables e below (s₁.setTop (mkF m 51 #[.val (.int p1), .val (.int ((p1 &&& (2147483647 : Int32)) % (12 : Int32))), .unset, .unset] [(.int (3 : Int32)), (.int ((p1 &&& (2147483647 : Int32)) % (12 : Int32)))])) _
    refine XS.icmpYes X0.here hx rfl (pc0 := 51) (pc' := 63) rfl (hb hby at_51) rfl (feq hc51).2 (by decide) (by decide) ?_
    show Steps p.tables e below (s₁.setTop (mkF m 63 #[.val (.int p1), .val (.int ((p1 &&& (2147483647 : Int32)) % (12 : Int32))), .unset, .unset] [])) _
    refine XS.iloadN X0.here hx rfl (hb hby at_63) rfl ?_
    show Steps p.tables e below (s₁.setTop (mkF m 64 #[.val (.int p1), .val (.int ((p1 &&& (2147483647 : Int32)) % (12 : Int32))), .unset, .unset] [(.int ((p1 &&& (2147483647 : Int32)) % (12 : Int32)))])) _
    refine XS.iconst X0.here hx rfl (hb hby at_64) ?_
    show Steps p.tables e below (s₁.setTop (mkF m 65 #[.val (.int p1), .val (.int ((p1 &&& (2147483647 : Int32)) % (12 : Int32))), .unset, .unset] [(.int (4 : Int32)), (.int ((p1 &&& (2147483647 : Int32)) % (12 : Int32)))])) _
    refine XS.icmpYes X0.here hx rfl (pc0 := 65) (pc' := 77) rfl (hb hby at_65) rfl (feq hc65).2 (by decide) (by decide) ?_
    show Steps p.tables e below (s₁.setTop (mkF m 77 #[.val (.int p1), .val (.int ((p1 &&& (2147483647 : Int32)) % (12 : Int32))), .unset, .unset] [])) _
    refine XS.iloadN X0.here hx rfl (hb hby at_77) rfl ?_
    show Steps p.tables e below (s₁.setTop (mkF m 78 #[.val (.int p1), .val (.int ((p1 &&& (2147483647 : Int32)) % (12 : Int32))), .unset, .unset] [(.int ((p1 &&& (2147483647 : Int32)) % (12 : Int32)))])) _
    refine XS.iconst X0.here hx rfl (hb hby at_78) ?_
    show Steps p.tables e below (s₁.setTop (mkF m 79 #[.val (.int p1), .val (.int ((p1 &&& (2147483647 : Int32)) % (12 : Int32))), .unset, .unset] [(.int (5 : Int32)), (.int ((p1 &&& (2147483647 : Int32)) % (12 : Int32)))])) _
    refine XS.icmpNo X0.here hx rfl (hb hby at_79) rfl (teq hc79).2 ?_
    show Steps p.tables e below (s₁.setTop (mkF m 82 #[.val (.int p1), .val (.int ((p1 &&& (2147483647 : Int32)) % (12 : Int32))), .unset, .unset] [])) _
    refine st2 _ ?_
    show Steps p.tables e below (T2.setTop (mkF m 85 #[.val (.int p1), .val (.int ((p1 &&& (2147483647 : Int32)) % (12 : Int32))), .unset, .unset] [(.ref w_DATA)])) _
    refine XS.astoreN X2.here hx rfl (hb hby at_85) rfl rfl (l' := #[.val (.int p1), .val (.int ((p1 &&& (2147483647 : Int32)) % (12 : Int32))), .val (.ref w_DATA), .unset]) rfl ?_
    show Steps p.tables e below (T2.setTop (mkF m 86 #[.val (.int p1), .val (.int ((p1 &&& (2147483647 : Int32)) % (12 : Int32))), .val (.ref w_DATA), .unset] [])) _
    refine XS.iconst X2.here hx rfl (hb hby at_86) ?_
    show Steps p.tables e below (T2.setTop (mkF m 87 #[.val (.int p1), .val (.int ((p1 &&& (2147483647 : Int32)) % (12 : Int32))), .val (.ref w_DATA), .unset] [(.int (1 : Int32))])) _
    refine XS.istoreN X2.here hx rfl (hb hby at_87) rfl (l' := #[.val (.int p1), .val (.int ((p1 &&& (2147483647 : Int32)) % (12 : Int32))), .val (.ref w_DATA), .val (.int (1 : Int32))]) rfl ?_
    show Steps p.tables e below (T2.setTop (mkF m 88 #[.val (.int p1), .val (.int ((p1 &&& (2147483647 : Int32)) % (12 : Int32))), .val (.ref w_DATA), .val (.int (1 : Int32))] [])) _
    refine XS.goto X2.here hx rfl (pc0 := 88) (pc' := 172) rfl (hb hby at_88) (by decide) (by decide) ?_
    show Steps p.tables e below (T2.setTop (mkF m 172 #[.val (.int p1), .val (.int ((p1 &&& (2147483647 : Int32)) % (12 : Int32))), .val (.ref w_DATA), .val (.int (1 : Int32))] [])) _
    refine XS.aloadN X2.here hx rfl (hb hby at_172) rfl rfl ?_
    show Steps p.tables e below (T2.setTop (mkF m 173 #[.val (.int p1), .val (.int ((p1 &&& (2147483647 : Int32)) % (12 : Int32))), .val (.ref w_DATA), .val (.int (1 : Int32))] [(.ref w_DATA)])) _
    refine st3.trans ?_
    show Steps p.tables e below (T3.setTop (mkF m 176 #[.val (.int p1), .val (.int ((p1 &&& (2147483647 : Int32)) % (12 : Int32))), .val (.ref w_DATA), .val (.int (1 : Int32))] [(.int r3)])) _
    refine XS.iloadN X3.here hx rfl (hb hby at_176) rfl ?_
    show Steps p.tables e below (T3.setTop (mkF m 177 #[.val (.int p1), .val (.int ((p1 &&& (2147483647 : Int32)) % (12 : Int32))), .val (.ref w_DATA), .val (.int (1 : Int32))] [(.int (1 : Int32)), (.int r3)])) _
    refine XS.icmpNo X3.here hx rfl (hb hby at_177) rfl (teq hc177).2 ?_
    show Steps p.tables e below (T3.setTop (mkF m 180 #[.val (.int p1), .val (.int ((p1 &&& (2147483647 : Int32)) % (12 : Int32))), .val (.ref w_DATA), .val (.int (1 : Int32))] [])) _
    refine XS.iconst X3.here hx rfl (hb hby at_180) ?_
    show Steps p.tables e below (T3.setTop (mkF m 181 #[.val (.int p1), .val (.int ((p1 &&& (2147483647 : Int32)) % (12 : Int32))), .val (.ref w_DATA), .val (.int (1 : Int32))] [(.int (1 : Int32))])) _
    refine XS.goto X3.here hx rfl (pc0 := 181) (pc' := 185) rfl (hb hby at_181) (by decide) (by decide) ?_
    show Steps p.tables e below (T3.setTop (mkF m 185 #[.val (.int p1), .val (.int ((p1 &&& (2147483647 : Int32)) % (12 : Int32))), .val (.ref w_DATA), .val (.int (1 : Int32))] [(.int (1 : Int32))])) _
    exact retN X3 hx (t := .boolean) Bd.returns (by simp) (hb hby at_185) hr
  · show Q0 n0 _ T3.heap _
    rw [e3]
    exact ⟨rfl, N3⟩
set_option maxRecDepth 65536 in
set_option maxHeartbeats 40000000 in
theorem rm0_c6 (l : Launch) (Z : State) (a0 : Array Value) (hw : ∀ d ∈ tables_1, d.before a0 Z = true) (ws : List Jvm.Cond) (p1 : Int32) (w_CONVERTER : Addr) (w_DATA : Addr) (w_TUPLE : Addr) (r3 : Int32) (h0 : Heap) (n0 : Nat) (Z0 : n0 ≤ h0.size) (S_CONVERTER : Sta Z h0 "com/example/applied_pi_checker/appliedpichecker/FunctionSymbol$Kind" "CONVERTER" "Lcom/example/applied_pi_checker/appliedpichecker/FunctionSymbol$Kind;" (.ref w_CONVERTER)) (S_DATA : Sta Z h0 "com/example/applied_pi_checker/appliedpichecker/FunctionSymbol$Kind" "DATA" "Lcom/example/applied_pi_checker/appliedpichecker/FunctionSymbol$Kind;" (.ref w_DATA)) (S_TUPLE : Sta Z h0 "com/example/applied_pi_checker/appliedpichecker/FunctionSymbol$Kind" "TUPLE" "Lcom/example/applied_pi_checker/appliedpichecker/FunctionSymbol$Kind;" (.ref w_TUPLE)) (P3 : R1 w_CONVERTER w_DATA w_TUPLE r3) (E_CONVERTER : Exa Z h0 w_CONVERTER "com/example/applied_pi_checker/appliedpichecker/FunctionSymbol$Kind") (hc9 : ¬ (((p1 &&& (2147483647 : Int32)) % (12 : Int32)) = (0 : Int32))) (hc23 : ¬ (((p1 &&& (2147483647 : Int32)) % (12 : Int32)) = (1 : Int32))) (hc37 : ¬ (((p1 &&& (2147483647 : Int32)) % (12 : Int32)) = (2 : Int32))) (hc51 : ¬ (((p1 &&& (2147483647 : Int32)) % (12 : Int32)) = (3 : Int32))) (hc65 : ¬ (((p1 &&& (2147483647 : Int32)) % (12 : Int32)) = (4 : Int32))) (hc79 : ¬ (((p1 &&& (2147483647 : Int32)) % (12 : Int32)) = (5 : Int32))) (hc94 : ((p1 &&& (2147483647 : Int32)) % (12 : Int32)) = (6 : Int32)) (hc177 : r3 = (0 : Int32)) :
    MetFree l x (head1 (Jvm.Cond.code x code maxLocals ret :: ws) room_1) (fun a U => a = #[(.int p1)] ∧ Z.Warmed39 U.vm ∧ U.heap = h0) (fun _ _ _ _ _ => True) (fun _ U o U' => ∃ v L, o = .returned v ∧ Q0 n0 v U'.heap L ∧ FrameEnd U o U' L room_1.cells room_1.slots) := by
  refine MetFree.of_bodySF (plainFor_of_name pn_0) hisR ?_
  intro p e s m args below meth c s₁ Bd hml0 hP hK
  obtain ⟨rfl, hZ, hh⟩ := hP
  have hx := Bd.exec
  have hby := Bd.bytes
  have hml : c.maxLocals = 4 := hml0
  have hown : s.vm.findClass "com/example/applied_pi_checker/appliedpichecker/KindIsDataPinLaw" = some m.cls := findClass_of_methodNamed Bd.named
  have hnm := (name_of_methodNamed Bd.named Bd.method).1
  have X0 : Stand p l e room_1 s m #[(.int p1)] below meth c s₁ [] 0 0 := Stand.of_body Bd
  have e0 : s₁.heap = h0 := by rw [← hh, Bd.state]; rfl
  have N0 := Fr.nil n0
  have pre0 : ∀ t, Steps p.tables e below (s₁.setTop (mkF m 0 #[.val (.int p1), .unset, .unset, .unset] [])) t → Steps p.tables e below (s₁.setTop (entryFrame m #[(.int p1)] maxLocals)) t := fun t k => castTop (ef_0 m p1) k
  -- 3. LAWS
  obtain ⟨T2, X2, e2, st2⟩ := getS2 X0 hx hZ hown (host := "") (Or.inl (hw _ (List.mem_of_getElem? (i := 30) rfl))) Via.refl e0 S_CONVERTER (g := (mkF m 97 #[.val (.int p1), .val (.int ((p1 &&& (2147483647 : Int32)) % (12 : Int32))), .unset, .unset] [])) rfl (hb hby at_97)
  obtain ⟨cq3, kq3, q3a, q3b, q3c⟩ := isOf hZ e2 E_CONVERTER
  obtain ⟨_, _, ⟨T3, L3, k3, n3⟩, -, X3, ⟨Lc3, hQ3, l3, y3, z3⟩, st3⟩ := X2.virtualBack hx (y := (⟨"com/example/applied_pi_checker/appliedpichecker/FunctionSymbol$Kind", "isData", "()Z"⟩ : MethodName)) (z := (⟨"com/example/applied_pi_checker/appliedpichecker/FunctionSymbol$Kind", "isData", "()Z"⟩ : MethodName)) hown (mvT hZ (hw _ (List.mem_of_getElem? (i := 4) rfl))) (mvT hZ (hw _ (List.mem_of_getElem? (i := 5) rfl))) (notFace_of_selects (args := #[]) (mvT hZ (hw _ (List.mem_of_getElem? (i := 7) rfl)))) (mvT hZ (hw _ (List.mem_of_getElem? (i := 7) rfl))) (mvT hZ (hw _ (List.mem_of_getElem? (i := 6) rfl))) (by decide) (backOf (W := 0) (rm1 l Z a0 hw [] w_CONVERTER w_DATA w_TUPLE r3 h0 n0 Z0 S_DATA S_TUPLE P3) hZ (hw _ (List.mem_of_getElem? (i := 8) rfl)) (hw _ (List.mem_of_getElem? (i := 2) rfl)) (by decide) (by decide)) q3a q3c (g := (mkF m 173 #[.val (.int p1), .val (.int ((p1 &&& (2147483647 : Int32)) % (12 : Int32))), .val (.ref w_CONVERTER), .val (.int (0 : Int32))] [(.ref w_CONVERTER)])) rfl (by rw [hml]; rfl) (Steps.refl _) (argsL := []) (rest := []) (lenOf pd_0_0 rfl) rfl (by show 2 * 0 + _ ≤ _; exact Nat.le_of_eq rfl) (hb hby at_173) (fun _ _ => ⟨rfl, e2, (by decide : 0 + 0 ≤ _), (by decide : 0 + 0 ≤ _)⟩)
  dsimp only [Pt.U, Pt.locs, Pt.cells, Pt.slots] at X3 l3 y3 z3 st3 hQ3
  subst l3 y3 z3
  obtain ⟨rfl, N3q, e3⟩ := hQ3
  have N3 := Fr.app N0 N3q
  obtain ⟨fs, hr, hrun, hended, hW, hsame⟩ := X3.leave (v := some (.int (1 : Int32))) (fun h => by rw [Bd.returns] at h; cases h)
  refine ⟨_, _, pre0 _ ?_, hrun, hended, _, _, rfl, ?_, ⟨_, rfl⟩, hW, hsame.mono (by decide) (by decide)⟩
  -- 4. STEPS
  · show Steps p.tables e below (s₁.setTop (mkF m 0 #[.val (.int p1), .unset, .unset, .unset] [])) _
    refine XS.iloadN X0.here hx rfl (hb hby at_0) rfl ?_
    show Steps p.tables e below (s₁.setTop (mkF m 1 #[.val (.int p1), .unset, .unset, .unset] [(.int p1)])) _
    refine X0.ldcInt hx hown (mvT hZ (hw _ (List.mem_of_getElem? (i := 0) rfl))) (g := (mkF m 1 #[.val (.int p1), .unset, .unset, .unset] [(.int p1)])) rfl (hb hby at_1) _ ?_
    show Steps p.tables e below (s₁.setTop (mkF m 3 #[.val (.int p1), .unset, .unset, .unset] [(.int (2147483647 : Int32)), (.int p1)])) _
    refine XS.iand X0.here hx rfl (hb hby at_3) rfl ?_
    show Steps p.tables e below (s₁.setTop (mkF m 4 #[.val (.int p1), .unset, .unset, .unset] [(.int (p1 &&& (2147483647 : Int32)))])) _
    refine XS.bipush X0.here hx rfl (hb hby at_4) ?_
    show Steps p.tables e below (s₁.setTop (mkF m 6 #[.val (.int p1), .unset, .unset, .unset] [(.int (12 : Int32)), (.int (p1 &&& (2147483647 : Int32)))])) _
    refine iremM X0 hx rfl (hb hby at_6) rfl (by decide) ?_
    show Steps p.tables e below (s₁.setTop (mkF m 7 #[.val (.int p1), .unset, .unset, .unset] [(.int ((p1 &&& (2147483647 : Int32)) % (12 : Int32)))])) _
    refine XS.istoreN X0.here hx rfl (hb hby at_7) rfl (l' := #[.val (.int p1), .val (.int ((p1 &&& (2147483647 : Int32)) % (12 : Int32))), .unset, .unset]) rfl ?_
    show Steps p.tables e below (s₁.setTop (mkF m 8 #[.val (.int p1), .val (.int ((p1 &&& (2147483647 : Int32)) % (12 : Int32))), .unset, .unset] [])) _
    refine XS.iloadN X0.here hx rfl (hb hby at_8) rfl ?_
    show Steps p.tables e below (s₁.setTop (mkF m 9 #[.val (.int p1), .val (.int ((p1 &&& (2147483647 : Int32)) % (12 : Int32))), .unset, .unset] [(.int ((p1 &&& (2147483647 : Int32)) % (12 : Int32)))])) _
    refine XS.ifYes X0.here hx rfl (pc0 := 9) (pc' := 21) rfl (hb hby at_9) rfl ((if0 _ _).trans (feq hc9).2) (by decide) (by decide) ?_
    show Steps p.tables e below (s₁.setTop (mkF m 21 #[.val (.int p1), .val (.int ((p1 &&& (2147483647 : Int32)) % (12 : Int32))), .unset, .unset] [])) _
    refine XS.iloadN X0.here hx rfl (hb hby at_21) rfl ?_
    show Steps p.tables e below (s₁.setTop (mkF m 22 #[.val (.int p1), .val (.int ((p1 &&& (2147483647 : Int32)) % (12 : Int32))), .unset, .unset] [(.int ((p1 &&& (2147483647 : Int32)) % (12 : Int32)))])) _
    refine XS.iconst X0.here hx rfl (hb hby at_22) ?_
    show Steps p.tables e below (s₁.setTop (mkF m 23 #[.val (.int p1), .val (.int ((p1 &&& (2147483647 : Int32)) % (12 : Int32))), .unset, .unset] [(.int (1 : Int32)), (.int ((p1 &&& (2147483647 : Int32)) % (12 : Int32)))])) _
    refine XS.icmpYes X0.here hx rfl (pc0 := 23) (pc' := 35) rfl (hb hby at_23) rfl (feq hc23).2 (by decide) (by decide) ?_
    show Steps p.tables e below (s₁.setTop (mkF m 35 #[.val (.int p1), .val (.int ((p1 &&& (2147483647 : Int32)) % (12 : Int32))), .unset, .unset] [])) _
    refine XS.iloadN X0.here hx rfl (hb hby at_35) rfl ?_
    show Steps p.tables e below (s₁.setTop (mkF m 36 #[.val (.int p1), .val (.int ((p1 &&& (2147483647 : Int32)) % (12 : Int32))), .unset, .unset] [(.int ((p1 &&& (2147483647 : Int32)) % (12 : Int32)))])) _
    refine XS.iconst X0.here hx rfl (hb hby at_36) ?_
    show Steps p.tables e below (s₁.setTop (mkF m 37 #[.val (.int p1), .val (.int ((p1 &&& (2147483647 : Int32)) % (12 : Int32))), .unset, .unset] [(.int (2 : Int32)), (.int ((p1 &&& (2147483647 : Int32)) % (12 : Int32)))])) _
    refine XS.icmpYes X0.here hx rfl (pc0 := 37) (pc' := 49) rfl (hb hby at_37) rfl (feq hc37).2 (by decide) (by decide) ?_
    show Steps p.tables e below (s₁.setTop (mkF m 49 #[.val (.int p1), .val (.int ((p1 &&& (2147483647 : Int32)) % (12 : Int32))), .unset, .unset] [])) _
    refine XS.iloadN X0.here hx rfl (hb hby at_49) rfl ?_
    show Steps p.tables e below (s₁.setTop (mkF m 50 #[.val (.int p1), .val (.int ((p1 &&& (2147483647 : Int32)) % (12 : Int32))), .unset, .unset] [(.int ((p1 &&& (2147483647 : Int32)) % (12 : Int32)))])) _
    refine XS.iconst X0.here hx rfl (hb hby at_50) ?_
    show Steps p.tables e below (s₁.setTop (mkF m 51 #[.val (.int p1), .val (.int ((p1 &&& (2147483647 : Int32)) % (12 : Int32))), .unset, .unset] [(.int (3 : Int32)), (.int ((p1 &&& (2147483647 : Int32)) % (12 : Int32)))])) _
    refine XS.icmpYes X0.here hx rfl (pc0 := 51) (pc' := 63) rfl (hb hby at_51) rfl (feq hc51).2 (by decide) (by decide) ?_
    show Steps p.tables e below (s₁.setTop (mkF m 63 #[.val (.int p1), .val (.int ((p1 &&& (2147483647 : Int32)) % (12 : Int32))), .unset, .unset] [])) _
    refine XS.iloadN X0.here hx rfl (hb hby at_63) rfl ?_
    show Steps p.tables e below (s₁.setTop (mkF m 64 #[.val (.int p1), .val (.int ((p1 &&& (2147483647 : Int32)) % (12 : Int32))), .unset, .unset] [(.int ((p1 &&& (2147483647 : Int32)) % (12 : Int32)))])) _
    refine XS.iconst X0.here hx rfl (hb hby at_64) ?_
    show Steps p.tables e below (s₁.setTop (mkF m 65 #[.val (.int p1), .val (.int ((p1 &&& (2147483647 : Int32)) % (12 : Int32))), .unset, .unset] [(.int (4 : Int32)), (.int ((p1 &&& (2147483647 : Int32)) % (12 : Int32)))])) _
    refine XS.icmpYes X0.here hx rfl (pc0 := 65) (pc' := 77) rfl (hb hby at_65) rfl (feq hc65).2 (by decide) (by decide) ?_
    show Steps p.tables e below (s₁.setTop (mkF m 77 #[.val (.int p1), .val (.int ((p1 &&& (2147483647 : Int32)) % (12 : Int32))), .unset, .unset] [])) _
    refine XS.iloadN X0.here hx rfl (hb hby at_77) rfl ?_
    show Steps p.tables e below (s₁.setTop (mkF m 78 #[.val (.int p1), .val (.int ((p1 &&& (2147483647 : Int32)) % (12 : Int32))), .unset, .unset] [(.int ((p1 &&& (2147483647 : Int32)) % (12 : Int32)))])) _
    refine XS.iconst X0.here hx rfl (hb hby at_78) ?_
    show Steps p.tables e below (s₁.setTop (mkF m 79 #[.val (.int p1), .val (.int ((p1 &&& (2147483647 : Int32)) % (12 : Int32))), .unset, .unset] [(.int (5 : Int32)), (.int ((p1 &&& (2147483647 : Int32)) % (12 : Int32)))])) _
    refine XS.icmpYes X0.here hx rfl (pc0 := 79) (pc' := 91) rfl (hb hby at_79) rfl (feq hc79).2 (by decide) (by decide) ?_
    show Steps p.tables e below (s₁.setTop (mkF m 91 #[.val (.int p1), .val (.int ((p1 &&& (2147483647 : Int32)) % (12 : Int32))), .unset, .unset] [])) _
    refine XS.iloadN X0.here hx rfl (hb hby at_91) rfl ?_
    show Steps p.tables e below (s₁.setTop (mkF m 92 #[.val (.int p1), .val (.int ((p1 &&& (2147483647 : Int32)) % (12 : Int32))), .unset, .unset] [(.int ((p1 &&& (2147483647 : Int32)) % (12 : Int32)))])) _
    refine XS.bipush X0.here hx rfl (hb hby at_92) ?_
    show Steps p.tables e below (s₁.setTop (mkF m 94 #[.val (.int p1), .val (.int ((p1 &&& (2147483647 : Int32)) % (12 : Int32))), .unset, .unset] [(.int (6 : Int32)), (.int ((p1 &&& (2147483647 : Int32)) % (12 : Int32)))])) _
    refine XS.icmpNo X0.here hx rfl (hb hby at_94) rfl (teq hc94).2 ?_
    show Steps p.tables e below (s₁.setTop (mkF m 97 #[.val (.int p1), .val (.int ((p1 &&& (2147483647 : Int32)) % (12 : Int32))), .unset, .unset] [])) _
    refine st2 _ ?_
    show Steps p.tables e below (T2.setTop (mkF m 100 #[.val (.int p1), .val (.int ((p1 &&& (2147483647 : Int32)) % (12 : Int32))), .unset, .unset] [(.ref w_CONVERTER)])) _
    refine XS.astoreN X2.here hx rfl (hb hby at_100) rfl rfl (l' := #[.val (.int p1), .val (.int ((p1 &&& (2147483647 : Int32)) % (12 : Int32))), .val (.ref w_CONVERTER), .unset]) rfl ?_
    show Steps p.tables e below (T2.setTop (mkF m 101 #[.val (.int p1), .val (.int ((p1 &&& (2147483647 : Int32)) % (12 : Int32))), .val (.ref w_CONVERTER), .unset] [])) _
    refine XS.iconst X2.here hx rfl (hb hby at_101) ?_
    show Steps p.tables e below (T2.setTop (mkF m 102 #[.val (.int p1), .val (.int ((p1 &&& (2147483647 : Int32)) % (12 : Int32))), .val (.ref w_CONVERTER), .unset] [(.int (0 : Int32))])) _
    refine XS.istoreN X2.here hx rfl (hb hby at_102) rfl (l' := #[.val (.int p1), .val (.int ((p1 &&& (2147483647 : Int32)) % (12 : Int32))), .val (.ref w_CONVERTER), .val (.int (0 : Int32))]) rfl ?_
    show Steps p.tables e below (T2.setTop (mkF m 103 #[.val (.int p1), .val (.int ((p1 &&& (2147483647 : Int32)) % (12 : Int32))), .val (.ref w_CONVERTER), .val (.int (0 : Int32))] [])) _
    refine XS.goto X2.here hx rfl (pc0 := 103) (pc' := 172) rfl (hb hby at_103) (by decide) (by decide) ?_
    show Steps p.tables e below (T2.setTop (mkF m 172 #[.val (.int p1), .val (.int ((p1 &&& (2147483647 : Int32)) % (12 : Int32))), .val (.ref w_CONVERTER), .val (.int (0 : Int32))] [])) _
    refine XS.aloadN X2.here hx rfl (hb hby at_172) rfl rfl ?_
    show Steps p.tables e below (T2.setTop (mkF m 173 #[.val (.int p1), .val (.int ((p1 &&& (2147483647 : Int32)) % (12 : Int32))), .val (.ref w_CONVERTER), .val (.int (0 : Int32))] [(.ref w_CONVERTER)])) _
    refine st3.trans ?_
    show Steps p.tables e below (T3.setTop (mkF m 176 #[.val (.int p1), .val (.int ((p1 &&& (2147483647 : Int32)) % (12 : Int32))), .val (.ref w_CONVERTER), .val (.int (0 : Int32))] [(.int r3)])) _
    refine XS.iloadN X3.here hx rfl (hb hby at_176) rfl ?_
    show Steps p.tables e below (T3.setTop (mkF m 177 #[.val (.int p1), .val (.int ((p1 &&& (2147483647 : Int32)) % (12 : Int32))), .val (.ref w_CONVERTER), .val (.int (0 : Int32))] [(.int (0 : Int32)), (.int r3)])) _
    refine XS.icmpNo X3.here hx rfl (hb hby at_177) rfl (teq hc177).2 ?_
    show Steps p.tables e below (T3.setTop (mkF m 180 #[.val (.int p1), .val (.int ((p1 &&& (2147483647 : Int32)) % (12 : Int32))), .val (.ref w_CONVERTER), .val (.int (0 : Int32))] [])) _
    refine XS.iconst X3.here hx rfl (hb hby at_180) ?_
    show Steps p.tables e below (T3.setTop (mkF m 181 #[.val (.int p1), .val (.int ((p1 &&& (2147483647 : Int32)) % (12 : Int32))), .val (.ref w_CONVERTER), .val (.int (0 : Int32))] [(.int (1 : Int32))])) _
    refine XS.goto X3.here hx rfl (pc0 := 181) (pc' := 185) rfl (hb hby at_181) (by decide) (by decide) ?_
    show Steps p.tables e below (T3.setTop (mkF m 185 #[.val (.int p1), .val (.int ((p1 &&& (2147483647 : Int32)) % (12 : Int32))), .val (.ref w_CONVERTER), .val (.int (0 : Int32))] [(.int (1 : Int32))])) _
    exact retN X3 hx (t := .boolean) Bd.returns (by simp) (hb hby at_185) hr
  · show Q0 n0 _ T3.heap _
    rw [e3]
    exact ⟨rfl, N3⟩
set_option maxRecDepth 65536 in
set_option maxHeartbeats 40000000 in
theorem rm0_c7 (l : Launch) (Z : State) (a0 : Array Value) (hw : ∀ d ∈ tables_1, d.before a0 Z = true) (ws : List Jvm.Cond) (p1 : Int32) (w_TUPLE : Addr) (w_DATA : Addr) (r3 : Int32) (h0 : Heap) (n0 : Nat) (Z0 : n0 ≤ h0.size) (S_TUPLE : Sta Z h0 "com/example/applied_pi_checker/appliedpichecker/FunctionSymbol$Kind" "TUPLE" "Lcom/example/applied_pi_checker/appliedpichecker/FunctionSymbol$Kind;" (.ref w_TUPLE)) (S_DATA : Sta Z h0 "com/example/applied_pi_checker/appliedpichecker/FunctionSymbol$Kind" "DATA" "Lcom/example/applied_pi_checker/appliedpichecker/FunctionSymbol$Kind;" (.ref w_DATA)) (P3 : R1 w_TUPLE w_DATA w_TUPLE r3) (E_TUPLE : Exa Z h0 w_TUPLE "com/example/applied_pi_checker/appliedpichecker/FunctionSymbol$Kind") (hc9 : ¬ (((p1 &&& (2147483647 : Int32)) % (12 : Int32)) = (0 : Int32))) (hc23 : ¬ (((p1 &&& (2147483647 : Int32)) % (12 : Int32)) = (1 : Int32))) (hc37 : ¬ (((p1 &&& (2147483647 : Int32)) % (12 : Int32)) = (2 : Int32))) (hc51 : ¬ (((p1 &&& (2147483647 : Int32)) % (12 : Int32)) = (3 : Int32))) (hc65 : ¬ (((p1 &&& (2147483647 : Int32)) % (12 : Int32)) = (4 : Int32))) (hc79 : ¬ (((p1 &&& (2147483647 : Int32)) % (12 : Int32)) = (5 : Int32))) (hc94 : ¬ (((p1 &&& (2147483647 : Int32)) % (12 : Int32)) = (6 : Int32))) (hc109 : ((p1 &&& (2147483647 : Int32)) % (12 : Int32)) = (7 : Int32)) (hc177 : r3 = (1 : Int32)) :
    MetFree l x (head1 (Jvm.Cond.code x code maxLocals ret :: ws) room_1) (fun a U => a = #[(.int p1)] ∧ Z.Warmed39 U.vm ∧ U.heap = h0) (fun _ _ _ _ _ => True) (fun _ U o U' => ∃ v L, o = .returned v ∧ Q0 n0 v U'.heap L ∧ FrameEnd U o U' L room_1.cells room_1.slots) := by
  refine MetFree.of_bodySF (plainFor_of_name pn_0) hisR ?_
  intro p e s m args below meth c s₁ Bd hml0 hP hK
  obtain ⟨rfl, hZ, hh⟩ := hP
  have hx := Bd.exec
  have hby := Bd.bytes
  have hml : c.maxLocals = 4 := hml0
  have hown : s.vm.findClass "com/example/applied_pi_checker/appliedpichecker/KindIsDataPinLaw" = some m.cls := findClass_of_methodNamed Bd.named
  have hnm := (name_of_methodNamed Bd.named Bd.method).1
  have X0 : Stand p l e room_1 s m #[(.int p1)] below meth c s₁ [] 0 0 := Stand.of_body Bd
  have e0 : s₁.heap = h0 := by rw [← hh, Bd.state]; rfl
  have N0 := Fr.nil n0
  have pre0 : ∀ t, Steps p.tables e below (s₁.setTop (mkF m 0 #[.val (.int p1), .unset, .unset, .unset] [])) t → Steps p.tables e below (s₁.setTop (entryFrame m #[(.int p1)] maxLocals)) t := fun t k => castTop (ef_0 m p1) k
  -- 3. LAWS
  obtain ⟨T2, X2, e2, st2⟩ := getS2 X0 hx hZ hown (host := "") (Or.inl (hw _ (List.mem_of_getElem? (i := 17) rfl))) Via.refl e0 S_TUPLE (g := (mkF m 112 #[.val (.int p1), .val (.int ((p1 &&& (2147483647 : Int32)) % (12 : Int32))), .unset, .unset] [])) rfl (hb hby at_112)
  obtain ⟨cq3, kq3, q3a, q3b, q3c⟩ := isOf hZ e2 E_TUPLE
  obtain ⟨_, _, ⟨T3, L3, k3, n3⟩, -, X3, ⟨Lc3, hQ3, l3, y3, z3⟩, st3⟩ := X2.virtualBack hx (y := (⟨"com/example/applied_pi_checker/appliedpichecker/FunctionSymbol$Kind", "isData", "()Z"⟩ : MethodName)) (z := (⟨"com/example/applied_pi_checker/appliedpichecker/FunctionSymbol$Kind", "isData", "()Z"⟩ : MethodName)) hown (mvT hZ (hw _ (List.mem_of_getElem? (i := 4) rfl))) (mvT hZ (hw _ (List.mem_of_getElem? (i := 5) rfl))) (notFace_of_selects (args := #[]) (mvT hZ (hw _ (List.mem_of_getElem? (i := 7) rfl)))) (mvT hZ (hw _ (List.mem_of_getElem? (i := 7) rfl))) (mvT hZ (hw _ (List.mem_of_getElem? (i := 6) rfl))) (by decide) (backOf (W := 0) (rm1 l Z a0 hw [] w_TUPLE w_DATA w_TUPLE r3 h0 n0 Z0 S_DATA S_TUPLE P3) hZ (hw _ (List.mem_of_getElem? (i := 8) rfl)) (hw _ (List.mem_of_getElem? (i := 2) rfl)) (by decide) (by decide)) q3a q3c (g := (mkF m 173 #[.val (.int p1), .val (.int ((p1 &&& (2147483647 : Int32)) % (12 : Int32))), .val (.ref w_TUPLE), .val (.int (1 : Int32))] [(.ref w_TUPLE)])) rfl (by rw [hml]; rfl) (Steps.refl _) (argsL := []) (rest := []) (lenOf pd_0_0 rfl) rfl (by show 2 * 0 + _ ≤ _; exact Nat.le_of_eq rfl) (hb hby at_173) (fun _ _ => ⟨rfl, e2, (by decide : 0 + 0 ≤ _), (by decide : 0 + 0 ≤ _)⟩)
  dsimp only [Pt.U, Pt.locs, Pt.cells, Pt.slots] at X3 l3 y3 z3 st3 hQ3
  subst l3 y3 z3
  obtain ⟨rfl, N3q, e3⟩ := hQ3
  have N3 := Fr.app N0 N3q
  obtain ⟨fs, hr, hrun, hended, hW, hsame⟩ := X3.leave (v := some (.int (1 : Int32))) (fun h => by rw [Bd.returns] at h; cases h)
  refine ⟨_, _, pre0 _ ?_, hrun, hended, _, _, rfl, ?_, ⟨_, rfl⟩, hW, hsame.mono (by decide) (by decide)⟩
  -- 4. STEPS
  · show Steps p.tables e below (s₁.setTop (mkF m 0 #[.val (.int p1), .unset, .unset, .unset] [])) _
    refine XS.iloadN X0.here hx rfl (hb hby at_0) rfl ?_
    show Steps p.tables e below (s₁.setTop (mkF m 1 #[.val (.int p1), .unset, .unset, .unset] [(.int p1)])) _
    refine X0.ldcInt hx hown (mvT hZ (hw _ (List.mem_of_getElem? (i := 0) rfl))) (g := (mkF m 1 #[.val (.int p1), .unset, .unset, .unset] [(.int p1)])) rfl (hb hby at_1) _ ?_
    show Steps p.tables e below (s₁.setTop (mkF m 3 #[.val (.int p1), .unset, .unset, .unset] [(.int (2147483647 : Int32)), (.int p1)])) _
    refine XS.iand X0.here hx rfl (hb hby at_3) rfl ?_
    show Steps p.tables e below (s₁.setTop (mkF m 4 #[.val (.int p1), .unset, .unset, .unset] [(.int (p1 &&& (2147483647 : Int32)))])) _
    refine XS.bipush X0.here hx rfl (hb hby at_4) ?_
    show Steps p.tables e below (s₁.setTop (mkF m 6 #[.val (.int p1), .unset, .unset, .unset] [(.int (12 : Int32)), (.int (p1 &&& (2147483647 : Int32)))])) _
    refine iremM X0 hx rfl (hb hby at_6) rfl (by decide) ?_
    show Steps p.tables e below (s₁.setTop (mkF m 7 #[.val (.int p1), .unset, .unset, .unset] [(.int ((p1 &&& (2147483647 : Int32)) % (12 : Int32)))])) _
    refine XS.istoreN X0.here hx rfl (hb hby at_7) rfl (l' := #[.val (.int p1), .val (.int ((p1 &&& (2147483647 : Int32)) % (12 : Int32))), .unset, .unset]) rfl ?_
    show Steps p.tables e below (s₁.setTop (mkF m 8 #[.val (.int p1), .val (.int ((p1 &&& (2147483647 : Int32)) % (12 : Int32))), .unset, .unset] [])) _
    refine XS.iloadN X0.here hx rfl (hb hby at_8) rfl ?_
    show Steps p.tables e below (s₁.setTop (mkF m 9 #[.val (.int p1), .val (.int ((p1 &&& (2147483647 : Int32)) % (12 : Int32))), .unset, .unset] [(.int ((p1 &&& (2147483647 : Int32)) % (12 : Int32)))])) _
    refine XS.ifYes X0.here hx rfl (pc0 := 9) (pc' := 21) rfl (hb hby at_9) rfl ((if0 _ _).trans (feq hc9).2) (by decide) (by decide) ?_
    show Steps p.tables e below (s₁.setTop (mkF m 21 #[.val (.int p1), .val (.int ((p1 &&& (2147483647 : Int32)) % (12 : Int32))), .unset, .unset] [])) _
    refine XS.iloadN X0.here hx rfl (hb hby at_21) rfl ?_
    show Steps p.tables e below (s₁.setTop (mkF m 22 #[.val (.int p1), .val (.int ((p1 &&& (2147483647 : Int32)) % (12 : Int32))), .unset, .unset] [(.int ((p1 &&& (2147483647 : Int32)) % (12 : Int32)))])) _
    refine XS.iconst X0.here hx rfl (hb hby at_22) ?_
    show Steps p.tables e below (s₁.setTop (mkF m 23 #[.val (.int p1), .val (.int ((p1 &&& (2147483647 : Int32)) % (12 : Int32))), .unset, .unset] [(.int (1 : Int32)), (.int ((p1 &&& (2147483647 : Int32)) % (12 : Int32)))])) _
    refine XS.icmpYes X0.here hx rfl (pc0 := 23) (pc' := 35) rfl (hb hby at_23) rfl (feq hc23).2 (by decide) (by decide) ?_
    show Steps p.tables e below (s₁.setTop (mkF m 35 #[.val (.int p1), .val (.int ((p1 &&& (2147483647 : Int32)) % (12 : Int32))), .unset, .unset] [])) _
    refine XS.iloadN X0.here hx rfl (hb hby at_35) rfl ?_
    show Steps p.tables e below (s₁.setTop (mkF m 36 #[.val (.int p1), .val (.int ((p1 &&& (2147483647 : Int32)) % (12 : Int32))), .unset, .unset] [(.int ((p1 &&& (2147483647 : Int32)) % (12 : Int32)))])) _
    refine XS.iconst X0.here hx rfl (hb hby at_36) ?_
    show Steps p.tables e below (s₁.setTop (mkF m 37 #[.val (.int p1), .val (.int ((p1 &&& (2147483647 : Int32)) % (12 : Int32))), .unset, .unset] [(.int (2 : Int32)), (.int ((p1 &&& (2147483647 : Int32)) % (12 : Int32)))])) _
    refine XS.icmpYes X0.here hx rfl (pc0 := 37) (pc' := 49) rfl (hb hby at_37) rfl (feq hc37).2 (by decide) (by decide) ?_
    show Steps p.tables e below (s₁.setTop (mkF m 49 #[.val (.int p1), .val (.int ((p1 &&& (2147483647 : Int32)) % (12 : Int32))), .unset, .unset] [])) _
    refine XS.iloadN X0.here hx rfl (hb hby at_49) rfl ?_
    show Steps p.tables e below (s₁.setTop (mkF m 50 #[.val (.int p1), .val (.int ((p1 &&& (2147483647 : Int32)) % (12 : Int32))), .unset, .unset] [(.int ((p1 &&& (2147483647 : Int32)) % (12 : Int32)))])) _
    refine XS.iconst X0.here hx rfl (hb hby at_50) ?_
    show Steps p.tables e below (s₁.setTop (mkF m 51 #[.val (.int p1), .val (.int ((p1 &&& (2147483647 : Int32)) % (12 : Int32))), .unset, .unset] [(.int (3 : Int32)), (.int ((p1 &&& (2147483647 : Int32)) % (12 : Int32)))])) _
    refine XS.icmpYes X0.here hx rfl (pc0 := 51) (pc' := 63) rfl (hb hby at_51) rfl (feq hc51).2 (by decide) (by decide) ?_
    show Steps p.tables e below (s₁.setTop (mkF m 63 #[.val (.int p1), .val (.int ((p1 &&& (2147483647 : Int32)) % (12 : Int32))), .unset, .unset] [])) _
    refine XS.iloadN X0.here hx rfl (hb hby at_63) rfl ?_
    show Steps p.tables e below (s₁.setTop (mkF m 64 #[.val (.int p1), .val (.int ((p1 &&& (2147483647 : Int32)) % (12 : Int32))), .unset, .unset] [(.int ((p1 &&& (2147483647 : Int32)) % (12 : Int32)))])) _
    refine XS.iconst X0.here hx rfl (hb hby at_64) ?_
    show Steps p.tables e below (s₁.setTop (mkF m 65 #[.val (.int p1), .val (.int ((p1 &&& (2147483647 : Int32)) % (12 : Int32))), .unset, .unset] [(.int (4 : Int32)), (.int ((p1 &&& (2147483647 : Int32)) % (12 : Int32)))])) _
    refine XS.icmpYes X0.here hx rfl (pc0 := 65) (pc' := 77) rfl (hb hby at_65) rfl (feq hc65).2 (by decide) (by decide) ?_
    show Steps p.tables e below (s₁.setTop (mkF m 77 #[.val (.int p1), .val (.int ((p1 &&& (2147483647 : Int32)) % (12 : Int32))), .unset, .unset] [])) _
    refine XS.iloadN X0.here hx rfl (hb hby at_77) rfl ?_
    show Steps p.tables e below (s₁.setTop (mkF m 78 #[.val (.int p1), .val (.int ((p1 &&& (2147483647 : Int32)) % (12 : Int32))), .unset, .unset] [(.int ((p1 &&& (2147483647 : Int32)) % (12 : Int32)))])) _
    refine XS.iconst X0.here hx rfl (hb hby at_78) ?_
    show Steps p.tables e below (s₁.setTop (mkF m 79 #[.val (.int p1), .val (.int ((p1 &&& (2147483647 : Int32)) % (12 : Int32))), .unset, .unset] [(.int (5 : Int32)), (.int ((p1 &&& (2147483647 : Int32)) % (12 : Int32)))])) _
    refine XS.icmpYes X0.here hx rfl (pc0 := 79) (pc' := 91) rfl (hb hby at_79) rfl (feq hc79).2 (by decide) (by decide) ?_
    show Steps p.tables e below (s₁.setTop (mkF m 91 #[.val (.int p1), .val (.int ((p1 &&& (2147483647 : Int32)) % (12 : Int32))), .unset, .unset] [])) _
    refine XS.iloadN X0.here hx rfl (hb hby at_91) rfl ?_
    show Steps p.tables e below (s₁.setTop (mkF m 92 #[.val (.int p1), .val (.int ((p1 &&& (2147483647 : Int32)) % (12 : Int32))), .unset, .unset] [(.int ((p1 &&& (2147483647 : Int32)) % (12 : Int32)))])) _
    refine XS.bipush X0.here hx rfl (hb hby at_92) ?_
    show Steps p.tables e below (s₁.setTop (mkF m 94 #[.val (.int p1), .val (.int ((p1 &&& (2147483647 : Int32)) % (12 : Int32))), .unset, .unset] [(.int (6 : Int32)), (.int ((p1 &&& (2147483647 : Int32)) % (12 : Int32)))])) _
    refine XS.icmpYes X0.here hx rfl (pc0 := 94) (pc' := 106) rfl (hb hby at_94) rfl (feq hc94).2 (by decide) (by decide) ?_
    show Steps p.tables e below (s₁.setTop (mkF m 106 #[.val (.int p1), .val (.int ((p1 &&& (2147483647 : Int32)) % (12 : Int32))), .unset, .unset] [])) _
    refine XS.iloadN X0.here hx rfl (hb hby at_106) rfl ?_
    show Steps p.tables e below (s₁.setTop (mkF m 107 #[.val (.int p1), .val (.int ((p1 &&& (2147483647 : Int32)) % (12 : Int32))), .unset, .unset] [(.int ((p1 &&& (2147483647 : Int32)) % (12 : Int32)))])) _
    refine XS.bipush X0.here hx rfl (hb hby at_107) ?_
    show Steps p.tables e below (s₁.setTop (mkF m 109 #[.val (.int p1), .val (.int ((p1 &&& (2147483647 : Int32)) % (12 : Int32))), .unset, .unset] [(.int (7 : Int32)), (.int ((p1 &&& (2147483647 : Int32)) % (12 : Int32)))])) _
    refine XS.icmpNo X0.here hx rfl (hb hby at_109) rfl (teq hc109).2 ?_
    show Steps p.tables e below (s₁.setTop (mkF m 112 #[.val (.int p1), .val (.int ((p1 &&& (2147483647 : Int32)) % (12 : Int32))), .unset, .unset] [])) _
    refine st2 _ ?_
    show Steps p.tables e below (T2.setTop (mkF m 115 #[.val (.int p1), .val (.int ((p1 &&& (2147483647 : Int32)) % (12 : Int32))), .unset, .unset] [(.ref w_TUPLE)])) _
    refine XS.astoreN X2.here hx rfl (hb hby at_115) rfl rfl (l' := #[.val (.int p1), .val (.int ((p1 &&& (2147483647 : Int32)) % (12 : Int32))), .val (.ref w_TUPLE), .unset]) rfl ?_
    show Steps p.tables e below (T2.setTop (mkF m 116 #[.val (.int p1), .val (.int ((p1 &&& (2147483647 : Int32)) % (12 : Int32))), .val (.ref w_TUPLE), .unset] [])) _
    refine XS.iconst X2.here hx rfl (hb hby at_116) ?_
    show Steps p.tables e below (T2.setTop (mkF m 117 #[.val (.int p1), .val (.int ((p1 &&& (2147483647 : Int32)) % (12 : Int32))), .val (.ref w_TUPLE), .unset] [(.int (1 : Int32))])) _
    refine XS.istoreN X2.here hx rfl (hb hby at_117) rfl (l' := #[.val (.int p1), .val (.int ((p1 &&& (2147483647 : Int32)) % (12 : Int32))), .val (.ref w_TUPLE), .val (.int (1 : Int32))]) rfl ?_
    show Steps p.tables e below (T2.setTop (mkF m 118 #[.val (.int p1), .val (.int ((p1 &&& (2147483647 : Int32)) % (12 : Int32))), .val (.ref w_TUPLE), .val (.int (1 : Int32))] [])) _
    refine XS.goto X2.here hx rfl (pc0 := 118) (pc' := 172) rfl (hb hby at_118) (by decide) (by decide) ?_
    show Steps p.tables e below (T2.setTop (mkF m 172 #[.val (.int p1), .val (.int ((p1 &&& (2147483647 : Int32)) % (12 : Int32))), .val (.ref w_TUPLE), .val (.int (1 : Int32))] [])) _
    refine XS.aloadN X2.here hx rfl (hb hby at_172) rfl rfl ?_
    show Steps p.tables e below (T2.setTop (mkF m 173 #[.val (.int p1), .val (.int ((p1 &&& (2147483647 : Int32)) % (12 : Int32))), .val (.ref w_TUPLE), .val (.int (1 : Int32))] [(.ref w_TUPLE)])) _
    refine st3.trans ?_
    show Steps p.tables e below (T3.setTop (mkF m 176 #[.val (.int p1), .val (.int ((p1 &&& (2147483647 : Int32)) % (12 : Int32))), .val (.ref w_TUPLE), .val (.int (1 : Int32))] [(.int r3)])) _
    refine XS.iloadN X3.here hx rfl (hb hby at_176) rfl ?_
    show Steps p.tables e below (T3.setTop (mkF m 177 #[.val (.int p1), .val (.int ((p1 &&& (2147483647 : Int32)) % (12 : Int32))), .val (.ref w_TUPLE), .val (.int (1 : Int32))] [(.int (1 : Int32)), (.int r3)])) _
    refine XS.icmpNo X3.here hx rfl (hb hby at_177) rfl (teq hc177).2 ?_
    show Steps p.tables e below (T3.setTop (mkF m 180 #[.val (.int p1), .val (.int ((p1 &&& (2147483647 : Int32)) % (12 : Int32))), .val (.ref w_TUPLE), .val (.int (1 : Int32))] [])) _
    refine XS.iconst X3.here hx rfl (hb hby at_180) ?_
    show Steps p.tables e below (T3.setTop (mkF m 181 #[.val (.int p1), .val (.int ((p1 &&& (2147483647 : Int32)) % (12 : Int32))), .val (.ref w_TUPLE), .val (.int (1 : Int32))] [(.int (1 : Int32))])) _
    refine XS.goto X3.here hx rfl (pc0 := 181) (pc' := 185) rfl (hb hby at_181) (by decide) (by decide) ?_
    show Steps p.tables e below (T3.setTop (mkF m 185 #[.val (.int p1), .val (.int ((p1 &&& (2147483647 : Int32)) % (12 : Int32))), .val (.ref w_TUPLE), .val (.int (1 : Int32))] [(.int (1 : Int32))])) _
    exact retN X3 hx (t := .boolean) Bd.returns (by simp) (hb hby at_185) hr
  · show Q0 n0 _ T3.heap _
    rw [e3]
    exact ⟨rfl, N3⟩
set_option maxRecDepth 65536 in
set_option maxHeartbeats 40000000 in
theorem rm0_c8 (l : Launch) (Z : State) (a0 : Array Value) (hw : ∀ d ∈ tables_1, d.before a0 Z = true) (ws : List Jvm.Cond) (p1 : Int32) (w_DESTRUCTOR : Addr) (w_DATA : Addr) (w_TUPLE : Addr) (r3 : Int32) (h0 : Heap) (n0 : Nat) (Z0 : n0 ≤ h0.size) (S_DESTRUCTOR : Sta Z h0 "com/example/applied_pi_checker/appliedpichecker/FunctionSymbol$Kind" "DESTRUCTOR" "Lcom/example/applied_pi_checker/appliedpichecker/FunctionSymbol$Kind;" (.ref w_DESTRUCTOR)) (S_DATA : Sta Z h0 "com/example/applied_pi_checker/appliedpichecker/FunctionSymbol$Kind" "DATA" "Lcom/example/applied_pi_checker/appliedpichecker/FunctionSymbol$Kind;" (.ref w_DATA)) (S_TUPLE : Sta Z h0 "com/example/applied_pi_checker/appliedpichecker/FunctionSymbol$Kind" "TUPLE" "Lcom/example/applied_pi_checker/appliedpichecker/FunctionSymbol$Kind;" (.ref w_TUPLE)) (P3 : R1 w_DESTRUCTOR w_DATA w_TUPLE r3) (E_DESTRUCTOR : Exa Z h0 w_DESTRUCTOR "com/example/applied_pi_checker/appliedpichecker/FunctionSymbol$Kind") (hc9 : ¬ (((p1 &&& (2147483647 : Int32)) % (12 : Int32)) = (0 : Int32))) (hc23 : ¬ (((p1 &&& (2147483647 : Int32)) % (12 : Int32)) = (1 : Int32))) (hc37 : ¬ (((p1 &&& (2147483647 : Int32)) % (12 : Int32)) = (2 : Int32))) (hc51 : ¬ (((p1 &&& (2147483647 : Int32)) % (12 : Int32)) = (3 : Int32))) (hc65 : ¬ (((p1 &&& (2147483647 : Int32)) % (12 : Int32)) = (4 : Int32))) (hc79 : ¬ (((p1 &&& (2147483647 : Int32)) % (12 : Int32)) = (5 : Int32))) (hc94 : ¬ (((p1 &&& (2147483647 : Int32)) % (12 : Int32)) = (6 : Int32))) (hc109 : ¬ (((p1 &&& (2147483647 : Int32)) % (12 : Int32)) = (7 : Int32))) (hc124 : ((p1 &&& (2147483647 : Int32)) % (12 : Int32)) = (8 : Int32)) (hc177 : r3 = (0 : Int32)) :
    MetFree l x (head1 (Jvm.Cond.code x code maxLocals ret :: ws) room_1) (fun a U => a = #[(.int p1)] ∧ Z.Warmed39 U.vm ∧ U.heap = h0) (fun _ _ _ _ _ => True) (fun _ U o U' => ∃ v L, o = .returned v ∧ Q0 n0 v U'.heap L ∧ FrameEnd U o U' L room_1.cells room_1.slots) := by
  refine MetFree.of_bodySF (plainFor_of_name pn_0) hisR ?_
  intro p e s m args below meth c s₁ Bd hml0 hP hK
  obtain ⟨rfl, hZ, hh⟩ := hP
  have hx := Bd.exec
  have hby := Bd.bytes
  have hml : c.maxLocals = 4 := hml0
  have hown : s.vm.findClass "com/example/applied_pi_checker/appliedpichecker/KindIsDataPinLaw" = some m.cls := findClass_of_methodNamed Bd.named
  have hnm := (name_of_methodNamed Bd.named Bd.method).1
  have X0 : Stand p l e room_1 s m #[(.int p1)] below meth c s₁ [] 0 0 := Stand.of_body Bd
  have e0 : s₁.heap = h0 := by rw [← hh, Bd.state]; rfl
  have N0 := Fr.nil n0
  have pre0 : ∀ t, Steps p.tables e below (s₁.setTop (mkF m 0 #[.val (.int p1), .unset, .unset, .unset] [])) t → Steps p.tables e below (s₁.setTop (entryFrame m #[(.int p1)] maxLocals)) t := fun t k => castTop (ef_0 m p1) k
  -- 3. LAWS
  obtain ⟨T2, X2, e2, st2⟩ := getS2 X0 hx hZ hown (host := "") (Or.inl (hw _ (List.mem_of_getElem? (i := 22) rfl))) Via.refl e0 S_DESTRUCTOR (g := (mkF m 127 #[.val (.int p1), .val (.int ((p1 &&& (2147483647 : Int32)) % (12 : Int32))), .unset, .unset] [])) rfl (hb hby at_127)
  obtain ⟨cq3, kq3, q3a, q3b, q3c⟩ := isOf hZ e2 E_DESTRUCTOR
  obtain ⟨_, _, ⟨T3, L3, k3, n3⟩, -, X3, ⟨Lc3, hQ3, l3, y3, z3⟩, st3⟩ := X2.virtualBack hx (y := (⟨"com/example/applied_pi_checker/appliedpichecker/FunctionSymbol$Kind", "isData", "()Z"⟩ : MethodName)) (z := (⟨"com/example/applied_pi_checker/appliedpichecker/FunctionSymbol$Kind", "isData", "()Z"⟩ : MethodName)) hown (mvT hZ (hw _ (List.mem_of_getElem? (i := 4) rfl))) (mvT hZ (hw _ (List.mem_of_getElem? (i := 5) rfl))) (notFace_of_selects (args := #[]) (mvT hZ (hw _ (List.mem_of_getElem? (i := 7) rfl)))) (mvT hZ (hw _ (List.mem_of_getElem? (i := 7) rfl))) (mvT hZ (hw _ (List.mem_of_getElem? (i := 6) rfl))) (by decide) (backOf (W := 0) (rm1 l Z a0 hw [] w_DESTRUCTOR w_DATA w_TUPLE r3 h0 n0 Z0 S_DATA S_TUPLE P3) hZ (hw _ (List.mem_of_getElem? (i := 8) rfl)) (hw _ (List.mem_of_getElem? (i := 2) rfl)) (by decide) (by decide)) q3a q3c (g := (mkF m 173 #[.val (.int p1), .val (.int ((p1 &&& (2147483647 : Int32)) % (12 : Int32))), .val (.ref w_DESTRUCTOR), .val (.int (0 : Int32))] [(.ref w_DESTRUCTOR)])) rfl (by rw [hml]; rfl) (Steps.refl _) (argsL := []) (rest := []) (lenOf pd_0_0 rfl) rfl (by show 2 * 0 + _ ≤ _; exact Nat.le_of_eq rfl) (hb hby at_173) (fun _ _ => ⟨rfl, e2, (by decide : 0 + 0 ≤ _), (by decide : 0 + 0 ≤ _)⟩)
  dsimp only [Pt.U, Pt.locs, Pt.cells, Pt.slots] at X3 l3 y3 z3 st3 hQ3
  subst l3 y3 z3
  obtain ⟨rfl, N3q, e3⟩ := hQ3
  have N3 := Fr.app N0 N3q
  obtain ⟨fs, hr, hrun, hended, hW, hsame⟩ := X3.leave (v := some (.int (1 : Int32))) (fun h => by rw [Bd.returns] at h; cases h)
  refine ⟨_, _, pre0 _ ?_, hrun, hended, _, _, rfl, ?_, ⟨_, rfl⟩, hW, hsame.mono (by decide) (by decide)⟩
  -- 4. STEPS
  · show Steps p.tables e below (s₁.setTop (mkF m 0 #[.val (.int p1), .unset, .unset, .unset] [])) _
    refine XS.iloadN X0.here hx rfl (hb hby at_0) rfl ?_
    show Steps p.tables e below (s₁.setTop (mkF m 1 #[.val (.int p1), .unset, .unset, .unset] [(.int p1)])) _
    refine X0.ldcInt hx hown (mvT hZ (hw _ (List.mem_of_getElem? (i := 0) rfl))) (g := (mkF m 1 #[.val (.int p1), .unset, .unset, .unset] [(.int p1)])) rfl (hb hby at_1) _ ?_
    show Steps p.tables e below (s₁.setTop (mkF m 3 #[.val (.int p1), .unset, .unset, .unset] [(.int (2147483647 : Int32)), (.int p1)])) _
    refine XS.iand X0.here hx rfl (hb hby at_3) rfl ?_
    show Steps p.tables e below (s₁.setTop (mkF m 4 #[.val (.int p1), .unset, .unset, .unset] [(.int (p1 &&& (2147483647 : Int32)))])) _
    refine XS.bipush X0.here hx rfl (hb hby at_4) ?_
    show Steps p.tables e below (s₁.setTop (mkF m 6 #[.val (.int p1), .unset, .unset, .unset] [(.int (12 : Int32)), (.int (p1 &&& (2147483647 : Int32)))])) _
    refine iremM X0 hx rfl (hb hby at_6) rfl (by decide) ?_
    show Steps p.tables e below (s₁.setTop (mkF m 7 #[.val (.int p1), .unset, .unset, .unset] [(.int ((p1 &&& (2147483647 : Int32)) % (12 : Int32)))])) _
    refine XS.istoreN X0.here hx rfl (hb hby at_7) rfl (l' := #[.val (.int p1), .val (.int ((p1 &&& (2147483647 : Int32)) % (12 : Int32))), .unset, .unset]) rfl ?_
    show Steps p.tables e below (s₁.setTop (mkF m 8 #[.val (.int p1), .val (.int ((p1 &&& (2147483647 : Int32)) % (12 : Int32))), .unset, .unset] [])) _
    refine XS.iloadN X0.here hx rfl (hb hby at_8) rfl ?_
    show Steps p.tables e below (s₁.setTop (mkF m 9 #[.val (.int p1), .val (.int ((p1 &&& (2147483647 : Int32)) % (12 : Int32))), .unset, .unset] [(.int ((p1 &&& (2147483647 : Int32)) % (12 : Int32)))])) _
    refine XS.ifYes X0.here hx rfl (pc0 := 9) (pc' := 21) rfl (hb hby at_9) rfl ((if0 _ _).trans (feq hc9).2) (by decide) (by decide) ?_
    show Steps p.tables e below (s₁.setTop (mkF m 21 #[.val (.int p1), .val (.int ((p1 &&& (2147483647 : Int32)) % (12 : Int32))), .unset, .unset] [])) _
    refine XS.iloadN X0.here hx rfl (hb hby at_21) rfl ?_
    show Steps p.tables e below (s₁.setTop (mkF m 22 #[.val (.int p1), .val (.int ((p1 &&& (2147483647 : Int32)) % (12 : Int32))), .unset, .unset] [(.int ((p1 &&& (2147483647 : Int32)) % (12 : Int32)))])) _
    refine XS.iconst X0.here hx rfl (hb hby at_22) ?_
    show Steps p.tables e below (s₁.setTop (mkF m 23 #[.val (.int p1), .val (.int ((p1 &&& (2147483647 : Int32)) % (12 : Int32))), .unset, .unset] [(.int (1 : Int32)), (.int ((p1 &&& (2147483647 : Int32)) % (12 : Int32)))])) _
    refine XS.icmpYes X0.here hx rfl (pc0 := 23) (pc' := 35) rfl (hb hby at_23) rfl (feq hc23).2 (by decide) (by decide) ?_
    show Steps p.tables e below (s₁.setTop (mkF m 35 #[.val (.int p1), .val (.int ((p1 &&& (2147483647 : Int32)) % (12 : Int32))), .unset, .unset] [])) _
    refine XS.iloadN X0.here hx rfl (hb hby at_35) rfl ?_
    show Steps p.tables e below (s₁.setTop (mkF m 36 #[.val (.int p1), .val (.int ((p1 &&& (2147483647 : Int32)) % (12 : Int32))), .unset, .unset] [(.int ((p1 &&& (2147483647 : Int32)) % (12 : Int32)))])) _
    refine XS.iconst X0.here hx rfl (hb hby at_36) ?_
    show Steps p.tables e below (s₁.setTop (mkF m 37 #[.val (.int p1), .val (.int ((p1 &&& (2147483647 : Int32)) % (12 : Int32))), .unset, .unset] [(.int (2 : Int32)), (.int ((p1 &&& (2147483647 : Int32)) % (12 : Int32)))])) _
    refine XS.icmpYes X0.here hx rfl (pc0 := 37) (pc' := 49) rfl (hb hby at_37) rfl (feq hc37).2 (by decide) (by decide) ?_
    show Steps p.tables e below (s₁.setTop (mkF m 49 #[.val (.int p1), .val (.int ((p1 &&& (2147483647 : Int32)) % (12 : Int32))), .unset, .unset] [])) _
    refine XS.iloadN X0.here hx rfl (hb hby at_49) rfl ?_
    show Steps p.tables e below (s₁.setTop (mkF m 50 #[.val (.int p1), .val (.int ((p1 &&& (2147483647 : Int32)) % (12 : Int32))), .unset, .unset] [(.int ((p1 &&& (2147483647 : Int32)) % (12 : Int32)))])) _
    refine XS.iconst X0.here hx rfl (hb hby at_50) ?_
    show Steps p.tables e below (s₁.setTop (mkF m 51 #[.val (.int p1), .val (.int ((p1 &&& (2147483647 : Int32)) % (12 : Int32))), .unset, .unset] [(.int (3 : Int32)), (.int ((p1 &&& (2147483647 : Int32)) % (12 : Int32)))])) _
    refine XS.icmpYes X0.here hx rfl (pc0 := 51) (pc' := 63) rfl (hb hby at_51) rfl (feq hc51).2 (by decide) (by decide) ?_
    show Steps p.tables e below (s₁.setTop (mkF m 63 #[.val (.int p1), .val (.int ((p1 &&& (2147483647 : Int32)) % (12 : Int32))), .unset, .unset] [])) _
    refine XS.iloadN X0.here hx rfl (hb hby at_63) rfl ?_
    show Steps p.tables e below (s₁.setTop (mkF m 64 #[.val (.int p1), .val (.int ((p1 &&& (2147483647 : Int32)) % (12 : Int32))), .unset, .unset] [(.int ((p1 &&& (2147483647 : Int32)) % (12 : Int32)))])) _
    refine XS.iconst X0.here hx rfl (hb hby at_64) ?_
    show Steps p.tables e below (s₁.setTop (mkF m 65 #[.val (.int p1), .val (.int ((p1 &&& (2147483647 : Int32)) % (12 : Int32))), .unset, .unset] [(.int (4 : Int32)), (.int ((p1 &&& (2147483647 : Int32)) % (12 : Int32)))])) _
    refine XS.icmpYes X0.here hx rfl (pc0 := 65) (pc' := 77) rfl (hb hby at_65) rfl (feq hc65).2 (by decide) (by decide) ?_
    show Steps p.tables e below (s₁.setTop (mkF m 77 #[.val (.int p1), .val (.int ((p1 &&& (2147483647 : Int32)) % (12 : Int32))), .unset, .unset] [])) _
    refine XS.iloadN X0.here hx rfl (hb hby at_77) rfl ?_
    show Steps p.tables e below (s₁.setTop (mkF m 78 #[.val (.int p1), .val (.int ((p1 &&& (2147483647 : Int32)) % (12 : Int32))), .unset, .unset] [(.int ((p1 &&& (2147483647 : Int32)) % (12 : Int32)))])) _
    refine XS.iconst X0.here hx rfl (hb hby at_78) ?_
    show Steps p.tables e below (s₁.setTop (mkF m 79 #[.val (.int p1), .val (.int ((p1 &&& (2147483647 : Int32)) % (12 : Int32))), .unset, .unset] [(.int (5 : Int32)), (.int ((p1 &&& (2147483647 : Int32)) % (12 : Int32)))])) _
    refine XS.icmpYes X0.here hx rfl (pc0 := 79) (pc' := 91) rfl (hb hby at_79) rfl (feq hc79).2 (by decide) (by decide) ?_
    show Steps p.tables e below (s₁.setTop (mkF m 91 #[.val (.int p1), .val (.int ((p1 &&& (2147483647 : Int32)) % (12 : Int32))), .unset, .unset] [])) _
    refine XS.iloadN X0.here hx rfl (hb hby at_91) rfl ?_
    show Steps p.tables e below (s₁.setTop (mkF m 92 #[.val (.int p1), .val (.int ((p1 &&& (2147483647 : Int32)) % (12 : Int32))), .unset, .unset] [(.int ((p1 &&& (2147483647 : Int32)) % (12 : Int32)))])) _
    refine XS.bipush X0.here hx rfl (hb hby at_92) ?_
    show Steps p.tables e below (s₁.setTop (mkF m 94 #[.val (.int p1), .val (.int ((p1 &&& (2147483647 : Int32)) % (12 : Int32))), .unset, .unset] [(.int (6 : Int32)), (.int ((p1 &&& (2147483647 : Int32)) % (12 : Int32)))])) _
    refine XS.icmpYes X0.here hx rfl (pc0 := 94) (pc' := 106) rfl (hb hby at_94) rfl (feq hc94).2 (by decide) (by decide) ?_
    show Steps p.tables e below (s₁.setTop (mkF m 106 #[.val (.int p1), .val (.int ((p1 &&& (2147483647 : Int32)) % (12 : Int32))), .unset, .unset] [])) _
    refine XS.iloadN X0.here hx rfl (hb hby at_106) rfl ?_
    show Steps p.tables e below (s₁.setTop (mkF m 107 #[.val (.int p1), .val (.int ((p1 &&& (2147483647 : Int32)) % (12 : Int32))), .unset, .unset] [(.int ((p1 &&& (2147483647 : Int32)) % (12 : Int32)))])) _
    refine XS.bipush X0.here hx rfl (hb hby at_107) ?_
    show Steps p.tables e below (s₁.setTop (mkF m 109 #[.val (.int p1), .val (.int ((p1 &&& (2147483647 : Int32)) % (12 : Int32))), .unset, .unset] [(.int (7 : Int32)), (.int ((p1 &&& (2147483647 : Int32)) % (12 : Int32)))])) _
    refine XS.icmpYes X0.here hx rfl (pc0 := 109) (pc' := 121) rfl (hb hby at_109) rfl (feq hc109).2 (by decide) (by decide) ?_
    show Steps p.tables e below (s₁.setTop (mkF m 121 #[.val (.int p1), .val (.int ((p1 &&& (2147483647 : Int32)) % (12 : Int32))), .unset, .unset] [])) _
    refine XS.iloadN X0.here hx rfl (hb hby at_121) rfl ?_
    show Steps p.tables e below (s₁.setTop (mkF m 122 #[.val (.int p1), .val (.int ((p1 &&& (2147483647 : Int32)) % (12 : Int32))), .unset, .unset] [(.int ((p1 &&& (2147483647 : Int32)) % (12 : Int32)))])) _
    refine XS.bipush X0.here hx rfl (hb hby at_122) ?_
    show Steps p.tables e below (s₁.setTop (mkF m 124 #[.val (.int p1), .val (.int ((p1 &&& (2147483647 : Int32)) % (12 : Int32))), .unset, .unset] [(.int (8 : Int32)), (.int ((p1 &&& (2147483647 : Int32)) % (12 : Int32)))])) _
    refine XS.icmpNo X0.here hx rfl (hb hby at_124) rfl (teq hc124).2 ?_
    show Steps p.tables e below (s₁.setTop (mkF m 127 #[.val (.int p1), .val (.int ((p1 &&& (2147483647 : Int32)) % (12 : Int32))), .unset, .unset] [])) _
    refine st2 _ ?_
    show Steps p.tables e below (T2.setTop (mkF m 130 #[.val (.int p1), .val (.int ((p1 &&& (2147483647 : Int32)) % (12 : Int32))), .unset, .unset] [(.ref w_DESTRUCTOR)])) _
    refine XS.astoreN X2.here hx rfl (hb hby at_130) rfl rfl (l' := #[.val (.int p1), .val (.int ((p1 &&& (2147483647 : Int32)) % (12 : Int32))), .val (.ref w_DESTRUCTOR), .unset]) rfl ?_
    show Steps p.tables e below (T2.setTop (mkF m 131 #[.val (.int p1), .val (.int ((p1 &&& (2147483647 : Int32)) % (12 : Int32))), .val (.ref w_DESTRUCTOR), .unset] [])) _
    refine XS.iconst X2.here hx rfl (hb hby at_131) ?_
    show Steps p.tables e below (T2.setTop (mkF m 132 #[.val (.int p1), .val (.int ((p1 &&& (2147483647 : Int32)) % (12 : Int32))), .val (.ref w_DESTRUCTOR), .unset] [(.int (0 : Int32))])) _
    refine XS.istoreN X2.here hx rfl (hb hby at_132) rfl (l' := #[.val (.int p1), .val (.int ((p1 &&& (2147483647 : Int32)) % (12 : Int32))), .val (.ref w_DESTRUCTOR), .val (.int (0 : Int32))]) rfl ?_
    show Steps p.tables e below (T2.setTop (mkF m 133 #[.val (.int p1), .val (.int ((p1 &&& (2147483647 : Int32)) % (12 : Int32))), .val (.ref w_DESTRUCTOR), .val (.int (0 : Int32))] [])) _
    refine XS.goto X2.here hx rfl (pc0 := 133) (pc' := 172) rfl (hb hby at_133) (by decide) (by decide) ?_
    show Steps p.tables e below (T2.setTop (mkF m 172 #[.val (.int p1), .val (.int ((p1 &&& (2147483647 : Int32)) % (12 : Int32))), .val (.ref w_DESTRUCTOR), .val (.int (0 : Int32))] [])) _
    refine XS.aloadN X2.here hx rfl (hb hby at_172) rfl rfl ?_
    show Steps p.tables e below (T2.setTop (mkF m 173 #[.val (.int p1), .val (.int ((p1 &&& (2147483647 : Int32)) % (12 : Int32))), .val (.ref w_DESTRUCTOR), .val (.int (0 : Int32))] [(.ref w_DESTRUCTOR)])) _
    refine st3.trans ?_
    show Steps p.tables e below (T3.setTop (mkF m 176 #[.val (.int p1), .val (.int ((p1 &&& (2147483647 : Int32)) % (12 : Int32))), .val (.ref w_DESTRUCTOR), .val (.int (0 : Int32))] [(.int r3)])) _
    refine XS.iloadN X3.here hx rfl (hb hby at_176) rfl ?_
    show Steps p.tables e below (T3.setTop (mkF m 177 #[.val (.int p1), .val (.int ((p1 &&& (2147483647 : Int32)) % (12 : Int32))), .val (.ref w_DESTRUCTOR), .val (.int (0 : Int32))] [(.int (0 : Int32)), (.int r3)])) _
    refine XS.icmpNo X3.here hx rfl (hb hby at_177) rfl (teq hc177).2 ?_
    show Steps p.tables e below (T3.setTop (mkF m 180 #[.val (.int p1), .val (.int ((p1 &&& (2147483647 : Int32)) % (12 : Int32))), .val (.ref w_DESTRUCTOR), .val (.int (0 : Int32))] [])) _
    refine XS.iconst X3.here hx rfl (hb hby at_180) ?_
    show Steps p.tables e below (T3.setTop (mkF m 181 #[.val (.int p1), .val (.int ((p1 &&& (2147483647 : Int32)) % (12 : Int32))), .val (.ref w_DESTRUCTOR), .val (.int (0 : Int32))] [(.int (1 : Int32))])) _
    refine XS.goto X3.here hx rfl (pc0 := 181) (pc' := 185) rfl (hb hby at_181) (by decide) (by decide) ?_
    show Steps p.tables e below (T3.setTop (mkF m 185 #[.val (.int p1), .val (.int ((p1 &&& (2147483647 : Int32)) % (12 : Int32))), .val (.ref w_DESTRUCTOR), .val (.int (0 : Int32))] [(.int (1 : Int32))])) _
    exact retN X3 hx (t := .boolean) Bd.returns (by simp) (hb hby at_185) hr
  · show Q0 n0 _ T3.heap _
    rw [e3]
    exact ⟨rfl, N3⟩
set_option maxRecDepth 65536 in
set_option maxHeartbeats 40000000 in
theorem rm0_c9 (l : Launch) (Z : State) (a0 : Array Value) (hw : ∀ d ∈ tables_1, d.before a0 Z = true) (ws : List Jvm.Cond) (p1 : Int32) (w_EVENT : Addr) (w_DATA : Addr) (w_TUPLE : Addr) (r3 : Int32) (h0 : Heap) (n0 : Nat) (Z0 : n0 ≤ h0.size) (S_EVENT : Sta Z h0 "com/example/applied_pi_checker/appliedpichecker/FunctionSymbol$Kind" "EVENT" "Lcom/example/applied_pi_checker/appliedpichecker/FunctionSymbol$Kind;" (.ref w_EVENT)) (S_DATA : Sta Z h0 "com/example/applied_pi_checker/appliedpichecker/FunctionSymbol$Kind" "DATA" "Lcom/example/applied_pi_checker/appliedpichecker/FunctionSymbol$Kind;" (.ref w_DATA)) (S_TUPLE : Sta Z h0 "com/example/applied_pi_checker/appliedpichecker/FunctionSymbol$Kind" "TUPLE" "Lcom/example/applied_pi_checker/appliedpichecker/FunctionSymbol$Kind;" (.ref w_TUPLE)) (P3 : R1 w_EVENT w_DATA w_TUPLE r3) (E_EVENT : Exa Z h0 w_EVENT "com/example/applied_pi_checker/appliedpichecker/FunctionSymbol$Kind") (hc9 : ¬ (((p1 &&& (2147483647 : Int32)) % (12 : Int32)) = (0 : Int32))) (hc23 : ¬ (((p1 &&& (2147483647 : Int32)) % (12 : Int32)) = (1 : Int32))) (hc37 : ¬ (((p1 &&& (2147483647 : Int32)) % (12 : Int32)) = (2 : Int32))) (hc51 : ¬ (((p1 &&& (2147483647 : Int32)) % (12 : Int32)) = (3 : Int32))) (hc65 : ¬ (((p1 &&& (2147483647 : Int32)) % (12 : Int32)) = (4 : Int32))) (hc79 : ¬ (((p1 &&& (2147483647 : Int32)) % (12 : Int32)) = (5 : Int32))) (hc94 : ¬ (((p1 &&& (2147483647 : Int32)) % (12 : Int32)) = (6 : Int32))) (hc109 : ¬ (((p1 &&& (2147483647 : Int32)) % (12 : Int32)) = (7 : Int32))) (hc124 : ¬ (((p1 &&& (2147483647 : Int32)) % (12 : Int32)) = (8 : Int32))) (hc139 : ((p1 &&& (2147483647 : Int32)) % (12 : Int32)) = (9 : Int32)) (hc177 : r3 = (0 : Int32)) :
    MetFree l x (head1 (Jvm.Cond.code x code maxLocals ret :: ws) room_1) (fun a U => a = #[(.int p1)] ∧ Z.Warmed39 U.vm ∧ U.heap = h0) (fun _ _ _ _ _ => True) (fun _ U o U' => ∃ v L, o = .returned v ∧ Q0 n0 v U'.heap L ∧ FrameEnd U o U' L room_1.cells room_1.slots) := by
  refine MetFree.of_bodySF (plainFor_of_name pn_0) hisR ?_
  intro p e s m args below meth c s₁ Bd hml0 hP hK
  obtain ⟨rfl, hZ, hh⟩ := hP
  have hx := Bd.exec
  have hby := Bd.bytes
  have hml : c.maxLocals = 4 := hml0
  have hown : s.vm.findClass "com/example/applied_pi_checker/appliedpichecker/KindIsDataPinLaw" = some m.cls := findClass_of_methodNamed Bd.named
  have hnm := (name_of_methodNamed Bd.named Bd.method).1
  have X0 : Stand p l e room_1 s m #[(.int p1)] below meth c s₁ [] 0 0 := Stand.of_body Bd
  have e0 : s₁.heap = h0 := by rw [← hh, Bd.state]; rfl
  have N0 := Fr.nil n0
  have pre0 : ∀ t, Steps p.tables e below (s₁.setTop (mkF m 0 #[.val (.int p1), .unset, .unset, .unset] [])) t → Steps p.tables e below (s₁.setTop (entryFrame m #[(.int p1)] maxLocals)) t := fun t k => castTop (ef_0 m p1) k
  -- 3. LAWS
  obtain ⟨T2, X2, e2, st2⟩ := getS2 X0 hx hZ hown (host := "") (Or.inl (hw _ (List.mem_of_getElem? (i := 28) rfl))) Via.refl e0 S_EVENT (g := (mkF m 142 #[.val (.int p1), .val (.int ((p1 &&& (2147483647 : Int32)) % (12 : Int32))), .unset, .unset] [])) rfl (hb hby at_142)
  obtain ⟨cq3, kq3, q3a, q3b, q3c⟩ := isOf hZ e2 E_EVENT
  obtain ⟨_, _, ⟨T3, L3, k3, n3⟩, -, X3, ⟨Lc3, hQ3, l3, y3, z3⟩, st3⟩ := X2.virtualBack hx (y := (⟨"com/example/applied_pi_checker/appliedpichecker/FunctionSymbol$Kind", "isData", "()Z"⟩ : MethodName)) (z := (⟨"com/example/applied_pi_checker/appliedpichecker/FunctionSymbol$Kind", "isData", "()Z"⟩ : MethodName)) hown (mvT hZ (hw _ (List.mem_of_getElem? (i := 4) rfl))) (mvT hZ (hw _ (List.mem_of_getElem? (i := 5) rfl))) (notFace_of_selects (args := #[]) (mvT hZ (hw _ (List.mem_of_getElem? (i := 7) rfl)))) (mvT hZ (hw _ (List.mem_of_getElem? (i := 7) rfl))) (mvT hZ (hw _ (List.mem_of_getElem? (i := 6) rfl))) (by decide) (backOf (W := 0) (rm1 l Z a0 hw [] w_EVENT w_DATA w_TUPLE r3 h0 n0 Z0 S_DATA S_TUPLE P3) hZ (hw _ (List.mem_of_getElem? (i := 8) rfl)) (hw _ (List.mem_of_getElem? (i := 2) rfl)) (by decide) (by decide)) q3a q3c (g := (mkF m 173 #[.val (.int p1), .val (.int ((p1 &&& (2147483647 : Int32)) % (12 : Int32))), .val (.ref w_EVENT), .val (.int (0 : Int32))] [(.ref w_EVENT)])) rfl (by rw [hml]; rfl) (Steps.refl _) (argsL := []) (rest := []) (lenOf pd_0_0 rfl) rfl (by show 2 * 0 + _ ≤ _; exact Nat.le_of_eq rfl) (hb hby at_173) (fun _ _ => ⟨rfl, e2, (by decide : 0 + 0 ≤ _), (by decide : 0 + 0 ≤ _)⟩)
  dsimp only [Pt.U, Pt.locs, Pt.cells, Pt.slots] at X3 l3 y3 z3 st3 hQ3
  subst l3 y3 z3
  obtain ⟨rfl, N3q, e3⟩ := hQ3
  have N3 := Fr.app N0 N3q
  obtain ⟨fs, hr, hrun, hended, hW, hsame⟩ := X3.leave (v := some (.int (1 : Int32))) (fun h => by rw [Bd.returns] at h; cases h)
  refine ⟨_, _, pre0 _ ?_, hrun, hended, _, _, rfl, ?_, ⟨_, rfl⟩, hW, hsame.mono (by decide) (by decide)⟩
  -- 4. STEPS
  · show Steps p.tables e below (s₁.setTop (mkF m 0 #[.val (.int p1), .unset, .unset, .unset] [])) _
    refine XS.iloadN X0.here hx rfl (hb hby at_0) rfl ?_
    show Steps p.tables e below (s₁.setTop (mkF m 1 #[.val (.int p1), .unset, .unset, .unset] [(.int p1)])) _
    refine X0.ldcInt hx hown (mvT hZ (hw _ (List.mem_of_getElem? (i := 0) rfl))) (g := (mkF m 1 #[.val (.int p1), .unset, .unset, .unset] [(.int p1)])) rfl (hb hby at_1) _ ?_
    show Steps p.tables e below (s₁.setTop (mkF m 3 #[.val (.int p1), .unset, .unset, .unset] [(.int (2147483647 : Int32)), (.int p1)])) _
    refine XS.iand X0.here hx rfl (hb hby at_3) rfl ?_
    show Steps p.tables e below (s₁.setTop (mkF m 4 #[.val (.int p1), .unset, .unset, .unset] [(.int (p1 &&& (2147483647 : Int32)))])) _
    refine XS.bipush X0.here hx rfl (hb hby at_4) ?_
    show Steps p.tables e below (s₁.setTop (mkF m 6 #[.val (.int p1), .unset, .unset, .unset] [(.int (12 : Int32)), (.int (p1 &&& (2147483647 : Int32)))])) _
    refine iremM X0 hx rfl (hb hby at_6) rfl (by decide) ?_
    show Steps p.tables e below (s₁.setTop (mkF m 7 #[.val (.int p1), .unset, .unset, .unset] [(.int ((p1 &&& (2147483647 : Int32)) % (12 : Int32)))])) _
    refine XS.istoreN X0.here hx rfl (hb hby at_7) rfl (l' := #[.val (.int p1), .val (.int ((p1 &&& (2147483647 : Int32)) % (12 : Int32))), .unset, .unset]) rfl ?_
    show Steps p.tables e below (s₁.setTop (mkF m 8 #[.val (.int p1), .val (.int ((p1 &&& (2147483647 : Int32)) % (12 : Int32))), .unset, .unset] [])) _
    refine XS.iloadN X0.here hx rfl (hb hby at_8) rfl ?_
    show Steps p.tables e below (s₁.setTop (mkF m 9 #[.val (.int p1), .val (.int ((p1 &&& (2147483647 : Int32)) % (12 : Int32))), .unset, .unset] [(.int ((p1 &&& (2147483647 : Int32)) % (12 : Int32)))])) _
    refine XS.ifYes X0.here hx rfl (pc0 := 9) (pc' := 21) rfl (hb hby at_9) rfl ((if0 _ _).trans (feq hc9).2) (by decide) (by decide) ?_
    show Steps p.tables e below (s₁.setTop (mkF m 21 #[.val (.int p1), .val (.int ((p1 &&& (2147483647 : Int32)) % (12 : Int32))), .unset, .unset] [])) _
    refine XS.iloadN X0.here hx rfl (hb hby at_21) rfl ?_
    show Steps p.tables e below (s₁.setTop (mkF m 22 #[.val (.int p1), .val (.int ((p1 &&& (2147483647 : Int32)) % (12 : Int32))), .unset, .unset] [(.int ((p1 &&& (2147483647 : Int32)) % (12 : Int32)))])) _
    refine XS.iconst X0.here hx rfl (hb hby at_22) ?_
    show Steps p.tables e below (s₁.setTop (mkF m 23 #[.val (.int p1), .val (.int ((p1 &&& (2147483647 : Int32)) % (12 : Int32))), .unset, .unset] [(.int (1 : Int32)), (.int ((p1 &&& (2147483647 : Int32)) % (12 : Int32)))])) _
    refine XS.icmpYes X0.here hx rfl (pc0 := 23) (pc' := 35) rfl (hb hby at_23) rfl (feq hc23).2 (by decide) (by decide) ?_
    show Steps p.tables e below (s₁.setTop (mkF m 35 #[.val (.int p1), .val (.int ((p1 &&& (2147483647 : Int32)) % (12 : Int32))), .unset, .unset] [])) _
    refine XS.iloadN X0.here hx rfl (hb hby at_35) rfl ?_
    show Steps p.tables e below (s₁.setTop (mkF m 36 #[.val (.int p1), .val (.int ((p1 &&& (2147483647 : Int32)) % (12 : Int32))), .unset, .unset] [(.int ((p1 &&& (2147483647 : Int32)) % (12 : Int32)))])) _
    refine XS.iconst X0.here hx rfl (hb hby at_36) ?_
    show Steps p.tables e below (s₁.setTop (mkF m 37 #[.val (.int p1), .val (.int ((p1 &&& (2147483647 : Int32)) % (12 : Int32))), .unset, .unset] [(.int (2 : Int32)), (.int ((p1 &&& (2147483647 : Int32)) % (12 : Int32)))])) _
    refine XS.icmpYes X0.here hx rfl (pc0 := 37) (pc' := 49) rfl (hb hby at_37) rfl (feq hc37).2 (by decide) (by decide) ?_
    show Steps p.tables e below (s₁.setTop (mkF m 49 #[.val (.int p1), .val (.int ((p1 &&& (2147483647 : Int32)) % (12 : Int32))), .unset, .unset] [])) _
    refine XS.iloadN X0.here hx rfl (hb hby at_49) rfl ?_
    show Steps p.tables e below (s₁.setTop (mkF m 50 #[.val (.int p1), .val (.int ((p1 &&& (2147483647 : Int32)) % (12 : Int32))), .unset, .unset] [(.int ((p1 &&& (2147483647 : Int32)) % (12 : Int32)))])) _
    refine XS.iconst X0.here hx rfl (hb hby at_50) ?_
    show Steps p.tables e below (s₁.setTop (mkF m 51 #[.val (.int p1), .val (.int ((p1 &&& (2147483647 : Int32)) % (12 : Int32))), .unset, .unset] [(.int (3 : Int32)), (.int ((p1 &&& (2147483647 : Int32)) % (12 : Int32)))])) _
    refine XS.icmpYes X0.here hx rfl (pc0 := 51) (pc' := 63) rfl (hb hby at_51) rfl (feq hc51).2 (by decide) (by decide) ?_
    show Steps p.tables e below (s₁.setTop (mkF m 63 #[.val (.int p1), .val (.int ((p1 &&& (2147483647 : Int32)) % (12 : Int32))), .unset, .unset] [])) _
    refine XS.iloadN X0.here hx rfl (hb hby at_63) rfl ?_
    show Steps p.tables e below (s₁.setTop (mkF m 64 #[.val (.int p1), .val (.int ((p1 &&& (2147483647 : Int32)) % (12 : Int32))), .unset, .unset] [(.int ((p1 &&& (2147483647 : Int32)) % (12 : Int32)))])) _
    refine XS.iconst X0.here hx rfl (hb hby at_64) ?_
    show Steps p.tables e below (s₁.setTop (mkF m 65 #[.val (.int p1), .val (.int ((p1 &&& (2147483647 : Int32)) % (12 : Int32))), .unset, .unset] [(.int (4 : Int32)), (.int ((p1 &&& (2147483647 : Int32)) % (12 : Int32)))])) _
    refine XS.icmpYes X0.here hx rfl (pc0 := 65) (pc' := 77) rfl (hb hby at_65) rfl (feq hc65).2 (by decide) (by decide) ?_
    show Steps p.tables e below (s₁.setTop (mkF m 77 #[.val (.int p1), .val (.int ((p1 &&& (2147483647 : Int32)) % (12 : Int32))), .unset, .unset] [])) _
    refine XS.iloadN X0.here hx rfl (hb hby at_77) rfl ?_
    show Steps p.tables e below (s₁.setTop (mkF m 78 #[.val (.int p1), .val (.int ((p1 &&& (2147483647 : Int32)) % (12 : Int32))), .unset, .unset] [(.int ((p1 &&& (2147483647 : Int32)) % (12 : Int32)))])) _
    refine XS.iconst X0.here hx rfl (hb hby at_78) ?_
    show Steps p.tables e below (s₁.setTop (mkF m 79 #[.val (.int p1), .val (.int ((p1 &&& (2147483647 : Int32)) % (12 : Int32))), .unset, .unset] [(.int (5 : Int32)), (.int ((p1 &&& (2147483647 : Int32)) % (12 : Int32)))])) _
    refine XS.icmpYes X0.here hx rfl (pc0 := 79) (pc' := 91) rfl (hb hby at_79) rfl (feq hc79).2 (by decide) (by decide) ?_
    show Steps p.tables e below (s₁.setTop (mkF m 91 #[.val (.int p1), .val (.int ((p1 &&& (2147483647 : Int32)) % (12 : Int32))), .unset, .unset] [])) _
    refine XS.iloadN X0.here hx rfl (hb hby at_91) rfl ?_
    show Steps p.tables e below (s₁.setTop (mkF m 92 #[.val (.int p1), .val (.int ((p1 &&& (2147483647 : Int32)) % (12 : Int32))), .unset, .unset] [(.int ((p1 &&& (2147483647 : Int32)) % (12 : Int32)))])) _
    refine XS.bipush X0.here hx rfl (hb hby at_92) ?_
    show Steps p.tables e below (s₁.setTop (mkF m 94 #[.val (.int p1), .val (.int ((p1 &&& (2147483647 : Int32)) % (12 : Int32))), .unset, .unset] [(.int (6 : Int32)), (.int ((p1 &&& (2147483647 : Int32)) % (12 : Int32)))])) _
    refine XS.icmpYes X0.here hx rfl (pc0 := 94) (pc' := 106) rfl (hb hby at_94) rfl (feq hc94).2 (by decide) (by decide) ?_
    show Steps p.tables e below (s₁.setTop (mkF m 106 #[.val (.int p1), .val (.int ((p1 &&& (2147483647 : Int32)) % (12 : Int32))), .unset, .unset] [])) _
    refine XS.iloadN X0.here hx rfl (hb hby at_106) rfl ?_
    show Steps p.tables e below (s₁.setTop (mkF m 107 #[.val (.int p1), .val (.int ((p1 &&& (2147483647 : Int32)) % (12 : Int32))), .unset, .unset] [(.int ((p1 &&& (2147483647 : Int32)) % (12 : Int32)))])) _
    refine XS.bipush X0.here hx rfl (hb hby at_107) ?_
    show Steps p.tables e below (s₁.setTop (mkF m 109 #[.val (.int p1), .val (.int ((p1 &&& (2147483647 : Int32)) % (12 : Int32))), .unset, .unset] [(.int (7 : Int32)), (.int ((p1 &&& (2147483647 : Int32)) % (12 : Int32)))])) _
    refine XS.icmpYes X0.here hx rfl (pc0 := 109) (pc' := 121) rfl (hb hby at_109) rfl (feq hc109).2 (by decide) (by decide) ?_
    show Steps p.tables e below (s₁.setTop (mkF m 121 #[.val (.int p1), .val (.int ((p1 &&& (2147483647 : Int32)) % (12 : Int32))), .unset, .unset] [])) _
    refine XS.iloadN X0.here hx rfl (hb hby at_121) rfl ?_
    show Steps p.tables e below (s₁.setTop (mkF m 122 #[.val (.int p1), .val (.int ((p1 &&& (2147483647 : Int32)) % (12 : Int32))), .unset, .unset] [(.int ((p1 &&& (2147483647 : Int32)) % (12 : Int32)))])) _
    refine XS.bipush X0.here hx rfl (hb hby at_122) ?_
    show Steps p.tables e below (s₁.setTop (mkF m 124 #[.val (.int p1), .val (.int ((p1 &&& (2147483647 : Int32)) % (12 : Int32))), .unset, .unset] [(.int (8 : Int32)), (.int ((p1 &&& (2147483647 : Int32)) % (12 : Int32)))])) _
    refine XS.icmpYes X0.here hx rfl (pc0 := 124) (pc' := 136) rfl (hb hby at_124) rfl (feq hc124).2 (by decide) (by decide) ?_
    show Steps p.tables e below (s₁.setTop (mkF m 136 #[.val (.int p1), .val (.int ((p1 &&& (2147483647 : Int32)) % (12 : Int32))), .unset, .unset] [])) _
    refine XS.iloadN X0.here hx rfl (hb hby at_136) rfl ?_
    show Steps p.tables e below (s₁.setTop (mkF m 137 #[.val (.int p1), .val (.int ((p1 &&& (2147483647 : Int32)) % (12 : Int32))), .unset, .unset] [(.int ((p1 &&& (2147483647 : Int32)) % (12 : Int32)))])) _
    refine XS.bipush X0.here hx rfl (hb hby at_137) ?_
    show Steps p.tables e below (s₁.setTop (mkF m 139 #[.val (.int p1), .val (.int ((p1 &&& (2147483647 : Int32)) % (12 : Int32))), .unset, .unset] [(.int (9 : Int32)), (.int ((p1 &&& (2147483647 : Int32)) % (12 : Int32)))])) _
    refine XS.icmpNo X0.here hx rfl (hb hby at_139) rfl (teq hc139).2 ?_
    show Steps p.tables e below (s₁.setTop (mkF m 142 #[.val (.int p1), .val (.int ((p1 &&& (2147483647 : Int32)) % (12 : Int32))), .unset, .unset] [])) _
    refine st2 _ ?_
    show Steps p.tables e below (T2.setTop (mkF m 145 #[.val (.int p1), .val (.int ((p1 &&& (2147483647 : Int32)) % (12 : Int32))), .unset, .unset] [(.ref w_EVENT)])) _
    refine XS.astoreN X2.here hx rfl (hb hby at_145) rfl rfl (l' := #[.val (.int p1), .val (.int ((p1 &&& (2147483647 : Int32)) % (12 : Int32))), .val (.ref w_EVENT), .unset]) rfl ?_
    show Steps p.tables e below (T2.setTop (mkF m 146 #[.val (.int p1), .val (.int ((p1 &&& (2147483647 : Int32)) % (12 : Int32))), .val (.ref w_EVENT), .unset] [])) _
    refine XS.iconst X2.here hx rfl (hb hby at_146) ?_
    show Steps p.tables e below (T2.setTop (mkF m 147 #[.val (.int p1), .val (.int ((p1 &&& (2147483647 : Int32)) % (12 : Int32))), .val (.ref w_EVENT), .unset] [(.int (0 : Int32))])) _
    refine XS.istoreN X2.here hx rfl (hb hby at_147) rfl (l' := #[.val (.int p1), .val (.int ((p1 &&& (2147483647 : Int32)) % (12 : Int32))), .val (.ref w_EVENT), .val (.int (0 : Int32))]) rfl ?_
    show Steps p.tables e below (T2.setTop (mkF m 148 #[.val (.int p1), .val (.int ((p1 &&& (2147483647 : Int32)) % (12 : Int32))), .val (.ref w_EVENT), .val (.int (0 : Int32))] [])) _
    refine XS.goto X2.here hx rfl (pc0 := 148) (pc' := 172) rfl (hb hby at_148) (by decide) (by decide) ?_
    show Steps p.tables e below (T2.setTop (mkF m 172 #[.val (.int p1), .val (.int ((p1 &&& (2147483647 : Int32)) % (12 : Int32))), .val (.ref w_EVENT), .val (.int (0 : Int32))] [])) _
    refine XS.aloadN X2.here hx rfl (hb hby at_172) rfl rfl ?_
    show Steps p.tables e below (T2.setTop (mkF m 173 #[.val (.int p1), .val (.int ((p1 &&& (2147483647 : Int32)) % (12 : Int32))), .val (.ref w_EVENT), .val (.int (0 : Int32))] [(.ref w_EVENT)])) _
    refine st3.trans ?_
    show Steps p.tables e below (T3.setTop (mkF m 176 #[.val (.int p1), .val (.int ((p1 &&& (2147483647 : Int32)) % (12 : Int32))), .val (.ref w_EVENT), .val (.int (0 : Int32))] [(.int r3)])) _
    refine XS.iloadN X3.here hx rfl (hb hby at_176) rfl ?_
    show Steps p.tables e below (T3.setTop (mkF m 177 #[.val (.int p1), .val (.int ((p1 &&& (2147483647 : Int32)) % (12 : Int32))), .val (.ref w_EVENT), .val (.int (0 : Int32))] [(.int (0 : Int32)), (.int r3)])) _
    refine XS.icmpNo X3.here hx rfl (hb hby at_177) rfl (teq hc177).2 ?_
    show Steps p.tables e below (T3.setTop (mkF m 180 #[.val (.int p1), .val (.int ((p1 &&& (2147483647 : Int32)) % (12 : Int32))), .val (.ref w_EVENT), .val (.int (0 : Int32))] [])) _
    refine XS.iconst X3.here hx rfl (hb hby at_180) ?_
    show Steps p.tables e below (T3.setTop (mkF m 181 #[.val (.int p1), .val (.int ((p1 &&& (2147483647 : Int32)) % (12 : Int32))), .val (.ref w_EVENT), .val (.int (0 : Int32))] [(.int (1 : Int32))])) _
    refine XS.goto X3.here hx rfl (pc0 := 181) (pc' := 185) rfl (hb hby at_181) (by decide) (by decide) ?_
    show Steps p.tables e below (T3.setTop (mkF m 185 #[.val (.int p1), .val (.int ((p1 &&& (2147483647 : Int32)) % (12 : Int32))), .val (.ref w_EVENT), .val (.int (0 : Int32))] [(.int (1 : Int32))])) _
    exact retN X3 hx (t := .boolean) Bd.returns (by simp) (hb hby at_185) hr
  · show Q0 n0 _ T3.heap _
    rw [e3]
    exact ⟨rfl, N3⟩
set_option maxRecDepth 65536 in
set_option maxHeartbeats 40000000 in
theorem rm0_c10 (l : Launch) (Z : State) (a0 : Array Value) (hw : ∀ d ∈ tables_1, d.before a0 Z = true) (ws : List Jvm.Cond) (p1 : Int32) (w_TABLE : Addr) (w_DATA : Addr) (w_TUPLE : Addr) (r3 : Int32) (h0 : Heap) (n0 : Nat) (Z0 : n0 ≤ h0.size) (S_TABLE : Sta Z h0 "com/example/applied_pi_checker/appliedpichecker/FunctionSymbol$Kind" "TABLE" "Lcom/example/applied_pi_checker/appliedpichecker/FunctionSymbol$Kind;" (.ref w_TABLE)) (S_DATA : Sta Z h0 "com/example/applied_pi_checker/appliedpichecker/FunctionSymbol$Kind" "DATA" "Lcom/example/applied_pi_checker/appliedpichecker/FunctionSymbol$Kind;" (.ref w_DATA)) (S_TUPLE : Sta Z h0 "com/example/applied_pi_checker/appliedpichecker/FunctionSymbol$Kind" "TUPLE" "Lcom/example/applied_pi_checker/appliedpichecker/FunctionSymbol$Kind;" (.ref w_TUPLE)) (P3 : R1 w_TABLE w_DATA w_TUPLE r3) (E_TABLE : Exa Z h0 w_TABLE "com/example/applied_pi_checker/appliedpichecker/FunctionSymbol$Kind") (hc9 : ¬ (((p1 &&& (2147483647 : Int32)) % (12 : Int32)) = (0 : Int32))) (hc23 : ¬ (((p1 &&& (2147483647 : Int32)) % (12 : Int32)) = (1 : Int32))) (hc37 : ¬ (((p1 &&& (2147483647 : Int32)) % (12 : Int32)) = (2 : Int32))) (hc51 : ¬ (((p1 &&& (2147483647 : Int32)) % (12 : Int32)) = (3 : Int32))) (hc65 : ¬ (((p1 &&& (2147483647 : Int32)) % (12 : Int32)) = (4 : Int32))) (hc79 : ¬ (((p1 &&& (2147483647 : Int32)) % (12 : Int32)) = (5 : Int32))) (hc94 : ¬ (((p1 &&& (2147483647 : Int32)) % (12 : Int32)) = (6 : Int32))) (hc109 : ¬ (((p1 &&& (2147483647 : Int32)) % (12 : Int32)) = (7 : Int32))) (hc124 : ¬ (((p1 &&& (2147483647 : Int32)) % (12 : Int32)) = (8 : Int32))) (hc139 : ¬ (((p1 &&& (2147483647 : Int32)) % (12 : Int32)) = (9 : Int32))) (hc154 : ((p1 &&& (2147483647 : Int32)) % (12 : Int32)) = (10 : Int32)) (hc177 : r3 = (0 : Int32)) :
    MetFree l x (head1 (Jvm.Cond.code x code maxLocals ret :: ws) room_1) (fun a U => a = #[(.int p1)] ∧ Z.Warmed39 U.vm ∧ U.heap = h0) (fun _ _ _ _ _ => True) (fun _ U o U' => ∃ v L, o = .returned v ∧ Q0 n0 v U'.heap L ∧ FrameEnd U o U' L room_1.cells room_1.slots) := by
  refine MetFree.of_bodySF (plainFor_of_name pn_0) hisR ?_
  intro p e s m args below meth c s₁ Bd hml0 hP hK
  obtain ⟨rfl, hZ, hh⟩ := hP
  have hx := Bd.exec
  have hby := Bd.bytes
  have hml : c.maxLocals = 4 := hml0
  have hown : s.vm.findClass "com/example/applied_pi_checker/appliedpichecker/KindIsDataPinLaw" = some m.cls := findClass_of_methodNamed Bd.named
  have hnm := (name_of_methodNamed Bd.named Bd.method).1
  have X0 : Stand p l e room_1 s m #[(.int p1)] below meth c s₁ [] 0 0 := Stand.of_body Bd
  have e0 : s₁.heap = h0 := by rw [← hh, Bd.state]; rfl
  have N0 := Fr.nil n0
  have pre0 : ∀ t, Steps p.tables e below (s₁.setTop (mkF m 0 #[.val (.int p1), .unset, .unset, .unset] [])) t → Steps p.tables e below (s₁.setTop (entryFrame m #[(.int p1)] maxLocals)) t := fun t k => castTop (ef_0 m p1) k
  -- 3. LAWS
  obtain ⟨T2, X2, e2, st2⟩ := getS2 X0 hx hZ hown (host := "") (Or.inl (hw _ (List.mem_of_getElem? (i := 26) rfl))) Via.refl e0 S_TABLE (g := (mkF m 157 #[.val (.int p1), .val (.int ((p1 &&& (2147483647 : Int32)) % (12 : Int32))), .unset, .unset] [])) rfl (hb hby at_157)
  obtain ⟨cq3, kq3, q3a, q3b, q3c⟩ := isOf hZ e2 E_TABLE
  obtain ⟨_, _, ⟨T3, L3, k3, n3⟩, -, X3, ⟨Lc3, hQ3, l3, y3, z3⟩, st3⟩ := X2.virtualBack hx (y := (⟨"com/example/applied_pi_checker/appliedpichecker/FunctionSymbol$Kind", "isData", "()Z"⟩ : MethodName)) (z := (⟨"com/example/applied_pi_checker/appliedpichecker/FunctionSymbol$Kind", "isData", "()Z"⟩ : MethodName)) hown (mvT hZ (hw _ (List.mem_of_getElem? (i := 4) rfl))) (mvT hZ (hw _ (List.mem_of_getElem? (i := 5) rfl))) (notFace_of_selects (args := #[]) (mvT hZ (hw _ (List.mem_of_getElem? (i := 7) rfl)))) (mvT hZ (hw _ (List.mem_of_getElem? (i := 7) rfl))) (mvT hZ (hw _ (List.mem_of_getElem? (i := 6) rfl))) (by decide) (backOf (W := 0) (rm1 l Z a0 hw [] w_TABLE w_DATA w_TUPLE r3 h0 n0 Z0 S_DATA S_TUPLE P3) hZ (hw _ (List.mem_of_getElem? (i := 8) rfl)) (hw _ (List.mem_of_getElem? (i := 2) rfl)) (by decide) (by decide)) q3a q3c (g := (mkF m 173 #[.val (.int p1), .val (.int ((p1 &&& (2147483647 : Int32)) % (12 : Int32))), .val (.ref w_TABLE), .val (.int (0 : Int32))] [(.ref w_TABLE)])) rfl (by rw [hml]; rfl) (Steps.refl _) (argsL := []) (rest := []) (lenOf pd_0_0 rfl) rfl (by show 2 * 0 + _ ≤ _; exact Nat.le_of_eq rfl) (hb hby at_173) (fun _ _ => ⟨rfl, e2, (by decide : 0 + 0 ≤ _), (by decide : 0 + 0 ≤ _)⟩)
  dsimp only [Pt.U, Pt.locs, Pt.cells, Pt.slots] at X3 l3 y3 z3 st3 hQ3
  subst l3 y3 z3
  obtain ⟨rfl, N3q, e3⟩ := hQ3
  have N3 := Fr.app N0 N3q
  obtain ⟨fs, hr, hrun, hended, hW, hsame⟩ := X3.leave (v := some (.int (1 : Int32))) (fun h => by rw [Bd.returns] at h; cases h)
  refine ⟨_, _, pre0 _ ?_, hrun, hended, _, _, rfl, ?_, ⟨_, rfl⟩, hW, hsame.mono (by decide) (by decide)⟩
  -- 4. STEPS
  · show Steps p.tables e below (s₁.setTop (mkF m 0 #[.val (.int p1), .unset, .unset, .unset] [])) _
    refine XS.iloadN X0.here hx rfl (hb hby at_0) rfl ?_
    show Steps p.tables e below (s₁.setTop (mkF m 1 #[.val (.int p1), .unset, .unset, .unset] [(.int p1)])) _
    refine X0.ldcInt hx hown (mvT hZ (hw _ (List.mem_of_getElem? (i := 0) rfl))) (g := (mkF m 1 #[.val (.int p1), .unset, .unset, .unset] [(.int p1)])) rfl (hb hby at_1) _ ?_
    show Steps p.tables e below (s₁.setTop (mkF m 3 #[.val (.int p1), .unset, .unset, .unset] [(.int (2147483647 : Int32)), (.int p1)])) _
    refine XS.iand X0.here hx rfl (hb hby at_3) rfl ?_
    show Steps p.tables e below (s₁.setTop (mkF m 4 #[.val (.int p1), .unset, .unset, .unset] [(.int (p1 &&& (2147483647 : Int32)))])) _
    refine XS.bipush X0.here hx rfl (hb hby at_4) ?_
    show Steps p.tables e below (s₁.setTop (mkF m 6 #[.val (.int p1), .unset, .unset, .unset] [(.int (12 : Int32)), (.int (p1 &&& (2147483647 : Int32)))])) _
    refine iremM X0 hx rfl (hb hby at_6) rfl (by decide) ?_
    show Steps p.tables e below (s₁.setTop (mkF m 7 #[.val (.int p1), .unset, .unset, .unset] [(.int ((p1 &&& (2147483647 : Int32)) % (12 : Int32)))])) _
    refine XS.istoreN X0.here hx rfl (hb hby at_7) rfl (l' := #[.val (.int p1), .val (.int ((p1 &&& (2147483647 : Int32)) % (12 : Int32))), .unset, .unset]) rfl ?_
    show Steps p.tables e below (s₁.setTop (mkF m 8 #[.val (.int p1), .val (.int ((p1 &&& (2147483647 : Int32)) % (12 : Int32))), .unset, .unset] [])) _
    refine XS.iloadN X0.here hx rfl (hb hby at_8) rfl ?_
    show Steps p.tables e below (s₁.setTop (mkF m 9 #[.val (.int p1), .val (.int ((p1 &&& (2147483647 : Int32)) % (12 : Int32))), .unset, .unset] [(.int ((p1 &&& (2147483647 : Int32)) % (12 : Int32)))])) _
    refine XS.ifYes X0.here hx rfl (pc0 := 9) (pc' := 21) rfl (hb hby at_9) rfl ((if0 _ _).trans (feq hc9).2) (by decide) (by decide) ?_
    show Steps p.tables e below (s₁.setTop (mkF m 21 #[.val (.int p1), .val (.int ((p1 &&& (2147483647 : Int32)) % (12 : Int32))), .unset, .unset] [])) _
    refine XS.iloadN X0.here hx rfl (hb hby at_21) rfl ?_
    show Steps p.tables e below (s₁.setTop (mkF m 22 #[.val (.int p1), .val (.int ((p1 &&& (2147483647 : Int32)) % (12 : Int32))), .unset, .unset] [(.int ((p1 &&& (2147483647 : Int32)) % (12 : Int32)))])) _
    refine XS.iconst X0.here hx rfl (hb hby at_22) ?_
    show Steps p.tables e below (s₁.setTop (mkF m 23 #[.val (.int p1), .val (.int ((p1 &&& (2147483647 : Int32)) % (12 : Int32))), .unset, .unset] [(.int (1 : Int32)), (.int ((p1 &&& (2147483647 : Int32)) % (12 : Int32)))])) _
    refine XS.icmpYes X0.here hx rfl (pc0 := 23) (pc' := 35) rfl (hb hby at_23) rfl (feq hc23).2 (by decide) (by decide) ?_
    show Steps p.tables e below (s₁.setTop (mkF m 35 #[.val (.int p1), .val (.int ((p1 &&& (2147483647 : Int32)) % (12 : Int32))), .unset, .unset] [])) _
    refine XS.iloadN X0.here hx rfl (hb hby at_35) rfl ?_
    show Steps p.tables e below (s₁.setTop (mkF m 36 #[.val (.int p1), .val (.int ((p1 &&& (2147483647 : Int32)) % (12 : Int32))), .unset, .unset] [(.int ((p1 &&& (2147483647 : Int32)) % (12 : Int32)))])) _
    refine XS.iconst X0.here hx rfl (hb hby at_36) ?_
    show Steps p.tables e below (s₁.setTop (mkF m 37 #[.val (.int p1), .val (.int ((p1 &&& (2147483647 : Int32)) % (12 : Int32))), .unset, .unset] [(.int (2 : Int32)), (.int ((p1 &&& (2147483647 : Int32)) % (12 : Int32)))])) _
    refine XS.icmpYes X0.here hx rfl (pc0 := 37) (pc' := 49) rfl (hb hby at_37) rfl (feq hc37).2 (by decide) (by decide) ?_
    show Steps p.tables e below (s₁.setTop (mkF m 49 #[.val (.int p1), .val (.int ((p1 &&& (2147483647 : Int32)) % (12 : Int32))), .unset, .unset] [])) _
    refine XS.iloadN X0.here hx rfl (hb hby at_49) rfl ?_
    show Steps p.tables e below (s₁.setTop (mkF m 50 #[.val (.int p1), .val (.int ((p1 &&& (2147483647 : Int32)) % (12 : Int32))), .unset, .unset] [(.int ((p1 &&& (2147483647 : Int32)) % (12 : Int32)))])) _
    refine XS.iconst X0.here hx rfl (hb hby at_50) ?_
    show Steps p.tables e below (s₁.setTop (mkF m 51 #[.val (.int p1), .val (.int ((p1 &&& (2147483647 : Int32)) % (12 : Int32))), .unset, .unset] [(.int (3 : Int32)), (.int ((p1 &&& (2147483647 : Int32)) % (12 : Int32)))])) _
    refine XS.icmpYes X0.here hx rfl (pc0 := 51) (pc' := 63) rfl (hb hby at_51) rfl (feq hc51).2 (by decide) (by decide) ?_
    show Steps p.tables e below (s₁.setTop (mkF m 63 #[.val (.int p1), .val (.int ((p1 &&& (2147483647 : Int32)) % (12 : Int32))), .unset, .unset] [])) _
    refine XS.iloadN X0.here hx rfl (hb hby at_63) rfl ?_
    show Steps p.tables e below (s₁.setTop (mkF m 64 #[.val (.int p1), .val (.int ((p1 &&& (2147483647 : Int32)) % (12 : Int32))), .unset, .unset] [(.int ((p1 &&& (2147483647 : Int32)) % (12 : Int32)))])) _
    refine XS.iconst X0.here hx rfl (hb hby at_64) ?_
    show Steps p.tables e below (s₁.setTop (mkF m 65 #[.val (.int p1), .val (.int ((p1 &&& (2147483647 : Int32)) % (12 : Int32))), .unset, .unset] [(.int (4 : Int32)), (.int ((p1 &&& (2147483647 : Int32)) % (12 : Int32)))])) _
    refine XS.icmpYes X0.here hx rfl (pc0 := 65) (pc' := 77) rfl (hb hby at_65) rfl (feq hc65).2 (by decide) (by decide) ?_
    show Steps p.tables e below (s₁.setTop (mkF m 77 #[.val (.int p1), .val (.int ((p1 &&& (2147483647 : Int32)) % (12 : Int32))), .unset, .unset] [])) _
    refine XS.iloadN X0.here hx rfl (hb hby at_77) rfl ?_
    show Steps p.tables e below (s₁.setTop (mkF m 78 #[.val (.int p1), .val (.int ((p1 &&& (2147483647 : Int32)) % (12 : Int32))), .unset, .unset] [(.int ((p1 &&& (2147483647 : Int32)) % (12 : Int32)))])) _
    refine XS.iconst X0.here hx rfl (hb hby at_78) ?_
    show Steps p.tables e below (s₁.setTop (mkF m 79 #[.val (.int p1), .val (.int ((p1 &&& (2147483647 : Int32)) % (12 : Int32))), .unset, .unset] [(.int (5 : Int32)), (.int ((p1 &&& (2147483647 : Int32)) % (12 : Int32)))])) _
    refine XS.icmpYes X0.here hx rfl (pc0 := 79) (pc' := 91) rfl (hb hby at_79) rfl (feq hc79).2 (by decide) (by decide) ?_
    show Steps p.tables e below (s₁.setTop (mkF m 91 #[.val (.int p1), .val (.int ((p1 &&& (2147483647 : Int32)) % (12 : Int32))), .unset, .unset] [])) _
    refine XS.iloadN X0.here hx rfl (hb hby at_91) rfl ?_
    show Steps p.tables e below (s₁.setTop (mkF m 92 #[.val (.int p1), .val (.int ((p1 &&& (2147483647 : Int32)) % (12 : Int32))), .unset, .unset] [(.int ((p1 &&& (2147483647 : Int32)) % (12 : Int32)))])) _
    refine XS.bipush X0.here hx rfl (hb hby at_92) ?_
    show Steps p.tables e below (s₁.setTop (mkF m 94 #[.val (.int p1), .val (.int ((p1 &&& (2147483647 : Int32)) % (12 : Int32))), .unset, .unset] [(.int (6 : Int32)), (.int ((p1 &&& (2147483647 : Int32)) % (12 : Int32)))])) _
    refine XS.icmpYes X0.here hx rfl (pc0 := 94) (pc' := 106) rfl (hb hby at_94) rfl (feq hc94).2 (by decide) (by decide) ?_
    show Steps p.tables e below (s₁.setTop (mkF m 106 #[.val (.int p1), .val (.int ((p1 &&& (2147483647 : Int32)) % (12 : Int32))), .unset, .unset] [])) _
    refine XS.iloadN X0.here hx rfl (hb hby at_106) rfl ?_
    show Steps p.tables e below (s₁.setTop (mkF m 107 #[.val (.int p1), .val (.int ((p1 &&& (2147483647 : Int32)) % (12 : Int32))), .unset, .unset] [(.int ((p1 &&& (2147483647 : Int32)) % (12 : Int32)))])) _
    refine XS.bipush X0.here hx rfl (hb hby at_107) ?_
    show Steps p.tables e below (s₁.setTop (mkF m 109 #[.val (.int p1), .val (.int ((p1 &&& (2147483647 : Int32)) % (12 : Int32))), .unset, .unset] [(.int (7 : Int32)), (.int ((p1 &&& (2147483647 : Int32)) % (12 : Int32)))])) _
    refine XS.icmpYes X0.here hx rfl (pc0 := 109) (pc' := 121) rfl (hb hby at_109) rfl (feq hc109).2 (by decide) (by decide) ?_
    show Steps p.tables e below (s₁.setTop (mkF m 121 #[.val (.int p1), .val (.int ((p1 &&& (2147483647 : Int32)) % (12 : Int32))), .unset, .unset] [])) _
    refine XS.iloadN X0.here hx rfl (hb hby at_121) rfl ?_
    show Steps p.tables e below (s₁.setTop (mkF m 122 #[.val (.int p1), .val (.int ((p1 &&& (2147483647 : Int32)) % (12 : Int32))), .unset, .unset] [(.int ((p1 &&& (2147483647 : Int32)) % (12 : Int32)))])) _
    refine XS.bipush X0.here hx rfl (hb hby at_122) ?_
    show Steps p.tables e below (s₁.setTop (mkF m 124 #[.val (.int p1), .val (.int ((p1 &&& (2147483647 : Int32)) % (12 : Int32))), .unset, .unset] [(.int (8 : Int32)), (.int ((p1 &&& (2147483647 : Int32)) % (12 : Int32)))])) _
    refine XS.icmpYes X0.here hx rfl (pc0 := 124) (pc' := 136) rfl (hb hby at_124) rfl (feq hc124).2 (by decide) (by decide) ?_
    show Steps p.tables e below (s₁.setTop (mkF m 136 #[.val (.int p1), .val (.int ((p1 &&& (2147483647 : Int32)) % (12 : Int32))), .unset, .unset] [])) _
    refine XS.iloadN X0.here hx rfl (hb hby at_136) rfl ?_
    show Steps p.tables e below (s₁.setTop (mkF m 137 #[.val (.int p1), .val (.int ((p1 &&& (2147483647 : Int32)) % (12 : Int32))), .unset, .unset] [(.int ((p1 &&& (2147483647 : Int32)) % (12 : Int32)))])) _
    refine XS.bipush X0.here hx rfl (hb hby at_137) ?_
    show Steps p.tables e below (s₁.setTop (mkF m 139 #[.val (.int p1), .val (.int ((p1 &&& (2147483647 : Int32)) % (12 : Int32))), .unset, .unset] [(.int (9 : Int32)), (.int ((p1 &&& (2147483647 : Int32)) % (12 : Int32)))])) _
    refine XS.icmpYes X0.here hx rfl (pc0 := 139) (pc' := 151) rfl (hb hby at_139) rfl (feq hc139).2 (by decide) (by decide) ?_
    show Steps p.tables e below (s₁.setTop (mkF m 151 #[.val (.int p1), .val (.int ((p1 &&& (2147483647 : Int32)) % (12 : Int32))), .unset, .unset] [])) _
    refine XS.iloadN X0.here hx rfl (hb hby at_151) rfl ?_
    show Steps p.tables e below (s₁.setTop (mkF m 152 #[.val (.int p1), .val (.int ((p1 &&& (2147483647 : Int32)) % (12 : Int32))), .unset, .unset] [(.int ((p1 &&& (2147483647 : Int32)) % (12 : Int32)))])) _
    refine XS.bipush X0.here hx rfl (hb hby at_152) ?_
    show Steps p.tables e below (s₁.setTop (mkF m 154 #[.val (.int p1), .val (.int ((p1 &&& (2147483647 : Int32)) % (12 : Int32))), .unset, .unset] [(.int (10 : Int32)), (.int ((p1 &&& (2147483647 : Int32)) % (12 : Int32)))])) _
    refine XS.icmpNo X0.here hx rfl (hb hby at_154) rfl (teq hc154).2 ?_
    show Steps p.tables e below (s₁.setTop (mkF m 157 #[.val (.int p1), .val (.int ((p1 &&& (2147483647 : Int32)) % (12 : Int32))), .unset, .unset] [])) _
    refine st2 _ ?_
    show Steps p.tables e below (T2.setTop (mkF m 160 #[.val (.int p1), .val (.int ((p1 &&& (2147483647 : Int32)) % (12 : Int32))), .unset, .unset] [(.ref w_TABLE)])) _
    refine XS.astoreN X2.here hx rfl (hb hby at_160) rfl rfl (l' := #[.val (.int p1), .val (.int ((p1 &&& (2147483647 : Int32)) % (12 : Int32))), .val (.ref w_TABLE), .unset]) rfl ?_
    show Steps p.tables e below (T2.setTop (mkF m 161 #[.val (.int p1), .val (.int ((p1 &&& (2147483647 : Int32)) % (12 : Int32))), .val (.ref w_TABLE), .unset] [])) _
    refine XS.iconst X2.here hx rfl (hb hby at_161) ?_
    show Steps p.tables e below (T2.setTop (mkF m 162 #[.val (.int p1), .val (.int ((p1 &&& (2147483647 : Int32)) % (12 : Int32))), .val (.ref w_TABLE), .unset] [(.int (0 : Int32))])) _
    refine XS.istoreN X2.here hx rfl (hb hby at_162) rfl (l' := #[.val (.int p1), .val (.int ((p1 &&& (2147483647 : Int32)) % (12 : Int32))), .val (.ref w_TABLE), .val (.int (0 : Int32))]) rfl ?_
    show Steps p.tables e below (T2.setTop (mkF m 163 #[.val (.int p1), .val (.int ((p1 &&& (2147483647 : Int32)) % (12 : Int32))), .val (.ref w_TABLE), .val (.int (0 : Int32))] [])) _
    refine XS.goto X2.here hx rfl (pc0 := 163) (pc' := 172) rfl (hb hby at_163) (by decide) (by decide) ?_
    show Steps p.tables e below (T2.setTop (mkF m 172 #[.val (.int p1), .val (.int ((p1 &&& (2147483647 : Int32)) % (12 : Int32))), .val (.ref w_TABLE), .val (.int (0 : Int32))] [])) _
    refine XS.aloadN X2.here hx rfl (hb hby at_172) rfl rfl ?_
    show Steps p.tables e below (T2.setTop (mkF m 173 #[.val (.int p1), .val (.int ((p1 &&& (2147483647 : Int32)) % (12 : Int32))), .val (.ref w_TABLE), .val (.int (0 : Int32))] [(.ref w_TABLE)])) _
    refine st3.trans ?_
    show Steps p.tables e below (T3.setTop (mkF m 176 #[.val (.int p1), .val (.int ((p1 &&& (2147483647 : Int32)) % (12 : Int32))), .val (.ref w_TABLE), .val (.int (0 : Int32))] [(.int r3)])) _
    refine XS.iloadN X3.here hx rfl (hb hby at_176) rfl ?_
    show Steps p.tables e below (T3.setTop (mkF m 177 #[.val (.int p1), .val (.int ((p1 &&& (2147483647 : Int32)) % (12 : Int32))), .val (.ref w_TABLE), .val (.int (0 : Int32))] [(.int (0 : Int32)), (.int r3)])) _
    refine XS.icmpNo X3.here hx rfl (hb hby at_177) rfl (teq hc177).2 ?_
    show Steps p.tables e below (T3.setTop (mkF m 180 #[.val (.int p1), .val (.int ((p1 &&& (2147483647 : Int32)) % (12 : Int32))), .val (.ref w_TABLE), .val (.int (0 : Int32))] [])) _
    refine XS.iconst X3.here hx rfl (hb hby at_180) ?_
    show Steps p.tables e below (T3.setTop (mkF m 181 #[.val (.int p1), .val (.int ((p1 &&& (2147483647 : Int32)) % (12 : Int32))), .val (.ref w_TABLE), .val (.int (0 : Int32))] [(.int (1 : Int32))])) _
    refine XS.goto X3.here hx rfl (pc0 := 181) (pc' := 185) rfl (hb hby at_181) (by decide) (by decide) ?_
    show Steps p.tables e below (T3.setTop (mkF m 185 #[.val (.int p1), .val (.int ((p1 &&& (2147483647 : Int32)) % (12 : Int32))), .val (.ref w_TABLE), .val (.int (0 : Int32))] [(.int (1 : Int32))])) _
    exact retN X3 hx (t := .boolean) Bd.returns (by simp) (hb hby at_185) hr
  · show Q0 n0 _ T3.heap _
    rw [e3]
    exact ⟨rfl, N3⟩
set_option maxRecDepth 65536 in
set_option maxHeartbeats 40000000 in
theorem rm0_c11 (l : Launch) (Z : State) (a0 : Array Value) (hw : ∀ d ∈ tables_1, d.before a0 Z = true) (ws : List Jvm.Cond) (p1 : Int32) (w_OCCURRENCE : Addr) (w_DATA : Addr) (w_TUPLE : Addr) (r3 : Int32) (h0 : Heap) (n0 : Nat) (Z0 : n0 ≤ h0.size) (S_OCCURRENCE : Sta Z h0 "com/example/applied_pi_checker/appliedpichecker/FunctionSymbol$Kind" "OCCURRENCE" "Lcom/example/applied_pi_checker/appliedpichecker/FunctionSymbol$Kind;" (.ref w_OCCURRENCE)) (S_DATA : Sta Z h0 "com/example/applied_pi_checker/appliedpichecker/FunctionSymbol$Kind" "DATA" "Lcom/example/applied_pi_checker/appliedpichecker/FunctionSymbol$Kind;" (.ref w_DATA)) (S_TUPLE : Sta Z h0 "com/example/applied_pi_checker/appliedpichecker/FunctionSymbol$Kind" "TUPLE" "Lcom/example/applied_pi_checker/appliedpichecker/FunctionSymbol$Kind;" (.ref w_TUPLE)) (P3 : R1 w_OCCURRENCE w_DATA w_TUPLE r3) (E_OCCURRENCE : Exa Z h0 w_OCCURRENCE "com/example/applied_pi_checker/appliedpichecker/FunctionSymbol$Kind") (hc9 : ¬ (((p1 &&& (2147483647 : Int32)) % (12 : Int32)) = (0 : Int32))) (hc23 : ¬ (((p1 &&& (2147483647 : Int32)) % (12 : Int32)) = (1 : Int32))) (hc37 : ¬ (((p1 &&& (2147483647 : Int32)) % (12 : Int32)) = (2 : Int32))) (hc51 : ¬ (((p1 &&& (2147483647 : Int32)) % (12 : Int32)) = (3 : Int32))) (hc65 : ¬ (((p1 &&& (2147483647 : Int32)) % (12 : Int32)) = (4 : Int32))) (hc79 : ¬ (((p1 &&& (2147483647 : Int32)) % (12 : Int32)) = (5 : Int32))) (hc94 : ¬ (((p1 &&& (2147483647 : Int32)) % (12 : Int32)) = (6 : Int32))) (hc109 : ¬ (((p1 &&& (2147483647 : Int32)) % (12 : Int32)) = (7 : Int32))) (hc124 : ¬ (((p1 &&& (2147483647 : Int32)) % (12 : Int32)) = (8 : Int32))) (hc139 : ¬ (((p1 &&& (2147483647 : Int32)) % (12 : Int32)) = (9 : Int32))) (hc154 : ¬ (((p1 &&& (2147483647 : Int32)) % (12 : Int32)) = (10 : Int32))) (hc177 : r3 = (0 : Int32)) :
    MetFree l x (head1 (Jvm.Cond.code x code maxLocals ret :: ws) room_1) (fun a U => a = #[(.int p1)] ∧ Z.Warmed39 U.vm ∧ U.heap = h0) (fun _ _ _ _ _ => True) (fun _ U o U' => ∃ v L, o = .returned v ∧ Q0 n0 v U'.heap L ∧ FrameEnd U o U' L room_1.cells room_1.slots) := by
  refine MetFree.of_bodySF (plainFor_of_name pn_0) hisR ?_
  intro p e s m args below meth c s₁ Bd hml0 hP hK
  obtain ⟨rfl, hZ, hh⟩ := hP
  have hx := Bd.exec
  have hby := Bd.bytes
  have hml : c.maxLocals = 4 := hml0
  have hown : s.vm.findClass "com/example/applied_pi_checker/appliedpichecker/KindIsDataPinLaw" = some m.cls := findClass_of_methodNamed Bd.named
  have hnm := (name_of_methodNamed Bd.named Bd.method).1
  have X0 : Stand p l e room_1 s m #[(.int p1)] below meth c s₁ [] 0 0 := Stand.of_body Bd
  have e0 : s₁.heap = h0 := by rw [← hh, Bd.state]; rfl
  have N0 := Fr.nil n0
  have pre0 : ∀ t, Steps p.tables e below (s₁.setTop (mkF m 0 #[.val (.int p1), .unset, .unset, .unset] [])) t → Steps p.tables e below (s₁.setTop (entryFrame m #[(.int p1)] maxLocals)) t := fun t k => castTop (ef_0 m p1) k
  -- 3. LAWS
  obtain ⟨T2, X2, e2, st2⟩ := getS2 X0 hx hZ hown (host := "") (Or.inl (hw _ (List.mem_of_getElem? (i := 18) rfl))) Via.refl e0 S_OCCURRENCE (g := (mkF m 166 #[.val (.int p1), .val (.int ((p1 &&& (2147483647 : Int32)) % (12 : Int32))), .unset, .unset] [])) rfl (hb hby at_166)
  obtain ⟨cq3, kq3, q3a, q3b, q3c⟩ := isOf hZ e2 E_OCCURRENCE
  obtain ⟨_, _, ⟨T3, L3, k3, n3⟩, -, X3, ⟨Lc3, hQ3, l3, y3, z3⟩, st3⟩ := X2.virtualBack hx (y := (⟨"com/example/applied_pi_checker/appliedpichecker/FunctionSymbol$Kind", "isData", "()Z"⟩ : MethodName)) (z := (⟨"com/example/applied_pi_checker/appliedpichecker/FunctionSymbol$Kind", "isData", "()Z"⟩ : MethodName)) hown (mvT hZ (hw _ (List.mem_of_getElem? (i := 4) rfl))) (mvT hZ (hw _ (List.mem_of_getElem? (i := 5) rfl))) (notFace_of_selects (args := #[]) (mvT hZ (hw _ (List.mem_of_getElem? (i := 7) rfl)))) (mvT hZ (hw _ (List.mem_of_getElem? (i := 7) rfl))) (mvT hZ (hw _ (List.mem_of_getElem? (i := 6) rfl))) (by decide) (backOf (W := 0) (rm1 l Z a0 hw [] w_OCCURRENCE w_DATA w_TUPLE r3 h0 n0 Z0 S_DATA S_TUPLE P3) hZ (hw _ (List.mem_of_getElem? (i := 8) rfl)) (hw _ (List.mem_of_getElem? (i := 2) rfl)) (by decide) (by decide)) q3a q3c (g := (mkF m 173 #[.val (.int p1), .val (.int ((p1 &&& (2147483647 : Int32)) % (12 : Int32))), .val (.ref w_OCCURRENCE), .val (.int (0 : Int32))] [(.ref w_OCCURRENCE)])) rfl (by rw [hml]; rfl) (Steps.refl _) (argsL := []) (rest := []) (lenOf pd_0_0 rfl) rfl (by show 2 * 0 + _ ≤ _; exact Nat.le_of_eq rfl) (hb hby at_173) (fun _ _ => ⟨rfl, e2, (by decide : 0 + 0 ≤ _), (by decide : 0 + 0 ≤ _)⟩)
  dsimp only [Pt.U, Pt.locs, Pt.cells, Pt.slots] at X3 l3 y3 z3 st3 hQ3
  subst l3 y3 z3
  obtain ⟨rfl, N3q, e3⟩ := hQ3
  have N3 := Fr.app N0 N3q
  obtain ⟨fs, hr, hrun, hended, hW, hsame⟩ := X3.leave (v := some (.int (1 : Int32))) (fun h => by rw [Bd.returns] at h; cases h)
  refine ⟨_, _, pre0 _ ?_, hrun, hended, _, _, rfl, ?_, ⟨_, rfl⟩, hW, hsame.mono (by decide) (by decide)⟩
  -- 4. STEPS
  · show Steps p.tables e below (s₁.setTop (mkF m 0 #[.val (.int p1), .unset, .unset, .unset] [])) _
    refine XS.iloadN X0.here hx rfl (hb hby at_0) rfl ?_
    show Steps p.tables e below (s₁.setTop (mkF m 1 #[.val (.int p1), .unset, .unset, .unset] [(.int p1)])) _
    refine X0.ldcInt hx hown (mvT hZ (hw _ (List.mem_of_getElem? (i := 0) rfl))) (g := (mkF m 1 #[.val (.int p1), .unset, .unset, .unset] [(.int p1)])) rfl (hb hby at_1) _ ?_
    show Steps p.tables e below (s₁.setTop (mkF m 3 #[.val (.int p1), .unset, .unset, .unset] [(.int (2147483647 : Int32)), (.int p1)])) _
    refine XS.iand X0.here hx rfl (hb hby at_3) rfl ?_
    show Steps p.tables e below (s₁.setTop (mkF m 4 #[.val (.int p1), .unset, .unset, .unset] [(.int (p1 &&& (2147483647 : Int32)))])) _
    refine XS.bipush X0.here hx rfl (hb hby at_4) ?_
    show Steps p.tables e below (s₁.setTop (mkF m 6 #[.val (.int p1), .unset, .unset, .unset] [(.int (12 : Int32)), (.int (p1 &&& (2147483647 : Int32)))])) _
    refine iremM X0 hx rfl (hb hby at_6) rfl (by decide) ?_
    show Steps p.tables e below (s₁.setTop (mkF m 7 #[.val (.int p1), .unset, .unset, .unset] [(.int ((p1 &&& (2147483647 : Int32)) % (12 : Int32)))])) _
    refine XS.istoreN X0.here hx rfl (hb hby at_7) rfl (l' := #[.val (.int p1), .val (.int ((p1 &&& (2147483647 : Int32)) % (12 : Int32))), .unset, .unset]) rfl ?_
    show Steps p.tables e below (s₁.setTop (mkF m 8 #[.val (.int p1), .val (.int ((p1 &&& (2147483647 : Int32)) % (12 : Int32))), .unset, .unset] [])) _
    refine XS.iloadN X0.here hx rfl (hb hby at_8) rfl ?_
    show Steps p.tables e below (s₁.setTop (mkF m 9 #[.val (.int p1), .val (.int ((p1 &&& (2147483647 : Int32)) % (12 : Int32))), .unset, .unset] [(.int ((p1 &&& (2147483647 : Int32)) % (12 : Int32)))])) _
    refine XS.ifYes X0.here hx rfl (pc0 := 9) (pc' := 21) rfl (hb hby at_9) rfl ((if0 _ _).trans (feq hc9).2) (by decide) (by decide) ?_
    show Steps p.tables e below (s₁.setTop (mkF m 21 #[.val (.int p1), .val (.int ((p1 &&& (2147483647 : Int32)) % (12 : Int32))), .unset, .unset] [])) _
    refine XS.iloadN X0.here hx rfl (hb hby at_21) rfl ?_
    show Steps p.tables e below (s₁.setTop (mkF m 22 #[.val (.int p1), .val (.int ((p1 &&& (2147483647 : Int32)) % (12 : Int32))), .unset, .unset] [(.int ((p1 &&& (2147483647 : Int32)) % (12 : Int32)))])) _
    refine XS.iconst X0.here hx rfl (hb hby at_22) ?_
    show Steps p.tables e below (s₁.setTop (mkF m 23 #[.val (.int p1), .val (.int ((p1 &&& (2147483647 : Int32)) % (12 : Int32))), .unset, .unset] [(.int (1 : Int32)), (.int ((p1 &&& (2147483647 : Int32)) % (12 : Int32)))])) _
    refine XS.icmpYes X0.here hx rfl (pc0 := 23) (pc' := 35) rfl (hb hby at_23) rfl (feq hc23).2 (by decide) (by decide) ?_
    show Steps p.tables e below (s₁.setTop (mkF m 35 #[.val (.int p1), .val (.int ((p1 &&& (2147483647 : Int32)) % (12 : Int32))), .unset, .unset] [])) _
    refine XS.iloadN X0.here hx rfl (hb hby at_35) rfl ?_
    show Steps p.tables e below (s₁.setTop (mkF m 36 #[.val (.int p1), .val (.int ((p1 &&& (2147483647 : Int32)) % (12 : Int32))), .unset, .unset] [(.int ((p1 &&& (2147483647 : Int32)) % (12 : Int32)))])) _
    refine XS.iconst X0.here hx rfl (hb hby at_36) ?_
    show Steps p.tables e below (s₁.setTop (mkF m 37 #[.val (.int p1), .val (.int ((p1 &&& (2147483647 : Int32)) % (12 : Int32))), .unset, .unset] [(.int (2 : Int32)), (.int ((p1 &&& (2147483647 : Int32)) % (12 : Int32)))])) _
    refine XS.icmpYes X0.here hx rfl (pc0 := 37) (pc' := 49) rfl (hb hby at_37) rfl (feq hc37).2 (by decide) (by decide) ?_
    show Steps p.tables e below (s₁.setTop (mkF m 49 #[.val (.int p1), .val (.int ((p1 &&& (2147483647 : Int32)) % (12 : Int32))), .unset, .unset] [])) _
    refine XS.iloadN X0.here hx rfl (hb hby at_49) rfl ?_
    show Steps p.tables e below (s₁.setTop (mkF m 50 #[.val (.int p1), .val (.int ((p1 &&& (2147483647 : Int32)) % (12 : Int32))), .unset, .unset] [(.int ((p1 &&& (2147483647 : Int32)) % (12 : Int32)))])) _
    refine XS.iconst X0.here hx rfl (hb hby at_50) ?_
    show Steps p.tables e below (s₁.setTop (mkF m 51 #[.val (.int p1), .val (.int ((p1 &&& (2147483647 : Int32)) % (12 : Int32))), .unset, .unset] [(.int (3 : Int32)), (.int ((p1 &&& (2147483647 : Int32)) % (12 : Int32)))])) _
    refine XS.icmpYes X0.here hx rfl (pc0 := 51) (pc' := 63) rfl (hb hby at_51) rfl (feq hc51).2 (by decide) (by decide) ?_
    show Steps p.tables e below (s₁.setTop (mkF m 63 #[.val (.int p1), .val (.int ((p1 &&& (2147483647 : Int32)) % (12 : Int32))), .unset, .unset] [])) _
    refine XS.iloadN X0.here hx rfl (hb hby at_63) rfl ?_
    show Steps p.tables e below (s₁.setTop (mkF m 64 #[.val (.int p1), .val (.int ((p1 &&& (2147483647 : Int32)) % (12 : Int32))), .unset, .unset] [(.int ((p1 &&& (2147483647 : Int32)) % (12 : Int32)))])) _
    refine XS.iconst X0.here hx rfl (hb hby at_64) ?_
    show Steps p.tables e below (s₁.setTop (mkF m 65 #[.val (.int p1), .val (.int ((p1 &&& (2147483647 : Int32)) % (12 : Int32))), .unset, .unset] [(.int (4 : Int32)), (.int ((p1 &&& (2147483647 : Int32)) % (12 : Int32)))])) _
    refine XS.icmpYes X0.here hx rfl (pc0 := 65) (pc' := 77) rfl (hb hby at_65) rfl (feq hc65).2 (by decide) (by decide) ?_
    show Steps p.tables e below (s₁.setTop (mkF m 77 #[.val (.int p1), .val (.int ((p1 &&& (2147483647 : Int32)) % (12 : Int32))), .unset, .unset] [])) _
    refine XS.iloadN X0.here hx rfl (hb hby at_77) rfl ?_
    show Steps p.tables e below (s₁.setTop (mkF m 78 #[.val (.int p1), .val (.int ((p1 &&& (2147483647 : Int32)) % (12 : Int32))), .unset, .unset] [(.int ((p1 &&& (2147483647 : Int32)) % (12 : Int32)))])) _
    refine XS.iconst X0.here hx rfl (hb hby at_78) ?_
    show Steps p.tables e below (s₁.setTop (mkF m 79 #[.val (.int p1), .val (.int ((p1 &&& (2147483647 : Int32)) % (12 : Int32))), .unset, .unset] [(.int (5 : Int32)), (.int ((p1 &&& (2147483647 : Int32)) % (12 : Int32)))])) _
    refine XS.icmpYes X0.here hx rfl (pc0 := 79) (pc' := 91) rfl (hb hby at_79) rfl (feq hc79).2 (by decide) (by decide) ?_
    show Steps p.tables e below (s₁.setTop (mkF m 91 #[.val (.int p1), .val (.int ((p1 &&& (2147483647 : Int32)) % (12 : Int32))), .unset, .unset] [])) _
    refine XS.iloadN X0.here hx rfl (hb hby at_91) rfl ?_
    show Steps p.tables e below (s₁.setTop (mkF m 92 #[.val (.int p1), .val (.int ((p1 &&& (2147483647 : Int32)) % (12 : Int32))), .unset, .unset] [(.int ((p1 &&& (2147483647 : Int32)) % (12 : Int32)))])) _
    refine XS.bipush X0.here hx rfl (hb hby at_92) ?_
    show Steps p.tables e below (s₁.setTop (mkF m 94 #[.val (.int p1), .val (.int ((p1 &&& (2147483647 : Int32)) % (12 : Int32))), .unset, .unset] [(.int (6 : Int32)), (.int ((p1 &&& (2147483647 : Int32)) % (12 : Int32)))])) _
    refine XS.icmpYes X0.here hx rfl (pc0 := 94) (pc' := 106) rfl (hb hby at_94) rfl (feq hc94).2 (by decide) (by decide) ?_
    show Steps p.tables e below (s₁.setTop (mkF m 106 #[.val (.int p1), .val (.int ((p1 &&& (2147483647 : Int32)) % (12 : Int32))), .unset, .unset] [])) _
    refine XS.iloadN X0.here hx rfl (hb hby at_106) rfl ?_
    show Steps p.tables e below (s₁.setTop (mkF m 107 #[.val (.int p1), .val (.int ((p1 &&& (2147483647 : Int32)) % (12 : Int32))), .unset, .unset] [(.int ((p1 &&& (2147483647 : Int32)) % (12 : Int32)))])) _
    refine XS.bipush X0.here hx rfl (hb hby at_107) ?_
    show Steps p.tables e below (s₁.setTop (mkF m 109 #[.val (.int p1), .val (.int ((p1 &&& (2147483647 : Int32)) % (12 : Int32))), .unset, .unset] [(.int (7 : Int32)), (.int ((p1 &&& (2147483647 : Int32)) % (12 : Int32)))])) _
    refine XS.icmpYes X0.here hx rfl (pc0 := 109) (pc' := 121) rfl (hb hby at_109) rfl (feq hc109).2 (by decide) (by decide) ?_
    show Steps p.tables e below (s₁.setTop (mkF m 121 #[.val (.int p1), .val (.int ((p1 &&& (2147483647 : Int32)) % (12 : Int32))), .unset, .unset] [])) _
    refine XS.iloadN X0.here hx rfl (hb hby at_121) rfl ?_
    show Steps p.tables e below (s₁.setTop (mkF m 122 #[.val (.int p1), .val (.int ((p1 &&& (2147483647 : Int32)) % (12 : Int32))), .unset, .unset] [(.int ((p1 &&& (2147483647 : Int32)) % (12 : Int32)))])) _
    refine XS.bipush X0.here hx rfl (hb hby at_122) ?_
    show Steps p.tables e below (s₁.setTop (mkF m 124 #[.val (.int p1), .val (.int ((p1 &&& (2147483647 : Int32)) % (12 : Int32))), .unset, .unset] [(.int (8 : Int32)), (.int ((p1 &&& (2147483647 : Int32)) % (12 : Int32)))])) _
    refine XS.icmpYes X0.here hx rfl (pc0 := 124) (pc' := 136) rfl (hb hby at_124) rfl (feq hc124).2 (by decide) (by decide) ?_
    show Steps p.tables e below (s₁.setTop (mkF m 136 #[.val (.int p1), .val (.int ((p1 &&& (2147483647 : Int32)) % (12 : Int32))), .unset, .unset] [])) _
    refine XS.iloadN X0.here hx rfl (hb hby at_136) rfl ?_
    show Steps p.tables e below (s₁.setTop (mkF m 137 #[.val (.int p1), .val (.int ((p1 &&& (2147483647 : Int32)) % (12 : Int32))), .unset, .unset] [(.int ((p1 &&& (2147483647 : Int32)) % (12 : Int32)))])) _
    refine XS.bipush X0.here hx rfl (hb hby at_137) ?_
    show Steps p.tables e below (s₁.setTop (mkF m 139 #[.val (.int p1), .val (.int ((p1 &&& (2147483647 : Int32)) % (12 : Int32))), .unset, .unset] [(.int (9 : Int32)), (.int ((p1 &&& (2147483647 : Int32)) % (12 : Int32)))])) _
    refine XS.icmpYes X0.here hx rfl (pc0 := 139) (pc' := 151) rfl (hb hby at_139) rfl (feq hc139).2 (by decide) (by decide) ?_
    show Steps p.tables e below (s₁.setTop (mkF m 151 #[.val (.int p1), .val (.int ((p1 &&& (2147483647 : Int32)) % (12 : Int32))), .unset, .unset] [])) _
    refine XS.iloadN X0.here hx rfl (hb hby at_151) rfl ?_
    show Steps p.tables e below (s₁.setTop (mkF m 152 #[.val (.int p1), .val (.int ((p1 &&& (2147483647 : Int32)) % (12 : Int32))), .unset, .unset] [(.int ((p1 &&& (2147483647 : Int32)) % (12 : Int32)))])) _
    refine XS.bipush X0.here hx rfl (hb hby at_152) ?_
    show Steps p.tables e below (s₁.setTop (mkF m 154 #[.val (.int p1), .val (.int ((p1 &&& (2147483647 : Int32)) % (12 : Int32))), .unset, .unset] [(.int (10 : Int32)), (.int ((p1 &&& (2147483647 : Int32)) % (12 : Int32)))])) _
    refine XS.icmpYes X0.here hx rfl (pc0 := 154) (pc' := 166) rfl (hb hby at_154) rfl (feq hc154).2 (by decide) (by decide) ?_
    show Steps p.tables e below (s₁.setTop (mkF m 166 #[.val (.int p1), .val (.int ((p1 &&& (2147483647 : Int32)) % (12 : Int32))), .unset, .unset] [])) _
    refine st2 _ ?_
    show Steps p.tables e below (T2.setTop (mkF m 169 #[.val (.int p1), .val (.int ((p1 &&& (2147483647 : Int32)) % (12 : Int32))), .unset, .unset] [(.ref w_OCCURRENCE)])) _
    refine XS.astoreN X2.here hx rfl (hb hby at_169) rfl rfl (l' := #[.val (.int p1), .val (.int ((p1 &&& (2147483647 : Int32)) % (12 : Int32))), .val (.ref w_OCCURRENCE), .unset]) rfl ?_
    show Steps p.tables e below (T2.setTop (mkF m 170 #[.val (.int p1), .val (.int ((p1 &&& (2147483647 : Int32)) % (12 : Int32))), .val (.ref w_OCCURRENCE), .unset] [])) _
    refine XS.iconst X2.here hx rfl (hb hby at_170) ?_
    show Steps p.tables e below (T2.setTop (mkF m 171 #[.val (.int p1), .val (.int ((p1 &&& (2147483647 : Int32)) % (12 : Int32))), .val (.ref w_OCCURRENCE), .unset] [(.int (0 : Int32))])) _
    refine XS.istoreN X2.here hx rfl (hb hby at_171) rfl (l' := #[.val (.int p1), .val (.int ((p1 &&& (2147483647 : Int32)) % (12 : Int32))), .val (.ref w_OCCURRENCE), .val (.int (0 : Int32))]) rfl ?_
    show Steps p.tables e below (T2.setTop (mkF m 172 #[.val (.int p1), .val (.int ((p1 &&& (2147483647 : Int32)) % (12 : Int32))), .val (.ref w_OCCURRENCE), .val (.int (0 : Int32))] [])) _
    refine XS.aloadN X2.here hx rfl (hb hby at_172) rfl rfl ?_
    show Steps p.tables e below (T2.setTop (mkF m 173 #[.val (.int p1), .val (.int ((p1 &&& (2147483647 : Int32)) % (12 : Int32))), .val (.ref w_OCCURRENCE), .val (.int (0 : Int32))] [(.ref w_OCCURRENCE)])) _
    refine st3.trans ?_
    show Steps p.tables e below (T3.setTop (mkF m 176 #[.val (.int p1), .val (.int ((p1 &&& (2147483647 : Int32)) % (12 : Int32))), .val (.ref w_OCCURRENCE), .val (.int (0 : Int32))] [(.int r3)])) _
    refine XS.iloadN X3.here hx rfl (hb hby at_176) rfl ?_
    show Steps p.tables e below (T3.setTop (mkF m 177 #[.val (.int p1), .val (.int ((p1 &&& (2147483647 : Int32)) % (12 : Int32))), .val (.ref w_OCCURRENCE), .val (.int (0 : Int32))] [(.int (0 : Int32)), (.int r3)])) _
    refine XS.icmpNo X3.here hx rfl (hb hby at_177) rfl (teq hc177).2 ?_
    show Steps p.tables e below (T3.setTop (mkF m 180 #[.val (.int p1), .val (.int ((p1 &&& (2147483647 : Int32)) % (12 : Int32))), .val (.ref w_OCCURRENCE), .val (.int (0 : Int32))] [])) _
    refine XS.iconst X3.here hx rfl (hb hby at_180) ?_
    show Steps p.tables e below (T3.setTop (mkF m 181 #[.val (.int p1), .val (.int ((p1 &&& (2147483647 : Int32)) % (12 : Int32))), .val (.ref w_OCCURRENCE), .val (.int (0 : Int32))] [(.int (1 : Int32))])) _
    refine XS.goto X3.here hx rfl (pc0 := 181) (pc' := 185) rfl (hb hby at_181) (by decide) (by decide) ?_
    show Steps p.tables e below (T3.setTop (mkF m 185 #[.val (.int p1), .val (.int ((p1 &&& (2147483647 : Int32)) % (12 : Int32))), .val (.ref w_OCCURRENCE), .val (.int (0 : Int32))] [(.int (1 : Int32))])) _
    exact retN X3 hx (t := .boolean) Bd.returns (by simp) (hb hby at_185) hr
  · show Q0 n0 _ T3.heap _
    rw [e3]
    exact ⟨rfl, N3⟩
theorem rm0 (l : Launch) (Z : State) (a0 : Array Value) (hw : ∀ d ∈ tables_1, d.before a0 Z = true) (ws : List Jvm.Cond) (p1 : Int32) (w_ATTACKER_NAME w_CONSTANT w_CONSTRUCTOR w_CONVERTER w_DATA w_DESTRUCTOR w_EVENT w_FREE_NAME w_FRESH_NAME w_OCCURRENCE w_TABLE w_TUPLE : Addr) (h0 : Heap) (n0 : Nat) (Z0 : n0 ≤ h0.size) (S_ATTACKER_NAME : Sta Z h0 "com/example/applied_pi_checker/appliedpichecker/FunctionSymbol$Kind" "ATTACKER_NAME" "Lcom/example/applied_pi_checker/appliedpichecker/FunctionSymbol$Kind;" (.ref w_ATTACKER_NAME)) (S_CONSTANT : Sta Z h0 "com/example/applied_pi_checker/appliedpichecker/FunctionSymbol$Kind" "CONSTANT" "Lcom/example/applied_pi_checker/appliedpichecker/FunctionSymbol$Kind;" (.ref w_CONSTANT)) (S_CONSTRUCTOR : Sta Z h0 "com/example/applied_pi_checker/appliedpichecker/FunctionSymbol$Kind" "CONSTRUCTOR" "Lcom/example/applied_pi_checker/appliedpichecker/FunctionSymbol$Kind;" (.ref w_CONSTRUCTOR)) (S_CONVERTER : Sta Z h0 "com/example/applied_pi_checker/appliedpichecker/FunctionSymbol$Kind" "CONVERTER" "Lcom/example/applied_pi_checker/appliedpichecker/FunctionSymbol$Kind;" (.ref w_CONVERTER)) (S_DATA : Sta Z h0 "com/example/applied_pi_checker/appliedpichecker/FunctionSymbol$Kind" "DATA" "Lcom/example/applied_pi_checker/appliedpichecker/FunctionSymbol$Kind;" (.ref w_DATA)) (S_DESTRUCTOR : Sta Z h0 "com/example/applied_pi_checker/appliedpichecker/FunctionSymbol$Kind" "DESTRUCTOR" "Lcom/example/applied_pi_checker/appliedpichecker/FunctionSymbol$Kind;" (.ref w_DESTRUCTOR)) (S_EVENT : Sta Z h0 "com/example/applied_pi_checker/appliedpichecker/FunctionSymbol$Kind" "EVENT" "Lcom/example/applied_pi_checker/appliedpichecker/FunctionSymbol$Kind;" (.ref w_EVENT)) (S_FREE_NAME : Sta Z h0 "com/example/applied_pi_checker/appliedpichecker/FunctionSymbol$Kind" "FREE_NAME" "Lcom/example/applied_pi_checker/appliedpichecker/FunctionSymbol$Kind;" (.ref w_FREE_NAME)) (S_FRESH_NAME : Sta Z h0 "com/example/applied_pi_checker/appliedpichecker/FunctionSymbol$Kind" "FRESH_NAME" "Lcom/example/applied_pi_checker/appliedpichecker/FunctionSymbol$Kind;" (.ref w_FRESH_NAME)) (S_OCCURRENCE : Sta Z h0 "com/example/applied_pi_checker/appliedpichecker/FunctionSymbol$Kind" "OCCURRENCE" "Lcom/example/applied_pi_checker/appliedpichecker/FunctionSymbol$Kind;" (.ref w_OCCURRENCE)) (S_TABLE : Sta Z h0 "com/example/applied_pi_checker/appliedpichecker/FunctionSymbol$Kind" "TABLE" "Lcom/example/applied_pi_checker/appliedpichecker/FunctionSymbol$Kind;" (.ref w_TABLE)) (S_TUPLE : Sta Z h0 "com/example/applied_pi_checker/appliedpichecker/FunctionSymbol$Kind" "TUPLE" "Lcom/example/applied_pi_checker/appliedpichecker/FunctionSymbol$Kind;" (.ref w_TUPLE)) (E_ATTACKER_NAME : Exa Z h0 w_ATTACKER_NAME "com/example/applied_pi_checker/appliedpichecker/FunctionSymbol$Kind") (E_CONSTANT : Exa Z h0 w_CONSTANT "com/example/applied_pi_checker/appliedpichecker/FunctionSymbol$Kind") (E_CONSTRUCTOR : Exa Z h0 w_CONSTRUCTOR "com/example/applied_pi_checker/appliedpichecker/FunctionSymbol$Kind") (E_CONVERTER : Exa Z h0 w_CONVERTER "com/example/applied_pi_checker/appliedpichecker/FunctionSymbol$Kind") (E_DATA : Exa Z h0 w_DATA "com/example/applied_pi_checker/appliedpichecker/FunctionSymbol$Kind") (E_DESTRUCTOR : Exa Z h0 w_DESTRUCTOR "com/example/applied_pi_checker/appliedpichecker/FunctionSymbol$Kind") (E_EVENT : Exa Z h0 w_EVENT "com/example/applied_pi_checker/appliedpichecker/FunctionSymbol$Kind") (E_FREE_NAME : Exa Z h0 w_FREE_NAME "com/example/applied_pi_checker/appliedpichecker/FunctionSymbol$Kind") (E_FRESH_NAME : Exa Z h0 w_FRESH_NAME "com/example/applied_pi_checker/appliedpichecker/FunctionSymbol$Kind") (E_OCCURRENCE : Exa Z h0 w_OCCURRENCE "com/example/applied_pi_checker/appliedpichecker/FunctionSymbol$Kind") (E_TABLE : Exa Z h0 w_TABLE "com/example/applied_pi_checker/appliedpichecker/FunctionSymbol$Kind") (E_TUPLE : Exa Z h0 w_TUPLE "com/example/applied_pi_checker/appliedpichecker/FunctionSymbol$Kind") (d_ATTACKER_NAME_DATA : ¬ w_ATTACKER_NAME = w_DATA) (d_ATTACKER_NAME_TUPLE : ¬ w_ATTACKER_NAME = w_TUPLE) (d_CONSTANT_DATA : ¬ w_CONSTANT = w_DATA) (d_CONSTANT_TUPLE : ¬ w_CONSTANT = w_TUPLE) (d_CONSTRUCTOR_DATA : ¬ w_CONSTRUCTOR = w_DATA) (d_CONSTRUCTOR_TUPLE : ¬ w_CONSTRUCTOR = w_TUPLE) (d_CONVERTER_DATA : ¬ w_CONVERTER = w_DATA) (d_CONVERTER_TUPLE : ¬ w_CONVERTER = w_TUPLE) (d_DESTRUCTOR_DATA : ¬ w_DESTRUCTOR = w_DATA) (d_DESTRUCTOR_TUPLE : ¬ w_DESTRUCTOR = w_TUPLE) (d_EVENT_DATA : ¬ w_EVENT = w_DATA) (d_EVENT_TUPLE : ¬ w_EVENT = w_TUPLE) (d_FREE_NAME_DATA : ¬ w_FREE_NAME = w_DATA) (d_FREE_NAME_TUPLE : ¬ w_FREE_NAME = w_TUPLE) (d_FRESH_NAME_DATA : ¬ w_FRESH_NAME = w_DATA) (d_FRESH_NAME_TUPLE : ¬ w_FRESH_NAME = w_TUPLE) (d_OCCURRENCE_DATA : ¬ w_OCCURRENCE = w_DATA) (d_OCCURRENCE_TUPLE : ¬ w_OCCURRENCE = w_TUPLE) (d_TABLE_DATA : ¬ w_TABLE = w_DATA) (d_TABLE_TUPLE : ¬ w_TABLE = w_TUPLE) (d_TUPLE_DATA : ¬ w_TUPLE = w_DATA) :
    MetFree l x (head1 (Jvm.Cond.code x code maxLocals ret :: ws) room_1) (fun a U => a = #[(.int p1)] ∧ Z.Warmed39 U.vm ∧ U.heap = h0) (fun _ _ _ _ _ => True) (fun _ U o U' => ∃ v L, o = .returned v ∧ Q0 n0 v U'.heap L ∧ FrameEnd U o U' L room_1.cells room_1.slots) := by
  by_cases hc9 : ((p1 &&& (2147483647 : Int32)) % (12 : Int32)) = (0 : Int32)
  · exact rm0_c0 l Z a0 hw ws p1 w_FREE_NAME w_DATA w_TUPLE (0 : Int32) h0 n0 Z0 S_FREE_NAME S_DATA S_TUPLE (Or.inr (Or.inr ⟨d_FREE_NAME_DATA, d_FREE_NAME_TUPLE, rfl⟩)) E_FREE_NAME hc9 rfl
  by_cases hc23 : ((p1 &&& (2147483647 : Int32)) % (12 : Int32)) = (1 : Int32)
  · exact rm0_c1 l Z a0 hw ws p1 w_FRESH_NAME w_DATA w_TUPLE (0 : Int32) h0 n0 Z0 S_FRESH_NAME S_DATA S_TUPLE (Or.inr (Or.inr ⟨d_FRESH_NAME_DATA, d_FRESH_NAME_TUPLE, rfl⟩)) E_FRESH_NAME hc9 hc23 rfl
  by_cases hc37 : ((p1 &&& (2147483647 : Int32)) % (12 : Int32)) = (2 : Int32)
  · exact rm0_c2 l Z a0 hw ws p1 w_ATTACKER_NAME w_DATA w_TUPLE (0 : Int32) h0 n0 Z0 S_ATTACKER_NAME S_DATA S_TUPLE (Or.inr (Or.inr ⟨d_ATTACKER_NAME_DATA, d_ATTACKER_NAME_TUPLE, rfl⟩)) E_ATTACKER_NAME hc9 hc23 hc37 rfl
  by_cases hc51 : ((p1 &&& (2147483647 : Int32)) % (12 : Int32)) = (3 : Int32)
  · exact rm0_c3 l Z a0 hw ws p1 w_CONSTANT w_DATA w_TUPLE (0 : Int32) h0 n0 Z0 S_CONSTANT S_DATA S_TUPLE (Or.inr (Or.inr ⟨d_CONSTANT_DATA, d_CONSTANT_TUPLE, rfl⟩)) E_CONSTANT hc9 hc23 hc37 hc51 rfl
  by_cases hc65 : ((p1 &&& (2147483647 : Int32)) % (12 : Int32)) = (4 : Int32)
  · exact rm0_c4 l Z a0 hw ws p1 w_CONSTRUCTOR w_DATA w_TUPLE (0 : Int32) h0 n0 Z0 S_CONSTRUCTOR S_DATA S_TUPLE (Or.inr (Or.inr ⟨d_CONSTRUCTOR_DATA, d_CONSTRUCTOR_TUPLE, rfl⟩)) E_CONSTRUCTOR hc9 hc23 hc37 hc51 hc65 rfl
  by_cases hc79 : ((p1 &&& (2147483647 : Int32)) % (12 : Int32)) = (5 : Int32)
  · exact rm0_c5 l Z a0 hw ws p1 w_DATA w_TUPLE (1 : Int32) h0 n0 Z0 S_DATA S_TUPLE (Or.inl ⟨rfl, rfl⟩) E_DATA hc9 hc23 hc37 hc51 hc65 hc79 rfl
  by_cases hc94 : ((p1 &&& (2147483647 : Int32)) % (12 : Int32)) = (6 : Int32)
  · exact rm0_c6 l Z a0 hw ws p1 w_CONVERTER w_DATA w_TUPLE (0 : Int32) h0 n0 Z0 S_CONVERTER S_DATA S_TUPLE (Or.inr (Or.inr ⟨d_CONVERTER_DATA, d_CONVERTER_TUPLE, rfl⟩)) E_CONVERTER hc9 hc23 hc37 hc51 hc65 hc79 hc94 rfl
  by_cases hc109 : ((p1 &&& (2147483647 : Int32)) % (12 : Int32)) = (7 : Int32)
  · exact rm0_c7 l Z a0 hw ws p1 w_TUPLE w_DATA (1 : Int32) h0 n0 Z0 S_TUPLE S_DATA (Or.inr (Or.inl ⟨d_TUPLE_DATA, rfl, rfl⟩)) E_TUPLE hc9 hc23 hc37 hc51 hc65 hc79 hc94 hc109 rfl
  by_cases hc124 : ((p1 &&& (2147483647 : Int32)) % (12 : Int32)) = (8 : Int32)
  · exact rm0_c8 l Z a0 hw ws p1 w_DESTRUCTOR w_DATA w_TUPLE (0 : Int32) h0 n0 Z0 S_DESTRUCTOR S_DATA S_TUPLE (Or.inr (Or.inr ⟨d_DESTRUCTOR_DATA, d_DESTRUCTOR_TUPLE, rfl⟩)) E_DESTRUCTOR hc9 hc23 hc37 hc51 hc65 hc79 hc94 hc109 hc124 rfl
  by_cases hc139 : ((p1 &&& (2147483647 : Int32)) % (12 : Int32)) = (9 : Int32)
  · exact rm0_c9 l Z a0 hw ws p1 w_EVENT w_DATA w_TUPLE (0 : Int32) h0 n0 Z0 S_EVENT S_DATA S_TUPLE (Or.inr (Or.inr ⟨d_EVENT_DATA, d_EVENT_TUPLE, rfl⟩)) E_EVENT hc9 hc23 hc37 hc51 hc65 hc79 hc94 hc109 hc124 hc139 rfl
  by_cases hc154 : ((p1 &&& (2147483647 : Int32)) % (12 : Int32)) = (10 : Int32)
  · exact rm0_c10 l Z a0 hw ws p1 w_TABLE w_DATA w_TUPLE (0 : Int32) h0 n0 Z0 S_TABLE S_DATA S_TUPLE (Or.inr (Or.inr ⟨d_TABLE_DATA, d_TABLE_TUPLE, rfl⟩)) E_TABLE hc9 hc23 hc37 hc51 hc65 hc79 hc94 hc109 hc124 hc139 hc154 rfl
  exact rm0_c11 l Z a0 hw ws p1 w_OCCURRENCE w_DATA w_TUPLE (0 : Int32) h0 n0 Z0 S_OCCURRENCE S_DATA S_TUPLE (Or.inr (Or.inr ⟨d_OCCURRENCE_DATA, d_OCCURRENCE_TUPLE, rfl⟩)) E_OCCURRENCE hc9 hc23 hc37 hc51 hc65 hc79 hc94 hc109 hc124 hc139 hc154 rfl
set_option maxRecDepth 65536 in
set_option maxHeartbeats 40000000 in
theorem comes_1 {Post : Tables → Env → Array Value → State → Outcome → State → Prop} (hpost : ∀ tb e args s v u, (limb_1_1.after args s (.returned v) u = true ∧ limb_1_2.after args s (.returned v) u = true ∧ True) → FrameEnd s (.returned v) u (Jvm.fieldLocs frame_1_writes args s ++ Jvm.arrayLocs frame_1_arrays args s ++ Jvm.staticLocs frame_1_statics s) 0 0 → Post tb e args s (.returned v) u) :
    ArmFor flags0 classFile x code maxLocals ret World_1 tables_1 room_1 Calls_1 rest_1 Pre_1 Post := by
  intro l hfl _ _ p e ha hc hk s m args below hf hA hF happ hP
  obtain ⟨hcalls, hrest, hpre⟩ := hP
  obtain ⟨-, -, -, hnamed, -, -, -, hat⟩ := (Spec.applies_iff hf).mp happ
  obtain ⟨hg, hn⟩ := and_e (Cond.before_iff.mp (show (Jvm.Cond.and given_1 narrow_1).before args s = true from hpre))
  obtain ⟨g4, g5⟩ := and_e hg
  obtain ⟨w0, rfl⟩ : ∃ w0 : Value, args = #[w0] := by
    have hs : args.size = 1 := by simpa [Cond.value, given_1] using g4
    obtain ⟨L⟩ := args
    match L, hs with
    | [w0], _ => exact ⟨w0, rfl⟩
  have hw := fun d (hd : d ∈ tables_1) => atoms_spec (ws := Jvm.Cond.code x code maxLocals ret :: tables_1) hat d (List.mem_cons_of_mem _ hd)
  have hfit : Fit s := fun {y c} hc i hi => by
    obtain ⟨ha, rfl⟩ := Array.getElem?_eq_some_iff.mp hc
    have q := List.all_eq_true.mp ((Array.all_eq_true_iff_forall_mem.mp hF) _ (Array.getElem_mem ha)) i (List.mem_range.mpr hi)
    simpa [Array.getElem?_eq_getElem hi] using q
  obtain ⟨i0, ei0⟩ := is_v g5
  obtain rfl : w0 = (.int i0) := Option.some.inj ei0
  obtain ⟨nw0, hn⟩ := and_e hn
  obtain ⟨nw1, hn⟩ := and_e hn
  obtain ⟨nw2, hn⟩ := and_e hn
  obtain ⟨nw3, hn⟩ := and_e hn
  obtain ⟨nw4, hn⟩ := and_e hn
  obtain ⟨nw5, hn⟩ := and_e hn
  obtain ⟨nw6, hn⟩ := and_e hn
  obtain ⟨nw7, hn⟩ := and_e hn
  obtain ⟨nw8, hn⟩ := and_e hn
  obtain ⟨nw9, hn⟩ := and_e hn
  obtain ⟨nw10, hn⟩ := and_e hn
  obtain ⟨nw11, hn⟩ := and_e hn
  obtain ⟨nw12, hn⟩ := and_e hn
  obtain ⟨nw13, hn⟩ := and_e hn
  obtain ⟨nw14, hn⟩ := and_e hn
  obtain ⟨nw15, hn⟩ := and_e hn
  obtain ⟨nw16, hn⟩ := and_e hn
  obtain ⟨nw17, hn⟩ := and_e hn
  obtain ⟨nw18, hn⟩ := and_e hn
  obtain ⟨nw19, hn⟩ := and_e hn
  obtain ⟨nw20, hn⟩ := and_e hn
  obtain ⟨nw21, hn⟩ := and_e hn
  obtain ⟨nw22, hn⟩ := and_e hn
  have nw23 := hn
  obtain ⟨w_FREE_NAME, v_FREE_NAME⟩ := exa_v nw0
  have S_FREE_NAME := Sta.start v_FREE_NAME (Or.inr ⟨(hw _ (List.mem_of_getElem? (i := 2) rfl)), (hw _ (List.mem_of_getElem? (i := 3) rfl))⟩)
  have E_FREE_NAME := Exa.start v_FREE_NAME nw0
  obtain ⟨w_DATA, v_DATA⟩ := exa_v nw1
  have S_DATA := Sta.start v_DATA (Or.inr ⟨(hw _ (List.mem_of_getElem? (i := 2) rfl)), (hw _ (List.mem_of_getElem? (i := 10) rfl))⟩)
  have E_DATA := Exa.start v_DATA nw1
  obtain ⟨w_TUPLE, v_TUPLE⟩ := exa_v nw4
  have S_TUPLE := Sta.start v_TUPLE (Or.inr ⟨(hw _ (List.mem_of_getElem? (i := 2) rfl)), (hw _ (List.mem_of_getElem? (i := 12) rfl))⟩)
  have E_TUPLE := Exa.start v_TUPLE nw4
  obtain ⟨w_CONSTANT, v_CONSTANT⟩ := exa_v nw6
  have S_CONSTANT := Sta.start v_CONSTANT (Or.inr ⟨(hw _ (List.mem_of_getElem? (i := 2) rfl)), (hw _ (List.mem_of_getElem? (i := 14) rfl))⟩)
  have E_CONSTANT := Exa.start v_CONSTANT nw6
  obtain ⟨w_ATTACKER_NAME, v_ATTACKER_NAME⟩ := exa_v nw8
  have S_ATTACKER_NAME := Sta.start v_ATTACKER_NAME (Or.inr ⟨(hw _ (List.mem_of_getElem? (i := 2) rfl)), (hw _ (List.mem_of_getElem? (i := 16) rfl))⟩)
  have E_ATTACKER_NAME := Exa.start v_ATTACKER_NAME nw8
  obtain ⟨w_OCCURRENCE, v_OCCURRENCE⟩ := exa_v nw10
  have S_OCCURRENCE := Sta.start v_OCCURRENCE (Or.inr ⟨(hw _ (List.mem_of_getElem? (i := 2) rfl)), (hw _ (List.mem_of_getElem? (i := 19) rfl))⟩)
  have E_OCCURRENCE := Exa.start v_OCCURRENCE nw10
  obtain ⟨w_CONSTRUCTOR, v_CONSTRUCTOR⟩ := exa_v nw12
  have S_CONSTRUCTOR := Sta.start v_CONSTRUCTOR (Or.inr ⟨(hw _ (List.mem_of_getElem? (i := 2) rfl)), (hw _ (List.mem_of_getElem? (i := 21) rfl))⟩)
  have E_CONSTRUCTOR := Exa.start v_CONSTRUCTOR nw12
  obtain ⟨w_DESTRUCTOR, v_DESTRUCTOR⟩ := exa_v nw14
  have S_DESTRUCTOR := Sta.start v_DESTRUCTOR (Or.inr ⟨(hw _ (List.mem_of_getElem? (i := 2) rfl)), (hw _ (List.mem_of_getElem? (i := 23) rfl))⟩)
  have E_DESTRUCTOR := Exa.start v_DESTRUCTOR nw14
  obtain ⟨w_FRESH_NAME, v_FRESH_NAME⟩ := exa_v nw16
  have S_FRESH_NAME := Sta.start v_FRESH_NAME (Or.inr ⟨(hw _ (List.mem_of_getElem? (i := 2) rfl)), (hw _ (List.mem_of_getElem? (i := 25) rfl))⟩)
  have E_FRESH_NAME := Exa.start v_FRESH_NAME nw16
  obtain ⟨w_TABLE, v_TABLE⟩ := exa_v nw18
  have S_TABLE := Sta.start v_TABLE (Or.inr ⟨(hw _ (List.mem_of_getElem? (i := 2) rfl)), (hw _ (List.mem_of_getElem? (i := 27) rfl))⟩)
  have E_TABLE := Exa.start v_TABLE nw18
  obtain ⟨w_EVENT, v_EVENT⟩ := exa_v nw20
  have S_EVENT := Sta.start v_EVENT (Or.inr ⟨(hw _ (List.mem_of_getElem? (i := 2) rfl)), (hw _ (List.mem_of_getElem? (i := 29) rfl))⟩)
  have E_EVENT := Exa.start v_EVENT nw20
  obtain ⟨w_CONVERTER, v_CONVERTER⟩ := exa_v nw22
  have S_CONVERTER := Sta.start v_CONVERTER (Or.inr ⟨(hw _ (List.mem_of_getElem? (i := 2) rfl)), (hw _ (List.mem_of_getElem? (i := 31) rfl))⟩)
  have E_CONVERTER := Exa.start v_CONVERTER nw22
  have o_FREE_NAME := own_int v_FREE_NAME nw2
  have o_DATA := own_int v_DATA nw3
  have o_TUPLE := own_int v_TUPLE nw5
  have o_CONSTANT := own_int v_CONSTANT nw7
  have o_ATTACKER_NAME := own_int v_ATTACKER_NAME nw9
  have o_OCCURRENCE := own_int v_OCCURRENCE nw11
  have o_CONSTRUCTOR := own_int v_CONSTRUCTOR nw13
  have o_DESTRUCTOR := own_int v_DESTRUCTOR nw15
  have o_FRESH_NAME := own_int v_FRESH_NAME nw17
  have o_TABLE := own_int v_TABLE nw19
  have o_EVENT := own_int v_EVENT nw21
  have o_CONVERTER := own_int v_CONVERTER nw23
  obtain ⟨n, o, h1, h2, h3, _, L, rfl, ⟨rfl, N⟩, hq⟩ := rm0 l s _ hw tables_1 i0 w_ATTACKER_NAME w_CONSTANT w_CONSTRUCTOR w_CONVERTER w_DATA w_DESTRUCTOR w_EVENT w_FREE_NAME w_FRESH_NAME w_OCCURRENCE w_TABLE w_TUPLE s.heap s.heap.size (Nat.le_refl _) S_ATTACKER_NAME S_CONSTANT S_CONSTRUCTOR S_CONVERTER S_DATA S_DESTRUCTOR S_EVENT S_FREE_NAME S_FRESH_NAME S_OCCURRENCE S_TABLE S_TUPLE E_ATTACKER_NAME E_CONSTANT E_CONSTRUCTOR E_CONVERTER E_DATA E_DESTRUCTOR E_EVENT E_FREE_NAME E_FRESH_NAME E_OCCURRENCE E_TABLE E_TUPLE (own_ne o_ATTACKER_NAME o_DATA (by decide)) (own_ne o_ATTACKER_NAME o_TUPLE (by decide)) (own_ne o_CONSTANT o_DATA (by decide)) (own_ne o_CONSTANT o_TUPLE (by decide)) (own_ne o_CONSTRUCTOR o_DATA (by decide)) (own_ne o_CONSTRUCTOR o_TUPLE (by decide)) (own_ne o_CONVERTER o_DATA (by decide)) (own_ne o_CONVERTER o_TUPLE (by decide)) (own_ne o_DESTRUCTOR o_DATA (by decide)) (own_ne o_DESTRUCTOR o_TUPLE (by decide)) (own_ne o_EVENT o_DATA (by decide)) (own_ne o_EVENT o_TUPLE (by decide)) (own_ne o_FREE_NAME o_DATA (by decide)) (own_ne o_FREE_NAME o_TUPLE (by decide)) (own_ne o_FRESH_NAME o_DATA (by decide)) (own_ne o_FRESH_NAME o_TUPLE (by decide)) (own_ne o_OCCURRENCE o_DATA (by decide)) (own_ne o_OCCURRENCE o_TUPLE (by decide)) (own_ne o_TABLE o_DATA (by decide)) (own_ne o_TABLE o_TUPLE (by decide)) (own_ne o_TUPLE o_DATA (by decide)) p e ha hc hk s m _ below hf ((Spec.applies_iff_loose hf).mp happ).1 ⟨rfl, State.Warmed39.refl s, rfl⟩ trivial
  refine ⟨n, _, h1, h2, h3, hpost _ _ _ _ _ _ ⟨Cond.after_iff.mpr rfl, Cond.after_iff.mpr (eq_i res_at (Term.int_eval (1)) rfl), trivial⟩ ⟨hq.1, hq.2.1, (hq.2.2.sift fun y hy => Or.inr (N y hy)).mono (by decide) (by decide)⟩⟩
theorem main_1_1 : Claimed_1_1 := comes_1 fun _ _ _ _ _ _ h hF => ⟨h.1, hF⟩
theorem main_1_2 : Claimed_1_2 := comes_1 fun _ _ _ _ _ _ h hF => ⟨h.2.1, hF⟩
end Jvm.Pilot.@@N@@
namespace Jvm.Pilot.@@N@@
open Jvm Jvm.ClassFile Sem Op Lib Jvm.Free Jvm.Stand Jvm.Pilot.@@N@@.Jvm.D
/-! MADE BY PROGRAM (witnessworld.py) out of the Statement's table words and the real class files: 10 classes; the members and pool entries that the words name. The judged class is class 1, her method 1. -/
namespace start1
open Jvm.ClassFile
def u (s : String) : CpInfo := .utf8 (stringToUtf16 s)
/-- a pool by its gaps: so many unusable entries, then the entry; so many at the end -/
def gap : Nat → List CpInfo → List CpInfo
  | 0, r => r
  | n + 1, r => .unusable :: gap n r
def poolList (es : List (Nat × CpInfo)) (last : Nat) : List CpInfo := es.foldr (fun e r => gap e.1 (e.2 :: r)) (gap last [])
def pool (es : List (Nat × CpInfo)) (last : Nat) : Array CpInfo := ⟨poolList es last⟩
def fileOf (pool : Array CpInfo) (this : Nat) (attrs : Array Attribute := #[]) (ms : Array MethodInfo := #[]) (fl : Nat := 33) (sup : Nat := 0) (ifs : Array Nat := #[]) (fds : Array FieldInfo := #[]) : ClassFile where
  minorVersion := 0
  majorVersion := 65
  constantPool := pool
  accessFlags := fl
  thisClass := this
  superClass := sup
  interfaces := ifs
  fields := fds
  methods := ms
  attributes := attrs
def plain (name : String) (sup : Option ClassId) : Class where
  name := name
  kind := .ordinary
  loader := none
  accessFlags := 33
  super := sup
  interfaces := #[]
  cf := none
  fields := #[]
  methods := #[]
  instanceTypes := #[]
  staticTypes := #[]
  resolved := #[]
  callSites := []
  init := .initialized
  statics := none
  mirror := none

def pool0 : Array CpInfo := pool [(5, u "<init>"), (0, u "()V"), (1, .class_ 10), (1, u "java/lang/Object")] 113

def k0m0 : Method := { name := "<init>", desc := "()V", sig := { parameters := [], returnType := none }, accessFlags := 1, code := none }
/-- java/lang/Object -/
def k0 : Class := { plain "java/lang/Object" none with
  accessFlags := 33
  interfaces := #[]
  cf := some (fileOf pool0 8 #[] #[{ accessFlags := 1, nameIndex := 5, descriptorIndex := 6, attributes := #[] }] 33 0 #[] #[])
  fields := #[]
  methods := #[k0m0]
  instanceTypes := #[]
  staticTypes := #[]
  resolved := Array.replicate 124 none
  statics := none }

def pool1 : Array CpInfo := pool [(2, .class_ 4), (1, u "java/lang/Object"), (0, u "<init>"), (0, u "()V"), (0, .integer 2147483647), (0, .fieldref 9 10), (0, .class_ 11), (0, .nameAndType 12 13), (0, u "com/example/applied_pi_checker/appliedpichecker/FunctionSymbol$Kind"), (0, u "FREE_NAME"), (0, u "Lcom/example/applied_pi_checker/appliedpichecker/FunctionSymbol$Kind;"), (0, .fieldref 9 15), (0, .nameAndType 16 13), (0, u "FRESH_NAME"), (0, .fieldref 9 18), (0, .nameAndType 19 13), (0, u "ATTACKER_NAME"), (0, .fieldref 9 21), (0, .nameAndType 22 13), (0, u "CONSTANT"), (0, .fieldref 9 24), (0, .nameAndType 25 13), (0, u "CONSTRUCTOR"), (0, .fieldref 9 27), (0, .nameAndType 28 13), (0, u "DATA"), (0, .fieldref 9 30), (0, .nameAndType 31 13), (0, u "CONVERTER"), (0, .fieldref 9 33), (0, .nameAndType 34 13), (0, u "TUPLE"), (0, .fieldref 9 36), (0, .nameAndType 37 13), (0, u "DESTRUCTOR"), (0, .fieldref 9 39), (0, .nameAndType 40 13), (0, u "EVENT"), (0, .fieldref 9 42), (0, .nameAndType 43 13), (0, u "TABLE"), (0, .fieldref 9 45), (0, .nameAndType 46 13), (0, u "OCCURRENCE"), (0, .methodref 9 48), (0, .nameAndType 49 50), (0, u "isData"), (0, u "()Z"), (0, .class_ 52), (0, u "com/example/applied_pi_checker/appliedpichecker/KindIsDataPinLaw"), (2, u "law"), (0, u "(I)Z")] 7

def k1m0 : Method := { name := "<init>", desc := "()V", sig := { parameters := [], returnType := none }, accessFlags := 1, code := none }
def k1c1 : Code := { maxStack := 2, maxLocals := 4, code := code, exceptionTable := #[], attributes := #[] }
def k1m1 : Method := { name := "law", desc := "(I)Z", sig := { parameters := [.int], returnType := some .boolean }, accessFlags := 9, code := some k1c1 }
/-- com/example/applied_pi_checker/appliedpichecker/KindIsDataPinLaw -/
def k1 : Class := { plain "com/example/applied_pi_checker/appliedpichecker/KindIsDataPinLaw" (some 0) with
  accessFlags := 49
  interfaces := #[]
  cf := some (fileOf pool1 51 #[] #[{ accessFlags := 1, nameIndex := 5, descriptorIndex := 6, attributes := #[] }, { accessFlags := 9, nameIndex := 55, descriptorIndex := 56, attributes := #[] }] 49 2 #[] #[])
  fields := #[]
  methods := #[k1m0, k1m1]
  instanceTypes := #[]
  staticTypes := #[]
  resolved := Array.replicate 64 none
  statics := none }

def pool2 : Array CpInfo := pool [(1, .class_ 2), (0, u "java/lang/constant/Constable"), (0, .class_ 4), (0, u "java/lang/Object")] 6

/-- java/lang/constant/Constable -/
def k2 : Class := { plain "java/lang/constant/Constable" (some 0) with
  accessFlags := 1537
  interfaces := #[]
  cf := some (fileOf pool2 1 #[] #[] 1537 3 #[] #[])
  fields := #[]
  methods := #[]
  instanceTypes := #[]
  staticTypes := #[]
  resolved := Array.replicate 11 none
  statics := none }

def pool3 : Array CpInfo := pool [(1, .class_ 2), (0, u "java/lang/Comparable"), (0, .class_ 4), (0, u "java/lang/Object")] 7

/-- java/lang/Comparable -/
def k3 : Class := { plain "java/lang/Comparable" (some 0) with
  accessFlags := 1537
  interfaces := #[]
  cf := some (fileOf pool3 1 #[] #[] 1537 3 #[] #[])
  fields := #[]
  methods := #[]
  instanceTypes := #[]
  staticTypes := #[]
  resolved := Array.replicate 12 none
  statics := none }

def pool4 : Array CpInfo := pool [(1, .class_ 2), (0, u "java/io/Serializable"), (0, .class_ 4), (0, u "java/lang/Object")] 2

/-- java/io/Serializable -/
def k4 : Class := { plain "java/io/Serializable" (some 0) with
  accessFlags := 1537
  interfaces := #[]
  cf := some (fileOf pool4 1 #[] #[] 1537 3 #[] #[])
  fields := #[]
  methods := #[]
  instanceTypes := #[]
  staticTypes := #[]
  resolved := Array.replicate 7 none
  statics := none }

def pool5 : Array CpInfo := pool [(2, .class_ 4), (1, u "java/lang/Enum"), (0, u "name"), (0, u "Ljava/lang/String;"), (2, u "ordinal"), (0, u "I"), (1, .class_ 14), (1, u "java/lang/Object"), (4, u "hash"), (86, .class_ 108), (1, u "java/lang/Enum$EnumDesc"), (2, .class_ 112), (0, u "java/lang/constant/Constable"), (0, .class_ 114), (0, u "java/lang/Comparable"), (0, .class_ 116), (0, u "java/io/Serializable")] 87

/-- java/lang/Enum -/
def k5 : Class := { plain "java/lang/Enum" (some 0) with
  accessFlags := 1057
  interfaces := #[2, 3, 4]
  cf := some (fileOf pool5 2 #[.nestMembers #[106]] #[] 1057 12 #[111, 113, 115] #[{ accessFlags := 18, nameIndex := 5, descriptorIndex := 6, attributes := #[] }, { accessFlags := 18, nameIndex := 9, descriptorIndex := 10, attributes := #[] }, { accessFlags := 2, nameIndex := 19, descriptorIndex := 10, attributes := #[] }])
  fields := #[{ name := "name", type := (.object "java/lang/String"), accessFlags := 18, slot := 0, constantValue := 0 }, { name := "ordinal", type := .int, accessFlags := 18, slot := 1, constantValue := 0 }, { name := "hash", type := .int, accessFlags := 2, slot := 2, constantValue := 0 }]
  methods := #[]
  instanceTypes := #[(.object "java/lang/String"), .int, .int]
  staticTypes := #[]
  resolved := Array.replicate 204 none
  statics := none }

def pool6 : Array CpInfo := pool [(1, .class_ 2), (0, u "com/example/applied_pi_checker/appliedpichecker/FunctionSymbol$Kind"), (2, u "FREE_NAME"), (0, u "Lcom/example/applied_pi_checker/appliedpichecker/FunctionSymbol$Kind;"), (2, u "FRESH_NAME"), (2, u "ATTACKER_NAME"), (2, u "CONSTANT"), (2, u "CONSTRUCTOR"), (0, .fieldref 1 20), (0, .nameAndType 21 6), (0, u "DATA"), (2, u "CONVERTER"), (0, .fieldref 1 26), (0, .nameAndType 27 6), (0, u "TUPLE"), (2, u "DESTRUCTOR"), (2, u "EVENT"), (2, u "TABLE"), (2, u "OCCURRENCE"), (2, u "$VALUES"), (0, u "[Lcom/example/applied_pi_checker/appliedpichecker/FunctionSymbol$Kind;"), (6, .class_ 52), (1, u "java/lang/Enum"), (31, u "()Z"), (1, u "isData"), (5, .class_ 93), (0, u "com/example/applied_pi_checker/appliedpichecker/FunctionSymbol")] 2

def k6c0 : Code := { maxStack := 2, maxLocals := 1, code := prog_68_method_5_code, exceptionTable := #[], attributes := #[] }
def k6m0 : Method := { name := "isData", desc := "()Z", sig := { parameters := [], returnType := some .boolean }, accessFlags := 1, code := some k6c0 }
/-- com/example/applied_pi_checker/appliedpichecker/FunctionSymbol$Kind -/
def k6 : Class := { plain "com/example/applied_pi_checker/appliedpichecker/FunctionSymbol$Kind" (some 5) with
  accessFlags := 16433
  interfaces := #[]
  cf := some (fileOf pool6 1 #[.nestHost 92] #[{ accessFlags := 1, nameIndex := 86, descriptorIndex := 84, attributes := #[] }] 16433 50 #[] #[{ accessFlags := 16409, nameIndex := 5, descriptorIndex := 6, attributes := #[] }, { accessFlags := 16409, nameIndex := 9, descriptorIndex := 6, attributes := #[] }, { accessFlags := 16409, nameIndex := 12, descriptorIndex := 6, attributes := #[] }, { accessFlags := 16409, nameIndex := 15, descriptorIndex := 6, attributes := #[] }, { accessFlags := 16409, nameIndex := 18, descriptorIndex := 6, attributes := #[] }, { accessFlags := 16409, nameIndex := 21, descriptorIndex := 6, attributes := #[] }, { accessFlags := 16409, nameIndex := 24, descriptorIndex := 6, attributes := #[] }, { accessFlags := 16409, nameIndex := 27, descriptorIndex := 6, attributes := #[] }, { accessFlags := 16409, nameIndex := 30, descriptorIndex := 6, attributes := #[] }, { accessFlags := 16409, nameIndex := 33, descriptorIndex := 6, attributes := #[] }, { accessFlags := 16409, nameIndex := 36, descriptorIndex := 6, attributes := #[] }, { accessFlags := 16409, nameIndex := 39, descriptorIndex := 6, attributes := #[] }, { accessFlags := 4122, nameIndex := 42, descriptorIndex := 43, attributes := #[] }])
  fields := #[{ name := "FREE_NAME", type := (.object "com/example/applied_pi_checker/appliedpichecker/FunctionSymbol$Kind"), accessFlags := 16409, slot := 0, constantValue := 0 }, { name := "FRESH_NAME", type := (.object "com/example/applied_pi_checker/appliedpichecker/FunctionSymbol$Kind"), accessFlags := 16409, slot := 1, constantValue := 0 }, { name := "ATTACKER_NAME", type := (.object "com/example/applied_pi_checker/appliedpichecker/FunctionSymbol$Kind"), accessFlags := 16409, slot := 2, constantValue := 0 }, { name := "CONSTANT", type := (.object "com/example/applied_pi_checker/appliedpichecker/FunctionSymbol$Kind"), accessFlags := 16409, slot := 3, constantValue := 0 }, { name := "CONSTRUCTOR", type := (.object "com/example/applied_pi_checker/appliedpichecker/FunctionSymbol$Kind"), accessFlags := 16409, slot := 4, constantValue := 0 }, { name := "DATA", type := (.object "com/example/applied_pi_checker/appliedpichecker/FunctionSymbol$Kind"), accessFlags := 16409, slot := 5, constantValue := 0 }, { name := "CONVERTER", type := (.object "com/example/applied_pi_checker/appliedpichecker/FunctionSymbol$Kind"), accessFlags := 16409, slot := 6, constantValue := 0 }, { name := "TUPLE", type := (.object "com/example/applied_pi_checker/appliedpichecker/FunctionSymbol$Kind"), accessFlags := 16409, slot := 7, constantValue := 0 }, { name := "DESTRUCTOR", type := (.object "com/example/applied_pi_checker/appliedpichecker/FunctionSymbol$Kind"), accessFlags := 16409, slot := 8, constantValue := 0 }, { name := "EVENT", type := (.object "com/example/applied_pi_checker/appliedpichecker/FunctionSymbol$Kind"), accessFlags := 16409, slot := 9, constantValue := 0 }, { name := "TABLE", type := (.object "com/example/applied_pi_checker/appliedpichecker/FunctionSymbol$Kind"), accessFlags := 16409, slot := 10, constantValue := 0 }, { name := "OCCURRENCE", type := (.object "com/example/applied_pi_checker/appliedpichecker/FunctionSymbol$Kind"), accessFlags := 16409, slot := 11, constantValue := 0 }, { name := "$VALUES", type := (.array (.object "com/example/applied_pi_checker/appliedpichecker/FunctionSymbol$Kind")), accessFlags := 4122, slot := 12, constantValue := 0 }]
  methods := #[k6m0]
  instanceTypes := #[(.object "java/lang/String"), .int, .int]
  staticTypes := #[(.object "com/example/applied_pi_checker/appliedpichecker/FunctionSymbol$Kind"), (.object "com/example/applied_pi_checker/appliedpichecker/FunctionSymbol$Kind"), (.object "com/example/applied_pi_checker/appliedpichecker/FunctionSymbol$Kind"), (.object "com/example/applied_pi_checker/appliedpichecker/FunctionSymbol$Kind"), (.object "com/example/applied_pi_checker/appliedpichecker/FunctionSymbol$Kind"), (.object "com/example/applied_pi_checker/appliedpichecker/FunctionSymbol$Kind"), (.object "com/example/applied_pi_checker/appliedpichecker/FunctionSymbol$Kind"), (.object "com/example/applied_pi_checker/appliedpichecker/FunctionSymbol$Kind"), (.object "com/example/applied_pi_checker/appliedpichecker/FunctionSymbol$Kind"), (.object "com/example/applied_pi_checker/appliedpichecker/FunctionSymbol$Kind"), (.object "com/example/applied_pi_checker/appliedpichecker/FunctionSymbol$Kind"), (.object "com/example/applied_pi_checker/appliedpichecker/FunctionSymbol$Kind"), (.array (.object "com/example/applied_pi_checker/appliedpichecker/FunctionSymbol$Kind"))]
  resolved := Array.replicate 96 none
  statics := some 0 }

def pool7 : Array CpInfo := pool [(1, u "java/lang/Cloneable"), (0, .class_ 1), (0, u "java/lang/Object"), (0, .class_ 3)] 3

/-- java/lang/Cloneable -/
def k7 : Class := { plain "java/lang/Cloneable" (some 0) with
  accessFlags := 1537
  interfaces := #[]
  cf := some (fileOf pool7 2 #[] #[] 1537 4 #[] #[])
  fields := #[]
  methods := #[]
  instanceTypes := #[]
  staticTypes := #[]
  resolved := Array.replicate 8 none
  statics := none }

/-- the primitive byte -/
def k8 : Class := { plain "byte" none with kind := .primitive 'B', accessFlags := 0x411 }
/-- [B -/
def k9 : Class := { plain "[B" (some 0) with kind := .array 8 .byte, interfaces := #[7, 4], accessFlags := 1041 }

def heap : Heap := #[{ cls := 6, slots := #[.ref 8, .ref 9, .ref 1, .ref 2, .ref 3, .ref 5, .ref 4, .ref 12, .ref 6, .ref 7, .ref 11, .ref 10, .null], vm := .statics 6 },
  { cls := 6, slots := #[.null, .int 2, .int 0], vm := .none },
  { cls := 6, slots := #[.null, .int 3, .int 0], vm := .none },
  { cls := 6, slots := #[.null, .int 4, .int 0], vm := .none },
  { cls := 6, slots := #[.null, .int 6, .int 0], vm := .none },
  { cls := 6, slots := #[.null, .int 5, .int 0], vm := .none },
  { cls := 6, slots := #[.null, .int 8, .int 0], vm := .none },
  { cls := 6, slots := #[.null, .int 9, .int 0], vm := .none },
  { cls := 6, slots := #[.null, .int 0, .int 0], vm := .none },
  { cls := 6, slots := #[.null, .int 1, .int 0], vm := .none },
  { cls := 6, slots := #[.null, .int 11, .int 0], vm := .none },
  { cls := 6, slots := #[.null, .int 10, .int 0], vm := .none },
  { cls := 6, slots := #[.null, .int 7, .int 0], vm := .none }]
def classes : Array Class := #[k0, k1, k2, k3, k4, k5, k6, k7, k8, k9]
def interned : List (Array UInt16 × Addr) := []
def slotsUsed : Nat := 49
def theMethod : MethodId := ⟨1, 1⟩
def args0 : Array Value := #[.int 5]
def aboutOver (below : List Frame) : State where
  vm := { classes := classes, interned := interned.toArray }
  heap := heap
  slotsUsed := slotsUsed
  threads := #[{ frames := .invoking theMethod args0 :: below }]
def below0 : List Frame := [.native { method := ⟨0, 0⟩, args := #[] }]
def about1 : State := aboutOver below0
def p0 : Program := .bare "" "" ""
def e0 : Env := launch0.env 0 0 0
theorem w_frames : about1.frames = Frame.invoking theMethod args0 :: below0 := rfl
set_option maxRecDepth 65536 in
theorem w_args : argsFit about1.vm theMethod args0 = true := by decide +kernel
set_option maxRecDepth 65536 in
theorem w_heap : heapFits about1 = true := by decide +kernel
set_option maxRecDepth 65536 in
theorem w_runnable : about1.curStatus? = some .runnable := by decide +kernel
set_option maxRecDepth 65536 in
theorem w_alone : about1.alone = true := by decide +kernel
set_option maxRecDepth 65536 in
theorem w_named : about1.methodNamed? x = some theMethod := by decide +kernel
set_option maxRecDepth 65536 in
theorem w_hears : about1.hears theMethod below0 = true := by decide +kernel
set_option maxRecDepth 65536 in
theorem w_ripe : about1.ripe theMethod args0 below0 = true := by decide +kernel
theorem w_running : about1.status = .running := rfl
set_option maxRecDepth 65536 in
theorem w_room : about1.hasRoom e0.platform room_1 = true :=
  launch0.hasRoom_least _ room_1 (by decide +kernel) (by decide +kernel) (by decide +kernel) (by decide +kernel) (by decide +kernel) (by decide +kernel)
theorem allAtoms_all (ts : List Jvm.Cond) (a : Array Jvm.Value) (st : Jvm.State) : (allAtoms ts).before a st = ts.all (fun c => c.before a st) := by
  induction ts with
  | nil => rfl
  | cons c t ih =>
    show (Jvm.Cond.and c (allAtoms t)).before a st = _
    rw [Jvm.Cond.before_and, ih, List.all_cons]
def words1 : List Jvm.Cond := Jvm.Cond.code x code maxLocals ret :: tables_1
/-- a 'code' word, met by the world's own term for the bytes: nothing is compared byte by byte -/
theorem code_word {y : MethodName} {bytes : ByteArray} {mx : Nat} {rt : Option FieldType} {a : Array Value} {s : State} {m : MethodId} {meth : Method} {c : Code} (h1 : s.methodNamed? y = some m) (h2 : s.vm.method? m = some meth) (h3 : meth.code = some c) (h4 : c.code = bytes)
    (h5 : (c.maxLocals == mx && c.exceptionTable.isEmpty && decide (c.maxStack ≤ mostOperands) && decide (meth.sig.returnType = rt) && !meth.locks && decide (parseMethodDescriptor y.desc = some meth.sig)) = true) : (Jvm.Cond.code y bytes mx rt).before a s = true := by
  simp only [Bool.and_eq_true, beq_iff_eq, Bool.not_eq_true', decide_eq_true_eq] at h5
  obtain ⟨⟨⟨⟨⟨g1, g2⟩, g3⟩, g4⟩, g5⟩, g6⟩ := h5
  simp [Cond.before, Cond.holds, Cond.value, h1, h2, h3, h4, g1, g2, g3, g4, g5, g6]
def isCode : Jvm.Cond → Bool
  | .code _ _ _ _ => true
  | _ => false
theorem all_split {L : List Jvm.Cond} {P : Jvm.Cond → Bool} (h1 : L.all (fun c => isCode c || P c) = true) (h2 : ∀ c ∈ L.filter isCode, P c = true) : L.all P = true := by
  refine List.all_eq_true.mpr fun c hc => ?_
  have h := List.all_eq_true.mp h1 c hc
  rcases Bool.eq_false_or_eq_true (isCode c) with hi | hi
  · exact h2 c (List.mem_filter.mpr ⟨hc, hi⟩)
  · simpa [hi] using h
set_option maxRecDepth 65536 in
theorem w_c0 : (Jvm.Cond.code x code maxLocals ret).before args0 about1 = true := code_word (m := ⟨1, 1⟩) (meth := k1m1) (c := k1c1) (by decide +kernel) rfl rfl rfl (by decide +kernel)
set_option maxRecDepth 65536 in
theorem w_c1 : (Jvm.Cond.code ({ cls := "com/example/applied_pi_checker/appliedpichecker/FunctionSymbol$Kind", name := "isData", desc := "()Z" } : Jvm.MethodName) prog_68_method_5_code (1 : Nat) (Option.some Jvm.ClassFile.FieldType.boolean)).before args0 about1 = true := code_word (m := ⟨6, 0⟩) (meth := k6m0) (c := k6c0) (by decide +kernel) rfl rfl rfl (by decide +kernel)
def codes1 : List Jvm.Cond := [Jvm.Cond.code x code maxLocals ret, Jvm.Cond.code ({ cls := "com/example/applied_pi_checker/appliedpichecker/FunctionSymbol$Kind", name := "isData", desc := "()Z" } : Jvm.MethodName) prog_68_method_5_code (1 : Nat) (Option.some Jvm.ClassFile.FieldType.boolean)]
set_option maxRecDepth 65536 in
theorem codes_eq : words1.filter isCode = codes1 := rfl
theorem w_codes : ∀ c ∈ words1.filter isCode, c.before args0 about1 = true := by
  rw [codes_eq]
  intro c hc
  simp only [codes1, List.mem_cons, List.not_mem_nil, or_false] at hc
  rcases hc with rfl | rfl
  · exact w_c0
  · exact w_c1
set_option maxRecDepth 65536 in
theorem w_t1 : (words1.take 24).all (fun c => isCode c || c.before args0 about1) = true := by decide +kernel
set_option maxRecDepth 65536 in
theorem w_t2 : (words1.drop 24).all (fun c => isCode c || c.before args0 about1) = true := by decide +kernel
theorem w_tables : (allAtoms (Jvm.Cond.code x code maxLocals ret :: tables_1)).before args0 about1 = true := by
  rw [allAtoms_all]
  show words1.all (fun c => c.before args0 about1) = true
  refine all_split ?_ w_codes
  rw [← List.take_append_drop 24 words1, List.all_append, w_t1, w_t2]
  rfl
set_option maxRecDepth 65536 in
theorem w_case : (Jvm.Cond.and given_1 narrow_1).before args0 about1 = true := by decide +kernel
theorem w_applies : (headSpec (Jvm.Cond.code x code maxLocals ret :: tables_1) room_1).applies x e0.platform about1 = true :=
  (Spec.applies_iff w_frames).mpr ⟨w_running, w_runnable, w_alone, w_named, w_hears, w_ripe, w_room, w_tables⟩
theorem atStart : AtStart classFile x code maxLocals ret World_1 tables_1 room_1 Calls_1 rest_1 Pre_1 launch0 p0 e0 about1 theMethod args0 below0 :=
  ⟨lists_1, trivial, launch0.admits_env _ _ _, launch0.least_env, fairChoices_fair.cas, fairChoices_fair.clock, w_frames, w_args, w_heap, w_applies, trivial, trivial, w_case⟩
end start1
theorem witness_1 : WitnessClaimed_1 := ⟨start1.p0, start1.e0, start1.about1, start1.theMethod, start1.args0, start1.below0, start1.atStart⟩
end Jvm.Pilot.@@N@@
