import JvmDerived
import JvmDerived.Pilot.@@N@@Statement
import JvmDerived.Pilot.@@N@@Code
set_option linter.unusedVariables false
set_option linter.unusedSimpArgs false
namespace Jvm.RoadKit
open Sem ClassFile Op Lib Jvm.Stand Jvm.Free Jvm.LawKit
section New
variable {p : Program} {l : Launch} {e : Env} {R : Room} {s : State} {m : MethodId} {args : Array Value} {below : List Frame} {meth : Method} {c : Code} {T : State} {locs : List Loc} {cells slots : Nat}
theorem retI (X : Stand p l e R s m args below meth c T locs cells slots) (hx : p.tables.exec = Jvm.exec) {pc : Nat} {Ls : Array Slot} {z : Int32} {rest : List Value} (hret : meth.sig.returnType = some .int) (hd : decode c.code pc = .ok (.ireturn, 1)) {fs : List Frame}
    (hl : ∀ (f : JFrame) (acts : List Action), f.method = m → f.locked = none → f.entered = [] → (doReturn e (T.setTop f) acts (some (.int z))).1 = T.setFrames fs) : Steps p.tables e below (T.setTop (mkF m pc Ls (.int z :: rest))) (T.setFrames fs) := by
  have hm' : T.vm.method? m = some meth := X.method'
  have hn : narrow .int (.int z) = .int z := rfl
  show Steps p.tables e below (T.setTop { method := m, pc := pc, locals := Ls, stack := _ :: rest, locked := none }) _
  jvm_step X.here [X.here.top, hx, hd, hm', hret, hn]
  first | (intro acts; rw [hl _ acts rfl rfl rfl]) | rw [hl _ _ rfl rfl rfl]
  exact Steps.refl _
end New
end Jvm.RoadKit
namespace Jvm.Pilot.@@N@@
open Jvm Jvm.ClassFile Sem Op Lib Jvm.Free Jvm.Stand Jvm.LawKit Jvm.RoadKit Bundle Jvm.Pilot.@@N@@.Jvm.D
def Q0 (n0 : Nat) (v : Option Value) (h : Heap) (L : List Loc) : Prop := v = some (.int (1 : Int32)) ∧ Fr n0 L
def Qv (r : Value) (h0 : Heap) (n0 : Nat) (v : Option Value) (h : Heap) (L : List Loc) : Prop := v = some r ∧ Fr n0 L ∧ h = h0
theorem own_int {args : Array Value} {s : State} {t : Term} {C n d : String} {k : Int32} {a : Addr} (ht : t.eval args s none [] s = some (.ref a)) (h : (Jvm.Cond.eq (.field t C n d) (.int k)).value args s none s [] = some true) : s.fieldOf? a C n d = some (.int k) := by
  cases hf : s.fieldOf? a C n d with
  | none => simp [Jvm.Cond.value, Term.eval, ht, hf] at h
  | some w => cases w <;> simp_all [Jvm.Cond.value, Term.eval]
theorem own_val {args : Array Value} {s : State} {t u : Term} {C n d : String} {v : Value} {a : Addr} (ht : t.eval args s none [] s = some (.ref a)) (hu : u.eval args s none [] s = some v) (hv : v.isRef = true) (h : (Jvm.Cond.eq (.field t C n d) u).value args s none s [] = some true) : s.fieldOf? a C n d = some v := by
  cases hf : s.fieldOf? a C n d with
  | none => simp [Jvm.Cond.value, Term.eval, ht, hf] at h
  | some w => rcases ref_cases hv with rfl | ⟨b, rfl⟩ <;> cases w <;> simp_all [Jvm.Cond.value, Term.eval]
theorem own_ne {s : State} {C n d : String} {a b : Addr} {i j : Int32} (ha : s.fieldOf? a C n d = some (.int i)) (hb : s.fieldOf? b C n d = some (.int j)) (h : i ≠ j) : ¬ a = b := fun q => by
  subst q; rw [ha] at hb; exact h (Value.int.inj (Option.some.inj hb))
theorem own_rem (x : Int32) : ((x &&& (2147483647 : Int32)) % (12 : Int32)) = 0 ∨ ((x &&& (2147483647 : Int32)) % (12 : Int32)) = 1 ∨ ((x &&& (2147483647 : Int32)) % (12 : Int32)) = 2 ∨ ((x &&& (2147483647 : Int32)) % (12 : Int32)) = 3 ∨ ((x &&& (2147483647 : Int32)) % (12 : Int32)) = 4 ∨ ((x &&& (2147483647 : Int32)) % (12 : Int32)) = 5 ∨ ((x &&& (2147483647 : Int32)) % (12 : Int32)) = 6 ∨ ((x &&& (2147483647 : Int32)) % (12 : Int32)) = 7 ∨ ((x &&& (2147483647 : Int32)) % (12 : Int32)) = 8 ∨ ((x &&& (2147483647 : Int32)) % (12 : Int32)) = 9 ∨ ((x &&& (2147483647 : Int32)) % (12 : Int32)) = 10 ∨ ((x &&& (2147483647 : Int32)) % (12 : Int32)) = 11 := by
  have h0 := c_mask x 2147483647 31 (by decide) (by decide)
  have h1 := (c_irem (x &&& (2147483647 : Int32)) 12 12 (by decide)).1 (by omega)
  have : ((x &&& (2147483647 : Int32)) % (12 : Int32)).toInt = 0 ∨ ((x &&& (2147483647 : Int32)) % (12 : Int32)).toInt = 1 ∨ ((x &&& (2147483647 : Int32)) % (12 : Int32)).toInt = 2 ∨ ((x &&& (2147483647 : Int32)) % (12 : Int32)).toInt = 3 ∨ ((x &&& (2147483647 : Int32)) % (12 : Int32)).toInt = 4 ∨ ((x &&& (2147483647 : Int32)) % (12 : Int32)).toInt = 5 ∨ ((x &&& (2147483647 : Int32)) % (12 : Int32)).toInt = 6 ∨ ((x &&& (2147483647 : Int32)) % (12 : Int32)).toInt = 7 ∨ ((x &&& (2147483647 : Int32)) % (12 : Int32)).toInt = 8 ∨ ((x &&& (2147483647 : Int32)) % (12 : Int32)).toInt = 9 ∨ ((x &&& (2147483647 : Int32)) % (12 : Int32)).toInt = 10 ∨ ((x &&& (2147483647 : Int32)) % (12 : Int32)).toInt = 11 := by omega
  rcases this with q | q | q | q | q | q | q | q | q | q | q | q
  · exact (Or.inl (Int32.toInt_inj.mp q))
  · exact (Or.inr (Or.inl (Int32.toInt_inj.mp q)))
  · exact (Or.inr (Or.inr (Or.inl (Int32.toInt_inj.mp q))))
  · exact (Or.inr (Or.inr (Or.inr (Or.inl (Int32.toInt_inj.mp q)))))
  · exact (Or.inr (Or.inr (Or.inr (Or.inr (Or.inl (Int32.toInt_inj.mp q))))))
  · exact (Or.inr (Or.inr (Or.inr (Or.inr (Or.inr (Or.inl (Int32.toInt_inj.mp q)))))))
  · exact (Or.inr (Or.inr (Or.inr (Or.inr (Or.inr (Or.inr (Or.inl (Int32.toInt_inj.mp q))))))))
  · exact (Or.inr (Or.inr (Or.inr (Or.inr (Or.inr (Or.inr (Or.inr (Or.inl (Int32.toInt_inj.mp q)))))))))
  · exact (Or.inr (Or.inr (Or.inr (Or.inr (Or.inr (Or.inr (Or.inr (Or.inr (Or.inl (Int32.toInt_inj.mp q))))))))))
  · exact (Or.inr (Or.inr (Or.inr (Or.inr (Or.inr (Or.inr (Or.inr (Or.inr (Or.inr (Or.inl (Int32.toInt_inj.mp q)))))))))))
  · exact (Or.inr (Or.inr (Or.inr (Or.inr (Or.inr (Or.inr (Or.inr (Or.inr (Or.inr (Or.inr (Or.inl (Int32.toInt_inj.mp q))))))))))))
  · exact (Or.inr (Or.inr (Or.inr (Or.inr (Or.inr (Or.inr (Or.inr (Or.inr (Or.inr (Or.inr (Or.inr (Int32.toInt_inj.mp q))))))))))))
theorem d1_0 : decode prog_68_method_4_code 0 = .ok (.aload_n 0, 1) := by decide +kernel
theorem d1_1 : decode prog_68_method_4_code 1 = .ok (.getstatic 3, 3) := by decide +kernel
theorem d1_4 : decode prog_68_method_4_code 4 = .ok (.if_acmp .eq 17, 3) := by decide +kernel
theorem d1_21 : decode prog_68_method_4_code 21 = .ok (.iconst 1, 1) := by decide +kernel
theorem d1_22 : decode prog_68_method_4_code 22 = .ok (.goto 4, 3) := by decide +kernel
theorem d1_26 : decode prog_68_method_4_code 26 = .ok (.ireturn, 1) := by decide +kernel
theorem pn_1 : plainName "com/example/applied_pi_checker/appliedpichecker/FunctionSymbol$Kind" = true := by first | (simp [plainName, overriddenIn]; done) | decide +kernel
theorem ef_1 (m : MethodId) (x0 : Addr) : entryFrame m #[(.ref x0)] 1 = mkF m 0 #[.val (.ref x0)] [] := by first | (simp [entryFrame, mkF, argsToLocals, Value.category]; done) | rfl
theorem d1_7 : decode prog_68_method_4_code 7 = .ok (.aload_n 0, 1) := by decide +kernel
theorem d1_8 : decode prog_68_method_4_code 8 = .ok (.getstatic 7, 3) := by decide +kernel
theorem d1_11 : decode prog_68_method_4_code 11 = .ok (.if_acmp .eq 10, 3) := by decide +kernel
theorem d1_14 : decode prog_68_method_4_code 14 = .ok (.aload_n 0, 1) := by decide +kernel
theorem d1_15 : decode prog_68_method_4_code 15 = .ok (.getstatic 10, 3) := by decide +kernel
theorem d1_18 : decode prog_68_method_4_code 18 = .ok (.if_acmp .ne 7, 3) := by decide +kernel
theorem d1_25 : decode prog_68_method_4_code 25 = .ok (.iconst 0, 1) := by decide +kernel
set_option maxRecDepth 65536 in
set_option maxHeartbeats 40000000 in
theorem rm1_t (l : Launch) (Z : State) (a0 : Array Value) (hw : ∀ d ∈ tables_1, d.before a0 Z = true) (ws : List Jvm.Cond) (a1 : Addr) (w_FREE_NAME : Addr) (h0 : Heap) (n0 : Nat) (Z0 : n0 ≤ h0.size) (S_FREE_NAME : Sta Z h0 "com/example/applied_pi_checker/appliedpichecker/FunctionSymbol$Kind" "FREE_NAME" "Lcom/example/applied_pi_checker/appliedpichecker/FunctionSymbol$Kind;" (.ref w_FREE_NAME)) (ha4 : a1 = w_FREE_NAME) :
    MetFree l (⟨"com/example/applied_pi_checker/appliedpichecker/FunctionSymbol$Kind", "isName", "()Z"⟩ : MethodName) (head1 (Jvm.Cond.code (⟨"com/example/applied_pi_checker/appliedpichecker/FunctionSymbol$Kind", "isName", "()Z"⟩ : MethodName) prog_68_method_4_code 1 (some .boolean) :: ws) ({ frames := 0, cells := 0, slots := 0, locals := 0 } : Room)) (fun a U => a = #[(.ref a1)] ∧ Z.Warmed39 U.vm ∧ U.heap = h0) (fun _ _ _ _ _ => True) (fun _ U o U' => ∃ v L, o = .returned v ∧ Qv (.int (1 : Int32)) h0 n0 v U'.heap L ∧ FrameEnd U o U' L ({ frames := 0, cells := 0, slots := 0, locals := 0 } : Room).cells ({ frames := 0, cells := 0, slots := 0, locals := 0 } : Room).slots) := by
  refine MetFree.of_bodySF (plainFor_of_name pn_1) hisR ?_
  intro p e s m args below meth c s₁ Bd hml0 hP hK
  obtain ⟨rfl, hZ, hh⟩ := hP
  have hx := Bd.exec
  have hby := Bd.bytes
  have hml : c.maxLocals = 1 := hml0
  have hown : s.vm.findClass "com/example/applied_pi_checker/appliedpichecker/FunctionSymbol$Kind" = some m.cls := findClass_of_methodNamed Bd.named
  have hnm := (name_of_methodNamed Bd.named Bd.method).1
  have X0 : Stand p l e ({ frames := 0, cells := 0, slots := 0, locals := 0 } : Room) s m #[(.ref a1)] below meth c s₁ [] 0 0 := Stand.of_body Bd
  have e0 : s₁.heap = h0 := by rw [← hh, Bd.state]; rfl
  have N0 := Fr.nil n0
  have pre0 : ∀ t, Steps p.tables e below (s₁.setTop (mkF m 0 #[.val (.ref a1)] [])) t → Steps p.tables e below (s₁.setTop (entryFrame m #[(.ref a1)] 1)) t := fun t k => castTop (ef_1 m a1) k
  -- 3. LAWS
  obtain ⟨T2, X2, e2, st2⟩ := getS2 X0 hx hZ hown (host := "") (Or.inl (hw _ (List.mem_of_getElem? (i := 34) rfl))) Via.refl e0 S_FREE_NAME (g := (mkF m 1 #[.val (.ref a1)] [(.ref a1)])) rfl (hb hby d1_1)
  obtain ⟨fs, hr, hrun, hended, hW, hsame⟩ := X2.leave (v := some (.int (1 : Int32))) (fun h => by rw [Bd.returns] at h; cases h)
  refine ⟨_, _, pre0 _ ?_, hrun, hended, _, _, rfl, ?_, ⟨_, rfl⟩, hW, hsame.mono (by decide) (by decide)⟩
  -- 4. STEPS
  · show Steps p.tables e below (s₁.setTop (mkF m 0 #[.val (.ref a1)] [])) _
    refine XS.aloadN X0.here hx rfl (hb hby d1_0) rfl rfl ?_
    show Steps p.tables e below (s₁.setTop (mkF m 1 #[.val (.ref a1)] [(.ref a1)])) _
    refine st2 _ ?_
    show Steps p.tables e below (T2.setTop (mkF m 4 #[.val (.ref a1)] [(.ref w_FREE_NAME), (.ref a1)])) _
    refine Jvm.RoadKit.acmp (g := (mkF m 4 #[.val (.ref a1)] [(.ref w_FREE_NAME), (.ref a1)])) X2 hx rfl rfl rfl (pc0 := 4) (pc' := 21) (same := true) rfl (hb hby d1_4) rfl (decide_eq_true (congrArg Value.ref ha4)) (by decide) (by decide) ?_
    show Steps p.tables e below (T2.setTop (mkF m 21 #[.val (.ref a1)] [])) _
    refine XS.iconst X2.here hx rfl (hb hby d1_21) ?_
    show Steps p.tables e below (T2.setTop (mkF m 22 #[.val (.ref a1)] [(.int (1 : Int32))])) _
    refine XS.goto X2.here hx rfl (pc0 := 22) (pc' := 26) rfl (hb hby d1_22) (by decide) (by decide) ?_
    show Steps p.tables e below (T2.setTop (mkF m 26 #[.val (.ref a1)] [(.int (1 : Int32))])) _
    exact retN X2 hx (t := .boolean) Bd.returns (by simp) (hb hby d1_26) hr
  · show Qv (.int (1 : Int32)) h0 n0 _ T2.heap _
    rw [e2]
    exact ⟨rfl, N0, rfl⟩
set_option maxRecDepth 65536 in
set_option maxHeartbeats 40000000 in
theorem rm1_ft (l : Launch) (Z : State) (a0 : Array Value) (hw : ∀ d ∈ tables_1, d.before a0 Z = true) (ws : List Jvm.Cond) (a1 : Addr) (w_FREE_NAME : Addr) (w_FRESH_NAME : Addr) (h0 : Heap) (n0 : Nat) (Z0 : n0 ≤ h0.size) (S_FREE_NAME : Sta Z h0 "com/example/applied_pi_checker/appliedpichecker/FunctionSymbol$Kind" "FREE_NAME" "Lcom/example/applied_pi_checker/appliedpichecker/FunctionSymbol$Kind;" (.ref w_FREE_NAME)) (S_FRESH_NAME : Sta Z h0 "com/example/applied_pi_checker/appliedpichecker/FunctionSymbol$Kind" "FRESH_NAME" "Lcom/example/applied_pi_checker/appliedpichecker/FunctionSymbol$Kind;" (.ref w_FRESH_NAME)) (ha4 : ¬ (a1 = w_FREE_NAME)) (ha11 : a1 = w_FRESH_NAME) :
    MetFree l (⟨"com/example/applied_pi_checker/appliedpichecker/FunctionSymbol$Kind", "isName", "()Z"⟩ : MethodName) (head1 (Jvm.Cond.code (⟨"com/example/applied_pi_checker/appliedpichecker/FunctionSymbol$Kind", "isName", "()Z"⟩ : MethodName) prog_68_method_4_code 1 (some .boolean) :: ws) ({ frames := 0, cells := 0, slots := 0, locals := 0 } : Room)) (fun a U => a = #[(.ref a1)] ∧ Z.Warmed39 U.vm ∧ U.heap = h0) (fun _ _ _ _ _ => True) (fun _ U o U' => ∃ v L, o = .returned v ∧ Qv (.int (1 : Int32)) h0 n0 v U'.heap L ∧ FrameEnd U o U' L ({ frames := 0, cells := 0, slots := 0, locals := 0 } : Room).cells ({ frames := 0, cells := 0, slots := 0, locals := 0 } : Room).slots) := by
  refine MetFree.of_bodySF (plainFor_of_name pn_1) hisR ?_
  intro p e s m args below meth c s₁ Bd hml0 hP hK
  obtain ⟨rfl, hZ, hh⟩ := hP
  have hx := Bd.exec
  have hby := Bd.bytes
  have hml : c.maxLocals = 1 := hml0
  have hown : s.vm.findClass "com/example/applied_pi_checker/appliedpichecker/FunctionSymbol$Kind" = some m.cls := findClass_of_methodNamed Bd.named
  have hnm := (name_of_methodNamed Bd.named Bd.method).1
  have X0 : Stand p l e ({ frames := 0, cells := 0, slots := 0, locals := 0 } : Room) s m #[(.ref a1)] below meth c s₁ [] 0 0 := Stand.of_body Bd
  have e0 : s₁.heap = h0 := by rw [← hh, Bd.state]; rfl
  have N0 := Fr.nil n0
  have pre0 : ∀ t, Steps p.tables e below (s₁.setTop (mkF m 0 #[.val (.ref a1)] [])) t → Steps p.tables e below (s₁.setTop (entryFrame m #[(.ref a1)] 1)) t := fun t k => castTop (ef_1 m a1) k
  -- 3. LAWS
  obtain ⟨T2, X2, e2, st2⟩ := getS2 X0 hx hZ hown (host := "") (Or.inl (hw _ (List.mem_of_getElem? (i := 34) rfl))) Via.refl e0 S_FREE_NAME (g := (mkF m 1 #[.val (.ref a1)] [(.ref a1)])) rfl (hb hby d1_1)
  obtain ⟨T3, X3, e3, st3⟩ := getS2 X2 hx hZ hown (host := "") (Or.inl (hw _ (List.mem_of_getElem? (i := 35) rfl))) Via.refl e2 S_FRESH_NAME (g := (mkF m 8 #[.val (.ref a1)] [(.ref a1)])) rfl (hb hby d1_8)
  obtain ⟨fs, hr, hrun, hended, hW, hsame⟩ := X3.leave (v := some (.int (1 : Int32))) (fun h => by rw [Bd.returns] at h; cases h)
  refine ⟨_, _, pre0 _ ?_, hrun, hended, _, _, rfl, ?_, ⟨_, rfl⟩, hW, hsame.mono (by decide) (by decide)⟩
  -- 4. STEPS
  · show Steps p.tables e below (s₁.setTop (mkF m 0 #[.val (.ref a1)] [])) _
    refine XS.aloadN X0.here hx rfl (hb hby d1_0) rfl rfl ?_
    show Steps p.tables e below (s₁.setTop (mkF m 1 #[.val (.ref a1)] [(.ref a1)])) _
    refine st2 _ ?_
    show Steps p.tables e below (T2.setTop (mkF m 4 #[.val (.ref a1)] [(.ref w_FREE_NAME), (.ref a1)])) _
    refine Jvm.RoadKit.acmp (g := (mkF m 4 #[.val (.ref a1)] [(.ref w_FREE_NAME), (.ref a1)])) X2 hx rfl rfl rfl (pc0 := 4) (pc' := 7) (same := false) rfl (hb hby d1_4) rfl (decide_eq_false fun q => ha4 (Value.ref.inj q)) (by decide) (by decide) ?_
    show Steps p.tables e below (T2.setTop (mkF m 7 #[.val (.ref a1)] [])) _
    refine XS.aloadN X2.here hx rfl (hb hby d1_7) rfl rfl ?_
    show Steps p.tables e below (T2.setTop (mkF m 8 #[.val (.ref a1)] [(.ref a1)])) _
    refine st3 _ ?_
    show Steps p.tables e below (T3.setTop (mkF m 11 #[.val (.ref a1)] [(.ref w_FRESH_NAME), (.ref a1)])) _
    refine Jvm.RoadKit.acmp (g := (mkF m 11 #[.val (.ref a1)] [(.ref w_FRESH_NAME), (.ref a1)])) X3 hx rfl rfl rfl (pc0 := 11) (pc' := 21) (same := true) rfl (hb hby d1_11) rfl (decide_eq_true (congrArg Value.ref ha11)) (by decide) (by decide) ?_
    show Steps p.tables e below (T3.setTop (mkF m 21 #[.val (.ref a1)] [])) _
    refine XS.iconst X3.here hx rfl (hb hby d1_21) ?_
    show Steps p.tables e below (T3.setTop (mkF m 22 #[.val (.ref a1)] [(.int (1 : Int32))])) _
    refine XS.goto X3.here hx rfl (pc0 := 22) (pc' := 26) rfl (hb hby d1_22) (by decide) (by decide) ?_
    show Steps p.tables e below (T3.setTop (mkF m 26 #[.val (.ref a1)] [(.int (1 : Int32))])) _
    exact retN X3 hx (t := .boolean) Bd.returns (by simp) (hb hby d1_26) hr
  · show Qv (.int (1 : Int32)) h0 n0 _ T3.heap _
    rw [e3]
    exact ⟨rfl, N0, rfl⟩
set_option maxRecDepth 65536 in
set_option maxHeartbeats 40000000 in
theorem rm1_fff (l : Launch) (Z : State) (a0 : Array Value) (hw : ∀ d ∈ tables_1, d.before a0 Z = true) (ws : List Jvm.Cond) (a1 : Addr) (w_FREE_NAME : Addr) (w_FRESH_NAME : Addr) (w_ATTACKER_NAME : Addr) (h0 : Heap) (n0 : Nat) (Z0 : n0 ≤ h0.size) (S_FREE_NAME : Sta Z h0 "com/example/applied_pi_checker/appliedpichecker/FunctionSymbol$Kind" "FREE_NAME" "Lcom/example/applied_pi_checker/appliedpichecker/FunctionSymbol$Kind;" (.ref w_FREE_NAME)) (S_FRESH_NAME : Sta Z h0 "com/example/applied_pi_checker/appliedpichecker/FunctionSymbol$Kind" "FRESH_NAME" "Lcom/example/applied_pi_checker/appliedpichecker/FunctionSymbol$Kind;" (.ref w_FRESH_NAME)) (S_ATTACKER_NAME : Sta Z h0 "com/example/applied_pi_checker/appliedpichecker/FunctionSymbol$Kind" "ATTACKER_NAME" "Lcom/example/applied_pi_checker/appliedpichecker/FunctionSymbol$Kind;" (.ref w_ATTACKER_NAME)) (ha4 : ¬ (a1 = w_FREE_NAME)) (ha11 : ¬ (a1 = w_FRESH_NAME)) (ha18 : a1 = w_ATTACKER_NAME) :
    MetFree l (⟨"com/example/applied_pi_checker/appliedpichecker/FunctionSymbol$Kind", "isName", "()Z"⟩ : MethodName) (head1 (Jvm.Cond.code (⟨"com/example/applied_pi_checker/appliedpichecker/FunctionSymbol$Kind", "isName", "()Z"⟩ : MethodName) prog_68_method_4_code 1 (some .boolean) :: ws) ({ frames := 0, cells := 0, slots := 0, locals := 0 } : Room)) (fun a U => a = #[(.ref a1)] ∧ Z.Warmed39 U.vm ∧ U.heap = h0) (fun _ _ _ _ _ => True) (fun _ U o U' => ∃ v L, o = .returned v ∧ Qv (.int (1 : Int32)) h0 n0 v U'.heap L ∧ FrameEnd U o U' L ({ frames := 0, cells := 0, slots := 0, locals := 0 } : Room).cells ({ frames := 0, cells := 0, slots := 0, locals := 0 } : Room).slots) := by
  refine MetFree.of_bodySF (plainFor_of_name pn_1) hisR ?_
  intro p e s m args below meth c s₁ Bd hml0 hP hK
  obtain ⟨rfl, hZ, hh⟩ := hP
  have hx := Bd.exec
  have hby := Bd.bytes
  have hml : c.maxLocals = 1 := hml0
  have hown : s.vm.findClass "com/example/applied_pi_checker/appliedpichecker/FunctionSymbol$Kind" = some m.cls := findClass_of_methodNamed Bd.named
  have hnm := (name_of_methodNamed Bd.named Bd.method).1
  have X0 : Stand p l e ({ frames := 0, cells := 0, slots := 0, locals := 0 } : Room) s m #[(.ref a1)] below meth c s₁ [] 0 0 := Stand.of_body Bd
  have e0 : s₁.heap = h0 := by rw [← hh, Bd.state]; rfl
  have N0 := Fr.nil n0
  have pre0 : ∀ t, Steps p.tables e below (s₁.setTop (mkF m 0 #[.val (.ref a1)] [])) t → Steps p.tables e below (s₁.setTop (entryFrame m #[(.ref a1)] 1)) t := fun t k => castTop (ef_1 m a1) k
  -- 3. LAWS
  obtain ⟨T2, X2, e2, st2⟩ := getS2 X0 hx hZ hown (host := "") (Or.inl (hw _ (List.mem_of_getElem? (i := 34) rfl))) Via.refl e0 S_FREE_NAME (g := (mkF m 1 #[.val (.ref a1)] [(.ref a1)])) rfl (hb hby d1_1)
  obtain ⟨T3, X3, e3, st3⟩ := getS2 X2 hx hZ hown (host := "") (Or.inl (hw _ (List.mem_of_getElem? (i := 35) rfl))) Via.refl e2 S_FRESH_NAME (g := (mkF m 8 #[.val (.ref a1)] [(.ref a1)])) rfl (hb hby d1_8)
  obtain ⟨T4, X4, e4, st4⟩ := getS2 X3 hx hZ hown (host := "") (Or.inl (hw _ (List.mem_of_getElem? (i := 36) rfl))) Via.refl e3 S_ATTACKER_NAME (g := (mkF m 15 #[.val (.ref a1)] [(.ref a1)])) rfl (hb hby d1_15)
  obtain ⟨fs, hr, hrun, hended, hW, hsame⟩ := X4.leave (v := some (.int (1 : Int32))) (fun h => by rw [Bd.returns] at h; cases h)
  refine ⟨_, _, pre0 _ ?_, hrun, hended, _, _, rfl, ?_, ⟨_, rfl⟩, hW, hsame.mono (by decide) (by decide)⟩
  -- 4. STEPS
  · show Steps p.tables e below (s₁.setTop (mkF m 0 #[.val (.ref a1)] [])) _
    refine XS.aloadN X0.here hx rfl (hb hby d1_0) rfl rfl ?_
    show Steps p.tables e below (s₁.setTop (mkF m 1 #[.val (.ref a1)] [(.ref a1)])) _
    refine st2 _ ?_
    show Steps p.tables e below (T2.setTop (mkF m 4 #[.val (.ref a1)] [(.ref w_FREE_NAME), (.ref a1)])) _
    refine Jvm.RoadKit.acmp (g := (mkF m 4 #[.val (.ref a1)] [(.ref w_FREE_NAME), (.ref a1)])) X2 hx rfl rfl rfl (pc0 := 4) (pc' := 7) (same := false) rfl (hb hby d1_4) rfl (decide_eq_false fun q => ha4 (Value.ref.inj q)) (by decide) (by decide) ?_
    show Steps p.tables e below (T2.setTop (mkF m 7 #[.val (.ref a1)] [])) _
    refine XS.aloadN X2.here hx rfl (hb hby d1_7) rfl rfl ?_
    show Steps p.tables e below (T2.setTop (mkF m 8 #[.val (.ref a1)] [(.ref a1)])) _
    refine st3 _ ?_
    show Steps p.tables e below (T3.setTop (mkF m 11 #[.val (.ref a1)] [(.ref w_FRESH_NAME), (.ref a1)])) _
    refine Jvm.RoadKit.acmp (g := (mkF m 11 #[.val (.ref a1)] [(.ref w_FRESH_NAME), (.ref a1)])) X3 hx rfl rfl rfl (pc0 := 11) (pc' := 14) (same := false) rfl (hb hby d1_11) rfl (decide_eq_false fun q => ha11 (Value.ref.inj q)) (by decide) (by decide) ?_
    show Steps p.tables e below (T3.setTop (mkF m 14 #[.val (.ref a1)] [])) _
    refine XS.aloadN X3.here hx rfl (hb hby d1_14) rfl rfl ?_
    show Steps p.tables e below (T3.setTop (mkF m 15 #[.val (.ref a1)] [(.ref a1)])) _
    refine st4 _ ?_
    show Steps p.tables e below (T4.setTop (mkF m 18 #[.val (.ref a1)] [(.ref w_ATTACKER_NAME), (.ref a1)])) _
    refine Jvm.RoadKit.acmp (g := (mkF m 18 #[.val (.ref a1)] [(.ref w_ATTACKER_NAME), (.ref a1)])) X4 hx rfl rfl rfl (pc0 := 18) (pc' := 21) (same := true) rfl (hb hby d1_18) rfl (decide_eq_true (congrArg Value.ref ha18)) (by decide) (by decide) ?_
    show Steps p.tables e below (T4.setTop (mkF m 21 #[.val (.ref a1)] [])) _
    refine XS.iconst X4.here hx rfl (hb hby d1_21) ?_
    show Steps p.tables e below (T4.setTop (mkF m 22 #[.val (.ref a1)] [(.int (1 : Int32))])) _
    refine XS.goto X4.here hx rfl (pc0 := 22) (pc' := 26) rfl (hb hby d1_22) (by decide) (by decide) ?_
    show Steps p.tables e below (T4.setTop (mkF m 26 #[.val (.ref a1)] [(.int (1 : Int32))])) _
    exact retN X4 hx (t := .boolean) Bd.returns (by simp) (hb hby d1_26) hr
  · show Qv (.int (1 : Int32)) h0 n0 _ T4.heap _
    rw [e4]
    exact ⟨rfl, N0, rfl⟩
set_option maxRecDepth 65536 in
set_option maxHeartbeats 40000000 in
theorem rm1_fft (l : Launch) (Z : State) (a0 : Array Value) (hw : ∀ d ∈ tables_1, d.before a0 Z = true) (ws : List Jvm.Cond) (a1 : Addr) (w_FREE_NAME : Addr) (w_FRESH_NAME : Addr) (w_ATTACKER_NAME : Addr) (h0 : Heap) (n0 : Nat) (Z0 : n0 ≤ h0.size) (S_FREE_NAME : Sta Z h0 "com/example/applied_pi_checker/appliedpichecker/FunctionSymbol$Kind" "FREE_NAME" "Lcom/example/applied_pi_checker/appliedpichecker/FunctionSymbol$Kind;" (.ref w_FREE_NAME)) (S_FRESH_NAME : Sta Z h0 "com/example/applied_pi_checker/appliedpichecker/FunctionSymbol$Kind" "FRESH_NAME" "Lcom/example/applied_pi_checker/appliedpichecker/FunctionSymbol$Kind;" (.ref w_FRESH_NAME)) (S_ATTACKER_NAME : Sta Z h0 "com/example/applied_pi_checker/appliedpichecker/FunctionSymbol$Kind" "ATTACKER_NAME" "Lcom/example/applied_pi_checker/appliedpichecker/FunctionSymbol$Kind;" (.ref w_ATTACKER_NAME)) (ha4 : ¬ (a1 = w_FREE_NAME)) (ha11 : ¬ (a1 = w_FRESH_NAME)) (ha18 : ¬ (a1 = w_ATTACKER_NAME)) :
    MetFree l (⟨"com/example/applied_pi_checker/appliedpichecker/FunctionSymbol$Kind", "isName", "()Z"⟩ : MethodName) (head1 (Jvm.Cond.code (⟨"com/example/applied_pi_checker/appliedpichecker/FunctionSymbol$Kind", "isName", "()Z"⟩ : MethodName) prog_68_method_4_code 1 (some .boolean) :: ws) ({ frames := 0, cells := 0, slots := 0, locals := 0 } : Room)) (fun a U => a = #[(.ref a1)] ∧ Z.Warmed39 U.vm ∧ U.heap = h0) (fun _ _ _ _ _ => True) (fun _ U o U' => ∃ v L, o = .returned v ∧ Qv (.int (0 : Int32)) h0 n0 v U'.heap L ∧ FrameEnd U o U' L ({ frames := 0, cells := 0, slots := 0, locals := 0 } : Room).cells ({ frames := 0, cells := 0, slots := 0, locals := 0 } : Room).slots) := by
  refine MetFree.of_bodySF (plainFor_of_name pn_1) hisR ?_
  intro p e s m args below meth c s₁ Bd hml0 hP hK
  obtain ⟨rfl, hZ, hh⟩ := hP
  have hx := Bd.exec
  have hby := Bd.bytes
  have hml : c.maxLocals = 1 := hml0
  have hown : s.vm.findClass "com/example/applied_pi_checker/appliedpichecker/FunctionSymbol$Kind" = some m.cls := findClass_of_methodNamed Bd.named
  have hnm := (name_of_methodNamed Bd.named Bd.method).1
  have X0 : Stand p l e ({ frames := 0, cells := 0, slots := 0, locals := 0 } : Room) s m #[(.ref a1)] below meth c s₁ [] 0 0 := Stand.of_body Bd
  have e0 : s₁.heap = h0 := by rw [← hh, Bd.state]; rfl
  have N0 := Fr.nil n0
  have pre0 : ∀ t, Steps p.tables e below (s₁.setTop (mkF m 0 #[.val (.ref a1)] [])) t → Steps p.tables e below (s₁.setTop (entryFrame m #[(.ref a1)] 1)) t := fun t k => castTop (ef_1 m a1) k
  -- 3. LAWS
  obtain ⟨T2, X2, e2, st2⟩ := getS2 X0 hx hZ hown (host := "") (Or.inl (hw _ (List.mem_of_getElem? (i := 34) rfl))) Via.refl e0 S_FREE_NAME (g := (mkF m 1 #[.val (.ref a1)] [(.ref a1)])) rfl (hb hby d1_1)
  obtain ⟨T3, X3, e3, st3⟩ := getS2 X2 hx hZ hown (host := "") (Or.inl (hw _ (List.mem_of_getElem? (i := 35) rfl))) Via.refl e2 S_FRESH_NAME (g := (mkF m 8 #[.val (.ref a1)] [(.ref a1)])) rfl (hb hby d1_8)
  obtain ⟨T4, X4, e4, st4⟩ := getS2 X3 hx hZ hown (host := "") (Or.inl (hw _ (List.mem_of_getElem? (i := 36) rfl))) Via.refl e3 S_ATTACKER_NAME (g := (mkF m 15 #[.val (.ref a1)] [(.ref a1)])) rfl (hb hby d1_15)
  obtain ⟨fs, hr, hrun, hended, hW, hsame⟩ := X4.leave (v := some (.int (0 : Int32))) (fun h => by rw [Bd.returns] at h; cases h)
  refine ⟨_, _, pre0 _ ?_, hrun, hended, _, _, rfl, ?_, ⟨_, rfl⟩, hW, hsame.mono (by decide) (by decide)⟩
  -- 4. STEPS
  · show Steps p.tables e below (s₁.setTop (mkF m 0 #[.val (.ref a1)] [])) _
    refine XS.aloadN X0.here hx rfl (hb hby d1_0) rfl rfl ?_
    show Steps p.tables e below (s₁.setTop (mkF m 1 #[.val (.ref a1)] [(.ref a1)])) _
    refine st2 _ ?_
    show Steps p.tables e below (T2.setTop (mkF m 4 #[.val (.ref a1)] [(.ref w_FREE_NAME), (.ref a1)])) _
    refine Jvm.RoadKit.acmp (g := (mkF m 4 #[.val (.ref a1)] [(.ref w_FREE_NAME), (.ref a1)])) X2 hx rfl rfl rfl (pc0 := 4) (pc' := 7) (same := false) rfl (hb hby d1_4) rfl (decide_eq_false fun q => ha4 (Value.ref.inj q)) (by decide) (by decide) ?_
    show Steps p.tables e below (T2.setTop (mkF m 7 #[.val (.ref a1)] [])) _
    refine XS.aloadN X2.here hx rfl (hb hby d1_7) rfl rfl ?_
    show Steps p.tables e below (T2.setTop (mkF m 8 #[.val (.ref a1)] [(.ref a1)])) _
    refine st3 _ ?_
    show Steps p.tables e below (T3.setTop (mkF m 11 #[.val (.ref a1)] [(.ref w_FRESH_NAME), (.ref a1)])) _
    refine Jvm.RoadKit.acmp (g := (mkF m 11 #[.val (.ref a1)] [(.ref w_FRESH_NAME), (.ref a1)])) X3 hx rfl rfl rfl (pc0 := 11) (pc' := 14) (same := false) rfl (hb hby d1_11) rfl (decide_eq_false fun q => ha11 (Value.ref.inj q)) (by decide) (by decide) ?_
    show Steps p.tables e below (T3.setTop (mkF m 14 #[.val (.ref a1)] [])) _
    refine XS.aloadN X3.here hx rfl (hb hby d1_14) rfl rfl ?_
    show Steps p.tables e below (T3.setTop (mkF m 15 #[.val (.ref a1)] [(.ref a1)])) _
    refine st4 _ ?_
    show Steps p.tables e below (T4.setTop (mkF m 18 #[.val (.ref a1)] [(.ref w_ATTACKER_NAME), (.ref a1)])) _
    refine Jvm.RoadKit.acmp (g := (mkF m 18 #[.val (.ref a1)] [(.ref w_ATTACKER_NAME), (.ref a1)])) X4 hx rfl rfl rfl (pc0 := 18) (pc' := 25) (same := false) rfl (hb hby d1_18) rfl (decide_eq_false fun q => ha18 (Value.ref.inj q)) (by decide) (by decide) ?_
    show Steps p.tables e below (T4.setTop (mkF m 25 #[.val (.ref a1)] [])) _
    refine XS.iconst X4.here hx rfl (hb hby d1_25) ?_
    show Steps p.tables e below (T4.setTop (mkF m 26 #[.val (.ref a1)] [(.int (0 : Int32))])) _
    exact retN X4 hx (t := .boolean) Bd.returns (by simp) (hb hby d1_26) hr
  · show Qv (.int (0 : Int32)) h0 n0 _ T4.heap _
    rw [e4]
    exact ⟨rfl, N0, rfl⟩
def R1 (a1 : Addr) (w_ATTACKER_NAME : Addr) (w_FREE_NAME : Addr) (w_FRESH_NAME : Addr) (r : Int32) : Prop := ((a1 = w_FREE_NAME) ∧ r = (1 : Int32)) ∨ ((¬ (a1 = w_FREE_NAME)) ∧ (a1 = w_FRESH_NAME) ∧ r = (1 : Int32)) ∨ ((¬ (a1 = w_FREE_NAME)) ∧ (¬ (a1 = w_FRESH_NAME)) ∧ (a1 = w_ATTACKER_NAME) ∧ r = (1 : Int32)) ∨ ((¬ (a1 = w_FREE_NAME)) ∧ (¬ (a1 = w_FRESH_NAME)) ∧ (¬ (a1 = w_ATTACKER_NAME)) ∧ r = (0 : Int32))
theorem rm1 (l : Launch) (Z : State) (a0 : Array Value) (hw : ∀ d ∈ tables_1, d.before a0 Z = true) (ws : List Jvm.Cond) (a1 : Addr) (w_ATTACKER_NAME : Addr) (w_FREE_NAME : Addr) (w_FRESH_NAME : Addr) (r : Int32) (h0 : Heap) (n0 : Nat) (Z0 : n0 ≤ h0.size) (S_ATTACKER_NAME : Sta Z h0 "com/example/applied_pi_checker/appliedpichecker/FunctionSymbol$Kind" "ATTACKER_NAME" "Lcom/example/applied_pi_checker/appliedpichecker/FunctionSymbol$Kind;" (.ref w_ATTACKER_NAME)) (S_FREE_NAME : Sta Z h0 "com/example/applied_pi_checker/appliedpichecker/FunctionSymbol$Kind" "FREE_NAME" "Lcom/example/applied_pi_checker/appliedpichecker/FunctionSymbol$Kind;" (.ref w_FREE_NAME)) (S_FRESH_NAME : Sta Z h0 "com/example/applied_pi_checker/appliedpichecker/FunctionSymbol$Kind" "FRESH_NAME" "Lcom/example/applied_pi_checker/appliedpichecker/FunctionSymbol$Kind;" (.ref w_FRESH_NAME)) (hR : R1 a1 w_ATTACKER_NAME w_FREE_NAME w_FRESH_NAME r) :
    MetFree l (⟨"com/example/applied_pi_checker/appliedpichecker/FunctionSymbol$Kind", "isName", "()Z"⟩ : MethodName) (head1 (Jvm.Cond.code (⟨"com/example/applied_pi_checker/appliedpichecker/FunctionSymbol$Kind", "isName", "()Z"⟩ : MethodName) prog_68_method_4_code 1 (some .boolean) :: ws) ({ frames := 0, cells := 0, slots := 0, locals := 0 } : Room)) (fun a U => a = #[(.ref a1)] ∧ Z.Warmed39 U.vm ∧ U.heap = h0) (fun _ _ _ _ _ => True) (fun _ U o U' => ∃ v L, o = .returned v ∧ Qv (.int r) h0 n0 v U'.heap L ∧ FrameEnd U o U' L ({ frames := 0, cells := 0, slots := 0, locals := 0 } : Room).cells ({ frames := 0, cells := 0, slots := 0, locals := 0 } : Room).slots) := by
  rcases hR with ⟨ha4, hr⟩ | ⟨ha4, ha11, hr⟩ | ⟨ha4, ha11, ha18, hr⟩ | ⟨ha4, ha11, ha18, hr⟩
  · rw [hr]; exact rm1_t l Z a0 hw ws a1 w_FREE_NAME h0 n0 Z0 S_FREE_NAME ha4
  · rw [hr]; exact rm1_ft l Z a0 hw ws a1 w_FREE_NAME w_FRESH_NAME h0 n0 Z0 S_FREE_NAME S_FRESH_NAME ha4 ha11
  · rw [hr]; exact rm1_fff l Z a0 hw ws a1 w_FREE_NAME w_FRESH_NAME w_ATTACKER_NAME h0 n0 Z0 S_FREE_NAME S_FRESH_NAME S_ATTACKER_NAME ha4 ha11 ha18
  · rw [hr]; exact rm1_fft l Z a0 hw ws a1 w_FREE_NAME w_FRESH_NAME w_ATTACKER_NAME h0 n0 Z0 S_FREE_NAME S_FRESH_NAME S_ATTACKER_NAME ha4 ha11 ha18
theorem pn_0 : plainName "com/example/applied_pi_checker/appliedpichecker/KindIsNamePinLaw" = true := by first | (simp [plainName, overriddenIn]; done) | decide +kernel
theorem pd_0_0 : parseMethodDescriptor "()Z" = some ⟨[], some .boolean⟩ := by decide +kernel
theorem ef_0 (m : MethodId) (x0 : Int32) : entryFrame m #[(.int x0)] maxLocals = mkF m 0 #[.val (.int x0), .unset, .unset, .unset] [] := by first | (simp [entryFrame, mkF, argsToLocals, Value.category, maxLocals]; done) | rfl
set_option maxRecDepth 65536 in
set_option maxHeartbeats 40000000 in
theorem rm0_tf (l : Launch) (Z : State) (a0 : Array Value) (hw : ∀ d ∈ tables_1, d.before a0 Z = true) (ws : List Jvm.Cond) (p1 : Int32) (w_FREE_NAME : Addr) (w_FRESH_NAME : Addr) (w_ATTACKER_NAME : Addr) (w_CONSTANT : Addr) (w_CONSTRUCTOR : Addr) (w_DATA : Addr) (w_CONVERTER : Addr) (w_TUPLE : Addr) (w_DESTRUCTOR : Addr) (w_EVENT : Addr) (w_TABLE : Addr) (w_OCCURRENCE : Addr) (y114 : Addr) (r27 : Int32) (h0 : Heap) (n0 : Nat) (Z0 : n0 ≤ h0.size) (S_FREE_NAME : Sta Z h0 "com/example/applied_pi_checker/appliedpichecker/FunctionSymbol$Kind" "FREE_NAME" "Lcom/example/applied_pi_checker/appliedpichecker/FunctionSymbol$Kind;" (.ref w_FREE_NAME)) (E_FREE_NAME : Exa Z h0 w_FREE_NAME "com/example/applied_pi_checker/appliedpichecker/FunctionSymbol$Kind") (S_FRESH_NAME : Sta Z h0 "com/example/applied_pi_checker/appliedpichecker/FunctionSymbol$Kind" "FRESH_NAME" "Lcom/example/applied_pi_checker/appliedpichecker/FunctionSymbol$Kind;" (.ref w_FRESH_NAME)) (E_FRESH_NAME : Exa Z h0 w_FRESH_NAME "com/example/applied_pi_checker/appliedpichecker/FunctionSymbol$Kind") (S_ATTACKER_NAME : Sta Z h0 "com/example/applied_pi_checker/appliedpichecker/FunctionSymbol$Kind" "ATTACKER_NAME" "Lcom/example/applied_pi_checker/appliedpichecker/FunctionSymbol$Kind;" (.ref w_ATTACKER_NAME)) (E_ATTACKER_NAME : Exa Z h0 w_ATTACKER_NAME "com/example/applied_pi_checker/appliedpichecker/FunctionSymbol$Kind") (S_CONSTANT : Sta Z h0 "com/example/applied_pi_checker/appliedpichecker/FunctionSymbol$Kind" "CONSTANT" "Lcom/example/applied_pi_checker/appliedpichecker/FunctionSymbol$Kind;" (.ref w_CONSTANT)) (E_CONSTANT : Exa Z h0 w_CONSTANT "com/example/applied_pi_checker/appliedpichecker/FunctionSymbol$Kind") (S_CONSTRUCTOR : Sta Z h0 "com/example/applied_pi_checker/appliedpichecker/FunctionSymbol$Kind" "CONSTRUCTOR" "Lcom/example/applied_pi_checker/appliedpichecker/FunctionSymbol$Kind;" (.ref w_CONSTRUCTOR)) (E_CONSTRUCTOR : Exa Z h0 w_CONSTRUCTOR "com/example/applied_pi_checker/appliedpichecker/FunctionSymbol$Kind") (S_DATA : Sta Z h0 "com/example/applied_pi_checker/appliedpichecker/FunctionSymbol$Kind" "DATA" "Lcom/example/applied_pi_checker/appliedpichecker/FunctionSymbol$Kind;" (.ref w_DATA)) (E_DATA : Exa Z h0 w_DATA "com/example/applied_pi_checker/appliedpichecker/FunctionSymbol$Kind") (S_CONVERTER : Sta Z h0 "com/example/applied_pi_checker/appliedpichecker/FunctionSymbol$Kind" "CONVERTER" "Lcom/example/applied_pi_checker/appliedpichecker/FunctionSymbol$Kind;" (.ref w_CONVERTER)) (E_CONVERTER : Exa Z h0 w_CONVERTER "com/example/applied_pi_checker/appliedpichecker/FunctionSymbol$Kind") (S_TUPLE : Sta Z h0 "com/example/applied_pi_checker/appliedpichecker/FunctionSymbol$Kind" "TUPLE" "Lcom/example/applied_pi_checker/appliedpichecker/FunctionSymbol$Kind;" (.ref w_TUPLE)) (E_TUPLE : Exa Z h0 w_TUPLE "com/example/applied_pi_checker/appliedpichecker/FunctionSymbol$Kind") (S_DESTRUCTOR : Sta Z h0 "com/example/applied_pi_checker/appliedpichecker/FunctionSymbol$Kind" "DESTRUCTOR" "Lcom/example/applied_pi_checker/appliedpichecker/FunctionSymbol$Kind;" (.ref w_DESTRUCTOR)) (E_DESTRUCTOR : Exa Z h0 w_DESTRUCTOR "com/example/applied_pi_checker/appliedpichecker/FunctionSymbol$Kind") (S_EVENT : Sta Z h0 "com/example/applied_pi_checker/appliedpichecker/FunctionSymbol$Kind" "EVENT" "Lcom/example/applied_pi_checker/appliedpichecker/FunctionSymbol$Kind;" (.ref w_EVENT)) (E_EVENT : Exa Z h0 w_EVENT "com/example/applied_pi_checker/appliedpichecker/FunctionSymbol$Kind") (S_TABLE : Sta Z h0 "com/example/applied_pi_checker/appliedpichecker/FunctionSymbol$Kind" "TABLE" "Lcom/example/applied_pi_checker/appliedpichecker/FunctionSymbol$Kind;" (.ref w_TABLE)) (E_TABLE : Exa Z h0 w_TABLE "com/example/applied_pi_checker/appliedpichecker/FunctionSymbol$Kind") (S_OCCURRENCE : Sta Z h0 "com/example/applied_pi_checker/appliedpichecker/FunctionSymbol$Kind" "OCCURRENCE" "Lcom/example/applied_pi_checker/appliedpichecker/FunctionSymbol$Kind;" (.ref w_OCCURRENCE)) (E_OCCURRENCE : Exa Z h0 w_OCCURRENCE "com/example/applied_pi_checker/appliedpichecker/FunctionSymbol$Kind") (P27 : R1 y114 w_ATTACKER_NAME w_FREE_NAME w_FRESH_NAME r27) (E_y114 : Exa Z h0 y114 "com/example/applied_pi_checker/appliedpichecker/FunctionSymbol$Kind") (hc93 : ((p1 &&& (2147483647 : Int32)) % (12 : Int32)) = (0 : Int32)) (hi114 : ¬ ((p1 &&& (2147483647 : Int32)) % (12 : Int32)) < 0 ∧ ((p1 &&& (2147483647 : Int32)) % (12 : Int32)) < (12 : Int32)) (hv114 : ([(.ref w_FREE_NAME), (.ref w_FRESH_NAME), (.ref w_ATTACKER_NAME), (.ref w_CONSTANT), (.ref w_CONSTRUCTOR), (.ref w_DATA), (.ref w_CONVERTER), (.ref w_TUPLE), (.ref w_DESTRUCTOR), (.ref w_EVENT), (.ref w_TABLE), (.ref w_OCCURRENCE)] : List Value).getD (((p1 &&& (2147483647 : Int32)) % (12 : Int32))).toNatClampNeg (.null : Value) = (.ref y114 : Value)) (hc119 : r27 = (1 : Int32)) :
    MetFree l x (head1 (Jvm.Cond.code x code maxLocals ret :: ws) room_1) (fun a U => a = #[(.int p1)] ∧ Z.Warmed39 U.vm ∧ U.heap = h0) (fun _ _ _ _ _ => True) (fun _ U o U' => ∃ v L, o = .returned v ∧ Q0 n0 v U'.heap L ∧ FrameEnd U o U' L room_1.cells room_1.slots) := by
  refine MetFree.of_bodySF (plainFor_of_name pn_0) hisR ?_
  intro p e s m args below meth c s₁ Bd hml0 hP hK
  obtain ⟨rfl, hZ, hh⟩ := hP
  have hx := Bd.exec
  have hby := Bd.bytes
  have hml : c.maxLocals = 4 := hml0
  have hown : s.vm.findClass "com/example/applied_pi_checker/appliedpichecker/KindIsNamePinLaw" = some m.cls := findClass_of_methodNamed Bd.named
  have hnm := (name_of_methodNamed Bd.named Bd.method).1
  have X0 : Stand p l e room_1 s m #[(.int p1)] below meth c s₁ [] 0 0 := Stand.of_body Bd
  have e0 : s₁.heap = h0 := by rw [← hh, Bd.state]; rfl
  have N0 := Fr.nil n0
  have pre0 : ∀ t, Steps p.tables e below (s₁.setTop (mkF m 0 #[.val (.int p1), .unset, .unset, .unset] [])) t → Steps p.tables e below (s₁.setTop (entryFrame m #[(.int p1)] maxLocals)) t := fun t k => castTop (ef_0 m p1) k
  -- 3. LAWS
  obtain ⟨T2, h2, k2, X2, e2, E2, A2, O2, st2⟩ := newR X0 hx hZ hown (hw _ (List.mem_of_getElem? (i := 0) rfl)) (hw _ (List.mem_of_getElem? (i := 1) rfl)) e0 (g := (mkF m 2 #[.val (.int p1), .unset, .unset, .unset] [(.int (12 : Int32))])) rfl (hb hby at_2) rfl (by decide) (cap := 12) (by decide) (by decide) (by decide) (by decide)
  obtain ⟨b2, g2⟩ : ∃ z, z = h0.size := ⟨_, rfl⟩
  rw [← g2] at A2 st2
  have V_b2 : Arv Z h2 b2 k2 (.object "com/example/applied_pi_checker/appliedpichecker/FunctionSymbol$Kind") (12 : Int32) [.null, .null, .null, .null, .null, .null, .null, .null, .null, .null, .null, .null] .null := (Arv.new A2 (by decide)).pad (pad_rep [] .null 12)
  have g_b2 : n0 ≤ b2 := Nat.le_trans Z0 (Nat.le_of_eq g2.symm)
  obtain ⟨T3, X3, e3, st3⟩ := getS2 X2 hx hZ hown (host := "") (Or.inl (hw _ (List.mem_of_getElem? (i := 2) rfl))) Via.refl e2 (S_FREE_NAME.ext E2) (g := (mkF m 7 #[.val (.int p1), .unset, .unset, .unset] [(.int (0 : Int32)), (.ref b2), (.ref b2)])) rfl (hb hby at_7)
  obtain ⟨cl10v, Ar10v, q10v, S10v, N10v, H10v, G10v⟩ := V_b2
  have hin10 : ¬ ((0 : Int32) < 0 ∨ cl10v.slots.size ≤ ((0 : Int32)).toNatClampNeg) := inb_of S10v ⟨by decide, by decide⟩
  obtain ⟨T4, h4, X4, e4, W4, st4⟩ := stR X3 hx hZ e3 Ar10v (j := (0 : Int32)) hin10 rfl (Sto.ofV Ar10v q10v O2 (Ins.self (E_FREE_NAME.ext E2))) (g := (mkF m 10 #[.val (.int p1), .unset, .unset, .unset] [(.ref w_FREE_NAME), (.int (0 : Int32)), (.ref b2), (.ref b2)])) rfl rfl (hb hby at_10)
  have V10 : Arv Z h4 b2 k2 (.object "com/example/applied_pi_checker/appliedpichecker/FunctionSymbol$Kind") (12 : Int32) [(.ref w_FREE_NAME), .null, .null, .null, .null, .null, .null, .null, .null, .null, .null, .null] .null := Arv.set Ar10v q10v S10v N10v H10v G10v rfl W4 0 rfl (Nat.le_of_ble_eq_true rfl)
  have N4 := Fr.snoc X4 N0 g_b2
  obtain ⟨T5, X5, e5, st5⟩ := getS2 X4 hx hZ hown (host := "") (Or.inl (hw _ (List.mem_of_getElem? (i := 6) rfl))) Via.refl e4 ((S_FRESH_NAME.ext E2).wr W4) (g := (mkF m 13 #[.val (.int p1), .unset, .unset, .unset] [(.int (1 : Int32)), (.ref b2), (.ref b2)])) rfl (hb hby at_13)
  obtain ⟨cl16v, Ar16v, q16v, S16v, N16v, H16v, G16v⟩ := V10
  have hin16 : ¬ ((1 : Int32) < 0 ∨ cl16v.slots.size ≤ ((1 : Int32)).toNatClampNeg) := inb_of S16v ⟨by decide, by decide⟩
  obtain ⟨T6, h6, X6, e6, W6, st6⟩ := stR X5 hx hZ e5 Ar16v (j := (1 : Int32)) hin16 rfl (Sto.ofV Ar16v q16v O2 (Ins.self ((E_FRESH_NAME.ext E2).wr W4))) (g := (mkF m 16 #[.val (.int p1), .unset, .unset, .unset] [(.ref w_FRESH_NAME), (.int (1 : Int32)), (.ref b2), (.ref b2)])) rfl rfl (hb hby at_16)
  have V16 : Arv Z h6 b2 k2 (.object "com/example/applied_pi_checker/appliedpichecker/FunctionSymbol$Kind") (12 : Int32) [(.ref w_FREE_NAME), (.ref w_FRESH_NAME), .null, .null, .null, .null, .null, .null, .null, .null, .null, .null] .null := Arv.set Ar16v q16v S16v N16v H16v G16v rfl W6 1 rfl (Nat.le_of_ble_eq_true rfl)
  have N6 := Fr.snoc X6 N4 g_b2
  obtain ⟨T7, X7, e7, st7⟩ := getS2 X6 hx hZ hown (host := "") (Or.inl (hw _ (List.mem_of_getElem? (i := 8) rfl))) Via.refl e6 (((S_ATTACKER_NAME.ext E2).wr W4).wr W6) (g := (mkF m 19 #[.val (.int p1), .unset, .unset, .unset] [(.int (2 : Int32)), (.ref b2), (.ref b2)])) rfl (hb hby at_19)
  obtain ⟨cl22v, Ar22v, q22v, S22v, N22v, H22v, G22v⟩ := V16
  have hin22 : ¬ ((2 : Int32) < 0 ∨ cl22v.slots.size ≤ ((2 : Int32)).toNatClampNeg) := inb_of S22v ⟨by decide, by decide⟩
  obtain ⟨T8, h8, X8, e8, W8, st8⟩ := stR X7 hx hZ e7 Ar22v (j := (2 : Int32)) hin22 rfl (Sto.ofV Ar22v q22v O2 (Ins.self (((E_ATTACKER_NAME.ext E2).wr W4).wr W6))) (g := (mkF m 22 #[.val (.int p1), .unset, .unset, .unset] [(.ref w_ATTACKER_NAME), (.int (2 : Int32)), (.ref b2), (.ref b2)])) rfl rfl (hb hby at_22)
  have V22 : Arv Z h8 b2 k2 (.object "com/example/applied_pi_checker/appliedpichecker/FunctionSymbol$Kind") (12 : Int32) [(.ref w_FREE_NAME), (.ref w_FRESH_NAME), (.ref w_ATTACKER_NAME), .null, .null, .null, .null, .null, .null, .null, .null, .null] .null := Arv.set Ar22v q22v S22v N22v H22v G22v rfl W8 2 rfl (Nat.le_of_ble_eq_true rfl)
  have N8 := Fr.snoc X8 N6 g_b2
  obtain ⟨T9, X9, e9, st9⟩ := getS2 X8 hx hZ hown (host := "") (Or.inl (hw _ (List.mem_of_getElem? (i := 10) rfl))) Via.refl e8 ((((S_CONSTANT.ext E2).wr W4).wr W6).wr W8) (g := (mkF m 25 #[.val (.int p1), .unset, .unset, .unset] [(.int (3 : Int32)), (.ref b2), (.ref b2)])) rfl (hb hby at_25)
  obtain ⟨cl28v, Ar28v, q28v, S28v, N28v, H28v, G28v⟩ := V22
  have hin28 : ¬ ((3 : Int32) < 0 ∨ cl28v.slots.size ≤ ((3 : Int32)).toNatClampNeg) := inb_of S28v ⟨by decide, by decide⟩
  obtain ⟨T10, h10, X10, e10, W10, st10⟩ := stR X9 hx hZ e9 Ar28v (j := (3 : Int32)) hin28 rfl (Sto.ofV Ar28v q28v O2 (Ins.self ((((E_CONSTANT.ext E2).wr W4).wr W6).wr W8))) (g := (mkF m 28 #[.val (.int p1), .unset, .unset, .unset] [(.ref w_CONSTANT), (.int (3 : Int32)), (.ref b2), (.ref b2)])) rfl rfl (hb hby at_28)
  have V28 : Arv Z h10 b2 k2 (.object "com/example/applied_pi_checker/appliedpichecker/FunctionSymbol$Kind") (12 : Int32) [(.ref w_FREE_NAME), (.ref w_FRESH_NAME), (.ref w_ATTACKER_NAME), (.ref w_CONSTANT), .null, .null, .null, .null, .null, .null, .null, .null] .null := Arv.set Ar28v q28v S28v N28v H28v G28v rfl W10 3 rfl (Nat.le_of_ble_eq_true rfl)
  have N10 := Fr.snoc X10 N8 g_b2
  obtain ⟨T11, X11, e11, st11⟩ := getS2 X10 hx hZ hown (host := "") (Or.inl (hw _ (List.mem_of_getElem? (i := 12) rfl))) Via.refl e10 (((((S_CONSTRUCTOR.ext E2).wr W4).wr W6).wr W8).wr W10) (g := (mkF m 31 #[.val (.int p1), .unset, .unset, .unset] [(.int (4 : Int32)), (.ref b2), (.ref b2)])) rfl (hb hby at_31)
  obtain ⟨cl34v, Ar34v, q34v, S34v, N34v, H34v, G34v⟩ := V28
  have hin34 : ¬ ((4 : Int32) < 0 ∨ cl34v.slots.size ≤ ((4 : Int32)).toNatClampNeg) := inb_of S34v ⟨by decide, by decide⟩
  obtain ⟨T12, h12, X12, e12, W12, st12⟩ := stR X11 hx hZ e11 Ar34v (j := (4 : Int32)) hin34 rfl (Sto.ofV Ar34v q34v O2 (Ins.self (((((E_CONSTRUCTOR.ext E2).wr W4).wr W6).wr W8).wr W10))) (g := (mkF m 34 #[.val (.int p1), .unset, .unset, .unset] [(.ref w_CONSTRUCTOR), (.int (4 : Int32)), (.ref b2), (.ref b2)])) rfl rfl (hb hby at_34)
  have V34 : Arv Z h12 b2 k2 (.object "com/example/applied_pi_checker/appliedpichecker/FunctionSymbol$Kind") (12 : Int32) [(.ref w_FREE_NAME), (.ref w_FRESH_NAME), (.ref w_ATTACKER_NAME), (.ref w_CONSTANT), (.ref w_CONSTRUCTOR), .null, .null, .null, .null, .null, .null, .null] .null := Arv.set Ar34v q34v S34v N34v H34v G34v rfl W12 4 rfl (Nat.le_of_ble_eq_true rfl)
  have N12 := Fr.snoc X12 N10 g_b2
  obtain ⟨T13, X13, e13, st13⟩ := getS2 X12 hx hZ hown (host := "") (Or.inl (hw _ (List.mem_of_getElem? (i := 14) rfl))) Via.refl e12 ((((((S_DATA.ext E2).wr W4).wr W6).wr W8).wr W10).wr W12) (g := (mkF m 37 #[.val (.int p1), .unset, .unset, .unset] [(.int (5 : Int32)), (.ref b2), (.ref b2)])) rfl (hb hby at_37)
  obtain ⟨cl40v, Ar40v, q40v, S40v, N40v, H40v, G40v⟩ := V34
  have hin40 : ¬ ((5 : Int32) < 0 ∨ cl40v.slots.size ≤ ((5 : Int32)).toNatClampNeg) := inb_of S40v ⟨by decide, by decide⟩
  obtain ⟨T14, h14, X14, e14, W14, st14⟩ := stR X13 hx hZ e13 Ar40v (j := (5 : Int32)) hin40 rfl (Sto.ofV Ar40v q40v O2 (Ins.self ((((((E_DATA.ext E2).wr W4).wr W6).wr W8).wr W10).wr W12))) (g := (mkF m 40 #[.val (.int p1), .unset, .unset, .unset] [(.ref w_DATA), (.int (5 : Int32)), (.ref b2), (.ref b2)])) rfl rfl (hb hby at_40)
  have V40 : Arv Z h14 b2 k2 (.object "com/example/applied_pi_checker/appliedpichecker/FunctionSymbol$Kind") (12 : Int32) [(.ref w_FREE_NAME), (.ref w_FRESH_NAME), (.ref w_ATTACKER_NAME), (.ref w_CONSTANT), (.ref w_CONSTRUCTOR), (.ref w_DATA), .null, .null, .null, .null, .null, .null] .null := Arv.set Ar40v q40v S40v N40v H40v G40v rfl W14 5 rfl (Nat.le_of_ble_eq_true rfl)
  have N14 := Fr.snoc X14 N12 g_b2
  obtain ⟨T15, X15, e15, st15⟩ := getS2 X14 hx hZ hown (host := "") (Or.inl (hw _ (List.mem_of_getElem? (i := 16) rfl))) Via.refl e14 (((((((S_CONVERTER.ext E2).wr W4).wr W6).wr W8).wr W10).wr W12).wr W14) (g := (mkF m 44 #[.val (.int p1), .unset, .unset, .unset] [(.int (6 : Int32)), (.ref b2), (.ref b2)])) rfl (hb hby at_44)
  obtain ⟨cl47v, Ar47v, q47v, S47v, N47v, H47v, G47v⟩ := V40
  have hin47 : ¬ ((6 : Int32) < 0 ∨ cl47v.slots.size ≤ ((6 : Int32)).toNatClampNeg) := inb_of S47v ⟨by decide, by decide⟩
  obtain ⟨T16, h16, X16, e16, W16, st16⟩ := stR X15 hx hZ e15 Ar47v (j := (6 : Int32)) hin47 rfl (Sto.ofV Ar47v q47v O2 (Ins.self (((((((E_CONVERTER.ext E2).wr W4).wr W6).wr W8).wr W10).wr W12).wr W14))) (g := (mkF m 47 #[.val (.int p1), .unset, .unset, .unset] [(.ref w_CONVERTER), (.int (6 : Int32)), (.ref b2), (.ref b2)])) rfl rfl (hb hby at_47)
  have V47 : Arv Z h16 b2 k2 (.object "com/example/applied_pi_checker/appliedpichecker/FunctionSymbol$Kind") (12 : Int32) [(.ref w_FREE_NAME), (.ref w_FRESH_NAME), (.ref w_ATTACKER_NAME), (.ref w_CONSTANT), (.ref w_CONSTRUCTOR), (.ref w_DATA), (.ref w_CONVERTER), .null, .null, .null, .null, .null] .null := Arv.set Ar47v q47v S47v N47v H47v G47v rfl W16 6 rfl (Nat.le_of_ble_eq_true rfl)
  have N16 := Fr.snoc X16 N14 g_b2
  obtain ⟨T17, X17, e17, st17⟩ := getS2 X16 hx hZ hown (host := "") (Or.inl (hw _ (List.mem_of_getElem? (i := 18) rfl))) Via.refl e16 ((((((((S_TUPLE.ext E2).wr W4).wr W6).wr W8).wr W10).wr W12).wr W14).wr W16) (g := (mkF m 51 #[.val (.int p1), .unset, .unset, .unset] [(.int (7 : Int32)), (.ref b2), (.ref b2)])) rfl (hb hby at_51)
  obtain ⟨cl54v, Ar54v, q54v, S54v, N54v, H54v, G54v⟩ := V47
  have hin54 : ¬ ((7 : Int32) < 0 ∨ cl54v.slots.size ≤ ((7 : Int32)).toNatClampNeg) := inb_of S54v ⟨by decide, by decide⟩
  obtain ⟨T18, h18, X18, e18, W18, st18⟩ := stR X17 hx hZ e17 Ar54v (j := (7 : Int32)) hin54 rfl (Sto.ofV Ar54v q54v O2 (Ins.self ((((((((E_TUPLE.ext E2).wr W4).wr W6).wr W8).wr W10).wr W12).wr W14).wr W16))) (g := (mkF m 54 #[.val (.int p1), .unset, .unset, .unset] [(.ref w_TUPLE), (.int (7 : Int32)), (.ref b2), (.ref b2)])) rfl rfl (hb hby at_54)
  have V54 : Arv Z h18 b2 k2 (.object "com/example/applied_pi_checker/appliedpichecker/FunctionSymbol$Kind") (12 : Int32) [(.ref w_FREE_NAME), (.ref w_FRESH_NAME), (.ref w_ATTACKER_NAME), (.ref w_CONSTANT), (.ref w_CONSTRUCTOR), (.ref w_DATA), (.ref w_CONVERTER), (.ref w_TUPLE), .null, .null, .null, .null] .null := Arv.set Ar54v q54v S54v N54v H54v G54v rfl W18 7 rfl (Nat.le_of_ble_eq_true rfl)
  have N18 := Fr.snoc X18 N16 g_b2
  obtain ⟨T19, X19, e19, st19⟩ := getS2 X18 hx hZ hown (host := "") (Or.inl (hw _ (List.mem_of_getElem? (i := 20) rfl))) Via.refl e18 (((((((((S_DESTRUCTOR.ext E2).wr W4).wr W6).wr W8).wr W10).wr W12).wr W14).wr W16).wr W18) (g := (mkF m 58 #[.val (.int p1), .unset, .unset, .unset] [(.int (8 : Int32)), (.ref b2), (.ref b2)])) rfl (hb hby at_58)
  obtain ⟨cl61v, Ar61v, q61v, S61v, N61v, H61v, G61v⟩ := V54
  have hin61 : ¬ ((8 : Int32) < 0 ∨ cl61v.slots.size ≤ ((8 : Int32)).toNatClampNeg) := inb_of S61v ⟨by decide, by decide⟩
  obtain ⟨T20, h20, X20, e20, W20, st20⟩ := stR X19 hx hZ e19 Ar61v (j := (8 : Int32)) hin61 rfl (Sto.ofV Ar61v q61v O2 (Ins.self (((((((((E_DESTRUCTOR.ext E2).wr W4).wr W6).wr W8).wr W10).wr W12).wr W14).wr W16).wr W18))) (g := (mkF m 61 #[.val (.int p1), .unset, .unset, .unset] [(.ref w_DESTRUCTOR), (.int (8 : Int32)), (.ref b2), (.ref b2)])) rfl rfl (hb hby at_61)
  have V61 : Arv Z h20 b2 k2 (.object "com/example/applied_pi_checker/appliedpichecker/FunctionSymbol$Kind") (12 : Int32) [(.ref w_FREE_NAME), (.ref w_FRESH_NAME), (.ref w_ATTACKER_NAME), (.ref w_CONSTANT), (.ref w_CONSTRUCTOR), (.ref w_DATA), (.ref w_CONVERTER), (.ref w_TUPLE), (.ref w_DESTRUCTOR), .null, .null, .null] .null := Arv.set Ar61v q61v S61v N61v H61v G61v rfl W20 8 rfl (Nat.le_of_ble_eq_true rfl)
  have N20 := Fr.snoc X20 N18 g_b2
  obtain ⟨T21, X21, e21, st21⟩ := getS2 X20 hx hZ hown (host := "") (Or.inl (hw _ (List.mem_of_getElem? (i := 22) rfl))) Via.refl e20 ((((((((((S_EVENT.ext E2).wr W4).wr W6).wr W8).wr W10).wr W12).wr W14).wr W16).wr W18).wr W20) (g := (mkF m 65 #[.val (.int p1), .unset, .unset, .unset] [(.int (9 : Int32)), (.ref b2), (.ref b2)])) rfl (hb hby at_65)
  obtain ⟨cl68v, Ar68v, q68v, S68v, N68v, H68v, G68v⟩ := V61
  have hin68 : ¬ ((9 : Int32) < 0 ∨ cl68v.slots.size ≤ ((9 : Int32)).toNatClampNeg) := inb_of S68v ⟨by decide, by decide⟩
  obtain ⟨T22, h22, X22, e22, W22, st22⟩ := stR X21 hx hZ e21 Ar68v (j := (9 : Int32)) hin68 rfl (Sto.ofV Ar68v q68v O2 (Ins.self ((((((((((E_EVENT.ext E2).wr W4).wr W6).wr W8).wr W10).wr W12).wr W14).wr W16).wr W18).wr W20))) (g := (mkF m 68 #[.val (.int p1), .unset, .unset, .unset] [(.ref w_EVENT), (.int (9 : Int32)), (.ref b2), (.ref b2)])) rfl rfl (hb hby at_68)
  have V68 : Arv Z h22 b2 k2 (.object "com/example/applied_pi_checker/appliedpichecker/FunctionSymbol$Kind") (12 : Int32) [(.ref w_FREE_NAME), (.ref w_FRESH_NAME), (.ref w_ATTACKER_NAME), (.ref w_CONSTANT), (.ref w_CONSTRUCTOR), (.ref w_DATA), (.ref w_CONVERTER), (.ref w_TUPLE), (.ref w_DESTRUCTOR), (.ref w_EVENT), .null, .null] .null := Arv.set Ar68v q68v S68v N68v H68v G68v rfl W22 9 rfl (Nat.le_of_ble_eq_true rfl)
  have N22 := Fr.snoc X22 N20 g_b2
  obtain ⟨T23, X23, e23, st23⟩ := getS2 X22 hx hZ hown (host := "") (Or.inl (hw _ (List.mem_of_getElem? (i := 24) rfl))) Via.refl e22 (((((((((((S_TABLE.ext E2).wr W4).wr W6).wr W8).wr W10).wr W12).wr W14).wr W16).wr W18).wr W20).wr W22) (g := (mkF m 72 #[.val (.int p1), .unset, .unset, .unset] [(.int (10 : Int32)), (.ref b2), (.ref b2)])) rfl (hb hby at_72)
  obtain ⟨cl75v, Ar75v, q75v, S75v, N75v, H75v, G75v⟩ := V68
  have hin75 : ¬ ((10 : Int32) < 0 ∨ cl75v.slots.size ≤ ((10 : Int32)).toNatClampNeg) := inb_of S75v ⟨by decide, by decide⟩
  obtain ⟨T24, h24, X24, e24, W24, st24⟩ := stR X23 hx hZ e23 Ar75v (j := (10 : Int32)) hin75 rfl (Sto.ofV Ar75v q75v O2 (Ins.self (((((((((((E_TABLE.ext E2).wr W4).wr W6).wr W8).wr W10).wr W12).wr W14).wr W16).wr W18).wr W20).wr W22))) (g := (mkF m 75 #[.val (.int p1), .unset, .unset, .unset] [(.ref w_TABLE), (.int (10 : Int32)), (.ref b2), (.ref b2)])) rfl rfl (hb hby at_75)
  have V75 : Arv Z h24 b2 k2 (.object "com/example/applied_pi_checker/appliedpichecker/FunctionSymbol$Kind") (12 : Int32) [(.ref w_FREE_NAME), (.ref w_FRESH_NAME), (.ref w_ATTACKER_NAME), (.ref w_CONSTANT), (.ref w_CONSTRUCTOR), (.ref w_DATA), (.ref w_CONVERTER), (.ref w_TUPLE), (.ref w_DESTRUCTOR), (.ref w_EVENT), (.ref w_TABLE), .null] .null := Arv.set Ar75v q75v S75v N75v H75v G75v rfl W24 10 rfl (Nat.le_of_ble_eq_true rfl)
  have N24 := Fr.snoc X24 N22 g_b2
  obtain ⟨T25, X25, e25, st25⟩ := getS2 X24 hx hZ hown (host := "") (Or.inl (hw _ (List.mem_of_getElem? (i := 26) rfl))) Via.refl e24 ((((((((((((S_OCCURRENCE.ext E2).wr W4).wr W6).wr W8).wr W10).wr W12).wr W14).wr W16).wr W18).wr W20).wr W22).wr W24) (g := (mkF m 79 #[.val (.int p1), .unset, .unset, .unset] [(.int (11 : Int32)), (.ref b2), (.ref b2)])) rfl (hb hby at_79)
  obtain ⟨cl82v, Ar82v, q82v, S82v, N82v, H82v, G82v⟩ := V75
  have hin82 : ¬ ((11 : Int32) < 0 ∨ cl82v.slots.size ≤ ((11 : Int32)).toNatClampNeg) := inb_of S82v ⟨by decide, by decide⟩
  obtain ⟨T26, h26, X26, e26, W26, st26⟩ := stR X25 hx hZ e25 Ar82v (j := (11 : Int32)) hin82 rfl (Sto.ofV Ar82v q82v O2 (Ins.self ((((((((((((E_OCCURRENCE.ext E2).wr W4).wr W6).wr W8).wr W10).wr W12).wr W14).wr W16).wr W18).wr W20).wr W22).wr W24))) (g := (mkF m 82 #[.val (.int p1), .unset, .unset, .unset] [(.ref w_OCCURRENCE), (.int (11 : Int32)), (.ref b2), (.ref b2)])) rfl rfl (hb hby at_82)
  have V82 : Arv Z h26 b2 k2 (.object "com/example/applied_pi_checker/appliedpichecker/FunctionSymbol$Kind") (12 : Int32) [(.ref w_FREE_NAME), (.ref w_FRESH_NAME), (.ref w_ATTACKER_NAME), (.ref w_CONSTANT), (.ref w_CONSTRUCTOR), (.ref w_DATA), (.ref w_CONVERTER), (.ref w_TUPLE), (.ref w_DESTRUCTOR), (.ref w_EVENT), (.ref w_TABLE), (.ref w_OCCURRENCE)] .null := Arv.set Ar82v q82v S82v N82v H82v G82v rfl W26 11 rfl (Nat.le_of_ble_eq_true rfl)
  have N26 := Fr.snoc X26 N24 g_b2
  obtain ⟨cl114v, Ar114v, q114v, S114v, N114v, H114v, G114v⟩ := V82
  have hin114 : ¬ (((p1 &&& (2147483647 : Int32)) % (12 : Int32)) < 0 ∨ cl114v.slots.size ≤ (((p1 &&& (2147483647 : Int32)) % (12 : Int32))).toNatClampNeg) := inb_of S114v hi114
  have hat114 := Has.at H114v hin114 hv114
  obtain ⟨cq27, kq27, q27a, q27b, q27c⟩ := isOf hZ e26 (((((((((((((E_y114.ext E2).wr W4).wr W6).wr W8).wr W10).wr W12).wr W14).wr W16).wr W18).wr W20).wr W22).wr W24).wr W26)
  obtain ⟨_, _, ⟨T27, L27, k27, n27⟩, -, X27, ⟨Lc27, hQ27, l27, y27, z27⟩, st27⟩ := X26.virtualBack hx (y := (⟨"com/example/applied_pi_checker/appliedpichecker/FunctionSymbol$Kind", "isName", "()Z"⟩ : MethodName)) (z := (⟨"com/example/applied_pi_checker/appliedpichecker/FunctionSymbol$Kind", "isName", "()Z"⟩ : MethodName)) hown (mvT hZ (hw _ (List.mem_of_getElem? (i := 29) rfl))) (mvT hZ (hw _ (List.mem_of_getElem? (i := 30) rfl))) (notFace_of_selects (args := #[]) (mvT hZ (hw _ (List.mem_of_getElem? (i := 32) rfl)))) (mvT hZ (hw _ (List.mem_of_getElem? (i := 32) rfl))) (mvT hZ (hw _ (List.mem_of_getElem? (i := 31) rfl))) (by decide) (backOf (W := 0) (rm1 l Z a0 hw [] y114 w_ATTACKER_NAME w_FREE_NAME w_FRESH_NAME r27 h26 n0 (Nat.le_trans (Nat.le_trans (Nat.le_trans (Nat.le_trans (Nat.le_trans (Nat.le_trans (Nat.le_trans (Nat.le_trans (Nat.le_trans (Nat.le_trans (Nat.le_trans (Nat.le_trans (Nat.le_trans Z0 E2.1) (Keep.of_wr W4).1) (Keep.of_wr W6).1) (Keep.of_wr W8).1) (Keep.of_wr W10).1) (Keep.of_wr W12).1) (Keep.of_wr W14).1) (Keep.of_wr W16).1) (Keep.of_wr W18).1) (Keep.of_wr W20).1) (Keep.of_wr W22).1) (Keep.of_wr W24).1) (Keep.of_wr W26).1) (((((((((((((S_ATTACKER_NAME.ext E2).wr W4).wr W6).wr W8).wr W10).wr W12).wr W14).wr W16).wr W18).wr W20).wr W22).wr W24).wr W26) (((((((((((((S_FREE_NAME.ext E2).wr W4).wr W6).wr W8).wr W10).wr W12).wr W14).wr W16).wr W18).wr W20).wr W22).wr W24).wr W26) (((((((((((((S_FRESH_NAME.ext E2).wr W4).wr W6).wr W8).wr W10).wr W12).wr W14).wr W16).wr W18).wr W20).wr W22).wr W24).wr W26) P27) hZ (hw _ (List.mem_of_getElem? (i := 33) rfl)) (hw _ (List.mem_of_getElem? (i := 3) rfl)) (by decide) (by decide)) q27a q27c (g := (mkF m 115 #[.val (.int p1), .val (.ref b2), .val (.int ((p1 &&& (2147483647 : Int32)) % (12 : Int32))), .val (.int (1 : Int32))] [(.ref y114)])) rfl (by rw [hml]; rfl) (Steps.refl _) (argsL := []) (rest := []) (lenOf pd_0_0 rfl) rfl (by show 2 * 0 + _ ≤ _; exact Nat.le_of_eq rfl) (hb hby at_115) (fun _ _ => ⟨rfl, e26, (by decide : 1 + 0 ≤ _), (by decide : 12 + 0 ≤ _)⟩)
  dsimp only [Pt.U, Pt.locs, Pt.cells, Pt.slots] at X27 l27 y27 z27 st27 hQ27
  subst l27 y27 z27
  obtain ⟨rfl, N27q, e27⟩ := hQ27
  have N27 := Fr.app N26 N27q
  obtain ⟨fs, hr, hrun, hended, hW, hsame⟩ := X27.leave (v := some (.int (1 : Int32))) (fun h => by rw [Bd.returns] at h; cases h)
  refine ⟨_, _, pre0 _ ?_, hrun, hended, _, _, rfl, ?_, ⟨_, rfl⟩, hW, hsame.mono (by decide) (by decide)⟩
  -- 4. STEPS
  · show Steps p.tables e below (s₁.setTop (mkF m 0 #[.val (.int p1), .unset, .unset, .unset] [])) _
    refine XS.bipush X0.here hx rfl (hb hby at_0) ?_
    show Steps p.tables e below (s₁.setTop (mkF m 2 #[.val (.int p1), .unset, .unset, .unset] [(.int (12 : Int32))])) _
    refine st2 _ ?_
    show Steps p.tables e below (T2.setTop (mkF m 5 #[.val (.int p1), .unset, .unset, .unset] [(.ref b2)])) _
    refine XS.dup X2.here hx rfl (hb hby at_5) rfl rfl ?_
    show Steps p.tables e below (T2.setTop (mkF m 6 #[.val (.int p1), .unset, .unset, .unset] [(.ref b2), (.ref b2)])) _
    refine XS.iconst X2.here hx rfl (hb hby at_6) ?_
    show Steps p.tables e below (T2.setTop (mkF m 7 #[.val (.int p1), .unset, .unset, .unset] [(.int (0 : Int32)), (.ref b2), (.ref b2)])) _
    refine st3 _ ?_
    show Steps p.tables e below (T3.setTop (mkF m 10 #[.val (.int p1), .unset, .unset, .unset] [(.ref w_FREE_NAME), (.int (0 : Int32)), (.ref b2), (.ref b2)])) _
    refine st4 _ ?_
    show Steps p.tables e below (T4.setTop (mkF m 11 #[.val (.int p1), .unset, .unset, .unset] [(.ref b2)])) _
    refine XS.dup X4.here hx rfl (hb hby at_11) rfl rfl ?_
    show Steps p.tables e below (T4.setTop (mkF m 12 #[.val (.int p1), .unset, .unset, .unset] [(.ref b2), (.ref b2)])) _
    refine XS.iconst X4.here hx rfl (hb hby at_12) ?_
    show Steps p.tables e below (T4.setTop (mkF m 13 #[.val (.int p1), .unset, .unset, .unset] [(.int (1 : Int32)), (.ref b2), (.ref b2)])) _
    refine st5 _ ?_
    show Steps p.tables e below (T5.setTop (mkF m 16 #[.val (.int p1), .unset, .unset, .unset] [(.ref w_FRESH_NAME), (.int (1 : Int32)), (.ref b2), (.ref b2)])) _
    refine st6 _ ?_
    show Steps p.tables e below (T6.setTop (mkF m 17 #[.val (.int p1), .unset, .unset, .unset] [(.ref b2)])) _
    refine XS.dup X6.here hx rfl (hb hby at_17) rfl rfl ?_
    show Steps p.tables e below (T6.setTop (mkF m 18 #[.val (.int p1), .unset, .unset, .unset] [(.ref b2), (.ref b2)])) _
    refine XS.iconst X6.here hx rfl (hb hby at_18) ?_
    show Steps p.tables e below (T6.setTop (mkF m 19 #[.val (.int p1), .unset, .unset, .unset] [(.int (2 : Int32)), (.ref b2), (.ref b2)])) _
    refine st7 _ ?_
    show Steps p.tables e below (T7.setTop (mkF m 22 #[.val (.int p1), .unset, .unset, .unset] [(.ref w_ATTACKER_NAME), (.int (2 : Int32)), (.ref b2), (.ref b2)])) _
    refine st8 _ ?_
    show Steps p.tables e below (T8.setTop (mkF m 23 #[.val (.int p1), .unset, .unset, .unset] [(.ref b2)])) _
    refine XS.dup X8.here hx rfl (hb hby at_23) rfl rfl ?_
    show Steps p.tables e below (T8.setTop (mkF m 24 #[.val (.int p1), .unset, .unset, .unset] [(.ref b2), (.ref b2)])) _
    refine XS.iconst X8.here hx rfl (hb hby at_24) ?_
    show Steps p.tables e below (T8.setTop (mkF m 25 #[.val (.int p1), .unset, .unset, .unset] [(.int (3 : Int32)), (.ref b2), (.ref b2)])) _
    refine st9 _ ?_
    show Steps p.tables e below (T9.setTop (mkF m 28 #[.val (.int p1), .unset, .unset, .unset] [(.ref w_CONSTANT), (.int (3 : Int32)), (.ref b2), (.ref b2)])) _
    refine st10 _ ?_
    show Steps p.tables e below (T10.setTop (mkF m 29 #[.val (.int p1), .unset, .unset, .unset] [(.ref b2)])) _
    refine XS.dup X10.here hx rfl (hb hby at_29) rfl rfl ?_
    show Steps p.tables e below (T10.setTop (mkF m 30 #[.val (.int p1), .unset, .unset, .unset] [(.ref b2), (.ref b2)])) _
    refine XS.iconst X10.here hx rfl (hb hby at_30) ?_
    show Steps p.tables e below (T10.setTop (mkF m 31 #[.val (.int p1), .unset, .unset, .unset] [(.int (4 : Int32)), (.ref b2), (.ref b2)])) _
    refine st11 _ ?_
    show Steps p.tables e below (T11.setTop (mkF m 34 #[.val (.int p1), .unset, .unset, .unset] [(.ref w_CONSTRUCTOR), (.int (4 : Int32)), (.ref b2), (.ref b2)])) _
    refine st12 _ ?_
    show Steps p.tables e below (T12.setTop (mkF m 35 #[.val (.int p1), .unset, .unset, .unset] [(.ref b2)])) _
    refine XS.dup X12.here hx rfl (hb hby at_35) rfl rfl ?_
    show Steps p.tables e below (T12.setTop (mkF m 36 #[.val (.int p1), .unset, .unset, .unset] [(.ref b2), (.ref b2)])) _
    refine XS.iconst X12.here hx rfl (hb hby at_36) ?_
    show Steps p.tables e below (T12.setTop (mkF m 37 #[.val (.int p1), .unset, .unset, .unset] [(.int (5 : Int32)), (.ref b2), (.ref b2)])) _
    refine st13 _ ?_
    show Steps p.tables e below (T13.setTop (mkF m 40 #[.val (.int p1), .unset, .unset, .unset] [(.ref w_DATA), (.int (5 : Int32)), (.ref b2), (.ref b2)])) _
    refine st14 _ ?_
    show Steps p.tables e below (T14.setTop (mkF m 41 #[.val (.int p1), .unset, .unset, .unset] [(.ref b2)])) _
    refine XS.dup X14.here hx rfl (hb hby at_41) rfl rfl ?_
    show Steps p.tables e below (T14.setTop (mkF m 42 #[.val (.int p1), .unset, .unset, .unset] [(.ref b2), (.ref b2)])) _
    refine XS.bipush X14.here hx rfl (hb hby at_42) ?_
    show Steps p.tables e below (T14.setTop (mkF m 44 #[.val (.int p1), .unset, .unset, .unset] [(.int (6 : Int32)), (.ref b2), (.ref b2)])) _
    refine st15 _ ?_
    show Steps p.tables e below (T15.setTop (mkF m 47 #[.val (.int p1), .unset, .unset, .unset] [(.ref w_CONVERTER), (.int (6 : Int32)), (.ref b2), (.ref b2)])) _
    refine st16 _ ?_
    show Steps p.tables e below (T16.setTop (mkF m 48 #[.val (.int p1), .unset, .unset, .unset] [(.ref b2)])) _
    refine XS.dup X16.here hx rfl (hb hby at_48) rfl rfl ?_
    show Steps p.tables e below (T16.setTop (mkF m 49 #[.val (.int p1), .unset, .unset, .unset] [(.ref b2), (.ref b2)])) _
    refine XS.bipush X16.here hx rfl (hb hby at_49) ?_
    show Steps p.tables e below (T16.setTop (mkF m 51 #[.val (.int p1), .unset, .unset, .unset] [(.int (7 : Int32)), (.ref b2), (.ref b2)])) _
    refine st17 _ ?_
    show Steps p.tables e below (T17.setTop (mkF m 54 #[.val (.int p1), .unset, .unset, .unset] [(.ref w_TUPLE), (.int (7 : Int32)), (.ref b2), (.ref b2)])) _
    refine st18 _ ?_
    show Steps p.tables e below (T18.setTop (mkF m 55 #[.val (.int p1), .unset, .unset, .unset] [(.ref b2)])) _
    refine XS.dup X18.here hx rfl (hb hby at_55) rfl rfl ?_
    show Steps p.tables e below (T18.setTop (mkF m 56 #[.val (.int p1), .unset, .unset, .unset] [(.ref b2), (.ref b2)])) _
    refine XS.bipush X18.here hx rfl (hb hby at_56) ?_
    show Steps p.tables e below (T18.setTop (mkF m 58 #[.val (.int p1), .unset, .unset, .unset] [(.int (8 : Int32)), (.ref b2), (.ref b2)])) _
    refine st19 _ ?_
    show Steps p.tables e below (T19.setTop (mkF m 61 #[.val (.int p1), .unset, .unset, .unset] [(.ref w_DESTRUCTOR), (.int (8 : Int32)), (.ref b2), (.ref b2)])) _
    refine st20 _ ?_
    show Steps p.tables e below (T20.setTop (mkF m 62 #[.val (.int p1), .unset, .unset, .unset] [(.ref b2)])) _
    refine XS.dup X20.here hx rfl (hb hby at_62) rfl rfl ?_
    show Steps p.tables e below (T20.setTop (mkF m 63 #[.val (.int p1), .unset, .unset, .unset] [(.ref b2), (.ref b2)])) _
    refine XS.bipush X20.here hx rfl (hb hby at_63) ?_
    show Steps p.tables e below (T20.setTop (mkF m 65 #[.val (.int p1), .unset, .unset, .unset] [(.int (9 : Int32)), (.ref b2), (.ref b2)])) _
    refine st21 _ ?_
    show Steps p.tables e below (T21.setTop (mkF m 68 #[.val (.int p1), .unset, .unset, .unset] [(.ref w_EVENT), (.int (9 : Int32)), (.ref b2), (.ref b2)])) _
    refine st22 _ ?_
    show Steps p.tables e below (T22.setTop (mkF m 69 #[.val (.int p1), .unset, .unset, .unset] [(.ref b2)])) _
    refine XS.dup X22.here hx rfl (hb hby at_69) rfl rfl ?_
    show Steps p.tables e below (T22.setTop (mkF m 70 #[.val (.int p1), .unset, .unset, .unset] [(.ref b2), (.ref b2)])) _
    refine XS.bipush X22.here hx rfl (hb hby at_70) ?_
    show Steps p.tables e below (T22.setTop (mkF m 72 #[.val (.int p1), .unset, .unset, .unset] [(.int (10 : Int32)), (.ref b2), (.ref b2)])) _
    refine st23 _ ?_
    show Steps p.tables e below (T23.setTop (mkF m 75 #[.val (.int p1), .unset, .unset, .unset] [(.ref w_TABLE), (.int (10 : Int32)), (.ref b2), (.ref b2)])) _
    refine st24 _ ?_
    show Steps p.tables e below (T24.setTop (mkF m 76 #[.val (.int p1), .unset, .unset, .unset] [(.ref b2)])) _
    refine XS.dup X24.here hx rfl (hb hby at_76) rfl rfl ?_
    show Steps p.tables e below (T24.setTop (mkF m 77 #[.val (.int p1), .unset, .unset, .unset] [(.ref b2), (.ref b2)])) _
    refine XS.bipush X24.here hx rfl (hb hby at_77) ?_
    show Steps p.tables e below (T24.setTop (mkF m 79 #[.val (.int p1), .unset, .unset, .unset] [(.int (11 : Int32)), (.ref b2), (.ref b2)])) _
    refine st25 _ ?_
    show Steps p.tables e below (T25.setTop (mkF m 82 #[.val (.int p1), .unset, .unset, .unset] [(.ref w_OCCURRENCE), (.int (11 : Int32)), (.ref b2), (.ref b2)])) _
    refine st26 _ ?_
    show Steps p.tables e below (T26.setTop (mkF m 83 #[.val (.int p1), .unset, .unset, .unset] [(.ref b2)])) _
    refine XS.astoreN X26.here hx rfl (hb hby at_83) rfl rfl (l' := #[.val (.int p1), .val (.ref b2), .unset, .unset]) rfl ?_
    show Steps p.tables e below (T26.setTop (mkF m 84 #[.val (.int p1), .val (.ref b2), .unset, .unset] [])) _
    refine XS.iloadN X26.here hx rfl (hb hby at_84) rfl ?_
    show Steps p.tables e below (T26.setTop (mkF m 85 #[.val (.int p1), .val (.ref b2), .unset, .unset] [(.int p1)])) _
    refine X26.ldcInt hx hown (mvT hZ (hw _ (List.mem_of_getElem? (i := 28) rfl))) (g := (mkF m 85 #[.val (.int p1), .val (.ref b2), .unset, .unset] [(.int p1)])) rfl (hb hby at_85) _ ?_
    show Steps p.tables e below (T26.setTop (mkF m 87 #[.val (.int p1), .val (.ref b2), .unset, .unset] [(.int (2147483647 : Int32)), (.int p1)])) _
    refine XS.iand X26.here hx rfl (hb hby at_87) rfl ?_
    show Steps p.tables e below (T26.setTop (mkF m 88 #[.val (.int p1), .val (.ref b2), .unset, .unset] [(.int (p1 &&& (2147483647 : Int32)))])) _
    refine XS.bipush X26.here hx rfl (hb hby at_88) ?_
    show Steps p.tables e below (T26.setTop (mkF m 90 #[.val (.int p1), .val (.ref b2), .unset, .unset] [(.int (12 : Int32)), (.int (p1 &&& (2147483647 : Int32)))])) _
    refine iremM X26 hx rfl (hb hby at_90) rfl (by decide) ?_
    show Steps p.tables e below (T26.setTop (mkF m 91 #[.val (.int p1), .val (.ref b2), .unset, .unset] [(.int ((p1 &&& (2147483647 : Int32)) % (12 : Int32)))])) _
    refine XS.istoreN X26.here hx rfl (hb hby at_91) rfl (l' := #[.val (.int p1), .val (.ref b2), .val (.int ((p1 &&& (2147483647 : Int32)) % (12 : Int32))), .unset]) rfl ?_
    show Steps p.tables e below (T26.setTop (mkF m 92 #[.val (.int p1), .val (.ref b2), .val (.int ((p1 &&& (2147483647 : Int32)) % (12 : Int32))), .unset] [])) _
    refine XS.iloadN X26.here hx rfl (hb hby at_92) rfl ?_
    show Steps p.tables e below (T26.setTop (mkF m 93 #[.val (.int p1), .val (.ref b2), .val (.int ((p1 &&& (2147483647 : Int32)) % (12 : Int32))), .unset] [(.int ((p1 &&& (2147483647 : Int32)) % (12 : Int32)))])) _
    refine XS.ifYes X26.here hx rfl (pc0 := 93) (pc' := 106) rfl (hb hby at_93) rfl ((if0 _ _).trans (teq hc93).1) (by decide) (by decide) ?_
    show Steps p.tables e below (T26.setTop (mkF m 106 #[.val (.int p1), .val (.ref b2), .val (.int ((p1 &&& (2147483647 : Int32)) % (12 : Int32))), .unset] [])) _
    refine XS.iconst X26.here hx rfl (hb hby at_106) ?_
    show Steps p.tables e below (T26.setTop (mkF m 107 #[.val (.int p1), .val (.ref b2), .val (.int ((p1 &&& (2147483647 : Int32)) % (12 : Int32))), .unset] [(.int (1 : Int32))])) _
    refine XS.goto X26.here hx rfl (pc0 := 107) (pc' := 111) rfl (hb hby at_107) (by decide) (by decide) ?_
    show Steps p.tables e below (T26.setTop (mkF m 111 #[.val (.int p1), .val (.ref b2), .val (.int ((p1 &&& (2147483647 : Int32)) % (12 : Int32))), .unset] [(.int (1 : Int32))])) _
    refine XS.istoreN X26.here hx rfl (hb hby at_111) rfl (l' := #[.val (.int p1), .val (.ref b2), .val (.int ((p1 &&& (2147483647 : Int32)) % (12 : Int32))), .val (.int (1 : Int32))]) rfl ?_
    show Steps p.tables e below (T26.setTop (mkF m 112 #[.val (.int p1), .val (.ref b2), .val (.int ((p1 &&& (2147483647 : Int32)) % (12 : Int32))), .val (.int (1 : Int32))] [])) _
    refine XS.aloadN X26.here hx rfl (hb hby at_112) rfl rfl ?_
    show Steps p.tables e below (T26.setTop (mkF m 113 #[.val (.int p1), .val (.ref b2), .val (.int ((p1 &&& (2147483647 : Int32)) % (12 : Int32))), .val (.int (1 : Int32))] [(.ref b2)])) _
    refine XS.iloadN X26.here hx rfl (hb hby at_113) rfl ?_
    show Steps p.tables e below (T26.setTop (mkF m 114 #[.val (.int p1), .val (.ref b2), .val (.int ((p1 &&& (2147483647 : Int32)) % (12 : Int32))), .val (.int (1 : Int32))] [(.int ((p1 &&& (2147483647 : Int32)) % (12 : Int32))), (.ref b2)])) _
    refine X26.aaload hx (j := ((p1 &&& (2147483647 : Int32)) % (12 : Int32))) (v := (.ref y114)) (by rw [e26]; exact Ar114v.1) (State.isArrayOf_alike hZ.alike Ar114v.2.1) rfl Ar114v.2.2 hin114 hat114 (g := (mkF m 114 #[.val (.int p1), .val (.ref b2), .val (.int ((p1 &&& (2147483647 : Int32)) % (12 : Int32))), .val (.int (1 : Int32))] [(.int ((p1 &&& (2147483647 : Int32)) % (12 : Int32))), (.ref b2)])) rfl rfl (hb hby at_114) _ ?_
    show Steps p.tables e below (T26.setTop (mkF m 115 #[.val (.int p1), .val (.ref b2), .val (.int ((p1 &&& (2147483647 : Int32)) % (12 : Int32))), .val (.int (1 : Int32))] [(.ref y114)])) _
    refine st27.trans ?_
    show Steps p.tables e below (T27.setTop (mkF m 118 #[.val (.int p1), .val (.ref b2), .val (.int ((p1 &&& (2147483647 : Int32)) % (12 : Int32))), .val (.int (1 : Int32))] [(.int r27)])) _
    refine XS.iloadN X27.here hx rfl (hb hby at_118) rfl ?_
    show Steps p.tables e below (T27.setTop (mkF m 119 #[.val (.int p1), .val (.ref b2), .val (.int ((p1 &&& (2147483647 : Int32)) % (12 : Int32))), .val (.int (1 : Int32))] [(.int (1 : Int32)), (.int r27)])) _
    refine XS.icmpNo X27.here hx rfl (hb hby at_119) rfl (teq hc119).2 ?_
    show Steps p.tables e below (T27.setTop (mkF m 122 #[.val (.int p1), .val (.ref b2), .val (.int ((p1 &&& (2147483647 : Int32)) % (12 : Int32))), .val (.int (1 : Int32))] [])) _
    refine XS.iconst X27.here hx rfl (hb hby at_122) ?_
    show Steps p.tables e below (T27.setTop (mkF m 123 #[.val (.int p1), .val (.ref b2), .val (.int ((p1 &&& (2147483647 : Int32)) % (12 : Int32))), .val (.int (1 : Int32))] [(.int (1 : Int32))])) _
    refine XS.goto X27.here hx rfl (pc0 := 123) (pc' := 127) rfl (hb hby at_123) (by decide) (by decide) ?_
    show Steps p.tables e below (T27.setTop (mkF m 127 #[.val (.int p1), .val (.ref b2), .val (.int ((p1 &&& (2147483647 : Int32)) % (12 : Int32))), .val (.int (1 : Int32))] [(.int (1 : Int32))])) _
    exact retN X27 hx (t := .boolean) Bd.returns (by simp) (hb hby at_127) hr
  · show Q0 n0 _ T27.heap _
    rw [e27]
    exact ⟨rfl, N27⟩
set_option maxRecDepth 65536 in
set_option maxHeartbeats 40000000 in
theorem rm0_ftf (l : Launch) (Z : State) (a0 : Array Value) (hw : ∀ d ∈ tables_1, d.before a0 Z = true) (ws : List Jvm.Cond) (p1 : Int32) (w_FREE_NAME : Addr) (w_FRESH_NAME : Addr) (w_ATTACKER_NAME : Addr) (w_CONSTANT : Addr) (w_CONSTRUCTOR : Addr) (w_DATA : Addr) (w_CONVERTER : Addr) (w_TUPLE : Addr) (w_DESTRUCTOR : Addr) (w_EVENT : Addr) (w_TABLE : Addr) (w_OCCURRENCE : Addr) (y114 : Addr) (r27 : Int32) (h0 : Heap) (n0 : Nat) (Z0 : n0 ≤ h0.size) (S_FREE_NAME : Sta Z h0 "com/example/applied_pi_checker/appliedpichecker/FunctionSymbol$Kind" "FREE_NAME" "Lcom/example/applied_pi_checker/appliedpichecker/FunctionSymbol$Kind;" (.ref w_FREE_NAME)) (E_FREE_NAME : Exa Z h0 w_FREE_NAME "com/example/applied_pi_checker/appliedpichecker/FunctionSymbol$Kind") (S_FRESH_NAME : Sta Z h0 "com/example/applied_pi_checker/appliedpichecker/FunctionSymbol$Kind" "FRESH_NAME" "Lcom/example/applied_pi_checker/appliedpichecker/FunctionSymbol$Kind;" (.ref w_FRESH_NAME)) (E_FRESH_NAME : Exa Z h0 w_FRESH_NAME "com/example/applied_pi_checker/appliedpichecker/FunctionSymbol$Kind") (S_ATTACKER_NAME : Sta Z h0 "com/example/applied_pi_checker/appliedpichecker/FunctionSymbol$Kind" "ATTACKER_NAME" "Lcom/example/applied_pi_checker/appliedpichecker/FunctionSymbol$Kind;" (.ref w_ATTACKER_NAME)) (E_ATTACKER_NAME : Exa Z h0 w_ATTACKER_NAME "com/example/applied_pi_checker/appliedpichecker/FunctionSymbol$Kind") (S_CONSTANT : Sta Z h0 "com/example/applied_pi_checker/appliedpichecker/FunctionSymbol$Kind" "CONSTANT" "Lcom/example/applied_pi_checker/appliedpichecker/FunctionSymbol$Kind;" (.ref w_CONSTANT)) (E_CONSTANT : Exa Z h0 w_CONSTANT "com/example/applied_pi_checker/appliedpichecker/FunctionSymbol$Kind") (S_CONSTRUCTOR : Sta Z h0 "com/example/applied_pi_checker/appliedpichecker/FunctionSymbol$Kind" "CONSTRUCTOR" "Lcom/example/applied_pi_checker/appliedpichecker/FunctionSymbol$Kind;" (.ref w_CONSTRUCTOR)) (E_CONSTRUCTOR : Exa Z h0 w_CONSTRUCTOR "com/example/applied_pi_checker/appliedpichecker/FunctionSymbol$Kind") (S_DATA : Sta Z h0 "com/example/applied_pi_checker/appliedpichecker/FunctionSymbol$Kind" "DATA" "Lcom/example/applied_pi_checker/appliedpichecker/FunctionSymbol$Kind;" (.ref w_DATA)) (E_DATA : Exa Z h0 w_DATA "com/example/applied_pi_checker/appliedpichecker/FunctionSymbol$Kind") (S_CONVERTER : Sta Z h0 "com/example/applied_pi_checker/appliedpichecker/FunctionSymbol$Kind" "CONVERTER" "Lcom/example/applied_pi_checker/appliedpichecker/FunctionSymbol$Kind;" (.ref w_CONVERTER)) (E_CONVERTER : Exa Z h0 w_CONVERTER "com/example/applied_pi_checker/appliedpichecker/FunctionSymbol$Kind") (S_TUPLE : Sta Z h0 "com/example/applied_pi_checker/appliedpichecker/FunctionSymbol$Kind" "TUPLE" "Lcom/example/applied_pi_checker/appliedpichecker/FunctionSymbol$Kind;" (.ref w_TUPLE)) (E_TUPLE : Exa Z h0 w_TUPLE "com/example/applied_pi_checker/appliedpichecker/FunctionSymbol$Kind") (S_DESTRUCTOR : Sta Z h0 "com/example/applied_pi_checker/appliedpichecker/FunctionSymbol$Kind" "DESTRUCTOR" "Lcom/example/applied_pi_checker/appliedpichecker/FunctionSymbol$Kind;" (.ref w_DESTRUCTOR)) (E_DESTRUCTOR : Exa Z h0 w_DESTRUCTOR "com/example/applied_pi_checker/appliedpichecker/FunctionSymbol$Kind") (S_EVENT : Sta Z h0 "com/example/applied_pi_checker/appliedpichecker/FunctionSymbol$Kind" "EVENT" "Lcom/example/applied_pi_checker/appliedpichecker/FunctionSymbol$Kind;" (.ref w_EVENT)) (E_EVENT : Exa Z h0 w_EVENT "com/example/applied_pi_checker/appliedpichecker/FunctionSymbol$Kind") (S_TABLE : Sta Z h0 "com/example/applied_pi_checker/appliedpichecker/FunctionSymbol$Kind" "TABLE" "Lcom/example/applied_pi_checker/appliedpichecker/FunctionSymbol$Kind;" (.ref w_TABLE)) (E_TABLE : Exa Z h0 w_TABLE "com/example/applied_pi_checker/appliedpichecker/FunctionSymbol$Kind") (S_OCCURRENCE : Sta Z h0 "com/example/applied_pi_checker/appliedpichecker/FunctionSymbol$Kind" "OCCURRENCE" "Lcom/example/applied_pi_checker/appliedpichecker/FunctionSymbol$Kind;" (.ref w_OCCURRENCE)) (E_OCCURRENCE : Exa Z h0 w_OCCURRENCE "com/example/applied_pi_checker/appliedpichecker/FunctionSymbol$Kind") (P27 : R1 y114 w_ATTACKER_NAME w_FREE_NAME w_FRESH_NAME r27) (E_y114 : Exa Z h0 y114 "com/example/applied_pi_checker/appliedpichecker/FunctionSymbol$Kind") (hc93 : ¬ (((p1 &&& (2147483647 : Int32)) % (12 : Int32)) = (0 : Int32))) (hc98 : ((p1 &&& (2147483647 : Int32)) % (12 : Int32)) = (1 : Int32)) (hi114 : ¬ ((p1 &&& (2147483647 : Int32)) % (12 : Int32)) < 0 ∧ ((p1 &&& (2147483647 : Int32)) % (12 : Int32)) < (12 : Int32)) (hv114 : ([(.ref w_FREE_NAME), (.ref w_FRESH_NAME), (.ref w_ATTACKER_NAME), (.ref w_CONSTANT), (.ref w_CONSTRUCTOR), (.ref w_DATA), (.ref w_CONVERTER), (.ref w_TUPLE), (.ref w_DESTRUCTOR), (.ref w_EVENT), (.ref w_TABLE), (.ref w_OCCURRENCE)] : List Value).getD (((p1 &&& (2147483647 : Int32)) % (12 : Int32))).toNatClampNeg (.null : Value) = (.ref y114 : Value)) (hc119 : r27 = (1 : Int32)) :
    MetFree l x (head1 (Jvm.Cond.code x code maxLocals ret :: ws) room_1) (fun a U => a = #[(.int p1)] ∧ Z.Warmed39 U.vm ∧ U.heap = h0) (fun _ _ _ _ _ => True) (fun _ U o U' => ∃ v L, o = .returned v ∧ Q0 n0 v U'.heap L ∧ FrameEnd U o U' L room_1.cells room_1.slots) := by
  refine MetFree.of_bodySF (plainFor_of_name pn_0) hisR ?_
  intro p e s m args below meth c s₁ Bd hml0 hP hK
  obtain ⟨rfl, hZ, hh⟩ := hP
  have hx := Bd.exec
  have hby := Bd.bytes
  have hml : c.maxLocals = 4 := hml0
  have hown : s.vm.findClass "com/example/applied_pi_checker/appliedpichecker/KindIsNamePinLaw" = some m.cls := findClass_of_methodNamed Bd.named
  have hnm := (name_of_methodNamed Bd.named Bd.method).1
  have X0 : Stand p l e room_1 s m #[(.int p1)] below meth c s₁ [] 0 0 := Stand.of_body Bd
  have e0 : s₁.heap = h0 := by rw [← hh, Bd.state]; rfl
  have N0 := Fr.nil n0
  have pre0 : ∀ t, Steps p.tables e below (s₁.setTop (mkF m 0 #[.val (.int p1), .unset, .unset, .unset] [])) t → Steps p.tables e below (s₁.setTop (entryFrame m #[(.int p1)] maxLocals)) t := fun t k => castTop (ef_0 m p1) k
  -- 3. LAWS
  obtain ⟨T2, h2, k2, X2, e2, E2, A2, O2, st2⟩ := newR X0 hx hZ hown (hw _ (List.mem_of_getElem? (i := 0) rfl)) (hw _ (List.mem_of_getElem? (i := 1) rfl)) e0 (g := (mkF m 2 #[.val (.int p1), .unset, .unset, .unset] [(.int (12 : Int32))])) rfl (hb hby at_2) rfl (by decide) (cap := 12) (by decide) (by decide) (by decide) (by decide)
  obtain ⟨b2, g2⟩ : ∃ z, z = h0.size := ⟨_, rfl⟩
  rw [← g2] at A2 st2
  have V_b2 : Arv Z h2 b2 k2 (.object "com/example/applied_pi_checker/appliedpichecker/FunctionSymbol$Kind") (12 : Int32) [.null, .null, .null, .null, .null, .null, .null, .null, .null, .null, .null, .null] .null := (Arv.new A2 (by decide)).pad (pad_rep [] .null 12)
  have g_b2 : n0 ≤ b2 := Nat.le_trans Z0 (Nat.le_of_eq g2.symm)
  obtain ⟨T3, X3, e3, st3⟩ := getS2 X2 hx hZ hown (host := "") (Or.inl (hw _ (List.mem_of_getElem? (i := 2) rfl))) Via.refl e2 (S_FREE_NAME.ext E2) (g := (mkF m 7 #[.val (.int p1), .unset, .unset, .unset] [(.int (0 : Int32)), (.ref b2), (.ref b2)])) rfl (hb hby at_7)
  obtain ⟨cl10v, Ar10v, q10v, S10v, N10v, H10v, G10v⟩ := V_b2
  have hin10 : ¬ ((0 : Int32) < 0 ∨ cl10v.slots.size ≤ ((0 : Int32)).toNatClampNeg) := inb_of S10v ⟨by decide, by decide⟩
  obtain ⟨T4, h4, X4, e4, W4, st4⟩ := stR X3 hx hZ e3 Ar10v (j := (0 : Int32)) hin10 rfl (Sto.ofV Ar10v q10v O2 (Ins.self (E_FREE_NAME.ext E2))) (g := (mkF m 10 #[.val (.int p1), .unset, .unset, .unset] [(.ref w_FREE_NAME), (.int (0 : Int32)), (.ref b2), (.ref b2)])) rfl rfl (hb hby at_10)
  have V10 : Arv Z h4 b2 k2 (.object "com/example/applied_pi_checker/appliedpichecker/FunctionSymbol$Kind") (12 : Int32) [(.ref w_FREE_NAME), .null, .null, .null, .null, .null, .null, .null, .null, .null, .null, .null] .null := Arv.set Ar10v q10v S10v N10v H10v G10v rfl W4 0 rfl (Nat.le_of_ble_eq_true rfl)
  have N4 := Fr.snoc X4 N0 g_b2
  obtain ⟨T5, X5, e5, st5⟩ := getS2 X4 hx hZ hown (host := "") (Or.inl (hw _ (List.mem_of_getElem? (i := 6) rfl))) Via.refl e4 ((S_FRESH_NAME.ext E2).wr W4) (g := (mkF m 13 #[.val (.int p1), .unset, .unset, .unset] [(.int (1 : Int32)), (.ref b2), (.ref b2)])) rfl (hb hby at_13)
  obtain ⟨cl16v, Ar16v, q16v, S16v, N16v, H16v, G16v⟩ := V10
  have hin16 : ¬ ((1 : Int32) < 0 ∨ cl16v.slots.size ≤ ((1 : Int32)).toNatClampNeg) := inb_of S16v ⟨by decide, by decide⟩
  obtain ⟨T6, h6, X6, e6, W6, st6⟩ := stR X5 hx hZ e5 Ar16v (j := (1 : Int32)) hin16 rfl (Sto.ofV Ar16v q16v O2 (Ins.self ((E_FRESH_NAME.ext E2).wr W4))) (g := (mkF m 16 #[.val (.int p1), .unset, .unset, .unset] [(.ref w_FRESH_NAME), (.int (1 : Int32)), (.ref b2), (.ref b2)])) rfl rfl (hb hby at_16)
  have V16 : Arv Z h6 b2 k2 (.object "com/example/applied_pi_checker/appliedpichecker/FunctionSymbol$Kind") (12 : Int32) [(.ref w_FREE_NAME), (.ref w_FRESH_NAME), .null, .null, .null, .null, .null, .null, .null, .null, .null, .null] .null := Arv.set Ar16v q16v S16v N16v H16v G16v rfl W6 1 rfl (Nat.le_of_ble_eq_true rfl)
  have N6 := Fr.snoc X6 N4 g_b2
  obtain ⟨T7, X7, e7, st7⟩ := getS2 X6 hx hZ hown (host := "") (Or.inl (hw _ (List.mem_of_getElem? (i := 8) rfl))) Via.refl e6 (((S_ATTACKER_NAME.ext E2).wr W4).wr W6) (g := (mkF m 19 #[.val (.int p1), .unset, .unset, .unset] [(.int (2 : Int32)), (.ref b2), (.ref b2)])) rfl (hb hby at_19)
  obtain ⟨cl22v, Ar22v, q22v, S22v, N22v, H22v, G22v⟩ := V16
  have hin22 : ¬ ((2 : Int32) < 0 ∨ cl22v.slots.size ≤ ((2 : Int32)).toNatClampNeg) := inb_of S22v ⟨by decide, by decide⟩
  obtain ⟨T8, h8, X8, e8, W8, st8⟩ := stR X7 hx hZ e7 Ar22v (j := (2 : Int32)) hin22 rfl (Sto.ofV Ar22v q22v O2 (Ins.self (((E_ATTACKER_NAME.ext E2).wr W4).wr W6))) (g := (mkF m 22 #[.val (.int p1), .unset, .unset, .unset] [(.ref w_ATTACKER_NAME), (.int (2 : Int32)), (.ref b2), (.ref b2)])) rfl rfl (hb hby at_22)
  have V22 : Arv Z h8 b2 k2 (.object "com/example/applied_pi_checker/appliedpichecker/FunctionSymbol$Kind") (12 : Int32) [(.ref w_FREE_NAME), (.ref w_FRESH_NAME), (.ref w_ATTACKER_NAME), .null, .null, .null, .null, .null, .null, .null, .null, .null] .null := Arv.set Ar22v q22v S22v N22v H22v G22v rfl W8 2 rfl (Nat.le_of_ble_eq_true rfl)
  have N8 := Fr.snoc X8 N6 g_b2
  obtain ⟨T9, X9, e9, st9⟩ := getS2 X8 hx hZ hown (host := "") (Or.inl (hw _ (List.mem_of_getElem? (i := 10) rfl))) Via.refl e8 ((((S_CONSTANT.ext E2).wr W4).wr W6).wr W8) (g := (mkF m 25 #[.val (.int p1), .unset, .unset, .unset] [(.int (3 : Int32)), (.ref b2), (.ref b2)])) rfl (hb hby at_25)
  obtain ⟨cl28v, Ar28v, q28v, S28v, N28v, H28v, G28v⟩ := V22
  have hin28 : ¬ ((3 : Int32) < 0 ∨ cl28v.slots.size ≤ ((3 : Int32)).toNatClampNeg) := inb_of S28v ⟨by decide, by decide⟩
  obtain ⟨T10, h10, X10, e10, W10, st10⟩ := stR X9 hx hZ e9 Ar28v (j := (3 : Int32)) hin28 rfl (Sto.ofV Ar28v q28v O2 (Ins.self ((((E_CONSTANT.ext E2).wr W4).wr W6).wr W8))) (g := (mkF m 28 #[.val (.int p1), .unset, .unset, .unset] [(.ref w_CONSTANT), (.int (3 : Int32)), (.ref b2), (.ref b2)])) rfl rfl (hb hby at_28)
  have V28 : Arv Z h10 b2 k2 (.object "com/example/applied_pi_checker/appliedpichecker/FunctionSymbol$Kind") (12 : Int32) [(.ref w_FREE_NAME), (.ref w_FRESH_NAME), (.ref w_ATTACKER_NAME), (.ref w_CONSTANT), .null, .null, .null, .null, .null, .null, .null, .null] .null := Arv.set Ar28v q28v S28v N28v H28v G28v rfl W10 3 rfl (Nat.le_of_ble_eq_true rfl)
  have N10 := Fr.snoc X10 N8 g_b2
  obtain ⟨T11, X11, e11, st11⟩ := getS2 X10 hx hZ hown (host := "") (Or.inl (hw _ (List.mem_of_getElem? (i := 12) rfl))) Via.refl e10 (((((S_CONSTRUCTOR.ext E2).wr W4).wr W6).wr W8).wr W10) (g := (mkF m 31 #[.val (.int p1), .unset, .unset, .unset] [(.int (4 : Int32)), (.ref b2), (.ref b2)])) rfl (hb hby at_31)
  obtain ⟨cl34v, Ar34v, q34v, S34v, N34v, H34v, G34v⟩ := V28
  have hin34 : ¬ ((4 : Int32) < 0 ∨ cl34v.slots.size ≤ ((4 : Int32)).toNatClampNeg) := inb_of S34v ⟨by decide, by decide⟩
  obtain ⟨T12, h12, X12, e12, W12, st12⟩ := stR X11 hx hZ e11 Ar34v (j := (4 : Int32)) hin34 rfl (Sto.ofV Ar34v q34v O2 (Ins.self (((((E_CONSTRUCTOR.ext E2).wr W4).wr W6).wr W8).wr W10))) (g := (mkF m 34 #[.val (.int p1), .unset, .unset, .unset] [(.ref w_CONSTRUCTOR), (.int (4 : Int32)), (.ref b2), (.ref b2)])) rfl rfl (hb hby at_34)
  have V34 : Arv Z h12 b2 k2 (.object "com/example/applied_pi_checker/appliedpichecker/FunctionSymbol$Kind") (12 : Int32) [(.ref w_FREE_NAME), (.ref w_FRESH_NAME), (.ref w_ATTACKER_NAME), (.ref w_CONSTANT), (.ref w_CONSTRUCTOR), .null, .null, .null, .null, .null, .null, .null] .null := Arv.set Ar34v q34v S34v N34v H34v G34v rfl W12 4 rfl (Nat.le_of_ble_eq_true rfl)
  have N12 := Fr.snoc X12 N10 g_b2
  obtain ⟨T13, X13, e13, st13⟩ := getS2 X12 hx hZ hown (host := "") (Or.inl (hw _ (List.mem_of_getElem? (i := 14) rfl))) Via.refl e12 ((((((S_DATA.ext E2).wr W4).wr W6).wr W8).wr W10).wr W12) (g := (mkF m 37 #[.val (.int p1), .unset, .unset, .unset] [(.int (5 : Int32)), (.ref b2), (.ref b2)])) rfl (hb hby at_37)
  obtain ⟨cl40v, Ar40v, q40v, S40v, N40v, H40v, G40v⟩ := V34
  have hin40 : ¬ ((5 : Int32) < 0 ∨ cl40v.slots.size ≤ ((5 : Int32)).toNatClampNeg) := inb_of S40v ⟨by decide, by decide⟩
  obtain ⟨T14, h14, X14, e14, W14, st14⟩ := stR X13 hx hZ e13 Ar40v (j := (5 : Int32)) hin40 rfl (Sto.ofV Ar40v q40v O2 (Ins.self ((((((E_DATA.ext E2).wr W4).wr W6).wr W8).wr W10).wr W12))) (g := (mkF m 40 #[.val (.int p1), .unset, .unset, .unset] [(.ref w_DATA), (.int (5 : Int32)), (.ref b2), (.ref b2)])) rfl rfl (hb hby at_40)
  have V40 : Arv Z h14 b2 k2 (.object "com/example/applied_pi_checker/appliedpichecker/FunctionSymbol$Kind") (12 : Int32) [(.ref w_FREE_NAME), (.ref w_FRESH_NAME), (.ref w_ATTACKER_NAME), (.ref w_CONSTANT), (.ref w_CONSTRUCTOR), (.ref w_DATA), .null, .null, .null, .null, .null, .null] .null := Arv.set Ar40v q40v S40v N40v H40v G40v rfl W14 5 rfl (Nat.le_of_ble_eq_true rfl)
  have N14 := Fr.snoc X14 N12 g_b2
  obtain ⟨T15, X15, e15, st15⟩ := getS2 X14 hx hZ hown (host := "") (Or.inl (hw _ (List.mem_of_getElem? (i := 16) rfl))) Via.refl e14 (((((((S_CONVERTER.ext E2).wr W4).wr W6).wr W8).wr W10).wr W12).wr W14) (g := (mkF m 44 #[.val (.int p1), .unset, .unset, .unset] [(.int (6 : Int32)), (.ref b2), (.ref b2)])) rfl (hb hby at_44)
  obtain ⟨cl47v, Ar47v, q47v, S47v, N47v, H47v, G47v⟩ := V40
  have hin47 : ¬ ((6 : Int32) < 0 ∨ cl47v.slots.size ≤ ((6 : Int32)).toNatClampNeg) := inb_of S47v ⟨by decide, by decide⟩
  obtain ⟨T16, h16, X16, e16, W16, st16⟩ := stR X15 hx hZ e15 Ar47v (j := (6 : Int32)) hin47 rfl (Sto.ofV Ar47v q47v O2 (Ins.self (((((((E_CONVERTER.ext E2).wr W4).wr W6).wr W8).wr W10).wr W12).wr W14))) (g := (mkF m 47 #[.val (.int p1), .unset, .unset, .unset] [(.ref w_CONVERTER), (.int (6 : Int32)), (.ref b2), (.ref b2)])) rfl rfl (hb hby at_47)
  have V47 : Arv Z h16 b2 k2 (.object "com/example/applied_pi_checker/appliedpichecker/FunctionSymbol$Kind") (12 : Int32) [(.ref w_FREE_NAME), (.ref w_FRESH_NAME), (.ref w_ATTACKER_NAME), (.ref w_CONSTANT), (.ref w_CONSTRUCTOR), (.ref w_DATA), (.ref w_CONVERTER), .null, .null, .null, .null, .null] .null := Arv.set Ar47v q47v S47v N47v H47v G47v rfl W16 6 rfl (Nat.le_of_ble_eq_true rfl)
  have N16 := Fr.snoc X16 N14 g_b2
  obtain ⟨T17, X17, e17, st17⟩ := getS2 X16 hx hZ hown (host := "") (Or.inl (hw _ (List.mem_of_getElem? (i := 18) rfl))) Via.refl e16 ((((((((S_TUPLE.ext E2).wr W4).wr W6).wr W8).wr W10).wr W12).wr W14).wr W16) (g := (mkF m 51 #[.val (.int p1), .unset, .unset, .unset] [(.int (7 : Int32)), (.ref b2), (.ref b2)])) rfl (hb hby at_51)
  obtain ⟨cl54v, Ar54v, q54v, S54v, N54v, H54v, G54v⟩ := V47
  have hin54 : ¬ ((7 : Int32) < 0 ∨ cl54v.slots.size ≤ ((7 : Int32)).toNatClampNeg) := inb_of S54v ⟨by decide, by decide⟩
  obtain ⟨T18, h18, X18, e18, W18, st18⟩ := stR X17 hx hZ e17 Ar54v (j := (7 : Int32)) hin54 rfl (Sto.ofV Ar54v q54v O2 (Ins.self ((((((((E_TUPLE.ext E2).wr W4).wr W6).wr W8).wr W10).wr W12).wr W14).wr W16))) (g := (mkF m 54 #[.val (.int p1), .unset, .unset, .unset] [(.ref w_TUPLE), (.int (7 : Int32)), (.ref b2), (.ref b2)])) rfl rfl (hb hby at_54)
  have V54 : Arv Z h18 b2 k2 (.object "com/example/applied_pi_checker/appliedpichecker/FunctionSymbol$Kind") (12 : Int32) [(.ref w_FREE_NAME), (.ref w_FRESH_NAME), (.ref w_ATTACKER_NAME), (.ref w_CONSTANT), (.ref w_CONSTRUCTOR), (.ref w_DATA), (.ref w_CONVERTER), (.ref w_TUPLE), .null, .null, .null, .null] .null := Arv.set Ar54v q54v S54v N54v H54v G54v rfl W18 7 rfl (Nat.le_of_ble_eq_true rfl)
  have N18 := Fr.snoc X18 N16 g_b2
  obtain ⟨T19, X19, e19, st19⟩ := getS2 X18 hx hZ hown (host := "") (Or.inl (hw _ (List.mem_of_getElem? (i := 20) rfl))) Via.refl e18 (((((((((S_DESTRUCTOR.ext E2).wr W4).wr W6).wr W8).wr W10).wr W12).wr W14).wr W16).wr W18) (g := (mkF m 58 #[.val (.int p1), .unset, .unset, .unset] [(.int (8 : Int32)), (.ref b2), (.ref b2)])) rfl (hb hby at_58)
  obtain ⟨cl61v, Ar61v, q61v, S61v, N61v, H61v, G61v⟩ := V54
  have hin61 : ¬ ((8 : Int32) < 0 ∨ cl61v.slots.size ≤ ((8 : Int32)).toNatClampNeg) := inb_of S61v ⟨by decide, by decide⟩
  obtain ⟨T20, h20, X20, e20, W20, st20⟩ := stR X19 hx hZ e19 Ar61v (j := (8 : Int32)) hin61 rfl (Sto.ofV Ar61v q61v O2 (Ins.self (((((((((E_DESTRUCTOR.ext E2).wr W4).wr W6).wr W8).wr W10).wr W12).wr W14).wr W16).wr W18))) (g := (mkF m 61 #[.val (.int p1), .unset, .unset, .unset] [(.ref w_DESTRUCTOR), (.int (8 : Int32)), (.ref b2), (.ref b2)])) rfl rfl (hb hby at_61)
  have V61 : Arv Z h20 b2 k2 (.object "com/example/applied_pi_checker/appliedpichecker/FunctionSymbol$Kind") (12 : Int32) [(.ref w_FREE_NAME), (.ref w_FRESH_NAME), (.ref w_ATTACKER_NAME), (.ref w_CONSTANT), (.ref w_CONSTRUCTOR), (.ref w_DATA), (.ref w_CONVERTER), (.ref w_TUPLE), (.ref w_DESTRUCTOR), .null, .null, .null] .null := Arv.set Ar61v q61v S61v N61v H61v G61v rfl W20 8 rfl (Nat.le_of_ble_eq_true rfl)
  have N20 := Fr.snoc X20 N18 g_b2
  obtain ⟨T21, X21, e21, st21⟩ := getS2 X20 hx hZ hown (host := "") (Or.inl (hw _ (List.mem_of_getElem? (i := 22) rfl))) Via.refl e20 ((((((((((S_EVENT.ext E2).wr W4).wr W6).wr W8).wr W10).wr W12).wr W14).wr W16).wr W18).wr W20) (g := (mkF m 65 #[.val (.int p1), .unset, .unset, .unset] [(.int (9 : Int32)), (.ref b2), (.ref b2)])) rfl (hb hby at_65)
  obtain ⟨cl68v, Ar68v, q68v, S68v, N68v, H68v, G68v⟩ := V61
  have hin68 : ¬ ((9 : Int32) < 0 ∨ cl68v.slots.size ≤ ((9 : Int32)).toNatClampNeg) := inb_of S68v ⟨by decide, by decide⟩
  obtain ⟨T22, h22, X22, e22, W22, st22⟩ := stR X21 hx hZ e21 Ar68v (j := (9 : Int32)) hin68 rfl (Sto.ofV Ar68v q68v O2 (Ins.self ((((((((((E_EVENT.ext E2).wr W4).wr W6).wr W8).wr W10).wr W12).wr W14).wr W16).wr W18).wr W20))) (g := (mkF m 68 #[.val (.int p1), .unset, .unset, .unset] [(.ref w_EVENT), (.int (9 : Int32)), (.ref b2), (.ref b2)])) rfl rfl (hb hby at_68)
  have V68 : Arv Z h22 b2 k2 (.object "com/example/applied_pi_checker/appliedpichecker/FunctionSymbol$Kind") (12 : Int32) [(.ref w_FREE_NAME), (.ref w_FRESH_NAME), (.ref w_ATTACKER_NAME), (.ref w_CONSTANT), (.ref w_CONSTRUCTOR), (.ref w_DATA), (.ref w_CONVERTER), (.ref w_TUPLE), (.ref w_DESTRUCTOR), (.ref w_EVENT), .null, .null] .null := Arv.set Ar68v q68v S68v N68v H68v G68v rfl W22 9 rfl (Nat.le_of_ble_eq_true rfl)
  have N22 := Fr.snoc X22 N20 g_b2
  obtain ⟨T23, X23, e23, st23⟩ := getS2 X22 hx hZ hown (host := "") (Or.inl (hw _ (List.mem_of_getElem? (i := 24) rfl))) Via.refl e22 (((((((((((S_TABLE.ext E2).wr W4).wr W6).wr W8).wr W10).wr W12).wr W14).wr W16).wr W18).wr W20).wr W22) (g := (mkF m 72 #[.val (.int p1), .unset, .unset, .unset] [(.int (10 : Int32)), (.ref b2), (.ref b2)])) rfl (hb hby at_72)
  obtain ⟨cl75v, Ar75v, q75v, S75v, N75v, H75v, G75v⟩ := V68
  have hin75 : ¬ ((10 : Int32) < 0 ∨ cl75v.slots.size ≤ ((10 : Int32)).toNatClampNeg) := inb_of S75v ⟨by decide, by decide⟩
  obtain ⟨T24, h24, X24, e24, W24, st24⟩ := stR X23 hx hZ e23 Ar75v (j := (10 : Int32)) hin75 rfl (Sto.ofV Ar75v q75v O2 (Ins.self (((((((((((E_TABLE.ext E2).wr W4).wr W6).wr W8).wr W10).wr W12).wr W14).wr W16).wr W18).wr W20).wr W22))) (g := (mkF m 75 #[.val (.int p1), .unset, .unset, .unset] [(.ref w_TABLE), (.int (10 : Int32)), (.ref b2), (.ref b2)])) rfl rfl (hb hby at_75)
  have V75 : Arv Z h24 b2 k2 (.object "com/example/applied_pi_checker/appliedpichecker/FunctionSymbol$Kind") (12 : Int32) [(.ref w_FREE_NAME), (.ref w_FRESH_NAME), (.ref w_ATTACKER_NAME), (.ref w_CONSTANT), (.ref w_CONSTRUCTOR), (.ref w_DATA), (.ref w_CONVERTER), (.ref w_TUPLE), (.ref w_DESTRUCTOR), (.ref w_EVENT), (.ref w_TABLE), .null] .null := Arv.set Ar75v q75v S75v N75v H75v G75v rfl W24 10 rfl (Nat.le_of_ble_eq_true rfl)
  have N24 := Fr.snoc X24 N22 g_b2
  obtain ⟨T25, X25, e25, st25⟩ := getS2 X24 hx hZ hown (host := "") (Or.inl (hw _ (List.mem_of_getElem? (i := 26) rfl))) Via.refl e24 ((((((((((((S_OCCURRENCE.ext E2).wr W4).wr W6).wr W8).wr W10).wr W12).wr W14).wr W16).wr W18).wr W20).wr W22).wr W24) (g := (mkF m 79 #[.val (.int p1), .unset, .unset, .unset] [(.int (11 : Int32)), (.ref b2), (.ref b2)])) rfl (hb hby at_79)
  obtain ⟨cl82v, Ar82v, q82v, S82v, N82v, H82v, G82v⟩ := V75
  have hin82 : ¬ ((11 : Int32) < 0 ∨ cl82v.slots.size ≤ ((11 : Int32)).toNatClampNeg) := inb_of S82v ⟨by decide, by decide⟩
  obtain ⟨T26, h26, X26, e26, W26, st26⟩ := stR X25 hx hZ e25 Ar82v (j := (11 : Int32)) hin82 rfl (Sto.ofV Ar82v q82v O2 (Ins.self ((((((((((((E_OCCURRENCE.ext E2).wr W4).wr W6).wr W8).wr W10).wr W12).wr W14).wr W16).wr W18).wr W20).wr W22).wr W24))) (g := (mkF m 82 #[.val (.int p1), .unset, .unset, .unset] [(.ref w_OCCURRENCE), (.int (11 : Int32)), (.ref b2), (.ref b2)])) rfl rfl (hb hby at_82)
  have V82 : Arv Z h26 b2 k2 (.object "com/example/applied_pi_checker/appliedpichecker/FunctionSymbol$Kind") (12 : Int32) [(.ref w_FREE_NAME), (.ref w_FRESH_NAME), (.ref w_ATTACKER_NAME), (.ref w_CONSTANT), (.ref w_CONSTRUCTOR), (.ref w_DATA), (.ref w_CONVERTER), (.ref w_TUPLE), (.ref w_DESTRUCTOR), (.ref w_EVENT), (.ref w_TABLE), (.ref w_OCCURRENCE)] .null := Arv.set Ar82v q82v S82v N82v H82v G82v rfl W26 11 rfl (Nat.le_of_ble_eq_true rfl)
  have N26 := Fr.snoc X26 N24 g_b2
  obtain ⟨cl114v, Ar114v, q114v, S114v, N114v, H114v, G114v⟩ := V82
  have hin114 : ¬ (((p1 &&& (2147483647 : Int32)) % (12 : Int32)) < 0 ∨ cl114v.slots.size ≤ (((p1 &&& (2147483647 : Int32)) % (12 : Int32))).toNatClampNeg) := inb_of S114v hi114
  have hat114 := Has.at H114v hin114 hv114
  obtain ⟨cq27, kq27, q27a, q27b, q27c⟩ := isOf hZ e26 (((((((((((((E_y114.ext E2).wr W4).wr W6).wr W8).wr W10).wr W12).wr W14).wr W16).wr W18).wr W20).wr W22).wr W24).wr W26)
  obtain ⟨_, _, ⟨T27, L27, k27, n27⟩, -, X27, ⟨Lc27, hQ27, l27, y27, z27⟩, st27⟩ := X26.virtualBack hx (y := (⟨"com/example/applied_pi_checker/appliedpichecker/FunctionSymbol$Kind", "isName", "()Z"⟩ : MethodName)) (z := (⟨"com/example/applied_pi_checker/appliedpichecker/FunctionSymbol$Kind", "isName", "()Z"⟩ : MethodName)) hown (mvT hZ (hw _ (List.mem_of_getElem? (i := 29) rfl))) (mvT hZ (hw _ (List.mem_of_getElem? (i := 30) rfl))) (notFace_of_selects (args := #[]) (mvT hZ (hw _ (List.mem_of_getElem? (i := 32) rfl)))) (mvT hZ (hw _ (List.mem_of_getElem? (i := 32) rfl))) (mvT hZ (hw _ (List.mem_of_getElem? (i := 31) rfl))) (by decide) (backOf (W := 0) (rm1 l Z a0 hw [] y114 w_ATTACKER_NAME w_FREE_NAME w_FRESH_NAME r27 h26 n0 (Nat.le_trans (Nat.le_trans (Nat.le_trans (Nat.le_trans (Nat.le_trans (Nat.le_trans (Nat.le_trans (Nat.le_trans (Nat.le_trans (Nat.le_trans (Nat.le_trans (Nat.le_trans (Nat.le_trans Z0 E2.1) (Keep.of_wr W4).1) (Keep.of_wr W6).1) (Keep.of_wr W8).1) (Keep.of_wr W10).1) (Keep.of_wr W12).1) (Keep.of_wr W14).1) (Keep.of_wr W16).1) (Keep.of_wr W18).1) (Keep.of_wr W20).1) (Keep.of_wr W22).1) (Keep.of_wr W24).1) (Keep.of_wr W26).1) (((((((((((((S_ATTACKER_NAME.ext E2).wr W4).wr W6).wr W8).wr W10).wr W12).wr W14).wr W16).wr W18).wr W20).wr W22).wr W24).wr W26) (((((((((((((S_FREE_NAME.ext E2).wr W4).wr W6).wr W8).wr W10).wr W12).wr W14).wr W16).wr W18).wr W20).wr W22).wr W24).wr W26) (((((((((((((S_FRESH_NAME.ext E2).wr W4).wr W6).wr W8).wr W10).wr W12).wr W14).wr W16).wr W18).wr W20).wr W22).wr W24).wr W26) P27) hZ (hw _ (List.mem_of_getElem? (i := 33) rfl)) (hw _ (List.mem_of_getElem? (i := 3) rfl)) (by decide) (by decide)) q27a q27c (g := (mkF m 115 #[.val (.int p1), .val (.ref b2), .val (.int ((p1 &&& (2147483647 : Int32)) % (12 : Int32))), .val (.int (1 : Int32))] [(.ref y114)])) rfl (by rw [hml]; rfl) (Steps.refl _) (argsL := []) (rest := []) (lenOf pd_0_0 rfl) rfl (by show 2 * 0 + _ ≤ _; exact Nat.le_of_eq rfl) (hb hby at_115) (fun _ _ => ⟨rfl, e26, (by decide : 1 + 0 ≤ _), (by decide : 12 + 0 ≤ _)⟩)
  dsimp only [Pt.U, Pt.locs, Pt.cells, Pt.slots] at X27 l27 y27 z27 st27 hQ27
  subst l27 y27 z27
  obtain ⟨rfl, N27q, e27⟩ := hQ27
  have N27 := Fr.app N26 N27q
  obtain ⟨fs, hr, hrun, hended, hW, hsame⟩ := X27.leave (v := some (.int (1 : Int32))) (fun h => by rw [Bd.returns] at h; cases h)
  refine ⟨_, _, pre0 _ ?_, hrun, hended, _, _, rfl, ?_, ⟨_, rfl⟩, hW, hsame.mono (by decide) (by decide)⟩
  -- 4. STEPS
  · show Steps p.tables e below (s₁.setTop (mkF m 0 #[.val (.int p1), .unset, .unset, .unset] [])) _
    refine XS.bipush X0.here hx rfl (hb hby at_0) ?_
    show Steps p.tables e below (s₁.setTop (mkF m 2 #[.val (.int p1), .unset, .unset, .unset] [(.int (12 : Int32))])) _
    refine st2 _ ?_
    show Steps p.tables e below (T2.setTop (mkF m 5 #[.val (.int p1), .unset, .unset, .unset] [(.ref b2)])) _
    refine XS.dup X2.here hx rfl (hb hby at_5) rfl rfl ?_
    show Steps p.tables e below (T2.setTop (mkF m 6 #[.val (.int p1), .unset, .unset, .unset] [(.ref b2), (.ref b2)])) _
    refine XS.iconst X2.here hx rfl (hb hby at_6) ?_
    show Steps p.tables e below (T2.setTop (mkF m 7 #[.val (.int p1), .unset, .unset, .unset] [(.int (0 : Int32)), (.ref b2), (.ref b2)])) _
    refine st3 _ ?_
    show Steps p.tables e below (T3.setTop (mkF m 10 #[.val (.int p1), .unset, .unset, .unset] [(.ref w_FREE_NAME), (.int (0 : Int32)), (.ref b2), (.ref b2)])) _
    refine st4 _ ?_
    show Steps p.tables e below (T4.setTop (mkF m 11 #[.val (.int p1), .unset, .unset, .unset] [(.ref b2)])) _
    refine XS.dup X4.here hx rfl (hb hby at_11) rfl rfl ?_
    show Steps p.tables e below (T4.setTop (mkF m 12 #[.val (.int p1), .unset, .unset, .unset] [(.ref b2), (.ref b2)])) _
    refine XS.iconst X4.here hx rfl (hb hby at_12) ?_
    show Steps p.tables e below (T4.setTop (mkF m 13 #[.val (.int p1), .unset, .unset, .unset] [(.int (1 : Int32)), (.ref b2), (.ref b2)])) _
    refine st5 _ ?_
    show Steps p.tables e below (T5.setTop (mkF m 16 #[.val (.int p1), .unset, .unset, .unset] [(.ref w_FRESH_NAME), (.int (1 : Int32)), (.ref b2), (.ref b2)])) _
    refine st6 _ ?_
    show Steps p.tables e below (T6.setTop (mkF m 17 #[.val (.int p1), .unset, .unset, .unset] [(.ref b2)])) _
    refine XS.dup X6.here hx rfl (hb hby at_17) rfl rfl ?_
    show Steps p.tables e below (T6.setTop (mkF m 18 #[.val (.int p1), .unset, .unset, .unset] [(.ref b2), (.ref b2)])) _
    refine XS.iconst X6.here hx rfl (hb hby at_18) ?_
    show Steps p.tables e below (T6.setTop (mkF m 19 #[.val (.int p1), .unset, .unset, .unset] [(.int (2 : Int32)), (.ref b2), (.ref b2)])) _
    refine st7 _ ?_
    show Steps p.tables e below (T7.setTop (mkF m 22 #[.val (.int p1), .unset, .unset, .unset] [(.ref w_ATTACKER_NAME), (.int (2 : Int32)), (.ref b2), (.ref b2)])) _
    refine st8 _ ?_
    show Steps p.tables e below (T8.setTop (mkF m 23 #[.val (.int p1), .unset, .unset, .unset] [(.ref b2)])) _
    refine XS.dup X8.here hx rfl (hb hby at_23) rfl rfl ?_
    show Steps p.tables e below (T8.setTop (mkF m 24 #[.val (.int p1), .unset, .unset, .unset] [(.ref b2), (.ref b2)])) _
    refine XS.iconst X8.here hx rfl (hb hby at_24) ?_
    show Steps p.tables e below (T8.setTop (mkF m 25 #[.val (.int p1), .unset, .unset, .unset] [(.int (3 : Int32)), (.ref b2), (.ref b2)])) _
    refine st9 _ ?_
    show Steps p.tables e below (T9.setTop (mkF m 28 #[.val (.int p1), .unset, .unset, .unset] [(.ref w_CONSTANT), (.int (3 : Int32)), (.ref b2), (.ref b2)])) _
    refine st10 _ ?_
    show Steps p.tables e below (T10.setTop (mkF m 29 #[.val (.int p1), .unset, .unset, .unset] [(.ref b2)])) _
    refine XS.dup X10.here hx rfl (hb hby at_29) rfl rfl ?_
    show Steps p.tables e below (T10.setTop (mkF m 30 #[.val (.int p1), .unset, .unset, .unset] [(.ref b2), (.ref b2)])) _
    refine XS.iconst X10.here hx rfl (hb hby at_30) ?_
    show Steps p.tables e below (T10.setTop (mkF m 31 #[.val (.int p1), .unset, .unset, .unset] [(.int (4 : Int32)), (.ref b2), (.ref b2)])) _
    refine st11 _ ?_
    show Steps p.tables e below (T11.setTop (mkF m 34 #[.val (.int p1), .unset, .unset, .unset] [(.ref w_CONSTRUCTOR), (.int (4 : Int32)), (.ref b2), (.ref b2)])) _
    refine st12 _ ?_
    show Steps p.tables e below (T12.setTop (mkF m 35 #[.val (.int p1), .unset, .unset, .unset] [(.ref b2)])) _
    refine XS.dup X12.here hx rfl (hb hby at_35) rfl rfl ?_
    show Steps p.tables e below (T12.setTop (mkF m 36 #[.val (.int p1), .unset, .unset, .unset] [(.ref b2), (.ref b2)])) _
    refine XS.iconst X12.here hx rfl (hb hby at_36) ?_
    show Steps p.tables e below (T12.setTop (mkF m 37 #[.val (.int p1), .unset, .unset, .unset] [(.int (5 : Int32)), (.ref b2), (.ref b2)])) _
    refine st13 _ ?_
    show Steps p.tables e below (T13.setTop (mkF m 40 #[.val (.int p1), .unset, .unset, .unset] [(.ref w_DATA), (.int (5 : Int32)), (.ref b2), (.ref b2)])) _
    refine st14 _ ?_
    show Steps p.tables e below (T14.setTop (mkF m 41 #[.val (.int p1), .unset, .unset, .unset] [(.ref b2)])) _
    refine XS.dup X14.here hx rfl (hb hby at_41) rfl rfl ?_
    show Steps p.tables e below (T14.setTop (mkF m 42 #[.val (.int p1), .unset, .unset, .unset] [(.ref b2), (.ref b2)])) _
    refine XS.bipush X14.here hx rfl (hb hby at_42) ?_
    show Steps p.tables e below (T14.setTop (mkF m 44 #[.val (.int p1), .unset, .unset, .unset] [(.int (6 : Int32)), (.ref b2), (.ref b2)])) _
    refine st15 _ ?_
    show Steps p.tables e below (T15.setTop (mkF m 47 #[.val (.int p1), .unset, .unset, .unset] [(.ref w_CONVERTER), (.int (6 : Int32)), (.ref b2), (.ref b2)])) _
    refine st16 _ ?_
    show Steps p.tables e below (T16.setTop (mkF m 48 #[.val (.int p1), .unset, .unset, .unset] [(.ref b2)])) _
    refine XS.dup X16.here hx rfl (hb hby at_48) rfl rfl ?_
    show Steps p.tables e below (T16.setTop (mkF m 49 #[.val (.int p1), .unset, .unset, .unset] [(.ref b2), (.ref b2)])) _
    refine XS.bipush X16.here hx rfl (hb hby at_49) ?_
    show Steps p.tables e below (T16.setTop (mkF m 51 #[.val (.int p1), .unset, .unset, .unset] [(.int (7 : Int32)), (.ref b2), (.ref b2)])) _
    refine st17 _ ?_
    show Steps p.tables e below (T17.setTop (mkF m 54 #[.val (.int p1), .unset, .unset, .unset] [(.ref w_TUPLE), (.int (7 : Int32)), (.ref b2), (.ref b2)])) _
    refine st18 _ ?_
    show Steps p.tables e below (T18.setTop (mkF m 55 #[.val (.int p1), .unset, .unset, .unset] [(.ref b2)])) _
    refine XS.dup X18.here hx rfl (hb hby at_55) rfl rfl ?_
    show Steps p.tables e below (T18.setTop (mkF m 56 #[.val (.int p1), .unset, .unset, .unset] [(.ref b2), (.ref b2)])) _
    refine XS.bipush X18.here hx rfl (hb hby at_56) ?_
    show Steps p.tables e below (T18.setTop (mkF m 58 #[.val (.int p1), .unset, .unset, .unset] [(.int (8 : Int32)), (.ref b2), (.ref b2)])) _
    refine st19 _ ?_
    show Steps p.tables e below (T19.setTop (mkF m 61 #[.val (.int p1), .unset, .unset, .unset] [(.ref w_DESTRUCTOR), (.int (8 : Int32)), (.ref b2), (.ref b2)])) _
    refine st20 _ ?_
    show Steps p.tables e below (T20.setTop (mkF m 62 #[.val (.int p1), .unset, .unset, .unset] [(.ref b2)])) _
    refine XS.dup X20.here hx rfl (hb hby at_62) rfl rfl ?_
    show Steps p.tables e below (T20.setTop (mkF m 63 #[.val (.int p1), .unset, .unset, .unset] [(.ref b2), (.ref b2)])) _
    refine XS.bipush X20.here hx rfl (hb hby at_63) ?_
    show Steps p.tables e below (T20.setTop (mkF m 65 #[.val (.int p1), .unset, .unset, .unset] [(.int (9 : Int32)), (.ref b2), (.ref b2)])) _
    refine st21 _ ?_
    show Steps p.tables e below (T21.setTop (mkF m 68 #[.val (.int p1), .unset, .unset, .unset] [(.ref w_EVENT), (.int (9 : Int32)), (.ref b2), (.ref b2)])) _
    refine st22 _ ?_
    show Steps p.tables e below (T22.setTop (mkF m 69 #[.val (.int p1), .unset, .unset, .unset] [(.ref b2)])) _
    refine XS.dup X22.here hx rfl (hb hby at_69) rfl rfl ?_
    show Steps p.tables e below (T22.setTop (mkF m 70 #[.val (.int p1), .unset, .unset, .unset] [(.ref b2), (.ref b2)])) _
    refine XS.bipush X22.here hx rfl (hb hby at_70) ?_
    show Steps p.tables e below (T22.setTop (mkF m 72 #[.val (.int p1), .unset, .unset, .unset] [(.int (10 : Int32)), (.ref b2), (.ref b2)])) _
    refine st23 _ ?_
    show Steps p.tables e below (T23.setTop (mkF m 75 #[.val (.int p1), .unset, .unset, .unset] [(.ref w_TABLE), (.int (10 : Int32)), (.ref b2), (.ref b2)])) _
    refine st24 _ ?_
    show Steps p.tables e below (T24.setTop (mkF m 76 #[.val (.int p1), .unset, .unset, .unset] [(.ref b2)])) _
    refine XS.dup X24.here hx rfl (hb hby at_76) rfl rfl ?_
    show Steps p.tables e below (T24.setTop (mkF m 77 #[.val (.int p1), .unset, .unset, .unset] [(.ref b2), (.ref b2)])) _
    refine XS.bipush X24.here hx rfl (hb hby at_77) ?_
    show Steps p.tables e below (T24.setTop (mkF m 79 #[.val (.int p1), .unset, .unset, .unset] [(.int (11 : Int32)), (.ref b2), (.ref b2)])) _
    refine st25 _ ?_
    show Steps p.tables e below (T25.setTop (mkF m 82 #[.val (.int p1), .unset, .unset, .unset] [(.ref w_OCCURRENCE), (.int (11 : Int32)), (.ref b2), (.ref b2)])) _
    refine st26 _ ?_
    show Steps p.tables e below (T26.setTop (mkF m 83 #[.val (.int p1), .unset, .unset, .unset] [(.ref b2)])) _
    refine XS.astoreN X26.here hx rfl (hb hby at_83) rfl rfl (l' := #[.val (.int p1), .val (.ref b2), .unset, .unset]) rfl ?_
    show Steps p.tables e below (T26.setTop (mkF m 84 #[.val (.int p1), .val (.ref b2), .unset, .unset] [])) _
    refine XS.iloadN X26.here hx rfl (hb hby at_84) rfl ?_
    show Steps p.tables e below (T26.setTop (mkF m 85 #[.val (.int p1), .val (.ref b2), .unset, .unset] [(.int p1)])) _
    refine X26.ldcInt hx hown (mvT hZ (hw _ (List.mem_of_getElem? (i := 28) rfl))) (g := (mkF m 85 #[.val (.int p1), .val (.ref b2), .unset, .unset] [(.int p1)])) rfl (hb hby at_85) _ ?_
    show Steps p.tables e below (T26.setTop (mkF m 87 #[.val (.int p1), .val (.ref b2), .unset, .unset] [(.int (2147483647 : Int32)), (.int p1)])) _
    refine XS.iand X26.here hx rfl (hb hby at_87) rfl ?_
    show Steps p.tables e below (T26.setTop (mkF m 88 #[.val (.int p1), .val (.ref b2), .unset, .unset] [(.int (p1 &&& (2147483647 : Int32)))])) _
    refine XS.bipush X26.here hx rfl (hb hby at_88) ?_
    show Steps p.tables e below (T26.setTop (mkF m 90 #[.val (.int p1), .val (.ref b2), .unset, .unset] [(.int (12 : Int32)), (.int (p1 &&& (2147483647 : Int32)))])) _
    refine iremM X26 hx rfl (hb hby at_90) rfl (by decide) ?_
    show Steps p.tables e below (T26.setTop (mkF m 91 #[.val (.int p1), .val (.ref b2), .unset, .unset] [(.int ((p1 &&& (2147483647 : Int32)) % (12 : Int32)))])) _
    refine XS.istoreN X26.here hx rfl (hb hby at_91) rfl (l' := #[.val (.int p1), .val (.ref b2), .val (.int ((p1 &&& (2147483647 : Int32)) % (12 : Int32))), .unset]) rfl ?_
    show Steps p.tables e below (T26.setTop (mkF m 92 #[.val (.int p1), .val (.ref b2), .val (.int ((p1 &&& (2147483647 : Int32)) % (12 : Int32))), .unset] [])) _
    refine XS.iloadN X26.here hx rfl (hb hby at_92) rfl ?_
    show Steps p.tables e below (T26.setTop (mkF m 93 #[.val (.int p1), .val (.ref b2), .val (.int ((p1 &&& (2147483647 : Int32)) % (12 : Int32))), .unset] [(.int ((p1 &&& (2147483647 : Int32)) % (12 : Int32)))])) _
    refine XS.ifNo X26.here hx rfl (hb hby at_93) rfl ((if0 _ _).trans (feq hc93).1) ?_
    show Steps p.tables e below (T26.setTop (mkF m 96 #[.val (.int p1), .val (.ref b2), .val (.int ((p1 &&& (2147483647 : Int32)) % (12 : Int32))), .unset] [])) _
    refine XS.iloadN X26.here hx rfl (hb hby at_96) rfl ?_
    show Steps p.tables e below (T26.setTop (mkF m 97 #[.val (.int p1), .val (.ref b2), .val (.int ((p1 &&& (2147483647 : Int32)) % (12 : Int32))), .unset] [(.int ((p1 &&& (2147483647 : Int32)) % (12 : Int32)))])) _
    refine XS.iconst X26.here hx rfl (hb hby at_97) ?_
    show Steps p.tables e below (T26.setTop (mkF m 98 #[.val (.int p1), .val (.ref b2), .val (.int ((p1 &&& (2147483647 : Int32)) % (12 : Int32))), .unset] [(.int (1 : Int32)), (.int ((p1 &&& (2147483647 : Int32)) % (12 : Int32)))])) _
    refine XS.icmpYes X26.here hx rfl (pc0 := 98) (pc' := 106) rfl (hb hby at_98) rfl (teq hc98).1 (by decide) (by decide) ?_
    show Steps p.tables e below (T26.setTop (mkF m 106 #[.val (.int p1), .val (.ref b2), .val (.int ((p1 &&& (2147483647 : Int32)) % (12 : Int32))), .unset] [])) _
    refine XS.iconst X26.here hx rfl (hb hby at_106) ?_
    show Steps p.tables e below (T26.setTop (mkF m 107 #[.val (.int p1), .val (.ref b2), .val (.int ((p1 &&& (2147483647 : Int32)) % (12 : Int32))), .unset] [(.int (1 : Int32))])) _
    refine XS.goto X26.here hx rfl (pc0 := 107) (pc' := 111) rfl (hb hby at_107) (by decide) (by decide) ?_
    show Steps p.tables e below (T26.setTop (mkF m 111 #[.val (.int p1), .val (.ref b2), .val (.int ((p1 &&& (2147483647 : Int32)) % (12 : Int32))), .unset] [(.int (1 : Int32))])) _
    refine XS.istoreN X26.here hx rfl (hb hby at_111) rfl (l' := #[.val (.int p1), .val (.ref b2), .val (.int ((p1 &&& (2147483647 : Int32)) % (12 : Int32))), .val (.int (1 : Int32))]) rfl ?_
    show Steps p.tables e below (T26.setTop (mkF m 112 #[.val (.int p1), .val (.ref b2), .val (.int ((p1 &&& (2147483647 : Int32)) % (12 : Int32))), .val (.int (1 : Int32))] [])) _
    refine XS.aloadN X26.here hx rfl (hb hby at_112) rfl rfl ?_
    show Steps p.tables e below (T26.setTop (mkF m 113 #[.val (.int p1), .val (.ref b2), .val (.int ((p1 &&& (2147483647 : Int32)) % (12 : Int32))), .val (.int (1 : Int32))] [(.ref b2)])) _
    refine XS.iloadN X26.here hx rfl (hb hby at_113) rfl ?_
    show Steps p.tables e below (T26.setTop (mkF m 114 #[.val (.int p1), .val (.ref b2), .val (.int ((p1 &&& (2147483647 : Int32)) % (12 : Int32))), .val (.int (1 : Int32))] [(.int ((p1 &&& (2147483647 : Int32)) % (12 : Int32))), (.ref b2)])) _
    refine X26.aaload hx (j := ((p1 &&& (2147483647 : Int32)) % (12 : Int32))) (v := (.ref y114)) (by rw [e26]; exact Ar114v.1) (State.isArrayOf_alike hZ.alike Ar114v.2.1) rfl Ar114v.2.2 hin114 hat114 (g := (mkF m 114 #[.val (.int p1), .val (.ref b2), .val (.int ((p1 &&& (2147483647 : Int32)) % (12 : Int32))), .val (.int (1 : Int32))] [(.int ((p1 &&& (2147483647 : Int32)) % (12 : Int32))), (.ref b2)])) rfl rfl (hb hby at_114) _ ?_
    show Steps p.tables e below (T26.setTop (mkF m 115 #[.val (.int p1), .val (.ref b2), .val (.int ((p1 &&& (2147483647 : Int32)) % (12 : Int32))), .val (.int (1 : Int32))] [(.ref y114)])) _
    refine st27.trans ?_
    show Steps p.tables e below (T27.setTop (mkF m 118 #[.val (.int p1), .val (.ref b2), .val (.int ((p1 &&& (2147483647 : Int32)) % (12 : Int32))), .val (.int (1 : Int32))] [(.int r27)])) _
    refine XS.iloadN X27.here hx rfl (hb hby at_118) rfl ?_
    show Steps p.tables e below (T27.setTop (mkF m 119 #[.val (.int p1), .val (.ref b2), .val (.int ((p1 &&& (2147483647 : Int32)) % (12 : Int32))), .val (.int (1 : Int32))] [(.int (1 : Int32)), (.int r27)])) _
    refine XS.icmpNo X27.here hx rfl (hb hby at_119) rfl (teq hc119).2 ?_
    show Steps p.tables e below (T27.setTop (mkF m 122 #[.val (.int p1), .val (.ref b2), .val (.int ((p1 &&& (2147483647 : Int32)) % (12 : Int32))), .val (.int (1 : Int32))] [])) _
    refine XS.iconst X27.here hx rfl (hb hby at_122) ?_
    show Steps p.tables e below (T27.setTop (mkF m 123 #[.val (.int p1), .val (.ref b2), .val (.int ((p1 &&& (2147483647 : Int32)) % (12 : Int32))), .val (.int (1 : Int32))] [(.int (1 : Int32))])) _
    refine XS.goto X27.here hx rfl (pc0 := 123) (pc' := 127) rfl (hb hby at_123) (by decide) (by decide) ?_
    show Steps p.tables e below (T27.setTop (mkF m 127 #[.val (.int p1), .val (.ref b2), .val (.int ((p1 &&& (2147483647 : Int32)) % (12 : Int32))), .val (.int (1 : Int32))] [(.int (1 : Int32))])) _
    exact retN X27 hx (t := .boolean) Bd.returns (by simp) (hb hby at_127) hr
  · show Q0 n0 _ T27.heap _
    rw [e27]
    exact ⟨rfl, N27⟩
set_option maxRecDepth 65536 in
set_option maxHeartbeats 40000000 in
theorem rm0_ffff (l : Launch) (Z : State) (a0 : Array Value) (hw : ∀ d ∈ tables_1, d.before a0 Z = true) (ws : List Jvm.Cond) (p1 : Int32) (w_FREE_NAME : Addr) (w_FRESH_NAME : Addr) (w_ATTACKER_NAME : Addr) (w_CONSTANT : Addr) (w_CONSTRUCTOR : Addr) (w_DATA : Addr) (w_CONVERTER : Addr) (w_TUPLE : Addr) (w_DESTRUCTOR : Addr) (w_EVENT : Addr) (w_TABLE : Addr) (w_OCCURRENCE : Addr) (y114 : Addr) (r27 : Int32) (h0 : Heap) (n0 : Nat) (Z0 : n0 ≤ h0.size) (S_FREE_NAME : Sta Z h0 "com/example/applied_pi_checker/appliedpichecker/FunctionSymbol$Kind" "FREE_NAME" "Lcom/example/applied_pi_checker/appliedpichecker/FunctionSymbol$Kind;" (.ref w_FREE_NAME)) (E_FREE_NAME : Exa Z h0 w_FREE_NAME "com/example/applied_pi_checker/appliedpichecker/FunctionSymbol$Kind") (S_FRESH_NAME : Sta Z h0 "com/example/applied_pi_checker/appliedpichecker/FunctionSymbol$Kind" "FRESH_NAME" "Lcom/example/applied_pi_checker/appliedpichecker/FunctionSymbol$Kind;" (.ref w_FRESH_NAME)) (E_FRESH_NAME : Exa Z h0 w_FRESH_NAME "com/example/applied_pi_checker/appliedpichecker/FunctionSymbol$Kind") (S_ATTACKER_NAME : Sta Z h0 "com/example/applied_pi_checker/appliedpichecker/FunctionSymbol$Kind" "ATTACKER_NAME" "Lcom/example/applied_pi_checker/appliedpichecker/FunctionSymbol$Kind;" (.ref w_ATTACKER_NAME)) (E_ATTACKER_NAME : Exa Z h0 w_ATTACKER_NAME "com/example/applied_pi_checker/appliedpichecker/FunctionSymbol$Kind") (S_CONSTANT : Sta Z h0 "com/example/applied_pi_checker/appliedpichecker/FunctionSymbol$Kind" "CONSTANT" "Lcom/example/applied_pi_checker/appliedpichecker/FunctionSymbol$Kind;" (.ref w_CONSTANT)) (E_CONSTANT : Exa Z h0 w_CONSTANT "com/example/applied_pi_checker/appliedpichecker/FunctionSymbol$Kind") (S_CONSTRUCTOR : Sta Z h0 "com/example/applied_pi_checker/appliedpichecker/FunctionSymbol$Kind" "CONSTRUCTOR" "Lcom/example/applied_pi_checker/appliedpichecker/FunctionSymbol$Kind;" (.ref w_CONSTRUCTOR)) (E_CONSTRUCTOR : Exa Z h0 w_CONSTRUCTOR "com/example/applied_pi_checker/appliedpichecker/FunctionSymbol$Kind") (S_DATA : Sta Z h0 "com/example/applied_pi_checker/appliedpichecker/FunctionSymbol$Kind" "DATA" "Lcom/example/applied_pi_checker/appliedpichecker/FunctionSymbol$Kind;" (.ref w_DATA)) (E_DATA : Exa Z h0 w_DATA "com/example/applied_pi_checker/appliedpichecker/FunctionSymbol$Kind") (S_CONVERTER : Sta Z h0 "com/example/applied_pi_checker/appliedpichecker/FunctionSymbol$Kind" "CONVERTER" "Lcom/example/applied_pi_checker/appliedpichecker/FunctionSymbol$Kind;" (.ref w_CONVERTER)) (E_CONVERTER : Exa Z h0 w_CONVERTER "com/example/applied_pi_checker/appliedpichecker/FunctionSymbol$Kind") (S_TUPLE : Sta Z h0 "com/example/applied_pi_checker/appliedpichecker/FunctionSymbol$Kind" "TUPLE" "Lcom/example/applied_pi_checker/appliedpichecker/FunctionSymbol$Kind;" (.ref w_TUPLE)) (E_TUPLE : Exa Z h0 w_TUPLE "com/example/applied_pi_checker/appliedpichecker/FunctionSymbol$Kind") (S_DESTRUCTOR : Sta Z h0 "com/example/applied_pi_checker/appliedpichecker/FunctionSymbol$Kind" "DESTRUCTOR" "Lcom/example/applied_pi_checker/appliedpichecker/FunctionSymbol$Kind;" (.ref w_DESTRUCTOR)) (E_DESTRUCTOR : Exa Z h0 w_DESTRUCTOR "com/example/applied_pi_checker/appliedpichecker/FunctionSymbol$Kind") (S_EVENT : Sta Z h0 "com/example/applied_pi_checker/appliedpichecker/FunctionSymbol$Kind" "EVENT" "Lcom/example/applied_pi_checker/appliedpichecker/FunctionSymbol$Kind;" (.ref w_EVENT)) (E_EVENT : Exa Z h0 w_EVENT "com/example/applied_pi_checker/appliedpichecker/FunctionSymbol$Kind") (S_TABLE : Sta Z h0 "com/example/applied_pi_checker/appliedpichecker/FunctionSymbol$Kind" "TABLE" "Lcom/example/applied_pi_checker/appliedpichecker/FunctionSymbol$Kind;" (.ref w_TABLE)) (E_TABLE : Exa Z h0 w_TABLE "com/example/applied_pi_checker/appliedpichecker/FunctionSymbol$Kind") (S_OCCURRENCE : Sta Z h0 "com/example/applied_pi_checker/appliedpichecker/FunctionSymbol$Kind" "OCCURRENCE" "Lcom/example/applied_pi_checker/appliedpichecker/FunctionSymbol$Kind;" (.ref w_OCCURRENCE)) (E_OCCURRENCE : Exa Z h0 w_OCCURRENCE "com/example/applied_pi_checker/appliedpichecker/FunctionSymbol$Kind") (P27 : R1 y114 w_ATTACKER_NAME w_FREE_NAME w_FRESH_NAME r27) (E_y114 : Exa Z h0 y114 "com/example/applied_pi_checker/appliedpichecker/FunctionSymbol$Kind") (hc93 : ¬ (((p1 &&& (2147483647 : Int32)) % (12 : Int32)) = (0 : Int32))) (hc98 : ¬ (((p1 &&& (2147483647 : Int32)) % (12 : Int32)) = (1 : Int32))) (hc103 : ((p1 &&& (2147483647 : Int32)) % (12 : Int32)) = (2 : Int32)) (hi114 : ¬ ((p1 &&& (2147483647 : Int32)) % (12 : Int32)) < 0 ∧ ((p1 &&& (2147483647 : Int32)) % (12 : Int32)) < (12 : Int32)) (hv114 : ([(.ref w_FREE_NAME), (.ref w_FRESH_NAME), (.ref w_ATTACKER_NAME), (.ref w_CONSTANT), (.ref w_CONSTRUCTOR), (.ref w_DATA), (.ref w_CONVERTER), (.ref w_TUPLE), (.ref w_DESTRUCTOR), (.ref w_EVENT), (.ref w_TABLE), (.ref w_OCCURRENCE)] : List Value).getD (((p1 &&& (2147483647 : Int32)) % (12 : Int32))).toNatClampNeg (.null : Value) = (.ref y114 : Value)) (hc119 : r27 = (1 : Int32)) :
    MetFree l x (head1 (Jvm.Cond.code x code maxLocals ret :: ws) room_1) (fun a U => a = #[(.int p1)] ∧ Z.Warmed39 U.vm ∧ U.heap = h0) (fun _ _ _ _ _ => True) (fun _ U o U' => ∃ v L, o = .returned v ∧ Q0 n0 v U'.heap L ∧ FrameEnd U o U' L room_1.cells room_1.slots) := by
  refine MetFree.of_bodySF (plainFor_of_name pn_0) hisR ?_
  intro p e s m args below meth c s₁ Bd hml0 hP hK
  obtain ⟨rfl, hZ, hh⟩ := hP
  have hx := Bd.exec
  have hby := Bd.bytes
  have hml : c.maxLocals = 4 := hml0
  have hown : s.vm.findClass "com/example/applied_pi_checker/appliedpichecker/KindIsNamePinLaw" = some m.cls := findClass_of_methodNamed Bd.named
  have hnm := (name_of_methodNamed Bd.named Bd.method).1
  have X0 : Stand p l e room_1 s m #[(.int p1)] below meth c s₁ [] 0 0 := Stand.of_body Bd
  have e0 : s₁.heap = h0 := by rw [← hh, Bd.state]; rfl
  have N0 := Fr.nil n0
  have pre0 : ∀ t, Steps p.tables e below (s₁.setTop (mkF m 0 #[.val (.int p1), .unset, .unset, .unset] [])) t → Steps p.tables e below (s₁.setTop (entryFrame m #[(.int p1)] maxLocals)) t := fun t k => castTop (ef_0 m p1) k
  -- 3. LAWS
  obtain ⟨T2, h2, k2, X2, e2, E2, A2, O2, st2⟩ := newR X0 hx hZ hown (hw _ (List.mem_of_getElem? (i := 0) rfl)) (hw _ (List.mem_of_getElem? (i := 1) rfl)) e0 (g := (mkF m 2 #[.val (.int p1), .unset, .unset, .unset] [(.int (12 : Int32))])) rfl (hb hby at_2) rfl (by decide) (cap := 12) (by decide) (by decide) (by decide) (by decide)
  obtain ⟨b2, g2⟩ : ∃ z, z = h0.size := ⟨_, rfl⟩
  rw [← g2] at A2 st2
  have V_b2 : Arv Z h2 b2 k2 (.object "com/example/applied_pi_checker/appliedpichecker/FunctionSymbol$Kind") (12 : Int32) [.null, .null, .null, .null, .null, .null, .null, .null, .null, .null, .null, .null] .null := (Arv.new A2 (by decide)).pad (pad_rep [] .null 12)
  have g_b2 : n0 ≤ b2 := Nat.le_trans Z0 (Nat.le_of_eq g2.symm)
  obtain ⟨T3, X3, e3, st3⟩ := getS2 X2 hx hZ hown (host := "") (Or.inl (hw _ (List.mem_of_getElem? (i := 2) rfl))) Via.refl e2 (S_FREE_NAME.ext E2) (g := (mkF m 7 #[.val (.int p1), .unset, .unset, .unset] [(.int (0 : Int32)), (.ref b2), (.ref b2)])) rfl (hb hby at_7)
  obtain ⟨cl10v, Ar10v, q10v, S10v, N10v, H10v, G10v⟩ := V_b2
  have hin10 : ¬ ((0 : Int32) < 0 ∨ cl10v.slots.size ≤ ((0 : Int32)).toNatClampNeg) := inb_of S10v ⟨by decide, by decide⟩
  obtain ⟨T4, h4, X4, e4, W4, st4⟩ := stR X3 hx hZ e3 Ar10v (j := (0 : Int32)) hin10 rfl (Sto.ofV Ar10v q10v O2 (Ins.self (E_FREE_NAME.ext E2))) (g := (mkF m 10 #[.val (.int p1), .unset, .unset, .unset] [(.ref w_FREE_NAME), (.int (0 : Int32)), (.ref b2), (.ref b2)])) rfl rfl (hb hby at_10)
  have V10 : Arv Z h4 b2 k2 (.object "com/example/applied_pi_checker/appliedpichecker/FunctionSymbol$Kind") (12 : Int32) [(.ref w_FREE_NAME), .null, .null, .null, .null, .null, .null, .null, .null, .null, .null, .null] .null := Arv.set Ar10v q10v S10v N10v H10v G10v rfl W4 0 rfl (Nat.le_of_ble_eq_true rfl)
  have N4 := Fr.snoc X4 N0 g_b2
  obtain ⟨T5, X5, e5, st5⟩ := getS2 X4 hx hZ hown (host := "") (Or.inl (hw _ (List.mem_of_getElem? (i := 6) rfl))) Via.refl e4 ((S_FRESH_NAME.ext E2).wr W4) (g := (mkF m 13 #[.val (.int p1), .unset, .unset, .unset] [(.int (1 : Int32)), (.ref b2), (.ref b2)])) rfl (hb hby at_13)
  obtain ⟨cl16v, Ar16v, q16v, S16v, N16v, H16v, G16v⟩ := V10
  have hin16 : ¬ ((1 : Int32) < 0 ∨ cl16v.slots.size ≤ ((1 : Int32)).toNatClampNeg) := inb_of S16v ⟨by decide, by decide⟩
  obtain ⟨T6, h6, X6, e6, W6, st6⟩ := stR X5 hx hZ e5 Ar16v (j := (1 : Int32)) hin16 rfl (Sto.ofV Ar16v q16v O2 (Ins.self ((E_FRESH_NAME.ext E2).wr W4))) (g := (mkF m 16 #[.val (.int p1), .unset, .unset, .unset] [(.ref w_FRESH_NAME), (.int (1 : Int32)), (.ref b2), (.ref b2)])) rfl rfl (hb hby at_16)
  have V16 : Arv Z h6 b2 k2 (.object "com/example/applied_pi_checker/appliedpichecker/FunctionSymbol$Kind") (12 : Int32) [(.ref w_FREE_NAME), (.ref w_FRESH_NAME), .null, .null, .null, .null, .null, .null, .null, .null, .null, .null] .null := Arv.set Ar16v q16v S16v N16v H16v G16v rfl W6 1 rfl (Nat.le_of_ble_eq_true rfl)
  have N6 := Fr.snoc X6 N4 g_b2
  obtain ⟨T7, X7, e7, st7⟩ := getS2 X6 hx hZ hown (host := "") (Or.inl (hw _ (List.mem_of_getElem? (i := 8) rfl))) Via.refl e6 (((S_ATTACKER_NAME.ext E2).wr W4).wr W6) (g := (mkF m 19 #[.val (.int p1), .unset, .unset, .unset] [(.int (2 : Int32)), (.ref b2), (.ref b2)])) rfl (hb hby at_19)
  obtain ⟨cl22v, Ar22v, q22v, S22v, N22v, H22v, G22v⟩ := V16
  have hin22 : ¬ ((2 : Int32) < 0 ∨ cl22v.slots.size ≤ ((2 : Int32)).toNatClampNeg) := inb_of S22v ⟨by decide, by decide⟩
  obtain ⟨T8, h8, X8, e8, W8, st8⟩ := stR X7 hx hZ e7 Ar22v (j := (2 : Int32)) hin22 rfl (Sto.ofV Ar22v q22v O2 (Ins.self (((E_ATTACKER_NAME.ext E2).wr W4).wr W6))) (g := (mkF m 22 #[.val (.int p1), .unset, .unset, .unset] [(.ref w_ATTACKER_NAME), (.int (2 : Int32)), (.ref b2), (.ref b2)])) rfl rfl (hb hby at_22)
  have V22 : Arv Z h8 b2 k2 (.object "com/example/applied_pi_checker/appliedpichecker/FunctionSymbol$Kind") (12 : Int32) [(.ref w_FREE_NAME), (.ref w_FRESH_NAME), (.ref w_ATTACKER_NAME), .null, .null, .null, .null, .null, .null, .null, .null, .null] .null := Arv.set Ar22v q22v S22v N22v H22v G22v rfl W8 2 rfl (Nat.le_of_ble_eq_true rfl)
  have N8 := Fr.snoc X8 N6 g_b2
  obtain ⟨T9, X9, e9, st9⟩ := getS2 X8 hx hZ hown (host := "") (Or.inl (hw _ (List.mem_of_getElem? (i := 10) rfl))) Via.refl e8 ((((S_CONSTANT.ext E2).wr W4).wr W6).wr W8) (g := (mkF m 25 #[.val (.int p1), .unset, .unset, .unset] [(.int (3 : Int32)), (.ref b2), (.ref b2)])) rfl (hb hby at_25)
  obtain ⟨cl28v, Ar28v, q28v, S28v, N28v, H28v, G28v⟩ := V22
  have hin28 : ¬ ((3 : Int32) < 0 ∨ cl28v.slots.size ≤ ((3 : Int32)).toNatClampNeg) := inb_of S28v ⟨by decide, by decide⟩
  obtain ⟨T10, h10, X10, e10, W10, st10⟩ := stR X9 hx hZ e9 Ar28v (j := (3 : Int32)) hin28 rfl (Sto.ofV Ar28v q28v O2 (Ins.self ((((E_CONSTANT.ext E2).wr W4).wr W6).wr W8))) (g := (mkF m 28 #[.val (.int p1), .unset, .unset, .unset] [(.ref w_CONSTANT), (.int (3 : Int32)), (.ref b2), (.ref b2)])) rfl rfl (hb hby at_28)
  have V28 : Arv Z h10 b2 k2 (.object "com/example/applied_pi_checker/appliedpichecker/FunctionSymbol$Kind") (12 : Int32) [(.ref w_FREE_NAME), (.ref w_FRESH_NAME), (.ref w_ATTACKER_NAME), (.ref w_CONSTANT), .null, .null, .null, .null, .null, .null, .null, .null] .null := Arv.set Ar28v q28v S28v N28v H28v G28v rfl W10 3 rfl (Nat.le_of_ble_eq_true rfl)
  have N10 := Fr.snoc X10 N8 g_b2
  obtain ⟨T11, X11, e11, st11⟩ := getS2 X10 hx hZ hown (host := "") (Or.inl (hw _ (List.mem_of_getElem? (i := 12) rfl))) Via.refl e10 (((((S_CONSTRUCTOR.ext E2).wr W4).wr W6).wr W8).wr W10) (g := (mkF m 31 #[.val (.int p1), .unset, .unset, .unset] [(.int (4 : Int32)), (.ref b2), (.ref b2)])) rfl (hb hby at_31)
  obtain ⟨cl34v, Ar34v, q34v, S34v, N34v, H34v, G34v⟩ := V28
  have hin34 : ¬ ((4 : Int32) < 0 ∨ cl34v.slots.size ≤ ((4 : Int32)).toNatClampNeg) := inb_of S34v ⟨by decide, by decide⟩
  obtain ⟨T12, h12, X12, e12, W12, st12⟩ := stR X11 hx hZ e11 Ar34v (j := (4 : Int32)) hin34 rfl (Sto.ofV Ar34v q34v O2 (Ins.self (((((E_CONSTRUCTOR.ext E2).wr W4).wr W6).wr W8).wr W10))) (g := (mkF m 34 #[.val (.int p1), .unset, .unset, .unset] [(.ref w_CONSTRUCTOR), (.int (4 : Int32)), (.ref b2), (.ref b2)])) rfl rfl (hb hby at_34)
  have V34 : Arv Z h12 b2 k2 (.object "com/example/applied_pi_checker/appliedpichecker/FunctionSymbol$Kind") (12 : Int32) [(.ref w_FREE_NAME), (.ref w_FRESH_NAME), (.ref w_ATTACKER_NAME), (.ref w_CONSTANT), (.ref w_CONSTRUCTOR), .null, .null, .null, .null, .null, .null, .null] .null := Arv.set Ar34v q34v S34v N34v H34v G34v rfl W12 4 rfl (Nat.le_of_ble_eq_true rfl)
  have N12 := Fr.snoc X12 N10 g_b2
  obtain ⟨T13, X13, e13, st13⟩ := getS2 X12 hx hZ hown (host := "") (Or.inl (hw _ (List.mem_of_getElem? (i := 14) rfl))) Via.refl e12 ((((((S_DATA.ext E2).wr W4).wr W6).wr W8).wr W10).wr W12) (g := (mkF m 37 #[.val (.int p1), .unset, .unset, .unset] [(.int (5 : Int32)), (.ref b2), (.ref b2)])) rfl (hb hby at_37)
  obtain ⟨cl40v, Ar40v, q40v, S40v, N40v, H40v, G40v⟩ := V34
  have hin40 : ¬ ((5 : Int32) < 0 ∨ cl40v.slots.size ≤ ((5 : Int32)).toNatClampNeg) := inb_of S40v ⟨by decide, by decide⟩
  obtain ⟨T14, h14, X14, e14, W14, st14⟩ := stR X13 hx hZ e13 Ar40v (j := (5 : Int32)) hin40 rfl (Sto.ofV Ar40v q40v O2 (Ins.self ((((((E_DATA.ext E2).wr W4).wr W6).wr W8).wr W10).wr W12))) (g := (mkF m 40 #[.val (.int p1), .unset, .unset, .unset] [(.ref w_DATA), (.int (5 : Int32)), (.ref b2), (.ref b2)])) rfl rfl (hb hby at_40)
  have V40 : Arv Z h14 b2 k2 (.object "com/example/applied_pi_checker/appliedpichecker/FunctionSymbol$Kind") (12 : Int32) [(.ref w_FREE_NAME), (.ref w_FRESH_NAME), (.ref w_ATTACKER_NAME), (.ref w_CONSTANT), (.ref w_CONSTRUCTOR), (.ref w_DATA), .null, .null, .null, .null, .null, .null] .null := Arv.set Ar40v q40v S40v N40v H40v G40v rfl W14 5 rfl (Nat.le_of_ble_eq_true rfl)
  have N14 := Fr.snoc X14 N12 g_b2
  obtain ⟨T15, X15, e15, st15⟩ := getS2 X14 hx hZ hown (host := "") (Or.inl (hw _ (List.mem_of_getElem? (i := 16) rfl))) Via.refl e14 (((((((S_CONVERTER.ext E2).wr W4).wr W6).wr W8).wr W10).wr W12).wr W14) (g := (mkF m 44 #[.val (.int p1), .unset, .unset, .unset] [(.int (6 : Int32)), (.ref b2), (.ref b2)])) rfl (hb hby at_44)
  obtain ⟨cl47v, Ar47v, q47v, S47v, N47v, H47v, G47v⟩ := V40
  have hin47 : ¬ ((6 : Int32) < 0 ∨ cl47v.slots.size ≤ ((6 : Int32)).toNatClampNeg) := inb_of S47v ⟨by decide, by decide⟩
  obtain ⟨T16, h16, X16, e16, W16, st16⟩ := stR X15 hx hZ e15 Ar47v (j := (6 : Int32)) hin47 rfl (Sto.ofV Ar47v q47v O2 (Ins.self (((((((E_CONVERTER.ext E2).wr W4).wr W6).wr W8).wr W10).wr W12).wr W14))) (g := (mkF m 47 #[.val (.int p1), .unset, .unset, .unset] [(.ref w_CONVERTER), (.int (6 : Int32)), (.ref b2), (.ref b2)])) rfl rfl (hb hby at_47)
  have V47 : Arv Z h16 b2 k2 (.object "com/example/applied_pi_checker/appliedpichecker/FunctionSymbol$Kind") (12 : Int32) [(.ref w_FREE_NAME), (.ref w_FRESH_NAME), (.ref w_ATTACKER_NAME), (.ref w_CONSTANT), (.ref w_CONSTRUCTOR), (.ref w_DATA), (.ref w_CONVERTER), .null, .null, .null, .null, .null] .null := Arv.set Ar47v q47v S47v N47v H47v G47v rfl W16 6 rfl (Nat.le_of_ble_eq_true rfl)
  have N16 := Fr.snoc X16 N14 g_b2
  obtain ⟨T17, X17, e17, st17⟩ := getS2 X16 hx hZ hown (host := "") (Or.inl (hw _ (List.mem_of_getElem? (i := 18) rfl))) Via.refl e16 ((((((((S_TUPLE.ext E2).wr W4).wr W6).wr W8).wr W10).wr W12).wr W14).wr W16) (g := (mkF m 51 #[.val (.int p1), .unset, .unset, .unset] [(.int (7 : Int32)), (.ref b2), (.ref b2)])) rfl (hb hby at_51)
  obtain ⟨cl54v, Ar54v, q54v, S54v, N54v, H54v, G54v⟩ := V47
  have hin54 : ¬ ((7 : Int32) < 0 ∨ cl54v.slots.size ≤ ((7 : Int32)).toNatClampNeg) := inb_of S54v ⟨by decide, by decide⟩
  obtain ⟨T18, h18, X18, e18, W18, st18⟩ := stR X17 hx hZ e17 Ar54v (j := (7 : Int32)) hin54 rfl (Sto.ofV Ar54v q54v O2 (Ins.self ((((((((E_TUPLE.ext E2).wr W4).wr W6).wr W8).wr W10).wr W12).wr W14).wr W16))) (g := (mkF m 54 #[.val (.int p1), .unset, .unset, .unset] [(.ref w_TUPLE), (.int (7 : Int32)), (.ref b2), (.ref b2)])) rfl rfl (hb hby at_54)
  have V54 : Arv Z h18 b2 k2 (.object "com/example/applied_pi_checker/appliedpichecker/FunctionSymbol$Kind") (12 : Int32) [(.ref w_FREE_NAME), (.ref w_FRESH_NAME), (.ref w_ATTACKER_NAME), (.ref w_CONSTANT), (.ref w_CONSTRUCTOR), (.ref w_DATA), (.ref w_CONVERTER), (.ref w_TUPLE), .null, .null, .null, .null] .null := Arv.set Ar54v q54v S54v N54v H54v G54v rfl W18 7 rfl (Nat.le_of_ble_eq_true rfl)
  have N18 := Fr.snoc X18 N16 g_b2
  obtain ⟨T19, X19, e19, st19⟩ := getS2 X18 hx hZ hown (host := "") (Or.inl (hw _ (List.mem_of_getElem? (i := 20) rfl))) Via.refl e18 (((((((((S_DESTRUCTOR.ext E2).wr W4).wr W6).wr W8).wr W10).wr W12).wr W14).wr W16).wr W18) (g := (mkF m 58 #[.val (.int p1), .unset, .unset, .unset] [(.int (8 : Int32)), (.ref b2), (.ref b2)])) rfl (hb hby at_58)
  obtain ⟨cl61v, Ar61v, q61v, S61v, N61v, H61v, G61v⟩ := V54
  have hin61 : ¬ ((8 : Int32) < 0 ∨ cl61v.slots.size ≤ ((8 : Int32)).toNatClampNeg) := inb_of S61v ⟨by decide, by decide⟩
  obtain ⟨T20, h20, X20, e20, W20, st20⟩ := stR X19 hx hZ e19 Ar61v (j := (8 : Int32)) hin61 rfl (Sto.ofV Ar61v q61v O2 (Ins.self (((((((((E_DESTRUCTOR.ext E2).wr W4).wr W6).wr W8).wr W10).wr W12).wr W14).wr W16).wr W18))) (g := (mkF m 61 #[.val (.int p1), .unset, .unset, .unset] [(.ref w_DESTRUCTOR), (.int (8 : Int32)), (.ref b2), (.ref b2)])) rfl rfl (hb hby at_61)
  have V61 : Arv Z h20 b2 k2 (.object "com/example/applied_pi_checker/appliedpichecker/FunctionSymbol$Kind") (12 : Int32) [(.ref w_FREE_NAME), (.ref w_FRESH_NAME), (.ref w_ATTACKER_NAME), (.ref w_CONSTANT), (.ref w_CONSTRUCTOR), (.ref w_DATA), (.ref w_CONVERTER), (.ref w_TUPLE), (.ref w_DESTRUCTOR), .null, .null, .null] .null := Arv.set Ar61v q61v S61v N61v H61v G61v rfl W20 8 rfl (Nat.le_of_ble_eq_true rfl)
  have N20 := Fr.snoc X20 N18 g_b2
  obtain ⟨T21, X21, e21, st21⟩ := getS2 X20 hx hZ hown (host := "") (Or.inl (hw _ (List.mem_of_getElem? (i := 22) rfl))) Via.refl e20 ((((((((((S_EVENT.ext E2).wr W4).wr W6).wr W8).wr W10).wr W12).wr W14).wr W16).wr W18).wr W20) (g := (mkF m 65 #[.val (.int p1), .unset, .unset, .unset] [(.int (9 : Int32)), (.ref b2), (.ref b2)])) rfl (hb hby at_65)
  obtain ⟨cl68v, Ar68v, q68v, S68v, N68v, H68v, G68v⟩ := V61
  have hin68 : ¬ ((9 : Int32) < 0 ∨ cl68v.slots.size ≤ ((9 : Int32)).toNatClampNeg) := inb_of S68v ⟨by decide, by decide⟩
  obtain ⟨T22, h22, X22, e22, W22, st22⟩ := stR X21 hx hZ e21 Ar68v (j := (9 : Int32)) hin68 rfl (Sto.ofV Ar68v q68v O2 (Ins.self ((((((((((E_EVENT.ext E2).wr W4).wr W6).wr W8).wr W10).wr W12).wr W14).wr W16).wr W18).wr W20))) (g := (mkF m 68 #[.val (.int p1), .unset, .unset, .unset] [(.ref w_EVENT), (.int (9 : Int32)), (.ref b2), (.ref b2)])) rfl rfl (hb hby at_68)
  have V68 : Arv Z h22 b2 k2 (.object "com/example/applied_pi_checker/appliedpichecker/FunctionSymbol$Kind") (12 : Int32) [(.ref w_FREE_NAME), (.ref w_FRESH_NAME), (.ref w_ATTACKER_NAME), (.ref w_CONSTANT), (.ref w_CONSTRUCTOR), (.ref w_DATA), (.ref w_CONVERTER), (.ref w_TUPLE), (.ref w_DESTRUCTOR), (.ref w_EVENT), .null, .null] .null := Arv.set Ar68v q68v S68v N68v H68v G68v rfl W22 9 rfl (Nat.le_of_ble_eq_true rfl)
  have N22 := Fr.snoc X22 N20 g_b2
  obtain ⟨T23, X23, e23, st23⟩ := getS2 X22 hx hZ hown (host := "") (Or.inl (hw _ (List.mem_of_getElem? (i := 24) rfl))) Via.refl e22 (((((((((((S_TABLE.ext E2).wr W4).wr W6).wr W8).wr W10).wr W12).wr W14).wr W16).wr W18).wr W20).wr W22) (g := (mkF m 72 #[.val (.int p1), .unset, .unset, .unset] [(.int (10 : Int32)), (.ref b2), (.ref b2)])) rfl (hb hby at_72)
  obtain ⟨cl75v, Ar75v, q75v, S75v, N75v, H75v, G75v⟩ := V68
  have hin75 : ¬ ((10 : Int32) < 0 ∨ cl75v.slots.size ≤ ((10 : Int32)).toNatClampNeg) := inb_of S75v ⟨by decide, by decide⟩
  obtain ⟨T24, h24, X24, e24, W24, st24⟩ := stR X23 hx hZ e23 Ar75v (j := (10 : Int32)) hin75 rfl (Sto.ofV Ar75v q75v O2 (Ins.self (((((((((((E_TABLE.ext E2).wr W4).wr W6).wr W8).wr W10).wr W12).wr W14).wr W16).wr W18).wr W20).wr W22))) (g := (mkF m 75 #[.val (.int p1), .unset, .unset, .unset] [(.ref w_TABLE), (.int (10 : Int32)), (.ref b2), (.ref b2)])) rfl rfl (hb hby at_75)
  have V75 : Arv Z h24 b2 k2 (.object "com/example/applied_pi_checker/appliedpichecker/FunctionSymbol$Kind") (12 : Int32) [(.ref w_FREE_NAME), (.ref w_FRESH_NAME), (.ref w_ATTACKER_NAME), (.ref w_CONSTANT), (.ref w_CONSTRUCTOR), (.ref w_DATA), (.ref w_CONVERTER), (.ref w_TUPLE), (.ref w_DESTRUCTOR), (.ref w_EVENT), (.ref w_TABLE), .null] .null := Arv.set Ar75v q75v S75v N75v H75v G75v rfl W24 10 rfl (Nat.le_of_ble_eq_true rfl)
  have N24 := Fr.snoc X24 N22 g_b2
  obtain ⟨T25, X25, e25, st25⟩ := getS2 X24 hx hZ hown (host := "") (Or.inl (hw _ (List.mem_of_getElem? (i := 26) rfl))) Via.refl e24 ((((((((((((S_OCCURRENCE.ext E2).wr W4).wr W6).wr W8).wr W10).wr W12).wr W14).wr W16).wr W18).wr W20).wr W22).wr W24) (g := (mkF m 79 #[.val (.int p1), .unset, .unset, .unset] [(.int (11 : Int32)), (.ref b2), (.ref b2)])) rfl (hb hby at_79)
  obtain ⟨cl82v, Ar82v, q82v, S82v, N82v, H82v, G82v⟩ := V75
  have hin82 : ¬ ((11 : Int32) < 0 ∨ cl82v.slots.size ≤ ((11 : Int32)).toNatClampNeg) := inb_of S82v ⟨by decide, by decide⟩
  obtain ⟨T26, h26, X26, e26, W26, st26⟩ := stR X25 hx hZ e25 Ar82v (j := (11 : Int32)) hin82 rfl (Sto.ofV Ar82v q82v O2 (Ins.self ((((((((((((E_OCCURRENCE.ext E2).wr W4).wr W6).wr W8).wr W10).wr W12).wr W14).wr W16).wr W18).wr W20).wr W22).wr W24))) (g := (mkF m 82 #[.val (.int p1), .unset, .unset, .unset] [(.ref w_OCCURRENCE), (.int (11 : Int32)), (.ref b2), (.ref b2)])) rfl rfl (hb hby at_82)
  have V82 : Arv Z h26 b2 k2 (.object "com/example/applied_pi_checker/appliedpichecker/FunctionSymbol$Kind") (12 : Int32) [(.ref w_FREE_NAME), (.ref w_FRESH_NAME), (.ref w_ATTACKER_NAME), (.ref w_CONSTANT), (.ref w_CONSTRUCTOR), (.ref w_DATA), (.ref w_CONVERTER), (.ref w_TUPLE), (.ref w_DESTRUCTOR), (.ref w_EVENT), (.ref w_TABLE), (.ref w_OCCURRENCE)] .null := Arv.set Ar82v q82v S82v N82v H82v G82v rfl W26 11 rfl (Nat.le_of_ble_eq_true rfl)
  have N26 := Fr.snoc X26 N24 g_b2
  obtain ⟨cl114v, Ar114v, q114v, S114v, N114v, H114v, G114v⟩ := V82
  have hin114 : ¬ (((p1 &&& (2147483647 : Int32)) % (12 : Int32)) < 0 ∨ cl114v.slots.size ≤ (((p1 &&& (2147483647 : Int32)) % (12 : Int32))).toNatClampNeg) := inb_of S114v hi114
  have hat114 := Has.at H114v hin114 hv114
  obtain ⟨cq27, kq27, q27a, q27b, q27c⟩ := isOf hZ e26 (((((((((((((E_y114.ext E2).wr W4).wr W6).wr W8).wr W10).wr W12).wr W14).wr W16).wr W18).wr W20).wr W22).wr W24).wr W26)
  obtain ⟨_, _, ⟨T27, L27, k27, n27⟩, -, X27, ⟨Lc27, hQ27, l27, y27, z27⟩, st27⟩ := X26.virtualBack hx (y := (⟨"com/example/applied_pi_checker/appliedpichecker/FunctionSymbol$Kind", "isName", "()Z"⟩ : MethodName)) (z := (⟨"com/example/applied_pi_checker/appliedpichecker/FunctionSymbol$Kind", "isName", "()Z"⟩ : MethodName)) hown (mvT hZ (hw _ (List.mem_of_getElem? (i := 29) rfl))) (mvT hZ (hw _ (List.mem_of_getElem? (i := 30) rfl))) (notFace_of_selects (args := #[]) (mvT hZ (hw _ (List.mem_of_getElem? (i := 32) rfl)))) (mvT hZ (hw _ (List.mem_of_getElem? (i := 32) rfl))) (mvT hZ (hw _ (List.mem_of_getElem? (i := 31) rfl))) (by decide) (backOf (W := 0) (rm1 l Z a0 hw [] y114 w_ATTACKER_NAME w_FREE_NAME w_FRESH_NAME r27 h26 n0 (Nat.le_trans (Nat.le_trans (Nat.le_trans (Nat.le_trans (Nat.le_trans (Nat.le_trans (Nat.le_trans (Nat.le_trans (Nat.le_trans (Nat.le_trans (Nat.le_trans (Nat.le_trans (Nat.le_trans Z0 E2.1) (Keep.of_wr W4).1) (Keep.of_wr W6).1) (Keep.of_wr W8).1) (Keep.of_wr W10).1) (Keep.of_wr W12).1) (Keep.of_wr W14).1) (Keep.of_wr W16).1) (Keep.of_wr W18).1) (Keep.of_wr W20).1) (Keep.of_wr W22).1) (Keep.of_wr W24).1) (Keep.of_wr W26).1) (((((((((((((S_ATTACKER_NAME.ext E2).wr W4).wr W6).wr W8).wr W10).wr W12).wr W14).wr W16).wr W18).wr W20).wr W22).wr W24).wr W26) (((((((((((((S_FREE_NAME.ext E2).wr W4).wr W6).wr W8).wr W10).wr W12).wr W14).wr W16).wr W18).wr W20).wr W22).wr W24).wr W26) (((((((((((((S_FRESH_NAME.ext E2).wr W4).wr W6).wr W8).wr W10).wr W12).wr W14).wr W16).wr W18).wr W20).wr W22).wr W24).wr W26) P27) hZ (hw _ (List.mem_of_getElem? (i := 33) rfl)) (hw _ (List.mem_of_getElem? (i := 3) rfl)) (by decide) (by decide)) q27a q27c (g := (mkF m 115 #[.val (.int p1), .val (.ref b2), .val (.int ((p1 &&& (2147483647 : Int32)) % (12 : Int32))), .val (.int (1 : Int32))] [(.ref y114)])) rfl (by rw [hml]; rfl) (Steps.refl _) (argsL := []) (rest := []) (lenOf pd_0_0 rfl) rfl (by show 2 * 0 + _ ≤ _; exact Nat.le_of_eq rfl) (hb hby at_115) (fun _ _ => ⟨rfl, e26, (by decide : 1 + 0 ≤ _), (by decide : 12 + 0 ≤ _)⟩)
  dsimp only [Pt.U, Pt.locs, Pt.cells, Pt.slots] at X27 l27 y27 z27 st27 hQ27
  subst l27 y27 z27
  obtain ⟨rfl, N27q, e27⟩ := hQ27
  have N27 := Fr.app N26 N27q
  obtain ⟨fs, hr, hrun, hended, hW, hsame⟩ := X27.leave (v := some (.int (1 : Int32))) (fun h => by rw [Bd.returns] at h; cases h)
  refine ⟨_, _, pre0 _ ?_, hrun, hended, _, _, rfl, ?_, ⟨_, rfl⟩, hW, hsame.mono (by decide) (by decide)⟩
  -- 4. STEPS
  · show Steps p.tables e below (s₁.setTop (mkF m 0 #[.val (.int p1), .unset, .unset, .unset] [])) _
    refine XS.bipush X0.here hx rfl (hb hby at_0) ?_
    show Steps p.tables e below (s₁.setTop (mkF m 2 #[.val (.int p1), .unset, .unset, .unset] [(.int (12 : Int32))])) _
    refine st2 _ ?_
    show Steps p.tables e below (T2.setTop (mkF m 5 #[.val (.int p1), .unset, .unset, .unset] [(.ref b2)])) _
    refine XS.dup X2.here hx rfl (hb hby at_5) rfl rfl ?_
    show Steps p.tables e below (T2.setTop (mkF m 6 #[.val (.int p1), .unset, .unset, .unset] [(.ref b2), (.ref b2)])) _
    refine XS.iconst X2.here hx rfl (hb hby at_6) ?_
    show Steps p.tables e below (T2.setTop (mkF m 7 #[.val (.int p1), .unset, .unset, .unset] [(.int (0 : Int32)), (.ref b2), (.ref b2)])) _
    refine st3 _ ?_
    show Steps p.tables e below (T3.setTop (mkF m 10 #[.val (.int p1), .unset, .unset, .unset] [(.ref w_FREE_NAME), (.int (0 : Int32)), (.ref b2), (.ref b2)])) _
    refine st4 _ ?_
    show Steps p.tables e below (T4.setTop (mkF m 11 #[.val (.int p1), .unset, .unset, .unset] [(.ref b2)])) _
    refine XS.dup X4.here hx rfl (hb hby at_11) rfl rfl ?_
    show Steps p.tables e below (T4.setTop (mkF m 12 #[.val (.int p1), .unset, .unset, .unset] [(.ref b2), (.ref b2)])) _
    refine XS.iconst X4.here hx rfl (hb hby at_12) ?_
    show Steps p.tables e below (T4.setTop (mkF m 13 #[.val (.int p1), .unset, .unset, .unset] [(.int (1 : Int32)), (.ref b2), (.ref b2)])) _
    refine st5 _ ?_
    show Steps p.tables e below (T5.setTop (mkF m 16 #[.val (.int p1), .unset, .unset, .unset] [(.ref w_FRESH_NAME), (.int (1 : Int32)), (.ref b2), (.ref b2)])) _
    refine st6 _ ?_
    show Steps p.tables e below (T6.setTop (mkF m 17 #[.val (.int p1), .unset, .unset, .unset] [(.ref b2)])) _
    refine XS.dup X6.here hx rfl (hb hby at_17) rfl rfl ?_
    show Steps p.tables e below (T6.setTop (mkF m 18 #[.val (.int p1), .unset, .unset, .unset] [(.ref b2), (.ref b2)])) _
    refine XS.iconst X6.here hx rfl (hb hby at_18) ?_
    show Steps p.tables e below (T6.setTop (mkF m 19 #[.val (.int p1), .unset, .unset, .unset] [(.int (2 : Int32)), (.ref b2), (.ref b2)])) _
    refine st7 _ ?_
    show Steps p.tables e below (T7.setTop (mkF m 22 #[.val (.int p1), .unset, .unset, .unset] [(.ref w_ATTACKER_NAME), (.int (2 : Int32)), (.ref b2), (.ref b2)])) _
    refine st8 _ ?_
    show Steps p.tables e below (T8.setTop (mkF m 23 #[.val (.int p1), .unset, .unset, .unset] [(.ref b2)])) _
    refine XS.dup X8.here hx rfl (hb hby at_23) rfl rfl ?_
    show Steps p.tables e below (T8.setTop (mkF m 24 #[.val (.int p1), .unset, .unset, .unset] [(.ref b2), (.ref b2)])) _
    refine XS.iconst X8.here hx rfl (hb hby at_24) ?_
    show Steps p.tables e below (T8.setTop (mkF m 25 #[.val (.int p1), .unset, .unset, .unset] [(.int (3 : Int32)), (.ref b2), (.ref b2)])) _
    refine st9 _ ?_
    show Steps p.tables e below (T9.setTop (mkF m 28 #[.val (.int p1), .unset, .unset, .unset] [(.ref w_CONSTANT), (.int (3 : Int32)), (.ref b2), (.ref b2)])) _
    refine st10 _ ?_
    show Steps p.tables e below (T10.setTop (mkF m 29 #[.val (.int p1), .unset, .unset, .unset] [(.ref b2)])) _
    refine XS.dup X10.here hx rfl (hb hby at_29) rfl rfl ?_
    show Steps p.tables e below (T10.setTop (mkF m 30 #[.val (.int p1), .unset, .unset, .unset] [(.ref b2), (.ref b2)])) _
    refine XS.iconst X10.here hx rfl (hb hby at_30) ?_
    show Steps p.tables e below (T10.setTop (mkF m 31 #[.val (.int p1), .unset, .unset, .unset] [(.int (4 : Int32)), (.ref b2), (.ref b2)])) _
    refine st11 _ ?_
    show Steps p.tables e below (T11.setTop (mkF m 34 #[.val (.int p1), .unset, .unset, .unset] [(.ref w_CONSTRUCTOR), (.int (4 : Int32)), (.ref b2), (.ref b2)])) _
    refine st12 _ ?_
    show Steps p.tables e below (T12.setTop (mkF m 35 #[.val (.int p1), .unset, .unset, .unset] [(.ref b2)])) _
    refine XS.dup X12.here hx rfl (hb hby at_35) rfl rfl ?_
    show Steps p.tables e below (T12.setTop (mkF m 36 #[.val (.int p1), .unset, .unset, .unset] [(.ref b2), (.ref b2)])) _
    refine XS.iconst X12.here hx rfl (hb hby at_36) ?_
    show Steps p.tables e below (T12.setTop (mkF m 37 #[.val (.int p1), .unset, .unset, .unset] [(.int (5 : Int32)), (.ref b2), (.ref b2)])) _
    refine st13 _ ?_
    show Steps p.tables e below (T13.setTop (mkF m 40 #[.val (.int p1), .unset, .unset, .unset] [(.ref w_DATA), (.int (5 : Int32)), (.ref b2), (.ref b2)])) _
    refine st14 _ ?_
    show Steps p.tables e below (T14.setTop (mkF m 41 #[.val (.int p1), .unset, .unset, .unset] [(.ref b2)])) _
    refine XS.dup X14.here hx rfl (hb hby at_41) rfl rfl ?_
    show Steps p.tables e below (T14.setTop (mkF m 42 #[.val (.int p1), .unset, .unset, .unset] [(.ref b2), (.ref b2)])) _
    refine XS.bipush X14.here hx rfl (hb hby at_42) ?_
    show Steps p.tables e below (T14.setTop (mkF m 44 #[.val (.int p1), .unset, .unset, .unset] [(.int (6 : Int32)), (.ref b2), (.ref b2)])) _
    refine st15 _ ?_
    show Steps p.tables e below (T15.setTop (mkF m 47 #[.val (.int p1), .unset, .unset, .unset] [(.ref w_CONVERTER), (.int (6 : Int32)), (.ref b2), (.ref b2)])) _
    refine st16 _ ?_
    show Steps p.tables e below (T16.setTop (mkF m 48 #[.val (.int p1), .unset, .unset, .unset] [(.ref b2)])) _
    refine XS.dup X16.here hx rfl (hb hby at_48) rfl rfl ?_
    show Steps p.tables e below (T16.setTop (mkF m 49 #[.val (.int p1), .unset, .unset, .unset] [(.ref b2), (.ref b2)])) _
    refine XS.bipush X16.here hx rfl (hb hby at_49) ?_
    show Steps p.tables e below (T16.setTop (mkF m 51 #[.val (.int p1), .unset, .unset, .unset] [(.int (7 : Int32)), (.ref b2), (.ref b2)])) _
    refine st17 _ ?_
    show Steps p.tables e below (T17.setTop (mkF m 54 #[.val (.int p1), .unset, .unset, .unset] [(.ref w_TUPLE), (.int (7 : Int32)), (.ref b2), (.ref b2)])) _
    refine st18 _ ?_
    show Steps p.tables e below (T18.setTop (mkF m 55 #[.val (.int p1), .unset, .unset, .unset] [(.ref b2)])) _
    refine XS.dup X18.here hx rfl (hb hby at_55) rfl rfl ?_
    show Steps p.tables e below (T18.setTop (mkF m 56 #[.val (.int p1), .unset, .unset, .unset] [(.ref b2), (.ref b2)])) _
    refine XS.bipush X18.here hx rfl (hb hby at_56) ?_
    show Steps p.tables e below (T18.setTop (mkF m 58 #[.val (.int p1), .unset, .unset, .unset] [(.int (8 : Int32)), (.ref b2), (.ref b2)])) _
    refine st19 _ ?_
    show Steps p.tables e below (T19.setTop (mkF m 61 #[.val (.int p1), .unset, .unset, .unset] [(.ref w_DESTRUCTOR), (.int (8 : Int32)), (.ref b2), (.ref b2)])) _
    refine st20 _ ?_
    show Steps p.tables e below (T20.setTop (mkF m 62 #[.val (.int p1), .unset, .unset, .unset] [(.ref b2)])) _
    refine XS.dup X20.here hx rfl (hb hby at_62) rfl rfl ?_
    show Steps p.tables e below (T20.setTop (mkF m 63 #[.val (.int p1), .unset, .unset, .unset] [(.ref b2), (.ref b2)])) _
    refine XS.bipush X20.here hx rfl (hb hby at_63) ?_
    show Steps p.tables e below (T20.setTop (mkF m 65 #[.val (.int p1), .unset, .unset, .unset] [(.int (9 : Int32)), (.ref b2), (.ref b2)])) _
    refine st21 _ ?_
    show Steps p.tables e below (T21.setTop (mkF m 68 #[.val (.int p1), .unset, .unset, .unset] [(.ref w_EVENT), (.int (9 : Int32)), (.ref b2), (.ref b2)])) _
    refine st22 _ ?_
    show Steps p.tables e below (T22.setTop (mkF m 69 #[.val (.int p1), .unset, .unset, .unset] [(.ref b2)])) _
    refine XS.dup X22.here hx rfl (hb hby at_69) rfl rfl ?_
    show Steps p.tables e below (T22.setTop (mkF m 70 #[.val (.int p1), .unset, .unset, .unset] [(.ref b2), (.ref b2)])) _
    refine XS.bipush X22.here hx rfl (hb hby at_70) ?_
    show Steps p.tables e below (T22.setTop (mkF m 72 #[.val (.int p1), .unset, .unset, .unset] [(.int (10 : Int32)), (.ref b2), (.ref b2)])) _
    refine st23 _ ?_
    show Steps p.tables e below (T23.setTop (mkF m 75 #[.val (.int p1), .unset, .unset, .unset] [(.ref w_TABLE), (.int (10 : Int32)), (.ref b2), (.ref b2)])) _
    refine st24 _ ?_
    show Steps p.tables e below (T24.setTop (mkF m 76 #[.val (.int p1), .unset, .unset, .unset] [(.ref b2)])) _
    refine XS.dup X24.here hx rfl (hb hby at_76) rfl rfl ?_
    show Steps p.tables e below (T24.setTop (mkF m 77 #[.val (.int p1), .unset, .unset, .unset] [(.ref b2), (.ref b2)])) _
    refine XS.bipush X24.here hx rfl (hb hby at_77) ?_
    show Steps p.tables e below (T24.setTop (mkF m 79 #[.val (.int p1), .unset, .unset, .unset] [(.int (11 : Int32)), (.ref b2), (.ref b2)])) _
    refine st25 _ ?_
    show Steps p.tables e below (T25.setTop (mkF m 82 #[.val (.int p1), .unset, .unset, .unset] [(.ref w_OCCURRENCE), (.int (11 : Int32)), (.ref b2), (.ref b2)])) _
    refine st26 _ ?_
    show Steps p.tables e below (T26.setTop (mkF m 83 #[.val (.int p1), .unset, .unset, .unset] [(.ref b2)])) _
    refine XS.astoreN X26.here hx rfl (hb hby at_83) rfl rfl (l' := #[.val (.int p1), .val (.ref b2), .unset, .unset]) rfl ?_
    show Steps p.tables e below (T26.setTop (mkF m 84 #[.val (.int p1), .val (.ref b2), .unset, .unset] [])) _
    refine XS.iloadN X26.here hx rfl (hb hby at_84) rfl ?_
    show Steps p.tables e below (T26.setTop (mkF m 85 #[.val (.int p1), .val (.ref b2), .unset, .unset] [(.int p1)])) _
    refine X26.ldcInt hx hown (mvT hZ (hw _ (List.mem_of_getElem? (i := 28) rfl))) (g := (mkF m 85 #[.val (.int p1), .val (.ref b2), .unset, .unset] [(.int p1)])) rfl (hb hby at_85) _ ?_
    show Steps p.tables e below (T26.setTop (mkF m 87 #[.val (.int p1), .val (.ref b2), .unset, .unset] [(.int (2147483647 : Int32)), (.int p1)])) _
    refine XS.iand X26.here hx rfl (hb hby at_87) rfl ?_
    show Steps p.tables e below (T26.setTop (mkF m 88 #[.val (.int p1), .val (.ref b2), .unset, .unset] [(.int (p1 &&& (2147483647 : Int32)))])) _
    refine XS.bipush X26.here hx rfl (hb hby at_88) ?_
    show Steps p.tables e below (T26.setTop (mkF m 90 #[.val (.int p1), .val (.ref b2), .unset, .unset] [(.int (12 : Int32)), (.int (p1 &&& (2147483647 : Int32)))])) _
    refine iremM X26 hx rfl (hb hby at_90) rfl (by decide) ?_
    show Steps p.tables e below (T26.setTop (mkF m 91 #[.val (.int p1), .val (.ref b2), .unset, .unset] [(.int ((p1 &&& (2147483647 : Int32)) % (12 : Int32)))])) _
    refine XS.istoreN X26.here hx rfl (hb hby at_91) rfl (l' := #[.val (.int p1), .val (.ref b2), .val (.int ((p1 &&& (2147483647 : Int32)) % (12 : Int32))), .unset]) rfl ?_
    show Steps p.tables e below (T26.setTop (mkF m 92 #[.val (.int p1), .val (.ref b2), .val (.int ((p1 &&& (2147483647 : Int32)) % (12 : Int32))), .unset] [])) _
    refine XS.iloadN X26.here hx rfl (hb hby at_92) rfl ?_
    show Steps p.tables e below (T26.setTop (mkF m 93 #[.val (.int p1), .val (.ref b2), .val (.int ((p1 &&& (2147483647 : Int32)) % (12 : Int32))), .unset] [(.int ((p1 &&& (2147483647 : Int32)) % (12 : Int32)))])) _
    refine XS.ifNo X26.here hx rfl (hb hby at_93) rfl ((if0 _ _).trans (feq hc93).1) ?_
    show Steps p.tables e below (T26.setTop (mkF m 96 #[.val (.int p1), .val (.ref b2), .val (.int ((p1 &&& (2147483647 : Int32)) % (12 : Int32))), .unset] [])) _
    refine XS.iloadN X26.here hx rfl (hb hby at_96) rfl ?_
    show Steps p.tables e below (T26.setTop (mkF m 97 #[.val (.int p1), .val (.ref b2), .val (.int ((p1 &&& (2147483647 : Int32)) % (12 : Int32))), .unset] [(.int ((p1 &&& (2147483647 : Int32)) % (12 : Int32)))])) _
    refine XS.iconst X26.here hx rfl (hb hby at_97) ?_
    show Steps p.tables e below (T26.setTop (mkF m 98 #[.val (.int p1), .val (.ref b2), .val (.int ((p1 &&& (2147483647 : Int32)) % (12 : Int32))), .unset] [(.int (1 : Int32)), (.int ((p1 &&& (2147483647 : Int32)) % (12 : Int32)))])) _
    refine XS.icmpNo X26.here hx rfl (hb hby at_98) rfl (feq hc98).1 ?_
    show Steps p.tables e below (T26.setTop (mkF m 101 #[.val (.int p1), .val (.ref b2), .val (.int ((p1 &&& (2147483647 : Int32)) % (12 : Int32))), .unset] [])) _
    refine XS.iloadN X26.here hx rfl (hb hby at_101) rfl ?_
    show Steps p.tables e below (T26.setTop (mkF m 102 #[.val (.int p1), .val (.ref b2), .val (.int ((p1 &&& (2147483647 : Int32)) % (12 : Int32))), .unset] [(.int ((p1 &&& (2147483647 : Int32)) % (12 : Int32)))])) _
    refine XS.iconst X26.here hx rfl (hb hby at_102) ?_
    show Steps p.tables e below (T26.setTop (mkF m 103 #[.val (.int p1), .val (.ref b2), .val (.int ((p1 &&& (2147483647 : Int32)) % (12 : Int32))), .unset] [(.int (2 : Int32)), (.int ((p1 &&& (2147483647 : Int32)) % (12 : Int32)))])) _
    refine XS.icmpNo X26.here hx rfl (hb hby at_103) rfl (teq hc103).2 ?_
    show Steps p.tables e below (T26.setTop (mkF m 106 #[.val (.int p1), .val (.ref b2), .val (.int ((p1 &&& (2147483647 : Int32)) % (12 : Int32))), .unset] [])) _
    refine XS.iconst X26.here hx rfl (hb hby at_106) ?_
    show Steps p.tables e below (T26.setTop (mkF m 107 #[.val (.int p1), .val (.ref b2), .val (.int ((p1 &&& (2147483647 : Int32)) % (12 : Int32))), .unset] [(.int (1 : Int32))])) _
    refine XS.goto X26.here hx rfl (pc0 := 107) (pc' := 111) rfl (hb hby at_107) (by decide) (by decide) ?_
    show Steps p.tables e below (T26.setTop (mkF m 111 #[.val (.int p1), .val (.ref b2), .val (.int ((p1 &&& (2147483647 : Int32)) % (12 : Int32))), .unset] [(.int (1 : Int32))])) _
    refine XS.istoreN X26.here hx rfl (hb hby at_111) rfl (l' := #[.val (.int p1), .val (.ref b2), .val (.int ((p1 &&& (2147483647 : Int32)) % (12 : Int32))), .val (.int (1 : Int32))]) rfl ?_
    show Steps p.tables e below (T26.setTop (mkF m 112 #[.val (.int p1), .val (.ref b2), .val (.int ((p1 &&& (2147483647 : Int32)) % (12 : Int32))), .val (.int (1 : Int32))] [])) _
    refine XS.aloadN X26.here hx rfl (hb hby at_112) rfl rfl ?_
    show Steps p.tables e below (T26.setTop (mkF m 113 #[.val (.int p1), .val (.ref b2), .val (.int ((p1 &&& (2147483647 : Int32)) % (12 : Int32))), .val (.int (1 : Int32))] [(.ref b2)])) _
    refine XS.iloadN X26.here hx rfl (hb hby at_113) rfl ?_
    show Steps p.tables e below (T26.setTop (mkF m 114 #[.val (.int p1), .val (.ref b2), .val (.int ((p1 &&& (2147483647 : Int32)) % (12 : Int32))), .val (.int (1 : Int32))] [(.int ((p1 &&& (2147483647 : Int32)) % (12 : Int32))), (.ref b2)])) _
    refine X26.aaload hx (j := ((p1 &&& (2147483647 : Int32)) % (12 : Int32))) (v := (.ref y114)) (by rw [e26]; exact Ar114v.1) (State.isArrayOf_alike hZ.alike Ar114v.2.1) rfl Ar114v.2.2 hin114 hat114 (g := (mkF m 114 #[.val (.int p1), .val (.ref b2), .val (.int ((p1 &&& (2147483647 : Int32)) % (12 : Int32))), .val (.int (1 : Int32))] [(.int ((p1 &&& (2147483647 : Int32)) % (12 : Int32))), (.ref b2)])) rfl rfl (hb hby at_114) _ ?_
    show Steps p.tables e below (T26.setTop (mkF m 115 #[.val (.int p1), .val (.ref b2), .val (.int ((p1 &&& (2147483647 : Int32)) % (12 : Int32))), .val (.int (1 : Int32))] [(.ref y114)])) _
    refine st27.trans ?_
    show Steps p.tables e below (T27.setTop (mkF m 118 #[.val (.int p1), .val (.ref b2), .val (.int ((p1 &&& (2147483647 : Int32)) % (12 : Int32))), .val (.int (1 : Int32))] [(.int r27)])) _
    refine XS.iloadN X27.here hx rfl (hb hby at_118) rfl ?_
    show Steps p.tables e below (T27.setTop (mkF m 119 #[.val (.int p1), .val (.ref b2), .val (.int ((p1 &&& (2147483647 : Int32)) % (12 : Int32))), .val (.int (1 : Int32))] [(.int (1 : Int32)), (.int r27)])) _
    refine XS.icmpNo X27.here hx rfl (hb hby at_119) rfl (teq hc119).2 ?_
    show Steps p.tables e below (T27.setTop (mkF m 122 #[.val (.int p1), .val (.ref b2), .val (.int ((p1 &&& (2147483647 : Int32)) % (12 : Int32))), .val (.int (1 : Int32))] [])) _
    refine XS.iconst X27.here hx rfl (hb hby at_122) ?_
    show Steps p.tables e below (T27.setTop (mkF m 123 #[.val (.int p1), .val (.ref b2), .val (.int ((p1 &&& (2147483647 : Int32)) % (12 : Int32))), .val (.int (1 : Int32))] [(.int (1 : Int32))])) _
    refine XS.goto X27.here hx rfl (pc0 := 123) (pc' := 127) rfl (hb hby at_123) (by decide) (by decide) ?_
    show Steps p.tables e below (T27.setTop (mkF m 127 #[.val (.int p1), .val (.ref b2), .val (.int ((p1 &&& (2147483647 : Int32)) % (12 : Int32))), .val (.int (1 : Int32))] [(.int (1 : Int32))])) _
    exact retN X27 hx (t := .boolean) Bd.returns (by simp) (hb hby at_127) hr
  · show Q0 n0 _ T27.heap _
    rw [e27]
    exact ⟨rfl, N27⟩
set_option maxRecDepth 65536 in
set_option maxHeartbeats 40000000 in
theorem rm0_fftf (l : Launch) (Z : State) (a0 : Array Value) (hw : ∀ d ∈ tables_1, d.before a0 Z = true) (ws : List Jvm.Cond) (p1 : Int32) (w_FREE_NAME : Addr) (w_FRESH_NAME : Addr) (w_ATTACKER_NAME : Addr) (w_CONSTANT : Addr) (w_CONSTRUCTOR : Addr) (w_DATA : Addr) (w_CONVERTER : Addr) (w_TUPLE : Addr) (w_DESTRUCTOR : Addr) (w_EVENT : Addr) (w_TABLE : Addr) (w_OCCURRENCE : Addr) (y114 : Addr) (r27 : Int32) (h0 : Heap) (n0 : Nat) (Z0 : n0 ≤ h0.size) (S_FREE_NAME : Sta Z h0 "com/example/applied_pi_checker/appliedpichecker/FunctionSymbol$Kind" "FREE_NAME" "Lcom/example/applied_pi_checker/appliedpichecker/FunctionSymbol$Kind;" (.ref w_FREE_NAME)) (E_FREE_NAME : Exa Z h0 w_FREE_NAME "com/example/applied_pi_checker/appliedpichecker/FunctionSymbol$Kind") (S_FRESH_NAME : Sta Z h0 "com/example/applied_pi_checker/appliedpichecker/FunctionSymbol$Kind" "FRESH_NAME" "Lcom/example/applied_pi_checker/appliedpichecker/FunctionSymbol$Kind;" (.ref w_FRESH_NAME)) (E_FRESH_NAME : Exa Z h0 w_FRESH_NAME "com/example/applied_pi_checker/appliedpichecker/FunctionSymbol$Kind") (S_ATTACKER_NAME : Sta Z h0 "com/example/applied_pi_checker/appliedpichecker/FunctionSymbol$Kind" "ATTACKER_NAME" "Lcom/example/applied_pi_checker/appliedpichecker/FunctionSymbol$Kind;" (.ref w_ATTACKER_NAME)) (E_ATTACKER_NAME : Exa Z h0 w_ATTACKER_NAME "com/example/applied_pi_checker/appliedpichecker/FunctionSymbol$Kind") (S_CONSTANT : Sta Z h0 "com/example/applied_pi_checker/appliedpichecker/FunctionSymbol$Kind" "CONSTANT" "Lcom/example/applied_pi_checker/appliedpichecker/FunctionSymbol$Kind;" (.ref w_CONSTANT)) (E_CONSTANT : Exa Z h0 w_CONSTANT "com/example/applied_pi_checker/appliedpichecker/FunctionSymbol$Kind") (S_CONSTRUCTOR : Sta Z h0 "com/example/applied_pi_checker/appliedpichecker/FunctionSymbol$Kind" "CONSTRUCTOR" "Lcom/example/applied_pi_checker/appliedpichecker/FunctionSymbol$Kind;" (.ref w_CONSTRUCTOR)) (E_CONSTRUCTOR : Exa Z h0 w_CONSTRUCTOR "com/example/applied_pi_checker/appliedpichecker/FunctionSymbol$Kind") (S_DATA : Sta Z h0 "com/example/applied_pi_checker/appliedpichecker/FunctionSymbol$Kind" "DATA" "Lcom/example/applied_pi_checker/appliedpichecker/FunctionSymbol$Kind;" (.ref w_DATA)) (E_DATA : Exa Z h0 w_DATA "com/example/applied_pi_checker/appliedpichecker/FunctionSymbol$Kind") (S_CONVERTER : Sta Z h0 "com/example/applied_pi_checker/appliedpichecker/FunctionSymbol$Kind" "CONVERTER" "Lcom/example/applied_pi_checker/appliedpichecker/FunctionSymbol$Kind;" (.ref w_CONVERTER)) (E_CONVERTER : Exa Z h0 w_CONVERTER "com/example/applied_pi_checker/appliedpichecker/FunctionSymbol$Kind") (S_TUPLE : Sta Z h0 "com/example/applied_pi_checker/appliedpichecker/FunctionSymbol$Kind" "TUPLE" "Lcom/example/applied_pi_checker/appliedpichecker/FunctionSymbol$Kind;" (.ref w_TUPLE)) (E_TUPLE : Exa Z h0 w_TUPLE "com/example/applied_pi_checker/appliedpichecker/FunctionSymbol$Kind") (S_DESTRUCTOR : Sta Z h0 "com/example/applied_pi_checker/appliedpichecker/FunctionSymbol$Kind" "DESTRUCTOR" "Lcom/example/applied_pi_checker/appliedpichecker/FunctionSymbol$Kind;" (.ref w_DESTRUCTOR)) (E_DESTRUCTOR : Exa Z h0 w_DESTRUCTOR "com/example/applied_pi_checker/appliedpichecker/FunctionSymbol$Kind") (S_EVENT : Sta Z h0 "com/example/applied_pi_checker/appliedpichecker/FunctionSymbol$Kind" "EVENT" "Lcom/example/applied_pi_checker/appliedpichecker/FunctionSymbol$Kind;" (.ref w_EVENT)) (E_EVENT : Exa Z h0 w_EVENT "com/example/applied_pi_checker/appliedpichecker/FunctionSymbol$Kind") (S_TABLE : Sta Z h0 "com/example/applied_pi_checker/appliedpichecker/FunctionSymbol$Kind" "TABLE" "Lcom/example/applied_pi_checker/appliedpichecker/FunctionSymbol$Kind;" (.ref w_TABLE)) (E_TABLE : Exa Z h0 w_TABLE "com/example/applied_pi_checker/appliedpichecker/FunctionSymbol$Kind") (S_OCCURRENCE : Sta Z h0 "com/example/applied_pi_checker/appliedpichecker/FunctionSymbol$Kind" "OCCURRENCE" "Lcom/example/applied_pi_checker/appliedpichecker/FunctionSymbol$Kind;" (.ref w_OCCURRENCE)) (E_OCCURRENCE : Exa Z h0 w_OCCURRENCE "com/example/applied_pi_checker/appliedpichecker/FunctionSymbol$Kind") (P27 : R1 y114 w_ATTACKER_NAME w_FREE_NAME w_FRESH_NAME r27) (E_y114 : Exa Z h0 y114 "com/example/applied_pi_checker/appliedpichecker/FunctionSymbol$Kind") (hc93 : ¬ (((p1 &&& (2147483647 : Int32)) % (12 : Int32)) = (0 : Int32))) (hc98 : ¬ (((p1 &&& (2147483647 : Int32)) % (12 : Int32)) = (1 : Int32))) (hc103 : ¬ (((p1 &&& (2147483647 : Int32)) % (12 : Int32)) = (2 : Int32))) (hi114 : ¬ ((p1 &&& (2147483647 : Int32)) % (12 : Int32)) < 0 ∧ ((p1 &&& (2147483647 : Int32)) % (12 : Int32)) < (12 : Int32)) (hv114 : ([(.ref w_FREE_NAME), (.ref w_FRESH_NAME), (.ref w_ATTACKER_NAME), (.ref w_CONSTANT), (.ref w_CONSTRUCTOR), (.ref w_DATA), (.ref w_CONVERTER), (.ref w_TUPLE), (.ref w_DESTRUCTOR), (.ref w_EVENT), (.ref w_TABLE), (.ref w_OCCURRENCE)] : List Value).getD (((p1 &&& (2147483647 : Int32)) % (12 : Int32))).toNatClampNeg (.null : Value) = (.ref y114 : Value)) (hc119 : r27 = (0 : Int32)) :
    MetFree l x (head1 (Jvm.Cond.code x code maxLocals ret :: ws) room_1) (fun a U => a = #[(.int p1)] ∧ Z.Warmed39 U.vm ∧ U.heap = h0) (fun _ _ _ _ _ => True) (fun _ U o U' => ∃ v L, o = .returned v ∧ Q0 n0 v U'.heap L ∧ FrameEnd U o U' L room_1.cells room_1.slots) := by
  refine MetFree.of_bodySF (plainFor_of_name pn_0) hisR ?_
  intro p e s m args below meth c s₁ Bd hml0 hP hK
  obtain ⟨rfl, hZ, hh⟩ := hP
  have hx := Bd.exec
  have hby := Bd.bytes
  have hml : c.maxLocals = 4 := hml0
  have hown : s.vm.findClass "com/example/applied_pi_checker/appliedpichecker/KindIsNamePinLaw" = some m.cls := findClass_of_methodNamed Bd.named
  have hnm := (name_of_methodNamed Bd.named Bd.method).1
  have X0 : Stand p l e room_1 s m #[(.int p1)] below meth c s₁ [] 0 0 := Stand.of_body Bd
  have e0 : s₁.heap = h0 := by rw [← hh, Bd.state]; rfl
  have N0 := Fr.nil n0
  have pre0 : ∀ t, Steps p.tables e below (s₁.setTop (mkF m 0 #[.val (.int p1), .unset, .unset, .unset] [])) t → Steps p.tables e below (s₁.setTop (entryFrame m #[(.int p1)] maxLocals)) t := fun t k => castTop (ef_0 m p1) k
  -- 3. LAWS
  obtain ⟨T2, h2, k2, X2, e2, E2, A2, O2, st2⟩ := newR X0 hx hZ hown (hw _ (List.mem_of_getElem? (i := 0) rfl)) (hw _ (List.mem_of_getElem? (i := 1) rfl)) e0 (g := (mkF m 2 #[.val (.int p1), .unset, .unset, .unset] [(.int (12 : Int32))])) rfl (hb hby at_2) rfl (by decide) (cap := 12) (by decide) (by decide) (by decide) (by decide)
  obtain ⟨b2, g2⟩ : ∃ z, z = h0.size := ⟨_, rfl⟩
  rw [← g2] at A2 st2
  have V_b2 : Arv Z h2 b2 k2 (.object "com/example/applied_pi_checker/appliedpichecker/FunctionSymbol$Kind") (12 : Int32) [.null, .null, .null, .null, .null, .null, .null, .null, .null, .null, .null, .null] .null := (Arv.new A2 (by decide)).pad (pad_rep [] .null 12)
  have g_b2 : n0 ≤ b2 := Nat.le_trans Z0 (Nat.le_of_eq g2.symm)
  obtain ⟨T3, X3, e3, st3⟩ := getS2 X2 hx hZ hown (host := "") (Or.inl (hw _ (List.mem_of_getElem? (i := 2) rfl))) Via.refl e2 (S_FREE_NAME.ext E2) (g := (mkF m 7 #[.val (.int p1), .unset, .unset, .unset] [(.int (0 : Int32)), (.ref b2), (.ref b2)])) rfl (hb hby at_7)
  obtain ⟨cl10v, Ar10v, q10v, S10v, N10v, H10v, G10v⟩ := V_b2
  have hin10 : ¬ ((0 : Int32) < 0 ∨ cl10v.slots.size ≤ ((0 : Int32)).toNatClampNeg) := inb_of S10v ⟨by decide, by decide⟩
  obtain ⟨T4, h4, X4, e4, W4, st4⟩ := stR X3 hx hZ e3 Ar10v (j := (0 : Int32)) hin10 rfl (Sto.ofV Ar10v q10v O2 (Ins.self (E_FREE_NAME.ext E2))) (g := (mkF m 10 #[.val (.int p1), .unset, .unset, .unset] [(.ref w_FREE_NAME), (.int (0 : Int32)), (.ref b2), (.ref b2)])) rfl rfl (hb hby at_10)
  have V10 : Arv Z h4 b2 k2 (.object "com/example/applied_pi_checker/appliedpichecker/FunctionSymbol$Kind") (12 : Int32) [(.ref w_FREE_NAME), .null, .null, .null, .null, .null, .null, .null, .null, .null, .null, .null] .null := Arv.set Ar10v q10v S10v N10v H10v G10v rfl W4 0 rfl (Nat.le_of_ble_eq_true rfl)
  have N4 := Fr.snoc X4 N0 g_b2
  obtain ⟨T5, X5, e5, st5⟩ := getS2 X4 hx hZ hown (host := "") (Or.inl (hw _ (List.mem_of_getElem? (i := 6) rfl))) Via.refl e4 ((S_FRESH_NAME.ext E2).wr W4) (g := (mkF m 13 #[.val (.int p1), .unset, .unset, .unset] [(.int (1 : Int32)), (.ref b2), (.ref b2)])) rfl (hb hby at_13)
  obtain ⟨cl16v, Ar16v, q16v, S16v, N16v, H16v, G16v⟩ := V10
  have hin16 : ¬ ((1 : Int32) < 0 ∨ cl16v.slots.size ≤ ((1 : Int32)).toNatClampNeg) := inb_of S16v ⟨by decide, by decide⟩
  obtain ⟨T6, h6, X6, e6, W6, st6⟩ := stR X5 hx hZ e5 Ar16v (j := (1 : Int32)) hin16 rfl (Sto.ofV Ar16v q16v O2 (Ins.self ((E_FRESH_NAME.ext E2).wr W4))) (g := (mkF m 16 #[.val (.int p1), .unset, .unset, .unset] [(.ref w_FRESH_NAME), (.int (1 : Int32)), (.ref b2), (.ref b2)])) rfl rfl (hb hby at_16)
  have V16 : Arv Z h6 b2 k2 (.object "com/example/applied_pi_checker/appliedpichecker/FunctionSymbol$Kind") (12 : Int32) [(.ref w_FREE_NAME), (.ref w_FRESH_NAME), .null, .null, .null, .null, .null, .null, .null, .null, .null, .null] .null := Arv.set Ar16v q16v S16v N16v H16v G16v rfl W6 1 rfl (Nat.le_of_ble_eq_true rfl)
  have N6 := Fr.snoc X6 N4 g_b2
  obtain ⟨T7, X7, e7, st7⟩ := getS2 X6 hx hZ hown (host := "") (Or.inl (hw _ (List.mem_of_getElem? (i := 8) rfl))) Via.refl e6 (((S_ATTACKER_NAME.ext E2).wr W4).wr W6) (g := (mkF m 19 #[.val (.int p1), .unset, .unset, .unset] [(.int (2 : Int32)), (.ref b2), (.ref b2)])) rfl (hb hby at_19)
  obtain ⟨cl22v, Ar22v, q22v, S22v, N22v, H22v, G22v⟩ := V16
  have hin22 : ¬ ((2 : Int32) < 0 ∨ cl22v.slots.size ≤ ((2 : Int32)).toNatClampNeg) := inb_of S22v ⟨by decide, by decide⟩
  obtain ⟨T8, h8, X8, e8, W8, st8⟩ := stR X7 hx hZ e7 Ar22v (j := (2 : Int32)) hin22 rfl (Sto.ofV Ar22v q22v O2 (Ins.self (((E_ATTACKER_NAME.ext E2).wr W4).wr W6))) (g := (mkF m 22 #[.val (.int p1), .unset, .unset, .unset] [(.ref w_ATTACKER_NAME), (.int (2 : Int32)), (.ref b2), (.ref b2)])) rfl rfl (hb hby at_22)
  have V22 : Arv Z h8 b2 k2 (.object "com/example/applied_pi_checker/appliedpichecker/FunctionSymbol$Kind") (12 : Int32) [(.ref w_FREE_NAME), (.ref w_FRESH_NAME), (.ref w_ATTACKER_NAME), .null, .null, .null, .null, .null, .null, .null, .null, .null] .null := Arv.set Ar22v q22v S22v N22v H22v G22v rfl W8 2 rfl (Nat.le_of_ble_eq_true rfl)
  have N8 := Fr.snoc X8 N6 g_b2
  obtain ⟨T9, X9, e9, st9⟩ := getS2 X8 hx hZ hown (host := "") (Or.inl (hw _ (List.mem_of_getElem? (i := 10) rfl))) Via.refl e8 ((((S_CONSTANT.ext E2).wr W4).wr W6).wr W8) (g := (mkF m 25 #[.val (.int p1), .unset, .unset, .unset] [(.int (3 : Int32)), (.ref b2), (.ref b2)])) rfl (hb hby at_25)
  obtain ⟨cl28v, Ar28v, q28v, S28v, N28v, H28v, G28v⟩ := V22
  have hin28 : ¬ ((3 : Int32) < 0 ∨ cl28v.slots.size ≤ ((3 : Int32)).toNatClampNeg) := inb_of S28v ⟨by decide, by decide⟩
  obtain ⟨T10, h10, X10, e10, W10, st10⟩ := stR X9 hx hZ e9 Ar28v (j := (3 : Int32)) hin28 rfl (Sto.ofV Ar28v q28v O2 (Ins.self ((((E_CONSTANT.ext E2).wr W4).wr W6).wr W8))) (g := (mkF m 28 #[.val (.int p1), .unset, .unset, .unset] [(.ref w_CONSTANT), (.int (3 : Int32)), (.ref b2), (.ref b2)])) rfl rfl (hb hby at_28)
  have V28 : Arv Z h10 b2 k2 (.object "com/example/applied_pi_checker/appliedpichecker/FunctionSymbol$Kind") (12 : Int32) [(.ref w_FREE_NAME), (.ref w_FRESH_NAME), (.ref w_ATTACKER_NAME), (.ref w_CONSTANT), .null, .null, .null, .null, .null, .null, .null, .null] .null := Arv.set Ar28v q28v S28v N28v H28v G28v rfl W10 3 rfl (Nat.le_of_ble_eq_true rfl)
  have N10 := Fr.snoc X10 N8 g_b2
  obtain ⟨T11, X11, e11, st11⟩ := getS2 X10 hx hZ hown (host := "") (Or.inl (hw _ (List.mem_of_getElem? (i := 12) rfl))) Via.refl e10 (((((S_CONSTRUCTOR.ext E2).wr W4).wr W6).wr W8).wr W10) (g := (mkF m 31 #[.val (.int p1), .unset, .unset, .unset] [(.int (4 : Int32)), (.ref b2), (.ref b2)])) rfl (hb hby at_31)
  obtain ⟨cl34v, Ar34v, q34v, S34v, N34v, H34v, G34v⟩ := V28
  have hin34 : ¬ ((4 : Int32) < 0 ∨ cl34v.slots.size ≤ ((4 : Int32)).toNatClampNeg) := inb_of S34v ⟨by decide, by decide⟩
  obtain ⟨T12, h12, X12, e12, W12, st12⟩ := stR X11 hx hZ e11 Ar34v (j := (4 : Int32)) hin34 rfl (Sto.ofV Ar34v q34v O2 (Ins.self (((((E_CONSTRUCTOR.ext E2).wr W4).wr W6).wr W8).wr W10))) (g := (mkF m 34 #[.val (.int p1), .unset, .unset, .unset] [(.ref w_CONSTRUCTOR), (.int (4 : Int32)), (.ref b2), (.ref b2)])) rfl rfl (hb hby at_34)
  have V34 : Arv Z h12 b2 k2 (.object "com/example/applied_pi_checker/appliedpichecker/FunctionSymbol$Kind") (12 : Int32) [(.ref w_FREE_NAME), (.ref w_FRESH_NAME), (.ref w_ATTACKER_NAME), (.ref w_CONSTANT), (.ref w_CONSTRUCTOR), .null, .null, .null, .null, .null, .null, .null] .null := Arv.set Ar34v q34v S34v N34v H34v G34v rfl W12 4 rfl (Nat.le_of_ble_eq_true rfl)
  have N12 := Fr.snoc X12 N10 g_b2
  obtain ⟨T13, X13, e13, st13⟩ := getS2 X12 hx hZ hown (host := "") (Or.inl (hw _ (List.mem_of_getElem? (i := 14) rfl))) Via.refl e12 ((((((S_DATA.ext E2).wr W4).wr W6).wr W8).wr W10).wr W12) (g := (mkF m 37 #[.val (.int p1), .unset, .unset, .unset] [(.int (5 : Int32)), (.ref b2), (.ref b2)])) rfl (hb hby at_37)
  obtain ⟨cl40v, Ar40v, q40v, S40v, N40v, H40v, G40v⟩ := V34
  have hin40 : ¬ ((5 : Int32) < 0 ∨ cl40v.slots.size ≤ ((5 : Int32)).toNatClampNeg) := inb_of S40v ⟨by decide, by decide⟩
  obtain ⟨T14, h14, X14, e14, W14, st14⟩ := stR X13 hx hZ e13 Ar40v (j := (5 : Int32)) hin40 rfl (Sto.ofV Ar40v q40v O2 (Ins.self ((((((E_DATA.ext E2).wr W4).wr W6).wr W8).wr W10).wr W12))) (g := (mkF m 40 #[.val (.int p1), .unset, .unset, .unset] [(.ref w_DATA), (.int (5 : Int32)), (.ref b2), (.ref b2)])) rfl rfl (hb hby at_40)
  have V40 : Arv Z h14 b2 k2 (.object "com/example/applied_pi_checker/appliedpichecker/FunctionSymbol$Kind") (12 : Int32) [(.ref w_FREE_NAME), (.ref w_FRESH_NAME), (.ref w_ATTACKER_NAME), (.ref w_CONSTANT), (.ref w_CONSTRUCTOR), (.ref w_DATA), .null, .null, .null, .null, .null, .null] .null := Arv.set Ar40v q40v S40v N40v H40v G40v rfl W14 5 rfl (Nat.le_of_ble_eq_true rfl)
  have N14 := Fr.snoc X14 N12 g_b2
  obtain ⟨T15, X15, e15, st15⟩ := getS2 X14 hx hZ hown (host := "") (Or.inl (hw _ (List.mem_of_getElem? (i := 16) rfl))) Via.refl e14 (((((((S_CONVERTER.ext E2).wr W4).wr W6).wr W8).wr W10).wr W12).wr W14) (g := (mkF m 44 #[.val (.int p1), .unset, .unset, .unset] [(.int (6 : Int32)), (.ref b2), (.ref b2)])) rfl (hb hby at_44)
  obtain ⟨cl47v, Ar47v, q47v, S47v, N47v, H47v, G47v⟩ := V40
  have hin47 : ¬ ((6 : Int32) < 0 ∨ cl47v.slots.size ≤ ((6 : Int32)).toNatClampNeg) := inb_of S47v ⟨by decide, by decide⟩
  obtain ⟨T16, h16, X16, e16, W16, st16⟩ := stR X15 hx hZ e15 Ar47v (j := (6 : Int32)) hin47 rfl (Sto.ofV Ar47v q47v O2 (Ins.self (((((((E_CONVERTER.ext E2).wr W4).wr W6).wr W8).wr W10).wr W12).wr W14))) (g := (mkF m 47 #[.val (.int p1), .unset, .unset, .unset] [(.ref w_CONVERTER), (.int (6 : Int32)), (.ref b2), (.ref b2)])) rfl rfl (hb hby at_47)
  have V47 : Arv Z h16 b2 k2 (.object "com/example/applied_pi_checker/appliedpichecker/FunctionSymbol$Kind") (12 : Int32) [(.ref w_FREE_NAME), (.ref w_FRESH_NAME), (.ref w_ATTACKER_NAME), (.ref w_CONSTANT), (.ref w_CONSTRUCTOR), (.ref w_DATA), (.ref w_CONVERTER), .null, .null, .null, .null, .null] .null := Arv.set Ar47v q47v S47v N47v H47v G47v rfl W16 6 rfl (Nat.le_of_ble_eq_true rfl)
  have N16 := Fr.snoc X16 N14 g_b2
  obtain ⟨T17, X17, e17, st17⟩ := getS2 X16 hx hZ hown (host := "") (Or.inl (hw _ (List.mem_of_getElem? (i := 18) rfl))) Via.refl e16 ((((((((S_TUPLE.ext E2).wr W4).wr W6).wr W8).wr W10).wr W12).wr W14).wr W16) (g := (mkF m 51 #[.val (.int p1), .unset, .unset, .unset] [(.int (7 : Int32)), (.ref b2), (.ref b2)])) rfl (hb hby at_51)
  obtain ⟨cl54v, Ar54v, q54v, S54v, N54v, H54v, G54v⟩ := V47
  have hin54 : ¬ ((7 : Int32) < 0 ∨ cl54v.slots.size ≤ ((7 : Int32)).toNatClampNeg) := inb_of S54v ⟨by decide, by decide⟩
  obtain ⟨T18, h18, X18, e18, W18, st18⟩ := stR X17 hx hZ e17 Ar54v (j := (7 : Int32)) hin54 rfl (Sto.ofV Ar54v q54v O2 (Ins.self ((((((((E_TUPLE.ext E2).wr W4).wr W6).wr W8).wr W10).wr W12).wr W14).wr W16))) (g := (mkF m 54 #[.val (.int p1), .unset, .unset, .unset] [(.ref w_TUPLE), (.int (7 : Int32)), (.ref b2), (.ref b2)])) rfl rfl (hb hby at_54)
  have V54 : Arv Z h18 b2 k2 (.object "com/example/applied_pi_checker/appliedpichecker/FunctionSymbol$Kind") (12 : Int32) [(.ref w_FREE_NAME), (.ref w_FRESH_NAME), (.ref w_ATTACKER_NAME), (.ref w_CONSTANT), (.ref w_CONSTRUCTOR), (.ref w_DATA), (.ref w_CONVERTER), (.ref w_TUPLE), .null, .null, .null, .null] .null := Arv.set Ar54v q54v S54v N54v H54v G54v rfl W18 7 rfl (Nat.le_of_ble_eq_true rfl)
  have N18 := Fr.snoc X18 N16 g_b2
  obtain ⟨T19, X19, e19, st19⟩ := getS2 X18 hx hZ hown (host := "") (Or.inl (hw _ (List.mem_of_getElem? (i := 20) rfl))) Via.refl e18 (((((((((S_DESTRUCTOR.ext E2).wr W4).wr W6).wr W8).wr W10).wr W12).wr W14).wr W16).wr W18) (g := (mkF m 58 #[.val (.int p1), .unset, .unset, .unset] [(.int (8 : Int32)), (.ref b2), (.ref b2)])) rfl (hb hby at_58)
  obtain ⟨cl61v, Ar61v, q61v, S61v, N61v, H61v, G61v⟩ := V54
  have hin61 : ¬ ((8 : Int32) < 0 ∨ cl61v.slots.size ≤ ((8 : Int32)).toNatClampNeg) := inb_of S61v ⟨by decide, by decide⟩
  obtain ⟨T20, h20, X20, e20, W20, st20⟩ := stR X19 hx hZ e19 Ar61v (j := (8 : Int32)) hin61 rfl (Sto.ofV Ar61v q61v O2 (Ins.self (((((((((E_DESTRUCTOR.ext E2).wr W4).wr W6).wr W8).wr W10).wr W12).wr W14).wr W16).wr W18))) (g := (mkF m 61 #[.val (.int p1), .unset, .unset, .unset] [(.ref w_DESTRUCTOR), (.int (8 : Int32)), (.ref b2), (.ref b2)])) rfl rfl (hb hby at_61)
  have V61 : Arv Z h20 b2 k2 (.object "com/example/applied_pi_checker/appliedpichecker/FunctionSymbol$Kind") (12 : Int32) [(.ref w_FREE_NAME), (.ref w_FRESH_NAME), (.ref w_ATTACKER_NAME), (.ref w_CONSTANT), (.ref w_CONSTRUCTOR), (.ref w_DATA), (.ref w_CONVERTER), (.ref w_TUPLE), (.ref w_DESTRUCTOR), .null, .null, .null] .null := Arv.set Ar61v q61v S61v N61v H61v G61v rfl W20 8 rfl (Nat.le_of_ble_eq_true rfl)
  have N20 := Fr.snoc X20 N18 g_b2
  obtain ⟨T21, X21, e21, st21⟩ := getS2 X20 hx hZ hown (host := "") (Or.inl (hw _ (List.mem_of_getElem? (i := 22) rfl))) Via.refl e20 ((((((((((S_EVENT.ext E2).wr W4).wr W6).wr W8).wr W10).wr W12).wr W14).wr W16).wr W18).wr W20) (g := (mkF m 65 #[.val (.int p1), .unset, .unset, .unset] [(.int (9 : Int32)), (.ref b2), (.ref b2)])) rfl (hb hby at_65)
  obtain ⟨cl68v, Ar68v, q68v, S68v, N68v, H68v, G68v⟩ := V61
  have hin68 : ¬ ((9 : Int32) < 0 ∨ cl68v.slots.size ≤ ((9 : Int32)).toNatClampNeg) := inb_of S68v ⟨by decide, by decide⟩
  obtain ⟨T22, h22, X22, e22, W22, st22⟩ := stR X21 hx hZ e21 Ar68v (j := (9 : Int32)) hin68 rfl (Sto.ofV Ar68v q68v O2 (Ins.self ((((((((((E_EVENT.ext E2).wr W4).wr W6).wr W8).wr W10).wr W12).wr W14).wr W16).wr W18).wr W20))) (g := (mkF m 68 #[.val (.int p1), .unset, .unset, .unset] [(.ref w_EVENT), (.int (9 : Int32)), (.ref b2), (.ref b2)])) rfl rfl (hb hby at_68)
  have V68 : Arv Z h22 b2 k2 (.object "com/example/applied_pi_checker/appliedpichecker/FunctionSymbol$Kind") (12 : Int32) [(.ref w_FREE_NAME), (.ref w_FRESH_NAME), (.ref w_ATTACKER_NAME), (.ref w_CONSTANT), (.ref w_CONSTRUCTOR), (.ref w_DATA), (.ref w_CONVERTER), (.ref w_TUPLE), (.ref w_DESTRUCTOR), (.ref w_EVENT), .null, .null] .null := Arv.set Ar68v q68v S68v N68v H68v G68v rfl W22 9 rfl (Nat.le_of_ble_eq_true rfl)
  have N22 := Fr.snoc X22 N20 g_b2
  obtain ⟨T23, X23, e23, st23⟩ := getS2 X22 hx hZ hown (host := "") (Or.inl (hw _ (List.mem_of_getElem? (i := 24) rfl))) Via.refl e22 (((((((((((S_TABLE.ext E2).wr W4).wr W6).wr W8).wr W10).wr W12).wr W14).wr W16).wr W18).wr W20).wr W22) (g := (mkF m 72 #[.val (.int p1), .unset, .unset, .unset] [(.int (10 : Int32)), (.ref b2), (.ref b2)])) rfl (hb hby at_72)
  obtain ⟨cl75v, Ar75v, q75v, S75v, N75v, H75v, G75v⟩ := V68
  have hin75 : ¬ ((10 : Int32) < 0 ∨ cl75v.slots.size ≤ ((10 : Int32)).toNatClampNeg) := inb_of S75v ⟨by decide, by decide⟩
  obtain ⟨T24, h24, X24, e24, W24, st24⟩ := stR X23 hx hZ e23 Ar75v (j := (10 : Int32)) hin75 rfl (Sto.ofV Ar75v q75v O2 (Ins.self (((((((((((E_TABLE.ext E2).wr W4).wr W6).wr W8).wr W10).wr W12).wr W14).wr W16).wr W18).wr W20).wr W22))) (g := (mkF m 75 #[.val (.int p1), .unset, .unset, .unset] [(.ref w_TABLE), (.int (10 : Int32)), (.ref b2), (.ref b2)])) rfl rfl (hb hby at_75)
  have V75 : Arv Z h24 b2 k2 (.object "com/example/applied_pi_checker/appliedpichecker/FunctionSymbol$Kind") (12 : Int32) [(.ref w_FREE_NAME), (.ref w_FRESH_NAME), (.ref w_ATTACKER_NAME), (.ref w_CONSTANT), (.ref w_CONSTRUCTOR), (.ref w_DATA), (.ref w_CONVERTER), (.ref w_TUPLE), (.ref w_DESTRUCTOR), (.ref w_EVENT), (.ref w_TABLE), .null] .null := Arv.set Ar75v q75v S75v N75v H75v G75v rfl W24 10 rfl (Nat.le_of_ble_eq_true rfl)
  have N24 := Fr.snoc X24 N22 g_b2
  obtain ⟨T25, X25, e25, st25⟩ := getS2 X24 hx hZ hown (host := "") (Or.inl (hw _ (List.mem_of_getElem? (i := 26) rfl))) Via.refl e24 ((((((((((((S_OCCURRENCE.ext E2).wr W4).wr W6).wr W8).wr W10).wr W12).wr W14).wr W16).wr W18).wr W20).wr W22).wr W24) (g := (mkF m 79 #[.val (.int p1), .unset, .unset, .unset] [(.int (11 : Int32)), (.ref b2), (.ref b2)])) rfl (hb hby at_79)
  obtain ⟨cl82v, Ar82v, q82v, S82v, N82v, H82v, G82v⟩ := V75
  have hin82 : ¬ ((11 : Int32) < 0 ∨ cl82v.slots.size ≤ ((11 : Int32)).toNatClampNeg) := inb_of S82v ⟨by decide, by decide⟩
  obtain ⟨T26, h26, X26, e26, W26, st26⟩ := stR X25 hx hZ e25 Ar82v (j := (11 : Int32)) hin82 rfl (Sto.ofV Ar82v q82v O2 (Ins.self ((((((((((((E_OCCURRENCE.ext E2).wr W4).wr W6).wr W8).wr W10).wr W12).wr W14).wr W16).wr W18).wr W20).wr W22).wr W24))) (g := (mkF m 82 #[.val (.int p1), .unset, .unset, .unset] [(.ref w_OCCURRENCE), (.int (11 : Int32)), (.ref b2), (.ref b2)])) rfl rfl (hb hby at_82)
  have V82 : Arv Z h26 b2 k2 (.object "com/example/applied_pi_checker/appliedpichecker/FunctionSymbol$Kind") (12 : Int32) [(.ref w_FREE_NAME), (.ref w_FRESH_NAME), (.ref w_ATTACKER_NAME), (.ref w_CONSTANT), (.ref w_CONSTRUCTOR), (.ref w_DATA), (.ref w_CONVERTER), (.ref w_TUPLE), (.ref w_DESTRUCTOR), (.ref w_EVENT), (.ref w_TABLE), (.ref w_OCCURRENCE)] .null := Arv.set Ar82v q82v S82v N82v H82v G82v rfl W26 11 rfl (Nat.le_of_ble_eq_true rfl)
  have N26 := Fr.snoc X26 N24 g_b2
  obtain ⟨cl114v, Ar114v, q114v, S114v, N114v, H114v, G114v⟩ := V82
  have hin114 : ¬ (((p1 &&& (2147483647 : Int32)) % (12 : Int32)) < 0 ∨ cl114v.slots.size ≤ (((p1 &&& (2147483647 : Int32)) % (12 : Int32))).toNatClampNeg) := inb_of S114v hi114
  have hat114 := Has.at H114v hin114 hv114
  obtain ⟨cq27, kq27, q27a, q27b, q27c⟩ := isOf hZ e26 (((((((((((((E_y114.ext E2).wr W4).wr W6).wr W8).wr W10).wr W12).wr W14).wr W16).wr W18).wr W20).wr W22).wr W24).wr W26)
  obtain ⟨_, _, ⟨T27, L27, k27, n27⟩, -, X27, ⟨Lc27, hQ27, l27, y27, z27⟩, st27⟩ := X26.virtualBack hx (y := (⟨"com/example/applied_pi_checker/appliedpichecker/FunctionSymbol$Kind", "isName", "()Z"⟩ : MethodName)) (z := (⟨"com/example/applied_pi_checker/appliedpichecker/FunctionSymbol$Kind", "isName", "()Z"⟩ : MethodName)) hown (mvT hZ (hw _ (List.mem_of_getElem? (i := 29) rfl))) (mvT hZ (hw _ (List.mem_of_getElem? (i := 30) rfl))) (notFace_of_selects (args := #[]) (mvT hZ (hw _ (List.mem_of_getElem? (i := 32) rfl)))) (mvT hZ (hw _ (List.mem_of_getElem? (i := 32) rfl))) (mvT hZ (hw _ (List.mem_of_getElem? (i := 31) rfl))) (by decide) (backOf (W := 0) (rm1 l Z a0 hw [] y114 w_ATTACKER_NAME w_FREE_NAME w_FRESH_NAME r27 h26 n0 (Nat.le_trans (Nat.le_trans (Nat.le_trans (Nat.le_trans (Nat.le_trans (Nat.le_trans (Nat.le_trans (Nat.le_trans (Nat.le_trans (Nat.le_trans (Nat.le_trans (Nat.le_trans (Nat.le_trans Z0 E2.1) (Keep.of_wr W4).1) (Keep.of_wr W6).1) (Keep.of_wr W8).1) (Keep.of_wr W10).1) (Keep.of_wr W12).1) (Keep.of_wr W14).1) (Keep.of_wr W16).1) (Keep.of_wr W18).1) (Keep.of_wr W20).1) (Keep.of_wr W22).1) (Keep.of_wr W24).1) (Keep.of_wr W26).1) (((((((((((((S_ATTACKER_NAME.ext E2).wr W4).wr W6).wr W8).wr W10).wr W12).wr W14).wr W16).wr W18).wr W20).wr W22).wr W24).wr W26) (((((((((((((S_FREE_NAME.ext E2).wr W4).wr W6).wr W8).wr W10).wr W12).wr W14).wr W16).wr W18).wr W20).wr W22).wr W24).wr W26) (((((((((((((S_FRESH_NAME.ext E2).wr W4).wr W6).wr W8).wr W10).wr W12).wr W14).wr W16).wr W18).wr W20).wr W22).wr W24).wr W26) P27) hZ (hw _ (List.mem_of_getElem? (i := 33) rfl)) (hw _ (List.mem_of_getElem? (i := 3) rfl)) (by decide) (by decide)) q27a q27c (g := (mkF m 115 #[.val (.int p1), .val (.ref b2), .val (.int ((p1 &&& (2147483647 : Int32)) % (12 : Int32))), .val (.int (0 : Int32))] [(.ref y114)])) rfl (by rw [hml]; rfl) (Steps.refl _) (argsL := []) (rest := []) (lenOf pd_0_0 rfl) rfl (by show 2 * 0 + _ ≤ _; exact Nat.le_of_eq rfl) (hb hby at_115) (fun _ _ => ⟨rfl, e26, (by decide : 1 + 0 ≤ _), (by decide : 12 + 0 ≤ _)⟩)
  dsimp only [Pt.U, Pt.locs, Pt.cells, Pt.slots] at X27 l27 y27 z27 st27 hQ27
  subst l27 y27 z27
  obtain ⟨rfl, N27q, e27⟩ := hQ27
  have N27 := Fr.app N26 N27q
  obtain ⟨fs, hr, hrun, hended, hW, hsame⟩ := X27.leave (v := some (.int (1 : Int32))) (fun h => by rw [Bd.returns] at h; cases h)
  refine ⟨_, _, pre0 _ ?_, hrun, hended, _, _, rfl, ?_, ⟨_, rfl⟩, hW, hsame.mono (by decide) (by decide)⟩
  -- 4. STEPS
  · show Steps p.tables e below (s₁.setTop (mkF m 0 #[.val (.int p1), .unset, .unset, .unset] [])) _
    refine XS.bipush X0.here hx rfl (hb hby at_0) ?_
    show Steps p.tables e below (s₁.setTop (mkF m 2 #[.val (.int p1), .unset, .unset, .unset] [(.int (12 : Int32))])) _
    refine st2 _ ?_
    show Steps p.tables e below (T2.setTop (mkF m 5 #[.val (.int p1), .unset, .unset, .unset] [(.ref b2)])) _
    refine XS.dup X2.here hx rfl (hb hby at_5) rfl rfl ?_
    show Steps p.tables e below (T2.setTop (mkF m 6 #[.val (.int p1), .unset, .unset, .unset] [(.ref b2), (.ref b2)])) _
    refine XS.iconst X2.here hx rfl (hb hby at_6) ?_
    show Steps p.tables e below (T2.setTop (mkF m 7 #[.val (.int p1), .unset, .unset, .unset] [(.int (0 : Int32)), (.ref b2), (.ref b2)])) _
    refine st3 _ ?_
    show Steps p.tables e below (T3.setTop (mkF m 10 #[.val (.int p1), .unset, .unset, .unset] [(.ref w_FREE_NAME), (.int (0 : Int32)), (.ref b2), (.ref b2)])) _
    refine st4 _ ?_
    show Steps p.tables e below (T4.setTop (mkF m 11 #[.val (.int p1), .unset, .unset, .unset] [(.ref b2)])) _
    refine XS.dup X4.here hx rfl (hb hby at_11) rfl rfl ?_
    show Steps p.tables e below (T4.setTop (mkF m 12 #[.val (.int p1), .unset, .unset, .unset] [(.ref b2), (.ref b2)])) _
    refine XS.iconst X4.here hx rfl (hb hby at_12) ?_
    show Steps p.tables e below (T4.setTop (mkF m 13 #[.val (.int p1), .unset, .unset, .unset] [(.int (1 : Int32)), (.ref b2), (.ref b2)])) _
    refine st5 _ ?_
    show Steps p.tables e below (T5.setTop (mkF m 16 #[.val (.int p1), .unset, .unset, .unset] [(.ref w_FRESH_NAME), (.int (1 : Int32)), (.ref b2), (.ref b2)])) _
    refine st6 _ ?_
    show Steps p.tables e below (T6.setTop (mkF m 17 #[.val (.int p1), .unset, .unset, .unset] [(.ref b2)])) _
    refine XS.dup X6.here hx rfl (hb hby at_17) rfl rfl ?_
    show Steps p.tables e below (T6.setTop (mkF m 18 #[.val (.int p1), .unset, .unset, .unset] [(.ref b2), (.ref b2)])) _
    refine XS.iconst X6.here hx rfl (hb hby at_18) ?_
    show Steps p.tables e below (T6.setTop (mkF m 19 #[.val (.int p1), .unset, .unset, .unset] [(.int (2 : Int32)), (.ref b2), (.ref b2)])) _
    refine st7 _ ?_
    show Steps p.tables e below (T7.setTop (mkF m 22 #[.val (.int p1), .unset, .unset, .unset] [(.ref w_ATTACKER_NAME), (.int (2 : Int32)), (.ref b2), (.ref b2)])) _
    refine st8 _ ?_
    show Steps p.tables e below (T8.setTop (mkF m 23 #[.val (.int p1), .unset, .unset, .unset] [(.ref b2)])) _
    refine XS.dup X8.here hx rfl (hb hby at_23) rfl rfl ?_
    show Steps p.tables e below (T8.setTop (mkF m 24 #[.val (.int p1), .unset, .unset, .unset] [(.ref b2), (.ref b2)])) _
    refine XS.iconst X8.here hx rfl (hb hby at_24) ?_
    show Steps p.tables e below (T8.setTop (mkF m 25 #[.val (.int p1), .unset, .unset, .unset] [(.int (3 : Int32)), (.ref b2), (.ref b2)])) _
    refine st9 _ ?_
    show Steps p.tables e below (T9.setTop (mkF m 28 #[.val (.int p1), .unset, .unset, .unset] [(.ref w_CONSTANT), (.int (3 : Int32)), (.ref b2), (.ref b2)])) _
    refine st10 _ ?_
    show Steps p.tables e below (T10.setTop (mkF m 29 #[.val (.int p1), .unset, .unset, .unset] [(.ref b2)])) _
    refine XS.dup X10.here hx rfl (hb hby at_29) rfl rfl ?_
    show Steps p.tables e below (T10.setTop (mkF m 30 #[.val (.int p1), .unset, .unset, .unset] [(.ref b2), (.ref b2)])) _
    refine XS.iconst X10.here hx rfl (hb hby at_30) ?_
    show Steps p.tables e below (T10.setTop (mkF m 31 #[.val (.int p1), .unset, .unset, .unset] [(.int (4 : Int32)), (.ref b2), (.ref b2)])) _
    refine st11 _ ?_
    show Steps p.tables e below (T11.setTop (mkF m 34 #[.val (.int p1), .unset, .unset, .unset] [(.ref w_CONSTRUCTOR), (.int (4 : Int32)), (.ref b2), (.ref b2)])) _
    refine st12 _ ?_
    show Steps p.tables e below (T12.setTop (mkF m 35 #[.val (.int p1), .unset, .unset, .unset] [(.ref b2)])) _
    refine XS.dup X12.here hx rfl (hb hby at_35) rfl rfl ?_
    show Steps p.tables e below (T12.setTop (mkF m 36 #[.val (.int p1), .unset, .unset, .unset] [(.ref b2), (.ref b2)])) _
    refine XS.iconst X12.here hx rfl (hb hby at_36) ?_
    show Steps p.tables e below (T12.setTop (mkF m 37 #[.val (.int p1), .unset, .unset, .unset] [(.int (5 : Int32)), (.ref b2), (.ref b2)])) _
    refine st13 _ ?_
    show Steps p.tables e below (T13.setTop (mkF m 40 #[.val (.int p1), .unset, .unset, .unset] [(.ref w_DATA), (.int (5 : Int32)), (.ref b2), (.ref b2)])) _
    refine st14 _ ?_
    show Steps p.tables e below (T14.setTop (mkF m 41 #[.val (.int p1), .unset, .unset, .unset] [(.ref b2)])) _
    refine XS.dup X14.here hx rfl (hb hby at_41) rfl rfl ?_
    show Steps p.tables e below (T14.setTop (mkF m 42 #[.val (.int p1), .unset, .unset, .unset] [(.ref b2), (.ref b2)])) _
    refine XS.bipush X14.here hx rfl (hb hby at_42) ?_
    show Steps p.tables e below (T14.setTop (mkF m 44 #[.val (.int p1), .unset, .unset, .unset] [(.int (6 : Int32)), (.ref b2), (.ref b2)])) _
    refine st15 _ ?_
    show Steps p.tables e below (T15.setTop (mkF m 47 #[.val (.int p1), .unset, .unset, .unset] [(.ref w_CONVERTER), (.int (6 : Int32)), (.ref b2), (.ref b2)])) _
    refine st16 _ ?_
    show Steps p.tables e below (T16.setTop (mkF m 48 #[.val (.int p1), .unset, .unset, .unset] [(.ref b2)])) _
    refine XS.dup X16.here hx rfl (hb hby at_48) rfl rfl ?_
    show Steps p.tables e below (T16.setTop (mkF m 49 #[.val (.int p1), .unset, .unset, .unset] [(.ref b2), (.ref b2)])) _
    refine XS.bipush X16.here hx rfl (hb hby at_49) ?_
    show Steps p.tables e below (T16.setTop (mkF m 51 #[.val (.int p1), .unset, .unset, .unset] [(.int (7 : Int32)), (.ref b2), (.ref b2)])) _
    refine st17 _ ?_
    show Steps p.tables e below (T17.setTop (mkF m 54 #[.val (.int p1), .unset, .unset, .unset] [(.ref w_TUPLE), (.int (7 : Int32)), (.ref b2), (.ref b2)])) _
    refine st18 _ ?_
    show Steps p.tables e below (T18.setTop (mkF m 55 #[.val (.int p1), .unset, .unset, .unset] [(.ref b2)])) _
    refine XS.dup X18.here hx rfl (hb hby at_55) rfl rfl ?_
    show Steps p.tables e below (T18.setTop (mkF m 56 #[.val (.int p1), .unset, .unset, .unset] [(.ref b2), (.ref b2)])) _
    refine XS.bipush X18.here hx rfl (hb hby at_56) ?_
    show Steps p.tables e below (T18.setTop (mkF m 58 #[.val (.int p1), .unset, .unset, .unset] [(.int (8 : Int32)), (.ref b2), (.ref b2)])) _
    refine st19 _ ?_
    show Steps p.tables e below (T19.setTop (mkF m 61 #[.val (.int p1), .unset, .unset, .unset] [(.ref w_DESTRUCTOR), (.int (8 : Int32)), (.ref b2), (.ref b2)])) _
    refine st20 _ ?_
    show Steps p.tables e below (T20.setTop (mkF m 62 #[.val (.int p1), .unset, .unset, .unset] [(.ref b2)])) _
    refine XS.dup X20.here hx rfl (hb hby at_62) rfl rfl ?_
    show Steps p.tables e below (T20.setTop (mkF m 63 #[.val (.int p1), .unset, .unset, .unset] [(.ref b2), (.ref b2)])) _
    refine XS.bipush X20.here hx rfl (hb hby at_63) ?_
    show Steps p.tables e below (T20.setTop (mkF m 65 #[.val (.int p1), .unset, .unset, .unset] [(.int (9 : Int32)), (.ref b2), (.ref b2)])) _
    refine st21 _ ?_
    show Steps p.tables e below (T21.setTop (mkF m 68 #[.val (.int p1), .unset, .unset, .unset] [(.ref w_EVENT), (.int (9 : Int32)), (.ref b2), (.ref b2)])) _
    refine st22 _ ?_
    show Steps p.tables e below (T22.setTop (mkF m 69 #[.val (.int p1), .unset, .unset, .unset] [(.ref b2)])) _
    refine XS.dup X22.here hx rfl (hb hby at_69) rfl rfl ?_
    show Steps p.tables e below (T22.setTop (mkF m 70 #[.val (.int p1), .unset, .unset, .unset] [(.ref b2), (.ref b2)])) _
    refine XS.bipush X22.here hx rfl (hb hby at_70) ?_
    show Steps p.tables e below (T22.setTop (mkF m 72 #[.val (.int p1), .unset, .unset, .unset] [(.int (10 : Int32)), (.ref b2), (.ref b2)])) _
    refine st23 _ ?_
    show Steps p.tables e below (T23.setTop (mkF m 75 #[.val (.int p1), .unset, .unset, .unset] [(.ref w_TABLE), (.int (10 : Int32)), (.ref b2), (.ref b2)])) _
    refine st24 _ ?_
    show Steps p.tables e below (T24.setTop (mkF m 76 #[.val (.int p1), .unset, .unset, .unset] [(.ref b2)])) _
    refine XS.dup X24.here hx rfl (hb hby at_76) rfl rfl ?_
    show Steps p.tables e below (T24.setTop (mkF m 77 #[.val (.int p1), .unset, .unset, .unset] [(.ref b2), (.ref b2)])) _
    refine XS.bipush X24.here hx rfl (hb hby at_77) ?_
    show Steps p.tables e below (T24.setTop (mkF m 79 #[.val (.int p1), .unset, .unset, .unset] [(.int (11 : Int32)), (.ref b2), (.ref b2)])) _
    refine st25 _ ?_
    show Steps p.tables e below (T25.setTop (mkF m 82 #[.val (.int p1), .unset, .unset, .unset] [(.ref w_OCCURRENCE), (.int (11 : Int32)), (.ref b2), (.ref b2)])) _
    refine st26 _ ?_
    show Steps p.tables e below (T26.setTop (mkF m 83 #[.val (.int p1), .unset, .unset, .unset] [(.ref b2)])) _
    refine XS.astoreN X26.here hx rfl (hb hby at_83) rfl rfl (l' := #[.val (.int p1), .val (.ref b2), .unset, .unset]) rfl ?_
    show Steps p.tables e below (T26.setTop (mkF m 84 #[.val (.int p1), .val (.ref b2), .unset, .unset] [])) _
    refine XS.iloadN X26.here hx rfl (hb hby at_84) rfl ?_
    show Steps p.tables e below (T26.setTop (mkF m 85 #[.val (.int p1), .val (.ref b2), .unset, .unset] [(.int p1)])) _
    refine X26.ldcInt hx hown (mvT hZ (hw _ (List.mem_of_getElem? (i := 28) rfl))) (g := (mkF m 85 #[.val (.int p1), .val (.ref b2), .unset, .unset] [(.int p1)])) rfl (hb hby at_85) _ ?_
    show Steps p.tables e below (T26.setTop (mkF m 87 #[.val (.int p1), .val (.ref b2), .unset, .unset] [(.int (2147483647 : Int32)), (.int p1)])) _
    refine XS.iand X26.here hx rfl (hb hby at_87) rfl ?_
    show Steps p.tables e below (T26.setTop (mkF m 88 #[.val (.int p1), .val (.ref b2), .unset, .unset] [(.int (p1 &&& (2147483647 : Int32)))])) _
    refine XS.bipush X26.here hx rfl (hb hby at_88) ?_
    show Steps p.tables e below (T26.setTop (mkF m 90 #[.val (.int p1), .val (.ref b2), .unset, .unset] [(.int (12 : Int32)), (.int (p1 &&& (2147483647 : Int32)))])) _
    refine iremM X26 hx rfl (hb hby at_90) rfl (by decide) ?_
    show Steps p.tables e below (T26.setTop (mkF m 91 #[.val (.int p1), .val (.ref b2), .unset, .unset] [(.int ((p1 &&& (2147483647 : Int32)) % (12 : Int32)))])) _
    refine XS.istoreN X26.here hx rfl (hb hby at_91) rfl (l' := #[.val (.int p1), .val (.ref b2), .val (.int ((p1 &&& (2147483647 : Int32)) % (12 : Int32))), .unset]) rfl ?_
    show Steps p.tables e below (T26.setTop (mkF m 92 #[.val (.int p1), .val (.ref b2), .val (.int ((p1 &&& (2147483647 : Int32)) % (12 : Int32))), .unset] [])) _
    refine XS.iloadN X26.here hx rfl (hb hby at_92) rfl ?_
    show Steps p.tables e below (T26.setTop (mkF m 93 #[.val (.int p1), .val (.ref b2), .val (.int ((p1 &&& (2147483647 : Int32)) % (12 : Int32))), .unset] [(.int ((p1 &&& (2147483647 : Int32)) % (12 : Int32)))])) _
    refine XS.ifNo X26.here hx rfl (hb hby at_93) rfl ((if0 _ _).trans (feq hc93).1) ?_
    show Steps p.tables e below (T26.setTop (mkF m 96 #[.val (.int p1), .val (.ref b2), .val (.int ((p1 &&& (2147483647 : Int32)) % (12 : Int32))), .unset] [])) _
    refine XS.iloadN X26.here hx rfl (hb hby at_96) rfl ?_
    show Steps p.tables e below (T26.setTop (mkF m 97 #[.val (.int p1), .val (.ref b2), .val (.int ((p1 &&& (2147483647 : Int32)) % (12 : Int32))), .unset] [(.int ((p1 &&& (2147483647 : Int32)) % (12 : Int32)))])) _
    refine XS.iconst X26.here hx rfl (hb hby at_97) ?_
    show Steps p.tables e below (T26.setTop (mkF m 98 #[.val (.int p1), .val (.ref b2), .val (.int ((p1 &&& (2147483647 : Int32)) % (12 : Int32))), .unset] [(.int (1 : Int32)), (.int ((p1 &&& (2147483647 : Int32)) % (12 : Int32)))])) _
    refine XS.icmpNo X26.here hx rfl (hb hby at_98) rfl (feq hc98).1 ?_
    show Steps p.tables e below (T26.setTop (mkF m 101 #[.val (.int p1), .val (.ref b2), .val (.int ((p1 &&& (2147483647 : Int32)) % (12 : Int32))), .unset] [])) _
    refine XS.iloadN X26.here hx rfl (hb hby at_101) rfl ?_
    show Steps p.tables e below (T26.setTop (mkF m 102 #[.val (.int p1), .val (.ref b2), .val (.int ((p1 &&& (2147483647 : Int32)) % (12 : Int32))), .unset] [(.int ((p1 &&& (2147483647 : Int32)) % (12 : Int32)))])) _
    refine XS.iconst X26.here hx rfl (hb hby at_102) ?_
    show Steps p.tables e below (T26.setTop (mkF m 103 #[.val (.int p1), .val (.ref b2), .val (.int ((p1 &&& (2147483647 : Int32)) % (12 : Int32))), .unset] [(.int (2 : Int32)), (.int ((p1 &&& (2147483647 : Int32)) % (12 : Int32)))])) _
    refine XS.icmpYes X26.here hx rfl (pc0 := 103) (pc' := 110) rfl (hb hby at_103) rfl (feq hc103).2 (by decide) (by decide) ?_
    show Steps p.tables e below (T26.setTop (mkF m 110 #[.val (.int p1), .val (.ref b2), .val (.int ((p1 &&& (2147483647 : Int32)) % (12 : Int32))), .unset] [])) _
    refine XS.iconst X26.here hx rfl (hb hby at_110) ?_
    show Steps p.tables e below (T26.setTop (mkF m 111 #[.val (.int p1), .val (.ref b2), .val (.int ((p1 &&& (2147483647 : Int32)) % (12 : Int32))), .unset] [(.int (0 : Int32))])) _
    refine XS.istoreN X26.here hx rfl (hb hby at_111) rfl (l' := #[.val (.int p1), .val (.ref b2), .val (.int ((p1 &&& (2147483647 : Int32)) % (12 : Int32))), .val (.int (0 : Int32))]) rfl ?_
    show Steps p.tables e below (T26.setTop (mkF m 112 #[.val (.int p1), .val (.ref b2), .val (.int ((p1 &&& (2147483647 : Int32)) % (12 : Int32))), .val (.int (0 : Int32))] [])) _
    refine XS.aloadN X26.here hx rfl (hb hby at_112) rfl rfl ?_
    show Steps p.tables e below (T26.setTop (mkF m 113 #[.val (.int p1), .val (.ref b2), .val (.int ((p1 &&& (2147483647 : Int32)) % (12 : Int32))), .val (.int (0 : Int32))] [(.ref b2)])) _
    refine XS.iloadN X26.here hx rfl (hb hby at_113) rfl ?_
    show Steps p.tables e below (T26.setTop (mkF m 114 #[.val (.int p1), .val (.ref b2), .val (.int ((p1 &&& (2147483647 : Int32)) % (12 : Int32))), .val (.int (0 : Int32))] [(.int ((p1 &&& (2147483647 : Int32)) % (12 : Int32))), (.ref b2)])) _
    refine X26.aaload hx (j := ((p1 &&& (2147483647 : Int32)) % (12 : Int32))) (v := (.ref y114)) (by rw [e26]; exact Ar114v.1) (State.isArrayOf_alike hZ.alike Ar114v.2.1) rfl Ar114v.2.2 hin114 hat114 (g := (mkF m 114 #[.val (.int p1), .val (.ref b2), .val (.int ((p1 &&& (2147483647 : Int32)) % (12 : Int32))), .val (.int (0 : Int32))] [(.int ((p1 &&& (2147483647 : Int32)) % (12 : Int32))), (.ref b2)])) rfl rfl (hb hby at_114) _ ?_
    show Steps p.tables e below (T26.setTop (mkF m 115 #[.val (.int p1), .val (.ref b2), .val (.int ((p1 &&& (2147483647 : Int32)) % (12 : Int32))), .val (.int (0 : Int32))] [(.ref y114)])) _
    refine st27.trans ?_
    show Steps p.tables e below (T27.setTop (mkF m 118 #[.val (.int p1), .val (.ref b2), .val (.int ((p1 &&& (2147483647 : Int32)) % (12 : Int32))), .val (.int (0 : Int32))] [(.int r27)])) _
    refine XS.iloadN X27.here hx rfl (hb hby at_118) rfl ?_
    show Steps p.tables e below (T27.setTop (mkF m 119 #[.val (.int p1), .val (.ref b2), .val (.int ((p1 &&& (2147483647 : Int32)) % (12 : Int32))), .val (.int (0 : Int32))] [(.int (0 : Int32)), (.int r27)])) _
    refine XS.icmpNo X27.here hx rfl (hb hby at_119) rfl (teq hc119).2 ?_
    show Steps p.tables e below (T27.setTop (mkF m 122 #[.val (.int p1), .val (.ref b2), .val (.int ((p1 &&& (2147483647 : Int32)) % (12 : Int32))), .val (.int (0 : Int32))] [])) _
    refine XS.iconst X27.here hx rfl (hb hby at_122) ?_
    show Steps p.tables e below (T27.setTop (mkF m 123 #[.val (.int p1), .val (.ref b2), .val (.int ((p1 &&& (2147483647 : Int32)) % (12 : Int32))), .val (.int (0 : Int32))] [(.int (1 : Int32))])) _
    refine XS.goto X27.here hx rfl (pc0 := 123) (pc' := 127) rfl (hb hby at_123) (by decide) (by decide) ?_
    show Steps p.tables e below (T27.setTop (mkF m 127 #[.val (.int p1), .val (.ref b2), .val (.int ((p1 &&& (2147483647 : Int32)) % (12 : Int32))), .val (.int (0 : Int32))] [(.int (1 : Int32))])) _
    exact retN X27 hx (t := .boolean) Bd.returns (by simp) (hb hby at_127) hr
  · show Q0 n0 _ T27.heap _
    rw [e27]
    exact ⟨rfl, N27⟩
theorem rm0 (l : Launch) (Z : State) (a0 : Array Value) (hw : ∀ d ∈ tables_1, d.before a0 Z = true) (ws : List Jvm.Cond) (p1 : Int32) (w_ATTACKER_NAME w_CONSTANT w_CONSTRUCTOR w_CONVERTER w_DATA w_DESTRUCTOR w_EVENT w_FREE_NAME w_FRESH_NAME w_OCCURRENCE w_TABLE w_TUPLE : Addr) (h0 : Heap) (n0 : Nat) (Z0 : n0 ≤ h0.size) (S_ATTACKER_NAME : Sta Z h0 "com/example/applied_pi_checker/appliedpichecker/FunctionSymbol$Kind" "ATTACKER_NAME" "Lcom/example/applied_pi_checker/appliedpichecker/FunctionSymbol$Kind;" (.ref w_ATTACKER_NAME)) (S_CONSTANT : Sta Z h0 "com/example/applied_pi_checker/appliedpichecker/FunctionSymbol$Kind" "CONSTANT" "Lcom/example/applied_pi_checker/appliedpichecker/FunctionSymbol$Kind;" (.ref w_CONSTANT)) (S_CONSTRUCTOR : Sta Z h0 "com/example/applied_pi_checker/appliedpichecker/FunctionSymbol$Kind" "CONSTRUCTOR" "Lcom/example/applied_pi_checker/appliedpichecker/FunctionSymbol$Kind;" (.ref w_CONSTRUCTOR)) (S_CONVERTER : Sta Z h0 "com/example/applied_pi_checker/appliedpichecker/FunctionSymbol$Kind" "CONVERTER" "Lcom/example/applied_pi_checker/appliedpichecker/FunctionSymbol$Kind;" (.ref w_CONVERTER)) (S_DATA : Sta Z h0 "com/example/applied_pi_checker/appliedpichecker/FunctionSymbol$Kind" "DATA" "Lcom/example/applied_pi_checker/appliedpichecker/FunctionSymbol$Kind;" (.ref w_DATA)) (S_DESTRUCTOR : Sta Z h0 "com/example/applied_pi_checker/appliedpichecker/FunctionSymbol$Kind" "DESTRUCTOR" "Lcom/example/applied_pi_checker/appliedpichecker/FunctionSymbol$Kind;" (.ref w_DESTRUCTOR)) (S_EVENT : Sta Z h0 "com/example/applied_pi_checker/appliedpichecker/FunctionSymbol$Kind" "EVENT" "Lcom/example/applied_pi_checker/appliedpichecker/FunctionSymbol$Kind;" (.ref w_EVENT)) (S_FREE_NAME : Sta Z h0 "com/example/applied_pi_checker/appliedpichecker/FunctionSymbol$Kind" "FREE_NAME" "Lcom/example/applied_pi_checker/appliedpichecker/FunctionSymbol$Kind;" (.ref w_FREE_NAME)) (S_FRESH_NAME : Sta Z h0 "com/example/applied_pi_checker/appliedpichecker/FunctionSymbol$Kind" "FRESH_NAME" "Lcom/example/applied_pi_checker/appliedpichecker/FunctionSymbol$Kind;" (.ref w_FRESH_NAME)) (S_OCCURRENCE : Sta Z h0 "com/example/applied_pi_checker/appliedpichecker/FunctionSymbol$Kind" "OCCURRENCE" "Lcom/example/applied_pi_checker/appliedpichecker/FunctionSymbol$Kind;" (.ref w_OCCURRENCE)) (S_TABLE : Sta Z h0 "com/example/applied_pi_checker/appliedpichecker/FunctionSymbol$Kind" "TABLE" "Lcom/example/applied_pi_checker/appliedpichecker/FunctionSymbol$Kind;" (.ref w_TABLE)) (S_TUPLE : Sta Z h0 "com/example/applied_pi_checker/appliedpichecker/FunctionSymbol$Kind" "TUPLE" "Lcom/example/applied_pi_checker/appliedpichecker/FunctionSymbol$Kind;" (.ref w_TUPLE)) (E_ATTACKER_NAME : Exa Z h0 w_ATTACKER_NAME "com/example/applied_pi_checker/appliedpichecker/FunctionSymbol$Kind") (E_CONSTANT : Exa Z h0 w_CONSTANT "com/example/applied_pi_checker/appliedpichecker/FunctionSymbol$Kind") (E_CONSTRUCTOR : Exa Z h0 w_CONSTRUCTOR "com/example/applied_pi_checker/appliedpichecker/FunctionSymbol$Kind") (E_CONVERTER : Exa Z h0 w_CONVERTER "com/example/applied_pi_checker/appliedpichecker/FunctionSymbol$Kind") (E_DATA : Exa Z h0 w_DATA "com/example/applied_pi_checker/appliedpichecker/FunctionSymbol$Kind") (E_DESTRUCTOR : Exa Z h0 w_DESTRUCTOR "com/example/applied_pi_checker/appliedpichecker/FunctionSymbol$Kind") (E_EVENT : Exa Z h0 w_EVENT "com/example/applied_pi_checker/appliedpichecker/FunctionSymbol$Kind") (E_FREE_NAME : Exa Z h0 w_FREE_NAME "com/example/applied_pi_checker/appliedpichecker/FunctionSymbol$Kind") (E_FRESH_NAME : Exa Z h0 w_FRESH_NAME "com/example/applied_pi_checker/appliedpichecker/FunctionSymbol$Kind") (E_OCCURRENCE : Exa Z h0 w_OCCURRENCE "com/example/applied_pi_checker/appliedpichecker/FunctionSymbol$Kind") (E_TABLE : Exa Z h0 w_TABLE "com/example/applied_pi_checker/appliedpichecker/FunctionSymbol$Kind") (E_TUPLE : Exa Z h0 w_TUPLE "com/example/applied_pi_checker/appliedpichecker/FunctionSymbol$Kind") (d_FREE_NAME_FRESH_NAME : ¬ w_FREE_NAME = w_FRESH_NAME) (d_FREE_NAME_ATTACKER_NAME : ¬ w_FREE_NAME = w_ATTACKER_NAME) (d_FRESH_NAME_FREE_NAME : ¬ w_FRESH_NAME = w_FREE_NAME) (d_FRESH_NAME_ATTACKER_NAME : ¬ w_FRESH_NAME = w_ATTACKER_NAME) (d_ATTACKER_NAME_FREE_NAME : ¬ w_ATTACKER_NAME = w_FREE_NAME) (d_ATTACKER_NAME_FRESH_NAME : ¬ w_ATTACKER_NAME = w_FRESH_NAME) (d_CONSTANT_FREE_NAME : ¬ w_CONSTANT = w_FREE_NAME) (d_CONSTANT_FRESH_NAME : ¬ w_CONSTANT = w_FRESH_NAME) (d_CONSTANT_ATTACKER_NAME : ¬ w_CONSTANT = w_ATTACKER_NAME) (d_CONSTRUCTOR_FREE_NAME : ¬ w_CONSTRUCTOR = w_FREE_NAME) (d_CONSTRUCTOR_FRESH_NAME : ¬ w_CONSTRUCTOR = w_FRESH_NAME) (d_CONSTRUCTOR_ATTACKER_NAME : ¬ w_CONSTRUCTOR = w_ATTACKER_NAME) (d_DATA_FREE_NAME : ¬ w_DATA = w_FREE_NAME) (d_DATA_FRESH_NAME : ¬ w_DATA = w_FRESH_NAME) (d_DATA_ATTACKER_NAME : ¬ w_DATA = w_ATTACKER_NAME) (d_CONVERTER_FREE_NAME : ¬ w_CONVERTER = w_FREE_NAME) (d_CONVERTER_FRESH_NAME : ¬ w_CONVERTER = w_FRESH_NAME) (d_CONVERTER_ATTACKER_NAME : ¬ w_CONVERTER = w_ATTACKER_NAME) (d_TUPLE_FREE_NAME : ¬ w_TUPLE = w_FREE_NAME) (d_TUPLE_FRESH_NAME : ¬ w_TUPLE = w_FRESH_NAME) (d_TUPLE_ATTACKER_NAME : ¬ w_TUPLE = w_ATTACKER_NAME) (d_DESTRUCTOR_FREE_NAME : ¬ w_DESTRUCTOR = w_FREE_NAME) (d_DESTRUCTOR_FRESH_NAME : ¬ w_DESTRUCTOR = w_FRESH_NAME) (d_DESTRUCTOR_ATTACKER_NAME : ¬ w_DESTRUCTOR = w_ATTACKER_NAME) (d_EVENT_FREE_NAME : ¬ w_EVENT = w_FREE_NAME) (d_EVENT_FRESH_NAME : ¬ w_EVENT = w_FRESH_NAME) (d_EVENT_ATTACKER_NAME : ¬ w_EVENT = w_ATTACKER_NAME) (d_TABLE_FREE_NAME : ¬ w_TABLE = w_FREE_NAME) (d_TABLE_FRESH_NAME : ¬ w_TABLE = w_FRESH_NAME) (d_TABLE_ATTACKER_NAME : ¬ w_TABLE = w_ATTACKER_NAME) (d_OCCURRENCE_FREE_NAME : ¬ w_OCCURRENCE = w_FREE_NAME) (d_OCCURRENCE_FRESH_NAME : ¬ w_OCCURRENCE = w_FRESH_NAME) (d_OCCURRENCE_ATTACKER_NAME : ¬ w_OCCURRENCE = w_ATTACKER_NAME) :
    MetFree l x (head1 (Jvm.Cond.code x code maxLocals ret :: ws) room_1) (fun a U => a = #[(.int p1)] ∧ Z.Warmed39 U.vm ∧ U.heap = h0) (fun _ _ _ _ _ => True) (fun _ U o U' => ∃ v L, o = .returned v ∧ Q0 n0 v U'.heap L ∧ FrameEnd U o U' L room_1.cells room_1.slots) := by
  rcases own_rem p1 with q | q | q | q | q | q | q | q | q | q | q | q
  · exact rm0_tf l Z a0 hw ws p1 w_FREE_NAME w_FRESH_NAME w_ATTACKER_NAME w_CONSTANT w_CONSTRUCTOR w_DATA w_CONVERTER w_TUPLE w_DESTRUCTOR w_EVENT w_TABLE w_OCCURRENCE w_FREE_NAME (1 : Int32) h0 n0 Z0 S_FREE_NAME E_FREE_NAME S_FRESH_NAME E_FRESH_NAME S_ATTACKER_NAME E_ATTACKER_NAME S_CONSTANT E_CONSTANT S_CONSTRUCTOR E_CONSTRUCTOR S_DATA E_DATA S_CONVERTER E_CONVERTER S_TUPLE E_TUPLE S_DESTRUCTOR E_DESTRUCTOR S_EVENT E_EVENT S_TABLE E_TABLE S_OCCURRENCE E_OCCURRENCE (by simp [R1, d_FREE_NAME_FRESH_NAME, d_FREE_NAME_ATTACKER_NAME]) E_FREE_NAME (by rw [q] <;> decide) (by rw [q] <;> decide) (by rw [q] <;> rfl) rfl
  · exact rm0_ftf l Z a0 hw ws p1 w_FREE_NAME w_FRESH_NAME w_ATTACKER_NAME w_CONSTANT w_CONSTRUCTOR w_DATA w_CONVERTER w_TUPLE w_DESTRUCTOR w_EVENT w_TABLE w_OCCURRENCE w_FRESH_NAME (1 : Int32) h0 n0 Z0 S_FREE_NAME E_FREE_NAME S_FRESH_NAME E_FRESH_NAME S_ATTACKER_NAME E_ATTACKER_NAME S_CONSTANT E_CONSTANT S_CONSTRUCTOR E_CONSTRUCTOR S_DATA E_DATA S_CONVERTER E_CONVERTER S_TUPLE E_TUPLE S_DESTRUCTOR E_DESTRUCTOR S_EVENT E_EVENT S_TABLE E_TABLE S_OCCURRENCE E_OCCURRENCE (by simp [R1, d_FRESH_NAME_FREE_NAME, d_FRESH_NAME_ATTACKER_NAME]) E_FRESH_NAME (by rw [q] <;> decide) (by rw [q] <;> decide) (by rw [q] <;> decide) (by rw [q] <;> rfl) rfl
  · exact rm0_ffff l Z a0 hw ws p1 w_FREE_NAME w_FRESH_NAME w_ATTACKER_NAME w_CONSTANT w_CONSTRUCTOR w_DATA w_CONVERTER w_TUPLE w_DESTRUCTOR w_EVENT w_TABLE w_OCCURRENCE w_ATTACKER_NAME (1 : Int32) h0 n0 Z0 S_FREE_NAME E_FREE_NAME S_FRESH_NAME E_FRESH_NAME S_ATTACKER_NAME E_ATTACKER_NAME S_CONSTANT E_CONSTANT S_CONSTRUCTOR E_CONSTRUCTOR S_DATA E_DATA S_CONVERTER E_CONVERTER S_TUPLE E_TUPLE S_DESTRUCTOR E_DESTRUCTOR S_EVENT E_EVENT S_TABLE E_TABLE S_OCCURRENCE E_OCCURRENCE (by simp [R1, d_ATTACKER_NAME_FREE_NAME, d_ATTACKER_NAME_FRESH_NAME]) E_ATTACKER_NAME (by rw [q] <;> decide) (by rw [q] <;> decide) (by rw [q] <;> decide) (by rw [q] <;> decide) (by rw [q] <;> rfl) rfl
  · exact rm0_fftf l Z a0 hw ws p1 w_FREE_NAME w_FRESH_NAME w_ATTACKER_NAME w_CONSTANT w_CONSTRUCTOR w_DATA w_CONVERTER w_TUPLE w_DESTRUCTOR w_EVENT w_TABLE w_OCCURRENCE w_CONSTANT (0 : Int32) h0 n0 Z0 S_FREE_NAME E_FREE_NAME S_FRESH_NAME E_FRESH_NAME S_ATTACKER_NAME E_ATTACKER_NAME S_CONSTANT E_CONSTANT S_CONSTRUCTOR E_CONSTRUCTOR S_DATA E_DATA S_CONVERTER E_CONVERTER S_TUPLE E_TUPLE S_DESTRUCTOR E_DESTRUCTOR S_EVENT E_EVENT S_TABLE E_TABLE S_OCCURRENCE E_OCCURRENCE (by simp [R1, d_CONSTANT_FREE_NAME, d_CONSTANT_FRESH_NAME, d_CONSTANT_ATTACKER_NAME]) E_CONSTANT (by rw [q] <;> decide) (by rw [q] <;> decide) (by rw [q] <;> decide) (by rw [q] <;> decide) (by rw [q] <;> rfl) rfl
  · exact rm0_fftf l Z a0 hw ws p1 w_FREE_NAME w_FRESH_NAME w_ATTACKER_NAME w_CONSTANT w_CONSTRUCTOR w_DATA w_CONVERTER w_TUPLE w_DESTRUCTOR w_EVENT w_TABLE w_OCCURRENCE w_CONSTRUCTOR (0 : Int32) h0 n0 Z0 S_FREE_NAME E_FREE_NAME S_FRESH_NAME E_FRESH_NAME S_ATTACKER_NAME E_ATTACKER_NAME S_CONSTANT E_CONSTANT S_CONSTRUCTOR E_CONSTRUCTOR S_DATA E_DATA S_CONVERTER E_CONVERTER S_TUPLE E_TUPLE S_DESTRUCTOR E_DESTRUCTOR S_EVENT E_EVENT S_TABLE E_TABLE S_OCCURRENCE E_OCCURRENCE (by simp [R1, d_CONSTRUCTOR_FREE_NAME, d_CONSTRUCTOR_FRESH_NAME, d_CONSTRUCTOR_ATTACKER_NAME]) E_CONSTRUCTOR (by rw [q] <;> decide) (by rw [q] <;> decide) (by rw [q] <;> decide) (by rw [q] <;> decide) (by rw [q] <;> rfl) rfl
  · exact rm0_fftf l Z a0 hw ws p1 w_FREE_NAME w_FRESH_NAME w_ATTACKER_NAME w_CONSTANT w_CONSTRUCTOR w_DATA w_CONVERTER w_TUPLE w_DESTRUCTOR w_EVENT w_TABLE w_OCCURRENCE w_DATA (0 : Int32) h0 n0 Z0 S_FREE_NAME E_FREE_NAME S_FRESH_NAME E_FRESH_NAME S_ATTACKER_NAME E_ATTACKER_NAME S_CONSTANT E_CONSTANT S_CONSTRUCTOR E_CONSTRUCTOR S_DATA E_DATA S_CONVERTER E_CONVERTER S_TUPLE E_TUPLE S_DESTRUCTOR E_DESTRUCTOR S_EVENT E_EVENT S_TABLE E_TABLE S_OCCURRENCE E_OCCURRENCE (by simp [R1, d_DATA_FREE_NAME, d_DATA_FRESH_NAME, d_DATA_ATTACKER_NAME]) E_DATA (by rw [q] <;> decide) (by rw [q] <;> decide) (by rw [q] <;> decide) (by rw [q] <;> decide) (by rw [q] <;> rfl) rfl
  · exact rm0_fftf l Z a0 hw ws p1 w_FREE_NAME w_FRESH_NAME w_ATTACKER_NAME w_CONSTANT w_CONSTRUCTOR w_DATA w_CONVERTER w_TUPLE w_DESTRUCTOR w_EVENT w_TABLE w_OCCURRENCE w_CONVERTER (0 : Int32) h0 n0 Z0 S_FREE_NAME E_FREE_NAME S_FRESH_NAME E_FRESH_NAME S_ATTACKER_NAME E_ATTACKER_NAME S_CONSTANT E_CONSTANT S_CONSTRUCTOR E_CONSTRUCTOR S_DATA E_DATA S_CONVERTER E_CONVERTER S_TUPLE E_TUPLE S_DESTRUCTOR E_DESTRUCTOR S_EVENT E_EVENT S_TABLE E_TABLE S_OCCURRENCE E_OCCURRENCE (by simp [R1, d_CONVERTER_FREE_NAME, d_CONVERTER_FRESH_NAME, d_CONVERTER_ATTACKER_NAME]) E_CONVERTER (by rw [q] <;> decide) (by rw [q] <;> decide) (by rw [q] <;> decide) (by rw [q] <;> decide) (by rw [q] <;> rfl) rfl
  · exact rm0_fftf l Z a0 hw ws p1 w_FREE_NAME w_FRESH_NAME w_ATTACKER_NAME w_CONSTANT w_CONSTRUCTOR w_DATA w_CONVERTER w_TUPLE w_DESTRUCTOR w_EVENT w_TABLE w_OCCURRENCE w_TUPLE (0 : Int32) h0 n0 Z0 S_FREE_NAME E_FREE_NAME S_FRESH_NAME E_FRESH_NAME S_ATTACKER_NAME E_ATTACKER_NAME S_CONSTANT E_CONSTANT S_CONSTRUCTOR E_CONSTRUCTOR S_DATA E_DATA S_CONVERTER E_CONVERTER S_TUPLE E_TUPLE S_DESTRUCTOR E_DESTRUCTOR S_EVENT E_EVENT S_TABLE E_TABLE S_OCCURRENCE E_OCCURRENCE (by simp [R1, d_TUPLE_FREE_NAME, d_TUPLE_FRESH_NAME, d_TUPLE_ATTACKER_NAME]) E_TUPLE (by rw [q] <;> decide) (by rw [q] <;> decide) (by rw [q] <;> decide) (by rw [q] <;> decide) (by rw [q] <;> rfl) rfl
  · exact rm0_fftf l Z a0 hw ws p1 w_FREE_NAME w_FRESH_NAME w_ATTACKER_NAME w_CONSTANT w_CONSTRUCTOR w_DATA w_CONVERTER w_TUPLE w_DESTRUCTOR w_EVENT w_TABLE w_OCCURRENCE w_DESTRUCTOR (0 : Int32) h0 n0 Z0 S_FREE_NAME E_FREE_NAME S_FRESH_NAME E_FRESH_NAME S_ATTACKER_NAME E_ATTACKER_NAME S_CONSTANT E_CONSTANT S_CONSTRUCTOR E_CONSTRUCTOR S_DATA E_DATA S_CONVERTER E_CONVERTER S_TUPLE E_TUPLE S_DESTRUCTOR E_DESTRUCTOR S_EVENT E_EVENT S_TABLE E_TABLE S_OCCURRENCE E_OCCURRENCE (by simp [R1, d_DESTRUCTOR_FREE_NAME, d_DESTRUCTOR_FRESH_NAME, d_DESTRUCTOR_ATTACKER_NAME]) E_DESTRUCTOR (by rw [q] <;> decide) (by rw [q] <;> decide) (by rw [q] <;> decide) (by rw [q] <;> decide) (by rw [q] <;> rfl) rfl
  · exact rm0_fftf l Z a0 hw ws p1 w_FREE_NAME w_FRESH_NAME w_ATTACKER_NAME w_CONSTANT w_CONSTRUCTOR w_DATA w_CONVERTER w_TUPLE w_DESTRUCTOR w_EVENT w_TABLE w_OCCURRENCE w_EVENT (0 : Int32) h0 n0 Z0 S_FREE_NAME E_FREE_NAME S_FRESH_NAME E_FRESH_NAME S_ATTACKER_NAME E_ATTACKER_NAME S_CONSTANT E_CONSTANT S_CONSTRUCTOR E_CONSTRUCTOR S_DATA E_DATA S_CONVERTER E_CONVERTER S_TUPLE E_TUPLE S_DESTRUCTOR E_DESTRUCTOR S_EVENT E_EVENT S_TABLE E_TABLE S_OCCURRENCE E_OCCURRENCE (by simp [R1, d_EVENT_FREE_NAME, d_EVENT_FRESH_NAME, d_EVENT_ATTACKER_NAME]) E_EVENT (by rw [q] <;> decide) (by rw [q] <;> decide) (by rw [q] <;> decide) (by rw [q] <;> decide) (by rw [q] <;> rfl) rfl
  · exact rm0_fftf l Z a0 hw ws p1 w_FREE_NAME w_FRESH_NAME w_ATTACKER_NAME w_CONSTANT w_CONSTRUCTOR w_DATA w_CONVERTER w_TUPLE w_DESTRUCTOR w_EVENT w_TABLE w_OCCURRENCE w_TABLE (0 : Int32) h0 n0 Z0 S_FREE_NAME E_FREE_NAME S_FRESH_NAME E_FRESH_NAME S_ATTACKER_NAME E_ATTACKER_NAME S_CONSTANT E_CONSTANT S_CONSTRUCTOR E_CONSTRUCTOR S_DATA E_DATA S_CONVERTER E_CONVERTER S_TUPLE E_TUPLE S_DESTRUCTOR E_DESTRUCTOR S_EVENT E_EVENT S_TABLE E_TABLE S_OCCURRENCE E_OCCURRENCE (by simp [R1, d_TABLE_FREE_NAME, d_TABLE_FRESH_NAME, d_TABLE_ATTACKER_NAME]) E_TABLE (by rw [q] <;> decide) (by rw [q] <;> decide) (by rw [q] <;> decide) (by rw [q] <;> decide) (by rw [q] <;> rfl) rfl
  · exact rm0_fftf l Z a0 hw ws p1 w_FREE_NAME w_FRESH_NAME w_ATTACKER_NAME w_CONSTANT w_CONSTRUCTOR w_DATA w_CONVERTER w_TUPLE w_DESTRUCTOR w_EVENT w_TABLE w_OCCURRENCE w_OCCURRENCE (0 : Int32) h0 n0 Z0 S_FREE_NAME E_FREE_NAME S_FRESH_NAME E_FRESH_NAME S_ATTACKER_NAME E_ATTACKER_NAME S_CONSTANT E_CONSTANT S_CONSTRUCTOR E_CONSTRUCTOR S_DATA E_DATA S_CONVERTER E_CONVERTER S_TUPLE E_TUPLE S_DESTRUCTOR E_DESTRUCTOR S_EVENT E_EVENT S_TABLE E_TABLE S_OCCURRENCE E_OCCURRENCE (by simp [R1, d_OCCURRENCE_FREE_NAME, d_OCCURRENCE_FRESH_NAME, d_OCCURRENCE_ATTACKER_NAME]) E_OCCURRENCE (by rw [q] <;> decide) (by rw [q] <;> decide) (by rw [q] <;> decide) (by rw [q] <;> decide) (by rw [q] <;> rfl) rfl
set_option maxRecDepth 65536 in
set_option maxHeartbeats 40000000 in
theorem comes_1 {Post : Tables → Env → Array Value → State → Outcome → State → Prop} (hpost : ∀ tb e args s v u, (limb_1_1.after args s (.returned v) u = true ∧ limb_1_2.after args s (.returned v) u = true ∧ True) → FrameEnd s (.returned v) u (Jvm.fieldLocs frame_1_writes args s ++ Jvm.arrayLocs frame_1_arrays args s ++ Jvm.staticLocs frame_1_statics s) 16 128 → Post tb e args s (.returned v) u) :
    ArmFor flags0 classFile x code maxLocals ret World_1 tables_1 room_1 Calls_1 rest_1 Pre_1 Post := by
  intro l hfl _ _ p e ha hc hk s m args below hf hA hF happ hP
  obtain ⟨hcalls, hrest, hpre⟩ := hP
  obtain ⟨-, -, -, hnamed, -, -, -, hat⟩ := (Spec.applies_iff hf).mp happ
  obtain ⟨hg, hn⟩ := and_e (Cond.before_iff.mp (show (Jvm.Cond.and given_1 narrow_1).before args s = true from hpre))
  obtain ⟨g28, g29⟩ := and_e hg
  obtain ⟨w0, rfl⟩ : ∃ w0 : Value, args = #[w0] := by
    have hs : args.size = 1 := by simpa [Cond.value, given_1] using g28
    obtain ⟨L⟩ := args
    match L, hs with
    | [w0], _ => exact ⟨w0, rfl⟩
  have hw := fun d (hd : d ∈ tables_1) => atoms_spec (ws := Jvm.Cond.code x code maxLocals ret :: tables_1) hat d (List.mem_cons_of_mem _ hd)
  have hfit : Fit s := fun {y c} hc i hi => by
    obtain ⟨ha, rfl⟩ := Array.getElem?_eq_some_iff.mp hc
    have q := List.all_eq_true.mp ((Array.all_eq_true_iff_forall_mem.mp hF) _ (Array.getElem_mem ha)) i (List.mem_range.mpr hi)
    simpa [Array.getElem?_eq_getElem hi] using q
  obtain ⟨i0, ei0⟩ := is_v g29
  obtain rfl : w0 = (.int i0) := Option.some.inj ei0
  obtain ⟨nw0, hn⟩ := and_e hn
  obtain ⟨nw1, hn⟩ := and_e hn
  obtain ⟨nw2, hn⟩ := and_e hn
  obtain ⟨nw3, hn⟩ := and_e hn
  obtain ⟨nw4, hn⟩ := and_e hn
  obtain ⟨nw5, hn⟩ := and_e hn
  obtain ⟨nw6, hn⟩ := and_e hn
  obtain ⟨nw7, hn⟩ := and_e hn
  obtain ⟨nw8, hn⟩ := and_e hn
  obtain ⟨nw9, hn⟩ := and_e hn
  obtain ⟨nw10, hn⟩ := and_e hn
  obtain ⟨nw11, hn⟩ := and_e hn
  obtain ⟨nw12, hn⟩ := and_e hn
  obtain ⟨nw13, hn⟩ := and_e hn
  obtain ⟨nw14, hn⟩ := and_e hn
  obtain ⟨nw15, hn⟩ := and_e hn
  obtain ⟨nw16, hn⟩ := and_e hn
  obtain ⟨nw17, hn⟩ := and_e hn
  obtain ⟨nw18, hn⟩ := and_e hn
  obtain ⟨nw19, hn⟩ := and_e hn
  obtain ⟨nw20, hn⟩ := and_e hn
  obtain ⟨nw21, hn⟩ := and_e hn
  obtain ⟨nw22, hn⟩ := and_e hn
  have nw23 := hn
  obtain ⟨w_FREE_NAME, v_FREE_NAME⟩ := exa_v nw0
  have S_FREE_NAME := Sta.start v_FREE_NAME (Or.inr ⟨(hw _ (List.mem_of_getElem? (i := 3) rfl)), (hw _ (List.mem_of_getElem? (i := 4) rfl))⟩)
  have E_FREE_NAME := Exa.start v_FREE_NAME nw0
  obtain ⟨w_FRESH_NAME, v_FRESH_NAME⟩ := exa_v nw1
  have S_FRESH_NAME := Sta.start v_FRESH_NAME (Or.inr ⟨(hw _ (List.mem_of_getElem? (i := 3) rfl)), (hw _ (List.mem_of_getElem? (i := 7) rfl))⟩)
  have E_FRESH_NAME := Exa.start v_FRESH_NAME nw1
  obtain ⟨w_ATTACKER_NAME, v_ATTACKER_NAME⟩ := exa_v nw2
  have S_ATTACKER_NAME := Sta.start v_ATTACKER_NAME (Or.inr ⟨(hw _ (List.mem_of_getElem? (i := 3) rfl)), (hw _ (List.mem_of_getElem? (i := 9) rfl))⟩)
  have E_ATTACKER_NAME := Exa.start v_ATTACKER_NAME nw2
  obtain ⟨w_CONSTANT, v_CONSTANT⟩ := exa_v nw3
  have S_CONSTANT := Sta.start v_CONSTANT (Or.inr ⟨(hw _ (List.mem_of_getElem? (i := 3) rfl)), (hw _ (List.mem_of_getElem? (i := 11) rfl))⟩)
  have E_CONSTANT := Exa.start v_CONSTANT nw3
  obtain ⟨w_CONSTRUCTOR, v_CONSTRUCTOR⟩ := exa_v nw4
  have S_CONSTRUCTOR := Sta.start v_CONSTRUCTOR (Or.inr ⟨(hw _ (List.mem_of_getElem? (i := 3) rfl)), (hw _ (List.mem_of_getElem? (i := 13) rfl))⟩)
  have E_CONSTRUCTOR := Exa.start v_CONSTRUCTOR nw4
  obtain ⟨w_DATA, v_DATA⟩ := exa_v nw5
  have S_DATA := Sta.start v_DATA (Or.inr ⟨(hw _ (List.mem_of_getElem? (i := 3) rfl)), (hw _ (List.mem_of_getElem? (i := 15) rfl))⟩)
  have E_DATA := Exa.start v_DATA nw5
  obtain ⟨w_CONVERTER, v_CONVERTER⟩ := exa_v nw6
  have S_CONVERTER := Sta.start v_CONVERTER (Or.inr ⟨(hw _ (List.mem_of_getElem? (i := 3) rfl)), (hw _ (List.mem_of_getElem? (i := 17) rfl))⟩)
  have E_CONVERTER := Exa.start v_CONVERTER nw6
  obtain ⟨w_TUPLE, v_TUPLE⟩ := exa_v nw7
  have S_TUPLE := Sta.start v_TUPLE (Or.inr ⟨(hw _ (List.mem_of_getElem? (i := 3) rfl)), (hw _ (List.mem_of_getElem? (i := 19) rfl))⟩)
  have E_TUPLE := Exa.start v_TUPLE nw7
  obtain ⟨w_DESTRUCTOR, v_DESTRUCTOR⟩ := exa_v nw8
  have S_DESTRUCTOR := Sta.start v_DESTRUCTOR (Or.inr ⟨(hw _ (List.mem_of_getElem? (i := 3) rfl)), (hw _ (List.mem_of_getElem? (i := 21) rfl))⟩)
  have E_DESTRUCTOR := Exa.start v_DESTRUCTOR nw8
  obtain ⟨w_EVENT, v_EVENT⟩ := exa_v nw9
  have S_EVENT := Sta.start v_EVENT (Or.inr ⟨(hw _ (List.mem_of_getElem? (i := 3) rfl)), (hw _ (List.mem_of_getElem? (i := 23) rfl))⟩)
  have E_EVENT := Exa.start v_EVENT nw9
  obtain ⟨w_TABLE, v_TABLE⟩ := exa_v nw10
  have S_TABLE := Sta.start v_TABLE (Or.inr ⟨(hw _ (List.mem_of_getElem? (i := 3) rfl)), (hw _ (List.mem_of_getElem? (i := 25) rfl))⟩)
  have E_TABLE := Exa.start v_TABLE nw10
  obtain ⟨w_OCCURRENCE, v_OCCURRENCE⟩ := exa_v nw11
  have S_OCCURRENCE := Sta.start v_OCCURRENCE (Or.inr ⟨(hw _ (List.mem_of_getElem? (i := 3) rfl)), (hw _ (List.mem_of_getElem? (i := 27) rfl))⟩)
  have E_OCCURRENCE := Exa.start v_OCCURRENCE nw11
  have o_CONSTANT := own_int v_CONSTANT nw12
  have o_FREE_NAME := own_int v_FREE_NAME nw13
  have o_FRESH_NAME := own_int v_FRESH_NAME nw14
  have o_ATTACKER_NAME := own_int v_ATTACKER_NAME nw15
  have o_TUPLE := own_int v_TUPLE nw16
  have o_OCCURRENCE := own_int v_OCCURRENCE nw17
  have o_CONSTRUCTOR := own_int v_CONSTRUCTOR nw18
  have o_DESTRUCTOR := own_int v_DESTRUCTOR nw19
  have o_TABLE := own_int v_TABLE nw20
  have o_EVENT := own_int v_EVENT nw21
  have o_CONVERTER := own_int v_CONVERTER nw22
  have o_DATA := own_int v_DATA nw23
  obtain ⟨n, o, h1, h2, h3, _, L, rfl, ⟨rfl, N⟩, hq⟩ := rm0 l s _ hw tables_1 i0 w_ATTACKER_NAME w_CONSTANT w_CONSTRUCTOR w_CONVERTER w_DATA w_DESTRUCTOR w_EVENT w_FREE_NAME w_FRESH_NAME w_OCCURRENCE w_TABLE w_TUPLE s.heap s.heap.size (Nat.le_refl _) S_ATTACKER_NAME S_CONSTANT S_CONSTRUCTOR S_CONVERTER S_DATA S_DESTRUCTOR S_EVENT S_FREE_NAME S_FRESH_NAME S_OCCURRENCE S_TABLE S_TUPLE E_ATTACKER_NAME E_CONSTANT E_CONSTRUCTOR E_CONVERTER E_DATA E_DESTRUCTOR E_EVENT E_FREE_NAME E_FRESH_NAME E_OCCURRENCE E_TABLE E_TUPLE (own_ne o_FREE_NAME o_FRESH_NAME (by decide)) (own_ne o_FREE_NAME o_ATTACKER_NAME (by decide)) (own_ne o_FRESH_NAME o_FREE_NAME (by decide)) (own_ne o_FRESH_NAME o_ATTACKER_NAME (by decide)) (own_ne o_ATTACKER_NAME o_FREE_NAME (by decide)) (own_ne o_ATTACKER_NAME o_FRESH_NAME (by decide)) (own_ne o_CONSTANT o_FREE_NAME (by decide)) (own_ne o_CONSTANT o_FRESH_NAME (by decide)) (own_ne o_CONSTANT o_ATTACKER_NAME (by decide)) (own_ne o_CONSTRUCTOR o_FREE_NAME (by decide)) (own_ne o_CONSTRUCTOR o_FRESH_NAME (by decide)) (own_ne o_CONSTRUCTOR o_ATTACKER_NAME (by decide)) (own_ne o_DATA o_FREE_NAME (by decide)) (own_ne o_DATA o_FRESH_NAME (by decide)) (own_ne o_DATA o_ATTACKER_NAME (by decide)) (own_ne o_CONVERTER o_FREE_NAME (by decide)) (own_ne o_CONVERTER o_FRESH_NAME (by decide)) (own_ne o_CONVERTER o_ATTACKER_NAME (by decide)) (own_ne o_TUPLE o_FREE_NAME (by decide)) (own_ne o_TUPLE o_FRESH_NAME (by decide)) (own_ne o_TUPLE o_ATTACKER_NAME (by decide)) (own_ne o_DESTRUCTOR o_FREE_NAME (by decide)) (own_ne o_DESTRUCTOR o_FRESH_NAME (by decide)) (own_ne o_DESTRUCTOR o_ATTACKER_NAME (by decide)) (own_ne o_EVENT o_FREE_NAME (by decide)) (own_ne o_EVENT o_FRESH_NAME (by decide)) (own_ne o_EVENT o_ATTACKER_NAME (by decide)) (own_ne o_TABLE o_FREE_NAME (by decide)) (own_ne o_TABLE o_FRESH_NAME (by decide)) (own_ne o_TABLE o_ATTACKER_NAME (by decide)) (own_ne o_OCCURRENCE o_FREE_NAME (by decide)) (own_ne o_OCCURRENCE o_FRESH_NAME (by decide)) (own_ne o_OCCURRENCE o_ATTACKER_NAME (by decide)) p e ha hc hk s m _ below hf ((Spec.applies_iff_loose hf).mp happ).1 ⟨rfl, State.Warmed39.refl s, rfl⟩ trivial
  refine ⟨n, _, h1, h2, h3, hpost _ _ _ _ _ _ ⟨Cond.after_iff.mpr rfl, Cond.after_iff.mpr (eq_i res_at (Term.int_eval (1)) rfl), trivial⟩ ⟨hq.1, hq.2.1, (hq.2.2.sift fun y hy => Or.inr (N y hy)).mono (by decide) (by decide)⟩⟩
theorem main_1_1 : Claimed_1_1 := comes_1 fun _ _ _ _ _ _ h hF => ⟨h.1, hF⟩
theorem main_1_2 : Claimed_1_2 := comes_1 fun _ _ _ _ _ _ h hF => ⟨h.2.1, hF⟩
end Jvm.Pilot.@@N@@
namespace Jvm.Pilot.@@N@@
open Jvm Jvm.ClassFile Sem Op Lib Jvm.Free Jvm.Stand Jvm.Pilot.@@N@@.Jvm.D
/-! MADE BY PROGRAM (witnessworld.py) out of the Statement's table words and the real class files: 13 classes; the members and pool entries that the words name. The judged class is class 1, her method 1. -/
namespace start1
open Jvm.ClassFile
def u (s : String) : CpInfo := .utf8 (stringToUtf16 s)
/-- a pool by its gaps: so many unusable entries, then the entry; so many at the end -/
def gap : Nat → List CpInfo → List CpInfo
  | 0, r => r
  | n + 1, r => .unusable :: gap n r
def poolList (es : List (Nat × CpInfo)) (last : Nat) : List CpInfo := es.foldr (fun e r => gap e.1 (e.2 :: r)) (gap last [])
def pool (es : List (Nat × CpInfo)) (last : Nat) : Array CpInfo := ⟨poolList es last⟩
def fileOf (pool : Array CpInfo) (this : Nat) (attrs : Array Attribute := #[]) (ms : Array MethodInfo := #[]) (fl : Nat := 33) (sup : Nat := 0) (ifs : Array Nat := #[]) (fds : Array FieldInfo := #[]) : ClassFile where
  minorVersion := 0
  majorVersion := 65
  constantPool := pool
  accessFlags := fl
  thisClass := this
  superClass := sup
  interfaces := ifs
  fields := fds
  methods := ms
  attributes := attrs
def plain (name : String) (sup : Option ClassId) : Class where
  name := name
  kind := .ordinary
  loader := none
  accessFlags := 33
  super := sup
  interfaces := #[]
  cf := none
  fields := #[]
  methods := #[]
  instanceTypes := #[]
  staticTypes := #[]
  resolved := #[]
  callSites := []
  init := .initialized
  statics := none
  mirror := none

def pool0 : Array CpInfo := pool [(5, u "<init>"), (0, u "()V"), (1, .class_ 10), (1, u "java/lang/Object")] 113

def k0m0 : Method := { name := "<init>", desc := "()V", sig := { parameters := [], returnType := none }, accessFlags := 1, code := none }
/-- java/lang/Object -/
def k0 : Class := { plain "java/lang/Object" none with
  accessFlags := 33
  interfaces := #[]
  cf := some (fileOf pool0 8 #[] #[{ accessFlags := 1, nameIndex := 5, descriptorIndex := 6, attributes := #[] }] 33 0 #[] #[])
  fields := #[]
  methods := #[k0m0]
  instanceTypes := #[]
  staticTypes := #[]
  resolved := Array.replicate 124 none
  statics := none }

def pool1 : Array CpInfo := pool [(2, .class_ 4), (1, u "java/lang/Object"), (0, u "<init>"), (0, u "()V"), (0, .class_ 8), (0, u "com/example/applied_pi_checker/appliedpichecker/FunctionSymbol$Kind"), (0, .fieldref 7 10), (0, .nameAndType 11 12), (0, u "FREE_NAME"), (0, u "Lcom/example/applied_pi_checker/appliedpichecker/FunctionSymbol$Kind;"), (0, .fieldref 7 14), (0, .nameAndType 15 12), (0, u "FRESH_NAME"), (0, .fieldref 7 17), (0, .nameAndType 18 12), (0, u "ATTACKER_NAME"), (0, .fieldref 7 20), (0, .nameAndType 21 12), (0, u "CONSTANT"), (0, .fieldref 7 23), (0, .nameAndType 24 12), (0, u "CONSTRUCTOR"), (0, .fieldref 7 26), (0, .nameAndType 27 12), (0, u "DATA"), (0, .fieldref 7 29), (0, .nameAndType 30 12), (0, u "CONVERTER"), (0, .fieldref 7 32), (0, .nameAndType 33 12), (0, u "TUPLE"), (0, .fieldref 7 35), (0, .nameAndType 36 12), (0, u "DESTRUCTOR"), (0, .fieldref 7 38), (0, .nameAndType 39 12), (0, u "EVENT"), (0, .fieldref 7 41), (0, .nameAndType 42 12), (0, u "TABLE"), (0, .fieldref 7 44), (0, .nameAndType 45 12), (0, u "OCCURRENCE"), (0, .integer 2147483647), (0, .methodref 7 48), (0, .nameAndType 49 50), (0, u "isName"), (0, u "()Z"), (0, .class_ 52), (0, u "com/example/applied_pi_checker/appliedpichecker/KindIsNamePinLaw"), (2, u "law"), (0, u "(I)Z")] 9

def k1m0 : Method := { name := "<init>", desc := "()V", sig := { parameters := [], returnType := none }, accessFlags := 2, code := none }
def k1c1 : Code := { maxStack := 4, maxLocals := 4, code := code, exceptionTable := #[], attributes := #[] }
def k1m1 : Method := { name := "law", desc := "(I)Z", sig := { parameters := [.int], returnType := some .boolean }, accessFlags := 9, code := some k1c1 }
/-- com/example/applied_pi_checker/appliedpichecker/KindIsNamePinLaw -/
def k1 : Class := { plain "com/example/applied_pi_checker/appliedpichecker/KindIsNamePinLaw" (some 0) with
  accessFlags := 49
  interfaces := #[]
  cf := some (fileOf pool1 51 #[] #[{ accessFlags := 2, nameIndex := 5, descriptorIndex := 6, attributes := #[] }, { accessFlags := 9, nameIndex := 55, descriptorIndex := 56, attributes := #[] }] 49 2 #[] #[])
  fields := #[]
  methods := #[k1m0, k1m1]
  instanceTypes := #[]
  staticTypes := #[]
  resolved := Array.replicate 66 none
  statics := none }

def pool2 : Array CpInfo := pool [(1, .class_ 2), (0, u "java/lang/constant/Constable"), (0, .class_ 4), (0, u "java/lang/Object")] 6

/-- java/lang/constant/Constable -/
def k2 : Class := { plain "java/lang/constant/Constable" (some 0) with
  accessFlags := 1537
  interfaces := #[]
  cf := some (fileOf pool2 1 #[] #[] 1537 3 #[] #[])
  fields := #[]
  methods := #[]
  instanceTypes := #[]
  staticTypes := #[]
  resolved := Array.replicate 11 none
  statics := none }

def pool3 : Array CpInfo := pool [(1, .class_ 2), (0, u "java/lang/Comparable"), (0, .class_ 4), (0, u "java/lang/Object")] 7

/-- java/lang/Comparable -/
def k3 : Class := { plain "java/lang/Comparable" (some 0) with
  accessFlags := 1537
  interfaces := #[]
  cf := some (fileOf pool3 1 #[] #[] 1537 3 #[] #[])
  fields := #[]
  methods := #[]
  instanceTypes := #[]
  staticTypes := #[]
  resolved := Array.replicate 12 none
  statics := none }

def pool4 : Array CpInfo := pool [(1, .class_ 2), (0, u "java/io/Serializable"), (0, .class_ 4), (0, u "java/lang/Object")] 2

/-- java/io/Serializable -/
def k4 : Class := { plain "java/io/Serializable" (some 0) with
  accessFlags := 1537
  interfaces := #[]
  cf := some (fileOf pool4 1 #[] #[] 1537 3 #[] #[])
  fields := #[]
  methods := #[]
  instanceTypes := #[]
  staticTypes := #[]
  resolved := Array.replicate 7 none
  statics := none }

def pool5 : Array CpInfo := pool [(2, .class_ 4), (1, u "java/lang/Enum"), (0, u "name"), (0, u "Ljava/lang/String;"), (2, u "ordinal"), (0, u "I"), (1, .class_ 14), (1, u "java/lang/Object"), (4, u "hash"), (86, .class_ 108), (1, u "java/lang/Enum$EnumDesc"), (2, .class_ 112), (0, u "java/lang/constant/Constable"), (0, .class_ 114), (0, u "java/lang/Comparable"), (0, .class_ 116), (0, u "java/io/Serializable")] 87

/-- java/lang/Enum -/
def k5 : Class := { plain "java/lang/Enum" (some 0) with
  accessFlags := 1057
  interfaces := #[2, 3, 4]
  cf := some (fileOf pool5 2 #[.nestMembers #[106]] #[] 1057 12 #[111, 113, 115] #[{ accessFlags := 18, nameIndex := 5, descriptorIndex := 6, attributes := #[] }, { accessFlags := 18, nameIndex := 9, descriptorIndex := 10, attributes := #[] }, { accessFlags := 2, nameIndex := 19, descriptorIndex := 10, attributes := #[] }])
  fields := #[{ name := "name", type := (.object "java/lang/String"), accessFlags := 18, slot := 0, constantValue := 0 }, { name := "ordinal", type := .int, accessFlags := 18, slot := 1, constantValue := 0 }, { name := "hash", type := .int, accessFlags := 2, slot := 2, constantValue := 0 }]
  methods := #[]
  instanceTypes := #[(.object "java/lang/String"), .int, .int]
  staticTypes := #[]
  resolved := Array.replicate 204 none
  statics := none }

def pool6 : Array CpInfo := pool [(1, .class_ 2), (0, u "com/example/applied_pi_checker/appliedpichecker/FunctionSymbol$Kind"), (0, .fieldref 1 4), (0, .nameAndType 5 6), (0, u "FREE_NAME"), (0, u "Lcom/example/applied_pi_checker/appliedpichecker/FunctionSymbol$Kind;"), (0, .fieldref 1 8), (0, .nameAndType 9 6), (0, u "FRESH_NAME"), (0, .fieldref 1 11), (0, .nameAndType 12 6), (0, u "ATTACKER_NAME"), (2, u "CONSTANT"), (2, u "CONSTRUCTOR"), (2, u "DATA"), (2, u "CONVERTER"), (2, u "TUPLE"), (2, u "DESTRUCTOR"), (2, u "EVENT"), (2, u "TABLE"), (2, u "OCCURRENCE"), (2, u "$VALUES"), (0, u "[Lcom/example/applied_pi_checker/appliedpichecker/FunctionSymbol$Kind;"), (6, .class_ 52), (1, u "java/lang/Enum"), (30, u "isName"), (0, u "()Z"), (7, .class_ 93), (0, u "com/example/applied_pi_checker/appliedpichecker/FunctionSymbol")] 2

def k6c0 : Code := { maxStack := 2, maxLocals := 1, code := prog_68_method_4_code, exceptionTable := #[], attributes := #[] }
def k6m0 : Method := { name := "isName", desc := "()Z", sig := { parameters := [], returnType := some .boolean }, accessFlags := 1, code := some k6c0 }
/-- com/example/applied_pi_checker/appliedpichecker/FunctionSymbol$Kind -/
def k6 : Class := { plain "com/example/applied_pi_checker/appliedpichecker/FunctionSymbol$Kind" (some 5) with
  accessFlags := 16433
  interfaces := #[]
  cf := some (fileOf pool6 1 #[.nestHost 92] #[{ accessFlags := 1, nameIndex := 83, descriptorIndex := 84, attributes := #[] }] 16433 50 #[] #[{ accessFlags := 16409, nameIndex := 5, descriptorIndex := 6, attributes := #[] }, { accessFlags := 16409, nameIndex := 9, descriptorIndex := 6, attributes := #[] }, { accessFlags := 16409, nameIndex := 12, descriptorIndex := 6, attributes := #[] }, { accessFlags := 16409, nameIndex := 15, descriptorIndex := 6, attributes := #[] }, { accessFlags := 16409, nameIndex := 18, descriptorIndex := 6, attributes := #[] }, { accessFlags := 16409, nameIndex := 21, descriptorIndex := 6, attributes := #[] }, { accessFlags := 16409, nameIndex := 24, descriptorIndex := 6, attributes := #[] }, { accessFlags := 16409, nameIndex := 27, descriptorIndex := 6, attributes := #[] }, { accessFlags := 16409, nameIndex := 30, descriptorIndex := 6, attributes := #[] }, { accessFlags := 16409, nameIndex := 33, descriptorIndex := 6, attributes := #[] }, { accessFlags := 16409, nameIndex := 36, descriptorIndex := 6, attributes := #[] }, { accessFlags := 16409, nameIndex := 39, descriptorIndex := 6, attributes := #[] }, { accessFlags := 4122, nameIndex := 42, descriptorIndex := 43, attributes := #[] }])
  fields := #[{ name := "FREE_NAME", type := (.object "com/example/applied_pi_checker/appliedpichecker/FunctionSymbol$Kind"), accessFlags := 16409, slot := 0, constantValue := 0 }, { name := "FRESH_NAME", type := (.object "com/example/applied_pi_checker/appliedpichecker/FunctionSymbol$Kind"), accessFlags := 16409, slot := 1, constantValue := 0 }, { name := "ATTACKER_NAME", type := (.object "com/example/applied_pi_checker/appliedpichecker/FunctionSymbol$Kind"), accessFlags := 16409, slot := 2, constantValue := 0 }, { name := "CONSTANT", type := (.object "com/example/applied_pi_checker/appliedpichecker/FunctionSymbol$Kind"), accessFlags := 16409, slot := 3, constantValue := 0 }, { name := "CONSTRUCTOR", type := (.object "com/example/applied_pi_checker/appliedpichecker/FunctionSymbol$Kind"), accessFlags := 16409, slot := 4, constantValue := 0 }, { name := "DATA", type := (.object "com/example/applied_pi_checker/appliedpichecker/FunctionSymbol$Kind"), accessFlags := 16409, slot := 5, constantValue := 0 }, { name := "CONVERTER", type := (.object "com/example/applied_pi_checker/appliedpichecker/FunctionSymbol$Kind"), accessFlags := 16409, slot := 6, constantValue := 0 }, { name := "TUPLE", type := (.object "com/example/applied_pi_checker/appliedpichecker/FunctionSymbol$Kind"), accessFlags := 16409, slot := 7, constantValue := 0 }, { name := "DESTRUCTOR", type := (.object "com/example/applied_pi_checker/appliedpichecker/FunctionSymbol$Kind"), accessFlags := 16409, slot := 8, constantValue := 0 }, { name := "EVENT", type := (.object "com/example/applied_pi_checker/appliedpichecker/FunctionSymbol$Kind"), accessFlags := 16409, slot := 9, constantValue := 0 }, { name := "TABLE", type := (.object "com/example/applied_pi_checker/appliedpichecker/FunctionSymbol$Kind"), accessFlags := 16409, slot := 10, constantValue := 0 }, { name := "OCCURRENCE", type := (.object "com/example/applied_pi_checker/appliedpichecker/FunctionSymbol$Kind"), accessFlags := 16409, slot := 11, constantValue := 0 }, { name := "$VALUES", type := (.array (.object "com/example/applied_pi_checker/appliedpichecker/FunctionSymbol$Kind")), accessFlags := 4122, slot := 12, constantValue := 0 }]
  methods := #[k6m0]
  instanceTypes := #[(.object "java/lang/String"), .int, .int]
  staticTypes := #[(.object "com/example/applied_pi_checker/appliedpichecker/FunctionSymbol$Kind"), (.object "com/example/applied_pi_checker/appliedpichecker/FunctionSymbol$Kind"), (.object "com/example/applied_pi_checker/appliedpichecker/FunctionSymbol$Kind"), (.object "com/example/applied_pi_checker/appliedpichecker/FunctionSymbol$Kind"), (.object "com/example/applied_pi_checker/appliedpichecker/FunctionSymbol$Kind"), (.object "com/example/applied_pi_checker/appliedpichecker/FunctionSymbol$Kind"), (.object "com/example/applied_pi_checker/appliedpichecker/FunctionSymbol$Kind"), (.object "com/example/applied_pi_checker/appliedpichecker/FunctionSymbol$Kind"), (.object "com/example/applied_pi_checker/appliedpichecker/FunctionSymbol$Kind"), (.object "com/example/applied_pi_checker/appliedpichecker/FunctionSymbol$Kind"), (.object "com/example/applied_pi_checker/appliedpichecker/FunctionSymbol$Kind"), (.object "com/example/applied_pi_checker/appliedpichecker/FunctionSymbol$Kind"), (.array (.object "com/example/applied_pi_checker/appliedpichecker/FunctionSymbol$Kind"))]
  resolved := Array.replicate 96 none
  statics := some 0 }

def pool7 : Array CpInfo := pool [(1, u "java/lang/Cloneable"), (0, .class_ 1), (0, u "java/lang/Object"), (0, .class_ 3)] 3

/-- java/lang/Cloneable -/
def k7 : Class := { plain "java/lang/Cloneable" (some 0) with
  accessFlags := 1537
  interfaces := #[]
  cf := some (fileOf pool7 2 #[] #[] 1537 4 #[] #[])
  fields := #[]
  methods := #[]
  instanceTypes := #[]
  staticTypes := #[]
  resolved := Array.replicate 8 none
  statics := none }

/-- the primitive byte -/
def k8 : Class := { plain "byte" none with kind := .primitive 'B', accessFlags := 0x411 }
/-- [B -/
def k9 : Class := { plain "[B" (some 0) with kind := .array 8 .byte, interfaces := #[7, 4], accessFlags := 1041 }

/-- the primitive int -/
def k10 : Class := { plain "int" none with kind := .primitive 'I', accessFlags := 0x411 }
/-- [I -/
def k11 : Class := { plain "[I" (some 0) with kind := .array 10 .int, interfaces := #[7, 4], accessFlags := 1041 }

/-- [Lcom/example/applied_pi_checker/appliedpichecker/FunctionSymbol$Kind; -/
def k12 : Class := { plain "[Lcom/example/applied_pi_checker/appliedpichecker/FunctionSymbol$Kind;" (some 0) with kind := .array 6 (.object "com/example/applied_pi_checker/appliedpichecker/FunctionSymbol$Kind"), interfaces := #[7, 4], accessFlags := 1041 }

def heap : Heap := #[{ cls := 6, slots := #[.ref 8, .ref 9, .ref 1, .ref 2, .ref 3, .ref 5, .ref 4, .ref 12, .ref 6, .ref 7, .ref 11, .ref 10, .null], vm := .statics 6 },
  { cls := 6, slots := #[.null, .int 2, .int 0], vm := .none },
  { cls := 6, slots := #[.null, .int 3, .int 0], vm := .none },
  { cls := 6, slots := #[.null, .int 4, .int 0], vm := .none },
  { cls := 6, slots := #[.null, .int 6, .int 0], vm := .none },
  { cls := 6, slots := #[.null, .int 5, .int 0], vm := .none },
  { cls := 6, slots := #[.null, .int 8, .int 0], vm := .none },
  { cls := 6, slots := #[.null, .int 9, .int 0], vm := .none },
  { cls := 6, slots := #[.null, .int 0, .int 0], vm := .none },
  { cls := 6, slots := #[.null, .int 1, .int 0], vm := .none },
  { cls := 6, slots := #[.null, .int 11, .int 0], vm := .none },
  { cls := 6, slots := #[.null, .int 10, .int 0], vm := .none },
  { cls := 6, slots := #[.null, .int 7, .int 0], vm := .none }]
def classes : Array Class := #[k0, k1, k2, k3, k4, k5, k6, k7, k8, k9, k10, k11, k12]
def interned : List (Array UInt16 × Addr) := []
def slotsUsed : Nat := 49
def theMethod : MethodId := ⟨1, 1⟩
def args0 : Array Value := #[.int 5]
def aboutOver (below : List Frame) : State where
  vm := { classes := classes, interned := interned.toArray }
  heap := heap
  slotsUsed := slotsUsed
  threads := #[{ frames := .invoking theMethod args0 :: below }]
def below0 : List Frame := [.native { method := ⟨0, 0⟩, args := #[] }]
def about1 : State := aboutOver below0
def p0 : Program := .bare "" "" ""
def e0 : Env := launch0.env 0 0 0
theorem w_frames : about1.frames = Frame.invoking theMethod args0 :: below0 := rfl
set_option maxRecDepth 65536 in
theorem w_args : argsFit about1.vm theMethod args0 = true := by decide +kernel
set_option maxRecDepth 65536 in
theorem w_heap : heapFits about1 = true := by decide +kernel
set_option maxRecDepth 65536 in
theorem w_runnable : about1.curStatus? = some .runnable := by decide +kernel
set_option maxRecDepth 65536 in
theorem w_alone : about1.alone = true := by decide +kernel
set_option maxRecDepth 65536 in
theorem w_named : about1.methodNamed? x = some theMethod := by decide +kernel
set_option maxRecDepth 65536 in
theorem w_hears : about1.hears theMethod below0 = true := by decide +kernel
set_option maxRecDepth 65536 in
theorem w_ripe : about1.ripe theMethod args0 below0 = true := by decide +kernel
theorem w_running : about1.status = .running := rfl
set_option maxRecDepth 65536 in
theorem w_room : about1.hasRoom e0.platform room_1 = true :=
  launch0.hasRoom_least _ room_1 (by decide +kernel) (by decide +kernel) (by decide +kernel) (by decide +kernel) (by decide +kernel) (by decide +kernel)
theorem allAtoms_all (ts : List Jvm.Cond) (a : Array Jvm.Value) (st : Jvm.State) : (allAtoms ts).before a st = ts.all (fun c => c.before a st) := by
  induction ts with
  | nil => rfl
  | cons c t ih =>
    show (Jvm.Cond.and c (allAtoms t)).before a st = _
    rw [Jvm.Cond.before_and, ih, List.all_cons]
def words1 : List Jvm.Cond := Jvm.Cond.code x code maxLocals ret :: tables_1
/-- a 'code' word, met by the world's own term for the bytes: nothing is compared byte by byte -/
theorem code_word {y : MethodName} {bytes : ByteArray} {mx : Nat} {rt : Option FieldType} {a : Array Value} {s : State} {m : MethodId} {meth : Method} {c : Code} (h1 : s.methodNamed? y = some m) (h2 : s.vm.method? m = some meth) (h3 : meth.code = some c) (h4 : c.code = bytes)
    (h5 : (c.maxLocals == mx && c.exceptionTable.isEmpty && decide (c.maxStack ≤ mostOperands) && decide (meth.sig.returnType = rt) && !meth.locks && decide (parseMethodDescriptor y.desc = some meth.sig)) = true) : (Jvm.Cond.code y bytes mx rt).before a s = true := by
  simp only [Bool.and_eq_true, beq_iff_eq, Bool.not_eq_true', decide_eq_true_eq] at h5
  obtain ⟨⟨⟨⟨⟨g1, g2⟩, g3⟩, g4⟩, g5⟩, g6⟩ := h5
  simp [Cond.before, Cond.holds, Cond.value, h1, h2, h3, h4, g1, g2, g3, g4, g5, g6]
def isCode : Jvm.Cond → Bool
  | .code _ _ _ _ => true
  | _ => false
theorem all_split {L : List Jvm.Cond} {P : Jvm.Cond → Bool} (h1 : L.all (fun c => isCode c || P c) = true) (h2 : ∀ c ∈ L.filter isCode, P c = true) : L.all P = true := by
  refine List.all_eq_true.mpr fun c hc => ?_
  have h := List.all_eq_true.mp h1 c hc
  rcases Bool.eq_false_or_eq_true (isCode c) with hi | hi
  · exact h2 c (List.mem_filter.mpr ⟨hc, hi⟩)
  · simpa [hi] using h
set_option maxRecDepth 65536 in
theorem w_c0 : (Jvm.Cond.code x code maxLocals ret).before args0 about1 = true := code_word (m := ⟨1, 1⟩) (meth := k1m1) (c := k1c1) (by decide +kernel) rfl rfl rfl (by decide +kernel)
set_option maxRecDepth 65536 in
theorem w_c1 : (Jvm.Cond.code ({ cls := "com/example/applied_pi_checker/appliedpichecker/FunctionSymbol$Kind", name := "isName", desc := "()Z" } : Jvm.MethodName) prog_68_method_4_code (1 : Nat) (Option.some Jvm.ClassFile.FieldType.boolean)).before args0 about1 = true := code_word (m := ⟨6, 0⟩) (meth := k6m0) (c := k6c0) (by decide +kernel) rfl rfl rfl (by decide +kernel)
def codes1 : List Jvm.Cond := [Jvm.Cond.code x code maxLocals ret, Jvm.Cond.code ({ cls := "com/example/applied_pi_checker/appliedpichecker/FunctionSymbol$Kind", name := "isName", desc := "()Z" } : Jvm.MethodName) prog_68_method_4_code (1 : Nat) (Option.some Jvm.ClassFile.FieldType.boolean)]
set_option maxRecDepth 65536 in
theorem codes_eq : words1.filter isCode = codes1 := rfl
theorem w_codes : ∀ c ∈ words1.filter isCode, c.before args0 about1 = true := by
  rw [codes_eq]
  intro c hc
  simp only [codes1, List.mem_cons, List.not_mem_nil, or_false] at hc
  rcases hc with rfl | rfl
  · exact w_c0
  · exact w_c1
set_option maxRecDepth 65536 in
theorem w_t1 : (words1.take 24).all (fun c => isCode c || c.before args0 about1) = true := by decide +kernel
set_option maxRecDepth 65536 in
theorem w_t2 : (words1.drop 24).all (fun c => isCode c || c.before args0 about1) = true := by decide +kernel
theorem w_tables : (allAtoms (Jvm.Cond.code x code maxLocals ret :: tables_1)).before args0 about1 = true := by
  rw [allAtoms_all]
  show words1.all (fun c => c.before args0 about1) = true
  refine all_split ?_ w_codes
  rw [← List.take_append_drop 24 words1, List.all_append, w_t1, w_t2]
  rfl
set_option maxRecDepth 65536 in
theorem w_case : (Jvm.Cond.and given_1 narrow_1).before args0 about1 = true := by decide +kernel
theorem w_applies : (headSpec (Jvm.Cond.code x code maxLocals ret :: tables_1) room_1).applies x e0.platform about1 = true :=
  (Spec.applies_iff w_frames).mpr ⟨w_running, w_runnable, w_alone, w_named, w_hears, w_ripe, w_room, w_tables⟩
theorem atStart : AtStart classFile x code maxLocals ret World_1 tables_1 room_1 Calls_1 rest_1 Pre_1 launch0 p0 e0 about1 theMethod args0 below0 :=
  ⟨lists_1, trivial, launch0.admits_env _ _ _, launch0.least_env, fairChoices_fair.cas, fairChoices_fair.clock, w_frames, w_args, w_heap, w_applies, trivial, trivial, w_case⟩
end start1
theorem witness_1 : WitnessClaimed_1 := ⟨start1.p0, start1.e0, start1.about1, start1.theMethod, start1.args0, start1.below0, start1.atStart⟩
end Jvm.Pilot.@@N@@
