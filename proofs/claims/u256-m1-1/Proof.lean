import JvmDerived
import JvmDerived.Pilot.@@N@@Statement
import JvmDerived.Pilot.@@N@@Code
set_option linter.unusedVariables false
set_option linter.unusedSimpArgs false
namespace Jvm.RoadKit
open Sem ClassFile Op Lib Jvm.Stand Jvm.Free Jvm.LawKit
section New
variable {p : Program} {l : Launch} {e : Env} {R : Room} {s : State} {m : MethodId} {args : Array Value} {below : List Frame} {meth : Method} {c : Code} {T : State} {locs : List Loc} {cells slots : Nat}
theorem retI (X : Stand p l e R s m args below meth c T locs cells slots) (hx : p.tables.exec = Jvm.exec) {pc : Nat} {Ls : Array Slot} {z : Int32} {rest : List Value} (hret : meth.sig.returnType = some .int) (hd : decode c.code pc = .ok (.ireturn, 1)) {fs : List Frame}
    (hl : ∀ (f : JFrame) (acts : List Action), f.method = m → f.locked = none → f.entered = [] → (doReturn e (T.setTop f) acts (some (.int z))).1 = T.setFrames fs) : Steps p.tables e below (T.setTop (mkF m pc Ls (.int z :: rest))) (T.setFrames fs) := by
  have hm' : T.vm.method? m = some meth := X.method'
  have hn : narrow .int (.int z) = .int z := rfl
  show Steps p.tables e below (T.setTop { method := m, pc := pc, locals := Ls, stack := _ :: rest, locked := none }) _
  jvm_step X.here [X.here.top, hx, hd, hm', hret, hn]
  first | (intro acts; rw [hl _ acts rfl rfl rfl]) | rw [hl _ _ rfl rfl rfl]
  exact Steps.refl _
end New
end Jvm.RoadKit
namespace Jvm.Pilot.@@N@@
open Jvm Jvm.ClassFile Sem Op Lib Jvm.Free Jvm.Stand Jvm.LawKit Jvm.RoadKit Bundle Jvm.Pilot.@@N@@.Jvm.D
def Q0 (n0 : Nat) (v : Option Value) (h : Heap) (L : List Loc) : Prop := v = some (.int (1 : Int32)) ∧ Fr n0 L
def Qv (r : Value) (h0 : Heap) (n0 : Nat) (v : Option Value) (h : Heap) (L : List Loc) : Prop := v = some r ∧ Fr n0 L ∧ h = h0
theorem own_int {args : Array Value} {s : State} {t : Term} {C n d : String} {k : Int32} {a : Addr} (ht : t.eval args s none [] s = some (.ref a)) (h : (Jvm.Cond.eq (.field t C n d) (.int k)).value args s none s [] = some true) : s.fieldOf? a C n d = some (.int k) := by
  cases hf : s.fieldOf? a C n d with
  | none => simp [Jvm.Cond.value, Term.eval, ht, hf] at h
  | some w => cases w <;> simp_all [Jvm.Cond.value, Term.eval]
theorem own_val {args : Array Value} {s : State} {t u : Term} {C n d : String} {v : Value} {a : Addr} (ht : t.eval args s none [] s = some (.ref a)) (hu : u.eval args s none [] s = some v) (hv : v.isRef = true) (h : (Jvm.Cond.eq (.field t C n d) u).value args s none s [] = some true) : s.fieldOf? a C n d = some v := by
  cases hf : s.fieldOf? a C n d with
  | none => simp [Jvm.Cond.value, Term.eval, ht, hf] at h
  | some w => rcases ref_cases hv with rfl | ⟨b, rfl⟩ <;> cases w <;> simp_all [Jvm.Cond.value, Term.eval]
theorem own_ne {s : State} {C n d : String} {a b : Addr} {i j : Int32} (ha : s.fieldOf? a C n d = some (.int i)) (hb : s.fieldOf? b C n d = some (.int j)) (h : i ≠ j) : ¬ a = b := fun q => by
  subst q; rw [ha] at hb; exact h (Value.int.inj (Option.some.inj hb))
theorem d1_0 : decode prog_10_method_2_code 0 = .ok (.aload_n 0, 1) := by decide +kernel
theorem d1_1 : decode prog_10_method_2_code 1 = .ok (.arraylength, 1) := by decide +kernel
theorem d1_2 : decode prog_10_method_2_code 2 = .ok (.getstatic 65, 3) := by decide +kernel
theorem d1_5 : decode prog_10_method_2_code 5 = .ok (.arraylength, 1) := by decide +kernel
theorem d1_6 : decode prog_10_method_2_code 6 = .ok (.if_icmp .lt 29, 3) := by decide +kernel
theorem d1_35 : decode prog_10_method_2_code 35 = .ok (.iconst 0, 1) := by decide +kernel
theorem d1_36 : decode prog_10_method_2_code 36 = .ok (.ireturn, 1) := by decide +kernel
theorem pn_1 : plainName "com/example/inward_firewall/inwardfirewall/BinaryXml" = true := by first | (simp [plainName, overriddenIn]; done) | decide +kernel
theorem ef_1 (m : MethodId) (x0 : Addr) : entryFrame m #[(.ref x0)] 1 = mkF m 0 #[.val (.ref x0)] [] := by first | (simp [entryFrame, mkF, argsToLocals, Value.category]; done) | rfl
theorem d1_9 : decode prog_10_method_2_code 9 = .ok (.aload_n 0, 1) := by decide +kernel
theorem d1_10 : decode prog_10_method_2_code 10 = .ok (.iconst 0, 1) := by decide +kernel
theorem d1_11 : decode prog_10_method_2_code 11 = .ok (.baload, 1) := by decide +kernel
theorem d1_12 : decode prog_10_method_2_code 12 = .ok (.getstatic 65, 3) := by decide +kernel
theorem d1_15 : decode prog_10_method_2_code 15 = .ok (.iconst 0, 1) := by decide +kernel
theorem d1_16 : decode prog_10_method_2_code 16 = .ok (.baload, 1) := by decide +kernel
theorem d1_17 : decode prog_10_method_2_code 17 = .ok (.if_icmp .ne 18, 3) := by decide +kernel
theorem d1_20 : decode prog_10_method_2_code 20 = .ok (.aload_n 0, 1) := by decide +kernel
theorem d1_21 : decode prog_10_method_2_code 21 = .ok (.iconst 1, 1) := by decide +kernel
theorem d1_22 : decode prog_10_method_2_code 22 = .ok (.baload, 1) := by decide +kernel
theorem d1_23 : decode prog_10_method_2_code 23 = .ok (.getstatic 65, 3) := by decide +kernel
theorem d1_26 : decode prog_10_method_2_code 26 = .ok (.iconst 1, 1) := by decide +kernel
theorem d1_27 : decode prog_10_method_2_code 27 = .ok (.baload, 1) := by decide +kernel
theorem d1_28 : decode prog_10_method_2_code 28 = .ok (.if_icmp .ne 7, 3) := by decide +kernel
theorem d1_31 : decode prog_10_method_2_code 31 = .ok (.iconst 1, 1) := by decide +kernel
theorem d1_32 : decode prog_10_method_2_code 32 = .ok (.goto 4, 3) := by decide +kernel
set_option maxRecDepth 65536 in
set_option maxHeartbeats 40000000 in
theorem rm1_t (l : Launch) (Z : State) (a0 : Array Value) (hw : ∀ d ∈ tables_1, d.before a0 Z = true) (ws : List Jvm.Cond) (a1 : Addr) (cl_a1 : Cell) (z_a1 : Int32) (w_MAGIC : Addr) (cl_w_MAGIC : Cell) (z_w_MAGIC : Int32) (h0 : Heap) (n0 : Nat) (Z0 : n0 ≤ h0.size) (Ar_a1 : Arr Z h0 a1 cl_a1 .byte) (S_a1 : cl_a1.slots.size = z_a1.toNatClampNeg) (N_a1 : ¬ z_a1 < 0) (S_MAGIC : Sta Z h0 "com/example/inward_firewall/inwardfirewall/BinaryXml" "MAGIC" "[B" (.ref w_MAGIC)) (Ar_w_MAGIC : Arr Z h0 w_MAGIC cl_w_MAGIC .byte) (S_w_MAGIC : cl_w_MAGIC.slots.size = z_w_MAGIC.toNatClampNeg) (N_w_MAGIC : ¬ z_w_MAGIC < 0) (hc6 : z_a1 < z_w_MAGIC) :
    MetFree l (⟨"com/example/inward_firewall/inwardfirewall/BinaryXml", "isBinaryXml", "([B)Z"⟩ : MethodName) (head1 (Jvm.Cond.code (⟨"com/example/inward_firewall/inwardfirewall/BinaryXml", "isBinaryXml", "([B)Z"⟩ : MethodName) prog_10_method_2_code 1 (some .boolean) :: ws) ({ frames := 0, cells := 0, slots := 0, locals := 0 } : Room)) (fun a U => a = #[(.ref a1)] ∧ Z.Warmed39 U.vm ∧ U.heap = h0) (fun _ _ _ _ _ => True) (fun _ U o U' => ∃ v L, o = .returned v ∧ Qv (.int (0 : Int32)) h0 n0 v U'.heap L ∧ FrameEnd U o U' L ({ frames := 0, cells := 0, slots := 0, locals := 0 } : Room).cells ({ frames := 0, cells := 0, slots := 0, locals := 0 } : Room).slots) := by
  refine MetFree.of_bodySF (plainFor_of_name pn_1) hisR ?_
  intro p e s m args below meth c s₁ Bd hml0 hP hK
  obtain ⟨rfl, hZ, hh⟩ := hP
  have hx := Bd.exec
  have hby := Bd.bytes
  have hml : c.maxLocals = 1 := hml0
  have hown : s.vm.findClass "com/example/inward_firewall/inwardfirewall/BinaryXml" = some m.cls := findClass_of_methodNamed Bd.named
  have hnm := (name_of_methodNamed Bd.named Bd.method).1
  have X0 : Stand p l e ({ frames := 0, cells := 0, slots := 0, locals := 0 } : Room) s m #[(.ref a1)] below meth c s₁ [] 0 0 := Stand.of_body Bd
  have e0 : s₁.heap = h0 := by rw [← hh, Bd.state]; rfl
  have N0 := Fr.nil n0
  have pre0 : ∀ t, Steps p.tables e below (s₁.setTop (mkF m 0 #[.val (.ref a1)] [])) t → Steps p.tables e below (s₁.setTop (entryFrame m #[(.ref a1)] 1)) t := fun t k => castTop (ef_1 m a1) k
  -- 3. LAWS
  obtain ⟨T2, X2, e2, st2⟩ := getS2 X0 hx hZ hown (host := "") (Or.inl (hw _ (List.mem_of_getElem? (i := 5) rfl))) Via.refl e0 S_MAGIC (g := (mkF m 2 #[.val (.ref a1)] [(.int z_a1)])) rfl (hb hby d1_2)
  obtain ⟨fs, hr, hrun, hended, hW, hsame⟩ := X2.leave (v := some (.int (0 : Int32))) (fun h => by rw [Bd.returns] at h; cases h)
  refine ⟨_, _, pre0 _ ?_, hrun, hended, _, _, rfl, ?_, ⟨_, rfl⟩, hW, hsame.mono (by decide) (by decide)⟩
  -- 4. STEPS
  · show Steps p.tables e below (s₁.setTop (mkF m 0 #[.val (.ref a1)] [])) _
    refine XS.aloadN X0.here hx rfl (hb hby d1_0) rfl rfl ?_
    show Steps p.tables e below (s₁.setTop (mkF m 1 #[.val (.ref a1)] [(.ref a1)])) _
    refine X0.arraylength hx (by rw [e0]; exact Ar_a1.1) (State.isArrayOf_alike hZ.alike Ar_a1.2.1) (g := (mkF m 1 #[.val (.ref a1)] [(.ref a1)])) rfl rfl (hb hby d1_1) _ ?_
    rw [len_of S_a1 N_a1]
    show Steps p.tables e below (s₁.setTop (mkF m 2 #[.val (.ref a1)] [(.int z_a1)])) _
    refine st2 _ ?_
    show Steps p.tables e below (T2.setTop (mkF m 5 #[.val (.ref a1)] [(.ref w_MAGIC), (.int z_a1)])) _
    refine X2.arraylength hx (by rw [e2]; exact Ar_w_MAGIC.1) (State.isArrayOf_alike hZ.alike Ar_w_MAGIC.2.1) (g := (mkF m 5 #[.val (.ref a1)] [(.ref w_MAGIC), (.int z_a1)])) rfl rfl (hb hby d1_5) _ ?_
    rw [len_of S_w_MAGIC N_w_MAGIC]
    show Steps p.tables e below (T2.setTop (mkF m 6 #[.val (.ref a1)] [(.int z_w_MAGIC), (.int z_a1)])) _
    refine XS.icmpYes X2.here hx rfl (pc0 := 6) (pc' := 35) rfl (hb hby d1_6) rfl (tlt hc6).1 (by decide) (by decide) ?_
    show Steps p.tables e below (T2.setTop (mkF m 35 #[.val (.ref a1)] [])) _
    refine XS.iconst X2.here hx rfl (hb hby d1_35) ?_
    show Steps p.tables e below (T2.setTop (mkF m 36 #[.val (.ref a1)] [(.int (0 : Int32))])) _
    exact retN X2 hx (t := .boolean) Bd.returns (by simp) (hb hby d1_36) hr
  · show Qv (.int (0 : Int32)) h0 n0 _ T2.heap _
    rw [e2]
    exact ⟨rfl, N0, rfl⟩
set_option maxRecDepth 65536 in
set_option maxHeartbeats 40000000 in
theorem rm1_ft (l : Launch) (Z : State) (a0 : Array Value) (hw : ∀ d ∈ tables_1, d.before a0 Z = true) (ws : List Jvm.Cond) (a1 : Addr) (cl_a1 : Cell) (z_a1 : Int32) (w_MAGIC : Addr) (cl_w_MAGIC : Cell) (z_w_MAGIC : Int32) (w3 : Int32) (w5 : Int32) (h0 : Heap) (n0 : Nat) (Z0 : n0 ≤ h0.size) (Ar_a1 : Arr Z h0 a1 cl_a1 .byte) (S_a1 : cl_a1.slots.size = z_a1.toNatClampNeg) (N_a1 : ¬ z_a1 < 0) (S_MAGIC : Sta Z h0 "com/example/inward_firewall/inwardfirewall/BinaryXml" "MAGIC" "[B" (.ref w_MAGIC)) (Ar_w_MAGIC : Arr Z h0 w_MAGIC cl_w_MAGIC .byte) (S_w_MAGIC : cl_w_MAGIC.slots.size = z_w_MAGIC.toNatClampNeg) (N_w_MAGIC : ¬ z_w_MAGIC < 0) (hin11 : ¬ ((0 : Int32) < 0 ∨ cl_a1.slots.size ≤ ((0 : Int32)).toNatClampNeg)) (hat11 : cl_a1.slots[((0 : Int32)).toNatClampNeg]? = some (.int w3)) (hin16 : ¬ ((0 : Int32) < 0 ∨ cl_w_MAGIC.slots.size ≤ ((0 : Int32)).toNatClampNeg)) (hat16 : cl_w_MAGIC.slots[((0 : Int32)).toNatClampNeg]? = some (.int w5)) (hc6 : ¬ (z_a1 < z_w_MAGIC)) (hc17 : ¬ (w3 = w5)) :
    MetFree l (⟨"com/example/inward_firewall/inwardfirewall/BinaryXml", "isBinaryXml", "([B)Z"⟩ : MethodName) (head1 (Jvm.Cond.code (⟨"com/example/inward_firewall/inwardfirewall/BinaryXml", "isBinaryXml", "([B)Z"⟩ : MethodName) prog_10_method_2_code 1 (some .boolean) :: ws) ({ frames := 0, cells := 0, slots := 0, locals := 0 } : Room)) (fun a U => a = #[(.ref a1)] ∧ Z.Warmed39 U.vm ∧ U.heap = h0) (fun _ _ _ _ _ => True) (fun _ U o U' => ∃ v L, o = .returned v ∧ Qv (.int (0 : Int32)) h0 n0 v U'.heap L ∧ FrameEnd U o U' L ({ frames := 0, cells := 0, slots := 0, locals := 0 } : Room).cells ({ frames := 0, cells := 0, slots := 0, locals := 0 } : Room).slots) := by
  refine MetFree.of_bodySF (plainFor_of_name pn_1) hisR ?_
  intro p e s m args below meth c s₁ Bd hml0 hP hK
  obtain ⟨rfl, hZ, hh⟩ := hP
  have hx := Bd.exec
  have hby := Bd.bytes
  have hml : c.maxLocals = 1 := hml0
  have hown : s.vm.findClass "com/example/inward_firewall/inwardfirewall/BinaryXml" = some m.cls := findClass_of_methodNamed Bd.named
  have hnm := (name_of_methodNamed Bd.named Bd.method).1
  have X0 : Stand p l e ({ frames := 0, cells := 0, slots := 0, locals := 0 } : Room) s m #[(.ref a1)] below meth c s₁ [] 0 0 := Stand.of_body Bd
  have e0 : s₁.heap = h0 := by rw [← hh, Bd.state]; rfl
  have N0 := Fr.nil n0
  have pre0 : ∀ t, Steps p.tables e below (s₁.setTop (mkF m 0 #[.val (.ref a1)] [])) t → Steps p.tables e below (s₁.setTop (entryFrame m #[(.ref a1)] 1)) t := fun t k => castTop (ef_1 m a1) k
  -- 3. LAWS
  obtain ⟨T2, X2, e2, st2⟩ := getS2 X0 hx hZ hown (host := "") (Or.inl (hw _ (List.mem_of_getElem? (i := 5) rfl))) Via.refl e0 S_MAGIC (g := (mkF m 2 #[.val (.ref a1)] [(.int z_a1)])) rfl (hb hby d1_2)
  obtain ⟨T4, X4, e4, st4⟩ := getS2 X2 hx hZ hown (host := "") (Or.inl (hw _ (List.mem_of_getElem? (i := 5) rfl))) Via.refl e2 S_MAGIC (g := (mkF m 12 #[.val (.ref a1)] [(.int w3)])) rfl (hb hby d1_12)
  obtain ⟨fs, hr, hrun, hended, hW, hsame⟩ := X4.leave (v := some (.int (0 : Int32))) (fun h => by rw [Bd.returns] at h; cases h)
  refine ⟨_, _, pre0 _ ?_, hrun, hended, _, _, rfl, ?_, ⟨_, rfl⟩, hW, hsame.mono (by decide) (by decide)⟩
  -- 4. STEPS
  · show Steps p.tables e below (s₁.setTop (mkF m 0 #[.val (.ref a1)] [])) _
    refine XS.aloadN X0.here hx rfl (hb hby d1_0) rfl rfl ?_
    show Steps p.tables e below (s₁.setTop (mkF m 1 #[.val (.ref a1)] [(.ref a1)])) _
    refine X0.arraylength hx (by rw [e0]; exact Ar_a1.1) (State.isArrayOf_alike hZ.alike Ar_a1.2.1) (g := (mkF m 1 #[.val (.ref a1)] [(.ref a1)])) rfl rfl (hb hby d1_1) _ ?_
    rw [len_of S_a1 N_a1]
    show Steps p.tables e below (s₁.setTop (mkF m 2 #[.val (.ref a1)] [(.int z_a1)])) _
    refine st2 _ ?_
    show Steps p.tables e below (T2.setTop (mkF m 5 #[.val (.ref a1)] [(.ref w_MAGIC), (.int z_a1)])) _
    refine X2.arraylength hx (by rw [e2]; exact Ar_w_MAGIC.1) (State.isArrayOf_alike hZ.alike Ar_w_MAGIC.2.1) (g := (mkF m 5 #[.val (.ref a1)] [(.ref w_MAGIC), (.int z_a1)])) rfl rfl (hb hby d1_5) _ ?_
    rw [len_of S_w_MAGIC N_w_MAGIC]
    show Steps p.tables e below (T2.setTop (mkF m 6 #[.val (.ref a1)] [(.int z_w_MAGIC), (.int z_a1)])) _
    refine XS.icmpNo X2.here hx rfl (hb hby d1_6) rfl (flt hc6).1 ?_
    show Steps p.tables e below (T2.setTop (mkF m 9 #[.val (.ref a1)] [])) _
    refine XS.aloadN X2.here hx rfl (hb hby d1_9) rfl rfl ?_
    show Steps p.tables e below (T2.setTop (mkF m 10 #[.val (.ref a1)] [(.ref a1)])) _
    refine XS.iconst X2.here hx rfl (hb hby d1_10) ?_
    show Steps p.tables e below (T2.setTop (mkF m 11 #[.val (.ref a1)] [(.int (0 : Int32)), (.ref a1)])) _
    refine X2.baloadBytes hx (j := (0 : Int32)) (v := (.int w3)) (by rw [e2]; exact Ar_a1.1) (State.isArrayOf_alike hZ.alike Ar_a1.2.1) Ar_a1.2.2 hin11 hat11 (g := (mkF m 11 #[.val (.ref a1)] [(.int (0 : Int32)), (.ref a1)])) rfl rfl (hb hby d1_11) _ ?_
    show Steps p.tables e below (T2.setTop (mkF m 12 #[.val (.ref a1)] [(.int w3)])) _
    refine st4 _ ?_
    show Steps p.tables e below (T4.setTop (mkF m 15 #[.val (.ref a1)] [(.ref w_MAGIC), (.int w3)])) _
    refine XS.iconst X4.here hx rfl (hb hby d1_15) ?_
    show Steps p.tables e below (T4.setTop (mkF m 16 #[.val (.ref a1)] [(.int (0 : Int32)), (.ref w_MAGIC), (.int w3)])) _
    refine X4.baloadBytes hx (j := (0 : Int32)) (v := (.int w5)) (by rw [e4]; exact Ar_w_MAGIC.1) (State.isArrayOf_alike hZ.alike Ar_w_MAGIC.2.1) Ar_w_MAGIC.2.2 hin16 hat16 (g := (mkF m 16 #[.val (.ref a1)] [(.int (0 : Int32)), (.ref w_MAGIC), (.int w3)])) rfl rfl (hb hby d1_16) _ ?_
    show Steps p.tables e below (T4.setTop (mkF m 17 #[.val (.ref a1)] [(.int w5), (.int w3)])) _
    refine XS.icmpYes X4.here hx rfl (pc0 := 17) (pc' := 35) rfl (hb hby d1_17) rfl (feq hc17).2 (by decide) (by decide) ?_
    show Steps p.tables e below (T4.setTop (mkF m 35 #[.val (.ref a1)] [])) _
    refine XS.iconst X4.here hx rfl (hb hby d1_35) ?_
    show Steps p.tables e below (T4.setTop (mkF m 36 #[.val (.ref a1)] [(.int (0 : Int32))])) _
    exact retN X4 hx (t := .boolean) Bd.returns (by simp) (hb hby d1_36) hr
  · show Qv (.int (0 : Int32)) h0 n0 _ T4.heap _
    rw [e4]
    exact ⟨rfl, N0, rfl⟩
set_option maxRecDepth 65536 in
set_option maxHeartbeats 40000000 in
theorem rm1_fft (l : Launch) (Z : State) (a0 : Array Value) (hw : ∀ d ∈ tables_1, d.before a0 Z = true) (ws : List Jvm.Cond) (a1 : Addr) (cl_a1 : Cell) (z_a1 : Int32) (w_MAGIC : Addr) (cl_w_MAGIC : Cell) (z_w_MAGIC : Int32) (w3 : Int32) (w5 : Int32) (w6 : Int32) (w8 : Int32) (h0 : Heap) (n0 : Nat) (Z0 : n0 ≤ h0.size) (Ar_a1 : Arr Z h0 a1 cl_a1 .byte) (S_a1 : cl_a1.slots.size = z_a1.toNatClampNeg) (N_a1 : ¬ z_a1 < 0) (S_MAGIC : Sta Z h0 "com/example/inward_firewall/inwardfirewall/BinaryXml" "MAGIC" "[B" (.ref w_MAGIC)) (Ar_w_MAGIC : Arr Z h0 w_MAGIC cl_w_MAGIC .byte) (S_w_MAGIC : cl_w_MAGIC.slots.size = z_w_MAGIC.toNatClampNeg) (N_w_MAGIC : ¬ z_w_MAGIC < 0) (hin11 : ¬ ((0 : Int32) < 0 ∨ cl_a1.slots.size ≤ ((0 : Int32)).toNatClampNeg)) (hat11 : cl_a1.slots[((0 : Int32)).toNatClampNeg]? = some (.int w3)) (hin16 : ¬ ((0 : Int32) < 0 ∨ cl_w_MAGIC.slots.size ≤ ((0 : Int32)).toNatClampNeg)) (hat16 : cl_w_MAGIC.slots[((0 : Int32)).toNatClampNeg]? = some (.int w5)) (hin22 : ¬ ((1 : Int32) < 0 ∨ cl_a1.slots.size ≤ ((1 : Int32)).toNatClampNeg)) (hat22 : cl_a1.slots[((1 : Int32)).toNatClampNeg]? = some (.int w6)) (hin27 : ¬ ((1 : Int32) < 0 ∨ cl_w_MAGIC.slots.size ≤ ((1 : Int32)).toNatClampNeg)) (hat27 : cl_w_MAGIC.slots[((1 : Int32)).toNatClampNeg]? = some (.int w8)) (hc6 : ¬ (z_a1 < z_w_MAGIC)) (hc17 : w3 = w5) (hc28 : ¬ (w6 = w8)) :
    MetFree l (⟨"com/example/inward_firewall/inwardfirewall/BinaryXml", "isBinaryXml", "([B)Z"⟩ : MethodName) (head1 (Jvm.Cond.code (⟨"com/example/inward_firewall/inwardfirewall/BinaryXml", "isBinaryXml", "([B)Z"⟩ : MethodName) prog_10_method_2_code 1 (some .boolean) :: ws) ({ frames := 0, cells := 0, slots := 0, locals := 0 } : Room)) (fun a U => a = #[(.ref a1)] ∧ Z.Warmed39 U.vm ∧ U.heap = h0) (fun _ _ _ _ _ => True) (fun _ U o U' => ∃ v L, o = .returned v ∧ Qv (.int (0 : Int32)) h0 n0 v U'.heap L ∧ FrameEnd U o U' L ({ frames := 0, cells := 0, slots := 0, locals := 0 } : Room).cells ({ frames := 0, cells := 0, slots := 0, locals := 0 } : Room).slots) := by
  refine MetFree.of_bodySF (plainFor_of_name pn_1) hisR ?_
  intro p e s m args below meth c s₁ Bd hml0 hP hK
  obtain ⟨rfl, hZ, hh⟩ := hP
  have hx := Bd.exec
  have hby := Bd.bytes
  have hml : c.maxLocals = 1 := hml0
  have hown : s.vm.findClass "com/example/inward_firewall/inwardfirewall/BinaryXml" = some m.cls := findClass_of_methodNamed Bd.named
  have hnm := (name_of_methodNamed Bd.named Bd.method).1
  have X0 : Stand p l e ({ frames := 0, cells := 0, slots := 0, locals := 0 } : Room) s m #[(.ref a1)] below meth c s₁ [] 0 0 := Stand.of_body Bd
  have e0 : s₁.heap = h0 := by rw [← hh, Bd.state]; rfl
  have N0 := Fr.nil n0
  have pre0 : ∀ t, Steps p.tables e below (s₁.setTop (mkF m 0 #[.val (.ref a1)] [])) t → Steps p.tables e below (s₁.setTop (entryFrame m #[(.ref a1)] 1)) t := fun t k => castTop (ef_1 m a1) k
  -- 3. LAWS
  obtain ⟨T2, X2, e2, st2⟩ := getS2 X0 hx hZ hown (host := "") (Or.inl (hw _ (List.mem_of_getElem? (i := 5) rfl))) Via.refl e0 S_MAGIC (g := (mkF m 2 #[.val (.ref a1)] [(.int z_a1)])) rfl (hb hby d1_2)
  obtain ⟨T4, X4, e4, st4⟩ := getS2 X2 hx hZ hown (host := "") (Or.inl (hw _ (List.mem_of_getElem? (i := 5) rfl))) Via.refl e2 S_MAGIC (g := (mkF m 12 #[.val (.ref a1)] [(.int w3)])) rfl (hb hby d1_12)
  obtain ⟨T7, X7, e7, st7⟩ := getS2 X4 hx hZ hown (host := "") (Or.inl (hw _ (List.mem_of_getElem? (i := 5) rfl))) Via.refl e4 S_MAGIC (g := (mkF m 23 #[.val (.ref a1)] [(.int w6)])) rfl (hb hby d1_23)
  obtain ⟨fs, hr, hrun, hended, hW, hsame⟩ := X7.leave (v := some (.int (0 : Int32))) (fun h => by rw [Bd.returns] at h; cases h)
  refine ⟨_, _, pre0 _ ?_, hrun, hended, _, _, rfl, ?_, ⟨_, rfl⟩, hW, hsame.mono (by decide) (by decide)⟩
  -- 4. STEPS
  · show Steps p.tables e below (s₁.setTop (mkF m 0 #[.val (.ref a1)] [])) _
    refine XS.aloadN X0.here hx rfl (hb hby d1_0) rfl rfl ?_
    show Steps p.tables e below (s₁.setTop (mkF m 1 #[.val (.ref a1)] [(.ref a1)])) _
    refine X0.arraylength hx (by rw [e0]; exact Ar_a1.1) (State.isArrayOf_alike hZ.alike Ar_a1.2.1) (g := (mkF m 1 #[.val (.ref a1)] [(.ref a1)])) rfl rfl (hb hby d1_1) _ ?_
    rw [len_of S_a1 N_a1]
    show Steps p.tables e below (s₁.setTop (mkF m 2 #[.val (.ref a1)] [(.int z_a1)])) _
    refine st2 _ ?_
    show Steps p.tables e below (T2.setTop (mkF m 5 #[.val (.ref a1)] [(.ref w_MAGIC), (.int z_a1)])) _
    refine X2.arraylength hx (by rw [e2]; exact Ar_w_MAGIC.1) (State.isArrayOf_alike hZ.alike Ar_w_MAGIC.2.1) (g := (mkF m 5 #[.val (.ref a1)] [(.ref w_MAGIC), (.int z_a1)])) rfl rfl (hb hby d1_5) _ ?_
    rw [len_of S_w_MAGIC N_w_MAGIC]
    show Steps p.tables e below (T2.setTop (mkF m 6 #[.val (.ref a1)] [(.int z_w_MAGIC), (.int z_a1)])) _
    refine XS.icmpNo X2.here hx rfl (hb hby d1_6) rfl (flt hc6).1 ?_
    show Steps p.tables e below (T2.setTop (mkF m 9 #[.val (.ref a1)] [])) _
    refine XS.aloadN X2.here hx rfl (hb hby d1_9) rfl rfl ?_
    show Steps p.tables e below (T2.setTop (mkF m 10 #[.val (.ref a1)] [(.ref a1)])) _
    refine XS.iconst X2.here hx rfl (hb hby d1_10) ?_
    show Steps p.tables e below (T2.setTop (mkF m 11 #[.val (.ref a1)] [(.int (0 : Int32)), (.ref a1)])) _
    refine X2.baloadBytes hx (j := (0 : Int32)) (v := (.int w3)) (by rw [e2]; exact Ar_a1.1) (State.isArrayOf_alike hZ.alike Ar_a1.2.1) Ar_a1.2.2 hin11 hat11 (g := (mkF m 11 #[.val (.ref a1)] [(.int (0 : Int32)), (.ref a1)])) rfl rfl (hb hby d1_11) _ ?_
    show Steps p.tables e below (T2.setTop (mkF m 12 #[.val (.ref a1)] [(.int w3)])) _
    refine st4 _ ?_
    show Steps p.tables e below (T4.setTop (mkF m 15 #[.val (.ref a1)] [(.ref w_MAGIC), (.int w3)])) _
    refine XS.iconst X4.here hx rfl (hb hby d1_15) ?_
    show Steps p.tables e below (T4.setTop (mkF m 16 #[.val (.ref a1)] [(.int (0 : Int32)), (.ref w_MAGIC), (.int w3)])) _
    refine X4.baloadBytes hx (j := (0 : Int32)) (v := (.int w5)) (by rw [e4]; exact Ar_w_MAGIC.1) (State.isArrayOf_alike hZ.alike Ar_w_MAGIC.2.1) Ar_w_MAGIC.2.2 hin16 hat16 (g := (mkF m 16 #[.val (.ref a1)] [(.int (0 : Int32)), (.ref w_MAGIC), (.int w3)])) rfl rfl (hb hby d1_16) _ ?_
    show Steps p.tables e below (T4.setTop (mkF m 17 #[.val (.ref a1)] [(.int w5), (.int w3)])) _
    refine XS.icmpNo X4.here hx rfl (hb hby d1_17) rfl (teq hc17).2 ?_
    show Steps p.tables e below (T4.setTop (mkF m 20 #[.val (.ref a1)] [])) _
    refine XS.aloadN X4.here hx rfl (hb hby d1_20) rfl rfl ?_
    show Steps p.tables e below (T4.setTop (mkF m 21 #[.val (.ref a1)] [(.ref a1)])) _
    refine XS.iconst X4.here hx rfl (hb hby d1_21) ?_
    show Steps p.tables e below (T4.setTop (mkF m 22 #[.val (.ref a1)] [(.int (1 : Int32)), (.ref a1)])) _
    refine X4.baloadBytes hx (j := (1 : Int32)) (v := (.int w6)) (by rw [e4]; exact Ar_a1.1) (State.isArrayOf_alike hZ.alike Ar_a1.2.1) Ar_a1.2.2 hin22 hat22 (g := (mkF m 22 #[.val (.ref a1)] [(.int (1 : Int32)), (.ref a1)])) rfl rfl (hb hby d1_22) _ ?_
    show Steps p.tables e below (T4.setTop (mkF m 23 #[.val (.ref a1)] [(.int w6)])) _
    refine st7 _ ?_
    show Steps p.tables e below (T7.setTop (mkF m 26 #[.val (.ref a1)] [(.ref w_MAGIC), (.int w6)])) _
    refine XS.iconst X7.here hx rfl (hb hby d1_26) ?_
    show Steps p.tables e below (T7.setTop (mkF m 27 #[.val (.ref a1)] [(.int (1 : Int32)), (.ref w_MAGIC), (.int w6)])) _
    refine X7.baloadBytes hx (j := (1 : Int32)) (v := (.int w8)) (by rw [e7]; exact Ar_w_MAGIC.1) (State.isArrayOf_alike hZ.alike Ar_w_MAGIC.2.1) Ar_w_MAGIC.2.2 hin27 hat27 (g := (mkF m 27 #[.val (.ref a1)] [(.int (1 : Int32)), (.ref w_MAGIC), (.int w6)])) rfl rfl (hb hby d1_27) _ ?_
    show Steps p.tables e below (T7.setTop (mkF m 28 #[.val (.ref a1)] [(.int w8), (.int w6)])) _
    refine XS.icmpYes X7.here hx rfl (pc0 := 28) (pc' := 35) rfl (hb hby d1_28) rfl (feq hc28).2 (by decide) (by decide) ?_
    show Steps p.tables e below (T7.setTop (mkF m 35 #[.val (.ref a1)] [])) _
    refine XS.iconst X7.here hx rfl (hb hby d1_35) ?_
    show Steps p.tables e below (T7.setTop (mkF m 36 #[.val (.ref a1)] [(.int (0 : Int32))])) _
    exact retN X7 hx (t := .boolean) Bd.returns (by simp) (hb hby d1_36) hr
  · show Qv (.int (0 : Int32)) h0 n0 _ T7.heap _
    rw [e7]
    exact ⟨rfl, N0, rfl⟩
set_option maxRecDepth 65536 in
set_option maxHeartbeats 40000000 in
theorem rm1_fff (l : Launch) (Z : State) (a0 : Array Value) (hw : ∀ d ∈ tables_1, d.before a0 Z = true) (ws : List Jvm.Cond) (a1 : Addr) (cl_a1 : Cell) (z_a1 : Int32) (w_MAGIC : Addr) (cl_w_MAGIC : Cell) (z_w_MAGIC : Int32) (w3 : Int32) (w5 : Int32) (w6 : Int32) (w8 : Int32) (h0 : Heap) (n0 : Nat) (Z0 : n0 ≤ h0.size) (Ar_a1 : Arr Z h0 a1 cl_a1 .byte) (S_a1 : cl_a1.slots.size = z_a1.toNatClampNeg) (N_a1 : ¬ z_a1 < 0) (S_MAGIC : Sta Z h0 "com/example/inward_firewall/inwardfirewall/BinaryXml" "MAGIC" "[B" (.ref w_MAGIC)) (Ar_w_MAGIC : Arr Z h0 w_MAGIC cl_w_MAGIC .byte) (S_w_MAGIC : cl_w_MAGIC.slots.size = z_w_MAGIC.toNatClampNeg) (N_w_MAGIC : ¬ z_w_MAGIC < 0) (hin11 : ¬ ((0 : Int32) < 0 ∨ cl_a1.slots.size ≤ ((0 : Int32)).toNatClampNeg)) (hat11 : cl_a1.slots[((0 : Int32)).toNatClampNeg]? = some (.int w3)) (hin16 : ¬ ((0 : Int32) < 0 ∨ cl_w_MAGIC.slots.size ≤ ((0 : Int32)).toNatClampNeg)) (hat16 : cl_w_MAGIC.slots[((0 : Int32)).toNatClampNeg]? = some (.int w5)) (hin22 : ¬ ((1 : Int32) < 0 ∨ cl_a1.slots.size ≤ ((1 : Int32)).toNatClampNeg)) (hat22 : cl_a1.slots[((1 : Int32)).toNatClampNeg]? = some (.int w6)) (hin27 : ¬ ((1 : Int32) < 0 ∨ cl_w_MAGIC.slots.size ≤ ((1 : Int32)).toNatClampNeg)) (hat27 : cl_w_MAGIC.slots[((1 : Int32)).toNatClampNeg]? = some (.int w8)) (hc6 : ¬ (z_a1 < z_w_MAGIC)) (hc17 : w3 = w5) (hc28 : w6 = w8) :
    MetFree l (⟨"com/example/inward_firewall/inwardfirewall/BinaryXml", "isBinaryXml", "([B)Z"⟩ : MethodName) (head1 (Jvm.Cond.code (⟨"com/example/inward_firewall/inwardfirewall/BinaryXml", "isBinaryXml", "([B)Z"⟩ : MethodName) prog_10_method_2_code 1 (some .boolean) :: ws) ({ frames := 0, cells := 0, slots := 0, locals := 0 } : Room)) (fun a U => a = #[(.ref a1)] ∧ Z.Warmed39 U.vm ∧ U.heap = h0) (fun _ _ _ _ _ => True) (fun _ U o U' => ∃ v L, o = .returned v ∧ Qv (.int (1 : Int32)) h0 n0 v U'.heap L ∧ FrameEnd U o U' L ({ frames := 0, cells := 0, slots := 0, locals := 0 } : Room).cells ({ frames := 0, cells := 0, slots := 0, locals := 0 } : Room).slots) := by
  refine MetFree.of_bodySF (plainFor_of_name pn_1) hisR ?_
  intro p e s m args below meth c s₁ Bd hml0 hP hK
  obtain ⟨rfl, hZ, hh⟩ := hP
  have hx := Bd.exec
  have hby := Bd.bytes
  have hml : c.maxLocals = 1 := hml0
  have hown : s.vm.findClass "com/example/inward_firewall/inwardfirewall/BinaryXml" = some m.cls := findClass_of_methodNamed Bd.named
  have hnm := (name_of_methodNamed Bd.named Bd.method).1
  have X0 : Stand p l e ({ frames := 0, cells := 0, slots := 0, locals := 0 } : Room) s m #[(.ref a1)] below meth c s₁ [] 0 0 := Stand.of_body Bd
  have e0 : s₁.heap = h0 := by rw [← hh, Bd.state]; rfl
  have N0 := Fr.nil n0
  have pre0 : ∀ t, Steps p.tables e below (s₁.setTop (mkF m 0 #[.val (.ref a1)] [])) t → Steps p.tables e below (s₁.setTop (entryFrame m #[(.ref a1)] 1)) t := fun t k => castTop (ef_1 m a1) k
  -- 3. LAWS
  obtain ⟨T2, X2, e2, st2⟩ := getS2 X0 hx hZ hown (host := "") (Or.inl (hw _ (List.mem_of_getElem? (i := 5) rfl))) Via.refl e0 S_MAGIC (g := (mkF m 2 #[.val (.ref a1)] [(.int z_a1)])) rfl (hb hby d1_2)
  obtain ⟨T4, X4, e4, st4⟩ := getS2 X2 hx hZ hown (host := "") (Or.inl (hw _ (List.mem_of_getElem? (i := 5) rfl))) Via.refl e2 S_MAGIC (g := (mkF m 12 #[.val (.ref a1)] [(.int w3)])) rfl (hb hby d1_12)
  obtain ⟨T7, X7, e7, st7⟩ := getS2 X4 hx hZ hown (host := "") (Or.inl (hw _ (List.mem_of_getElem? (i := 5) rfl))) Via.refl e4 S_MAGIC (g := (mkF m 23 #[.val (.ref a1)] [(.int w6)])) rfl (hb hby d1_23)
  obtain ⟨fs, hr, hrun, hended, hW, hsame⟩ := X7.leave (v := some (.int (1 : Int32))) (fun h => by rw [Bd.returns] at h; cases h)
  refine ⟨_, _, pre0 _ ?_, hrun, hended, _, _, rfl, ?_, ⟨_, rfl⟩, hW, hsame.mono (by decide) (by decide)⟩
  -- 4. STEPS
  · show Steps p.tables e below (s₁.setTop (mkF m 0 #[.val (.ref a1)] [])) _
    refine XS.aloadN X0.here hx rfl (hb hby d1_0) rfl rfl ?_
    show Steps p.tables e below (s₁.setTop (mkF m 1 #[.val (.ref a1)] [(.ref a1)])) _
    refine X0.arraylength hx (by rw [e0]; exact Ar_a1.1) (State.isArrayOf_alike hZ.alike Ar_a1.2.1) (g := (mkF m 1 #[.val (.ref a1)] [(.ref a1)])) rfl rfl (hb hby d1_1) _ ?_
    rw [len_of S_a1 N_a1]
    show Steps p.tables e below (s₁.setTop (mkF m 2 #[.val (.ref a1)] [(.int z_a1)])) _
    refine st2 _ ?_
    show Steps p.tables e below (T2.setTop (mkF m 5 #[.val (.ref a1)] [(.ref w_MAGIC), (.int z_a1)])) _
    refine X2.arraylength hx (by rw [e2]; exact Ar_w_MAGIC.1) (State.isArrayOf_alike hZ.alike Ar_w_MAGIC.2.1) (g := (mkF m 5 #[.val (.ref a1)] [(.ref w_MAGIC), (.int z_a1)])) rfl rfl (hb hby d1_5) _ ?_
    rw [len_of S_w_MAGIC N_w_MAGIC]
    show Steps p.tables e below (T2.setTop (mkF m 6 #[.val (.ref a1)] [(.int z_w_MAGIC), (.int z_a1)])) _
    refine XS.icmpNo X2.here hx rfl (hb hby d1_6) rfl (flt hc6).1 ?_
    show Steps p.tables e below (T2.setTop (mkF m 9 #[.val (.ref a1)] [])) _
    refine XS.aloadN X2.here hx rfl (hb hby d1_9) rfl rfl ?_
    show Steps p.tables e below (T2.setTop (mkF m 10 #[.val (.ref a1)] [(.ref a1)])) _
    refine XS.iconst X2.here hx rfl (hb hby d1_10) ?_
    show Steps p.tables e below (T2.setTop (mkF m 11 #[.val (.ref a1)] [(.int (0 : Int32)), (.ref a1)])) _
    refine X2.baloadBytes hx (j := (0 : Int32)) (v := (.int w3)) (by rw [e2]; exact Ar_a1.1) (State.isArrayOf_alike hZ.alike Ar_a1.2.1) Ar_a1.2.2 hin11 hat11 (g := (mkF m 11 #[.val (.ref a1)] [(.int (0 : Int32)), (.ref a1)])) rfl rfl (hb hby d1_11) _ ?_
    show Steps p.tables e below (T2.setTop (mkF m 12 #[.val (.ref a1)] [(.int w3)])) _
    refine st4 _ ?_
    show Steps p.tables e below (T4.setTop (mkF m 15 #[.val (.ref a1)] [(.ref w_MAGIC), (.int w3)])) _
    refine XS.iconst X4.here hx rfl (hb hby d1_15) ?_
    show Steps p.tables e below (T4.setTop (mkF m 16 #[.val (.ref a1)] [(.int (0 : Int32)), (.ref w_MAGIC), (.int w3)])) _
    refine X4.baloadBytes hx (j := (0 : Int32)) (v := (.int w5)) (by rw [e4]; exact Ar_w_MAGIC.1) (State.isArrayOf_alike hZ.alike Ar_w_MAGIC.2.1) Ar_w_MAGIC.2.2 hin16 hat16 (g := (mkF m 16 #[.val (.ref a1)] [(.int (0 : Int32)), (.ref w_MAGIC), (.int w3)])) rfl rfl (hb hby d1_16) _ ?_
    show Steps p.tables e below (T4.setTop (mkF m 17 #[.val (.ref a1)] [(.int w5), (.int w3)])) _
    refine XS.icmpNo X4.here hx rfl (hb hby d1_17) rfl (teq hc17).2 ?_
    show Steps p.tables e below (T4.setTop (mkF m 20 #[.val (.ref a1)] [])) _
    refine XS.aloadN X4.here hx rfl (hb hby d1_20) rfl rfl ?_
    show Steps p.tables e below (T4.setTop (mkF m 21 #[.val (.ref a1)] [(.ref a1)])) _
    refine XS.iconst X4.here hx rfl (hb hby d1_21) ?_
    show Steps p.tables e below (T4.setTop (mkF m 22 #[.val (.ref a1)] [(.int (1 : Int32)), (.ref a1)])) _
    refine X4.baloadBytes hx (j := (1 : Int32)) (v := (.int w6)) (by rw [e4]; exact Ar_a1.1) (State.isArrayOf_alike hZ.alike Ar_a1.2.1) Ar_a1.2.2 hin22 hat22 (g := (mkF m 22 #[.val (.ref a1)] [(.int (1 : Int32)), (.ref a1)])) rfl rfl (hb hby d1_22) _ ?_
    show Steps p.tables e below (T4.setTop (mkF m 23 #[.val (.ref a1)] [(.int w6)])) _
    refine st7 _ ?_
    show Steps p.tables e below (T7.setTop (mkF m 26 #[.val (.ref a1)] [(.ref w_MAGIC), (.int w6)])) _
    refine XS.iconst X7.here hx rfl (hb hby d1_26) ?_
    show Steps p.tables e below (T7.setTop (mkF m 27 #[.val (.ref a1)] [(.int (1 : Int32)), (.ref w_MAGIC), (.int w6)])) _
    refine X7.baloadBytes hx (j := (1 : Int32)) (v := (.int w8)) (by rw [e7]; exact Ar_w_MAGIC.1) (State.isArrayOf_alike hZ.alike Ar_w_MAGIC.2.1) Ar_w_MAGIC.2.2 hin27 hat27 (g := (mkF m 27 #[.val (.ref a1)] [(.int (1 : Int32)), (.ref w_MAGIC), (.int w6)])) rfl rfl (hb hby d1_27) _ ?_
    show Steps p.tables e below (T7.setTop (mkF m 28 #[.val (.ref a1)] [(.int w8), (.int w6)])) _
    refine XS.icmpNo X7.here hx rfl (hb hby d1_28) rfl (teq hc28).2 ?_
    show Steps p.tables e below (T7.setTop (mkF m 31 #[.val (.ref a1)] [])) _
    refine XS.iconst X7.here hx rfl (hb hby d1_31) ?_
    show Steps p.tables e below (T7.setTop (mkF m 32 #[.val (.ref a1)] [(.int (1 : Int32))])) _
    refine XS.goto X7.here hx rfl (pc0 := 32) (pc' := 36) rfl (hb hby d1_32) (by decide) (by decide) ?_
    show Steps p.tables e below (T7.setTop (mkF m 36 #[.val (.ref a1)] [(.int (1 : Int32))])) _
    exact retN X7 hx (t := .boolean) Bd.returns (by simp) (hb hby d1_36) hr
  · show Qv (.int (1 : Int32)) h0 n0 _ T7.heap _
    rw [e7]
    exact ⟨rfl, N0, rfl⟩
def R1 (z b0 b1 : Int32) (r : Int32) : Prop := (z < 2 ∧ r = 0) ∨ (¬ z < 2 ∧ ¬ b0 = 3 ∧ r = 0) ∨ (¬ z < 2 ∧ b0 = 3 ∧ ¬ b1 = 0 ∧ r = 0) ∨ (¬ z < 2 ∧ b0 = 3 ∧ b1 = 0 ∧ r = 1)
theorem own_two {z : Int32} (h : ¬ z < 2) : (0 : Int32) < z ∧ (1 : Int32) < z := by
  rw [Int32.lt_iff_toInt_lt] at h ⊢
  rw [Int32.lt_iff_toInt_lt]
  have h2 : (2 : Int32).toInt = 2 := by decide
  have h0 : (0 : Int32).toInt = 0 := by decide
  have h1 : (1 : Int32).toInt = 1 := by decide
  omega
theorem rm1 (l : Launch) (Z : State) (a0 : Array Value) (hw : ∀ d ∈ tables_1, d.before a0 Z = true) (ws : List Jvm.Cond) (a1 : Addr) (kA : ClassId) (z b0 b1 b2 : Int32) (w_MAGIC : Addr) (kM : ClassId) (r : Int32) (h0 : Heap) (n0 : Nat) (Z0 : n0 ≤ h0.size) (S_MAGIC : Sta Z h0 "com/example/inward_firewall/inwardfirewall/BinaryXml" "MAGIC" "[B" (.ref w_MAGIC)) (V_a1 : Arv Z h0 a1 kA .byte z [.int b0, .int b1, .int b2] (.int (0 : Int32))) (V_w_MAGIC : Arv Z h0 w_MAGIC kM .byte (2 : Int32) [.int (3 : Int32), .int (0 : Int32)] (.int (0 : Int32))) (hR : R1 z b0 b1 r) :
    MetFree l (⟨"com/example/inward_firewall/inwardfirewall/BinaryXml", "isBinaryXml", "([B)Z"⟩ : MethodName) (head1 (Jvm.Cond.code (⟨"com/example/inward_firewall/inwardfirewall/BinaryXml", "isBinaryXml", "([B)Z"⟩ : MethodName) prog_10_method_2_code 1 (some .boolean) :: ws) ({ frames := 0, cells := 0, slots := 0, locals := 0 } : Room)) (fun a U => a = #[(.ref a1)] ∧ Z.Warmed39 U.vm ∧ U.heap = h0) (fun _ _ _ _ _ => True) (fun _ U o U' => ∃ v L, o = .returned v ∧ Qv (.int r) h0 n0 v U'.heap L ∧ FrameEnd U o U' L ({ frames := 0, cells := 0, slots := 0, locals := 0 } : Room).cells ({ frames := 0, cells := 0, slots := 0, locals := 0 } : Room).slots) := by
  obtain ⟨cA, ArA, qA, SA, NA, HA, GA⟩ := V_a1
  obtain ⟨cM, ArM, qM, SM, NM, HM, GM⟩ := V_w_MAGIC
  have iM0 : ¬ ((0 : Int32) < 0 ∨ cM.slots.size ≤ ((0 : Int32)).toNatClampNeg) := inb_of SM ⟨by decide, by decide⟩
  have iM1 : ¬ ((1 : Int32) < 0 ∨ cM.slots.size ≤ ((1 : Int32)).toNatClampNeg) := inb_of SM ⟨by decide, by decide⟩
  rcases hR with ⟨g, hr⟩ | ⟨g, g0, hr⟩ | ⟨g, g0, g1, hr⟩ | ⟨g, g0, g1, hr⟩
  · rw [hr]; exact rm1_t l Z a0 hw ws a1 cA z w_MAGIC cM (2 : Int32) h0 n0 Z0 ArA SA NA S_MAGIC ArM SM NM g
  all_goals
    have iA0 : ¬ ((0 : Int32) < 0 ∨ cA.slots.size ≤ ((0 : Int32)).toNatClampNeg) := inb_of SA ⟨by decide, (own_two g).1⟩
    have iA1 : ¬ ((1 : Int32) < 0 ∨ cA.slots.size ≤ ((1 : Int32)).toNatClampNeg) := inb_of SA ⟨by decide, (own_two g).2⟩
  · rw [hr]; exact rm1_ft l Z a0 hw ws a1 cA z w_MAGIC cM (2 : Int32) b0 (3 : Int32) h0 n0 Z0 ArA SA NA S_MAGIC ArM SM NM iA0 (Has.at HA iA0 rfl) iM0 (Has.at HM iM0 rfl) g g0
  · rw [hr]; exact rm1_fft l Z a0 hw ws a1 cA z w_MAGIC cM (2 : Int32) b0 (3 : Int32) b1 (0 : Int32) h0 n0 Z0 ArA SA NA S_MAGIC ArM SM NM iA0 (Has.at HA iA0 rfl) iM0 (Has.at HM iM0 rfl) iA1 (Has.at HA iA1 rfl) iM1 (Has.at HM iM1 rfl) g g0 g1
  · rw [hr]; exact rm1_fff l Z a0 hw ws a1 cA z w_MAGIC cM (2 : Int32) b0 (3 : Int32) b1 (0 : Int32) h0 n0 Z0 ArA SA NA S_MAGIC ArM SM NM iA0 (Has.at HA iA0 rfl) iM0 (Has.at HM iM0 rfl) iA1 (Has.at HA iA1 rfl) iM1 (Has.at HM iM1 rfl) g g0 g1
theorem pn_0 : plainName "com/example/inward_firewall/inwardfirewall/BinaryXmlIsBinaryXmlPinLaw" = true := by first | (simp [plainName, overriddenIn]; done) | decide +kernel
theorem pd_0_0 : parseMethodDescriptor "([B)Z" = some ⟨[(.array .byte)], some .boolean⟩ := by decide +kernel
theorem ef_0 (m : MethodId) (x0 : Int32) (x1 : Int32) (x2 : Int32) (x3 : Int32) : entryFrame m #[(.int x0), (.int x1), (.int x2), (.int x3)] maxLocals = mkF m 0 #[.val (.int x0), .val (.int x1), .val (.int x2), .val (.int x3), .unset, .unset, .unset] [] := by first | (simp [entryFrame, mkF, argsToLocals, Value.category, maxLocals]; done) | rfl
set_option maxRecDepth 65536 in
set_option maxHeartbeats 40000000 in
theorem rm0_ttttf (l : Launch) (Z : State) (a0 : Array Value) (hw : ∀ d ∈ tables_1, d.before a0 Z = true) (ws : List Jvm.Cond) (p1 : Int32) (p2 : Int32) (p3 : Int32) (p4 : Int32) (w_MAGIC : Addr) (kM_6 : ClassId) (r6 : Int32) (h0 : Heap) (n0 : Nat) (Z0 : n0 ≤ h0.size) (S_MAGIC : Sta Z h0 "com/example/inward_firewall/inwardfirewall/BinaryXml" "MAGIC" "[B" (.ref w_MAGIC)) (V_w_MAGIC : Arv Z h0 w_MAGIC kM_6 .byte (2 : Int32) [.int (3 : Int32), .int (0 : Int32)] (.int (0 : Int32))) (P6 : R1 (p1 &&& (7 : Int32)) (0 : Int32) (0 : Int32) r6) (hz8 : ¬ (p1 &&& (7 : Int32)) < 0) (hk8 : ((p1 &&& (7 : Int32))).toNatClampNeg ≤ 7) (hc14 : ¬ ((0 : Int32) < (p1 &&& (7 : Int32)))) (hc26 : ¬ ((1 : Int32) < (p1 &&& (7 : Int32)))) (hc38 : ¬ ((2 : Int32) < (p1 &&& (7 : Int32)))) (hc53 : (p1 &&& (7 : Int32)) < (2 : Int32)) (hc83 : r6 = (0 : Int32)) :
    MetFree l x (head1 (Jvm.Cond.code x code maxLocals ret :: ws) room_1) (fun a U => a = #[(.int p1), (.int p2), (.int p3), (.int p4)] ∧ Z.Warmed39 U.vm ∧ U.heap = h0) (fun _ _ _ _ _ => True) (fun _ U o U' => ∃ v L, o = .returned v ∧ Q0 n0 v U'.heap L ∧ FrameEnd U o U' L room_1.cells room_1.slots) := by
  refine MetFree.of_bodySF (plainFor_of_name pn_0) hisR ?_
  intro p e s m args below meth c s₁ Bd hml0 hP hK
  obtain ⟨rfl, hZ, hh⟩ := hP
  have hx := Bd.exec
  have hby := Bd.bytes
  have hml : c.maxLocals = 7 := hml0
  have hown : s.vm.findClass "com/example/inward_firewall/inwardfirewall/BinaryXmlIsBinaryXmlPinLaw" = some m.cls := findClass_of_methodNamed Bd.named
  have hnm := (name_of_methodNamed Bd.named Bd.method).1
  have X0 : Stand p l e room_1 s m #[(.int p1), (.int p2), (.int p3), (.int p4)] below meth c s₁ [] 0 0 := Stand.of_body Bd
  have e0 : s₁.heap = h0 := by rw [← hh, Bd.state]; rfl
  have N0 := Fr.nil n0
  have pre0 : ∀ t, Steps p.tables e below (s₁.setTop (mkF m 0 #[.val (.int p1), .val (.int p2), .val (.int p3), .val (.int p4), .unset, .unset, .unset] [])) t → Steps p.tables e below (s₁.setTop (entryFrame m #[(.int p1), (.int p2), (.int p3), (.int p4)] maxLocals)) t := fun t k => castTop (ef_0 m p1 p2 p3 p4) k
  -- 3. LAWS
  obtain ⟨T5, h5, k5, X5, e5, E5, A5, st5⟩ := newP X0 hx hZ (hw _ (List.mem_of_getElem? (i := 0) rfl)) e0 (g := (mkF m 8 #[.val (.int p1), .val (.int p2), .val (.int p3), .val (.int p4), .val (.int (p1 &&& (7 : Int32))), .unset, .unset] [(.int (p1 &&& (7 : Int32)))])) rfl (hb hby at_8) rfl hz8 (cap := 7) hk8 (by decide) (by decide) (by decide)
  obtain ⟨b5, g5⟩ : ∃ z, z = h0.size := ⟨_, rfl⟩
  rw [← g5] at A5 st5
  have V_b5 : Arv Z h5 b5 k5 .byte (p1 &&& (7 : Int32)) [(.int (0 : Int32)), (.int (0 : Int32)), (.int (0 : Int32))] (.int (0 : Int32)) := (Arv.new A5 hz8).pad (pad_rep [] (.int (0 : Int32)) 3)
  have g_b5 : n0 ≤ b5 := Nat.le_trans Z0 (Nat.le_of_eq g5.symm)
  obtain ⟨_, _, ⟨T6, L6, k6, n6⟩, -, X6, ⟨Lc6, hQ6, l6, y6, z6⟩, st6⟩ := Jvm.LawKit.callS X5 hx (y := (⟨"com/example/inward_firewall/inwardfirewall/BinaryXml", "isBinaryXml", "([B)Z"⟩ : MethodName)) hown (mvT hZ (hw _ (List.mem_of_getElem? (i := 1) rfl))) (mvT hZ (hw _ (List.mem_of_getElem? (i := 2) rfl))) (mvT hZ (hw _ (List.mem_of_getElem? (i := 3) rfl))) (mvT hZ (hw _ (List.mem_of_getElem? (i := 4) rfl))) (by decide) (backOf (W := 0) (rm1 l Z a0 hw [] b5 k5 (p1 &&& (7 : Int32)) (0 : Int32) (0 : Int32) (0 : Int32) w_MAGIC kM_6 r6 h5 n0 (Nat.le_trans Z0 E5.1) (S_MAGIC.ext E5) V_b5 (V_w_MAGIC.ext E5) P6) hZ (hw _ (List.mem_of_getElem? (i := 4) rfl)) (hw _ (List.mem_of_getElem? (i := 3) rfl)) (by decide) (by decide)) (g := (mkF m 78 #[.val (.int p1), .val (.int p2), .val (.int p3), .val (.int p4), .val (.int (p1 &&& (7 : Int32))), .val (.ref b5), .val (.int (0 : Int32))] [(.ref b5)])) rfl (by rw [hml]; rfl) (argsL := [(.ref b5)]) (rest := []) (lenOf pd_0_0 rfl) rfl (by show 2 * 0 + _ ≤ _; exact Nat.le_of_eq rfl) (hb hby at_78) (fun _ _ => ⟨rfl, e5, (by decide : 1 + 0 ≤ _), (by decide : 7 + 0 ≤ _)⟩)
  dsimp only [Pt.U, Pt.locs, Pt.cells, Pt.slots] at X6 l6 y6 z6 st6 hQ6
  subst l6 y6 z6
  obtain ⟨rfl, N6q, e6⟩ := hQ6
  have N6 := Fr.app N0 N6q
  obtain ⟨fs, hr, hrun, hended, hW, hsame⟩ := X6.leave (v := some (.int (1 : Int32))) (fun h => by rw [Bd.returns] at h; cases h)
  refine ⟨_, _, pre0 _ ?_, hrun, hended, _, _, rfl, ?_, ⟨_, rfl⟩, hW, hsame.mono (by decide) (by decide)⟩
  -- 4. STEPS
  · show Steps p.tables e below (s₁.setTop (mkF m 0 #[.val (.int p1), .val (.int p2), .val (.int p3), .val (.int p4), .unset, .unset, .unset] [])) _
    refine XS.iloadN X0.here hx rfl (hb hby at_0) rfl ?_
    show Steps p.tables e below (s₁.setTop (mkF m 1 #[.val (.int p1), .val (.int p2), .val (.int p3), .val (.int p4), .unset, .unset, .unset] [(.int p1)])) _
    refine XS.bipush X0.here hx rfl (hb hby at_1) ?_
    show Steps p.tables e below (s₁.setTop (mkF m 3 #[.val (.int p1), .val (.int p2), .val (.int p3), .val (.int p4), .unset, .unset, .unset] [(.int (7 : Int32)), (.int p1)])) _
    refine XS.iand X0.here hx rfl (hb hby at_3) rfl ?_
    show Steps p.tables e below (s₁.setTop (mkF m 4 #[.val (.int p1), .val (.int p2), .val (.int p3), .val (.int p4), .unset, .unset, .unset] [(.int (p1 &&& (7 : Int32)))])) _
    refine XS.istore X0.here hx rfl (hb hby at_4) rfl (l' := #[.val (.int p1), .val (.int p2), .val (.int p3), .val (.int p4), .val (.int (p1 &&& (7 : Int32))), .unset, .unset]) rfl ?_
    show Steps p.tables e below (s₁.setTop (mkF m 6 #[.val (.int p1), .val (.int p2), .val (.int p3), .val (.int p4), .val (.int (p1 &&& (7 : Int32))), .unset, .unset] [])) _
    refine XS.iload X0.here hx rfl (hb hby at_6) rfl ?_
    show Steps p.tables e below (s₁.setTop (mkF m 8 #[.val (.int p1), .val (.int p2), .val (.int p3), .val (.int p4), .val (.int (p1 &&& (7 : Int32))), .unset, .unset] [(.int (p1 &&& (7 : Int32)))])) _
    refine st5 _ ?_
    show Steps p.tables e below (T5.setTop (mkF m 10 #[.val (.int p1), .val (.int p2), .val (.int p3), .val (.int p4), .val (.int (p1 &&& (7 : Int32))), .unset, .unset] [(.ref b5)])) _
    refine XS.astore X5.here hx rfl (hb hby at_10) rfl rfl (l' := #[.val (.int p1), .val (.int p2), .val (.int p3), .val (.int p4), .val (.int (p1 &&& (7 : Int32))), .val (.ref b5), .unset]) rfl ?_
    show Steps p.tables e below (T5.setTop (mkF m 12 #[.val (.int p1), .val (.int p2), .val (.int p3), .val (.int p4), .val (.int (p1 &&& (7 : Int32))), .val (.ref b5), .unset] [])) _
    refine XS.iload X5.here hx rfl (hb hby at_12) rfl ?_
    show Steps p.tables e below (T5.setTop (mkF m 14 #[.val (.int p1), .val (.int p2), .val (.int p3), .val (.int p4), .val (.int (p1 &&& (7 : Int32))), .val (.ref b5), .unset] [(.int (p1 &&& (7 : Int32)))])) _
    refine XS.ifYes X5.here hx rfl (pc0 := 14) (pc' := 23) rfl (hb hby at_14) rfl ((if0 _ _).trans (flt hc14).2.2.2) (by decide) (by decide) ?_
    show Steps p.tables e below (T5.setTop (mkF m 23 #[.val (.int p1), .val (.int p2), .val (.int p3), .val (.int p4), .val (.int (p1 &&& (7 : Int32))), .val (.ref b5), .unset] [])) _
    refine XS.iload X5.here hx rfl (hb hby at_23) rfl ?_
    show Steps p.tables e below (T5.setTop (mkF m 25 #[.val (.int p1), .val (.int p2), .val (.int p3), .val (.int p4), .val (.int (p1 &&& (7 : Int32))), .val (.ref b5), .unset] [(.int (p1 &&& (7 : Int32)))])) _
    refine XS.iconst X5.here hx rfl (hb hby at_25) ?_
    show Steps p.tables e below (T5.setTop (mkF m 26 #[.val (.int p1), .val (.int p2), .val (.int p3), .val (.int p4), .val (.int (p1 &&& (7 : Int32))), .val (.ref b5), .unset] [(.int (1 : Int32)), (.int (p1 &&& (7 : Int32)))])) _
    refine XS.icmpYes X5.here hx rfl (pc0 := 26) (pc' := 35) rfl (hb hby at_26) rfl (flt hc26).2.2.2 (by decide) (by decide) ?_
    show Steps p.tables e below (T5.setTop (mkF m 35 #[.val (.int p1), .val (.int p2), .val (.int p3), .val (.int p4), .val (.int (p1 &&& (7 : Int32))), .val (.ref b5), .unset] [])) _
    refine XS.iload X5.here hx rfl (hb hby at_35) rfl ?_
    show Steps p.tables e below (T5.setTop (mkF m 37 #[.val (.int p1), .val (.int p2), .val (.int p3), .val (.int p4), .val (.int (p1 &&& (7 : Int32))), .val (.ref b5), .unset] [(.int (p1 &&& (7 : Int32)))])) _
    refine XS.iconst X5.here hx rfl (hb hby at_37) ?_
    show Steps p.tables e below (T5.setTop (mkF m 38 #[.val (.int p1), .val (.int p2), .val (.int p3), .val (.int p4), .val (.int (p1 &&& (7 : Int32))), .val (.ref b5), .unset] [(.int (2 : Int32)), (.int (p1 &&& (7 : Int32)))])) _
    refine XS.icmpYes X5.here hx rfl (pc0 := 38) (pc' := 47) rfl (hb hby at_38) rfl (flt hc38).2.2.2 (by decide) (by decide) ?_
    show Steps p.tables e below (T5.setTop (mkF m 47 #[.val (.int p1), .val (.int p2), .val (.int p3), .val (.int p4), .val (.int (p1 &&& (7 : Int32))), .val (.ref b5), .unset] [])) _
    refine XS.iconst X5.here hx rfl (hb hby at_47) ?_
    show Steps p.tables e below (T5.setTop (mkF m 48 #[.val (.int p1), .val (.int p2), .val (.int p3), .val (.int p4), .val (.int (p1 &&& (7 : Int32))), .val (.ref b5), .unset] [(.int (0 : Int32))])) _
    refine XS.istore X5.here hx rfl (hb hby at_48) rfl (l' := #[.val (.int p1), .val (.int p2), .val (.int p3), .val (.int p4), .val (.int (p1 &&& (7 : Int32))), .val (.ref b5), .val (.int (0 : Int32))]) rfl ?_
    show Steps p.tables e below (T5.setTop (mkF m 50 #[.val (.int p1), .val (.int p2), .val (.int p3), .val (.int p4), .val (.int (p1 &&& (7 : Int32))), .val (.ref b5), .val (.int (0 : Int32))] [])) _
    refine XS.iload X5.here hx rfl (hb hby at_50) rfl ?_
    show Steps p.tables e below (T5.setTop (mkF m 52 #[.val (.int p1), .val (.int p2), .val (.int p3), .val (.int p4), .val (.int (p1 &&& (7 : Int32))), .val (.ref b5), .val (.int (0 : Int32))] [(.int (p1 &&& (7 : Int32)))])) _
    refine XS.iconst X5.here hx rfl (hb hby at_52) ?_
    show Steps p.tables e below (T5.setTop (mkF m 53 #[.val (.int p1), .val (.int p2), .val (.int p3), .val (.int p4), .val (.int (p1 &&& (7 : Int32))), .val (.ref b5), .val (.int (0 : Int32))] [(.int (2 : Int32)), (.int (p1 &&& (7 : Int32)))])) _
    refine XS.icmpYes X5.here hx rfl (pc0 := 53) (pc' := 76) rfl (hb hby at_53) rfl (tlt hc53).1 (by decide) (by decide) ?_
    show Steps p.tables e below (T5.setTop (mkF m 76 #[.val (.int p1), .val (.int p2), .val (.int p3), .val (.int p4), .val (.int (p1 &&& (7 : Int32))), .val (.ref b5), .val (.int (0 : Int32))] [])) _
    refine XS.aload X5.here hx rfl (hb hby at_76) rfl rfl ?_
    show Steps p.tables e below (T5.setTop (mkF m 78 #[.val (.int p1), .val (.int p2), .val (.int p3), .val (.int p4), .val (.int (p1 &&& (7 : Int32))), .val (.ref b5), .val (.int (0 : Int32))] [(.ref b5)])) _
    refine st6 _ ?_
    show Steps p.tables e below (T6.setTop (mkF m 81 #[.val (.int p1), .val (.int p2), .val (.int p3), .val (.int p4), .val (.int (p1 &&& (7 : Int32))), .val (.ref b5), .val (.int (0 : Int32))] [(.int r6)])) _
    refine XS.iload X6.here hx rfl (hb hby at_81) rfl ?_
    show Steps p.tables e below (T6.setTop (mkF m 83 #[.val (.int p1), .val (.int p2), .val (.int p3), .val (.int p4), .val (.int (p1 &&& (7 : Int32))), .val (.ref b5), .val (.int (0 : Int32))] [(.int (0 : Int32)), (.int r6)])) _
    refine XS.icmpNo X6.here hx rfl (hb hby at_83) rfl (teq hc83).2 ?_
    show Steps p.tables e below (T6.setTop (mkF m 86 #[.val (.int p1), .val (.int p2), .val (.int p3), .val (.int p4), .val (.int (p1 &&& (7 : Int32))), .val (.ref b5), .val (.int (0 : Int32))] [])) _
    refine XS.iconst X6.here hx rfl (hb hby at_86) ?_
    show Steps p.tables e below (T6.setTop (mkF m 87 #[.val (.int p1), .val (.int p2), .val (.int p3), .val (.int p4), .val (.int (p1 &&& (7 : Int32))), .val (.ref b5), .val (.int (0 : Int32))] [(.int (1 : Int32))])) _
    refine XS.goto X6.here hx rfl (pc0 := 87) (pc' := 91) rfl (hb hby at_87) (by decide) (by decide) ?_
    show Steps p.tables e below (T6.setTop (mkF m 91 #[.val (.int p1), .val (.int p2), .val (.int p3), .val (.int p4), .val (.int (p1 &&& (7 : Int32))), .val (.ref b5), .val (.int (0 : Int32))] [(.int (1 : Int32))])) _
    exact retN X6 hx (t := .boolean) Bd.returns (by simp) (hb hby at_91) hr
  · show Q0 n0 _ T6.heap _
    rw [e6]
    exact ⟨rfl, N6⟩
set_option maxRecDepth 65536 in
set_option maxHeartbeats 40000000 in
theorem rm0_ftttf (l : Launch) (Z : State) (a0 : Array Value) (hw : ∀ d ∈ tables_1, d.before a0 Z = true) (ws : List Jvm.Cond) (p1 : Int32) (p2 : Int32) (p3 : Int32) (p4 : Int32) (w_MAGIC : Addr) (kM_7 : ClassId) (r7 : Int32) (h0 : Heap) (n0 : Nat) (Z0 : n0 ≤ h0.size) (S_MAGIC : Sta Z h0 "com/example/inward_firewall/inwardfirewall/BinaryXml" "MAGIC" "[B" (.ref w_MAGIC)) (V_w_MAGIC : Arv Z h0 w_MAGIC kM_7 .byte (2 : Int32) [.int (3 : Int32), .int (0 : Int32)] (.int (0 : Int32))) (P7 : R1 (p1 &&& (7 : Int32)) (nar .byte (p2.toInt8.toInt32)) (0 : Int32) r7) (hz8 : ¬ (p1 &&& (7 : Int32)) < 0) (hk8 : ((p1 &&& (7 : Int32))).toNatClampNeg ≤ 7) (hc14 : (0 : Int32) < (p1 &&& (7 : Int32))) (hj22 : (0 : Int32) < (p1 &&& (7 : Int32))) (hc26 : ¬ ((1 : Int32) < (p1 &&& (7 : Int32)))) (hc38 : ¬ ((2 : Int32) < (p1 &&& (7 : Int32)))) (hc53 : (p1 &&& (7 : Int32)) < (2 : Int32)) (hc83 : r7 = (0 : Int32)) :
    MetFree l x (head1 (Jvm.Cond.code x code maxLocals ret :: ws) room_1) (fun a U => a = #[(.int p1), (.int p2), (.int p3), (.int p4)] ∧ Z.Warmed39 U.vm ∧ U.heap = h0) (fun _ _ _ _ _ => True) (fun _ U o U' => ∃ v L, o = .returned v ∧ Q0 n0 v U'.heap L ∧ FrameEnd U o U' L room_1.cells room_1.slots) := by
  refine MetFree.of_bodySF (plainFor_of_name pn_0) hisR ?_
  intro p e s m args below meth c s₁ Bd hml0 hP hK
  obtain ⟨rfl, hZ, hh⟩ := hP
  have hx := Bd.exec
  have hby := Bd.bytes
  have hml : c.maxLocals = 7 := hml0
  have hown : s.vm.findClass "com/example/inward_firewall/inwardfirewall/BinaryXmlIsBinaryXmlPinLaw" = some m.cls := findClass_of_methodNamed Bd.named
  have hnm := (name_of_methodNamed Bd.named Bd.method).1
  have X0 : Stand p l e room_1 s m #[(.int p1), (.int p2), (.int p3), (.int p4)] below meth c s₁ [] 0 0 := Stand.of_body Bd
  have e0 : s₁.heap = h0 := by rw [← hh, Bd.state]; rfl
  have N0 := Fr.nil n0
  have pre0 : ∀ t, Steps p.tables e below (s₁.setTop (mkF m 0 #[.val (.int p1), .val (.int p2), .val (.int p3), .val (.int p4), .unset, .unset, .unset] [])) t → Steps p.tables e below (s₁.setTop (entryFrame m #[(.int p1), (.int p2), (.int p3), (.int p4)] maxLocals)) t := fun t k => castTop (ef_0 m p1 p2 p3 p4) k
  -- 3. LAWS
  obtain ⟨T5, h5, k5, X5, e5, E5, A5, st5⟩ := newP X0 hx hZ (hw _ (List.mem_of_getElem? (i := 0) rfl)) e0 (g := (mkF m 8 #[.val (.int p1), .val (.int p2), .val (.int p3), .val (.int p4), .val (.int (p1 &&& (7 : Int32))), .unset, .unset] [(.int (p1 &&& (7 : Int32)))])) rfl (hb hby at_8) rfl hz8 (cap := 7) hk8 (by decide) (by decide) (by decide)
  obtain ⟨b5, g5⟩ : ∃ z, z = h0.size := ⟨_, rfl⟩
  rw [← g5] at A5 st5
  have V_b5 : Arv Z h5 b5 k5 .byte (p1 &&& (7 : Int32)) [(.int (0 : Int32)), (.int (0 : Int32)), (.int (0 : Int32))] (.int (0 : Int32)) := (Arv.new A5 hz8).pad (pad_rep [] (.int (0 : Int32)) 3)
  have g_b5 : n0 ≤ b5 := Nat.le_trans Z0 (Nat.le_of_eq g5.symm)
  obtain ⟨cl22v, Ar22v, q22v, S22v, N22v, H22v, G22v⟩ := V_b5
  have hin22 : ¬ ((0 : Int32) < 0 ∨ cl22v.slots.size ≤ ((0 : Int32)).toNatClampNeg) := inb_of S22v ⟨by decide, hj22⟩
  obtain ⟨T6, h6, X6, e6, W6, st6⟩ := stB X5 hx hZ e5 Ar22v (j := (0 : Int32)) hin22 (g := (mkF m 22 #[.val (.int p1), .val (.int p2), .val (.int p3), .val (.int p4), .val (.int (p1 &&& (7 : Int32))), .val (.ref b5), .unset] [(.int (p2.toInt8.toInt32)), (.int (0 : Int32)), (.ref b5)])) rfl rfl (hb hby at_22)
  have V22 : Arv Z h6 b5 k5 .byte (p1 &&& (7 : Int32)) [(.int (nar .byte (p2.toInt8.toInt32))), (.int (0 : Int32)), (.int (0 : Int32))] (.int (0 : Int32)) := Arv.set Ar22v q22v S22v N22v H22v G22v (fits_nar_byte _) W6 0 rfl (Nat.le_of_ble_eq_true rfl)
  have N6 := Fr.snoc X6 N0 g_b5
  obtain ⟨_, _, ⟨T7, L7, k7, n7⟩, -, X7, ⟨Lc7, hQ7, l7, y7, z7⟩, st7⟩ := Jvm.LawKit.callS X6 hx (y := (⟨"com/example/inward_firewall/inwardfirewall/BinaryXml", "isBinaryXml", "([B)Z"⟩ : MethodName)) hown (mvT hZ (hw _ (List.mem_of_getElem? (i := 1) rfl))) (mvT hZ (hw _ (List.mem_of_getElem? (i := 2) rfl))) (mvT hZ (hw _ (List.mem_of_getElem? (i := 3) rfl))) (mvT hZ (hw _ (List.mem_of_getElem? (i := 4) rfl))) (by decide) (backOf (W := 0) (rm1 l Z a0 hw [] b5 k5 (p1 &&& (7 : Int32)) (nar .byte (p2.toInt8.toInt32)) (0 : Int32) (0 : Int32) w_MAGIC kM_7 r7 h6 n0 (Nat.le_trans (Nat.le_trans Z0 E5.1) (Keep.of_wr W6).1) ((S_MAGIC.ext E5).wr W6) V22 ((V_w_MAGIC.ext E5).other W6 (Nat.ne_of_lt (Nat.lt_of_lt_of_le V_w_MAGIC.lt (Nat.le_of_eq g5.symm)))) P7) hZ (hw _ (List.mem_of_getElem? (i := 4) rfl)) (hw _ (List.mem_of_getElem? (i := 3) rfl)) (by decide) (by decide)) (g := (mkF m 78 #[.val (.int p1), .val (.int p2), .val (.int p3), .val (.int p4), .val (.int (p1 &&& (7 : Int32))), .val (.ref b5), .val (.int (0 : Int32))] [(.ref b5)])) rfl (by rw [hml]; rfl) (argsL := [(.ref b5)]) (rest := []) (lenOf pd_0_0 rfl) rfl (by show 2 * 0 + _ ≤ _; exact Nat.le_of_eq rfl) (hb hby at_78) (fun _ _ => ⟨rfl, e6, (by decide : 1 + 0 ≤ _), (by decide : 7 + 0 ≤ _)⟩)
  dsimp only [Pt.U, Pt.locs, Pt.cells, Pt.slots] at X7 l7 y7 z7 st7 hQ7
  subst l7 y7 z7
  obtain ⟨rfl, N7q, e7⟩ := hQ7
  have N7 := Fr.app N6 N7q
  obtain ⟨fs, hr, hrun, hended, hW, hsame⟩ := X7.leave (v := some (.int (1 : Int32))) (fun h => by rw [Bd.returns] at h; cases h)
  refine ⟨_, _, pre0 _ ?_, hrun, hended, _, _, rfl, ?_, ⟨_, rfl⟩, hW, hsame.mono (by decide) (by decide)⟩
  -- 4. STEPS
  · show Steps p.tables e below (s₁.setTop (mkF m 0 #[.val (.int p1), .val (.int p2), .val (.int p3), .val (.int p4), .unset, .unset, .unset] [])) _
    refine XS.iloadN X0.here hx rfl (hb hby at_0) rfl ?_
    show Steps p.tables e below (s₁.setTop (mkF m 1 #[.val (.int p1), .val (.int p2), .val (.int p3), .val (.int p4), .unset, .unset, .unset] [(.int p1)])) _
    refine XS.bipush X0.here hx rfl (hb hby at_1) ?_
    show Steps p.tables e below (s₁.setTop (mkF m 3 #[.val (.int p1), .val (.int p2), .val (.int p3), .val (.int p4), .unset, .unset, .unset] [(.int (7 : Int32)), (.int p1)])) _
    refine XS.iand X0.here hx rfl (hb hby at_3) rfl ?_
    show Steps p.tables e below (s₁.setTop (mkF m 4 #[.val (.int p1), .val (.int p2), .val (.int p3), .val (.int p4), .unset, .unset, .unset] [(.int (p1 &&& (7 : Int32)))])) _
    refine XS.istore X0.here hx rfl (hb hby at_4) rfl (l' := #[.val (.int p1), .val (.int p2), .val (.int p3), .val (.int p4), .val (.int (p1 &&& (7 : Int32))), .unset, .unset]) rfl ?_
    show Steps p.tables e below (s₁.setTop (mkF m 6 #[.val (.int p1), .val (.int p2), .val (.int p3), .val (.int p4), .val (.int (p1 &&& (7 : Int32))), .unset, .unset] [])) _
    refine XS.iload X0.here hx rfl (hb hby at_6) rfl ?_
    show Steps p.tables e below (s₁.setTop (mkF m 8 #[.val (.int p1), .val (.int p2), .val (.int p3), .val (.int p4), .val (.int (p1 &&& (7 : Int32))), .unset, .unset] [(.int (p1 &&& (7 : Int32)))])) _
    refine st5 _ ?_
    show Steps p.tables e below (T5.setTop (mkF m 10 #[.val (.int p1), .val (.int p2), .val (.int p3), .val (.int p4), .val (.int (p1 &&& (7 : Int32))), .unset, .unset] [(.ref b5)])) _
    refine XS.astore X5.here hx rfl (hb hby at_10) rfl rfl (l' := #[.val (.int p1), .val (.int p2), .val (.int p3), .val (.int p4), .val (.int (p1 &&& (7 : Int32))), .val (.ref b5), .unset]) rfl ?_
    show Steps p.tables e below (T5.setTop (mkF m 12 #[.val (.int p1), .val (.int p2), .val (.int p3), .val (.int p4), .val (.int (p1 &&& (7 : Int32))), .val (.ref b5), .unset] [])) _
    refine XS.iload X5.here hx rfl (hb hby at_12) rfl ?_
    show Steps p.tables e below (T5.setTop (mkF m 14 #[.val (.int p1), .val (.int p2), .val (.int p3), .val (.int p4), .val (.int (p1 &&& (7 : Int32))), .val (.ref b5), .unset] [(.int (p1 &&& (7 : Int32)))])) _
    refine XS.ifNo X5.here hx rfl (hb hby at_14) rfl ((if0 _ _).trans (tlt hc14).2.2.2) ?_
    show Steps p.tables e below (T5.setTop (mkF m 17 #[.val (.int p1), .val (.int p2), .val (.int p3), .val (.int p4), .val (.int (p1 &&& (7 : Int32))), .val (.ref b5), .unset] [])) _
    refine XS.aload X5.here hx rfl (hb hby at_17) rfl rfl ?_
    show Steps p.tables e below (T5.setTop (mkF m 19 #[.val (.int p1), .val (.int p2), .val (.int p3), .val (.int p4), .val (.int (p1 &&& (7 : Int32))), .val (.ref b5), .unset] [(.ref b5)])) _
    refine XS.iconst X5.here hx rfl (hb hby at_19) ?_
    show Steps p.tables e below (T5.setTop (mkF m 20 #[.val (.int p1), .val (.int p2), .val (.int p3), .val (.int p4), .val (.int (p1 &&& (7 : Int32))), .val (.ref b5), .unset] [(.int (0 : Int32)), (.ref b5)])) _
    refine XS.iloadN X5.here hx rfl (hb hby at_20) rfl ?_
    show Steps p.tables e below (T5.setTop (mkF m 21 #[.val (.int p1), .val (.int p2), .val (.int p3), .val (.int p4), .val (.int (p1 &&& (7 : Int32))), .val (.ref b5), .unset] [(.int p2), (.int (0 : Int32)), (.ref b5)])) _
    refine XS.i2b X5.here hx rfl (hb hby at_21) rfl ?_
    show Steps p.tables e below (T5.setTop (mkF m 22 #[.val (.int p1), .val (.int p2), .val (.int p3), .val (.int p4), .val (.int (p1 &&& (7 : Int32))), .val (.ref b5), .unset] [(.int (p2.toInt8.toInt32)), (.int (0 : Int32)), (.ref b5)])) _
    refine st6 _ ?_
    show Steps p.tables e below (T6.setTop (mkF m 23 #[.val (.int p1), .val (.int p2), .val (.int p3), .val (.int p4), .val (.int (p1 &&& (7 : Int32))), .val (.ref b5), .unset] [])) _
    refine XS.iload X6.here hx rfl (hb hby at_23) rfl ?_
    show Steps p.tables e below (T6.setTop (mkF m 25 #[.val (.int p1), .val (.int p2), .val (.int p3), .val (.int p4), .val (.int (p1 &&& (7 : Int32))), .val (.ref b5), .unset] [(.int (p1 &&& (7 : Int32)))])) _
    refine XS.iconst X6.here hx rfl (hb hby at_25) ?_
    show Steps p.tables e below (T6.setTop (mkF m 26 #[.val (.int p1), .val (.int p2), .val (.int p3), .val (.int p4), .val (.int (p1 &&& (7 : Int32))), .val (.ref b5), .unset] [(.int (1 : Int32)), (.int (p1 &&& (7 : Int32)))])) _
    refine XS.icmpYes X6.here hx rfl (pc0 := 26) (pc' := 35) rfl (hb hby at_26) rfl (flt hc26).2.2.2 (by decide) (by decide) ?_
    show Steps p.tables e below (T6.setTop (mkF m 35 #[.val (.int p1), .val (.int p2), .val (.int p3), .val (.int p4), .val (.int (p1 &&& (7 : Int32))), .val (.ref b5), .unset] [])) _
    refine XS.iload X6.here hx rfl (hb hby at_35) rfl ?_
    show Steps p.tables e below (T6.setTop (mkF m 37 #[.val (.int p1), .val (.int p2), .val (.int p3), .val (.int p4), .val (.int (p1 &&& (7 : Int32))), .val (.ref b5), .unset] [(.int (p1 &&& (7 : Int32)))])) _
    refine XS.iconst X6.here hx rfl (hb hby at_37) ?_
    show Steps p.tables e below (T6.setTop (mkF m 38 #[.val (.int p1), .val (.int p2), .val (.int p3), .val (.int p4), .val (.int (p1 &&& (7 : Int32))), .val (.ref b5), .unset] [(.int (2 : Int32)), (.int (p1 &&& (7 : Int32)))])) _
    refine XS.icmpYes X6.here hx rfl (pc0 := 38) (pc' := 47) rfl (hb hby at_38) rfl (flt hc38).2.2.2 (by decide) (by decide) ?_
    show Steps p.tables e below (T6.setTop (mkF m 47 #[.val (.int p1), .val (.int p2), .val (.int p3), .val (.int p4), .val (.int (p1 &&& (7 : Int32))), .val (.ref b5), .unset] [])) _
    refine XS.iconst X6.here hx rfl (hb hby at_47) ?_
    show Steps p.tables e below (T6.setTop (mkF m 48 #[.val (.int p1), .val (.int p2), .val (.int p3), .val (.int p4), .val (.int (p1 &&& (7 : Int32))), .val (.ref b5), .unset] [(.int (0 : Int32))])) _
    refine XS.istore X6.here hx rfl (hb hby at_48) rfl (l' := #[.val (.int p1), .val (.int p2), .val (.int p3), .val (.int p4), .val (.int (p1 &&& (7 : Int32))), .val (.ref b5), .val (.int (0 : Int32))]) rfl ?_
    show Steps p.tables e below (T6.setTop (mkF m 50 #[.val (.int p1), .val (.int p2), .val (.int p3), .val (.int p4), .val (.int (p1 &&& (7 : Int32))), .val (.ref b5), .val (.int (0 : Int32))] [])) _
    refine XS.iload X6.here hx rfl (hb hby at_50) rfl ?_
    show Steps p.tables e below (T6.setTop (mkF m 52 #[.val (.int p1), .val (.int p2), .val (.int p3), .val (.int p4), .val (.int (p1 &&& (7 : Int32))), .val (.ref b5), .val (.int (0 : Int32))] [(.int (p1 &&& (7 : Int32)))])) _
    refine XS.iconst X6.here hx rfl (hb hby at_52) ?_
    show Steps p.tables e below (T6.setTop (mkF m 53 #[.val (.int p1), .val (.int p2), .val (.int p3), .val (.int p4), .val (.int (p1 &&& (7 : Int32))), .val (.ref b5), .val (.int (0 : Int32))] [(.int (2 : Int32)), (.int (p1 &&& (7 : Int32)))])) _
    refine XS.icmpYes X6.here hx rfl (pc0 := 53) (pc' := 76) rfl (hb hby at_53) rfl (tlt hc53).1 (by decide) (by decide) ?_
    show Steps p.tables e below (T6.setTop (mkF m 76 #[.val (.int p1), .val (.int p2), .val (.int p3), .val (.int p4), .val (.int (p1 &&& (7 : Int32))), .val (.ref b5), .val (.int (0 : Int32))] [])) _
    refine XS.aload X6.here hx rfl (hb hby at_76) rfl rfl ?_
    show Steps p.tables e below (T6.setTop (mkF m 78 #[.val (.int p1), .val (.int p2), .val (.int p3), .val (.int p4), .val (.int (p1 &&& (7 : Int32))), .val (.ref b5), .val (.int (0 : Int32))] [(.ref b5)])) _
    refine st7 _ ?_
    show Steps p.tables e below (T7.setTop (mkF m 81 #[.val (.int p1), .val (.int p2), .val (.int p3), .val (.int p4), .val (.int (p1 &&& (7 : Int32))), .val (.ref b5), .val (.int (0 : Int32))] [(.int r7)])) _
    refine XS.iload X7.here hx rfl (hb hby at_81) rfl ?_
    show Steps p.tables e below (T7.setTop (mkF m 83 #[.val (.int p1), .val (.int p2), .val (.int p3), .val (.int p4), .val (.int (p1 &&& (7 : Int32))), .val (.ref b5), .val (.int (0 : Int32))] [(.int (0 : Int32)), (.int r7)])) _
    refine XS.icmpNo X7.here hx rfl (hb hby at_83) rfl (teq hc83).2 ?_
    show Steps p.tables e below (T7.setTop (mkF m 86 #[.val (.int p1), .val (.int p2), .val (.int p3), .val (.int p4), .val (.int (p1 &&& (7 : Int32))), .val (.ref b5), .val (.int (0 : Int32))] [])) _
    refine XS.iconst X7.here hx rfl (hb hby at_86) ?_
    show Steps p.tables e below (T7.setTop (mkF m 87 #[.val (.int p1), .val (.int p2), .val (.int p3), .val (.int p4), .val (.int (p1 &&& (7 : Int32))), .val (.ref b5), .val (.int (0 : Int32))] [(.int (1 : Int32))])) _
    refine XS.goto X7.here hx rfl (pc0 := 87) (pc' := 91) rfl (hb hby at_87) (by decide) (by decide) ?_
    show Steps p.tables e below (T7.setTop (mkF m 91 #[.val (.int p1), .val (.int p2), .val (.int p3), .val (.int p4), .val (.int (p1 &&& (7 : Int32))), .val (.ref b5), .val (.int (0 : Int32))] [(.int (1 : Int32))])) _
    exact retN X7 hx (t := .boolean) Bd.returns (by simp) (hb hby at_91) hr
  · show Q0 n0 _ T7.heap _
    rw [e7]
    exact ⟨rfl, N7⟩
set_option maxRecDepth 65536 in
set_option maxHeartbeats 40000000 in
theorem rm0_fftftf (l : Launch) (Z : State) (a0 : Array Value) (hw : ∀ d ∈ tables_1, d.before a0 Z = true) (ws : List Jvm.Cond) (p1 : Int32) (p2 : Int32) (p3 : Int32) (p4 : Int32) (w_MAGIC : Addr) (kM_8 : ClassId) (r8 : Int32) (h0 : Heap) (n0 : Nat) (Z0 : n0 ≤ h0.size) (S_MAGIC : Sta Z h0 "com/example/inward_firewall/inwardfirewall/BinaryXml" "MAGIC" "[B" (.ref w_MAGIC)) (V_w_MAGIC : Arv Z h0 w_MAGIC kM_8 .byte (2 : Int32) [.int (3 : Int32), .int (0 : Int32)] (.int (0 : Int32))) (P8 : R1 (p1 &&& (7 : Int32)) (nar .byte (p2.toInt8.toInt32)) (nar .byte (p3.toInt8.toInt32)) r8) (hz8 : ¬ (p1 &&& (7 : Int32)) < 0) (hk8 : ((p1 &&& (7 : Int32))).toNatClampNeg ≤ 7) (hc14 : (0 : Int32) < (p1 &&& (7 : Int32))) (hj22 : (0 : Int32) < (p1 &&& (7 : Int32))) (hc26 : (1 : Int32) < (p1 &&& (7 : Int32))) (hj34 : (1 : Int32) < (p1 &&& (7 : Int32))) (hc38 : ¬ ((2 : Int32) < (p1 &&& (7 : Int32)))) (hc53 : ¬ ((p1 &&& (7 : Int32)) < (2 : Int32))) (hc62 : ¬ ((p2 &&& (255 : Int32)) = (3 : Int32))) (hc83 : r8 = (0 : Int32)) :
    MetFree l x (head1 (Jvm.Cond.code x code maxLocals ret :: ws) room_1) (fun a U => a = #[(.int p1), (.int p2), (.int p3), (.int p4)] ∧ Z.Warmed39 U.vm ∧ U.heap = h0) (fun _ _ _ _ _ => True) (fun _ U o U' => ∃ v L, o = .returned v ∧ Q0 n0 v U'.heap L ∧ FrameEnd U o U' L room_1.cells room_1.slots) := by
  refine MetFree.of_bodySF (plainFor_of_name pn_0) hisR ?_
  intro p e s m args below meth c s₁ Bd hml0 hP hK
  obtain ⟨rfl, hZ, hh⟩ := hP
  have hx := Bd.exec
  have hby := Bd.bytes
  have hml : c.maxLocals = 7 := hml0
  have hown : s.vm.findClass "com/example/inward_firewall/inwardfirewall/BinaryXmlIsBinaryXmlPinLaw" = some m.cls := findClass_of_methodNamed Bd.named
  have hnm := (name_of_methodNamed Bd.named Bd.method).1
  have X0 : Stand p l e room_1 s m #[(.int p1), (.int p2), (.int p3), (.int p4)] below meth c s₁ [] 0 0 := Stand.of_body Bd
  have e0 : s₁.heap = h0 := by rw [← hh, Bd.state]; rfl
  have N0 := Fr.nil n0
  have pre0 : ∀ t, Steps p.tables e below (s₁.setTop (mkF m 0 #[.val (.int p1), .val (.int p2), .val (.int p3), .val (.int p4), .unset, .unset, .unset] [])) t → Steps p.tables e below (s₁.setTop (entryFrame m #[(.int p1), (.int p2), (.int p3), (.int p4)] maxLocals)) t := fun t k => castTop (ef_0 m p1 p2 p3 p4) k
  -- 3. LAWS
  obtain ⟨T5, h5, k5, X5, e5, E5, A5, st5⟩ := newP X0 hx hZ (hw _ (List.mem_of_getElem? (i := 0) rfl)) e0 (g := (mkF m 8 #[.val (.int p1), .val (.int p2), .val (.int p3), .val (.int p4), .val (.int (p1 &&& (7 : Int32))), .unset, .unset] [(.int (p1 &&& (7 : Int32)))])) rfl (hb hby at_8) rfl hz8 (cap := 7) hk8 (by decide) (by decide) (by decide)
  obtain ⟨b5, g5⟩ : ∃ z, z = h0.size := ⟨_, rfl⟩
  rw [← g5] at A5 st5
  have V_b5 : Arv Z h5 b5 k5 .byte (p1 &&& (7 : Int32)) [(.int (0 : Int32)), (.int (0 : Int32)), (.int (0 : Int32))] (.int (0 : Int32)) := (Arv.new A5 hz8).pad (pad_rep [] (.int (0 : Int32)) 3)
  have g_b5 : n0 ≤ b5 := Nat.le_trans Z0 (Nat.le_of_eq g5.symm)
  obtain ⟨cl22v, Ar22v, q22v, S22v, N22v, H22v, G22v⟩ := V_b5
  have hin22 : ¬ ((0 : Int32) < 0 ∨ cl22v.slots.size ≤ ((0 : Int32)).toNatClampNeg) := inb_of S22v ⟨by decide, hj22⟩
  obtain ⟨T6, h6, X6, e6, W6, st6⟩ := stB X5 hx hZ e5 Ar22v (j := (0 : Int32)) hin22 (g := (mkF m 22 #[.val (.int p1), .val (.int p2), .val (.int p3), .val (.int p4), .val (.int (p1 &&& (7 : Int32))), .val (.ref b5), .unset] [(.int (p2.toInt8.toInt32)), (.int (0 : Int32)), (.ref b5)])) rfl rfl (hb hby at_22)
  have V22 : Arv Z h6 b5 k5 .byte (p1 &&& (7 : Int32)) [(.int (nar .byte (p2.toInt8.toInt32))), (.int (0 : Int32)), (.int (0 : Int32))] (.int (0 : Int32)) := Arv.set Ar22v q22v S22v N22v H22v G22v (fits_nar_byte _) W6 0 rfl (Nat.le_of_ble_eq_true rfl)
  have N6 := Fr.snoc X6 N0 g_b5
  obtain ⟨cl34v, Ar34v, q34v, S34v, N34v, H34v, G34v⟩ := V22
  have hin34 : ¬ ((1 : Int32) < 0 ∨ cl34v.slots.size ≤ ((1 : Int32)).toNatClampNeg) := inb_of S34v ⟨by decide, hj34⟩
  obtain ⟨T7, h7, X7, e7, W7, st7⟩ := stB X6 hx hZ e6 Ar34v (j := (1 : Int32)) hin34 (g := (mkF m 34 #[.val (.int p1), .val (.int p2), .val (.int p3), .val (.int p4), .val (.int (p1 &&& (7 : Int32))), .val (.ref b5), .unset] [(.int (p3.toInt8.toInt32)), (.int (1 : Int32)), (.ref b5)])) rfl rfl (hb hby at_34)
  have V34 : Arv Z h7 b5 k5 .byte (p1 &&& (7 : Int32)) [(.int (nar .byte (p2.toInt8.toInt32))), (.int (nar .byte (p3.toInt8.toInt32))), (.int (0 : Int32))] (.int (0 : Int32)) := Arv.set Ar34v q34v S34v N34v H34v G34v (fits_nar_byte _) W7 1 rfl (Nat.le_of_ble_eq_true rfl)
  have N7 := Fr.snoc X7 N6 g_b5
  obtain ⟨_, _, ⟨T8, L8, k8, n8⟩, -, X8, ⟨Lc8, hQ8, l8, y8, z8⟩, st8⟩ := Jvm.LawKit.callS X7 hx (y := (⟨"com/example/inward_firewall/inwardfirewall/BinaryXml", "isBinaryXml", "([B)Z"⟩ : MethodName)) hown (mvT hZ (hw _ (List.mem_of_getElem? (i := 1) rfl))) (mvT hZ (hw _ (List.mem_of_getElem? (i := 2) rfl))) (mvT hZ (hw _ (List.mem_of_getElem? (i := 3) rfl))) (mvT hZ (hw _ (List.mem_of_getElem? (i := 4) rfl))) (by decide) (backOf (W := 0) (rm1 l Z a0 hw [] b5 k5 (p1 &&& (7 : Int32)) (nar .byte (p2.toInt8.toInt32)) (nar .byte (p3.toInt8.toInt32)) (0 : Int32) w_MAGIC kM_8 r8 h7 n0 (Nat.le_trans (Nat.le_trans (Nat.le_trans Z0 E5.1) (Keep.of_wr W6).1) (Keep.of_wr W7).1) (((S_MAGIC.ext E5).wr W6).wr W7) V34 (((V_w_MAGIC.ext E5).other W6 (Nat.ne_of_lt (Nat.lt_of_lt_of_le V_w_MAGIC.lt (Nat.le_of_eq g5.symm)))).other W7 (Nat.ne_of_lt (Nat.lt_of_lt_of_le V_w_MAGIC.lt (Nat.le_of_eq g5.symm)))) P8) hZ (hw _ (List.mem_of_getElem? (i := 4) rfl)) (hw _ (List.mem_of_getElem? (i := 3) rfl)) (by decide) (by decide)) (g := (mkF m 78 #[.val (.int p1), .val (.int p2), .val (.int p3), .val (.int p4), .val (.int (p1 &&& (7 : Int32))), .val (.ref b5), .val (.int (0 : Int32))] [(.ref b5)])) rfl (by rw [hml]; rfl) (argsL := [(.ref b5)]) (rest := []) (lenOf pd_0_0 rfl) rfl (by show 2 * 0 + _ ≤ _; exact Nat.le_of_eq rfl) (hb hby at_78) (fun _ _ => ⟨rfl, e7, (by decide : 1 + 0 ≤ _), (by decide : 7 + 0 ≤ _)⟩)
  dsimp only [Pt.U, Pt.locs, Pt.cells, Pt.slots] at X8 l8 y8 z8 st8 hQ8
  subst l8 y8 z8
  obtain ⟨rfl, N8q, e8⟩ := hQ8
  have N8 := Fr.app N7 N8q
  obtain ⟨fs, hr, hrun, hended, hW, hsame⟩ := X8.leave (v := some (.int (1 : Int32))) (fun h => by rw [Bd.returns] at h; cases h)
  refine ⟨_, _, pre0 _ ?_, hrun, hended, _, _, rfl, ?_, ⟨_, rfl⟩, hW, hsame.mono (by decide) (by decide)⟩
  -- 4. STEPS
  · show Steps p.tables e below (s₁.setTop (mkF m 0 #[.val (.int p1), .val (.int p2), .val (.int p3), .val (.int p4), .unset, .unset, .unset] [])) _
    refine XS.iloadN X0.here hx rfl (hb hby at_0) rfl ?_
    show Steps p.tables e below (s₁.setTop (mkF m 1 #[.val (.int p1), .val (.int p2), .val (.int p3), .val (.int p4), .unset, .unset, .unset] [(.int p1)])) _
    refine XS.bipush X0.here hx rfl (hb hby at_1) ?_
    show Steps p.tables e below (s₁.setTop (mkF m 3 #[.val (.int p1), .val (.int p2), .val (.int p3), .val (.int p4), .unset, .unset, .unset] [(.int (7 : Int32)), (.int p1)])) _
    refine XS.iand X0.here hx rfl (hb hby at_3) rfl ?_
    show Steps p.tables e below (s₁.setTop (mkF m 4 #[.val (.int p1), .val (.int p2), .val (.int p3), .val (.int p4), .unset, .unset, .unset] [(.int (p1 &&& (7 : Int32)))])) _
    refine XS.istore X0.here hx rfl (hb hby at_4) rfl (l' := #[.val (.int p1), .val (.int p2), .val (.int p3), .val (.int p4), .val (.int (p1 &&& (7 : Int32))), .unset, .unset]) rfl ?_
    show Steps p.tables e below (s₁.setTop (mkF m 6 #[.val (.int p1), .val (.int p2), .val (.int p3), .val (.int p4), .val (.int (p1 &&& (7 : Int32))), .unset, .unset] [])) _
    refine XS.iload X0.here hx rfl (hb hby at_6) rfl ?_
    show Steps p.tables e below (s₁.setTop (mkF m 8 #[.val (.int p1), .val (.int p2), .val (.int p3), .val (.int p4), .val (.int (p1 &&& (7 : Int32))), .unset, .unset] [(.int (p1 &&& (7 : Int32)))])) _
    refine st5 _ ?_
    show Steps p.tables e below (T5.setTop (mkF m 10 #[.val (.int p1), .val (.int p2), .val (.int p3), .val (.int p4), .val (.int (p1 &&& (7 : Int32))), .unset, .unset] [(.ref b5)])) _
    refine XS.astore X5.here hx rfl (hb hby at_10) rfl rfl (l' := #[.val (.int p1), .val (.int p2), .val (.int p3), .val (.int p4), .val (.int (p1 &&& (7 : Int32))), .val (.ref b5), .unset]) rfl ?_
    show Steps p.tables e below (T5.setTop (mkF m 12 #[.val (.int p1), .val (.int p2), .val (.int p3), .val (.int p4), .val (.int (p1 &&& (7 : Int32))), .val (.ref b5), .unset] [])) _
    refine XS.iload X5.here hx rfl (hb hby at_12) rfl ?_
    show Steps p.tables e below (T5.setTop (mkF m 14 #[.val (.int p1), .val (.int p2), .val (.int p3), .val (.int p4), .val (.int (p1 &&& (7 : Int32))), .val (.ref b5), .unset] [(.int (p1 &&& (7 : Int32)))])) _
    refine XS.ifNo X5.here hx rfl (hb hby at_14) rfl ((if0 _ _).trans (tlt hc14).2.2.2) ?_
    show Steps p.tables e below (T5.setTop (mkF m 17 #[.val (.int p1), .val (.int p2), .val (.int p3), .val (.int p4), .val (.int (p1 &&& (7 : Int32))), .val (.ref b5), .unset] [])) _
    refine XS.aload X5.here hx rfl (hb hby at_17) rfl rfl ?_
    show Steps p.tables e below (T5.setTop (mkF m 19 #[.val (.int p1), .val (.int p2), .val (.int p3), .val (.int p4), .val (.int (p1 &&& (7 : Int32))), .val (.ref b5), .unset] [(.ref b5)])) _
    refine XS.iconst X5.here hx rfl (hb hby at_19) ?_
    show Steps p.tables e below (T5.setTop (mkF m 20 #[.val (.int p1), .val (.int p2), .val (.int p3), .val (.int p4), .val (.int (p1 &&& (7 : Int32))), .val (.ref b5), .unset] [(.int (0 : Int32)), (.ref b5)])) _
    refine XS.iloadN X5.here hx rfl (hb hby at_20) rfl ?_
    show Steps p.tables e below (T5.setTop (mkF m 21 #[.val (.int p1), .val (.int p2), .val (.int p3), .val (.int p4), .val (.int (p1 &&& (7 : Int32))), .val (.ref b5), .unset] [(.int p2), (.int (0 : Int32)), (.ref b5)])) _
    refine XS.i2b X5.here hx rfl (hb hby at_21) rfl ?_
    show Steps p.tables e below (T5.setTop (mkF m 22 #[.val (.int p1), .val (.int p2), .val (.int p3), .val (.int p4), .val (.int (p1 &&& (7 : Int32))), .val (.ref b5), .unset] [(.int (p2.toInt8.toInt32)), (.int (0 : Int32)), (.ref b5)])) _
    refine st6 _ ?_
    show Steps p.tables e below (T6.setTop (mkF m 23 #[.val (.int p1), .val (.int p2), .val (.int p3), .val (.int p4), .val (.int (p1 &&& (7 : Int32))), .val (.ref b5), .unset] [])) _
    refine XS.iload X6.here hx rfl (hb hby at_23) rfl ?_
    show Steps p.tables e below (T6.setTop (mkF m 25 #[.val (.int p1), .val (.int p2), .val (.int p3), .val (.int p4), .val (.int (p1 &&& (7 : Int32))), .val (.ref b5), .unset] [(.int (p1 &&& (7 : Int32)))])) _
    refine XS.iconst X6.here hx rfl (hb hby at_25) ?_
    show Steps p.tables e below (T6.setTop (mkF m 26 #[.val (.int p1), .val (.int p2), .val (.int p3), .val (.int p4), .val (.int (p1 &&& (7 : Int32))), .val (.ref b5), .unset] [(.int (1 : Int32)), (.int (p1 &&& (7 : Int32)))])) _
    refine XS.icmpNo X6.here hx rfl (hb hby at_26) rfl (tlt hc26).2.2.2 ?_
    show Steps p.tables e below (T6.setTop (mkF m 29 #[.val (.int p1), .val (.int p2), .val (.int p3), .val (.int p4), .val (.int (p1 &&& (7 : Int32))), .val (.ref b5), .unset] [])) _
    refine XS.aload X6.here hx rfl (hb hby at_29) rfl rfl ?_
    show Steps p.tables e below (T6.setTop (mkF m 31 #[.val (.int p1), .val (.int p2), .val (.int p3), .val (.int p4), .val (.int (p1 &&& (7 : Int32))), .val (.ref b5), .unset] [(.ref b5)])) _
    refine XS.iconst X6.here hx rfl (hb hby at_31) ?_
    show Steps p.tables e below (T6.setTop (mkF m 32 #[.val (.int p1), .val (.int p2), .val (.int p3), .val (.int p4), .val (.int (p1 &&& (7 : Int32))), .val (.ref b5), .unset] [(.int (1 : Int32)), (.ref b5)])) _
    refine XS.iloadN X6.here hx rfl (hb hby at_32) rfl ?_
    show Steps p.tables e below (T6.setTop (mkF m 33 #[.val (.int p1), .val (.int p2), .val (.int p3), .val (.int p4), .val (.int (p1 &&& (7 : Int32))), .val (.ref b5), .unset] [(.int p3), (.int (1 : Int32)), (.ref b5)])) _
    refine XS.i2b X6.here hx rfl (hb hby at_33) rfl ?_
    show Steps p.tables e below (T6.setTop (mkF m 34 #[.val (.int p1), .val (.int p2), .val (.int p3), .val (.int p4), .val (.int (p1 &&& (7 : Int32))), .val (.ref b5), .unset] [(.int (p3.toInt8.toInt32)), (.int (1 : Int32)), (.ref b5)])) _
    refine st7 _ ?_
    show Steps p.tables e below (T7.setTop (mkF m 35 #[.val (.int p1), .val (.int p2), .val (.int p3), .val (.int p4), .val (.int (p1 &&& (7 : Int32))), .val (.ref b5), .unset] [])) _
    refine XS.iload X7.here hx rfl (hb hby at_35) rfl ?_
    show Steps p.tables e below (T7.setTop (mkF m 37 #[.val (.int p1), .val (.int p2), .val (.int p3), .val (.int p4), .val (.int (p1 &&& (7 : Int32))), .val (.ref b5), .unset] [(.int (p1 &&& (7 : Int32)))])) _
    refine XS.iconst X7.here hx rfl (hb hby at_37) ?_
    show Steps p.tables e below (T7.setTop (mkF m 38 #[.val (.int p1), .val (.int p2), .val (.int p3), .val (.int p4), .val (.int (p1 &&& (7 : Int32))), .val (.ref b5), .unset] [(.int (2 : Int32)), (.int (p1 &&& (7 : Int32)))])) _
    refine XS.icmpYes X7.here hx rfl (pc0 := 38) (pc' := 47) rfl (hb hby at_38) rfl (flt hc38).2.2.2 (by decide) (by decide) ?_
    show Steps p.tables e below (T7.setTop (mkF m 47 #[.val (.int p1), .val (.int p2), .val (.int p3), .val (.int p4), .val (.int (p1 &&& (7 : Int32))), .val (.ref b5), .unset] [])) _
    refine XS.iconst X7.here hx rfl (hb hby at_47) ?_
    show Steps p.tables e below (T7.setTop (mkF m 48 #[.val (.int p1), .val (.int p2), .val (.int p3), .val (.int p4), .val (.int (p1 &&& (7 : Int32))), .val (.ref b5), .unset] [(.int (0 : Int32))])) _
    refine XS.istore X7.here hx rfl (hb hby at_48) rfl (l' := #[.val (.int p1), .val (.int p2), .val (.int p3), .val (.int p4), .val (.int (p1 &&& (7 : Int32))), .val (.ref b5), .val (.int (0 : Int32))]) rfl ?_
    show Steps p.tables e below (T7.setTop (mkF m 50 #[.val (.int p1), .val (.int p2), .val (.int p3), .val (.int p4), .val (.int (p1 &&& (7 : Int32))), .val (.ref b5), .val (.int (0 : Int32))] [])) _
    refine XS.iload X7.here hx rfl (hb hby at_50) rfl ?_
    show Steps p.tables e below (T7.setTop (mkF m 52 #[.val (.int p1), .val (.int p2), .val (.int p3), .val (.int p4), .val (.int (p1 &&& (7 : Int32))), .val (.ref b5), .val (.int (0 : Int32))] [(.int (p1 &&& (7 : Int32)))])) _
    refine XS.iconst X7.here hx rfl (hb hby at_52) ?_
    show Steps p.tables e below (T7.setTop (mkF m 53 #[.val (.int p1), .val (.int p2), .val (.int p3), .val (.int p4), .val (.int (p1 &&& (7 : Int32))), .val (.ref b5), .val (.int (0 : Int32))] [(.int (2 : Int32)), (.int (p1 &&& (7 : Int32)))])) _
    refine XS.icmpNo X7.here hx rfl (hb hby at_53) rfl (flt hc53).1 ?_
    show Steps p.tables e below (T7.setTop (mkF m 56 #[.val (.int p1), .val (.int p2), .val (.int p3), .val (.int p4), .val (.int (p1 &&& (7 : Int32))), .val (.ref b5), .val (.int (0 : Int32))] [])) _
    refine XS.iloadN X7.here hx rfl (hb hby at_56) rfl ?_
    show Steps p.tables e below (T7.setTop (mkF m 57 #[.val (.int p1), .val (.int p2), .val (.int p3), .val (.int p4), .val (.int (p1 &&& (7 : Int32))), .val (.ref b5), .val (.int (0 : Int32))] [(.int p2)])) _
    refine XS.sipush X7.here hx rfl (hb hby at_57) ?_
    show Steps p.tables e below (T7.setTop (mkF m 60 #[.val (.int p1), .val (.int p2), .val (.int p3), .val (.int p4), .val (.int (p1 &&& (7 : Int32))), .val (.ref b5), .val (.int (0 : Int32))] [(.int (255 : Int32)), (.int p2)])) _
    refine XS.iand X7.here hx rfl (hb hby at_60) rfl ?_
    show Steps p.tables e below (T7.setTop (mkF m 61 #[.val (.int p1), .val (.int p2), .val (.int p3), .val (.int p4), .val (.int (p1 &&& (7 : Int32))), .val (.ref b5), .val (.int (0 : Int32))] [(.int (p2 &&& (255 : Int32)))])) _
    refine XS.iconst X7.here hx rfl (hb hby at_61) ?_
    show Steps p.tables e below (T7.setTop (mkF m 62 #[.val (.int p1), .val (.int p2), .val (.int p3), .val (.int p4), .val (.int (p1 &&& (7 : Int32))), .val (.ref b5), .val (.int (0 : Int32))] [(.int (3 : Int32)), (.int (p2 &&& (255 : Int32)))])) _
    refine XS.icmpYes X7.here hx rfl (pc0 := 62) (pc' := 76) rfl (hb hby at_62) rfl (feq hc62).2 (by decide) (by decide) ?_
    show Steps p.tables e below (T7.setTop (mkF m 76 #[.val (.int p1), .val (.int p2), .val (.int p3), .val (.int p4), .val (.int (p1 &&& (7 : Int32))), .val (.ref b5), .val (.int (0 : Int32))] [])) _
    refine XS.aload X7.here hx rfl (hb hby at_76) rfl rfl ?_
    show Steps p.tables e below (T7.setTop (mkF m 78 #[.val (.int p1), .val (.int p2), .val (.int p3), .val (.int p4), .val (.int (p1 &&& (7 : Int32))), .val (.ref b5), .val (.int (0 : Int32))] [(.ref b5)])) _
    refine st8 _ ?_
    show Steps p.tables e below (T8.setTop (mkF m 81 #[.val (.int p1), .val (.int p2), .val (.int p3), .val (.int p4), .val (.int (p1 &&& (7 : Int32))), .val (.ref b5), .val (.int (0 : Int32))] [(.int r8)])) _
    refine XS.iload X8.here hx rfl (hb hby at_81) rfl ?_
    show Steps p.tables e below (T8.setTop (mkF m 83 #[.val (.int p1), .val (.int p2), .val (.int p3), .val (.int p4), .val (.int (p1 &&& (7 : Int32))), .val (.ref b5), .val (.int (0 : Int32))] [(.int (0 : Int32)), (.int r8)])) _
    refine XS.icmpNo X8.here hx rfl (hb hby at_83) rfl (teq hc83).2 ?_
    show Steps p.tables e below (T8.setTop (mkF m 86 #[.val (.int p1), .val (.int p2), .val (.int p3), .val (.int p4), .val (.int (p1 &&& (7 : Int32))), .val (.ref b5), .val (.int (0 : Int32))] [])) _
    refine XS.iconst X8.here hx rfl (hb hby at_86) ?_
    show Steps p.tables e below (T8.setTop (mkF m 87 #[.val (.int p1), .val (.int p2), .val (.int p3), .val (.int p4), .val (.int (p1 &&& (7 : Int32))), .val (.ref b5), .val (.int (0 : Int32))] [(.int (1 : Int32))])) _
    refine XS.goto X8.here hx rfl (pc0 := 87) (pc' := 91) rfl (hb hby at_87) (by decide) (by decide) ?_
    show Steps p.tables e below (T8.setTop (mkF m 91 #[.val (.int p1), .val (.int p2), .val (.int p3), .val (.int p4), .val (.int (p1 &&& (7 : Int32))), .val (.ref b5), .val (.int (0 : Int32))] [(.int (1 : Int32))])) _
    exact retN X8 hx (t := .boolean) Bd.returns (by simp) (hb hby at_91) hr
  · show Q0 n0 _ T8.heap _
    rw [e8]
    exact ⟨rfl, N8⟩
set_option maxRecDepth 65536 in
set_option maxHeartbeats 40000000 in
theorem rm0_fftfftf (l : Launch) (Z : State) (a0 : Array Value) (hw : ∀ d ∈ tables_1, d.before a0 Z = true) (ws : List Jvm.Cond) (p1 : Int32) (p2 : Int32) (p3 : Int32) (p4 : Int32) (w_MAGIC : Addr) (kM_8 : ClassId) (r8 : Int32) (h0 : Heap) (n0 : Nat) (Z0 : n0 ≤ h0.size) (S_MAGIC : Sta Z h0 "com/example/inward_firewall/inwardfirewall/BinaryXml" "MAGIC" "[B" (.ref w_MAGIC)) (V_w_MAGIC : Arv Z h0 w_MAGIC kM_8 .byte (2 : Int32) [.int (3 : Int32), .int (0 : Int32)] (.int (0 : Int32))) (P8 : R1 (p1 &&& (7 : Int32)) (nar .byte (p2.toInt8.toInt32)) (nar .byte (p3.toInt8.toInt32)) r8) (hz8 : ¬ (p1 &&& (7 : Int32)) < 0) (hk8 : ((p1 &&& (7 : Int32))).toNatClampNeg ≤ 7) (hc14 : (0 : Int32) < (p1 &&& (7 : Int32))) (hj22 : (0 : Int32) < (p1 &&& (7 : Int32))) (hc26 : (1 : Int32) < (p1 &&& (7 : Int32))) (hj34 : (1 : Int32) < (p1 &&& (7 : Int32))) (hc38 : ¬ ((2 : Int32) < (p1 &&& (7 : Int32)))) (hc53 : ¬ ((p1 &&& (7 : Int32)) < (2 : Int32))) (hc62 : (p2 &&& (255 : Int32)) = (3 : Int32)) (hc70 : ¬ ((p3 &&& (255 : Int32)) = (0 : Int32))) (hc83 : r8 = (0 : Int32)) :
    MetFree l x (head1 (Jvm.Cond.code x code maxLocals ret :: ws) room_1) (fun a U => a = #[(.int p1), (.int p2), (.int p3), (.int p4)] ∧ Z.Warmed39 U.vm ∧ U.heap = h0) (fun _ _ _ _ _ => True) (fun _ U o U' => ∃ v L, o = .returned v ∧ Q0 n0 v U'.heap L ∧ FrameEnd U o U' L room_1.cells room_1.slots) := by
  refine MetFree.of_bodySF (plainFor_of_name pn_0) hisR ?_
  intro p e s m args below meth c s₁ Bd hml0 hP hK
  obtain ⟨rfl, hZ, hh⟩ := hP
  have hx := Bd.exec
  have hby := Bd.bytes
  have hml : c.maxLocals = 7 := hml0
  have hown : s.vm.findClass "com/example/inward_firewall/inwardfirewall/BinaryXmlIsBinaryXmlPinLaw" = some m.cls := findClass_of_methodNamed Bd.named
  have hnm := (name_of_methodNamed Bd.named Bd.method).1
  have X0 : Stand p l e room_1 s m #[(.int p1), (.int p2), (.int p3), (.int p4)] below meth c s₁ [] 0 0 := Stand.of_body Bd
  have e0 : s₁.heap = h0 := by rw [← hh, Bd.state]; rfl
  have N0 := Fr.nil n0
  have pre0 : ∀ t, Steps p.tables e below (s₁.setTop (mkF m 0 #[.val (.int p1), .val (.int p2), .val (.int p3), .val (.int p4), .unset, .unset, .unset] [])) t → Steps p.tables e below (s₁.setTop (entryFrame m #[(.int p1), (.int p2), (.int p3), (.int p4)] maxLocals)) t := fun t k => castTop (ef_0 m p1 p2 p3 p4) k
  -- 3. LAWS
  obtain ⟨T5, h5, k5, X5, e5, E5, A5, st5⟩ := newP X0 hx hZ (hw _ (List.mem_of_getElem? (i := 0) rfl)) e0 (g := (mkF m 8 #[.val (.int p1), .val (.int p2), .val (.int p3), .val (.int p4), .val (.int (p1 &&& (7 : Int32))), .unset, .unset] [(.int (p1 &&& (7 : Int32)))])) rfl (hb hby at_8) rfl hz8 (cap := 7) hk8 (by decide) (by decide) (by decide)
  obtain ⟨b5, g5⟩ : ∃ z, z = h0.size := ⟨_, rfl⟩
  rw [← g5] at A5 st5
  have V_b5 : Arv Z h5 b5 k5 .byte (p1 &&& (7 : Int32)) [(.int (0 : Int32)), (.int (0 : Int32)), (.int (0 : Int32))] (.int (0 : Int32)) := (Arv.new A5 hz8).pad (pad_rep [] (.int (0 : Int32)) 3)
  have g_b5 : n0 ≤ b5 := Nat.le_trans Z0 (Nat.le_of_eq g5.symm)
  obtain ⟨cl22v, Ar22v, q22v, S22v, N22v, H22v, G22v⟩ := V_b5
  have hin22 : ¬ ((0 : Int32) < 0 ∨ cl22v.slots.size ≤ ((0 : Int32)).toNatClampNeg) := inb_of S22v ⟨by decide, hj22⟩
  obtain ⟨T6, h6, X6, e6, W6, st6⟩ := stB X5 hx hZ e5 Ar22v (j := (0 : Int32)) hin22 (g := (mkF m 22 #[.val (.int p1), .val (.int p2), .val (.int p3), .val (.int p4), .val (.int (p1 &&& (7 : Int32))), .val (.ref b5), .unset] [(.int (p2.toInt8.toInt32)), (.int (0 : Int32)), (.ref b5)])) rfl rfl (hb hby at_22)
  have V22 : Arv Z h6 b5 k5 .byte (p1 &&& (7 : Int32)) [(.int (nar .byte (p2.toInt8.toInt32))), (.int (0 : Int32)), (.int (0 : Int32))] (.int (0 : Int32)) := Arv.set Ar22v q22v S22v N22v H22v G22v (fits_nar_byte _) W6 0 rfl (Nat.le_of_ble_eq_true rfl)
  have N6 := Fr.snoc X6 N0 g_b5
  obtain ⟨cl34v, Ar34v, q34v, S34v, N34v, H34v, G34v⟩ := V22
  have hin34 : ¬ ((1 : Int32) < 0 ∨ cl34v.slots.size ≤ ((1 : Int32)).toNatClampNeg) := inb_of S34v ⟨by decide, hj34⟩
  obtain ⟨T7, h7, X7, e7, W7, st7⟩ := stB X6 hx hZ e6 Ar34v (j := (1 : Int32)) hin34 (g := (mkF m 34 #[.val (.int p1), .val (.int p2), .val (.int p3), .val (.int p4), .val (.int (p1 &&& (7 : Int32))), .val (.ref b5), .unset] [(.int (p3.toInt8.toInt32)), (.int (1 : Int32)), (.ref b5)])) rfl rfl (hb hby at_34)
  have V34 : Arv Z h7 b5 k5 .byte (p1 &&& (7 : Int32)) [(.int (nar .byte (p2.toInt8.toInt32))), (.int (nar .byte (p3.toInt8.toInt32))), (.int (0 : Int32))] (.int (0 : Int32)) := Arv.set Ar34v q34v S34v N34v H34v G34v (fits_nar_byte _) W7 1 rfl (Nat.le_of_ble_eq_true rfl)
  have N7 := Fr.snoc X7 N6 g_b5
  obtain ⟨_, _, ⟨T8, L8, k8, n8⟩, -, X8, ⟨Lc8, hQ8, l8, y8, z8⟩, st8⟩ := Jvm.LawKit.callS X7 hx (y := (⟨"com/example/inward_firewall/inwardfirewall/BinaryXml", "isBinaryXml", "([B)Z"⟩ : MethodName)) hown (mvT hZ (hw _ (List.mem_of_getElem? (i := 1) rfl))) (mvT hZ (hw _ (List.mem_of_getElem? (i := 2) rfl))) (mvT hZ (hw _ (List.mem_of_getElem? (i := 3) rfl))) (mvT hZ (hw _ (List.mem_of_getElem? (i := 4) rfl))) (by decide) (backOf (W := 0) (rm1 l Z a0 hw [] b5 k5 (p1 &&& (7 : Int32)) (nar .byte (p2.toInt8.toInt32)) (nar .byte (p3.toInt8.toInt32)) (0 : Int32) w_MAGIC kM_8 r8 h7 n0 (Nat.le_trans (Nat.le_trans (Nat.le_trans Z0 E5.1) (Keep.of_wr W6).1) (Keep.of_wr W7).1) (((S_MAGIC.ext E5).wr W6).wr W7) V34 (((V_w_MAGIC.ext E5).other W6 (Nat.ne_of_lt (Nat.lt_of_lt_of_le V_w_MAGIC.lt (Nat.le_of_eq g5.symm)))).other W7 (Nat.ne_of_lt (Nat.lt_of_lt_of_le V_w_MAGIC.lt (Nat.le_of_eq g5.symm)))) P8) hZ (hw _ (List.mem_of_getElem? (i := 4) rfl)) (hw _ (List.mem_of_getElem? (i := 3) rfl)) (by decide) (by decide)) (g := (mkF m 78 #[.val (.int p1), .val (.int p2), .val (.int p3), .val (.int p4), .val (.int (p1 &&& (7 : Int32))), .val (.ref b5), .val (.int (0 : Int32))] [(.ref b5)])) rfl (by rw [hml]; rfl) (argsL := [(.ref b5)]) (rest := []) (lenOf pd_0_0 rfl) rfl (by show 2 * 0 + _ ≤ _; exact Nat.le_of_eq rfl) (hb hby at_78) (fun _ _ => ⟨rfl, e7, (by decide : 1 + 0 ≤ _), (by decide : 7 + 0 ≤ _)⟩)
  dsimp only [Pt.U, Pt.locs, Pt.cells, Pt.slots] at X8 l8 y8 z8 st8 hQ8
  subst l8 y8 z8
  obtain ⟨rfl, N8q, e8⟩ := hQ8
  have N8 := Fr.app N7 N8q
  obtain ⟨fs, hr, hrun, hended, hW, hsame⟩ := X8.leave (v := some (.int (1 : Int32))) (fun h => by rw [Bd.returns] at h; cases h)
  refine ⟨_, _, pre0 _ ?_, hrun, hended, _, _, rfl, ?_, ⟨_, rfl⟩, hW, hsame.mono (by decide) (by decide)⟩
  -- 4. STEPS
  · show Steps p.tables e below (s₁.setTop (mkF m 0 #[.val (.int p1), .val (.int p2), .val (.int p3), .val (.int p4), .unset, .unset, .unset] [])) _
    refine XS.iloadN X0.here hx rfl (hb hby at_0) rfl ?_
    show Steps p.tables e below (s₁.setTop (mkF m 1 #[.val (.int p1), .val (.int p2), .val (.int p3), .val (.int p4), .unset, .unset, .unset] [(.int p1)])) _
    refine XS.bipush X0.here hx rfl (hb hby at_1) ?_
    show Steps p.tables e below (s₁.setTop (mkF m 3 #[.val (.int p1), .val (.int p2), .val (.int p3), .val (.int p4), .unset, .unset, .unset] [(.int (7 : Int32)), (.int p1)])) _
    refine XS.iand X0.here hx rfl (hb hby at_3) rfl ?_
    show Steps p.tables e below (s₁.setTop (mkF m 4 #[.val (.int p1), .val (.int p2), .val (.int p3), .val (.int p4), .unset, .unset, .unset] [(.int (p1 &&& (7 : Int32)))])) _
    refine XS.istore X0.here hx rfl (hb hby at_4) rfl (l' := #[.val (.int p1), .val (.int p2), .val (.int p3), .val (.int p4), .val (.int (p1 &&& (7 : Int32))), .unset, .unset]) rfl ?_
    show Steps p.tables e below (s₁.setTop (mkF m 6 #[.val (.int p1), .val (.int p2), .val (.int p3), .val (.int p4), .val (.int (p1 &&& (7 : Int32))), .unset, .unset] [])) _
    refine XS.iload X0.here hx rfl (hb hby at_6) rfl ?_
    show Steps p.tables e below (s₁.setTop (mkF m 8 #[.val (.int p1), .val (.int p2), .val (.int p3), .val (.int p4), .val (.int (p1 &&& (7 : Int32))), .unset, .unset] [(.int (p1 &&& (7 : Int32)))])) _
    refine st5 _ ?_
    show Steps p.tables e below (T5.setTop (mkF m 10 #[.val (.int p1), .val (.int p2), .val (.int p3), .val (.int p4), .val (.int (p1 &&& (7 : Int32))), .unset, .unset] [(.ref b5)])) _
    refine XS.astore X5.here hx rfl (hb hby at_10) rfl rfl (l' := #[.val (.int p1), .val (.int p2), .val (.int p3), .val (.int p4), .val (.int (p1 &&& (7 : Int32))), .val (.ref b5), .unset]) rfl ?_
    show Steps p.tables e below (T5.setTop (mkF m 12 #[.val (.int p1), .val (.int p2), .val (.int p3), .val (.int p4), .val (.int (p1 &&& (7 : Int32))), .val (.ref b5), .unset] [])) _
    refine XS.iload X5.here hx rfl (hb hby at_12) rfl ?_
    show Steps p.tables e below (T5.setTop (mkF m 14 #[.val (.int p1), .val (.int p2), .val (.int p3), .val (.int p4), .val (.int (p1 &&& (7 : Int32))), .val (.ref b5), .unset] [(.int (p1 &&& (7 : Int32)))])) _
    refine XS.ifNo X5.here hx rfl (hb hby at_14) rfl ((if0 _ _).trans (tlt hc14).2.2.2) ?_
    show Steps p.tables e below (T5.setTop (mkF m 17 #[.val (.int p1), .val (.int p2), .val (.int p3), .val (.int p4), .val (.int (p1 &&& (7 : Int32))), .val (.ref b5), .unset] [])) _
    refine XS.aload X5.here hx rfl (hb hby at_17) rfl rfl ?_
    show Steps p.tables e below (T5.setTop (mkF m 19 #[.val (.int p1), .val (.int p2), .val (.int p3), .val (.int p4), .val (.int (p1 &&& (7 : Int32))), .val (.ref b5), .unset] [(.ref b5)])) _
    refine XS.iconst X5.here hx rfl (hb hby at_19) ?_
    show Steps p.tables e below (T5.setTop (mkF m 20 #[.val (.int p1), .val (.int p2), .val (.int p3), .val (.int p4), .val (.int (p1 &&& (7 : Int32))), .val (.ref b5), .unset] [(.int (0 : Int32)), (.ref b5)])) _
    refine XS.iloadN X5.here hx rfl (hb hby at_20) rfl ?_
    show Steps p.tables e below (T5.setTop (mkF m 21 #[.val (.int p1), .val (.int p2), .val (.int p3), .val (.int p4), .val (.int (p1 &&& (7 : Int32))), .val (.ref b5), .unset] [(.int p2), (.int (0 : Int32)), (.ref b5)])) _
    refine XS.i2b X5.here hx rfl (hb hby at_21) rfl ?_
    show Steps p.tables e below (T5.setTop (mkF m 22 #[.val (.int p1), .val (.int p2), .val (.int p3), .val (.int p4), .val (.int (p1 &&& (7 : Int32))), .val (.ref b5), .unset] [(.int (p2.toInt8.toInt32)), (.int (0 : Int32)), (.ref b5)])) _
    refine st6 _ ?_
    show Steps p.tables e below (T6.setTop (mkF m 23 #[.val (.int p1), .val (.int p2), .val (.int p3), .val (.int p4), .val (.int (p1 &&& (7 : Int32))), .val (.ref b5), .unset] [])) _
    refine XS.iload X6.here hx rfl (hb hby at_23) rfl ?_
    show Steps p.tables e below (T6.setTop (mkF m 25 #[.val (.int p1), .val (.int p2), .val (.int p3), .val (.int p4), .val (.int (p1 &&& (7 : Int32))), .val (.ref b5), .unset] [(.int (p1 &&& (7 : Int32)))])) _
    refine XS.iconst X6.here hx rfl (hb hby at_25) ?_
    show Steps p.tables e below (T6.setTop (mkF m 26 #[.val (.int p1), .val (.int p2), .val (.int p3), .val (.int p4), .val (.int (p1 &&& (7 : Int32))), .val (.ref b5), .unset] [(.int (1 : Int32)), (.int (p1 &&& (7 : Int32)))])) _
    refine XS.icmpNo X6.here hx rfl (hb hby at_26) rfl (tlt hc26).2.2.2 ?_
    show Steps p.tables e below (T6.setTop (mkF m 29 #[.val (.int p1), .val (.int p2), .val (.int p3), .val (.int p4), .val (.int (p1 &&& (7 : Int32))), .val (.ref b5), .unset] [])) _
    refine XS.aload X6.here hx rfl (hb hby at_29) rfl rfl ?_
    show Steps p.tables e below (T6.setTop (mkF m 31 #[.val (.int p1), .val (.int p2), .val (.int p3), .val (.int p4), .val (.int (p1 &&& (7 : Int32))), .val (.ref b5), .unset] [(.ref b5)])) _
    refine XS.iconst X6.here hx rfl (hb hby at_31) ?_
    show Steps p.tables e below (T6.setTop (mkF m 32 #[.val (.int p1), .val (.int p2), .val (.int p3), .val (.int p4), .val (.int (p1 &&& (7 : Int32))), .val (.ref b5), .unset] [(.int (1 : Int32)), (.ref b5)])) _
    refine XS.iloadN X6.here hx rfl (hb hby at_32) rfl ?_
    show Steps p.tables e below (T6.setTop (mkF m 33 #[.val (.int p1), .val (.int p2), .val (.int p3), .val (.int p4), .val (.int (p1 &&& (7 : Int32))), .val (.ref b5), .unset] [(.int p3), (.int (1 : Int32)), (.ref b5)])) _
    refine XS.i2b X6.here hx rfl (hb hby at_33) rfl ?_
    show Steps p.tables e below (T6.setTop (mkF m 34 #[.val (.int p1), .val (.int p2), .val (.int p3), .val (.int p4), .val (.int (p1 &&& (7 : Int32))), .val (.ref b5), .unset] [(.int (p3.toInt8.toInt32)), (.int (1 : Int32)), (.ref b5)])) _
    refine st7 _ ?_
    show Steps p.tables e below (T7.setTop (mkF m 35 #[.val (.int p1), .val (.int p2), .val (.int p3), .val (.int p4), .val (.int (p1 &&& (7 : Int32))), .val (.ref b5), .unset] [])) _
    refine XS.iload X7.here hx rfl (hb hby at_35) rfl ?_
    show Steps p.tables e below (T7.setTop (mkF m 37 #[.val (.int p1), .val (.int p2), .val (.int p3), .val (.int p4), .val (.int (p1 &&& (7 : Int32))), .val (.ref b5), .unset] [(.int (p1 &&& (7 : Int32)))])) _
    refine XS.iconst X7.here hx rfl (hb hby at_37) ?_
    show Steps p.tables e below (T7.setTop (mkF m 38 #[.val (.int p1), .val (.int p2), .val (.int p3), .val (.int p4), .val (.int (p1 &&& (7 : Int32))), .val (.ref b5), .unset] [(.int (2 : Int32)), (.int (p1 &&& (7 : Int32)))])) _
    refine XS.icmpYes X7.here hx rfl (pc0 := 38) (pc' := 47) rfl (hb hby at_38) rfl (flt hc38).2.2.2 (by decide) (by decide) ?_
    show Steps p.tables e below (T7.setTop (mkF m 47 #[.val (.int p1), .val (.int p2), .val (.int p3), .val (.int p4), .val (.int (p1 &&& (7 : Int32))), .val (.ref b5), .unset] [])) _
    refine XS.iconst X7.here hx rfl (hb hby at_47) ?_
    show Steps p.tables e below (T7.setTop (mkF m 48 #[.val (.int p1), .val (.int p2), .val (.int p3), .val (.int p4), .val (.int (p1 &&& (7 : Int32))), .val (.ref b5), .unset] [(.int (0 : Int32))])) _
    refine XS.istore X7.here hx rfl (hb hby at_48) rfl (l' := #[.val (.int p1), .val (.int p2), .val (.int p3), .val (.int p4), .val (.int (p1 &&& (7 : Int32))), .val (.ref b5), .val (.int (0 : Int32))]) rfl ?_
    show Steps p.tables e below (T7.setTop (mkF m 50 #[.val (.int p1), .val (.int p2), .val (.int p3), .val (.int p4), .val (.int (p1 &&& (7 : Int32))), .val (.ref b5), .val (.int (0 : Int32))] [])) _
    refine XS.iload X7.here hx rfl (hb hby at_50) rfl ?_
    show Steps p.tables e below (T7.setTop (mkF m 52 #[.val (.int p1), .val (.int p2), .val (.int p3), .val (.int p4), .val (.int (p1 &&& (7 : Int32))), .val (.ref b5), .val (.int (0 : Int32))] [(.int (p1 &&& (7 : Int32)))])) _
    refine XS.iconst X7.here hx rfl (hb hby at_52) ?_
    show Steps p.tables e below (T7.setTop (mkF m 53 #[.val (.int p1), .val (.int p2), .val (.int p3), .val (.int p4), .val (.int (p1 &&& (7 : Int32))), .val (.ref b5), .val (.int (0 : Int32))] [(.int (2 : Int32)), (.int (p1 &&& (7 : Int32)))])) _
    refine XS.icmpNo X7.here hx rfl (hb hby at_53) rfl (flt hc53).1 ?_
    show Steps p.tables e below (T7.setTop (mkF m 56 #[.val (.int p1), .val (.int p2), .val (.int p3), .val (.int p4), .val (.int (p1 &&& (7 : Int32))), .val (.ref b5), .val (.int (0 : Int32))] [])) _
    refine XS.iloadN X7.here hx rfl (hb hby at_56) rfl ?_
    show Steps p.tables e below (T7.setTop (mkF m 57 #[.val (.int p1), .val (.int p2), .val (.int p3), .val (.int p4), .val (.int (p1 &&& (7 : Int32))), .val (.ref b5), .val (.int (0 : Int32))] [(.int p2)])) _
    refine XS.sipush X7.here hx rfl (hb hby at_57) ?_
    show Steps p.tables e below (T7.setTop (mkF m 60 #[.val (.int p1), .val (.int p2), .val (.int p3), .val (.int p4), .val (.int (p1 &&& (7 : Int32))), .val (.ref b5), .val (.int (0 : Int32))] [(.int (255 : Int32)), (.int p2)])) _
    refine XS.iand X7.here hx rfl (hb hby at_60) rfl ?_
    show Steps p.tables e below (T7.setTop (mkF m 61 #[.val (.int p1), .val (.int p2), .val (.int p3), .val (.int p4), .val (.int (p1 &&& (7 : Int32))), .val (.ref b5), .val (.int (0 : Int32))] [(.int (p2 &&& (255 : Int32)))])) _
    refine XS.iconst X7.here hx rfl (hb hby at_61) ?_
    show Steps p.tables e below (T7.setTop (mkF m 62 #[.val (.int p1), .val (.int p2), .val (.int p3), .val (.int p4), .val (.int (p1 &&& (7 : Int32))), .val (.ref b5), .val (.int (0 : Int32))] [(.int (3 : Int32)), (.int (p2 &&& (255 : Int32)))])) _
    refine XS.icmpNo X7.here hx rfl (hb hby at_62) rfl (teq hc62).2 ?_
    show Steps p.tables e below (T7.setTop (mkF m 65 #[.val (.int p1), .val (.int p2), .val (.int p3), .val (.int p4), .val (.int (p1 &&& (7 : Int32))), .val (.ref b5), .val (.int (0 : Int32))] [])) _
    refine XS.iloadN X7.here hx rfl (hb hby at_65) rfl ?_
    show Steps p.tables e below (T7.setTop (mkF m 66 #[.val (.int p1), .val (.int p2), .val (.int p3), .val (.int p4), .val (.int (p1 &&& (7 : Int32))), .val (.ref b5), .val (.int (0 : Int32))] [(.int p3)])) _
    refine XS.sipush X7.here hx rfl (hb hby at_66) ?_
    show Steps p.tables e below (T7.setTop (mkF m 69 #[.val (.int p1), .val (.int p2), .val (.int p3), .val (.int p4), .val (.int (p1 &&& (7 : Int32))), .val (.ref b5), .val (.int (0 : Int32))] [(.int (255 : Int32)), (.int p3)])) _
    refine XS.iand X7.here hx rfl (hb hby at_69) rfl ?_
    show Steps p.tables e below (T7.setTop (mkF m 70 #[.val (.int p1), .val (.int p2), .val (.int p3), .val (.int p4), .val (.int (p1 &&& (7 : Int32))), .val (.ref b5), .val (.int (0 : Int32))] [(.int (p3 &&& (255 : Int32)))])) _
    refine XS.ifYes X7.here hx rfl (pc0 := 70) (pc' := 76) rfl (hb hby at_70) rfl ((if0 _ _).trans (feq hc70).2) (by decide) (by decide) ?_
    show Steps p.tables e below (T7.setTop (mkF m 76 #[.val (.int p1), .val (.int p2), .val (.int p3), .val (.int p4), .val (.int (p1 &&& (7 : Int32))), .val (.ref b5), .val (.int (0 : Int32))] [])) _
    refine XS.aload X7.here hx rfl (hb hby at_76) rfl rfl ?_
    show Steps p.tables e below (T7.setTop (mkF m 78 #[.val (.int p1), .val (.int p2), .val (.int p3), .val (.int p4), .val (.int (p1 &&& (7 : Int32))), .val (.ref b5), .val (.int (0 : Int32))] [(.ref b5)])) _
    refine st8 _ ?_
    show Steps p.tables e below (T8.setTop (mkF m 81 #[.val (.int p1), .val (.int p2), .val (.int p3), .val (.int p4), .val (.int (p1 &&& (7 : Int32))), .val (.ref b5), .val (.int (0 : Int32))] [(.int r8)])) _
    refine XS.iload X8.here hx rfl (hb hby at_81) rfl ?_
    show Steps p.tables e below (T8.setTop (mkF m 83 #[.val (.int p1), .val (.int p2), .val (.int p3), .val (.int p4), .val (.int (p1 &&& (7 : Int32))), .val (.ref b5), .val (.int (0 : Int32))] [(.int (0 : Int32)), (.int r8)])) _
    refine XS.icmpNo X8.here hx rfl (hb hby at_83) rfl (teq hc83).2 ?_
    show Steps p.tables e below (T8.setTop (mkF m 86 #[.val (.int p1), .val (.int p2), .val (.int p3), .val (.int p4), .val (.int (p1 &&& (7 : Int32))), .val (.ref b5), .val (.int (0 : Int32))] [])) _
    refine XS.iconst X8.here hx rfl (hb hby at_86) ?_
    show Steps p.tables e below (T8.setTop (mkF m 87 #[.val (.int p1), .val (.int p2), .val (.int p3), .val (.int p4), .val (.int (p1 &&& (7 : Int32))), .val (.ref b5), .val (.int (0 : Int32))] [(.int (1 : Int32))])) _
    refine XS.goto X8.here hx rfl (pc0 := 87) (pc' := 91) rfl (hb hby at_87) (by decide) (by decide) ?_
    show Steps p.tables e below (T8.setTop (mkF m 91 #[.val (.int p1), .val (.int p2), .val (.int p3), .val (.int p4), .val (.int (p1 &&& (7 : Int32))), .val (.ref b5), .val (.int (0 : Int32))] [(.int (1 : Int32))])) _
    exact retN X8 hx (t := .boolean) Bd.returns (by simp) (hb hby at_91) hr
  · show Q0 n0 _ T8.heap _
    rw [e8]
    exact ⟨rfl, N8⟩
set_option maxRecDepth 65536 in
set_option maxHeartbeats 40000000 in
theorem rm0_fftffff (l : Launch) (Z : State) (a0 : Array Value) (hw : ∀ d ∈ tables_1, d.before a0 Z = true) (ws : List Jvm.Cond) (p1 : Int32) (p2 : Int32) (p3 : Int32) (p4 : Int32) (w_MAGIC : Addr) (kM_8 : ClassId) (r8 : Int32) (h0 : Heap) (n0 : Nat) (Z0 : n0 ≤ h0.size) (S_MAGIC : Sta Z h0 "com/example/inward_firewall/inwardfirewall/BinaryXml" "MAGIC" "[B" (.ref w_MAGIC)) (V_w_MAGIC : Arv Z h0 w_MAGIC kM_8 .byte (2 : Int32) [.int (3 : Int32), .int (0 : Int32)] (.int (0 : Int32))) (P8 : R1 (p1 &&& (7 : Int32)) (nar .byte (p2.toInt8.toInt32)) (nar .byte (p3.toInt8.toInt32)) r8) (hz8 : ¬ (p1 &&& (7 : Int32)) < 0) (hk8 : ((p1 &&& (7 : Int32))).toNatClampNeg ≤ 7) (hc14 : (0 : Int32) < (p1 &&& (7 : Int32))) (hj22 : (0 : Int32) < (p1 &&& (7 : Int32))) (hc26 : (1 : Int32) < (p1 &&& (7 : Int32))) (hj34 : (1 : Int32) < (p1 &&& (7 : Int32))) (hc38 : ¬ ((2 : Int32) < (p1 &&& (7 : Int32)))) (hc53 : ¬ ((p1 &&& (7 : Int32)) < (2 : Int32))) (hc62 : (p2 &&& (255 : Int32)) = (3 : Int32)) (hc70 : (p3 &&& (255 : Int32)) = (0 : Int32)) (hc83 : r8 = (1 : Int32)) :
    MetFree l x (head1 (Jvm.Cond.code x code maxLocals ret :: ws) room_1) (fun a U => a = #[(.int p1), (.int p2), (.int p3), (.int p4)] ∧ Z.Warmed39 U.vm ∧ U.heap = h0) (fun _ _ _ _ _ => True) (fun _ U o U' => ∃ v L, o = .returned v ∧ Q0 n0 v U'.heap L ∧ FrameEnd U o U' L room_1.cells room_1.slots) := by
  refine MetFree.of_bodySF (plainFor_of_name pn_0) hisR ?_
  intro p e s m args below meth c s₁ Bd hml0 hP hK
  obtain ⟨rfl, hZ, hh⟩ := hP
  have hx := Bd.exec
  have hby := Bd.bytes
  have hml : c.maxLocals = 7 := hml0
  have hown : s.vm.findClass "com/example/inward_firewall/inwardfirewall/BinaryXmlIsBinaryXmlPinLaw" = some m.cls := findClass_of_methodNamed Bd.named
  have hnm := (name_of_methodNamed Bd.named Bd.method).1
  have X0 : Stand p l e room_1 s m #[(.int p1), (.int p2), (.int p3), (.int p4)] below meth c s₁ [] 0 0 := Stand.of_body Bd
  have e0 : s₁.heap = h0 := by rw [← hh, Bd.state]; rfl
  have N0 := Fr.nil n0
  have pre0 : ∀ t, Steps p.tables e below (s₁.setTop (mkF m 0 #[.val (.int p1), .val (.int p2), .val (.int p3), .val (.int p4), .unset, .unset, .unset] [])) t → Steps p.tables e below (s₁.setTop (entryFrame m #[(.int p1), (.int p2), (.int p3), (.int p4)] maxLocals)) t := fun t k => castTop (ef_0 m p1 p2 p3 p4) k
  -- 3. LAWS
  obtain ⟨T5, h5, k5, X5, e5, E5, A5, st5⟩ := newP X0 hx hZ (hw _ (List.mem_of_getElem? (i := 0) rfl)) e0 (g := (mkF m 8 #[.val (.int p1), .val (.int p2), .val (.int p3), .val (.int p4), .val (.int (p1 &&& (7 : Int32))), .unset, .unset] [(.int (p1 &&& (7 : Int32)))])) rfl (hb hby at_8) rfl hz8 (cap := 7) hk8 (by decide) (by decide) (by decide)
  obtain ⟨b5, g5⟩ : ∃ z, z = h0.size := ⟨_, rfl⟩
  rw [← g5] at A5 st5
  have V_b5 : Arv Z h5 b5 k5 .byte (p1 &&& (7 : Int32)) [(.int (0 : Int32)), (.int (0 : Int32)), (.int (0 : Int32))] (.int (0 : Int32)) := (Arv.new A5 hz8).pad (pad_rep [] (.int (0 : Int32)) 3)
  have g_b5 : n0 ≤ b5 := Nat.le_trans Z0 (Nat.le_of_eq g5.symm)
  obtain ⟨cl22v, Ar22v, q22v, S22v, N22v, H22v, G22v⟩ := V_b5
  have hin22 : ¬ ((0 : Int32) < 0 ∨ cl22v.slots.size ≤ ((0 : Int32)).toNatClampNeg) := inb_of S22v ⟨by decide, hj22⟩
  obtain ⟨T6, h6, X6, e6, W6, st6⟩ := stB X5 hx hZ e5 Ar22v (j := (0 : Int32)) hin22 (g := (mkF m 22 #[.val (.int p1), .val (.int p2), .val (.int p3), .val (.int p4), .val (.int (p1 &&& (7 : Int32))), .val (.ref b5), .unset] [(.int (p2.toInt8.toInt32)), (.int (0 : Int32)), (.ref b5)])) rfl rfl (hb hby at_22)
  have V22 : Arv Z h6 b5 k5 .byte (p1 &&& (7 : Int32)) [(.int (nar .byte (p2.toInt8.toInt32))), (.int (0 : Int32)), (.int (0 : Int32))] (.int (0 : Int32)) := Arv.set Ar22v q22v S22v N22v H22v G22v (fits_nar_byte _) W6 0 rfl (Nat.le_of_ble_eq_true rfl)
  have N6 := Fr.snoc X6 N0 g_b5
  obtain ⟨cl34v, Ar34v, q34v, S34v, N34v, H34v, G34v⟩ := V22
  have hin34 : ¬ ((1 : Int32) < 0 ∨ cl34v.slots.size ≤ ((1 : Int32)).toNatClampNeg) := inb_of S34v ⟨by decide, hj34⟩
  obtain ⟨T7, h7, X7, e7, W7, st7⟩ := stB X6 hx hZ e6 Ar34v (j := (1 : Int32)) hin34 (g := (mkF m 34 #[.val (.int p1), .val (.int p2), .val (.int p3), .val (.int p4), .val (.int (p1 &&& (7 : Int32))), .val (.ref b5), .unset] [(.int (p3.toInt8.toInt32)), (.int (1 : Int32)), (.ref b5)])) rfl rfl (hb hby at_34)
  have V34 : Arv Z h7 b5 k5 .byte (p1 &&& (7 : Int32)) [(.int (nar .byte (p2.toInt8.toInt32))), (.int (nar .byte (p3.toInt8.toInt32))), (.int (0 : Int32))] (.int (0 : Int32)) := Arv.set Ar34v q34v S34v N34v H34v G34v (fits_nar_byte _) W7 1 rfl (Nat.le_of_ble_eq_true rfl)
  have N7 := Fr.snoc X7 N6 g_b5
  obtain ⟨_, _, ⟨T8, L8, k8, n8⟩, -, X8, ⟨Lc8, hQ8, l8, y8, z8⟩, st8⟩ := Jvm.LawKit.callS X7 hx (y := (⟨"com/example/inward_firewall/inwardfirewall/BinaryXml", "isBinaryXml", "([B)Z"⟩ : MethodName)) hown (mvT hZ (hw _ (List.mem_of_getElem? (i := 1) rfl))) (mvT hZ (hw _ (List.mem_of_getElem? (i := 2) rfl))) (mvT hZ (hw _ (List.mem_of_getElem? (i := 3) rfl))) (mvT hZ (hw _ (List.mem_of_getElem? (i := 4) rfl))) (by decide) (backOf (W := 0) (rm1 l Z a0 hw [] b5 k5 (p1 &&& (7 : Int32)) (nar .byte (p2.toInt8.toInt32)) (nar .byte (p3.toInt8.toInt32)) (0 : Int32) w_MAGIC kM_8 r8 h7 n0 (Nat.le_trans (Nat.le_trans (Nat.le_trans Z0 E5.1) (Keep.of_wr W6).1) (Keep.of_wr W7).1) (((S_MAGIC.ext E5).wr W6).wr W7) V34 (((V_w_MAGIC.ext E5).other W6 (Nat.ne_of_lt (Nat.lt_of_lt_of_le V_w_MAGIC.lt (Nat.le_of_eq g5.symm)))).other W7 (Nat.ne_of_lt (Nat.lt_of_lt_of_le V_w_MAGIC.lt (Nat.le_of_eq g5.symm)))) P8) hZ (hw _ (List.mem_of_getElem? (i := 4) rfl)) (hw _ (List.mem_of_getElem? (i := 3) rfl)) (by decide) (by decide)) (g := (mkF m 78 #[.val (.int p1), .val (.int p2), .val (.int p3), .val (.int p4), .val (.int (p1 &&& (7 : Int32))), .val (.ref b5), .val (.int (1 : Int32))] [(.ref b5)])) rfl (by rw [hml]; rfl) (argsL := [(.ref b5)]) (rest := []) (lenOf pd_0_0 rfl) rfl (by show 2 * 0 + _ ≤ _; exact Nat.le_of_eq rfl) (hb hby at_78) (fun _ _ => ⟨rfl, e7, (by decide : 1 + 0 ≤ _), (by decide : 7 + 0 ≤ _)⟩)
  dsimp only [Pt.U, Pt.locs, Pt.cells, Pt.slots] at X8 l8 y8 z8 st8 hQ8
  subst l8 y8 z8
  obtain ⟨rfl, N8q, e8⟩ := hQ8
  have N8 := Fr.app N7 N8q
  obtain ⟨fs, hr, hrun, hended, hW, hsame⟩ := X8.leave (v := some (.int (1 : Int32))) (fun h => by rw [Bd.returns] at h; cases h)
  refine ⟨_, _, pre0 _ ?_, hrun, hended, _, _, rfl, ?_, ⟨_, rfl⟩, hW, hsame.mono (by decide) (by decide)⟩
  -- 4. STEPS
  · show Steps p.tables e below (s₁.setTop (mkF m 0 #[.val (.int p1), .val (.int p2), .val (.int p3), .val (.int p4), .unset, .unset, .unset] [])) _
    refine XS.iloadN X0.here hx rfl (hb hby at_0) rfl ?_
    show Steps p.tables e below (s₁.setTop (mkF m 1 #[.val (.int p1), .val (.int p2), .val (.int p3), .val (.int p4), .unset, .unset, .unset] [(.int p1)])) _
    refine XS.bipush X0.here hx rfl (hb hby at_1) ?_
    show Steps p.tables e below (s₁.setTop (mkF m 3 #[.val (.int p1), .val (.int p2), .val (.int p3), .val (.int p4), .unset, .unset, .unset] [(.int (7 : Int32)), (.int p1)])) _
    refine XS.iand X0.here hx rfl (hb hby at_3) rfl ?_
    show Steps p.tables e below (s₁.setTop (mkF m 4 #[.val (.int p1), .val (.int p2), .val (.int p3), .val (.int p4), .unset, .unset, .unset] [(.int (p1 &&& (7 : Int32)))])) _
    refine XS.istore X0.here hx rfl (hb hby at_4) rfl (l' := #[.val (.int p1), .val (.int p2), .val (.int p3), .val (.int p4), .val (.int (p1 &&& (7 : Int32))), .unset, .unset]) rfl ?_
    show Steps p.tables e below (s₁.setTop (mkF m 6 #[.val (.int p1), .val (.int p2), .val (.int p3), .val (.int p4), .val (.int (p1 &&& (7 : Int32))), .unset, .unset] [])) _
    refine XS.iload X0.here hx rfl (hb hby at_6) rfl ?_
    show Steps p.tables e below (s₁.setTop (mkF m 8 #[.val (.int p1), .val (.int p2), .val (.int p3), .val (.int p4), .val (.int (p1 &&& (7 : Int32))), .unset, .unset] [(.int (p1 &&& (7 : Int32)))])) _
    refine st5 _ ?_
    show Steps p.tables e below (T5.setTop (mkF m 10 #[.val (.int p1), .val (.int p2), .val (.int p3), .val (.int p4), .val (.int (p1 &&& (7 : Int32))), .unset, .unset] [(.ref b5)])) _
    refine XS.astore X5.here hx rfl (hb hby at_10) rfl rfl (l' := #[.val (.int p1), .val (.int p2), .val (.int p3), .val (.int p4), .val (.int (p1 &&& (7 : Int32))), .val (.ref b5), .unset]) rfl ?_
    show Steps p.tables e below (T5.setTop (mkF m 12 #[.val (.int p1), .val (.int p2), .val (.int p3), .val (.int p4), .val (.int (p1 &&& (7 : Int32))), .val (.ref b5), .unset] [])) _
    refine XS.iload X5.here hx rfl (hb hby at_12) rfl ?_
    show Steps p.tables e below (T5.setTop (mkF m 14 #[.val (.int p1), .val (.int p2), .val (.int p3), .val (.int p4), .val (.int (p1 &&& (7 : Int32))), .val (.ref b5), .unset] [(.int (p1 &&& (7 : Int32)))])) _
    refine XS.ifNo X5.here hx rfl (hb hby at_14) rfl ((if0 _ _).trans (tlt hc14).2.2.2) ?_
    show Steps p.tables e below (T5.setTop (mkF m 17 #[.val (.int p1), .val (.int p2), .val (.int p3), .val (.int p4), .val (.int (p1 &&& (7 : Int32))), .val (.ref b5), .unset] [])) _
    refine XS.aload X5.here hx rfl (hb hby at_17) rfl rfl ?_
    show Steps p.tables e below (T5.setTop (mkF m 19 #[.val (.int p1), .val (.int p2), .val (.int p3), .val (.int p4), .val (.int (p1 &&& (7 : Int32))), .val (.ref b5), .unset] [(.ref b5)])) _
    refine XS.iconst X5.here hx rfl (hb hby at_19) ?_
    show Steps p.tables e below (T5.setTop (mkF m 20 #[.val (.int p1), .val (.int p2), .val (.int p3), .val (.int p4), .val (.int (p1 &&& (7 : Int32))), .val (.ref b5), .unset] [(.int (0 : Int32)), (.ref b5)])) _
    refine XS.iloadN X5.here hx rfl (hb hby at_20) rfl ?_
    show Steps p.tables e below (T5.setTop (mkF m 21 #[.val (.int p1), .val (.int p2), .val (.int p3), .val (.int p4), .val (.int (p1 &&& (7 : Int32))), .val (.ref b5), .unset] [(.int p2), (.int (0 : Int32)), (.ref b5)])) _
    refine XS.i2b X5.here hx rfl (hb hby at_21) rfl ?_
    show Steps p.tables e below (T5.setTop (mkF m 22 #[.val (.int p1), .val (.int p2), .val (.int p3), .val (.int p4), .val (.int (p1 &&& (7 : Int32))), .val (.ref b5), .unset] [(.int (p2.toInt8.toInt32)), (.int (0 : Int32)), (.ref b5)])) _
    refine st6 _ ?_
    show Steps p.tables e below (T6.setTop (mkF m 23 #[.val (.int p1), .val (.int p2), .val (.int p3), .val (.int p4), .val (.int (p1 &&& (7 : Int32))), .val (.ref b5), .unset] [])) _
    refine XS.iload X6.here hx rfl (hb hby at_23) rfl ?_
    show Steps p.tables e below (T6.setTop (mkF m 25 #[.val (.int p1), .val (.int p2), .val (.int p3), .val (.int p4), .val (.int (p1 &&& (7 : Int32))), .val (.ref b5), .unset] [(.int (p1 &&& (7 : Int32)))])) _
    refine XS.iconst X6.here hx rfl (hb hby at_25) ?_
    show Steps p.tables e below (T6.setTop (mkF m 26 #[.val (.int p1), .val (.int p2), .val (.int p3), .val (.int p4), .val (.int (p1 &&& (7 : Int32))), .val (.ref b5), .unset] [(.int (1 : Int32)), (.int (p1 &&& (7 : Int32)))])) _
    refine XS.icmpNo X6.here hx rfl (hb hby at_26) rfl (tlt hc26).2.2.2 ?_
    show Steps p.tables e below (T6.setTop (mkF m 29 #[.val (.int p1), .val (.int p2), .val (.int p3), .val (.int p4), .val (.int (p1 &&& (7 : Int32))), .val (.ref b5), .unset] [])) _
    refine XS.aload X6.here hx rfl (hb hby at_29) rfl rfl ?_
    show Steps p.tables e below (T6.setTop (mkF m 31 #[.val (.int p1), .val (.int p2), .val (.int p3), .val (.int p4), .val (.int (p1 &&& (7 : Int32))), .val (.ref b5), .unset] [(.ref b5)])) _
    refine XS.iconst X6.here hx rfl (hb hby at_31) ?_
    show Steps p.tables e below (T6.setTop (mkF m 32 #[.val (.int p1), .val (.int p2), .val (.int p3), .val (.int p4), .val (.int (p1 &&& (7 : Int32))), .val (.ref b5), .unset] [(.int (1 : Int32)), (.ref b5)])) _
    refine XS.iloadN X6.here hx rfl (hb hby at_32) rfl ?_
    show Steps p.tables e below (T6.setTop (mkF m 33 #[.val (.int p1), .val (.int p2), .val (.int p3), .val (.int p4), .val (.int (p1 &&& (7 : Int32))), .val (.ref b5), .unset] [(.int p3), (.int (1 : Int32)), (.ref b5)])) _
    refine XS.i2b X6.here hx rfl (hb hby at_33) rfl ?_
    show Steps p.tables e below (T6.setTop (mkF m 34 #[.val (.int p1), .val (.int p2), .val (.int p3), .val (.int p4), .val (.int (p1 &&& (7 : Int32))), .val (.ref b5), .unset] [(.int (p3.toInt8.toInt32)), (.int (1 : Int32)), (.ref b5)])) _
    refine st7 _ ?_
    show Steps p.tables e below (T7.setTop (mkF m 35 #[.val (.int p1), .val (.int p2), .val (.int p3), .val (.int p4), .val (.int (p1 &&& (7 : Int32))), .val (.ref b5), .unset] [])) _
    refine XS.iload X7.here hx rfl (hb hby at_35) rfl ?_
    show Steps p.tables e below (T7.setTop (mkF m 37 #[.val (.int p1), .val (.int p2), .val (.int p3), .val (.int p4), .val (.int (p1 &&& (7 : Int32))), .val (.ref b5), .unset] [(.int (p1 &&& (7 : Int32)))])) _
    refine XS.iconst X7.here hx rfl (hb hby at_37) ?_
    show Steps p.tables e below (T7.setTop (mkF m 38 #[.val (.int p1), .val (.int p2), .val (.int p3), .val (.int p4), .val (.int (p1 &&& (7 : Int32))), .val (.ref b5), .unset] [(.int (2 : Int32)), (.int (p1 &&& (7 : Int32)))])) _
    refine XS.icmpYes X7.here hx rfl (pc0 := 38) (pc' := 47) rfl (hb hby at_38) rfl (flt hc38).2.2.2 (by decide) (by decide) ?_
    show Steps p.tables e below (T7.setTop (mkF m 47 #[.val (.int p1), .val (.int p2), .val (.int p3), .val (.int p4), .val (.int (p1 &&& (7 : Int32))), .val (.ref b5), .unset] [])) _
    refine XS.iconst X7.here hx rfl (hb hby at_47) ?_
    show Steps p.tables e below (T7.setTop (mkF m 48 #[.val (.int p1), .val (.int p2), .val (.int p3), .val (.int p4), .val (.int (p1 &&& (7 : Int32))), .val (.ref b5), .unset] [(.int (0 : Int32))])) _
    refine XS.istore X7.here hx rfl (hb hby at_48) rfl (l' := #[.val (.int p1), .val (.int p2), .val (.int p3), .val (.int p4), .val (.int (p1 &&& (7 : Int32))), .val (.ref b5), .val (.int (0 : Int32))]) rfl ?_
    show Steps p.tables e below (T7.setTop (mkF m 50 #[.val (.int p1), .val (.int p2), .val (.int p3), .val (.int p4), .val (.int (p1 &&& (7 : Int32))), .val (.ref b5), .val (.int (0 : Int32))] [])) _
    refine XS.iload X7.here hx rfl (hb hby at_50) rfl ?_
    show Steps p.tables e below (T7.setTop (mkF m 52 #[.val (.int p1), .val (.int p2), .val (.int p3), .val (.int p4), .val (.int (p1 &&& (7 : Int32))), .val (.ref b5), .val (.int (0 : Int32))] [(.int (p1 &&& (7 : Int32)))])) _
    refine XS.iconst X7.here hx rfl (hb hby at_52) ?_
    show Steps p.tables e below (T7.setTop (mkF m 53 #[.val (.int p1), .val (.int p2), .val (.int p3), .val (.int p4), .val (.int (p1 &&& (7 : Int32))), .val (.ref b5), .val (.int (0 : Int32))] [(.int (2 : Int32)), (.int (p1 &&& (7 : Int32)))])) _
    refine XS.icmpNo X7.here hx rfl (hb hby at_53) rfl (flt hc53).1 ?_
    show Steps p.tables e below (T7.setTop (mkF m 56 #[.val (.int p1), .val (.int p2), .val (.int p3), .val (.int p4), .val (.int (p1 &&& (7 : Int32))), .val (.ref b5), .val (.int (0 : Int32))] [])) _
    refine XS.iloadN X7.here hx rfl (hb hby at_56) rfl ?_
    show Steps p.tables e below (T7.setTop (mkF m 57 #[.val (.int p1), .val (.int p2), .val (.int p3), .val (.int p4), .val (.int (p1 &&& (7 : Int32))), .val (.ref b5), .val (.int (0 : Int32))] [(.int p2)])) _
    refine XS.sipush X7.here hx rfl (hb hby at_57) ?_
    show Steps p.tables e below (T7.setTop (mkF m 60 #[.val (.int p1), .val (.int p2), .val (.int p3), .val (.int p4), .val (.int (p1 &&& (7 : Int32))), .val (.ref b5), .val (.int (0 : Int32))] [(.int (255 : Int32)), (.int p2)])) _
    refine XS.iand X7.here hx rfl (hb hby at_60) rfl ?_
    show Steps p.tables e below (T7.setTop (mkF m 61 #[.val (.int p1), .val (.int p2), .val (.int p3), .val (.int p4), .val (.int (p1 &&& (7 : Int32))), .val (.ref b5), .val (.int (0 : Int32))] [(.int (p2 &&& (255 : Int32)))])) _
    refine XS.iconst X7.here hx rfl (hb hby at_61) ?_
    show Steps p.tables e below (T7.setTop (mkF m 62 #[.val (.int p1), .val (.int p2), .val (.int p3), .val (.int p4), .val (.int (p1 &&& (7 : Int32))), .val (.ref b5), .val (.int (0 : Int32))] [(.int (3 : Int32)), (.int (p2 &&& (255 : Int32)))])) _
    refine XS.icmpNo X7.here hx rfl (hb hby at_62) rfl (teq hc62).2 ?_
    show Steps p.tables e below (T7.setTop (mkF m 65 #[.val (.int p1), .val (.int p2), .val (.int p3), .val (.int p4), .val (.int (p1 &&& (7 : Int32))), .val (.ref b5), .val (.int (0 : Int32))] [])) _
    refine XS.iloadN X7.here hx rfl (hb hby at_65) rfl ?_
    show Steps p.tables e below (T7.setTop (mkF m 66 #[.val (.int p1), .val (.int p2), .val (.int p3), .val (.int p4), .val (.int (p1 &&& (7 : Int32))), .val (.ref b5), .val (.int (0 : Int32))] [(.int p3)])) _
    refine XS.sipush X7.here hx rfl (hb hby at_66) ?_
    show Steps p.tables e below (T7.setTop (mkF m 69 #[.val (.int p1), .val (.int p2), .val (.int p3), .val (.int p4), .val (.int (p1 &&& (7 : Int32))), .val (.ref b5), .val (.int (0 : Int32))] [(.int (255 : Int32)), (.int p3)])) _
    refine XS.iand X7.here hx rfl (hb hby at_69) rfl ?_
    show Steps p.tables e below (T7.setTop (mkF m 70 #[.val (.int p1), .val (.int p2), .val (.int p3), .val (.int p4), .val (.int (p1 &&& (7 : Int32))), .val (.ref b5), .val (.int (0 : Int32))] [(.int (p3 &&& (255 : Int32)))])) _
    refine XS.ifNo X7.here hx rfl (hb hby at_70) rfl ((if0 _ _).trans (teq hc70).2) ?_
    show Steps p.tables e below (T7.setTop (mkF m 73 #[.val (.int p1), .val (.int p2), .val (.int p3), .val (.int p4), .val (.int (p1 &&& (7 : Int32))), .val (.ref b5), .val (.int (0 : Int32))] [])) _
    refine XS.iconst X7.here hx rfl (hb hby at_73) ?_
    show Steps p.tables e below (T7.setTop (mkF m 74 #[.val (.int p1), .val (.int p2), .val (.int p3), .val (.int p4), .val (.int (p1 &&& (7 : Int32))), .val (.ref b5), .val (.int (0 : Int32))] [(.int (1 : Int32))])) _
    refine XS.istore X7.here hx rfl (hb hby at_74) rfl (l' := #[.val (.int p1), .val (.int p2), .val (.int p3), .val (.int p4), .val (.int (p1 &&& (7 : Int32))), .val (.ref b5), .val (.int (1 : Int32))]) rfl ?_
    show Steps p.tables e below (T7.setTop (mkF m 76 #[.val (.int p1), .val (.int p2), .val (.int p3), .val (.int p4), .val (.int (p1 &&& (7 : Int32))), .val (.ref b5), .val (.int (1 : Int32))] [])) _
    refine XS.aload X7.here hx rfl (hb hby at_76) rfl rfl ?_
    show Steps p.tables e below (T7.setTop (mkF m 78 #[.val (.int p1), .val (.int p2), .val (.int p3), .val (.int p4), .val (.int (p1 &&& (7 : Int32))), .val (.ref b5), .val (.int (1 : Int32))] [(.ref b5)])) _
    refine st8 _ ?_
    show Steps p.tables e below (T8.setTop (mkF m 81 #[.val (.int p1), .val (.int p2), .val (.int p3), .val (.int p4), .val (.int (p1 &&& (7 : Int32))), .val (.ref b5), .val (.int (1 : Int32))] [(.int r8)])) _
    refine XS.iload X8.here hx rfl (hb hby at_81) rfl ?_
    show Steps p.tables e below (T8.setTop (mkF m 83 #[.val (.int p1), .val (.int p2), .val (.int p3), .val (.int p4), .val (.int (p1 &&& (7 : Int32))), .val (.ref b5), .val (.int (1 : Int32))] [(.int (1 : Int32)), (.int r8)])) _
    refine XS.icmpNo X8.here hx rfl (hb hby at_83) rfl (teq hc83).2 ?_
    show Steps p.tables e below (T8.setTop (mkF m 86 #[.val (.int p1), .val (.int p2), .val (.int p3), .val (.int p4), .val (.int (p1 &&& (7 : Int32))), .val (.ref b5), .val (.int (1 : Int32))] [])) _
    refine XS.iconst X8.here hx rfl (hb hby at_86) ?_
    show Steps p.tables e below (T8.setTop (mkF m 87 #[.val (.int p1), .val (.int p2), .val (.int p3), .val (.int p4), .val (.int (p1 &&& (7 : Int32))), .val (.ref b5), .val (.int (1 : Int32))] [(.int (1 : Int32))])) _
    refine XS.goto X8.here hx rfl (pc0 := 87) (pc' := 91) rfl (hb hby at_87) (by decide) (by decide) ?_
    show Steps p.tables e below (T8.setTop (mkF m 91 #[.val (.int p1), .val (.int p2), .val (.int p3), .val (.int p4), .val (.int (p1 &&& (7 : Int32))), .val (.ref b5), .val (.int (1 : Int32))] [(.int (1 : Int32))])) _
    exact retN X8 hx (t := .boolean) Bd.returns (by simp) (hb hby at_91) hr
  · show Q0 n0 _ T8.heap _
    rw [e8]
    exact ⟨rfl, N8⟩
set_option maxRecDepth 65536 in
set_option maxHeartbeats 40000000 in
theorem rm0_fffftf (l : Launch) (Z : State) (a0 : Array Value) (hw : ∀ d ∈ tables_1, d.before a0 Z = true) (ws : List Jvm.Cond) (p1 : Int32) (p2 : Int32) (p3 : Int32) (p4 : Int32) (w_MAGIC : Addr) (kM_9 : ClassId) (r9 : Int32) (h0 : Heap) (n0 : Nat) (Z0 : n0 ≤ h0.size) (S_MAGIC : Sta Z h0 "com/example/inward_firewall/inwardfirewall/BinaryXml" "MAGIC" "[B" (.ref w_MAGIC)) (V_w_MAGIC : Arv Z h0 w_MAGIC kM_9 .byte (2 : Int32) [.int (3 : Int32), .int (0 : Int32)] (.int (0 : Int32))) (P9 : R1 (p1 &&& (7 : Int32)) (nar .byte (p2.toInt8.toInt32)) (nar .byte (p3.toInt8.toInt32)) r9) (hz8 : ¬ (p1 &&& (7 : Int32)) < 0) (hk8 : ((p1 &&& (7 : Int32))).toNatClampNeg ≤ 7) (hc14 : (0 : Int32) < (p1 &&& (7 : Int32))) (hj22 : (0 : Int32) < (p1 &&& (7 : Int32))) (hc26 : (1 : Int32) < (p1 &&& (7 : Int32))) (hj34 : (1 : Int32) < (p1 &&& (7 : Int32))) (hc38 : (2 : Int32) < (p1 &&& (7 : Int32))) (hj46 : (2 : Int32) < (p1 &&& (7 : Int32))) (hc53 : ¬ ((p1 &&& (7 : Int32)) < (2 : Int32))) (hc62 : ¬ ((p2 &&& (255 : Int32)) = (3 : Int32))) (hc83 : r9 = (0 : Int32)) :
    MetFree l x (head1 (Jvm.Cond.code x code maxLocals ret :: ws) room_1) (fun a U => a = #[(.int p1), (.int p2), (.int p3), (.int p4)] ∧ Z.Warmed39 U.vm ∧ U.heap = h0) (fun _ _ _ _ _ => True) (fun _ U o U' => ∃ v L, o = .returned v ∧ Q0 n0 v U'.heap L ∧ FrameEnd U o U' L room_1.cells room_1.slots) := by
  refine MetFree.of_bodySF (plainFor_of_name pn_0) hisR ?_
  intro p e s m args below meth c s₁ Bd hml0 hP hK
  obtain ⟨rfl, hZ, hh⟩ := hP
  have hx := Bd.exec
  have hby := Bd.bytes
  have hml : c.maxLocals = 7 := hml0
  have hown : s.vm.findClass "com/example/inward_firewall/inwardfirewall/BinaryXmlIsBinaryXmlPinLaw" = some m.cls := findClass_of_methodNamed Bd.named
  have hnm := (name_of_methodNamed Bd.named Bd.method).1
  have X0 : Stand p l e room_1 s m #[(.int p1), (.int p2), (.int p3), (.int p4)] below meth c s₁ [] 0 0 := Stand.of_body Bd
  have e0 : s₁.heap = h0 := by rw [← hh, Bd.state]; rfl
  have N0 := Fr.nil n0
  have pre0 : ∀ t, Steps p.tables e below (s₁.setTop (mkF m 0 #[.val (.int p1), .val (.int p2), .val (.int p3), .val (.int p4), .unset, .unset, .unset] [])) t → Steps p.tables e below (s₁.setTop (entryFrame m #[(.int p1), (.int p2), (.int p3), (.int p4)] maxLocals)) t := fun t k => castTop (ef_0 m p1 p2 p3 p4) k
  -- 3. LAWS
  obtain ⟨T5, h5, k5, X5, e5, E5, A5, st5⟩ := newP X0 hx hZ (hw _ (List.mem_of_getElem? (i := 0) rfl)) e0 (g := (mkF m 8 #[.val (.int p1), .val (.int p2), .val (.int p3), .val (.int p4), .val (.int (p1 &&& (7 : Int32))), .unset, .unset] [(.int (p1 &&& (7 : Int32)))])) rfl (hb hby at_8) rfl hz8 (cap := 7) hk8 (by decide) (by decide) (by decide)
  obtain ⟨b5, g5⟩ : ∃ z, z = h0.size := ⟨_, rfl⟩
  rw [← g5] at A5 st5
  have V_b5 : Arv Z h5 b5 k5 .byte (p1 &&& (7 : Int32)) [(.int (0 : Int32)), (.int (0 : Int32)), (.int (0 : Int32))] (.int (0 : Int32)) := (Arv.new A5 hz8).pad (pad_rep [] (.int (0 : Int32)) 3)
  have g_b5 : n0 ≤ b5 := Nat.le_trans Z0 (Nat.le_of_eq g5.symm)
  obtain ⟨cl22v, Ar22v, q22v, S22v, N22v, H22v, G22v⟩ := V_b5
  have hin22 : ¬ ((0 : Int32) < 0 ∨ cl22v.slots.size ≤ ((0 : Int32)).toNatClampNeg) := inb_of S22v ⟨by decide, hj22⟩
  obtain ⟨T6, h6, X6, e6, W6, st6⟩ := stB X5 hx hZ e5 Ar22v (j := (0 : Int32)) hin22 (g := (mkF m 22 #[.val (.int p1), .val (.int p2), .val (.int p3), .val (.int p4), .val (.int (p1 &&& (7 : Int32))), .val (.ref b5), .unset] [(.int (p2.toInt8.toInt32)), (.int (0 : Int32)), (.ref b5)])) rfl rfl (hb hby at_22)
  have V22 : Arv Z h6 b5 k5 .byte (p1 &&& (7 : Int32)) [(.int (nar .byte (p2.toInt8.toInt32))), (.int (0 : Int32)), (.int (0 : Int32))] (.int (0 : Int32)) := Arv.set Ar22v q22v S22v N22v H22v G22v (fits_nar_byte _) W6 0 rfl (Nat.le_of_ble_eq_true rfl)
  have N6 := Fr.snoc X6 N0 g_b5
  obtain ⟨cl34v, Ar34v, q34v, S34v, N34v, H34v, G34v⟩ := V22
  have hin34 : ¬ ((1 : Int32) < 0 ∨ cl34v.slots.size ≤ ((1 : Int32)).toNatClampNeg) := inb_of S34v ⟨by decide, hj34⟩
  obtain ⟨T7, h7, X7, e7, W7, st7⟩ := stB X6 hx hZ e6 Ar34v (j := (1 : Int32)) hin34 (g := (mkF m 34 #[.val (.int p1), .val (.int p2), .val (.int p3), .val (.int p4), .val (.int (p1 &&& (7 : Int32))), .val (.ref b5), .unset] [(.int (p3.toInt8.toInt32)), (.int (1 : Int32)), (.ref b5)])) rfl rfl (hb hby at_34)
  have V34 : Arv Z h7 b5 k5 .byte (p1 &&& (7 : Int32)) [(.int (nar .byte (p2.toInt8.toInt32))), (.int (nar .byte (p3.toInt8.toInt32))), (.int (0 : Int32))] (.int (0 : Int32)) := Arv.set Ar34v q34v S34v N34v H34v G34v (fits_nar_byte _) W7 1 rfl (Nat.le_of_ble_eq_true rfl)
  have N7 := Fr.snoc X7 N6 g_b5
  obtain ⟨cl46v, Ar46v, q46v, S46v, N46v, H46v, G46v⟩ := V34
  have hin46 : ¬ ((2 : Int32) < 0 ∨ cl46v.slots.size ≤ ((2 : Int32)).toNatClampNeg) := inb_of S46v ⟨by decide, hj46⟩
  obtain ⟨T8, h8, X8, e8, W8, st8⟩ := stB X7 hx hZ e7 Ar46v (j := (2 : Int32)) hin46 (g := (mkF m 46 #[.val (.int p1), .val (.int p2), .val (.int p3), .val (.int p4), .val (.int (p1 &&& (7 : Int32))), .val (.ref b5), .unset] [(.int (p4.toInt8.toInt32)), (.int (2 : Int32)), (.ref b5)])) rfl rfl (hb hby at_46)
  have V46 : Arv Z h8 b5 k5 .byte (p1 &&& (7 : Int32)) [(.int (nar .byte (p2.toInt8.toInt32))), (.int (nar .byte (p3.toInt8.toInt32))), (.int (nar .byte (p4.toInt8.toInt32)))] (.int (0 : Int32)) := Arv.set Ar46v q46v S46v N46v H46v G46v (fits_nar_byte _) W8 2 rfl (Nat.le_of_ble_eq_true rfl)
  have N8 := Fr.snoc X8 N7 g_b5
  obtain ⟨_, _, ⟨T9, L9, k9, n9⟩, -, X9, ⟨Lc9, hQ9, l9, y9, z9⟩, st9⟩ := Jvm.LawKit.callS X8 hx (y := (⟨"com/example/inward_firewall/inwardfirewall/BinaryXml", "isBinaryXml", "([B)Z"⟩ : MethodName)) hown (mvT hZ (hw _ (List.mem_of_getElem? (i := 1) rfl))) (mvT hZ (hw _ (List.mem_of_getElem? (i := 2) rfl))) (mvT hZ (hw _ (List.mem_of_getElem? (i := 3) rfl))) (mvT hZ (hw _ (List.mem_of_getElem? (i := 4) rfl))) (by decide) (backOf (W := 0) (rm1 l Z a0 hw [] b5 k5 (p1 &&& (7 : Int32)) (nar .byte (p2.toInt8.toInt32)) (nar .byte (p3.toInt8.toInt32)) (nar .byte (p4.toInt8.toInt32)) w_MAGIC kM_9 r9 h8 n0 (Nat.le_trans (Nat.le_trans (Nat.le_trans (Nat.le_trans Z0 E5.1) (Keep.of_wr W6).1) (Keep.of_wr W7).1) (Keep.of_wr W8).1) ((((S_MAGIC.ext E5).wr W6).wr W7).wr W8) V46 ((((V_w_MAGIC.ext E5).other W6 (Nat.ne_of_lt (Nat.lt_of_lt_of_le V_w_MAGIC.lt (Nat.le_of_eq g5.symm)))).other W7 (Nat.ne_of_lt (Nat.lt_of_lt_of_le V_w_MAGIC.lt (Nat.le_of_eq g5.symm)))).other W8 (Nat.ne_of_lt (Nat.lt_of_lt_of_le V_w_MAGIC.lt (Nat.le_of_eq g5.symm)))) P9) hZ (hw _ (List.mem_of_getElem? (i := 4) rfl)) (hw _ (List.mem_of_getElem? (i := 3) rfl)) (by decide) (by decide)) (g := (mkF m 78 #[.val (.int p1), .val (.int p2), .val (.int p3), .val (.int p4), .val (.int (p1 &&& (7 : Int32))), .val (.ref b5), .val (.int (0 : Int32))] [(.ref b5)])) rfl (by rw [hml]; rfl) (argsL := [(.ref b5)]) (rest := []) (lenOf pd_0_0 rfl) rfl (by show 2 * 0 + _ ≤ _; exact Nat.le_of_eq rfl) (hb hby at_78) (fun _ _ => ⟨rfl, e8, (by decide : 1 + 0 ≤ _), (by decide : 7 + 0 ≤ _)⟩)
  dsimp only [Pt.U, Pt.locs, Pt.cells, Pt.slots] at X9 l9 y9 z9 st9 hQ9
  subst l9 y9 z9
  obtain ⟨rfl, N9q, e9⟩ := hQ9
  have N9 := Fr.app N8 N9q
  obtain ⟨fs, hr, hrun, hended, hW, hsame⟩ := X9.leave (v := some (.int (1 : Int32))) (fun h => by rw [Bd.returns] at h; cases h)
  refine ⟨_, _, pre0 _ ?_, hrun, hended, _, _, rfl, ?_, ⟨_, rfl⟩, hW, hsame.mono (by decide) (by decide)⟩
  -- 4. STEPS
  · show Steps p.tables e below (s₁.setTop (mkF m 0 #[.val (.int p1), .val (.int p2), .val (.int p3), .val (.int p4), .unset, .unset, .unset] [])) _
    refine XS.iloadN X0.here hx rfl (hb hby at_0) rfl ?_
    show Steps p.tables e below (s₁.setTop (mkF m 1 #[.val (.int p1), .val (.int p2), .val (.int p3), .val (.int p4), .unset, .unset, .unset] [(.int p1)])) _
    refine XS.bipush X0.here hx rfl (hb hby at_1) ?_
    show Steps p.tables e below (s₁.setTop (mkF m 3 #[.val (.int p1), .val (.int p2), .val (.int p3), .val (.int p4), .unset, .unset, .unset] [(.int (7 : Int32)), (.int p1)])) _
    refine XS.iand X0.here hx rfl (hb hby at_3) rfl ?_
    show Steps p.tables e below (s₁.setTop (mkF m 4 #[.val (.int p1), .val (.int p2), .val (.int p3), .val (.int p4), .unset, .unset, .unset] [(.int (p1 &&& (7 : Int32)))])) _
    refine XS.istore X0.here hx rfl (hb hby at_4) rfl (l' := #[.val (.int p1), .val (.int p2), .val (.int p3), .val (.int p4), .val (.int (p1 &&& (7 : Int32))), .unset, .unset]) rfl ?_
    show Steps p.tables e below (s₁.setTop (mkF m 6 #[.val (.int p1), .val (.int p2), .val (.int p3), .val (.int p4), .val (.int (p1 &&& (7 : Int32))), .unset, .unset] [])) _
    refine XS.iload X0.here hx rfl (hb hby at_6) rfl ?_
    show Steps p.tables e below (s₁.setTop (mkF m 8 #[.val (.int p1), .val (.int p2), .val (.int p3), .val (.int p4), .val (.int (p1 &&& (7 : Int32))), .unset, .unset] [(.int (p1 &&& (7 : Int32)))])) _
    refine st5 _ ?_
    show Steps p.tables e below (T5.setTop (mkF m 10 #[.val (.int p1), .val (.int p2), .val (.int p3), .val (.int p4), .val (.int (p1 &&& (7 : Int32))), .unset, .unset] [(.ref b5)])) _
    refine XS.astore X5.here hx rfl (hb hby at_10) rfl rfl (l' := #[.val (.int p1), .val (.int p2), .val (.int p3), .val (.int p4), .val (.int (p1 &&& (7 : Int32))), .val (.ref b5), .unset]) rfl ?_
    show Steps p.tables e below (T5.setTop (mkF m 12 #[.val (.int p1), .val (.int p2), .val (.int p3), .val (.int p4), .val (.int (p1 &&& (7 : Int32))), .val (.ref b5), .unset] [])) _
    refine XS.iload X5.here hx rfl (hb hby at_12) rfl ?_
    show Steps p.tables e below (T5.setTop (mkF m 14 #[.val (.int p1), .val (.int p2), .val (.int p3), .val (.int p4), .val (.int (p1 &&& (7 : Int32))), .val (.ref b5), .unset] [(.int (p1 &&& (7 : Int32)))])) _
    refine XS.ifNo X5.here hx rfl (hb hby at_14) rfl ((if0 _ _).trans (tlt hc14).2.2.2) ?_
    show Steps p.tables e below (T5.setTop (mkF m 17 #[.val (.int p1), .val (.int p2), .val (.int p3), .val (.int p4), .val (.int (p1 &&& (7 : Int32))), .val (.ref b5), .unset] [])) _
    refine XS.aload X5.here hx rfl (hb hby at_17) rfl rfl ?_
    show Steps p.tables e below (T5.setTop (mkF m 19 #[.val (.int p1), .val (.int p2), .val (.int p3), .val (.int p4), .val (.int (p1 &&& (7 : Int32))), .val (.ref b5), .unset] [(.ref b5)])) _
    refine XS.iconst X5.here hx rfl (hb hby at_19) ?_
    show Steps p.tables e below (T5.setTop (mkF m 20 #[.val (.int p1), .val (.int p2), .val (.int p3), .val (.int p4), .val (.int (p1 &&& (7 : Int32))), .val (.ref b5), .unset] [(.int (0 : Int32)), (.ref b5)])) _
    refine XS.iloadN X5.here hx rfl (hb hby at_20) rfl ?_
    show Steps p.tables e below (T5.setTop (mkF m 21 #[.val (.int p1), .val (.int p2), .val (.int p3), .val (.int p4), .val (.int (p1 &&& (7 : Int32))), .val (.ref b5), .unset] [(.int p2), (.int (0 : Int32)), (.ref b5)])) _
    refine XS.i2b X5.here hx rfl (hb hby at_21) rfl ?_
    show Steps p.tables e below (T5.setTop (mkF m 22 #[.val (.int p1), .val (.int p2), .val (.int p3), .val (.int p4), .val (.int (p1 &&& (7 : Int32))), .val (.ref b5), .unset] [(.int (p2.toInt8.toInt32)), (.int (0 : Int32)), (.ref b5)])) _
    refine st6 _ ?_
    show Steps p.tables e below (T6.setTop (mkF m 23 #[.val (.int p1), .val (.int p2), .val (.int p3), .val (.int p4), .val (.int (p1 &&& (7 : Int32))), .val (.ref b5), .unset] [])) _
    refine XS.iload X6.here hx rfl (hb hby at_23) rfl ?_
    show Steps p.tables e below (T6.setTop (mkF m 25 #[.val (.int p1), .val (.int p2), .val (.int p3), .val (.int p4), .val (.int (p1 &&& (7 : Int32))), .val (.ref b5), .unset] [(.int (p1 &&& (7 : Int32)))])) _
    refine XS.iconst X6.here hx rfl (hb hby at_25) ?_
    show Steps p.tables e below (T6.setTop (mkF m 26 #[.val (.int p1), .val (.int p2), .val (.int p3), .val (.int p4), .val (.int (p1 &&& (7 : Int32))), .val (.ref b5), .unset] [(.int (1 : Int32)), (.int (p1 &&& (7 : Int32)))])) _
    refine XS.icmpNo X6.here hx rfl (hb hby at_26) rfl (tlt hc26).2.2.2 ?_
    show Steps p.tables e below (T6.setTop (mkF m 29 #[.val (.int p1), .val (.int p2), .val (.int p3), .val (.int p4), .val (.int (p1 &&& (7 : Int32))), .val (.ref b5), .unset] [])) _
    refine XS.aload X6.here hx rfl (hb hby at_29) rfl rfl ?_
    show Steps p.tables e below (T6.setTop (mkF m 31 #[.val (.int p1), .val (.int p2), .val (.int p3), .val (.int p4), .val (.int (p1 &&& (7 : Int32))), .val (.ref b5), .unset] [(.ref b5)])) _
    refine XS.iconst X6.here hx rfl (hb hby at_31) ?_
    show Steps p.tables e below (T6.setTop (mkF m 32 #[.val (.int p1), .val (.int p2), .val (.int p3), .val (.int p4), .val (.int (p1 &&& (7 : Int32))), .val (.ref b5), .unset] [(.int (1 : Int32)), (.ref b5)])) _
    refine XS.iloadN X6.here hx rfl (hb hby at_32) rfl ?_
    show Steps p.tables e below (T6.setTop (mkF m 33 #[.val (.int p1), .val (.int p2), .val (.int p3), .val (.int p4), .val (.int (p1 &&& (7 : Int32))), .val (.ref b5), .unset] [(.int p3), (.int (1 : Int32)), (.ref b5)])) _
    refine XS.i2b X6.here hx rfl (hb hby at_33) rfl ?_
    show Steps p.tables e below (T6.setTop (mkF m 34 #[.val (.int p1), .val (.int p2), .val (.int p3), .val (.int p4), .val (.int (p1 &&& (7 : Int32))), .val (.ref b5), .unset] [(.int (p3.toInt8.toInt32)), (.int (1 : Int32)), (.ref b5)])) _
    refine st7 _ ?_
    show Steps p.tables e below (T7.setTop (mkF m 35 #[.val (.int p1), .val (.int p2), .val (.int p3), .val (.int p4), .val (.int (p1 &&& (7 : Int32))), .val (.ref b5), .unset] [])) _
    refine XS.iload X7.here hx rfl (hb hby at_35) rfl ?_
    show Steps p.tables e below (T7.setTop (mkF m 37 #[.val (.int p1), .val (.int p2), .val (.int p3), .val (.int p4), .val (.int (p1 &&& (7 : Int32))), .val (.ref b5), .unset] [(.int (p1 &&& (7 : Int32)))])) _
    refine XS.iconst X7.here hx rfl (hb hby at_37) ?_
    show Steps p.tables e below (T7.setTop (mkF m 38 #[.val (.int p1), .val (.int p2), .val (.int p3), .val (.int p4), .val (.int (p1 &&& (7 : Int32))), .val (.ref b5), .unset] [(.int (2 : Int32)), (.int (p1 &&& (7 : Int32)))])) _
    refine XS.icmpNo X7.here hx rfl (hb hby at_38) rfl (tlt hc38).2.2.2 ?_
    show Steps p.tables e below (T7.setTop (mkF m 41 #[.val (.int p1), .val (.int p2), .val (.int p3), .val (.int p4), .val (.int (p1 &&& (7 : Int32))), .val (.ref b5), .unset] [])) _
    refine XS.aload X7.here hx rfl (hb hby at_41) rfl rfl ?_
    show Steps p.tables e below (T7.setTop (mkF m 43 #[.val (.int p1), .val (.int p2), .val (.int p3), .val (.int p4), .val (.int (p1 &&& (7 : Int32))), .val (.ref b5), .unset] [(.ref b5)])) _
    refine XS.iconst X7.here hx rfl (hb hby at_43) ?_
    show Steps p.tables e below (T7.setTop (mkF m 44 #[.val (.int p1), .val (.int p2), .val (.int p3), .val (.int p4), .val (.int (p1 &&& (7 : Int32))), .val (.ref b5), .unset] [(.int (2 : Int32)), (.ref b5)])) _
    refine XS.iloadN X7.here hx rfl (hb hby at_44) rfl ?_
    show Steps p.tables e below (T7.setTop (mkF m 45 #[.val (.int p1), .val (.int p2), .val (.int p3), .val (.int p4), .val (.int (p1 &&& (7 : Int32))), .val (.ref b5), .unset] [(.int p4), (.int (2 : Int32)), (.ref b5)])) _
    refine XS.i2b X7.here hx rfl (hb hby at_45) rfl ?_
    show Steps p.tables e below (T7.setTop (mkF m 46 #[.val (.int p1), .val (.int p2), .val (.int p3), .val (.int p4), .val (.int (p1 &&& (7 : Int32))), .val (.ref b5), .unset] [(.int (p4.toInt8.toInt32)), (.int (2 : Int32)), (.ref b5)])) _
    refine st8 _ ?_
    show Steps p.tables e below (T8.setTop (mkF m 47 #[.val (.int p1), .val (.int p2), .val (.int p3), .val (.int p4), .val (.int (p1 &&& (7 : Int32))), .val (.ref b5), .unset] [])) _
    refine XS.iconst X8.here hx rfl (hb hby at_47) ?_
    show Steps p.tables e below (T8.setTop (mkF m 48 #[.val (.int p1), .val (.int p2), .val (.int p3), .val (.int p4), .val (.int (p1 &&& (7 : Int32))), .val (.ref b5), .unset] [(.int (0 : Int32))])) _
    refine XS.istore X8.here hx rfl (hb hby at_48) rfl (l' := #[.val (.int p1), .val (.int p2), .val (.int p3), .val (.int p4), .val (.int (p1 &&& (7 : Int32))), .val (.ref b5), .val (.int (0 : Int32))]) rfl ?_
    show Steps p.tables e below (T8.setTop (mkF m 50 #[.val (.int p1), .val (.int p2), .val (.int p3), .val (.int p4), .val (.int (p1 &&& (7 : Int32))), .val (.ref b5), .val (.int (0 : Int32))] [])) _
    refine XS.iload X8.here hx rfl (hb hby at_50) rfl ?_
    show Steps p.tables e below (T8.setTop (mkF m 52 #[.val (.int p1), .val (.int p2), .val (.int p3), .val (.int p4), .val (.int (p1 &&& (7 : Int32))), .val (.ref b5), .val (.int (0 : Int32))] [(.int (p1 &&& (7 : Int32)))])) _
    refine XS.iconst X8.here hx rfl (hb hby at_52) ?_
    show Steps p.tables e below (T8.setTop (mkF m 53 #[.val (.int p1), .val (.int p2), .val (.int p3), .val (.int p4), .val (.int (p1 &&& (7 : Int32))), .val (.ref b5), .val (.int (0 : Int32))] [(.int (2 : Int32)), (.int (p1 &&& (7 : Int32)))])) _
    refine XS.icmpNo X8.here hx rfl (hb hby at_53) rfl (flt hc53).1 ?_
    show Steps p.tables e below (T8.setTop (mkF m 56 #[.val (.int p1), .val (.int p2), .val (.int p3), .val (.int p4), .val (.int (p1 &&& (7 : Int32))), .val (.ref b5), .val (.int (0 : Int32))] [])) _
    refine XS.iloadN X8.here hx rfl (hb hby at_56) rfl ?_
    show Steps p.tables e below (T8.setTop (mkF m 57 #[.val (.int p1), .val (.int p2), .val (.int p3), .val (.int p4), .val (.int (p1 &&& (7 : Int32))), .val (.ref b5), .val (.int (0 : Int32))] [(.int p2)])) _
    refine XS.sipush X8.here hx rfl (hb hby at_57) ?_
    show Steps p.tables e below (T8.setTop (mkF m 60 #[.val (.int p1), .val (.int p2), .val (.int p3), .val (.int p4), .val (.int (p1 &&& (7 : Int32))), .val (.ref b5), .val (.int (0 : Int32))] [(.int (255 : Int32)), (.int p2)])) _
    refine XS.iand X8.here hx rfl (hb hby at_60) rfl ?_
    show Steps p.tables e below (T8.setTop (mkF m 61 #[.val (.int p1), .val (.int p2), .val (.int p3), .val (.int p4), .val (.int (p1 &&& (7 : Int32))), .val (.ref b5), .val (.int (0 : Int32))] [(.int (p2 &&& (255 : Int32)))])) _
    refine XS.iconst X8.here hx rfl (hb hby at_61) ?_
    show Steps p.tables e below (T8.setTop (mkF m 62 #[.val (.int p1), .val (.int p2), .val (.int p3), .val (.int p4), .val (.int (p1 &&& (7 : Int32))), .val (.ref b5), .val (.int (0 : Int32))] [(.int (3 : Int32)), (.int (p2 &&& (255 : Int32)))])) _
    refine XS.icmpYes X8.here hx rfl (pc0 := 62) (pc' := 76) rfl (hb hby at_62) rfl (feq hc62).2 (by decide) (by decide) ?_
    show Steps p.tables e below (T8.setTop (mkF m 76 #[.val (.int p1), .val (.int p2), .val (.int p3), .val (.int p4), .val (.int (p1 &&& (7 : Int32))), .val (.ref b5), .val (.int (0 : Int32))] [])) _
    refine XS.aload X8.here hx rfl (hb hby at_76) rfl rfl ?_
    show Steps p.tables e below (T8.setTop (mkF m 78 #[.val (.int p1), .val (.int p2), .val (.int p3), .val (.int p4), .val (.int (p1 &&& (7 : Int32))), .val (.ref b5), .val (.int (0 : Int32))] [(.ref b5)])) _
    refine st9 _ ?_
    show Steps p.tables e below (T9.setTop (mkF m 81 #[.val (.int p1), .val (.int p2), .val (.int p3), .val (.int p4), .val (.int (p1 &&& (7 : Int32))), .val (.ref b5), .val (.int (0 : Int32))] [(.int r9)])) _
    refine XS.iload X9.here hx rfl (hb hby at_81) rfl ?_
    show Steps p.tables e below (T9.setTop (mkF m 83 #[.val (.int p1), .val (.int p2), .val (.int p3), .val (.int p4), .val (.int (p1 &&& (7 : Int32))), .val (.ref b5), .val (.int (0 : Int32))] [(.int (0 : Int32)), (.int r9)])) _
    refine XS.icmpNo X9.here hx rfl (hb hby at_83) rfl (teq hc83).2 ?_
    show Steps p.tables e below (T9.setTop (mkF m 86 #[.val (.int p1), .val (.int p2), .val (.int p3), .val (.int p4), .val (.int (p1 &&& (7 : Int32))), .val (.ref b5), .val (.int (0 : Int32))] [])) _
    refine XS.iconst X9.here hx rfl (hb hby at_86) ?_
    show Steps p.tables e below (T9.setTop (mkF m 87 #[.val (.int p1), .val (.int p2), .val (.int p3), .val (.int p4), .val (.int (p1 &&& (7 : Int32))), .val (.ref b5), .val (.int (0 : Int32))] [(.int (1 : Int32))])) _
    refine XS.goto X9.here hx rfl (pc0 := 87) (pc' := 91) rfl (hb hby at_87) (by decide) (by decide) ?_
    show Steps p.tables e below (T9.setTop (mkF m 91 #[.val (.int p1), .val (.int p2), .val (.int p3), .val (.int p4), .val (.int (p1 &&& (7 : Int32))), .val (.ref b5), .val (.int (0 : Int32))] [(.int (1 : Int32))])) _
    exact retN X9 hx (t := .boolean) Bd.returns (by simp) (hb hby at_91) hr
  · show Q0 n0 _ T9.heap _
    rw [e9]
    exact ⟨rfl, N9⟩
set_option maxRecDepth 65536 in
set_option maxHeartbeats 40000000 in
theorem rm0_ffffftf (l : Launch) (Z : State) (a0 : Array Value) (hw : ∀ d ∈ tables_1, d.before a0 Z = true) (ws : List Jvm.Cond) (p1 : Int32) (p2 : Int32) (p3 : Int32) (p4 : Int32) (w_MAGIC : Addr) (kM_9 : ClassId) (r9 : Int32) (h0 : Heap) (n0 : Nat) (Z0 : n0 ≤ h0.size) (S_MAGIC : Sta Z h0 "com/example/inward_firewall/inwardfirewall/BinaryXml" "MAGIC" "[B" (.ref w_MAGIC)) (V_w_MAGIC : Arv Z h0 w_MAGIC kM_9 .byte (2 : Int32) [.int (3 : Int32), .int (0 : Int32)] (.int (0 : Int32))) (P9 : R1 (p1 &&& (7 : Int32)) (nar .byte (p2.toInt8.toInt32)) (nar .byte (p3.toInt8.toInt32)) r9) (hz8 : ¬ (p1 &&& (7 : Int32)) < 0) (hk8 : ((p1 &&& (7 : Int32))).toNatClampNeg ≤ 7) (hc14 : (0 : Int32) < (p1 &&& (7 : Int32))) (hj22 : (0 : Int32) < (p1 &&& (7 : Int32))) (hc26 : (1 : Int32) < (p1 &&& (7 : Int32))) (hj34 : (1 : Int32) < (p1 &&& (7 : Int32))) (hc38 : (2 : Int32) < (p1 &&& (7 : Int32))) (hj46 : (2 : Int32) < (p1 &&& (7 : Int32))) (hc53 : ¬ ((p1 &&& (7 : Int32)) < (2 : Int32))) (hc62 : (p2 &&& (255 : Int32)) = (3 : Int32)) (hc70 : ¬ ((p3 &&& (255 : Int32)) = (0 : Int32))) (hc83 : r9 = (0 : Int32)) :
    MetFree l x (head1 (Jvm.Cond.code x code maxLocals ret :: ws) room_1) (fun a U => a = #[(.int p1), (.int p2), (.int p3), (.int p4)] ∧ Z.Warmed39 U.vm ∧ U.heap = h0) (fun _ _ _ _ _ => True) (fun _ U o U' => ∃ v L, o = .returned v ∧ Q0 n0 v U'.heap L ∧ FrameEnd U o U' L room_1.cells room_1.slots) := by
  refine MetFree.of_bodySF (plainFor_of_name pn_0) hisR ?_
  intro p e s m args below meth c s₁ Bd hml0 hP hK
  obtain ⟨rfl, hZ, hh⟩ := hP
  have hx := Bd.exec
  have hby := Bd.bytes
  have hml : c.maxLocals = 7 := hml0
  have hown : s.vm.findClass "com/example/inward_firewall/inwardfirewall/BinaryXmlIsBinaryXmlPinLaw" = some m.cls := findClass_of_methodNamed Bd.named
  have hnm := (name_of_methodNamed Bd.named Bd.method).1
  have X0 : Stand p l e room_1 s m #[(.int p1), (.int p2), (.int p3), (.int p4)] below meth c s₁ [] 0 0 := Stand.of_body Bd
  have e0 : s₁.heap = h0 := by rw [← hh, Bd.state]; rfl
  have N0 := Fr.nil n0
  have pre0 : ∀ t, Steps p.tables e below (s₁.setTop (mkF m 0 #[.val (.int p1), .val (.int p2), .val (.int p3), .val (.int p4), .unset, .unset, .unset] [])) t → Steps p.tables e below (s₁.setTop (entryFrame m #[(.int p1), (.int p2), (.int p3), (.int p4)] maxLocals)) t := fun t k => castTop (ef_0 m p1 p2 p3 p4) k
  -- 3. LAWS
  obtain ⟨T5, h5, k5, X5, e5, E5, A5, st5⟩ := newP X0 hx hZ (hw _ (List.mem_of_getElem? (i := 0) rfl)) e0 (g := (mkF m 8 #[.val (.int p1), .val (.int p2), .val (.int p3), .val (.int p4), .val (.int (p1 &&& (7 : Int32))), .unset, .unset] [(.int (p1 &&& (7 : Int32)))])) rfl (hb hby at_8) rfl hz8 (cap := 7) hk8 (by decide) (by decide) (by decide)
  obtain ⟨b5, g5⟩ : ∃ z, z = h0.size := ⟨_, rfl⟩
  rw [← g5] at A5 st5
  have V_b5 : Arv Z h5 b5 k5 .byte (p1 &&& (7 : Int32)) [(.int (0 : Int32)), (.int (0 : Int32)), (.int (0 : Int32))] (.int (0 : Int32)) := (Arv.new A5 hz8).pad (pad_rep [] (.int (0 : Int32)) 3)
  have g_b5 : n0 ≤ b5 := Nat.le_trans Z0 (Nat.le_of_eq g5.symm)
  obtain ⟨cl22v, Ar22v, q22v, S22v, N22v, H22v, G22v⟩ := V_b5
  have hin22 : ¬ ((0 : Int32) < 0 ∨ cl22v.slots.size ≤ ((0 : Int32)).toNatClampNeg) := inb_of S22v ⟨by decide, hj22⟩
  obtain ⟨T6, h6, X6, e6, W6, st6⟩ := stB X5 hx hZ e5 Ar22v (j := (0 : Int32)) hin22 (g := (mkF m 22 #[.val (.int p1), .val (.int p2), .val (.int p3), .val (.int p4), .val (.int (p1 &&& (7 : Int32))), .val (.ref b5), .unset] [(.int (p2.toInt8.toInt32)), (.int (0 : Int32)), (.ref b5)])) rfl rfl (hb hby at_22)
  have V22 : Arv Z h6 b5 k5 .byte (p1 &&& (7 : Int32)) [(.int (nar .byte (p2.toInt8.toInt32))), (.int (0 : Int32)), (.int (0 : Int32))] (.int (0 : Int32)) := Arv.set Ar22v q22v S22v N22v H22v G22v (fits_nar_byte _) W6 0 rfl (Nat.le_of_ble_eq_true rfl)
  have N6 := Fr.snoc X6 N0 g_b5
  obtain ⟨cl34v, Ar34v, q34v, S34v, N34v, H34v, G34v⟩ := V22
  have hin34 : ¬ ((1 : Int32) < 0 ∨ cl34v.slots.size ≤ ((1 : Int32)).toNatClampNeg) := inb_of S34v ⟨by decide, hj34⟩
  obtain ⟨T7, h7, X7, e7, W7, st7⟩ := stB X6 hx hZ e6 Ar34v (j := (1 : Int32)) hin34 (g := (mkF m 34 #[.val (.int p1), .val (.int p2), .val (.int p3), .val (.int p4), .val (.int (p1 &&& (7 : Int32))), .val (.ref b5), .unset] [(.int (p3.toInt8.toInt32)), (.int (1 : Int32)), (.ref b5)])) rfl rfl (hb hby at_34)
  have V34 : Arv Z h7 b5 k5 .byte (p1 &&& (7 : Int32)) [(.int (nar .byte (p2.toInt8.toInt32))), (.int (nar .byte (p3.toInt8.toInt32))), (.int (0 : Int32))] (.int (0 : Int32)) := Arv.set Ar34v q34v S34v N34v H34v G34v (fits_nar_byte _) W7 1 rfl (Nat.le_of_ble_eq_true rfl)
  have N7 := Fr.snoc X7 N6 g_b5
  obtain ⟨cl46v, Ar46v, q46v, S46v, N46v, H46v, G46v⟩ := V34
  have hin46 : ¬ ((2 : Int32) < 0 ∨ cl46v.slots.size ≤ ((2 : Int32)).toNatClampNeg) := inb_of S46v ⟨by decide, hj46⟩
  obtain ⟨T8, h8, X8, e8, W8, st8⟩ := stB X7 hx hZ e7 Ar46v (j := (2 : Int32)) hin46 (g := (mkF m 46 #[.val (.int p1), .val (.int p2), .val (.int p3), .val (.int p4), .val (.int (p1 &&& (7 : Int32))), .val (.ref b5), .unset] [(.int (p4.toInt8.toInt32)), (.int (2 : Int32)), (.ref b5)])) rfl rfl (hb hby at_46)
  have V46 : Arv Z h8 b5 k5 .byte (p1 &&& (7 : Int32)) [(.int (nar .byte (p2.toInt8.toInt32))), (.int (nar .byte (p3.toInt8.toInt32))), (.int (nar .byte (p4.toInt8.toInt32)))] (.int (0 : Int32)) := Arv.set Ar46v q46v S46v N46v H46v G46v (fits_nar_byte _) W8 2 rfl (Nat.le_of_ble_eq_true rfl)
  have N8 := Fr.snoc X8 N7 g_b5
  obtain ⟨_, _, ⟨T9, L9, k9, n9⟩, -, X9, ⟨Lc9, hQ9, l9, y9, z9⟩, st9⟩ := Jvm.LawKit.callS X8 hx (y := (⟨"com/example/inward_firewall/inwardfirewall/BinaryXml", "isBinaryXml", "([B)Z"⟩ : MethodName)) hown (mvT hZ (hw _ (List.mem_of_getElem? (i := 1) rfl))) (mvT hZ (hw _ (List.mem_of_getElem? (i := 2) rfl))) (mvT hZ (hw _ (List.mem_of_getElem? (i := 3) rfl))) (mvT hZ (hw _ (List.mem_of_getElem? (i := 4) rfl))) (by decide) (backOf (W := 0) (rm1 l Z a0 hw [] b5 k5 (p1 &&& (7 : Int32)) (nar .byte (p2.toInt8.toInt32)) (nar .byte (p3.toInt8.toInt32)) (nar .byte (p4.toInt8.toInt32)) w_MAGIC kM_9 r9 h8 n0 (Nat.le_trans (Nat.le_trans (Nat.le_trans (Nat.le_trans Z0 E5.1) (Keep.of_wr W6).1) (Keep.of_wr W7).1) (Keep.of_wr W8).1) ((((S_MAGIC.ext E5).wr W6).wr W7).wr W8) V46 ((((V_w_MAGIC.ext E5).other W6 (Nat.ne_of_lt (Nat.lt_of_lt_of_le V_w_MAGIC.lt (Nat.le_of_eq g5.symm)))).other W7 (Nat.ne_of_lt (Nat.lt_of_lt_of_le V_w_MAGIC.lt (Nat.le_of_eq g5.symm)))).other W8 (Nat.ne_of_lt (Nat.lt_of_lt_of_le V_w_MAGIC.lt (Nat.le_of_eq g5.symm)))) P9) hZ (hw _ (List.mem_of_getElem? (i := 4) rfl)) (hw _ (List.mem_of_getElem? (i := 3) rfl)) (by decide) (by decide)) (g := (mkF m 78 #[.val (.int p1), .val (.int p2), .val (.int p3), .val (.int p4), .val (.int (p1 &&& (7 : Int32))), .val (.ref b5), .val (.int (0 : Int32))] [(.ref b5)])) rfl (by rw [hml]; rfl) (argsL := [(.ref b5)]) (rest := []) (lenOf pd_0_0 rfl) rfl (by show 2 * 0 + _ ≤ _; exact Nat.le_of_eq rfl) (hb hby at_78) (fun _ _ => ⟨rfl, e8, (by decide : 1 + 0 ≤ _), (by decide : 7 + 0 ≤ _)⟩)
  dsimp only [Pt.U, Pt.locs, Pt.cells, Pt.slots] at X9 l9 y9 z9 st9 hQ9
  subst l9 y9 z9
  obtain ⟨rfl, N9q, e9⟩ := hQ9
  have N9 := Fr.app N8 N9q
  obtain ⟨fs, hr, hrun, hended, hW, hsame⟩ := X9.leave (v := some (.int (1 : Int32))) (fun h => by rw [Bd.returns] at h; cases h)
  refine ⟨_, _, pre0 _ ?_, hrun, hended, _, _, rfl, ?_, ⟨_, rfl⟩, hW, hsame.mono (by decide) (by decide)⟩
  -- 4. STEPS
  · show Steps p.tables e below (s₁.setTop (mkF m 0 #[.val (.int p1), .val (.int p2), .val (.int p3), .val (.int p4), .unset, .unset, .unset] [])) _
    refine XS.iloadN X0.here hx rfl (hb hby at_0) rfl ?_
    show Steps p.tables e below (s₁.setTop (mkF m 1 #[.val (.int p1), .val (.int p2), .val (.int p3), .val (.int p4), .unset, .unset, .unset] [(.int p1)])) _
    refine XS.bipush X0.here hx rfl (hb hby at_1) ?_
    show Steps p.tables e below (s₁.setTop (mkF m 3 #[.val (.int p1), .val (.int p2), .val (.int p3), .val (.int p4), .unset, .unset, .unset] [(.int (7 : Int32)), (.int p1)])) _
    refine XS.iand X0.here hx rfl (hb hby at_3) rfl ?_
    show Steps p.tables e below (s₁.setTop (mkF m 4 #[.val (.int p1), .val (.int p2), .val (.int p3), .val (.int p4), .unset, .unset, .unset] [(.int (p1 &&& (7 : Int32)))])) _
    refine XS.istore X0.here hx rfl (hb hby at_4) rfl (l' := #[.val (.int p1), .val (.int p2), .val (.int p3), .val (.int p4), .val (.int (p1 &&& (7 : Int32))), .unset, .unset]) rfl ?_
    show Steps p.tables e below (s₁.setTop (mkF m 6 #[.val (.int p1), .val (.int p2), .val (.int p3), .val (.int p4), .val (.int (p1 &&& (7 : Int32))), .unset, .unset] [])) _
    refine XS.iload X0.here hx rfl (hb hby at_6) rfl ?_
    show Steps p.tables e below (s₁.setTop (mkF m 8 #[.val (.int p1), .val (.int p2), .val (.int p3), .val (.int p4), .val (.int (p1 &&& (7 : Int32))), .unset, .unset] [(.int (p1 &&& (7 : Int32)))])) _
    refine st5 _ ?_
    show Steps p.tables e below (T5.setTop (mkF m 10 #[.val (.int p1), .val (.int p2), .val (.int p3), .val (.int p4), .val (.int (p1 &&& (7 : Int32))), .unset, .unset] [(.ref b5)])) _
    refine XS.astore X5.here hx rfl (hb hby at_10) rfl rfl (l' := #[.val (.int p1), .val (.int p2), .val (.int p3), .val (.int p4), .val (.int (p1 &&& (7 : Int32))), .val (.ref b5), .unset]) rfl ?_
    show Steps p.tables e below (T5.setTop (mkF m 12 #[.val (.int p1), .val (.int p2), .val (.int p3), .val (.int p4), .val (.int (p1 &&& (7 : Int32))), .val (.ref b5), .unset] [])) _
    refine XS.iload X5.here hx rfl (hb hby at_12) rfl ?_
    show Steps p.tables e below (T5.setTop (mkF m 14 #[.val (.int p1), .val (.int p2), .val (.int p3), .val (.int p4), .val (.int (p1 &&& (7 : Int32))), .val (.ref b5), .unset] [(.int (p1 &&& (7 : Int32)))])) _
    refine XS.ifNo X5.here hx rfl (hb hby at_14) rfl ((if0 _ _).trans (tlt hc14).2.2.2) ?_
    show Steps p.tables e below (T5.setTop (mkF m 17 #[.val (.int p1), .val (.int p2), .val (.int p3), .val (.int p4), .val (.int (p1 &&& (7 : Int32))), .val (.ref b5), .unset] [])) _
    refine XS.aload X5.here hx rfl (hb hby at_17) rfl rfl ?_
    show Steps p.tables e below (T5.setTop (mkF m 19 #[.val (.int p1), .val (.int p2), .val (.int p3), .val (.int p4), .val (.int (p1 &&& (7 : Int32))), .val (.ref b5), .unset] [(.ref b5)])) _
    refine XS.iconst X5.here hx rfl (hb hby at_19) ?_
    show Steps p.tables e below (T5.setTop (mkF m 20 #[.val (.int p1), .val (.int p2), .val (.int p3), .val (.int p4), .val (.int (p1 &&& (7 : Int32))), .val (.ref b5), .unset] [(.int (0 : Int32)), (.ref b5)])) _
    refine XS.iloadN X5.here hx rfl (hb hby at_20) rfl ?_
    show Steps p.tables e below (T5.setTop (mkF m 21 #[.val (.int p1), .val (.int p2), .val (.int p3), .val (.int p4), .val (.int (p1 &&& (7 : Int32))), .val (.ref b5), .unset] [(.int p2), (.int (0 : Int32)), (.ref b5)])) _
    refine XS.i2b X5.here hx rfl (hb hby at_21) rfl ?_
    show Steps p.tables e below (T5.setTop (mkF m 22 #[.val (.int p1), .val (.int p2), .val (.int p3), .val (.int p4), .val (.int (p1 &&& (7 : Int32))), .val (.ref b5), .unset] [(.int (p2.toInt8.toInt32)), (.int (0 : Int32)), (.ref b5)])) _
    refine st6 _ ?_
    show Steps p.tables e below (T6.setTop (mkF m 23 #[.val (.int p1), .val (.int p2), .val (.int p3), .val (.int p4), .val (.int (p1 &&& (7 : Int32))), .val (.ref b5), .unset] [])) _
    refine XS.iload X6.here hx rfl (hb hby at_23) rfl ?_
    show Steps p.tables e below (T6.setTop (mkF m 25 #[.val (.int p1), .val (.int p2), .val (.int p3), .val (.int p4), .val (.int (p1 &&& (7 : Int32))), .val (.ref b5), .unset] [(.int (p1 &&& (7 : Int32)))])) _
    refine XS.iconst X6.here hx rfl (hb hby at_25) ?_
    show Steps p.tables e below (T6.setTop (mkF m 26 #[.val (.int p1), .val (.int p2), .val (.int p3), .val (.int p4), .val (.int (p1 &&& (7 : Int32))), .val (.ref b5), .unset] [(.int (1 : Int32)), (.int (p1 &&& (7 : Int32)))])) _
    refine XS.icmpNo X6.here hx rfl (hb hby at_26) rfl (tlt hc26).2.2.2 ?_
    show Steps p.tables e below (T6.setTop (mkF m 29 #[.val (.int p1), .val (.int p2), .val (.int p3), .val (.int p4), .val (.int (p1 &&& (7 : Int32))), .val (.ref b5), .unset] [])) _
    refine XS.aload X6.here hx rfl (hb hby at_29) rfl rfl ?_
    show Steps p.tables e below (T6.setTop (mkF m 31 #[.val (.int p1), .val (.int p2), .val (.int p3), .val (.int p4), .val (.int (p1 &&& (7 : Int32))), .val (.ref b5), .unset] [(.ref b5)])) _
    refine XS.iconst X6.here hx rfl (hb hby at_31) ?_
    show Steps p.tables e below (T6.setTop (mkF m 32 #[.val (.int p1), .val (.int p2), .val (.int p3), .val (.int p4), .val (.int (p1 &&& (7 : Int32))), .val (.ref b5), .unset] [(.int (1 : Int32)), (.ref b5)])) _
    refine XS.iloadN X6.here hx rfl (hb hby at_32) rfl ?_
    show Steps p.tables e below (T6.setTop (mkF m 33 #[.val (.int p1), .val (.int p2), .val (.int p3), .val (.int p4), .val (.int (p1 &&& (7 : Int32))), .val (.ref b5), .unset] [(.int p3), (.int (1 : Int32)), (.ref b5)])) _
    refine XS.i2b X6.here hx rfl (hb hby at_33) rfl ?_
    show Steps p.tables e below (T6.setTop (mkF m 34 #[.val (.int p1), .val (.int p2), .val (.int p3), .val (.int p4), .val (.int (p1 &&& (7 : Int32))), .val (.ref b5), .unset] [(.int (p3.toInt8.toInt32)), (.int (1 : Int32)), (.ref b5)])) _
    refine st7 _ ?_
    show Steps p.tables e below (T7.setTop (mkF m 35 #[.val (.int p1), .val (.int p2), .val (.int p3), .val (.int p4), .val (.int (p1 &&& (7 : Int32))), .val (.ref b5), .unset] [])) _
    refine XS.iload X7.here hx rfl (hb hby at_35) rfl ?_
    show Steps p.tables e below (T7.setTop (mkF m 37 #[.val (.int p1), .val (.int p2), .val (.int p3), .val (.int p4), .val (.int (p1 &&& (7 : Int32))), .val (.ref b5), .unset] [(.int (p1 &&& (7 : Int32)))])) _
    refine XS.iconst X7.here hx rfl (hb hby at_37) ?_
    show Steps p.tables e below (T7.setTop (mkF m 38 #[.val (.int p1), .val (.int p2), .val (.int p3), .val (.int p4), .val (.int (p1 &&& (7 : Int32))), .val (.ref b5), .unset] [(.int (2 : Int32)), (.int (p1 &&& (7 : Int32)))])) _
    refine XS.icmpNo X7.here hx rfl (hb hby at_38) rfl (tlt hc38).2.2.2 ?_
    show Steps p.tables e below (T7.setTop (mkF m 41 #[.val (.int p1), .val (.int p2), .val (.int p3), .val (.int p4), .val (.int (p1 &&& (7 : Int32))), .val (.ref b5), .unset] [])) _
    refine XS.aload X7.here hx rfl (hb hby at_41) rfl rfl ?_
    show Steps p.tables e below (T7.setTop (mkF m 43 #[.val (.int p1), .val (.int p2), .val (.int p3), .val (.int p4), .val (.int (p1 &&& (7 : Int32))), .val (.ref b5), .unset] [(.ref b5)])) _
    refine XS.iconst X7.here hx rfl (hb hby at_43) ?_
    show Steps p.tables e below (T7.setTop (mkF m 44 #[.val (.int p1), .val (.int p2), .val (.int p3), .val (.int p4), .val (.int (p1 &&& (7 : Int32))), .val (.ref b5), .unset] [(.int (2 : Int32)), (.ref b5)])) _
    refine XS.iloadN X7.here hx rfl (hb hby at_44) rfl ?_
    show Steps p.tables e below (T7.setTop (mkF m 45 #[.val (.int p1), .val (.int p2), .val (.int p3), .val (.int p4), .val (.int (p1 &&& (7 : Int32))), .val (.ref b5), .unset] [(.int p4), (.int (2 : Int32)), (.ref b5)])) _
    refine XS.i2b X7.here hx rfl (hb hby at_45) rfl ?_
    show Steps p.tables e below (T7.setTop (mkF m 46 #[.val (.int p1), .val (.int p2), .val (.int p3), .val (.int p4), .val (.int (p1 &&& (7 : Int32))), .val (.ref b5), .unset] [(.int (p4.toInt8.toInt32)), (.int (2 : Int32)), (.ref b5)])) _
    refine st8 _ ?_
    show Steps p.tables e below (T8.setTop (mkF m 47 #[.val (.int p1), .val (.int p2), .val (.int p3), .val (.int p4), .val (.int (p1 &&& (7 : Int32))), .val (.ref b5), .unset] [])) _
    refine XS.iconst X8.here hx rfl (hb hby at_47) ?_
    show Steps p.tables e below (T8.setTop (mkF m 48 #[.val (.int p1), .val (.int p2), .val (.int p3), .val (.int p4), .val (.int (p1 &&& (7 : Int32))), .val (.ref b5), .unset] [(.int (0 : Int32))])) _
    refine XS.istore X8.here hx rfl (hb hby at_48) rfl (l' := #[.val (.int p1), .val (.int p2), .val (.int p3), .val (.int p4), .val (.int (p1 &&& (7 : Int32))), .val (.ref b5), .val (.int (0 : Int32))]) rfl ?_
    show Steps p.tables e below (T8.setTop (mkF m 50 #[.val (.int p1), .val (.int p2), .val (.int p3), .val (.int p4), .val (.int (p1 &&& (7 : Int32))), .val (.ref b5), .val (.int (0 : Int32))] [])) _
    refine XS.iload X8.here hx rfl (hb hby at_50) rfl ?_
    show Steps p.tables e below (T8.setTop (mkF m 52 #[.val (.int p1), .val (.int p2), .val (.int p3), .val (.int p4), .val (.int (p1 &&& (7 : Int32))), .val (.ref b5), .val (.int (0 : Int32))] [(.int (p1 &&& (7 : Int32)))])) _
    refine XS.iconst X8.here hx rfl (hb hby at_52) ?_
    show Steps p.tables e below (T8.setTop (mkF m 53 #[.val (.int p1), .val (.int p2), .val (.int p3), .val (.int p4), .val (.int (p1 &&& (7 : Int32))), .val (.ref b5), .val (.int (0 : Int32))] [(.int (2 : Int32)), (.int (p1 &&& (7 : Int32)))])) _
    refine XS.icmpNo X8.here hx rfl (hb hby at_53) rfl (flt hc53).1 ?_
    show Steps p.tables e below (T8.setTop (mkF m 56 #[.val (.int p1), .val (.int p2), .val (.int p3), .val (.int p4), .val (.int (p1 &&& (7 : Int32))), .val (.ref b5), .val (.int (0 : Int32))] [])) _
    refine XS.iloadN X8.here hx rfl (hb hby at_56) rfl ?_
    show Steps p.tables e below (T8.setTop (mkF m 57 #[.val (.int p1), .val (.int p2), .val (.int p3), .val (.int p4), .val (.int (p1 &&& (7 : Int32))), .val (.ref b5), .val (.int (0 : Int32))] [(.int p2)])) _
    refine XS.sipush X8.here hx rfl (hb hby at_57) ?_
    show Steps p.tables e below (T8.setTop (mkF m 60 #[.val (.int p1), .val (.int p2), .val (.int p3), .val (.int p4), .val (.int (p1 &&& (7 : Int32))), .val (.ref b5), .val (.int (0 : Int32))] [(.int (255 : Int32)), (.int p2)])) _
    refine XS.iand X8.here hx rfl (hb hby at_60) rfl ?_
    show Steps p.tables e below (T8.setTop (mkF m 61 #[.val (.int p1), .val (.int p2), .val (.int p3), .val (.int p4), .val (.int (p1 &&& (7 : Int32))), .val (.ref b5), .val (.int (0 : Int32))] [(.int (p2 &&& (255 : Int32)))])) _
    refine XS.iconst X8.here hx rfl (hb hby at_61) ?_
    show Steps p.tables e below (T8.setTop (mkF m 62 #[.val (.int p1), .val (.int p2), .val (.int p3), .val (.int p4), .val (.int (p1 &&& (7 : Int32))), .val (.ref b5), .val (.int (0 : Int32))] [(.int (3 : Int32)), (.int (p2 &&& (255 : Int32)))])) _
    refine XS.icmpNo X8.here hx rfl (hb hby at_62) rfl (teq hc62).2 ?_
    show Steps p.tables e below (T8.setTop (mkF m 65 #[.val (.int p1), .val (.int p2), .val (.int p3), .val (.int p4), .val (.int (p1 &&& (7 : Int32))), .val (.ref b5), .val (.int (0 : Int32))] [])) _
    refine XS.iloadN X8.here hx rfl (hb hby at_65) rfl ?_
    show Steps p.tables e below (T8.setTop (mkF m 66 #[.val (.int p1), .val (.int p2), .val (.int p3), .val (.int p4), .val (.int (p1 &&& (7 : Int32))), .val (.ref b5), .val (.int (0 : Int32))] [(.int p3)])) _
    refine XS.sipush X8.here hx rfl (hb hby at_66) ?_
    show Steps p.tables e below (T8.setTop (mkF m 69 #[.val (.int p1), .val (.int p2), .val (.int p3), .val (.int p4), .val (.int (p1 &&& (7 : Int32))), .val (.ref b5), .val (.int (0 : Int32))] [(.int (255 : Int32)), (.int p3)])) _
    refine XS.iand X8.here hx rfl (hb hby at_69) rfl ?_
    show Steps p.tables e below (T8.setTop (mkF m 70 #[.val (.int p1), .val (.int p2), .val (.int p3), .val (.int p4), .val (.int (p1 &&& (7 : Int32))), .val (.ref b5), .val (.int (0 : Int32))] [(.int (p3 &&& (255 : Int32)))])) _
    refine XS.ifYes X8.here hx rfl (pc0 := 70) (pc' := 76) rfl (hb hby at_70) rfl ((if0 _ _).trans (feq hc70).2) (by decide) (by decide) ?_
    show Steps p.tables e below (T8.setTop (mkF m 76 #[.val (.int p1), .val (.int p2), .val (.int p3), .val (.int p4), .val (.int (p1 &&& (7 : Int32))), .val (.ref b5), .val (.int (0 : Int32))] [])) _
    refine XS.aload X8.here hx rfl (hb hby at_76) rfl rfl ?_
    show Steps p.tables e below (T8.setTop (mkF m 78 #[.val (.int p1), .val (.int p2), .val (.int p3), .val (.int p4), .val (.int (p1 &&& (7 : Int32))), .val (.ref b5), .val (.int (0 : Int32))] [(.ref b5)])) _
    refine st9 _ ?_
    show Steps p.tables e below (T9.setTop (mkF m 81 #[.val (.int p1), .val (.int p2), .val (.int p3), .val (.int p4), .val (.int (p1 &&& (7 : Int32))), .val (.ref b5), .val (.int (0 : Int32))] [(.int r9)])) _
    refine XS.iload X9.here hx rfl (hb hby at_81) rfl ?_
    show Steps p.tables e below (T9.setTop (mkF m 83 #[.val (.int p1), .val (.int p2), .val (.int p3), .val (.int p4), .val (.int (p1 &&& (7 : Int32))), .val (.ref b5), .val (.int (0 : Int32))] [(.int (0 : Int32)), (.int r9)])) _
    refine XS.icmpNo X9.here hx rfl (hb hby at_83) rfl (teq hc83).2 ?_
    show Steps p.tables e below (T9.setTop (mkF m 86 #[.val (.int p1), .val (.int p2), .val (.int p3), .val (.int p4), .val (.int (p1 &&& (7 : Int32))), .val (.ref b5), .val (.int (0 : Int32))] [])) _
    refine XS.iconst X9.here hx rfl (hb hby at_86) ?_
    show Steps p.tables e below (T9.setTop (mkF m 87 #[.val (.int p1), .val (.int p2), .val (.int p3), .val (.int p4), .val (.int (p1 &&& (7 : Int32))), .val (.ref b5), .val (.int (0 : Int32))] [(.int (1 : Int32))])) _
    refine XS.goto X9.here hx rfl (pc0 := 87) (pc' := 91) rfl (hb hby at_87) (by decide) (by decide) ?_
    show Steps p.tables e below (T9.setTop (mkF m 91 #[.val (.int p1), .val (.int p2), .val (.int p3), .val (.int p4), .val (.int (p1 &&& (7 : Int32))), .val (.ref b5), .val (.int (0 : Int32))] [(.int (1 : Int32))])) _
    exact retN X9 hx (t := .boolean) Bd.returns (by simp) (hb hby at_91) hr
  · show Q0 n0 _ T9.heap _
    rw [e9]
    exact ⟨rfl, N9⟩
set_option maxRecDepth 65536 in
set_option maxHeartbeats 40000000 in
theorem rm0_fffffff (l : Launch) (Z : State) (a0 : Array Value) (hw : ∀ d ∈ tables_1, d.before a0 Z = true) (ws : List Jvm.Cond) (p1 : Int32) (p2 : Int32) (p3 : Int32) (p4 : Int32) (w_MAGIC : Addr) (kM_9 : ClassId) (r9 : Int32) (h0 : Heap) (n0 : Nat) (Z0 : n0 ≤ h0.size) (S_MAGIC : Sta Z h0 "com/example/inward_firewall/inwardfirewall/BinaryXml" "MAGIC" "[B" (.ref w_MAGIC)) (V_w_MAGIC : Arv Z h0 w_MAGIC kM_9 .byte (2 : Int32) [.int (3 : Int32), .int (0 : Int32)] (.int (0 : Int32))) (P9 : R1 (p1 &&& (7 : Int32)) (nar .byte (p2.toInt8.toInt32)) (nar .byte (p3.toInt8.toInt32)) r9) (hz8 : ¬ (p1 &&& (7 : Int32)) < 0) (hk8 : ((p1 &&& (7 : Int32))).toNatClampNeg ≤ 7) (hc14 : (0 : Int32) < (p1 &&& (7 : Int32))) (hj22 : (0 : Int32) < (p1 &&& (7 : Int32))) (hc26 : (1 : Int32) < (p1 &&& (7 : Int32))) (hj34 : (1 : Int32) < (p1 &&& (7 : Int32))) (hc38 : (2 : Int32) < (p1 &&& (7 : Int32))) (hj46 : (2 : Int32) < (p1 &&& (7 : Int32))) (hc53 : ¬ ((p1 &&& (7 : Int32)) < (2 : Int32))) (hc62 : (p2 &&& (255 : Int32)) = (3 : Int32)) (hc70 : (p3 &&& (255 : Int32)) = (0 : Int32)) (hc83 : r9 = (1 : Int32)) :
    MetFree l x (head1 (Jvm.Cond.code x code maxLocals ret :: ws) room_1) (fun a U => a = #[(.int p1), (.int p2), (.int p3), (.int p4)] ∧ Z.Warmed39 U.vm ∧ U.heap = h0) (fun _ _ _ _ _ => True) (fun _ U o U' => ∃ v L, o = .returned v ∧ Q0 n0 v U'.heap L ∧ FrameEnd U o U' L room_1.cells room_1.slots) := by
  refine MetFree.of_bodySF (plainFor_of_name pn_0) hisR ?_
  intro p e s m args below meth c s₁ Bd hml0 hP hK
  obtain ⟨rfl, hZ, hh⟩ := hP
  have hx := Bd.exec
  have hby := Bd.bytes
  have hml : c.maxLocals = 7 := hml0
  have hown : s.vm.findClass "com/example/inward_firewall/inwardfirewall/BinaryXmlIsBinaryXmlPinLaw" = some m.cls := findClass_of_methodNamed Bd.named
  have hnm := (name_of_methodNamed Bd.named Bd.method).1
  have X0 : Stand p l e room_1 s m #[(.int p1), (.int p2), (.int p3), (.int p4)] below meth c s₁ [] 0 0 := Stand.of_body Bd
  have e0 : s₁.heap = h0 := by rw [← hh, Bd.state]; rfl
  have N0 := Fr.nil n0
  have pre0 : ∀ t, Steps p.tables e below (s₁.setTop (mkF m 0 #[.val (.int p1), .val (.int p2), .val (.int p3), .val (.int p4), .unset, .unset, .unset] [])) t → Steps p.tables e below (s₁.setTop (entryFrame m #[(.int p1), (.int p2), (.int p3), (.int p4)] maxLocals)) t := fun t k => castTop (ef_0 m p1 p2 p3 p4) k
  -- 3. LAWS
  obtain ⟨T5, h5, k5, X5, e5, E5, A5, st5⟩ := newP X0 hx hZ (hw _ (List.mem_of_getElem? (i := 0) rfl)) e0 (g := (mkF m 8 #[.val (.int p1), .val (.int p2), .val (.int p3), .val (.int p4), .val (.int (p1 &&& (7 : Int32))), .unset, .unset] [(.int (p1 &&& (7 : Int32)))])) rfl (hb hby at_8) rfl hz8 (cap := 7) hk8 (by decide) (by decide) (by decide)
  obtain ⟨b5, g5⟩ : ∃ z, z = h0.size := ⟨_, rfl⟩
  rw [← g5] at A5 st5
  have V_b5 : Arv Z h5 b5 k5 .byte (p1 &&& (7 : Int32)) [(.int (0 : Int32)), (.int (0 : Int32)), (.int (0 : Int32))] (.int (0 : Int32)) := (Arv.new A5 hz8).pad (pad_rep [] (.int (0 : Int32)) 3)
  have g_b5 : n0 ≤ b5 := Nat.le_trans Z0 (Nat.le_of_eq g5.symm)
  obtain ⟨cl22v, Ar22v, q22v, S22v, N22v, H22v, G22v⟩ := V_b5
  have hin22 : ¬ ((0 : Int32) < 0 ∨ cl22v.slots.size ≤ ((0 : Int32)).toNatClampNeg) := inb_of S22v ⟨by decide, hj22⟩
  obtain ⟨T6, h6, X6, e6, W6, st6⟩ := stB X5 hx hZ e5 Ar22v (j := (0 : Int32)) hin22 (g := (mkF m 22 #[.val (.int p1), .val (.int p2), .val (.int p3), .val (.int p4), .val (.int (p1 &&& (7 : Int32))), .val (.ref b5), .unset] [(.int (p2.toInt8.toInt32)), (.int (0 : Int32)), (.ref b5)])) rfl rfl (hb hby at_22)
  have V22 : Arv Z h6 b5 k5 .byte (p1 &&& (7 : Int32)) [(.int (nar .byte (p2.toInt8.toInt32))), (.int (0 : Int32)), (.int (0 : Int32))] (.int (0 : Int32)) := Arv.set Ar22v q22v S22v N22v H22v G22v (fits_nar_byte _) W6 0 rfl (Nat.le_of_ble_eq_true rfl)
  have N6 := Fr.snoc X6 N0 g_b5
  obtain ⟨cl34v, Ar34v, q34v, S34v, N34v, H34v, G34v⟩ := V22
  have hin34 : ¬ ((1 : Int32) < 0 ∨ cl34v.slots.size ≤ ((1 : Int32)).toNatClampNeg) := inb_of S34v ⟨by decide, hj34⟩
  obtain ⟨T7, h7, X7, e7, W7, st7⟩ := stB X6 hx hZ e6 Ar34v (j := (1 : Int32)) hin34 (g := (mkF m 34 #[.val (.int p1), .val (.int p2), .val (.int p3), .val (.int p4), .val (.int (p1 &&& (7 : Int32))), .val (.ref b5), .unset] [(.int (p3.toInt8.toInt32)), (.int (1 : Int32)), (.ref b5)])) rfl rfl (hb hby at_34)
  have V34 : Arv Z h7 b5 k5 .byte (p1 &&& (7 : Int32)) [(.int (nar .byte (p2.toInt8.toInt32))), (.int (nar .byte (p3.toInt8.toInt32))), (.int (0 : Int32))] (.int (0 : Int32)) := Arv.set Ar34v q34v S34v N34v H34v G34v (fits_nar_byte _) W7 1 rfl (Nat.le_of_ble_eq_true rfl)
  have N7 := Fr.snoc X7 N6 g_b5
  obtain ⟨cl46v, Ar46v, q46v, S46v, N46v, H46v, G46v⟩ := V34
  have hin46 : ¬ ((2 : Int32) < 0 ∨ cl46v.slots.size ≤ ((2 : Int32)).toNatClampNeg) := inb_of S46v ⟨by decide, hj46⟩
  obtain ⟨T8, h8, X8, e8, W8, st8⟩ := stB X7 hx hZ e7 Ar46v (j := (2 : Int32)) hin46 (g := (mkF m 46 #[.val (.int p1), .val (.int p2), .val (.int p3), .val (.int p4), .val (.int (p1 &&& (7 : Int32))), .val (.ref b5), .unset] [(.int (p4.toInt8.toInt32)), (.int (2 : Int32)), (.ref b5)])) rfl rfl (hb hby at_46)
  have V46 : Arv Z h8 b5 k5 .byte (p1 &&& (7 : Int32)) [(.int (nar .byte (p2.toInt8.toInt32))), (.int (nar .byte (p3.toInt8.toInt32))), (.int (nar .byte (p4.toInt8.toInt32)))] (.int (0 : Int32)) := Arv.set Ar46v q46v S46v N46v H46v G46v (fits_nar_byte _) W8 2 rfl (Nat.le_of_ble_eq_true rfl)
  have N8 := Fr.snoc X8 N7 g_b5
  obtain ⟨_, _, ⟨T9, L9, k9, n9⟩, -, X9, ⟨Lc9, hQ9, l9, y9, z9⟩, st9⟩ := Jvm.LawKit.callS X8 hx (y := (⟨"com/example/inward_firewall/inwardfirewall/BinaryXml", "isBinaryXml", "([B)Z"⟩ : MethodName)) hown (mvT hZ (hw _ (List.mem_of_getElem? (i := 1) rfl))) (mvT hZ (hw _ (List.mem_of_getElem? (i := 2) rfl))) (mvT hZ (hw _ (List.mem_of_getElem? (i := 3) rfl))) (mvT hZ (hw _ (List.mem_of_getElem? (i := 4) rfl))) (by decide) (backOf (W := 0) (rm1 l Z a0 hw [] b5 k5 (p1 &&& (7 : Int32)) (nar .byte (p2.toInt8.toInt32)) (nar .byte (p3.toInt8.toInt32)) (nar .byte (p4.toInt8.toInt32)) w_MAGIC kM_9 r9 h8 n0 (Nat.le_trans (Nat.le_trans (Nat.le_trans (Nat.le_trans Z0 E5.1) (Keep.of_wr W6).1) (Keep.of_wr W7).1) (Keep.of_wr W8).1) ((((S_MAGIC.ext E5).wr W6).wr W7).wr W8) V46 ((((V_w_MAGIC.ext E5).other W6 (Nat.ne_of_lt (Nat.lt_of_lt_of_le V_w_MAGIC.lt (Nat.le_of_eq g5.symm)))).other W7 (Nat.ne_of_lt (Nat.lt_of_lt_of_le V_w_MAGIC.lt (Nat.le_of_eq g5.symm)))).other W8 (Nat.ne_of_lt (Nat.lt_of_lt_of_le V_w_MAGIC.lt (Nat.le_of_eq g5.symm)))) P9) hZ (hw _ (List.mem_of_getElem? (i := 4) rfl)) (hw _ (List.mem_of_getElem? (i := 3) rfl)) (by decide) (by decide)) (g := (mkF m 78 #[.val (.int p1), .val (.int p2), .val (.int p3), .val (.int p4), .val (.int (p1 &&& (7 : Int32))), .val (.ref b5), .val (.int (1 : Int32))] [(.ref b5)])) rfl (by rw [hml]; rfl) (argsL := [(.ref b5)]) (rest := []) (lenOf pd_0_0 rfl) rfl (by show 2 * 0 + _ ≤ _; exact Nat.le_of_eq rfl) (hb hby at_78) (fun _ _ => ⟨rfl, e8, (by decide : 1 + 0 ≤ _), (by decide : 7 + 0 ≤ _)⟩)
  dsimp only [Pt.U, Pt.locs, Pt.cells, Pt.slots] at X9 l9 y9 z9 st9 hQ9
  subst l9 y9 z9
  obtain ⟨rfl, N9q, e9⟩ := hQ9
  have N9 := Fr.app N8 N9q
  obtain ⟨fs, hr, hrun, hended, hW, hsame⟩ := X9.leave (v := some (.int (1 : Int32))) (fun h => by rw [Bd.returns] at h; cases h)
  refine ⟨_, _, pre0 _ ?_, hrun, hended, _, _, rfl, ?_, ⟨_, rfl⟩, hW, hsame.mono (by decide) (by decide)⟩
  -- 4. STEPS
  · show Steps p.tables e below (s₁.setTop (mkF m 0 #[.val (.int p1), .val (.int p2), .val (.int p3), .val (.int p4), .unset, .unset, .unset] [])) _
    refine XS.iloadN X0.here hx rfl (hb hby at_0) rfl ?_
    show Steps p.tables e below (s₁.setTop (mkF m 1 #[.val (.int p1), .val (.int p2), .val (.int p3), .val (.int p4), .unset, .unset, .unset] [(.int p1)])) _
    refine XS.bipush X0.here hx rfl (hb hby at_1) ?_
    show Steps p.tables e below (s₁.setTop (mkF m 3 #[.val (.int p1), .val (.int p2), .val (.int p3), .val (.int p4), .unset, .unset, .unset] [(.int (7 : Int32)), (.int p1)])) _
    refine XS.iand X0.here hx rfl (hb hby at_3) rfl ?_
    show Steps p.tables e below (s₁.setTop (mkF m 4 #[.val (.int p1), .val (.int p2), .val (.int p3), .val (.int p4), .unset, .unset, .unset] [(.int (p1 &&& (7 : Int32)))])) _
    refine XS.istore X0.here hx rfl (hb hby at_4) rfl (l' := #[.val (.int p1), .val (.int p2), .val (.int p3), .val (.int p4), .val (.int (p1 &&& (7 : Int32))), .unset, .unset]) rfl ?_
    show Steps p.tables e below (s₁.setTop (mkF m 6 #[.val (.int p1), .val (.int p2), .val (.int p3), .val (.int p4), .val (.int (p1 &&& (7 : Int32))), .unset, .unset] [])) _
    refine XS.iload X0.here hx rfl (hb hby at_6) rfl ?_
    show Steps p.tables e below (s₁.setTop (mkF m 8 #[.val (.int p1), .val (.int p2), .val (.int p3), .val (.int p4), .val (.int (p1 &&& (7 : Int32))), .unset, .unset] [(.int (p1 &&& (7 : Int32)))])) _
    refine st5 _ ?_
    show Steps p.tables e below (T5.setTop (mkF m 10 #[.val (.int p1), .val (.int p2), .val (.int p3), .val (.int p4), .val (.int (p1 &&& (7 : Int32))), .unset, .unset] [(.ref b5)])) _
    refine XS.astore X5.here hx rfl (hb hby at_10) rfl rfl (l' := #[.val (.int p1), .val (.int p2), .val (.int p3), .val (.int p4), .val (.int (p1 &&& (7 : Int32))), .val (.ref b5), .unset]) rfl ?_
    show Steps p.tables e below (T5.setTop (mkF m 12 #[.val (.int p1), .val (.int p2), .val (.int p3), .val (.int p4), .val (.int (p1 &&& (7 : Int32))), .val (.ref b5), .unset] [])) _
    refine XS.iload X5.here hx rfl (hb hby at_12) rfl ?_
    show Steps p.tables e below (T5.setTop (mkF m 14 #[.val (.int p1), .val (.int p2), .val (.int p3), .val (.int p4), .val (.int (p1 &&& (7 : Int32))), .val (.ref b5), .unset] [(.int (p1 &&& (7 : Int32)))])) _
    refine XS.ifNo X5.here hx rfl (hb hby at_14) rfl ((if0 _ _).trans (tlt hc14).2.2.2) ?_
    show Steps p.tables e below (T5.setTop (mkF m 17 #[.val (.int p1), .val (.int p2), .val (.int p3), .val (.int p4), .val (.int (p1 &&& (7 : Int32))), .val (.ref b5), .unset] [])) _
    refine XS.aload X5.here hx rfl (hb hby at_17) rfl rfl ?_
    show Steps p.tables e below (T5.setTop (mkF m 19 #[.val (.int p1), .val (.int p2), .val (.int p3), .val (.int p4), .val (.int (p1 &&& (7 : Int32))), .val (.ref b5), .unset] [(.ref b5)])) _
    refine XS.iconst X5.here hx rfl (hb hby at_19) ?_
    show Steps p.tables e below (T5.setTop (mkF m 20 #[.val (.int p1), .val (.int p2), .val (.int p3), .val (.int p4), .val (.int (p1 &&& (7 : Int32))), .val (.ref b5), .unset] [(.int (0 : Int32)), (.ref b5)])) _
    refine XS.iloadN X5.here hx rfl (hb hby at_20) rfl ?_
    show Steps p.tables e below (T5.setTop (mkF m 21 #[.val (.int p1), .val (.int p2), .val (.int p3), .val (.int p4), .val (.int (p1 &&& (7 : Int32))), .val (.ref b5), .unset] [(.int p2), (.int (0 : Int32)), (.ref b5)])) _
    refine XS.i2b X5.here hx rfl (hb hby at_21) rfl ?_
    show Steps p.tables e below (T5.setTop (mkF m 22 #[.val (.int p1), .val (.int p2), .val (.int p3), .val (.int p4), .val (.int (p1 &&& (7 : Int32))), .val (.ref b5), .unset] [(.int (p2.toInt8.toInt32)), (.int (0 : Int32)), (.ref b5)])) _
    refine st6 _ ?_
    show Steps p.tables e below (T6.setTop (mkF m 23 #[.val (.int p1), .val (.int p2), .val (.int p3), .val (.int p4), .val (.int (p1 &&& (7 : Int32))), .val (.ref b5), .unset] [])) _
    refine XS.iload X6.here hx rfl (hb hby at_23) rfl ?_
    show Steps p.tables e below (T6.setTop (mkF m 25 #[.val (.int p1), .val (.int p2), .val (.int p3), .val (.int p4), .val (.int (p1 &&& (7 : Int32))), .val (.ref b5), .unset] [(.int (p1 &&& (7 : Int32)))])) _
    refine XS.iconst X6.here hx rfl (hb hby at_25) ?_
    show Steps p.tables e below (T6.setTop (mkF m 26 #[.val (.int p1), .val (.int p2), .val (.int p3), .val (.int p4), .val (.int (p1 &&& (7 : Int32))), .val (.ref b5), .unset] [(.int (1 : Int32)), (.int (p1 &&& (7 : Int32)))])) _
    refine XS.icmpNo X6.here hx rfl (hb hby at_26) rfl (tlt hc26).2.2.2 ?_
    show Steps p.tables e below (T6.setTop (mkF m 29 #[.val (.int p1), .val (.int p2), .val (.int p3), .val (.int p4), .val (.int (p1 &&& (7 : Int32))), .val (.ref b5), .unset] [])) _
    refine XS.aload X6.here hx rfl (hb hby at_29) rfl rfl ?_
    show Steps p.tables e below (T6.setTop (mkF m 31 #[.val (.int p1), .val (.int p2), .val (.int p3), .val (.int p4), .val (.int (p1 &&& (7 : Int32))), .val (.ref b5), .unset] [(.ref b5)])) _
    refine XS.iconst X6.here hx rfl (hb hby at_31) ?_
    show Steps p.tables e below (T6.setTop (mkF m 32 #[.val (.int p1), .val (.int p2), .val (.int p3), .val (.int p4), .val (.int (p1 &&& (7 : Int32))), .val (.ref b5), .unset] [(.int (1 : Int32)), (.ref b5)])) _
    refine XS.iloadN X6.here hx rfl (hb hby at_32) rfl ?_
    show Steps p.tables e below (T6.setTop (mkF m 33 #[.val (.int p1), .val (.int p2), .val (.int p3), .val (.int p4), .val (.int (p1 &&& (7 : Int32))), .val (.ref b5), .unset] [(.int p3), (.int (1 : Int32)), (.ref b5)])) _
    refine XS.i2b X6.here hx rfl (hb hby at_33) rfl ?_
    show Steps p.tables e below (T6.setTop (mkF m 34 #[.val (.int p1), .val (.int p2), .val (.int p3), .val (.int p4), .val (.int (p1 &&& (7 : Int32))), .val (.ref b5), .unset] [(.int (p3.toInt8.toInt32)), (.int (1 : Int32)), (.ref b5)])) _
    refine st7 _ ?_
    show Steps p.tables e below (T7.setTop (mkF m 35 #[.val (.int p1), .val (.int p2), .val (.int p3), .val (.int p4), .val (.int (p1 &&& (7 : Int32))), .val (.ref b5), .unset] [])) _
    refine XS.iload X7.here hx rfl (hb hby at_35) rfl ?_
    show Steps p.tables e below (T7.setTop (mkF m 37 #[.val (.int p1), .val (.int p2), .val (.int p3), .val (.int p4), .val (.int (p1 &&& (7 : Int32))), .val (.ref b5), .unset] [(.int (p1 &&& (7 : Int32)))])) _
    refine XS.iconst X7.here hx rfl (hb hby at_37) ?_
    show Steps p.tables e below (T7.setTop (mkF m 38 #[.val (.int p1), .val (.int p2), .val (.int p3), .val (.int p4), .val (.int (p1 &&& (7 : Int32))), .val (.ref b5), .unset] [(.int (2 : Int32)), (.int (p1 &&& (7 : Int32)))])) _
    refine XS.icmpNo X7.here hx rfl (hb hby at_38) rfl (tlt hc38).2.2.2 ?_
    show Steps p.tables e below (T7.setTop (mkF m 41 #[.val (.int p1), .val (.int p2), .val (.int p3), .val (.int p4), .val (.int (p1 &&& (7 : Int32))), .val (.ref b5), .unset] [])) _
    refine XS.aload X7.here hx rfl (hb hby at_41) rfl rfl ?_
    show Steps p.tables e below (T7.setTop (mkF m 43 #[.val (.int p1), .val (.int p2), .val (.int p3), .val (.int p4), .val (.int (p1 &&& (7 : Int32))), .val (.ref b5), .unset] [(.ref b5)])) _
    refine XS.iconst X7.here hx rfl (hb hby at_43) ?_
    show Steps p.tables e below (T7.setTop (mkF m 44 #[.val (.int p1), .val (.int p2), .val (.int p3), .val (.int p4), .val (.int (p1 &&& (7 : Int32))), .val (.ref b5), .unset] [(.int (2 : Int32)), (.ref b5)])) _
    refine XS.iloadN X7.here hx rfl (hb hby at_44) rfl ?_
    show Steps p.tables e below (T7.setTop (mkF m 45 #[.val (.int p1), .val (.int p2), .val (.int p3), .val (.int p4), .val (.int (p1 &&& (7 : Int32))), .val (.ref b5), .unset] [(.int p4), (.int (2 : Int32)), (.ref b5)])) _
    refine XS.i2b X7.here hx rfl (hb hby at_45) rfl ?_
    show Steps p.tables e below (T7.setTop (mkF m 46 #[.val (.int p1), .val (.int p2), .val (.int p3), .val (.int p4), .val (.int (p1 &&& (7 : Int32))), .val (.ref b5), .unset] [(.int (p4.toInt8.toInt32)), (.int (2 : Int32)), (.ref b5)])) _
    refine st8 _ ?_
    show Steps p.tables e below (T8.setTop (mkF m 47 #[.val (.int p1), .val (.int p2), .val (.int p3), .val (.int p4), .val (.int (p1 &&& (7 : Int32))), .val (.ref b5), .unset] [])) _
    refine XS.iconst X8.here hx rfl (hb hby at_47) ?_
    show Steps p.tables e below (T8.setTop (mkF m 48 #[.val (.int p1), .val (.int p2), .val (.int p3), .val (.int p4), .val (.int (p1 &&& (7 : Int32))), .val (.ref b5), .unset] [(.int (0 : Int32))])) _
    refine XS.istore X8.here hx rfl (hb hby at_48) rfl (l' := #[.val (.int p1), .val (.int p2), .val (.int p3), .val (.int p4), .val (.int (p1 &&& (7 : Int32))), .val (.ref b5), .val (.int (0 : Int32))]) rfl ?_
    show Steps p.tables e below (T8.setTop (mkF m 50 #[.val (.int p1), .val (.int p2), .val (.int p3), .val (.int p4), .val (.int (p1 &&& (7 : Int32))), .val (.ref b5), .val (.int (0 : Int32))] [])) _
    refine XS.iload X8.here hx rfl (hb hby at_50) rfl ?_
    show Steps p.tables e below (T8.setTop (mkF m 52 #[.val (.int p1), .val (.int p2), .val (.int p3), .val (.int p4), .val (.int (p1 &&& (7 : Int32))), .val (.ref b5), .val (.int (0 : Int32))] [(.int (p1 &&& (7 : Int32)))])) _
    refine XS.iconst X8.here hx rfl (hb hby at_52) ?_
    show Steps p.tables e below (T8.setTop (mkF m 53 #[.val (.int p1), .val (.int p2), .val (.int p3), .val (.int p4), .val (.int (p1 &&& (7 : Int32))), .val (.ref b5), .val (.int (0 : Int32))] [(.int (2 : Int32)), (.int (p1 &&& (7 : Int32)))])) _
    refine XS.icmpNo X8.here hx rfl (hb hby at_53) rfl (flt hc53).1 ?_
    show Steps p.tables e below (T8.setTop (mkF m 56 #[.val (.int p1), .val (.int p2), .val (.int p3), .val (.int p4), .val (.int (p1 &&& (7 : Int32))), .val (.ref b5), .val (.int (0 : Int32))] [])) _
    refine XS.iloadN X8.here hx rfl (hb hby at_56) rfl ?_
    show Steps p.tables e below (T8.setTop (mkF m 57 #[.val (.int p1), .val (.int p2), .val (.int p3), .val (.int p4), .val (.int (p1 &&& (7 : Int32))), .val (.ref b5), .val (.int (0 : Int32))] [(.int p2)])) _
    refine XS.sipush X8.here hx rfl (hb hby at_57) ?_
    show Steps p.tables e below (T8.setTop (mkF m 60 #[.val (.int p1), .val (.int p2), .val (.int p3), .val (.int p4), .val (.int (p1 &&& (7 : Int32))), .val (.ref b5), .val (.int (0 : Int32))] [(.int (255 : Int32)), (.int p2)])) _
    refine XS.iand X8.here hx rfl (hb hby at_60) rfl ?_
    show Steps p.tables e below (T8.setTop (mkF m 61 #[.val (.int p1), .val (.int p2), .val (.int p3), .val (.int p4), .val (.int (p1 &&& (7 : Int32))), .val (.ref b5), .val (.int (0 : Int32))] [(.int (p2 &&& (255 : Int32)))])) _
    refine XS.iconst X8.here hx rfl (hb hby at_61) ?_
    show Steps p.tables e below (T8.setTop (mkF m 62 #[.val (.int p1), .val (.int p2), .val (.int p3), .val (.int p4), .val (.int (p1 &&& (7 : Int32))), .val (.ref b5), .val (.int (0 : Int32))] [(.int (3 : Int32)), (.int (p2 &&& (255 : Int32)))])) _
    refine XS.icmpNo X8.here hx rfl (hb hby at_62) rfl (teq hc62).2 ?_
    show Steps p.tables e below (T8.setTop (mkF m 65 #[.val (.int p1), .val (.int p2), .val (.int p3), .val (.int p4), .val (.int (p1 &&& (7 : Int32))), .val (.ref b5), .val (.int (0 : Int32))] [])) _
    refine XS.iloadN X8.here hx rfl (hb hby at_65) rfl ?_
    show Steps p.tables e below (T8.setTop (mkF m 66 #[.val (.int p1), .val (.int p2), .val (.int p3), .val (.int p4), .val (.int (p1 &&& (7 : Int32))), .val (.ref b5), .val (.int (0 : Int32))] [(.int p3)])) _
    refine XS.sipush X8.here hx rfl (hb hby at_66) ?_
    show Steps p.tables e below (T8.setTop (mkF m 69 #[.val (.int p1), .val (.int p2), .val (.int p3), .val (.int p4), .val (.int (p1 &&& (7 : Int32))), .val (.ref b5), .val (.int (0 : Int32))] [(.int (255 : Int32)), (.int p3)])) _
    refine XS.iand X8.here hx rfl (hb hby at_69) rfl ?_
    show Steps p.tables e below (T8.setTop (mkF m 70 #[.val (.int p1), .val (.int p2), .val (.int p3), .val (.int p4), .val (.int (p1 &&& (7 : Int32))), .val (.ref b5), .val (.int (0 : Int32))] [(.int (p3 &&& (255 : Int32)))])) _
    refine XS.ifNo X8.here hx rfl (hb hby at_70) rfl ((if0 _ _).trans (teq hc70).2) ?_
    show Steps p.tables e below (T8.setTop (mkF m 73 #[.val (.int p1), .val (.int p2), .val (.int p3), .val (.int p4), .val (.int (p1 &&& (7 : Int32))), .val (.ref b5), .val (.int (0 : Int32))] [])) _
    refine XS.iconst X8.here hx rfl (hb hby at_73) ?_
    show Steps p.tables e below (T8.setTop (mkF m 74 #[.val (.int p1), .val (.int p2), .val (.int p3), .val (.int p4), .val (.int (p1 &&& (7 : Int32))), .val (.ref b5), .val (.int (0 : Int32))] [(.int (1 : Int32))])) _
    refine XS.istore X8.here hx rfl (hb hby at_74) rfl (l' := #[.val (.int p1), .val (.int p2), .val (.int p3), .val (.int p4), .val (.int (p1 &&& (7 : Int32))), .val (.ref b5), .val (.int (1 : Int32))]) rfl ?_
    show Steps p.tables e below (T8.setTop (mkF m 76 #[.val (.int p1), .val (.int p2), .val (.int p3), .val (.int p4), .val (.int (p1 &&& (7 : Int32))), .val (.ref b5), .val (.int (1 : Int32))] [])) _
    refine XS.aload X8.here hx rfl (hb hby at_76) rfl rfl ?_
    show Steps p.tables e below (T8.setTop (mkF m 78 #[.val (.int p1), .val (.int p2), .val (.int p3), .val (.int p4), .val (.int (p1 &&& (7 : Int32))), .val (.ref b5), .val (.int (1 : Int32))] [(.ref b5)])) _
    refine st9 _ ?_
    show Steps p.tables e below (T9.setTop (mkF m 81 #[.val (.int p1), .val (.int p2), .val (.int p3), .val (.int p4), .val (.int (p1 &&& (7 : Int32))), .val (.ref b5), .val (.int (1 : Int32))] [(.int r9)])) _
    refine XS.iload X9.here hx rfl (hb hby at_81) rfl ?_
    show Steps p.tables e below (T9.setTop (mkF m 83 #[.val (.int p1), .val (.int p2), .val (.int p3), .val (.int p4), .val (.int (p1 &&& (7 : Int32))), .val (.ref b5), .val (.int (1 : Int32))] [(.int (1 : Int32)), (.int r9)])) _
    refine XS.icmpNo X9.here hx rfl (hb hby at_83) rfl (teq hc83).2 ?_
    show Steps p.tables e below (T9.setTop (mkF m 86 #[.val (.int p1), .val (.int p2), .val (.int p3), .val (.int p4), .val (.int (p1 &&& (7 : Int32))), .val (.ref b5), .val (.int (1 : Int32))] [])) _
    refine XS.iconst X9.here hx rfl (hb hby at_86) ?_
    show Steps p.tables e below (T9.setTop (mkF m 87 #[.val (.int p1), .val (.int p2), .val (.int p3), .val (.int p4), .val (.int (p1 &&& (7 : Int32))), .val (.ref b5), .val (.int (1 : Int32))] [(.int (1 : Int32))])) _
    refine XS.goto X9.here hx rfl (pc0 := 87) (pc' := 91) rfl (hb hby at_87) (by decide) (by decide) ?_
    show Steps p.tables e below (T9.setTop (mkF m 91 #[.val (.int p1), .val (.int p2), .val (.int p3), .val (.int p4), .val (.int (p1 &&& (7 : Int32))), .val (.ref b5), .val (.int (1 : Int32))] [(.int (1 : Int32))])) _
    exact retN X9 hx (t := .boolean) Bd.returns (by simp) (hb hby at_91) hr
  · show Q0 n0 _ T9.heap _
    rw [e9]
    exact ⟨rfl, N9⟩
theorem own_b {x k : Int32} (h0 : 0 ≤ k.toInt) (h1 : k.toInt < 128) : (nar .byte (x.toInt8.toInt32) = k) ↔ (x &&& (255 : Int32)) = k := by
  have a := c_i2b x
  have b := c_i2b (x.toInt8.toInt32)
  have m := c_mask x 255 8 (by decide) (by decide)
  show (x.toInt8.toInt32).toInt8.toInt32 = k ↔ _
  rw [← Int32.toInt_inj, ← Int32.toInt_inj]
  omega
theorem own_seven (x : Int32) : ¬ (x &&& (7 : Int32)) < 0 ∧ (x &&& (7 : Int32)).toNatClampNeg ≤ 7 := by
  have m := c_mask x 7 3 (by decide) (by decide)
  rw [Int32.lt_iff_toInt_lt]
  have h0 : (0 : Int32).toInt = 0 := by decide
  constructor
  · omega
  · show (x &&& (7 : Int32)).toInt.toNat ≤ 7
    omega
theorem own_lt {n : Int32} : ((1 : Int32) < n ↔ ¬ n < 2) ∧ ((2 : Int32) < n → (1 : Int32) < n) ∧ ((1 : Int32) < n → (0 : Int32) < n) := by
  simp only [Int32.lt_iff_toInt_lt]
  have h2 : (2 : Int32).toInt = 2 := by decide
  have h0 : (0 : Int32).toInt = 0 := by decide
  have h1 : (1 : Int32).toInt = 1 := by decide
  omega
theorem rm0 (l : Launch) (Z : State) (a0 : Array Value) (hw : ∀ d ∈ tables_1, d.before a0 Z = true) (ws : List Jvm.Cond) (p1 : Int32) (p2 : Int32) (p3 : Int32) (p4 : Int32) (w_MAGIC : Addr) (kM : ClassId) (h0 : Heap) (n0 : Nat) (Z0 : n0 ≤ h0.size) (S_MAGIC : Sta Z h0 "com/example/inward_firewall/inwardfirewall/BinaryXml" "MAGIC" "[B" (.ref w_MAGIC)) (V_w_MAGIC : Arv Z h0 w_MAGIC kM .byte (2 : Int32) [.int (3 : Int32), .int (0 : Int32)] (.int (0 : Int32))) :
    MetFree l x (head1 (Jvm.Cond.code x code maxLocals ret :: ws) room_1) (fun a U => a = #[(.int p1), (.int p2), (.int p3), (.int p4)] ∧ Z.Warmed39 U.vm ∧ U.heap = h0) (fun _ _ _ _ _ => True) (fun _ U o U' => ∃ v L, o = .returned v ∧ Q0 n0 v U'.heap L ∧ FrameEnd U o U' L room_1.cells room_1.slots) := by
  by_cases c2 : (1 : Int32) < (p1 &&& (7 : Int32))
  · have c1 : (0 : Int32) < (p1 &&& (7 : Int32)) := own_lt.2.2 c2
    by_cases c3 : (2 : Int32) < (p1 &&& (7 : Int32))
    · by_cases e1 : (p2 &&& (255 : Int32)) = (3 : Int32)
      · by_cases e2 : (p3 &&& (255 : Int32)) = (0 : Int32)
        · exact rm0_fffffff l Z a0 hw ws p1 p2 p3 p4 w_MAGIC kM (1 : Int32) h0 n0 Z0 S_MAGIC V_w_MAGIC (Or.inr (Or.inr (Or.inr ⟨(own_lt.1.mp c2), (own_b (by decide) (by decide)).mpr e1, (own_b (by decide) (by decide)).mpr e2, rfl⟩))) (own_seven p1).1 (own_seven p1).2 c1 c1 c2 c2 c3 c3 (own_lt.1.mp c2) e1 e2 rfl
        · exact rm0_ffffftf l Z a0 hw ws p1 p2 p3 p4 w_MAGIC kM (0 : Int32) h0 n0 Z0 S_MAGIC V_w_MAGIC (Or.inr (Or.inr (Or.inl ⟨(own_lt.1.mp c2), (own_b (by decide) (by decide)).mpr e1, fun z => e2 ((own_b (by decide) (by decide)).mp z), rfl⟩))) (own_seven p1).1 (own_seven p1).2 c1 c1 c2 c2 c3 c3 (own_lt.1.mp c2) e1 e2 rfl
      · exact rm0_fffftf l Z a0 hw ws p1 p2 p3 p4 w_MAGIC kM (0 : Int32) h0 n0 Z0 S_MAGIC V_w_MAGIC (Or.inr (Or.inl ⟨(own_lt.1.mp c2), fun z => e1 ((own_b (by decide) (by decide)).mp z), rfl⟩)) (own_seven p1).1 (own_seven p1).2 c1 c1 c2 c2 c3 c3 (own_lt.1.mp c2) e1 rfl
    · by_cases e1 : (p2 &&& (255 : Int32)) = (3 : Int32)
      · by_cases e2 : (p3 &&& (255 : Int32)) = (0 : Int32)
        · exact rm0_fftffff l Z a0 hw ws p1 p2 p3 p4 w_MAGIC kM (1 : Int32) h0 n0 Z0 S_MAGIC V_w_MAGIC (Or.inr (Or.inr (Or.inr ⟨(own_lt.1.mp c2), (own_b (by decide) (by decide)).mpr e1, (own_b (by decide) (by decide)).mpr e2, rfl⟩))) (own_seven p1).1 (own_seven p1).2 c1 c1 c2 c2 c3 (own_lt.1.mp c2) e1 e2 rfl
        · exact rm0_fftfftf l Z a0 hw ws p1 p2 p3 p4 w_MAGIC kM (0 : Int32) h0 n0 Z0 S_MAGIC V_w_MAGIC (Or.inr (Or.inr (Or.inl ⟨(own_lt.1.mp c2), (own_b (by decide) (by decide)).mpr e1, fun z => e2 ((own_b (by decide) (by decide)).mp z), rfl⟩))) (own_seven p1).1 (own_seven p1).2 c1 c1 c2 c2 c3 (own_lt.1.mp c2) e1 e2 rfl
      · exact rm0_fftftf l Z a0 hw ws p1 p2 p3 p4 w_MAGIC kM (0 : Int32) h0 n0 Z0 S_MAGIC V_w_MAGIC (Or.inr (Or.inl ⟨(own_lt.1.mp c2), fun z => e1 ((own_b (by decide) (by decide)).mp z), rfl⟩)) (own_seven p1).1 (own_seven p1).2 c1 c1 c2 c2 c3 (own_lt.1.mp c2) e1 rfl
  · have l2 : (p1 &&& (7 : Int32)) < (2 : Int32) := Decidable.byContradiction fun z => c2 (own_lt.1.mpr z)
    have c3 : ¬ (2 : Int32) < (p1 &&& (7 : Int32)) := fun z => c2 (own_lt.2.1 z)
    by_cases c1 : (0 : Int32) < (p1 &&& (7 : Int32))
    · exact rm0_ftttf l Z a0 hw ws p1 p2 p3 p4 w_MAGIC kM (0 : Int32) h0 n0 Z0 S_MAGIC V_w_MAGIC (Or.inl ⟨l2, rfl⟩) (own_seven p1).1 (own_seven p1).2 c1 c1 c2 c3 l2 rfl
    · exact rm0_ttttf l Z a0 hw ws p1 p2 p3 p4 w_MAGIC kM (0 : Int32) h0 n0 Z0 S_MAGIC V_w_MAGIC (Or.inl ⟨l2, rfl⟩) (own_seven p1).1 (own_seven p1).2 c1 c2 c3 l2 rfl
theorem own_elem {args : Array Value} {s : State} {t : Term} {a : Addr} {cl : Cell} {j k : Int32} {i : Nat} (ht : t.eval args s none [] s = some (.ref a)) (ha : s.arrayAt? a = some cl) (hj : ¬ j < 0) (hi : j.toNatClampNeg = i) (h : (Jvm.Cond.eq (.elem t (.int j)) (.int k)).value args s none s [] = some true) : cl.slots[i]? = some (.int k) := by
  subst hi
  have e : (Term.elem t (.int j)).eval args s none [] s = cl.slots[j.toNatClampNeg]? := elem_f ht (Term.int_eval j) ha hj
  cases hv : cl.slots[j.toNatClampNeg]? with
  | none => simp [Jvm.Cond.value, e, hv] at h
  | some w =>
    have h' := h
    simp only [Jvm.Cond.value, e, hv, Term.int_eval] at h'
    cases w <;> simp at h' <;> simp [h']
theorem own_len {args : Array Value} {s : State} {t : Term} {a : Addr} {cl : Cell} {k : Int32} (ht : t.eval args s none [] s = some (.ref a)) (ha : s.arrayAt? a = some cl) (h : (Jvm.Cond.eq (.length t) (.int k)).value args s none s [] = some true) : cl.slots.size < 2 ^ 31 ∧ cl.slots.size.toInt32 = k := by
  by_cases q : cl.slots.size < 2 ^ 31
  · have e : (Term.length t).eval args s none [] s = some (.int cl.slots.size.toInt32) := len_f ht ha q
    exact ⟨q, by simpa [Jvm.Cond.value, e, Term.int_eval] using h⟩
  · have e : (Term.length t).eval args s none [] s = none := by simp [Term.eval, ht, ha, q]
    simp [Jvm.Cond.value, e] at h
set_option maxRecDepth 65536 in
set_option maxHeartbeats 40000000 in
theorem comes_1 {Post : Tables → Env → Array Value → State → Outcome → State → Prop} (hpost : ∀ tb e args s v u, (limb_1_1.after args s (.returned v) u = true ∧ limb_1_2.after args s (.returned v) u = true ∧ True) → FrameEnd s (.returned v) u (Jvm.fieldLocs frame_1_writes args s ++ Jvm.arrayLocs frame_1_arrays args s ++ Jvm.staticLocs frame_1_statics s) 16 128 → Post tb e args s (.returned v) u) :
    ArmFor flags0 classFile x code maxLocals ret World_1 tables_1 room_1 Calls_1 rest_1 Pre_1 Post := by
  intro l hfl _ _ p e ha hc hk s m args below hf hA hF happ hP
  obtain ⟨hcalls, hrest, hpre⟩ := hP
  obtain ⟨-, -, -, hnamed, -, -, -, hat⟩ := (Spec.applies_iff hf).mp happ
  obtain ⟨hg, hn⟩ := and_e (Cond.before_iff.mp (show (Jvm.Cond.and given_1 narrow_1).before args s = true from hpre))
  obtain ⟨g10, g11⟩ := and_e hg
  obtain ⟨g12, g13⟩ := and_e g11
  obtain ⟨g14, g15⟩ := and_e g13
  obtain ⟨g16, g17⟩ := and_e g15
  obtain ⟨w0, w1, w2, w3, rfl⟩ : ∃ w0 w1 w2 w3 : Value, args = #[w0, w1, w2, w3] := by
    have hs : args.size = 4 := by simpa [Cond.value, given_1] using g10
    obtain ⟨L⟩ := args
    match L, hs with
    | [w0, w1, w2, w3], _ => exact ⟨w0, w1, w2, w3, rfl⟩
  have hw := fun d (hd : d ∈ tables_1) => atoms_spec (ws := Jvm.Cond.code x code maxLocals ret :: tables_1) hat d (List.mem_cons_of_mem _ hd)
  have hfit : Fit s := fun {y c} hc i hi => by
    obtain ⟨ha, rfl⟩ := Array.getElem?_eq_some_iff.mp hc
    have q := List.all_eq_true.mp ((Array.all_eq_true_iff_forall_mem.mp hF) _ (Array.getElem_mem ha)) i (List.mem_range.mpr hi)
    simpa [Array.getElem?_eq_getElem hi] using q
  obtain ⟨i0, ei0⟩ := is_v g12
  obtain rfl : w0 = (.int i0) := Option.some.inj ei0
  obtain ⟨i1, ei1⟩ := is_v g14
  obtain rfl : w1 = (.int i1) := Option.some.inj ei1
  obtain ⟨i2, ei2⟩ := is_v g16
  obtain rfl : w2 = (.int i2) := Option.some.inj ei2
  obtain ⟨i3, ei3⟩ := is_v g17
  obtain rfl : w3 = (.int i3) := Option.some.inj ei3
  obtain ⟨nw0, hn⟩ := and_e hn
  obtain ⟨nw1, hn⟩ := and_e hn
  obtain ⟨nw2, nw3⟩ := and_e hn
  obtain ⟨w_MAGIC, v_MAGIC⟩ := arr_v nw0
  have S_MAGIC := Sta.start v_MAGIC (Or.inr ⟨(hw _ (List.mem_of_getElem? (i := 3) rfl)), (hw _ (List.mem_of_getElem? (i := 6) rfl))⟩)
  obtain ⟨cM, aM⟩ := Arr.start v_MAGIC nw0
  have at_M : s.arrayAt? w_MAGIC = some cM := aM.fin (Vm.Alike.refl _)
  have lM : cM.slots.size < 2 ^ 31 ∧ cM.slots.size.toInt32 = (2 : Int32) := own_len v_MAGIC at_M nw1
  have eM0 : cM.slots[0]? = some (.int (3 : Int32)) := own_elem v_MAGIC at_M (j := 0) (by decide) (i := 0) rfl nw2
  have eM1 : cM.slots[1]? = some (.int (0 : Int32)) := own_elem v_MAGIC at_M (j := 1) (by decide) (i := 1) rfl nw3
  have V_M : Arv s s.heap w_MAGIC cM.cls .byte (2 : Int32) [.int (3 : Int32), .int (0 : Int32)] (.int (0 : Int32)) := Arv.start hfit aM lM.1 lM.2 (by decide) (by decide) ⟨eM0, eM1, trivial⟩
  obtain ⟨n, o, h1, h2, h3, _, L, rfl, ⟨rfl, N⟩, hq⟩ := rm0 l s _ hw tables_1 i0 i1 i2 i3 w_MAGIC cM.cls s.heap s.heap.size (Nat.le_refl _) S_MAGIC V_M p e ha hc hk s m _ below hf ((Spec.applies_iff_loose hf).mp happ).1 ⟨rfl, State.Warmed39.refl s, rfl⟩ trivial
  refine ⟨n, _, h1, h2, h3, hpost _ _ _ _ _ _ ⟨Cond.after_iff.mpr rfl, Cond.after_iff.mpr (eq_i res_at (Term.int_eval (1)) rfl), trivial⟩ ⟨hq.1, hq.2.1, (hq.2.2.sift fun y hy => Or.inr (N y hy)).mono (by decide) (by decide)⟩⟩
theorem main_1_1 : Claimed_1_1 := comes_1 fun _ _ _ _ _ _ h hF => ⟨h.1, hF⟩
theorem main_1_2 : Claimed_1_2 := comes_1 fun _ _ _ _ _ _ h hF => ⟨h.2.1, hF⟩
end Jvm.Pilot.@@N@@
namespace Jvm.Pilot.@@N@@
open Jvm Jvm.ClassFile Sem Op Lib Jvm.Free Jvm.Stand Jvm.Pilot.@@N@@.Jvm.D
/-! MADE BY PROGRAM (witnessworld.py) out of the Statement's table words and the real class files: 9 classes; the members and pool entries that the words name. The judged class is class 1, her method 1. -/
namespace start1
open Jvm.ClassFile
def u (s : String) : CpInfo := .utf8 (stringToUtf16 s)
/-- a pool by its gaps: so many unusable entries, then the entry; so many at the end -/
def gap : Nat → List CpInfo → List CpInfo
  | 0, r => r
  | n + 1, r => .unusable :: gap n r
def poolList (es : List (Nat × CpInfo)) (last : Nat) : List CpInfo := es.foldr (fun e r => gap e.1 (e.2 :: r)) (gap last [])
def pool (es : List (Nat × CpInfo)) (last : Nat) : Array CpInfo := ⟨poolList es last⟩
def fileOf (pool : Array CpInfo) (this : Nat) (attrs : Array Attribute := #[]) (ms : Array MethodInfo := #[]) (fl : Nat := 33) (sup : Nat := 0) (ifs : Array Nat := #[]) (fds : Array FieldInfo := #[]) : ClassFile where
  minorVersion := 0
  majorVersion := 65
  constantPool := pool
  accessFlags := fl
  thisClass := this
  superClass := sup
  interfaces := ifs
  fields := fds
  methods := ms
  attributes := attrs
def plain (name : String) (sup : Option ClassId) : Class where
  name := name
  kind := .ordinary
  loader := none
  accessFlags := 33
  super := sup
  interfaces := #[]
  cf := none
  fields := #[]
  methods := #[]
  instanceTypes := #[]
  staticTypes := #[]
  resolved := #[]
  callSites := []
  init := .initialized
  statics := none
  mirror := none

def pool0 : Array CpInfo := pool [(5, u "<init>"), (0, u "()V"), (1, .class_ 10), (1, u "java/lang/Object")] 113

def k0m0 : Method := { name := "<init>", desc := "()V", sig := { parameters := [], returnType := none }, accessFlags := 1, code := none }
/-- java/lang/Object -/
def k0 : Class := { plain "java/lang/Object" none with
  accessFlags := 33
  interfaces := #[]
  cf := some (fileOf pool0 8 #[] #[{ accessFlags := 1, nameIndex := 5, descriptorIndex := 6, attributes := #[] }] 33 0 #[] #[])
  fields := #[]
  methods := #[k0m0]
  instanceTypes := #[]
  staticTypes := #[]
  resolved := Array.replicate 124 none
  statics := none }

def pool1 : Array CpInfo := pool [(2, .class_ 4), (1, u "java/lang/Object"), (0, u "<init>"), (0, u "()V"), (0, .methodref 8 9), (0, .class_ 10), (0, .nameAndType 11 12), (0, u "com/example/inward_firewall/inwardfirewall/BinaryXml"), (0, u "isBinaryXml"), (0, u "([B)Z"), (0, .class_ 14), (0, u "com/example/inward_firewall/inwardfirewall/BinaryXmlIsBinaryXmlPinLaw"), (2, u "law"), (0, u "(IIII)Z")] 5

def k1m0 : Method := { name := "<init>", desc := "()V", sig := { parameters := [], returnType := none }, accessFlags := 1, code := none }
def k1c1 : Code := { maxStack := 3, maxLocals := 7, code := code, exceptionTable := #[], attributes := #[] }
def k1m1 : Method := { name := "law", desc := "(IIII)Z", sig := { parameters := [.int, .int, .int, .int], returnType := some .boolean }, accessFlags := 9, code := some k1c1 }
/-- com/example/inward_firewall/inwardfirewall/BinaryXmlIsBinaryXmlPinLaw -/
def k1 : Class := { plain "com/example/inward_firewall/inwardfirewall/BinaryXmlIsBinaryXmlPinLaw" (some 0) with
  accessFlags := 49
  interfaces := #[]
  cf := some (fileOf pool1 13 #[] #[{ accessFlags := 1, nameIndex := 5, descriptorIndex := 6, attributes := #[] }, { accessFlags := 9, nameIndex := 17, descriptorIndex := 18, attributes := #[] }] 49 2 #[] #[])
  fields := #[]
  methods := #[k1m0, k1m1]
  instanceTypes := #[]
  staticTypes := #[]
  resolved := Array.replicate 24 none
  statics := none }

def pool2 : Array CpInfo := pool [(2, .class_ 4), (1, u "java/lang/Object"), (6, .class_ 13), (1, u "com/example/inward_firewall/inwardfirewall/BinaryXml"), (0, u "openElements"), (0, u "Ljava/util/Deque;"), (2, u "bindings"), (5, u "innermostBindings"), (0, u "Ljava/util/Map;"), (5, u "pendingBindings"), (0, u "Ljava/util/List;"), (2, u "source"), (0, u "Ljava/lang/String;"), (18, u "bytes"), (0, u "Ljava/nio/ByteBuffer;"), (6, u "document"), (0, u "Lorg/w3c/dom/Document;"), (0, .fieldref 11 66), (0, .nameAndType 67 68), (0, u "MAGIC"), (0, u "[B"), (12, .class_ 83), (1, u "com/example/inward_firewall/inwardfirewall/BinaryXml$Chunk"), (1, u "I"), (8, u "treeStarted"), (0, u "Z"), (45, .class_ 142), (0, u "com/example/inward_firewall/inwardfirewall/BinaryXml$Binding"), (42, u "strings"), (0, u "[Ljava/lang/String;"), (44, u "resourceMap"), (0, u "Lcom/example/inward_firewall/inwardfirewall/BinaryXml$Chunk;"), (299, u "MAX_ATTRIBUTES"), (2, u "STRING_POOL"), (1, u "RESOURCE_MAP"), (1, u "FIRST_NODE"), (1, u "LAST_NODE"), (1, u "START_NAMESPACE"), (0, u "END_NAMESPACE"), (1, u "START_ELEMENT"), (1, u "END_ELEMENT"), (1, u "TEXT"), (1, u "TYPE_STRING"), (1, u "TYPE_INT_DEC"), (1, u "TYPE_INT_HEX"), (1, u "TYPE_BOOLEAN"), (1, u "CHUNK_HEADER_SIZE"), (1, u "NODE_HEADER_SIZE"), (0, u "STRING_POOL_HEADER_SIZE"), (1, u "NAMESPACE_SIZE"), (0, u "ELEMENT_SIZE"), (1, u "END_ELEMENT_SIZE"), (0, u "TEXT_SIZE"), (1, u "ATTRIBUTE_SIZE"), (0, u "RESOURCE_ID_SIZE"), (1, u "UTF8_FLAG"), (0, u "NO_STRING"), (1, u "NO_RESOURCE_ID"), (8, u "isBinaryXml"), (0, u "([B)Z")] 94

def k2c0 : Code := { maxStack := 3, maxLocals := 1, code := prog_10_method_2_code, exceptionTable := #[], attributes := #[] }
def k2m0 : Method := { name := "isBinaryXml", desc := "([B)Z", sig := { parameters := [(.array .byte)], returnType := some .boolean }, accessFlags := 8, code := some k2c0 }
/-- com/example/inward_firewall/inwardfirewall/BinaryXml -/
def k2 : Class := { plain "com/example/inward_firewall/inwardfirewall/BinaryXml" (some 0) with
  accessFlags := 48
  interfaces := #[]
  cf := some (fileOf pool2 11 #[.nestMembers #[141, 81]] #[{ accessFlags := 8, nameIndex := 586, descriptorIndex := 587, attributes := #[] }] 48 2 #[] #[{ accessFlags := 24, nameIndex := 532, descriptorIndex := 85, attributes := #[] }, { accessFlags := 26, nameIndex := 67, descriptorIndex := 68, attributes := #[] }, { accessFlags := 26, nameIndex := 535, descriptorIndex := 85, attributes := #[] }, { accessFlags := 26, nameIndex := 537, descriptorIndex := 85, attributes := #[] }, { accessFlags := 26, nameIndex := 539, descriptorIndex := 85, attributes := #[] }, { accessFlags := 26, nameIndex := 541, descriptorIndex := 85, attributes := #[] }, { accessFlags := 26, nameIndex := 543, descriptorIndex := 85, attributes := #[] }, { accessFlags := 26, nameIndex := 544, descriptorIndex := 85, attributes := #[] }, { accessFlags := 26, nameIndex := 546, descriptorIndex := 85, attributes := #[] }, { accessFlags := 26, nameIndex := 548, descriptorIndex := 85, attributes := #[] }, { accessFlags := 26, nameIndex := 550, descriptorIndex := 85, attributes := #[] }, { accessFlags := 26, nameIndex := 552, descriptorIndex := 85, attributes := #[] }, { accessFlags := 26, nameIndex := 554, descriptorIndex := 85, attributes := #[] }, { accessFlags := 26, nameIndex := 556, descriptorIndex := 85, attributes := #[] }, { accessFlags := 26, nameIndex := 558, descriptorIndex := 85, attributes := #[] }, { accessFlags := 26, nameIndex := 560, descriptorIndex := 85, attributes := #[] }, { accessFlags := 26, nameIndex := 562, descriptorIndex := 85, attributes := #[] }, { accessFlags := 26, nameIndex := 563, descriptorIndex := 85, attributes := #[] }, { accessFlags := 26, nameIndex := 565, descriptorIndex := 85, attributes := #[] }, { accessFlags := 26, nameIndex := 566, descriptorIndex := 85, attributes := #[] }, { accessFlags := 26, nameIndex := 568, descriptorIndex := 85, attributes := #[] }, { accessFlags := 26, nameIndex := 569, descriptorIndex := 85, attributes := #[] }, { accessFlags := 26, nameIndex := 571, descriptorIndex := 85, attributes := #[] }, { accessFlags := 26, nameIndex := 572, descriptorIndex := 85, attributes := #[] }, { accessFlags := 26, nameIndex := 574, descriptorIndex := 85, attributes := #[] }, { accessFlags := 26, nameIndex := 575, descriptorIndex := 85, attributes := #[] }, { accessFlags := 26, nameIndex := 577, descriptorIndex := 85, attributes := #[] }, { accessFlags := 18, nameIndex := 35, descriptorIndex := 36, attributes := #[] }, { accessFlags := 18, nameIndex := 55, descriptorIndex := 56, attributes := #[] }, { accessFlags := 18, nameIndex := 63, descriptorIndex := 64, attributes := #[] }, { accessFlags := 18, nameIndex := 14, descriptorIndex := 15, attributes := #[] }, { accessFlags := 18, nameIndex := 18, descriptorIndex := 15, attributes := #[] }, { accessFlags := 18, nameIndex := 24, descriptorIndex := 25, attributes := #[] }, { accessFlags := 18, nameIndex := 31, descriptorIndex := 32, attributes := #[] }, { accessFlags := 2, nameIndex := 185, descriptorIndex := 186, attributes := #[] }, { accessFlags := 2, nameIndex := 231, descriptorIndex := 232, attributes := #[] }, { accessFlags := 2, nameIndex := 94, descriptorIndex := 95, attributes := #[] }])
  fields := #[{ name := "MAX_ATTRIBUTES", type := .int, accessFlags := 24, slot := 0, constantValue := 0 }, { name := "MAGIC", type := (.array .byte), accessFlags := 26, slot := 1, constantValue := 0 }, { name := "STRING_POOL", type := .int, accessFlags := 26, slot := 2, constantValue := 0 }, { name := "RESOURCE_MAP", type := .int, accessFlags := 26, slot := 3, constantValue := 0 }, { name := "FIRST_NODE", type := .int, accessFlags := 26, slot := 4, constantValue := 0 }, { name := "LAST_NODE", type := .int, accessFlags := 26, slot := 5, constantValue := 0 }, { name := "START_NAMESPACE", type := .int, accessFlags := 26, slot := 6, constantValue := 0 }, { name := "END_NAMESPACE", type := .int, accessFlags := 26, slot := 7, constantValue := 0 }, { name := "START_ELEMENT", type := .int, accessFlags := 26, slot := 8, constantValue := 0 }, { name := "END_ELEMENT", type := .int, accessFlags := 26, slot := 9, constantValue := 0 }, { name := "TEXT", type := .int, accessFlags := 26, slot := 10, constantValue := 0 }, { name := "TYPE_STRING", type := .int, accessFlags := 26, slot := 11, constantValue := 0 }, { name := "TYPE_INT_DEC", type := .int, accessFlags := 26, slot := 12, constantValue := 0 }, { name := "TYPE_INT_HEX", type := .int, accessFlags := 26, slot := 13, constantValue := 0 }, { name := "TYPE_BOOLEAN", type := .int, accessFlags := 26, slot := 14, constantValue := 0 }, { name := "CHUNK_HEADER_SIZE", type := .int, accessFlags := 26, slot := 15, constantValue := 0 }, { name := "NODE_HEADER_SIZE", type := .int, accessFlags := 26, slot := 16, constantValue := 0 }, { name := "STRING_POOL_HEADER_SIZE", type := .int, accessFlags := 26, slot := 17, constantValue := 0 }, { name := "NAMESPACE_SIZE", type := .int, accessFlags := 26, slot := 18, constantValue := 0 }, { name := "ELEMENT_SIZE", type := .int, accessFlags := 26, slot := 19, constantValue := 0 }, { name := "END_ELEMENT_SIZE", type := .int, accessFlags := 26, slot := 20, constantValue := 0 }, { name := "TEXT_SIZE", type := .int, accessFlags := 26, slot := 21, constantValue := 0 }, { name := "ATTRIBUTE_SIZE", type := .int, accessFlags := 26, slot := 22, constantValue := 0 }, { name := "RESOURCE_ID_SIZE", type := .int, accessFlags := 26, slot := 23, constantValue := 0 }, { name := "UTF8_FLAG", type := .int, accessFlags := 26, slot := 24, constantValue := 0 }, { name := "NO_STRING", type := .int, accessFlags := 26, slot := 25, constantValue := 0 }, { name := "NO_RESOURCE_ID", type := .int, accessFlags := 26, slot := 26, constantValue := 0 }, { name := "source", type := (.object "java/lang/String"), accessFlags := 18, slot := 0, constantValue := 0 }, { name := "bytes", type := (.object "java/nio/ByteBuffer"), accessFlags := 18, slot := 1, constantValue := 0 }, { name := "document", type := (.object "org/w3c/dom/Document"), accessFlags := 18, slot := 2, constantValue := 0 }, { name := "openElements", type := (.object "java/util/Deque"), accessFlags := 18, slot := 3, constantValue := 0 }, { name := "bindings", type := (.object "java/util/Deque"), accessFlags := 18, slot := 4, constantValue := 0 }, { name := "innermostBindings", type := (.object "java/util/Map"), accessFlags := 18, slot := 5, constantValue := 0 }, { name := "pendingBindings", type := (.object "java/util/List"), accessFlags := 18, slot := 6, constantValue := 0 }, { name := "strings", type := (.array (.object "java/lang/String")), accessFlags := 2, slot := 7, constantValue := 0 }, { name := "resourceMap", type := (.object "com/example/inward_firewall/inwardfirewall/BinaryXml$Chunk"), accessFlags := 2, slot := 8, constantValue := 0 }, { name := "treeStarted", type := .boolean, accessFlags := 2, slot := 9, constantValue := 0 }]
  methods := #[k2m0]
  instanceTypes := #[(.object "java/lang/String"), (.object "java/nio/ByteBuffer"), (.object "org/w3c/dom/Document"), (.object "java/util/Deque"), (.object "java/util/Deque"), (.object "java/util/Map"), (.object "java/util/List"), (.array (.object "java/lang/String")), (.object "com/example/inward_firewall/inwardfirewall/BinaryXml$Chunk"), .boolean]
  staticTypes := #[.int, (.array .byte), .int, .int, .int, .int, .int, .int, .int, .int, .int, .int, .int, .int, .int, .int, .int, .int, .int, .int, .int, .int, .int, .int, .int, .int, .int]
  resolved := Array.replicate 682 none
  statics := some 0 }

def pool3 : Array CpInfo := pool [(1, u "java/lang/Cloneable"), (0, .class_ 1), (0, u "java/lang/Object"), (0, .class_ 3)] 3

/-- java/lang/Cloneable -/
def k3 : Class := { plain "java/lang/Cloneable" (some 0) with
  accessFlags := 1537
  interfaces := #[]
  cf := some (fileOf pool3 2 #[] #[] 1537 4 #[] #[])
  fields := #[]
  methods := #[]
  instanceTypes := #[]
  staticTypes := #[]
  resolved := Array.replicate 8 none
  statics := none }

def pool4 : Array CpInfo := pool [(1, u "java/io/Serializable"), (0, .class_ 1), (0, u "java/lang/Object"), (0, .class_ 3)] 3

/-- java/io/Serializable -/
def k4 : Class := { plain "java/io/Serializable" (some 0) with
  accessFlags := 1537
  interfaces := #[]
  cf := some (fileOf pool4 2 #[] #[] 1537 4 #[] #[])
  fields := #[]
  methods := #[]
  instanceTypes := #[]
  staticTypes := #[]
  resolved := Array.replicate 8 none
  statics := none }

/-- the primitive byte -/
def k5 : Class := { plain "byte" none with kind := .primitive 'B', accessFlags := 0x411 }
/-- [B -/
def k6 : Class := { plain "[B" (some 0) with kind := .array 5 .byte, interfaces := #[3, 4], accessFlags := 1041 }

/-- the primitive int -/
def k7 : Class := { plain "int" none with kind := .primitive 'I', accessFlags := 0x411 }
/-- [I -/
def k8 : Class := { plain "[I" (some 0) with kind := .array 7 .int, interfaces := #[3, 4], accessFlags := 1041 }

def heap : Heap := #[{ cls := 2, slots := #[.int 0, .ref 1, .int 0, .int 0, .int 0, .int 0, .int 0, .int 0, .int 0, .int 0, .int 0, .int 0, .int 0, .int 0, .int 0, .int 0, .int 0, .int 0, .int 0, .int 0, .int 0, .int 0, .int 0, .int 0, .int 0, .int 0, .int 0], vm := .statics 2 },
  { cls := 6, slots := #[.int 3, .int 0], vm := .none }]
def classes : Array Class := #[k0, k1, k2, k3, k4, k5, k6, k7, k8]
def interned : List (Array UInt16 × Addr) := []
def slotsUsed : Nat := 29
def theMethod : MethodId := ⟨1, 1⟩
def args0 : Array Value := #[.int 5, .int 3, .int 0, .int 7]
def aboutOver (below : List Frame) : State where
  vm := { classes := classes, interned := interned.toArray }
  heap := heap
  slotsUsed := slotsUsed
  threads := #[{ frames := .invoking theMethod args0 :: below }]
def below0 : List Frame := [.native { method := ⟨0, 0⟩, args := #[] }]
def about1 : State := aboutOver below0
def p0 : Program := .bare "" "" ""
def e0 : Env := launch0.env 0 0 0
theorem w_frames : about1.frames = Frame.invoking theMethod args0 :: below0 := rfl
set_option maxRecDepth 65536 in
theorem w_args : argsFit about1.vm theMethod args0 = true := by decide +kernel
set_option maxRecDepth 65536 in
theorem w_heap : heapFits about1 = true := by decide +kernel
set_option maxRecDepth 65536 in
theorem w_runnable : about1.curStatus? = some .runnable := by decide +kernel
set_option maxRecDepth 65536 in
theorem w_alone : about1.alone = true := by decide +kernel
set_option maxRecDepth 65536 in
theorem w_named : about1.methodNamed? x = some theMethod := by decide +kernel
set_option maxRecDepth 65536 in
theorem w_hears : about1.hears theMethod below0 = true := by decide +kernel
set_option maxRecDepth 65536 in
theorem w_ripe : about1.ripe theMethod args0 below0 = true := by decide +kernel
theorem w_running : about1.status = .running := rfl
set_option maxRecDepth 65536 in
theorem w_room : about1.hasRoom e0.platform room_1 = true :=
  launch0.hasRoom_least _ room_1 (by decide +kernel) (by decide +kernel) (by decide +kernel) (by decide +kernel) (by decide +kernel) (by decide +kernel)
theorem allAtoms_all (ts : List Jvm.Cond) (a : Array Jvm.Value) (st : Jvm.State) : (allAtoms ts).before a st = ts.all (fun c => c.before a st) := by
  induction ts with
  | nil => rfl
  | cons c t ih =>
    show (Jvm.Cond.and c (allAtoms t)).before a st = _
    rw [Jvm.Cond.before_and, ih, List.all_cons]
def words1 : List Jvm.Cond := Jvm.Cond.code x code maxLocals ret :: tables_1
/-- a 'code' word, met by the world's own term for the bytes: nothing is compared byte by byte -/
theorem code_word {y : MethodName} {bytes : ByteArray} {mx : Nat} {rt : Option FieldType} {a : Array Value} {s : State} {m : MethodId} {meth : Method} {c : Code} (h1 : s.methodNamed? y = some m) (h2 : s.vm.method? m = some meth) (h3 : meth.code = some c) (h4 : c.code = bytes)
    (h5 : (c.maxLocals == mx && c.exceptionTable.isEmpty && decide (c.maxStack ≤ mostOperands) && decide (meth.sig.returnType = rt) && !meth.locks && decide (parseMethodDescriptor y.desc = some meth.sig)) = true) : (Jvm.Cond.code y bytes mx rt).before a s = true := by
  simp only [Bool.and_eq_true, beq_iff_eq, Bool.not_eq_true', decide_eq_true_eq] at h5
  obtain ⟨⟨⟨⟨⟨g1, g2⟩, g3⟩, g4⟩, g5⟩, g6⟩ := h5
  simp [Cond.before, Cond.holds, Cond.value, h1, h2, h3, h4, g1, g2, g3, g4, g5, g6]
def isCode : Jvm.Cond → Bool
  | .code _ _ _ _ => true
  | _ => false
theorem all_split {L : List Jvm.Cond} {P : Jvm.Cond → Bool} (h1 : L.all (fun c => isCode c || P c) = true) (h2 : ∀ c ∈ L.filter isCode, P c = true) : L.all P = true := by
  refine List.all_eq_true.mpr fun c hc => ?_
  have h := List.all_eq_true.mp h1 c hc
  rcases Bool.eq_false_or_eq_true (isCode c) with hi | hi
  · exact h2 c (List.mem_filter.mpr ⟨hc, hi⟩)
  · simpa [hi] using h
set_option maxRecDepth 65536 in
theorem w_c0 : (Jvm.Cond.code x code maxLocals ret).before args0 about1 = true := code_word (m := ⟨1, 1⟩) (meth := k1m1) (c := k1c1) (by decide +kernel) rfl rfl rfl (by decide +kernel)
set_option maxRecDepth 65536 in
theorem w_c1 : (Jvm.Cond.code ({ cls := "com/example/inward_firewall/inwardfirewall/BinaryXml", name := "isBinaryXml", desc := "([B)Z" } : Jvm.MethodName) prog_10_method_2_code (1 : Nat) (Option.some Jvm.ClassFile.FieldType.boolean)).before args0 about1 = true := code_word (m := ⟨2, 0⟩) (meth := k2m0) (c := k2c0) (by decide +kernel) rfl rfl rfl (by decide +kernel)
def codes1 : List Jvm.Cond := [Jvm.Cond.code x code maxLocals ret, Jvm.Cond.code ({ cls := "com/example/inward_firewall/inwardfirewall/BinaryXml", name := "isBinaryXml", desc := "([B)Z" } : Jvm.MethodName) prog_10_method_2_code (1 : Nat) (Option.some Jvm.ClassFile.FieldType.boolean)]
set_option maxRecDepth 65536 in
theorem codes_eq : words1.filter isCode = codes1 := rfl
theorem w_codes : ∀ c ∈ words1.filter isCode, c.before args0 about1 = true := by
  rw [codes_eq]
  intro c hc
  simp only [codes1, List.mem_cons, List.not_mem_nil, or_false] at hc
  rcases hc with rfl | rfl
  · exact w_c0
  · exact w_c1
set_option maxRecDepth 65536 in
theorem w_t1 : words1.all (fun c => isCode c || c.before args0 about1) = true := by decide +kernel
theorem w_tables : (allAtoms (Jvm.Cond.code x code maxLocals ret :: tables_1)).before args0 about1 = true := by
  rw [allAtoms_all]
  show words1.all (fun c => c.before args0 about1) = true
  refine all_split ?_ w_codes
  rw [w_t1]
set_option maxRecDepth 65536 in
theorem w_case : (Jvm.Cond.and given_1 narrow_1).before args0 about1 = true := by decide +kernel
theorem w_applies : (headSpec (Jvm.Cond.code x code maxLocals ret :: tables_1) room_1).applies x e0.platform about1 = true :=
  (Spec.applies_iff w_frames).mpr ⟨w_running, w_runnable, w_alone, w_named, w_hears, w_ripe, w_room, w_tables⟩
theorem atStart : AtStart classFile x code maxLocals ret World_1 tables_1 room_1 Calls_1 rest_1 Pre_1 launch0 p0 e0 about1 theMethod args0 below0 :=
  ⟨lists_1, trivial, launch0.admits_env _ _ _, launch0.least_env, fairChoices_fair.cas, fairChoices_fair.clock, w_frames, w_args, w_heap, w_applies, trivial, trivial, w_case⟩
end start1
theorem witness_1 : WitnessClaimed_1 := ⟨start1.p0, start1.e0, start1.about1, start1.theMethod, start1.args0, start1.below0, start1.atStart⟩
end Jvm.Pilot.@@N@@
