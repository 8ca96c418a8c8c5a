import JvmDerived
import JvmDerived.Pilot.@@N@@Statement
import JvmDerived.Pilot.@@N@@Code
set_option linter.unusedVariables false
set_option linter.unusedSimpArgs false
namespace Jvm.Pilot.@@N@@
open Jvm Jvm.ClassFile Sem Op Lib Jvm.Free Jvm.Stand Jvm.LawKit Jvm.RoadKit Bundle Jvm.Pilot.@@N@@.Jvm.D
theorem own_le {Z : State} {n0 : Nat} {h : Heap} (O : Old Z n0 h) : n0 ≤ h.size := O.1 ▸ O.2.1
theorem pn_com_example_glacial_workflow_glacialworkflow_core_FailureClass : plainName "com/example/glacial_workflow/glacialworkflow/core/FailureClass" = true := by first | (simp [plainName, overriddenIn]; done) | decide +kernel
theorem pn_com_example_glacial_workflow_glacialworkflow_core_FailureClassIsRetriedPinLaw : plainName "com/example/glacial_workflow/glacialworkflow/core/FailureClassIsRetriedPinLaw" = true := by first | (simp [plainName, overriddenIn]; done) | decide +kernel
theorem pd___Z : parseMethodDescriptor "()Z" = some ⟨[], some .boolean⟩ := by decide +kernel
theorem d1_0 : decode prog_8_method_4_code 0 = .ok (.aload_n 0, 1) := by decide +kernel
theorem d1_1 : decode prog_8_method_4_code 1 = .ok (.getstatic 3, 3) := by decide +kernel
theorem d1_4 : decode prog_8_method_4_code 4 = .ok (.if_acmp .eq 17, 3) := by decide +kernel
theorem d1_7 : decode prog_8_method_4_code 7 = .ok (.aload_n 0, 1) := by decide +kernel
theorem d1_8 : decode prog_8_method_4_code 8 = .ok (.getstatic 7, 3) := by decide +kernel
theorem d1_11 : decode prog_8_method_4_code 11 = .ok (.if_acmp .eq 10, 3) := by decide +kernel
theorem d1_14 : decode prog_8_method_4_code 14 = .ok (.aload_n 0, 1) := by decide +kernel
theorem d1_15 : decode prog_8_method_4_code 15 = .ok (.getstatic 10, 3) := by decide +kernel
theorem d1_18 : decode prog_8_method_4_code 18 = .ok (.if_acmp .ne 7, 3) := by decide +kernel
theorem d1_21 : decode prog_8_method_4_code 21 = .ok (.iconst 1, 1) := by decide +kernel
theorem d1_22 : decode prog_8_method_4_code 22 = .ok (.goto 4, 3) := by decide +kernel
theorem d1_25 : decode prog_8_method_4_code 25 = .ok (.iconst 0, 1) := by decide +kernel
theorem d1_26 : decode prog_8_method_4_code 26 = .ok (.ireturn, 1) := by decide +kernel
section OwnWords
variable {args : Array Value} {s : State} {t u : Term} {a b : Addr} {C n d K : String}
theorem own_exa (h : (Jvm.Cond.exactly t K).value args s none s [] = some true) (ev : t.eval args s none [] s = some (.ref a)) : Exa s s.heap a K := Exa.start ev h
theorem own_fi {k : Int32} (ev : t.eval args s none [] s = some (.ref a)) (h : (Jvm.Cond.eq (.field t C n d) (.int k)).value args s none s [] = some true) : Fld s s.heap a C n d (.int k) := by
  refine Fld.start ?_
  have e := fld_at (C := C) (n := n) (dd := d) ev
  simp only [Cond.value, e] at h
  cases hv : s.fieldOf? a C n d with
  | none => simp [hv] at h
  | some z => cases z <;> simp [hv, Term.eval] at h ⊢; exact h
theorem own_fn (ev : t.eval args s none [] s = some (.ref a)) (h : (Jvm.Cond.eq (.field t C n d) .null).value args s none s [] = some true) : Fld s s.heap a C n d .null :=
  Fld.start ((fld_at ev).symm.trans (null_v h))
theorem own_fr (ev : t.eval args s none [] s = some (.ref a)) (ev' : u.eval args s none [] s = some (.ref b)) (h : (Jvm.Cond.eq (.field t C n d) u).value args s none s [] = some true) : Fld s s.heap a C n d (.ref b) := by
  refine Fld.start ?_
  have e := fld_at (C := C) (n := n) (dd := d) ev
  simp only [Cond.value, e, ev'] at h
  cases hv : s.fieldOf? a C n d with
  | none => simp [hv] at h
  | some z => cases z <;> simp [hv] at h ⊢; exact h
end OwnWords
theorem own_k (x : Int32) : (x &&& (2147483647 : Int32)) % (7 : Int32) = (0 : Int32) ∨ (x &&& (2147483647 : Int32)) % (7 : Int32) = (1 : Int32) ∨ (x &&& (2147483647 : Int32)) % (7 : Int32) = (2 : Int32) ∨ (x &&& (2147483647 : Int32)) % (7 : Int32) = (3 : Int32) ∨ (x &&& (2147483647 : Int32)) % (7 : Int32) = (4 : Int32) ∨ (x &&& (2147483647 : Int32)) % (7 : Int32) = (5 : Int32) ∨ (x &&& (2147483647 : Int32)) % (7 : Int32) = (6 : Int32) := by
  have e := c_mask x 2147483647 31 (by decide) (by decide)
  have r := (c_irem (x &&& 2147483647) 7 7 rfl).1 (by omega)
  have h : ((x &&& (2147483647 : Int32)) % (7 : Int32)).toInt = 0 ∨ ((x &&& (2147483647 : Int32)) % (7 : Int32)).toInt = 1 ∨ ((x &&& (2147483647 : Int32)) % (7 : Int32)).toInt = 2 ∨ ((x &&& (2147483647 : Int32)) % (7 : Int32)).toInt = 3 ∨ ((x &&& (2147483647 : Int32)) % (7 : Int32)).toInt = 4 ∨ ((x &&& (2147483647 : Int32)) % (7 : Int32)).toInt = 5 ∨ ((x &&& (2147483647 : Int32)) % (7 : Int32)).toInt = 6 := by omega
  rcases h with h | h | h | h | h | h | h
  · exact (Or.inl (Int32.toInt_inj.mp (h.trans rfl)))
  · exact (Or.inr (Or.inl (Int32.toInt_inj.mp (h.trans rfl))))
  · exact (Or.inr (Or.inr (Or.inl (Int32.toInt_inj.mp (h.trans rfl)))))
  · exact (Or.inr (Or.inr (Or.inr (Or.inl (Int32.toInt_inj.mp (h.trans rfl))))))
  · exact (Or.inr (Or.inr (Or.inr (Or.inr (Or.inl (Int32.toInt_inj.mp (h.trans rfl)))))))
  · exact (Or.inr (Or.inr (Or.inr (Or.inr (Or.inr (Or.inl (Int32.toInt_inj.mp (h.trans rfl))))))))
  · exact (Or.inr (Or.inr (Or.inr (Or.inr (Or.inr (Or.inr (Int32.toInt_inj.mp (h.trans rfl))))))))
def OwnEnv (Z : State) (w_INFRASTRUCTURE w_PERMANENT w_TRANSIENT w_QUALITY w_DEADLINE w_STALLED w_REJECTED : Addr) : Prop := Sta Z Z.heap "com/example/glacial_workflow/glacialworkflow/core/FailureClass" "INFRASTRUCTURE" "Lcom/example/glacial_workflow/glacialworkflow/core/FailureClass;" (.ref w_INFRASTRUCTURE) ∧ Exa Z Z.heap w_INFRASTRUCTURE "com/example/glacial_workflow/glacialworkflow/core/FailureClass" ∧ Sta Z Z.heap "com/example/glacial_workflow/glacialworkflow/core/FailureClass" "PERMANENT" "Lcom/example/glacial_workflow/glacialworkflow/core/FailureClass;" (.ref w_PERMANENT) ∧ Exa Z Z.heap w_PERMANENT "com/example/glacial_workflow/glacialworkflow/core/FailureClass" ∧ Sta Z Z.heap "com/example/glacial_workflow/glacialworkflow/core/FailureClass" "TRANSIENT" "Lcom/example/glacial_workflow/glacialworkflow/core/FailureClass;" (.ref w_TRANSIENT) ∧ Exa Z Z.heap w_TRANSIENT "com/example/glacial_workflow/glacialworkflow/core/FailureClass" ∧ Sta Z Z.heap "com/example/glacial_workflow/glacialworkflow/core/FailureClass" "QUALITY" "Lcom/example/glacial_workflow/glacialworkflow/core/FailureClass;" (.ref w_QUALITY) ∧ Exa Z Z.heap w_QUALITY "com/example/glacial_workflow/glacialworkflow/core/FailureClass" ∧ Sta Z Z.heap "com/example/glacial_workflow/glacialworkflow/core/FailureClass" "DEADLINE" "Lcom/example/glacial_workflow/glacialworkflow/core/FailureClass;" (.ref w_DEADLINE) ∧ Exa Z Z.heap w_DEADLINE "com/example/glacial_workflow/glacialworkflow/core/FailureClass" ∧ Sta Z Z.heap "com/example/glacial_workflow/glacialworkflow/core/FailureClass" "STALLED" "Lcom/example/glacial_workflow/glacialworkflow/core/FailureClass;" (.ref w_STALLED) ∧ Exa Z Z.heap w_STALLED "com/example/glacial_workflow/glacialworkflow/core/FailureClass" ∧ Sta Z Z.heap "com/example/glacial_workflow/glacialworkflow/core/FailureClass" "REJECTED" "Lcom/example/glacial_workflow/glacialworkflow/core/FailureClass;" (.ref w_REJECTED) ∧ Exa Z Z.heap w_REJECTED "com/example/glacial_workflow/glacialworkflow/core/FailureClass" ∧ Fld Z Z.heap w_PERMANENT "java/lang/Enum" "ordinal" "I" (.int (3 : Int32)) ∧ Fld Z Z.heap w_INFRASTRUCTURE "java/lang/Enum" "ordinal" "I" (.int (0 : Int32)) ∧ Fld Z Z.heap w_TRANSIENT "java/lang/Enum" "ordinal" "I" (.int (1 : Int32)) ∧ Fld Z Z.heap w_QUALITY "java/lang/Enum" "ordinal" "I" (.int (2 : Int32)) ∧ Fld Z Z.heap w_DEADLINE "java/lang/Enum" "ordinal" "I" (.int (5 : Int32)) ∧ Fld Z Z.heap w_STALLED "java/lang/Enum" "ordinal" "I" (.int (6 : Int32)) ∧ Fld Z Z.heap w_REJECTED "java/lang/Enum" "ordinal" "I" (.int (4 : Int32))
theorem ef_re_INFRASTRUCTURE (m : MethodId) (w_INFRASTRUCTURE : Addr) : entryFrame m #[(.ref w_INFRASTRUCTURE)] 1 = mkF m 0 #[.val (.ref w_INFRASTRUCTURE)] [] := by first | (simp [entryFrame, mkF, argsToLocals, Value.category]; done) | rfl
def Q_re_INFRASTRUCTURE (Z : State) (w_INFRASTRUCTURE w_PERMANENT w_TRANSIENT w_QUALITY w_DEADLINE w_STALLED w_REJECTED : Addr) (h0 : Heap) (n0 : Nat) (v : Option Value) (h : Heap) (L : List Loc) : Prop := v = some (.int (1 : Int32)) ∧ Fr n0 L ∧ h = h0
set_option maxRecDepth 65536 in
set_option maxHeartbeats 40000000 in
theorem re_INFRASTRUCTURE (l : Launch) (Z : State) (a0 : Array Value) (hw : ∀ d ∈ tables_1, d.before a0 Z = true) (ws : List Jvm.Cond) (w_INFRASTRUCTURE w_PERMANENT w_TRANSIENT w_QUALITY w_DEADLINE w_STALLED w_REJECTED : Addr) (h0 : Heap) (n0 : Nat) (O0 : Old Z n0 h0) (hE : OwnEnv Z w_INFRASTRUCTURE w_PERMANENT w_TRANSIENT w_QUALITY w_DEADLINE w_STALLED w_REJECTED) :
    MetFree l (⟨"com/example/glacial_workflow/glacialworkflow/core/FailureClass", "isRetried", "()Z"⟩ : MethodName) (head1 (Jvm.Cond.code (⟨"com/example/glacial_workflow/glacialworkflow/core/FailureClass", "isRetried", "()Z"⟩ : MethodName) prog_8_method_4_code 1 (some .boolean) :: ws) ({ frames := 0, cells := 0, slots := 0, locals := 0 } : Room)) (fun a U => a = #[(.ref w_INFRASTRUCTURE)] ∧ Z.Warmed39 U.vm ∧ U.heap = h0) (fun _ _ _ _ _ => True) (fun _ U o U' => ∃ v L, o = .returned v ∧ Q_re_INFRASTRUCTURE Z w_INFRASTRUCTURE w_PERMANENT w_TRANSIENT w_QUALITY w_DEADLINE w_STALLED w_REJECTED h0 n0 v U'.heap L ∧ FrameEnd U o U' L ({ frames := 0, cells := 0, slots := 0, locals := 0 } : Room).cells ({ frames := 0, cells := 0, slots := 0, locals := 0 } : Room).slots) := by
  refine MetFree.of_bodySF (plainFor_of_name pn_com_example_glacial_workflow_glacialworkflow_core_FailureClass) hisR ?_
  intro p e s m args below meth c s₁ Bd hml0 hP hK
  obtain ⟨rfl, hZ, hh⟩ := hP
  have hx := Bd.exec
  have hby := Bd.bytes
  have hml : c.maxLocals = 1 := hml0
  have hown : s.vm.findClass "com/example/glacial_workflow/glacialworkflow/core/FailureClass" = some m.cls := findClass_of_methodNamed Bd.named
  have hnm := (name_of_methodNamed Bd.named Bd.method).1
  have X0 : Stand p l e ({ frames := 0, cells := 0, slots := 0, locals := 0 } : Room) s m #[(.ref w_INFRASTRUCTURE)] below meth c s₁ [] 0 0 := Stand.of_body Bd
  have e0 : s₁.heap = h0 := by rw [← hh, Bd.state]; rfl
  have N0 := Fr.nil n0
  have pre0 : ∀ t, Steps p.tables e below (s₁.setTop (mkF m 0 #[.val (.ref w_INFRASTRUCTURE)] [])) t → Steps p.tables e below (s₁.setTop (entryFrame m #[(.ref w_INFRASTRUCTURE)] 1)) t := fun t k => castTop (ef_re_INFRASTRUCTURE m w_INFRASTRUCTURE) k
  have hE_ := hE; obtain ⟨S_w_INFRASTRUCTURE, E_w_INFRASTRUCTURE, S_w_PERMANENT, E_w_PERMANENT, S_w_TRANSIENT, E_w_TRANSIENT, S_w_QUALITY, E_w_QUALITY, S_w_DEADLINE, E_w_DEADLINE, S_w_STALLED, E_w_STALLED, S_w_REJECTED, E_w_REJECTED, F_ordinal_w_PERMANENT, F_ordinal_w_INFRASTRUCTURE, F_ordinal_w_TRANSIENT, F_ordinal_w_QUALITY, F_ordinal_w_DEADLINE, F_ordinal_w_STALLED, F_ordinal_w_REJECTED⟩ := hE_
  obtain ⟨T1, X1, e1, st1⟩ := getS2 X0 hx hZ hown (host := "") (Or.inl (hw _ (List.mem_of_getElem? (i := 9) rfl))) Via.refl e0 (S_w_INFRASTRUCTURE.ext O0.2) (g := (mkF m 1 #[.val (.ref w_INFRASTRUCTURE)] [(.ref w_INFRASTRUCTURE)])) rfl (hb hby d1_1)
  obtain ⟨fs, hr, hrun, hended, hW, hsame⟩ := X1.leave (v := some (.int (1 : Int32))) (fun h => by rw [Bd.returns] at h; cases h)
  refine ⟨_, _, pre0 _ ?_, hrun, hended, _, _, rfl, ?_, ⟨_, rfl⟩, hW, hsame.mono (by decide) (by decide)⟩
  · show Steps p.tables e below (s₁.setTop (mkF m 0 #[.val (.ref w_INFRASTRUCTURE)] [])) _
    refine XS.aloadN X0.here hx rfl (hb hby d1_0) rfl rfl ?_
    show Steps p.tables e below (s₁.setTop (mkF m 1 #[.val (.ref w_INFRASTRUCTURE)] [(.ref w_INFRASTRUCTURE)])) _
    refine st1 _ ?_
    show Steps p.tables e below (T1.setTop (mkF m 4 #[.val (.ref w_INFRASTRUCTURE)] [(.ref w_INFRASTRUCTURE), (.ref w_INFRASTRUCTURE)])) _
    refine Jvm.RoadKit.acmp (g := (mkF m 4 #[.val (.ref w_INFRASTRUCTURE)] [(.ref w_INFRASTRUCTURE), (.ref w_INFRASTRUCTURE)])) X1 hx rfl rfl rfl (pc0 := 4) (pc' := 21) (same := true) rfl (hb hby d1_4) rfl (decide_eq_true (congrArg Value.ref (rfl : w_INFRASTRUCTURE = w_INFRASTRUCTURE))) (by decide) (by decide) ?_
    show Steps p.tables e below (T1.setTop (mkF m 21 #[.val (.ref w_INFRASTRUCTURE)] [])) _
    refine XS.iconst X1.here hx rfl (hb hby d1_21) ?_
    show Steps p.tables e below (T1.setTop (mkF m 22 #[.val (.ref w_INFRASTRUCTURE)] [(.int (1 : Int32))])) _
    refine XS.goto X1.here hx rfl (pc0 := 22) (pc' := 26) rfl (hb hby d1_22) (by decide) (by decide) ?_
    show Steps p.tables e below (T1.setTop (mkF m 26 #[.val (.ref w_INFRASTRUCTURE)] [(.int (1 : Int32))])) _
    exact retN X1 hx (t := .boolean) Bd.returns (by simp) (hb hby d1_26) hr
  · show Q_re_INFRASTRUCTURE Z w_INFRASTRUCTURE w_PERMANENT w_TRANSIENT w_QUALITY w_DEADLINE w_STALLED w_REJECTED h0 n0 _ T1.heap _
    rw [e1]
    exact ⟨rfl, N0, rfl⟩
theorem ef_re_TRANSIENT (m : MethodId) (w_TRANSIENT : Addr) : entryFrame m #[(.ref w_TRANSIENT)] 1 = mkF m 0 #[.val (.ref w_TRANSIENT)] [] := by first | (simp [entryFrame, mkF, argsToLocals, Value.category]; done) | rfl
def Q_re_TRANSIENT (Z : State) (w_INFRASTRUCTURE w_PERMANENT w_TRANSIENT w_QUALITY w_DEADLINE w_STALLED w_REJECTED : Addr) (h0 : Heap) (n0 : Nat) (v : Option Value) (h : Heap) (L : List Loc) : Prop := v = some (.int (1 : Int32)) ∧ Fr n0 L ∧ h = h0
set_option maxRecDepth 65536 in
set_option maxHeartbeats 40000000 in
theorem re_TRANSIENT (l : Launch) (Z : State) (a0 : Array Value) (hw : ∀ d ∈ tables_1, d.before a0 Z = true) (ws : List Jvm.Cond) (w_INFRASTRUCTURE w_PERMANENT w_TRANSIENT w_QUALITY w_DEADLINE w_STALLED w_REJECTED : Addr) (h0 : Heap) (n0 : Nat) (O0 : Old Z n0 h0) (hE : OwnEnv Z w_INFRASTRUCTURE w_PERMANENT w_TRANSIENT w_QUALITY w_DEADLINE w_STALLED w_REJECTED) :
    MetFree l (⟨"com/example/glacial_workflow/glacialworkflow/core/FailureClass", "isRetried", "()Z"⟩ : MethodName) (head1 (Jvm.Cond.code (⟨"com/example/glacial_workflow/glacialworkflow/core/FailureClass", "isRetried", "()Z"⟩ : MethodName) prog_8_method_4_code 1 (some .boolean) :: ws) ({ frames := 0, cells := 0, slots := 0, locals := 0 } : Room)) (fun a U => a = #[(.ref w_TRANSIENT)] ∧ Z.Warmed39 U.vm ∧ U.heap = h0) (fun _ _ _ _ _ => True) (fun _ U o U' => ∃ v L, o = .returned v ∧ Q_re_TRANSIENT Z w_INFRASTRUCTURE w_PERMANENT w_TRANSIENT w_QUALITY w_DEADLINE w_STALLED w_REJECTED h0 n0 v U'.heap L ∧ FrameEnd U o U' L ({ frames := 0, cells := 0, slots := 0, locals := 0 } : Room).cells ({ frames := 0, cells := 0, slots := 0, locals := 0 } : Room).slots) := by
  refine MetFree.of_bodySF (plainFor_of_name pn_com_example_glacial_workflow_glacialworkflow_core_FailureClass) hisR ?_
  intro p e s m args below meth c s₁ Bd hml0 hP hK
  obtain ⟨rfl, hZ, hh⟩ := hP
  have hx := Bd.exec
  have hby := Bd.bytes
  have hml : c.maxLocals = 1 := hml0
  have hown : s.vm.findClass "com/example/glacial_workflow/glacialworkflow/core/FailureClass" = some m.cls := findClass_of_methodNamed Bd.named
  have hnm := (name_of_methodNamed Bd.named Bd.method).1
  have X0 : Stand p l e ({ frames := 0, cells := 0, slots := 0, locals := 0 } : Room) s m #[(.ref w_TRANSIENT)] below meth c s₁ [] 0 0 := Stand.of_body Bd
  have e0 : s₁.heap = h0 := by rw [← hh, Bd.state]; rfl
  have N0 := Fr.nil n0
  have pre0 : ∀ t, Steps p.tables e below (s₁.setTop (mkF m 0 #[.val (.ref w_TRANSIENT)] [])) t → Steps p.tables e below (s₁.setTop (entryFrame m #[(.ref w_TRANSIENT)] 1)) t := fun t k => castTop (ef_re_TRANSIENT m w_TRANSIENT) k
  have hE_ := hE; obtain ⟨S_w_INFRASTRUCTURE, E_w_INFRASTRUCTURE, S_w_PERMANENT, E_w_PERMANENT, S_w_TRANSIENT, E_w_TRANSIENT, S_w_QUALITY, E_w_QUALITY, S_w_DEADLINE, E_w_DEADLINE, S_w_STALLED, E_w_STALLED, S_w_REJECTED, E_w_REJECTED, F_ordinal_w_PERMANENT, F_ordinal_w_INFRASTRUCTURE, F_ordinal_w_TRANSIENT, F_ordinal_w_QUALITY, F_ordinal_w_DEADLINE, F_ordinal_w_STALLED, F_ordinal_w_REJECTED⟩ := hE_
  obtain ⟨T1, X1, e1, st1⟩ := getS2 X0 hx hZ hown (host := "") (Or.inl (hw _ (List.mem_of_getElem? (i := 9) rfl))) Via.refl e0 (S_w_INFRASTRUCTURE.ext O0.2) (g := (mkF m 1 #[.val (.ref w_TRANSIENT)] [(.ref w_TRANSIENT)])) rfl (hb hby d1_1)
  obtain ⟨T2, X2, e2, st2⟩ := getS2 X1 hx hZ hown (host := "") (Or.inl (hw _ (List.mem_of_getElem? (i := 12) rfl))) Via.refl e1 (S_w_TRANSIENT.ext O0.2) (g := (mkF m 8 #[.val (.ref w_TRANSIENT)] [(.ref w_TRANSIENT)])) rfl (hb hby d1_8)
  obtain ⟨fs, hr, hrun, hended, hW, hsame⟩ := X2.leave (v := some (.int (1 : Int32))) (fun h => by rw [Bd.returns] at h; cases h)
  refine ⟨_, _, pre0 _ ?_, hrun, hended, _, _, rfl, ?_, ⟨_, rfl⟩, hW, hsame.mono (by decide) (by decide)⟩
  · show Steps p.tables e below (s₁.setTop (mkF m 0 #[.val (.ref w_TRANSIENT)] [])) _
    refine XS.aloadN X0.here hx rfl (hb hby d1_0) rfl rfl ?_
    show Steps p.tables e below (s₁.setTop (mkF m 1 #[.val (.ref w_TRANSIENT)] [(.ref w_TRANSIENT)])) _
    refine st1 _ ?_
    show Steps p.tables e below (T1.setTop (mkF m 4 #[.val (.ref w_TRANSIENT)] [(.ref w_INFRASTRUCTURE), (.ref w_TRANSIENT)])) _
    refine Jvm.RoadKit.acmp (g := (mkF m 4 #[.val (.ref w_TRANSIENT)] [(.ref w_INFRASTRUCTURE), (.ref w_TRANSIENT)])) X1 hx rfl rfl rfl (pc0 := 4) (pc' := 7) (same := false) rfl (hb hby d1_4) rfl (decide_eq_false fun q => (Ne.symm (Fld.ne F_ordinal_w_INFRASTRUCTURE F_ordinal_w_TRANSIENT (by decide))) (Value.ref.inj q)) (by decide) (by decide) ?_
    show Steps p.tables e below (T1.setTop (mkF m 7 #[.val (.ref w_TRANSIENT)] [])) _
    refine XS.aloadN X1.here hx rfl (hb hby d1_7) rfl rfl ?_
    show Steps p.tables e below (T1.setTop (mkF m 8 #[.val (.ref w_TRANSIENT)] [(.ref w_TRANSIENT)])) _
    refine st2 _ ?_
    show Steps p.tables e below (T2.setTop (mkF m 11 #[.val (.ref w_TRANSIENT)] [(.ref w_TRANSIENT), (.ref w_TRANSIENT)])) _
    refine Jvm.RoadKit.acmp (g := (mkF m 11 #[.val (.ref w_TRANSIENT)] [(.ref w_TRANSIENT), (.ref w_TRANSIENT)])) X2 hx rfl rfl rfl (pc0 := 11) (pc' := 21) (same := true) rfl (hb hby d1_11) rfl (decide_eq_true (congrArg Value.ref (rfl : w_TRANSIENT = w_TRANSIENT))) (by decide) (by decide) ?_
    show Steps p.tables e below (T2.setTop (mkF m 21 #[.val (.ref w_TRANSIENT)] [])) _
    refine XS.iconst X2.here hx rfl (hb hby d1_21) ?_
    show Steps p.tables e below (T2.setTop (mkF m 22 #[.val (.ref w_TRANSIENT)] [(.int (1 : Int32))])) _
    refine XS.goto X2.here hx rfl (pc0 := 22) (pc' := 26) rfl (hb hby d1_22) (by decide) (by decide) ?_
    show Steps p.tables e below (T2.setTop (mkF m 26 #[.val (.ref w_TRANSIENT)] [(.int (1 : Int32))])) _
    exact retN X2 hx (t := .boolean) Bd.returns (by simp) (hb hby d1_26) hr
  · show Q_re_TRANSIENT Z w_INFRASTRUCTURE w_PERMANENT w_TRANSIENT w_QUALITY w_DEADLINE w_STALLED w_REJECTED h0 n0 _ T2.heap _
    rw [e2]
    exact ⟨rfl, N0, rfl⟩
theorem ef_re_QUALITY (m : MethodId) (w_QUALITY : Addr) : entryFrame m #[(.ref w_QUALITY)] 1 = mkF m 0 #[.val (.ref w_QUALITY)] [] := by first | (simp [entryFrame, mkF, argsToLocals, Value.category]; done) | rfl
def Q_re_QUALITY (Z : State) (w_INFRASTRUCTURE w_PERMANENT w_TRANSIENT w_QUALITY w_DEADLINE w_STALLED w_REJECTED : Addr) (h0 : Heap) (n0 : Nat) (v : Option Value) (h : Heap) (L : List Loc) : Prop := v = some (.int (1 : Int32)) ∧ Fr n0 L ∧ h = h0
set_option maxRecDepth 65536 in
set_option maxHeartbeats 40000000 in
theorem re_QUALITY (l : Launch) (Z : State) (a0 : Array Value) (hw : ∀ d ∈ tables_1, d.before a0 Z = true) (ws : List Jvm.Cond) (w_INFRASTRUCTURE w_PERMANENT w_TRANSIENT w_QUALITY w_DEADLINE w_STALLED w_REJECTED : Addr) (h0 : Heap) (n0 : Nat) (O0 : Old Z n0 h0) (hE : OwnEnv Z w_INFRASTRUCTURE w_PERMANENT w_TRANSIENT w_QUALITY w_DEADLINE w_STALLED w_REJECTED) :
    MetFree l (⟨"com/example/glacial_workflow/glacialworkflow/core/FailureClass", "isRetried", "()Z"⟩ : MethodName) (head1 (Jvm.Cond.code (⟨"com/example/glacial_workflow/glacialworkflow/core/FailureClass", "isRetried", "()Z"⟩ : MethodName) prog_8_method_4_code 1 (some .boolean) :: ws) ({ frames := 0, cells := 0, slots := 0, locals := 0 } : Room)) (fun a U => a = #[(.ref w_QUALITY)] ∧ Z.Warmed39 U.vm ∧ U.heap = h0) (fun _ _ _ _ _ => True) (fun _ U o U' => ∃ v L, o = .returned v ∧ Q_re_QUALITY Z w_INFRASTRUCTURE w_PERMANENT w_TRANSIENT w_QUALITY w_DEADLINE w_STALLED w_REJECTED h0 n0 v U'.heap L ∧ FrameEnd U o U' L ({ frames := 0, cells := 0, slots := 0, locals := 0 } : Room).cells ({ frames := 0, cells := 0, slots := 0, locals := 0 } : Room).slots) := by
  refine MetFree.of_bodySF (plainFor_of_name pn_com_example_glacial_workflow_glacialworkflow_core_FailureClass) hisR ?_
  intro p e s m args below meth c s₁ Bd hml0 hP hK
  obtain ⟨rfl, hZ, hh⟩ := hP
  have hx := Bd.exec
  have hby := Bd.bytes
  have hml : c.maxLocals = 1 := hml0
  have hown : s.vm.findClass "com/example/glacial_workflow/glacialworkflow/core/FailureClass" = some m.cls := findClass_of_methodNamed Bd.named
  have hnm := (name_of_methodNamed Bd.named Bd.method).1
  have X0 : Stand p l e ({ frames := 0, cells := 0, slots := 0, locals := 0 } : Room) s m #[(.ref w_QUALITY)] below meth c s₁ [] 0 0 := Stand.of_body Bd
  have e0 : s₁.heap = h0 := by rw [← hh, Bd.state]; rfl
  have N0 := Fr.nil n0
  have pre0 : ∀ t, Steps p.tables e below (s₁.setTop (mkF m 0 #[.val (.ref w_QUALITY)] [])) t → Steps p.tables e below (s₁.setTop (entryFrame m #[(.ref w_QUALITY)] 1)) t := fun t k => castTop (ef_re_QUALITY m w_QUALITY) k
  have hE_ := hE; obtain ⟨S_w_INFRASTRUCTURE, E_w_INFRASTRUCTURE, S_w_PERMANENT, E_w_PERMANENT, S_w_TRANSIENT, E_w_TRANSIENT, S_w_QUALITY, E_w_QUALITY, S_w_DEADLINE, E_w_DEADLINE, S_w_STALLED, E_w_STALLED, S_w_REJECTED, E_w_REJECTED, F_ordinal_w_PERMANENT, F_ordinal_w_INFRASTRUCTURE, F_ordinal_w_TRANSIENT, F_ordinal_w_QUALITY, F_ordinal_w_DEADLINE, F_ordinal_w_STALLED, F_ordinal_w_REJECTED⟩ := hE_
  obtain ⟨T1, X1, e1, st1⟩ := getS2 X0 hx hZ hown (host := "") (Or.inl (hw _ (List.mem_of_getElem? (i := 9) rfl))) Via.refl e0 (S_w_INFRASTRUCTURE.ext O0.2) (g := (mkF m 1 #[.val (.ref w_QUALITY)] [(.ref w_QUALITY)])) rfl (hb hby d1_1)
  obtain ⟨T2, X2, e2, st2⟩ := getS2 X1 hx hZ hown (host := "") (Or.inl (hw _ (List.mem_of_getElem? (i := 12) rfl))) Via.refl e1 (S_w_TRANSIENT.ext O0.2) (g := (mkF m 8 #[.val (.ref w_QUALITY)] [(.ref w_QUALITY)])) rfl (hb hby d1_8)
  obtain ⟨T3, X3, e3, st3⟩ := getS2 X2 hx hZ hown (host := "") (Or.inl (hw _ (List.mem_of_getElem? (i := 14) rfl))) Via.refl e2 (S_w_QUALITY.ext O0.2) (g := (mkF m 15 #[.val (.ref w_QUALITY)] [(.ref w_QUALITY)])) rfl (hb hby d1_15)
  obtain ⟨fs, hr, hrun, hended, hW, hsame⟩ := X3.leave (v := some (.int (1 : Int32))) (fun h => by rw [Bd.returns] at h; cases h)
  refine ⟨_, _, pre0 _ ?_, hrun, hended, _, _, rfl, ?_, ⟨_, rfl⟩, hW, hsame.mono (by decide) (by decide)⟩
  · show Steps p.tables e below (s₁.setTop (mkF m 0 #[.val (.ref w_QUALITY)] [])) _
    refine XS.aloadN X0.here hx rfl (hb hby d1_0) rfl rfl ?_
    show Steps p.tables e below (s₁.setTop (mkF m 1 #[.val (.ref w_QUALITY)] [(.ref w_QUALITY)])) _
    refine st1 _ ?_
    show Steps p.tables e below (T1.setTop (mkF m 4 #[.val (.ref w_QUALITY)] [(.ref w_INFRASTRUCTURE), (.ref w_QUALITY)])) _
    refine Jvm.RoadKit.acmp (g := (mkF m 4 #[.val (.ref w_QUALITY)] [(.ref w_INFRASTRUCTURE), (.ref w_QUALITY)])) X1 hx rfl rfl rfl (pc0 := 4) (pc' := 7) (same := false) rfl (hb hby d1_4) rfl (decide_eq_false fun q => (Ne.symm (Fld.ne F_ordinal_w_INFRASTRUCTURE F_ordinal_w_QUALITY (by decide))) (Value.ref.inj q)) (by decide) (by decide) ?_
    show Steps p.tables e below (T1.setTop (mkF m 7 #[.val (.ref w_QUALITY)] [])) _
    refine XS.aloadN X1.here hx rfl (hb hby d1_7) rfl rfl ?_
    show Steps p.tables e below (T1.setTop (mkF m 8 #[.val (.ref w_QUALITY)] [(.ref w_QUALITY)])) _
    refine st2 _ ?_
    show Steps p.tables e below (T2.setTop (mkF m 11 #[.val (.ref w_QUALITY)] [(.ref w_TRANSIENT), (.ref w_QUALITY)])) _
    refine Jvm.RoadKit.acmp (g := (mkF m 11 #[.val (.ref w_QUALITY)] [(.ref w_TRANSIENT), (.ref w_QUALITY)])) X2 hx rfl rfl rfl (pc0 := 11) (pc' := 14) (same := false) rfl (hb hby d1_11) rfl (decide_eq_false fun q => (Ne.symm (Fld.ne F_ordinal_w_TRANSIENT F_ordinal_w_QUALITY (by decide))) (Value.ref.inj q)) (by decide) (by decide) ?_
    show Steps p.tables e below (T2.setTop (mkF m 14 #[.val (.ref w_QUALITY)] [])) _
    refine XS.aloadN X2.here hx rfl (hb hby d1_14) rfl rfl ?_
    show Steps p.tables e below (T2.setTop (mkF m 15 #[.val (.ref w_QUALITY)] [(.ref w_QUALITY)])) _
    refine st3 _ ?_
    show Steps p.tables e below (T3.setTop (mkF m 18 #[.val (.ref w_QUALITY)] [(.ref w_QUALITY), (.ref w_QUALITY)])) _
    refine Jvm.RoadKit.acmp (g := (mkF m 18 #[.val (.ref w_QUALITY)] [(.ref w_QUALITY), (.ref w_QUALITY)])) X3 hx rfl rfl rfl (pc0 := 18) (pc' := 21) (same := true) rfl (hb hby d1_18) rfl (decide_eq_true (congrArg Value.ref (rfl : w_QUALITY = w_QUALITY))) (by decide) (by decide) ?_
    show Steps p.tables e below (T3.setTop (mkF m 21 #[.val (.ref w_QUALITY)] [])) _
    refine XS.iconst X3.here hx rfl (hb hby d1_21) ?_
    show Steps p.tables e below (T3.setTop (mkF m 22 #[.val (.ref w_QUALITY)] [(.int (1 : Int32))])) _
    refine XS.goto X3.here hx rfl (pc0 := 22) (pc' := 26) rfl (hb hby d1_22) (by decide) (by decide) ?_
    show Steps p.tables e below (T3.setTop (mkF m 26 #[.val (.ref w_QUALITY)] [(.int (1 : Int32))])) _
    exact retN X3 hx (t := .boolean) Bd.returns (by simp) (hb hby d1_26) hr
  · show Q_re_QUALITY Z w_INFRASTRUCTURE w_PERMANENT w_TRANSIENT w_QUALITY w_DEADLINE w_STALLED w_REJECTED h0 n0 _ T3.heap _
    rw [e3]
    exact ⟨rfl, N0, rfl⟩
theorem ef_re_PERMANENT (m : MethodId) (w_PERMANENT : Addr) : entryFrame m #[(.ref w_PERMANENT)] 1 = mkF m 0 #[.val (.ref w_PERMANENT)] [] := by first | (simp [entryFrame, mkF, argsToLocals, Value.category]; done) | rfl
def Q_re_PERMANENT (Z : State) (w_INFRASTRUCTURE w_PERMANENT w_TRANSIENT w_QUALITY w_DEADLINE w_STALLED w_REJECTED : Addr) (h0 : Heap) (n0 : Nat) (v : Option Value) (h : Heap) (L : List Loc) : Prop := v = some (.int (0 : Int32)) ∧ Fr n0 L ∧ h = h0
set_option maxRecDepth 65536 in
set_option maxHeartbeats 40000000 in
theorem re_PERMANENT (l : Launch) (Z : State) (a0 : Array Value) (hw : ∀ d ∈ tables_1, d.before a0 Z = true) (ws : List Jvm.Cond) (w_INFRASTRUCTURE w_PERMANENT w_TRANSIENT w_QUALITY w_DEADLINE w_STALLED w_REJECTED : Addr) (h0 : Heap) (n0 : Nat) (O0 : Old Z n0 h0) (hE : OwnEnv Z w_INFRASTRUCTURE w_PERMANENT w_TRANSIENT w_QUALITY w_DEADLINE w_STALLED w_REJECTED) :
    MetFree l (⟨"com/example/glacial_workflow/glacialworkflow/core/FailureClass", "isRetried", "()Z"⟩ : MethodName) (head1 (Jvm.Cond.code (⟨"com/example/glacial_workflow/glacialworkflow/core/FailureClass", "isRetried", "()Z"⟩ : MethodName) prog_8_method_4_code 1 (some .boolean) :: ws) ({ frames := 0, cells := 0, slots := 0, locals := 0 } : Room)) (fun a U => a = #[(.ref w_PERMANENT)] ∧ Z.Warmed39 U.vm ∧ U.heap = h0) (fun _ _ _ _ _ => True) (fun _ U o U' => ∃ v L, o = .returned v ∧ Q_re_PERMANENT Z w_INFRASTRUCTURE w_PERMANENT w_TRANSIENT w_QUALITY w_DEADLINE w_STALLED w_REJECTED h0 n0 v U'.heap L ∧ FrameEnd U o U' L ({ frames := 0, cells := 0, slots := 0, locals := 0 } : Room).cells ({ frames := 0, cells := 0, slots := 0, locals := 0 } : Room).slots) := by
  refine MetFree.of_bodySF (plainFor_of_name pn_com_example_glacial_workflow_glacialworkflow_core_FailureClass) hisR ?_
  intro p e s m args below meth c s₁ Bd hml0 hP hK
  obtain ⟨rfl, hZ, hh⟩ := hP
  have hx := Bd.exec
  have hby := Bd.bytes
  have hml : c.maxLocals = 1 := hml0
  have hown : s.vm.findClass "com/example/glacial_workflow/glacialworkflow/core/FailureClass" = some m.cls := findClass_of_methodNamed Bd.named
  have hnm := (name_of_methodNamed Bd.named Bd.method).1
  have X0 : Stand p l e ({ frames := 0, cells := 0, slots := 0, locals := 0 } : Room) s m #[(.ref w_PERMANENT)] below meth c s₁ [] 0 0 := Stand.of_body Bd
  have e0 : s₁.heap = h0 := by rw [← hh, Bd.state]; rfl
  have N0 := Fr.nil n0
  have pre0 : ∀ t, Steps p.tables e below (s₁.setTop (mkF m 0 #[.val (.ref w_PERMANENT)] [])) t → Steps p.tables e below (s₁.setTop (entryFrame m #[(.ref w_PERMANENT)] 1)) t := fun t k => castTop (ef_re_PERMANENT m w_PERMANENT) k
  have hE_ := hE; obtain ⟨S_w_INFRASTRUCTURE, E_w_INFRASTRUCTURE, S_w_PERMANENT, E_w_PERMANENT, S_w_TRANSIENT, E_w_TRANSIENT, S_w_QUALITY, E_w_QUALITY, S_w_DEADLINE, E_w_DEADLINE, S_w_STALLED, E_w_STALLED, S_w_REJECTED, E_w_REJECTED, F_ordinal_w_PERMANENT, F_ordinal_w_INFRASTRUCTURE, F_ordinal_w_TRANSIENT, F_ordinal_w_QUALITY, F_ordinal_w_DEADLINE, F_ordinal_w_STALLED, F_ordinal_w_REJECTED⟩ := hE_
  obtain ⟨T1, X1, e1, st1⟩ := getS2 X0 hx hZ hown (host := "") (Or.inl (hw _ (List.mem_of_getElem? (i := 9) rfl))) Via.refl e0 (S_w_INFRASTRUCTURE.ext O0.2) (g := (mkF m 1 #[.val (.ref w_PERMANENT)] [(.ref w_PERMANENT)])) rfl (hb hby d1_1)
  obtain ⟨T2, X2, e2, st2⟩ := getS2 X1 hx hZ hown (host := "") (Or.inl (hw _ (List.mem_of_getElem? (i := 12) rfl))) Via.refl e1 (S_w_TRANSIENT.ext O0.2) (g := (mkF m 8 #[.val (.ref w_PERMANENT)] [(.ref w_PERMANENT)])) rfl (hb hby d1_8)
  obtain ⟨T3, X3, e3, st3⟩ := getS2 X2 hx hZ hown (host := "") (Or.inl (hw _ (List.mem_of_getElem? (i := 14) rfl))) Via.refl e2 (S_w_QUALITY.ext O0.2) (g := (mkF m 15 #[.val (.ref w_PERMANENT)] [(.ref w_PERMANENT)])) rfl (hb hby d1_15)
  obtain ⟨fs, hr, hrun, hended, hW, hsame⟩ := X3.leave (v := some (.int (0 : Int32))) (fun h => by rw [Bd.returns] at h; cases h)
  refine ⟨_, _, pre0 _ ?_, hrun, hended, _, _, rfl, ?_, ⟨_, rfl⟩, hW, hsame.mono (by decide) (by decide)⟩
  · show Steps p.tables e below (s₁.setTop (mkF m 0 #[.val (.ref w_PERMANENT)] [])) _
    refine XS.aloadN X0.here hx rfl (hb hby d1_0) rfl rfl ?_
    show Steps p.tables e below (s₁.setTop (mkF m 1 #[.val (.ref w_PERMANENT)] [(.ref w_PERMANENT)])) _
    refine st1 _ ?_
    show Steps p.tables e below (T1.setTop (mkF m 4 #[.val (.ref w_PERMANENT)] [(.ref w_INFRASTRUCTURE), (.ref w_PERMANENT)])) _
    refine Jvm.RoadKit.acmp (g := (mkF m 4 #[.val (.ref w_PERMANENT)] [(.ref w_INFRASTRUCTURE), (.ref w_PERMANENT)])) X1 hx rfl rfl rfl (pc0 := 4) (pc' := 7) (same := false) rfl (hb hby d1_4) rfl (decide_eq_false fun q => (Fld.ne F_ordinal_w_PERMANENT F_ordinal_w_INFRASTRUCTURE (by decide)) (Value.ref.inj q)) (by decide) (by decide) ?_
    show Steps p.tables e below (T1.setTop (mkF m 7 #[.val (.ref w_PERMANENT)] [])) _
    refine XS.aloadN X1.here hx rfl (hb hby d1_7) rfl rfl ?_
    show Steps p.tables e below (T1.setTop (mkF m 8 #[.val (.ref w_PERMANENT)] [(.ref w_PERMANENT)])) _
    refine st2 _ ?_
    show Steps p.tables e below (T2.setTop (mkF m 11 #[.val (.ref w_PERMANENT)] [(.ref w_TRANSIENT), (.ref w_PERMANENT)])) _
    refine Jvm.RoadKit.acmp (g := (mkF m 11 #[.val (.ref w_PERMANENT)] [(.ref w_TRANSIENT), (.ref w_PERMANENT)])) X2 hx rfl rfl rfl (pc0 := 11) (pc' := 14) (same := false) rfl (hb hby d1_11) rfl (decide_eq_false fun q => (Fld.ne F_ordinal_w_PERMANENT F_ordinal_w_TRANSIENT (by decide)) (Value.ref.inj q)) (by decide) (by decide) ?_
    show Steps p.tables e below (T2.setTop (mkF m 14 #[.val (.ref w_PERMANENT)] [])) _
    refine XS.aloadN X2.here hx rfl (hb hby d1_14) rfl rfl ?_
    show Steps p.tables e below (T2.setTop (mkF m 15 #[.val (.ref w_PERMANENT)] [(.ref w_PERMANENT)])) _
    refine st3 _ ?_
    show Steps p.tables e below (T3.setTop (mkF m 18 #[.val (.ref w_PERMANENT)] [(.ref w_QUALITY), (.ref w_PERMANENT)])) _
    refine Jvm.RoadKit.acmp (g := (mkF m 18 #[.val (.ref w_PERMANENT)] [(.ref w_QUALITY), (.ref w_PERMANENT)])) X3 hx rfl rfl rfl (pc0 := 18) (pc' := 25) (same := false) rfl (hb hby d1_18) rfl (decide_eq_false fun q => (Fld.ne F_ordinal_w_PERMANENT F_ordinal_w_QUALITY (by decide)) (Value.ref.inj q)) (by decide) (by decide) ?_
    show Steps p.tables e below (T3.setTop (mkF m 25 #[.val (.ref w_PERMANENT)] [])) _
    refine XS.iconst X3.here hx rfl (hb hby d1_25) ?_
    show Steps p.tables e below (T3.setTop (mkF m 26 #[.val (.ref w_PERMANENT)] [(.int (0 : Int32))])) _
    exact retN X3 hx (t := .boolean) Bd.returns (by simp) (hb hby d1_26) hr
  · show Q_re_PERMANENT Z w_INFRASTRUCTURE w_PERMANENT w_TRANSIENT w_QUALITY w_DEADLINE w_STALLED w_REJECTED h0 n0 _ T3.heap _
    rw [e3]
    exact ⟨rfl, N0, rfl⟩
theorem ef_re_REJECTED (m : MethodId) (w_REJECTED : Addr) : entryFrame m #[(.ref w_REJECTED)] 1 = mkF m 0 #[.val (.ref w_REJECTED)] [] := by first | (simp [entryFrame, mkF, argsToLocals, Value.category]; done) | rfl
def Q_re_REJECTED (Z : State) (w_INFRASTRUCTURE w_PERMANENT w_TRANSIENT w_QUALITY w_DEADLINE w_STALLED w_REJECTED : Addr) (h0 : Heap) (n0 : Nat) (v : Option Value) (h : Heap) (L : List Loc) : Prop := v = some (.int (0 : Int32)) ∧ Fr n0 L ∧ h = h0
set_option maxRecDepth 65536 in
set_option maxHeartbeats 40000000 in
theorem re_REJECTED (l : Launch) (Z : State) (a0 : Array Value) (hw : ∀ d ∈ tables_1, d.before a0 Z = true) (ws : List Jvm.Cond) (w_INFRASTRUCTURE w_PERMANENT w_TRANSIENT w_QUALITY w_DEADLINE w_STALLED w_REJECTED : Addr) (h0 : Heap) (n0 : Nat) (O0 : Old Z n0 h0) (hE : OwnEnv Z w_INFRASTRUCTURE w_PERMANENT w_TRANSIENT w_QUALITY w_DEADLINE w_STALLED w_REJECTED) :
    MetFree l (⟨"com/example/glacial_workflow/glacialworkflow/core/FailureClass", "isRetried", "()Z"⟩ : MethodName) (head1 (Jvm.Cond.code (⟨"com/example/glacial_workflow/glacialworkflow/core/FailureClass", "isRetried", "()Z"⟩ : MethodName) prog_8_method_4_code 1 (some .boolean) :: ws) ({ frames := 0, cells := 0, slots := 0, locals := 0 } : Room)) (fun a U => a = #[(.ref w_REJECTED)] ∧ Z.Warmed39 U.vm ∧ U.heap = h0) (fun _ _ _ _ _ => True) (fun _ U o U' => ∃ v L, o = .returned v ∧ Q_re_REJECTED Z w_INFRASTRUCTURE w_PERMANENT w_TRANSIENT w_QUALITY w_DEADLINE w_STALLED w_REJECTED h0 n0 v U'.heap L ∧ FrameEnd U o U' L ({ frames := 0, cells := 0, slots := 0, locals := 0 } : Room).cells ({ frames := 0, cells := 0, slots := 0, locals := 0 } : Room).slots) := by
  refine MetFree.of_bodySF (plainFor_of_name pn_com_example_glacial_workflow_glacialworkflow_core_FailureClass) hisR ?_
  intro p e s m args below meth c s₁ Bd hml0 hP hK
  obtain ⟨rfl, hZ, hh⟩ := hP
  have hx := Bd.exec
  have hby := Bd.bytes
  have hml : c.maxLocals = 1 := hml0
  have hown : s.vm.findClass "com/example/glacial_workflow/glacialworkflow/core/FailureClass" = some m.cls := findClass_of_methodNamed Bd.named
  have hnm := (name_of_methodNamed Bd.named Bd.method).1
  have X0 : Stand p l e ({ frames := 0, cells := 0, slots := 0, locals := 0 } : Room) s m #[(.ref w_REJECTED)] below meth c s₁ [] 0 0 := Stand.of_body Bd
  have e0 : s₁.heap = h0 := by rw [← hh, Bd.state]; rfl
  have N0 := Fr.nil n0
  have pre0 : ∀ t, Steps p.tables e below (s₁.setTop (mkF m 0 #[.val (.ref w_REJECTED)] [])) t → Steps p.tables e below (s₁.setTop (entryFrame m #[(.ref w_REJECTED)] 1)) t := fun t k => castTop (ef_re_REJECTED m w_REJECTED) k
  have hE_ := hE; obtain ⟨S_w_INFRASTRUCTURE, E_w_INFRASTRUCTURE, S_w_PERMANENT, E_w_PERMANENT, S_w_TRANSIENT, E_w_TRANSIENT, S_w_QUALITY, E_w_QUALITY, S_w_DEADLINE, E_w_DEADLINE, S_w_STALLED, E_w_STALLED, S_w_REJECTED, E_w_REJECTED, F_ordinal_w_PERMANENT, F_ordinal_w_INFRASTRUCTURE, F_ordinal_w_TRANSIENT, F_ordinal_w_QUALITY, F_ordinal_w_DEADLINE, F_ordinal_w_STALLED, F_ordinal_w_REJECTED⟩ := hE_
  obtain ⟨T1, X1, e1, st1⟩ := getS2 X0 hx hZ hown (host := "") (Or.inl (hw _ (List.mem_of_getElem? (i := 9) rfl))) Via.refl e0 (S_w_INFRASTRUCTURE.ext O0.2) (g := (mkF m 1 #[.val (.ref w_REJECTED)] [(.ref w_REJECTED)])) rfl (hb hby d1_1)
  obtain ⟨T2, X2, e2, st2⟩ := getS2 X1 hx hZ hown (host := "") (Or.inl (hw _ (List.mem_of_getElem? (i := 12) rfl))) Via.refl e1 (S_w_TRANSIENT.ext O0.2) (g := (mkF m 8 #[.val (.ref w_REJECTED)] [(.ref w_REJECTED)])) rfl (hb hby d1_8)
  obtain ⟨T3, X3, e3, st3⟩ := getS2 X2 hx hZ hown (host := "") (Or.inl (hw _ (List.mem_of_getElem? (i := 14) rfl))) Via.refl e2 (S_w_QUALITY.ext O0.2) (g := (mkF m 15 #[.val (.ref w_REJECTED)] [(.ref w_REJECTED)])) rfl (hb hby d1_15)
  obtain ⟨fs, hr, hrun, hended, hW, hsame⟩ := X3.leave (v := some (.int (0 : Int32))) (fun h => by rw [Bd.returns] at h; cases h)
  refine ⟨_, _, pre0 _ ?_, hrun, hended, _, _, rfl, ?_, ⟨_, rfl⟩, hW, hsame.mono (by decide) (by decide)⟩
  · show Steps p.tables e below (s₁.setTop (mkF m 0 #[.val (.ref w_REJECTED)] [])) _
    refine XS.aloadN X0.here hx rfl (hb hby d1_0) rfl rfl ?_
    show Steps p.tables e below (s₁.setTop (mkF m 1 #[.val (.ref w_REJECTED)] [(.ref w_REJECTED)])) _
    refine st1 _ ?_
    show Steps p.tables e below (T1.setTop (mkF m 4 #[.val (.ref w_REJECTED)] [(.ref w_INFRASTRUCTURE), (.ref w_REJECTED)])) _
    refine Jvm.RoadKit.acmp (g := (mkF m 4 #[.val (.ref w_REJECTED)] [(.ref w_INFRASTRUCTURE), (.ref w_REJECTED)])) X1 hx rfl rfl rfl (pc0 := 4) (pc' := 7) (same := false) rfl (hb hby d1_4) rfl (decide_eq_false fun q => (Ne.symm (Fld.ne F_ordinal_w_INFRASTRUCTURE F_ordinal_w_REJECTED (by decide))) (Value.ref.inj q)) (by decide) (by decide) ?_
    show Steps p.tables e below (T1.setTop (mkF m 7 #[.val (.ref w_REJECTED)] [])) _
    refine XS.aloadN X1.here hx rfl (hb hby d1_7) rfl rfl ?_
    show Steps p.tables e below (T1.setTop (mkF m 8 #[.val (.ref w_REJECTED)] [(.ref w_REJECTED)])) _
    refine st2 _ ?_
    show Steps p.tables e below (T2.setTop (mkF m 11 #[.val (.ref w_REJECTED)] [(.ref w_TRANSIENT), (.ref w_REJECTED)])) _
    refine Jvm.RoadKit.acmp (g := (mkF m 11 #[.val (.ref w_REJECTED)] [(.ref w_TRANSIENT), (.ref w_REJECTED)])) X2 hx rfl rfl rfl (pc0 := 11) (pc' := 14) (same := false) rfl (hb hby d1_11) rfl (decide_eq_false fun q => (Ne.symm (Fld.ne F_ordinal_w_TRANSIENT F_ordinal_w_REJECTED (by decide))) (Value.ref.inj q)) (by decide) (by decide) ?_
    show Steps p.tables e below (T2.setTop (mkF m 14 #[.val (.ref w_REJECTED)] [])) _
    refine XS.aloadN X2.here hx rfl (hb hby d1_14) rfl rfl ?_
    show Steps p.tables e below (T2.setTop (mkF m 15 #[.val (.ref w_REJECTED)] [(.ref w_REJECTED)])) _
    refine st3 _ ?_
    show Steps p.tables e below (T3.setTop (mkF m 18 #[.val (.ref w_REJECTED)] [(.ref w_QUALITY), (.ref w_REJECTED)])) _
    refine Jvm.RoadKit.acmp (g := (mkF m 18 #[.val (.ref w_REJECTED)] [(.ref w_QUALITY), (.ref w_REJECTED)])) X3 hx rfl rfl rfl (pc0 := 18) (pc' := 25) (same := false) rfl (hb hby d1_18) rfl (decide_eq_false fun q => (Ne.symm (Fld.ne F_ordinal_w_QUALITY F_ordinal_w_REJECTED (by decide))) (Value.ref.inj q)) (by decide) (by decide) ?_
    show Steps p.tables e below (T3.setTop (mkF m 25 #[.val (.ref w_REJECTED)] [])) _
    refine XS.iconst X3.here hx rfl (hb hby d1_25) ?_
    show Steps p.tables e below (T3.setTop (mkF m 26 #[.val (.ref w_REJECTED)] [(.int (0 : Int32))])) _
    exact retN X3 hx (t := .boolean) Bd.returns (by simp) (hb hby d1_26) hr
  · show Q_re_REJECTED Z w_INFRASTRUCTURE w_PERMANENT w_TRANSIENT w_QUALITY w_DEADLINE w_STALLED w_REJECTED h0 n0 _ T3.heap _
    rw [e3]
    exact ⟨rfl, N0, rfl⟩
theorem ef_re_DEADLINE (m : MethodId) (w_DEADLINE : Addr) : entryFrame m #[(.ref w_DEADLINE)] 1 = mkF m 0 #[.val (.ref w_DEADLINE)] [] := by first | (simp [entryFrame, mkF, argsToLocals, Value.category]; done) | rfl
def Q_re_DEADLINE (Z : State) (w_INFRASTRUCTURE w_PERMANENT w_TRANSIENT w_QUALITY w_DEADLINE w_STALLED w_REJECTED : Addr) (h0 : Heap) (n0 : Nat) (v : Option Value) (h : Heap) (L : List Loc) : Prop := v = some (.int (0 : Int32)) ∧ Fr n0 L ∧ h = h0
set_option maxRecDepth 65536 in
set_option maxHeartbeats 40000000 in
theorem re_DEADLINE (l : Launch) (Z : State) (a0 : Array Value) (hw : ∀ d ∈ tables_1, d.before a0 Z = true) (ws : List Jvm.Cond) (w_INFRASTRUCTURE w_PERMANENT w_TRANSIENT w_QUALITY w_DEADLINE w_STALLED w_REJECTED : Addr) (h0 : Heap) (n0 : Nat) (O0 : Old Z n0 h0) (hE : OwnEnv Z w_INFRASTRUCTURE w_PERMANENT w_TRANSIENT w_QUALITY w_DEADLINE w_STALLED w_REJECTED) :
    MetFree l (⟨"com/example/glacial_workflow/glacialworkflow/core/FailureClass", "isRetried", "()Z"⟩ : MethodName) (head1 (Jvm.Cond.code (⟨"com/example/glacial_workflow/glacialworkflow/core/FailureClass", "isRetried", "()Z"⟩ : MethodName) prog_8_method_4_code 1 (some .boolean) :: ws) ({ frames := 0, cells := 0, slots := 0, locals := 0 } : Room)) (fun a U => a = #[(.ref w_DEADLINE)] ∧ Z.Warmed39 U.vm ∧ U.heap = h0) (fun _ _ _ _ _ => True) (fun _ U o U' => ∃ v L, o = .returned v ∧ Q_re_DEADLINE Z w_INFRASTRUCTURE w_PERMANENT w_TRANSIENT w_QUALITY w_DEADLINE w_STALLED w_REJECTED h0 n0 v U'.heap L ∧ FrameEnd U o U' L ({ frames := 0, cells := 0, slots := 0, locals := 0 } : Room).cells ({ frames := 0, cells := 0, slots := 0, locals := 0 } : Room).slots) := by
  refine MetFree.of_bodySF (plainFor_of_name pn_com_example_glacial_workflow_glacialworkflow_core_FailureClass) hisR ?_
  intro p e s m args below meth c s₁ Bd hml0 hP hK
  obtain ⟨rfl, hZ, hh⟩ := hP
  have hx := Bd.exec
  have hby := Bd.bytes
  have hml : c.maxLocals = 1 := hml0
  have hown : s.vm.findClass "com/example/glacial_workflow/glacialworkflow/core/FailureClass" = some m.cls := findClass_of_methodNamed Bd.named
  have hnm := (name_of_methodNamed Bd.named Bd.method).1
  have X0 : Stand p l e ({ frames := 0, cells := 0, slots := 0, locals := 0 } : Room) s m #[(.ref w_DEADLINE)] below meth c s₁ [] 0 0 := Stand.of_body Bd
  have e0 : s₁.heap = h0 := by rw [← hh, Bd.state]; rfl
  have N0 := Fr.nil n0
  have pre0 : ∀ t, Steps p.tables e below (s₁.setTop (mkF m 0 #[.val (.ref w_DEADLINE)] [])) t → Steps p.tables e below (s₁.setTop (entryFrame m #[(.ref w_DEADLINE)] 1)) t := fun t k => castTop (ef_re_DEADLINE m w_DEADLINE) k
  have hE_ := hE; obtain ⟨S_w_INFRASTRUCTURE, E_w_INFRASTRUCTURE, S_w_PERMANENT, E_w_PERMANENT, S_w_TRANSIENT, E_w_TRANSIENT, S_w_QUALITY, E_w_QUALITY, S_w_DEADLINE, E_w_DEADLINE, S_w_STALLED, E_w_STALLED, S_w_REJECTED, E_w_REJECTED, F_ordinal_w_PERMANENT, F_ordinal_w_INFRASTRUCTURE, F_ordinal_w_TRANSIENT, F_ordinal_w_QUALITY, F_ordinal_w_DEADLINE, F_ordinal_w_STALLED, F_ordinal_w_REJECTED⟩ := hE_
  obtain ⟨T1, X1, e1, st1⟩ := getS2 X0 hx hZ hown (host := "") (Or.inl (hw _ (List.mem_of_getElem? (i := 9) rfl))) Via.refl e0 (S_w_INFRASTRUCTURE.ext O0.2) (g := (mkF m 1 #[.val (.ref w_DEADLINE)] [(.ref w_DEADLINE)])) rfl (hb hby d1_1)
  obtain ⟨T2, X2, e2, st2⟩ := getS2 X1 hx hZ hown (host := "") (Or.inl (hw _ (List.mem_of_getElem? (i := 12) rfl))) Via.refl e1 (S_w_TRANSIENT.ext O0.2) (g := (mkF m 8 #[.val (.ref w_DEADLINE)] [(.ref w_DEADLINE)])) rfl (hb hby d1_8)
  obtain ⟨T3, X3, e3, st3⟩ := getS2 X2 hx hZ hown (host := "") (Or.inl (hw _ (List.mem_of_getElem? (i := 14) rfl))) Via.refl e2 (S_w_QUALITY.ext O0.2) (g := (mkF m 15 #[.val (.ref w_DEADLINE)] [(.ref w_DEADLINE)])) rfl (hb hby d1_15)
  obtain ⟨fs, hr, hrun, hended, hW, hsame⟩ := X3.leave (v := some (.int (0 : Int32))) (fun h => by rw [Bd.returns] at h; cases h)
  refine ⟨_, _, pre0 _ ?_, hrun, hended, _, _, rfl, ?_, ⟨_, rfl⟩, hW, hsame.mono (by decide) (by decide)⟩
  · show Steps p.tables e below (s₁.setTop (mkF m 0 #[.val (.ref w_DEADLINE)] [])) _
    refine XS.aloadN X0.here hx rfl (hb hby d1_0) rfl rfl ?_
    show Steps p.tables e below (s₁.setTop (mkF m 1 #[.val (.ref w_DEADLINE)] [(.ref w_DEADLINE)])) _
    refine st1 _ ?_
    show Steps p.tables e below (T1.setTop (mkF m 4 #[.val (.ref w_DEADLINE)] [(.ref w_INFRASTRUCTURE), (.ref w_DEADLINE)])) _
    refine Jvm.RoadKit.acmp (g := (mkF m 4 #[.val (.ref w_DEADLINE)] [(.ref w_INFRASTRUCTURE), (.ref w_DEADLINE)])) X1 hx rfl rfl rfl (pc0 := 4) (pc' := 7) (same := false) rfl (hb hby d1_4) rfl (decide_eq_false fun q => (Ne.symm (Fld.ne F_ordinal_w_INFRASTRUCTURE F_ordinal_w_DEADLINE (by decide))) (Value.ref.inj q)) (by decide) (by decide) ?_
    show Steps p.tables e below (T1.setTop (mkF m 7 #[.val (.ref w_DEADLINE)] [])) _
    refine XS.aloadN X1.here hx rfl (hb hby d1_7) rfl rfl ?_
    show Steps p.tables e below (T1.setTop (mkF m 8 #[.val (.ref w_DEADLINE)] [(.ref w_DEADLINE)])) _
    refine st2 _ ?_
    show Steps p.tables e below (T2.setTop (mkF m 11 #[.val (.ref w_DEADLINE)] [(.ref w_TRANSIENT), (.ref w_DEADLINE)])) _
    refine Jvm.RoadKit.acmp (g := (mkF m 11 #[.val (.ref w_DEADLINE)] [(.ref w_TRANSIENT), (.ref w_DEADLINE)])) X2 hx rfl rfl rfl (pc0 := 11) (pc' := 14) (same := false) rfl (hb hby d1_11) rfl (decide_eq_false fun q => (Ne.symm (Fld.ne F_ordinal_w_TRANSIENT F_ordinal_w_DEADLINE (by decide))) (Value.ref.inj q)) (by decide) (by decide) ?_
    show Steps p.tables e below (T2.setTop (mkF m 14 #[.val (.ref w_DEADLINE)] [])) _
    refine XS.aloadN X2.here hx rfl (hb hby d1_14) rfl rfl ?_
    show Steps p.tables e below (T2.setTop (mkF m 15 #[.val (.ref w_DEADLINE)] [(.ref w_DEADLINE)])) _
    refine st3 _ ?_
    show Steps p.tables e below (T3.setTop (mkF m 18 #[.val (.ref w_DEADLINE)] [(.ref w_QUALITY), (.ref w_DEADLINE)])) _
    refine Jvm.RoadKit.acmp (g := (mkF m 18 #[.val (.ref w_DEADLINE)] [(.ref w_QUALITY), (.ref w_DEADLINE)])) X3 hx rfl rfl rfl (pc0 := 18) (pc' := 25) (same := false) rfl (hb hby d1_18) rfl (decide_eq_false fun q => (Ne.symm (Fld.ne F_ordinal_w_QUALITY F_ordinal_w_DEADLINE (by decide))) (Value.ref.inj q)) (by decide) (by decide) ?_
    show Steps p.tables e below (T3.setTop (mkF m 25 #[.val (.ref w_DEADLINE)] [])) _
    refine XS.iconst X3.here hx rfl (hb hby d1_25) ?_
    show Steps p.tables e below (T3.setTop (mkF m 26 #[.val (.ref w_DEADLINE)] [(.int (0 : Int32))])) _
    exact retN X3 hx (t := .boolean) Bd.returns (by simp) (hb hby d1_26) hr
  · show Q_re_DEADLINE Z w_INFRASTRUCTURE w_PERMANENT w_TRANSIENT w_QUALITY w_DEADLINE w_STALLED w_REJECTED h0 n0 _ T3.heap _
    rw [e3]
    exact ⟨rfl, N0, rfl⟩
theorem ef_re_STALLED (m : MethodId) (w_STALLED : Addr) : entryFrame m #[(.ref w_STALLED)] 1 = mkF m 0 #[.val (.ref w_STALLED)] [] := by first | (simp [entryFrame, mkF, argsToLocals, Value.category]; done) | rfl
def Q_re_STALLED (Z : State) (w_INFRASTRUCTURE w_PERMANENT w_TRANSIENT w_QUALITY w_DEADLINE w_STALLED w_REJECTED : Addr) (h0 : Heap) (n0 : Nat) (v : Option Value) (h : Heap) (L : List Loc) : Prop := v = some (.int (0 : Int32)) ∧ Fr n0 L ∧ h = h0
set_option maxRecDepth 65536 in
set_option maxHeartbeats 40000000 in
theorem re_STALLED (l : Launch) (Z : State) (a0 : Array Value) (hw : ∀ d ∈ tables_1, d.before a0 Z = true) (ws : List Jvm.Cond) (w_INFRASTRUCTURE w_PERMANENT w_TRANSIENT w_QUALITY w_DEADLINE w_STALLED w_REJECTED : Addr) (h0 : Heap) (n0 : Nat) (O0 : Old Z n0 h0) (hE : OwnEnv Z w_INFRASTRUCTURE w_PERMANENT w_TRANSIENT w_QUALITY w_DEADLINE w_STALLED w_REJECTED) :
    MetFree l (⟨"com/example/glacial_workflow/glacialworkflow/core/FailureClass", "isRetried", "()Z"⟩ : MethodName) (head1 (Jvm.Cond.code (⟨"com/example/glacial_workflow/glacialworkflow/core/FailureClass", "isRetried", "()Z"⟩ : MethodName) prog_8_method_4_code 1 (some .boolean) :: ws) ({ frames := 0, cells := 0, slots := 0, locals := 0 } : Room)) (fun a U => a = #[(.ref w_STALLED)] ∧ Z.Warmed39 U.vm ∧ U.heap = h0) (fun _ _ _ _ _ => True) (fun _ U o U' => ∃ v L, o = .returned v ∧ Q_re_STALLED Z w_INFRASTRUCTURE w_PERMANENT w_TRANSIENT w_QUALITY w_DEADLINE w_STALLED w_REJECTED h0 n0 v U'.heap L ∧ FrameEnd U o U' L ({ frames := 0, cells := 0, slots := 0, locals := 0 } : Room).cells ({ frames := 0, cells := 0, slots := 0, locals := 0 } : Room).slots) := by
  refine MetFree.of_bodySF (plainFor_of_name pn_com_example_glacial_workflow_glacialworkflow_core_FailureClass) hisR ?_
  intro p e s m args below meth c s₁ Bd hml0 hP hK
  obtain ⟨rfl, hZ, hh⟩ := hP
  have hx := Bd.exec
  have hby := Bd.bytes
  have hml : c.maxLocals = 1 := hml0
  have hown : s.vm.findClass "com/example/glacial_workflow/glacialworkflow/core/FailureClass" = some m.cls := findClass_of_methodNamed Bd.named
  have hnm := (name_of_methodNamed Bd.named Bd.method).1
  have X0 : Stand p l e ({ frames := 0, cells := 0, slots := 0, locals := 0 } : Room) s m #[(.ref w_STALLED)] below meth c s₁ [] 0 0 := Stand.of_body Bd
  have e0 : s₁.heap = h0 := by rw [← hh, Bd.state]; rfl
  have N0 := Fr.nil n0
  have pre0 : ∀ t, Steps p.tables e below (s₁.setTop (mkF m 0 #[.val (.ref w_STALLED)] [])) t → Steps p.tables e below (s₁.setTop (entryFrame m #[(.ref w_STALLED)] 1)) t := fun t k => castTop (ef_re_STALLED m w_STALLED) k
  have hE_ := hE; obtain ⟨S_w_INFRASTRUCTURE, E_w_INFRASTRUCTURE, S_w_PERMANENT, E_w_PERMANENT, S_w_TRANSIENT, E_w_TRANSIENT, S_w_QUALITY, E_w_QUALITY, S_w_DEADLINE, E_w_DEADLINE, S_w_STALLED, E_w_STALLED, S_w_REJECTED, E_w_REJECTED, F_ordinal_w_PERMANENT, F_ordinal_w_INFRASTRUCTURE, F_ordinal_w_TRANSIENT, F_ordinal_w_QUALITY, F_ordinal_w_DEADLINE, F_ordinal_w_STALLED, F_ordinal_w_REJECTED⟩ := hE_
  obtain ⟨T1, X1, e1, st1⟩ := getS2 X0 hx hZ hown (host := "") (Or.inl (hw _ (List.mem_of_getElem? (i := 9) rfl))) Via.refl e0 (S_w_INFRASTRUCTURE.ext O0.2) (g := (mkF m 1 #[.val (.ref w_STALLED)] [(.ref w_STALLED)])) rfl (hb hby d1_1)
  obtain ⟨T2, X2, e2, st2⟩ := getS2 X1 hx hZ hown (host := "") (Or.inl (hw _ (List.mem_of_getElem? (i := 12) rfl))) Via.refl e1 (S_w_TRANSIENT.ext O0.2) (g := (mkF m 8 #[.val (.ref w_STALLED)] [(.ref w_STALLED)])) rfl (hb hby d1_8)
  obtain ⟨T3, X3, e3, st3⟩ := getS2 X2 hx hZ hown (host := "") (Or.inl (hw _ (List.mem_of_getElem? (i := 14) rfl))) Via.refl e2 (S_w_QUALITY.ext O0.2) (g := (mkF m 15 #[.val (.ref w_STALLED)] [(.ref w_STALLED)])) rfl (hb hby d1_15)
  obtain ⟨fs, hr, hrun, hended, hW, hsame⟩ := X3.leave (v := some (.int (0 : Int32))) (fun h => by rw [Bd.returns] at h; cases h)
  refine ⟨_, _, pre0 _ ?_, hrun, hended, _, _, rfl, ?_, ⟨_, rfl⟩, hW, hsame.mono (by decide) (by decide)⟩
  · show Steps p.tables e below (s₁.setTop (mkF m 0 #[.val (.ref w_STALLED)] [])) _
    refine XS.aloadN X0.here hx rfl (hb hby d1_0) rfl rfl ?_
    show Steps p.tables e below (s₁.setTop (mkF m 1 #[.val (.ref w_STALLED)] [(.ref w_STALLED)])) _
    refine st1 _ ?_
    show Steps p.tables e below (T1.setTop (mkF m 4 #[.val (.ref w_STALLED)] [(.ref w_INFRASTRUCTURE), (.ref w_STALLED)])) _
    refine Jvm.RoadKit.acmp (g := (mkF m 4 #[.val (.ref w_STALLED)] [(.ref w_INFRASTRUCTURE), (.ref w_STALLED)])) X1 hx rfl rfl rfl (pc0 := 4) (pc' := 7) (same := false) rfl (hb hby d1_4) rfl (decide_eq_false fun q => (Ne.symm (Fld.ne F_ordinal_w_INFRASTRUCTURE F_ordinal_w_STALLED (by decide))) (Value.ref.inj q)) (by decide) (by decide) ?_
    show Steps p.tables e below (T1.setTop (mkF m 7 #[.val (.ref w_STALLED)] [])) _
    refine XS.aloadN X1.here hx rfl (hb hby d1_7) rfl rfl ?_
    show Steps p.tables e below (T1.setTop (mkF m 8 #[.val (.ref w_STALLED)] [(.ref w_STALLED)])) _
    refine st2 _ ?_
    show Steps p.tables e below (T2.setTop (mkF m 11 #[.val (.ref w_STALLED)] [(.ref w_TRANSIENT), (.ref w_STALLED)])) _
    refine Jvm.RoadKit.acmp (g := (mkF m 11 #[.val (.ref w_STALLED)] [(.ref w_TRANSIENT), (.ref w_STALLED)])) X2 hx rfl rfl rfl (pc0 := 11) (pc' := 14) (same := false) rfl (hb hby d1_11) rfl (decide_eq_false fun q => (Ne.symm (Fld.ne F_ordinal_w_TRANSIENT F_ordinal_w_STALLED (by decide))) (Value.ref.inj q)) (by decide) (by decide) ?_
    show Steps p.tables e below (T2.setTop (mkF m 14 #[.val (.ref w_STALLED)] [])) _
    refine XS.aloadN X2.here hx rfl (hb hby d1_14) rfl rfl ?_
    show Steps p.tables e below (T2.setTop (mkF m 15 #[.val (.ref w_STALLED)] [(.ref w_STALLED)])) _
    refine st3 _ ?_
    show Steps p.tables e below (T3.setTop (mkF m 18 #[.val (.ref w_STALLED)] [(.ref w_QUALITY), (.ref w_STALLED)])) _
    refine Jvm.RoadKit.acmp (g := (mkF m 18 #[.val (.ref w_STALLED)] [(.ref w_QUALITY), (.ref w_STALLED)])) X3 hx rfl rfl rfl (pc0 := 18) (pc' := 25) (same := false) rfl (hb hby d1_18) rfl (decide_eq_false fun q => (Ne.symm (Fld.ne F_ordinal_w_QUALITY F_ordinal_w_STALLED (by decide))) (Value.ref.inj q)) (by decide) (by decide) ?_
    show Steps p.tables e below (T3.setTop (mkF m 25 #[.val (.ref w_STALLED)] [])) _
    refine XS.iconst X3.here hx rfl (hb hby d1_25) ?_
    show Steps p.tables e below (T3.setTop (mkF m 26 #[.val (.ref w_STALLED)] [(.int (0 : Int32))])) _
    exact retN X3 hx (t := .boolean) Bd.returns (by simp) (hb hby d1_26) hr
  · show Q_re_STALLED Z w_INFRASTRUCTURE w_PERMANENT w_TRANSIENT w_QUALITY w_DEADLINE w_STALLED w_REJECTED h0 n0 _ T3.heap _
    rw [e3]
    exact ⟨rfl, N0, rfl⟩
theorem ef_rm0 (m : MethodId) (p1 : Int32) : entryFrame m #[(.int p1)] maxLocals = mkF m 0 #[.val (.int p1), .unset, .unset, .unset] [] := by first | (simp [entryFrame, mkF, argsToLocals, Value.category, maxLocals]; done) | rfl
def Q_rm0 (Z : State) (p1 : Int32) (w_INFRASTRUCTURE w_PERMANENT w_TRANSIENT w_QUALITY w_DEADLINE w_STALLED w_REJECTED : Addr) (h0 : Heap) (n0 : Nat) (v : Option Value) (h : Heap) (L : List Loc) : Prop := v = some (.int (1 : Int32)) ∧ Fr n0 L
set_option maxRecDepth 65536 in
set_option maxHeartbeats 40000000 in
theorem rm0 (l : Launch) (Z : State) (a0 : Array Value) (hw : ∀ d ∈ tables_1, d.before a0 Z = true) (ws : List Jvm.Cond) (p1 : Int32) (w_INFRASTRUCTURE w_PERMANENT w_TRANSIENT w_QUALITY w_DEADLINE w_STALLED w_REJECTED : Addr) (h0 : Heap) (n0 : Nat) (O0 : Old Z n0 h0) (hE : OwnEnv Z w_INFRASTRUCTURE w_PERMANENT w_TRANSIENT w_QUALITY w_DEADLINE w_STALLED w_REJECTED) :
    MetFree l x (head1 (Jvm.Cond.code x code maxLocals ret :: ws) room_1) (fun a U => a = #[(.int p1)] ∧ Z.Warmed39 U.vm ∧ U.heap = h0) (fun _ _ _ _ _ => True) (fun _ U o U' => ∃ v L, o = .returned v ∧ Q_rm0 Z p1 w_INFRASTRUCTURE w_PERMANENT w_TRANSIENT w_QUALITY w_DEADLINE w_STALLED w_REJECTED h0 n0 v U'.heap L ∧ FrameEnd U o U' L room_1.cells room_1.slots) := by
  refine MetFree.of_bodySF (plainFor_of_name pn_com_example_glacial_workflow_glacialworkflow_core_FailureClassIsRetriedPinLaw) hisR ?_
  intro p e s m args below meth c s₁ Bd hml0 hP hK
  obtain ⟨rfl, hZ, hh⟩ := hP
  have hx := Bd.exec
  have hby := Bd.bytes
  have hml : c.maxLocals = 4 := hml0
  have hown : s.vm.findClass "com/example/glacial_workflow/glacialworkflow/core/FailureClassIsRetriedPinLaw" = some m.cls := findClass_of_methodNamed Bd.named
  have hnm := (name_of_methodNamed Bd.named Bd.method).1
  have X0 : Stand p l e room_1 s m #[(.int p1)] below meth c s₁ [] 0 0 := Stand.of_body Bd
  have e0 : s₁.heap = h0 := by rw [← hh, Bd.state]; rfl
  have N0 := Fr.nil n0
  have pre0 : ∀ t, Steps p.tables e below (s₁.setTop (mkF m 0 #[.val (.int p1), .unset, .unset, .unset] [])) t → Steps p.tables e below (s₁.setTop (entryFrame m #[(.int p1)] maxLocals)) t := fun t k => castTop (ef_rm0 m p1) k
  have hE_ := hE; obtain ⟨S_w_INFRASTRUCTURE, E_w_INFRASTRUCTURE, S_w_PERMANENT, E_w_PERMANENT, S_w_TRANSIENT, E_w_TRANSIENT, S_w_QUALITY, E_w_QUALITY, S_w_DEADLINE, E_w_DEADLINE, S_w_STALLED, E_w_STALLED, S_w_REJECTED, E_w_REJECTED, F_ordinal_w_PERMANENT, F_ordinal_w_INFRASTRUCTURE, F_ordinal_w_TRANSIENT, F_ordinal_w_QUALITY, F_ordinal_w_DEADLINE, F_ordinal_w_STALLED, F_ordinal_w_REJECTED⟩ := hE_
  have pre1 : ∀ t, Steps p.tables e below (s₁.setTop (mkF m 8 #[.val (.int p1), .val (.int ((p1 &&& (2147483647 : Int32)) % (7 : Int32))), .unset, .unset] [])) t → Steps p.tables e below (s₁.setTop (entryFrame m #[(.int p1)] maxLocals)) t := by
    intro t kt
    refine pre0 _ ?_
    show Steps p.tables e below (s₁.setTop (mkF m 0 #[.val (.int p1), .unset, .unset, .unset] [])) _
    refine XS.iloadN X0.here hx rfl (hb hby at_0) rfl ?_
    show Steps p.tables e below (s₁.setTop (mkF m 1 #[.val (.int p1), .unset, .unset, .unset] [(.int p1)])) _
    refine X0.ldcInt hx hown (mvT hZ (hw _ (List.mem_of_getElem? (i := 0) rfl))) (g := (mkF m 1 #[.val (.int p1), .unset, .unset, .unset] [(.int p1)])) rfl (hb hby at_1) _ ?_
    show Steps p.tables e below (s₁.setTop (mkF m 3 #[.val (.int p1), .unset, .unset, .unset] [(.int (2147483647 : Int32)), (.int p1)])) _
    refine XS.iand X0.here hx rfl (hb hby at_3) rfl ?_
    show Steps p.tables e below (s₁.setTop (mkF m 4 #[.val (.int p1), .unset, .unset, .unset] [(.int (p1 &&& (2147483647 : Int32)))])) _
    refine XS.bipush X0.here hx rfl (hb hby at_4) ?_
    show Steps p.tables e below (s₁.setTop (mkF m 6 #[.val (.int p1), .unset, .unset, .unset] [(.int (7 : Int32)), (.int (p1 &&& (2147483647 : Int32)))])) _
    refine iremM X0 hx (g := (mkF m 6 #[.val (.int p1), .unset, .unset, .unset] [(.int (7 : Int32)), (.int (p1 &&& (2147483647 : Int32)))])) rfl (hb hby at_6) rfl (by decide) ?_
    show Steps p.tables e below (s₁.setTop (mkF m 7 #[.val (.int p1), .unset, .unset, .unset] [(.int ((p1 &&& (2147483647 : Int32)) % (7 : Int32)))])) _
    refine XS.istoreN X0.here hx rfl (hb hby at_7) rfl (l' := #[.val (.int p1), .val (.int ((p1 &&& (2147483647 : Int32)) % (7 : Int32))), .unset, .unset]) rfl ?_
    exact kt
  rcases own_k p1 with hv2 | hv2 | hv2 | hv2 | hv2 | hv2 | hv2
  · rw [hv2] at pre1
    obtain ⟨T3, X3, e3, st3⟩ := getS2 X0 hx hZ hown (host := "") (Or.inl (hw _ (List.mem_of_getElem? (i := 1) rfl))) Via.refl e0 (S_w_INFRASTRUCTURE.ext O0.2) (g := (mkF m 12 #[.val (.int p1), .val (.int (0 : Int32)), .unset, .unset] [])) rfl (hb hby at_12)
    obtain ⟨cq4, kq4, q4a, q4b, q4c⟩ := isOf hZ e3 (E_w_INFRASTRUCTURE.ext O0.2)
    obtain ⟨_, _, ⟨T4, L4, k4, n4⟩, -, X4, ⟨Lc4, hQ4, l4, y4, z4⟩, st4⟩ := X3.virtualBack hx (y := (⟨"com/example/glacial_workflow/glacialworkflow/core/FailureClass", "isRetried", "()Z"⟩ : MethodName)) (z := (⟨"com/example/glacial_workflow/glacialworkflow/core/FailureClass", "isRetried", "()Z"⟩ : MethodName)) hown (mvT hZ (hw _ (List.mem_of_getElem? (i := 4) rfl))) (mvT hZ (hw _ (List.mem_of_getElem? (i := 5) rfl))) (notFace_of_selects (args := #[]) (mvT hZ (hw _ (List.mem_of_getElem? (i := 7) rfl)))) (mvT hZ (hw _ (List.mem_of_getElem? (i := 7) rfl))) (mvT hZ (hw _ (List.mem_of_getElem? (i := 6) rfl))) (by decide) (backOf (W := 0) (re_INFRASTRUCTURE l Z a0 hw [] w_INFRASTRUCTURE w_PERMANENT w_TRANSIENT w_QUALITY w_DEADLINE w_STALLED w_REJECTED h0 n0 O0 hE) hZ (hw _ (List.mem_of_getElem? (i := 8) rfl)) (hw _ (List.mem_of_getElem? (i := 2) rfl)) (by decide) (by decide)) q4a q4c (g := (mkF m 98 #[.val (.int p1), .val (.int (0 : Int32)), .val (.ref w_INFRASTRUCTURE), .val (.int (1 : Int32))] [(.ref w_INFRASTRUCTURE)])) rfl (by rw [hml]; rfl) (Steps.refl _) (argsL := []) (rest := []) (lenOf pd___Z rfl) rfl (by show 2 * 0 + _ ≤ _; exact Nat.le_of_eq rfl) (hb hby at_98) (fun _ _ => ⟨rfl, e3, (by decide : 0 + 0 ≤ _), (by decide : 0 + 0 ≤ _)⟩)
    dsimp only [Pt.U, Pt.locs, Pt.cells, Pt.slots] at X4 l4 y4 z4 st4 hQ4
    subst l4 y4 z4
    obtain ⟨rfl, Nq4, eq4⟩ := hQ4
    have N4 := Fr.app N0 Nq4
    obtain ⟨fs, hr, hrun, hended, hW, hsame⟩ := X4.leave (v := some (.int (1 : Int32))) (fun h => by rw [Bd.returns] at h; cases h)
    refine ⟨_, _, pre1 _ ?_, hrun, hended, _, _, rfl, ?_, ⟨_, rfl⟩, hW, hsame.mono (by decide) (by decide)⟩
    · show Steps p.tables e below (s₁.setTop (mkF m 8 #[.val (.int p1), .val (.int (0 : Int32)), .unset, .unset] [])) _
      refine XS.iloadN X0.here hx rfl (hb hby at_8) rfl ?_
      show Steps p.tables e below (s₁.setTop (mkF m 9 #[.val (.int p1), .val (.int (0 : Int32)), .unset, .unset] [(.int (0 : Int32))])) _
      refine XS.ifNo X0.here hx rfl (hb hby at_9) rfl ((if0 _ _).trans (teq (by decide : (0 : Int32) = (0 : Int32))).2) ?_
      show Steps p.tables e below (s₁.setTop (mkF m 12 #[.val (.int p1), .val (.int (0 : Int32)), .unset, .unset] [])) _
      refine st3 _ ?_
      show Steps p.tables e below (T3.setTop (mkF m 15 #[.val (.int p1), .val (.int (0 : Int32)), .unset, .unset] [(.ref w_INFRASTRUCTURE)])) _
      refine XS.astoreN X3.here hx rfl (hb hby at_15) rfl rfl (l' := #[.val (.int p1), .val (.int (0 : Int32)), .val (.ref w_INFRASTRUCTURE), .unset]) rfl ?_
      show Steps p.tables e below (T3.setTop (mkF m 16 #[.val (.int p1), .val (.int (0 : Int32)), .val (.ref w_INFRASTRUCTURE), .unset] [])) _
      refine XS.iconst X3.here hx rfl (hb hby at_16) ?_
      show Steps p.tables e below (T3.setTop (mkF m 17 #[.val (.int p1), .val (.int (0 : Int32)), .val (.ref w_INFRASTRUCTURE), .unset] [(.int (1 : Int32))])) _
      refine XS.istoreN X3.here hx rfl (hb hby at_17) rfl (l' := #[.val (.int p1), .val (.int (0 : Int32)), .val (.ref w_INFRASTRUCTURE), .val (.int (1 : Int32))]) rfl ?_
      show Steps p.tables e below (T3.setTop (mkF m 18 #[.val (.int p1), .val (.int (0 : Int32)), .val (.ref w_INFRASTRUCTURE), .val (.int (1 : Int32))] [])) _
      refine XS.goto X3.here hx rfl (pc0 := 18) (pc' := 97) rfl (hb hby at_18) (by decide) (by decide) ?_
      show Steps p.tables e below (T3.setTop (mkF m 97 #[.val (.int p1), .val (.int (0 : Int32)), .val (.ref w_INFRASTRUCTURE), .val (.int (1 : Int32))] [])) _
      refine XS.aloadN X3.here hx rfl (hb hby at_97) rfl rfl ?_
      show Steps p.tables e below (T3.setTop (mkF m 98 #[.val (.int p1), .val (.int (0 : Int32)), .val (.ref w_INFRASTRUCTURE), .val (.int (1 : Int32))] [(.ref w_INFRASTRUCTURE)])) _
      refine st4.trans ?_
      show Steps p.tables e below (T4.setTop (mkF m 101 #[.val (.int p1), .val (.int (0 : Int32)), .val (.ref w_INFRASTRUCTURE), .val (.int (1 : Int32))] [(.int (1 : Int32))])) _
      refine XS.iloadN X4.here hx rfl (hb hby at_101) rfl ?_
      show Steps p.tables e below (T4.setTop (mkF m 102 #[.val (.int p1), .val (.int (0 : Int32)), .val (.ref w_INFRASTRUCTURE), .val (.int (1 : Int32))] [(.int (1 : Int32)), (.int (1 : Int32))])) _
      refine XS.icmpNo X4.here hx rfl (hb hby at_102) rfl (teq (by decide : (1 : Int32) = (1 : Int32))).2 ?_
      show Steps p.tables e below (T4.setTop (mkF m 105 #[.val (.int p1), .val (.int (0 : Int32)), .val (.ref w_INFRASTRUCTURE), .val (.int (1 : Int32))] [])) _
      refine XS.iconst X4.here hx rfl (hb hby at_105) ?_
      show Steps p.tables e below (T4.setTop (mkF m 106 #[.val (.int p1), .val (.int (0 : Int32)), .val (.ref w_INFRASTRUCTURE), .val (.int (1 : Int32))] [(.int (1 : Int32))])) _
      refine XS.goto X4.here hx rfl (pc0 := 106) (pc' := 110) rfl (hb hby at_106) (by decide) (by decide) ?_
      show Steps p.tables e below (T4.setTop (mkF m 110 #[.val (.int p1), .val (.int (0 : Int32)), .val (.ref w_INFRASTRUCTURE), .val (.int (1 : Int32))] [(.int (1 : Int32))])) _
      exact retN X4 hx (t := .boolean) Bd.returns (by simp) (hb hby at_110) hr
    · show Q_rm0 Z p1 w_INFRASTRUCTURE w_PERMANENT w_TRANSIENT w_QUALITY w_DEADLINE w_STALLED w_REJECTED h0 n0 _ T4.heap _
      rw [eq4]
      exact ⟨rfl, N4⟩
  · rw [hv2] at pre1
    obtain ⟨T5, X5, e5, st5⟩ := getS2 X0 hx hZ hown (host := "") (Or.inl (hw _ (List.mem_of_getElem? (i := 23) rfl))) Via.refl e0 (S_w_TRANSIENT.ext O0.2) (g := (mkF m 26 #[.val (.int p1), .val (.int (1 : Int32)), .unset, .unset] [])) rfl (hb hby at_26)
    obtain ⟨cq6, kq6, q6a, q6b, q6c⟩ := isOf hZ e5 (E_w_TRANSIENT.ext O0.2)
    obtain ⟨_, _, ⟨T6, L6, k6, n6⟩, -, X6, ⟨Lc6, hQ6, l6, y6, z6⟩, st6⟩ := X5.virtualBack hx (y := (⟨"com/example/glacial_workflow/glacialworkflow/core/FailureClass", "isRetried", "()Z"⟩ : MethodName)) (z := (⟨"com/example/glacial_workflow/glacialworkflow/core/FailureClass", "isRetried", "()Z"⟩ : MethodName)) hown (mvT hZ (hw _ (List.mem_of_getElem? (i := 4) rfl))) (mvT hZ (hw _ (List.mem_of_getElem? (i := 5) rfl))) (notFace_of_selects (args := #[]) (mvT hZ (hw _ (List.mem_of_getElem? (i := 7) rfl)))) (mvT hZ (hw _ (List.mem_of_getElem? (i := 7) rfl))) (mvT hZ (hw _ (List.mem_of_getElem? (i := 6) rfl))) (by decide) (backOf (W := 0) (re_TRANSIENT l Z a0 hw [] w_INFRASTRUCTURE w_PERMANENT w_TRANSIENT w_QUALITY w_DEADLINE w_STALLED w_REJECTED h0 n0 O0 hE) hZ (hw _ (List.mem_of_getElem? (i := 8) rfl)) (hw _ (List.mem_of_getElem? (i := 2) rfl)) (by decide) (by decide)) q6a q6c (g := (mkF m 98 #[.val (.int p1), .val (.int (1 : Int32)), .val (.ref w_TRANSIENT), .val (.int (1 : Int32))] [(.ref w_TRANSIENT)])) rfl (by rw [hml]; rfl) (Steps.refl _) (argsL := []) (rest := []) (lenOf pd___Z rfl) rfl (by show 2 * 0 + _ ≤ _; exact Nat.le_of_eq rfl) (hb hby at_98) (fun _ _ => ⟨rfl, e5, (by decide : 0 + 0 ≤ _), (by decide : 0 + 0 ≤ _)⟩)
    dsimp only [Pt.U, Pt.locs, Pt.cells, Pt.slots] at X6 l6 y6 z6 st6 hQ6
    subst l6 y6 z6
    obtain ⟨rfl, Nq6, eq6⟩ := hQ6
    have N6 := Fr.app N0 Nq6
    obtain ⟨fs, hr, hrun, hended, hW, hsame⟩ := X6.leave (v := some (.int (1 : Int32))) (fun h => by rw [Bd.returns] at h; cases h)
    refine ⟨_, _, pre1 _ ?_, hrun, hended, _, _, rfl, ?_, ⟨_, rfl⟩, hW, hsame.mono (by decide) (by decide)⟩
    · show Steps p.tables e below (s₁.setTop (mkF m 8 #[.val (.int p1), .val (.int (1 : Int32)), .unset, .unset] [])) _
      refine XS.iloadN X0.here hx rfl (hb hby at_8) rfl ?_
      show Steps p.tables e below (s₁.setTop (mkF m 9 #[.val (.int p1), .val (.int (1 : Int32)), .unset, .unset] [(.int (1 : Int32))])) _
      refine XS.ifYes X0.here hx rfl (pc0 := 9) (pc' := 21) rfl (hb hby at_9) rfl ((if0 _ _).trans (feq (by decide : ¬ ((1 : Int32) = (0 : Int32)))).2) (by decide) (by decide) ?_
      show Steps p.tables e below (s₁.setTop (mkF m 21 #[.val (.int p1), .val (.int (1 : Int32)), .unset, .unset] [])) _
      refine XS.iloadN X0.here hx rfl (hb hby at_21) rfl ?_
      show Steps p.tables e below (s₁.setTop (mkF m 22 #[.val (.int p1), .val (.int (1 : Int32)), .unset, .unset] [(.int (1 : Int32))])) _
      refine XS.iconst X0.here hx rfl (hb hby at_22) ?_
      show Steps p.tables e below (s₁.setTop (mkF m 23 #[.val (.int p1), .val (.int (1 : Int32)), .unset, .unset] [(.int (1 : Int32)), (.int (1 : Int32))])) _
      refine XS.icmpNo X0.here hx rfl (hb hby at_23) rfl (teq (by decide : (1 : Int32) = (1 : Int32))).2 ?_
      show Steps p.tables e below (s₁.setTop (mkF m 26 #[.val (.int p1), .val (.int (1 : Int32)), .unset, .unset] [])) _
      refine st5 _ ?_
      show Steps p.tables e below (T5.setTop (mkF m 29 #[.val (.int p1), .val (.int (1 : Int32)), .unset, .unset] [(.ref w_TRANSIENT)])) _
      refine XS.astoreN X5.here hx rfl (hb hby at_29) rfl rfl (l' := #[.val (.int p1), .val (.int (1 : Int32)), .val (.ref w_TRANSIENT), .unset]) rfl ?_
      show Steps p.tables e below (T5.setTop (mkF m 30 #[.val (.int p1), .val (.int (1 : Int32)), .val (.ref w_TRANSIENT), .unset] [])) _
      refine XS.iconst X5.here hx rfl (hb hby at_30) ?_
      show Steps p.tables e below (T5.setTop (mkF m 31 #[.val (.int p1), .val (.int (1 : Int32)), .val (.ref w_TRANSIENT), .unset] [(.int (1 : Int32))])) _
      refine XS.istoreN X5.here hx rfl (hb hby at_31) rfl (l' := #[.val (.int p1), .val (.int (1 : Int32)), .val (.ref w_TRANSIENT), .val (.int (1 : Int32))]) rfl ?_
      show Steps p.tables e below (T5.setTop (mkF m 32 #[.val (.int p1), .val (.int (1 : Int32)), .val (.ref w_TRANSIENT), .val (.int (1 : Int32))] [])) _
      refine XS.goto X5.here hx rfl (pc0 := 32) (pc' := 97) rfl (hb hby at_32) (by decide) (by decide) ?_
      show Steps p.tables e below (T5.setTop (mkF m 97 #[.val (.int p1), .val (.int (1 : Int32)), .val (.ref w_TRANSIENT), .val (.int (1 : Int32))] [])) _
      refine XS.aloadN X5.here hx rfl (hb hby at_97) rfl rfl ?_
      show Steps p.tables e below (T5.setTop (mkF m 98 #[.val (.int p1), .val (.int (1 : Int32)), .val (.ref w_TRANSIENT), .val (.int (1 : Int32))] [(.ref w_TRANSIENT)])) _
      refine st6.trans ?_
      show Steps p.tables e below (T6.setTop (mkF m 101 #[.val (.int p1), .val (.int (1 : Int32)), .val (.ref w_TRANSIENT), .val (.int (1 : Int32))] [(.int (1 : Int32))])) _
      refine XS.iloadN X6.here hx rfl (hb hby at_101) rfl ?_
      show Steps p.tables e below (T6.setTop (mkF m 102 #[.val (.int p1), .val (.int (1 : Int32)), .val (.ref w_TRANSIENT), .val (.int (1 : Int32))] [(.int (1 : Int32)), (.int (1 : Int32))])) _
      refine XS.icmpNo X6.here hx rfl (hb hby at_102) rfl (teq (by decide : (1 : Int32) = (1 : Int32))).2 ?_
      show Steps p.tables e below (T6.setTop (mkF m 105 #[.val (.int p1), .val (.int (1 : Int32)), .val (.ref w_TRANSIENT), .val (.int (1 : Int32))] [])) _
      refine XS.iconst X6.here hx rfl (hb hby at_105) ?_
      show Steps p.tables e below (T6.setTop (mkF m 106 #[.val (.int p1), .val (.int (1 : Int32)), .val (.ref w_TRANSIENT), .val (.int (1 : Int32))] [(.int (1 : Int32))])) _
      refine XS.goto X6.here hx rfl (pc0 := 106) (pc' := 110) rfl (hb hby at_106) (by decide) (by decide) ?_
      show Steps p.tables e below (T6.setTop (mkF m 110 #[.val (.int p1), .val (.int (1 : Int32)), .val (.ref w_TRANSIENT), .val (.int (1 : Int32))] [(.int (1 : Int32))])) _
      exact retN X6 hx (t := .boolean) Bd.returns (by simp) (hb hby at_110) hr
    · show Q_rm0 Z p1 w_INFRASTRUCTURE w_PERMANENT w_TRANSIENT w_QUALITY w_DEADLINE w_STALLED w_REJECTED h0 n0 _ T6.heap _
      rw [eq6]
      exact ⟨rfl, N6⟩
  · rw [hv2] at pre1
    obtain ⟨T7, X7, e7, st7⟩ := getS2 X0 hx hZ hown (host := "") (Or.inl (hw _ (List.mem_of_getElem? (i := 22) rfl))) Via.refl e0 (S_w_QUALITY.ext O0.2) (g := (mkF m 40 #[.val (.int p1), .val (.int (2 : Int32)), .unset, .unset] [])) rfl (hb hby at_40)
    obtain ⟨cq8, kq8, q8a, q8b, q8c⟩ := isOf hZ e7 (E_w_QUALITY.ext O0.2)
    obtain ⟨_, _, ⟨T8, L8, k8, n8⟩, -, X8, ⟨Lc8, hQ8, l8, y8, z8⟩, st8⟩ := X7.virtualBack hx (y := (⟨"com/example/glacial_workflow/glacialworkflow/core/FailureClass", "isRetried", "()Z"⟩ : MethodName)) (z := (⟨"com/example/glacial_workflow/glacialworkflow/core/FailureClass", "isRetried", "()Z"⟩ : MethodName)) hown (mvT hZ (hw _ (List.mem_of_getElem? (i := 4) rfl))) (mvT hZ (hw _ (List.mem_of_getElem? (i := 5) rfl))) (notFace_of_selects (args := #[]) (mvT hZ (hw _ (List.mem_of_getElem? (i := 7) rfl)))) (mvT hZ (hw _ (List.mem_of_getElem? (i := 7) rfl))) (mvT hZ (hw _ (List.mem_of_getElem? (i := 6) rfl))) (by decide) (backOf (W := 0) (re_QUALITY l Z a0 hw [] w_INFRASTRUCTURE w_PERMANENT w_TRANSIENT w_QUALITY w_DEADLINE w_STALLED w_REJECTED h0 n0 O0 hE) hZ (hw _ (List.mem_of_getElem? (i := 8) rfl)) (hw _ (List.mem_of_getElem? (i := 2) rfl)) (by decide) (by decide)) q8a q8c (g := (mkF m 98 #[.val (.int p1), .val (.int (2 : Int32)), .val (.ref w_QUALITY), .val (.int (1 : Int32))] [(.ref w_QUALITY)])) rfl (by rw [hml]; rfl) (Steps.refl _) (argsL := []) (rest := []) (lenOf pd___Z rfl) rfl (by show 2 * 0 + _ ≤ _; exact Nat.le_of_eq rfl) (hb hby at_98) (fun _ _ => ⟨rfl, e7, (by decide : 0 + 0 ≤ _), (by decide : 0 + 0 ≤ _)⟩)
    dsimp only [Pt.U, Pt.locs, Pt.cells, Pt.slots] at X8 l8 y8 z8 st8 hQ8
    subst l8 y8 z8
    obtain ⟨rfl, Nq8, eq8⟩ := hQ8
    have N8 := Fr.app N0 Nq8
    obtain ⟨fs, hr, hrun, hended, hW, hsame⟩ := X8.leave (v := some (.int (1 : Int32))) (fun h => by rw [Bd.returns] at h; cases h)
    refine ⟨_, _, pre1 _ ?_, hrun, hended, _, _, rfl, ?_, ⟨_, rfl⟩, hW, hsame.mono (by decide) (by decide)⟩
    · show Steps p.tables e below (s₁.setTop (mkF m 8 #[.val (.int p1), .val (.int (2 : Int32)), .unset, .unset] [])) _
      refine XS.iloadN X0.here hx rfl (hb hby at_8) rfl ?_
      show Steps p.tables e below (s₁.setTop (mkF m 9 #[.val (.int p1), .val (.int (2 : Int32)), .unset, .unset] [(.int (2 : Int32))])) _
      refine XS.ifYes X0.here hx rfl (pc0 := 9) (pc' := 21) rfl (hb hby at_9) rfl ((if0 _ _).trans (feq (by decide : ¬ ((2 : Int32) = (0 : Int32)))).2) (by decide) (by decide) ?_
      show Steps p.tables e below (s₁.setTop (mkF m 21 #[.val (.int p1), .val (.int (2 : Int32)), .unset, .unset] [])) _
      refine XS.iloadN X0.here hx rfl (hb hby at_21) rfl ?_
      show Steps p.tables e below (s₁.setTop (mkF m 22 #[.val (.int p1), .val (.int (2 : Int32)), .unset, .unset] [(.int (2 : Int32))])) _
      refine XS.iconst X0.here hx rfl (hb hby at_22) ?_
      show Steps p.tables e below (s₁.setTop (mkF m 23 #[.val (.int p1), .val (.int (2 : Int32)), .unset, .unset] [(.int (1 : Int32)), (.int (2 : Int32))])) _
      refine XS.icmpYes X0.here hx rfl (pc0 := 23) (pc' := 35) rfl (hb hby at_23) rfl (feq (by decide : ¬ ((2 : Int32) = (1 : Int32)))).2 (by decide) (by decide) ?_
      show Steps p.tables e below (s₁.setTop (mkF m 35 #[.val (.int p1), .val (.int (2 : Int32)), .unset, .unset] [])) _
      refine XS.iloadN X0.here hx rfl (hb hby at_35) rfl ?_
      show Steps p.tables e below (s₁.setTop (mkF m 36 #[.val (.int p1), .val (.int (2 : Int32)), .unset, .unset] [(.int (2 : Int32))])) _
      refine XS.iconst X0.here hx rfl (hb hby at_36) ?_
      show Steps p.tables e below (s₁.setTop (mkF m 37 #[.val (.int p1), .val (.int (2 : Int32)), .unset, .unset] [(.int (2 : Int32)), (.int (2 : Int32))])) _
      refine XS.icmpNo X0.here hx rfl (hb hby at_37) rfl (teq (by decide : (2 : Int32) = (2 : Int32))).2 ?_
      show Steps p.tables e below (s₁.setTop (mkF m 40 #[.val (.int p1), .val (.int (2 : Int32)), .unset, .unset] [])) _
      refine st7 _ ?_
      show Steps p.tables e below (T7.setTop (mkF m 43 #[.val (.int p1), .val (.int (2 : Int32)), .unset, .unset] [(.ref w_QUALITY)])) _
      refine XS.astoreN X7.here hx rfl (hb hby at_43) rfl rfl (l' := #[.val (.int p1), .val (.int (2 : Int32)), .val (.ref w_QUALITY), .unset]) rfl ?_
      show Steps p.tables e below (T7.setTop (mkF m 44 #[.val (.int p1), .val (.int (2 : Int32)), .val (.ref w_QUALITY), .unset] [])) _
      refine XS.iconst X7.here hx rfl (hb hby at_44) ?_
      show Steps p.tables e below (T7.setTop (mkF m 45 #[.val (.int p1), .val (.int (2 : Int32)), .val (.ref w_QUALITY), .unset] [(.int (1 : Int32))])) _
      refine XS.istoreN X7.here hx rfl (hb hby at_45) rfl (l' := #[.val (.int p1), .val (.int (2 : Int32)), .val (.ref w_QUALITY), .val (.int (1 : Int32))]) rfl ?_
      show Steps p.tables e below (T7.setTop (mkF m 46 #[.val (.int p1), .val (.int (2 : Int32)), .val (.ref w_QUALITY), .val (.int (1 : Int32))] [])) _
      refine XS.goto X7.here hx rfl (pc0 := 46) (pc' := 97) rfl (hb hby at_46) (by decide) (by decide) ?_
      show Steps p.tables e below (T7.setTop (mkF m 97 #[.val (.int p1), .val (.int (2 : Int32)), .val (.ref w_QUALITY), .val (.int (1 : Int32))] [])) _
      refine XS.aloadN X7.here hx rfl (hb hby at_97) rfl rfl ?_
      show Steps p.tables e below (T7.setTop (mkF m 98 #[.val (.int p1), .val (.int (2 : Int32)), .val (.ref w_QUALITY), .val (.int (1 : Int32))] [(.ref w_QUALITY)])) _
      refine st8.trans ?_
      show Steps p.tables e below (T8.setTop (mkF m 101 #[.val (.int p1), .val (.int (2 : Int32)), .val (.ref w_QUALITY), .val (.int (1 : Int32))] [(.int (1 : Int32))])) _
      refine XS.iloadN X8.here hx rfl (hb hby at_101) rfl ?_
      show Steps p.tables e below (T8.setTop (mkF m 102 #[.val (.int p1), .val (.int (2 : Int32)), .val (.ref w_QUALITY), .val (.int (1 : Int32))] [(.int (1 : Int32)), (.int (1 : Int32))])) _
      refine XS.icmpNo X8.here hx rfl (hb hby at_102) rfl (teq (by decide : (1 : Int32) = (1 : Int32))).2 ?_
      show Steps p.tables e below (T8.setTop (mkF m 105 #[.val (.int p1), .val (.int (2 : Int32)), .val (.ref w_QUALITY), .val (.int (1 : Int32))] [])) _
      refine XS.iconst X8.here hx rfl (hb hby at_105) ?_
      show Steps p.tables e below (T8.setTop (mkF m 106 #[.val (.int p1), .val (.int (2 : Int32)), .val (.ref w_QUALITY), .val (.int (1 : Int32))] [(.int (1 : Int32))])) _
      refine XS.goto X8.here hx rfl (pc0 := 106) (pc' := 110) rfl (hb hby at_106) (by decide) (by decide) ?_
      show Steps p.tables e below (T8.setTop (mkF m 110 #[.val (.int p1), .val (.int (2 : Int32)), .val (.ref w_QUALITY), .val (.int (1 : Int32))] [(.int (1 : Int32))])) _
      exact retN X8 hx (t := .boolean) Bd.returns (by simp) (hb hby at_110) hr
    · show Q_rm0 Z p1 w_INFRASTRUCTURE w_PERMANENT w_TRANSIENT w_QUALITY w_DEADLINE w_STALLED w_REJECTED h0 n0 _ T8.heap _
      rw [eq8]
      exact ⟨rfl, N8⟩
  · rw [hv2] at pre1
    obtain ⟨T9, X9, e9, st9⟩ := getS2 X0 hx hZ hown (host := "") (Or.inl (hw _ (List.mem_of_getElem? (i := 10) rfl))) Via.refl e0 (S_w_PERMANENT.ext O0.2) (g := (mkF m 54 #[.val (.int p1), .val (.int (3 : Int32)), .unset, .unset] [])) rfl (hb hby at_54)
    obtain ⟨cq10, kq10, q10a, q10b, q10c⟩ := isOf hZ e9 (E_w_PERMANENT.ext O0.2)
    obtain ⟨_, _, ⟨T10, L10, k10, n10⟩, -, X10, ⟨Lc10, hQ10, l10, y10, z10⟩, st10⟩ := X9.virtualBack hx (y := (⟨"com/example/glacial_workflow/glacialworkflow/core/FailureClass", "isRetried", "()Z"⟩ : MethodName)) (z := (⟨"com/example/glacial_workflow/glacialworkflow/core/FailureClass", "isRetried", "()Z"⟩ : MethodName)) hown (mvT hZ (hw _ (List.mem_of_getElem? (i := 4) rfl))) (mvT hZ (hw _ (List.mem_of_getElem? (i := 5) rfl))) (notFace_of_selects (args := #[]) (mvT hZ (hw _ (List.mem_of_getElem? (i := 7) rfl)))) (mvT hZ (hw _ (List.mem_of_getElem? (i := 7) rfl))) (mvT hZ (hw _ (List.mem_of_getElem? (i := 6) rfl))) (by decide) (backOf (W := 0) (re_PERMANENT l Z a0 hw [] w_INFRASTRUCTURE w_PERMANENT w_TRANSIENT w_QUALITY w_DEADLINE w_STALLED w_REJECTED h0 n0 O0 hE) hZ (hw _ (List.mem_of_getElem? (i := 8) rfl)) (hw _ (List.mem_of_getElem? (i := 2) rfl)) (by decide) (by decide)) q10a q10c (g := (mkF m 98 #[.val (.int p1), .val (.int (3 : Int32)), .val (.ref w_PERMANENT), .val (.int (0 : Int32))] [(.ref w_PERMANENT)])) rfl (by rw [hml]; rfl) (Steps.refl _) (argsL := []) (rest := []) (lenOf pd___Z rfl) rfl (by show 2 * 0 + _ ≤ _; exact Nat.le_of_eq rfl) (hb hby at_98) (fun _ _ => ⟨rfl, e9, (by decide : 0 + 0 ≤ _), (by decide : 0 + 0 ≤ _)⟩)
    dsimp only [Pt.U, Pt.locs, Pt.cells, Pt.slots] at X10 l10 y10 z10 st10 hQ10
    subst l10 y10 z10
    obtain ⟨rfl, Nq10, eq10⟩ := hQ10
    have N10 := Fr.app N0 Nq10
    obtain ⟨fs, hr, hrun, hended, hW, hsame⟩ := X10.leave (v := some (.int (1 : Int32))) (fun h => by rw [Bd.returns] at h; cases h)
    refine ⟨_, _, pre1 _ ?_, hrun, hended, _, _, rfl, ?_, ⟨_, rfl⟩, hW, hsame.mono (by decide) (by decide)⟩
    · show Steps p.tables e below (s₁.setTop (mkF m 8 #[.val (.int p1), .val (.int (3 : Int32)), .unset, .unset] [])) _
      refine XS.iloadN X0.here hx rfl (hb hby at_8) rfl ?_
      show Steps p.tables e below (s₁.setTop (mkF m 9 #[.val (.int p1), .val (.int (3 : Int32)), .unset, .unset] [(.int (3 : Int32))])) _
      refine XS.ifYes X0.here hx rfl (pc0 := 9) (pc' := 21) rfl (hb hby at_9) rfl ((if0 _ _).trans (feq (by decide : ¬ ((3 : Int32) = (0 : Int32)))).2) (by decide) (by decide) ?_
      show Steps p.tables e below (s₁.setTop (mkF m 21 #[.val (.int p1), .val (.int (3 : Int32)), .unset, .unset] [])) _
      refine XS.iloadN X0.here hx rfl (hb hby at_21) rfl ?_
      show Steps p.tables e below (s₁.setTop (mkF m 22 #[.val (.int p1), .val (.int (3 : Int32)), .unset, .unset] [(.int (3 : Int32))])) _
      refine XS.iconst X0.here hx rfl (hb hby at_22) ?_
      show Steps p.tables e below (s₁.setTop (mkF m 23 #[.val (.int p1), .val (.int (3 : Int32)), .unset, .unset] [(.int (1 : Int32)), (.int (3 : Int32))])) _
      refine XS.icmpYes X0.here hx rfl (pc0 := 23) (pc' := 35) rfl (hb hby at_23) rfl (feq (by decide : ¬ ((3 : Int32) = (1 : Int32)))).2 (by decide) (by decide) ?_
      show Steps p.tables e below (s₁.setTop (mkF m 35 #[.val (.int p1), .val (.int (3 : Int32)), .unset, .unset] [])) _
      refine XS.iloadN X0.here hx rfl (hb hby at_35) rfl ?_
      show Steps p.tables e below (s₁.setTop (mkF m 36 #[.val (.int p1), .val (.int (3 : Int32)), .unset, .unset] [(.int (3 : Int32))])) _
      refine XS.iconst X0.here hx rfl (hb hby at_36) ?_
      show Steps p.tables e below (s₁.setTop (mkF m 37 #[.val (.int p1), .val (.int (3 : Int32)), .unset, .unset] [(.int (2 : Int32)), (.int (3 : Int32))])) _
      refine XS.icmpYes X0.here hx rfl (pc0 := 37) (pc' := 49) rfl (hb hby at_37) rfl (feq (by decide : ¬ ((3 : Int32) = (2 : Int32)))).2 (by decide) (by decide) ?_
      show Steps p.tables e below (s₁.setTop (mkF m 49 #[.val (.int p1), .val (.int (3 : Int32)), .unset, .unset] [])) _
      refine XS.iloadN X0.here hx rfl (hb hby at_49) rfl ?_
      show Steps p.tables e below (s₁.setTop (mkF m 50 #[.val (.int p1), .val (.int (3 : Int32)), .unset, .unset] [(.int (3 : Int32))])) _
      refine XS.iconst X0.here hx rfl (hb hby at_50) ?_
      show Steps p.tables e below (s₁.setTop (mkF m 51 #[.val (.int p1), .val (.int (3 : Int32)), .unset, .unset] [(.int (3 : Int32)), (.int (3 : Int32))])) _
      refine XS.icmpNo X0.here hx rfl (hb hby at_51) rfl (teq (by decide : (3 : Int32) = (3 : Int32))).2 ?_
      show Steps p.tables e below (s₁.setTop (mkF m 54 #[.val (.int p1), .val (.int (3 : Int32)), .unset, .unset] [])) _
      refine st9 _ ?_
      show Steps p.tables e below (T9.setTop (mkF m 57 #[.val (.int p1), .val (.int (3 : Int32)), .unset, .unset] [(.ref w_PERMANENT)])) _
      refine XS.astoreN X9.here hx rfl (hb hby at_57) rfl rfl (l' := #[.val (.int p1), .val (.int (3 : Int32)), .val (.ref w_PERMANENT), .unset]) rfl ?_
      show Steps p.tables e below (T9.setTop (mkF m 58 #[.val (.int p1), .val (.int (3 : Int32)), .val (.ref w_PERMANENT), .unset] [])) _
      refine XS.iconst X9.here hx rfl (hb hby at_58) ?_
      show Steps p.tables e below (T9.setTop (mkF m 59 #[.val (.int p1), .val (.int (3 : Int32)), .val (.ref w_PERMANENT), .unset] [(.int (0 : Int32))])) _
      refine XS.istoreN X9.here hx rfl (hb hby at_59) rfl (l' := #[.val (.int p1), .val (.int (3 : Int32)), .val (.ref w_PERMANENT), .val (.int (0 : Int32))]) rfl ?_
      show Steps p.tables e below (T9.setTop (mkF m 60 #[.val (.int p1), .val (.int (3 : Int32)), .val (.ref w_PERMANENT), .val (.int (0 : Int32))] [])) _
      refine XS.goto X9.here hx rfl (pc0 := 60) (pc' := 97) rfl (hb hby at_60) (by decide) (by decide) ?_
      show Steps p.tables e below (T9.setTop (mkF m 97 #[.val (.int p1), .val (.int (3 : Int32)), .val (.ref w_PERMANENT), .val (.int (0 : Int32))] [])) _
      refine XS.aloadN X9.here hx rfl (hb hby at_97) rfl rfl ?_
      show Steps p.tables e below (T9.setTop (mkF m 98 #[.val (.int p1), .val (.int (3 : Int32)), .val (.ref w_PERMANENT), .val (.int (0 : Int32))] [(.ref w_PERMANENT)])) _
      refine st10.trans ?_
      show Steps p.tables e below (T10.setTop (mkF m 101 #[.val (.int p1), .val (.int (3 : Int32)), .val (.ref w_PERMANENT), .val (.int (0 : Int32))] [(.int (0 : Int32))])) _
      refine XS.iloadN X10.here hx rfl (hb hby at_101) rfl ?_
      show Steps p.tables e below (T10.setTop (mkF m 102 #[.val (.int p1), .val (.int (3 : Int32)), .val (.ref w_PERMANENT), .val (.int (0 : Int32))] [(.int (0 : Int32)), (.int (0 : Int32))])) _
      refine XS.icmpNo X10.here hx rfl (hb hby at_102) rfl (teq (by decide : (0 : Int32) = (0 : Int32))).2 ?_
      show Steps p.tables e below (T10.setTop (mkF m 105 #[.val (.int p1), .val (.int (3 : Int32)), .val (.ref w_PERMANENT), .val (.int (0 : Int32))] [])) _
      refine XS.iconst X10.here hx rfl (hb hby at_105) ?_
      show Steps p.tables e below (T10.setTop (mkF m 106 #[.val (.int p1), .val (.int (3 : Int32)), .val (.ref w_PERMANENT), .val (.int (0 : Int32))] [(.int (1 : Int32))])) _
      refine XS.goto X10.here hx rfl (pc0 := 106) (pc' := 110) rfl (hb hby at_106) (by decide) (by decide) ?_
      show Steps p.tables e below (T10.setTop (mkF m 110 #[.val (.int p1), .val (.int (3 : Int32)), .val (.ref w_PERMANENT), .val (.int (0 : Int32))] [(.int (1 : Int32))])) _
      exact retN X10 hx (t := .boolean) Bd.returns (by simp) (hb hby at_110) hr
    · show Q_rm0 Z p1 w_INFRASTRUCTURE w_PERMANENT w_TRANSIENT w_QUALITY w_DEADLINE w_STALLED w_REJECTED h0 n0 _ T10.heap _
      rw [eq10]
      exact ⟨rfl, N10⟩
  · rw [hv2] at pre1
    obtain ⟨T11, X11, e11, st11⟩ := getS2 X0 hx hZ hown (host := "") (Or.inl (hw _ (List.mem_of_getElem? (i := 20) rfl))) Via.refl e0 (S_w_REJECTED.ext O0.2) (g := (mkF m 68 #[.val (.int p1), .val (.int (4 : Int32)), .unset, .unset] [])) rfl (hb hby at_68)
    obtain ⟨cq12, kq12, q12a, q12b, q12c⟩ := isOf hZ e11 (E_w_REJECTED.ext O0.2)
    obtain ⟨_, _, ⟨T12, L12, k12, n12⟩, -, X12, ⟨Lc12, hQ12, l12, y12, z12⟩, st12⟩ := X11.virtualBack hx (y := (⟨"com/example/glacial_workflow/glacialworkflow/core/FailureClass", "isRetried", "()Z"⟩ : MethodName)) (z := (⟨"com/example/glacial_workflow/glacialworkflow/core/FailureClass", "isRetried", "()Z"⟩ : MethodName)) hown (mvT hZ (hw _ (List.mem_of_getElem? (i := 4) rfl))) (mvT hZ (hw _ (List.mem_of_getElem? (i := 5) rfl))) (notFace_of_selects (args := #[]) (mvT hZ (hw _ (List.mem_of_getElem? (i := 7) rfl)))) (mvT hZ (hw _ (List.mem_of_getElem? (i := 7) rfl))) (mvT hZ (hw _ (List.mem_of_getElem? (i := 6) rfl))) (by decide) (backOf (W := 0) (re_REJECTED l Z a0 hw [] w_INFRASTRUCTURE w_PERMANENT w_TRANSIENT w_QUALITY w_DEADLINE w_STALLED w_REJECTED h0 n0 O0 hE) hZ (hw _ (List.mem_of_getElem? (i := 8) rfl)) (hw _ (List.mem_of_getElem? (i := 2) rfl)) (by decide) (by decide)) q12a q12c (g := (mkF m 98 #[.val (.int p1), .val (.int (4 : Int32)), .val (.ref w_REJECTED), .val (.int (0 : Int32))] [(.ref w_REJECTED)])) rfl (by rw [hml]; rfl) (Steps.refl _) (argsL := []) (rest := []) (lenOf pd___Z rfl) rfl (by show 2 * 0 + _ ≤ _; exact Nat.le_of_eq rfl) (hb hby at_98) (fun _ _ => ⟨rfl, e11, (by decide : 0 + 0 ≤ _), (by decide : 0 + 0 ≤ _)⟩)
    dsimp only [Pt.U, Pt.locs, Pt.cells, Pt.slots] at X12 l12 y12 z12 st12 hQ12
    subst l12 y12 z12
    obtain ⟨rfl, Nq12, eq12⟩ := hQ12
    have N12 := Fr.app N0 Nq12
    obtain ⟨fs, hr, hrun, hended, hW, hsame⟩ := X12.leave (v := some (.int (1 : Int32))) (fun h => by rw [Bd.returns] at h; cases h)
    refine ⟨_, _, pre1 _ ?_, hrun, hended, _, _, rfl, ?_, ⟨_, rfl⟩, hW, hsame.mono (by decide) (by decide)⟩
    · show Steps p.tables e below (s₁.setTop (mkF m 8 #[.val (.int p1), .val (.int (4 : Int32)), .unset, .unset] [])) _
      refine XS.iloadN X0.here hx rfl (hb hby at_8) rfl ?_
      show Steps p.tables e below (s₁.setTop (mkF m 9 #[.val (.int p1), .val (.int (4 : Int32)), .unset, .unset] [(.int (4 : Int32))])) _
      refine XS.ifYes X0.here hx rfl (pc0 := 9) (pc' := 21) rfl (hb hby at_9) rfl ((if0 _ _).trans (feq (by decide : ¬ ((4 : Int32) = (0 : Int32)))).2) (by decide) (by decide) ?_
      show Steps p.tables e below (s₁.setTop (mkF m 21 #[.val (.int p1), .val (.int (4 : Int32)), .unset, .unset] [])) _
      refine XS.iloadN X0.here hx rfl (hb hby at_21) rfl ?_
      show Steps p.tables e below (s₁.setTop (mkF m 22 #[.val (.int p1), .val (.int (4 : Int32)), .unset, .unset] [(.int (4 : Int32))])) _
      refine XS.iconst X0.here hx rfl (hb hby at_22) ?_
      show Steps p.tables e below (s₁.setTop (mkF m 23 #[.val (.int p1), .val (.int (4 : Int32)), .unset, .unset] [(.int (1 : Int32)), (.int (4 : Int32))])) _
      refine XS.icmpYes X0.here hx rfl (pc0 := 23) (pc' := 35) rfl (hb hby at_23) rfl (feq (by decide : ¬ ((4 : Int32) = (1 : Int32)))).2 (by decide) (by decide) ?_
      show Steps p.tables e below (s₁.setTop (mkF m 35 #[.val (.int p1), .val (.int (4 : Int32)), .unset, .unset] [])) _
      refine XS.iloadN X0.here hx rfl (hb hby at_35) rfl ?_
      show Steps p.tables e below (s₁.setTop (mkF m 36 #[.val (.int p1), .val (.int (4 : Int32)), .unset, .unset] [(.int (4 : Int32))])) _
      refine XS.iconst X0.here hx rfl (hb hby at_36) ?_
      show Steps p.tables e below (s₁.setTop (mkF m 37 #[.val (.int p1), .val (.int (4 : Int32)), .unset, .unset] [(.int (2 : Int32)), (.int (4 : Int32))])) _
      refine XS.icmpYes X0.here hx rfl (pc0 := 37) (pc' := 49) rfl (hb hby at_37) rfl (feq (by decide : ¬ ((4 : Int32) = (2 : Int32)))).2 (by decide) (by decide) ?_
      show Steps p.tables e below (s₁.setTop (mkF m 49 #[.val (.int p1), .val (.int (4 : Int32)), .unset, .unset] [])) _
      refine XS.iloadN X0.here hx rfl (hb hby at_49) rfl ?_
      show Steps p.tables e below (s₁.setTop (mkF m 50 #[.val (.int p1), .val (.int (4 : Int32)), .unset, .unset] [(.int (4 : Int32))])) _
      refine XS.iconst X0.here hx rfl (hb hby at_50) ?_
      show Steps p.tables e below (s₁.setTop (mkF m 51 #[.val (.int p1), .val (.int (4 : Int32)), .unset, .unset] [(.int (3 : Int32)), (.int (4 : Int32))])) _
      refine XS.icmpYes X0.here hx rfl (pc0 := 51) (pc' := 63) rfl (hb hby at_51) rfl (feq (by decide : ¬ ((4 : Int32) = (3 : Int32)))).2 (by decide) (by decide) ?_
      show Steps p.tables e below (s₁.setTop (mkF m 63 #[.val (.int p1), .val (.int (4 : Int32)), .unset, .unset] [])) _
      refine XS.iloadN X0.here hx rfl (hb hby at_63) rfl ?_
      show Steps p.tables e below (s₁.setTop (mkF m 64 #[.val (.int p1), .val (.int (4 : Int32)), .unset, .unset] [(.int (4 : Int32))])) _
      refine XS.iconst X0.here hx rfl (hb hby at_64) ?_
      show Steps p.tables e below (s₁.setTop (mkF m 65 #[.val (.int p1), .val (.int (4 : Int32)), .unset, .unset] [(.int (4 : Int32)), (.int (4 : Int32))])) _
      refine XS.icmpNo X0.here hx rfl (hb hby at_65) rfl (teq (by decide : (4 : Int32) = (4 : Int32))).2 ?_
      show Steps p.tables e below (s₁.setTop (mkF m 68 #[.val (.int p1), .val (.int (4 : Int32)), .unset, .unset] [])) _
      refine st11 _ ?_
      show Steps p.tables e below (T11.setTop (mkF m 71 #[.val (.int p1), .val (.int (4 : Int32)), .unset, .unset] [(.ref w_REJECTED)])) _
      refine XS.astoreN X11.here hx rfl (hb hby at_71) rfl rfl (l' := #[.val (.int p1), .val (.int (4 : Int32)), .val (.ref w_REJECTED), .unset]) rfl ?_
      show Steps p.tables e below (T11.setTop (mkF m 72 #[.val (.int p1), .val (.int (4 : Int32)), .val (.ref w_REJECTED), .unset] [])) _
      refine XS.iconst X11.here hx rfl (hb hby at_72) ?_
      show Steps p.tables e below (T11.setTop (mkF m 73 #[.val (.int p1), .val (.int (4 : Int32)), .val (.ref w_REJECTED), .unset] [(.int (0 : Int32))])) _
      refine XS.istoreN X11.here hx rfl (hb hby at_73) rfl (l' := #[.val (.int p1), .val (.int (4 : Int32)), .val (.ref w_REJECTED), .val (.int (0 : Int32))]) rfl ?_
      show Steps p.tables e below (T11.setTop (mkF m 74 #[.val (.int p1), .val (.int (4 : Int32)), .val (.ref w_REJECTED), .val (.int (0 : Int32))] [])) _
      refine XS.goto X11.here hx rfl (pc0 := 74) (pc' := 97) rfl (hb hby at_74) (by decide) (by decide) ?_
      show Steps p.tables e below (T11.setTop (mkF m 97 #[.val (.int p1), .val (.int (4 : Int32)), .val (.ref w_REJECTED), .val (.int (0 : Int32))] [])) _
      refine XS.aloadN X11.here hx rfl (hb hby at_97) rfl rfl ?_
      show Steps p.tables e below (T11.setTop (mkF m 98 #[.val (.int p1), .val (.int (4 : Int32)), .val (.ref w_REJECTED), .val (.int (0 : Int32))] [(.ref w_REJECTED)])) _
      refine st12.trans ?_
      show Steps p.tables e below (T12.setTop (mkF m 101 #[.val (.int p1), .val (.int (4 : Int32)), .val (.ref w_REJECTED), .val (.int (0 : Int32))] [(.int (0 : Int32))])) _
      refine XS.iloadN X12.here hx rfl (hb hby at_101) rfl ?_
      show Steps p.tables e below (T12.setTop (mkF m 102 #[.val (.int p1), .val (.int (4 : Int32)), .val (.ref w_REJECTED), .val (.int (0 : Int32))] [(.int (0 : Int32)), (.int (0 : Int32))])) _
      refine XS.icmpNo X12.here hx rfl (hb hby at_102) rfl (teq (by decide : (0 : Int32) = (0 : Int32))).2 ?_
      show Steps p.tables e below (T12.setTop (mkF m 105 #[.val (.int p1), .val (.int (4 : Int32)), .val (.ref w_REJECTED), .val (.int (0 : Int32))] [])) _
      refine XS.iconst X12.here hx rfl (hb hby at_105) ?_
      show Steps p.tables e below (T12.setTop (mkF m 106 #[.val (.int p1), .val (.int (4 : Int32)), .val (.ref w_REJECTED), .val (.int (0 : Int32))] [(.int (1 : Int32))])) _
      refine XS.goto X12.here hx rfl (pc0 := 106) (pc' := 110) rfl (hb hby at_106) (by decide) (by decide) ?_
      show Steps p.tables e below (T12.setTop (mkF m 110 #[.val (.int p1), .val (.int (4 : Int32)), .val (.ref w_REJECTED), .val (.int (0 : Int32))] [(.int (1 : Int32))])) _
      exact retN X12 hx (t := .boolean) Bd.returns (by simp) (hb hby at_110) hr
    · show Q_rm0 Z p1 w_INFRASTRUCTURE w_PERMANENT w_TRANSIENT w_QUALITY w_DEADLINE w_STALLED w_REJECTED h0 n0 _ T12.heap _
      rw [eq12]
      exact ⟨rfl, N12⟩
  · rw [hv2] at pre1
    obtain ⟨T13, X13, e13, st13⟩ := getS2 X0 hx hZ hown (host := "") (Or.inl (hw _ (List.mem_of_getElem? (i := 16) rfl))) Via.refl e0 (S_w_DEADLINE.ext O0.2) (g := (mkF m 82 #[.val (.int p1), .val (.int (5 : Int32)), .unset, .unset] [])) rfl (hb hby at_82)
    obtain ⟨cq14, kq14, q14a, q14b, q14c⟩ := isOf hZ e13 (E_w_DEADLINE.ext O0.2)
    obtain ⟨_, _, ⟨T14, L14, k14, n14⟩, -, X14, ⟨Lc14, hQ14, l14, y14, z14⟩, st14⟩ := X13.virtualBack hx (y := (⟨"com/example/glacial_workflow/glacialworkflow/core/FailureClass", "isRetried", "()Z"⟩ : MethodName)) (z := (⟨"com/example/glacial_workflow/glacialworkflow/core/FailureClass", "isRetried", "()Z"⟩ : MethodName)) hown (mvT hZ (hw _ (List.mem_of_getElem? (i := 4) rfl))) (mvT hZ (hw _ (List.mem_of_getElem? (i := 5) rfl))) (notFace_of_selects (args := #[]) (mvT hZ (hw _ (List.mem_of_getElem? (i := 7) rfl)))) (mvT hZ (hw _ (List.mem_of_getElem? (i := 7) rfl))) (mvT hZ (hw _ (List.mem_of_getElem? (i := 6) rfl))) (by decide) (backOf (W := 0) (re_DEADLINE l Z a0 hw [] w_INFRASTRUCTURE w_PERMANENT w_TRANSIENT w_QUALITY w_DEADLINE w_STALLED w_REJECTED h0 n0 O0 hE) hZ (hw _ (List.mem_of_getElem? (i := 8) rfl)) (hw _ (List.mem_of_getElem? (i := 2) rfl)) (by decide) (by decide)) q14a q14c (g := (mkF m 98 #[.val (.int p1), .val (.int (5 : Int32)), .val (.ref w_DEADLINE), .val (.int (0 : Int32))] [(.ref w_DEADLINE)])) rfl (by rw [hml]; rfl) (Steps.refl _) (argsL := []) (rest := []) (lenOf pd___Z rfl) rfl (by show 2 * 0 + _ ≤ _; exact Nat.le_of_eq rfl) (hb hby at_98) (fun _ _ => ⟨rfl, e13, (by decide : 0 + 0 ≤ _), (by decide : 0 + 0 ≤ _)⟩)
    dsimp only [Pt.U, Pt.locs, Pt.cells, Pt.slots] at X14 l14 y14 z14 st14 hQ14
    subst l14 y14 z14
    obtain ⟨rfl, Nq14, eq14⟩ := hQ14
    have N14 := Fr.app N0 Nq14
    obtain ⟨fs, hr, hrun, hended, hW, hsame⟩ := X14.leave (v := some (.int (1 : Int32))) (fun h => by rw [Bd.returns] at h; cases h)
    refine ⟨_, _, pre1 _ ?_, hrun, hended, _, _, rfl, ?_, ⟨_, rfl⟩, hW, hsame.mono (by decide) (by decide)⟩
    · show Steps p.tables e below (s₁.setTop (mkF m 8 #[.val (.int p1), .val (.int (5 : Int32)), .unset, .unset] [])) _
      refine XS.iloadN X0.here hx rfl (hb hby at_8) rfl ?_
      show Steps p.tables e below (s₁.setTop (mkF m 9 #[.val (.int p1), .val (.int (5 : Int32)), .unset, .unset] [(.int (5 : Int32))])) _
      refine XS.ifYes X0.here hx rfl (pc0 := 9) (pc' := 21) rfl (hb hby at_9) rfl ((if0 _ _).trans (feq (by decide : ¬ ((5 : Int32) = (0 : Int32)))).2) (by decide) (by decide) ?_
      show Steps p.tables e below (s₁.setTop (mkF m 21 #[.val (.int p1), .val (.int (5 : Int32)), .unset, .unset] [])) _
      refine XS.iloadN X0.here hx rfl (hb hby at_21) rfl ?_
      show Steps p.tables e below (s₁.setTop (mkF m 22 #[.val (.int p1), .val (.int (5 : Int32)), .unset, .unset] [(.int (5 : Int32))])) _
      refine XS.iconst X0.here hx rfl (hb hby at_22) ?_
      show Steps p.tables e below (s₁.setTop (mkF m 23 #[.val (.int p1), .val (.int (5 : Int32)), .unset, .unset] [(.int (1 : Int32)), (.int (5 : Int32))])) _
      refine XS.icmpYes X0.here hx rfl (pc0 := 23) (pc' := 35) rfl (hb hby at_23) rfl (feq (by decide : ¬ ((5 : Int32) = (1 : Int32)))).2 (by decide) (by decide) ?_
      show Steps p.tables e below (s₁.setTop (mkF m 35 #[.val (.int p1), .val (.int (5 : Int32)), .unset, .unset] [])) _
      refine XS.iloadN X0.here hx rfl (hb hby at_35) rfl ?_
      show Steps p.tables e below (s₁.setTop (mkF m 36 #[.val (.int p1), .val (.int (5 : Int32)), .unset, .unset] [(.int (5 : Int32))])) _
      refine XS.iconst X0.here hx rfl (hb hby at_36) ?_
      show Steps p.tables e below (s₁.setTop (mkF m 37 #[.val (.int p1), .val (.int (5 : Int32)), .unset, .unset] [(.int (2 : Int32)), (.int (5 : Int32))])) _
      refine XS.icmpYes X0.here hx rfl (pc0 := 37) (pc' := 49) rfl (hb hby at_37) rfl (feq (by decide : ¬ ((5 : Int32) = (2 : Int32)))).2 (by decide) (by decide) ?_
      show Steps p.tables e below (s₁.setTop (mkF m 49 #[.val (.int p1), .val (.int (5 : Int32)), .unset, .unset] [])) _
      refine XS.iloadN X0.here hx rfl (hb hby at_49) rfl ?_
      show Steps p.tables e below (s₁.setTop (mkF m 50 #[.val (.int p1), .val (.int (5 : Int32)), .unset, .unset] [(.int (5 : Int32))])) _
      refine XS.iconst X0.here hx rfl (hb hby at_50) ?_
      show Steps p.tables e below (s₁.setTop (mkF m 51 #[.val (.int p1), .val (.int (5 : Int32)), .unset, .unset] [(.int (3 : Int32)), (.int (5 : Int32))])) _
      refine XS.icmpYes X0.here hx rfl (pc0 := 51) (pc' := 63) rfl (hb hby at_51) rfl (feq (by decide : ¬ ((5 : Int32) = (3 : Int32)))).2 (by decide) (by decide) ?_
      show Steps p.tables e below (s₁.setTop (mkF m 63 #[.val (.int p1), .val (.int (5 : Int32)), .unset, .unset] [])) _
      refine XS.iloadN X0.here hx rfl (hb hby at_63) rfl ?_
      show Steps p.tables e below (s₁.setTop (mkF m 64 #[.val (.int p1), .val (.int (5 : Int32)), .unset, .unset] [(.int (5 : Int32))])) _
      refine XS.iconst X0.here hx rfl (hb hby at_64) ?_
      show Steps p.tables e below (s₁.setTop (mkF m 65 #[.val (.int p1), .val (.int (5 : Int32)), .unset, .unset] [(.int (4 : Int32)), (.int (5 : Int32))])) _
      refine XS.icmpYes X0.here hx rfl (pc0 := 65) (pc' := 77) rfl (hb hby at_65) rfl (feq (by decide : ¬ ((5 : Int32) = (4 : Int32)))).2 (by decide) (by decide) ?_
      show Steps p.tables e below (s₁.setTop (mkF m 77 #[.val (.int p1), .val (.int (5 : Int32)), .unset, .unset] [])) _
      refine XS.iloadN X0.here hx rfl (hb hby at_77) rfl ?_
      show Steps p.tables e below (s₁.setTop (mkF m 78 #[.val (.int p1), .val (.int (5 : Int32)), .unset, .unset] [(.int (5 : Int32))])) _
      refine XS.iconst X0.here hx rfl (hb hby at_78) ?_
      show Steps p.tables e below (s₁.setTop (mkF m 79 #[.val (.int p1), .val (.int (5 : Int32)), .unset, .unset] [(.int (5 : Int32)), (.int (5 : Int32))])) _
      refine XS.icmpNo X0.here hx rfl (hb hby at_79) rfl (teq (by decide : (5 : Int32) = (5 : Int32))).2 ?_
      show Steps p.tables e below (s₁.setTop (mkF m 82 #[.val (.int p1), .val (.int (5 : Int32)), .unset, .unset] [])) _
      refine st13 _ ?_
      show Steps p.tables e below (T13.setTop (mkF m 85 #[.val (.int p1), .val (.int (5 : Int32)), .unset, .unset] [(.ref w_DEADLINE)])) _
      refine XS.astoreN X13.here hx rfl (hb hby at_85) rfl rfl (l' := #[.val (.int p1), .val (.int (5 : Int32)), .val (.ref w_DEADLINE), .unset]) rfl ?_
      show Steps p.tables e below (T13.setTop (mkF m 86 #[.val (.int p1), .val (.int (5 : Int32)), .val (.ref w_DEADLINE), .unset] [])) _
      refine XS.iconst X13.here hx rfl (hb hby at_86) ?_
      show Steps p.tables e below (T13.setTop (mkF m 87 #[.val (.int p1), .val (.int (5 : Int32)), .val (.ref w_DEADLINE), .unset] [(.int (0 : Int32))])) _
      refine XS.istoreN X13.here hx rfl (hb hby at_87) rfl (l' := #[.val (.int p1), .val (.int (5 : Int32)), .val (.ref w_DEADLINE), .val (.int (0 : Int32))]) rfl ?_
      show Steps p.tables e below (T13.setTop (mkF m 88 #[.val (.int p1), .val (.int (5 : Int32)), .val (.ref w_DEADLINE), .val (.int (0 : Int32))] [])) _
      refine XS.goto X13.here hx rfl (pc0 := 88) (pc' := 97) rfl (hb hby at_88) (by decide) (by decide) ?_
      show Steps p.tables e below (T13.setTop (mkF m 97 #[.val (.int p1), .val (.int (5 : Int32)), .val (.ref w_DEADLINE), .val (.int (0 : Int32))] [])) _
      refine XS.aloadN X13.here hx rfl (hb hby at_97) rfl rfl ?_
      show Steps p.tables e below (T13.setTop (mkF m 98 #[.val (.int p1), .val (.int (5 : Int32)), .val (.ref w_DEADLINE), .val (.int (0 : Int32))] [(.ref w_DEADLINE)])) _
      refine st14.trans ?_
      show Steps p.tables e below (T14.setTop (mkF m 101 #[.val (.int p1), .val (.int (5 : Int32)), .val (.ref w_DEADLINE), .val (.int (0 : Int32))] [(.int (0 : Int32))])) _
      refine XS.iloadN X14.here hx rfl (hb hby at_101) rfl ?_
      show Steps p.tables e below (T14.setTop (mkF m 102 #[.val (.int p1), .val (.int (5 : Int32)), .val (.ref w_DEADLINE), .val (.int (0 : Int32))] [(.int (0 : Int32)), (.int (0 : Int32))])) _
      refine XS.icmpNo X14.here hx rfl (hb hby at_102) rfl (teq (by decide : (0 : Int32) = (0 : Int32))).2 ?_
      show Steps p.tables e below (T14.setTop (mkF m 105 #[.val (.int p1), .val (.int (5 : Int32)), .val (.ref w_DEADLINE), .val (.int (0 : Int32))] [])) _
      refine XS.iconst X14.here hx rfl (hb hby at_105) ?_
      show Steps p.tables e below (T14.setTop (mkF m 106 #[.val (.int p1), .val (.int (5 : Int32)), .val (.ref w_DEADLINE), .val (.int (0 : Int32))] [(.int (1 : Int32))])) _
      refine XS.goto X14.here hx rfl (pc0 := 106) (pc' := 110) rfl (hb hby at_106) (by decide) (by decide) ?_
      show Steps p.tables e below (T14.setTop (mkF m 110 #[.val (.int p1), .val (.int (5 : Int32)), .val (.ref w_DEADLINE), .val (.int (0 : Int32))] [(.int (1 : Int32))])) _
      exact retN X14 hx (t := .boolean) Bd.returns (by simp) (hb hby at_110) hr
    · show Q_rm0 Z p1 w_INFRASTRUCTURE w_PERMANENT w_TRANSIENT w_QUALITY w_DEADLINE w_STALLED w_REJECTED h0 n0 _ T14.heap _
      rw [eq14]
      exact ⟨rfl, N14⟩
  · rw [hv2] at pre1
    obtain ⟨T15, X15, e15, st15⟩ := getS2 X0 hx hZ hown (host := "") (Or.inl (hw _ (List.mem_of_getElem? (i := 18) rfl))) Via.refl e0 (S_w_STALLED.ext O0.2) (g := (mkF m 91 #[.val (.int p1), .val (.int (6 : Int32)), .unset, .unset] [])) rfl (hb hby at_91)
    obtain ⟨cq16, kq16, q16a, q16b, q16c⟩ := isOf hZ e15 (E_w_STALLED.ext O0.2)
    obtain ⟨_, _, ⟨T16, L16, k16, n16⟩, -, X16, ⟨Lc16, hQ16, l16, y16, z16⟩, st16⟩ := X15.virtualBack hx (y := (⟨"com/example/glacial_workflow/glacialworkflow/core/FailureClass", "isRetried", "()Z"⟩ : MethodName)) (z := (⟨"com/example/glacial_workflow/glacialworkflow/core/FailureClass", "isRetried", "()Z"⟩ : MethodName)) hown (mvT hZ (hw _ (List.mem_of_getElem? (i := 4) rfl))) (mvT hZ (hw _ (List.mem_of_getElem? (i := 5) rfl))) (notFace_of_selects (args := #[]) (mvT hZ (hw _ (List.mem_of_getElem? (i := 7) rfl)))) (mvT hZ (hw _ (List.mem_of_getElem? (i := 7) rfl))) (mvT hZ (hw _ (List.mem_of_getElem? (i := 6) rfl))) (by decide) (backOf (W := 0) (re_STALLED l Z a0 hw [] w_INFRASTRUCTURE w_PERMANENT w_TRANSIENT w_QUALITY w_DEADLINE w_STALLED w_REJECTED h0 n0 O0 hE) hZ (hw _ (List.mem_of_getElem? (i := 8) rfl)) (hw _ (List.mem_of_getElem? (i := 2) rfl)) (by decide) (by decide)) q16a q16c (g := (mkF m 98 #[.val (.int p1), .val (.int (6 : Int32)), .val (.ref w_STALLED), .val (.int (0 : Int32))] [(.ref w_STALLED)])) rfl (by rw [hml]; rfl) (Steps.refl _) (argsL := []) (rest := []) (lenOf pd___Z rfl) rfl (by show 2 * 0 + _ ≤ _; exact Nat.le_of_eq rfl) (hb hby at_98) (fun _ _ => ⟨rfl, e15, (by decide : 0 + 0 ≤ _), (by decide : 0 + 0 ≤ _)⟩)
    dsimp only [Pt.U, Pt.locs, Pt.cells, Pt.slots] at X16 l16 y16 z16 st16 hQ16
    subst l16 y16 z16
    obtain ⟨rfl, Nq16, eq16⟩ := hQ16
    have N16 := Fr.app N0 Nq16
    obtain ⟨fs, hr, hrun, hended, hW, hsame⟩ := X16.leave (v := some (.int (1 : Int32))) (fun h => by rw [Bd.returns] at h; cases h)
    refine ⟨_, _, pre1 _ ?_, hrun, hended, _, _, rfl, ?_, ⟨_, rfl⟩, hW, hsame.mono (by decide) (by decide)⟩
    · show Steps p.tables e below (s₁.setTop (mkF m 8 #[.val (.int p1), .val (.int (6 : Int32)), .unset, .unset] [])) _
      refine XS.iloadN X0.here hx rfl (hb hby at_8) rfl ?_
      show Steps p.tables e below (s₁.setTop (mkF m 9 #[.val (.int p1), .val (.int (6 : Int32)), .unset, .unset] [(.int (6 : Int32))])) _
      refine XS.ifYes X0.here hx rfl (pc0 := 9) (pc' := 21) rfl (hb hby at_9) rfl ((if0 _ _).trans (feq (by decide : ¬ ((6 : Int32) = (0 : Int32)))).2) (by decide) (by decide) ?_
      show Steps p.tables e below (s₁.setTop (mkF m 21 #[.val (.int p1), .val (.int (6 : Int32)), .unset, .unset] [])) _
      refine XS.iloadN X0.here hx rfl (hb hby at_21) rfl ?_
      show Steps p.tables e below (s₁.setTop (mkF m 22 #[.val (.int p1), .val (.int (6 : Int32)), .unset, .unset] [(.int (6 : Int32))])) _
      refine XS.iconst X0.here hx rfl (hb hby at_22) ?_
      show Steps p.tables e below (s₁.setTop (mkF m 23 #[.val (.int p1), .val (.int (6 : Int32)), .unset, .unset] [(.int (1 : Int32)), (.int (6 : Int32))])) _
      refine XS.icmpYes X0.here hx rfl (pc0 := 23) (pc' := 35) rfl (hb hby at_23) rfl (feq (by decide : ¬ ((6 : Int32) = (1 : Int32)))).2 (by decide) (by decide) ?_
      show Steps p.tables e below (s₁.setTop (mkF m 35 #[.val (.int p1), .val (.int (6 : Int32)), .unset, .unset] [])) _
      refine XS.iloadN X0.here hx rfl (hb hby at_35) rfl ?_
      show Steps p.tables e below (s₁.setTop (mkF m 36 #[.val (.int p1), .val (.int (6 : Int32)), .unset, .unset] [(.int (6 : Int32))])) _
      refine XS.iconst X0.here hx rfl (hb hby at_36) ?_
      show Steps p.tables e below (s₁.setTop (mkF m 37 #[.val (.int p1), .val (.int (6 : Int32)), .unset, .unset] [(.int (2 : Int32)), (.int (6 : Int32))])) _
      refine XS.icmpYes X0.here hx rfl (pc0 := 37) (pc' := 49) rfl (hb hby at_37) rfl (feq (by decide : ¬ ((6 : Int32) = (2 : Int32)))).2 (by decide) (by decide) ?_
      show Steps p.tables e below (s₁.setTop (mkF m 49 #[.val (.int p1), .val (.int (6 : Int32)), .unset, .unset] [])) _
      refine XS.iloadN X0.here hx rfl (hb hby at_49) rfl ?_
      show Steps p.tables e below (s₁.setTop (mkF m 50 #[.val (.int p1), .val (.int (6 : Int32)), .unset, .unset] [(.int (6 : Int32))])) _
      refine XS.iconst X0.here hx rfl (hb hby at_50) ?_
      show Steps p.tables e below (s₁.setTop (mkF m 51 #[.val (.int p1), .val (.int (6 : Int32)), .unset, .unset] [(.int (3 : Int32)), (.int (6 : Int32))])) _
      refine XS.icmpYes X0.here hx rfl (pc0 := 51) (pc' := 63) rfl (hb hby at_51) rfl (feq (by decide : ¬ ((6 : Int32) = (3 : Int32)))).2 (by decide) (by decide) ?_
      show Steps p.tables e below (s₁.setTop (mkF m 63 #[.val (.int p1), .val (.int (6 : Int32)), .unset, .unset] [])) _
      refine XS.iloadN X0.here hx rfl (hb hby at_63) rfl ?_
      show Steps p.tables e below (s₁.setTop (mkF m 64 #[.val (.int p1), .val (.int (6 : Int32)), .unset, .unset] [(.int (6 : Int32))])) _
      refine XS.iconst X0.here hx rfl (hb hby at_64) ?_
      show Steps p.tables e below (s₁.setTop (mkF m 65 #[.val (.int p1), .val (.int (6 : Int32)), .unset, .unset] [(.int (4 : Int32)), (.int (6 : Int32))])) _
      refine XS.icmpYes X0.here hx rfl (pc0 := 65) (pc' := 77) rfl (hb hby at_65) rfl (feq (by decide : ¬ ((6 : Int32) = (4 : Int32)))).2 (by decide) (by decide) ?_
      show Steps p.tables e below (s₁.setTop (mkF m 77 #[.val (.int p1), .val (.int (6 : Int32)), .unset, .unset] [])) _
      refine XS.iloadN X0.here hx rfl (hb hby at_77) rfl ?_
      show Steps p.tables e below (s₁.setTop (mkF m 78 #[.val (.int p1), .val (.int (6 : Int32)), .unset, .unset] [(.int (6 : Int32))])) _
      refine XS.iconst X0.here hx rfl (hb hby at_78) ?_
      show Steps p.tables e below (s₁.setTop (mkF m 79 #[.val (.int p1), .val (.int (6 : Int32)), .unset, .unset] [(.int (5 : Int32)), (.int (6 : Int32))])) _
      refine XS.icmpYes X0.here hx rfl (pc0 := 79) (pc' := 91) rfl (hb hby at_79) rfl (feq (by decide : ¬ ((6 : Int32) = (5 : Int32)))).2 (by decide) (by decide) ?_
      show Steps p.tables e below (s₁.setTop (mkF m 91 #[.val (.int p1), .val (.int (6 : Int32)), .unset, .unset] [])) _
      refine st15 _ ?_
      show Steps p.tables e below (T15.setTop (mkF m 94 #[.val (.int p1), .val (.int (6 : Int32)), .unset, .unset] [(.ref w_STALLED)])) _
      refine XS.astoreN X15.here hx rfl (hb hby at_94) rfl rfl (l' := #[.val (.int p1), .val (.int (6 : Int32)), .val (.ref w_STALLED), .unset]) rfl ?_
      show Steps p.tables e below (T15.setTop (mkF m 95 #[.val (.int p1), .val (.int (6 : Int32)), .val (.ref w_STALLED), .unset] [])) _
      refine XS.iconst X15.here hx rfl (hb hby at_95) ?_
      show Steps p.tables e below (T15.setTop (mkF m 96 #[.val (.int p1), .val (.int (6 : Int32)), .val (.ref w_STALLED), .unset] [(.int (0 : Int32))])) _
      refine XS.istoreN X15.here hx rfl (hb hby at_96) rfl (l' := #[.val (.int p1), .val (.int (6 : Int32)), .val (.ref w_STALLED), .val (.int (0 : Int32))]) rfl ?_
      show Steps p.tables e below (T15.setTop (mkF m 97 #[.val (.int p1), .val (.int (6 : Int32)), .val (.ref w_STALLED), .val (.int (0 : Int32))] [])) _
      refine XS.aloadN X15.here hx rfl (hb hby at_97) rfl rfl ?_
      show Steps p.tables e below (T15.setTop (mkF m 98 #[.val (.int p1), .val (.int (6 : Int32)), .val (.ref w_STALLED), .val (.int (0 : Int32))] [(.ref w_STALLED)])) _
      refine st16.trans ?_
      show Steps p.tables e below (T16.setTop (mkF m 101 #[.val (.int p1), .val (.int (6 : Int32)), .val (.ref w_STALLED), .val (.int (0 : Int32))] [(.int (0 : Int32))])) _
      refine XS.iloadN X16.here hx rfl (hb hby at_101) rfl ?_
      show Steps p.tables e below (T16.setTop (mkF m 102 #[.val (.int p1), .val (.int (6 : Int32)), .val (.ref w_STALLED), .val (.int (0 : Int32))] [(.int (0 : Int32)), (.int (0 : Int32))])) _
      refine XS.icmpNo X16.here hx rfl (hb hby at_102) rfl (teq (by decide : (0 : Int32) = (0 : Int32))).2 ?_
      show Steps p.tables e below (T16.setTop (mkF m 105 #[.val (.int p1), .val (.int (6 : Int32)), .val (.ref w_STALLED), .val (.int (0 : Int32))] [])) _
      refine XS.iconst X16.here hx rfl (hb hby at_105) ?_
      show Steps p.tables e below (T16.setTop (mkF m 106 #[.val (.int p1), .val (.int (6 : Int32)), .val (.ref w_STALLED), .val (.int (0 : Int32))] [(.int (1 : Int32))])) _
      refine XS.goto X16.here hx rfl (pc0 := 106) (pc' := 110) rfl (hb hby at_106) (by decide) (by decide) ?_
      show Steps p.tables e below (T16.setTop (mkF m 110 #[.val (.int p1), .val (.int (6 : Int32)), .val (.ref w_STALLED), .val (.int (0 : Int32))] [(.int (1 : Int32))])) _
      exact retN X16 hx (t := .boolean) Bd.returns (by simp) (hb hby at_110) hr
    · show Q_rm0 Z p1 w_INFRASTRUCTURE w_PERMANENT w_TRANSIENT w_QUALITY w_DEADLINE w_STALLED w_REJECTED h0 n0 _ T16.heap _
      rw [eq16]
      exact ⟨rfl, N16⟩
set_option maxRecDepth 65536 in
set_option maxHeartbeats 40000000 in
theorem comes_1 {Post : Tables → Env → Array Value → State → Outcome → State → Prop} (hpost : ∀ tb e args s v u, (limb_1_1.after args s (.returned v) u = true ∧ limb_1_2.after args s (.returned v) u = true ∧ True) → FrameEnd s (.returned v) u (Jvm.fieldLocs frame_1_writes args s ++ Jvm.arrayLocs frame_1_arrays args s ++ Jvm.staticLocs frame_1_statics s) 0 0 → Post tb e args s (.returned v) u) :
    ArmFor flags0 classFile x code maxLocals ret World_1 tables_1 room_1 Calls_1 rest_1 Pre_1 Post := by
  intro l hfl _ _ p e ha hc hk s m args below hf hA hF happ hP
  obtain ⟨hcalls, hrest, hpre⟩ := hP
  obtain ⟨-, -, -, hnamed, -, -, -, hat⟩ := (Spec.applies_iff hf).mp happ
  obtain ⟨hg, hn⟩ := and_e (Cond.before_iff.mp (show (Jvm.Cond.and given_1 narrow_1).before args s = true from hpre))
  obtain ⟨hg0, hgr0⟩ := and_e hg
  obtain ⟨w0, rfl⟩ : ∃ w0 : Value, args = #[w0] := by
    have hs : args.size = 1 := by simpa [Cond.value, given_1] using hg0
    obtain ⟨L⟩ := args
    match L, hs with
    | [w0], _ => exact ⟨w0, rfl⟩
  have hw := fun d (hd : d ∈ tables_1) => atoms_spec (ws := Jvm.Cond.code x code maxLocals ret :: tables_1) hat d (List.mem_cons_of_mem _ hd)
  have hfit : Fit s := fun {y c} hc i hi => by
    obtain ⟨ha, rfl⟩ := Array.getElem?_eq_some_iff.mp hc
    have q := List.all_eq_true.mp ((Array.all_eq_true_iff_forall_mem.mp hF) _ (Array.getElem_mem ha)) i (List.mem_range.mpr hi)
    simpa [Array.getElem?_eq_getElem hi] using q
  obtain ⟨i0, ei0⟩ := is_v hgr0
  obtain rfl : w0 = (.int i0) := Option.some.inj ei0
  obtain ⟨hq1a, hq1b⟩ := and_e hn
  obtain ⟨hq2a, hq2b⟩ := and_e hq1b
  obtain ⟨hq3a, hq3b⟩ := and_e hq2b
  obtain ⟨hq4a, hq4b⟩ := and_e hq3b
  obtain ⟨hq5a, hq5b⟩ := and_e hq4b
  obtain ⟨hq6a, hq6b⟩ := and_e hq5b
  obtain ⟨hq7a, hq7b⟩ := and_e hq6b
  obtain ⟨hq8a, hq8b⟩ := and_e hq7b
  obtain ⟨hq9a, hq9b⟩ := and_e hq8b
  obtain ⟨hq10a, hq10b⟩ := and_e hq9b
  obtain ⟨hq11a, hq11b⟩ := and_e hq10b
  obtain ⟨hq12a, hq12b⟩ := and_e hq11b
  obtain ⟨hq13a, hq13b⟩ := and_e hq12b
  obtain ⟨w_INFRASTRUCTURE, ev_w_INFRASTRUCTURE⟩ := exa_v hq1a
  obtain ⟨w_PERMANENT, ev_w_PERMANENT⟩ := exa_v hq2a
  obtain ⟨w_TRANSIENT, ev_w_TRANSIENT⟩ := exa_v hq5a
  obtain ⟨w_QUALITY, ev_w_QUALITY⟩ := exa_v hq7a
  obtain ⟨w_DEADLINE, ev_w_DEADLINE⟩ := exa_v hq9a
  obtain ⟨w_STALLED, ev_w_STALLED⟩ := exa_v hq11a
  obtain ⟨w_REJECTED, ev_w_REJECTED⟩ := exa_v hq13a
  obtain ⟨n, o, h1, h2, h3, _, L, rfl, ⟨rfl, N⟩, hq⟩ := rm0 l s _ hw tables_1 i0 w_INFRASTRUCTURE w_PERMANENT w_TRANSIENT w_QUALITY w_DEADLINE w_STALLED w_REJECTED s.heap s.heap.size (Old.start s) ⟨(Sta.start ev_w_INFRASTRUCTURE (Or.inr ⟨(hw _ (List.mem_of_getElem? (i := 2) rfl)), (hw _ (List.mem_of_getElem? (i := 3) rfl))⟩)), (own_exa hq1a ev_w_INFRASTRUCTURE), (Sta.start ev_w_PERMANENT (Or.inr ⟨(hw _ (List.mem_of_getElem? (i := 2) rfl)), (hw _ (List.mem_of_getElem? (i := 11) rfl))⟩)), (own_exa hq2a ev_w_PERMANENT), (Sta.start ev_w_TRANSIENT (Or.inr ⟨(hw _ (List.mem_of_getElem? (i := 2) rfl)), (hw _ (List.mem_of_getElem? (i := 13) rfl))⟩)), (own_exa hq5a ev_w_TRANSIENT), (Sta.start ev_w_QUALITY (Or.inr ⟨(hw _ (List.mem_of_getElem? (i := 2) rfl)), (hw _ (List.mem_of_getElem? (i := 15) rfl))⟩)), (own_exa hq7a ev_w_QUALITY), (Sta.start ev_w_DEADLINE (Or.inr ⟨(hw _ (List.mem_of_getElem? (i := 2) rfl)), (hw _ (List.mem_of_getElem? (i := 17) rfl))⟩)), (own_exa hq9a ev_w_DEADLINE), (Sta.start ev_w_STALLED (Or.inr ⟨(hw _ (List.mem_of_getElem? (i := 2) rfl)), (hw _ (List.mem_of_getElem? (i := 19) rfl))⟩)), (own_exa hq11a ev_w_STALLED), (Sta.start ev_w_REJECTED (Or.inr ⟨(hw _ (List.mem_of_getElem? (i := 2) rfl)), (hw _ (List.mem_of_getElem? (i := 21) rfl))⟩)), (own_exa hq13a ev_w_REJECTED), (own_fi ev_w_PERMANENT hq3a), (own_fi ev_w_INFRASTRUCTURE hq4a), (own_fi ev_w_TRANSIENT hq6a), (own_fi ev_w_QUALITY hq8a), (own_fi ev_w_DEADLINE hq10a), (own_fi ev_w_STALLED hq12a), (own_fi ev_w_REJECTED hq13b)⟩ p e ha hc hk s m _ below hf ((Spec.applies_iff_loose hf).mp happ).1 ⟨rfl, State.Warmed39.refl s, rfl⟩ trivial
  refine ⟨n, _, h1, h2, h3, hpost _ _ _ _ _ _ ⟨Cond.after_iff.mpr rfl, Cond.after_iff.mpr (eq_i res_at (Term.int_eval (1)) rfl), trivial⟩ ⟨hq.1, hq.2.1, (hq.2.2.sift fun y hy => Or.inr (N y hy)).mono (by decide) (by decide)⟩⟩
theorem main_1_1 : Claimed_1_1 := comes_1 fun _ _ _ _ _ _ h hF => ⟨h.1, hF⟩
theorem main_1_2 : Claimed_1_2 := comes_1 fun _ _ _ _ _ _ h hF => ⟨h.2.1, hF⟩
end Jvm.Pilot.@@N@@
namespace Jvm.Pilot.@@N@@
open Jvm Jvm.ClassFile Sem Op Lib Jvm.Free Jvm.Stand Jvm.Pilot.@@N@@.Jvm.D
/-! MADE BY PROGRAM (witnessworld.py) out of the Statement's table words and the real class files: 13 classes; the members and pool entries that the words name. The judged class is class 1, her method 1. -/
namespace start1
open Jvm.ClassFile
def u (s : String) : CpInfo := .utf8 (stringToUtf16 s)
/-- a pool by its gaps: so many unusable entries, then the entry; so many at the end -/
def gap : Nat → List CpInfo → List CpInfo
  | 0, r => r
  | n + 1, r => .unusable :: gap n r
def poolList (es : List (Nat × CpInfo)) (last : Nat) : List CpInfo := es.foldr (fun e r => gap e.1 (e.2 :: r)) (gap last [])
def pool (es : List (Nat × CpInfo)) (last : Nat) : Array CpInfo := ⟨poolList es last⟩
def fileOf (pool : Array CpInfo) (this : Nat) (attrs : Array Attribute := #[]) (ms : Array MethodInfo := #[]) (fl : Nat := 33) (sup : Nat := 0) (ifs : Array Nat := #[]) (fds : Array FieldInfo := #[]) : ClassFile where
  minorVersion := 0
  majorVersion := 65
  constantPool := pool
  accessFlags := fl
  thisClass := this
  superClass := sup
  interfaces := ifs
  fields := fds
  methods := ms
  attributes := attrs
def plain (name : String) (sup : Option ClassId) : Class where
  name := name
  kind := .ordinary
  loader := none
  accessFlags := 33
  super := sup
  interfaces := #[]
  cf := none
  fields := #[]
  methods := #[]
  instanceTypes := #[]
  staticTypes := #[]
  resolved := #[]
  callSites := []
  init := .initialized
  statics := none
  mirror := none

def pool0 : Array CpInfo := pool [(5, u "<init>"), (0, u "()V"), (1, .class_ 10), (1, u "java/lang/Object")] 113

def k0m0 : Method := { name := "<init>", desc := "()V", sig := { parameters := [], returnType := none }, accessFlags := 1, code := none }
/-- java/lang/Object -/
def k0 : Class := { plain "java/lang/Object" none with
  accessFlags := 33
  interfaces := #[]
  cf := some (fileOf pool0 8 #[] #[{ accessFlags := 1, nameIndex := 5, descriptorIndex := 6, attributes := #[] }] 33 0 #[] #[])
  fields := #[]
  methods := #[k0m0]
  instanceTypes := #[]
  staticTypes := #[]
  resolved := Array.replicate 124 none
  statics := none }

def pool1 : Array CpInfo := pool [(2, .class_ 4), (1, u "java/lang/Object"), (0, u "<init>"), (0, u "()V"), (0, .integer 2147483647), (0, .fieldref 9 10), (0, .class_ 11), (0, .nameAndType 12 13), (0, u "com/example/glacial_workflow/glacialworkflow/core/FailureClass"), (0, u "INFRASTRUCTURE"), (0, u "Lcom/example/glacial_workflow/glacialworkflow/core/FailureClass;"), (0, .fieldref 9 15), (0, .nameAndType 16 13), (0, u "TRANSIENT"), (0, .fieldref 9 18), (0, .nameAndType 19 13), (0, u "QUALITY"), (0, .fieldref 9 21), (0, .nameAndType 22 13), (0, u "PERMANENT"), (0, .fieldref 9 24), (0, .nameAndType 25 13), (0, u "REJECTED"), (0, .fieldref 9 27), (0, .nameAndType 28 13), (0, u "DEADLINE"), (0, .fieldref 9 30), (0, .nameAndType 31 13), (0, u "STALLED"), (0, .methodref 9 33), (0, .nameAndType 34 35), (0, u "isRetried"), (0, u "()Z"), (0, .class_ 37), (0, u "com/example/glacial_workflow/glacialworkflow/core/FailureClassIsRetriedPinLaw"), (2, u "law"), (0, u "(I)Z")] 3

def k1m0 : Method := { name := "<init>", desc := "()V", sig := { parameters := [], returnType := none }, accessFlags := 1, code := none }
def k1c1 : Code := { maxStack := 2, maxLocals := 4, code := code, exceptionTable := #[], attributes := #[] }
def k1m1 : Method := { name := "law", desc := "(I)Z", sig := { parameters := [.int], returnType := some .boolean }, accessFlags := 9, code := some k1c1 }
/-- com/example/glacial_workflow/glacialworkflow/core/FailureClassIsRetriedPinLaw -/
def k1 : Class := { plain "com/example/glacial_workflow/glacialworkflow/core/FailureClassIsRetriedPinLaw" (some 0) with
  accessFlags := 49
  interfaces := #[]
  cf := some (fileOf pool1 36 #[] #[{ accessFlags := 1, nameIndex := 5, descriptorIndex := 6, attributes := #[] }, { accessFlags := 9, nameIndex := 40, descriptorIndex := 41, attributes := #[] }] 49 2 #[] #[])
  fields := #[]
  methods := #[k1m0, k1m1]
  instanceTypes := #[]
  staticTypes := #[]
  resolved := Array.replicate 45 none
  statics := none }

def pool2 : Array CpInfo := pool [(1, .class_ 2), (0, u "java/lang/constant/Constable"), (0, .class_ 4), (0, u "java/lang/Object")] 6

/-- java/lang/constant/Constable -/
def k2 : Class := { plain "java/lang/constant/Constable" (some 0) with
  accessFlags := 1537
  interfaces := #[]
  cf := some (fileOf pool2 1 #[] #[] 1537 3 #[] #[])
  fields := #[]
  methods := #[]
  instanceTypes := #[]
  staticTypes := #[]
  resolved := Array.replicate 11 none
  statics := none }

def pool3 : Array CpInfo := pool [(1, .class_ 2), (0, u "java/lang/Comparable"), (0, .class_ 4), (0, u "java/lang/Object")] 7

/-- java/lang/Comparable -/
def k3 : Class := { plain "java/lang/Comparable" (some 0) with
  accessFlags := 1537
  interfaces := #[]
  cf := some (fileOf pool3 1 #[] #[] 1537 3 #[] #[])
  fields := #[]
  methods := #[]
  instanceTypes := #[]
  staticTypes := #[]
  resolved := Array.replicate 12 none
  statics := none }

def pool4 : Array CpInfo := pool [(1, .class_ 2), (0, u "java/io/Serializable"), (0, .class_ 4), (0, u "java/lang/Object")] 2

/-- java/io/Serializable -/
def k4 : Class := { plain "java/io/Serializable" (some 0) with
  accessFlags := 1537
  interfaces := #[]
  cf := some (fileOf pool4 1 #[] #[] 1537 3 #[] #[])
  fields := #[]
  methods := #[]
  instanceTypes := #[]
  staticTypes := #[]
  resolved := Array.replicate 7 none
  statics := none }

def pool5 : Array CpInfo := pool [(2, .class_ 4), (1, u "java/lang/Enum"), (0, u "name"), (0, u "Ljava/lang/String;"), (2, u "ordinal"), (0, u "I"), (1, .class_ 14), (1, u "java/lang/Object"), (4, u "hash"), (86, .class_ 108), (1, u "java/lang/Enum$EnumDesc"), (2, .class_ 112), (0, u "java/lang/constant/Constable"), (0, .class_ 114), (0, u "java/lang/Comparable"), (0, .class_ 116), (0, u "java/io/Serializable")] 87

/-- java/lang/Enum -/
def k5 : Class := { plain "java/lang/Enum" (some 0) with
  accessFlags := 1057
  interfaces := #[2, 3, 4]
  cf := some (fileOf pool5 2 #[.nestMembers #[106]] #[] 1057 12 #[111, 113, 115] #[{ accessFlags := 18, nameIndex := 5, descriptorIndex := 6, attributes := #[] }, { accessFlags := 18, nameIndex := 9, descriptorIndex := 10, attributes := #[] }, { accessFlags := 2, nameIndex := 19, descriptorIndex := 10, attributes := #[] }])
  fields := #[{ name := "name", type := (.object "java/lang/String"), accessFlags := 18, slot := 0, constantValue := 0 }, { name := "ordinal", type := .int, accessFlags := 18, slot := 1, constantValue := 0 }, { name := "hash", type := .int, accessFlags := 2, slot := 2, constantValue := 0 }]
  methods := #[]
  instanceTypes := #[(.object "java/lang/String"), .int, .int]
  staticTypes := #[]
  resolved := Array.replicate 204 none
  statics := none }

def pool6 : Array CpInfo := pool [(2, .class_ 4), (1, u "com/example/glacial_workflow/glacialworkflow/core/Labelled"), (14, .class_ 20), (0, u "java/lang/Object")] 5

/-- com/example/glacial_workflow/glacialworkflow/core/Labelled -/
def k6 : Class := { plain "com/example/glacial_workflow/glacialworkflow/core/Labelled" (some 0) with
  accessFlags := 1537
  interfaces := #[]
  cf := some (fileOf pool6 2 #[] #[] 1537 19 #[] #[])
  fields := #[]
  methods := #[]
  instanceTypes := #[]
  staticTypes := #[]
  resolved := Array.replicate 26 none
  statics := none }

def pool7 : Array CpInfo := pool [(1, .class_ 2), (0, u "com/example/glacial_workflow/glacialworkflow/core/FailureClass"), (0, .fieldref 1 4), (0, .nameAndType 5 6), (0, u "INFRASTRUCTURE"), (0, u "Lcom/example/glacial_workflow/glacialworkflow/core/FailureClass;"), (0, .fieldref 1 8), (0, .nameAndType 9 6), (0, u "TRANSIENT"), (0, .fieldref 1 11), (0, .nameAndType 12 6), (0, u "QUALITY"), (2, u "PERMANENT"), (2, u "REJECTED"), (2, u "DEADLINE"), (2, u "STALLED"), (2, u "$VALUES"), (0, u "[Lcom/example/glacial_workflow/glacialworkflow/core/FailureClass;"), (6, .class_ 37), (1, u "java/lang/Enum"), (18, .class_ 57), (0, u "com/example/glacial_workflow/glacialworkflow/core/Labelled"), (7, u "isRetried"), (0, u "()Z")] 7

def k7c0 : Code := { maxStack := 2, maxLocals := 1, code := prog_8_method_4_code, exceptionTable := #[], attributes := #[] }
def k7m0 : Method := { name := "isRetried", desc := "()Z", sig := { parameters := [], returnType := some .boolean }, accessFlags := 1, code := some k7c0 }
/-- com/example/glacial_workflow/glacialworkflow/core/FailureClass -/
def k7 : Class := { plain "com/example/glacial_workflow/glacialworkflow/core/FailureClass" (some 5) with
  accessFlags := 16433
  interfaces := #[6]
  cf := some (fileOf pool7 1 #[] #[{ accessFlags := 1, nameIndex := 65, descriptorIndex := 66, attributes := #[] }] 16433 35 #[56] #[{ accessFlags := 16409, nameIndex := 5, descriptorIndex := 6, attributes := #[] }, { accessFlags := 16409, nameIndex := 9, descriptorIndex := 6, attributes := #[] }, { accessFlags := 16409, nameIndex := 12, descriptorIndex := 6, attributes := #[] }, { accessFlags := 16409, nameIndex := 15, descriptorIndex := 6, attributes := #[] }, { accessFlags := 16409, nameIndex := 18, descriptorIndex := 6, attributes := #[] }, { accessFlags := 16409, nameIndex := 21, descriptorIndex := 6, attributes := #[] }, { accessFlags := 16409, nameIndex := 24, descriptorIndex := 6, attributes := #[] }, { accessFlags := 4122, nameIndex := 27, descriptorIndex := 28, attributes := #[] }])
  fields := #[{ name := "INFRASTRUCTURE", type := (.object "com/example/glacial_workflow/glacialworkflow/core/FailureClass"), accessFlags := 16409, slot := 0, constantValue := 0 }, { name := "TRANSIENT", type := (.object "com/example/glacial_workflow/glacialworkflow/core/FailureClass"), accessFlags := 16409, slot := 1, constantValue := 0 }, { name := "QUALITY", type := (.object "com/example/glacial_workflow/glacialworkflow/core/FailureClass"), accessFlags := 16409, slot := 2, constantValue := 0 }, { name := "PERMANENT", type := (.object "com/example/glacial_workflow/glacialworkflow/core/FailureClass"), accessFlags := 16409, slot := 3, constantValue := 0 }, { name := "REJECTED", type := (.object "com/example/glacial_workflow/glacialworkflow/core/FailureClass"), accessFlags := 16409, slot := 4, constantValue := 0 }, { name := "DEADLINE", type := (.object "com/example/glacial_workflow/glacialworkflow/core/FailureClass"), accessFlags := 16409, slot := 5, constantValue := 0 }, { name := "STALLED", type := (.object "com/example/glacial_workflow/glacialworkflow/core/FailureClass"), accessFlags := 16409, slot := 6, constantValue := 0 }, { name := "$VALUES", type := (.array (.object "com/example/glacial_workflow/glacialworkflow/core/FailureClass")), accessFlags := 4122, slot := 7, constantValue := 0 }]
  methods := #[k7m0]
  instanceTypes := #[(.object "java/lang/String"), .int, .int]
  staticTypes := #[(.object "com/example/glacial_workflow/glacialworkflow/core/FailureClass"), (.object "com/example/glacial_workflow/glacialworkflow/core/FailureClass"), (.object "com/example/glacial_workflow/glacialworkflow/core/FailureClass"), (.object "com/example/glacial_workflow/glacialworkflow/core/FailureClass"), (.object "com/example/glacial_workflow/glacialworkflow/core/FailureClass"), (.object "com/example/glacial_workflow/glacialworkflow/core/FailureClass"), (.object "com/example/glacial_workflow/glacialworkflow/core/FailureClass"), (.array (.object "com/example/glacial_workflow/glacialworkflow/core/FailureClass"))]
  resolved := Array.replicate 74 none
  statics := some 0 }

def pool8 : Array CpInfo := pool [(1, u "java/lang/Cloneable"), (0, .class_ 1), (0, u "java/lang/Object"), (0, .class_ 3)] 3

/-- java/lang/Cloneable -/
def k8 : Class := { plain "java/lang/Cloneable" (some 0) with
  accessFlags := 1537
  interfaces := #[]
  cf := some (fileOf pool8 2 #[] #[] 1537 4 #[] #[])
  fields := #[]
  methods := #[]
  instanceTypes := #[]
  staticTypes := #[]
  resolved := Array.replicate 8 none
  statics := none }

/-- the primitive byte -/
def k9 : Class := { plain "byte" none with kind := .primitive 'B', accessFlags := 0x411 }
/-- [B -/
def k10 : Class := { plain "[B" (some 0) with kind := .array 9 .byte, interfaces := #[8, 4], accessFlags := 1041 }

/-- the primitive int -/
def k11 : Class := { plain "int" none with kind := .primitive 'I', accessFlags := 0x411 }
/-- [I -/
def k12 : Class := { plain "[I" (some 0) with kind := .array 11 .int, interfaces := #[8, 4], accessFlags := 1041 }

def heap : Heap := #[{ cls := 7, slots := #[.ref 1, .ref 3, .ref 4, .ref 2, .ref 7, .ref 5, .ref 6, .null], vm := .statics 7 },
  { cls := 7, slots := #[.null, .int 0, .int 0], vm := .none },
  { cls := 7, slots := #[.null, .int 3, .int 0], vm := .none },
  { cls := 7, slots := #[.null, .int 1, .int 0], vm := .none },
  { cls := 7, slots := #[.null, .int 2, .int 0], vm := .none },
  { cls := 7, slots := #[.null, .int 5, .int 0], vm := .none },
  { cls := 7, slots := #[.null, .int 6, .int 0], vm := .none },
  { cls := 7, slots := #[.null, .int 4, .int 0], vm := .none }]
def classes : Array Class := #[k0, k1, k2, k3, k4, k5, k6, k7, k8, k9, k10, k11, k12]
def interned : List (Array UInt16 × Addr) := []
def slotsUsed : Nat := 29
def theMethod : MethodId := ⟨1, 1⟩
def args0 : Array Value := #[.int 5]
def aboutOver (below : List Frame) : State where
  vm := { classes := classes, interned := interned.toArray }
  heap := heap
  slotsUsed := slotsUsed
  threads := #[{ frames := .invoking theMethod args0 :: below }]
def below0 : List Frame := [.native { method := ⟨0, 0⟩, args := #[] }]
def about1 : State := aboutOver below0
def p0 : Program := .bare "" "" ""
def e0 : Env := launch0.env 0 0 0
theorem w_frames : about1.frames = Frame.invoking theMethod args0 :: below0 := rfl
set_option maxRecDepth 65536 in
theorem w_args : argsFit about1.vm theMethod args0 = true := by decide +kernel
set_option maxRecDepth 65536 in
theorem w_heap : heapFits about1 = true := by decide +kernel
set_option maxRecDepth 65536 in
theorem w_runnable : about1.curStatus? = some .runnable := by decide +kernel
set_option maxRecDepth 65536 in
theorem w_alone : about1.alone = true := by decide +kernel
set_option maxRecDepth 65536 in
theorem w_named : about1.methodNamed? x = some theMethod := by decide +kernel
set_option maxRecDepth 65536 in
theorem w_hears : about1.hears theMethod below0 = true := by decide +kernel
set_option maxRecDepth 65536 in
theorem w_ripe : about1.ripe theMethod args0 below0 = true := by decide +kernel
theorem w_running : about1.status = .running := rfl
set_option maxRecDepth 65536 in
theorem w_room : about1.hasRoom e0.platform room_1 = true :=
  launch0.hasRoom_least _ room_1 (by decide +kernel) (by decide +kernel) (by decide +kernel) (by decide +kernel) (by decide +kernel) (by decide +kernel)
theorem allAtoms_all (ts : List Jvm.Cond) (a : Array Jvm.Value) (st : Jvm.State) : (allAtoms ts).before a st = ts.all (fun c => c.before a st) := by
  induction ts with
  | nil => rfl
  | cons c t ih =>
    show (Jvm.Cond.and c (allAtoms t)).before a st = _
    rw [Jvm.Cond.before_and, ih, List.all_cons]
def words1 : List Jvm.Cond := Jvm.Cond.code x code maxLocals ret :: tables_1
/-- a 'code' word, met by the world's own term for the bytes: nothing is compared byte by byte -/
theorem code_word {y : MethodName} {bytes : ByteArray} {mx : Nat} {rt : Option FieldType} {a : Array Value} {s : State} {m : MethodId} {meth : Method} {c : Code} (h1 : s.methodNamed? y = some m) (h2 : s.vm.method? m = some meth) (h3 : meth.code = some c) (h4 : c.code = bytes)
    (h5 : (c.maxLocals == mx && c.exceptionTable.isEmpty && decide (c.maxStack ≤ mostOperands) && decide (meth.sig.returnType = rt) && !meth.locks && decide (parseMethodDescriptor y.desc = some meth.sig)) = true) : (Jvm.Cond.code y bytes mx rt).before a s = true := by
  simp only [Bool.and_eq_true, beq_iff_eq, Bool.not_eq_true', decide_eq_true_eq] at h5
  obtain ⟨⟨⟨⟨⟨g1, g2⟩, g3⟩, g4⟩, g5⟩, g6⟩ := h5
  simp [Cond.before, Cond.holds, Cond.value, h1, h2, h3, h4, g1, g2, g3, g4, g5, g6]
def isCode : Jvm.Cond → Bool
  | .code _ _ _ _ => true
  | _ => false
theorem all_split {L : List Jvm.Cond} {P : Jvm.Cond → Bool} (h1 : L.all (fun c => isCode c || P c) = true) (h2 : ∀ c ∈ L.filter isCode, P c = true) : L.all P = true := by
  refine List.all_eq_true.mpr fun c hc => ?_
  have h := List.all_eq_true.mp h1 c hc
  rcases Bool.eq_false_or_eq_true (isCode c) with hi | hi
  · exact h2 c (List.mem_filter.mpr ⟨hc, hi⟩)
  · simpa [hi] using h
set_option maxRecDepth 65536 in
theorem w_c0 : (Jvm.Cond.code x code maxLocals ret).before args0 about1 = true := code_word (m := ⟨1, 1⟩) (meth := k1m1) (c := k1c1) (by decide +kernel) rfl rfl rfl (by decide +kernel)
set_option maxRecDepth 65536 in
theorem w_c1 : (Jvm.Cond.code ({ cls := "com/example/glacial_workflow/glacialworkflow/core/FailureClass", name := "isRetried", desc := "()Z" } : Jvm.MethodName) prog_8_method_4_code (1 : Nat) (Option.some Jvm.ClassFile.FieldType.boolean)).before args0 about1 = true := code_word (m := ⟨7, 0⟩) (meth := k7m0) (c := k7c0) (by decide +kernel) rfl rfl rfl (by decide +kernel)
def codes1 : List Jvm.Cond := [Jvm.Cond.code x code maxLocals ret, Jvm.Cond.code ({ cls := "com/example/glacial_workflow/glacialworkflow/core/FailureClass", name := "isRetried", desc := "()Z" } : Jvm.MethodName) prog_8_method_4_code (1 : Nat) (Option.some Jvm.ClassFile.FieldType.boolean)]
set_option maxRecDepth 65536 in
theorem codes_eq : words1.filter isCode = codes1 := rfl
theorem w_codes : ∀ c ∈ words1.filter isCode, c.before args0 about1 = true := by
  rw [codes_eq]
  intro c hc
  simp only [codes1, List.mem_cons, List.not_mem_nil, or_false] at hc
  rcases hc with rfl | rfl
  · exact w_c0
  · exact w_c1
set_option maxRecDepth 65536 in
theorem w_t1 : (words1.take 24).all (fun c => isCode c || c.before args0 about1) = true := by decide +kernel
set_option maxRecDepth 65536 in
theorem w_t2 : (words1.drop 24).all (fun c => isCode c || c.before args0 about1) = true := by decide +kernel
theorem w_tables : (allAtoms (Jvm.Cond.code x code maxLocals ret :: tables_1)).before args0 about1 = true := by
  rw [allAtoms_all]
  show words1.all (fun c => c.before args0 about1) = true
  refine all_split ?_ w_codes
  rw [← List.take_append_drop 24 words1, List.all_append, w_t1, w_t2]
  rfl
set_option maxRecDepth 65536 in
theorem w_case : (Jvm.Cond.and given_1 narrow_1).before args0 about1 = true := by decide +kernel
theorem w_applies : (headSpec (Jvm.Cond.code x code maxLocals ret :: tables_1) room_1).applies x e0.platform about1 = true :=
  (Spec.applies_iff w_frames).mpr ⟨w_running, w_runnable, w_alone, w_named, w_hears, w_ripe, w_room, w_tables⟩
theorem atStart : AtStart classFile x code maxLocals ret World_1 tables_1 room_1 Calls_1 rest_1 Pre_1 launch0 p0 e0 about1 theMethod args0 below0 :=
  ⟨lists_1, trivial, launch0.admits_env _ _ _, launch0.least_env, fairChoices_fair.cas, fairChoices_fair.clock, w_frames, w_args, w_heap, w_applies, trivial, trivial, w_case⟩
end start1
theorem witness_1 : WitnessClaimed_1 := ⟨start1.p0, start1.e0, start1.about1, start1.theMethod, start1.args0, start1.below0, start1.atStart⟩
end Jvm.Pilot.@@N@@
